import JvmDerived
import JvmDerived.Pilot.@@N@@Statement
import JvmDerived.Pilot.@@N@@Code
set_option linter.unusedVariables false
set_option linter.unusedSimpArgs false
namespace Jvm.Pilot.@@N@@
open Jvm Jvm.ClassFile Sem Op Lib Jvm.Free Jvm.Stand Jvm.LawKit Jvm.RoadKit Bundle Jvm.Pilot.@@N@@.Jvm.D
section Own
variable {p : Program} {l : Launch} {e : Env} {R : Room} {s : State} {m : MethodId} {args : Array Value} {below : List Frame} {meth : Method} {c : Code} {T : State} {locs : List Loc} {cells slots : Nat} {Z : State} {h h' : Heap} {a b : Addr} {ty : FieldType} {vs : List Value} {v : Value} {sl : Nat}
/-- from here the run comes to an end that Q allows -/
def own_fin (p : Program) (e : Env) (below : List Frame) (s : State) (cl sl : Nat) (Q : Option Value → Heap → List Loc → Prop) (S : State) : Prop :=
  ∃ s₂ o, Steps p.tables e below S s₂ ∧ s₂.status = .running ∧ Ended s₂ below o ∧ ∃ v L, o = .returned v ∧ Q v s₂.heap L ∧ FrameEnd s o s₂ L cl sl
theorem own_by {cl sl : Nat} {Q : Option Value → Heap → List Loc → Prop} {S S' : State} (st : ∀ target, Steps p.tables e below S' target → Steps p.tables e below S target) (k : own_fin p e below s cl sl Q S') : own_fin p e below s cl sl Q S := by
  obtain ⟨s2, o, h1, h2⟩ := k
  exact ⟨s2, o, st _ h1, h2⟩
theorem own_tr {cl sl : Nat} {Q : Option Value → Heap → List Loc → Prop} {S S' : State} (st : Steps p.tables e below S S') (k : own_fin p e below s cl sl Q S') : own_fin p e below s cl sl Q S := by
  obtain ⟨s2, o, h1, h2⟩ := k
  exact ⟨s2, o, st.trans h1, h2⟩
theorem own_start {cl sl : Nat} {Q : Option Value → Heap → List Loc → Prop} {s₁ : State} {mx : Nat} {g : JFrame} (q : entryFrame m args mx = g) (k : own_fin p e below s cl sl Q (s₁.setTop g)) :
    ∃ s₂ o, Steps p.tables e below (s₁.setTop (entryFrame m args mx)) s₂ ∧ s₂.status = .running ∧ Ended s₂ below o ∧ ∃ v L, o = .returned v ∧ Q v s₂.heap L ∧ FrameEnd s o s₂ L cl sl := by
  rw [q]; exact k
theorem own_ret (X : Stand p l e R s m args below meth c T locs cells slots) (hx : p.tables.exec = Jvm.exec) {cl sl : Nat} {Q : Option Value → Heap → List Loc → Prop} {pc : Nat} {Ls : Array Slot} {w : Value} {t : FieldType} {i : Instr} {rest : List Value} (hret : meth.sig.returnType = some t) (hn : narrow t w = w)
    (hi : (i = .ireturn ∧ (t = .int ∨ t = .boolean ∨ t = .byte ∨ t = .char ∨ t = .short) ∧ ∃ z, w = .int z) ∨ (i = .lreturn ∧ t = .long ∧ ∃ z, w = .long z) ∨ (i = .dreturn ∧ t = .double ∧ ∃ z, w = .double z) ∨ (i = .freturn ∧ t = .float ∧ ∃ z, w = .float z) ∨ (i = .areturn ∧ t.isReference = true ∧ w.isRef = true))
    (hd : decode c.code pc = .ok (i, 1)) (hlk : meth.locks = false) (hc : cells ≤ cl) (hs : slots ≤ sl) (q : Q (some w) T.heap locs) : own_fin p e below s cl sl Q (T.setTop (mkF m pc Ls (w :: rest))) := by
  obtain ⟨fs, hr, hrun, hended, hW, hsame⟩ := X.leave (v := some w) (fun h => by rw [hret] at h; cases h)
  exact ⟨_, _, retOut X hx hret hn hi hd hr, hrun, hended, _, _, rfl, q, ⟨_, rfl⟩, hW, hsame.mono hc hs⟩
theorem own_ret0 (X : Stand p l e R s m args below meth c T locs cells slots) (hx : p.tables.exec = Jvm.exec) {cl sl : Nat} {Q : Option Value → Heap → List Loc → Prop} {pc : Nat} {Ls : Array Slot} (hret : meth.sig.returnType = none)
    (hd : decode c.code pc = .ok (.return_, 1)) (hlk : meth.locks = false) (hc : cells ≤ cl) (hs : slots ≤ sl) (q : Q none T.heap locs) : own_fin p e below s cl sl Q (T.setTop (mkF m pc Ls [])) := by
  obtain ⟨fs, hr, hrun, hended, hW, hsame⟩ := X.leave (v := none) (fun _ => rfl)
  exact ⟨_, _, X.returnOut hx hret hd hr, hrun, hended, _, _, rfl, q, ⟨_, rfl⟩, hW, hsame.mono hc hs⟩
/-- the array at a holds just these values -/
def OwnA (Z : State) (h : Heap) (a : Addr) (ty : FieldType) (vs : List Value) : Prop := ∃ c : Cell, Arr Z h a c ty ∧ c.slots.toList = vs
theorem OwnA.lt (F : OwnA Z h a ty vs) : a < h.size := by obtain ⟨c, A, -⟩ := F; exact A.lt
theorem OwnA.ext (F : OwnA Z h a ty vs) (E : Ext h h') : OwnA Z h' a ty vs := by obtain ⟨c, A, r⟩ := F; exact ⟨c, A.ext E, r⟩
theorem OwnA.other (F : OwnA Z h a ty vs) (W : Wr h h' b sl v) (q : a ≠ b) : OwnA Z h' a ty vs := by obtain ⟨c, A, r⟩ := F; exact ⟨c, A.other W q, r⟩
theorem OwnA.keep {ws : List Addr} (F : OwnA Z h a ty vs) (K : Keep h h' ws) (q : a ∉ ws) : OwnA Z h' a ty vs := by obtain ⟨c, A, r⟩ := F; exact ⟨c, ⟨K.2.1 a c A.1 q, A.2⟩, r⟩
theorem OwnA.set (F : OwnA Z h a ty vs) (W : Wr h h' a sl v) : OwnA Z h' a ty (vs.set sl v) := by
  obtain ⟨c, A, rfl⟩ := F
  exact ⟨_, A.same W, by simp [Cell.setSlot]⟩
theorem own_new {k : ClassId} {z : Int32} (A : Arr Z h a (newA k ty z) ty) (q : List.replicate z.toNatClampNeg (defaultValue ty) = vs) : OwnA Z h a ty vs := ⟨_, A, by rw [← q]; simp [newA]⟩
theorem own_inb {cl : Cell} {j : Int32} (hj : ¬ j < 0) (hv : cl.slots.toList[j.toNatClampNeg]? = some v) : ¬ (j < 0 ∨ cl.slots.size ≤ j.toNatClampNeg) ∧ cl.slots[j.toNatClampNeg]? = some v := by
  rw [Array.getElem?_toList] at hv
  exact ⟨fun q => q.elim hj fun q => absurd (Array.getElem?_eq_some_iff.mp hv).1 (Nat.not_lt.mpr q), hv⟩
theorem own_len (X : Stand p l e R s m args below meth c T locs cells slots) (hx : p.tables.exec = Jvm.exec) (hZ : Z.Warmed39 s.vm) (eT : T.heap = h) (F : OwnA Z h a ty vs) {z : Int32} (hz : Int32.ofNat vs.length = z) {g : JFrame} (hg : g.method = m) {rest : List Value} (hs : g.stack = .ref a :: rest)
    (hd : decode c.code g.pc = .ok (.arraylength, 1)) (target : State) (k : Steps p.tables e below (T.setTop { g with pc := g.pc + 1, stack := .int z :: rest }) target) : Steps p.tables e below (T.setTop g) target := by
  obtain ⟨cl, A, rfl⟩ := F
  refine X.arraylength hx (cell := cl) (by rw [eT]; exact A.1) (State.isArrayOf_alike hZ.alike A.2.1) hg hs hd _ ?_
  rw [Array.length_toList] at hz
  rw [show cl.slots.size.toInt32 = z from hz]; exact k
theorem own_iaload (X : Stand p l e R s m args below meth c T locs cells slots) (hx : p.tables.exec = Jvm.exec) (hZ : Z.Warmed39 s.vm) (eT : T.heap = h) (F : OwnA Z h a .int vs) {j : Int32} (hj : ¬ j < 0) (hv : vs[j.toNatClampNeg]? = some v) {g : JFrame} (hg : g.method = m) {rest : List Value} (hs : g.stack = .int j :: .ref a :: rest)
    (hd : decode c.code g.pc = .ok (.iaload, 1)) (target : State) (k : Steps p.tables e below (T.setTop { g with pc := g.pc + 1, stack := v :: rest }) target) : Steps p.tables e below (T.setTop g) target := by
  obtain ⟨cl, A, rfl⟩ := F
  exact X.iaload hx (by rw [eT]; exact A.1) (State.isArrayOf_alike hZ.alike A.2.1) A.2.2 (own_inb hj hv).1 (own_inb hj hv).2 hg hs hd _ k
theorem own_laload (X : Stand p l e R s m args below meth c T locs cells slots) (hx : p.tables.exec = Jvm.exec) (hZ : Z.Warmed39 s.vm) (eT : T.heap = h) (F : OwnA Z h a .long vs) {j : Int32} (hj : ¬ j < 0) (hv : vs[j.toNatClampNeg]? = some v) {g : JFrame} (hg : g.method = m) {rest : List Value} (hs : g.stack = .int j :: .ref a :: rest)
    (hd : decode c.code g.pc = .ok (.laload, 1)) (target : State) (k : Steps p.tables e below (T.setTop { g with pc := g.pc + 1, stack := v :: rest }) target) : Steps p.tables e below (T.setTop g) target := by
  obtain ⟨cl, A, rfl⟩ := F
  exact X.laload hx (by rw [eT]; exact A.1) (State.isArrayOf_alike hZ.alike A.2.1) A.2.2 (own_inb hj hv).1 (own_inb hj hv).2 hg hs hd _ k
theorem own_caload (X : Stand p l e R s m args below meth c T locs cells slots) (hx : p.tables.exec = Jvm.exec) (hZ : Z.Warmed39 s.vm) (eT : T.heap = h) (F : OwnA Z h a .char vs) {j : Int32} (hj : ¬ j < 0) (hv : vs[j.toNatClampNeg]? = some v) {g : JFrame} (hg : g.method = m) {rest : List Value} (hs : g.stack = .int j :: .ref a :: rest)
    (hd : decode c.code g.pc = .ok (.caload, 1)) (target : State) (k : Steps p.tables e below (T.setTop { g with pc := g.pc + 1, stack := v :: rest }) target) : Steps p.tables e below (T.setTop g) target := by
  obtain ⟨cl, A, rfl⟩ := F
  exact X.caload hx (by rw [eT]; exact A.1) (State.isArrayOf_alike hZ.alike A.2.1) A.2.2 (own_inb hj hv).1 (own_inb hj hv).2 hg hs hd _ k
theorem own_baload (X : Stand p l e R s m args below meth c T locs cells slots) (hx : p.tables.exec = Jvm.exec) (hZ : Z.Warmed39 s.vm) (eT : T.heap = h) (F : OwnA Z h a .byte vs) {j : Int32} (hj : ¬ j < 0) (hv : vs[j.toNatClampNeg]? = some v) {g : JFrame} (hg : g.method = m) {rest : List Value} (hs : g.stack = .int j :: .ref a :: rest)
    (hd : decode c.code g.pc = .ok (.baload, 1)) (target : State) (k : Steps p.tables e below (T.setTop { g with pc := g.pc + 1, stack := v :: rest }) target) : Steps p.tables e below (T.setTop g) target := by
  obtain ⟨cl, A, rfl⟩ := F
  exact X.baloadBytes hx (by rw [eT]; exact A.1) (State.isArrayOf_alike hZ.alike A.2.1) A.2.2 (own_inb hj hv).1 (own_inb hj hv).2 hg hs hd _ k
theorem own_baloadZ (X : Stand p l e R s m args below meth c T locs cells slots) (hx : p.tables.exec = Jvm.exec) (hZ : Z.Warmed39 s.vm) (eT : T.heap = h) (F : OwnA Z h a .boolean vs) {j : Int32} (hj : ¬ j < 0) (hv : vs[j.toNatClampNeg]? = some v) {g : JFrame} (hg : g.method = m) {rest : List Value} (hs : g.stack = .int j :: .ref a :: rest)
    (hd : decode c.code g.pc = .ok (.baload, 1)) (target : State) (k : Steps p.tables e below (T.setTop { g with pc := g.pc + 1, stack := v :: rest }) target) : Steps p.tables e below (T.setTop g) target := by
  obtain ⟨cl, A, rfl⟩ := F
  exact X.baloadBooleans hx (by rw [eT]; exact A.1) (State.isArrayOf_alike hZ.alike A.2.1) A.2.2 (own_inb hj hv).1 (own_inb hj hv).2 hg hs hd _ k
theorem own_aaload (X : Stand p l e R s m args below meth c T locs cells slots) (hx : p.tables.exec = Jvm.exec) (hZ : Z.Warmed39 s.vm) (eT : T.heap = h) (F : OwnA Z h a ty vs) (hty : ty.isReference = true) {j : Int32} (hj : ¬ j < 0) (hv : vs[j.toNatClampNeg]? = some v) {g : JFrame} (hg : g.method = m) {rest : List Value} (hs : g.stack = .int j :: .ref a :: rest)
    (hd : decode c.code g.pc = .ok (.aaload, 1)) (target : State) (k : Steps p.tables e below (T.setTop { g with pc := g.pc + 1, stack := v :: rest }) target) : Steps p.tables e below (T.setTop g) target := by
  obtain ⟨cl, A, rfl⟩ := F
  exact X.aaload hx (by rw [eT]; exact A.1) (State.isArrayOf_alike hZ.alike A.2.1) hty A.2.2 (own_inb hj hv).1 (own_inb hj hv).2 hg hs hd _ k
theorem own_inl {cl : Cell} {j : Int32} (hj : ¬ j < 0) (hl : j.toNatClampNeg < cl.slots.toList.length) : ¬ (j < 0 ∨ cl.slots.size ≤ j.toNatClampNeg) := by
  rw [Array.length_toList] at hl
  exact fun q => q.elim hj fun q => absurd hl (Nat.not_lt.mpr q)
theorem own_stI (X : Stand p l e R s m args below meth c T locs cells slots) (hx : p.tables.exec = Jvm.exec) (hZ : Z.Warmed39 s.vm) (eT : T.heap = h) (F : OwnA Z h a .int vs) {j x : Int32} (hj : ¬ j < 0) (hl : j.toNatClampNeg < vs.length) {g : JFrame} (hg : g.method = m) {rest : List Value} (hs : g.stack = .int x :: .int j :: .ref a :: rest) (hd : decode c.code g.pc = .ok (.iastore, 1)) :
    ∃ T' h', Stand p l e R s m args below meth c T' (locs ++ [⟨a, j.toNatClampNeg⟩]) cells slots ∧ T'.heap = h' ∧ Wr h h' a j.toNatClampNeg (.int x) ∧ ∀ target, Steps p.tables e below (T'.setTop { g with pc := g.pc + 1, stack := rest }) target → Steps p.tables e below (T.setTop g) target := by
  obtain ⟨cl, A, rfl⟩ := F
  exact stI X hx hZ eT A (own_inl hj hl) hg hs hd
theorem own_stJ (X : Stand p l e R s m args below meth c T locs cells slots) (hx : p.tables.exec = Jvm.exec) (hZ : Z.Warmed39 s.vm) (eT : T.heap = h) (F : OwnA Z h a .long vs) {j : Int32} {x : Int64} (hj : ¬ j < 0) (hl : j.toNatClampNeg < vs.length) {g : JFrame} (hg : g.method = m) {rest : List Value} (hs : g.stack = .long x :: .int j :: .ref a :: rest) (hd : decode c.code g.pc = .ok (.lastore, 1)) :
    ∃ T' h', Stand p l e R s m args below meth c T' (locs ++ [⟨a, j.toNatClampNeg⟩]) cells slots ∧ T'.heap = h' ∧ Wr h h' a j.toNatClampNeg (.long x) ∧ ∀ target, Steps p.tables e below (T'.setTop { g with pc := g.pc + 1, stack := rest }) target → Steps p.tables e below (T.setTop g) target := by
  obtain ⟨cl, A, rfl⟩ := F
  exact stJ X hx hZ eT A (own_inl hj hl) hg hs hd
theorem own_stB (X : Stand p l e R s m args below meth c T locs cells slots) (hx : p.tables.exec = Jvm.exec) (hZ : Z.Warmed39 s.vm) (eT : T.heap = h) (F : OwnA Z h a .byte vs) {j x : Int32} (hj : ¬ j < 0) (hl : j.toNatClampNeg < vs.length) {g : JFrame} (hg : g.method = m) {rest : List Value} (hs : g.stack = .int x :: .int j :: .ref a :: rest) (hd : decode c.code g.pc = .ok (.bastore, 1)) :
    ∃ T' h', Stand p l e R s m args below meth c T' (locs ++ [⟨a, j.toNatClampNeg⟩]) cells slots ∧ T'.heap = h' ∧ Wr h h' a j.toNatClampNeg (.int x.toInt8.toInt32) ∧ ∀ target, Steps p.tables e below (T'.setTop { g with pc := g.pc + 1, stack := rest }) target → Steps p.tables e below (T.setTop g) target := by
  obtain ⟨cl, A, rfl⟩ := F
  exact stB X hx hZ eT A (own_inl hj hl) hg hs hd
theorem own_stC (X : Stand p l e R s m args below meth c T locs cells slots) (hx : p.tables.exec = Jvm.exec) (hZ : Z.Warmed39 s.vm) (eT : T.heap = h) (F : OwnA Z h a .char vs) {j x : Int32} (hj : ¬ j < 0) (hl : j.toNatClampNeg < vs.length) {g : JFrame} (hg : g.method = m) {rest : List Value} (hs : g.stack = .int x :: .int j :: .ref a :: rest) (hd : decode c.code g.pc = .ok (.castore, 1)) :
    ∃ T' h', Stand p l e R s m args below meth c T' (locs ++ [⟨a, j.toNatClampNeg⟩]) cells slots ∧ T'.heap = h' ∧ Wr h h' a j.toNatClampNeg (.int x.toUInt32.toUInt16.toUInt32.toInt32) ∧ ∀ target, Steps p.tables e below (T'.setTop { g with pc := g.pc + 1, stack := rest }) target → Steps p.tables e below (T.setTop g) target := by
  obtain ⟨cl, A, rfl⟩ := F
  exact stC X hx hZ eT A (own_inl hj hl) hg hs hd
theorem own_dupx2 {target : State} (X : Stand p l e R s m args below meth c T locs cells slots) (hx : p.tables.exec = Jvm.exec) {g : JFrame} (hg : g.method = m) {x y z : Value} {rest : List Value} (hd : decode c.code g.pc = .ok (.dup_x2, 1)) (hs : g.stack = x :: y :: z :: rest) (hc : x.category = 1) (hc' : y.category = 1) (hc'' : z.category = 1)
    (k : Steps p.tables e below (T.setTop { g with pc := g.pc + 1, stack := x :: y :: z :: x :: rest }) target) : Steps p.tables e below (T.setTop g) target := by
  subst hg
  jvm_step X.here [X.here.top, hx, hd, hs, hc, hc', hc'']
  exact k
theorem own_dup2 {target : State} (X : Stand p l e R s m args below meth c T locs cells slots) (hx : p.tables.exec = Jvm.exec) {g : JFrame} (hg : g.method = m) {x y : Value} {rest : List Value} (hd : decode c.code g.pc = .ok (.dup2, 1)) (hs : g.stack = x :: y :: rest) (hc : x.category = 1) (hc' : y.category = 1)
    (k : Steps p.tables e below (T.setTop { g with pc := g.pc + 1, stack := x :: y :: x :: y :: rest }) target) : Steps p.tables e below (T.setTop g) target := by
  subst hg
  jvm_step X.here [X.here.top, hx, hd, hs, hc, hc']
  exact k
/-- the array (of int[]) at a, of the class k, holds just these values -/
def OwnR (Z : State) (h : Heap) (a : Addr) (k : ClassId) (vs : List Value) : Prop := ∃ c : Cell, Arr Z h a c (.array .int) ∧ c.slots.toList = vs ∧ c.cls = k
theorem OwnR.toA {k : ClassId} (F : OwnR Z h a k vs) : OwnA Z h a (.array .int) vs := by obtain ⟨c, A, q, -⟩ := F; exact ⟨c, A, q⟩
theorem OwnR.lt {k : ClassId} (F : OwnR Z h a k vs) : a < h.size := F.toA.lt
theorem OwnR.ext {k : ClassId} (F : OwnR Z h a k vs) (E : Ext h h') : OwnR Z h' a k vs := by obtain ⟨c, A, r⟩ := F; exact ⟨c, A.ext E, r⟩
theorem OwnR.other {k : ClassId} (F : OwnR Z h a k vs) (W : Wr h h' b sl v) (q : a ≠ b) : OwnR Z h' a k vs := by obtain ⟨c, A, r⟩ := F; exact ⟨c, A.other W q, r⟩
theorem OwnR.keep {k : ClassId} {ws : List Addr} (F : OwnR Z h a k vs) (K : Keep h h' ws) (q : a ∉ ws) : OwnR Z h' a k vs := by obtain ⟨c, A, r⟩ := F; exact ⟨c, ⟨K.2.1 a c A.1 q, A.2⟩, r⟩
theorem OwnR.set {k : ClassId} (F : OwnR Z h a k vs) (W : Wr h h' a sl v) : OwnR Z h' a k (vs.set sl v) := by
  obtain ⟨c, A, rfl, r⟩ := F
  exact ⟨_, A.same W, by simp [Cell.setSlot], r⟩
theorem own_stR (X : Stand p l e R s m args below meth c T locs cells slots) (hx : p.tables.exec = Jvm.exec) (hZ : Z.Warmed39 s.vm) (eT : T.heap = h) {k : ClassId} (F : OwnR Z h a k vs) {C : String} (O : OvrA Z k .int C) {y : Addr} (I : Ins Z h y C true) {j : Int32} (hj : ¬ j < 0) (hl : j.toNatClampNeg < vs.length) {g : JFrame} (hg : g.method = m) {rest : List Value} (hs : g.stack = .ref y :: .int j :: .ref a :: rest) (hd : decode c.code g.pc = .ok (.aastore, 1)) :
    ∃ T' h', Stand p l e R s m args below meth c T' (locs ++ [⟨a, j.toNatClampNeg⟩]) cells slots ∧ T'.heap = h' ∧ Wr h h' a j.toNatClampNeg (.ref y) ∧ ∀ target, Steps p.tables e below (T'.setTop { g with pc := g.pc + 1, stack := rest }) target → Steps p.tables e below (T.setTop g) target := by
  obtain ⟨cl, A, rfl, q⟩ := F
  exact stR X hx hZ eT A (own_inl hj hl) rfl (Sto.ofVA A q O I) hg hs hd
end Own
theorem own_lt {i n : Nat} (h : i < n) (hn : n < 2147483648) : Int32.ofNat i < Int32.ofNat n := by
  rw [Int32.lt_iff_toInt_lt, Int32.toInt_ofNat_of_lt (by omega), Int32.toInt_ofNat_of_lt (by omega)]
  omega
theorem own_nlt {i n : Nat} (h : ¬ i < n) (hi : i < 2147483648) : ¬ Int32.ofNat i < Int32.ofNat n := by
  rw [Int32.lt_iff_toInt_lt, Int32.toInt_ofNat_of_lt (by omega), Int32.toInt_ofNat_of_lt (by omega)]
  omega
theorem own_nn {n : Nat} (hn : n < 2147483648) : ¬ Int32.ofNat n < 0 := by
  rw [Int32.lt_iff_toInt_lt, Int32.toInt_ofNat_of_lt (by omega), show (0 : Int32).toInt = 0 from rfl]
  omega
theorem own_n32 {n : Nat} (hn : n < 2147483648) : (Int32.ofNat n).toNatClampNeg = n := by
  rw [Int32.toNatClampNeg, Int32.toInt_ofNat_of_lt (by omega)]; rfl
theorem own_one (i : Nat) : Int32.ofNat i + (1 : Int32) = Int32.ofNat (i + 1) := (Int32.ofNat_add i 1).symm
abbrev y_0 : MethodName := ⟨"com/example/upright_play/uprightplay/event/MembersBoolPinLaw", "law", "(IIII)Z"⟩
abbrev y_1 : MethodName := ⟨"com/example/upright_play/uprightplay/event/MembersBoolPinLaw", "nameChar", "(I)C"⟩
abbrev y_2 : MethodName := ⟨"com/example/upright_play/uprightplay/event/MembersBoolPinLaw", "blank", "(I)C"⟩
abbrev y_3 : MethodName := ⟨"com/example/upright_play/uprightplay/event/MembersBoolPinLaw", "putValue", "([CIZZ)V"⟩
abbrev y_4 : MethodName := ⟨"com/example/upright_play/uprightplay/event/Members", "<init>", "()V"⟩
abbrev y_5 : MethodName := ⟨"java/lang/Object", "<init>", "()V"⟩
abbrev y_6 : MethodName := ⟨"com/example/upright_play/uprightplay/event/Members", "read", "([CIJ)V"⟩
abbrev y_7 : MethodName := ⟨"java/util/Arrays", "fill", "([BB)V"⟩
abbrev y_8 : MethodName := ⟨"com/example/upright_play/uprightplay/event/Members", "skipWhitespace", "()V"⟩
abbrev y_9 : MethodName := ⟨"com/example/upright_play/uprightplay/event/Members", "isWhitespace", "(C)Z"⟩
abbrev y_10 : MethodName := ⟨"com/example/upright_play/uprightplay/event/Members", "readContainer", "(IC)V"⟩
abbrev y_11 : MethodName := ⟨"com/example/upright_play/uprightplay/event/Members", "take", "(C)Z"⟩
abbrev y_12 : MethodName := ⟨"com/example/upright_play/uprightplay/event/Members", "readString", "()Z"⟩
abbrev y_13 : MethodName := ⟨"com/example/upright_play/uprightplay/event/Members", "expect", "(C)V"⟩
abbrev y_14 : MethodName := ⟨"com/example/upright_play/uprightplay/event/Members", "readValue", "(I)Lcom/example/upright_play/uprightplay/event/Members$Type;"⟩
abbrev y_15 : MethodName := ⟨"com/example/upright_play/uprightplay/event/Members", "readWord", "(Ljava/lang/String;)V"⟩
abbrev y_16 : MethodName := ⟨"java/lang/String", "length", "()I"⟩
abbrev y_17 : MethodName := ⟨"java/lang/String", "coder", "()B"⟩
abbrev y_18 : MethodName := ⟨"java/lang/String", "charAt", "(I)C"⟩
abbrev y_19 : MethodName := ⟨"java/lang/String", "isLatin1", "()Z"⟩
abbrev y_20 : MethodName := ⟨"java/lang/StringLatin1", "charAt", "([BI)C"⟩
abbrev y_21 : MethodName := ⟨"java/lang/String", "checkIndex", "(II)V"⟩
abbrev y_22 : MethodName := ⟨"jdk/internal/util/Preconditions", "checkIndex", "(IILjava/util/function/BiFunction;)I"⟩
abbrev y_23 : MethodName := ⟨"com/example/upright_play/uprightplay/event/Members", "expectDelimiter", "()V"⟩
abbrev y_24 : MethodName := ⟨"com/example/upright_play/uprightplay/event/Members", "isDelimiter", "(C)Z"⟩
abbrev y_25 : MethodName := ⟨"com/example/upright_play/uprightplay/event/Members", "add", "(IIZLcom/example/upright_play/uprightplay/event/Members$Type;I)V"⟩
abbrev y_26 : MethodName := ⟨"com/example/upright_play/uprightplay/event/Members", "hash", "(II)I"⟩
abbrev y_27 : MethodName := ⟨"com/example/upright_play/uprightplay/event/Members", "slotOf", "(I)I"⟩
abbrev y_28 : MethodName := ⟨"java/lang/String", "valueOf", "(C)Ljava/lang/String;"⟩
abbrev y_29 : MethodName := ⟨"java/lang/StringLatin1", "canEncode", "(C)Z"⟩
abbrev y_30 : MethodName := ⟨"java/lang/StringLatin1", "toBytes", "(C)[B"⟩
abbrev y_31 : MethodName := ⟨"java/lang/String", "<init>", "([BB)V"⟩
abbrev y_32 : MethodName := ⟨"com/example/upright_play/uprightplay/event/Members", "find", "(Ljava/lang/String;)I"⟩
abbrev y_33 : MethodName := ⟨"java/lang/String", "hashCode", "()I"⟩
abbrev y_34 : MethodName := ⟨"java/lang/StringLatin1", "hashCode", "([B)I"⟩
abbrev y_35 : MethodName := ⟨"com/example/upright_play/uprightplay/event/Members", "isNamed", "(ILjava/lang/String;)Z"⟩
abbrev y_36 : MethodName := ⟨"com/example/upright_play/uprightplay/event/Members", "holds", "(IILjava/lang/String;)Z"⟩
abbrev y_37 : MethodName := ⟨"com/example/upright_play/uprightplay/event/Members", "next", "(I)I"⟩
abbrev y_38 : MethodName := ⟨"com/example/upright_play/uprightplay/event/Members", "size", "()I"⟩
abbrev y_39 : MethodName := ⟨"com/example/upright_play/uprightplay/event/Members", "type", "(I)Lcom/example/upright_play/uprightplay/event/Members$Type;"⟩
abbrev y_40 : MethodName := ⟨"com/example/upright_play/uprightplay/event/Members", "bool", "(I)Z"⟩
abbrev oQ (f c s l : Nat) : Room := { frames := f, cells := c, slots := s, locals := l }
abbrev c_1 : ByteArray := method_2_code
abbrev c_2 : ByteArray := method_3_code
abbrev c_3 : ByteArray := method_4_code
abbrev c_4 : ByteArray := prog_95_method_1_code
abbrev c_5 : ByteArray := object_method_1_code
abbrev c_6 : ByteArray := prog_95_method_2_code
abbrev c_7 : ByteArray := jdk_65_method_109_code
abbrev c_8 : ByteArray := prog_95_method_33_code
abbrev c_9 : ByteArray := prog_95_method_37_code
abbrev c_10 : ByteArray := prog_95_method_13_code
abbrev c_11 : ByteArray := prog_95_method_34_code
abbrev c_12 : ByteArray := prog_95_method_15_code
abbrev c_13 : ByteArray := prog_95_method_35_code
abbrev c_14 : ByteArray := prog_95_method_14_code
abbrev c_15 : ByteArray := prog_95_method_17_code
abbrev c_16 : ByteArray := jdk_42_method_54_code
abbrev c_17 : ByteArray := jdk_42_method_152_code
abbrev c_18 : ByteArray := jdk_42_method_56_code
abbrev c_19 : ByteArray := jdk_42_method_154_code
abbrev c_20 : ByteArray := jdk_43_method_2_code
abbrev c_21 : ByteArray := jdk_42_method_155_code
abbrev c_22 : ByteArray := jdk_41_method_11_code
abbrev c_23 : ByteArray := prog_95_method_19_code
abbrev c_24 : ByteArray := prog_95_method_38_code
abbrev c_25 : ByteArray := prog_95_method_21_code
abbrev c_26 : ByteArray := prog_95_method_28_code
abbrev c_27 : ByteArray := prog_95_method_26_code
abbrev c_28 : ByteArray := jdk_42_method_139_code
abbrev c_29 : ByteArray := jdk_43_method_3_code
abbrev c_30 : ByteArray := jdk_43_method_46_code
abbrev c_31 : ByteArray := jdk_42_method_151_code
abbrev c_32 : ByteArray := prog_95_method_5_code
abbrev c_33 : ByteArray := jdk_42_method_78_code
abbrev c_34 : ByteArray := jdk_43_method_21_code
abbrev c_35 : ByteArray := prog_95_method_25_code
abbrev c_36 : ByteArray := prog_95_method_24_code
abbrev c_37 : ByteArray := prog_95_method_27_code
abbrev c_38 : ByteArray := prog_95_method_4_code
abbrev c_39 : ByteArray := prog_95_method_6_code
abbrev c_40 : ByteArray := prog_95_method_11_code
abbrev oM (T : State) (m : MethodId) (pc : Nat) (L : Array Slot) (S : List Value) : State := T.setTop (mkF m pc L S)
abbrev oD (c : ByteArray) (n : Nat) (x : ClassFile.Instr × Nat) : Prop := ClassFile.decode c n = .ok x
theorem oG {c : ClassFile.Code} {x : ByteArray} (h : c.code = x) {n : Nat} {r : Except ClassFile.DecodeError (ClassFile.Instr × Nat)} (d : ClassFile.decode x n = r) : ClassFile.decode c.code n = r := hb h d
theorem oZ {n : Nat} : 2 * 0 + n ≤ n := by omega
theorem oF {Z : State} {h h' : Heap} {a b : Addr} {sl : Nat} {v w : Value} {C n d : String} (F : Fld Z h b C n d w) (W : Wr h h' a sl v) (q : b ≠ a) : Fld Z h' b C n d w := F.other W (Or.inl q)
theorem oS {Z : State} {P : Prop} {C O n d O' n' d' : String} {a0 : Array Value} (L : Laid Z a0 C O n d) (L' : Laid Z a0 C O' n' d') (t t' : FieldType) (hn : n ≠ n' := by decide) (ht : parseFieldDescriptor d = some t := by decide) (ht' : parseFieldDescriptor d' = some t' := by decide) : P ∨ Jvm.RoadKit.slotOf Z O n d ≠ Jvm.RoadKit.slotOf Z O' n' d' := Or.inr (slot_ne L L' hn ht ht')
theorem oT {Z : State} {h h' : Heap} {a : Addr} {v w : Value} {C O n d O' n' d' : String} {a0 : Array Value} (F : Fld Z h a O n d w) (W : Wr h h' a (Jvm.RoadKit.slotOf Z O' n' d') v) (L : Laid Z a0 C O n d) (L' : Laid Z a0 C O' n' d') (t t' : FieldType) (hn : n ≠ n' := by decide) (ht : parseFieldDescriptor d = some t := by decide) (ht' : parseFieldDescriptor d' = some t' := by decide) : Fld Z h' a O n d w := F.other W (Or.inr (slot_ne L L' hn ht ht'))
abbrev oR (a : Addr) : Slot := .val (.ref a)
abbrev oI (z : Int32) : Slot := .val (.int z)
abbrev oU : Slot := .unset
theorem gw {Z : State} {a0 : Array Value} (hw : ∀ d ∈ tables_1, d.before a0 Z = true) (i : Nat) {d : Jvm.Cond} (h : tables_1[i]? = some d) : d.before a0 Z = true := hw _ (List.mem_of_getElem? h)
section OwnLib
variable {p : Program} {l : Launch} {e : Env} {R : Room} {s : State} {m : MethodId} {args a0 : Array Value} {below : List Frame} {meth : Method} {c : Code} {T : State} {locs : List Loc} {cells slots : Nat} {Z : State} {h h' h'' : Heap} {a b : Addr} {ty : FieldType} {vs : List Value} {v w : Value} {sl : Nat}
theorem own_selP {y : MethodName} {n : Nat} (hZ : Z.Warmed39 s.vm) (wi : (Cond.instantiable y.cls n).before a0 Z = true) (wp : (Cond.privateMethod y).before a0 Z = true) (wm : (Cond.instanceMethod y).before a0 Z = true) (hy : y.cls ≠ "java/lang/invoke/MethodHandle" ∧ y.cls ≠ "java/lang/invoke/VarHandle") : (Cond.selects y.cls y y).before args s = true := by
  obtain ⟨c, k, h1, h2, h3, h4, -⟩ := Cond.instantiable_spec (mv (args := args) hZ wi)
  simp only [Bool.or_eq_false_iff] at h4
  exact selects_self_of_private h1 h2 h4.1 (Cond.privateMethod_at (mvP hZ wp (args := args))) (mv hZ wm) hy
theorem own_recast {L' : List Loc} {k' n' : Nat} (X : Stand p l e R s m args below meth c T locs cells slots) (h1 : locs = L') (h2 : cells = k') (h3 : slots = n') : Stand p l e R s m args below meth c T L' k' n' := by
  subst h1 h2 h3; exact X
theorem own_wrefl {C n d : String} (F : Fld Z h a C n d v) : Wr h h a (Jvm.RoadKit.slotOf Z C n d) v := by
  obtain ⟨cell, cf, k, i, f, h1, h2, h3, h4, h5, h6, h7⟩ := F
  have e1 : Jvm.RoadKit.slotOf Z C n d = f.slot := by simp [Jvm.RoadKit.slotOf, h2]
  obtain ⟨hl, hq⟩ := Array.getElem?_eq_some_iff.mp h7
  obtain ⟨ha, hc⟩ := Array.getElem?_eq_some_iff.mp h1
  refine ⟨cell, h1, h5, by rw [e1]; exact hl, ?_⟩
  have e2 : cell.setSlot f.slot v = cell := by
    have : cell.slots.setIfInBounds f.slot v = cell.slots := by
      apply Array.ext (by simp)
      intro j q1 q2
      rw [Array.getElem_setIfInBounds]
      split
      · rename_i r; subst r; exact hq.symm
      · rfl
    simp [Cell.setSlot, this]
  rw [e1, e2]
  apply Array.ext (by simp)
  intro j q1 q2
  rw [Array.getElem_setIfInBounds]
  split
  · rename_i r; subst r; exact hc
  · rfl
theorem own_wtrans (W : Wr h h' a sl v) (W' : Wr h' h'' a sl w) : Wr h h'' a sl w := by
  obtain ⟨cell, h1, h2, h3, rfl⟩ := W
  obtain ⟨cell', g1, g2, g3, rfl⟩ := W'
  obtain ⟨ha, hc⟩ := Array.getElem?_eq_some_iff.mp h1
  have e : cell' = cell.setSlot sl v := by
    have : (h.setIfInBounds a (cell.setSlot sl v))[a]? = some (cell.setSlot sl v) := by simp [ha]
    exact Option.some.inj (g1.symm.trans this)
  subst e
  refine ⟨cell, h1, h2, h3, ?_⟩
  simp [Cell.setSlot]
/-- a white sign -/
def own_w (c : Int32) : Int32 := if c = 32 then 1 else if c = 9 then 1 else if c = 10 then 1 else if c = 13 then 1 else 0
/-- from p to q all is white, and what stands at q isn't -/
def own_ws (LN : List Value) (p q : Nat) : Prop := p ≤ q ∧ q ≤ 23 ∧ (∀ i, p ≤ i → i < q → ∃ c : Int32, LN[i]? = some (.int c) ∧ own_w c = 1) ∧ (q < 23 → ∃ c : Int32, LN[q]? = some (.int c) ∧ own_w c = 0)
theorem own_at {LN : List Value} {i : Nat} (hi : i < 2147483648) (q : LN[i]? = some v) : LN[(Int32.ofNat i).toNatClampNeg]? = some v := by rw [own_n32 hi]; exact q
theorem own_ofne {i n : Nat} (hi : i < 2147483648) (hn : n < 2147483648) (h : i ≠ n) : ¬ Int32.ofNat i = Int32.ofNat n := fun q => by
  have := congrArg Int32.toNatClampNeg q
  rw [own_n32 hi, own_n32 hn] at this
  exact h this
/-- the statics that the road reads -/
def own_st (Z : State) (cs : Int32) (fo : Value) (bo : Addr) : Prop := Sta Z Z.heap "java/lang/String" "COMPACT_STRINGS" "Z" (.int cs) ∧ cs ≠ 0 ∧ Sta Z Z.heap "jdk/internal/util/Preconditions" "SIOOBE_FORMATTER" "Ljava/util/function/BiFunction;" fo ∧ (fo = .null ∨ ∃ a, fo = .ref a) ∧ Sta Z Z.heap "com/example/upright_play/uprightplay/event/Members$Type" "BOOLEAN" "Lcom/example/upright_play/uprightplay/event/Members$Type;" (.ref bo) ∧ Exa Z Z.heap bo "com/example/upright_play/uprightplay/event/Members$Type"
/-- the String at a, its bytes at b -/
def own_str (Z : State) (h : Heap) (a b : Addr) (vs : List Value) : Prop := Exa Z h a "java/lang/String" ∧ Fld Z h a "java/lang/String" "coder" "B" (.int 0) ∧ Fld Z h a "java/lang/String" "value" "[B" (.ref b) ∧ OwnA Z h b .byte vs
theorem own_str_wr {x : Addr} (S : own_str Z h a b vs) (W : Wr h h' x sl v) (h1 : a ≠ x) (h2 : b ≠ x) : own_str Z h' a b vs := ⟨S.1.wr W, S.2.1.other W (Or.inl h1), S.2.2.1.other W (Or.inl h1), S.2.2.2.other W h2⟩
theorem own_str_ext (S : own_str Z h a b vs) (E : Ext h h') : own_str Z h' a b vs := ⟨S.1.ext E, S.2.1.ext E, S.2.2.1.ext E, S.2.2.2.ext E⟩
theorem own_str_keep {ws : List Addr} (S : own_str Z h a b vs) (K : Keep h h' ws) (h1 : a ∉ ws) (h2 : b ∉ ws) : own_str Z h' a b vs := ⟨S.1.keep K, S.2.1.keep K h1, S.2.2.1.keep K h1, S.2.2.2.keep K h2⟩
theorem own_strne0 {n : Nat} {x : Addr} {C : String} (w : (Cond.instantiable C n).before a0 Z = true) (E : Exa Z h x C) (F : OwnA Z h b ty vs) : b ≠ x := fun q => by
  subst q
  obtain ⟨cell, k, h1, h2, h3, h4, -⟩ := E
  obtain ⟨c, ⟨a1, ⟨-, k', a2, cm, a3⟩, -⟩, -⟩ := F
  obtain ⟨c', k2, q1, q2, q3, -⟩ := Cond.instantiable_spec w
  cases h1.symm.trans a1
  cases h2.symm.trans q1
  cases q2.symm.trans a2
  rw [q3] at a3; cases a3
end OwnLib
theorem own_rem (x : Int32) : ∃ j : Nat, j < 224 ∧ (x &&& (2147483647 : Int32)) % (224 : Int32) = Int32.ofNat j := by
  have h1 : ((x &&& (2147483647 : Int32)) % (224 : Int32)).toInt = (x.toInt % ((2 ^ 31 : Nat) : Int)).tmod 224 := by
    rw [Int32.toInt_mod, c_mask x _ 31 (by decide) (by decide)]; rfl
  have h2 : 0 ≤ x.toInt % ((2 ^ 31 : Nat) : Int) := Int.emod_nonneg _ (by decide)
  rw [Int.tmod_eq_emod_of_nonneg h2] at h1
  generalize x.toInt % ((2 ^ 31 : Nat) : Int) = y at h1 h2
  refine ⟨(y % 224).toNat, by omega, ?_⟩
  rw [← Int32.toInt_inj, h1, Int32.toInt_ofNat_of_lt (by omega)]
  omega
set_option maxRecDepth 65536 in
theorem own_c16 : ∀ k : Nat, k < 256 → (Int32.ofNat k).toUInt32.toUInt16.toUInt32.toInt32 = Int32.ofNat k := by decide +kernel
set_option maxRecDepth 65536 in
theorem own_b8 : ∀ k : Nat, k < 256 → ((Int32.ofNat k).toInt8.toInt32.toInt8.toInt32 &&& (255 : Int32)) = Int32.ofNat k := by decide +kernel
theorem own_add32 (j : Nat) : (32 : Int32) + Int32.ofNat j = Int32.ofNat (32 + j) := (Int32.ofNat_add 32 j).symm
def own_nc (k : Nat) : Prop := 32 ≤ k ∧ k < 256 ∧ k ≠ 34 ∧ k ≠ 92
def own_sl (k : Nat) : Nat := ((Int32.ofNat k * (-1640531527 : Int32)).toUInt32 >>> 27).toNat
set_option maxRecDepth 65536 in
theorem own_slot : ∀ k : Nat, k < 256 → ((Int32.ofNat k * (-1640531527 : Int32)).toUInt32 >>> ((27 : Int32) &&& 31).toUInt32).toInt32 = Int32.ofNat (own_sl k) ∧ own_sl k < 32 := by decide +kernel
set_option maxRecDepth 65536 in
theorem own_nxt : ∀ j : Nat, j < 32 → ((Int32.ofNat j + (1 : Int32)) &&& (31 : Int32)) = Int32.ofNat ((j + 1) % 32) := by decide +kernel
theorem own_zadd (x : Int32) : (0 : Int32) + x = x := Int32.zero_add x
theorem own_shr0 (x : Int32) : x >>> ((0 : Int32) &&& 31) = x := by simp
theorem d1_0 : oD c_1 0 (.bipush 32, 2) := by decide +kernel
theorem d1_2 : oD c_1 2 (.iload_n 0, 1) := by decide +kernel
theorem d1_3 : oD c_1 3 (.ldc 7, 2) := by decide +kernel
theorem d1_5 : oD c_1 5 (.iand, 1) := by decide +kernel
theorem d1_6 : oD c_1 6 (.sipush 224, 3) := by decide +kernel
theorem d1_9 : oD c_1 9 (.irem, 1) := by decide +kernel
theorem d1_10 : oD c_1 10 (.iadd, 1) := by decide +kernel
theorem d1_11 : oD c_1 11 (.i2c, 1) := by decide +kernel
theorem d1_12 : oD c_1 12 (.istore_n 1, 1) := by decide +kernel
theorem d1_13 : oD c_1 13 (.iload_n 1, 1) := by decide +kernel
theorem d1_14 : oD c_1 14 (.bipush 34, 2) := by decide +kernel
theorem d1_16 : oD c_1 16 (.if_icmp .eq 9, 3) := by decide +kernel
theorem d1_19 : oD c_1 19 (.iload_n 1, 1) := by decide +kernel
theorem d1_20 : oD c_1 20 (.bipush 92, 2) := by decide +kernel
theorem d1_22 : oD c_1 22 (.if_icmp .ne 6, 3) := by decide +kernel
theorem d1_25 : oD c_1 25 (.bipush 120, 2) := by decide +kernel
theorem d1_27 : oD c_1 27 (.istore_n 1, 1) := by decide +kernel
theorem d1_28 : oD c_1 28 (.iload_n 1, 1) := by decide +kernel
theorem d1_29 : oD c_1 29 (.ireturn, 1) := by decide +kernel
theorem pn_1 : plainName "com/example/upright_play/uprightplay/event/MembersBoolPinLaw" = true := by first | (simp [plainName, overriddenIn]; done) | decide +kernel
theorem ef_rm_nameChar (m : MethodId) (x0 : Int32) : entryFrame m #[.int x0] 2 = mkF m 0 #[oI x0, oU] [] := by first | (simp [entryFrame, mkF, argsToLocals, Value.category]; done) | rfl
def Q_rm_nameChar (Z : State) (z1 : Int32) (h0 : Heap) (n0 : Nat) (v : Option Value) (h : Heap) (L : List Loc) : Prop := ∃ k, v = some (.int (Int32.ofNat k)) ∧ Fr n0 L ∧ h = h0 ∧ own_nc k
set_option maxRecDepth 65536 in
set_option maxHeartbeats 40000000 in
theorem rm_nameChar (l : Launch) (Z : State) (a0 : Array Value) (hw : ∀ d ∈ tables_1, d.before a0 Z = true) (ws : List Jvm.Cond) (z1 : Int32) (h0 : Heap) (n0 : Nat) (Zn : n0 ≤ h0.size) :
    MetFree l y_1 (head1 (Jvm.Cond.code y_1 c_1 2 (some .char) :: ws) (oQ 0 0 0 0)) (fun a U => a = #[.int z1] ∧ Z.Warmed39 U.vm ∧ U.heap = h0) (fun _ _ _ _ _ => True) (fun _ U o U' => ∃ v L, o = .returned v ∧ (Q_rm_nameChar Z z1 h0 n0) v U'.heap L ∧ FrameEnd U o U' L (oQ 0 0 0 0).cells (oQ 0 0 0 0).slots) := by
  refine MetFree.of_bodySF (plainFor_of_name pn_1) hisR ?_
  intro p e s m args below meth c s₁ Bd hml0 hP hK
  obtain ⟨rfl, hZ, hh⟩ := hP
  have hx := Bd.exec
  have G := @oG _ _ Bd.bytes
  have hml : c.maxLocals = 2 := hml0
  have hown : s.vm.findClass "com/example/upright_play/uprightplay/event/MembersBoolPinLaw" = some m.cls := findClass_of_methodNamed Bd.named
  have hnm := (name_of_methodNamed Bd.named Bd.method).1
  have hlk : meth.locks = false := BodyLoose.notSynchronized Bd
  have X0 : Stand p l e (oQ 0 0 0 0) s m #[.int z1] below meth c s₁ [] 0 0 := Stand.of_body Bd
  have e0 : s₁.heap = h0 := by rw [← hh, Bd.state]; rfl
  have N := Fr.nil n0
  have K := Keep.refl h0 []
  refine own_start (cl := (oQ 0 0 0 0).cells) (sl := (oQ 0 0 0 0).slots) (Q := (Q_rm_nameChar Z z1 h0 n0)) (ef_rm_nameChar m z1) ?_
  refine own_by (S' := (oM s₁ m 10 #[oI z1, oU] [(.int ((z1 &&& (2147483647 : Int32)) % (224 : Int32))), .int 32])) (fun _ k => XS.bipush X0.here hx rfl (G d1_0) (XS.iloadN X0.here hx rfl (G d1_2) rfl (X0.ldcInt hx hown (mvT hZ (gw hw 4 rfl)) (g := (mkF m 3 #[oI z1, oU] [.int z1, .int 32])) rfl (G d1_3) _ (XS.iand X0.here hx rfl (G d1_5) rfl (XS.sipush X0.here hx rfl (G d1_6) (iremM X0 hx rfl (G d1_9) rfl (by decide) k)))))) ?_
  obtain ⟨j, hj, ej⟩ := own_rem z1
  rw [show ((z1 &&& (2147483647 : Int32)) % (224 : Int32)) = (Int32.ofNat j) from ej]
  refine own_by (S' := (oM s₁ m 11 #[oI z1, oU] [(.int ((32 : Int32) + (Int32.ofNat j)))])) (fun _ k => XS.iadd X0.here hx rfl (G d1_10) rfl k) ?_
  rw [show ((32 : Int32) + (Int32.ofNat j)) = (Int32.ofNat (32 + j)) from own_add32 j]
  refine own_by (S' := (oM s₁ m 12 #[oI z1, oU] [(.int ((Int32.ofNat (32 + j)).toUInt32.toUInt16.toUInt32.toInt32))])) (fun _ k => XS.i2c X0.here hx rfl (G d1_11) rfl k) ?_
  rw [show ((Int32.ofNat (32 + j)).toUInt32.toUInt16.toUInt32.toInt32) = (Int32.ofNat (32 + j)) from own_c16 _ (by omega)]
  refine own_by (S' := (oM s₁ m 16 #[oI z1, .val (.int (Int32.ofNat (32 + j)))] [.int 34, (.int (Int32.ofNat (32 + j)))])) (fun _ k => XS.istoreN X0.here hx rfl (G d1_12) rfl (l' := #[oI z1, .val (.int (Int32.ofNat (32 + j)))]) rfl (XS.iloadN X0.here hx rfl (G d1_13) rfl (XS.bipush X0.here hx rfl (G d1_14) k))) ?_
  suffices J1 : ∀ (ch : Nat), own_nc ch → own_fin p e below s (oQ 0 0 0 0).cells (oQ 0 0 0 0).slots (Q_rm_nameChar Z z1 h0 n0) (oM s₁ m 28 #[oI z1, oI (Int32.ofNat ch)] []) by
    by_cases g1 : (Int32.ofNat (32 + j)) = (34 : Int32)
    · refine own_by (S' := (oM s₁ m 28 #[oI z1, oI 120] [])) (fun _ k => XS.icmpYes X0.here hx rfl (pc0 := 16) (pc' := 25) rfl (G d1_16) rfl (teq (g1 : (Int32.ofNat (32 + j)) = (34 : Int32))).1 (by decide) (by decide) (XS.bipush X0.here hx rfl (G d1_25) (XS.istoreN X0.here hx rfl (G d1_27) rfl (l' := #[oI z1, oI 120]) rfl k))) ?_
      exact J1 120 (by unfold own_nc; decide)
    · refine own_by (S' := (oM s₁ m 22 #[oI z1, .val (.int (Int32.ofNat (32 + j)))] [.int 92, (.int (Int32.ofNat (32 + j)))])) (fun _ k => XS.icmpNo X0.here hx rfl (G d1_16) rfl (feq (g1 : ¬ ((Int32.ofNat (32 + j)) = (34 : Int32)))).1 (XS.iloadN X0.here hx rfl (G d1_19) rfl (XS.bipush X0.here hx rfl (G d1_20) k))) ?_
      by_cases g2 : (Int32.ofNat (32 + j)) = (92 : Int32)
      · refine own_by (S' := (oM s₁ m 28 #[oI z1, oI 120] [])) (fun _ k => XS.icmpNo X0.here hx rfl (G d1_22) rfl (teq (g2 : (Int32.ofNat (32 + j)) = (92 : Int32))).2 (XS.bipush X0.here hx rfl (G d1_25) (XS.istoreN X0.here hx rfl (G d1_27) rfl (l' := #[oI z1, oI 120]) rfl k))) ?_
        exact J1 120 (by unfold own_nc; decide)
      · refine own_by (S' := (oM s₁ m 28 #[oI z1, .val (.int (Int32.ofNat (32 + j)))] [])) (fun _ k => XS.icmpYes X0.here hx rfl (pc0 := 22) (pc' := 28) rfl (G d1_22) rfl (feq (g2 : ¬ ((Int32.ofNat (32 + j)) = (92 : Int32)))).2 (by decide) (by decide) k) ?_
        exact J1 (32 + j) ⟨by omega, by omega, fun q => g1 (by rw [q]; rfl), fun q => g2 (by rw [q]; rfl)⟩
  intro ch hk
  refine own_by (S' := (oM s₁ m 29 #[oI z1, oI (Int32.ofNat ch)] [(.int (Int32.ofNat ch))])) (fun _ k => XS.iloadN X0.here hx rfl (G d1_28) rfl k) ?_
  exact own_ret X0 hx (t := .char) Bd.returns (congrArg Value.int (own_c16 _ hk.2.1)) (Or.inl ⟨rfl, by simp, _, rfl⟩) (G d1_29) hlk (by decide : 0 ≤ _) (by decide : 0 ≤ _) (by rw [e0]; exact ⟨ch, rfl, N, rfl, hk⟩)
theorem d2_0 : oD c_2 0 (.iload_n 0, 1) := by decide +kernel
theorem d2_1 : oD c_2 1 (.iconst 3, 1) := by decide +kernel
theorem d2_2 : oD c_2 2 (.iand, 1) := by decide +kernel
theorem d2_3 : oD c_2 3 (.istore_n 1, 1) := by decide +kernel
theorem d2_4 : oD c_2 4 (.bipush 32, 2) := by decide +kernel
theorem d2_6 : oD c_2 6 (.istore_n 2, 1) := by decide +kernel
theorem d2_7 : oD c_2 7 (.iload_n 1, 1) := by decide +kernel
theorem d2_8 : oD c_2 8 (.iconst 1, 1) := by decide +kernel
theorem d2_9 : oD c_2 9 (.if_icmp .ne 9, 3) := by decide +kernel
theorem d2_12 : oD c_2 12 (.bipush 9, 2) := by decide +kernel
theorem d2_14 : oD c_2 14 (.istore_n 2, 1) := by decide +kernel
theorem d2_15 : oD c_2 15 (.goto 22, 3) := by decide +kernel
theorem d2_18 : oD c_2 18 (.iload_n 1, 1) := by decide +kernel
theorem d2_19 : oD c_2 19 (.iconst 2, 1) := by decide +kernel
theorem d2_20 : oD c_2 20 (.if_icmp .ne 9, 3) := by decide +kernel
theorem d2_23 : oD c_2 23 (.bipush 10, 2) := by decide +kernel
theorem d2_25 : oD c_2 25 (.istore_n 2, 1) := by decide +kernel
theorem d2_26 : oD c_2 26 (.goto 11, 3) := by decide +kernel
theorem d2_29 : oD c_2 29 (.iload_n 1, 1) := by decide +kernel
theorem d2_30 : oD c_2 30 (.iconst 3, 1) := by decide +kernel
theorem d2_31 : oD c_2 31 (.if_icmp .ne 6, 3) := by decide +kernel
theorem d2_34 : oD c_2 34 (.bipush 13, 2) := by decide +kernel
theorem d2_36 : oD c_2 36 (.istore_n 2, 1) := by decide +kernel
theorem d2_37 : oD c_2 37 (.iload_n 2, 1) := by decide +kernel
theorem d2_38 : oD c_2 38 (.ireturn, 1) := by decide +kernel
theorem pn_2 : plainName "com/example/upright_play/uprightplay/event/MembersBoolPinLaw" = true := by first | (simp [plainName, overriddenIn]; done) | decide +kernel
theorem ef_rm_blank (m : MethodId) (x0 : Int32) : entryFrame m #[.int x0] 3 = mkF m 0 #[oI x0, oU, oU] [] := by first | (simp [entryFrame, mkF, argsToLocals, Value.category]; done) | rfl
def Q_rm_blank (Z : State) (z1 : Int32) (h0 : Heap) (n0 : Nat) (v : Option Value) (h : Heap) (L : List Loc) : Prop := ∃ b : Int32, v = some (.int b) ∧ Fr n0 L ∧ h = h0 ∧ own_w b = 1 ∧ b.toUInt32.toUInt16.toUInt32.toInt32 = b
set_option maxRecDepth 65536 in
set_option maxHeartbeats 40000000 in
theorem rm_blank (l : Launch) (Z : State) (a0 : Array Value) (hw : ∀ d ∈ tables_1, d.before a0 Z = true) (ws : List Jvm.Cond) (z1 : Int32) (h0 : Heap) (n0 : Nat) (Zn : n0 ≤ h0.size) :
    MetFree l y_2 (head1 (Jvm.Cond.code y_2 c_2 3 (some .char) :: ws) (oQ 0 0 0 0)) (fun a U => a = #[.int z1] ∧ Z.Warmed39 U.vm ∧ U.heap = h0) (fun _ _ _ _ _ => True) (fun _ U o U' => ∃ v L, o = .returned v ∧ (Q_rm_blank Z z1 h0 n0) v U'.heap L ∧ FrameEnd U o U' L (oQ 0 0 0 0).cells (oQ 0 0 0 0).slots) := by
  refine MetFree.of_bodySF (plainFor_of_name pn_2) hisR ?_
  intro p e s m args below meth c s₁ Bd hml0 hP hK
  obtain ⟨rfl, hZ, hh⟩ := hP
  have hx := Bd.exec
  have G := @oG _ _ Bd.bytes
  have hml : c.maxLocals = 3 := hml0
  have hown : s.vm.findClass "com/example/upright_play/uprightplay/event/MembersBoolPinLaw" = some m.cls := findClass_of_methodNamed Bd.named
  have hnm := (name_of_methodNamed Bd.named Bd.method).1
  have hlk : meth.locks = false := BodyLoose.notSynchronized Bd
  have X0 : Stand p l e (oQ 0 0 0 0) s m #[.int z1] below meth c s₁ [] 0 0 := Stand.of_body Bd
  have e0 : s₁.heap = h0 := by rw [← hh, Bd.state]; rfl
  have N := Fr.nil n0
  have K := Keep.refl h0 []
  refine own_start (cl := (oQ 0 0 0 0).cells) (sl := (oQ 0 0 0 0).slots) (Q := (Q_rm_blank Z z1 h0 n0)) (ef_rm_blank m z1) ?_
  refine own_by (S' := (oM s₁ m 9 #[oI z1, .val (.int (z1 &&& (3 : Int32))), oI 32] [.int 1, (.int (z1 &&& (3 : Int32)))])) (fun _ k => XS.iloadN X0.here hx rfl (G d2_0) rfl (XS.iconst X0.here hx rfl (G d2_1) (XS.iand X0.here hx rfl (G d2_2) rfl (XS.istoreN X0.here hx rfl (G d2_3) rfl (l' := #[oI z1, .val (.int (z1 &&& (3 : Int32))), oU]) rfl (XS.bipush X0.here hx rfl (G d2_4) (XS.istoreN X0.here hx rfl (G d2_6) rfl (l' := #[oI z1, .val (.int (z1 &&& (3 : Int32))), oI 32]) rfl (XS.iloadN X0.here hx rfl (G d2_7) rfl (XS.iconst X0.here hx rfl (G d2_8) k)))))))) ?_
  by_cases g1 : (z1 &&& (3 : Int32)) = (1 : Int32)
  · refine own_by (S' := (oM s₁ m 38 #[oI z1, .val (.int (z1 &&& (3 : Int32))), oI 9] [.int 9])) (fun _ k => XS.icmpNo X0.here hx rfl (G d2_9) rfl (teq (g1 : (z1 &&& (3 : Int32)) = (1 : Int32))).2 (XS.bipush X0.here hx rfl (G d2_12) (XS.istoreN X0.here hx rfl (G d2_14) rfl (l' := #[oI z1, .val (.int (z1 &&& (3 : Int32))), oI 9]) rfl (XS.goto X0.here hx rfl (pc0 := 15) (pc' := 37) rfl (G d2_15) (by decide) (by decide) (XS.iloadN X0.here hx rfl (G d2_37) rfl k))))) ?_
    exact own_ret X0 hx (t := .char) Bd.returns rfl (Or.inl ⟨rfl, by simp, _, rfl⟩) (G d2_38) hlk (by decide : 0 ≤ _) (by decide : 0 ≤ _) (by rw [e0]; exact ⟨_, rfl, N, rfl, by decide, by decide⟩)
  · refine own_by (S' := (oM s₁ m 20 #[oI z1, .val (.int (z1 &&& (3 : Int32))), oI 32] [.int 2, (.int (z1 &&& (3 : Int32)))])) (fun _ k => XS.icmpYes X0.here hx rfl (pc0 := 9) (pc' := 18) rfl (G d2_9) rfl (feq (g1 : ¬ ((z1 &&& (3 : Int32)) = (1 : Int32)))).2 (by decide) (by decide) (XS.iloadN X0.here hx rfl (G d2_18) rfl (XS.iconst X0.here hx rfl (G d2_19) k))) ?_
    by_cases g2 : (z1 &&& (3 : Int32)) = (2 : Int32)
    · refine own_by (S' := (oM s₁ m 38 #[oI z1, .val (.int (z1 &&& (3 : Int32))), oI 10] [.int 10])) (fun _ k => XS.icmpNo X0.here hx rfl (G d2_20) rfl (teq (g2 : (z1 &&& (3 : Int32)) = (2 : Int32))).2 (XS.bipush X0.here hx rfl (G d2_23) (XS.istoreN X0.here hx rfl (G d2_25) rfl (l' := #[oI z1, .val (.int (z1 &&& (3 : Int32))), oI 10]) rfl (XS.goto X0.here hx rfl (pc0 := 26) (pc' := 37) rfl (G d2_26) (by decide) (by decide) (XS.iloadN X0.here hx rfl (G d2_37) rfl k))))) ?_
      exact own_ret X0 hx (t := .char) Bd.returns rfl (Or.inl ⟨rfl, by simp, _, rfl⟩) (G d2_38) hlk (by decide : 0 ≤ _) (by decide : 0 ≤ _) (by rw [e0]; exact ⟨_, rfl, N, rfl, by decide, by decide⟩)
    · refine own_by (S' := (oM s₁ m 31 #[oI z1, .val (.int (z1 &&& (3 : Int32))), oI 32] [.int 3, (.int (z1 &&& (3 : Int32)))])) (fun _ k => XS.icmpYes X0.here hx rfl (pc0 := 20) (pc' := 29) rfl (G d2_20) rfl (feq (g2 : ¬ ((z1 &&& (3 : Int32)) = (2 : Int32)))).2 (by decide) (by decide) (XS.iloadN X0.here hx rfl (G d2_29) rfl (XS.iconst X0.here hx rfl (G d2_30) k))) ?_
      by_cases g3 : (z1 &&& (3 : Int32)) = (3 : Int32)
      · refine own_by (S' := (oM s₁ m 38 #[oI z1, .val (.int (z1 &&& (3 : Int32))), oI 13] [.int 13])) (fun _ k => XS.icmpNo X0.here hx rfl (G d2_31) rfl (teq (g3 : (z1 &&& (3 : Int32)) = (3 : Int32))).2 (XS.bipush X0.here hx rfl (G d2_34) (XS.istoreN X0.here hx rfl (G d2_36) rfl (l' := #[oI z1, .val (.int (z1 &&& (3 : Int32))), oI 13]) rfl (XS.iloadN X0.here hx rfl (G d2_37) rfl k)))) ?_
        exact own_ret X0 hx (t := .char) Bd.returns rfl (Or.inl ⟨rfl, by simp, _, rfl⟩) (G d2_38) hlk (by decide : 0 ≤ _) (by decide : 0 ≤ _) (by rw [e0]; exact ⟨_, rfl, N, rfl, by decide, by decide⟩)
      · refine own_by (S' := (oM s₁ m 38 #[oI z1, .val (.int (z1 &&& (3 : Int32))), oI 32] [.int 32])) (fun _ k => XS.icmpYes X0.here hx rfl (pc0 := 31) (pc' := 37) rfl (G d2_31) rfl (feq (g3 : ¬ ((z1 &&& (3 : Int32)) = (3 : Int32)))).2 (by decide) (by decide) (XS.iloadN X0.here hx rfl (G d2_37) rfl k)) ?_
        exact own_ret X0 hx (t := .char) Bd.returns rfl (Or.inl ⟨rfl, by simp, _, rfl⟩) (G d2_38) hlk (by decide : 0 ≤ _) (by decide : 0 ≤ _) (by rw [e0]; exact ⟨_, rfl, N, rfl, by decide, by decide⟩)
theorem d9_0 : oD c_9 0 (.iload_n 0, 1) := by decide +kernel
theorem d9_1 : oD c_9 1 (.bipush 32, 2) := by decide +kernel
theorem d9_3 : oD c_9 3 (.if_icmp .eq 21, 3) := by decide +kernel
theorem d9_6 : oD c_9 6 (.iload_n 0, 1) := by decide +kernel
theorem d9_7 : oD c_9 7 (.bipush 9, 2) := by decide +kernel
theorem d9_9 : oD c_9 9 (.if_icmp .eq 15, 3) := by decide +kernel
theorem d9_12 : oD c_9 12 (.iload_n 0, 1) := by decide +kernel
theorem d9_13 : oD c_9 13 (.bipush 10, 2) := by decide +kernel
theorem d9_15 : oD c_9 15 (.if_icmp .eq 9, 3) := by decide +kernel
theorem d9_18 : oD c_9 18 (.iload_n 0, 1) := by decide +kernel
theorem d9_19 : oD c_9 19 (.bipush 13, 2) := by decide +kernel
theorem d9_21 : oD c_9 21 (.if_icmp .ne 7, 3) := by decide +kernel
theorem d9_24 : oD c_9 24 (.iconst 1, 1) := by decide +kernel
theorem d9_25 : oD c_9 25 (.goto 4, 3) := by decide +kernel
theorem d9_28 : oD c_9 28 (.iconst 0, 1) := by decide +kernel
theorem d9_29 : oD c_9 29 (.ireturn, 1) := by decide +kernel
theorem pn_9 : plainName "com/example/upright_play/uprightplay/event/Members" = true := by first | (simp [plainName, overriddenIn]; done) | decide +kernel
theorem ef_rm_isWs (m : MethodId) (x0 : Int32) : entryFrame m #[.int x0] 1 = mkF m 0 #[oI x0] [] := by first | (simp [entryFrame, mkF, argsToLocals, Value.category]; done) | rfl
def Q_rm_isWs (Z : State) (z1 : Int32) (h0 : Heap) (n0 : Nat) (v : Option Value) (h : Heap) (L : List Loc) : Prop := v = some (.int (own_w z1)) ∧ Fr n0 L ∧ h = h0
set_option maxRecDepth 65536 in
set_option maxHeartbeats 40000000 in
theorem rm_isWs (l : Launch) (Z : State) (a0 : Array Value) (hw : ∀ d ∈ tables_1, d.before a0 Z = true) (ws : List Jvm.Cond) (z1 : Int32) (h0 : Heap) (n0 : Nat) (Zn : n0 ≤ h0.size) :
    MetFree l y_9 (head1 (Jvm.Cond.code y_9 c_9 1 (some .boolean) :: ws) (oQ 0 0 0 0)) (fun a U => a = #[.int z1] ∧ Z.Warmed39 U.vm ∧ U.heap = h0) (fun _ _ _ _ _ => True) (fun _ U o U' => ∃ v L, o = .returned v ∧ (Q_rm_isWs Z z1 h0 n0) v U'.heap L ∧ FrameEnd U o U' L (oQ 0 0 0 0).cells (oQ 0 0 0 0).slots) := by
  refine MetFree.of_bodySF (plainFor_of_name pn_9) hisR ?_
  intro p e s m args below meth c s₁ Bd hml0 hP hK
  obtain ⟨rfl, hZ, hh⟩ := hP
  have hx := Bd.exec
  have G := @oG _ _ Bd.bytes
  have hml : c.maxLocals = 1 := hml0
  have hown : s.vm.findClass "com/example/upright_play/uprightplay/event/Members" = some m.cls := findClass_of_methodNamed Bd.named
  have hnm := (name_of_methodNamed Bd.named Bd.method).1
  have hlk : meth.locks = false := BodyLoose.notSynchronized Bd
  have X0 : Stand p l e (oQ 0 0 0 0) s m #[.int z1] below meth c s₁ [] 0 0 := Stand.of_body Bd
  have e0 : s₁.heap = h0 := by rw [← hh, Bd.state]; rfl
  have N := Fr.nil n0
  have K := Keep.refl h0 []
  refine own_start (cl := (oQ 0 0 0 0).cells) (sl := (oQ 0 0 0 0).slots) (Q := (Q_rm_isWs Z z1 h0 n0)) (ef_rm_isWs m z1) ?_
  refine own_by (S' := (oM s₁ m 3 #[oI z1] [.int 32, .int z1])) (fun _ k => XS.iloadN X0.here hx rfl (G d9_0) rfl (XS.bipush X0.here hx rfl (G d9_1) k)) ?_
  by_cases g0 : z1 = (32 : Int32)
  · refine own_by (S' := (oM s₁ m 29 #[oI z1] [.int 1])) (fun _ k => XS.icmpYes X0.here hx rfl (pc0 := 3) (pc' := 24) rfl (G d9_3) rfl (teq (g0 : z1 = (32 : Int32))).1 (by decide) (by decide) (XS.iconst X0.here hx rfl (G d9_24) (XS.goto X0.here hx rfl (pc0 := 25) (pc' := 29) rfl (G d9_25) (by decide) (by decide) k))) ?_
    exact own_ret X0 hx (t := .boolean) Bd.returns rfl (Or.inl ⟨rfl, by simp, _, rfl⟩) (G d9_29) hlk (by decide : 0 ≤ _) (by decide : 0 ≤ _) (by rw [e0]; exact ⟨by rw [own_w, if_pos g0], N, rfl⟩)
  · refine own_by (S' := (oM s₁ m 9 #[oI z1] [.int 9, .int z1])) (fun _ k => XS.icmpNo X0.here hx rfl (G d9_3) rfl (feq (g0 : ¬ (z1 = (32 : Int32)))).1 (XS.iloadN X0.here hx rfl (G d9_6) rfl (XS.bipush X0.here hx rfl (G d9_7) k))) ?_
    by_cases g1 : z1 = (9 : Int32)
    · refine own_by (S' := (oM s₁ m 29 #[oI z1] [.int 1])) (fun _ k => XS.icmpYes X0.here hx rfl (pc0 := 9) (pc' := 24) rfl (G d9_9) rfl (teq (g1 : z1 = (9 : Int32))).1 (by decide) (by decide) (XS.iconst X0.here hx rfl (G d9_24) (XS.goto X0.here hx rfl (pc0 := 25) (pc' := 29) rfl (G d9_25) (by decide) (by decide) k))) ?_
      exact own_ret X0 hx (t := .boolean) Bd.returns rfl (Or.inl ⟨rfl, by simp, _, rfl⟩) (G d9_29) hlk (by decide : 0 ≤ _) (by decide : 0 ≤ _) (by rw [e0]; exact ⟨by rw [own_w, if_neg g0, if_pos g1], N, rfl⟩)
    · refine own_by (S' := (oM s₁ m 15 #[oI z1] [.int 10, .int z1])) (fun _ k => XS.icmpNo X0.here hx rfl (G d9_9) rfl (feq (g1 : ¬ (z1 = (9 : Int32)))).1 (XS.iloadN X0.here hx rfl (G d9_12) rfl (XS.bipush X0.here hx rfl (G d9_13) k))) ?_
      by_cases g2 : z1 = (10 : Int32)
      · refine own_by (S' := (oM s₁ m 29 #[oI z1] [.int 1])) (fun _ k => XS.icmpYes X0.here hx rfl (pc0 := 15) (pc' := 24) rfl (G d9_15) rfl (teq (g2 : z1 = (10 : Int32))).1 (by decide) (by decide) (XS.iconst X0.here hx rfl (G d9_24) (XS.goto X0.here hx rfl (pc0 := 25) (pc' := 29) rfl (G d9_25) (by decide) (by decide) k))) ?_
        exact own_ret X0 hx (t := .boolean) Bd.returns rfl (Or.inl ⟨rfl, by simp, _, rfl⟩) (G d9_29) hlk (by decide : 0 ≤ _) (by decide : 0 ≤ _) (by rw [e0]; exact ⟨by rw [own_w, if_neg g0, if_neg g1, if_pos g2], N, rfl⟩)
      · refine own_by (S' := (oM s₁ m 21 #[oI z1] [.int 13, .int z1])) (fun _ k => XS.icmpNo X0.here hx rfl (G d9_15) rfl (feq (g2 : ¬ (z1 = (10 : Int32)))).1 (XS.iloadN X0.here hx rfl (G d9_18) rfl (XS.bipush X0.here hx rfl (G d9_19) k))) ?_
        by_cases g3 : z1 = (13 : Int32)
        · refine own_by (S' := (oM s₁ m 29 #[oI z1] [.int 1])) (fun _ k => XS.icmpNo X0.here hx rfl (G d9_21) rfl (teq (g3 : z1 = (13 : Int32))).2 (XS.iconst X0.here hx rfl (G d9_24) (XS.goto X0.here hx rfl (pc0 := 25) (pc' := 29) rfl (G d9_25) (by decide) (by decide) k))) ?_
          exact own_ret X0 hx (t := .boolean) Bd.returns rfl (Or.inl ⟨rfl, by simp, _, rfl⟩) (G d9_29) hlk (by decide : 0 ≤ _) (by decide : 0 ≤ _) (by rw [e0]; exact ⟨by rw [own_w, if_neg g0, if_neg g1, if_neg g2, if_pos g3], N, rfl⟩)
        · refine own_by (S' := (oM s₁ m 29 #[oI z1] [.int 0])) (fun _ k => XS.icmpYes X0.here hx rfl (pc0 := 21) (pc' := 28) rfl (G d9_21) rfl (feq (g3 : ¬ (z1 = (13 : Int32)))).2 (by decide) (by decide) (XS.iconst X0.here hx rfl (G d9_28) k)) ?_
          exact own_ret X0 hx (t := .boolean) Bd.returns rfl (Or.inl ⟨rfl, by simp, _, rfl⟩) (G d9_29) hlk (by decide : 0 ≤ _) (by decide : 0 ≤ _) (by rw [e0]; exact ⟨by rw [own_w, if_neg g0, if_neg g1, if_neg g2, if_neg g3], N, rfl⟩)
theorem d24_0 : oD c_24 0 (.iload_n 0, 1) := by decide +kernel
theorem d24_1 : oD c_24 1 (.lookupswitch 103 #[(9, 99), (10, 99), (12, 99), (13, 99), (32, 99), (44, 99), (58, 99), (91, 99), (93, 99), (123, 99), (125, 99)], 99) := by decide +kernel
theorem d24_100 : oD c_24 100 (.iconst 1, 1) := by decide +kernel
theorem d24_101 : oD c_24 101 (.goto 4, 3) := by decide +kernel
theorem d24_105 : oD c_24 105 (.ireturn, 1) := by decide +kernel
theorem pn_24 : plainName "com/example/upright_play/uprightplay/event/Members" = true := by first | (simp [plainName, overriddenIn]; done) | decide +kernel
theorem ef_rm_isDel (m : MethodId) (x0 : Int32) : entryFrame m #[.int x0] 1 = mkF m 0 #[oI x0] [] := by first | (simp [entryFrame, mkF, argsToLocals, Value.category]; done) | rfl
def Q_rm_isDel (Z : State) (z1 : Int32) (h0 : Heap) (n0 : Nat) (v : Option Value) (h : Heap) (L : List Loc) : Prop := v = some (.int 1) ∧ Fr n0 L ∧ h = h0
set_option maxRecDepth 65536 in
set_option maxHeartbeats 40000000 in
theorem rm_isDel (l : Launch) (Z : State) (a0 : Array Value) (hw : ∀ d ∈ tables_1, d.before a0 Z = true) (ws : List Jvm.Cond) (z1 : Int32) (h0 : Heap) (n0 : Nat) (Zn : n0 ≤ h0.size) (hz : z1 = 32 ∨ z1 = 44 ∨ z1 = 125) :
    MetFree l y_24 (head1 (Jvm.Cond.code y_24 c_24 1 (some .boolean) :: ws) (oQ 0 0 0 0)) (fun a U => a = #[.int z1] ∧ Z.Warmed39 U.vm ∧ U.heap = h0) (fun _ _ _ _ _ => True) (fun _ U o U' => ∃ v L, o = .returned v ∧ (Q_rm_isDel Z z1 h0 n0) v U'.heap L ∧ FrameEnd U o U' L (oQ 0 0 0 0).cells (oQ 0 0 0 0).slots) := by
  refine MetFree.of_bodySF (plainFor_of_name pn_24) hisR ?_
  intro p e s m args below meth c s₁ Bd hml0 hP hK
  obtain ⟨rfl, hZ, hh⟩ := hP
  have hx := Bd.exec
  have G := @oG _ _ Bd.bytes
  have hml : c.maxLocals = 1 := hml0
  have hown : s.vm.findClass "com/example/upright_play/uprightplay/event/Members" = some m.cls := findClass_of_methodNamed Bd.named
  have hnm := (name_of_methodNamed Bd.named Bd.method).1
  have hlk : meth.locks = false := BodyLoose.notSynchronized Bd
  have X0 : Stand p l e (oQ 0 0 0 0) s m #[.int z1] below meth c s₁ [] 0 0 := Stand.of_body Bd
  have e0 : s₁.heap = h0 := by rw [← hh, Bd.state]; rfl
  have N := Fr.nil n0
  have K := Keep.refl h0 []
  refine own_start (cl := (oQ 0 0 0 0).cells) (sl := (oQ 0 0 0 0).slots) (Q := (Q_rm_isDel Z z1 h0 n0)) (ef_rm_isDel m z1) ?_
  rcases hz with rfl | rfl | rfl
  · refine own_by (S' := (oM s₁ m 105 #[oI 32] [.int 1])) (fun _ k => XS.iloadN X0.here hx rfl (G d24_0) rfl (X0.lookupswitchHit hx (g := (mkF m 1 #[oI 32] [.int 32])) rfl (k := (32 : Int32)) rfl (G d24_1) (by decide) (a := 32) (off := 99) (by decide) (show (0 : Int) ≤ 1 + 99 by decide) _ (XS.iconst X0.here hx rfl (G d24_100) (XS.goto X0.here hx rfl (pc0 := 101) (pc' := 105) rfl (G d24_101) (by decide) (by decide) k)))) ?_
    exact own_ret X0 hx (t := .boolean) Bd.returns rfl (Or.inl ⟨rfl, by simp, _, rfl⟩) (G d24_105) hlk (by decide : 0 ≤ _) (by decide : 0 ≤ _) (by rw [e0]; exact ⟨rfl, N, rfl⟩)
  · refine own_by (S' := (oM s₁ m 105 #[oI 44] [.int 1])) (fun _ k => XS.iloadN X0.here hx rfl (G d24_0) rfl (X0.lookupswitchHit hx (g := (mkF m 1 #[oI 44] [.int 44])) rfl (k := (44 : Int32)) rfl (G d24_1) (by decide) (a := 44) (off := 99) (by decide) (show (0 : Int) ≤ 1 + 99 by decide) _ (XS.iconst X0.here hx rfl (G d24_100) (XS.goto X0.here hx rfl (pc0 := 101) (pc' := 105) rfl (G d24_101) (by decide) (by decide) k)))) ?_
    exact own_ret X0 hx (t := .boolean) Bd.returns rfl (Or.inl ⟨rfl, by simp, _, rfl⟩) (G d24_105) hlk (by decide : 0 ≤ _) (by decide : 0 ≤ _) (by rw [e0]; exact ⟨rfl, N, rfl⟩)
  · refine own_by (S' := (oM s₁ m 105 #[oI 125] [.int 1])) (fun _ k => XS.iloadN X0.here hx rfl (G d24_0) rfl (X0.lookupswitchHit hx (g := (mkF m 1 #[oI 125] [.int 125])) rfl (k := (125 : Int32)) rfl (G d24_1) (by decide) (a := 125) (off := 99) (by decide) (show (0 : Int) ≤ 1 + 99 by decide) _ (XS.iconst X0.here hx rfl (G d24_100) (XS.goto X0.here hx rfl (pc0 := 101) (pc' := 105) rfl (G d24_101) (by decide) (by decide) k)))) ?_
    exact own_ret X0 hx (t := .boolean) Bd.returns rfl (Or.inl ⟨rfl, by simp, _, rfl⟩) (G d24_105) hlk (by decide : 0 ≤ _) (by decide : 0 ≤ _) (by rw [e0]; exact ⟨rfl, N, rfl⟩)
theorem d27_0 : oD c_27 0 (.iload_n 0, 1) := by decide +kernel
theorem d27_1 : oD c_27 1 (.ldc_w 307, 3) := by decide +kernel
theorem d27_4 : oD c_27 4 (.imul, 1) := by decide +kernel
theorem d27_5 : oD c_27 5 (.bipush 27, 2) := by decide +kernel
theorem d27_7 : oD c_27 7 (.iushr, 1) := by decide +kernel
theorem d27_8 : oD c_27 8 (.ireturn, 1) := by decide +kernel
theorem pn_27 : plainName "com/example/upright_play/uprightplay/event/Members" = true := by first | (simp [plainName, overriddenIn]; done) | decide +kernel
theorem ef_rm_slotOf (m : MethodId) (x0 : Int32) : entryFrame m #[.int x0] 1 = mkF m 0 #[oI x0] [] := by first | (simp [entryFrame, mkF, argsToLocals, Value.category]; done) | rfl
def Q_rm_slotOf (Z : State) (ch : Nat) (h0 : Heap) (n0 : Nat) (v : Option Value) (h : Heap) (L : List Loc) : Prop := v = some (.int (Int32.ofNat (own_sl ch))) ∧ Fr n0 L ∧ h = h0
set_option maxRecDepth 65536 in
set_option maxHeartbeats 40000000 in
theorem rm_slotOf (l : Launch) (Z : State) (a0 : Array Value) (hw : ∀ d ∈ tables_1, d.before a0 Z = true) (ws : List Jvm.Cond) (ch : Nat) (h0 : Heap) (n0 : Nat) (Zn : n0 ≤ h0.size) (hk : ch < 256) :
    MetFree l y_27 (head1 (Jvm.Cond.code y_27 c_27 1 (some .int) :: ws) (oQ 0 0 0 0)) (fun a U => a = #[(.int (Int32.ofNat ch))] ∧ Z.Warmed39 U.vm ∧ U.heap = h0) (fun _ _ _ _ _ => True) (fun _ U o U' => ∃ v L, o = .returned v ∧ (Q_rm_slotOf Z ch h0 n0) v U'.heap L ∧ FrameEnd U o U' L (oQ 0 0 0 0).cells (oQ 0 0 0 0).slots) := by
  refine MetFree.of_bodySF (plainFor_of_name pn_27) hisR ?_
  intro p e s m args below meth c s₁ Bd hml0 hP hK
  obtain ⟨rfl, hZ, hh⟩ := hP
  have hx := Bd.exec
  have G := @oG _ _ Bd.bytes
  have hml : c.maxLocals = 1 := hml0
  have hown : s.vm.findClass "com/example/upright_play/uprightplay/event/Members" = some m.cls := findClass_of_methodNamed Bd.named
  have hnm := (name_of_methodNamed Bd.named Bd.method).1
  have hlk : meth.locks = false := BodyLoose.notSynchronized Bd
  have X0 : Stand p l e (oQ 0 0 0 0) s m #[(.int (Int32.ofNat ch))] below meth c s₁ [] 0 0 := Stand.of_body Bd
  have e0 : s₁.heap = h0 := by rw [← hh, Bd.state]; rfl
  have N := Fr.nil n0
  have K := Keep.refl h0 []
  refine own_start (cl := (oQ 0 0 0 0).cells) (sl := (oQ 0 0 0 0).slots) (Q := (Q_rm_slotOf Z ch h0 n0)) (ef_rm_slotOf m ((Int32.ofNat ch))) ?_
  refine own_by (S' := (oM s₁ m 8 #[oI (Int32.ofNat ch)] [(.int ((((Int32.ofNat ch) * (-1640531527 : Int32)).toUInt32 >>> ((27 : Int32) &&& 31).toUInt32).toInt32))])) (fun _ k => XS.iloadN X0.here hx rfl (G d27_0) rfl (X0.ldcwInt hx hown (mvT hZ (gw hw 168 rfl)) (g := (mkF m 1 #[oI (Int32.ofNat ch)] [(.int (Int32.ofNat ch))])) rfl (G d27_1) _ (XS.imul X0.here hx rfl (G d27_4) rfl (XS.bipush X0.here hx rfl (G d27_5) (XS.iushr X0.here hx rfl (G d27_7) rfl k))))) ?_
  rw [show ((((Int32.ofNat ch) * (-1640531527 : Int32)).toUInt32 >>> ((27 : Int32) &&& 31).toUInt32).toInt32) = (Int32.ofNat (own_sl ch)) from (own_slot ch hk).1]
  exact own_ret X0 hx (t := .int) Bd.returns rfl (Or.inl ⟨rfl, by simp, _, rfl⟩) (G d27_8) hlk (by decide : 0 ≤ _) (by decide : 0 ≤ _) (by rw [e0]; exact ⟨rfl, N, rfl⟩)
theorem d37_0 : oD c_37 0 (.iload_n 0, 1) := by decide +kernel
theorem d37_1 : oD c_37 1 (.iconst 1, 1) := by decide +kernel
theorem d37_2 : oD c_37 2 (.iadd, 1) := by decide +kernel
theorem d37_3 : oD c_37 3 (.bipush 31, 2) := by decide +kernel
theorem d37_5 : oD c_37 5 (.iand, 1) := by decide +kernel
theorem d37_6 : oD c_37 6 (.ireturn, 1) := by decide +kernel
theorem pn_37 : plainName "com/example/upright_play/uprightplay/event/Members" = true := by first | (simp [plainName, overriddenIn]; done) | decide +kernel
theorem ef_rm_next (m : MethodId) (x0 : Int32) : entryFrame m #[.int x0] 1 = mkF m 0 #[oI x0] [] := by first | (simp [entryFrame, mkF, argsToLocals, Value.category]; done) | rfl
def Q_rm_next (Z : State) (j : Nat) (h0 : Heap) (n0 : Nat) (v : Option Value) (h : Heap) (L : List Loc) : Prop := v = some (.int (Int32.ofNat ((j + 1) % 32))) ∧ Fr n0 L ∧ h = h0
set_option maxRecDepth 65536 in
set_option maxHeartbeats 40000000 in
theorem rm_next (l : Launch) (Z : State) (a0 : Array Value) (hw : ∀ d ∈ tables_1, d.before a0 Z = true) (ws : List Jvm.Cond) (j : Nat) (h0 : Heap) (n0 : Nat) (Zn : n0 ≤ h0.size) (hj : j < 32) :
    MetFree l y_37 (head1 (Jvm.Cond.code y_37 c_37 1 (some .int) :: ws) (oQ 0 0 0 0)) (fun a U => a = #[(.int (Int32.ofNat j))] ∧ Z.Warmed39 U.vm ∧ U.heap = h0) (fun _ _ _ _ _ => True) (fun _ U o U' => ∃ v L, o = .returned v ∧ (Q_rm_next Z j h0 n0) v U'.heap L ∧ FrameEnd U o U' L (oQ 0 0 0 0).cells (oQ 0 0 0 0).slots) := by
  refine MetFree.of_bodySF (plainFor_of_name pn_37) hisR ?_
  intro p e s m args below meth c s₁ Bd hml0 hP hK
  obtain ⟨rfl, hZ, hh⟩ := hP
  have hx := Bd.exec
  have G := @oG _ _ Bd.bytes
  have hml : c.maxLocals = 1 := hml0
  have hown : s.vm.findClass "com/example/upright_play/uprightplay/event/Members" = some m.cls := findClass_of_methodNamed Bd.named
  have hnm := (name_of_methodNamed Bd.named Bd.method).1
  have hlk : meth.locks = false := BodyLoose.notSynchronized Bd
  have X0 : Stand p l e (oQ 0 0 0 0) s m #[(.int (Int32.ofNat j))] below meth c s₁ [] 0 0 := Stand.of_body Bd
  have e0 : s₁.heap = h0 := by rw [← hh, Bd.state]; rfl
  have N := Fr.nil n0
  have K := Keep.refl h0 []
  refine own_start (cl := (oQ 0 0 0 0).cells) (sl := (oQ 0 0 0 0).slots) (Q := (Q_rm_next Z j h0 n0)) (ef_rm_next m ((Int32.ofNat j))) ?_
  refine own_by (S' := (oM s₁ m 6 #[oI (Int32.ofNat j)] [(.int (((Int32.ofNat j) + (1 : Int32)) &&& (31 : Int32)))])) (fun _ k => XS.iloadN X0.here hx rfl (G d37_0) rfl (XS.iconst X0.here hx rfl (G d37_1) (XS.iadd X0.here hx rfl (G d37_2) rfl (XS.bipush X0.here hx rfl (G d37_3) (XS.iand X0.here hx rfl (G d37_5) rfl k))))) ?_
  rw [show (((Int32.ofNat j) + (1 : Int32)) &&& (31 : Int32)) = (Int32.ofNat ((j + 1) % 32)) from own_nxt j hj]
  exact own_ret X0 hx (t := .int) Bd.returns rfl (Or.inl ⟨rfl, by simp, _, rfl⟩) (G d37_6) hlk (by decide : 0 ≤ _) (by decide : 0 ≤ _) (by rw [e0]; exact ⟨rfl, N, rfl⟩)
theorem d29_0 : oD c_29 0 (.iload_n 0, 1) := by decide +kernel
theorem d29_1 : oD c_29 1 (.sipush 255, 3) := by decide +kernel
theorem d29_4 : oD c_29 4 (.if_icmp .gt 7, 3) := by decide +kernel
theorem d29_7 : oD c_29 7 (.iconst 1, 1) := by decide +kernel
theorem d29_8 : oD c_29 8 (.goto 4, 3) := by decide +kernel
theorem d29_12 : oD c_29 12 (.ireturn, 1) := by decide +kernel
theorem pn_29 : plainName "java/lang/StringLatin1" = true := by first | (simp [plainName, overriddenIn]; done) | decide +kernel
theorem ef_rm_canEnc (m : MethodId) (x0 : Int32) : entryFrame m #[.int x0] 1 = mkF m 0 #[oI x0] [] := by first | (simp [entryFrame, mkF, argsToLocals, Value.category]; done) | rfl
def Q_rm_canEnc (Z : State) (ch : Nat) (h0 : Heap) (n0 : Nat) (v : Option Value) (h : Heap) (L : List Loc) : Prop := v = some (.int 1) ∧ Fr n0 L ∧ h = h0
set_option maxRecDepth 65536 in
set_option maxHeartbeats 40000000 in
theorem rm_canEnc (l : Launch) (Z : State) (a0 : Array Value) (hw : ∀ d ∈ tables_1, d.before a0 Z = true) (ws : List Jvm.Cond) (ch : Nat) (h0 : Heap) (n0 : Nat) (Zn : n0 ≤ h0.size) (hk : ch < 256) :
    MetFree l y_29 (head1 (Jvm.Cond.code y_29 c_29 1 (some .boolean) :: ws) (oQ 0 0 0 0)) (fun a U => a = #[(.int (Int32.ofNat ch))] ∧ Z.Warmed39 U.vm ∧ U.heap = h0) (fun _ _ _ _ _ => True) (fun _ U o U' => ∃ v L, o = .returned v ∧ (Q_rm_canEnc Z ch h0 n0) v U'.heap L ∧ FrameEnd U o U' L (oQ 0 0 0 0).cells (oQ 0 0 0 0).slots) := by
  refine MetFree.of_bodySF (plainFor_of_name pn_29) hisR ?_
  intro p e s m args below meth c s₁ Bd hml0 hP hK
  obtain ⟨rfl, hZ, hh⟩ := hP
  have hx := Bd.exec
  have G := @oG _ _ Bd.bytes
  have hml : c.maxLocals = 1 := hml0
  have hown : s.vm.findClass "java/lang/StringLatin1" = some m.cls := findClass_of_methodNamed Bd.named
  have hnm := (name_of_methodNamed Bd.named Bd.method).1
  have hlk : meth.locks = false := BodyLoose.notSynchronized Bd
  have X0 : Stand p l e (oQ 0 0 0 0) s m #[(.int (Int32.ofNat ch))] below meth c s₁ [] 0 0 := Stand.of_body Bd
  have e0 : s₁.heap = h0 := by rw [← hh, Bd.state]; rfl
  have N := Fr.nil n0
  have K := Keep.refl h0 []
  refine own_start (cl := (oQ 0 0 0 0).cells) (sl := (oQ 0 0 0 0).slots) (Q := (Q_rm_canEnc Z ch h0 n0)) (ef_rm_canEnc m ((Int32.ofNat ch))) ?_
  refine own_by (S' := (oM s₁ m 12 #[oI (Int32.ofNat ch)] [.int 1])) (fun _ k => XS.iloadN X0.here hx rfl (G d29_0) rfl (XS.sipush X0.here hx rfl (G d29_1) (XS.icmpNo X0.here hx rfl (G d29_4) rfl (flt ((own_nlt (i := 255) (by omega) (by omega)) : ¬ ((255 : Int32) < (Int32.ofNat ch)))).2.2.1 (XS.iconst X0.here hx rfl (G d29_7) (XS.goto X0.here hx rfl (pc0 := 8) (pc' := 12) rfl (G d29_8) (by decide) (by decide) k))))) ?_
  exact own_ret X0 hx (t := .boolean) Bd.returns rfl (Or.inl ⟨rfl, by simp, _, rfl⟩) (G d29_12) hlk (by decide : 0 ≤ _) (by decide : 0 ≤ _) (by rw [e0]; exact ⟨rfl, N, rfl⟩)
theorem d17_0 : oD c_17 0 (.getstatic 38, 3) := by decide +kernel
theorem d17_3 : oD c_17 3 (.ifCond .eq 10, 3) := by decide +kernel
theorem d17_6 : oD c_17 6 (.aload_n 0, 1) := by decide +kernel
theorem d17_7 : oD c_17 7 (.getfield 15, 3) := by decide +kernel
theorem d17_10 : oD c_17 10 (.goto 4, 3) := by decide +kernel
theorem d17_14 : oD c_17 14 (.ireturn, 1) := by decide +kernel
theorem pn_17 : plainName "java/lang/String" = true := by first | (simp [plainName, overriddenIn]; done) | decide +kernel
theorem ef_rm_coder (m : MethodId) (x0 : Addr) : entryFrame m #[.ref x0] 1 = mkF m 0 #[oR x0] [] := by first | (simp [entryFrame, mkF, argsToLocals, Value.category]; done) | rfl
def Q_rm_coder (Z : State) (sa sb : Addr) (bs : List Value) (cs : Int32) (fo : Value) (bo : Addr) (h0 : Heap) (n0 : Nat) (v : Option Value) (h : Heap) (L : List Loc) : Prop := v = some (.int 0) ∧ Fr n0 L ∧ h = h0
set_option maxRecDepth 65536 in
set_option maxHeartbeats 40000000 in
theorem rm_coder (l : Launch) (Z : State) (a0 : Array Value) (hw : ∀ d ∈ tables_1, d.before a0 Z = true) (ws : List Jvm.Cond) (sa sb : Addr) (bs : List Value) (cs : Int32) (fo : Value) (bo : Addr) (h0 : Heap) (n0 : Nat) (Zn : n0 ≤ h0.size) (S_a : own_str Z h0 sa sb bs) (O : Old Z n0 h0) (SS : own_st Z cs fo bo) :
    MetFree l y_17 (head1 (Jvm.Cond.code y_17 c_17 1 (some .byte) :: ws) (oQ 0 0 0 0)) (fun a U => a = #[.ref sa] ∧ Z.Warmed39 U.vm ∧ U.heap = h0) (fun _ _ _ _ _ => True) (fun _ U o U' => ∃ v L, o = .returned v ∧ (Q_rm_coder Z sa sb bs cs fo bo h0 n0) v U'.heap L ∧ FrameEnd U o U' L (oQ 0 0 0 0).cells (oQ 0 0 0 0).slots) := by
  refine MetFree.of_bodySF (plainFor_of_name pn_17) hisR ?_
  intro p e s m args below meth c s₁ Bd hml0 hP hK
  obtain ⟨rfl, hZ, hh⟩ := hP
  have hx := Bd.exec
  have G := @oG _ _ Bd.bytes
  have hml : c.maxLocals = 1 := hml0
  have hown : s.vm.findClass "java/lang/String" = some m.cls := findClass_of_methodNamed Bd.named
  have hnm := (name_of_methodNamed Bd.named Bd.method).1
  have hlk : meth.locks = false := BodyLoose.notSynchronized Bd
  have X0 : Stand p l e (oQ 0 0 0 0) s m #[.ref sa] below meth c s₁ [] 0 0 := Stand.of_body Bd
  have e0 : s₁.heap = h0 := by rw [← hh, Bd.state]; rfl
  have N := Fr.nil n0
  have K := Keep.refl h0 []
  refine own_start (cl := (oQ 0 0 0 0).cells) (sl := (oQ 0 0 0 0).slots) (Q := (Q_rm_coder Z sa sb bs cs fo bo h0 n0)) (ef_rm_coder m sa) ?_
  obtain ⟨SC, hcs, SF, hfo, SB, EB⟩ := SS
  obtain ⟨E_sa, F_sa_c, F_sa_v, A_sb⟩ := S_a
  obtain ⟨T2, X2, e2, st2⟩ := getS2 X0 hx hZ hown (host := "") (Or.inl (gw hw 118 rfl)) Via.refl e0 (SC.ext O.2) (g := (mkF m 0 #[oR sa] [])) rfl (G d17_0)
  refine own_by st2 ?_
  refine own_by (S' := (oM T2 m 7 #[oR sa] [.ref sa])) (fun _ k => XS.ifNo X2.here hx rfl (G d17_3) rfl ((if0 _ _).trans (feq (hcs : ¬ (cs = (0 : Int32)))).1) (XS.aloadN X2.here hx rfl (G d17_6) rfl rfl k)) ?_
  obtain ⟨T3, X3, e3, st3⟩ := getF X2 hx hZ hown (host := "") (Or.inl (gw hw 119 rfl)) Via.refl e2 F_sa_c (g := (mkF m 7 #[oR sa] [.ref sa])) rfl rfl (G d17_7)
  refine own_by st3 ?_
  refine own_by (S' := (oM T3 m 14 #[oR sa] [.int 0])) (fun _ k => XS.goto X3.here hx rfl (pc0 := 10) (pc' := 14) rfl (G d17_10) (by decide) (by decide) k) ?_
  exact own_ret X3 hx (t := .byte) Bd.returns rfl (Or.inl ⟨rfl, by simp, _, rfl⟩) (G d17_14) hlk (by decide : 0 ≤ _) (by decide : 0 ≤ _) (by rw [e3]; exact ⟨rfl, N, rfl⟩)
theorem d19_0 : oD c_19 0 (.getstatic 38, 3) := by decide +kernel
theorem d19_3 : oD c_19 3 (.ifCond .eq 14, 3) := by decide +kernel
theorem d19_6 : oD c_19 6 (.aload_n 0, 1) := by decide +kernel
theorem d19_7 : oD c_19 7 (.getfield 15, 3) := by decide +kernel
theorem d19_10 : oD c_19 10 (.ifCond .ne 7, 3) := by decide +kernel
theorem d19_13 : oD c_19 13 (.iconst 1, 1) := by decide +kernel
theorem d19_14 : oD c_19 14 (.goto 4, 3) := by decide +kernel
theorem d19_18 : oD c_19 18 (.ireturn, 1) := by decide +kernel
theorem pn_19 : plainName "java/lang/String" = true := by first | (simp [plainName, overriddenIn]; done) | decide +kernel
theorem ef_rm_isL1 (m : MethodId) (x0 : Addr) : entryFrame m #[.ref x0] 1 = mkF m 0 #[oR x0] [] := by first | (simp [entryFrame, mkF, argsToLocals, Value.category]; done) | rfl
def Q_rm_isL1 (Z : State) (sa sb : Addr) (bs : List Value) (cs : Int32) (fo : Value) (bo : Addr) (h0 : Heap) (n0 : Nat) (v : Option Value) (h : Heap) (L : List Loc) : Prop := v = some (.int 1) ∧ Fr n0 L ∧ h = h0
set_option maxRecDepth 65536 in
set_option maxHeartbeats 40000000 in
theorem rm_isL1 (l : Launch) (Z : State) (a0 : Array Value) (hw : ∀ d ∈ tables_1, d.before a0 Z = true) (ws : List Jvm.Cond) (sa sb : Addr) (bs : List Value) (cs : Int32) (fo : Value) (bo : Addr) (h0 : Heap) (n0 : Nat) (Zn : n0 ≤ h0.size) (S_a : own_str Z h0 sa sb bs) (O : Old Z n0 h0) (SS : own_st Z cs fo bo) :
    MetFree l y_19 (head1 (Jvm.Cond.code y_19 c_19 1 (some .boolean) :: ws) (oQ 0 0 0 0)) (fun a U => a = #[.ref sa] ∧ Z.Warmed39 U.vm ∧ U.heap = h0) (fun _ _ _ _ _ => True) (fun _ U o U' => ∃ v L, o = .returned v ∧ (Q_rm_isL1 Z sa sb bs cs fo bo h0 n0) v U'.heap L ∧ FrameEnd U o U' L (oQ 0 0 0 0).cells (oQ 0 0 0 0).slots) := by
  refine MetFree.of_bodySF (plainFor_of_name pn_19) hisR ?_
  intro p e s m args below meth c s₁ Bd hml0 hP hK
  obtain ⟨rfl, hZ, hh⟩ := hP
  have hx := Bd.exec
  have G := @oG _ _ Bd.bytes
  have hml : c.maxLocals = 1 := hml0
  have hown : s.vm.findClass "java/lang/String" = some m.cls := findClass_of_methodNamed Bd.named
  have hnm := (name_of_methodNamed Bd.named Bd.method).1
  have hlk : meth.locks = false := BodyLoose.notSynchronized Bd
  have X0 : Stand p l e (oQ 0 0 0 0) s m #[.ref sa] below meth c s₁ [] 0 0 := Stand.of_body Bd
  have e0 : s₁.heap = h0 := by rw [← hh, Bd.state]; rfl
  have N := Fr.nil n0
  have K := Keep.refl h0 []
  refine own_start (cl := (oQ 0 0 0 0).cells) (sl := (oQ 0 0 0 0).slots) (Q := (Q_rm_isL1 Z sa sb bs cs fo bo h0 n0)) (ef_rm_isL1 m sa) ?_
  obtain ⟨SC, hcs, SF, hfo, SB, EB⟩ := SS
  obtain ⟨E_sa, F_sa_c, F_sa_v, A_sb⟩ := S_a
  obtain ⟨T4, X4, e4, st4⟩ := getS2 X0 hx hZ hown (host := "") (Or.inl (gw hw 118 rfl)) Via.refl e0 (SC.ext O.2) (g := (mkF m 0 #[oR sa] [])) rfl (G d19_0)
  refine own_by st4 ?_
  refine own_by (S' := (oM T4 m 7 #[oR sa] [.ref sa])) (fun _ k => XS.ifNo X4.here hx rfl (G d19_3) rfl ((if0 _ _).trans (feq (hcs : ¬ (cs = (0 : Int32)))).1) (XS.aloadN X4.here hx rfl (G d19_6) rfl rfl k)) ?_
  obtain ⟨T5, X5, e5, st5⟩ := getF X4 hx hZ hown (host := "") (Or.inl (gw hw 119 rfl)) Via.refl e4 F_sa_c (g := (mkF m 7 #[oR sa] [.ref sa])) rfl rfl (G d19_7)
  refine own_by st5 ?_
  refine own_by (S' := (oM T5 m 18 #[oR sa] [.int 1])) (fun _ k => XS.ifNo X5.here hx rfl (G d19_10) rfl ((if0 _ _).trans (teq ((by decide) : (0 : Int32) = (0 : Int32))).2) (XS.iconst X5.here hx rfl (G d19_13) (XS.goto X5.here hx rfl (pc0 := 14) (pc' := 18) rfl (G d19_14) (by decide) (by decide) k))) ?_
  exact own_ret X5 hx (t := .boolean) Bd.returns rfl (Or.inl ⟨rfl, by simp, _, rfl⟩) (G d19_18) hlk (by decide : 0 ≤ _) (by decide : 0 ≤ _) (by rw [e5]; exact ⟨rfl, N, rfl⟩)
theorem d22_0 : oD c_22 0 (.iload_n 0, 1) := by decide +kernel
theorem d22_1 : oD c_22 1 (.ifCond .lt 8, 3) := by decide +kernel
theorem d22_4 : oD c_22 4 (.iload_n 0, 1) := by decide +kernel
theorem d22_5 : oD c_22 5 (.iload_n 1, 1) := by decide +kernel
theorem d22_6 : oD c_22 6 (.if_icmp .lt 10, 3) := by decide +kernel
theorem d22_16 : oD c_22 16 (.iload_n 0, 1) := by decide +kernel
theorem d22_17 : oD c_22 17 (.ireturn, 1) := by decide +kernel
theorem pn_22 : plainName "jdk/internal/util/Preconditions" = true := by first | (simp [plainName, overriddenIn]; done) | decide +kernel
theorem ef_rm_pciN (m : MethodId) (x0 : Int32) (x1 : Int32) : entryFrame m #[.int x0, .int x1, .null] 3 = mkF m 0 #[oI x0, oI x1, .val .null] [] := by first | (simp [entryFrame, mkF, argsToLocals, Value.category]; done) | rfl
def Q_rm_pciN (Z : State) (i n : Int32) (h0 : Heap) (n0 : Nat) (v : Option Value) (h : Heap) (L : List Loc) : Prop := v = some (.int i) ∧ Fr n0 L ∧ h = h0
set_option maxRecDepth 65536 in
set_option maxHeartbeats 40000000 in
theorem rm_pciN (l : Launch) (Z : State) (a0 : Array Value) (hw : ∀ d ∈ tables_1, d.before a0 Z = true) (ws : List Jvm.Cond) (i n : Int32) (h0 : Heap) (n0 : Nat) (Zn : n0 ≤ h0.size) (hi : ¬ i < 0) (hn : i < n) :
    MetFree l y_22 (head1 (Jvm.Cond.code y_22 c_22 3 (some .int) :: ws) (oQ 0 0 0 0)) (fun a U => a = #[.int i, .int n, .null] ∧ Z.Warmed39 U.vm ∧ U.heap = h0) (fun _ _ _ _ _ => True) (fun _ U o U' => ∃ v L, o = .returned v ∧ (Q_rm_pciN Z i n h0 n0) v U'.heap L ∧ FrameEnd U o U' L (oQ 0 0 0 0).cells (oQ 0 0 0 0).slots) := by
  refine MetFree.of_bodySF (plainFor_of_name pn_22) hisR ?_
  intro p e s m args below meth c s₁ Bd hml0 hP hK
  obtain ⟨rfl, hZ, hh⟩ := hP
  have hx := Bd.exec
  have G := @oG _ _ Bd.bytes
  have hml : c.maxLocals = 3 := hml0
  have hown : s.vm.findClass "jdk/internal/util/Preconditions" = some m.cls := findClass_of_methodNamed Bd.named
  have hnm := (name_of_methodNamed Bd.named Bd.method).1
  have hlk : meth.locks = false := BodyLoose.notSynchronized Bd
  have X0 : Stand p l e (oQ 0 0 0 0) s m #[.int i, .int n, .null] below meth c s₁ [] 0 0 := Stand.of_body Bd
  have e0 : s₁.heap = h0 := by rw [← hh, Bd.state]; rfl
  have N := Fr.nil n0
  have K := Keep.refl h0 []
  refine own_start (cl := (oQ 0 0 0 0).cells) (sl := (oQ 0 0 0 0).slots) (Q := (Q_rm_pciN Z i n h0 n0)) (ef_rm_pciN m i n) ?_
  refine own_by (S' := (oM s₁ m 17 #[oI i, oI n, .val .null] [.int i])) (fun _ k => XS.iloadN X0.here hx rfl (G d22_0) rfl (XS.ifNo X0.here hx rfl (G d22_1) rfl ((if0 _ _).trans (flt (hi : ¬ (i < (0 : Int32)))).1) (XS.iloadN X0.here hx rfl (G d22_4) rfl (XS.iloadN X0.here hx rfl (G d22_5) rfl (XS.icmpYes X0.here hx rfl (pc0 := 6) (pc' := 16) rfl (G d22_6) rfl (tlt (hn : i < n)).1 (by decide) (by decide) (XS.iloadN X0.here hx rfl (G d22_16) rfl k)))))) ?_
  exact own_ret X0 hx (t := .int) Bd.returns rfl (Or.inl ⟨rfl, by simp, _, rfl⟩) (G d22_17) hlk (by decide : 0 ≤ _) (by decide : 0 ≤ _) (by rw [e0]; exact ⟨rfl, N, rfl⟩)
theorem ef_rm_pci (m : MethodId) (x0 : Int32) (x1 : Int32) (x2 : Addr) : entryFrame m #[.int x0, .int x1, .ref x2] 3 = mkF m 0 #[oI x0, oI x1, oR x2] [] := by first | (simp [entryFrame, mkF, argsToLocals, Value.category]; done) | rfl
def Q_rm_pci (Z : State) (i n : Int32) (fo : Addr) (h0 : Heap) (n0 : Nat) (v : Option Value) (h : Heap) (L : List Loc) : Prop := v = some (.int i) ∧ Fr n0 L ∧ h = h0
set_option maxRecDepth 65536 in
set_option maxHeartbeats 40000000 in
theorem rm_pci (l : Launch) (Z : State) (a0 : Array Value) (hw : ∀ d ∈ tables_1, d.before a0 Z = true) (ws : List Jvm.Cond) (i n : Int32) (fo : Addr) (h0 : Heap) (n0 : Nat) (Zn : n0 ≤ h0.size) (hi : ¬ i < 0) (hn : i < n) :
    MetFree l y_22 (head1 (Jvm.Cond.code y_22 c_22 3 (some .int) :: ws) (oQ 0 0 0 0)) (fun a U => a = #[.int i, .int n, .ref fo] ∧ Z.Warmed39 U.vm ∧ U.heap = h0) (fun _ _ _ _ _ => True) (fun _ U o U' => ∃ v L, o = .returned v ∧ (Q_rm_pci Z i n fo h0 n0) v U'.heap L ∧ FrameEnd U o U' L (oQ 0 0 0 0).cells (oQ 0 0 0 0).slots) := by
  refine MetFree.of_bodySF (plainFor_of_name pn_22) hisR ?_
  intro p e s m args below meth c s₁ Bd hml0 hP hK
  obtain ⟨rfl, hZ, hh⟩ := hP
  have hx := Bd.exec
  have G := @oG _ _ Bd.bytes
  have hml : c.maxLocals = 3 := hml0
  have hown : s.vm.findClass "jdk/internal/util/Preconditions" = some m.cls := findClass_of_methodNamed Bd.named
  have hnm := (name_of_methodNamed Bd.named Bd.method).1
  have hlk : meth.locks = false := BodyLoose.notSynchronized Bd
  have X0 : Stand p l e (oQ 0 0 0 0) s m #[.int i, .int n, .ref fo] below meth c s₁ [] 0 0 := Stand.of_body Bd
  have e0 : s₁.heap = h0 := by rw [← hh, Bd.state]; rfl
  have N := Fr.nil n0
  have K := Keep.refl h0 []
  refine own_start (cl := (oQ 0 0 0 0).cells) (sl := (oQ 0 0 0 0).slots) (Q := (Q_rm_pci Z i n fo h0 n0)) (ef_rm_pci m i n fo) ?_
  refine own_by (S' := (oM s₁ m 17 #[oI i, oI n, oR fo] [.int i])) (fun _ k => XS.iloadN X0.here hx rfl (G d22_0) rfl (XS.ifNo X0.here hx rfl (G d22_1) rfl ((if0 _ _).trans (flt (hi : ¬ (i < (0 : Int32)))).1) (XS.iloadN X0.here hx rfl (G d22_4) rfl (XS.iloadN X0.here hx rfl (G d22_5) rfl (XS.icmpYes X0.here hx rfl (pc0 := 6) (pc' := 16) rfl (G d22_6) rfl (tlt (hn : i < n)).1 (by decide) (by decide) (XS.iloadN X0.here hx rfl (G d22_16) rfl k)))))) ?_
  exact own_ret X0 hx (t := .int) Bd.returns rfl (Or.inl ⟨rfl, by simp, _, rfl⟩) (G d22_17) hlk (by decide : 0 ≤ _) (by decide : 0 ≤ _) (by rw [e0]; exact ⟨rfl, N, rfl⟩)
theorem d21_0 : oD c_21 0 (.iload_n 0, 1) := by decide +kernel
theorem d21_1 : oD c_21 1 (.iload_n 1, 1) := by decide +kernel
theorem d21_2 : oD c_21 2 (.getstatic 1053, 3) := by decide +kernel
theorem d21_5 : oD c_21 5 (.invokestatic 1059, 3) := by decide +kernel
theorem d21_8 : oD c_21 8 (.pop, 1) := by decide +kernel
theorem d21_9 : oD c_21 9 (.return_, 1) := by decide +kernel
theorem pn_21 : plainName "java/lang/String" = true := by first | (simp [plainName, overriddenIn]; done) | decide +kernel
theorem ef_rm_sci (m : MethodId) (x0 : Int32) (x1 : Int32) : entryFrame m #[.int x0, .int x1] 2 = mkF m 0 #[oI x0, oI x1] [] := by first | (simp [entryFrame, mkF, argsToLocals, Value.category]; done) | rfl
def Q_rm_sci (Z : State) (i n : Int32) (cs : Int32) (fo : Value) (bo : Addr) (h0 : Heap) (n0 : Nat) (v : Option Value) (h : Heap) (L : List Loc) : Prop := v = none ∧ Fr n0 L ∧ h = h0
theorem pd__28IILjava_2futil_2ffunction_2fBiFunction_3b_29I : parseMethodDescriptor "(IILjava/util/function/BiFunction;)I" = some ⟨[.int, .int, (.object "java/util/function/BiFunction")], some .int⟩ := by decide +kernel
set_option maxRecDepth 65536 in
set_option maxHeartbeats 40000000 in
theorem rm_sci (l : Launch) (Z : State) (a0 : Array Value) (hw : ∀ d ∈ tables_1, d.before a0 Z = true) (ws : List Jvm.Cond) (i n : Int32) (cs : Int32) (fo : Value) (bo : Addr) (h0 : Heap) (n0 : Nat) (Zn : n0 ≤ h0.size) (hi : ¬ i < 0) (hn : i < n) (O : Old Z n0 h0) (SS : own_st Z cs fo bo) :
    MetFree l y_21 (head1 (Jvm.Cond.code y_21 c_21 2 none :: ws) (oQ 1 0 0 16)) (fun a U => a = #[.int i, .int n] ∧ Z.Warmed39 U.vm ∧ U.heap = h0) (fun _ _ _ _ _ => True) (fun _ U o U' => ∃ v L, o = .returned v ∧ (Q_rm_sci Z i n cs fo bo h0 n0) v U'.heap L ∧ FrameEnd U o U' L (oQ 1 0 0 16).cells (oQ 1 0 0 16).slots) := by
  refine MetFree.of_bodySF (plainFor_of_name pn_21) hisR ?_
  intro p e s m args below meth c s₁ Bd hml0 hP hK
  obtain ⟨rfl, hZ, hh⟩ := hP
  have hx := Bd.exec
  have G := @oG _ _ Bd.bytes
  have hml : c.maxLocals = 2 := hml0
  have hown : s.vm.findClass "java/lang/String" = some m.cls := findClass_of_methodNamed Bd.named
  have hnm := (name_of_methodNamed Bd.named Bd.method).1
  have hlk : meth.locks = false := BodyLoose.notSynchronized Bd
  have X0 : Stand p l e (oQ 1 0 0 16) s m #[.int i, .int n] below meth c s₁ [] 0 0 := Stand.of_body Bd
  have e0 : s₁.heap = h0 := by rw [← hh, Bd.state]; rfl
  have N := Fr.nil n0
  have K := Keep.refl h0 []
  refine own_start (cl := (oQ 1 0 0 16).cells) (sl := (oQ 1 0 0 16).slots) (Q := (Q_rm_sci Z i n cs fo bo h0 n0)) (ef_rm_sci m i n) ?_
  obtain ⟨SC, hcs, SF, hfo, SB, EB⟩ := SS
  rcases hfo with rfl | ⟨fa, rfl⟩
  · refine own_by (S' := (oM s₁ m 2 #[oI i, oI n] [.int n, .int i])) (fun _ k => XS.iloadN X0.here hx rfl (G d21_0) rfl (XS.iloadN X0.here hx rfl (G d21_1) rfl k)) ?_
    obtain ⟨T6, X6, e6, st6⟩ := getS2 X0 hx hZ hown (host := "") (Or.inl (gw hw 137 rfl)) Via.refl e0 (SF.ext O.2) (g := (mkF m 2 #[oI i, oI n] [.int n, .int i])) rfl (G d21_2)
    refine own_by st6 ?_
    obtain ⟨_, _, ⟨T7, L7, k7, n7⟩, -, X7, ⟨Lc7, hQ7, l7, y7, z7⟩, st7⟩ := Jvm.LawKit.callS X6 hx (y := y_22) hown (mvT hZ (gw hw 139 rfl)) (mvT hZ (gw hw 140 rfl)) (mvT hZ (gw hw 138 rfl)) (mvT hZ (gw hw 141 rfl)) (by decide) (backOf (W := 0) (rm_pciN l Z a0 hw [] i n  h0 n0 Zn hi hn) hZ (gw hw 141 rfl) (gw hw 138 rfl) (by decide) (by decide)) (g := (mkF m 5 #[oI i, oI n] [.null, .int n, .int i])) rfl (by rw [hml]; rfl) (argsL := [.int i, .int n, .null]) (rest := []) (lenOf pd__28IILjava_2futil_2ffunction_2fBiFunction_3b_29I rfl) rfl oZ (G d21_5) (fun _ _ => ⟨rfl, e6, (by decide : 0 + 0 ≤ _), (by decide : 0 + 0 ≤ _)⟩)
    dsimp only [Pt.U, Pt.locs, Pt.cells, Pt.slots] at X7 l7 y7 z7 st7 hQ7
    have X7 := own_recast X7 l7 y7 z7
    obtain ⟨rfl, N7q, eh⟩ := hQ7
    have N := Fr.app N N7q
    refine own_by st7 ?_
    refine own_by (S' := (oM T7 m 9 #[oI i, oI n] [])) (fun _ k => XS.pop X7.here hx rfl (G d21_8) rfl rfl k) ?_
    exact own_ret0 X7 hx Bd.returns (G d21_9) hlk (by decide : 0 ≤ _) (by decide : 0 ≤ _) (by rw [eh]; exact ⟨rfl, N, rfl⟩)
  · refine own_by (S' := (oM s₁ m 2 #[oI i, oI n] [.int n, .int i])) (fun _ k => XS.iloadN X0.here hx rfl (G d21_0) rfl (XS.iloadN X0.here hx rfl (G d21_1) rfl k)) ?_
    obtain ⟨T8, X8, e8, st8⟩ := getS2 X0 hx hZ hown (host := "") (Or.inl (gw hw 137 rfl)) Via.refl e0 (SF.ext O.2) (g := (mkF m 2 #[oI i, oI n] [.int n, .int i])) rfl (G d21_2)
    refine own_by st8 ?_
    obtain ⟨_, _, ⟨T9, L9, k9, n9⟩, -, X9, ⟨Lc9, hQ9, l9, y9, z9⟩, st9⟩ := Jvm.LawKit.callS X8 hx (y := y_22) hown (mvT hZ (gw hw 139 rfl)) (mvT hZ (gw hw 140 rfl)) (mvT hZ (gw hw 138 rfl)) (mvT hZ (gw hw 141 rfl)) (by decide) (backOf (W := 0) (rm_pci l Z a0 hw [] i n fa h0 n0 Zn hi hn) hZ (gw hw 141 rfl) (gw hw 138 rfl) (by decide) (by decide)) (g := (mkF m 5 #[oI i, oI n] [.ref fa, .int n, .int i])) rfl (by rw [hml]; rfl) (argsL := [.int i, .int n, .ref fa]) (rest := []) (lenOf pd__28IILjava_2futil_2ffunction_2fBiFunction_3b_29I rfl) rfl oZ (G d21_5) (fun _ _ => ⟨rfl, e8, (by decide : 0 + 0 ≤ _), (by decide : 0 + 0 ≤ _)⟩)
    dsimp only [Pt.U, Pt.locs, Pt.cells, Pt.slots] at X9 l9 y9 z9 st9 hQ9
    have X9 := own_recast X9 l9 y9 z9
    obtain ⟨rfl, N9q, eh⟩ := hQ9
    have N := Fr.app N N9q
    refine own_by st9 ?_
    refine own_by (S' := (oM T9 m 9 #[oI i, oI n] [])) (fun _ k => XS.pop X9.here hx rfl (G d21_8) rfl rfl k) ?_
    exact own_ret0 X9 hx Bd.returns (G d21_9) hlk (by decide : 0 ≤ _) (by decide : 0 ≤ _) (by rw [eh]; exact ⟨rfl, N, rfl⟩)
theorem d20_0 : oD c_20 0 (.iload_n 1, 1) := by decide +kernel
theorem d20_1 : oD c_20 1 (.aload_n 0, 1) := by decide +kernel
theorem d20_2 : oD c_20 2 (.arraylength, 1) := by decide +kernel
theorem d20_3 : oD c_20 3 (.invokestatic 9, 3) := by decide +kernel
theorem d20_6 : oD c_20 6 (.aload_n 0, 1) := by decide +kernel
theorem d20_7 : oD c_20 7 (.iload_n 1, 1) := by decide +kernel
theorem d20_8 : oD c_20 8 (.baload, 1) := by decide +kernel
theorem d20_9 : oD c_20 9 (.sipush 255, 3) := by decide +kernel
theorem d20_12 : oD c_20 12 (.iand, 1) := by decide +kernel
theorem d20_13 : oD c_20 13 (.i2c, 1) := by decide +kernel
theorem d20_14 : oD c_20 14 (.ireturn, 1) := by decide +kernel
theorem pn_20 : plainName "java/lang/StringLatin1" = true := by first | (simp [plainName, overriddenIn]; done) | decide +kernel
theorem ef_rm_l1c (m : MethodId) (x0 : Addr) (x1 : Int32) : entryFrame m #[.ref x0, .int x1] 2 = mkF m 0 #[oR x0, oI x1] [] := by first | (simp [entryFrame, mkF, argsToLocals, Value.category]; done) | rfl
def Q_rm_l1c (Z : State) (sb : Addr) (bs : List Value) (i z r : Int32) (cs : Int32) (fo : Value) (bo : Addr) (h0 : Heap) (n0 : Nat) (v : Option Value) (h : Heap) (L : List Loc) : Prop := v = some (.int r) ∧ Fr n0 L ∧ h = h0
theorem pd__28II_29V : parseMethodDescriptor "(II)V" = some ⟨[.int, .int], none⟩ := by decide +kernel
set_option maxRecDepth 65536 in
set_option maxHeartbeats 40000000 in
theorem rm_l1c (l : Launch) (Z : State) (a0 : Array Value) (hw : ∀ d ∈ tables_1, d.before a0 Z = true) (ws : List Jvm.Cond) (sb : Addr) (bs : List Value) (i z r : Int32) (cs : Int32) (fo : Value) (bo : Addr) (h0 : Heap) (n0 : Nat) (Zn : n0 ≤ h0.size) (A_sb : OwnA Z h0 sb .byte bs) (hi : ¬ i < 0) (hn : i < Int32.ofNat bs.length) (hz : bs[i.toNatClampNeg]? = some (.int z)) (hr : (z &&& (255 : Int32)).toUInt32.toUInt16.toUInt32.toInt32 = r) (hr2 : r.toUInt32.toUInt16.toUInt32.toInt32 = r) (O : Old Z n0 h0) (SS : own_st Z cs fo bo) :
    MetFree l y_20 (head1 (Jvm.Cond.code y_20 c_20 2 (some .char) :: ws) (oQ 2 0 0 30)) (fun a U => a = #[.ref sb, .int i] ∧ Z.Warmed39 U.vm ∧ U.heap = h0) (fun _ _ _ _ _ => True) (fun _ U o U' => ∃ v L, o = .returned v ∧ (Q_rm_l1c Z sb bs i z r cs fo bo h0 n0) v U'.heap L ∧ FrameEnd U o U' L (oQ 2 0 0 30).cells (oQ 2 0 0 30).slots) := by
  refine MetFree.of_bodySF (plainFor_of_name pn_20) hisR ?_
  intro p e s m args below meth c s₁ Bd hml0 hP hK
  obtain ⟨rfl, hZ, hh⟩ := hP
  have hx := Bd.exec
  have G := @oG _ _ Bd.bytes
  have hml : c.maxLocals = 2 := hml0
  have hown : s.vm.findClass "java/lang/StringLatin1" = some m.cls := findClass_of_methodNamed Bd.named
  have hnm := (name_of_methodNamed Bd.named Bd.method).1
  have hlk : meth.locks = false := BodyLoose.notSynchronized Bd
  have X0 : Stand p l e (oQ 2 0 0 30) s m #[.ref sb, .int i] below meth c s₁ [] 0 0 := Stand.of_body Bd
  have e0 : s₁.heap = h0 := by rw [← hh, Bd.state]; rfl
  have N := Fr.nil n0
  have K := Keep.refl h0 []
  refine own_start (cl := (oQ 2 0 0 30).cells) (sl := (oQ 2 0 0 30).slots) (Q := (Q_rm_l1c Z sb bs i z r cs fo bo h0 n0)) (ef_rm_l1c m sb i) ?_
  obtain ⟨SC, hcs, SF, hfo, SB, EB⟩ := SS
  refine own_by (S' := (oM s₁ m 3 #[oR sb, oI i] [(.int (Int32.ofNat bs.length)), .int i])) (fun _ k => XS.iloadN X0.here hx rfl (G d20_0) rfl (XS.aloadN X0.here hx rfl (G d20_1) rfl rfl (own_len X0 hx hZ e0 A_sb rfl (g := (mkF m 2 #[oR sb, oI i] [.ref sb, .int i])) rfl rfl (G d20_2) _ k))) ?_
  obtain ⟨_, _, ⟨T10, L10, k10, n10⟩, -, X10, ⟨Lc10, hQ10, l10, y10, z10⟩, st10⟩ := Jvm.LawKit.callS X0 hx (y := y_21) hown (mvT hZ (gw hw 134 rfl)) (mvT hZ (gw hw 135 rfl)) (mvT hZ (gw hw 97 rfl)) (mvT hZ (gw hw 136 rfl)) (by decide) (backOf (W := 0) (rm_sci l Z a0 hw [] i (Int32.ofNat bs.length) cs fo bo h0 n0 Zn hi hn O ⟨SC, hcs, SF, hfo, SB, EB⟩) hZ (gw hw 136 rfl) (gw hw 97 rfl) (by decide) (by decide)) (g := (mkF m 3 #[oR sb, oI i] [(.int (Int32.ofNat bs.length)), .int i])) rfl (by rw [hml]; rfl) (argsL := [.int i, (.int (Int32.ofNat bs.length))]) (rest := []) (lenOf pd__28II_29V rfl) rfl oZ (G d20_3) (fun _ _ => ⟨rfl, e0, (by decide : 0 + 0 ≤ _), (by decide : 0 + 0 ≤ _)⟩)
  dsimp only [Pt.U, Pt.locs, Pt.cells, Pt.slots] at X10 l10 y10 z10 st10 hQ10
  have X10 := own_recast X10 l10 y10 z10
  obtain ⟨rfl, N10q, eh⟩ := hQ10
  have N := Fr.app N N10q
  refine own_by st10 ?_
  refine own_by (S' := (oM T10 m 14 #[oR sb, oI i] [(.int ((z &&& (255 : Int32)).toUInt32.toUInt16.toUInt32.toInt32))])) (fun _ k => XS.aloadN X10.here hx rfl (G d20_6) rfl rfl (XS.iloadN X10.here hx rfl (G d20_7) rfl (own_baload X10 hx hZ eh A_sb hi (v := (.int z)) hz (g := (mkF m 8 #[oR sb, oI i] [.int i, .ref sb])) rfl rfl (G d20_8) _ (XS.sipush X10.here hx rfl (G d20_9) (XS.iand X10.here hx rfl (G d20_12) rfl (XS.i2c X10.here hx rfl (G d20_13) rfl k)))))) ?_
  rw [show ((z &&& (255 : Int32)).toUInt32.toUInt16.toUInt32.toInt32) = r from hr]
  exact own_ret X10 hx (t := .char) Bd.returns (congrArg Value.int hr2) (Or.inl ⟨rfl, by simp, _, rfl⟩) (G d20_14) hlk (by decide : 0 ≤ _) (by decide : 0 ≤ _) (by rw [eh]; exact ⟨rfl, N, rfl⟩)
theorem d16_0 : oD c_16 0 (.aload_n 0, 1) := by decide +kernel
theorem d16_1 : oD c_16 1 (.getfield 9, 3) := by decide +kernel
theorem d16_4 : oD c_16 4 (.arraylength, 1) := by decide +kernel
theorem d16_5 : oD c_16 5 (.aload_n 0, 1) := by decide +kernel
theorem d16_6 : oD c_16 6 (.invokevirtual 335, 3) := by decide +kernel
theorem d16_9 : oD c_16 9 (.ishr, 1) := by decide +kernel
theorem d16_10 : oD c_16 10 (.ireturn, 1) := by decide +kernel
theorem pn_16 : plainName "java/lang/String" = true := by first | (simp [plainName, overriddenIn]; done) | decide +kernel
theorem ef_rm_len (m : MethodId) (x0 : Addr) : entryFrame m #[.ref x0] 1 = mkF m 0 #[oR x0] [] := by first | (simp [entryFrame, mkF, argsToLocals, Value.category]; done) | rfl
def Q_rm_len (Z : State) (sa sb : Addr) (bs : List Value) (cs : Int32) (fo : Value) (bo : Addr) (h0 : Heap) (n0 : Nat) (v : Option Value) (h : Heap) (L : List Loc) : Prop := v = some (.int (Int32.ofNat bs.length)) ∧ Fr n0 L ∧ h = h0
theorem pd__28_29B : parseMethodDescriptor "()B" = some ⟨[], some .byte⟩ := by decide +kernel
set_option maxRecDepth 65536 in
set_option maxHeartbeats 40000000 in
theorem rm_len (l : Launch) (Z : State) (a0 : Array Value) (hw : ∀ d ∈ tables_1, d.before a0 Z = true) (ws : List Jvm.Cond) (sa sb : Addr) (bs : List Value) (cs : Int32) (fo : Value) (bo : Addr) (h0 : Heap) (n0 : Nat) (Zn : n0 ≤ h0.size) (S_a : own_str Z h0 sa sb bs) (O : Old Z n0 h0) (SS : own_st Z cs fo bo) :
    MetFree l y_16 (head1 (Jvm.Cond.code y_16 c_16 1 (some .int) :: ws) (oQ 1 0 0 16)) (fun a U => a = #[.ref sa] ∧ Z.Warmed39 U.vm ∧ U.heap = h0) (fun _ _ _ _ _ => True) (fun _ U o U' => ∃ v L, o = .returned v ∧ (Q_rm_len Z sa sb bs cs fo bo h0 n0) v U'.heap L ∧ FrameEnd U o U' L (oQ 1 0 0 16).cells (oQ 1 0 0 16).slots) := by
  refine MetFree.of_bodySF (plainFor_of_name pn_16) hisR ?_
  intro p e s m args below meth c s₁ Bd hml0 hP hK
  obtain ⟨rfl, hZ, hh⟩ := hP
  have hx := Bd.exec
  have G := @oG _ _ Bd.bytes
  have hml : c.maxLocals = 1 := hml0
  have hown : s.vm.findClass "java/lang/String" = some m.cls := findClass_of_methodNamed Bd.named
  have hnm := (name_of_methodNamed Bd.named Bd.method).1
  have hlk : meth.locks = false := BodyLoose.notSynchronized Bd
  have X0 : Stand p l e (oQ 1 0 0 16) s m #[.ref sa] below meth c s₁ [] 0 0 := Stand.of_body Bd
  have e0 : s₁.heap = h0 := by rw [← hh, Bd.state]; rfl
  have N := Fr.nil n0
  have K := Keep.refl h0 []
  refine own_start (cl := (oQ 1 0 0 16).cells) (sl := (oQ 1 0 0 16).slots) (Q := (Q_rm_len Z sa sb bs cs fo bo h0 n0)) (ef_rm_len m sa) ?_
  obtain ⟨SC, hcs, SF, hfo, SB, EB⟩ := SS
  obtain ⟨E_sa, F_sa_c, F_sa_v, A_sb⟩ := S_a
  refine own_by (S' := (oM s₁ m 1 #[oR sa] [.ref sa])) (fun _ k => XS.aloadN X0.here hx rfl (G d16_0) rfl rfl k) ?_
  obtain ⟨T11, X11, e11, st11⟩ := getF X0 hx hZ hown (host := "") (Or.inl (gw hw 112 rfl)) Via.refl e0 F_sa_v (g := (mkF m 1 #[oR sa] [.ref sa])) rfl rfl (G d16_1)
  refine own_by st11 ?_
  refine own_by (S' := (oM T11 m 6 #[oR sa] [.ref sa, (.int (Int32.ofNat bs.length))])) (fun _ k => own_len X11 hx hZ e11 A_sb rfl (g := (mkF m 4 #[oR sa] [.ref sb])) rfl rfl (G d16_4) _ (XS.aloadN X11.here hx rfl (G d16_5) rfl rfl k)) ?_
  obtain ⟨cq12, kq12, q12a, q12b, q12c⟩ := isOf hZ e11 E_sa
  obtain ⟨_, _, ⟨T12, L12, k12, n12⟩, -, X12, ⟨Lc12, hQ12, l12, y12, z12⟩, st12⟩ := X11.virtualBack hx (y := y_17) (z := y_17) hown (mvT hZ (gw hw 113 rfl)) (mvT hZ (gw hw 114 rfl)) (notFace_of_selects (args := #[]) (mvT hZ (gw hw 116 rfl))) (mvT hZ (gw hw 116 rfl)) (mvT hZ (gw hw 115 rfl)) (by decide) (backOf (W := 1) (rm_coder l Z a0 hw [] sa sb bs cs fo bo h0 n0 Zn ⟨E_sa, F_sa_c, F_sa_v, A_sb⟩ O ⟨SC, hcs, SF, hfo, SB, EB⟩) hZ (gw hw 117 rfl) (gw hw 97 rfl) (by decide) (by decide)) q12a q12c (g := (mkF m 6 #[oR sa] [.ref sa, (.int (Int32.ofNat bs.length))])) rfl (by rw [hml]; rfl) (Steps.refl _) (argsL := []) (rest := [(.int (Int32.ofNat bs.length))]) (lenOf pd__28_29B rfl) rfl oZ (G d16_6) (fun _ _ => ⟨rfl, e11, (by decide : 0 + 0 ≤ _), (by decide : 0 + 0 ≤ _)⟩)
  dsimp only [Pt.U, Pt.locs, Pt.cells, Pt.slots] at X12 l12 y12 z12 st12 hQ12
  have X12 := own_recast X12 l12 y12 z12
  obtain ⟨rfl, N12q, eh⟩ := hQ12
  have N := Fr.app N N12q
  refine own_tr st12 ?_
  refine own_by (S' := (oM T12 m 10 #[oR sa] [(.int ((Int32.ofNat bs.length) >>> ((0 : Int32) &&& 31)))])) (fun _ k => XS.ishr X12.here hx rfl (G d16_9) rfl k) ?_
  rw [show ((Int32.ofNat bs.length) >>> ((0 : Int32) &&& 31)) = (Int32.ofNat bs.length) from own_shr0 _]
  exact own_ret X12 hx (t := .int) Bd.returns rfl (Or.inl ⟨rfl, by simp, _, rfl⟩) (G d16_10) hlk (by decide : 0 ≤ _) (by decide : 0 ≤ _) (by rw [eh]; exact ⟨rfl, N, rfl⟩)
theorem d18_0 : oD c_18 0 (.aload_n 0, 1) := by decide +kernel
theorem d18_1 : oD c_18 1 (.invokevirtual 492, 3) := by decide +kernel
theorem d18_4 : oD c_18 4 (.ifCond .eq 12, 3) := by decide +kernel
theorem d18_7 : oD c_18 7 (.aload_n 0, 1) := by decide +kernel
theorem d18_8 : oD c_18 8 (.getfield 9, 3) := by decide +kernel
theorem d18_11 : oD c_18 11 (.iload_n 1, 1) := by decide +kernel
theorem d18_12 : oD c_18 12 (.invokestatic 495, 3) := by decide +kernel
theorem d18_15 : oD c_18 15 (.ireturn, 1) := by decide +kernel
theorem pn_18 : plainName "java/lang/String" = true := by first | (simp [plainName, overriddenIn]; done) | decide +kernel
theorem ef_rm_charAt (m : MethodId) (x0 : Addr) (x1 : Int32) : entryFrame m #[.ref x0, .int x1] 2 = mkF m 0 #[oR x0, oI x1] [] := by first | (simp [entryFrame, mkF, argsToLocals, Value.category]; done) | rfl
def Q_rm_charAt (Z : State) (sa sb : Addr) (bs : List Value) (i z r : Int32) (cs : Int32) (fo : Value) (bo : Addr) (h0 : Heap) (n0 : Nat) (v : Option Value) (h : Heap) (L : List Loc) : Prop := v = some (.int r) ∧ Fr n0 L ∧ h = h0
theorem pd__28_29Z : parseMethodDescriptor "()Z" = some ⟨[], some .boolean⟩ := by decide +kernel
theorem pd__28_5bBI_29C : parseMethodDescriptor "([BI)C" = some ⟨[(.array .byte), .int], some .char⟩ := by decide +kernel
set_option maxRecDepth 65536 in
set_option maxHeartbeats 40000000 in
theorem rm_charAt (l : Launch) (Z : State) (a0 : Array Value) (hw : ∀ d ∈ tables_1, d.before a0 Z = true) (ws : List Jvm.Cond) (sa sb : Addr) (bs : List Value) (i z r : Int32) (cs : Int32) (fo : Value) (bo : Addr) (h0 : Heap) (n0 : Nat) (Zn : n0 ≤ h0.size) (S_a : own_str Z h0 sa sb bs) (hi : ¬ i < 0) (hn : i < Int32.ofNat bs.length) (hz : bs[i.toNatClampNeg]? = some (.int z)) (hr : (z &&& (255 : Int32)).toUInt32.toUInt16.toUInt32.toInt32 = r) (hr2 : r.toUInt32.toUInt16.toUInt32.toInt32 = r) (O : Old Z n0 h0) (SS : own_st Z cs fo bo) :
    MetFree l y_18 (head1 (Jvm.Cond.code y_18 c_18 2 (some .char) :: ws) (oQ 3 0 0 50)) (fun a U => a = #[.ref sa, .int i] ∧ Z.Warmed39 U.vm ∧ U.heap = h0) (fun _ _ _ _ _ => True) (fun _ U o U' => ∃ v L, o = .returned v ∧ (Q_rm_charAt Z sa sb bs i z r cs fo bo h0 n0) v U'.heap L ∧ FrameEnd U o U' L (oQ 3 0 0 50).cells (oQ 3 0 0 50).slots) := by
  refine MetFree.of_bodySF (plainFor_of_name pn_18) hisR ?_
  intro p e s m args below meth c s₁ Bd hml0 hP hK
  obtain ⟨rfl, hZ, hh⟩ := hP
  have hx := Bd.exec
  have G := @oG _ _ Bd.bytes
  have hml : c.maxLocals = 2 := hml0
  have hown : s.vm.findClass "java/lang/String" = some m.cls := findClass_of_methodNamed Bd.named
  have hnm := (name_of_methodNamed Bd.named Bd.method).1
  have hlk : meth.locks = false := BodyLoose.notSynchronized Bd
  have X0 : Stand p l e (oQ 3 0 0 50) s m #[.ref sa, .int i] below meth c s₁ [] 0 0 := Stand.of_body Bd
  have e0 : s₁.heap = h0 := by rw [← hh, Bd.state]; rfl
  have N := Fr.nil n0
  have K := Keep.refl h0 []
  refine own_start (cl := (oQ 3 0 0 50).cells) (sl := (oQ 3 0 0 50).slots) (Q := (Q_rm_charAt Z sa sb bs i z r cs fo bo h0 n0)) (ef_rm_charAt m sa i) ?_
  obtain ⟨SC, hcs, SF, hfo, SB, EB⟩ := SS
  obtain ⟨E_sa, F_sa_c, F_sa_v, A_sb⟩ := S_a
  refine own_by (S' := (oM s₁ m 1 #[oR sa, oI i] [.ref sa])) (fun _ k => XS.aloadN X0.here hx rfl (G d18_0) rfl rfl k) ?_
  obtain ⟨cq13, kq13, q13a, q13b, q13c⟩ := isOf hZ e0 E_sa
  obtain ⟨_, _, ⟨T13, L13, k13, n13⟩, -, X13, ⟨Lc13, hQ13, l13, y13, z13⟩, st13⟩ := X0.virtualBack hx (y := y_19) (z := y_19) hown (mvT hZ (gw hw 125 rfl)) (mvT hZ (gw hw 126 rfl)) (notFace_of_selects (args := #[]) (mvT hZ (gw hw 128 rfl))) (mvT hZ (gw hw 128 rfl)) (mvT hZ (gw hw 127 rfl)) (by decide) (backOf (W := 0) (rm_isL1 l Z a0 hw [] sa sb bs cs fo bo h0 n0 Zn ⟨E_sa, F_sa_c, F_sa_v, A_sb⟩ O ⟨SC, hcs, SF, hfo, SB, EB⟩) hZ (gw hw 129 rfl) (gw hw 97 rfl) (by decide) (by decide)) q13a q13c (g := (mkF m 1 #[oR sa, oI i] [.ref sa])) rfl (by rw [hml]; rfl) (Steps.refl _) (argsL := []) (rest := []) (lenOf pd__28_29Z rfl) rfl oZ (G d18_1) (fun _ _ => ⟨rfl, e0, (by decide : 0 + 0 ≤ _), (by decide : 0 + 0 ≤ _)⟩)
  dsimp only [Pt.U, Pt.locs, Pt.cells, Pt.slots] at X13 l13 y13 z13 st13 hQ13
  have X13 := own_recast X13 l13 y13 z13
  obtain ⟨rfl, N13q, eh⟩ := hQ13
  have N := Fr.app N N13q
  refine own_tr st13 ?_
  refine own_by (S' := (oM T13 m 8 #[oR sa, oI i] [.ref sa])) (fun _ k => XS.ifNo X13.here hx rfl (G d18_4) rfl ((if0 _ _).trans (feq ((by decide) : ¬ ((1 : Int32) = (0 : Int32)))).1) (XS.aloadN X13.here hx rfl (G d18_7) rfl rfl k)) ?_
  obtain ⟨T14, X14, e14, st14⟩ := getF X13 hx hZ hown (host := "") (Or.inl (gw hw 112 rfl)) Via.refl eh F_sa_v (g := (mkF m 8 #[oR sa, oI i] [.ref sa])) rfl rfl (G d18_8)
  refine own_by st14 ?_
  refine own_by (S' := (oM T14 m 12 #[oR sa, oI i] [.int i, .ref sb])) (fun _ k => XS.iloadN X14.here hx rfl (G d18_11) rfl k) ?_
  obtain ⟨_, _, ⟨T15, L15, k15, n15⟩, -, X15, ⟨Lc15, hQ15, l15, y15, z15⟩, st15⟩ := Jvm.LawKit.callS X14 hx (y := y_20) hown (mvT hZ (gw hw 130 rfl)) (mvT hZ (gw hw 131 rfl)) (mvT hZ (gw hw 132 rfl)) (mvT hZ (gw hw 133 rfl)) (by decide) (backOf (W := 0) (rm_l1c l Z a0 hw [] sb bs i z r cs fo bo h0 n0 Zn A_sb hi hn hz hr hr2 O ⟨SC, hcs, SF, hfo, SB, EB⟩) hZ (gw hw 133 rfl) (gw hw 132 rfl) (by decide) (by decide)) (g := (mkF m 12 #[oR sa, oI i] [.int i, .ref sb])) rfl (by rw [hml]; rfl) (argsL := [.ref sb, .int i]) (rest := []) (lenOf pd__28_5bBI_29C rfl) rfl oZ (G d18_12) (fun _ _ => ⟨rfl, e14, (by decide : 0 + 0 ≤ _), (by decide : 0 + 0 ≤ _)⟩)
  dsimp only [Pt.U, Pt.locs, Pt.cells, Pt.slots] at X15 l15 y15 z15 st15 hQ15
  have X15 := own_recast X15 l15 y15 z15
  obtain ⟨rfl, N15q, eh2⟩ := hQ15
  have N := Fr.app N N15q
  refine own_by st15 ?_
  exact own_ret X15 hx (t := .char) Bd.returns (congrArg Value.int hr2) (Or.inl ⟨rfl, by simp, _, rfl⟩) (G d18_15) hlk (by decide : 0 ≤ _) (by decide : 0 ≤ _) (by rw [eh2]; exact ⟨rfl, N, rfl⟩)
theorem d11_0 : oD c_11 0 (.aload_n 0, 1) := by decide +kernel
theorem d11_1 : oD c_11 1 (.getfield 59, 3) := by decide +kernel
theorem d11_4 : oD c_11 4 (.aload_n 0, 1) := by decide +kernel
theorem d11_5 : oD c_11 5 (.getfield 51, 3) := by decide +kernel
theorem d11_8 : oD c_11 8 (.if_icmp .ge 20, 3) := by decide +kernel
theorem d11_11 : oD c_11 11 (.aload_n 0, 1) := by decide +kernel
theorem d11_12 : oD c_11 12 (.getfield 47, 3) := by decide +kernel
theorem d11_15 : oD c_11 15 (.aload_n 0, 1) := by decide +kernel
theorem d11_16 : oD c_11 16 (.getfield 59, 3) := by decide +kernel
theorem d11_19 : oD c_11 19 (.caload, 1) := by decide +kernel
theorem d11_20 : oD c_11 20 (.iload_n 1, 1) := by decide +kernel
theorem d11_21 : oD c_11 21 (.if_icmp .ne 7, 3) := by decide +kernel
theorem d11_24 : oD c_11 24 (.iconst 1, 1) := by decide +kernel
theorem d11_25 : oD c_11 25 (.goto 4, 3) := by decide +kernel
theorem d11_28 : oD c_11 28 (.iconst 0, 1) := by decide +kernel
theorem d11_29 : oD c_11 29 (.istore_n 2, 1) := by decide +kernel
theorem d11_30 : oD c_11 30 (.iload_n 2, 1) := by decide +kernel
theorem d11_31 : oD c_11 31 (.ifCond .eq 13, 3) := by decide +kernel
theorem d11_34 : oD c_11 34 (.aload_n 0, 1) := by decide +kernel
theorem d11_35 : oD c_11 35 (.dup, 1) := by decide +kernel
theorem d11_36 : oD c_11 36 (.getfield 59, 3) := by decide +kernel
theorem d11_39 : oD c_11 39 (.iconst 1, 1) := by decide +kernel
theorem d11_40 : oD c_11 40 (.iadd, 1) := by decide +kernel
theorem d11_41 : oD c_11 41 (.putfield 59, 3) := by decide +kernel
theorem d11_44 : oD c_11 44 (.iload_n 2, 1) := by decide +kernel
theorem d11_45 : oD c_11 45 (.ireturn, 1) := by decide +kernel
theorem pn_11 : plainName "com/example/upright_play/uprightplay/event/Members" = true := by first | (simp [plainName, overriddenIn]; done) | decide +kernel
theorem ef_rm_takeY (m : MethodId) (x0 : Addr) (x1 : Int32) : entryFrame m #[.ref x0, .int x1] 3 = mkF m 0 #[oR x0, oI x1, oU] [] := by first | (simp [entryFrame, mkF, argsToLocals, Value.category]; done) | rfl
def Q_rm_takeY (Z : State) (mb li : Addr) (LN : List Value) (ch : Int32) (p1 : Nat) (h0 : Heap) (n0 : Nat) (v : Option Value) (h : Heap) (L : List Loc) : Prop := v = some (.int 1) ∧ Fr n0 L ∧ Wr h0 h mb (Jvm.RoadKit.slotOf Z "com/example/upright_play/uprightplay/event/Members" "pos" "I") (.int (Int32.ofNat (p1 + 1)))
set_option maxRecDepth 65536 in
set_option maxHeartbeats 40000000 in
theorem rm_takeY (l : Launch) (Z : State) (a0 : Array Value) (hw : ∀ d ∈ tables_1, d.before a0 Z = true) (ws : List Jvm.Cond) (mb li : Addr) (LN : List Value) (ch : Int32) (p1 : Nat) (h0 : Heap) (n0 : Nat) (Zn : n0 ≤ h0.size) (E_mb : Exa Z h0 mb "com/example/upright_play/uprightplay/event/Members") (f_17 : Fld Z h0 mb "com/example/upright_play/uprightplay/event/Members" "pos" "I" (.int (Int32.ofNat p1))) (F_len : Fld Z h0 mb "com/example/upright_play/uprightplay/event/Members" "length" "I" (.int 23)) (f_10 : Fld Z h0 mb "com/example/upright_play/uprightplay/event/Members" "line" "[C" (.ref li)) (A_li : OwnA Z h0 li .char LN) (o_mb : n0 ≤ mb) (ne_mb_li : mb ≠ li) (hp : p1 < 23) (hc : LN[p1]? = some (.int ch)) :
    MetFree l y_11 (head1 (Jvm.Cond.code y_11 c_11 3 (some .boolean) :: ws) (oQ 0 0 0 0)) (fun a U => a = #[.ref mb, .int ch] ∧ Z.Warmed39 U.vm ∧ U.heap = h0) (fun _ _ _ _ _ => True) (fun _ U o U' => ∃ v L, o = .returned v ∧ (Q_rm_takeY Z mb li LN ch p1 h0 n0) v U'.heap L ∧ FrameEnd U o U' L (oQ 0 0 0 0).cells (oQ 0 0 0 0).slots) := by
  refine MetFree.of_bodySF (plainFor_of_name pn_11) hisR ?_
  intro p e s m args below meth c s₁ Bd hml0 hP hK
  obtain ⟨rfl, hZ, hh⟩ := hP
  have hx := Bd.exec
  have G := @oG _ _ Bd.bytes
  have hml : c.maxLocals = 3 := hml0
  have hown : s.vm.findClass "com/example/upright_play/uprightplay/event/Members" = some m.cls := findClass_of_methodNamed Bd.named
  have hnm := (name_of_methodNamed Bd.named Bd.method).1
  have hlk : meth.locks = false := BodyLoose.notSynchronized Bd
  have X0 : Stand p l e (oQ 0 0 0 0) s m #[.ref mb, .int ch] below meth c s₁ [] 0 0 := Stand.of_body Bd
  have e0 : s₁.heap = h0 := by rw [← hh, Bd.state]; rfl
  have N := Fr.nil n0
  have K := Keep.refl h0 [mb]
  refine own_start (cl := (oQ 0 0 0 0).cells) (sl := (oQ 0 0 0 0).slots) (Q := (Q_rm_takeY Z mb li LN ch p1 h0 n0)) (ef_rm_takeY m mb ch) ?_
  refine own_by (S' := (oM s₁ m 1 #[oR mb, oI ch, oU] [.ref mb])) (fun _ k => XS.aloadN X0.here hx rfl (G d11_0) rfl rfl k) ?_
  obtain ⟨T16, X16, e16, st16⟩ := getF X0 hx hZ hown (host := "") (Or.inl (gw hw 58 rfl)) Via.refl e0 f_17 (g := (mkF m 1 #[oR mb, oI ch, oU] [.ref mb])) rfl rfl (G d11_1)
  refine own_by st16 ?_
  refine own_by (S' := (oM T16 m 5 #[oR mb, oI ch, oU] [.ref mb, (.int (Int32.ofNat p1))])) (fun _ k => XS.aloadN X16.here hx rfl (G d11_4) rfl rfl k) ?_
  obtain ⟨T17, X17, e17, st17⟩ := getF X16 hx hZ hown (host := "") (Or.inl (gw hw 54 rfl)) Via.refl e16 F_len (g := (mkF m 5 #[oR mb, oI ch, oU] [.ref mb, (.int (Int32.ofNat p1))])) rfl rfl (G d11_5)
  refine own_by st17 ?_
  refine own_by (S' := (oM T17 m 12 #[oR mb, oI ch, oU] [.ref mb])) (fun _ k => XS.icmpNo X17.here hx rfl (G d11_8) rfl (tlt ((own_lt hp (by decide)) : (Int32.ofNat p1) < (23 : Int32))).2.1 (XS.aloadN X17.here hx rfl (G d11_11) rfl rfl k)) ?_
  obtain ⟨T18, X18, e18, st18⟩ := getF X17 hx hZ hown (host := "") (Or.inl (gw hw 52 rfl)) Via.refl e17 f_10 (g := (mkF m 12 #[oR mb, oI ch, oU] [.ref mb])) rfl rfl (G d11_12)
  refine own_by st18 ?_
  refine own_by (S' := (oM T18 m 16 #[oR mb, oI ch, oU] [.ref mb, .ref li])) (fun _ k => XS.aloadN X18.here hx rfl (G d11_15) rfl rfl k) ?_
  obtain ⟨T19, X19, e19, st19⟩ := getF X18 hx hZ hown (host := "") (Or.inl (gw hw 58 rfl)) Via.refl e18 f_17 (g := (mkF m 16 #[oR mb, oI ch, oU] [.ref mb, .ref li])) rfl rfl (G d11_16)
  refine own_by st19 ?_
  refine own_by (S' := (oM T19 m 36 #[oR mb, oI ch, oI 1] [.ref mb, .ref mb])) (fun _ k => own_caload X19 hx hZ e19 A_li (own_nn (by omega)) (v := (.int ch)) (own_at (by omega) hc) (g := (mkF m 19 #[oR mb, oI ch, oU] [(.int (Int32.ofNat p1)), .ref li])) rfl rfl (G d11_19) _ (XS.iloadN X19.here hx rfl (G d11_20) rfl (XS.icmpNo X19.here hx rfl (G d11_21) rfl (teq (rfl : ch = ch)).2 (XS.iconst X19.here hx rfl (G d11_24) (XS.goto X19.here hx rfl (pc0 := 25) (pc' := 29) rfl (G d11_25) (by decide) (by decide) (XS.istoreN X19.here hx rfl (G d11_29) rfl (l' := #[oR mb, oI ch, oI 1]) rfl (XS.iloadN X19.here hx rfl (G d11_30) rfl (XS.ifNo X19.here hx rfl (G d11_31) rfl ((if0 _ _).trans (feq ((by decide) : ¬ ((1 : Int32) = (0 : Int32)))).1) (XS.aloadN X19.here hx rfl (G d11_34) rfl rfl (XS.dup X19.here hx rfl (G d11_35) rfl rfl k)))))))))) ?_
  obtain ⟨T20, X20, e20, st20⟩ := getF X19 hx hZ hown (host := "") (Or.inl (gw hw 58 rfl)) Via.refl e19 f_17 (g := (mkF m 36 #[oR mb, oI ch, oI 1] [.ref mb, .ref mb])) rfl rfl (G d11_36)
  refine own_by st20 ?_
  refine own_by (S' := (oM T20 m 41 #[oR mb, oI ch, oI 1] [(.int ((Int32.ofNat p1) + (1 : Int32))), .ref mb])) (fun _ k => XS.iconst X20.here hx rfl (G d11_39) (XS.iadd X20.here hx rfl (G d11_40) rfl k)) ?_
  rw [show ((Int32.ofNat p1) + (1 : Int32)) = (Int32.ofNat (p1 + 1)) from own_one p1]
  obtain ⟨T21, h21, X21, e21, W21, st21⟩ := putF X20 hx hZ hown (host := "") (Or.inl (gw hw 58 rfl)) Via.refl e20 f_17 E_mb (Or.inl (gw hw 59 rfl)) (gw hw 13 rfl) (ty := .int) (by decide) rfl rfl (g := (mkF m 41 #[oR mb, oI ch, oI 1] [(.int (Int32.ofNat (p1 + 1))), .ref mb])) rfl rfl (G d11_41)
  have N := Fr.snoc X21 N o_mb
  have E_mb := E_mb.wr W21
  have f_17 := f_17.same W21
  have F_len := oT F_len W21 (Or.inl (gw hw 55 rfl)) (Or.inl (gw hw 59 rfl)) .int .int
  have f_10 := oT f_10 W21 (Or.inl (gw hw 53 rfl)) (Or.inl (gw hw 59 rfl)) (.array .char) .int
  have A_li := A_li.other W21 (Ne.symm ne_mb_li)
  have WQ := W21
  have Zn : n0 ≤ _ := Nat.le_trans Zn (Nat.le_of_eq W21.size.symm)
  have K := K.wr W21 (Or.inl (List.mem_of_getElem? (i := 0) rfl))
  refine own_by st21 ?_
  refine own_by (S' := (oM T21 m 45 #[oR mb, oI ch, oI 1] [.int 1])) (fun _ k => XS.iloadN X21.here hx rfl (G d11_44) rfl k) ?_
  exact own_ret X21 hx (t := .boolean) Bd.returns rfl (Or.inl ⟨rfl, by simp, _, rfl⟩) (G d11_45) hlk (by decide : 0 ≤ _) (by decide : 0 ≤ _) (by rw [e21]; exact ⟨rfl, N, WQ⟩)
theorem ef_rm_takeN (m : MethodId) (x0 : Addr) (x1 : Int32) : entryFrame m #[.ref x0, .int x1] 3 = mkF m 0 #[oR x0, oI x1, oU] [] := by first | (simp [entryFrame, mkF, argsToLocals, Value.category]; done) | rfl
def Q_rm_takeN (Z : State) (mb li : Addr) (LN : List Value) (ch cz : Int32) (p1 : Nat) (h0 : Heap) (n0 : Nat) (v : Option Value) (h : Heap) (L : List Loc) : Prop := v = some (.int 0) ∧ Fr n0 L ∧ h = h0
set_option maxRecDepth 65536 in
set_option maxHeartbeats 40000000 in
theorem rm_takeN (l : Launch) (Z : State) (a0 : Array Value) (hw : ∀ d ∈ tables_1, d.before a0 Z = true) (ws : List Jvm.Cond) (mb li : Addr) (LN : List Value) (ch cz : Int32) (p1 : Nat) (h0 : Heap) (n0 : Nat) (Zn : n0 ≤ h0.size) (E_mb : Exa Z h0 mb "com/example/upright_play/uprightplay/event/Members") (f_17 : Fld Z h0 mb "com/example/upright_play/uprightplay/event/Members" "pos" "I" (.int (Int32.ofNat p1))) (F_len : Fld Z h0 mb "com/example/upright_play/uprightplay/event/Members" "length" "I" (.int 23)) (f_10 : Fld Z h0 mb "com/example/upright_play/uprightplay/event/Members" "line" "[C" (.ref li)) (A_li : OwnA Z h0 li .char LN) (o_mb : n0 ≤ mb) (ne_mb_li : mb ≠ li) (hp : p1 < 23) (hc : LN[p1]? = some (.int cz)) (hne : cz ≠ ch) :
    MetFree l y_11 (head1 (Jvm.Cond.code y_11 c_11 3 (some .boolean) :: ws) (oQ 0 0 0 0)) (fun a U => a = #[.ref mb, .int ch] ∧ Z.Warmed39 U.vm ∧ U.heap = h0) (fun _ _ _ _ _ => True) (fun _ U o U' => ∃ v L, o = .returned v ∧ (Q_rm_takeN Z mb li LN ch cz p1 h0 n0) v U'.heap L ∧ FrameEnd U o U' L (oQ 0 0 0 0).cells (oQ 0 0 0 0).slots) := by
  refine MetFree.of_bodySF (plainFor_of_name pn_11) hisR ?_
  intro p e s m args below meth c s₁ Bd hml0 hP hK
  obtain ⟨rfl, hZ, hh⟩ := hP
  have hx := Bd.exec
  have G := @oG _ _ Bd.bytes
  have hml : c.maxLocals = 3 := hml0
  have hown : s.vm.findClass "com/example/upright_play/uprightplay/event/Members" = some m.cls := findClass_of_methodNamed Bd.named
  have hnm := (name_of_methodNamed Bd.named Bd.method).1
  have hlk : meth.locks = false := BodyLoose.notSynchronized Bd
  have X0 : Stand p l e (oQ 0 0 0 0) s m #[.ref mb, .int ch] below meth c s₁ [] 0 0 := Stand.of_body Bd
  have e0 : s₁.heap = h0 := by rw [← hh, Bd.state]; rfl
  have N := Fr.nil n0
  have K := Keep.refl h0 [mb]
  refine own_start (cl := (oQ 0 0 0 0).cells) (sl := (oQ 0 0 0 0).slots) (Q := (Q_rm_takeN Z mb li LN ch cz p1 h0 n0)) (ef_rm_takeN m mb ch) ?_
  refine own_by (S' := (oM s₁ m 1 #[oR mb, oI ch, oU] [.ref mb])) (fun _ k => XS.aloadN X0.here hx rfl (G d11_0) rfl rfl k) ?_
  obtain ⟨T22, X22, e22, st22⟩ := getF X0 hx hZ hown (host := "") (Or.inl (gw hw 58 rfl)) Via.refl e0 f_17 (g := (mkF m 1 #[oR mb, oI ch, oU] [.ref mb])) rfl rfl (G d11_1)
  refine own_by st22 ?_
  refine own_by (S' := (oM T22 m 5 #[oR mb, oI ch, oU] [.ref mb, (.int (Int32.ofNat p1))])) (fun _ k => XS.aloadN X22.here hx rfl (G d11_4) rfl rfl k) ?_
  obtain ⟨T23, X23, e23, st23⟩ := getF X22 hx hZ hown (host := "") (Or.inl (gw hw 54 rfl)) Via.refl e22 F_len (g := (mkF m 5 #[oR mb, oI ch, oU] [.ref mb, (.int (Int32.ofNat p1))])) rfl rfl (G d11_5)
  refine own_by st23 ?_
  refine own_by (S' := (oM T23 m 12 #[oR mb, oI ch, oU] [.ref mb])) (fun _ k => XS.icmpNo X23.here hx rfl (G d11_8) rfl (tlt ((own_lt hp (by decide)) : (Int32.ofNat p1) < (23 : Int32))).2.1 (XS.aloadN X23.here hx rfl (G d11_11) rfl rfl k)) ?_
  obtain ⟨T24, X24, e24, st24⟩ := getF X23 hx hZ hown (host := "") (Or.inl (gw hw 52 rfl)) Via.refl e23 f_10 (g := (mkF m 12 #[oR mb, oI ch, oU] [.ref mb])) rfl rfl (G d11_12)
  refine own_by st24 ?_
  refine own_by (S' := (oM T24 m 16 #[oR mb, oI ch, oU] [.ref mb, .ref li])) (fun _ k => XS.aloadN X24.here hx rfl (G d11_15) rfl rfl k) ?_
  obtain ⟨T25, X25, e25, st25⟩ := getF X24 hx hZ hown (host := "") (Or.inl (gw hw 58 rfl)) Via.refl e24 f_17 (g := (mkF m 16 #[oR mb, oI ch, oU] [.ref mb, .ref li])) rfl rfl (G d11_16)
  refine own_by st25 ?_
  refine own_by (S' := (oM T25 m 45 #[oR mb, oI ch, oI 0] [.int 0])) (fun _ k => own_caload X25 hx hZ e25 A_li (own_nn (by omega)) (v := (.int cz)) (own_at (by omega) hc) (g := (mkF m 19 #[oR mb, oI ch, oU] [(.int (Int32.ofNat p1)), .ref li])) rfl rfl (G d11_19) _ (XS.iloadN X25.here hx rfl (G d11_20) rfl (XS.icmpYes X25.here hx rfl (pc0 := 21) (pc' := 28) rfl (G d11_21) rfl (feq (hne : ¬ (cz = ch))).2 (by decide) (by decide) (XS.iconst X25.here hx rfl (G d11_28) (XS.istoreN X25.here hx rfl (G d11_29) rfl (l' := #[oR mb, oI ch, oI 0]) rfl (XS.iloadN X25.here hx rfl (G d11_30) rfl (XS.ifYes X25.here hx rfl (pc0 := 31) (pc' := 44) rfl (G d11_31) rfl ((if0 _ _).trans (teq ((by decide) : (0 : Int32) = (0 : Int32))).1) (by decide) (by decide) (XS.iloadN X25.here hx rfl (G d11_44) rfl k)))))))) ?_
  exact own_ret X25 hx (t := .boolean) Bd.returns rfl (Or.inl ⟨rfl, by simp, _, rfl⟩) (G d11_45) hlk (by decide : 0 ≤ _) (by decide : 0 ≤ _) (by rw [e25]; exact ⟨rfl, N, rfl⟩)
theorem d13_0 : oD c_13 0 (.aload_n 0, 1) := by decide +kernel
theorem d13_1 : oD c_13 1 (.iload_n 1, 1) := by decide +kernel
theorem d13_2 : oD c_13 2 (.invokevirtual 171, 3) := by decide +kernel
theorem d13_5 : oD c_13 5 (.ifCond .ne 8, 3) := by decide +kernel
theorem d13_13 : oD c_13 13 (.return_, 1) := by decide +kernel
theorem pn_13 : plainName "com/example/upright_play/uprightplay/event/Members" = true := by first | (simp [plainName, overriddenIn]; done) | decide +kernel
theorem ef_rm_expect (m : MethodId) (x0 : Addr) (x1 : Int32) : entryFrame m #[.ref x0, .int x1] 2 = mkF m 0 #[oR x0, oI x1] [] := by first | (simp [entryFrame, mkF, argsToLocals, Value.category]; done) | rfl
def Q_rm_expect (Z : State) (mb li : Addr) (LN : List Value) (ch : Int32) (p1 : Nat) (h0 : Heap) (n0 : Nat) (v : Option Value) (h : Heap) (L : List Loc) : Prop := v = none ∧ Fr n0 L ∧ Wr h0 h mb (Jvm.RoadKit.slotOf Z "com/example/upright_play/uprightplay/event/Members" "pos" "I") (.int (Int32.ofNat (p1 + 1)))
theorem pd__28C_29Z : parseMethodDescriptor "(C)Z" = some ⟨[.char], some .boolean⟩ := by decide +kernel
set_option maxRecDepth 65536 in
set_option maxHeartbeats 40000000 in
theorem rm_expect (l : Launch) (Z : State) (a0 : Array Value) (hw : ∀ d ∈ tables_1, d.before a0 Z = true) (ws : List Jvm.Cond) (mb li : Addr) (LN : List Value) (ch : Int32) (p1 : Nat) (h0 : Heap) (n0 : Nat) (Zn : n0 ≤ h0.size) (E_mb : Exa Z h0 mb "com/example/upright_play/uprightplay/event/Members") (f_17 : Fld Z h0 mb "com/example/upright_play/uprightplay/event/Members" "pos" "I" (.int (Int32.ofNat p1))) (F_len : Fld Z h0 mb "com/example/upright_play/uprightplay/event/Members" "length" "I" (.int 23)) (f_10 : Fld Z h0 mb "com/example/upright_play/uprightplay/event/Members" "line" "[C" (.ref li)) (A_li : OwnA Z h0 li .char LN) (o_mb : n0 ≤ mb) (ne_mb_li : mb ≠ li) (hp : p1 < 23) (hc : LN[p1]? = some (.int ch)) :
    MetFree l y_13 (head1 (Jvm.Cond.code y_13 c_13 2 none :: ws) (oQ 1 0 0 16)) (fun a U => a = #[.ref mb, .int ch] ∧ Z.Warmed39 U.vm ∧ U.heap = h0) (fun _ _ _ _ _ => True) (fun _ U o U' => ∃ v L, o = .returned v ∧ (Q_rm_expect Z mb li LN ch p1 h0 n0) v U'.heap L ∧ FrameEnd U o U' L (oQ 1 0 0 16).cells (oQ 1 0 0 16).slots) := by
  refine MetFree.of_bodySF (plainFor_of_name pn_13) hisR ?_
  intro p e s m args below meth c s₁ Bd hml0 hP hK
  obtain ⟨rfl, hZ, hh⟩ := hP
  have hx := Bd.exec
  have G := @oG _ _ Bd.bytes
  have hml : c.maxLocals = 2 := hml0
  have hown : s.vm.findClass "com/example/upright_play/uprightplay/event/Members" = some m.cls := findClass_of_methodNamed Bd.named
  have hnm := (name_of_methodNamed Bd.named Bd.method).1
  have hlk : meth.locks = false := BodyLoose.notSynchronized Bd
  have X0 : Stand p l e (oQ 1 0 0 16) s m #[.ref mb, .int ch] below meth c s₁ [] 0 0 := Stand.of_body Bd
  have e0 : s₁.heap = h0 := by rw [← hh, Bd.state]; rfl
  have N := Fr.nil n0
  have K := Keep.refl h0 [mb]
  refine own_start (cl := (oQ 1 0 0 16).cells) (sl := (oQ 1 0 0 16).slots) (Q := (Q_rm_expect Z mb li LN ch p1 h0 n0)) (ef_rm_expect m mb ch) ?_
  refine own_by (S' := (oM s₁ m 2 #[oR mb, oI ch] [.int ch, .ref mb])) (fun _ k => XS.aloadN X0.here hx rfl (G d13_0) rfl rfl (XS.iloadN X0.here hx rfl (G d13_1) rfl k)) ?_
  obtain ⟨cq27, q27, q27'⟩ := E_mb.cell
  obtain ⟨_, _, ⟨T27, L27, k27, n27⟩, -, X27, ⟨Lc27, hQ27, l27, y27, z27⟩, st27⟩ := X0.privateBack hx (y := y_11) hown (mvT hZ (gw hw 80 rfl)) (mvT hZ (gw hw 81 rfl)) (own_selP hZ (gw hw 13 rfl) (gw hw 82 rfl) (gw hw 81 rfl) (by decide)) (Cond.privateMethod_at (mvP hZ (gw hw 82 rfl) (args := #[]))) (mvT hZ (gw hw 83 rfl)) (by decide) (backOf (W := 0) (rm_takeY l Z a0 hw [] mb li LN ch p1 h0 n0 Zn E_mb f_17 F_len f_10 A_li o_mb ne_mb_li hp hc) hZ (gw hw 83 rfl) (gw hw 14 rfl) (by decide) (by decide)) (g := (mkF m 2 #[oR mb, oI ch] [.int ch, .ref mb])) rfl (by rw [hml]; rfl) (Steps.refl _) (a := mb) (by rw [e0]; exact q27) q27' (argsL := [.int ch]) (rest := []) (lenOf pd__28C_29Z rfl) rfl oZ (G d13_2) (fun _ _ => ⟨rfl, e0, (by decide : 0 + 0 ≤ _), (by decide : 0 + 0 ≤ _)⟩)
  dsimp only [Pt.U, Pt.locs, Pt.cells, Pt.slots] at X27 l27 y27 z27 st27 hQ27
  have X27 := own_recast X27 l27 y27 z27
  obtain ⟨rfl, N27q, Wp26⟩ := hQ27
  have N := Fr.app N N27q
  have E_mb := E_mb.wr Wp26
  have f_17 := f_17.same Wp26
  have F_len := oT F_len Wp26 (Or.inl (gw hw 55 rfl)) (Or.inl (gw hw 59 rfl)) .int .int
  have f_10 := oT f_10 Wp26 (Or.inl (gw hw 53 rfl)) (Or.inl (gw hw 59 rfl)) (.array .char) .int
  have A_li := A_li.other Wp26 (Ne.symm ne_mb_li)
  have WQ := Wp26
  have Zn : n0 ≤ _ := Nat.le_trans Zn (Nat.le_of_eq Wp26.size.symm)
  have K := K.wr Wp26 (Or.inl (List.mem_of_getElem? (i := 0) rfl))
  refine own_tr st27 ?_
  refine own_by (S' := (oM T27 m 13 #[oR mb, oI ch] [])) (fun _ k => XS.ifYes X27.here hx rfl (pc0 := 5) (pc' := 13) rfl (G d13_5) rfl ((if0 _ _).trans (feq ((by decide) : ¬ ((1 : Int32) = (0 : Int32)))).2) (by decide) (by decide) k) ?_
  exact own_ret0 X27 hx Bd.returns (G d13_13) hlk (by decide : 0 ≤ _) (by decide : 0 ≤ _) ⟨rfl, N, WQ⟩
theorem d8_0 : oD c_8 0 (.aload_n 0, 1) := by decide +kernel
theorem d8_1 : oD c_8 1 (.getfield 59, 3) := by decide +kernel
theorem d8_4 : oD c_8 4 (.aload_n 0, 1) := by decide +kernel
theorem d8_5 : oD c_8 5 (.getfield 51, 3) := by decide +kernel
theorem d8_8 : oD c_8 8 (.if_icmp .ge 31, 3) := by decide +kernel
theorem d8_11 : oD c_8 11 (.aload_n 0, 1) := by decide +kernel
theorem d8_12 : oD c_8 12 (.getfield 47, 3) := by decide +kernel
theorem d8_15 : oD c_8 15 (.aload_n 0, 1) := by decide +kernel
theorem d8_16 : oD c_8 16 (.getfield 59, 3) := by decide +kernel
theorem d8_19 : oD c_8 19 (.caload, 1) := by decide +kernel
theorem d8_20 : oD c_8 20 (.invokestatic 334, 3) := by decide +kernel
theorem d8_23 : oD c_8 23 (.ifCond .eq 16, 3) := by decide +kernel
theorem d8_26 : oD c_8 26 (.aload_n 0, 1) := by decide +kernel
theorem d8_27 : oD c_8 27 (.dup, 1) := by decide +kernel
theorem d8_28 : oD c_8 28 (.getfield 59, 3) := by decide +kernel
theorem d8_31 : oD c_8 31 (.iconst 1, 1) := by decide +kernel
theorem d8_32 : oD c_8 32 (.iadd, 1) := by decide +kernel
theorem d8_33 : oD c_8 33 (.putfield 59, 3) := by decide +kernel
theorem d8_36 : oD c_8 36 (.goto (-36), 3) := by decide +kernel
theorem d8_39 : oD c_8 39 (.return_, 1) := by decide +kernel
theorem pn_8 : plainName "com/example/upright_play/uprightplay/event/Members" = true := by first | (simp [plainName, overriddenIn]; done) | decide +kernel
theorem ef_rm_skip (m : MethodId) (x0 : Addr) : entryFrame m #[.ref x0] 1 = mkF m 0 #[oR x0] [] := by first | (simp [entryFrame, mkF, argsToLocals, Value.category]; done) | rfl
def Q_rm_skip (Z : State) (mb li : Addr) (LN : List Value) (p1 q1 : Nat) (h0 : Heap) (n0 : Nat) (v : Option Value) (h : Heap) (L : List Loc) : Prop := v = none ∧ Fr n0 L ∧ Wr h0 h mb (Jvm.RoadKit.slotOf Z "com/example/upright_play/uprightplay/event/Members" "pos" "I") (.int (Int32.ofNat q1))
set_option maxRecDepth 65536 in
set_option maxHeartbeats 40000000 in
theorem rm_skip (l : Launch) (Z : State) (a0 : Array Value) (hw : ∀ d ∈ tables_1, d.before a0 Z = true) (ws : List Jvm.Cond) (mb li : Addr) (LN : List Value) (p1 q1 : Nat) (h0 : Heap) (n0 : Nat) (Zn : n0 ≤ h0.size) (E_mb : Exa Z h0 mb "com/example/upright_play/uprightplay/event/Members") (f_17 : Fld Z h0 mb "com/example/upright_play/uprightplay/event/Members" "pos" "I" (.int (Int32.ofNat p1))) (F_len : Fld Z h0 mb "com/example/upright_play/uprightplay/event/Members" "length" "I" (.int 23)) (f_10 : Fld Z h0 mb "com/example/upright_play/uprightplay/event/Members" "line" "[C" (.ref li)) (A_li : OwnA Z h0 li .char LN) (o_mb : n0 ≤ mb) (ne_mb_li : mb ≠ li) (hws : own_ws LN p1 q1) :
    MetFree l y_8 (head1 (Jvm.Cond.code y_8 c_8 1 none :: ws) (oQ 1 0 0 16)) (fun a U => a = #[.ref mb] ∧ Z.Warmed39 U.vm ∧ U.heap = h0) (fun _ _ _ _ _ => True) (fun _ U o U' => ∃ v L, o = .returned v ∧ (Q_rm_skip Z mb li LN p1 q1 h0 n0) v U'.heap L ∧ FrameEnd U o U' L (oQ 1 0 0 16).cells (oQ 1 0 0 16).slots) := by
  refine MetFree.of_bodySF (plainFor_of_name pn_8) hisR ?_
  intro p e s m args below meth c s₁ Bd hml0 hP hK
  obtain ⟨rfl, hZ, hh⟩ := hP
  have hx := Bd.exec
  have G := @oG _ _ Bd.bytes
  have hml : c.maxLocals = 1 := hml0
  have hown : s.vm.findClass "com/example/upright_play/uprightplay/event/Members" = some m.cls := findClass_of_methodNamed Bd.named
  have hnm := (name_of_methodNamed Bd.named Bd.method).1
  have hlk : meth.locks = false := BodyLoose.notSynchronized Bd
  have X0 : Stand p l e (oQ 1 0 0 16) s m #[.ref mb] below meth c s₁ [] 0 0 := Stand.of_body Bd
  have e0 : s₁.heap = h0 := by rw [← hh, Bd.state]; rfl
  have N := Fr.nil n0
  have K := Keep.refl h0 [mb]
  refine own_start (cl := (oQ 1 0 0 16).cells) (sl := (oQ 1 0 0 16).slots) (Q := (Q_rm_skip Z mb li LN p1 q1 h0 n0)) (ef_rm_skip m mb) ?_
  obtain ⟨hpq, hq23, hwh, hend⟩ := hws
  have loop : ∀ (d p1 : Nat) (T : State) (h : Heap) (locs : List Loc), p1 + d = q1 → (∀ i, p1 ≤ i → i < q1 → ∃ c : Int32, LN[i]? = some (.int c) ∧ own_w c = 1) → Stand p l e (oQ 1 0 0 16) s m #[.ref mb] below meth c T locs 0 0 → T.heap = h → Fr n0 locs → Keep h0 h [mb] → n0 ≤ h.size → Wr h0 h mb (Jvm.RoadKit.slotOf Z "com/example/upright_play/uprightplay/event/Members" "pos" "I") (.int (Int32.ofNat p1)) → Exa Z h mb "com/example/upright_play/uprightplay/event/Members" → Fld Z h mb "com/example/upright_play/uprightplay/event/Members" "pos" "I" (.int (Int32.ofNat p1)) → Fld Z h mb "com/example/upright_play/uprightplay/event/Members" "length" "I" (.int 23) → Fld Z h mb "com/example/upright_play/uprightplay/event/Members" "line" "[C" (.ref li) → OwnA Z h li .char LN → own_fin p e below s (oQ 1 0 0 16).cells (oQ 1 0 0 16).slots (Q_rm_skip Z mb li LN p1 q1 h0 n0) (oM T m 0 #[oR mb] []) := by
    intro d
    induction d with
    | zero =>
      intro p1 T h locs hd hwh XT eT N K Zn WQ E_mb f_17 F_len f_10 A_li
      obtain rfl : p1 = q1 := hd
      refine own_by (S' := (oM T m 1 #[oR mb] [.ref mb])) (fun _ k => XS.aloadN XT.here hx rfl (G d8_0) rfl rfl k) ?_
      obtain ⟨T28, X28, e28, st28⟩ := getF XT hx hZ hown (host := "") (Or.inl (gw hw 58 rfl)) Via.refl eT f_17 (g := (mkF m 1 #[oR mb] [.ref mb])) rfl rfl (G d8_1)
      refine own_by st28 ?_
      refine own_by (S' := (oM T28 m 5 #[oR mb] [.ref mb, (.int (Int32.ofNat p1))])) (fun _ k => XS.aloadN X28.here hx rfl (G d8_4) rfl rfl k) ?_
      obtain ⟨T29, X29, e29, st29⟩ := getF X28 hx hZ hown (host := "") (Or.inl (gw hw 54 rfl)) Via.refl e28 F_len (g := (mkF m 5 #[oR mb] [.ref mb, (.int (Int32.ofNat p1))])) rfl rfl (G d8_5)
      refine own_by st29 ?_
      by_cases h23 : p1 < 23
      · refine own_by (S' := (oM T29 m 11 #[oR mb] [])) (fun _ k => XS.icmpNo X29.here hx rfl (G d8_8) rfl (tlt ((own_lt h23 (by decide)) : (Int32.ofNat p1) < (23 : Int32))).2.1 k) ?_
        obtain ⟨cz, hcz, hw0⟩ := hend h23
        refine own_by (S' := (oM T29 m 12 #[oR mb] [.ref mb])) (fun _ k => XS.aloadN X29.here hx rfl (G d8_11) rfl rfl k) ?_
        obtain ⟨T30, X30, e30, st30⟩ := getF X29 hx hZ hown (host := "") (Or.inl (gw hw 52 rfl)) Via.refl e29 f_10 (g := (mkF m 12 #[oR mb] [.ref mb])) rfl rfl (G d8_12)
        refine own_by st30 ?_
        refine own_by (S' := (oM T30 m 16 #[oR mb] [.ref mb, .ref li])) (fun _ k => XS.aloadN X30.here hx rfl (G d8_15) rfl rfl k) ?_
        obtain ⟨T31, X31, e31, st31⟩ := getF X30 hx hZ hown (host := "") (Or.inl (gw hw 58 rfl)) Via.refl e30 f_17 (g := (mkF m 16 #[oR mb] [.ref mb, .ref li])) rfl rfl (G d8_16)
        refine own_by st31 ?_
        refine own_by (S' := (oM T31 m 20 #[oR mb] [.int cz])) (fun _ k => own_caload X31 hx hZ e31 A_li (own_nn (by omega)) (v := (.int cz)) (own_at (by omega) hcz) (g := (mkF m 19 #[oR mb] [(.int (Int32.ofNat p1)), .ref li])) rfl rfl (G d8_19) _ k) ?_
        obtain ⟨_, _, ⟨T32, L32, k32, n32⟩, -, X32, ⟨Lc32, hQ32, l32, y32, z32⟩, st32⟩ := Jvm.LawKit.callS X31 hx (y := y_9) hown (mvT hZ (gw hw 73 rfl)) (mvT hZ (gw hw 74 rfl)) (mvT hZ (gw hw 14 rfl)) (mvT hZ (gw hw 75 rfl)) (by decide) (backOf (W := 0) (rm_isWs l Z a0 hw [] cz h n0 Zn) hZ (gw hw 75 rfl) (gw hw 14 rfl) (by decide) (by decide)) (g := (mkF m 20 #[oR mb] [.int cz])) rfl (by rw [hml]; rfl) (argsL := [.int cz]) (rest := []) (lenOf pd__28C_29Z rfl) rfl oZ (G d8_20) (fun _ _ => ⟨rfl, e31, (by decide : 0 + 0 ≤ _), (by decide : 0 + 0 ≤ _)⟩)
        dsimp only [Pt.U, Pt.locs, Pt.cells, Pt.slots] at X32 l32 y32 z32 st32 hQ32
        have X32 := own_recast X32 l32 y32 z32
        obtain ⟨rfl, N32q, eh⟩ := hQ32
        have N := Fr.app N N32q
        refine own_by st32 ?_
        refine own_by (S' := (oM T32 m 39 #[oR mb] [])) (fun _ k => XS.ifYes X32.here hx rfl (pc0 := 23) (pc' := 39) rfl (G d8_23) rfl ((if0 _ _).trans (teq (hw0 : (own_w cz) = (0 : Int32))).1) (by decide) (by decide) k) ?_
        exact own_ret0 X32 hx Bd.returns (G d8_39) hlk (by decide : 0 ≤ _) (by decide : 0 ≤ _) (by rw [eh]; exact ⟨rfl, N, WQ⟩)
      · refine own_by (S' := (oM T29 m 39 #[oR mb] [])) (fun _ k => XS.icmpYes X29.here hx rfl (pc0 := 8) (pc' := 39) rfl (G d8_8) rfl (flt ((own_nlt (n := 23) h23 (by omega)) : ¬ ((Int32.ofNat p1) < (23 : Int32)))).2.1 (by decide) (by decide) k) ?_
        exact own_ret0 X29 hx Bd.returns (G d8_39) hlk (by decide : 0 ≤ _) (by decide : 0 ≤ _) (by rw [e29]; exact ⟨rfl, N, WQ⟩)
    | succ d ih =>
      intro p1 T h locs hd hwh XT eT N K Zn WQ E_mb f_17 F_len f_10 A_li
      refine own_by (S' := (oM T m 1 #[oR mb] [.ref mb])) (fun _ k => XS.aloadN XT.here hx rfl (G d8_0) rfl rfl k) ?_
      obtain ⟨T33, X33, e33, st33⟩ := getF XT hx hZ hown (host := "") (Or.inl (gw hw 58 rfl)) Via.refl eT f_17 (g := (mkF m 1 #[oR mb] [.ref mb])) rfl rfl (G d8_1)
      refine own_by st33 ?_
      refine own_by (S' := (oM T33 m 5 #[oR mb] [.ref mb, (.int (Int32.ofNat p1))])) (fun _ k => XS.aloadN X33.here hx rfl (G d8_4) rfl rfl k) ?_
      obtain ⟨T34, X34, e34, st34⟩ := getF X33 hx hZ hown (host := "") (Or.inl (gw hw 54 rfl)) Via.refl e33 F_len (g := (mkF m 5 #[oR mb] [.ref mb, (.int (Int32.ofNat p1))])) rfl rfl (G d8_5)
      refine own_by st34 ?_
      refine own_by (S' := (oM T34 m 11 #[oR mb] [])) (fun _ k => XS.icmpNo X34.here hx rfl (G d8_8) rfl (tlt ((own_lt (n := 23) (by omega) (by decide)) : (Int32.ofNat p1) < (23 : Int32))).2.1 k) ?_
      obtain ⟨cz, hcz, hw1⟩ := hwh p1 (Nat.le_refl _) (by omega)
      refine own_by (S' := (oM T34 m 12 #[oR mb] [.ref mb])) (fun _ k => XS.aloadN X34.here hx rfl (G d8_11) rfl rfl k) ?_
      obtain ⟨T35, X35, e35, st35⟩ := getF X34 hx hZ hown (host := "") (Or.inl (gw hw 52 rfl)) Via.refl e34 f_10 (g := (mkF m 12 #[oR mb] [.ref mb])) rfl rfl (G d8_12)
      refine own_by st35 ?_
      refine own_by (S' := (oM T35 m 16 #[oR mb] [.ref mb, .ref li])) (fun _ k => XS.aloadN X35.here hx rfl (G d8_15) rfl rfl k) ?_
      obtain ⟨T36, X36, e36, st36⟩ := getF X35 hx hZ hown (host := "") (Or.inl (gw hw 58 rfl)) Via.refl e35 f_17 (g := (mkF m 16 #[oR mb] [.ref mb, .ref li])) rfl rfl (G d8_16)
      refine own_by st36 ?_
      refine own_by (S' := (oM T36 m 20 #[oR mb] [.int cz])) (fun _ k => own_caload X36 hx hZ e36 A_li (own_nn (by omega)) (v := (.int cz)) (own_at (by omega) hcz) (g := (mkF m 19 #[oR mb] [(.int (Int32.ofNat p1)), .ref li])) rfl rfl (G d8_19) _ k) ?_
      obtain ⟨_, _, ⟨T37, L37, k37, n37⟩, -, X37, ⟨Lc37, hQ37, l37, y37, z37⟩, st37⟩ := Jvm.LawKit.callS X36 hx (y := y_9) hown (mvT hZ (gw hw 73 rfl)) (mvT hZ (gw hw 74 rfl)) (mvT hZ (gw hw 14 rfl)) (mvT hZ (gw hw 75 rfl)) (by decide) (backOf (W := 0) (rm_isWs l Z a0 hw [] cz h n0 Zn) hZ (gw hw 75 rfl) (gw hw 14 rfl) (by decide) (by decide)) (g := (mkF m 20 #[oR mb] [.int cz])) rfl (by rw [hml]; rfl) (argsL := [.int cz]) (rest := []) (lenOf pd__28C_29Z rfl) rfl oZ (G d8_20) (fun _ _ => ⟨rfl, e36, (by decide : 0 + 0 ≤ _), (by decide : 0 + 0 ≤ _)⟩)
      dsimp only [Pt.U, Pt.locs, Pt.cells, Pt.slots] at X37 l37 y37 z37 st37 hQ37
      have X37 := own_recast X37 l37 y37 z37
      obtain ⟨rfl, N37q, eh⟩ := hQ37
      have N := Fr.app N N37q
      refine own_by st37 ?_
      refine own_by (S' := (oM T37 m 28 #[oR mb] [.ref mb, .ref mb])) (fun _ k => XS.ifNo X37.here hx rfl (G d8_23) rfl ((if0 _ _).trans (feq ((by rw [hw1]; decide) : ¬ ((own_w cz) = (0 : Int32)))).1) (XS.aloadN X37.here hx rfl (G d8_26) rfl rfl (XS.dup X37.here hx rfl (G d8_27) rfl rfl k))) ?_
      obtain ⟨T38, X38, e38, st38⟩ := getF X37 hx hZ hown (host := "") (Or.inl (gw hw 58 rfl)) Via.refl eh f_17 (g := (mkF m 28 #[oR mb] [.ref mb, .ref mb])) rfl rfl (G d8_28)
      refine own_by st38 ?_
      refine own_by (S' := (oM T38 m 33 #[oR mb] [(.int ((Int32.ofNat p1) + (1 : Int32))), .ref mb])) (fun _ k => XS.iconst X38.here hx rfl (G d8_31) (XS.iadd X38.here hx rfl (G d8_32) rfl k)) ?_
      rw [show ((Int32.ofNat p1) + (1 : Int32)) = (Int32.ofNat (p1 + 1)) from own_one p1]
      obtain ⟨T39, h39, X39, e39, W39, st39⟩ := putF X38 hx hZ hown (host := "") (Or.inl (gw hw 58 rfl)) Via.refl e38 f_17 E_mb (Or.inl (gw hw 59 rfl)) (gw hw 13 rfl) (ty := .int) (by decide) rfl rfl (g := (mkF m 33 #[oR mb] [(.int (Int32.ofNat (p1 + 1))), .ref mb])) rfl rfl (G d8_33)
      have N := Fr.snoc X39 N o_mb
      have E_mb := E_mb.wr W39
      have f_17 := f_17.same W39
      have F_len := oT F_len W39 (Or.inl (gw hw 55 rfl)) (Or.inl (gw hw 59 rfl)) .int .int
      have f_10 := oT f_10 W39 (Or.inl (gw hw 53 rfl)) (Or.inl (gw hw 59 rfl)) (.array .char) .int
      have A_li := A_li.other W39 (Ne.symm ne_mb_li)
      have WQ := own_wtrans WQ W39
      have Zn : n0 ≤ _ := Nat.le_trans Zn (Nat.le_of_eq W39.size.symm)
      have K := K.wr W39 (Or.inl (List.mem_of_getElem? (i := 0) rfl))
      refine own_by st39 ?_
      refine own_by (S' := (oM T39 m 0 #[oR mb] [])) (fun _ k => XS.goto X39.here hx rfl (pc0 := 36) (pc' := 0) rfl (G d8_36) (by decide) (by decide) k) ?_
      exact ih (p1 + 1) _ _ _ (by omega) (fun i h1 h2 => hwh i (by omega) h2) X39 e39 N K Zn WQ E_mb f_17 F_len f_10 A_li
  exact loop (q1 - p1) p1 _ _ _ (by omega) hwh X0 e0 N K Zn (own_wrefl f_17) E_mb f_17 F_len f_10 A_li
theorem d12_0 : oD c_12 0 (.aload_n 0, 1) := by decide +kernel
theorem d12_1 : oD c_12 1 (.bipush 34, 2) := by decide +kernel
theorem d12_3 : oD c_12 3 (.invokevirtual 198, 3) := by decide +kernel
theorem d12_6 : oD c_12 6 (.iconst 0, 1) := by decide +kernel
theorem d12_7 : oD c_12 7 (.istore_n 1, 1) := by decide +kernel
theorem d12_8 : oD c_12 8 (.aload_n 0, 1) := by decide +kernel
theorem d12_9 : oD c_12 9 (.getfield 59, 3) := by decide +kernel
theorem d12_12 : oD c_12 12 (.istore_n 2, 1) := by decide +kernel
theorem d12_13 : oD c_12 13 (.iload_n 2, 1) := by decide +kernel
theorem d12_14 : oD c_12 14 (.aload_n 0, 1) := by decide +kernel
theorem d12_15 : oD c_12 15 (.getfield 51, 3) := by decide +kernel
theorem d12_18 : oD c_12 18 (.if_icmp .ge 60, 3) := by decide +kernel
theorem d12_21 : oD c_12 21 (.aload_n 0, 1) := by decide +kernel
theorem d12_22 : oD c_12 22 (.getfield 47, 3) := by decide +kernel
theorem d12_25 : oD c_12 25 (.iload_n 2, 1) := by decide +kernel
theorem d12_26 : oD c_12 26 (.caload, 1) := by decide +kernel
theorem d12_27 : oD c_12 27 (.bipush 34, 2) := by decide +kernel
theorem d12_29 : oD c_12 29 (.if_icmp .eq 49, 3) := by decide +kernel
theorem d12_32 : oD c_12 32 (.aload_n 0, 1) := by decide +kernel
theorem d12_33 : oD c_12 33 (.getfield 47, 3) := by decide +kernel
theorem d12_36 : oD c_12 36 (.iload_n 2, 1) := by decide +kernel
theorem d12_37 : oD c_12 37 (.caload, 1) := by decide +kernel
theorem d12_38 : oD c_12 38 (.bipush 92, 2) := by decide +kernel
theorem d12_40 : oD c_12 40 (.if_icmp .ne 16, 3) := by decide +kernel
theorem d12_56 : oD c_12 56 (.aload_n 0, 1) := by decide +kernel
theorem d12_57 : oD c_12 57 (.getfield 47, 3) := by decide +kernel
theorem d12_60 : oD c_12 60 (.iload_n 2, 1) := by decide +kernel
theorem d12_61 : oD c_12 61 (.caload, 1) := by decide +kernel
theorem d12_62 : oD c_12 62 (.bipush 32, 2) := by decide +kernel
theorem d12_64 : oD c_12 64 (.if_icmp .ge 8, 3) := by decide +kernel
theorem d12_72 : oD c_12 72 (.iinc 2 1, 3) := by decide +kernel
theorem d12_75 : oD c_12 75 (.goto (-62), 3) := by decide +kernel
theorem d12_78 : oD c_12 78 (.iload_n 2, 1) := by decide +kernel
theorem d12_79 : oD c_12 79 (.aload_n 0, 1) := by decide +kernel
theorem d12_80 : oD c_12 80 (.getfield 51, 3) := by decide +kernel
theorem d12_83 : oD c_12 83 (.if_icmp .ne 8, 3) := by decide +kernel
theorem d12_91 : oD c_12 91 (.aload_n 0, 1) := by decide +kernel
theorem d12_92 : oD c_12 92 (.iload_n 2, 1) := by decide +kernel
theorem d12_93 : oD c_12 93 (.iconst 1, 1) := by decide +kernel
theorem d12_94 : oD c_12 94 (.iadd, 1) := by decide +kernel
theorem d12_95 : oD c_12 95 (.putfield 59, 3) := by decide +kernel
theorem d12_98 : oD c_12 98 (.iload_n 1, 1) := by decide +kernel
theorem d12_99 : oD c_12 99 (.ireturn, 1) := by decide +kernel
theorem pn_12 : plainName "com/example/upright_play/uprightplay/event/Members" = true := by first | (simp [plainName, overriddenIn]; done) | decide +kernel
theorem ef_rm_readString1 (m : MethodId) (x0 : Addr) : entryFrame m #[.ref x0] 3 = mkF m 0 #[oR x0, oU, oU] [] := by first | (simp [entryFrame, mkF, argsToLocals, Value.category]; done) | rfl
def Q_rm_readString1 (Z : State) (mb li : Addr) (LN : List Value) (ch : Nat) (h0 : Heap) (n0 : Nat) (v : Option Value) (h : Heap) (L : List Loc) : Prop := v = some (.int 0) ∧ Fr n0 L ∧ Wr h0 h mb (Jvm.RoadKit.slotOf Z "com/example/upright_play/uprightplay/event/Members" "pos" "I") (.int 4)
theorem pd__28C_29V : parseMethodDescriptor "(C)V" = some ⟨[.char], none⟩ := by decide +kernel
set_option maxRecDepth 65536 in
set_option maxHeartbeats 40000000 in
theorem rm_readString1 (l : Launch) (Z : State) (a0 : Array Value) (hw : ∀ d ∈ tables_1, d.before a0 Z = true) (ws : List Jvm.Cond) (mb li : Addr) (LN : List Value) (ch : Nat) (h0 : Heap) (n0 : Nat) (Zn : n0 ≤ h0.size) (E_mb : Exa Z h0 mb "com/example/upright_play/uprightplay/event/Members") (f_17 : Fld Z h0 mb "com/example/upright_play/uprightplay/event/Members" "pos" "I" (.int 1)) (F_len : Fld Z h0 mb "com/example/upright_play/uprightplay/event/Members" "length" "I" (.int 23)) (f_10 : Fld Z h0 mb "com/example/upright_play/uprightplay/event/Members" "line" "[C" (.ref li)) (A_li : OwnA Z h0 li .char LN) (o_mb : n0 ≤ mb) (ne_mb_li : mb ≠ li) (h1 : LN[1]? = some (.int 34)) (h2 : LN[2]? = some (.int (Int32.ofNat ch))) (h3 : LN[3]? = some (.int 34)) (hk : own_nc ch) :
    MetFree l y_12 (head1 (Jvm.Cond.code y_12 c_12 3 (some .boolean) :: ws) (oQ 2 0 0 40)) (fun a U => a = #[.ref mb] ∧ Z.Warmed39 U.vm ∧ U.heap = h0) (fun _ _ _ _ _ => True) (fun _ U o U' => ∃ v L, o = .returned v ∧ (Q_rm_readString1 Z mb li LN ch h0 n0) v U'.heap L ∧ FrameEnd U o U' L (oQ 2 0 0 40).cells (oQ 2 0 0 40).slots) := by
  refine MetFree.of_bodySF (plainFor_of_name pn_12) hisR ?_
  intro p e s m args below meth c s₁ Bd hml0 hP hK
  obtain ⟨rfl, hZ, hh⟩ := hP
  have hx := Bd.exec
  have G := @oG _ _ Bd.bytes
  have hml : c.maxLocals = 3 := hml0
  have hown : s.vm.findClass "com/example/upright_play/uprightplay/event/Members" = some m.cls := findClass_of_methodNamed Bd.named
  have hnm := (name_of_methodNamed Bd.named Bd.method).1
  have hlk : meth.locks = false := BodyLoose.notSynchronized Bd
  have X0 : Stand p l e (oQ 2 0 0 40) s m #[.ref mb] below meth c s₁ [] 0 0 := Stand.of_body Bd
  have e0 : s₁.heap = h0 := by rw [← hh, Bd.state]; rfl
  have N := Fr.nil n0
  have K := Keep.refl h0 [mb]
  refine own_start (cl := (oQ 2 0 0 40).cells) (sl := (oQ 2 0 0 40).slots) (Q := (Q_rm_readString1 Z mb li LN ch h0 n0)) (ef_rm_readString1 m mb) ?_
  refine own_by (S' := (oM s₁ m 3 #[oR mb, oU, oU] [.int 34, .ref mb])) (fun _ k => XS.aloadN X0.here hx rfl (G d12_0) rfl rfl (XS.bipush X0.here hx rfl (G d12_1) k)) ?_
  obtain ⟨cq41, q41, q41'⟩ := E_mb.cell
  obtain ⟨_, _, ⟨T41, L41, k41, n41⟩, -, X41, ⟨Lc41, hQ41, l41, y41, z41⟩, st41⟩ := X0.privateBack hx (y := y_13) hown (mvT hZ (gw hw 88 rfl)) (mvT hZ (gw hw 89 rfl)) (own_selP hZ (gw hw 13 rfl) (gw hw 90 rfl) (gw hw 89 rfl) (by decide)) (Cond.privateMethod_at (mvP hZ (gw hw 90 rfl) (args := #[]))) (mvT hZ (gw hw 91 rfl)) (by decide) (backOf (W := 0) (rm_expect l Z a0 hw [] mb li LN (34 : Int32) 1 h0 n0 Zn E_mb f_17 F_len f_10 A_li o_mb ne_mb_li (by decide) h1) hZ (gw hw 91 rfl) (gw hw 14 rfl) (by decide) (by decide)) (g := (mkF m 3 #[oR mb, oU, oU] [.int 34, .ref mb])) rfl (by rw [hml]; rfl) (Steps.refl _) (a := mb) (by rw [e0]; exact q41) q41' (argsL := [.int 34]) (rest := []) (lenOf pd__28C_29V rfl) rfl oZ (G d12_3) (fun _ _ => ⟨rfl, e0, (by decide : 0 + 0 ≤ _), (by decide : 0 + 0 ≤ _)⟩)
  dsimp only [Pt.U, Pt.locs, Pt.cells, Pt.slots] at X41 l41 y41 z41 st41 hQ41
  have X41 := own_recast X41 l41 y41 z41
  obtain ⟨rfl, N41q, Wp40⟩ := hQ41
  have N := Fr.app N N41q
  have E_mb := E_mb.wr Wp40
  have f_17 := f_17.same Wp40
  have F_len := oT F_len Wp40 (Or.inl (gw hw 55 rfl)) (Or.inl (gw hw 59 rfl)) .int .int
  have f_10 := oT f_10 Wp40 (Or.inl (gw hw 53 rfl)) (Or.inl (gw hw 59 rfl)) (.array .char) .int
  have A_li := A_li.other Wp40 (Ne.symm ne_mb_li)
  have WQ := Wp40
  have Zn : n0 ≤ _ := Nat.le_trans Zn (Nat.le_of_eq Wp40.size.symm)
  have K := K.wr Wp40 (Or.inl (List.mem_of_getElem? (i := 0) rfl))
  refine own_tr st41 ?_
  refine own_by (S' := (oM T41 m 9 #[oR mb, oI 0, oU] [.ref mb])) (fun _ k => XS.iconst X41.here hx rfl (G d12_6) (XS.istoreN X41.here hx rfl (G d12_7) rfl (l' := #[oR mb, oI 0, oU]) rfl (XS.aloadN X41.here hx rfl (G d12_8) rfl rfl k))) ?_
  obtain ⟨T42, X42, e42, st42⟩ := getF X41 hx hZ hown (host := "") (Or.inl (gw hw 58 rfl)) Via.refl rfl f_17 (g := (mkF m 9 #[oR mb, oI 0, oU] [.ref mb])) rfl rfl (G d12_9)
  refine own_by st42 ?_
  refine own_by (S' := (oM T42 m 15 #[oR mb, oI 0, oI 2] [.ref mb, .int 2])) (fun _ k => XS.istoreN X42.here hx rfl (G d12_12) rfl (l' := #[oR mb, oI 0, oI 2]) rfl (XS.iloadN X42.here hx rfl (G d12_13) rfl (XS.aloadN X42.here hx rfl (G d12_14) rfl rfl k))) ?_
  obtain ⟨T43, X43, e43, st43⟩ := getF X42 hx hZ hown (host := "") (Or.inl (gw hw 54 rfl)) Via.refl e42 F_len (g := (mkF m 15 #[oR mb, oI 0, oI 2] [.ref mb, .int 2])) rfl rfl (G d12_15)
  refine own_by st43 ?_
  refine own_by (S' := (oM T43 m 22 #[oR mb, oI 0, oI 2] [.ref mb])) (fun _ k => XS.icmpNo X43.here hx rfl (G d12_18) rfl (tlt ((by decide) : (2 : Int32) < (23 : Int32))).2.1 (XS.aloadN X43.here hx rfl (G d12_21) rfl rfl k)) ?_
  obtain ⟨T44, X44, e44, st44⟩ := getF X43 hx hZ hown (host := "") (Or.inl (gw hw 52 rfl)) Via.refl e43 f_10 (g := (mkF m 22 #[oR mb, oI 0, oI 2] [.ref mb])) rfl rfl (G d12_22)
  refine own_by st44 ?_
  refine own_by (S' := (oM T44 m 33 #[oR mb, oI 0, oI 2] [.ref mb])) (fun _ k => XS.iloadN X44.here hx rfl (G d12_25) rfl (own_caload X44 hx hZ e44 A_li (by decide) (v := (.int (Int32.ofNat ch))) (show LN[(2 : Int32).toNatClampNeg]? = _ from h2) (g := (mkF m 26 #[oR mb, oI 0, oI 2] [.int 2, .ref li])) rfl rfl (G d12_26) _ (XS.bipush X44.here hx rfl (G d12_27) (XS.icmpNo X44.here hx rfl (G d12_29) rfl (feq ((own_ofne (n := 34) (by have := hk.2.1; omega) (by decide) hk.2.2.1) : ¬ ((Int32.ofNat ch) = (34 : Int32)))).1 (XS.aloadN X44.here hx rfl (G d12_32) rfl rfl k))))) ?_
  obtain ⟨T45, X45, e45, st45⟩ := getF X44 hx hZ hown (host := "") (Or.inl (gw hw 52 rfl)) Via.refl e44 f_10 (g := (mkF m 33 #[oR mb, oI 0, oI 2] [.ref mb])) rfl rfl (G d12_33)
  refine own_by st45 ?_
  refine own_by (S' := (oM T45 m 57 #[oR mb, oI 0, oI 2] [.ref mb])) (fun _ k => XS.iloadN X45.here hx rfl (G d12_36) rfl (own_caload X45 hx hZ e45 A_li (by decide) (v := (.int (Int32.ofNat ch))) (show LN[(2 : Int32).toNatClampNeg]? = _ from h2) (g := (mkF m 37 #[oR mb, oI 0, oI 2] [.int 2, .ref li])) rfl rfl (G d12_37) _ (XS.bipush X45.here hx rfl (G d12_38) (XS.icmpYes X45.here hx rfl (pc0 := 40) (pc' := 56) rfl (G d12_40) rfl (feq ((own_ofne (n := 92) (by have := hk.2.1; omega) (by decide) hk.2.2.2) : ¬ ((Int32.ofNat ch) = (92 : Int32)))).2 (by decide) (by decide) (XS.aloadN X45.here hx rfl (G d12_56) rfl rfl k))))) ?_
  obtain ⟨T46, X46, e46, st46⟩ := getF X45 hx hZ hown (host := "") (Or.inl (gw hw 52 rfl)) Via.refl e45 f_10 (g := (mkF m 57 #[oR mb, oI 0, oI 2] [.ref mb])) rfl rfl (G d12_57)
  refine own_by st46 ?_
  refine own_by (S' := (oM T46 m 15 #[oR mb, oI 0, oI 3] [.ref mb, .int 3])) (fun _ k => XS.iloadN X46.here hx rfl (G d12_60) rfl (own_caload X46 hx hZ e46 A_li (by decide) (v := (.int (Int32.ofNat ch))) (show LN[(2 : Int32).toNatClampNeg]? = _ from h2) (g := (mkF m 61 #[oR mb, oI 0, oI 2] [.int 2, .ref li])) rfl rfl (G d12_61) _ (XS.bipush X46.here hx rfl (G d12_62) (XS.icmpYes X46.here hx rfl (pc0 := 64) (pc' := 72) rfl (G d12_64) rfl (flt ((own_nlt (n := 32) (by have := hk.1; omega) (by have := hk.2.1; omega)) : ¬ ((Int32.ofNat ch) < (32 : Int32)))).2.1 (by decide) (by decide) (XS.iinc X46.here hx rfl (G d12_72) rfl (l' := #[oR mb, oI 0, oI 3]) rfl (XS.goto X46.here hx rfl (pc0 := 75) (pc' := 13) rfl (G d12_75) (by decide) (by decide) (XS.iloadN X46.here hx rfl (G d12_13) rfl (XS.aloadN X46.here hx rfl (G d12_14) rfl rfl k)))))))) ?_
  obtain ⟨T47, X47, e47, st47⟩ := getF X46 hx hZ hown (host := "") (Or.inl (gw hw 54 rfl)) Via.refl e46 F_len (g := (mkF m 15 #[oR mb, oI 0, oI 3] [.ref mb, .int 3])) rfl rfl (G d12_15)
  refine own_by st47 ?_
  refine own_by (S' := (oM T47 m 22 #[oR mb, oI 0, oI 3] [.ref mb])) (fun _ k => XS.icmpNo X47.here hx rfl (G d12_18) rfl (tlt ((by decide) : (3 : Int32) < (23 : Int32))).2.1 (XS.aloadN X47.here hx rfl (G d12_21) rfl rfl k)) ?_
  obtain ⟨T48, X48, e48, st48⟩ := getF X47 hx hZ hown (host := "") (Or.inl (gw hw 52 rfl)) Via.refl e47 f_10 (g := (mkF m 22 #[oR mb, oI 0, oI 3] [.ref mb])) rfl rfl (G d12_22)
  refine own_by st48 ?_
  refine own_by (S' := (oM T48 m 80 #[oR mb, oI 0, oI 3] [.ref mb, .int 3])) (fun _ k => XS.iloadN X48.here hx rfl (G d12_25) rfl (own_caload X48 hx hZ e48 A_li (by decide) (v := (.int 34)) (show LN[(3 : Int32).toNatClampNeg]? = _ from h3) (g := (mkF m 26 #[oR mb, oI 0, oI 3] [.int 3, .ref li])) rfl rfl (G d12_26) _ (XS.bipush X48.here hx rfl (G d12_27) (XS.icmpYes X48.here hx rfl (pc0 := 29) (pc' := 78) rfl (G d12_29) rfl (teq ((by decide) : (34 : Int32) = (34 : Int32))).1 (by decide) (by decide) (XS.iloadN X48.here hx rfl (G d12_78) rfl (XS.aloadN X48.here hx rfl (G d12_79) rfl rfl k)))))) ?_
  obtain ⟨T49, X49, e49, st49⟩ := getF X48 hx hZ hown (host := "") (Or.inl (gw hw 54 rfl)) Via.refl e48 F_len (g := (mkF m 80 #[oR mb, oI 0, oI 3] [.ref mb, .int 3])) rfl rfl (G d12_80)
  refine own_by st49 ?_
  refine own_by (S' := (oM T49 m 95 #[oR mb, oI 0, oI 3] [.int 4, .ref mb])) (fun _ k => XS.icmpYes X49.here hx rfl (pc0 := 83) (pc' := 91) rfl (G d12_83) rfl (feq ((by decide) : ¬ ((3 : Int32) = (23 : Int32)))).2 (by decide) (by decide) (XS.aloadN X49.here hx rfl (G d12_91) rfl rfl (XS.iloadN X49.here hx rfl (G d12_92) rfl (XS.iconst X49.here hx rfl (G d12_93) (XS.iadd X49.here hx rfl (G d12_94) rfl k))))) ?_
  obtain ⟨T50, h50, X50, e50, W50, st50⟩ := putF X49 hx hZ hown (host := "") (Or.inl (gw hw 58 rfl)) Via.refl e49 f_17 E_mb (Or.inl (gw hw 59 rfl)) (gw hw 13 rfl) (ty := .int) (by decide) rfl rfl (g := (mkF m 95 #[oR mb, oI 0, oI 3] [.int 4, .ref mb])) rfl rfl (G d12_95)
  have N := Fr.snoc X50 N o_mb
  have E_mb := E_mb.wr W50
  have f_17 := f_17.same W50
  have F_len := oT F_len W50 (Or.inl (gw hw 55 rfl)) (Or.inl (gw hw 59 rfl)) .int .int
  have f_10 := oT f_10 W50 (Or.inl (gw hw 53 rfl)) (Or.inl (gw hw 59 rfl)) (.array .char) .int
  have A_li := A_li.other W50 (Ne.symm ne_mb_li)
  have WQ := own_wtrans WQ W50
  have Zn : n0 ≤ _ := Nat.le_trans Zn (Nat.le_of_eq W50.size.symm)
  have K := K.wr W50 (Or.inl (List.mem_of_getElem? (i := 0) rfl))
  refine own_by st50 ?_
  refine own_by (S' := (oM T50 m 99 #[oR mb, oI 0, oI 3] [.int 0])) (fun _ k => XS.iloadN X50.here hx rfl (G d12_98) rfl k) ?_
  exact own_ret X50 hx (t := .boolean) Bd.returns rfl (Or.inl ⟨rfl, by simp, _, rfl⟩) (G d12_99) hlk (by decide : 0 ≤ _) (by decide : 0 ≤ _) (by rw [e50]; exact ⟨rfl, N, WQ⟩)
theorem ef_rm_readString12 (m : MethodId) (x0 : Addr) : entryFrame m #[.ref x0] 3 = mkF m 0 #[oR x0, oU, oU] [] := by first | (simp [entryFrame, mkF, argsToLocals, Value.category]; done) | rfl
def Q_rm_readString12 (Z : State) (mb li : Addr) (LN : List Value) (ch : Nat) (h0 : Heap) (n0 : Nat) (v : Option Value) (h : Heap) (L : List Loc) : Prop := v = some (.int 0) ∧ Fr n0 L ∧ Wr h0 h mb (Jvm.RoadKit.slotOf Z "com/example/upright_play/uprightplay/event/Members" "pos" "I") (.int 15)
set_option maxRecDepth 65536 in
set_option maxHeartbeats 40000000 in
theorem rm_readString12 (l : Launch) (Z : State) (a0 : Array Value) (hw : ∀ d ∈ tables_1, d.before a0 Z = true) (ws : List Jvm.Cond) (mb li : Addr) (LN : List Value) (ch : Nat) (h0 : Heap) (n0 : Nat) (Zn : n0 ≤ h0.size) (E_mb : Exa Z h0 mb "com/example/upright_play/uprightplay/event/Members") (f_17 : Fld Z h0 mb "com/example/upright_play/uprightplay/event/Members" "pos" "I" (.int 12)) (F_len : Fld Z h0 mb "com/example/upright_play/uprightplay/event/Members" "length" "I" (.int 23)) (f_10 : Fld Z h0 mb "com/example/upright_play/uprightplay/event/Members" "line" "[C" (.ref li)) (A_li : OwnA Z h0 li .char LN) (o_mb : n0 ≤ mb) (ne_mb_li : mb ≠ li) (h1 : LN[12]? = some (.int 34)) (h2 : LN[13]? = some (.int (Int32.ofNat ch))) (h3 : LN[14]? = some (.int 34)) (hk : own_nc ch) :
    MetFree l y_12 (head1 (Jvm.Cond.code y_12 c_12 3 (some .boolean) :: ws) (oQ 2 0 0 40)) (fun a U => a = #[.ref mb] ∧ Z.Warmed39 U.vm ∧ U.heap = h0) (fun _ _ _ _ _ => True) (fun _ U o U' => ∃ v L, o = .returned v ∧ (Q_rm_readString12 Z mb li LN ch h0 n0) v U'.heap L ∧ FrameEnd U o U' L (oQ 2 0 0 40).cells (oQ 2 0 0 40).slots) := by
  refine MetFree.of_bodySF (plainFor_of_name pn_12) hisR ?_
  intro p e s m args below meth c s₁ Bd hml0 hP hK
  obtain ⟨rfl, hZ, hh⟩ := hP
  have hx := Bd.exec
  have G := @oG _ _ Bd.bytes
  have hml : c.maxLocals = 3 := hml0
  have hown : s.vm.findClass "com/example/upright_play/uprightplay/event/Members" = some m.cls := findClass_of_methodNamed Bd.named
  have hnm := (name_of_methodNamed Bd.named Bd.method).1
  have hlk : meth.locks = false := BodyLoose.notSynchronized Bd
  have X0 : Stand p l e (oQ 2 0 0 40) s m #[.ref mb] below meth c s₁ [] 0 0 := Stand.of_body Bd
  have e0 : s₁.heap = h0 := by rw [← hh, Bd.state]; rfl
  have N := Fr.nil n0
  have K := Keep.refl h0 [mb]
  refine own_start (cl := (oQ 2 0 0 40).cells) (sl := (oQ 2 0 0 40).slots) (Q := (Q_rm_readString12 Z mb li LN ch h0 n0)) (ef_rm_readString12 m mb) ?_
  refine own_by (S' := (oM s₁ m 3 #[oR mb, oU, oU] [.int 34, .ref mb])) (fun _ k => XS.aloadN X0.here hx rfl (G d12_0) rfl rfl (XS.bipush X0.here hx rfl (G d12_1) k)) ?_
  obtain ⟨cq52, q52, q52'⟩ := E_mb.cell
  obtain ⟨_, _, ⟨T52, L52, k52, n52⟩, -, X52, ⟨Lc52, hQ52, l52, y52, z52⟩, st52⟩ := X0.privateBack hx (y := y_13) hown (mvT hZ (gw hw 88 rfl)) (mvT hZ (gw hw 89 rfl)) (own_selP hZ (gw hw 13 rfl) (gw hw 90 rfl) (gw hw 89 rfl) (by decide)) (Cond.privateMethod_at (mvP hZ (gw hw 90 rfl) (args := #[]))) (mvT hZ (gw hw 91 rfl)) (by decide) (backOf (W := 0) (rm_expect l Z a0 hw [] mb li LN (34 : Int32) 12 h0 n0 Zn E_mb f_17 F_len f_10 A_li o_mb ne_mb_li (by decide) h1) hZ (gw hw 91 rfl) (gw hw 14 rfl) (by decide) (by decide)) (g := (mkF m 3 #[oR mb, oU, oU] [.int 34, .ref mb])) rfl (by rw [hml]; rfl) (Steps.refl _) (a := mb) (by rw [e0]; exact q52) q52' (argsL := [.int 34]) (rest := []) (lenOf pd__28C_29V rfl) rfl oZ (G d12_3) (fun _ _ => ⟨rfl, e0, (by decide : 0 + 0 ≤ _), (by decide : 0 + 0 ≤ _)⟩)
  dsimp only [Pt.U, Pt.locs, Pt.cells, Pt.slots] at X52 l52 y52 z52 st52 hQ52
  have X52 := own_recast X52 l52 y52 z52
  obtain ⟨rfl, N52q, Wp51⟩ := hQ52
  have N := Fr.app N N52q
  have E_mb := E_mb.wr Wp51
  have f_17 := f_17.same Wp51
  have F_len := oT F_len Wp51 (Or.inl (gw hw 55 rfl)) (Or.inl (gw hw 59 rfl)) .int .int
  have f_10 := oT f_10 Wp51 (Or.inl (gw hw 53 rfl)) (Or.inl (gw hw 59 rfl)) (.array .char) .int
  have A_li := A_li.other Wp51 (Ne.symm ne_mb_li)
  have WQ := Wp51
  have Zn : n0 ≤ _ := Nat.le_trans Zn (Nat.le_of_eq Wp51.size.symm)
  have K := K.wr Wp51 (Or.inl (List.mem_of_getElem? (i := 0) rfl))
  refine own_tr st52 ?_
  refine own_by (S' := (oM T52 m 9 #[oR mb, oI 0, oU] [.ref mb])) (fun _ k => XS.iconst X52.here hx rfl (G d12_6) (XS.istoreN X52.here hx rfl (G d12_7) rfl (l' := #[oR mb, oI 0, oU]) rfl (XS.aloadN X52.here hx rfl (G d12_8) rfl rfl k))) ?_
  obtain ⟨T53, X53, e53, st53⟩ := getF X52 hx hZ hown (host := "") (Or.inl (gw hw 58 rfl)) Via.refl rfl f_17 (g := (mkF m 9 #[oR mb, oI 0, oU] [.ref mb])) rfl rfl (G d12_9)
  refine own_by st53 ?_
  refine own_by (S' := (oM T53 m 15 #[oR mb, oI 0, oI 13] [.ref mb, .int 13])) (fun _ k => XS.istoreN X53.here hx rfl (G d12_12) rfl (l' := #[oR mb, oI 0, oI 13]) rfl (XS.iloadN X53.here hx rfl (G d12_13) rfl (XS.aloadN X53.here hx rfl (G d12_14) rfl rfl k))) ?_
  obtain ⟨T54, X54, e54, st54⟩ := getF X53 hx hZ hown (host := "") (Or.inl (gw hw 54 rfl)) Via.refl e53 F_len (g := (mkF m 15 #[oR mb, oI 0, oI 13] [.ref mb, .int 13])) rfl rfl (G d12_15)
  refine own_by st54 ?_
  refine own_by (S' := (oM T54 m 22 #[oR mb, oI 0, oI 13] [.ref mb])) (fun _ k => XS.icmpNo X54.here hx rfl (G d12_18) rfl (tlt ((by decide) : (13 : Int32) < (23 : Int32))).2.1 (XS.aloadN X54.here hx rfl (G d12_21) rfl rfl k)) ?_
  obtain ⟨T55, X55, e55, st55⟩ := getF X54 hx hZ hown (host := "") (Or.inl (gw hw 52 rfl)) Via.refl e54 f_10 (g := (mkF m 22 #[oR mb, oI 0, oI 13] [.ref mb])) rfl rfl (G d12_22)
  refine own_by st55 ?_
  refine own_by (S' := (oM T55 m 33 #[oR mb, oI 0, oI 13] [.ref mb])) (fun _ k => XS.iloadN X55.here hx rfl (G d12_25) rfl (own_caload X55 hx hZ e55 A_li (by decide) (v := (.int (Int32.ofNat ch))) (show LN[(13 : Int32).toNatClampNeg]? = _ from h2) (g := (mkF m 26 #[oR mb, oI 0, oI 13] [.int 13, .ref li])) rfl rfl (G d12_26) _ (XS.bipush X55.here hx rfl (G d12_27) (XS.icmpNo X55.here hx rfl (G d12_29) rfl (feq ((own_ofne (n := 34) (by have := hk.2.1; omega) (by decide) hk.2.2.1) : ¬ ((Int32.ofNat ch) = (34 : Int32)))).1 (XS.aloadN X55.here hx rfl (G d12_32) rfl rfl k))))) ?_
  obtain ⟨T56, X56, e56, st56⟩ := getF X55 hx hZ hown (host := "") (Or.inl (gw hw 52 rfl)) Via.refl e55 f_10 (g := (mkF m 33 #[oR mb, oI 0, oI 13] [.ref mb])) rfl rfl (G d12_33)
  refine own_by st56 ?_
  refine own_by (S' := (oM T56 m 57 #[oR mb, oI 0, oI 13] [.ref mb])) (fun _ k => XS.iloadN X56.here hx rfl (G d12_36) rfl (own_caload X56 hx hZ e56 A_li (by decide) (v := (.int (Int32.ofNat ch))) (show LN[(13 : Int32).toNatClampNeg]? = _ from h2) (g := (mkF m 37 #[oR mb, oI 0, oI 13] [.int 13, .ref li])) rfl rfl (G d12_37) _ (XS.bipush X56.here hx rfl (G d12_38) (XS.icmpYes X56.here hx rfl (pc0 := 40) (pc' := 56) rfl (G d12_40) rfl (feq ((own_ofne (n := 92) (by have := hk.2.1; omega) (by decide) hk.2.2.2) : ¬ ((Int32.ofNat ch) = (92 : Int32)))).2 (by decide) (by decide) (XS.aloadN X56.here hx rfl (G d12_56) rfl rfl k))))) ?_
  obtain ⟨T57, X57, e57, st57⟩ := getF X56 hx hZ hown (host := "") (Or.inl (gw hw 52 rfl)) Via.refl e56 f_10 (g := (mkF m 57 #[oR mb, oI 0, oI 13] [.ref mb])) rfl rfl (G d12_57)
  refine own_by st57 ?_
  refine own_by (S' := (oM T57 m 15 #[oR mb, oI 0, oI 14] [.ref mb, .int 14])) (fun _ k => XS.iloadN X57.here hx rfl (G d12_60) rfl (own_caload X57 hx hZ e57 A_li (by decide) (v := (.int (Int32.ofNat ch))) (show LN[(13 : Int32).toNatClampNeg]? = _ from h2) (g := (mkF m 61 #[oR mb, oI 0, oI 13] [.int 13, .ref li])) rfl rfl (G d12_61) _ (XS.bipush X57.here hx rfl (G d12_62) (XS.icmpYes X57.here hx rfl (pc0 := 64) (pc' := 72) rfl (G d12_64) rfl (flt ((own_nlt (n := 32) (by have := hk.1; omega) (by have := hk.2.1; omega)) : ¬ ((Int32.ofNat ch) < (32 : Int32)))).2.1 (by decide) (by decide) (XS.iinc X57.here hx rfl (G d12_72) rfl (l' := #[oR mb, oI 0, oI 14]) rfl (XS.goto X57.here hx rfl (pc0 := 75) (pc' := 13) rfl (G d12_75) (by decide) (by decide) (XS.iloadN X57.here hx rfl (G d12_13) rfl (XS.aloadN X57.here hx rfl (G d12_14) rfl rfl k)))))))) ?_
  obtain ⟨T58, X58, e58, st58⟩ := getF X57 hx hZ hown (host := "") (Or.inl (gw hw 54 rfl)) Via.refl e57 F_len (g := (mkF m 15 #[oR mb, oI 0, oI 14] [.ref mb, .int 14])) rfl rfl (G d12_15)
  refine own_by st58 ?_
  refine own_by (S' := (oM T58 m 22 #[oR mb, oI 0, oI 14] [.ref mb])) (fun _ k => XS.icmpNo X58.here hx rfl (G d12_18) rfl (tlt ((by decide) : (14 : Int32) < (23 : Int32))).2.1 (XS.aloadN X58.here hx rfl (G d12_21) rfl rfl k)) ?_
  obtain ⟨T59, X59, e59, st59⟩ := getF X58 hx hZ hown (host := "") (Or.inl (gw hw 52 rfl)) Via.refl e58 f_10 (g := (mkF m 22 #[oR mb, oI 0, oI 14] [.ref mb])) rfl rfl (G d12_22)
  refine own_by st59 ?_
  refine own_by (S' := (oM T59 m 80 #[oR mb, oI 0, oI 14] [.ref mb, .int 14])) (fun _ k => XS.iloadN X59.here hx rfl (G d12_25) rfl (own_caload X59 hx hZ e59 A_li (by decide) (v := (.int 34)) (show LN[(14 : Int32).toNatClampNeg]? = _ from h3) (g := (mkF m 26 #[oR mb, oI 0, oI 14] [.int 14, .ref li])) rfl rfl (G d12_26) _ (XS.bipush X59.here hx rfl (G d12_27) (XS.icmpYes X59.here hx rfl (pc0 := 29) (pc' := 78) rfl (G d12_29) rfl (teq ((by decide) : (34 : Int32) = (34 : Int32))).1 (by decide) (by decide) (XS.iloadN X59.here hx rfl (G d12_78) rfl (XS.aloadN X59.here hx rfl (G d12_79) rfl rfl k)))))) ?_
  obtain ⟨T60, X60, e60, st60⟩ := getF X59 hx hZ hown (host := "") (Or.inl (gw hw 54 rfl)) Via.refl e59 F_len (g := (mkF m 80 #[oR mb, oI 0, oI 14] [.ref mb, .int 14])) rfl rfl (G d12_80)
  refine own_by st60 ?_
  refine own_by (S' := (oM T60 m 95 #[oR mb, oI 0, oI 14] [.int 15, .ref mb])) (fun _ k => XS.icmpYes X60.here hx rfl (pc0 := 83) (pc' := 91) rfl (G d12_83) rfl (feq ((by decide) : ¬ ((14 : Int32) = (23 : Int32)))).2 (by decide) (by decide) (XS.aloadN X60.here hx rfl (G d12_91) rfl rfl (XS.iloadN X60.here hx rfl (G d12_92) rfl (XS.iconst X60.here hx rfl (G d12_93) (XS.iadd X60.here hx rfl (G d12_94) rfl k))))) ?_
  obtain ⟨T61, h61, X61, e61, W61, st61⟩ := putF X60 hx hZ hown (host := "") (Or.inl (gw hw 58 rfl)) Via.refl e60 f_17 E_mb (Or.inl (gw hw 59 rfl)) (gw hw 13 rfl) (ty := .int) (by decide) rfl rfl (g := (mkF m 95 #[oR mb, oI 0, oI 14] [.int 15, .ref mb])) rfl rfl (G d12_95)
  have N := Fr.snoc X61 N o_mb
  have E_mb := E_mb.wr W61
  have f_17 := f_17.same W61
  have F_len := oT F_len W61 (Or.inl (gw hw 55 rfl)) (Or.inl (gw hw 59 rfl)) .int .int
  have f_10 := oT f_10 W61 (Or.inl (gw hw 53 rfl)) (Or.inl (gw hw 59 rfl)) (.array .char) .int
  have A_li := A_li.other W61 (Ne.symm ne_mb_li)
  have WQ := own_wtrans WQ W61
  have Zn : n0 ≤ _ := Nat.le_trans Zn (Nat.le_of_eq W61.size.symm)
  have K := K.wr W61 (Or.inl (List.mem_of_getElem? (i := 0) rfl))
  refine own_by st61 ?_
  refine own_by (S' := (oM T61 m 99 #[oR mb, oI 0, oI 14] [.int 0])) (fun _ k => XS.iloadN X61.here hx rfl (G d12_98) rfl k) ?_
  exact own_ret X61 hx (t := .boolean) Bd.returns rfl (Or.inl ⟨rfl, by simp, _, rfl⟩) (G d12_99) hlk (by decide : 0 ≤ _) (by decide : 0 ≤ _) (by rw [e61]; exact ⟨rfl, N, WQ⟩)
theorem d23_0 : oD c_23 0 (.aload_n 0, 1) := by decide +kernel
theorem d23_1 : oD c_23 1 (.getfield 59, 3) := by decide +kernel
theorem d23_4 : oD c_23 4 (.aload_n 0, 1) := by decide +kernel
theorem d23_5 : oD c_23 5 (.getfield 51, 3) := by decide +kernel
theorem d23_8 : oD c_23 8 (.if_icmp .ge 23, 3) := by decide +kernel
theorem d23_11 : oD c_23 11 (.aload_n 0, 1) := by decide +kernel
theorem d23_12 : oD c_23 12 (.getfield 47, 3) := by decide +kernel
theorem d23_15 : oD c_23 15 (.aload_n 0, 1) := by decide +kernel
theorem d23_16 : oD c_23 16 (.getfield 59, 3) := by decide +kernel
theorem d23_19 : oD c_23 19 (.caload, 1) := by decide +kernel
theorem d23_20 : oD c_23 20 (.invokestatic 262, 3) := by decide +kernel
theorem d23_23 : oD c_23 23 (.ifCond .ne 8, 3) := by decide +kernel
theorem d23_31 : oD c_23 31 (.return_, 1) := by decide +kernel
theorem pn_23 : plainName "com/example/upright_play/uprightplay/event/Members" = true := by first | (simp [plainName, overriddenIn]; done) | decide +kernel
theorem ef_rm_expDel (m : MethodId) (x0 : Addr) : entryFrame m #[.ref x0] 1 = mkF m 0 #[oR x0] [] := by first | (simp [entryFrame, mkF, argsToLocals, Value.category]; done) | rfl
def Q_rm_expDel (Z : State) (mb li : Addr) (LN : List Value) (p1 : Nat) (cz : Int32) (h0 : Heap) (n0 : Nat) (v : Option Value) (h : Heap) (L : List Loc) : Prop := v = none ∧ Fr n0 L ∧ h = h0
set_option maxRecDepth 65536 in
set_option maxHeartbeats 40000000 in
theorem rm_expDel (l : Launch) (Z : State) (a0 : Array Value) (hw : ∀ d ∈ tables_1, d.before a0 Z = true) (ws : List Jvm.Cond) (mb li : Addr) (LN : List Value) (p1 : Nat) (cz : Int32) (h0 : Heap) (n0 : Nat) (Zn : n0 ≤ h0.size) (E_mb : Exa Z h0 mb "com/example/upright_play/uprightplay/event/Members") (f_17 : Fld Z h0 mb "com/example/upright_play/uprightplay/event/Members" "pos" "I" (.int (Int32.ofNat p1))) (F_len : Fld Z h0 mb "com/example/upright_play/uprightplay/event/Members" "length" "I" (.int 23)) (f_10 : Fld Z h0 mb "com/example/upright_play/uprightplay/event/Members" "line" "[C" (.ref li)) (A_li : OwnA Z h0 li .char LN) (o_mb : n0 ≤ mb) (ne_mb_li : mb ≠ li) (hp : p1 < 23) (hc : LN[p1]? = some (.int cz)) (hz : cz = 32 ∨ cz = 44 ∨ cz = 125) :
    MetFree l y_23 (head1 (Jvm.Cond.code y_23 c_23 1 none :: ws) (oQ 1 0 0 16)) (fun a U => a = #[.ref mb] ∧ Z.Warmed39 U.vm ∧ U.heap = h0) (fun _ _ _ _ _ => True) (fun _ U o U' => ∃ v L, o = .returned v ∧ (Q_rm_expDel Z mb li LN p1 cz h0 n0) v U'.heap L ∧ FrameEnd U o U' L (oQ 1 0 0 16).cells (oQ 1 0 0 16).slots) := by
  refine MetFree.of_bodySF (plainFor_of_name pn_23) hisR ?_
  intro p e s m args below meth c s₁ Bd hml0 hP hK
  obtain ⟨rfl, hZ, hh⟩ := hP
  have hx := Bd.exec
  have G := @oG _ _ Bd.bytes
  have hml : c.maxLocals = 1 := hml0
  have hown : s.vm.findClass "com/example/upright_play/uprightplay/event/Members" = some m.cls := findClass_of_methodNamed Bd.named
  have hnm := (name_of_methodNamed Bd.named Bd.method).1
  have hlk : meth.locks = false := BodyLoose.notSynchronized Bd
  have X0 : Stand p l e (oQ 1 0 0 16) s m #[.ref mb] below meth c s₁ [] 0 0 := Stand.of_body Bd
  have e0 : s₁.heap = h0 := by rw [← hh, Bd.state]; rfl
  have N := Fr.nil n0
  have K := Keep.refl h0 [mb]
  refine own_start (cl := (oQ 1 0 0 16).cells) (sl := (oQ 1 0 0 16).slots) (Q := (Q_rm_expDel Z mb li LN p1 cz h0 n0)) (ef_rm_expDel m mb) ?_
  refine own_by (S' := (oM s₁ m 1 #[oR mb] [.ref mb])) (fun _ k => XS.aloadN X0.here hx rfl (G d23_0) rfl rfl k) ?_
  obtain ⟨T62, X62, e62, st62⟩ := getF X0 hx hZ hown (host := "") (Or.inl (gw hw 58 rfl)) Via.refl e0 f_17 (g := (mkF m 1 #[oR mb] [.ref mb])) rfl rfl (G d23_1)
  refine own_by st62 ?_
  refine own_by (S' := (oM T62 m 5 #[oR mb] [.ref mb, (.int (Int32.ofNat p1))])) (fun _ k => XS.aloadN X62.here hx rfl (G d23_4) rfl rfl k) ?_
  obtain ⟨T63, X63, e63, st63⟩ := getF X62 hx hZ hown (host := "") (Or.inl (gw hw 54 rfl)) Via.refl e62 F_len (g := (mkF m 5 #[oR mb] [.ref mb, (.int (Int32.ofNat p1))])) rfl rfl (G d23_5)
  refine own_by st63 ?_
  refine own_by (S' := (oM T63 m 12 #[oR mb] [.ref mb])) (fun _ k => XS.icmpNo X63.here hx rfl (G d23_8) rfl (tlt ((own_lt hp (by decide)) : (Int32.ofNat p1) < (23 : Int32))).2.1 (XS.aloadN X63.here hx rfl (G d23_11) rfl rfl k)) ?_
  obtain ⟨T64, X64, e64, st64⟩ := getF X63 hx hZ hown (host := "") (Or.inl (gw hw 52 rfl)) Via.refl e63 f_10 (g := (mkF m 12 #[oR mb] [.ref mb])) rfl rfl (G d23_12)
  refine own_by st64 ?_
  refine own_by (S' := (oM T64 m 16 #[oR mb] [.ref mb, .ref li])) (fun _ k => XS.aloadN X64.here hx rfl (G d23_15) rfl rfl k) ?_
  obtain ⟨T65, X65, e65, st65⟩ := getF X64 hx hZ hown (host := "") (Or.inl (gw hw 58 rfl)) Via.refl e64 f_17 (g := (mkF m 16 #[oR mb] [.ref mb, .ref li])) rfl rfl (G d23_16)
  refine own_by st65 ?_
  refine own_by (S' := (oM T65 m 20 #[oR mb] [.int cz])) (fun _ k => own_caload X65 hx hZ e65 A_li (own_nn (by omega)) (v := (.int cz)) (own_at (by omega) hc) (g := (mkF m 19 #[oR mb] [(.int (Int32.ofNat p1)), .ref li])) rfl rfl (G d23_19) _ k) ?_
  obtain ⟨_, _, ⟨T66, L66, k66, n66⟩, -, X66, ⟨Lc66, hQ66, l66, y66, z66⟩, st66⟩ := Jvm.LawKit.callS X65 hx (y := y_24) hown (mvT hZ (gw hw 146 rfl)) (mvT hZ (gw hw 147 rfl)) (mvT hZ (gw hw 14 rfl)) (mvT hZ (gw hw 148 rfl)) (by decide) (backOf (W := 0) (rm_isDel l Z a0 hw [] cz h0 n0 Zn hz) hZ (gw hw 148 rfl) (gw hw 14 rfl) (by decide) (by decide)) (g := (mkF m 20 #[oR mb] [.int cz])) rfl (by rw [hml]; rfl) (argsL := [.int cz]) (rest := []) (lenOf pd__28C_29Z rfl) rfl oZ (G d23_20) (fun _ _ => ⟨rfl, e65, (by decide : 0 + 0 ≤ _), (by decide : 0 + 0 ≤ _)⟩)
  dsimp only [Pt.U, Pt.locs, Pt.cells, Pt.slots] at X66 l66 y66 z66 st66 hQ66
  have X66 := own_recast X66 l66 y66 z66
  obtain ⟨rfl, N66q, eh⟩ := hQ66
  have N := Fr.app N N66q
  refine own_by st66 ?_
  refine own_by (S' := (oM T66 m 31 #[oR mb] [])) (fun _ k => XS.ifYes X66.here hx rfl (pc0 := 23) (pc' := 31) rfl (G d23_23) rfl ((if0 _ _).trans (feq ((by decide) : ¬ ((1 : Int32) = (0 : Int32)))).2) (by decide) (by decide) k) ?_
  exact own_ret0 X66 hx Bd.returns (G d23_31) hlk (by decide : 0 ≤ _) (by decide : 0 ≤ _) (by rw [eh]; exact ⟨rfl, N, rfl⟩)
theorem d15_0 : oD c_15 0 (.iconst 0, 1) := by decide +kernel
theorem d15_1 : oD c_15 1 (.istore_n 2, 1) := by decide +kernel
theorem d15_2 : oD c_15 2 (.iload_n 2, 1) := by decide +kernel
theorem d15_3 : oD c_15 3 (.aload_n 1, 1) := by decide +kernel
theorem d15_4 : oD c_15 4 (.invokevirtual 238, 3) := by decide +kernel
theorem d15_7 : oD c_15 7 (.if_icmp .ge 52, 3) := by decide +kernel
theorem d15_10 : oD c_15 10 (.aload_n 0, 1) := by decide +kernel
theorem d15_11 : oD c_15 11 (.getfield 59, 3) := by decide +kernel
theorem d15_14 : oD c_15 14 (.aload_n 0, 1) := by decide +kernel
theorem d15_15 : oD c_15 15 (.getfield 51, 3) := by decide +kernel
theorem d15_18 : oD c_15 18 (.if_icmp .eq 20, 3) := by decide +kernel
theorem d15_21 : oD c_15 21 (.aload_n 0, 1) := by decide +kernel
theorem d15_22 : oD c_15 22 (.getfield 47, 3) := by decide +kernel
theorem d15_25 : oD c_15 25 (.aload_n 0, 1) := by decide +kernel
theorem d15_26 : oD c_15 26 (.getfield 59, 3) := by decide +kernel
theorem d15_29 : oD c_15 29 (.caload, 1) := by decide +kernel
theorem d15_30 : oD c_15 30 (.aload_n 1, 1) := by decide +kernel
theorem d15_31 : oD c_15 31 (.iload_n 2, 1) := by decide +kernel
theorem d15_32 : oD c_15 32 (.invokevirtual 240, 3) := by decide +kernel
theorem d15_35 : oD c_15 35 (.if_icmp .eq 8, 3) := by decide +kernel
theorem d15_43 : oD c_15 43 (.aload_n 0, 1) := by decide +kernel
theorem d15_44 : oD c_15 44 (.dup, 1) := by decide +kernel
theorem d15_45 : oD c_15 45 (.getfield 59, 3) := by decide +kernel
theorem d15_48 : oD c_15 48 (.iconst 1, 1) := by decide +kernel
theorem d15_49 : oD c_15 49 (.iadd, 1) := by decide +kernel
theorem d15_50 : oD c_15 50 (.putfield 59, 3) := by decide +kernel
theorem d15_53 : oD c_15 53 (.iinc 2 1, 3) := by decide +kernel
theorem d15_56 : oD c_15 56 (.goto (-54), 3) := by decide +kernel
theorem d15_59 : oD c_15 59 (.aload_n 0, 1) := by decide +kernel
theorem d15_60 : oD c_15 60 (.invokevirtual 244, 3) := by decide +kernel
theorem d15_63 : oD c_15 63 (.return_, 1) := by decide +kernel
theorem pn_15 : plainName "com/example/upright_play/uprightplay/event/Members" = true := by first | (simp [plainName, overriddenIn]; done) | decide +kernel
theorem ef_rm_word_true (m : MethodId) (x0 : Addr) (x1 : Addr) : entryFrame m #[.ref x0, .ref x1] 3 = mkF m 0 #[oR x0, oR x1, oU] [] := by first | (simp [entryFrame, mkF, argsToLocals, Value.category]; done) | rfl
def Q_rm_word_true (Z : State) (mb li : Addr) (LN : List Value) (sa sb : Addr) (p1 : Nat) (cz : Int32) (cs : Int32) (fo : Value) (bo : Addr) (h0 : Heap) (n0 : Nat) (v : Option Value) (h : Heap) (L : List Loc) : Prop := v = none ∧ Fr n0 L ∧ Wr h0 h mb (Jvm.RoadKit.slotOf Z "com/example/upright_play/uprightplay/event/Members" "pos" "I") (.int (Int32.ofNat (p1 + 4)))
theorem pd__28_29I : parseMethodDescriptor "()I" = some ⟨[], some .int⟩ := by decide +kernel
theorem pd__28I_29C : parseMethodDescriptor "(I)C" = some ⟨[.int], some .char⟩ := by decide +kernel
theorem pd__28_29V : parseMethodDescriptor "()V" = some ⟨[], none⟩ := by decide +kernel
set_option maxRecDepth 65536 in
set_option maxHeartbeats 40000000 in
theorem rm_word_true (l : Launch) (Z : State) (a0 : Array Value) (hw : ∀ d ∈ tables_1, d.before a0 Z = true) (ws : List Jvm.Cond) (mb li : Addr) (LN : List Value) (sa sb : Addr) (p1 : Nat) (cz : Int32) (cs : Int32) (fo : Value) (bo : Addr) (h0 : Heap) (n0 : Nat) (Zn : n0 ≤ h0.size) (E_mb : Exa Z h0 mb "com/example/upright_play/uprightplay/event/Members") (f_17 : Fld Z h0 mb "com/example/upright_play/uprightplay/event/Members" "pos" "I" (.int (Int32.ofNat p1))) (F_len : Fld Z h0 mb "com/example/upright_play/uprightplay/event/Members" "length" "I" (.int 23)) (f_10 : Fld Z h0 mb "com/example/upright_play/uprightplay/event/Members" "line" "[C" (.ref li)) (A_li : OwnA Z h0 li .char LN) (o_mb : n0 ≤ mb) (ne_mb_li : mb ≠ li) (S_a : own_str Z h0 sa sb [.int 116, .int 114, .int 117, .int 101]) (ne1 : sa ≠ mb) (ne2 : sb ≠ mb) (hp : p1 + 4 < 23) (hl0 : LN[p1 + 0]? = some (.int 116)) (hl1 : LN[p1 + 1]? = some (.int 114)) (hl2 : LN[p1 + 2]? = some (.int 117)) (hl3 : LN[p1 + 3]? = some (.int 101)) (hc : LN[p1 + 4]? = some (.int cz)) (hz : cz = 32 ∨ cz = 44 ∨ cz = 125) (O : Old Z n0 h0) (SS : own_st Z cs fo bo) :
    MetFree l y_15 (head1 (Jvm.Cond.code y_15 c_15 3 none :: ws) (oQ 4 0 0 80)) (fun a U => a = #[.ref mb, .ref sa] ∧ Z.Warmed39 U.vm ∧ U.heap = h0) (fun _ _ _ _ _ => True) (fun _ U o U' => ∃ v L, o = .returned v ∧ (Q_rm_word_true Z mb li LN sa sb p1 cz cs fo bo h0 n0) v U'.heap L ∧ FrameEnd U o U' L (oQ 4 0 0 80).cells (oQ 4 0 0 80).slots) := by
  refine MetFree.of_bodySF (plainFor_of_name pn_15) hisR ?_
  intro p e s m args below meth c s₁ Bd hml0 hP hK
  obtain ⟨rfl, hZ, hh⟩ := hP
  have hx := Bd.exec
  have G := @oG _ _ Bd.bytes
  have hml : c.maxLocals = 3 := hml0
  have hown : s.vm.findClass "com/example/upright_play/uprightplay/event/Members" = some m.cls := findClass_of_methodNamed Bd.named
  have hnm := (name_of_methodNamed Bd.named Bd.method).1
  have hlk : meth.locks = false := BodyLoose.notSynchronized Bd
  have X0 : Stand p l e (oQ 4 0 0 80) s m #[.ref mb, .ref sa] below meth c s₁ [] 0 0 := Stand.of_body Bd
  have e0 : s₁.heap = h0 := by rw [← hh, Bd.state]; rfl
  have N := Fr.nil n0
  have K := Keep.refl h0 [mb]
  refine own_start (cl := (oQ 4 0 0 80).cells) (sl := (oQ 4 0 0 80).slots) (Q := (Q_rm_word_true Z mb li LN sa sb p1 cz cs fo bo h0 n0)) (ef_rm_word_true m mb sa) ?_
  obtain ⟨SC, hcs, SF, hfo, SB, EB⟩ := SS
  obtain ⟨E_sa, F_sa_c, F_sa_v, A_sb⟩ := S_a
  have WQ := own_wrefl f_17
  refine own_by (S' := (oM s₁ m 4 #[oR mb, oR sa, oI 0] [.ref sa, .int 0])) (fun _ k => XS.iconst X0.here hx rfl (G d15_0) (XS.istoreN X0.here hx rfl (G d15_1) rfl (l' := #[oR mb, oR sa, oI 0]) rfl (XS.iloadN X0.here hx rfl (G d15_2) rfl (XS.aloadN X0.here hx rfl (G d15_3) rfl rfl k)))) ?_
  obtain ⟨cq68, kq68, q68a, q68b, q68c⟩ := isOf hZ e0 E_sa
  obtain ⟨_, _, ⟨T68, L68, k68, n68⟩, -, X68, ⟨Lc68, hQ68, l68, y68, z68⟩, st68⟩ := X0.virtualBack hx (y := y_16) (z := y_16) hown (mvT hZ (gw hw 107 rfl)) (mvT hZ (gw hw 108 rfl)) (notFace_of_selects (args := #[]) (mvT hZ (gw hw 110 rfl))) (mvT hZ (gw hw 110 rfl)) (mvT hZ (gw hw 109 rfl)) (by decide) (backOf (W := 1) (rm_len l Z a0 hw [] sa sb [.int 116, .int 114, .int 117, .int 101] cs fo bo h0 n0 Zn ⟨E_sa, F_sa_c, F_sa_v, A_sb⟩ O ⟨SC, hcs, SF, hfo, SB, EB⟩) hZ (gw hw 111 rfl) (gw hw 97 rfl) (by decide) (by decide)) q68a q68c (g := (mkF m 4 #[oR mb, oR sa, oI 0] [.ref sa, .int 0])) rfl (by rw [hml]; rfl) (Steps.refl _) (argsL := []) (rest := [.int 0]) (lenOf pd__28_29I rfl) rfl oZ (G d15_4) (fun _ _ => ⟨rfl, e0, (by decide : 0 + 0 ≤ _), (by decide : 0 + 0 ≤ _)⟩)
  dsimp only [Pt.U, Pt.locs, Pt.cells, Pt.slots] at X68 l68 y68 z68 st68 hQ68
  have X68 := own_recast X68 l68 y68 z68
  obtain ⟨rfl, N68q, eh67⟩ := hQ68
  have N := Fr.app N N68q
  refine own_tr st68 ?_
  refine own_by (S' := (oM T68 m 11 #[oR mb, oR sa, oI 0] [.ref mb])) (fun _ k => XS.icmpNo X68.here hx rfl (G d15_7) rfl (tlt ((by decide) : (0 : Int32) < (4 : Int32))).2.1 (XS.aloadN X68.here hx rfl (G d15_10) rfl rfl k)) ?_
  obtain ⟨T69, X69, e69, st69⟩ := getF X68 hx hZ hown (host := "") (Or.inl (gw hw 58 rfl)) Via.refl eh67 f_17 (g := (mkF m 11 #[oR mb, oR sa, oI 0] [.ref mb])) rfl rfl (G d15_11)
  refine own_by st69 ?_
  refine own_by (S' := (oM T69 m 15 #[oR mb, oR sa, oI 0] [.ref mb, (.int (Int32.ofNat p1))])) (fun _ k => XS.aloadN X69.here hx rfl (G d15_14) rfl rfl k) ?_
  obtain ⟨T70, X70, e70, st70⟩ := getF X69 hx hZ hown (host := "") (Or.inl (gw hw 54 rfl)) Via.refl e69 F_len (g := (mkF m 15 #[oR mb, oR sa, oI 0] [.ref mb, (.int (Int32.ofNat p1))])) rfl rfl (G d15_15)
  refine own_by st70 ?_
  refine own_by (S' := (oM T70 m 22 #[oR mb, oR sa, oI 0] [.ref mb])) (fun _ k => XS.icmpNo X70.here hx rfl (G d15_18) rfl (feq ((own_ofne (n := 23) (by omega) (by decide) (by omega)) : ¬ ((Int32.ofNat p1) = (23 : Int32)))).1 (XS.aloadN X70.here hx rfl (G d15_21) rfl rfl k)) ?_
  obtain ⟨T71, X71, e71, st71⟩ := getF X70 hx hZ hown (host := "") (Or.inl (gw hw 52 rfl)) Via.refl e70 f_10 (g := (mkF m 22 #[oR mb, oR sa, oI 0] [.ref mb])) rfl rfl (G d15_22)
  refine own_by st71 ?_
  refine own_by (S' := (oM T71 m 26 #[oR mb, oR sa, oI 0] [.ref mb, .ref li])) (fun _ k => XS.aloadN X71.here hx rfl (G d15_25) rfl rfl k) ?_
  obtain ⟨T72, X72, e72, st72⟩ := getF X71 hx hZ hown (host := "") (Or.inl (gw hw 58 rfl)) Via.refl e71 f_17 (g := (mkF m 26 #[oR mb, oR sa, oI 0] [.ref mb, .ref li])) rfl rfl (G d15_26)
  refine own_by st72 ?_
  refine own_by (S' := (oM T72 m 32 #[oR mb, oR sa, oI 0] [.int 0, .ref sa, .int 116])) (fun _ k => own_caload X72 hx hZ e72 A_li (own_nn (by omega)) (v := (.int 116)) (own_at (by omega) hl0) (g := (mkF m 29 #[oR mb, oR sa, oI 0] [(.int (Int32.ofNat p1)), .ref li])) rfl rfl (G d15_29) _ (XS.aloadN X72.here hx rfl (G d15_30) rfl rfl (XS.iloadN X72.here hx rfl (G d15_31) rfl k))) ?_
  obtain ⟨cq74, kq74, q74a, q74b, q74c⟩ := isOf hZ e72 E_sa
  obtain ⟨_, _, ⟨T74, L74, k74, n74⟩, -, X74, ⟨Lc74, hQ74, l74, y74, z74⟩, st74⟩ := X72.virtualBack hx (y := y_18) (z := y_18) hown (mvT hZ (gw hw 120 rfl)) (mvT hZ (gw hw 121 rfl)) (notFace_of_selects (args := #[]) (mvT hZ (gw hw 123 rfl))) (mvT hZ (gw hw 123 rfl)) (mvT hZ (gw hw 122 rfl)) (by decide) (backOf (W := 1) (rm_charAt l Z a0 hw [] sa sb [.int 116, .int 114, .int 117, .int 101] (0 : Int32) (116 : Int32) (116 : Int32) cs fo bo h0 n0 Zn ⟨E_sa, F_sa_c, F_sa_v, A_sb⟩ (by decide) (of_decide_eq_true rfl) rfl (by decide) (by decide) O ⟨SC, hcs, SF, hfo, SB, EB⟩) hZ (gw hw 124 rfl) (gw hw 97 rfl) (by decide) (by decide)) q74a q74c (g := (mkF m 32 #[oR mb, oR sa, oI 0] [.int 0, .ref sa, .int 116])) rfl (by rw [hml]; rfl) (Steps.refl _) (argsL := [.int 0]) (rest := [.int 116]) (lenOf pd__28I_29C rfl) rfl oZ (G d15_32) (fun _ _ => ⟨rfl, e72, (by decide : 0 + 0 ≤ _), (by decide : 0 + 0 ≤ _)⟩)
  dsimp only [Pt.U, Pt.locs, Pt.cells, Pt.slots] at X74 l74 y74 z74 st74 hQ74
  have X74 := own_recast X74 l74 y74 z74
  obtain ⟨rfl, N74q, eh73⟩ := hQ74
  have N := Fr.app N N74q
  refine own_tr st74 ?_
  refine own_by (S' := (oM T74 m 45 #[oR mb, oR sa, oI 0] [.ref mb, .ref mb])) (fun _ k => XS.icmpYes X74.here hx rfl (pc0 := 35) (pc' := 43) rfl (G d15_35) rfl (teq ((by decide) : (116 : Int32) = (116 : Int32))).1 (by decide) (by decide) (XS.aloadN X74.here hx rfl (G d15_43) rfl rfl (XS.dup X74.here hx rfl (G d15_44) rfl rfl k))) ?_
  obtain ⟨T75, X75, e75, st75⟩ := getF X74 hx hZ hown (host := "") (Or.inl (gw hw 58 rfl)) Via.refl eh73 f_17 (g := (mkF m 45 #[oR mb, oR sa, oI 0] [.ref mb, .ref mb])) rfl rfl (G d15_45)
  refine own_by st75 ?_
  refine own_by (S' := (oM T75 m 50 #[oR mb, oR sa, oI 0] [(.int ((Int32.ofNat p1) + (1 : Int32))), .ref mb])) (fun _ k => XS.iconst X75.here hx rfl (G d15_48) (XS.iadd X75.here hx rfl (G d15_49) rfl k)) ?_
  rw [show ((Int32.ofNat p1) + (1 : Int32)) = (Int32.ofNat (p1 + 1)) from own_one p1]
  obtain ⟨T76, h76, X76, e76, W76, st76⟩ := putF X75 hx hZ hown (host := "") (Or.inl (gw hw 58 rfl)) Via.refl e75 f_17 E_mb (Or.inl (gw hw 59 rfl)) (gw hw 13 rfl) (ty := .int) (by decide) rfl rfl (g := (mkF m 50 #[oR mb, oR sa, oI 0] [(.int (Int32.ofNat (p1 + 1))), .ref mb])) rfl rfl (G d15_50)
  have N := Fr.snoc X76 N o_mb
  have E_mb := E_mb.wr W76
  have f_17 := f_17.same W76
  have F_len := oT F_len W76 (Or.inl (gw hw 55 rfl)) (Or.inl (gw hw 59 rfl)) .int .int
  have f_10 := oT f_10 W76 (Or.inl (gw hw 53 rfl)) (Or.inl (gw hw 59 rfl)) (.array .char) .int
  have A_li := A_li.other W76 (Ne.symm ne_mb_li)
  have O := O.wr W76 o_mb
  have E_sa := E_sa.wr W76
  have F_sa_c := oF F_sa_c W76 ne1
  have F_sa_v := oF F_sa_v W76 ne1
  have A_sb := A_sb.other W76 ne2
  have WQ := own_wtrans WQ W76
  have Zn : n0 ≤ _ := Nat.le_trans Zn (Nat.le_of_eq W76.size.symm)
  have K := K.wr W76 (Or.inl (List.mem_of_getElem? (i := 0) rfl))
  refine own_by st76 ?_
  refine own_by (S' := (oM T76 m 4 #[oR mb, oR sa, oI 1] [.ref sa, .int 1])) (fun _ k => XS.iinc X76.here hx rfl (G d15_53) rfl (l' := #[oR mb, oR sa, oI 1]) rfl (XS.goto X76.here hx rfl (pc0 := 56) (pc' := 2) rfl (G d15_56) (by decide) (by decide) (XS.iloadN X76.here hx rfl (G d15_2) rfl (XS.aloadN X76.here hx rfl (G d15_3) rfl rfl k)))) ?_
  obtain ⟨cq78, kq78, q78a, q78b, q78c⟩ := isOf hZ e76 E_sa
  obtain ⟨_, _, ⟨T78, L78, k78, n78⟩, -, X78, ⟨Lc78, hQ78, l78, y78, z78⟩, st78⟩ := X76.virtualBack hx (y := y_16) (z := y_16) hown (mvT hZ (gw hw 107 rfl)) (mvT hZ (gw hw 108 rfl)) (notFace_of_selects (args := #[]) (mvT hZ (gw hw 110 rfl))) (mvT hZ (gw hw 110 rfl)) (mvT hZ (gw hw 109 rfl)) (by decide) (backOf (W := 1) (rm_len l Z a0 hw [] sa sb [.int 116, .int 114, .int 117, .int 101] cs fo bo h76 n0 Zn ⟨E_sa, F_sa_c, F_sa_v, A_sb⟩ O ⟨SC, hcs, SF, hfo, SB, EB⟩) hZ (gw hw 111 rfl) (gw hw 97 rfl) (by decide) (by decide)) q78a q78c (g := (mkF m 4 #[oR mb, oR sa, oI 1] [.ref sa, .int 1])) rfl (by rw [hml]; rfl) (Steps.refl _) (argsL := []) (rest := [.int 1]) (lenOf pd__28_29I rfl) rfl oZ (G d15_4) (fun _ _ => ⟨rfl, e76, (by decide : 0 + 0 ≤ _), (by decide : 0 + 0 ≤ _)⟩)
  dsimp only [Pt.U, Pt.locs, Pt.cells, Pt.slots] at X78 l78 y78 z78 st78 hQ78
  have X78 := own_recast X78 l78 y78 z78
  obtain ⟨rfl, N78q, eh77⟩ := hQ78
  have N := Fr.app N N78q
  refine own_tr st78 ?_
  refine own_by (S' := (oM T78 m 11 #[oR mb, oR sa, oI 1] [.ref mb])) (fun _ k => XS.icmpNo X78.here hx rfl (G d15_7) rfl (tlt ((by decide) : (1 : Int32) < (4 : Int32))).2.1 (XS.aloadN X78.here hx rfl (G d15_10) rfl rfl k)) ?_
  obtain ⟨T79, X79, e79, st79⟩ := getF X78 hx hZ hown (host := "") (Or.inl (gw hw 58 rfl)) Via.refl eh77 f_17 (g := (mkF m 11 #[oR mb, oR sa, oI 1] [.ref mb])) rfl rfl (G d15_11)
  refine own_by st79 ?_
  refine own_by (S' := (oM T79 m 15 #[oR mb, oR sa, oI 1] [.ref mb, (.int (Int32.ofNat (p1 + 1)))])) (fun _ k => XS.aloadN X79.here hx rfl (G d15_14) rfl rfl k) ?_
  obtain ⟨T80, X80, e80, st80⟩ := getF X79 hx hZ hown (host := "") (Or.inl (gw hw 54 rfl)) Via.refl e79 F_len (g := (mkF m 15 #[oR mb, oR sa, oI 1] [.ref mb, (.int (Int32.ofNat (p1 + 1)))])) rfl rfl (G d15_15)
  refine own_by st80 ?_
  refine own_by (S' := (oM T80 m 22 #[oR mb, oR sa, oI 1] [.ref mb])) (fun _ k => XS.icmpNo X80.here hx rfl (G d15_18) rfl (feq ((own_ofne (n := 23) (by omega) (by decide) (by omega)) : ¬ ((Int32.ofNat (p1 + 1)) = (23 : Int32)))).1 (XS.aloadN X80.here hx rfl (G d15_21) rfl rfl k)) ?_
  obtain ⟨T81, X81, e81, st81⟩ := getF X80 hx hZ hown (host := "") (Or.inl (gw hw 52 rfl)) Via.refl e80 f_10 (g := (mkF m 22 #[oR mb, oR sa, oI 1] [.ref mb])) rfl rfl (G d15_22)
  refine own_by st81 ?_
  refine own_by (S' := (oM T81 m 26 #[oR mb, oR sa, oI 1] [.ref mb, .ref li])) (fun _ k => XS.aloadN X81.here hx rfl (G d15_25) rfl rfl k) ?_
  obtain ⟨T82, X82, e82, st82⟩ := getF X81 hx hZ hown (host := "") (Or.inl (gw hw 58 rfl)) Via.refl e81 f_17 (g := (mkF m 26 #[oR mb, oR sa, oI 1] [.ref mb, .ref li])) rfl rfl (G d15_26)
  refine own_by st82 ?_
  refine own_by (S' := (oM T82 m 32 #[oR mb, oR sa, oI 1] [.int 1, .ref sa, .int 114])) (fun _ k => own_caload X82 hx hZ e82 A_li (own_nn (by omega)) (v := (.int 114)) (own_at (by omega) hl1) (g := (mkF m 29 #[oR mb, oR sa, oI 1] [(.int (Int32.ofNat (p1 + 1))), .ref li])) rfl rfl (G d15_29) _ (XS.aloadN X82.here hx rfl (G d15_30) rfl rfl (XS.iloadN X82.here hx rfl (G d15_31) rfl k))) ?_
  obtain ⟨cq84, kq84, q84a, q84b, q84c⟩ := isOf hZ e82 E_sa
  obtain ⟨_, _, ⟨T84, L84, k84, n84⟩, -, X84, ⟨Lc84, hQ84, l84, y84, z84⟩, st84⟩ := X82.virtualBack hx (y := y_18) (z := y_18) hown (mvT hZ (gw hw 120 rfl)) (mvT hZ (gw hw 121 rfl)) (notFace_of_selects (args := #[]) (mvT hZ (gw hw 123 rfl))) (mvT hZ (gw hw 123 rfl)) (mvT hZ (gw hw 122 rfl)) (by decide) (backOf (W := 1) (rm_charAt l Z a0 hw [] sa sb [.int 116, .int 114, .int 117, .int 101] (1 : Int32) (114 : Int32) (114 : Int32) cs fo bo h76 n0 Zn ⟨E_sa, F_sa_c, F_sa_v, A_sb⟩ (by decide) (of_decide_eq_true rfl) rfl (by decide) (by decide) O ⟨SC, hcs, SF, hfo, SB, EB⟩) hZ (gw hw 124 rfl) (gw hw 97 rfl) (by decide) (by decide)) q84a q84c (g := (mkF m 32 #[oR mb, oR sa, oI 1] [.int 1, .ref sa, .int 114])) rfl (by rw [hml]; rfl) (Steps.refl _) (argsL := [.int 1]) (rest := [.int 114]) (lenOf pd__28I_29C rfl) rfl oZ (G d15_32) (fun _ _ => ⟨rfl, e82, (by decide : 0 + 0 ≤ _), (by decide : 0 + 0 ≤ _)⟩)
  dsimp only [Pt.U, Pt.locs, Pt.cells, Pt.slots] at X84 l84 y84 z84 st84 hQ84
  have X84 := own_recast X84 l84 y84 z84
  obtain ⟨rfl, N84q, eh83⟩ := hQ84
  have N := Fr.app N N84q
  refine own_tr st84 ?_
  refine own_by (S' := (oM T84 m 45 #[oR mb, oR sa, oI 1] [.ref mb, .ref mb])) (fun _ k => XS.icmpYes X84.here hx rfl (pc0 := 35) (pc' := 43) rfl (G d15_35) rfl (teq ((by decide) : (114 : Int32) = (114 : Int32))).1 (by decide) (by decide) (XS.aloadN X84.here hx rfl (G d15_43) rfl rfl (XS.dup X84.here hx rfl (G d15_44) rfl rfl k))) ?_
  obtain ⟨T85, X85, e85, st85⟩ := getF X84 hx hZ hown (host := "") (Or.inl (gw hw 58 rfl)) Via.refl eh83 f_17 (g := (mkF m 45 #[oR mb, oR sa, oI 1] [.ref mb, .ref mb])) rfl rfl (G d15_45)
  refine own_by st85 ?_
  refine own_by (S' := (oM T85 m 50 #[oR mb, oR sa, oI 1] [(.int ((Int32.ofNat (p1 + 1)) + (1 : Int32))), .ref mb])) (fun _ k => XS.iconst X85.here hx rfl (G d15_48) (XS.iadd X85.here hx rfl (G d15_49) rfl k)) ?_
  rw [show ((Int32.ofNat (p1 + 1)) + (1 : Int32)) = (Int32.ofNat (p1 + 2)) from own_one (p1 + 1)]
  obtain ⟨T86, h86, X86, e86, W86, st86⟩ := putF X85 hx hZ hown (host := "") (Or.inl (gw hw 58 rfl)) Via.refl e85 f_17 E_mb (Or.inl (gw hw 59 rfl)) (gw hw 13 rfl) (ty := .int) (by decide) rfl rfl (g := (mkF m 50 #[oR mb, oR sa, oI 1] [(.int (Int32.ofNat (p1 + 2))), .ref mb])) rfl rfl (G d15_50)
  have N := Fr.snoc X86 N o_mb
  have E_mb := E_mb.wr W86
  have f_17 := f_17.same W86
  have F_len := oT F_len W86 (Or.inl (gw hw 55 rfl)) (Or.inl (gw hw 59 rfl)) .int .int
  have f_10 := oT f_10 W86 (Or.inl (gw hw 53 rfl)) (Or.inl (gw hw 59 rfl)) (.array .char) .int
  have A_li := A_li.other W86 (Ne.symm ne_mb_li)
  have O := O.wr W86 o_mb
  have E_sa := E_sa.wr W86
  have F_sa_c := oF F_sa_c W86 ne1
  have F_sa_v := oF F_sa_v W86 ne1
  have A_sb := A_sb.other W86 ne2
  have WQ := own_wtrans WQ W86
  have Zn : n0 ≤ _ := Nat.le_trans Zn (Nat.le_of_eq W86.size.symm)
  have K := K.wr W86 (Or.inl (List.mem_of_getElem? (i := 0) rfl))
  refine own_by st86 ?_
  refine own_by (S' := (oM T86 m 4 #[oR mb, oR sa, oI 2] [.ref sa, .int 2])) (fun _ k => XS.iinc X86.here hx rfl (G d15_53) rfl (l' := #[oR mb, oR sa, oI 2]) rfl (XS.goto X86.here hx rfl (pc0 := 56) (pc' := 2) rfl (G d15_56) (by decide) (by decide) (XS.iloadN X86.here hx rfl (G d15_2) rfl (XS.aloadN X86.here hx rfl (G d15_3) rfl rfl k)))) ?_
  obtain ⟨cq88, kq88, q88a, q88b, q88c⟩ := isOf hZ e86 E_sa
  obtain ⟨_, _, ⟨T88, L88, k88, n88⟩, -, X88, ⟨Lc88, hQ88, l88, y88, z88⟩, st88⟩ := X86.virtualBack hx (y := y_16) (z := y_16) hown (mvT hZ (gw hw 107 rfl)) (mvT hZ (gw hw 108 rfl)) (notFace_of_selects (args := #[]) (mvT hZ (gw hw 110 rfl))) (mvT hZ (gw hw 110 rfl)) (mvT hZ (gw hw 109 rfl)) (by decide) (backOf (W := 1) (rm_len l Z a0 hw [] sa sb [.int 116, .int 114, .int 117, .int 101] cs fo bo h86 n0 Zn ⟨E_sa, F_sa_c, F_sa_v, A_sb⟩ O ⟨SC, hcs, SF, hfo, SB, EB⟩) hZ (gw hw 111 rfl) (gw hw 97 rfl) (by decide) (by decide)) q88a q88c (g := (mkF m 4 #[oR mb, oR sa, oI 2] [.ref sa, .int 2])) rfl (by rw [hml]; rfl) (Steps.refl _) (argsL := []) (rest := [.int 2]) (lenOf pd__28_29I rfl) rfl oZ (G d15_4) (fun _ _ => ⟨rfl, e86, (by decide : 0 + 0 ≤ _), (by decide : 0 + 0 ≤ _)⟩)
  dsimp only [Pt.U, Pt.locs, Pt.cells, Pt.slots] at X88 l88 y88 z88 st88 hQ88
  have X88 := own_recast X88 l88 y88 z88
  obtain ⟨rfl, N88q, eh87⟩ := hQ88
  have N := Fr.app N N88q
  refine own_tr st88 ?_
  refine own_by (S' := (oM T88 m 11 #[oR mb, oR sa, oI 2] [.ref mb])) (fun _ k => XS.icmpNo X88.here hx rfl (G d15_7) rfl (tlt ((by decide) : (2 : Int32) < (4 : Int32))).2.1 (XS.aloadN X88.here hx rfl (G d15_10) rfl rfl k)) ?_
  obtain ⟨T89, X89, e89, st89⟩ := getF X88 hx hZ hown (host := "") (Or.inl (gw hw 58 rfl)) Via.refl eh87 f_17 (g := (mkF m 11 #[oR mb, oR sa, oI 2] [.ref mb])) rfl rfl (G d15_11)
  refine own_by st89 ?_
  refine own_by (S' := (oM T89 m 15 #[oR mb, oR sa, oI 2] [.ref mb, (.int (Int32.ofNat (p1 + 2)))])) (fun _ k => XS.aloadN X89.here hx rfl (G d15_14) rfl rfl k) ?_
  obtain ⟨T90, X90, e90, st90⟩ := getF X89 hx hZ hown (host := "") (Or.inl (gw hw 54 rfl)) Via.refl e89 F_len (g := (mkF m 15 #[oR mb, oR sa, oI 2] [.ref mb, (.int (Int32.ofNat (p1 + 2)))])) rfl rfl (G d15_15)
  refine own_by st90 ?_
  refine own_by (S' := (oM T90 m 22 #[oR mb, oR sa, oI 2] [.ref mb])) (fun _ k => XS.icmpNo X90.here hx rfl (G d15_18) rfl (feq ((own_ofne (n := 23) (by omega) (by decide) (by omega)) : ¬ ((Int32.ofNat (p1 + 2)) = (23 : Int32)))).1 (XS.aloadN X90.here hx rfl (G d15_21) rfl rfl k)) ?_
  obtain ⟨T91, X91, e91, st91⟩ := getF X90 hx hZ hown (host := "") (Or.inl (gw hw 52 rfl)) Via.refl e90 f_10 (g := (mkF m 22 #[oR mb, oR sa, oI 2] [.ref mb])) rfl rfl (G d15_22)
  refine own_by st91 ?_
  refine own_by (S' := (oM T91 m 26 #[oR mb, oR sa, oI 2] [.ref mb, .ref li])) (fun _ k => XS.aloadN X91.here hx rfl (G d15_25) rfl rfl k) ?_
  obtain ⟨T92, X92, e92, st92⟩ := getF X91 hx hZ hown (host := "") (Or.inl (gw hw 58 rfl)) Via.refl e91 f_17 (g := (mkF m 26 #[oR mb, oR sa, oI 2] [.ref mb, .ref li])) rfl rfl (G d15_26)
  refine own_by st92 ?_
  refine own_by (S' := (oM T92 m 32 #[oR mb, oR sa, oI 2] [.int 2, .ref sa, .int 117])) (fun _ k => own_caload X92 hx hZ e92 A_li (own_nn (by omega)) (v := (.int 117)) (own_at (by omega) hl2) (g := (mkF m 29 #[oR mb, oR sa, oI 2] [(.int (Int32.ofNat (p1 + 2))), .ref li])) rfl rfl (G d15_29) _ (XS.aloadN X92.here hx rfl (G d15_30) rfl rfl (XS.iloadN X92.here hx rfl (G d15_31) rfl k))) ?_
  obtain ⟨cq94, kq94, q94a, q94b, q94c⟩ := isOf hZ e92 E_sa
  obtain ⟨_, _, ⟨T94, L94, k94, n94⟩, -, X94, ⟨Lc94, hQ94, l94, y94, z94⟩, st94⟩ := X92.virtualBack hx (y := y_18) (z := y_18) hown (mvT hZ (gw hw 120 rfl)) (mvT hZ (gw hw 121 rfl)) (notFace_of_selects (args := #[]) (mvT hZ (gw hw 123 rfl))) (mvT hZ (gw hw 123 rfl)) (mvT hZ (gw hw 122 rfl)) (by decide) (backOf (W := 1) (rm_charAt l Z a0 hw [] sa sb [.int 116, .int 114, .int 117, .int 101] (2 : Int32) (117 : Int32) (117 : Int32) cs fo bo h86 n0 Zn ⟨E_sa, F_sa_c, F_sa_v, A_sb⟩ (by decide) (of_decide_eq_true rfl) rfl (by decide) (by decide) O ⟨SC, hcs, SF, hfo, SB, EB⟩) hZ (gw hw 124 rfl) (gw hw 97 rfl) (by decide) (by decide)) q94a q94c (g := (mkF m 32 #[oR mb, oR sa, oI 2] [.int 2, .ref sa, .int 117])) rfl (by rw [hml]; rfl) (Steps.refl _) (argsL := [.int 2]) (rest := [.int 117]) (lenOf pd__28I_29C rfl) rfl oZ (G d15_32) (fun _ _ => ⟨rfl, e92, (by decide : 0 + 0 ≤ _), (by decide : 0 + 0 ≤ _)⟩)
  dsimp only [Pt.U, Pt.locs, Pt.cells, Pt.slots] at X94 l94 y94 z94 st94 hQ94
  have X94 := own_recast X94 l94 y94 z94
  obtain ⟨rfl, N94q, eh93⟩ := hQ94
  have N := Fr.app N N94q
  refine own_tr st94 ?_
  refine own_by (S' := (oM T94 m 45 #[oR mb, oR sa, oI 2] [.ref mb, .ref mb])) (fun _ k => XS.icmpYes X94.here hx rfl (pc0 := 35) (pc' := 43) rfl (G d15_35) rfl (teq ((by decide) : (117 : Int32) = (117 : Int32))).1 (by decide) (by decide) (XS.aloadN X94.here hx rfl (G d15_43) rfl rfl (XS.dup X94.here hx rfl (G d15_44) rfl rfl k))) ?_
  obtain ⟨T95, X95, e95, st95⟩ := getF X94 hx hZ hown (host := "") (Or.inl (gw hw 58 rfl)) Via.refl eh93 f_17 (g := (mkF m 45 #[oR mb, oR sa, oI 2] [.ref mb, .ref mb])) rfl rfl (G d15_45)
  refine own_by st95 ?_
  refine own_by (S' := (oM T95 m 50 #[oR mb, oR sa, oI 2] [(.int ((Int32.ofNat (p1 + 2)) + (1 : Int32))), .ref mb])) (fun _ k => XS.iconst X95.here hx rfl (G d15_48) (XS.iadd X95.here hx rfl (G d15_49) rfl k)) ?_
  rw [show ((Int32.ofNat (p1 + 2)) + (1 : Int32)) = (Int32.ofNat (p1 + 3)) from own_one (p1 + 2)]
  obtain ⟨T96, h96, X96, e96, W96, st96⟩ := putF X95 hx hZ hown (host := "") (Or.inl (gw hw 58 rfl)) Via.refl e95 f_17 E_mb (Or.inl (gw hw 59 rfl)) (gw hw 13 rfl) (ty := .int) (by decide) rfl rfl (g := (mkF m 50 #[oR mb, oR sa, oI 2] [(.int (Int32.ofNat (p1 + 3))), .ref mb])) rfl rfl (G d15_50)
  have N := Fr.snoc X96 N o_mb
  have E_mb := E_mb.wr W96
  have f_17 := f_17.same W96
  have F_len := oT F_len W96 (Or.inl (gw hw 55 rfl)) (Or.inl (gw hw 59 rfl)) .int .int
  have f_10 := oT f_10 W96 (Or.inl (gw hw 53 rfl)) (Or.inl (gw hw 59 rfl)) (.array .char) .int
  have A_li := A_li.other W96 (Ne.symm ne_mb_li)
  have O := O.wr W96 o_mb
  have E_sa := E_sa.wr W96
  have F_sa_c := oF F_sa_c W96 ne1
  have F_sa_v := oF F_sa_v W96 ne1
  have A_sb := A_sb.other W96 ne2
  have WQ := own_wtrans WQ W96
  have Zn : n0 ≤ _ := Nat.le_trans Zn (Nat.le_of_eq W96.size.symm)
  have K := K.wr W96 (Or.inl (List.mem_of_getElem? (i := 0) rfl))
  refine own_by st96 ?_
  refine own_by (S' := (oM T96 m 4 #[oR mb, oR sa, oI 3] [.ref sa, .int 3])) (fun _ k => XS.iinc X96.here hx rfl (G d15_53) rfl (l' := #[oR mb, oR sa, oI 3]) rfl (XS.goto X96.here hx rfl (pc0 := 56) (pc' := 2) rfl (G d15_56) (by decide) (by decide) (XS.iloadN X96.here hx rfl (G d15_2) rfl (XS.aloadN X96.here hx rfl (G d15_3) rfl rfl k)))) ?_
  obtain ⟨cq98, kq98, q98a, q98b, q98c⟩ := isOf hZ e96 E_sa
  obtain ⟨_, _, ⟨T98, L98, k98, n98⟩, -, X98, ⟨Lc98, hQ98, l98, y98, z98⟩, st98⟩ := X96.virtualBack hx (y := y_16) (z := y_16) hown (mvT hZ (gw hw 107 rfl)) (mvT hZ (gw hw 108 rfl)) (notFace_of_selects (args := #[]) (mvT hZ (gw hw 110 rfl))) (mvT hZ (gw hw 110 rfl)) (mvT hZ (gw hw 109 rfl)) (by decide) (backOf (W := 1) (rm_len l Z a0 hw [] sa sb [.int 116, .int 114, .int 117, .int 101] cs fo bo h96 n0 Zn ⟨E_sa, F_sa_c, F_sa_v, A_sb⟩ O ⟨SC, hcs, SF, hfo, SB, EB⟩) hZ (gw hw 111 rfl) (gw hw 97 rfl) (by decide) (by decide)) q98a q98c (g := (mkF m 4 #[oR mb, oR sa, oI 3] [.ref sa, .int 3])) rfl (by rw [hml]; rfl) (Steps.refl _) (argsL := []) (rest := [.int 3]) (lenOf pd__28_29I rfl) rfl oZ (G d15_4) (fun _ _ => ⟨rfl, e96, (by decide : 0 + 0 ≤ _), (by decide : 0 + 0 ≤ _)⟩)
  dsimp only [Pt.U, Pt.locs, Pt.cells, Pt.slots] at X98 l98 y98 z98 st98 hQ98
  have X98 := own_recast X98 l98 y98 z98
  obtain ⟨rfl, N98q, eh97⟩ := hQ98
  have N := Fr.app N N98q
  refine own_tr st98 ?_
  refine own_by (S' := (oM T98 m 11 #[oR mb, oR sa, oI 3] [.ref mb])) (fun _ k => XS.icmpNo X98.here hx rfl (G d15_7) rfl (tlt ((by decide) : (3 : Int32) < (4 : Int32))).2.1 (XS.aloadN X98.here hx rfl (G d15_10) rfl rfl k)) ?_
  obtain ⟨T99, X99, e99, st99⟩ := getF X98 hx hZ hown (host := "") (Or.inl (gw hw 58 rfl)) Via.refl eh97 f_17 (g := (mkF m 11 #[oR mb, oR sa, oI 3] [.ref mb])) rfl rfl (G d15_11)
  refine own_by st99 ?_
  refine own_by (S' := (oM T99 m 15 #[oR mb, oR sa, oI 3] [.ref mb, (.int (Int32.ofNat (p1 + 3)))])) (fun _ k => XS.aloadN X99.here hx rfl (G d15_14) rfl rfl k) ?_
  obtain ⟨T100, X100, e100, st100⟩ := getF X99 hx hZ hown (host := "") (Or.inl (gw hw 54 rfl)) Via.refl e99 F_len (g := (mkF m 15 #[oR mb, oR sa, oI 3] [.ref mb, (.int (Int32.ofNat (p1 + 3)))])) rfl rfl (G d15_15)
  refine own_by st100 ?_
  refine own_by (S' := (oM T100 m 22 #[oR mb, oR sa, oI 3] [.ref mb])) (fun _ k => XS.icmpNo X100.here hx rfl (G d15_18) rfl (feq ((own_ofne (n := 23) (by omega) (by decide) (by omega)) : ¬ ((Int32.ofNat (p1 + 3)) = (23 : Int32)))).1 (XS.aloadN X100.here hx rfl (G d15_21) rfl rfl k)) ?_
  obtain ⟨T101, X101, e101, st101⟩ := getF X100 hx hZ hown (host := "") (Or.inl (gw hw 52 rfl)) Via.refl e100 f_10 (g := (mkF m 22 #[oR mb, oR sa, oI 3] [.ref mb])) rfl rfl (G d15_22)
  refine own_by st101 ?_
  refine own_by (S' := (oM T101 m 26 #[oR mb, oR sa, oI 3] [.ref mb, .ref li])) (fun _ k => XS.aloadN X101.here hx rfl (G d15_25) rfl rfl k) ?_
  obtain ⟨T102, X102, e102, st102⟩ := getF X101 hx hZ hown (host := "") (Or.inl (gw hw 58 rfl)) Via.refl e101 f_17 (g := (mkF m 26 #[oR mb, oR sa, oI 3] [.ref mb, .ref li])) rfl rfl (G d15_26)
  refine own_by st102 ?_
  refine own_by (S' := (oM T102 m 32 #[oR mb, oR sa, oI 3] [.int 3, .ref sa, .int 101])) (fun _ k => own_caload X102 hx hZ e102 A_li (own_nn (by omega)) (v := (.int 101)) (own_at (by omega) hl3) (g := (mkF m 29 #[oR mb, oR sa, oI 3] [(.int (Int32.ofNat (p1 + 3))), .ref li])) rfl rfl (G d15_29) _ (XS.aloadN X102.here hx rfl (G d15_30) rfl rfl (XS.iloadN X102.here hx rfl (G d15_31) rfl k))) ?_
  obtain ⟨cq104, kq104, q104a, q104b, q104c⟩ := isOf hZ e102 E_sa
  obtain ⟨_, _, ⟨T104, L104, k104, n104⟩, -, X104, ⟨Lc104, hQ104, l104, y104, z104⟩, st104⟩ := X102.virtualBack hx (y := y_18) (z := y_18) hown (mvT hZ (gw hw 120 rfl)) (mvT hZ (gw hw 121 rfl)) (notFace_of_selects (args := #[]) (mvT hZ (gw hw 123 rfl))) (mvT hZ (gw hw 123 rfl)) (mvT hZ (gw hw 122 rfl)) (by decide) (backOf (W := 1) (rm_charAt l Z a0 hw [] sa sb [.int 116, .int 114, .int 117, .int 101] (3 : Int32) (101 : Int32) (101 : Int32) cs fo bo h96 n0 Zn ⟨E_sa, F_sa_c, F_sa_v, A_sb⟩ (by decide) (of_decide_eq_true rfl) rfl (by decide) (by decide) O ⟨SC, hcs, SF, hfo, SB, EB⟩) hZ (gw hw 124 rfl) (gw hw 97 rfl) (by decide) (by decide)) q104a q104c (g := (mkF m 32 #[oR mb, oR sa, oI 3] [.int 3, .ref sa, .int 101])) rfl (by rw [hml]; rfl) (Steps.refl _) (argsL := [.int 3]) (rest := [.int 101]) (lenOf pd__28I_29C rfl) rfl oZ (G d15_32) (fun _ _ => ⟨rfl, e102, (by decide : 0 + 0 ≤ _), (by decide : 0 + 0 ≤ _)⟩)
  dsimp only [Pt.U, Pt.locs, Pt.cells, Pt.slots] at X104 l104 y104 z104 st104 hQ104
  have X104 := own_recast X104 l104 y104 z104
  obtain ⟨rfl, N104q, eh103⟩ := hQ104
  have N := Fr.app N N104q
  refine own_tr st104 ?_
  refine own_by (S' := (oM T104 m 45 #[oR mb, oR sa, oI 3] [.ref mb, .ref mb])) (fun _ k => XS.icmpYes X104.here hx rfl (pc0 := 35) (pc' := 43) rfl (G d15_35) rfl (teq ((by decide) : (101 : Int32) = (101 : Int32))).1 (by decide) (by decide) (XS.aloadN X104.here hx rfl (G d15_43) rfl rfl (XS.dup X104.here hx rfl (G d15_44) rfl rfl k))) ?_
  obtain ⟨T105, X105, e105, st105⟩ := getF X104 hx hZ hown (host := "") (Or.inl (gw hw 58 rfl)) Via.refl eh103 f_17 (g := (mkF m 45 #[oR mb, oR sa, oI 3] [.ref mb, .ref mb])) rfl rfl (G d15_45)
  refine own_by st105 ?_
  refine own_by (S' := (oM T105 m 50 #[oR mb, oR sa, oI 3] [(.int ((Int32.ofNat (p1 + 3)) + (1 : Int32))), .ref mb])) (fun _ k => XS.iconst X105.here hx rfl (G d15_48) (XS.iadd X105.here hx rfl (G d15_49) rfl k)) ?_
  rw [show ((Int32.ofNat (p1 + 3)) + (1 : Int32)) = (Int32.ofNat (p1 + 4)) from own_one (p1 + 3)]
  obtain ⟨T106, h106, X106, e106, W106, st106⟩ := putF X105 hx hZ hown (host := "") (Or.inl (gw hw 58 rfl)) Via.refl e105 f_17 E_mb (Or.inl (gw hw 59 rfl)) (gw hw 13 rfl) (ty := .int) (by decide) rfl rfl (g := (mkF m 50 #[oR mb, oR sa, oI 3] [(.int (Int32.ofNat (p1 + 4))), .ref mb])) rfl rfl (G d15_50)
  have N := Fr.snoc X106 N o_mb
  have E_mb := E_mb.wr W106
  have f_17 := f_17.same W106
  have F_len := oT F_len W106 (Or.inl (gw hw 55 rfl)) (Or.inl (gw hw 59 rfl)) .int .int
  have f_10 := oT f_10 W106 (Or.inl (gw hw 53 rfl)) (Or.inl (gw hw 59 rfl)) (.array .char) .int
  have A_li := A_li.other W106 (Ne.symm ne_mb_li)
  have O := O.wr W106 o_mb
  have E_sa := E_sa.wr W106
  have F_sa_c := oF F_sa_c W106 ne1
  have F_sa_v := oF F_sa_v W106 ne1
  have A_sb := A_sb.other W106 ne2
  have WQ := own_wtrans WQ W106
  have Zn : n0 ≤ _ := Nat.le_trans Zn (Nat.le_of_eq W106.size.symm)
  have K := K.wr W106 (Or.inl (List.mem_of_getElem? (i := 0) rfl))
  refine own_by st106 ?_
  refine own_by (S' := (oM T106 m 4 #[oR mb, oR sa, oI 4] [.ref sa, .int 4])) (fun _ k => XS.iinc X106.here hx rfl (G d15_53) rfl (l' := #[oR mb, oR sa, oI 4]) rfl (XS.goto X106.here hx rfl (pc0 := 56) (pc' := 2) rfl (G d15_56) (by decide) (by decide) (XS.iloadN X106.here hx rfl (G d15_2) rfl (XS.aloadN X106.here hx rfl (G d15_3) rfl rfl k)))) ?_
  obtain ⟨cq108, kq108, q108a, q108b, q108c⟩ := isOf hZ e106 E_sa
  obtain ⟨_, _, ⟨T108, L108, k108, n108⟩, -, X108, ⟨Lc108, hQ108, l108, y108, z108⟩, st108⟩ := X106.virtualBack hx (y := y_16) (z := y_16) hown (mvT hZ (gw hw 107 rfl)) (mvT hZ (gw hw 108 rfl)) (notFace_of_selects (args := #[]) (mvT hZ (gw hw 110 rfl))) (mvT hZ (gw hw 110 rfl)) (mvT hZ (gw hw 109 rfl)) (by decide) (backOf (W := 1) (rm_len l Z a0 hw [] sa sb [.int 116, .int 114, .int 117, .int 101] cs fo bo h106 n0 Zn ⟨E_sa, F_sa_c, F_sa_v, A_sb⟩ O ⟨SC, hcs, SF, hfo, SB, EB⟩) hZ (gw hw 111 rfl) (gw hw 97 rfl) (by decide) (by decide)) q108a q108c (g := (mkF m 4 #[oR mb, oR sa, oI 4] [.ref sa, .int 4])) rfl (by rw [hml]; rfl) (Steps.refl _) (argsL := []) (rest := [.int 4]) (lenOf pd__28_29I rfl) rfl oZ (G d15_4) (fun _ _ => ⟨rfl, e106, (by decide : 0 + 0 ≤ _), (by decide : 0 + 0 ≤ _)⟩)
  dsimp only [Pt.U, Pt.locs, Pt.cells, Pt.slots] at X108 l108 y108 z108 st108 hQ108
  have X108 := own_recast X108 l108 y108 z108
  obtain ⟨rfl, N108q, eh107⟩ := hQ108
  have N := Fr.app N N108q
  refine own_tr st108 ?_
  refine own_by (S' := (oM T108 m 60 #[oR mb, oR sa, oI 4] [.ref mb])) (fun _ k => XS.icmpYes X108.here hx rfl (pc0 := 7) (pc' := 59) rfl (G d15_7) rfl (flt ((by decide) : ¬ ((4 : Int32) < (4 : Int32)))).2.1 (by decide) (by decide) (XS.aloadN X108.here hx rfl (G d15_59) rfl rfl k)) ?_
  obtain ⟨cq109, q109, q109'⟩ := E_mb.cell
  obtain ⟨_, _, ⟨T109, L109, k109, n109⟩, -, X109, ⟨Lc109, hQ109, l109, y109, z109⟩, st109⟩ := X108.privateBack hx (y := y_23) hown (mvT hZ (gw hw 142 rfl)) (mvT hZ (gw hw 143 rfl)) (own_selP hZ (gw hw 13 rfl) (gw hw 144 rfl) (gw hw 143 rfl) (by decide)) (Cond.privateMethod_at (mvP hZ (gw hw 144 rfl) (args := #[]))) (mvT hZ (gw hw 145 rfl)) (by decide) (backOf (W := 0) (rm_expDel l Z a0 hw [] mb li LN (p1 + 4) cz h106 n0 Zn E_mb f_17 F_len f_10 A_li o_mb ne_mb_li hp hc hz) hZ (gw hw 145 rfl) (gw hw 14 rfl) (by decide) (by decide)) (g := (mkF m 60 #[oR mb, oR sa, oI 4] [.ref mb])) rfl (by rw [hml]; rfl) (Steps.refl _) (a := mb) (by rw [eh107]; exact q109) q109' (argsL := []) (rest := []) (lenOf pd__28_29V rfl) rfl oZ (G d15_60) (fun _ _ => ⟨rfl, eh107, (by decide : 0 + 0 ≤ _), (by decide : 0 + 0 ≤ _)⟩)
  dsimp only [Pt.U, Pt.locs, Pt.cells, Pt.slots] at X109 l109 y109 z109 st109 hQ109
  have X109 := own_recast X109 l109 y109 z109
  obtain ⟨rfl, N109q, ehd⟩ := hQ109
  have N := Fr.app N N109q
  refine own_tr st109 ?_
  exact own_ret0 X109 hx Bd.returns (G d15_63) hlk (by decide : 0 ≤ _) (by decide : 0 ≤ _) (by rw [ehd]; exact ⟨rfl, N, WQ⟩)
theorem ef_rm_word_false (m : MethodId) (x0 : Addr) (x1 : Addr) : entryFrame m #[.ref x0, .ref x1] 3 = mkF m 0 #[oR x0, oR x1, oU] [] := by first | (simp [entryFrame, mkF, argsToLocals, Value.category]; done) | rfl
def Q_rm_word_false (Z : State) (mb li : Addr) (LN : List Value) (sa sb : Addr) (p1 : Nat) (cz : Int32) (cs : Int32) (fo : Value) (bo : Addr) (h0 : Heap) (n0 : Nat) (v : Option Value) (h : Heap) (L : List Loc) : Prop := v = none ∧ Fr n0 L ∧ Wr h0 h mb (Jvm.RoadKit.slotOf Z "com/example/upright_play/uprightplay/event/Members" "pos" "I") (.int (Int32.ofNat (p1 + 5)))
set_option maxRecDepth 65536 in
set_option maxHeartbeats 40000000 in
theorem rm_word_false (l : Launch) (Z : State) (a0 : Array Value) (hw : ∀ d ∈ tables_1, d.before a0 Z = true) (ws : List Jvm.Cond) (mb li : Addr) (LN : List Value) (sa sb : Addr) (p1 : Nat) (cz : Int32) (cs : Int32) (fo : Value) (bo : Addr) (h0 : Heap) (n0 : Nat) (Zn : n0 ≤ h0.size) (E_mb : Exa Z h0 mb "com/example/upright_play/uprightplay/event/Members") (f_17 : Fld Z h0 mb "com/example/upright_play/uprightplay/event/Members" "pos" "I" (.int (Int32.ofNat p1))) (F_len : Fld Z h0 mb "com/example/upright_play/uprightplay/event/Members" "length" "I" (.int 23)) (f_10 : Fld Z h0 mb "com/example/upright_play/uprightplay/event/Members" "line" "[C" (.ref li)) (A_li : OwnA Z h0 li .char LN) (o_mb : n0 ≤ mb) (ne_mb_li : mb ≠ li) (S_a : own_str Z h0 sa sb [.int 102, .int 97, .int 108, .int 115, .int 101]) (ne1 : sa ≠ mb) (ne2 : sb ≠ mb) (hp : p1 + 5 < 23) (hl0 : LN[p1 + 0]? = some (.int 102)) (hl1 : LN[p1 + 1]? = some (.int 97)) (hl2 : LN[p1 + 2]? = some (.int 108)) (hl3 : LN[p1 + 3]? = some (.int 115)) (hl4 : LN[p1 + 4]? = some (.int 101)) (hc : LN[p1 + 5]? = some (.int cz)) (hz : cz = 32 ∨ cz = 44 ∨ cz = 125) (O : Old Z n0 h0) (SS : own_st Z cs fo bo) :
    MetFree l y_15 (head1 (Jvm.Cond.code y_15 c_15 3 none :: ws) (oQ 4 0 0 80)) (fun a U => a = #[.ref mb, .ref sa] ∧ Z.Warmed39 U.vm ∧ U.heap = h0) (fun _ _ _ _ _ => True) (fun _ U o U' => ∃ v L, o = .returned v ∧ (Q_rm_word_false Z mb li LN sa sb p1 cz cs fo bo h0 n0) v U'.heap L ∧ FrameEnd U o U' L (oQ 4 0 0 80).cells (oQ 4 0 0 80).slots) := by
  refine MetFree.of_bodySF (plainFor_of_name pn_15) hisR ?_
  intro p e s m args below meth c s₁ Bd hml0 hP hK
  obtain ⟨rfl, hZ, hh⟩ := hP
  have hx := Bd.exec
  have G := @oG _ _ Bd.bytes
  have hml : c.maxLocals = 3 := hml0
  have hown : s.vm.findClass "com/example/upright_play/uprightplay/event/Members" = some m.cls := findClass_of_methodNamed Bd.named
  have hnm := (name_of_methodNamed Bd.named Bd.method).1
  have hlk : meth.locks = false := BodyLoose.notSynchronized Bd
  have X0 : Stand p l e (oQ 4 0 0 80) s m #[.ref mb, .ref sa] below meth c s₁ [] 0 0 := Stand.of_body Bd
  have e0 : s₁.heap = h0 := by rw [← hh, Bd.state]; rfl
  have N := Fr.nil n0
  have K := Keep.refl h0 [mb]
  refine own_start (cl := (oQ 4 0 0 80).cells) (sl := (oQ 4 0 0 80).slots) (Q := (Q_rm_word_false Z mb li LN sa sb p1 cz cs fo bo h0 n0)) (ef_rm_word_false m mb sa) ?_
  obtain ⟨SC, hcs, SF, hfo, SB, EB⟩ := SS
  obtain ⟨E_sa, F_sa_c, F_sa_v, A_sb⟩ := S_a
  have WQ := own_wrefl f_17
  refine own_by (S' := (oM s₁ m 4 #[oR mb, oR sa, oI 0] [.ref sa, .int 0])) (fun _ k => XS.iconst X0.here hx rfl (G d15_0) (XS.istoreN X0.here hx rfl (G d15_1) rfl (l' := #[oR mb, oR sa, oI 0]) rfl (XS.iloadN X0.here hx rfl (G d15_2) rfl (XS.aloadN X0.here hx rfl (G d15_3) rfl rfl k)))) ?_
  obtain ⟨cq111, kq111, q111a, q111b, q111c⟩ := isOf hZ e0 E_sa
  obtain ⟨_, _, ⟨T111, L111, k111, n111⟩, -, X111, ⟨Lc111, hQ111, l111, y111, z111⟩, st111⟩ := X0.virtualBack hx (y := y_16) (z := y_16) hown (mvT hZ (gw hw 107 rfl)) (mvT hZ (gw hw 108 rfl)) (notFace_of_selects (args := #[]) (mvT hZ (gw hw 110 rfl))) (mvT hZ (gw hw 110 rfl)) (mvT hZ (gw hw 109 rfl)) (by decide) (backOf (W := 1) (rm_len l Z a0 hw [] sa sb [.int 102, .int 97, .int 108, .int 115, .int 101] cs fo bo h0 n0 Zn ⟨E_sa, F_sa_c, F_sa_v, A_sb⟩ O ⟨SC, hcs, SF, hfo, SB, EB⟩) hZ (gw hw 111 rfl) (gw hw 97 rfl) (by decide) (by decide)) q111a q111c (g := (mkF m 4 #[oR mb, oR sa, oI 0] [.ref sa, .int 0])) rfl (by rw [hml]; rfl) (Steps.refl _) (argsL := []) (rest := [.int 0]) (lenOf pd__28_29I rfl) rfl oZ (G d15_4) (fun _ _ => ⟨rfl, e0, (by decide : 0 + 0 ≤ _), (by decide : 0 + 0 ≤ _)⟩)
  dsimp only [Pt.U, Pt.locs, Pt.cells, Pt.slots] at X111 l111 y111 z111 st111 hQ111
  have X111 := own_recast X111 l111 y111 z111
  obtain ⟨rfl, N111q, eh110⟩ := hQ111
  have N := Fr.app N N111q
  refine own_tr st111 ?_
  refine own_by (S' := (oM T111 m 11 #[oR mb, oR sa, oI 0] [.ref mb])) (fun _ k => XS.icmpNo X111.here hx rfl (G d15_7) rfl (tlt ((by decide) : (0 : Int32) < (5 : Int32))).2.1 (XS.aloadN X111.here hx rfl (G d15_10) rfl rfl k)) ?_
  obtain ⟨T112, X112, e112, st112⟩ := getF X111 hx hZ hown (host := "") (Or.inl (gw hw 58 rfl)) Via.refl eh110 f_17 (g := (mkF m 11 #[oR mb, oR sa, oI 0] [.ref mb])) rfl rfl (G d15_11)
  refine own_by st112 ?_
  refine own_by (S' := (oM T112 m 15 #[oR mb, oR sa, oI 0] [.ref mb, (.int (Int32.ofNat p1))])) (fun _ k => XS.aloadN X112.here hx rfl (G d15_14) rfl rfl k) ?_
  obtain ⟨T113, X113, e113, st113⟩ := getF X112 hx hZ hown (host := "") (Or.inl (gw hw 54 rfl)) Via.refl e112 F_len (g := (mkF m 15 #[oR mb, oR sa, oI 0] [.ref mb, (.int (Int32.ofNat p1))])) rfl rfl (G d15_15)
  refine own_by st113 ?_
  refine own_by (S' := (oM T113 m 22 #[oR mb, oR sa, oI 0] [.ref mb])) (fun _ k => XS.icmpNo X113.here hx rfl (G d15_18) rfl (feq ((own_ofne (n := 23) (by omega) (by decide) (by omega)) : ¬ ((Int32.ofNat p1) = (23 : Int32)))).1 (XS.aloadN X113.here hx rfl (G d15_21) rfl rfl k)) ?_
  obtain ⟨T114, X114, e114, st114⟩ := getF X113 hx hZ hown (host := "") (Or.inl (gw hw 52 rfl)) Via.refl e113 f_10 (g := (mkF m 22 #[oR mb, oR sa, oI 0] [.ref mb])) rfl rfl (G d15_22)
  refine own_by st114 ?_
  refine own_by (S' := (oM T114 m 26 #[oR mb, oR sa, oI 0] [.ref mb, .ref li])) (fun _ k => XS.aloadN X114.here hx rfl (G d15_25) rfl rfl k) ?_
  obtain ⟨T115, X115, e115, st115⟩ := getF X114 hx hZ hown (host := "") (Or.inl (gw hw 58 rfl)) Via.refl e114 f_17 (g := (mkF m 26 #[oR mb, oR sa, oI 0] [.ref mb, .ref li])) rfl rfl (G d15_26)
  refine own_by st115 ?_
  refine own_by (S' := (oM T115 m 32 #[oR mb, oR sa, oI 0] [.int 0, .ref sa, .int 102])) (fun _ k => own_caload X115 hx hZ e115 A_li (own_nn (by omega)) (v := (.int 102)) (own_at (by omega) hl0) (g := (mkF m 29 #[oR mb, oR sa, oI 0] [(.int (Int32.ofNat p1)), .ref li])) rfl rfl (G d15_29) _ (XS.aloadN X115.here hx rfl (G d15_30) rfl rfl (XS.iloadN X115.here hx rfl (G d15_31) rfl k))) ?_
  obtain ⟨cq117, kq117, q117a, q117b, q117c⟩ := isOf hZ e115 E_sa
  obtain ⟨_, _, ⟨T117, L117, k117, n117⟩, -, X117, ⟨Lc117, hQ117, l117, y117, z117⟩, st117⟩ := X115.virtualBack hx (y := y_18) (z := y_18) hown (mvT hZ (gw hw 120 rfl)) (mvT hZ (gw hw 121 rfl)) (notFace_of_selects (args := #[]) (mvT hZ (gw hw 123 rfl))) (mvT hZ (gw hw 123 rfl)) (mvT hZ (gw hw 122 rfl)) (by decide) (backOf (W := 1) (rm_charAt l Z a0 hw [] sa sb [.int 102, .int 97, .int 108, .int 115, .int 101] (0 : Int32) (102 : Int32) (102 : Int32) cs fo bo h0 n0 Zn ⟨E_sa, F_sa_c, F_sa_v, A_sb⟩ (by decide) (of_decide_eq_true rfl) rfl (by decide) (by decide) O ⟨SC, hcs, SF, hfo, SB, EB⟩) hZ (gw hw 124 rfl) (gw hw 97 rfl) (by decide) (by decide)) q117a q117c (g := (mkF m 32 #[oR mb, oR sa, oI 0] [.int 0, .ref sa, .int 102])) rfl (by rw [hml]; rfl) (Steps.refl _) (argsL := [.int 0]) (rest := [.int 102]) (lenOf pd__28I_29C rfl) rfl oZ (G d15_32) (fun _ _ => ⟨rfl, e115, (by decide : 0 + 0 ≤ _), (by decide : 0 + 0 ≤ _)⟩)
  dsimp only [Pt.U, Pt.locs, Pt.cells, Pt.slots] at X117 l117 y117 z117 st117 hQ117
  have X117 := own_recast X117 l117 y117 z117
  obtain ⟨rfl, N117q, eh116⟩ := hQ117
  have N := Fr.app N N117q
  refine own_tr st117 ?_
  refine own_by (S' := (oM T117 m 45 #[oR mb, oR sa, oI 0] [.ref mb, .ref mb])) (fun _ k => XS.icmpYes X117.here hx rfl (pc0 := 35) (pc' := 43) rfl (G d15_35) rfl (teq ((by decide) : (102 : Int32) = (102 : Int32))).1 (by decide) (by decide) (XS.aloadN X117.here hx rfl (G d15_43) rfl rfl (XS.dup X117.here hx rfl (G d15_44) rfl rfl k))) ?_
  obtain ⟨T118, X118, e118, st118⟩ := getF X117 hx hZ hown (host := "") (Or.inl (gw hw 58 rfl)) Via.refl eh116 f_17 (g := (mkF m 45 #[oR mb, oR sa, oI 0] [.ref mb, .ref mb])) rfl rfl (G d15_45)
  refine own_by st118 ?_
  refine own_by (S' := (oM T118 m 50 #[oR mb, oR sa, oI 0] [(.int ((Int32.ofNat p1) + (1 : Int32))), .ref mb])) (fun _ k => XS.iconst X118.here hx rfl (G d15_48) (XS.iadd X118.here hx rfl (G d15_49) rfl k)) ?_
  rw [show ((Int32.ofNat p1) + (1 : Int32)) = (Int32.ofNat (p1 + 1)) from own_one p1]
  obtain ⟨T119, h119, X119, e119, W119, st119⟩ := putF X118 hx hZ hown (host := "") (Or.inl (gw hw 58 rfl)) Via.refl e118 f_17 E_mb (Or.inl (gw hw 59 rfl)) (gw hw 13 rfl) (ty := .int) (by decide) rfl rfl (g := (mkF m 50 #[oR mb, oR sa, oI 0] [(.int (Int32.ofNat (p1 + 1))), .ref mb])) rfl rfl (G d15_50)
  have N := Fr.snoc X119 N o_mb
  have E_mb := E_mb.wr W119
  have f_17 := f_17.same W119
  have F_len := oT F_len W119 (Or.inl (gw hw 55 rfl)) (Or.inl (gw hw 59 rfl)) .int .int
  have f_10 := oT f_10 W119 (Or.inl (gw hw 53 rfl)) (Or.inl (gw hw 59 rfl)) (.array .char) .int
  have A_li := A_li.other W119 (Ne.symm ne_mb_li)
  have O := O.wr W119 o_mb
  have E_sa := E_sa.wr W119
  have F_sa_c := oF F_sa_c W119 ne1
  have F_sa_v := oF F_sa_v W119 ne1
  have A_sb := A_sb.other W119 ne2
  have WQ := own_wtrans WQ W119
  have Zn : n0 ≤ _ := Nat.le_trans Zn (Nat.le_of_eq W119.size.symm)
  have K := K.wr W119 (Or.inl (List.mem_of_getElem? (i := 0) rfl))
  refine own_by st119 ?_
  refine own_by (S' := (oM T119 m 4 #[oR mb, oR sa, oI 1] [.ref sa, .int 1])) (fun _ k => XS.iinc X119.here hx rfl (G d15_53) rfl (l' := #[oR mb, oR sa, oI 1]) rfl (XS.goto X119.here hx rfl (pc0 := 56) (pc' := 2) rfl (G d15_56) (by decide) (by decide) (XS.iloadN X119.here hx rfl (G d15_2) rfl (XS.aloadN X119.here hx rfl (G d15_3) rfl rfl k)))) ?_
  obtain ⟨cq121, kq121, q121a, q121b, q121c⟩ := isOf hZ e119 E_sa
  obtain ⟨_, _, ⟨T121, L121, k121, n121⟩, -, X121, ⟨Lc121, hQ121, l121, y121, z121⟩, st121⟩ := X119.virtualBack hx (y := y_16) (z := y_16) hown (mvT hZ (gw hw 107 rfl)) (mvT hZ (gw hw 108 rfl)) (notFace_of_selects (args := #[]) (mvT hZ (gw hw 110 rfl))) (mvT hZ (gw hw 110 rfl)) (mvT hZ (gw hw 109 rfl)) (by decide) (backOf (W := 1) (rm_len l Z a0 hw [] sa sb [.int 102, .int 97, .int 108, .int 115, .int 101] cs fo bo h119 n0 Zn ⟨E_sa, F_sa_c, F_sa_v, A_sb⟩ O ⟨SC, hcs, SF, hfo, SB, EB⟩) hZ (gw hw 111 rfl) (gw hw 97 rfl) (by decide) (by decide)) q121a q121c (g := (mkF m 4 #[oR mb, oR sa, oI 1] [.ref sa, .int 1])) rfl (by rw [hml]; rfl) (Steps.refl _) (argsL := []) (rest := [.int 1]) (lenOf pd__28_29I rfl) rfl oZ (G d15_4) (fun _ _ => ⟨rfl, e119, (by decide : 0 + 0 ≤ _), (by decide : 0 + 0 ≤ _)⟩)
  dsimp only [Pt.U, Pt.locs, Pt.cells, Pt.slots] at X121 l121 y121 z121 st121 hQ121
  have X121 := own_recast X121 l121 y121 z121
  obtain ⟨rfl, N121q, eh120⟩ := hQ121
  have N := Fr.app N N121q
  refine own_tr st121 ?_
  refine own_by (S' := (oM T121 m 11 #[oR mb, oR sa, oI 1] [.ref mb])) (fun _ k => XS.icmpNo X121.here hx rfl (G d15_7) rfl (tlt ((by decide) : (1 : Int32) < (5 : Int32))).2.1 (XS.aloadN X121.here hx rfl (G d15_10) rfl rfl k)) ?_
  obtain ⟨T122, X122, e122, st122⟩ := getF X121 hx hZ hown (host := "") (Or.inl (gw hw 58 rfl)) Via.refl eh120 f_17 (g := (mkF m 11 #[oR mb, oR sa, oI 1] [.ref mb])) rfl rfl (G d15_11)
  refine own_by st122 ?_
  refine own_by (S' := (oM T122 m 15 #[oR mb, oR sa, oI 1] [.ref mb, (.int (Int32.ofNat (p1 + 1)))])) (fun _ k => XS.aloadN X122.here hx rfl (G d15_14) rfl rfl k) ?_
  obtain ⟨T123, X123, e123, st123⟩ := getF X122 hx hZ hown (host := "") (Or.inl (gw hw 54 rfl)) Via.refl e122 F_len (g := (mkF m 15 #[oR mb, oR sa, oI 1] [.ref mb, (.int (Int32.ofNat (p1 + 1)))])) rfl rfl (G d15_15)
  refine own_by st123 ?_
  refine own_by (S' := (oM T123 m 22 #[oR mb, oR sa, oI 1] [.ref mb])) (fun _ k => XS.icmpNo X123.here hx rfl (G d15_18) rfl (feq ((own_ofne (n := 23) (by omega) (by decide) (by omega)) : ¬ ((Int32.ofNat (p1 + 1)) = (23 : Int32)))).1 (XS.aloadN X123.here hx rfl (G d15_21) rfl rfl k)) ?_
  obtain ⟨T124, X124, e124, st124⟩ := getF X123 hx hZ hown (host := "") (Or.inl (gw hw 52 rfl)) Via.refl e123 f_10 (g := (mkF m 22 #[oR mb, oR sa, oI 1] [.ref mb])) rfl rfl (G d15_22)
  refine own_by st124 ?_
  refine own_by (S' := (oM T124 m 26 #[oR mb, oR sa, oI 1] [.ref mb, .ref li])) (fun _ k => XS.aloadN X124.here hx rfl (G d15_25) rfl rfl k) ?_
  obtain ⟨T125, X125, e125, st125⟩ := getF X124 hx hZ hown (host := "") (Or.inl (gw hw 58 rfl)) Via.refl e124 f_17 (g := (mkF m 26 #[oR mb, oR sa, oI 1] [.ref mb, .ref li])) rfl rfl (G d15_26)
  refine own_by st125 ?_
  refine own_by (S' := (oM T125 m 32 #[oR mb, oR sa, oI 1] [.int 1, .ref sa, .int 97])) (fun _ k => own_caload X125 hx hZ e125 A_li (own_nn (by omega)) (v := (.int 97)) (own_at (by omega) hl1) (g := (mkF m 29 #[oR mb, oR sa, oI 1] [(.int (Int32.ofNat (p1 + 1))), .ref li])) rfl rfl (G d15_29) _ (XS.aloadN X125.here hx rfl (G d15_30) rfl rfl (XS.iloadN X125.here hx rfl (G d15_31) rfl k))) ?_
  obtain ⟨cq127, kq127, q127a, q127b, q127c⟩ := isOf hZ e125 E_sa
  obtain ⟨_, _, ⟨T127, L127, k127, n127⟩, -, X127, ⟨Lc127, hQ127, l127, y127, z127⟩, st127⟩ := X125.virtualBack hx (y := y_18) (z := y_18) hown (mvT hZ (gw hw 120 rfl)) (mvT hZ (gw hw 121 rfl)) (notFace_of_selects (args := #[]) (mvT hZ (gw hw 123 rfl))) (mvT hZ (gw hw 123 rfl)) (mvT hZ (gw hw 122 rfl)) (by decide) (backOf (W := 1) (rm_charAt l Z a0 hw [] sa sb [.int 102, .int 97, .int 108, .int 115, .int 101] (1 : Int32) (97 : Int32) (97 : Int32) cs fo bo h119 n0 Zn ⟨E_sa, F_sa_c, F_sa_v, A_sb⟩ (by decide) (of_decide_eq_true rfl) rfl (by decide) (by decide) O ⟨SC, hcs, SF, hfo, SB, EB⟩) hZ (gw hw 124 rfl) (gw hw 97 rfl) (by decide) (by decide)) q127a q127c (g := (mkF m 32 #[oR mb, oR sa, oI 1] [.int 1, .ref sa, .int 97])) rfl (by rw [hml]; rfl) (Steps.refl _) (argsL := [.int 1]) (rest := [.int 97]) (lenOf pd__28I_29C rfl) rfl oZ (G d15_32) (fun _ _ => ⟨rfl, e125, (by decide : 0 + 0 ≤ _), (by decide : 0 + 0 ≤ _)⟩)
  dsimp only [Pt.U, Pt.locs, Pt.cells, Pt.slots] at X127 l127 y127 z127 st127 hQ127
  have X127 := own_recast X127 l127 y127 z127
  obtain ⟨rfl, N127q, eh126⟩ := hQ127
  have N := Fr.app N N127q
  refine own_tr st127 ?_
  refine own_by (S' := (oM T127 m 45 #[oR mb, oR sa, oI 1] [.ref mb, .ref mb])) (fun _ k => XS.icmpYes X127.here hx rfl (pc0 := 35) (pc' := 43) rfl (G d15_35) rfl (teq ((by decide) : (97 : Int32) = (97 : Int32))).1 (by decide) (by decide) (XS.aloadN X127.here hx rfl (G d15_43) rfl rfl (XS.dup X127.here hx rfl (G d15_44) rfl rfl k))) ?_
  obtain ⟨T128, X128, e128, st128⟩ := getF X127 hx hZ hown (host := "") (Or.inl (gw hw 58 rfl)) Via.refl eh126 f_17 (g := (mkF m 45 #[oR mb, oR sa, oI 1] [.ref mb, .ref mb])) rfl rfl (G d15_45)
  refine own_by st128 ?_
  refine own_by (S' := (oM T128 m 50 #[oR mb, oR sa, oI 1] [(.int ((Int32.ofNat (p1 + 1)) + (1 : Int32))), .ref mb])) (fun _ k => XS.iconst X128.here hx rfl (G d15_48) (XS.iadd X128.here hx rfl (G d15_49) rfl k)) ?_
  rw [show ((Int32.ofNat (p1 + 1)) + (1 : Int32)) = (Int32.ofNat (p1 + 2)) from own_one (p1 + 1)]
  obtain ⟨T129, h129, X129, e129, W129, st129⟩ := putF X128 hx hZ hown (host := "") (Or.inl (gw hw 58 rfl)) Via.refl e128 f_17 E_mb (Or.inl (gw hw 59 rfl)) (gw hw 13 rfl) (ty := .int) (by decide) rfl rfl (g := (mkF m 50 #[oR mb, oR sa, oI 1] [(.int (Int32.ofNat (p1 + 2))), .ref mb])) rfl rfl (G d15_50)
  have N := Fr.snoc X129 N o_mb
  have E_mb := E_mb.wr W129
  have f_17 := f_17.same W129
  have F_len := oT F_len W129 (Or.inl (gw hw 55 rfl)) (Or.inl (gw hw 59 rfl)) .int .int
  have f_10 := oT f_10 W129 (Or.inl (gw hw 53 rfl)) (Or.inl (gw hw 59 rfl)) (.array .char) .int
  have A_li := A_li.other W129 (Ne.symm ne_mb_li)
  have O := O.wr W129 o_mb
  have E_sa := E_sa.wr W129
  have F_sa_c := oF F_sa_c W129 ne1
  have F_sa_v := oF F_sa_v W129 ne1
  have A_sb := A_sb.other W129 ne2
  have WQ := own_wtrans WQ W129
  have Zn : n0 ≤ _ := Nat.le_trans Zn (Nat.le_of_eq W129.size.symm)
  have K := K.wr W129 (Or.inl (List.mem_of_getElem? (i := 0) rfl))
  refine own_by st129 ?_
  refine own_by (S' := (oM T129 m 4 #[oR mb, oR sa, oI 2] [.ref sa, .int 2])) (fun _ k => XS.iinc X129.here hx rfl (G d15_53) rfl (l' := #[oR mb, oR sa, oI 2]) rfl (XS.goto X129.here hx rfl (pc0 := 56) (pc' := 2) rfl (G d15_56) (by decide) (by decide) (XS.iloadN X129.here hx rfl (G d15_2) rfl (XS.aloadN X129.here hx rfl (G d15_3) rfl rfl k)))) ?_
  obtain ⟨cq131, kq131, q131a, q131b, q131c⟩ := isOf hZ e129 E_sa
  obtain ⟨_, _, ⟨T131, L131, k131, n131⟩, -, X131, ⟨Lc131, hQ131, l131, y131, z131⟩, st131⟩ := X129.virtualBack hx (y := y_16) (z := y_16) hown (mvT hZ (gw hw 107 rfl)) (mvT hZ (gw hw 108 rfl)) (notFace_of_selects (args := #[]) (mvT hZ (gw hw 110 rfl))) (mvT hZ (gw hw 110 rfl)) (mvT hZ (gw hw 109 rfl)) (by decide) (backOf (W := 1) (rm_len l Z a0 hw [] sa sb [.int 102, .int 97, .int 108, .int 115, .int 101] cs fo bo h129 n0 Zn ⟨E_sa, F_sa_c, F_sa_v, A_sb⟩ O ⟨SC, hcs, SF, hfo, SB, EB⟩) hZ (gw hw 111 rfl) (gw hw 97 rfl) (by decide) (by decide)) q131a q131c (g := (mkF m 4 #[oR mb, oR sa, oI 2] [.ref sa, .int 2])) rfl (by rw [hml]; rfl) (Steps.refl _) (argsL := []) (rest := [.int 2]) (lenOf pd__28_29I rfl) rfl oZ (G d15_4) (fun _ _ => ⟨rfl, e129, (by decide : 0 + 0 ≤ _), (by decide : 0 + 0 ≤ _)⟩)
  dsimp only [Pt.U, Pt.locs, Pt.cells, Pt.slots] at X131 l131 y131 z131 st131 hQ131
  have X131 := own_recast X131 l131 y131 z131
  obtain ⟨rfl, N131q, eh130⟩ := hQ131
  have N := Fr.app N N131q
  refine own_tr st131 ?_
  refine own_by (S' := (oM T131 m 11 #[oR mb, oR sa, oI 2] [.ref mb])) (fun _ k => XS.icmpNo X131.here hx rfl (G d15_7) rfl (tlt ((by decide) : (2 : Int32) < (5 : Int32))).2.1 (XS.aloadN X131.here hx rfl (G d15_10) rfl rfl k)) ?_
  obtain ⟨T132, X132, e132, st132⟩ := getF X131 hx hZ hown (host := "") (Or.inl (gw hw 58 rfl)) Via.refl eh130 f_17 (g := (mkF m 11 #[oR mb, oR sa, oI 2] [.ref mb])) rfl rfl (G d15_11)
  refine own_by st132 ?_
  refine own_by (S' := (oM T132 m 15 #[oR mb, oR sa, oI 2] [.ref mb, (.int (Int32.ofNat (p1 + 2)))])) (fun _ k => XS.aloadN X132.here hx rfl (G d15_14) rfl rfl k) ?_
  obtain ⟨T133, X133, e133, st133⟩ := getF X132 hx hZ hown (host := "") (Or.inl (gw hw 54 rfl)) Via.refl e132 F_len (g := (mkF m 15 #[oR mb, oR sa, oI 2] [.ref mb, (.int (Int32.ofNat (p1 + 2)))])) rfl rfl (G d15_15)
  refine own_by st133 ?_
  refine own_by (S' := (oM T133 m 22 #[oR mb, oR sa, oI 2] [.ref mb])) (fun _ k => XS.icmpNo X133.here hx rfl (G d15_18) rfl (feq ((own_ofne (n := 23) (by omega) (by decide) (by omega)) : ¬ ((Int32.ofNat (p1 + 2)) = (23 : Int32)))).1 (XS.aloadN X133.here hx rfl (G d15_21) rfl rfl k)) ?_
  obtain ⟨T134, X134, e134, st134⟩ := getF X133 hx hZ hown (host := "") (Or.inl (gw hw 52 rfl)) Via.refl e133 f_10 (g := (mkF m 22 #[oR mb, oR sa, oI 2] [.ref mb])) rfl rfl (G d15_22)
  refine own_by st134 ?_
  refine own_by (S' := (oM T134 m 26 #[oR mb, oR sa, oI 2] [.ref mb, .ref li])) (fun _ k => XS.aloadN X134.here hx rfl (G d15_25) rfl rfl k) ?_
  obtain ⟨T135, X135, e135, st135⟩ := getF X134 hx hZ hown (host := "") (Or.inl (gw hw 58 rfl)) Via.refl e134 f_17 (g := (mkF m 26 #[oR mb, oR sa, oI 2] [.ref mb, .ref li])) rfl rfl (G d15_26)
  refine own_by st135 ?_
  refine own_by (S' := (oM T135 m 32 #[oR mb, oR sa, oI 2] [.int 2, .ref sa, .int 108])) (fun _ k => own_caload X135 hx hZ e135 A_li (own_nn (by omega)) (v := (.int 108)) (own_at (by omega) hl2) (g := (mkF m 29 #[oR mb, oR sa, oI 2] [(.int (Int32.ofNat (p1 + 2))), .ref li])) rfl rfl (G d15_29) _ (XS.aloadN X135.here hx rfl (G d15_30) rfl rfl (XS.iloadN X135.here hx rfl (G d15_31) rfl k))) ?_
  obtain ⟨cq137, kq137, q137a, q137b, q137c⟩ := isOf hZ e135 E_sa
  obtain ⟨_, _, ⟨T137, L137, k137, n137⟩, -, X137, ⟨Lc137, hQ137, l137, y137, z137⟩, st137⟩ := X135.virtualBack hx (y := y_18) (z := y_18) hown (mvT hZ (gw hw 120 rfl)) (mvT hZ (gw hw 121 rfl)) (notFace_of_selects (args := #[]) (mvT hZ (gw hw 123 rfl))) (mvT hZ (gw hw 123 rfl)) (mvT hZ (gw hw 122 rfl)) (by decide) (backOf (W := 1) (rm_charAt l Z a0 hw [] sa sb [.int 102, .int 97, .int 108, .int 115, .int 101] (2 : Int32) (108 : Int32) (108 : Int32) cs fo bo h129 n0 Zn ⟨E_sa, F_sa_c, F_sa_v, A_sb⟩ (by decide) (of_decide_eq_true rfl) rfl (by decide) (by decide) O ⟨SC, hcs, SF, hfo, SB, EB⟩) hZ (gw hw 124 rfl) (gw hw 97 rfl) (by decide) (by decide)) q137a q137c (g := (mkF m 32 #[oR mb, oR sa, oI 2] [.int 2, .ref sa, .int 108])) rfl (by rw [hml]; rfl) (Steps.refl _) (argsL := [.int 2]) (rest := [.int 108]) (lenOf pd__28I_29C rfl) rfl oZ (G d15_32) (fun _ _ => ⟨rfl, e135, (by decide : 0 + 0 ≤ _), (by decide : 0 + 0 ≤ _)⟩)
  dsimp only [Pt.U, Pt.locs, Pt.cells, Pt.slots] at X137 l137 y137 z137 st137 hQ137
  have X137 := own_recast X137 l137 y137 z137
  obtain ⟨rfl, N137q, eh136⟩ := hQ137
  have N := Fr.app N N137q
  refine own_tr st137 ?_
  refine own_by (S' := (oM T137 m 45 #[oR mb, oR sa, oI 2] [.ref mb, .ref mb])) (fun _ k => XS.icmpYes X137.here hx rfl (pc0 := 35) (pc' := 43) rfl (G d15_35) rfl (teq ((by decide) : (108 : Int32) = (108 : Int32))).1 (by decide) (by decide) (XS.aloadN X137.here hx rfl (G d15_43) rfl rfl (XS.dup X137.here hx rfl (G d15_44) rfl rfl k))) ?_
  obtain ⟨T138, X138, e138, st138⟩ := getF X137 hx hZ hown (host := "") (Or.inl (gw hw 58 rfl)) Via.refl eh136 f_17 (g := (mkF m 45 #[oR mb, oR sa, oI 2] [.ref mb, .ref mb])) rfl rfl (G d15_45)
  refine own_by st138 ?_
  refine own_by (S' := (oM T138 m 50 #[oR mb, oR sa, oI 2] [(.int ((Int32.ofNat (p1 + 2)) + (1 : Int32))), .ref mb])) (fun _ k => XS.iconst X138.here hx rfl (G d15_48) (XS.iadd X138.here hx rfl (G d15_49) rfl k)) ?_
  rw [show ((Int32.ofNat (p1 + 2)) + (1 : Int32)) = (Int32.ofNat (p1 + 3)) from own_one (p1 + 2)]
  obtain ⟨T139, h139, X139, e139, W139, st139⟩ := putF X138 hx hZ hown (host := "") (Or.inl (gw hw 58 rfl)) Via.refl e138 f_17 E_mb (Or.inl (gw hw 59 rfl)) (gw hw 13 rfl) (ty := .int) (by decide) rfl rfl (g := (mkF m 50 #[oR mb, oR sa, oI 2] [(.int (Int32.ofNat (p1 + 3))), .ref mb])) rfl rfl (G d15_50)
  have N := Fr.snoc X139 N o_mb
  have E_mb := E_mb.wr W139
  have f_17 := f_17.same W139
  have F_len := oT F_len W139 (Or.inl (gw hw 55 rfl)) (Or.inl (gw hw 59 rfl)) .int .int
  have f_10 := oT f_10 W139 (Or.inl (gw hw 53 rfl)) (Or.inl (gw hw 59 rfl)) (.array .char) .int
  have A_li := A_li.other W139 (Ne.symm ne_mb_li)
  have O := O.wr W139 o_mb
  have E_sa := E_sa.wr W139
  have F_sa_c := oF F_sa_c W139 ne1
  have F_sa_v := oF F_sa_v W139 ne1
  have A_sb := A_sb.other W139 ne2
  have WQ := own_wtrans WQ W139
  have Zn : n0 ≤ _ := Nat.le_trans Zn (Nat.le_of_eq W139.size.symm)
  have K := K.wr W139 (Or.inl (List.mem_of_getElem? (i := 0) rfl))
  refine own_by st139 ?_
  refine own_by (S' := (oM T139 m 4 #[oR mb, oR sa, oI 3] [.ref sa, .int 3])) (fun _ k => XS.iinc X139.here hx rfl (G d15_53) rfl (l' := #[oR mb, oR sa, oI 3]) rfl (XS.goto X139.here hx rfl (pc0 := 56) (pc' := 2) rfl (G d15_56) (by decide) (by decide) (XS.iloadN X139.here hx rfl (G d15_2) rfl (XS.aloadN X139.here hx rfl (G d15_3) rfl rfl k)))) ?_
  obtain ⟨cq141, kq141, q141a, q141b, q141c⟩ := isOf hZ e139 E_sa
  obtain ⟨_, _, ⟨T141, L141, k141, n141⟩, -, X141, ⟨Lc141, hQ141, l141, y141, z141⟩, st141⟩ := X139.virtualBack hx (y := y_16) (z := y_16) hown (mvT hZ (gw hw 107 rfl)) (mvT hZ (gw hw 108 rfl)) (notFace_of_selects (args := #[]) (mvT hZ (gw hw 110 rfl))) (mvT hZ (gw hw 110 rfl)) (mvT hZ (gw hw 109 rfl)) (by decide) (backOf (W := 1) (rm_len l Z a0 hw [] sa sb [.int 102, .int 97, .int 108, .int 115, .int 101] cs fo bo h139 n0 Zn ⟨E_sa, F_sa_c, F_sa_v, A_sb⟩ O ⟨SC, hcs, SF, hfo, SB, EB⟩) hZ (gw hw 111 rfl) (gw hw 97 rfl) (by decide) (by decide)) q141a q141c (g := (mkF m 4 #[oR mb, oR sa, oI 3] [.ref sa, .int 3])) rfl (by rw [hml]; rfl) (Steps.refl _) (argsL := []) (rest := [.int 3]) (lenOf pd__28_29I rfl) rfl oZ (G d15_4) (fun _ _ => ⟨rfl, e139, (by decide : 0 + 0 ≤ _), (by decide : 0 + 0 ≤ _)⟩)
  dsimp only [Pt.U, Pt.locs, Pt.cells, Pt.slots] at X141 l141 y141 z141 st141 hQ141
  have X141 := own_recast X141 l141 y141 z141
  obtain ⟨rfl, N141q, eh140⟩ := hQ141
  have N := Fr.app N N141q
  refine own_tr st141 ?_
  refine own_by (S' := (oM T141 m 11 #[oR mb, oR sa, oI 3] [.ref mb])) (fun _ k => XS.icmpNo X141.here hx rfl (G d15_7) rfl (tlt ((by decide) : (3 : Int32) < (5 : Int32))).2.1 (XS.aloadN X141.here hx rfl (G d15_10) rfl rfl k)) ?_
  obtain ⟨T142, X142, e142, st142⟩ := getF X141 hx hZ hown (host := "") (Or.inl (gw hw 58 rfl)) Via.refl eh140 f_17 (g := (mkF m 11 #[oR mb, oR sa, oI 3] [.ref mb])) rfl rfl (G d15_11)
  refine own_by st142 ?_
  refine own_by (S' := (oM T142 m 15 #[oR mb, oR sa, oI 3] [.ref mb, (.int (Int32.ofNat (p1 + 3)))])) (fun _ k => XS.aloadN X142.here hx rfl (G d15_14) rfl rfl k) ?_
  obtain ⟨T143, X143, e143, st143⟩ := getF X142 hx hZ hown (host := "") (Or.inl (gw hw 54 rfl)) Via.refl e142 F_len (g := (mkF m 15 #[oR mb, oR sa, oI 3] [.ref mb, (.int (Int32.ofNat (p1 + 3)))])) rfl rfl (G d15_15)
  refine own_by st143 ?_
  refine own_by (S' := (oM T143 m 22 #[oR mb, oR sa, oI 3] [.ref mb])) (fun _ k => XS.icmpNo X143.here hx rfl (G d15_18) rfl (feq ((own_ofne (n := 23) (by omega) (by decide) (by omega)) : ¬ ((Int32.ofNat (p1 + 3)) = (23 : Int32)))).1 (XS.aloadN X143.here hx rfl (G d15_21) rfl rfl k)) ?_
  obtain ⟨T144, X144, e144, st144⟩ := getF X143 hx hZ hown (host := "") (Or.inl (gw hw 52 rfl)) Via.refl e143 f_10 (g := (mkF m 22 #[oR mb, oR sa, oI 3] [.ref mb])) rfl rfl (G d15_22)
  refine own_by st144 ?_
  refine own_by (S' := (oM T144 m 26 #[oR mb, oR sa, oI 3] [.ref mb, .ref li])) (fun _ k => XS.aloadN X144.here hx rfl (G d15_25) rfl rfl k) ?_
  obtain ⟨T145, X145, e145, st145⟩ := getF X144 hx hZ hown (host := "") (Or.inl (gw hw 58 rfl)) Via.refl e144 f_17 (g := (mkF m 26 #[oR mb, oR sa, oI 3] [.ref mb, .ref li])) rfl rfl (G d15_26)
  refine own_by st145 ?_
  refine own_by (S' := (oM T145 m 32 #[oR mb, oR sa, oI 3] [.int 3, .ref sa, .int 115])) (fun _ k => own_caload X145 hx hZ e145 A_li (own_nn (by omega)) (v := (.int 115)) (own_at (by omega) hl3) (g := (mkF m 29 #[oR mb, oR sa, oI 3] [(.int (Int32.ofNat (p1 + 3))), .ref li])) rfl rfl (G d15_29) _ (XS.aloadN X145.here hx rfl (G d15_30) rfl rfl (XS.iloadN X145.here hx rfl (G d15_31) rfl k))) ?_
  obtain ⟨cq147, kq147, q147a, q147b, q147c⟩ := isOf hZ e145 E_sa
  obtain ⟨_, _, ⟨T147, L147, k147, n147⟩, -, X147, ⟨Lc147, hQ147, l147, y147, z147⟩, st147⟩ := X145.virtualBack hx (y := y_18) (z := y_18) hown (mvT hZ (gw hw 120 rfl)) (mvT hZ (gw hw 121 rfl)) (notFace_of_selects (args := #[]) (mvT hZ (gw hw 123 rfl))) (mvT hZ (gw hw 123 rfl)) (mvT hZ (gw hw 122 rfl)) (by decide) (backOf (W := 1) (rm_charAt l Z a0 hw [] sa sb [.int 102, .int 97, .int 108, .int 115, .int 101] (3 : Int32) (115 : Int32) (115 : Int32) cs fo bo h139 n0 Zn ⟨E_sa, F_sa_c, F_sa_v, A_sb⟩ (by decide) (of_decide_eq_true rfl) rfl (by decide) (by decide) O ⟨SC, hcs, SF, hfo, SB, EB⟩) hZ (gw hw 124 rfl) (gw hw 97 rfl) (by decide) (by decide)) q147a q147c (g := (mkF m 32 #[oR mb, oR sa, oI 3] [.int 3, .ref sa, .int 115])) rfl (by rw [hml]; rfl) (Steps.refl _) (argsL := [.int 3]) (rest := [.int 115]) (lenOf pd__28I_29C rfl) rfl oZ (G d15_32) (fun _ _ => ⟨rfl, e145, (by decide : 0 + 0 ≤ _), (by decide : 0 + 0 ≤ _)⟩)
  dsimp only [Pt.U, Pt.locs, Pt.cells, Pt.slots] at X147 l147 y147 z147 st147 hQ147
  have X147 := own_recast X147 l147 y147 z147
  obtain ⟨rfl, N147q, eh146⟩ := hQ147
  have N := Fr.app N N147q
  refine own_tr st147 ?_
  refine own_by (S' := (oM T147 m 45 #[oR mb, oR sa, oI 3] [.ref mb, .ref mb])) (fun _ k => XS.icmpYes X147.here hx rfl (pc0 := 35) (pc' := 43) rfl (G d15_35) rfl (teq ((by decide) : (115 : Int32) = (115 : Int32))).1 (by decide) (by decide) (XS.aloadN X147.here hx rfl (G d15_43) rfl rfl (XS.dup X147.here hx rfl (G d15_44) rfl rfl k))) ?_
  obtain ⟨T148, X148, e148, st148⟩ := getF X147 hx hZ hown (host := "") (Or.inl (gw hw 58 rfl)) Via.refl eh146 f_17 (g := (mkF m 45 #[oR mb, oR sa, oI 3] [.ref mb, .ref mb])) rfl rfl (G d15_45)
  refine own_by st148 ?_
  refine own_by (S' := (oM T148 m 50 #[oR mb, oR sa, oI 3] [(.int ((Int32.ofNat (p1 + 3)) + (1 : Int32))), .ref mb])) (fun _ k => XS.iconst X148.here hx rfl (G d15_48) (XS.iadd X148.here hx rfl (G d15_49) rfl k)) ?_
  rw [show ((Int32.ofNat (p1 + 3)) + (1 : Int32)) = (Int32.ofNat (p1 + 4)) from own_one (p1 + 3)]
  obtain ⟨T149, h149, X149, e149, W149, st149⟩ := putF X148 hx hZ hown (host := "") (Or.inl (gw hw 58 rfl)) Via.refl e148 f_17 E_mb (Or.inl (gw hw 59 rfl)) (gw hw 13 rfl) (ty := .int) (by decide) rfl rfl (g := (mkF m 50 #[oR mb, oR sa, oI 3] [(.int (Int32.ofNat (p1 + 4))), .ref mb])) rfl rfl (G d15_50)
  have N := Fr.snoc X149 N o_mb
  have E_mb := E_mb.wr W149
  have f_17 := f_17.same W149
  have F_len := oT F_len W149 (Or.inl (gw hw 55 rfl)) (Or.inl (gw hw 59 rfl)) .int .int
  have f_10 := oT f_10 W149 (Or.inl (gw hw 53 rfl)) (Or.inl (gw hw 59 rfl)) (.array .char) .int
  have A_li := A_li.other W149 (Ne.symm ne_mb_li)
  have O := O.wr W149 o_mb
  have E_sa := E_sa.wr W149
  have F_sa_c := oF F_sa_c W149 ne1
  have F_sa_v := oF F_sa_v W149 ne1
  have A_sb := A_sb.other W149 ne2
  have WQ := own_wtrans WQ W149
  have Zn : n0 ≤ _ := Nat.le_trans Zn (Nat.le_of_eq W149.size.symm)
  have K := K.wr W149 (Or.inl (List.mem_of_getElem? (i := 0) rfl))
  refine own_by st149 ?_
  refine own_by (S' := (oM T149 m 4 #[oR mb, oR sa, oI 4] [.ref sa, .int 4])) (fun _ k => XS.iinc X149.here hx rfl (G d15_53) rfl (l' := #[oR mb, oR sa, oI 4]) rfl (XS.goto X149.here hx rfl (pc0 := 56) (pc' := 2) rfl (G d15_56) (by decide) (by decide) (XS.iloadN X149.here hx rfl (G d15_2) rfl (XS.aloadN X149.here hx rfl (G d15_3) rfl rfl k)))) ?_
  obtain ⟨cq151, kq151, q151a, q151b, q151c⟩ := isOf hZ e149 E_sa
  obtain ⟨_, _, ⟨T151, L151, k151, n151⟩, -, X151, ⟨Lc151, hQ151, l151, y151, z151⟩, st151⟩ := X149.virtualBack hx (y := y_16) (z := y_16) hown (mvT hZ (gw hw 107 rfl)) (mvT hZ (gw hw 108 rfl)) (notFace_of_selects (args := #[]) (mvT hZ (gw hw 110 rfl))) (mvT hZ (gw hw 110 rfl)) (mvT hZ (gw hw 109 rfl)) (by decide) (backOf (W := 1) (rm_len l Z a0 hw [] sa sb [.int 102, .int 97, .int 108, .int 115, .int 101] cs fo bo h149 n0 Zn ⟨E_sa, F_sa_c, F_sa_v, A_sb⟩ O ⟨SC, hcs, SF, hfo, SB, EB⟩) hZ (gw hw 111 rfl) (gw hw 97 rfl) (by decide) (by decide)) q151a q151c (g := (mkF m 4 #[oR mb, oR sa, oI 4] [.ref sa, .int 4])) rfl (by rw [hml]; rfl) (Steps.refl _) (argsL := []) (rest := [.int 4]) (lenOf pd__28_29I rfl) rfl oZ (G d15_4) (fun _ _ => ⟨rfl, e149, (by decide : 0 + 0 ≤ _), (by decide : 0 + 0 ≤ _)⟩)
  dsimp only [Pt.U, Pt.locs, Pt.cells, Pt.slots] at X151 l151 y151 z151 st151 hQ151
  have X151 := own_recast X151 l151 y151 z151
  obtain ⟨rfl, N151q, eh150⟩ := hQ151
  have N := Fr.app N N151q
  refine own_tr st151 ?_
  refine own_by (S' := (oM T151 m 11 #[oR mb, oR sa, oI 4] [.ref mb])) (fun _ k => XS.icmpNo X151.here hx rfl (G d15_7) rfl (tlt ((by decide) : (4 : Int32) < (5 : Int32))).2.1 (XS.aloadN X151.here hx rfl (G d15_10) rfl rfl k)) ?_
  obtain ⟨T152, X152, e152, st152⟩ := getF X151 hx hZ hown (host := "") (Or.inl (gw hw 58 rfl)) Via.refl eh150 f_17 (g := (mkF m 11 #[oR mb, oR sa, oI 4] [.ref mb])) rfl rfl (G d15_11)
  refine own_by st152 ?_
  refine own_by (S' := (oM T152 m 15 #[oR mb, oR sa, oI 4] [.ref mb, (.int (Int32.ofNat (p1 + 4)))])) (fun _ k => XS.aloadN X152.here hx rfl (G d15_14) rfl rfl k) ?_
  obtain ⟨T153, X153, e153, st153⟩ := getF X152 hx hZ hown (host := "") (Or.inl (gw hw 54 rfl)) Via.refl e152 F_len (g := (mkF m 15 #[oR mb, oR sa, oI 4] [.ref mb, (.int (Int32.ofNat (p1 + 4)))])) rfl rfl (G d15_15)
  refine own_by st153 ?_
  refine own_by (S' := (oM T153 m 22 #[oR mb, oR sa, oI 4] [.ref mb])) (fun _ k => XS.icmpNo X153.here hx rfl (G d15_18) rfl (feq ((own_ofne (n := 23) (by omega) (by decide) (by omega)) : ¬ ((Int32.ofNat (p1 + 4)) = (23 : Int32)))).1 (XS.aloadN X153.here hx rfl (G d15_21) rfl rfl k)) ?_
  obtain ⟨T154, X154, e154, st154⟩ := getF X153 hx hZ hown (host := "") (Or.inl (gw hw 52 rfl)) Via.refl e153 f_10 (g := (mkF m 22 #[oR mb, oR sa, oI 4] [.ref mb])) rfl rfl (G d15_22)
  refine own_by st154 ?_
  refine own_by (S' := (oM T154 m 26 #[oR mb, oR sa, oI 4] [.ref mb, .ref li])) (fun _ k => XS.aloadN X154.here hx rfl (G d15_25) rfl rfl k) ?_
  obtain ⟨T155, X155, e155, st155⟩ := getF X154 hx hZ hown (host := "") (Or.inl (gw hw 58 rfl)) Via.refl e154 f_17 (g := (mkF m 26 #[oR mb, oR sa, oI 4] [.ref mb, .ref li])) rfl rfl (G d15_26)
  refine own_by st155 ?_
  refine own_by (S' := (oM T155 m 32 #[oR mb, oR sa, oI 4] [.int 4, .ref sa, .int 101])) (fun _ k => own_caload X155 hx hZ e155 A_li (own_nn (by omega)) (v := (.int 101)) (own_at (by omega) hl4) (g := (mkF m 29 #[oR mb, oR sa, oI 4] [(.int (Int32.ofNat (p1 + 4))), .ref li])) rfl rfl (G d15_29) _ (XS.aloadN X155.here hx rfl (G d15_30) rfl rfl (XS.iloadN X155.here hx rfl (G d15_31) rfl k))) ?_
  obtain ⟨cq157, kq157, q157a, q157b, q157c⟩ := isOf hZ e155 E_sa
  obtain ⟨_, _, ⟨T157, L157, k157, n157⟩, -, X157, ⟨Lc157, hQ157, l157, y157, z157⟩, st157⟩ := X155.virtualBack hx (y := y_18) (z := y_18) hown (mvT hZ (gw hw 120 rfl)) (mvT hZ (gw hw 121 rfl)) (notFace_of_selects (args := #[]) (mvT hZ (gw hw 123 rfl))) (mvT hZ (gw hw 123 rfl)) (mvT hZ (gw hw 122 rfl)) (by decide) (backOf (W := 1) (rm_charAt l Z a0 hw [] sa sb [.int 102, .int 97, .int 108, .int 115, .int 101] (4 : Int32) (101 : Int32) (101 : Int32) cs fo bo h149 n0 Zn ⟨E_sa, F_sa_c, F_sa_v, A_sb⟩ (by decide) (of_decide_eq_true rfl) rfl (by decide) (by decide) O ⟨SC, hcs, SF, hfo, SB, EB⟩) hZ (gw hw 124 rfl) (gw hw 97 rfl) (by decide) (by decide)) q157a q157c (g := (mkF m 32 #[oR mb, oR sa, oI 4] [.int 4, .ref sa, .int 101])) rfl (by rw [hml]; rfl) (Steps.refl _) (argsL := [.int 4]) (rest := [.int 101]) (lenOf pd__28I_29C rfl) rfl oZ (G d15_32) (fun _ _ => ⟨rfl, e155, (by decide : 0 + 0 ≤ _), (by decide : 0 + 0 ≤ _)⟩)
  dsimp only [Pt.U, Pt.locs, Pt.cells, Pt.slots] at X157 l157 y157 z157 st157 hQ157
  have X157 := own_recast X157 l157 y157 z157
  obtain ⟨rfl, N157q, eh156⟩ := hQ157
  have N := Fr.app N N157q
  refine own_tr st157 ?_
  refine own_by (S' := (oM T157 m 45 #[oR mb, oR sa, oI 4] [.ref mb, .ref mb])) (fun _ k => XS.icmpYes X157.here hx rfl (pc0 := 35) (pc' := 43) rfl (G d15_35) rfl (teq ((by decide) : (101 : Int32) = (101 : Int32))).1 (by decide) (by decide) (XS.aloadN X157.here hx rfl (G d15_43) rfl rfl (XS.dup X157.here hx rfl (G d15_44) rfl rfl k))) ?_
  obtain ⟨T158, X158, e158, st158⟩ := getF X157 hx hZ hown (host := "") (Or.inl (gw hw 58 rfl)) Via.refl eh156 f_17 (g := (mkF m 45 #[oR mb, oR sa, oI 4] [.ref mb, .ref mb])) rfl rfl (G d15_45)
  refine own_by st158 ?_
  refine own_by (S' := (oM T158 m 50 #[oR mb, oR sa, oI 4] [(.int ((Int32.ofNat (p1 + 4)) + (1 : Int32))), .ref mb])) (fun _ k => XS.iconst X158.here hx rfl (G d15_48) (XS.iadd X158.here hx rfl (G d15_49) rfl k)) ?_
  rw [show ((Int32.ofNat (p1 + 4)) + (1 : Int32)) = (Int32.ofNat (p1 + 5)) from own_one (p1 + 4)]
  obtain ⟨T159, h159, X159, e159, W159, st159⟩ := putF X158 hx hZ hown (host := "") (Or.inl (gw hw 58 rfl)) Via.refl e158 f_17 E_mb (Or.inl (gw hw 59 rfl)) (gw hw 13 rfl) (ty := .int) (by decide) rfl rfl (g := (mkF m 50 #[oR mb, oR sa, oI 4] [(.int (Int32.ofNat (p1 + 5))), .ref mb])) rfl rfl (G d15_50)
  have N := Fr.snoc X159 N o_mb
  have E_mb := E_mb.wr W159
  have f_17 := f_17.same W159
  have F_len := oT F_len W159 (Or.inl (gw hw 55 rfl)) (Or.inl (gw hw 59 rfl)) .int .int
  have f_10 := oT f_10 W159 (Or.inl (gw hw 53 rfl)) (Or.inl (gw hw 59 rfl)) (.array .char) .int
  have A_li := A_li.other W159 (Ne.symm ne_mb_li)
  have O := O.wr W159 o_mb
  have E_sa := E_sa.wr W159
  have F_sa_c := oF F_sa_c W159 ne1
  have F_sa_v := oF F_sa_v W159 ne1
  have A_sb := A_sb.other W159 ne2
  have WQ := own_wtrans WQ W159
  have Zn : n0 ≤ _ := Nat.le_trans Zn (Nat.le_of_eq W159.size.symm)
  have K := K.wr W159 (Or.inl (List.mem_of_getElem? (i := 0) rfl))
  refine own_by st159 ?_
  refine own_by (S' := (oM T159 m 4 #[oR mb, oR sa, oI 5] [.ref sa, .int 5])) (fun _ k => XS.iinc X159.here hx rfl (G d15_53) rfl (l' := #[oR mb, oR sa, oI 5]) rfl (XS.goto X159.here hx rfl (pc0 := 56) (pc' := 2) rfl (G d15_56) (by decide) (by decide) (XS.iloadN X159.here hx rfl (G d15_2) rfl (XS.aloadN X159.here hx rfl (G d15_3) rfl rfl k)))) ?_
  obtain ⟨cq161, kq161, q161a, q161b, q161c⟩ := isOf hZ e159 E_sa
  obtain ⟨_, _, ⟨T161, L161, k161, n161⟩, -, X161, ⟨Lc161, hQ161, l161, y161, z161⟩, st161⟩ := X159.virtualBack hx (y := y_16) (z := y_16) hown (mvT hZ (gw hw 107 rfl)) (mvT hZ (gw hw 108 rfl)) (notFace_of_selects (args := #[]) (mvT hZ (gw hw 110 rfl))) (mvT hZ (gw hw 110 rfl)) (mvT hZ (gw hw 109 rfl)) (by decide) (backOf (W := 1) (rm_len l Z a0 hw [] sa sb [.int 102, .int 97, .int 108, .int 115, .int 101] cs fo bo h159 n0 Zn ⟨E_sa, F_sa_c, F_sa_v, A_sb⟩ O ⟨SC, hcs, SF, hfo, SB, EB⟩) hZ (gw hw 111 rfl) (gw hw 97 rfl) (by decide) (by decide)) q161a q161c (g := (mkF m 4 #[oR mb, oR sa, oI 5] [.ref sa, .int 5])) rfl (by rw [hml]; rfl) (Steps.refl _) (argsL := []) (rest := [.int 5]) (lenOf pd__28_29I rfl) rfl oZ (G d15_4) (fun _ _ => ⟨rfl, e159, (by decide : 0 + 0 ≤ _), (by decide : 0 + 0 ≤ _)⟩)
  dsimp only [Pt.U, Pt.locs, Pt.cells, Pt.slots] at X161 l161 y161 z161 st161 hQ161
  have X161 := own_recast X161 l161 y161 z161
  obtain ⟨rfl, N161q, eh160⟩ := hQ161
  have N := Fr.app N N161q
  refine own_tr st161 ?_
  refine own_by (S' := (oM T161 m 60 #[oR mb, oR sa, oI 5] [.ref mb])) (fun _ k => XS.icmpYes X161.here hx rfl (pc0 := 7) (pc' := 59) rfl (G d15_7) rfl (flt ((by decide) : ¬ ((5 : Int32) < (5 : Int32)))).2.1 (by decide) (by decide) (XS.aloadN X161.here hx rfl (G d15_59) rfl rfl k)) ?_
  obtain ⟨cq162, q162, q162'⟩ := E_mb.cell
  obtain ⟨_, _, ⟨T162, L162, k162, n162⟩, -, X162, ⟨Lc162, hQ162, l162, y162, z162⟩, st162⟩ := X161.privateBack hx (y := y_23) hown (mvT hZ (gw hw 142 rfl)) (mvT hZ (gw hw 143 rfl)) (own_selP hZ (gw hw 13 rfl) (gw hw 144 rfl) (gw hw 143 rfl) (by decide)) (Cond.privateMethod_at (mvP hZ (gw hw 144 rfl) (args := #[]))) (mvT hZ (gw hw 145 rfl)) (by decide) (backOf (W := 0) (rm_expDel l Z a0 hw [] mb li LN (p1 + 5) cz h159 n0 Zn E_mb f_17 F_len f_10 A_li o_mb ne_mb_li hp hc hz) hZ (gw hw 145 rfl) (gw hw 14 rfl) (by decide) (by decide)) (g := (mkF m 60 #[oR mb, oR sa, oI 5] [.ref mb])) rfl (by rw [hml]; rfl) (Steps.refl _) (a := mb) (by rw [eh160]; exact q162) q162' (argsL := []) (rest := []) (lenOf pd__28_29V rfl) rfl oZ (G d15_60) (fun _ _ => ⟨rfl, eh160, (by decide : 0 + 0 ≤ _), (by decide : 0 + 0 ≤ _)⟩)
  dsimp only [Pt.U, Pt.locs, Pt.cells, Pt.slots] at X162 l162 y162 z162 st162 hQ162
  have X162 := own_recast X162 l162 y162 z162
  obtain ⟨rfl, N162q, ehd⟩ := hQ162
  have N := Fr.app N N162q
  refine own_tr st162 ?_
  exact own_ret0 X162 hx Bd.returns (G d15_63) hlk (by decide : 0 ≤ _) (by decide : 0 ≤ _) (by rw [ehd]; exact ⟨rfl, N, WQ⟩)
section OwnO
variable {p : Program} {l : Launch} {e : Env} {R : Room} {s : State} {m : MethodId} {args a0 : Array Value} {below : List Frame} {meth : Method} {c : Code} {T : State} {locs : List Loc} {cells slots : Nat} {Z : State} {h h' : Heap} {a b : Addr} {ty : FieldType} {vs : List Value} {v : Value} {sl : Nat} {C : String}
def OwnO (Z : State) (h : Heap) (a : Addr) (C : String) (vs : List Value) : Prop := ∃ c : Cell, Arr Z h a c (.object C) ∧ c.slots.toList = vs ∧ Ovr Z c.cls C
theorem OwnO.toA (F : OwnO Z h a C vs) : OwnA Z h a (.object C) vs := by obtain ⟨c, A, q, -⟩ := F; exact ⟨c, A, q⟩
theorem OwnO.lt (F : OwnO Z h a C vs) : a < h.size := F.toA.lt
theorem OwnO.ext (F : OwnO Z h a C vs) (E : Ext h h') : OwnO Z h' a C vs := by obtain ⟨c, A, r⟩ := F; exact ⟨c, A.ext E, r⟩
theorem OwnO.other (F : OwnO Z h a C vs) (W : Wr h h' b sl v) (q : a ≠ b) : OwnO Z h' a C vs := by obtain ⟨c, A, r⟩ := F; exact ⟨c, A.other W q, r⟩
theorem OwnO.keep {ws : List Addr} (F : OwnO Z h a C vs) (K : Keep h h' ws) (q : a ∉ ws) : OwnO Z h' a C vs := by obtain ⟨c, A, r⟩ := F; exact ⟨c, ⟨K.2.1 a c A.1 q, A.2⟩, r⟩
theorem OwnO.set (F : OwnO Z h a C vs) (W : Wr h h' a sl v) : OwnO Z h' a C (vs.set sl v) := by
  obtain ⟨c, A, rfl, r⟩ := F
  exact ⟨_, A.same W, by simp [Cell.setSlot], r⟩
theorem own_sto {y : Addr} (F : OwnO Z h a C vs) (I : Ins Z h y C true) : Sto Z h a (.ref y) := by obtain ⟨c, A, -, O⟩ := F; exact Sto.of A O I
theorem own_stO (X : Stand p l e R s m args below meth c T locs cells slots) (hx : p.tables.exec = Jvm.exec) (hZ : Z.Warmed39 s.vm) (eT : T.heap = h) (F : OwnO Z h a C vs) (S : Sto Z h a v) {j : Int32} (hj : ¬ j < 0) (hl : j.toNatClampNeg < vs.length) {g : JFrame} (hg : g.method = m) {rest : List Value} (hs : g.stack = v :: .int j :: .ref a :: rest) (hd : decode c.code g.pc = .ok (.aastore, 1)) :
    ∃ T' h', Stand p l e R s m args below meth c T' (locs ++ [⟨a, j.toNatClampNeg⟩]) cells slots ∧ T'.heap = h' ∧ Wr h h' a j.toNatClampNeg v ∧ ∀ target, Steps p.tables e below (T'.setTop { g with pc := g.pc + 1, stack := rest }) target → Steps p.tables e below (T.setTop g) target := by
  obtain ⟨cl, A, rfl, O⟩ := F
  exact stR X hx hZ eT A (own_inl hj hl) rfl S hg hs hd
theorem own_nd {x : Addr} {L : List Addr} (q : ∀ y ∈ L, x ≠ y) (t : L.Nodup) : (x :: L).Nodup := List.nodup_cons.mpr ⟨fun z => q x z rfl, t⟩
theorem own_pick {L : List Addr} (nd : L.Nodup) (i j : Nat) {x y : Addr} (hx : L[i]? = some x) (hy : L[j]? = some y) (q : i ≠ j) : x ≠ y := fun r => by
  subst r
  obtain ⟨hi, e1⟩ := List.getElem?_eq_some_iff.mp hx
  obtain ⟨hj, e2⟩ := List.getElem?_eq_some_iff.mp hy
  rcases Nat.lt_or_gt_of_ne q with g | g
  · exact List.pairwise_iff_getElem.mp nd i j hi hj g (e1.trans e2.symm)
  · exact List.pairwise_iff_getElem.mp nd j i hj hi g (e2.trans e1.symm)
end OwnO
def own_Z32 : List Value := [.int 0, .int 0, .int 0, .int 0, .int 0, .int 0, .int 0, .int 0, .int 0, .int 0, .int 0, .int 0, .int 0, .int 0, .int 0, .int 0, .int 0, .int 0, .int 0, .int 0, .int 0, .int 0, .int 0, .int 0, .int 0, .int 0, .int 0, .int 0, .int 0, .int 0, .int 0, .int 0]
def own_S1 (c1 : Nat) : List Value := own_Z32.set (own_sl c1) (.int 1)
def own_j3 (c1 c2 : Nat) : Nat := if own_sl c1 = own_sl c2 then (own_sl c2 + 1) % 32 else own_sl c2
def own_S2 (c1 c2 : Nat) : List Value := (own_S1 c1).set (own_j3 c1 c2) (.int 2)
theorem own_zlen : own_Z32.length = 32 := rfl
theorem own_s1len (c1 : Nat) : (own_S1 c1).length = 32 := by rw [own_S1, List.length_set]; rfl
theorem own_s2len (c1 c2 : Nat) : (own_S2 c1 c2).length = 32 := by rw [own_S2, List.length_set]; exact own_s1len c1
theorem own_zrep : own_Z32 = List.replicate 32 (.int 0) := rfl
theorem own_zget {j : Nat} (h : j < 32) : own_Z32[j]? = some (.int 0) := by rw [own_zrep, List.getElem?_replicate, if_pos h]
theorem own_zset (j : Nat) : own_Z32.set j (.int 0) = own_Z32 := by rw [own_zrep, List.set_replicate_self]
theorem own_s1get (c1 : Nat) {j : Nat} (h : j < 32) : (own_S1 c1)[j]? = some (.int (if own_sl c1 = j then (1 : Int32) else 0)) := by
  rw [own_S1, List.getElem?_set, own_zlen]
  by_cases q : own_sl c1 = j
  · rw [if_pos q, if_pos q, if_pos (q ▸ h)]
  · rw [if_neg q, if_neg q, own_zget h]
theorem own_s2get (c1 c2 : Nat) {j : Nat} (h : j < 32) : (own_S2 c1 c2)[j]? = some (.int (if own_j3 c1 c2 = j then (2 : Int32) else if own_sl c1 = j then (1 : Int32) else 0)) := by
  rw [own_S2, List.getElem?_set, own_s1len]
  by_cases q : own_j3 c1 c2 = j
  · rw [if_pos q, if_pos q, if_pos (q ▸ h)]
  · rw [if_neg q, if_neg q, own_s1get c1 h]
theorem own_j3lt {c1 c2 : Nat} (h : c2 < 256) : own_j3 c1 c2 < 32 := by
  have := (own_slot c2 h).2
  unfold own_j3; split <;> omega
theorem own_j3ne {c1 c2 : Nat} (h : c2 < 256) : own_j3 c1 c2 ≠ own_sl c1 := by
  have := (own_slot c2 h).2
  unfold own_j3; split <;> omega

def own_V0  : Nat → List Value
  | 0 => [.int 0, .int 0, .int 0, .int 0, .int 0, .int 0, .int 0, .int 0, .int 0, .int 0, .int 0, .int 0, .int 0, .int 0, .int 0, .int 0]
  | 1 => [.int 0, .int 0, .int 0, .int 0, .int 0, .int 0, .int 0, .int 0, .int 0, .int 0, .int 0, .int 0, .int 0, .int 0, .int 0, .int 0]
  | 2 => [.int 0, .int 0, .int 0, .int 0, .int 0, .int 0, .int 0, .int 0, .int 0, .int 0, .int 0, .int 0, .int 0, .int 0, .int 0, .int 0]
  | 3 => [.null, .null, .null, .null, .null, .null, .null, .null, .null, .null, .null, .null, .null, .null, .null, .null]
  | 4 => [.null, .null, .null, .null, .null, .null, .null, .null, .null, .null, .null, .null, .null, .null, .null, .null]
  | 5 => [.int 0, .int 0, .int 0, .int 0, .int 0, .int 0, .int 0, .int 0, .int 0, .int 0, .int 0, .int 0, .int 0, .int 0, .int 0, .int 0]
  | 6 => [.int 0, .int 0, .int 0, .int 0, .int 0, .int 0, .int 0, .int 0, .int 0, .int 0, .int 0, .int 0, .int 0, .int 0, .int 0, .int 0]
  | 7 => [.int 0, .int 0, .int 0, .int 0, .int 0, .int 0, .int 0, .int 0, .int 0, .int 0, .int 0, .int 0, .int 0, .int 0, .int 0, .int 0]
  | 8 => [.int 0, .int 0, .int 0, .int 0, .int 0, .int 0, .int 0, .int 0, .int 0, .int 0, .int 0, .int 0, .int 0, .int 0, .int 0, .int 0]
  | 9 => own_Z32
  | _ => []
def own_V1 (c1 : Nat) (a1 b1 : Int32) (bo : Addr) : Nat → List Value
  | 0 => [.int 1, .int 0, .int 0, .int 0, .int 0, .int 0, .int 0, .int 0, .int 0, .int 0, .int 0, .int 0, .int 0, .int 0, .int 0, .int 0]
  | 1 => [.int 4, .int 0, .int 0, .int 0, .int 0, .int 0, .int 0, .int 0, .int 0, .int 0, .int 0, .int 0, .int 0, .int 0, .int 0, .int 0]
  | 2 => [.int (Int32.ofNat c1), .int 0, .int 0, .int 0, .int 0, .int 0, .int 0, .int 0, .int 0, .int 0, .int 0, .int 0, .int 0, .int 0, .int 0, .int 0]
  | 3 => [.null, .null, .null, .null, .null, .null, .null, .null, .null, .null, .null, .null, .null, .null, .null, .null]
  | 4 => [.ref bo, .null, .null, .null, .null, .null, .null, .null, .null, .null, .null, .null, .null, .null, .null, .null]
  | 5 => [.int a1, .int 0, .int 0, .int 0, .int 0, .int 0, .int 0, .int 0, .int 0, .int 0, .int 0, .int 0, .int 0, .int 0, .int 0, .int 0]
  | 6 => [.int b1, .int 0, .int 0, .int 0, .int 0, .int 0, .int 0, .int 0, .int 0, .int 0, .int 0, .int 0, .int 0, .int 0, .int 0, .int 0]
  | 7 => [.int 0, .int 0, .int 0, .int 0, .int 0, .int 0, .int 0, .int 0, .int 0, .int 0, .int 0, .int 0, .int 0, .int 0, .int 0, .int 0]
  | 8 => [.int 0, .int 0, .int 0, .int 0, .int 0, .int 0, .int 0, .int 0, .int 0, .int 0, .int 0, .int 0, .int 0, .int 0, .int 0, .int 0]
  | 9 => (own_S1 c1)
  | _ => []
def own_V2 (c1 c2 : Nat) (a1 b1 a2 b2 : Int32) (bo : Addr) : Nat → List Value
  | 0 => [.int 1, .int 12, .int 0, .int 0, .int 0, .int 0, .int 0, .int 0, .int 0, .int 0, .int 0, .int 0, .int 0, .int 0, .int 0, .int 0]
  | 1 => [.int 4, .int 15, .int 0, .int 0, .int 0, .int 0, .int 0, .int 0, .int 0, .int 0, .int 0, .int 0, .int 0, .int 0, .int 0, .int 0]
  | 2 => [.int (Int32.ofNat c1), .int (Int32.ofNat c2), .int 0, .int 0, .int 0, .int 0, .int 0, .int 0, .int 0, .int 0, .int 0, .int 0, .int 0, .int 0, .int 0, .int 0]
  | 3 => [.null, .null, .null, .null, .null, .null, .null, .null, .null, .null, .null, .null, .null, .null, .null, .null]
  | 4 => [.ref bo, .ref bo, .null, .null, .null, .null, .null, .null, .null, .null, .null, .null, .null, .null, .null, .null]
  | 5 => [.int a1, .int a2, .int 0, .int 0, .int 0, .int 0, .int 0, .int 0, .int 0, .int 0, .int 0, .int 0, .int 0, .int 0, .int 0, .int 0]
  | 6 => [.int b1, .int b2, .int 0, .int 0, .int 0, .int 0, .int 0, .int 0, .int 0, .int 0, .int 0, .int 0, .int 0, .int 0, .int 0, .int 0]
  | 7 => [.int 0, .int 0, .int 0, .int 0, .int 0, .int 0, .int 0, .int 0, .int 0, .int 0, .int 0, .int 0, .int 0, .int 0, .int 0, .int 0]
  | 8 => [.int 0, .int 0, .int 0, .int 0, .int 0, .int 0, .int 0, .int 0, .int 0, .int 0, .int 0, .int 0, .int 0, .int 0, .int 0, .int 0]
  | 9 => (own_S2 c1 c2)
  | _ => []
def OwnM (Z : State) (h : Heap) (mb : Addr) (D : Nat → Addr) (V : Nat → List Value) (lv : Value) (len : Int32) (lnr : Int64) (cnt : Int32) : Prop := Exa Z h mb "com/example/upright_play/uprightplay/event/Members" ∧ Fld Z h mb "com/example/upright_play/uprightplay/event/Members" "nameStarts" "[I" (.ref (D 0)) ∧ Fld Z h mb "com/example/upright_play/uprightplay/event/Members" "nameEnds" "[I" (.ref (D 1)) ∧ Fld Z h mb "com/example/upright_play/uprightplay/event/Members" "nameHashes" "[I" (.ref (D 2)) ∧ Fld Z h mb "com/example/upright_play/uprightplay/event/Members" "escapedNames" "[Ljava/lang/String;" (.ref (D 3)) ∧ Fld Z h mb "com/example/upright_play/uprightplay/event/Members" "types" "[Lcom/example/upright_play/uprightplay/event/Members$Type;" (.ref (D 4)) ∧ Fld Z h mb "com/example/upright_play/uprightplay/event/Members" "valueStarts" "[I" (.ref (D 5)) ∧ Fld Z h mb "com/example/upright_play/uprightplay/event/Members" "valueEnds" "[I" (.ref (D 6)) ∧ Fld Z h mb "com/example/upright_play/uprightplay/event/Members" "integerEnds" "[I" (.ref (D 7)) ∧ Fld Z h mb "com/example/upright_play/uprightplay/event/Members" "fractionEnds" "[I" (.ref (D 8)) ∧ Fld Z h mb "com/example/upright_play/uprightplay/event/Members" "slots" "[B" (.ref (D 9)) ∧ Fld Z h mb "com/example/upright_play/uprightplay/event/Members" "line" "[C" lv ∧ Fld Z h mb "com/example/upright_play/uprightplay/event/Members" "length" "I" (.int len) ∧ Fld Z h mb "com/example/upright_play/uprightplay/event/Members" "lineNumber" "J" (.long lnr) ∧ Fld Z h mb "com/example/upright_play/uprightplay/event/Members" "count" "I" (.int cnt) ∧ Fld Z h mb "com/example/upright_play/uprightplay/event/Members" "index" "Ljava/util/Map;" .null ∧ Fld Z h mb "com/example/upright_play/uprightplay/event/Members" "integerEnd" "I" (.int 0) ∧ Fld Z h mb "com/example/upright_play/uprightplay/event/Members" "fractionEnd" "I" (.int 0) ∧ OwnA Z h (D 0) .int (V 0) ∧ OwnA Z h (D 1) .int (V 1) ∧ OwnA Z h (D 2) .int (V 2) ∧ OwnO Z h (D 3) "java/lang/String" (V 3) ∧ OwnO Z h (D 4) "com/example/upright_play/uprightplay/event/Members$Type" (V 4) ∧ OwnA Z h (D 5) .int (V 5) ∧ OwnA Z h (D 6) .int (V 6) ∧ OwnA Z h (D 7) .int (V 7) ∧ OwnA Z h (D 8) .int (V 8) ∧ OwnA Z h (D 9) .byte (V 9)
def own_di (n0 : Nat) (mb li : Addr) (D : Nat → Addr) : Prop := n0 ≤ mb ∧ (∀ i, i < 10 → n0 ≤ D i) ∧ (mb :: li :: [D 0, D 1, D 2, D 3, D 4, D 5, D 6, D 7, D 8, D 9]).Nodup
theorem oP {n0 : Nat} {mb li : Addr} {D : Nat → Addr} (h : own_di n0 mb li D) (i j : Nat) {x y : Addr} (hx : (mb :: li :: [D 0, D 1, D 2, D 3, D 4, D 5, D 6, D 7, D 8, D 9])[i]? = some x := by rfl) (hy : (mb :: li :: [D 0, D 1, D 2, D 3, D 4, D 5, D 6, D 7, D 8, D 9])[j]? = some y := by rfl) (q : i ≠ j := by decide) : x ≠ y := own_pick h.2.2 i j hx hy q
section OwnMs
variable {Z : State} {h h' : Heap} {mb li : Addr} {D : Nat → Addr} {V : Nat → List Value} {lv : Value} {len : Int32} {lnr : Int64} {cnt : Int32} {n0 : Nat} {a0 : Array Value} {v : Value} {ws : List Addr}
theorem own_M_pos (hw : ∀ d ∈ tables_1, d.before a0 Z = true) (ND : (mb :: li :: [D 0, D 1, D 2, D 3, D 4, D 5, D 6, D 7, D 8, D 9]).Nodup) (M : OwnM Z h mb D V lv len lnr cnt) (W : Wr h h' mb (Jvm.RoadKit.slotOf Z "com/example/upright_play/uprightplay/event/Members" "pos" "I") v) : OwnM Z h' mb D V lv len lnr cnt := by
  obtain ⟨E, F0, F1, F2, F3, F4, F5, F6, F7, F8, F9, F10, F11, F12, F13, F14, F15, F16, A0, A1, A2, A3, A4, A5, A6, A7, A8, A9⟩ := M
  exact ⟨E.wr W, F0.other W (oS (Or.inl (gw hw 23 rfl)) (Or.inl (gw hw 59 rfl)) (.array .int) .int), F1.other W (oS (Or.inl (gw hw 25 rfl)) (Or.inl (gw hw 59 rfl)) (.array .int) .int), F2.other W (oS (Or.inl (gw hw 27 rfl)) (Or.inl (gw hw 59 rfl)) (.array .int) .int), F3.other W (oS (Or.inl (gw hw 31 rfl)) (Or.inl (gw hw 59 rfl)) (.array (.object "java/lang/String")) .int), F4.other W (oS (Or.inl (gw hw 35 rfl)) (Or.inl (gw hw 59 rfl)) (.array (.object "com/example/upright_play/uprightplay/event/Members$Type")) .int), F5.other W (oS (Or.inl (gw hw 37 rfl)) (Or.inl (gw hw 59 rfl)) (.array .int) .int), F6.other W (oS (Or.inl (gw hw 39 rfl)) (Or.inl (gw hw 59 rfl)) (.array .int) .int), F7.other W (oS (Or.inl (gw hw 41 rfl)) (Or.inl (gw hw 59 rfl)) (.array .int) .int), F8.other W (oS (Or.inl (gw hw 43 rfl)) (Or.inl (gw hw 59 rfl)) (.array .int) .int), F9.other W (oS (Or.inr (gw hw 46 rfl)) (Or.inl (gw hw 59 rfl)) (.array .byte) .int), F10.other W (oS (Or.inl (gw hw 53 rfl)) (Or.inl (gw hw 59 rfl)) (.array .char) .int), F11.other W (oS (Or.inl (gw hw 55 rfl)) (Or.inl (gw hw 59 rfl)) .int .int), F12.other W (oS (Or.inl (gw hw 57 rfl)) (Or.inl (gw hw 59 rfl)) .long .int), F13.other W (oS (Or.inl (gw hw 61 rfl)) (Or.inl (gw hw 59 rfl)) .int .int), F14.other W (oS (Or.inl (gw hw 63 rfl)) (Or.inl (gw hw 59 rfl)) (.object "java/util/Map") .int), F15.other W (oS (Or.inl (gw hw 162 rfl)) (Or.inl (gw hw 59 rfl)) .int .int), F16.other W (oS (Or.inl (gw hw 164 rfl)) (Or.inl (gw hw 59 rfl)) .int .int), A0.other W (own_pick ND 2 0 rfl rfl (by decide)), A1.other W (own_pick ND 3 0 rfl rfl (by decide)), A2.other W (own_pick ND 4 0 rfl rfl (by decide)), A3.other W (own_pick ND 5 0 rfl rfl (by decide)), A4.other W (own_pick ND 6 0 rfl rfl (by decide)), A5.other W (own_pick ND 7 0 rfl rfl (by decide)), A6.other W (own_pick ND 8 0 rfl rfl (by decide)), A7.other W (own_pick ND 9 0 rfl rfl (by decide)), A8.other W (own_pick ND 10 0 rfl rfl (by decide)), A9.other W (own_pick ND 11 0 rfl rfl (by decide))⟩
theorem own_M_keep (M : OwnM Z h mb D V lv len lnr cnt) (K : Keep h h' ws) (q : ∀ y ∈ (mb :: [D 0, D 1, D 2, D 3, D 4, D 5, D 6, D 7, D 8, D 9] : List Addr), y ∉ ws) : OwnM Z h' mb D V lv len lnr cnt := by
  obtain ⟨E, F0, F1, F2, F3, F4, F5, F6, F7, F8, F9, F10, F11, F12, F13, F14, F15, F16, A0, A1, A2, A3, A4, A5, A6, A7, A8, A9⟩ := M
  have q0 := q mb (List.mem_of_getElem? (i := 0) rfl)
  exact ⟨E.keep K, F0.keep K q0, F1.keep K q0, F2.keep K q0, F3.keep K q0, F4.keep K q0, F5.keep K q0, F6.keep K q0, F7.keep K q0, F8.keep K q0, F9.keep K q0, F10.keep K q0, F11.keep K q0, F12.keep K q0, F13.keep K q0, F14.keep K q0, F15.keep K q0, F16.keep K q0, A0.keep K (q (D 0) (List.mem_of_getElem? (i := 1) rfl)), A1.keep K (q (D 1) (List.mem_of_getElem? (i := 2) rfl)), A2.keep K (q (D 2) (List.mem_of_getElem? (i := 3) rfl)), A3.keep K (q (D 3) (List.mem_of_getElem? (i := 4) rfl)), A4.keep K (q (D 4) (List.mem_of_getElem? (i := 5) rfl)), A5.keep K (q (D 5) (List.mem_of_getElem? (i := 6) rfl)), A6.keep K (q (D 6) (List.mem_of_getElem? (i := 7) rfl)), A7.keep K (q (D 7) (List.mem_of_getElem? (i := 8) rfl)), A8.keep K (q (D 8) (List.mem_of_getElem? (i := 9) rfl)), A9.keep K (q (D 9) (List.mem_of_getElem? (i := 10) rfl))⟩
theorem own_M_ext (M : OwnM Z h mb D V lv len lnr cnt) (E' : Ext h h') : OwnM Z h' mb D V lv len lnr cnt := by
  obtain ⟨E, F0, F1, F2, F3, F4, F5, F6, F7, F8, F9, F10, F11, F12, F13, F14, F15, F16, A0, A1, A2, A3, A4, A5, A6, A7, A8, A9⟩ := M
  exact ⟨E.ext E', F0.ext E', F1.ext E', F2.ext E', F3.ext E', F4.ext E', F5.ext E', F6.ext E', F7.ext E', F8.ext E', F9.ext E', F10.ext E', F11.ext E', F12.ext E', F13.ext E', F14.ext E', F15.ext E', F16.ext E', A0.ext E', A1.ext E', A2.ext E', A3.ext E', A4.ext E', A5.ext E', A6.ext E', A7.ext E', A8.ext E', A9.ext E'⟩
theorem own_M_E (M : OwnM Z h mb D V lv len lnr cnt) : Exa Z h mb "com/example/upright_play/uprightplay/event/Members" := M.1
end OwnMs
theorem d7_0 : oD c_7 0 (.iconst 0, 1) := by decide +kernel
theorem d7_1 : oD c_7 1 (.istore_n 2, 1) := by decide +kernel
theorem d7_2 : oD c_7 2 (.aload_n 0, 1) := by decide +kernel
theorem d7_3 : oD c_7 3 (.arraylength, 1) := by decide +kernel
theorem d7_4 : oD c_7 4 (.istore_n 3, 1) := by decide +kernel
theorem d7_5 : oD c_7 5 (.iload_n 2, 1) := by decide +kernel
theorem d7_6 : oD c_7 6 (.iload_n 3, 1) := by decide +kernel
theorem d7_7 : oD c_7 7 (.if_icmp .ge 13, 3) := by decide +kernel
theorem d7_10 : oD c_7 10 (.aload_n 0, 1) := by decide +kernel
theorem d7_11 : oD c_7 11 (.iload_n 2, 1) := by decide +kernel
theorem d7_12 : oD c_7 12 (.iload_n 1, 1) := by decide +kernel
theorem d7_13 : oD c_7 13 (.bastore, 1) := by decide +kernel
theorem d7_14 : oD c_7 14 (.iinc 2 1, 3) := by decide +kernel
theorem d7_17 : oD c_7 17 (.goto (-12), 3) := by decide +kernel
theorem d7_20 : oD c_7 20 (.return_, 1) := by decide +kernel
theorem pn_7 : plainName "java/util/Arrays" = true := by first | (simp [plainName, overriddenIn]; done) | decide +kernel
theorem ef_rm_fill (m : MethodId) (x0 : Addr) (x1 : Int32) : entryFrame m #[.ref x0, .int x1] 4 = mkF m 0 #[oR x0, oI x1, oU, oU] [] := by first | (simp [entryFrame, mkF, argsToLocals, Value.category]; done) | rfl
def Q_rm_fill (Z : State) (ab : Addr) (h0 : Heap) (n0 : Nat) (v : Option Value) (h : Heap) (L : List Loc) : Prop := v = none ∧ Fr n0 L ∧ Keep h0 h [ab] ∧ OwnA Z h ab .byte own_Z32
set_option maxRecDepth 65536 in
set_option maxHeartbeats 40000000 in
theorem rm_fill (l : Launch) (Z : State) (a0 : Array Value) (hw : ∀ d ∈ tables_1, d.before a0 Z = true) (ws : List Jvm.Cond) (ab : Addr) (h0 : Heap) (n0 : Nat) (Zn : n0 ≤ h0.size) (A_9 : OwnA Z h0 ab .byte own_Z32) (o_9 : n0 ≤ ab) :
    MetFree l y_7 (head1 (Jvm.Cond.code y_7 c_7 4 none :: ws) (oQ 0 0 0 0)) (fun a U => a = #[.ref ab, .int 0] ∧ Z.Warmed39 U.vm ∧ U.heap = h0) (fun _ _ _ _ _ => True) (fun _ U o U' => ∃ v L, o = .returned v ∧ (Q_rm_fill Z ab h0 n0) v U'.heap L ∧ FrameEnd U o U' L (oQ 0 0 0 0).cells (oQ 0 0 0 0).slots) := by
  refine MetFree.of_bodySF (plainFor_of_name pn_7) hisR ?_
  intro p e s m args below meth c s₁ Bd hml0 hP hK
  obtain ⟨rfl, hZ, hh⟩ := hP
  have hx := Bd.exec
  have G := @oG _ _ Bd.bytes
  have hml : c.maxLocals = 4 := hml0
  have hown : s.vm.findClass "java/util/Arrays" = some m.cls := findClass_of_methodNamed Bd.named
  have hnm := (name_of_methodNamed Bd.named Bd.method).1
  have hlk : meth.locks = false := BodyLoose.notSynchronized Bd
  have X0 : Stand p l e (oQ 0 0 0 0) s m #[.ref ab, .int 0] below meth c s₁ [] 0 0 := Stand.of_body Bd
  have e0 : s₁.heap = h0 := by rw [← hh, Bd.state]; rfl
  have N := Fr.nil n0
  have K := Keep.refl h0 [ab]
  refine own_start (cl := (oQ 0 0 0 0).cells) (sl := (oQ 0 0 0 0).slots) (Q := (Q_rm_fill Z ab h0 n0)) (ef_rm_fill m ab ((0 : Int32))) ?_
  refine own_by (S' := (oM s₁ m 5 #[oR ab, oI 0, oI 0, oI 32] [])) (fun _ k => XS.iconst X0.here hx rfl (G d7_0) (XS.istoreN X0.here hx rfl (G d7_1) rfl (l' := #[oR ab, oI 0, oI 0, oU]) rfl (XS.aloadN X0.here hx rfl (G d7_2) rfl rfl (own_len X0 hx hZ e0 A_9 rfl (g := (mkF m 3 #[oR ab, oI 0, oI 0, oU] [.ref ab])) rfl rfl (G d7_3) _ (XS.istoreN X0.here hx rfl (G d7_4) rfl (l' := #[oR ab, oI 0, oI 0, oI 32]) rfl k))))) ?_
  have loop : ∀ (d i : Nat) (T : State) (h : Heap) (locs : List Loc), i + d = 32 → Stand p l e (oQ 0 0 0 0) s m #[.ref ab, .int 0] below meth c T locs 0 0 → T.heap = h → Fr n0 locs → Keep h0 h [ab] → n0 ≤ h.size → OwnA Z h ab .byte own_Z32 → own_fin p e below s (oQ 0 0 0 0).cells (oQ 0 0 0 0).slots (Q_rm_fill Z ab h0 n0) (oM T m 5 #[oR ab, oI 0, oI (Int32.ofNat i), oI 32] []) := by
    intro d
    induction d with
    | zero =>
      intro i T h locs hd XT eT N K Zn A_9
      obtain rfl : i = 32 := hd
      refine own_by (S' := (oM T m 20 #[oR ab, oI 0, oI 32, oI 32] [])) (fun _ k => XS.iloadN XT.here hx rfl (G d7_5) rfl (XS.iloadN XT.here hx rfl (G d7_6) rfl (XS.icmpYes XT.here hx rfl (pc0 := 7) (pc' := 20) rfl (G d7_7) rfl (flt ((by decide) : ¬ ((32 : Int32) < (32 : Int32)))).2.1 (by decide) (by decide) k))) ?_
      exact own_ret0 XT hx Bd.returns (G d7_20) hlk (by decide : 0 ≤ _) (by decide : 0 ≤ _) (by rw [eT]; exact ⟨rfl, N, K, A_9⟩)
    | succ d ih =>
      intro i T h locs hd XT eT N K Zn A_9
      refine own_by (S' := (oM T m 13 #[oR ab, oI 0, oI (Int32.ofNat i), oI 32] [.int 0, (.int (Int32.ofNat i)), .ref ab])) (fun _ k => XS.iloadN XT.here hx rfl (G d7_5) rfl (XS.iloadN XT.here hx rfl (G d7_6) rfl (XS.icmpNo XT.here hx rfl (G d7_7) rfl (tlt ((own_lt (n := 32) (by omega) (by decide)) : (Int32.ofNat i) < (32 : Int32))).2.1 (XS.aloadN XT.here hx rfl (G d7_10) rfl rfl (XS.iloadN XT.here hx rfl (G d7_11) rfl (XS.iloadN XT.here hx rfl (G d7_12) rfl k)))))) ?_
      obtain ⟨T163, h163, X163, e163, W163, st163⟩ := own_stB XT hx hZ eT A_9 (j := (Int32.ofNat i)) (own_nn (by omega)) (by rw [own_n32 (by omega), own_zlen]; omega) (g := (mkF m 13 #[oR ab, oI 0, oI (Int32.ofNat i), oI 32] [.int 0, (.int (Int32.ofNat i)), .ref ab])) rfl rfl (G d7_13)
      have N := Fr.snoc X163 N o_9
      have A_9 := A_9.set W163
      have Zn : n0 ≤ _ := Nat.le_trans Zn (Nat.le_of_eq W163.size.symm)
      have K := K.wr W163 (Or.inl (List.mem_of_getElem? (i := 0) rfl))
      have A_9 : OwnA Z h163 ab .byte own_Z32 := (by have q := A_9; rw [show (0 : Int32).toInt8.toInt32 = 0 by decide, own_zset] at q; exact q)
      refine own_by st163 ?_
      refine own_by (S' := (oM T163 m 17 #[oR ab, oI 0, .val (.int ((Int32.ofNat i) + (1 : Int32))), oI 32] [])) (fun _ k => XS.iinc X163.here hx rfl (G d7_14) rfl (l' := #[oR ab, oI 0, .val (.int ((Int32.ofNat i) + (1 : Int32))), oI 32]) rfl k) ?_
      rw [show ((Int32.ofNat i) + (1 : Int32)) = (Int32.ofNat (i + 1)) from own_one i]
      refine own_by (S' := (oM T163 m 5 #[oR ab, oI 0, oI (Int32.ofNat (i + 1)), oI 32] [])) (fun _ k => XS.goto X163.here hx rfl (pc0 := 17) (pc' := 5) rfl (G d7_17) (by decide) (by decide) k) ?_
      exact ih (i + 1) _ _ _ (by omega) X163 e163 N K Zn A_9
  exact loop 32 0 _ _ _ rfl X0 e0 N K Zn A_9
theorem d4_0 : oD c_4 0 (.aload_n 0, 1) := by decide +kernel
theorem d4_1 : oD c_4 1 (.invokespecial 3, 3) := by decide +kernel
theorem d4_4 : oD c_4 4 (.aload_n 0, 1) := by decide +kernel
theorem d4_5 : oD c_4 5 (.bipush 16, 2) := by decide +kernel
theorem d4_7 : oD c_4 7 (.newarray .int, 2) := by decide +kernel
theorem d4_9 : oD c_4 9 (.putfield 9, 3) := by decide +kernel
theorem d4_12 : oD c_4 12 (.aload_n 0, 1) := by decide +kernel
theorem d4_13 : oD c_4 13 (.bipush 16, 2) := by decide +kernel
theorem d4_15 : oD c_4 15 (.newarray .int, 2) := by decide +kernel
theorem d4_17 : oD c_4 17 (.putfield 13, 3) := by decide +kernel
theorem d4_20 : oD c_4 20 (.aload_n 0, 1) := by decide +kernel
theorem d4_21 : oD c_4 21 (.bipush 16, 2) := by decide +kernel
theorem d4_23 : oD c_4 23 (.newarray .int, 2) := by decide +kernel
theorem d4_25 : oD c_4 25 (.putfield 16, 3) := by decide +kernel
theorem d4_28 : oD c_4 28 (.aload_n 0, 1) := by decide +kernel
theorem d4_29 : oD c_4 29 (.bipush 16, 2) := by decide +kernel
theorem d4_31 : oD c_4 31 (.anewarray 19, 3) := by decide +kernel
theorem d4_34 : oD c_4 34 (.putfield 21, 3) := by decide +kernel
theorem d4_37 : oD c_4 37 (.aload_n 0, 1) := by decide +kernel
theorem d4_38 : oD c_4 38 (.bipush 16, 2) := by decide +kernel
theorem d4_40 : oD c_4 40 (.anewarray 25, 3) := by decide +kernel
theorem d4_43 : oD c_4 43 (.putfield 27, 3) := by decide +kernel
theorem d4_46 : oD c_4 46 (.aload_n 0, 1) := by decide +kernel
theorem d4_47 : oD c_4 47 (.bipush 16, 2) := by decide +kernel
theorem d4_49 : oD c_4 49 (.newarray .int, 2) := by decide +kernel
theorem d4_51 : oD c_4 51 (.putfield 31, 3) := by decide +kernel
theorem d4_54 : oD c_4 54 (.aload_n 0, 1) := by decide +kernel
theorem d4_55 : oD c_4 55 (.bipush 16, 2) := by decide +kernel
theorem d4_57 : oD c_4 57 (.newarray .int, 2) := by decide +kernel
theorem d4_59 : oD c_4 59 (.putfield 34, 3) := by decide +kernel
theorem d4_62 : oD c_4 62 (.aload_n 0, 1) := by decide +kernel
theorem d4_63 : oD c_4 63 (.bipush 16, 2) := by decide +kernel
theorem d4_65 : oD c_4 65 (.newarray .int, 2) := by decide +kernel
theorem d4_67 : oD c_4 67 (.putfield 37, 3) := by decide +kernel
theorem d4_70 : oD c_4 70 (.aload_n 0, 1) := by decide +kernel
theorem d4_71 : oD c_4 71 (.bipush 16, 2) := by decide +kernel
theorem d4_73 : oD c_4 73 (.newarray .int, 2) := by decide +kernel
theorem d4_75 : oD c_4 75 (.putfield 40, 3) := by decide +kernel
theorem d4_78 : oD c_4 78 (.aload_n 0, 1) := by decide +kernel
theorem d4_79 : oD c_4 79 (.bipush 32, 2) := by decide +kernel
theorem d4_81 : oD c_4 81 (.newarray .byte, 2) := by decide +kernel
theorem d4_83 : oD c_4 83 (.putfield 43, 3) := by decide +kernel
theorem d4_86 : oD c_4 86 (.return_, 1) := by decide +kernel
theorem pn_4 : plainName "com/example/upright_play/uprightplay/event/Members" = true := by first | (simp [plainName, overriddenIn]; done) | decide +kernel
theorem ef_rm_init (m : MethodId) (x0 : Addr) : entryFrame m #[.ref x0] 1 = mkF m 0 #[oR x0] [] := by first | (simp [entryFrame, mkF, argsToLocals, Value.category]; done) | rfl
def Q_rm_init (Z : State) (mb : Addr) (h0 : Heap) (n0 : Nat) (v : Option Value) (h : Heap) (L : List Loc) : Prop := ∃ D : Nat → Addr, v = none ∧ Fr n0 L ∧ Keep h0 h [mb] ∧ (∀ i, i < 10 → h0.size ≤ D i) ∧ ([D 0, D 1, D 2, D 3, D 4, D 5, D 6, D 7, D 8, D 9] : List Addr).Nodup ∧ OwnM Z h mb D own_V0 .null 0 0 0 ∧ Fld Z h mb "com/example/upright_play/uprightplay/event/Members" "pos" "I" (.int 0)
set_option maxRecDepth 65536 in
set_option maxHeartbeats 40000000 in
theorem rm_init (l : Launch) (Z : State) (a0 : Array Value) (hw : ∀ d ∈ tables_1, d.before a0 Z = true) (ws : List Jvm.Cond) (mb : Addr) (h0 : Heap) (n0 : Nat) (Zn : n0 ≤ h0.size) (E_mb : Exa Z h0 mb "com/example/upright_play/uprightplay/event/Members") (o_mb : n0 ≤ mb) (f_0 : Fld Z h0 mb "com/example/upright_play/uprightplay/event/Members" "nameStarts" "[I" .null) (f_1 : Fld Z h0 mb "com/example/upright_play/uprightplay/event/Members" "nameEnds" "[I" .null) (f_2 : Fld Z h0 mb "com/example/upright_play/uprightplay/event/Members" "nameHashes" "[I" .null) (f_3 : Fld Z h0 mb "com/example/upright_play/uprightplay/event/Members" "escapedNames" "[Ljava/lang/String;" .null) (f_4 : Fld Z h0 mb "com/example/upright_play/uprightplay/event/Members" "types" "[Lcom/example/upright_play/uprightplay/event/Members$Type;" .null) (f_5 : Fld Z h0 mb "com/example/upright_play/uprightplay/event/Members" "valueStarts" "[I" .null) (f_6 : Fld Z h0 mb "com/example/upright_play/uprightplay/event/Members" "valueEnds" "[I" .null) (f_7 : Fld Z h0 mb "com/example/upright_play/uprightplay/event/Members" "integerEnds" "[I" .null) (f_8 : Fld Z h0 mb "com/example/upright_play/uprightplay/event/Members" "fractionEnds" "[I" .null) (f_9 : Fld Z h0 mb "com/example/upright_play/uprightplay/event/Members" "slots" "[B" .null) (f_10 : Fld Z h0 mb "com/example/upright_play/uprightplay/event/Members" "line" "[C" .null) (f_11 : Fld Z h0 mb "com/example/upright_play/uprightplay/event/Members" "length" "I" (.int 0)) (f_12 : Fld Z h0 mb "com/example/upright_play/uprightplay/event/Members" "lineNumber" "J" (.long (0 : Int64))) (f_13 : Fld Z h0 mb "com/example/upright_play/uprightplay/event/Members" "count" "I" (.int 0)) (f_14 : Fld Z h0 mb "com/example/upright_play/uprightplay/event/Members" "index" "Ljava/util/Map;" .null) (f_15 : Fld Z h0 mb "com/example/upright_play/uprightplay/event/Members" "integerEnd" "I" (.int 0)) (f_16 : Fld Z h0 mb "com/example/upright_play/uprightplay/event/Members" "fractionEnd" "I" (.int 0)) (f_17 : Fld Z h0 mb "com/example/upright_play/uprightplay/event/Members" "pos" "I" (.int 0)) :
    MetFree l y_4 (head1 (Jvm.Cond.code y_4 c_4 1 none :: ws) (oQ 1 10 176 16)) (fun a U => a = #[.ref mb] ∧ Z.Warmed39 U.vm ∧ U.heap = h0) (fun _ _ _ _ _ => True) (fun _ U o U' => ∃ v L, o = .returned v ∧ (Q_rm_init Z mb h0 n0) v U'.heap L ∧ FrameEnd U o U' L (oQ 1 10 176 16).cells (oQ 1 10 176 16).slots) := by
  refine MetFree.of_bodySF (plainFor_of_name pn_4) hisR ?_
  intro p e s m args below meth c s₁ Bd hml0 hP hK
  obtain ⟨rfl, hZ, hh⟩ := hP
  have hx := Bd.exec
  have G := @oG _ _ Bd.bytes
  have hml : c.maxLocals = 1 := hml0
  have hown : s.vm.findClass "com/example/upright_play/uprightplay/event/Members" = some m.cls := findClass_of_methodNamed Bd.named
  have hnm := (name_of_methodNamed Bd.named Bd.method).1
  have hlk : meth.locks = false := BodyLoose.notSynchronized Bd
  have X0 : Stand p l e (oQ 1 10 176 16) s m #[.ref mb] below meth c s₁ [] 0 0 := Stand.of_body Bd
  have e0 : s₁.heap = h0 := by rw [← hh, Bd.state]; rfl
  have N := Fr.nil n0
  have K := Keep.refl h0 [mb]
  refine own_start (cl := (oQ 1 10 176 16).cells) (sl := (oQ 1 10 176 16).slots) (Q := (Q_rm_init Z mb h0 n0)) (ef_rm_init m mb) ?_
  refine own_by (S' := (oM s₁ m 1 #[oR mb] [.ref mb])) (fun _ k => XS.aloadN X0.here hx rfl (G d4_0) rfl rfl k) ?_
  obtain ⟨T164, X164, e164, st164⟩ := initO X0 hx hZ hown (gw hw 18 rfl) (gw hw 19 rfl) (gw hw 20 rfl) e0 (g := (mkF m 1 #[oR mb] [.ref mb])) rfl (by rw [hml]; rfl) rfl (G d4_1) (by decide) (W := 0) oZ (by decide)
  refine own_by st164 ?_
  refine own_by (S' := (oM T164 m 7 #[oR mb] [.int 16, .ref mb])) (fun _ k => XS.aloadN X164.here hx rfl (G d4_4) rfl rfl (XS.bipush X164.here hx rfl (G d4_5) k)) ?_
  obtain ⟨T165, h165, k165, X165, e165, E165, A165, st165⟩ := newP X164 hx hZ (gw hw 21 rfl) e164 (g := (mkF m 7 #[oR mb] [.int 16, .ref mb])) rfl (G d4_7) rfl (by decide) (cap := 16) (by decide) (by decide) (by decide : 0 + 1 ≤ _) (by decide : 0 + 16 ≤ _)
  obtain ⟨b165, g165⟩ : ∃ z, z = h0.size := ⟨_, rfl⟩
  rw [← g165] at A165 st165
  have o165 : n0 ≤ b165 := Nat.le_trans Zn (Nat.le_of_eq g165.symm)
  have z165 : h0.size ≤ b165 := Nat.le_trans K.1 (Nat.le_of_eq g165.symm)
  have ne_mb_b165 : mb ≠ b165 := fun q => Nat.ne_of_lt E_mb.lt (q.trans g165)
  have E_mb := E_mb.ext E165
  have f_0 := f_0.ext E165
  have f_1 := f_1.ext E165
  have f_2 := f_2.ext E165
  have f_3 := f_3.ext E165
  have f_4 := f_4.ext E165
  have f_5 := f_5.ext E165
  have f_6 := f_6.ext E165
  have f_7 := f_7.ext E165
  have f_8 := f_8.ext E165
  have f_9 := f_9.ext E165
  have f_10 := f_10.ext E165
  have f_11 := f_11.ext E165
  have f_12 := f_12.ext E165
  have f_13 := f_13.ext E165
  have f_14 := f_14.ext E165
  have f_15 := f_15.ext E165
  have f_16 := f_16.ext E165
  have f_17 := f_17.ext E165
  have Zn := Nat.le_trans Zn E165.1
  have K := K.ext E165
  have A_b165 : OwnA Z h165 b165 .int [.int 0, .int 0, .int 0, .int 0, .int 0, .int 0, .int 0, .int 0, .int 0, .int 0, .int 0, .int 0, .int 0, .int 0, .int 0, .int 0] := own_new A165 rfl
  refine own_by st165 ?_
  obtain ⟨T166, h166, X166, e166, W166, st166⟩ := putF X165 hx hZ hown (host := "") (Or.inl (gw hw 22 rfl)) Via.refl e165 f_0 E_mb (Or.inl (gw hw 23 rfl)) (gw hw 13 rfl) (ty := (.array .int)) (by decide) rfl rfl (g := (mkF m 9 #[oR mb] [.ref b165, .ref mb])) rfl rfl (G d4_9)
  have N := Fr.snoc X166 N o_mb
  have E_mb := E_mb.wr W166
  have f_0 := f_0.same W166
  have f_1 := oT f_1 W166 (Or.inl (gw hw 25 rfl)) (Or.inl (gw hw 23 rfl)) (.array .int) (.array .int)
  have f_2 := oT f_2 W166 (Or.inl (gw hw 27 rfl)) (Or.inl (gw hw 23 rfl)) (.array .int) (.array .int)
  have f_3 := oT f_3 W166 (Or.inl (gw hw 31 rfl)) (Or.inl (gw hw 23 rfl)) (.array (.object "java/lang/String")) (.array .int)
  have f_4 := oT f_4 W166 (Or.inl (gw hw 35 rfl)) (Or.inl (gw hw 23 rfl)) (.array (.object "com/example/upright_play/uprightplay/event/Members$Type")) (.array .int)
  have f_5 := oT f_5 W166 (Or.inl (gw hw 37 rfl)) (Or.inl (gw hw 23 rfl)) (.array .int) (.array .int)
  have f_6 := oT f_6 W166 (Or.inl (gw hw 39 rfl)) (Or.inl (gw hw 23 rfl)) (.array .int) (.array .int)
  have f_7 := oT f_7 W166 (Or.inl (gw hw 41 rfl)) (Or.inl (gw hw 23 rfl)) (.array .int) (.array .int)
  have f_8 := oT f_8 W166 (Or.inl (gw hw 43 rfl)) (Or.inl (gw hw 23 rfl)) (.array .int) (.array .int)
  have f_9 := oT f_9 W166 (Or.inr (gw hw 46 rfl)) (Or.inl (gw hw 23 rfl)) (.array .byte) (.array .int)
  have f_10 := oT f_10 W166 (Or.inl (gw hw 53 rfl)) (Or.inl (gw hw 23 rfl)) (.array .char) (.array .int)
  have f_11 := oT f_11 W166 (Or.inl (gw hw 55 rfl)) (Or.inl (gw hw 23 rfl)) .int (.array .int)
  have f_12 := oT f_12 W166 (Or.inl (gw hw 57 rfl)) (Or.inl (gw hw 23 rfl)) .long (.array .int)
  have f_13 := oT f_13 W166 (Or.inl (gw hw 61 rfl)) (Or.inl (gw hw 23 rfl)) .int (.array .int)
  have f_14 := oT f_14 W166 (Or.inl (gw hw 63 rfl)) (Or.inl (gw hw 23 rfl)) (.object "java/util/Map") (.array .int)
  have f_15 := oT f_15 W166 (Or.inl (gw hw 162 rfl)) (Or.inl (gw hw 23 rfl)) .int (.array .int)
  have f_16 := oT f_16 W166 (Or.inl (gw hw 164 rfl)) (Or.inl (gw hw 23 rfl)) .int (.array .int)
  have f_17 := oT f_17 W166 (Or.inl (gw hw 59 rfl)) (Or.inl (gw hw 23 rfl)) .int (.array .int)
  have A_b165 := A_b165.other W166 (Ne.symm ne_mb_b165)
  have Zn : n0 ≤ _ := Nat.le_trans Zn (Nat.le_of_eq W166.size.symm)
  have K := K.wr W166 (Or.inl (List.mem_of_getElem? (i := 0) rfl))
  refine own_by st166 ?_
  refine own_by (S' := (oM T166 m 15 #[oR mb] [.int 16, .ref mb])) (fun _ k => XS.aloadN X166.here hx rfl (G d4_12) rfl rfl (XS.bipush X166.here hx rfl (G d4_13) k)) ?_
  obtain ⟨T167, h167, k167, X167, e167, E167, A167, st167⟩ := newP X166 hx hZ (gw hw 21 rfl) e166 (g := (mkF m 15 #[oR mb] [.int 16, .ref mb])) rfl (G d4_15) rfl (by decide) (cap := 16) (by decide) (by decide) (by decide : 1 + 1 ≤ _) (by decide : 16 + 16 ≤ _)
  obtain ⟨b167, g167⟩ : ∃ z, z = h166.size := ⟨_, rfl⟩
  rw [← g167] at A167 st167
  have o167 : n0 ≤ b167 := Nat.le_trans Zn (Nat.le_of_eq g167.symm)
  have z167 : h0.size ≤ b167 := Nat.le_trans K.1 (Nat.le_of_eq g167.symm)
  have ne_mb_b167 : mb ≠ b167 := fun q => Nat.ne_of_lt E_mb.lt (q.trans g167)
  have ne_b165_b167 : b165 ≠ b167 := fun q => Nat.ne_of_lt A_b165.lt (q.trans g167)
  have E_mb := E_mb.ext E167
  have f_0 := f_0.ext E167
  have f_1 := f_1.ext E167
  have f_2 := f_2.ext E167
  have f_3 := f_3.ext E167
  have f_4 := f_4.ext E167
  have f_5 := f_5.ext E167
  have f_6 := f_6.ext E167
  have f_7 := f_7.ext E167
  have f_8 := f_8.ext E167
  have f_9 := f_9.ext E167
  have f_10 := f_10.ext E167
  have f_11 := f_11.ext E167
  have f_12 := f_12.ext E167
  have f_13 := f_13.ext E167
  have f_14 := f_14.ext E167
  have f_15 := f_15.ext E167
  have f_16 := f_16.ext E167
  have f_17 := f_17.ext E167
  have A_b165 := A_b165.ext E167
  have Zn := Nat.le_trans Zn E167.1
  have K := K.ext E167
  have A_b167 : OwnA Z h167 b167 .int [.int 0, .int 0, .int 0, .int 0, .int 0, .int 0, .int 0, .int 0, .int 0, .int 0, .int 0, .int 0, .int 0, .int 0, .int 0, .int 0] := own_new A167 rfl
  refine own_by st167 ?_
  obtain ⟨T168, h168, X168, e168, W168, st168⟩ := putF X167 hx hZ hown (host := "") (Or.inl (gw hw 24 rfl)) Via.refl e167 f_1 E_mb (Or.inl (gw hw 25 rfl)) (gw hw 13 rfl) (ty := (.array .int)) (by decide) rfl rfl (g := (mkF m 17 #[oR mb] [.ref b167, .ref mb])) rfl rfl (G d4_17)
  have N := Fr.snoc X168 N o_mb
  have E_mb := E_mb.wr W168
  have f_0 := oT f_0 W168 (Or.inl (gw hw 23 rfl)) (Or.inl (gw hw 25 rfl)) (.array .int) (.array .int)
  have f_1 := f_1.same W168
  have f_2 := oT f_2 W168 (Or.inl (gw hw 27 rfl)) (Or.inl (gw hw 25 rfl)) (.array .int) (.array .int)
  have f_3 := oT f_3 W168 (Or.inl (gw hw 31 rfl)) (Or.inl (gw hw 25 rfl)) (.array (.object "java/lang/String")) (.array .int)
  have f_4 := oT f_4 W168 (Or.inl (gw hw 35 rfl)) (Or.inl (gw hw 25 rfl)) (.array (.object "com/example/upright_play/uprightplay/event/Members$Type")) (.array .int)
  have f_5 := oT f_5 W168 (Or.inl (gw hw 37 rfl)) (Or.inl (gw hw 25 rfl)) (.array .int) (.array .int)
  have f_6 := oT f_6 W168 (Or.inl (gw hw 39 rfl)) (Or.inl (gw hw 25 rfl)) (.array .int) (.array .int)
  have f_7 := oT f_7 W168 (Or.inl (gw hw 41 rfl)) (Or.inl (gw hw 25 rfl)) (.array .int) (.array .int)
  have f_8 := oT f_8 W168 (Or.inl (gw hw 43 rfl)) (Or.inl (gw hw 25 rfl)) (.array .int) (.array .int)
  have f_9 := oT f_9 W168 (Or.inr (gw hw 46 rfl)) (Or.inl (gw hw 25 rfl)) (.array .byte) (.array .int)
  have f_10 := oT f_10 W168 (Or.inl (gw hw 53 rfl)) (Or.inl (gw hw 25 rfl)) (.array .char) (.array .int)
  have f_11 := oT f_11 W168 (Or.inl (gw hw 55 rfl)) (Or.inl (gw hw 25 rfl)) .int (.array .int)
  have f_12 := oT f_12 W168 (Or.inl (gw hw 57 rfl)) (Or.inl (gw hw 25 rfl)) .long (.array .int)
  have f_13 := oT f_13 W168 (Or.inl (gw hw 61 rfl)) (Or.inl (gw hw 25 rfl)) .int (.array .int)
  have f_14 := oT f_14 W168 (Or.inl (gw hw 63 rfl)) (Or.inl (gw hw 25 rfl)) (.object "java/util/Map") (.array .int)
  have f_15 := oT f_15 W168 (Or.inl (gw hw 162 rfl)) (Or.inl (gw hw 25 rfl)) .int (.array .int)
  have f_16 := oT f_16 W168 (Or.inl (gw hw 164 rfl)) (Or.inl (gw hw 25 rfl)) .int (.array .int)
  have f_17 := oT f_17 W168 (Or.inl (gw hw 59 rfl)) (Or.inl (gw hw 25 rfl)) .int (.array .int)
  have A_b165 := A_b165.other W168 (Ne.symm ne_mb_b165)
  have A_b167 := A_b167.other W168 (Ne.symm ne_mb_b167)
  have Zn : n0 ≤ _ := Nat.le_trans Zn (Nat.le_of_eq W168.size.symm)
  have K := K.wr W168 (Or.inl (List.mem_of_getElem? (i := 0) rfl))
  refine own_by st168 ?_
  refine own_by (S' := (oM T168 m 23 #[oR mb] [.int 16, .ref mb])) (fun _ k => XS.aloadN X168.here hx rfl (G d4_20) rfl rfl (XS.bipush X168.here hx rfl (G d4_21) k)) ?_
  obtain ⟨T169, h169, k169, X169, e169, E169, A169, st169⟩ := newP X168 hx hZ (gw hw 21 rfl) e168 (g := (mkF m 23 #[oR mb] [.int 16, .ref mb])) rfl (G d4_23) rfl (by decide) (cap := 16) (by decide) (by decide) (by decide : 2 + 1 ≤ _) (by decide : 32 + 16 ≤ _)
  obtain ⟨b169, g169⟩ : ∃ z, z = h168.size := ⟨_, rfl⟩
  rw [← g169] at A169 st169
  have o169 : n0 ≤ b169 := Nat.le_trans Zn (Nat.le_of_eq g169.symm)
  have z169 : h0.size ≤ b169 := Nat.le_trans K.1 (Nat.le_of_eq g169.symm)
  have ne_mb_b169 : mb ≠ b169 := fun q => Nat.ne_of_lt E_mb.lt (q.trans g169)
  have ne_b165_b169 : b165 ≠ b169 := fun q => Nat.ne_of_lt A_b165.lt (q.trans g169)
  have ne_b167_b169 : b167 ≠ b169 := fun q => Nat.ne_of_lt A_b167.lt (q.trans g169)
  have E_mb := E_mb.ext E169
  have f_0 := f_0.ext E169
  have f_1 := f_1.ext E169
  have f_2 := f_2.ext E169
  have f_3 := f_3.ext E169
  have f_4 := f_4.ext E169
  have f_5 := f_5.ext E169
  have f_6 := f_6.ext E169
  have f_7 := f_7.ext E169
  have f_8 := f_8.ext E169
  have f_9 := f_9.ext E169
  have f_10 := f_10.ext E169
  have f_11 := f_11.ext E169
  have f_12 := f_12.ext E169
  have f_13 := f_13.ext E169
  have f_14 := f_14.ext E169
  have f_15 := f_15.ext E169
  have f_16 := f_16.ext E169
  have f_17 := f_17.ext E169
  have A_b165 := A_b165.ext E169
  have A_b167 := A_b167.ext E169
  have Zn := Nat.le_trans Zn E169.1
  have K := K.ext E169
  have A_b169 : OwnA Z h169 b169 .int [.int 0, .int 0, .int 0, .int 0, .int 0, .int 0, .int 0, .int 0, .int 0, .int 0, .int 0, .int 0, .int 0, .int 0, .int 0, .int 0] := own_new A169 rfl
  refine own_by st169 ?_
  obtain ⟨T170, h170, X170, e170, W170, st170⟩ := putF X169 hx hZ hown (host := "") (Or.inl (gw hw 26 rfl)) Via.refl e169 f_2 E_mb (Or.inl (gw hw 27 rfl)) (gw hw 13 rfl) (ty := (.array .int)) (by decide) rfl rfl (g := (mkF m 25 #[oR mb] [.ref b169, .ref mb])) rfl rfl (G d4_25)
  have N := Fr.snoc X170 N o_mb
  have E_mb := E_mb.wr W170
  have f_0 := oT f_0 W170 (Or.inl (gw hw 23 rfl)) (Or.inl (gw hw 27 rfl)) (.array .int) (.array .int)
  have f_1 := oT f_1 W170 (Or.inl (gw hw 25 rfl)) (Or.inl (gw hw 27 rfl)) (.array .int) (.array .int)
  have f_2 := f_2.same W170
  have f_3 := oT f_3 W170 (Or.inl (gw hw 31 rfl)) (Or.inl (gw hw 27 rfl)) (.array (.object "java/lang/String")) (.array .int)
  have f_4 := oT f_4 W170 (Or.inl (gw hw 35 rfl)) (Or.inl (gw hw 27 rfl)) (.array (.object "com/example/upright_play/uprightplay/event/Members$Type")) (.array .int)
  have f_5 := oT f_5 W170 (Or.inl (gw hw 37 rfl)) (Or.inl (gw hw 27 rfl)) (.array .int) (.array .int)
  have f_6 := oT f_6 W170 (Or.inl (gw hw 39 rfl)) (Or.inl (gw hw 27 rfl)) (.array .int) (.array .int)
  have f_7 := oT f_7 W170 (Or.inl (gw hw 41 rfl)) (Or.inl (gw hw 27 rfl)) (.array .int) (.array .int)
  have f_8 := oT f_8 W170 (Or.inl (gw hw 43 rfl)) (Or.inl (gw hw 27 rfl)) (.array .int) (.array .int)
  have f_9 := oT f_9 W170 (Or.inr (gw hw 46 rfl)) (Or.inl (gw hw 27 rfl)) (.array .byte) (.array .int)
  have f_10 := oT f_10 W170 (Or.inl (gw hw 53 rfl)) (Or.inl (gw hw 27 rfl)) (.array .char) (.array .int)
  have f_11 := oT f_11 W170 (Or.inl (gw hw 55 rfl)) (Or.inl (gw hw 27 rfl)) .int (.array .int)
  have f_12 := oT f_12 W170 (Or.inl (gw hw 57 rfl)) (Or.inl (gw hw 27 rfl)) .long (.array .int)
  have f_13 := oT f_13 W170 (Or.inl (gw hw 61 rfl)) (Or.inl (gw hw 27 rfl)) .int (.array .int)
  have f_14 := oT f_14 W170 (Or.inl (gw hw 63 rfl)) (Or.inl (gw hw 27 rfl)) (.object "java/util/Map") (.array .int)
  have f_15 := oT f_15 W170 (Or.inl (gw hw 162 rfl)) (Or.inl (gw hw 27 rfl)) .int (.array .int)
  have f_16 := oT f_16 W170 (Or.inl (gw hw 164 rfl)) (Or.inl (gw hw 27 rfl)) .int (.array .int)
  have f_17 := oT f_17 W170 (Or.inl (gw hw 59 rfl)) (Or.inl (gw hw 27 rfl)) .int (.array .int)
  have A_b165 := A_b165.other W170 (Ne.symm ne_mb_b165)
  have A_b167 := A_b167.other W170 (Ne.symm ne_mb_b167)
  have A_b169 := A_b169.other W170 (Ne.symm ne_mb_b169)
  have Zn : n0 ≤ _ := Nat.le_trans Zn (Nat.le_of_eq W170.size.symm)
  have K := K.wr W170 (Or.inl (List.mem_of_getElem? (i := 0) rfl))
  refine own_by st170 ?_
  refine own_by (S' := (oM T170 m 31 #[oR mb] [.int 16, .ref mb])) (fun _ k => XS.aloadN X170.here hx rfl (G d4_28) rfl rfl (XS.bipush X170.here hx rfl (G d4_29) k)) ?_
  obtain ⟨T171, h171, k171, X171, e171, E171, A171, O171, st171⟩ := newR X170 hx hZ hown (gw hw 28 rfl) (gw hw 29 rfl) e170 (g := (mkF m 31 #[oR mb] [.int 16, .ref mb])) rfl (G d4_31) rfl (by decide) (cap := 16) (by decide) (by decide) (by decide : 3 + 1 ≤ _) (by decide : 48 + 16 ≤ _)
  obtain ⟨b171, g171⟩ : ∃ z, z = h170.size := ⟨_, rfl⟩
  rw [← g171] at A171 st171
  have o171 : n0 ≤ b171 := Nat.le_trans Zn (Nat.le_of_eq g171.symm)
  have z171 : h0.size ≤ b171 := Nat.le_trans K.1 (Nat.le_of_eq g171.symm)
  have ne_mb_b171 : mb ≠ b171 := fun q => Nat.ne_of_lt E_mb.lt (q.trans g171)
  have ne_b165_b171 : b165 ≠ b171 := fun q => Nat.ne_of_lt A_b165.lt (q.trans g171)
  have ne_b167_b171 : b167 ≠ b171 := fun q => Nat.ne_of_lt A_b167.lt (q.trans g171)
  have ne_b169_b171 : b169 ≠ b171 := fun q => Nat.ne_of_lt A_b169.lt (q.trans g171)
  have E_mb := E_mb.ext E171
  have f_0 := f_0.ext E171
  have f_1 := f_1.ext E171
  have f_2 := f_2.ext E171
  have f_3 := f_3.ext E171
  have f_4 := f_4.ext E171
  have f_5 := f_5.ext E171
  have f_6 := f_6.ext E171
  have f_7 := f_7.ext E171
  have f_8 := f_8.ext E171
  have f_9 := f_9.ext E171
  have f_10 := f_10.ext E171
  have f_11 := f_11.ext E171
  have f_12 := f_12.ext E171
  have f_13 := f_13.ext E171
  have f_14 := f_14.ext E171
  have f_15 := f_15.ext E171
  have f_16 := f_16.ext E171
  have f_17 := f_17.ext E171
  have A_b165 := A_b165.ext E171
  have A_b167 := A_b167.ext E171
  have A_b169 := A_b169.ext E171
  have Zn := Nat.le_trans Zn E171.1
  have K := K.ext E171
  have A_b171 : OwnO Z h171 b171 "java/lang/String" [.null, .null, .null, .null, .null, .null, .null, .null, .null, .null, .null, .null, .null, .null, .null, .null] := ⟨_, A171, rfl, O171⟩
  refine own_by st171 ?_
  obtain ⟨T172, h172, X172, e172, W172, st172⟩ := putF X171 hx hZ hown (host := "") (Or.inl (gw hw 30 rfl)) Via.refl e171 f_3 E_mb (Or.inl (gw hw 31 rfl)) (gw hw 13 rfl) (ty := (.array (.object "java/lang/String"))) (by decide) rfl rfl (g := (mkF m 34 #[oR mb] [.ref b171, .ref mb])) rfl rfl (G d4_34)
  have N := Fr.snoc X172 N o_mb
  have E_mb := E_mb.wr W172
  have f_0 := oT f_0 W172 (Or.inl (gw hw 23 rfl)) (Or.inl (gw hw 31 rfl)) (.array .int) (.array (.object "java/lang/String"))
  have f_1 := oT f_1 W172 (Or.inl (gw hw 25 rfl)) (Or.inl (gw hw 31 rfl)) (.array .int) (.array (.object "java/lang/String"))
  have f_2 := oT f_2 W172 (Or.inl (gw hw 27 rfl)) (Or.inl (gw hw 31 rfl)) (.array .int) (.array (.object "java/lang/String"))
  have f_3 := f_3.same W172
  have f_4 := oT f_4 W172 (Or.inl (gw hw 35 rfl)) (Or.inl (gw hw 31 rfl)) (.array (.object "com/example/upright_play/uprightplay/event/Members$Type")) (.array (.object "java/lang/String"))
  have f_5 := oT f_5 W172 (Or.inl (gw hw 37 rfl)) (Or.inl (gw hw 31 rfl)) (.array .int) (.array (.object "java/lang/String"))
  have f_6 := oT f_6 W172 (Or.inl (gw hw 39 rfl)) (Or.inl (gw hw 31 rfl)) (.array .int) (.array (.object "java/lang/String"))
  have f_7 := oT f_7 W172 (Or.inl (gw hw 41 rfl)) (Or.inl (gw hw 31 rfl)) (.array .int) (.array (.object "java/lang/String"))
  have f_8 := oT f_8 W172 (Or.inl (gw hw 43 rfl)) (Or.inl (gw hw 31 rfl)) (.array .int) (.array (.object "java/lang/String"))
  have f_9 := oT f_9 W172 (Or.inr (gw hw 46 rfl)) (Or.inl (gw hw 31 rfl)) (.array .byte) (.array (.object "java/lang/String"))
  have f_10 := oT f_10 W172 (Or.inl (gw hw 53 rfl)) (Or.inl (gw hw 31 rfl)) (.array .char) (.array (.object "java/lang/String"))
  have f_11 := oT f_11 W172 (Or.inl (gw hw 55 rfl)) (Or.inl (gw hw 31 rfl)) .int (.array (.object "java/lang/String"))
  have f_12 := oT f_12 W172 (Or.inl (gw hw 57 rfl)) (Or.inl (gw hw 31 rfl)) .long (.array (.object "java/lang/String"))
  have f_13 := oT f_13 W172 (Or.inl (gw hw 61 rfl)) (Or.inl (gw hw 31 rfl)) .int (.array (.object "java/lang/String"))
  have f_14 := oT f_14 W172 (Or.inl (gw hw 63 rfl)) (Or.inl (gw hw 31 rfl)) (.object "java/util/Map") (.array (.object "java/lang/String"))
  have f_15 := oT f_15 W172 (Or.inl (gw hw 162 rfl)) (Or.inl (gw hw 31 rfl)) .int (.array (.object "java/lang/String"))
  have f_16 := oT f_16 W172 (Or.inl (gw hw 164 rfl)) (Or.inl (gw hw 31 rfl)) .int (.array (.object "java/lang/String"))
  have f_17 := oT f_17 W172 (Or.inl (gw hw 59 rfl)) (Or.inl (gw hw 31 rfl)) .int (.array (.object "java/lang/String"))
  have A_b165 := A_b165.other W172 (Ne.symm ne_mb_b165)
  have A_b167 := A_b167.other W172 (Ne.symm ne_mb_b167)
  have A_b169 := A_b169.other W172 (Ne.symm ne_mb_b169)
  have A_b171 := A_b171.other W172 (Ne.symm ne_mb_b171)
  have Zn : n0 ≤ _ := Nat.le_trans Zn (Nat.le_of_eq W172.size.symm)
  have K := K.wr W172 (Or.inl (List.mem_of_getElem? (i := 0) rfl))
  refine own_by st172 ?_
  refine own_by (S' := (oM T172 m 40 #[oR mb] [.int 16, .ref mb])) (fun _ k => XS.aloadN X172.here hx rfl (G d4_37) rfl rfl (XS.bipush X172.here hx rfl (G d4_38) k)) ?_
  obtain ⟨T173, h173, k173, X173, e173, E173, A173, O173, st173⟩ := newR X172 hx hZ hown (gw hw 32 rfl) (gw hw 33 rfl) e172 (g := (mkF m 40 #[oR mb] [.int 16, .ref mb])) rfl (G d4_40) rfl (by decide) (cap := 16) (by decide) (by decide) (by decide : 4 + 1 ≤ _) (by decide : 64 + 16 ≤ _)
  obtain ⟨b173, g173⟩ : ∃ z, z = h172.size := ⟨_, rfl⟩
  rw [← g173] at A173 st173
  have o173 : n0 ≤ b173 := Nat.le_trans Zn (Nat.le_of_eq g173.symm)
  have z173 : h0.size ≤ b173 := Nat.le_trans K.1 (Nat.le_of_eq g173.symm)
  have ne_mb_b173 : mb ≠ b173 := fun q => Nat.ne_of_lt E_mb.lt (q.trans g173)
  have ne_b165_b173 : b165 ≠ b173 := fun q => Nat.ne_of_lt A_b165.lt (q.trans g173)
  have ne_b167_b173 : b167 ≠ b173 := fun q => Nat.ne_of_lt A_b167.lt (q.trans g173)
  have ne_b169_b173 : b169 ≠ b173 := fun q => Nat.ne_of_lt A_b169.lt (q.trans g173)
  have ne_b171_b173 : b171 ≠ b173 := fun q => Nat.ne_of_lt A_b171.lt (q.trans g173)
  have E_mb := E_mb.ext E173
  have f_0 := f_0.ext E173
  have f_1 := f_1.ext E173
  have f_2 := f_2.ext E173
  have f_3 := f_3.ext E173
  have f_4 := f_4.ext E173
  have f_5 := f_5.ext E173
  have f_6 := f_6.ext E173
  have f_7 := f_7.ext E173
  have f_8 := f_8.ext E173
  have f_9 := f_9.ext E173
  have f_10 := f_10.ext E173
  have f_11 := f_11.ext E173
  have f_12 := f_12.ext E173
  have f_13 := f_13.ext E173
  have f_14 := f_14.ext E173
  have f_15 := f_15.ext E173
  have f_16 := f_16.ext E173
  have f_17 := f_17.ext E173
  have A_b165 := A_b165.ext E173
  have A_b167 := A_b167.ext E173
  have A_b169 := A_b169.ext E173
  have A_b171 := A_b171.ext E173
  have Zn := Nat.le_trans Zn E173.1
  have K := K.ext E173
  have A_b173 : OwnO Z h173 b173 "com/example/upright_play/uprightplay/event/Members$Type" [.null, .null, .null, .null, .null, .null, .null, .null, .null, .null, .null, .null, .null, .null, .null, .null] := ⟨_, A173, rfl, O173⟩
  refine own_by st173 ?_
  obtain ⟨T174, h174, X174, e174, W174, st174⟩ := putF X173 hx hZ hown (host := "") (Or.inl (gw hw 34 rfl)) Via.refl e173 f_4 E_mb (Or.inl (gw hw 35 rfl)) (gw hw 13 rfl) (ty := (.array (.object "com/example/upright_play/uprightplay/event/Members$Type"))) (by decide) rfl rfl (g := (mkF m 43 #[oR mb] [.ref b173, .ref mb])) rfl rfl (G d4_43)
  have N := Fr.snoc X174 N o_mb
  have E_mb := E_mb.wr W174
  have f_0 := oT f_0 W174 (Or.inl (gw hw 23 rfl)) (Or.inl (gw hw 35 rfl)) (.array .int) (.array (.object "com/example/upright_play/uprightplay/event/Members$Type"))
  have f_1 := oT f_1 W174 (Or.inl (gw hw 25 rfl)) (Or.inl (gw hw 35 rfl)) (.array .int) (.array (.object "com/example/upright_play/uprightplay/event/Members$Type"))
  have f_2 := oT f_2 W174 (Or.inl (gw hw 27 rfl)) (Or.inl (gw hw 35 rfl)) (.array .int) (.array (.object "com/example/upright_play/uprightplay/event/Members$Type"))
  have f_3 := oT f_3 W174 (Or.inl (gw hw 31 rfl)) (Or.inl (gw hw 35 rfl)) (.array (.object "java/lang/String")) (.array (.object "com/example/upright_play/uprightplay/event/Members$Type"))
  have f_4 := f_4.same W174
  have f_5 := oT f_5 W174 (Or.inl (gw hw 37 rfl)) (Or.inl (gw hw 35 rfl)) (.array .int) (.array (.object "com/example/upright_play/uprightplay/event/Members$Type"))
  have f_6 := oT f_6 W174 (Or.inl (gw hw 39 rfl)) (Or.inl (gw hw 35 rfl)) (.array .int) (.array (.object "com/example/upright_play/uprightplay/event/Members$Type"))
  have f_7 := oT f_7 W174 (Or.inl (gw hw 41 rfl)) (Or.inl (gw hw 35 rfl)) (.array .int) (.array (.object "com/example/upright_play/uprightplay/event/Members$Type"))
  have f_8 := oT f_8 W174 (Or.inl (gw hw 43 rfl)) (Or.inl (gw hw 35 rfl)) (.array .int) (.array (.object "com/example/upright_play/uprightplay/event/Members$Type"))
  have f_9 := oT f_9 W174 (Or.inr (gw hw 46 rfl)) (Or.inl (gw hw 35 rfl)) (.array .byte) (.array (.object "com/example/upright_play/uprightplay/event/Members$Type"))
  have f_10 := oT f_10 W174 (Or.inl (gw hw 53 rfl)) (Or.inl (gw hw 35 rfl)) (.array .char) (.array (.object "com/example/upright_play/uprightplay/event/Members$Type"))
  have f_11 := oT f_11 W174 (Or.inl (gw hw 55 rfl)) (Or.inl (gw hw 35 rfl)) .int (.array (.object "com/example/upright_play/uprightplay/event/Members$Type"))
  have f_12 := oT f_12 W174 (Or.inl (gw hw 57 rfl)) (Or.inl (gw hw 35 rfl)) .long (.array (.object "com/example/upright_play/uprightplay/event/Members$Type"))
  have f_13 := oT f_13 W174 (Or.inl (gw hw 61 rfl)) (Or.inl (gw hw 35 rfl)) .int (.array (.object "com/example/upright_play/uprightplay/event/Members$Type"))
  have f_14 := oT f_14 W174 (Or.inl (gw hw 63 rfl)) (Or.inl (gw hw 35 rfl)) (.object "java/util/Map") (.array (.object "com/example/upright_play/uprightplay/event/Members$Type"))
  have f_15 := oT f_15 W174 (Or.inl (gw hw 162 rfl)) (Or.inl (gw hw 35 rfl)) .int (.array (.object "com/example/upright_play/uprightplay/event/Members$Type"))
  have f_16 := oT f_16 W174 (Or.inl (gw hw 164 rfl)) (Or.inl (gw hw 35 rfl)) .int (.array (.object "com/example/upright_play/uprightplay/event/Members$Type"))
  have f_17 := oT f_17 W174 (Or.inl (gw hw 59 rfl)) (Or.inl (gw hw 35 rfl)) .int (.array (.object "com/example/upright_play/uprightplay/event/Members$Type"))
  have A_b165 := A_b165.other W174 (Ne.symm ne_mb_b165)
  have A_b167 := A_b167.other W174 (Ne.symm ne_mb_b167)
  have A_b169 := A_b169.other W174 (Ne.symm ne_mb_b169)
  have A_b171 := A_b171.other W174 (Ne.symm ne_mb_b171)
  have A_b173 := A_b173.other W174 (Ne.symm ne_mb_b173)
  have Zn : n0 ≤ _ := Nat.le_trans Zn (Nat.le_of_eq W174.size.symm)
  have K := K.wr W174 (Or.inl (List.mem_of_getElem? (i := 0) rfl))
  refine own_by st174 ?_
  refine own_by (S' := (oM T174 m 49 #[oR mb] [.int 16, .ref mb])) (fun _ k => XS.aloadN X174.here hx rfl (G d4_46) rfl rfl (XS.bipush X174.here hx rfl (G d4_47) k)) ?_
  obtain ⟨T175, h175, k175, X175, e175, E175, A175, st175⟩ := newP X174 hx hZ (gw hw 21 rfl) e174 (g := (mkF m 49 #[oR mb] [.int 16, .ref mb])) rfl (G d4_49) rfl (by decide) (cap := 16) (by decide) (by decide) (by decide : 5 + 1 ≤ _) (by decide : 80 + 16 ≤ _)
  obtain ⟨b175, g175⟩ : ∃ z, z = h174.size := ⟨_, rfl⟩
  rw [← g175] at A175 st175
  have o175 : n0 ≤ b175 := Nat.le_trans Zn (Nat.le_of_eq g175.symm)
  have z175 : h0.size ≤ b175 := Nat.le_trans K.1 (Nat.le_of_eq g175.symm)
  have ne_mb_b175 : mb ≠ b175 := fun q => Nat.ne_of_lt E_mb.lt (q.trans g175)
  have ne_b165_b175 : b165 ≠ b175 := fun q => Nat.ne_of_lt A_b165.lt (q.trans g175)
  have ne_b167_b175 : b167 ≠ b175 := fun q => Nat.ne_of_lt A_b167.lt (q.trans g175)
  have ne_b169_b175 : b169 ≠ b175 := fun q => Nat.ne_of_lt A_b169.lt (q.trans g175)
  have ne_b171_b175 : b171 ≠ b175 := fun q => Nat.ne_of_lt A_b171.lt (q.trans g175)
  have ne_b173_b175 : b173 ≠ b175 := fun q => Nat.ne_of_lt A_b173.lt (q.trans g175)
  have E_mb := E_mb.ext E175
  have f_0 := f_0.ext E175
  have f_1 := f_1.ext E175
  have f_2 := f_2.ext E175
  have f_3 := f_3.ext E175
  have f_4 := f_4.ext E175
  have f_5 := f_5.ext E175
  have f_6 := f_6.ext E175
  have f_7 := f_7.ext E175
  have f_8 := f_8.ext E175
  have f_9 := f_9.ext E175
  have f_10 := f_10.ext E175
  have f_11 := f_11.ext E175
  have f_12 := f_12.ext E175
  have f_13 := f_13.ext E175
  have f_14 := f_14.ext E175
  have f_15 := f_15.ext E175
  have f_16 := f_16.ext E175
  have f_17 := f_17.ext E175
  have A_b165 := A_b165.ext E175
  have A_b167 := A_b167.ext E175
  have A_b169 := A_b169.ext E175
  have A_b171 := A_b171.ext E175
  have A_b173 := A_b173.ext E175
  have Zn := Nat.le_trans Zn E175.1
  have K := K.ext E175
  have A_b175 : OwnA Z h175 b175 .int [.int 0, .int 0, .int 0, .int 0, .int 0, .int 0, .int 0, .int 0, .int 0, .int 0, .int 0, .int 0, .int 0, .int 0, .int 0, .int 0] := own_new A175 rfl
  refine own_by st175 ?_
  obtain ⟨T176, h176, X176, e176, W176, st176⟩ := putF X175 hx hZ hown (host := "") (Or.inl (gw hw 36 rfl)) Via.refl e175 f_5 E_mb (Or.inl (gw hw 37 rfl)) (gw hw 13 rfl) (ty := (.array .int)) (by decide) rfl rfl (g := (mkF m 51 #[oR mb] [.ref b175, .ref mb])) rfl rfl (G d4_51)
  have N := Fr.snoc X176 N o_mb
  have E_mb := E_mb.wr W176
  have f_0 := oT f_0 W176 (Or.inl (gw hw 23 rfl)) (Or.inl (gw hw 37 rfl)) (.array .int) (.array .int)
  have f_1 := oT f_1 W176 (Or.inl (gw hw 25 rfl)) (Or.inl (gw hw 37 rfl)) (.array .int) (.array .int)
  have f_2 := oT f_2 W176 (Or.inl (gw hw 27 rfl)) (Or.inl (gw hw 37 rfl)) (.array .int) (.array .int)
  have f_3 := oT f_3 W176 (Or.inl (gw hw 31 rfl)) (Or.inl (gw hw 37 rfl)) (.array (.object "java/lang/String")) (.array .int)
  have f_4 := oT f_4 W176 (Or.inl (gw hw 35 rfl)) (Or.inl (gw hw 37 rfl)) (.array (.object "com/example/upright_play/uprightplay/event/Members$Type")) (.array .int)
  have f_5 := f_5.same W176
  have f_6 := oT f_6 W176 (Or.inl (gw hw 39 rfl)) (Or.inl (gw hw 37 rfl)) (.array .int) (.array .int)
  have f_7 := oT f_7 W176 (Or.inl (gw hw 41 rfl)) (Or.inl (gw hw 37 rfl)) (.array .int) (.array .int)
  have f_8 := oT f_8 W176 (Or.inl (gw hw 43 rfl)) (Or.inl (gw hw 37 rfl)) (.array .int) (.array .int)
  have f_9 := oT f_9 W176 (Or.inr (gw hw 46 rfl)) (Or.inl (gw hw 37 rfl)) (.array .byte) (.array .int)
  have f_10 := oT f_10 W176 (Or.inl (gw hw 53 rfl)) (Or.inl (gw hw 37 rfl)) (.array .char) (.array .int)
  have f_11 := oT f_11 W176 (Or.inl (gw hw 55 rfl)) (Or.inl (gw hw 37 rfl)) .int (.array .int)
  have f_12 := oT f_12 W176 (Or.inl (gw hw 57 rfl)) (Or.inl (gw hw 37 rfl)) .long (.array .int)
  have f_13 := oT f_13 W176 (Or.inl (gw hw 61 rfl)) (Or.inl (gw hw 37 rfl)) .int (.array .int)
  have f_14 := oT f_14 W176 (Or.inl (gw hw 63 rfl)) (Or.inl (gw hw 37 rfl)) (.object "java/util/Map") (.array .int)
  have f_15 := oT f_15 W176 (Or.inl (gw hw 162 rfl)) (Or.inl (gw hw 37 rfl)) .int (.array .int)
  have f_16 := oT f_16 W176 (Or.inl (gw hw 164 rfl)) (Or.inl (gw hw 37 rfl)) .int (.array .int)
  have f_17 := oT f_17 W176 (Or.inl (gw hw 59 rfl)) (Or.inl (gw hw 37 rfl)) .int (.array .int)
  have A_b165 := A_b165.other W176 (Ne.symm ne_mb_b165)
  have A_b167 := A_b167.other W176 (Ne.symm ne_mb_b167)
  have A_b169 := A_b169.other W176 (Ne.symm ne_mb_b169)
  have A_b171 := A_b171.other W176 (Ne.symm ne_mb_b171)
  have A_b173 := A_b173.other W176 (Ne.symm ne_mb_b173)
  have A_b175 := A_b175.other W176 (Ne.symm ne_mb_b175)
  have Zn : n0 ≤ _ := Nat.le_trans Zn (Nat.le_of_eq W176.size.symm)
  have K := K.wr W176 (Or.inl (List.mem_of_getElem? (i := 0) rfl))
  refine own_by st176 ?_
  refine own_by (S' := (oM T176 m 57 #[oR mb] [.int 16, .ref mb])) (fun _ k => XS.aloadN X176.here hx rfl (G d4_54) rfl rfl (XS.bipush X176.here hx rfl (G d4_55) k)) ?_
  obtain ⟨T177, h177, k177, X177, e177, E177, A177, st177⟩ := newP X176 hx hZ (gw hw 21 rfl) e176 (g := (mkF m 57 #[oR mb] [.int 16, .ref mb])) rfl (G d4_57) rfl (by decide) (cap := 16) (by decide) (by decide) (by decide : 6 + 1 ≤ _) (by decide : 96 + 16 ≤ _)
  obtain ⟨b177, g177⟩ : ∃ z, z = h176.size := ⟨_, rfl⟩
  rw [← g177] at A177 st177
  have o177 : n0 ≤ b177 := Nat.le_trans Zn (Nat.le_of_eq g177.symm)
  have z177 : h0.size ≤ b177 := Nat.le_trans K.1 (Nat.le_of_eq g177.symm)
  have ne_mb_b177 : mb ≠ b177 := fun q => Nat.ne_of_lt E_mb.lt (q.trans g177)
  have ne_b165_b177 : b165 ≠ b177 := fun q => Nat.ne_of_lt A_b165.lt (q.trans g177)
  have ne_b167_b177 : b167 ≠ b177 := fun q => Nat.ne_of_lt A_b167.lt (q.trans g177)
  have ne_b169_b177 : b169 ≠ b177 := fun q => Nat.ne_of_lt A_b169.lt (q.trans g177)
  have ne_b171_b177 : b171 ≠ b177 := fun q => Nat.ne_of_lt A_b171.lt (q.trans g177)
  have ne_b173_b177 : b173 ≠ b177 := fun q => Nat.ne_of_lt A_b173.lt (q.trans g177)
  have ne_b175_b177 : b175 ≠ b177 := fun q => Nat.ne_of_lt A_b175.lt (q.trans g177)
  have E_mb := E_mb.ext E177
  have f_0 := f_0.ext E177
  have f_1 := f_1.ext E177
  have f_2 := f_2.ext E177
  have f_3 := f_3.ext E177
  have f_4 := f_4.ext E177
  have f_5 := f_5.ext E177
  have f_6 := f_6.ext E177
  have f_7 := f_7.ext E177
  have f_8 := f_8.ext E177
  have f_9 := f_9.ext E177
  have f_10 := f_10.ext E177
  have f_11 := f_11.ext E177
  have f_12 := f_12.ext E177
  have f_13 := f_13.ext E177
  have f_14 := f_14.ext E177
  have f_15 := f_15.ext E177
  have f_16 := f_16.ext E177
  have f_17 := f_17.ext E177
  have A_b165 := A_b165.ext E177
  have A_b167 := A_b167.ext E177
  have A_b169 := A_b169.ext E177
  have A_b171 := A_b171.ext E177
  have A_b173 := A_b173.ext E177
  have A_b175 := A_b175.ext E177
  have Zn := Nat.le_trans Zn E177.1
  have K := K.ext E177
  have A_b177 : OwnA Z h177 b177 .int [.int 0, .int 0, .int 0, .int 0, .int 0, .int 0, .int 0, .int 0, .int 0, .int 0, .int 0, .int 0, .int 0, .int 0, .int 0, .int 0] := own_new A177 rfl
  refine own_by st177 ?_
  obtain ⟨T178, h178, X178, e178, W178, st178⟩ := putF X177 hx hZ hown (host := "") (Or.inl (gw hw 38 rfl)) Via.refl e177 f_6 E_mb (Or.inl (gw hw 39 rfl)) (gw hw 13 rfl) (ty := (.array .int)) (by decide) rfl rfl (g := (mkF m 59 #[oR mb] [.ref b177, .ref mb])) rfl rfl (G d4_59)
  have N := Fr.snoc X178 N o_mb
  have E_mb := E_mb.wr W178
  have f_0 := oT f_0 W178 (Or.inl (gw hw 23 rfl)) (Or.inl (gw hw 39 rfl)) (.array .int) (.array .int)
  have f_1 := oT f_1 W178 (Or.inl (gw hw 25 rfl)) (Or.inl (gw hw 39 rfl)) (.array .int) (.array .int)
  have f_2 := oT f_2 W178 (Or.inl (gw hw 27 rfl)) (Or.inl (gw hw 39 rfl)) (.array .int) (.array .int)
  have f_3 := oT f_3 W178 (Or.inl (gw hw 31 rfl)) (Or.inl (gw hw 39 rfl)) (.array (.object "java/lang/String")) (.array .int)
  have f_4 := oT f_4 W178 (Or.inl (gw hw 35 rfl)) (Or.inl (gw hw 39 rfl)) (.array (.object "com/example/upright_play/uprightplay/event/Members$Type")) (.array .int)
  have f_5 := oT f_5 W178 (Or.inl (gw hw 37 rfl)) (Or.inl (gw hw 39 rfl)) (.array .int) (.array .int)
  have f_6 := f_6.same W178
  have f_7 := oT f_7 W178 (Or.inl (gw hw 41 rfl)) (Or.inl (gw hw 39 rfl)) (.array .int) (.array .int)
  have f_8 := oT f_8 W178 (Or.inl (gw hw 43 rfl)) (Or.inl (gw hw 39 rfl)) (.array .int) (.array .int)
  have f_9 := oT f_9 W178 (Or.inr (gw hw 46 rfl)) (Or.inl (gw hw 39 rfl)) (.array .byte) (.array .int)
  have f_10 := oT f_10 W178 (Or.inl (gw hw 53 rfl)) (Or.inl (gw hw 39 rfl)) (.array .char) (.array .int)
  have f_11 := oT f_11 W178 (Or.inl (gw hw 55 rfl)) (Or.inl (gw hw 39 rfl)) .int (.array .int)
  have f_12 := oT f_12 W178 (Or.inl (gw hw 57 rfl)) (Or.inl (gw hw 39 rfl)) .long (.array .int)
  have f_13 := oT f_13 W178 (Or.inl (gw hw 61 rfl)) (Or.inl (gw hw 39 rfl)) .int (.array .int)
  have f_14 := oT f_14 W178 (Or.inl (gw hw 63 rfl)) (Or.inl (gw hw 39 rfl)) (.object "java/util/Map") (.array .int)
  have f_15 := oT f_15 W178 (Or.inl (gw hw 162 rfl)) (Or.inl (gw hw 39 rfl)) .int (.array .int)
  have f_16 := oT f_16 W178 (Or.inl (gw hw 164 rfl)) (Or.inl (gw hw 39 rfl)) .int (.array .int)
  have f_17 := oT f_17 W178 (Or.inl (gw hw 59 rfl)) (Or.inl (gw hw 39 rfl)) .int (.array .int)
  have A_b165 := A_b165.other W178 (Ne.symm ne_mb_b165)
  have A_b167 := A_b167.other W178 (Ne.symm ne_mb_b167)
  have A_b169 := A_b169.other W178 (Ne.symm ne_mb_b169)
  have A_b171 := A_b171.other W178 (Ne.symm ne_mb_b171)
  have A_b173 := A_b173.other W178 (Ne.symm ne_mb_b173)
  have A_b175 := A_b175.other W178 (Ne.symm ne_mb_b175)
  have A_b177 := A_b177.other W178 (Ne.symm ne_mb_b177)
  have Zn : n0 ≤ _ := Nat.le_trans Zn (Nat.le_of_eq W178.size.symm)
  have K := K.wr W178 (Or.inl (List.mem_of_getElem? (i := 0) rfl))
  refine own_by st178 ?_
  refine own_by (S' := (oM T178 m 65 #[oR mb] [.int 16, .ref mb])) (fun _ k => XS.aloadN X178.here hx rfl (G d4_62) rfl rfl (XS.bipush X178.here hx rfl (G d4_63) k)) ?_
  obtain ⟨T179, h179, k179, X179, e179, E179, A179, st179⟩ := newP X178 hx hZ (gw hw 21 rfl) e178 (g := (mkF m 65 #[oR mb] [.int 16, .ref mb])) rfl (G d4_65) rfl (by decide) (cap := 16) (by decide) (by decide) (by decide : 7 + 1 ≤ _) (by decide : 112 + 16 ≤ _)
  obtain ⟨b179, g179⟩ : ∃ z, z = h178.size := ⟨_, rfl⟩
  rw [← g179] at A179 st179
  have o179 : n0 ≤ b179 := Nat.le_trans Zn (Nat.le_of_eq g179.symm)
  have z179 : h0.size ≤ b179 := Nat.le_trans K.1 (Nat.le_of_eq g179.symm)
  have ne_mb_b179 : mb ≠ b179 := fun q => Nat.ne_of_lt E_mb.lt (q.trans g179)
  have ne_b165_b179 : b165 ≠ b179 := fun q => Nat.ne_of_lt A_b165.lt (q.trans g179)
  have ne_b167_b179 : b167 ≠ b179 := fun q => Nat.ne_of_lt A_b167.lt (q.trans g179)
  have ne_b169_b179 : b169 ≠ b179 := fun q => Nat.ne_of_lt A_b169.lt (q.trans g179)
  have ne_b171_b179 : b171 ≠ b179 := fun q => Nat.ne_of_lt A_b171.lt (q.trans g179)
  have ne_b173_b179 : b173 ≠ b179 := fun q => Nat.ne_of_lt A_b173.lt (q.trans g179)
  have ne_b175_b179 : b175 ≠ b179 := fun q => Nat.ne_of_lt A_b175.lt (q.trans g179)
  have ne_b177_b179 : b177 ≠ b179 := fun q => Nat.ne_of_lt A_b177.lt (q.trans g179)
  have E_mb := E_mb.ext E179
  have f_0 := f_0.ext E179
  have f_1 := f_1.ext E179
  have f_2 := f_2.ext E179
  have f_3 := f_3.ext E179
  have f_4 := f_4.ext E179
  have f_5 := f_5.ext E179
  have f_6 := f_6.ext E179
  have f_7 := f_7.ext E179
  have f_8 := f_8.ext E179
  have f_9 := f_9.ext E179
  have f_10 := f_10.ext E179
  have f_11 := f_11.ext E179
  have f_12 := f_12.ext E179
  have f_13 := f_13.ext E179
  have f_14 := f_14.ext E179
  have f_15 := f_15.ext E179
  have f_16 := f_16.ext E179
  have f_17 := f_17.ext E179
  have A_b165 := A_b165.ext E179
  have A_b167 := A_b167.ext E179
  have A_b169 := A_b169.ext E179
  have A_b171 := A_b171.ext E179
  have A_b173 := A_b173.ext E179
  have A_b175 := A_b175.ext E179
  have A_b177 := A_b177.ext E179
  have Zn := Nat.le_trans Zn E179.1
  have K := K.ext E179
  have A_b179 : OwnA Z h179 b179 .int [.int 0, .int 0, .int 0, .int 0, .int 0, .int 0, .int 0, .int 0, .int 0, .int 0, .int 0, .int 0, .int 0, .int 0, .int 0, .int 0] := own_new A179 rfl
  refine own_by st179 ?_
  obtain ⟨T180, h180, X180, e180, W180, st180⟩ := putF X179 hx hZ hown (host := "") (Or.inl (gw hw 40 rfl)) Via.refl e179 f_7 E_mb (Or.inl (gw hw 41 rfl)) (gw hw 13 rfl) (ty := (.array .int)) (by decide) rfl rfl (g := (mkF m 67 #[oR mb] [.ref b179, .ref mb])) rfl rfl (G d4_67)
  have N := Fr.snoc X180 N o_mb
  have E_mb := E_mb.wr W180
  have f_0 := oT f_0 W180 (Or.inl (gw hw 23 rfl)) (Or.inl (gw hw 41 rfl)) (.array .int) (.array .int)
  have f_1 := oT f_1 W180 (Or.inl (gw hw 25 rfl)) (Or.inl (gw hw 41 rfl)) (.array .int) (.array .int)
  have f_2 := oT f_2 W180 (Or.inl (gw hw 27 rfl)) (Or.inl (gw hw 41 rfl)) (.array .int) (.array .int)
  have f_3 := oT f_3 W180 (Or.inl (gw hw 31 rfl)) (Or.inl (gw hw 41 rfl)) (.array (.object "java/lang/String")) (.array .int)
  have f_4 := oT f_4 W180 (Or.inl (gw hw 35 rfl)) (Or.inl (gw hw 41 rfl)) (.array (.object "com/example/upright_play/uprightplay/event/Members$Type")) (.array .int)
  have f_5 := oT f_5 W180 (Or.inl (gw hw 37 rfl)) (Or.inl (gw hw 41 rfl)) (.array .int) (.array .int)
  have f_6 := oT f_6 W180 (Or.inl (gw hw 39 rfl)) (Or.inl (gw hw 41 rfl)) (.array .int) (.array .int)
  have f_7 := f_7.same W180
  have f_8 := oT f_8 W180 (Or.inl (gw hw 43 rfl)) (Or.inl (gw hw 41 rfl)) (.array .int) (.array .int)
  have f_9 := oT f_9 W180 (Or.inr (gw hw 46 rfl)) (Or.inl (gw hw 41 rfl)) (.array .byte) (.array .int)
  have f_10 := oT f_10 W180 (Or.inl (gw hw 53 rfl)) (Or.inl (gw hw 41 rfl)) (.array .char) (.array .int)
  have f_11 := oT f_11 W180 (Or.inl (gw hw 55 rfl)) (Or.inl (gw hw 41 rfl)) .int (.array .int)
  have f_12 := oT f_12 W180 (Or.inl (gw hw 57 rfl)) (Or.inl (gw hw 41 rfl)) .long (.array .int)
  have f_13 := oT f_13 W180 (Or.inl (gw hw 61 rfl)) (Or.inl (gw hw 41 rfl)) .int (.array .int)
  have f_14 := oT f_14 W180 (Or.inl (gw hw 63 rfl)) (Or.inl (gw hw 41 rfl)) (.object "java/util/Map") (.array .int)
  have f_15 := oT f_15 W180 (Or.inl (gw hw 162 rfl)) (Or.inl (gw hw 41 rfl)) .int (.array .int)
  have f_16 := oT f_16 W180 (Or.inl (gw hw 164 rfl)) (Or.inl (gw hw 41 rfl)) .int (.array .int)
  have f_17 := oT f_17 W180 (Or.inl (gw hw 59 rfl)) (Or.inl (gw hw 41 rfl)) .int (.array .int)
  have A_b165 := A_b165.other W180 (Ne.symm ne_mb_b165)
  have A_b167 := A_b167.other W180 (Ne.symm ne_mb_b167)
  have A_b169 := A_b169.other W180 (Ne.symm ne_mb_b169)
  have A_b171 := A_b171.other W180 (Ne.symm ne_mb_b171)
  have A_b173 := A_b173.other W180 (Ne.symm ne_mb_b173)
  have A_b175 := A_b175.other W180 (Ne.symm ne_mb_b175)
  have A_b177 := A_b177.other W180 (Ne.symm ne_mb_b177)
  have A_b179 := A_b179.other W180 (Ne.symm ne_mb_b179)
  have Zn : n0 ≤ _ := Nat.le_trans Zn (Nat.le_of_eq W180.size.symm)
  have K := K.wr W180 (Or.inl (List.mem_of_getElem? (i := 0) rfl))
  refine own_by st180 ?_
  refine own_by (S' := (oM T180 m 73 #[oR mb] [.int 16, .ref mb])) (fun _ k => XS.aloadN X180.here hx rfl (G d4_70) rfl rfl (XS.bipush X180.here hx rfl (G d4_71) k)) ?_
  obtain ⟨T181, h181, k181, X181, e181, E181, A181, st181⟩ := newP X180 hx hZ (gw hw 21 rfl) e180 (g := (mkF m 73 #[oR mb] [.int 16, .ref mb])) rfl (G d4_73) rfl (by decide) (cap := 16) (by decide) (by decide) (by decide : 8 + 1 ≤ _) (by decide : 128 + 16 ≤ _)
  obtain ⟨b181, g181⟩ : ∃ z, z = h180.size := ⟨_, rfl⟩
  rw [← g181] at A181 st181
  have o181 : n0 ≤ b181 := Nat.le_trans Zn (Nat.le_of_eq g181.symm)
  have z181 : h0.size ≤ b181 := Nat.le_trans K.1 (Nat.le_of_eq g181.symm)
  have ne_mb_b181 : mb ≠ b181 := fun q => Nat.ne_of_lt E_mb.lt (q.trans g181)
  have ne_b165_b181 : b165 ≠ b181 := fun q => Nat.ne_of_lt A_b165.lt (q.trans g181)
  have ne_b167_b181 : b167 ≠ b181 := fun q => Nat.ne_of_lt A_b167.lt (q.trans g181)
  have ne_b169_b181 : b169 ≠ b181 := fun q => Nat.ne_of_lt A_b169.lt (q.trans g181)
  have ne_b171_b181 : b171 ≠ b181 := fun q => Nat.ne_of_lt A_b171.lt (q.trans g181)
  have ne_b173_b181 : b173 ≠ b181 := fun q => Nat.ne_of_lt A_b173.lt (q.trans g181)
  have ne_b175_b181 : b175 ≠ b181 := fun q => Nat.ne_of_lt A_b175.lt (q.trans g181)
  have ne_b177_b181 : b177 ≠ b181 := fun q => Nat.ne_of_lt A_b177.lt (q.trans g181)
  have ne_b179_b181 : b179 ≠ b181 := fun q => Nat.ne_of_lt A_b179.lt (q.trans g181)
  have E_mb := E_mb.ext E181
  have f_0 := f_0.ext E181
  have f_1 := f_1.ext E181
  have f_2 := f_2.ext E181
  have f_3 := f_3.ext E181
  have f_4 := f_4.ext E181
  have f_5 := f_5.ext E181
  have f_6 := f_6.ext E181
  have f_7 := f_7.ext E181
  have f_8 := f_8.ext E181
  have f_9 := f_9.ext E181
  have f_10 := f_10.ext E181
  have f_11 := f_11.ext E181
  have f_12 := f_12.ext E181
  have f_13 := f_13.ext E181
  have f_14 := f_14.ext E181
  have f_15 := f_15.ext E181
  have f_16 := f_16.ext E181
  have f_17 := f_17.ext E181
  have A_b165 := A_b165.ext E181
  have A_b167 := A_b167.ext E181
  have A_b169 := A_b169.ext E181
  have A_b171 := A_b171.ext E181
  have A_b173 := A_b173.ext E181
  have A_b175 := A_b175.ext E181
  have A_b177 := A_b177.ext E181
  have A_b179 := A_b179.ext E181
  have Zn := Nat.le_trans Zn E181.1
  have K := K.ext E181
  have A_b181 : OwnA Z h181 b181 .int [.int 0, .int 0, .int 0, .int 0, .int 0, .int 0, .int 0, .int 0, .int 0, .int 0, .int 0, .int 0, .int 0, .int 0, .int 0, .int 0] := own_new A181 rfl
  refine own_by st181 ?_
  obtain ⟨T182, h182, X182, e182, W182, st182⟩ := putF X181 hx hZ hown (host := "") (Or.inl (gw hw 42 rfl)) Via.refl e181 f_8 E_mb (Or.inl (gw hw 43 rfl)) (gw hw 13 rfl) (ty := (.array .int)) (by decide) rfl rfl (g := (mkF m 75 #[oR mb] [.ref b181, .ref mb])) rfl rfl (G d4_75)
  have N := Fr.snoc X182 N o_mb
  have E_mb := E_mb.wr W182
  have f_0 := oT f_0 W182 (Or.inl (gw hw 23 rfl)) (Or.inl (gw hw 43 rfl)) (.array .int) (.array .int)
  have f_1 := oT f_1 W182 (Or.inl (gw hw 25 rfl)) (Or.inl (gw hw 43 rfl)) (.array .int) (.array .int)
  have f_2 := oT f_2 W182 (Or.inl (gw hw 27 rfl)) (Or.inl (gw hw 43 rfl)) (.array .int) (.array .int)
  have f_3 := oT f_3 W182 (Or.inl (gw hw 31 rfl)) (Or.inl (gw hw 43 rfl)) (.array (.object "java/lang/String")) (.array .int)
  have f_4 := oT f_4 W182 (Or.inl (gw hw 35 rfl)) (Or.inl (gw hw 43 rfl)) (.array (.object "com/example/upright_play/uprightplay/event/Members$Type")) (.array .int)
  have f_5 := oT f_5 W182 (Or.inl (gw hw 37 rfl)) (Or.inl (gw hw 43 rfl)) (.array .int) (.array .int)
  have f_6 := oT f_6 W182 (Or.inl (gw hw 39 rfl)) (Or.inl (gw hw 43 rfl)) (.array .int) (.array .int)
  have f_7 := oT f_7 W182 (Or.inl (gw hw 41 rfl)) (Or.inl (gw hw 43 rfl)) (.array .int) (.array .int)
  have f_8 := f_8.same W182
  have f_9 := oT f_9 W182 (Or.inr (gw hw 46 rfl)) (Or.inl (gw hw 43 rfl)) (.array .byte) (.array .int)
  have f_10 := oT f_10 W182 (Or.inl (gw hw 53 rfl)) (Or.inl (gw hw 43 rfl)) (.array .char) (.array .int)
  have f_11 := oT f_11 W182 (Or.inl (gw hw 55 rfl)) (Or.inl (gw hw 43 rfl)) .int (.array .int)
  have f_12 := oT f_12 W182 (Or.inl (gw hw 57 rfl)) (Or.inl (gw hw 43 rfl)) .long (.array .int)
  have f_13 := oT f_13 W182 (Or.inl (gw hw 61 rfl)) (Or.inl (gw hw 43 rfl)) .int (.array .int)
  have f_14 := oT f_14 W182 (Or.inl (gw hw 63 rfl)) (Or.inl (gw hw 43 rfl)) (.object "java/util/Map") (.array .int)
  have f_15 := oT f_15 W182 (Or.inl (gw hw 162 rfl)) (Or.inl (gw hw 43 rfl)) .int (.array .int)
  have f_16 := oT f_16 W182 (Or.inl (gw hw 164 rfl)) (Or.inl (gw hw 43 rfl)) .int (.array .int)
  have f_17 := oT f_17 W182 (Or.inl (gw hw 59 rfl)) (Or.inl (gw hw 43 rfl)) .int (.array .int)
  have A_b165 := A_b165.other W182 (Ne.symm ne_mb_b165)
  have A_b167 := A_b167.other W182 (Ne.symm ne_mb_b167)
  have A_b169 := A_b169.other W182 (Ne.symm ne_mb_b169)
  have A_b171 := A_b171.other W182 (Ne.symm ne_mb_b171)
  have A_b173 := A_b173.other W182 (Ne.symm ne_mb_b173)
  have A_b175 := A_b175.other W182 (Ne.symm ne_mb_b175)
  have A_b177 := A_b177.other W182 (Ne.symm ne_mb_b177)
  have A_b179 := A_b179.other W182 (Ne.symm ne_mb_b179)
  have A_b181 := A_b181.other W182 (Ne.symm ne_mb_b181)
  have Zn : n0 ≤ _ := Nat.le_trans Zn (Nat.le_of_eq W182.size.symm)
  have K := K.wr W182 (Or.inl (List.mem_of_getElem? (i := 0) rfl))
  refine own_by st182 ?_
  refine own_by (S' := (oM T182 m 81 #[oR mb] [.int 32, .ref mb])) (fun _ k => XS.aloadN X182.here hx rfl (G d4_78) rfl rfl (XS.bipush X182.here hx rfl (G d4_79) k)) ?_
  obtain ⟨T183, h183, k183, X183, e183, E183, A183, st183⟩ := newP X182 hx hZ (gw hw 44 rfl) e182 (g := (mkF m 81 #[oR mb] [.int 32, .ref mb])) rfl (G d4_81) rfl (by decide) (cap := 32) (by decide) (by decide) (by decide : 9 + 1 ≤ _) (by decide : 144 + 32 ≤ _)
  obtain ⟨b183, g183⟩ : ∃ z, z = h182.size := ⟨_, rfl⟩
  rw [← g183] at A183 st183
  have o183 : n0 ≤ b183 := Nat.le_trans Zn (Nat.le_of_eq g183.symm)
  have z183 : h0.size ≤ b183 := Nat.le_trans K.1 (Nat.le_of_eq g183.symm)
  have ne_mb_b183 : mb ≠ b183 := fun q => Nat.ne_of_lt E_mb.lt (q.trans g183)
  have ne_b165_b183 : b165 ≠ b183 := fun q => Nat.ne_of_lt A_b165.lt (q.trans g183)
  have ne_b167_b183 : b167 ≠ b183 := fun q => Nat.ne_of_lt A_b167.lt (q.trans g183)
  have ne_b169_b183 : b169 ≠ b183 := fun q => Nat.ne_of_lt A_b169.lt (q.trans g183)
  have ne_b171_b183 : b171 ≠ b183 := fun q => Nat.ne_of_lt A_b171.lt (q.trans g183)
  have ne_b173_b183 : b173 ≠ b183 := fun q => Nat.ne_of_lt A_b173.lt (q.trans g183)
  have ne_b175_b183 : b175 ≠ b183 := fun q => Nat.ne_of_lt A_b175.lt (q.trans g183)
  have ne_b177_b183 : b177 ≠ b183 := fun q => Nat.ne_of_lt A_b177.lt (q.trans g183)
  have ne_b179_b183 : b179 ≠ b183 := fun q => Nat.ne_of_lt A_b179.lt (q.trans g183)
  have ne_b181_b183 : b181 ≠ b183 := fun q => Nat.ne_of_lt A_b181.lt (q.trans g183)
  have E_mb := E_mb.ext E183
  have f_0 := f_0.ext E183
  have f_1 := f_1.ext E183
  have f_2 := f_2.ext E183
  have f_3 := f_3.ext E183
  have f_4 := f_4.ext E183
  have f_5 := f_5.ext E183
  have f_6 := f_6.ext E183
  have f_7 := f_7.ext E183
  have f_8 := f_8.ext E183
  have f_9 := f_9.ext E183
  have f_10 := f_10.ext E183
  have f_11 := f_11.ext E183
  have f_12 := f_12.ext E183
  have f_13 := f_13.ext E183
  have f_14 := f_14.ext E183
  have f_15 := f_15.ext E183
  have f_16 := f_16.ext E183
  have f_17 := f_17.ext E183
  have A_b165 := A_b165.ext E183
  have A_b167 := A_b167.ext E183
  have A_b169 := A_b169.ext E183
  have A_b171 := A_b171.ext E183
  have A_b173 := A_b173.ext E183
  have A_b175 := A_b175.ext E183
  have A_b177 := A_b177.ext E183
  have A_b179 := A_b179.ext E183
  have A_b181 := A_b181.ext E183
  have Zn := Nat.le_trans Zn E183.1
  have K := K.ext E183
  have A_b183 : OwnA Z h183 b183 .byte [.int 0, .int 0, .int 0, .int 0, .int 0, .int 0, .int 0, .int 0, .int 0, .int 0, .int 0, .int 0, .int 0, .int 0, .int 0, .int 0, .int 0, .int 0, .int 0, .int 0, .int 0, .int 0, .int 0, .int 0, .int 0, .int 0, .int 0, .int 0, .int 0, .int 0, .int 0, .int 0] := own_new A183 rfl
  refine own_by st183 ?_
  obtain ⟨T184, h184, X184, e184, W184, st184⟩ := putF X183 hx hZ hown (host := "") (Or.inl (gw hw 45 rfl)) Via.refl e183 f_9 E_mb (Or.inr ⟨(gw hw 46 rfl), rfl, hnm⟩) (gw hw 13 rfl) (ty := (.array .byte)) (by decide) rfl rfl (g := (mkF m 83 #[oR mb] [.ref b183, .ref mb])) rfl rfl (G d4_83)
  have N := Fr.snoc X184 N o_mb
  have E_mb := E_mb.wr W184
  have f_0 := oT f_0 W184 (Or.inl (gw hw 23 rfl)) (Or.inr (gw hw 46 rfl)) (.array .int) (.array .byte)
  have f_1 := oT f_1 W184 (Or.inl (gw hw 25 rfl)) (Or.inr (gw hw 46 rfl)) (.array .int) (.array .byte)
  have f_2 := oT f_2 W184 (Or.inl (gw hw 27 rfl)) (Or.inr (gw hw 46 rfl)) (.array .int) (.array .byte)
  have f_3 := oT f_3 W184 (Or.inl (gw hw 31 rfl)) (Or.inr (gw hw 46 rfl)) (.array (.object "java/lang/String")) (.array .byte)
  have f_4 := oT f_4 W184 (Or.inl (gw hw 35 rfl)) (Or.inr (gw hw 46 rfl)) (.array (.object "com/example/upright_play/uprightplay/event/Members$Type")) (.array .byte)
  have f_5 := oT f_5 W184 (Or.inl (gw hw 37 rfl)) (Or.inr (gw hw 46 rfl)) (.array .int) (.array .byte)
  have f_6 := oT f_6 W184 (Or.inl (gw hw 39 rfl)) (Or.inr (gw hw 46 rfl)) (.array .int) (.array .byte)
  have f_7 := oT f_7 W184 (Or.inl (gw hw 41 rfl)) (Or.inr (gw hw 46 rfl)) (.array .int) (.array .byte)
  have f_8 := oT f_8 W184 (Or.inl (gw hw 43 rfl)) (Or.inr (gw hw 46 rfl)) (.array .int) (.array .byte)
  have f_9 := f_9.same W184
  have f_10 := oT f_10 W184 (Or.inl (gw hw 53 rfl)) (Or.inr (gw hw 46 rfl)) (.array .char) (.array .byte)
  have f_11 := oT f_11 W184 (Or.inl (gw hw 55 rfl)) (Or.inr (gw hw 46 rfl)) .int (.array .byte)
  have f_12 := oT f_12 W184 (Or.inl (gw hw 57 rfl)) (Or.inr (gw hw 46 rfl)) .long (.array .byte)
  have f_13 := oT f_13 W184 (Or.inl (gw hw 61 rfl)) (Or.inr (gw hw 46 rfl)) .int (.array .byte)
  have f_14 := oT f_14 W184 (Or.inl (gw hw 63 rfl)) (Or.inr (gw hw 46 rfl)) (.object "java/util/Map") (.array .byte)
  have f_15 := oT f_15 W184 (Or.inl (gw hw 162 rfl)) (Or.inr (gw hw 46 rfl)) .int (.array .byte)
  have f_16 := oT f_16 W184 (Or.inl (gw hw 164 rfl)) (Or.inr (gw hw 46 rfl)) .int (.array .byte)
  have f_17 := oT f_17 W184 (Or.inl (gw hw 59 rfl)) (Or.inr (gw hw 46 rfl)) .int (.array .byte)
  have A_b165 := A_b165.other W184 (Ne.symm ne_mb_b165)
  have A_b167 := A_b167.other W184 (Ne.symm ne_mb_b167)
  have A_b169 := A_b169.other W184 (Ne.symm ne_mb_b169)
  have A_b171 := A_b171.other W184 (Ne.symm ne_mb_b171)
  have A_b173 := A_b173.other W184 (Ne.symm ne_mb_b173)
  have A_b175 := A_b175.other W184 (Ne.symm ne_mb_b175)
  have A_b177 := A_b177.other W184 (Ne.symm ne_mb_b177)
  have A_b179 := A_b179.other W184 (Ne.symm ne_mb_b179)
  have A_b181 := A_b181.other W184 (Ne.symm ne_mb_b181)
  have A_b183 := A_b183.other W184 (Ne.symm ne_mb_b183)
  have Zn : n0 ≤ _ := Nat.le_trans Zn (Nat.le_of_eq W184.size.symm)
  have K := K.wr W184 (Or.inl (List.mem_of_getElem? (i := 0) rfl))
  refine own_by st184 ?_
  have hD : ∀ i, i < 10 → h0.size ≤ (fun i => [b165, b167, b169, b171, b173, b175, b177, b179, b181, b183].getD i 0) i := fun i hi => by
    match i, hi with
    | 0, _ => exact z165
    | 1, _ => exact z167
    | 2, _ => exact z169
    | 3, _ => exact z171
    | 4, _ => exact z173
    | 5, _ => exact z175
    | 6, _ => exact z177
    | 7, _ => exact z179
    | 8, _ => exact z181
    | 9, _ => exact z183
  have hN : ([b165, b167, b169, b171, b173, b175, b177, b179, b181, b183] : List Addr).Nodup := (own_nd (allS ne_b165_b167 (allS ne_b165_b169 (allS ne_b165_b171 (allS ne_b165_b173 (allS ne_b165_b175 (allS ne_b165_b177 (allS ne_b165_b179 (allS ne_b165_b181 (allS ne_b165_b183 all0))))))))) (own_nd (allS ne_b167_b169 (allS ne_b167_b171 (allS ne_b167_b173 (allS ne_b167_b175 (allS ne_b167_b177 (allS ne_b167_b179 (allS ne_b167_b181 (allS ne_b167_b183 all0)))))))) (own_nd (allS ne_b169_b171 (allS ne_b169_b173 (allS ne_b169_b175 (allS ne_b169_b177 (allS ne_b169_b179 (allS ne_b169_b181 (allS ne_b169_b183 all0))))))) (own_nd (allS ne_b171_b173 (allS ne_b171_b175 (allS ne_b171_b177 (allS ne_b171_b179 (allS ne_b171_b181 (allS ne_b171_b183 all0)))))) (own_nd (allS ne_b173_b175 (allS ne_b173_b177 (allS ne_b173_b179 (allS ne_b173_b181 (allS ne_b173_b183 all0))))) (own_nd (allS ne_b175_b177 (allS ne_b175_b179 (allS ne_b175_b181 (allS ne_b175_b183 all0)))) (own_nd (allS ne_b177_b179 (allS ne_b177_b181 (allS ne_b177_b183 all0))) (own_nd (allS ne_b179_b181 (allS ne_b179_b183 all0)) (own_nd (allS ne_b181_b183 all0) (own_nd all0 List.nodup_nil))))))))))
  have hM : OwnM Z h184 mb (fun i => [b165, b167, b169, b171, b173, b175, b177, b179, b181, b183].getD i 0) own_V0 .null 0 0 0 := ⟨E_mb, f_0, f_1, f_2, f_3, f_4, f_5, f_6, f_7, f_8, f_9, f_10, f_11, f_12, f_13, f_14, f_15, f_16, A_b165, A_b167, A_b169, A_b171, A_b173, A_b175, A_b177, A_b179, A_b181, A_b183⟩
  exact own_ret0 X184 hx Bd.returns (G d4_86) hlk (by decide : 10 ≤ _) (by decide : 176 ≤ _) (by rw [e184]; exact ⟨(fun i => [b165, b167, b169, b171, b173, b175, b177, b179, b181, b183].getD i 0), rfl, N, K, hD, hN, hM, f_17⟩)
theorem d26_0 : oD c_26 0 (.iconst 0, 1) := by decide +kernel
theorem d26_1 : oD c_26 1 (.istore_n 3, 1) := by decide +kernel
theorem d26_2 : oD c_26 2 (.iload_n 1, 1) := by decide +kernel
theorem d26_3 : oD c_26 3 (.istore 4, 2) := by decide +kernel
theorem d26_5 : oD c_26 5 (.iload 4, 2) := by decide +kernel
theorem d26_7 : oD c_26 7 (.iload_n 2, 1) := by decide +kernel
theorem d26_8 : oD c_26 8 (.if_icmp .ge 22, 3) := by decide +kernel
theorem d26_11 : oD c_26 11 (.bipush 31, 2) := by decide +kernel
theorem d26_13 : oD c_26 13 (.iload_n 3, 1) := by decide +kernel
theorem d26_14 : oD c_26 14 (.imul, 1) := by decide +kernel
theorem d26_15 : oD c_26 15 (.aload_n 0, 1) := by decide +kernel
theorem d26_16 : oD c_26 16 (.getfield 47, 3) := by decide +kernel
theorem d26_19 : oD c_26 19 (.iload 4, 2) := by decide +kernel
theorem d26_21 : oD c_26 21 (.caload, 1) := by decide +kernel
theorem d26_22 : oD c_26 22 (.iadd, 1) := by decide +kernel
theorem d26_23 : oD c_26 23 (.istore_n 3, 1) := by decide +kernel
theorem d26_24 : oD c_26 24 (.iinc 4 1, 3) := by decide +kernel
theorem d26_27 : oD c_26 27 (.goto (-22), 3) := by decide +kernel
theorem d26_30 : oD c_26 30 (.iload_n 3, 1) := by decide +kernel
theorem d26_31 : oD c_26 31 (.ireturn, 1) := by decide +kernel
theorem pn_26 : plainName "com/example/upright_play/uprightplay/event/Members" = true := by first | (simp [plainName, overriddenIn]; done) | decide +kernel
theorem ef_rm_hash2 (m : MethodId) (x0 : Addr) (x1 : Int32) (x2 : Int32) : entryFrame m #[.ref x0, .int x1, .int x2] 5 = mkF m 0 #[oR x0, oI x1, oI x2, oU, oU] [] := by first | (simp [entryFrame, mkF, argsToLocals, Value.category]; done) | rfl
def Q_rm_hash2 (Z : State) (mb li : Addr) (LN : List Value) (ch : Nat) (h0 : Heap) (n0 : Nat) (v : Option Value) (h : Heap) (L : List Loc) : Prop := v = some (.int (Int32.ofNat ch)) ∧ Fr n0 L ∧ h = h0
set_option maxRecDepth 65536 in
set_option maxHeartbeats 40000000 in
theorem rm_hash2 (l : Launch) (Z : State) (a0 : Array Value) (hw : ∀ d ∈ tables_1, d.before a0 Z = true) (ws : List Jvm.Cond) (mb li : Addr) (LN : List Value) (ch : Nat) (h0 : Heap) (n0 : Nat) (Zn : n0 ≤ h0.size) (f_10 : Fld Z h0 mb "com/example/upright_play/uprightplay/event/Members" "line" "[C" (.ref li)) (A_li : OwnA Z h0 li .char LN) (h2 : LN[2]? = some (.int (Int32.ofNat ch))) :
    MetFree l y_26 (head1 (Jvm.Cond.code y_26 c_26 5 (some .int) :: ws) (oQ 0 0 0 0)) (fun a U => a = #[.ref mb, .int 2, .int 3] ∧ Z.Warmed39 U.vm ∧ U.heap = h0) (fun _ _ _ _ _ => True) (fun _ U o U' => ∃ v L, o = .returned v ∧ (Q_rm_hash2 Z mb li LN ch h0 n0) v U'.heap L ∧ FrameEnd U o U' L (oQ 0 0 0 0).cells (oQ 0 0 0 0).slots) := by
  refine MetFree.of_bodySF (plainFor_of_name pn_26) hisR ?_
  intro p e s m args below meth c s₁ Bd hml0 hP hK
  obtain ⟨rfl, hZ, hh⟩ := hP
  have hx := Bd.exec
  have G := @oG _ _ Bd.bytes
  have hml : c.maxLocals = 5 := hml0
  have hown : s.vm.findClass "com/example/upright_play/uprightplay/event/Members" = some m.cls := findClass_of_methodNamed Bd.named
  have hnm := (name_of_methodNamed Bd.named Bd.method).1
  have hlk : meth.locks = false := BodyLoose.notSynchronized Bd
  have X0 : Stand p l e (oQ 0 0 0 0) s m #[.ref mb, .int 2, .int 3] below meth c s₁ [] 0 0 := Stand.of_body Bd
  have e0 : s₁.heap = h0 := by rw [← hh, Bd.state]; rfl
  have N := Fr.nil n0
  have K := Keep.refl h0 []
  refine own_start (cl := (oQ 0 0 0 0).cells) (sl := (oQ 0 0 0 0).slots) (Q := (Q_rm_hash2 Z mb li LN ch h0 n0)) (ef_rm_hash2 m mb ((2 : Int32)) ((3 : Int32))) ?_
  refine own_by (S' := (oM s₁ m 16 #[oR mb, oI 2, oI 3, oI 0, oI 2] [.ref mb, .int 0])) (fun _ k => XS.iconst X0.here hx rfl (G d26_0) (XS.istoreN X0.here hx rfl (G d26_1) rfl (l' := #[oR mb, oI 2, oI 3, oI 0, oU]) rfl (XS.iloadN X0.here hx rfl (G d26_2) rfl (XS.istore X0.here hx rfl (G d26_3) rfl (l' := #[oR mb, oI 2, oI 3, oI 0, oI 2]) rfl (XS.iload X0.here hx rfl (G d26_5) rfl (XS.iloadN X0.here hx rfl (G d26_7) rfl (XS.icmpNo X0.here hx rfl (G d26_8) rfl (tlt ((by decide) : (2 : Int32) < (3 : Int32))).2.1 (XS.bipush X0.here hx rfl (G d26_11) (XS.iloadN X0.here hx rfl (G d26_13) rfl (XS.imul X0.here hx rfl (G d26_14) rfl (XS.aloadN X0.here hx rfl (G d26_15) rfl rfl k))))))))))) ?_
  obtain ⟨T185, X185, e185, st185⟩ := getF X0 hx hZ hown (host := "") (Or.inl (gw hw 52 rfl)) Via.refl e0 f_10 (g := (mkF m 16 #[oR mb, oI 2, oI 3, oI 0, oI 2] [.ref mb, .int 0])) rfl rfl (G d26_16)
  refine own_by st185 ?_
  refine own_by (S' := (oM T185 m 23 #[oR mb, oI 2, oI 3, oI 0, oI 2] [(.int ((0 : Int32) + (Int32.ofNat ch)))])) (fun _ k => XS.iload X185.here hx rfl (G d26_19) rfl (own_caload X185 hx hZ e185 A_li (by decide) (v := (.int (Int32.ofNat ch))) (show LN[(2 : Int32).toNatClampNeg]? = _ from h2) (g := (mkF m 21 #[oR mb, oI 2, oI 3, oI 0, oI 2] [.int 2, .ref li, .int 0])) rfl rfl (G d26_21) _ (XS.iadd X185.here hx rfl (G d26_22) rfl k))) ?_
  rw [show ((0 : Int32) + (Int32.ofNat ch)) = (Int32.ofNat ch) from own_zadd _]
  refine own_by (S' := (oM T185 m 31 #[oR mb, oI 2, oI 3, oI (Int32.ofNat ch), oI 3] [(.int (Int32.ofNat ch))])) (fun _ k => XS.istoreN X185.here hx rfl (G d26_23) rfl (l' := #[oR mb, oI 2, oI 3, oI (Int32.ofNat ch), oI 2]) rfl (XS.iinc X185.here hx rfl (G d26_24) rfl (l' := #[oR mb, oI 2, oI 3, oI (Int32.ofNat ch), oI 3]) rfl (XS.goto X185.here hx rfl (pc0 := 27) (pc' := 5) rfl (G d26_27) (by decide) (by decide) (XS.iload X185.here hx rfl (G d26_5) rfl (XS.iloadN X185.here hx rfl (G d26_7) rfl (XS.icmpYes X185.here hx rfl (pc0 := 8) (pc' := 30) rfl (G d26_8) rfl (flt ((by decide) : ¬ ((3 : Int32) < (3 : Int32)))).2.1 (by decide) (by decide) (XS.iloadN X185.here hx rfl (G d26_30) rfl k))))))) ?_
  exact own_ret X185 hx (t := .int) Bd.returns rfl (Or.inl ⟨rfl, by simp, _, rfl⟩) (G d26_31) hlk (by decide : 0 ≤ _) (by decide : 0 ≤ _) (by rw [e185]; exact ⟨rfl, N, rfl⟩)
theorem ef_rm_hash13 (m : MethodId) (x0 : Addr) (x1 : Int32) (x2 : Int32) : entryFrame m #[.ref x0, .int x1, .int x2] 5 = mkF m 0 #[oR x0, oI x1, oI x2, oU, oU] [] := by first | (simp [entryFrame, mkF, argsToLocals, Value.category]; done) | rfl
def Q_rm_hash13 (Z : State) (mb li : Addr) (LN : List Value) (ch : Nat) (h0 : Heap) (n0 : Nat) (v : Option Value) (h : Heap) (L : List Loc) : Prop := v = some (.int (Int32.ofNat ch)) ∧ Fr n0 L ∧ h = h0
set_option maxRecDepth 65536 in
set_option maxHeartbeats 40000000 in
theorem rm_hash13 (l : Launch) (Z : State) (a0 : Array Value) (hw : ∀ d ∈ tables_1, d.before a0 Z = true) (ws : List Jvm.Cond) (mb li : Addr) (LN : List Value) (ch : Nat) (h0 : Heap) (n0 : Nat) (Zn : n0 ≤ h0.size) (f_10 : Fld Z h0 mb "com/example/upright_play/uprightplay/event/Members" "line" "[C" (.ref li)) (A_li : OwnA Z h0 li .char LN) (h2 : LN[13]? = some (.int (Int32.ofNat ch))) :
    MetFree l y_26 (head1 (Jvm.Cond.code y_26 c_26 5 (some .int) :: ws) (oQ 0 0 0 0)) (fun a U => a = #[.ref mb, .int 13, .int 14] ∧ Z.Warmed39 U.vm ∧ U.heap = h0) (fun _ _ _ _ _ => True) (fun _ U o U' => ∃ v L, o = .returned v ∧ (Q_rm_hash13 Z mb li LN ch h0 n0) v U'.heap L ∧ FrameEnd U o U' L (oQ 0 0 0 0).cells (oQ 0 0 0 0).slots) := by
  refine MetFree.of_bodySF (plainFor_of_name pn_26) hisR ?_
  intro p e s m args below meth c s₁ Bd hml0 hP hK
  obtain ⟨rfl, hZ, hh⟩ := hP
  have hx := Bd.exec
  have G := @oG _ _ Bd.bytes
  have hml : c.maxLocals = 5 := hml0
  have hown : s.vm.findClass "com/example/upright_play/uprightplay/event/Members" = some m.cls := findClass_of_methodNamed Bd.named
  have hnm := (name_of_methodNamed Bd.named Bd.method).1
  have hlk : meth.locks = false := BodyLoose.notSynchronized Bd
  have X0 : Stand p l e (oQ 0 0 0 0) s m #[.ref mb, .int 13, .int 14] below meth c s₁ [] 0 0 := Stand.of_body Bd
  have e0 : s₁.heap = h0 := by rw [← hh, Bd.state]; rfl
  have N := Fr.nil n0
  have K := Keep.refl h0 []
  refine own_start (cl := (oQ 0 0 0 0).cells) (sl := (oQ 0 0 0 0).slots) (Q := (Q_rm_hash13 Z mb li LN ch h0 n0)) (ef_rm_hash13 m mb ((13 : Int32)) ((14 : Int32))) ?_
  refine own_by (S' := (oM s₁ m 16 #[oR mb, oI 13, oI 14, oI 0, oI 13] [.ref mb, .int 0])) (fun _ k => XS.iconst X0.here hx rfl (G d26_0) (XS.istoreN X0.here hx rfl (G d26_1) rfl (l' := #[oR mb, oI 13, oI 14, oI 0, oU]) rfl (XS.iloadN X0.here hx rfl (G d26_2) rfl (XS.istore X0.here hx rfl (G d26_3) rfl (l' := #[oR mb, oI 13, oI 14, oI 0, oI 13]) rfl (XS.iload X0.here hx rfl (G d26_5) rfl (XS.iloadN X0.here hx rfl (G d26_7) rfl (XS.icmpNo X0.here hx rfl (G d26_8) rfl (tlt ((by decide) : (13 : Int32) < (14 : Int32))).2.1 (XS.bipush X0.here hx rfl (G d26_11) (XS.iloadN X0.here hx rfl (G d26_13) rfl (XS.imul X0.here hx rfl (G d26_14) rfl (XS.aloadN X0.here hx rfl (G d26_15) rfl rfl k))))))))))) ?_
  obtain ⟨T186, X186, e186, st186⟩ := getF X0 hx hZ hown (host := "") (Or.inl (gw hw 52 rfl)) Via.refl e0 f_10 (g := (mkF m 16 #[oR mb, oI 13, oI 14, oI 0, oI 13] [.ref mb, .int 0])) rfl rfl (G d26_16)
  refine own_by st186 ?_
  refine own_by (S' := (oM T186 m 23 #[oR mb, oI 13, oI 14, oI 0, oI 13] [(.int ((0 : Int32) + (Int32.ofNat ch)))])) (fun _ k => XS.iload X186.here hx rfl (G d26_19) rfl (own_caload X186 hx hZ e186 A_li (by decide) (v := (.int (Int32.ofNat ch))) (show LN[(13 : Int32).toNatClampNeg]? = _ from h2) (g := (mkF m 21 #[oR mb, oI 13, oI 14, oI 0, oI 13] [.int 13, .ref li, .int 0])) rfl rfl (G d26_21) _ (XS.iadd X186.here hx rfl (G d26_22) rfl k))) ?_
  rw [show ((0 : Int32) + (Int32.ofNat ch)) = (Int32.ofNat ch) from own_zadd _]
  refine own_by (S' := (oM T186 m 31 #[oR mb, oI 13, oI 14, oI (Int32.ofNat ch), oI 14] [(.int (Int32.ofNat ch))])) (fun _ k => XS.istoreN X186.here hx rfl (G d26_23) rfl (l' := #[oR mb, oI 13, oI 14, oI (Int32.ofNat ch), oI 13]) rfl (XS.iinc X186.here hx rfl (G d26_24) rfl (l' := #[oR mb, oI 13, oI 14, oI (Int32.ofNat ch), oI 14]) rfl (XS.goto X186.here hx rfl (pc0 := 27) (pc' := 5) rfl (G d26_27) (by decide) (by decide) (XS.iload X186.here hx rfl (G d26_5) rfl (XS.iloadN X186.here hx rfl (G d26_7) rfl (XS.icmpYes X186.here hx rfl (pc0 := 8) (pc' := 30) rfl (G d26_8) rfl (flt ((by decide) : ¬ ((14 : Int32) < (14 : Int32)))).2.1 (by decide) (by decide) (XS.iloadN X186.here hx rfl (G d26_30) rfl k))))))) ?_
  exact own_ret X186 hx (t := .int) Bd.returns rfl (Or.inl ⟨rfl, by simp, _, rfl⟩) (G d26_31) hlk (by decide : 0 ≤ _) (by decide : 0 ≤ _) (by rw [e186]; exact ⟨rfl, N, rfl⟩)
theorem d25_0 : oD c_25 0 (.aload_n 0, 1) := by decide +kernel
theorem d25_1 : oD c_25 1 (.getfield 62, 3) := by decide +kernel
theorem d25_4 : oD c_25 4 (.aload_n 0, 1) := by decide +kernel
theorem d25_5 : oD c_25 5 (.getfield 27, 3) := by decide +kernel
theorem d25_8 : oD c_25 8 (.arraylength, 1) := by decide +kernel
theorem d25_9 : oD c_25 9 (.if_icmp .ne 7, 3) := by decide +kernel
theorem d25_16 : oD c_25 16 (.iload_n 3, 1) := by decide +kernel
theorem d25_17 : oD c_25 17 (.ifCond .eq 16, 3) := by decide +kernel
theorem d25_33 : oD c_25 33 (.aconst_null, 1) := by decide +kernel
theorem d25_34 : oD c_25 34 (.astore 6, 2) := by decide +kernel
theorem d25_36 : oD c_25 36 (.aload_n 0, 1) := by decide +kernel
theorem d25_37 : oD c_25 37 (.getfield 9, 3) := by decide +kernel
theorem d25_40 : oD c_25 40 (.aload_n 0, 1) := by decide +kernel
theorem d25_41 : oD c_25 41 (.getfield 62, 3) := by decide +kernel
theorem d25_44 : oD c_25 44 (.iload_n 1, 1) := by decide +kernel
theorem d25_45 : oD c_25 45 (.iastore, 1) := by decide +kernel
theorem d25_46 : oD c_25 46 (.aload_n 0, 1) := by decide +kernel
theorem d25_47 : oD c_25 47 (.getfield 13, 3) := by decide +kernel
theorem d25_50 : oD c_25 50 (.aload_n 0, 1) := by decide +kernel
theorem d25_51 : oD c_25 51 (.getfield 62, 3) := by decide +kernel
theorem d25_54 : oD c_25 54 (.iload_n 2, 1) := by decide +kernel
theorem d25_55 : oD c_25 55 (.iastore, 1) := by decide +kernel
theorem d25_56 : oD c_25 56 (.aload_n 0, 1) := by decide +kernel
theorem d25_57 : oD c_25 57 (.getfield 21, 3) := by decide +kernel
theorem d25_60 : oD c_25 60 (.aload_n 0, 1) := by decide +kernel
theorem d25_61 : oD c_25 61 (.getfield 62, 3) := by decide +kernel
theorem d25_64 : oD c_25 64 (.aload 6, 2) := by decide +kernel
theorem d25_66 : oD c_25 66 (.aastore, 1) := by decide +kernel
theorem d25_67 : oD c_25 67 (.aload_n 0, 1) := by decide +kernel
theorem d25_68 : oD c_25 68 (.getfield 16, 3) := by decide +kernel
theorem d25_71 : oD c_25 71 (.aload_n 0, 1) := by decide +kernel
theorem d25_72 : oD c_25 72 (.getfield 62, 3) := by decide +kernel
theorem d25_75 : oD c_25 75 (.iload_n 3, 1) := by decide +kernel
theorem d25_76 : oD c_25 76 (.ifCond .eq 11, 3) := by decide +kernel
theorem d25_87 : oD c_25 87 (.aload_n 0, 1) := by decide +kernel
theorem d25_88 : oD c_25 88 (.iload_n 1, 1) := by decide +kernel
theorem d25_89 : oD c_25 89 (.iconst 1, 1) := by decide +kernel
theorem d25_90 : oD c_25 90 (.iadd, 1) := by decide +kernel
theorem d25_91 : oD c_25 91 (.iload_n 2, 1) := by decide +kernel
theorem d25_92 : oD c_25 92 (.iconst 1, 1) := by decide +kernel
theorem d25_93 : oD c_25 93 (.isub, 1) := by decide +kernel
theorem d25_94 : oD c_25 94 (.invokevirtual 271, 3) := by decide +kernel
theorem d25_97 : oD c_25 97 (.iastore, 1) := by decide +kernel
theorem d25_98 : oD c_25 98 (.aload_n 0, 1) := by decide +kernel
theorem d25_99 : oD c_25 99 (.getfield 27, 3) := by decide +kernel
theorem d25_102 : oD c_25 102 (.aload_n 0, 1) := by decide +kernel
theorem d25_103 : oD c_25 103 (.getfield 62, 3) := by decide +kernel
theorem d25_106 : oD c_25 106 (.aload 4, 2) := by decide +kernel
theorem d25_108 : oD c_25 108 (.aastore, 1) := by decide +kernel
theorem d25_109 : oD c_25 109 (.aload_n 0, 1) := by decide +kernel
theorem d25_110 : oD c_25 110 (.getfield 31, 3) := by decide +kernel
theorem d25_113 : oD c_25 113 (.aload_n 0, 1) := by decide +kernel
theorem d25_114 : oD c_25 114 (.getfield 62, 3) := by decide +kernel
theorem d25_117 : oD c_25 117 (.iload 5, 2) := by decide +kernel
theorem d25_119 : oD c_25 119 (.iastore, 1) := by decide +kernel
theorem d25_120 : oD c_25 120 (.aload_n 0, 1) := by decide +kernel
theorem d25_121 : oD c_25 121 (.getfield 34, 3) := by decide +kernel
theorem d25_124 : oD c_25 124 (.aload_n 0, 1) := by decide +kernel
theorem d25_125 : oD c_25 125 (.getfield 62, 3) := by decide +kernel
theorem d25_128 : oD c_25 128 (.aload_n 0, 1) := by decide +kernel
theorem d25_129 : oD c_25 129 (.getfield 59, 3) := by decide +kernel
theorem d25_132 : oD c_25 132 (.iastore, 1) := by decide +kernel
theorem d25_133 : oD c_25 133 (.aload_n 0, 1) := by decide +kernel
theorem d25_134 : oD c_25 134 (.getfield 37, 3) := by decide +kernel
theorem d25_137 : oD c_25 137 (.aload_n 0, 1) := by decide +kernel
theorem d25_138 : oD c_25 138 (.getfield 62, 3) := by decide +kernel
theorem d25_141 : oD c_25 141 (.aload_n 0, 1) := by decide +kernel
theorem d25_142 : oD c_25 142 (.getfield 250, 3) := by decide +kernel
theorem d25_145 : oD c_25 145 (.iastore, 1) := by decide +kernel
theorem d25_146 : oD c_25 146 (.aload_n 0, 1) := by decide +kernel
theorem d25_147 : oD c_25 147 (.getfield 40, 3) := by decide +kernel
theorem d25_150 : oD c_25 150 (.aload_n 0, 1) := by decide +kernel
theorem d25_151 : oD c_25 151 (.getfield 62, 3) := by decide +kernel
theorem d25_154 : oD c_25 154 (.aload_n 0, 1) := by decide +kernel
theorem d25_155 : oD c_25 155 (.getfield 256, 3) := by decide +kernel
theorem d25_158 : oD c_25 158 (.iastore, 1) := by decide +kernel
theorem d25_159 : oD c_25 159 (.aload_n 0, 1) := by decide +kernel
theorem d25_160 : oD c_25 160 (.getfield 62, 3) := by decide +kernel
theorem d25_163 : oD c_25 163 (.bipush 16, 2) := by decide +kernel
theorem d25_165 : oD c_25 165 (.if_icmp .ne 53, 3) := by decide +kernel
theorem d25_218 : oD c_25 218 (.iconst 0, 1) := by decide +kernel
theorem d25_219 : oD c_25 219 (.istore 7, 2) := by decide +kernel
theorem d25_221 : oD c_25 221 (.aload_n 0, 1) := by decide +kernel
theorem d25_222 : oD c_25 222 (.getfield 65, 3) := by decide +kernel
theorem d25_225 : oD c_25 225 (.ifnull 40, 3) := by decide +kernel
theorem d25_265 : oD c_25 265 (.aload_n 0, 1) := by decide +kernel
theorem d25_266 : oD c_25 266 (.getfield 16, 3) := by decide +kernel
theorem d25_269 : oD c_25 269 (.aload_n 0, 1) := by decide +kernel
theorem d25_270 : oD c_25 270 (.getfield 62, 3) := by decide +kernel
theorem d25_273 : oD c_25 273 (.iaload, 1) := by decide +kernel
theorem d25_274 : oD c_25 274 (.istore 8, 2) := by decide +kernel
theorem d25_276 : oD c_25 276 (.iload 8, 2) := by decide +kernel
theorem d25_278 : oD c_25 278 (.invokestatic 117, 3) := by decide +kernel
theorem d25_281 : oD c_25 281 (.istore 9, 2) := by decide +kernel
theorem d25_283 : oD c_25 283 (.aload_n 0, 1) := by decide +kernel
theorem d25_284 : oD c_25 284 (.getfield 43, 3) := by decide +kernel
theorem d25_287 : oD c_25 287 (.iload 9, 2) := by decide +kernel
theorem d25_289 : oD c_25 289 (.baload, 1) := by decide +kernel
theorem d25_290 : oD c_25 290 (.ifCond .eq 65, 3) := by decide +kernel
theorem d25_293 : oD c_25 293 (.iload 7, 2) := by decide +kernel
theorem d25_295 : oD c_25 295 (.ifCond .ne 60, 3) := by decide +kernel
theorem d25_298 : oD c_25 298 (.aload_n 0, 1) := by decide +kernel
theorem d25_299 : oD c_25 299 (.getfield 43, 3) := by decide +kernel
theorem d25_302 : oD c_25 302 (.iload 9, 2) := by decide +kernel
theorem d25_304 : oD c_25 304 (.baload, 1) := by decide +kernel
theorem d25_305 : oD c_25 305 (.iconst 1, 1) := by decide +kernel
theorem d25_306 : oD c_25 306 (.isub, 1) := by decide +kernel
theorem d25_307 : oD c_25 307 (.istore 10, 2) := by decide +kernel
theorem d25_309 : oD c_25 309 (.aload_n 0, 1) := by decide +kernel
theorem d25_310 : oD c_25 310 (.getfield 16, 3) := by decide +kernel
theorem d25_313 : oD c_25 313 (.iload 10, 2) := by decide +kernel
theorem d25_315 : oD c_25 315 (.iaload, 1) := by decide +kernel
theorem d25_316 : oD c_25 316 (.iload 8, 2) := by decide +kernel
theorem d25_318 : oD c_25 318 (.if_icmp .ne 24, 3) := by decide +kernel
theorem d25_342 : oD c_25 342 (.iconst 0, 1) := by decide +kernel
theorem d25_343 : oD c_25 343 (.istore 7, 2) := by decide +kernel
theorem d25_345 : oD c_25 345 (.iload 9, 2) := by decide +kernel
theorem d25_347 : oD c_25 347 (.invokestatic 125, 3) := by decide +kernel
theorem d25_350 : oD c_25 350 (.istore 9, 2) := by decide +kernel
theorem d25_352 : oD c_25 352 (.goto (-69), 3) := by decide +kernel
theorem d25_355 : oD c_25 355 (.aload_n 0, 1) := by decide +kernel
theorem d25_356 : oD c_25 356 (.getfield 43, 3) := by decide +kernel
theorem d25_359 : oD c_25 359 (.iload 9, 2) := by decide +kernel
theorem d25_361 : oD c_25 361 (.aload_n 0, 1) := by decide +kernel
theorem d25_362 : oD c_25 362 (.getfield 62, 3) := by decide +kernel
theorem d25_365 : oD c_25 365 (.iconst 1, 1) := by decide +kernel
theorem d25_366 : oD c_25 366 (.iadd, 1) := by decide +kernel
theorem d25_367 : oD c_25 367 (.i2b, 1) := by decide +kernel
theorem d25_368 : oD c_25 368 (.bastore, 1) := by decide +kernel
theorem d25_369 : oD c_25 369 (.iload 7, 2) := by decide +kernel
theorem d25_371 : oD c_25 371 (.ifCond .eq 28, 3) := by decide +kernel
theorem d25_399 : oD c_25 399 (.aload_n 0, 1) := by decide +kernel
theorem d25_400 : oD c_25 400 (.dup, 1) := by decide +kernel
theorem d25_401 : oD c_25 401 (.getfield 62, 3) := by decide +kernel
theorem d25_404 : oD c_25 404 (.iconst 1, 1) := by decide +kernel
theorem d25_405 : oD c_25 405 (.iadd, 1) := by decide +kernel
theorem d25_406 : oD c_25 406 (.putfield 62, 3) := by decide +kernel
theorem d25_409 : oD c_25 409 (.return_, 1) := by decide +kernel
theorem pn_25 : plainName "com/example/upright_play/uprightplay/event/Members" = true := by first | (simp [plainName, overriddenIn]; done) | decide +kernel
theorem ef_rm_add0 (m : MethodId) (x0 : Addr) (x1 : Int32) (x2 : Int32) (x3 : Int32) (x4 : Addr) (x5 : Int32) : entryFrame m #[.ref x0, .int x1, .int x2, .int x3, .ref x4, .int x5] 11 = mkF m 0 #[oR x0, oI x1, oI x2, oI x3, oR x4, oI x5, oU, oU, oU, oU, oU] [] := by first | (simp [entryFrame, mkF, argsToLocals, Value.category]; done) | rfl
def Q_rm_add0 (Z : State) (mb li : Addr) (D : Nat → Addr) (LN : List Value) (c1 : Nat) (a1 b1 : Int32) (cs : Int32) (fo : Value) (bo : Addr) (h0 : Heap) (n0 : Nat) (v : Option Value) (h : Heap) (L : List Loc) : Prop := v = none ∧ Fr n0 L ∧ Keep h0 h (mb :: [D 0, D 1, D 2, D 3, D 4, D 5, D 6, D 7, D 8, D 9]) ∧ OwnM Z h mb D (own_V1 c1 a1 b1 bo) (.ref li) 23 1 1 ∧ Fld Z h mb "com/example/upright_play/uprightplay/event/Members" "pos" "I" (.int b1)
theorem pd__28II_29I : parseMethodDescriptor "(II)I" = some ⟨[.int, .int], some .int⟩ := by decide +kernel
theorem pd__28I_29I : parseMethodDescriptor "(I)I" = some ⟨[.int], some .int⟩ := by decide +kernel
set_option maxRecDepth 65536 in
set_option maxHeartbeats 40000000 in
theorem rm_add0 (l : Launch) (Z : State) (a0 : Array Value) (hw : ∀ d ∈ tables_1, d.before a0 Z = true) (ws : List Jvm.Cond) (mb li : Addr) (D : Nat → Addr) (LN : List Value) (c1 : Nat) (a1 b1 : Int32) (cs : Int32) (fo : Value) (bo : Addr) (h0 : Heap) (n0 : Nat) (Zn : n0 ≤ h0.size) (M : OwnM Z h0 mb D own_V0 (.ref li) 23 1 0) (DI : own_di n0 mb li D) (A_li : OwnA Z h0 li .char LN) (f_17 : Fld Z h0 mb "com/example/upright_play/uprightplay/event/Members" "pos" "I" (.int b1)) (hc1 : LN[2]? = some (.int (Int32.ofNat c1))) (hk1 : own_nc c1) (O : Old Z n0 h0) (SS : own_st Z cs fo bo) :
    MetFree l y_25 (head1 (Jvm.Cond.code y_25 c_25 11 none :: ws) (oQ 1 0 0 24)) (fun a U => a = #[.ref mb, .int 1, .int 4, .int 0, .ref bo, .int a1] ∧ Z.Warmed39 U.vm ∧ U.heap = h0) (fun _ _ _ _ _ => True) (fun _ U o U' => ∃ v L, o = .returned v ∧ (Q_rm_add0 Z mb li D LN c1 a1 b1 cs fo bo h0 n0) v U'.heap L ∧ FrameEnd U o U' L (oQ 1 0 0 24).cells (oQ 1 0 0 24).slots) := by
  refine MetFree.of_bodySF (plainFor_of_name pn_25) hisR ?_
  intro p e s m args below meth c s₁ Bd hml0 hP hK
  obtain ⟨rfl, hZ, hh⟩ := hP
  have hx := Bd.exec
  have G := @oG _ _ Bd.bytes
  have hml : c.maxLocals = 11 := hml0
  have hown : s.vm.findClass "com/example/upright_play/uprightplay/event/Members" = some m.cls := findClass_of_methodNamed Bd.named
  have hnm := (name_of_methodNamed Bd.named Bd.method).1
  have hlk : meth.locks = false := BodyLoose.notSynchronized Bd
  have X0 : Stand p l e (oQ 1 0 0 24) s m #[.ref mb, .int 1, .int 4, .int 0, .ref bo, .int a1] below meth c s₁ [] 0 0 := Stand.of_body Bd
  have e0 : s₁.heap = h0 := by rw [← hh, Bd.state]; rfl
  have N := Fr.nil n0
  have K := Keep.refl h0 [mb, (D 0), (D 1), (D 2), (D 3), (D 4), (D 5), (D 6), (D 7), (D 8), (D 9)]
  refine own_start (cl := (oQ 1 0 0 24).cells) (sl := (oQ 1 0 0 24).slots) (Q := (Q_rm_add0 Z mb li D LN c1 a1 b1 cs fo bo h0 n0)) (ef_rm_add0 m mb ((1 : Int32)) ((4 : Int32)) ((0 : Int32)) bo a1) ?_
  obtain ⟨E_mb, f_0, f_1, f_2, f_3, f_4, f_5, f_6, f_7, f_8, f_9, f_10, f_11, f_12, f_13, f_14, f_15, f_16, A_0, A_1, A_2, A_3, A_4, A_5, A_6, A_7, A_8, A_9⟩ := M
  have A_0 : OwnA Z h0 (D 0) .int [.int 0, .int 0, .int 0, .int 0, .int 0, .int 0, .int 0, .int 0, .int 0, .int 0, .int 0, .int 0, .int 0, .int 0, .int 0, .int 0] := A_0
  have A_1 : OwnA Z h0 (D 1) .int [.int 0, .int 0, .int 0, .int 0, .int 0, .int 0, .int 0, .int 0, .int 0, .int 0, .int 0, .int 0, .int 0, .int 0, .int 0, .int 0] := A_1
  have A_2 : OwnA Z h0 (D 2) .int [.int 0, .int 0, .int 0, .int 0, .int 0, .int 0, .int 0, .int 0, .int 0, .int 0, .int 0, .int 0, .int 0, .int 0, .int 0, .int 0] := A_2
  have A_3 : OwnO Z h0 (D 3) "java/lang/String" [.null, .null, .null, .null, .null, .null, .null, .null, .null, .null, .null, .null, .null, .null, .null, .null] := A_3
  have A_4 : OwnO Z h0 (D 4) "com/example/upright_play/uprightplay/event/Members$Type" [.null, .null, .null, .null, .null, .null, .null, .null, .null, .null, .null, .null, .null, .null, .null, .null] := A_4
  have A_5 : OwnA Z h0 (D 5) .int [.int 0, .int 0, .int 0, .int 0, .int 0, .int 0, .int 0, .int 0, .int 0, .int 0, .int 0, .int 0, .int 0, .int 0, .int 0, .int 0] := A_5
  have A_6 : OwnA Z h0 (D 6) .int [.int 0, .int 0, .int 0, .int 0, .int 0, .int 0, .int 0, .int 0, .int 0, .int 0, .int 0, .int 0, .int 0, .int 0, .int 0, .int 0] := A_6
  have A_7 : OwnA Z h0 (D 7) .int [.int 0, .int 0, .int 0, .int 0, .int 0, .int 0, .int 0, .int 0, .int 0, .int 0, .int 0, .int 0, .int 0, .int 0, .int 0, .int 0] := A_7
  have A_8 : OwnA Z h0 (D 8) .int [.int 0, .int 0, .int 0, .int 0, .int 0, .int 0, .int 0, .int 0, .int 0, .int 0, .int 0, .int 0, .int 0, .int 0, .int 0, .int 0] := A_8
  have A_9 : OwnA Z h0 (D 9) .byte own_Z32 := A_9
  obtain ⟨SC, hcs, SF, hfo, SB, EB⟩ := SS
  refine own_by (S' := (oM s₁ m 1 #[oR mb, oI 1, oI 4, oI 0, oR bo, oI a1, oU, oU, oU, oU, oU] [.ref mb])) (fun _ k => XS.aloadN X0.here hx rfl (G d25_0) rfl rfl k) ?_
  obtain ⟨T187, X187, e187, st187⟩ := getF X0 hx hZ hown (host := "") (Or.inl (gw hw 60 rfl)) Via.refl e0 f_13 (g := (mkF m 1 #[oR mb, oI 1, oI 4, oI 0, oR bo, oI a1, oU, oU, oU, oU, oU] [.ref mb])) rfl rfl (G d25_1)
  refine own_by st187 ?_
  refine own_by (S' := (oM T187 m 5 #[oR mb, oI 1, oI 4, oI 0, oR bo, oI a1, oU, oU, oU, oU, oU] [.ref mb, .int 0])) (fun _ k => XS.aloadN X187.here hx rfl (G d25_4) rfl rfl k) ?_
  obtain ⟨T188, X188, e188, st188⟩ := getF X187 hx hZ hown (host := "") (Or.inl (gw hw 34 rfl)) Via.refl e187 f_4 (g := (mkF m 5 #[oR mb, oI 1, oI 4, oI 0, oR bo, oI a1, oU, oU, oU, oU, oU] [.ref mb, .int 0])) rfl rfl (G d25_5)
  refine own_by st188 ?_
  refine own_by (S' := (oM T188 m 37 #[oR mb, oI 1, oI 4, oI 0, oR bo, oI a1, .val .null, oU, oU, oU, oU] [.ref mb])) (fun _ k => own_len X188 hx hZ e188 A_4.toA rfl (g := (mkF m 8 #[oR mb, oI 1, oI 4, oI 0, oR bo, oI a1, oU, oU, oU, oU, oU] [(.ref (D 4)), .int 0])) rfl rfl (G d25_8) _ (XS.icmpYes X188.here hx rfl (pc0 := 9) (pc' := 16) rfl (G d25_9) rfl (feq ((by decide) : ¬ ((0 : Int32) = (16 : Int32)))).2 (by decide) (by decide) (XS.iloadN X188.here hx rfl (G d25_16) rfl (XS.ifYes X188.here hx rfl (pc0 := 17) (pc' := 33) rfl (G d25_17) rfl ((if0 _ _).trans (teq ((by decide) : (0 : Int32) = (0 : Int32))).1) (by decide) (by decide) (XS.aconstNull X188.here hx rfl (G d25_33) (XS.astore X188.here hx rfl (G d25_34) rfl rfl (l' := #[oR mb, oI 1, oI 4, oI 0, oR bo, oI a1, .val .null, oU, oU, oU, oU]) rfl (XS.aloadN X188.here hx rfl (G d25_36) rfl rfl k))))))) ?_
  obtain ⟨T189, X189, e189, st189⟩ := getF X188 hx hZ hown (host := "") (Or.inl (gw hw 22 rfl)) Via.refl e188 f_0 (g := (mkF m 37 #[oR mb, oI 1, oI 4, oI 0, oR bo, oI a1, .val .null, oU, oU, oU, oU] [.ref mb])) rfl rfl (G d25_37)
  refine own_by st189 ?_
  refine own_by (S' := (oM T189 m 41 #[oR mb, oI 1, oI 4, oI 0, oR bo, oI a1, .val .null, oU, oU, oU, oU] [.ref mb, (.ref (D 0))])) (fun _ k => XS.aloadN X189.here hx rfl (G d25_40) rfl rfl k) ?_
  obtain ⟨T190, X190, e190, st190⟩ := getF X189 hx hZ hown (host := "") (Or.inl (gw hw 60 rfl)) Via.refl e189 f_13 (g := (mkF m 41 #[oR mb, oI 1, oI 4, oI 0, oR bo, oI a1, .val .null, oU, oU, oU, oU] [.ref mb, (.ref (D 0))])) rfl rfl (G d25_41)
  refine own_by st190 ?_
  refine own_by (S' := (oM T190 m 45 #[oR mb, oI 1, oI 4, oI 0, oR bo, oI a1, .val .null, oU, oU, oU, oU] [.int 1, .int 0, (.ref (D 0))])) (fun _ k => XS.iloadN X190.here hx rfl (G d25_44) rfl k) ?_
  obtain ⟨T191, h191, X191, e191, W191, st191⟩ := own_stI X190 hx hZ e190 A_0 (j := (0 : Int32)) (by decide) (Nat.le_of_ble_eq_true rfl) (g := (mkF m 45 #[oR mb, oI 1, oI 4, oI 0, oR bo, oI a1, .val .null, oU, oU, oU, oU] [.int 1, .int 0, (.ref (D 0))])) rfl rfl (G d25_45)
  have N := Fr.snoc X191 N (DI.2.1 0 (by decide))
  have E_mb := E_mb.wr W191
  have f_0 := oF f_0 W191 (oP DI 0 2)
  have f_1 := oF f_1 W191 (oP DI 0 2)
  have f_2 := oF f_2 W191 (oP DI 0 2)
  have f_3 := oF f_3 W191 (oP DI 0 2)
  have f_4 := oF f_4 W191 (oP DI 0 2)
  have f_5 := oF f_5 W191 (oP DI 0 2)
  have f_6 := oF f_6 W191 (oP DI 0 2)
  have f_7 := oF f_7 W191 (oP DI 0 2)
  have f_8 := oF f_8 W191 (oP DI 0 2)
  have f_9 := oF f_9 W191 (oP DI 0 2)
  have f_10 := oF f_10 W191 (oP DI 0 2)
  have f_11 := oF f_11 W191 (oP DI 0 2)
  have f_12 := oF f_12 W191 (oP DI 0 2)
  have f_13 := oF f_13 W191 (oP DI 0 2)
  have f_14 := oF f_14 W191 (oP DI 0 2)
  have f_15 := oF f_15 W191 (oP DI 0 2)
  have f_16 := oF f_16 W191 (oP DI 0 2)
  have A_0 := A_0.set W191
  have A_1 := A_1.other W191 (Ne.symm (oP DI 2 3))
  have A_2 := A_2.other W191 (Ne.symm (oP DI 2 4))
  have A_3 := A_3.other W191 (Ne.symm (oP DI 2 5))
  have A_4 := A_4.other W191 (Ne.symm (oP DI 2 6))
  have A_5 := A_5.other W191 (Ne.symm (oP DI 2 7))
  have A_6 := A_6.other W191 (Ne.symm (oP DI 2 8))
  have A_7 := A_7.other W191 (Ne.symm (oP DI 2 9))
  have A_8 := A_8.other W191 (Ne.symm (oP DI 2 10))
  have A_9 := A_9.other W191 (Ne.symm (oP DI 2 11))
  have A_li := A_li.other W191 (oP DI 1 2)
  have O := O.wr W191 (DI.2.1 0 (by decide))
  have f_17 := oF f_17 W191 (oP DI 0 2)
  have Zn : n0 ≤ _ := Nat.le_trans Zn (Nat.le_of_eq W191.size.symm)
  have K := K.wr W191 (Or.inl (List.mem_of_getElem? (i := 1) rfl))
  have A_0 : OwnA Z h191 (D 0) .int [.int 1, .int 0, .int 0, .int 0, .int 0, .int 0, .int 0, .int 0, .int 0, .int 0, .int 0, .int 0, .int 0, .int 0, .int 0, .int 0] := A_0
  refine own_by st191 ?_
  refine own_by (S' := (oM T191 m 47 #[oR mb, oI 1, oI 4, oI 0, oR bo, oI a1, .val .null, oU, oU, oU, oU] [.ref mb])) (fun _ k => XS.aloadN X191.here hx rfl (G d25_46) rfl rfl k) ?_
  obtain ⟨T192, X192, e192, st192⟩ := getF X191 hx hZ hown (host := "") (Or.inl (gw hw 24 rfl)) Via.refl e191 f_1 (g := (mkF m 47 #[oR mb, oI 1, oI 4, oI 0, oR bo, oI a1, .val .null, oU, oU, oU, oU] [.ref mb])) rfl rfl (G d25_47)
  refine own_by st192 ?_
  refine own_by (S' := (oM T192 m 51 #[oR mb, oI 1, oI 4, oI 0, oR bo, oI a1, .val .null, oU, oU, oU, oU] [.ref mb, (.ref (D 1))])) (fun _ k => XS.aloadN X192.here hx rfl (G d25_50) rfl rfl k) ?_
  obtain ⟨T193, X193, e193, st193⟩ := getF X192 hx hZ hown (host := "") (Or.inl (gw hw 60 rfl)) Via.refl e192 f_13 (g := (mkF m 51 #[oR mb, oI 1, oI 4, oI 0, oR bo, oI a1, .val .null, oU, oU, oU, oU] [.ref mb, (.ref (D 1))])) rfl rfl (G d25_51)
  refine own_by st193 ?_
  refine own_by (S' := (oM T193 m 55 #[oR mb, oI 1, oI 4, oI 0, oR bo, oI a1, .val .null, oU, oU, oU, oU] [.int 4, .int 0, (.ref (D 1))])) (fun _ k => XS.iloadN X193.here hx rfl (G d25_54) rfl k) ?_
  obtain ⟨T194, h194, X194, e194, W194, st194⟩ := own_stI X193 hx hZ e193 A_1 (j := (0 : Int32)) (by decide) (Nat.le_of_ble_eq_true rfl) (g := (mkF m 55 #[oR mb, oI 1, oI 4, oI 0, oR bo, oI a1, .val .null, oU, oU, oU, oU] [.int 4, .int 0, (.ref (D 1))])) rfl rfl (G d25_55)
  have N := Fr.snoc X194 N (DI.2.1 1 (by decide))
  have E_mb := E_mb.wr W194
  have f_0 := oF f_0 W194 (oP DI 0 3)
  have f_1 := oF f_1 W194 (oP DI 0 3)
  have f_2 := oF f_2 W194 (oP DI 0 3)
  have f_3 := oF f_3 W194 (oP DI 0 3)
  have f_4 := oF f_4 W194 (oP DI 0 3)
  have f_5 := oF f_5 W194 (oP DI 0 3)
  have f_6 := oF f_6 W194 (oP DI 0 3)
  have f_7 := oF f_7 W194 (oP DI 0 3)
  have f_8 := oF f_8 W194 (oP DI 0 3)
  have f_9 := oF f_9 W194 (oP DI 0 3)
  have f_10 := oF f_10 W194 (oP DI 0 3)
  have f_11 := oF f_11 W194 (oP DI 0 3)
  have f_12 := oF f_12 W194 (oP DI 0 3)
  have f_13 := oF f_13 W194 (oP DI 0 3)
  have f_14 := oF f_14 W194 (oP DI 0 3)
  have f_15 := oF f_15 W194 (oP DI 0 3)
  have f_16 := oF f_16 W194 (oP DI 0 3)
  have A_0 := A_0.other W194 (oP DI 2 3)
  have A_1 := A_1.set W194
  have A_2 := A_2.other W194 (Ne.symm (oP DI 3 4))
  have A_3 := A_3.other W194 (Ne.symm (oP DI 3 5))
  have A_4 := A_4.other W194 (Ne.symm (oP DI 3 6))
  have A_5 := A_5.other W194 (Ne.symm (oP DI 3 7))
  have A_6 := A_6.other W194 (Ne.symm (oP DI 3 8))
  have A_7 := A_7.other W194 (Ne.symm (oP DI 3 9))
  have A_8 := A_8.other W194 (Ne.symm (oP DI 3 10))
  have A_9 := A_9.other W194 (Ne.symm (oP DI 3 11))
  have A_li := A_li.other W194 (oP DI 1 3)
  have O := O.wr W194 (DI.2.1 1 (by decide))
  have f_17 := oF f_17 W194 (oP DI 0 3)
  have Zn : n0 ≤ _ := Nat.le_trans Zn (Nat.le_of_eq W194.size.symm)
  have K := K.wr W194 (Or.inl (List.mem_of_getElem? (i := 2) rfl))
  have A_1 : OwnA Z h194 (D 1) .int [.int 4, .int 0, .int 0, .int 0, .int 0, .int 0, .int 0, .int 0, .int 0, .int 0, .int 0, .int 0, .int 0, .int 0, .int 0, .int 0] := A_1
  refine own_by st194 ?_
  refine own_by (S' := (oM T194 m 57 #[oR mb, oI 1, oI 4, oI 0, oR bo, oI a1, .val .null, oU, oU, oU, oU] [.ref mb])) (fun _ k => XS.aloadN X194.here hx rfl (G d25_56) rfl rfl k) ?_
  obtain ⟨T195, X195, e195, st195⟩ := getF X194 hx hZ hown (host := "") (Or.inl (gw hw 30 rfl)) Via.refl e194 f_3 (g := (mkF m 57 #[oR mb, oI 1, oI 4, oI 0, oR bo, oI a1, .val .null, oU, oU, oU, oU] [.ref mb])) rfl rfl (G d25_57)
  refine own_by st195 ?_
  refine own_by (S' := (oM T195 m 61 #[oR mb, oI 1, oI 4, oI 0, oR bo, oI a1, .val .null, oU, oU, oU, oU] [.ref mb, (.ref (D 3))])) (fun _ k => XS.aloadN X195.here hx rfl (G d25_60) rfl rfl k) ?_
  obtain ⟨T196, X196, e196, st196⟩ := getF X195 hx hZ hown (host := "") (Or.inl (gw hw 60 rfl)) Via.refl e195 f_13 (g := (mkF m 61 #[oR mb, oI 1, oI 4, oI 0, oR bo, oI a1, .val .null, oU, oU, oU, oU] [.ref mb, (.ref (D 3))])) rfl rfl (G d25_61)
  refine own_by st196 ?_
  refine own_by (S' := (oM T196 m 66 #[oR mb, oI 1, oI 4, oI 0, oR bo, oI a1, .val .null, oU, oU, oU, oU] [.null, .int 0, (.ref (D 3))])) (fun _ k => XS.aload X196.here hx rfl (G d25_64) rfl rfl k) ?_
  obtain ⟨T197, h197, X197, e197, W197, st197⟩ := own_stO X196 hx hZ e196 A_3 (v := .null) (Or.inl rfl) (j := (0 : Int32)) (by decide) (Nat.le_of_ble_eq_true rfl) (g := (mkF m 66 #[oR mb, oI 1, oI 4, oI 0, oR bo, oI a1, .val .null, oU, oU, oU, oU] [.null, .int 0, (.ref (D 3))])) rfl rfl (G d25_66)
  have N := Fr.snoc X197 N (DI.2.1 3 (by decide))
  have E_mb := E_mb.wr W197
  have f_0 := oF f_0 W197 (oP DI 0 5)
  have f_1 := oF f_1 W197 (oP DI 0 5)
  have f_2 := oF f_2 W197 (oP DI 0 5)
  have f_3 := oF f_3 W197 (oP DI 0 5)
  have f_4 := oF f_4 W197 (oP DI 0 5)
  have f_5 := oF f_5 W197 (oP DI 0 5)
  have f_6 := oF f_6 W197 (oP DI 0 5)
  have f_7 := oF f_7 W197 (oP DI 0 5)
  have f_8 := oF f_8 W197 (oP DI 0 5)
  have f_9 := oF f_9 W197 (oP DI 0 5)
  have f_10 := oF f_10 W197 (oP DI 0 5)
  have f_11 := oF f_11 W197 (oP DI 0 5)
  have f_12 := oF f_12 W197 (oP DI 0 5)
  have f_13 := oF f_13 W197 (oP DI 0 5)
  have f_14 := oF f_14 W197 (oP DI 0 5)
  have f_15 := oF f_15 W197 (oP DI 0 5)
  have f_16 := oF f_16 W197 (oP DI 0 5)
  have A_0 := A_0.other W197 (oP DI 2 5)
  have A_1 := A_1.other W197 (oP DI 3 5)
  have A_2 := A_2.other W197 (oP DI 4 5)
  have A_3 := A_3.set W197
  have A_4 := A_4.other W197 (Ne.symm (oP DI 5 6))
  have A_5 := A_5.other W197 (Ne.symm (oP DI 5 7))
  have A_6 := A_6.other W197 (Ne.symm (oP DI 5 8))
  have A_7 := A_7.other W197 (Ne.symm (oP DI 5 9))
  have A_8 := A_8.other W197 (Ne.symm (oP DI 5 10))
  have A_9 := A_9.other W197 (Ne.symm (oP DI 5 11))
  have A_li := A_li.other W197 (oP DI 1 5)
  have O := O.wr W197 (DI.2.1 3 (by decide))
  have f_17 := oF f_17 W197 (oP DI 0 5)
  have Zn : n0 ≤ _ := Nat.le_trans Zn (Nat.le_of_eq W197.size.symm)
  have K := K.wr W197 (Or.inl (List.mem_of_getElem? (i := 4) rfl))
  have A_3 : OwnO Z h197 (D 3) "java/lang/String" [.null, .null, .null, .null, .null, .null, .null, .null, .null, .null, .null, .null, .null, .null, .null, .null] := A_3
  refine own_by st197 ?_
  refine own_by (S' := (oM T197 m 68 #[oR mb, oI 1, oI 4, oI 0, oR bo, oI a1, .val .null, oU, oU, oU, oU] [.ref mb])) (fun _ k => XS.aloadN X197.here hx rfl (G d25_67) rfl rfl k) ?_
  obtain ⟨T198, X198, e198, st198⟩ := getF X197 hx hZ hown (host := "") (Or.inl (gw hw 26 rfl)) Via.refl e197 f_2 (g := (mkF m 68 #[oR mb, oI 1, oI 4, oI 0, oR bo, oI a1, .val .null, oU, oU, oU, oU] [.ref mb])) rfl rfl (G d25_68)
  refine own_by st198 ?_
  refine own_by (S' := (oM T198 m 72 #[oR mb, oI 1, oI 4, oI 0, oR bo, oI a1, .val .null, oU, oU, oU, oU] [.ref mb, (.ref (D 2))])) (fun _ k => XS.aloadN X198.here hx rfl (G d25_71) rfl rfl k) ?_
  obtain ⟨T199, X199, e199, st199⟩ := getF X198 hx hZ hown (host := "") (Or.inl (gw hw 60 rfl)) Via.refl e198 f_13 (g := (mkF m 72 #[oR mb, oI 1, oI 4, oI 0, oR bo, oI a1, .val .null, oU, oU, oU, oU] [.ref mb, (.ref (D 2))])) rfl rfl (G d25_72)
  refine own_by st199 ?_
  refine own_by (S' := (oM T199 m 94 #[oR mb, oI 1, oI 4, oI 0, oR bo, oI a1, .val .null, oU, oU, oU, oU] [.int 3, .int 2, .ref mb, .int 0, (.ref (D 2))])) (fun _ k => XS.iloadN X199.here hx rfl (G d25_75) rfl (XS.ifYes X199.here hx rfl (pc0 := 76) (pc' := 87) rfl (G d25_76) rfl ((if0 _ _).trans (teq ((by decide) : (0 : Int32) = (0 : Int32))).1) (by decide) (by decide) (XS.aloadN X199.here hx rfl (G d25_87) rfl rfl (XS.iloadN X199.here hx rfl (G d25_88) rfl (XS.iconst X199.here hx rfl (G d25_89) (XS.iadd X199.here hx rfl (G d25_90) rfl (XS.iloadN X199.here hx rfl (G d25_91) rfl (XS.iconst X199.here hx rfl (G d25_92) (XS.isub X199.here hx rfl (G d25_93) rfl k))))))))) ?_
  obtain ⟨cq200, q200, q200'⟩ := E_mb.cell
  obtain ⟨_, _, ⟨T200, L200, k200, n200⟩, -, X200, ⟨Lc200, hQ200, l200, y200, z200⟩, st200⟩ := X199.privateBack hx (y := y_26) hown (mvT hZ (gw hw 156 rfl)) (mvT hZ (gw hw 157 rfl)) (own_selP hZ (gw hw 13 rfl) (gw hw 158 rfl) (gw hw 157 rfl) (by decide)) (Cond.privateMethod_at (mvP hZ (gw hw 158 rfl) (args := #[]))) (mvT hZ (gw hw 159 rfl)) (by decide) (backOf (W := 2) (rm_hash2 l Z a0 hw [] mb li LN c1 h197 n0 Zn f_10 A_li hc1) hZ (gw hw 159 rfl) (gw hw 14 rfl) (by decide) (by decide)) (g := (mkF m 94 #[oR mb, oI 1, oI 4, oI 0, oR bo, oI a1, .val .null, oU, oU, oU, oU] [.int 3, .int 2, .ref mb, .int 0, (.ref (D 2))])) rfl (by rw [hml]; rfl) (Steps.refl _) (a := mb) (by rw [e199]; exact q200) q200' (argsL := [.int 2, .int 3]) (rest := [.int 0, (.ref (D 2))]) (lenOf pd__28II_29I rfl) rfl oZ (G d25_94) (fun _ _ => ⟨rfl, e199, (by decide : 0 + 0 ≤ _), (by decide : 0 + 0 ≤ _)⟩)
  dsimp only [Pt.U, Pt.locs, Pt.cells, Pt.slots] at X200 l200 y200 z200 st200 hQ200
  have X200 := own_recast X200 l200 y200 z200
  obtain ⟨rfl, N200q, eh⟩ := hQ200
  have N := Fr.app N N200q
  refine own_tr st200 ?_
  obtain ⟨T201, h201, X201, e201, W201, st201⟩ := own_stI X200 hx hZ eh A_2 (j := (0 : Int32)) (by decide) (Nat.le_of_ble_eq_true rfl) (g := (mkF m 97 #[oR mb, oI 1, oI 4, oI 0, oR bo, oI a1, .val .null, oU, oU, oU, oU] [(.int (Int32.ofNat c1)), .int 0, (.ref (D 2))])) rfl rfl (G d25_97)
  have N := Fr.snoc X201 N (DI.2.1 2 (by decide))
  have E_mb := E_mb.wr W201
  have f_0 := oF f_0 W201 (oP DI 0 4)
  have f_1 := oF f_1 W201 (oP DI 0 4)
  have f_2 := oF f_2 W201 (oP DI 0 4)
  have f_3 := oF f_3 W201 (oP DI 0 4)
  have f_4 := oF f_4 W201 (oP DI 0 4)
  have f_5 := oF f_5 W201 (oP DI 0 4)
  have f_6 := oF f_6 W201 (oP DI 0 4)
  have f_7 := oF f_7 W201 (oP DI 0 4)
  have f_8 := oF f_8 W201 (oP DI 0 4)
  have f_9 := oF f_9 W201 (oP DI 0 4)
  have f_10 := oF f_10 W201 (oP DI 0 4)
  have f_11 := oF f_11 W201 (oP DI 0 4)
  have f_12 := oF f_12 W201 (oP DI 0 4)
  have f_13 := oF f_13 W201 (oP DI 0 4)
  have f_14 := oF f_14 W201 (oP DI 0 4)
  have f_15 := oF f_15 W201 (oP DI 0 4)
  have f_16 := oF f_16 W201 (oP DI 0 4)
  have A_0 := A_0.other W201 (oP DI 2 4)
  have A_1 := A_1.other W201 (oP DI 3 4)
  have A_2 := A_2.set W201
  have A_3 := A_3.other W201 (Ne.symm (oP DI 4 5))
  have A_4 := A_4.other W201 (Ne.symm (oP DI 4 6))
  have A_5 := A_5.other W201 (Ne.symm (oP DI 4 7))
  have A_6 := A_6.other W201 (Ne.symm (oP DI 4 8))
  have A_7 := A_7.other W201 (Ne.symm (oP DI 4 9))
  have A_8 := A_8.other W201 (Ne.symm (oP DI 4 10))
  have A_9 := A_9.other W201 (Ne.symm (oP DI 4 11))
  have A_li := A_li.other W201 (oP DI 1 4)
  have O := O.wr W201 (DI.2.1 2 (by decide))
  have f_17 := oF f_17 W201 (oP DI 0 4)
  have Zn : n0 ≤ _ := Nat.le_trans Zn (Nat.le_of_eq W201.size.symm)
  have K := K.wr W201 (Or.inl (List.mem_of_getElem? (i := 3) rfl))
  have A_2 : OwnA Z h201 (D 2) .int [(.int (Int32.ofNat c1)), .int 0, .int 0, .int 0, .int 0, .int 0, .int 0, .int 0, .int 0, .int 0, .int 0, .int 0, .int 0, .int 0, .int 0, .int 0] := A_2
  refine own_by st201 ?_
  refine own_by (S' := (oM T201 m 99 #[oR mb, oI 1, oI 4, oI 0, oR bo, oI a1, .val .null, oU, oU, oU, oU] [.ref mb])) (fun _ k => XS.aloadN X201.here hx rfl (G d25_98) rfl rfl k) ?_
  obtain ⟨T202, X202, e202, st202⟩ := getF X201 hx hZ hown (host := "") (Or.inl (gw hw 34 rfl)) Via.refl e201 f_4 (g := (mkF m 99 #[oR mb, oI 1, oI 4, oI 0, oR bo, oI a1, .val .null, oU, oU, oU, oU] [.ref mb])) rfl rfl (G d25_99)
  refine own_by st202 ?_
  refine own_by (S' := (oM T202 m 103 #[oR mb, oI 1, oI 4, oI 0, oR bo, oI a1, .val .null, oU, oU, oU, oU] [.ref mb, (.ref (D 4))])) (fun _ k => XS.aloadN X202.here hx rfl (G d25_102) rfl rfl k) ?_
  obtain ⟨T203, X203, e203, st203⟩ := getF X202 hx hZ hown (host := "") (Or.inl (gw hw 60 rfl)) Via.refl e202 f_13 (g := (mkF m 103 #[oR mb, oI 1, oI 4, oI 0, oR bo, oI a1, .val .null, oU, oU, oU, oU] [.ref mb, (.ref (D 4))])) rfl rfl (G d25_103)
  refine own_by st203 ?_
  refine own_by (S' := (oM T203 m 108 #[oR mb, oI 1, oI 4, oI 0, oR bo, oI a1, .val .null, oU, oU, oU, oU] [.ref bo, .int 0, (.ref (D 4))])) (fun _ k => XS.aload X203.here hx rfl (G d25_106) rfl rfl k) ?_
  obtain ⟨T204, h204, X204, e204, W204, st204⟩ := own_stO X203 hx hZ e203 A_4 (v := (.ref bo)) (own_sto A_4 (Ins.self (EB.ext O.2))) (j := (0 : Int32)) (by decide) (Nat.le_of_ble_eq_true rfl) (g := (mkF m 108 #[oR mb, oI 1, oI 4, oI 0, oR bo, oI a1, .val .null, oU, oU, oU, oU] [.ref bo, .int 0, (.ref (D 4))])) rfl rfl (G d25_108)
  have N := Fr.snoc X204 N (DI.2.1 4 (by decide))
  have E_mb := E_mb.wr W204
  have f_0 := oF f_0 W204 (oP DI 0 6)
  have f_1 := oF f_1 W204 (oP DI 0 6)
  have f_2 := oF f_2 W204 (oP DI 0 6)
  have f_3 := oF f_3 W204 (oP DI 0 6)
  have f_4 := oF f_4 W204 (oP DI 0 6)
  have f_5 := oF f_5 W204 (oP DI 0 6)
  have f_6 := oF f_6 W204 (oP DI 0 6)
  have f_7 := oF f_7 W204 (oP DI 0 6)
  have f_8 := oF f_8 W204 (oP DI 0 6)
  have f_9 := oF f_9 W204 (oP DI 0 6)
  have f_10 := oF f_10 W204 (oP DI 0 6)
  have f_11 := oF f_11 W204 (oP DI 0 6)
  have f_12 := oF f_12 W204 (oP DI 0 6)
  have f_13 := oF f_13 W204 (oP DI 0 6)
  have f_14 := oF f_14 W204 (oP DI 0 6)
  have f_15 := oF f_15 W204 (oP DI 0 6)
  have f_16 := oF f_16 W204 (oP DI 0 6)
  have A_0 := A_0.other W204 (oP DI 2 6)
  have A_1 := A_1.other W204 (oP DI 3 6)
  have A_2 := A_2.other W204 (oP DI 4 6)
  have A_3 := A_3.other W204 (oP DI 5 6)
  have A_4 := A_4.set W204
  have A_5 := A_5.other W204 (Ne.symm (oP DI 6 7))
  have A_6 := A_6.other W204 (Ne.symm (oP DI 6 8))
  have A_7 := A_7.other W204 (Ne.symm (oP DI 6 9))
  have A_8 := A_8.other W204 (Ne.symm (oP DI 6 10))
  have A_9 := A_9.other W204 (Ne.symm (oP DI 6 11))
  have A_li := A_li.other W204 (oP DI 1 6)
  have O := O.wr W204 (DI.2.1 4 (by decide))
  have f_17 := oF f_17 W204 (oP DI 0 6)
  have Zn : n0 ≤ _ := Nat.le_trans Zn (Nat.le_of_eq W204.size.symm)
  have K := K.wr W204 (Or.inl (List.mem_of_getElem? (i := 5) rfl))
  have A_4 : OwnO Z h204 (D 4) "com/example/upright_play/uprightplay/event/Members$Type" [.ref bo, .null, .null, .null, .null, .null, .null, .null, .null, .null, .null, .null, .null, .null, .null, .null] := A_4
  refine own_by st204 ?_
  refine own_by (S' := (oM T204 m 110 #[oR mb, oI 1, oI 4, oI 0, oR bo, oI a1, .val .null, oU, oU, oU, oU] [.ref mb])) (fun _ k => XS.aloadN X204.here hx rfl (G d25_109) rfl rfl k) ?_
  obtain ⟨T205, X205, e205, st205⟩ := getF X204 hx hZ hown (host := "") (Or.inl (gw hw 36 rfl)) Via.refl e204 f_5 (g := (mkF m 110 #[oR mb, oI 1, oI 4, oI 0, oR bo, oI a1, .val .null, oU, oU, oU, oU] [.ref mb])) rfl rfl (G d25_110)
  refine own_by st205 ?_
  refine own_by (S' := (oM T205 m 114 #[oR mb, oI 1, oI 4, oI 0, oR bo, oI a1, .val .null, oU, oU, oU, oU] [.ref mb, (.ref (D 5))])) (fun _ k => XS.aloadN X205.here hx rfl (G d25_113) rfl rfl k) ?_
  obtain ⟨T206, X206, e206, st206⟩ := getF X205 hx hZ hown (host := "") (Or.inl (gw hw 60 rfl)) Via.refl e205 f_13 (g := (mkF m 114 #[oR mb, oI 1, oI 4, oI 0, oR bo, oI a1, .val .null, oU, oU, oU, oU] [.ref mb, (.ref (D 5))])) rfl rfl (G d25_114)
  refine own_by st206 ?_
  refine own_by (S' := (oM T206 m 119 #[oR mb, oI 1, oI 4, oI 0, oR bo, oI a1, .val .null, oU, oU, oU, oU] [.int a1, .int 0, (.ref (D 5))])) (fun _ k => XS.iload X206.here hx rfl (G d25_117) rfl k) ?_
  obtain ⟨T207, h207, X207, e207, W207, st207⟩ := own_stI X206 hx hZ e206 A_5 (j := (0 : Int32)) (by decide) (Nat.le_of_ble_eq_true rfl) (g := (mkF m 119 #[oR mb, oI 1, oI 4, oI 0, oR bo, oI a1, .val .null, oU, oU, oU, oU] [.int a1, .int 0, (.ref (D 5))])) rfl rfl (G d25_119)
  have N := Fr.snoc X207 N (DI.2.1 5 (by decide))
  have E_mb := E_mb.wr W207
  have f_0 := oF f_0 W207 (oP DI 0 7)
  have f_1 := oF f_1 W207 (oP DI 0 7)
  have f_2 := oF f_2 W207 (oP DI 0 7)
  have f_3 := oF f_3 W207 (oP DI 0 7)
  have f_4 := oF f_4 W207 (oP DI 0 7)
  have f_5 := oF f_5 W207 (oP DI 0 7)
  have f_6 := oF f_6 W207 (oP DI 0 7)
  have f_7 := oF f_7 W207 (oP DI 0 7)
  have f_8 := oF f_8 W207 (oP DI 0 7)
  have f_9 := oF f_9 W207 (oP DI 0 7)
  have f_10 := oF f_10 W207 (oP DI 0 7)
  have f_11 := oF f_11 W207 (oP DI 0 7)
  have f_12 := oF f_12 W207 (oP DI 0 7)
  have f_13 := oF f_13 W207 (oP DI 0 7)
  have f_14 := oF f_14 W207 (oP DI 0 7)
  have f_15 := oF f_15 W207 (oP DI 0 7)
  have f_16 := oF f_16 W207 (oP DI 0 7)
  have A_0 := A_0.other W207 (oP DI 2 7)
  have A_1 := A_1.other W207 (oP DI 3 7)
  have A_2 := A_2.other W207 (oP DI 4 7)
  have A_3 := A_3.other W207 (oP DI 5 7)
  have A_4 := A_4.other W207 (oP DI 6 7)
  have A_5 := A_5.set W207
  have A_6 := A_6.other W207 (Ne.symm (oP DI 7 8))
  have A_7 := A_7.other W207 (Ne.symm (oP DI 7 9))
  have A_8 := A_8.other W207 (Ne.symm (oP DI 7 10))
  have A_9 := A_9.other W207 (Ne.symm (oP DI 7 11))
  have A_li := A_li.other W207 (oP DI 1 7)
  have O := O.wr W207 (DI.2.1 5 (by decide))
  have f_17 := oF f_17 W207 (oP DI 0 7)
  have Zn : n0 ≤ _ := Nat.le_trans Zn (Nat.le_of_eq W207.size.symm)
  have K := K.wr W207 (Or.inl (List.mem_of_getElem? (i := 6) rfl))
  have A_5 : OwnA Z h207 (D 5) .int [.int a1, .int 0, .int 0, .int 0, .int 0, .int 0, .int 0, .int 0, .int 0, .int 0, .int 0, .int 0, .int 0, .int 0, .int 0, .int 0] := A_5
  refine own_by st207 ?_
  refine own_by (S' := (oM T207 m 121 #[oR mb, oI 1, oI 4, oI 0, oR bo, oI a1, .val .null, oU, oU, oU, oU] [.ref mb])) (fun _ k => XS.aloadN X207.here hx rfl (G d25_120) rfl rfl k) ?_
  obtain ⟨T208, X208, e208, st208⟩ := getF X207 hx hZ hown (host := "") (Or.inl (gw hw 38 rfl)) Via.refl e207 f_6 (g := (mkF m 121 #[oR mb, oI 1, oI 4, oI 0, oR bo, oI a1, .val .null, oU, oU, oU, oU] [.ref mb])) rfl rfl (G d25_121)
  refine own_by st208 ?_
  refine own_by (S' := (oM T208 m 125 #[oR mb, oI 1, oI 4, oI 0, oR bo, oI a1, .val .null, oU, oU, oU, oU] [.ref mb, (.ref (D 6))])) (fun _ k => XS.aloadN X208.here hx rfl (G d25_124) rfl rfl k) ?_
  obtain ⟨T209, X209, e209, st209⟩ := getF X208 hx hZ hown (host := "") (Or.inl (gw hw 60 rfl)) Via.refl e208 f_13 (g := (mkF m 125 #[oR mb, oI 1, oI 4, oI 0, oR bo, oI a1, .val .null, oU, oU, oU, oU] [.ref mb, (.ref (D 6))])) rfl rfl (G d25_125)
  refine own_by st209 ?_
  refine own_by (S' := (oM T209 m 129 #[oR mb, oI 1, oI 4, oI 0, oR bo, oI a1, .val .null, oU, oU, oU, oU] [.ref mb, .int 0, (.ref (D 6))])) (fun _ k => XS.aloadN X209.here hx rfl (G d25_128) rfl rfl k) ?_
  obtain ⟨T210, X210, e210, st210⟩ := getF X209 hx hZ hown (host := "") (Or.inl (gw hw 58 rfl)) Via.refl e209 f_17 (g := (mkF m 129 #[oR mb, oI 1, oI 4, oI 0, oR bo, oI a1, .val .null, oU, oU, oU, oU] [.ref mb, .int 0, (.ref (D 6))])) rfl rfl (G d25_129)
  refine own_by st210 ?_
  obtain ⟨T211, h211, X211, e211, W211, st211⟩ := own_stI X210 hx hZ e210 A_6 (j := (0 : Int32)) (by decide) (Nat.le_of_ble_eq_true rfl) (g := (mkF m 132 #[oR mb, oI 1, oI 4, oI 0, oR bo, oI a1, .val .null, oU, oU, oU, oU] [.int b1, .int 0, (.ref (D 6))])) rfl rfl (G d25_132)
  have N := Fr.snoc X211 N (DI.2.1 6 (by decide))
  have E_mb := E_mb.wr W211
  have f_0 := oF f_0 W211 (oP DI 0 8)
  have f_1 := oF f_1 W211 (oP DI 0 8)
  have f_2 := oF f_2 W211 (oP DI 0 8)
  have f_3 := oF f_3 W211 (oP DI 0 8)
  have f_4 := oF f_4 W211 (oP DI 0 8)
  have f_5 := oF f_5 W211 (oP DI 0 8)
  have f_6 := oF f_6 W211 (oP DI 0 8)
  have f_7 := oF f_7 W211 (oP DI 0 8)
  have f_8 := oF f_8 W211 (oP DI 0 8)
  have f_9 := oF f_9 W211 (oP DI 0 8)
  have f_10 := oF f_10 W211 (oP DI 0 8)
  have f_11 := oF f_11 W211 (oP DI 0 8)
  have f_12 := oF f_12 W211 (oP DI 0 8)
  have f_13 := oF f_13 W211 (oP DI 0 8)
  have f_14 := oF f_14 W211 (oP DI 0 8)
  have f_15 := oF f_15 W211 (oP DI 0 8)
  have f_16 := oF f_16 W211 (oP DI 0 8)
  have A_0 := A_0.other W211 (oP DI 2 8)
  have A_1 := A_1.other W211 (oP DI 3 8)
  have A_2 := A_2.other W211 (oP DI 4 8)
  have A_3 := A_3.other W211 (oP DI 5 8)
  have A_4 := A_4.other W211 (oP DI 6 8)
  have A_5 := A_5.other W211 (oP DI 7 8)
  have A_6 := A_6.set W211
  have A_7 := A_7.other W211 (Ne.symm (oP DI 8 9))
  have A_8 := A_8.other W211 (Ne.symm (oP DI 8 10))
  have A_9 := A_9.other W211 (Ne.symm (oP DI 8 11))
  have A_li := A_li.other W211 (oP DI 1 8)
  have O := O.wr W211 (DI.2.1 6 (by decide))
  have f_17 := oF f_17 W211 (oP DI 0 8)
  have Zn : n0 ≤ _ := Nat.le_trans Zn (Nat.le_of_eq W211.size.symm)
  have K := K.wr W211 (Or.inl (List.mem_of_getElem? (i := 7) rfl))
  have A_6 : OwnA Z h211 (D 6) .int [.int b1, .int 0, .int 0, .int 0, .int 0, .int 0, .int 0, .int 0, .int 0, .int 0, .int 0, .int 0, .int 0, .int 0, .int 0, .int 0] := A_6
  refine own_by st211 ?_
  refine own_by (S' := (oM T211 m 134 #[oR mb, oI 1, oI 4, oI 0, oR bo, oI a1, .val .null, oU, oU, oU, oU] [.ref mb])) (fun _ k => XS.aloadN X211.here hx rfl (G d25_133) rfl rfl k) ?_
  obtain ⟨T212, X212, e212, st212⟩ := getF X211 hx hZ hown (host := "") (Or.inl (gw hw 40 rfl)) Via.refl e211 f_7 (g := (mkF m 134 #[oR mb, oI 1, oI 4, oI 0, oR bo, oI a1, .val .null, oU, oU, oU, oU] [.ref mb])) rfl rfl (G d25_134)
  refine own_by st212 ?_
  refine own_by (S' := (oM T212 m 138 #[oR mb, oI 1, oI 4, oI 0, oR bo, oI a1, .val .null, oU, oU, oU, oU] [.ref mb, (.ref (D 7))])) (fun _ k => XS.aloadN X212.here hx rfl (G d25_137) rfl rfl k) ?_
  obtain ⟨T213, X213, e213, st213⟩ := getF X212 hx hZ hown (host := "") (Or.inl (gw hw 60 rfl)) Via.refl e212 f_13 (g := (mkF m 138 #[oR mb, oI 1, oI 4, oI 0, oR bo, oI a1, .val .null, oU, oU, oU, oU] [.ref mb, (.ref (D 7))])) rfl rfl (G d25_138)
  refine own_by st213 ?_
  refine own_by (S' := (oM T213 m 142 #[oR mb, oI 1, oI 4, oI 0, oR bo, oI a1, .val .null, oU, oU, oU, oU] [.ref mb, .int 0, (.ref (D 7))])) (fun _ k => XS.aloadN X213.here hx rfl (G d25_141) rfl rfl k) ?_
  obtain ⟨T214, X214, e214, st214⟩ := getF X213 hx hZ hown (host := "") (Or.inl (gw hw 161 rfl)) Via.refl e213 f_15 (g := (mkF m 142 #[oR mb, oI 1, oI 4, oI 0, oR bo, oI a1, .val .null, oU, oU, oU, oU] [.ref mb, .int 0, (.ref (D 7))])) rfl rfl (G d25_142)
  refine own_by st214 ?_
  obtain ⟨T215, h215, X215, e215, W215, st215⟩ := own_stI X214 hx hZ e214 A_7 (j := (0 : Int32)) (by decide) (Nat.le_of_ble_eq_true rfl) (g := (mkF m 145 #[oR mb, oI 1, oI 4, oI 0, oR bo, oI a1, .val .null, oU, oU, oU, oU] [.int 0, .int 0, (.ref (D 7))])) rfl rfl (G d25_145)
  have N := Fr.snoc X215 N (DI.2.1 7 (by decide))
  have E_mb := E_mb.wr W215
  have f_0 := oF f_0 W215 (oP DI 0 9)
  have f_1 := oF f_1 W215 (oP DI 0 9)
  have f_2 := oF f_2 W215 (oP DI 0 9)
  have f_3 := oF f_3 W215 (oP DI 0 9)
  have f_4 := oF f_4 W215 (oP DI 0 9)
  have f_5 := oF f_5 W215 (oP DI 0 9)
  have f_6 := oF f_6 W215 (oP DI 0 9)
  have f_7 := oF f_7 W215 (oP DI 0 9)
  have f_8 := oF f_8 W215 (oP DI 0 9)
  have f_9 := oF f_9 W215 (oP DI 0 9)
  have f_10 := oF f_10 W215 (oP DI 0 9)
  have f_11 := oF f_11 W215 (oP DI 0 9)
  have f_12 := oF f_12 W215 (oP DI 0 9)
  have f_13 := oF f_13 W215 (oP DI 0 9)
  have f_14 := oF f_14 W215 (oP DI 0 9)
  have f_15 := oF f_15 W215 (oP DI 0 9)
  have f_16 := oF f_16 W215 (oP DI 0 9)
  have A_0 := A_0.other W215 (oP DI 2 9)
  have A_1 := A_1.other W215 (oP DI 3 9)
  have A_2 := A_2.other W215 (oP DI 4 9)
  have A_3 := A_3.other W215 (oP DI 5 9)
  have A_4 := A_4.other W215 (oP DI 6 9)
  have A_5 := A_5.other W215 (oP DI 7 9)
  have A_6 := A_6.other W215 (oP DI 8 9)
  have A_7 := A_7.set W215
  have A_8 := A_8.other W215 (Ne.symm (oP DI 9 10))
  have A_9 := A_9.other W215 (Ne.symm (oP DI 9 11))
  have A_li := A_li.other W215 (oP DI 1 9)
  have O := O.wr W215 (DI.2.1 7 (by decide))
  have f_17 := oF f_17 W215 (oP DI 0 9)
  have Zn : n0 ≤ _ := Nat.le_trans Zn (Nat.le_of_eq W215.size.symm)
  have K := K.wr W215 (Or.inl (List.mem_of_getElem? (i := 8) rfl))
  have A_7 : OwnA Z h215 (D 7) .int [.int 0, .int 0, .int 0, .int 0, .int 0, .int 0, .int 0, .int 0, .int 0, .int 0, .int 0, .int 0, .int 0, .int 0, .int 0, .int 0] := A_7
  refine own_by st215 ?_
  refine own_by (S' := (oM T215 m 147 #[oR mb, oI 1, oI 4, oI 0, oR bo, oI a1, .val .null, oU, oU, oU, oU] [.ref mb])) (fun _ k => XS.aloadN X215.here hx rfl (G d25_146) rfl rfl k) ?_
  obtain ⟨T216, X216, e216, st216⟩ := getF X215 hx hZ hown (host := "") (Or.inl (gw hw 42 rfl)) Via.refl e215 f_8 (g := (mkF m 147 #[oR mb, oI 1, oI 4, oI 0, oR bo, oI a1, .val .null, oU, oU, oU, oU] [.ref mb])) rfl rfl (G d25_147)
  refine own_by st216 ?_
  refine own_by (S' := (oM T216 m 151 #[oR mb, oI 1, oI 4, oI 0, oR bo, oI a1, .val .null, oU, oU, oU, oU] [.ref mb, (.ref (D 8))])) (fun _ k => XS.aloadN X216.here hx rfl (G d25_150) rfl rfl k) ?_
  obtain ⟨T217, X217, e217, st217⟩ := getF X216 hx hZ hown (host := "") (Or.inl (gw hw 60 rfl)) Via.refl e216 f_13 (g := (mkF m 151 #[oR mb, oI 1, oI 4, oI 0, oR bo, oI a1, .val .null, oU, oU, oU, oU] [.ref mb, (.ref (D 8))])) rfl rfl (G d25_151)
  refine own_by st217 ?_
  refine own_by (S' := (oM T217 m 155 #[oR mb, oI 1, oI 4, oI 0, oR bo, oI a1, .val .null, oU, oU, oU, oU] [.ref mb, .int 0, (.ref (D 8))])) (fun _ k => XS.aloadN X217.here hx rfl (G d25_154) rfl rfl k) ?_
  obtain ⟨T218, X218, e218, st218⟩ := getF X217 hx hZ hown (host := "") (Or.inl (gw hw 163 rfl)) Via.refl e217 f_16 (g := (mkF m 155 #[oR mb, oI 1, oI 4, oI 0, oR bo, oI a1, .val .null, oU, oU, oU, oU] [.ref mb, .int 0, (.ref (D 8))])) rfl rfl (G d25_155)
  refine own_by st218 ?_
  obtain ⟨T219, h219, X219, e219, W219, st219⟩ := own_stI X218 hx hZ e218 A_8 (j := (0 : Int32)) (by decide) (Nat.le_of_ble_eq_true rfl) (g := (mkF m 158 #[oR mb, oI 1, oI 4, oI 0, oR bo, oI a1, .val .null, oU, oU, oU, oU] [.int 0, .int 0, (.ref (D 8))])) rfl rfl (G d25_158)
  have N := Fr.snoc X219 N (DI.2.1 8 (by decide))
  have E_mb := E_mb.wr W219
  have f_0 := oF f_0 W219 (oP DI 0 10)
  have f_1 := oF f_1 W219 (oP DI 0 10)
  have f_2 := oF f_2 W219 (oP DI 0 10)
  have f_3 := oF f_3 W219 (oP DI 0 10)
  have f_4 := oF f_4 W219 (oP DI 0 10)
  have f_5 := oF f_5 W219 (oP DI 0 10)
  have f_6 := oF f_6 W219 (oP DI 0 10)
  have f_7 := oF f_7 W219 (oP DI 0 10)
  have f_8 := oF f_8 W219 (oP DI 0 10)
  have f_9 := oF f_9 W219 (oP DI 0 10)
  have f_10 := oF f_10 W219 (oP DI 0 10)
  have f_11 := oF f_11 W219 (oP DI 0 10)
  have f_12 := oF f_12 W219 (oP DI 0 10)
  have f_13 := oF f_13 W219 (oP DI 0 10)
  have f_14 := oF f_14 W219 (oP DI 0 10)
  have f_15 := oF f_15 W219 (oP DI 0 10)
  have f_16 := oF f_16 W219 (oP DI 0 10)
  have A_0 := A_0.other W219 (oP DI 2 10)
  have A_1 := A_1.other W219 (oP DI 3 10)
  have A_2 := A_2.other W219 (oP DI 4 10)
  have A_3 := A_3.other W219 (oP DI 5 10)
  have A_4 := A_4.other W219 (oP DI 6 10)
  have A_5 := A_5.other W219 (oP DI 7 10)
  have A_6 := A_6.other W219 (oP DI 8 10)
  have A_7 := A_7.other W219 (oP DI 9 10)
  have A_8 := A_8.set W219
  have A_9 := A_9.other W219 (Ne.symm (oP DI 10 11))
  have A_li := A_li.other W219 (oP DI 1 10)
  have O := O.wr W219 (DI.2.1 8 (by decide))
  have f_17 := oF f_17 W219 (oP DI 0 10)
  have Zn : n0 ≤ _ := Nat.le_trans Zn (Nat.le_of_eq W219.size.symm)
  have K := K.wr W219 (Or.inl (List.mem_of_getElem? (i := 9) rfl))
  have A_8 : OwnA Z h219 (D 8) .int [.int 0, .int 0, .int 0, .int 0, .int 0, .int 0, .int 0, .int 0, .int 0, .int 0, .int 0, .int 0, .int 0, .int 0, .int 0, .int 0] := A_8
  refine own_by st219 ?_
  refine own_by (S' := (oM T219 m 160 #[oR mb, oI 1, oI 4, oI 0, oR bo, oI a1, .val .null, oU, oU, oU, oU] [.ref mb])) (fun _ k => XS.aloadN X219.here hx rfl (G d25_159) rfl rfl k) ?_
  obtain ⟨T220, X220, e220, st220⟩ := getF X219 hx hZ hown (host := "") (Or.inl (gw hw 60 rfl)) Via.refl e219 f_13 (g := (mkF m 160 #[oR mb, oI 1, oI 4, oI 0, oR bo, oI a1, .val .null, oU, oU, oU, oU] [.ref mb])) rfl rfl (G d25_160)
  refine own_by st220 ?_
  refine own_by (S' := (oM T220 m 222 #[oR mb, oI 1, oI 4, oI 0, oR bo, oI a1, .val .null, oI 0, oU, oU, oU] [.ref mb])) (fun _ k => XS.bipush X220.here hx rfl (G d25_163) (XS.icmpYes X220.here hx rfl (pc0 := 165) (pc' := 218) rfl (G d25_165) rfl (feq ((by decide) : ¬ ((0 : Int32) = (16 : Int32)))).2 (by decide) (by decide) (XS.iconst X220.here hx rfl (G d25_218) (XS.istore X220.here hx rfl (G d25_219) rfl (l' := #[oR mb, oI 1, oI 4, oI 0, oR bo, oI a1, .val .null, oI 0, oU, oU, oU]) rfl (XS.aloadN X220.here hx rfl (G d25_221) rfl rfl k))))) ?_
  obtain ⟨T221, X221, e221, st221⟩ := getF X220 hx hZ hown (host := "") (Or.inl (gw hw 62 rfl)) Via.refl e220 f_14 (g := (mkF m 222 #[oR mb, oI 1, oI 4, oI 0, oR bo, oI a1, .val .null, oI 0, oU, oU, oU] [.ref mb])) rfl rfl (G d25_222)
  refine own_by st221 ?_
  refine own_by (S' := (oM T221 m 266 #[oR mb, oI 1, oI 4, oI 0, oR bo, oI a1, .val .null, oI 0, oU, oU, oU] [.ref mb])) (fun _ k => XS.ifnullYes X221.here hx rfl (pc0 := 225) (pc' := 265) rfl (G d25_225) rfl (by decide) (by decide) (XS.aloadN X221.here hx rfl (G d25_265) rfl rfl k)) ?_
  obtain ⟨T222, X222, e222, st222⟩ := getF X221 hx hZ hown (host := "") (Or.inl (gw hw 26 rfl)) Via.refl e221 f_2 (g := (mkF m 266 #[oR mb, oI 1, oI 4, oI 0, oR bo, oI a1, .val .null, oI 0, oU, oU, oU] [.ref mb])) rfl rfl (G d25_266)
  refine own_by st222 ?_
  refine own_by (S' := (oM T222 m 270 #[oR mb, oI 1, oI 4, oI 0, oR bo, oI a1, .val .null, oI 0, oU, oU, oU] [.ref mb, (.ref (D 2))])) (fun _ k => XS.aloadN X222.here hx rfl (G d25_269) rfl rfl k) ?_
  obtain ⟨T223, X223, e223, st223⟩ := getF X222 hx hZ hown (host := "") (Or.inl (gw hw 60 rfl)) Via.refl e222 f_13 (g := (mkF m 270 #[oR mb, oI 1, oI 4, oI 0, oR bo, oI a1, .val .null, oI 0, oU, oU, oU] [.ref mb, (.ref (D 2))])) rfl rfl (G d25_270)
  refine own_by st223 ?_
  refine own_by (S' := (oM T223 m 278 #[oR mb, oI 1, oI 4, oI 0, oR bo, oI a1, .val .null, oI 0, oI (Int32.ofNat c1), oU, oU] [(.int (Int32.ofNat c1))])) (fun _ k => own_iaload X223 hx hZ e223 A_2 (by decide) (v := (.int (Int32.ofNat c1))) rfl (g := (mkF m 273 #[oR mb, oI 1, oI 4, oI 0, oR bo, oI a1, .val .null, oI 0, oU, oU, oU] [.int 0, (.ref (D 2))])) rfl rfl (G d25_273) _ (XS.istore X223.here hx rfl (G d25_274) rfl (l' := #[oR mb, oI 1, oI 4, oI 0, oR bo, oI a1, .val .null, oI 0, oI (Int32.ofNat c1), oU, oU]) rfl (XS.iload X223.here hx rfl (G d25_276) rfl k))) ?_
  obtain ⟨_, _, ⟨T224, L224, k224, n224⟩, -, X224, ⟨Lc224, hQ224, l224, y224, z224⟩, st224⟩ := Jvm.LawKit.callS X223 hx (y := y_27) hown (mvT hZ (gw hw 165 rfl)) (mvT hZ (gw hw 166 rfl)) (mvT hZ (gw hw 14 rfl)) (mvT hZ (gw hw 167 rfl)) (by decide) (backOf (W := 0) (rm_slotOf l Z a0 hw [] c1 h219 n0 Zn hk1.2.1) hZ (gw hw 167 rfl) (gw hw 14 rfl) (by decide) (by decide)) (g := (mkF m 278 #[oR mb, oI 1, oI 4, oI 0, oR bo, oI a1, .val .null, oI 0, oI (Int32.ofNat c1), oU, oU] [(.int (Int32.ofNat c1))])) rfl (by rw [hml]; rfl) (argsL := [(.int (Int32.ofNat c1))]) (rest := []) (lenOf pd__28I_29I rfl) rfl oZ (G d25_278) (fun _ _ => ⟨rfl, e223, (by decide : 0 + 0 ≤ _), (by decide : 0 + 0 ≤ _)⟩)
  dsimp only [Pt.U, Pt.locs, Pt.cells, Pt.slots] at X224 l224 y224 z224 st224 hQ224
  have X224 := own_recast X224 l224 y224 z224
  obtain ⟨rfl, N224q, eh2⟩ := hQ224
  have N := Fr.app N N224q
  refine own_by st224 ?_
  have hs1 := (own_slot c1 hk1.2.1).2
  refine own_by (S' := (oM T224 m 284 #[oR mb, oI 1, oI 4, oI 0, oR bo, oI a1, .val .null, oI 0, oI (Int32.ofNat c1), .val (.int (Int32.ofNat (own_sl c1))), oU] [.ref mb])) (fun _ k => XS.istore X224.here hx rfl (G d25_281) rfl (l' := #[oR mb, oI 1, oI 4, oI 0, oR bo, oI a1, .val .null, oI 0, oI (Int32.ofNat c1), .val (.int (Int32.ofNat (own_sl c1))), oU]) rfl (XS.aloadN X224.here hx rfl (G d25_283) rfl rfl k)) ?_
  obtain ⟨T225, X225, e225, st225⟩ := getF X224 hx hZ hown (host := "") (Or.inl (gw hw 45 rfl)) Via.refl eh2 f_9 (g := (mkF m 284 #[oR mb, oI 1, oI 4, oI 0, oR bo, oI a1, .val .null, oI 0, oI (Int32.ofNat c1), .val (.int (Int32.ofNat (own_sl c1))), oU] [.ref mb])) rfl rfl (G d25_284)
  refine own_by st225 ?_
  refine own_by (S' := (oM T225 m 356 #[oR mb, oI 1, oI 4, oI 0, oR bo, oI a1, .val .null, oI 0, oI (Int32.ofNat c1), .val (.int (Int32.ofNat (own_sl c1))), oU] [.ref mb])) (fun _ k => XS.iload X225.here hx rfl (G d25_287) rfl (own_baload X225 hx hZ e225 A_9 (own_nn (by have := hs1; omega)) (v := (.int 0)) (own_at (by have := hs1; omega) (own_zget hs1)) (g := (mkF m 289 #[oR mb, oI 1, oI 4, oI 0, oR bo, oI a1, .val .null, oI 0, oI (Int32.ofNat c1), .val (.int (Int32.ofNat (own_sl c1))), oU] [(.int (Int32.ofNat (own_sl c1))), (.ref (D 9))])) rfl rfl (G d25_289) _ (XS.ifYes X225.here hx rfl (pc0 := 290) (pc' := 355) rfl (G d25_290) rfl ((if0 _ _).trans (teq ((by decide) : (0 : Int32) = (0 : Int32))).1) (by decide) (by decide) (XS.aloadN X225.here hx rfl (G d25_355) rfl rfl k)))) ?_
  obtain ⟨T226, X226, e226, st226⟩ := getF X225 hx hZ hown (host := "") (Or.inl (gw hw 45 rfl)) Via.refl e225 f_9 (g := (mkF m 356 #[oR mb, oI 1, oI 4, oI 0, oR bo, oI a1, .val .null, oI 0, oI (Int32.ofNat c1), .val (.int (Int32.ofNat (own_sl c1))), oU] [.ref mb])) rfl rfl (G d25_356)
  refine own_by st226 ?_
  refine own_by (S' := (oM T226 m 362 #[oR mb, oI 1, oI 4, oI 0, oR bo, oI a1, .val .null, oI 0, oI (Int32.ofNat c1), .val (.int (Int32.ofNat (own_sl c1))), oU] [.ref mb, (.int (Int32.ofNat (own_sl c1))), (.ref (D 9))])) (fun _ k => XS.iload X226.here hx rfl (G d25_359) rfl (XS.aloadN X226.here hx rfl (G d25_361) rfl rfl k)) ?_
  obtain ⟨T227, X227, e227, st227⟩ := getF X226 hx hZ hown (host := "") (Or.inl (gw hw 60 rfl)) Via.refl e226 f_13 (g := (mkF m 362 #[oR mb, oI 1, oI 4, oI 0, oR bo, oI a1, .val .null, oI 0, oI (Int32.ofNat c1), .val (.int (Int32.ofNat (own_sl c1))), oU] [.ref mb, (.int (Int32.ofNat (own_sl c1))), (.ref (D 9))])) rfl rfl (G d25_362)
  refine own_by st227 ?_
  refine own_by (S' := (oM T227 m 368 #[oR mb, oI 1, oI 4, oI 0, oR bo, oI a1, .val .null, oI 0, oI (Int32.ofNat c1), .val (.int (Int32.ofNat (own_sl c1))), oU] [(.int ((1 : Int32).toInt8.toInt32)), (.int (Int32.ofNat (own_sl c1))), (.ref (D 9))])) (fun _ k => XS.iconst X227.here hx rfl (G d25_365) (XS.iadd X227.here hx rfl (G d25_366) rfl (XS.i2b X227.here hx rfl (G d25_367) rfl k))) ?_
  rw [show ((1 : Int32).toInt8.toInt32) = (1 : Int32) from (by decide)]
  obtain ⟨T228, h228, X228, e228, W228, st228⟩ := own_stB X227 hx hZ e227 A_9 (j := (Int32.ofNat (own_sl c1))) (own_nn (by omega)) (by rw [own_n32 (by omega), own_zlen]; exact hs1) (g := (mkF m 368 #[oR mb, oI 1, oI 4, oI 0, oR bo, oI a1, .val .null, oI 0, oI (Int32.ofNat c1), .val (.int (Int32.ofNat (own_sl c1))), oU] [.int 1, (.int (Int32.ofNat (own_sl c1))), (.ref (D 9))])) rfl rfl (G d25_368)
  have N := Fr.snoc X228 N (DI.2.1 9 (by decide))
  have E_mb := E_mb.wr W228
  have f_0 := oF f_0 W228 (oP DI 0 11)
  have f_1 := oF f_1 W228 (oP DI 0 11)
  have f_2 := oF f_2 W228 (oP DI 0 11)
  have f_3 := oF f_3 W228 (oP DI 0 11)
  have f_4 := oF f_4 W228 (oP DI 0 11)
  have f_5 := oF f_5 W228 (oP DI 0 11)
  have f_6 := oF f_6 W228 (oP DI 0 11)
  have f_7 := oF f_7 W228 (oP DI 0 11)
  have f_8 := oF f_8 W228 (oP DI 0 11)
  have f_9 := oF f_9 W228 (oP DI 0 11)
  have f_10 := oF f_10 W228 (oP DI 0 11)
  have f_11 := oF f_11 W228 (oP DI 0 11)
  have f_12 := oF f_12 W228 (oP DI 0 11)
  have f_13 := oF f_13 W228 (oP DI 0 11)
  have f_14 := oF f_14 W228 (oP DI 0 11)
  have f_15 := oF f_15 W228 (oP DI 0 11)
  have f_16 := oF f_16 W228 (oP DI 0 11)
  have A_0 := A_0.other W228 (oP DI 2 11)
  have A_1 := A_1.other W228 (oP DI 3 11)
  have A_2 := A_2.other W228 (oP DI 4 11)
  have A_3 := A_3.other W228 (oP DI 5 11)
  have A_4 := A_4.other W228 (oP DI 6 11)
  have A_5 := A_5.other W228 (oP DI 7 11)
  have A_6 := A_6.other W228 (oP DI 8 11)
  have A_7 := A_7.other W228 (oP DI 9 11)
  have A_8 := A_8.other W228 (oP DI 10 11)
  have A_9 := A_9.set W228
  have A_li := A_li.other W228 (oP DI 1 11)
  have O := O.wr W228 (DI.2.1 9 (by decide))
  have f_17 := oF f_17 W228 (oP DI 0 11)
  have Zn : n0 ≤ _ := Nat.le_trans Zn (Nat.le_of_eq W228.size.symm)
  have K := K.wr W228 (Or.inl (List.mem_of_getElem? (i := 10) rfl))
  have A_9 : OwnA Z h228 (D 9) .byte (own_S1 c1) := (by have q := A_9; rw [show (1 : Int32).toInt8.toInt32 = 1 by decide, own_n32 (by omega)] at q; exact q)
  refine own_by st228 ?_
  refine own_by (S' := (oM T228 m 401 #[oR mb, oI 1, oI 4, oI 0, oR bo, oI a1, .val .null, oI 0, oI (Int32.ofNat c1), .val (.int (Int32.ofNat (own_sl c1))), oU] [.ref mb, .ref mb])) (fun _ k => XS.iload X228.here hx rfl (G d25_369) rfl (XS.ifYes X228.here hx rfl (pc0 := 371) (pc' := 399) rfl (G d25_371) rfl ((if0 _ _).trans (teq ((by decide) : (0 : Int32) = (0 : Int32))).1) (by decide) (by decide) (XS.aloadN X228.here hx rfl (G d25_399) rfl rfl (XS.dup X228.here hx rfl (G d25_400) rfl rfl k)))) ?_
  obtain ⟨T229, X229, e229, st229⟩ := getF X228 hx hZ hown (host := "") (Or.inl (gw hw 60 rfl)) Via.refl e228 f_13 (g := (mkF m 401 #[oR mb, oI 1, oI 4, oI 0, oR bo, oI a1, .val .null, oI 0, oI (Int32.ofNat c1), .val (.int (Int32.ofNat (own_sl c1))), oU] [.ref mb, .ref mb])) rfl rfl (G d25_401)
  refine own_by st229 ?_
  refine own_by (S' := (oM T229 m 406 #[oR mb, oI 1, oI 4, oI 0, oR bo, oI a1, .val .null, oI 0, oI (Int32.ofNat c1), .val (.int (Int32.ofNat (own_sl c1))), oU] [.int 1, .ref mb])) (fun _ k => XS.iconst X229.here hx rfl (G d25_404) (XS.iadd X229.here hx rfl (G d25_405) rfl k)) ?_
  obtain ⟨T230, h230, X230, e230, W230, st230⟩ := putF X229 hx hZ hown (host := "") (Or.inl (gw hw 60 rfl)) Via.refl e229 f_13 E_mb (Or.inl (gw hw 61 rfl)) (gw hw 13 rfl) (ty := .int) (by decide) rfl rfl (g := (mkF m 406 #[oR mb, oI 1, oI 4, oI 0, oR bo, oI a1, .val .null, oI 0, oI (Int32.ofNat c1), .val (.int (Int32.ofNat (own_sl c1))), oU] [.int 1, .ref mb])) rfl rfl (G d25_406)
  have N := Fr.snoc X230 N DI.1
  have E_mb := E_mb.wr W230
  have f_0 := oT f_0 W230 (Or.inl (gw hw 23 rfl)) (Or.inl (gw hw 61 rfl)) (.array .int) .int
  have f_1 := oT f_1 W230 (Or.inl (gw hw 25 rfl)) (Or.inl (gw hw 61 rfl)) (.array .int) .int
  have f_2 := oT f_2 W230 (Or.inl (gw hw 27 rfl)) (Or.inl (gw hw 61 rfl)) (.array .int) .int
  have f_3 := oT f_3 W230 (Or.inl (gw hw 31 rfl)) (Or.inl (gw hw 61 rfl)) (.array (.object "java/lang/String")) .int
  have f_4 := oT f_4 W230 (Or.inl (gw hw 35 rfl)) (Or.inl (gw hw 61 rfl)) (.array (.object "com/example/upright_play/uprightplay/event/Members$Type")) .int
  have f_5 := oT f_5 W230 (Or.inl (gw hw 37 rfl)) (Or.inl (gw hw 61 rfl)) (.array .int) .int
  have f_6 := oT f_6 W230 (Or.inl (gw hw 39 rfl)) (Or.inl (gw hw 61 rfl)) (.array .int) .int
  have f_7 := oT f_7 W230 (Or.inl (gw hw 41 rfl)) (Or.inl (gw hw 61 rfl)) (.array .int) .int
  have f_8 := oT f_8 W230 (Or.inl (gw hw 43 rfl)) (Or.inl (gw hw 61 rfl)) (.array .int) .int
  have f_9 := oT f_9 W230 (Or.inr (gw hw 46 rfl)) (Or.inl (gw hw 61 rfl)) (.array .byte) .int
  have f_10 := oT f_10 W230 (Or.inl (gw hw 53 rfl)) (Or.inl (gw hw 61 rfl)) (.array .char) .int
  have f_11 := oT f_11 W230 (Or.inl (gw hw 55 rfl)) (Or.inl (gw hw 61 rfl)) .int .int
  have f_12 := oT f_12 W230 (Or.inl (gw hw 57 rfl)) (Or.inl (gw hw 61 rfl)) .long .int
  have f_13 := f_13.same W230
  have f_14 := oT f_14 W230 (Or.inl (gw hw 63 rfl)) (Or.inl (gw hw 61 rfl)) (.object "java/util/Map") .int
  have f_15 := oT f_15 W230 (Or.inl (gw hw 162 rfl)) (Or.inl (gw hw 61 rfl)) .int .int
  have f_16 := oT f_16 W230 (Or.inl (gw hw 164 rfl)) (Or.inl (gw hw 61 rfl)) .int .int
  have A_0 := A_0.other W230 (Ne.symm (oP DI 0 2))
  have A_1 := A_1.other W230 (Ne.symm (oP DI 0 3))
  have A_2 := A_2.other W230 (Ne.symm (oP DI 0 4))
  have A_3 := A_3.other W230 (Ne.symm (oP DI 0 5))
  have A_4 := A_4.other W230 (Ne.symm (oP DI 0 6))
  have A_5 := A_5.other W230 (Ne.symm (oP DI 0 7))
  have A_6 := A_6.other W230 (Ne.symm (oP DI 0 8))
  have A_7 := A_7.other W230 (Ne.symm (oP DI 0 9))
  have A_8 := A_8.other W230 (Ne.symm (oP DI 0 10))
  have A_9 := A_9.other W230 (Ne.symm (oP DI 0 11))
  have A_li := A_li.other W230 (Ne.symm (oP DI 0 1))
  have O := O.wr W230 DI.1
  have f_17 := oT f_17 W230 (Or.inl (gw hw 59 rfl)) (Or.inl (gw hw 61 rfl)) .int .int
  have Zn : n0 ≤ _ := Nat.le_trans Zn (Nat.le_of_eq W230.size.symm)
  have K := K.wr W230 (Or.inl (List.mem_of_getElem? (i := 0) rfl))
  refine own_by st230 ?_
  exact own_ret0 X230 hx Bd.returns (G d25_409) hlk (by decide : 0 ≤ _) (by decide : 0 ≤ _) (by rw [e230]; exact ⟨rfl, N, K, ⟨E_mb, f_0, f_1, f_2, f_3, f_4, f_5, f_6, f_7, f_8, f_9, f_10, f_11, f_12, f_13, f_14, f_15, f_16, A_0, A_1, A_2, A_3, A_4, A_5, A_6, A_7, A_8, A_9⟩, f_17⟩)
theorem ef_rm_add1 (m : MethodId) (x0 : Addr) (x1 : Int32) (x2 : Int32) (x3 : Int32) (x4 : Addr) (x5 : Int32) : entryFrame m #[.ref x0, .int x1, .int x2, .int x3, .ref x4, .int x5] 11 = mkF m 0 #[oR x0, oI x1, oI x2, oI x3, oR x4, oI x5, oU, oU, oU, oU, oU] [] := by first | (simp [entryFrame, mkF, argsToLocals, Value.category]; done) | rfl
def Q_rm_add1 (Z : State) (mb li : Addr) (D : Nat → Addr) (LN : List Value) (c1 c2 : Nat) (a1 b1 a2 b2 : Int32) (cs : Int32) (fo : Value) (bo : Addr) (h0 : Heap) (n0 : Nat) (v : Option Value) (h : Heap) (L : List Loc) : Prop := v = none ∧ Fr n0 L ∧ Keep h0 h (mb :: [D 0, D 1, D 2, D 3, D 4, D 5, D 6, D 7, D 8, D 9]) ∧ OwnM Z h mb D (own_V2 c1 c2 a1 b1 a2 b2 bo) (.ref li) 23 1 2 ∧ Fld Z h mb "com/example/upright_play/uprightplay/event/Members" "pos" "I" (.int b2)
set_option maxRecDepth 65536 in
set_option maxHeartbeats 40000000 in
theorem rm_add1 (l : Launch) (Z : State) (a0 : Array Value) (hw : ∀ d ∈ tables_1, d.before a0 Z = true) (ws : List Jvm.Cond) (mb li : Addr) (D : Nat → Addr) (LN : List Value) (c1 c2 : Nat) (a1 b1 a2 b2 : Int32) (cs : Int32) (fo : Value) (bo : Addr) (h0 : Heap) (n0 : Nat) (Zn : n0 ≤ h0.size) (M : OwnM Z h0 mb D (own_V1 c1 a1 b1 bo) (.ref li) 23 1 1) (DI : own_di n0 mb li D) (A_li : OwnA Z h0 li .char LN) (f_17 : Fld Z h0 mb "com/example/upright_play/uprightplay/event/Members" "pos" "I" (.int b2)) (hc2 : LN[13]? = some (.int (Int32.ofNat c2))) (hk1 : own_nc c1) (hk2 : own_nc c2) (h12 : c1 ≠ c2) (O : Old Z n0 h0) (SS : own_st Z cs fo bo) :
    MetFree l y_25 (head1 (Jvm.Cond.code y_25 c_25 11 none :: ws) (oQ 1 0 0 24)) (fun a U => a = #[.ref mb, .int 12, .int 15, .int 0, .ref bo, .int a2] ∧ Z.Warmed39 U.vm ∧ U.heap = h0) (fun _ _ _ _ _ => True) (fun _ U o U' => ∃ v L, o = .returned v ∧ (Q_rm_add1 Z mb li D LN c1 c2 a1 b1 a2 b2 cs fo bo h0 n0) v U'.heap L ∧ FrameEnd U o U' L (oQ 1 0 0 24).cells (oQ 1 0 0 24).slots) := by
  refine MetFree.of_bodySF (plainFor_of_name pn_25) hisR ?_
  intro p e s m args below meth c s₁ Bd hml0 hP hK
  obtain ⟨rfl, hZ, hh⟩ := hP
  have hx := Bd.exec
  have G := @oG _ _ Bd.bytes
  have hml : c.maxLocals = 11 := hml0
  have hown : s.vm.findClass "com/example/upright_play/uprightplay/event/Members" = some m.cls := findClass_of_methodNamed Bd.named
  have hnm := (name_of_methodNamed Bd.named Bd.method).1
  have hlk : meth.locks = false := BodyLoose.notSynchronized Bd
  have X0 : Stand p l e (oQ 1 0 0 24) s m #[.ref mb, .int 12, .int 15, .int 0, .ref bo, .int a2] below meth c s₁ [] 0 0 := Stand.of_body Bd
  have e0 : s₁.heap = h0 := by rw [← hh, Bd.state]; rfl
  have N := Fr.nil n0
  have K := Keep.refl h0 [mb, (D 0), (D 1), (D 2), (D 3), (D 4), (D 5), (D 6), (D 7), (D 8), (D 9)]
  refine own_start (cl := (oQ 1 0 0 24).cells) (sl := (oQ 1 0 0 24).slots) (Q := (Q_rm_add1 Z mb li D LN c1 c2 a1 b1 a2 b2 cs fo bo h0 n0)) (ef_rm_add1 m mb ((12 : Int32)) ((15 : Int32)) ((0 : Int32)) bo a2) ?_
  obtain ⟨E_mb, f_0, f_1, f_2, f_3, f_4, f_5, f_6, f_7, f_8, f_9, f_10, f_11, f_12, f_13, f_14, f_15, f_16, A_0, A_1, A_2, A_3, A_4, A_5, A_6, A_7, A_8, A_9⟩ := M
  have A_0 : OwnA Z h0 (D 0) .int [.int 1, .int 0, .int 0, .int 0, .int 0, .int 0, .int 0, .int 0, .int 0, .int 0, .int 0, .int 0, .int 0, .int 0, .int 0, .int 0] := A_0
  have A_1 : OwnA Z h0 (D 1) .int [.int 4, .int 0, .int 0, .int 0, .int 0, .int 0, .int 0, .int 0, .int 0, .int 0, .int 0, .int 0, .int 0, .int 0, .int 0, .int 0] := A_1
  have A_2 : OwnA Z h0 (D 2) .int [.int (Int32.ofNat c1), .int 0, .int 0, .int 0, .int 0, .int 0, .int 0, .int 0, .int 0, .int 0, .int 0, .int 0, .int 0, .int 0, .int 0, .int 0] := A_2
  have A_3 : OwnO Z h0 (D 3) "java/lang/String" [.null, .null, .null, .null, .null, .null, .null, .null, .null, .null, .null, .null, .null, .null, .null, .null] := A_3
  have A_4 : OwnO Z h0 (D 4) "com/example/upright_play/uprightplay/event/Members$Type" [.ref bo, .null, .null, .null, .null, .null, .null, .null, .null, .null, .null, .null, .null, .null, .null, .null] := A_4
  have A_5 : OwnA Z h0 (D 5) .int [.int a1, .int 0, .int 0, .int 0, .int 0, .int 0, .int 0, .int 0, .int 0, .int 0, .int 0, .int 0, .int 0, .int 0, .int 0, .int 0] := A_5
  have A_6 : OwnA Z h0 (D 6) .int [.int b1, .int 0, .int 0, .int 0, .int 0, .int 0, .int 0, .int 0, .int 0, .int 0, .int 0, .int 0, .int 0, .int 0, .int 0, .int 0] := A_6
  have A_7 : OwnA Z h0 (D 7) .int [.int 0, .int 0, .int 0, .int 0, .int 0, .int 0, .int 0, .int 0, .int 0, .int 0, .int 0, .int 0, .int 0, .int 0, .int 0, .int 0] := A_7
  have A_8 : OwnA Z h0 (D 8) .int [.int 0, .int 0, .int 0, .int 0, .int 0, .int 0, .int 0, .int 0, .int 0, .int 0, .int 0, .int 0, .int 0, .int 0, .int 0, .int 0] := A_8
  have A_9 : OwnA Z h0 (D 9) .byte (own_S1 c1) := A_9
  obtain ⟨SC, hcs, SF, hfo, SB, EB⟩ := SS
  refine own_by (S' := (oM s₁ m 1 #[oR mb, oI 12, oI 15, oI 0, oR bo, oI a2, oU, oU, oU, oU, oU] [.ref mb])) (fun _ k => XS.aloadN X0.here hx rfl (G d25_0) rfl rfl k) ?_
  obtain ⟨T231, X231, e231, st231⟩ := getF X0 hx hZ hown (host := "") (Or.inl (gw hw 60 rfl)) Via.refl e0 f_13 (g := (mkF m 1 #[oR mb, oI 12, oI 15, oI 0, oR bo, oI a2, oU, oU, oU, oU, oU] [.ref mb])) rfl rfl (G d25_1)
  refine own_by st231 ?_
  refine own_by (S' := (oM T231 m 5 #[oR mb, oI 12, oI 15, oI 0, oR bo, oI a2, oU, oU, oU, oU, oU] [.ref mb, .int 1])) (fun _ k => XS.aloadN X231.here hx rfl (G d25_4) rfl rfl k) ?_
  obtain ⟨T232, X232, e232, st232⟩ := getF X231 hx hZ hown (host := "") (Or.inl (gw hw 34 rfl)) Via.refl e231 f_4 (g := (mkF m 5 #[oR mb, oI 12, oI 15, oI 0, oR bo, oI a2, oU, oU, oU, oU, oU] [.ref mb, .int 1])) rfl rfl (G d25_5)
  refine own_by st232 ?_
  refine own_by (S' := (oM T232 m 37 #[oR mb, oI 12, oI 15, oI 0, oR bo, oI a2, .val .null, oU, oU, oU, oU] [.ref mb])) (fun _ k => own_len X232 hx hZ e232 A_4.toA rfl (g := (mkF m 8 #[oR mb, oI 12, oI 15, oI 0, oR bo, oI a2, oU, oU, oU, oU, oU] [(.ref (D 4)), .int 1])) rfl rfl (G d25_8) _ (XS.icmpYes X232.here hx rfl (pc0 := 9) (pc' := 16) rfl (G d25_9) rfl (feq ((by decide) : ¬ ((1 : Int32) = (16 : Int32)))).2 (by decide) (by decide) (XS.iloadN X232.here hx rfl (G d25_16) rfl (XS.ifYes X232.here hx rfl (pc0 := 17) (pc' := 33) rfl (G d25_17) rfl ((if0 _ _).trans (teq ((by decide) : (0 : Int32) = (0 : Int32))).1) (by decide) (by decide) (XS.aconstNull X232.here hx rfl (G d25_33) (XS.astore X232.here hx rfl (G d25_34) rfl rfl (l' := #[oR mb, oI 12, oI 15, oI 0, oR bo, oI a2, .val .null, oU, oU, oU, oU]) rfl (XS.aloadN X232.here hx rfl (G d25_36) rfl rfl k))))))) ?_
  obtain ⟨T233, X233, e233, st233⟩ := getF X232 hx hZ hown (host := "") (Or.inl (gw hw 22 rfl)) Via.refl e232 f_0 (g := (mkF m 37 #[oR mb, oI 12, oI 15, oI 0, oR bo, oI a2, .val .null, oU, oU, oU, oU] [.ref mb])) rfl rfl (G d25_37)
  refine own_by st233 ?_
  refine own_by (S' := (oM T233 m 41 #[oR mb, oI 12, oI 15, oI 0, oR bo, oI a2, .val .null, oU, oU, oU, oU] [.ref mb, (.ref (D 0))])) (fun _ k => XS.aloadN X233.here hx rfl (G d25_40) rfl rfl k) ?_
  obtain ⟨T234, X234, e234, st234⟩ := getF X233 hx hZ hown (host := "") (Or.inl (gw hw 60 rfl)) Via.refl e233 f_13 (g := (mkF m 41 #[oR mb, oI 12, oI 15, oI 0, oR bo, oI a2, .val .null, oU, oU, oU, oU] [.ref mb, (.ref (D 0))])) rfl rfl (G d25_41)
  refine own_by st234 ?_
  refine own_by (S' := (oM T234 m 45 #[oR mb, oI 12, oI 15, oI 0, oR bo, oI a2, .val .null, oU, oU, oU, oU] [.int 12, .int 1, (.ref (D 0))])) (fun _ k => XS.iloadN X234.here hx rfl (G d25_44) rfl k) ?_
  obtain ⟨T235, h235, X235, e235, W235, st235⟩ := own_stI X234 hx hZ e234 A_0 (j := (1 : Int32)) (by decide) (Nat.le_of_ble_eq_true rfl) (g := (mkF m 45 #[oR mb, oI 12, oI 15, oI 0, oR bo, oI a2, .val .null, oU, oU, oU, oU] [.int 12, .int 1, (.ref (D 0))])) rfl rfl (G d25_45)
  have N := Fr.snoc X235 N (DI.2.1 0 (by decide))
  have E_mb := E_mb.wr W235
  have f_0 := oF f_0 W235 (oP DI 0 2)
  have f_1 := oF f_1 W235 (oP DI 0 2)
  have f_2 := oF f_2 W235 (oP DI 0 2)
  have f_3 := oF f_3 W235 (oP DI 0 2)
  have f_4 := oF f_4 W235 (oP DI 0 2)
  have f_5 := oF f_5 W235 (oP DI 0 2)
  have f_6 := oF f_6 W235 (oP DI 0 2)
  have f_7 := oF f_7 W235 (oP DI 0 2)
  have f_8 := oF f_8 W235 (oP DI 0 2)
  have f_9 := oF f_9 W235 (oP DI 0 2)
  have f_10 := oF f_10 W235 (oP DI 0 2)
  have f_11 := oF f_11 W235 (oP DI 0 2)
  have f_12 := oF f_12 W235 (oP DI 0 2)
  have f_13 := oF f_13 W235 (oP DI 0 2)
  have f_14 := oF f_14 W235 (oP DI 0 2)
  have f_15 := oF f_15 W235 (oP DI 0 2)
  have f_16 := oF f_16 W235 (oP DI 0 2)
  have A_0 := A_0.set W235
  have A_1 := A_1.other W235 (Ne.symm (oP DI 2 3))
  have A_2 := A_2.other W235 (Ne.symm (oP DI 2 4))
  have A_3 := A_3.other W235 (Ne.symm (oP DI 2 5))
  have A_4 := A_4.other W235 (Ne.symm (oP DI 2 6))
  have A_5 := A_5.other W235 (Ne.symm (oP DI 2 7))
  have A_6 := A_6.other W235 (Ne.symm (oP DI 2 8))
  have A_7 := A_7.other W235 (Ne.symm (oP DI 2 9))
  have A_8 := A_8.other W235 (Ne.symm (oP DI 2 10))
  have A_9 := A_9.other W235 (Ne.symm (oP DI 2 11))
  have A_li := A_li.other W235 (oP DI 1 2)
  have O := O.wr W235 (DI.2.1 0 (by decide))
  have f_17 := oF f_17 W235 (oP DI 0 2)
  have Zn : n0 ≤ _ := Nat.le_trans Zn (Nat.le_of_eq W235.size.symm)
  have K := K.wr W235 (Or.inl (List.mem_of_getElem? (i := 1) rfl))
  have A_0 : OwnA Z h235 (D 0) .int [.int 1, .int 12, .int 0, .int 0, .int 0, .int 0, .int 0, .int 0, .int 0, .int 0, .int 0, .int 0, .int 0, .int 0, .int 0, .int 0] := A_0
  refine own_by st235 ?_
  refine own_by (S' := (oM T235 m 47 #[oR mb, oI 12, oI 15, oI 0, oR bo, oI a2, .val .null, oU, oU, oU, oU] [.ref mb])) (fun _ k => XS.aloadN X235.here hx rfl (G d25_46) rfl rfl k) ?_
  obtain ⟨T236, X236, e236, st236⟩ := getF X235 hx hZ hown (host := "") (Or.inl (gw hw 24 rfl)) Via.refl e235 f_1 (g := (mkF m 47 #[oR mb, oI 12, oI 15, oI 0, oR bo, oI a2, .val .null, oU, oU, oU, oU] [.ref mb])) rfl rfl (G d25_47)
  refine own_by st236 ?_
  refine own_by (S' := (oM T236 m 51 #[oR mb, oI 12, oI 15, oI 0, oR bo, oI a2, .val .null, oU, oU, oU, oU] [.ref mb, (.ref (D 1))])) (fun _ k => XS.aloadN X236.here hx rfl (G d25_50) rfl rfl k) ?_
  obtain ⟨T237, X237, e237, st237⟩ := getF X236 hx hZ hown (host := "") (Or.inl (gw hw 60 rfl)) Via.refl e236 f_13 (g := (mkF m 51 #[oR mb, oI 12, oI 15, oI 0, oR bo, oI a2, .val .null, oU, oU, oU, oU] [.ref mb, (.ref (D 1))])) rfl rfl (G d25_51)
  refine own_by st237 ?_
  refine own_by (S' := (oM T237 m 55 #[oR mb, oI 12, oI 15, oI 0, oR bo, oI a2, .val .null, oU, oU, oU, oU] [.int 15, .int 1, (.ref (D 1))])) (fun _ k => XS.iloadN X237.here hx rfl (G d25_54) rfl k) ?_
  obtain ⟨T238, h238, X238, e238, W238, st238⟩ := own_stI X237 hx hZ e237 A_1 (j := (1 : Int32)) (by decide) (Nat.le_of_ble_eq_true rfl) (g := (mkF m 55 #[oR mb, oI 12, oI 15, oI 0, oR bo, oI a2, .val .null, oU, oU, oU, oU] [.int 15, .int 1, (.ref (D 1))])) rfl rfl (G d25_55)
  have N := Fr.snoc X238 N (DI.2.1 1 (by decide))
  have E_mb := E_mb.wr W238
  have f_0 := oF f_0 W238 (oP DI 0 3)
  have f_1 := oF f_1 W238 (oP DI 0 3)
  have f_2 := oF f_2 W238 (oP DI 0 3)
  have f_3 := oF f_3 W238 (oP DI 0 3)
  have f_4 := oF f_4 W238 (oP DI 0 3)
  have f_5 := oF f_5 W238 (oP DI 0 3)
  have f_6 := oF f_6 W238 (oP DI 0 3)
  have f_7 := oF f_7 W238 (oP DI 0 3)
  have f_8 := oF f_8 W238 (oP DI 0 3)
  have f_9 := oF f_9 W238 (oP DI 0 3)
  have f_10 := oF f_10 W238 (oP DI 0 3)
  have f_11 := oF f_11 W238 (oP DI 0 3)
  have f_12 := oF f_12 W238 (oP DI 0 3)
  have f_13 := oF f_13 W238 (oP DI 0 3)
  have f_14 := oF f_14 W238 (oP DI 0 3)
  have f_15 := oF f_15 W238 (oP DI 0 3)
  have f_16 := oF f_16 W238 (oP DI 0 3)
  have A_0 := A_0.other W238 (oP DI 2 3)
  have A_1 := A_1.set W238
  have A_2 := A_2.other W238 (Ne.symm (oP DI 3 4))
  have A_3 := A_3.other W238 (Ne.symm (oP DI 3 5))
  have A_4 := A_4.other W238 (Ne.symm (oP DI 3 6))
  have A_5 := A_5.other W238 (Ne.symm (oP DI 3 7))
  have A_6 := A_6.other W238 (Ne.symm (oP DI 3 8))
  have A_7 := A_7.other W238 (Ne.symm (oP DI 3 9))
  have A_8 := A_8.other W238 (Ne.symm (oP DI 3 10))
  have A_9 := A_9.other W238 (Ne.symm (oP DI 3 11))
  have A_li := A_li.other W238 (oP DI 1 3)
  have O := O.wr W238 (DI.2.1 1 (by decide))
  have f_17 := oF f_17 W238 (oP DI 0 3)
  have Zn : n0 ≤ _ := Nat.le_trans Zn (Nat.le_of_eq W238.size.symm)
  have K := K.wr W238 (Or.inl (List.mem_of_getElem? (i := 2) rfl))
  have A_1 : OwnA Z h238 (D 1) .int [.int 4, .int 15, .int 0, .int 0, .int 0, .int 0, .int 0, .int 0, .int 0, .int 0, .int 0, .int 0, .int 0, .int 0, .int 0, .int 0] := A_1
  refine own_by st238 ?_
  refine own_by (S' := (oM T238 m 57 #[oR mb, oI 12, oI 15, oI 0, oR bo, oI a2, .val .null, oU, oU, oU, oU] [.ref mb])) (fun _ k => XS.aloadN X238.here hx rfl (G d25_56) rfl rfl k) ?_
  obtain ⟨T239, X239, e239, st239⟩ := getF X238 hx hZ hown (host := "") (Or.inl (gw hw 30 rfl)) Via.refl e238 f_3 (g := (mkF m 57 #[oR mb, oI 12, oI 15, oI 0, oR bo, oI a2, .val .null, oU, oU, oU, oU] [.ref mb])) rfl rfl (G d25_57)
  refine own_by st239 ?_
  refine own_by (S' := (oM T239 m 61 #[oR mb, oI 12, oI 15, oI 0, oR bo, oI a2, .val .null, oU, oU, oU, oU] [.ref mb, (.ref (D 3))])) (fun _ k => XS.aloadN X239.here hx rfl (G d25_60) rfl rfl k) ?_
  obtain ⟨T240, X240, e240, st240⟩ := getF X239 hx hZ hown (host := "") (Or.inl (gw hw 60 rfl)) Via.refl e239 f_13 (g := (mkF m 61 #[oR mb, oI 12, oI 15, oI 0, oR bo, oI a2, .val .null, oU, oU, oU, oU] [.ref mb, (.ref (D 3))])) rfl rfl (G d25_61)
  refine own_by st240 ?_
  refine own_by (S' := (oM T240 m 66 #[oR mb, oI 12, oI 15, oI 0, oR bo, oI a2, .val .null, oU, oU, oU, oU] [.null, .int 1, (.ref (D 3))])) (fun _ k => XS.aload X240.here hx rfl (G d25_64) rfl rfl k) ?_
  obtain ⟨T241, h241, X241, e241, W241, st241⟩ := own_stO X240 hx hZ e240 A_3 (v := .null) (Or.inl rfl) (j := (1 : Int32)) (by decide) (Nat.le_of_ble_eq_true rfl) (g := (mkF m 66 #[oR mb, oI 12, oI 15, oI 0, oR bo, oI a2, .val .null, oU, oU, oU, oU] [.null, .int 1, (.ref (D 3))])) rfl rfl (G d25_66)
  have N := Fr.snoc X241 N (DI.2.1 3 (by decide))
  have E_mb := E_mb.wr W241
  have f_0 := oF f_0 W241 (oP DI 0 5)
  have f_1 := oF f_1 W241 (oP DI 0 5)
  have f_2 := oF f_2 W241 (oP DI 0 5)
  have f_3 := oF f_3 W241 (oP DI 0 5)
  have f_4 := oF f_4 W241 (oP DI 0 5)
  have f_5 := oF f_5 W241 (oP DI 0 5)
  have f_6 := oF f_6 W241 (oP DI 0 5)
  have f_7 := oF f_7 W241 (oP DI 0 5)
  have f_8 := oF f_8 W241 (oP DI 0 5)
  have f_9 := oF f_9 W241 (oP DI 0 5)
  have f_10 := oF f_10 W241 (oP DI 0 5)
  have f_11 := oF f_11 W241 (oP DI 0 5)
  have f_12 := oF f_12 W241 (oP DI 0 5)
  have f_13 := oF f_13 W241 (oP DI 0 5)
  have f_14 := oF f_14 W241 (oP DI 0 5)
  have f_15 := oF f_15 W241 (oP DI 0 5)
  have f_16 := oF f_16 W241 (oP DI 0 5)
  have A_0 := A_0.other W241 (oP DI 2 5)
  have A_1 := A_1.other W241 (oP DI 3 5)
  have A_2 := A_2.other W241 (oP DI 4 5)
  have A_3 := A_3.set W241
  have A_4 := A_4.other W241 (Ne.symm (oP DI 5 6))
  have A_5 := A_5.other W241 (Ne.symm (oP DI 5 7))
  have A_6 := A_6.other W241 (Ne.symm (oP DI 5 8))
  have A_7 := A_7.other W241 (Ne.symm (oP DI 5 9))
  have A_8 := A_8.other W241 (Ne.symm (oP DI 5 10))
  have A_9 := A_9.other W241 (Ne.symm (oP DI 5 11))
  have A_li := A_li.other W241 (oP DI 1 5)
  have O := O.wr W241 (DI.2.1 3 (by decide))
  have f_17 := oF f_17 W241 (oP DI 0 5)
  have Zn : n0 ≤ _ := Nat.le_trans Zn (Nat.le_of_eq W241.size.symm)
  have K := K.wr W241 (Or.inl (List.mem_of_getElem? (i := 4) rfl))
  have A_3 : OwnO Z h241 (D 3) "java/lang/String" [.null, .null, .null, .null, .null, .null, .null, .null, .null, .null, .null, .null, .null, .null, .null, .null] := A_3
  refine own_by st241 ?_
  refine own_by (S' := (oM T241 m 68 #[oR mb, oI 12, oI 15, oI 0, oR bo, oI a2, .val .null, oU, oU, oU, oU] [.ref mb])) (fun _ k => XS.aloadN X241.here hx rfl (G d25_67) rfl rfl k) ?_
  obtain ⟨T242, X242, e242, st242⟩ := getF X241 hx hZ hown (host := "") (Or.inl (gw hw 26 rfl)) Via.refl e241 f_2 (g := (mkF m 68 #[oR mb, oI 12, oI 15, oI 0, oR bo, oI a2, .val .null, oU, oU, oU, oU] [.ref mb])) rfl rfl (G d25_68)
  refine own_by st242 ?_
  refine own_by (S' := (oM T242 m 72 #[oR mb, oI 12, oI 15, oI 0, oR bo, oI a2, .val .null, oU, oU, oU, oU] [.ref mb, (.ref (D 2))])) (fun _ k => XS.aloadN X242.here hx rfl (G d25_71) rfl rfl k) ?_
  obtain ⟨T243, X243, e243, st243⟩ := getF X242 hx hZ hown (host := "") (Or.inl (gw hw 60 rfl)) Via.refl e242 f_13 (g := (mkF m 72 #[oR mb, oI 12, oI 15, oI 0, oR bo, oI a2, .val .null, oU, oU, oU, oU] [.ref mb, (.ref (D 2))])) rfl rfl (G d25_72)
  refine own_by st243 ?_
  refine own_by (S' := (oM T243 m 94 #[oR mb, oI 12, oI 15, oI 0, oR bo, oI a2, .val .null, oU, oU, oU, oU] [.int 14, .int 13, .ref mb, .int 1, (.ref (D 2))])) (fun _ k => XS.iloadN X243.here hx rfl (G d25_75) rfl (XS.ifYes X243.here hx rfl (pc0 := 76) (pc' := 87) rfl (G d25_76) rfl ((if0 _ _).trans (teq ((by decide) : (0 : Int32) = (0 : Int32))).1) (by decide) (by decide) (XS.aloadN X243.here hx rfl (G d25_87) rfl rfl (XS.iloadN X243.here hx rfl (G d25_88) rfl (XS.iconst X243.here hx rfl (G d25_89) (XS.iadd X243.here hx rfl (G d25_90) rfl (XS.iloadN X243.here hx rfl (G d25_91) rfl (XS.iconst X243.here hx rfl (G d25_92) (XS.isub X243.here hx rfl (G d25_93) rfl k))))))))) ?_
  obtain ⟨cq244, q244, q244'⟩ := E_mb.cell
  obtain ⟨_, _, ⟨T244, L244, k244, n244⟩, -, X244, ⟨Lc244, hQ244, l244, y244, z244⟩, st244⟩ := X243.privateBack hx (y := y_26) hown (mvT hZ (gw hw 156 rfl)) (mvT hZ (gw hw 157 rfl)) (own_selP hZ (gw hw 13 rfl) (gw hw 158 rfl) (gw hw 157 rfl) (by decide)) (Cond.privateMethod_at (mvP hZ (gw hw 158 rfl) (args := #[]))) (mvT hZ (gw hw 159 rfl)) (by decide) (backOf (W := 2) (rm_hash13 l Z a0 hw [] mb li LN c2 h241 n0 Zn f_10 A_li hc2) hZ (gw hw 159 rfl) (gw hw 14 rfl) (by decide) (by decide)) (g := (mkF m 94 #[oR mb, oI 12, oI 15, oI 0, oR bo, oI a2, .val .null, oU, oU, oU, oU] [.int 14, .int 13, .ref mb, .int 1, (.ref (D 2))])) rfl (by rw [hml]; rfl) (Steps.refl _) (a := mb) (by rw [e243]; exact q244) q244' (argsL := [.int 13, .int 14]) (rest := [.int 1, (.ref (D 2))]) (lenOf pd__28II_29I rfl) rfl oZ (G d25_94) (fun _ _ => ⟨rfl, e243, (by decide : 0 + 0 ≤ _), (by decide : 0 + 0 ≤ _)⟩)
  dsimp only [Pt.U, Pt.locs, Pt.cells, Pt.slots] at X244 l244 y244 z244 st244 hQ244
  have X244 := own_recast X244 l244 y244 z244
  obtain ⟨rfl, N244q, eh⟩ := hQ244
  have N := Fr.app N N244q
  refine own_tr st244 ?_
  obtain ⟨T245, h245, X245, e245, W245, st245⟩ := own_stI X244 hx hZ eh A_2 (j := (1 : Int32)) (by decide) (Nat.le_of_ble_eq_true rfl) (g := (mkF m 97 #[oR mb, oI 12, oI 15, oI 0, oR bo, oI a2, .val .null, oU, oU, oU, oU] [(.int (Int32.ofNat c2)), .int 1, (.ref (D 2))])) rfl rfl (G d25_97)
  have N := Fr.snoc X245 N (DI.2.1 2 (by decide))
  have E_mb := E_mb.wr W245
  have f_0 := oF f_0 W245 (oP DI 0 4)
  have f_1 := oF f_1 W245 (oP DI 0 4)
  have f_2 := oF f_2 W245 (oP DI 0 4)
  have f_3 := oF f_3 W245 (oP DI 0 4)
  have f_4 := oF f_4 W245 (oP DI 0 4)
  have f_5 := oF f_5 W245 (oP DI 0 4)
  have f_6 := oF f_6 W245 (oP DI 0 4)
  have f_7 := oF f_7 W245 (oP DI 0 4)
  have f_8 := oF f_8 W245 (oP DI 0 4)
  have f_9 := oF f_9 W245 (oP DI 0 4)
  have f_10 := oF f_10 W245 (oP DI 0 4)
  have f_11 := oF f_11 W245 (oP DI 0 4)
  have f_12 := oF f_12 W245 (oP DI 0 4)
  have f_13 := oF f_13 W245 (oP DI 0 4)
  have f_14 := oF f_14 W245 (oP DI 0 4)
  have f_15 := oF f_15 W245 (oP DI 0 4)
  have f_16 := oF f_16 W245 (oP DI 0 4)
  have A_0 := A_0.other W245 (oP DI 2 4)
  have A_1 := A_1.other W245 (oP DI 3 4)
  have A_2 := A_2.set W245
  have A_3 := A_3.other W245 (Ne.symm (oP DI 4 5))
  have A_4 := A_4.other W245 (Ne.symm (oP DI 4 6))
  have A_5 := A_5.other W245 (Ne.symm (oP DI 4 7))
  have A_6 := A_6.other W245 (Ne.symm (oP DI 4 8))
  have A_7 := A_7.other W245 (Ne.symm (oP DI 4 9))
  have A_8 := A_8.other W245 (Ne.symm (oP DI 4 10))
  have A_9 := A_9.other W245 (Ne.symm (oP DI 4 11))
  have A_li := A_li.other W245 (oP DI 1 4)
  have O := O.wr W245 (DI.2.1 2 (by decide))
  have f_17 := oF f_17 W245 (oP DI 0 4)
  have Zn : n0 ≤ _ := Nat.le_trans Zn (Nat.le_of_eq W245.size.symm)
  have K := K.wr W245 (Or.inl (List.mem_of_getElem? (i := 3) rfl))
  have A_2 : OwnA Z h245 (D 2) .int [.int (Int32.ofNat c1), (.int (Int32.ofNat c2)), .int 0, .int 0, .int 0, .int 0, .int 0, .int 0, .int 0, .int 0, .int 0, .int 0, .int 0, .int 0, .int 0, .int 0] := A_2
  refine own_by st245 ?_
  refine own_by (S' := (oM T245 m 99 #[oR mb, oI 12, oI 15, oI 0, oR bo, oI a2, .val .null, oU, oU, oU, oU] [.ref mb])) (fun _ k => XS.aloadN X245.here hx rfl (G d25_98) rfl rfl k) ?_
  obtain ⟨T246, X246, e246, st246⟩ := getF X245 hx hZ hown (host := "") (Or.inl (gw hw 34 rfl)) Via.refl e245 f_4 (g := (mkF m 99 #[oR mb, oI 12, oI 15, oI 0, oR bo, oI a2, .val .null, oU, oU, oU, oU] [.ref mb])) rfl rfl (G d25_99)
  refine own_by st246 ?_
  refine own_by (S' := (oM T246 m 103 #[oR mb, oI 12, oI 15, oI 0, oR bo, oI a2, .val .null, oU, oU, oU, oU] [.ref mb, (.ref (D 4))])) (fun _ k => XS.aloadN X246.here hx rfl (G d25_102) rfl rfl k) ?_
  obtain ⟨T247, X247, e247, st247⟩ := getF X246 hx hZ hown (host := "") (Or.inl (gw hw 60 rfl)) Via.refl e246 f_13 (g := (mkF m 103 #[oR mb, oI 12, oI 15, oI 0, oR bo, oI a2, .val .null, oU, oU, oU, oU] [.ref mb, (.ref (D 4))])) rfl rfl (G d25_103)
  refine own_by st247 ?_
  refine own_by (S' := (oM T247 m 108 #[oR mb, oI 12, oI 15, oI 0, oR bo, oI a2, .val .null, oU, oU, oU, oU] [.ref bo, .int 1, (.ref (D 4))])) (fun _ k => XS.aload X247.here hx rfl (G d25_106) rfl rfl k) ?_
  obtain ⟨T248, h248, X248, e248, W248, st248⟩ := own_stO X247 hx hZ e247 A_4 (v := (.ref bo)) (own_sto A_4 (Ins.self (EB.ext O.2))) (j := (1 : Int32)) (by decide) (Nat.le_of_ble_eq_true rfl) (g := (mkF m 108 #[oR mb, oI 12, oI 15, oI 0, oR bo, oI a2, .val .null, oU, oU, oU, oU] [.ref bo, .int 1, (.ref (D 4))])) rfl rfl (G d25_108)
  have N := Fr.snoc X248 N (DI.2.1 4 (by decide))
  have E_mb := E_mb.wr W248
  have f_0 := oF f_0 W248 (oP DI 0 6)
  have f_1 := oF f_1 W248 (oP DI 0 6)
  have f_2 := oF f_2 W248 (oP DI 0 6)
  have f_3 := oF f_3 W248 (oP DI 0 6)
  have f_4 := oF f_4 W248 (oP DI 0 6)
  have f_5 := oF f_5 W248 (oP DI 0 6)
  have f_6 := oF f_6 W248 (oP DI 0 6)
  have f_7 := oF f_7 W248 (oP DI 0 6)
  have f_8 := oF f_8 W248 (oP DI 0 6)
  have f_9 := oF f_9 W248 (oP DI 0 6)
  have f_10 := oF f_10 W248 (oP DI 0 6)
  have f_11 := oF f_11 W248 (oP DI 0 6)
  have f_12 := oF f_12 W248 (oP DI 0 6)
  have f_13 := oF f_13 W248 (oP DI 0 6)
  have f_14 := oF f_14 W248 (oP DI 0 6)
  have f_15 := oF f_15 W248 (oP DI 0 6)
  have f_16 := oF f_16 W248 (oP DI 0 6)
  have A_0 := A_0.other W248 (oP DI 2 6)
  have A_1 := A_1.other W248 (oP DI 3 6)
  have A_2 := A_2.other W248 (oP DI 4 6)
  have A_3 := A_3.other W248 (oP DI 5 6)
  have A_4 := A_4.set W248
  have A_5 := A_5.other W248 (Ne.symm (oP DI 6 7))
  have A_6 := A_6.other W248 (Ne.symm (oP DI 6 8))
  have A_7 := A_7.other W248 (Ne.symm (oP DI 6 9))
  have A_8 := A_8.other W248 (Ne.symm (oP DI 6 10))
  have A_9 := A_9.other W248 (Ne.symm (oP DI 6 11))
  have A_li := A_li.other W248 (oP DI 1 6)
  have O := O.wr W248 (DI.2.1 4 (by decide))
  have f_17 := oF f_17 W248 (oP DI 0 6)
  have Zn : n0 ≤ _ := Nat.le_trans Zn (Nat.le_of_eq W248.size.symm)
  have K := K.wr W248 (Or.inl (List.mem_of_getElem? (i := 5) rfl))
  have A_4 : OwnO Z h248 (D 4) "com/example/upright_play/uprightplay/event/Members$Type" [.ref bo, .ref bo, .null, .null, .null, .null, .null, .null, .null, .null, .null, .null, .null, .null, .null, .null] := A_4
  refine own_by st248 ?_
  refine own_by (S' := (oM T248 m 110 #[oR mb, oI 12, oI 15, oI 0, oR bo, oI a2, .val .null, oU, oU, oU, oU] [.ref mb])) (fun _ k => XS.aloadN X248.here hx rfl (G d25_109) rfl rfl k) ?_
  obtain ⟨T249, X249, e249, st249⟩ := getF X248 hx hZ hown (host := "") (Or.inl (gw hw 36 rfl)) Via.refl e248 f_5 (g := (mkF m 110 #[oR mb, oI 12, oI 15, oI 0, oR bo, oI a2, .val .null, oU, oU, oU, oU] [.ref mb])) rfl rfl (G d25_110)
  refine own_by st249 ?_
  refine own_by (S' := (oM T249 m 114 #[oR mb, oI 12, oI 15, oI 0, oR bo, oI a2, .val .null, oU, oU, oU, oU] [.ref mb, (.ref (D 5))])) (fun _ k => XS.aloadN X249.here hx rfl (G d25_113) rfl rfl k) ?_
  obtain ⟨T250, X250, e250, st250⟩ := getF X249 hx hZ hown (host := "") (Or.inl (gw hw 60 rfl)) Via.refl e249 f_13 (g := (mkF m 114 #[oR mb, oI 12, oI 15, oI 0, oR bo, oI a2, .val .null, oU, oU, oU, oU] [.ref mb, (.ref (D 5))])) rfl rfl (G d25_114)
  refine own_by st250 ?_
  refine own_by (S' := (oM T250 m 119 #[oR mb, oI 12, oI 15, oI 0, oR bo, oI a2, .val .null, oU, oU, oU, oU] [.int a2, .int 1, (.ref (D 5))])) (fun _ k => XS.iload X250.here hx rfl (G d25_117) rfl k) ?_
  obtain ⟨T251, h251, X251, e251, W251, st251⟩ := own_stI X250 hx hZ e250 A_5 (j := (1 : Int32)) (by decide) (Nat.le_of_ble_eq_true rfl) (g := (mkF m 119 #[oR mb, oI 12, oI 15, oI 0, oR bo, oI a2, .val .null, oU, oU, oU, oU] [.int a2, .int 1, (.ref (D 5))])) rfl rfl (G d25_119)
  have N := Fr.snoc X251 N (DI.2.1 5 (by decide))
  have E_mb := E_mb.wr W251
  have f_0 := oF f_0 W251 (oP DI 0 7)
  have f_1 := oF f_1 W251 (oP DI 0 7)
  have f_2 := oF f_2 W251 (oP DI 0 7)
  have f_3 := oF f_3 W251 (oP DI 0 7)
  have f_4 := oF f_4 W251 (oP DI 0 7)
  have f_5 := oF f_5 W251 (oP DI 0 7)
  have f_6 := oF f_6 W251 (oP DI 0 7)
  have f_7 := oF f_7 W251 (oP DI 0 7)
  have f_8 := oF f_8 W251 (oP DI 0 7)
  have f_9 := oF f_9 W251 (oP DI 0 7)
  have f_10 := oF f_10 W251 (oP DI 0 7)
  have f_11 := oF f_11 W251 (oP DI 0 7)
  have f_12 := oF f_12 W251 (oP DI 0 7)
  have f_13 := oF f_13 W251 (oP DI 0 7)
  have f_14 := oF f_14 W251 (oP DI 0 7)
  have f_15 := oF f_15 W251 (oP DI 0 7)
  have f_16 := oF f_16 W251 (oP DI 0 7)
  have A_0 := A_0.other W251 (oP DI 2 7)
  have A_1 := A_1.other W251 (oP DI 3 7)
  have A_2 := A_2.other W251 (oP DI 4 7)
  have A_3 := A_3.other W251 (oP DI 5 7)
  have A_4 := A_4.other W251 (oP DI 6 7)
  have A_5 := A_5.set W251
  have A_6 := A_6.other W251 (Ne.symm (oP DI 7 8))
  have A_7 := A_7.other W251 (Ne.symm (oP DI 7 9))
  have A_8 := A_8.other W251 (Ne.symm (oP DI 7 10))
  have A_9 := A_9.other W251 (Ne.symm (oP DI 7 11))
  have A_li := A_li.other W251 (oP DI 1 7)
  have O := O.wr W251 (DI.2.1 5 (by decide))
  have f_17 := oF f_17 W251 (oP DI 0 7)
  have Zn : n0 ≤ _ := Nat.le_trans Zn (Nat.le_of_eq W251.size.symm)
  have K := K.wr W251 (Or.inl (List.mem_of_getElem? (i := 6) rfl))
  have A_5 : OwnA Z h251 (D 5) .int [.int a1, .int a2, .int 0, .int 0, .int 0, .int 0, .int 0, .int 0, .int 0, .int 0, .int 0, .int 0, .int 0, .int 0, .int 0, .int 0] := A_5
  refine own_by st251 ?_
  refine own_by (S' := (oM T251 m 121 #[oR mb, oI 12, oI 15, oI 0, oR bo, oI a2, .val .null, oU, oU, oU, oU] [.ref mb])) (fun _ k => XS.aloadN X251.here hx rfl (G d25_120) rfl rfl k) ?_
  obtain ⟨T252, X252, e252, st252⟩ := getF X251 hx hZ hown (host := "") (Or.inl (gw hw 38 rfl)) Via.refl e251 f_6 (g := (mkF m 121 #[oR mb, oI 12, oI 15, oI 0, oR bo, oI a2, .val .null, oU, oU, oU, oU] [.ref mb])) rfl rfl (G d25_121)
  refine own_by st252 ?_
  refine own_by (S' := (oM T252 m 125 #[oR mb, oI 12, oI 15, oI 0, oR bo, oI a2, .val .null, oU, oU, oU, oU] [.ref mb, (.ref (D 6))])) (fun _ k => XS.aloadN X252.here hx rfl (G d25_124) rfl rfl k) ?_
  obtain ⟨T253, X253, e253, st253⟩ := getF X252 hx hZ hown (host := "") (Or.inl (gw hw 60 rfl)) Via.refl e252 f_13 (g := (mkF m 125 #[oR mb, oI 12, oI 15, oI 0, oR bo, oI a2, .val .null, oU, oU, oU, oU] [.ref mb, (.ref (D 6))])) rfl rfl (G d25_125)
  refine own_by st253 ?_
  refine own_by (S' := (oM T253 m 129 #[oR mb, oI 12, oI 15, oI 0, oR bo, oI a2, .val .null, oU, oU, oU, oU] [.ref mb, .int 1, (.ref (D 6))])) (fun _ k => XS.aloadN X253.here hx rfl (G d25_128) rfl rfl k) ?_
  obtain ⟨T254, X254, e254, st254⟩ := getF X253 hx hZ hown (host := "") (Or.inl (gw hw 58 rfl)) Via.refl e253 f_17 (g := (mkF m 129 #[oR mb, oI 12, oI 15, oI 0, oR bo, oI a2, .val .null, oU, oU, oU, oU] [.ref mb, .int 1, (.ref (D 6))])) rfl rfl (G d25_129)
  refine own_by st254 ?_
  obtain ⟨T255, h255, X255, e255, W255, st255⟩ := own_stI X254 hx hZ e254 A_6 (j := (1 : Int32)) (by decide) (Nat.le_of_ble_eq_true rfl) (g := (mkF m 132 #[oR mb, oI 12, oI 15, oI 0, oR bo, oI a2, .val .null, oU, oU, oU, oU] [.int b2, .int 1, (.ref (D 6))])) rfl rfl (G d25_132)
  have N := Fr.snoc X255 N (DI.2.1 6 (by decide))
  have E_mb := E_mb.wr W255
  have f_0 := oF f_0 W255 (oP DI 0 8)
  have f_1 := oF f_1 W255 (oP DI 0 8)
  have f_2 := oF f_2 W255 (oP DI 0 8)
  have f_3 := oF f_3 W255 (oP DI 0 8)
  have f_4 := oF f_4 W255 (oP DI 0 8)
  have f_5 := oF f_5 W255 (oP DI 0 8)
  have f_6 := oF f_6 W255 (oP DI 0 8)
  have f_7 := oF f_7 W255 (oP DI 0 8)
  have f_8 := oF f_8 W255 (oP DI 0 8)
  have f_9 := oF f_9 W255 (oP DI 0 8)
  have f_10 := oF f_10 W255 (oP DI 0 8)
  have f_11 := oF f_11 W255 (oP DI 0 8)
  have f_12 := oF f_12 W255 (oP DI 0 8)
  have f_13 := oF f_13 W255 (oP DI 0 8)
  have f_14 := oF f_14 W255 (oP DI 0 8)
  have f_15 := oF f_15 W255 (oP DI 0 8)
  have f_16 := oF f_16 W255 (oP DI 0 8)
  have A_0 := A_0.other W255 (oP DI 2 8)
  have A_1 := A_1.other W255 (oP DI 3 8)
  have A_2 := A_2.other W255 (oP DI 4 8)
  have A_3 := A_3.other W255 (oP DI 5 8)
  have A_4 := A_4.other W255 (oP DI 6 8)
  have A_5 := A_5.other W255 (oP DI 7 8)
  have A_6 := A_6.set W255
  have A_7 := A_7.other W255 (Ne.symm (oP DI 8 9))
  have A_8 := A_8.other W255 (Ne.symm (oP DI 8 10))
  have A_9 := A_9.other W255 (Ne.symm (oP DI 8 11))
  have A_li := A_li.other W255 (oP DI 1 8)
  have O := O.wr W255 (DI.2.1 6 (by decide))
  have f_17 := oF f_17 W255 (oP DI 0 8)
  have Zn : n0 ≤ _ := Nat.le_trans Zn (Nat.le_of_eq W255.size.symm)
  have K := K.wr W255 (Or.inl (List.mem_of_getElem? (i := 7) rfl))
  have A_6 : OwnA Z h255 (D 6) .int [.int b1, .int b2, .int 0, .int 0, .int 0, .int 0, .int 0, .int 0, .int 0, .int 0, .int 0, .int 0, .int 0, .int 0, .int 0, .int 0] := A_6
  refine own_by st255 ?_
  refine own_by (S' := (oM T255 m 134 #[oR mb, oI 12, oI 15, oI 0, oR bo, oI a2, .val .null, oU, oU, oU, oU] [.ref mb])) (fun _ k => XS.aloadN X255.here hx rfl (G d25_133) rfl rfl k) ?_
  obtain ⟨T256, X256, e256, st256⟩ := getF X255 hx hZ hown (host := "") (Or.inl (gw hw 40 rfl)) Via.refl e255 f_7 (g := (mkF m 134 #[oR mb, oI 12, oI 15, oI 0, oR bo, oI a2, .val .null, oU, oU, oU, oU] [.ref mb])) rfl rfl (G d25_134)
  refine own_by st256 ?_
  refine own_by (S' := (oM T256 m 138 #[oR mb, oI 12, oI 15, oI 0, oR bo, oI a2, .val .null, oU, oU, oU, oU] [.ref mb, (.ref (D 7))])) (fun _ k => XS.aloadN X256.here hx rfl (G d25_137) rfl rfl k) ?_
  obtain ⟨T257, X257, e257, st257⟩ := getF X256 hx hZ hown (host := "") (Or.inl (gw hw 60 rfl)) Via.refl e256 f_13 (g := (mkF m 138 #[oR mb, oI 12, oI 15, oI 0, oR bo, oI a2, .val .null, oU, oU, oU, oU] [.ref mb, (.ref (D 7))])) rfl rfl (G d25_138)
  refine own_by st257 ?_
  refine own_by (S' := (oM T257 m 142 #[oR mb, oI 12, oI 15, oI 0, oR bo, oI a2, .val .null, oU, oU, oU, oU] [.ref mb, .int 1, (.ref (D 7))])) (fun _ k => XS.aloadN X257.here hx rfl (G d25_141) rfl rfl k) ?_
  obtain ⟨T258, X258, e258, st258⟩ := getF X257 hx hZ hown (host := "") (Or.inl (gw hw 161 rfl)) Via.refl e257 f_15 (g := (mkF m 142 #[oR mb, oI 12, oI 15, oI 0, oR bo, oI a2, .val .null, oU, oU, oU, oU] [.ref mb, .int 1, (.ref (D 7))])) rfl rfl (G d25_142)
  refine own_by st258 ?_
  obtain ⟨T259, h259, X259, e259, W259, st259⟩ := own_stI X258 hx hZ e258 A_7 (j := (1 : Int32)) (by decide) (Nat.le_of_ble_eq_true rfl) (g := (mkF m 145 #[oR mb, oI 12, oI 15, oI 0, oR bo, oI a2, .val .null, oU, oU, oU, oU] [.int 0, .int 1, (.ref (D 7))])) rfl rfl (G d25_145)
  have N := Fr.snoc X259 N (DI.2.1 7 (by decide))
  have E_mb := E_mb.wr W259
  have f_0 := oF f_0 W259 (oP DI 0 9)
  have f_1 := oF f_1 W259 (oP DI 0 9)
  have f_2 := oF f_2 W259 (oP DI 0 9)
  have f_3 := oF f_3 W259 (oP DI 0 9)
  have f_4 := oF f_4 W259 (oP DI 0 9)
  have f_5 := oF f_5 W259 (oP DI 0 9)
  have f_6 := oF f_6 W259 (oP DI 0 9)
  have f_7 := oF f_7 W259 (oP DI 0 9)
  have f_8 := oF f_8 W259 (oP DI 0 9)
  have f_9 := oF f_9 W259 (oP DI 0 9)
  have f_10 := oF f_10 W259 (oP DI 0 9)
  have f_11 := oF f_11 W259 (oP DI 0 9)
  have f_12 := oF f_12 W259 (oP DI 0 9)
  have f_13 := oF f_13 W259 (oP DI 0 9)
  have f_14 := oF f_14 W259 (oP DI 0 9)
  have f_15 := oF f_15 W259 (oP DI 0 9)
  have f_16 := oF f_16 W259 (oP DI 0 9)
  have A_0 := A_0.other W259 (oP DI 2 9)
  have A_1 := A_1.other W259 (oP DI 3 9)
  have A_2 := A_2.other W259 (oP DI 4 9)
  have A_3 := A_3.other W259 (oP DI 5 9)
  have A_4 := A_4.other W259 (oP DI 6 9)
  have A_5 := A_5.other W259 (oP DI 7 9)
  have A_6 := A_6.other W259 (oP DI 8 9)
  have A_7 := A_7.set W259
  have A_8 := A_8.other W259 (Ne.symm (oP DI 9 10))
  have A_9 := A_9.other W259 (Ne.symm (oP DI 9 11))
  have A_li := A_li.other W259 (oP DI 1 9)
  have O := O.wr W259 (DI.2.1 7 (by decide))
  have f_17 := oF f_17 W259 (oP DI 0 9)
  have Zn : n0 ≤ _ := Nat.le_trans Zn (Nat.le_of_eq W259.size.symm)
  have K := K.wr W259 (Or.inl (List.mem_of_getElem? (i := 8) rfl))
  have A_7 : OwnA Z h259 (D 7) .int [.int 0, .int 0, .int 0, .int 0, .int 0, .int 0, .int 0, .int 0, .int 0, .int 0, .int 0, .int 0, .int 0, .int 0, .int 0, .int 0] := A_7
  refine own_by st259 ?_
  refine own_by (S' := (oM T259 m 147 #[oR mb, oI 12, oI 15, oI 0, oR bo, oI a2, .val .null, oU, oU, oU, oU] [.ref mb])) (fun _ k => XS.aloadN X259.here hx rfl (G d25_146) rfl rfl k) ?_
  obtain ⟨T260, X260, e260, st260⟩ := getF X259 hx hZ hown (host := "") (Or.inl (gw hw 42 rfl)) Via.refl e259 f_8 (g := (mkF m 147 #[oR mb, oI 12, oI 15, oI 0, oR bo, oI a2, .val .null, oU, oU, oU, oU] [.ref mb])) rfl rfl (G d25_147)
  refine own_by st260 ?_
  refine own_by (S' := (oM T260 m 151 #[oR mb, oI 12, oI 15, oI 0, oR bo, oI a2, .val .null, oU, oU, oU, oU] [.ref mb, (.ref (D 8))])) (fun _ k => XS.aloadN X260.here hx rfl (G d25_150) rfl rfl k) ?_
  obtain ⟨T261, X261, e261, st261⟩ := getF X260 hx hZ hown (host := "") (Or.inl (gw hw 60 rfl)) Via.refl e260 f_13 (g := (mkF m 151 #[oR mb, oI 12, oI 15, oI 0, oR bo, oI a2, .val .null, oU, oU, oU, oU] [.ref mb, (.ref (D 8))])) rfl rfl (G d25_151)
  refine own_by st261 ?_
  refine own_by (S' := (oM T261 m 155 #[oR mb, oI 12, oI 15, oI 0, oR bo, oI a2, .val .null, oU, oU, oU, oU] [.ref mb, .int 1, (.ref (D 8))])) (fun _ k => XS.aloadN X261.here hx rfl (G d25_154) rfl rfl k) ?_
  obtain ⟨T262, X262, e262, st262⟩ := getF X261 hx hZ hown (host := "") (Or.inl (gw hw 163 rfl)) Via.refl e261 f_16 (g := (mkF m 155 #[oR mb, oI 12, oI 15, oI 0, oR bo, oI a2, .val .null, oU, oU, oU, oU] [.ref mb, .int 1, (.ref (D 8))])) rfl rfl (G d25_155)
  refine own_by st262 ?_
  obtain ⟨T263, h263, X263, e263, W263, st263⟩ := own_stI X262 hx hZ e262 A_8 (j := (1 : Int32)) (by decide) (Nat.le_of_ble_eq_true rfl) (g := (mkF m 158 #[oR mb, oI 12, oI 15, oI 0, oR bo, oI a2, .val .null, oU, oU, oU, oU] [.int 0, .int 1, (.ref (D 8))])) rfl rfl (G d25_158)
  have N := Fr.snoc X263 N (DI.2.1 8 (by decide))
  have E_mb := E_mb.wr W263
  have f_0 := oF f_0 W263 (oP DI 0 10)
  have f_1 := oF f_1 W263 (oP DI 0 10)
  have f_2 := oF f_2 W263 (oP DI 0 10)
  have f_3 := oF f_3 W263 (oP DI 0 10)
  have f_4 := oF f_4 W263 (oP DI 0 10)
  have f_5 := oF f_5 W263 (oP DI 0 10)
  have f_6 := oF f_6 W263 (oP DI 0 10)
  have f_7 := oF f_7 W263 (oP DI 0 10)
  have f_8 := oF f_8 W263 (oP DI 0 10)
  have f_9 := oF f_9 W263 (oP DI 0 10)
  have f_10 := oF f_10 W263 (oP DI 0 10)
  have f_11 := oF f_11 W263 (oP DI 0 10)
  have f_12 := oF f_12 W263 (oP DI 0 10)
  have f_13 := oF f_13 W263 (oP DI 0 10)
  have f_14 := oF f_14 W263 (oP DI 0 10)
  have f_15 := oF f_15 W263 (oP DI 0 10)
  have f_16 := oF f_16 W263 (oP DI 0 10)
  have A_0 := A_0.other W263 (oP DI 2 10)
  have A_1 := A_1.other W263 (oP DI 3 10)
  have A_2 := A_2.other W263 (oP DI 4 10)
  have A_3 := A_3.other W263 (oP DI 5 10)
  have A_4 := A_4.other W263 (oP DI 6 10)
  have A_5 := A_5.other W263 (oP DI 7 10)
  have A_6 := A_6.other W263 (oP DI 8 10)
  have A_7 := A_7.other W263 (oP DI 9 10)
  have A_8 := A_8.set W263
  have A_9 := A_9.other W263 (Ne.symm (oP DI 10 11))
  have A_li := A_li.other W263 (oP DI 1 10)
  have O := O.wr W263 (DI.2.1 8 (by decide))
  have f_17 := oF f_17 W263 (oP DI 0 10)
  have Zn : n0 ≤ _ := Nat.le_trans Zn (Nat.le_of_eq W263.size.symm)
  have K := K.wr W263 (Or.inl (List.mem_of_getElem? (i := 9) rfl))
  have A_8 : OwnA Z h263 (D 8) .int [.int 0, .int 0, .int 0, .int 0, .int 0, .int 0, .int 0, .int 0, .int 0, .int 0, .int 0, .int 0, .int 0, .int 0, .int 0, .int 0] := A_8
  refine own_by st263 ?_
  refine own_by (S' := (oM T263 m 160 #[oR mb, oI 12, oI 15, oI 0, oR bo, oI a2, .val .null, oU, oU, oU, oU] [.ref mb])) (fun _ k => XS.aloadN X263.here hx rfl (G d25_159) rfl rfl k) ?_
  obtain ⟨T264, X264, e264, st264⟩ := getF X263 hx hZ hown (host := "") (Or.inl (gw hw 60 rfl)) Via.refl e263 f_13 (g := (mkF m 160 #[oR mb, oI 12, oI 15, oI 0, oR bo, oI a2, .val .null, oU, oU, oU, oU] [.ref mb])) rfl rfl (G d25_160)
  refine own_by st264 ?_
  refine own_by (S' := (oM T264 m 222 #[oR mb, oI 12, oI 15, oI 0, oR bo, oI a2, .val .null, oI 0, oU, oU, oU] [.ref mb])) (fun _ k => XS.bipush X264.here hx rfl (G d25_163) (XS.icmpYes X264.here hx rfl (pc0 := 165) (pc' := 218) rfl (G d25_165) rfl (feq ((by decide) : ¬ ((1 : Int32) = (16 : Int32)))).2 (by decide) (by decide) (XS.iconst X264.here hx rfl (G d25_218) (XS.istore X264.here hx rfl (G d25_219) rfl (l' := #[oR mb, oI 12, oI 15, oI 0, oR bo, oI a2, .val .null, oI 0, oU, oU, oU]) rfl (XS.aloadN X264.here hx rfl (G d25_221) rfl rfl k))))) ?_
  obtain ⟨T265, X265, e265, st265⟩ := getF X264 hx hZ hown (host := "") (Or.inl (gw hw 62 rfl)) Via.refl e264 f_14 (g := (mkF m 222 #[oR mb, oI 12, oI 15, oI 0, oR bo, oI a2, .val .null, oI 0, oU, oU, oU] [.ref mb])) rfl rfl (G d25_222)
  refine own_by st265 ?_
  refine own_by (S' := (oM T265 m 266 #[oR mb, oI 12, oI 15, oI 0, oR bo, oI a2, .val .null, oI 0, oU, oU, oU] [.ref mb])) (fun _ k => XS.ifnullYes X265.here hx rfl (pc0 := 225) (pc' := 265) rfl (G d25_225) rfl (by decide) (by decide) (XS.aloadN X265.here hx rfl (G d25_265) rfl rfl k)) ?_
  obtain ⟨T266, X266, e266, st266⟩ := getF X265 hx hZ hown (host := "") (Or.inl (gw hw 26 rfl)) Via.refl e265 f_2 (g := (mkF m 266 #[oR mb, oI 12, oI 15, oI 0, oR bo, oI a2, .val .null, oI 0, oU, oU, oU] [.ref mb])) rfl rfl (G d25_266)
  refine own_by st266 ?_
  refine own_by (S' := (oM T266 m 270 #[oR mb, oI 12, oI 15, oI 0, oR bo, oI a2, .val .null, oI 0, oU, oU, oU] [.ref mb, (.ref (D 2))])) (fun _ k => XS.aloadN X266.here hx rfl (G d25_269) rfl rfl k) ?_
  obtain ⟨T267, X267, e267, st267⟩ := getF X266 hx hZ hown (host := "") (Or.inl (gw hw 60 rfl)) Via.refl e266 f_13 (g := (mkF m 270 #[oR mb, oI 12, oI 15, oI 0, oR bo, oI a2, .val .null, oI 0, oU, oU, oU] [.ref mb, (.ref (D 2))])) rfl rfl (G d25_270)
  refine own_by st267 ?_
  refine own_by (S' := (oM T267 m 278 #[oR mb, oI 12, oI 15, oI 0, oR bo, oI a2, .val .null, oI 0, oI (Int32.ofNat c2), oU, oU] [(.int (Int32.ofNat c2))])) (fun _ k => own_iaload X267 hx hZ e267 A_2 (by decide) (v := (.int (Int32.ofNat c2))) rfl (g := (mkF m 273 #[oR mb, oI 12, oI 15, oI 0, oR bo, oI a2, .val .null, oI 0, oU, oU, oU] [.int 1, (.ref (D 2))])) rfl rfl (G d25_273) _ (XS.istore X267.here hx rfl (G d25_274) rfl (l' := #[oR mb, oI 12, oI 15, oI 0, oR bo, oI a2, .val .null, oI 0, oI (Int32.ofNat c2), oU, oU]) rfl (XS.iload X267.here hx rfl (G d25_276) rfl k))) ?_
  obtain ⟨_, _, ⟨T268, L268, k268, n268⟩, -, X268, ⟨Lc268, hQ268, l268, y268, z268⟩, st268⟩ := Jvm.LawKit.callS X267 hx (y := y_27) hown (mvT hZ (gw hw 165 rfl)) (mvT hZ (gw hw 166 rfl)) (mvT hZ (gw hw 14 rfl)) (mvT hZ (gw hw 167 rfl)) (by decide) (backOf (W := 0) (rm_slotOf l Z a0 hw [] c2 h263 n0 Zn hk2.2.1) hZ (gw hw 167 rfl) (gw hw 14 rfl) (by decide) (by decide)) (g := (mkF m 278 #[oR mb, oI 12, oI 15, oI 0, oR bo, oI a2, .val .null, oI 0, oI (Int32.ofNat c2), oU, oU] [(.int (Int32.ofNat c2))])) rfl (by rw [hml]; rfl) (argsL := [(.int (Int32.ofNat c2))]) (rest := []) (lenOf pd__28I_29I rfl) rfl oZ (G d25_278) (fun _ _ => ⟨rfl, e267, (by decide : 0 + 0 ≤ _), (by decide : 0 + 0 ≤ _)⟩)
  dsimp only [Pt.U, Pt.locs, Pt.cells, Pt.slots] at X268 l268 y268 z268 st268 hQ268
  have X268 := own_recast X268 l268 y268 z268
  obtain ⟨rfl, N268q, eh2⟩ := hQ268
  have N := Fr.app N N268q
  refine own_by st268 ?_
  have hs1 := (own_slot c1 hk1.2.1).2
  have hs2 := (own_slot c2 hk2.2.1).2
  have hj3 := own_j3lt (c1 := c1) hk2.2.1
  refine own_by (S' := (oM T268 m 283 #[oR mb, oI 12, oI 15, oI 0, oR bo, oI a2, .val .null, oI 0, oI (Int32.ofNat c2), .val (.int (Int32.ofNat (own_sl c2))), oU] [])) (fun _ k => XS.istore X268.here hx rfl (G d25_281) rfl (l' := #[oR mb, oI 12, oI 15, oI 0, oR bo, oI a2, .val .null, oI 0, oI (Int32.ofNat c2), .val (.int (Int32.ofNat (own_sl c2))), oU]) rfl k) ?_
  by_cases hss : own_sl c1 = own_sl c2
  · refine own_by (S' := (oM T268 m 284 #[oR mb, oI 12, oI 15, oI 0, oR bo, oI a2, .val .null, oI 0, oI (Int32.ofNat c2), .val (.int (Int32.ofNat (own_sl c2))), oU] [.ref mb])) (fun _ k => XS.aloadN X268.here hx rfl (G d25_283) rfl rfl k) ?_
    obtain ⟨T269, X269, e269, st269⟩ := getF X268 hx hZ hown (host := "") (Or.inl (gw hw 45 rfl)) Via.refl eh2 f_9 (g := (mkF m 284 #[oR mb, oI 12, oI 15, oI 0, oR bo, oI a2, .val .null, oI 0, oI (Int32.ofNat c2), .val (.int (Int32.ofNat (own_sl c2))), oU] [.ref mb])) rfl rfl (G d25_284)
    refine own_by st269 ?_
    refine own_by (S' := (oM T269 m 299 #[oR mb, oI 12, oI 15, oI 0, oR bo, oI a2, .val .null, oI 0, oI (Int32.ofNat c2), .val (.int (Int32.ofNat (own_sl c2))), oU] [.ref mb])) (fun _ k => XS.iload X269.here hx rfl (G d25_287) rfl (own_baload X269 hx hZ e269 A_9 (own_nn (by have := hs2; omega)) (v := (.int 1)) (own_at (by have := hs2; omega) (by rw [own_s1get c1 hs2, if_pos hss])) (g := (mkF m 289 #[oR mb, oI 12, oI 15, oI 0, oR bo, oI a2, .val .null, oI 0, oI (Int32.ofNat c2), .val (.int (Int32.ofNat (own_sl c2))), oU] [(.int (Int32.ofNat (own_sl c2))), (.ref (D 9))])) rfl rfl (G d25_289) _ (XS.ifNo X269.here hx rfl (G d25_290) rfl ((if0 _ _).trans (feq ((by decide) : ¬ ((1 : Int32) = (0 : Int32)))).1) (XS.iload X269.here hx rfl (G d25_293) rfl (XS.ifNo X269.here hx rfl (G d25_295) rfl ((if0 _ _).trans (teq ((by decide) : (0 : Int32) = (0 : Int32))).2) (XS.aloadN X269.here hx rfl (G d25_298) rfl rfl k)))))) ?_
    obtain ⟨T270, X270, e270, st270⟩ := getF X269 hx hZ hown (host := "") (Or.inl (gw hw 45 rfl)) Via.refl e269 f_9 (g := (mkF m 299 #[oR mb, oI 12, oI 15, oI 0, oR bo, oI a2, .val .null, oI 0, oI (Int32.ofNat c2), .val (.int (Int32.ofNat (own_sl c2))), oU] [.ref mb])) rfl rfl (G d25_299)
    refine own_by st270 ?_
    refine own_by (S' := (oM T270 m 310 #[oR mb, oI 12, oI 15, oI 0, oR bo, oI a2, .val .null, oI 0, oI (Int32.ofNat c2), .val (.int (Int32.ofNat (own_sl c2))), oI 0] [.ref mb])) (fun _ k => XS.iload X270.here hx rfl (G d25_302) rfl (own_baload X270 hx hZ e270 A_9 (own_nn (by have := hs2; omega)) (v := (.int 1)) (own_at (by have := hs2; omega) (by rw [own_s1get c1 hs2, if_pos hss])) (g := (mkF m 304 #[oR mb, oI 12, oI 15, oI 0, oR bo, oI a2, .val .null, oI 0, oI (Int32.ofNat c2), .val (.int (Int32.ofNat (own_sl c2))), oU] [(.int (Int32.ofNat (own_sl c2))), (.ref (D 9))])) rfl rfl (G d25_304) _ (XS.iconst X270.here hx rfl (G d25_305) (XS.isub X270.here hx rfl (G d25_306) rfl (XS.istore X270.here hx rfl (G d25_307) rfl (l' := #[oR mb, oI 12, oI 15, oI 0, oR bo, oI a2, .val .null, oI 0, oI (Int32.ofNat c2), .val (.int (Int32.ofNat (own_sl c2))), oI 0]) rfl (XS.aloadN X270.here hx rfl (G d25_309) rfl rfl k)))))) ?_
    obtain ⟨T271, X271, e271, st271⟩ := getF X270 hx hZ hown (host := "") (Or.inl (gw hw 26 rfl)) Via.refl e270 f_2 (g := (mkF m 310 #[oR mb, oI 12, oI 15, oI 0, oR bo, oI a2, .val .null, oI 0, oI (Int32.ofNat c2), .val (.int (Int32.ofNat (own_sl c2))), oI 0] [.ref mb])) rfl rfl (G d25_310)
    refine own_by st271 ?_
    refine own_by (S' := (oM T271 m 347 #[oR mb, oI 12, oI 15, oI 0, oR bo, oI a2, .val .null, oI 0, oI (Int32.ofNat c2), .val (.int (Int32.ofNat (own_sl c2))), oI 0] [(.int (Int32.ofNat (own_sl c2)))])) (fun _ k => XS.iload X271.here hx rfl (G d25_313) rfl (own_iaload X271 hx hZ e271 A_2 (by decide) (v := (.int (Int32.ofNat c1))) rfl (g := (mkF m 315 #[oR mb, oI 12, oI 15, oI 0, oR bo, oI a2, .val .null, oI 0, oI (Int32.ofNat c2), .val (.int (Int32.ofNat (own_sl c2))), oI 0] [.int 0, (.ref (D 2))])) rfl rfl (G d25_315) _ (XS.iload X271.here hx rfl (G d25_316) rfl (XS.icmpYes X271.here hx rfl (pc0 := 318) (pc' := 342) rfl (G d25_318) rfl (feq ((own_ofne (by have := hk1.2.1; omega) (by have := hk2.2.1; omega) h12) : ¬ ((Int32.ofNat c1) = (Int32.ofNat c2)))).2 (by decide) (by decide) (XS.iconst X271.here hx rfl (G d25_342) (XS.istore X271.here hx rfl (G d25_343) rfl (l' := #[oR mb, oI 12, oI 15, oI 0, oR bo, oI a2, .val .null, oI 0, oI (Int32.ofNat c2), .val (.int (Int32.ofNat (own_sl c2))), oI 0]) rfl (XS.iload X271.here hx rfl (G d25_345) rfl k))))))) ?_
    obtain ⟨_, _, ⟨T272, L272, k272, n272⟩, -, X272, ⟨Lc272, hQ272, l272, y272, z272⟩, st272⟩ := Jvm.LawKit.callS X271 hx (y := y_37) hown (mvT hZ (gw hw 210 rfl)) (mvT hZ (gw hw 211 rfl)) (mvT hZ (gw hw 14 rfl)) (mvT hZ (gw hw 212 rfl)) (by decide) (backOf (W := 0) (rm_next l Z a0 hw [] (own_sl c2) h263 n0 Zn hs2) hZ (gw hw 212 rfl) (gw hw 14 rfl) (by decide) (by decide)) (g := (mkF m 347 #[oR mb, oI 12, oI 15, oI 0, oR bo, oI a2, .val .null, oI 0, oI (Int32.ofNat c2), .val (.int (Int32.ofNat (own_sl c2))), oI 0] [(.int (Int32.ofNat (own_sl c2)))])) rfl (by rw [hml]; rfl) (argsL := [(.int (Int32.ofNat (own_sl c2)))]) (rest := []) (lenOf pd__28I_29I rfl) rfl oZ (G d25_347) (fun _ _ => ⟨rfl, e271, (by decide : 0 + 0 ≤ _), (by decide : 0 + 0 ≤ _)⟩)
    dsimp only [Pt.U, Pt.locs, Pt.cells, Pt.slots] at X272 l272 y272 z272 st272 hQ272
    have X272 := own_recast X272 l272 y272 z272
    obtain ⟨rfl, N272q, eh3⟩ := hQ272
    have N := Fr.app N N272q
    refine own_by st272 ?_
    have ej : (own_sl c2 + 1) % 32 = own_j3 c1 c2 := by rw [own_j3, if_pos hss]
    rw [show (Int32.ofNat ((own_sl c2 + 1) % 32)) = (Int32.ofNat (own_j3 c1 c2)) from congrArg Int32.ofNat ej]
    refine own_by (S' := (oM T272 m 284 #[oR mb, oI 12, oI 15, oI 0, oR bo, oI a2, .val .null, oI 0, oI (Int32.ofNat c2), .val (.int (Int32.ofNat (own_j3 c1 c2))), oI 0] [.ref mb])) (fun _ k => XS.istore X272.here hx rfl (G d25_350) rfl (l' := #[oR mb, oI 12, oI 15, oI 0, oR bo, oI a2, .val .null, oI 0, oI (Int32.ofNat c2), .val (.int (Int32.ofNat (own_j3 c1 c2))), oI 0]) rfl (XS.goto X272.here hx rfl (pc0 := 352) (pc' := 283) rfl (G d25_352) (by decide) (by decide) (XS.aloadN X272.here hx rfl (G d25_283) rfl rfl k))) ?_
    obtain ⟨T273, X273, e273, st273⟩ := getF X272 hx hZ hown (host := "") (Or.inl (gw hw 45 rfl)) Via.refl eh3 f_9 (g := (mkF m 284 #[oR mb, oI 12, oI 15, oI 0, oR bo, oI a2, .val .null, oI 0, oI (Int32.ofNat c2), .val (.int (Int32.ofNat (own_j3 c1 c2))), oI 0] [.ref mb])) rfl rfl (G d25_284)
    refine own_by st273 ?_
    refine own_by (S' := (oM T273 m 356 #[oR mb, oI 12, oI 15, oI 0, oR bo, oI a2, .val .null, oI 0, oI (Int32.ofNat c2), .val (.int (Int32.ofNat (own_j3 c1 c2))), oI 0] [.ref mb])) (fun _ k => XS.iload X273.here hx rfl (G d25_287) rfl (own_baload X273 hx hZ e273 A_9 (own_nn (by have := hj3; omega)) (v := (.int 0)) (own_at (by have := hj3; omega) (by rw [own_s1get c1 hj3, if_neg (Ne.symm (own_j3ne hk2.2.1))])) (g := (mkF m 289 #[oR mb, oI 12, oI 15, oI 0, oR bo, oI a2, .val .null, oI 0, oI (Int32.ofNat c2), .val (.int (Int32.ofNat (own_j3 c1 c2))), oI 0] [(.int (Int32.ofNat (own_j3 c1 c2))), (.ref (D 9))])) rfl rfl (G d25_289) _ (XS.ifYes X273.here hx rfl (pc0 := 290) (pc' := 355) rfl (G d25_290) rfl ((if0 _ _).trans (teq ((by decide) : (0 : Int32) = (0 : Int32))).1) (by decide) (by decide) (XS.aloadN X273.here hx rfl (G d25_355) rfl rfl k)))) ?_
    obtain ⟨T274, X274, e274, st274⟩ := getF X273 hx hZ hown (host := "") (Or.inl (gw hw 45 rfl)) Via.refl e273 f_9 (g := (mkF m 356 #[oR mb, oI 12, oI 15, oI 0, oR bo, oI a2, .val .null, oI 0, oI (Int32.ofNat c2), .val (.int (Int32.ofNat (own_j3 c1 c2))), oI 0] [.ref mb])) rfl rfl (G d25_356)
    refine own_by st274 ?_
    refine own_by (S' := (oM T274 m 362 #[oR mb, oI 12, oI 15, oI 0, oR bo, oI a2, .val .null, oI 0, oI (Int32.ofNat c2), .val (.int (Int32.ofNat (own_j3 c1 c2))), oI 0] [.ref mb, (.int (Int32.ofNat (own_j3 c1 c2))), (.ref (D 9))])) (fun _ k => XS.iload X274.here hx rfl (G d25_359) rfl (XS.aloadN X274.here hx rfl (G d25_361) rfl rfl k)) ?_
    obtain ⟨T275, X275, e275, st275⟩ := getF X274 hx hZ hown (host := "") (Or.inl (gw hw 60 rfl)) Via.refl e274 f_13 (g := (mkF m 362 #[oR mb, oI 12, oI 15, oI 0, oR bo, oI a2, .val .null, oI 0, oI (Int32.ofNat c2), .val (.int (Int32.ofNat (own_j3 c1 c2))), oI 0] [.ref mb, (.int (Int32.ofNat (own_j3 c1 c2))), (.ref (D 9))])) rfl rfl (G d25_362)
    refine own_by st275 ?_
    refine own_by (S' := (oM T275 m 368 #[oR mb, oI 12, oI 15, oI 0, oR bo, oI a2, .val .null, oI 0, oI (Int32.ofNat c2), .val (.int (Int32.ofNat (own_j3 c1 c2))), oI 0] [(.int ((2 : Int32).toInt8.toInt32)), (.int (Int32.ofNat (own_j3 c1 c2))), (.ref (D 9))])) (fun _ k => XS.iconst X275.here hx rfl (G d25_365) (XS.iadd X275.here hx rfl (G d25_366) rfl (XS.i2b X275.here hx rfl (G d25_367) rfl k))) ?_
    rw [show ((2 : Int32).toInt8.toInt32) = (2 : Int32) from (by decide)]
    obtain ⟨T276, h276, X276, e276, W276, st276⟩ := own_stB X275 hx hZ e275 A_9 (j := (Int32.ofNat (own_j3 c1 c2))) (own_nn (by omega)) (by rw [own_n32 (by omega), own_s1len]; omega) (g := (mkF m 368 #[oR mb, oI 12, oI 15, oI 0, oR bo, oI a2, .val .null, oI 0, oI (Int32.ofNat c2), .val (.int (Int32.ofNat (own_j3 c1 c2))), oI 0] [.int 2, (.int (Int32.ofNat (own_j3 c1 c2))), (.ref (D 9))])) rfl rfl (G d25_368)
    have N := Fr.snoc X276 N (DI.2.1 9 (by decide))
    have E_mb := E_mb.wr W276
    have f_0 := oF f_0 W276 (oP DI 0 11)
    have f_1 := oF f_1 W276 (oP DI 0 11)
    have f_2 := oF f_2 W276 (oP DI 0 11)
    have f_3 := oF f_3 W276 (oP DI 0 11)
    have f_4 := oF f_4 W276 (oP DI 0 11)
    have f_5 := oF f_5 W276 (oP DI 0 11)
    have f_6 := oF f_6 W276 (oP DI 0 11)
    have f_7 := oF f_7 W276 (oP DI 0 11)
    have f_8 := oF f_8 W276 (oP DI 0 11)
    have f_9 := oF f_9 W276 (oP DI 0 11)
    have f_10 := oF f_10 W276 (oP DI 0 11)
    have f_11 := oF f_11 W276 (oP DI 0 11)
    have f_12 := oF f_12 W276 (oP DI 0 11)
    have f_13 := oF f_13 W276 (oP DI 0 11)
    have f_14 := oF f_14 W276 (oP DI 0 11)
    have f_15 := oF f_15 W276 (oP DI 0 11)
    have f_16 := oF f_16 W276 (oP DI 0 11)
    have A_0 := A_0.other W276 (oP DI 2 11)
    have A_1 := A_1.other W276 (oP DI 3 11)
    have A_2 := A_2.other W276 (oP DI 4 11)
    have A_3 := A_3.other W276 (oP DI 5 11)
    have A_4 := A_4.other W276 (oP DI 6 11)
    have A_5 := A_5.other W276 (oP DI 7 11)
    have A_6 := A_6.other W276 (oP DI 8 11)
    have A_7 := A_7.other W276 (oP DI 9 11)
    have A_8 := A_8.other W276 (oP DI 10 11)
    have A_9 := A_9.set W276
    have A_li := A_li.other W276 (oP DI 1 11)
    have O := O.wr W276 (DI.2.1 9 (by decide))
    have f_17 := oF f_17 W276 (oP DI 0 11)
    have Zn : n0 ≤ _ := Nat.le_trans Zn (Nat.le_of_eq W276.size.symm)
    have K := K.wr W276 (Or.inl (List.mem_of_getElem? (i := 10) rfl))
    have A_9 : OwnA Z h276 (D 9) .byte (own_S2 c1 c2) := (by have q := A_9; rw [show (2 : Int32).toInt8.toInt32 = 2 by decide, own_n32 (by omega)] at q; exact q)
    refine own_by st276 ?_
    refine own_by (S' := (oM T276 m 401 #[oR mb, oI 12, oI 15, oI 0, oR bo, oI a2, .val .null, oI 0, oI (Int32.ofNat c2), .val (.int (Int32.ofNat (own_j3 c1 c2))), oI 0] [.ref mb, .ref mb])) (fun _ k => XS.iload X276.here hx rfl (G d25_369) rfl (XS.ifYes X276.here hx rfl (pc0 := 371) (pc' := 399) rfl (G d25_371) rfl ((if0 _ _).trans (teq ((by decide) : (0 : Int32) = (0 : Int32))).1) (by decide) (by decide) (XS.aloadN X276.here hx rfl (G d25_399) rfl rfl (XS.dup X276.here hx rfl (G d25_400) rfl rfl k)))) ?_
    obtain ⟨T277, X277, e277, st277⟩ := getF X276 hx hZ hown (host := "") (Or.inl (gw hw 60 rfl)) Via.refl e276 f_13 (g := (mkF m 401 #[oR mb, oI 12, oI 15, oI 0, oR bo, oI a2, .val .null, oI 0, oI (Int32.ofNat c2), .val (.int (Int32.ofNat (own_j3 c1 c2))), oI 0] [.ref mb, .ref mb])) rfl rfl (G d25_401)
    refine own_by st277 ?_
    refine own_by (S' := (oM T277 m 406 #[oR mb, oI 12, oI 15, oI 0, oR bo, oI a2, .val .null, oI 0, oI (Int32.ofNat c2), .val (.int (Int32.ofNat (own_j3 c1 c2))), oI 0] [.int 2, .ref mb])) (fun _ k => XS.iconst X277.here hx rfl (G d25_404) (XS.iadd X277.here hx rfl (G d25_405) rfl k)) ?_
    obtain ⟨T278, h278, X278, e278, W278, st278⟩ := putF X277 hx hZ hown (host := "") (Or.inl (gw hw 60 rfl)) Via.refl e277 f_13 E_mb (Or.inl (gw hw 61 rfl)) (gw hw 13 rfl) (ty := .int) (by decide) rfl rfl (g := (mkF m 406 #[oR mb, oI 12, oI 15, oI 0, oR bo, oI a2, .val .null, oI 0, oI (Int32.ofNat c2), .val (.int (Int32.ofNat (own_j3 c1 c2))), oI 0] [.int 2, .ref mb])) rfl rfl (G d25_406)
    have N := Fr.snoc X278 N DI.1
    have E_mb := E_mb.wr W278
    have f_0 := oT f_0 W278 (Or.inl (gw hw 23 rfl)) (Or.inl (gw hw 61 rfl)) (.array .int) .int
    have f_1 := oT f_1 W278 (Or.inl (gw hw 25 rfl)) (Or.inl (gw hw 61 rfl)) (.array .int) .int
    have f_2 := oT f_2 W278 (Or.inl (gw hw 27 rfl)) (Or.inl (gw hw 61 rfl)) (.array .int) .int
    have f_3 := oT f_3 W278 (Or.inl (gw hw 31 rfl)) (Or.inl (gw hw 61 rfl)) (.array (.object "java/lang/String")) .int
    have f_4 := oT f_4 W278 (Or.inl (gw hw 35 rfl)) (Or.inl (gw hw 61 rfl)) (.array (.object "com/example/upright_play/uprightplay/event/Members$Type")) .int
    have f_5 := oT f_5 W278 (Or.inl (gw hw 37 rfl)) (Or.inl (gw hw 61 rfl)) (.array .int) .int
    have f_6 := oT f_6 W278 (Or.inl (gw hw 39 rfl)) (Or.inl (gw hw 61 rfl)) (.array .int) .int
    have f_7 := oT f_7 W278 (Or.inl (gw hw 41 rfl)) (Or.inl (gw hw 61 rfl)) (.array .int) .int
    have f_8 := oT f_8 W278 (Or.inl (gw hw 43 rfl)) (Or.inl (gw hw 61 rfl)) (.array .int) .int
    have f_9 := oT f_9 W278 (Or.inr (gw hw 46 rfl)) (Or.inl (gw hw 61 rfl)) (.array .byte) .int
    have f_10 := oT f_10 W278 (Or.inl (gw hw 53 rfl)) (Or.inl (gw hw 61 rfl)) (.array .char) .int
    have f_11 := oT f_11 W278 (Or.inl (gw hw 55 rfl)) (Or.inl (gw hw 61 rfl)) .int .int
    have f_12 := oT f_12 W278 (Or.inl (gw hw 57 rfl)) (Or.inl (gw hw 61 rfl)) .long .int
    have f_13 := f_13.same W278
    have f_14 := oT f_14 W278 (Or.inl (gw hw 63 rfl)) (Or.inl (gw hw 61 rfl)) (.object "java/util/Map") .int
    have f_15 := oT f_15 W278 (Or.inl (gw hw 162 rfl)) (Or.inl (gw hw 61 rfl)) .int .int
    have f_16 := oT f_16 W278 (Or.inl (gw hw 164 rfl)) (Or.inl (gw hw 61 rfl)) .int .int
    have A_0 := A_0.other W278 (Ne.symm (oP DI 0 2))
    have A_1 := A_1.other W278 (Ne.symm (oP DI 0 3))
    have A_2 := A_2.other W278 (Ne.symm (oP DI 0 4))
    have A_3 := A_3.other W278 (Ne.symm (oP DI 0 5))
    have A_4 := A_4.other W278 (Ne.symm (oP DI 0 6))
    have A_5 := A_5.other W278 (Ne.symm (oP DI 0 7))
    have A_6 := A_6.other W278 (Ne.symm (oP DI 0 8))
    have A_7 := A_7.other W278 (Ne.symm (oP DI 0 9))
    have A_8 := A_8.other W278 (Ne.symm (oP DI 0 10))
    have A_9 := A_9.other W278 (Ne.symm (oP DI 0 11))
    have A_li := A_li.other W278 (Ne.symm (oP DI 0 1))
    have O := O.wr W278 DI.1
    have f_17 := oT f_17 W278 (Or.inl (gw hw 59 rfl)) (Or.inl (gw hw 61 rfl)) .int .int
    have Zn : n0 ≤ _ := Nat.le_trans Zn (Nat.le_of_eq W278.size.symm)
    have K := K.wr W278 (Or.inl (List.mem_of_getElem? (i := 0) rfl))
    refine own_by st278 ?_
    exact own_ret0 X278 hx Bd.returns (G d25_409) hlk (by decide : 0 ≤ _) (by decide : 0 ≤ _) (by rw [e278]; exact ⟨rfl, N, K, ⟨E_mb, f_0, f_1, f_2, f_3, f_4, f_5, f_6, f_7, f_8, f_9, f_10, f_11, f_12, f_13, f_14, f_15, f_16, A_0, A_1, A_2, A_3, A_4, A_5, A_6, A_7, A_8, A_9⟩, f_17⟩)
  · have ej : own_sl c2 = own_j3 c1 c2 := by rw [own_j3, if_neg hss]
    rw [show (Int32.ofNat (own_sl c2)) = (Int32.ofNat (own_j3 c1 c2)) from congrArg Int32.ofNat ej]
    refine own_by (S' := (oM T268 m 284 #[oR mb, oI 12, oI 15, oI 0, oR bo, oI a2, .val .null, oI 0, oI (Int32.ofNat c2), .val (.int (Int32.ofNat (own_j3 c1 c2))), oU] [.ref mb])) (fun _ k => XS.aloadN X268.here hx rfl (G d25_283) rfl rfl k) ?_
    obtain ⟨T279, X279, e279, st279⟩ := getF X268 hx hZ hown (host := "") (Or.inl (gw hw 45 rfl)) Via.refl eh2 f_9 (g := (mkF m 284 #[oR mb, oI 12, oI 15, oI 0, oR bo, oI a2, .val .null, oI 0, oI (Int32.ofNat c2), .val (.int (Int32.ofNat (own_j3 c1 c2))), oU] [.ref mb])) rfl rfl (G d25_284)
    refine own_by st279 ?_
    refine own_by (S' := (oM T279 m 356 #[oR mb, oI 12, oI 15, oI 0, oR bo, oI a2, .val .null, oI 0, oI (Int32.ofNat c2), .val (.int (Int32.ofNat (own_j3 c1 c2))), oU] [.ref mb])) (fun _ k => XS.iload X279.here hx rfl (G d25_287) rfl (own_baload X279 hx hZ e279 A_9 (own_nn (by have := hj3; omega)) (v := (.int 0)) (own_at (by have := hj3; omega) (by rw [own_s1get c1 hj3, if_neg (Ne.symm (own_j3ne hk2.2.1))])) (g := (mkF m 289 #[oR mb, oI 12, oI 15, oI 0, oR bo, oI a2, .val .null, oI 0, oI (Int32.ofNat c2), .val (.int (Int32.ofNat (own_j3 c1 c2))), oU] [(.int (Int32.ofNat (own_j3 c1 c2))), (.ref (D 9))])) rfl rfl (G d25_289) _ (XS.ifYes X279.here hx rfl (pc0 := 290) (pc' := 355) rfl (G d25_290) rfl ((if0 _ _).trans (teq ((by decide) : (0 : Int32) = (0 : Int32))).1) (by decide) (by decide) (XS.aloadN X279.here hx rfl (G d25_355) rfl rfl k)))) ?_
    obtain ⟨T280, X280, e280, st280⟩ := getF X279 hx hZ hown (host := "") (Or.inl (gw hw 45 rfl)) Via.refl e279 f_9 (g := (mkF m 356 #[oR mb, oI 12, oI 15, oI 0, oR bo, oI a2, .val .null, oI 0, oI (Int32.ofNat c2), .val (.int (Int32.ofNat (own_j3 c1 c2))), oU] [.ref mb])) rfl rfl (G d25_356)
    refine own_by st280 ?_
    refine own_by (S' := (oM T280 m 362 #[oR mb, oI 12, oI 15, oI 0, oR bo, oI a2, .val .null, oI 0, oI (Int32.ofNat c2), .val (.int (Int32.ofNat (own_j3 c1 c2))), oU] [.ref mb, (.int (Int32.ofNat (own_j3 c1 c2))), (.ref (D 9))])) (fun _ k => XS.iload X280.here hx rfl (G d25_359) rfl (XS.aloadN X280.here hx rfl (G d25_361) rfl rfl k)) ?_
    obtain ⟨T281, X281, e281, st281⟩ := getF X280 hx hZ hown (host := "") (Or.inl (gw hw 60 rfl)) Via.refl e280 f_13 (g := (mkF m 362 #[oR mb, oI 12, oI 15, oI 0, oR bo, oI a2, .val .null, oI 0, oI (Int32.ofNat c2), .val (.int (Int32.ofNat (own_j3 c1 c2))), oU] [.ref mb, (.int (Int32.ofNat (own_j3 c1 c2))), (.ref (D 9))])) rfl rfl (G d25_362)
    refine own_by st281 ?_
    refine own_by (S' := (oM T281 m 368 #[oR mb, oI 12, oI 15, oI 0, oR bo, oI a2, .val .null, oI 0, oI (Int32.ofNat c2), .val (.int (Int32.ofNat (own_j3 c1 c2))), oU] [(.int ((2 : Int32).toInt8.toInt32)), (.int (Int32.ofNat (own_j3 c1 c2))), (.ref (D 9))])) (fun _ k => XS.iconst X281.here hx rfl (G d25_365) (XS.iadd X281.here hx rfl (G d25_366) rfl (XS.i2b X281.here hx rfl (G d25_367) rfl k))) ?_
    rw [show ((2 : Int32).toInt8.toInt32) = (2 : Int32) from (by decide)]
    obtain ⟨T282, h282, X282, e282, W282, st282⟩ := own_stB X281 hx hZ e281 A_9 (j := (Int32.ofNat (own_j3 c1 c2))) (own_nn (by omega)) (by rw [own_n32 (by omega), own_s1len]; omega) (g := (mkF m 368 #[oR mb, oI 12, oI 15, oI 0, oR bo, oI a2, .val .null, oI 0, oI (Int32.ofNat c2), .val (.int (Int32.ofNat (own_j3 c1 c2))), oU] [.int 2, (.int (Int32.ofNat (own_j3 c1 c2))), (.ref (D 9))])) rfl rfl (G d25_368)
    have N := Fr.snoc X282 N (DI.2.1 9 (by decide))
    have E_mb := E_mb.wr W282
    have f_0 := oF f_0 W282 (oP DI 0 11)
    have f_1 := oF f_1 W282 (oP DI 0 11)
    have f_2 := oF f_2 W282 (oP DI 0 11)
    have f_3 := oF f_3 W282 (oP DI 0 11)
    have f_4 := oF f_4 W282 (oP DI 0 11)
    have f_5 := oF f_5 W282 (oP DI 0 11)
    have f_6 := oF f_6 W282 (oP DI 0 11)
    have f_7 := oF f_7 W282 (oP DI 0 11)
    have f_8 := oF f_8 W282 (oP DI 0 11)
    have f_9 := oF f_9 W282 (oP DI 0 11)
    have f_10 := oF f_10 W282 (oP DI 0 11)
    have f_11 := oF f_11 W282 (oP DI 0 11)
    have f_12 := oF f_12 W282 (oP DI 0 11)
    have f_13 := oF f_13 W282 (oP DI 0 11)
    have f_14 := oF f_14 W282 (oP DI 0 11)
    have f_15 := oF f_15 W282 (oP DI 0 11)
    have f_16 := oF f_16 W282 (oP DI 0 11)
    have A_0 := A_0.other W282 (oP DI 2 11)
    have A_1 := A_1.other W282 (oP DI 3 11)
    have A_2 := A_2.other W282 (oP DI 4 11)
    have A_3 := A_3.other W282 (oP DI 5 11)
    have A_4 := A_4.other W282 (oP DI 6 11)
    have A_5 := A_5.other W282 (oP DI 7 11)
    have A_6 := A_6.other W282 (oP DI 8 11)
    have A_7 := A_7.other W282 (oP DI 9 11)
    have A_8 := A_8.other W282 (oP DI 10 11)
    have A_9 := A_9.set W282
    have A_li := A_li.other W282 (oP DI 1 11)
    have O := O.wr W282 (DI.2.1 9 (by decide))
    have f_17 := oF f_17 W282 (oP DI 0 11)
    have Zn : n0 ≤ _ := Nat.le_trans Zn (Nat.le_of_eq W282.size.symm)
    have K := K.wr W282 (Or.inl (List.mem_of_getElem? (i := 10) rfl))
    have A_9 : OwnA Z h282 (D 9) .byte (own_S2 c1 c2) := (by have q := A_9; rw [show (2 : Int32).toInt8.toInt32 = 2 by decide, own_n32 (by omega)] at q; exact q)
    refine own_by st282 ?_
    refine own_by (S' := (oM T282 m 401 #[oR mb, oI 12, oI 15, oI 0, oR bo, oI a2, .val .null, oI 0, oI (Int32.ofNat c2), .val (.int (Int32.ofNat (own_j3 c1 c2))), oU] [.ref mb, .ref mb])) (fun _ k => XS.iload X282.here hx rfl (G d25_369) rfl (XS.ifYes X282.here hx rfl (pc0 := 371) (pc' := 399) rfl (G d25_371) rfl ((if0 _ _).trans (teq ((by decide) : (0 : Int32) = (0 : Int32))).1) (by decide) (by decide) (XS.aloadN X282.here hx rfl (G d25_399) rfl rfl (XS.dup X282.here hx rfl (G d25_400) rfl rfl k)))) ?_
    obtain ⟨T283, X283, e283, st283⟩ := getF X282 hx hZ hown (host := "") (Or.inl (gw hw 60 rfl)) Via.refl e282 f_13 (g := (mkF m 401 #[oR mb, oI 12, oI 15, oI 0, oR bo, oI a2, .val .null, oI 0, oI (Int32.ofNat c2), .val (.int (Int32.ofNat (own_j3 c1 c2))), oU] [.ref mb, .ref mb])) rfl rfl (G d25_401)
    refine own_by st283 ?_
    refine own_by (S' := (oM T283 m 406 #[oR mb, oI 12, oI 15, oI 0, oR bo, oI a2, .val .null, oI 0, oI (Int32.ofNat c2), .val (.int (Int32.ofNat (own_j3 c1 c2))), oU] [.int 2, .ref mb])) (fun _ k => XS.iconst X283.here hx rfl (G d25_404) (XS.iadd X283.here hx rfl (G d25_405) rfl k)) ?_
    obtain ⟨T284, h284, X284, e284, W284, st284⟩ := putF X283 hx hZ hown (host := "") (Or.inl (gw hw 60 rfl)) Via.refl e283 f_13 E_mb (Or.inl (gw hw 61 rfl)) (gw hw 13 rfl) (ty := .int) (by decide) rfl rfl (g := (mkF m 406 #[oR mb, oI 12, oI 15, oI 0, oR bo, oI a2, .val .null, oI 0, oI (Int32.ofNat c2), .val (.int (Int32.ofNat (own_j3 c1 c2))), oU] [.int 2, .ref mb])) rfl rfl (G d25_406)
    have N := Fr.snoc X284 N DI.1
    have E_mb := E_mb.wr W284
    have f_0 := oT f_0 W284 (Or.inl (gw hw 23 rfl)) (Or.inl (gw hw 61 rfl)) (.array .int) .int
    have f_1 := oT f_1 W284 (Or.inl (gw hw 25 rfl)) (Or.inl (gw hw 61 rfl)) (.array .int) .int
    have f_2 := oT f_2 W284 (Or.inl (gw hw 27 rfl)) (Or.inl (gw hw 61 rfl)) (.array .int) .int
    have f_3 := oT f_3 W284 (Or.inl (gw hw 31 rfl)) (Or.inl (gw hw 61 rfl)) (.array (.object "java/lang/String")) .int
    have f_4 := oT f_4 W284 (Or.inl (gw hw 35 rfl)) (Or.inl (gw hw 61 rfl)) (.array (.object "com/example/upright_play/uprightplay/event/Members$Type")) .int
    have f_5 := oT f_5 W284 (Or.inl (gw hw 37 rfl)) (Or.inl (gw hw 61 rfl)) (.array .int) .int
    have f_6 := oT f_6 W284 (Or.inl (gw hw 39 rfl)) (Or.inl (gw hw 61 rfl)) (.array .int) .int
    have f_7 := oT f_7 W284 (Or.inl (gw hw 41 rfl)) (Or.inl (gw hw 61 rfl)) (.array .int) .int
    have f_8 := oT f_8 W284 (Or.inl (gw hw 43 rfl)) (Or.inl (gw hw 61 rfl)) (.array .int) .int
    have f_9 := oT f_9 W284 (Or.inr (gw hw 46 rfl)) (Or.inl (gw hw 61 rfl)) (.array .byte) .int
    have f_10 := oT f_10 W284 (Or.inl (gw hw 53 rfl)) (Or.inl (gw hw 61 rfl)) (.array .char) .int
    have f_11 := oT f_11 W284 (Or.inl (gw hw 55 rfl)) (Or.inl (gw hw 61 rfl)) .int .int
    have f_12 := oT f_12 W284 (Or.inl (gw hw 57 rfl)) (Or.inl (gw hw 61 rfl)) .long .int
    have f_13 := f_13.same W284
    have f_14 := oT f_14 W284 (Or.inl (gw hw 63 rfl)) (Or.inl (gw hw 61 rfl)) (.object "java/util/Map") .int
    have f_15 := oT f_15 W284 (Or.inl (gw hw 162 rfl)) (Or.inl (gw hw 61 rfl)) .int .int
    have f_16 := oT f_16 W284 (Or.inl (gw hw 164 rfl)) (Or.inl (gw hw 61 rfl)) .int .int
    have A_0 := A_0.other W284 (Ne.symm (oP DI 0 2))
    have A_1 := A_1.other W284 (Ne.symm (oP DI 0 3))
    have A_2 := A_2.other W284 (Ne.symm (oP DI 0 4))
    have A_3 := A_3.other W284 (Ne.symm (oP DI 0 5))
    have A_4 := A_4.other W284 (Ne.symm (oP DI 0 6))
    have A_5 := A_5.other W284 (Ne.symm (oP DI 0 7))
    have A_6 := A_6.other W284 (Ne.symm (oP DI 0 8))
    have A_7 := A_7.other W284 (Ne.symm (oP DI 0 9))
    have A_8 := A_8.other W284 (Ne.symm (oP DI 0 10))
    have A_9 := A_9.other W284 (Ne.symm (oP DI 0 11))
    have A_li := A_li.other W284 (Ne.symm (oP DI 0 1))
    have O := O.wr W284 DI.1
    have f_17 := oT f_17 W284 (Or.inl (gw hw 59 rfl)) (Or.inl (gw hw 61 rfl)) .int .int
    have Zn : n0 ≤ _ := Nat.le_trans Zn (Nat.le_of_eq W284.size.symm)
    have K := K.wr W284 (Or.inl (List.mem_of_getElem? (i := 0) rfl))
    refine own_by st284 ?_
    exact own_ret0 X284 hx Bd.returns (G d25_409) hlk (by decide : 0 ≤ _) (by decide : 0 ≤ _) (by rw [e284]; exact ⟨rfl, N, K, ⟨E_mb, f_0, f_1, f_2, f_3, f_4, f_5, f_6, f_7, f_8, f_9, f_10, f_11, f_12, f_13, f_14, f_15, f_16, A_0, A_1, A_2, A_3, A_4, A_5, A_6, A_7, A_8, A_9⟩, f_17⟩)
theorem d30_0 : oD c_30 0 (.iconst 1, 1) := by decide +kernel
theorem d30_1 : oD c_30 1 (.newarray .byte, 2) := by decide +kernel
theorem d30_3 : oD c_30 3 (.dup, 1) := by decide +kernel
theorem d30_4 : oD c_30 4 (.iconst 0, 1) := by decide +kernel
theorem d30_5 : oD c_30 5 (.iload_n 0, 1) := by decide +kernel
theorem d30_6 : oD c_30 6 (.i2b, 1) := by decide +kernel
theorem d30_7 : oD c_30 7 (.bastore, 1) := by decide +kernel
theorem d30_8 : oD c_30 8 (.areturn, 1) := by decide +kernel
theorem pn_30 : plainName "java/lang/StringLatin1" = true := by first | (simp [plainName, overriddenIn]; done) | decide +kernel
theorem ef_rm_toBytes (m : MethodId) (x0 : Int32) : entryFrame m #[.int x0] 1 = mkF m 0 #[oI x0] [] := by first | (simp [entryFrame, mkF, argsToLocals, Value.category]; done) | rfl
def Q_rm_toBytes (Z : State) (ch : Nat) (h0 : Heap) (n0 : Nat) (v : Option Value) (h : Heap) (L : List Loc) : Prop := ∃ sb : Addr, v = some (.ref sb) ∧ Fr n0 L ∧ Keep h0 h [] ∧ h0.size ≤ sb ∧ OwnA Z h sb .byte [.int ((Int32.ofNat ch).toInt8.toInt32).toInt8.toInt32]
set_option maxRecDepth 65536 in
set_option maxHeartbeats 40000000 in
theorem rm_toBytes (l : Launch) (Z : State) (a0 : Array Value) (hw : ∀ d ∈ tables_1, d.before a0 Z = true) (ws : List Jvm.Cond) (ch : Nat) (h0 : Heap) (n0 : Nat) (Zn : n0 ≤ h0.size) (hk : ch < 256) :
    MetFree l y_30 (head1 (Jvm.Cond.code y_30 c_30 1 (some (.array .byte)) :: ws) (oQ 0 1 1 0)) (fun a U => a = #[(.int (Int32.ofNat ch))] ∧ Z.Warmed39 U.vm ∧ U.heap = h0) (fun _ _ _ _ _ => True) (fun _ U o U' => ∃ v L, o = .returned v ∧ (Q_rm_toBytes Z ch h0 n0) v U'.heap L ∧ FrameEnd U o U' L (oQ 0 1 1 0).cells (oQ 0 1 1 0).slots) := by
  refine MetFree.of_bodySF (plainFor_of_name pn_30) hisR ?_
  intro p e s m args below meth c s₁ Bd hml0 hP hK
  obtain ⟨rfl, hZ, hh⟩ := hP
  have hx := Bd.exec
  have G := @oG _ _ Bd.bytes
  have hml : c.maxLocals = 1 := hml0
  have hown : s.vm.findClass "java/lang/StringLatin1" = some m.cls := findClass_of_methodNamed Bd.named
  have hnm := (name_of_methodNamed Bd.named Bd.method).1
  have hlk : meth.locks = false := BodyLoose.notSynchronized Bd
  have X0 : Stand p l e (oQ 0 1 1 0) s m #[(.int (Int32.ofNat ch))] below meth c s₁ [] 0 0 := Stand.of_body Bd
  have e0 : s₁.heap = h0 := by rw [← hh, Bd.state]; rfl
  have N := Fr.nil n0
  have K := Keep.refl h0 []
  refine own_start (cl := (oQ 0 1 1 0).cells) (sl := (oQ 0 1 1 0).slots) (Q := (Q_rm_toBytes Z ch h0 n0)) (ef_rm_toBytes m ((Int32.ofNat ch))) ?_
  refine own_by (S' := (oM s₁ m 1 #[oI (Int32.ofNat ch)] [.int 1])) (fun _ k => XS.iconst X0.here hx rfl (G d30_0) k) ?_
  obtain ⟨T285, h285, k285, X285, e285, E285, A285, st285⟩ := newP X0 hx hZ (gw hw 44 rfl) e0 (g := (mkF m 1 #[oI (Int32.ofNat ch)] [.int 1])) rfl (G d30_1) rfl (by decide) (cap := 1) (by decide) (by decide) (by decide : 0 + 1 ≤ _) (by decide : 0 + 1 ≤ _)
  obtain ⟨b285, g285⟩ : ∃ z, z = h0.size := ⟨_, rfl⟩
  rw [← g285] at A285 st285
  have o285 : n0 ≤ b285 := Nat.le_trans Zn (Nat.le_of_eq g285.symm)
  have z285 : h0.size ≤ b285 := Nat.le_trans K.1 (Nat.le_of_eq g285.symm)
  have Zn := Nat.le_trans Zn E285.1
  have K := K.ext E285
  have A_b285 : OwnA Z h285 b285 .byte [.int 0] := own_new A285 rfl
  refine own_by st285 ?_
  refine own_by (S' := (oM T285 m 7 #[oI (Int32.ofNat ch)] [(.int ((Int32.ofNat ch).toInt8.toInt32)), .int 0, .ref b285, .ref b285])) (fun _ k => XS.dup X285.here hx rfl (G d30_3) rfl rfl (XS.iconst X285.here hx rfl (G d30_4) (XS.iloadN X285.here hx rfl (G d30_5) rfl (XS.i2b X285.here hx rfl (G d30_6) rfl k)))) ?_
  obtain ⟨T286, h286, X286, e286, W286, st286⟩ := own_stB X285 hx hZ e285 A_b285 (j := (0 : Int32)) (by decide) (Nat.le_of_ble_eq_true rfl) (g := (mkF m 7 #[oI (Int32.ofNat ch)] [(.int ((Int32.ofNat ch).toInt8.toInt32)), .int 0, .ref b285, .ref b285])) rfl rfl (G d30_7)
  have N := Fr.snoc X286 N o285
  have A_b285 := A_b285.set W286
  have Zn : n0 ≤ _ := Nat.le_trans Zn (Nat.le_of_eq W286.size.symm)
  have K := K.wr W286 (Or.inr z285)
  have A_b285 : OwnA Z h286 b285 .byte [(.int (((Int32.ofNat ch).toInt8.toInt32)).toInt8.toInt32)] := A_b285
  refine own_by st286 ?_
  exact own_ret X286 hx (t := (.array .byte)) Bd.returns rfl (Or.inr (Or.inr (Or.inr (Or.inr ⟨rfl, rfl, rfl⟩)))) (G d30_8) hlk (by decide : 1 ≤ _) (by decide : 1 ≤ _) (by rw [e286]; exact ⟨b285, rfl, N, K, z285, A_b285⟩)
theorem d31_0 : oD c_31 0 (.aload_n 0, 1) := by decide +kernel
theorem d31_1 : oD c_31 1 (.invokespecial 1, 3) := by decide +kernel
theorem d31_4 : oD c_31 4 (.aload_n 0, 1) := by decide +kernel
theorem d31_5 : oD c_31 5 (.aload_n 1, 1) := by decide +kernel
theorem d31_6 : oD c_31 6 (.putfield 9, 3) := by decide +kernel
theorem d31_9 : oD c_31 9 (.aload_n 0, 1) := by decide +kernel
theorem d31_10 : oD c_31 10 (.iload_n 2, 1) := by decide +kernel
theorem d31_11 : oD c_31 11 (.putfield 15, 3) := by decide +kernel
theorem d31_14 : oD c_31 14 (.return_, 1) := by decide +kernel
theorem pn_31 : plainName "java/lang/String" = true := by first | (simp [plainName, overriddenIn]; done) | decide +kernel
theorem ef_rm_sinit (m : MethodId) (x0 : Addr) (x1 : Addr) (x2 : Int32) : entryFrame m #[.ref x0, .ref x1, .int x2] 3 = mkF m 0 #[oR x0, oR x1, oI x2] [] := by first | (simp [entryFrame, mkF, argsToLocals, Value.category]; done) | rfl
def Q_rm_sinit (Z : State) (sa sb : Addr) (h0 : Heap) (n0 : Nat) (v : Option Value) (h : Heap) (L : List Loc) : Prop := v = none ∧ Fr n0 L ∧ Keep h0 h [sa] ∧ Fld Z h sa "java/lang/String" "value" "[B" (.ref sb) ∧ Fld Z h sa "java/lang/String" "coder" "B" (.int 0) ∧ Fld Z h sa "java/lang/String" "hash" "I" (.int 0) ∧ Fld Z h sa "java/lang/String" "hashIsZero" "Z" (.int 0)
set_option maxRecDepth 65536 in
set_option maxHeartbeats 40000000 in
theorem rm_sinit (l : Launch) (Z : State) (a0 : Array Value) (hw : ∀ d ∈ tables_1, d.before a0 Z = true) (ws : List Jvm.Cond) (sa sb : Addr) (h0 : Heap) (n0 : Nat) (Zn : n0 ≤ h0.size) (E_sa : Exa Z h0 sa "java/lang/String") (o_sa : n0 ≤ sa) (F_value : Fld Z h0 sa "java/lang/String" "value" "[B" .null) (F_coder : Fld Z h0 sa "java/lang/String" "coder" "B" (.int 0)) (F_hash : Fld Z h0 sa "java/lang/String" "hash" "I" (.int 0)) (F_hashIsZero : Fld Z h0 sa "java/lang/String" "hashIsZero" "Z" (.int 0)) :
    MetFree l y_31 (head1 (Jvm.Cond.code y_31 c_31 3 none :: ws) (oQ 1 0 0 16)) (fun a U => a = #[.ref sa, .ref sb, .int 0] ∧ Z.Warmed39 U.vm ∧ U.heap = h0) (fun _ _ _ _ _ => True) (fun _ U o U' => ∃ v L, o = .returned v ∧ (Q_rm_sinit Z sa sb h0 n0) v U'.heap L ∧ FrameEnd U o U' L (oQ 1 0 0 16).cells (oQ 1 0 0 16).slots) := by
  refine MetFree.of_bodySF (plainFor_of_name pn_31) hisR ?_
  intro p e s m args below meth c s₁ Bd hml0 hP hK
  obtain ⟨rfl, hZ, hh⟩ := hP
  have hx := Bd.exec
  have G := @oG _ _ Bd.bytes
  have hml : c.maxLocals = 3 := hml0
  have hown : s.vm.findClass "java/lang/String" = some m.cls := findClass_of_methodNamed Bd.named
  have hnm := (name_of_methodNamed Bd.named Bd.method).1
  have hlk : meth.locks = false := BodyLoose.notSynchronized Bd
  have X0 : Stand p l e (oQ 1 0 0 16) s m #[.ref sa, .ref sb, .int 0] below meth c s₁ [] 0 0 := Stand.of_body Bd
  have e0 : s₁.heap = h0 := by rw [← hh, Bd.state]; rfl
  have N := Fr.nil n0
  have K := Keep.refl h0 [sa]
  refine own_start (cl := (oQ 1 0 0 16).cells) (sl := (oQ 1 0 0 16).slots) (Q := (Q_rm_sinit Z sa sb h0 n0)) (ef_rm_sinit m sa sb ((0 : Int32))) ?_
  refine own_by (S' := (oM s₁ m 1 #[oR sa, oR sb, oI 0] [.ref sa])) (fun _ k => XS.aloadN X0.here hx rfl (G d31_0) rfl rfl k) ?_
  obtain ⟨T287, X287, e287, st287⟩ := initO X0 hx hZ hown (gw hw 184 rfl) (gw hw 19 rfl) (gw hw 20 rfl) e0 (g := (mkF m 1 #[oR sa, oR sb, oI 0] [.ref sa])) rfl (by rw [hml]; rfl) rfl (G d31_1) (by decide) (W := 0) oZ (by decide)
  refine own_by st287 ?_
  refine own_by (S' := (oM T287 m 6 #[oR sa, oR sb, oI 0] [.ref sb, .ref sa])) (fun _ k => XS.aloadN X287.here hx rfl (G d31_4) rfl rfl (XS.aloadN X287.here hx rfl (G d31_5) rfl rfl k)) ?_
  obtain ⟨T288, h288, X288, e288, W288, st288⟩ := putF X287 hx hZ hown (host := "") (Or.inl (gw hw 112 rfl)) Via.refl e287 F_value E_sa (Or.inr ⟨(gw hw 99 rfl), rfl, hnm⟩) (gw hw 98 rfl) (ty := (.array .byte)) (by decide) rfl rfl (g := (mkF m 6 #[oR sa, oR sb, oI 0] [.ref sb, .ref sa])) rfl rfl (G d31_6)
  have N := Fr.snoc X288 N o_sa
  have E_sa := E_sa.wr W288
  have F_value := F_value.same W288
  have F_coder := oT F_coder W288 (Or.inr (gw hw 100 rfl)) (Or.inr (gw hw 99 rfl)) .byte (.array .byte)
  have F_hash := oT F_hash W288 (Or.inl (gw hw 196 rfl)) (Or.inr (gw hw 99 rfl)) .int (.array .byte)
  have F_hashIsZero := oT F_hashIsZero W288 (Or.inl (gw hw 198 rfl)) (Or.inr (gw hw 99 rfl)) .boolean (.array .byte)
  have Zn : n0 ≤ _ := Nat.le_trans Zn (Nat.le_of_eq W288.size.symm)
  have K := K.wr W288 (Or.inl (List.mem_of_getElem? (i := 0) rfl))
  refine own_by st288 ?_
  refine own_by (S' := (oM T288 m 11 #[oR sa, oR sb, oI 0] [.int 0, .ref sa])) (fun _ k => XS.aloadN X288.here hx rfl (G d31_9) rfl rfl (XS.iloadN X288.here hx rfl (G d31_10) rfl k)) ?_
  obtain ⟨T289, h289, X289, e289, W289, st289⟩ := putFN X288 hx hZ hown (gw hw 119 rfl) Via.refl e288 F_coder E_sa (Or.inr ⟨(gw hw 100 rfl), rfl, hnm⟩) (gw hw 98 rfl) (ty := .byte) (v' := (.int 0)) (by decide) rfl rfl (g := (mkF m 11 #[oR sa, oR sb, oI 0] [.int 0, .ref sa])) rfl rfl (G d31_11)
  have N := Fr.snoc X289 N o_sa
  have E_sa := E_sa.wr W289
  have F_value := oT F_value W289 (Or.inr (gw hw 99 rfl)) (Or.inr (gw hw 100 rfl)) (.array .byte) .byte
  have F_coder := F_coder.same W289
  have F_hash := oT F_hash W289 (Or.inl (gw hw 196 rfl)) (Or.inr (gw hw 100 rfl)) .int .byte
  have F_hashIsZero := oT F_hashIsZero W289 (Or.inl (gw hw 198 rfl)) (Or.inr (gw hw 100 rfl)) .boolean .byte
  have Zn : n0 ≤ _ := Nat.le_trans Zn (Nat.le_of_eq W289.size.symm)
  have K := K.wr W289 (Or.inl (List.mem_of_getElem? (i := 0) rfl))
  refine own_by st289 ?_
  exact own_ret0 X289 hx Bd.returns (G d31_14) hlk (by decide : 0 ≤ _) (by decide : 0 ≤ _) (by rw [e289]; exact ⟨rfl, N, K, F_value, F_coder, F_hash, F_hashIsZero⟩)
theorem d28_0 : oD c_28 0 (.getstatic 38, 3) := by decide +kernel
theorem d28_3 : oD c_28 3 (.ifCond .eq 23, 3) := by decide +kernel
theorem d28_6 : oD c_28 6 (.iload_n 0, 1) := by decide +kernel
theorem d28_7 : oD c_28 7 (.invokestatic 1015, 3) := by decide +kernel
theorem d28_10 : oD c_28 10 (.ifCond .eq 16, 3) := by decide +kernel
theorem d28_13 : oD c_28 13 (.new 10, 3) := by decide +kernel
theorem d28_16 : oD c_28 16 (.dup, 1) := by decide +kernel
theorem d28_17 : oD c_28 17 (.iload_n 0, 1) := by decide +kernel
theorem d28_18 : oD c_28 18 (.invokestatic 1018, 3) := by decide +kernel
theorem d28_21 : oD c_28 21 (.iconst 0, 1) := by decide +kernel
theorem d28_22 : oD c_28 22 (.invokespecial 209, 3) := by decide +kernel
theorem d28_25 : oD c_28 25 (.areturn, 1) := by decide +kernel
theorem pn_28 : plainName "java/lang/String" = true := by first | (simp [plainName, overriddenIn]; done) | decide +kernel
theorem ef_rm_valueOf (m : MethodId) (x0 : Int32) : entryFrame m #[.int x0] 1 = mkF m 0 #[oI x0] [] := by first | (simp [entryFrame, mkF, argsToLocals, Value.category]; done) | rfl
def Q_rm_valueOf (Z : State) (ch : Nat) (cs : Int32) (fo : Value) (bo : Addr) (h0 : Heap) (n0 : Nat) (v : Option Value) (h : Heap) (L : List Loc) : Prop := ∃ sa sb : Addr, v = some (.ref sa) ∧ Fr n0 L ∧ Keep h0 h [] ∧ h0.size ≤ sa ∧ own_str Z h sa sb [.int ((Int32.ofNat ch).toInt8.toInt32).toInt8.toInt32] ∧ Fld Z h sa "java/lang/String" "hash" "I" (.int 0) ∧ Fld Z h sa "java/lang/String" "hashIsZero" "Z" (.int 0)
theorem pd__28C_29_5bB : parseMethodDescriptor "(C)[B" = some ⟨[.char], some (.array .byte)⟩ := by decide +kernel
theorem pd__28_5bBB_29V : parseMethodDescriptor "([BB)V" = some ⟨[(.array .byte), .byte], none⟩ := by decide +kernel
set_option maxRecDepth 65536 in
set_option maxHeartbeats 40000000 in
theorem rm_valueOf (l : Launch) (Z : State) (a0 : Array Value) (hw : ∀ d ∈ tables_1, d.before a0 Z = true) (ws : List Jvm.Cond) (ch : Nat) (cs : Int32) (fo : Value) (bo : Addr) (h0 : Heap) (n0 : Nat) (Zn : n0 ≤ h0.size) (hk : ch < 256) (O : Old Z n0 h0) (SS : own_st Z cs fo bo) :
    MetFree l y_28 (head1 (Jvm.Cond.code y_28 c_28 1 (some (.object "java/lang/String")) :: ws) (oQ 2 2 5 32)) (fun a U => a = #[(.int (Int32.ofNat ch))] ∧ Z.Warmed39 U.vm ∧ U.heap = h0) (fun _ _ _ _ _ => True) (fun _ U o U' => ∃ v L, o = .returned v ∧ (Q_rm_valueOf Z ch cs fo bo h0 n0) v U'.heap L ∧ FrameEnd U o U' L (oQ 2 2 5 32).cells (oQ 2 2 5 32).slots) := by
  refine MetFree.of_bodySF (plainFor_of_name pn_28) hisR ?_
  intro p e s m args below meth c s₁ Bd hml0 hP hK
  obtain ⟨rfl, hZ, hh⟩ := hP
  have hx := Bd.exec
  have G := @oG _ _ Bd.bytes
  have hml : c.maxLocals = 1 := hml0
  have hown : s.vm.findClass "java/lang/String" = some m.cls := findClass_of_methodNamed Bd.named
  have hnm := (name_of_methodNamed Bd.named Bd.method).1
  have hlk : meth.locks = false := BodyLoose.notSynchronized Bd
  have X0 : Stand p l e (oQ 2 2 5 32) s m #[(.int (Int32.ofNat ch))] below meth c s₁ [] 0 0 := Stand.of_body Bd
  have e0 : s₁.heap = h0 := by rw [← hh, Bd.state]; rfl
  have N := Fr.nil n0
  have K := Keep.refl h0 []
  refine own_start (cl := (oQ 2 2 5 32).cells) (sl := (oQ 2 2 5 32).slots) (Q := (Q_rm_valueOf Z ch cs fo bo h0 n0)) (ef_rm_valueOf m ((Int32.ofNat ch))) ?_
  obtain ⟨SC, hcs, SF, hfo, SB, EB⟩ := SS
  obtain ⟨T290, X290, e290, st290⟩ := getS2 X0 hx hZ hown (host := "") (Or.inl (gw hw 118 rfl)) Via.refl e0 (SC.ext O.2) (g := (mkF m 0 #[oI (Int32.ofNat ch)] [])) rfl (G d28_0)
  refine own_by st290 ?_
  refine own_by (S' := (oM T290 m 7 #[oI (Int32.ofNat ch)] [(.int (Int32.ofNat ch))])) (fun _ k => XS.ifNo X290.here hx rfl (G d28_3) rfl ((if0 _ _).trans (feq (hcs : ¬ (cs = (0 : Int32)))).1) (XS.iloadN X290.here hx rfl (G d28_6) rfl k)) ?_
  obtain ⟨_, _, ⟨T291, L291, k291, n291⟩, -, X291, ⟨Lc291, hQ291, l291, y291, z291⟩, st291⟩ := Jvm.LawKit.callS X290 hx (y := y_29) hown (mvT hZ (gw hw 173 rfl)) (mvT hZ (gw hw 174 rfl)) (mvT hZ (gw hw 132 rfl)) (mvT hZ (gw hw 175 rfl)) (by decide) (backOf (W := 0) (rm_canEnc l Z a0 hw [] ch h0 n0 Zn hk) hZ (gw hw 175 rfl) (gw hw 132 rfl) (by decide) (by decide)) (g := (mkF m 7 #[oI (Int32.ofNat ch)] [(.int (Int32.ofNat ch))])) rfl (by rw [hml]; rfl) (argsL := [(.int (Int32.ofNat ch))]) (rest := []) (lenOf pd__28C_29Z rfl) rfl oZ (G d28_7) (fun _ _ => ⟨rfl, e290, (by decide : 0 + 0 ≤ _), (by decide : 0 + 0 ≤ _)⟩)
  dsimp only [Pt.U, Pt.locs, Pt.cells, Pt.slots] at X291 l291 y291 z291 st291 hQ291
  have X291 := own_recast X291 l291 y291 z291
  obtain ⟨rfl, N291q, eh⟩ := hQ291
  have N := Fr.app N N291q
  refine own_by st291 ?_
  refine own_by (S' := (oM T291 m 13 #[oI (Int32.ofNat ch)] [])) (fun _ k => XS.ifNo X291.here hx rfl (G d28_10) rfl ((if0 _ _).trans (feq ((by decide) : ¬ ((1 : Int32) = (0 : Int32)))).1) k) ?_
  obtain ⟨T292, h292, X292, e292, E292, A292, D292, -, st292⟩ := newO X291 hx hZ hown (gw hw 176 rfl) (gw hw 98 rfl) (gw hw 97 rfl) eh (g := (mkF m 13 #[oI (Int32.ofNat ch)] [])) rfl (G d28_13) (by decide : 0 + 1 ≤ _) (by decide : 0 + 4 ≤ _)
  obtain ⟨b292, g292⟩ : ∃ z, z = h0.size := ⟨_, rfl⟩
  rw [← g292] at A292 D292 st292
  have o292 : n0 ≤ b292 := Nat.le_trans Zn (Nat.le_of_eq g292.symm)
  have z292 : h0.size ≤ b292 := Nat.le_trans K.1 (Nat.le_of_eq g292.symm)
  have O := O.ext E292
  have Zn := Nat.le_trans Zn E292.1
  have K := K.ext E292
  have E_b292 := A292
  have F_b292_value : Fld Z h292 b292 "java/lang/String" "value" "[B" .null := D292 (Or.inr (gw hw 99 rfl)) (ty := (.array .byte)) (by decide)
  have F_b292_coder : Fld Z h292 b292 "java/lang/String" "coder" "B" (.int 0) := D292 (Or.inr (gw hw 100 rfl)) (ty := .byte) (by decide)
  have F_b292_hash : Fld Z h292 b292 "java/lang/String" "hash" "I" (.int 0) := D292 (Or.inl (gw hw 196 rfl)) (ty := .int) (by decide)
  have F_b292_hashIsZero : Fld Z h292 b292 "java/lang/String" "hashIsZero" "Z" (.int 0) := D292 (Or.inl (gw hw 198 rfl)) (ty := .boolean) (by decide)
  refine own_by st292 ?_
  refine own_by (S' := (oM T292 m 18 #[oI (Int32.ofNat ch)] [(.int (Int32.ofNat ch)), .ref b292, .ref b292])) (fun _ k => XS.dup X292.here hx rfl (G d28_16) rfl rfl (XS.iloadN X292.here hx rfl (G d28_17) rfl k)) ?_
  obtain ⟨_, _, ⟨T293, L293, k293, n293⟩, -, X293, ⟨Lc293, hQ293, l293, y293, z293⟩, st293⟩ := Jvm.LawKit.callS X292 hx (y := y_30) hown (mvT hZ (gw hw 177 rfl)) (mvT hZ (gw hw 178 rfl)) (mvT hZ (gw hw 132 rfl)) (mvT hZ (gw hw 179 rfl)) (by decide) (backOf (W := 2) (rm_toBytes l Z a0 hw [] ch h292 n0 Zn hk) hZ (gw hw 179 rfl) (gw hw 132 rfl) (by decide) (by decide)) (g := (mkF m 18 #[oI (Int32.ofNat ch)] [(.int (Int32.ofNat ch)), .ref b292, .ref b292])) rfl (by rw [hml]; rfl) (argsL := [(.int (Int32.ofNat ch))]) (rest := [.ref b292, .ref b292]) (lenOf pd__28C_29_5bB rfl) rfl oZ (G d28_18) (fun _ _ => ⟨rfl, e292, (by decide : 1 + 1 ≤ _), (by decide : 4 + 1 ≤ _)⟩)
  dsimp only [Pt.U, Pt.locs, Pt.cells, Pt.slots] at X293 l293 y293 z293 st293 hQ293
  have X293 := own_recast X293 l293 y293 z293
  obtain ⟨sb, rfl, N293q, Kb, hsb, A_sb⟩ := hQ293
  have N := Fr.app N N293q
  have O := O.keep Kb all0
  have E_b292 := E_b292.keep Kb
  have F_b292_value := F_b292_value.keep Kb nin0
  have F_b292_coder := F_b292_coder.keep Kb nin0
  have F_b292_hash := F_b292_hash.keep Kb nin0
  have F_b292_hashIsZero := F_b292_hashIsZero.keep Kb nin0
  have Zn : n0 ≤ _ := Nat.le_trans Zn Kb.1
  have K := K.trans Kb all0
  refine own_by st293 ?_
  refine own_by (S' := (oM T293 m 22 #[oI (Int32.ofNat ch)] [.int 0, .ref sb, .ref b292, .ref b292])) (fun _ k => XS.iconst X293.here hx rfl (G d28_21) k) ?_
  have ne_sb : sb ≠ b292 := own_strne0 (gw hw 98 rfl) E_b292 A_sb
  obtain ⟨_, _, ⟨T294, L294, k294, n294⟩, -, X294, ⟨Lc294, hQ294, l294, y294, z294⟩, st294⟩ := X293.specialBack hx (y := y_31) rfl hown (mvT hZ (gw hw 180 rfl)) (mvT hZ (gw hw 181 rfl)) (mvT hZ (gw hw 183 rfl)) (by decide) (backOf (W := 1) (rm_sinit l Z a0 hw [] b292 sb T293.heap n0 Zn E_b292 o292 F_b292_value F_b292_coder F_b292_hash F_b292_hashIsZero) hZ (gw hw 183 rfl) (gw hw 97 rfl) (by decide) (by decide)) (g := (mkF m 22 #[oI (Int32.ofNat ch)] [.int 0, .ref sb, .ref b292, .ref b292])) rfl (by rw [hml]; rfl) (Steps.refl _) (a := b292) (argsL := [.ref sb, .int 0]) (rest := [.ref b292]) (lenOf pd__28_5bBB_29V rfl) rfl oZ (G d28_22) (fun _ _ => ⟨rfl, rfl, (by decide : 2 + 0 ≤ _), (by decide : 5 + 0 ≤ _)⟩)
  dsimp only [Pt.U, Pt.locs, Pt.cells, Pt.slots] at X294 l294 y294 z294 st294 hQ294
  have X294 := own_recast X294 l294 y294 z294
  obtain ⟨rfl, N294q, Kc, G_v, G_c, G_h, G_z⟩ := hQ294
  have N := Fr.app N N294q
  have O := O.keep Kc (allS o292 all0)
  have E_b292 := E_b292.keep Kc
  have A_sb := A_sb.keep Kc (ninS ne_sb nin0)
  have Zn : n0 ≤ _ := Nat.le_trans Zn Kc.1
  have K := K.trans Kc (allS (Or.inr z292) all0)
  refine own_tr st294 ?_
  exact own_ret X294 hx (t := (.object "java/lang/String")) Bd.returns rfl (Or.inr (Or.inr (Or.inr (Or.inr ⟨rfl, rfl, rfl⟩)))) (G d28_25) hlk (by decide : 2 ≤ _) (by decide : 5 ≤ _) (⟨b292, sb, rfl, N, K, z292, ⟨E_b292, G_c, G_v, A_sb⟩, G_h, G_z⟩)
theorem d34_0 : oD c_34 0 (.aload_n 0, 1) := by decide +kernel
theorem d34_1 : oD c_34 1 (.arraylength, 1) := by decide +kernel
theorem d34_2 : oD c_34 2 (.lookupswitch 40 #[(0, 26), (1, 30)], 26) := by decide +kernel
theorem d34_32 : oD c_34 32 (.aload_n 0, 1) := by decide +kernel
theorem d34_33 : oD c_34 33 (.iconst 0, 1) := by decide +kernel
theorem d34_34 : oD c_34 34 (.baload, 1) := by decide +kernel
theorem d34_35 : oD c_34 35 (.sipush 255, 3) := by decide +kernel
theorem d34_38 : oD c_34 38 (.iand, 1) := by decide +kernel
theorem d34_39 : oD c_34 39 (.goto 12, 3) := by decide +kernel
theorem d34_51 : oD c_34 51 (.ireturn, 1) := by decide +kernel
theorem pn_34 : plainName "java/lang/StringLatin1" = true := by first | (simp [plainName, overriddenIn]; done) | decide +kernel
theorem ef_rm_l1hash (m : MethodId) (x0 : Addr) : entryFrame m #[.ref x0] 1 = mkF m 0 #[oR x0] [] := by first | (simp [entryFrame, mkF, argsToLocals, Value.category]; done) | rfl
def Q_rm_l1hash (Z : State) (sb : Addr) (z1 : Int32) (ch : Nat) (h0 : Heap) (n0 : Nat) (v : Option Value) (h : Heap) (L : List Loc) : Prop := v = some (.int (Int32.ofNat ch)) ∧ Fr n0 L ∧ h = h0
set_option maxRecDepth 65536 in
set_option maxHeartbeats 40000000 in
theorem rm_l1hash (l : Launch) (Z : State) (a0 : Array Value) (hw : ∀ d ∈ tables_1, d.before a0 Z = true) (ws : List Jvm.Cond) (sb : Addr) (z1 : Int32) (ch : Nat) (h0 : Heap) (n0 : Nat) (Zn : n0 ≤ h0.size) (A_sb : OwnA Z h0 sb .byte [.int z1]) (hz : (z1 &&& (255 : Int32)) = Int32.ofNat ch) :
    MetFree l y_34 (head1 (Jvm.Cond.code y_34 c_34 1 (some .int) :: ws) (oQ 0 0 0 0)) (fun a U => a = #[.ref sb] ∧ Z.Warmed39 U.vm ∧ U.heap = h0) (fun _ _ _ _ _ => True) (fun _ U o U' => ∃ v L, o = .returned v ∧ (Q_rm_l1hash Z sb z1 ch h0 n0) v U'.heap L ∧ FrameEnd U o U' L (oQ 0 0 0 0).cells (oQ 0 0 0 0).slots) := by
  refine MetFree.of_bodySF (plainFor_of_name pn_34) hisR ?_
  intro p e s m args below meth c s₁ Bd hml0 hP hK
  obtain ⟨rfl, hZ, hh⟩ := hP
  have hx := Bd.exec
  have G := @oG _ _ Bd.bytes
  have hml : c.maxLocals = 1 := hml0
  have hown : s.vm.findClass "java/lang/StringLatin1" = some m.cls := findClass_of_methodNamed Bd.named
  have hnm := (name_of_methodNamed Bd.named Bd.method).1
  have hlk : meth.locks = false := BodyLoose.notSynchronized Bd
  have X0 : Stand p l e (oQ 0 0 0 0) s m #[.ref sb] below meth c s₁ [] 0 0 := Stand.of_body Bd
  have e0 : s₁.heap = h0 := by rw [← hh, Bd.state]; rfl
  have N := Fr.nil n0
  have K := Keep.refl h0 []
  refine own_start (cl := (oQ 0 0 0 0).cells) (sl := (oQ 0 0 0 0).slots) (Q := (Q_rm_l1hash Z sb z1 ch h0 n0)) (ef_rm_l1hash m sb) ?_
  refine own_by (S' := (oM s₁ m 39 #[oR sb] [(.int (z1 &&& (255 : Int32)))])) (fun _ k => XS.aloadN X0.here hx rfl (G d34_0) rfl rfl (own_len X0 hx hZ e0 A_sb rfl (g := (mkF m 1 #[oR sb] [.ref sb])) rfl rfl (G d34_1) _ (X0.lookupswitchHit hx (g := (mkF m 2 #[oR sb] [.int 1])) rfl (k := (1 : Int32)) rfl (G d34_2) (by decide) (a := 1) (off := 30) (by decide) (show (0 : Int) ≤ 2 + 30 by decide) _ (XS.aloadN X0.here hx rfl (G d34_32) rfl rfl (XS.iconst X0.here hx rfl (G d34_33) (own_baload X0 hx hZ e0 A_sb (by decide) (v := (.int z1)) rfl (g := (mkF m 34 #[oR sb] [.int 0, .ref sb])) rfl rfl (G d34_34) _ (XS.sipush X0.here hx rfl (G d34_35) (XS.iand X0.here hx rfl (G d34_38) rfl k)))))))) ?_
  rw [show (z1 &&& (255 : Int32)) = (Int32.ofNat ch) from hz]
  refine own_by (S' := (oM s₁ m 51 #[oR sb] [(.int (Int32.ofNat ch))])) (fun _ k => XS.goto X0.here hx rfl (pc0 := 39) (pc' := 51) rfl (G d34_39) (by decide) (by decide) k) ?_
  exact own_ret X0 hx (t := .int) Bd.returns rfl (Or.inl ⟨rfl, by simp, _, rfl⟩) (G d34_51) hlk (by decide : 0 ≤ _) (by decide : 0 ≤ _) (by rw [e0]; exact ⟨rfl, N, rfl⟩)
theorem d33_0 : oD c_33 0 (.aload_n 0, 1) := by decide +kernel
theorem d33_1 : oD c_33 1 (.getfield 19, 3) := by decide +kernel
theorem d33_4 : oD c_33 4 (.istore_n 1, 1) := by decide +kernel
theorem d33_5 : oD c_33 5 (.iload_n 1, 1) := by decide +kernel
theorem d33_6 : oD c_33 6 (.ifCond .ne 52, 3) := by decide +kernel
theorem d33_9 : oD c_33 9 (.aload_n 0, 1) := by decide +kernel
theorem d33_10 : oD c_33 10 (.getfield 23, 3) := by decide +kernel
theorem d33_13 : oD c_33 13 (.ifCond .ne 45, 3) := by decide +kernel
theorem d33_16 : oD c_33 16 (.aload_n 0, 1) := by decide +kernel
theorem d33_17 : oD c_33 17 (.invokevirtual 492, 3) := by decide +kernel
theorem d33_20 : oD c_33 20 (.ifCond .eq 13, 3) := by decide +kernel
theorem d33_23 : oD c_33 23 (.aload_n 0, 1) := by decide +kernel
theorem d33_24 : oD c_33 24 (.getfield 9, 3) := by decide +kernel
theorem d33_27 : oD c_33 27 (.invokestatic 628, 3) := by decide +kernel
theorem d33_30 : oD c_33 30 (.goto 10, 3) := by decide +kernel
theorem d33_40 : oD c_33 40 (.istore_n 1, 1) := by decide +kernel
theorem d33_41 : oD c_33 41 (.iload_n 1, 1) := by decide +kernel
theorem d33_42 : oD c_33 42 (.ifCond .ne 11, 3) := by decide +kernel
theorem d33_53 : oD c_33 53 (.aload_n 0, 1) := by decide +kernel
theorem d33_54 : oD c_33 54 (.iload_n 1, 1) := by decide +kernel
theorem d33_55 : oD c_33 55 (.putfield 19, 3) := by decide +kernel
theorem d33_58 : oD c_33 58 (.iload_n 1, 1) := by decide +kernel
theorem d33_59 : oD c_33 59 (.ireturn, 1) := by decide +kernel
theorem pn_33 : plainName "java/lang/String" = true := by first | (simp [plainName, overriddenIn]; done) | decide +kernel
theorem ef_rm_hashCode (m : MethodId) (x0 : Addr) : entryFrame m #[.ref x0] 2 = mkF m 0 #[oR x0, oU] [] := by first | (simp [entryFrame, mkF, argsToLocals, Value.category]; done) | rfl
def Q_rm_hashCode (Z : State) (sa sb : Addr) (z1 : Int32) (ch : Nat) (cs : Int32) (fo : Value) (bo : Addr) (h0 : Heap) (n0 : Nat) (v : Option Value) (h : Heap) (L : List Loc) : Prop := v = some (.int (Int32.ofNat ch)) ∧ Fr n0 L ∧ Keep h0 h [sa] ∧ own_str Z h sa sb [.int z1]
theorem pd__28_5bB_29I : parseMethodDescriptor "([B)I" = some ⟨[(.array .byte)], some .int⟩ := by decide +kernel
set_option maxRecDepth 65536 in
set_option maxHeartbeats 40000000 in
theorem rm_hashCode (l : Launch) (Z : State) (a0 : Array Value) (hw : ∀ d ∈ tables_1, d.before a0 Z = true) (ws : List Jvm.Cond) (sa sb : Addr) (z1 : Int32) (ch : Nat) (cs : Int32) (fo : Value) (bo : Addr) (h0 : Heap) (n0 : Nat) (Zn : n0 ≤ h0.size) (S_a : own_str Z h0 sa sb [.int z1]) (F_h : Fld Z h0 sa "java/lang/String" "hash" "I" (.int 0)) (F_z : Fld Z h0 sa "java/lang/String" "hashIsZero" "Z" (.int 0)) (o_sa : n0 ≤ sa) (hne : sb ≠ sa) (hz : (z1 &&& (255 : Int32)) = Int32.ofNat ch) (hk : own_nc ch) (O : Old Z n0 h0) (SS : own_st Z cs fo bo) :
    MetFree l y_33 (head1 (Jvm.Cond.code y_33 c_33 2 (some .int) :: ws) (oQ 1 0 0 24)) (fun a U => a = #[.ref sa] ∧ Z.Warmed39 U.vm ∧ U.heap = h0) (fun _ _ _ _ _ => True) (fun _ U o U' => ∃ v L, o = .returned v ∧ (Q_rm_hashCode Z sa sb z1 ch cs fo bo h0 n0) v U'.heap L ∧ FrameEnd U o U' L (oQ 1 0 0 24).cells (oQ 1 0 0 24).slots) := by
  refine MetFree.of_bodySF (plainFor_of_name pn_33) hisR ?_
  intro p e s m args below meth c s₁ Bd hml0 hP hK
  obtain ⟨rfl, hZ, hh⟩ := hP
  have hx := Bd.exec
  have G := @oG _ _ Bd.bytes
  have hml : c.maxLocals = 2 := hml0
  have hown : s.vm.findClass "java/lang/String" = some m.cls := findClass_of_methodNamed Bd.named
  have hnm := (name_of_methodNamed Bd.named Bd.method).1
  have hlk : meth.locks = false := BodyLoose.notSynchronized Bd
  have X0 : Stand p l e (oQ 1 0 0 24) s m #[.ref sa] below meth c s₁ [] 0 0 := Stand.of_body Bd
  have e0 : s₁.heap = h0 := by rw [← hh, Bd.state]; rfl
  have N := Fr.nil n0
  have K := Keep.refl h0 [sa]
  refine own_start (cl := (oQ 1 0 0 24).cells) (sl := (oQ 1 0 0 24).slots) (Q := (Q_rm_hashCode Z sa sb z1 ch cs fo bo h0 n0)) (ef_rm_hashCode m sa) ?_
  obtain ⟨SC, hcs, SF, hfo, SB, EB⟩ := SS
  obtain ⟨E_sa, F_sa_c, F_sa_v, A_sb⟩ := S_a
  refine own_by (S' := (oM s₁ m 1 #[oR sa, oU] [.ref sa])) (fun _ k => XS.aloadN X0.here hx rfl (G d33_0) rfl rfl k) ?_
  obtain ⟨T295, X295, e295, st295⟩ := getF X0 hx hZ hown (host := "") (Or.inl (gw hw 195 rfl)) Via.refl e0 F_h (g := (mkF m 1 #[oR sa, oU] [.ref sa])) rfl rfl (G d33_1)
  refine own_by st295 ?_
  refine own_by (S' := (oM T295 m 10 #[oR sa, oI 0] [.ref sa])) (fun _ k => XS.istoreN X295.here hx rfl (G d33_4) rfl (l' := #[oR sa, oI 0]) rfl (XS.iloadN X295.here hx rfl (G d33_5) rfl (XS.ifNo X295.here hx rfl (G d33_6) rfl ((if0 _ _).trans (teq ((by decide) : (0 : Int32) = (0 : Int32))).2) (XS.aloadN X295.here hx rfl (G d33_9) rfl rfl k)))) ?_
  obtain ⟨T296, X296, e296, st296⟩ := getF X295 hx hZ hown (host := "") (Or.inl (gw hw 197 rfl)) Via.refl e295 F_z (g := (mkF m 10 #[oR sa, oI 0] [.ref sa])) rfl rfl (G d33_10)
  refine own_by st296 ?_
  refine own_by (S' := (oM T296 m 17 #[oR sa, oI 0] [.ref sa])) (fun _ k => XS.ifNo X296.here hx rfl (G d33_13) rfl ((if0 _ _).trans (teq ((by decide) : (0 : Int32) = (0 : Int32))).2) (XS.aloadN X296.here hx rfl (G d33_16) rfl rfl k)) ?_
  obtain ⟨cq297, kq297, q297a, q297b, q297c⟩ := isOf hZ e296 E_sa
  obtain ⟨_, _, ⟨T297, L297, k297, n297⟩, -, X297, ⟨Lc297, hQ297, l297, y297, z297⟩, st297⟩ := X296.virtualBack hx (y := y_19) (z := y_19) hown (mvT hZ (gw hw 125 rfl)) (mvT hZ (gw hw 126 rfl)) (notFace_of_selects (args := #[]) (mvT hZ (gw hw 128 rfl))) (mvT hZ (gw hw 128 rfl)) (mvT hZ (gw hw 127 rfl)) (by decide) (backOf (W := 0) (rm_isL1 l Z a0 hw [] sa sb [.int z1] cs fo bo h0 n0 Zn ⟨E_sa, F_sa_c, F_sa_v, A_sb⟩ O ⟨SC, hcs, SF, hfo, SB, EB⟩) hZ (gw hw 129 rfl) (gw hw 97 rfl) (by decide) (by decide)) q297a q297c (g := (mkF m 17 #[oR sa, oI 0] [.ref sa])) rfl (by rw [hml]; rfl) (Steps.refl _) (argsL := []) (rest := []) (lenOf pd__28_29Z rfl) rfl oZ (G d33_17) (fun _ _ => ⟨rfl, e296, (by decide : 0 + 0 ≤ _), (by decide : 0 + 0 ≤ _)⟩)
  dsimp only [Pt.U, Pt.locs, Pt.cells, Pt.slots] at X297 l297 y297 z297 st297 hQ297
  have X297 := own_recast X297 l297 y297 z297
  obtain ⟨rfl, N297q, eh⟩ := hQ297
  have N := Fr.app N N297q
  refine own_tr st297 ?_
  refine own_by (S' := (oM T297 m 24 #[oR sa, oI 0] [.ref sa])) (fun _ k => XS.ifNo X297.here hx rfl (G d33_20) rfl ((if0 _ _).trans (feq ((by decide) : ¬ ((1 : Int32) = (0 : Int32)))).1) (XS.aloadN X297.here hx rfl (G d33_23) rfl rfl k)) ?_
  obtain ⟨T298, X298, e298, st298⟩ := getF X297 hx hZ hown (host := "") (Or.inl (gw hw 112 rfl)) Via.refl eh F_sa_v (g := (mkF m 24 #[oR sa, oI 0] [.ref sa])) rfl rfl (G d33_24)
  refine own_by st298 ?_
  obtain ⟨_, _, ⟨T299, L299, k299, n299⟩, -, X299, ⟨Lc299, hQ299, l299, y299, z299⟩, st299⟩ := Jvm.LawKit.callS X298 hx (y := y_34) hown (mvT hZ (gw hw 199 rfl)) (mvT hZ (gw hw 200 rfl)) (mvT hZ (gw hw 132 rfl)) (mvT hZ (gw hw 201 rfl)) (by decide) (backOf (W := 0) (rm_l1hash l Z a0 hw [] sb z1 ch h0 n0 Zn A_sb hz) hZ (gw hw 201 rfl) (gw hw 132 rfl) (by decide) (by decide)) (g := (mkF m 27 #[oR sa, oI 0] [.ref sb])) rfl (by rw [hml]; rfl) (argsL := [.ref sb]) (rest := []) (lenOf pd__28_5bB_29I rfl) rfl oZ (G d33_27) (fun _ _ => ⟨rfl, e298, (by decide : 0 + 0 ≤ _), (by decide : 0 + 0 ≤ _)⟩)
  dsimp only [Pt.U, Pt.locs, Pt.cells, Pt.slots] at X299 l299 y299 z299 st299 hQ299
  have X299 := own_recast X299 l299 y299 z299
  obtain ⟨rfl, N299q, eh2⟩ := hQ299
  have N := Fr.app N N299q
  refine own_by st299 ?_
  refine own_by (S' := (oM T299 m 55 #[oR sa, oI (Int32.ofNat ch)] [(.int (Int32.ofNat ch)), .ref sa])) (fun _ k => XS.goto X299.here hx rfl (pc0 := 30) (pc' := 40) rfl (G d33_30) (by decide) (by decide) (XS.istoreN X299.here hx rfl (G d33_40) rfl (l' := #[oR sa, oI (Int32.ofNat ch)]) rfl (XS.iloadN X299.here hx rfl (G d33_41) rfl (XS.ifYes X299.here hx rfl (pc0 := 42) (pc' := 53) rfl (G d33_42) rfl ((if0 _ _).trans (feq ((own_ofne (n := 0) (by have := hk.2.1; omega) (by decide) (by have := hk.1; omega)) : ¬ ((Int32.ofNat ch) = (0 : Int32)))).2) (by decide) (by decide) (XS.aloadN X299.here hx rfl (G d33_53) rfl rfl (XS.iloadN X299.here hx rfl (G d33_54) rfl k)))))) ?_
  obtain ⟨T300, h300, X300, e300, W300, st300⟩ := putF X299 hx hZ hown (host := "") (Or.inl (gw hw 195 rfl)) Via.refl eh2 F_h E_sa (Or.inl (gw hw 196 rfl)) (gw hw 98 rfl) (ty := .int) (by decide) rfl rfl (g := (mkF m 55 #[oR sa, oI (Int32.ofNat ch)] [(.int (Int32.ofNat ch)), .ref sa])) rfl rfl (G d33_55)
  have N := Fr.snoc X300 N o_sa
  have O := O.wr W300 o_sa
  have E_sa := E_sa.wr W300
  have F_sa_c := oT F_sa_c W300 (Or.inr (gw hw 100 rfl)) (Or.inl (gw hw 196 rfl)) .byte .int
  have F_sa_v := oT F_sa_v W300 (Or.inr (gw hw 99 rfl)) (Or.inl (gw hw 196 rfl)) (.array .byte) .int
  have A_sb := A_sb.other W300 hne
  have F_h := F_h.same W300
  have F_z := oT F_z W300 (Or.inl (gw hw 198 rfl)) (Or.inl (gw hw 196 rfl)) .boolean .int
  have Zn : n0 ≤ _ := Nat.le_trans Zn (Nat.le_of_eq W300.size.symm)
  have K := K.wr W300 (Or.inl (List.mem_of_getElem? (i := 0) rfl))
  refine own_by st300 ?_
  refine own_by (S' := (oM T300 m 59 #[oR sa, oI (Int32.ofNat ch)] [(.int (Int32.ofNat ch))])) (fun _ k => XS.iloadN X300.here hx rfl (G d33_58) rfl k) ?_
  exact own_ret X300 hx (t := .int) Bd.returns rfl (Or.inl ⟨rfl, by simp, _, rfl⟩) (G d33_59) hlk (by decide : 0 ≤ _) (by decide : 0 ≤ _) (by rw [e300]; exact ⟨rfl, N, K, ⟨E_sa, F_sa_c, F_sa_v, A_sb⟩⟩)
theorem d36_0 : oD c_36 0 (.iload_n 2, 1) := by decide +kernel
theorem d36_1 : oD c_36 1 (.iload_n 1, 1) := by decide +kernel
theorem d36_2 : oD c_36 2 (.isub, 1) := by decide +kernel
theorem d36_3 : oD c_36 3 (.aload_n 3, 1) := by decide +kernel
theorem d36_4 : oD c_36 4 (.invokevirtual 238, 3) := by decide +kernel
theorem d36_7 : oD c_36 7 (.if_icmp .ne 7, 3) := by decide +kernel
theorem d36_10 : oD c_36 10 (.iconst 1, 1) := by decide +kernel
theorem d36_11 : oD c_36 11 (.goto 4, 3) := by decide +kernel
theorem d36_15 : oD c_36 15 (.istore 4, 2) := by decide +kernel
theorem d36_17 : oD c_36 17 (.iconst 0, 1) := by decide +kernel
theorem d36_18 : oD c_36 18 (.istore 5, 2) := by decide +kernel
theorem d36_20 : oD c_36 20 (.iload 5, 2) := by decide +kernel
theorem d36_22 : oD c_36 22 (.aload_n 3, 1) := by decide +kernel
theorem d36_23 : oD c_36 23 (.invokevirtual 238, 3) := by decide +kernel
theorem d36_26 : oD c_36 26 (.if_icmp .ge 39, 3) := by decide +kernel
theorem d36_29 : oD c_36 29 (.iload 4, 2) := by decide +kernel
theorem d36_31 : oD c_36 31 (.ifCond .eq 34, 3) := by decide +kernel
theorem d36_34 : oD c_36 34 (.aload_n 0, 1) := by decide +kernel
theorem d36_35 : oD c_36 35 (.getfield 47, 3) := by decide +kernel
theorem d36_38 : oD c_36 38 (.iload_n 1, 1) := by decide +kernel
theorem d36_39 : oD c_36 39 (.iload 5, 2) := by decide +kernel
theorem d36_41 : oD c_36 41 (.iadd, 1) := by decide +kernel
theorem d36_42 : oD c_36 42 (.caload, 1) := by decide +kernel
theorem d36_43 : oD c_36 43 (.aload_n 3, 1) := by decide +kernel
theorem d36_44 : oD c_36 44 (.iload 5, 2) := by decide +kernel
theorem d36_46 : oD c_36 46 (.invokevirtual 240, 3) := by decide +kernel
theorem d36_49 : oD c_36 49 (.if_icmp .ne 7, 3) := by decide +kernel
theorem d36_52 : oD c_36 52 (.iconst 1, 1) := by decide +kernel
theorem d36_53 : oD c_36 53 (.goto 4, 3) := by decide +kernel
theorem d36_57 : oD c_36 57 (.istore 4, 2) := by decide +kernel
theorem d36_59 : oD c_36 59 (.iinc 5 1, 3) := by decide +kernel
theorem d36_62 : oD c_36 62 (.goto (-42), 3) := by decide +kernel
theorem d36_65 : oD c_36 65 (.iload 4, 2) := by decide +kernel
theorem d36_67 : oD c_36 67 (.ireturn, 1) := by decide +kernel
theorem pn_36 : plainName "com/example/upright_play/uprightplay/event/Members" = true := by first | (simp [plainName, overriddenIn]; done) | decide +kernel
theorem ef_rm_holds2 (m : MethodId) (x0 : Addr) (x1 : Int32) (x2 : Int32) (x3 : Addr) : entryFrame m #[.ref x0, .int x1, .int x2, .ref x3] 6 = mkF m 0 #[oR x0, oI x1, oI x2, oR x3, oU, oU] [] := by first | (simp [entryFrame, mkF, argsToLocals, Value.category]; done) | rfl
def Q_rm_holds2 (Z : State) (mb li : Addr) (LN : List Value) (sa sb : Addr) (z1 : Int32) (ch : Nat) (cs : Int32) (fo : Value) (bo : Addr) (h0 : Heap) (n0 : Nat) (v : Option Value) (h : Heap) (L : List Loc) : Prop := v = some (.int 1) ∧ Fr n0 L ∧ h = h0
set_option maxRecDepth 65536 in
set_option maxHeartbeats 40000000 in
theorem rm_holds2 (l : Launch) (Z : State) (a0 : Array Value) (hw : ∀ d ∈ tables_1, d.before a0 Z = true) (ws : List Jvm.Cond) (mb li : Addr) (LN : List Value) (sa sb : Addr) (z1 : Int32) (ch : Nat) (cs : Int32) (fo : Value) (bo : Addr) (h0 : Heap) (n0 : Nat) (Zn : n0 ≤ h0.size) (f_10 : Fld Z h0 mb "com/example/upright_play/uprightplay/event/Members" "line" "[C" (.ref li)) (A_li : OwnA Z h0 li .char LN) (h2 : LN[2]? = some (.int (Int32.ofNat ch))) (S_a : own_str Z h0 sa sb [.int z1]) (hz : (z1 &&& (255 : Int32)) = Int32.ofNat ch) (hk : ch < 256) (O : Old Z n0 h0) (SS : own_st Z cs fo bo) :
    MetFree l y_36 (head1 (Jvm.Cond.code y_36 c_36 6 (some .boolean) :: ws) (oQ 4 0 0 80)) (fun a U => a = #[.ref mb, .int 2, .int 3, .ref sa] ∧ Z.Warmed39 U.vm ∧ U.heap = h0) (fun _ _ _ _ _ => True) (fun _ U o U' => ∃ v L, o = .returned v ∧ (Q_rm_holds2 Z mb li LN sa sb z1 ch cs fo bo h0 n0) v U'.heap L ∧ FrameEnd U o U' L (oQ 4 0 0 80).cells (oQ 4 0 0 80).slots) := by
  refine MetFree.of_bodySF (plainFor_of_name pn_36) hisR ?_
  intro p e s m args below meth c s₁ Bd hml0 hP hK
  obtain ⟨rfl, hZ, hh⟩ := hP
  have hx := Bd.exec
  have G := @oG _ _ Bd.bytes
  have hml : c.maxLocals = 6 := hml0
  have hown : s.vm.findClass "com/example/upright_play/uprightplay/event/Members" = some m.cls := findClass_of_methodNamed Bd.named
  have hnm := (name_of_methodNamed Bd.named Bd.method).1
  have hlk : meth.locks = false := BodyLoose.notSynchronized Bd
  have X0 : Stand p l e (oQ 4 0 0 80) s m #[.ref mb, .int 2, .int 3, .ref sa] below meth c s₁ [] 0 0 := Stand.of_body Bd
  have e0 : s₁.heap = h0 := by rw [← hh, Bd.state]; rfl
  have N := Fr.nil n0
  have K := Keep.refl h0 []
  refine own_start (cl := (oQ 4 0 0 80).cells) (sl := (oQ 4 0 0 80).slots) (Q := (Q_rm_holds2 Z mb li LN sa sb z1 ch cs fo bo h0 n0)) (ef_rm_holds2 m mb ((2 : Int32)) ((3 : Int32)) sa) ?_
  obtain ⟨SC, hcs, SF, hfo, SB, EB⟩ := SS
  obtain ⟨E_sa, F_sa_c, F_sa_v, A_sb⟩ := S_a
  refine own_by (S' := (oM s₁ m 4 #[oR mb, oI 2, oI 3, oR sa, oU, oU] [.ref sa, .int 1])) (fun _ k => XS.iloadN X0.here hx rfl (G d36_0) rfl (XS.iloadN X0.here hx rfl (G d36_1) rfl (XS.isub X0.here hx rfl (G d36_2) rfl (XS.aloadN X0.here hx rfl (G d36_3) rfl rfl k)))) ?_
  obtain ⟨cq302, kq302, q302a, q302b, q302c⟩ := isOf hZ e0 E_sa
  obtain ⟨_, _, ⟨T302, L302, k302, n302⟩, -, X302, ⟨Lc302, hQ302, l302, y302, z302⟩, st302⟩ := X0.virtualBack hx (y := y_16) (z := y_16) hown (mvT hZ (gw hw 107 rfl)) (mvT hZ (gw hw 108 rfl)) (notFace_of_selects (args := #[]) (mvT hZ (gw hw 110 rfl))) (mvT hZ (gw hw 110 rfl)) (mvT hZ (gw hw 109 rfl)) (by decide) (backOf (W := 1) (rm_len l Z a0 hw [] sa sb [.int z1] cs fo bo h0 n0 Zn ⟨E_sa, F_sa_c, F_sa_v, A_sb⟩ O ⟨SC, hcs, SF, hfo, SB, EB⟩) hZ (gw hw 111 rfl) (gw hw 97 rfl) (by decide) (by decide)) q302a q302c (g := (mkF m 4 #[oR mb, oI 2, oI 3, oR sa, oU, oU] [.ref sa, .int 1])) rfl (by rw [hml]; rfl) (Steps.refl _) (argsL := []) (rest := [.int 1]) (lenOf pd__28_29I rfl) rfl oZ (G d36_4) (fun _ _ => ⟨rfl, e0, (by decide : 0 + 0 ≤ _), (by decide : 0 + 0 ≤ _)⟩)
  dsimp only [Pt.U, Pt.locs, Pt.cells, Pt.slots] at X302 l302 y302 z302 st302 hQ302
  have X302 := own_recast X302 l302 y302 z302
  obtain ⟨rfl, N302q, eh301⟩ := hQ302
  have N := Fr.app N N302q
  refine own_tr st302 ?_
  refine own_by (S' := (oM T302 m 23 #[oR mb, oI 2, oI 3, oR sa, oI 1, oI 0] [.ref sa, .int 0])) (fun _ k => XS.icmpNo X302.here hx rfl (G d36_7) rfl (teq ((by decide) : (1 : Int32) = (1 : Int32))).2 (XS.iconst X302.here hx rfl (G d36_10) (XS.goto X302.here hx rfl (pc0 := 11) (pc' := 15) rfl (G d36_11) (by decide) (by decide) (XS.istore X302.here hx rfl (G d36_15) rfl (l' := #[oR mb, oI 2, oI 3, oR sa, oI 1, oU]) rfl (XS.iconst X302.here hx rfl (G d36_17) (XS.istore X302.here hx rfl (G d36_18) rfl (l' := #[oR mb, oI 2, oI 3, oR sa, oI 1, oI 0]) rfl (XS.iload X302.here hx rfl (G d36_20) rfl (XS.aloadN X302.here hx rfl (G d36_22) rfl rfl k)))))))) ?_
  obtain ⟨cq304, kq304, q304a, q304b, q304c⟩ := isOf hZ eh301 E_sa
  obtain ⟨_, _, ⟨T304, L304, k304, n304⟩, -, X304, ⟨Lc304, hQ304, l304, y304, z304⟩, st304⟩ := X302.virtualBack hx (y := y_16) (z := y_16) hown (mvT hZ (gw hw 107 rfl)) (mvT hZ (gw hw 108 rfl)) (notFace_of_selects (args := #[]) (mvT hZ (gw hw 110 rfl))) (mvT hZ (gw hw 110 rfl)) (mvT hZ (gw hw 109 rfl)) (by decide) (backOf (W := 1) (rm_len l Z a0 hw [] sa sb [.int z1] cs fo bo h0 n0 Zn ⟨E_sa, F_sa_c, F_sa_v, A_sb⟩ O ⟨SC, hcs, SF, hfo, SB, EB⟩) hZ (gw hw 111 rfl) (gw hw 97 rfl) (by decide) (by decide)) q304a q304c (g := (mkF m 23 #[oR mb, oI 2, oI 3, oR sa, oI 1, oI 0] [.ref sa, .int 0])) rfl (by rw [hml]; rfl) (Steps.refl _) (argsL := []) (rest := [.int 0]) (lenOf pd__28_29I rfl) rfl oZ (G d36_23) (fun _ _ => ⟨rfl, eh301, (by decide : 0 + 0 ≤ _), (by decide : 0 + 0 ≤ _)⟩)
  dsimp only [Pt.U, Pt.locs, Pt.cells, Pt.slots] at X304 l304 y304 z304 st304 hQ304
  have X304 := own_recast X304 l304 y304 z304
  obtain ⟨rfl, N304q, eh303⟩ := hQ304
  have N := Fr.app N N304q
  refine own_tr st304 ?_
  refine own_by (S' := (oM T304 m 35 #[oR mb, oI 2, oI 3, oR sa, oI 1, oI 0] [.ref mb])) (fun _ k => XS.icmpNo X304.here hx rfl (G d36_26) rfl (tlt ((by decide) : (0 : Int32) < (1 : Int32))).2.1 (XS.iload X304.here hx rfl (G d36_29) rfl (XS.ifNo X304.here hx rfl (G d36_31) rfl ((if0 _ _).trans (feq ((by decide) : ¬ ((1 : Int32) = (0 : Int32)))).1) (XS.aloadN X304.here hx rfl (G d36_34) rfl rfl k)))) ?_
  obtain ⟨T305, X305, e305, st305⟩ := getF X304 hx hZ hown (host := "") (Or.inl (gw hw 52 rfl)) Via.refl eh303 f_10 (g := (mkF m 35 #[oR mb, oI 2, oI 3, oR sa, oI 1, oI 0] [.ref mb])) rfl rfl (G d36_35)
  refine own_by st305 ?_
  refine own_by (S' := (oM T305 m 46 #[oR mb, oI 2, oI 3, oR sa, oI 1, oI 0] [.int 0, .ref sa, (.int (Int32.ofNat ch))])) (fun _ k => XS.iloadN X305.here hx rfl (G d36_38) rfl (XS.iload X305.here hx rfl (G d36_39) rfl (XS.iadd X305.here hx rfl (G d36_41) rfl (own_caload X305 hx hZ e305 A_li (by decide) (v := (.int (Int32.ofNat ch))) (show LN[(2 : Int32).toNatClampNeg]? = _ from h2) (g := (mkF m 42 #[oR mb, oI 2, oI 3, oR sa, oI 1, oI 0] [.int 2, .ref li])) rfl rfl (G d36_42) _ (XS.aloadN X305.here hx rfl (G d36_43) rfl rfl (XS.iload X305.here hx rfl (G d36_44) rfl k)))))) ?_
  obtain ⟨cq307, kq307, q307a, q307b, q307c⟩ := isOf hZ e305 E_sa
  obtain ⟨_, _, ⟨T307, L307, k307, n307⟩, -, X307, ⟨Lc307, hQ307, l307, y307, z307⟩, st307⟩ := X305.virtualBack hx (y := y_18) (z := y_18) hown (mvT hZ (gw hw 120 rfl)) (mvT hZ (gw hw 121 rfl)) (notFace_of_selects (args := #[]) (mvT hZ (gw hw 123 rfl))) (mvT hZ (gw hw 123 rfl)) (mvT hZ (gw hw 122 rfl)) (by decide) (backOf (W := 1) (rm_charAt l Z a0 hw [] sa sb [.int z1] (0 : Int32) z1 (Int32.ofNat ch) cs fo bo h0 n0 Zn ⟨E_sa, F_sa_c, F_sa_v, A_sb⟩ (by decide) (of_decide_eq_true rfl) rfl (by rw [hz]; exact own_c16 _ hk) (own_c16 _ hk) O ⟨SC, hcs, SF, hfo, SB, EB⟩) hZ (gw hw 124 rfl) (gw hw 97 rfl) (by decide) (by decide)) q307a q307c (g := (mkF m 46 #[oR mb, oI 2, oI 3, oR sa, oI 1, oI 0] [.int 0, .ref sa, (.int (Int32.ofNat ch))])) rfl (by rw [hml]; rfl) (Steps.refl _) (argsL := [.int 0]) (rest := [(.int (Int32.ofNat ch))]) (lenOf pd__28I_29C rfl) rfl oZ (G d36_46) (fun _ _ => ⟨rfl, e305, (by decide : 0 + 0 ≤ _), (by decide : 0 + 0 ≤ _)⟩)
  dsimp only [Pt.U, Pt.locs, Pt.cells, Pt.slots] at X307 l307 y307 z307 st307 hQ307
  have X307 := own_recast X307 l307 y307 z307
  obtain ⟨rfl, N307q, eh306⟩ := hQ307
  have N := Fr.app N N307q
  refine own_tr st307 ?_
  refine own_by (S' := (oM T307 m 23 #[oR mb, oI 2, oI 3, oR sa, oI 1, oI 1] [.ref sa, .int 1])) (fun _ k => XS.icmpNo X307.here hx rfl (G d36_49) rfl (teq (rfl : (Int32.ofNat ch) = (Int32.ofNat ch))).2 (XS.iconst X307.here hx rfl (G d36_52) (XS.goto X307.here hx rfl (pc0 := 53) (pc' := 57) rfl (G d36_53) (by decide) (by decide) (XS.istore X307.here hx rfl (G d36_57) rfl (l' := #[oR mb, oI 2, oI 3, oR sa, oI 1, oI 0]) rfl (XS.iinc X307.here hx rfl (G d36_59) rfl (l' := #[oR mb, oI 2, oI 3, oR sa, oI 1, oI 1]) rfl (XS.goto X307.here hx rfl (pc0 := 62) (pc' := 20) rfl (G d36_62) (by decide) (by decide) (XS.iload X307.here hx rfl (G d36_20) rfl (XS.aloadN X307.here hx rfl (G d36_22) rfl rfl k)))))))) ?_
  obtain ⟨cq309, kq309, q309a, q309b, q309c⟩ := isOf hZ eh306 E_sa
  obtain ⟨_, _, ⟨T309, L309, k309, n309⟩, -, X309, ⟨Lc309, hQ309, l309, y309, z309⟩, st309⟩ := X307.virtualBack hx (y := y_16) (z := y_16) hown (mvT hZ (gw hw 107 rfl)) (mvT hZ (gw hw 108 rfl)) (notFace_of_selects (args := #[]) (mvT hZ (gw hw 110 rfl))) (mvT hZ (gw hw 110 rfl)) (mvT hZ (gw hw 109 rfl)) (by decide) (backOf (W := 1) (rm_len l Z a0 hw [] sa sb [.int z1] cs fo bo h0 n0 Zn ⟨E_sa, F_sa_c, F_sa_v, A_sb⟩ O ⟨SC, hcs, SF, hfo, SB, EB⟩) hZ (gw hw 111 rfl) (gw hw 97 rfl) (by decide) (by decide)) q309a q309c (g := (mkF m 23 #[oR mb, oI 2, oI 3, oR sa, oI 1, oI 1] [.ref sa, .int 1])) rfl (by rw [hml]; rfl) (Steps.refl _) (argsL := []) (rest := [.int 1]) (lenOf pd__28_29I rfl) rfl oZ (G d36_23) (fun _ _ => ⟨rfl, eh306, (by decide : 0 + 0 ≤ _), (by decide : 0 + 0 ≤ _)⟩)
  dsimp only [Pt.U, Pt.locs, Pt.cells, Pt.slots] at X309 l309 y309 z309 st309 hQ309
  have X309 := own_recast X309 l309 y309 z309
  obtain ⟨rfl, N309q, eh308⟩ := hQ309
  have N := Fr.app N N309q
  refine own_tr st309 ?_
  refine own_by (S' := (oM T309 m 67 #[oR mb, oI 2, oI 3, oR sa, oI 1, oI 1] [.int 1])) (fun _ k => XS.icmpYes X309.here hx rfl (pc0 := 26) (pc' := 65) rfl (G d36_26) rfl (flt ((by decide) : ¬ ((1 : Int32) < (1 : Int32)))).2.1 (by decide) (by decide) (XS.iload X309.here hx rfl (G d36_65) rfl k)) ?_
  exact own_ret X309 hx (t := .boolean) Bd.returns rfl (Or.inl ⟨rfl, by simp, _, rfl⟩) (G d36_67) hlk (by decide : 0 ≤ _) (by decide : 0 ≤ _) (by rw [eh308]; exact ⟨rfl, N, rfl⟩)
theorem ef_rm_holds13 (m : MethodId) (x0 : Addr) (x1 : Int32) (x2 : Int32) (x3 : Addr) : entryFrame m #[.ref x0, .int x1, .int x2, .ref x3] 6 = mkF m 0 #[oR x0, oI x1, oI x2, oR x3, oU, oU] [] := by first | (simp [entryFrame, mkF, argsToLocals, Value.category]; done) | rfl
def Q_rm_holds13 (Z : State) (mb li : Addr) (LN : List Value) (sa sb : Addr) (z1 : Int32) (ch : Nat) (cs : Int32) (fo : Value) (bo : Addr) (h0 : Heap) (n0 : Nat) (v : Option Value) (h : Heap) (L : List Loc) : Prop := v = some (.int 1) ∧ Fr n0 L ∧ h = h0
set_option maxRecDepth 65536 in
set_option maxHeartbeats 40000000 in
theorem rm_holds13 (l : Launch) (Z : State) (a0 : Array Value) (hw : ∀ d ∈ tables_1, d.before a0 Z = true) (ws : List Jvm.Cond) (mb li : Addr) (LN : List Value) (sa sb : Addr) (z1 : Int32) (ch : Nat) (cs : Int32) (fo : Value) (bo : Addr) (h0 : Heap) (n0 : Nat) (Zn : n0 ≤ h0.size) (f_10 : Fld Z h0 mb "com/example/upright_play/uprightplay/event/Members" "line" "[C" (.ref li)) (A_li : OwnA Z h0 li .char LN) (h2 : LN[13]? = some (.int (Int32.ofNat ch))) (S_a : own_str Z h0 sa sb [.int z1]) (hz : (z1 &&& (255 : Int32)) = Int32.ofNat ch) (hk : ch < 256) (O : Old Z n0 h0) (SS : own_st Z cs fo bo) :
    MetFree l y_36 (head1 (Jvm.Cond.code y_36 c_36 6 (some .boolean) :: ws) (oQ 4 0 0 80)) (fun a U => a = #[.ref mb, .int 13, .int 14, .ref sa] ∧ Z.Warmed39 U.vm ∧ U.heap = h0) (fun _ _ _ _ _ => True) (fun _ U o U' => ∃ v L, o = .returned v ∧ (Q_rm_holds13 Z mb li LN sa sb z1 ch cs fo bo h0 n0) v U'.heap L ∧ FrameEnd U o U' L (oQ 4 0 0 80).cells (oQ 4 0 0 80).slots) := by
  refine MetFree.of_bodySF (plainFor_of_name pn_36) hisR ?_
  intro p e s m args below meth c s₁ Bd hml0 hP hK
  obtain ⟨rfl, hZ, hh⟩ := hP
  have hx := Bd.exec
  have G := @oG _ _ Bd.bytes
  have hml : c.maxLocals = 6 := hml0
  have hown : s.vm.findClass "com/example/upright_play/uprightplay/event/Members" = some m.cls := findClass_of_methodNamed Bd.named
  have hnm := (name_of_methodNamed Bd.named Bd.method).1
  have hlk : meth.locks = false := BodyLoose.notSynchronized Bd
  have X0 : Stand p l e (oQ 4 0 0 80) s m #[.ref mb, .int 13, .int 14, .ref sa] below meth c s₁ [] 0 0 := Stand.of_body Bd
  have e0 : s₁.heap = h0 := by rw [← hh, Bd.state]; rfl
  have N := Fr.nil n0
  have K := Keep.refl h0 []
  refine own_start (cl := (oQ 4 0 0 80).cells) (sl := (oQ 4 0 0 80).slots) (Q := (Q_rm_holds13 Z mb li LN sa sb z1 ch cs fo bo h0 n0)) (ef_rm_holds13 m mb ((13 : Int32)) ((14 : Int32)) sa) ?_
  obtain ⟨SC, hcs, SF, hfo, SB, EB⟩ := SS
  obtain ⟨E_sa, F_sa_c, F_sa_v, A_sb⟩ := S_a
  refine own_by (S' := (oM s₁ m 4 #[oR mb, oI 13, oI 14, oR sa, oU, oU] [.ref sa, .int 1])) (fun _ k => XS.iloadN X0.here hx rfl (G d36_0) rfl (XS.iloadN X0.here hx rfl (G d36_1) rfl (XS.isub X0.here hx rfl (G d36_2) rfl (XS.aloadN X0.here hx rfl (G d36_3) rfl rfl k)))) ?_
  obtain ⟨cq311, kq311, q311a, q311b, q311c⟩ := isOf hZ e0 E_sa
  obtain ⟨_, _, ⟨T311, L311, k311, n311⟩, -, X311, ⟨Lc311, hQ311, l311, y311, z311⟩, st311⟩ := X0.virtualBack hx (y := y_16) (z := y_16) hown (mvT hZ (gw hw 107 rfl)) (mvT hZ (gw hw 108 rfl)) (notFace_of_selects (args := #[]) (mvT hZ (gw hw 110 rfl))) (mvT hZ (gw hw 110 rfl)) (mvT hZ (gw hw 109 rfl)) (by decide) (backOf (W := 1) (rm_len l Z a0 hw [] sa sb [.int z1] cs fo bo h0 n0 Zn ⟨E_sa, F_sa_c, F_sa_v, A_sb⟩ O ⟨SC, hcs, SF, hfo, SB, EB⟩) hZ (gw hw 111 rfl) (gw hw 97 rfl) (by decide) (by decide)) q311a q311c (g := (mkF m 4 #[oR mb, oI 13, oI 14, oR sa, oU, oU] [.ref sa, .int 1])) rfl (by rw [hml]; rfl) (Steps.refl _) (argsL := []) (rest := [.int 1]) (lenOf pd__28_29I rfl) rfl oZ (G d36_4) (fun _ _ => ⟨rfl, e0, (by decide : 0 + 0 ≤ _), (by decide : 0 + 0 ≤ _)⟩)
  dsimp only [Pt.U, Pt.locs, Pt.cells, Pt.slots] at X311 l311 y311 z311 st311 hQ311
  have X311 := own_recast X311 l311 y311 z311
  obtain ⟨rfl, N311q, eh310⟩ := hQ311
  have N := Fr.app N N311q
  refine own_tr st311 ?_
  refine own_by (S' := (oM T311 m 23 #[oR mb, oI 13, oI 14, oR sa, oI 1, oI 0] [.ref sa, .int 0])) (fun _ k => XS.icmpNo X311.here hx rfl (G d36_7) rfl (teq ((by decide) : (1 : Int32) = (1 : Int32))).2 (XS.iconst X311.here hx rfl (G d36_10) (XS.goto X311.here hx rfl (pc0 := 11) (pc' := 15) rfl (G d36_11) (by decide) (by decide) (XS.istore X311.here hx rfl (G d36_15) rfl (l' := #[oR mb, oI 13, oI 14, oR sa, oI 1, oU]) rfl (XS.iconst X311.here hx rfl (G d36_17) (XS.istore X311.here hx rfl (G d36_18) rfl (l' := #[oR mb, oI 13, oI 14, oR sa, oI 1, oI 0]) rfl (XS.iload X311.here hx rfl (G d36_20) rfl (XS.aloadN X311.here hx rfl (G d36_22) rfl rfl k)))))))) ?_
  obtain ⟨cq313, kq313, q313a, q313b, q313c⟩ := isOf hZ eh310 E_sa
  obtain ⟨_, _, ⟨T313, L313, k313, n313⟩, -, X313, ⟨Lc313, hQ313, l313, y313, z313⟩, st313⟩ := X311.virtualBack hx (y := y_16) (z := y_16) hown (mvT hZ (gw hw 107 rfl)) (mvT hZ (gw hw 108 rfl)) (notFace_of_selects (args := #[]) (mvT hZ (gw hw 110 rfl))) (mvT hZ (gw hw 110 rfl)) (mvT hZ (gw hw 109 rfl)) (by decide) (backOf (W := 1) (rm_len l Z a0 hw [] sa sb [.int z1] cs fo bo h0 n0 Zn ⟨E_sa, F_sa_c, F_sa_v, A_sb⟩ O ⟨SC, hcs, SF, hfo, SB, EB⟩) hZ (gw hw 111 rfl) (gw hw 97 rfl) (by decide) (by decide)) q313a q313c (g := (mkF m 23 #[oR mb, oI 13, oI 14, oR sa, oI 1, oI 0] [.ref sa, .int 0])) rfl (by rw [hml]; rfl) (Steps.refl _) (argsL := []) (rest := [.int 0]) (lenOf pd__28_29I rfl) rfl oZ (G d36_23) (fun _ _ => ⟨rfl, eh310, (by decide : 0 + 0 ≤ _), (by decide : 0 + 0 ≤ _)⟩)
  dsimp only [Pt.U, Pt.locs, Pt.cells, Pt.slots] at X313 l313 y313 z313 st313 hQ313
  have X313 := own_recast X313 l313 y313 z313
  obtain ⟨rfl, N313q, eh312⟩ := hQ313
  have N := Fr.app N N313q
  refine own_tr st313 ?_
  refine own_by (S' := (oM T313 m 35 #[oR mb, oI 13, oI 14, oR sa, oI 1, oI 0] [.ref mb])) (fun _ k => XS.icmpNo X313.here hx rfl (G d36_26) rfl (tlt ((by decide) : (0 : Int32) < (1 : Int32))).2.1 (XS.iload X313.here hx rfl (G d36_29) rfl (XS.ifNo X313.here hx rfl (G d36_31) rfl ((if0 _ _).trans (feq ((by decide) : ¬ ((1 : Int32) = (0 : Int32)))).1) (XS.aloadN X313.here hx rfl (G d36_34) rfl rfl k)))) ?_
  obtain ⟨T314, X314, e314, st314⟩ := getF X313 hx hZ hown (host := "") (Or.inl (gw hw 52 rfl)) Via.refl eh312 f_10 (g := (mkF m 35 #[oR mb, oI 13, oI 14, oR sa, oI 1, oI 0] [.ref mb])) rfl rfl (G d36_35)
  refine own_by st314 ?_
  refine own_by (S' := (oM T314 m 46 #[oR mb, oI 13, oI 14, oR sa, oI 1, oI 0] [.int 0, .ref sa, (.int (Int32.ofNat ch))])) (fun _ k => XS.iloadN X314.here hx rfl (G d36_38) rfl (XS.iload X314.here hx rfl (G d36_39) rfl (XS.iadd X314.here hx rfl (G d36_41) rfl (own_caload X314 hx hZ e314 A_li (by decide) (v := (.int (Int32.ofNat ch))) (show LN[(13 : Int32).toNatClampNeg]? = _ from h2) (g := (mkF m 42 #[oR mb, oI 13, oI 14, oR sa, oI 1, oI 0] [.int 13, .ref li])) rfl rfl (G d36_42) _ (XS.aloadN X314.here hx rfl (G d36_43) rfl rfl (XS.iload X314.here hx rfl (G d36_44) rfl k)))))) ?_
  obtain ⟨cq316, kq316, q316a, q316b, q316c⟩ := isOf hZ e314 E_sa
  obtain ⟨_, _, ⟨T316, L316, k316, n316⟩, -, X316, ⟨Lc316, hQ316, l316, y316, z316⟩, st316⟩ := X314.virtualBack hx (y := y_18) (z := y_18) hown (mvT hZ (gw hw 120 rfl)) (mvT hZ (gw hw 121 rfl)) (notFace_of_selects (args := #[]) (mvT hZ (gw hw 123 rfl))) (mvT hZ (gw hw 123 rfl)) (mvT hZ (gw hw 122 rfl)) (by decide) (backOf (W := 1) (rm_charAt l Z a0 hw [] sa sb [.int z1] (0 : Int32) z1 (Int32.ofNat ch) cs fo bo h0 n0 Zn ⟨E_sa, F_sa_c, F_sa_v, A_sb⟩ (by decide) (of_decide_eq_true rfl) rfl (by rw [hz]; exact own_c16 _ hk) (own_c16 _ hk) O ⟨SC, hcs, SF, hfo, SB, EB⟩) hZ (gw hw 124 rfl) (gw hw 97 rfl) (by decide) (by decide)) q316a q316c (g := (mkF m 46 #[oR mb, oI 13, oI 14, oR sa, oI 1, oI 0] [.int 0, .ref sa, (.int (Int32.ofNat ch))])) rfl (by rw [hml]; rfl) (Steps.refl _) (argsL := [.int 0]) (rest := [(.int (Int32.ofNat ch))]) (lenOf pd__28I_29C rfl) rfl oZ (G d36_46) (fun _ _ => ⟨rfl, e314, (by decide : 0 + 0 ≤ _), (by decide : 0 + 0 ≤ _)⟩)
  dsimp only [Pt.U, Pt.locs, Pt.cells, Pt.slots] at X316 l316 y316 z316 st316 hQ316
  have X316 := own_recast X316 l316 y316 z316
  obtain ⟨rfl, N316q, eh315⟩ := hQ316
  have N := Fr.app N N316q
  refine own_tr st316 ?_
  refine own_by (S' := (oM T316 m 23 #[oR mb, oI 13, oI 14, oR sa, oI 1, oI 1] [.ref sa, .int 1])) (fun _ k => XS.icmpNo X316.here hx rfl (G d36_49) rfl (teq (rfl : (Int32.ofNat ch) = (Int32.ofNat ch))).2 (XS.iconst X316.here hx rfl (G d36_52) (XS.goto X316.here hx rfl (pc0 := 53) (pc' := 57) rfl (G d36_53) (by decide) (by decide) (XS.istore X316.here hx rfl (G d36_57) rfl (l' := #[oR mb, oI 13, oI 14, oR sa, oI 1, oI 0]) rfl (XS.iinc X316.here hx rfl (G d36_59) rfl (l' := #[oR mb, oI 13, oI 14, oR sa, oI 1, oI 1]) rfl (XS.goto X316.here hx rfl (pc0 := 62) (pc' := 20) rfl (G d36_62) (by decide) (by decide) (XS.iload X316.here hx rfl (G d36_20) rfl (XS.aloadN X316.here hx rfl (G d36_22) rfl rfl k)))))))) ?_
  obtain ⟨cq318, kq318, q318a, q318b, q318c⟩ := isOf hZ eh315 E_sa
  obtain ⟨_, _, ⟨T318, L318, k318, n318⟩, -, X318, ⟨Lc318, hQ318, l318, y318, z318⟩, st318⟩ := X316.virtualBack hx (y := y_16) (z := y_16) hown (mvT hZ (gw hw 107 rfl)) (mvT hZ (gw hw 108 rfl)) (notFace_of_selects (args := #[]) (mvT hZ (gw hw 110 rfl))) (mvT hZ (gw hw 110 rfl)) (mvT hZ (gw hw 109 rfl)) (by decide) (backOf (W := 1) (rm_len l Z a0 hw [] sa sb [.int z1] cs fo bo h0 n0 Zn ⟨E_sa, F_sa_c, F_sa_v, A_sb⟩ O ⟨SC, hcs, SF, hfo, SB, EB⟩) hZ (gw hw 111 rfl) (gw hw 97 rfl) (by decide) (by decide)) q318a q318c (g := (mkF m 23 #[oR mb, oI 13, oI 14, oR sa, oI 1, oI 1] [.ref sa, .int 1])) rfl (by rw [hml]; rfl) (Steps.refl _) (argsL := []) (rest := [.int 1]) (lenOf pd__28_29I rfl) rfl oZ (G d36_23) (fun _ _ => ⟨rfl, eh315, (by decide : 0 + 0 ≤ _), (by decide : 0 + 0 ≤ _)⟩)
  dsimp only [Pt.U, Pt.locs, Pt.cells, Pt.slots] at X318 l318 y318 z318 st318 hQ318
  have X318 := own_recast X318 l318 y318 z318
  obtain ⟨rfl, N318q, eh317⟩ := hQ318
  have N := Fr.app N N318q
  refine own_tr st318 ?_
  refine own_by (S' := (oM T318 m 67 #[oR mb, oI 13, oI 14, oR sa, oI 1, oI 1] [.int 1])) (fun _ k => XS.icmpYes X318.here hx rfl (pc0 := 26) (pc' := 65) rfl (G d36_26) rfl (flt ((by decide) : ¬ ((1 : Int32) < (1 : Int32)))).2.1 (by decide) (by decide) (XS.iload X318.here hx rfl (G d36_65) rfl k)) ?_
  exact own_ret X318 hx (t := .boolean) Bd.returns rfl (Or.inl ⟨rfl, by simp, _, rfl⟩) (G d36_67) hlk (by decide : 0 ≤ _) (by decide : 0 ≤ _) (by rw [eh317]; exact ⟨rfl, N, rfl⟩)
theorem d35_0 : oD c_35 0 (.aload_n 0, 1) := by decide +kernel
theorem d35_1 : oD c_35 1 (.getfield 9, 3) := by decide +kernel
theorem d35_4 : oD c_35 4 (.iload_n 1, 1) := by decide +kernel
theorem d35_5 : oD c_35 5 (.iaload, 1) := by decide +kernel
theorem d35_6 : oD c_35 6 (.iconst 1, 1) := by decide +kernel
theorem d35_7 : oD c_35 7 (.iadd, 1) := by decide +kernel
theorem d35_8 : oD c_35 8 (.istore_n 3, 1) := by decide +kernel
theorem d35_9 : oD c_35 9 (.aload_n 0, 1) := by decide +kernel
theorem d35_10 : oD c_35 10 (.getfield 21, 3) := by decide +kernel
theorem d35_13 : oD c_35 13 (.iload_n 1, 1) := by decide +kernel
theorem d35_14 : oD c_35 14 (.aaload, 1) := by decide +kernel
theorem d35_15 : oD c_35 15 (.ifnull 18, 3) := by decide +kernel
theorem d35_33 : oD c_35 33 (.aload_n 0, 1) := by decide +kernel
theorem d35_34 : oD c_35 34 (.iload_n 3, 1) := by decide +kernel
theorem d35_35 : oD c_35 35 (.aload_n 0, 1) := by decide +kernel
theorem d35_36 : oD c_35 36 (.getfield 13, 3) := by decide +kernel
theorem d35_39 : oD c_35 39 (.iload_n 1, 1) := by decide +kernel
theorem d35_40 : oD c_35 40 (.iaload, 1) := by decide +kernel
theorem d35_41 : oD c_35 41 (.iconst 1, 1) := by decide +kernel
theorem d35_42 : oD c_35 42 (.isub, 1) := by decide +kernel
theorem d35_43 : oD c_35 43 (.aload_n 2, 1) := by decide +kernel
theorem d35_44 : oD c_35 44 (.invokevirtual 303, 3) := by decide +kernel
theorem d35_47 : oD c_35 47 (.istore 4, 2) := by decide +kernel
theorem d35_49 : oD c_35 49 (.iload 4, 2) := by decide +kernel
theorem d35_51 : oD c_35 51 (.ireturn, 1) := by decide +kernel
theorem pn_35 : plainName "com/example/upright_play/uprightplay/event/Members" = true := by first | (simp [plainName, overriddenIn]; done) | decide +kernel
theorem ef_rm_isNamed0 (m : MethodId) (x0 : Addr) (x1 : Int32) (x2 : Addr) : entryFrame m #[.ref x0, .int x1, .ref x2] 5 = mkF m 0 #[oR x0, oI x1, oR x2, oU, oU] [] := by first | (simp [entryFrame, mkF, argsToLocals, Value.category]; done) | rfl
def Q_rm_isNamed0 (Z : State) (mb li : Addr) (D : Nat → Addr) (LN : List Value) (c1 c2 : Nat) (a1 b1 a2 b2 : Int32) (sa sb : Addr) (z1 : Int32) (cs : Int32) (fo : Value) (bo : Addr) (h0 : Heap) (n0 : Nat) (v : Option Value) (h : Heap) (L : List Loc) : Prop := v = some (.int 1) ∧ Fr n0 L ∧ h = h0
theorem pd__28IILjava_2flang_2fString_3b_29Z : parseMethodDescriptor "(IILjava/lang/String;)Z" = some ⟨[.int, .int, (.object "java/lang/String")], some .boolean⟩ := by decide +kernel
set_option maxRecDepth 65536 in
set_option maxHeartbeats 40000000 in
theorem rm_isNamed0 (l : Launch) (Z : State) (a0 : Array Value) (hw : ∀ d ∈ tables_1, d.before a0 Z = true) (ws : List Jvm.Cond) (mb li : Addr) (D : Nat → Addr) (LN : List Value) (c1 c2 : Nat) (a1 b1 a2 b2 : Int32) (sa sb : Addr) (z1 : Int32) (cs : Int32) (fo : Value) (bo : Addr) (h0 : Heap) (n0 : Nat) (Zn : n0 ≤ h0.size) (M : OwnM Z h0 mb D (own_V2 c1 c2 a1 b1 a2 b2 bo) (.ref li) 23 1 2) (DI : own_di n0 mb li D) (A_li : OwnA Z h0 li .char LN) (h2 : LN[2]? = some (.int (Int32.ofNat c1))) (S_a : own_str Z h0 sa sb [.int z1]) (hz : (z1 &&& (255 : Int32)) = Int32.ofNat c1) (hk : c1 < 256) (O : Old Z n0 h0) (SS : own_st Z cs fo bo) :
    MetFree l y_35 (head1 (Jvm.Cond.code y_35 c_35 5 (some .boolean) :: ws) (oQ 5 0 0 105)) (fun a U => a = #[.ref mb, .int 0, .ref sa] ∧ Z.Warmed39 U.vm ∧ U.heap = h0) (fun _ _ _ _ _ => True) (fun _ U o U' => ∃ v L, o = .returned v ∧ (Q_rm_isNamed0 Z mb li D LN c1 c2 a1 b1 a2 b2 sa sb z1 cs fo bo h0 n0) v U'.heap L ∧ FrameEnd U o U' L (oQ 5 0 0 105).cells (oQ 5 0 0 105).slots) := by
  refine MetFree.of_bodySF (plainFor_of_name pn_35) hisR ?_
  intro p e s m args below meth c s₁ Bd hml0 hP hK
  obtain ⟨rfl, hZ, hh⟩ := hP
  have hx := Bd.exec
  have G := @oG _ _ Bd.bytes
  have hml : c.maxLocals = 5 := hml0
  have hown : s.vm.findClass "com/example/upright_play/uprightplay/event/Members" = some m.cls := findClass_of_methodNamed Bd.named
  have hnm := (name_of_methodNamed Bd.named Bd.method).1
  have hlk : meth.locks = false := BodyLoose.notSynchronized Bd
  have X0 : Stand p l e (oQ 5 0 0 105) s m #[.ref mb, .int 0, .ref sa] below meth c s₁ [] 0 0 := Stand.of_body Bd
  have e0 : s₁.heap = h0 := by rw [← hh, Bd.state]; rfl
  have N := Fr.nil n0
  have K := Keep.refl h0 []
  refine own_start (cl := (oQ 5 0 0 105).cells) (sl := (oQ 5 0 0 105).slots) (Q := (Q_rm_isNamed0 Z mb li D LN c1 c2 a1 b1 a2 b2 sa sb z1 cs fo bo h0 n0)) (ef_rm_isNamed0 m mb ((0 : Int32)) sa) ?_
  obtain ⟨E_mb, f_0, f_1, f_2, f_3, f_4, f_5, f_6, f_7, f_8, f_9, f_10, f_11, f_12, f_13, f_14, f_15, f_16, A_0, A_1, A_2, A_3, A_4, A_5, A_6, A_7, A_8, A_9⟩ := M
  have A_0 : OwnA Z h0 (D 0) .int [.int 1, .int 12, .int 0, .int 0, .int 0, .int 0, .int 0, .int 0, .int 0, .int 0, .int 0, .int 0, .int 0, .int 0, .int 0, .int 0] := A_0
  have A_1 : OwnA Z h0 (D 1) .int [.int 4, .int 15, .int 0, .int 0, .int 0, .int 0, .int 0, .int 0, .int 0, .int 0, .int 0, .int 0, .int 0, .int 0, .int 0, .int 0] := A_1
  have A_2 : OwnA Z h0 (D 2) .int [.int (Int32.ofNat c1), .int (Int32.ofNat c2), .int 0, .int 0, .int 0, .int 0, .int 0, .int 0, .int 0, .int 0, .int 0, .int 0, .int 0, .int 0, .int 0, .int 0] := A_2
  have A_3 : OwnO Z h0 (D 3) "java/lang/String" [.null, .null, .null, .null, .null, .null, .null, .null, .null, .null, .null, .null, .null, .null, .null, .null] := A_3
  have A_4 : OwnO Z h0 (D 4) "com/example/upright_play/uprightplay/event/Members$Type" [.ref bo, .ref bo, .null, .null, .null, .null, .null, .null, .null, .null, .null, .null, .null, .null, .null, .null] := A_4
  have A_5 : OwnA Z h0 (D 5) .int [.int a1, .int a2, .int 0, .int 0, .int 0, .int 0, .int 0, .int 0, .int 0, .int 0, .int 0, .int 0, .int 0, .int 0, .int 0, .int 0] := A_5
  have A_6 : OwnA Z h0 (D 6) .int [.int b1, .int b2, .int 0, .int 0, .int 0, .int 0, .int 0, .int 0, .int 0, .int 0, .int 0, .int 0, .int 0, .int 0, .int 0, .int 0] := A_6
  have A_7 : OwnA Z h0 (D 7) .int [.int 0, .int 0, .int 0, .int 0, .int 0, .int 0, .int 0, .int 0, .int 0, .int 0, .int 0, .int 0, .int 0, .int 0, .int 0, .int 0] := A_7
  have A_8 : OwnA Z h0 (D 8) .int [.int 0, .int 0, .int 0, .int 0, .int 0, .int 0, .int 0, .int 0, .int 0, .int 0, .int 0, .int 0, .int 0, .int 0, .int 0, .int 0] := A_8
  have A_9 : OwnA Z h0 (D 9) .byte (own_S2 c1 c2) := A_9
  obtain ⟨SC, hcs, SF, hfo, SB, EB⟩ := SS
  refine own_by (S' := (oM s₁ m 1 #[oR mb, oI 0, oR sa, oU, oU] [.ref mb])) (fun _ k => XS.aloadN X0.here hx rfl (G d35_0) rfl rfl k) ?_
  obtain ⟨T319, X319, e319, st319⟩ := getF X0 hx hZ hown (host := "") (Or.inl (gw hw 22 rfl)) Via.refl e0 f_0 (g := (mkF m 1 #[oR mb, oI 0, oR sa, oU, oU] [.ref mb])) rfl rfl (G d35_1)
  refine own_by st319 ?_
  refine own_by (S' := (oM T319 m 10 #[oR mb, oI 0, oR sa, oI 2, oU] [.ref mb])) (fun _ k => XS.iloadN X319.here hx rfl (G d35_4) rfl (own_iaload X319 hx hZ e319 A_0 (by decide) (v := (.int 1)) rfl (g := (mkF m 5 #[oR mb, oI 0, oR sa, oU, oU] [.int 0, (.ref (D 0))])) rfl rfl (G d35_5) _ (XS.iconst X319.here hx rfl (G d35_6) (XS.iadd X319.here hx rfl (G d35_7) rfl (XS.istoreN X319.here hx rfl (G d35_8) rfl (l' := #[oR mb, oI 0, oR sa, oI 2, oU]) rfl (XS.aloadN X319.here hx rfl (G d35_9) rfl rfl k)))))) ?_
  obtain ⟨T320, X320, e320, st320⟩ := getF X319 hx hZ hown (host := "") (Or.inl (gw hw 30 rfl)) Via.refl e319 f_3 (g := (mkF m 10 #[oR mb, oI 0, oR sa, oI 2, oU] [.ref mb])) rfl rfl (G d35_10)
  refine own_by st320 ?_
  refine own_by (S' := (oM T320 m 36 #[oR mb, oI 0, oR sa, oI 2, oU] [.ref mb, .int 2, .ref mb])) (fun _ k => XS.iloadN X320.here hx rfl (G d35_13) rfl (own_aaload X320 hx hZ e320 A_3.toA rfl (by decide) (v := .null) rfl (g := (mkF m 14 #[oR mb, oI 0, oR sa, oI 2, oU] [.int 0, (.ref (D 3))])) rfl rfl (G d35_14) _ (XS.ifnullYes X320.here hx rfl (pc0 := 15) (pc' := 33) rfl (G d35_15) rfl (by decide) (by decide) (XS.aloadN X320.here hx rfl (G d35_33) rfl rfl (XS.iloadN X320.here hx rfl (G d35_34) rfl (XS.aloadN X320.here hx rfl (G d35_35) rfl rfl k)))))) ?_
  obtain ⟨T321, X321, e321, st321⟩ := getF X320 hx hZ hown (host := "") (Or.inl (gw hw 24 rfl)) Via.refl e320 f_1 (g := (mkF m 36 #[oR mb, oI 0, oR sa, oI 2, oU] [.ref mb, .int 2, .ref mb])) rfl rfl (G d35_36)
  refine own_by st321 ?_
  refine own_by (S' := (oM T321 m 44 #[oR mb, oI 0, oR sa, oI 2, oU] [.ref sa, .int 3, .int 2, .ref mb])) (fun _ k => XS.iloadN X321.here hx rfl (G d35_39) rfl (own_iaload X321 hx hZ e321 A_1 (by decide) (v := (.int 4)) rfl (g := (mkF m 40 #[oR mb, oI 0, oR sa, oI 2, oU] [.int 0, (.ref (D 1)), .int 2, .ref mb])) rfl rfl (G d35_40) _ (XS.iconst X321.here hx rfl (G d35_41) (XS.isub X321.here hx rfl (G d35_42) rfl (XS.aloadN X321.here hx rfl (G d35_43) rfl rfl k))))) ?_
  obtain ⟨cq322, q322, q322'⟩ := E_mb.cell
  obtain ⟨_, _, ⟨T322, L322, k322, n322⟩, -, X322, ⟨Lc322, hQ322, l322, y322, z322⟩, st322⟩ := X321.privateBack hx (y := y_36) hown (mvT hZ (gw hw 206 rfl)) (mvT hZ (gw hw 207 rfl)) (own_selP hZ (gw hw 13 rfl) (gw hw 208 rfl) (gw hw 207 rfl) (by decide)) (Cond.privateMethod_at (mvP hZ (gw hw 208 rfl) (args := #[]))) (mvT hZ (gw hw 209 rfl)) (by decide) (backOf (W := 0) (rm_holds2 l Z a0 hw [] mb li LN sa sb z1 c1 cs fo bo h0 n0 Zn f_10 A_li h2 S_a hz hk O ⟨SC, hcs, SF, hfo, SB, EB⟩) hZ (gw hw 209 rfl) (gw hw 14 rfl) (by decide) (by decide)) (g := (mkF m 44 #[oR mb, oI 0, oR sa, oI 2, oU] [.ref sa, .int 3, .int 2, .ref mb])) rfl (by rw [hml]; rfl) (Steps.refl _) (a := mb) (by rw [e321]; exact q322) q322' (argsL := [.int 2, .int 3, .ref sa]) (rest := []) (lenOf pd__28IILjava_2flang_2fString_3b_29Z rfl) rfl oZ (G d35_44) (fun _ _ => ⟨rfl, e321, (by decide : 0 + 0 ≤ _), (by decide : 0 + 0 ≤ _)⟩)
  dsimp only [Pt.U, Pt.locs, Pt.cells, Pt.slots] at X322 l322 y322 z322 st322 hQ322
  have X322 := own_recast X322 l322 y322 z322
  obtain ⟨rfl, N322q, eh⟩ := hQ322
  have N := Fr.app N N322q
  refine own_tr st322 ?_
  refine own_by (S' := (oM T322 m 51 #[oR mb, oI 0, oR sa, oI 2, oI 1] [.int 1])) (fun _ k => XS.istore X322.here hx rfl (G d35_47) rfl (l' := #[oR mb, oI 0, oR sa, oI 2, oI 1]) rfl (XS.iload X322.here hx rfl (G d35_49) rfl k)) ?_
  exact own_ret X322 hx (t := .boolean) Bd.returns rfl (Or.inl ⟨rfl, by simp, _, rfl⟩) (G d35_51) hlk (by decide : 0 ≤ _) (by decide : 0 ≤ _) (by rw [eh]; exact ⟨rfl, N, rfl⟩)
theorem ef_rm_isNamed1 (m : MethodId) (x0 : Addr) (x1 : Int32) (x2 : Addr) : entryFrame m #[.ref x0, .int x1, .ref x2] 5 = mkF m 0 #[oR x0, oI x1, oR x2, oU, oU] [] := by first | (simp [entryFrame, mkF, argsToLocals, Value.category]; done) | rfl
def Q_rm_isNamed1 (Z : State) (mb li : Addr) (D : Nat → Addr) (LN : List Value) (c1 c2 : Nat) (a1 b1 a2 b2 : Int32) (sa sb : Addr) (z1 : Int32) (cs : Int32) (fo : Value) (bo : Addr) (h0 : Heap) (n0 : Nat) (v : Option Value) (h : Heap) (L : List Loc) : Prop := v = some (.int 1) ∧ Fr n0 L ∧ h = h0
set_option maxRecDepth 65536 in
set_option maxHeartbeats 40000000 in
theorem rm_isNamed1 (l : Launch) (Z : State) (a0 : Array Value) (hw : ∀ d ∈ tables_1, d.before a0 Z = true) (ws : List Jvm.Cond) (mb li : Addr) (D : Nat → Addr) (LN : List Value) (c1 c2 : Nat) (a1 b1 a2 b2 : Int32) (sa sb : Addr) (z1 : Int32) (cs : Int32) (fo : Value) (bo : Addr) (h0 : Heap) (n0 : Nat) (Zn : n0 ≤ h0.size) (M : OwnM Z h0 mb D (own_V2 c1 c2 a1 b1 a2 b2 bo) (.ref li) 23 1 2) (DI : own_di n0 mb li D) (A_li : OwnA Z h0 li .char LN) (h2 : LN[13]? = some (.int (Int32.ofNat c2))) (S_a : own_str Z h0 sa sb [.int z1]) (hz : (z1 &&& (255 : Int32)) = Int32.ofNat c2) (hk : c2 < 256) (O : Old Z n0 h0) (SS : own_st Z cs fo bo) :
    MetFree l y_35 (head1 (Jvm.Cond.code y_35 c_35 5 (some .boolean) :: ws) (oQ 5 0 0 105)) (fun a U => a = #[.ref mb, .int 1, .ref sa] ∧ Z.Warmed39 U.vm ∧ U.heap = h0) (fun _ _ _ _ _ => True) (fun _ U o U' => ∃ v L, o = .returned v ∧ (Q_rm_isNamed1 Z mb li D LN c1 c2 a1 b1 a2 b2 sa sb z1 cs fo bo h0 n0) v U'.heap L ∧ FrameEnd U o U' L (oQ 5 0 0 105).cells (oQ 5 0 0 105).slots) := by
  refine MetFree.of_bodySF (plainFor_of_name pn_35) hisR ?_
  intro p e s m args below meth c s₁ Bd hml0 hP hK
  obtain ⟨rfl, hZ, hh⟩ := hP
  have hx := Bd.exec
  have G := @oG _ _ Bd.bytes
  have hml : c.maxLocals = 5 := hml0
  have hown : s.vm.findClass "com/example/upright_play/uprightplay/event/Members" = some m.cls := findClass_of_methodNamed Bd.named
  have hnm := (name_of_methodNamed Bd.named Bd.method).1
  have hlk : meth.locks = false := BodyLoose.notSynchronized Bd
  have X0 : Stand p l e (oQ 5 0 0 105) s m #[.ref mb, .int 1, .ref sa] below meth c s₁ [] 0 0 := Stand.of_body Bd
  have e0 : s₁.heap = h0 := by rw [← hh, Bd.state]; rfl
  have N := Fr.nil n0
  have K := Keep.refl h0 []
  refine own_start (cl := (oQ 5 0 0 105).cells) (sl := (oQ 5 0 0 105).slots) (Q := (Q_rm_isNamed1 Z mb li D LN c1 c2 a1 b1 a2 b2 sa sb z1 cs fo bo h0 n0)) (ef_rm_isNamed1 m mb ((1 : Int32)) sa) ?_
  obtain ⟨E_mb, f_0, f_1, f_2, f_3, f_4, f_5, f_6, f_7, f_8, f_9, f_10, f_11, f_12, f_13, f_14, f_15, f_16, A_0, A_1, A_2, A_3, A_4, A_5, A_6, A_7, A_8, A_9⟩ := M
  have A_0 : OwnA Z h0 (D 0) .int [.int 1, .int 12, .int 0, .int 0, .int 0, .int 0, .int 0, .int 0, .int 0, .int 0, .int 0, .int 0, .int 0, .int 0, .int 0, .int 0] := A_0
  have A_1 : OwnA Z h0 (D 1) .int [.int 4, .int 15, .int 0, .int 0, .int 0, .int 0, .int 0, .int 0, .int 0, .int 0, .int 0, .int 0, .int 0, .int 0, .int 0, .int 0] := A_1
  have A_2 : OwnA Z h0 (D 2) .int [.int (Int32.ofNat c1), .int (Int32.ofNat c2), .int 0, .int 0, .int 0, .int 0, .int 0, .int 0, .int 0, .int 0, .int 0, .int 0, .int 0, .int 0, .int 0, .int 0] := A_2
  have A_3 : OwnO Z h0 (D 3) "java/lang/String" [.null, .null, .null, .null, .null, .null, .null, .null, .null, .null, .null, .null, .null, .null, .null, .null] := A_3
  have A_4 : OwnO Z h0 (D 4) "com/example/upright_play/uprightplay/event/Members$Type" [.ref bo, .ref bo, .null, .null, .null, .null, .null, .null, .null, .null, .null, .null, .null, .null, .null, .null] := A_4
  have A_5 : OwnA Z h0 (D 5) .int [.int a1, .int a2, .int 0, .int 0, .int 0, .int 0, .int 0, .int 0, .int 0, .int 0, .int 0, .int 0, .int 0, .int 0, .int 0, .int 0] := A_5
  have A_6 : OwnA Z h0 (D 6) .int [.int b1, .int b2, .int 0, .int 0, .int 0, .int 0, .int 0, .int 0, .int 0, .int 0, .int 0, .int 0, .int 0, .int 0, .int 0, .int 0] := A_6
  have A_7 : OwnA Z h0 (D 7) .int [.int 0, .int 0, .int 0, .int 0, .int 0, .int 0, .int 0, .int 0, .int 0, .int 0, .int 0, .int 0, .int 0, .int 0, .int 0, .int 0] := A_7
  have A_8 : OwnA Z h0 (D 8) .int [.int 0, .int 0, .int 0, .int 0, .int 0, .int 0, .int 0, .int 0, .int 0, .int 0, .int 0, .int 0, .int 0, .int 0, .int 0, .int 0] := A_8
  have A_9 : OwnA Z h0 (D 9) .byte (own_S2 c1 c2) := A_9
  obtain ⟨SC, hcs, SF, hfo, SB, EB⟩ := SS
  refine own_by (S' := (oM s₁ m 1 #[oR mb, oI 1, oR sa, oU, oU] [.ref mb])) (fun _ k => XS.aloadN X0.here hx rfl (G d35_0) rfl rfl k) ?_
  obtain ⟨T323, X323, e323, st323⟩ := getF X0 hx hZ hown (host := "") (Or.inl (gw hw 22 rfl)) Via.refl e0 f_0 (g := (mkF m 1 #[oR mb, oI 1, oR sa, oU, oU] [.ref mb])) rfl rfl (G d35_1)
  refine own_by st323 ?_
  refine own_by (S' := (oM T323 m 10 #[oR mb, oI 1, oR sa, oI 13, oU] [.ref mb])) (fun _ k => XS.iloadN X323.here hx rfl (G d35_4) rfl (own_iaload X323 hx hZ e323 A_0 (by decide) (v := (.int 12)) rfl (g := (mkF m 5 #[oR mb, oI 1, oR sa, oU, oU] [.int 1, (.ref (D 0))])) rfl rfl (G d35_5) _ (XS.iconst X323.here hx rfl (G d35_6) (XS.iadd X323.here hx rfl (G d35_7) rfl (XS.istoreN X323.here hx rfl (G d35_8) rfl (l' := #[oR mb, oI 1, oR sa, oI 13, oU]) rfl (XS.aloadN X323.here hx rfl (G d35_9) rfl rfl k)))))) ?_
  obtain ⟨T324, X324, e324, st324⟩ := getF X323 hx hZ hown (host := "") (Or.inl (gw hw 30 rfl)) Via.refl e323 f_3 (g := (mkF m 10 #[oR mb, oI 1, oR sa, oI 13, oU] [.ref mb])) rfl rfl (G d35_10)
  refine own_by st324 ?_
  refine own_by (S' := (oM T324 m 36 #[oR mb, oI 1, oR sa, oI 13, oU] [.ref mb, .int 13, .ref mb])) (fun _ k => XS.iloadN X324.here hx rfl (G d35_13) rfl (own_aaload X324 hx hZ e324 A_3.toA rfl (by decide) (v := .null) rfl (g := (mkF m 14 #[oR mb, oI 1, oR sa, oI 13, oU] [.int 1, (.ref (D 3))])) rfl rfl (G d35_14) _ (XS.ifnullYes X324.here hx rfl (pc0 := 15) (pc' := 33) rfl (G d35_15) rfl (by decide) (by decide) (XS.aloadN X324.here hx rfl (G d35_33) rfl rfl (XS.iloadN X324.here hx rfl (G d35_34) rfl (XS.aloadN X324.here hx rfl (G d35_35) rfl rfl k)))))) ?_
  obtain ⟨T325, X325, e325, st325⟩ := getF X324 hx hZ hown (host := "") (Or.inl (gw hw 24 rfl)) Via.refl e324 f_1 (g := (mkF m 36 #[oR mb, oI 1, oR sa, oI 13, oU] [.ref mb, .int 13, .ref mb])) rfl rfl (G d35_36)
  refine own_by st325 ?_
  refine own_by (S' := (oM T325 m 44 #[oR mb, oI 1, oR sa, oI 13, oU] [.ref sa, .int 14, .int 13, .ref mb])) (fun _ k => XS.iloadN X325.here hx rfl (G d35_39) rfl (own_iaload X325 hx hZ e325 A_1 (by decide) (v := (.int 15)) rfl (g := (mkF m 40 #[oR mb, oI 1, oR sa, oI 13, oU] [.int 1, (.ref (D 1)), .int 13, .ref mb])) rfl rfl (G d35_40) _ (XS.iconst X325.here hx rfl (G d35_41) (XS.isub X325.here hx rfl (G d35_42) rfl (XS.aloadN X325.here hx rfl (G d35_43) rfl rfl k))))) ?_
  obtain ⟨cq326, q326, q326'⟩ := E_mb.cell
  obtain ⟨_, _, ⟨T326, L326, k326, n326⟩, -, X326, ⟨Lc326, hQ326, l326, y326, z326⟩, st326⟩ := X325.privateBack hx (y := y_36) hown (mvT hZ (gw hw 206 rfl)) (mvT hZ (gw hw 207 rfl)) (own_selP hZ (gw hw 13 rfl) (gw hw 208 rfl) (gw hw 207 rfl) (by decide)) (Cond.privateMethod_at (mvP hZ (gw hw 208 rfl) (args := #[]))) (mvT hZ (gw hw 209 rfl)) (by decide) (backOf (W := 0) (rm_holds13 l Z a0 hw [] mb li LN sa sb z1 c2 cs fo bo h0 n0 Zn f_10 A_li h2 S_a hz hk O ⟨SC, hcs, SF, hfo, SB, EB⟩) hZ (gw hw 209 rfl) (gw hw 14 rfl) (by decide) (by decide)) (g := (mkF m 44 #[oR mb, oI 1, oR sa, oI 13, oU] [.ref sa, .int 14, .int 13, .ref mb])) rfl (by rw [hml]; rfl) (Steps.refl _) (a := mb) (by rw [e325]; exact q326) q326' (argsL := [.int 13, .int 14, .ref sa]) (rest := []) (lenOf pd__28IILjava_2flang_2fString_3b_29Z rfl) rfl oZ (G d35_44) (fun _ _ => ⟨rfl, e325, (by decide : 0 + 0 ≤ _), (by decide : 0 + 0 ≤ _)⟩)
  dsimp only [Pt.U, Pt.locs, Pt.cells, Pt.slots] at X326 l326 y326 z326 st326 hQ326
  have X326 := own_recast X326 l326 y326 z326
  obtain ⟨rfl, N326q, eh⟩ := hQ326
  have N := Fr.app N N326q
  refine own_tr st326 ?_
  refine own_by (S' := (oM T326 m 51 #[oR mb, oI 1, oR sa, oI 13, oI 1] [.int 1])) (fun _ k => XS.istore X326.here hx rfl (G d35_47) rfl (l' := #[oR mb, oI 1, oR sa, oI 13, oI 1]) rfl (XS.iload X326.here hx rfl (G d35_49) rfl k)) ?_
  exact own_ret X326 hx (t := .boolean) Bd.returns rfl (Or.inl ⟨rfl, by simp, _, rfl⟩) (G d35_51) hlk (by decide : 0 ≤ _) (by decide : 0 ≤ _) (by rw [eh]; exact ⟨rfl, N, rfl⟩)
theorem d32_0 : oD c_32 0 (.iconst (-1), 1) := by decide +kernel
theorem d32_1 : oD c_32 1 (.istore_n 2, 1) := by decide +kernel
theorem d32_2 : oD c_32 2 (.aload_n 0, 1) := by decide +kernel
theorem d32_3 : oD c_32 3 (.getfield 65, 3) := by decide +kernel
theorem d32_6 : oD c_32 6 (.ifnull 27, 3) := by decide +kernel
theorem d32_33 : oD c_32 33 (.aload_n 1, 1) := by decide +kernel
theorem d32_34 : oD c_32 34 (.invokevirtual 114, 3) := by decide +kernel
theorem d32_37 : oD c_32 37 (.istore_n 3, 1) := by decide +kernel
theorem d32_38 : oD c_32 38 (.iload_n 3, 1) := by decide +kernel
theorem d32_39 : oD c_32 39 (.invokestatic 117, 3) := by decide +kernel
theorem d32_42 : oD c_32 42 (.istore 4, 2) := by decide +kernel
theorem d32_44 : oD c_32 44 (.aload_n 0, 1) := by decide +kernel
theorem d32_45 : oD c_32 45 (.getfield 43, 3) := by decide +kernel
theorem d32_48 : oD c_32 48 (.iload 4, 2) := by decide +kernel
theorem d32_50 : oD c_32 50 (.baload, 1) := by decide +kernel
theorem d32_51 : oD c_32 51 (.ifCond .eq 52, 3) := by decide +kernel
theorem d32_54 : oD c_32 54 (.iload_n 2, 1) := by decide +kernel
theorem d32_55 : oD c_32 55 (.ifCond .ge 48, 3) := by decide +kernel
theorem d32_58 : oD c_32 58 (.aload_n 0, 1) := by decide +kernel
theorem d32_59 : oD c_32 59 (.getfield 43, 3) := by decide +kernel
theorem d32_62 : oD c_32 62 (.iload 4, 2) := by decide +kernel
theorem d32_64 : oD c_32 64 (.baload, 1) := by decide +kernel
theorem d32_65 : oD c_32 65 (.iconst 1, 1) := by decide +kernel
theorem d32_66 : oD c_32 66 (.isub, 1) := by decide +kernel
theorem d32_67 : oD c_32 67 (.istore 5, 2) := by decide +kernel
theorem d32_69 : oD c_32 69 (.aload_n 0, 1) := by decide +kernel
theorem d32_70 : oD c_32 70 (.getfield 16, 3) := by decide +kernel
theorem d32_73 : oD c_32 73 (.iload 5, 2) := by decide +kernel
theorem d32_75 : oD c_32 75 (.iaload, 1) := by decide +kernel
theorem d32_76 : oD c_32 76 (.iload_n 3, 1) := by decide +kernel
theorem d32_77 : oD c_32 77 (.if_icmp .ne 16, 3) := by decide +kernel
theorem d32_80 : oD c_32 80 (.aload_n 0, 1) := by decide +kernel
theorem d32_81 : oD c_32 81 (.iload 5, 2) := by decide +kernel
theorem d32_83 : oD c_32 83 (.aload_n 1, 1) := by decide +kernel
theorem d32_84 : oD c_32 84 (.invokevirtual 121, 3) := by decide +kernel
theorem d32_87 : oD c_32 87 (.ifCond .eq 6, 3) := by decide +kernel
theorem d32_90 : oD c_32 90 (.iload 5, 2) := by decide +kernel
theorem d32_92 : oD c_32 92 (.istore_n 2, 1) := by decide +kernel
theorem d32_93 : oD c_32 93 (.iload 4, 2) := by decide +kernel
theorem d32_95 : oD c_32 95 (.invokestatic 125, 3) := by decide +kernel
theorem d32_98 : oD c_32 98 (.istore 4, 2) := by decide +kernel
theorem d32_100 : oD c_32 100 (.goto (-56), 3) := by decide +kernel
theorem d32_103 : oD c_32 103 (.iload_n 2, 1) := by decide +kernel
theorem d32_104 : oD c_32 104 (.ireturn, 1) := by decide +kernel
theorem pn_32 : plainName "com/example/upright_play/uprightplay/event/Members" = true := by first | (simp [plainName, overriddenIn]; done) | decide +kernel
theorem ef_rm_find0 (m : MethodId) (x0 : Addr) (x1 : Addr) : entryFrame m #[.ref x0, .ref x1] 6 = mkF m 0 #[oR x0, oR x1, oU, oU, oU, oU] [] := by first | (simp [entryFrame, mkF, argsToLocals, Value.category]; done) | rfl
def Q_rm_find0 (Z : State) (mb li : Addr) (D : Nat → Addr) (LN : List Value) (c1 c2 : Nat) (a1 b1 a2 b2 : Int32) (sa sb : Addr) (z1 : Int32) (cs : Int32) (fo : Value) (bo : Addr) (h0 : Heap) (n0 : Nat) (v : Option Value) (h : Heap) (L : List Loc) : Prop := v = some (.int 0) ∧ Fr n0 L ∧ Keep h0 h [sa]
theorem pd__28ILjava_2flang_2fString_3b_29Z : parseMethodDescriptor "(ILjava/lang/String;)Z" = some ⟨[.int, (.object "java/lang/String")], some .boolean⟩ := by decide +kernel
set_option maxRecDepth 65536 in
set_option maxHeartbeats 40000000 in
theorem rm_find0 (l : Launch) (Z : State) (a0 : Array Value) (hw : ∀ d ∈ tables_1, d.before a0 Z = true) (ws : List Jvm.Cond) (mb li : Addr) (D : Nat → Addr) (LN : List Value) (c1 c2 : Nat) (a1 b1 a2 b2 : Int32) (sa sb : Addr) (z1 : Int32) (cs : Int32) (fo : Value) (bo : Addr) (h0 : Heap) (n0 : Nat) (Zn : n0 ≤ h0.size) (M : OwnM Z h0 mb D (own_V2 c1 c2 a1 b1 a2 b2 bo) (.ref li) 23 1 2) (DI : own_di n0 mb li D) (A_li : OwnA Z h0 li .char LN) (h2 : LN[2]? = some (.int (Int32.ofNat c1))) (S_a : own_str Z h0 sa sb [.int z1]) (F_h : Fld Z h0 sa "java/lang/String" "hash" "I" (.int 0)) (F_z : Fld Z h0 sa "java/lang/String" "hashIsZero" "Z" (.int 0)) (o_sa : n0 ≤ sa) (hne : sb ≠ sa) (hsa : ∀ y ∈ (mb :: li :: [D 0, D 1, D 2, D 3, D 4, D 5, D 6, D 7, D 8, D 9] : List Addr), y ≠ sa) (hz : (z1 &&& (255 : Int32)) = Int32.ofNat c1) (hk1 : own_nc c1) (hk2 : own_nc c2) (h12 : c1 ≠ c2) (O : Old Z n0 h0) (SS : own_st Z cs fo bo) :
    MetFree l y_32 (head1 (Jvm.Cond.code y_32 c_32 6 (some .int) :: ws) (oQ 6 0 0 135)) (fun a U => a = #[.ref mb, .ref sa] ∧ Z.Warmed39 U.vm ∧ U.heap = h0) (fun _ _ _ _ _ => True) (fun _ U o U' => ∃ v L, o = .returned v ∧ (Q_rm_find0 Z mb li D LN c1 c2 a1 b1 a2 b2 sa sb z1 cs fo bo h0 n0) v U'.heap L ∧ FrameEnd U o U' L (oQ 6 0 0 135).cells (oQ 6 0 0 135).slots) := by
  refine MetFree.of_bodySF (plainFor_of_name pn_32) hisR ?_
  intro p e s m args below meth c s₁ Bd hml0 hP hK
  obtain ⟨rfl, hZ, hh⟩ := hP
  have hx := Bd.exec
  have G := @oG _ _ Bd.bytes
  have hml : c.maxLocals = 6 := hml0
  have hown : s.vm.findClass "com/example/upright_play/uprightplay/event/Members" = some m.cls := findClass_of_methodNamed Bd.named
  have hnm := (name_of_methodNamed Bd.named Bd.method).1
  have hlk : meth.locks = false := BodyLoose.notSynchronized Bd
  have X0 : Stand p l e (oQ 6 0 0 135) s m #[.ref mb, .ref sa] below meth c s₁ [] 0 0 := Stand.of_body Bd
  have e0 : s₁.heap = h0 := by rw [← hh, Bd.state]; rfl
  have N := Fr.nil n0
  have K := Keep.refl h0 [sa]
  refine own_start (cl := (oQ 6 0 0 135).cells) (sl := (oQ 6 0 0 135).slots) (Q := (Q_rm_find0 Z mb li D LN c1 c2 a1 b1 a2 b2 sa sb z1 cs fo bo h0 n0)) (ef_rm_find0 m mb sa) ?_
  obtain ⟨E_mb, f_0, f_1, f_2, f_3, f_4, f_5, f_6, f_7, f_8, f_9, f_10, f_11, f_12, f_13, f_14, f_15, f_16, A_0, A_1, A_2, A_3, A_4, A_5, A_6, A_7, A_8, A_9⟩ := M
  have A_0 : OwnA Z h0 (D 0) .int [.int 1, .int 12, .int 0, .int 0, .int 0, .int 0, .int 0, .int 0, .int 0, .int 0, .int 0, .int 0, .int 0, .int 0, .int 0, .int 0] := A_0
  have A_1 : OwnA Z h0 (D 1) .int [.int 4, .int 15, .int 0, .int 0, .int 0, .int 0, .int 0, .int 0, .int 0, .int 0, .int 0, .int 0, .int 0, .int 0, .int 0, .int 0] := A_1
  have A_2 : OwnA Z h0 (D 2) .int [.int (Int32.ofNat c1), .int (Int32.ofNat c2), .int 0, .int 0, .int 0, .int 0, .int 0, .int 0, .int 0, .int 0, .int 0, .int 0, .int 0, .int 0, .int 0, .int 0] := A_2
  have A_3 : OwnO Z h0 (D 3) "java/lang/String" [.null, .null, .null, .null, .null, .null, .null, .null, .null, .null, .null, .null, .null, .null, .null, .null] := A_3
  have A_4 : OwnO Z h0 (D 4) "com/example/upright_play/uprightplay/event/Members$Type" [.ref bo, .ref bo, .null, .null, .null, .null, .null, .null, .null, .null, .null, .null, .null, .null, .null, .null] := A_4
  have A_5 : OwnA Z h0 (D 5) .int [.int a1, .int a2, .int 0, .int 0, .int 0, .int 0, .int 0, .int 0, .int 0, .int 0, .int 0, .int 0, .int 0, .int 0, .int 0, .int 0] := A_5
  have A_6 : OwnA Z h0 (D 6) .int [.int b1, .int b2, .int 0, .int 0, .int 0, .int 0, .int 0, .int 0, .int 0, .int 0, .int 0, .int 0, .int 0, .int 0, .int 0, .int 0] := A_6
  have A_7 : OwnA Z h0 (D 7) .int [.int 0, .int 0, .int 0, .int 0, .int 0, .int 0, .int 0, .int 0, .int 0, .int 0, .int 0, .int 0, .int 0, .int 0, .int 0, .int 0] := A_7
  have A_8 : OwnA Z h0 (D 8) .int [.int 0, .int 0, .int 0, .int 0, .int 0, .int 0, .int 0, .int 0, .int 0, .int 0, .int 0, .int 0, .int 0, .int 0, .int 0, .int 0] := A_8
  have A_9 : OwnA Z h0 (D 9) .byte (own_S2 c1 c2) := A_9
  obtain ⟨SC, hcs, SF, hfo, SB, EB⟩ := SS
  have E_sa := S_a.1
  refine own_by (S' := (oM s₁ m 3 #[oR mb, oR sa, .val (.int (-1 : Int32)), oU, oU, oU] [.ref mb])) (fun _ k => XS.iconst X0.here hx rfl (G d32_0) (XS.istoreN X0.here hx rfl (G d32_1) rfl (l' := #[oR mb, oR sa, .val (.int (-1 : Int32)), oU, oU, oU]) rfl (XS.aloadN X0.here hx rfl (G d32_2) rfl rfl k))) ?_
  obtain ⟨T327, X327, e327, st327⟩ := getF X0 hx hZ hown (host := "") (Or.inl (gw hw 62 rfl)) Via.refl e0 f_14 (g := (mkF m 3 #[oR mb, oR sa, .val (.int (-1 : Int32)), oU, oU, oU] [.ref mb])) rfl rfl (G d32_3)
  refine own_by st327 ?_
  refine own_by (S' := (oM T327 m 34 #[oR mb, oR sa, .val (.int (-1 : Int32)), oU, oU, oU] [.ref sa])) (fun _ k => XS.ifnullYes X327.here hx rfl (pc0 := 6) (pc' := 33) rfl (G d32_6) rfl (by decide) (by decide) (XS.aloadN X327.here hx rfl (G d32_33) rfl rfl k)) ?_
  obtain ⟨cq328, kq328, q328a, q328b, q328c⟩ := isOf hZ e327 E_sa
  obtain ⟨_, _, ⟨T328, L328, k328, n328⟩, -, X328, ⟨Lc328, hQ328, l328, y328, z328⟩, st328⟩ := X327.virtualBack hx (y := y_33) (z := y_33) hown (mvT hZ (gw hw 190 rfl)) (mvT hZ (gw hw 191 rfl)) (notFace_of_selects (args := #[]) (mvT hZ (gw hw 193 rfl))) (mvT hZ (gw hw 193 rfl)) (mvT hZ (gw hw 192 rfl)) (by decide) (backOf (W := 0) (rm_hashCode l Z a0 hw [] sa sb z1 c1 cs fo bo h0 n0 Zn S_a F_h F_z o_sa hne hz hk1 O ⟨SC, hcs, SF, hfo, SB, EB⟩) hZ (gw hw 194 rfl) (gw hw 97 rfl) (by decide) (by decide)) q328a q328c (g := (mkF m 34 #[oR mb, oR sa, .val (.int (-1 : Int32)), oU, oU, oU] [.ref sa])) rfl (by rw [hml]; rfl) (Steps.refl _) (argsL := []) (rest := []) (lenOf pd__28_29I rfl) rfl oZ (G d32_34) (fun _ _ => ⟨rfl, e327, (by decide : 0 + 0 ≤ _), (by decide : 0 + 0 ≤ _)⟩)
  dsimp only [Pt.U, Pt.locs, Pt.cells, Pt.slots] at X328 l328 y328 z328 st328 hQ328
  have X328 := own_recast X328 l328 y328 z328
  obtain ⟨rfl, N328q, Kh, S_a⟩ := hQ328
  have N := Fr.app N N328q
  have E_mb := E_mb.keep Kh
  have f_0 := f_0.keep Kh (ninS (hsa _ (List.mem_of_getElem? (i := 0) rfl)) nin0)
  have f_1 := f_1.keep Kh (ninS (hsa _ (List.mem_of_getElem? (i := 0) rfl)) nin0)
  have f_2 := f_2.keep Kh (ninS (hsa _ (List.mem_of_getElem? (i := 0) rfl)) nin0)
  have f_3 := f_3.keep Kh (ninS (hsa _ (List.mem_of_getElem? (i := 0) rfl)) nin0)
  have f_4 := f_4.keep Kh (ninS (hsa _ (List.mem_of_getElem? (i := 0) rfl)) nin0)
  have f_5 := f_5.keep Kh (ninS (hsa _ (List.mem_of_getElem? (i := 0) rfl)) nin0)
  have f_6 := f_6.keep Kh (ninS (hsa _ (List.mem_of_getElem? (i := 0) rfl)) nin0)
  have f_7 := f_7.keep Kh (ninS (hsa _ (List.mem_of_getElem? (i := 0) rfl)) nin0)
  have f_8 := f_8.keep Kh (ninS (hsa _ (List.mem_of_getElem? (i := 0) rfl)) nin0)
  have f_9 := f_9.keep Kh (ninS (hsa _ (List.mem_of_getElem? (i := 0) rfl)) nin0)
  have f_10 := f_10.keep Kh (ninS (hsa _ (List.mem_of_getElem? (i := 0) rfl)) nin0)
  have f_11 := f_11.keep Kh (ninS (hsa _ (List.mem_of_getElem? (i := 0) rfl)) nin0)
  have f_12 := f_12.keep Kh (ninS (hsa _ (List.mem_of_getElem? (i := 0) rfl)) nin0)
  have f_13 := f_13.keep Kh (ninS (hsa _ (List.mem_of_getElem? (i := 0) rfl)) nin0)
  have f_14 := f_14.keep Kh (ninS (hsa _ (List.mem_of_getElem? (i := 0) rfl)) nin0)
  have f_15 := f_15.keep Kh (ninS (hsa _ (List.mem_of_getElem? (i := 0) rfl)) nin0)
  have f_16 := f_16.keep Kh (ninS (hsa _ (List.mem_of_getElem? (i := 0) rfl)) nin0)
  have A_0 := A_0.keep Kh (ninS (hsa _ (List.mem_of_getElem? (i := 2) rfl)) nin0)
  have A_1 := A_1.keep Kh (ninS (hsa _ (List.mem_of_getElem? (i := 3) rfl)) nin0)
  have A_2 := A_2.keep Kh (ninS (hsa _ (List.mem_of_getElem? (i := 4) rfl)) nin0)
  have A_3 := A_3.keep Kh (ninS (hsa _ (List.mem_of_getElem? (i := 5) rfl)) nin0)
  have A_4 := A_4.keep Kh (ninS (hsa _ (List.mem_of_getElem? (i := 6) rfl)) nin0)
  have A_5 := A_5.keep Kh (ninS (hsa _ (List.mem_of_getElem? (i := 7) rfl)) nin0)
  have A_6 := A_6.keep Kh (ninS (hsa _ (List.mem_of_getElem? (i := 8) rfl)) nin0)
  have A_7 := A_7.keep Kh (ninS (hsa _ (List.mem_of_getElem? (i := 9) rfl)) nin0)
  have A_8 := A_8.keep Kh (ninS (hsa _ (List.mem_of_getElem? (i := 10) rfl)) nin0)
  have A_9 := A_9.keep Kh (ninS (hsa _ (List.mem_of_getElem? (i := 11) rfl)) nin0)
  have A_li := A_li.keep Kh (ninS (hsa _ (List.mem_of_getElem? (i := 1) rfl)) nin0)
  have O := O.keep Kh (allS o_sa all0)
  have E_sa := E_sa.keep Kh
  have Zn : n0 ≤ _ := Nat.le_trans Zn Kh.1
  have K := K.trans Kh (allS (Or.inl (List.mem_of_getElem? (i := 0) rfl)) all0)
  refine own_tr st328 ?_
  refine own_by (S' := (oM T328 m 39 #[oR mb, oR sa, .val (.int (-1 : Int32)), oI (Int32.ofNat c1), oU, oU] [(.int (Int32.ofNat c1))])) (fun _ k => XS.istoreN X328.here hx rfl (G d32_37) rfl (l' := #[oR mb, oR sa, .val (.int (-1 : Int32)), oI (Int32.ofNat c1), oU, oU]) rfl (XS.iloadN X328.here hx rfl (G d32_38) rfl k)) ?_
  obtain ⟨_, _, ⟨T329, L329, k329, n329⟩, -, X329, ⟨Lc329, hQ329, l329, y329, z329⟩, st329⟩ := Jvm.LawKit.callS X328 hx (y := y_27) hown (mvT hZ (gw hw 165 rfl)) (mvT hZ (gw hw 166 rfl)) (mvT hZ (gw hw 14 rfl)) (mvT hZ (gw hw 167 rfl)) (by decide) (backOf (W := 0) (rm_slotOf l Z a0 hw [] c1 T328.heap n0 Zn hk1.2.1) hZ (gw hw 167 rfl) (gw hw 14 rfl) (by decide) (by decide)) (g := (mkF m 39 #[oR mb, oR sa, .val (.int (-1 : Int32)), oI (Int32.ofNat c1), oU, oU] [(.int (Int32.ofNat c1))])) rfl (by rw [hml]; rfl) (argsL := [(.int (Int32.ofNat c1))]) (rest := []) (lenOf pd__28I_29I rfl) rfl oZ (G d32_39) (fun _ _ => ⟨rfl, rfl, (by decide : 0 + 0 ≤ _), (by decide : 0 + 0 ≤ _)⟩)
  dsimp only [Pt.U, Pt.locs, Pt.cells, Pt.slots] at X329 l329 y329 z329 st329 hQ329
  have X329 := own_recast X329 l329 y329 z329
  obtain ⟨rfl, N329q, eh2⟩ := hQ329
  have N := Fr.app N N329q
  refine own_by st329 ?_
  have hs1 := (own_slot c1 hk1.2.1).2
  have hs2 := (own_slot c2 hk2.2.1).2
  have hj3 := own_j3lt (c1 := c1) hk2.2.1
  have hjn := own_j3ne (c1 := c1) hk2.2.1
  refine own_by (S' := (oM T329 m 45 #[oR mb, oR sa, .val (.int (-1 : Int32)), oI (Int32.ofNat c1), .val (.int (Int32.ofNat (own_sl c1))), oU] [.ref mb])) (fun _ k => XS.istore X329.here hx rfl (G d32_42) rfl (l' := #[oR mb, oR sa, .val (.int (-1 : Int32)), oI (Int32.ofNat c1), .val (.int (Int32.ofNat (own_sl c1))), oU]) rfl (XS.aloadN X329.here hx rfl (G d32_44) rfl rfl k)) ?_
  obtain ⟨T330, X330, e330, st330⟩ := getF X329 hx hZ hown (host := "") (Or.inl (gw hw 45 rfl)) Via.refl eh2 f_9 (g := (mkF m 45 #[oR mb, oR sa, .val (.int (-1 : Int32)), oI (Int32.ofNat c1), .val (.int (Int32.ofNat (own_sl c1))), oU] [.ref mb])) rfl rfl (G d32_45)
  refine own_by st330 ?_
  refine own_by (S' := (oM T330 m 59 #[oR mb, oR sa, .val (.int (-1 : Int32)), oI (Int32.ofNat c1), .val (.int (Int32.ofNat (own_sl c1))), oU] [.ref mb])) (fun _ k => XS.iload X330.here hx rfl (G d32_48) rfl (own_baload X330 hx hZ e330 A_9 (own_nn (by have := hs1; omega)) (v := (.int 1)) (own_at (by have := hs1; omega) (by rw [own_s2get c1 c2 hs1, if_neg hjn, if_pos rfl])) (g := (mkF m 50 #[oR mb, oR sa, .val (.int (-1 : Int32)), oI (Int32.ofNat c1), .val (.int (Int32.ofNat (own_sl c1))), oU] [(.int (Int32.ofNat (own_sl c1))), (.ref (D 9))])) rfl rfl (G d32_50) _ (XS.ifNo X330.here hx rfl (G d32_51) rfl ((if0 _ _).trans (feq ((by decide) : ¬ ((1 : Int32) = (0 : Int32)))).1) (XS.iloadN X330.here hx rfl (G d32_54) rfl (XS.ifNo X330.here hx rfl (G d32_55) rfl ((if0 _ _).trans (tlt ((by decide) : (-1 : Int32) < (0 : Int32))).2.1) (XS.aloadN X330.here hx rfl (G d32_58) rfl rfl k)))))) ?_
  obtain ⟨T331, X331, e331, st331⟩ := getF X330 hx hZ hown (host := "") (Or.inl (gw hw 45 rfl)) Via.refl e330 f_9 (g := (mkF m 59 #[oR mb, oR sa, .val (.int (-1 : Int32)), oI (Int32.ofNat c1), .val (.int (Int32.ofNat (own_sl c1))), oU] [.ref mb])) rfl rfl (G d32_59)
  refine own_by st331 ?_
  refine own_by (S' := (oM T331 m 70 #[oR mb, oR sa, .val (.int (-1 : Int32)), oI (Int32.ofNat c1), .val (.int (Int32.ofNat (own_sl c1))), oI 0] [.ref mb])) (fun _ k => XS.iload X331.here hx rfl (G d32_62) rfl (own_baload X331 hx hZ e331 A_9 (own_nn (by have := hs1; omega)) (v := (.int 1)) (own_at (by have := hs1; omega) (by rw [own_s2get c1 c2 hs1, if_neg hjn, if_pos rfl])) (g := (mkF m 64 #[oR mb, oR sa, .val (.int (-1 : Int32)), oI (Int32.ofNat c1), .val (.int (Int32.ofNat (own_sl c1))), oU] [(.int (Int32.ofNat (own_sl c1))), (.ref (D 9))])) rfl rfl (G d32_64) _ (XS.iconst X331.here hx rfl (G d32_65) (XS.isub X331.here hx rfl (G d32_66) rfl (XS.istore X331.here hx rfl (G d32_67) rfl (l' := #[oR mb, oR sa, .val (.int (-1 : Int32)), oI (Int32.ofNat c1), .val (.int (Int32.ofNat (own_sl c1))), oI 0]) rfl (XS.aloadN X331.here hx rfl (G d32_69) rfl rfl k)))))) ?_
  obtain ⟨T332, X332, e332, st332⟩ := getF X331 hx hZ hown (host := "") (Or.inl (gw hw 26 rfl)) Via.refl e331 f_2 (g := (mkF m 70 #[oR mb, oR sa, .val (.int (-1 : Int32)), oI (Int32.ofNat c1), .val (.int (Int32.ofNat (own_sl c1))), oI 0] [.ref mb])) rfl rfl (G d32_70)
  refine own_by st332 ?_
  refine own_by (S' := (oM T332 m 84 #[oR mb, oR sa, .val (.int (-1 : Int32)), oI (Int32.ofNat c1), .val (.int (Int32.ofNat (own_sl c1))), oI 0] [.ref sa, .int 0, .ref mb])) (fun _ k => XS.iload X332.here hx rfl (G d32_73) rfl (own_iaload X332 hx hZ e332 A_2 (by decide) (v := (.int (Int32.ofNat c1))) rfl (g := (mkF m 75 #[oR mb, oR sa, .val (.int (-1 : Int32)), oI (Int32.ofNat c1), .val (.int (Int32.ofNat (own_sl c1))), oI 0] [.int 0, (.ref (D 2))])) rfl rfl (G d32_75) _ (XS.iloadN X332.here hx rfl (G d32_76) rfl (XS.icmpNo X332.here hx rfl (G d32_77) rfl (teq (rfl : (Int32.ofNat c1) = (Int32.ofNat c1))).2 (XS.aloadN X332.here hx rfl (G d32_80) rfl rfl (XS.iload X332.here hx rfl (G d32_81) rfl (XS.aloadN X332.here hx rfl (G d32_83) rfl rfl k))))))) ?_
  obtain ⟨cq334, q334, q334'⟩ := E_mb.cell
  obtain ⟨_, _, ⟨T334, L334, k334, n334⟩, -, X334, ⟨Lc334, hQ334, l334, y334, z334⟩, st334⟩ := X332.privateBack hx (y := y_35) hown (mvT hZ (gw hw 202 rfl)) (mvT hZ (gw hw 203 rfl)) (own_selP hZ (gw hw 13 rfl) (gw hw 204 rfl) (gw hw 203 rfl) (by decide)) (Cond.privateMethod_at (mvP hZ (gw hw 204 rfl) (args := #[]))) (mvT hZ (gw hw 205 rfl)) (by decide) (backOf (W := 0) (rm_isNamed0 l Z a0 hw [] mb li D LN c1 c2 a1 b1 a2 b2 sa sb z1 cs fo bo T328.heap n0 Zn ⟨E_mb, f_0, f_1, f_2, f_3, f_4, f_5, f_6, f_7, f_8, f_9, f_10, f_11, f_12, f_13, f_14, f_15, f_16, A_0, A_1, A_2, A_3, A_4, A_5, A_6, A_7, A_8, A_9⟩ DI A_li h2 S_a hz hk1.2.1 O ⟨SC, hcs, SF, hfo, SB, EB⟩) hZ (gw hw 205 rfl) (gw hw 14 rfl) (by decide) (by decide)) (g := (mkF m 84 #[oR mb, oR sa, .val (.int (-1 : Int32)), oI (Int32.ofNat c1), .val (.int (Int32.ofNat (own_sl c1))), oI 0] [.ref sa, .int 0, .ref mb])) rfl (by rw [hml]; rfl) (Steps.refl _) (a := mb) (by rw [e332]; exact q334) q334' (argsL := [.int 0, .ref sa]) (rest := []) (lenOf pd__28ILjava_2flang_2fString_3b_29Z rfl) rfl oZ (G d32_84) (fun _ _ => ⟨rfl, e332, (by decide : 0 + 0 ≤ _), (by decide : 0 + 0 ≤ _)⟩)
  dsimp only [Pt.U, Pt.locs, Pt.cells, Pt.slots] at X334 l334 y334 z334 st334 hQ334
  have X334 := own_recast X334 l334 y334 z334
  obtain ⟨rfl, N334q, eh333⟩ := hQ334
  have N := Fr.app N N334q
  refine own_tr st334 ?_
  refine own_by (S' := (oM T334 m 95 #[oR mb, oR sa, oI 0, oI (Int32.ofNat c1), .val (.int (Int32.ofNat (own_sl c1))), oI 0] [(.int (Int32.ofNat (own_sl c1)))])) (fun _ k => XS.ifNo X334.here hx rfl (G d32_87) rfl ((if0 _ _).trans (feq ((by decide) : ¬ ((1 : Int32) = (0 : Int32)))).1) (XS.iload X334.here hx rfl (G d32_90) rfl (XS.istoreN X334.here hx rfl (G d32_92) rfl (l' := #[oR mb, oR sa, oI 0, oI (Int32.ofNat c1), .val (.int (Int32.ofNat (own_sl c1))), oI 0]) rfl (XS.iload X334.here hx rfl (G d32_93) rfl k)))) ?_
  obtain ⟨_, _, ⟨T336, L336, k336, n336⟩, -, X336, ⟨Lc336, hQ336, l336, y336, z336⟩, st336⟩ := Jvm.LawKit.callS X334 hx (y := y_37) hown (mvT hZ (gw hw 210 rfl)) (mvT hZ (gw hw 211 rfl)) (mvT hZ (gw hw 14 rfl)) (mvT hZ (gw hw 212 rfl)) (by decide) (backOf (W := 0) (rm_next l Z a0 hw [] (own_sl c1) T328.heap n0 Zn hs1) hZ (gw hw 212 rfl) (gw hw 14 rfl) (by decide) (by decide)) (g := (mkF m 95 #[oR mb, oR sa, oI 0, oI (Int32.ofNat c1), .val (.int (Int32.ofNat (own_sl c1))), oI 0] [(.int (Int32.ofNat (own_sl c1)))])) rfl (by rw [hml]; rfl) (argsL := [(.int (Int32.ofNat (own_sl c1)))]) (rest := []) (lenOf pd__28I_29I rfl) rfl oZ (G d32_95) (fun _ _ => ⟨rfl, eh333, (by decide : 0 + 0 ≤ _), (by decide : 0 + 0 ≤ _)⟩)
  dsimp only [Pt.U, Pt.locs, Pt.cells, Pt.slots] at X336 l336 y336 z336 st336 hQ336
  have X336 := own_recast X336 l336 y336 z336
  obtain ⟨rfl, N336q, eh335⟩ := hQ336
  have N := Fr.app N N336q
  refine own_by st336 ?_
  have hjx : ((own_sl c1) + 1) % 32 < 32 := Nat.mod_lt _ (by decide)
  obtain ⟨zx, hzx⟩ : ∃ z : Int32, (own_S2 c1 c2)[((own_sl c1) + 1) % 32]? = some (.int z) := ⟨_, own_s2get c1 c2 hjx⟩
  refine own_by (S' := (oM T336 m 45 #[oR mb, oR sa, oI 0, oI (Int32.ofNat c1), .val (.int (Int32.ofNat (((own_sl c1) + 1) % 32))), oI 0] [.ref mb])) (fun _ k => XS.istore X336.here hx rfl (G d32_98) rfl (l' := #[oR mb, oR sa, oI 0, oI (Int32.ofNat c1), .val (.int (Int32.ofNat (((own_sl c1) + 1) % 32))), oI 0]) rfl (XS.goto X336.here hx rfl (pc0 := 100) (pc' := 44) rfl (G d32_100) (by decide) (by decide) (XS.aloadN X336.here hx rfl (G d32_44) rfl rfl k))) ?_
  obtain ⟨T337, X337, e337, st337⟩ := getF X336 hx hZ hown (host := "") (Or.inl (gw hw 45 rfl)) Via.refl eh335 f_9 (g := (mkF m 45 #[oR mb, oR sa, oI 0, oI (Int32.ofNat c1), .val (.int (Int32.ofNat (((own_sl c1) + 1) % 32))), oI 0] [.ref mb])) rfl rfl (G d32_45)
  refine own_by st337 ?_
  refine own_by (S' := (oM T337 m 51 #[oR mb, oR sa, oI 0, oI (Int32.ofNat c1), .val (.int (Int32.ofNat (((own_sl c1) + 1) % 32))), oI 0] [.int zx])) (fun _ k => XS.iload X337.here hx rfl (G d32_48) rfl (own_baload X337 hx hZ e337 A_9 (own_nn (by have := hjx; omega)) (v := (.int zx)) (own_at (by have := hjx; omega) hzx) (g := (mkF m 50 #[oR mb, oR sa, oI 0, oI (Int32.ofNat c1), .val (.int (Int32.ofNat (((own_sl c1) + 1) % 32))), oI 0] [(.int (Int32.ofNat (((own_sl c1) + 1) % 32))), (.ref (D 9))])) rfl rfl (G d32_50) _ k)) ?_
  by_cases hzz : zx = (0 : Int32)
  · refine own_by (S' := (oM T337 m 104 #[oR mb, oR sa, oI 0, oI (Int32.ofNat c1), .val (.int (Int32.ofNat (((own_sl c1) + 1) % 32))), oI 0] [.int 0])) (fun _ k => XS.ifYes X337.here hx rfl (pc0 := 51) (pc' := 103) rfl (G d32_51) rfl ((if0 _ _).trans (teq (hzz : zx = (0 : Int32))).1) (by decide) (by decide) (XS.iloadN X337.here hx rfl (G d32_103) rfl k)) ?_
    exact own_ret X337 hx (t := .int) Bd.returns rfl (Or.inl ⟨rfl, by simp, _, rfl⟩) (G d32_104) hlk (by decide : 0 ≤ _) (by decide : 0 ≤ _) (by rw [e337]; exact ⟨rfl, N, K⟩)
  · refine own_by (S' := (oM T337 m 104 #[oR mb, oR sa, oI 0, oI (Int32.ofNat c1), .val (.int (Int32.ofNat (((own_sl c1) + 1) % 32))), oI 0] [.int 0])) (fun _ k => XS.ifNo X337.here hx rfl (G d32_51) rfl ((if0 _ _).trans (feq (hzz : ¬ (zx = (0 : Int32)))).1) (XS.iloadN X337.here hx rfl (G d32_54) rfl (XS.ifYes X337.here hx rfl (pc0 := 55) (pc' := 103) rfl (G d32_55) rfl ((if0 _ _).trans (flt ((by decide) : ¬ ((0 : Int32) < (0 : Int32)))).2.1) (by decide) (by decide) (XS.iloadN X337.here hx rfl (G d32_103) rfl k)))) ?_
    exact own_ret X337 hx (t := .int) Bd.returns rfl (Or.inl ⟨rfl, by simp, _, rfl⟩) (G d32_104) hlk (by decide : 0 ≤ _) (by decide : 0 ≤ _) (by rw [e337]; exact ⟨rfl, N, K⟩)
theorem ef_rm_find1 (m : MethodId) (x0 : Addr) (x1 : Addr) : entryFrame m #[.ref x0, .ref x1] 6 = mkF m 0 #[oR x0, oR x1, oU, oU, oU, oU] [] := by first | (simp [entryFrame, mkF, argsToLocals, Value.category]; done) | rfl
def Q_rm_find1 (Z : State) (mb li : Addr) (D : Nat → Addr) (LN : List Value) (c1 c2 : Nat) (a1 b1 a2 b2 : Int32) (sa sb : Addr) (z1 : Int32) (cs : Int32) (fo : Value) (bo : Addr) (h0 : Heap) (n0 : Nat) (v : Option Value) (h : Heap) (L : List Loc) : Prop := v = some (.int 1) ∧ Fr n0 L ∧ Keep h0 h [sa]
set_option maxRecDepth 65536 in
set_option maxHeartbeats 40000000 in
theorem rm_find1 (l : Launch) (Z : State) (a0 : Array Value) (hw : ∀ d ∈ tables_1, d.before a0 Z = true) (ws : List Jvm.Cond) (mb li : Addr) (D : Nat → Addr) (LN : List Value) (c1 c2 : Nat) (a1 b1 a2 b2 : Int32) (sa sb : Addr) (z1 : Int32) (cs : Int32) (fo : Value) (bo : Addr) (h0 : Heap) (n0 : Nat) (Zn : n0 ≤ h0.size) (M : OwnM Z h0 mb D (own_V2 c1 c2 a1 b1 a2 b2 bo) (.ref li) 23 1 2) (DI : own_di n0 mb li D) (A_li : OwnA Z h0 li .char LN) (h2 : LN[13]? = some (.int (Int32.ofNat c2))) (S_a : own_str Z h0 sa sb [.int z1]) (F_h : Fld Z h0 sa "java/lang/String" "hash" "I" (.int 0)) (F_z : Fld Z h0 sa "java/lang/String" "hashIsZero" "Z" (.int 0)) (o_sa : n0 ≤ sa) (hne : sb ≠ sa) (hsa : ∀ y ∈ (mb :: li :: [D 0, D 1, D 2, D 3, D 4, D 5, D 6, D 7, D 8, D 9] : List Addr), y ≠ sa) (hz : (z1 &&& (255 : Int32)) = Int32.ofNat c2) (hk1 : own_nc c1) (hk2 : own_nc c2) (h12 : c1 ≠ c2) (O : Old Z n0 h0) (SS : own_st Z cs fo bo) :
    MetFree l y_32 (head1 (Jvm.Cond.code y_32 c_32 6 (some .int) :: ws) (oQ 6 0 0 135)) (fun a U => a = #[.ref mb, .ref sa] ∧ Z.Warmed39 U.vm ∧ U.heap = h0) (fun _ _ _ _ _ => True) (fun _ U o U' => ∃ v L, o = .returned v ∧ (Q_rm_find1 Z mb li D LN c1 c2 a1 b1 a2 b2 sa sb z1 cs fo bo h0 n0) v U'.heap L ∧ FrameEnd U o U' L (oQ 6 0 0 135).cells (oQ 6 0 0 135).slots) := by
  refine MetFree.of_bodySF (plainFor_of_name pn_32) hisR ?_
  intro p e s m args below meth c s₁ Bd hml0 hP hK
  obtain ⟨rfl, hZ, hh⟩ := hP
  have hx := Bd.exec
  have G := @oG _ _ Bd.bytes
  have hml : c.maxLocals = 6 := hml0
  have hown : s.vm.findClass "com/example/upright_play/uprightplay/event/Members" = some m.cls := findClass_of_methodNamed Bd.named
  have hnm := (name_of_methodNamed Bd.named Bd.method).1
  have hlk : meth.locks = false := BodyLoose.notSynchronized Bd
  have X0 : Stand p l e (oQ 6 0 0 135) s m #[.ref mb, .ref sa] below meth c s₁ [] 0 0 := Stand.of_body Bd
  have e0 : s₁.heap = h0 := by rw [← hh, Bd.state]; rfl
  have N := Fr.nil n0
  have K := Keep.refl h0 [sa]
  refine own_start (cl := (oQ 6 0 0 135).cells) (sl := (oQ 6 0 0 135).slots) (Q := (Q_rm_find1 Z mb li D LN c1 c2 a1 b1 a2 b2 sa sb z1 cs fo bo h0 n0)) (ef_rm_find1 m mb sa) ?_
  obtain ⟨E_mb, f_0, f_1, f_2, f_3, f_4, f_5, f_6, f_7, f_8, f_9, f_10, f_11, f_12, f_13, f_14, f_15, f_16, A_0, A_1, A_2, A_3, A_4, A_5, A_6, A_7, A_8, A_9⟩ := M
  have A_0 : OwnA Z h0 (D 0) .int [.int 1, .int 12, .int 0, .int 0, .int 0, .int 0, .int 0, .int 0, .int 0, .int 0, .int 0, .int 0, .int 0, .int 0, .int 0, .int 0] := A_0
  have A_1 : OwnA Z h0 (D 1) .int [.int 4, .int 15, .int 0, .int 0, .int 0, .int 0, .int 0, .int 0, .int 0, .int 0, .int 0, .int 0, .int 0, .int 0, .int 0, .int 0] := A_1
  have A_2 : OwnA Z h0 (D 2) .int [.int (Int32.ofNat c1), .int (Int32.ofNat c2), .int 0, .int 0, .int 0, .int 0, .int 0, .int 0, .int 0, .int 0, .int 0, .int 0, .int 0, .int 0, .int 0, .int 0] := A_2
  have A_3 : OwnO Z h0 (D 3) "java/lang/String" [.null, .null, .null, .null, .null, .null, .null, .null, .null, .null, .null, .null, .null, .null, .null, .null] := A_3
  have A_4 : OwnO Z h0 (D 4) "com/example/upright_play/uprightplay/event/Members$Type" [.ref bo, .ref bo, .null, .null, .null, .null, .null, .null, .null, .null, .null, .null, .null, .null, .null, .null] := A_4
  have A_5 : OwnA Z h0 (D 5) .int [.int a1, .int a2, .int 0, .int 0, .int 0, .int 0, .int 0, .int 0, .int 0, .int 0, .int 0, .int 0, .int 0, .int 0, .int 0, .int 0] := A_5
  have A_6 : OwnA Z h0 (D 6) .int [.int b1, .int b2, .int 0, .int 0, .int 0, .int 0, .int 0, .int 0, .int 0, .int 0, .int 0, .int 0, .int 0, .int 0, .int 0, .int 0] := A_6
  have A_7 : OwnA Z h0 (D 7) .int [.int 0, .int 0, .int 0, .int 0, .int 0, .int 0, .int 0, .int 0, .int 0, .int 0, .int 0, .int 0, .int 0, .int 0, .int 0, .int 0] := A_7
  have A_8 : OwnA Z h0 (D 8) .int [.int 0, .int 0, .int 0, .int 0, .int 0, .int 0, .int 0, .int 0, .int 0, .int 0, .int 0, .int 0, .int 0, .int 0, .int 0, .int 0] := A_8
  have A_9 : OwnA Z h0 (D 9) .byte (own_S2 c1 c2) := A_9
  obtain ⟨SC, hcs, SF, hfo, SB, EB⟩ := SS
  have E_sa := S_a.1
  refine own_by (S' := (oM s₁ m 3 #[oR mb, oR sa, .val (.int (-1 : Int32)), oU, oU, oU] [.ref mb])) (fun _ k => XS.iconst X0.here hx rfl (G d32_0) (XS.istoreN X0.here hx rfl (G d32_1) rfl (l' := #[oR mb, oR sa, .val (.int (-1 : Int32)), oU, oU, oU]) rfl (XS.aloadN X0.here hx rfl (G d32_2) rfl rfl k))) ?_
  obtain ⟨T338, X338, e338, st338⟩ := getF X0 hx hZ hown (host := "") (Or.inl (gw hw 62 rfl)) Via.refl e0 f_14 (g := (mkF m 3 #[oR mb, oR sa, .val (.int (-1 : Int32)), oU, oU, oU] [.ref mb])) rfl rfl (G d32_3)
  refine own_by st338 ?_
  refine own_by (S' := (oM T338 m 34 #[oR mb, oR sa, .val (.int (-1 : Int32)), oU, oU, oU] [.ref sa])) (fun _ k => XS.ifnullYes X338.here hx rfl (pc0 := 6) (pc' := 33) rfl (G d32_6) rfl (by decide) (by decide) (XS.aloadN X338.here hx rfl (G d32_33) rfl rfl k)) ?_
  obtain ⟨cq339, kq339, q339a, q339b, q339c⟩ := isOf hZ e338 E_sa
  obtain ⟨_, _, ⟨T339, L339, k339, n339⟩, -, X339, ⟨Lc339, hQ339, l339, y339, z339⟩, st339⟩ := X338.virtualBack hx (y := y_33) (z := y_33) hown (mvT hZ (gw hw 190 rfl)) (mvT hZ (gw hw 191 rfl)) (notFace_of_selects (args := #[]) (mvT hZ (gw hw 193 rfl))) (mvT hZ (gw hw 193 rfl)) (mvT hZ (gw hw 192 rfl)) (by decide) (backOf (W := 0) (rm_hashCode l Z a0 hw [] sa sb z1 c2 cs fo bo h0 n0 Zn S_a F_h F_z o_sa hne hz hk2 O ⟨SC, hcs, SF, hfo, SB, EB⟩) hZ (gw hw 194 rfl) (gw hw 97 rfl) (by decide) (by decide)) q339a q339c (g := (mkF m 34 #[oR mb, oR sa, .val (.int (-1 : Int32)), oU, oU, oU] [.ref sa])) rfl (by rw [hml]; rfl) (Steps.refl _) (argsL := []) (rest := []) (lenOf pd__28_29I rfl) rfl oZ (G d32_34) (fun _ _ => ⟨rfl, e338, (by decide : 0 + 0 ≤ _), (by decide : 0 + 0 ≤ _)⟩)
  dsimp only [Pt.U, Pt.locs, Pt.cells, Pt.slots] at X339 l339 y339 z339 st339 hQ339
  have X339 := own_recast X339 l339 y339 z339
  obtain ⟨rfl, N339q, Kh, S_a⟩ := hQ339
  have N := Fr.app N N339q
  have E_mb := E_mb.keep Kh
  have f_0 := f_0.keep Kh (ninS (hsa _ (List.mem_of_getElem? (i := 0) rfl)) nin0)
  have f_1 := f_1.keep Kh (ninS (hsa _ (List.mem_of_getElem? (i := 0) rfl)) nin0)
  have f_2 := f_2.keep Kh (ninS (hsa _ (List.mem_of_getElem? (i := 0) rfl)) nin0)
  have f_3 := f_3.keep Kh (ninS (hsa _ (List.mem_of_getElem? (i := 0) rfl)) nin0)
  have f_4 := f_4.keep Kh (ninS (hsa _ (List.mem_of_getElem? (i := 0) rfl)) nin0)
  have f_5 := f_5.keep Kh (ninS (hsa _ (List.mem_of_getElem? (i := 0) rfl)) nin0)
  have f_6 := f_6.keep Kh (ninS (hsa _ (List.mem_of_getElem? (i := 0) rfl)) nin0)
  have f_7 := f_7.keep Kh (ninS (hsa _ (List.mem_of_getElem? (i := 0) rfl)) nin0)
  have f_8 := f_8.keep Kh (ninS (hsa _ (List.mem_of_getElem? (i := 0) rfl)) nin0)
  have f_9 := f_9.keep Kh (ninS (hsa _ (List.mem_of_getElem? (i := 0) rfl)) nin0)
  have f_10 := f_10.keep Kh (ninS (hsa _ (List.mem_of_getElem? (i := 0) rfl)) nin0)
  have f_11 := f_11.keep Kh (ninS (hsa _ (List.mem_of_getElem? (i := 0) rfl)) nin0)
  have f_12 := f_12.keep Kh (ninS (hsa _ (List.mem_of_getElem? (i := 0) rfl)) nin0)
  have f_13 := f_13.keep Kh (ninS (hsa _ (List.mem_of_getElem? (i := 0) rfl)) nin0)
  have f_14 := f_14.keep Kh (ninS (hsa _ (List.mem_of_getElem? (i := 0) rfl)) nin0)
  have f_15 := f_15.keep Kh (ninS (hsa _ (List.mem_of_getElem? (i := 0) rfl)) nin0)
  have f_16 := f_16.keep Kh (ninS (hsa _ (List.mem_of_getElem? (i := 0) rfl)) nin0)
  have A_0 := A_0.keep Kh (ninS (hsa _ (List.mem_of_getElem? (i := 2) rfl)) nin0)
  have A_1 := A_1.keep Kh (ninS (hsa _ (List.mem_of_getElem? (i := 3) rfl)) nin0)
  have A_2 := A_2.keep Kh (ninS (hsa _ (List.mem_of_getElem? (i := 4) rfl)) nin0)
  have A_3 := A_3.keep Kh (ninS (hsa _ (List.mem_of_getElem? (i := 5) rfl)) nin0)
  have A_4 := A_4.keep Kh (ninS (hsa _ (List.mem_of_getElem? (i := 6) rfl)) nin0)
  have A_5 := A_5.keep Kh (ninS (hsa _ (List.mem_of_getElem? (i := 7) rfl)) nin0)
  have A_6 := A_6.keep Kh (ninS (hsa _ (List.mem_of_getElem? (i := 8) rfl)) nin0)
  have A_7 := A_7.keep Kh (ninS (hsa _ (List.mem_of_getElem? (i := 9) rfl)) nin0)
  have A_8 := A_8.keep Kh (ninS (hsa _ (List.mem_of_getElem? (i := 10) rfl)) nin0)
  have A_9 := A_9.keep Kh (ninS (hsa _ (List.mem_of_getElem? (i := 11) rfl)) nin0)
  have A_li := A_li.keep Kh (ninS (hsa _ (List.mem_of_getElem? (i := 1) rfl)) nin0)
  have O := O.keep Kh (allS o_sa all0)
  have E_sa := E_sa.keep Kh
  have Zn : n0 ≤ _ := Nat.le_trans Zn Kh.1
  have K := K.trans Kh (allS (Or.inl (List.mem_of_getElem? (i := 0) rfl)) all0)
  refine own_tr st339 ?_
  refine own_by (S' := (oM T339 m 39 #[oR mb, oR sa, .val (.int (-1 : Int32)), oI (Int32.ofNat c2), oU, oU] [(.int (Int32.ofNat c2))])) (fun _ k => XS.istoreN X339.here hx rfl (G d32_37) rfl (l' := #[oR mb, oR sa, .val (.int (-1 : Int32)), oI (Int32.ofNat c2), oU, oU]) rfl (XS.iloadN X339.here hx rfl (G d32_38) rfl k)) ?_
  obtain ⟨_, _, ⟨T340, L340, k340, n340⟩, -, X340, ⟨Lc340, hQ340, l340, y340, z340⟩, st340⟩ := Jvm.LawKit.callS X339 hx (y := y_27) hown (mvT hZ (gw hw 165 rfl)) (mvT hZ (gw hw 166 rfl)) (mvT hZ (gw hw 14 rfl)) (mvT hZ (gw hw 167 rfl)) (by decide) (backOf (W := 0) (rm_slotOf l Z a0 hw [] c2 T339.heap n0 Zn hk2.2.1) hZ (gw hw 167 rfl) (gw hw 14 rfl) (by decide) (by decide)) (g := (mkF m 39 #[oR mb, oR sa, .val (.int (-1 : Int32)), oI (Int32.ofNat c2), oU, oU] [(.int (Int32.ofNat c2))])) rfl (by rw [hml]; rfl) (argsL := [(.int (Int32.ofNat c2))]) (rest := []) (lenOf pd__28I_29I rfl) rfl oZ (G d32_39) (fun _ _ => ⟨rfl, rfl, (by decide : 0 + 0 ≤ _), (by decide : 0 + 0 ≤ _)⟩)
  dsimp only [Pt.U, Pt.locs, Pt.cells, Pt.slots] at X340 l340 y340 z340 st340 hQ340
  have X340 := own_recast X340 l340 y340 z340
  obtain ⟨rfl, N340q, eh2⟩ := hQ340
  have N := Fr.app N N340q
  refine own_by st340 ?_
  have hs1 := (own_slot c1 hk1.2.1).2
  have hs2 := (own_slot c2 hk2.2.1).2
  have hj3 := own_j3lt (c1 := c1) hk2.2.1
  have hjn := own_j3ne (c1 := c1) hk2.2.1
  refine own_by (S' := (oM T340 m 44 #[oR mb, oR sa, .val (.int (-1 : Int32)), oI (Int32.ofNat c2), .val (.int (Int32.ofNat (own_sl c2))), oU] [])) (fun _ k => XS.istore X340.here hx rfl (G d32_42) rfl (l' := #[oR mb, oR sa, .val (.int (-1 : Int32)), oI (Int32.ofNat c2), .val (.int (Int32.ofNat (own_sl c2))), oU]) rfl k) ?_
  by_cases hss : own_sl c1 = own_sl c2
  · refine own_by (S' := (oM T340 m 45 #[oR mb, oR sa, .val (.int (-1 : Int32)), oI (Int32.ofNat c2), .val (.int (Int32.ofNat (own_sl c2))), oU] [.ref mb])) (fun _ k => XS.aloadN X340.here hx rfl (G d32_44) rfl rfl k) ?_
    obtain ⟨T341, X341, e341, st341⟩ := getF X340 hx hZ hown (host := "") (Or.inl (gw hw 45 rfl)) Via.refl eh2 f_9 (g := (mkF m 45 #[oR mb, oR sa, .val (.int (-1 : Int32)), oI (Int32.ofNat c2), .val (.int (Int32.ofNat (own_sl c2))), oU] [.ref mb])) rfl rfl (G d32_45)
    refine own_by st341 ?_
    refine own_by (S' := (oM T341 m 59 #[oR mb, oR sa, .val (.int (-1 : Int32)), oI (Int32.ofNat c2), .val (.int (Int32.ofNat (own_sl c2))), oU] [.ref mb])) (fun _ k => XS.iload X341.here hx rfl (G d32_48) rfl (own_baload X341 hx hZ e341 A_9 (own_nn (by have := hs2; omega)) (v := (.int 1)) (own_at (by have := hs2; omega) (by rw [own_s2get c1 c2 hs2, if_neg (hss ▸ hjn), if_pos hss])) (g := (mkF m 50 #[oR mb, oR sa, .val (.int (-1 : Int32)), oI (Int32.ofNat c2), .val (.int (Int32.ofNat (own_sl c2))), oU] [(.int (Int32.ofNat (own_sl c2))), (.ref (D 9))])) rfl rfl (G d32_50) _ (XS.ifNo X341.here hx rfl (G d32_51) rfl ((if0 _ _).trans (feq ((by decide) : ¬ ((1 : Int32) = (0 : Int32)))).1) (XS.iloadN X341.here hx rfl (G d32_54) rfl (XS.ifNo X341.here hx rfl (G d32_55) rfl ((if0 _ _).trans (tlt ((by decide) : (-1 : Int32) < (0 : Int32))).2.1) (XS.aloadN X341.here hx rfl (G d32_58) rfl rfl k)))))) ?_
    obtain ⟨T342, X342, e342, st342⟩ := getF X341 hx hZ hown (host := "") (Or.inl (gw hw 45 rfl)) Via.refl e341 f_9 (g := (mkF m 59 #[oR mb, oR sa, .val (.int (-1 : Int32)), oI (Int32.ofNat c2), .val (.int (Int32.ofNat (own_sl c2))), oU] [.ref mb])) rfl rfl (G d32_59)
    refine own_by st342 ?_
    refine own_by (S' := (oM T342 m 70 #[oR mb, oR sa, .val (.int (-1 : Int32)), oI (Int32.ofNat c2), .val (.int (Int32.ofNat (own_sl c2))), oI 0] [.ref mb])) (fun _ k => XS.iload X342.here hx rfl (G d32_62) rfl (own_baload X342 hx hZ e342 A_9 (own_nn (by have := hs2; omega)) (v := (.int 1)) (own_at (by have := hs2; omega) (by rw [own_s2get c1 c2 hs2, if_neg (hss ▸ hjn), if_pos hss])) (g := (mkF m 64 #[oR mb, oR sa, .val (.int (-1 : Int32)), oI (Int32.ofNat c2), .val (.int (Int32.ofNat (own_sl c2))), oU] [(.int (Int32.ofNat (own_sl c2))), (.ref (D 9))])) rfl rfl (G d32_64) _ (XS.iconst X342.here hx rfl (G d32_65) (XS.isub X342.here hx rfl (G d32_66) rfl (XS.istore X342.here hx rfl (G d32_67) rfl (l' := #[oR mb, oR sa, .val (.int (-1 : Int32)), oI (Int32.ofNat c2), .val (.int (Int32.ofNat (own_sl c2))), oI 0]) rfl (XS.aloadN X342.here hx rfl (G d32_69) rfl rfl k)))))) ?_
    obtain ⟨T343, X343, e343, st343⟩ := getF X342 hx hZ hown (host := "") (Or.inl (gw hw 26 rfl)) Via.refl e342 f_2 (g := (mkF m 70 #[oR mb, oR sa, .val (.int (-1 : Int32)), oI (Int32.ofNat c2), .val (.int (Int32.ofNat (own_sl c2))), oI 0] [.ref mb])) rfl rfl (G d32_70)
    refine own_by st343 ?_
    refine own_by (S' := (oM T343 m 95 #[oR mb, oR sa, .val (.int (-1 : Int32)), oI (Int32.ofNat c2), .val (.int (Int32.ofNat (own_sl c2))), oI 0] [(.int (Int32.ofNat (own_sl c2)))])) (fun _ k => XS.iload X343.here hx rfl (G d32_73) rfl (own_iaload X343 hx hZ e343 A_2 (by decide) (v := (.int (Int32.ofNat c1))) rfl (g := (mkF m 75 #[oR mb, oR sa, .val (.int (-1 : Int32)), oI (Int32.ofNat c2), .val (.int (Int32.ofNat (own_sl c2))), oI 0] [.int 0, (.ref (D 2))])) rfl rfl (G d32_75) _ (XS.iloadN X343.here hx rfl (G d32_76) rfl (XS.icmpYes X343.here hx rfl (pc0 := 77) (pc' := 93) rfl (G d32_77) rfl (feq ((own_ofne (by have := hk1.2.1; omega) (by have := hk2.2.1; omega) h12) : ¬ ((Int32.ofNat c1) = (Int32.ofNat c2)))).2 (by decide) (by decide) (XS.iload X343.here hx rfl (G d32_93) rfl k))))) ?_
    obtain ⟨_, _, ⟨T345, L345, k345, n345⟩, -, X345, ⟨Lc345, hQ345, l345, y345, z345⟩, st345⟩ := Jvm.LawKit.callS X343 hx (y := y_37) hown (mvT hZ (gw hw 210 rfl)) (mvT hZ (gw hw 211 rfl)) (mvT hZ (gw hw 14 rfl)) (mvT hZ (gw hw 212 rfl)) (by decide) (backOf (W := 0) (rm_next l Z a0 hw [] (own_sl c2) T339.heap n0 Zn hs2) hZ (gw hw 212 rfl) (gw hw 14 rfl) (by decide) (by decide)) (g := (mkF m 95 #[oR mb, oR sa, .val (.int (-1 : Int32)), oI (Int32.ofNat c2), .val (.int (Int32.ofNat (own_sl c2))), oI 0] [(.int (Int32.ofNat (own_sl c2)))])) rfl (by rw [hml]; rfl) (argsL := [(.int (Int32.ofNat (own_sl c2)))]) (rest := []) (lenOf pd__28I_29I rfl) rfl oZ (G d32_95) (fun _ _ => ⟨rfl, e343, (by decide : 0 + 0 ≤ _), (by decide : 0 + 0 ≤ _)⟩)
    dsimp only [Pt.U, Pt.locs, Pt.cells, Pt.slots] at X345 l345 y345 z345 st345 hQ345
    have X345 := own_recast X345 l345 y345 z345
    obtain ⟨rfl, N345q, eh344⟩ := hQ345
    have N := Fr.app N N345q
    refine own_by st345 ?_
    have ej : (own_sl c2 + 1) % 32 = own_j3 c1 c2 := by rw [own_j3, if_pos hss]
    rw [show (Int32.ofNat (((own_sl c2) + 1) % 32)) = (Int32.ofNat (own_j3 c1 c2)) from congrArg Int32.ofNat ej]
    refine own_by (S' := (oM T345 m 45 #[oR mb, oR sa, .val (.int (-1 : Int32)), oI (Int32.ofNat c2), .val (.int (Int32.ofNat (own_j3 c1 c2))), oI 0] [.ref mb])) (fun _ k => XS.istore X345.here hx rfl (G d32_98) rfl (l' := #[oR mb, oR sa, .val (.int (-1 : Int32)), oI (Int32.ofNat c2), .val (.int (Int32.ofNat (own_j3 c1 c2))), oI 0]) rfl (XS.goto X345.here hx rfl (pc0 := 100) (pc' := 44) rfl (G d32_100) (by decide) (by decide) (XS.aloadN X345.here hx rfl (G d32_44) rfl rfl k))) ?_
    obtain ⟨T346, X346, e346, st346⟩ := getF X345 hx hZ hown (host := "") (Or.inl (gw hw 45 rfl)) Via.refl eh344 f_9 (g := (mkF m 45 #[oR mb, oR sa, .val (.int (-1 : Int32)), oI (Int32.ofNat c2), .val (.int (Int32.ofNat (own_j3 c1 c2))), oI 0] [.ref mb])) rfl rfl (G d32_45)
    refine own_by st346 ?_
    refine own_by (S' := (oM T346 m 59 #[oR mb, oR sa, .val (.int (-1 : Int32)), oI (Int32.ofNat c2), .val (.int (Int32.ofNat (own_j3 c1 c2))), oI 0] [.ref mb])) (fun _ k => XS.iload X346.here hx rfl (G d32_48) rfl (own_baload X346 hx hZ e346 A_9 (own_nn (by have := hj3; omega)) (v := (.int 2)) (own_at (by have := hj3; omega) (by rw [own_s2get c1 c2 hj3, if_pos rfl])) (g := (mkF m 50 #[oR mb, oR sa, .val (.int (-1 : Int32)), oI (Int32.ofNat c2), .val (.int (Int32.ofNat (own_j3 c1 c2))), oI 0] [(.int (Int32.ofNat (own_j3 c1 c2))), (.ref (D 9))])) rfl rfl (G d32_50) _ (XS.ifNo X346.here hx rfl (G d32_51) rfl ((if0 _ _).trans (feq ((by decide) : ¬ ((2 : Int32) = (0 : Int32)))).1) (XS.iloadN X346.here hx rfl (G d32_54) rfl (XS.ifNo X346.here hx rfl (G d32_55) rfl ((if0 _ _).trans (tlt ((by decide) : (-1 : Int32) < (0 : Int32))).2.1) (XS.aloadN X346.here hx rfl (G d32_58) rfl rfl k)))))) ?_
    obtain ⟨T347, X347, e347, st347⟩ := getF X346 hx hZ hown (host := "") (Or.inl (gw hw 45 rfl)) Via.refl e346 f_9 (g := (mkF m 59 #[oR mb, oR sa, .val (.int (-1 : Int32)), oI (Int32.ofNat c2), .val (.int (Int32.ofNat (own_j3 c1 c2))), oI 0] [.ref mb])) rfl rfl (G d32_59)
    refine own_by st347 ?_
    refine own_by (S' := (oM T347 m 70 #[oR mb, oR sa, .val (.int (-1 : Int32)), oI (Int32.ofNat c2), .val (.int (Int32.ofNat (own_j3 c1 c2))), oI 1] [.ref mb])) (fun _ k => XS.iload X347.here hx rfl (G d32_62) rfl (own_baload X347 hx hZ e347 A_9 (own_nn (by have := hj3; omega)) (v := (.int 2)) (own_at (by have := hj3; omega) (by rw [own_s2get c1 c2 hj3, if_pos rfl])) (g := (mkF m 64 #[oR mb, oR sa, .val (.int (-1 : Int32)), oI (Int32.ofNat c2), .val (.int (Int32.ofNat (own_j3 c1 c2))), oI 0] [(.int (Int32.ofNat (own_j3 c1 c2))), (.ref (D 9))])) rfl rfl (G d32_64) _ (XS.iconst X347.here hx rfl (G d32_65) (XS.isub X347.here hx rfl (G d32_66) rfl (XS.istore X347.here hx rfl (G d32_67) rfl (l' := #[oR mb, oR sa, .val (.int (-1 : Int32)), oI (Int32.ofNat c2), .val (.int (Int32.ofNat (own_j3 c1 c2))), oI 1]) rfl (XS.aloadN X347.here hx rfl (G d32_69) rfl rfl k)))))) ?_
    obtain ⟨T348, X348, e348, st348⟩ := getF X347 hx hZ hown (host := "") (Or.inl (gw hw 26 rfl)) Via.refl e347 f_2 (g := (mkF m 70 #[oR mb, oR sa, .val (.int (-1 : Int32)), oI (Int32.ofNat c2), .val (.int (Int32.ofNat (own_j3 c1 c2))), oI 1] [.ref mb])) rfl rfl (G d32_70)
    refine own_by st348 ?_
    refine own_by (S' := (oM T348 m 84 #[oR mb, oR sa, .val (.int (-1 : Int32)), oI (Int32.ofNat c2), .val (.int (Int32.ofNat (own_j3 c1 c2))), oI 1] [.ref sa, .int 1, .ref mb])) (fun _ k => XS.iload X348.here hx rfl (G d32_73) rfl (own_iaload X348 hx hZ e348 A_2 (by decide) (v := (.int (Int32.ofNat c2))) rfl (g := (mkF m 75 #[oR mb, oR sa, .val (.int (-1 : Int32)), oI (Int32.ofNat c2), .val (.int (Int32.ofNat (own_j3 c1 c2))), oI 1] [.int 1, (.ref (D 2))])) rfl rfl (G d32_75) _ (XS.iloadN X348.here hx rfl (G d32_76) rfl (XS.icmpNo X348.here hx rfl (G d32_77) rfl (teq (rfl : (Int32.ofNat c2) = (Int32.ofNat c2))).2 (XS.aloadN X348.here hx rfl (G d32_80) rfl rfl (XS.iload X348.here hx rfl (G d32_81) rfl (XS.aloadN X348.here hx rfl (G d32_83) rfl rfl k))))))) ?_
    obtain ⟨cq350, q350, q350'⟩ := E_mb.cell
    obtain ⟨_, _, ⟨T350, L350, k350, n350⟩, -, X350, ⟨Lc350, hQ350, l350, y350, z350⟩, st350⟩ := X348.privateBack hx (y := y_35) hown (mvT hZ (gw hw 202 rfl)) (mvT hZ (gw hw 203 rfl)) (own_selP hZ (gw hw 13 rfl) (gw hw 204 rfl) (gw hw 203 rfl) (by decide)) (Cond.privateMethod_at (mvP hZ (gw hw 204 rfl) (args := #[]))) (mvT hZ (gw hw 205 rfl)) (by decide) (backOf (W := 0) (rm_isNamed1 l Z a0 hw [] mb li D LN c1 c2 a1 b1 a2 b2 sa sb z1 cs fo bo T339.heap n0 Zn ⟨E_mb, f_0, f_1, f_2, f_3, f_4, f_5, f_6, f_7, f_8, f_9, f_10, f_11, f_12, f_13, f_14, f_15, f_16, A_0, A_1, A_2, A_3, A_4, A_5, A_6, A_7, A_8, A_9⟩ DI A_li h2 S_a hz hk2.2.1 O ⟨SC, hcs, SF, hfo, SB, EB⟩) hZ (gw hw 205 rfl) (gw hw 14 rfl) (by decide) (by decide)) (g := (mkF m 84 #[oR mb, oR sa, .val (.int (-1 : Int32)), oI (Int32.ofNat c2), .val (.int (Int32.ofNat (own_j3 c1 c2))), oI 1] [.ref sa, .int 1, .ref mb])) rfl (by rw [hml]; rfl) (Steps.refl _) (a := mb) (by rw [e348]; exact q350) q350' (argsL := [.int 1, .ref sa]) (rest := []) (lenOf pd__28ILjava_2flang_2fString_3b_29Z rfl) rfl oZ (G d32_84) (fun _ _ => ⟨rfl, e348, (by decide : 0 + 0 ≤ _), (by decide : 0 + 0 ≤ _)⟩)
    dsimp only [Pt.U, Pt.locs, Pt.cells, Pt.slots] at X350 l350 y350 z350 st350 hQ350
    have X350 := own_recast X350 l350 y350 z350
    obtain ⟨rfl, N350q, eh349⟩ := hQ350
    have N := Fr.app N N350q
    refine own_tr st350 ?_
    refine own_by (S' := (oM T350 m 95 #[oR mb, oR sa, oI 1, oI (Int32.ofNat c2), .val (.int (Int32.ofNat (own_j3 c1 c2))), oI 1] [(.int (Int32.ofNat (own_j3 c1 c2)))])) (fun _ k => XS.ifNo X350.here hx rfl (G d32_87) rfl ((if0 _ _).trans (feq ((by decide) : ¬ ((1 : Int32) = (0 : Int32)))).1) (XS.iload X350.here hx rfl (G d32_90) rfl (XS.istoreN X350.here hx rfl (G d32_92) rfl (l' := #[oR mb, oR sa, oI 1, oI (Int32.ofNat c2), .val (.int (Int32.ofNat (own_j3 c1 c2))), oI 1]) rfl (XS.iload X350.here hx rfl (G d32_93) rfl k)))) ?_
    obtain ⟨_, _, ⟨T352, L352, k352, n352⟩, -, X352, ⟨Lc352, hQ352, l352, y352, z352⟩, st352⟩ := Jvm.LawKit.callS X350 hx (y := y_37) hown (mvT hZ (gw hw 210 rfl)) (mvT hZ (gw hw 211 rfl)) (mvT hZ (gw hw 14 rfl)) (mvT hZ (gw hw 212 rfl)) (by decide) (backOf (W := 0) (rm_next l Z a0 hw [] (own_j3 c1 c2) T339.heap n0 Zn hj3) hZ (gw hw 212 rfl) (gw hw 14 rfl) (by decide) (by decide)) (g := (mkF m 95 #[oR mb, oR sa, oI 1, oI (Int32.ofNat c2), .val (.int (Int32.ofNat (own_j3 c1 c2))), oI 1] [(.int (Int32.ofNat (own_j3 c1 c2)))])) rfl (by rw [hml]; rfl) (argsL := [(.int (Int32.ofNat (own_j3 c1 c2)))]) (rest := []) (lenOf pd__28I_29I rfl) rfl oZ (G d32_95) (fun _ _ => ⟨rfl, eh349, (by decide : 0 + 0 ≤ _), (by decide : 0 + 0 ≤ _)⟩)
    dsimp only [Pt.U, Pt.locs, Pt.cells, Pt.slots] at X352 l352 y352 z352 st352 hQ352
    have X352 := own_recast X352 l352 y352 z352
    obtain ⟨rfl, N352q, eh351⟩ := hQ352
    have N := Fr.app N N352q
    refine own_by st352 ?_
    have hjx : ((own_j3 c1 c2) + 1) % 32 < 32 := Nat.mod_lt _ (by decide)
    obtain ⟨zx, hzx⟩ : ∃ z : Int32, (own_S2 c1 c2)[((own_j3 c1 c2) + 1) % 32]? = some (.int z) := ⟨_, own_s2get c1 c2 hjx⟩
    refine own_by (S' := (oM T352 m 45 #[oR mb, oR sa, oI 1, oI (Int32.ofNat c2), .val (.int (Int32.ofNat (((own_j3 c1 c2) + 1) % 32))), oI 1] [.ref mb])) (fun _ k => XS.istore X352.here hx rfl (G d32_98) rfl (l' := #[oR mb, oR sa, oI 1, oI (Int32.ofNat c2), .val (.int (Int32.ofNat (((own_j3 c1 c2) + 1) % 32))), oI 1]) rfl (XS.goto X352.here hx rfl (pc0 := 100) (pc' := 44) rfl (G d32_100) (by decide) (by decide) (XS.aloadN X352.here hx rfl (G d32_44) rfl rfl k))) ?_
    obtain ⟨T353, X353, e353, st353⟩ := getF X352 hx hZ hown (host := "") (Or.inl (gw hw 45 rfl)) Via.refl eh351 f_9 (g := (mkF m 45 #[oR mb, oR sa, oI 1, oI (Int32.ofNat c2), .val (.int (Int32.ofNat (((own_j3 c1 c2) + 1) % 32))), oI 1] [.ref mb])) rfl rfl (G d32_45)
    refine own_by st353 ?_
    refine own_by (S' := (oM T353 m 51 #[oR mb, oR sa, oI 1, oI (Int32.ofNat c2), .val (.int (Int32.ofNat (((own_j3 c1 c2) + 1) % 32))), oI 1] [.int zx])) (fun _ k => XS.iload X353.here hx rfl (G d32_48) rfl (own_baload X353 hx hZ e353 A_9 (own_nn (by have := hjx; omega)) (v := (.int zx)) (own_at (by have := hjx; omega) hzx) (g := (mkF m 50 #[oR mb, oR sa, oI 1, oI (Int32.ofNat c2), .val (.int (Int32.ofNat (((own_j3 c1 c2) + 1) % 32))), oI 1] [(.int (Int32.ofNat (((own_j3 c1 c2) + 1) % 32))), (.ref (D 9))])) rfl rfl (G d32_50) _ k)) ?_
    by_cases hzz : zx = (0 : Int32)
    · refine own_by (S' := (oM T353 m 104 #[oR mb, oR sa, oI 1, oI (Int32.ofNat c2), .val (.int (Int32.ofNat (((own_j3 c1 c2) + 1) % 32))), oI 1] [.int 1])) (fun _ k => XS.ifYes X353.here hx rfl (pc0 := 51) (pc' := 103) rfl (G d32_51) rfl ((if0 _ _).trans (teq (hzz : zx = (0 : Int32))).1) (by decide) (by decide) (XS.iloadN X353.here hx rfl (G d32_103) rfl k)) ?_
      exact own_ret X353 hx (t := .int) Bd.returns rfl (Or.inl ⟨rfl, by simp, _, rfl⟩) (G d32_104) hlk (by decide : 0 ≤ _) (by decide : 0 ≤ _) (by rw [e353]; exact ⟨rfl, N, K⟩)
    · refine own_by (S' := (oM T353 m 104 #[oR mb, oR sa, oI 1, oI (Int32.ofNat c2), .val (.int (Int32.ofNat (((own_j3 c1 c2) + 1) % 32))), oI 1] [.int 1])) (fun _ k => XS.ifNo X353.here hx rfl (G d32_51) rfl ((if0 _ _).trans (feq (hzz : ¬ (zx = (0 : Int32)))).1) (XS.iloadN X353.here hx rfl (G d32_54) rfl (XS.ifYes X353.here hx rfl (pc0 := 55) (pc' := 103) rfl (G d32_55) rfl ((if0 _ _).trans (flt ((by decide) : ¬ ((1 : Int32) < (0 : Int32)))).2.1) (by decide) (by decide) (XS.iloadN X353.here hx rfl (G d32_103) rfl k)))) ?_
      exact own_ret X353 hx (t := .int) Bd.returns rfl (Or.inl ⟨rfl, by simp, _, rfl⟩) (G d32_104) hlk (by decide : 0 ≤ _) (by decide : 0 ≤ _) (by rw [e353]; exact ⟨rfl, N, K⟩)
  · have ej : own_sl c2 = own_j3 c1 c2 := by rw [own_j3, if_neg hss]
    rw [show (Int32.ofNat (own_sl c2)) = (Int32.ofNat (own_j3 c1 c2)) from congrArg Int32.ofNat ej]
    refine own_by (S' := (oM T340 m 45 #[oR mb, oR sa, .val (.int (-1 : Int32)), oI (Int32.ofNat c2), .val (.int (Int32.ofNat (own_j3 c1 c2))), oU] [.ref mb])) (fun _ k => XS.aloadN X340.here hx rfl (G d32_44) rfl rfl k) ?_
    obtain ⟨T354, X354, e354, st354⟩ := getF X340 hx hZ hown (host := "") (Or.inl (gw hw 45 rfl)) Via.refl eh2 f_9 (g := (mkF m 45 #[oR mb, oR sa, .val (.int (-1 : Int32)), oI (Int32.ofNat c2), .val (.int (Int32.ofNat (own_j3 c1 c2))), oU] [.ref mb])) rfl rfl (G d32_45)
    refine own_by st354 ?_
    refine own_by (S' := (oM T354 m 59 #[oR mb, oR sa, .val (.int (-1 : Int32)), oI (Int32.ofNat c2), .val (.int (Int32.ofNat (own_j3 c1 c2))), oU] [.ref mb])) (fun _ k => XS.iload X354.here hx rfl (G d32_48) rfl (own_baload X354 hx hZ e354 A_9 (own_nn (by have := hj3; omega)) (v := (.int 2)) (own_at (by have := hj3; omega) (by rw [own_s2get c1 c2 hj3, if_pos rfl])) (g := (mkF m 50 #[oR mb, oR sa, .val (.int (-1 : Int32)), oI (Int32.ofNat c2), .val (.int (Int32.ofNat (own_j3 c1 c2))), oU] [(.int (Int32.ofNat (own_j3 c1 c2))), (.ref (D 9))])) rfl rfl (G d32_50) _ (XS.ifNo X354.here hx rfl (G d32_51) rfl ((if0 _ _).trans (feq ((by decide) : ¬ ((2 : Int32) = (0 : Int32)))).1) (XS.iloadN X354.here hx rfl (G d32_54) rfl (XS.ifNo X354.here hx rfl (G d32_55) rfl ((if0 _ _).trans (tlt ((by decide) : (-1 : Int32) < (0 : Int32))).2.1) (XS.aloadN X354.here hx rfl (G d32_58) rfl rfl k)))))) ?_
    obtain ⟨T355, X355, e355, st355⟩ := getF X354 hx hZ hown (host := "") (Or.inl (gw hw 45 rfl)) Via.refl e354 f_9 (g := (mkF m 59 #[oR mb, oR sa, .val (.int (-1 : Int32)), oI (Int32.ofNat c2), .val (.int (Int32.ofNat (own_j3 c1 c2))), oU] [.ref mb])) rfl rfl (G d32_59)
    refine own_by st355 ?_
    refine own_by (S' := (oM T355 m 70 #[oR mb, oR sa, .val (.int (-1 : Int32)), oI (Int32.ofNat c2), .val (.int (Int32.ofNat (own_j3 c1 c2))), oI 1] [.ref mb])) (fun _ k => XS.iload X355.here hx rfl (G d32_62) rfl (own_baload X355 hx hZ e355 A_9 (own_nn (by have := hj3; omega)) (v := (.int 2)) (own_at (by have := hj3; omega) (by rw [own_s2get c1 c2 hj3, if_pos rfl])) (g := (mkF m 64 #[oR mb, oR sa, .val (.int (-1 : Int32)), oI (Int32.ofNat c2), .val (.int (Int32.ofNat (own_j3 c1 c2))), oU] [(.int (Int32.ofNat (own_j3 c1 c2))), (.ref (D 9))])) rfl rfl (G d32_64) _ (XS.iconst X355.here hx rfl (G d32_65) (XS.isub X355.here hx rfl (G d32_66) rfl (XS.istore X355.here hx rfl (G d32_67) rfl (l' := #[oR mb, oR sa, .val (.int (-1 : Int32)), oI (Int32.ofNat c2), .val (.int (Int32.ofNat (own_j3 c1 c2))), oI 1]) rfl (XS.aloadN X355.here hx rfl (G d32_69) rfl rfl k)))))) ?_
    obtain ⟨T356, X356, e356, st356⟩ := getF X355 hx hZ hown (host := "") (Or.inl (gw hw 26 rfl)) Via.refl e355 f_2 (g := (mkF m 70 #[oR mb, oR sa, .val (.int (-1 : Int32)), oI (Int32.ofNat c2), .val (.int (Int32.ofNat (own_j3 c1 c2))), oI 1] [.ref mb])) rfl rfl (G d32_70)
    refine own_by st356 ?_
    refine own_by (S' := (oM T356 m 84 #[oR mb, oR sa, .val (.int (-1 : Int32)), oI (Int32.ofNat c2), .val (.int (Int32.ofNat (own_j3 c1 c2))), oI 1] [.ref sa, .int 1, .ref mb])) (fun _ k => XS.iload X356.here hx rfl (G d32_73) rfl (own_iaload X356 hx hZ e356 A_2 (by decide) (v := (.int (Int32.ofNat c2))) rfl (g := (mkF m 75 #[oR mb, oR sa, .val (.int (-1 : Int32)), oI (Int32.ofNat c2), .val (.int (Int32.ofNat (own_j3 c1 c2))), oI 1] [.int 1, (.ref (D 2))])) rfl rfl (G d32_75) _ (XS.iloadN X356.here hx rfl (G d32_76) rfl (XS.icmpNo X356.here hx rfl (G d32_77) rfl (teq (rfl : (Int32.ofNat c2) = (Int32.ofNat c2))).2 (XS.aloadN X356.here hx rfl (G d32_80) rfl rfl (XS.iload X356.here hx rfl (G d32_81) rfl (XS.aloadN X356.here hx rfl (G d32_83) rfl rfl k))))))) ?_
    obtain ⟨cq358, q358, q358'⟩ := E_mb.cell
    obtain ⟨_, _, ⟨T358, L358, k358, n358⟩, -, X358, ⟨Lc358, hQ358, l358, y358, z358⟩, st358⟩ := X356.privateBack hx (y := y_35) hown (mvT hZ (gw hw 202 rfl)) (mvT hZ (gw hw 203 rfl)) (own_selP hZ (gw hw 13 rfl) (gw hw 204 rfl) (gw hw 203 rfl) (by decide)) (Cond.privateMethod_at (mvP hZ (gw hw 204 rfl) (args := #[]))) (mvT hZ (gw hw 205 rfl)) (by decide) (backOf (W := 0) (rm_isNamed1 l Z a0 hw [] mb li D LN c1 c2 a1 b1 a2 b2 sa sb z1 cs fo bo T339.heap n0 Zn ⟨E_mb, f_0, f_1, f_2, f_3, f_4, f_5, f_6, f_7, f_8, f_9, f_10, f_11, f_12, f_13, f_14, f_15, f_16, A_0, A_1, A_2, A_3, A_4, A_5, A_6, A_7, A_8, A_9⟩ DI A_li h2 S_a hz hk2.2.1 O ⟨SC, hcs, SF, hfo, SB, EB⟩) hZ (gw hw 205 rfl) (gw hw 14 rfl) (by decide) (by decide)) (g := (mkF m 84 #[oR mb, oR sa, .val (.int (-1 : Int32)), oI (Int32.ofNat c2), .val (.int (Int32.ofNat (own_j3 c1 c2))), oI 1] [.ref sa, .int 1, .ref mb])) rfl (by rw [hml]; rfl) (Steps.refl _) (a := mb) (by rw [e356]; exact q358) q358' (argsL := [.int 1, .ref sa]) (rest := []) (lenOf pd__28ILjava_2flang_2fString_3b_29Z rfl) rfl oZ (G d32_84) (fun _ _ => ⟨rfl, e356, (by decide : 0 + 0 ≤ _), (by decide : 0 + 0 ≤ _)⟩)
    dsimp only [Pt.U, Pt.locs, Pt.cells, Pt.slots] at X358 l358 y358 z358 st358 hQ358
    have X358 := own_recast X358 l358 y358 z358
    obtain ⟨rfl, N358q, eh357⟩ := hQ358
    have N := Fr.app N N358q
    refine own_tr st358 ?_
    refine own_by (S' := (oM T358 m 95 #[oR mb, oR sa, oI 1, oI (Int32.ofNat c2), .val (.int (Int32.ofNat (own_j3 c1 c2))), oI 1] [(.int (Int32.ofNat (own_j3 c1 c2)))])) (fun _ k => XS.ifNo X358.here hx rfl (G d32_87) rfl ((if0 _ _).trans (feq ((by decide) : ¬ ((1 : Int32) = (0 : Int32)))).1) (XS.iload X358.here hx rfl (G d32_90) rfl (XS.istoreN X358.here hx rfl (G d32_92) rfl (l' := #[oR mb, oR sa, oI 1, oI (Int32.ofNat c2), .val (.int (Int32.ofNat (own_j3 c1 c2))), oI 1]) rfl (XS.iload X358.here hx rfl (G d32_93) rfl k)))) ?_
    obtain ⟨_, _, ⟨T360, L360, k360, n360⟩, -, X360, ⟨Lc360, hQ360, l360, y360, z360⟩, st360⟩ := Jvm.LawKit.callS X358 hx (y := y_37) hown (mvT hZ (gw hw 210 rfl)) (mvT hZ (gw hw 211 rfl)) (mvT hZ (gw hw 14 rfl)) (mvT hZ (gw hw 212 rfl)) (by decide) (backOf (W := 0) (rm_next l Z a0 hw [] (own_j3 c1 c2) T339.heap n0 Zn hj3) hZ (gw hw 212 rfl) (gw hw 14 rfl) (by decide) (by decide)) (g := (mkF m 95 #[oR mb, oR sa, oI 1, oI (Int32.ofNat c2), .val (.int (Int32.ofNat (own_j3 c1 c2))), oI 1] [(.int (Int32.ofNat (own_j3 c1 c2)))])) rfl (by rw [hml]; rfl) (argsL := [(.int (Int32.ofNat (own_j3 c1 c2)))]) (rest := []) (lenOf pd__28I_29I rfl) rfl oZ (G d32_95) (fun _ _ => ⟨rfl, eh357, (by decide : 0 + 0 ≤ _), (by decide : 0 + 0 ≤ _)⟩)
    dsimp only [Pt.U, Pt.locs, Pt.cells, Pt.slots] at X360 l360 y360 z360 st360 hQ360
    have X360 := own_recast X360 l360 y360 z360
    obtain ⟨rfl, N360q, eh359⟩ := hQ360
    have N := Fr.app N N360q
    refine own_by st360 ?_
    have hjx : ((own_j3 c1 c2) + 1) % 32 < 32 := Nat.mod_lt _ (by decide)
    obtain ⟨zx, hzx⟩ : ∃ z : Int32, (own_S2 c1 c2)[((own_j3 c1 c2) + 1) % 32]? = some (.int z) := ⟨_, own_s2get c1 c2 hjx⟩
    refine own_by (S' := (oM T360 m 45 #[oR mb, oR sa, oI 1, oI (Int32.ofNat c2), .val (.int (Int32.ofNat (((own_j3 c1 c2) + 1) % 32))), oI 1] [.ref mb])) (fun _ k => XS.istore X360.here hx rfl (G d32_98) rfl (l' := #[oR mb, oR sa, oI 1, oI (Int32.ofNat c2), .val (.int (Int32.ofNat (((own_j3 c1 c2) + 1) % 32))), oI 1]) rfl (XS.goto X360.here hx rfl (pc0 := 100) (pc' := 44) rfl (G d32_100) (by decide) (by decide) (XS.aloadN X360.here hx rfl (G d32_44) rfl rfl k))) ?_
    obtain ⟨T361, X361, e361, st361⟩ := getF X360 hx hZ hown (host := "") (Or.inl (gw hw 45 rfl)) Via.refl eh359 f_9 (g := (mkF m 45 #[oR mb, oR sa, oI 1, oI (Int32.ofNat c2), .val (.int (Int32.ofNat (((own_j3 c1 c2) + 1) % 32))), oI 1] [.ref mb])) rfl rfl (G d32_45)
    refine own_by st361 ?_
    refine own_by (S' := (oM T361 m 51 #[oR mb, oR sa, oI 1, oI (Int32.ofNat c2), .val (.int (Int32.ofNat (((own_j3 c1 c2) + 1) % 32))), oI 1] [.int zx])) (fun _ k => XS.iload X361.here hx rfl (G d32_48) rfl (own_baload X361 hx hZ e361 A_9 (own_nn (by have := hjx; omega)) (v := (.int zx)) (own_at (by have := hjx; omega) hzx) (g := (mkF m 50 #[oR mb, oR sa, oI 1, oI (Int32.ofNat c2), .val (.int (Int32.ofNat (((own_j3 c1 c2) + 1) % 32))), oI 1] [(.int (Int32.ofNat (((own_j3 c1 c2) + 1) % 32))), (.ref (D 9))])) rfl rfl (G d32_50) _ k)) ?_
    by_cases hzz : zx = (0 : Int32)
    · refine own_by (S' := (oM T361 m 104 #[oR mb, oR sa, oI 1, oI (Int32.ofNat c2), .val (.int (Int32.ofNat (((own_j3 c1 c2) + 1) % 32))), oI 1] [.int 1])) (fun _ k => XS.ifYes X361.here hx rfl (pc0 := 51) (pc' := 103) rfl (G d32_51) rfl ((if0 _ _).trans (teq (hzz : zx = (0 : Int32))).1) (by decide) (by decide) (XS.iloadN X361.here hx rfl (G d32_103) rfl k)) ?_
      exact own_ret X361 hx (t := .int) Bd.returns rfl (Or.inl ⟨rfl, by simp, _, rfl⟩) (G d32_104) hlk (by decide : 0 ≤ _) (by decide : 0 ≤ _) (by rw [e361]; exact ⟨rfl, N, K⟩)
    · refine own_by (S' := (oM T361 m 104 #[oR mb, oR sa, oI 1, oI (Int32.ofNat c2), .val (.int (Int32.ofNat (((own_j3 c1 c2) + 1) % 32))), oI 1] [.int 1])) (fun _ k => XS.ifNo X361.here hx rfl (G d32_51) rfl ((if0 _ _).trans (feq (hzz : ¬ (zx = (0 : Int32)))).1) (XS.iloadN X361.here hx rfl (G d32_54) rfl (XS.ifYes X361.here hx rfl (pc0 := 55) (pc' := 103) rfl (G d32_55) rfl ((if0 _ _).trans (flt ((by decide) : ¬ ((1 : Int32) < (0 : Int32)))).2.1) (by decide) (by decide) (XS.iloadN X361.here hx rfl (G d32_103) rfl k)))) ?_
      exact own_ret X361 hx (t := .int) Bd.returns rfl (Or.inl ⟨rfl, by simp, _, rfl⟩) (G d32_104) hlk (by decide : 0 ≤ _) (by decide : 0 ≤ _) (by rw [e361]; exact ⟨rfl, N, K⟩)
theorem d38_0 : oD c_38 0 (.aload_n 0, 1) := by decide +kernel
theorem d38_1 : oD c_38 1 (.getfield 62, 3) := by decide +kernel
theorem d38_4 : oD c_38 4 (.ireturn, 1) := by decide +kernel
theorem pn_38 : plainName "com/example/upright_play/uprightplay/event/Members" = true := by first | (simp [plainName, overriddenIn]; done) | decide +kernel
theorem ef_rm_size (m : MethodId) (x0 : Addr) : entryFrame m #[.ref x0] 1 = mkF m 0 #[oR x0] [] := by first | (simp [entryFrame, mkF, argsToLocals, Value.category]; done) | rfl
def Q_rm_size (Z : State) (mb li : Addr) (D : Nat → Addr) (LN : List Value) (V : Nat → List Value) (h0 : Heap) (n0 : Nat) (v : Option Value) (h : Heap) (L : List Loc) : Prop := v = some (.int 2) ∧ Fr n0 L ∧ h = h0
set_option maxRecDepth 65536 in
set_option maxHeartbeats 40000000 in
theorem rm_size (l : Launch) (Z : State) (a0 : Array Value) (hw : ∀ d ∈ tables_1, d.before a0 Z = true) (ws : List Jvm.Cond) (mb li : Addr) (D : Nat → Addr) (LN : List Value) (V : Nat → List Value) (h0 : Heap) (n0 : Nat) (Zn : n0 ≤ h0.size) (M : OwnM Z h0 mb D V (.ref li) 23 1 2) :
    MetFree l y_38 (head1 (Jvm.Cond.code y_38 c_38 1 (some .int) :: ws) (oQ 0 0 0 0)) (fun a U => a = #[.ref mb] ∧ Z.Warmed39 U.vm ∧ U.heap = h0) (fun _ _ _ _ _ => True) (fun _ U o U' => ∃ v L, o = .returned v ∧ (Q_rm_size Z mb li D LN V h0 n0) v U'.heap L ∧ FrameEnd U o U' L (oQ 0 0 0 0).cells (oQ 0 0 0 0).slots) := by
  refine MetFree.of_bodySF (plainFor_of_name pn_38) hisR ?_
  intro p e s m args below meth c s₁ Bd hml0 hP hK
  obtain ⟨rfl, hZ, hh⟩ := hP
  have hx := Bd.exec
  have G := @oG _ _ Bd.bytes
  have hml : c.maxLocals = 1 := hml0
  have hown : s.vm.findClass "com/example/upright_play/uprightplay/event/Members" = some m.cls := findClass_of_methodNamed Bd.named
  have hnm := (name_of_methodNamed Bd.named Bd.method).1
  have hlk : meth.locks = false := BodyLoose.notSynchronized Bd
  have X0 : Stand p l e (oQ 0 0 0 0) s m #[.ref mb] below meth c s₁ [] 0 0 := Stand.of_body Bd
  have e0 : s₁.heap = h0 := by rw [← hh, Bd.state]; rfl
  have N := Fr.nil n0
  have K := Keep.refl h0 []
  refine own_start (cl := (oQ 0 0 0 0).cells) (sl := (oQ 0 0 0 0).slots) (Q := (Q_rm_size Z mb li D LN V h0 n0)) (ef_rm_size m mb) ?_
  have f_13 := M.2.2.2.2.2.2.2.2.2.2.2.2.2.2.1
  refine own_by (S' := (oM s₁ m 1 #[oR mb] [.ref mb])) (fun _ k => XS.aloadN X0.here hx rfl (G d38_0) rfl rfl k) ?_
  obtain ⟨T362, X362, e362, st362⟩ := getF X0 hx hZ hown (host := "") (Or.inl (gw hw 60 rfl)) Via.refl e0 f_13 (g := (mkF m 1 #[oR mb] [.ref mb])) rfl rfl (G d38_1)
  refine own_by st362 ?_
  exact own_ret X362 hx (t := .int) Bd.returns rfl (Or.inl ⟨rfl, by simp, _, rfl⟩) (G d38_4) hlk (by decide : 0 ≤ _) (by decide : 0 ≤ _) (by rw [e362]; exact ⟨rfl, N, rfl⟩)
def own_t (z : Int32) : Int32 := if z = 116 then 1 else 0
theorem d39_0 : oD c_39 0 (.aload_n 0, 1) := by decide +kernel
theorem d39_1 : oD c_39 1 (.getfield 27, 3) := by decide +kernel
theorem d39_4 : oD c_39 4 (.iload_n 1, 1) := by decide +kernel
theorem d39_5 : oD c_39 5 (.aaload, 1) := by decide +kernel
theorem d39_6 : oD c_39 6 (.areturn, 1) := by decide +kernel
theorem pn_39 : plainName "com/example/upright_play/uprightplay/event/Members" = true := by first | (simp [plainName, overriddenIn]; done) | decide +kernel
theorem ef_rm_type0 (m : MethodId) (x0 : Addr) (x1 : Int32) : entryFrame m #[.ref x0, .int x1] 2 = mkF m 0 #[oR x0, oI x1] [] := by first | (simp [entryFrame, mkF, argsToLocals, Value.category]; done) | rfl
def Q_rm_type0 (Z : State) (mb li : Addr) (D : Nat → Addr) (LN : List Value) (c1 c2 : Nat) (a1 b1 a2 b2 : Int32) (bo : Addr) (h0 : Heap) (n0 : Nat) (v : Option Value) (h : Heap) (L : List Loc) : Prop := v = some (.ref bo) ∧ Fr n0 L ∧ h = h0
set_option maxRecDepth 65536 in
set_option maxHeartbeats 40000000 in
theorem rm_type0 (l : Launch) (Z : State) (a0 : Array Value) (hw : ∀ d ∈ tables_1, d.before a0 Z = true) (ws : List Jvm.Cond) (mb li : Addr) (D : Nat → Addr) (LN : List Value) (c1 c2 : Nat) (a1 b1 a2 b2 : Int32) (bo : Addr) (h0 : Heap) (n0 : Nat) (Zn : n0 ≤ h0.size) (M : OwnM Z h0 mb D (own_V2 c1 c2 a1 b1 a2 b2 bo) (.ref li) 23 1 2) :
    MetFree l y_39 (head1 (Jvm.Cond.code y_39 c_39 2 (some (.object "com/example/upright_play/uprightplay/event/Members$Type")) :: ws) (oQ 0 0 0 0)) (fun a U => a = #[.ref mb, .int 0] ∧ Z.Warmed39 U.vm ∧ U.heap = h0) (fun _ _ _ _ _ => True) (fun _ U o U' => ∃ v L, o = .returned v ∧ (Q_rm_type0 Z mb li D LN c1 c2 a1 b1 a2 b2 bo h0 n0) v U'.heap L ∧ FrameEnd U o U' L (oQ 0 0 0 0).cells (oQ 0 0 0 0).slots) := by
  refine MetFree.of_bodySF (plainFor_of_name pn_39) hisR ?_
  intro p e s m args below meth c s₁ Bd hml0 hP hK
  obtain ⟨rfl, hZ, hh⟩ := hP
  have hx := Bd.exec
  have G := @oG _ _ Bd.bytes
  have hml : c.maxLocals = 2 := hml0
  have hown : s.vm.findClass "com/example/upright_play/uprightplay/event/Members" = some m.cls := findClass_of_methodNamed Bd.named
  have hnm := (name_of_methodNamed Bd.named Bd.method).1
  have hlk : meth.locks = false := BodyLoose.notSynchronized Bd
  have X0 : Stand p l e (oQ 0 0 0 0) s m #[.ref mb, .int 0] below meth c s₁ [] 0 0 := Stand.of_body Bd
  have e0 : s₁.heap = h0 := by rw [← hh, Bd.state]; rfl
  have N := Fr.nil n0
  have K := Keep.refl h0 []
  refine own_start (cl := (oQ 0 0 0 0).cells) (sl := (oQ 0 0 0 0).slots) (Q := (Q_rm_type0 Z mb li D LN c1 c2 a1 b1 a2 b2 bo h0 n0)) (ef_rm_type0 m mb ((0 : Int32))) ?_
  obtain ⟨E_mb, f_0, f_1, f_2, f_3, f_4, f_5, f_6, f_7, f_8, f_9, f_10, f_11, f_12, f_13, f_14, f_15, f_16, A_0, A_1, A_2, A_3, A_4, A_5, A_6, A_7, A_8, A_9⟩ := M
  have A_0 : OwnA Z h0 (D 0) .int [.int 1, .int 12, .int 0, .int 0, .int 0, .int 0, .int 0, .int 0, .int 0, .int 0, .int 0, .int 0, .int 0, .int 0, .int 0, .int 0] := A_0
  have A_1 : OwnA Z h0 (D 1) .int [.int 4, .int 15, .int 0, .int 0, .int 0, .int 0, .int 0, .int 0, .int 0, .int 0, .int 0, .int 0, .int 0, .int 0, .int 0, .int 0] := A_1
  have A_2 : OwnA Z h0 (D 2) .int [.int (Int32.ofNat c1), .int (Int32.ofNat c2), .int 0, .int 0, .int 0, .int 0, .int 0, .int 0, .int 0, .int 0, .int 0, .int 0, .int 0, .int 0, .int 0, .int 0] := A_2
  have A_3 : OwnO Z h0 (D 3) "java/lang/String" [.null, .null, .null, .null, .null, .null, .null, .null, .null, .null, .null, .null, .null, .null, .null, .null] := A_3
  have A_4 : OwnO Z h0 (D 4) "com/example/upright_play/uprightplay/event/Members$Type" [.ref bo, .ref bo, .null, .null, .null, .null, .null, .null, .null, .null, .null, .null, .null, .null, .null, .null] := A_4
  have A_5 : OwnA Z h0 (D 5) .int [.int a1, .int a2, .int 0, .int 0, .int 0, .int 0, .int 0, .int 0, .int 0, .int 0, .int 0, .int 0, .int 0, .int 0, .int 0, .int 0] := A_5
  have A_6 : OwnA Z h0 (D 6) .int [.int b1, .int b2, .int 0, .int 0, .int 0, .int 0, .int 0, .int 0, .int 0, .int 0, .int 0, .int 0, .int 0, .int 0, .int 0, .int 0] := A_6
  have A_7 : OwnA Z h0 (D 7) .int [.int 0, .int 0, .int 0, .int 0, .int 0, .int 0, .int 0, .int 0, .int 0, .int 0, .int 0, .int 0, .int 0, .int 0, .int 0, .int 0] := A_7
  have A_8 : OwnA Z h0 (D 8) .int [.int 0, .int 0, .int 0, .int 0, .int 0, .int 0, .int 0, .int 0, .int 0, .int 0, .int 0, .int 0, .int 0, .int 0, .int 0, .int 0] := A_8
  have A_9 : OwnA Z h0 (D 9) .byte (own_S2 c1 c2) := A_9
  refine own_by (S' := (oM s₁ m 1 #[oR mb, oI 0] [.ref mb])) (fun _ k => XS.aloadN X0.here hx rfl (G d39_0) rfl rfl k) ?_
  obtain ⟨T363, X363, e363, st363⟩ := getF X0 hx hZ hown (host := "") (Or.inl (gw hw 34 rfl)) Via.refl e0 f_4 (g := (mkF m 1 #[oR mb, oI 0] [.ref mb])) rfl rfl (G d39_1)
  refine own_by st363 ?_
  refine own_by (S' := (oM T363 m 6 #[oR mb, oI 0] [.ref bo])) (fun _ k => XS.iloadN X363.here hx rfl (G d39_4) rfl (own_aaload X363 hx hZ e363 A_4.toA rfl (by decide) (v := (.ref bo)) rfl (g := (mkF m 5 #[oR mb, oI 0] [.int 0, (.ref (D 4))])) rfl rfl (G d39_5) _ k)) ?_
  exact own_ret X363 hx (t := (.object "com/example/upright_play/uprightplay/event/Members$Type")) Bd.returns rfl (Or.inr (Or.inr (Or.inr (Or.inr ⟨rfl, rfl, rfl⟩)))) (G d39_6) hlk (by decide : 0 ≤ _) (by decide : 0 ≤ _) (by rw [e363]; exact ⟨rfl, N, rfl⟩)
theorem d40_0 : oD c_40 0 (.aload_n 0, 1) := by decide +kernel
theorem d40_1 : oD c_40 1 (.getfield 47, 3) := by decide +kernel
theorem d40_4 : oD c_40 4 (.aload_n 0, 1) := by decide +kernel
theorem d40_5 : oD c_40 5 (.getfield 31, 3) := by decide +kernel
theorem d40_8 : oD c_40 8 (.iload_n 1, 1) := by decide +kernel
theorem d40_9 : oD c_40 9 (.iaload, 1) := by decide +kernel
theorem d40_10 : oD c_40 10 (.caload, 1) := by decide +kernel
theorem d40_11 : oD c_40 11 (.bipush 116, 2) := by decide +kernel
theorem d40_13 : oD c_40 13 (.if_icmp .ne 7, 3) := by decide +kernel
theorem d40_16 : oD c_40 16 (.iconst 1, 1) := by decide +kernel
theorem d40_17 : oD c_40 17 (.goto 4, 3) := by decide +kernel
theorem d40_20 : oD c_40 20 (.iconst 0, 1) := by decide +kernel
theorem d40_21 : oD c_40 21 (.ireturn, 1) := by decide +kernel
theorem pn_40 : plainName "com/example/upright_play/uprightplay/event/Members" = true := by first | (simp [plainName, overriddenIn]; done) | decide +kernel
theorem ef_rm_bool0 (m : MethodId) (x0 : Addr) (x1 : Int32) : entryFrame m #[.ref x0, .int x1] 2 = mkF m 0 #[oR x0, oI x1] [] := by first | (simp [entryFrame, mkF, argsToLocals, Value.category]; done) | rfl
def Q_rm_bool0 (Z : State) (mb li : Addr) (D : Nat → Addr) (LN : List Value) (c1 c2 : Nat) (a1 b1 a2 b2 : Int32) (bo : Addr) (z1 : Int32) (h0 : Heap) (n0 : Nat) (v : Option Value) (h : Heap) (L : List Loc) : Prop := v = some (.int (own_t z1)) ∧ Fr n0 L ∧ h = h0
set_option maxRecDepth 65536 in
set_option maxHeartbeats 40000000 in
theorem rm_bool0 (l : Launch) (Z : State) (a0 : Array Value) (hw : ∀ d ∈ tables_1, d.before a0 Z = true) (ws : List Jvm.Cond) (mb li : Addr) (D : Nat → Addr) (LN : List Value) (c1 c2 : Nat) (a1 b1 a2 b2 : Int32) (bo : Addr) (z1 : Int32) (h0 : Heap) (n0 : Nat) (Zn : n0 ≤ h0.size) (M : OwnM Z h0 mb D (own_V2 c1 c2 a1 b1 a2 b2 bo) (.ref li) 23 1 2) (DI : own_di n0 mb li D) (A_li : OwnA Z h0 li .char LN) (hn : ¬ a1 < 0) (hz : LN[a1.toNatClampNeg]? = some (.int z1)) :
    MetFree l y_40 (head1 (Jvm.Cond.code y_40 c_40 2 (some .boolean) :: ws) (oQ 0 0 0 0)) (fun a U => a = #[.ref mb, .int 0] ∧ Z.Warmed39 U.vm ∧ U.heap = h0) (fun _ _ _ _ _ => True) (fun _ U o U' => ∃ v L, o = .returned v ∧ (Q_rm_bool0 Z mb li D LN c1 c2 a1 b1 a2 b2 bo z1 h0 n0) v U'.heap L ∧ FrameEnd U o U' L (oQ 0 0 0 0).cells (oQ 0 0 0 0).slots) := by
  refine MetFree.of_bodySF (plainFor_of_name pn_40) hisR ?_
  intro p e s m args below meth c s₁ Bd hml0 hP hK
  obtain ⟨rfl, hZ, hh⟩ := hP
  have hx := Bd.exec
  have G := @oG _ _ Bd.bytes
  have hml : c.maxLocals = 2 := hml0
  have hown : s.vm.findClass "com/example/upright_play/uprightplay/event/Members" = some m.cls := findClass_of_methodNamed Bd.named
  have hnm := (name_of_methodNamed Bd.named Bd.method).1
  have hlk : meth.locks = false := BodyLoose.notSynchronized Bd
  have X0 : Stand p l e (oQ 0 0 0 0) s m #[.ref mb, .int 0] below meth c s₁ [] 0 0 := Stand.of_body Bd
  have e0 : s₁.heap = h0 := by rw [← hh, Bd.state]; rfl
  have N := Fr.nil n0
  have K := Keep.refl h0 []
  refine own_start (cl := (oQ 0 0 0 0).cells) (sl := (oQ 0 0 0 0).slots) (Q := (Q_rm_bool0 Z mb li D LN c1 c2 a1 b1 a2 b2 bo z1 h0 n0)) (ef_rm_bool0 m mb ((0 : Int32))) ?_
  obtain ⟨E_mb, f_0, f_1, f_2, f_3, f_4, f_5, f_6, f_7, f_8, f_9, f_10, f_11, f_12, f_13, f_14, f_15, f_16, A_0, A_1, A_2, A_3, A_4, A_5, A_6, A_7, A_8, A_9⟩ := M
  have A_0 : OwnA Z h0 (D 0) .int [.int 1, .int 12, .int 0, .int 0, .int 0, .int 0, .int 0, .int 0, .int 0, .int 0, .int 0, .int 0, .int 0, .int 0, .int 0, .int 0] := A_0
  have A_1 : OwnA Z h0 (D 1) .int [.int 4, .int 15, .int 0, .int 0, .int 0, .int 0, .int 0, .int 0, .int 0, .int 0, .int 0, .int 0, .int 0, .int 0, .int 0, .int 0] := A_1
  have A_2 : OwnA Z h0 (D 2) .int [.int (Int32.ofNat c1), .int (Int32.ofNat c2), .int 0, .int 0, .int 0, .int 0, .int 0, .int 0, .int 0, .int 0, .int 0, .int 0, .int 0, .int 0, .int 0, .int 0] := A_2
  have A_3 : OwnO Z h0 (D 3) "java/lang/String" [.null, .null, .null, .null, .null, .null, .null, .null, .null, .null, .null, .null, .null, .null, .null, .null] := A_3
  have A_4 : OwnO Z h0 (D 4) "com/example/upright_play/uprightplay/event/Members$Type" [.ref bo, .ref bo, .null, .null, .null, .null, .null, .null, .null, .null, .null, .null, .null, .null, .null, .null] := A_4
  have A_5 : OwnA Z h0 (D 5) .int [.int a1, .int a2, .int 0, .int 0, .int 0, .int 0, .int 0, .int 0, .int 0, .int 0, .int 0, .int 0, .int 0, .int 0, .int 0, .int 0] := A_5
  have A_6 : OwnA Z h0 (D 6) .int [.int b1, .int b2, .int 0, .int 0, .int 0, .int 0, .int 0, .int 0, .int 0, .int 0, .int 0, .int 0, .int 0, .int 0, .int 0, .int 0] := A_6
  have A_7 : OwnA Z h0 (D 7) .int [.int 0, .int 0, .int 0, .int 0, .int 0, .int 0, .int 0, .int 0, .int 0, .int 0, .int 0, .int 0, .int 0, .int 0, .int 0, .int 0] := A_7
  have A_8 : OwnA Z h0 (D 8) .int [.int 0, .int 0, .int 0, .int 0, .int 0, .int 0, .int 0, .int 0, .int 0, .int 0, .int 0, .int 0, .int 0, .int 0, .int 0, .int 0] := A_8
  have A_9 : OwnA Z h0 (D 9) .byte (own_S2 c1 c2) := A_9
  refine own_by (S' := (oM s₁ m 1 #[oR mb, oI 0] [.ref mb])) (fun _ k => XS.aloadN X0.here hx rfl (G d40_0) rfl rfl k) ?_
  obtain ⟨T364, X364, e364, st364⟩ := getF X0 hx hZ hown (host := "") (Or.inl (gw hw 52 rfl)) Via.refl e0 f_10 (g := (mkF m 1 #[oR mb, oI 0] [.ref mb])) rfl rfl (G d40_1)
  refine own_by st364 ?_
  refine own_by (S' := (oM T364 m 5 #[oR mb, oI 0] [.ref mb, .ref li])) (fun _ k => XS.aloadN X364.here hx rfl (G d40_4) rfl rfl k) ?_
  obtain ⟨T365, X365, e365, st365⟩ := getF X364 hx hZ hown (host := "") (Or.inl (gw hw 36 rfl)) Via.refl e364 f_5 (g := (mkF m 5 #[oR mb, oI 0] [.ref mb, .ref li])) rfl rfl (G d40_5)
  refine own_by st365 ?_
  refine own_by (S' := (oM T365 m 13 #[oR mb, oI 0] [.int 116, .int z1])) (fun _ k => XS.iloadN X365.here hx rfl (G d40_8) rfl (own_iaload X365 hx hZ e365 A_5 (by decide) (v := (.int a1)) rfl (g := (mkF m 9 #[oR mb, oI 0] [.int 0, (.ref (D 5)), .ref li])) rfl rfl (G d40_9) _ (own_caload X365 hx hZ e365 A_li hn (v := (.int z1)) hz (g := (mkF m 10 #[oR mb, oI 0] [.int a1, .ref li])) rfl rfl (G d40_10) _ (XS.bipush X365.here hx rfl (G d40_11) k)))) ?_
  by_cases g1 : z1 = (116 : Int32)
  · refine own_by (S' := (oM T365 m 21 #[oR mb, oI 0] [.int 1])) (fun _ k => XS.icmpNo X365.here hx rfl (G d40_13) rfl (teq (g1 : z1 = (116 : Int32))).2 (XS.iconst X365.here hx rfl (G d40_16) (XS.goto X365.here hx rfl (pc0 := 17) (pc' := 21) rfl (G d40_17) (by decide) (by decide) k))) ?_
    exact own_ret X365 hx (t := .boolean) Bd.returns rfl (Or.inl ⟨rfl, by simp, _, rfl⟩) (G d40_21) hlk (by decide : 0 ≤ _) (by decide : 0 ≤ _) (by rw [e365]; exact ⟨by rw [own_t, if_pos g1], N, rfl⟩)
  · refine own_by (S' := (oM T365 m 21 #[oR mb, oI 0] [.int 0])) (fun _ k => XS.icmpYes X365.here hx rfl (pc0 := 13) (pc' := 20) rfl (G d40_13) rfl (feq (g1 : ¬ (z1 = (116 : Int32)))).2 (by decide) (by decide) (XS.iconst X365.here hx rfl (G d40_20) k)) ?_
    exact own_ret X365 hx (t := .boolean) Bd.returns rfl (Or.inl ⟨rfl, by simp, _, rfl⟩) (G d40_21) hlk (by decide : 0 ≤ _) (by decide : 0 ≤ _) (by rw [e365]; exact ⟨by rw [own_t, if_neg g1], N, rfl⟩)
theorem ef_rm_type1 (m : MethodId) (x0 : Addr) (x1 : Int32) : entryFrame m #[.ref x0, .int x1] 2 = mkF m 0 #[oR x0, oI x1] [] := by first | (simp [entryFrame, mkF, argsToLocals, Value.category]; done) | rfl
def Q_rm_type1 (Z : State) (mb li : Addr) (D : Nat → Addr) (LN : List Value) (c1 c2 : Nat) (a1 b1 a2 b2 : Int32) (bo : Addr) (h0 : Heap) (n0 : Nat) (v : Option Value) (h : Heap) (L : List Loc) : Prop := v = some (.ref bo) ∧ Fr n0 L ∧ h = h0
set_option maxRecDepth 65536 in
set_option maxHeartbeats 40000000 in
theorem rm_type1 (l : Launch) (Z : State) (a0 : Array Value) (hw : ∀ d ∈ tables_1, d.before a0 Z = true) (ws : List Jvm.Cond) (mb li : Addr) (D : Nat → Addr) (LN : List Value) (c1 c2 : Nat) (a1 b1 a2 b2 : Int32) (bo : Addr) (h0 : Heap) (n0 : Nat) (Zn : n0 ≤ h0.size) (M : OwnM Z h0 mb D (own_V2 c1 c2 a1 b1 a2 b2 bo) (.ref li) 23 1 2) :
    MetFree l y_39 (head1 (Jvm.Cond.code y_39 c_39 2 (some (.object "com/example/upright_play/uprightplay/event/Members$Type")) :: ws) (oQ 0 0 0 0)) (fun a U => a = #[.ref mb, .int 1] ∧ Z.Warmed39 U.vm ∧ U.heap = h0) (fun _ _ _ _ _ => True) (fun _ U o U' => ∃ v L, o = .returned v ∧ (Q_rm_type1 Z mb li D LN c1 c2 a1 b1 a2 b2 bo h0 n0) v U'.heap L ∧ FrameEnd U o U' L (oQ 0 0 0 0).cells (oQ 0 0 0 0).slots) := by
  refine MetFree.of_bodySF (plainFor_of_name pn_39) hisR ?_
  intro p e s m args below meth c s₁ Bd hml0 hP hK
  obtain ⟨rfl, hZ, hh⟩ := hP
  have hx := Bd.exec
  have G := @oG _ _ Bd.bytes
  have hml : c.maxLocals = 2 := hml0
  have hown : s.vm.findClass "com/example/upright_play/uprightplay/event/Members" = some m.cls := findClass_of_methodNamed Bd.named
  have hnm := (name_of_methodNamed Bd.named Bd.method).1
  have hlk : meth.locks = false := BodyLoose.notSynchronized Bd
  have X0 : Stand p l e (oQ 0 0 0 0) s m #[.ref mb, .int 1] below meth c s₁ [] 0 0 := Stand.of_body Bd
  have e0 : s₁.heap = h0 := by rw [← hh, Bd.state]; rfl
  have N := Fr.nil n0
  have K := Keep.refl h0 []
  refine own_start (cl := (oQ 0 0 0 0).cells) (sl := (oQ 0 0 0 0).slots) (Q := (Q_rm_type1 Z mb li D LN c1 c2 a1 b1 a2 b2 bo h0 n0)) (ef_rm_type1 m mb ((1 : Int32))) ?_
  obtain ⟨E_mb, f_0, f_1, f_2, f_3, f_4, f_5, f_6, f_7, f_8, f_9, f_10, f_11, f_12, f_13, f_14, f_15, f_16, A_0, A_1, A_2, A_3, A_4, A_5, A_6, A_7, A_8, A_9⟩ := M
  have A_0 : OwnA Z h0 (D 0) .int [.int 1, .int 12, .int 0, .int 0, .int 0, .int 0, .int 0, .int 0, .int 0, .int 0, .int 0, .int 0, .int 0, .int 0, .int 0, .int 0] := A_0
  have A_1 : OwnA Z h0 (D 1) .int [.int 4, .int 15, .int 0, .int 0, .int 0, .int 0, .int 0, .int 0, .int 0, .int 0, .int 0, .int 0, .int 0, .int 0, .int 0, .int 0] := A_1
  have A_2 : OwnA Z h0 (D 2) .int [.int (Int32.ofNat c1), .int (Int32.ofNat c2), .int 0, .int 0, .int 0, .int 0, .int 0, .int 0, .int 0, .int 0, .int 0, .int 0, .int 0, .int 0, .int 0, .int 0] := A_2
  have A_3 : OwnO Z h0 (D 3) "java/lang/String" [.null, .null, .null, .null, .null, .null, .null, .null, .null, .null, .null, .null, .null, .null, .null, .null] := A_3
  have A_4 : OwnO Z h0 (D 4) "com/example/upright_play/uprightplay/event/Members$Type" [.ref bo, .ref bo, .null, .null, .null, .null, .null, .null, .null, .null, .null, .null, .null, .null, .null, .null] := A_4
  have A_5 : OwnA Z h0 (D 5) .int [.int a1, .int a2, .int 0, .int 0, .int 0, .int 0, .int 0, .int 0, .int 0, .int 0, .int 0, .int 0, .int 0, .int 0, .int 0, .int 0] := A_5
  have A_6 : OwnA Z h0 (D 6) .int [.int b1, .int b2, .int 0, .int 0, .int 0, .int 0, .int 0, .int 0, .int 0, .int 0, .int 0, .int 0, .int 0, .int 0, .int 0, .int 0] := A_6
  have A_7 : OwnA Z h0 (D 7) .int [.int 0, .int 0, .int 0, .int 0, .int 0, .int 0, .int 0, .int 0, .int 0, .int 0, .int 0, .int 0, .int 0, .int 0, .int 0, .int 0] := A_7
  have A_8 : OwnA Z h0 (D 8) .int [.int 0, .int 0, .int 0, .int 0, .int 0, .int 0, .int 0, .int 0, .int 0, .int 0, .int 0, .int 0, .int 0, .int 0, .int 0, .int 0] := A_8
  have A_9 : OwnA Z h0 (D 9) .byte (own_S2 c1 c2) := A_9
  refine own_by (S' := (oM s₁ m 1 #[oR mb, oI 1] [.ref mb])) (fun _ k => XS.aloadN X0.here hx rfl (G d39_0) rfl rfl k) ?_
  obtain ⟨T366, X366, e366, st366⟩ := getF X0 hx hZ hown (host := "") (Or.inl (gw hw 34 rfl)) Via.refl e0 f_4 (g := (mkF m 1 #[oR mb, oI 1] [.ref mb])) rfl rfl (G d39_1)
  refine own_by st366 ?_
  refine own_by (S' := (oM T366 m 6 #[oR mb, oI 1] [.ref bo])) (fun _ k => XS.iloadN X366.here hx rfl (G d39_4) rfl (own_aaload X366 hx hZ e366 A_4.toA rfl (by decide) (v := (.ref bo)) rfl (g := (mkF m 5 #[oR mb, oI 1] [.int 1, (.ref (D 4))])) rfl rfl (G d39_5) _ k)) ?_
  exact own_ret X366 hx (t := (.object "com/example/upright_play/uprightplay/event/Members$Type")) Bd.returns rfl (Or.inr (Or.inr (Or.inr (Or.inr ⟨rfl, rfl, rfl⟩)))) (G d39_6) hlk (by decide : 0 ≤ _) (by decide : 0 ≤ _) (by rw [e366]; exact ⟨rfl, N, rfl⟩)
theorem ef_rm_bool1 (m : MethodId) (x0 : Addr) (x1 : Int32) : entryFrame m #[.ref x0, .int x1] 2 = mkF m 0 #[oR x0, oI x1] [] := by first | (simp [entryFrame, mkF, argsToLocals, Value.category]; done) | rfl
def Q_rm_bool1 (Z : State) (mb li : Addr) (D : Nat → Addr) (LN : List Value) (c1 c2 : Nat) (a1 b1 a2 b2 : Int32) (bo : Addr) (z1 : Int32) (h0 : Heap) (n0 : Nat) (v : Option Value) (h : Heap) (L : List Loc) : Prop := v = some (.int (own_t z1)) ∧ Fr n0 L ∧ h = h0
set_option maxRecDepth 65536 in
set_option maxHeartbeats 40000000 in
theorem rm_bool1 (l : Launch) (Z : State) (a0 : Array Value) (hw : ∀ d ∈ tables_1, d.before a0 Z = true) (ws : List Jvm.Cond) (mb li : Addr) (D : Nat → Addr) (LN : List Value) (c1 c2 : Nat) (a1 b1 a2 b2 : Int32) (bo : Addr) (z1 : Int32) (h0 : Heap) (n0 : Nat) (Zn : n0 ≤ h0.size) (M : OwnM Z h0 mb D (own_V2 c1 c2 a1 b1 a2 b2 bo) (.ref li) 23 1 2) (DI : own_di n0 mb li D) (A_li : OwnA Z h0 li .char LN) (hn : ¬ a2 < 0) (hz : LN[a2.toNatClampNeg]? = some (.int z1)) :
    MetFree l y_40 (head1 (Jvm.Cond.code y_40 c_40 2 (some .boolean) :: ws) (oQ 0 0 0 0)) (fun a U => a = #[.ref mb, .int 1] ∧ Z.Warmed39 U.vm ∧ U.heap = h0) (fun _ _ _ _ _ => True) (fun _ U o U' => ∃ v L, o = .returned v ∧ (Q_rm_bool1 Z mb li D LN c1 c2 a1 b1 a2 b2 bo z1 h0 n0) v U'.heap L ∧ FrameEnd U o U' L (oQ 0 0 0 0).cells (oQ 0 0 0 0).slots) := by
  refine MetFree.of_bodySF (plainFor_of_name pn_40) hisR ?_
  intro p e s m args below meth c s₁ Bd hml0 hP hK
  obtain ⟨rfl, hZ, hh⟩ := hP
  have hx := Bd.exec
  have G := @oG _ _ Bd.bytes
  have hml : c.maxLocals = 2 := hml0
  have hown : s.vm.findClass "com/example/upright_play/uprightplay/event/Members" = some m.cls := findClass_of_methodNamed Bd.named
  have hnm := (name_of_methodNamed Bd.named Bd.method).1
  have hlk : meth.locks = false := BodyLoose.notSynchronized Bd
  have X0 : Stand p l e (oQ 0 0 0 0) s m #[.ref mb, .int 1] below meth c s₁ [] 0 0 := Stand.of_body Bd
  have e0 : s₁.heap = h0 := by rw [← hh, Bd.state]; rfl
  have N := Fr.nil n0
  have K := Keep.refl h0 []
  refine own_start (cl := (oQ 0 0 0 0).cells) (sl := (oQ 0 0 0 0).slots) (Q := (Q_rm_bool1 Z mb li D LN c1 c2 a1 b1 a2 b2 bo z1 h0 n0)) (ef_rm_bool1 m mb ((1 : Int32))) ?_
  obtain ⟨E_mb, f_0, f_1, f_2, f_3, f_4, f_5, f_6, f_7, f_8, f_9, f_10, f_11, f_12, f_13, f_14, f_15, f_16, A_0, A_1, A_2, A_3, A_4, A_5, A_6, A_7, A_8, A_9⟩ := M
  have A_0 : OwnA Z h0 (D 0) .int [.int 1, .int 12, .int 0, .int 0, .int 0, .int 0, .int 0, .int 0, .int 0, .int 0, .int 0, .int 0, .int 0, .int 0, .int 0, .int 0] := A_0
  have A_1 : OwnA Z h0 (D 1) .int [.int 4, .int 15, .int 0, .int 0, .int 0, .int 0, .int 0, .int 0, .int 0, .int 0, .int 0, .int 0, .int 0, .int 0, .int 0, .int 0] := A_1
  have A_2 : OwnA Z h0 (D 2) .int [.int (Int32.ofNat c1), .int (Int32.ofNat c2), .int 0, .int 0, .int 0, .int 0, .int 0, .int 0, .int 0, .int 0, .int 0, .int 0, .int 0, .int 0, .int 0, .int 0] := A_2
  have A_3 : OwnO Z h0 (D 3) "java/lang/String" [.null, .null, .null, .null, .null, .null, .null, .null, .null, .null, .null, .null, .null, .null, .null, .null] := A_3
  have A_4 : OwnO Z h0 (D 4) "com/example/upright_play/uprightplay/event/Members$Type" [.ref bo, .ref bo, .null, .null, .null, .null, .null, .null, .null, .null, .null, .null, .null, .null, .null, .null] := A_4
  have A_5 : OwnA Z h0 (D 5) .int [.int a1, .int a2, .int 0, .int 0, .int 0, .int 0, .int 0, .int 0, .int 0, .int 0, .int 0, .int 0, .int 0, .int 0, .int 0, .int 0] := A_5
  have A_6 : OwnA Z h0 (D 6) .int [.int b1, .int b2, .int 0, .int 0, .int 0, .int 0, .int 0, .int 0, .int 0, .int 0, .int 0, .int 0, .int 0, .int 0, .int 0, .int 0] := A_6
  have A_7 : OwnA Z h0 (D 7) .int [.int 0, .int 0, .int 0, .int 0, .int 0, .int 0, .int 0, .int 0, .int 0, .int 0, .int 0, .int 0, .int 0, .int 0, .int 0, .int 0] := A_7
  have A_8 : OwnA Z h0 (D 8) .int [.int 0, .int 0, .int 0, .int 0, .int 0, .int 0, .int 0, .int 0, .int 0, .int 0, .int 0, .int 0, .int 0, .int 0, .int 0, .int 0] := A_8
  have A_9 : OwnA Z h0 (D 9) .byte (own_S2 c1 c2) := A_9
  refine own_by (S' := (oM s₁ m 1 #[oR mb, oI 1] [.ref mb])) (fun _ k => XS.aloadN X0.here hx rfl (G d40_0) rfl rfl k) ?_
  obtain ⟨T367, X367, e367, st367⟩ := getF X0 hx hZ hown (host := "") (Or.inl (gw hw 52 rfl)) Via.refl e0 f_10 (g := (mkF m 1 #[oR mb, oI 1] [.ref mb])) rfl rfl (G d40_1)
  refine own_by st367 ?_
  refine own_by (S' := (oM T367 m 5 #[oR mb, oI 1] [.ref mb, .ref li])) (fun _ k => XS.aloadN X367.here hx rfl (G d40_4) rfl rfl k) ?_
  obtain ⟨T368, X368, e368, st368⟩ := getF X367 hx hZ hown (host := "") (Or.inl (gw hw 36 rfl)) Via.refl e367 f_5 (g := (mkF m 5 #[oR mb, oI 1] [.ref mb, .ref li])) rfl rfl (G d40_5)
  refine own_by st368 ?_
  refine own_by (S' := (oM T368 m 13 #[oR mb, oI 1] [.int 116, .int z1])) (fun _ k => XS.iloadN X368.here hx rfl (G d40_8) rfl (own_iaload X368 hx hZ e368 A_5 (by decide) (v := (.int a2)) rfl (g := (mkF m 9 #[oR mb, oI 1] [.int 1, (.ref (D 5)), .ref li])) rfl rfl (G d40_9) _ (own_caload X368 hx hZ e368 A_li hn (v := (.int z1)) hz (g := (mkF m 10 #[oR mb, oI 1] [.int a2, .ref li])) rfl rfl (G d40_10) _ (XS.bipush X368.here hx rfl (G d40_11) k)))) ?_
  by_cases g1 : z1 = (116 : Int32)
  · refine own_by (S' := (oM T368 m 21 #[oR mb, oI 1] [.int 1])) (fun _ k => XS.icmpNo X368.here hx rfl (G d40_13) rfl (teq (g1 : z1 = (116 : Int32))).2 (XS.iconst X368.here hx rfl (G d40_16) (XS.goto X368.here hx rfl (pc0 := 17) (pc' := 21) rfl (G d40_17) (by decide) (by decide) k))) ?_
    exact own_ret X368 hx (t := .boolean) Bd.returns rfl (Or.inl ⟨rfl, by simp, _, rfl⟩) (G d40_21) hlk (by decide : 0 ≤ _) (by decide : 0 ≤ _) (by rw [e368]; exact ⟨by rw [own_t, if_pos g1], N, rfl⟩)
  · refine own_by (S' := (oM T368 m 21 #[oR mb, oI 1] [.int 0])) (fun _ k => XS.icmpYes X368.here hx rfl (pc0 := 13) (pc' := 20) rfl (G d40_13) rfl (feq (g1 : ¬ (z1 = (116 : Int32)))).2 (by decide) (by decide) (XS.iconst X368.here hx rfl (G d40_20) k)) ?_
    exact own_ret X368 hx (t := .boolean) Bd.returns rfl (Or.inl ⟨rfl, by simp, _, rfl⟩) (G d40_21) hlk (by decide : 0 ≤ _) (by decide : 0 ≤ _) (by rw [e368]; exact ⟨by rw [own_t, if_neg g1], N, rfl⟩)
section OwnW
variable {p : Program} {l : Launch} {e : Env} {R : Room} {s : State} {m : MethodId} {args a0 : Array Value} {below : List Frame} {meth : Method} {c : Code} {T : State} {locs : List Loc} {cells slots : Nat} {Z : State} {h h' : Heap} {a b : Addr} {ty : FieldType} {vs : List Value} {v : Value} {sl : Nat} {vm0 vm1 : Vm} {Ts Ts' : List String}
def own_ix (t : String) : Nat := if t = "true" then 208 else 217
def own_tx (t : String) : List Value := if t = "true" then [.int 116, .int 114, .int 117, .int 101] else [.int 102, .int 97, .int 108, .int 115, .int 101]
/-- the texts loaded since the start, and what stands for them -/
def own_tab (Z : State) (vm : Vm) (h : Heap) (Ts : List String) : Prop := IB Z vm Ts ∧ ∀ t ∈ Ts, ∃ a b, Lit (Z.setVm vm) "com/example/upright_play/uprightplay/event/Members" (own_ix t) a ∧ own_str Z h a b (own_tx t)
theorem own_txlen (t : String) : (own_tx t).length ≤ 5 := by unfold own_tx; split <;> decide
theorem own_tab_warm (B : own_tab Z vm0 h Ts) (W : (s.setVm vm0).WarmedH vm1) : own_tab Z vm1 h Ts := by
  obtain ⟨⟨more, h1, h2⟩, h3⟩ := B
  refine ⟨⟨more, by rw [W.interned_eq]; exact h1, h2⟩, fun t ht => ?_⟩
  obtain ⟨a, b, L, S⟩ := h3 t ht
  exact ⟨a, b, Lit.stays (s := s) (vm0 := vm0) L W.wide, S⟩
theorem own_tab_ext (B : own_tab Z vm0 h Ts) (E : Ext h h') : own_tab Z vm0 h' Ts := ⟨B.1, fun t ht => by obtain ⟨a, b, L, S⟩ := B.2 t ht; exact ⟨a, b, L, own_str_ext S E⟩⟩
def own_for (Z : State) (h : Heap) (x : Addr) : Prop := ∀ a b vs, own_str Z h a b vs → vs.length ≤ 5 → a ≠ x ∧ b ≠ x
theorem own_tab_wr {x : Addr} (B : own_tab Z vm0 h Ts) (W : Wr h h' x sl v) (q : own_for Z h x) : own_tab Z vm0 h' Ts := ⟨B.1, fun t ht => by
  obtain ⟨a, b, L, S⟩ := B.2 t ht
  obtain ⟨q1, q2⟩ := q a b _ S (own_txlen t)
  exact ⟨a, b, L, own_str_wr S W q1 q2⟩⟩
theorem own_tab_keep {ws : List Addr} (B : own_tab Z vm0 h Ts) (K : Keep h h' ws) (q : ∀ x ∈ ws, own_for Z h x) : own_tab Z vm0 h' Ts := ⟨B.1, fun t ht => by
  obtain ⟨a, b, L, S⟩ := B.2 t ht
  exact ⟨a, b, L, own_str_keep S K (fun z => (q a z a b _ S (own_txlen t)).1 rfl) (fun z => (q b z a b _ S (own_txlen t)).2 rfl)⟩⟩
theorem own_forE {n : Nat} {x : Addr} {C : String} (w : (Cond.instantiable C n).before a0 Z = true) (hC : "java/lang/String" ≠ C) (E : Exa Z h x C) : own_for Z h x := fun a b vs S _ => ⟨Exa.ne S.1 E hC, own_strne0 w E S.2.2.2⟩
theorem own_forA {n : Nat} {x : Addr} {ws : List Value} (w : (Cond.instantiable "java/lang/String" n).before a0 Z = true) (F : OwnA Z h x ty ws) (hl : 5 < ws.length) : own_for Z h x := fun a b vs S hv => ⟨Ne.symm (own_strne0 w S.1 F), fun q => by
  subst q
  obtain ⟨c1, A1, r1⟩ := F
  obtain ⟨c2, A2, r2⟩ := S.2.2.2
  cases A1.1.symm.trans A2.1
  rw [← r1, r2] at hl
  omega⟩
theorem own_M_for {mb : Addr} {D : Nat → Addr} {V : Nat → List Value} {lv : Value} {len cnt : Int32} {lnr : Int64} (w : (Cond.instantiable "com/example/upright_play/uprightplay/event/Members" 18).before a0 Z = true) (w' : (Cond.instantiable "java/lang/String" 4).before a0 Z = true) (M : OwnM Z h mb D V lv len lnr cnt) (hV : ∀ i, i < 10 → 5 < (V i).length) : ∀ x ∈ (mb :: [D 0, D 1, D 2, D 3, D 4, D 5, D 6, D 7, D 8, D 9] : List Addr), own_for Z h x := by
  obtain ⟨E, F0, F1, F2, F3, F4, F5, F6, F7, F8, F9, F10, F11, F12, F13, F14, F15, F16, A0, A1, A2, A3, A4, A5, A6, A7, A8, A9⟩ := M
  exact allS (own_forE w (by decide) E) (allS (own_forA w' A0 (hV 0 (by decide))) (allS (own_forA w' A1 (hV 1 (by decide))) (allS (own_forA w' A2 (hV 2 (by decide))) (allS (own_forA w' A3.toA (hV 3 (by decide))) (allS (own_forA w' A4.toA (hV 4 (by decide))) (allS (own_forA w' A5 (hV 5 (by decide))) (allS (own_forA w' A6 (hV 6 (by decide))) (allS (own_forA w' A7 (hV 7 (by decide))) (allS (own_forA w' A8 (hV 8 (by decide))) (allS (own_forA w' A9 (hV 9 (by decide))) all0))))))))))
theorem own_since0 (s : State) : s.Since s.vm 0 := ⟨State.Warmed39.refl s, fun j q hj hp => absurd (Array.getElem?_eq_some_iff.mp hp).1 (Nat.not_lt.mpr hj)⟩
theorem own_arv {k : ClassId} {z : Int32} {d : Value} (A : Arv Z h b k ty z vs d) (hl : z.toNatClampNeg = vs.length) : OwnA Z h b ty vs := by
  obtain ⟨c, h1, -, h3, -, h5, -⟩ := A
  refine ⟨c, h1, List.ext_getElem? fun j => ?_⟩
  rw [Array.getElem?_toList]
  by_cases q : j < c.slots.size
  · rw [h5 j q, List.getD_eq_getElem?_getD, List.getElem?_eq_getElem (by omega)]; rfl
  · rw [Array.getElem?_eq_none (by omega), List.getElem?_eq_none (by omega)]
/-- the end of a run that may have loaded constants -/
def own_finW (p : Program) (e : Env) (below : List Frame) (s : State) (cl sl : Nat) (Z : State) (Ts : List String) (Q : Option Value → Heap → List Loc → Prop) (S : State) : Prop :=
  ∃ s₂ o, Steps p.tables e below S s₂ ∧ s₂.status = .running ∧ Ended s₂ below o ∧ ∃ v L, o = .returned v ∧ Q v s₂.heap L ∧ own_tab Z s₂.vm s₂.heap Ts ∧ ReturnedEndW s o s₂ L cl sl
theorem own_byW {cl sl : Nat} {Q : Option Value → Heap → List Loc → Prop} {S S' : State} (st : ∀ target, Steps p.tables e below S' target → Steps p.tables e below S target) (k : own_finW p e below s cl sl Z Ts Q S') : own_finW p e below s cl sl Z Ts Q S := by
  obtain ⟨s2, o, h1, h2⟩ := k
  exact ⟨s2, o, st _ h1, h2⟩
theorem own_trW {cl sl : Nat} {Q : Option Value → Heap → List Loc → Prop} {S S' : State} (st : Steps p.tables e below S S') (k : own_finW p e below s cl sl Z Ts Q S') : own_finW p e below s cl sl Z Ts Q S := by
  obtain ⟨s2, o, h1, h2⟩ := k
  exact ⟨s2, o, st.trans h1, h2⟩
theorem own_startW {cl sl : Nat} {Q : Option Value → Heap → List Loc → Prop} {s₁ : State} {mx : Nat} {g : JFrame} (q : entryFrame m args mx = g) (k : own_finW p e below s cl sl Z Ts Q (s₁.setTop g)) :
    ∃ s₂ o, Steps p.tables e below (s₁.setTop (entryFrame m args mx)) s₂ ∧ s₂.status = .running ∧ Ended s₂ below o ∧ ∃ v L, o = .returned v ∧ Q v s₂.heap L ∧ own_tab Z s₂.vm s₂.heap Ts ∧ ReturnedEndW s o s₂ L cl sl := by
  rw [q]; exact k
theorem own_retW (X : Stand p l e R (s.setVm vm0) m args below meth c T locs cells slots) (hx : p.tables.exec = Jvm.exec) {k0 : Nat} (hS : s.Since vm0 k0) (eT : T.heap = h) (hk : k0 ≤ h.size) (B : own_tab Z vm0 h Ts) {cl sl : Nat} {Q : Option Value → Heap → List Loc → Prop} {pc : Nat} {Ls : Array Slot} {w : Value} {t : FieldType} {i : Instr} {rest : List Value} (hret : meth.sig.returnType = some t) (hn : narrow t w = w)
    (hi : (i = .ireturn ∧ (t = .int ∨ t = .boolean ∨ t = .byte ∨ t = .char ∨ t = .short) ∧ ∃ z, w = .int z) ∨ (i = .lreturn ∧ t = .long ∧ ∃ z, w = .long z) ∨ (i = .dreturn ∧ t = .double ∧ ∃ z, w = .double z) ∨ (i = .freturn ∧ t = .float ∧ ∃ z, w = .float z) ∨ (i = .areturn ∧ t.isReference = true ∧ w.isRef = true))
    (hd : decode c.code pc = .ok (i, 1)) (hlk : meth.locks = false) (hc : cells ≤ cl) (hs : slots ≤ sl) (q : Q (some w) h locs) : own_finW p e below s cl sl Z Ts Q (T.setTop (mkF m pc Ls (w :: rest))) := by
  subst eT
  obtain ⟨fs, hr, hrun, hended, h1, h2, h3, h4⟩ := X.leaveW hS hk (v := some w) (fun h => by rw [hret] at h; cases h) hlk
  exact ⟨_, _, retOut X hx hret hn hi hd hr, hrun, hended, _, _, rfl, q, own_tab_warm B X.warmed, h1, h2, h3, h4.mono hc hs⟩
theorem own_ret0W (X : Stand p l e R (s.setVm vm0) m args below meth c T locs cells slots) (hx : p.tables.exec = Jvm.exec) {k0 : Nat} (hS : s.Since vm0 k0) (eT : T.heap = h) (hk : k0 ≤ h.size) (B : own_tab Z vm0 h Ts) {cl sl : Nat} {Q : Option Value → Heap → List Loc → Prop} {pc : Nat} {Ls : Array Slot} (hret : meth.sig.returnType = none)
    (hd : decode c.code pc = .ok (.return_, 1)) (hlk : meth.locks = false) (hc : cells ≤ cl) (hs : slots ≤ sl) (q : Q none h locs) : own_finW p e below s cl sl Z Ts Q (T.setTop (mkF m pc Ls [])) := by
  subst eT
  obtain ⟨fs, hr, hrun, hended, h1, h2, h3, h4⟩ := X.leaveW hS hk (v := none) (fun _ => rfl) hlk
  exact ⟨_, _, X.returnOut hx hret hd hr, hrun, hended, _, _, rfl, q, own_tab_warm B X.warmed, h1, h2, h3, h4.mono hc hs⟩
theorem own_backS {y : MethodName} {bytes : ByteArray} {maxL : Nat} {ret : Option FieldType} {rm : Room} {len W : Nat} {as' : Array Value} {Q : Option Value → Heap → List Loc → Prop}
    (hM : MetFree l y (head1 [Cond.code y bytes maxL ret] rm) (fun a U => a = as' ∧ Z.Warmed39 U.vm ∧ U.heap = h ∧ own_tab Z U.vm h Ts) (fun _ _ _ _ _ => True) (fun _ U o U' => ∃ v L, o = .returned v ∧ Q v U'.heap L ∧ own_tab Z U'.vm U'.heap Ts' ∧ ReturnedEndW U o U' L rm.cells rm.slots))
    (hZ : Z.Warmed39 s.vm) (wc : (Cond.code y bytes maxL ret).before a0 Z = true) (wz : (Cond.initialized y.cls).before a0 Z = true) (hf : rm.frames + 1 ≤ R.frames) (hl : W + (maxL + 11) + rm.locals ≤ R.locals) :
    BackS l R p e below s args y len W (fun A a => a = as' ∧ A.U.heap = h ∧ own_tab Z A.U.vm h Ts ∧ A.cells + rm.cells ≤ R.cells ∧ A.slots + rm.slots ≤ R.slots)
      (fun A _ v B => ∃ L, Q v B.U.heap L ∧ own_tab Z B.U.vm B.U.heap Ts' ∧ B.locs = A.locs ++ L ∧ B.cells = A.cells + rm.cells ∧ B.slots = A.slots + rm.slots) :=
  BackS.of_freeW (bytes := bytes) (maxL := maxL) (ret := ret) (E := fun _ _ o t L k n => k = rm.cells ∧ n = rm.slots ∧ own_tab Z t.vm t.heap Ts' ∧ ∃ v, o = .returned v ∧ Q v t.heap L) hM hf hl
    (fun m meth c A a Y hp => have hU : Z.Warmed39 A.U.vm := wtrans hZ Y.warmed
      ⟨by show (Cond.and _ .tt).before a A.U = true; rw [Cond.before_and, mv hU wc]; rfl, mv hU wc, mv hU wz, hp.2.2.2.1, hp.2.2.2.2⟩)
    (fun m meth c A a g mk Y hp => ⟨hp.1, wtrans hZ Y.warmed, hp.2.1, hp.2.2.1⟩) (fun _ _ _ _ _ _ _ _ _ => trivial)
    (fun _ _ _ _ ⟨v, L, h1, h2, h3, h4⟩ => ⟨L, _, _, h4, rfl, rfl, h3, v, h1, h2⟩)
    (fun m meth c A a g mk v t L k n Y hp _ _ ⟨e1, e2, e5, v', e3, e4⟩ => by cases e3; subst e1 e2; exact ⟨L, e4, e5, rfl, rfl, rfl⟩)
theorem own_tab_in {t : String} (B : own_tab Z vm0 h Ts) (ht : t ∈ Ts) : own_tab Z vm0 h (t :: Ts) := by
  obtain ⟨⟨more, h1, h2⟩, h3⟩ := B
  refine ⟨⟨more, h1, fun q hq => by obtain ⟨u, hu, e⟩ := h2 q hq; exact ⟨u, List.mem_cons_of_mem _ hu, e⟩⟩, fun u hu => ?_⟩
  rcases List.mem_cons.mp hu with rfl | hu
  · exact h3 _ ht
  · exact h3 _ hu
theorem own_tab_new {t : String} (B : own_tab Z s.vm h Ts) (I : IB Z vm1 (t :: Ts)) (W : s.Warmed39 vm1) (E : Ext h h') (L : Lit (Z.setVm vm1) "com/example/upright_play/uprightplay/event/Members" (own_ix t) a) (S : own_str Z h' a b (own_tx t)) : own_tab Z vm1 h' (t :: Ts) := by
  refine ⟨I, fun u hu => ?_⟩
  rcases List.mem_cons.mp hu with rfl | hu
  · exact ⟨a, b, L, S⟩
  · obtain ⟨a', b', L', S'⟩ := B.2 u hu
    exact ⟨a', b', Lit.stays (s := s) (vm0 := s.vm) L' W, own_str_ext S' E⟩
end OwnW
theorem own_V0len  : ∀ i, i < 10 → 5 < (own_V0  i).length := fun i hi => by
  match i, hi with
  | 0, _ => exact Nat.le_of_ble_eq_true rfl
  | 1, _ => exact Nat.le_of_ble_eq_true rfl
  | 2, _ => exact Nat.le_of_ble_eq_true rfl
  | 3, _ => exact Nat.le_of_ble_eq_true rfl
  | 4, _ => exact Nat.le_of_ble_eq_true rfl
  | 5, _ => exact Nat.le_of_ble_eq_true rfl
  | 6, _ => exact Nat.le_of_ble_eq_true rfl
  | 7, _ => exact Nat.le_of_ble_eq_true rfl
  | 8, _ => exact Nat.le_of_ble_eq_true rfl
  | 9, _ => exact Nat.le_of_ble_eq_true rfl
theorem own_V1len (c1 : Nat) (a1 b1 : Int32) (bo : Addr) : ∀ i, i < 10 → 5 < (own_V1 c1 a1 b1 bo i).length := fun i hi => by
  match i, hi with
  | 0, _ => exact Nat.le_of_ble_eq_true rfl
  | 1, _ => exact Nat.le_of_ble_eq_true rfl
  | 2, _ => exact Nat.le_of_ble_eq_true rfl
  | 3, _ => exact Nat.le_of_ble_eq_true rfl
  | 4, _ => exact Nat.le_of_ble_eq_true rfl
  | 5, _ => exact Nat.le_of_ble_eq_true rfl
  | 6, _ => exact Nat.le_of_ble_eq_true rfl
  | 7, _ => exact Nat.le_of_ble_eq_true rfl
  | 8, _ => exact Nat.le_of_ble_eq_true rfl
  | 9, _ => show 5 < (own_S1 c1).length; rw [own_s1len]; decide
theorem own_wS {Z : State} {a0 : Array Value} (hw : ∀ d ∈ tables_1, d.before a0 Z = true) : ∀ a ∈ Bundle.stringAtoms, a.before a0 Z = true := fun a ha => by
  simp only [Bundle.stringAtoms, List.mem_cons, List.not_mem_nil, or_false] at ha
  rcases ha with rfl | rfl | rfl | rfl | rfl | rfl | rfl
  · exact (gw hw 97 rfl)
  · exact (gw hw 98 rfl)
  · exact (gw hw 44 rfl)
  · exact (gw hw 99 rfl)
  · exact (gw hw 100 rfl)
  · exact (gw hw 101 rfl)
  · exact (gw hw 102 rfl)
def own_wd (LN : List Value) (p1 q1 : Nat) (t : String) : Prop := p1 < q1 ∧ q1 < 23 ∧ (∃ cz : Int32, LN[q1]? = some (.int cz) ∧ (cz = 32 ∨ cz = 44 ∨ cz = 125)) ∧ ((t = "true" ∧ q1 = p1 + 4 ∧ LN[p1 + 0]? = some (.int 116) ∧ LN[p1 + 1]? = some (.int 114) ∧ LN[p1 + 2]? = some (.int 117) ∧ LN[p1 + 3]? = some (.int 101)) ∨ (t = "false" ∧ q1 = p1 + 5 ∧ LN[p1 + 0]? = some (.int 102) ∧ LN[p1 + 1]? = some (.int 97) ∧ LN[p1 + 2]? = some (.int 108) ∧ LN[p1 + 3]? = some (.int 115) ∧ LN[p1 + 4]? = some (.int 101)))
theorem d14_0 : oD c_14 0 (.aload_n 0, 1) := by decide +kernel
theorem d14_1 : oD c_14 1 (.getfield 59, 3) := by decide +kernel
theorem d14_4 : oD c_14 4 (.aload_n 0, 1) := by decide +kernel
theorem d14_5 : oD c_14 5 (.getfield 51, 3) := by decide +kernel
theorem d14_8 : oD c_14 8 (.if_icmp .ge 15, 3) := by decide +kernel
theorem d14_11 : oD c_14 11 (.aload_n 0, 1) := by decide +kernel
theorem d14_12 : oD c_14 12 (.getfield 47, 3) := by decide +kernel
theorem d14_15 : oD c_14 15 (.aload_n 0, 1) := by decide +kernel
theorem d14_16 : oD c_14 16 (.getfield 59, 3) := by decide +kernel
theorem d14_19 : oD c_14 19 (.caload, 1) := by decide +kernel
theorem d14_20 : oD c_14 20 (.goto 4, 3) := by decide +kernel
theorem d14_24 : oD c_14 24 (.istore_n 2, 1) := by decide +kernel
theorem d14_25 : oD c_14 25 (.iload_n 2, 1) := by decide +kernel
theorem d14_26 : oD c_14 26 (.bipush 34, 2) := by decide +kernel
theorem d14_28 : oD c_14 28 (.if_icmp .ne 15, 3) := by decide +kernel
theorem d14_43 : oD c_14 43 (.iload_n 2, 1) := by decide +kernel
theorem d14_44 : oD c_14 44 (.bipush 123, 2) := by decide +kernel
theorem d14_46 : oD c_14 46 (.if_icmp .ne 19, 3) := by decide +kernel
theorem d14_65 : oD c_14 65 (.iload_n 2, 1) := by decide +kernel
theorem d14_66 : oD c_14 66 (.bipush 91, 2) := by decide +kernel
theorem d14_68 : oD c_14 68 (.if_icmp .ne 19, 3) := by decide +kernel
theorem d14_87 : oD c_14 87 (.iload_n 2, 1) := by decide +kernel
theorem d14_88 : oD c_14 88 (.bipush 116, 2) := by decide +kernel
theorem d14_90 : oD c_14 90 (.if_icmp .ne 16, 3) := by decide +kernel
theorem d14_93 : oD c_14 93 (.aload_n 0, 1) := by decide +kernel
theorem d14_94 : oD c_14 94 (.ldc 208, 2) := by decide +kernel
theorem d14_96 : oD c_14 96 (.invokevirtual 210, 3) := by decide +kernel
theorem d14_99 : oD c_14 99 (.getstatic 214, 3) := by decide +kernel
theorem d14_102 : oD c_14 102 (.astore_n 3, 1) := by decide +kernel
theorem d14_103 : oD c_14 103 (.goto 49, 3) := by decide +kernel
theorem d14_106 : oD c_14 106 (.iload_n 2, 1) := by decide +kernel
theorem d14_107 : oD c_14 107 (.bipush 102, 2) := by decide +kernel
theorem d14_109 : oD c_14 109 (.if_icmp .ne 16, 3) := by decide +kernel
theorem d14_112 : oD c_14 112 (.aload_n 0, 1) := by decide +kernel
theorem d14_113 : oD c_14 113 (.ldc 217, 2) := by decide +kernel
theorem d14_115 : oD c_14 115 (.invokevirtual 210, 3) := by decide +kernel
theorem d14_118 : oD c_14 118 (.getstatic 214, 3) := by decide +kernel
theorem d14_121 : oD c_14 121 (.astore_n 3, 1) := by decide +kernel
theorem d14_122 : oD c_14 122 (.goto 30, 3) := by decide +kernel
theorem d14_152 : oD c_14 152 (.aload_n 3, 1) := by decide +kernel
theorem d14_153 : oD c_14 153 (.areturn, 1) := by decide +kernel
theorem pn_14 : plainName "com/example/upright_play/uprightplay/event/Members" = true := by first | (simp [plainName, overriddenIn]; done) | decide +kernel
theorem ef_rm_val_true (m : MethodId) (x0 : Addr) (x1 : Int32) : entryFrame m #[.ref x0, .int x1] 4 = mkF m 0 #[oR x0, oI x1, oU, oU] [] := by first | (simp [entryFrame, mkF, argsToLocals, Value.category]; done) | rfl
def Q_rm_val_true (Z : State) (mb li : Addr) (LN : List Value) (p1 : Nat) (cz : Int32) (Ts : List String) (cs : Int32) (fo : Value) (bo : Addr) (h0 : Heap) (n0 : Nat) (v : Option Value) (h : Heap) (L : List Loc) : Prop := v = some (.ref bo) ∧ Fr n0 L ∧ ∃ h1, Ext h0 h1 ∧ Wr h1 h mb (Jvm.RoadKit.slotOf Z "com/example/upright_play/uprightplay/event/Members" "pos" "I") (.int (Int32.ofNat (p1 + 4)))
theorem pd__28Ljava_2flang_2fString_3b_29V : parseMethodDescriptor "(Ljava/lang/String;)V" = some ⟨[(.object "java/lang/String")], none⟩ := by decide +kernel
set_option maxRecDepth 65536 in
set_option maxHeartbeats 40000000 in
theorem rm_val_true (l : Launch) (Z : State) (a0 : Array Value) (hw : ∀ d ∈ tables_1, d.before a0 Z = true) (ws : List Jvm.Cond) (mb li : Addr) (LN : List Value) (p1 : Nat) (cz : Int32) (Ts : List String) (cs : Int32) (fo : Value) (bo : Addr) (h0 : Heap) (n0 : Nat) (Zn : n0 ≤ h0.size) (E_mb : Exa Z h0 mb "com/example/upright_play/uprightplay/event/Members") (f_17 : Fld Z h0 mb "com/example/upright_play/uprightplay/event/Members" "pos" "I" (.int (Int32.ofNat p1))) (F_len : Fld Z h0 mb "com/example/upright_play/uprightplay/event/Members" "length" "I" (.int 23)) (f_10 : Fld Z h0 mb "com/example/upright_play/uprightplay/event/Members" "line" "[C" (.ref li)) (A_li : OwnA Z h0 li .char LN) (o_mb : n0 ≤ mb) (ne_mb_li : mb ≠ li) (hp : p1 + 4 < 23) (hl0 : LN[p1 + 0]? = some (.int 116)) (hl1 : LN[p1 + 1]? = some (.int 114)) (hl2 : LN[p1 + 2]? = some (.int 117)) (hl3 : LN[p1 + 3]? = some (.int 101)) (hc : LN[p1 + 4]? = some (.int cz)) (hz : cz = 32 ∨ cz = 44 ∨ cz = 125) (O : Old Z n0 h0) (SS : own_st Z cs fo bo) (HC : ∀ t, Jvm.Lit.constHeld Z "com/example/upright_play/uprightplay/event/Members" (own_ix t)) (HW : Jvm.Lit.compactW.before a0 Z = true) :
    MetFree l y_14 (head1 (Jvm.Cond.code y_14 c_14 4 (some (.object "com/example/upright_play/uprightplay/event/Members$Type")) :: ws) (oQ 5 2 24 110)) (fun a U => a = #[.ref mb, .int 1] ∧ Z.Warmed39 U.vm ∧ U.heap = h0 ∧ own_tab Z U.vm h0 Ts) (fun _ _ _ _ _ => True) (fun _ U o U' => ∃ v L, o = .returned v ∧ (Q_rm_val_true Z mb li LN p1 cz Ts cs fo bo h0 n0) v U'.heap L ∧ own_tab Z U'.vm U'.heap ("true" :: Ts) ∧ ReturnedEndW U o U' L (oQ 5 2 24 110).cells (oQ 5 2 24 110).slots) := by
  refine MetFree.of_bodySF (plainFor_of_name pn_14) hisR ?_
  intro p e s m args below meth c s₁ Bd hml0 hP hK
  obtain ⟨rfl, hZ, hh, TB⟩ := hP
  have hx := Bd.exec
  have G := @oG _ _ Bd.bytes
  have hml : c.maxLocals = 4 := hml0
  have hown : s.vm.findClass "com/example/upright_play/uprightplay/event/Members" = some m.cls := findClass_of_methodNamed Bd.named
  have hnm := (name_of_methodNamed Bd.named Bd.method).1
  have hlk : meth.locks = false := BodyLoose.notSynchronized Bd
  have X0 : Stand p l e (oQ 5 2 24 110) (s.setVm s.vm) m #[.ref mb, .int 1] below meth c s₁ [] 0 0 := Stand.of_body Bd
  have e0 : s₁.heap = h0 := by rw [← hh, Bd.state]; rfl
  have N := Fr.nil n0
  have K := Keep.refl h0 [mb]
  have hS := own_since0 s
  have hk : 0 ≤ h0.size := Nat.zero_le _
  refine own_startW (Z := Z) (Ts := ("true" :: Ts)) (cl := (oQ 5 2 24 110).cells) (sl := (oQ 5 2 24 110).slots) (Q := (Q_rm_val_true Z mb li LN p1 cz Ts cs fo bo h0 n0)) (ef_rm_val_true m mb ((1 : Int32))) ?_
  obtain ⟨SC, hcs, SF, hfo, SB, EB⟩ := SS
  refine own_byW (S' := (oM s₁ m 1 #[oR mb, oI 1, oU, oU] [.ref mb])) (fun _ k => XS.aloadN X0.here hx rfl (G d14_0) rfl rfl k) ?_
  obtain ⟨T369, X369, e369, st369⟩ := getF X0 hx hZ hown (host := "") (Or.inl (gw hw 58 rfl)) Via.refl e0 f_17 (g := (mkF m 1 #[oR mb, oI 1, oU, oU] [.ref mb])) rfl rfl (G d14_1)
  refine own_byW st369 ?_
  refine own_byW (S' := (oM T369 m 5 #[oR mb, oI 1, oU, oU] [.ref mb, (.int (Int32.ofNat p1))])) (fun _ k => XS.aloadN X369.here hx rfl (G d14_4) rfl rfl k) ?_
  obtain ⟨T370, X370, e370, st370⟩ := getF X369 hx hZ hown (host := "") (Or.inl (gw hw 54 rfl)) Via.refl e369 F_len (g := (mkF m 5 #[oR mb, oI 1, oU, oU] [.ref mb, (.int (Int32.ofNat p1))])) rfl rfl (G d14_5)
  refine own_byW st370 ?_
  refine own_byW (S' := (oM T370 m 12 #[oR mb, oI 1, oU, oU] [.ref mb])) (fun _ k => XS.icmpNo X370.here hx rfl (G d14_8) rfl (tlt ((own_lt (n := 23) (by omega) (by decide)) : (Int32.ofNat p1) < (23 : Int32))).2.1 (XS.aloadN X370.here hx rfl (G d14_11) rfl rfl k)) ?_
  obtain ⟨T371, X371, e371, st371⟩ := getF X370 hx hZ hown (host := "") (Or.inl (gw hw 52 rfl)) Via.refl e370 f_10 (g := (mkF m 12 #[oR mb, oI 1, oU, oU] [.ref mb])) rfl rfl (G d14_12)
  refine own_byW st371 ?_
  refine own_byW (S' := (oM T371 m 16 #[oR mb, oI 1, oU, oU] [.ref mb, .ref li])) (fun _ k => XS.aloadN X371.here hx rfl (G d14_15) rfl rfl k) ?_
  obtain ⟨T372, X372, e372, st372⟩ := getF X371 hx hZ hown (host := "") (Or.inl (gw hw 58 rfl)) Via.refl e371 f_17 (g := (mkF m 16 #[oR mb, oI 1, oU, oU] [.ref mb, .ref li])) rfl rfl (G d14_16)
  refine own_byW st372 ?_
  refine own_byW (S' := (oM T372 m 94 #[oR mb, oI 1, oI 116, oU] [.ref mb])) (fun _ k => own_caload X372 hx hZ e372 A_li (own_nn (by omega)) (v := (.int 116)) (own_at (by omega) hl0) (g := (mkF m 19 #[oR mb, oI 1, oU, oU] [(.int (Int32.ofNat p1)), .ref li])) rfl rfl (G d14_19) _ (XS.goto X372.here hx rfl (pc0 := 20) (pc' := 24) rfl (G d14_20) (by decide) (by decide) (XS.istoreN X372.here hx rfl (G d14_24) rfl (l' := #[oR mb, oI 1, oI 116, oU]) rfl (XS.iloadN X372.here hx rfl (G d14_25) rfl (XS.bipush X372.here hx rfl (G d14_26) (XS.icmpYes X372.here hx rfl (pc0 := 28) (pc' := 43) rfl (G d14_28) rfl (feq ((by decide) : ¬ ((116 : Int32) = (34 : Int32)))).2 (by decide) (by decide) (XS.iloadN X372.here hx rfl (G d14_43) rfl (XS.bipush X372.here hx rfl (G d14_44) (XS.icmpYes X372.here hx rfl (pc0 := 46) (pc' := 65) rfl (G d14_46) rfl (feq ((by decide) : ¬ ((116 : Int32) = (123 : Int32)))).2 (by decide) (by decide) (XS.iloadN X372.here hx rfl (G d14_65) rfl (XS.bipush X372.here hx rfl (G d14_66) (XS.icmpYes X372.here hx rfl (pc0 := 68) (pc' := 87) rfl (G d14_68) rfl (feq ((by decide) : ¬ ((116 : Int32) = (91 : Int32)))).2 (by decide) (by decide) (XS.iloadN X372.here hx rfl (G d14_87) rfl (XS.bipush X372.here hx rfl (G d14_88) (XS.icmpNo X372.here hx rfl (G d14_90) rfl (teq ((by decide) : (116 : Int32) = (116 : Int32))).2 (XS.aloadN X372.here hx rfl (G d14_93) rfl rfl k)))))))))))))))) ?_
  by_cases hin : "true" ∈ Ts
  · obtain ⟨sa, sb, HL, S_a⟩ := TB.2 _ hin
    have S_a : own_str Z h0 sa sb [.int 116, .int 114, .int 117, .int 101] := S_a
    have stl := ldcAgain (vm0 := s.vm) X372 hx hZ hown (gw hw 169 rfl) (a := sa) HL (g := (mkF m 94 #[oR mb, oI 1, oI 116, oU] [.ref mb])) rfl (G d14_94)
    refine own_byW stl ?_
    have ne1 : sa ≠ mb := Exa.ne S_a.1 E_mb (by decide)
    have ne2 : sb ≠ mb := own_strne0 (gw hw 13 rfl) E_mb S_a.2.2.2
    obtain ⟨cq374, q374, q374'⟩ := E_mb.cell
    obtain ⟨_, _, ⟨T374, L374, k374, n374⟩, -, X374, ⟨Lc374, hQ374, l374, y374, z374⟩, st374⟩ := X372.privateBack hx (y := y_15) hown (mvT hZ (gw hw 103 rfl)) (mvT hZ (gw hw 104 rfl)) (own_selP hZ (gw hw 13 rfl) (gw hw 105 rfl) (gw hw 104 rfl) (by decide)) (Cond.privateMethod_at (mvP hZ (gw hw 105 rfl) (args := #[]))) (mvT hZ (gw hw 106 rfl)) (by decide) (backOf (W := 0) (rm_word_true l Z a0 hw [] mb li LN sa sb p1 cz cs fo bo h0 n0 Zn E_mb f_17 F_len f_10 A_li o_mb ne_mb_li S_a ne1 ne2 hp hl0 hl1 hl2 hl3 hc hz O ⟨SC, hcs, SF, hfo, SB, EB⟩) hZ (gw hw 106 rfl) (gw hw 14 rfl) (by decide) (by decide)) (g := (mkF m 96 #[oR mb, oI 1, oI 116, oU] [.ref sa, .ref mb])) rfl (by rw [hml]; rfl) (Steps.refl _) (a := mb) (by rw [e372]; exact q374) q374' (argsL := [.ref sa]) (rest := []) (lenOf pd__28Ljava_2flang_2fString_3b_29V rfl) rfl oZ (G d14_96) (fun _ _ => ⟨rfl, e372, (by decide : 0 + 0 ≤ _), (by decide : 0 + 0 ≤ _)⟩)
    dsimp only [Pt.U, Pt.locs, Pt.cells, Pt.slots] at X374 l374 y374 z374 st374 hQ374
    have X374 := own_recast X374 l374 y374 z374
    obtain ⟨rfl, N374q, Wp373⟩ := hQ374
    have N := Fr.app N N374q
    have TB := own_tab_wr TB Wp373 (own_forE (gw hw 13 rfl) (by decide) E_mb)
    have hk := Nat.le_trans hk (Nat.le_of_eq Wp373.size.symm)
    have E_mb := E_mb.wr Wp373
    have f_17 := f_17.same Wp373
    have F_len := oT F_len Wp373 (Or.inl (gw hw 55 rfl)) (Or.inl (gw hw 59 rfl)) .int .int
    have f_10 := oT f_10 Wp373 (Or.inl (gw hw 53 rfl)) (Or.inl (gw hw 59 rfl)) (.array .char) .int
    have A_li := A_li.other Wp373 (Ne.symm ne_mb_li)
    have O := O.wr Wp373 o_mb
    have WQ := Wp373
    have Zn : n0 ≤ _ := Nat.le_trans Zn (Nat.le_of_eq Wp373.size.symm)
    have K := K.wr Wp373 (Or.inl (List.mem_of_getElem? (i := 0) rfl))
    refine own_trW st374 ?_
    obtain ⟨T375, X375, e375, st375⟩ := getS2 X374 hx hZ hown (host := "") (Or.inl (gw hw 149 rfl)) Via.refl rfl (SB.ext O.2) (g := (mkF m 99 #[oR mb, oI 1, oI 116, oU] [])) rfl (G d14_99)
    refine own_byW st375 ?_
    refine own_byW (S' := (oM T375 m 153 #[oR mb, oI 1, oI 116, oR bo] [.ref bo])) (fun _ k => XS.astoreN X375.here hx rfl (G d14_102) rfl rfl (l' := #[oR mb, oI 1, oI 116, oR bo]) rfl (XS.goto X375.here hx rfl (pc0 := 103) (pc' := 152) rfl (G d14_103) (by decide) (by decide) (XS.aloadN X375.here hx rfl (G d14_152) rfl rfl k))) ?_
    exact own_retW X375 hx hS e375 hk (own_tab_in TB hin) (t := (.object "com/example/upright_play/uprightplay/event/Members$Type")) Bd.returns rfl (Or.inr (Or.inr (Or.inr (Or.inr ⟨rfl, rfl, rfl⟩)))) (G d14_153) hlk (by decide : 0 ≤ _) (by decide : 0 ≤ _) ⟨rfl, N, h0, ⟨Nat.le_refl _, fun _ _ q => q⟩, WQ⟩
  · obtain ⟨sa, Tl, hl, kl, sb, kb, Xl, el, El, hS, hk, hZ, hown, Ea, Fc, Fv, Av, -, -, IL, LL, stl⟩ := ldcSVL (s := s) (vm0 := s.vm) (Ts := Ts) X372 hx hZ hown (gw hw 169 rfl) (own_wS hw) e372 hS hk (Fr.nil _) (fun b cl q => by rw [hh]; exact O.2.2 b cl q) TB.1 hin (HC "true") HW (vs := [.int 116, .int 114, .int 117, .int 101]) (z := (4 : Int32)) ⟨by decide, by decide⟩ (by decide) (by decide) (g := (mkF m 94 #[oR mb, oI 1, oI 116, oU] [.ref mb])) rfl (G d14_94) (n := 20) (by decide) (by decide) (by decide : 0 + 2 ≤ _) (by decide : 0 + (20 + 4) ≤ _)
    have S_a : own_str Z hl sa sb [.int 116, .int 114, .int 117, .int 101] := ⟨Ea, Fc, Fv, own_arv Av (by decide)⟩
    have TB := own_tab_new TB IL hS.1 El LL S_a
    have E1 := El
    have E_mb := E_mb.ext El
    have f_17 := f_17.ext El
    have F_len := F_len.ext El
    have f_10 := f_10.ext El
    have A_li := A_li.ext El
    have O := O.ext El
    have Zn := Nat.le_trans Zn El.1
    have K := K.ext El
    refine own_byW stl ?_
    have ne1 : sa ≠ mb := Exa.ne S_a.1 E_mb (by decide)
    have ne2 : sb ≠ mb := own_strne0 (gw hw 13 rfl) E_mb S_a.2.2.2
    obtain ⟨cq377, q377, q377'⟩ := E_mb.cell
    obtain ⟨_, _, ⟨T377, L377, k377, n377⟩, -, X377, ⟨Lc377, hQ377, l377, y377, z377⟩, st377⟩ := Xl.privateBack hx (y := y_15) hown (mvT hZ (gw hw 103 rfl)) (mvT hZ (gw hw 104 rfl)) (own_selP hZ (gw hw 13 rfl) (gw hw 105 rfl) (gw hw 104 rfl) (by decide)) (Cond.privateMethod_at (mvP hZ (gw hw 105 rfl) (args := #[]))) (mvT hZ (gw hw 106 rfl)) (by decide) (backOf (W := 0) (rm_word_true l Z a0 hw [] mb li LN sa sb p1 cz cs fo bo hl n0 Zn E_mb f_17 F_len f_10 A_li o_mb ne_mb_li S_a ne1 ne2 hp hl0 hl1 hl2 hl3 hc hz O ⟨SC, hcs, SF, hfo, SB, EB⟩) hZ (gw hw 106 rfl) (gw hw 14 rfl) (by decide) (by decide)) (g := (mkF m 96 #[oR mb, oI 1, oI 116, oU] [.ref sa, .ref mb])) rfl (by rw [hml]; rfl) (Steps.refl _) (a := mb) (by rw [el]; exact q377) q377' (argsL := [.ref sa]) (rest := []) (lenOf pd__28Ljava_2flang_2fString_3b_29V rfl) rfl oZ (G d14_96) (fun _ _ => ⟨rfl, el, (by decide : 2 + 0 ≤ _), (by decide : 24 + 0 ≤ _)⟩)
    dsimp only [Pt.U, Pt.locs, Pt.cells, Pt.slots] at X377 l377 y377 z377 st377 hQ377
    have X377 := own_recast X377 l377 y377 z377
    obtain ⟨rfl, N377q, Wp376⟩ := hQ377
    have N := Fr.app N N377q
    have TB := own_tab_wr TB Wp376 (own_forE (gw hw 13 rfl) (by decide) E_mb)
    have hk := Nat.le_trans hk (Nat.le_of_eq Wp376.size.symm)
    have E_mb := E_mb.wr Wp376
    have f_17 := f_17.same Wp376
    have F_len := oT F_len Wp376 (Or.inl (gw hw 55 rfl)) (Or.inl (gw hw 59 rfl)) .int .int
    have f_10 := oT f_10 Wp376 (Or.inl (gw hw 53 rfl)) (Or.inl (gw hw 59 rfl)) (.array .char) .int
    have A_li := A_li.other Wp376 (Ne.symm ne_mb_li)
    have O := O.wr Wp376 o_mb
    have WQ := Wp376
    have Zn : n0 ≤ _ := Nat.le_trans Zn (Nat.le_of_eq Wp376.size.symm)
    have K := K.wr Wp376 (Or.inl (List.mem_of_getElem? (i := 0) rfl))
    refine own_trW st377 ?_
    obtain ⟨T378, X378, e378, st378⟩ := getS2 X377 hx hZ hown (host := "") (Or.inl (gw hw 149 rfl)) Via.refl rfl (SB.ext O.2) (g := (mkF m 99 #[oR mb, oI 1, oI 116, oU] [])) rfl (G d14_99)
    refine own_byW st378 ?_
    refine own_byW (S' := (oM T378 m 153 #[oR mb, oI 1, oI 116, oR bo] [.ref bo])) (fun _ k => XS.astoreN X378.here hx rfl (G d14_102) rfl rfl (l' := #[oR mb, oI 1, oI 116, oR bo]) rfl (XS.goto X378.here hx rfl (pc0 := 103) (pc' := 152) rfl (G d14_103) (by decide) (by decide) (XS.aloadN X378.here hx rfl (G d14_152) rfl rfl k))) ?_
    exact own_retW X378 hx hS e378 hk TB (t := (.object "com/example/upright_play/uprightplay/event/Members$Type")) Bd.returns rfl (Or.inr (Or.inr (Or.inr (Or.inr ⟨rfl, rfl, rfl⟩)))) (G d14_153) hlk (by decide : 2 ≤ _) (by decide : 24 ≤ _) ⟨rfl, N, hl, E1, WQ⟩
theorem ef_rm_val_false (m : MethodId) (x0 : Addr) (x1 : Int32) : entryFrame m #[.ref x0, .int x1] 4 = mkF m 0 #[oR x0, oI x1, oU, oU] [] := by first | (simp [entryFrame, mkF, argsToLocals, Value.category]; done) | rfl
def Q_rm_val_false (Z : State) (mb li : Addr) (LN : List Value) (p1 : Nat) (cz : Int32) (Ts : List String) (cs : Int32) (fo : Value) (bo : Addr) (h0 : Heap) (n0 : Nat) (v : Option Value) (h : Heap) (L : List Loc) : Prop := v = some (.ref bo) ∧ Fr n0 L ∧ ∃ h1, Ext h0 h1 ∧ Wr h1 h mb (Jvm.RoadKit.slotOf Z "com/example/upright_play/uprightplay/event/Members" "pos" "I") (.int (Int32.ofNat (p1 + 5)))
set_option maxRecDepth 65536 in
set_option maxHeartbeats 40000000 in
theorem rm_val_false (l : Launch) (Z : State) (a0 : Array Value) (hw : ∀ d ∈ tables_1, d.before a0 Z = true) (ws : List Jvm.Cond) (mb li : Addr) (LN : List Value) (p1 : Nat) (cz : Int32) (Ts : List String) (cs : Int32) (fo : Value) (bo : Addr) (h0 : Heap) (n0 : Nat) (Zn : n0 ≤ h0.size) (E_mb : Exa Z h0 mb "com/example/upright_play/uprightplay/event/Members") (f_17 : Fld Z h0 mb "com/example/upright_play/uprightplay/event/Members" "pos" "I" (.int (Int32.ofNat p1))) (F_len : Fld Z h0 mb "com/example/upright_play/uprightplay/event/Members" "length" "I" (.int 23)) (f_10 : Fld Z h0 mb "com/example/upright_play/uprightplay/event/Members" "line" "[C" (.ref li)) (A_li : OwnA Z h0 li .char LN) (o_mb : n0 ≤ mb) (ne_mb_li : mb ≠ li) (hp : p1 + 5 < 23) (hl0 : LN[p1 + 0]? = some (.int 102)) (hl1 : LN[p1 + 1]? = some (.int 97)) (hl2 : LN[p1 + 2]? = some (.int 108)) (hl3 : LN[p1 + 3]? = some (.int 115)) (hl4 : LN[p1 + 4]? = some (.int 101)) (hc : LN[p1 + 5]? = some (.int cz)) (hz : cz = 32 ∨ cz = 44 ∨ cz = 125) (O : Old Z n0 h0) (SS : own_st Z cs fo bo) (HC : ∀ t, Jvm.Lit.constHeld Z "com/example/upright_play/uprightplay/event/Members" (own_ix t)) (HW : Jvm.Lit.compactW.before a0 Z = true) :
    MetFree l y_14 (head1 (Jvm.Cond.code y_14 c_14 4 (some (.object "com/example/upright_play/uprightplay/event/Members$Type")) :: ws) (oQ 5 2 24 110)) (fun a U => a = #[.ref mb, .int 1] ∧ Z.Warmed39 U.vm ∧ U.heap = h0 ∧ own_tab Z U.vm h0 Ts) (fun _ _ _ _ _ => True) (fun _ U o U' => ∃ v L, o = .returned v ∧ (Q_rm_val_false Z mb li LN p1 cz Ts cs fo bo h0 n0) v U'.heap L ∧ own_tab Z U'.vm U'.heap ("false" :: Ts) ∧ ReturnedEndW U o U' L (oQ 5 2 24 110).cells (oQ 5 2 24 110).slots) := by
  refine MetFree.of_bodySF (plainFor_of_name pn_14) hisR ?_
  intro p e s m args below meth c s₁ Bd hml0 hP hK
  obtain ⟨rfl, hZ, hh, TB⟩ := hP
  have hx := Bd.exec
  have G := @oG _ _ Bd.bytes
  have hml : c.maxLocals = 4 := hml0
  have hown : s.vm.findClass "com/example/upright_play/uprightplay/event/Members" = some m.cls := findClass_of_methodNamed Bd.named
  have hnm := (name_of_methodNamed Bd.named Bd.method).1
  have hlk : meth.locks = false := BodyLoose.notSynchronized Bd
  have X0 : Stand p l e (oQ 5 2 24 110) (s.setVm s.vm) m #[.ref mb, .int 1] below meth c s₁ [] 0 0 := Stand.of_body Bd
  have e0 : s₁.heap = h0 := by rw [← hh, Bd.state]; rfl
  have N := Fr.nil n0
  have K := Keep.refl h0 [mb]
  have hS := own_since0 s
  have hk : 0 ≤ h0.size := Nat.zero_le _
  refine own_startW (Z := Z) (Ts := ("false" :: Ts)) (cl := (oQ 5 2 24 110).cells) (sl := (oQ 5 2 24 110).slots) (Q := (Q_rm_val_false Z mb li LN p1 cz Ts cs fo bo h0 n0)) (ef_rm_val_false m mb ((1 : Int32))) ?_
  obtain ⟨SC, hcs, SF, hfo, SB, EB⟩ := SS
  refine own_byW (S' := (oM s₁ m 1 #[oR mb, oI 1, oU, oU] [.ref mb])) (fun _ k => XS.aloadN X0.here hx rfl (G d14_0) rfl rfl k) ?_
  obtain ⟨T379, X379, e379, st379⟩ := getF X0 hx hZ hown (host := "") (Or.inl (gw hw 58 rfl)) Via.refl e0 f_17 (g := (mkF m 1 #[oR mb, oI 1, oU, oU] [.ref mb])) rfl rfl (G d14_1)
  refine own_byW st379 ?_
  refine own_byW (S' := (oM T379 m 5 #[oR mb, oI 1, oU, oU] [.ref mb, (.int (Int32.ofNat p1))])) (fun _ k => XS.aloadN X379.here hx rfl (G d14_4) rfl rfl k) ?_
  obtain ⟨T380, X380, e380, st380⟩ := getF X379 hx hZ hown (host := "") (Or.inl (gw hw 54 rfl)) Via.refl e379 F_len (g := (mkF m 5 #[oR mb, oI 1, oU, oU] [.ref mb, (.int (Int32.ofNat p1))])) rfl rfl (G d14_5)
  refine own_byW st380 ?_
  refine own_byW (S' := (oM T380 m 12 #[oR mb, oI 1, oU, oU] [.ref mb])) (fun _ k => XS.icmpNo X380.here hx rfl (G d14_8) rfl (tlt ((own_lt (n := 23) (by omega) (by decide)) : (Int32.ofNat p1) < (23 : Int32))).2.1 (XS.aloadN X380.here hx rfl (G d14_11) rfl rfl k)) ?_
  obtain ⟨T381, X381, e381, st381⟩ := getF X380 hx hZ hown (host := "") (Or.inl (gw hw 52 rfl)) Via.refl e380 f_10 (g := (mkF m 12 #[oR mb, oI 1, oU, oU] [.ref mb])) rfl rfl (G d14_12)
  refine own_byW st381 ?_
  refine own_byW (S' := (oM T381 m 16 #[oR mb, oI 1, oU, oU] [.ref mb, .ref li])) (fun _ k => XS.aloadN X381.here hx rfl (G d14_15) rfl rfl k) ?_
  obtain ⟨T382, X382, e382, st382⟩ := getF X381 hx hZ hown (host := "") (Or.inl (gw hw 58 rfl)) Via.refl e381 f_17 (g := (mkF m 16 #[oR mb, oI 1, oU, oU] [.ref mb, .ref li])) rfl rfl (G d14_16)
  refine own_byW st382 ?_
  refine own_byW (S' := (oM T382 m 113 #[oR mb, oI 1, oI 102, oU] [.ref mb])) (fun _ k => own_caload X382 hx hZ e382 A_li (own_nn (by omega)) (v := (.int 102)) (own_at (by omega) hl0) (g := (mkF m 19 #[oR mb, oI 1, oU, oU] [(.int (Int32.ofNat p1)), .ref li])) rfl rfl (G d14_19) _ (XS.goto X382.here hx rfl (pc0 := 20) (pc' := 24) rfl (G d14_20) (by decide) (by decide) (XS.istoreN X382.here hx rfl (G d14_24) rfl (l' := #[oR mb, oI 1, oI 102, oU]) rfl (XS.iloadN X382.here hx rfl (G d14_25) rfl (XS.bipush X382.here hx rfl (G d14_26) (XS.icmpYes X382.here hx rfl (pc0 := 28) (pc' := 43) rfl (G d14_28) rfl (feq ((by decide) : ¬ ((102 : Int32) = (34 : Int32)))).2 (by decide) (by decide) (XS.iloadN X382.here hx rfl (G d14_43) rfl (XS.bipush X382.here hx rfl (G d14_44) (XS.icmpYes X382.here hx rfl (pc0 := 46) (pc' := 65) rfl (G d14_46) rfl (feq ((by decide) : ¬ ((102 : Int32) = (123 : Int32)))).2 (by decide) (by decide) (XS.iloadN X382.here hx rfl (G d14_65) rfl (XS.bipush X382.here hx rfl (G d14_66) (XS.icmpYes X382.here hx rfl (pc0 := 68) (pc' := 87) rfl (G d14_68) rfl (feq ((by decide) : ¬ ((102 : Int32) = (91 : Int32)))).2 (by decide) (by decide) (XS.iloadN X382.here hx rfl (G d14_87) rfl (XS.bipush X382.here hx rfl (G d14_88) (XS.icmpYes X382.here hx rfl (pc0 := 90) (pc' := 106) rfl (G d14_90) rfl (feq ((by decide) : ¬ ((102 : Int32) = (116 : Int32)))).2 (by decide) (by decide) (XS.iloadN X382.here hx rfl (G d14_106) rfl (XS.bipush X382.here hx rfl (G d14_107) (XS.icmpNo X382.here hx rfl (G d14_109) rfl (teq ((by decide) : (102 : Int32) = (102 : Int32))).2 (XS.aloadN X382.here hx rfl (G d14_112) rfl rfl k))))))))))))))))))) ?_
  by_cases hin : "false" ∈ Ts
  · obtain ⟨sa, sb, HL, S_a⟩ := TB.2 _ hin
    have S_a : own_str Z h0 sa sb [.int 102, .int 97, .int 108, .int 115, .int 101] := S_a
    have stl := ldcAgain (vm0 := s.vm) X382 hx hZ hown (gw hw 96 rfl) (a := sa) HL (g := (mkF m 113 #[oR mb, oI 1, oI 102, oU] [.ref mb])) rfl (G d14_113)
    refine own_byW stl ?_
    have ne1 : sa ≠ mb := Exa.ne S_a.1 E_mb (by decide)
    have ne2 : sb ≠ mb := own_strne0 (gw hw 13 rfl) E_mb S_a.2.2.2
    obtain ⟨cq384, q384, q384'⟩ := E_mb.cell
    obtain ⟨_, _, ⟨T384, L384, k384, n384⟩, -, X384, ⟨Lc384, hQ384, l384, y384, z384⟩, st384⟩ := X382.privateBack hx (y := y_15) hown (mvT hZ (gw hw 103 rfl)) (mvT hZ (gw hw 104 rfl)) (own_selP hZ (gw hw 13 rfl) (gw hw 105 rfl) (gw hw 104 rfl) (by decide)) (Cond.privateMethod_at (mvP hZ (gw hw 105 rfl) (args := #[]))) (mvT hZ (gw hw 106 rfl)) (by decide) (backOf (W := 0) (rm_word_false l Z a0 hw [] mb li LN sa sb p1 cz cs fo bo h0 n0 Zn E_mb f_17 F_len f_10 A_li o_mb ne_mb_li S_a ne1 ne2 hp hl0 hl1 hl2 hl3 hl4 hc hz O ⟨SC, hcs, SF, hfo, SB, EB⟩) hZ (gw hw 106 rfl) (gw hw 14 rfl) (by decide) (by decide)) (g := (mkF m 115 #[oR mb, oI 1, oI 102, oU] [.ref sa, .ref mb])) rfl (by rw [hml]; rfl) (Steps.refl _) (a := mb) (by rw [e382]; exact q384) q384' (argsL := [.ref sa]) (rest := []) (lenOf pd__28Ljava_2flang_2fString_3b_29V rfl) rfl oZ (G d14_115) (fun _ _ => ⟨rfl, e382, (by decide : 0 + 0 ≤ _), (by decide : 0 + 0 ≤ _)⟩)
    dsimp only [Pt.U, Pt.locs, Pt.cells, Pt.slots] at X384 l384 y384 z384 st384 hQ384
    have X384 := own_recast X384 l384 y384 z384
    obtain ⟨rfl, N384q, Wp383⟩ := hQ384
    have N := Fr.app N N384q
    have TB := own_tab_wr TB Wp383 (own_forE (gw hw 13 rfl) (by decide) E_mb)
    have hk := Nat.le_trans hk (Nat.le_of_eq Wp383.size.symm)
    have E_mb := E_mb.wr Wp383
    have f_17 := f_17.same Wp383
    have F_len := oT F_len Wp383 (Or.inl (gw hw 55 rfl)) (Or.inl (gw hw 59 rfl)) .int .int
    have f_10 := oT f_10 Wp383 (Or.inl (gw hw 53 rfl)) (Or.inl (gw hw 59 rfl)) (.array .char) .int
    have A_li := A_li.other Wp383 (Ne.symm ne_mb_li)
    have O := O.wr Wp383 o_mb
    have WQ := Wp383
    have Zn : n0 ≤ _ := Nat.le_trans Zn (Nat.le_of_eq Wp383.size.symm)
    have K := K.wr Wp383 (Or.inl (List.mem_of_getElem? (i := 0) rfl))
    refine own_trW st384 ?_
    obtain ⟨T385, X385, e385, st385⟩ := getS2 X384 hx hZ hown (host := "") (Or.inl (gw hw 149 rfl)) Via.refl rfl (SB.ext O.2) (g := (mkF m 118 #[oR mb, oI 1, oI 102, oU] [])) rfl (G d14_118)
    refine own_byW st385 ?_
    refine own_byW (S' := (oM T385 m 153 #[oR mb, oI 1, oI 102, oR bo] [.ref bo])) (fun _ k => XS.astoreN X385.here hx rfl (G d14_121) rfl rfl (l' := #[oR mb, oI 1, oI 102, oR bo]) rfl (XS.goto X385.here hx rfl (pc0 := 122) (pc' := 152) rfl (G d14_122) (by decide) (by decide) (XS.aloadN X385.here hx rfl (G d14_152) rfl rfl k))) ?_
    exact own_retW X385 hx hS e385 hk (own_tab_in TB hin) (t := (.object "com/example/upright_play/uprightplay/event/Members$Type")) Bd.returns rfl (Or.inr (Or.inr (Or.inr (Or.inr ⟨rfl, rfl, rfl⟩)))) (G d14_153) hlk (by decide : 0 ≤ _) (by decide : 0 ≤ _) ⟨rfl, N, h0, ⟨Nat.le_refl _, fun _ _ q => q⟩, WQ⟩
  · obtain ⟨sa, Tl, hl, kl, sb, kb, Xl, el, El, hS, hk, hZ, hown, Ea, Fc, Fv, Av, -, -, IL, LL, stl⟩ := ldcSVL (s := s) (vm0 := s.vm) (Ts := Ts) X382 hx hZ hown (gw hw 96 rfl) (own_wS hw) e382 hS hk (Fr.nil _) (fun b cl q => by rw [hh]; exact O.2.2 b cl q) TB.1 hin (HC "false") HW (vs := [.int 102, .int 97, .int 108, .int 115, .int 101]) (z := (5 : Int32)) ⟨by decide, by decide⟩ (by decide) (by decide) (g := (mkF m 113 #[oR mb, oI 1, oI 102, oU] [.ref mb])) rfl (G d14_113) (n := 20) (by decide) (by decide) (by decide : 0 + 2 ≤ _) (by decide : 0 + (20 + 4) ≤ _)
    have S_a : own_str Z hl sa sb [.int 102, .int 97, .int 108, .int 115, .int 101] := ⟨Ea, Fc, Fv, own_arv Av (by decide)⟩
    have TB := own_tab_new TB IL hS.1 El LL S_a
    have E1 := El
    have E_mb := E_mb.ext El
    have f_17 := f_17.ext El
    have F_len := F_len.ext El
    have f_10 := f_10.ext El
    have A_li := A_li.ext El
    have O := O.ext El
    have Zn := Nat.le_trans Zn El.1
    have K := K.ext El
    refine own_byW stl ?_
    have ne1 : sa ≠ mb := Exa.ne S_a.1 E_mb (by decide)
    have ne2 : sb ≠ mb := own_strne0 (gw hw 13 rfl) E_mb S_a.2.2.2
    obtain ⟨cq387, q387, q387'⟩ := E_mb.cell
    obtain ⟨_, _, ⟨T387, L387, k387, n387⟩, -, X387, ⟨Lc387, hQ387, l387, y387, z387⟩, st387⟩ := Xl.privateBack hx (y := y_15) hown (mvT hZ (gw hw 103 rfl)) (mvT hZ (gw hw 104 rfl)) (own_selP hZ (gw hw 13 rfl) (gw hw 105 rfl) (gw hw 104 rfl) (by decide)) (Cond.privateMethod_at (mvP hZ (gw hw 105 rfl) (args := #[]))) (mvT hZ (gw hw 106 rfl)) (by decide) (backOf (W := 0) (rm_word_false l Z a0 hw [] mb li LN sa sb p1 cz cs fo bo hl n0 Zn E_mb f_17 F_len f_10 A_li o_mb ne_mb_li S_a ne1 ne2 hp hl0 hl1 hl2 hl3 hl4 hc hz O ⟨SC, hcs, SF, hfo, SB, EB⟩) hZ (gw hw 106 rfl) (gw hw 14 rfl) (by decide) (by decide)) (g := (mkF m 115 #[oR mb, oI 1, oI 102, oU] [.ref sa, .ref mb])) rfl (by rw [hml]; rfl) (Steps.refl _) (a := mb) (by rw [el]; exact q387) q387' (argsL := [.ref sa]) (rest := []) (lenOf pd__28Ljava_2flang_2fString_3b_29V rfl) rfl oZ (G d14_115) (fun _ _ => ⟨rfl, el, (by decide : 2 + 0 ≤ _), (by decide : 24 + 0 ≤ _)⟩)
    dsimp only [Pt.U, Pt.locs, Pt.cells, Pt.slots] at X387 l387 y387 z387 st387 hQ387
    have X387 := own_recast X387 l387 y387 z387
    obtain ⟨rfl, N387q, Wp386⟩ := hQ387
    have N := Fr.app N N387q
    have TB := own_tab_wr TB Wp386 (own_forE (gw hw 13 rfl) (by decide) E_mb)
    have hk := Nat.le_trans hk (Nat.le_of_eq Wp386.size.symm)
    have E_mb := E_mb.wr Wp386
    have f_17 := f_17.same Wp386
    have F_len := oT F_len Wp386 (Or.inl (gw hw 55 rfl)) (Or.inl (gw hw 59 rfl)) .int .int
    have f_10 := oT f_10 Wp386 (Or.inl (gw hw 53 rfl)) (Or.inl (gw hw 59 rfl)) (.array .char) .int
    have A_li := A_li.other Wp386 (Ne.symm ne_mb_li)
    have O := O.wr Wp386 o_mb
    have WQ := Wp386
    have Zn : n0 ≤ _ := Nat.le_trans Zn (Nat.le_of_eq Wp386.size.symm)
    have K := K.wr Wp386 (Or.inl (List.mem_of_getElem? (i := 0) rfl))
    refine own_trW st387 ?_
    obtain ⟨T388, X388, e388, st388⟩ := getS2 X387 hx hZ hown (host := "") (Or.inl (gw hw 149 rfl)) Via.refl rfl (SB.ext O.2) (g := (mkF m 118 #[oR mb, oI 1, oI 102, oU] [])) rfl (G d14_118)
    refine own_byW st388 ?_
    refine own_byW (S' := (oM T388 m 153 #[oR mb, oI 1, oI 102, oR bo] [.ref bo])) (fun _ k => XS.astoreN X388.here hx rfl (G d14_121) rfl rfl (l' := #[oR mb, oI 1, oI 102, oR bo]) rfl (XS.goto X388.here hx rfl (pc0 := 122) (pc' := 152) rfl (G d14_122) (by decide) (by decide) (XS.aloadN X388.here hx rfl (G d14_152) rfl rfl k))) ?_
    exact own_retW X388 hx hS e388 hk TB (t := (.object "com/example/upright_play/uprightplay/event/Members$Type")) Bd.returns rfl (Or.inr (Or.inr (Or.inr (Or.inr ⟨rfl, rfl, rfl⟩)))) (G d14_153) hlk (by decide : 2 ≤ _) (by decide : 24 ≤ _) ⟨rfl, N, hl, E1, WQ⟩
theorem ef_rm_val (m : MethodId) (x0 : Addr) (x1 : Int32) : entryFrame m #[.ref x0, .int x1] 4 = mkF m 0 #[oR x0, oI x1, oU, oU] [] := by first | (simp [entryFrame, mkF, argsToLocals, Value.category]; done) | rfl
def Q_rm_val (Z : State) (mb li : Addr) (LN : List Value) (p1 q1 : Nat) (t : String) (Ts : List String) (cs : Int32) (fo : Value) (bo : Addr) (h0 : Heap) (n0 : Nat) (v : Option Value) (h : Heap) (L : List Loc) : Prop := v = some (.ref bo) ∧ Fr n0 L ∧ ∃ h1, Ext h0 h1 ∧ Wr h1 h mb (Jvm.RoadKit.slotOf Z "com/example/upright_play/uprightplay/event/Members" "pos" "I") (.int (Int32.ofNat q1))
set_option maxRecDepth 65536 in
set_option maxHeartbeats 40000000 in
theorem rm_val (l : Launch) (Z : State) (a0 : Array Value) (hw : ∀ d ∈ tables_1, d.before a0 Z = true) (ws : List Jvm.Cond) (mb li : Addr) (LN : List Value) (p1 q1 : Nat) (t : String) (Ts : List String) (cs : Int32) (fo : Value) (bo : Addr) (h0 : Heap) (n0 : Nat) (Zn : n0 ≤ h0.size) (E_mb : Exa Z h0 mb "com/example/upright_play/uprightplay/event/Members") (f_17 : Fld Z h0 mb "com/example/upright_play/uprightplay/event/Members" "pos" "I" (.int (Int32.ofNat p1))) (F_len : Fld Z h0 mb "com/example/upright_play/uprightplay/event/Members" "length" "I" (.int 23)) (f_10 : Fld Z h0 mb "com/example/upright_play/uprightplay/event/Members" "line" "[C" (.ref li)) (A_li : OwnA Z h0 li .char LN) (o_mb : n0 ≤ mb) (ne_mb_li : mb ≠ li) (hwd : own_wd LN p1 q1 t) (O : Old Z n0 h0) (SS : own_st Z cs fo bo) (HC : ∀ t, Jvm.Lit.constHeld Z "com/example/upright_play/uprightplay/event/Members" (own_ix t)) (HW : Jvm.Lit.compactW.before a0 Z = true) :
    MetFree l y_14 (head1 (Jvm.Cond.code y_14 c_14 4 (some (.object "com/example/upright_play/uprightplay/event/Members$Type")) :: ws) (oQ 5 2 24 110)) (fun a U => a = #[.ref mb, .int 1] ∧ Z.Warmed39 U.vm ∧ U.heap = h0 ∧ own_tab Z U.vm h0 Ts) (fun _ _ _ _ _ => True) (fun _ U o U' => ∃ v L, o = .returned v ∧ (Q_rm_val Z mb li LN p1 q1 t Ts cs fo bo h0 n0) v U'.heap L ∧ own_tab Z U'.vm U'.heap (t :: Ts) ∧ ReturnedEndW U o U' L (oQ 5 2 24 110).cells (oQ 5 2 24 110).slots) := by
  obtain ⟨h1, h2, ⟨cz, h3, h4⟩, ⟨rfl, rfl, l0, l1, l2, l3⟩ | ⟨rfl, rfl, l0, l1, l2, l3, l4⟩⟩ := hwd
  · exact rm_val_true l Z a0 hw ws mb li LN p1 cz Ts cs fo bo h0 n0 Zn E_mb f_17 F_len f_10 A_li o_mb ne_mb_li h2 l0 l1 l2 l3 h3 h4 O SS HC HW
  · exact rm_val_false l Z a0 hw ws mb li LN p1 cz Ts cs fo bo h0 n0 Zn E_mb f_17 F_len f_10 A_li o_mb ne_mb_li h2 l0 l1 l2 l3 l4 h3 h4 O SS HC HW
/-- the line: its signs, and where the words stand -/
def own_line (LN : List Value) (c1 c2 p1 q1 p2 q2 : Nat) (t1 t2 : String) : Prop := LN[0]? = some (.int 123) ∧ LN[1]? = some (.int 34) ∧ LN[2]? = some (.int (Int32.ofNat c1)) ∧ LN[3]? = some (.int 34) ∧ LN[4]? = some (.int 58) ∧ own_ws LN 5 p1 ∧ own_wd LN p1 q1 t1 ∧ own_ws LN q1 11 ∧ LN[11]? = some (.int 44) ∧ LN[12]? = some (.int 34) ∧ LN[13]? = some (.int (Int32.ofNat c2)) ∧ LN[14]? = some (.int 34) ∧ LN[15]? = some (.int 58) ∧ own_ws LN 16 p2 ∧ own_wd LN p2 q2 t2 ∧ own_ws LN q2 22 ∧ LN[22]? = some (.int 125) ∧ own_nc c1 ∧ own_nc c2 ∧ c1 ≠ c2
theorem own_ws0 {LN : List Value} {i : Nat} {c : Int32} (hi : i < 23) (h : LN[i]? = some (.int c)) (hc : own_w c = 0) : own_ws LN i i := ⟨Nat.le_refl _, by omega, fun j h1 h2 => by omega, fun _ => ⟨c, h, hc⟩⟩
theorem own_ws1 {LN : List Value} : own_ws LN 23 23 := ⟨Nat.le_refl _, Nat.le_refl _, fun j h1 h2 => by omega, fun q => by omega⟩
theorem d10_0 : oD c_10 0 (.iload_n 1, 1) := by decide +kernel
theorem d10_1 : oD c_10 1 (.sipush 255, 3) := by decide +kernel
theorem d10_4 : oD c_10 4 (.if_icmp .le 8, 3) := by decide +kernel
theorem d10_12 : oD c_10 12 (.aload_n 0, 1) := by decide +kernel
theorem d10_13 : oD c_10 13 (.dup, 1) := by decide +kernel
theorem d10_14 : oD c_10 14 (.getfield 59, 3) := by decide +kernel
theorem d10_17 : oD c_10 17 (.iconst 1, 1) := by decide +kernel
theorem d10_18 : oD c_10 18 (.iadd, 1) := by decide +kernel
theorem d10_19 : oD c_10 19 (.putfield 59, 3) := by decide +kernel
theorem d10_22 : oD c_10 22 (.aload_n 0, 1) := by decide +kernel
theorem d10_23 : oD c_10 23 (.invokevirtual 76, 3) := by decide +kernel
theorem d10_26 : oD c_10 26 (.aload_n 0, 1) := by decide +kernel
theorem d10_27 : oD c_10 27 (.iload_n 2, 1) := by decide +kernel
theorem d10_28 : oD c_10 28 (.invokevirtual 171, 3) := by decide +kernel
theorem d10_31 : oD c_10 31 (.ifCond .ne 7, 3) := by decide +kernel
theorem d10_34 : oD c_10 34 (.iconst 1, 1) := by decide +kernel
theorem d10_35 : oD c_10 35 (.goto 4, 3) := by decide +kernel
theorem d10_39 : oD c_10 39 (.istore_n 3, 1) := by decide +kernel
theorem d10_40 : oD c_10 40 (.iload_n 3, 1) := by decide +kernel
theorem d10_41 : oD c_10 41 (.ifCond .eq 162, 3) := by decide +kernel
theorem d10_44 : oD c_10 44 (.aload_n 0, 1) := by decide +kernel
theorem d10_45 : oD c_10 45 (.getfield 59, 3) := by decide +kernel
theorem d10_48 : oD c_10 48 (.istore 4, 2) := by decide +kernel
theorem d10_50 : oD c_10 50 (.aload_n 0, 1) := by decide +kernel
theorem d10_51 : oD c_10 51 (.getfield 59, 3) := by decide +kernel
theorem d10_54 : oD c_10 54 (.istore 5, 2) := by decide +kernel
theorem d10_56 : oD c_10 56 (.iconst 0, 1) := by decide +kernel
theorem d10_57 : oD c_10 57 (.istore 6, 2) := by decide +kernel
theorem d10_59 : oD c_10 59 (.iload_n 2, 1) := by decide +kernel
theorem d10_60 : oD c_10 60 (.bipush 125, 2) := by decide +kernel
theorem d10_62 : oD c_10 62 (.if_icmp .ne 79, 3) := by decide +kernel
theorem d10_65 : oD c_10 65 (.aload_n 0, 1) := by decide +kernel
theorem d10_66 : oD c_10 66 (.invokevirtual 189, 3) := by decide +kernel
theorem d10_69 : oD c_10 69 (.istore 6, 2) := by decide +kernel
theorem d10_71 : oD c_10 71 (.aload_n 0, 1) := by decide +kernel
theorem d10_72 : oD c_10 72 (.getfield 59, 3) := by decide +kernel
theorem d10_75 : oD c_10 75 (.istore 5, 2) := by decide +kernel
theorem d10_77 : oD c_10 77 (.aload_n 0, 1) := by decide +kernel
theorem d10_78 : oD c_10 78 (.invokevirtual 76, 3) := by decide +kernel
theorem d10_81 : oD c_10 81 (.aload_n 0, 1) := by decide +kernel
theorem d10_82 : oD c_10 82 (.bipush 58, 2) := by decide +kernel
theorem d10_84 : oD c_10 84 (.invokevirtual 171, 3) := by decide +kernel
theorem d10_87 : oD c_10 87 (.istore 7, 2) := by decide +kernel
theorem d10_89 : oD c_10 89 (.aload_n 0, 1) := by decide +kernel
theorem d10_90 : oD c_10 90 (.invokevirtual 76, 3) := by decide +kernel
theorem d10_93 : oD c_10 93 (.iload_n 1, 1) := by decide +kernel
theorem d10_94 : oD c_10 94 (.iconst 1, 1) := by decide +kernel
theorem d10_95 : oD c_10 95 (.if_icmp .ne 36, 3) := by decide +kernel
theorem d10_98 : oD c_10 98 (.aload_n 0, 1) := by decide +kernel
theorem d10_99 : oD c_10 99 (.getfield 59, 3) := by decide +kernel
theorem d10_102 : oD c_10 102 (.aload_n 0, 1) := by decide +kernel
theorem d10_103 : oD c_10 103 (.getfield 51, 3) := by decide +kernel
theorem d10_106 : oD c_10 106 (.if_icmp .ne 25, 3) := by decide +kernel
theorem d10_131 : oD c_10 131 (.iload 7, 2) := by decide +kernel
theorem d10_133 : oD c_10 133 (.ifCond .ne 8, 3) := by decide +kernel
theorem d10_141 : oD c_10 141 (.aload_n 0, 1) := by decide +kernel
theorem d10_142 : oD c_10 142 (.getfield 59, 3) := by decide +kernel
theorem d10_145 : oD c_10 145 (.istore 7, 2) := by decide +kernel
theorem d10_147 : oD c_10 147 (.aload_n 0, 1) := by decide +kernel
theorem d10_148 : oD c_10 148 (.iload_n 1, 1) := by decide +kernel
theorem d10_149 : oD c_10 149 (.invokevirtual 175, 3) := by decide +kernel
theorem d10_152 : oD c_10 152 (.astore 8, 2) := by decide +kernel
theorem d10_154 : oD c_10 154 (.iload_n 1, 1) := by decide +kernel
theorem d10_155 : oD c_10 155 (.iconst 1, 1) := by decide +kernel
theorem d10_156 : oD c_10 156 (.if_icmp .ne 17, 3) := by decide +kernel
theorem d10_159 : oD c_10 159 (.aload_n 0, 1) := by decide +kernel
theorem d10_160 : oD c_10 160 (.iload 4, 2) := by decide +kernel
theorem d10_162 : oD c_10 162 (.iload 5, 2) := by decide +kernel
theorem d10_164 : oD c_10 164 (.iload 6, 2) := by decide +kernel
theorem d10_166 : oD c_10 166 (.aload 8, 2) := by decide +kernel
theorem d10_168 : oD c_10 168 (.iload 7, 2) := by decide +kernel
theorem d10_170 : oD c_10 170 (.invokevirtual 195, 3) := by decide +kernel
theorem d10_173 : oD c_10 173 (.aload_n 0, 1) := by decide +kernel
theorem d10_174 : oD c_10 174 (.invokevirtual 76, 3) := by decide +kernel
theorem d10_177 : oD c_10 177 (.aload_n 0, 1) := by decide +kernel
theorem d10_178 : oD c_10 178 (.bipush 44, 2) := by decide +kernel
theorem d10_180 : oD c_10 180 (.invokevirtual 171, 3) := by decide +kernel
theorem d10_183 : oD c_10 183 (.istore_n 3, 1) := by decide +kernel
theorem d10_184 : oD c_10 184 (.iload_n 3, 1) := by decide +kernel
theorem d10_185 : oD c_10 185 (.ifCond .eq 10, 3) := by decide +kernel
theorem d10_188 : oD c_10 188 (.aload_n 0, 1) := by decide +kernel
theorem d10_189 : oD c_10 189 (.invokevirtual 76, 3) := by decide +kernel
theorem d10_192 : oD c_10 192 (.goto 8, 3) := by decide +kernel
theorem d10_195 : oD c_10 195 (.aload_n 0, 1) := by decide +kernel
theorem d10_196 : oD c_10 196 (.iload_n 2, 1) := by decide +kernel
theorem d10_197 : oD c_10 197 (.invokevirtual 198, 3) := by decide +kernel
theorem d10_200 : oD c_10 200 (.goto (-160), 3) := by decide +kernel
theorem d10_203 : oD c_10 203 (.return_, 1) := by decide +kernel
theorem pn_10 : plainName "com/example/upright_play/uprightplay/event/Members" = true := by first | (simp [plainName, overriddenIn]; done) | decide +kernel
theorem ef_rm_readC (m : MethodId) (x0 : Addr) (x1 : Int32) (x2 : Int32) : entryFrame m #[.ref x0, .int x1, .int x2] 9 = mkF m 0 #[oR x0, oI x1, oI x2, oU, oU, oU, oU, oU, oU] [] := by first | (simp [entryFrame, mkF, argsToLocals, Value.category]; done) | rfl
def Q_rm_readC (Z : State) (mb li : Addr) (D : Nat → Addr) (LN : List Value) (c1 c2 p1 q1 p2 q2 : Nat) (t1 t2 : String) (cs : Int32) (fo : Value) (bo : Addr) (h0 : Heap) (n0 : Nat) (v : Option Value) (h : Heap) (L : List Loc) : Prop := v = none ∧ Fr n0 L ∧ Keep h0 h (mb :: [D 0, D 1, D 2, D 3, D 4, D 5, D 6, D 7, D 8, D 9]) ∧ OwnM Z h mb D (own_V2 c1 c2 (Int32.ofNat p1) (Int32.ofNat q1) (Int32.ofNat p2) (Int32.ofNat q2) bo) (.ref li) 23 1 2 ∧ Fld Z h mb "com/example/upright_play/uprightplay/event/Members" "pos" "I" (.int 23)
theorem pd__28I_29Lcom_2fexample_2fupright_5fplay_2fuprightplay_2fevent_2fMembers_24Type_3b : parseMethodDescriptor "(I)Lcom/example/upright_play/uprightplay/event/Members$Type;" = some ⟨[.int], some (.object "com/example/upright_play/uprightplay/event/Members$Type")⟩ := by decide +kernel
theorem pd__28IIZLcom_2fexample_2fupright_5fplay_2fuprightplay_2fevent_2fMembers_24Type_3bI_29V : parseMethodDescriptor "(IIZLcom/example/upright_play/uprightplay/event/Members$Type;I)V" = some ⟨[.int, .int, .boolean, (.object "com/example/upright_play/uprightplay/event/Members$Type"), .int], none⟩ := by decide +kernel
set_option maxRecDepth 65536 in
set_option maxHeartbeats 40000000 in
theorem rm_readC (l : Launch) (Z : State) (a0 : Array Value) (hw : ∀ d ∈ tables_1, d.before a0 Z = true) (ws : List Jvm.Cond) (mb li : Addr) (D : Nat → Addr) (LN : List Value) (c1 c2 p1 q1 p2 q2 : Nat) (t1 t2 : String) (cs : Int32) (fo : Value) (bo : Addr) (h0 : Heap) (n0 : Nat) (Zn : n0 ≤ h0.size) (M : OwnM Z h0 mb D own_V0 (.ref li) 23 1 0) (DI : own_di n0 mb li D) (A_li : OwnA Z h0 li .char LN) (f_17 : Fld Z h0 mb "com/example/upright_play/uprightplay/event/Members" "pos" "I" (.int 0)) (HL : own_line LN c1 c2 p1 q1 p2 q2 t1 t2) (O : Old Z n0 h0) (SS : own_st Z cs fo bo) (HC : ∀ t, Jvm.Lit.constHeld Z "com/example/upright_play/uprightplay/event/Members" (own_ix t)) (HW : Jvm.Lit.compactW.before a0 Z = true) :
    MetFree l y_10 (head1 (Jvm.Cond.code y_10 c_10 9 none :: ws) (oQ 6 4 48 140)) (fun a U => a = #[.ref mb, .int 1, .int 125] ∧ Z.Warmed39 U.vm ∧ U.heap = h0 ∧ own_tab Z U.vm h0 []) (fun _ _ _ _ _ => True) (fun _ U o U' => ∃ v L, o = .returned v ∧ (Q_rm_readC Z mb li D LN c1 c2 p1 q1 p2 q2 t1 t2 cs fo bo h0 n0) v U'.heap L ∧ own_tab Z U'.vm U'.heap [t2, t1] ∧ ReturnedEndW U o U' L (oQ 6 4 48 140).cells (oQ 6 4 48 140).slots) := by
  refine MetFree.of_bodySF (plainFor_of_name pn_10) hisR ?_
  intro p e s m args below meth c s₁ Bd hml0 hP hK
  obtain ⟨rfl, hZ, hh, TB⟩ := hP
  have hx := Bd.exec
  have G := @oG _ _ Bd.bytes
  have hml : c.maxLocals = 9 := hml0
  have hown : s.vm.findClass "com/example/upright_play/uprightplay/event/Members" = some m.cls := findClass_of_methodNamed Bd.named
  have hnm := (name_of_methodNamed Bd.named Bd.method).1
  have hlk : meth.locks = false := BodyLoose.notSynchronized Bd
  have X0 : Stand p l e (oQ 6 4 48 140) (s.setVm s.vm) m #[.ref mb, .int 1, .int 125] below meth c s₁ [] 0 0 := Stand.of_body Bd
  have e0 : s₁.heap = h0 := by rw [← hh, Bd.state]; rfl
  have N := Fr.nil n0
  have K := Keep.refl h0 [mb, (D 0), (D 1), (D 2), (D 3), (D 4), (D 5), (D 6), (D 7), (D 8), (D 9)]
  have hS := own_since0 s
  have hk : 0 ≤ h0.size := Nat.zero_le _
  refine own_startW (Z := Z) (Ts := [t2, t1]) (cl := (oQ 6 4 48 140).cells) (sl := (oQ 6 4 48 140).slots) (Q := (Q_rm_readC Z mb li D LN c1 c2 p1 q1 p2 q2 t1 t2 cs fo bo h0 n0)) (ef_rm_readC m mb ((1 : Int32)) ((125 : Int32))) ?_
  obtain ⟨l0, l1, l2, l3, l4, w5, d5, w6, l11, l12, l13, l14, l15, w16, d16, w17, l22, hk1, hk2, h12⟩ := HL
  have E_mb := M.1
  have f_10 := M.2.2.2.2.2.2.2.2.2.2.2.1
  have F_len := M.2.2.2.2.2.2.2.2.2.2.2.2.1
  obtain ⟨SC, hcs, SF, hfo, SB, EB⟩ := SS
  have ne_mb_li := (oP DI 0 1)
  refine own_byW (S' := (oM s₁ m 14 #[oR mb, oI 1, oI 125, oU, oU, oU, oU, oU, oU] [.ref mb, .ref mb])) (fun _ k => XS.iloadN X0.here hx rfl (G d10_0) rfl (XS.sipush X0.here hx rfl (G d10_1) (XS.icmpYes X0.here hx rfl (pc0 := 4) (pc' := 12) rfl (G d10_4) rfl (flt ((by decide) : ¬ ((255 : Int32) < (1 : Int32)))).2.2.2 (by decide) (by decide) (XS.aloadN X0.here hx rfl (G d10_12) rfl rfl (XS.dup X0.here hx rfl (G d10_13) rfl rfl k))))) ?_
  obtain ⟨T389, X389, e389, st389⟩ := getF X0 hx hZ hown (host := "") (Or.inl (gw hw 58 rfl)) Via.refl e0 f_17 (g := (mkF m 14 #[oR mb, oI 1, oI 125, oU, oU, oU, oU, oU, oU] [.ref mb, .ref mb])) rfl rfl (G d10_14)
  refine own_byW st389 ?_
  refine own_byW (S' := (oM T389 m 19 #[oR mb, oI 1, oI 125, oU, oU, oU, oU, oU, oU] [.int 1, .ref mb])) (fun _ k => XS.iconst X389.here hx rfl (G d10_17) (XS.iadd X389.here hx rfl (G d10_18) rfl k)) ?_
  obtain ⟨T390, h390, X390, e390, W390, st390⟩ := putF X389 hx hZ hown (host := "") (Or.inl (gw hw 58 rfl)) Via.refl e389 f_17 E_mb (Or.inl (gw hw 59 rfl)) (gw hw 13 rfl) (ty := .int) (by decide) rfl rfl (g := (mkF m 19 #[oR mb, oI 1, oI 125, oU, oU, oU, oU, oU, oU] [.int 1, .ref mb])) rfl rfl (G d10_19)
  have N := Fr.snoc X390 N DI.1
  have TB := own_tab_wr TB W390 (own_forE (gw hw 13 rfl) (by decide) E_mb)
  have hk := Nat.le_trans hk (Nat.le_of_eq W390.size.symm)
  have M := own_M_pos hw DI.2.2 M W390
  have E_mb := E_mb.wr W390
  have f_10 := oT f_10 W390 (Or.inl (gw hw 53 rfl)) (Or.inl (gw hw 59 rfl)) (.array .char) .int
  have F_len := oT F_len W390 (Or.inl (gw hw 55 rfl)) (Or.inl (gw hw 59 rfl)) .int .int
  have f_17 := f_17.same W390
  have A_li := A_li.other W390 (Ne.symm (oP DI 0 1))
  have O := O.wr W390 DI.1
  have Zn : n0 ≤ _ := Nat.le_trans Zn (Nat.le_of_eq W390.size.symm)
  have K := K.wr W390 (Or.inl (List.mem_of_getElem? (i := 0) rfl))
  refine own_byW st390 ?_
  refine own_byW (S' := (oM T390 m 23 #[oR mb, oI 1, oI 125, oU, oU, oU, oU, oU, oU] [.ref mb])) (fun _ k => XS.aloadN X390.here hx rfl (G d10_22) rfl rfl k) ?_
  obtain ⟨cq392, q392, q392'⟩ := E_mb.cell
  obtain ⟨_, _, ⟨T392, L392, k392, n392⟩, -, X392, ⟨Lc392, hQ392, l392, y392, z392⟩, st392⟩ := X390.privateBack hx (y := y_8) hown (mvT hZ (gw hw 69 rfl)) (mvT hZ (gw hw 70 rfl)) (own_selP hZ (gw hw 13 rfl) (gw hw 71 rfl) (gw hw 70 rfl) (by decide)) (Cond.privateMethod_at (mvP hZ (gw hw 71 rfl) (args := #[]))) (mvT hZ (gw hw 72 rfl)) (by decide) (backOf (W := 0) (rm_skip l Z a0 hw [] mb li LN 1 1 h390 n0 Zn E_mb f_17 F_len f_10 A_li DI.1 ne_mb_li (own_ws0 (by decide) l1 (by decide))) hZ (gw hw 72 rfl) (gw hw 14 rfl) (by decide) (by decide)) (g := (mkF m 23 #[oR mb, oI 1, oI 125, oU, oU, oU, oU, oU, oU] [.ref mb])) rfl (by rw [hml]; rfl) (Steps.refl _) (a := mb) (by rw [e390]; exact q392) q392' (argsL := []) (rest := []) (lenOf pd__28_29V rfl) rfl oZ (G d10_23) (fun _ _ => ⟨rfl, e390, (by decide : 0 + 0 ≤ _), (by decide : 0 + 0 ≤ _)⟩)
  dsimp only [Pt.U, Pt.locs, Pt.cells, Pt.slots] at X392 l392 y392 z392 st392 hQ392
  have X392 := own_recast X392 l392 y392 z392
  obtain ⟨rfl, N392q, Wp391⟩ := hQ392
  have N := Fr.app N N392q
  have TB := own_tab_wr TB Wp391 (own_forE (gw hw 13 rfl) (by decide) E_mb)
  have hk := Nat.le_trans hk (Nat.le_of_eq Wp391.size.symm)
  have M := own_M_pos hw DI.2.2 M Wp391
  have E_mb := E_mb.wr Wp391
  have f_10 := oT f_10 Wp391 (Or.inl (gw hw 53 rfl)) (Or.inl (gw hw 59 rfl)) (.array .char) .int
  have F_len := oT F_len Wp391 (Or.inl (gw hw 55 rfl)) (Or.inl (gw hw 59 rfl)) .int .int
  have f_17 := f_17.same Wp391
  have A_li := A_li.other Wp391 (Ne.symm (oP DI 0 1))
  have O := O.wr Wp391 DI.1
  have Zn : n0 ≤ _ := Nat.le_trans Zn (Nat.le_of_eq Wp391.size.symm)
  have K := K.wr Wp391 (Or.inl (List.mem_of_getElem? (i := 0) rfl))
  refine own_trW st392 ?_
  refine own_byW (S' := (oM T392 m 28 #[oR mb, oI 1, oI 125, oU, oU, oU, oU, oU, oU] [.int 125, .ref mb])) (fun _ k => XS.aloadN X392.here hx rfl (G d10_26) rfl rfl (XS.iloadN X392.here hx rfl (G d10_27) rfl k)) ?_
  obtain ⟨cq394, q394, q394'⟩ := E_mb.cell
  obtain ⟨_, _, ⟨T394, L394, k394, n394⟩, -, X394, ⟨Lc394, hQ394, l394, y394, z394⟩, st394⟩ := X392.privateBack hx (y := y_11) hown (mvT hZ (gw hw 80 rfl)) (mvT hZ (gw hw 81 rfl)) (own_selP hZ (gw hw 13 rfl) (gw hw 82 rfl) (gw hw 81 rfl) (by decide)) (Cond.privateMethod_at (mvP hZ (gw hw 82 rfl) (args := #[]))) (mvT hZ (gw hw 83 rfl)) (by decide) (backOf (W := 0) (rm_takeN l Z a0 hw [] mb li LN (125 : Int32) (34 : Int32) 1 T392.heap n0 Zn E_mb f_17 F_len f_10 A_li DI.1 ne_mb_li (by decide) l1 (by decide)) hZ (gw hw 83 rfl) (gw hw 14 rfl) (by decide) (by decide)) (g := (mkF m 28 #[oR mb, oI 1, oI 125, oU, oU, oU, oU, oU, oU] [.int 125, .ref mb])) rfl (by rw [hml]; rfl) (Steps.refl _) (a := mb) q394 q394' (argsL := [.int 125]) (rest := []) (lenOf pd__28C_29Z rfl) rfl oZ (G d10_28) (fun _ _ => ⟨rfl, rfl, (by decide : 0 + 0 ≤ _), (by decide : 0 + 0 ≤ _)⟩)
  dsimp only [Pt.U, Pt.locs, Pt.cells, Pt.slots] at X394 l394 y394 z394 st394 hQ394
  have X394 := own_recast X394 l394 y394 z394
  obtain ⟨rfl, N394q, eh393⟩ := hQ394
  have N := Fr.app N N394q
  refine own_trW st394 ?_
  refine own_byW (S' := (oM T394 m 45 #[oR mb, oI 1, oI 125, oI 1, oU, oU, oU, oU, oU] [.ref mb])) (fun _ k => XS.ifNo X394.here hx rfl (G d10_31) rfl ((if0 _ _).trans (teq ((by decide) : (0 : Int32) = (0 : Int32))).2) (XS.iconst X394.here hx rfl (G d10_34) (XS.goto X394.here hx rfl (pc0 := 35) (pc' := 39) rfl (G d10_35) (by decide) (by decide) (XS.istoreN X394.here hx rfl (G d10_39) rfl (l' := #[oR mb, oI 1, oI 125, oI 1, oU, oU, oU, oU, oU]) rfl (XS.iloadN X394.here hx rfl (G d10_40) rfl (XS.ifNo X394.here hx rfl (G d10_41) rfl ((if0 _ _).trans (feq ((by decide) : ¬ ((1 : Int32) = (0 : Int32)))).1) (XS.aloadN X394.here hx rfl (G d10_44) rfl rfl k))))))) ?_
  obtain ⟨T395, X395, e395, st395⟩ := getF X394 hx hZ hown (host := "") (Or.inl (gw hw 58 rfl)) Via.refl eh393 f_17 (g := (mkF m 45 #[oR mb, oI 1, oI 125, oI 1, oU, oU, oU, oU, oU] [.ref mb])) rfl rfl (G d10_45)
  refine own_byW st395 ?_
  refine own_byW (S' := (oM T395 m 51 #[oR mb, oI 1, oI 125, oI 1, oI 1, oU, oU, oU, oU] [.ref mb])) (fun _ k => XS.istore X395.here hx rfl (G d10_48) rfl (l' := #[oR mb, oI 1, oI 125, oI 1, oI 1, oU, oU, oU, oU]) rfl (XS.aloadN X395.here hx rfl (G d10_50) rfl rfl k)) ?_
  obtain ⟨T396, X396, e396, st396⟩ := getF X395 hx hZ hown (host := "") (Or.inl (gw hw 58 rfl)) Via.refl e395 f_17 (g := (mkF m 51 #[oR mb, oI 1, oI 125, oI 1, oI 1, oU, oU, oU, oU] [.ref mb])) rfl rfl (G d10_51)
  refine own_byW st396 ?_
  refine own_byW (S' := (oM T396 m 66 #[oR mb, oI 1, oI 125, oI 1, oI 1, oI 1, oI 0, oU, oU] [.ref mb])) (fun _ k => XS.istore X396.here hx rfl (G d10_54) rfl (l' := #[oR mb, oI 1, oI 125, oI 1, oI 1, oI 1, oU, oU, oU]) rfl (XS.iconst X396.here hx rfl (G d10_56) (XS.istore X396.here hx rfl (G d10_57) rfl (l' := #[oR mb, oI 1, oI 125, oI 1, oI 1, oI 1, oI 0, oU, oU]) rfl (XS.iloadN X396.here hx rfl (G d10_59) rfl (XS.bipush X396.here hx rfl (G d10_60) (XS.icmpNo X396.here hx rfl (G d10_62) rfl (teq ((by decide) : (125 : Int32) = (125 : Int32))).2 (XS.aloadN X396.here hx rfl (G d10_65) rfl rfl k))))))) ?_
  obtain ⟨cq398, q398, q398'⟩ := E_mb.cell
  obtain ⟨_, _, ⟨T398, L398, k398, n398⟩, -, X398, ⟨Lc398, hQ398, l398, y398, z398⟩, st398⟩ := X396.privateBack hx (y := y_12) hown (mvT hZ (gw hw 84 rfl)) (mvT hZ (gw hw 85 rfl)) (own_selP hZ (gw hw 13 rfl) (gw hw 86 rfl) (gw hw 85 rfl) (by decide)) (Cond.privateMethod_at (mvP hZ (gw hw 86 rfl) (args := #[]))) (mvT hZ (gw hw 87 rfl)) (by decide) (backOf (W := 0) (rm_readString1 l Z a0 hw [] mb li LN c1 T392.heap n0 Zn E_mb f_17 F_len f_10 A_li DI.1 ne_mb_li l1 l2 l3 hk1) hZ (gw hw 87 rfl) (gw hw 14 rfl) (by decide) (by decide)) (g := (mkF m 66 #[oR mb, oI 1, oI 125, oI 1, oI 1, oI 1, oI 0, oU, oU] [.ref mb])) rfl (by rw [hml]; rfl) (Steps.refl _) (a := mb) (by rw [e396]; exact q398) q398' (argsL := []) (rest := []) (lenOf pd__28_29Z rfl) rfl oZ (G d10_66) (fun _ _ => ⟨rfl, e396, (by decide : 0 + 0 ≤ _), (by decide : 0 + 0 ≤ _)⟩)
  dsimp only [Pt.U, Pt.locs, Pt.cells, Pt.slots] at X398 l398 y398 z398 st398 hQ398
  have X398 := own_recast X398 l398 y398 z398
  obtain ⟨rfl, N398q, Wp397⟩ := hQ398
  have N := Fr.app N N398q
  have TB := own_tab_wr TB Wp397 (own_forE (gw hw 13 rfl) (by decide) E_mb)
  have hk := Nat.le_trans hk (Nat.le_of_eq Wp397.size.symm)
  have M := own_M_pos hw DI.2.2 M Wp397
  have E_mb := E_mb.wr Wp397
  have f_10 := oT f_10 Wp397 (Or.inl (gw hw 53 rfl)) (Or.inl (gw hw 59 rfl)) (.array .char) .int
  have F_len := oT F_len Wp397 (Or.inl (gw hw 55 rfl)) (Or.inl (gw hw 59 rfl)) .int .int
  have f_17 := f_17.same Wp397
  have A_li := A_li.other Wp397 (Ne.symm (oP DI 0 1))
  have O := O.wr Wp397 DI.1
  have Zn : n0 ≤ _ := Nat.le_trans Zn (Nat.le_of_eq Wp397.size.symm)
  have K := K.wr Wp397 (Or.inl (List.mem_of_getElem? (i := 0) rfl))
  refine own_trW st398 ?_
  refine own_byW (S' := (oM T398 m 72 #[oR mb, oI 1, oI 125, oI 1, oI 1, oI 1, oI 0, oU, oU] [.ref mb])) (fun _ k => XS.istore X398.here hx rfl (G d10_69) rfl (l' := #[oR mb, oI 1, oI 125, oI 1, oI 1, oI 1, oI 0, oU, oU]) rfl (XS.aloadN X398.here hx rfl (G d10_71) rfl rfl k)) ?_
  obtain ⟨T399, X399, e399, st399⟩ := getF X398 hx hZ hown (host := "") (Or.inl (gw hw 58 rfl)) Via.refl rfl f_17 (g := (mkF m 72 #[oR mb, oI 1, oI 125, oI 1, oI 1, oI 1, oI 0, oU, oU] [.ref mb])) rfl rfl (G d10_72)
  refine own_byW st399 ?_
  refine own_byW (S' := (oM T399 m 78 #[oR mb, oI 1, oI 125, oI 1, oI 1, oI 4, oI 0, oU, oU] [.ref mb])) (fun _ k => XS.istore X399.here hx rfl (G d10_75) rfl (l' := #[oR mb, oI 1, oI 125, oI 1, oI 1, oI 4, oI 0, oU, oU]) rfl (XS.aloadN X399.here hx rfl (G d10_77) rfl rfl k)) ?_
  obtain ⟨cq401, q401, q401'⟩ := E_mb.cell
  obtain ⟨_, _, ⟨T401, L401, k401, n401⟩, -, X401, ⟨Lc401, hQ401, l401, y401, z401⟩, st401⟩ := X399.privateBack hx (y := y_8) hown (mvT hZ (gw hw 69 rfl)) (mvT hZ (gw hw 70 rfl)) (own_selP hZ (gw hw 13 rfl) (gw hw 71 rfl) (gw hw 70 rfl) (by decide)) (Cond.privateMethod_at (mvP hZ (gw hw 71 rfl) (args := #[]))) (mvT hZ (gw hw 72 rfl)) (by decide) (backOf (W := 0) (rm_skip l Z a0 hw [] mb li LN 4 4 T398.heap n0 Zn E_mb f_17 F_len f_10 A_li DI.1 ne_mb_li (own_ws0 (by decide) l4 (by decide))) hZ (gw hw 72 rfl) (gw hw 14 rfl) (by decide) (by decide)) (g := (mkF m 78 #[oR mb, oI 1, oI 125, oI 1, oI 1, oI 4, oI 0, oU, oU] [.ref mb])) rfl (by rw [hml]; rfl) (Steps.refl _) (a := mb) (by rw [e399]; exact q401) q401' (argsL := []) (rest := []) (lenOf pd__28_29V rfl) rfl oZ (G d10_78) (fun _ _ => ⟨rfl, e399, (by decide : 0 + 0 ≤ _), (by decide : 0 + 0 ≤ _)⟩)
  dsimp only [Pt.U, Pt.locs, Pt.cells, Pt.slots] at X401 l401 y401 z401 st401 hQ401
  have X401 := own_recast X401 l401 y401 z401
  obtain ⟨rfl, N401q, Wp400⟩ := hQ401
  have N := Fr.app N N401q
  have TB := own_tab_wr TB Wp400 (own_forE (gw hw 13 rfl) (by decide) E_mb)
  have hk := Nat.le_trans hk (Nat.le_of_eq Wp400.size.symm)
  have M := own_M_pos hw DI.2.2 M Wp400
  have E_mb := E_mb.wr Wp400
  have f_10 := oT f_10 Wp400 (Or.inl (gw hw 53 rfl)) (Or.inl (gw hw 59 rfl)) (.array .char) .int
  have F_len := oT F_len Wp400 (Or.inl (gw hw 55 rfl)) (Or.inl (gw hw 59 rfl)) .int .int
  have f_17 := f_17.same Wp400
  have A_li := A_li.other Wp400 (Ne.symm (oP DI 0 1))
  have O := O.wr Wp400 DI.1
  have Zn : n0 ≤ _ := Nat.le_trans Zn (Nat.le_of_eq Wp400.size.symm)
  have K := K.wr Wp400 (Or.inl (List.mem_of_getElem? (i := 0) rfl))
  refine own_trW st401 ?_
  refine own_byW (S' := (oM T401 m 84 #[oR mb, oI 1, oI 125, oI 1, oI 1, oI 4, oI 0, oU, oU] [.int 58, .ref mb])) (fun _ k => XS.aloadN X401.here hx rfl (G d10_81) rfl rfl (XS.bipush X401.here hx rfl (G d10_82) k)) ?_
  obtain ⟨cq403, q403, q403'⟩ := E_mb.cell
  obtain ⟨_, _, ⟨T403, L403, k403, n403⟩, -, X403, ⟨Lc403, hQ403, l403, y403, z403⟩, st403⟩ := X401.privateBack hx (y := y_11) hown (mvT hZ (gw hw 80 rfl)) (mvT hZ (gw hw 81 rfl)) (own_selP hZ (gw hw 13 rfl) (gw hw 82 rfl) (gw hw 81 rfl) (by decide)) (Cond.privateMethod_at (mvP hZ (gw hw 82 rfl) (args := #[]))) (mvT hZ (gw hw 83 rfl)) (by decide) (backOf (W := 0) (rm_takeY l Z a0 hw [] mb li LN (58 : Int32) 4 T401.heap n0 Zn E_mb f_17 F_len f_10 A_li DI.1 ne_mb_li (by decide) l4) hZ (gw hw 83 rfl) (gw hw 14 rfl) (by decide) (by decide)) (g := (mkF m 84 #[oR mb, oI 1, oI 125, oI 1, oI 1, oI 4, oI 0, oU, oU] [.int 58, .ref mb])) rfl (by rw [hml]; rfl) (Steps.refl _) (a := mb) q403 q403' (argsL := [.int 58]) (rest := []) (lenOf pd__28C_29Z rfl) rfl oZ (G d10_84) (fun _ _ => ⟨rfl, rfl, (by decide : 0 + 0 ≤ _), (by decide : 0 + 0 ≤ _)⟩)
  dsimp only [Pt.U, Pt.locs, Pt.cells, Pt.slots] at X403 l403 y403 z403 st403 hQ403
  have X403 := own_recast X403 l403 y403 z403
  obtain ⟨rfl, N403q, Wp402⟩ := hQ403
  have N := Fr.app N N403q
  have TB := own_tab_wr TB Wp402 (own_forE (gw hw 13 rfl) (by decide) E_mb)
  have hk := Nat.le_trans hk (Nat.le_of_eq Wp402.size.symm)
  have M := own_M_pos hw DI.2.2 M Wp402
  have E_mb := E_mb.wr Wp402
  have f_10 := oT f_10 Wp402 (Or.inl (gw hw 53 rfl)) (Or.inl (gw hw 59 rfl)) (.array .char) .int
  have F_len := oT F_len Wp402 (Or.inl (gw hw 55 rfl)) (Or.inl (gw hw 59 rfl)) .int .int
  have f_17 := f_17.same Wp402
  have A_li := A_li.other Wp402 (Ne.symm (oP DI 0 1))
  have O := O.wr Wp402 DI.1
  have Zn : n0 ≤ _ := Nat.le_trans Zn (Nat.le_of_eq Wp402.size.symm)
  have K := K.wr Wp402 (Or.inl (List.mem_of_getElem? (i := 0) rfl))
  refine own_trW st403 ?_
  refine own_byW (S' := (oM T403 m 90 #[oR mb, oI 1, oI 125, oI 1, oI 1, oI 4, oI 0, oI 1, oU] [.ref mb])) (fun _ k => XS.istore X403.here hx rfl (G d10_87) rfl (l' := #[oR mb, oI 1, oI 125, oI 1, oI 1, oI 4, oI 0, oI 1, oU]) rfl (XS.aloadN X403.here hx rfl (G d10_89) rfl rfl k)) ?_
  obtain ⟨cq405, q405, q405'⟩ := E_mb.cell
  obtain ⟨_, _, ⟨T405, L405, k405, n405⟩, -, X405, ⟨Lc405, hQ405, l405, y405, z405⟩, st405⟩ := X403.privateBack hx (y := y_8) hown (mvT hZ (gw hw 69 rfl)) (mvT hZ (gw hw 70 rfl)) (own_selP hZ (gw hw 13 rfl) (gw hw 71 rfl) (gw hw 70 rfl) (by decide)) (Cond.privateMethod_at (mvP hZ (gw hw 71 rfl) (args := #[]))) (mvT hZ (gw hw 72 rfl)) (by decide) (backOf (W := 0) (rm_skip l Z a0 hw [] mb li LN 5 p1 T403.heap n0 Zn E_mb f_17 F_len f_10 A_li DI.1 ne_mb_li w5) hZ (gw hw 72 rfl) (gw hw 14 rfl) (by decide) (by decide)) (g := (mkF m 90 #[oR mb, oI 1, oI 125, oI 1, oI 1, oI 4, oI 0, oI 1, oU] [.ref mb])) rfl (by rw [hml]; rfl) (Steps.refl _) (a := mb) q405 q405' (argsL := []) (rest := []) (lenOf pd__28_29V rfl) rfl oZ (G d10_90) (fun _ _ => ⟨rfl, rfl, (by decide : 0 + 0 ≤ _), (by decide : 0 + 0 ≤ _)⟩)
  dsimp only [Pt.U, Pt.locs, Pt.cells, Pt.slots] at X405 l405 y405 z405 st405 hQ405
  have X405 := own_recast X405 l405 y405 z405
  obtain ⟨rfl, N405q, Wp404⟩ := hQ405
  have N := Fr.app N N405q
  have TB := own_tab_wr TB Wp404 (own_forE (gw hw 13 rfl) (by decide) E_mb)
  have hk := Nat.le_trans hk (Nat.le_of_eq Wp404.size.symm)
  have M := own_M_pos hw DI.2.2 M Wp404
  have E_mb := E_mb.wr Wp404
  have f_10 := oT f_10 Wp404 (Or.inl (gw hw 53 rfl)) (Or.inl (gw hw 59 rfl)) (.array .char) .int
  have F_len := oT F_len Wp404 (Or.inl (gw hw 55 rfl)) (Or.inl (gw hw 59 rfl)) .int .int
  have f_17 := f_17.same Wp404
  have A_li := A_li.other Wp404 (Ne.symm (oP DI 0 1))
  have O := O.wr Wp404 DI.1
  have Zn : n0 ≤ _ := Nat.le_trans Zn (Nat.le_of_eq Wp404.size.symm)
  have K := K.wr Wp404 (Or.inl (List.mem_of_getElem? (i := 0) rfl))
  refine own_trW st405 ?_
  refine own_byW (S' := (oM T405 m 99 #[oR mb, oI 1, oI 125, oI 1, oI 1, oI 4, oI 0, oI 1, oU] [.ref mb])) (fun _ k => XS.iloadN X405.here hx rfl (G d10_93) rfl (XS.iconst X405.here hx rfl (G d10_94) (XS.icmpNo X405.here hx rfl (G d10_95) rfl (teq ((by decide) : (1 : Int32) = (1 : Int32))).2 (XS.aloadN X405.here hx rfl (G d10_98) rfl rfl k)))) ?_
  obtain ⟨T406, X406, e406, st406⟩ := getF X405 hx hZ hown (host := "") (Or.inl (gw hw 58 rfl)) Via.refl rfl f_17 (g := (mkF m 99 #[oR mb, oI 1, oI 125, oI 1, oI 1, oI 4, oI 0, oI 1, oU] [.ref mb])) rfl rfl (G d10_99)
  refine own_byW st406 ?_
  refine own_byW (S' := (oM T406 m 103 #[oR mb, oI 1, oI 125, oI 1, oI 1, oI 4, oI 0, oI 1, oU] [.ref mb, (.int (Int32.ofNat p1))])) (fun _ k => XS.aloadN X406.here hx rfl (G d10_102) rfl rfl k) ?_
  obtain ⟨T407, X407, e407, st407⟩ := getF X406 hx hZ hown (host := "") (Or.inl (gw hw 54 rfl)) Via.refl e406 F_len (g := (mkF m 103 #[oR mb, oI 1, oI 125, oI 1, oI 1, oI 4, oI 0, oI 1, oU] [.ref mb, (.int (Int32.ofNat p1))])) rfl rfl (G d10_103)
  refine own_byW st407 ?_
  refine own_byW (S' := (oM T407 m 142 #[oR mb, oI 1, oI 125, oI 1, oI 1, oI 4, oI 0, oI 1, oU] [.ref mb])) (fun _ k => XS.icmpYes X407.here hx rfl (pc0 := 106) (pc' := 131) rfl (G d10_106) rfl (feq ((own_ofne (n := 23) (by have := d5.1; have := d5.2.1; omega) (by decide) (by have := d5.1; have := d5.2.1; omega)) : ¬ ((Int32.ofNat p1) = (23 : Int32)))).2 (by decide) (by decide) (XS.iload X407.here hx rfl (G d10_131) rfl (XS.ifYes X407.here hx rfl (pc0 := 133) (pc' := 141) rfl (G d10_133) rfl ((if0 _ _).trans (feq ((by decide) : ¬ ((1 : Int32) = (0 : Int32)))).2) (by decide) (by decide) (XS.aloadN X407.here hx rfl (G d10_141) rfl rfl k)))) ?_
  obtain ⟨T408, X408, e408, st408⟩ := getF X407 hx hZ hown (host := "") (Or.inl (gw hw 58 rfl)) Via.refl e407 f_17 (g := (mkF m 142 #[oR mb, oI 1, oI 125, oI 1, oI 1, oI 4, oI 0, oI 1, oU] [.ref mb])) rfl rfl (G d10_142)
  refine own_byW st408 ?_
  refine own_byW (S' := (oM T408 m 149 #[oR mb, oI 1, oI 125, oI 1, oI 1, oI 4, oI 0, oI (Int32.ofNat p1), oU] [.int 1, .ref mb])) (fun _ k => XS.istore X408.here hx rfl (G d10_145) rfl (l' := #[oR mb, oI 1, oI 125, oI 1, oI 1, oI 4, oI 0, oI (Int32.ofNat p1), oU]) rfl (XS.aloadN X408.here hx rfl (G d10_147) rfl rfl (XS.iloadN X408.here hx rfl (G d10_148) rfl k))) ?_
  obtain ⟨cq410, q410, q410'⟩ := E_mb.cell
  obtain ⟨_, _, ⟨T410, L410, k410, n410⟩, -, X410, S410, G410, ⟨Lc410, hQ410, TB, l410, y410, z410⟩, st410⟩ := X408.privateBackS hx (y := y_14) hown (mvT hZ (gw hw 92 rfl)) (mvT hZ (gw hw 93 rfl)) (own_selP hZ (gw hw 13 rfl) (gw hw 94 rfl) (gw hw 93 rfl) (by decide)) (Cond.privateMethod_at (mvP hZ (gw hw 94 rfl) (args := #[]))) (mvT hZ (gw hw 95 rfl)) (by decide) (own_backS (W := 0) (rm_val l Z a0 hw [] mb li LN p1 q1 t1 [] cs fo bo T405.heap n0 Zn E_mb f_17 F_len f_10 A_li DI.1 ne_mb_li d5 O ⟨SC, hcs, SF, hfo, SB, EB⟩ HC HW) hZ (gw hw 95 rfl) (gw hw 14 rfl) (by decide) (by decide)) (g := (mkF m 149 #[oR mb, oI 1, oI 125, oI 1, oI 1, oI 4, oI 0, oI (Int32.ofNat p1), oU] [.int 1, .ref mb])) rfl (by rw [hml]; rfl) (Steps.refl _) (a := mb) (by rw [e408]; exact q410) q410' (argsL := [.int 1]) (rest := []) (lenOf pd__28I_29Lcom_2fexample_2fupright_5fplay_2fuprightplay_2fevent_2fMembers_24Type_3b rfl) rfl oZ (G d10_149) (fun _ hv => ⟨rfl, e408, own_tab_warm TB hv, (by decide : 0 + 2 ≤ _), (by decide : 0 + 24 ≤ _)⟩)
  dsimp only [Pt.U, Pt.locs, Pt.cells, Pt.slots] at X410 l410 y410 z410 st410 hQ410
  have X410 := own_recast X410 l410 y410 z410
  dsimp only [Pt.U, Pt.locs, Pt.cells, Pt.slots] at S410 G410 TB
  obtain ⟨X410, hS, hZ, hown⟩ := rebS hS (show _ ≤ T408.heap.size by rw [e408]; exact hk) X410 S410 G410 hZ hown
  obtain ⟨rfl, N410q, hxv409, Exv409, Wxv409⟩ := hQ410
  have N := Fr.app N N410q
  have M := own_M_ext M Exv409
  have E_mb := E_mb.ext Exv409
  have f_10 := f_10.ext Exv409
  have F_len := F_len.ext Exv409
  have f_17 := f_17.ext Exv409
  have A_li := A_li.ext Exv409
  have O := O.ext Exv409
  have Zn := Nat.le_trans Zn Exv409.1
  have K := K.ext Exv409
  have M := own_M_pos hw DI.2.2 M Wxv409
  have E_mb := E_mb.wr Wxv409
  have f_10 := oT f_10 Wxv409 (Or.inl (gw hw 53 rfl)) (Or.inl (gw hw 59 rfl)) (.array .char) .int
  have F_len := oT F_len Wxv409 (Or.inl (gw hw 55 rfl)) (Or.inl (gw hw 59 rfl)) .int .int
  have f_17 := f_17.same Wxv409
  have A_li := A_li.other Wxv409 (Ne.symm (oP DI 0 1))
  have O := O.wr Wxv409 DI.1
  have Zn : n0 ≤ _ := Nat.le_trans Zn (Nat.le_of_eq Wxv409.size.symm)
  have K := K.wr Wxv409 (Or.inl (List.mem_of_getElem? (i := 0) rfl))
  have hk : T410.heap.size ≤ T410.heap.size := Nat.le_refl _
  refine own_trW st410 ?_
  refine own_byW (S' := (oM T410 m 170 #[oR mb, oI 1, oI 125, oI 1, oI 1, oI 4, oI 0, oI (Int32.ofNat p1), oR bo] [(.int (Int32.ofNat p1)), .ref bo, .int 0, .int 4, .int 1, .ref mb])) (fun _ k => XS.astore X410.here hx rfl (G d10_152) rfl rfl (l' := #[oR mb, oI 1, oI 125, oI 1, oI 1, oI 4, oI 0, oI (Int32.ofNat p1), oR bo]) rfl (XS.iloadN X410.here hx rfl (G d10_154) rfl (XS.iconst X410.here hx rfl (G d10_155) (XS.icmpNo X410.here hx rfl (G d10_156) rfl (teq ((by decide) : (1 : Int32) = (1 : Int32))).2 (XS.aloadN X410.here hx rfl (G d10_159) rfl rfl (XS.iload X410.here hx rfl (G d10_160) rfl (XS.iload X410.here hx rfl (G d10_162) rfl (XS.iload X410.here hx rfl (G d10_164) rfl (XS.aload X410.here hx rfl (G d10_166) rfl rfl (XS.iload X410.here hx rfl (G d10_168) rfl k)))))))))) ?_
  have Mfor := own_M_for (gw hw 13 rfl) (gw hw 98 rfl) M own_V0len
  obtain ⟨cq411, q411, q411'⟩ := E_mb.cell
  obtain ⟨_, _, ⟨T411, L411, k411, n411⟩, -, X411, ⟨Lc411, hQ411, l411, y411, z411⟩, st411⟩ := X410.privateBack hx (y := y_25) hown (mvT hZ (gw hw 152 rfl)) (mvT hZ (gw hw 153 rfl)) (own_selP hZ (gw hw 13 rfl) (gw hw 154 rfl) (gw hw 153 rfl) (by decide)) (Cond.privateMethod_at (mvP hZ (gw hw 154 rfl) (args := #[]))) (mvT hZ (gw hw 155 rfl)) (by decide) (backOf (W := 0) (rm_add0 l Z a0 hw [] mb li D LN c1 (Int32.ofNat p1) (Int32.ofNat q1) cs fo bo T410.heap n0 Zn M DI A_li f_17 l2 hk1 O ⟨SC, hcs, SF, hfo, SB, EB⟩) hZ (gw hw 155 rfl) (gw hw 14 rfl) (by decide) (by decide)) (g := (mkF m 170 #[oR mb, oI 1, oI 125, oI 1, oI 1, oI 4, oI 0, oI (Int32.ofNat p1), oR bo] [(.int (Int32.ofNat p1)), .ref bo, .int 0, .int 4, .int 1, .ref mb])) rfl (by rw [hml]; rfl) (Steps.refl _) (a := mb) q411 q411' (argsL := [.int 1, .int 4, .int 0, .ref bo, (.int (Int32.ofNat p1))]) (rest := []) (lenOf pd__28IIZLcom_2fexample_2fupright_5fplay_2fuprightplay_2fevent_2fMembers_24Type_3bI_29V rfl) rfl oZ (G d10_170) (fun _ _ => ⟨rfl, rfl, (by decide : 2 + 0 ≤ _), (by decide : 24 + 0 ≤ _)⟩)
  dsimp only [Pt.U, Pt.locs, Pt.cells, Pt.slots] at X411 l411 y411 z411 st411 hQ411
  have X411 := own_recast X411 l411 y411 z411
  obtain ⟨rfl, N411q, Ka, M, f_17⟩ := hQ411
  have N := Fr.app N N411q
  have TB := own_tab_keep TB Ka Mfor
  have hk := Nat.le_trans hk Ka.1
  have E_mb := E_mb.keep Ka
  have A_li := A_li.keep Ka (ninS (Ne.symm (oP DI 0 1)) (ninS (oP DI 1 2) (ninS (oP DI 1 3) (ninS (oP DI 1 4) (ninS (oP DI 1 5) (ninS (oP DI 1 6) (ninS (oP DI 1 7) (ninS (oP DI 1 8) (ninS (oP DI 1 9) (ninS (oP DI 1 10) (ninS (oP DI 1 11) nin0)))))))))))
  have O := O.keep Ka (allS DI.1 (allS (DI.2.1 0 (by decide)) (allS (DI.2.1 1 (by decide)) (allS (DI.2.1 2 (by decide)) (allS (DI.2.1 3 (by decide)) (allS (DI.2.1 4 (by decide)) (allS (DI.2.1 5 (by decide)) (allS (DI.2.1 6 (by decide)) (allS (DI.2.1 7 (by decide)) (allS (DI.2.1 8 (by decide)) (allS (DI.2.1 9 (by decide)) all0)))))))))))
  have Zn : n0 ≤ _ := Nat.le_trans Zn Ka.1
  have K := K.trans Ka (allS (Or.inl (List.mem_of_getElem? (i := 0) rfl)) (allS (Or.inl (List.mem_of_getElem? (i := 1) rfl)) (allS (Or.inl (List.mem_of_getElem? (i := 2) rfl)) (allS (Or.inl (List.mem_of_getElem? (i := 3) rfl)) (allS (Or.inl (List.mem_of_getElem? (i := 4) rfl)) (allS (Or.inl (List.mem_of_getElem? (i := 5) rfl)) (allS (Or.inl (List.mem_of_getElem? (i := 6) rfl)) (allS (Or.inl (List.mem_of_getElem? (i := 7) rfl)) (allS (Or.inl (List.mem_of_getElem? (i := 8) rfl)) (allS (Or.inl (List.mem_of_getElem? (i := 9) rfl)) (allS (Or.inl (List.mem_of_getElem? (i := 10) rfl)) all0)))))))))))
  refine own_trW st411 ?_
  have E_mb := M.1
  have f_10 := M.2.2.2.2.2.2.2.2.2.2.2.1
  have F_len := M.2.2.2.2.2.2.2.2.2.2.2.2.1
  refine own_byW (S' := (oM T411 m 174 #[oR mb, oI 1, oI 125, oI 1, oI 1, oI 4, oI 0, oI (Int32.ofNat p1), oR bo] [.ref mb])) (fun _ k => XS.aloadN X411.here hx rfl (G d10_173) rfl rfl k) ?_
  obtain ⟨cq413, q413, q413'⟩ := E_mb.cell
  obtain ⟨_, _, ⟨T413, L413, k413, n413⟩, -, X413, ⟨Lc413, hQ413, l413, y413, z413⟩, st413⟩ := X411.privateBack hx (y := y_8) hown (mvT hZ (gw hw 69 rfl)) (mvT hZ (gw hw 70 rfl)) (own_selP hZ (gw hw 13 rfl) (gw hw 71 rfl) (gw hw 70 rfl) (by decide)) (Cond.privateMethod_at (mvP hZ (gw hw 71 rfl) (args := #[]))) (mvT hZ (gw hw 72 rfl)) (by decide) (backOf (W := 0) (rm_skip l Z a0 hw [] mb li LN q1 11 T411.heap n0 Zn E_mb f_17 F_len f_10 A_li DI.1 ne_mb_li w6) hZ (gw hw 72 rfl) (gw hw 14 rfl) (by decide) (by decide)) (g := (mkF m 174 #[oR mb, oI 1, oI 125, oI 1, oI 1, oI 4, oI 0, oI (Int32.ofNat p1), oR bo] [.ref mb])) rfl (by rw [hml]; rfl) (Steps.refl _) (a := mb) q413 q413' (argsL := []) (rest := []) (lenOf pd__28_29V rfl) rfl oZ (G d10_174) (fun _ _ => ⟨rfl, rfl, (by decide : 2 + 0 ≤ _), (by decide : 24 + 0 ≤ _)⟩)
  dsimp only [Pt.U, Pt.locs, Pt.cells, Pt.slots] at X413 l413 y413 z413 st413 hQ413
  have X413 := own_recast X413 l413 y413 z413
  obtain ⟨rfl, N413q, Wp412⟩ := hQ413
  have N := Fr.app N N413q
  have TB := own_tab_wr TB Wp412 (own_forE (gw hw 13 rfl) (by decide) E_mb)
  have hk := Nat.le_trans hk (Nat.le_of_eq Wp412.size.symm)
  have E_mb := E_mb.wr Wp412
  have A_li := A_li.other Wp412 (Ne.symm (oP DI 0 1))
  have O := O.wr Wp412 DI.1
  have M := own_M_pos hw DI.2.2 M Wp412
  have f_17 := f_17.same Wp412
  have f_10 := oT f_10 Wp412 (Or.inl (gw hw 53 rfl)) (Or.inl (gw hw 59 rfl)) (.array .char) .int
  have F_len := oT F_len Wp412 (Or.inl (gw hw 55 rfl)) (Or.inl (gw hw 59 rfl)) .int .int
  have Zn : n0 ≤ _ := Nat.le_trans Zn (Nat.le_of_eq Wp412.size.symm)
  have K := K.wr Wp412 (Or.inl (List.mem_of_getElem? (i := 0) rfl))
  refine own_trW st413 ?_
  refine own_byW (S' := (oM T413 m 180 #[oR mb, oI 1, oI 125, oI 1, oI 1, oI 4, oI 0, oI (Int32.ofNat p1), oR bo] [.int 44, .ref mb])) (fun _ k => XS.aloadN X413.here hx rfl (G d10_177) rfl rfl (XS.bipush X413.here hx rfl (G d10_178) k)) ?_
  obtain ⟨cq415, q415, q415'⟩ := E_mb.cell
  obtain ⟨_, _, ⟨T415, L415, k415, n415⟩, -, X415, ⟨Lc415, hQ415, l415, y415, z415⟩, st415⟩ := X413.privateBack hx (y := y_11) hown (mvT hZ (gw hw 80 rfl)) (mvT hZ (gw hw 81 rfl)) (own_selP hZ (gw hw 13 rfl) (gw hw 82 rfl) (gw hw 81 rfl) (by decide)) (Cond.privateMethod_at (mvP hZ (gw hw 82 rfl) (args := #[]))) (mvT hZ (gw hw 83 rfl)) (by decide) (backOf (W := 0) (rm_takeY l Z a0 hw [] mb li LN (44 : Int32) 11 T413.heap n0 Zn E_mb f_17 F_len f_10 A_li DI.1 ne_mb_li (by decide) l11) hZ (gw hw 83 rfl) (gw hw 14 rfl) (by decide) (by decide)) (g := (mkF m 180 #[oR mb, oI 1, oI 125, oI 1, oI 1, oI 4, oI 0, oI (Int32.ofNat p1), oR bo] [.int 44, .ref mb])) rfl (by rw [hml]; rfl) (Steps.refl _) (a := mb) q415 q415' (argsL := [.int 44]) (rest := []) (lenOf pd__28C_29Z rfl) rfl oZ (G d10_180) (fun _ _ => ⟨rfl, rfl, (by decide : 2 + 0 ≤ _), (by decide : 24 + 0 ≤ _)⟩)
  dsimp only [Pt.U, Pt.locs, Pt.cells, Pt.slots] at X415 l415 y415 z415 st415 hQ415
  have X415 := own_recast X415 l415 y415 z415
  obtain ⟨rfl, N415q, Wp414⟩ := hQ415
  have N := Fr.app N N415q
  have TB := own_tab_wr TB Wp414 (own_forE (gw hw 13 rfl) (by decide) E_mb)
  have hk := Nat.le_trans hk (Nat.le_of_eq Wp414.size.symm)
  have E_mb := E_mb.wr Wp414
  have A_li := A_li.other Wp414 (Ne.symm (oP DI 0 1))
  have O := O.wr Wp414 DI.1
  have M := own_M_pos hw DI.2.2 M Wp414
  have f_17 := f_17.same Wp414
  have f_10 := oT f_10 Wp414 (Or.inl (gw hw 53 rfl)) (Or.inl (gw hw 59 rfl)) (.array .char) .int
  have F_len := oT F_len Wp414 (Or.inl (gw hw 55 rfl)) (Or.inl (gw hw 59 rfl)) .int .int
  have Zn : n0 ≤ _ := Nat.le_trans Zn (Nat.le_of_eq Wp414.size.symm)
  have K := K.wr Wp414 (Or.inl (List.mem_of_getElem? (i := 0) rfl))
  refine own_trW st415 ?_
  refine own_byW (S' := (oM T415 m 189 #[oR mb, oI 1, oI 125, oI 1, oI 1, oI 4, oI 0, oI (Int32.ofNat p1), oR bo] [.ref mb])) (fun _ k => XS.istoreN X415.here hx rfl (G d10_183) rfl (l' := #[oR mb, oI 1, oI 125, oI 1, oI 1, oI 4, oI 0, oI (Int32.ofNat p1), oR bo]) rfl (XS.iloadN X415.here hx rfl (G d10_184) rfl (XS.ifNo X415.here hx rfl (G d10_185) rfl ((if0 _ _).trans (feq ((by decide) : ¬ ((1 : Int32) = (0 : Int32)))).1) (XS.aloadN X415.here hx rfl (G d10_188) rfl rfl k)))) ?_
  obtain ⟨cq417, q417, q417'⟩ := E_mb.cell
  obtain ⟨_, _, ⟨T417, L417, k417, n417⟩, -, X417, ⟨Lc417, hQ417, l417, y417, z417⟩, st417⟩ := X415.privateBack hx (y := y_8) hown (mvT hZ (gw hw 69 rfl)) (mvT hZ (gw hw 70 rfl)) (own_selP hZ (gw hw 13 rfl) (gw hw 71 rfl) (gw hw 70 rfl) (by decide)) (Cond.privateMethod_at (mvP hZ (gw hw 71 rfl) (args := #[]))) (mvT hZ (gw hw 72 rfl)) (by decide) (backOf (W := 0) (rm_skip l Z a0 hw [] mb li LN 12 12 T415.heap n0 Zn E_mb f_17 F_len f_10 A_li DI.1 ne_mb_li (own_ws0 (by decide) l12 (by decide))) hZ (gw hw 72 rfl) (gw hw 14 rfl) (by decide) (by decide)) (g := (mkF m 189 #[oR mb, oI 1, oI 125, oI 1, oI 1, oI 4, oI 0, oI (Int32.ofNat p1), oR bo] [.ref mb])) rfl (by rw [hml]; rfl) (Steps.refl _) (a := mb) q417 q417' (argsL := []) (rest := []) (lenOf pd__28_29V rfl) rfl oZ (G d10_189) (fun _ _ => ⟨rfl, rfl, (by decide : 2 + 0 ≤ _), (by decide : 24 + 0 ≤ _)⟩)
  dsimp only [Pt.U, Pt.locs, Pt.cells, Pt.slots] at X417 l417 y417 z417 st417 hQ417
  have X417 := own_recast X417 l417 y417 z417
  obtain ⟨rfl, N417q, Wp416⟩ := hQ417
  have N := Fr.app N N417q
  have TB := own_tab_wr TB Wp416 (own_forE (gw hw 13 rfl) (by decide) E_mb)
  have hk := Nat.le_trans hk (Nat.le_of_eq Wp416.size.symm)
  have E_mb := E_mb.wr Wp416
  have A_li := A_li.other Wp416 (Ne.symm (oP DI 0 1))
  have O := O.wr Wp416 DI.1
  have M := own_M_pos hw DI.2.2 M Wp416
  have f_17 := f_17.same Wp416
  have f_10 := oT f_10 Wp416 (Or.inl (gw hw 53 rfl)) (Or.inl (gw hw 59 rfl)) (.array .char) .int
  have F_len := oT F_len Wp416 (Or.inl (gw hw 55 rfl)) (Or.inl (gw hw 59 rfl)) .int .int
  have Zn : n0 ≤ _ := Nat.le_trans Zn (Nat.le_of_eq Wp416.size.symm)
  have K := K.wr Wp416 (Or.inl (List.mem_of_getElem? (i := 0) rfl))
  refine own_trW st417 ?_
  refine own_byW (S' := (oM T417 m 45 #[oR mb, oI 1, oI 125, oI 1, oI 1, oI 4, oI 0, oI (Int32.ofNat p1), oR bo] [.ref mb])) (fun _ k => XS.goto X417.here hx rfl (pc0 := 192) (pc' := 200) rfl (G d10_192) (by decide) (by decide) (XS.goto X417.here hx rfl (pc0 := 200) (pc' := 40) rfl (G d10_200) (by decide) (by decide) (XS.iloadN X417.here hx rfl (G d10_40) rfl (XS.ifNo X417.here hx rfl (G d10_41) rfl ((if0 _ _).trans (feq ((by decide) : ¬ ((1 : Int32) = (0 : Int32)))).1) (XS.aloadN X417.here hx rfl (G d10_44) rfl rfl k))))) ?_
  obtain ⟨T418, X418, e418, st418⟩ := getF X417 hx hZ hown (host := "") (Or.inl (gw hw 58 rfl)) Via.refl rfl f_17 (g := (mkF m 45 #[oR mb, oI 1, oI 125, oI 1, oI 1, oI 4, oI 0, oI (Int32.ofNat p1), oR bo] [.ref mb])) rfl rfl (G d10_45)
  refine own_byW st418 ?_
  refine own_byW (S' := (oM T418 m 51 #[oR mb, oI 1, oI 125, oI 1, oI 12, oI 4, oI 0, oI (Int32.ofNat p1), oR bo] [.ref mb])) (fun _ k => XS.istore X418.here hx rfl (G d10_48) rfl (l' := #[oR mb, oI 1, oI 125, oI 1, oI 12, oI 4, oI 0, oI (Int32.ofNat p1), oR bo]) rfl (XS.aloadN X418.here hx rfl (G d10_50) rfl rfl k)) ?_
  obtain ⟨T419, X419, e419, st419⟩ := getF X418 hx hZ hown (host := "") (Or.inl (gw hw 58 rfl)) Via.refl e418 f_17 (g := (mkF m 51 #[oR mb, oI 1, oI 125, oI 1, oI 12, oI 4, oI 0, oI (Int32.ofNat p1), oR bo] [.ref mb])) rfl rfl (G d10_51)
  refine own_byW st419 ?_
  refine own_byW (S' := (oM T419 m 66 #[oR mb, oI 1, oI 125, oI 1, oI 12, oI 12, oI 0, oI (Int32.ofNat p1), oR bo] [.ref mb])) (fun _ k => XS.istore X419.here hx rfl (G d10_54) rfl (l' := #[oR mb, oI 1, oI 125, oI 1, oI 12, oI 12, oI 0, oI (Int32.ofNat p1), oR bo]) rfl (XS.iconst X419.here hx rfl (G d10_56) (XS.istore X419.here hx rfl (G d10_57) rfl (l' := #[oR mb, oI 1, oI 125, oI 1, oI 12, oI 12, oI 0, oI (Int32.ofNat p1), oR bo]) rfl (XS.iloadN X419.here hx rfl (G d10_59) rfl (XS.bipush X419.here hx rfl (G d10_60) (XS.icmpNo X419.here hx rfl (G d10_62) rfl (teq ((by decide) : (125 : Int32) = (125 : Int32))).2 (XS.aloadN X419.here hx rfl (G d10_65) rfl rfl k))))))) ?_
  obtain ⟨cq421, q421, q421'⟩ := E_mb.cell
  obtain ⟨_, _, ⟨T421, L421, k421, n421⟩, -, X421, ⟨Lc421, hQ421, l421, y421, z421⟩, st421⟩ := X419.privateBack hx (y := y_12) hown (mvT hZ (gw hw 84 rfl)) (mvT hZ (gw hw 85 rfl)) (own_selP hZ (gw hw 13 rfl) (gw hw 86 rfl) (gw hw 85 rfl) (by decide)) (Cond.privateMethod_at (mvP hZ (gw hw 86 rfl) (args := #[]))) (mvT hZ (gw hw 87 rfl)) (by decide) (backOf (W := 0) (rm_readString12 l Z a0 hw [] mb li LN c2 T417.heap n0 Zn E_mb f_17 F_len f_10 A_li DI.1 ne_mb_li l12 l13 l14 hk2) hZ (gw hw 87 rfl) (gw hw 14 rfl) (by decide) (by decide)) (g := (mkF m 66 #[oR mb, oI 1, oI 125, oI 1, oI 12, oI 12, oI 0, oI (Int32.ofNat p1), oR bo] [.ref mb])) rfl (by rw [hml]; rfl) (Steps.refl _) (a := mb) (by rw [e419]; exact q421) q421' (argsL := []) (rest := []) (lenOf pd__28_29Z rfl) rfl oZ (G d10_66) (fun _ _ => ⟨rfl, e419, (by decide : 2 + 0 ≤ _), (by decide : 24 + 0 ≤ _)⟩)
  dsimp only [Pt.U, Pt.locs, Pt.cells, Pt.slots] at X421 l421 y421 z421 st421 hQ421
  have X421 := own_recast X421 l421 y421 z421
  obtain ⟨rfl, N421q, Wp420⟩ := hQ421
  have N := Fr.app N N421q
  have TB := own_tab_wr TB Wp420 (own_forE (gw hw 13 rfl) (by decide) E_mb)
  have hk := Nat.le_trans hk (Nat.le_of_eq Wp420.size.symm)
  have E_mb := E_mb.wr Wp420
  have A_li := A_li.other Wp420 (Ne.symm (oP DI 0 1))
  have O := O.wr Wp420 DI.1
  have M := own_M_pos hw DI.2.2 M Wp420
  have f_17 := f_17.same Wp420
  have f_10 := oT f_10 Wp420 (Or.inl (gw hw 53 rfl)) (Or.inl (gw hw 59 rfl)) (.array .char) .int
  have F_len := oT F_len Wp420 (Or.inl (gw hw 55 rfl)) (Or.inl (gw hw 59 rfl)) .int .int
  have Zn : n0 ≤ _ := Nat.le_trans Zn (Nat.le_of_eq Wp420.size.symm)
  have K := K.wr Wp420 (Or.inl (List.mem_of_getElem? (i := 0) rfl))
  refine own_trW st421 ?_
  refine own_byW (S' := (oM T421 m 72 #[oR mb, oI 1, oI 125, oI 1, oI 12, oI 12, oI 0, oI (Int32.ofNat p1), oR bo] [.ref mb])) (fun _ k => XS.istore X421.here hx rfl (G d10_69) rfl (l' := #[oR mb, oI 1, oI 125, oI 1, oI 12, oI 12, oI 0, oI (Int32.ofNat p1), oR bo]) rfl (XS.aloadN X421.here hx rfl (G d10_71) rfl rfl k)) ?_
  obtain ⟨T422, X422, e422, st422⟩ := getF X421 hx hZ hown (host := "") (Or.inl (gw hw 58 rfl)) Via.refl rfl f_17 (g := (mkF m 72 #[oR mb, oI 1, oI 125, oI 1, oI 12, oI 12, oI 0, oI (Int32.ofNat p1), oR bo] [.ref mb])) rfl rfl (G d10_72)
  refine own_byW st422 ?_
  refine own_byW (S' := (oM T422 m 78 #[oR mb, oI 1, oI 125, oI 1, oI 12, oI 15, oI 0, oI (Int32.ofNat p1), oR bo] [.ref mb])) (fun _ k => XS.istore X422.here hx rfl (G d10_75) rfl (l' := #[oR mb, oI 1, oI 125, oI 1, oI 12, oI 15, oI 0, oI (Int32.ofNat p1), oR bo]) rfl (XS.aloadN X422.here hx rfl (G d10_77) rfl rfl k)) ?_
  obtain ⟨cq424, q424, q424'⟩ := E_mb.cell
  obtain ⟨_, _, ⟨T424, L424, k424, n424⟩, -, X424, ⟨Lc424, hQ424, l424, y424, z424⟩, st424⟩ := X422.privateBack hx (y := y_8) hown (mvT hZ (gw hw 69 rfl)) (mvT hZ (gw hw 70 rfl)) (own_selP hZ (gw hw 13 rfl) (gw hw 71 rfl) (gw hw 70 rfl) (by decide)) (Cond.privateMethod_at (mvP hZ (gw hw 71 rfl) (args := #[]))) (mvT hZ (gw hw 72 rfl)) (by decide) (backOf (W := 0) (rm_skip l Z a0 hw [] mb li LN 15 15 T421.heap n0 Zn E_mb f_17 F_len f_10 A_li DI.1 ne_mb_li (own_ws0 (by decide) l15 (by decide))) hZ (gw hw 72 rfl) (gw hw 14 rfl) (by decide) (by decide)) (g := (mkF m 78 #[oR mb, oI 1, oI 125, oI 1, oI 12, oI 15, oI 0, oI (Int32.ofNat p1), oR bo] [.ref mb])) rfl (by rw [hml]; rfl) (Steps.refl _) (a := mb) (by rw [e422]; exact q424) q424' (argsL := []) (rest := []) (lenOf pd__28_29V rfl) rfl oZ (G d10_78) (fun _ _ => ⟨rfl, e422, (by decide : 2 + 0 ≤ _), (by decide : 24 + 0 ≤ _)⟩)
  dsimp only [Pt.U, Pt.locs, Pt.cells, Pt.slots] at X424 l424 y424 z424 st424 hQ424
  have X424 := own_recast X424 l424 y424 z424
  obtain ⟨rfl, N424q, Wp423⟩ := hQ424
  have N := Fr.app N N424q
  have TB := own_tab_wr TB Wp423 (own_forE (gw hw 13 rfl) (by decide) E_mb)
  have hk := Nat.le_trans hk (Nat.le_of_eq Wp423.size.symm)
  have E_mb := E_mb.wr Wp423
  have A_li := A_li.other Wp423 (Ne.symm (oP DI 0 1))
  have O := O.wr Wp423 DI.1
  have M := own_M_pos hw DI.2.2 M Wp423
  have f_17 := f_17.same Wp423
  have f_10 := oT f_10 Wp423 (Or.inl (gw hw 53 rfl)) (Or.inl (gw hw 59 rfl)) (.array .char) .int
  have F_len := oT F_len Wp423 (Or.inl (gw hw 55 rfl)) (Or.inl (gw hw 59 rfl)) .int .int
  have Zn : n0 ≤ _ := Nat.le_trans Zn (Nat.le_of_eq Wp423.size.symm)
  have K := K.wr Wp423 (Or.inl (List.mem_of_getElem? (i := 0) rfl))
  refine own_trW st424 ?_
  refine own_byW (S' := (oM T424 m 84 #[oR mb, oI 1, oI 125, oI 1, oI 12, oI 15, oI 0, oI (Int32.ofNat p1), oR bo] [.int 58, .ref mb])) (fun _ k => XS.aloadN X424.here hx rfl (G d10_81) rfl rfl (XS.bipush X424.here hx rfl (G d10_82) k)) ?_
  obtain ⟨cq426, q426, q426'⟩ := E_mb.cell
  obtain ⟨_, _, ⟨T426, L426, k426, n426⟩, -, X426, ⟨Lc426, hQ426, l426, y426, z426⟩, st426⟩ := X424.privateBack hx (y := y_11) hown (mvT hZ (gw hw 80 rfl)) (mvT hZ (gw hw 81 rfl)) (own_selP hZ (gw hw 13 rfl) (gw hw 82 rfl) (gw hw 81 rfl) (by decide)) (Cond.privateMethod_at (mvP hZ (gw hw 82 rfl) (args := #[]))) (mvT hZ (gw hw 83 rfl)) (by decide) (backOf (W := 0) (rm_takeY l Z a0 hw [] mb li LN (58 : Int32) 15 T424.heap n0 Zn E_mb f_17 F_len f_10 A_li DI.1 ne_mb_li (by decide) l15) hZ (gw hw 83 rfl) (gw hw 14 rfl) (by decide) (by decide)) (g := (mkF m 84 #[oR mb, oI 1, oI 125, oI 1, oI 12, oI 15, oI 0, oI (Int32.ofNat p1), oR bo] [.int 58, .ref mb])) rfl (by rw [hml]; rfl) (Steps.refl _) (a := mb) q426 q426' (argsL := [.int 58]) (rest := []) (lenOf pd__28C_29Z rfl) rfl oZ (G d10_84) (fun _ _ => ⟨rfl, rfl, (by decide : 2 + 0 ≤ _), (by decide : 24 + 0 ≤ _)⟩)
  dsimp only [Pt.U, Pt.locs, Pt.cells, Pt.slots] at X426 l426 y426 z426 st426 hQ426
  have X426 := own_recast X426 l426 y426 z426
  obtain ⟨rfl, N426q, Wp425⟩ := hQ426
  have N := Fr.app N N426q
  have TB := own_tab_wr TB Wp425 (own_forE (gw hw 13 rfl) (by decide) E_mb)
  have hk := Nat.le_trans hk (Nat.le_of_eq Wp425.size.symm)
  have E_mb := E_mb.wr Wp425
  have A_li := A_li.other Wp425 (Ne.symm (oP DI 0 1))
  have O := O.wr Wp425 DI.1
  have M := own_M_pos hw DI.2.2 M Wp425
  have f_17 := f_17.same Wp425
  have f_10 := oT f_10 Wp425 (Or.inl (gw hw 53 rfl)) (Or.inl (gw hw 59 rfl)) (.array .char) .int
  have F_len := oT F_len Wp425 (Or.inl (gw hw 55 rfl)) (Or.inl (gw hw 59 rfl)) .int .int
  have Zn : n0 ≤ _ := Nat.le_trans Zn (Nat.le_of_eq Wp425.size.symm)
  have K := K.wr Wp425 (Or.inl (List.mem_of_getElem? (i := 0) rfl))
  refine own_trW st426 ?_
  refine own_byW (S' := (oM T426 m 90 #[oR mb, oI 1, oI 125, oI 1, oI 12, oI 15, oI 0, oI 1, oR bo] [.ref mb])) (fun _ k => XS.istore X426.here hx rfl (G d10_87) rfl (l' := #[oR mb, oI 1, oI 125, oI 1, oI 12, oI 15, oI 0, oI 1, oR bo]) rfl (XS.aloadN X426.here hx rfl (G d10_89) rfl rfl k)) ?_
  obtain ⟨cq428, q428, q428'⟩ := E_mb.cell
  obtain ⟨_, _, ⟨T428, L428, k428, n428⟩, -, X428, ⟨Lc428, hQ428, l428, y428, z428⟩, st428⟩ := X426.privateBack hx (y := y_8) hown (mvT hZ (gw hw 69 rfl)) (mvT hZ (gw hw 70 rfl)) (own_selP hZ (gw hw 13 rfl) (gw hw 71 rfl) (gw hw 70 rfl) (by decide)) (Cond.privateMethod_at (mvP hZ (gw hw 71 rfl) (args := #[]))) (mvT hZ (gw hw 72 rfl)) (by decide) (backOf (W := 0) (rm_skip l Z a0 hw [] mb li LN 16 p2 T426.heap n0 Zn E_mb f_17 F_len f_10 A_li DI.1 ne_mb_li w16) hZ (gw hw 72 rfl) (gw hw 14 rfl) (by decide) (by decide)) (g := (mkF m 90 #[oR mb, oI 1, oI 125, oI 1, oI 12, oI 15, oI 0, oI 1, oR bo] [.ref mb])) rfl (by rw [hml]; rfl) (Steps.refl _) (a := mb) q428 q428' (argsL := []) (rest := []) (lenOf pd__28_29V rfl) rfl oZ (G d10_90) (fun _ _ => ⟨rfl, rfl, (by decide : 2 + 0 ≤ _), (by decide : 24 + 0 ≤ _)⟩)
  dsimp only [Pt.U, Pt.locs, Pt.cells, Pt.slots] at X428 l428 y428 z428 st428 hQ428
  have X428 := own_recast X428 l428 y428 z428
  obtain ⟨rfl, N428q, Wp427⟩ := hQ428
  have N := Fr.app N N428q
  have TB := own_tab_wr TB Wp427 (own_forE (gw hw 13 rfl) (by decide) E_mb)
  have hk := Nat.le_trans hk (Nat.le_of_eq Wp427.size.symm)
  have E_mb := E_mb.wr Wp427
  have A_li := A_li.other Wp427 (Ne.symm (oP DI 0 1))
  have O := O.wr Wp427 DI.1
  have M := own_M_pos hw DI.2.2 M Wp427
  have f_17 := f_17.same Wp427
  have f_10 := oT f_10 Wp427 (Or.inl (gw hw 53 rfl)) (Or.inl (gw hw 59 rfl)) (.array .char) .int
  have F_len := oT F_len Wp427 (Or.inl (gw hw 55 rfl)) (Or.inl (gw hw 59 rfl)) .int .int
  have Zn : n0 ≤ _ := Nat.le_trans Zn (Nat.le_of_eq Wp427.size.symm)
  have K := K.wr Wp427 (Or.inl (List.mem_of_getElem? (i := 0) rfl))
  refine own_trW st428 ?_
  refine own_byW (S' := (oM T428 m 99 #[oR mb, oI 1, oI 125, oI 1, oI 12, oI 15, oI 0, oI 1, oR bo] [.ref mb])) (fun _ k => XS.iloadN X428.here hx rfl (G d10_93) rfl (XS.iconst X428.here hx rfl (G d10_94) (XS.icmpNo X428.here hx rfl (G d10_95) rfl (teq ((by decide) : (1 : Int32) = (1 : Int32))).2 (XS.aloadN X428.here hx rfl (G d10_98) rfl rfl k)))) ?_
  obtain ⟨T429, X429, e429, st429⟩ := getF X428 hx hZ hown (host := "") (Or.inl (gw hw 58 rfl)) Via.refl rfl f_17 (g := (mkF m 99 #[oR mb, oI 1, oI 125, oI 1, oI 12, oI 15, oI 0, oI 1, oR bo] [.ref mb])) rfl rfl (G d10_99)
  refine own_byW st429 ?_
  refine own_byW (S' := (oM T429 m 103 #[oR mb, oI 1, oI 125, oI 1, oI 12, oI 15, oI 0, oI 1, oR bo] [.ref mb, (.int (Int32.ofNat p2))])) (fun _ k => XS.aloadN X429.here hx rfl (G d10_102) rfl rfl k) ?_
  obtain ⟨T430, X430, e430, st430⟩ := getF X429 hx hZ hown (host := "") (Or.inl (gw hw 54 rfl)) Via.refl e429 F_len (g := (mkF m 103 #[oR mb, oI 1, oI 125, oI 1, oI 12, oI 15, oI 0, oI 1, oR bo] [.ref mb, (.int (Int32.ofNat p2))])) rfl rfl (G d10_103)
  refine own_byW st430 ?_
  refine own_byW (S' := (oM T430 m 142 #[oR mb, oI 1, oI 125, oI 1, oI 12, oI 15, oI 0, oI 1, oR bo] [.ref mb])) (fun _ k => XS.icmpYes X430.here hx rfl (pc0 := 106) (pc' := 131) rfl (G d10_106) rfl (feq ((own_ofne (n := 23) (by have := d16.1; have := d16.2.1; omega) (by decide) (by have := d16.1; have := d16.2.1; omega)) : ¬ ((Int32.ofNat p2) = (23 : Int32)))).2 (by decide) (by decide) (XS.iload X430.here hx rfl (G d10_131) rfl (XS.ifYes X430.here hx rfl (pc0 := 133) (pc' := 141) rfl (G d10_133) rfl ((if0 _ _).trans (feq ((by decide) : ¬ ((1 : Int32) = (0 : Int32)))).2) (by decide) (by decide) (XS.aloadN X430.here hx rfl (G d10_141) rfl rfl k)))) ?_
  obtain ⟨T431, X431, e431, st431⟩ := getF X430 hx hZ hown (host := "") (Or.inl (gw hw 58 rfl)) Via.refl e430 f_17 (g := (mkF m 142 #[oR mb, oI 1, oI 125, oI 1, oI 12, oI 15, oI 0, oI 1, oR bo] [.ref mb])) rfl rfl (G d10_142)
  refine own_byW st431 ?_
  refine own_byW (S' := (oM T431 m 149 #[oR mb, oI 1, oI 125, oI 1, oI 12, oI 15, oI 0, oI (Int32.ofNat p2), oR bo] [.int 1, .ref mb])) (fun _ k => XS.istore X431.here hx rfl (G d10_145) rfl (l' := #[oR mb, oI 1, oI 125, oI 1, oI 12, oI 15, oI 0, oI (Int32.ofNat p2), oR bo]) rfl (XS.aloadN X431.here hx rfl (G d10_147) rfl rfl (XS.iloadN X431.here hx rfl (G d10_148) rfl k))) ?_
  obtain ⟨cq433, q433, q433'⟩ := E_mb.cell
  obtain ⟨_, _, ⟨T433, L433, k433, n433⟩, -, X433, S433, G433, ⟨Lc433, hQ433, TB, l433, y433, z433⟩, st433⟩ := X431.privateBackS hx (y := y_14) hown (mvT hZ (gw hw 92 rfl)) (mvT hZ (gw hw 93 rfl)) (own_selP hZ (gw hw 13 rfl) (gw hw 94 rfl) (gw hw 93 rfl) (by decide)) (Cond.privateMethod_at (mvP hZ (gw hw 94 rfl) (args := #[]))) (mvT hZ (gw hw 95 rfl)) (by decide) (own_backS (W := 0) (rm_val l Z a0 hw [] mb li LN p2 q2 t2 [t1] cs fo bo T428.heap n0 Zn E_mb f_17 F_len f_10 A_li DI.1 ne_mb_li d16 O ⟨SC, hcs, SF, hfo, SB, EB⟩ HC HW) hZ (gw hw 95 rfl) (gw hw 14 rfl) (by decide) (by decide)) (g := (mkF m 149 #[oR mb, oI 1, oI 125, oI 1, oI 12, oI 15, oI 0, oI (Int32.ofNat p2), oR bo] [.int 1, .ref mb])) rfl (by rw [hml]; rfl) (Steps.refl _) (a := mb) (by rw [e431]; exact q433) q433' (argsL := [.int 1]) (rest := []) (lenOf pd__28I_29Lcom_2fexample_2fupright_5fplay_2fuprightplay_2fevent_2fMembers_24Type_3b rfl) rfl oZ (G d10_149) (fun _ hv => ⟨rfl, e431, own_tab_warm TB hv, (by decide : 2 + 2 ≤ _), (by decide : 24 + 24 ≤ _)⟩)
  dsimp only [Pt.U, Pt.locs, Pt.cells, Pt.slots] at X433 l433 y433 z433 st433 hQ433
  have X433 := own_recast X433 l433 y433 z433
  dsimp only [Pt.U, Pt.locs, Pt.cells, Pt.slots] at S433 G433 TB
  obtain ⟨X433, hS, hZ, hown⟩ := rebS hS (show _ ≤ T431.heap.size by rw [e431]; exact hk) X433 S433 G433 hZ hown
  obtain ⟨rfl, N433q, hxv432, Exv432, Wxv432⟩ := hQ433
  have N := Fr.app N N433q
  have E_mb := E_mb.ext Exv432
  have A_li := A_li.ext Exv432
  have O := O.ext Exv432
  have M := own_M_ext M Exv432
  have f_17 := f_17.ext Exv432
  have f_10 := f_10.ext Exv432
  have F_len := F_len.ext Exv432
  have Zn := Nat.le_trans Zn Exv432.1
  have K := K.ext Exv432
  have E_mb := E_mb.wr Wxv432
  have A_li := A_li.other Wxv432 (Ne.symm (oP DI 0 1))
  have O := O.wr Wxv432 DI.1
  have M := own_M_pos hw DI.2.2 M Wxv432
  have f_17 := f_17.same Wxv432
  have f_10 := oT f_10 Wxv432 (Or.inl (gw hw 53 rfl)) (Or.inl (gw hw 59 rfl)) (.array .char) .int
  have F_len := oT F_len Wxv432 (Or.inl (gw hw 55 rfl)) (Or.inl (gw hw 59 rfl)) .int .int
  have Zn : n0 ≤ _ := Nat.le_trans Zn (Nat.le_of_eq Wxv432.size.symm)
  have K := K.wr Wxv432 (Or.inl (List.mem_of_getElem? (i := 0) rfl))
  have hk : T433.heap.size ≤ T433.heap.size := Nat.le_refl _
  refine own_trW st433 ?_
  refine own_byW (S' := (oM T433 m 170 #[oR mb, oI 1, oI 125, oI 1, oI 12, oI 15, oI 0, oI (Int32.ofNat p2), oR bo] [(.int (Int32.ofNat p2)), .ref bo, .int 0, .int 15, .int 12, .ref mb])) (fun _ k => XS.astore X433.here hx rfl (G d10_152) rfl rfl (l' := #[oR mb, oI 1, oI 125, oI 1, oI 12, oI 15, oI 0, oI (Int32.ofNat p2), oR bo]) rfl (XS.iloadN X433.here hx rfl (G d10_154) rfl (XS.iconst X433.here hx rfl (G d10_155) (XS.icmpNo X433.here hx rfl (G d10_156) rfl (teq ((by decide) : (1 : Int32) = (1 : Int32))).2 (XS.aloadN X433.here hx rfl (G d10_159) rfl rfl (XS.iload X433.here hx rfl (G d10_160) rfl (XS.iload X433.here hx rfl (G d10_162) rfl (XS.iload X433.here hx rfl (G d10_164) rfl (XS.aload X433.here hx rfl (G d10_166) rfl rfl (XS.iload X433.here hx rfl (G d10_168) rfl k)))))))))) ?_
  have Mfor := own_M_for (gw hw 13 rfl) (gw hw 98 rfl) M (own_V1len _ _ _ _)
  obtain ⟨cq434, q434, q434'⟩ := E_mb.cell
  obtain ⟨_, _, ⟨T434, L434, k434, n434⟩, -, X434, ⟨Lc434, hQ434, l434, y434, z434⟩, st434⟩ := X433.privateBack hx (y := y_25) hown (mvT hZ (gw hw 152 rfl)) (mvT hZ (gw hw 153 rfl)) (own_selP hZ (gw hw 13 rfl) (gw hw 154 rfl) (gw hw 153 rfl) (by decide)) (Cond.privateMethod_at (mvP hZ (gw hw 154 rfl) (args := #[]))) (mvT hZ (gw hw 155 rfl)) (by decide) (backOf (W := 0) (rm_add1 l Z a0 hw [] mb li D LN c1 c2 (Int32.ofNat p1) (Int32.ofNat q1) (Int32.ofNat p2) (Int32.ofNat q2) cs fo bo T433.heap n0 Zn M DI A_li f_17 l13 hk1 hk2 h12 O ⟨SC, hcs, SF, hfo, SB, EB⟩) hZ (gw hw 155 rfl) (gw hw 14 rfl) (by decide) (by decide)) (g := (mkF m 170 #[oR mb, oI 1, oI 125, oI 1, oI 12, oI 15, oI 0, oI (Int32.ofNat p2), oR bo] [(.int (Int32.ofNat p2)), .ref bo, .int 0, .int 15, .int 12, .ref mb])) rfl (by rw [hml]; rfl) (Steps.refl _) (a := mb) q434 q434' (argsL := [.int 12, .int 15, .int 0, .ref bo, (.int (Int32.ofNat p2))]) (rest := []) (lenOf pd__28IIZLcom_2fexample_2fupright_5fplay_2fuprightplay_2fevent_2fMembers_24Type_3bI_29V rfl) rfl oZ (G d10_170) (fun _ _ => ⟨rfl, rfl, (by decide : 4 + 0 ≤ _), (by decide : 48 + 0 ≤ _)⟩)
  dsimp only [Pt.U, Pt.locs, Pt.cells, Pt.slots] at X434 l434 y434 z434 st434 hQ434
  have X434 := own_recast X434 l434 y434 z434
  obtain ⟨rfl, N434q, Ka, M, f_17⟩ := hQ434
  have N := Fr.app N N434q
  have TB := own_tab_keep TB Ka Mfor
  have hk := Nat.le_trans hk Ka.1
  have E_mb := E_mb.keep Ka
  have A_li := A_li.keep Ka (ninS (Ne.symm (oP DI 0 1)) (ninS (oP DI 1 2) (ninS (oP DI 1 3) (ninS (oP DI 1 4) (ninS (oP DI 1 5) (ninS (oP DI 1 6) (ninS (oP DI 1 7) (ninS (oP DI 1 8) (ninS (oP DI 1 9) (ninS (oP DI 1 10) (ninS (oP DI 1 11) nin0)))))))))))
  have O := O.keep Ka (allS DI.1 (allS (DI.2.1 0 (by decide)) (allS (DI.2.1 1 (by decide)) (allS (DI.2.1 2 (by decide)) (allS (DI.2.1 3 (by decide)) (allS (DI.2.1 4 (by decide)) (allS (DI.2.1 5 (by decide)) (allS (DI.2.1 6 (by decide)) (allS (DI.2.1 7 (by decide)) (allS (DI.2.1 8 (by decide)) (allS (DI.2.1 9 (by decide)) all0)))))))))))
  have Zn : n0 ≤ _ := Nat.le_trans Zn Ka.1
  have K := K.trans Ka (allS (Or.inl (List.mem_of_getElem? (i := 0) rfl)) (allS (Or.inl (List.mem_of_getElem? (i := 1) rfl)) (allS (Or.inl (List.mem_of_getElem? (i := 2) rfl)) (allS (Or.inl (List.mem_of_getElem? (i := 3) rfl)) (allS (Or.inl (List.mem_of_getElem? (i := 4) rfl)) (allS (Or.inl (List.mem_of_getElem? (i := 5) rfl)) (allS (Or.inl (List.mem_of_getElem? (i := 6) rfl)) (allS (Or.inl (List.mem_of_getElem? (i := 7) rfl)) (allS (Or.inl (List.mem_of_getElem? (i := 8) rfl)) (allS (Or.inl (List.mem_of_getElem? (i := 9) rfl)) (allS (Or.inl (List.mem_of_getElem? (i := 10) rfl)) all0)))))))))))
  refine own_trW st434 ?_
  have E_mb := M.1
  have f_10 := M.2.2.2.2.2.2.2.2.2.2.2.1
  have F_len := M.2.2.2.2.2.2.2.2.2.2.2.2.1
  refine own_byW (S' := (oM T434 m 174 #[oR mb, oI 1, oI 125, oI 1, oI 12, oI 15, oI 0, oI (Int32.ofNat p2), oR bo] [.ref mb])) (fun _ k => XS.aloadN X434.here hx rfl (G d10_173) rfl rfl k) ?_
  obtain ⟨cq436, q436, q436'⟩ := E_mb.cell
  obtain ⟨_, _, ⟨T436, L436, k436, n436⟩, -, X436, ⟨Lc436, hQ436, l436, y436, z436⟩, st436⟩ := X434.privateBack hx (y := y_8) hown (mvT hZ (gw hw 69 rfl)) (mvT hZ (gw hw 70 rfl)) (own_selP hZ (gw hw 13 rfl) (gw hw 71 rfl) (gw hw 70 rfl) (by decide)) (Cond.privateMethod_at (mvP hZ (gw hw 71 rfl) (args := #[]))) (mvT hZ (gw hw 72 rfl)) (by decide) (backOf (W := 0) (rm_skip l Z a0 hw [] mb li LN q2 22 T434.heap n0 Zn E_mb f_17 F_len f_10 A_li DI.1 ne_mb_li w17) hZ (gw hw 72 rfl) (gw hw 14 rfl) (by decide) (by decide)) (g := (mkF m 174 #[oR mb, oI 1, oI 125, oI 1, oI 12, oI 15, oI 0, oI (Int32.ofNat p2), oR bo] [.ref mb])) rfl (by rw [hml]; rfl) (Steps.refl _) (a := mb) q436 q436' (argsL := []) (rest := []) (lenOf pd__28_29V rfl) rfl oZ (G d10_174) (fun _ _ => ⟨rfl, rfl, (by decide : 4 + 0 ≤ _), (by decide : 48 + 0 ≤ _)⟩)
  dsimp only [Pt.U, Pt.locs, Pt.cells, Pt.slots] at X436 l436 y436 z436 st436 hQ436
  have X436 := own_recast X436 l436 y436 z436
  obtain ⟨rfl, N436q, Wp435⟩ := hQ436
  have N := Fr.app N N436q
  have TB := own_tab_wr TB Wp435 (own_forE (gw hw 13 rfl) (by decide) E_mb)
  have hk := Nat.le_trans hk (Nat.le_of_eq Wp435.size.symm)
  have E_mb := E_mb.wr Wp435
  have A_li := A_li.other Wp435 (Ne.symm (oP DI 0 1))
  have O := O.wr Wp435 DI.1
  have M := own_M_pos hw DI.2.2 M Wp435
  have f_17 := f_17.same Wp435
  have f_10 := oT f_10 Wp435 (Or.inl (gw hw 53 rfl)) (Or.inl (gw hw 59 rfl)) (.array .char) .int
  have F_len := oT F_len Wp435 (Or.inl (gw hw 55 rfl)) (Or.inl (gw hw 59 rfl)) .int .int
  have Zn : n0 ≤ _ := Nat.le_trans Zn (Nat.le_of_eq Wp435.size.symm)
  have K := K.wr Wp435 (Or.inl (List.mem_of_getElem? (i := 0) rfl))
  refine own_trW st436 ?_
  refine own_byW (S' := (oM T436 m 180 #[oR mb, oI 1, oI 125, oI 1, oI 12, oI 15, oI 0, oI (Int32.ofNat p2), oR bo] [.int 44, .ref mb])) (fun _ k => XS.aloadN X436.here hx rfl (G d10_177) rfl rfl (XS.bipush X436.here hx rfl (G d10_178) k)) ?_
  obtain ⟨cq438, q438, q438'⟩ := E_mb.cell
  obtain ⟨_, _, ⟨T438, L438, k438, n438⟩, -, X438, ⟨Lc438, hQ438, l438, y438, z438⟩, st438⟩ := X436.privateBack hx (y := y_11) hown (mvT hZ (gw hw 80 rfl)) (mvT hZ (gw hw 81 rfl)) (own_selP hZ (gw hw 13 rfl) (gw hw 82 rfl) (gw hw 81 rfl) (by decide)) (Cond.privateMethod_at (mvP hZ (gw hw 82 rfl) (args := #[]))) (mvT hZ (gw hw 83 rfl)) (by decide) (backOf (W := 0) (rm_takeN l Z a0 hw [] mb li LN (44 : Int32) (125 : Int32) 22 T436.heap n0 Zn E_mb f_17 F_len f_10 A_li DI.1 ne_mb_li (by decide) l22 (by decide)) hZ (gw hw 83 rfl) (gw hw 14 rfl) (by decide) (by decide)) (g := (mkF m 180 #[oR mb, oI 1, oI 125, oI 1, oI 12, oI 15, oI 0, oI (Int32.ofNat p2), oR bo] [.int 44, .ref mb])) rfl (by rw [hml]; rfl) (Steps.refl _) (a := mb) q438 q438' (argsL := [.int 44]) (rest := []) (lenOf pd__28C_29Z rfl) rfl oZ (G d10_180) (fun _ _ => ⟨rfl, rfl, (by decide : 4 + 0 ≤ _), (by decide : 48 + 0 ≤ _)⟩)
  dsimp only [Pt.U, Pt.locs, Pt.cells, Pt.slots] at X438 l438 y438 z438 st438 hQ438
  have X438 := own_recast X438 l438 y438 z438
  obtain ⟨rfl, N438q, eh437⟩ := hQ438
  have N := Fr.app N N438q
  refine own_trW st438 ?_
  refine own_byW (S' := (oM T438 m 197 #[oR mb, oI 1, oI 125, oI 0, oI 12, oI 15, oI 0, oI (Int32.ofNat p2), oR bo] [.int 125, .ref mb])) (fun _ k => XS.istoreN X438.here hx rfl (G d10_183) rfl (l' := #[oR mb, oI 1, oI 125, oI 0, oI 12, oI 15, oI 0, oI (Int32.ofNat p2), oR bo]) rfl (XS.iloadN X438.here hx rfl (G d10_184) rfl (XS.ifYes X438.here hx rfl (pc0 := 185) (pc' := 195) rfl (G d10_185) rfl ((if0 _ _).trans (teq ((by decide) : (0 : Int32) = (0 : Int32))).1) (by decide) (by decide) (XS.aloadN X438.here hx rfl (G d10_195) rfl rfl (XS.iloadN X438.here hx rfl (G d10_196) rfl k))))) ?_
  obtain ⟨cq440, q440, q440'⟩ := E_mb.cell
  obtain ⟨_, _, ⟨T440, L440, k440, n440⟩, -, X440, ⟨Lc440, hQ440, l440, y440, z440⟩, st440⟩ := X438.privateBack hx (y := y_13) hown (mvT hZ (gw hw 88 rfl)) (mvT hZ (gw hw 89 rfl)) (own_selP hZ (gw hw 13 rfl) (gw hw 90 rfl) (gw hw 89 rfl) (by decide)) (Cond.privateMethod_at (mvP hZ (gw hw 90 rfl) (args := #[]))) (mvT hZ (gw hw 91 rfl)) (by decide) (backOf (W := 0) (rm_expect l Z a0 hw [] mb li LN (125 : Int32) 22 T436.heap n0 Zn E_mb f_17 F_len f_10 A_li DI.1 ne_mb_li (by decide) l22) hZ (gw hw 91 rfl) (gw hw 14 rfl) (by decide) (by decide)) (g := (mkF m 197 #[oR mb, oI 1, oI 125, oI 0, oI 12, oI 15, oI 0, oI (Int32.ofNat p2), oR bo] [.int 125, .ref mb])) rfl (by rw [hml]; rfl) (Steps.refl _) (a := mb) (by rw [eh437]; exact q440) q440' (argsL := [.int 125]) (rest := []) (lenOf pd__28C_29V rfl) rfl oZ (G d10_197) (fun _ _ => ⟨rfl, eh437, (by decide : 4 + 0 ≤ _), (by decide : 48 + 0 ≤ _)⟩)
  dsimp only [Pt.U, Pt.locs, Pt.cells, Pt.slots] at X440 l440 y440 z440 st440 hQ440
  have X440 := own_recast X440 l440 y440 z440
  obtain ⟨rfl, N440q, Wp439⟩ := hQ440
  have N := Fr.app N N440q
  have TB := own_tab_wr TB Wp439 (own_forE (gw hw 13 rfl) (by decide) E_mb)
  have hk := Nat.le_trans hk (Nat.le_of_eq Wp439.size.symm)
  have E_mb := E_mb.wr Wp439
  have A_li := A_li.other Wp439 (Ne.symm (oP DI 0 1))
  have O := O.wr Wp439 DI.1
  have M := own_M_pos hw DI.2.2 M Wp439
  have f_17 := f_17.same Wp439
  have f_10 := oT f_10 Wp439 (Or.inl (gw hw 53 rfl)) (Or.inl (gw hw 59 rfl)) (.array .char) .int
  have F_len := oT F_len Wp439 (Or.inl (gw hw 55 rfl)) (Or.inl (gw hw 59 rfl)) .int .int
  have Zn : n0 ≤ _ := Nat.le_trans Zn (Nat.le_of_eq Wp439.size.symm)
  have K := K.wr Wp439 (Or.inl (List.mem_of_getElem? (i := 0) rfl))
  refine own_trW st440 ?_
  refine own_byW (S' := (oM T440 m 203 #[oR mb, oI 1, oI 125, oI 0, oI 12, oI 15, oI 0, oI (Int32.ofNat p2), oR bo] [])) (fun _ k => XS.goto X440.here hx rfl (pc0 := 200) (pc' := 40) rfl (G d10_200) (by decide) (by decide) (XS.iloadN X440.here hx rfl (G d10_40) rfl (XS.ifYes X440.here hx rfl (pc0 := 41) (pc' := 203) rfl (G d10_41) rfl ((if0 _ _).trans (teq ((by decide) : (0 : Int32) = (0 : Int32))).1) (by decide) (by decide) k))) ?_
  exact own_ret0W X440 hx hS rfl hk TB Bd.returns (G d10_203) hlk (by decide : 4 ≤ _) (by decide : 48 ≤ _) ⟨rfl, N, K, M, f_17⟩
theorem d6_0 : oD c_6 0 (.aload_n 0, 1) := by decide +kernel
theorem d6_1 : oD c_6 1 (.aload_n 1, 1) := by decide +kernel
theorem d6_2 : oD c_6 2 (.putfield 47, 3) := by decide +kernel
theorem d6_5 : oD c_6 5 (.aload_n 0, 1) := by decide +kernel
theorem d6_6 : oD c_6 6 (.iload_n 2, 1) := by decide +kernel
theorem d6_7 : oD c_6 7 (.putfield 51, 3) := by decide +kernel
theorem d6_10 : oD c_6 10 (.aload_n 0, 1) := by decide +kernel
theorem d6_11 : oD c_6 11 (.lload_n 3, 1) := by decide +kernel
theorem d6_12 : oD c_6 12 (.putfield 55, 3) := by decide +kernel
theorem d6_15 : oD c_6 15 (.aload_n 0, 1) := by decide +kernel
theorem d6_16 : oD c_6 16 (.iconst 0, 1) := by decide +kernel
theorem d6_17 : oD c_6 17 (.putfield 59, 3) := by decide +kernel
theorem d6_20 : oD c_6 20 (.aload_n 0, 1) := by decide +kernel
theorem d6_21 : oD c_6 21 (.iconst 0, 1) := by decide +kernel
theorem d6_22 : oD c_6 22 (.putfield 62, 3) := by decide +kernel
theorem d6_25 : oD c_6 25 (.aload_n 0, 1) := by decide +kernel
theorem d6_26 : oD c_6 26 (.aconst_null, 1) := by decide +kernel
theorem d6_27 : oD c_6 27 (.putfield 65, 3) := by decide +kernel
theorem d6_30 : oD c_6 30 (.aload_n 0, 1) := by decide +kernel
theorem d6_31 : oD c_6 31 (.getfield 43, 3) := by decide +kernel
theorem d6_34 : oD c_6 34 (.iconst 0, 1) := by decide +kernel
theorem d6_35 : oD c_6 35 (.invokestatic 69, 3) := by decide +kernel
theorem d6_38 : oD c_6 38 (.iload_n 2, 1) := by decide +kernel
theorem d6_39 : oD c_6 39 (.ifCond .le 16, 3) := by decide +kernel
theorem d6_42 : oD c_6 42 (.aload_n 1, 1) := by decide +kernel
theorem d6_43 : oD c_6 43 (.iconst 0, 1) := by decide +kernel
theorem d6_44 : oD c_6 44 (.caload, 1) := by decide +kernel
theorem d6_45 : oD c_6 45 (.ldc 75, 2) := by decide +kernel
theorem d6_47 : oD c_6 47 (.if_icmp .ne 8, 3) := by decide +kernel
theorem d6_55 : oD c_6 55 (.aload_n 0, 1) := by decide +kernel
theorem d6_56 : oD c_6 56 (.invokevirtual 76, 3) := by decide +kernel
theorem d6_59 : oD c_6 59 (.aload_n 0, 1) := by decide +kernel
theorem d6_60 : oD c_6 60 (.getfield 59, 3) := by decide +kernel
theorem d6_63 : oD c_6 63 (.iload_n 2, 1) := by decide +kernel
theorem d6_64 : oD c_6 64 (.if_icmp .eq 14, 3) := by decide +kernel
theorem d6_67 : oD c_6 67 (.aload_n 1, 1) := by decide +kernel
theorem d6_68 : oD c_6 68 (.aload_n 0, 1) := by decide +kernel
theorem d6_69 : oD c_6 69 (.getfield 59, 3) := by decide +kernel
theorem d6_72 : oD c_6 72 (.caload, 1) := by decide +kernel
theorem d6_73 : oD c_6 73 (.bipush 123, 2) := by decide +kernel
theorem d6_75 : oD c_6 75 (.if_icmp .eq 28, 3) := by decide +kernel
theorem d6_103 : oD c_6 103 (.aload_n 0, 1) := by decide +kernel
theorem d6_104 : oD c_6 104 (.iconst 1, 1) := by decide +kernel
theorem d6_105 : oD c_6 105 (.bipush 125, 2) := by decide +kernel
theorem d6_107 : oD c_6 107 (.invokevirtual 94, 3) := by decide +kernel
theorem d6_110 : oD c_6 110 (.aload_n 0, 1) := by decide +kernel
theorem d6_111 : oD c_6 111 (.invokevirtual 76, 3) := by decide +kernel
theorem d6_114 : oD c_6 114 (.aload_n 0, 1) := by decide +kernel
theorem d6_115 : oD c_6 115 (.getfield 59, 3) := by decide +kernel
theorem d6_118 : oD c_6 118 (.iload_n 2, 1) := by decide +kernel
theorem d6_119 : oD c_6 119 (.if_icmp .eq 8, 3) := by decide +kernel
theorem d6_127 : oD c_6 127 (.return_, 1) := by decide +kernel
theorem pn_6 : plainName "com/example/upright_play/uprightplay/event/Members" = true := by first | (simp [plainName, overriddenIn]; done) | decide +kernel
theorem ef_rm_read (m : MethodId) (x0 : Addr) (x1 : Addr) (x2 : Int32) (x3 : Int64) : entryFrame m #[.ref x0, .ref x1, .int x2, .long x3] 5 = mkF m 0 #[oR x0, oR x1, oI x2, .val (.long x3), .second] [] := by first | (simp [entryFrame, mkF, argsToLocals, Value.category]; done) | rfl
def Q_rm_read (Z : State) (mb li : Addr) (D : Nat → Addr) (LN : List Value) (c1 c2 p1 q1 p2 q2 : Nat) (t1 t2 : String) (cs : Int32) (fo : Value) (bo : Addr) (h0 : Heap) (n0 : Nat) (v : Option Value) (h : Heap) (L : List Loc) : Prop := v = none ∧ Fr n0 L ∧ Keep h0 h (mb :: [D 0, D 1, D 2, D 3, D 4, D 5, D 6, D 7, D 8, D 9]) ∧ OwnM Z h mb D (own_V2 c1 c2 (Int32.ofNat p1) (Int32.ofNat q1) (Int32.ofNat p2) (Int32.ofNat q2) bo) (.ref li) 23 1 2
theorem pd__28IC_29V : parseMethodDescriptor "(IC)V" = some ⟨[.int, .char], none⟩ := by decide +kernel
set_option maxRecDepth 65536 in
set_option maxHeartbeats 40000000 in
theorem rm_read (l : Launch) (Z : State) (a0 : Array Value) (hw : ∀ d ∈ tables_1, d.before a0 Z = true) (ws : List Jvm.Cond) (mb li : Addr) (D : Nat → Addr) (LN : List Value) (c1 c2 p1 q1 p2 q2 : Nat) (t1 t2 : String) (cs : Int32) (fo : Value) (bo : Addr) (h0 : Heap) (n0 : Nat) (Zn : n0 ≤ h0.size) (M : OwnM Z h0 mb D own_V0 .null 0 0 0) (DI : own_di n0 mb li D) (A_li : OwnA Z h0 li .char LN) (f_17 : Fld Z h0 mb "com/example/upright_play/uprightplay/event/Members" "pos" "I" (.int 0)) (HL : own_line LN c1 c2 p1 q1 p2 q2 t1 t2) (O : Old Z n0 h0) (SS : own_st Z cs fo bo) (HC : ∀ t, Jvm.Lit.constHeld Z "com/example/upright_play/uprightplay/event/Members" (own_ix t)) (HW : Jvm.Lit.compactW.before a0 Z = true) :
    MetFree l y_6 (head1 (Jvm.Cond.code y_6 c_6 5 none :: ws) (oQ 7 4 48 165)) (fun a U => a = #[.ref mb, .ref li, .int 23, (.long (1 : Int64))] ∧ Z.Warmed39 U.vm ∧ U.heap = h0 ∧ own_tab Z U.vm h0 []) (fun _ _ _ _ _ => True) (fun _ U o U' => ∃ v L, o = .returned v ∧ (Q_rm_read Z mb li D LN c1 c2 p1 q1 p2 q2 t1 t2 cs fo bo h0 n0) v U'.heap L ∧ own_tab Z U'.vm U'.heap [t2, t1] ∧ ReturnedEndW U o U' L (oQ 7 4 48 165).cells (oQ 7 4 48 165).slots) := by
  refine MetFree.of_bodySF (plainFor_of_name pn_6) hisR ?_
  intro p e s m args below meth c s₁ Bd hml0 hP hK
  obtain ⟨rfl, hZ, hh, TB⟩ := hP
  have hx := Bd.exec
  have G := @oG _ _ Bd.bytes
  have hml : c.maxLocals = 5 := hml0
  have hown : s.vm.findClass "com/example/upright_play/uprightplay/event/Members" = some m.cls := findClass_of_methodNamed Bd.named
  have hnm := (name_of_methodNamed Bd.named Bd.method).1
  have hlk : meth.locks = false := BodyLoose.notSynchronized Bd
  have X0 : Stand p l e (oQ 7 4 48 165) (s.setVm s.vm) m #[.ref mb, .ref li, .int 23, (.long (1 : Int64))] below meth c s₁ [] 0 0 := Stand.of_body Bd
  have e0 : s₁.heap = h0 := by rw [← hh, Bd.state]; rfl
  have N := Fr.nil n0
  have K := Keep.refl h0 [mb, (D 0), (D 1), (D 2), (D 3), (D 4), (D 5), (D 6), (D 7), (D 8), (D 9)]
  have hS := own_since0 s
  have hk : 0 ≤ h0.size := Nat.zero_le _
  refine own_startW (Z := Z) (Ts := [t2, t1]) (cl := (oQ 7 4 48 165).cells) (sl := (oQ 7 4 48 165).slots) (Q := (Q_rm_read Z mb li D LN c1 c2 p1 q1 p2 q2 t1 t2 cs fo bo h0 n0)) (ef_rm_read m mb li ((23 : Int32)) ((1 : Int64))) ?_
  obtain ⟨E_mb, f_0, f_1, f_2, f_3, f_4, f_5, f_6, f_7, f_8, f_9, f_10, f_11, f_12, f_13, f_14, f_15, f_16, A_0, A_1, A_2, A_3, A_4, A_5, A_6, A_7, A_8, A_9⟩ := M
  have A_0 : OwnA Z h0 (D 0) .int [.int 0, .int 0, .int 0, .int 0, .int 0, .int 0, .int 0, .int 0, .int 0, .int 0, .int 0, .int 0, .int 0, .int 0, .int 0, .int 0] := A_0
  have A_1 : OwnA Z h0 (D 1) .int [.int 0, .int 0, .int 0, .int 0, .int 0, .int 0, .int 0, .int 0, .int 0, .int 0, .int 0, .int 0, .int 0, .int 0, .int 0, .int 0] := A_1
  have A_2 : OwnA Z h0 (D 2) .int [.int 0, .int 0, .int 0, .int 0, .int 0, .int 0, .int 0, .int 0, .int 0, .int 0, .int 0, .int 0, .int 0, .int 0, .int 0, .int 0] := A_2
  have A_3 : OwnO Z h0 (D 3) "java/lang/String" [.null, .null, .null, .null, .null, .null, .null, .null, .null, .null, .null, .null, .null, .null, .null, .null] := A_3
  have A_4 : OwnO Z h0 (D 4) "com/example/upright_play/uprightplay/event/Members$Type" [.null, .null, .null, .null, .null, .null, .null, .null, .null, .null, .null, .null, .null, .null, .null, .null] := A_4
  have A_5 : OwnA Z h0 (D 5) .int [.int 0, .int 0, .int 0, .int 0, .int 0, .int 0, .int 0, .int 0, .int 0, .int 0, .int 0, .int 0, .int 0, .int 0, .int 0, .int 0] := A_5
  have A_6 : OwnA Z h0 (D 6) .int [.int 0, .int 0, .int 0, .int 0, .int 0, .int 0, .int 0, .int 0, .int 0, .int 0, .int 0, .int 0, .int 0, .int 0, .int 0, .int 0] := A_6
  have A_7 : OwnA Z h0 (D 7) .int [.int 0, .int 0, .int 0, .int 0, .int 0, .int 0, .int 0, .int 0, .int 0, .int 0, .int 0, .int 0, .int 0, .int 0, .int 0, .int 0] := A_7
  have A_8 : OwnA Z h0 (D 8) .int [.int 0, .int 0, .int 0, .int 0, .int 0, .int 0, .int 0, .int 0, .int 0, .int 0, .int 0, .int 0, .int 0, .int 0, .int 0, .int 0] := A_8
  have A_9 : OwnA Z h0 (D 9) .byte own_Z32 := A_9
  obtain ⟨SC, hcs, SF, hfo, SB, EB⟩ := SS
  have HL0 := HL
  obtain ⟨l0, l1, l2, l3, l4, w5, d5, w6, l11, l12, l13, l14, l15, w16, d16, w17, l22, hk1, hk2, h12⟩ := HL
  have ne_mb_li := (oP DI 0 1)
  refine own_byW (S' := (oM s₁ m 2 #[oR mb, oR li, oI 23, .val (.long (1 : Int64)), .second] [.ref li, .ref mb])) (fun _ k => XS.aloadN X0.here hx rfl (G d6_0) rfl rfl (XS.aloadN X0.here hx rfl (G d6_1) rfl rfl k)) ?_
  obtain ⟨T441, h441, X441, e441, W441, st441⟩ := putF X0 hx hZ hown (host := "") (Or.inl (gw hw 52 rfl)) Via.refl e0 f_10 E_mb (Or.inl (gw hw 53 rfl)) (gw hw 13 rfl) (ty := (.array .char)) (by decide) rfl rfl (g := (mkF m 2 #[oR mb, oR li, oI 23, .val (.long (1 : Int64)), .second] [.ref li, .ref mb])) rfl rfl (G d6_2)
  have N := Fr.snoc X441 N DI.1
  have TB := own_tab_wr TB W441 (own_forE (gw hw 13 rfl) (by decide) E_mb)
  have hk := Nat.le_trans hk (Nat.le_of_eq W441.size.symm)
  have E_mb := E_mb.wr W441
  have f_0 := oT f_0 W441 (Or.inl (gw hw 23 rfl)) (Or.inl (gw hw 53 rfl)) (.array .int) (.array .char)
  have f_1 := oT f_1 W441 (Or.inl (gw hw 25 rfl)) (Or.inl (gw hw 53 rfl)) (.array .int) (.array .char)
  have f_2 := oT f_2 W441 (Or.inl (gw hw 27 rfl)) (Or.inl (gw hw 53 rfl)) (.array .int) (.array .char)
  have f_3 := oT f_3 W441 (Or.inl (gw hw 31 rfl)) (Or.inl (gw hw 53 rfl)) (.array (.object "java/lang/String")) (.array .char)
  have f_4 := oT f_4 W441 (Or.inl (gw hw 35 rfl)) (Or.inl (gw hw 53 rfl)) (.array (.object "com/example/upright_play/uprightplay/event/Members$Type")) (.array .char)
  have f_5 := oT f_5 W441 (Or.inl (gw hw 37 rfl)) (Or.inl (gw hw 53 rfl)) (.array .int) (.array .char)
  have f_6 := oT f_6 W441 (Or.inl (gw hw 39 rfl)) (Or.inl (gw hw 53 rfl)) (.array .int) (.array .char)
  have f_7 := oT f_7 W441 (Or.inl (gw hw 41 rfl)) (Or.inl (gw hw 53 rfl)) (.array .int) (.array .char)
  have f_8 := oT f_8 W441 (Or.inl (gw hw 43 rfl)) (Or.inl (gw hw 53 rfl)) (.array .int) (.array .char)
  have f_9 := oT f_9 W441 (Or.inr (gw hw 46 rfl)) (Or.inl (gw hw 53 rfl)) (.array .byte) (.array .char)
  have f_10 := f_10.same W441
  have f_11 := oT f_11 W441 (Or.inl (gw hw 55 rfl)) (Or.inl (gw hw 53 rfl)) .int (.array .char)
  have f_12 := oT f_12 W441 (Or.inl (gw hw 57 rfl)) (Or.inl (gw hw 53 rfl)) .long (.array .char)
  have f_13 := oT f_13 W441 (Or.inl (gw hw 61 rfl)) (Or.inl (gw hw 53 rfl)) .int (.array .char)
  have f_14 := oT f_14 W441 (Or.inl (gw hw 63 rfl)) (Or.inl (gw hw 53 rfl)) (.object "java/util/Map") (.array .char)
  have f_15 := oT f_15 W441 (Or.inl (gw hw 162 rfl)) (Or.inl (gw hw 53 rfl)) .int (.array .char)
  have f_16 := oT f_16 W441 (Or.inl (gw hw 164 rfl)) (Or.inl (gw hw 53 rfl)) .int (.array .char)
  have A_0 := A_0.other W441 (Ne.symm (oP DI 0 2))
  have A_1 := A_1.other W441 (Ne.symm (oP DI 0 3))
  have A_2 := A_2.other W441 (Ne.symm (oP DI 0 4))
  have A_3 := A_3.other W441 (Ne.symm (oP DI 0 5))
  have A_4 := A_4.other W441 (Ne.symm (oP DI 0 6))
  have A_5 := A_5.other W441 (Ne.symm (oP DI 0 7))
  have A_6 := A_6.other W441 (Ne.symm (oP DI 0 8))
  have A_7 := A_7.other W441 (Ne.symm (oP DI 0 9))
  have A_8 := A_8.other W441 (Ne.symm (oP DI 0 10))
  have A_9 := A_9.other W441 (Ne.symm (oP DI 0 11))
  have A_li := A_li.other W441 (Ne.symm (oP DI 0 1))
  have f_17 := oT f_17 W441 (Or.inl (gw hw 59 rfl)) (Or.inl (gw hw 53 rfl)) .int (.array .char)
  have O := O.wr W441 DI.1
  have Zn : n0 ≤ _ := Nat.le_trans Zn (Nat.le_of_eq W441.size.symm)
  have K := K.wr W441 (Or.inl (List.mem_of_getElem? (i := 0) rfl))
  refine own_byW st441 ?_
  refine own_byW (S' := (oM T441 m 7 #[oR mb, oR li, oI 23, .val (.long (1 : Int64)), .second] [.int 23, .ref mb])) (fun _ k => XS.aloadN X441.here hx rfl (G d6_5) rfl rfl (XS.iloadN X441.here hx rfl (G d6_6) rfl k)) ?_
  obtain ⟨T442, h442, X442, e442, W442, st442⟩ := putF X441 hx hZ hown (host := "") (Or.inl (gw hw 54 rfl)) Via.refl e441 f_11 E_mb (Or.inl (gw hw 55 rfl)) (gw hw 13 rfl) (ty := .int) (by decide) rfl rfl (g := (mkF m 7 #[oR mb, oR li, oI 23, .val (.long (1 : Int64)), .second] [.int 23, .ref mb])) rfl rfl (G d6_7)
  have N := Fr.snoc X442 N DI.1
  have TB := own_tab_wr TB W442 (own_forE (gw hw 13 rfl) (by decide) E_mb)
  have hk := Nat.le_trans hk (Nat.le_of_eq W442.size.symm)
  have E_mb := E_mb.wr W442
  have f_0 := oT f_0 W442 (Or.inl (gw hw 23 rfl)) (Or.inl (gw hw 55 rfl)) (.array .int) .int
  have f_1 := oT f_1 W442 (Or.inl (gw hw 25 rfl)) (Or.inl (gw hw 55 rfl)) (.array .int) .int
  have f_2 := oT f_2 W442 (Or.inl (gw hw 27 rfl)) (Or.inl (gw hw 55 rfl)) (.array .int) .int
  have f_3 := oT f_3 W442 (Or.inl (gw hw 31 rfl)) (Or.inl (gw hw 55 rfl)) (.array (.object "java/lang/String")) .int
  have f_4 := oT f_4 W442 (Or.inl (gw hw 35 rfl)) (Or.inl (gw hw 55 rfl)) (.array (.object "com/example/upright_play/uprightplay/event/Members$Type")) .int
  have f_5 := oT f_5 W442 (Or.inl (gw hw 37 rfl)) (Or.inl (gw hw 55 rfl)) (.array .int) .int
  have f_6 := oT f_6 W442 (Or.inl (gw hw 39 rfl)) (Or.inl (gw hw 55 rfl)) (.array .int) .int
  have f_7 := oT f_7 W442 (Or.inl (gw hw 41 rfl)) (Or.inl (gw hw 55 rfl)) (.array .int) .int
  have f_8 := oT f_8 W442 (Or.inl (gw hw 43 rfl)) (Or.inl (gw hw 55 rfl)) (.array .int) .int
  have f_9 := oT f_9 W442 (Or.inr (gw hw 46 rfl)) (Or.inl (gw hw 55 rfl)) (.array .byte) .int
  have f_10 := oT f_10 W442 (Or.inl (gw hw 53 rfl)) (Or.inl (gw hw 55 rfl)) (.array .char) .int
  have f_11 := f_11.same W442
  have f_12 := oT f_12 W442 (Or.inl (gw hw 57 rfl)) (Or.inl (gw hw 55 rfl)) .long .int
  have f_13 := oT f_13 W442 (Or.inl (gw hw 61 rfl)) (Or.inl (gw hw 55 rfl)) .int .int
  have f_14 := oT f_14 W442 (Or.inl (gw hw 63 rfl)) (Or.inl (gw hw 55 rfl)) (.object "java/util/Map") .int
  have f_15 := oT f_15 W442 (Or.inl (gw hw 162 rfl)) (Or.inl (gw hw 55 rfl)) .int .int
  have f_16 := oT f_16 W442 (Or.inl (gw hw 164 rfl)) (Or.inl (gw hw 55 rfl)) .int .int
  have A_0 := A_0.other W442 (Ne.symm (oP DI 0 2))
  have A_1 := A_1.other W442 (Ne.symm (oP DI 0 3))
  have A_2 := A_2.other W442 (Ne.symm (oP DI 0 4))
  have A_3 := A_3.other W442 (Ne.symm (oP DI 0 5))
  have A_4 := A_4.other W442 (Ne.symm (oP DI 0 6))
  have A_5 := A_5.other W442 (Ne.symm (oP DI 0 7))
  have A_6 := A_6.other W442 (Ne.symm (oP DI 0 8))
  have A_7 := A_7.other W442 (Ne.symm (oP DI 0 9))
  have A_8 := A_8.other W442 (Ne.symm (oP DI 0 10))
  have A_9 := A_9.other W442 (Ne.symm (oP DI 0 11))
  have A_li := A_li.other W442 (Ne.symm (oP DI 0 1))
  have f_17 := oT f_17 W442 (Or.inl (gw hw 59 rfl)) (Or.inl (gw hw 55 rfl)) .int .int
  have O := O.wr W442 DI.1
  have Zn : n0 ≤ _ := Nat.le_trans Zn (Nat.le_of_eq W442.size.symm)
  have K := K.wr W442 (Or.inl (List.mem_of_getElem? (i := 0) rfl))
  refine own_byW st442 ?_
  refine own_byW (S' := (oM T442 m 12 #[oR mb, oR li, oI 23, .val (.long (1 : Int64)), .second] [(.long (1 : Int64)), .ref mb])) (fun _ k => XS.aloadN X442.here hx rfl (G d6_10) rfl rfl (XS.lloadN X442.here hx rfl (G d6_11) rfl k)) ?_
  obtain ⟨T443, h443, X443, e443, W443, st443⟩ := putF X442 hx hZ hown (host := "") (Or.inl (gw hw 56 rfl)) Via.refl e442 f_12 E_mb (Or.inl (gw hw 57 rfl)) (gw hw 13 rfl) (ty := .long) (by decide) rfl rfl (g := (mkF m 12 #[oR mb, oR li, oI 23, .val (.long (1 : Int64)), .second] [(.long (1 : Int64)), .ref mb])) rfl rfl (G d6_12)
  have N := Fr.snoc X443 N DI.1
  have TB := own_tab_wr TB W443 (own_forE (gw hw 13 rfl) (by decide) E_mb)
  have hk := Nat.le_trans hk (Nat.le_of_eq W443.size.symm)
  have E_mb := E_mb.wr W443
  have f_0 := oT f_0 W443 (Or.inl (gw hw 23 rfl)) (Or.inl (gw hw 57 rfl)) (.array .int) .long
  have f_1 := oT f_1 W443 (Or.inl (gw hw 25 rfl)) (Or.inl (gw hw 57 rfl)) (.array .int) .long
  have f_2 := oT f_2 W443 (Or.inl (gw hw 27 rfl)) (Or.inl (gw hw 57 rfl)) (.array .int) .long
  have f_3 := oT f_3 W443 (Or.inl (gw hw 31 rfl)) (Or.inl (gw hw 57 rfl)) (.array (.object "java/lang/String")) .long
  have f_4 := oT f_4 W443 (Or.inl (gw hw 35 rfl)) (Or.inl (gw hw 57 rfl)) (.array (.object "com/example/upright_play/uprightplay/event/Members$Type")) .long
  have f_5 := oT f_5 W443 (Or.inl (gw hw 37 rfl)) (Or.inl (gw hw 57 rfl)) (.array .int) .long
  have f_6 := oT f_6 W443 (Or.inl (gw hw 39 rfl)) (Or.inl (gw hw 57 rfl)) (.array .int) .long
  have f_7 := oT f_7 W443 (Or.inl (gw hw 41 rfl)) (Or.inl (gw hw 57 rfl)) (.array .int) .long
  have f_8 := oT f_8 W443 (Or.inl (gw hw 43 rfl)) (Or.inl (gw hw 57 rfl)) (.array .int) .long
  have f_9 := oT f_9 W443 (Or.inr (gw hw 46 rfl)) (Or.inl (gw hw 57 rfl)) (.array .byte) .long
  have f_10 := oT f_10 W443 (Or.inl (gw hw 53 rfl)) (Or.inl (gw hw 57 rfl)) (.array .char) .long
  have f_11 := oT f_11 W443 (Or.inl (gw hw 55 rfl)) (Or.inl (gw hw 57 rfl)) .int .long
  have f_12 := f_12.same W443
  have f_13 := oT f_13 W443 (Or.inl (gw hw 61 rfl)) (Or.inl (gw hw 57 rfl)) .int .long
  have f_14 := oT f_14 W443 (Or.inl (gw hw 63 rfl)) (Or.inl (gw hw 57 rfl)) (.object "java/util/Map") .long
  have f_15 := oT f_15 W443 (Or.inl (gw hw 162 rfl)) (Or.inl (gw hw 57 rfl)) .int .long
  have f_16 := oT f_16 W443 (Or.inl (gw hw 164 rfl)) (Or.inl (gw hw 57 rfl)) .int .long
  have A_0 := A_0.other W443 (Ne.symm (oP DI 0 2))
  have A_1 := A_1.other W443 (Ne.symm (oP DI 0 3))
  have A_2 := A_2.other W443 (Ne.symm (oP DI 0 4))
  have A_3 := A_3.other W443 (Ne.symm (oP DI 0 5))
  have A_4 := A_4.other W443 (Ne.symm (oP DI 0 6))
  have A_5 := A_5.other W443 (Ne.symm (oP DI 0 7))
  have A_6 := A_6.other W443 (Ne.symm (oP DI 0 8))
  have A_7 := A_7.other W443 (Ne.symm (oP DI 0 9))
  have A_8 := A_8.other W443 (Ne.symm (oP DI 0 10))
  have A_9 := A_9.other W443 (Ne.symm (oP DI 0 11))
  have A_li := A_li.other W443 (Ne.symm (oP DI 0 1))
  have f_17 := oT f_17 W443 (Or.inl (gw hw 59 rfl)) (Or.inl (gw hw 57 rfl)) .int .long
  have O := O.wr W443 DI.1
  have Zn : n0 ≤ _ := Nat.le_trans Zn (Nat.le_of_eq W443.size.symm)
  have K := K.wr W443 (Or.inl (List.mem_of_getElem? (i := 0) rfl))
  refine own_byW st443 ?_
  refine own_byW (S' := (oM T443 m 17 #[oR mb, oR li, oI 23, .val (.long (1 : Int64)), .second] [.int 0, .ref mb])) (fun _ k => XS.aloadN X443.here hx rfl (G d6_15) rfl rfl (XS.iconst X443.here hx rfl (G d6_16) k)) ?_
  obtain ⟨T444, h444, X444, e444, W444, st444⟩ := putF X443 hx hZ hown (host := "") (Or.inl (gw hw 58 rfl)) Via.refl e443 f_17 E_mb (Or.inl (gw hw 59 rfl)) (gw hw 13 rfl) (ty := .int) (by decide) rfl rfl (g := (mkF m 17 #[oR mb, oR li, oI 23, .val (.long (1 : Int64)), .second] [.int 0, .ref mb])) rfl rfl (G d6_17)
  have N := Fr.snoc X444 N DI.1
  have TB := own_tab_wr TB W444 (own_forE (gw hw 13 rfl) (by decide) E_mb)
  have hk := Nat.le_trans hk (Nat.le_of_eq W444.size.symm)
  have E_mb := E_mb.wr W444
  have f_0 := oT f_0 W444 (Or.inl (gw hw 23 rfl)) (Or.inl (gw hw 59 rfl)) (.array .int) .int
  have f_1 := oT f_1 W444 (Or.inl (gw hw 25 rfl)) (Or.inl (gw hw 59 rfl)) (.array .int) .int
  have f_2 := oT f_2 W444 (Or.inl (gw hw 27 rfl)) (Or.inl (gw hw 59 rfl)) (.array .int) .int
  have f_3 := oT f_3 W444 (Or.inl (gw hw 31 rfl)) (Or.inl (gw hw 59 rfl)) (.array (.object "java/lang/String")) .int
  have f_4 := oT f_4 W444 (Or.inl (gw hw 35 rfl)) (Or.inl (gw hw 59 rfl)) (.array (.object "com/example/upright_play/uprightplay/event/Members$Type")) .int
  have f_5 := oT f_5 W444 (Or.inl (gw hw 37 rfl)) (Or.inl (gw hw 59 rfl)) (.array .int) .int
  have f_6 := oT f_6 W444 (Or.inl (gw hw 39 rfl)) (Or.inl (gw hw 59 rfl)) (.array .int) .int
  have f_7 := oT f_7 W444 (Or.inl (gw hw 41 rfl)) (Or.inl (gw hw 59 rfl)) (.array .int) .int
  have f_8 := oT f_8 W444 (Or.inl (gw hw 43 rfl)) (Or.inl (gw hw 59 rfl)) (.array .int) .int
  have f_9 := oT f_9 W444 (Or.inr (gw hw 46 rfl)) (Or.inl (gw hw 59 rfl)) (.array .byte) .int
  have f_10 := oT f_10 W444 (Or.inl (gw hw 53 rfl)) (Or.inl (gw hw 59 rfl)) (.array .char) .int
  have f_11 := oT f_11 W444 (Or.inl (gw hw 55 rfl)) (Or.inl (gw hw 59 rfl)) .int .int
  have f_12 := oT f_12 W444 (Or.inl (gw hw 57 rfl)) (Or.inl (gw hw 59 rfl)) .long .int
  have f_13 := oT f_13 W444 (Or.inl (gw hw 61 rfl)) (Or.inl (gw hw 59 rfl)) .int .int
  have f_14 := oT f_14 W444 (Or.inl (gw hw 63 rfl)) (Or.inl (gw hw 59 rfl)) (.object "java/util/Map") .int
  have f_15 := oT f_15 W444 (Or.inl (gw hw 162 rfl)) (Or.inl (gw hw 59 rfl)) .int .int
  have f_16 := oT f_16 W444 (Or.inl (gw hw 164 rfl)) (Or.inl (gw hw 59 rfl)) .int .int
  have A_0 := A_0.other W444 (Ne.symm (oP DI 0 2))
  have A_1 := A_1.other W444 (Ne.symm (oP DI 0 3))
  have A_2 := A_2.other W444 (Ne.symm (oP DI 0 4))
  have A_3 := A_3.other W444 (Ne.symm (oP DI 0 5))
  have A_4 := A_4.other W444 (Ne.symm (oP DI 0 6))
  have A_5 := A_5.other W444 (Ne.symm (oP DI 0 7))
  have A_6 := A_6.other W444 (Ne.symm (oP DI 0 8))
  have A_7 := A_7.other W444 (Ne.symm (oP DI 0 9))
  have A_8 := A_8.other W444 (Ne.symm (oP DI 0 10))
  have A_9 := A_9.other W444 (Ne.symm (oP DI 0 11))
  have A_li := A_li.other W444 (Ne.symm (oP DI 0 1))
  have f_17 := f_17.same W444
  have O := O.wr W444 DI.1
  have Zn : n0 ≤ _ := Nat.le_trans Zn (Nat.le_of_eq W444.size.symm)
  have K := K.wr W444 (Or.inl (List.mem_of_getElem? (i := 0) rfl))
  refine own_byW st444 ?_
  refine own_byW (S' := (oM T444 m 22 #[oR mb, oR li, oI 23, .val (.long (1 : Int64)), .second] [.int 0, .ref mb])) (fun _ k => XS.aloadN X444.here hx rfl (G d6_20) rfl rfl (XS.iconst X444.here hx rfl (G d6_21) k)) ?_
  obtain ⟨T445, h445, X445, e445, W445, st445⟩ := putF X444 hx hZ hown (host := "") (Or.inl (gw hw 60 rfl)) Via.refl e444 f_13 E_mb (Or.inl (gw hw 61 rfl)) (gw hw 13 rfl) (ty := .int) (by decide) rfl rfl (g := (mkF m 22 #[oR mb, oR li, oI 23, .val (.long (1 : Int64)), .second] [.int 0, .ref mb])) rfl rfl (G d6_22)
  have N := Fr.snoc X445 N DI.1
  have TB := own_tab_wr TB W445 (own_forE (gw hw 13 rfl) (by decide) E_mb)
  have hk := Nat.le_trans hk (Nat.le_of_eq W445.size.symm)
  have E_mb := E_mb.wr W445
  have f_0 := oT f_0 W445 (Or.inl (gw hw 23 rfl)) (Or.inl (gw hw 61 rfl)) (.array .int) .int
  have f_1 := oT f_1 W445 (Or.inl (gw hw 25 rfl)) (Or.inl (gw hw 61 rfl)) (.array .int) .int
  have f_2 := oT f_2 W445 (Or.inl (gw hw 27 rfl)) (Or.inl (gw hw 61 rfl)) (.array .int) .int
  have f_3 := oT f_3 W445 (Or.inl (gw hw 31 rfl)) (Or.inl (gw hw 61 rfl)) (.array (.object "java/lang/String")) .int
  have f_4 := oT f_4 W445 (Or.inl (gw hw 35 rfl)) (Or.inl (gw hw 61 rfl)) (.array (.object "com/example/upright_play/uprightplay/event/Members$Type")) .int
  have f_5 := oT f_5 W445 (Or.inl (gw hw 37 rfl)) (Or.inl (gw hw 61 rfl)) (.array .int) .int
  have f_6 := oT f_6 W445 (Or.inl (gw hw 39 rfl)) (Or.inl (gw hw 61 rfl)) (.array .int) .int
  have f_7 := oT f_7 W445 (Or.inl (gw hw 41 rfl)) (Or.inl (gw hw 61 rfl)) (.array .int) .int
  have f_8 := oT f_8 W445 (Or.inl (gw hw 43 rfl)) (Or.inl (gw hw 61 rfl)) (.array .int) .int
  have f_9 := oT f_9 W445 (Or.inr (gw hw 46 rfl)) (Or.inl (gw hw 61 rfl)) (.array .byte) .int
  have f_10 := oT f_10 W445 (Or.inl (gw hw 53 rfl)) (Or.inl (gw hw 61 rfl)) (.array .char) .int
  have f_11 := oT f_11 W445 (Or.inl (gw hw 55 rfl)) (Or.inl (gw hw 61 rfl)) .int .int
  have f_12 := oT f_12 W445 (Or.inl (gw hw 57 rfl)) (Or.inl (gw hw 61 rfl)) .long .int
  have f_13 := f_13.same W445
  have f_14 := oT f_14 W445 (Or.inl (gw hw 63 rfl)) (Or.inl (gw hw 61 rfl)) (.object "java/util/Map") .int
  have f_15 := oT f_15 W445 (Or.inl (gw hw 162 rfl)) (Or.inl (gw hw 61 rfl)) .int .int
  have f_16 := oT f_16 W445 (Or.inl (gw hw 164 rfl)) (Or.inl (gw hw 61 rfl)) .int .int
  have A_0 := A_0.other W445 (Ne.symm (oP DI 0 2))
  have A_1 := A_1.other W445 (Ne.symm (oP DI 0 3))
  have A_2 := A_2.other W445 (Ne.symm (oP DI 0 4))
  have A_3 := A_3.other W445 (Ne.symm (oP DI 0 5))
  have A_4 := A_4.other W445 (Ne.symm (oP DI 0 6))
  have A_5 := A_5.other W445 (Ne.symm (oP DI 0 7))
  have A_6 := A_6.other W445 (Ne.symm (oP DI 0 8))
  have A_7 := A_7.other W445 (Ne.symm (oP DI 0 9))
  have A_8 := A_8.other W445 (Ne.symm (oP DI 0 10))
  have A_9 := A_9.other W445 (Ne.symm (oP DI 0 11))
  have A_li := A_li.other W445 (Ne.symm (oP DI 0 1))
  have f_17 := oT f_17 W445 (Or.inl (gw hw 59 rfl)) (Or.inl (gw hw 61 rfl)) .int .int
  have O := O.wr W445 DI.1
  have Zn : n0 ≤ _ := Nat.le_trans Zn (Nat.le_of_eq W445.size.symm)
  have K := K.wr W445 (Or.inl (List.mem_of_getElem? (i := 0) rfl))
  refine own_byW st445 ?_
  refine own_byW (S' := (oM T445 m 27 #[oR mb, oR li, oI 23, .val (.long (1 : Int64)), .second] [.null, .ref mb])) (fun _ k => XS.aloadN X445.here hx rfl (G d6_25) rfl rfl (XS.aconstNull X445.here hx rfl (G d6_26) k)) ?_
  obtain ⟨T446, h446, X446, e446, W446, st446⟩ := putF X445 hx hZ hown (host := "") (Or.inl (gw hw 62 rfl)) Via.refl e445 f_14 E_mb (Or.inl (gw hw 63 rfl)) (gw hw 13 rfl) (ty := (.object "java/util/Map")) (by decide) rfl rfl (g := (mkF m 27 #[oR mb, oR li, oI 23, .val (.long (1 : Int64)), .second] [.null, .ref mb])) rfl rfl (G d6_27)
  have N := Fr.snoc X446 N DI.1
  have TB := own_tab_wr TB W446 (own_forE (gw hw 13 rfl) (by decide) E_mb)
  have hk := Nat.le_trans hk (Nat.le_of_eq W446.size.symm)
  have E_mb := E_mb.wr W446
  have f_0 := oT f_0 W446 (Or.inl (gw hw 23 rfl)) (Or.inl (gw hw 63 rfl)) (.array .int) (.object "java/util/Map")
  have f_1 := oT f_1 W446 (Or.inl (gw hw 25 rfl)) (Or.inl (gw hw 63 rfl)) (.array .int) (.object "java/util/Map")
  have f_2 := oT f_2 W446 (Or.inl (gw hw 27 rfl)) (Or.inl (gw hw 63 rfl)) (.array .int) (.object "java/util/Map")
  have f_3 := oT f_3 W446 (Or.inl (gw hw 31 rfl)) (Or.inl (gw hw 63 rfl)) (.array (.object "java/lang/String")) (.object "java/util/Map")
  have f_4 := oT f_4 W446 (Or.inl (gw hw 35 rfl)) (Or.inl (gw hw 63 rfl)) (.array (.object "com/example/upright_play/uprightplay/event/Members$Type")) (.object "java/util/Map")
  have f_5 := oT f_5 W446 (Or.inl (gw hw 37 rfl)) (Or.inl (gw hw 63 rfl)) (.array .int) (.object "java/util/Map")
  have f_6 := oT f_6 W446 (Or.inl (gw hw 39 rfl)) (Or.inl (gw hw 63 rfl)) (.array .int) (.object "java/util/Map")
  have f_7 := oT f_7 W446 (Or.inl (gw hw 41 rfl)) (Or.inl (gw hw 63 rfl)) (.array .int) (.object "java/util/Map")
  have f_8 := oT f_8 W446 (Or.inl (gw hw 43 rfl)) (Or.inl (gw hw 63 rfl)) (.array .int) (.object "java/util/Map")
  have f_9 := oT f_9 W446 (Or.inr (gw hw 46 rfl)) (Or.inl (gw hw 63 rfl)) (.array .byte) (.object "java/util/Map")
  have f_10 := oT f_10 W446 (Or.inl (gw hw 53 rfl)) (Or.inl (gw hw 63 rfl)) (.array .char) (.object "java/util/Map")
  have f_11 := oT f_11 W446 (Or.inl (gw hw 55 rfl)) (Or.inl (gw hw 63 rfl)) .int (.object "java/util/Map")
  have f_12 := oT f_12 W446 (Or.inl (gw hw 57 rfl)) (Or.inl (gw hw 63 rfl)) .long (.object "java/util/Map")
  have f_13 := oT f_13 W446 (Or.inl (gw hw 61 rfl)) (Or.inl (gw hw 63 rfl)) .int (.object "java/util/Map")
  have f_14 := f_14.same W446
  have f_15 := oT f_15 W446 (Or.inl (gw hw 162 rfl)) (Or.inl (gw hw 63 rfl)) .int (.object "java/util/Map")
  have f_16 := oT f_16 W446 (Or.inl (gw hw 164 rfl)) (Or.inl (gw hw 63 rfl)) .int (.object "java/util/Map")
  have A_0 := A_0.other W446 (Ne.symm (oP DI 0 2))
  have A_1 := A_1.other W446 (Ne.symm (oP DI 0 3))
  have A_2 := A_2.other W446 (Ne.symm (oP DI 0 4))
  have A_3 := A_3.other W446 (Ne.symm (oP DI 0 5))
  have A_4 := A_4.other W446 (Ne.symm (oP DI 0 6))
  have A_5 := A_5.other W446 (Ne.symm (oP DI 0 7))
  have A_6 := A_6.other W446 (Ne.symm (oP DI 0 8))
  have A_7 := A_7.other W446 (Ne.symm (oP DI 0 9))
  have A_8 := A_8.other W446 (Ne.symm (oP DI 0 10))
  have A_9 := A_9.other W446 (Ne.symm (oP DI 0 11))
  have A_li := A_li.other W446 (Ne.symm (oP DI 0 1))
  have f_17 := oT f_17 W446 (Or.inl (gw hw 59 rfl)) (Or.inl (gw hw 63 rfl)) .int (.object "java/util/Map")
  have O := O.wr W446 DI.1
  have Zn : n0 ≤ _ := Nat.le_trans Zn (Nat.le_of_eq W446.size.symm)
  have K := K.wr W446 (Or.inl (List.mem_of_getElem? (i := 0) rfl))
  refine own_byW st446 ?_
  refine own_byW (S' := (oM T446 m 31 #[oR mb, oR li, oI 23, .val (.long (1 : Int64)), .second] [.ref mb])) (fun _ k => XS.aloadN X446.here hx rfl (G d6_30) rfl rfl k) ?_
  obtain ⟨T447, X447, e447, st447⟩ := getF X446 hx hZ hown (host := "") (Or.inl (gw hw 45 rfl)) Via.refl e446 f_9 (g := (mkF m 31 #[oR mb, oR li, oI 23, .val (.long (1 : Int64)), .second] [.ref mb])) rfl rfl (G d6_31)
  refine own_byW st447 ?_
  refine own_byW (S' := (oM T447 m 35 #[oR mb, oR li, oI 23, .val (.long (1 : Int64)), .second] [.int 0, (.ref (D 9))])) (fun _ k => XS.iconst X447.here hx rfl (G d6_34) k) ?_
  obtain ⟨_, _, ⟨T448, L448, k448, n448⟩, -, X448, ⟨Lc448, hQ448, l448, y448, z448⟩, st448⟩ := Jvm.LawKit.callS X447 hx (y := y_7) hown (mvT hZ (gw hw 64 rfl)) (mvT hZ (gw hw 65 rfl)) (mvT hZ (gw hw 66 rfl)) (mvT hZ (gw hw 67 rfl)) (by decide) (backOf (W := 0) (rm_fill l Z a0 hw [] (D 9) h446 n0 Zn A_9 (DI.2.1 9 (by decide))) hZ (gw hw 67 rfl) (gw hw 66 rfl) (by decide) (by decide)) (g := (mkF m 35 #[oR mb, oR li, oI 23, .val (.long (1 : Int64)), .second] [.int 0, (.ref (D 9))])) rfl (by rw [hml]; rfl) (argsL := [(.ref (D 9)), .int 0]) (rest := []) (lenOf pd__28_5bBB_29V rfl) rfl oZ (G d6_35) (fun _ _ => ⟨rfl, e447, (by decide : 0 + 0 ≤ _), (by decide : 0 + 0 ≤ _)⟩)
  dsimp only [Pt.U, Pt.locs, Pt.cells, Pt.slots] at X448 l448 y448 z448 st448 hQ448
  have X448 := own_recast X448 l448 y448 z448
  obtain ⟨rfl, N448q, Kf, B_9⟩ := hQ448
  have N := Fr.app N N448q
  have TB := own_tab_keep TB Kf (allS (own_forA (gw hw 98 rfl) A_9 (Nat.le_of_ble_eq_true rfl)) all0)
  have hk := Nat.le_trans hk Kf.1
  have E_mb := E_mb.keep Kf
  have f_0 := f_0.keep Kf (ninS (oP DI 0 11) nin0)
  have f_1 := f_1.keep Kf (ninS (oP DI 0 11) nin0)
  have f_2 := f_2.keep Kf (ninS (oP DI 0 11) nin0)
  have f_3 := f_3.keep Kf (ninS (oP DI 0 11) nin0)
  have f_4 := f_4.keep Kf (ninS (oP DI 0 11) nin0)
  have f_5 := f_5.keep Kf (ninS (oP DI 0 11) nin0)
  have f_6 := f_6.keep Kf (ninS (oP DI 0 11) nin0)
  have f_7 := f_7.keep Kf (ninS (oP DI 0 11) nin0)
  have f_8 := f_8.keep Kf (ninS (oP DI 0 11) nin0)
  have f_9 := f_9.keep Kf (ninS (oP DI 0 11) nin0)
  have f_10 := f_10.keep Kf (ninS (oP DI 0 11) nin0)
  have f_11 := f_11.keep Kf (ninS (oP DI 0 11) nin0)
  have f_12 := f_12.keep Kf (ninS (oP DI 0 11) nin0)
  have f_13 := f_13.keep Kf (ninS (oP DI 0 11) nin0)
  have f_14 := f_14.keep Kf (ninS (oP DI 0 11) nin0)
  have f_15 := f_15.keep Kf (ninS (oP DI 0 11) nin0)
  have f_16 := f_16.keep Kf (ninS (oP DI 0 11) nin0)
  have A_0 := A_0.keep Kf (ninS (oP DI 2 11) nin0)
  have A_1 := A_1.keep Kf (ninS (oP DI 3 11) nin0)
  have A_2 := A_2.keep Kf (ninS (oP DI 4 11) nin0)
  have A_3 := A_3.keep Kf (ninS (oP DI 5 11) nin0)
  have A_4 := A_4.keep Kf (ninS (oP DI 6 11) nin0)
  have A_5 := A_5.keep Kf (ninS (oP DI 7 11) nin0)
  have A_6 := A_6.keep Kf (ninS (oP DI 8 11) nin0)
  have A_7 := A_7.keep Kf (ninS (oP DI 9 11) nin0)
  have A_8 := A_8.keep Kf (ninS (oP DI 10 11) nin0)
  have A_li := A_li.keep Kf (ninS (oP DI 1 11) nin0)
  have f_17 := f_17.keep Kf (ninS (oP DI 0 11) nin0)
  have O := O.keep Kf (allS (DI.2.1 9 (by decide)) all0)
  have Zn : n0 ≤ _ := Nat.le_trans Zn Kf.1
  have K := K.trans Kf (allS (Or.inl (List.mem_of_getElem? (i := 10) rfl)) all0)
  refine own_byW st448 ?_
  have A_9 := B_9
  refine own_byW (S' := (oM T448 m 56 #[oR mb, oR li, oI 23, .val (.long (1 : Int64)), .second] [.ref mb])) (fun _ k => XS.iloadN X448.here hx rfl (G d6_38) rfl (XS.ifNo X448.here hx rfl (G d6_39) rfl ((if0 _ _).trans (tlt ((by decide) : (0 : Int32) < (23 : Int32))).2.2.2) (XS.aloadN X448.here hx rfl (G d6_42) rfl rfl (XS.iconst X448.here hx rfl (G d6_43) (own_caload X448 hx hZ rfl A_li (by decide) (v := (.int 123)) (show LN[(0 : Int32).toNatClampNeg]? = _ from l0) (g := (mkF m 44 #[oR mb, oR li, oI 23, .val (.long (1 : Int64)), .second] [.int 0, .ref li])) rfl rfl (G d6_44) _ (X448.ldcInt hx hown (mvT hZ (gw hw 68 rfl)) (g := (mkF m 45 #[oR mb, oR li, oI 23, .val (.long (1 : Int64)), .second] [.int 123])) rfl (G d6_45) _ (XS.icmpYes X448.here hx rfl (pc0 := 47) (pc' := 55) rfl (G d6_47) rfl (feq ((by decide) : ¬ ((123 : Int32) = (65279 : Int32)))).2 (by decide) (by decide) (XS.aloadN X448.here hx rfl (G d6_55) rfl rfl k)))))))) ?_
  obtain ⟨cq450, q450, q450'⟩ := E_mb.cell
  obtain ⟨_, _, ⟨T450, L450, k450, n450⟩, -, X450, ⟨Lc450, hQ450, l450, y450, z450⟩, st450⟩ := X448.privateBack hx (y := y_8) hown (mvT hZ (gw hw 69 rfl)) (mvT hZ (gw hw 70 rfl)) (own_selP hZ (gw hw 13 rfl) (gw hw 71 rfl) (gw hw 70 rfl) (by decide)) (Cond.privateMethod_at (mvP hZ (gw hw 71 rfl) (args := #[]))) (mvT hZ (gw hw 72 rfl)) (by decide) (backOf (W := 0) (rm_skip l Z a0 hw [] mb li LN 0 0 T448.heap n0 Zn E_mb f_17 f_11 f_10 A_li DI.1 ne_mb_li (own_ws0 (by decide) l0 (by decide))) hZ (gw hw 72 rfl) (gw hw 14 rfl) (by decide) (by decide)) (g := (mkF m 56 #[oR mb, oR li, oI 23, .val (.long (1 : Int64)), .second] [.ref mb])) rfl (by rw [hml]; rfl) (Steps.refl _) (a := mb) q450 q450' (argsL := []) (rest := []) (lenOf pd__28_29V rfl) rfl oZ (G d6_56) (fun _ _ => ⟨rfl, rfl, (by decide : 0 + 0 ≤ _), (by decide : 0 + 0 ≤ _)⟩)
  dsimp only [Pt.U, Pt.locs, Pt.cells, Pt.slots] at X450 l450 y450 z450 st450 hQ450
  have X450 := own_recast X450 l450 y450 z450
  obtain ⟨rfl, N450q, Wp449⟩ := hQ450
  have N := Fr.app N N450q
  have TB := own_tab_wr TB Wp449 (own_forE (gw hw 13 rfl) (by decide) E_mb)
  have hk := Nat.le_trans hk (Nat.le_of_eq Wp449.size.symm)
  have E_mb := E_mb.wr Wp449
  have f_0 := oT f_0 Wp449 (Or.inl (gw hw 23 rfl)) (Or.inl (gw hw 59 rfl)) (.array .int) .int
  have f_1 := oT f_1 Wp449 (Or.inl (gw hw 25 rfl)) (Or.inl (gw hw 59 rfl)) (.array .int) .int
  have f_2 := oT f_2 Wp449 (Or.inl (gw hw 27 rfl)) (Or.inl (gw hw 59 rfl)) (.array .int) .int
  have f_3 := oT f_3 Wp449 (Or.inl (gw hw 31 rfl)) (Or.inl (gw hw 59 rfl)) (.array (.object "java/lang/String")) .int
  have f_4 := oT f_4 Wp449 (Or.inl (gw hw 35 rfl)) (Or.inl (gw hw 59 rfl)) (.array (.object "com/example/upright_play/uprightplay/event/Members$Type")) .int
  have f_5 := oT f_5 Wp449 (Or.inl (gw hw 37 rfl)) (Or.inl (gw hw 59 rfl)) (.array .int) .int
  have f_6 := oT f_6 Wp449 (Or.inl (gw hw 39 rfl)) (Or.inl (gw hw 59 rfl)) (.array .int) .int
  have f_7 := oT f_7 Wp449 (Or.inl (gw hw 41 rfl)) (Or.inl (gw hw 59 rfl)) (.array .int) .int
  have f_8 := oT f_8 Wp449 (Or.inl (gw hw 43 rfl)) (Or.inl (gw hw 59 rfl)) (.array .int) .int
  have f_9 := oT f_9 Wp449 (Or.inr (gw hw 46 rfl)) (Or.inl (gw hw 59 rfl)) (.array .byte) .int
  have f_10 := oT f_10 Wp449 (Or.inl (gw hw 53 rfl)) (Or.inl (gw hw 59 rfl)) (.array .char) .int
  have f_11 := oT f_11 Wp449 (Or.inl (gw hw 55 rfl)) (Or.inl (gw hw 59 rfl)) .int .int
  have f_12 := oT f_12 Wp449 (Or.inl (gw hw 57 rfl)) (Or.inl (gw hw 59 rfl)) .long .int
  have f_13 := oT f_13 Wp449 (Or.inl (gw hw 61 rfl)) (Or.inl (gw hw 59 rfl)) .int .int
  have f_14 := oT f_14 Wp449 (Or.inl (gw hw 63 rfl)) (Or.inl (gw hw 59 rfl)) (.object "java/util/Map") .int
  have f_15 := oT f_15 Wp449 (Or.inl (gw hw 162 rfl)) (Or.inl (gw hw 59 rfl)) .int .int
  have f_16 := oT f_16 Wp449 (Or.inl (gw hw 164 rfl)) (Or.inl (gw hw 59 rfl)) .int .int
  have A_0 := A_0.other Wp449 (Ne.symm (oP DI 0 2))
  have A_1 := A_1.other Wp449 (Ne.symm (oP DI 0 3))
  have A_2 := A_2.other Wp449 (Ne.symm (oP DI 0 4))
  have A_3 := A_3.other Wp449 (Ne.symm (oP DI 0 5))
  have A_4 := A_4.other Wp449 (Ne.symm (oP DI 0 6))
  have A_5 := A_5.other Wp449 (Ne.symm (oP DI 0 7))
  have A_6 := A_6.other Wp449 (Ne.symm (oP DI 0 8))
  have A_7 := A_7.other Wp449 (Ne.symm (oP DI 0 9))
  have A_8 := A_8.other Wp449 (Ne.symm (oP DI 0 10))
  have A_li := A_li.other Wp449 (Ne.symm (oP DI 0 1))
  have f_17 := f_17.same Wp449
  have O := O.wr Wp449 DI.1
  have A_9 := A_9.other Wp449 (Ne.symm (oP DI 0 11))
  have Zn : n0 ≤ _ := Nat.le_trans Zn (Nat.le_of_eq Wp449.size.symm)
  have K := K.wr Wp449 (Or.inl (List.mem_of_getElem? (i := 0) rfl))
  refine own_trW st450 ?_
  refine own_byW (S' := (oM T450 m 60 #[oR mb, oR li, oI 23, .val (.long (1 : Int64)), .second] [.ref mb])) (fun _ k => XS.aloadN X450.here hx rfl (G d6_59) rfl rfl k) ?_
  obtain ⟨T451, X451, e451, st451⟩ := getF X450 hx hZ hown (host := "") (Or.inl (gw hw 58 rfl)) Via.refl rfl f_17 (g := (mkF m 60 #[oR mb, oR li, oI 23, .val (.long (1 : Int64)), .second] [.ref mb])) rfl rfl (G d6_60)
  refine own_byW st451 ?_
  refine own_byW (S' := (oM T451 m 69 #[oR mb, oR li, oI 23, .val (.long (1 : Int64)), .second] [.ref mb, .ref li])) (fun _ k => XS.iloadN X451.here hx rfl (G d6_63) rfl (XS.icmpNo X451.here hx rfl (G d6_64) rfl (feq ((by decide) : ¬ ((0 : Int32) = (23 : Int32)))).1 (XS.aloadN X451.here hx rfl (G d6_67) rfl rfl (XS.aloadN X451.here hx rfl (G d6_68) rfl rfl k)))) ?_
  obtain ⟨T452, X452, e452, st452⟩ := getF X451 hx hZ hown (host := "") (Or.inl (gw hw 58 rfl)) Via.refl e451 f_17 (g := (mkF m 69 #[oR mb, oR li, oI 23, .val (.long (1 : Int64)), .second] [.ref mb, .ref li])) rfl rfl (G d6_69)
  refine own_byW st452 ?_
  refine own_byW (S' := (oM T452 m 107 #[oR mb, oR li, oI 23, .val (.long (1 : Int64)), .second] [.int 125, .int 1, .ref mb])) (fun _ k => own_caload X452 hx hZ e452 A_li (by decide) (v := (.int 123)) (show LN[(0 : Int32).toNatClampNeg]? = _ from l0) (g := (mkF m 72 #[oR mb, oR li, oI 23, .val (.long (1 : Int64)), .second] [.int 0, .ref li])) rfl rfl (G d6_72) _ (XS.bipush X452.here hx rfl (G d6_73) (XS.icmpYes X452.here hx rfl (pc0 := 75) (pc' := 103) rfl (G d6_75) rfl (teq ((by decide) : (123 : Int32) = (123 : Int32))).1 (by decide) (by decide) (XS.aloadN X452.here hx rfl (G d6_103) rfl rfl (XS.iconst X452.here hx rfl (G d6_104) (XS.bipush X452.here hx rfl (G d6_105) k)))))) ?_
  have M : OwnM Z T450.heap mb D own_V0 (.ref li) 23 1 0 := ⟨E_mb, f_0, f_1, f_2, f_3, f_4, f_5, f_6, f_7, f_8, f_9, f_10, f_11, f_12, f_13, f_14, f_15, f_16, A_0, A_1, A_2, A_3, A_4, A_5, A_6, A_7, A_8, A_9⟩
  obtain ⟨cq453, q453, q453'⟩ := E_mb.cell
  obtain ⟨_, _, ⟨T453, L453, k453, n453⟩, -, X453, S453, G453, ⟨Lc453, hQ453, TB, l453, y453, z453⟩, st453⟩ := X452.privateBackS hx (y := y_10) hown (mvT hZ (gw hw 76 rfl)) (mvT hZ (gw hw 77 rfl)) (own_selP hZ (gw hw 13 rfl) (gw hw 78 rfl) (gw hw 77 rfl) (by decide)) (Cond.privateMethod_at (mvP hZ (gw hw 78 rfl) (args := #[]))) (mvT hZ (gw hw 79 rfl)) (by decide) (own_backS (W := 0) (rm_readC l Z a0 hw [] mb li D LN c1 c2 p1 q1 p2 q2 t1 t2 cs fo bo T450.heap n0 Zn M DI A_li f_17 HL0 O ⟨SC, hcs, SF, hfo, SB, EB⟩ HC HW) hZ (gw hw 79 rfl) (gw hw 14 rfl) (by decide) (by decide)) (g := (mkF m 107 #[oR mb, oR li, oI 23, .val (.long (1 : Int64)), .second] [.int 125, .int 1, .ref mb])) rfl (by rw [hml]; rfl) (Steps.refl _) (a := mb) (by rw [e452]; exact q453) q453' (argsL := [.int 1, .int 125]) (rest := []) (lenOf pd__28IC_29V rfl) rfl oZ (G d6_107) (fun _ hv => ⟨rfl, e452, own_tab_warm TB hv, (by decide : 0 + 4 ≤ _), (by decide : 0 + 48 ≤ _)⟩)
  dsimp only [Pt.U, Pt.locs, Pt.cells, Pt.slots] at X453 l453 y453 z453 st453 hQ453
  have X453 := own_recast X453 l453 y453 z453
  dsimp only [Pt.U, Pt.locs, Pt.cells, Pt.slots] at S453 G453 TB
  obtain ⟨X453, hS, hZ, hown⟩ := rebS hS (show _ ≤ T452.heap.size by rw [e452]; exact hk) X453 S453 G453 hZ hown
  obtain ⟨rfl, N453q, Kc, M, f_17⟩ := hQ453
  have N := Fr.app N N453q
  have E_mb := E_mb.keep Kc
  have A_li := A_li.keep Kc (ninS (Ne.symm (oP DI 0 1)) (ninS (oP DI 1 2) (ninS (oP DI 1 3) (ninS (oP DI 1 4) (ninS (oP DI 1 5) (ninS (oP DI 1 6) (ninS (oP DI 1 7) (ninS (oP DI 1 8) (ninS (oP DI 1 9) (ninS (oP DI 1 10) (ninS (oP DI 1 11) nin0)))))))))))
  have O := O.keep Kc (allS DI.1 (allS (DI.2.1 0 (by decide)) (allS (DI.2.1 1 (by decide)) (allS (DI.2.1 2 (by decide)) (allS (DI.2.1 3 (by decide)) (allS (DI.2.1 4 (by decide)) (allS (DI.2.1 5 (by decide)) (allS (DI.2.1 6 (by decide)) (allS (DI.2.1 7 (by decide)) (allS (DI.2.1 8 (by decide)) (allS (DI.2.1 9 (by decide)) all0)))))))))))
  have Zn : n0 ≤ _ := Nat.le_trans Zn Kc.1
  have K := K.trans Kc (allS (Or.inl (List.mem_of_getElem? (i := 0) rfl)) (allS (Or.inl (List.mem_of_getElem? (i := 1) rfl)) (allS (Or.inl (List.mem_of_getElem? (i := 2) rfl)) (allS (Or.inl (List.mem_of_getElem? (i := 3) rfl)) (allS (Or.inl (List.mem_of_getElem? (i := 4) rfl)) (allS (Or.inl (List.mem_of_getElem? (i := 5) rfl)) (allS (Or.inl (List.mem_of_getElem? (i := 6) rfl)) (allS (Or.inl (List.mem_of_getElem? (i := 7) rfl)) (allS (Or.inl (List.mem_of_getElem? (i := 8) rfl)) (allS (Or.inl (List.mem_of_getElem? (i := 9) rfl)) (allS (Or.inl (List.mem_of_getElem? (i := 10) rfl)) all0)))))))))))
  have hk : T453.heap.size ≤ T453.heap.size := Nat.le_refl _
  refine own_trW st453 ?_
  have E_mb := M.1
  have f_10 := M.2.2.2.2.2.2.2.2.2.2.2.1
  have F_len := M.2.2.2.2.2.2.2.2.2.2.2.2.1
  refine own_byW (S' := (oM T453 m 111 #[oR mb, oR li, oI 23, .val (.long (1 : Int64)), .second] [.ref mb])) (fun _ k => XS.aloadN X453.here hx rfl (G d6_110) rfl rfl k) ?_
  obtain ⟨cq455, q455, q455'⟩ := E_mb.cell
  obtain ⟨_, _, ⟨T455, L455, k455, n455⟩, -, X455, ⟨Lc455, hQ455, l455, y455, z455⟩, st455⟩ := X453.privateBack hx (y := y_8) hown (mvT hZ (gw hw 69 rfl)) (mvT hZ (gw hw 70 rfl)) (own_selP hZ (gw hw 13 rfl) (gw hw 71 rfl) (gw hw 70 rfl) (by decide)) (Cond.privateMethod_at (mvP hZ (gw hw 71 rfl) (args := #[]))) (mvT hZ (gw hw 72 rfl)) (by decide) (backOf (W := 0) (rm_skip l Z a0 hw [] mb li LN 23 23 T453.heap n0 Zn E_mb f_17 F_len f_10 A_li DI.1 ne_mb_li own_ws1) hZ (gw hw 72 rfl) (gw hw 14 rfl) (by decide) (by decide)) (g := (mkF m 111 #[oR mb, oR li, oI 23, .val (.long (1 : Int64)), .second] [.ref mb])) rfl (by rw [hml]; rfl) (Steps.refl _) (a := mb) q455 q455' (argsL := []) (rest := []) (lenOf pd__28_29V rfl) rfl oZ (G d6_111) (fun _ _ => ⟨rfl, rfl, (by decide : 4 + 0 ≤ _), (by decide : 48 + 0 ≤ _)⟩)
  dsimp only [Pt.U, Pt.locs, Pt.cells, Pt.slots] at X455 l455 y455 z455 st455 hQ455
  have X455 := own_recast X455 l455 y455 z455
  obtain ⟨rfl, N455q, Wp454⟩ := hQ455
  have N := Fr.app N N455q
  have TB := own_tab_wr TB Wp454 (own_forE (gw hw 13 rfl) (by decide) E_mb)
  have hk := Nat.le_trans hk (Nat.le_of_eq Wp454.size.symm)
  have E_mb := E_mb.wr Wp454
  have A_li := A_li.other Wp454 (Ne.symm (oP DI 0 1))
  have O := O.wr Wp454 DI.1
  have M := own_M_pos hw DI.2.2 M Wp454
  have f_17 := f_17.same Wp454
  have f_10 := oT f_10 Wp454 (Or.inl (gw hw 53 rfl)) (Or.inl (gw hw 59 rfl)) (.array .char) .int
  have F_len := oT F_len Wp454 (Or.inl (gw hw 55 rfl)) (Or.inl (gw hw 59 rfl)) .int .int
  have Zn : n0 ≤ _ := Nat.le_trans Zn (Nat.le_of_eq Wp454.size.symm)
  have K := K.wr Wp454 (Or.inl (List.mem_of_getElem? (i := 0) rfl))
  refine own_trW st455 ?_
  refine own_byW (S' := (oM T455 m 115 #[oR mb, oR li, oI 23, .val (.long (1 : Int64)), .second] [.ref mb])) (fun _ k => XS.aloadN X455.here hx rfl (G d6_114) rfl rfl k) ?_
  obtain ⟨T456, X456, e456, st456⟩ := getF X455 hx hZ hown (host := "") (Or.inl (gw hw 58 rfl)) Via.refl rfl f_17 (g := (mkF m 115 #[oR mb, oR li, oI 23, .val (.long (1 : Int64)), .second] [.ref mb])) rfl rfl (G d6_115)
  refine own_byW st456 ?_
  refine own_byW (S' := (oM T456 m 127 #[oR mb, oR li, oI 23, .val (.long (1 : Int64)), .second] [])) (fun _ k => XS.iloadN X456.here hx rfl (G d6_118) rfl (XS.icmpYes X456.here hx rfl (pc0 := 119) (pc' := 127) rfl (G d6_119) rfl (teq ((by decide) : (23 : Int32) = (23 : Int32))).1 (by decide) (by decide) k)) ?_
  exact own_ret0W X456 hx hS e456 hk TB Bd.returns (G d6_127) hlk (by decide : 4 ≤ _) (by decide : 48 ≤ _) ⟨rfl, N, K, M⟩
def own_pv (f g : Int32) : List Int32 := if f = 0 then [102, 97, 108, 115, 101] else if g = 0 then [116, 114, 117, 101, 32] else [32, 116, 114, 117, 101]
theorem d3_0 : oD c_3 0 (.iload_n 2, 1) := by decide +kernel
theorem d3_1 : oD c_3 1 (.ifCond .ne 39, 3) := by decide +kernel
theorem d3_4 : oD c_3 4 (.aload_n 0, 1) := by decide +kernel
theorem d3_5 : oD c_3 5 (.iload_n 1, 1) := by decide +kernel
theorem d3_6 : oD c_3 6 (.bipush 102, 2) := by decide +kernel
theorem d3_8 : oD c_3 8 (.castore, 1) := by decide +kernel
theorem d3_9 : oD c_3 9 (.aload_n 0, 1) := by decide +kernel
theorem d3_10 : oD c_3 10 (.iload_n 1, 1) := by decide +kernel
theorem d3_11 : oD c_3 11 (.iconst 1, 1) := by decide +kernel
theorem d3_12 : oD c_3 12 (.iadd, 1) := by decide +kernel
theorem d3_13 : oD c_3 13 (.bipush 97, 2) := by decide +kernel
theorem d3_15 : oD c_3 15 (.castore, 1) := by decide +kernel
theorem d3_16 : oD c_3 16 (.aload_n 0, 1) := by decide +kernel
theorem d3_17 : oD c_3 17 (.iload_n 1, 1) := by decide +kernel
theorem d3_18 : oD c_3 18 (.iconst 2, 1) := by decide +kernel
theorem d3_19 : oD c_3 19 (.iadd, 1) := by decide +kernel
theorem d3_20 : oD c_3 20 (.bipush 108, 2) := by decide +kernel
theorem d3_22 : oD c_3 22 (.castore, 1) := by decide +kernel
theorem d3_23 : oD c_3 23 (.aload_n 0, 1) := by decide +kernel
theorem d3_24 : oD c_3 24 (.iload_n 1, 1) := by decide +kernel
theorem d3_25 : oD c_3 25 (.iconst 3, 1) := by decide +kernel
theorem d3_26 : oD c_3 26 (.iadd, 1) := by decide +kernel
theorem d3_27 : oD c_3 27 (.bipush 115, 2) := by decide +kernel
theorem d3_29 : oD c_3 29 (.castore, 1) := by decide +kernel
theorem d3_30 : oD c_3 30 (.aload_n 0, 1) := by decide +kernel
theorem d3_31 : oD c_3 31 (.iload_n 1, 1) := by decide +kernel
theorem d3_32 : oD c_3 32 (.iconst 4, 1) := by decide +kernel
theorem d3_33 : oD c_3 33 (.iadd, 1) := by decide +kernel
theorem d3_34 : oD c_3 34 (.bipush 101, 2) := by decide +kernel
theorem d3_36 : oD c_3 36 (.castore, 1) := by decide +kernel
theorem d3_37 : oD c_3 37 (.goto 76, 3) := by decide +kernel
theorem d3_40 : oD c_3 40 (.iload_n 3, 1) := by decide +kernel
theorem d3_41 : oD c_3 41 (.ifCond .eq 39, 3) := by decide +kernel
theorem d3_44 : oD c_3 44 (.aload_n 0, 1) := by decide +kernel
theorem d3_45 : oD c_3 45 (.iload_n 1, 1) := by decide +kernel
theorem d3_46 : oD c_3 46 (.bipush 32, 2) := by decide +kernel
theorem d3_48 : oD c_3 48 (.castore, 1) := by decide +kernel
theorem d3_49 : oD c_3 49 (.aload_n 0, 1) := by decide +kernel
theorem d3_50 : oD c_3 50 (.iload_n 1, 1) := by decide +kernel
theorem d3_51 : oD c_3 51 (.iconst 1, 1) := by decide +kernel
theorem d3_52 : oD c_3 52 (.iadd, 1) := by decide +kernel
theorem d3_53 : oD c_3 53 (.bipush 116, 2) := by decide +kernel
theorem d3_55 : oD c_3 55 (.castore, 1) := by decide +kernel
theorem d3_56 : oD c_3 56 (.aload_n 0, 1) := by decide +kernel
theorem d3_57 : oD c_3 57 (.iload_n 1, 1) := by decide +kernel
theorem d3_58 : oD c_3 58 (.iconst 2, 1) := by decide +kernel
theorem d3_59 : oD c_3 59 (.iadd, 1) := by decide +kernel
theorem d3_60 : oD c_3 60 (.bipush 114, 2) := by decide +kernel
theorem d3_62 : oD c_3 62 (.castore, 1) := by decide +kernel
theorem d3_63 : oD c_3 63 (.aload_n 0, 1) := by decide +kernel
theorem d3_64 : oD c_3 64 (.iload_n 1, 1) := by decide +kernel
theorem d3_65 : oD c_3 65 (.iconst 3, 1) := by decide +kernel
theorem d3_66 : oD c_3 66 (.iadd, 1) := by decide +kernel
theorem d3_67 : oD c_3 67 (.bipush 117, 2) := by decide +kernel
theorem d3_69 : oD c_3 69 (.castore, 1) := by decide +kernel
theorem d3_70 : oD c_3 70 (.aload_n 0, 1) := by decide +kernel
theorem d3_71 : oD c_3 71 (.iload_n 1, 1) := by decide +kernel
theorem d3_72 : oD c_3 72 (.iconst 4, 1) := by decide +kernel
theorem d3_73 : oD c_3 73 (.iadd, 1) := by decide +kernel
theorem d3_74 : oD c_3 74 (.bipush 101, 2) := by decide +kernel
theorem d3_76 : oD c_3 76 (.castore, 1) := by decide +kernel
theorem d3_77 : oD c_3 77 (.goto 36, 3) := by decide +kernel
theorem d3_80 : oD c_3 80 (.aload_n 0, 1) := by decide +kernel
theorem d3_81 : oD c_3 81 (.iload_n 1, 1) := by decide +kernel
theorem d3_82 : oD c_3 82 (.bipush 116, 2) := by decide +kernel
theorem d3_84 : oD c_3 84 (.castore, 1) := by decide +kernel
theorem d3_85 : oD c_3 85 (.aload_n 0, 1) := by decide +kernel
theorem d3_86 : oD c_3 86 (.iload_n 1, 1) := by decide +kernel
theorem d3_87 : oD c_3 87 (.iconst 1, 1) := by decide +kernel
theorem d3_88 : oD c_3 88 (.iadd, 1) := by decide +kernel
theorem d3_89 : oD c_3 89 (.bipush 114, 2) := by decide +kernel
theorem d3_91 : oD c_3 91 (.castore, 1) := by decide +kernel
theorem d3_92 : oD c_3 92 (.aload_n 0, 1) := by decide +kernel
theorem d3_93 : oD c_3 93 (.iload_n 1, 1) := by decide +kernel
theorem d3_94 : oD c_3 94 (.iconst 2, 1) := by decide +kernel
theorem d3_95 : oD c_3 95 (.iadd, 1) := by decide +kernel
theorem d3_96 : oD c_3 96 (.bipush 117, 2) := by decide +kernel
theorem d3_98 : oD c_3 98 (.castore, 1) := by decide +kernel
theorem d3_99 : oD c_3 99 (.aload_n 0, 1) := by decide +kernel
theorem d3_100 : oD c_3 100 (.iload_n 1, 1) := by decide +kernel
theorem d3_101 : oD c_3 101 (.iconst 3, 1) := by decide +kernel
theorem d3_102 : oD c_3 102 (.iadd, 1) := by decide +kernel
theorem d3_103 : oD c_3 103 (.bipush 101, 2) := by decide +kernel
theorem d3_105 : oD c_3 105 (.castore, 1) := by decide +kernel
theorem d3_106 : oD c_3 106 (.aload_n 0, 1) := by decide +kernel
theorem d3_107 : oD c_3 107 (.iload_n 1, 1) := by decide +kernel
theorem d3_108 : oD c_3 108 (.iconst 4, 1) := by decide +kernel
theorem d3_109 : oD c_3 109 (.iadd, 1) := by decide +kernel
theorem d3_110 : oD c_3 110 (.bipush 32, 2) := by decide +kernel
theorem d3_112 : oD c_3 112 (.castore, 1) := by decide +kernel
theorem d3_113 : oD c_3 113 (.return_, 1) := by decide +kernel
theorem pn_3 : plainName "com/example/upright_play/uprightplay/event/MembersBoolPinLaw" = true := by first | (simp [plainName, overriddenIn]; done) | decide +kernel
theorem ef_rm_put6 (m : MethodId) (x0 : Addr) (x1 : Int32) (x2 : Int32) (x3 : Int32) : entryFrame m #[.ref x0, .int x1, .int x2, .int x3] 4 = mkF m 0 #[oR x0, oI x1, oI x2, oI x3] [] := by first | (simp [entryFrame, mkF, argsToLocals, Value.category]; done) | rfl
def Q_rm_put6 (Z : State) (li : Addr) (f1 g1 : Int32) (vs : List Value) (h0 : Heap) (n0 : Nat) (v : Option Value) (h : Heap) (L : List Loc) : Prop := v = none ∧ Fr n0 L ∧ Keep h0 h [li] ∧ OwnA Z h li .char (((((vs.set 6 (.int ((own_pv f1 g1).getD 0 0))).set 7 (.int ((own_pv f1 g1).getD 1 0))).set 8 (.int ((own_pv f1 g1).getD 2 0))).set 9 (.int ((own_pv f1 g1).getD 3 0))).set 10 (.int ((own_pv f1 g1).getD 4 0)))
set_option maxRecDepth 65536 in
set_option maxHeartbeats 40000000 in
theorem rm_put6 (l : Launch) (Z : State) (a0 : Array Value) (hw : ∀ d ∈ tables_1, d.before a0 Z = true) (ws : List Jvm.Cond) (li : Addr) (f1 g1 : Int32) (vs : List Value) (h0 : Heap) (n0 : Nat) (Zn : n0 ≤ h0.size) (A_li : OwnA Z h0 li .char vs) (hl : vs.length = 23) (o_li : n0 ≤ li) :
    MetFree l y_3 (head1 (Jvm.Cond.code y_3 c_3 4 none :: ws) (oQ 0 0 0 0)) (fun a U => a = #[.ref li, .int 6, .int f1, .int g1] ∧ Z.Warmed39 U.vm ∧ U.heap = h0) (fun _ _ _ _ _ => True) (fun _ U o U' => ∃ v L, o = .returned v ∧ (Q_rm_put6 Z li f1 g1 vs h0 n0) v U'.heap L ∧ FrameEnd U o U' L (oQ 0 0 0 0).cells (oQ 0 0 0 0).slots) := by
  refine MetFree.of_bodySF (plainFor_of_name pn_3) hisR ?_
  intro p e s m args below meth c s₁ Bd hml0 hP hK
  obtain ⟨rfl, hZ, hh⟩ := hP
  have hx := Bd.exec
  have G := @oG _ _ Bd.bytes
  have hml : c.maxLocals = 4 := hml0
  have hown : s.vm.findClass "com/example/upright_play/uprightplay/event/MembersBoolPinLaw" = some m.cls := findClass_of_methodNamed Bd.named
  have hnm := (name_of_methodNamed Bd.named Bd.method).1
  have hlk : meth.locks = false := BodyLoose.notSynchronized Bd
  have X0 : Stand p l e (oQ 0 0 0 0) s m #[.ref li, .int 6, .int f1, .int g1] below meth c s₁ [] 0 0 := Stand.of_body Bd
  have e0 : s₁.heap = h0 := by rw [← hh, Bd.state]; rfl
  have N := Fr.nil n0
  have K := Keep.refl h0 [li]
  refine own_start (cl := (oQ 0 0 0 0).cells) (sl := (oQ 0 0 0 0).slots) (Q := (Q_rm_put6 Z li f1 g1 vs h0 n0)) (ef_rm_put6 m li ((6 : Int32)) f1 g1) ?_
  refine own_by (S' := (oM s₁ m 1 #[oR li, oI 6, oI f1, oI g1] [.int f1])) (fun _ k => XS.iloadN X0.here hx rfl (G d3_0) rfl k) ?_
  by_cases g0 : f1 = (0 : Int32)
  · refine own_by (S' := (oM s₁ m 8 #[oR li, oI 6, oI f1, oI g1] [.int 102, .int 6, .ref li])) (fun _ k => XS.ifNo X0.here hx rfl (G d3_1) rfl ((if0 _ _).trans (teq (g0 : f1 = (0 : Int32))).2) (XS.aloadN X0.here hx rfl (G d3_4) rfl rfl (XS.iloadN X0.here hx rfl (G d3_5) rfl (XS.bipush X0.here hx rfl (G d3_6) k)))) ?_
    obtain ⟨T457, h457, X457, e457, W457, st457⟩ := own_stC X0 hx hZ e0 A_li (j := (6 : Int32)) (by decide) (by first | (rw [hl]; decide) | (simp only [List.length_set]; rw [hl]; decide)) (g := (mkF m 8 #[oR li, oI 6, oI f1, oI g1] [.int 102, .int 6, .ref li])) rfl rfl (G d3_8)
    have N := Fr.snoc X457 N o_li
    have A_li := A_li.set W457
    have Zn : n0 ≤ _ := Nat.le_trans Zn (Nat.le_of_eq W457.size.symm)
    have K := K.wr W457 (Or.inl (List.mem_of_getElem? (i := 0) rfl))
    have A_li : OwnA Z h457 li .char (vs.set 6 (.int 102)) := (by have q := A_li; rw [show (102 : Int32).toUInt32.toUInt16.toUInt32.toInt32 = 102 from by decide] at q; exact q)
    refine own_by st457 ?_
    refine own_by (S' := (oM T457 m 15 #[oR li, oI 6, oI f1, oI g1] [.int 97, .int 7, .ref li])) (fun _ k => XS.aloadN X457.here hx rfl (G d3_9) rfl rfl (XS.iloadN X457.here hx rfl (G d3_10) rfl (XS.iconst X457.here hx rfl (G d3_11) (XS.iadd X457.here hx rfl (G d3_12) rfl (XS.bipush X457.here hx rfl (G d3_13) k))))) ?_
    obtain ⟨T458, h458, X458, e458, W458, st458⟩ := own_stC X457 hx hZ e457 A_li (j := (7 : Int32)) (by decide) (by first | (rw [hl]; decide) | (simp only [List.length_set]; rw [hl]; decide)) (g := (mkF m 15 #[oR li, oI 6, oI f1, oI g1] [.int 97, .int 7, .ref li])) rfl rfl (G d3_15)
    have N := Fr.snoc X458 N o_li
    have A_li := A_li.set W458
    have Zn : n0 ≤ _ := Nat.le_trans Zn (Nat.le_of_eq W458.size.symm)
    have K := K.wr W458 (Or.inl (List.mem_of_getElem? (i := 0) rfl))
    have A_li : OwnA Z h458 li .char ((vs.set 6 (.int 102)).set 7 (.int 97)) := (by have q := A_li; rw [show (97 : Int32).toUInt32.toUInt16.toUInt32.toInt32 = 97 from by decide] at q; exact q)
    refine own_by st458 ?_
    refine own_by (S' := (oM T458 m 22 #[oR li, oI 6, oI f1, oI g1] [.int 108, .int 8, .ref li])) (fun _ k => XS.aloadN X458.here hx rfl (G d3_16) rfl rfl (XS.iloadN X458.here hx rfl (G d3_17) rfl (XS.iconst X458.here hx rfl (G d3_18) (XS.iadd X458.here hx rfl (G d3_19) rfl (XS.bipush X458.here hx rfl (G d3_20) k))))) ?_
    obtain ⟨T459, h459, X459, e459, W459, st459⟩ := own_stC X458 hx hZ e458 A_li (j := (8 : Int32)) (by decide) (by first | (rw [hl]; decide) | (simp only [List.length_set]; rw [hl]; decide)) (g := (mkF m 22 #[oR li, oI 6, oI f1, oI g1] [.int 108, .int 8, .ref li])) rfl rfl (G d3_22)
    have N := Fr.snoc X459 N o_li
    have A_li := A_li.set W459
    have Zn : n0 ≤ _ := Nat.le_trans Zn (Nat.le_of_eq W459.size.symm)
    have K := K.wr W459 (Or.inl (List.mem_of_getElem? (i := 0) rfl))
    have A_li : OwnA Z h459 li .char (((vs.set 6 (.int 102)).set 7 (.int 97)).set 8 (.int 108)) := (by have q := A_li; rw [show (108 : Int32).toUInt32.toUInt16.toUInt32.toInt32 = 108 from by decide] at q; exact q)
    refine own_by st459 ?_
    refine own_by (S' := (oM T459 m 29 #[oR li, oI 6, oI f1, oI g1] [.int 115, .int 9, .ref li])) (fun _ k => XS.aloadN X459.here hx rfl (G d3_23) rfl rfl (XS.iloadN X459.here hx rfl (G d3_24) rfl (XS.iconst X459.here hx rfl (G d3_25) (XS.iadd X459.here hx rfl (G d3_26) rfl (XS.bipush X459.here hx rfl (G d3_27) k))))) ?_
    obtain ⟨T460, h460, X460, e460, W460, st460⟩ := own_stC X459 hx hZ e459 A_li (j := (9 : Int32)) (by decide) (by first | (rw [hl]; decide) | (simp only [List.length_set]; rw [hl]; decide)) (g := (mkF m 29 #[oR li, oI 6, oI f1, oI g1] [.int 115, .int 9, .ref li])) rfl rfl (G d3_29)
    have N := Fr.snoc X460 N o_li
    have A_li := A_li.set W460
    have Zn : n0 ≤ _ := Nat.le_trans Zn (Nat.le_of_eq W460.size.symm)
    have K := K.wr W460 (Or.inl (List.mem_of_getElem? (i := 0) rfl))
    have A_li : OwnA Z h460 li .char ((((vs.set 6 (.int 102)).set 7 (.int 97)).set 8 (.int 108)).set 9 (.int 115)) := (by have q := A_li; rw [show (115 : Int32).toUInt32.toUInt16.toUInt32.toInt32 = 115 from by decide] at q; exact q)
    refine own_by st460 ?_
    refine own_by (S' := (oM T460 m 36 #[oR li, oI 6, oI f1, oI g1] [.int 101, .int 10, .ref li])) (fun _ k => XS.aloadN X460.here hx rfl (G d3_30) rfl rfl (XS.iloadN X460.here hx rfl (G d3_31) rfl (XS.iconst X460.here hx rfl (G d3_32) (XS.iadd X460.here hx rfl (G d3_33) rfl (XS.bipush X460.here hx rfl (G d3_34) k))))) ?_
    obtain ⟨T461, h461, X461, e461, W461, st461⟩ := own_stC X460 hx hZ e460 A_li (j := (10 : Int32)) (by decide) (by first | (rw [hl]; decide) | (simp only [List.length_set]; rw [hl]; decide)) (g := (mkF m 36 #[oR li, oI 6, oI f1, oI g1] [.int 101, .int 10, .ref li])) rfl rfl (G d3_36)
    have N := Fr.snoc X461 N o_li
    have A_li := A_li.set W461
    have Zn : n0 ≤ _ := Nat.le_trans Zn (Nat.le_of_eq W461.size.symm)
    have K := K.wr W461 (Or.inl (List.mem_of_getElem? (i := 0) rfl))
    have A_li : OwnA Z h461 li .char (((((vs.set 6 (.int 102)).set 7 (.int 97)).set 8 (.int 108)).set 9 (.int 115)).set 10 (.int 101)) := (by have q := A_li; rw [show (101 : Int32).toUInt32.toUInt16.toUInt32.toInt32 = 101 from by decide] at q; exact q)
    refine own_by st461 ?_
    refine own_by (S' := (oM T461 m 113 #[oR li, oI 6, oI f1, oI g1] [])) (fun _ k => XS.goto X461.here hx rfl (pc0 := 37) (pc' := 113) rfl (G d3_37) (by decide) (by decide) k) ?_
    have e1 : own_pv f1 g1 = [102, 97, 108, 115, 101] := by rw [own_pv, if_pos g0]
    exact own_ret0 X461 hx Bd.returns (G d3_113) hlk (by decide : 0 ≤ _) (by decide : 0 ≤ _) (by rw [e461]; exact ⟨rfl, N, K, by rw [e1]; exact A_li⟩)
  · refine own_by (S' := (oM s₁ m 41 #[oR li, oI 6, oI f1, oI g1] [.int g1])) (fun _ k => XS.ifYes X0.here hx rfl (pc0 := 1) (pc' := 40) rfl (G d3_1) rfl ((if0 _ _).trans (feq (g0 : ¬ (f1 = (0 : Int32)))).2) (by decide) (by decide) (XS.iloadN X0.here hx rfl (G d3_40) rfl k)) ?_
    by_cases g2 : g1 = (0 : Int32)
    · refine own_by (S' := (oM s₁ m 84 #[oR li, oI 6, oI f1, oI g1] [.int 116, .int 6, .ref li])) (fun _ k => XS.ifYes X0.here hx rfl (pc0 := 41) (pc' := 80) rfl (G d3_41) rfl ((if0 _ _).trans (teq (g2 : g1 = (0 : Int32))).1) (by decide) (by decide) (XS.aloadN X0.here hx rfl (G d3_80) rfl rfl (XS.iloadN X0.here hx rfl (G d3_81) rfl (XS.bipush X0.here hx rfl (G d3_82) k)))) ?_
      obtain ⟨T462, h462, X462, e462, W462, st462⟩ := own_stC X0 hx hZ e0 A_li (j := (6 : Int32)) (by decide) (by first | (rw [hl]; decide) | (simp only [List.length_set]; rw [hl]; decide)) (g := (mkF m 84 #[oR li, oI 6, oI f1, oI g1] [.int 116, .int 6, .ref li])) rfl rfl (G d3_84)
      have N := Fr.snoc X462 N o_li
      have A_li := A_li.set W462
      have Zn : n0 ≤ _ := Nat.le_trans Zn (Nat.le_of_eq W462.size.symm)
      have K := K.wr W462 (Or.inl (List.mem_of_getElem? (i := 0) rfl))
      have A_li : OwnA Z h462 li .char (vs.set 6 (.int 116)) := (by have q := A_li; rw [show (116 : Int32).toUInt32.toUInt16.toUInt32.toInt32 = 116 from by decide] at q; exact q)
      refine own_by st462 ?_
      refine own_by (S' := (oM T462 m 91 #[oR li, oI 6, oI f1, oI g1] [.int 114, .int 7, .ref li])) (fun _ k => XS.aloadN X462.here hx rfl (G d3_85) rfl rfl (XS.iloadN X462.here hx rfl (G d3_86) rfl (XS.iconst X462.here hx rfl (G d3_87) (XS.iadd X462.here hx rfl (G d3_88) rfl (XS.bipush X462.here hx rfl (G d3_89) k))))) ?_
      obtain ⟨T463, h463, X463, e463, W463, st463⟩ := own_stC X462 hx hZ e462 A_li (j := (7 : Int32)) (by decide) (by first | (rw [hl]; decide) | (simp only [List.length_set]; rw [hl]; decide)) (g := (mkF m 91 #[oR li, oI 6, oI f1, oI g1] [.int 114, .int 7, .ref li])) rfl rfl (G d3_91)
      have N := Fr.snoc X463 N o_li
      have A_li := A_li.set W463
      have Zn : n0 ≤ _ := Nat.le_trans Zn (Nat.le_of_eq W463.size.symm)
      have K := K.wr W463 (Or.inl (List.mem_of_getElem? (i := 0) rfl))
      have A_li : OwnA Z h463 li .char ((vs.set 6 (.int 116)).set 7 (.int 114)) := (by have q := A_li; rw [show (114 : Int32).toUInt32.toUInt16.toUInt32.toInt32 = 114 from by decide] at q; exact q)
      refine own_by st463 ?_
      refine own_by (S' := (oM T463 m 98 #[oR li, oI 6, oI f1, oI g1] [.int 117, .int 8, .ref li])) (fun _ k => XS.aloadN X463.here hx rfl (G d3_92) rfl rfl (XS.iloadN X463.here hx rfl (G d3_93) rfl (XS.iconst X463.here hx rfl (G d3_94) (XS.iadd X463.here hx rfl (G d3_95) rfl (XS.bipush X463.here hx rfl (G d3_96) k))))) ?_
      obtain ⟨T464, h464, X464, e464, W464, st464⟩ := own_stC X463 hx hZ e463 A_li (j := (8 : Int32)) (by decide) (by first | (rw [hl]; decide) | (simp only [List.length_set]; rw [hl]; decide)) (g := (mkF m 98 #[oR li, oI 6, oI f1, oI g1] [.int 117, .int 8, .ref li])) rfl rfl (G d3_98)
      have N := Fr.snoc X464 N o_li
      have A_li := A_li.set W464
      have Zn : n0 ≤ _ := Nat.le_trans Zn (Nat.le_of_eq W464.size.symm)
      have K := K.wr W464 (Or.inl (List.mem_of_getElem? (i := 0) rfl))
      have A_li : OwnA Z h464 li .char (((vs.set 6 (.int 116)).set 7 (.int 114)).set 8 (.int 117)) := (by have q := A_li; rw [show (117 : Int32).toUInt32.toUInt16.toUInt32.toInt32 = 117 from by decide] at q; exact q)
      refine own_by st464 ?_
      refine own_by (S' := (oM T464 m 105 #[oR li, oI 6, oI f1, oI g1] [.int 101, .int 9, .ref li])) (fun _ k => XS.aloadN X464.here hx rfl (G d3_99) rfl rfl (XS.iloadN X464.here hx rfl (G d3_100) rfl (XS.iconst X464.here hx rfl (G d3_101) (XS.iadd X464.here hx rfl (G d3_102) rfl (XS.bipush X464.here hx rfl (G d3_103) k))))) ?_
      obtain ⟨T465, h465, X465, e465, W465, st465⟩ := own_stC X464 hx hZ e464 A_li (j := (9 : Int32)) (by decide) (by first | (rw [hl]; decide) | (simp only [List.length_set]; rw [hl]; decide)) (g := (mkF m 105 #[oR li, oI 6, oI f1, oI g1] [.int 101, .int 9, .ref li])) rfl rfl (G d3_105)
      have N := Fr.snoc X465 N o_li
      have A_li := A_li.set W465
      have Zn : n0 ≤ _ := Nat.le_trans Zn (Nat.le_of_eq W465.size.symm)
      have K := K.wr W465 (Or.inl (List.mem_of_getElem? (i := 0) rfl))
      have A_li : OwnA Z h465 li .char ((((vs.set 6 (.int 116)).set 7 (.int 114)).set 8 (.int 117)).set 9 (.int 101)) := (by have q := A_li; rw [show (101 : Int32).toUInt32.toUInt16.toUInt32.toInt32 = 101 from by decide] at q; exact q)
      refine own_by st465 ?_
      refine own_by (S' := (oM T465 m 112 #[oR li, oI 6, oI f1, oI g1] [.int 32, .int 10, .ref li])) (fun _ k => XS.aloadN X465.here hx rfl (G d3_106) rfl rfl (XS.iloadN X465.here hx rfl (G d3_107) rfl (XS.iconst X465.here hx rfl (G d3_108) (XS.iadd X465.here hx rfl (G d3_109) rfl (XS.bipush X465.here hx rfl (G d3_110) k))))) ?_
      obtain ⟨T466, h466, X466, e466, W466, st466⟩ := own_stC X465 hx hZ e465 A_li (j := (10 : Int32)) (by decide) (by first | (rw [hl]; decide) | (simp only [List.length_set]; rw [hl]; decide)) (g := (mkF m 112 #[oR li, oI 6, oI f1, oI g1] [.int 32, .int 10, .ref li])) rfl rfl (G d3_112)
      have N := Fr.snoc X466 N o_li
      have A_li := A_li.set W466
      have Zn : n0 ≤ _ := Nat.le_trans Zn (Nat.le_of_eq W466.size.symm)
      have K := K.wr W466 (Or.inl (List.mem_of_getElem? (i := 0) rfl))
      have A_li : OwnA Z h466 li .char (((((vs.set 6 (.int 116)).set 7 (.int 114)).set 8 (.int 117)).set 9 (.int 101)).set 10 (.int 32)) := (by have q := A_li; rw [show (32 : Int32).toUInt32.toUInt16.toUInt32.toInt32 = 32 from by decide] at q; exact q)
      refine own_by st466 ?_
      have e1 : own_pv f1 g1 = [116, 114, 117, 101, 32] := by rw [own_pv, if_neg g0, if_pos g2]
      exact own_ret0 X466 hx Bd.returns (G d3_113) hlk (by decide : 0 ≤ _) (by decide : 0 ≤ _) (by rw [e466]; exact ⟨rfl, N, K, by rw [e1]; exact A_li⟩)
    · refine own_by (S' := (oM s₁ m 48 #[oR li, oI 6, oI f1, oI g1] [.int 32, .int 6, .ref li])) (fun _ k => XS.ifNo X0.here hx rfl (G d3_41) rfl ((if0 _ _).trans (feq (g2 : ¬ (g1 = (0 : Int32)))).1) (XS.aloadN X0.here hx rfl (G d3_44) rfl rfl (XS.iloadN X0.here hx rfl (G d3_45) rfl (XS.bipush X0.here hx rfl (G d3_46) k)))) ?_
      obtain ⟨T467, h467, X467, e467, W467, st467⟩ := own_stC X0 hx hZ e0 A_li (j := (6 : Int32)) (by decide) (by first | (rw [hl]; decide) | (simp only [List.length_set]; rw [hl]; decide)) (g := (mkF m 48 #[oR li, oI 6, oI f1, oI g1] [.int 32, .int 6, .ref li])) rfl rfl (G d3_48)
      have N := Fr.snoc X467 N o_li
      have A_li := A_li.set W467
      have Zn : n0 ≤ _ := Nat.le_trans Zn (Nat.le_of_eq W467.size.symm)
      have K := K.wr W467 (Or.inl (List.mem_of_getElem? (i := 0) rfl))
      have A_li : OwnA Z h467 li .char (vs.set 6 (.int 32)) := (by have q := A_li; rw [show (32 : Int32).toUInt32.toUInt16.toUInt32.toInt32 = 32 from by decide] at q; exact q)
      refine own_by st467 ?_
      refine own_by (S' := (oM T467 m 55 #[oR li, oI 6, oI f1, oI g1] [.int 116, .int 7, .ref li])) (fun _ k => XS.aloadN X467.here hx rfl (G d3_49) rfl rfl (XS.iloadN X467.here hx rfl (G d3_50) rfl (XS.iconst X467.here hx rfl (G d3_51) (XS.iadd X467.here hx rfl (G d3_52) rfl (XS.bipush X467.here hx rfl (G d3_53) k))))) ?_
      obtain ⟨T468, h468, X468, e468, W468, st468⟩ := own_stC X467 hx hZ e467 A_li (j := (7 : Int32)) (by decide) (by first | (rw [hl]; decide) | (simp only [List.length_set]; rw [hl]; decide)) (g := (mkF m 55 #[oR li, oI 6, oI f1, oI g1] [.int 116, .int 7, .ref li])) rfl rfl (G d3_55)
      have N := Fr.snoc X468 N o_li
      have A_li := A_li.set W468
      have Zn : n0 ≤ _ := Nat.le_trans Zn (Nat.le_of_eq W468.size.symm)
      have K := K.wr W468 (Or.inl (List.mem_of_getElem? (i := 0) rfl))
      have A_li : OwnA Z h468 li .char ((vs.set 6 (.int 32)).set 7 (.int 116)) := (by have q := A_li; rw [show (116 : Int32).toUInt32.toUInt16.toUInt32.toInt32 = 116 from by decide] at q; exact q)
      refine own_by st468 ?_
      refine own_by (S' := (oM T468 m 62 #[oR li, oI 6, oI f1, oI g1] [.int 114, .int 8, .ref li])) (fun _ k => XS.aloadN X468.here hx rfl (G d3_56) rfl rfl (XS.iloadN X468.here hx rfl (G d3_57) rfl (XS.iconst X468.here hx rfl (G d3_58) (XS.iadd X468.here hx rfl (G d3_59) rfl (XS.bipush X468.here hx rfl (G d3_60) k))))) ?_
      obtain ⟨T469, h469, X469, e469, W469, st469⟩ := own_stC X468 hx hZ e468 A_li (j := (8 : Int32)) (by decide) (by first | (rw [hl]; decide) | (simp only [List.length_set]; rw [hl]; decide)) (g := (mkF m 62 #[oR li, oI 6, oI f1, oI g1] [.int 114, .int 8, .ref li])) rfl rfl (G d3_62)
      have N := Fr.snoc X469 N o_li
      have A_li := A_li.set W469
      have Zn : n0 ≤ _ := Nat.le_trans Zn (Nat.le_of_eq W469.size.symm)
      have K := K.wr W469 (Or.inl (List.mem_of_getElem? (i := 0) rfl))
      have A_li : OwnA Z h469 li .char (((vs.set 6 (.int 32)).set 7 (.int 116)).set 8 (.int 114)) := (by have q := A_li; rw [show (114 : Int32).toUInt32.toUInt16.toUInt32.toInt32 = 114 from by decide] at q; exact q)
      refine own_by st469 ?_
      refine own_by (S' := (oM T469 m 69 #[oR li, oI 6, oI f1, oI g1] [.int 117, .int 9, .ref li])) (fun _ k => XS.aloadN X469.here hx rfl (G d3_63) rfl rfl (XS.iloadN X469.here hx rfl (G d3_64) rfl (XS.iconst X469.here hx rfl (G d3_65) (XS.iadd X469.here hx rfl (G d3_66) rfl (XS.bipush X469.here hx rfl (G d3_67) k))))) ?_
      obtain ⟨T470, h470, X470, e470, W470, st470⟩ := own_stC X469 hx hZ e469 A_li (j := (9 : Int32)) (by decide) (by first | (rw [hl]; decide) | (simp only [List.length_set]; rw [hl]; decide)) (g := (mkF m 69 #[oR li, oI 6, oI f1, oI g1] [.int 117, .int 9, .ref li])) rfl rfl (G d3_69)
      have N := Fr.snoc X470 N o_li
      have A_li := A_li.set W470
      have Zn : n0 ≤ _ := Nat.le_trans Zn (Nat.le_of_eq W470.size.symm)
      have K := K.wr W470 (Or.inl (List.mem_of_getElem? (i := 0) rfl))
      have A_li : OwnA Z h470 li .char ((((vs.set 6 (.int 32)).set 7 (.int 116)).set 8 (.int 114)).set 9 (.int 117)) := (by have q := A_li; rw [show (117 : Int32).toUInt32.toUInt16.toUInt32.toInt32 = 117 from by decide] at q; exact q)
      refine own_by st470 ?_
      refine own_by (S' := (oM T470 m 76 #[oR li, oI 6, oI f1, oI g1] [.int 101, .int 10, .ref li])) (fun _ k => XS.aloadN X470.here hx rfl (G d3_70) rfl rfl (XS.iloadN X470.here hx rfl (G d3_71) rfl (XS.iconst X470.here hx rfl (G d3_72) (XS.iadd X470.here hx rfl (G d3_73) rfl (XS.bipush X470.here hx rfl (G d3_74) k))))) ?_
      obtain ⟨T471, h471, X471, e471, W471, st471⟩ := own_stC X470 hx hZ e470 A_li (j := (10 : Int32)) (by decide) (by first | (rw [hl]; decide) | (simp only [List.length_set]; rw [hl]; decide)) (g := (mkF m 76 #[oR li, oI 6, oI f1, oI g1] [.int 101, .int 10, .ref li])) rfl rfl (G d3_76)
      have N := Fr.snoc X471 N o_li
      have A_li := A_li.set W471
      have Zn : n0 ≤ _ := Nat.le_trans Zn (Nat.le_of_eq W471.size.symm)
      have K := K.wr W471 (Or.inl (List.mem_of_getElem? (i := 0) rfl))
      have A_li : OwnA Z h471 li .char (((((vs.set 6 (.int 32)).set 7 (.int 116)).set 8 (.int 114)).set 9 (.int 117)).set 10 (.int 101)) := (by have q := A_li; rw [show (101 : Int32).toUInt32.toUInt16.toUInt32.toInt32 = 101 from by decide] at q; exact q)
      refine own_by st471 ?_
      refine own_by (S' := (oM T471 m 113 #[oR li, oI 6, oI f1, oI g1] [])) (fun _ k => XS.goto X471.here hx rfl (pc0 := 77) (pc' := 113) rfl (G d3_77) (by decide) (by decide) k) ?_
      have e1 : own_pv f1 g1 = [32, 116, 114, 117, 101] := by rw [own_pv, if_neg g0, if_neg g2]
      exact own_ret0 X471 hx Bd.returns (G d3_113) hlk (by decide : 0 ≤ _) (by decide : 0 ≤ _) (by rw [e471]; exact ⟨rfl, N, K, by rw [e1]; exact A_li⟩)
theorem ef_rm_put17 (m : MethodId) (x0 : Addr) (x1 : Int32) (x2 : Int32) (x3 : Int32) : entryFrame m #[.ref x0, .int x1, .int x2, .int x3] 4 = mkF m 0 #[oR x0, oI x1, oI x2, oI x3] [] := by first | (simp [entryFrame, mkF, argsToLocals, Value.category]; done) | rfl
def Q_rm_put17 (Z : State) (li : Addr) (f1 g1 : Int32) (vs : List Value) (h0 : Heap) (n0 : Nat) (v : Option Value) (h : Heap) (L : List Loc) : Prop := v = none ∧ Fr n0 L ∧ Keep h0 h [li] ∧ OwnA Z h li .char (((((vs.set 17 (.int ((own_pv f1 g1).getD 0 0))).set 18 (.int ((own_pv f1 g1).getD 1 0))).set 19 (.int ((own_pv f1 g1).getD 2 0))).set 20 (.int ((own_pv f1 g1).getD 3 0))).set 21 (.int ((own_pv f1 g1).getD 4 0)))
set_option maxRecDepth 65536 in
set_option maxHeartbeats 40000000 in
theorem rm_put17 (l : Launch) (Z : State) (a0 : Array Value) (hw : ∀ d ∈ tables_1, d.before a0 Z = true) (ws : List Jvm.Cond) (li : Addr) (f1 g1 : Int32) (vs : List Value) (h0 : Heap) (n0 : Nat) (Zn : n0 ≤ h0.size) (A_li : OwnA Z h0 li .char vs) (hl : vs.length = 23) (o_li : n0 ≤ li) :
    MetFree l y_3 (head1 (Jvm.Cond.code y_3 c_3 4 none :: ws) (oQ 0 0 0 0)) (fun a U => a = #[.ref li, .int 17, .int f1, .int g1] ∧ Z.Warmed39 U.vm ∧ U.heap = h0) (fun _ _ _ _ _ => True) (fun _ U o U' => ∃ v L, o = .returned v ∧ (Q_rm_put17 Z li f1 g1 vs h0 n0) v U'.heap L ∧ FrameEnd U o U' L (oQ 0 0 0 0).cells (oQ 0 0 0 0).slots) := by
  refine MetFree.of_bodySF (plainFor_of_name pn_3) hisR ?_
  intro p e s m args below meth c s₁ Bd hml0 hP hK
  obtain ⟨rfl, hZ, hh⟩ := hP
  have hx := Bd.exec
  have G := @oG _ _ Bd.bytes
  have hml : c.maxLocals = 4 := hml0
  have hown : s.vm.findClass "com/example/upright_play/uprightplay/event/MembersBoolPinLaw" = some m.cls := findClass_of_methodNamed Bd.named
  have hnm := (name_of_methodNamed Bd.named Bd.method).1
  have hlk : meth.locks = false := BodyLoose.notSynchronized Bd
  have X0 : Stand p l e (oQ 0 0 0 0) s m #[.ref li, .int 17, .int f1, .int g1] below meth c s₁ [] 0 0 := Stand.of_body Bd
  have e0 : s₁.heap = h0 := by rw [← hh, Bd.state]; rfl
  have N := Fr.nil n0
  have K := Keep.refl h0 [li]
  refine own_start (cl := (oQ 0 0 0 0).cells) (sl := (oQ 0 0 0 0).slots) (Q := (Q_rm_put17 Z li f1 g1 vs h0 n0)) (ef_rm_put17 m li ((17 : Int32)) f1 g1) ?_
  refine own_by (S' := (oM s₁ m 1 #[oR li, oI 17, oI f1, oI g1] [.int f1])) (fun _ k => XS.iloadN X0.here hx rfl (G d3_0) rfl k) ?_
  by_cases g0 : f1 = (0 : Int32)
  · refine own_by (S' := (oM s₁ m 8 #[oR li, oI 17, oI f1, oI g1] [.int 102, .int 17, .ref li])) (fun _ k => XS.ifNo X0.here hx rfl (G d3_1) rfl ((if0 _ _).trans (teq (g0 : f1 = (0 : Int32))).2) (XS.aloadN X0.here hx rfl (G d3_4) rfl rfl (XS.iloadN X0.here hx rfl (G d3_5) rfl (XS.bipush X0.here hx rfl (G d3_6) k)))) ?_
    obtain ⟨T472, h472, X472, e472, W472, st472⟩ := own_stC X0 hx hZ e0 A_li (j := (17 : Int32)) (by decide) (by first | (rw [hl]; decide) | (simp only [List.length_set]; rw [hl]; decide)) (g := (mkF m 8 #[oR li, oI 17, oI f1, oI g1] [.int 102, .int 17, .ref li])) rfl rfl (G d3_8)
    have N := Fr.snoc X472 N o_li
    have A_li := A_li.set W472
    have Zn : n0 ≤ _ := Nat.le_trans Zn (Nat.le_of_eq W472.size.symm)
    have K := K.wr W472 (Or.inl (List.mem_of_getElem? (i := 0) rfl))
    have A_li : OwnA Z h472 li .char (vs.set 17 (.int 102)) := (by have q := A_li; rw [show (102 : Int32).toUInt32.toUInt16.toUInt32.toInt32 = 102 from by decide] at q; exact q)
    refine own_by st472 ?_
    refine own_by (S' := (oM T472 m 15 #[oR li, oI 17, oI f1, oI g1] [.int 97, .int 18, .ref li])) (fun _ k => XS.aloadN X472.here hx rfl (G d3_9) rfl rfl (XS.iloadN X472.here hx rfl (G d3_10) rfl (XS.iconst X472.here hx rfl (G d3_11) (XS.iadd X472.here hx rfl (G d3_12) rfl (XS.bipush X472.here hx rfl (G d3_13) k))))) ?_
    obtain ⟨T473, h473, X473, e473, W473, st473⟩ := own_stC X472 hx hZ e472 A_li (j := (18 : Int32)) (by decide) (by first | (rw [hl]; decide) | (simp only [List.length_set]; rw [hl]; decide)) (g := (mkF m 15 #[oR li, oI 17, oI f1, oI g1] [.int 97, .int 18, .ref li])) rfl rfl (G d3_15)
    have N := Fr.snoc X473 N o_li
    have A_li := A_li.set W473
    have Zn : n0 ≤ _ := Nat.le_trans Zn (Nat.le_of_eq W473.size.symm)
    have K := K.wr W473 (Or.inl (List.mem_of_getElem? (i := 0) rfl))
    have A_li : OwnA Z h473 li .char ((vs.set 17 (.int 102)).set 18 (.int 97)) := (by have q := A_li; rw [show (97 : Int32).toUInt32.toUInt16.toUInt32.toInt32 = 97 from by decide] at q; exact q)
    refine own_by st473 ?_
    refine own_by (S' := (oM T473 m 22 #[oR li, oI 17, oI f1, oI g1] [.int 108, .int 19, .ref li])) (fun _ k => XS.aloadN X473.here hx rfl (G d3_16) rfl rfl (XS.iloadN X473.here hx rfl (G d3_17) rfl (XS.iconst X473.here hx rfl (G d3_18) (XS.iadd X473.here hx rfl (G d3_19) rfl (XS.bipush X473.here hx rfl (G d3_20) k))))) ?_
    obtain ⟨T474, h474, X474, e474, W474, st474⟩ := own_stC X473 hx hZ e473 A_li (j := (19 : Int32)) (by decide) (by first | (rw [hl]; decide) | (simp only [List.length_set]; rw [hl]; decide)) (g := (mkF m 22 #[oR li, oI 17, oI f1, oI g1] [.int 108, .int 19, .ref li])) rfl rfl (G d3_22)
    have N := Fr.snoc X474 N o_li
    have A_li := A_li.set W474
    have Zn : n0 ≤ _ := Nat.le_trans Zn (Nat.le_of_eq W474.size.symm)
    have K := K.wr W474 (Or.inl (List.mem_of_getElem? (i := 0) rfl))
    have A_li : OwnA Z h474 li .char (((vs.set 17 (.int 102)).set 18 (.int 97)).set 19 (.int 108)) := (by have q := A_li; rw [show (108 : Int32).toUInt32.toUInt16.toUInt32.toInt32 = 108 from by decide] at q; exact q)
    refine own_by st474 ?_
    refine own_by (S' := (oM T474 m 29 #[oR li, oI 17, oI f1, oI g1] [.int 115, .int 20, .ref li])) (fun _ k => XS.aloadN X474.here hx rfl (G d3_23) rfl rfl (XS.iloadN X474.here hx rfl (G d3_24) rfl (XS.iconst X474.here hx rfl (G d3_25) (XS.iadd X474.here hx rfl (G d3_26) rfl (XS.bipush X474.here hx rfl (G d3_27) k))))) ?_
    obtain ⟨T475, h475, X475, e475, W475, st475⟩ := own_stC X474 hx hZ e474 A_li (j := (20 : Int32)) (by decide) (by first | (rw [hl]; decide) | (simp only [List.length_set]; rw [hl]; decide)) (g := (mkF m 29 #[oR li, oI 17, oI f1, oI g1] [.int 115, .int 20, .ref li])) rfl rfl (G d3_29)
    have N := Fr.snoc X475 N o_li
    have A_li := A_li.set W475
    have Zn : n0 ≤ _ := Nat.le_trans Zn (Nat.le_of_eq W475.size.symm)
    have K := K.wr W475 (Or.inl (List.mem_of_getElem? (i := 0) rfl))
    have A_li : OwnA Z h475 li .char ((((vs.set 17 (.int 102)).set 18 (.int 97)).set 19 (.int 108)).set 20 (.int 115)) := (by have q := A_li; rw [show (115 : Int32).toUInt32.toUInt16.toUInt32.toInt32 = 115 from by decide] at q; exact q)
    refine own_by st475 ?_
    refine own_by (S' := (oM T475 m 36 #[oR li, oI 17, oI f1, oI g1] [.int 101, .int 21, .ref li])) (fun _ k => XS.aloadN X475.here hx rfl (G d3_30) rfl rfl (XS.iloadN X475.here hx rfl (G d3_31) rfl (XS.iconst X475.here hx rfl (G d3_32) (XS.iadd X475.here hx rfl (G d3_33) rfl (XS.bipush X475.here hx rfl (G d3_34) k))))) ?_
    obtain ⟨T476, h476, X476, e476, W476, st476⟩ := own_stC X475 hx hZ e475 A_li (j := (21 : Int32)) (by decide) (by first | (rw [hl]; decide) | (simp only [List.length_set]; rw [hl]; decide)) (g := (mkF m 36 #[oR li, oI 17, oI f1, oI g1] [.int 101, .int 21, .ref li])) rfl rfl (G d3_36)
    have N := Fr.snoc X476 N o_li
    have A_li := A_li.set W476
    have Zn : n0 ≤ _ := Nat.le_trans Zn (Nat.le_of_eq W476.size.symm)
    have K := K.wr W476 (Or.inl (List.mem_of_getElem? (i := 0) rfl))
    have A_li : OwnA Z h476 li .char (((((vs.set 17 (.int 102)).set 18 (.int 97)).set 19 (.int 108)).set 20 (.int 115)).set 21 (.int 101)) := (by have q := A_li; rw [show (101 : Int32).toUInt32.toUInt16.toUInt32.toInt32 = 101 from by decide] at q; exact q)
    refine own_by st476 ?_
    refine own_by (S' := (oM T476 m 113 #[oR li, oI 17, oI f1, oI g1] [])) (fun _ k => XS.goto X476.here hx rfl (pc0 := 37) (pc' := 113) rfl (G d3_37) (by decide) (by decide) k) ?_
    have e1 : own_pv f1 g1 = [102, 97, 108, 115, 101] := by rw [own_pv, if_pos g0]
    exact own_ret0 X476 hx Bd.returns (G d3_113) hlk (by decide : 0 ≤ _) (by decide : 0 ≤ _) (by rw [e476]; exact ⟨rfl, N, K, by rw [e1]; exact A_li⟩)
  · refine own_by (S' := (oM s₁ m 41 #[oR li, oI 17, oI f1, oI g1] [.int g1])) (fun _ k => XS.ifYes X0.here hx rfl (pc0 := 1) (pc' := 40) rfl (G d3_1) rfl ((if0 _ _).trans (feq (g0 : ¬ (f1 = (0 : Int32)))).2) (by decide) (by decide) (XS.iloadN X0.here hx rfl (G d3_40) rfl k)) ?_
    by_cases g2 : g1 = (0 : Int32)
    · refine own_by (S' := (oM s₁ m 84 #[oR li, oI 17, oI f1, oI g1] [.int 116, .int 17, .ref li])) (fun _ k => XS.ifYes X0.here hx rfl (pc0 := 41) (pc' := 80) rfl (G d3_41) rfl ((if0 _ _).trans (teq (g2 : g1 = (0 : Int32))).1) (by decide) (by decide) (XS.aloadN X0.here hx rfl (G d3_80) rfl rfl (XS.iloadN X0.here hx rfl (G d3_81) rfl (XS.bipush X0.here hx rfl (G d3_82) k)))) ?_
      obtain ⟨T477, h477, X477, e477, W477, st477⟩ := own_stC X0 hx hZ e0 A_li (j := (17 : Int32)) (by decide) (by first | (rw [hl]; decide) | (simp only [List.length_set]; rw [hl]; decide)) (g := (mkF m 84 #[oR li, oI 17, oI f1, oI g1] [.int 116, .int 17, .ref li])) rfl rfl (G d3_84)
      have N := Fr.snoc X477 N o_li
      have A_li := A_li.set W477
      have Zn : n0 ≤ _ := Nat.le_trans Zn (Nat.le_of_eq W477.size.symm)
      have K := K.wr W477 (Or.inl (List.mem_of_getElem? (i := 0) rfl))
      have A_li : OwnA Z h477 li .char (vs.set 17 (.int 116)) := (by have q := A_li; rw [show (116 : Int32).toUInt32.toUInt16.toUInt32.toInt32 = 116 from by decide] at q; exact q)
      refine own_by st477 ?_
      refine own_by (S' := (oM T477 m 91 #[oR li, oI 17, oI f1, oI g1] [.int 114, .int 18, .ref li])) (fun _ k => XS.aloadN X477.here hx rfl (G d3_85) rfl rfl (XS.iloadN X477.here hx rfl (G d3_86) rfl (XS.iconst X477.here hx rfl (G d3_87) (XS.iadd X477.here hx rfl (G d3_88) rfl (XS.bipush X477.here hx rfl (G d3_89) k))))) ?_
      obtain ⟨T478, h478, X478, e478, W478, st478⟩ := own_stC X477 hx hZ e477 A_li (j := (18 : Int32)) (by decide) (by first | (rw [hl]; decide) | (simp only [List.length_set]; rw [hl]; decide)) (g := (mkF m 91 #[oR li, oI 17, oI f1, oI g1] [.int 114, .int 18, .ref li])) rfl rfl (G d3_91)
      have N := Fr.snoc X478 N o_li
      have A_li := A_li.set W478
      have Zn : n0 ≤ _ := Nat.le_trans Zn (Nat.le_of_eq W478.size.symm)
      have K := K.wr W478 (Or.inl (List.mem_of_getElem? (i := 0) rfl))
      have A_li : OwnA Z h478 li .char ((vs.set 17 (.int 116)).set 18 (.int 114)) := (by have q := A_li; rw [show (114 : Int32).toUInt32.toUInt16.toUInt32.toInt32 = 114 from by decide] at q; exact q)
      refine own_by st478 ?_
      refine own_by (S' := (oM T478 m 98 #[oR li, oI 17, oI f1, oI g1] [.int 117, .int 19, .ref li])) (fun _ k => XS.aloadN X478.here hx rfl (G d3_92) rfl rfl (XS.iloadN X478.here hx rfl (G d3_93) rfl (XS.iconst X478.here hx rfl (G d3_94) (XS.iadd X478.here hx rfl (G d3_95) rfl (XS.bipush X478.here hx rfl (G d3_96) k))))) ?_
      obtain ⟨T479, h479, X479, e479, W479, st479⟩ := own_stC X478 hx hZ e478 A_li (j := (19 : Int32)) (by decide) (by first | (rw [hl]; decide) | (simp only [List.length_set]; rw [hl]; decide)) (g := (mkF m 98 #[oR li, oI 17, oI f1, oI g1] [.int 117, .int 19, .ref li])) rfl rfl (G d3_98)
      have N := Fr.snoc X479 N o_li
      have A_li := A_li.set W479
      have Zn : n0 ≤ _ := Nat.le_trans Zn (Nat.le_of_eq W479.size.symm)
      have K := K.wr W479 (Or.inl (List.mem_of_getElem? (i := 0) rfl))
      have A_li : OwnA Z h479 li .char (((vs.set 17 (.int 116)).set 18 (.int 114)).set 19 (.int 117)) := (by have q := A_li; rw [show (117 : Int32).toUInt32.toUInt16.toUInt32.toInt32 = 117 from by decide] at q; exact q)
      refine own_by st479 ?_
      refine own_by (S' := (oM T479 m 105 #[oR li, oI 17, oI f1, oI g1] [.int 101, .int 20, .ref li])) (fun _ k => XS.aloadN X479.here hx rfl (G d3_99) rfl rfl (XS.iloadN X479.here hx rfl (G d3_100) rfl (XS.iconst X479.here hx rfl (G d3_101) (XS.iadd X479.here hx rfl (G d3_102) rfl (XS.bipush X479.here hx rfl (G d3_103) k))))) ?_
      obtain ⟨T480, h480, X480, e480, W480, st480⟩ := own_stC X479 hx hZ e479 A_li (j := (20 : Int32)) (by decide) (by first | (rw [hl]; decide) | (simp only [List.length_set]; rw [hl]; decide)) (g := (mkF m 105 #[oR li, oI 17, oI f1, oI g1] [.int 101, .int 20, .ref li])) rfl rfl (G d3_105)
      have N := Fr.snoc X480 N o_li
      have A_li := A_li.set W480
      have Zn : n0 ≤ _ := Nat.le_trans Zn (Nat.le_of_eq W480.size.symm)
      have K := K.wr W480 (Or.inl (List.mem_of_getElem? (i := 0) rfl))
      have A_li : OwnA Z h480 li .char ((((vs.set 17 (.int 116)).set 18 (.int 114)).set 19 (.int 117)).set 20 (.int 101)) := (by have q := A_li; rw [show (101 : Int32).toUInt32.toUInt16.toUInt32.toInt32 = 101 from by decide] at q; exact q)
      refine own_by st480 ?_
      refine own_by (S' := (oM T480 m 112 #[oR li, oI 17, oI f1, oI g1] [.int 32, .int 21, .ref li])) (fun _ k => XS.aloadN X480.here hx rfl (G d3_106) rfl rfl (XS.iloadN X480.here hx rfl (G d3_107) rfl (XS.iconst X480.here hx rfl (G d3_108) (XS.iadd X480.here hx rfl (G d3_109) rfl (XS.bipush X480.here hx rfl (G d3_110) k))))) ?_
      obtain ⟨T481, h481, X481, e481, W481, st481⟩ := own_stC X480 hx hZ e480 A_li (j := (21 : Int32)) (by decide) (by first | (rw [hl]; decide) | (simp only [List.length_set]; rw [hl]; decide)) (g := (mkF m 112 #[oR li, oI 17, oI f1, oI g1] [.int 32, .int 21, .ref li])) rfl rfl (G d3_112)
      have N := Fr.snoc X481 N o_li
      have A_li := A_li.set W481
      have Zn : n0 ≤ _ := Nat.le_trans Zn (Nat.le_of_eq W481.size.symm)
      have K := K.wr W481 (Or.inl (List.mem_of_getElem? (i := 0) rfl))
      have A_li : OwnA Z h481 li .char (((((vs.set 17 (.int 116)).set 18 (.int 114)).set 19 (.int 117)).set 20 (.int 101)).set 21 (.int 32)) := (by have q := A_li; rw [show (32 : Int32).toUInt32.toUInt16.toUInt32.toInt32 = 32 from by decide] at q; exact q)
      refine own_by st481 ?_
      have e1 : own_pv f1 g1 = [116, 114, 117, 101, 32] := by rw [own_pv, if_neg g0, if_pos g2]
      exact own_ret0 X481 hx Bd.returns (G d3_113) hlk (by decide : 0 ≤ _) (by decide : 0 ≤ _) (by rw [e481]; exact ⟨rfl, N, K, by rw [e1]; exact A_li⟩)
    · refine own_by (S' := (oM s₁ m 48 #[oR li, oI 17, oI f1, oI g1] [.int 32, .int 17, .ref li])) (fun _ k => XS.ifNo X0.here hx rfl (G d3_41) rfl ((if0 _ _).trans (feq (g2 : ¬ (g1 = (0 : Int32)))).1) (XS.aloadN X0.here hx rfl (G d3_44) rfl rfl (XS.iloadN X0.here hx rfl (G d3_45) rfl (XS.bipush X0.here hx rfl (G d3_46) k)))) ?_
      obtain ⟨T482, h482, X482, e482, W482, st482⟩ := own_stC X0 hx hZ e0 A_li (j := (17 : Int32)) (by decide) (by first | (rw [hl]; decide) | (simp only [List.length_set]; rw [hl]; decide)) (g := (mkF m 48 #[oR li, oI 17, oI f1, oI g1] [.int 32, .int 17, .ref li])) rfl rfl (G d3_48)
      have N := Fr.snoc X482 N o_li
      have A_li := A_li.set W482
      have Zn : n0 ≤ _ := Nat.le_trans Zn (Nat.le_of_eq W482.size.symm)
      have K := K.wr W482 (Or.inl (List.mem_of_getElem? (i := 0) rfl))
      have A_li : OwnA Z h482 li .char (vs.set 17 (.int 32)) := (by have q := A_li; rw [show (32 : Int32).toUInt32.toUInt16.toUInt32.toInt32 = 32 from by decide] at q; exact q)
      refine own_by st482 ?_
      refine own_by (S' := (oM T482 m 55 #[oR li, oI 17, oI f1, oI g1] [.int 116, .int 18, .ref li])) (fun _ k => XS.aloadN X482.here hx rfl (G d3_49) rfl rfl (XS.iloadN X482.here hx rfl (G d3_50) rfl (XS.iconst X482.here hx rfl (G d3_51) (XS.iadd X482.here hx rfl (G d3_52) rfl (XS.bipush X482.here hx rfl (G d3_53) k))))) ?_
      obtain ⟨T483, h483, X483, e483, W483, st483⟩ := own_stC X482 hx hZ e482 A_li (j := (18 : Int32)) (by decide) (by first | (rw [hl]; decide) | (simp only [List.length_set]; rw [hl]; decide)) (g := (mkF m 55 #[oR li, oI 17, oI f1, oI g1] [.int 116, .int 18, .ref li])) rfl rfl (G d3_55)
      have N := Fr.snoc X483 N o_li
      have A_li := A_li.set W483
      have Zn : n0 ≤ _ := Nat.le_trans Zn (Nat.le_of_eq W483.size.symm)
      have K := K.wr W483 (Or.inl (List.mem_of_getElem? (i := 0) rfl))
      have A_li : OwnA Z h483 li .char ((vs.set 17 (.int 32)).set 18 (.int 116)) := (by have q := A_li; rw [show (116 : Int32).toUInt32.toUInt16.toUInt32.toInt32 = 116 from by decide] at q; exact q)
      refine own_by st483 ?_
      refine own_by (S' := (oM T483 m 62 #[oR li, oI 17, oI f1, oI g1] [.int 114, .int 19, .ref li])) (fun _ k => XS.aloadN X483.here hx rfl (G d3_56) rfl rfl (XS.iloadN X483.here hx rfl (G d3_57) rfl (XS.iconst X483.here hx rfl (G d3_58) (XS.iadd X483.here hx rfl (G d3_59) rfl (XS.bipush X483.here hx rfl (G d3_60) k))))) ?_
      obtain ⟨T484, h484, X484, e484, W484, st484⟩ := own_stC X483 hx hZ e483 A_li (j := (19 : Int32)) (by decide) (by first | (rw [hl]; decide) | (simp only [List.length_set]; rw [hl]; decide)) (g := (mkF m 62 #[oR li, oI 17, oI f1, oI g1] [.int 114, .int 19, .ref li])) rfl rfl (G d3_62)
      have N := Fr.snoc X484 N o_li
      have A_li := A_li.set W484
      have Zn : n0 ≤ _ := Nat.le_trans Zn (Nat.le_of_eq W484.size.symm)
      have K := K.wr W484 (Or.inl (List.mem_of_getElem? (i := 0) rfl))
      have A_li : OwnA Z h484 li .char (((vs.set 17 (.int 32)).set 18 (.int 116)).set 19 (.int 114)) := (by have q := A_li; rw [show (114 : Int32).toUInt32.toUInt16.toUInt32.toInt32 = 114 from by decide] at q; exact q)
      refine own_by st484 ?_
      refine own_by (S' := (oM T484 m 69 #[oR li, oI 17, oI f1, oI g1] [.int 117, .int 20, .ref li])) (fun _ k => XS.aloadN X484.here hx rfl (G d3_63) rfl rfl (XS.iloadN X484.here hx rfl (G d3_64) rfl (XS.iconst X484.here hx rfl (G d3_65) (XS.iadd X484.here hx rfl (G d3_66) rfl (XS.bipush X484.here hx rfl (G d3_67) k))))) ?_
      obtain ⟨T485, h485, X485, e485, W485, st485⟩ := own_stC X484 hx hZ e484 A_li (j := (20 : Int32)) (by decide) (by first | (rw [hl]; decide) | (simp only [List.length_set]; rw [hl]; decide)) (g := (mkF m 69 #[oR li, oI 17, oI f1, oI g1] [.int 117, .int 20, .ref li])) rfl rfl (G d3_69)
      have N := Fr.snoc X485 N o_li
      have A_li := A_li.set W485
      have Zn : n0 ≤ _ := Nat.le_trans Zn (Nat.le_of_eq W485.size.symm)
      have K := K.wr W485 (Or.inl (List.mem_of_getElem? (i := 0) rfl))
      have A_li : OwnA Z h485 li .char ((((vs.set 17 (.int 32)).set 18 (.int 116)).set 19 (.int 114)).set 20 (.int 117)) := (by have q := A_li; rw [show (117 : Int32).toUInt32.toUInt16.toUInt32.toInt32 = 117 from by decide] at q; exact q)
      refine own_by st485 ?_
      refine own_by (S' := (oM T485 m 76 #[oR li, oI 17, oI f1, oI g1] [.int 101, .int 21, .ref li])) (fun _ k => XS.aloadN X485.here hx rfl (G d3_70) rfl rfl (XS.iloadN X485.here hx rfl (G d3_71) rfl (XS.iconst X485.here hx rfl (G d3_72) (XS.iadd X485.here hx rfl (G d3_73) rfl (XS.bipush X485.here hx rfl (G d3_74) k))))) ?_
      obtain ⟨T486, h486, X486, e486, W486, st486⟩ := own_stC X485 hx hZ e485 A_li (j := (21 : Int32)) (by decide) (by first | (rw [hl]; decide) | (simp only [List.length_set]; rw [hl]; decide)) (g := (mkF m 76 #[oR li, oI 17, oI f1, oI g1] [.int 101, .int 21, .ref li])) rfl rfl (G d3_76)
      have N := Fr.snoc X486 N o_li
      have A_li := A_li.set W486
      have Zn : n0 ≤ _ := Nat.le_trans Zn (Nat.le_of_eq W486.size.symm)
      have K := K.wr W486 (Or.inl (List.mem_of_getElem? (i := 0) rfl))
      have A_li : OwnA Z h486 li .char (((((vs.set 17 (.int 32)).set 18 (.int 116)).set 19 (.int 114)).set 20 (.int 117)).set 21 (.int 101)) := (by have q := A_li; rw [show (101 : Int32).toUInt32.toUInt16.toUInt32.toInt32 = 101 from by decide] at q; exact q)
      refine own_by st486 ?_
      refine own_by (S' := (oM T486 m 113 #[oR li, oI 17, oI f1, oI g1] [])) (fun _ k => XS.goto X486.here hx rfl (pc0 := 77) (pc' := 113) rfl (G d3_77) (by decide) (by decide) k) ?_
      have e1 : own_pv f1 g1 = [32, 116, 114, 117, 101] := by rw [own_pv, if_neg g0, if_neg g2]
      exact own_ret0 X486 hx Bd.returns (G d3_113) hlk (by decide : 0 ≤ _) (by decide : 0 ≤ _) (by rw [e486]; exact ⟨rfl, N, K, by rw [e1]; exact A_li⟩)
theorem own_half {LN : List Value} {b : Nat} {bl f g d : Int32} (hb : b ≤ 12) (hbl : own_w bl = 1) (hf : f = 0 ∨ f = 1) (h4 : LN[b + 4]? = some (.int bl)) (h5 : LN[b + 5]? = some (.int ((own_pv f g).getD 0 0))) (h6 : LN[b + 6]? = some (.int ((own_pv f g).getD 1 0))) (h7 : LN[b + 7]? = some (.int ((own_pv f g).getD 2 0))) (h8 : LN[b + 8]? = some (.int ((own_pv f g).getD 3 0))) (h9 : LN[b + 9]? = some (.int ((own_pv f g).getD 4 0))) (h10 : LN[b + 10]? = some (.int d)) (hd : d = 44 ∨ d = 125) :
    ∃ p q t, own_ws LN (b + 4) p ∧ own_wd LN p q t ∧ own_ws LN q (b + 10) ∧ p < 23 ∧ ∃ z : Int32, LN[p]? = some (.int z) ∧ own_t z = f := by
  have hd0 : own_w d = 0 := by rcases hd with rfl | rfl <;> decide
  have hdd : d = 32 ∨ d = 44 ∨ d = 125 := Or.inr hd
  by_cases g0 : f = 0
  · have e1 : own_pv f g = [102, 97, 108, 115, 101] := by rw [own_pv, if_pos g0]
    rw [e1] at h5 h6 h7 h8 h9
    refine ⟨b + 5, b + 10, "false", ⟨by omega, by omega, fun i h1 h2 => ?_, fun _ => ⟨_, h5, by decide⟩⟩, ⟨by omega, by omega, ⟨d, h10, hdd⟩, Or.inr ⟨rfl, rfl, h5, h6, h7, h8, h9⟩⟩, ⟨by omega, by omega, fun i h1 h2 => by omega, fun _ => ⟨d, h10, hd0⟩⟩, by omega, _, h5, by rw [g0]; decide⟩
    obtain rfl : i = b + 4 := by omega
    exact ⟨_, h4, hbl⟩
  · have f1 : f = 1 := hf.resolve_left g0
    by_cases g2 : g = 0
    · have e1 : own_pv f g = [116, 114, 117, 101, 32] := by rw [own_pv, if_neg g0, if_pos g2]
      rw [e1] at h5 h6 h7 h8 h9
      refine ⟨b + 5, b + 9, "true", ⟨by omega, by omega, fun i h1 h2 => ?_, fun _ => ⟨_, h5, by decide⟩⟩, ⟨by omega, by omega, ⟨32, h9, Or.inl rfl⟩, Or.inl ⟨rfl, rfl, h5, h6, h7, h8⟩⟩, ⟨by omega, by omega, fun i h1 h2 => ?_, fun _ => ⟨d, h10, hd0⟩⟩, by omega, _, h5, by rw [f1]; decide⟩
      · obtain rfl : i = b + 4 := by omega
        exact ⟨_, h4, hbl⟩
      · obtain rfl : i = b + 9 := by omega
        exact ⟨_, h9, by decide⟩
    · have e1 : own_pv f g = [32, 116, 114, 117, 101] := by rw [own_pv, if_neg g0, if_neg g2]
      rw [e1] at h5 h6 h7 h8 h9
      refine ⟨b + 6, b + 10, "true", ⟨by omega, by omega, fun i h1 h2 => ?_, fun _ => ⟨_, h6, by decide⟩⟩, ⟨by omega, by omega, ⟨d, h10, hdd⟩, Or.inl ⟨rfl, rfl, h6, h7, h8, h9⟩⟩, ⟨by omega, by omega, fun i h1 h2 => by omega, fun _ => ⟨d, h10, hd0⟩⟩, by omega, _, h6, by rw [f1]; decide⟩
      have hi : i = b + 4 ∨ i = b + 5 := by omega
      rcases hi with rfl | rfl
      · exact ⟨_, h4, hbl⟩
      · exact ⟨_, h5, by decide⟩
theorem own_sub {mb li sa : Addr} {D : Nat → Addr} (q : ∀ y ∈ (mb :: li :: [D 0, D 1, D 2, D 3, D 4, D 5, D 6, D 7, D 8, D 9] : List Addr), y ≠ sa) : ∀ y ∈ (mb :: [D 0, D 1, D 2, D 3, D 4, D 5, D 6, D 7, D 8, D 9] : List Addr), y ∉ [sa] := fun y hy => ninS (q y ((List.mem_cons.mp hy).elim (fun e => e ▸ List.mem_cons_self ..) fun r => List.mem_cons_of_mem _ (List.mem_cons_of_mem _ r))) nin0
theorem own_nes {Z : State} {h : Heap} {a0 : Array Value} {mb li sa sb : Addr} {D : Nat → Addr} {V : Nat → List Value} {lv : Value} {len cnt : Int32} {lnr : Int64} {LN bs : List Value} (w : (Cond.instantiable "java/lang/String" 4).before a0 Z = true) (M : OwnM Z h mb D V lv len lnr cnt) (A : OwnA Z h li .char LN) (S : own_str Z h sa sb bs) : ∀ y ∈ (mb :: li :: [D 0, D 1, D 2, D 3, D 4, D 5, D 6, D 7, D 8, D 9] : List Addr), y ≠ sa := by
  obtain ⟨E, F0, F1, F2, F3, F4, F5, F6, F7, F8, F9, F10, F11, F12, F13, F14, F15, F16, A0, A1, A2, A3, A4, A5, A6, A7, A8, A9⟩ := M
  exact allS (Ne.symm (Exa.ne S.1 E (by decide))) (allS (own_strne0 w S.1 A) (allS (own_strne0 w S.1 A0) (allS (own_strne0 w S.1 A1) (allS (own_strne0 w S.1 A2) (allS (own_strne0 w S.1 A3.toA) (allS (own_strne0 w S.1 A4.toA) (allS (own_strne0 w S.1 A5) (allS (own_strne0 w S.1 A6) (allS (own_strne0 w S.1 A7) (allS (own_strne0 w S.1 A8) (allS (own_strne0 w S.1 A9) all0)))))))))))
section OwnLaw
variable {p : Program} {l : Launch} {e : Env} {R : Room} {s : State} {m : MethodId} {args : Array Value} {below : List Frame} {meth : Method} {c : Code} {T : State} {locs : List Loc} {cells slots : Nat} {h : Heap} {vm0 : Vm}
def own_finL (p : Program) (e : Env) (below : List Frame) (s : State) (cl sl : Nat) (Q : Option Value → Heap → List Loc → Prop) (S : State) : Prop :=
  ∃ s₂ o, Steps p.tables e below S s₂ ∧ s₂.status = .running ∧ Ended s₂ below o ∧ ∃ v L, o = .returned v ∧ Q v s₂.heap L ∧ ReturnedEndW s o s₂ L cl sl
theorem own_byL {cl sl : Nat} {Q : Option Value → Heap → List Loc → Prop} {S S' : State} (st : ∀ target, Steps p.tables e below S' target → Steps p.tables e below S target) (k : own_finL p e below s cl sl Q S') : own_finL p e below s cl sl Q S := by
  obtain ⟨s2, o, h1, h2⟩ := k
  exact ⟨s2, o, st _ h1, h2⟩
theorem own_trL {cl sl : Nat} {Q : Option Value → Heap → List Loc → Prop} {S S' : State} (st : Steps p.tables e below S S') (k : own_finL p e below s cl sl Q S') : own_finL p e below s cl sl Q S := by
  obtain ⟨s2, o, h1, h2⟩ := k
  exact ⟨s2, o, st.trans h1, h2⟩
theorem own_startL {cl sl : Nat} {Q : Option Value → Heap → List Loc → Prop} {s₁ : State} {mx : Nat} {g : JFrame} (q : entryFrame m args mx = g) (k : own_finL p e below s cl sl Q (s₁.setTop g)) :
    ∃ s₂ o, Steps p.tables e below (s₁.setTop (entryFrame m args mx)) s₂ ∧ s₂.status = .running ∧ Ended s₂ below o ∧ ∃ v L, o = .returned v ∧ Q v s₂.heap L ∧ ReturnedEndW s o s₂ L cl sl := by
  rw [q]; exact k
theorem own_retL (X : Stand p l e R (s.setVm vm0) m args below meth c T locs cells slots) (hx : p.tables.exec = Jvm.exec) {k0 : Nat} (hS : s.Since vm0 k0) (eT : T.heap = h) (hk : k0 ≤ h.size) {cl sl : Nat} {Q : Option Value → Heap → List Loc → Prop} {pc : Nat} {Ls : Array Slot} {w : Value} {t : FieldType} {i : Instr} {rest : List Value} (hret : meth.sig.returnType = some t) (hn : narrow t w = w)
    (hi : (i = .ireturn ∧ (t = .int ∨ t = .boolean ∨ t = .byte ∨ t = .char ∨ t = .short) ∧ ∃ z, w = .int z) ∨ (i = .lreturn ∧ t = .long ∧ ∃ z, w = .long z) ∨ (i = .dreturn ∧ t = .double ∧ ∃ z, w = .double z) ∨ (i = .freturn ∧ t = .float ∧ ∃ z, w = .float z) ∨ (i = .areturn ∧ t.isReference = true ∧ w.isRef = true))
    (hd : decode c.code pc = .ok (i, 1)) (hlk : meth.locks = false) (hc : cells ≤ cl) (hs : slots ≤ sl) (q : Q (some w) h locs) : own_finL p e below s cl sl Q (T.setTop (mkF m pc Ls (w :: rest))) := by
  subst eT
  obtain ⟨fs, hr, hrun, hended, h1, h2, h3, h4⟩ := X.leaveW hS hk (v := some w) (fun h => by rw [hret] at h; cases h) hlk
  exact ⟨_, _, retOut X hx hret hn hi hd hr, hrun, hended, _, _, rfl, q, h1, h2, h3, h4.mono hc hs⟩
end OwnLaw
theorem pn_0 : plainName "com/example/upright_play/uprightplay/event/MembersBoolPinLaw" = true := by first | (simp [plainName, overriddenIn]; done) | decide +kernel
theorem ef_rm0 (m : MethodId) (x0 : Int32) (x1 : Int32) (x2 : Int32) (x3 : Int32) : entryFrame m #[.int x0, .int x1, .int x2, .int x3] maxLocals = mkF m 0 #[oI x0, oI x1, oI x2, oI x3, oU, oU, oU, oU, oU, oU, oU, oU, oU, oU] [] := by first | (simp [entryFrame, mkF, argsToLocals, Value.category, maxLocals]; done) | rfl
def Q_rm0 (Z : State) (n1 n2 fg bk : Int32) (cs : Int32) (fo : Value) (bo : Addr) (h0 : Heap) (n0 : Nat) (v : Option Value) (h : Heap) (L : List Loc) : Prop := v = some (.int 1) ∧ Fr n0 L
theorem pd__28_5bCIZZ_29V : parseMethodDescriptor "([CIZZ)V" = some ⟨[(.array .char), .int, .boolean, .boolean], none⟩ := by decide +kernel
theorem pd__28_5bCIJ_29V : parseMethodDescriptor "([CIJ)V" = some ⟨[(.array .char), .int, .long], none⟩ := by decide +kernel
theorem pd__28C_29Ljava_2flang_2fString_3b : parseMethodDescriptor "(C)Ljava/lang/String;" = some ⟨[.char], some (.object "java/lang/String")⟩ := by decide +kernel
theorem pd__28Ljava_2flang_2fString_3b_29I : parseMethodDescriptor "(Ljava/lang/String;)I" = some ⟨[(.object "java/lang/String")], some .int⟩ := by decide +kernel
theorem pd__28I_29Z : parseMethodDescriptor "(I)Z" = some ⟨[.int], some .boolean⟩ := by decide +kernel
set_option maxRecDepth 65536 in
set_option maxHeartbeats 40000000 in
theorem rm0 (l : Launch) (Z : State) (a0 : Array Value) (hw : ∀ d ∈ tables_1, d.before a0 Z = true) (ws : List Jvm.Cond) (n1 n2 fg bk : Int32) (cs : Int32) (fo : Value) (bo : Addr) (h0 : Heap) (n0 : Nat) (Zn : n0 ≤ h0.size) (O : Old Z n0 h0) (SS : own_st Z cs fo bo) (HC : ∀ t, Jvm.Lit.constHeld Z "com/example/upright_play/uprightplay/event/Members" (own_ix t)) (HW : Jvm.Lit.compactW.before a0 Z = true) :
    MetFree l x (head1 (Jvm.Cond.code x code maxLocals ret :: ws) room_1) (fun a U => a = #[.int n1, .int n2, .int fg, .int bk] ∧ Z.Warmed39 U.vm ∧ U.heap = h0 ∧ own_tab Z U.vm h0 []) (fun _ _ _ _ _ => True) (fun _ U o U' => ∃ v L, o = .returned v ∧ (Q_rm0 Z n1 n2 fg bk cs fo bo h0 n0) v U'.heap L ∧ ReturnedEndW U o U' L room_1.cells room_1.slots) := by
  refine MetFree.of_bodySF (plainFor_of_name pn_0) hisR ?_
  intro p e s m args below meth c s₁ Bd hml0 hP hK
  obtain ⟨rfl, hZ, hh, TB⟩ := hP
  have hx := Bd.exec
  have G := @oG _ _ Bd.bytes
  have hml : c.maxLocals = 14 := hml0
  have hown : s.vm.findClass "com/example/upright_play/uprightplay/event/MembersBoolPinLaw" = some m.cls := findClass_of_methodNamed Bd.named
  have hnm := (name_of_methodNamed Bd.named Bd.method).1
  have hlk : meth.locks = false := BodyLoose.notSynchronized Bd
  have X0 : Stand p l e room_1 (s.setVm s.vm) m #[.int n1, .int n2, .int fg, .int bk] below meth c s₁ [] 0 0 := Stand.of_body Bd
  have e0 : s₁.heap = h0 := by rw [← hh, Bd.state]; rfl
  have N := Fr.nil n0
  have K := Keep.refl h0 []
  have hS := own_since0 s
  have hk : 0 ≤ h0.size := Nat.zero_le _
  refine own_startL (cl := room_1.cells) (sl := room_1.slots) (Q := (Q_rm0 Z n1 n2 fg bk cs fo bo h0 n0)) (ef_rm0 m n1 n2 fg bk) ?_
  obtain ⟨SC, hcs, SF, hfo, SB, EB⟩ := SS
  refine own_byL (S' := (oM s₁ m 3 #[oI n1, oI n2, oI fg, oI bk, oU, oU, oU, oU, oU, oU, oU, oU, oU, oU] [(.int (fg &&& (1 : Int32)))])) (fun _ k => XS.iloadN X0.here hx rfl (G at_0) rfl (XS.iconst X0.here hx rfl (G at_1) (XS.iand X0.here hx rfl (G at_2) rfl k))) ?_
  suffices J487 : ∀ (f1 : Int32), f1 = 0 ∨ f1 = 1 → own_finL p e below s room_1.cells room_1.slots (Q_rm0 Z n1 n2 fg bk cs fo bo h0 n0) (oM s₁ m 11 #[oI n1, oI n2, oI fg, oI bk, oU, oU, oU, oU, oU, oU, oU, oU, oU, oU] [.int f1]) by
    by_cases hc488 : (fg &&& (1 : Int32)) = (0 : Int32)
    · refine own_byL (S' := (oM s₁ m 11 #[oI n1, oI n2, oI fg, oI bk, oU, oU, oU, oU, oU, oU, oU, oU, oU, oU] [.int 0])) (fun _ k => XS.ifYes X0.here hx rfl (pc0 := 3) (pc' := 10) rfl (G at_3) rfl ((if0 _ _).trans (teq (hc488 : (fg &&& (1 : Int32)) = (0 : Int32))).1) (by decide) (by decide) (XS.iconst X0.here hx rfl (G at_10) k)) ?_
      exact J487 _ (by decide)
    · refine own_byL (S' := (oM s₁ m 11 #[oI n1, oI n2, oI fg, oI bk, oU, oU, oU, oU, oU, oU, oU, oU, oU, oU] [.int 1])) (fun _ k => XS.ifNo X0.here hx rfl (G at_3) rfl ((if0 _ _).trans (feq (hc488 : ¬ ((fg &&& (1 : Int32)) = (0 : Int32)))).1) (XS.iconst X0.here hx rfl (G at_6) (XS.goto X0.here hx rfl (pc0 := 7) (pc' := 11) rfl (G at_7) (by decide) (by decide) k))) ?_
      exact J487 _ (by decide)
  intro f1 hf1
  refine own_byL (S' := (oM s₁ m 16 #[oI n1, oI n2, oI fg, oI bk, oI f1, oU, oU, oU, oU, oU, oU, oU, oU, oU] [(.int (fg &&& (2 : Int32)))])) (fun _ k => XS.istore X0.here hx rfl (G at_11) rfl (l' := #[oI n1, oI n2, oI fg, oI bk, oI f1, oU, oU, oU, oU, oU, oU, oU, oU, oU]) rfl (XS.iloadN X0.here hx rfl (G at_13) rfl (XS.iconst X0.here hx rfl (G at_14) (XS.iand X0.here hx rfl (G at_15) rfl k)))) ?_
  suffices J489 : ∀ (f2 : Int32), f2 = 0 ∨ f2 = 1 → own_finL p e below s room_1.cells room_1.slots (Q_rm0 Z n1 n2 fg bk cs fo bo h0 n0) (oM s₁ m 24 #[oI n1, oI n2, oI fg, oI bk, oI f1, oU, oU, oU, oU, oU, oU, oU, oU, oU] [.int f2]) by
    by_cases hc490 : (fg &&& (2 : Int32)) = (0 : Int32)
    · refine own_byL (S' := (oM s₁ m 24 #[oI n1, oI n2, oI fg, oI bk, oI f1, oU, oU, oU, oU, oU, oU, oU, oU, oU] [.int 0])) (fun _ k => XS.ifYes X0.here hx rfl (pc0 := 16) (pc' := 23) rfl (G at_16) rfl ((if0 _ _).trans (teq (hc490 : (fg &&& (2 : Int32)) = (0 : Int32))).1) (by decide) (by decide) (XS.iconst X0.here hx rfl (G at_23) k)) ?_
      exact J489 _ (by decide)
    · refine own_byL (S' := (oM s₁ m 24 #[oI n1, oI n2, oI fg, oI bk, oI f1, oU, oU, oU, oU, oU, oU, oU, oU, oU] [.int 1])) (fun _ k => XS.ifNo X0.here hx rfl (G at_16) rfl ((if0 _ _).trans (feq (hc490 : ¬ ((fg &&& (2 : Int32)) = (0 : Int32)))).1) (XS.iconst X0.here hx rfl (G at_19) (XS.goto X0.here hx rfl (pc0 := 20) (pc' := 24) rfl (G at_20) (by decide) (by decide) k))) ?_
      exact J489 _ (by decide)
  intro f2 hf2
  refine own_byL (S' := (oM s₁ m 29 #[oI n1, oI n2, oI fg, oI bk, oI f1, oI f2, oU, oU, oU, oU, oU, oU, oU, oU] [(.int (fg &&& (4 : Int32)))])) (fun _ k => XS.istore X0.here hx rfl (G at_24) rfl (l' := #[oI n1, oI n2, oI fg, oI bk, oI f1, oI f2, oU, oU, oU, oU, oU, oU, oU, oU]) rfl (XS.iloadN X0.here hx rfl (G at_26) rfl (XS.iconst X0.here hx rfl (G at_27) (XS.iand X0.here hx rfl (G at_28) rfl k)))) ?_
  suffices J491 : ∀ (g1 : Int32), g1 = 0 ∨ g1 = 1 → own_finL p e below s room_1.cells room_1.slots (Q_rm0 Z n1 n2 fg bk cs fo bo h0 n0) (oM s₁ m 37 #[oI n1, oI n2, oI fg, oI bk, oI f1, oI f2, oU, oU, oU, oU, oU, oU, oU, oU] [.int g1]) by
    by_cases hc492 : (fg &&& (4 : Int32)) = (0 : Int32)
    · refine own_byL (S' := (oM s₁ m 37 #[oI n1, oI n2, oI fg, oI bk, oI f1, oI f2, oU, oU, oU, oU, oU, oU, oU, oU] [.int 0])) (fun _ k => XS.ifYes X0.here hx rfl (pc0 := 29) (pc' := 36) rfl (G at_29) rfl ((if0 _ _).trans (teq (hc492 : (fg &&& (4 : Int32)) = (0 : Int32))).1) (by decide) (by decide) (XS.iconst X0.here hx rfl (G at_36) k)) ?_
      exact J491 _ (by decide)
    · refine own_byL (S' := (oM s₁ m 37 #[oI n1, oI n2, oI fg, oI bk, oI f1, oI f2, oU, oU, oU, oU, oU, oU, oU, oU] [.int 1])) (fun _ k => XS.ifNo X0.here hx rfl (G at_29) rfl ((if0 _ _).trans (feq (hc492 : ¬ ((fg &&& (4 : Int32)) = (0 : Int32)))).1) (XS.iconst X0.here hx rfl (G at_32) (XS.goto X0.here hx rfl (pc0 := 33) (pc' := 37) rfl (G at_33) (by decide) (by decide) k))) ?_
      exact J491 _ (by decide)
  intro g1 hg1
  refine own_byL (S' := (oM s₁ m 43 #[oI n1, oI n2, oI fg, oI bk, oI f1, oI f2, oI g1, oU, oU, oU, oU, oU, oU, oU] [(.int (fg &&& (8 : Int32)))])) (fun _ k => XS.istore X0.here hx rfl (G at_37) rfl (l' := #[oI n1, oI n2, oI fg, oI bk, oI f1, oI f2, oI g1, oU, oU, oU, oU, oU, oU, oU]) rfl (XS.iloadN X0.here hx rfl (G at_39) rfl (XS.bipush X0.here hx rfl (G at_40) (XS.iand X0.here hx rfl (G at_42) rfl k)))) ?_
  suffices J493 : ∀ (g2 : Int32), g2 = 0 ∨ g2 = 1 → own_finL p e below s room_1.cells room_1.slots (Q_rm0 Z n1 n2 fg bk cs fo bo h0 n0) (oM s₁ m 51 #[oI n1, oI n2, oI fg, oI bk, oI f1, oI f2, oI g1, oU, oU, oU, oU, oU, oU, oU] [.int g2]) by
    by_cases hc494 : (fg &&& (8 : Int32)) = (0 : Int32)
    · refine own_byL (S' := (oM s₁ m 51 #[oI n1, oI n2, oI fg, oI bk, oI f1, oI f2, oI g1, oU, oU, oU, oU, oU, oU, oU] [.int 0])) (fun _ k => XS.ifYes X0.here hx rfl (pc0 := 43) (pc' := 50) rfl (G at_43) rfl ((if0 _ _).trans (teq (hc494 : (fg &&& (8 : Int32)) = (0 : Int32))).1) (by decide) (by decide) (XS.iconst X0.here hx rfl (G at_50) k)) ?_
      exact J493 _ (by decide)
    · refine own_byL (S' := (oM s₁ m 51 #[oI n1, oI n2, oI fg, oI bk, oI f1, oI f2, oI g1, oU, oU, oU, oU, oU, oU, oU] [.int 1])) (fun _ k => XS.ifNo X0.here hx rfl (G at_43) rfl ((if0 _ _).trans (feq (hc494 : ¬ ((fg &&& (8 : Int32)) = (0 : Int32)))).1) (XS.iconst X0.here hx rfl (G at_46) (XS.goto X0.here hx rfl (pc0 := 47) (pc' := 51) rfl (G at_47) (by decide) (by decide) k))) ?_
      exact J493 _ (by decide)
  intro g2 hg2
  refine own_byL (S' := (oM s₁ m 54 #[oI n1, oI n2, oI fg, oI bk, oI f1, oI f2, oI g1, oI g2, oU, oU, oU, oU, oU, oU] [.int n1])) (fun _ k => XS.istore X0.here hx rfl (G at_51) rfl (l' := #[oI n1, oI n2, oI fg, oI bk, oI f1, oI f2, oI g1, oI g2, oU, oU, oU, oU, oU, oU]) rfl (XS.iloadN X0.here hx rfl (G at_53) rfl k)) ?_
  obtain ⟨_, _, ⟨T495, L495, k495, n495⟩, -, X495, ⟨Lc495, hQ495, l495, y495, z495⟩, st495⟩ := Jvm.LawKit.callS X0 hx (y := y_1) hown (mvT hZ (gw hw 0 rfl)) (mvT hZ (gw hw 1 rfl)) (mvT hZ (gw hw 2 rfl)) (mvT hZ (gw hw 3 rfl)) (by decide) (backOf (W := 0) (rm_nameChar l Z a0 hw [] n1 h0 n0 Zn) hZ (gw hw 3 rfl) (gw hw 2 rfl) (by decide) (by decide)) (g := (mkF m 54 #[oI n1, oI n2, oI fg, oI bk, oI f1, oI f2, oI g1, oI g2, oU, oU, oU, oU, oU, oU] [.int n1])) rfl (by rw [hml]; rfl) (argsL := [.int n1]) (rest := []) (lenOf pd__28I_29C rfl) rfl oZ (G at_54) (fun _ _ => ⟨rfl, e0, (by decide : 0 + 0 ≤ _), (by decide : 0 + 0 ≤ _)⟩)
  dsimp only [Pt.U, Pt.locs, Pt.cells, Pt.slots] at X495 l495 y495 z495 st495 hQ495
  have X495 := own_recast X495 l495 y495 z495
  obtain ⟨c1, rfl, N495q, eh1, hk1⟩ := hQ495
  have N := Fr.app N N495q
  refine own_byL st495 ?_
  refine own_byL (S' := (oM T495 m 60 #[oI n1, oI n2, oI fg, oI bk, oI f1, oI f2, oI g1, oI g2, oI (Int32.ofNat c1), oU, oU, oU, oU, oU] [.int n2])) (fun _ k => XS.istore X495.here hx rfl (G at_57) rfl (l' := #[oI n1, oI n2, oI fg, oI bk, oI f1, oI f2, oI g1, oI g2, oI (Int32.ofNat c1), oU, oU, oU, oU, oU]) rfl (XS.iloadN X495.here hx rfl (G at_59) rfl k)) ?_
  obtain ⟨_, _, ⟨T496, L496, k496, n496⟩, -, X496, ⟨Lc496, hQ496, l496, y496, z496⟩, st496⟩ := Jvm.LawKit.callS X495 hx (y := y_1) hown (mvT hZ (gw hw 0 rfl)) (mvT hZ (gw hw 1 rfl)) (mvT hZ (gw hw 2 rfl)) (mvT hZ (gw hw 3 rfl)) (by decide) (backOf (W := 0) (rm_nameChar l Z a0 hw [] n2 h0 n0 Zn) hZ (gw hw 3 rfl) (gw hw 2 rfl) (by decide) (by decide)) (g := (mkF m 60 #[oI n1, oI n2, oI fg, oI bk, oI f1, oI f2, oI g1, oI g2, oI (Int32.ofNat c1), oU, oU, oU, oU, oU] [.int n2])) rfl (by rw [hml]; rfl) (argsL := [.int n2]) (rest := []) (lenOf pd__28I_29C rfl) rfl oZ (G at_60) (fun _ _ => ⟨rfl, eh1, (by decide : 0 + 0 ≤ _), (by decide : 0 + 0 ≤ _)⟩)
  dsimp only [Pt.U, Pt.locs, Pt.cells, Pt.slots] at X496 l496 y496 z496 st496 hQ496
  have X496 := own_recast X496 l496 y496 z496
  obtain ⟨cz, rfl, N496q, eh2, hkz⟩ := hQ496
  have N := Fr.app N N496q
  refine own_byL st496 ?_
  refine own_byL (S' := (oM T496 m 69 #[oI n1, oI n2, oI fg, oI bk, oI f1, oI f2, oI g1, oI g2, oI (Int32.ofNat c1), oI (Int32.ofNat cz), oU, oU, oU, oU] [(.int (Int32.ofNat c1)), (.int (Int32.ofNat cz))])) (fun _ k => XS.istore X496.here hx rfl (G at_63) rfl (l' := #[oI n1, oI n2, oI fg, oI bk, oI f1, oI f2, oI g1, oI g2, oI (Int32.ofNat c1), oI (Int32.ofNat cz), oU, oU, oU, oU]) rfl (XS.iload X496.here hx rfl (G at_65) rfl (XS.iload X496.here hx rfl (G at_67) rfl k))) ?_
  suffices J497 : ∀ (c2 : Nat), own_nc c2 → c1 ≠ c2 → own_finL p e below s room_1.cells room_1.slots (Q_rm0 Z n1 n2 fg bk cs fo bo h0 n0) (oM T496 m 88 #[oI n1, oI n2, oI fg, oI bk, oI f1, oI f2, oI g1, oI g2, oI (Int32.ofNat c1), oI (Int32.ofNat c2), oU, oU, oU, oU] []) by
    by_cases ge : (Int32.ofNat cz) = (Int32.ofNat c1)
    · refine own_byL (S' := (oM T496 m 76 #[oI n1, oI n2, oI fg, oI bk, oI f1, oI f2, oI g1, oI g2, oI (Int32.ofNat c1), oI (Int32.ofNat cz), oU, oU, oU, oU] [.int 97, (.int (Int32.ofNat c1))])) (fun _ k => XS.icmpNo X496.here hx rfl (G at_69) rfl (teq (ge : (Int32.ofNat cz) = (Int32.ofNat c1))).2 (XS.iload X496.here hx rfl (G at_72) rfl (XS.bipush X496.here hx rfl (G at_74) k))) ?_
      by_cases g97 : (Int32.ofNat c1) = (97 : Int32)
      · refine own_byL (S' := (oM T496 m 88 #[oI n1, oI n2, oI fg, oI bk, oI f1, oI f2, oI g1, oI g2, oI (Int32.ofNat c1), oI 98, oU, oU, oU, oU] [])) (fun _ k => XS.icmpNo X496.here hx rfl (G at_76) rfl (teq (g97 : (Int32.ofNat c1) = (97 : Int32))).2 (XS.bipush X496.here hx rfl (G at_79) (XS.goto X496.here hx rfl (pc0 := 81) (pc' := 86) rfl (G at_81) (by decide) (by decide) (XS.istore X496.here hx rfl (G at_86) rfl (l' := #[oI n1, oI n2, oI fg, oI bk, oI f1, oI f2, oI g1, oI g2, oI (Int32.ofNat c1), oI 98, oU, oU, oU, oU]) rfl k)))) ?_
        exact J497 98 (by unfold own_nc; decide) (fun q => absurd (show Int32.ofNat 98 = (97 : Int32) from q ▸ g97) (by decide))
      · refine own_byL (S' := (oM T496 m 88 #[oI n1, oI n2, oI fg, oI bk, oI f1, oI f2, oI g1, oI g2, oI (Int32.ofNat c1), oI 97, oU, oU, oU, oU] [])) (fun _ k => XS.icmpYes X496.here hx rfl (pc0 := 76) (pc' := 84) rfl (G at_76) rfl (feq (g97 : ¬ ((Int32.ofNat c1) = (97 : Int32)))).2 (by decide) (by decide) (XS.bipush X496.here hx rfl (G at_84) (XS.istore X496.here hx rfl (G at_86) rfl (l' := #[oI n1, oI n2, oI fg, oI bk, oI f1, oI f2, oI g1, oI g2, oI (Int32.ofNat c1), oI 97, oU, oU, oU, oU]) rfl k))) ?_
        exact J497 97 (by unfold own_nc; decide) (fun q => g97 (by rw [q]; rfl))
    · refine own_byL (S' := (oM T496 m 88 #[oI n1, oI n2, oI fg, oI bk, oI f1, oI f2, oI g1, oI g2, oI (Int32.ofNat c1), oI (Int32.ofNat cz), oU, oU, oU, oU] [])) (fun _ k => XS.icmpYes X496.here hx rfl (pc0 := 69) (pc' := 88) rfl (G at_69) rfl (feq (ge : ¬ ((Int32.ofNat cz) = (Int32.ofNat c1)))).2 (by decide) (by decide) k) ?_
      exact J497 cz hkz (fun q => ge (by rw [q]))
  intro c2 hk2 h12
  refine own_byL (S' := (oM T496 m 90 #[oI n1, oI n2, oI fg, oI bk, oI f1, oI f2, oI g1, oI g2, oI (Int32.ofNat c1), oI (Int32.ofNat c2), oU, oU, oU, oU] [.int 23])) (fun _ k => XS.bipush X496.here hx rfl (G at_88) k) ?_
  obtain ⟨T498, h498, k498, X498, e498, E498, A498, st498⟩ := newP X496 hx hZ (gw hw 5 rfl) eh2 (g := (mkF m 90 #[oI n1, oI n2, oI fg, oI bk, oI f1, oI f2, oI g1, oI g2, oI (Int32.ofNat c1), oI (Int32.ofNat c2), oU, oU, oU, oU] [.int 23])) rfl (G at_90) rfl (by decide) (cap := 23) (by decide) (by decide) (by decide : 0 + 1 ≤ _) (by decide : 0 + 23 ≤ _)
  obtain ⟨li, g498⟩ : ∃ z, z = h0.size := ⟨_, rfl⟩
  rw [← g498] at A498 st498
  have o498 : n0 ≤ li := Nat.le_trans Zn (Nat.le_of_eq g498.symm)
  have z498 : h0.size ≤ li := Nat.le_trans K.1 (Nat.le_of_eq g498.symm)
  have TB := own_tab_ext TB E498
  have O := O.ext E498
  have hk := Nat.le_trans hk E498.1
  have Zn := Nat.le_trans Zn E498.1
  have K := K.ext E498
  have A_li : OwnA Z h498 li .char [.int 0, .int 0, .int 0, .int 0, .int 0, .int 0, .int 0, .int 0, .int 0, .int 0, .int 0, .int 0, .int 0, .int 0, .int 0, .int 0, .int 0, .int 0, .int 0, .int 0, .int 0, .int 0, .int 0] := own_new A498 rfl
  refine own_byL st498 ?_
  refine own_byL (S' := (oM T498 m 99 #[oI n1, oI n2, oI fg, oI bk, oI f1, oI f2, oI g1, oI g2, oI (Int32.ofNat c1), oI (Int32.ofNat c2), oR li, oU, oU, oU] [.int 123, .int 0, .ref li])) (fun _ k => XS.astore X498.here hx rfl (G at_92) rfl rfl (l' := #[oI n1, oI n2, oI fg, oI bk, oI f1, oI f2, oI g1, oI g2, oI (Int32.ofNat c1), oI (Int32.ofNat c2), oR li, oU, oU, oU]) rfl (XS.aload X498.here hx rfl (G at_94) rfl rfl (XS.iconst X498.here hx rfl (G at_96) (XS.bipush X498.here hx rfl (G at_97) k)))) ?_
  obtain ⟨T499, h499, X499, e499, W499, st499⟩ := own_stC X498 hx hZ e498 A_li (j := (0 : Int32)) (by decide) (Nat.le_of_ble_eq_true rfl) (g := (mkF m 99 #[oI n1, oI n2, oI fg, oI bk, oI f1, oI f2, oI g1, oI g2, oI (Int32.ofNat c1), oI (Int32.ofNat c2), oR li, oU, oU, oU] [.int 123, .int 0, .ref li])) rfl rfl (G at_99)
  have N := Fr.snoc X499 N o498
  have TB := own_tab_wr TB W499 (own_forA (gw hw 98 rfl) A_li (Nat.le_of_ble_eq_true rfl))
  have hk := Nat.le_trans hk (Nat.le_of_eq W499.size.symm)
  have O := O.wr W499 o498
  have A_li := A_li.set W499
  have Zn : n0 ≤ _ := Nat.le_trans Zn (Nat.le_of_eq W499.size.symm)
  have K := K.wr W499 (Or.inr z498)
  have A_li : OwnA Z h499 li .char [.int 123, .int 0, .int 0, .int 0, .int 0, .int 0, .int 0, .int 0, .int 0, .int 0, .int 0, .int 0, .int 0, .int 0, .int 0, .int 0, .int 0, .int 0, .int 0, .int 0, .int 0, .int 0, .int 0] := (by have q := A_li; rw [show (123 : Int32).toUInt32.toUInt16.toUInt32.toInt32 = (123 : Int32) from (by decide)] at q; exact q)
  refine own_byL st499 ?_
  refine own_byL (S' := (oM T499 m 105 #[oI n1, oI n2, oI fg, oI bk, oI f1, oI f2, oI g1, oI g2, oI (Int32.ofNat c1), oI (Int32.ofNat c2), oR li, oU, oU, oU] [.int 34, .int 1, .ref li])) (fun _ k => XS.aload X499.here hx rfl (G at_100) rfl rfl (XS.iconst X499.here hx rfl (G at_102) (XS.bipush X499.here hx rfl (G at_103) k))) ?_
  obtain ⟨T500, h500, X500, e500, W500, st500⟩ := own_stC X499 hx hZ e499 A_li (j := (1 : Int32)) (by decide) (Nat.le_of_ble_eq_true rfl) (g := (mkF m 105 #[oI n1, oI n2, oI fg, oI bk, oI f1, oI f2, oI g1, oI g2, oI (Int32.ofNat c1), oI (Int32.ofNat c2), oR li, oU, oU, oU] [.int 34, .int 1, .ref li])) rfl rfl (G at_105)
  have N := Fr.snoc X500 N o498
  have TB := own_tab_wr TB W500 (own_forA (gw hw 98 rfl) A_li (Nat.le_of_ble_eq_true rfl))
  have hk := Nat.le_trans hk (Nat.le_of_eq W500.size.symm)
  have O := O.wr W500 o498
  have A_li := A_li.set W500
  have Zn : n0 ≤ _ := Nat.le_trans Zn (Nat.le_of_eq W500.size.symm)
  have K := K.wr W500 (Or.inr z498)
  have A_li : OwnA Z h500 li .char [.int 123, .int 34, .int 0, .int 0, .int 0, .int 0, .int 0, .int 0, .int 0, .int 0, .int 0, .int 0, .int 0, .int 0, .int 0, .int 0, .int 0, .int 0, .int 0, .int 0, .int 0, .int 0, .int 0] := (by have q := A_li; rw [show (34 : Int32).toUInt32.toUInt16.toUInt32.toInt32 = (34 : Int32) from (by decide)] at q; exact q)
  refine own_byL st500 ?_
  refine own_byL (S' := (oM T500 m 111 #[oI n1, oI n2, oI fg, oI bk, oI f1, oI f2, oI g1, oI g2, oI (Int32.ofNat c1), oI (Int32.ofNat c2), oR li, oU, oU, oU] [(.int (Int32.ofNat c1)), .int 2, .ref li])) (fun _ k => XS.aload X500.here hx rfl (G at_106) rfl rfl (XS.iconst X500.here hx rfl (G at_108) (XS.iload X500.here hx rfl (G at_109) rfl k))) ?_
  obtain ⟨T501, h501, X501, e501, W501, st501⟩ := own_stC X500 hx hZ e500 A_li (j := (2 : Int32)) (by decide) (Nat.le_of_ble_eq_true rfl) (g := (mkF m 111 #[oI n1, oI n2, oI fg, oI bk, oI f1, oI f2, oI g1, oI g2, oI (Int32.ofNat c1), oI (Int32.ofNat c2), oR li, oU, oU, oU] [(.int (Int32.ofNat c1)), .int 2, .ref li])) rfl rfl (G at_111)
  have N := Fr.snoc X501 N o498
  have TB := own_tab_wr TB W501 (own_forA (gw hw 98 rfl) A_li (Nat.le_of_ble_eq_true rfl))
  have hk := Nat.le_trans hk (Nat.le_of_eq W501.size.symm)
  have O := O.wr W501 o498
  have A_li := A_li.set W501
  have Zn : n0 ≤ _ := Nat.le_trans Zn (Nat.le_of_eq W501.size.symm)
  have K := K.wr W501 (Or.inr z498)
  have A_li : OwnA Z h501 li .char [.int 123, .int 34, (.int (Int32.ofNat c1)), .int 0, .int 0, .int 0, .int 0, .int 0, .int 0, .int 0, .int 0, .int 0, .int 0, .int 0, .int 0, .int 0, .int 0, .int 0, .int 0, .int 0, .int 0, .int 0, .int 0] := (by have q := A_li; rw [show (Int32.ofNat c1).toUInt32.toUInt16.toUInt32.toInt32 = (Int32.ofNat c1) from own_c16 _ hk1.2.1] at q; exact q)
  refine own_byL st501 ?_
  refine own_byL (S' := (oM T501 m 117 #[oI n1, oI n2, oI fg, oI bk, oI f1, oI f2, oI g1, oI g2, oI (Int32.ofNat c1), oI (Int32.ofNat c2), oR li, oU, oU, oU] [.int 34, .int 3, .ref li])) (fun _ k => XS.aload X501.here hx rfl (G at_112) rfl rfl (XS.iconst X501.here hx rfl (G at_114) (XS.bipush X501.here hx rfl (G at_115) k))) ?_
  obtain ⟨T502, h502, X502, e502, W502, st502⟩ := own_stC X501 hx hZ e501 A_li (j := (3 : Int32)) (by decide) (Nat.le_of_ble_eq_true rfl) (g := (mkF m 117 #[oI n1, oI n2, oI fg, oI bk, oI f1, oI f2, oI g1, oI g2, oI (Int32.ofNat c1), oI (Int32.ofNat c2), oR li, oU, oU, oU] [.int 34, .int 3, .ref li])) rfl rfl (G at_117)
  have N := Fr.snoc X502 N o498
  have TB := own_tab_wr TB W502 (own_forA (gw hw 98 rfl) A_li (Nat.le_of_ble_eq_true rfl))
  have hk := Nat.le_trans hk (Nat.le_of_eq W502.size.symm)
  have O := O.wr W502 o498
  have A_li := A_li.set W502
  have Zn : n0 ≤ _ := Nat.le_trans Zn (Nat.le_of_eq W502.size.symm)
  have K := K.wr W502 (Or.inr z498)
  have A_li : OwnA Z h502 li .char [.int 123, .int 34, (.int (Int32.ofNat c1)), .int 34, .int 0, .int 0, .int 0, .int 0, .int 0, .int 0, .int 0, .int 0, .int 0, .int 0, .int 0, .int 0, .int 0, .int 0, .int 0, .int 0, .int 0, .int 0, .int 0] := (by have q := A_li; rw [show (34 : Int32).toUInt32.toUInt16.toUInt32.toInt32 = (34 : Int32) from (by decide)] at q; exact q)
  refine own_byL st502 ?_
  refine own_byL (S' := (oM T502 m 123 #[oI n1, oI n2, oI fg, oI bk, oI f1, oI f2, oI g1, oI g2, oI (Int32.ofNat c1), oI (Int32.ofNat c2), oR li, oU, oU, oU] [.int 58, .int 4, .ref li])) (fun _ k => XS.aload X502.here hx rfl (G at_118) rfl rfl (XS.iconst X502.here hx rfl (G at_120) (XS.bipush X502.here hx rfl (G at_121) k))) ?_
  obtain ⟨T503, h503, X503, e503, W503, st503⟩ := own_stC X502 hx hZ e502 A_li (j := (4 : Int32)) (by decide) (Nat.le_of_ble_eq_true rfl) (g := (mkF m 123 #[oI n1, oI n2, oI fg, oI bk, oI f1, oI f2, oI g1, oI g2, oI (Int32.ofNat c1), oI (Int32.ofNat c2), oR li, oU, oU, oU] [.int 58, .int 4, .ref li])) rfl rfl (G at_123)
  have N := Fr.snoc X503 N o498
  have TB := own_tab_wr TB W503 (own_forA (gw hw 98 rfl) A_li (Nat.le_of_ble_eq_true rfl))
  have hk := Nat.le_trans hk (Nat.le_of_eq W503.size.symm)
  have O := O.wr W503 o498
  have A_li := A_li.set W503
  have Zn : n0 ≤ _ := Nat.le_trans Zn (Nat.le_of_eq W503.size.symm)
  have K := K.wr W503 (Or.inr z498)
  have A_li : OwnA Z h503 li .char [.int 123, .int 34, (.int (Int32.ofNat c1)), .int 34, .int 58, .int 0, .int 0, .int 0, .int 0, .int 0, .int 0, .int 0, .int 0, .int 0, .int 0, .int 0, .int 0, .int 0, .int 0, .int 0, .int 0, .int 0, .int 0] := (by have q := A_li; rw [show (58 : Int32).toUInt32.toUInt16.toUInt32.toInt32 = (58 : Int32) from (by decide)] at q; exact q)
  refine own_byL st503 ?_
  refine own_byL (S' := (oM T503 m 128 #[oI n1, oI n2, oI fg, oI bk, oI f1, oI f2, oI g1, oI g2, oI (Int32.ofNat c1), oI (Int32.ofNat c2), oR li, oU, oU, oU] [.int bk, .int 5, .ref li])) (fun _ k => XS.aload X503.here hx rfl (G at_124) rfl rfl (XS.iconst X503.here hx rfl (G at_126) (XS.iloadN X503.here hx rfl (G at_127) rfl k))) ?_
  obtain ⟨_, _, ⟨T504, L504, k504, n504⟩, -, X504, ⟨Lc504, hQ504, l504, y504, z504⟩, st504⟩ := Jvm.LawKit.callS X503 hx (y := y_2) hown (mvT hZ (gw hw 6 rfl)) (mvT hZ (gw hw 7 rfl)) (mvT hZ (gw hw 2 rfl)) (mvT hZ (gw hw 8 rfl)) (by decide) (backOf (W := 2) (rm_blank l Z a0 hw [] bk h503 n0 Zn) hZ (gw hw 8 rfl) (gw hw 2 rfl) (by decide) (by decide)) (g := (mkF m 128 #[oI n1, oI n2, oI fg, oI bk, oI f1, oI f2, oI g1, oI g2, oI (Int32.ofNat c1), oI (Int32.ofNat c2), oR li, oU, oU, oU] [.int bk, .int 5, .ref li])) rfl (by rw [hml]; rfl) (argsL := [.int bk]) (rest := [.int 5, .ref li]) (lenOf pd__28I_29C rfl) rfl oZ (G at_128) (fun _ _ => ⟨rfl, e503, (by decide : 1 + 0 ≤ _), (by decide : 23 + 0 ≤ _)⟩)
  dsimp only [Pt.U, Pt.locs, Pt.cells, Pt.slots] at X504 l504 y504 z504 st504 hQ504
  have X504 := own_recast X504 l504 y504 z504
  obtain ⟨bl1, rfl, N504q, eb1, hb1, hv1⟩ := hQ504
  have N := Fr.app N N504q
  refine own_byL st504 ?_
  obtain ⟨T505, h505, X505, e505, W505, st505⟩ := own_stC X504 hx hZ eb1 A_li (j := (5 : Int32)) (by decide) (Nat.le_of_ble_eq_true rfl) (g := (mkF m 131 #[oI n1, oI n2, oI fg, oI bk, oI f1, oI f2, oI g1, oI g2, oI (Int32.ofNat c1), oI (Int32.ofNat c2), oR li, oU, oU, oU] [.int bl1, .int 5, .ref li])) rfl rfl (G at_131)
  have N := Fr.snoc X505 N o498
  have TB := own_tab_wr TB W505 (own_forA (gw hw 98 rfl) A_li (Nat.le_of_ble_eq_true rfl))
  have hk := Nat.le_trans hk (Nat.le_of_eq W505.size.symm)
  have O := O.wr W505 o498
  have A_li := A_li.set W505
  have Zn : n0 ≤ _ := Nat.le_trans Zn (Nat.le_of_eq W505.size.symm)
  have K := K.wr W505 (Or.inr z498)
  have A_li : OwnA Z h505 li .char [.int 123, .int 34, (.int (Int32.ofNat c1)), .int 34, .int 58, .int bl1, .int 0, .int 0, .int 0, .int 0, .int 0, .int 0, .int 0, .int 0, .int 0, .int 0, .int 0, .int 0, .int 0, .int 0, .int 0, .int 0, .int 0] := (by have q := A_li; rw [show bl1.toUInt32.toUInt16.toUInt32.toInt32 = bl1 from hv1] at q; exact q)
  refine own_byL st505 ?_
  refine own_byL (S' := (oM T505 m 140 #[oI n1, oI n2, oI fg, oI bk, oI f1, oI f2, oI g1, oI g2, oI (Int32.ofNat c1), oI (Int32.ofNat c2), oR li, oU, oU, oU] [.int g1, .int f1, .int 6, .ref li])) (fun _ k => XS.aload X505.here hx rfl (G at_132) rfl rfl (XS.bipush X505.here hx rfl (G at_134) (XS.iload X505.here hx rfl (G at_136) rfl (XS.iload X505.here hx rfl (G at_138) rfl k)))) ?_
  obtain ⟨_, _, ⟨T506, L506, k506, n506⟩, -, X506, ⟨Lc506, hQ506, l506, y506, z506⟩, st506⟩ := Jvm.LawKit.callS X505 hx (y := y_3) hown (mvT hZ (gw hw 9 rfl)) (mvT hZ (gw hw 10 rfl)) (mvT hZ (gw hw 2 rfl)) (mvT hZ (gw hw 11 rfl)) (by decide) (backOf (W := 0) (rm_put6 l Z a0 hw [] li f1 g1 [.int 123, .int 34, (.int (Int32.ofNat c1)), .int 34, .int 58, .int bl1, .int 0, .int 0, .int 0, .int 0, .int 0, .int 0, .int 0, .int 0, .int 0, .int 0, .int 0, .int 0, .int 0, .int 0, .int 0, .int 0, .int 0] h505 n0 Zn A_li rfl o498) hZ (gw hw 11 rfl) (gw hw 2 rfl) (by decide) (by decide)) (g := (mkF m 140 #[oI n1, oI n2, oI fg, oI bk, oI f1, oI f2, oI g1, oI g2, oI (Int32.ofNat c1), oI (Int32.ofNat c2), oR li, oU, oU, oU] [.int g1, .int f1, .int 6, .ref li])) rfl (by rw [hml]; rfl) (argsL := [.ref li, .int 6, .int f1, .int g1]) (rest := []) (lenOf pd__28_5bCIZZ_29V rfl) rfl oZ (G at_140) (fun _ _ => ⟨rfl, e505, (by decide : 1 + 0 ≤ _), (by decide : 23 + 0 ≤ _)⟩)
  dsimp only [Pt.U, Pt.locs, Pt.cells, Pt.slots] at X506 l506 y506 z506 st506 hQ506
  have X506 := own_recast X506 l506 y506 z506
  obtain ⟨rfl, N506q, Kp1, B_li⟩ := hQ506
  have N := Fr.app N N506q
  have TB := own_tab_keep TB Kp1 (allS (own_forA (gw hw 98 rfl) A_li (Nat.le_of_ble_eq_true rfl)) all0)
  have hk := Nat.le_trans hk Kp1.1
  have O := O.keep Kp1 (allS o498 all0)
  have Zn : n0 ≤ _ := Nat.le_trans Zn Kp1.1
  have K := K.trans Kp1 (allS (Or.inr z498) all0)
  refine own_byL st506 ?_
  have A_li : OwnA Z T506.heap li .char [.int 123, .int 34, (.int (Int32.ofNat c1)), .int 34, .int 58, .int bl1, .int ((own_pv f1 g1).getD 0 0), .int ((own_pv f1 g1).getD 1 0), .int ((own_pv f1 g1).getD 2 0), .int ((own_pv f1 g1).getD 3 0), .int ((own_pv f1 g1).getD 4 0), .int 0, .int 0, .int 0, .int 0, .int 0, .int 0, .int 0, .int 0, .int 0, .int 0, .int 0, .int 0] := B_li
  refine own_byL (S' := (oM T506 m 149 #[oI n1, oI n2, oI fg, oI bk, oI f1, oI f2, oI g1, oI g2, oI (Int32.ofNat c1), oI (Int32.ofNat c2), oR li, oU, oU, oU] [.int 44, .int 11, .ref li])) (fun _ k => XS.aload X506.here hx rfl (G at_143) rfl rfl (XS.bipush X506.here hx rfl (G at_145) (XS.bipush X506.here hx rfl (G at_147) k))) ?_
  obtain ⟨T507, h507, X507, e507, W507, st507⟩ := own_stC X506 hx hZ rfl A_li (j := (11 : Int32)) (by decide) (Nat.le_of_ble_eq_true rfl) (g := (mkF m 149 #[oI n1, oI n2, oI fg, oI bk, oI f1, oI f2, oI g1, oI g2, oI (Int32.ofNat c1), oI (Int32.ofNat c2), oR li, oU, oU, oU] [.int 44, .int 11, .ref li])) rfl rfl (G at_149)
  have N := Fr.snoc X507 N o498
  have TB := own_tab_wr TB W507 (own_forA (gw hw 98 rfl) A_li (Nat.le_of_ble_eq_true rfl))
  have hk := Nat.le_trans hk (Nat.le_of_eq W507.size.symm)
  have O := O.wr W507 o498
  have A_li := A_li.set W507
  have Zn : n0 ≤ _ := Nat.le_trans Zn (Nat.le_of_eq W507.size.symm)
  have K := K.wr W507 (Or.inr z498)
  have A_li : OwnA Z h507 li .char [.int 123, .int 34, (.int (Int32.ofNat c1)), .int 34, .int 58, .int bl1, .int ((own_pv f1 g1).getD 0 0), .int ((own_pv f1 g1).getD 1 0), .int ((own_pv f1 g1).getD 2 0), .int ((own_pv f1 g1).getD 3 0), .int ((own_pv f1 g1).getD 4 0), .int 44, .int 0, .int 0, .int 0, .int 0, .int 0, .int 0, .int 0, .int 0, .int 0, .int 0, .int 0] := (by have q := A_li; rw [show (44 : Int32).toUInt32.toUInt16.toUInt32.toInt32 = (44 : Int32) from (by decide)] at q; exact q)
  refine own_byL st507 ?_
  refine own_byL (S' := (oM T507 m 156 #[oI n1, oI n2, oI fg, oI bk, oI f1, oI f2, oI g1, oI g2, oI (Int32.ofNat c1), oI (Int32.ofNat c2), oR li, oU, oU, oU] [.int 34, .int 12, .ref li])) (fun _ k => XS.aload X507.here hx rfl (G at_150) rfl rfl (XS.bipush X507.here hx rfl (G at_152) (XS.bipush X507.here hx rfl (G at_154) k))) ?_
  obtain ⟨T508, h508, X508, e508, W508, st508⟩ := own_stC X507 hx hZ e507 A_li (j := (12 : Int32)) (by decide) (Nat.le_of_ble_eq_true rfl) (g := (mkF m 156 #[oI n1, oI n2, oI fg, oI bk, oI f1, oI f2, oI g1, oI g2, oI (Int32.ofNat c1), oI (Int32.ofNat c2), oR li, oU, oU, oU] [.int 34, .int 12, .ref li])) rfl rfl (G at_156)
  have N := Fr.snoc X508 N o498
  have TB := own_tab_wr TB W508 (own_forA (gw hw 98 rfl) A_li (Nat.le_of_ble_eq_true rfl))
  have hk := Nat.le_trans hk (Nat.le_of_eq W508.size.symm)
  have O := O.wr W508 o498
  have A_li := A_li.set W508
  have Zn : n0 ≤ _ := Nat.le_trans Zn (Nat.le_of_eq W508.size.symm)
  have K := K.wr W508 (Or.inr z498)
  have A_li : OwnA Z h508 li .char [.int 123, .int 34, (.int (Int32.ofNat c1)), .int 34, .int 58, .int bl1, .int ((own_pv f1 g1).getD 0 0), .int ((own_pv f1 g1).getD 1 0), .int ((own_pv f1 g1).getD 2 0), .int ((own_pv f1 g1).getD 3 0), .int ((own_pv f1 g1).getD 4 0), .int 44, .int 34, .int 0, .int 0, .int 0, .int 0, .int 0, .int 0, .int 0, .int 0, .int 0, .int 0] := (by have q := A_li; rw [show (34 : Int32).toUInt32.toUInt16.toUInt32.toInt32 = (34 : Int32) from (by decide)] at q; exact q)
  refine own_byL st508 ?_
  refine own_byL (S' := (oM T508 m 163 #[oI n1, oI n2, oI fg, oI bk, oI f1, oI f2, oI g1, oI g2, oI (Int32.ofNat c1), oI (Int32.ofNat c2), oR li, oU, oU, oU] [(.int (Int32.ofNat c2)), .int 13, .ref li])) (fun _ k => XS.aload X508.here hx rfl (G at_157) rfl rfl (XS.bipush X508.here hx rfl (G at_159) (XS.iload X508.here hx rfl (G at_161) rfl k))) ?_
  obtain ⟨T509, h509, X509, e509, W509, st509⟩ := own_stC X508 hx hZ e508 A_li (j := (13 : Int32)) (by decide) (Nat.le_of_ble_eq_true rfl) (g := (mkF m 163 #[oI n1, oI n2, oI fg, oI bk, oI f1, oI f2, oI g1, oI g2, oI (Int32.ofNat c1), oI (Int32.ofNat c2), oR li, oU, oU, oU] [(.int (Int32.ofNat c2)), .int 13, .ref li])) rfl rfl (G at_163)
  have N := Fr.snoc X509 N o498
  have TB := own_tab_wr TB W509 (own_forA (gw hw 98 rfl) A_li (Nat.le_of_ble_eq_true rfl))
  have hk := Nat.le_trans hk (Nat.le_of_eq W509.size.symm)
  have O := O.wr W509 o498
  have A_li := A_li.set W509
  have Zn : n0 ≤ _ := Nat.le_trans Zn (Nat.le_of_eq W509.size.symm)
  have K := K.wr W509 (Or.inr z498)
  have A_li : OwnA Z h509 li .char [.int 123, .int 34, (.int (Int32.ofNat c1)), .int 34, .int 58, .int bl1, .int ((own_pv f1 g1).getD 0 0), .int ((own_pv f1 g1).getD 1 0), .int ((own_pv f1 g1).getD 2 0), .int ((own_pv f1 g1).getD 3 0), .int ((own_pv f1 g1).getD 4 0), .int 44, .int 34, (.int (Int32.ofNat c2)), .int 0, .int 0, .int 0, .int 0, .int 0, .int 0, .int 0, .int 0, .int 0] := (by have q := A_li; rw [show (Int32.ofNat c2).toUInt32.toUInt16.toUInt32.toInt32 = (Int32.ofNat c2) from own_c16 _ hk2.2.1] at q; exact q)
  refine own_byL st509 ?_
  refine own_byL (S' := (oM T509 m 170 #[oI n1, oI n2, oI fg, oI bk, oI f1, oI f2, oI g1, oI g2, oI (Int32.ofNat c1), oI (Int32.ofNat c2), oR li, oU, oU, oU] [.int 34, .int 14, .ref li])) (fun _ k => XS.aload X509.here hx rfl (G at_164) rfl rfl (XS.bipush X509.here hx rfl (G at_166) (XS.bipush X509.here hx rfl (G at_168) k))) ?_
  obtain ⟨T510, h510, X510, e510, W510, st510⟩ := own_stC X509 hx hZ e509 A_li (j := (14 : Int32)) (by decide) (Nat.le_of_ble_eq_true rfl) (g := (mkF m 170 #[oI n1, oI n2, oI fg, oI bk, oI f1, oI f2, oI g1, oI g2, oI (Int32.ofNat c1), oI (Int32.ofNat c2), oR li, oU, oU, oU] [.int 34, .int 14, .ref li])) rfl rfl (G at_170)
  have N := Fr.snoc X510 N o498
  have TB := own_tab_wr TB W510 (own_forA (gw hw 98 rfl) A_li (Nat.le_of_ble_eq_true rfl))
  have hk := Nat.le_trans hk (Nat.le_of_eq W510.size.symm)
  have O := O.wr W510 o498
  have A_li := A_li.set W510
  have Zn : n0 ≤ _ := Nat.le_trans Zn (Nat.le_of_eq W510.size.symm)
  have K := K.wr W510 (Or.inr z498)
  have A_li : OwnA Z h510 li .char [.int 123, .int 34, (.int (Int32.ofNat c1)), .int 34, .int 58, .int bl1, .int ((own_pv f1 g1).getD 0 0), .int ((own_pv f1 g1).getD 1 0), .int ((own_pv f1 g1).getD 2 0), .int ((own_pv f1 g1).getD 3 0), .int ((own_pv f1 g1).getD 4 0), .int 44, .int 34, (.int (Int32.ofNat c2)), .int 34, .int 0, .int 0, .int 0, .int 0, .int 0, .int 0, .int 0, .int 0] := (by have q := A_li; rw [show (34 : Int32).toUInt32.toUInt16.toUInt32.toInt32 = (34 : Int32) from (by decide)] at q; exact q)
  refine own_byL st510 ?_
  refine own_byL (S' := (oM T510 m 177 #[oI n1, oI n2, oI fg, oI bk, oI f1, oI f2, oI g1, oI g2, oI (Int32.ofNat c1), oI (Int32.ofNat c2), oR li, oU, oU, oU] [.int 58, .int 15, .ref li])) (fun _ k => XS.aload X510.here hx rfl (G at_171) rfl rfl (XS.bipush X510.here hx rfl (G at_173) (XS.bipush X510.here hx rfl (G at_175) k))) ?_
  obtain ⟨T511, h511, X511, e511, W511, st511⟩ := own_stC X510 hx hZ e510 A_li (j := (15 : Int32)) (by decide) (Nat.le_of_ble_eq_true rfl) (g := (mkF m 177 #[oI n1, oI n2, oI fg, oI bk, oI f1, oI f2, oI g1, oI g2, oI (Int32.ofNat c1), oI (Int32.ofNat c2), oR li, oU, oU, oU] [.int 58, .int 15, .ref li])) rfl rfl (G at_177)
  have N := Fr.snoc X511 N o498
  have TB := own_tab_wr TB W511 (own_forA (gw hw 98 rfl) A_li (Nat.le_of_ble_eq_true rfl))
  have hk := Nat.le_trans hk (Nat.le_of_eq W511.size.symm)
  have O := O.wr W511 o498
  have A_li := A_li.set W511
  have Zn : n0 ≤ _ := Nat.le_trans Zn (Nat.le_of_eq W511.size.symm)
  have K := K.wr W511 (Or.inr z498)
  have A_li : OwnA Z h511 li .char [.int 123, .int 34, (.int (Int32.ofNat c1)), .int 34, .int 58, .int bl1, .int ((own_pv f1 g1).getD 0 0), .int ((own_pv f1 g1).getD 1 0), .int ((own_pv f1 g1).getD 2 0), .int ((own_pv f1 g1).getD 3 0), .int ((own_pv f1 g1).getD 4 0), .int 44, .int 34, (.int (Int32.ofNat c2)), .int 34, .int 58, .int 0, .int 0, .int 0, .int 0, .int 0, .int 0, .int 0] := (by have q := A_li; rw [show (58 : Int32).toUInt32.toUInt16.toUInt32.toInt32 = (58 : Int32) from (by decide)] at q; exact q)
  refine own_byL st511 ?_
  refine own_byL (S' := (oM T511 m 185 #[oI n1, oI n2, oI fg, oI bk, oI f1, oI f2, oI g1, oI g2, oI (Int32.ofNat c1), oI (Int32.ofNat c2), oR li, oU, oU, oU] [(.int (bk >>> ((2 : Int32) &&& 31))), .int 16, .ref li])) (fun _ k => XS.aload X511.here hx rfl (G at_178) rfl rfl (XS.bipush X511.here hx rfl (G at_180) (XS.iloadN X511.here hx rfl (G at_182) rfl (XS.iconst X511.here hx rfl (G at_183) (XS.ishr X511.here hx rfl (G at_184) rfl k))))) ?_
  obtain ⟨_, _, ⟨T512, L512, k512, n512⟩, -, X512, ⟨Lc512, hQ512, l512, y512, z512⟩, st512⟩ := Jvm.LawKit.callS X511 hx (y := y_2) hown (mvT hZ (gw hw 6 rfl)) (mvT hZ (gw hw 7 rfl)) (mvT hZ (gw hw 2 rfl)) (mvT hZ (gw hw 8 rfl)) (by decide) (backOf (W := 2) (rm_blank l Z a0 hw [] (bk >>> ((2 : Int32) &&& 31)) h511 n0 Zn) hZ (gw hw 8 rfl) (gw hw 2 rfl) (by decide) (by decide)) (g := (mkF m 185 #[oI n1, oI n2, oI fg, oI bk, oI f1, oI f2, oI g1, oI g2, oI (Int32.ofNat c1), oI (Int32.ofNat c2), oR li, oU, oU, oU] [(.int (bk >>> ((2 : Int32) &&& 31))), .int 16, .ref li])) rfl (by rw [hml]; rfl) (argsL := [(.int (bk >>> ((2 : Int32) &&& 31)))]) (rest := [.int 16, .ref li]) (lenOf pd__28I_29C rfl) rfl oZ (G at_185) (fun _ _ => ⟨rfl, e511, (by decide : 1 + 0 ≤ _), (by decide : 23 + 0 ≤ _)⟩)
  dsimp only [Pt.U, Pt.locs, Pt.cells, Pt.slots] at X512 l512 y512 z512 st512 hQ512
  have X512 := own_recast X512 l512 y512 z512
  obtain ⟨bl2, rfl, N512q, eb2, hb2, hv2⟩ := hQ512
  have N := Fr.app N N512q
  refine own_byL st512 ?_
  obtain ⟨T513, h513, X513, e513, W513, st513⟩ := own_stC X512 hx hZ eb2 A_li (j := (16 : Int32)) (by decide) (Nat.le_of_ble_eq_true rfl) (g := (mkF m 188 #[oI n1, oI n2, oI fg, oI bk, oI f1, oI f2, oI g1, oI g2, oI (Int32.ofNat c1), oI (Int32.ofNat c2), oR li, oU, oU, oU] [.int bl2, .int 16, .ref li])) rfl rfl (G at_188)
  have N := Fr.snoc X513 N o498
  have TB := own_tab_wr TB W513 (own_forA (gw hw 98 rfl) A_li (Nat.le_of_ble_eq_true rfl))
  have hk := Nat.le_trans hk (Nat.le_of_eq W513.size.symm)
  have O := O.wr W513 o498
  have A_li := A_li.set W513
  have Zn : n0 ≤ _ := Nat.le_trans Zn (Nat.le_of_eq W513.size.symm)
  have K := K.wr W513 (Or.inr z498)
  have A_li : OwnA Z h513 li .char [.int 123, .int 34, (.int (Int32.ofNat c1)), .int 34, .int 58, .int bl1, .int ((own_pv f1 g1).getD 0 0), .int ((own_pv f1 g1).getD 1 0), .int ((own_pv f1 g1).getD 2 0), .int ((own_pv f1 g1).getD 3 0), .int ((own_pv f1 g1).getD 4 0), .int 44, .int 34, (.int (Int32.ofNat c2)), .int 34, .int 58, .int bl2, .int 0, .int 0, .int 0, .int 0, .int 0, .int 0] := (by have q := A_li; rw [show bl2.toUInt32.toUInt16.toUInt32.toInt32 = bl2 from hv2] at q; exact q)
  refine own_byL st513 ?_
  refine own_byL (S' := (oM T513 m 197 #[oI n1, oI n2, oI fg, oI bk, oI f1, oI f2, oI g1, oI g2, oI (Int32.ofNat c1), oI (Int32.ofNat c2), oR li, oU, oU, oU] [.int g2, .int f2, .int 17, .ref li])) (fun _ k => XS.aload X513.here hx rfl (G at_189) rfl rfl (XS.bipush X513.here hx rfl (G at_191) (XS.iload X513.here hx rfl (G at_193) rfl (XS.iload X513.here hx rfl (G at_195) rfl k)))) ?_
  obtain ⟨_, _, ⟨T514, L514, k514, n514⟩, -, X514, ⟨Lc514, hQ514, l514, y514, z514⟩, st514⟩ := Jvm.LawKit.callS X513 hx (y := y_3) hown (mvT hZ (gw hw 9 rfl)) (mvT hZ (gw hw 10 rfl)) (mvT hZ (gw hw 2 rfl)) (mvT hZ (gw hw 11 rfl)) (by decide) (backOf (W := 0) (rm_put17 l Z a0 hw [] li f2 g2 [.int 123, .int 34, (.int (Int32.ofNat c1)), .int 34, .int 58, .int bl1, .int ((own_pv f1 g1).getD 0 0), .int ((own_pv f1 g1).getD 1 0), .int ((own_pv f1 g1).getD 2 0), .int ((own_pv f1 g1).getD 3 0), .int ((own_pv f1 g1).getD 4 0), .int 44, .int 34, (.int (Int32.ofNat c2)), .int 34, .int 58, .int bl2, .int 0, .int 0, .int 0, .int 0, .int 0, .int 0] h513 n0 Zn A_li rfl o498) hZ (gw hw 11 rfl) (gw hw 2 rfl) (by decide) (by decide)) (g := (mkF m 197 #[oI n1, oI n2, oI fg, oI bk, oI f1, oI f2, oI g1, oI g2, oI (Int32.ofNat c1), oI (Int32.ofNat c2), oR li, oU, oU, oU] [.int g2, .int f2, .int 17, .ref li])) rfl (by rw [hml]; rfl) (argsL := [.ref li, .int 17, .int f2, .int g2]) (rest := []) (lenOf pd__28_5bCIZZ_29V rfl) rfl oZ (G at_197) (fun _ _ => ⟨rfl, e513, (by decide : 1 + 0 ≤ _), (by decide : 23 + 0 ≤ _)⟩)
  dsimp only [Pt.U, Pt.locs, Pt.cells, Pt.slots] at X514 l514 y514 z514 st514 hQ514
  have X514 := own_recast X514 l514 y514 z514
  obtain ⟨rfl, N514q, Kp2, B_li⟩ := hQ514
  have N := Fr.app N N514q
  have TB := own_tab_keep TB Kp2 (allS (own_forA (gw hw 98 rfl) A_li (Nat.le_of_ble_eq_true rfl)) all0)
  have hk := Nat.le_trans hk Kp2.1
  have O := O.keep Kp2 (allS o498 all0)
  have Zn : n0 ≤ _ := Nat.le_trans Zn Kp2.1
  have K := K.trans Kp2 (allS (Or.inr z498) all0)
  refine own_byL st514 ?_
  have A_li : OwnA Z T514.heap li .char [.int 123, .int 34, (.int (Int32.ofNat c1)), .int 34, .int 58, .int bl1, .int ((own_pv f1 g1).getD 0 0), .int ((own_pv f1 g1).getD 1 0), .int ((own_pv f1 g1).getD 2 0), .int ((own_pv f1 g1).getD 3 0), .int ((own_pv f1 g1).getD 4 0), .int 44, .int 34, (.int (Int32.ofNat c2)), .int 34, .int 58, .int bl2, .int ((own_pv f2 g2).getD 0 0), .int ((own_pv f2 g2).getD 1 0), .int ((own_pv f2 g2).getD 2 0), .int ((own_pv f2 g2).getD 3 0), .int ((own_pv f2 g2).getD 4 0), .int 0] := B_li
  refine own_byL (S' := (oM T514 m 206 #[oI n1, oI n2, oI fg, oI bk, oI f1, oI f2, oI g1, oI g2, oI (Int32.ofNat c1), oI (Int32.ofNat c2), oR li, oU, oU, oU] [.int 125, .int 22, .ref li])) (fun _ k => XS.aload X514.here hx rfl (G at_200) rfl rfl (XS.bipush X514.here hx rfl (G at_202) (XS.bipush X514.here hx rfl (G at_204) k))) ?_
  obtain ⟨T515, h515, X515, e515, W515, st515⟩ := own_stC X514 hx hZ rfl A_li (j := (22 : Int32)) (by decide) (Nat.le_of_ble_eq_true rfl) (g := (mkF m 206 #[oI n1, oI n2, oI fg, oI bk, oI f1, oI f2, oI g1, oI g2, oI (Int32.ofNat c1), oI (Int32.ofNat c2), oR li, oU, oU, oU] [.int 125, .int 22, .ref li])) rfl rfl (G at_206)
  have N := Fr.snoc X515 N o498
  have TB := own_tab_wr TB W515 (own_forA (gw hw 98 rfl) A_li (Nat.le_of_ble_eq_true rfl))
  have hk := Nat.le_trans hk (Nat.le_of_eq W515.size.symm)
  have O := O.wr W515 o498
  have A_li := A_li.set W515
  have Zn : n0 ≤ _ := Nat.le_trans Zn (Nat.le_of_eq W515.size.symm)
  have K := K.wr W515 (Or.inr z498)
  have A_li : OwnA Z h515 li .char [.int 123, .int 34, (.int (Int32.ofNat c1)), .int 34, .int 58, .int bl1, .int ((own_pv f1 g1).getD 0 0), .int ((own_pv f1 g1).getD 1 0), .int ((own_pv f1 g1).getD 2 0), .int ((own_pv f1 g1).getD 3 0), .int ((own_pv f1 g1).getD 4 0), .int 44, .int 34, (.int (Int32.ofNat c2)), .int 34, .int 58, .int bl2, .int ((own_pv f2 g2).getD 0 0), .int ((own_pv f2 g2).getD 1 0), .int ((own_pv f2 g2).getD 2 0), .int ((own_pv f2 g2).getD 3 0), .int ((own_pv f2 g2).getD 4 0), .int 125] := (by have q := A_li; rw [show (125 : Int32).toUInt32.toUInt16.toUInt32.toInt32 = (125 : Int32) from (by decide)] at q; exact q)
  refine own_byL st515 ?_
  obtain ⟨LN, hLN⟩ : ∃ z, z = ([.int 123, .int 34, (.int (Int32.ofNat c1)), .int 34, .int 58, .int bl1, .int ((own_pv f1 g1).getD 0 0), .int ((own_pv f1 g1).getD 1 0), .int ((own_pv f1 g1).getD 2 0), .int ((own_pv f1 g1).getD 3 0), .int ((own_pv f1 g1).getD 4 0), .int 44, .int 34, (.int (Int32.ofNat c2)), .int 34, .int 58, .int bl2, .int ((own_pv f2 g2).getD 0 0), .int ((own_pv f2 g2).getD 1 0), .int ((own_pv f2 g2).getD 2 0), .int ((own_pv f2 g2).getD 3 0), .int ((own_pv f2 g2).getD 4 0), .int 125] : List Value) := ⟨_, rfl⟩
  rw [← hLN] at A_li
  have l0 : LN[0]? = some ((.int 123)) := by rw [hLN]; rfl
  have l1 : LN[1]? = some ((.int 34)) := by rw [hLN]; rfl
  have l2 : LN[2]? = some ((.int (Int32.ofNat c1))) := by rw [hLN]; rfl
  have l3 : LN[3]? = some ((.int 34)) := by rw [hLN]; rfl
  have l4 : LN[4]? = some ((.int 58)) := by rw [hLN]; rfl
  have l5 : LN[5]? = some ((.int bl1)) := by rw [hLN]; rfl
  have l6 : LN[6]? = some (.int ((own_pv f1 g1).getD 0 0)) := by rw [hLN]; rfl
  have l7 : LN[7]? = some (.int ((own_pv f1 g1).getD 1 0)) := by rw [hLN]; rfl
  have l8 : LN[8]? = some (.int ((own_pv f1 g1).getD 2 0)) := by rw [hLN]; rfl
  have l9 : LN[9]? = some (.int ((own_pv f1 g1).getD 3 0)) := by rw [hLN]; rfl
  have l10 : LN[10]? = some (.int ((own_pv f1 g1).getD 4 0)) := by rw [hLN]; rfl
  have l11 : LN[11]? = some ((.int 44)) := by rw [hLN]; rfl
  have l12 : LN[12]? = some ((.int 34)) := by rw [hLN]; rfl
  have l13 : LN[13]? = some ((.int (Int32.ofNat c2))) := by rw [hLN]; rfl
  have l14 : LN[14]? = some ((.int 34)) := by rw [hLN]; rfl
  have l15 : LN[15]? = some ((.int 58)) := by rw [hLN]; rfl
  have l16 : LN[16]? = some ((.int bl2)) := by rw [hLN]; rfl
  have l17 : LN[17]? = some (.int ((own_pv f2 g2).getD 0 0)) := by rw [hLN]; rfl
  have l18 : LN[18]? = some (.int ((own_pv f2 g2).getD 1 0)) := by rw [hLN]; rfl
  have l19 : LN[19]? = some (.int ((own_pv f2 g2).getD 2 0)) := by rw [hLN]; rfl
  have l20 : LN[20]? = some (.int ((own_pv f2 g2).getD 3 0)) := by rw [hLN]; rfl
  have l21 : LN[21]? = some (.int ((own_pv f2 g2).getD 4 0)) := by rw [hLN]; rfl
  have l22 : LN[22]? = some ((.int 125)) := by rw [hLN]; rfl
  obtain ⟨p1, q1, t1, w5, d5, w6, hp1, z1, hz1, ht1⟩ := own_half (b := 1) (by decide) hb1 hf1 l5 l6 l7 l8 l9 l10 l11 (Or.inl rfl)
  obtain ⟨p2, q2, t2, w16, d16, w17, hp2, z2, hz2, ht2⟩ := own_half (b := 12) (by decide) hb2 hf2 l16 l17 l18 l19 l20 l21 l22 (Or.inr rfl)
  have HL : own_line LN c1 c2 p1 q1 p2 q2 t1 t2 := ⟨l0, l1, l2, l3, l4, w5, d5, w6, l11, l12, l13, l14, l15, w16, d16, w17, l22, hk1, hk2, h12⟩
  obtain ⟨T516, h516, X516, e516, E516, A516, D516, -, st516⟩ := newO X515 hx hZ hown (gw hw 12 rfl) (gw hw 13 rfl) (gw hw 14 rfl) e515 (g := (mkF m 207 #[oI n1, oI n2, oI fg, oI bk, oI f1, oI f2, oI g1, oI g2, oI (Int32.ofNat c1), oI (Int32.ofNat c2), oR li, oU, oU, oU] [])) rfl (G at_207) (by decide : 1 + 1 ≤ _) (by decide : 23 + 18 ≤ _)
  obtain ⟨mb, g516⟩ : ∃ z, z = h515.size := ⟨_, rfl⟩
  rw [← g516] at A516 D516 st516
  have o516 : n0 ≤ mb := Nat.le_trans Zn (Nat.le_of_eq g516.symm)
  have z516 : h0.size ≤ mb := Nat.le_trans K.1 (Nat.le_of_eq g516.symm)
  have ne_li_mb : li ≠ mb := fun q => Nat.ne_of_lt A_li.lt (q.trans g516)
  have TB := own_tab_ext TB E516
  have O := O.ext E516
  have A_li := A_li.ext E516
  have hk := Nat.le_trans hk E516.1
  have Zn := Nat.le_trans Zn E516.1
  have K := K.ext E516
  have E_mb := A516
  have m_0 : Fld Z h516 mb "com/example/upright_play/uprightplay/event/Members" "nameStarts" "[I" .null := D516 (Or.inl (gw hw 23 rfl)) (ty := (.array .int)) (by decide)
  have m_1 : Fld Z h516 mb "com/example/upright_play/uprightplay/event/Members" "nameEnds" "[I" .null := D516 (Or.inl (gw hw 25 rfl)) (ty := (.array .int)) (by decide)
  have m_2 : Fld Z h516 mb "com/example/upright_play/uprightplay/event/Members" "nameHashes" "[I" .null := D516 (Or.inl (gw hw 27 rfl)) (ty := (.array .int)) (by decide)
  have m_3 : Fld Z h516 mb "com/example/upright_play/uprightplay/event/Members" "escapedNames" "[Ljava/lang/String;" .null := D516 (Or.inl (gw hw 31 rfl)) (ty := (.array (.object "java/lang/String"))) (by decide)
  have m_4 : Fld Z h516 mb "com/example/upright_play/uprightplay/event/Members" "types" "[Lcom/example/upright_play/uprightplay/event/Members$Type;" .null := D516 (Or.inl (gw hw 35 rfl)) (ty := (.array (.object "com/example/upright_play/uprightplay/event/Members$Type"))) (by decide)
  have m_5 : Fld Z h516 mb "com/example/upright_play/uprightplay/event/Members" "valueStarts" "[I" .null := D516 (Or.inl (gw hw 37 rfl)) (ty := (.array .int)) (by decide)
  have m_6 : Fld Z h516 mb "com/example/upright_play/uprightplay/event/Members" "valueEnds" "[I" .null := D516 (Or.inl (gw hw 39 rfl)) (ty := (.array .int)) (by decide)
  have m_7 : Fld Z h516 mb "com/example/upright_play/uprightplay/event/Members" "integerEnds" "[I" .null := D516 (Or.inl (gw hw 41 rfl)) (ty := (.array .int)) (by decide)
  have m_8 : Fld Z h516 mb "com/example/upright_play/uprightplay/event/Members" "fractionEnds" "[I" .null := D516 (Or.inl (gw hw 43 rfl)) (ty := (.array .int)) (by decide)
  have m_9 : Fld Z h516 mb "com/example/upright_play/uprightplay/event/Members" "slots" "[B" .null := D516 (Or.inr (gw hw 46 rfl)) (ty := (.array .byte)) (by decide)
  have m_10 : Fld Z h516 mb "com/example/upright_play/uprightplay/event/Members" "line" "[C" .null := D516 (Or.inl (gw hw 53 rfl)) (ty := (.array .char)) (by decide)
  have m_11 : Fld Z h516 mb "com/example/upright_play/uprightplay/event/Members" "length" "I" (.int 0) := D516 (Or.inl (gw hw 55 rfl)) (ty := .int) (by decide)
  have m_12 : Fld Z h516 mb "com/example/upright_play/uprightplay/event/Members" "lineNumber" "J" (.long (0 : Int64)) := D516 (Or.inl (gw hw 57 rfl)) (ty := .long) (by decide)
  have m_17 : Fld Z h516 mb "com/example/upright_play/uprightplay/event/Members" "pos" "I" (.int 0) := D516 (Or.inl (gw hw 59 rfl)) (ty := .int) (by decide)
  have m_13 : Fld Z h516 mb "com/example/upright_play/uprightplay/event/Members" "count" "I" (.int 0) := D516 (Or.inl (gw hw 61 rfl)) (ty := .int) (by decide)
  have m_14 : Fld Z h516 mb "com/example/upright_play/uprightplay/event/Members" "index" "Ljava/util/Map;" .null := D516 (Or.inl (gw hw 63 rfl)) (ty := (.object "java/util/Map")) (by decide)
  have m_15 : Fld Z h516 mb "com/example/upright_play/uprightplay/event/Members" "integerEnd" "I" (.int 0) := D516 (Or.inl (gw hw 162 rfl)) (ty := .int) (by decide)
  have m_16 : Fld Z h516 mb "com/example/upright_play/uprightplay/event/Members" "fractionEnd" "I" (.int 0) := D516 (Or.inl (gw hw 164 rfl)) (ty := .int) (by decide)
  refine own_byL st516 ?_
  refine own_byL (S' := (oM T516 m 211 #[oI n1, oI n2, oI fg, oI bk, oI f1, oI f2, oI g1, oI g2, oI (Int32.ofNat c1), oI (Int32.ofNat c2), oR li, oU, oU, oU] [.ref mb, .ref mb])) (fun _ k => XS.dup X516.here hx rfl (G at_210) rfl rfl k) ?_
  have lt_mb := E_mb.lt
  have lt_li := A_li.lt
  have Znb := Zn
  have Kb := K
  obtain ⟨_, _, ⟨T517, L517, k517, n517⟩, -, X517, ⟨Lc517, hQ517, l517, y517, z517⟩, st517⟩ := X516.specialBack hx (y := y_4) rfl hown (mvT hZ (gw hw 15 rfl)) (mvT hZ (gw hw 16 rfl)) (mvT hZ (gw hw 17 rfl)) (by decide) (backOf (W := 1) (rm_init l Z a0 hw [] mb h516 n0 Zn E_mb o516 m_0 m_1 m_2 m_3 m_4 m_5 m_6 m_7 m_8 m_9 m_10 m_11 m_12 m_13 m_14 m_15 m_16 m_17) hZ (gw hw 17 rfl) (gw hw 14 rfl) (by decide) (by decide)) (g := (mkF m 211 #[oI n1, oI n2, oI fg, oI bk, oI f1, oI f2, oI g1, oI g2, oI (Int32.ofNat c1), oI (Int32.ofNat c2), oR li, oU, oU, oU] [.ref mb, .ref mb])) rfl (by rw [hml]; rfl) (Steps.refl _) (a := mb) (argsL := []) (rest := [.ref mb]) (lenOf pd__28_29V rfl) rfl oZ (G at_211) (fun _ _ => ⟨rfl, e516, (by decide : 2 + 10 ≤ _), (by decide : 41 + 176 ≤ _)⟩)
  dsimp only [Pt.U, Pt.locs, Pt.cells, Pt.slots] at X517 l517 y517 z517 st517 hQ517
  have X517 := own_recast X517 l517 y517 z517
  obtain ⟨D, rfl, N517q, Ki, hD, hN, M, f_17⟩ := hQ517
  have N := Fr.app N N517q
  have TB := own_tab_keep TB Ki (allS (own_forE (gw hw 13 rfl) (by decide) E_mb) all0)
  have hk := Nat.le_trans hk Ki.1
  have O := O.keep Ki (allS o516 all0)
  have A_li := A_li.keep Ki (ninS ne_li_mb nin0)
  have E_mb := E_mb.keep Ki
  have Zn : n0 ≤ _ := Nat.le_trans Zn Ki.1
  have K := K.trans Ki (allS (Or.inr z516) all0)
  refine own_trL st517 ?_
  have DI : own_di n0 mb li D := ⟨o516, fun i hi => Nat.le_trans Znb (hD i hi), own_nd (allS (Ne.symm ne_li_mb) (allS (Nat.ne_of_lt (Nat.lt_of_lt_of_le lt_mb (hD 0 (by decide)))) (allS (Nat.ne_of_lt (Nat.lt_of_lt_of_le lt_mb (hD 1 (by decide)))) (allS (Nat.ne_of_lt (Nat.lt_of_lt_of_le lt_mb (hD 2 (by decide)))) (allS (Nat.ne_of_lt (Nat.lt_of_lt_of_le lt_mb (hD 3 (by decide)))) (allS (Nat.ne_of_lt (Nat.lt_of_lt_of_le lt_mb (hD 4 (by decide)))) (allS (Nat.ne_of_lt (Nat.lt_of_lt_of_le lt_mb (hD 5 (by decide)))) (allS (Nat.ne_of_lt (Nat.lt_of_lt_of_le lt_mb (hD 6 (by decide)))) (allS (Nat.ne_of_lt (Nat.lt_of_lt_of_le lt_mb (hD 7 (by decide)))) (allS (Nat.ne_of_lt (Nat.lt_of_lt_of_le lt_mb (hD 8 (by decide)))) (allS (Nat.ne_of_lt (Nat.lt_of_lt_of_le lt_mb (hD 9 (by decide)))) all0))))))))))) (own_nd (allS (Nat.ne_of_lt (Nat.lt_of_lt_of_le lt_li (hD 0 (by decide)))) (allS (Nat.ne_of_lt (Nat.lt_of_lt_of_le lt_li (hD 1 (by decide)))) (allS (Nat.ne_of_lt (Nat.lt_of_lt_of_le lt_li (hD 2 (by decide)))) (allS (Nat.ne_of_lt (Nat.lt_of_lt_of_le lt_li (hD 3 (by decide)))) (allS (Nat.ne_of_lt (Nat.lt_of_lt_of_le lt_li (hD 4 (by decide)))) (allS (Nat.ne_of_lt (Nat.lt_of_lt_of_le lt_li (hD 5 (by decide)))) (allS (Nat.ne_of_lt (Nat.lt_of_lt_of_le lt_li (hD 6 (by decide)))) (allS (Nat.ne_of_lt (Nat.lt_of_lt_of_le lt_li (hD 7 (by decide)))) (allS (Nat.ne_of_lt (Nat.lt_of_lt_of_le lt_li (hD 8 (by decide)))) (allS (Nat.ne_of_lt (Nat.lt_of_lt_of_le lt_li (hD 9 (by decide)))) all0)))))))))) hN)⟩
  refine own_byL (S' := (oM T517 m 223 #[oI n1, oI n2, oI fg, oI bk, oI f1, oI f2, oI g1, oI g2, oI (Int32.ofNat c1), oI (Int32.ofNat c2), oR li, oR mb, oU, oU] [(.long (1 : Int64)), .int 23, .ref li, .ref mb])) (fun _ k => XS.astore X517.here hx rfl (G at_214) rfl rfl (l' := #[oI n1, oI n2, oI fg, oI bk, oI f1, oI f2, oI g1, oI g2, oI (Int32.ofNat c1), oI (Int32.ofNat c2), oR li, oR mb, oU, oU]) rfl (XS.aload X517.here hx rfl (G at_216) rfl rfl (XS.aload X517.here hx rfl (G at_218) rfl rfl (XS.bipush X517.here hx rfl (G at_220) (XS.lconst X517.here hx rfl (G at_222) k))))) ?_
  obtain ⟨cq518, kq518, q518a, q518b, q518c⟩ := isOf hZ rfl E_mb
  obtain ⟨_, _, ⟨T518, L518, k518, n518⟩, -, X518, S518, G518, ⟨Lc518, hQ518, TB, l518, y518, z518⟩, st518⟩ := X517.virtualBackS hx (y := y_6) (z := y_6) hown (mvT hZ (gw hw 47 rfl)) (mvT hZ (gw hw 48 rfl)) (notFace_of_selects (args := #[]) (mvT hZ (gw hw 50 rfl))) (mvT hZ (gw hw 50 rfl)) (mvT hZ (gw hw 49 rfl)) (by decide) (own_backS (W := 0) (rm_read l Z a0 hw [] mb li D LN c1 c2 p1 q1 p2 q2 t1 t2 cs fo bo T517.heap n0 Zn M DI A_li f_17 HL O ⟨SC, hcs, SF, hfo, SB, EB⟩ HC HW) hZ (gw hw 51 rfl) (gw hw 14 rfl) (by decide) (by decide)) q518a q518c (g := (mkF m 223 #[oI n1, oI n2, oI fg, oI bk, oI f1, oI f2, oI g1, oI g2, oI (Int32.ofNat c1), oI (Int32.ofNat c2), oR li, oR mb, oU, oU] [(.long (1 : Int64)), .int 23, .ref li, .ref mb])) rfl (by rw [hml]; rfl) (Steps.refl _) (argsL := [.ref li, .int 23, (.long (1 : Int64))]) (rest := []) (lenOf pd__28_5bCIJ_29V rfl) rfl oZ (G at_223) (fun _ hv => ⟨rfl, rfl, own_tab_warm TB hv, (by decide : 12 + 4 ≤ _), (by decide : 217 + 48 ≤ _)⟩)
  dsimp only [Pt.U, Pt.locs, Pt.cells, Pt.slots] at X518 l518 y518 z518 st518 hQ518
  have X518 := own_recast X518 l518 y518 z518
  dsimp only [Pt.U, Pt.locs, Pt.cells, Pt.slots] at S518 G518 TB
  obtain ⟨X518, hS, hZ, hown⟩ := rebS hS hk X518 S518 G518 hZ hown
  obtain ⟨rfl, N518q, Kr, M⟩ := hQ518
  have N := Fr.app N N518q
  have O := O.keep Kr (allS DI.1 (allS (DI.2.1 0 (by decide)) (allS (DI.2.1 1 (by decide)) (allS (DI.2.1 2 (by decide)) (allS (DI.2.1 3 (by decide)) (allS (DI.2.1 4 (by decide)) (allS (DI.2.1 5 (by decide)) (allS (DI.2.1 6 (by decide)) (allS (DI.2.1 7 (by decide)) (allS (DI.2.1 8 (by decide)) (allS (DI.2.1 9 (by decide)) all0)))))))))))
  have A_li := A_li.keep Kr (ninS ne_li_mb (ninS (oP DI 1 2) (ninS (oP DI 1 3) (ninS (oP DI 1 4) (ninS (oP DI 1 5) (ninS (oP DI 1 6) (ninS (oP DI 1 7) (ninS (oP DI 1 8) (ninS (oP DI 1 9) (ninS (oP DI 1 10) (ninS (oP DI 1 11) nin0)))))))))))
  have E_mb := E_mb.keep Kr
  have Zn : n0 ≤ _ := Nat.le_trans Zn Kr.1
  have K := K.trans Kr (allS (Or.inr z516) (allS (Or.inr (Nat.le_trans Kb.1 (hD 0 (by decide)))) (allS (Or.inr (Nat.le_trans Kb.1 (hD 1 (by decide)))) (allS (Or.inr (Nat.le_trans Kb.1 (hD 2 (by decide)))) (allS (Or.inr (Nat.le_trans Kb.1 (hD 3 (by decide)))) (allS (Or.inr (Nat.le_trans Kb.1 (hD 4 (by decide)))) (allS (Or.inr (Nat.le_trans Kb.1 (hD 5 (by decide)))) (allS (Or.inr (Nat.le_trans Kb.1 (hD 6 (by decide)))) (allS (Or.inr (Nat.le_trans Kb.1 (hD 7 (by decide)))) (allS (Or.inr (Nat.le_trans Kb.1 (hD 8 (by decide)))) (allS (Or.inr (Nat.le_trans Kb.1 (hD 9 (by decide)))) all0)))))))))))
  have hk : T518.heap.size ≤ T518.heap.size := Nat.le_refl _
  refine own_trL st518 ?_
  have E_mb := M.1
  have f_10 := M.2.2.2.2.2.2.2.2.2.2.2.1
  have F_len := M.2.2.2.2.2.2.2.2.2.2.2.2.1
  refine own_byL (S' := (oM T518 m 230 #[oI n1, oI n2, oI fg, oI bk, oI f1, oI f2, oI g1, oI g2, oI (Int32.ofNat c1), oI (Int32.ofNat c2), oR li, oR mb, oU, oU] [(.int (Int32.ofNat c1)), .ref mb])) (fun _ k => XS.aload X518.here hx rfl (G at_226) rfl rfl (XS.iload X518.here hx rfl (G at_228) rfl k)) ?_
  have TBs := TB
  have Zs := Zn
  have Ks0 := K
  obtain ⟨_, _, ⟨T519, L519, k519, n519⟩, -, X519, ⟨Lc519, hQ519, l519, y519, z519⟩, st519⟩ := Jvm.LawKit.callS X518 hx (y := y_28) hown (mvT hZ (gw hw 170 rfl)) (mvT hZ (gw hw 171 rfl)) (mvT hZ (gw hw 97 rfl)) (mvT hZ (gw hw 172 rfl)) (by decide) (backOf (W := 1) (rm_valueOf l Z a0 hw [] c1 cs fo bo T518.heap n0 Zn hk1.2.1 O ⟨SC, hcs, SF, hfo, SB, EB⟩) hZ (gw hw 172 rfl) (gw hw 97 rfl) (by decide) (by decide)) (g := (mkF m 230 #[oI n1, oI n2, oI fg, oI bk, oI f1, oI f2, oI g1, oI g2, oI (Int32.ofNat c1), oI (Int32.ofNat c2), oR li, oR mb, oU, oU] [(.int (Int32.ofNat c1)), .ref mb])) rfl (by rw [hml]; rfl) (argsL := [(.int (Int32.ofNat c1))]) (rest := [.ref mb]) (lenOf pd__28C_29Ljava_2flang_2fString_3b rfl) rfl oZ (G at_230) (fun _ _ => ⟨rfl, rfl, (by decide : 16 + 2 ≤ _), (by decide : 265 + 5 ≤ _)⟩)
  dsimp only [Pt.U, Pt.locs, Pt.cells, Pt.slots] at X519 l519 y519 z519 st519 hQ519
  have X519 := own_recast X519 l519 y519 z519
  obtain ⟨sa0, sb0, rfl, N519q, Kv0, hsa0, S0, G0, H0⟩ := hQ519
  have N := Fr.app N N519q
  have hk := Nat.le_trans hk Kv0.1
  have O := O.keep Kv0 all0
  have A_li := A_li.keep Kv0 nin0
  have E_mb := E_mb.keep Kv0
  have M := own_M_keep M Kv0 (fun _ _ => nin0)
  have f_10 := f_10.keep Kv0 nin0
  have F_len := F_len.keep Kv0 nin0
  have Zn : n0 ≤ _ := Nat.le_trans Zn Kv0.1
  have K := K.trans Kv0 all0
  refine own_byL st519 ?_
  have hns0 := own_nes (gw hw 98 rfl) M A_li S0
  obtain ⟨cq520, kq520, q520a, q520b, q520c⟩ := isOf hZ rfl E_mb
  obtain ⟨_, _, ⟨T520, L520, k520, n520⟩, -, X520, ⟨Lc520, hQ520, l520, y520, z520⟩, st520⟩ := X519.virtualBack hx (y := y_32) (z := y_32) hown (mvT hZ (gw hw 185 rfl)) (mvT hZ (gw hw 186 rfl)) (notFace_of_selects (args := #[]) (mvT hZ (gw hw 188 rfl))) (mvT hZ (gw hw 188 rfl)) (mvT hZ (gw hw 187 rfl)) (by decide) (backOf (W := 0) (rm_find0 l Z a0 hw [] mb li D LN c1 c2 (Int32.ofNat p1) (Int32.ofNat q1) (Int32.ofNat p2) (Int32.ofNat q2) sa0 sb0 (((Int32.ofNat c1).toInt8.toInt32).toInt8.toInt32) cs fo bo T519.heap n0 Zn M DI A_li l2 S0 G0 H0 (Nat.le_trans Zs hsa0) (own_strne0 (gw hw 98 rfl) S0.1 S0.2.2.2) hns0 (own_b8 _ hk1.2.1) hk1 hk2 h12 O ⟨SC, hcs, SF, hfo, SB, EB⟩) hZ (gw hw 189 rfl) (gw hw 14 rfl) (by decide) (by decide)) q520a q520c (g := (mkF m 233 #[oI n1, oI n2, oI fg, oI bk, oI f1, oI f2, oI g1, oI g2, oI (Int32.ofNat c1), oI (Int32.ofNat c2), oR li, oR mb, oU, oU] [.ref sa0, .ref mb])) rfl (by rw [hml]; rfl) (Steps.refl _) (argsL := [.ref sa0]) (rest := []) (lenOf pd__28Ljava_2flang_2fString_3b_29I rfl) rfl oZ (G at_233) (fun _ _ => ⟨rfl, rfl, (by decide : 18 + 0 ≤ _), (by decide : 270 + 0 ≤ _)⟩)
  dsimp only [Pt.U, Pt.locs, Pt.cells, Pt.slots] at X520 l520 y520 z520 st520 hQ520
  have X520 := own_recast X520 l520 y520 z520
  obtain ⟨rfl, N520q, Kf0⟩ := hQ520
  have N := Fr.app N N520q
  have hk := Nat.le_trans hk Kf0.1
  have O := O.keep Kf0 (allS (Nat.le_trans Zs hsa0) all0)
  have A_li := A_li.keep Kf0 (ninS (hns0 _ (List.mem_of_getElem? (i := 1) rfl)) nin0)
  have E_mb := E_mb.keep Kf0
  have M := own_M_keep M Kf0 (own_sub hns0)
  have f_10 := f_10.keep Kf0 (ninS (hns0 _ (List.mem_of_getElem? (i := 0) rfl)) nin0)
  have F_len := F_len.keep Kf0 (ninS (hns0 _ (List.mem_of_getElem? (i := 0) rfl)) nin0)
  have Zn : n0 ≤ _ := Nat.le_trans Zn Kf0.1
  have K := K.trans Kf0 (allS (Or.inr (Nat.le_trans Ks0.1 hsa0)) all0)
  refine own_trL st520 ?_
  have TB := own_tab_keep TBs (Keep.trans Kv0 Kf0 (allS (Or.inr hsa0) all0)) all0
  refine own_byL (S' := (oM T520 m 242 #[oI n1, oI n2, oI fg, oI bk, oI f1, oI f2, oI g1, oI g2, oI (Int32.ofNat c1), oI (Int32.ofNat c2), oR li, oR mb, oI 0, oU] [(.int (Int32.ofNat c2)), .ref mb])) (fun _ k => XS.istore X520.here hx rfl (G at_236) rfl (l' := #[oI n1, oI n2, oI fg, oI bk, oI f1, oI f2, oI g1, oI g2, oI (Int32.ofNat c1), oI (Int32.ofNat c2), oR li, oR mb, oI 0, oU]) rfl (XS.aload X520.here hx rfl (G at_238) rfl rfl (XS.iload X520.here hx rfl (G at_240) rfl k))) ?_
  have TBs := TB
  have Zs := Zn
  have Ks1 := K
  obtain ⟨_, _, ⟨T521, L521, k521, n521⟩, -, X521, ⟨Lc521, hQ521, l521, y521, z521⟩, st521⟩ := Jvm.LawKit.callS X520 hx (y := y_28) hown (mvT hZ (gw hw 170 rfl)) (mvT hZ (gw hw 171 rfl)) (mvT hZ (gw hw 97 rfl)) (mvT hZ (gw hw 172 rfl)) (by decide) (backOf (W := 1) (rm_valueOf l Z a0 hw [] c2 cs fo bo T520.heap n0 Zn hk2.2.1 O ⟨SC, hcs, SF, hfo, SB, EB⟩) hZ (gw hw 172 rfl) (gw hw 97 rfl) (by decide) (by decide)) (g := (mkF m 242 #[oI n1, oI n2, oI fg, oI bk, oI f1, oI f2, oI g1, oI g2, oI (Int32.ofNat c1), oI (Int32.ofNat c2), oR li, oR mb, oI 0, oU] [(.int (Int32.ofNat c2)), .ref mb])) rfl (by rw [hml]; rfl) (argsL := [(.int (Int32.ofNat c2))]) (rest := [.ref mb]) (lenOf pd__28C_29Ljava_2flang_2fString_3b rfl) rfl oZ (G at_242) (fun _ _ => ⟨rfl, rfl, (by decide : 18 + 2 ≤ _), (by decide : 270 + 5 ≤ _)⟩)
  dsimp only [Pt.U, Pt.locs, Pt.cells, Pt.slots] at X521 l521 y521 z521 st521 hQ521
  have X521 := own_recast X521 l521 y521 z521
  obtain ⟨sa1, sb1, rfl, N521q, Kv1, hsa1, S1, G1, H1⟩ := hQ521
  have N := Fr.app N N521q
  have hk := Nat.le_trans hk Kv1.1
  have O := O.keep Kv1 all0
  have A_li := A_li.keep Kv1 nin0
  have E_mb := E_mb.keep Kv1
  have M := own_M_keep M Kv1 (fun _ _ => nin0)
  have f_10 := f_10.keep Kv1 nin0
  have F_len := F_len.keep Kv1 nin0
  have Zn : n0 ≤ _ := Nat.le_trans Zn Kv1.1
  have K := K.trans Kv1 all0
  refine own_byL st521 ?_
  have hns1 := own_nes (gw hw 98 rfl) M A_li S1
  obtain ⟨cq522, kq522, q522a, q522b, q522c⟩ := isOf hZ rfl E_mb
  obtain ⟨_, _, ⟨T522, L522, k522, n522⟩, -, X522, ⟨Lc522, hQ522, l522, y522, z522⟩, st522⟩ := X521.virtualBack hx (y := y_32) (z := y_32) hown (mvT hZ (gw hw 185 rfl)) (mvT hZ (gw hw 186 rfl)) (notFace_of_selects (args := #[]) (mvT hZ (gw hw 188 rfl))) (mvT hZ (gw hw 188 rfl)) (mvT hZ (gw hw 187 rfl)) (by decide) (backOf (W := 0) (rm_find1 l Z a0 hw [] mb li D LN c1 c2 (Int32.ofNat p1) (Int32.ofNat q1) (Int32.ofNat p2) (Int32.ofNat q2) sa1 sb1 (((Int32.ofNat c2).toInt8.toInt32).toInt8.toInt32) cs fo bo T521.heap n0 Zn M DI A_li l13 S1 G1 H1 (Nat.le_trans Zs hsa1) (own_strne0 (gw hw 98 rfl) S1.1 S1.2.2.2) hns1 (own_b8 _ hk2.2.1) hk1 hk2 h12 O ⟨SC, hcs, SF, hfo, SB, EB⟩) hZ (gw hw 189 rfl) (gw hw 14 rfl) (by decide) (by decide)) q522a q522c (g := (mkF m 245 #[oI n1, oI n2, oI fg, oI bk, oI f1, oI f2, oI g1, oI g2, oI (Int32.ofNat c1), oI (Int32.ofNat c2), oR li, oR mb, oI 0, oU] [.ref sa1, .ref mb])) rfl (by rw [hml]; rfl) (Steps.refl _) (argsL := [.ref sa1]) (rest := []) (lenOf pd__28Ljava_2flang_2fString_3b_29I rfl) rfl oZ (G at_245) (fun _ _ => ⟨rfl, rfl, (by decide : 20 + 0 ≤ _), (by decide : 275 + 0 ≤ _)⟩)
  dsimp only [Pt.U, Pt.locs, Pt.cells, Pt.slots] at X522 l522 y522 z522 st522 hQ522
  have X522 := own_recast X522 l522 y522 z522
  obtain ⟨rfl, N522q, Kf1⟩ := hQ522
  have N := Fr.app N N522q
  have hk := Nat.le_trans hk Kf1.1
  have O := O.keep Kf1 (allS (Nat.le_trans Zs hsa1) all0)
  have A_li := A_li.keep Kf1 (ninS (hns1 _ (List.mem_of_getElem? (i := 1) rfl)) nin0)
  have E_mb := E_mb.keep Kf1
  have M := own_M_keep M Kf1 (own_sub hns1)
  have f_10 := f_10.keep Kf1 (ninS (hns1 _ (List.mem_of_getElem? (i := 0) rfl)) nin0)
  have F_len := F_len.keep Kf1 (ninS (hns1 _ (List.mem_of_getElem? (i := 0) rfl)) nin0)
  have Zn : n0 ≤ _ := Nat.le_trans Zn Kf1.1
  have K := K.trans Kf1 (allS (Or.inr (Nat.le_trans Ks1.1 hsa1)) all0)
  refine own_trL st522 ?_
  have TB := own_tab_keep TBs (Keep.trans Kv1 Kf1 (allS (Or.inr hsa1) all0)) all0
  refine own_byL (S' := (oM T522 m 252 #[oI n1, oI n2, oI fg, oI bk, oI f1, oI f2, oI g1, oI g2, oI (Int32.ofNat c1), oI (Int32.ofNat c2), oR li, oR mb, oI 0, oI 1] [.ref mb])) (fun _ k => XS.istore X522.here hx rfl (G at_248) rfl (l' := #[oI n1, oI n2, oI fg, oI bk, oI f1, oI f2, oI g1, oI g2, oI (Int32.ofNat c1), oI (Int32.ofNat c2), oR li, oR mb, oI 0, oI 1]) rfl (XS.aload X522.here hx rfl (G at_250) rfl rfl k)) ?_
  obtain ⟨cq523, kq523, q523a, q523b, q523c⟩ := isOf hZ rfl E_mb
  obtain ⟨_, _, ⟨T523, L523, k523, n523⟩, -, X523, ⟨Lc523, hQ523, l523, y523, z523⟩, st523⟩ := X522.virtualBack hx (y := y_38) (z := y_38) hown (mvT hZ (gw hw 213 rfl)) (mvT hZ (gw hw 214 rfl)) (notFace_of_selects (args := #[]) (mvT hZ (gw hw 216 rfl))) (mvT hZ (gw hw 216 rfl)) (mvT hZ (gw hw 215 rfl)) (by decide) (backOf (W := 0) (rm_size l Z a0 hw [] mb li D LN (own_V2 c1 c2 (Int32.ofNat p1) (Int32.ofNat q1) (Int32.ofNat p2) (Int32.ofNat q2) bo) T522.heap n0 Zn M) hZ (gw hw 217 rfl) (gw hw 14 rfl) (by decide) (by decide)) q523a q523c (g := (mkF m 252 #[oI n1, oI n2, oI fg, oI bk, oI f1, oI f2, oI g1, oI g2, oI (Int32.ofNat c1), oI (Int32.ofNat c2), oR li, oR mb, oI 0, oI 1] [.ref mb])) rfl (by rw [hml]; rfl) (Steps.refl _) (argsL := []) (rest := []) (lenOf pd__28_29I rfl) rfl oZ (G at_252) (fun _ _ => ⟨rfl, rfl, (by decide : 20 + 0 ≤ _), (by decide : 275 + 0 ≤ _)⟩)
  dsimp only [Pt.U, Pt.locs, Pt.cells, Pt.slots] at X523 l523 y523 z523 st523 hQ523
  have X523 := own_recast X523 l523 y523 z523
  obtain ⟨rfl, N523q, ez⟩ := hQ523
  have N := Fr.app N N523q
  refine own_trL st523 ?_
  refine own_byL (S' := (oM T523 m 276 #[oI n1, oI n2, oI fg, oI bk, oI f1, oI f2, oI g1, oI g2, oI (Int32.ofNat c1), oI (Int32.ofNat c2), oR li, oR mb, oI 0, oI 1] [.int 0, .ref mb])) (fun _ k => XS.iconst X523.here hx rfl (G at_255) (XS.icmpNo X523.here hx rfl (G at_256) rfl (teq ((by decide) : (2 : Int32) = (2 : Int32))).2 (XS.iload X523.here hx rfl (G at_259) rfl (XS.ifNo X523.here hx rfl (G at_261) rfl ((if0 _ _).trans (teq ((by decide) : (0 : Int32) = (0 : Int32))).2) (XS.iload X523.here hx rfl (G at_264) rfl (XS.iconst X523.here hx rfl (G at_266) (XS.icmpYes X523.here hx rfl (pc0 := 267) (pc' := 272) rfl (G at_267) rfl (teq ((by decide) : (1 : Int32) = (1 : Int32))).1 (by decide) (by decide) (XS.aload X523.here hx rfl (G at_272) rfl rfl (XS.iload X523.here hx rfl (G at_274) rfl k))))))))) ?_
  obtain ⟨cq524, kq524, q524a, q524b, q524c⟩ := isOf hZ ez E_mb
  obtain ⟨_, _, ⟨T524, L524, k524, n524⟩, -, X524, ⟨Lc524, hQ524, l524, y524, z524⟩, st524⟩ := X523.virtualBack hx (y := y_39) (z := y_39) hown (mvT hZ (gw hw 218 rfl)) (mvT hZ (gw hw 219 rfl)) (notFace_of_selects (args := #[]) (mvT hZ (gw hw 221 rfl))) (mvT hZ (gw hw 221 rfl)) (mvT hZ (gw hw 220 rfl)) (by decide) (backOf (W := 0) (rm_type0 l Z a0 hw [] mb li D LN c1 c2 (Int32.ofNat p1) (Int32.ofNat q1) (Int32.ofNat p2) (Int32.ofNat q2) bo T522.heap n0 Zn M) hZ (gw hw 222 rfl) (gw hw 14 rfl) (by decide) (by decide)) q524a q524c (g := (mkF m 276 #[oI n1, oI n2, oI fg, oI bk, oI f1, oI f2, oI g1, oI g2, oI (Int32.ofNat c1), oI (Int32.ofNat c2), oR li, oR mb, oI 0, oI 1] [.int 0, .ref mb])) rfl (by rw [hml]; rfl) (Steps.refl _) (argsL := [.int 0]) (rest := []) (lenOf pd__28I_29Lcom_2fexample_2fupright_5fplay_2fuprightplay_2fevent_2fMembers_24Type_3b rfl) rfl oZ (G at_276) (fun _ _ => ⟨rfl, ez, (by decide : 20 + 0 ≤ _), (by decide : 275 + 0 ≤ _)⟩)
  dsimp only [Pt.U, Pt.locs, Pt.cells, Pt.slots] at X524 l524 y524 z524 st524 hQ524
  have X524 := own_recast X524 l524 y524 z524
  obtain ⟨rfl, N524q, ey0⟩ := hQ524
  have N := Fr.app N N524q
  refine own_trL st524 ?_
  obtain ⟨T525, X525, e525, st525⟩ := getS2 X524 hx hZ hown (host := "") (Or.inl (gw hw 223 rfl)) Via.refl ey0 (SB.ext O.2) (g := (mkF m 279 #[oI n1, oI n2, oI fg, oI bk, oI f1, oI f2, oI g1, oI g2, oI (Int32.ofNat c1), oI (Int32.ofNat c2), oR li, oR mb, oI 0, oI 1] [.ref bo])) rfl (G at_279)
  refine own_byL st525 ?_
  refine own_byL (S' := (oM T525 m 289 #[oI n1, oI n2, oI fg, oI bk, oI f1, oI f2, oI g1, oI g2, oI (Int32.ofNat c1), oI (Int32.ofNat c2), oR li, oR mb, oI 0, oI 1] [.int 1, .ref mb])) (fun _ k => Jvm.RoadKit.acmp (g := (mkF m 282 #[oI n1, oI n2, oI fg, oI bk, oI f1, oI f2, oI g1, oI g2, oI (Int32.ofNat c1), oI (Int32.ofNat c2), oR li, oR mb, oI 0, oI 1] [.ref bo, .ref bo])) X525 hx rfl rfl rfl (pc0 := 282) (pc' := 285) (same := true) rfl (G at_282) rfl (decide_eq_true rfl) (by decide) (by decide) (XS.aload X525.here hx rfl (G at_285) rfl rfl (XS.iload X525.here hx rfl (G at_287) rfl k))) ?_
  obtain ⟨cq526, kq526, q526a, q526b, q526c⟩ := isOf hZ e525 E_mb
  obtain ⟨_, _, ⟨T526, L526, k526, n526⟩, -, X526, ⟨Lc526, hQ526, l526, y526, z526⟩, st526⟩ := X525.virtualBack hx (y := y_39) (z := y_39) hown (mvT hZ (gw hw 218 rfl)) (mvT hZ (gw hw 219 rfl)) (notFace_of_selects (args := #[]) (mvT hZ (gw hw 221 rfl))) (mvT hZ (gw hw 221 rfl)) (mvT hZ (gw hw 220 rfl)) (by decide) (backOf (W := 0) (rm_type1 l Z a0 hw [] mb li D LN c1 c2 (Int32.ofNat p1) (Int32.ofNat q1) (Int32.ofNat p2) (Int32.ofNat q2) bo T522.heap n0 Zn M) hZ (gw hw 222 rfl) (gw hw 14 rfl) (by decide) (by decide)) q526a q526c (g := (mkF m 289 #[oI n1, oI n2, oI fg, oI bk, oI f1, oI f2, oI g1, oI g2, oI (Int32.ofNat c1), oI (Int32.ofNat c2), oR li, oR mb, oI 0, oI 1] [.int 1, .ref mb])) rfl (by rw [hml]; rfl) (Steps.refl _) (argsL := [.int 1]) (rest := []) (lenOf pd__28I_29Lcom_2fexample_2fupright_5fplay_2fuprightplay_2fevent_2fMembers_24Type_3b rfl) rfl oZ (G at_289) (fun _ _ => ⟨rfl, e525, (by decide : 20 + 0 ≤ _), (by decide : 275 + 0 ≤ _)⟩)
  dsimp only [Pt.U, Pt.locs, Pt.cells, Pt.slots] at X526 l526 y526 z526 st526 hQ526
  have X526 := own_recast X526 l526 y526 z526
  obtain ⟨rfl, N526q, ey1⟩ := hQ526
  have N := Fr.app N N526q
  refine own_trL st526 ?_
  obtain ⟨T527, X527, e527, st527⟩ := getS2 X526 hx hZ hown (host := "") (Or.inl (gw hw 223 rfl)) Via.refl ey1 (SB.ext O.2) (g := (mkF m 292 #[oI n1, oI n2, oI fg, oI bk, oI f1, oI f2, oI g1, oI g2, oI (Int32.ofNat c1), oI (Int32.ofNat c2), oR li, oR mb, oI 0, oI 1] [.ref bo])) rfl (G at_292)
  refine own_byL st527 ?_
  refine own_byL (S' := (oM T527 m 304 #[oI n1, oI n2, oI fg, oI bk, oI f1, oI f2, oI g1, oI g2, oI (Int32.ofNat c1), oI (Int32.ofNat c2), oR li, oR mb, oI 0, oI 1] [.int 0, .ref mb])) (fun _ k => Jvm.RoadKit.acmp (g := (mkF m 295 #[oI n1, oI n2, oI fg, oI bk, oI f1, oI f2, oI g1, oI g2, oI (Int32.ofNat c1), oI (Int32.ofNat c2), oR li, oR mb, oI 0, oI 1] [.ref bo, .ref bo])) X527 hx rfl rfl rfl (pc0 := 295) (pc' := 300) (same := true) rfl (G at_295) rfl (decide_eq_true rfl) (by decide) (by decide) (XS.aload X527.here hx rfl (G at_300) rfl rfl (XS.iload X527.here hx rfl (G at_302) rfl k))) ?_
  obtain ⟨cq528, kq528, q528a, q528b, q528c⟩ := isOf hZ e527 E_mb
  obtain ⟨_, _, ⟨T528, L528, k528, n528⟩, -, X528, ⟨Lc528, hQ528, l528, y528, z528⟩, st528⟩ := X527.virtualBack hx (y := y_40) (z := y_40) hown (mvT hZ (gw hw 224 rfl)) (mvT hZ (gw hw 225 rfl)) (notFace_of_selects (args := #[]) (mvT hZ (gw hw 227 rfl))) (mvT hZ (gw hw 227 rfl)) (mvT hZ (gw hw 226 rfl)) (by decide) (backOf (W := 0) (rm_bool0 l Z a0 hw [] mb li D LN c1 c2 (Int32.ofNat p1) (Int32.ofNat q1) (Int32.ofNat p2) (Int32.ofNat q2) bo z1 T522.heap n0 Zn M DI A_li (own_nn (by omega)) (own_at (by omega) hz1)) hZ (gw hw 228 rfl) (gw hw 14 rfl) (by decide) (by decide)) q528a q528c (g := (mkF m 304 #[oI n1, oI n2, oI fg, oI bk, oI f1, oI f2, oI g1, oI g2, oI (Int32.ofNat c1), oI (Int32.ofNat c2), oR li, oR mb, oI 0, oI 1] [.int 0, .ref mb])) rfl (by rw [hml]; rfl) (Steps.refl _) (argsL := [.int 0]) (rest := []) (lenOf pd__28I_29Z rfl) rfl oZ (G at_304) (fun _ _ => ⟨rfl, e527, (by decide : 20 + 0 ≤ _), (by decide : 275 + 0 ≤ _)⟩)
  dsimp only [Pt.U, Pt.locs, Pt.cells, Pt.slots] at X528 l528 y528 z528 st528 hQ528
  have X528 := own_recast X528 l528 y528 z528
  obtain ⟨rfl, N528q, ew0⟩ := hQ528
  have N := Fr.app N N528q
  refine own_trL st528 ?_
  refine own_byL (S' := (oM T528 m 316 #[oI n1, oI n2, oI fg, oI bk, oI f1, oI f2, oI g1, oI g2, oI (Int32.ofNat c1), oI (Int32.ofNat c2), oR li, oR mb, oI 0, oI 1] [.int 1, .ref mb])) (fun _ k => XS.iload X528.here hx rfl (G at_307) rfl (XS.icmpNo X528.here hx rfl (G at_309) rfl (teq (ht1 : (own_t z1) = f1)).2 (XS.aload X528.here hx rfl (G at_312) rfl rfl (XS.iload X528.here hx rfl (G at_314) rfl k)))) ?_
  obtain ⟨cq529, kq529, q529a, q529b, q529c⟩ := isOf hZ ew0 E_mb
  obtain ⟨_, _, ⟨T529, L529, k529, n529⟩, -, X529, ⟨Lc529, hQ529, l529, y529, z529⟩, st529⟩ := X528.virtualBack hx (y := y_40) (z := y_40) hown (mvT hZ (gw hw 224 rfl)) (mvT hZ (gw hw 225 rfl)) (notFace_of_selects (args := #[]) (mvT hZ (gw hw 227 rfl))) (mvT hZ (gw hw 227 rfl)) (mvT hZ (gw hw 226 rfl)) (by decide) (backOf (W := 0) (rm_bool1 l Z a0 hw [] mb li D LN c1 c2 (Int32.ofNat p1) (Int32.ofNat q1) (Int32.ofNat p2) (Int32.ofNat q2) bo z2 T522.heap n0 Zn M DI A_li (own_nn (by omega)) (own_at (by omega) hz2)) hZ (gw hw 228 rfl) (gw hw 14 rfl) (by decide) (by decide)) q529a q529c (g := (mkF m 316 #[oI n1, oI n2, oI fg, oI bk, oI f1, oI f2, oI g1, oI g2, oI (Int32.ofNat c1), oI (Int32.ofNat c2), oR li, oR mb, oI 0, oI 1] [.int 1, .ref mb])) rfl (by rw [hml]; rfl) (Steps.refl _) (argsL := [.int 1]) (rest := []) (lenOf pd__28I_29Z rfl) rfl oZ (G at_316) (fun _ _ => ⟨rfl, ew0, (by decide : 20 + 0 ≤ _), (by decide : 275 + 0 ≤ _)⟩)
  dsimp only [Pt.U, Pt.locs, Pt.cells, Pt.slots] at X529 l529 y529 z529 st529 hQ529
  have X529 := own_recast X529 l529 y529 z529
  obtain ⟨rfl, N529q, ew1⟩ := hQ529
  have N := Fr.app N N529q
  refine own_trL st529 ?_
  refine own_byL (S' := (oM T529 m 329 #[oI n1, oI n2, oI fg, oI bk, oI f1, oI f2, oI g1, oI g2, oI (Int32.ofNat c1), oI (Int32.ofNat c2), oR li, oR mb, oI 0, oI 1] [.int 1])) (fun _ k => XS.iload X529.here hx rfl (G at_319) rfl (XS.icmpNo X529.here hx rfl (G at_321) rfl (teq (ht2 : (own_t z2) = f2)).2 (XS.iconst X529.here hx rfl (G at_324) (XS.goto X529.here hx rfl (pc0 := 325) (pc' := 329) rfl (G at_325) (by decide) (by decide) k)))) ?_
  exact own_retL X529 hx hS ew1 hk (t := .boolean) Bd.returns rfl (Or.inl ⟨rfl, by simp, _, rfl⟩) (G at_329) hlk (by decide : 20 ≤ _) (by decide : 275 ≤ _) ⟨rfl, N⟩
theorem own_ncs {s : State} {args : Array Value} {cs : Int32} (e : (Term.static "java/lang/String" "COMPACT_STRINGS" "Z").eval args s none [] s = some (.int cs)) (w : (Cond.not (.eq (.static "java/lang/String" "COMPACT_STRINGS" "Z") (.int 0))).before args s = true) : cs ≠ 0 := fun q => by
  subst q
  simp [Cond.before, Cond.holds, Cond.value, e, Term.int_eval] at w
theorem own_isref {s : State} {args : Array Value} {t : Term} (w : (Cond.isRef t).before args s = true) : ∃ v, t.eval args s none [] s = some v ∧ (v = .null ∨ ∃ a, v = .ref a) := by
  simp only [Cond.before, Cond.holds, Cond.value] at w
  cases h : t.eval args s none [] s with
  | none => simp [h] at w
  | some v => cases v <;> simp [h] at w ⊢
set_option maxRecDepth 65536 in
set_option maxHeartbeats 40000000 in
theorem comes_1 {Post : Tables → Env → Array Value → State → Outcome → State → Prop} (hpost : ∀ tb e args s v u, (limb_1_1.after args s (.returned v) u = true ∧ limb_1_2.after args s (.returned v) u = true ∧ True) → ReturnedEndW s (.returned v) u (Jvm.fieldLocs frame_1_writes args s ++ Jvm.arrayLocs frame_1_arrays args s ++ Jvm.staticLocs frame_1_statics s) 48 2624 → Post tb e args s (.returned v) u) :
    ArmFor flags0 classFile x code maxLocals ret World_1 tables_1 room_1 Calls_1 rest_1 Pre_1 Post := by
  intro l hfl _ _ p e ha hc hk s m args below hf hA hF happ hP
  obtain ⟨hcalls, hrest, hpre⟩ := hP
  obtain ⟨-, -, -, hnamed, -, -, -, hat⟩ := (Spec.applies_iff hf).mp happ
  obtain ⟨hg, hn⟩ := and_e (Cond.before_iff.mp (show (Jvm.Cond.and given_1 narrow_1).before args s = true from hpre))
  obtain ⟨gc, gr⟩ := and_e hg
  obtain ⟨g0, gr⟩ := and_e gr
  obtain ⟨g1, gr⟩ := and_e gr
  obtain ⟨g2, gr⟩ := and_e gr
  have g3 := gr
  obtain ⟨w0, w1, w2, w3, rfl⟩ : ∃ w0 w1 w2 w3 : Value, args = #[w0, w1, w2, w3] := by
    have hs : args.size = 4 := by simpa [Cond.value, given_1] using gc
    obtain ⟨L⟩ := args
    match L, hs with
    | [w0, w1, w2, w3], _ => exact ⟨w0, w1, w2, w3, rfl⟩
  have hw := fun d (hd : d ∈ tables_1) => atoms_spec (ws := Jvm.Cond.code x code maxLocals ret :: tables_1) hat d (List.mem_cons_of_mem _ hd)
  have hfit : Fit s := fun {y c} hc i hi => by
    obtain ⟨ha, rfl⟩ := Array.getElem?_eq_some_iff.mp hc
    have q := List.all_eq_true.mp ((Array.all_eq_true_iff_forall_mem.mp hF) _ (Array.getElem_mem ha)) i (List.mem_range.mpr hi)
    simpa [Array.getElem?_eq_getElem hi] using q
  obtain ⟨hsets, hown0⟩ := atoms_of _ (rest_1_c_eq ▸ (show rest_1_c.before _ s = true from hrest))
  obtain ⟨i0, ei0⟩ := is_v g0
  obtain rfl : w0 = (.int i0) := Option.some.inj ei0
  obtain ⟨i1, ei1⟩ := is_v g1
  obtain rfl : w1 = (.int i1) := Option.some.inj ei1
  obtain ⟨i2, ei2⟩ := is_v g2
  obtain rfl : w2 = (.int i2) := Option.some.inj ei2
  obtain ⟨i3, ei3⟩ := is_v g3
  obtain rfl : w3 = (.int i3) := Option.some.inj ei3
  obtain ⟨cs, ecs⟩ := is_v (Cond.before_iff.mp (hsets _ (List.mem_of_getElem? (i := 1) rfl)))
  have SC := Sta.start ecs (Or.inl (hsets _ (List.mem_of_getElem? (i := 0) rfl)))
  have hcs : cs ≠ 0 := own_ncs ecs (hsets _ (List.mem_of_getElem? (i := 2) rfl))
  obtain ⟨fo, efo, hfo⟩ := own_isref (hsets _ (List.mem_of_getElem? (i := 8) rfl))
  have SF := Sta.start efo (Or.inl (hsets _ (List.mem_of_getElem? (i := 7) rfl)))
  obtain ⟨bo, ebo⟩ := exa_v hn
  have SB := Sta.start ebo (Or.inr ⟨(gw hw 150 rfl), (gw hw 151 rfl)⟩)
  have EB := Exa.start ebo hn
  have HC : ∀ t, Jvm.Lit.constHeld s "com/example/upright_play/uprightplay/event/Members" (own_ix t) := fun t => by
    unfold own_ix; split
    · exact hcalls.1 (_, 208) (List.mem_of_getElem? (i := 0) rfl)
    · exact hcalls.1 (_, 217) (List.mem_of_getElem? (i := 1) rfl)
  obtain ⟨n, o, h1, h2, h3, _, L, rfl, ⟨rfl, N⟩, hq⟩ := rm0 l s _ hw tables_1 i0 i1 i2 i3 cs fo bo s.heap s.heap.size (Nat.le_refl _) (Old.start s) ⟨SC, hcs, SF, hfo, SB, EB⟩ HC (hsets _ (List.mem_of_getElem? (i := 2) rfl)) p e ha hc hk s m _ below hf ((Spec.applies_iff_loose hf).mp happ).1 ⟨rfl, State.Warmed39.refl s, rfl, IB.start, fun t ht => nomatch ht⟩ trivial
  refine ⟨n, _, h1, h2, h3, hpost _ _ _ _ _ _ ⟨Cond.after_iff.mpr rfl, Cond.after_iff.mpr (eq_i res_at (Term.int_eval (1)) rfl), trivial⟩ ⟨hq.1, hq.2.1, hq.2.2.1, (hq.2.2.2.sift fun y hy => Or.inr (N y hy)).mono (by decide) (by decide)⟩⟩
theorem main_1_1 : Claimed_1_1 := comes_1 fun _ _ _ _ _ _ h hF => ⟨h.1, hF⟩
theorem main_1_2 : Claimed_1_2 := comes_1 fun _ _ _ _ _ _ h hF => ⟨h.2.1, hF⟩
end Jvm.Pilot.@@N@@
namespace Jvm.Pilot.@@N@@
open Jvm Jvm.ClassFile Sem Op Lib Jvm.Free Jvm.Stand Jvm.Pilot.@@N@@.Jvm.D
/-! MADE BY PROGRAM (witnessworld.py) out of the Statement's table words and the real class files: 24 classes; the members and pool entries that the words name. The judged class is class 1, her method 4. -/
namespace start1
open Jvm.ClassFile
def u (s : String) : CpInfo := .utf8 (stringToUtf16 s)
/-- a pool by its gaps: so many unusable entries, then the entry; so many at the end -/
def gap : Nat → List CpInfo → List CpInfo
  | 0, r => r
  | n + 1, r => .unusable :: gap n r
def poolList (es : List (Nat × CpInfo)) (last : Nat) : List CpInfo := es.foldr (fun e r => gap e.1 (e.2 :: r)) (gap last [])
def pool (es : List (Nat × CpInfo)) (last : Nat) : Array CpInfo := ⟨poolList es last⟩
def fileOf (pool : Array CpInfo) (this : Nat) (attrs : Array Attribute := #[]) (ms : Array MethodInfo := #[]) (fl : Nat := 33) (sup : Nat := 0) (ifs : Array Nat := #[]) (fds : Array FieldInfo := #[]) : ClassFile where
  minorVersion := 0
  majorVersion := 65
  constantPool := pool
  accessFlags := fl
  thisClass := this
  superClass := sup
  interfaces := ifs
  fields := fds
  methods := ms
  attributes := attrs
def plain (name : String) (sup : Option ClassId) : Class where
  name := name
  kind := .ordinary
  loader := none
  accessFlags := 33
  super := sup
  interfaces := #[]
  cf := none
  fields := #[]
  methods := #[]
  instanceTypes := #[]
  staticTypes := #[]
  resolved := #[]
  callSites := []
  init := .initialized
  statics := none
  mirror := none

def pool0 : Array CpInfo := pool [(5, u "<init>"), (0, u "()V"), (1, .class_ 10), (1, u "java/lang/Object")] 113

def k0c0 : Code := { maxStack := 0, maxLocals := 1, code := object_method_1_code, exceptionTable := #[], attributes := #[] }
def k0m0 : Method := { name := "<init>", desc := "()V", sig := { parameters := [], returnType := none }, accessFlags := 1, code := some k0c0 }
/-- java/lang/Object -/
def k0 : Class := { plain "java/lang/Object" none with
  accessFlags := 33
  interfaces := #[]
  cf := some (fileOf pool0 8 #[] #[{ accessFlags := 1, nameIndex := 5, descriptorIndex := 6, attributes := #[] }] 33 0 #[] #[])
  fields := #[]
  methods := #[k0m0]
  instanceTypes := #[]
  staticTypes := #[]
  resolved := Array.replicate 124 none
  statics := none }

def pool1 : Array CpInfo := pool [(2, .class_ 4), (0, .nameAndType 5 6), (0, u "java/lang/Object"), (0, u "<init>"), (0, u "()V"), (0, .integer 2147483647), (0, .methodref 9 10), (0, .class_ 11), (0, .nameAndType 12 13), (0, u "com/example/upright_play/uprightplay/event/MembersBoolPinLaw"), (0, u "nameChar"), (0, u "(I)C"), (0, .methodref 9 15), (0, .nameAndType 16 13), (0, u "blank"), (0, .methodref 9 18), (0, .nameAndType 19 20), (0, u "putValue"), (0, u "([CIZZ)V"), (0, .class_ 22), (0, u "com/example/upright_play/uprightplay/event/Members"), (0, .methodref 21 3), (0, .methodref 21 25), (0, .nameAndType 26 27), (0, u "read"), (0, u "([CIJ)V"), (0, .methodref 29 30), (0, .class_ 31), (0, .nameAndType 32 33), (0, u "java/lang/String"), (0, u "valueOf"), (0, u "(C)Ljava/lang/String;"), (0, .methodref 21 35), (0, .nameAndType 36 37), (0, u "find"), (0, u "(Ljava/lang/String;)I"), (0, .methodref 21 39), (0, .nameAndType 40 41), (0, u "size"), (0, u "()I"), (0, .methodref 21 43), (0, .nameAndType 44 45), (0, u "type"), (0, u "(I)Lcom/example/upright_play/uprightplay/event/Members$Type;"), (0, .fieldref 47 48), (0, .class_ 49), (0, .nameAndType 50 51), (0, u "com/example/upright_play/uprightplay/event/Members$Type"), (0, u "BOOLEAN"), (0, u "Lcom/example/upright_play/uprightplay/event/Members$Type;"), (0, .methodref 21 53), (0, .nameAndType 54 55), (0, u "bool"), (0, u "(I)Z"), (3, u "law"), (0, u "(IIII)Z")] 9

def k1m0 : Method := { name := "<init>", desc := "()V", sig := { parameters := [], returnType := none }, accessFlags := 1, code := none }
def k1c1 : Code := { maxStack := 3, maxLocals := 2, code := method_2_code, exceptionTable := #[], attributes := #[] }
def k1m1 : Method := { name := "nameChar", desc := "(I)C", sig := { parameters := [.int], returnType := some .char }, accessFlags := 10, code := some k1c1 }
def k1c2 : Code := { maxStack := 2, maxLocals := 3, code := method_3_code, exceptionTable := #[], attributes := #[] }
def k1m2 : Method := { name := "blank", desc := "(I)C", sig := { parameters := [.int], returnType := some .char }, accessFlags := 10, code := some k1c2 }
def k1c3 : Code := { maxStack := 3, maxLocals := 4, code := method_4_code, exceptionTable := #[], attributes := #[] }
def k1m3 : Method := { name := "putValue", desc := "([CIZZ)V", sig := { parameters := [(.array .char), .int, .boolean, .boolean], returnType := none }, accessFlags := 10, code := some k1c3 }
def k1c4 : Code := { maxStack := 5, maxLocals := 14, code := code, exceptionTable := #[], attributes := #[] }
def k1m4 : Method := { name := "law", desc := "(IIII)Z", sig := { parameters := [.int, .int, .int, .int], returnType := some .boolean }, accessFlags := 9, code := some k1c4 }
/-- com/example/upright_play/uprightplay/event/MembersBoolPinLaw -/
def k1 : Class := { plain "com/example/upright_play/uprightplay/event/MembersBoolPinLaw" (some 0) with
  accessFlags := 49
  interfaces := #[]
  cf := some (fileOf pool1 9 #[] #[{ accessFlags := 1, nameIndex := 5, descriptorIndex := 6, attributes := #[] }, { accessFlags := 10, nameIndex := 12, descriptorIndex := 13, attributes := #[] }, { accessFlags := 10, nameIndex := 16, descriptorIndex := 13, attributes := #[] }, { accessFlags := 10, nameIndex := 19, descriptorIndex := 20, attributes := #[] }, { accessFlags := 9, nameIndex := 59, descriptorIndex := 60, attributes := #[] }] 49 2 #[] #[])
  fields := #[]
  methods := #[k1m0, k1m1, k1m2, k1m3, k1m4]
  instanceTypes := #[]
  staticTypes := #[]
  resolved := Array.replicate 70 none
  statics := none }

def pool2 : Array CpInfo := pool [(1, .class_ 2), (0, u "com/example/upright_play/uprightplay/event/Members"), (0, .methodref 4 5), (0, .class_ 6), (0, .nameAndType 7 8), (0, u "java/lang/Object"), (0, u "<init>"), (0, u "()V"), (0, .fieldref 1 10), (0, .nameAndType 11 12), (0, u "nameStarts"), (0, u "[I"), (0, .fieldref 1 14), (0, .nameAndType 15 12), (0, u "nameEnds"), (0, .fieldref 1 17), (0, .nameAndType 18 12), (0, u "nameHashes"), (0, .class_ 20), (0, u "java/lang/String"), (0, .fieldref 1 22), (0, .nameAndType 23 24), (0, u "escapedNames"), (0, u "[Ljava/lang/String;"), (0, .class_ 26), (0, u "com/example/upright_play/uprightplay/event/Members$Type"), (0, .fieldref 1 28), (0, .nameAndType 29 30), (0, u "types"), (0, u "[Lcom/example/upright_play/uprightplay/event/Members$Type;"), (0, .fieldref 1 32), (0, .nameAndType 33 12), (0, u "valueStarts"), (0, .fieldref 1 35), (0, .nameAndType 36 12), (0, u "valueEnds"), (0, .fieldref 1 38), (0, .nameAndType 39 12), (0, u "integerEnds"), (0, .fieldref 1 41), (0, .nameAndType 42 12), (0, u "fractionEnds"), (0, .fieldref 1 44), (0, .nameAndType 45 46), (0, u "slots"), (0, u "[B"), (0, .fieldref 1 48), (0, .nameAndType 49 50), (0, u "line"), (0, u "[C"), (0, .fieldref 1 52), (0, .nameAndType 53 54), (0, u "length"), (0, u "I"), (0, .fieldref 1 56), (0, .nameAndType 57 58), (0, u "lineNumber"), (0, u "J"), (0, .fieldref 1 60), (0, .nameAndType 61 54), (0, u "pos"), (0, .fieldref 1 63), (0, .nameAndType 64 54), (0, u "count"), (0, .fieldref 1 66), (0, .nameAndType 67 68), (0, u "index"), (0, u "Ljava/util/Map;"), (0, .methodref 70 71), (0, .class_ 72), (0, .nameAndType 73 74), (0, u "java/util/Arrays"), (0, u "fill"), (0, u "([BB)V"), (0, .integer 65279), (0, .methodref 1 77), (0, .nameAndType 78 8), (0, u "skipWhitespace"), (3, u "()Z"), (11, .methodref 1 95), (0, .nameAndType 96 97), (0, u "readContainer"), (0, u "(IC)V"), (15, u "()I"), (0, .methodref 19 115), (0, .nameAndType 116 113), (0, u "hashCode"), (0, .methodref 1 118), (0, .nameAndType 119 120), (0, u "slotOf"), (0, u "(I)I"), (0, .methodref 1 122), (0, .nameAndType 123 124), (0, u "isNamed"), (0, u "(ILjava/lang/String;)Z"), (0, .methodref 1 126), (0, .nameAndType 127 120), (0, u "next"), (5, u "(II)I"), (37, .methodref 1 172), (0, .nameAndType 173 174), (0, u "take"), (0, u "(C)Z"), (0, .methodref 1 176), (0, .nameAndType 177 178), (0, u "readValue"), (0, u "(I)Lcom/example/upright_play/uprightplay/event/Members$Type;"), (3, u "Lcom/example/upright_play/uprightplay/event/Members$Type;"), (4, u "add"), (1, .methodref 1 190), (0, .nameAndType 191 82), (0, u "readString"), (3, .methodref 1 196), (0, .nameAndType 187 197), (0, u "(IIZLcom/example/upright_play/uprightplay/event/Members$Type;I)V"), (0, .methodref 1 199), (0, .nameAndType 200 201), (0, u "expect"), (0, u "(C)V"), (6, .string 209), (0, u "true"), (0, .methodref 1 211), (0, .nameAndType 212 213), (0, u "readWord"), (0, u "(Ljava/lang/String;)V"), (0, .fieldref 25 215), (0, .nameAndType 216 182), (0, u "BOOLEAN"), (0, .string 218), (0, u "false"), (19, .methodref 19 239), (0, .nameAndType 53 113), (0, .methodref 19 241), (0, .nameAndType 242 243), (0, u "charAt"), (0, u "(I)C"), (0, .methodref 1 245), (0, .nameAndType 246 8), (0, u "expectDelimiter"), (3, .fieldref 1 251), (0, .nameAndType 252 54), (0, u "integerEnd"), (3, .fieldref 1 257), (0, .nameAndType 258 54), (0, u "fractionEnd"), (3, .methodref 1 263), (0, .nameAndType 264 174), (0, u "isDelimiter"), (6, .methodref 1 272), (0, .nameAndType 273 133), (0, u "hash"), (29, .methodref 1 304), (0, .nameAndType 305 306), (0, u "holds"), (0, u "(IILjava/lang/String;)Z"), (0, .integer 2654435769), (26, .methodref 1 335), (0, .nameAndType 336 174), (0, u "isWhitespace"), (2, u "MAX_DEPTH"), (2, u "MAX_NUMBER_LENGTH"), (1, u "BYTE_ORDER_MARK"), (0, u "C"), (0, u "SLOTTED_MEMBERS"), (1, u "SLOT_BITS"), (1, u "SLOTS"), (1, u "ESCAPES"), (0, u "Ljava/lang/String;"), (0, u "ESCAPED"), (4, u "read"), (0, u "([CIJ)V"), (3, u "size"), (0, u "find"), (0, u "(Ljava/lang/String;)I"), (0, u "type"), (6, u "bool"), (0, u "(I)Z")] 20

def k2c0 : Code := { maxStack := 2, maxLocals := 1, code := prog_95_method_1_code, exceptionTable := #[], attributes := #[] }
def k2m0 : Method := { name := "<init>", desc := "()V", sig := { parameters := [], returnType := none }, accessFlags := 0, code := some k2c0 }
def k2c1 : Code := { maxStack := 5, maxLocals := 5, code := prog_95_method_2_code, exceptionTable := #[], attributes := #[] }
def k2m1 : Method := { name := "read", desc := "([CIJ)V", sig := { parameters := [(.array .char), .int, .long], returnType := none }, accessFlags := 0, code := some k2c1 }
def k2c2 : Code := { maxStack := 1, maxLocals := 1, code := prog_95_method_4_code, exceptionTable := #[], attributes := #[] }
def k2m2 : Method := { name := "size", desc := "()I", sig := { parameters := [], returnType := some .int }, accessFlags := 0, code := some k2c2 }
def k2c3 : Code := { maxStack := 3, maxLocals := 6, code := prog_95_method_5_code, exceptionTable := #[], attributes := #[] }
def k2m3 : Method := { name := "find", desc := "(Ljava/lang/String;)I", sig := { parameters := [(.object "java/lang/String")], returnType := some .int }, accessFlags := 0, code := some k2c3 }
def k2c4 : Code := { maxStack := 2, maxLocals := 2, code := prog_95_method_6_code, exceptionTable := #[], attributes := #[] }
def k2m4 : Method := { name := "type", desc := "(I)Lcom/example/upright_play/uprightplay/event/Members$Type;", sig := { parameters := [.int], returnType := some (.object "com/example/upright_play/uprightplay/event/Members$Type") }, accessFlags := 0, code := some k2c4 }
def k2c5 : Code := { maxStack := 3, maxLocals := 2, code := prog_95_method_11_code, exceptionTable := #[], attributes := #[] }
def k2m5 : Method := { name := "bool", desc := "(I)Z", sig := { parameters := [.int], returnType := some .boolean }, accessFlags := 0, code := some k2c5 }
def k2c6 : Code := { maxStack := 6, maxLocals := 9, code := prog_95_method_13_code, exceptionTable := #[], attributes := #[] }
def k2m6 : Method := { name := "readContainer", desc := "(IC)V", sig := { parameters := [.int, .char], returnType := none }, accessFlags := 2, code := some k2c6 }
def k2c7 : Code := { maxStack := 3, maxLocals := 4, code := prog_95_method_14_code, exceptionTable := #[], attributes := #[] }
def k2m7 : Method := { name := "readValue", desc := "(I)Lcom/example/upright_play/uprightplay/event/Members$Type;", sig := { parameters := [.int], returnType := some (.object "com/example/upright_play/uprightplay/event/Members$Type") }, accessFlags := 2, code := some k2c7 }
def k2c8 : Code := { maxStack := 3, maxLocals := 3, code := prog_95_method_15_code, exceptionTable := #[], attributes := #[] }
def k2m8 : Method := { name := "readString", desc := "()Z", sig := { parameters := [], returnType := some .boolean }, accessFlags := 2, code := some k2c8 }
def k2c9 : Code := { maxStack := 3, maxLocals := 3, code := prog_95_method_17_code, exceptionTable := #[], attributes := #[] }
def k2m9 : Method := { name := "readWord", desc := "(Ljava/lang/String;)V", sig := { parameters := [(.object "java/lang/String")], returnType := none }, accessFlags := 2, code := some k2c9 }
def k2c10 : Code := { maxStack := 2, maxLocals := 1, code := prog_95_method_19_code, exceptionTable := #[], attributes := #[] }
def k2m10 : Method := { name := "expectDelimiter", desc := "()V", sig := { parameters := [], returnType := none }, accessFlags := 2, code := some k2c10 }
def k2c11 : Code := { maxStack := 6, maxLocals := 11, code := prog_95_method_21_code, exceptionTable := #[], attributes := #[] }
def k2m11 : Method := { name := "add", desc := "(IIZLcom/example/upright_play/uprightplay/event/Members$Type;I)V", sig := { parameters := [.int, .int, .boolean, (.object "com/example/upright_play/uprightplay/event/Members$Type"), .int], returnType := none }, accessFlags := 2, code := some k2c11 }
def k2c12 : Code := { maxStack := 3, maxLocals := 6, code := prog_95_method_24_code, exceptionTable := #[], attributes := #[] }
def k2m12 : Method := { name := "holds", desc := "(IILjava/lang/String;)Z", sig := { parameters := [.int, .int, (.object "java/lang/String")], returnType := some .boolean }, accessFlags := 2, code := some k2c12 }
def k2c13 : Code := { maxStack := 4, maxLocals := 5, code := prog_95_method_25_code, exceptionTable := #[], attributes := #[] }
def k2m13 : Method := { name := "isNamed", desc := "(ILjava/lang/String;)Z", sig := { parameters := [.int, (.object "java/lang/String")], returnType := some .boolean }, accessFlags := 2, code := some k2c13 }
def k2c14 : Code := { maxStack := 2, maxLocals := 1, code := prog_95_method_26_code, exceptionTable := #[], attributes := #[] }
def k2m14 : Method := { name := "slotOf", desc := "(I)I", sig := { parameters := [.int], returnType := some .int }, accessFlags := 10, code := some k2c14 }
def k2c15 : Code := { maxStack := 2, maxLocals := 1, code := prog_95_method_27_code, exceptionTable := #[], attributes := #[] }
def k2m15 : Method := { name := "next", desc := "(I)I", sig := { parameters := [.int], returnType := some .int }, accessFlags := 10, code := some k2c15 }
def k2c16 : Code := { maxStack := 3, maxLocals := 5, code := prog_95_method_28_code, exceptionTable := #[], attributes := #[] }
def k2m16 : Method := { name := "hash", desc := "(II)I", sig := { parameters := [.int, .int], returnType := some .int }, accessFlags := 2, code := some k2c16 }
def k2c17 : Code := { maxStack := 3, maxLocals := 1, code := prog_95_method_33_code, exceptionTable := #[], attributes := #[] }
def k2m17 : Method := { name := "skipWhitespace", desc := "()V", sig := { parameters := [], returnType := none }, accessFlags := 2, code := some k2c17 }
def k2c18 : Code := { maxStack := 3, maxLocals := 3, code := prog_95_method_34_code, exceptionTable := #[], attributes := #[] }
def k2m18 : Method := { name := "take", desc := "(C)Z", sig := { parameters := [.char], returnType := some .boolean }, accessFlags := 2, code := some k2c18 }
def k2c19 : Code := { maxStack := 2, maxLocals := 2, code := prog_95_method_35_code, exceptionTable := #[], attributes := #[] }
def k2m19 : Method := { name := "expect", desc := "(C)V", sig := { parameters := [.char], returnType := none }, accessFlags := 2, code := some k2c19 }
def k2c20 : Code := { maxStack := 2, maxLocals := 1, code := prog_95_method_37_code, exceptionTable := #[], attributes := #[] }
def k2m20 : Method := { name := "isWhitespace", desc := "(C)Z", sig := { parameters := [.char], returnType := some .boolean }, accessFlags := 10, code := some k2c20 }
def k2c21 : Code := { maxStack := 1, maxLocals := 1, code := prog_95_method_38_code, exceptionTable := #[], attributes := #[] }
def k2m21 : Method := { name := "isDelimiter", desc := "(C)Z", sig := { parameters := [.char], returnType := some .boolean }, accessFlags := 10, code := some k2c21 }
/-- com/example/upright_play/uprightplay/event/Members -/
def k2 : Class := { plain "com/example/upright_play/uprightplay/event/Members" (some 0) with
  accessFlags := 32
  interfaces := #[]
  cf := some (fileOf pool2 1 #[.nestMembers #[25]] #[{ accessFlags := 0, nameIndex := 7, descriptorIndex := 8, attributes := #[] }, { accessFlags := 0, nameIndex := 359, descriptorIndex := 360, attributes := #[] }, { accessFlags := 0, nameIndex := 364, descriptorIndex := 113, attributes := #[] }, { accessFlags := 0, nameIndex := 365, descriptorIndex := 366, attributes := #[] }, { accessFlags := 0, nameIndex := 367, descriptorIndex := 178, attributes := #[] }, { accessFlags := 0, nameIndex := 374, descriptorIndex := 375, attributes := #[] }, { accessFlags := 2, nameIndex := 96, descriptorIndex := 97, attributes := #[] }, { accessFlags := 2, nameIndex := 177, descriptorIndex := 178, attributes := #[] }, { accessFlags := 2, nameIndex := 191, descriptorIndex := 82, attributes := #[] }, { accessFlags := 2, nameIndex := 212, descriptorIndex := 213, attributes := #[] }, { accessFlags := 2, nameIndex := 246, descriptorIndex := 8, attributes := #[] }, { accessFlags := 2, nameIndex := 187, descriptorIndex := 197, attributes := #[] }, { accessFlags := 2, nameIndex := 305, descriptorIndex := 306, attributes := #[] }, { accessFlags := 2, nameIndex := 123, descriptorIndex := 124, attributes := #[] }, { accessFlags := 10, nameIndex := 119, descriptorIndex := 120, attributes := #[] }, { accessFlags := 10, nameIndex := 127, descriptorIndex := 120, attributes := #[] }, { accessFlags := 2, nameIndex := 273, descriptorIndex := 133, attributes := #[] }, { accessFlags := 2, nameIndex := 78, descriptorIndex := 8, attributes := #[] }, { accessFlags := 2, nameIndex := 173, descriptorIndex := 174, attributes := #[] }, { accessFlags := 2, nameIndex := 200, descriptorIndex := 201, attributes := #[] }, { accessFlags := 10, nameIndex := 336, descriptorIndex := 174, attributes := #[] }, { accessFlags := 10, nameIndex := 264, descriptorIndex := 174, attributes := #[] }] 32 4 #[] #[{ accessFlags := 26, nameIndex := 339, descriptorIndex := 54, attributes := #[] }, { accessFlags := 26, nameIndex := 342, descriptorIndex := 54, attributes := #[] }, { accessFlags := 26, nameIndex := 344, descriptorIndex := 345, attributes := #[] }, { accessFlags := 26, nameIndex := 346, descriptorIndex := 54, attributes := #[] }, { accessFlags := 26, nameIndex := 348, descriptorIndex := 54, attributes := #[] }, { accessFlags := 26, nameIndex := 350, descriptorIndex := 54, attributes := #[] }, { accessFlags := 26, nameIndex := 352, descriptorIndex := 353, attributes := #[] }, { accessFlags := 26, nameIndex := 354, descriptorIndex := 353, attributes := #[] }, { accessFlags := 2, nameIndex := 49, descriptorIndex := 50, attributes := #[] }, { accessFlags := 2, nameIndex := 53, descriptorIndex := 54, attributes := #[] }, { accessFlags := 2, nameIndex := 57, descriptorIndex := 58, attributes := #[] }, { accessFlags := 2, nameIndex := 61, descriptorIndex := 54, attributes := #[] }, { accessFlags := 2, nameIndex := 64, descriptorIndex := 54, attributes := #[] }, { accessFlags := 2, nameIndex := 11, descriptorIndex := 12, attributes := #[] }, { accessFlags := 2, nameIndex := 15, descriptorIndex := 12, attributes := #[] }, { accessFlags := 2, nameIndex := 18, descriptorIndex := 12, attributes := #[] }, { accessFlags := 2, nameIndex := 23, descriptorIndex := 24, attributes := #[] }, { accessFlags := 2, nameIndex := 29, descriptorIndex := 30, attributes := #[] }, { accessFlags := 2, nameIndex := 33, descriptorIndex := 12, attributes := #[] }, { accessFlags := 2, nameIndex := 36, descriptorIndex := 12, attributes := #[] }, { accessFlags := 2, nameIndex := 39, descriptorIndex := 12, attributes := #[] }, { accessFlags := 2, nameIndex := 42, descriptorIndex := 12, attributes := #[] }, { accessFlags := 2, nameIndex := 252, descriptorIndex := 54, attributes := #[] }, { accessFlags := 2, nameIndex := 258, descriptorIndex := 54, attributes := #[] }, { accessFlags := 2, nameIndex := 67, descriptorIndex := 68, attributes := #[] }, { accessFlags := 18, nameIndex := 45, descriptorIndex := 46, attributes := #[] }])
  fields := #[{ name := "MAX_DEPTH", type := .int, accessFlags := 26, slot := 0, constantValue := 0 }, { name := "MAX_NUMBER_LENGTH", type := .int, accessFlags := 26, slot := 1, constantValue := 0 }, { name := "BYTE_ORDER_MARK", type := .char, accessFlags := 26, slot := 2, constantValue := 0 }, { name := "SLOTTED_MEMBERS", type := .int, accessFlags := 26, slot := 3, constantValue := 0 }, { name := "SLOT_BITS", type := .int, accessFlags := 26, slot := 4, constantValue := 0 }, { name := "SLOTS", type := .int, accessFlags := 26, slot := 5, constantValue := 0 }, { name := "ESCAPES", type := (.object "java/lang/String"), accessFlags := 26, slot := 6, constantValue := 0 }, { name := "ESCAPED", type := (.object "java/lang/String"), accessFlags := 26, slot := 7, constantValue := 0 }, { name := "line", type := (.array .char), accessFlags := 2, slot := 0, constantValue := 0 }, { name := "length", type := .int, accessFlags := 2, slot := 1, constantValue := 0 }, { name := "lineNumber", type := .long, accessFlags := 2, slot := 2, constantValue := 0 }, { name := "pos", type := .int, accessFlags := 2, slot := 3, constantValue := 0 }, { name := "count", type := .int, accessFlags := 2, slot := 4, constantValue := 0 }, { name := "nameStarts", type := (.array .int), accessFlags := 2, slot := 5, constantValue := 0 }, { name := "nameEnds", type := (.array .int), accessFlags := 2, slot := 6, constantValue := 0 }, { name := "nameHashes", type := (.array .int), accessFlags := 2, slot := 7, constantValue := 0 }, { name := "escapedNames", type := (.array (.object "java/lang/String")), accessFlags := 2, slot := 8, constantValue := 0 }, { name := "types", type := (.array (.object "com/example/upright_play/uprightplay/event/Members$Type")), accessFlags := 2, slot := 9, constantValue := 0 }, { name := "valueStarts", type := (.array .int), accessFlags := 2, slot := 10, constantValue := 0 }, { name := "valueEnds", type := (.array .int), accessFlags := 2, slot := 11, constantValue := 0 }, { name := "integerEnds", type := (.array .int), accessFlags := 2, slot := 12, constantValue := 0 }, { name := "fractionEnds", type := (.array .int), accessFlags := 2, slot := 13, constantValue := 0 }, { name := "integerEnd", type := .int, accessFlags := 2, slot := 14, constantValue := 0 }, { name := "fractionEnd", type := .int, accessFlags := 2, slot := 15, constantValue := 0 }, { name := "index", type := (.object "java/util/Map"), accessFlags := 2, slot := 16, constantValue := 0 }, { name := "slots", type := (.array .byte), accessFlags := 18, slot := 17, constantValue := 0 }]
  methods := #[k2m0, k2m1, k2m2, k2m3, k2m4, k2m5, k2m6, k2m7, k2m8, k2m9, k2m10, k2m11, k2m12, k2m13, k2m14, k2m15, k2m16, k2m17, k2m18, k2m19, k2m20, k2m21]
  instanceTypes := #[(.array .char), .int, .long, .int, .int, (.array .int), (.array .int), (.array .int), (.array (.object "java/lang/String")), (.array (.object "com/example/upright_play/uprightplay/event/Members$Type")), (.array .int), (.array .int), (.array .int), (.array .int), .int, .int, (.object "java/util/Map"), (.array .byte)]
  staticTypes := #[.int, .int, .char, .int, .int, .int, (.object "java/lang/String"), (.object "java/lang/String")]
  resolved := Array.replicate 396 none
  statics := none }

def pool3 : Array CpInfo := pool [(1, .class_ 2), (0, u "java/io/Serializable"), (0, .class_ 4), (0, u "java/lang/Object")] 2

/-- java/io/Serializable -/
def k3 : Class := { plain "java/io/Serializable" (some 0) with
  accessFlags := 1537
  interfaces := #[]
  cf := some (fileOf pool3 1 #[] #[] 1537 3 #[] #[])
  fields := #[]
  methods := #[]
  instanceTypes := #[]
  staticTypes := #[]
  resolved := Array.replicate 7 none
  statics := none }

def pool4 : Array CpInfo := pool [(1, .class_ 2), (0, u "java/lang/Comparable"), (0, .class_ 4), (0, u "java/lang/Object")] 7

/-- java/lang/Comparable -/
def k4 : Class := { plain "java/lang/Comparable" (some 0) with
  accessFlags := 1537
  interfaces := #[]
  cf := some (fileOf pool4 1 #[] #[] 1537 3 #[] #[])
  fields := #[]
  methods := #[]
  instanceTypes := #[]
  staticTypes := #[]
  resolved := Array.replicate 12 none
  statics := none }

def pool5 : Array CpInfo := pool [(2, .class_ 4), (1, u "java/lang/CharSequence"), (42, .class_ 48), (0, u "java/lang/CharSequence$1CodePointIterator"), (10, .class_ 60), (0, u "java/lang/CharSequence$1CharIterator"), (5, .class_ 67), (0, u "java/lang/Object")] 63

/-- java/lang/CharSequence -/
def k5 : Class := { plain "java/lang/CharSequence" (some 0) with
  accessFlags := 1537
  interfaces := #[]
  cf := some (fileOf pool5 2 #[.nestMembers #[47, 59]] #[] 1537 66 #[] #[])
  fields := #[]
  methods := #[]
  instanceTypes := #[]
  staticTypes := #[]
  resolved := Array.replicate 131 none
  statics := none }

def pool6 : Array CpInfo := pool [(1, .class_ 2), (0, u "java/lang/constant/Constable"), (0, .class_ 4), (0, u "java/lang/Object")] 6

/-- java/lang/constant/Constable -/
def k6 : Class := { plain "java/lang/constant/Constable" (some 0) with
  accessFlags := 1537
  interfaces := #[]
  cf := some (fileOf pool6 1 #[] #[] 1537 3 #[] #[])
  fields := #[]
  methods := #[]
  instanceTypes := #[]
  staticTypes := #[]
  resolved := Array.replicate 11 none
  statics := none }

def pool7 : Array CpInfo := pool [(1, .class_ 2), (0, u "java/lang/constant/ConstantDesc"), (0, .class_ 4), (0, u "java/lang/Object")] 32

/-- java/lang/constant/ConstantDesc -/
def k7 : Class := { plain "java/lang/constant/ConstantDesc" (some 0) with
  accessFlags := 1537
  interfaces := #[]
  cf := some (fileOf pool7 1 #[] #[] 1537 3 #[] #[])
  fields := #[]
  methods := #[]
  instanceTypes := #[]
  staticTypes := #[]
  resolved := Array.replicate 37 none
  statics := none }

def pool8 : Array CpInfo := pool [(1, .methodref 2 3), (0, .class_ 4), (0, .nameAndType 5 6), (0, u "java/lang/Object"), (0, u "<init>"), (0, u "()V"), (2, .fieldref 10 11), (0, .class_ 12), (0, .nameAndType 13 14), (0, u "java/lang/String"), (0, u "value"), (0, u "[B"), (0, .fieldref 10 16), (0, .nameAndType 17 18), (0, u "coder"), (0, u "B"), (0, .fieldref 10 20), (0, .nameAndType 21 22), (0, u "hash"), (0, u "I"), (0, .fieldref 10 24), (0, .nameAndType 25 26), (0, u "hashIsZero"), (0, u "Z"), (11, .fieldref 10 39), (0, .nameAndType 40 26), (0, u "COMPACT_STRINGS"), (12, u "toBytes"), (53, .class_ 109), (1, u "java/lang/StringLatin1"), (32, u "()Z"), (66, .methodref 10 210), (0, .nameAndType 5 211), (0, u "([BB)V"), (122, u "()I"), (0, .methodref 10 336), (0, .nameAndType 17 337), (0, u "()B"), (25, u "([BI)C"), (5, u "(C)Z"), (21, u "(II)V"), (35, u "(I)C"), (64, .methodref 10 493), (0, .nameAndType 494 142), (0, u "isLatin1"), (0, .methodref 107 496), (0, .nameAndType 497 363), (0, u "charAt"), (3, u "checkIndex"), (5, u "length"), (67, .class_ 576), (0, u "java/lang/CharSequence"), (22, u "CASE_INSENSITIVE_ORDER"), (0, u "Ljava/util/Comparator;"), (27, .methodref 107 629), (0, .nameAndType 630 631), (0, u "hashCode"), (0, u "([B)I"), (150, u "valueOf"), (0, u "(C)Ljava/lang/String;"), (231, .methodref 107 1016), (0, .nameAndType 1017 369), (0, u "canEncode"), (0, .methodref 107 1019), (0, .nameAndType 53 1020), (0, u "(C)[B"), (32, .fieldref 1054 1055), (0, .class_ 1056), (0, .nameAndType 1057 1058), (0, u "jdk/internal/util/Preconditions"), (0, u "SIOOBE_FORMATTER"), (0, u "Ljava/util/function/BiFunction;"), (0, .methodref 1054 1060), (0, .nameAndType 501 1061), (0, u "(IILjava/util/function/BiFunction;)I"), (39, u "serialPersistentFields"), (0, u "[Ljava/io/ObjectStreamField;"), (0, .class_ 1104), (0, u "java/lang/String$CaseInsensitiveComparator"), (1, .class_ 1107), (0, u "java/io/Serializable"), (0, .class_ 1109), (0, u "java/lang/Comparable"), (0, .class_ 1111), (0, u "java/lang/constant/Constable"), (0, .class_ 1113), (0, u "java/lang/constant/ConstantDesc"), (2, u "serialVersionUID"), (0, u "J"), (3, u "REPL"), (0, u "C"), (2, u "LATIN1"), (1, u "UTF16")] 323

def k8m0 : Method := { name := "<init>", desc := "()V", sig := { parameters := [], returnType := none }, accessFlags := 1, code := none }
def k8c1 : Code := { maxStack := 2, maxLocals := 1, code := jdk_42_method_54_code, exceptionTable := #[], attributes := #[] }
def k8m1 : Method := { name := "length", desc := "()I", sig := { parameters := [], returnType := some .int }, accessFlags := 1, code := some k8c1 }
def k8c2 : Code := { maxStack := 2, maxLocals := 2, code := jdk_42_method_56_code, exceptionTable := #[], attributes := #[] }
def k8m2 : Method := { name := "charAt", desc := "(I)C", sig := { parameters := [.int], returnType := some .char }, accessFlags := 1, code := some k8c2 }
def k8c3 : Code := { maxStack := 2, maxLocals := 2, code := jdk_42_method_78_code, exceptionTable := #[], attributes := #[] }
def k8m3 : Method := { name := "hashCode", desc := "()I", sig := { parameters := [], returnType := some .int }, accessFlags := 1, code := some k8c3 }
def k8c4 : Code := { maxStack := 4, maxLocals := 1, code := jdk_42_method_139_code, exceptionTable := #[], attributes := #[] }
def k8m4 : Method := { name := "valueOf", desc := "(C)Ljava/lang/String;", sig := { parameters := [.char], returnType := some (.object "java/lang/String") }, accessFlags := 9, code := some k8c4 }
def k8c5 : Code := { maxStack := 2, maxLocals := 3, code := jdk_42_method_151_code, exceptionTable := #[], attributes := #[] }
def k8m5 : Method := { name := "<init>", desc := "([BB)V", sig := { parameters := [(.array .byte), .byte], returnType := none }, accessFlags := 0, code := some k8c5 }
def k8c6 : Code := { maxStack := 1, maxLocals := 1, code := jdk_42_method_152_code, exceptionTable := #[], attributes := #[] }
def k8m6 : Method := { name := "coder", desc := "()B", sig := { parameters := [], returnType := some .byte }, accessFlags := 0, code := some k8c6 }
def k8c7 : Code := { maxStack := 1, maxLocals := 1, code := jdk_42_method_154_code, exceptionTable := #[], attributes := #[] }
def k8m7 : Method := { name := "isLatin1", desc := "()Z", sig := { parameters := [], returnType := some .boolean }, accessFlags := 0, code := some k8c7 }
def k8c8 : Code := { maxStack := 3, maxLocals := 2, code := jdk_42_method_155_code, exceptionTable := #[], attributes := #[] }
def k8m8 : Method := { name := "checkIndex", desc := "(II)V", sig := { parameters := [.int, .int], returnType := none }, accessFlags := 8, code := some k8c8 }
/-- java/lang/String -/
def k8 : Class := { plain "java/lang/String" (some 0) with
  accessFlags := 49
  interfaces := #[3, 4, 5, 6, 7]
  cf := some (fileOf pool8 10 #[.nestMembers #[1103]] #[{ accessFlags := 1, nameIndex := 5, descriptorIndex := 6, attributes := #[] }, { accessFlags := 1, nameIndex := 507, descriptorIndex := 334, attributes := #[] }, { accessFlags := 1, nameIndex := 497, descriptorIndex := 427, attributes := #[] }, { accessFlags := 1, nameIndex := 630, descriptorIndex := 334, attributes := #[] }, { accessFlags := 9, nameIndex := 782, descriptorIndex := 783, attributes := #[] }, { accessFlags := 0, nameIndex := 5, descriptorIndex := 211, attributes := #[] }, { accessFlags := 0, nameIndex := 17, descriptorIndex := 337, attributes := #[] }, { accessFlags := 0, nameIndex := 494, descriptorIndex := 142, attributes := #[] }, { accessFlags := 8, nameIndex := 501, descriptorIndex := 391, attributes := #[] }] 49 2 #[1106, 1108, 575, 1110, 1112] #[{ accessFlags := 18, nameIndex := 13, descriptorIndex := 14, attributes := #[] }, { accessFlags := 18, nameIndex := 17, descriptorIndex := 18, attributes := #[] }, { accessFlags := 2, nameIndex := 21, descriptorIndex := 22, attributes := #[] }, { accessFlags := 2, nameIndex := 25, descriptorIndex := 26, attributes := #[] }, { accessFlags := 26, nameIndex := 1116, descriptorIndex := 1117, attributes := #[] }, { accessFlags := 24, nameIndex := 40, descriptorIndex := 26, attributes := #[] }, { accessFlags := 26, nameIndex := 1101, descriptorIndex := 1102, attributes := #[] }, { accessFlags := 26, nameIndex := 1121, descriptorIndex := 1122, attributes := #[] }, { accessFlags := 25, nameIndex := 599, descriptorIndex := 600, attributes := #[] }, { accessFlags := 24, nameIndex := 1125, descriptorIndex := 18, attributes := #[] }, { accessFlags := 24, nameIndex := 1127, descriptorIndex := 18, attributes := #[] }])
  fields := #[{ name := "value", type := (.array .byte), accessFlags := 18, slot := 0, constantValue := 0 }, { name := "coder", type := .byte, accessFlags := 18, slot := 1, constantValue := 0 }, { name := "hash", type := .int, accessFlags := 2, slot := 2, constantValue := 0 }, { name := "hashIsZero", type := .boolean, accessFlags := 2, slot := 3, constantValue := 0 }, { name := "serialVersionUID", type := .long, accessFlags := 26, slot := 0, constantValue := 0 }, { name := "COMPACT_STRINGS", type := .boolean, accessFlags := 24, slot := 1, constantValue := 0 }, { name := "serialPersistentFields", type := (.array (.object "java/io/ObjectStreamField")), accessFlags := 26, slot := 2, constantValue := 0 }, { name := "REPL", type := .char, accessFlags := 26, slot := 3, constantValue := 0 }, { name := "CASE_INSENSITIVE_ORDER", type := (.object "java/util/Comparator"), accessFlags := 25, slot := 4, constantValue := 0 }, { name := "LATIN1", type := .byte, accessFlags := 24, slot := 5, constantValue := 0 }, { name := "UTF16", type := .byte, accessFlags := 24, slot := 6, constantValue := 0 }]
  methods := #[k8m0, k8m1, k8m2, k8m3, k8m4, k8m5, k8m6, k8m7, k8m8]
  instanceTypes := #[(.array .byte), .byte, .int, .boolean]
  staticTypes := #[.long, .boolean, (.array (.object "java/io/ObjectStreamField")), .char, (.object "java/util/Comparator"), .byte, .byte]
  resolved := Array.replicate 1451 none
  statics := some 0 }

def pool9 : Array CpInfo := pool [(2, .class_ 4), (1, u "java/lang/Enum"), (0, u "name"), (0, u "Ljava/lang/String;"), (2, u "ordinal"), (0, u "I"), (1, .class_ 14), (1, u "java/lang/Object"), (4, u "hash"), (86, .class_ 108), (1, u "java/lang/Enum$EnumDesc"), (2, .class_ 112), (0, u "java/lang/constant/Constable"), (0, .class_ 114), (0, u "java/lang/Comparable"), (0, .class_ 116), (0, u "java/io/Serializable")] 87

/-- java/lang/Enum -/
def k9 : Class := { plain "java/lang/Enum" (some 0) with
  accessFlags := 1057
  interfaces := #[6, 4, 3]
  cf := some (fileOf pool9 2 #[.nestMembers #[106]] #[] 1057 12 #[111, 113, 115] #[{ accessFlags := 18, nameIndex := 5, descriptorIndex := 6, attributes := #[] }, { accessFlags := 18, nameIndex := 9, descriptorIndex := 10, attributes := #[] }, { accessFlags := 2, nameIndex := 19, descriptorIndex := 10, attributes := #[] }])
  fields := #[{ name := "name", type := (.object "java/lang/String"), accessFlags := 18, slot := 0, constantValue := 0 }, { name := "ordinal", type := .int, accessFlags := 18, slot := 1, constantValue := 0 }, { name := "hash", type := .int, accessFlags := 2, slot := 2, constantValue := 0 }]
  methods := #[]
  instanceTypes := #[(.object "java/lang/String"), .int, .int]
  staticTypes := #[]
  resolved := Array.replicate 204 none
  statics := none }

def pool10 : Array CpInfo := pool [(1, .class_ 2), (0, u "com/example/upright_play/uprightplay/event/Members$Type"), (2, u "STRING"), (0, u "Lcom/example/upright_play/uprightplay/event/Members$Type;"), (2, u "NUMBER"), (2, u "BOOLEAN"), (2, u "NULL"), (2, u "ARRAY"), (2, u "OBJECT"), (2, u "$VALUES"), (0, u "[Lcom/example/upright_play/uprightplay/event/Members$Type;"), (6, .class_ 34), (1, u "java/lang/Enum"), (29, .class_ 65), (0, u "com/example/upright_play/uprightplay/event/Members")] 2

/-- com/example/upright_play/uprightplay/event/Members$Type -/
def k10 : Class := { plain "com/example/upright_play/uprightplay/event/Members$Type" (some 9) with
  accessFlags := 16432
  interfaces := #[]
  cf := some (fileOf pool10 1 #[.nestHost 64] #[] 16432 32 #[] #[{ accessFlags := 16409, nameIndex := 5, descriptorIndex := 6, attributes := #[] }, { accessFlags := 16409, nameIndex := 9, descriptorIndex := 6, attributes := #[] }, { accessFlags := 16409, nameIndex := 12, descriptorIndex := 6, attributes := #[] }, { accessFlags := 16409, nameIndex := 15, descriptorIndex := 6, attributes := #[] }, { accessFlags := 16409, nameIndex := 18, descriptorIndex := 6, attributes := #[] }, { accessFlags := 16409, nameIndex := 21, descriptorIndex := 6, attributes := #[] }, { accessFlags := 4122, nameIndex := 24, descriptorIndex := 25, attributes := #[] }])
  fields := #[{ name := "STRING", type := (.object "com/example/upright_play/uprightplay/event/Members$Type"), accessFlags := 16409, slot := 0, constantValue := 0 }, { name := "NUMBER", type := (.object "com/example/upright_play/uprightplay/event/Members$Type"), accessFlags := 16409, slot := 1, constantValue := 0 }, { name := "BOOLEAN", type := (.object "com/example/upright_play/uprightplay/event/Members$Type"), accessFlags := 16409, slot := 2, constantValue := 0 }, { name := "NULL", type := (.object "com/example/upright_play/uprightplay/event/Members$Type"), accessFlags := 16409, slot := 3, constantValue := 0 }, { name := "ARRAY", type := (.object "com/example/upright_play/uprightplay/event/Members$Type"), accessFlags := 16409, slot := 4, constantValue := 0 }, { name := "OBJECT", type := (.object "com/example/upright_play/uprightplay/event/Members$Type"), accessFlags := 16409, slot := 5, constantValue := 0 }, { name := "$VALUES", type := (.array (.object "com/example/upright_play/uprightplay/event/Members$Type")), accessFlags := 4122, slot := 6, constantValue := 0 }]
  methods := #[]
  instanceTypes := #[(.object "java/lang/String"), .int, .int]
  staticTypes := #[(.object "com/example/upright_play/uprightplay/event/Members$Type"), (.object "com/example/upright_play/uprightplay/event/Members$Type"), (.object "com/example/upright_play/uprightplay/event/Members$Type"), (.object "com/example/upright_play/uprightplay/event/Members$Type"), (.object "com/example/upright_play/uprightplay/event/Members$Type"), (.object "com/example/upright_play/uprightplay/event/Members$Type"), (.array (.object "com/example/upright_play/uprightplay/event/Members$Type"))]
  resolved := Array.replicate 68 none
  statics := some 1 }

def pool11 : Array CpInfo := pool [(2, .class_ 4), (1, u "java/lang/Object"), (0, u "<init>"), (0, u "()V"), (7, .class_ 16), (1, u "java/util/Arrays"), (57, .class_ 76), (1, u "java/util/Arrays$NaturalOrder"), (36, .class_ 115), (1, u "java/util/Arrays$LegacyMergeSort"), (1, u "Z"), (257, .class_ 376), (0, u "java/util/Arrays$ArrayList"), (68, u "$assertionsDisabled"), (269, u "MIN_ARRAY_SORT_GRAN"), (0, u "I"), (2, u "INSERTIONSORT_THRESHOLD"), (120, u "fill"), (9, u "([BB)V"), (124, .class_ 976), (0, u "java/util/Arrays$ArrayItr")] 52

def k11m0 : Method := { name := "<init>", desc := "()V", sig := { parameters := [], returnType := none }, accessFlags := 2, code := none }
def k11c1 : Code := { maxStack := 3, maxLocals := 4, code := jdk_65_method_109_code, exceptionTable := #[], attributes := #[] }
def k11m1 : Method := { name := "fill", desc := "([BB)V", sig := { parameters := [(.array .byte), .byte], returnType := none }, accessFlags := 9, code := some k11c1 }
/-- java/util/Arrays -/
def k11 : Class := { plain "java/util/Arrays" (some 0) with
  accessFlags := 49
  interfaces := #[]
  cf := some (fileOf pool11 14 #[.nestMembers #[975, 375, 113, 74]] #[{ accessFlags := 2, nameIndex := 5, descriptorIndex := 6, attributes := #[] }, { accessFlags := 9, nameIndex := 840, descriptorIndex := 850, attributes := #[] }] 49 2 #[] #[{ accessFlags := 26, nameIndex := 715, descriptorIndex := 716, attributes := #[] }, { accessFlags := 26, nameIndex := 719, descriptorIndex := 716, attributes := #[] }, { accessFlags := 4120, nameIndex := 445, descriptorIndex := 117, attributes := #[] }])
  fields := #[{ name := "MIN_ARRAY_SORT_GRAN", type := .int, accessFlags := 26, slot := 0, constantValue := 0 }, { name := "INSERTIONSORT_THRESHOLD", type := .int, accessFlags := 26, slot := 1, constantValue := 0 }, { name := "$assertionsDisabled", type := .boolean, accessFlags := 4120, slot := 2, constantValue := 0 }]
  methods := #[k11m0, k11m1]
  instanceTypes := #[]
  staticTypes := #[.int, .int, .boolean]
  resolved := Array.replicate 1029 none
  statics := none }

def pool12 : Array CpInfo := pool [(1, .class_ 2), (0, u "java/lang/String"), (1, .class_ 6), (1, u "java/lang/Object"), (0, u "<init>"), (0, u "()V"), (0, .methodref 1 10), (0, .nameAndType 11 12), (0, u "checkIndex"), (0, u "(II)V"), (1, .class_ 16), (1, u "java/lang/StringLatin1"), (36, u "([BI)C"), (3, u "([B)I"), (32, u "canEncode"), (14, u "(C)Z"), (15, u "$assertionsDisabled"), (0, u "Z"), (98, .class_ 223), (1, u "java/lang/StringLatin1$LinesSpliterator"), (28, u "charAt"), (45, u "hashCode"), (81, u "toBytes"), (1, u "(C)[B"), (7, .class_ 391), (0, u "java/lang/StringLatin1$CharsSpliterator")] 3

def k12m0 : Method := { name := "<init>", desc := "()V", sig := { parameters := [], returnType := none }, accessFlags := 0, code := none }
def k12c1 : Code := { maxStack := 2, maxLocals := 2, code := jdk_43_method_2_code, exceptionTable := #[], attributes := #[] }
def k12m1 : Method := { name := "charAt", desc := "([BI)C", sig := { parameters := [(.array .byte), .int], returnType := some .char }, accessFlags := 9, code := some k12c1 }
def k12c2 : Code := { maxStack := 2, maxLocals := 1, code := jdk_43_method_3_code, exceptionTable := #[], attributes := #[] }
def k12m2 : Method := { name := "canEncode", desc := "(C)Z", sig := { parameters := [.char], returnType := some .boolean }, accessFlags := 9, code := some k12c2 }
def k12c3 : Code := { maxStack := 5, maxLocals := 1, code := jdk_43_method_21_code, exceptionTable := #[], attributes := #[] }
def k12m3 : Method := { name := "hashCode", desc := "([B)I", sig := { parameters := [(.array .byte)], returnType := some .int }, accessFlags := 9, code := some k12c3 }
def k12c4 : Code := { maxStack := 4, maxLocals := 1, code := jdk_43_method_46_code, exceptionTable := #[], attributes := #[] }
def k12m4 : Method := { name := "toBytes", desc := "(C)[B", sig := { parameters := [.char], returnType := some (.array .byte) }, accessFlags := 9, code := some k12c4 }
/-- java/lang/StringLatin1 -/
def k12 : Class := { plain "java/lang/StringLatin1" (some 0) with
  accessFlags := 48
  interfaces := #[]
  cf := some (fileOf pool12 14 #[.nestMembers #[390, 221]] #[{ accessFlags := 0, nameIndex := 7, descriptorIndex := 8, attributes := #[] }, { accessFlags := 9, nameIndex := 252, descriptorIndex := 53, attributes := #[] }, { accessFlags := 9, nameIndex := 90, descriptorIndex := 105, attributes := #[] }, { accessFlags := 9, nameIndex := 298, descriptorIndex := 57, attributes := #[] }, { accessFlags := 9, nameIndex := 380, descriptorIndex := 382, attributes := #[] }] 48 4 #[] #[{ accessFlags := 4120, nameIndex := 121, descriptorIndex := 122, attributes := #[] }])
  fields := #[{ name := "$assertionsDisabled", type := .boolean, accessFlags := 4120, slot := 0, constantValue := 0 }]
  methods := #[k12m0, k12m1, k12m2, k12m3, k12m4]
  instanceTypes := #[]
  staticTypes := #[.boolean]
  resolved := Array.replicate 395 none
  statics := none }

def pool13 : Array CpInfo := pool [(2, .class_ 4), (1, u "java/lang/Object"), (0, u "<init>"), (0, u "()V"), (17, .class_ 26), (1, u "jdk/internal/util/Preconditions"), (6, u "checkIndex"), (21, .class_ 56), (0, u "jdk/internal/util/Preconditions$4"), (57, .class_ 115), (0, u "jdk/internal/util/Preconditions$1"), (7, u "SIOOBE_FORMATTER"), (0, u "Ljava/util/function/BiFunction;"), (0, .class_ 126), (0, u "jdk/internal/util/Preconditions$2"), (3, u "AIOOBE_FORMATTER"), (0, .class_ 132), (0, u "jdk/internal/util/Preconditions$3"), (3, u "IOOBE_FORMATTER"), (41, u "(IILjava/util/function/BiFunction;)I")] 15

def k13m0 : Method := { name := "<init>", desc := "()V", sig := { parameters := [], returnType := none }, accessFlags := 1, code := none }
def k13c1 : Code := { maxStack := 3, maxLocals := 3, code := jdk_41_method_11_code, exceptionTable := #[], attributes := #[] }
def k13m1 : Method := { name := "checkIndex", desc := "(IILjava/util/function/BiFunction;)I", sig := { parameters := [.int, .int, (.object "java/util/function/BiFunction")], returnType := some .int }, accessFlags := 9, code := some k13c1 }
/-- jdk/internal/util/Preconditions -/
def k13 : Class := { plain "jdk/internal/util/Preconditions" (some 0) with
  accessFlags := 33
  interfaces := #[]
  cf := some (fileOf pool13 24 #[.nestMembers #[55, 131, 125, 114]] #[{ accessFlags := 1, nameIndex := 5, descriptorIndex := 6, attributes := #[] }, { accessFlags := 9, nameIndex := 33, descriptorIndex := 178, attributes := #[] }] 33 2 #[] #[{ accessFlags := 25, nameIndex := 123, descriptorIndex := 124, attributes := #[] }, { accessFlags := 25, nameIndex := 130, descriptorIndex := 124, attributes := #[] }, { accessFlags := 25, nameIndex := 136, descriptorIndex := 124, attributes := #[] }])
  fields := #[{ name := "SIOOBE_FORMATTER", type := (.object "java/util/function/BiFunction"), accessFlags := 25, slot := 0, constantValue := 0 }, { name := "AIOOBE_FORMATTER", type := (.object "java/util/function/BiFunction"), accessFlags := 25, slot := 1, constantValue := 0 }, { name := "IOOBE_FORMATTER", type := (.object "java/util/function/BiFunction"), accessFlags := 25, slot := 2, constantValue := 0 }]
  methods := #[k13m0, k13m1]
  instanceTypes := #[]
  staticTypes := #[(.object "java/util/function/BiFunction"), (.object "java/util/function/BiFunction"), (.object "java/util/function/BiFunction")]
  resolved := Array.replicate 194 none
  statics := some 2 }

def pool14 : Array CpInfo := pool [(9, u "<init>"), (6, .class_ 18), (1, u "java/lang/Object"), (0, u "()V"), (1, .class_ 23), (1, u "jdk/internal/util/ArraysSupport"), (0, u "LOG2_ARRAY_LONG_INDEX_SCALE"), (0, u "I"), (2, u "U"), (0, u "Ljdk/internal/misc/Unsafe;"), (8, u "BIG_ENDIAN"), (0, u "Z"), (8, u "LOG2_BYTE_BIT_SIZE"), (4, u "LOG2_ARRAY_INT_INDEX_SCALE"), (54, u "JLA"), (0, u "Ljdk/internal/access/JavaLangAccess;"), (11, u "LOG2_ARRAY_BOOLEAN_INDEX_SCALE"), (9, u "LOG2_ARRAY_BYTE_INDEX_SCALE"), (5, u "LOG2_ARRAY_CHAR_INDEX_SCALE"), (5, u "LOG2_ARRAY_SHORT_INDEX_SCALE"), (18, u "LOG2_ARRAY_FLOAT_INDEX_SCALE"), (24, u "LOG2_ARRAY_DOUBLE_INDEX_SCALE"), (89, u "T_BOOLEAN"), (2, u "T_CHAR"), (1, u "T_FLOAT"), (1, u "T_DOUBLE"), (1, u "T_BYTE"), (1, u "T_SHORT"), (1, u "T_INT"), (1, u "T_LONG"), (1, u "SOFT_MAX_ARRAY_LENGTH")] 83

def k14m0 : Method := { name := "<init>", desc := "()V", sig := { parameters := [], returnType := none }, accessFlags := 2, code := none }
/-- jdk/internal/util/ArraysSupport -/
def k14 : Class := { plain "jdk/internal/util/ArraysSupport" (some 0) with
  accessFlags := 33
  interfaces := #[]
  cf := some (fileOf pool14 21 #[] #[{ accessFlags := 2, nameIndex := 9, descriptorIndex := 19, attributes := #[] }] 33 16 #[] #[{ accessFlags := 24, nameIndex := 28, descriptorIndex := 29, attributes := #[] }, { accessFlags := 26, nameIndex := 38, descriptorIndex := 39, attributes := #[] }, { accessFlags := 25, nameIndex := 121, descriptorIndex := 25, attributes := #[] }, { accessFlags := 25, nameIndex := 131, descriptorIndex := 25, attributes := #[] }, { accessFlags := 25, nameIndex := 137, descriptorIndex := 25, attributes := #[] }, { accessFlags := 25, nameIndex := 143, descriptorIndex := 25, attributes := #[] }, { accessFlags := 25, nameIndex := 53, descriptorIndex := 25, attributes := #[] }, { accessFlags := 25, nameIndex := 24, descriptorIndex := 25, attributes := #[] }, { accessFlags := 25, nameIndex := 162, descriptorIndex := 25, attributes := #[] }, { accessFlags := 25, nameIndex := 187, descriptorIndex := 25, attributes := #[] }, { accessFlags := 26, nameIndex := 48, descriptorIndex := 25, attributes := #[] }, { accessFlags := 25, nameIndex := 277, descriptorIndex := 25, attributes := #[] }, { accessFlags := 25, nameIndex := 280, descriptorIndex := 25, attributes := #[] }, { accessFlags := 25, nameIndex := 282, descriptorIndex := 25, attributes := #[] }, { accessFlags := 25, nameIndex := 284, descriptorIndex := 25, attributes := #[] }, { accessFlags := 25, nameIndex := 286, descriptorIndex := 25, attributes := #[] }, { accessFlags := 25, nameIndex := 288, descriptorIndex := 25, attributes := #[] }, { accessFlags := 25, nameIndex := 290, descriptorIndex := 25, attributes := #[] }, { accessFlags := 25, nameIndex := 292, descriptorIndex := 25, attributes := #[] }, { accessFlags := 26, nameIndex := 108, descriptorIndex := 109, attributes := #[] }, { accessFlags := 25, nameIndex := 294, descriptorIndex := 25, attributes := #[] }])
  fields := #[{ name := "U", type := (.object "jdk/internal/misc/Unsafe"), accessFlags := 24, slot := 0, constantValue := 0 }, { name := "BIG_ENDIAN", type := .boolean, accessFlags := 26, slot := 1, constantValue := 0 }, { name := "LOG2_ARRAY_BOOLEAN_INDEX_SCALE", type := .int, accessFlags := 25, slot := 2, constantValue := 0 }, { name := "LOG2_ARRAY_BYTE_INDEX_SCALE", type := .int, accessFlags := 25, slot := 3, constantValue := 0 }, { name := "LOG2_ARRAY_CHAR_INDEX_SCALE", type := .int, accessFlags := 25, slot := 4, constantValue := 0 }, { name := "LOG2_ARRAY_SHORT_INDEX_SCALE", type := .int, accessFlags := 25, slot := 5, constantValue := 0 }, { name := "LOG2_ARRAY_INT_INDEX_SCALE", type := .int, accessFlags := 25, slot := 6, constantValue := 0 }, { name := "LOG2_ARRAY_LONG_INDEX_SCALE", type := .int, accessFlags := 25, slot := 7, constantValue := 0 }, { name := "LOG2_ARRAY_FLOAT_INDEX_SCALE", type := .int, accessFlags := 25, slot := 8, constantValue := 0 }, { name := "LOG2_ARRAY_DOUBLE_INDEX_SCALE", type := .int, accessFlags := 25, slot := 9, constantValue := 0 }, { name := "LOG2_BYTE_BIT_SIZE", type := .int, accessFlags := 26, slot := 10, constantValue := 0 }, { name := "T_BOOLEAN", type := .int, accessFlags := 25, slot := 11, constantValue := 0 }, { name := "T_CHAR", type := .int, accessFlags := 25, slot := 12, constantValue := 0 }, { name := "T_FLOAT", type := .int, accessFlags := 25, slot := 13, constantValue := 0 }, { name := "T_DOUBLE", type := .int, accessFlags := 25, slot := 14, constantValue := 0 }, { name := "T_BYTE", type := .int, accessFlags := 25, slot := 15, constantValue := 0 }, { name := "T_SHORT", type := .int, accessFlags := 25, slot := 16, constantValue := 0 }, { name := "T_INT", type := .int, accessFlags := 25, slot := 17, constantValue := 0 }, { name := "T_LONG", type := .int, accessFlags := 25, slot := 18, constantValue := 0 }, { name := "JLA", type := (.object "jdk/internal/access/JavaLangAccess"), accessFlags := 26, slot := 19, constantValue := 0 }, { name := "SOFT_MAX_ARRAY_LENGTH", type := .int, accessFlags := 25, slot := 20, constantValue := 0 }]
  methods := #[k14m0]
  instanceTypes := #[]
  staticTypes := #[(.object "jdk/internal/misc/Unsafe"), .boolean, .int, .int, .int, .int, .int, .int, .int, .int, .int, .int, .int, .int, .int, .int, .int, .int, .int, (.object "jdk/internal/access/JavaLangAccess"), .int]
  resolved := Array.replicate 378 none
  statics := none }

def pool15 : Array CpInfo := pool [(1, u "java/lang/Cloneable"), (0, .class_ 1), (0, u "java/lang/Object"), (0, .class_ 3)] 3

/-- java/lang/Cloneable -/
def k15 : Class := { plain "java/lang/Cloneable" (some 0) with
  accessFlags := 1537
  interfaces := #[]
  cf := some (fileOf pool15 2 #[] #[] 1537 4 #[] #[])
  fields := #[]
  methods := #[]
  instanceTypes := #[]
  staticTypes := #[]
  resolved := Array.replicate 8 none
  statics := none }

/-- the primitive byte -/
def k16 : Class := { plain "byte" none with kind := .primitive 'B', accessFlags := 0x411 }
/-- [B -/
def k17 : Class := { plain "[B" (some 0) with kind := .array 16 .byte, interfaces := #[15, 3], accessFlags := 1041 }

/-- the primitive char -/
def k18 : Class := { plain "char" none with kind := .primitive 'C', accessFlags := 0x411 }
/-- [C -/
def k19 : Class := { plain "[C" (some 0) with kind := .array 18 .char, interfaces := #[15, 3], accessFlags := 1041 }

/-- the primitive int -/
def k20 : Class := { plain "int" none with kind := .primitive 'I', accessFlags := 0x411 }
/-- [I -/
def k21 : Class := { plain "[I" (some 0) with kind := .array 20 .int, interfaces := #[15, 3], accessFlags := 1041 }

/-- [Lcom/example/upright_play/uprightplay/event/Members$Type; -/
def k22 : Class := { plain "[Lcom/example/upright_play/uprightplay/event/Members$Type;" (some 0) with kind := .array 10 (.object "com/example/upright_play/uprightplay/event/Members$Type"), interfaces := #[15, 3], accessFlags := 1041 }

/-- [Ljava/lang/String; -/
def k23 : Class := { plain "[Ljava/lang/String;" (some 0) with kind := .array 8 (.object "java/lang/String"), interfaces := #[15, 3], accessFlags := 1041 }

def heap : Heap := #[{ cls := 8, slots := #[.long 0, .int 1, .null, .int 0, .null, .int 0, .int 0], vm := .statics 8 },
  { cls := 10, slots := #[.null, .null, .ref 3, .null, .null, .null, .null], vm := .statics 10 },
  { cls := 13, slots := #[.null, .null, .null], vm := .statics 13 },
  { cls := 10, slots := #[.null, .int 3, .int 0], vm := .none }]
def classes : Array Class := #[k0, k1, k2, k3, k4, k5, k6, k7, k8, k9, k10, k11, k12, k13, k14, k15, k16, k17, k18, k19, k20, k21, k22, k23]
def interned : List (Array UInt16 × Addr) := []
def slotsUsed : Nat := 20
def theMethod : MethodId := ⟨1, 4⟩
def args0 : Array Value := #[.int 5, .int 6, .int 7, .int 8]
def aboutOver (below : List Frame) : State where
  vm := { classes := classes, interned := interned.toArray }
  heap := heap
  slotsUsed := slotsUsed
  threads := #[{ frames := .invoking theMethod args0 :: below }]
def below0 : List Frame := [.native { method := ⟨0, 0⟩, args := #[] }]
def about1 : State := aboutOver below0
def p0 : Program := .bare "" "" ""
def e0 : Env := launch0.env 0 0 0
theorem w_frames : about1.frames = Frame.invoking theMethod args0 :: below0 := rfl
set_option maxRecDepth 65536 in
theorem w_args : argsFit about1.vm theMethod args0 = true := by decide +kernel
set_option maxRecDepth 65536 in
theorem w_heap : heapFits about1 = true := by decide +kernel
set_option maxRecDepth 65536 in
theorem w_runnable : about1.curStatus? = some .runnable := by decide +kernel
set_option maxRecDepth 65536 in
theorem w_alone : about1.alone = true := by decide +kernel
set_option maxRecDepth 65536 in
theorem w_named : about1.methodNamed? x = some theMethod := by decide +kernel
set_option maxRecDepth 65536 in
theorem w_hears : about1.hears theMethod below0 = true := by decide +kernel
set_option maxRecDepth 65536 in
theorem w_ripe : about1.ripe theMethod args0 below0 = true := by decide +kernel
theorem w_running : about1.status = .running := rfl
set_option maxRecDepth 65536 in
theorem w_room : about1.hasRoom e0.platform room_1 = true :=
  launch0.hasRoom_least _ room_1 (by decide +kernel) (by decide +kernel) (by decide +kernel) (by decide +kernel) (by decide +kernel) (by decide +kernel)
theorem allAtoms_all (ts : List Jvm.Cond) (a : Array Jvm.Value) (st : Jvm.State) : (allAtoms ts).before a st = ts.all (fun c => c.before a st) := by
  induction ts with
  | nil => rfl
  | cons c t ih =>
    show (Jvm.Cond.and c (allAtoms t)).before a st = _
    rw [Jvm.Cond.before_and, ih, List.all_cons]
def words1 : List Jvm.Cond := Jvm.Cond.code x code maxLocals ret :: tables_1
/-- a 'code' word, met by the world's own term for the bytes: nothing is compared byte by byte -/
theorem code_word {y : MethodName} {bytes : ByteArray} {mx : Nat} {rt : Option FieldType} {a : Array Value} {s : State} {m : MethodId} {meth : Method} {c : Code} (h1 : s.methodNamed? y = some m) (h2 : s.vm.method? m = some meth) (h3 : meth.code = some c) (h4 : c.code = bytes)
    (h5 : (c.maxLocals == mx && c.exceptionTable.isEmpty && decide (c.maxStack ≤ mostOperands) && decide (meth.sig.returnType = rt) && !meth.locks && decide (parseMethodDescriptor y.desc = some meth.sig)) = true) : (Jvm.Cond.code y bytes mx rt).before a s = true := by
  simp only [Bool.and_eq_true, beq_iff_eq, Bool.not_eq_true', decide_eq_true_eq] at h5
  obtain ⟨⟨⟨⟨⟨g1, g2⟩, g3⟩, g4⟩, g5⟩, g6⟩ := h5
  simp [Cond.before, Cond.holds, Cond.value, h1, h2, h3, h4, g1, g2, g3, g4, g5, g6]
def isCode : Jvm.Cond → Bool
  | .code _ _ _ _ => true
  | _ => false
theorem all_split {L : List Jvm.Cond} {P : Jvm.Cond → Bool} (h1 : L.all (fun c => isCode c || P c) = true) (h2 : ∀ c ∈ L.filter isCode, P c = true) : L.all P = true := by
  refine List.all_eq_true.mpr fun c hc => ?_
  have h := List.all_eq_true.mp h1 c hc
  rcases Bool.eq_false_or_eq_true (isCode c) with hi | hi
  · exact h2 c (List.mem_filter.mpr ⟨hc, hi⟩)
  · simpa [hi] using h
set_option maxRecDepth 65536 in
theorem w_c0 : (Jvm.Cond.code x code maxLocals ret).before args0 about1 = true := code_word (m := ⟨1, 4⟩) (meth := k1m4) (c := k1c4) (by decide +kernel) rfl rfl rfl (by decide +kernel)
set_option maxRecDepth 65536 in
theorem w_c1 : (Jvm.Cond.code ({ cls := "com/example/upright_play/uprightplay/event/MembersBoolPinLaw", name := "nameChar", desc := "(I)C" } : Jvm.MethodName) method_2_code (2 : Nat) (Option.some Jvm.ClassFile.FieldType.char)).before args0 about1 = true := code_word (m := ⟨1, 1⟩) (meth := k1m1) (c := k1c1) (by decide +kernel) rfl rfl rfl (by decide +kernel)
set_option maxRecDepth 65536 in
theorem w_c2 : (Jvm.Cond.code ({ cls := "com/example/upright_play/uprightplay/event/MembersBoolPinLaw", name := "blank", desc := "(I)C" } : Jvm.MethodName) method_3_code (3 : Nat) (Option.some Jvm.ClassFile.FieldType.char)).before args0 about1 = true := code_word (m := ⟨1, 2⟩) (meth := k1m2) (c := k1c2) (by decide +kernel) rfl rfl rfl (by decide +kernel)
set_option maxRecDepth 65536 in
theorem w_c3 : (Jvm.Cond.code ({ cls := "com/example/upright_play/uprightplay/event/MembersBoolPinLaw", name := "putValue", desc := "([CIZZ)V" } : Jvm.MethodName) method_4_code (4 : Nat) (Option.none : Option Jvm.ClassFile.FieldType)).before args0 about1 = true := code_word (m := ⟨1, 3⟩) (meth := k1m3) (c := k1c3) (by decide +kernel) rfl rfl rfl (by decide +kernel)
set_option maxRecDepth 65536 in
theorem w_c4 : (Jvm.Cond.code ({ cls := "com/example/upright_play/uprightplay/event/Members", name := "<init>", desc := "()V" } : Jvm.MethodName) prog_95_method_1_code (1 : Nat) (Option.none : Option Jvm.ClassFile.FieldType)).before args0 about1 = true := code_word (m := ⟨2, 0⟩) (meth := k2m0) (c := k2c0) (by decide +kernel) rfl rfl rfl (by decide +kernel)
set_option maxRecDepth 65536 in
theorem w_c5 : (Jvm.Cond.code ({ cls := "java/lang/Object", name := "<init>", desc := "()V" } : Jvm.MethodName) object_method_1_code (1 : Nat) (Option.none : Option Jvm.ClassFile.FieldType)).before args0 about1 = true := code_word (m := ⟨0, 0⟩) (meth := k0m0) (c := k0c0) (by decide +kernel) rfl rfl rfl (by decide +kernel)
set_option maxRecDepth 65536 in
theorem w_c6 : (Jvm.Cond.code ({ cls := "com/example/upright_play/uprightplay/event/Members", name := "read", desc := "([CIJ)V" } : Jvm.MethodName) prog_95_method_2_code (5 : Nat) (Option.none : Option Jvm.ClassFile.FieldType)).before args0 about1 = true := code_word (m := ⟨2, 1⟩) (meth := k2m1) (c := k2c1) (by decide +kernel) rfl rfl rfl (by decide +kernel)
set_option maxRecDepth 65536 in
theorem w_c7 : (Jvm.Cond.code ({ cls := "java/util/Arrays", name := "fill", desc := "([BB)V" } : Jvm.MethodName) jdk_65_method_109_code (4 : Nat) (Option.none : Option Jvm.ClassFile.FieldType)).before args0 about1 = true := code_word (m := ⟨11, 1⟩) (meth := k11m1) (c := k11c1) (by decide +kernel) rfl rfl rfl (by decide +kernel)
set_option maxRecDepth 65536 in
theorem w_c8 : (Jvm.Cond.code ({ cls := "com/example/upright_play/uprightplay/event/Members", name := "skipWhitespace", desc := "()V" } : Jvm.MethodName) prog_95_method_33_code (1 : Nat) (Option.none : Option Jvm.ClassFile.FieldType)).before args0 about1 = true := code_word (m := ⟨2, 17⟩) (meth := k2m17) (c := k2c17) (by decide +kernel) rfl rfl rfl (by decide +kernel)
set_option maxRecDepth 65536 in
theorem w_c9 : (Jvm.Cond.code ({ cls := "com/example/upright_play/uprightplay/event/Members", name := "isWhitespace", desc := "(C)Z" } : Jvm.MethodName) prog_95_method_37_code (1 : Nat) (Option.some Jvm.ClassFile.FieldType.boolean)).before args0 about1 = true := code_word (m := ⟨2, 20⟩) (meth := k2m20) (c := k2c20) (by decide +kernel) rfl rfl rfl (by decide +kernel)
set_option maxRecDepth 65536 in
theorem w_c10 : (Jvm.Cond.code ({ cls := "com/example/upright_play/uprightplay/event/Members", name := "readContainer", desc := "(IC)V" } : Jvm.MethodName) prog_95_method_13_code (9 : Nat) (Option.none : Option Jvm.ClassFile.FieldType)).before args0 about1 = true := code_word (m := ⟨2, 6⟩) (meth := k2m6) (c := k2c6) (by decide +kernel) rfl rfl rfl (by decide +kernel)
set_option maxRecDepth 65536 in
theorem w_c11 : (Jvm.Cond.code ({ cls := "com/example/upright_play/uprightplay/event/Members", name := "take", desc := "(C)Z" } : Jvm.MethodName) prog_95_method_34_code (3 : Nat) (Option.some Jvm.ClassFile.FieldType.boolean)).before args0 about1 = true := code_word (m := ⟨2, 18⟩) (meth := k2m18) (c := k2c18) (by decide +kernel) rfl rfl rfl (by decide +kernel)
set_option maxRecDepth 65536 in
theorem w_c12 : (Jvm.Cond.code ({ cls := "com/example/upright_play/uprightplay/event/Members", name := "readString", desc := "()Z" } : Jvm.MethodName) prog_95_method_15_code (3 : Nat) (Option.some Jvm.ClassFile.FieldType.boolean)).before args0 about1 = true := code_word (m := ⟨2, 8⟩) (meth := k2m8) (c := k2c8) (by decide +kernel) rfl rfl rfl (by decide +kernel)
set_option maxRecDepth 65536 in
theorem w_c13 : (Jvm.Cond.code ({ cls := "com/example/upright_play/uprightplay/event/Members", name := "expect", desc := "(C)V" } : Jvm.MethodName) prog_95_method_35_code (2 : Nat) (Option.none : Option Jvm.ClassFile.FieldType)).before args0 about1 = true := code_word (m := ⟨2, 19⟩) (meth := k2m19) (c := k2c19) (by decide +kernel) rfl rfl rfl (by decide +kernel)
set_option maxRecDepth 65536 in
theorem w_c14 : (Jvm.Cond.code ({ cls := "com/example/upright_play/uprightplay/event/Members", name := "readValue", desc := "(I)Lcom/example/upright_play/uprightplay/event/Members$Type;" } : Jvm.MethodName) prog_95_method_14_code (4 : Nat) (Option.some (Jvm.ClassFile.FieldType.object "com/example/upright_play/uprightplay/event/Members$Type"))).before args0 about1 = true := code_word (m := ⟨2, 7⟩) (meth := k2m7) (c := k2c7) (by decide +kernel) rfl rfl rfl (by decide +kernel)
set_option maxRecDepth 65536 in
theorem w_c15 : (Jvm.Cond.code ({ cls := "com/example/upright_play/uprightplay/event/Members", name := "readWord", desc := "(Ljava/lang/String;)V" } : Jvm.MethodName) prog_95_method_17_code (3 : Nat) (Option.none : Option Jvm.ClassFile.FieldType)).before args0 about1 = true := code_word (m := ⟨2, 9⟩) (meth := k2m9) (c := k2c9) (by decide +kernel) rfl rfl rfl (by decide +kernel)
set_option maxRecDepth 65536 in
theorem w_c16 : (Jvm.Cond.code ({ cls := "java/lang/String", name := "length", desc := "()I" } : Jvm.MethodName) jdk_42_method_54_code (1 : Nat) (Option.some Jvm.ClassFile.FieldType.int)).before args0 about1 = true := code_word (m := ⟨8, 1⟩) (meth := k8m1) (c := k8c1) (by decide +kernel) rfl rfl rfl (by decide +kernel)
set_option maxRecDepth 65536 in
theorem w_c17 : (Jvm.Cond.code ({ cls := "java/lang/String", name := "coder", desc := "()B" } : Jvm.MethodName) jdk_42_method_152_code (1 : Nat) (Option.some Jvm.ClassFile.FieldType.byte)).before args0 about1 = true := code_word (m := ⟨8, 6⟩) (meth := k8m6) (c := k8c6) (by decide +kernel) rfl rfl rfl (by decide +kernel)
set_option maxRecDepth 65536 in
theorem w_c18 : (Jvm.Cond.code ({ cls := "java/lang/String", name := "charAt", desc := "(I)C" } : Jvm.MethodName) jdk_42_method_56_code (2 : Nat) (Option.some Jvm.ClassFile.FieldType.char)).before args0 about1 = true := code_word (m := ⟨8, 2⟩) (meth := k8m2) (c := k8c2) (by decide +kernel) rfl rfl rfl (by decide +kernel)
set_option maxRecDepth 65536 in
theorem w_c19 : (Jvm.Cond.code ({ cls := "java/lang/String", name := "isLatin1", desc := "()Z" } : Jvm.MethodName) jdk_42_method_154_code (1 : Nat) (Option.some Jvm.ClassFile.FieldType.boolean)).before args0 about1 = true := code_word (m := ⟨8, 7⟩) (meth := k8m7) (c := k8c7) (by decide +kernel) rfl rfl rfl (by decide +kernel)
set_option maxRecDepth 65536 in
theorem w_c20 : (Jvm.Cond.code ({ cls := "java/lang/StringLatin1", name := "charAt", desc := "([BI)C" } : Jvm.MethodName) jdk_43_method_2_code (2 : Nat) (Option.some Jvm.ClassFile.FieldType.char)).before args0 about1 = true := code_word (m := ⟨12, 1⟩) (meth := k12m1) (c := k12c1) (by decide +kernel) rfl rfl rfl (by decide +kernel)
set_option maxRecDepth 65536 in
theorem w_c21 : (Jvm.Cond.code ({ cls := "java/lang/String", name := "checkIndex", desc := "(II)V" } : Jvm.MethodName) jdk_42_method_155_code (2 : Nat) (Option.none : Option Jvm.ClassFile.FieldType)).before args0 about1 = true := code_word (m := ⟨8, 8⟩) (meth := k8m8) (c := k8c8) (by decide +kernel) rfl rfl rfl (by decide +kernel)
set_option maxRecDepth 65536 in
theorem w_c22 : (Jvm.Cond.code ({ cls := "jdk/internal/util/Preconditions", name := "checkIndex", desc := "(IILjava/util/function/BiFunction;)I" } : Jvm.MethodName) jdk_41_method_11_code (3 : Nat) (Option.some Jvm.ClassFile.FieldType.int)).before args0 about1 = true := code_word (m := ⟨13, 1⟩) (meth := k13m1) (c := k13c1) (by decide +kernel) rfl rfl rfl (by decide +kernel)
set_option maxRecDepth 65536 in
theorem w_c23 : (Jvm.Cond.code ({ cls := "com/example/upright_play/uprightplay/event/Members", name := "expectDelimiter", desc := "()V" } : Jvm.MethodName) prog_95_method_19_code (1 : Nat) (Option.none : Option Jvm.ClassFile.FieldType)).before args0 about1 = true := code_word (m := ⟨2, 10⟩) (meth := k2m10) (c := k2c10) (by decide +kernel) rfl rfl rfl (by decide +kernel)
set_option maxRecDepth 65536 in
theorem w_c24 : (Jvm.Cond.code ({ cls := "com/example/upright_play/uprightplay/event/Members", name := "isDelimiter", desc := "(C)Z" } : Jvm.MethodName) prog_95_method_38_code (1 : Nat) (Option.some Jvm.ClassFile.FieldType.boolean)).before args0 about1 = true := code_word (m := ⟨2, 21⟩) (meth := k2m21) (c := k2c21) (by decide +kernel) rfl rfl rfl (by decide +kernel)
set_option maxRecDepth 65536 in
theorem w_c25 : (Jvm.Cond.code ({ cls := "com/example/upright_play/uprightplay/event/Members", name := "add", desc := "(IIZLcom/example/upright_play/uprightplay/event/Members$Type;I)V" } : Jvm.MethodName) prog_95_method_21_code (11 : Nat) (Option.none : Option Jvm.ClassFile.FieldType)).before args0 about1 = true := code_word (m := ⟨2, 11⟩) (meth := k2m11) (c := k2c11) (by decide +kernel) rfl rfl rfl (by decide +kernel)
set_option maxRecDepth 65536 in
theorem w_c26 : (Jvm.Cond.code ({ cls := "com/example/upright_play/uprightplay/event/Members", name := "hash", desc := "(II)I" } : Jvm.MethodName) prog_95_method_28_code (5 : Nat) (Option.some Jvm.ClassFile.FieldType.int)).before args0 about1 = true := code_word (m := ⟨2, 16⟩) (meth := k2m16) (c := k2c16) (by decide +kernel) rfl rfl rfl (by decide +kernel)
set_option maxRecDepth 65536 in
theorem w_c27 : (Jvm.Cond.code ({ cls := "com/example/upright_play/uprightplay/event/Members", name := "slotOf", desc := "(I)I" } : Jvm.MethodName) prog_95_method_26_code (1 : Nat) (Option.some Jvm.ClassFile.FieldType.int)).before args0 about1 = true := code_word (m := ⟨2, 14⟩) (meth := k2m14) (c := k2c14) (by decide +kernel) rfl rfl rfl (by decide +kernel)
set_option maxRecDepth 65536 in
theorem w_c28 : (Jvm.Cond.code ({ cls := "java/lang/String", name := "valueOf", desc := "(C)Ljava/lang/String;" } : Jvm.MethodName) jdk_42_method_139_code (1 : Nat) (Option.some (Jvm.ClassFile.FieldType.object "java/lang/String"))).before args0 about1 = true := code_word (m := ⟨8, 4⟩) (meth := k8m4) (c := k8c4) (by decide +kernel) rfl rfl rfl (by decide +kernel)
set_option maxRecDepth 65536 in
theorem w_c29 : (Jvm.Cond.code ({ cls := "java/lang/StringLatin1", name := "canEncode", desc := "(C)Z" } : Jvm.MethodName) jdk_43_method_3_code (1 : Nat) (Option.some Jvm.ClassFile.FieldType.boolean)).before args0 about1 = true := code_word (m := ⟨12, 2⟩) (meth := k12m2) (c := k12c2) (by decide +kernel) rfl rfl rfl (by decide +kernel)
set_option maxRecDepth 65536 in
theorem w_c30 : (Jvm.Cond.code ({ cls := "java/lang/StringLatin1", name := "toBytes", desc := "(C)[B" } : Jvm.MethodName) jdk_43_method_46_code (1 : Nat) (Option.some (Jvm.ClassFile.FieldType.array Jvm.ClassFile.FieldType.byte))).before args0 about1 = true := code_word (m := ⟨12, 4⟩) (meth := k12m4) (c := k12c4) (by decide +kernel) rfl rfl rfl (by decide +kernel)
set_option maxRecDepth 65536 in
theorem w_c31 : (Jvm.Cond.code ({ cls := "java/lang/String", name := "<init>", desc := "([BB)V" } : Jvm.MethodName) jdk_42_method_151_code (3 : Nat) (Option.none : Option Jvm.ClassFile.FieldType)).before args0 about1 = true := code_word (m := ⟨8, 5⟩) (meth := k8m5) (c := k8c5) (by decide +kernel) rfl rfl rfl (by decide +kernel)
set_option maxRecDepth 65536 in
theorem w_c32 : (Jvm.Cond.code ({ cls := "com/example/upright_play/uprightplay/event/Members", name := "find", desc := "(Ljava/lang/String;)I" } : Jvm.MethodName) prog_95_method_5_code (6 : Nat) (Option.some Jvm.ClassFile.FieldType.int)).before args0 about1 = true := code_word (m := ⟨2, 3⟩) (meth := k2m3) (c := k2c3) (by decide +kernel) rfl rfl rfl (by decide +kernel)
set_option maxRecDepth 65536 in
theorem w_c33 : (Jvm.Cond.code ({ cls := "java/lang/String", name := "hashCode", desc := "()I" } : Jvm.MethodName) jdk_42_method_78_code (2 : Nat) (Option.some Jvm.ClassFile.FieldType.int)).before args0 about1 = true := code_word (m := ⟨8, 3⟩) (meth := k8m3) (c := k8c3) (by decide +kernel) rfl rfl rfl (by decide +kernel)
set_option maxRecDepth 65536 in
theorem w_c34 : (Jvm.Cond.code ({ cls := "java/lang/StringLatin1", name := "hashCode", desc := "([B)I" } : Jvm.MethodName) jdk_43_method_21_code (1 : Nat) (Option.some Jvm.ClassFile.FieldType.int)).before args0 about1 = true := code_word (m := ⟨12, 3⟩) (meth := k12m3) (c := k12c3) (by decide +kernel) rfl rfl rfl (by decide +kernel)
set_option maxRecDepth 65536 in
theorem w_c35 : (Jvm.Cond.code ({ cls := "com/example/upright_play/uprightplay/event/Members", name := "isNamed", desc := "(ILjava/lang/String;)Z" } : Jvm.MethodName) prog_95_method_25_code (5 : Nat) (Option.some Jvm.ClassFile.FieldType.boolean)).before args0 about1 = true := code_word (m := ⟨2, 13⟩) (meth := k2m13) (c := k2c13) (by decide +kernel) rfl rfl rfl (by decide +kernel)
set_option maxRecDepth 65536 in
theorem w_c36 : (Jvm.Cond.code ({ cls := "com/example/upright_play/uprightplay/event/Members", name := "holds", desc := "(IILjava/lang/String;)Z" } : Jvm.MethodName) prog_95_method_24_code (6 : Nat) (Option.some Jvm.ClassFile.FieldType.boolean)).before args0 about1 = true := code_word (m := ⟨2, 12⟩) (meth := k2m12) (c := k2c12) (by decide +kernel) rfl rfl rfl (by decide +kernel)
set_option maxRecDepth 65536 in
theorem w_c37 : (Jvm.Cond.code ({ cls := "com/example/upright_play/uprightplay/event/Members", name := "next", desc := "(I)I" } : Jvm.MethodName) prog_95_method_27_code (1 : Nat) (Option.some Jvm.ClassFile.FieldType.int)).before args0 about1 = true := code_word (m := ⟨2, 15⟩) (meth := k2m15) (c := k2c15) (by decide +kernel) rfl rfl rfl (by decide +kernel)
set_option maxRecDepth 65536 in
theorem w_c38 : (Jvm.Cond.code ({ cls := "com/example/upright_play/uprightplay/event/Members", name := "size", desc := "()I" } : Jvm.MethodName) prog_95_method_4_code (1 : Nat) (Option.some Jvm.ClassFile.FieldType.int)).before args0 about1 = true := code_word (m := ⟨2, 2⟩) (meth := k2m2) (c := k2c2) (by decide +kernel) rfl rfl rfl (by decide +kernel)
set_option maxRecDepth 65536 in
theorem w_c39 : (Jvm.Cond.code ({ cls := "com/example/upright_play/uprightplay/event/Members", name := "type", desc := "(I)Lcom/example/upright_play/uprightplay/event/Members$Type;" } : Jvm.MethodName) prog_95_method_6_code (2 : Nat) (Option.some (Jvm.ClassFile.FieldType.object "com/example/upright_play/uprightplay/event/Members$Type"))).before args0 about1 = true := code_word (m := ⟨2, 4⟩) (meth := k2m4) (c := k2c4) (by decide +kernel) rfl rfl rfl (by decide +kernel)
set_option maxRecDepth 65536 in
theorem w_c40 : (Jvm.Cond.code ({ cls := "com/example/upright_play/uprightplay/event/Members", name := "bool", desc := "(I)Z" } : Jvm.MethodName) prog_95_method_11_code (2 : Nat) (Option.some Jvm.ClassFile.FieldType.boolean)).before args0 about1 = true := code_word (m := ⟨2, 5⟩) (meth := k2m5) (c := k2c5) (by decide +kernel) rfl rfl rfl (by decide +kernel)
def codes1 : List Jvm.Cond := [Jvm.Cond.code x code maxLocals ret, Jvm.Cond.code ({ cls := "com/example/upright_play/uprightplay/event/MembersBoolPinLaw", name := "nameChar", desc := "(I)C" } : Jvm.MethodName) method_2_code (2 : Nat) (Option.some Jvm.ClassFile.FieldType.char), Jvm.Cond.code ({ cls := "com/example/upright_play/uprightplay/event/MembersBoolPinLaw", name := "blank", desc := "(I)C" } : Jvm.MethodName) method_3_code (3 : Nat) (Option.some Jvm.ClassFile.FieldType.char), Jvm.Cond.code ({ cls := "com/example/upright_play/uprightplay/event/MembersBoolPinLaw", name := "putValue", desc := "([CIZZ)V" } : Jvm.MethodName) method_4_code (4 : Nat) (Option.none : Option Jvm.ClassFile.FieldType), Jvm.Cond.code ({ cls := "com/example/upright_play/uprightplay/event/Members", name := "<init>", desc := "()V" } : Jvm.MethodName) prog_95_method_1_code (1 : Nat) (Option.none : Option Jvm.ClassFile.FieldType), Jvm.Cond.code ({ cls := "java/lang/Object", name := "<init>", desc := "()V" } : Jvm.MethodName) object_method_1_code (1 : Nat) (Option.none : Option Jvm.ClassFile.FieldType), Jvm.Cond.code ({ cls := "com/example/upright_play/uprightplay/event/Members", name := "read", desc := "([CIJ)V" } : Jvm.MethodName) prog_95_method_2_code (5 : Nat) (Option.none : Option Jvm.ClassFile.FieldType), Jvm.Cond.code ({ cls := "java/util/Arrays", name := "fill", desc := "([BB)V" } : Jvm.MethodName) jdk_65_method_109_code (4 : Nat) (Option.none : Option Jvm.ClassFile.FieldType), Jvm.Cond.code ({ cls := "com/example/upright_play/uprightplay/event/Members", name := "skipWhitespace", desc := "()V" } : Jvm.MethodName) prog_95_method_33_code (1 : Nat) (Option.none : Option Jvm.ClassFile.FieldType), Jvm.Cond.code ({ cls := "com/example/upright_play/uprightplay/event/Members", name := "isWhitespace", desc := "(C)Z" } : Jvm.MethodName) prog_95_method_37_code (1 : Nat) (Option.some Jvm.ClassFile.FieldType.boolean), Jvm.Cond.code ({ cls := "com/example/upright_play/uprightplay/event/Members", name := "readContainer", desc := "(IC)V" } : Jvm.MethodName) prog_95_method_13_code (9 : Nat) (Option.none : Option Jvm.ClassFile.FieldType), Jvm.Cond.code ({ cls := "com/example/upright_play/uprightplay/event/Members", name := "take", desc := "(C)Z" } : Jvm.MethodName) prog_95_method_34_code (3 : Nat) (Option.some Jvm.ClassFile.FieldType.boolean), Jvm.Cond.code ({ cls := "com/example/upright_play/uprightplay/event/Members", name := "readString", desc := "()Z" } : Jvm.MethodName) prog_95_method_15_code (3 : Nat) (Option.some Jvm.ClassFile.FieldType.boolean), Jvm.Cond.code ({ cls := "com/example/upright_play/uprightplay/event/Members", name := "expect", desc := "(C)V" } : Jvm.MethodName) prog_95_method_35_code (2 : Nat) (Option.none : Option Jvm.ClassFile.FieldType), Jvm.Cond.code ({ cls := "com/example/upright_play/uprightplay/event/Members", name := "readValue", desc := "(I)Lcom/example/upright_play/uprightplay/event/Members$Type;" } : Jvm.MethodName) prog_95_method_14_code (4 : Nat) (Option.some (Jvm.ClassFile.FieldType.object "com/example/upright_play/uprightplay/event/Members$Type")), Jvm.Cond.code ({ cls := "com/example/upright_play/uprightplay/event/Members", name := "readWord", desc := "(Ljava/lang/String;)V" } : Jvm.MethodName) prog_95_method_17_code (3 : Nat) (Option.none : Option Jvm.ClassFile.FieldType), Jvm.Cond.code ({ cls := "java/lang/String", name := "length", desc := "()I" } : Jvm.MethodName) jdk_42_method_54_code (1 : Nat) (Option.some Jvm.ClassFile.FieldType.int), Jvm.Cond.code ({ cls := "java/lang/String", name := "coder", desc := "()B" } : Jvm.MethodName) jdk_42_method_152_code (1 : Nat) (Option.some Jvm.ClassFile.FieldType.byte), Jvm.Cond.code ({ cls := "java/lang/String", name := "charAt", desc := "(I)C" } : Jvm.MethodName) jdk_42_method_56_code (2 : Nat) (Option.some Jvm.ClassFile.FieldType.char), Jvm.Cond.code ({ cls := "java/lang/String", name := "isLatin1", desc := "()Z" } : Jvm.MethodName) jdk_42_method_154_code (1 : Nat) (Option.some Jvm.ClassFile.FieldType.boolean), Jvm.Cond.code ({ cls := "java/lang/StringLatin1", name := "charAt", desc := "([BI)C" } : Jvm.MethodName) jdk_43_method_2_code (2 : Nat) (Option.some Jvm.ClassFile.FieldType.char), Jvm.Cond.code ({ cls := "java/lang/String", name := "checkIndex", desc := "(II)V" } : Jvm.MethodName) jdk_42_method_155_code (2 : Nat) (Option.none : Option Jvm.ClassFile.FieldType), Jvm.Cond.code ({ cls := "jdk/internal/util/Preconditions", name := "checkIndex", desc := "(IILjava/util/function/BiFunction;)I" } : Jvm.MethodName) jdk_41_method_11_code (3 : Nat) (Option.some Jvm.ClassFile.FieldType.int), Jvm.Cond.code ({ cls := "com/example/upright_play/uprightplay/event/Members", name := "expectDelimiter", desc := "()V" } : Jvm.MethodName) prog_95_method_19_code (1 : Nat) (Option.none : Option Jvm.ClassFile.FieldType), Jvm.Cond.code ({ cls := "com/example/upright_play/uprightplay/event/Members", name := "isDelimiter", desc := "(C)Z" } : Jvm.MethodName) prog_95_method_38_code (1 : Nat) (Option.some Jvm.ClassFile.FieldType.boolean), Jvm.Cond.code ({ cls := "com/example/upright_play/uprightplay/event/Members", name := "add", desc := "(IIZLcom/example/upright_play/uprightplay/event/Members$Type;I)V" } : Jvm.MethodName) prog_95_method_21_code (11 : Nat) (Option.none : Option Jvm.ClassFile.FieldType), Jvm.Cond.code ({ cls := "com/example/upright_play/uprightplay/event/Members", name := "hash", desc := "(II)I" } : Jvm.MethodName) prog_95_method_28_code (5 : Nat) (Option.some Jvm.ClassFile.FieldType.int), Jvm.Cond.code ({ cls := "com/example/upright_play/uprightplay/event/Members", name := "slotOf", desc := "(I)I" } : Jvm.MethodName) prog_95_method_26_code (1 : Nat) (Option.some Jvm.ClassFile.FieldType.int), Jvm.Cond.code ({ cls := "java/lang/String", name := "valueOf", desc := "(C)Ljava/lang/String;" } : Jvm.MethodName) jdk_42_method_139_code (1 : Nat) (Option.some (Jvm.ClassFile.FieldType.object "java/lang/String")), Jvm.Cond.code ({ cls := "java/lang/StringLatin1", name := "canEncode", desc := "(C)Z" } : Jvm.MethodName) jdk_43_method_3_code (1 : Nat) (Option.some Jvm.ClassFile.FieldType.boolean), Jvm.Cond.code ({ cls := "java/lang/StringLatin1", name := "toBytes", desc := "(C)[B" } : Jvm.MethodName) jdk_43_method_46_code (1 : Nat) (Option.some (Jvm.ClassFile.FieldType.array Jvm.ClassFile.FieldType.byte)), Jvm.Cond.code ({ cls := "java/lang/String", name := "<init>", desc := "([BB)V" } : Jvm.MethodName) jdk_42_method_151_code (3 : Nat) (Option.none : Option Jvm.ClassFile.FieldType), Jvm.Cond.code ({ cls := "com/example/upright_play/uprightplay/event/Members", name := "find", desc := "(Ljava/lang/String;)I" } : Jvm.MethodName) prog_95_method_5_code (6 : Nat) (Option.some Jvm.ClassFile.FieldType.int), Jvm.Cond.code ({ cls := "java/lang/String", name := "hashCode", desc := "()I" } : Jvm.MethodName) jdk_42_method_78_code (2 : Nat) (Option.some Jvm.ClassFile.FieldType.int), Jvm.Cond.code ({ cls := "java/lang/StringLatin1", name := "hashCode", desc := "([B)I" } : Jvm.MethodName) jdk_43_method_21_code (1 : Nat) (Option.some Jvm.ClassFile.FieldType.int), Jvm.Cond.code ({ cls := "com/example/upright_play/uprightplay/event/Members", name := "isNamed", desc := "(ILjava/lang/String;)Z" } : Jvm.MethodName) prog_95_method_25_code (5 : Nat) (Option.some Jvm.ClassFile.FieldType.boolean), Jvm.Cond.code ({ cls := "com/example/upright_play/uprightplay/event/Members", name := "holds", desc := "(IILjava/lang/String;)Z" } : Jvm.MethodName) prog_95_method_24_code (6 : Nat) (Option.some Jvm.ClassFile.FieldType.boolean), Jvm.Cond.code ({ cls := "com/example/upright_play/uprightplay/event/Members", name := "next", desc := "(I)I" } : Jvm.MethodName) prog_95_method_27_code (1 : Nat) (Option.some Jvm.ClassFile.FieldType.int), Jvm.Cond.code ({ cls := "com/example/upright_play/uprightplay/event/Members", name := "size", desc := "()I" } : Jvm.MethodName) prog_95_method_4_code (1 : Nat) (Option.some Jvm.ClassFile.FieldType.int), Jvm.Cond.code ({ cls := "com/example/upright_play/uprightplay/event/Members", name := "type", desc := "(I)Lcom/example/upright_play/uprightplay/event/Members$Type;" } : Jvm.MethodName) prog_95_method_6_code (2 : Nat) (Option.some (Jvm.ClassFile.FieldType.object "com/example/upright_play/uprightplay/event/Members$Type")), Jvm.Cond.code ({ cls := "com/example/upright_play/uprightplay/event/Members", name := "bool", desc := "(I)Z" } : Jvm.MethodName) prog_95_method_11_code (2 : Nat) (Option.some Jvm.ClassFile.FieldType.boolean)]
set_option maxRecDepth 65536 in
theorem codes_eq : words1.filter isCode = codes1 := rfl
theorem w_codes : ∀ c ∈ words1.filter isCode, c.before args0 about1 = true := by
  rw [codes_eq]
  intro c hc
  simp only [codes1, List.mem_cons, List.not_mem_nil, or_false] at hc
  rcases hc with rfl | rfl | rfl | rfl | rfl | rfl | rfl | rfl | rfl | rfl | rfl | rfl | rfl | rfl | rfl | rfl | rfl | rfl | rfl | rfl | rfl | rfl | rfl | rfl | rfl | rfl | rfl | rfl | rfl | rfl | rfl | rfl | rfl | rfl | rfl | rfl | rfl | rfl | rfl | rfl | rfl
  · exact w_c0
  · exact w_c1
  · exact w_c2
  · exact w_c3
  · exact w_c4
  · exact w_c5
  · exact w_c6
  · exact w_c7
  · exact w_c8
  · exact w_c9
  · exact w_c10
  · exact w_c11
  · exact w_c12
  · exact w_c13
  · exact w_c14
  · exact w_c15
  · exact w_c16
  · exact w_c17
  · exact w_c18
  · exact w_c19
  · exact w_c20
  · exact w_c21
  · exact w_c22
  · exact w_c23
  · exact w_c24
  · exact w_c25
  · exact w_c26
  · exact w_c27
  · exact w_c28
  · exact w_c29
  · exact w_c30
  · exact w_c31
  · exact w_c32
  · exact w_c33
  · exact w_c34
  · exact w_c35
  · exact w_c36
  · exact w_c37
  · exact w_c38
  · exact w_c39
  · exact w_c40
set_option maxRecDepth 65536 in
theorem w_t1 : (words1.take 24).all (fun c => isCode c || c.before args0 about1) = true := by decide +kernel
set_option maxRecDepth 65536 in
theorem w_t2 : ((words1.drop 24).take 24).all (fun c => isCode c || c.before args0 about1) = true := by decide +kernel
set_option maxRecDepth 65536 in
theorem w_t3 : (((words1.drop 24).drop 24).take 24).all (fun c => isCode c || c.before args0 about1) = true := by decide +kernel
set_option maxRecDepth 65536 in
theorem w_t4 : ((((words1.drop 24).drop 24).drop 24).take 24).all (fun c => isCode c || c.before args0 about1) = true := by decide +kernel
set_option maxRecDepth 65536 in
theorem w_t5 : (((((words1.drop 24).drop 24).drop 24).drop 24).take 24).all (fun c => isCode c || c.before args0 about1) = true := by decide +kernel
set_option maxRecDepth 65536 in
theorem w_t6 : ((((((words1.drop 24).drop 24).drop 24).drop 24).drop 24).take 24).all (fun c => isCode c || c.before args0 about1) = true := by decide +kernel
set_option maxRecDepth 65536 in
theorem w_t7 : (((((((words1.drop 24).drop 24).drop 24).drop 24).drop 24).drop 24).take 24).all (fun c => isCode c || c.before args0 about1) = true := by decide +kernel
set_option maxRecDepth 65536 in
theorem w_t8 : ((((((((words1.drop 24).drop 24).drop 24).drop 24).drop 24).drop 24).drop 24).take 24).all (fun c => isCode c || c.before args0 about1) = true := by decide +kernel
set_option maxRecDepth 65536 in
theorem w_t9 : (((((((((words1.drop 24).drop 24).drop 24).drop 24).drop 24).drop 24).drop 24).drop 24).take 24).all (fun c => isCode c || c.before args0 about1) = true := by decide +kernel
set_option maxRecDepth 65536 in
theorem w_t10 : (((((((((words1.drop 24).drop 24).drop 24).drop 24).drop 24).drop 24).drop 24).drop 24).drop 24).all (fun c => isCode c || c.before args0 about1) = true := by decide +kernel
theorem w_tables : (allAtoms (Jvm.Cond.code x code maxLocals ret :: tables_1)).before args0 about1 = true := by
  rw [allAtoms_all]
  show words1.all (fun c => c.before args0 about1) = true
  refine all_split ?_ w_codes
  rw [← List.take_append_drop 24 words1, List.all_append, w_t1, ← List.take_append_drop 24 (words1.drop 24), List.all_append, w_t2, ← List.take_append_drop 24 ((words1.drop 24).drop 24), List.all_append, w_t3, ← List.take_append_drop 24 (((words1.drop 24).drop 24).drop 24), List.all_append, w_t4, ← List.take_append_drop 24 ((((words1.drop 24).drop 24).drop 24).drop 24), List.all_append, w_t5, ← List.take_append_drop 24 (((((words1.drop 24).drop 24).drop 24).drop 24).drop 24), List.all_append, w_t6, ← List.take_append_drop 24 ((((((words1.drop 24).drop 24).drop 24).drop 24).drop 24).drop 24), List.all_append, w_t7, ← List.take_append_drop 24 (((((((words1.drop 24).drop 24).drop 24).drop 24).drop 24).drop 24).drop 24), List.all_append, w_t8, ← List.take_append_drop 24 ((((((((words1.drop 24).drop 24).drop 24).drop 24).drop 24).drop 24).drop 24).drop 24), List.all_append, w_t9, w_t10]
  rfl
set_option maxRecDepth 65536 in
theorem w_rest : rest_1_c.before args0 about1 = true := by decide +kernel
set_option maxRecDepth 65536 in
theorem w_case : (Jvm.Cond.and given_1 narrow_1).before args0 about1 = true := by decide +kernel
set_option maxRecDepth 65536 in
theorem w_consts : constsHeld consts_1 about1 := Jvm.Lit.constsHeldB_iff.mp (by decide +kernel)
theorem w_applies : (headSpec (Jvm.Cond.code x code maxLocals ret :: tables_1) room_1).applies x e0.platform about1 = true :=
  (Spec.applies_iff w_frames).mpr ⟨w_running, w_runnable, w_alone, w_named, w_hears, w_ripe, w_room, w_tables⟩
theorem atStart : AtStart classFile x code maxLocals ret World_1 tables_1 room_1 Calls_1 rest_1 Pre_1 launch0 p0 e0 about1 theMethod args0 below0 :=
  ⟨lists_1, trivial, launch0.admits_env _ _ _, launch0.least_env, fairChoices_fair.cas, fairChoices_fair.clock, w_frames, w_args, w_heap, w_applies, ⟨w_consts, trivial⟩, w_rest, w_case⟩
end start1
theorem witness_1 : WitnessClaimed_1 := ⟨start1.p0, start1.e0, start1.about1, start1.theMethod, start1.args0, start1.below0, start1.atStart⟩
end Jvm.Pilot.@@N@@
