import JvmDerived
import JvmDerived.Pilot.@@N@@Statement
import JvmDerived.Pilot.@@N@@Code
set_option linter.unusedVariables false
set_option linter.unusedSimpArgs false
namespace Jvm.Pilot.@@N@@
open Jvm Jvm.ClassFile Sem Op Lib Jvm.Free Jvm.Stand Jvm.LawKit Jvm.RoadKit Bundle Jvm.Pilot.@@N@@.Jvm.D
section Own
variable {p : Program} {l : Launch} {e : Env} {R : Room} {s : State} {m : MethodId} {args : Array Value} {below : List Frame} {meth : Method} {c : Code} {T : State} {locs : List Loc} {cells slots : Nat} {Z : State} {h h' : Heap} {a b : Addr} {ty : FieldType} {vs : List Value} {v : Value} {sl : Nat}
/-- from here the run comes to an end that Q allows -/
def own_fin (p : Program) (e : Env) (below : List Frame) (s : State) (cl sl : Nat) (Q : Option Value → Heap → List Loc → Prop) (S : State) : Prop :=
  ∃ s₂ o, Steps p.tables e below S s₂ ∧ s₂.status = .running ∧ Ended s₂ below o ∧ ∃ v L, o = .returned v ∧ Q v s₂.heap L ∧ FrameEnd s o s₂ L cl sl
theorem own_by {cl sl : Nat} {Q : Option Value → Heap → List Loc → Prop} {S S' : State} (st : ∀ target, Steps p.tables e below S' target → Steps p.tables e below S target) (k : own_fin p e below s cl sl Q S') : own_fin p e below s cl sl Q S := by
  obtain ⟨s2, o, h1, h2⟩ := k
  exact ⟨s2, o, st _ h1, h2⟩
theorem own_tr {cl sl : Nat} {Q : Option Value → Heap → List Loc → Prop} {S S' : State} (st : Steps p.tables e below S S') (k : own_fin p e below s cl sl Q S') : own_fin p e below s cl sl Q S := by
  obtain ⟨s2, o, h1, h2⟩ := k
  exact ⟨s2, o, st.trans h1, h2⟩
theorem own_start {cl sl : Nat} {Q : Option Value → Heap → List Loc → Prop} {s₁ : State} {mx : Nat} {g : JFrame} (q : entryFrame m args mx = g) (k : own_fin p e below s cl sl Q (s₁.setTop g)) :
    ∃ s₂ o, Steps p.tables e below (s₁.setTop (entryFrame m args mx)) s₂ ∧ s₂.status = .running ∧ Ended s₂ below o ∧ ∃ v L, o = .returned v ∧ Q v s₂.heap L ∧ FrameEnd s o s₂ L cl sl := by
  rw [q]; exact k
theorem own_ret (X : Stand p l e R s m args below meth c T locs cells slots) (hx : p.tables.exec = Jvm.exec) {cl sl : Nat} {Q : Option Value → Heap → List Loc → Prop} {pc : Nat} {Ls : Array Slot} {w : Value} {t : FieldType} {i : Instr} {rest : List Value} (hret : meth.sig.returnType = some t) (hn : narrow t w = w)
    (hi : (i = .ireturn ∧ (t = .int ∨ t = .boolean ∨ t = .byte ∨ t = .char ∨ t = .short) ∧ ∃ z, w = .int z) ∨ (i = .lreturn ∧ t = .long ∧ ∃ z, w = .long z) ∨ (i = .dreturn ∧ t = .double ∧ ∃ z, w = .double z) ∨ (i = .freturn ∧ t = .float ∧ ∃ z, w = .float z) ∨ (i = .areturn ∧ t.isReference = true ∧ w.isRef = true))
    (hd : decode c.code pc = .ok (i, 1)) (hlk : meth.locks = false) (hc : cells ≤ cl) (hs : slots ≤ sl) (q : Q (some w) T.heap locs) : own_fin p e below s cl sl Q (T.setTop (mkF m pc Ls (w :: rest))) := by
  obtain ⟨fs, hr, hrun, hended, hW, hsame⟩ := X.leave (v := some w) (fun h => by rw [hret] at h; cases h)
  exact ⟨_, _, retOut X hx hret hn hi hd hr, hrun, hended, _, _, rfl, q, ⟨_, rfl⟩, hW, hsame.mono hc hs⟩
theorem own_ret0 (X : Stand p l e R s m args below meth c T locs cells slots) (hx : p.tables.exec = Jvm.exec) {cl sl : Nat} {Q : Option Value → Heap → List Loc → Prop} {pc : Nat} {Ls : Array Slot} (hret : meth.sig.returnType = none)
    (hd : decode c.code pc = .ok (.return_, 1)) (hlk : meth.locks = false) (hc : cells ≤ cl) (hs : slots ≤ sl) (q : Q none T.heap locs) : own_fin p e below s cl sl Q (T.setTop (mkF m pc Ls [])) := by
  obtain ⟨fs, hr, hrun, hended, hW, hsame⟩ := X.leave (v := none) (fun _ => rfl)
  exact ⟨_, _, X.returnOut hx hret hd hr, hrun, hended, _, _, rfl, q, ⟨_, rfl⟩, hW, hsame.mono hc hs⟩
/-- the array at a holds just these values -/
def OwnA (Z : State) (h : Heap) (a : Addr) (ty : FieldType) (vs : List Value) : Prop := ∃ c : Cell, Arr Z h a c ty ∧ c.slots.toList = vs
theorem OwnA.lt (F : OwnA Z h a ty vs) : a < h.size := by obtain ⟨c, A, -⟩ := F; exact A.lt
theorem OwnA.ext (F : OwnA Z h a ty vs) (E : Ext h h') : OwnA Z h' a ty vs := by obtain ⟨c, A, r⟩ := F; exact ⟨c, A.ext E, r⟩
theorem OwnA.other (F : OwnA Z h a ty vs) (W : Wr h h' b sl v) (q : a ≠ b) : OwnA Z h' a ty vs := by obtain ⟨c, A, r⟩ := F; exact ⟨c, A.other W q, r⟩
theorem OwnA.keep {ws : List Addr} (F : OwnA Z h a ty vs) (K : Keep h h' ws) (q : a ∉ ws) : OwnA Z h' a ty vs := by obtain ⟨c, A, r⟩ := F; exact ⟨c, ⟨K.2.1 a c A.1 q, A.2⟩, r⟩
theorem OwnA.set (F : OwnA Z h a ty vs) (W : Wr h h' a sl v) : OwnA Z h' a ty (vs.set sl v) := by
  obtain ⟨c, A, rfl⟩ := F
  exact ⟨_, A.same W, by simp [Cell.setSlot]⟩
theorem own_new {k : ClassId} {z : Int32} (A : Arr Z h a (newA k ty z) ty) (q : List.replicate z.toNatClampNeg (defaultValue ty) = vs) : OwnA Z h a ty vs := ⟨_, A, by rw [← q]; simp [newA]⟩
theorem own_inb {cl : Cell} {j : Int32} (hj : ¬ j < 0) (hv : cl.slots.toList[j.toNatClampNeg]? = some v) : ¬ (j < 0 ∨ cl.slots.size ≤ j.toNatClampNeg) ∧ cl.slots[j.toNatClampNeg]? = some v := by
  rw [Array.getElem?_toList] at hv
  exact ⟨fun q => q.elim hj fun q => absurd (Array.getElem?_eq_some_iff.mp hv).1 (Nat.not_lt.mpr q), hv⟩
theorem own_len (X : Stand p l e R s m args below meth c T locs cells slots) (hx : p.tables.exec = Jvm.exec) (hZ : Z.Warmed39 s.vm) (eT : T.heap = h) (F : OwnA Z h a ty vs) {z : Int32} (hz : Int32.ofNat vs.length = z) {g : JFrame} (hg : g.method = m) {rest : List Value} (hs : g.stack = .ref a :: rest)
    (hd : decode c.code g.pc = .ok (.arraylength, 1)) (target : State) (k : Steps p.tables e below (T.setTop { g with pc := g.pc + 1, stack := .int z :: rest }) target) : Steps p.tables e below (T.setTop g) target := by
  obtain ⟨cl, A, rfl⟩ := F
  refine X.arraylength hx (cell := cl) (by rw [eT]; exact A.1) (State.isArrayOf_alike hZ.alike A.2.1) hg hs hd _ ?_
  rw [Array.length_toList] at hz
  rw [show cl.slots.size.toInt32 = z from hz]; exact k
theorem own_iaload (X : Stand p l e R s m args below meth c T locs cells slots) (hx : p.tables.exec = Jvm.exec) (hZ : Z.Warmed39 s.vm) (eT : T.heap = h) (F : OwnA Z h a .int vs) {j : Int32} (hj : ¬ j < 0) (hv : vs[j.toNatClampNeg]? = some v) {g : JFrame} (hg : g.method = m) {rest : List Value} (hs : g.stack = .int j :: .ref a :: rest)
    (hd : decode c.code g.pc = .ok (.iaload, 1)) (target : State) (k : Steps p.tables e below (T.setTop { g with pc := g.pc + 1, stack := v :: rest }) target) : Steps p.tables e below (T.setTop g) target := by
  obtain ⟨cl, A, rfl⟩ := F
  exact X.iaload hx (by rw [eT]; exact A.1) (State.isArrayOf_alike hZ.alike A.2.1) A.2.2 (own_inb hj hv).1 (own_inb hj hv).2 hg hs hd _ k
theorem own_laload (X : Stand p l e R s m args below meth c T locs cells slots) (hx : p.tables.exec = Jvm.exec) (hZ : Z.Warmed39 s.vm) (eT : T.heap = h) (F : OwnA Z h a .long vs) {j : Int32} (hj : ¬ j < 0) (hv : vs[j.toNatClampNeg]? = some v) {g : JFrame} (hg : g.method = m) {rest : List Value} (hs : g.stack = .int j :: .ref a :: rest)
    (hd : decode c.code g.pc = .ok (.laload, 1)) (target : State) (k : Steps p.tables e below (T.setTop { g with pc := g.pc + 1, stack := v :: rest }) target) : Steps p.tables e below (T.setTop g) target := by
  obtain ⟨cl, A, rfl⟩ := F
  exact X.laload hx (by rw [eT]; exact A.1) (State.isArrayOf_alike hZ.alike A.2.1) A.2.2 (own_inb hj hv).1 (own_inb hj hv).2 hg hs hd _ k
theorem own_caload (X : Stand p l e R s m args below meth c T locs cells slots) (hx : p.tables.exec = Jvm.exec) (hZ : Z.Warmed39 s.vm) (eT : T.heap = h) (F : OwnA Z h a .char vs) {j : Int32} (hj : ¬ j < 0) (hv : vs[j.toNatClampNeg]? = some v) {g : JFrame} (hg : g.method = m) {rest : List Value} (hs : g.stack = .int j :: .ref a :: rest)
    (hd : decode c.code g.pc = .ok (.caload, 1)) (target : State) (k : Steps p.tables e below (T.setTop { g with pc := g.pc + 1, stack := v :: rest }) target) : Steps p.tables e below (T.setTop g) target := by
  obtain ⟨cl, A, rfl⟩ := F
  exact X.caload hx (by rw [eT]; exact A.1) (State.isArrayOf_alike hZ.alike A.2.1) A.2.2 (own_inb hj hv).1 (own_inb hj hv).2 hg hs hd _ k
theorem own_baload (X : Stand p l e R s m args below meth c T locs cells slots) (hx : p.tables.exec = Jvm.exec) (hZ : Z.Warmed39 s.vm) (eT : T.heap = h) (F : OwnA Z h a .byte vs) {j : Int32} (hj : ¬ j < 0) (hv : vs[j.toNatClampNeg]? = some v) {g : JFrame} (hg : g.method = m) {rest : List Value} (hs : g.stack = .int j :: .ref a :: rest)
    (hd : decode c.code g.pc = .ok (.baload, 1)) (target : State) (k : Steps p.tables e below (T.setTop { g with pc := g.pc + 1, stack := v :: rest }) target) : Steps p.tables e below (T.setTop g) target := by
  obtain ⟨cl, A, rfl⟩ := F
  exact X.baloadBytes hx (by rw [eT]; exact A.1) (State.isArrayOf_alike hZ.alike A.2.1) A.2.2 (own_inb hj hv).1 (own_inb hj hv).2 hg hs hd _ k
theorem own_baloadZ (X : Stand p l e R s m args below meth c T locs cells slots) (hx : p.tables.exec = Jvm.exec) (hZ : Z.Warmed39 s.vm) (eT : T.heap = h) (F : OwnA Z h a .boolean vs) {j : Int32} (hj : ¬ j < 0) (hv : vs[j.toNatClampNeg]? = some v) {g : JFrame} (hg : g.method = m) {rest : List Value} (hs : g.stack = .int j :: .ref a :: rest)
    (hd : decode c.code g.pc = .ok (.baload, 1)) (target : State) (k : Steps p.tables e below (T.setTop { g with pc := g.pc + 1, stack := v :: rest }) target) : Steps p.tables e below (T.setTop g) target := by
  obtain ⟨cl, A, rfl⟩ := F
  exact X.baloadBooleans hx (by rw [eT]; exact A.1) (State.isArrayOf_alike hZ.alike A.2.1) A.2.2 (own_inb hj hv).1 (own_inb hj hv).2 hg hs hd _ k
theorem own_aaload (X : Stand p l e R s m args below meth c T locs cells slots) (hx : p.tables.exec = Jvm.exec) (hZ : Z.Warmed39 s.vm) (eT : T.heap = h) (F : OwnA Z h a ty vs) (hty : ty.isReference = true) {j : Int32} (hj : ¬ j < 0) (hv : vs[j.toNatClampNeg]? = some v) {g : JFrame} (hg : g.method = m) {rest : List Value} (hs : g.stack = .int j :: .ref a :: rest)
    (hd : decode c.code g.pc = .ok (.aaload, 1)) (target : State) (k : Steps p.tables e below (T.setTop { g with pc := g.pc + 1, stack := v :: rest }) target) : Steps p.tables e below (T.setTop g) target := by
  obtain ⟨cl, A, rfl⟩ := F
  exact X.aaload hx (by rw [eT]; exact A.1) (State.isArrayOf_alike hZ.alike A.2.1) hty A.2.2 (own_inb hj hv).1 (own_inb hj hv).2 hg hs hd _ k
theorem own_inl {cl : Cell} {j : Int32} (hj : ¬ j < 0) (hl : j.toNatClampNeg < cl.slots.toList.length) : ¬ (j < 0 ∨ cl.slots.size ≤ j.toNatClampNeg) := by
  rw [Array.length_toList] at hl
  exact fun q => q.elim hj fun q => absurd hl (Nat.not_lt.mpr q)
theorem own_stI (X : Stand p l e R s m args below meth c T locs cells slots) (hx : p.tables.exec = Jvm.exec) (hZ : Z.Warmed39 s.vm) (eT : T.heap = h) (F : OwnA Z h a .int vs) {j x : Int32} (hj : ¬ j < 0) (hl : j.toNatClampNeg < vs.length) {g : JFrame} (hg : g.method = m) {rest : List Value} (hs : g.stack = .int x :: .int j :: .ref a :: rest) (hd : decode c.code g.pc = .ok (.iastore, 1)) :
    ∃ T' h', Stand p l e R s m args below meth c T' (locs ++ [⟨a, j.toNatClampNeg⟩]) cells slots ∧ T'.heap = h' ∧ Wr h h' a j.toNatClampNeg (.int x) ∧ ∀ target, Steps p.tables e below (T'.setTop { g with pc := g.pc + 1, stack := rest }) target → Steps p.tables e below (T.setTop g) target := by
  obtain ⟨cl, A, rfl⟩ := F
  exact stI X hx hZ eT A (own_inl hj hl) hg hs hd
theorem own_stJ (X : Stand p l e R s m args below meth c T locs cells slots) (hx : p.tables.exec = Jvm.exec) (hZ : Z.Warmed39 s.vm) (eT : T.heap = h) (F : OwnA Z h a .long vs) {j : Int32} {x : Int64} (hj : ¬ j < 0) (hl : j.toNatClampNeg < vs.length) {g : JFrame} (hg : g.method = m) {rest : List Value} (hs : g.stack = .long x :: .int j :: .ref a :: rest) (hd : decode c.code g.pc = .ok (.lastore, 1)) :
    ∃ T' h', Stand p l e R s m args below meth c T' (locs ++ [⟨a, j.toNatClampNeg⟩]) cells slots ∧ T'.heap = h' ∧ Wr h h' a j.toNatClampNeg (.long x) ∧ ∀ target, Steps p.tables e below (T'.setTop { g with pc := g.pc + 1, stack := rest }) target → Steps p.tables e below (T.setTop g) target := by
  obtain ⟨cl, A, rfl⟩ := F
  exact stJ X hx hZ eT A (own_inl hj hl) hg hs hd
theorem own_stB (X : Stand p l e R s m args below meth c T locs cells slots) (hx : p.tables.exec = Jvm.exec) (hZ : Z.Warmed39 s.vm) (eT : T.heap = h) (F : OwnA Z h a .byte vs) {j x : Int32} (hj : ¬ j < 0) (hl : j.toNatClampNeg < vs.length) {g : JFrame} (hg : g.method = m) {rest : List Value} (hs : g.stack = .int x :: .int j :: .ref a :: rest) (hd : decode c.code g.pc = .ok (.bastore, 1)) :
    ∃ T' h', Stand p l e R s m args below meth c T' (locs ++ [⟨a, j.toNatClampNeg⟩]) cells slots ∧ T'.heap = h' ∧ Wr h h' a j.toNatClampNeg (.int x.toInt8.toInt32) ∧ ∀ target, Steps p.tables e below (T'.setTop { g with pc := g.pc + 1, stack := rest }) target → Steps p.tables e below (T.setTop g) target := by
  obtain ⟨cl, A, rfl⟩ := F
  exact stB X hx hZ eT A (own_inl hj hl) hg hs hd
theorem own_stC (X : Stand p l e R s m args below meth c T locs cells slots) (hx : p.tables.exec = Jvm.exec) (hZ : Z.Warmed39 s.vm) (eT : T.heap = h) (F : OwnA Z h a .char vs) {j x : Int32} (hj : ¬ j < 0) (hl : j.toNatClampNeg < vs.length) {g : JFrame} (hg : g.method = m) {rest : List Value} (hs : g.stack = .int x :: .int j :: .ref a :: rest) (hd : decode c.code g.pc = .ok (.castore, 1)) :
    ∃ T' h', Stand p l e R s m args below meth c T' (locs ++ [⟨a, j.toNatClampNeg⟩]) cells slots ∧ T'.heap = h' ∧ Wr h h' a j.toNatClampNeg (.int x.toUInt32.toUInt16.toUInt32.toInt32) ∧ ∀ target, Steps p.tables e below (T'.setTop { g with pc := g.pc + 1, stack := rest }) target → Steps p.tables e below (T.setTop g) target := by
  obtain ⟨cl, A, rfl⟩ := F
  exact stC X hx hZ eT A (own_inl hj hl) hg hs hd
theorem own_dupx2 {target : State} (X : Stand p l e R s m args below meth c T locs cells slots) (hx : p.tables.exec = Jvm.exec) {g : JFrame} (hg : g.method = m) {x y z : Value} {rest : List Value} (hd : decode c.code g.pc = .ok (.dup_x2, 1)) (hs : g.stack = x :: y :: z :: rest) (hc : x.category = 1) (hc' : y.category = 1) (hc'' : z.category = 1)
    (k : Steps p.tables e below (T.setTop { g with pc := g.pc + 1, stack := x :: y :: z :: x :: rest }) target) : Steps p.tables e below (T.setTop g) target := by
  subst hg
  jvm_step X.here [X.here.top, hx, hd, hs, hc, hc', hc'']
  exact k
theorem own_dup2 {target : State} (X : Stand p l e R s m args below meth c T locs cells slots) (hx : p.tables.exec = Jvm.exec) {g : JFrame} (hg : g.method = m) {x y : Value} {rest : List Value} (hd : decode c.code g.pc = .ok (.dup2, 1)) (hs : g.stack = x :: y :: rest) (hc : x.category = 1) (hc' : y.category = 1)
    (k : Steps p.tables e below (T.setTop { g with pc := g.pc + 1, stack := x :: y :: x :: y :: rest }) target) : Steps p.tables e below (T.setTop g) target := by
  subst hg
  jvm_step X.here [X.here.top, hx, hd, hs, hc, hc']
  exact k
/-- the array (of int[]) at a, of the class k, holds just these values -/
def OwnR (Z : State) (h : Heap) (a : Addr) (k : ClassId) (vs : List Value) : Prop := ∃ c : Cell, Arr Z h a c (.array .int) ∧ c.slots.toList = vs ∧ c.cls = k
theorem OwnR.toA {k : ClassId} (F : OwnR Z h a k vs) : OwnA Z h a (.array .int) vs := by obtain ⟨c, A, q, -⟩ := F; exact ⟨c, A, q⟩
theorem OwnR.lt {k : ClassId} (F : OwnR Z h a k vs) : a < h.size := F.toA.lt
theorem OwnR.ext {k : ClassId} (F : OwnR Z h a k vs) (E : Ext h h') : OwnR Z h' a k vs := by obtain ⟨c, A, r⟩ := F; exact ⟨c, A.ext E, r⟩
theorem OwnR.other {k : ClassId} (F : OwnR Z h a k vs) (W : Wr h h' b sl v) (q : a ≠ b) : OwnR Z h' a k vs := by obtain ⟨c, A, r⟩ := F; exact ⟨c, A.other W q, r⟩
theorem OwnR.keep {k : ClassId} {ws : List Addr} (F : OwnR Z h a k vs) (K : Keep h h' ws) (q : a ∉ ws) : OwnR Z h' a k vs := by obtain ⟨c, A, r⟩ := F; exact ⟨c, ⟨K.2.1 a c A.1 q, A.2⟩, r⟩
theorem OwnR.set {k : ClassId} (F : OwnR Z h a k vs) (W : Wr h h' a sl v) : OwnR Z h' a k (vs.set sl v) := by
  obtain ⟨c, A, rfl, r⟩ := F
  exact ⟨_, A.same W, by simp [Cell.setSlot], r⟩
theorem own_stR (X : Stand p l e R s m args below meth c T locs cells slots) (hx : p.tables.exec = Jvm.exec) (hZ : Z.Warmed39 s.vm) (eT : T.heap = h) {k : ClassId} (F : OwnR Z h a k vs) {C : String} (O : OvrA Z k .int C) {y : Addr} (I : Ins Z h y C true) {j : Int32} (hj : ¬ j < 0) (hl : j.toNatClampNeg < vs.length) {g : JFrame} (hg : g.method = m) {rest : List Value} (hs : g.stack = .ref y :: .int j :: .ref a :: rest) (hd : decode c.code g.pc = .ok (.aastore, 1)) :
    ∃ T' h', Stand p l e R s m args below meth c T' (locs ++ [⟨a, j.toNatClampNeg⟩]) cells slots ∧ T'.heap = h' ∧ Wr h h' a j.toNatClampNeg (.ref y) ∧ ∀ target, Steps p.tables e below (T'.setTop { g with pc := g.pc + 1, stack := rest }) target → Steps p.tables e below (T.setTop g) target := by
  obtain ⟨cl, A, rfl, q⟩ := F
  exact stR X hx hZ eT A (own_inl hj hl) rfl (Sto.ofVA A q O I) hg hs hd
end Own
theorem own_lt {i n : Nat} (h : i < n) (hn : n < 2147483648) : Int32.ofNat i < Int32.ofNat n := by
  rw [Int32.lt_iff_toInt_lt, Int32.toInt_ofNat_of_lt (by omega), Int32.toInt_ofNat_of_lt (by omega)]
  omega
theorem own_nlt {i n : Nat} (h : ¬ i < n) (hi : i < 2147483648) : ¬ Int32.ofNat i < Int32.ofNat n := by
  rw [Int32.lt_iff_toInt_lt, Int32.toInt_ofNat_of_lt (by omega), Int32.toInt_ofNat_of_lt (by omega)]
  omega
theorem own_nn {n : Nat} (hn : n < 2147483648) : ¬ Int32.ofNat n < 0 := by
  rw [Int32.lt_iff_toInt_lt, Int32.toInt_ofNat_of_lt (by omega), show (0 : Int32).toInt = 0 from rfl]
  omega
theorem own_n32 {n : Nat} (hn : n < 2147483648) : (Int32.ofNat n).toNatClampNeg = n := by
  rw [Int32.toNatClampNeg, Int32.toInt_ofNat_of_lt (by omega)]; rfl
theorem own_one (i : Nat) : Int32.ofNat i + (1 : Int32) = Int32.ofNat (i + 1) := (Int32.ofNat_add i 1).symm
section OwnLib
variable {p : Program} {l : Launch} {e : Env} {R : Room} {s : State} {m : MethodId} {args a0 : Array Value} {below : List Frame} {meth : Method} {c : Code} {T : State} {locs : List Loc} {cells slots : Nat} {Z : State} {h h' h'' : Heap} {a b : Addr} {ty : FieldType} {vs : List Value} {v w : Value} {sl : Nat}
theorem own_selP {y : MethodName} {n : Nat} (hZ : Z.Warmed39 s.vm) (wi : (Cond.instantiable y.cls n).before a0 Z = true) (wp : (Cond.privateMethod y).before a0 Z = true) (wm : (Cond.instanceMethod y).before a0 Z = true) (hy : y.cls ≠ "java/lang/invoke/MethodHandle" ∧ y.cls ≠ "java/lang/invoke/VarHandle") : (Cond.selects y.cls y y).before args s = true := by
  obtain ⟨c, k, h1, h2, h3, h4, -⟩ := Cond.instantiable_spec (mv (args := args) hZ wi)
  simp only [Bool.or_eq_false_iff] at h4
  exact selects_self_of_private h1 h2 h4.1 (Cond.privateMethod_at (mvP hZ wp (args := args))) (mv hZ wm) hy
theorem own_recast {L' : List Loc} {k' n' : Nat} (X : Stand p l e R s m args below meth c T locs cells slots) (h1 : locs = L') (h2 : cells = k') (h3 : slots = n') : Stand p l e R s m args below meth c T L' k' n' := by
  subst h1 h2 h3; exact X
theorem own_wrefl {C n d : String} (F : Fld Z h a C n d v) : Wr h h a (Jvm.RoadKit.slotOf Z C n d) v := by
  obtain ⟨cell, cf, k, i, f, h1, h2, h3, h4, h5, h6, h7⟩ := F
  have e1 : Jvm.RoadKit.slotOf Z C n d = f.slot := by simp [Jvm.RoadKit.slotOf, h2]
  obtain ⟨hl, hq⟩ := Array.getElem?_eq_some_iff.mp h7
  obtain ⟨ha, hc⟩ := Array.getElem?_eq_some_iff.mp h1
  refine ⟨cell, h1, h5, by rw [e1]; exact hl, ?_⟩
  have e2 : cell.setSlot f.slot v = cell := by
    have : cell.slots.setIfInBounds f.slot v = cell.slots := by
      apply Array.ext (by simp)
      intro j q1 q2
      rw [Array.getElem_setIfInBounds]
      split
      · rename_i r; subst r; exact hq.symm
      · rfl
    simp [Cell.setSlot, this]
  rw [e1, e2]
  apply Array.ext (by simp)
  intro j q1 q2
  rw [Array.getElem_setIfInBounds]
  split
  · rename_i r; subst r; exact hc
  · rfl
theorem own_wtrans (W : Wr h h' a sl v) (W' : Wr h' h'' a sl w) : Wr h h'' a sl w := by
  obtain ⟨cell, h1, h2, h3, rfl⟩ := W
  obtain ⟨cell', g1, g2, g3, rfl⟩ := W'
  obtain ⟨ha, hc⟩ := Array.getElem?_eq_some_iff.mp h1
  have e : cell' = cell.setSlot sl v := by
    have : (h.setIfInBounds a (cell.setSlot sl v))[a]? = some (cell.setSlot sl v) := by simp [ha]
    exact Option.some.inj (g1.symm.trans this)
  subst e
  refine ⟨cell, h1, h2, h3, ?_⟩
  simp [Cell.setSlot]
/-- a white sign -/
def own_w (c : Int32) : Int32 := if c = 32 then 1 else if c = 9 then 1 else if c = 10 then 1 else if c = 13 then 1 else 0
/-- from p to q all is white, and what stands at q isn't -/
def own_ws (LN : List Value) (p q : Nat) : Prop := p ≤ q ∧ q ≤ 23 ∧ (∀ i, p ≤ i → i < q → ∃ c : Int32, LN[i]? = some (.int c) ∧ own_w c = 1) ∧ (q < 23 → ∃ c : Int32, LN[q]? = some (.int c) ∧ own_w c = 0)
theorem own_at {LN : List Value} {i : Nat} (hi : i < 2147483648) (q : LN[i]? = some v) : LN[(Int32.ofNat i).toNatClampNeg]? = some v := by rw [own_n32 hi]; exact q
theorem own_ofne {i n : Nat} (hi : i < 2147483648) (hn : n < 2147483648) (h : i ≠ n) : ¬ Int32.ofNat i = Int32.ofNat n := fun q => by
  have := congrArg Int32.toNatClampNeg q
  rw [own_n32 hi, own_n32 hn] at this
  exact h this
/-- the statics that the road reads -/
def own_st (Z : State) (cs : Int32) (fo : Value) (bo : Addr) : Prop := Sta Z Z.heap "java/lang/String" "COMPACT_STRINGS" "Z" (.int cs) ∧ cs ≠ 0 ∧ Sta Z Z.heap "jdk/internal/util/Preconditions" "SIOOBE_FORMATTER" "Ljava/util/function/BiFunction;" fo ∧ (fo = .null ∨ ∃ a, fo = .ref a) ∧ Sta Z Z.heap "com/example/upright_play/uprightplay/event/Members$Type" "BOOLEAN" "Lcom/example/upright_play/uprightplay/event/Members$Type;" (.ref bo) ∧ Exa Z Z.heap bo "com/example/upright_play/uprightplay/event/Members$Type"
/-- the String at a, its bytes at b -/
def own_str (Z : State) (h : Heap) (a b : Addr) (vs : List Value) : Prop := Exa Z h a "java/lang/String" ∧ Fld Z h a "java/lang/String" "coder" "B" (.int 0) ∧ Fld Z h a "java/lang/String" "value" "[B" (.ref b) ∧ OwnA Z h b .byte vs
theorem own_str_wr {x : Addr} (S : own_str Z h a b vs) (W : Wr h h' x sl v) (h1 : a ≠ x) (h2 : b ≠ x) : own_str Z h' a b vs := ⟨S.1.wr W, S.2.1.other W (Or.inl h1), S.2.2.1.other W (Or.inl h1), S.2.2.2.other W h2⟩
theorem own_str_ext (S : own_str Z h a b vs) (E : Ext h h') : own_str Z h' a b vs := ⟨S.1.ext E, S.2.1.ext E, S.2.2.1.ext E, S.2.2.2.ext E⟩
theorem own_str_keep {ws : List Addr} (S : own_str Z h a b vs) (K : Keep h h' ws) (h1 : a ∉ ws) (h2 : b ∉ ws) : own_str Z h' a b vs := ⟨S.1.keep K, S.2.1.keep K h1, S.2.2.1.keep K h1, S.2.2.2.keep K h2⟩
theorem own_strne0 {n : Nat} {x : Addr} {C : String} (w : (Cond.instantiable C n).before a0 Z = true) (E : Exa Z h x C) (F : OwnA Z h b ty vs) : b ≠ x := fun q => by
  subst q
  obtain ⟨cell, k, h1, h2, h3, h4, -⟩ := E
  obtain ⟨c, ⟨a1, ⟨-, k', a2, cm, a3⟩, -⟩, -⟩ := F
  obtain ⟨c', k2, q1, q2, q3, -⟩ := Cond.instantiable_spec w
  cases h1.symm.trans a1
  cases h2.symm.trans q1
  cases q2.symm.trans a2
  rw [q3] at a3; cases a3
end OwnLib
theorem own_rem (x : Int32) : ∃ j : Nat, j < 224 ∧ (x &&& (2147483647 : Int32)) % (224 : Int32) = Int32.ofNat j := by
  have h1 : ((x &&& (2147483647 : Int32)) % (224 : Int32)).toInt = (x.toInt % ((2 ^ 31 : Nat) : Int)).tmod 224 := by
    rw [Int32.toInt_mod, c_mask x _ 31 (by decide) (by decide)]; rfl
  have h2 : 0 ≤ x.toInt % ((2 ^ 31 : Nat) : Int) := Int.emod_nonneg _ (by decide)
  rw [Int.tmod_eq_emod_of_nonneg h2] at h1
  generalize x.toInt % ((2 ^ 31 : Nat) : Int) = y at h1 h2
  refine ⟨(y % 224).toNat, by omega, ?_⟩
  rw [← Int32.toInt_inj, h1, Int32.toInt_ofNat_of_lt (by omega)]
  omega
set_option maxRecDepth 65536 in
theorem own_c16 : ∀ k : Nat, k < 256 → (Int32.ofNat k).toUInt32.toUInt16.toUInt32.toInt32 = Int32.ofNat k := by decide +kernel
set_option maxRecDepth 65536 in
theorem own_b8 : ∀ k : Nat, k < 256 → ((Int32.ofNat k).toInt8.toInt32.toInt8.toInt32 &&& (255 : Int32)) = Int32.ofNat k := by decide +kernel
theorem own_add32 (j : Nat) : (32 : Int32) + Int32.ofNat j = Int32.ofNat (32 + j) := (Int32.ofNat_add 32 j).symm
def own_nc (k : Nat) : Prop := 32 ≤ k ∧ k < 256 ∧ k ≠ 34 ∧ k ≠ 92
def own_sl (k : Nat) : Nat := ((Int32.ofNat k * (-1640531527 : Int32)).toUInt32 >>> 27).toNat
set_option maxRecDepth 65536 in
theorem own_slot : ∀ k : Nat, k < 256 → ((Int32.ofNat k * (-1640531527 : Int32)).toUInt32 >>> ((27 : Int32) &&& 31).toUInt32).toInt32 = Int32.ofNat (own_sl k) ∧ own_sl k < 32 := by decide +kernel
set_option maxRecDepth 65536 in
theorem own_nxt : ∀ j : Nat, j < 32 → ((Int32.ofNat j + (1 : Int32)) &&& (31 : Int32)) = Int32.ofNat ((j + 1) % 32) := by decide +kernel
theorem own_zadd (x : Int32) : (0 : Int32) + x = x := Int32.zero_add x
theorem own_shr0 (x : Int32) : x >>> ((0 : Int32) &&& 31) = x := by simp
theorem pn_1 : plainName "com/example/upright_play/uprightplay/event/MembersBoolPinLaw" = true := by first | (simp [plainName, overriddenIn]; done) | decide +kernel
theorem ef_rm_nameChar (m : MethodId) (x0 : Int32) : entryFrame m #[(.int x0)] 2 = mkF m 0 #[.val (.int x0), .unset] [] := by first | (simp [entryFrame, mkF, argsToLocals, Value.category]; done) | rfl
def Q_rm_nameChar (Z : State) (z1 : Int32) (h0 : Heap) (n0 : Nat) (v : Option Value) (h : Heap) (L : List Loc) : Prop := ∃ k, v = some (.int (Int32.ofNat k)) ∧ Fr n0 L ∧ h = h0 ∧ own_nc k
set_option maxRecDepth 65536 in
set_option maxHeartbeats 40000000 in
theorem rm_nameChar (l : Launch) (Z : State) (a0 : Array Value) (hw : ∀ d ∈ tables_1, d.before a0 Z = true) (ws : List Jvm.Cond) (z1 : Int32) (h0 : Heap) (n0 : Nat) (Zn : n0 ≤ h0.size) :
    MetFree l (⟨"com/example/upright_play/uprightplay/event/MembersBoolPinLaw", "nameChar", "(I)C"⟩ : MethodName) (head1 (Jvm.Cond.code (⟨"com/example/upright_play/uprightplay/event/MembersBoolPinLaw", "nameChar", "(I)C"⟩ : MethodName) method_2_code 2 (some .char) :: ws) ({ frames := 0, cells := 0, slots := 0, locals := 0 } : Room)) (fun a U => a = #[(.int z1)] ∧ Z.Warmed39 U.vm ∧ U.heap = h0) (fun _ _ _ _ _ => True) (fun _ U o U' => ∃ v L, o = .returned v ∧ (Q_rm_nameChar Z z1 h0 n0) v U'.heap L ∧ FrameEnd U o U' L ({ frames := 0, cells := 0, slots := 0, locals := 0 } : Room).cells ({ frames := 0, cells := 0, slots := 0, locals := 0 } : Room).slots) := by
  sorry
theorem pn_2 : plainName "com/example/upright_play/uprightplay/event/MembersBoolPinLaw" = true := by first | (simp [plainName, overriddenIn]; done) | decide +kernel
theorem ef_rm_blank (m : MethodId) (x0 : Int32) : entryFrame m #[(.int x0)] 3 = mkF m 0 #[.val (.int x0), .unset, .unset] [] := by first | (simp [entryFrame, mkF, argsToLocals, Value.category]; done) | rfl
def Q_rm_blank (Z : State) (z1 : Int32) (h0 : Heap) (n0 : Nat) (v : Option Value) (h : Heap) (L : List Loc) : Prop := ∃ b : Int32, v = some (.int b) ∧ Fr n0 L ∧ h = h0 ∧ own_w b = 1 ∧ b.toUInt32.toUInt16.toUInt32.toInt32 = b
set_option maxRecDepth 65536 in
set_option maxHeartbeats 40000000 in
theorem rm_blank (l : Launch) (Z : State) (a0 : Array Value) (hw : ∀ d ∈ tables_1, d.before a0 Z = true) (ws : List Jvm.Cond) (z1 : Int32) (h0 : Heap) (n0 : Nat) (Zn : n0 ≤ h0.size) :
    MetFree l (⟨"com/example/upright_play/uprightplay/event/MembersBoolPinLaw", "blank", "(I)C"⟩ : MethodName) (head1 (Jvm.Cond.code (⟨"com/example/upright_play/uprightplay/event/MembersBoolPinLaw", "blank", "(I)C"⟩ : MethodName) method_3_code 3 (some .char) :: ws) ({ frames := 0, cells := 0, slots := 0, locals := 0 } : Room)) (fun a U => a = #[(.int z1)] ∧ Z.Warmed39 U.vm ∧ U.heap = h0) (fun _ _ _ _ _ => True) (fun _ U o U' => ∃ v L, o = .returned v ∧ (Q_rm_blank Z z1 h0 n0) v U'.heap L ∧ FrameEnd U o U' L ({ frames := 0, cells := 0, slots := 0, locals := 0 } : Room).cells ({ frames := 0, cells := 0, slots := 0, locals := 0 } : Room).slots) := by
  sorry
theorem pn_9 : plainName "com/example/upright_play/uprightplay/event/Members" = true := by first | (simp [plainName, overriddenIn]; done) | decide +kernel
theorem ef_rm_isWs (m : MethodId) (x0 : Int32) : entryFrame m #[(.int x0)] 1 = mkF m 0 #[.val (.int x0)] [] := by first | (simp [entryFrame, mkF, argsToLocals, Value.category]; done) | rfl
def Q_rm_isWs (Z : State) (z1 : Int32) (h0 : Heap) (n0 : Nat) (v : Option Value) (h : Heap) (L : List Loc) : Prop := v = some (.int (own_w z1)) ∧ Fr n0 L ∧ h = h0
set_option maxRecDepth 65536 in
set_option maxHeartbeats 40000000 in
theorem rm_isWs (l : Launch) (Z : State) (a0 : Array Value) (hw : ∀ d ∈ tables_1, d.before a0 Z = true) (ws : List Jvm.Cond) (z1 : Int32) (h0 : Heap) (n0 : Nat) (Zn : n0 ≤ h0.size) :
    MetFree l (⟨"com/example/upright_play/uprightplay/event/Members", "isWhitespace", "(C)Z"⟩ : MethodName) (head1 (Jvm.Cond.code (⟨"com/example/upright_play/uprightplay/event/Members", "isWhitespace", "(C)Z"⟩ : MethodName) prog_95_method_37_code 1 (some .boolean) :: ws) ({ frames := 0, cells := 0, slots := 0, locals := 0 } : Room)) (fun a U => a = #[(.int z1)] ∧ Z.Warmed39 U.vm ∧ U.heap = h0) (fun _ _ _ _ _ => True) (fun _ U o U' => ∃ v L, o = .returned v ∧ (Q_rm_isWs Z z1 h0 n0) v U'.heap L ∧ FrameEnd U o U' L ({ frames := 0, cells := 0, slots := 0, locals := 0 } : Room).cells ({ frames := 0, cells := 0, slots := 0, locals := 0 } : Room).slots) := by
  sorry
theorem pn_24 : plainName "com/example/upright_play/uprightplay/event/Members" = true := by first | (simp [plainName, overriddenIn]; done) | decide +kernel
theorem ef_rm_isDel (m : MethodId) (x0 : Int32) : entryFrame m #[(.int x0)] 1 = mkF m 0 #[.val (.int x0)] [] := by first | (simp [entryFrame, mkF, argsToLocals, Value.category]; done) | rfl
def Q_rm_isDel (Z : State) (z1 : Int32) (h0 : Heap) (n0 : Nat) (v : Option Value) (h : Heap) (L : List Loc) : Prop := v = some (.int (1 : Int32)) ∧ Fr n0 L ∧ h = h0
set_option maxRecDepth 65536 in
set_option maxHeartbeats 40000000 in
theorem rm_isDel (l : Launch) (Z : State) (a0 : Array Value) (hw : ∀ d ∈ tables_1, d.before a0 Z = true) (ws : List Jvm.Cond) (z1 : Int32) (h0 : Heap) (n0 : Nat) (Zn : n0 ≤ h0.size) (hz : z1 = 32 ∨ z1 = 44 ∨ z1 = 125) :
    MetFree l (⟨"com/example/upright_play/uprightplay/event/Members", "isDelimiter", "(C)Z"⟩ : MethodName) (head1 (Jvm.Cond.code (⟨"com/example/upright_play/uprightplay/event/Members", "isDelimiter", "(C)Z"⟩ : MethodName) prog_95_method_38_code 1 (some .boolean) :: ws) ({ frames := 0, cells := 0, slots := 0, locals := 0 } : Room)) (fun a U => a = #[(.int z1)] ∧ Z.Warmed39 U.vm ∧ U.heap = h0) (fun _ _ _ _ _ => True) (fun _ U o U' => ∃ v L, o = .returned v ∧ (Q_rm_isDel Z z1 h0 n0) v U'.heap L ∧ FrameEnd U o U' L ({ frames := 0, cells := 0, slots := 0, locals := 0 } : Room).cells ({ frames := 0, cells := 0, slots := 0, locals := 0 } : Room).slots) := by
  sorry
theorem pn_27 : plainName "com/example/upright_play/uprightplay/event/Members" = true := by first | (simp [plainName, overriddenIn]; done) | decide +kernel
theorem ef_rm_slotOf (m : MethodId) (x0 : Int32) : entryFrame m #[(.int x0)] 1 = mkF m 0 #[.val (.int x0)] [] := by first | (simp [entryFrame, mkF, argsToLocals, Value.category]; done) | rfl
def Q_rm_slotOf (Z : State) (ch : Nat) (h0 : Heap) (n0 : Nat) (v : Option Value) (h : Heap) (L : List Loc) : Prop := v = some (.int (Int32.ofNat (own_sl ch))) ∧ Fr n0 L ∧ h = h0
set_option maxRecDepth 65536 in
set_option maxHeartbeats 40000000 in
theorem rm_slotOf (l : Launch) (Z : State) (a0 : Array Value) (hw : ∀ d ∈ tables_1, d.before a0 Z = true) (ws : List Jvm.Cond) (ch : Nat) (h0 : Heap) (n0 : Nat) (Zn : n0 ≤ h0.size) (hk : ch < 256) :
    MetFree l (⟨"com/example/upright_play/uprightplay/event/Members", "slotOf", "(I)I"⟩ : MethodName) (head1 (Jvm.Cond.code (⟨"com/example/upright_play/uprightplay/event/Members", "slotOf", "(I)I"⟩ : MethodName) prog_95_method_26_code 1 (some .int) :: ws) ({ frames := 0, cells := 0, slots := 0, locals := 0 } : Room)) (fun a U => a = #[(.int (Int32.ofNat ch))] ∧ Z.Warmed39 U.vm ∧ U.heap = h0) (fun _ _ _ _ _ => True) (fun _ U o U' => ∃ v L, o = .returned v ∧ (Q_rm_slotOf Z ch h0 n0) v U'.heap L ∧ FrameEnd U o U' L ({ frames := 0, cells := 0, slots := 0, locals := 0 } : Room).cells ({ frames := 0, cells := 0, slots := 0, locals := 0 } : Room).slots) := by
  sorry
theorem pn_37 : plainName "com/example/upright_play/uprightplay/event/Members" = true := by first | (simp [plainName, overriddenIn]; done) | decide +kernel
theorem ef_rm_next (m : MethodId) (x0 : Int32) : entryFrame m #[(.int x0)] 1 = mkF m 0 #[.val (.int x0)] [] := by first | (simp [entryFrame, mkF, argsToLocals, Value.category]; done) | rfl
def Q_rm_next (Z : State) (j : Nat) (h0 : Heap) (n0 : Nat) (v : Option Value) (h : Heap) (L : List Loc) : Prop := v = some (.int (Int32.ofNat ((j + 1) % 32))) ∧ Fr n0 L ∧ h = h0
set_option maxRecDepth 65536 in
set_option maxHeartbeats 40000000 in
theorem rm_next (l : Launch) (Z : State) (a0 : Array Value) (hw : ∀ d ∈ tables_1, d.before a0 Z = true) (ws : List Jvm.Cond) (j : Nat) (h0 : Heap) (n0 : Nat) (Zn : n0 ≤ h0.size) (hj : j < 32) :
    MetFree l (⟨"com/example/upright_play/uprightplay/event/Members", "next", "(I)I"⟩ : MethodName) (head1 (Jvm.Cond.code (⟨"com/example/upright_play/uprightplay/event/Members", "next", "(I)I"⟩ : MethodName) prog_95_method_27_code 1 (some .int) :: ws) ({ frames := 0, cells := 0, slots := 0, locals := 0 } : Room)) (fun a U => a = #[(.int (Int32.ofNat j))] ∧ Z.Warmed39 U.vm ∧ U.heap = h0) (fun _ _ _ _ _ => True) (fun _ U o U' => ∃ v L, o = .returned v ∧ (Q_rm_next Z j h0 n0) v U'.heap L ∧ FrameEnd U o U' L ({ frames := 0, cells := 0, slots := 0, locals := 0 } : Room).cells ({ frames := 0, cells := 0, slots := 0, locals := 0 } : Room).slots) := by
  sorry
theorem pn_29 : plainName "java/lang/StringLatin1" = true := by first | (simp [plainName, overriddenIn]; done) | decide +kernel
theorem ef_rm_canEnc (m : MethodId) (x0 : Int32) : entryFrame m #[(.int x0)] 1 = mkF m 0 #[.val (.int x0)] [] := by first | (simp [entryFrame, mkF, argsToLocals, Value.category]; done) | rfl
def Q_rm_canEnc (Z : State) (ch : Nat) (h0 : Heap) (n0 : Nat) (v : Option Value) (h : Heap) (L : List Loc) : Prop := v = some (.int (1 : Int32)) ∧ Fr n0 L ∧ h = h0
set_option maxRecDepth 65536 in
set_option maxHeartbeats 40000000 in
theorem rm_canEnc (l : Launch) (Z : State) (a0 : Array Value) (hw : ∀ d ∈ tables_1, d.before a0 Z = true) (ws : List Jvm.Cond) (ch : Nat) (h0 : Heap) (n0 : Nat) (Zn : n0 ≤ h0.size) (hk : ch < 256) :
    MetFree l (⟨"java/lang/StringLatin1", "canEncode", "(C)Z"⟩ : MethodName) (head1 (Jvm.Cond.code (⟨"java/lang/StringLatin1", "canEncode", "(C)Z"⟩ : MethodName) jdk_43_method_3_code 1 (some .boolean) :: ws) ({ frames := 0, cells := 0, slots := 0, locals := 0 } : Room)) (fun a U => a = #[(.int (Int32.ofNat ch))] ∧ Z.Warmed39 U.vm ∧ U.heap = h0) (fun _ _ _ _ _ => True) (fun _ U o U' => ∃ v L, o = .returned v ∧ (Q_rm_canEnc Z ch h0 n0) v U'.heap L ∧ FrameEnd U o U' L ({ frames := 0, cells := 0, slots := 0, locals := 0 } : Room).cells ({ frames := 0, cells := 0, slots := 0, locals := 0 } : Room).slots) := by
  sorry
theorem pn_17 : plainName "java/lang/String" = true := by first | (simp [plainName, overriddenIn]; done) | decide +kernel
theorem ef_rm_coder (m : MethodId) (x0 : Addr) : entryFrame m #[(.ref x0)] 1 = mkF m 0 #[.val (.ref x0)] [] := by first | (simp [entryFrame, mkF, argsToLocals, Value.category]; done) | rfl
def Q_rm_coder (Z : State) (sa sb : Addr) (bs : List Value) (cs : Int32) (fo : Value) (bo : Addr) (h0 : Heap) (n0 : Nat) (v : Option Value) (h : Heap) (L : List Loc) : Prop := v = some (.int (0 : Int32)) ∧ Fr n0 L ∧ h = h0
set_option maxRecDepth 65536 in
set_option maxHeartbeats 40000000 in
theorem rm_coder (l : Launch) (Z : State) (a0 : Array Value) (hw : ∀ d ∈ tables_1, d.before a0 Z = true) (ws : List Jvm.Cond) (sa sb : Addr) (bs : List Value) (cs : Int32) (fo : Value) (bo : Addr) (h0 : Heap) (n0 : Nat) (Zn : n0 ≤ h0.size) (S_a : own_str Z h0 sa sb bs) (O : Old Z n0 h0) (SS : own_st Z cs fo bo) :
    MetFree l (⟨"java/lang/String", "coder", "()B"⟩ : MethodName) (head1 (Jvm.Cond.code (⟨"java/lang/String", "coder", "()B"⟩ : MethodName) jdk_42_method_152_code 1 (some .byte) :: ws) ({ frames := 0, cells := 0, slots := 0, locals := 0 } : Room)) (fun a U => a = #[(.ref sa)] ∧ Z.Warmed39 U.vm ∧ U.heap = h0) (fun _ _ _ _ _ => True) (fun _ U o U' => ∃ v L, o = .returned v ∧ (Q_rm_coder Z sa sb bs cs fo bo h0 n0) v U'.heap L ∧ FrameEnd U o U' L ({ frames := 0, cells := 0, slots := 0, locals := 0 } : Room).cells ({ frames := 0, cells := 0, slots := 0, locals := 0 } : Room).slots) := by
  sorry
theorem pn_19 : plainName "java/lang/String" = true := by first | (simp [plainName, overriddenIn]; done) | decide +kernel
theorem ef_rm_isL1 (m : MethodId) (x0 : Addr) : entryFrame m #[(.ref x0)] 1 = mkF m 0 #[.val (.ref x0)] [] := by first | (simp [entryFrame, mkF, argsToLocals, Value.category]; done) | rfl
def Q_rm_isL1 (Z : State) (sa sb : Addr) (bs : List Value) (cs : Int32) (fo : Value) (bo : Addr) (h0 : Heap) (n0 : Nat) (v : Option Value) (h : Heap) (L : List Loc) : Prop := v = some (.int (1 : Int32)) ∧ Fr n0 L ∧ h = h0
set_option maxRecDepth 65536 in
set_option maxHeartbeats 40000000 in
theorem rm_isL1 (l : Launch) (Z : State) (a0 : Array Value) (hw : ∀ d ∈ tables_1, d.before a0 Z = true) (ws : List Jvm.Cond) (sa sb : Addr) (bs : List Value) (cs : Int32) (fo : Value) (bo : Addr) (h0 : Heap) (n0 : Nat) (Zn : n0 ≤ h0.size) (S_a : own_str Z h0 sa sb bs) (O : Old Z n0 h0) (SS : own_st Z cs fo bo) :
    MetFree l (⟨"java/lang/String", "isLatin1", "()Z"⟩ : MethodName) (head1 (Jvm.Cond.code (⟨"java/lang/String", "isLatin1", "()Z"⟩ : MethodName) jdk_42_method_154_code 1 (some .boolean) :: ws) ({ frames := 0, cells := 0, slots := 0, locals := 0 } : Room)) (fun a U => a = #[(.ref sa)] ∧ Z.Warmed39 U.vm ∧ U.heap = h0) (fun _ _ _ _ _ => True) (fun _ U o U' => ∃ v L, o = .returned v ∧ (Q_rm_isL1 Z sa sb bs cs fo bo h0 n0) v U'.heap L ∧ FrameEnd U o U' L ({ frames := 0, cells := 0, slots := 0, locals := 0 } : Room).cells ({ frames := 0, cells := 0, slots := 0, locals := 0 } : Room).slots) := by
  sorry
theorem pn_22 : plainName "jdk/internal/util/Preconditions" = true := by first | (simp [plainName, overriddenIn]; done) | decide +kernel
theorem ef_rm_pciN (m : MethodId) (x0 : Int32) (x1 : Int32) : entryFrame m #[(.int x0), (.int x1), .null] 3 = mkF m 0 #[.val (.int x0), .val (.int x1), .val .null] [] := by first | (simp [entryFrame, mkF, argsToLocals, Value.category]; done) | rfl
def Q_rm_pciN (Z : State) (i n : Int32) (h0 : Heap) (n0 : Nat) (v : Option Value) (h : Heap) (L : List Loc) : Prop := v = some (.int i) ∧ Fr n0 L ∧ h = h0
set_option maxRecDepth 65536 in
set_option maxHeartbeats 40000000 in
theorem rm_pciN (l : Launch) (Z : State) (a0 : Array Value) (hw : ∀ d ∈ tables_1, d.before a0 Z = true) (ws : List Jvm.Cond) (i n : Int32) (h0 : Heap) (n0 : Nat) (Zn : n0 ≤ h0.size) (hi : ¬ i < 0) (hn : i < n) :
    MetFree l (⟨"jdk/internal/util/Preconditions", "checkIndex", "(IILjava/util/function/BiFunction;)I"⟩ : MethodName) (head1 (Jvm.Cond.code (⟨"jdk/internal/util/Preconditions", "checkIndex", "(IILjava/util/function/BiFunction;)I"⟩ : MethodName) jdk_41_method_11_code 3 (some .int) :: ws) ({ frames := 0, cells := 0, slots := 0, locals := 0 } : Room)) (fun a U => a = #[(.int i), (.int n), .null] ∧ Z.Warmed39 U.vm ∧ U.heap = h0) (fun _ _ _ _ _ => True) (fun _ U o U' => ∃ v L, o = .returned v ∧ (Q_rm_pciN Z i n h0 n0) v U'.heap L ∧ FrameEnd U o U' L ({ frames := 0, cells := 0, slots := 0, locals := 0 } : Room).cells ({ frames := 0, cells := 0, slots := 0, locals := 0 } : Room).slots) := by
  sorry
theorem ef_rm_pci (m : MethodId) (x0 : Int32) (x1 : Int32) (x2 : Addr) : entryFrame m #[(.int x0), (.int x1), (.ref x2)] 3 = mkF m 0 #[.val (.int x0), .val (.int x1), .val (.ref x2)] [] := by first | (simp [entryFrame, mkF, argsToLocals, Value.category]; done) | rfl
def Q_rm_pci (Z : State) (i n : Int32) (fo : Addr) (h0 : Heap) (n0 : Nat) (v : Option Value) (h : Heap) (L : List Loc) : Prop := v = some (.int i) ∧ Fr n0 L ∧ h = h0
set_option maxRecDepth 65536 in
set_option maxHeartbeats 40000000 in
theorem rm_pci (l : Launch) (Z : State) (a0 : Array Value) (hw : ∀ d ∈ tables_1, d.before a0 Z = true) (ws : List Jvm.Cond) (i n : Int32) (fo : Addr) (h0 : Heap) (n0 : Nat) (Zn : n0 ≤ h0.size) (hi : ¬ i < 0) (hn : i < n) :
    MetFree l (⟨"jdk/internal/util/Preconditions", "checkIndex", "(IILjava/util/function/BiFunction;)I"⟩ : MethodName) (head1 (Jvm.Cond.code (⟨"jdk/internal/util/Preconditions", "checkIndex", "(IILjava/util/function/BiFunction;)I"⟩ : MethodName) jdk_41_method_11_code 3 (some .int) :: ws) ({ frames := 0, cells := 0, slots := 0, locals := 0 } : Room)) (fun a U => a = #[(.int i), (.int n), (.ref fo)] ∧ Z.Warmed39 U.vm ∧ U.heap = h0) (fun _ _ _ _ _ => True) (fun _ U o U' => ∃ v L, o = .returned v ∧ (Q_rm_pci Z i n fo h0 n0) v U'.heap L ∧ FrameEnd U o U' L ({ frames := 0, cells := 0, slots := 0, locals := 0 } : Room).cells ({ frames := 0, cells := 0, slots := 0, locals := 0 } : Room).slots) := by
  sorry
theorem pn_21 : plainName "java/lang/String" = true := by first | (simp [plainName, overriddenIn]; done) | decide +kernel
theorem ef_rm_sci (m : MethodId) (x0 : Int32) (x1 : Int32) : entryFrame m #[(.int x0), (.int x1)] 2 = mkF m 0 #[.val (.int x0), .val (.int x1)] [] := by first | (simp [entryFrame, mkF, argsToLocals, Value.category]; done) | rfl
def Q_rm_sci (Z : State) (i n : Int32) (cs : Int32) (fo : Value) (bo : Addr) (h0 : Heap) (n0 : Nat) (v : Option Value) (h : Heap) (L : List Loc) : Prop := v = none ∧ Fr n0 L ∧ h = h0
theorem pd__28IILjava_2futil_2ffunction_2fBiFunction_3b_29I : parseMethodDescriptor "(IILjava/util/function/BiFunction;)I" = some ⟨[.int, .int, (.object "java/util/function/BiFunction")], some .int⟩ := by decide +kernel
set_option maxRecDepth 65536 in
set_option maxHeartbeats 40000000 in
theorem rm_sci (l : Launch) (Z : State) (a0 : Array Value) (hw : ∀ d ∈ tables_1, d.before a0 Z = true) (ws : List Jvm.Cond) (i n : Int32) (cs : Int32) (fo : Value) (bo : Addr) (h0 : Heap) (n0 : Nat) (Zn : n0 ≤ h0.size) (hi : ¬ i < 0) (hn : i < n) (O : Old Z n0 h0) (SS : own_st Z cs fo bo) :
    MetFree l (⟨"java/lang/String", "checkIndex", "(II)V"⟩ : MethodName) (head1 (Jvm.Cond.code (⟨"java/lang/String", "checkIndex", "(II)V"⟩ : MethodName) jdk_42_method_155_code 2 none :: ws) ({ frames := 1, cells := 0, slots := 0, locals := 16 } : Room)) (fun a U => a = #[(.int i), (.int n)] ∧ Z.Warmed39 U.vm ∧ U.heap = h0) (fun _ _ _ _ _ => True) (fun _ U o U' => ∃ v L, o = .returned v ∧ (Q_rm_sci Z i n cs fo bo h0 n0) v U'.heap L ∧ FrameEnd U o U' L ({ frames := 1, cells := 0, slots := 0, locals := 16 } : Room).cells ({ frames := 1, cells := 0, slots := 0, locals := 16 } : Room).slots) := by
  sorry
theorem pn_20 : plainName "java/lang/StringLatin1" = true := by first | (simp [plainName, overriddenIn]; done) | decide +kernel
theorem ef_rm_l1c (m : MethodId) (x0 : Addr) (x1 : Int32) : entryFrame m #[(.ref x0), (.int x1)] 2 = mkF m 0 #[.val (.ref x0), .val (.int x1)] [] := by first | (simp [entryFrame, mkF, argsToLocals, Value.category]; done) | rfl
def Q_rm_l1c (Z : State) (sb : Addr) (bs : List Value) (i z r : Int32) (cs : Int32) (fo : Value) (bo : Addr) (h0 : Heap) (n0 : Nat) (v : Option Value) (h : Heap) (L : List Loc) : Prop := v = some (.int r) ∧ Fr n0 L ∧ h = h0
theorem pd__28II_29V : parseMethodDescriptor "(II)V" = some ⟨[.int, .int], none⟩ := by decide +kernel
set_option maxRecDepth 65536 in
set_option maxHeartbeats 40000000 in
theorem rm_l1c (l : Launch) (Z : State) (a0 : Array Value) (hw : ∀ d ∈ tables_1, d.before a0 Z = true) (ws : List Jvm.Cond) (sb : Addr) (bs : List Value) (i z r : Int32) (cs : Int32) (fo : Value) (bo : Addr) (h0 : Heap) (n0 : Nat) (Zn : n0 ≤ h0.size) (A_sb : OwnA Z h0 sb .byte bs) (hi : ¬ i < 0) (hn : i < Int32.ofNat bs.length) (hz : bs[i.toNatClampNeg]? = some (.int z)) (hr : (z &&& (255 : Int32)).toUInt32.toUInt16.toUInt32.toInt32 = r) (hr2 : r.toUInt32.toUInt16.toUInt32.toInt32 = r) (O : Old Z n0 h0) (SS : own_st Z cs fo bo) :
    MetFree l (⟨"java/lang/StringLatin1", "charAt", "([BI)C"⟩ : MethodName) (head1 (Jvm.Cond.code (⟨"java/lang/StringLatin1", "charAt", "([BI)C"⟩ : MethodName) jdk_43_method_2_code 2 (some .char) :: ws) ({ frames := 2, cells := 0, slots := 0, locals := 30 } : Room)) (fun a U => a = #[(.ref sb), (.int i)] ∧ Z.Warmed39 U.vm ∧ U.heap = h0) (fun _ _ _ _ _ => True) (fun _ U o U' => ∃ v L, o = .returned v ∧ (Q_rm_l1c Z sb bs i z r cs fo bo h0 n0) v U'.heap L ∧ FrameEnd U o U' L ({ frames := 2, cells := 0, slots := 0, locals := 30 } : Room).cells ({ frames := 2, cells := 0, slots := 0, locals := 30 } : Room).slots) := by
  sorry
theorem pn_16 : plainName "java/lang/String" = true := by first | (simp [plainName, overriddenIn]; done) | decide +kernel
theorem ef_rm_len (m : MethodId) (x0 : Addr) : entryFrame m #[(.ref x0)] 1 = mkF m 0 #[.val (.ref x0)] [] := by first | (simp [entryFrame, mkF, argsToLocals, Value.category]; done) | rfl
def Q_rm_len (Z : State) (sa sb : Addr) (bs : List Value) (cs : Int32) (fo : Value) (bo : Addr) (h0 : Heap) (n0 : Nat) (v : Option Value) (h : Heap) (L : List Loc) : Prop := v = some (.int (Int32.ofNat bs.length)) ∧ Fr n0 L ∧ h = h0
theorem pd__28_29B : parseMethodDescriptor "()B" = some ⟨[], some .byte⟩ := by decide +kernel
set_option maxRecDepth 65536 in
set_option maxHeartbeats 40000000 in
theorem rm_len (l : Launch) (Z : State) (a0 : Array Value) (hw : ∀ d ∈ tables_1, d.before a0 Z = true) (ws : List Jvm.Cond) (sa sb : Addr) (bs : List Value) (cs : Int32) (fo : Value) (bo : Addr) (h0 : Heap) (n0 : Nat) (Zn : n0 ≤ h0.size) (S_a : own_str Z h0 sa sb bs) (O : Old Z n0 h0) (SS : own_st Z cs fo bo) :
    MetFree l (⟨"java/lang/String", "length", "()I"⟩ : MethodName) (head1 (Jvm.Cond.code (⟨"java/lang/String", "length", "()I"⟩ : MethodName) jdk_42_method_54_code 1 (some .int) :: ws) ({ frames := 1, cells := 0, slots := 0, locals := 16 } : Room)) (fun a U => a = #[(.ref sa)] ∧ Z.Warmed39 U.vm ∧ U.heap = h0) (fun _ _ _ _ _ => True) (fun _ U o U' => ∃ v L, o = .returned v ∧ (Q_rm_len Z sa sb bs cs fo bo h0 n0) v U'.heap L ∧ FrameEnd U o U' L ({ frames := 1, cells := 0, slots := 0, locals := 16 } : Room).cells ({ frames := 1, cells := 0, slots := 0, locals := 16 } : Room).slots) := by
  sorry
theorem pn_18 : plainName "java/lang/String" = true := by first | (simp [plainName, overriddenIn]; done) | decide +kernel
theorem ef_rm_charAt (m : MethodId) (x0 : Addr) (x1 : Int32) : entryFrame m #[(.ref x0), (.int x1)] 2 = mkF m 0 #[.val (.ref x0), .val (.int x1)] [] := by first | (simp [entryFrame, mkF, argsToLocals, Value.category]; done) | rfl
def Q_rm_charAt (Z : State) (sa sb : Addr) (bs : List Value) (i z r : Int32) (cs : Int32) (fo : Value) (bo : Addr) (h0 : Heap) (n0 : Nat) (v : Option Value) (h : Heap) (L : List Loc) : Prop := v = some (.int r) ∧ Fr n0 L ∧ h = h0
theorem pd__28_29Z : parseMethodDescriptor "()Z" = some ⟨[], some .boolean⟩ := by decide +kernel
theorem pd__28_5bBI_29C : parseMethodDescriptor "([BI)C" = some ⟨[(.array .byte), .int], some .char⟩ := by decide +kernel
set_option maxRecDepth 65536 in
set_option maxHeartbeats 40000000 in
theorem rm_charAt (l : Launch) (Z : State) (a0 : Array Value) (hw : ∀ d ∈ tables_1, d.before a0 Z = true) (ws : List Jvm.Cond) (sa sb : Addr) (bs : List Value) (i z r : Int32) (cs : Int32) (fo : Value) (bo : Addr) (h0 : Heap) (n0 : Nat) (Zn : n0 ≤ h0.size) (S_a : own_str Z h0 sa sb bs) (hi : ¬ i < 0) (hn : i < Int32.ofNat bs.length) (hz : bs[i.toNatClampNeg]? = some (.int z)) (hr : (z &&& (255 : Int32)).toUInt32.toUInt16.toUInt32.toInt32 = r) (hr2 : r.toUInt32.toUInt16.toUInt32.toInt32 = r) (O : Old Z n0 h0) (SS : own_st Z cs fo bo) :
    MetFree l (⟨"java/lang/String", "charAt", "(I)C"⟩ : MethodName) (head1 (Jvm.Cond.code (⟨"java/lang/String", "charAt", "(I)C"⟩ : MethodName) jdk_42_method_56_code 2 (some .char) :: ws) ({ frames := 3, cells := 0, slots := 0, locals := 50 } : Room)) (fun a U => a = #[(.ref sa), (.int i)] ∧ Z.Warmed39 U.vm ∧ U.heap = h0) (fun _ _ _ _ _ => True) (fun _ U o U' => ∃ v L, o = .returned v ∧ (Q_rm_charAt Z sa sb bs i z r cs fo bo h0 n0) v U'.heap L ∧ FrameEnd U o U' L ({ frames := 3, cells := 0, slots := 0, locals := 50 } : Room).cells ({ frames := 3, cells := 0, slots := 0, locals := 50 } : Room).slots) := by
  sorry
theorem pn_11 : plainName "com/example/upright_play/uprightplay/event/Members" = true := by first | (simp [plainName, overriddenIn]; done) | decide +kernel
theorem ef_rm_takeY (m : MethodId) (x0 : Addr) (x1 : Int32) : entryFrame m #[(.ref x0), (.int x1)] 3 = mkF m 0 #[.val (.ref x0), .val (.int x1), .unset] [] := by first | (simp [entryFrame, mkF, argsToLocals, Value.category]; done) | rfl
def Q_rm_takeY (Z : State) (mb li : Addr) (LN : List Value) (ch : Int32) (p1 : Nat) (h0 : Heap) (n0 : Nat) (v : Option Value) (h : Heap) (L : List Loc) : Prop := v = some (.int (1 : Int32)) ∧ Fr n0 L ∧ Wr h0 h mb (Jvm.RoadKit.slotOf Z "com/example/upright_play/uprightplay/event/Members" "pos" "I") (.int (Int32.ofNat (p1 + 1)))
set_option maxRecDepth 65536 in
set_option maxHeartbeats 40000000 in
theorem rm_takeY (l : Launch) (Z : State) (a0 : Array Value) (hw : ∀ d ∈ tables_1, d.before a0 Z = true) (ws : List Jvm.Cond) (mb li : Addr) (LN : List Value) (ch : Int32) (p1 : Nat) (h0 : Heap) (n0 : Nat) (Zn : n0 ≤ h0.size) (E_mb : Exa Z h0 mb "com/example/upright_play/uprightplay/event/Members") (F_pos : Fld Z h0 mb "com/example/upright_play/uprightplay/event/Members" "pos" "I" (.int (Int32.ofNat p1))) (F_len : Fld Z h0 mb "com/example/upright_play/uprightplay/event/Members" "length" "I" (.int (23 : Int32))) (F_line : Fld Z h0 mb "com/example/upright_play/uprightplay/event/Members" "line" "[C" (.ref li)) (A_li : OwnA Z h0 li .char LN) (o_mb : n0 ≤ mb) (ne_mb_li : mb ≠ li) (hp : p1 < 23) (hc : LN[p1]? = some (.int ch)) :
    MetFree l (⟨"com/example/upright_play/uprightplay/event/Members", "take", "(C)Z"⟩ : MethodName) (head1 (Jvm.Cond.code (⟨"com/example/upright_play/uprightplay/event/Members", "take", "(C)Z"⟩ : MethodName) prog_95_method_34_code 3 (some .boolean) :: ws) ({ frames := 0, cells := 0, slots := 0, locals := 0 } : Room)) (fun a U => a = #[(.ref mb), (.int ch)] ∧ Z.Warmed39 U.vm ∧ U.heap = h0) (fun _ _ _ _ _ => True) (fun _ U o U' => ∃ v L, o = .returned v ∧ (Q_rm_takeY Z mb li LN ch p1 h0 n0) v U'.heap L ∧ FrameEnd U o U' L ({ frames := 0, cells := 0, slots := 0, locals := 0 } : Room).cells ({ frames := 0, cells := 0, slots := 0, locals := 0 } : Room).slots) := by
  sorry
theorem ef_rm_takeN (m : MethodId) (x0 : Addr) (x1 : Int32) : entryFrame m #[(.ref x0), (.int x1)] 3 = mkF m 0 #[.val (.ref x0), .val (.int x1), .unset] [] := by first | (simp [entryFrame, mkF, argsToLocals, Value.category]; done) | rfl
def Q_rm_takeN (Z : State) (mb li : Addr) (LN : List Value) (ch cz : Int32) (p1 : Nat) (h0 : Heap) (n0 : Nat) (v : Option Value) (h : Heap) (L : List Loc) : Prop := v = some (.int (0 : Int32)) ∧ Fr n0 L ∧ h = h0
set_option maxRecDepth 65536 in
set_option maxHeartbeats 40000000 in
theorem rm_takeN (l : Launch) (Z : State) (a0 : Array Value) (hw : ∀ d ∈ tables_1, d.before a0 Z = true) (ws : List Jvm.Cond) (mb li : Addr) (LN : List Value) (ch cz : Int32) (p1 : Nat) (h0 : Heap) (n0 : Nat) (Zn : n0 ≤ h0.size) (E_mb : Exa Z h0 mb "com/example/upright_play/uprightplay/event/Members") (F_pos : Fld Z h0 mb "com/example/upright_play/uprightplay/event/Members" "pos" "I" (.int (Int32.ofNat p1))) (F_len : Fld Z h0 mb "com/example/upright_play/uprightplay/event/Members" "length" "I" (.int (23 : Int32))) (F_line : Fld Z h0 mb "com/example/upright_play/uprightplay/event/Members" "line" "[C" (.ref li)) (A_li : OwnA Z h0 li .char LN) (o_mb : n0 ≤ mb) (ne_mb_li : mb ≠ li) (hp : p1 < 23) (hc : LN[p1]? = some (.int cz)) (hne : cz ≠ ch) :
    MetFree l (⟨"com/example/upright_play/uprightplay/event/Members", "take", "(C)Z"⟩ : MethodName) (head1 (Jvm.Cond.code (⟨"com/example/upright_play/uprightplay/event/Members", "take", "(C)Z"⟩ : MethodName) prog_95_method_34_code 3 (some .boolean) :: ws) ({ frames := 0, cells := 0, slots := 0, locals := 0 } : Room)) (fun a U => a = #[(.ref mb), (.int ch)] ∧ Z.Warmed39 U.vm ∧ U.heap = h0) (fun _ _ _ _ _ => True) (fun _ U o U' => ∃ v L, o = .returned v ∧ (Q_rm_takeN Z mb li LN ch cz p1 h0 n0) v U'.heap L ∧ FrameEnd U o U' L ({ frames := 0, cells := 0, slots := 0, locals := 0 } : Room).cells ({ frames := 0, cells := 0, slots := 0, locals := 0 } : Room).slots) := by
  sorry
theorem pn_13 : plainName "com/example/upright_play/uprightplay/event/Members" = true := by first | (simp [plainName, overriddenIn]; done) | decide +kernel
theorem ef_rm_expect (m : MethodId) (x0 : Addr) (x1 : Int32) : entryFrame m #[(.ref x0), (.int x1)] 2 = mkF m 0 #[.val (.ref x0), .val (.int x1)] [] := by first | (simp [entryFrame, mkF, argsToLocals, Value.category]; done) | rfl
def Q_rm_expect (Z : State) (mb li : Addr) (LN : List Value) (ch : Int32) (p1 : Nat) (h0 : Heap) (n0 : Nat) (v : Option Value) (h : Heap) (L : List Loc) : Prop := v = none ∧ Fr n0 L ∧ Wr h0 h mb (Jvm.RoadKit.slotOf Z "com/example/upright_play/uprightplay/event/Members" "pos" "I") (.int (Int32.ofNat (p1 + 1)))
theorem pd__28C_29Z : parseMethodDescriptor "(C)Z" = some ⟨[.char], some .boolean⟩ := by decide +kernel
set_option maxRecDepth 65536 in
set_option maxHeartbeats 40000000 in
theorem rm_expect (l : Launch) (Z : State) (a0 : Array Value) (hw : ∀ d ∈ tables_1, d.before a0 Z = true) (ws : List Jvm.Cond) (mb li : Addr) (LN : List Value) (ch : Int32) (p1 : Nat) (h0 : Heap) (n0 : Nat) (Zn : n0 ≤ h0.size) (E_mb : Exa Z h0 mb "com/example/upright_play/uprightplay/event/Members") (F_pos : Fld Z h0 mb "com/example/upright_play/uprightplay/event/Members" "pos" "I" (.int (Int32.ofNat p1))) (F_len : Fld Z h0 mb "com/example/upright_play/uprightplay/event/Members" "length" "I" (.int (23 : Int32))) (F_line : Fld Z h0 mb "com/example/upright_play/uprightplay/event/Members" "line" "[C" (.ref li)) (A_li : OwnA Z h0 li .char LN) (o_mb : n0 ≤ mb) (ne_mb_li : mb ≠ li) (hp : p1 < 23) (hc : LN[p1]? = some (.int ch)) :
    MetFree l (⟨"com/example/upright_play/uprightplay/event/Members", "expect", "(C)V"⟩ : MethodName) (head1 (Jvm.Cond.code (⟨"com/example/upright_play/uprightplay/event/Members", "expect", "(C)V"⟩ : MethodName) prog_95_method_35_code 2 none :: ws) ({ frames := 1, cells := 0, slots := 0, locals := 16 } : Room)) (fun a U => a = #[(.ref mb), (.int ch)] ∧ Z.Warmed39 U.vm ∧ U.heap = h0) (fun _ _ _ _ _ => True) (fun _ U o U' => ∃ v L, o = .returned v ∧ (Q_rm_expect Z mb li LN ch p1 h0 n0) v U'.heap L ∧ FrameEnd U o U' L ({ frames := 1, cells := 0, slots := 0, locals := 16 } : Room).cells ({ frames := 1, cells := 0, slots := 0, locals := 16 } : Room).slots) := by
  sorry
theorem pn_8 : plainName "com/example/upright_play/uprightplay/event/Members" = true := by first | (simp [plainName, overriddenIn]; done) | decide +kernel
theorem ef_rm_skip (m : MethodId) (x0 : Addr) : entryFrame m #[(.ref x0)] 1 = mkF m 0 #[.val (.ref x0)] [] := by first | (simp [entryFrame, mkF, argsToLocals, Value.category]; done) | rfl
def Q_rm_skip (Z : State) (mb li : Addr) (LN : List Value) (p1 q1 : Nat) (h0 : Heap) (n0 : Nat) (v : Option Value) (h : Heap) (L : List Loc) : Prop := v = none ∧ Fr n0 L ∧ Wr h0 h mb (Jvm.RoadKit.slotOf Z "com/example/upright_play/uprightplay/event/Members" "pos" "I") (.int (Int32.ofNat q1))
set_option maxRecDepth 65536 in
set_option maxHeartbeats 40000000 in
theorem rm_skip (l : Launch) (Z : State) (a0 : Array Value) (hw : ∀ d ∈ tables_1, d.before a0 Z = true) (ws : List Jvm.Cond) (mb li : Addr) (LN : List Value) (p1 q1 : Nat) (h0 : Heap) (n0 : Nat) (Zn : n0 ≤ h0.size) (E_mb : Exa Z h0 mb "com/example/upright_play/uprightplay/event/Members") (F_pos : Fld Z h0 mb "com/example/upright_play/uprightplay/event/Members" "pos" "I" (.int (Int32.ofNat p1))) (F_len : Fld Z h0 mb "com/example/upright_play/uprightplay/event/Members" "length" "I" (.int (23 : Int32))) (F_line : Fld Z h0 mb "com/example/upright_play/uprightplay/event/Members" "line" "[C" (.ref li)) (A_li : OwnA Z h0 li .char LN) (o_mb : n0 ≤ mb) (ne_mb_li : mb ≠ li) (hws : own_ws LN p1 q1) :
    MetFree l (⟨"com/example/upright_play/uprightplay/event/Members", "skipWhitespace", "()V"⟩ : MethodName) (head1 (Jvm.Cond.code (⟨"com/example/upright_play/uprightplay/event/Members", "skipWhitespace", "()V"⟩ : MethodName) prog_95_method_33_code 1 none :: ws) ({ frames := 1, cells := 0, slots := 0, locals := 16 } : Room)) (fun a U => a = #[(.ref mb)] ∧ Z.Warmed39 U.vm ∧ U.heap = h0) (fun _ _ _ _ _ => True) (fun _ U o U' => ∃ v L, o = .returned v ∧ (Q_rm_skip Z mb li LN p1 q1 h0 n0) v U'.heap L ∧ FrameEnd U o U' L ({ frames := 1, cells := 0, slots := 0, locals := 16 } : Room).cells ({ frames := 1, cells := 0, slots := 0, locals := 16 } : Room).slots) := by
  sorry
theorem pn_12 : plainName "com/example/upright_play/uprightplay/event/Members" = true := by first | (simp [plainName, overriddenIn]; done) | decide +kernel
theorem ef_rm_readString1 (m : MethodId) (x0 : Addr) : entryFrame m #[(.ref x0)] 3 = mkF m 0 #[.val (.ref x0), .unset, .unset] [] := by first | (simp [entryFrame, mkF, argsToLocals, Value.category]; done) | rfl
def Q_rm_readString1 (Z : State) (mb li : Addr) (LN : List Value) (ch : Nat) (h0 : Heap) (n0 : Nat) (v : Option Value) (h : Heap) (L : List Loc) : Prop := v = some (.int (0 : Int32)) ∧ Fr n0 L ∧ Wr h0 h mb (Jvm.RoadKit.slotOf Z "com/example/upright_play/uprightplay/event/Members" "pos" "I") (.int (4 : Int32))
theorem pd__28C_29V : parseMethodDescriptor "(C)V" = some ⟨[.char], none⟩ := by decide +kernel
set_option maxRecDepth 65536 in
set_option maxHeartbeats 40000000 in
theorem rm_readString1 (l : Launch) (Z : State) (a0 : Array Value) (hw : ∀ d ∈ tables_1, d.before a0 Z = true) (ws : List Jvm.Cond) (mb li : Addr) (LN : List Value) (ch : Nat) (h0 : Heap) (n0 : Nat) (Zn : n0 ≤ h0.size) (E_mb : Exa Z h0 mb "com/example/upright_play/uprightplay/event/Members") (F_pos : Fld Z h0 mb "com/example/upright_play/uprightplay/event/Members" "pos" "I" (.int (1 : Int32))) (F_len : Fld Z h0 mb "com/example/upright_play/uprightplay/event/Members" "length" "I" (.int (23 : Int32))) (F_line : Fld Z h0 mb "com/example/upright_play/uprightplay/event/Members" "line" "[C" (.ref li)) (A_li : OwnA Z h0 li .char LN) (o_mb : n0 ≤ mb) (ne_mb_li : mb ≠ li) (h1 : LN[1]? = some (.int (34 : Int32))) (h2 : LN[2]? = some (.int (Int32.ofNat ch))) (h3 : LN[3]? = some (.int (34 : Int32))) (hk : own_nc ch) :
    MetFree l (⟨"com/example/upright_play/uprightplay/event/Members", "readString", "()Z"⟩ : MethodName) (head1 (Jvm.Cond.code (⟨"com/example/upright_play/uprightplay/event/Members", "readString", "()Z"⟩ : MethodName) prog_95_method_15_code 3 (some .boolean) :: ws) ({ frames := 2, cells := 0, slots := 0, locals := 40 } : Room)) (fun a U => a = #[(.ref mb)] ∧ Z.Warmed39 U.vm ∧ U.heap = h0) (fun _ _ _ _ _ => True) (fun _ U o U' => ∃ v L, o = .returned v ∧ (Q_rm_readString1 Z mb li LN ch h0 n0) v U'.heap L ∧ FrameEnd U o U' L ({ frames := 2, cells := 0, slots := 0, locals := 40 } : Room).cells ({ frames := 2, cells := 0, slots := 0, locals := 40 } : Room).slots) := by
  sorry
theorem ef_rm_readString12 (m : MethodId) (x0 : Addr) : entryFrame m #[(.ref x0)] 3 = mkF m 0 #[.val (.ref x0), .unset, .unset] [] := by first | (simp [entryFrame, mkF, argsToLocals, Value.category]; done) | rfl
def Q_rm_readString12 (Z : State) (mb li : Addr) (LN : List Value) (ch : Nat) (h0 : Heap) (n0 : Nat) (v : Option Value) (h : Heap) (L : List Loc) : Prop := v = some (.int (0 : Int32)) ∧ Fr n0 L ∧ Wr h0 h mb (Jvm.RoadKit.slotOf Z "com/example/upright_play/uprightplay/event/Members" "pos" "I") (.int (15 : Int32))
set_option maxRecDepth 65536 in
set_option maxHeartbeats 40000000 in
theorem rm_readString12 (l : Launch) (Z : State) (a0 : Array Value) (hw : ∀ d ∈ tables_1, d.before a0 Z = true) (ws : List Jvm.Cond) (mb li : Addr) (LN : List Value) (ch : Nat) (h0 : Heap) (n0 : Nat) (Zn : n0 ≤ h0.size) (E_mb : Exa Z h0 mb "com/example/upright_play/uprightplay/event/Members") (F_pos : Fld Z h0 mb "com/example/upright_play/uprightplay/event/Members" "pos" "I" (.int (12 : Int32))) (F_len : Fld Z h0 mb "com/example/upright_play/uprightplay/event/Members" "length" "I" (.int (23 : Int32))) (F_line : Fld Z h0 mb "com/example/upright_play/uprightplay/event/Members" "line" "[C" (.ref li)) (A_li : OwnA Z h0 li .char LN) (o_mb : n0 ≤ mb) (ne_mb_li : mb ≠ li) (h1 : LN[12]? = some (.int (34 : Int32))) (h2 : LN[13]? = some (.int (Int32.ofNat ch))) (h3 : LN[14]? = some (.int (34 : Int32))) (hk : own_nc ch) :
    MetFree l (⟨"com/example/upright_play/uprightplay/event/Members", "readString", "()Z"⟩ : MethodName) (head1 (Jvm.Cond.code (⟨"com/example/upright_play/uprightplay/event/Members", "readString", "()Z"⟩ : MethodName) prog_95_method_15_code 3 (some .boolean) :: ws) ({ frames := 2, cells := 0, slots := 0, locals := 40 } : Room)) (fun a U => a = #[(.ref mb)] ∧ Z.Warmed39 U.vm ∧ U.heap = h0) (fun _ _ _ _ _ => True) (fun _ U o U' => ∃ v L, o = .returned v ∧ (Q_rm_readString12 Z mb li LN ch h0 n0) v U'.heap L ∧ FrameEnd U o U' L ({ frames := 2, cells := 0, slots := 0, locals := 40 } : Room).cells ({ frames := 2, cells := 0, slots := 0, locals := 40 } : Room).slots) := by
  sorry
theorem pn_23 : plainName "com/example/upright_play/uprightplay/event/Members" = true := by first | (simp [plainName, overriddenIn]; done) | decide +kernel
theorem ef_rm_expDel (m : MethodId) (x0 : Addr) : entryFrame m #[(.ref x0)] 1 = mkF m 0 #[.val (.ref x0)] [] := by first | (simp [entryFrame, mkF, argsToLocals, Value.category]; done) | rfl
def Q_rm_expDel (Z : State) (mb li : Addr) (LN : List Value) (p1 : Nat) (cz : Int32) (h0 : Heap) (n0 : Nat) (v : Option Value) (h : Heap) (L : List Loc) : Prop := v = none ∧ Fr n0 L ∧ h = h0
set_option maxRecDepth 65536 in
set_option maxHeartbeats 40000000 in
theorem rm_expDel (l : Launch) (Z : State) (a0 : Array Value) (hw : ∀ d ∈ tables_1, d.before a0 Z = true) (ws : List Jvm.Cond) (mb li : Addr) (LN : List Value) (p1 : Nat) (cz : Int32) (h0 : Heap) (n0 : Nat) (Zn : n0 ≤ h0.size) (E_mb : Exa Z h0 mb "com/example/upright_play/uprightplay/event/Members") (F_pos : Fld Z h0 mb "com/example/upright_play/uprightplay/event/Members" "pos" "I" (.int (Int32.ofNat p1))) (F_len : Fld Z h0 mb "com/example/upright_play/uprightplay/event/Members" "length" "I" (.int (23 : Int32))) (F_line : Fld Z h0 mb "com/example/upright_play/uprightplay/event/Members" "line" "[C" (.ref li)) (A_li : OwnA Z h0 li .char LN) (o_mb : n0 ≤ mb) (ne_mb_li : mb ≠ li) (hp : p1 < 23) (hc : LN[p1]? = some (.int cz)) (hz : cz = 32 ∨ cz = 44 ∨ cz = 125) :
    MetFree l (⟨"com/example/upright_play/uprightplay/event/Members", "expectDelimiter", "()V"⟩ : MethodName) (head1 (Jvm.Cond.code (⟨"com/example/upright_play/uprightplay/event/Members", "expectDelimiter", "()V"⟩ : MethodName) prog_95_method_19_code 1 none :: ws) ({ frames := 1, cells := 0, slots := 0, locals := 16 } : Room)) (fun a U => a = #[(.ref mb)] ∧ Z.Warmed39 U.vm ∧ U.heap = h0) (fun _ _ _ _ _ => True) (fun _ U o U' => ∃ v L, o = .returned v ∧ (Q_rm_expDel Z mb li LN p1 cz h0 n0) v U'.heap L ∧ FrameEnd U o U' L ({ frames := 1, cells := 0, slots := 0, locals := 16 } : Room).cells ({ frames := 1, cells := 0, slots := 0, locals := 16 } : Room).slots) := by
  sorry
theorem pn_15 : plainName "com/example/upright_play/uprightplay/event/Members" = true := by first | (simp [plainName, overriddenIn]; done) | decide +kernel
theorem ef_rm_word_true (m : MethodId) (x0 : Addr) (x1 : Addr) : entryFrame m #[(.ref x0), (.ref x1)] 3 = mkF m 0 #[.val (.ref x0), .val (.ref x1), .unset] [] := by first | (simp [entryFrame, mkF, argsToLocals, Value.category]; done) | rfl
def Q_rm_word_true (Z : State) (mb li : Addr) (LN : List Value) (sa sb : Addr) (p1 : Nat) (cz : Int32) (cs : Int32) (fo : Value) (bo : Addr) (h0 : Heap) (n0 : Nat) (v : Option Value) (h : Heap) (L : List Loc) : Prop := v = none ∧ Fr n0 L ∧ Wr h0 h mb (Jvm.RoadKit.slotOf Z "com/example/upright_play/uprightplay/event/Members" "pos" "I") (.int (Int32.ofNat (p1 + 4)))
theorem pd__28_29I : parseMethodDescriptor "()I" = some ⟨[], some .int⟩ := by decide +kernel
theorem pd__28I_29C : parseMethodDescriptor "(I)C" = some ⟨[.int], some .char⟩ := by decide +kernel
theorem pd__28_29V : parseMethodDescriptor "()V" = some ⟨[], none⟩ := by decide +kernel
set_option maxRecDepth 65536 in
set_option maxHeartbeats 40000000 in
theorem rm_word_true (l : Launch) (Z : State) (a0 : Array Value) (hw : ∀ d ∈ tables_1, d.before a0 Z = true) (ws : List Jvm.Cond) (mb li : Addr) (LN : List Value) (sa sb : Addr) (p1 : Nat) (cz : Int32) (cs : Int32) (fo : Value) (bo : Addr) (h0 : Heap) (n0 : Nat) (Zn : n0 ≤ h0.size) (E_mb : Exa Z h0 mb "com/example/upright_play/uprightplay/event/Members") (F_pos : Fld Z h0 mb "com/example/upright_play/uprightplay/event/Members" "pos" "I" (.int (Int32.ofNat p1))) (F_len : Fld Z h0 mb "com/example/upright_play/uprightplay/event/Members" "length" "I" (.int (23 : Int32))) (F_line : Fld Z h0 mb "com/example/upright_play/uprightplay/event/Members" "line" "[C" (.ref li)) (A_li : OwnA Z h0 li .char LN) (o_mb : n0 ≤ mb) (ne_mb_li : mb ≠ li) (S_a : own_str Z h0 sa sb [.int (116 : Int32), .int (114 : Int32), .int (117 : Int32), .int (101 : Int32)]) (ne1 : sa ≠ mb) (ne2 : sb ≠ mb) (hp : p1 + 4 < 23) (hl0 : LN[p1 + 0]? = some (.int (116 : Int32))) (hl1 : LN[p1 + 1]? = some (.int (114 : Int32))) (hl2 : LN[p1 + 2]? = some (.int (117 : Int32))) (hl3 : LN[p1 + 3]? = some (.int (101 : Int32))) (hc : LN[p1 + 4]? = some (.int cz)) (hz : cz = 32 ∨ cz = 44 ∨ cz = 125) (O : Old Z n0 h0) (SS : own_st Z cs fo bo) :
    MetFree l (⟨"com/example/upright_play/uprightplay/event/Members", "readWord", "(Ljava/lang/String;)V"⟩ : MethodName) (head1 (Jvm.Cond.code (⟨"com/example/upright_play/uprightplay/event/Members", "readWord", "(Ljava/lang/String;)V"⟩ : MethodName) prog_95_method_17_code 3 none :: ws) ({ frames := 4, cells := 0, slots := 0, locals := 80 } : Room)) (fun a U => a = #[(.ref mb), (.ref sa)] ∧ Z.Warmed39 U.vm ∧ U.heap = h0) (fun _ _ _ _ _ => True) (fun _ U o U' => ∃ v L, o = .returned v ∧ (Q_rm_word_true Z mb li LN sa sb p1 cz cs fo bo h0 n0) v U'.heap L ∧ FrameEnd U o U' L ({ frames := 4, cells := 0, slots := 0, locals := 80 } : Room).cells ({ frames := 4, cells := 0, slots := 0, locals := 80 } : Room).slots) := by
  sorry
theorem ef_rm_word_false (m : MethodId) (x0 : Addr) (x1 : Addr) : entryFrame m #[(.ref x0), (.ref x1)] 3 = mkF m 0 #[.val (.ref x0), .val (.ref x1), .unset] [] := by first | (simp [entryFrame, mkF, argsToLocals, Value.category]; done) | rfl
def Q_rm_word_false (Z : State) (mb li : Addr) (LN : List Value) (sa sb : Addr) (p1 : Nat) (cz : Int32) (cs : Int32) (fo : Value) (bo : Addr) (h0 : Heap) (n0 : Nat) (v : Option Value) (h : Heap) (L : List Loc) : Prop := v = none ∧ Fr n0 L ∧ Wr h0 h mb (Jvm.RoadKit.slotOf Z "com/example/upright_play/uprightplay/event/Members" "pos" "I") (.int (Int32.ofNat (p1 + 5)))
set_option maxRecDepth 65536 in
set_option maxHeartbeats 40000000 in
theorem rm_word_false (l : Launch) (Z : State) (a0 : Array Value) (hw : ∀ d ∈ tables_1, d.before a0 Z = true) (ws : List Jvm.Cond) (mb li : Addr) (LN : List Value) (sa sb : Addr) (p1 : Nat) (cz : Int32) (cs : Int32) (fo : Value) (bo : Addr) (h0 : Heap) (n0 : Nat) (Zn : n0 ≤ h0.size) (E_mb : Exa Z h0 mb "com/example/upright_play/uprightplay/event/Members") (F_pos : Fld Z h0 mb "com/example/upright_play/uprightplay/event/Members" "pos" "I" (.int (Int32.ofNat p1))) (F_len : Fld Z h0 mb "com/example/upright_play/uprightplay/event/Members" "length" "I" (.int (23 : Int32))) (F_line : Fld Z h0 mb "com/example/upright_play/uprightplay/event/Members" "line" "[C" (.ref li)) (A_li : OwnA Z h0 li .char LN) (o_mb : n0 ≤ mb) (ne_mb_li : mb ≠ li) (S_a : own_str Z h0 sa sb [.int (102 : Int32), .int (97 : Int32), .int (108 : Int32), .int (115 : Int32), .int (101 : Int32)]) (ne1 : sa ≠ mb) (ne2 : sb ≠ mb) (hp : p1 + 5 < 23) (hl0 : LN[p1 + 0]? = some (.int (102 : Int32))) (hl1 : LN[p1 + 1]? = some (.int (97 : Int32))) (hl2 : LN[p1 + 2]? = some (.int (108 : Int32))) (hl3 : LN[p1 + 3]? = some (.int (115 : Int32))) (hl4 : LN[p1 + 4]? = some (.int (101 : Int32))) (hc : LN[p1 + 5]? = some (.int cz)) (hz : cz = 32 ∨ cz = 44 ∨ cz = 125) (O : Old Z n0 h0) (SS : own_st Z cs fo bo) :
    MetFree l (⟨"com/example/upright_play/uprightplay/event/Members", "readWord", "(Ljava/lang/String;)V"⟩ : MethodName) (head1 (Jvm.Cond.code (⟨"com/example/upright_play/uprightplay/event/Members", "readWord", "(Ljava/lang/String;)V"⟩ : MethodName) prog_95_method_17_code 3 none :: ws) ({ frames := 4, cells := 0, slots := 0, locals := 80 } : Room)) (fun a U => a = #[(.ref mb), (.ref sa)] ∧ Z.Warmed39 U.vm ∧ U.heap = h0) (fun _ _ _ _ _ => True) (fun _ U o U' => ∃ v L, o = .returned v ∧ (Q_rm_word_false Z mb li LN sa sb p1 cz cs fo bo h0 n0) v U'.heap L ∧ FrameEnd U o U' L ({ frames := 4, cells := 0, slots := 0, locals := 80 } : Room).cells ({ frames := 4, cells := 0, slots := 0, locals := 80 } : Room).slots) := by
  sorry
section OwnO
variable {p : Program} {l : Launch} {e : Env} {R : Room} {s : State} {m : MethodId} {args a0 : Array Value} {below : List Frame} {meth : Method} {c : Code} {T : State} {locs : List Loc} {cells slots : Nat} {Z : State} {h h' : Heap} {a b : Addr} {ty : FieldType} {vs : List Value} {v : Value} {sl : Nat} {C : String}
def OwnO (Z : State) (h : Heap) (a : Addr) (C : String) (vs : List Value) : Prop := ∃ c : Cell, Arr Z h a c (.object C) ∧ c.slots.toList = vs ∧ Ovr Z c.cls C
theorem OwnO.toA (F : OwnO Z h a C vs) : OwnA Z h a (.object C) vs := by obtain ⟨c, A, q, -⟩ := F; exact ⟨c, A, q⟩
theorem OwnO.lt (F : OwnO Z h a C vs) : a < h.size := F.toA.lt
theorem OwnO.ext (F : OwnO Z h a C vs) (E : Ext h h') : OwnO Z h' a C vs := by obtain ⟨c, A, r⟩ := F; exact ⟨c, A.ext E, r⟩
theorem OwnO.other (F : OwnO Z h a C vs) (W : Wr h h' b sl v) (q : a ≠ b) : OwnO Z h' a C vs := by obtain ⟨c, A, r⟩ := F; exact ⟨c, A.other W q, r⟩
theorem OwnO.keep {ws : List Addr} (F : OwnO Z h a C vs) (K : Keep h h' ws) (q : a ∉ ws) : OwnO Z h' a C vs := by obtain ⟨c, A, r⟩ := F; exact ⟨c, ⟨K.2.1 a c A.1 q, A.2⟩, r⟩
theorem OwnO.set (F : OwnO Z h a C vs) (W : Wr h h' a sl v) : OwnO Z h' a C (vs.set sl v) := by
  obtain ⟨c, A, rfl, r⟩ := F
  exact ⟨_, A.same W, by simp [Cell.setSlot], r⟩
theorem own_sto {y : Addr} (F : OwnO Z h a C vs) (I : Ins Z h y C true) : Sto Z h a (.ref y) := by obtain ⟨c, A, -, O⟩ := F; exact Sto.of A O I
theorem own_stO (X : Stand p l e R s m args below meth c T locs cells slots) (hx : p.tables.exec = Jvm.exec) (hZ : Z.Warmed39 s.vm) (eT : T.heap = h) (F : OwnO Z h a C vs) (S : Sto Z h a v) {j : Int32} (hj : ¬ j < 0) (hl : j.toNatClampNeg < vs.length) {g : JFrame} (hg : g.method = m) {rest : List Value} (hs : g.stack = v :: .int j :: .ref a :: rest) (hd : decode c.code g.pc = .ok (.aastore, 1)) :
    ∃ T' h', Stand p l e R s m args below meth c T' (locs ++ [⟨a, j.toNatClampNeg⟩]) cells slots ∧ T'.heap = h' ∧ Wr h h' a j.toNatClampNeg v ∧ ∀ target, Steps p.tables e below (T'.setTop { g with pc := g.pc + 1, stack := rest }) target → Steps p.tables e below (T.setTop g) target := by
  obtain ⟨cl, A, rfl, O⟩ := F
  exact stR X hx hZ eT A (own_inl hj hl) rfl S hg hs hd
theorem own_nd {x : Addr} {L : List Addr} (q : ∀ y ∈ L, x ≠ y) (t : L.Nodup) : (x :: L).Nodup := List.nodup_cons.mpr ⟨fun z => q x z rfl, t⟩
theorem own_pick {L : List Addr} (nd : L.Nodup) (i j : Nat) {x y : Addr} (hx : L[i]? = some x) (hy : L[j]? = some y) (q : i ≠ j) : x ≠ y := fun r => by
  subst r
  obtain ⟨hi, e1⟩ := List.getElem?_eq_some_iff.mp hx
  obtain ⟨hj, e2⟩ := List.getElem?_eq_some_iff.mp hy
  rcases Nat.lt_or_gt_of_ne q with g | g
  · exact List.pairwise_iff_getElem.mp nd i j hi hj g (e1.trans e2.symm)
  · exact List.pairwise_iff_getElem.mp nd j i hj hi g (e2.trans e1.symm)
end OwnO
def own_Z32 : List Value := [.int (0 : Int32), .int (0 : Int32), .int (0 : Int32), .int (0 : Int32), .int (0 : Int32), .int (0 : Int32), .int (0 : Int32), .int (0 : Int32), .int (0 : Int32), .int (0 : Int32), .int (0 : Int32), .int (0 : Int32), .int (0 : Int32), .int (0 : Int32), .int (0 : Int32), .int (0 : Int32), .int (0 : Int32), .int (0 : Int32), .int (0 : Int32), .int (0 : Int32), .int (0 : Int32), .int (0 : Int32), .int (0 : Int32), .int (0 : Int32), .int (0 : Int32), .int (0 : Int32), .int (0 : Int32), .int (0 : Int32), .int (0 : Int32), .int (0 : Int32), .int (0 : Int32), .int (0 : Int32)]
def own_S1 (c1 : Nat) : List Value := own_Z32.set (own_sl c1) (.int (1 : Int32))
def own_j3 (c1 c2 : Nat) : Nat := if own_sl c1 = own_sl c2 then (own_sl c2 + 1) % 32 else own_sl c2
def own_S2 (c1 c2 : Nat) : List Value := (own_S1 c1).set (own_j3 c1 c2) (.int (2 : Int32))
theorem own_zlen : own_Z32.length = 32 := rfl
theorem own_s1len (c1 : Nat) : (own_S1 c1).length = 32 := by rw [own_S1, List.length_set]; rfl
theorem own_s2len (c1 c2 : Nat) : (own_S2 c1 c2).length = 32 := by rw [own_S2, List.length_set]; exact own_s1len c1
theorem own_zrep : own_Z32 = List.replicate 32 (.int (0 : Int32)) := rfl
theorem own_zget {j : Nat} (h : j < 32) : own_Z32[j]? = some (.int (0 : Int32)) := by rw [own_zrep, List.getElem?_replicate, if_pos h]
theorem own_zset (j : Nat) : own_Z32.set j (.int (0 : Int32)) = own_Z32 := by rw [own_zrep, List.set_replicate_self]
theorem own_s1get (c1 : Nat) {j : Nat} (h : j < 32) : (own_S1 c1)[j]? = some (.int (if own_sl c1 = j then (1 : Int32) else 0)) := by
  rw [own_S1, List.getElem?_set, own_zlen]
  by_cases q : own_sl c1 = j
  · rw [if_pos q, if_pos q, if_pos (q ▸ h)]
  · rw [if_neg q, if_neg q, own_zget h]
theorem own_s2get (c1 c2 : Nat) {j : Nat} (h : j < 32) : (own_S2 c1 c2)[j]? = some (.int (if own_j3 c1 c2 = j then (2 : Int32) else if own_sl c1 = j then (1 : Int32) else 0)) := by
  rw [own_S2, List.getElem?_set, own_s1len]
  by_cases q : own_j3 c1 c2 = j
  · rw [if_pos q, if_pos q, if_pos (q ▸ h)]
  · rw [if_neg q, if_neg q, own_s1get c1 h]
theorem own_j3lt {c1 c2 : Nat} (h : c2 < 256) : own_j3 c1 c2 < 32 := by
  have := (own_slot c2 h).2
  unfold own_j3; split <;> omega
theorem own_j3ne {c1 c2 : Nat} (h : c2 < 256) : own_j3 c1 c2 ≠ own_sl c1 := by
  have := (own_slot c2 h).2
  unfold own_j3; split <;> omega

def own_V0  : Nat → List Value
  | 0 => [.int (0 : Int32), .int (0 : Int32), .int (0 : Int32), .int (0 : Int32), .int (0 : Int32), .int (0 : Int32), .int (0 : Int32), .int (0 : Int32), .int (0 : Int32), .int (0 : Int32), .int (0 : Int32), .int (0 : Int32), .int (0 : Int32), .int (0 : Int32), .int (0 : Int32), .int (0 : Int32)]
  | 1 => [.int (0 : Int32), .int (0 : Int32), .int (0 : Int32), .int (0 : Int32), .int (0 : Int32), .int (0 : Int32), .int (0 : Int32), .int (0 : Int32), .int (0 : Int32), .int (0 : Int32), .int (0 : Int32), .int (0 : Int32), .int (0 : Int32), .int (0 : Int32), .int (0 : Int32), .int (0 : Int32)]
  | 2 => [.int (0 : Int32), .int (0 : Int32), .int (0 : Int32), .int (0 : Int32), .int (0 : Int32), .int (0 : Int32), .int (0 : Int32), .int (0 : Int32), .int (0 : Int32), .int (0 : Int32), .int (0 : Int32), .int (0 : Int32), .int (0 : Int32), .int (0 : Int32), .int (0 : Int32), .int (0 : Int32)]
  | 3 => [.null, .null, .null, .null, .null, .null, .null, .null, .null, .null, .null, .null, .null, .null, .null, .null]
  | 4 => [.null, .null, .null, .null, .null, .null, .null, .null, .null, .null, .null, .null, .null, .null, .null, .null]
  | 5 => [.int (0 : Int32), .int (0 : Int32), .int (0 : Int32), .int (0 : Int32), .int (0 : Int32), .int (0 : Int32), .int (0 : Int32), .int (0 : Int32), .int (0 : Int32), .int (0 : Int32), .int (0 : Int32), .int (0 : Int32), .int (0 : Int32), .int (0 : Int32), .int (0 : Int32), .int (0 : Int32)]
  | 6 => [.int (0 : Int32), .int (0 : Int32), .int (0 : Int32), .int (0 : Int32), .int (0 : Int32), .int (0 : Int32), .int (0 : Int32), .int (0 : Int32), .int (0 : Int32), .int (0 : Int32), .int (0 : Int32), .int (0 : Int32), .int (0 : Int32), .int (0 : Int32), .int (0 : Int32), .int (0 : Int32)]
  | 7 => [.int (0 : Int32), .int (0 : Int32), .int (0 : Int32), .int (0 : Int32), .int (0 : Int32), .int (0 : Int32), .int (0 : Int32), .int (0 : Int32), .int (0 : Int32), .int (0 : Int32), .int (0 : Int32), .int (0 : Int32), .int (0 : Int32), .int (0 : Int32), .int (0 : Int32), .int (0 : Int32)]
  | 8 => [.int (0 : Int32), .int (0 : Int32), .int (0 : Int32), .int (0 : Int32), .int (0 : Int32), .int (0 : Int32), .int (0 : Int32), .int (0 : Int32), .int (0 : Int32), .int (0 : Int32), .int (0 : Int32), .int (0 : Int32), .int (0 : Int32), .int (0 : Int32), .int (0 : Int32), .int (0 : Int32)]
  | 9 => own_Z32
  | _ => []
def own_V1 (c1 : Nat) (a1 b1 : Int32) (bo : Addr) : Nat → List Value
  | 0 => [.int (1 : Int32), .int (0 : Int32), .int (0 : Int32), .int (0 : Int32), .int (0 : Int32), .int (0 : Int32), .int (0 : Int32), .int (0 : Int32), .int (0 : Int32), .int (0 : Int32), .int (0 : Int32), .int (0 : Int32), .int (0 : Int32), .int (0 : Int32), .int (0 : Int32), .int (0 : Int32)]
  | 1 => [.int (4 : Int32), .int (0 : Int32), .int (0 : Int32), .int (0 : Int32), .int (0 : Int32), .int (0 : Int32), .int (0 : Int32), .int (0 : Int32), .int (0 : Int32), .int (0 : Int32), .int (0 : Int32), .int (0 : Int32), .int (0 : Int32), .int (0 : Int32), .int (0 : Int32), .int (0 : Int32)]
  | 2 => [.int (Int32.ofNat c1), .int (0 : Int32), .int (0 : Int32), .int (0 : Int32), .int (0 : Int32), .int (0 : Int32), .int (0 : Int32), .int (0 : Int32), .int (0 : Int32), .int (0 : Int32), .int (0 : Int32), .int (0 : Int32), .int (0 : Int32), .int (0 : Int32), .int (0 : Int32), .int (0 : Int32)]
  | 3 => [.null, .null, .null, .null, .null, .null, .null, .null, .null, .null, .null, .null, .null, .null, .null, .null]
  | 4 => [.ref bo, .null, .null, .null, .null, .null, .null, .null, .null, .null, .null, .null, .null, .null, .null, .null]
  | 5 => [.int a1, .int (0 : Int32), .int (0 : Int32), .int (0 : Int32), .int (0 : Int32), .int (0 : Int32), .int (0 : Int32), .int (0 : Int32), .int (0 : Int32), .int (0 : Int32), .int (0 : Int32), .int (0 : Int32), .int (0 : Int32), .int (0 : Int32), .int (0 : Int32), .int (0 : Int32)]
  | 6 => [.int b1, .int (0 : Int32), .int (0 : Int32), .int (0 : Int32), .int (0 : Int32), .int (0 : Int32), .int (0 : Int32), .int (0 : Int32), .int (0 : Int32), .int (0 : Int32), .int (0 : Int32), .int (0 : Int32), .int (0 : Int32), .int (0 : Int32), .int (0 : Int32), .int (0 : Int32)]
  | 7 => [.int (0 : Int32), .int (0 : Int32), .int (0 : Int32), .int (0 : Int32), .int (0 : Int32), .int (0 : Int32), .int (0 : Int32), .int (0 : Int32), .int (0 : Int32), .int (0 : Int32), .int (0 : Int32), .int (0 : Int32), .int (0 : Int32), .int (0 : Int32), .int (0 : Int32), .int (0 : Int32)]
  | 8 => [.int (0 : Int32), .int (0 : Int32), .int (0 : Int32), .int (0 : Int32), .int (0 : Int32), .int (0 : Int32), .int (0 : Int32), .int (0 : Int32), .int (0 : Int32), .int (0 : Int32), .int (0 : Int32), .int (0 : Int32), .int (0 : Int32), .int (0 : Int32), .int (0 : Int32), .int (0 : Int32)]
  | 9 => (own_S1 c1)
  | _ => []
def own_V2 (c1 c2 : Nat) (a1 b1 a2 b2 : Int32) (bo : Addr) : Nat → List Value
  | 0 => [.int (1 : Int32), .int (12 : Int32), .int (0 : Int32), .int (0 : Int32), .int (0 : Int32), .int (0 : Int32), .int (0 : Int32), .int (0 : Int32), .int (0 : Int32), .int (0 : Int32), .int (0 : Int32), .int (0 : Int32), .int (0 : Int32), .int (0 : Int32), .int (0 : Int32), .int (0 : Int32)]
  | 1 => [.int (4 : Int32), .int (15 : Int32), .int (0 : Int32), .int (0 : Int32), .int (0 : Int32), .int (0 : Int32), .int (0 : Int32), .int (0 : Int32), .int (0 : Int32), .int (0 : Int32), .int (0 : Int32), .int (0 : Int32), .int (0 : Int32), .int (0 : Int32), .int (0 : Int32), .int (0 : Int32)]
  | 2 => [.int (Int32.ofNat c1), .int (Int32.ofNat c2), .int (0 : Int32), .int (0 : Int32), .int (0 : Int32), .int (0 : Int32), .int (0 : Int32), .int (0 : Int32), .int (0 : Int32), .int (0 : Int32), .int (0 : Int32), .int (0 : Int32), .int (0 : Int32), .int (0 : Int32), .int (0 : Int32), .int (0 : Int32)]
  | 3 => [.null, .null, .null, .null, .null, .null, .null, .null, .null, .null, .null, .null, .null, .null, .null, .null]
  | 4 => [.ref bo, .ref bo, .null, .null, .null, .null, .null, .null, .null, .null, .null, .null, .null, .null, .null, .null]
  | 5 => [.int a1, .int a2, .int (0 : Int32), .int (0 : Int32), .int (0 : Int32), .int (0 : Int32), .int (0 : Int32), .int (0 : Int32), .int (0 : Int32), .int (0 : Int32), .int (0 : Int32), .int (0 : Int32), .int (0 : Int32), .int (0 : Int32), .int (0 : Int32), .int (0 : Int32)]
  | 6 => [.int b1, .int b2, .int (0 : Int32), .int (0 : Int32), .int (0 : Int32), .int (0 : Int32), .int (0 : Int32), .int (0 : Int32), .int (0 : Int32), .int (0 : Int32), .int (0 : Int32), .int (0 : Int32), .int (0 : Int32), .int (0 : Int32), .int (0 : Int32), .int (0 : Int32)]
  | 7 => [.int (0 : Int32), .int (0 : Int32), .int (0 : Int32), .int (0 : Int32), .int (0 : Int32), .int (0 : Int32), .int (0 : Int32), .int (0 : Int32), .int (0 : Int32), .int (0 : Int32), .int (0 : Int32), .int (0 : Int32), .int (0 : Int32), .int (0 : Int32), .int (0 : Int32), .int (0 : Int32)]
  | 8 => [.int (0 : Int32), .int (0 : Int32), .int (0 : Int32), .int (0 : Int32), .int (0 : Int32), .int (0 : Int32), .int (0 : Int32), .int (0 : Int32), .int (0 : Int32), .int (0 : Int32), .int (0 : Int32), .int (0 : Int32), .int (0 : Int32), .int (0 : Int32), .int (0 : Int32), .int (0 : Int32)]
  | 9 => (own_S2 c1 c2)
  | _ => []
def OwnM (Z : State) (h : Heap) (mb : Addr) (D : Nat → Addr) (V : Nat → List Value) (lv : Value) (len : Int32) (lnr : Int64) (cnt : Int32) : Prop := Exa Z h mb "com/example/upright_play/uprightplay/event/Members" ∧ Fld Z h mb "com/example/upright_play/uprightplay/event/Members" "nameStarts" "[I" (.ref (D 0)) ∧ Fld Z h mb "com/example/upright_play/uprightplay/event/Members" "nameEnds" "[I" (.ref (D 1)) ∧ Fld Z h mb "com/example/upright_play/uprightplay/event/Members" "nameHashes" "[I" (.ref (D 2)) ∧ Fld Z h mb "com/example/upright_play/uprightplay/event/Members" "escapedNames" "[Ljava/lang/String;" (.ref (D 3)) ∧ Fld Z h mb "com/example/upright_play/uprightplay/event/Members" "types" "[Lcom/example/upright_play/uprightplay/event/Members$Type;" (.ref (D 4)) ∧ Fld Z h mb "com/example/upright_play/uprightplay/event/Members" "valueStarts" "[I" (.ref (D 5)) ∧ Fld Z h mb "com/example/upright_play/uprightplay/event/Members" "valueEnds" "[I" (.ref (D 6)) ∧ Fld Z h mb "com/example/upright_play/uprightplay/event/Members" "integerEnds" "[I" (.ref (D 7)) ∧ Fld Z h mb "com/example/upright_play/uprightplay/event/Members" "fractionEnds" "[I" (.ref (D 8)) ∧ Fld Z h mb "com/example/upright_play/uprightplay/event/Members" "slots" "[B" (.ref (D 9)) ∧ Fld Z h mb "com/example/upright_play/uprightplay/event/Members" "line" "[C" lv ∧ Fld Z h mb "com/example/upright_play/uprightplay/event/Members" "length" "I" (.int len) ∧ Fld Z h mb "com/example/upright_play/uprightplay/event/Members" "lineNumber" "J" (.long lnr) ∧ Fld Z h mb "com/example/upright_play/uprightplay/event/Members" "count" "I" (.int cnt) ∧ Fld Z h mb "com/example/upright_play/uprightplay/event/Members" "index" "Ljava/util/Map;" .null ∧ Fld Z h mb "com/example/upright_play/uprightplay/event/Members" "integerEnd" "I" (.int (0 : Int32)) ∧ Fld Z h mb "com/example/upright_play/uprightplay/event/Members" "fractionEnd" "I" (.int (0 : Int32)) ∧ OwnA Z h (D 0) .int (V 0) ∧ OwnA Z h (D 1) .int (V 1) ∧ OwnA Z h (D 2) .int (V 2) ∧ OwnO Z h (D 3) "java/lang/String" (V 3) ∧ OwnO Z h (D 4) "com/example/upright_play/uprightplay/event/Members$Type" (V 4) ∧ OwnA Z h (D 5) .int (V 5) ∧ OwnA Z h (D 6) .int (V 6) ∧ OwnA Z h (D 7) .int (V 7) ∧ OwnA Z h (D 8) .int (V 8) ∧ OwnA Z h (D 9) .byte (V 9)
def own_di (n0 : Nat) (mb li : Addr) (D : Nat → Addr) : Prop := n0 ≤ mb ∧ (∀ i, i < 10 → n0 ≤ D i) ∧ (mb :: li :: [D 0, D 1, D 2, D 3, D 4, D 5, D 6, D 7, D 8, D 9]).Nodup
section OwnMs
variable {Z : State} {h h' : Heap} {mb li : Addr} {D : Nat → Addr} {V : Nat → List Value} {lv : Value} {len : Int32} {lnr : Int64} {cnt : Int32} {n0 : Nat} {a0 : Array Value} {v : Value} {ws : List Addr}
theorem own_M_pos (hw : ∀ d ∈ tables_1, d.before a0 Z = true) (ND : (mb :: li :: [D 0, D 1, D 2, D 3, D 4, D 5, D 6, D 7, D 8, D 9]).Nodup) (M : OwnM Z h mb D V lv len lnr cnt) (W : Wr h h' mb (Jvm.RoadKit.slotOf Z "com/example/upright_play/uprightplay/event/Members" "pos" "I") v) : OwnM Z h' mb D V lv len lnr cnt := by
  obtain ⟨E, F0, F1, F2, F3, F4, F5, F6, F7, F8, F9, F10, F11, F12, F13, F14, F15, F16, A0, A1, A2, A3, A4, A5, A6, A7, A8, A9⟩ := M
  exact ⟨E.wr W, F0.other W (Or.inr (slot_ne (Or.inl (hw _ (List.mem_of_getElem? (i := 23) rfl))) (Or.inl (hw _ (List.mem_of_getElem? (i := 59) rfl))) (by decide) (t := (.array .int)) (t' := .int) (by decide) (by decide))), F1.other W (Or.inr (slot_ne (Or.inl (hw _ (List.mem_of_getElem? (i := 25) rfl))) (Or.inl (hw _ (List.mem_of_getElem? (i := 59) rfl))) (by decide) (t := (.array .int)) (t' := .int) (by decide) (by decide))), F2.other W (Or.inr (slot_ne (Or.inl (hw _ (List.mem_of_getElem? (i := 27) rfl))) (Or.inl (hw _ (List.mem_of_getElem? (i := 59) rfl))) (by decide) (t := (.array .int)) (t' := .int) (by decide) (by decide))), F3.other W (Or.inr (slot_ne (Or.inl (hw _ (List.mem_of_getElem? (i := 31) rfl))) (Or.inl (hw _ (List.mem_of_getElem? (i := 59) rfl))) (by decide) (t := (.array (.object "java/lang/String"))) (t' := .int) (by decide) (by decide))), F4.other W (Or.inr (slot_ne (Or.inl (hw _ (List.mem_of_getElem? (i := 35) rfl))) (Or.inl (hw _ (List.mem_of_getElem? (i := 59) rfl))) (by decide) (t := (.array (.object "com/example/upright_play/uprightplay/event/Members$Type"))) (t' := .int) (by decide) (by decide))), F5.other W (Or.inr (slot_ne (Or.inl (hw _ (List.mem_of_getElem? (i := 37) rfl))) (Or.inl (hw _ (List.mem_of_getElem? (i := 59) rfl))) (by decide) (t := (.array .int)) (t' := .int) (by decide) (by decide))), F6.other W (Or.inr (slot_ne (Or.inl (hw _ (List.mem_of_getElem? (i := 39) rfl))) (Or.inl (hw _ (List.mem_of_getElem? (i := 59) rfl))) (by decide) (t := (.array .int)) (t' := .int) (by decide) (by decide))), F7.other W (Or.inr (slot_ne (Or.inl (hw _ (List.mem_of_getElem? (i := 41) rfl))) (Or.inl (hw _ (List.mem_of_getElem? (i := 59) rfl))) (by decide) (t := (.array .int)) (t' := .int) (by decide) (by decide))), F8.other W (Or.inr (slot_ne (Or.inl (hw _ (List.mem_of_getElem? (i := 43) rfl))) (Or.inl (hw _ (List.mem_of_getElem? (i := 59) rfl))) (by decide) (t := (.array .int)) (t' := .int) (by decide) (by decide))), F9.other W (Or.inr (slot_ne (Or.inr (hw _ (List.mem_of_getElem? (i := 46) rfl))) (Or.inl (hw _ (List.mem_of_getElem? (i := 59) rfl))) (by decide) (t := (.array .byte)) (t' := .int) (by decide) (by decide))), F10.other W (Or.inr (slot_ne (Or.inl (hw _ (List.mem_of_getElem? (i := 53) rfl))) (Or.inl (hw _ (List.mem_of_getElem? (i := 59) rfl))) (by decide) (t := (.array .char)) (t' := .int) (by decide) (by decide))), F11.other W (Or.inr (slot_ne (Or.inl (hw _ (List.mem_of_getElem? (i := 55) rfl))) (Or.inl (hw _ (List.mem_of_getElem? (i := 59) rfl))) (by decide) (t := .int) (t' := .int) (by decide) (by decide))), F12.other W (Or.inr (slot_ne (Or.inl (hw _ (List.mem_of_getElem? (i := 57) rfl))) (Or.inl (hw _ (List.mem_of_getElem? (i := 59) rfl))) (by decide) (t := .long) (t' := .int) (by decide) (by decide))), F13.other W (Or.inr (slot_ne (Or.inl (hw _ (List.mem_of_getElem? (i := 61) rfl))) (Or.inl (hw _ (List.mem_of_getElem? (i := 59) rfl))) (by decide) (t := .int) (t' := .int) (by decide) (by decide))), F14.other W (Or.inr (slot_ne (Or.inl (hw _ (List.mem_of_getElem? (i := 63) rfl))) (Or.inl (hw _ (List.mem_of_getElem? (i := 59) rfl))) (by decide) (t := (.object "java/util/Map")) (t' := .int) (by decide) (by decide))), F15.other W (Or.inr (slot_ne (Or.inl (hw _ (List.mem_of_getElem? (i := 162) rfl))) (Or.inl (hw _ (List.mem_of_getElem? (i := 59) rfl))) (by decide) (t := .int) (t' := .int) (by decide) (by decide))), F16.other W (Or.inr (slot_ne (Or.inl (hw _ (List.mem_of_getElem? (i := 164) rfl))) (Or.inl (hw _ (List.mem_of_getElem? (i := 59) rfl))) (by decide) (t := .int) (t' := .int) (by decide) (by decide))), A0.other W (own_pick ND 2 0 rfl rfl (by decide)), A1.other W (own_pick ND 3 0 rfl rfl (by decide)), A2.other W (own_pick ND 4 0 rfl rfl (by decide)), A3.other W (own_pick ND 5 0 rfl rfl (by decide)), A4.other W (own_pick ND 6 0 rfl rfl (by decide)), A5.other W (own_pick ND 7 0 rfl rfl (by decide)), A6.other W (own_pick ND 8 0 rfl rfl (by decide)), A7.other W (own_pick ND 9 0 rfl rfl (by decide)), A8.other W (own_pick ND 10 0 rfl rfl (by decide)), A9.other W (own_pick ND 11 0 rfl rfl (by decide))⟩
theorem own_M_keep (M : OwnM Z h mb D V lv len lnr cnt) (K : Keep h h' ws) (q : ∀ y ∈ (mb :: [D 0, D 1, D 2, D 3, D 4, D 5, D 6, D 7, D 8, D 9] : List Addr), y ∉ ws) : OwnM Z h' mb D V lv len lnr cnt := by
  obtain ⟨E, F0, F1, F2, F3, F4, F5, F6, F7, F8, F9, F10, F11, F12, F13, F14, F15, F16, A0, A1, A2, A3, A4, A5, A6, A7, A8, A9⟩ := M
  have q0 := q mb (List.mem_of_getElem? (i := 0) rfl)
  exact ⟨E.keep K, F0.keep K q0, F1.keep K q0, F2.keep K q0, F3.keep K q0, F4.keep K q0, F5.keep K q0, F6.keep K q0, F7.keep K q0, F8.keep K q0, F9.keep K q0, F10.keep K q0, F11.keep K q0, F12.keep K q0, F13.keep K q0, F14.keep K q0, F15.keep K q0, F16.keep K q0, A0.keep K (q (D 0) (List.mem_of_getElem? (i := 1) rfl)), A1.keep K (q (D 1) (List.mem_of_getElem? (i := 2) rfl)), A2.keep K (q (D 2) (List.mem_of_getElem? (i := 3) rfl)), A3.keep K (q (D 3) (List.mem_of_getElem? (i := 4) rfl)), A4.keep K (q (D 4) (List.mem_of_getElem? (i := 5) rfl)), A5.keep K (q (D 5) (List.mem_of_getElem? (i := 6) rfl)), A6.keep K (q (D 6) (List.mem_of_getElem? (i := 7) rfl)), A7.keep K (q (D 7) (List.mem_of_getElem? (i := 8) rfl)), A8.keep K (q (D 8) (List.mem_of_getElem? (i := 9) rfl)), A9.keep K (q (D 9) (List.mem_of_getElem? (i := 10) rfl))⟩
theorem own_M_ext (M : OwnM Z h mb D V lv len lnr cnt) (E' : Ext h h') : OwnM Z h' mb D V lv len lnr cnt := by
  obtain ⟨E, F0, F1, F2, F3, F4, F5, F6, F7, F8, F9, F10, F11, F12, F13, F14, F15, F16, A0, A1, A2, A3, A4, A5, A6, A7, A8, A9⟩ := M
  exact ⟨E.ext E', F0.ext E', F1.ext E', F2.ext E', F3.ext E', F4.ext E', F5.ext E', F6.ext E', F7.ext E', F8.ext E', F9.ext E', F10.ext E', F11.ext E', F12.ext E', F13.ext E', F14.ext E', F15.ext E', F16.ext E', A0.ext E', A1.ext E', A2.ext E', A3.ext E', A4.ext E', A5.ext E', A6.ext E', A7.ext E', A8.ext E', A9.ext E'⟩
theorem own_M_E (M : OwnM Z h mb D V lv len lnr cnt) : Exa Z h mb "com/example/upright_play/uprightplay/event/Members" := M.1
end OwnMs
theorem pn_7 : plainName "java/util/Arrays" = true := by first | (simp [plainName, overriddenIn]; done) | decide +kernel
theorem ef_rm_fill (m : MethodId) (x0 : Addr) (x1 : Int32) : entryFrame m #[(.ref x0), (.int x1)] 4 = mkF m 0 #[.val (.ref x0), .val (.int x1), .unset, .unset] [] := by first | (simp [entryFrame, mkF, argsToLocals, Value.category]; done) | rfl
def Q_rm_fill (Z : State) (ab : Addr) (h0 : Heap) (n0 : Nat) (v : Option Value) (h : Heap) (L : List Loc) : Prop := v = none ∧ Fr n0 L ∧ Keep h0 h [ab] ∧ OwnA Z h ab .byte own_Z32
set_option maxRecDepth 65536 in
set_option maxHeartbeats 40000000 in
theorem rm_fill (l : Launch) (Z : State) (a0 : Array Value) (hw : ∀ d ∈ tables_1, d.before a0 Z = true) (ws : List Jvm.Cond) (ab : Addr) (h0 : Heap) (n0 : Nat) (Zn : n0 ≤ h0.size) (A_9 : OwnA Z h0 ab .byte own_Z32) (o_9 : n0 ≤ ab) :
    MetFree l (⟨"java/util/Arrays", "fill", "([BB)V"⟩ : MethodName) (head1 (Jvm.Cond.code (⟨"java/util/Arrays", "fill", "([BB)V"⟩ : MethodName) jdk_65_method_109_code 4 none :: ws) ({ frames := 0, cells := 0, slots := 0, locals := 0 } : Room)) (fun a U => a = #[(.ref ab), (.int (0 : Int32))] ∧ Z.Warmed39 U.vm ∧ U.heap = h0) (fun _ _ _ _ _ => True) (fun _ U o U' => ∃ v L, o = .returned v ∧ (Q_rm_fill Z ab h0 n0) v U'.heap L ∧ FrameEnd U o U' L ({ frames := 0, cells := 0, slots := 0, locals := 0 } : Room).cells ({ frames := 0, cells := 0, slots := 0, locals := 0 } : Room).slots) := by
  sorry
theorem pn_4 : plainName "com/example/upright_play/uprightplay/event/Members" = true := by first | (simp [plainName, overriddenIn]; done) | decide +kernel
theorem ef_rm_init (m : MethodId) (x0 : Addr) : entryFrame m #[(.ref x0)] 1 = mkF m 0 #[.val (.ref x0)] [] := by first | (simp [entryFrame, mkF, argsToLocals, Value.category]; done) | rfl
def Q_rm_init (Z : State) (mb : Addr) (h0 : Heap) (n0 : Nat) (v : Option Value) (h : Heap) (L : List Loc) : Prop := ∃ D : Nat → Addr, v = none ∧ Fr n0 L ∧ Keep h0 h [mb] ∧ (∀ i, i < 10 → h0.size ≤ D i) ∧ ([D 0, D 1, D 2, D 3, D 4, D 5, D 6, D 7, D 8, D 9] : List Addr).Nodup ∧ OwnM Z h mb D own_V0 .null 0 0 0 ∧ Fld Z h mb "com/example/upright_play/uprightplay/event/Members" "pos" "I" (.int (0 : Int32))
set_option maxRecDepth 65536 in
set_option maxHeartbeats 40000000 in
theorem rm_init (l : Launch) (Z : State) (a0 : Array Value) (hw : ∀ d ∈ tables_1, d.before a0 Z = true) (ws : List Jvm.Cond) (mb : Addr) (h0 : Heap) (n0 : Nat) (Zn : n0 ≤ h0.size) (E_mb : Exa Z h0 mb "com/example/upright_play/uprightplay/event/Members") (o_mb : n0 ≤ mb) (F_nameStarts : Fld Z h0 mb "com/example/upright_play/uprightplay/event/Members" "nameStarts" "[I" .null) (F_nameEnds : Fld Z h0 mb "com/example/upright_play/uprightplay/event/Members" "nameEnds" "[I" .null) (F_nameHashes : Fld Z h0 mb "com/example/upright_play/uprightplay/event/Members" "nameHashes" "[I" .null) (F_escapedNames : Fld Z h0 mb "com/example/upright_play/uprightplay/event/Members" "escapedNames" "[Ljava/lang/String;" .null) (F_types : Fld Z h0 mb "com/example/upright_play/uprightplay/event/Members" "types" "[Lcom/example/upright_play/uprightplay/event/Members$Type;" .null) (F_valueStarts : Fld Z h0 mb "com/example/upright_play/uprightplay/event/Members" "valueStarts" "[I" .null) (F_valueEnds : Fld Z h0 mb "com/example/upright_play/uprightplay/event/Members" "valueEnds" "[I" .null) (F_integerEnds : Fld Z h0 mb "com/example/upright_play/uprightplay/event/Members" "integerEnds" "[I" .null) (F_fractionEnds : Fld Z h0 mb "com/example/upright_play/uprightplay/event/Members" "fractionEnds" "[I" .null) (F_slots : Fld Z h0 mb "com/example/upright_play/uprightplay/event/Members" "slots" "[B" .null) (F_line : Fld Z h0 mb "com/example/upright_play/uprightplay/event/Members" "line" "[C" .null) (F_length : Fld Z h0 mb "com/example/upright_play/uprightplay/event/Members" "length" "I" (.int (0 : Int32))) (F_lineNumber : Fld Z h0 mb "com/example/upright_play/uprightplay/event/Members" "lineNumber" "J" (.long (0 : Int64))) (F_count : Fld Z h0 mb "com/example/upright_play/uprightplay/event/Members" "count" "I" (.int (0 : Int32))) (F_index : Fld Z h0 mb "com/example/upright_play/uprightplay/event/Members" "index" "Ljava/util/Map;" .null) (F_integerEnd : Fld Z h0 mb "com/example/upright_play/uprightplay/event/Members" "integerEnd" "I" (.int (0 : Int32))) (F_fractionEnd : Fld Z h0 mb "com/example/upright_play/uprightplay/event/Members" "fractionEnd" "I" (.int (0 : Int32))) (F_pos : Fld Z h0 mb "com/example/upright_play/uprightplay/event/Members" "pos" "I" (.int (0 : Int32))) :
    MetFree l (⟨"com/example/upright_play/uprightplay/event/Members", "<init>", "()V"⟩ : MethodName) (head1 (Jvm.Cond.code (⟨"com/example/upright_play/uprightplay/event/Members", "<init>", "()V"⟩ : MethodName) prog_95_method_1_code 1 none :: ws) ({ frames := 1, cells := 10, slots := 176, locals := 16 } : Room)) (fun a U => a = #[(.ref mb)] ∧ Z.Warmed39 U.vm ∧ U.heap = h0) (fun _ _ _ _ _ => True) (fun _ U o U' => ∃ v L, o = .returned v ∧ (Q_rm_init Z mb h0 n0) v U'.heap L ∧ FrameEnd U o U' L ({ frames := 1, cells := 10, slots := 176, locals := 16 } : Room).cells ({ frames := 1, cells := 10, slots := 176, locals := 16 } : Room).slots) := by
  sorry
theorem pn_26 : plainName "com/example/upright_play/uprightplay/event/Members" = true := by first | (simp [plainName, overriddenIn]; done) | decide +kernel
theorem ef_rm_hash2 (m : MethodId) (x0 : Addr) (x1 : Int32) (x2 : Int32) : entryFrame m #[(.ref x0), (.int x1), (.int x2)] 5 = mkF m 0 #[.val (.ref x0), .val (.int x1), .val (.int x2), .unset, .unset] [] := by first | (simp [entryFrame, mkF, argsToLocals, Value.category]; done) | rfl
def Q_rm_hash2 (Z : State) (mb li : Addr) (LN : List Value) (ch : Nat) (h0 : Heap) (n0 : Nat) (v : Option Value) (h : Heap) (L : List Loc) : Prop := v = some (.int (Int32.ofNat ch)) ∧ Fr n0 L ∧ h = h0
set_option maxRecDepth 65536 in
set_option maxHeartbeats 40000000 in
theorem rm_hash2 (l : Launch) (Z : State) (a0 : Array Value) (hw : ∀ d ∈ tables_1, d.before a0 Z = true) (ws : List Jvm.Cond) (mb li : Addr) (LN : List Value) (ch : Nat) (h0 : Heap) (n0 : Nat) (Zn : n0 ≤ h0.size) (F_line : Fld Z h0 mb "com/example/upright_play/uprightplay/event/Members" "line" "[C" (.ref li)) (A_li : OwnA Z h0 li .char LN) (h2 : LN[2]? = some (.int (Int32.ofNat ch))) :
    MetFree l (⟨"com/example/upright_play/uprightplay/event/Members", "hash", "(II)I"⟩ : MethodName) (head1 (Jvm.Cond.code (⟨"com/example/upright_play/uprightplay/event/Members", "hash", "(II)I"⟩ : MethodName) prog_95_method_28_code 5 (some .int) :: ws) ({ frames := 0, cells := 0, slots := 0, locals := 0 } : Room)) (fun a U => a = #[(.ref mb), (.int (2 : Int32)), (.int (3 : Int32))] ∧ Z.Warmed39 U.vm ∧ U.heap = h0) (fun _ _ _ _ _ => True) (fun _ U o U' => ∃ v L, o = .returned v ∧ (Q_rm_hash2 Z mb li LN ch h0 n0) v U'.heap L ∧ FrameEnd U o U' L ({ frames := 0, cells := 0, slots := 0, locals := 0 } : Room).cells ({ frames := 0, cells := 0, slots := 0, locals := 0 } : Room).slots) := by
  sorry
theorem ef_rm_hash13 (m : MethodId) (x0 : Addr) (x1 : Int32) (x2 : Int32) : entryFrame m #[(.ref x0), (.int x1), (.int x2)] 5 = mkF m 0 #[.val (.ref x0), .val (.int x1), .val (.int x2), .unset, .unset] [] := by first | (simp [entryFrame, mkF, argsToLocals, Value.category]; done) | rfl
def Q_rm_hash13 (Z : State) (mb li : Addr) (LN : List Value) (ch : Nat) (h0 : Heap) (n0 : Nat) (v : Option Value) (h : Heap) (L : List Loc) : Prop := v = some (.int (Int32.ofNat ch)) ∧ Fr n0 L ∧ h = h0
set_option maxRecDepth 65536 in
set_option maxHeartbeats 40000000 in
theorem rm_hash13 (l : Launch) (Z : State) (a0 : Array Value) (hw : ∀ d ∈ tables_1, d.before a0 Z = true) (ws : List Jvm.Cond) (mb li : Addr) (LN : List Value) (ch : Nat) (h0 : Heap) (n0 : Nat) (Zn : n0 ≤ h0.size) (F_line : Fld Z h0 mb "com/example/upright_play/uprightplay/event/Members" "line" "[C" (.ref li)) (A_li : OwnA Z h0 li .char LN) (h2 : LN[13]? = some (.int (Int32.ofNat ch))) :
    MetFree l (⟨"com/example/upright_play/uprightplay/event/Members", "hash", "(II)I"⟩ : MethodName) (head1 (Jvm.Cond.code (⟨"com/example/upright_play/uprightplay/event/Members", "hash", "(II)I"⟩ : MethodName) prog_95_method_28_code 5 (some .int) :: ws) ({ frames := 0, cells := 0, slots := 0, locals := 0 } : Room)) (fun a U => a = #[(.ref mb), (.int (13 : Int32)), (.int (14 : Int32))] ∧ Z.Warmed39 U.vm ∧ U.heap = h0) (fun _ _ _ _ _ => True) (fun _ U o U' => ∃ v L, o = .returned v ∧ (Q_rm_hash13 Z mb li LN ch h0 n0) v U'.heap L ∧ FrameEnd U o U' L ({ frames := 0, cells := 0, slots := 0, locals := 0 } : Room).cells ({ frames := 0, cells := 0, slots := 0, locals := 0 } : Room).slots) := by
  sorry
theorem d25_0 : decode prog_95_method_21_code 0 = .ok (.aload_n 0, 1) := by decide +kernel
theorem d25_1 : decode prog_95_method_21_code 1 = .ok (.getfield 62, 3) := by decide +kernel
theorem d25_4 : decode prog_95_method_21_code 4 = .ok (.aload_n 0, 1) := by decide +kernel
theorem d25_5 : decode prog_95_method_21_code 5 = .ok (.getfield 27, 3) := by decide +kernel
theorem d25_8 : decode prog_95_method_21_code 8 = .ok (.arraylength, 1) := by decide +kernel
theorem d25_9 : decode prog_95_method_21_code 9 = .ok (.if_icmp .ne 7, 3) := by decide +kernel
theorem d25_16 : decode prog_95_method_21_code 16 = .ok (.iload_n 3, 1) := by decide +kernel
theorem d25_17 : decode prog_95_method_21_code 17 = .ok (.ifCond .eq 16, 3) := by decide +kernel
theorem d25_33 : decode prog_95_method_21_code 33 = .ok (.aconst_null, 1) := by decide +kernel
theorem d25_34 : decode prog_95_method_21_code 34 = .ok (.astore 6, 2) := by decide +kernel
theorem d25_36 : decode prog_95_method_21_code 36 = .ok (.aload_n 0, 1) := by decide +kernel
theorem d25_37 : decode prog_95_method_21_code 37 = .ok (.getfield 9, 3) := by decide +kernel
theorem d25_40 : decode prog_95_method_21_code 40 = .ok (.aload_n 0, 1) := by decide +kernel
theorem d25_41 : decode prog_95_method_21_code 41 = .ok (.getfield 62, 3) := by decide +kernel
theorem d25_44 : decode prog_95_method_21_code 44 = .ok (.iload_n 1, 1) := by decide +kernel
theorem d25_45 : decode prog_95_method_21_code 45 = .ok (.iastore, 1) := by decide +kernel
theorem d25_46 : decode prog_95_method_21_code 46 = .ok (.aload_n 0, 1) := by decide +kernel
theorem d25_47 : decode prog_95_method_21_code 47 = .ok (.getfield 13, 3) := by decide +kernel
theorem d25_50 : decode prog_95_method_21_code 50 = .ok (.aload_n 0, 1) := by decide +kernel
theorem d25_51 : decode prog_95_method_21_code 51 = .ok (.getfield 62, 3) := by decide +kernel
theorem d25_54 : decode prog_95_method_21_code 54 = .ok (.iload_n 2, 1) := by decide +kernel
theorem d25_55 : decode prog_95_method_21_code 55 = .ok (.iastore, 1) := by decide +kernel
theorem d25_56 : decode prog_95_method_21_code 56 = .ok (.aload_n 0, 1) := by decide +kernel
theorem d25_57 : decode prog_95_method_21_code 57 = .ok (.getfield 21, 3) := by decide +kernel
theorem d25_60 : decode prog_95_method_21_code 60 = .ok (.aload_n 0, 1) := by decide +kernel
theorem d25_61 : decode prog_95_method_21_code 61 = .ok (.getfield 62, 3) := by decide +kernel
theorem d25_64 : decode prog_95_method_21_code 64 = .ok (.aload 6, 2) := by decide +kernel
theorem d25_66 : decode prog_95_method_21_code 66 = .ok (.aastore, 1) := by decide +kernel
theorem d25_67 : decode prog_95_method_21_code 67 = .ok (.aload_n 0, 1) := by decide +kernel
theorem d25_68 : decode prog_95_method_21_code 68 = .ok (.getfield 16, 3) := by decide +kernel
theorem d25_71 : decode prog_95_method_21_code 71 = .ok (.aload_n 0, 1) := by decide +kernel
theorem d25_72 : decode prog_95_method_21_code 72 = .ok (.getfield 62, 3) := by decide +kernel
theorem d25_75 : decode prog_95_method_21_code 75 = .ok (.iload_n 3, 1) := by decide +kernel
theorem d25_76 : decode prog_95_method_21_code 76 = .ok (.ifCond .eq 11, 3) := by decide +kernel
theorem d25_87 : decode prog_95_method_21_code 87 = .ok (.aload_n 0, 1) := by decide +kernel
theorem d25_88 : decode prog_95_method_21_code 88 = .ok (.iload_n 1, 1) := by decide +kernel
theorem d25_89 : decode prog_95_method_21_code 89 = .ok (.iconst 1, 1) := by decide +kernel
theorem d25_90 : decode prog_95_method_21_code 90 = .ok (.iadd, 1) := by decide +kernel
theorem d25_91 : decode prog_95_method_21_code 91 = .ok (.iload_n 2, 1) := by decide +kernel
theorem d25_92 : decode prog_95_method_21_code 92 = .ok (.iconst 1, 1) := by decide +kernel
theorem d25_93 : decode prog_95_method_21_code 93 = .ok (.isub, 1) := by decide +kernel
theorem d25_94 : decode prog_95_method_21_code 94 = .ok (.invokevirtual 271, 3) := by decide +kernel
theorem d25_97 : decode prog_95_method_21_code 97 = .ok (.iastore, 1) := by decide +kernel
theorem d25_98 : decode prog_95_method_21_code 98 = .ok (.aload_n 0, 1) := by decide +kernel
theorem d25_99 : decode prog_95_method_21_code 99 = .ok (.getfield 27, 3) := by decide +kernel
theorem d25_102 : decode prog_95_method_21_code 102 = .ok (.aload_n 0, 1) := by decide +kernel
theorem d25_103 : decode prog_95_method_21_code 103 = .ok (.getfield 62, 3) := by decide +kernel
theorem d25_106 : decode prog_95_method_21_code 106 = .ok (.aload 4, 2) := by decide +kernel
theorem d25_108 : decode prog_95_method_21_code 108 = .ok (.aastore, 1) := by decide +kernel
theorem d25_109 : decode prog_95_method_21_code 109 = .ok (.aload_n 0, 1) := by decide +kernel
theorem d25_110 : decode prog_95_method_21_code 110 = .ok (.getfield 31, 3) := by decide +kernel
theorem d25_113 : decode prog_95_method_21_code 113 = .ok (.aload_n 0, 1) := by decide +kernel
theorem d25_114 : decode prog_95_method_21_code 114 = .ok (.getfield 62, 3) := by decide +kernel
theorem d25_117 : decode prog_95_method_21_code 117 = .ok (.iload 5, 2) := by decide +kernel
theorem d25_119 : decode prog_95_method_21_code 119 = .ok (.iastore, 1) := by decide +kernel
theorem d25_120 : decode prog_95_method_21_code 120 = .ok (.aload_n 0, 1) := by decide +kernel
theorem d25_121 : decode prog_95_method_21_code 121 = .ok (.getfield 34, 3) := by decide +kernel
theorem d25_124 : decode prog_95_method_21_code 124 = .ok (.aload_n 0, 1) := by decide +kernel
theorem d25_125 : decode prog_95_method_21_code 125 = .ok (.getfield 62, 3) := by decide +kernel
theorem d25_128 : decode prog_95_method_21_code 128 = .ok (.aload_n 0, 1) := by decide +kernel
theorem d25_129 : decode prog_95_method_21_code 129 = .ok (.getfield 59, 3) := by decide +kernel
theorem d25_132 : decode prog_95_method_21_code 132 = .ok (.iastore, 1) := by decide +kernel
theorem d25_133 : decode prog_95_method_21_code 133 = .ok (.aload_n 0, 1) := by decide +kernel
theorem d25_134 : decode prog_95_method_21_code 134 = .ok (.getfield 37, 3) := by decide +kernel
theorem d25_137 : decode prog_95_method_21_code 137 = .ok (.aload_n 0, 1) := by decide +kernel
theorem d25_138 : decode prog_95_method_21_code 138 = .ok (.getfield 62, 3) := by decide +kernel
theorem d25_141 : decode prog_95_method_21_code 141 = .ok (.aload_n 0, 1) := by decide +kernel
theorem d25_142 : decode prog_95_method_21_code 142 = .ok (.getfield 250, 3) := by decide +kernel
theorem d25_145 : decode prog_95_method_21_code 145 = .ok (.iastore, 1) := by decide +kernel
theorem d25_146 : decode prog_95_method_21_code 146 = .ok (.aload_n 0, 1) := by decide +kernel
theorem d25_147 : decode prog_95_method_21_code 147 = .ok (.getfield 40, 3) := by decide +kernel
theorem d25_150 : decode prog_95_method_21_code 150 = .ok (.aload_n 0, 1) := by decide +kernel
theorem d25_151 : decode prog_95_method_21_code 151 = .ok (.getfield 62, 3) := by decide +kernel
theorem d25_154 : decode prog_95_method_21_code 154 = .ok (.aload_n 0, 1) := by decide +kernel
theorem d25_155 : decode prog_95_method_21_code 155 = .ok (.getfield 256, 3) := by decide +kernel
theorem d25_158 : decode prog_95_method_21_code 158 = .ok (.iastore, 1) := by decide +kernel
theorem d25_159 : decode prog_95_method_21_code 159 = .ok (.aload_n 0, 1) := by decide +kernel
theorem d25_160 : decode prog_95_method_21_code 160 = .ok (.getfield 62, 3) := by decide +kernel
theorem d25_163 : decode prog_95_method_21_code 163 = .ok (.bipush 16, 2) := by decide +kernel
theorem d25_165 : decode prog_95_method_21_code 165 = .ok (.if_icmp .ne 53, 3) := by decide +kernel
theorem d25_218 : decode prog_95_method_21_code 218 = .ok (.iconst 0, 1) := by decide +kernel
theorem d25_219 : decode prog_95_method_21_code 219 = .ok (.istore 7, 2) := by decide +kernel
theorem d25_221 : decode prog_95_method_21_code 221 = .ok (.aload_n 0, 1) := by decide +kernel
theorem d25_222 : decode prog_95_method_21_code 222 = .ok (.getfield 65, 3) := by decide +kernel
theorem d25_225 : decode prog_95_method_21_code 225 = .ok (.ifnull 40, 3) := by decide +kernel
theorem d25_265 : decode prog_95_method_21_code 265 = .ok (.aload_n 0, 1) := by decide +kernel
theorem d25_266 : decode prog_95_method_21_code 266 = .ok (.getfield 16, 3) := by decide +kernel
theorem d25_269 : decode prog_95_method_21_code 269 = .ok (.aload_n 0, 1) := by decide +kernel
theorem d25_270 : decode prog_95_method_21_code 270 = .ok (.getfield 62, 3) := by decide +kernel
theorem d25_273 : decode prog_95_method_21_code 273 = .ok (.iaload, 1) := by decide +kernel
theorem d25_274 : decode prog_95_method_21_code 274 = .ok (.istore 8, 2) := by decide +kernel
theorem d25_276 : decode prog_95_method_21_code 276 = .ok (.iload 8, 2) := by decide +kernel
theorem d25_278 : decode prog_95_method_21_code 278 = .ok (.invokestatic 117, 3) := by decide +kernel
theorem d25_281 : decode prog_95_method_21_code 281 = .ok (.istore 9, 2) := by decide +kernel
theorem d25_283 : decode prog_95_method_21_code 283 = .ok (.aload_n 0, 1) := by decide +kernel
theorem d25_284 : decode prog_95_method_21_code 284 = .ok (.getfield 43, 3) := by decide +kernel
theorem d25_287 : decode prog_95_method_21_code 287 = .ok (.iload 9, 2) := by decide +kernel
theorem d25_289 : decode prog_95_method_21_code 289 = .ok (.baload, 1) := by decide +kernel
theorem d25_290 : decode prog_95_method_21_code 290 = .ok (.ifCond .eq 65, 3) := by decide +kernel
theorem d25_355 : decode prog_95_method_21_code 355 = .ok (.aload_n 0, 1) := by decide +kernel
theorem d25_356 : decode prog_95_method_21_code 356 = .ok (.getfield 43, 3) := by decide +kernel
theorem d25_359 : decode prog_95_method_21_code 359 = .ok (.iload 9, 2) := by decide +kernel
theorem d25_361 : decode prog_95_method_21_code 361 = .ok (.aload_n 0, 1) := by decide +kernel
theorem d25_362 : decode prog_95_method_21_code 362 = .ok (.getfield 62, 3) := by decide +kernel
theorem d25_365 : decode prog_95_method_21_code 365 = .ok (.iconst 1, 1) := by decide +kernel
theorem d25_366 : decode prog_95_method_21_code 366 = .ok (.iadd, 1) := by decide +kernel
theorem d25_367 : decode prog_95_method_21_code 367 = .ok (.i2b, 1) := by decide +kernel
theorem d25_368 : decode prog_95_method_21_code 368 = .ok (.bastore, 1) := by decide +kernel
theorem d25_369 : decode prog_95_method_21_code 369 = .ok (.iload 7, 2) := by decide +kernel
theorem d25_371 : decode prog_95_method_21_code 371 = .ok (.ifCond .eq 28, 3) := by decide +kernel
theorem d25_399 : decode prog_95_method_21_code 399 = .ok (.aload_n 0, 1) := by decide +kernel
theorem d25_400 : decode prog_95_method_21_code 400 = .ok (.dup, 1) := by decide +kernel
theorem d25_401 : decode prog_95_method_21_code 401 = .ok (.getfield 62, 3) := by decide +kernel
theorem d25_404 : decode prog_95_method_21_code 404 = .ok (.iconst 1, 1) := by decide +kernel
theorem d25_405 : decode prog_95_method_21_code 405 = .ok (.iadd, 1) := by decide +kernel
theorem d25_406 : decode prog_95_method_21_code 406 = .ok (.putfield 62, 3) := by decide +kernel
theorem d25_409 : decode prog_95_method_21_code 409 = .ok (.return_, 1) := by decide +kernel
theorem pn_25 : plainName "com/example/upright_play/uprightplay/event/Members" = true := by first | (simp [plainName, overriddenIn]; done) | decide +kernel
theorem ef_rm_add0 (m : MethodId) (x0 : Addr) (x1 : Int32) (x2 : Int32) (x3 : Int32) (x4 : Addr) (x5 : Int32) : entryFrame m #[(.ref x0), (.int x1), (.int x2), (.int x3), (.ref x4), (.int x5)] 11 = mkF m 0 #[.val (.ref x0), .val (.int x1), .val (.int x2), .val (.int x3), .val (.ref x4), .val (.int x5), .unset, .unset, .unset, .unset, .unset] [] := by first | (simp [entryFrame, mkF, argsToLocals, Value.category]; done) | rfl
def Q_rm_add0 (Z : State) (mb li : Addr) (D : Nat → Addr) (LN : List Value) (c1 : Nat) (a1 b1 : Int32) (cs : Int32) (fo : Value) (bo : Addr) (h0 : Heap) (n0 : Nat) (v : Option Value) (h : Heap) (L : List Loc) : Prop := v = none ∧ Fr n0 L ∧ Keep h0 h (mb :: [D 0, D 1, D 2, D 3, D 4, D 5, D 6, D 7, D 8, D 9]) ∧ OwnM Z h mb D (own_V1 c1 a1 b1 bo) (.ref li) 23 1 1 ∧ Fld Z h mb "com/example/upright_play/uprightplay/event/Members" "pos" "I" (.int b1)
theorem pd__28II_29I : parseMethodDescriptor "(II)I" = some ⟨[.int, .int], some .int⟩ := by decide +kernel
theorem pd__28I_29I : parseMethodDescriptor "(I)I" = some ⟨[.int], some .int⟩ := by decide +kernel
set_option maxRecDepth 65536 in
set_option maxHeartbeats 40000000 in
theorem rm_add0 (l : Launch) (Z : State) (a0 : Array Value) (hw : ∀ d ∈ tables_1, d.before a0 Z = true) (ws : List Jvm.Cond) (mb li : Addr) (D : Nat → Addr) (LN : List Value) (c1 : Nat) (a1 b1 : Int32) (cs : Int32) (fo : Value) (bo : Addr) (h0 : Heap) (n0 : Nat) (Zn : n0 ≤ h0.size) (M : OwnM Z h0 mb D own_V0 (.ref li) 23 1 0) (DI : own_di n0 mb li D) (A_li : OwnA Z h0 li .char LN) (F_pos : Fld Z h0 mb "com/example/upright_play/uprightplay/event/Members" "pos" "I" (.int b1)) (hc1 : LN[2]? = some (.int (Int32.ofNat c1))) (hk1 : own_nc c1) (O : Old Z n0 h0) (SS : own_st Z cs fo bo) :
    MetFree l (⟨"com/example/upright_play/uprightplay/event/Members", "add", "(IIZLcom/example/upright_play/uprightplay/event/Members$Type;I)V"⟩ : MethodName) (head1 (Jvm.Cond.code (⟨"com/example/upright_play/uprightplay/event/Members", "add", "(IIZLcom/example/upright_play/uprightplay/event/Members$Type;I)V"⟩ : MethodName) prog_95_method_21_code 11 none :: ws) ({ frames := 1, cells := 0, slots := 0, locals := 24 } : Room)) (fun a U => a = #[(.ref mb), (.int (1 : Int32)), (.int (4 : Int32)), (.int (0 : Int32)), (.ref bo), (.int a1)] ∧ Z.Warmed39 U.vm ∧ U.heap = h0) (fun _ _ _ _ _ => True) (fun _ U o U' => ∃ v L, o = .returned v ∧ (Q_rm_add0 Z mb li D LN c1 a1 b1 cs fo bo h0 n0) v U'.heap L ∧ FrameEnd U o U' L ({ frames := 1, cells := 0, slots := 0, locals := 24 } : Room).cells ({ frames := 1, cells := 0, slots := 0, locals := 24 } : Room).slots) := by
  refine MetFree.of_bodySF (plainFor_of_name pn_25) hisR ?_
  intro p e s m args below meth c s₁ Bd hml0 hP hK
  obtain ⟨rfl, hZ, hh⟩ := hP
  have hx := Bd.exec
  have hby := Bd.bytes
  have hml : c.maxLocals = 11 := hml0
  have hown : s.vm.findClass "com/example/upright_play/uprightplay/event/Members" = some m.cls := findClass_of_methodNamed Bd.named
  have hnm := (name_of_methodNamed Bd.named Bd.method).1
  have hlk : meth.locks = false := BodyLoose.notSynchronized Bd
  have X0 : Stand p l e ({ frames := 1, cells := 0, slots := 0, locals := 24 } : Room) s m #[(.ref mb), (.int (1 : Int32)), (.int (4 : Int32)), (.int (0 : Int32)), (.ref bo), (.int a1)] below meth c s₁ [] 0 0 := Stand.of_body Bd
  have e0 : s₁.heap = h0 := by rw [← hh, Bd.state]; rfl
  have N := Fr.nil n0
  have K := Keep.refl h0 [mb, (D 0), (D 1), (D 2), (D 3), (D 4), (D 5), (D 6), (D 7), (D 8), (D 9)]
  refine own_start (cl := ({ frames := 1, cells := 0, slots := 0, locals := 24 } : Room).cells) (sl := ({ frames := 1, cells := 0, slots := 0, locals := 24 } : Room).slots) (Q := (Q_rm_add0 Z mb li D LN c1 a1 b1 cs fo bo h0 n0)) (ef_rm_add0 m mb ((1 : Int32)) ((4 : Int32)) ((0 : Int32)) bo a1) ?_
  obtain ⟨E_mb, F_nameStarts, F_nameEnds, F_nameHashes, F_escapedNames, F_types, F_valueStarts, F_valueEnds, F_integerEnds, F_fractionEnds, F_slots, F_line, F_length, F_lineNumber, F_count, F_index, F_integerEnd, F_fractionEnd, A_0, A_1, A_2, A_3, A_4, A_5, A_6, A_7, A_8, A_9⟩ := M
  have A_0 : OwnA Z h0 (D 0) .int [.int (0 : Int32), .int (0 : Int32), .int (0 : Int32), .int (0 : Int32), .int (0 : Int32), .int (0 : Int32), .int (0 : Int32), .int (0 : Int32), .int (0 : Int32), .int (0 : Int32), .int (0 : Int32), .int (0 : Int32), .int (0 : Int32), .int (0 : Int32), .int (0 : Int32), .int (0 : Int32)] := A_0
  have A_1 : OwnA Z h0 (D 1) .int [.int (0 : Int32), .int (0 : Int32), .int (0 : Int32), .int (0 : Int32), .int (0 : Int32), .int (0 : Int32), .int (0 : Int32), .int (0 : Int32), .int (0 : Int32), .int (0 : Int32), .int (0 : Int32), .int (0 : Int32), .int (0 : Int32), .int (0 : Int32), .int (0 : Int32), .int (0 : Int32)] := A_1
  have A_2 : OwnA Z h0 (D 2) .int [.int (0 : Int32), .int (0 : Int32), .int (0 : Int32), .int (0 : Int32), .int (0 : Int32), .int (0 : Int32), .int (0 : Int32), .int (0 : Int32), .int (0 : Int32), .int (0 : Int32), .int (0 : Int32), .int (0 : Int32), .int (0 : Int32), .int (0 : Int32), .int (0 : Int32), .int (0 : Int32)] := A_2
  have A_3 : OwnO Z h0 (D 3) "java/lang/String" [.null, .null, .null, .null, .null, .null, .null, .null, .null, .null, .null, .null, .null, .null, .null, .null] := A_3
  have A_4 : OwnO Z h0 (D 4) "com/example/upright_play/uprightplay/event/Members$Type" [.null, .null, .null, .null, .null, .null, .null, .null, .null, .null, .null, .null, .null, .null, .null, .null] := A_4
  have A_5 : OwnA Z h0 (D 5) .int [.int (0 : Int32), .int (0 : Int32), .int (0 : Int32), .int (0 : Int32), .int (0 : Int32), .int (0 : Int32), .int (0 : Int32), .int (0 : Int32), .int (0 : Int32), .int (0 : Int32), .int (0 : Int32), .int (0 : Int32), .int (0 : Int32), .int (0 : Int32), .int (0 : Int32), .int (0 : Int32)] := A_5
  have A_6 : OwnA Z h0 (D 6) .int [.int (0 : Int32), .int (0 : Int32), .int (0 : Int32), .int (0 : Int32), .int (0 : Int32), .int (0 : Int32), .int (0 : Int32), .int (0 : Int32), .int (0 : Int32), .int (0 : Int32), .int (0 : Int32), .int (0 : Int32), .int (0 : Int32), .int (0 : Int32), .int (0 : Int32), .int (0 : Int32)] := A_6
  have A_7 : OwnA Z h0 (D 7) .int [.int (0 : Int32), .int (0 : Int32), .int (0 : Int32), .int (0 : Int32), .int (0 : Int32), .int (0 : Int32), .int (0 : Int32), .int (0 : Int32), .int (0 : Int32), .int (0 : Int32), .int (0 : Int32), .int (0 : Int32), .int (0 : Int32), .int (0 : Int32), .int (0 : Int32), .int (0 : Int32)] := A_7
  have A_8 : OwnA Z h0 (D 8) .int [.int (0 : Int32), .int (0 : Int32), .int (0 : Int32), .int (0 : Int32), .int (0 : Int32), .int (0 : Int32), .int (0 : Int32), .int (0 : Int32), .int (0 : Int32), .int (0 : Int32), .int (0 : Int32), .int (0 : Int32), .int (0 : Int32), .int (0 : Int32), .int (0 : Int32), .int (0 : Int32)] := A_8
  have A_9 : OwnA Z h0 (D 9) .byte own_Z32 := A_9
  obtain ⟨SC, hcs, SF, hfo, SB, EB⟩ := SS
  refine own_by (S' := (s₁.setTop (mkF m 1 #[.val (.ref mb), .val (.int (1 : Int32)), .val (.int (4 : Int32)), .val (.int (0 : Int32)), .val (.ref bo), .val (.int a1), .unset, .unset, .unset, .unset, .unset] []))) (fun _ k => XS.aloadN X0.here hx rfl (hb hby d25_0) rfl rfl k) ?_
  obtain ⟨T187, X187, e187, st187⟩ := getF X0 hx hZ hown (host := "") (Or.inl (hw _ (List.mem_of_getElem? (i := 60) rfl))) Via.refl e0 F_count (g := (mkF m 1 #[.val (.ref mb), .val (.int (1 : Int32)), .val (.int (4 : Int32)), .val (.int (0 : Int32)), .val (.ref bo), .val (.int a1), .unset, .unset, .unset, .unset, .unset] [(.ref mb)])) rfl rfl (hb hby d25_1)
  refine own_by (S' := (T187.setTop (mkF m 4 #[.val (.ref mb), .val (.int (1 : Int32)), .val (.int (4 : Int32)), .val (.int (0 : Int32)), .val (.ref bo), .val (.int a1), .unset, .unset, .unset, .unset, .unset] [(.int (0 : Int32))]))) st187 ?_
  refine own_by (S' := (T187.setTop (mkF m 5 #[.val (.ref mb), .val (.int (1 : Int32)), .val (.int (4 : Int32)), .val (.int (0 : Int32)), .val (.ref bo), .val (.int a1), .unset, .unset, .unset, .unset, .unset] [(.int (0 : Int32))]))) (fun _ k => XS.aloadN X187.here hx rfl (hb hby d25_4) rfl rfl k) ?_
  obtain ⟨T188, X188, e188, st188⟩ := getF X187 hx hZ hown (host := "") (Or.inl (hw _ (List.mem_of_getElem? (i := 34) rfl))) Via.refl e187 F_types (g := (mkF m 5 #[.val (.ref mb), .val (.int (1 : Int32)), .val (.int (4 : Int32)), .val (.int (0 : Int32)), .val (.ref bo), .val (.int a1), .unset, .unset, .unset, .unset, .unset] [(.ref mb), (.int (0 : Int32))])) rfl rfl (hb hby d25_5)
  refine own_by (S' := (T188.setTop (mkF m 8 #[.val (.ref mb), .val (.int (1 : Int32)), .val (.int (4 : Int32)), .val (.int (0 : Int32)), .val (.ref bo), .val (.int a1), .unset, .unset, .unset, .unset, .unset] [(.ref (D 4)), (.int (0 : Int32))]))) st188 ?_
  refine own_by (S' := (T188.setTop (mkF m 37 #[.val (.ref mb), .val (.int (1 : Int32)), .val (.int (4 : Int32)), .val (.int (0 : Int32)), .val (.ref bo), .val (.int a1), .val .null, .unset, .unset, .unset, .unset] []))) (fun _ k => own_len X188 hx hZ e188 A_4.toA rfl (g := (mkF m 8 #[.val (.ref mb), .val (.int (1 : Int32)), .val (.int (4 : Int32)), .val (.int (0 : Int32)), .val (.ref bo), .val (.int a1), .unset, .unset, .unset, .unset, .unset] [(.ref (D 4)), (.int (0 : Int32))])) rfl rfl (hb hby d25_8) _ (XS.icmpYes X188.here hx rfl (pc0 := 9) (pc' := 16) rfl (hb hby d25_9) rfl (feq ((by decide) : ¬ ((0 : Int32) = (16 : Int32)))).2 (by decide) (by decide) (XS.iloadN X188.here hx rfl (hb hby d25_16) rfl (XS.ifYes X188.here hx rfl (pc0 := 17) (pc' := 33) rfl (hb hby d25_17) rfl ((if0 _ _).trans (teq ((by decide) : (0 : Int32) = (0 : Int32))).1) (by decide) (by decide) (XS.aconstNull X188.here hx rfl (hb hby d25_33) (XS.astore X188.here hx rfl (hb hby d25_34) rfl rfl (l' := #[.val (.ref mb), .val (.int (1 : Int32)), .val (.int (4 : Int32)), .val (.int (0 : Int32)), .val (.ref bo), .val (.int a1), .val .null, .unset, .unset, .unset, .unset]) rfl (XS.aloadN X188.here hx rfl (hb hby d25_36) rfl rfl k))))))) ?_
  obtain ⟨T189, X189, e189, st189⟩ := getF X188 hx hZ hown (host := "") (Or.inl (hw _ (List.mem_of_getElem? (i := 22) rfl))) Via.refl e188 F_nameStarts (g := (mkF m 37 #[.val (.ref mb), .val (.int (1 : Int32)), .val (.int (4 : Int32)), .val (.int (0 : Int32)), .val (.ref bo), .val (.int a1), .val .null, .unset, .unset, .unset, .unset] [(.ref mb)])) rfl rfl (hb hby d25_37)
  refine own_by (S' := (T189.setTop (mkF m 40 #[.val (.ref mb), .val (.int (1 : Int32)), .val (.int (4 : Int32)), .val (.int (0 : Int32)), .val (.ref bo), .val (.int a1), .val .null, .unset, .unset, .unset, .unset] [(.ref (D 0))]))) st189 ?_
  refine own_by (S' := (T189.setTop (mkF m 41 #[.val (.ref mb), .val (.int (1 : Int32)), .val (.int (4 : Int32)), .val (.int (0 : Int32)), .val (.ref bo), .val (.int a1), .val .null, .unset, .unset, .unset, .unset] [(.ref (D 0))]))) (fun _ k => XS.aloadN X189.here hx rfl (hb hby d25_40) rfl rfl k) ?_
  obtain ⟨T190, X190, e190, st190⟩ := getF X189 hx hZ hown (host := "") (Or.inl (hw _ (List.mem_of_getElem? (i := 60) rfl))) Via.refl e189 F_count (g := (mkF m 41 #[.val (.ref mb), .val (.int (1 : Int32)), .val (.int (4 : Int32)), .val (.int (0 : Int32)), .val (.ref bo), .val (.int a1), .val .null, .unset, .unset, .unset, .unset] [(.ref mb), (.ref (D 0))])) rfl rfl (hb hby d25_41)
  refine own_by (S' := (T190.setTop (mkF m 44 #[.val (.ref mb), .val (.int (1 : Int32)), .val (.int (4 : Int32)), .val (.int (0 : Int32)), .val (.ref bo), .val (.int a1), .val .null, .unset, .unset, .unset, .unset] [(.int (0 : Int32)), (.ref (D 0))]))) st190 ?_
  refine own_by (S' := (T190.setTop (mkF m 45 #[.val (.ref mb), .val (.int (1 : Int32)), .val (.int (4 : Int32)), .val (.int (0 : Int32)), .val (.ref bo), .val (.int a1), .val .null, .unset, .unset, .unset, .unset] []))) (fun _ k => XS.iloadN X190.here hx rfl (hb hby d25_44) rfl k) ?_
  obtain ⟨T191, h191, X191, e191, W191, st191⟩ := own_stI X190 hx hZ e190 A_0 (j := (0 : Int32)) (by decide) (Nat.le_of_ble_eq_true rfl) (g := (mkF m 45 #[.val (.ref mb), .val (.int (1 : Int32)), .val (.int (4 : Int32)), .val (.int (0 : Int32)), .val (.ref bo), .val (.int a1), .val .null, .unset, .unset, .unset, .unset] [(.int (1 : Int32)), (.int (0 : Int32)), (.ref (D 0))])) rfl rfl (hb hby d25_45)
  have N := Fr.snoc X191 N (DI.2.1 0 (by decide))
  have E_mb := E_mb.wr W191
  have F_nameStarts := F_nameStarts.other W191 (Or.inl (own_pick DI.2.2 0 2 rfl rfl (by decide)))
  have F_nameEnds := F_nameEnds.other W191 (Or.inl (own_pick DI.2.2 0 2 rfl rfl (by decide)))
  have F_nameHashes := F_nameHashes.other W191 (Or.inl (own_pick DI.2.2 0 2 rfl rfl (by decide)))
  have F_escapedNames := F_escapedNames.other W191 (Or.inl (own_pick DI.2.2 0 2 rfl rfl (by decide)))
  have F_types := F_types.other W191 (Or.inl (own_pick DI.2.2 0 2 rfl rfl (by decide)))
  have F_valueStarts := F_valueStarts.other W191 (Or.inl (own_pick DI.2.2 0 2 rfl rfl (by decide)))
  have F_valueEnds := F_valueEnds.other W191 (Or.inl (own_pick DI.2.2 0 2 rfl rfl (by decide)))
  have F_integerEnds := F_integerEnds.other W191 (Or.inl (own_pick DI.2.2 0 2 rfl rfl (by decide)))
  have F_fractionEnds := F_fractionEnds.other W191 (Or.inl (own_pick DI.2.2 0 2 rfl rfl (by decide)))
  have F_slots := F_slots.other W191 (Or.inl (own_pick DI.2.2 0 2 rfl rfl (by decide)))
  have F_line := F_line.other W191 (Or.inl (own_pick DI.2.2 0 2 rfl rfl (by decide)))
  have F_length := F_length.other W191 (Or.inl (own_pick DI.2.2 0 2 rfl rfl (by decide)))
  have F_lineNumber := F_lineNumber.other W191 (Or.inl (own_pick DI.2.2 0 2 rfl rfl (by decide)))
  have F_count := F_count.other W191 (Or.inl (own_pick DI.2.2 0 2 rfl rfl (by decide)))
  have F_index := F_index.other W191 (Or.inl (own_pick DI.2.2 0 2 rfl rfl (by decide)))
  have F_integerEnd := F_integerEnd.other W191 (Or.inl (own_pick DI.2.2 0 2 rfl rfl (by decide)))
  have F_fractionEnd := F_fractionEnd.other W191 (Or.inl (own_pick DI.2.2 0 2 rfl rfl (by decide)))
  have A_0 := A_0.set W191
  have A_1 := A_1.other W191 (Ne.symm (own_pick DI.2.2 2 3 rfl rfl (by decide)))
  have A_2 := A_2.other W191 (Ne.symm (own_pick DI.2.2 2 4 rfl rfl (by decide)))
  have A_3 := A_3.other W191 (Ne.symm (own_pick DI.2.2 2 5 rfl rfl (by decide)))
  have A_4 := A_4.other W191 (Ne.symm (own_pick DI.2.2 2 6 rfl rfl (by decide)))
  have A_5 := A_5.other W191 (Ne.symm (own_pick DI.2.2 2 7 rfl rfl (by decide)))
  have A_6 := A_6.other W191 (Ne.symm (own_pick DI.2.2 2 8 rfl rfl (by decide)))
  have A_7 := A_7.other W191 (Ne.symm (own_pick DI.2.2 2 9 rfl rfl (by decide)))
  have A_8 := A_8.other W191 (Ne.symm (own_pick DI.2.2 2 10 rfl rfl (by decide)))
  have A_9 := A_9.other W191 (Ne.symm (own_pick DI.2.2 2 11 rfl rfl (by decide)))
  have A_li := A_li.other W191 (own_pick DI.2.2 1 2 rfl rfl (by decide))
  have O := O.wr W191 (DI.2.1 0 (by decide))
  have F_pos := F_pos.other W191 (Or.inl (own_pick DI.2.2 0 2 rfl rfl (by decide)))
  have Zn : n0 ≤ _ := Nat.le_trans Zn (Nat.le_of_eq W191.size.symm)
  have K := K.wr W191 (Or.inl (List.mem_of_getElem? (i := 1) rfl))
  have A_0 : OwnA Z h191 (D 0) .int [(.int (1 : Int32)), .int (0 : Int32), .int (0 : Int32), .int (0 : Int32), .int (0 : Int32), .int (0 : Int32), .int (0 : Int32), .int (0 : Int32), .int (0 : Int32), .int (0 : Int32), .int (0 : Int32), .int (0 : Int32), .int (0 : Int32), .int (0 : Int32), .int (0 : Int32), .int (0 : Int32)] := A_0
  refine own_by (S' := (T191.setTop (mkF m 46 #[.val (.ref mb), .val (.int (1 : Int32)), .val (.int (4 : Int32)), .val (.int (0 : Int32)), .val (.ref bo), .val (.int a1), .val .null, .unset, .unset, .unset, .unset] []))) st191 ?_
  refine own_by (S' := (T191.setTop (mkF m 47 #[.val (.ref mb), .val (.int (1 : Int32)), .val (.int (4 : Int32)), .val (.int (0 : Int32)), .val (.ref bo), .val (.int a1), .val .null, .unset, .unset, .unset, .unset] []))) (fun _ k => XS.aloadN X191.here hx rfl (hb hby d25_46) rfl rfl k) ?_
  obtain ⟨T192, X192, e192, st192⟩ := getF X191 hx hZ hown (host := "") (Or.inl (hw _ (List.mem_of_getElem? (i := 24) rfl))) Via.refl e191 F_nameEnds (g := (mkF m 47 #[.val (.ref mb), .val (.int (1 : Int32)), .val (.int (4 : Int32)), .val (.int (0 : Int32)), .val (.ref bo), .val (.int a1), .val .null, .unset, .unset, .unset, .unset] [(.ref mb)])) rfl rfl (hb hby d25_47)
  refine own_by (S' := (T192.setTop (mkF m 50 #[.val (.ref mb), .val (.int (1 : Int32)), .val (.int (4 : Int32)), .val (.int (0 : Int32)), .val (.ref bo), .val (.int a1), .val .null, .unset, .unset, .unset, .unset] [(.ref (D 1))]))) st192 ?_
  refine own_by (S' := (T192.setTop (mkF m 51 #[.val (.ref mb), .val (.int (1 : Int32)), .val (.int (4 : Int32)), .val (.int (0 : Int32)), .val (.ref bo), .val (.int a1), .val .null, .unset, .unset, .unset, .unset] [(.ref (D 1))]))) (fun _ k => XS.aloadN X192.here hx rfl (hb hby d25_50) rfl rfl k) ?_
  obtain ⟨T193, X193, e193, st193⟩ := getF X192 hx hZ hown (host := "") (Or.inl (hw _ (List.mem_of_getElem? (i := 60) rfl))) Via.refl e192 F_count (g := (mkF m 51 #[.val (.ref mb), .val (.int (1 : Int32)), .val (.int (4 : Int32)), .val (.int (0 : Int32)), .val (.ref bo), .val (.int a1), .val .null, .unset, .unset, .unset, .unset] [(.ref mb), (.ref (D 1))])) rfl rfl (hb hby d25_51)
  refine own_by (S' := (T193.setTop (mkF m 54 #[.val (.ref mb), .val (.int (1 : Int32)), .val (.int (4 : Int32)), .val (.int (0 : Int32)), .val (.ref bo), .val (.int a1), .val .null, .unset, .unset, .unset, .unset] [(.int (0 : Int32)), (.ref (D 1))]))) st193 ?_
  refine own_by (S' := (T193.setTop (mkF m 55 #[.val (.ref mb), .val (.int (1 : Int32)), .val (.int (4 : Int32)), .val (.int (0 : Int32)), .val (.ref bo), .val (.int a1), .val .null, .unset, .unset, .unset, .unset] []))) (fun _ k => XS.iloadN X193.here hx rfl (hb hby d25_54) rfl k) ?_
  obtain ⟨T194, h194, X194, e194, W194, st194⟩ := own_stI X193 hx hZ e193 A_1 (j := (0 : Int32)) (by decide) (Nat.le_of_ble_eq_true rfl) (g := (mkF m 55 #[.val (.ref mb), .val (.int (1 : Int32)), .val (.int (4 : Int32)), .val (.int (0 : Int32)), .val (.ref bo), .val (.int a1), .val .null, .unset, .unset, .unset, .unset] [(.int (4 : Int32)), (.int (0 : Int32)), (.ref (D 1))])) rfl rfl (hb hby d25_55)
  have N := Fr.snoc X194 N (DI.2.1 1 (by decide))
  have E_mb := E_mb.wr W194
  have F_nameStarts := F_nameStarts.other W194 (Or.inl (own_pick DI.2.2 0 3 rfl rfl (by decide)))
  have F_nameEnds := F_nameEnds.other W194 (Or.inl (own_pick DI.2.2 0 3 rfl rfl (by decide)))
  have F_nameHashes := F_nameHashes.other W194 (Or.inl (own_pick DI.2.2 0 3 rfl rfl (by decide)))
  have F_escapedNames := F_escapedNames.other W194 (Or.inl (own_pick DI.2.2 0 3 rfl rfl (by decide)))
  have F_types := F_types.other W194 (Or.inl (own_pick DI.2.2 0 3 rfl rfl (by decide)))
  have F_valueStarts := F_valueStarts.other W194 (Or.inl (own_pick DI.2.2 0 3 rfl rfl (by decide)))
  have F_valueEnds := F_valueEnds.other W194 (Or.inl (own_pick DI.2.2 0 3 rfl rfl (by decide)))
  have F_integerEnds := F_integerEnds.other W194 (Or.inl (own_pick DI.2.2 0 3 rfl rfl (by decide)))
  have F_fractionEnds := F_fractionEnds.other W194 (Or.inl (own_pick DI.2.2 0 3 rfl rfl (by decide)))
  have F_slots := F_slots.other W194 (Or.inl (own_pick DI.2.2 0 3 rfl rfl (by decide)))
  have F_line := F_line.other W194 (Or.inl (own_pick DI.2.2 0 3 rfl rfl (by decide)))
  have F_length := F_length.other W194 (Or.inl (own_pick DI.2.2 0 3 rfl rfl (by decide)))
  have F_lineNumber := F_lineNumber.other W194 (Or.inl (own_pick DI.2.2 0 3 rfl rfl (by decide)))
  have F_count := F_count.other W194 (Or.inl (own_pick DI.2.2 0 3 rfl rfl (by decide)))
  have F_index := F_index.other W194 (Or.inl (own_pick DI.2.2 0 3 rfl rfl (by decide)))
  have F_integerEnd := F_integerEnd.other W194 (Or.inl (own_pick DI.2.2 0 3 rfl rfl (by decide)))
  have F_fractionEnd := F_fractionEnd.other W194 (Or.inl (own_pick DI.2.2 0 3 rfl rfl (by decide)))
  have A_0 := A_0.other W194 (own_pick DI.2.2 2 3 rfl rfl (by decide))
  have A_1 := A_1.set W194
  have A_2 := A_2.other W194 (Ne.symm (own_pick DI.2.2 3 4 rfl rfl (by decide)))
  have A_3 := A_3.other W194 (Ne.symm (own_pick DI.2.2 3 5 rfl rfl (by decide)))
  have A_4 := A_4.other W194 (Ne.symm (own_pick DI.2.2 3 6 rfl rfl (by decide)))
  have A_5 := A_5.other W194 (Ne.symm (own_pick DI.2.2 3 7 rfl rfl (by decide)))
  have A_6 := A_6.other W194 (Ne.symm (own_pick DI.2.2 3 8 rfl rfl (by decide)))
  have A_7 := A_7.other W194 (Ne.symm (own_pick DI.2.2 3 9 rfl rfl (by decide)))
  have A_8 := A_8.other W194 (Ne.symm (own_pick DI.2.2 3 10 rfl rfl (by decide)))
  have A_9 := A_9.other W194 (Ne.symm (own_pick DI.2.2 3 11 rfl rfl (by decide)))
  have A_li := A_li.other W194 (own_pick DI.2.2 1 3 rfl rfl (by decide))
  have O := O.wr W194 (DI.2.1 1 (by decide))
  have F_pos := F_pos.other W194 (Or.inl (own_pick DI.2.2 0 3 rfl rfl (by decide)))
  have Zn : n0 ≤ _ := Nat.le_trans Zn (Nat.le_of_eq W194.size.symm)
  have K := K.wr W194 (Or.inl (List.mem_of_getElem? (i := 2) rfl))
  have A_1 : OwnA Z h194 (D 1) .int [(.int (4 : Int32)), .int (0 : Int32), .int (0 : Int32), .int (0 : Int32), .int (0 : Int32), .int (0 : Int32), .int (0 : Int32), .int (0 : Int32), .int (0 : Int32), .int (0 : Int32), .int (0 : Int32), .int (0 : Int32), .int (0 : Int32), .int (0 : Int32), .int (0 : Int32), .int (0 : Int32)] := A_1
  refine own_by (S' := (T194.setTop (mkF m 56 #[.val (.ref mb), .val (.int (1 : Int32)), .val (.int (4 : Int32)), .val (.int (0 : Int32)), .val (.ref bo), .val (.int a1), .val .null, .unset, .unset, .unset, .unset] []))) st194 ?_
  refine own_by (S' := (T194.setTop (mkF m 57 #[.val (.ref mb), .val (.int (1 : Int32)), .val (.int (4 : Int32)), .val (.int (0 : Int32)), .val (.ref bo), .val (.int a1), .val .null, .unset, .unset, .unset, .unset] []))) (fun _ k => XS.aloadN X194.here hx rfl (hb hby d25_56) rfl rfl k) ?_
  obtain ⟨T195, X195, e195, st195⟩ := getF X194 hx hZ hown (host := "") (Or.inl (hw _ (List.mem_of_getElem? (i := 30) rfl))) Via.refl e194 F_escapedNames (g := (mkF m 57 #[.val (.ref mb), .val (.int (1 : Int32)), .val (.int (4 : Int32)), .val (.int (0 : Int32)), .val (.ref bo), .val (.int a1), .val .null, .unset, .unset, .unset, .unset] [(.ref mb)])) rfl rfl (hb hby d25_57)
  refine own_by (S' := (T195.setTop (mkF m 60 #[.val (.ref mb), .val (.int (1 : Int32)), .val (.int (4 : Int32)), .val (.int (0 : Int32)), .val (.ref bo), .val (.int a1), .val .null, .unset, .unset, .unset, .unset] [(.ref (D 3))]))) st195 ?_
  refine own_by (S' := (T195.setTop (mkF m 61 #[.val (.ref mb), .val (.int (1 : Int32)), .val (.int (4 : Int32)), .val (.int (0 : Int32)), .val (.ref bo), .val (.int a1), .val .null, .unset, .unset, .unset, .unset] [(.ref (D 3))]))) (fun _ k => XS.aloadN X195.here hx rfl (hb hby d25_60) rfl rfl k) ?_
  obtain ⟨T196, X196, e196, st196⟩ := getF X195 hx hZ hown (host := "") (Or.inl (hw _ (List.mem_of_getElem? (i := 60) rfl))) Via.refl e195 F_count (g := (mkF m 61 #[.val (.ref mb), .val (.int (1 : Int32)), .val (.int (4 : Int32)), .val (.int (0 : Int32)), .val (.ref bo), .val (.int a1), .val .null, .unset, .unset, .unset, .unset] [(.ref mb), (.ref (D 3))])) rfl rfl (hb hby d25_61)
  refine own_by (S' := (T196.setTop (mkF m 64 #[.val (.ref mb), .val (.int (1 : Int32)), .val (.int (4 : Int32)), .val (.int (0 : Int32)), .val (.ref bo), .val (.int a1), .val .null, .unset, .unset, .unset, .unset] [(.int (0 : Int32)), (.ref (D 3))]))) st196 ?_
  refine own_by (S' := (T196.setTop (mkF m 66 #[.val (.ref mb), .val (.int (1 : Int32)), .val (.int (4 : Int32)), .val (.int (0 : Int32)), .val (.ref bo), .val (.int a1), .val .null, .unset, .unset, .unset, .unset] []))) (fun _ k => XS.aload X196.here hx rfl (hb hby d25_64) rfl rfl k) ?_
  obtain ⟨T197, h197, X197, e197, W197, st197⟩ := own_stO X196 hx hZ e196 A_3 (v := .null) (Or.inl rfl) (j := (0 : Int32)) (by decide) (Nat.le_of_ble_eq_true rfl) (g := (mkF m 66 #[.val (.ref mb), .val (.int (1 : Int32)), .val (.int (4 : Int32)), .val (.int (0 : Int32)), .val (.ref bo), .val (.int a1), .val .null, .unset, .unset, .unset, .unset] [.null, (.int (0 : Int32)), (.ref (D 3))])) rfl rfl (hb hby d25_66)
  have N := Fr.snoc X197 N (DI.2.1 3 (by decide))
  have E_mb := E_mb.wr W197
  have F_nameStarts := F_nameStarts.other W197 (Or.inl (own_pick DI.2.2 0 5 rfl rfl (by decide)))
  have F_nameEnds := F_nameEnds.other W197 (Or.inl (own_pick DI.2.2 0 5 rfl rfl (by decide)))
  have F_nameHashes := F_nameHashes.other W197 (Or.inl (own_pick DI.2.2 0 5 rfl rfl (by decide)))
  have F_escapedNames := F_escapedNames.other W197 (Or.inl (own_pick DI.2.2 0 5 rfl rfl (by decide)))
  have F_types := F_types.other W197 (Or.inl (own_pick DI.2.2 0 5 rfl rfl (by decide)))
  have F_valueStarts := F_valueStarts.other W197 (Or.inl (own_pick DI.2.2 0 5 rfl rfl (by decide)))
  have F_valueEnds := F_valueEnds.other W197 (Or.inl (own_pick DI.2.2 0 5 rfl rfl (by decide)))
  have F_integerEnds := F_integerEnds.other W197 (Or.inl (own_pick DI.2.2 0 5 rfl rfl (by decide)))
  have F_fractionEnds := F_fractionEnds.other W197 (Or.inl (own_pick DI.2.2 0 5 rfl rfl (by decide)))
  have F_slots := F_slots.other W197 (Or.inl (own_pick DI.2.2 0 5 rfl rfl (by decide)))
  have F_line := F_line.other W197 (Or.inl (own_pick DI.2.2 0 5 rfl rfl (by decide)))
  have F_length := F_length.other W197 (Or.inl (own_pick DI.2.2 0 5 rfl rfl (by decide)))
  have F_lineNumber := F_lineNumber.other W197 (Or.inl (own_pick DI.2.2 0 5 rfl rfl (by decide)))
  have F_count := F_count.other W197 (Or.inl (own_pick DI.2.2 0 5 rfl rfl (by decide)))
  have F_index := F_index.other W197 (Or.inl (own_pick DI.2.2 0 5 rfl rfl (by decide)))
  have F_integerEnd := F_integerEnd.other W197 (Or.inl (own_pick DI.2.2 0 5 rfl rfl (by decide)))
  have F_fractionEnd := F_fractionEnd.other W197 (Or.inl (own_pick DI.2.2 0 5 rfl rfl (by decide)))
  have A_0 := A_0.other W197 (own_pick DI.2.2 2 5 rfl rfl (by decide))
  have A_1 := A_1.other W197 (own_pick DI.2.2 3 5 rfl rfl (by decide))
  have A_2 := A_2.other W197 (own_pick DI.2.2 4 5 rfl rfl (by decide))
  have A_3 := A_3.set W197
  have A_4 := A_4.other W197 (Ne.symm (own_pick DI.2.2 5 6 rfl rfl (by decide)))
  have A_5 := A_5.other W197 (Ne.symm (own_pick DI.2.2 5 7 rfl rfl (by decide)))
  have A_6 := A_6.other W197 (Ne.symm (own_pick DI.2.2 5 8 rfl rfl (by decide)))
  have A_7 := A_7.other W197 (Ne.symm (own_pick DI.2.2 5 9 rfl rfl (by decide)))
  have A_8 := A_8.other W197 (Ne.symm (own_pick DI.2.2 5 10 rfl rfl (by decide)))
  have A_9 := A_9.other W197 (Ne.symm (own_pick DI.2.2 5 11 rfl rfl (by decide)))
  have A_li := A_li.other W197 (own_pick DI.2.2 1 5 rfl rfl (by decide))
  have O := O.wr W197 (DI.2.1 3 (by decide))
  have F_pos := F_pos.other W197 (Or.inl (own_pick DI.2.2 0 5 rfl rfl (by decide)))
  have Zn : n0 ≤ _ := Nat.le_trans Zn (Nat.le_of_eq W197.size.symm)
  have K := K.wr W197 (Or.inl (List.mem_of_getElem? (i := 4) rfl))
  have A_3 : OwnO Z h197 (D 3) "java/lang/String" [.null, .null, .null, .null, .null, .null, .null, .null, .null, .null, .null, .null, .null, .null, .null, .null] := A_3
  refine own_by (S' := (T197.setTop (mkF m 67 #[.val (.ref mb), .val (.int (1 : Int32)), .val (.int (4 : Int32)), .val (.int (0 : Int32)), .val (.ref bo), .val (.int a1), .val .null, .unset, .unset, .unset, .unset] []))) st197 ?_
  refine own_by (S' := (T197.setTop (mkF m 68 #[.val (.ref mb), .val (.int (1 : Int32)), .val (.int (4 : Int32)), .val (.int (0 : Int32)), .val (.ref bo), .val (.int a1), .val .null, .unset, .unset, .unset, .unset] []))) (fun _ k => XS.aloadN X197.here hx rfl (hb hby d25_67) rfl rfl k) ?_
  obtain ⟨T198, X198, e198, st198⟩ := getF X197 hx hZ hown (host := "") (Or.inl (hw _ (List.mem_of_getElem? (i := 26) rfl))) Via.refl e197 F_nameHashes (g := (mkF m 68 #[.val (.ref mb), .val (.int (1 : Int32)), .val (.int (4 : Int32)), .val (.int (0 : Int32)), .val (.ref bo), .val (.int a1), .val .null, .unset, .unset, .unset, .unset] [(.ref mb)])) rfl rfl (hb hby d25_68)
  refine own_by (S' := (T198.setTop (mkF m 71 #[.val (.ref mb), .val (.int (1 : Int32)), .val (.int (4 : Int32)), .val (.int (0 : Int32)), .val (.ref bo), .val (.int a1), .val .null, .unset, .unset, .unset, .unset] [(.ref (D 2))]))) st198 ?_
  refine own_by (S' := (T198.setTop (mkF m 72 #[.val (.ref mb), .val (.int (1 : Int32)), .val (.int (4 : Int32)), .val (.int (0 : Int32)), .val (.ref bo), .val (.int a1), .val .null, .unset, .unset, .unset, .unset] [(.ref (D 2))]))) (fun _ k => XS.aloadN X198.here hx rfl (hb hby d25_71) rfl rfl k) ?_
  obtain ⟨T199, X199, e199, st199⟩ := getF X198 hx hZ hown (host := "") (Or.inl (hw _ (List.mem_of_getElem? (i := 60) rfl))) Via.refl e198 F_count (g := (mkF m 72 #[.val (.ref mb), .val (.int (1 : Int32)), .val (.int (4 : Int32)), .val (.int (0 : Int32)), .val (.ref bo), .val (.int a1), .val .null, .unset, .unset, .unset, .unset] [(.ref mb), (.ref (D 2))])) rfl rfl (hb hby d25_72)
  refine own_by (S' := (T199.setTop (mkF m 75 #[.val (.ref mb), .val (.int (1 : Int32)), .val (.int (4 : Int32)), .val (.int (0 : Int32)), .val (.ref bo), .val (.int a1), .val .null, .unset, .unset, .unset, .unset] [(.int (0 : Int32)), (.ref (D 2))]))) st199 ?_
  refine own_by (S' := (T199.setTop (mkF m 94 #[.val (.ref mb), .val (.int (1 : Int32)), .val (.int (4 : Int32)), .val (.int (0 : Int32)), .val (.ref bo), .val (.int a1), .val .null, .unset, .unset, .unset, .unset] [(.int (0 : Int32)), (.ref (D 2))]))) (fun _ k => XS.iloadN X199.here hx rfl (hb hby d25_75) rfl (XS.ifYes X199.here hx rfl (pc0 := 76) (pc' := 87) rfl (hb hby d25_76) rfl ((if0 _ _).trans (teq ((by decide) : (0 : Int32) = (0 : Int32))).1) (by decide) (by decide) (XS.aloadN X199.here hx rfl (hb hby d25_87) rfl rfl (XS.iloadN X199.here hx rfl (hb hby d25_88) rfl (XS.iconst X199.here hx rfl (hb hby d25_89) (XS.iadd X199.here hx rfl (hb hby d25_90) rfl (XS.iloadN X199.here hx rfl (hb hby d25_91) rfl (XS.iconst X199.here hx rfl (hb hby d25_92) (XS.isub X199.here hx rfl (hb hby d25_93) rfl k))))))))) ?_
  obtain ⟨cq200, q200, q200'⟩ := E_mb.cell
  obtain ⟨_, _, ⟨T200, L200, k200, n200⟩, -, X200, ⟨Lc200, hQ200, l200, y200, z200⟩, st200⟩ := X199.privateBack hx (y := (⟨"com/example/upright_play/uprightplay/event/Members", "hash", "(II)I"⟩ : MethodName)) hown (mvT hZ (hw _ (List.mem_of_getElem? (i := 156) rfl))) (mvT hZ (hw _ (List.mem_of_getElem? (i := 157) rfl))) (own_selP hZ (hw _ (List.mem_of_getElem? (i := 13) rfl)) (hw _ (List.mem_of_getElem? (i := 158) rfl)) (hw _ (List.mem_of_getElem? (i := 157) rfl)) (by decide)) (Cond.privateMethod_at (mvP hZ (hw _ (List.mem_of_getElem? (i := 158) rfl)) (args := #[]))) (mvT hZ (hw _ (List.mem_of_getElem? (i := 159) rfl))) (by decide) (backOf (W := 2) (rm_hash2 l Z a0 hw [] mb li LN c1 h197 n0 Zn F_line A_li hc1) hZ (hw _ (List.mem_of_getElem? (i := 159) rfl)) (hw _ (List.mem_of_getElem? (i := 14) rfl)) (by decide) (by decide)) (g := (mkF m 94 #[.val (.ref mb), .val (.int (1 : Int32)), .val (.int (4 : Int32)), .val (.int (0 : Int32)), .val (.ref bo), .val (.int a1), .val .null, .unset, .unset, .unset, .unset] [(.int (3 : Int32)), (.int (2 : Int32)), (.ref mb), (.int (0 : Int32)), (.ref (D 2))])) rfl (by rw [hml]; rfl) (Steps.refl _) (a := mb) (by rw [e199]; exact q200) q200' (argsL := [(.int (2 : Int32)), (.int (3 : Int32))]) (rest := [(.int (0 : Int32)), (.ref (D 2))]) (lenOf pd__28II_29I rfl) rfl (by show 2 * 0 + _ ≤ _; exact Nat.le_of_eq rfl) (hb hby d25_94) (fun _ _ => ⟨rfl, e199, (by decide : 0 + 0 ≤ _), (by decide : 0 + 0 ≤ _)⟩)
  dsimp only [Pt.U, Pt.locs, Pt.cells, Pt.slots] at X200 l200 y200 z200 st200 hQ200
  have X200 := own_recast X200 l200 y200 z200
  obtain ⟨rfl, N200q, eh⟩ := hQ200
  have N := Fr.app N N200q
  refine own_tr (S' := (T200.setTop (mkF m 97 #[.val (.ref mb), .val (.int (1 : Int32)), .val (.int (4 : Int32)), .val (.int (0 : Int32)), .val (.ref bo), .val (.int a1), .val .null, .unset, .unset, .unset, .unset] [(.int (Int32.ofNat c1)), (.int (0 : Int32)), (.ref (D 2))]))) st200 ?_
  obtain ⟨T201, h201, X201, e201, W201, st201⟩ := own_stI X200 hx hZ eh A_2 (j := (0 : Int32)) (by decide) (Nat.le_of_ble_eq_true rfl) (g := (mkF m 97 #[.val (.ref mb), .val (.int (1 : Int32)), .val (.int (4 : Int32)), .val (.int (0 : Int32)), .val (.ref bo), .val (.int a1), .val .null, .unset, .unset, .unset, .unset] [(.int (Int32.ofNat c1)), (.int (0 : Int32)), (.ref (D 2))])) rfl rfl (hb hby d25_97)
  have N := Fr.snoc X201 N (DI.2.1 2 (by decide))
  have E_mb := E_mb.wr W201
  have F_nameStarts := F_nameStarts.other W201 (Or.inl (own_pick DI.2.2 0 4 rfl rfl (by decide)))
  have F_nameEnds := F_nameEnds.other W201 (Or.inl (own_pick DI.2.2 0 4 rfl rfl (by decide)))
  have F_nameHashes := F_nameHashes.other W201 (Or.inl (own_pick DI.2.2 0 4 rfl rfl (by decide)))
  have F_escapedNames := F_escapedNames.other W201 (Or.inl (own_pick DI.2.2 0 4 rfl rfl (by decide)))
  have F_types := F_types.other W201 (Or.inl (own_pick DI.2.2 0 4 rfl rfl (by decide)))
  have F_valueStarts := F_valueStarts.other W201 (Or.inl (own_pick DI.2.2 0 4 rfl rfl (by decide)))
  have F_valueEnds := F_valueEnds.other W201 (Or.inl (own_pick DI.2.2 0 4 rfl rfl (by decide)))
  have F_integerEnds := F_integerEnds.other W201 (Or.inl (own_pick DI.2.2 0 4 rfl rfl (by decide)))
  have F_fractionEnds := F_fractionEnds.other W201 (Or.inl (own_pick DI.2.2 0 4 rfl rfl (by decide)))
  have F_slots := F_slots.other W201 (Or.inl (own_pick DI.2.2 0 4 rfl rfl (by decide)))
  have F_line := F_line.other W201 (Or.inl (own_pick DI.2.2 0 4 rfl rfl (by decide)))
  have F_length := F_length.other W201 (Or.inl (own_pick DI.2.2 0 4 rfl rfl (by decide)))
  have F_lineNumber := F_lineNumber.other W201 (Or.inl (own_pick DI.2.2 0 4 rfl rfl (by decide)))
  have F_count := F_count.other W201 (Or.inl (own_pick DI.2.2 0 4 rfl rfl (by decide)))
  have F_index := F_index.other W201 (Or.inl (own_pick DI.2.2 0 4 rfl rfl (by decide)))
  have F_integerEnd := F_integerEnd.other W201 (Or.inl (own_pick DI.2.2 0 4 rfl rfl (by decide)))
  have F_fractionEnd := F_fractionEnd.other W201 (Or.inl (own_pick DI.2.2 0 4 rfl rfl (by decide)))
  have A_0 := A_0.other W201 (own_pick DI.2.2 2 4 rfl rfl (by decide))
  have A_1 := A_1.other W201 (own_pick DI.2.2 3 4 rfl rfl (by decide))
  have A_2 := A_2.set W201
  have A_3 := A_3.other W201 (Ne.symm (own_pick DI.2.2 4 5 rfl rfl (by decide)))
  have A_4 := A_4.other W201 (Ne.symm (own_pick DI.2.2 4 6 rfl rfl (by decide)))
  have A_5 := A_5.other W201 (Ne.symm (own_pick DI.2.2 4 7 rfl rfl (by decide)))
  have A_6 := A_6.other W201 (Ne.symm (own_pick DI.2.2 4 8 rfl rfl (by decide)))
  have A_7 := A_7.other W201 (Ne.symm (own_pick DI.2.2 4 9 rfl rfl (by decide)))
  have A_8 := A_8.other W201 (Ne.symm (own_pick DI.2.2 4 10 rfl rfl (by decide)))
  have A_9 := A_9.other W201 (Ne.symm (own_pick DI.2.2 4 11 rfl rfl (by decide)))
  have A_li := A_li.other W201 (own_pick DI.2.2 1 4 rfl rfl (by decide))
  have O := O.wr W201 (DI.2.1 2 (by decide))
  have F_pos := F_pos.other W201 (Or.inl (own_pick DI.2.2 0 4 rfl rfl (by decide)))
  have Zn : n0 ≤ _ := Nat.le_trans Zn (Nat.le_of_eq W201.size.symm)
  have K := K.wr W201 (Or.inl (List.mem_of_getElem? (i := 3) rfl))
  have A_2 : OwnA Z h201 (D 2) .int [(.int (Int32.ofNat c1)), .int (0 : Int32), .int (0 : Int32), .int (0 : Int32), .int (0 : Int32), .int (0 : Int32), .int (0 : Int32), .int (0 : Int32), .int (0 : Int32), .int (0 : Int32), .int (0 : Int32), .int (0 : Int32), .int (0 : Int32), .int (0 : Int32), .int (0 : Int32), .int (0 : Int32)] := A_2
  refine own_by (S' := (T201.setTop (mkF m 98 #[.val (.ref mb), .val (.int (1 : Int32)), .val (.int (4 : Int32)), .val (.int (0 : Int32)), .val (.ref bo), .val (.int a1), .val .null, .unset, .unset, .unset, .unset] []))) st201 ?_
  refine own_by (S' := (T201.setTop (mkF m 99 #[.val (.ref mb), .val (.int (1 : Int32)), .val (.int (4 : Int32)), .val (.int (0 : Int32)), .val (.ref bo), .val (.int a1), .val .null, .unset, .unset, .unset, .unset] []))) (fun _ k => XS.aloadN X201.here hx rfl (hb hby d25_98) rfl rfl k) ?_
  obtain ⟨T202, X202, e202, st202⟩ := getF X201 hx hZ hown (host := "") (Or.inl (hw _ (List.mem_of_getElem? (i := 34) rfl))) Via.refl e201 F_types (g := (mkF m 99 #[.val (.ref mb), .val (.int (1 : Int32)), .val (.int (4 : Int32)), .val (.int (0 : Int32)), .val (.ref bo), .val (.int a1), .val .null, .unset, .unset, .unset, .unset] [(.ref mb)])) rfl rfl (hb hby d25_99)
  refine own_by (S' := (T202.setTop (mkF m 102 #[.val (.ref mb), .val (.int (1 : Int32)), .val (.int (4 : Int32)), .val (.int (0 : Int32)), .val (.ref bo), .val (.int a1), .val .null, .unset, .unset, .unset, .unset] [(.ref (D 4))]))) st202 ?_
  refine own_by (S' := (T202.setTop (mkF m 103 #[.val (.ref mb), .val (.int (1 : Int32)), .val (.int (4 : Int32)), .val (.int (0 : Int32)), .val (.ref bo), .val (.int a1), .val .null, .unset, .unset, .unset, .unset] [(.ref (D 4))]))) (fun _ k => XS.aloadN X202.here hx rfl (hb hby d25_102) rfl rfl k) ?_
  obtain ⟨T203, X203, e203, st203⟩ := getF X202 hx hZ hown (host := "") (Or.inl (hw _ (List.mem_of_getElem? (i := 60) rfl))) Via.refl e202 F_count (g := (mkF m 103 #[.val (.ref mb), .val (.int (1 : Int32)), .val (.int (4 : Int32)), .val (.int (0 : Int32)), .val (.ref bo), .val (.int a1), .val .null, .unset, .unset, .unset, .unset] [(.ref mb), (.ref (D 4))])) rfl rfl (hb hby d25_103)
  refine own_by (S' := (T203.setTop (mkF m 106 #[.val (.ref mb), .val (.int (1 : Int32)), .val (.int (4 : Int32)), .val (.int (0 : Int32)), .val (.ref bo), .val (.int a1), .val .null, .unset, .unset, .unset, .unset] [(.int (0 : Int32)), (.ref (D 4))]))) st203 ?_
  refine own_by (S' := (T203.setTop (mkF m 108 #[.val (.ref mb), .val (.int (1 : Int32)), .val (.int (4 : Int32)), .val (.int (0 : Int32)), .val (.ref bo), .val (.int a1), .val .null, .unset, .unset, .unset, .unset] []))) (fun _ k => XS.aload X203.here hx rfl (hb hby d25_106) rfl rfl k) ?_
  obtain ⟨T204, h204, X204, e204, W204, st204⟩ := own_stO X203 hx hZ e203 A_4 (v := (.ref bo)) (own_sto A_4 (Ins.self (EB.ext O.2))) (j := (0 : Int32)) (by decide) (Nat.le_of_ble_eq_true rfl) (g := (mkF m 108 #[.val (.ref mb), .val (.int (1 : Int32)), .val (.int (4 : Int32)), .val (.int (0 : Int32)), .val (.ref bo), .val (.int a1), .val .null, .unset, .unset, .unset, .unset] [(.ref bo), (.int (0 : Int32)), (.ref (D 4))])) rfl rfl (hb hby d25_108)
  have N := Fr.snoc X204 N (DI.2.1 4 (by decide))
  have E_mb := E_mb.wr W204
  have F_nameStarts := F_nameStarts.other W204 (Or.inl (own_pick DI.2.2 0 6 rfl rfl (by decide)))
  have F_nameEnds := F_nameEnds.other W204 (Or.inl (own_pick DI.2.2 0 6 rfl rfl (by decide)))
  have F_nameHashes := F_nameHashes.other W204 (Or.inl (own_pick DI.2.2 0 6 rfl rfl (by decide)))
  have F_escapedNames := F_escapedNames.other W204 (Or.inl (own_pick DI.2.2 0 6 rfl rfl (by decide)))
  have F_types := F_types.other W204 (Or.inl (own_pick DI.2.2 0 6 rfl rfl (by decide)))
  have F_valueStarts := F_valueStarts.other W204 (Or.inl (own_pick DI.2.2 0 6 rfl rfl (by decide)))
  have F_valueEnds := F_valueEnds.other W204 (Or.inl (own_pick DI.2.2 0 6 rfl rfl (by decide)))
  have F_integerEnds := F_integerEnds.other W204 (Or.inl (own_pick DI.2.2 0 6 rfl rfl (by decide)))
  have F_fractionEnds := F_fractionEnds.other W204 (Or.inl (own_pick DI.2.2 0 6 rfl rfl (by decide)))
  have F_slots := F_slots.other W204 (Or.inl (own_pick DI.2.2 0 6 rfl rfl (by decide)))
  have F_line := F_line.other W204 (Or.inl (own_pick DI.2.2 0 6 rfl rfl (by decide)))
  have F_length := F_length.other W204 (Or.inl (own_pick DI.2.2 0 6 rfl rfl (by decide)))
  have F_lineNumber := F_lineNumber.other W204 (Or.inl (own_pick DI.2.2 0 6 rfl rfl (by decide)))
  have F_count := F_count.other W204 (Or.inl (own_pick DI.2.2 0 6 rfl rfl (by decide)))
  have F_index := F_index.other W204 (Or.inl (own_pick DI.2.2 0 6 rfl rfl (by decide)))
  have F_integerEnd := F_integerEnd.other W204 (Or.inl (own_pick DI.2.2 0 6 rfl rfl (by decide)))
  have F_fractionEnd := F_fractionEnd.other W204 (Or.inl (own_pick DI.2.2 0 6 rfl rfl (by decide)))
  have A_0 := A_0.other W204 (own_pick DI.2.2 2 6 rfl rfl (by decide))
  have A_1 := A_1.other W204 (own_pick DI.2.2 3 6 rfl rfl (by decide))
  have A_2 := A_2.other W204 (own_pick DI.2.2 4 6 rfl rfl (by decide))
  have A_3 := A_3.other W204 (own_pick DI.2.2 5 6 rfl rfl (by decide))
  have A_4 := A_4.set W204
  have A_5 := A_5.other W204 (Ne.symm (own_pick DI.2.2 6 7 rfl rfl (by decide)))
  have A_6 := A_6.other W204 (Ne.symm (own_pick DI.2.2 6 8 rfl rfl (by decide)))
  have A_7 := A_7.other W204 (Ne.symm (own_pick DI.2.2 6 9 rfl rfl (by decide)))
  have A_8 := A_8.other W204 (Ne.symm (own_pick DI.2.2 6 10 rfl rfl (by decide)))
  have A_9 := A_9.other W204 (Ne.symm (own_pick DI.2.2 6 11 rfl rfl (by decide)))
  have A_li := A_li.other W204 (own_pick DI.2.2 1 6 rfl rfl (by decide))
  have O := O.wr W204 (DI.2.1 4 (by decide))
  have F_pos := F_pos.other W204 (Or.inl (own_pick DI.2.2 0 6 rfl rfl (by decide)))
  have Zn : n0 ≤ _ := Nat.le_trans Zn (Nat.le_of_eq W204.size.symm)
  have K := K.wr W204 (Or.inl (List.mem_of_getElem? (i := 5) rfl))
  have A_4 : OwnO Z h204 (D 4) "com/example/upright_play/uprightplay/event/Members$Type" [(.ref bo), .null, .null, .null, .null, .null, .null, .null, .null, .null, .null, .null, .null, .null, .null, .null] := A_4
  refine own_by (S' := (T204.setTop (mkF m 109 #[.val (.ref mb), .val (.int (1 : Int32)), .val (.int (4 : Int32)), .val (.int (0 : Int32)), .val (.ref bo), .val (.int a1), .val .null, .unset, .unset, .unset, .unset] []))) st204 ?_
  refine own_by (S' := (T204.setTop (mkF m 110 #[.val (.ref mb), .val (.int (1 : Int32)), .val (.int (4 : Int32)), .val (.int (0 : Int32)), .val (.ref bo), .val (.int a1), .val .null, .unset, .unset, .unset, .unset] []))) (fun _ k => XS.aloadN X204.here hx rfl (hb hby d25_109) rfl rfl k) ?_
  obtain ⟨T205, X205, e205, st205⟩ := getF X204 hx hZ hown (host := "") (Or.inl (hw _ (List.mem_of_getElem? (i := 36) rfl))) Via.refl e204 F_valueStarts (g := (mkF m 110 #[.val (.ref mb), .val (.int (1 : Int32)), .val (.int (4 : Int32)), .val (.int (0 : Int32)), .val (.ref bo), .val (.int a1), .val .null, .unset, .unset, .unset, .unset] [(.ref mb)])) rfl rfl (hb hby d25_110)
  refine own_by (S' := (T205.setTop (mkF m 113 #[.val (.ref mb), .val (.int (1 : Int32)), .val (.int (4 : Int32)), .val (.int (0 : Int32)), .val (.ref bo), .val (.int a1), .val .null, .unset, .unset, .unset, .unset] [(.ref (D 5))]))) st205 ?_
  refine own_by (S' := (T205.setTop (mkF m 114 #[.val (.ref mb), .val (.int (1 : Int32)), .val (.int (4 : Int32)), .val (.int (0 : Int32)), .val (.ref bo), .val (.int a1), .val .null, .unset, .unset, .unset, .unset] [(.ref (D 5))]))) (fun _ k => XS.aloadN X205.here hx rfl (hb hby d25_113) rfl rfl k) ?_
  obtain ⟨T206, X206, e206, st206⟩ := getF X205 hx hZ hown (host := "") (Or.inl (hw _ (List.mem_of_getElem? (i := 60) rfl))) Via.refl e205 F_count (g := (mkF m 114 #[.val (.ref mb), .val (.int (1 : Int32)), .val (.int (4 : Int32)), .val (.int (0 : Int32)), .val (.ref bo), .val (.int a1), .val .null, .unset, .unset, .unset, .unset] [(.ref mb), (.ref (D 5))])) rfl rfl (hb hby d25_114)
  refine own_by (S' := (T206.setTop (mkF m 117 #[.val (.ref mb), .val (.int (1 : Int32)), .val (.int (4 : Int32)), .val (.int (0 : Int32)), .val (.ref bo), .val (.int a1), .val .null, .unset, .unset, .unset, .unset] [(.int (0 : Int32)), (.ref (D 5))]))) st206 ?_
  refine own_by (S' := (T206.setTop (mkF m 119 #[.val (.ref mb), .val (.int (1 : Int32)), .val (.int (4 : Int32)), .val (.int (0 : Int32)), .val (.ref bo), .val (.int a1), .val .null, .unset, .unset, .unset, .unset] []))) (fun _ k => XS.iload X206.here hx rfl (hb hby d25_117) rfl k) ?_
  obtain ⟨T207, h207, X207, e207, W207, st207⟩ := own_stI X206 hx hZ e206 A_5 (j := (0 : Int32)) (by decide) (Nat.le_of_ble_eq_true rfl) (g := (mkF m 119 #[.val (.ref mb), .val (.int (1 : Int32)), .val (.int (4 : Int32)), .val (.int (0 : Int32)), .val (.ref bo), .val (.int a1), .val .null, .unset, .unset, .unset, .unset] [(.int a1), (.int (0 : Int32)), (.ref (D 5))])) rfl rfl (hb hby d25_119)
  have N := Fr.snoc X207 N (DI.2.1 5 (by decide))
  have E_mb := E_mb.wr W207
  have F_nameStarts := F_nameStarts.other W207 (Or.inl (own_pick DI.2.2 0 7 rfl rfl (by decide)))
  have F_nameEnds := F_nameEnds.other W207 (Or.inl (own_pick DI.2.2 0 7 rfl rfl (by decide)))
  have F_nameHashes := F_nameHashes.other W207 (Or.inl (own_pick DI.2.2 0 7 rfl rfl (by decide)))
  have F_escapedNames := F_escapedNames.other W207 (Or.inl (own_pick DI.2.2 0 7 rfl rfl (by decide)))
  have F_types := F_types.other W207 (Or.inl (own_pick DI.2.2 0 7 rfl rfl (by decide)))
  have F_valueStarts := F_valueStarts.other W207 (Or.inl (own_pick DI.2.2 0 7 rfl rfl (by decide)))
  have F_valueEnds := F_valueEnds.other W207 (Or.inl (own_pick DI.2.2 0 7 rfl rfl (by decide)))
  have F_integerEnds := F_integerEnds.other W207 (Or.inl (own_pick DI.2.2 0 7 rfl rfl (by decide)))
  have F_fractionEnds := F_fractionEnds.other W207 (Or.inl (own_pick DI.2.2 0 7 rfl rfl (by decide)))
  have F_slots := F_slots.other W207 (Or.inl (own_pick DI.2.2 0 7 rfl rfl (by decide)))
  have F_line := F_line.other W207 (Or.inl (own_pick DI.2.2 0 7 rfl rfl (by decide)))
  have F_length := F_length.other W207 (Or.inl (own_pick DI.2.2 0 7 rfl rfl (by decide)))
  have F_lineNumber := F_lineNumber.other W207 (Or.inl (own_pick DI.2.2 0 7 rfl rfl (by decide)))
  have F_count := F_count.other W207 (Or.inl (own_pick DI.2.2 0 7 rfl rfl (by decide)))
  have F_index := F_index.other W207 (Or.inl (own_pick DI.2.2 0 7 rfl rfl (by decide)))
  have F_integerEnd := F_integerEnd.other W207 (Or.inl (own_pick DI.2.2 0 7 rfl rfl (by decide)))
  have F_fractionEnd := F_fractionEnd.other W207 (Or.inl (own_pick DI.2.2 0 7 rfl rfl (by decide)))
  have A_0 := A_0.other W207 (own_pick DI.2.2 2 7 rfl rfl (by decide))
  have A_1 := A_1.other W207 (own_pick DI.2.2 3 7 rfl rfl (by decide))
  have A_2 := A_2.other W207 (own_pick DI.2.2 4 7 rfl rfl (by decide))
  have A_3 := A_3.other W207 (own_pick DI.2.2 5 7 rfl rfl (by decide))
  have A_4 := A_4.other W207 (own_pick DI.2.2 6 7 rfl rfl (by decide))
  have A_5 := A_5.set W207
  have A_6 := A_6.other W207 (Ne.symm (own_pick DI.2.2 7 8 rfl rfl (by decide)))
  have A_7 := A_7.other W207 (Ne.symm (own_pick DI.2.2 7 9 rfl rfl (by decide)))
  have A_8 := A_8.other W207 (Ne.symm (own_pick DI.2.2 7 10 rfl rfl (by decide)))
  have A_9 := A_9.other W207 (Ne.symm (own_pick DI.2.2 7 11 rfl rfl (by decide)))
  have A_li := A_li.other W207 (own_pick DI.2.2 1 7 rfl rfl (by decide))
  have O := O.wr W207 (DI.2.1 5 (by decide))
  have F_pos := F_pos.other W207 (Or.inl (own_pick DI.2.2 0 7 rfl rfl (by decide)))
  have Zn : n0 ≤ _ := Nat.le_trans Zn (Nat.le_of_eq W207.size.symm)
  have K := K.wr W207 (Or.inl (List.mem_of_getElem? (i := 6) rfl))
  have A_5 : OwnA Z h207 (D 5) .int [(.int a1), .int (0 : Int32), .int (0 : Int32), .int (0 : Int32), .int (0 : Int32), .int (0 : Int32), .int (0 : Int32), .int (0 : Int32), .int (0 : Int32), .int (0 : Int32), .int (0 : Int32), .int (0 : Int32), .int (0 : Int32), .int (0 : Int32), .int (0 : Int32), .int (0 : Int32)] := A_5
  refine own_by (S' := (T207.setTop (mkF m 120 #[.val (.ref mb), .val (.int (1 : Int32)), .val (.int (4 : Int32)), .val (.int (0 : Int32)), .val (.ref bo), .val (.int a1), .val .null, .unset, .unset, .unset, .unset] []))) st207 ?_
  refine own_by (S' := (T207.setTop (mkF m 121 #[.val (.ref mb), .val (.int (1 : Int32)), .val (.int (4 : Int32)), .val (.int (0 : Int32)), .val (.ref bo), .val (.int a1), .val .null, .unset, .unset, .unset, .unset] []))) (fun _ k => XS.aloadN X207.here hx rfl (hb hby d25_120) rfl rfl k) ?_
  obtain ⟨T208, X208, e208, st208⟩ := getF X207 hx hZ hown (host := "") (Or.inl (hw _ (List.mem_of_getElem? (i := 38) rfl))) Via.refl e207 F_valueEnds (g := (mkF m 121 #[.val (.ref mb), .val (.int (1 : Int32)), .val (.int (4 : Int32)), .val (.int (0 : Int32)), .val (.ref bo), .val (.int a1), .val .null, .unset, .unset, .unset, .unset] [(.ref mb)])) rfl rfl (hb hby d25_121)
  refine own_by (S' := (T208.setTop (mkF m 124 #[.val (.ref mb), .val (.int (1 : Int32)), .val (.int (4 : Int32)), .val (.int (0 : Int32)), .val (.ref bo), .val (.int a1), .val .null, .unset, .unset, .unset, .unset] [(.ref (D 6))]))) st208 ?_
  refine own_by (S' := (T208.setTop (mkF m 125 #[.val (.ref mb), .val (.int (1 : Int32)), .val (.int (4 : Int32)), .val (.int (0 : Int32)), .val (.ref bo), .val (.int a1), .val .null, .unset, .unset, .unset, .unset] [(.ref (D 6))]))) (fun _ k => XS.aloadN X208.here hx rfl (hb hby d25_124) rfl rfl k) ?_
  obtain ⟨T209, X209, e209, st209⟩ := getF X208 hx hZ hown (host := "") (Or.inl (hw _ (List.mem_of_getElem? (i := 60) rfl))) Via.refl e208 F_count (g := (mkF m 125 #[.val (.ref mb), .val (.int (1 : Int32)), .val (.int (4 : Int32)), .val (.int (0 : Int32)), .val (.ref bo), .val (.int a1), .val .null, .unset, .unset, .unset, .unset] [(.ref mb), (.ref (D 6))])) rfl rfl (hb hby d25_125)
  refine own_by (S' := (T209.setTop (mkF m 128 #[.val (.ref mb), .val (.int (1 : Int32)), .val (.int (4 : Int32)), .val (.int (0 : Int32)), .val (.ref bo), .val (.int a1), .val .null, .unset, .unset, .unset, .unset] [(.int (0 : Int32)), (.ref (D 6))]))) st209 ?_
  refine own_by (S' := (T209.setTop (mkF m 129 #[.val (.ref mb), .val (.int (1 : Int32)), .val (.int (4 : Int32)), .val (.int (0 : Int32)), .val (.ref bo), .val (.int a1), .val .null, .unset, .unset, .unset, .unset] [(.int (0 : Int32)), (.ref (D 6))]))) (fun _ k => XS.aloadN X209.here hx rfl (hb hby d25_128) rfl rfl k) ?_
  obtain ⟨T210, X210, e210, st210⟩ := getF X209 hx hZ hown (host := "") (Or.inl (hw _ (List.mem_of_getElem? (i := 58) rfl))) Via.refl e209 F_pos (g := (mkF m 129 #[.val (.ref mb), .val (.int (1 : Int32)), .val (.int (4 : Int32)), .val (.int (0 : Int32)), .val (.ref bo), .val (.int a1), .val .null, .unset, .unset, .unset, .unset] [(.ref mb), (.int (0 : Int32)), (.ref (D 6))])) rfl rfl (hb hby d25_129)
  refine own_by (S' := (T210.setTop (mkF m 132 #[.val (.ref mb), .val (.int (1 : Int32)), .val (.int (4 : Int32)), .val (.int (0 : Int32)), .val (.ref bo), .val (.int a1), .val .null, .unset, .unset, .unset, .unset] [(.int b1), (.int (0 : Int32)), (.ref (D 6))]))) st210 ?_
  obtain ⟨T211, h211, X211, e211, W211, st211⟩ := own_stI X210 hx hZ e210 A_6 (j := (0 : Int32)) (by decide) (Nat.le_of_ble_eq_true rfl) (g := (mkF m 132 #[.val (.ref mb), .val (.int (1 : Int32)), .val (.int (4 : Int32)), .val (.int (0 : Int32)), .val (.ref bo), .val (.int a1), .val .null, .unset, .unset, .unset, .unset] [(.int b1), (.int (0 : Int32)), (.ref (D 6))])) rfl rfl (hb hby d25_132)
  have N := Fr.snoc X211 N (DI.2.1 6 (by decide))
  have E_mb := E_mb.wr W211
  have F_nameStarts := F_nameStarts.other W211 (Or.inl (own_pick DI.2.2 0 8 rfl rfl (by decide)))
  have F_nameEnds := F_nameEnds.other W211 (Or.inl (own_pick DI.2.2 0 8 rfl rfl (by decide)))
  have F_nameHashes := F_nameHashes.other W211 (Or.inl (own_pick DI.2.2 0 8 rfl rfl (by decide)))
  have F_escapedNames := F_escapedNames.other W211 (Or.inl (own_pick DI.2.2 0 8 rfl rfl (by decide)))
  have F_types := F_types.other W211 (Or.inl (own_pick DI.2.2 0 8 rfl rfl (by decide)))
  have F_valueStarts := F_valueStarts.other W211 (Or.inl (own_pick DI.2.2 0 8 rfl rfl (by decide)))
  have F_valueEnds := F_valueEnds.other W211 (Or.inl (own_pick DI.2.2 0 8 rfl rfl (by decide)))
  have F_integerEnds := F_integerEnds.other W211 (Or.inl (own_pick DI.2.2 0 8 rfl rfl (by decide)))
  have F_fractionEnds := F_fractionEnds.other W211 (Or.inl (own_pick DI.2.2 0 8 rfl rfl (by decide)))
  have F_slots := F_slots.other W211 (Or.inl (own_pick DI.2.2 0 8 rfl rfl (by decide)))
  have F_line := F_line.other W211 (Or.inl (own_pick DI.2.2 0 8 rfl rfl (by decide)))
  have F_length := F_length.other W211 (Or.inl (own_pick DI.2.2 0 8 rfl rfl (by decide)))
  have F_lineNumber := F_lineNumber.other W211 (Or.inl (own_pick DI.2.2 0 8 rfl rfl (by decide)))
  have F_count := F_count.other W211 (Or.inl (own_pick DI.2.2 0 8 rfl rfl (by decide)))
  have F_index := F_index.other W211 (Or.inl (own_pick DI.2.2 0 8 rfl rfl (by decide)))
  have F_integerEnd := F_integerEnd.other W211 (Or.inl (own_pick DI.2.2 0 8 rfl rfl (by decide)))
  have F_fractionEnd := F_fractionEnd.other W211 (Or.inl (own_pick DI.2.2 0 8 rfl rfl (by decide)))
  have A_0 := A_0.other W211 (own_pick DI.2.2 2 8 rfl rfl (by decide))
  have A_1 := A_1.other W211 (own_pick DI.2.2 3 8 rfl rfl (by decide))
  have A_2 := A_2.other W211 (own_pick DI.2.2 4 8 rfl rfl (by decide))
  have A_3 := A_3.other W211 (own_pick DI.2.2 5 8 rfl rfl (by decide))
  have A_4 := A_4.other W211 (own_pick DI.2.2 6 8 rfl rfl (by decide))
  have A_5 := A_5.other W211 (own_pick DI.2.2 7 8 rfl rfl (by decide))
  have A_6 := A_6.set W211
  have A_7 := A_7.other W211 (Ne.symm (own_pick DI.2.2 8 9 rfl rfl (by decide)))
  have A_8 := A_8.other W211 (Ne.symm (own_pick DI.2.2 8 10 rfl rfl (by decide)))
  have A_9 := A_9.other W211 (Ne.symm (own_pick DI.2.2 8 11 rfl rfl (by decide)))
  have A_li := A_li.other W211 (own_pick DI.2.2 1 8 rfl rfl (by decide))
  have O := O.wr W211 (DI.2.1 6 (by decide))
  have F_pos := F_pos.other W211 (Or.inl (own_pick DI.2.2 0 8 rfl rfl (by decide)))
  have Zn : n0 ≤ _ := Nat.le_trans Zn (Nat.le_of_eq W211.size.symm)
  have K := K.wr W211 (Or.inl (List.mem_of_getElem? (i := 7) rfl))
  have A_6 : OwnA Z h211 (D 6) .int [(.int b1), .int (0 : Int32), .int (0 : Int32), .int (0 : Int32), .int (0 : Int32), .int (0 : Int32), .int (0 : Int32), .int (0 : Int32), .int (0 : Int32), .int (0 : Int32), .int (0 : Int32), .int (0 : Int32), .int (0 : Int32), .int (0 : Int32), .int (0 : Int32), .int (0 : Int32)] := A_6
  refine own_by (S' := (T211.setTop (mkF m 133 #[.val (.ref mb), .val (.int (1 : Int32)), .val (.int (4 : Int32)), .val (.int (0 : Int32)), .val (.ref bo), .val (.int a1), .val .null, .unset, .unset, .unset, .unset] []))) st211 ?_
  refine own_by (S' := (T211.setTop (mkF m 134 #[.val (.ref mb), .val (.int (1 : Int32)), .val (.int (4 : Int32)), .val (.int (0 : Int32)), .val (.ref bo), .val (.int a1), .val .null, .unset, .unset, .unset, .unset] []))) (fun _ k => XS.aloadN X211.here hx rfl (hb hby d25_133) rfl rfl k) ?_
  obtain ⟨T212, X212, e212, st212⟩ := getF X211 hx hZ hown (host := "") (Or.inl (hw _ (List.mem_of_getElem? (i := 40) rfl))) Via.refl e211 F_integerEnds (g := (mkF m 134 #[.val (.ref mb), .val (.int (1 : Int32)), .val (.int (4 : Int32)), .val (.int (0 : Int32)), .val (.ref bo), .val (.int a1), .val .null, .unset, .unset, .unset, .unset] [(.ref mb)])) rfl rfl (hb hby d25_134)
  refine own_by (S' := (T212.setTop (mkF m 137 #[.val (.ref mb), .val (.int (1 : Int32)), .val (.int (4 : Int32)), .val (.int (0 : Int32)), .val (.ref bo), .val (.int a1), .val .null, .unset, .unset, .unset, .unset] [(.ref (D 7))]))) st212 ?_
  refine own_by (S' := (T212.setTop (mkF m 138 #[.val (.ref mb), .val (.int (1 : Int32)), .val (.int (4 : Int32)), .val (.int (0 : Int32)), .val (.ref bo), .val (.int a1), .val .null, .unset, .unset, .unset, .unset] [(.ref (D 7))]))) (fun _ k => XS.aloadN X212.here hx rfl (hb hby d25_137) rfl rfl k) ?_
  obtain ⟨T213, X213, e213, st213⟩ := getF X212 hx hZ hown (host := "") (Or.inl (hw _ (List.mem_of_getElem? (i := 60) rfl))) Via.refl e212 F_count (g := (mkF m 138 #[.val (.ref mb), .val (.int (1 : Int32)), .val (.int (4 : Int32)), .val (.int (0 : Int32)), .val (.ref bo), .val (.int a1), .val .null, .unset, .unset, .unset, .unset] [(.ref mb), (.ref (D 7))])) rfl rfl (hb hby d25_138)
  refine own_by (S' := (T213.setTop (mkF m 141 #[.val (.ref mb), .val (.int (1 : Int32)), .val (.int (4 : Int32)), .val (.int (0 : Int32)), .val (.ref bo), .val (.int a1), .val .null, .unset, .unset, .unset, .unset] [(.int (0 : Int32)), (.ref (D 7))]))) st213 ?_
  refine own_by (S' := (T213.setTop (mkF m 142 #[.val (.ref mb), .val (.int (1 : Int32)), .val (.int (4 : Int32)), .val (.int (0 : Int32)), .val (.ref bo), .val (.int a1), .val .null, .unset, .unset, .unset, .unset] [(.int (0 : Int32)), (.ref (D 7))]))) (fun _ k => XS.aloadN X213.here hx rfl (hb hby d25_141) rfl rfl k) ?_
  obtain ⟨T214, X214, e214, st214⟩ := getF X213 hx hZ hown (host := "") (Or.inl (hw _ (List.mem_of_getElem? (i := 161) rfl))) Via.refl e213 F_integerEnd (g := (mkF m 142 #[.val (.ref mb), .val (.int (1 : Int32)), .val (.int (4 : Int32)), .val (.int (0 : Int32)), .val (.ref bo), .val (.int a1), .val .null, .unset, .unset, .unset, .unset] [(.ref mb), (.int (0 : Int32)), (.ref (D 7))])) rfl rfl (hb hby d25_142)
  refine own_by (S' := (T214.setTop (mkF m 145 #[.val (.ref mb), .val (.int (1 : Int32)), .val (.int (4 : Int32)), .val (.int (0 : Int32)), .val (.ref bo), .val (.int a1), .val .null, .unset, .unset, .unset, .unset] [(.int (0 : Int32)), (.int (0 : Int32)), (.ref (D 7))]))) st214 ?_
  obtain ⟨T215, h215, X215, e215, W215, st215⟩ := own_stI X214 hx hZ e214 A_7 (j := (0 : Int32)) (by decide) (Nat.le_of_ble_eq_true rfl) (g := (mkF m 145 #[.val (.ref mb), .val (.int (1 : Int32)), .val (.int (4 : Int32)), .val (.int (0 : Int32)), .val (.ref bo), .val (.int a1), .val .null, .unset, .unset, .unset, .unset] [(.int (0 : Int32)), (.int (0 : Int32)), (.ref (D 7))])) rfl rfl (hb hby d25_145)
  have N := Fr.snoc X215 N (DI.2.1 7 (by decide))
  have E_mb := E_mb.wr W215
  have F_nameStarts := F_nameStarts.other W215 (Or.inl (own_pick DI.2.2 0 9 rfl rfl (by decide)))
  have F_nameEnds := F_nameEnds.other W215 (Or.inl (own_pick DI.2.2 0 9 rfl rfl (by decide)))
  have F_nameHashes := F_nameHashes.other W215 (Or.inl (own_pick DI.2.2 0 9 rfl rfl (by decide)))
  have F_escapedNames := F_escapedNames.other W215 (Or.inl (own_pick DI.2.2 0 9 rfl rfl (by decide)))
  have F_types := F_types.other W215 (Or.inl (own_pick DI.2.2 0 9 rfl rfl (by decide)))
  have F_valueStarts := F_valueStarts.other W215 (Or.inl (own_pick DI.2.2 0 9 rfl rfl (by decide)))
  have F_valueEnds := F_valueEnds.other W215 (Or.inl (own_pick DI.2.2 0 9 rfl rfl (by decide)))
  have F_integerEnds := F_integerEnds.other W215 (Or.inl (own_pick DI.2.2 0 9 rfl rfl (by decide)))
  have F_fractionEnds := F_fractionEnds.other W215 (Or.inl (own_pick DI.2.2 0 9 rfl rfl (by decide)))
  have F_slots := F_slots.other W215 (Or.inl (own_pick DI.2.2 0 9 rfl rfl (by decide)))
  have F_line := F_line.other W215 (Or.inl (own_pick DI.2.2 0 9 rfl rfl (by decide)))
  have F_length := F_length.other W215 (Or.inl (own_pick DI.2.2 0 9 rfl rfl (by decide)))
  have F_lineNumber := F_lineNumber.other W215 (Or.inl (own_pick DI.2.2 0 9 rfl rfl (by decide)))
  have F_count := F_count.other W215 (Or.inl (own_pick DI.2.2 0 9 rfl rfl (by decide)))
  have F_index := F_index.other W215 (Or.inl (own_pick DI.2.2 0 9 rfl rfl (by decide)))
  have F_integerEnd := F_integerEnd.other W215 (Or.inl (own_pick DI.2.2 0 9 rfl rfl (by decide)))
  have F_fractionEnd := F_fractionEnd.other W215 (Or.inl (own_pick DI.2.2 0 9 rfl rfl (by decide)))
  have A_0 := A_0.other W215 (own_pick DI.2.2 2 9 rfl rfl (by decide))
  have A_1 := A_1.other W215 (own_pick DI.2.2 3 9 rfl rfl (by decide))
  have A_2 := A_2.other W215 (own_pick DI.2.2 4 9 rfl rfl (by decide))
  have A_3 := A_3.other W215 (own_pick DI.2.2 5 9 rfl rfl (by decide))
  have A_4 := A_4.other W215 (own_pick DI.2.2 6 9 rfl rfl (by decide))
  have A_5 := A_5.other W215 (own_pick DI.2.2 7 9 rfl rfl (by decide))
  have A_6 := A_6.other W215 (own_pick DI.2.2 8 9 rfl rfl (by decide))
  have A_7 := A_7.set W215
  have A_8 := A_8.other W215 (Ne.symm (own_pick DI.2.2 9 10 rfl rfl (by decide)))
  have A_9 := A_9.other W215 (Ne.symm (own_pick DI.2.2 9 11 rfl rfl (by decide)))
  have A_li := A_li.other W215 (own_pick DI.2.2 1 9 rfl rfl (by decide))
  have O := O.wr W215 (DI.2.1 7 (by decide))
  have F_pos := F_pos.other W215 (Or.inl (own_pick DI.2.2 0 9 rfl rfl (by decide)))
  have Zn : n0 ≤ _ := Nat.le_trans Zn (Nat.le_of_eq W215.size.symm)
  have K := K.wr W215 (Or.inl (List.mem_of_getElem? (i := 8) rfl))
  have A_7 : OwnA Z h215 (D 7) .int [(.int (0 : Int32)), .int (0 : Int32), .int (0 : Int32), .int (0 : Int32), .int (0 : Int32), .int (0 : Int32), .int (0 : Int32), .int (0 : Int32), .int (0 : Int32), .int (0 : Int32), .int (0 : Int32), .int (0 : Int32), .int (0 : Int32), .int (0 : Int32), .int (0 : Int32), .int (0 : Int32)] := A_7
  refine own_by (S' := (T215.setTop (mkF m 146 #[.val (.ref mb), .val (.int (1 : Int32)), .val (.int (4 : Int32)), .val (.int (0 : Int32)), .val (.ref bo), .val (.int a1), .val .null, .unset, .unset, .unset, .unset] []))) st215 ?_
  refine own_by (S' := (T215.setTop (mkF m 147 #[.val (.ref mb), .val (.int (1 : Int32)), .val (.int (4 : Int32)), .val (.int (0 : Int32)), .val (.ref bo), .val (.int a1), .val .null, .unset, .unset, .unset, .unset] []))) (fun _ k => XS.aloadN X215.here hx rfl (hb hby d25_146) rfl rfl k) ?_
  obtain ⟨T216, X216, e216, st216⟩ := getF X215 hx hZ hown (host := "") (Or.inl (hw _ (List.mem_of_getElem? (i := 42) rfl))) Via.refl e215 F_fractionEnds (g := (mkF m 147 #[.val (.ref mb), .val (.int (1 : Int32)), .val (.int (4 : Int32)), .val (.int (0 : Int32)), .val (.ref bo), .val (.int a1), .val .null, .unset, .unset, .unset, .unset] [(.ref mb)])) rfl rfl (hb hby d25_147)
  refine own_by (S' := (T216.setTop (mkF m 150 #[.val (.ref mb), .val (.int (1 : Int32)), .val (.int (4 : Int32)), .val (.int (0 : Int32)), .val (.ref bo), .val (.int a1), .val .null, .unset, .unset, .unset, .unset] [(.ref (D 8))]))) st216 ?_
  refine own_by (S' := (T216.setTop (mkF m 151 #[.val (.ref mb), .val (.int (1 : Int32)), .val (.int (4 : Int32)), .val (.int (0 : Int32)), .val (.ref bo), .val (.int a1), .val .null, .unset, .unset, .unset, .unset] [(.ref (D 8))]))) (fun _ k => XS.aloadN X216.here hx rfl (hb hby d25_150) rfl rfl k) ?_
  obtain ⟨T217, X217, e217, st217⟩ := getF X216 hx hZ hown (host := "") (Or.inl (hw _ (List.mem_of_getElem? (i := 60) rfl))) Via.refl e216 F_count (g := (mkF m 151 #[.val (.ref mb), .val (.int (1 : Int32)), .val (.int (4 : Int32)), .val (.int (0 : Int32)), .val (.ref bo), .val (.int a1), .val .null, .unset, .unset, .unset, .unset] [(.ref mb), (.ref (D 8))])) rfl rfl (hb hby d25_151)
  refine own_by (S' := (T217.setTop (mkF m 154 #[.val (.ref mb), .val (.int (1 : Int32)), .val (.int (4 : Int32)), .val (.int (0 : Int32)), .val (.ref bo), .val (.int a1), .val .null, .unset, .unset, .unset, .unset] [(.int (0 : Int32)), (.ref (D 8))]))) st217 ?_
  refine own_by (S' := (T217.setTop (mkF m 155 #[.val (.ref mb), .val (.int (1 : Int32)), .val (.int (4 : Int32)), .val (.int (0 : Int32)), .val (.ref bo), .val (.int a1), .val .null, .unset, .unset, .unset, .unset] [(.int (0 : Int32)), (.ref (D 8))]))) (fun _ k => XS.aloadN X217.here hx rfl (hb hby d25_154) rfl rfl k) ?_
  obtain ⟨T218, X218, e218, st218⟩ := getF X217 hx hZ hown (host := "") (Or.inl (hw _ (List.mem_of_getElem? (i := 163) rfl))) Via.refl e217 F_fractionEnd (g := (mkF m 155 #[.val (.ref mb), .val (.int (1 : Int32)), .val (.int (4 : Int32)), .val (.int (0 : Int32)), .val (.ref bo), .val (.int a1), .val .null, .unset, .unset, .unset, .unset] [(.ref mb), (.int (0 : Int32)), (.ref (D 8))])) rfl rfl (hb hby d25_155)
  refine own_by (S' := (T218.setTop (mkF m 158 #[.val (.ref mb), .val (.int (1 : Int32)), .val (.int (4 : Int32)), .val (.int (0 : Int32)), .val (.ref bo), .val (.int a1), .val .null, .unset, .unset, .unset, .unset] [(.int (0 : Int32)), (.int (0 : Int32)), (.ref (D 8))]))) st218 ?_
  obtain ⟨T219, h219, X219, e219, W219, st219⟩ := own_stI X218 hx hZ e218 A_8 (j := (0 : Int32)) (by decide) (Nat.le_of_ble_eq_true rfl) (g := (mkF m 158 #[.val (.ref mb), .val (.int (1 : Int32)), .val (.int (4 : Int32)), .val (.int (0 : Int32)), .val (.ref bo), .val (.int a1), .val .null, .unset, .unset, .unset, .unset] [(.int (0 : Int32)), (.int (0 : Int32)), (.ref (D 8))])) rfl rfl (hb hby d25_158)
  have N := Fr.snoc X219 N (DI.2.1 8 (by decide))
  have E_mb := E_mb.wr W219
  have F_nameStarts := F_nameStarts.other W219 (Or.inl (own_pick DI.2.2 0 10 rfl rfl (by decide)))
  have F_nameEnds := F_nameEnds.other W219 (Or.inl (own_pick DI.2.2 0 10 rfl rfl (by decide)))
  have F_nameHashes := F_nameHashes.other W219 (Or.inl (own_pick DI.2.2 0 10 rfl rfl (by decide)))
  have F_escapedNames := F_escapedNames.other W219 (Or.inl (own_pick DI.2.2 0 10 rfl rfl (by decide)))
  have F_types := F_types.other W219 (Or.inl (own_pick DI.2.2 0 10 rfl rfl (by decide)))
  have F_valueStarts := F_valueStarts.other W219 (Or.inl (own_pick DI.2.2 0 10 rfl rfl (by decide)))
  have F_valueEnds := F_valueEnds.other W219 (Or.inl (own_pick DI.2.2 0 10 rfl rfl (by decide)))
  have F_integerEnds := F_integerEnds.other W219 (Or.inl (own_pick DI.2.2 0 10 rfl rfl (by decide)))
  have F_fractionEnds := F_fractionEnds.other W219 (Or.inl (own_pick DI.2.2 0 10 rfl rfl (by decide)))
  have F_slots := F_slots.other W219 (Or.inl (own_pick DI.2.2 0 10 rfl rfl (by decide)))
  have F_line := F_line.other W219 (Or.inl (own_pick DI.2.2 0 10 rfl rfl (by decide)))
  have F_length := F_length.other W219 (Or.inl (own_pick DI.2.2 0 10 rfl rfl (by decide)))
  have F_lineNumber := F_lineNumber.other W219 (Or.inl (own_pick DI.2.2 0 10 rfl rfl (by decide)))
  have F_count := F_count.other W219 (Or.inl (own_pick DI.2.2 0 10 rfl rfl (by decide)))
  have F_index := F_index.other W219 (Or.inl (own_pick DI.2.2 0 10 rfl rfl (by decide)))
  have F_integerEnd := F_integerEnd.other W219 (Or.inl (own_pick DI.2.2 0 10 rfl rfl (by decide)))
  have F_fractionEnd := F_fractionEnd.other W219 (Or.inl (own_pick DI.2.2 0 10 rfl rfl (by decide)))
  have A_0 := A_0.other W219 (own_pick DI.2.2 2 10 rfl rfl (by decide))
  have A_1 := A_1.other W219 (own_pick DI.2.2 3 10 rfl rfl (by decide))
  have A_2 := A_2.other W219 (own_pick DI.2.2 4 10 rfl rfl (by decide))
  have A_3 := A_3.other W219 (own_pick DI.2.2 5 10 rfl rfl (by decide))
  have A_4 := A_4.other W219 (own_pick DI.2.2 6 10 rfl rfl (by decide))
  have A_5 := A_5.other W219 (own_pick DI.2.2 7 10 rfl rfl (by decide))
  have A_6 := A_6.other W219 (own_pick DI.2.2 8 10 rfl rfl (by decide))
  have A_7 := A_7.other W219 (own_pick DI.2.2 9 10 rfl rfl (by decide))
  have A_8 := A_8.set W219
  have A_9 := A_9.other W219 (Ne.symm (own_pick DI.2.2 10 11 rfl rfl (by decide)))
  have A_li := A_li.other W219 (own_pick DI.2.2 1 10 rfl rfl (by decide))
  have O := O.wr W219 (DI.2.1 8 (by decide))
  have F_pos := F_pos.other W219 (Or.inl (own_pick DI.2.2 0 10 rfl rfl (by decide)))
  have Zn : n0 ≤ _ := Nat.le_trans Zn (Nat.le_of_eq W219.size.symm)
  have K := K.wr W219 (Or.inl (List.mem_of_getElem? (i := 9) rfl))
  have A_8 : OwnA Z h219 (D 8) .int [(.int (0 : Int32)), .int (0 : Int32), .int (0 : Int32), .int (0 : Int32), .int (0 : Int32), .int (0 : Int32), .int (0 : Int32), .int (0 : Int32), .int (0 : Int32), .int (0 : Int32), .int (0 : Int32), .int (0 : Int32), .int (0 : Int32), .int (0 : Int32), .int (0 : Int32), .int (0 : Int32)] := A_8
  refine own_by (S' := (T219.setTop (mkF m 159 #[.val (.ref mb), .val (.int (1 : Int32)), .val (.int (4 : Int32)), .val (.int (0 : Int32)), .val (.ref bo), .val (.int a1), .val .null, .unset, .unset, .unset, .unset] []))) st219 ?_
  refine own_by (S' := (T219.setTop (mkF m 160 #[.val (.ref mb), .val (.int (1 : Int32)), .val (.int (4 : Int32)), .val (.int (0 : Int32)), .val (.ref bo), .val (.int a1), .val .null, .unset, .unset, .unset, .unset] []))) (fun _ k => XS.aloadN X219.here hx rfl (hb hby d25_159) rfl rfl k) ?_
  obtain ⟨T220, X220, e220, st220⟩ := getF X219 hx hZ hown (host := "") (Or.inl (hw _ (List.mem_of_getElem? (i := 60) rfl))) Via.refl e219 F_count (g := (mkF m 160 #[.val (.ref mb), .val (.int (1 : Int32)), .val (.int (4 : Int32)), .val (.int (0 : Int32)), .val (.ref bo), .val (.int a1), .val .null, .unset, .unset, .unset, .unset] [(.ref mb)])) rfl rfl (hb hby d25_160)
  refine own_by (S' := (T220.setTop (mkF m 163 #[.val (.ref mb), .val (.int (1 : Int32)), .val (.int (4 : Int32)), .val (.int (0 : Int32)), .val (.ref bo), .val (.int a1), .val .null, .unset, .unset, .unset, .unset] [(.int (0 : Int32))]))) st220 ?_
  refine own_by (S' := (T220.setTop (mkF m 222 #[.val (.ref mb), .val (.int (1 : Int32)), .val (.int (4 : Int32)), .val (.int (0 : Int32)), .val (.ref bo), .val (.int a1), .val .null, .val (.int (0 : Int32)), .unset, .unset, .unset] []))) (fun _ k => XS.bipush X220.here hx rfl (hb hby d25_163) (XS.icmpYes X220.here hx rfl (pc0 := 165) (pc' := 218) rfl (hb hby d25_165) rfl (feq ((by decide) : ¬ ((0 : Int32) = (16 : Int32)))).2 (by decide) (by decide) (XS.iconst X220.here hx rfl (hb hby d25_218) (XS.istore X220.here hx rfl (hb hby d25_219) rfl (l' := #[.val (.ref mb), .val (.int (1 : Int32)), .val (.int (4 : Int32)), .val (.int (0 : Int32)), .val (.ref bo), .val (.int a1), .val .null, .val (.int (0 : Int32)), .unset, .unset, .unset]) rfl (XS.aloadN X220.here hx rfl (hb hby d25_221) rfl rfl k))))) ?_
  obtain ⟨T221, X221, e221, st221⟩ := getF X220 hx hZ hown (host := "") (Or.inl (hw _ (List.mem_of_getElem? (i := 62) rfl))) Via.refl e220 F_index (g := (mkF m 222 #[.val (.ref mb), .val (.int (1 : Int32)), .val (.int (4 : Int32)), .val (.int (0 : Int32)), .val (.ref bo), .val (.int a1), .val .null, .val (.int (0 : Int32)), .unset, .unset, .unset] [(.ref mb)])) rfl rfl (hb hby d25_222)
  refine own_by (S' := (T221.setTop (mkF m 225 #[.val (.ref mb), .val (.int (1 : Int32)), .val (.int (4 : Int32)), .val (.int (0 : Int32)), .val (.ref bo), .val (.int a1), .val .null, .val (.int (0 : Int32)), .unset, .unset, .unset] [.null]))) st221 ?_
  refine own_by (S' := (T221.setTop (mkF m 266 #[.val (.ref mb), .val (.int (1 : Int32)), .val (.int (4 : Int32)), .val (.int (0 : Int32)), .val (.ref bo), .val (.int a1), .val .null, .val (.int (0 : Int32)), .unset, .unset, .unset] []))) (fun _ k => XS.ifnullYes X221.here hx rfl (pc0 := 225) (pc' := 265) rfl (hb hby d25_225) rfl (by decide) (by decide) (XS.aloadN X221.here hx rfl (hb hby d25_265) rfl rfl k)) ?_
  obtain ⟨T222, X222, e222, st222⟩ := getF X221 hx hZ hown (host := "") (Or.inl (hw _ (List.mem_of_getElem? (i := 26) rfl))) Via.refl e221 F_nameHashes (g := (mkF m 266 #[.val (.ref mb), .val (.int (1 : Int32)), .val (.int (4 : Int32)), .val (.int (0 : Int32)), .val (.ref bo), .val (.int a1), .val .null, .val (.int (0 : Int32)), .unset, .unset, .unset] [(.ref mb)])) rfl rfl (hb hby d25_266)
  refine own_by (S' := (T222.setTop (mkF m 269 #[.val (.ref mb), .val (.int (1 : Int32)), .val (.int (4 : Int32)), .val (.int (0 : Int32)), .val (.ref bo), .val (.int a1), .val .null, .val (.int (0 : Int32)), .unset, .unset, .unset] [(.ref (D 2))]))) st222 ?_
  refine own_by (S' := (T222.setTop (mkF m 270 #[.val (.ref mb), .val (.int (1 : Int32)), .val (.int (4 : Int32)), .val (.int (0 : Int32)), .val (.ref bo), .val (.int a1), .val .null, .val (.int (0 : Int32)), .unset, .unset, .unset] [(.ref (D 2))]))) (fun _ k => XS.aloadN X222.here hx rfl (hb hby d25_269) rfl rfl k) ?_
  obtain ⟨T223, X223, e223, st223⟩ := getF X222 hx hZ hown (host := "") (Or.inl (hw _ (List.mem_of_getElem? (i := 60) rfl))) Via.refl e222 F_count (g := (mkF m 270 #[.val (.ref mb), .val (.int (1 : Int32)), .val (.int (4 : Int32)), .val (.int (0 : Int32)), .val (.ref bo), .val (.int a1), .val .null, .val (.int (0 : Int32)), .unset, .unset, .unset] [(.ref mb), (.ref (D 2))])) rfl rfl (hb hby d25_270)
  refine own_by (S' := (T223.setTop (mkF m 273 #[.val (.ref mb), .val (.int (1 : Int32)), .val (.int (4 : Int32)), .val (.int (0 : Int32)), .val (.ref bo), .val (.int a1), .val .null, .val (.int (0 : Int32)), .unset, .unset, .unset] [(.int (0 : Int32)), (.ref (D 2))]))) st223 ?_
  refine own_by (S' := (T223.setTop (mkF m 278 #[.val (.ref mb), .val (.int (1 : Int32)), .val (.int (4 : Int32)), .val (.int (0 : Int32)), .val (.ref bo), .val (.int a1), .val .null, .val (.int (0 : Int32)), .val (.int (Int32.ofNat c1)), .unset, .unset] []))) (fun _ k => own_iaload X223 hx hZ e223 A_2 (by decide) (v := (.int (Int32.ofNat c1))) rfl (g := (mkF m 273 #[.val (.ref mb), .val (.int (1 : Int32)), .val (.int (4 : Int32)), .val (.int (0 : Int32)), .val (.ref bo), .val (.int a1), .val .null, .val (.int (0 : Int32)), .unset, .unset, .unset] [(.int (0 : Int32)), (.ref (D 2))])) rfl rfl (hb hby d25_273) _ (XS.istore X223.here hx rfl (hb hby d25_274) rfl (l' := #[.val (.ref mb), .val (.int (1 : Int32)), .val (.int (4 : Int32)), .val (.int (0 : Int32)), .val (.ref bo), .val (.int a1), .val .null, .val (.int (0 : Int32)), .val (.int (Int32.ofNat c1)), .unset, .unset]) rfl (XS.iload X223.here hx rfl (hb hby d25_276) rfl k))) ?_
  obtain ⟨_, _, ⟨T224, L224, k224, n224⟩, -, X224, ⟨Lc224, hQ224, l224, y224, z224⟩, st224⟩ := Jvm.LawKit.callS X223 hx (y := (⟨"com/example/upright_play/uprightplay/event/Members", "slotOf", "(I)I"⟩ : MethodName)) hown (mvT hZ (hw _ (List.mem_of_getElem? (i := 165) rfl))) (mvT hZ (hw _ (List.mem_of_getElem? (i := 166) rfl))) (mvT hZ (hw _ (List.mem_of_getElem? (i := 14) rfl))) (mvT hZ (hw _ (List.mem_of_getElem? (i := 167) rfl))) (by decide) (backOf (W := 0) (rm_slotOf l Z a0 hw [] c1 h219 n0 Zn hk1.2.1) hZ (hw _ (List.mem_of_getElem? (i := 167) rfl)) (hw _ (List.mem_of_getElem? (i := 14) rfl)) (by decide) (by decide)) (g := (mkF m 278 #[.val (.ref mb), .val (.int (1 : Int32)), .val (.int (4 : Int32)), .val (.int (0 : Int32)), .val (.ref bo), .val (.int a1), .val .null, .val (.int (0 : Int32)), .val (.int (Int32.ofNat c1)), .unset, .unset] [(.int (Int32.ofNat c1))])) rfl (by rw [hml]; rfl) (argsL := [(.int (Int32.ofNat c1))]) (rest := []) (lenOf pd__28I_29I rfl) rfl (by show 2 * 0 + _ ≤ _; exact Nat.le_of_eq rfl) (hb hby d25_278) (fun _ _ => ⟨rfl, e223, (by decide : 0 + 0 ≤ _), (by decide : 0 + 0 ≤ _)⟩)
  dsimp only [Pt.U, Pt.locs, Pt.cells, Pt.slots] at X224 l224 y224 z224 st224 hQ224
  have X224 := own_recast X224 l224 y224 z224
  obtain ⟨rfl, N224q, eh2⟩ := hQ224
  have N := Fr.app N N224q
  refine own_by (S' := (T224.setTop (mkF m 281 #[.val (.ref mb), .val (.int (1 : Int32)), .val (.int (4 : Int32)), .val (.int (0 : Int32)), .val (.ref bo), .val (.int a1), .val .null, .val (.int (0 : Int32)), .val (.int (Int32.ofNat c1)), .unset, .unset] [(.int (Int32.ofNat (own_sl c1)))]))) st224 ?_
  have hs1 := (own_slot c1 hk1.2.1).2
  refine own_by (S' := (T224.setTop (mkF m 284 #[.val (.ref mb), .val (.int (1 : Int32)), .val (.int (4 : Int32)), .val (.int (0 : Int32)), .val (.ref bo), .val (.int a1), .val .null, .val (.int (0 : Int32)), .val (.int (Int32.ofNat c1)), .val (.int (Int32.ofNat (own_sl c1))), .unset] []))) (fun _ k => XS.istore X224.here hx rfl (hb hby d25_281) rfl (l' := #[.val (.ref mb), .val (.int (1 : Int32)), .val (.int (4 : Int32)), .val (.int (0 : Int32)), .val (.ref bo), .val (.int a1), .val .null, .val (.int (0 : Int32)), .val (.int (Int32.ofNat c1)), .val (.int (Int32.ofNat (own_sl c1))), .unset]) rfl (XS.aloadN X224.here hx rfl (hb hby d25_283) rfl rfl k)) ?_
  obtain ⟨T225, X225, e225, st225⟩ := getF X224 hx hZ hown (host := "") (Or.inl (hw _ (List.mem_of_getElem? (i := 45) rfl))) Via.refl eh2 F_slots (g := (mkF m 284 #[.val (.ref mb), .val (.int (1 : Int32)), .val (.int (4 : Int32)), .val (.int (0 : Int32)), .val (.ref bo), .val (.int a1), .val .null, .val (.int (0 : Int32)), .val (.int (Int32.ofNat c1)), .val (.int (Int32.ofNat (own_sl c1))), .unset] [(.ref mb)])) rfl rfl (hb hby d25_284)
  refine own_by (S' := (T225.setTop (mkF m 287 #[.val (.ref mb), .val (.int (1 : Int32)), .val (.int (4 : Int32)), .val (.int (0 : Int32)), .val (.ref bo), .val (.int a1), .val .null, .val (.int (0 : Int32)), .val (.int (Int32.ofNat c1)), .val (.int (Int32.ofNat (own_sl c1))), .unset] [(.ref (D 9))]))) st225 ?_
  refine own_by (S' := (T225.setTop (mkF m 356 #[.val (.ref mb), .val (.int (1 : Int32)), .val (.int (4 : Int32)), .val (.int (0 : Int32)), .val (.ref bo), .val (.int a1), .val .null, .val (.int (0 : Int32)), .val (.int (Int32.ofNat c1)), .val (.int (Int32.ofNat (own_sl c1))), .unset] []))) (fun _ k => XS.iload X225.here hx rfl (hb hby d25_287) rfl (own_baload X225 hx hZ e225 A_9 (own_nn (by have := hs1; omega)) (v := (.int (0 : Int32))) (own_at (by have := hs1; omega) (own_zget hs1)) (g := (mkF m 289 #[.val (.ref mb), .val (.int (1 : Int32)), .val (.int (4 : Int32)), .val (.int (0 : Int32)), .val (.ref bo), .val (.int a1), .val .null, .val (.int (0 : Int32)), .val (.int (Int32.ofNat c1)), .val (.int (Int32.ofNat (own_sl c1))), .unset] [(.int (Int32.ofNat (own_sl c1))), (.ref (D 9))])) rfl rfl (hb hby d25_289) _ (XS.ifYes X225.here hx rfl (pc0 := 290) (pc' := 355) rfl (hb hby d25_290) rfl ((if0 _ _).trans (teq ((by decide) : (0 : Int32) = (0 : Int32))).1) (by decide) (by decide) (XS.aloadN X225.here hx rfl (hb hby d25_355) rfl rfl k)))) ?_
  obtain ⟨T226, X226, e226, st226⟩ := getF X225 hx hZ hown (host := "") (Or.inl (hw _ (List.mem_of_getElem? (i := 45) rfl))) Via.refl e225 F_slots (g := (mkF m 356 #[.val (.ref mb), .val (.int (1 : Int32)), .val (.int (4 : Int32)), .val (.int (0 : Int32)), .val (.ref bo), .val (.int a1), .val .null, .val (.int (0 : Int32)), .val (.int (Int32.ofNat c1)), .val (.int (Int32.ofNat (own_sl c1))), .unset] [(.ref mb)])) rfl rfl (hb hby d25_356)
  refine own_by (S' := (T226.setTop (mkF m 359 #[.val (.ref mb), .val (.int (1 : Int32)), .val (.int (4 : Int32)), .val (.int (0 : Int32)), .val (.ref bo), .val (.int a1), .val .null, .val (.int (0 : Int32)), .val (.int (Int32.ofNat c1)), .val (.int (Int32.ofNat (own_sl c1))), .unset] [(.ref (D 9))]))) st226 ?_
  refine own_by (S' := (T226.setTop (mkF m 362 #[.val (.ref mb), .val (.int (1 : Int32)), .val (.int (4 : Int32)), .val (.int (0 : Int32)), .val (.ref bo), .val (.int a1), .val .null, .val (.int (0 : Int32)), .val (.int (Int32.ofNat c1)), .val (.int (Int32.ofNat (own_sl c1))), .unset] [(.int (Int32.ofNat (own_sl c1))), (.ref (D 9))]))) (fun _ k => XS.iload X226.here hx rfl (hb hby d25_359) rfl (XS.aloadN X226.here hx rfl (hb hby d25_361) rfl rfl k)) ?_
  obtain ⟨T227, X227, e227, st227⟩ := getF X226 hx hZ hown (host := "") (Or.inl (hw _ (List.mem_of_getElem? (i := 60) rfl))) Via.refl e226 F_count (g := (mkF m 362 #[.val (.ref mb), .val (.int (1 : Int32)), .val (.int (4 : Int32)), .val (.int (0 : Int32)), .val (.ref bo), .val (.int a1), .val .null, .val (.int (0 : Int32)), .val (.int (Int32.ofNat c1)), .val (.int (Int32.ofNat (own_sl c1))), .unset] [(.ref mb), (.int (Int32.ofNat (own_sl c1))), (.ref (D 9))])) rfl rfl (hb hby d25_362)
  refine own_by (S' := (T227.setTop (mkF m 365 #[.val (.ref mb), .val (.int (1 : Int32)), .val (.int (4 : Int32)), .val (.int (0 : Int32)), .val (.ref bo), .val (.int a1), .val .null, .val (.int (0 : Int32)), .val (.int (Int32.ofNat c1)), .val (.int (Int32.ofNat (own_sl c1))), .unset] [(.int (0 : Int32)), (.int (Int32.ofNat (own_sl c1))), (.ref (D 9))]))) st227 ?_
  refine own_by (S' := (T227.setTop (mkF m 368 #[.val (.ref mb), .val (.int (1 : Int32)), .val (.int (4 : Int32)), .val (.int (0 : Int32)), .val (.ref bo), .val (.int a1), .val .null, .val (.int (0 : Int32)), .val (.int (Int32.ofNat c1)), .val (.int (Int32.ofNat (own_sl c1))), .unset] [(.int ((1 : Int32).toInt8.toInt32)), (.int (Int32.ofNat (own_sl c1))), (.ref (D 9))]))) (fun _ k => XS.iconst X227.here hx rfl (hb hby d25_365) (XS.iadd X227.here hx rfl (hb hby d25_366) rfl (XS.i2b X227.here hx rfl (hb hby d25_367) rfl k))) ?_
  rw [show ((1 : Int32).toInt8.toInt32) = (1 : Int32) from (by decide)]
  obtain ⟨T228, h228, X228, e228, W228, st228⟩ := own_stB X227 hx hZ e227 A_9 (j := (Int32.ofNat (own_sl c1))) (own_nn (by omega)) (by rw [own_n32 (by omega), own_zlen]; exact hs1) (g := (mkF m 368 #[.val (.ref mb), .val (.int (1 : Int32)), .val (.int (4 : Int32)), .val (.int (0 : Int32)), .val (.ref bo), .val (.int a1), .val .null, .val (.int (0 : Int32)), .val (.int (Int32.ofNat c1)), .val (.int (Int32.ofNat (own_sl c1))), .unset] [(.int (1 : Int32)), (.int (Int32.ofNat (own_sl c1))), (.ref (D 9))])) rfl rfl (hb hby d25_368)
  have N := Fr.snoc X228 N (DI.2.1 9 (by decide))
  have E_mb := E_mb.wr W228
  have F_nameStarts := F_nameStarts.other W228 (Or.inl (own_pick DI.2.2 0 11 rfl rfl (by decide)))
  have F_nameEnds := F_nameEnds.other W228 (Or.inl (own_pick DI.2.2 0 11 rfl rfl (by decide)))
  have F_nameHashes := F_nameHashes.other W228 (Or.inl (own_pick DI.2.2 0 11 rfl rfl (by decide)))
  have F_escapedNames := F_escapedNames.other W228 (Or.inl (own_pick DI.2.2 0 11 rfl rfl (by decide)))
  have F_types := F_types.other W228 (Or.inl (own_pick DI.2.2 0 11 rfl rfl (by decide)))
  have F_valueStarts := F_valueStarts.other W228 (Or.inl (own_pick DI.2.2 0 11 rfl rfl (by decide)))
  have F_valueEnds := F_valueEnds.other W228 (Or.inl (own_pick DI.2.2 0 11 rfl rfl (by decide)))
  have F_integerEnds := F_integerEnds.other W228 (Or.inl (own_pick DI.2.2 0 11 rfl rfl (by decide)))
  have F_fractionEnds := F_fractionEnds.other W228 (Or.inl (own_pick DI.2.2 0 11 rfl rfl (by decide)))
  have F_slots := F_slots.other W228 (Or.inl (own_pick DI.2.2 0 11 rfl rfl (by decide)))
  have F_line := F_line.other W228 (Or.inl (own_pick DI.2.2 0 11 rfl rfl (by decide)))
  have F_length := F_length.other W228 (Or.inl (own_pick DI.2.2 0 11 rfl rfl (by decide)))
  have F_lineNumber := F_lineNumber.other W228 (Or.inl (own_pick DI.2.2 0 11 rfl rfl (by decide)))
  have F_count := F_count.other W228 (Or.inl (own_pick DI.2.2 0 11 rfl rfl (by decide)))
  have F_index := F_index.other W228 (Or.inl (own_pick DI.2.2 0 11 rfl rfl (by decide)))
  have F_integerEnd := F_integerEnd.other W228 (Or.inl (own_pick DI.2.2 0 11 rfl rfl (by decide)))
  have F_fractionEnd := F_fractionEnd.other W228 (Or.inl (own_pick DI.2.2 0 11 rfl rfl (by decide)))
  have A_0 := A_0.other W228 (own_pick DI.2.2 2 11 rfl rfl (by decide))
  have A_1 := A_1.other W228 (own_pick DI.2.2 3 11 rfl rfl (by decide))
  have A_2 := A_2.other W228 (own_pick DI.2.2 4 11 rfl rfl (by decide))
  have A_3 := A_3.other W228 (own_pick DI.2.2 5 11 rfl rfl (by decide))
  have A_4 := A_4.other W228 (own_pick DI.2.2 6 11 rfl rfl (by decide))
  have A_5 := A_5.other W228 (own_pick DI.2.2 7 11 rfl rfl (by decide))
  have A_6 := A_6.other W228 (own_pick DI.2.2 8 11 rfl rfl (by decide))
  have A_7 := A_7.other W228 (own_pick DI.2.2 9 11 rfl rfl (by decide))
  have A_8 := A_8.other W228 (own_pick DI.2.2 10 11 rfl rfl (by decide))
  have A_9 := A_9.set W228
  have A_li := A_li.other W228 (own_pick DI.2.2 1 11 rfl rfl (by decide))
  have O := O.wr W228 (DI.2.1 9 (by decide))
  have F_pos := F_pos.other W228 (Or.inl (own_pick DI.2.2 0 11 rfl rfl (by decide)))
  have Zn : n0 ≤ _ := Nat.le_trans Zn (Nat.le_of_eq W228.size.symm)
  have K := K.wr W228 (Or.inl (List.mem_of_getElem? (i := 10) rfl))
  have A_9 : OwnA Z h228 (D 9) .byte (own_S1 c1) := (by have q := A_9; rw [show (1 : Int32).toInt8.toInt32 = 1 by decide, own_n32 (by omega)] at q; exact q)
  refine own_by (S' := (T228.setTop (mkF m 369 #[.val (.ref mb), .val (.int (1 : Int32)), .val (.int (4 : Int32)), .val (.int (0 : Int32)), .val (.ref bo), .val (.int a1), .val .null, .val (.int (0 : Int32)), .val (.int (Int32.ofNat c1)), .val (.int (Int32.ofNat (own_sl c1))), .unset] []))) st228 ?_
  refine own_by (S' := (T228.setTop (mkF m 401 #[.val (.ref mb), .val (.int (1 : Int32)), .val (.int (4 : Int32)), .val (.int (0 : Int32)), .val (.ref bo), .val (.int a1), .val .null, .val (.int (0 : Int32)), .val (.int (Int32.ofNat c1)), .val (.int (Int32.ofNat (own_sl c1))), .unset] [(.ref mb)]))) (fun _ k => XS.iload X228.here hx rfl (hb hby d25_369) rfl (XS.ifYes X228.here hx rfl (pc0 := 371) (pc' := 399) rfl (hb hby d25_371) rfl ((if0 _ _).trans (teq ((by decide) : (0 : Int32) = (0 : Int32))).1) (by decide) (by decide) (XS.aloadN X228.here hx rfl (hb hby d25_399) rfl rfl (XS.dup X228.here hx rfl (hb hby d25_400) rfl rfl k)))) ?_
  obtain ⟨T229, X229, e229, st229⟩ := getF X228 hx hZ hown (host := "") (Or.inl (hw _ (List.mem_of_getElem? (i := 60) rfl))) Via.refl e228 F_count (g := (mkF m 401 #[.val (.ref mb), .val (.int (1 : Int32)), .val (.int (4 : Int32)), .val (.int (0 : Int32)), .val (.ref bo), .val (.int a1), .val .null, .val (.int (0 : Int32)), .val (.int (Int32.ofNat c1)), .val (.int (Int32.ofNat (own_sl c1))), .unset] [(.ref mb), (.ref mb)])) rfl rfl (hb hby d25_401)
  refine own_by (S' := (T229.setTop (mkF m 404 #[.val (.ref mb), .val (.int (1 : Int32)), .val (.int (4 : Int32)), .val (.int (0 : Int32)), .val (.ref bo), .val (.int a1), .val .null, .val (.int (0 : Int32)), .val (.int (Int32.ofNat c1)), .val (.int (Int32.ofNat (own_sl c1))), .unset] [(.int (0 : Int32)), (.ref mb)]))) st229 ?_
  refine own_by (S' := (T229.setTop (mkF m 406 #[.val (.ref mb), .val (.int (1 : Int32)), .val (.int (4 : Int32)), .val (.int (0 : Int32)), .val (.ref bo), .val (.int a1), .val .null, .val (.int (0 : Int32)), .val (.int (Int32.ofNat c1)), .val (.int (Int32.ofNat (own_sl c1))), .unset] []))) (fun _ k => XS.iconst X229.here hx rfl (hb hby d25_404) (XS.iadd X229.here hx rfl (hb hby d25_405) rfl k)) ?_
  obtain ⟨T230, h230, X230, e230, W230, st230⟩ := putF X229 hx hZ hown (host := "") (Or.inl (hw _ (List.mem_of_getElem? (i := 60) rfl))) Via.refl e229 F_count E_mb (Or.inl (hw _ (List.mem_of_getElem? (i := 61) rfl))) (hw _ (List.mem_of_getElem? (i := 13) rfl)) (ty := .int) (by decide) rfl rfl (g := (mkF m 406 #[.val (.ref mb), .val (.int (1 : Int32)), .val (.int (4 : Int32)), .val (.int (0 : Int32)), .val (.ref bo), .val (.int a1), .val .null, .val (.int (0 : Int32)), .val (.int (Int32.ofNat c1)), .val (.int (Int32.ofNat (own_sl c1))), .unset] [(.int (1 : Int32)), (.ref mb)])) rfl rfl (hb hby d25_406)
  have N := Fr.snoc X230 N DI.1
  have E_mb := E_mb.wr W230
  have F_nameStarts := F_nameStarts.other W230 (Or.inr (slot_ne (Or.inl (hw _ (List.mem_of_getElem? (i := 23) rfl))) (Or.inl (hw _ (List.mem_of_getElem? (i := 61) rfl))) (by decide) (t := (.array .int)) (t' := .int) (by decide) (by decide)))
  have F_nameEnds := F_nameEnds.other W230 (Or.inr (slot_ne (Or.inl (hw _ (List.mem_of_getElem? (i := 25) rfl))) (Or.inl (hw _ (List.mem_of_getElem? (i := 61) rfl))) (by decide) (t := (.array .int)) (t' := .int) (by decide) (by decide)))
  have F_nameHashes := F_nameHashes.other W230 (Or.inr (slot_ne (Or.inl (hw _ (List.mem_of_getElem? (i := 27) rfl))) (Or.inl (hw _ (List.mem_of_getElem? (i := 61) rfl))) (by decide) (t := (.array .int)) (t' := .int) (by decide) (by decide)))
  have F_escapedNames := F_escapedNames.other W230 (Or.inr (slot_ne (Or.inl (hw _ (List.mem_of_getElem? (i := 31) rfl))) (Or.inl (hw _ (List.mem_of_getElem? (i := 61) rfl))) (by decide) (t := (.array (.object "java/lang/String"))) (t' := .int) (by decide) (by decide)))
  have F_types := F_types.other W230 (Or.inr (slot_ne (Or.inl (hw _ (List.mem_of_getElem? (i := 35) rfl))) (Or.inl (hw _ (List.mem_of_getElem? (i := 61) rfl))) (by decide) (t := (.array (.object "com/example/upright_play/uprightplay/event/Members$Type"))) (t' := .int) (by decide) (by decide)))
  have F_valueStarts := F_valueStarts.other W230 (Or.inr (slot_ne (Or.inl (hw _ (List.mem_of_getElem? (i := 37) rfl))) (Or.inl (hw _ (List.mem_of_getElem? (i := 61) rfl))) (by decide) (t := (.array .int)) (t' := .int) (by decide) (by decide)))
  have F_valueEnds := F_valueEnds.other W230 (Or.inr (slot_ne (Or.inl (hw _ (List.mem_of_getElem? (i := 39) rfl))) (Or.inl (hw _ (List.mem_of_getElem? (i := 61) rfl))) (by decide) (t := (.array .int)) (t' := .int) (by decide) (by decide)))
  have F_integerEnds := F_integerEnds.other W230 (Or.inr (slot_ne (Or.inl (hw _ (List.mem_of_getElem? (i := 41) rfl))) (Or.inl (hw _ (List.mem_of_getElem? (i := 61) rfl))) (by decide) (t := (.array .int)) (t' := .int) (by decide) (by decide)))
  have F_fractionEnds := F_fractionEnds.other W230 (Or.inr (slot_ne (Or.inl (hw _ (List.mem_of_getElem? (i := 43) rfl))) (Or.inl (hw _ (List.mem_of_getElem? (i := 61) rfl))) (by decide) (t := (.array .int)) (t' := .int) (by decide) (by decide)))
  have F_slots := F_slots.other W230 (Or.inr (slot_ne (Or.inr (hw _ (List.mem_of_getElem? (i := 46) rfl))) (Or.inl (hw _ (List.mem_of_getElem? (i := 61) rfl))) (by decide) (t := (.array .byte)) (t' := .int) (by decide) (by decide)))
  have F_line := F_line.other W230 (Or.inr (slot_ne (Or.inl (hw _ (List.mem_of_getElem? (i := 53) rfl))) (Or.inl (hw _ (List.mem_of_getElem? (i := 61) rfl))) (by decide) (t := (.array .char)) (t' := .int) (by decide) (by decide)))
  have F_length := F_length.other W230 (Or.inr (slot_ne (Or.inl (hw _ (List.mem_of_getElem? (i := 55) rfl))) (Or.inl (hw _ (List.mem_of_getElem? (i := 61) rfl))) (by decide) (t := .int) (t' := .int) (by decide) (by decide)))
  have F_lineNumber := F_lineNumber.other W230 (Or.inr (slot_ne (Or.inl (hw _ (List.mem_of_getElem? (i := 57) rfl))) (Or.inl (hw _ (List.mem_of_getElem? (i := 61) rfl))) (by decide) (t := .long) (t' := .int) (by decide) (by decide)))
  have F_count := F_count.same W230
  have F_index := F_index.other W230 (Or.inr (slot_ne (Or.inl (hw _ (List.mem_of_getElem? (i := 63) rfl))) (Or.inl (hw _ (List.mem_of_getElem? (i := 61) rfl))) (by decide) (t := (.object "java/util/Map")) (t' := .int) (by decide) (by decide)))
  have F_integerEnd := F_integerEnd.other W230 (Or.inr (slot_ne (Or.inl (hw _ (List.mem_of_getElem? (i := 162) rfl))) (Or.inl (hw _ (List.mem_of_getElem? (i := 61) rfl))) (by decide) (t := .int) (t' := .int) (by decide) (by decide)))
  have F_fractionEnd := F_fractionEnd.other W230 (Or.inr (slot_ne (Or.inl (hw _ (List.mem_of_getElem? (i := 164) rfl))) (Or.inl (hw _ (List.mem_of_getElem? (i := 61) rfl))) (by decide) (t := .int) (t' := .int) (by decide) (by decide)))
  have A_0 := A_0.other W230 (Ne.symm (own_pick DI.2.2 0 2 rfl rfl (by decide)))
  have A_1 := A_1.other W230 (Ne.symm (own_pick DI.2.2 0 3 rfl rfl (by decide)))
  have A_2 := A_2.other W230 (Ne.symm (own_pick DI.2.2 0 4 rfl rfl (by decide)))
  have A_3 := A_3.other W230 (Ne.symm (own_pick DI.2.2 0 5 rfl rfl (by decide)))
  have A_4 := A_4.other W230 (Ne.symm (own_pick DI.2.2 0 6 rfl rfl (by decide)))
  have A_5 := A_5.other W230 (Ne.symm (own_pick DI.2.2 0 7 rfl rfl (by decide)))
  have A_6 := A_6.other W230 (Ne.symm (own_pick DI.2.2 0 8 rfl rfl (by decide)))
  have A_7 := A_7.other W230 (Ne.symm (own_pick DI.2.2 0 9 rfl rfl (by decide)))
  have A_8 := A_8.other W230 (Ne.symm (own_pick DI.2.2 0 10 rfl rfl (by decide)))
  have A_9 := A_9.other W230 (Ne.symm (own_pick DI.2.2 0 11 rfl rfl (by decide)))
  have A_li := A_li.other W230 (Ne.symm (own_pick DI.2.2 0 1 rfl rfl (by decide)))
  have O := O.wr W230 DI.1
  have F_pos := F_pos.other W230 (Or.inr (slot_ne (Or.inl (hw _ (List.mem_of_getElem? (i := 59) rfl))) (Or.inl (hw _ (List.mem_of_getElem? (i := 61) rfl))) (by decide) (t := .int) (t' := .int) (by decide) (by decide)))
  have Zn : n0 ≤ _ := Nat.le_trans Zn (Nat.le_of_eq W230.size.symm)
  have K := K.wr W230 (Or.inl (List.mem_of_getElem? (i := 0) rfl))
  refine own_by (S' := (T230.setTop (mkF m 409 #[.val (.ref mb), .val (.int (1 : Int32)), .val (.int (4 : Int32)), .val (.int (0 : Int32)), .val (.ref bo), .val (.int a1), .val .null, .val (.int (0 : Int32)), .val (.int (Int32.ofNat c1)), .val (.int (Int32.ofNat (own_sl c1))), .unset] []))) st230 ?_
  exact own_ret0 X230 hx Bd.returns (hb hby d25_409) hlk (by decide : 0 ≤ _) (by decide : 0 ≤ _) (by rw [e230]; exact ⟨rfl, N, K, ⟨E_mb, F_nameStarts, F_nameEnds, F_nameHashes, F_escapedNames, F_types, F_valueStarts, F_valueEnds, F_integerEnds, F_fractionEnds, F_slots, F_line, F_length, F_lineNumber, F_count, F_index, F_integerEnd, F_fractionEnd, A_0, A_1, A_2, A_3, A_4, A_5, A_6, A_7, A_8, A_9⟩, F_pos⟩)
theorem ef_rm_add1 (m : MethodId) (x0 : Addr) (x1 : Int32) (x2 : Int32) (x3 : Int32) (x4 : Addr) (x5 : Int32) : entryFrame m #[(.ref x0), (.int x1), (.int x2), (.int x3), (.ref x4), (.int x5)] 11 = mkF m 0 #[.val (.ref x0), .val (.int x1), .val (.int x2), .val (.int x3), .val (.ref x4), .val (.int x5), .unset, .unset, .unset, .unset, .unset] [] := by first | (simp [entryFrame, mkF, argsToLocals, Value.category]; done) | rfl
def Q_rm_add1 (Z : State) (mb li : Addr) (D : Nat → Addr) (LN : List Value) (c1 c2 : Nat) (a1 b1 a2 b2 : Int32) (cs : Int32) (fo : Value) (bo : Addr) (h0 : Heap) (n0 : Nat) (v : Option Value) (h : Heap) (L : List Loc) : Prop := v = none ∧ Fr n0 L ∧ Keep h0 h (mb :: [D 0, D 1, D 2, D 3, D 4, D 5, D 6, D 7, D 8, D 9]) ∧ OwnM Z h mb D (own_V2 c1 c2 a1 b1 a2 b2 bo) (.ref li) 23 1 2 ∧ Fld Z h mb "com/example/upright_play/uprightplay/event/Members" "pos" "I" (.int b2)
set_option maxRecDepth 65536 in
set_option maxHeartbeats 40000000 in
theorem rm_add1 (l : Launch) (Z : State) (a0 : Array Value) (hw : ∀ d ∈ tables_1, d.before a0 Z = true) (ws : List Jvm.Cond) (mb li : Addr) (D : Nat → Addr) (LN : List Value) (c1 c2 : Nat) (a1 b1 a2 b2 : Int32) (cs : Int32) (fo : Value) (bo : Addr) (h0 : Heap) (n0 : Nat) (Zn : n0 ≤ h0.size) (M : OwnM Z h0 mb D (own_V1 c1 a1 b1 bo) (.ref li) 23 1 1) (DI : own_di n0 mb li D) (A_li : OwnA Z h0 li .char LN) (F_pos : Fld Z h0 mb "com/example/upright_play/uprightplay/event/Members" "pos" "I" (.int b2)) (hc2 : LN[13]? = some (.int (Int32.ofNat c2))) (hk1 : own_nc c1) (hk2 : own_nc c2) (h12 : c1 ≠ c2) (O : Old Z n0 h0) (SS : own_st Z cs fo bo) :
    MetFree l (⟨"com/example/upright_play/uprightplay/event/Members", "add", "(IIZLcom/example/upright_play/uprightplay/event/Members$Type;I)V"⟩ : MethodName) (head1 (Jvm.Cond.code (⟨"com/example/upright_play/uprightplay/event/Members", "add", "(IIZLcom/example/upright_play/uprightplay/event/Members$Type;I)V"⟩ : MethodName) prog_95_method_21_code 11 none :: ws) ({ frames := 1, cells := 0, slots := 0, locals := 24 } : Room)) (fun a U => a = #[(.ref mb), (.int (12 : Int32)), (.int (15 : Int32)), (.int (0 : Int32)), (.ref bo), (.int a2)] ∧ Z.Warmed39 U.vm ∧ U.heap = h0) (fun _ _ _ _ _ => True) (fun _ U o U' => ∃ v L, o = .returned v ∧ (Q_rm_add1 Z mb li D LN c1 c2 a1 b1 a2 b2 cs fo bo h0 n0) v U'.heap L ∧ FrameEnd U o U' L ({ frames := 1, cells := 0, slots := 0, locals := 24 } : Room).cells ({ frames := 1, cells := 0, slots := 0, locals := 24 } : Room).slots) := by
  sorry
theorem pn_30 : plainName "java/lang/StringLatin1" = true := by first | (simp [plainName, overriddenIn]; done) | decide +kernel
theorem ef_rm_toBytes (m : MethodId) (x0 : Int32) : entryFrame m #[(.int x0)] 1 = mkF m 0 #[.val (.int x0)] [] := by first | (simp [entryFrame, mkF, argsToLocals, Value.category]; done) | rfl
def Q_rm_toBytes (Z : State) (ch : Nat) (h0 : Heap) (n0 : Nat) (v : Option Value) (h : Heap) (L : List Loc) : Prop := ∃ sb : Addr, v = some (.ref sb) ∧ Fr n0 L ∧ Keep h0 h [] ∧ h0.size ≤ sb ∧ OwnA Z h sb .byte [.int ((Int32.ofNat ch).toInt8.toInt32).toInt8.toInt32]
set_option maxRecDepth 65536 in
set_option maxHeartbeats 40000000 in
theorem rm_toBytes (l : Launch) (Z : State) (a0 : Array Value) (hw : ∀ d ∈ tables_1, d.before a0 Z = true) (ws : List Jvm.Cond) (ch : Nat) (h0 : Heap) (n0 : Nat) (Zn : n0 ≤ h0.size) (hk : ch < 256) :
    MetFree l (⟨"java/lang/StringLatin1", "toBytes", "(C)[B"⟩ : MethodName) (head1 (Jvm.Cond.code (⟨"java/lang/StringLatin1", "toBytes", "(C)[B"⟩ : MethodName) jdk_43_method_46_code 1 (some (.array .byte)) :: ws) ({ frames := 0, cells := 1, slots := 1, locals := 0 } : Room)) (fun a U => a = #[(.int (Int32.ofNat ch))] ∧ Z.Warmed39 U.vm ∧ U.heap = h0) (fun _ _ _ _ _ => True) (fun _ U o U' => ∃ v L, o = .returned v ∧ (Q_rm_toBytes Z ch h0 n0) v U'.heap L ∧ FrameEnd U o U' L ({ frames := 0, cells := 1, slots := 1, locals := 0 } : Room).cells ({ frames := 0, cells := 1, slots := 1, locals := 0 } : Room).slots) := by
  sorry
theorem pn_31 : plainName "java/lang/String" = true := by first | (simp [plainName, overriddenIn]; done) | decide +kernel
theorem ef_rm_sinit (m : MethodId) (x0 : Addr) (x1 : Addr) (x2 : Int32) : entryFrame m #[(.ref x0), (.ref x1), (.int x2)] 3 = mkF m 0 #[.val (.ref x0), .val (.ref x1), .val (.int x2)] [] := by first | (simp [entryFrame, mkF, argsToLocals, Value.category]; done) | rfl
def Q_rm_sinit (Z : State) (sa sb : Addr) (h0 : Heap) (n0 : Nat) (v : Option Value) (h : Heap) (L : List Loc) : Prop := v = none ∧ Fr n0 L ∧ Keep h0 h [sa] ∧ Fld Z h sa "java/lang/String" "value" "[B" (.ref sb) ∧ Fld Z h sa "java/lang/String" "coder" "B" (.int (0 : Int32)) ∧ Fld Z h sa "java/lang/String" "hash" "I" (.int (0 : Int32)) ∧ Fld Z h sa "java/lang/String" "hashIsZero" "Z" (.int (0 : Int32))
set_option maxRecDepth 65536 in
set_option maxHeartbeats 40000000 in
theorem rm_sinit (l : Launch) (Z : State) (a0 : Array Value) (hw : ∀ d ∈ tables_1, d.before a0 Z = true) (ws : List Jvm.Cond) (sa sb : Addr) (h0 : Heap) (n0 : Nat) (Zn : n0 ≤ h0.size) (E_sa : Exa Z h0 sa "java/lang/String") (o_sa : n0 ≤ sa) (F_value : Fld Z h0 sa "java/lang/String" "value" "[B" .null) (F_coder : Fld Z h0 sa "java/lang/String" "coder" "B" (.int (0 : Int32))) (F_hash : Fld Z h0 sa "java/lang/String" "hash" "I" (.int (0 : Int32))) (F_hashIsZero : Fld Z h0 sa "java/lang/String" "hashIsZero" "Z" (.int (0 : Int32))) :
    MetFree l (⟨"java/lang/String", "<init>", "([BB)V"⟩ : MethodName) (head1 (Jvm.Cond.code (⟨"java/lang/String", "<init>", "([BB)V"⟩ : MethodName) jdk_42_method_151_code 3 none :: ws) ({ frames := 1, cells := 0, slots := 0, locals := 16 } : Room)) (fun a U => a = #[(.ref sa), (.ref sb), (.int (0 : Int32))] ∧ Z.Warmed39 U.vm ∧ U.heap = h0) (fun _ _ _ _ _ => True) (fun _ U o U' => ∃ v L, o = .returned v ∧ (Q_rm_sinit Z sa sb h0 n0) v U'.heap L ∧ FrameEnd U o U' L ({ frames := 1, cells := 0, slots := 0, locals := 16 } : Room).cells ({ frames := 1, cells := 0, slots := 0, locals := 16 } : Room).slots) := by
  sorry
theorem pn_28 : plainName "java/lang/String" = true := by first | (simp [plainName, overriddenIn]; done) | decide +kernel
theorem ef_rm_valueOf (m : MethodId) (x0 : Int32) : entryFrame m #[(.int x0)] 1 = mkF m 0 #[.val (.int x0)] [] := by first | (simp [entryFrame, mkF, argsToLocals, Value.category]; done) | rfl
def Q_rm_valueOf (Z : State) (ch : Nat) (cs : Int32) (fo : Value) (bo : Addr) (h0 : Heap) (n0 : Nat) (v : Option Value) (h : Heap) (L : List Loc) : Prop := ∃ sa sb : Addr, v = some (.ref sa) ∧ Fr n0 L ∧ Keep h0 h [] ∧ h0.size ≤ sa ∧ own_str Z h sa sb [.int ((Int32.ofNat ch).toInt8.toInt32).toInt8.toInt32] ∧ Fld Z h sa "java/lang/String" "hash" "I" (.int (0 : Int32)) ∧ Fld Z h sa "java/lang/String" "hashIsZero" "Z" (.int (0 : Int32))
theorem pd__28C_29_5bB : parseMethodDescriptor "(C)[B" = some ⟨[.char], some (.array .byte)⟩ := by decide +kernel
theorem pd__28_5bBB_29V : parseMethodDescriptor "([BB)V" = some ⟨[(.array .byte), .byte], none⟩ := by decide +kernel
set_option maxRecDepth 65536 in
set_option maxHeartbeats 40000000 in
theorem rm_valueOf (l : Launch) (Z : State) (a0 : Array Value) (hw : ∀ d ∈ tables_1, d.before a0 Z = true) (ws : List Jvm.Cond) (ch : Nat) (cs : Int32) (fo : Value) (bo : Addr) (h0 : Heap) (n0 : Nat) (Zn : n0 ≤ h0.size) (hk : ch < 256) (O : Old Z n0 h0) (SS : own_st Z cs fo bo) :
    MetFree l (⟨"java/lang/String", "valueOf", "(C)Ljava/lang/String;"⟩ : MethodName) (head1 (Jvm.Cond.code (⟨"java/lang/String", "valueOf", "(C)Ljava/lang/String;"⟩ : MethodName) jdk_42_method_139_code 1 (some (.object "java/lang/String")) :: ws) ({ frames := 2, cells := 2, slots := 5, locals := 32 } : Room)) (fun a U => a = #[(.int (Int32.ofNat ch))] ∧ Z.Warmed39 U.vm ∧ U.heap = h0) (fun _ _ _ _ _ => True) (fun _ U o U' => ∃ v L, o = .returned v ∧ (Q_rm_valueOf Z ch cs fo bo h0 n0) v U'.heap L ∧ FrameEnd U o U' L ({ frames := 2, cells := 2, slots := 5, locals := 32 } : Room).cells ({ frames := 2, cells := 2, slots := 5, locals := 32 } : Room).slots) := by
  sorry
theorem pn_34 : plainName "java/lang/StringLatin1" = true := by first | (simp [plainName, overriddenIn]; done) | decide +kernel
theorem ef_rm_l1hash (m : MethodId) (x0 : Addr) : entryFrame m #[(.ref x0)] 1 = mkF m 0 #[.val (.ref x0)] [] := by first | (simp [entryFrame, mkF, argsToLocals, Value.category]; done) | rfl
def Q_rm_l1hash (Z : State) (sb : Addr) (z1 : Int32) (ch : Nat) (h0 : Heap) (n0 : Nat) (v : Option Value) (h : Heap) (L : List Loc) : Prop := v = some (.int (Int32.ofNat ch)) ∧ Fr n0 L ∧ h = h0
set_option maxRecDepth 65536 in
set_option maxHeartbeats 40000000 in
theorem rm_l1hash (l : Launch) (Z : State) (a0 : Array Value) (hw : ∀ d ∈ tables_1, d.before a0 Z = true) (ws : List Jvm.Cond) (sb : Addr) (z1 : Int32) (ch : Nat) (h0 : Heap) (n0 : Nat) (Zn : n0 ≤ h0.size) (A_sb : OwnA Z h0 sb .byte [.int z1]) (hz : (z1 &&& (255 : Int32)) = Int32.ofNat ch) :
    MetFree l (⟨"java/lang/StringLatin1", "hashCode", "([B)I"⟩ : MethodName) (head1 (Jvm.Cond.code (⟨"java/lang/StringLatin1", "hashCode", "([B)I"⟩ : MethodName) jdk_43_method_21_code 1 (some .int) :: ws) ({ frames := 0, cells := 0, slots := 0, locals := 0 } : Room)) (fun a U => a = #[(.ref sb)] ∧ Z.Warmed39 U.vm ∧ U.heap = h0) (fun _ _ _ _ _ => True) (fun _ U o U' => ∃ v L, o = .returned v ∧ (Q_rm_l1hash Z sb z1 ch h0 n0) v U'.heap L ∧ FrameEnd U o U' L ({ frames := 0, cells := 0, slots := 0, locals := 0 } : Room).cells ({ frames := 0, cells := 0, slots := 0, locals := 0 } : Room).slots) := by
  sorry
theorem pn_33 : plainName "java/lang/String" = true := by first | (simp [plainName, overriddenIn]; done) | decide +kernel
theorem ef_rm_hashCode (m : MethodId) (x0 : Addr) : entryFrame m #[(.ref x0)] 2 = mkF m 0 #[.val (.ref x0), .unset] [] := by first | (simp [entryFrame, mkF, argsToLocals, Value.category]; done) | rfl
def Q_rm_hashCode (Z : State) (sa sb : Addr) (z1 : Int32) (ch : Nat) (cs : Int32) (fo : Value) (bo : Addr) (h0 : Heap) (n0 : Nat) (v : Option Value) (h : Heap) (L : List Loc) : Prop := v = some (.int (Int32.ofNat ch)) ∧ Fr n0 L ∧ Keep h0 h [sa] ∧ own_str Z h sa sb [.int z1]
theorem pd__28_5bB_29I : parseMethodDescriptor "([B)I" = some ⟨[(.array .byte)], some .int⟩ := by decide +kernel
set_option maxRecDepth 65536 in
set_option maxHeartbeats 40000000 in
theorem rm_hashCode (l : Launch) (Z : State) (a0 : Array Value) (hw : ∀ d ∈ tables_1, d.before a0 Z = true) (ws : List Jvm.Cond) (sa sb : Addr) (z1 : Int32) (ch : Nat) (cs : Int32) (fo : Value) (bo : Addr) (h0 : Heap) (n0 : Nat) (Zn : n0 ≤ h0.size) (S_a : own_str Z h0 sa sb [.int z1]) (F_h : Fld Z h0 sa "java/lang/String" "hash" "I" (.int (0 : Int32))) (F_z : Fld Z h0 sa "java/lang/String" "hashIsZero" "Z" (.int (0 : Int32))) (o_sa : n0 ≤ sa) (hne : sb ≠ sa) (hz : (z1 &&& (255 : Int32)) = Int32.ofNat ch) (hk : own_nc ch) (O : Old Z n0 h0) (SS : own_st Z cs fo bo) :
    MetFree l (⟨"java/lang/String", "hashCode", "()I"⟩ : MethodName) (head1 (Jvm.Cond.code (⟨"java/lang/String", "hashCode", "()I"⟩ : MethodName) jdk_42_method_78_code 2 (some .int) :: ws) ({ frames := 1, cells := 0, slots := 0, locals := 24 } : Room)) (fun a U => a = #[(.ref sa)] ∧ Z.Warmed39 U.vm ∧ U.heap = h0) (fun _ _ _ _ _ => True) (fun _ U o U' => ∃ v L, o = .returned v ∧ (Q_rm_hashCode Z sa sb z1 ch cs fo bo h0 n0) v U'.heap L ∧ FrameEnd U o U' L ({ frames := 1, cells := 0, slots := 0, locals := 24 } : Room).cells ({ frames := 1, cells := 0, slots := 0, locals := 24 } : Room).slots) := by
  sorry
theorem pn_36 : plainName "com/example/upright_play/uprightplay/event/Members" = true := by first | (simp [plainName, overriddenIn]; done) | decide +kernel
theorem ef_rm_holds2 (m : MethodId) (x0 : Addr) (x1 : Int32) (x2 : Int32) (x3 : Addr) : entryFrame m #[(.ref x0), (.int x1), (.int x2), (.ref x3)] 6 = mkF m 0 #[.val (.ref x0), .val (.int x1), .val (.int x2), .val (.ref x3), .unset, .unset] [] := by first | (simp [entryFrame, mkF, argsToLocals, Value.category]; done) | rfl
def Q_rm_holds2 (Z : State) (mb li : Addr) (LN : List Value) (sa sb : Addr) (z1 : Int32) (ch : Nat) (cs : Int32) (fo : Value) (bo : Addr) (h0 : Heap) (n0 : Nat) (v : Option Value) (h : Heap) (L : List Loc) : Prop := v = some (.int (1 : Int32)) ∧ Fr n0 L ∧ h = h0
set_option maxRecDepth 65536 in
set_option maxHeartbeats 40000000 in
theorem rm_holds2 (l : Launch) (Z : State) (a0 : Array Value) (hw : ∀ d ∈ tables_1, d.before a0 Z = true) (ws : List Jvm.Cond) (mb li : Addr) (LN : List Value) (sa sb : Addr) (z1 : Int32) (ch : Nat) (cs : Int32) (fo : Value) (bo : Addr) (h0 : Heap) (n0 : Nat) (Zn : n0 ≤ h0.size) (F_line : Fld Z h0 mb "com/example/upright_play/uprightplay/event/Members" "line" "[C" (.ref li)) (A_li : OwnA Z h0 li .char LN) (h2 : LN[2]? = some (.int (Int32.ofNat ch))) (S_a : own_str Z h0 sa sb [.int z1]) (hz : (z1 &&& (255 : Int32)) = Int32.ofNat ch) (hk : ch < 256) (O : Old Z n0 h0) (SS : own_st Z cs fo bo) :
    MetFree l (⟨"com/example/upright_play/uprightplay/event/Members", "holds", "(IILjava/lang/String;)Z"⟩ : MethodName) (head1 (Jvm.Cond.code (⟨"com/example/upright_play/uprightplay/event/Members", "holds", "(IILjava/lang/String;)Z"⟩ : MethodName) prog_95_method_24_code 6 (some .boolean) :: ws) ({ frames := 4, cells := 0, slots := 0, locals := 80 } : Room)) (fun a U => a = #[(.ref mb), (.int (2 : Int32)), (.int (3 : Int32)), (.ref sa)] ∧ Z.Warmed39 U.vm ∧ U.heap = h0) (fun _ _ _ _ _ => True) (fun _ U o U' => ∃ v L, o = .returned v ∧ (Q_rm_holds2 Z mb li LN sa sb z1 ch cs fo bo h0 n0) v U'.heap L ∧ FrameEnd U o U' L ({ frames := 4, cells := 0, slots := 0, locals := 80 } : Room).cells ({ frames := 4, cells := 0, slots := 0, locals := 80 } : Room).slots) := by
  sorry
theorem ef_rm_holds13 (m : MethodId) (x0 : Addr) (x1 : Int32) (x2 : Int32) (x3 : Addr) : entryFrame m #[(.ref x0), (.int x1), (.int x2), (.ref x3)] 6 = mkF m 0 #[.val (.ref x0), .val (.int x1), .val (.int x2), .val (.ref x3), .unset, .unset] [] := by first | (simp [entryFrame, mkF, argsToLocals, Value.category]; done) | rfl
def Q_rm_holds13 (Z : State) (mb li : Addr) (LN : List Value) (sa sb : Addr) (z1 : Int32) (ch : Nat) (cs : Int32) (fo : Value) (bo : Addr) (h0 : Heap) (n0 : Nat) (v : Option Value) (h : Heap) (L : List Loc) : Prop := v = some (.int (1 : Int32)) ∧ Fr n0 L ∧ h = h0
set_option maxRecDepth 65536 in
set_option maxHeartbeats 40000000 in
theorem rm_holds13 (l : Launch) (Z : State) (a0 : Array Value) (hw : ∀ d ∈ tables_1, d.before a0 Z = true) (ws : List Jvm.Cond) (mb li : Addr) (LN : List Value) (sa sb : Addr) (z1 : Int32) (ch : Nat) (cs : Int32) (fo : Value) (bo : Addr) (h0 : Heap) (n0 : Nat) (Zn : n0 ≤ h0.size) (F_line : Fld Z h0 mb "com/example/upright_play/uprightplay/event/Members" "line" "[C" (.ref li)) (A_li : OwnA Z h0 li .char LN) (h2 : LN[13]? = some (.int (Int32.ofNat ch))) (S_a : own_str Z h0 sa sb [.int z1]) (hz : (z1 &&& (255 : Int32)) = Int32.ofNat ch) (hk : ch < 256) (O : Old Z n0 h0) (SS : own_st Z cs fo bo) :
    MetFree l (⟨"com/example/upright_play/uprightplay/event/Members", "holds", "(IILjava/lang/String;)Z"⟩ : MethodName) (head1 (Jvm.Cond.code (⟨"com/example/upright_play/uprightplay/event/Members", "holds", "(IILjava/lang/String;)Z"⟩ : MethodName) prog_95_method_24_code 6 (some .boolean) :: ws) ({ frames := 4, cells := 0, slots := 0, locals := 80 } : Room)) (fun a U => a = #[(.ref mb), (.int (13 : Int32)), (.int (14 : Int32)), (.ref sa)] ∧ Z.Warmed39 U.vm ∧ U.heap = h0) (fun _ _ _ _ _ => True) (fun _ U o U' => ∃ v L, o = .returned v ∧ (Q_rm_holds13 Z mb li LN sa sb z1 ch cs fo bo h0 n0) v U'.heap L ∧ FrameEnd U o U' L ({ frames := 4, cells := 0, slots := 0, locals := 80 } : Room).cells ({ frames := 4, cells := 0, slots := 0, locals := 80 } : Room).slots) := by
  sorry
theorem pn_35 : plainName "com/example/upright_play/uprightplay/event/Members" = true := by first | (simp [plainName, overriddenIn]; done) | decide +kernel
theorem ef_rm_isNamed0 (m : MethodId) (x0 : Addr) (x1 : Int32) (x2 : Addr) : entryFrame m #[(.ref x0), (.int x1), (.ref x2)] 5 = mkF m 0 #[.val (.ref x0), .val (.int x1), .val (.ref x2), .unset, .unset] [] := by first | (simp [entryFrame, mkF, argsToLocals, Value.category]; done) | rfl
def Q_rm_isNamed0 (Z : State) (mb li : Addr) (D : Nat → Addr) (LN : List Value) (c1 c2 : Nat) (a1 b1 a2 b2 : Int32) (sa sb : Addr) (z1 : Int32) (cs : Int32) (fo : Value) (bo : Addr) (h0 : Heap) (n0 : Nat) (v : Option Value) (h : Heap) (L : List Loc) : Prop := v = some (.int (1 : Int32)) ∧ Fr n0 L ∧ h = h0
theorem pd__28IILjava_2flang_2fString_3b_29Z : parseMethodDescriptor "(IILjava/lang/String;)Z" = some ⟨[.int, .int, (.object "java/lang/String")], some .boolean⟩ := by decide +kernel
set_option maxRecDepth 65536 in
set_option maxHeartbeats 40000000 in
theorem rm_isNamed0 (l : Launch) (Z : State) (a0 : Array Value) (hw : ∀ d ∈ tables_1, d.before a0 Z = true) (ws : List Jvm.Cond) (mb li : Addr) (D : Nat → Addr) (LN : List Value) (c1 c2 : Nat) (a1 b1 a2 b2 : Int32) (sa sb : Addr) (z1 : Int32) (cs : Int32) (fo : Value) (bo : Addr) (h0 : Heap) (n0 : Nat) (Zn : n0 ≤ h0.size) (M : OwnM Z h0 mb D (own_V2 c1 c2 a1 b1 a2 b2 bo) (.ref li) 23 1 2) (DI : own_di n0 mb li D) (A_li : OwnA Z h0 li .char LN) (h2 : LN[2]? = some (.int (Int32.ofNat c1))) (S_a : own_str Z h0 sa sb [.int z1]) (hz : (z1 &&& (255 : Int32)) = Int32.ofNat c1) (hk : c1 < 256) (O : Old Z n0 h0) (SS : own_st Z cs fo bo) :
    MetFree l (⟨"com/example/upright_play/uprightplay/event/Members", "isNamed", "(ILjava/lang/String;)Z"⟩ : MethodName) (head1 (Jvm.Cond.code (⟨"com/example/upright_play/uprightplay/event/Members", "isNamed", "(ILjava/lang/String;)Z"⟩ : MethodName) prog_95_method_25_code 5 (some .boolean) :: ws) ({ frames := 5, cells := 0, slots := 0, locals := 105 } : Room)) (fun a U => a = #[(.ref mb), (.int (0 : Int32)), (.ref sa)] ∧ Z.Warmed39 U.vm ∧ U.heap = h0) (fun _ _ _ _ _ => True) (fun _ U o U' => ∃ v L, o = .returned v ∧ (Q_rm_isNamed0 Z mb li D LN c1 c2 a1 b1 a2 b2 sa sb z1 cs fo bo h0 n0) v U'.heap L ∧ FrameEnd U o U' L ({ frames := 5, cells := 0, slots := 0, locals := 105 } : Room).cells ({ frames := 5, cells := 0, slots := 0, locals := 105 } : Room).slots) := by
  sorry
theorem ef_rm_isNamed1 (m : MethodId) (x0 : Addr) (x1 : Int32) (x2 : Addr) : entryFrame m #[(.ref x0), (.int x1), (.ref x2)] 5 = mkF m 0 #[.val (.ref x0), .val (.int x1), .val (.ref x2), .unset, .unset] [] := by first | (simp [entryFrame, mkF, argsToLocals, Value.category]; done) | rfl
def Q_rm_isNamed1 (Z : State) (mb li : Addr) (D : Nat → Addr) (LN : List Value) (c1 c2 : Nat) (a1 b1 a2 b2 : Int32) (sa sb : Addr) (z1 : Int32) (cs : Int32) (fo : Value) (bo : Addr) (h0 : Heap) (n0 : Nat) (v : Option Value) (h : Heap) (L : List Loc) : Prop := v = some (.int (1 : Int32)) ∧ Fr n0 L ∧ h = h0
set_option maxRecDepth 65536 in
set_option maxHeartbeats 40000000 in
theorem rm_isNamed1 (l : Launch) (Z : State) (a0 : Array Value) (hw : ∀ d ∈ tables_1, d.before a0 Z = true) (ws : List Jvm.Cond) (mb li : Addr) (D : Nat → Addr) (LN : List Value) (c1 c2 : Nat) (a1 b1 a2 b2 : Int32) (sa sb : Addr) (z1 : Int32) (cs : Int32) (fo : Value) (bo : Addr) (h0 : Heap) (n0 : Nat) (Zn : n0 ≤ h0.size) (M : OwnM Z h0 mb D (own_V2 c1 c2 a1 b1 a2 b2 bo) (.ref li) 23 1 2) (DI : own_di n0 mb li D) (A_li : OwnA Z h0 li .char LN) (h2 : LN[13]? = some (.int (Int32.ofNat c2))) (S_a : own_str Z h0 sa sb [.int z1]) (hz : (z1 &&& (255 : Int32)) = Int32.ofNat c2) (hk : c2 < 256) (O : Old Z n0 h0) (SS : own_st Z cs fo bo) :
    MetFree l (⟨"com/example/upright_play/uprightplay/event/Members", "isNamed", "(ILjava/lang/String;)Z"⟩ : MethodName) (head1 (Jvm.Cond.code (⟨"com/example/upright_play/uprightplay/event/Members", "isNamed", "(ILjava/lang/String;)Z"⟩ : MethodName) prog_95_method_25_code 5 (some .boolean) :: ws) ({ frames := 5, cells := 0, slots := 0, locals := 105 } : Room)) (fun a U => a = #[(.ref mb), (.int (1 : Int32)), (.ref sa)] ∧ Z.Warmed39 U.vm ∧ U.heap = h0) (fun _ _ _ _ _ => True) (fun _ U o U' => ∃ v L, o = .returned v ∧ (Q_rm_isNamed1 Z mb li D LN c1 c2 a1 b1 a2 b2 sa sb z1 cs fo bo h0 n0) v U'.heap L ∧ FrameEnd U o U' L ({ frames := 5, cells := 0, slots := 0, locals := 105 } : Room).cells ({ frames := 5, cells := 0, slots := 0, locals := 105 } : Room).slots) := by
  sorry
theorem pn_32 : plainName "com/example/upright_play/uprightplay/event/Members" = true := by first | (simp [plainName, overriddenIn]; done) | decide +kernel
theorem ef_rm_find0 (m : MethodId) (x0 : Addr) (x1 : Addr) : entryFrame m #[(.ref x0), (.ref x1)] 6 = mkF m 0 #[.val (.ref x0), .val (.ref x1), .unset, .unset, .unset, .unset] [] := by first | (simp [entryFrame, mkF, argsToLocals, Value.category]; done) | rfl
def Q_rm_find0 (Z : State) (mb li : Addr) (D : Nat → Addr) (LN : List Value) (c1 c2 : Nat) (a1 b1 a2 b2 : Int32) (sa sb : Addr) (z1 : Int32) (cs : Int32) (fo : Value) (bo : Addr) (h0 : Heap) (n0 : Nat) (v : Option Value) (h : Heap) (L : List Loc) : Prop := v = some (.int (0 : Int32)) ∧ Fr n0 L ∧ Keep h0 h [sa]
theorem pd__28ILjava_2flang_2fString_3b_29Z : parseMethodDescriptor "(ILjava/lang/String;)Z" = some ⟨[.int, (.object "java/lang/String")], some .boolean⟩ := by decide +kernel
set_option maxRecDepth 65536 in
set_option maxHeartbeats 40000000 in
theorem rm_find0 (l : Launch) (Z : State) (a0 : Array Value) (hw : ∀ d ∈ tables_1, d.before a0 Z = true) (ws : List Jvm.Cond) (mb li : Addr) (D : Nat → Addr) (LN : List Value) (c1 c2 : Nat) (a1 b1 a2 b2 : Int32) (sa sb : Addr) (z1 : Int32) (cs : Int32) (fo : Value) (bo : Addr) (h0 : Heap) (n0 : Nat) (Zn : n0 ≤ h0.size) (M : OwnM Z h0 mb D (own_V2 c1 c2 a1 b1 a2 b2 bo) (.ref li) 23 1 2) (DI : own_di n0 mb li D) (A_li : OwnA Z h0 li .char LN) (h2 : LN[2]? = some (.int (Int32.ofNat c1))) (S_a : own_str Z h0 sa sb [.int z1]) (F_h : Fld Z h0 sa "java/lang/String" "hash" "I" (.int (0 : Int32))) (F_z : Fld Z h0 sa "java/lang/String" "hashIsZero" "Z" (.int (0 : Int32))) (o_sa : n0 ≤ sa) (hne : sb ≠ sa) (hsa : ∀ y ∈ (mb :: li :: [D 0, D 1, D 2, D 3, D 4, D 5, D 6, D 7, D 8, D 9] : List Addr), y ≠ sa) (hz : (z1 &&& (255 : Int32)) = Int32.ofNat c1) (hk1 : own_nc c1) (hk2 : own_nc c2) (h12 : c1 ≠ c2) (O : Old Z n0 h0) (SS : own_st Z cs fo bo) :
    MetFree l (⟨"com/example/upright_play/uprightplay/event/Members", "find", "(Ljava/lang/String;)I"⟩ : MethodName) (head1 (Jvm.Cond.code (⟨"com/example/upright_play/uprightplay/event/Members", "find", "(Ljava/lang/String;)I"⟩ : MethodName) prog_95_method_5_code 6 (some .int) :: ws) ({ frames := 6, cells := 0, slots := 0, locals := 135 } : Room)) (fun a U => a = #[(.ref mb), (.ref sa)] ∧ Z.Warmed39 U.vm ∧ U.heap = h0) (fun _ _ _ _ _ => True) (fun _ U o U' => ∃ v L, o = .returned v ∧ (Q_rm_find0 Z mb li D LN c1 c2 a1 b1 a2 b2 sa sb z1 cs fo bo h0 n0) v U'.heap L ∧ FrameEnd U o U' L ({ frames := 6, cells := 0, slots := 0, locals := 135 } : Room).cells ({ frames := 6, cells := 0, slots := 0, locals := 135 } : Room).slots) := by
  sorry
theorem ef_rm_find1 (m : MethodId) (x0 : Addr) (x1 : Addr) : entryFrame m #[(.ref x0), (.ref x1)] 6 = mkF m 0 #[.val (.ref x0), .val (.ref x1), .unset, .unset, .unset, .unset] [] := by first | (simp [entryFrame, mkF, argsToLocals, Value.category]; done) | rfl
def Q_rm_find1 (Z : State) (mb li : Addr) (D : Nat → Addr) (LN : List Value) (c1 c2 : Nat) (a1 b1 a2 b2 : Int32) (sa sb : Addr) (z1 : Int32) (cs : Int32) (fo : Value) (bo : Addr) (h0 : Heap) (n0 : Nat) (v : Option Value) (h : Heap) (L : List Loc) : Prop := v = some (.int (1 : Int32)) ∧ Fr n0 L ∧ Keep h0 h [sa]
set_option maxRecDepth 65536 in
set_option maxHeartbeats 40000000 in
theorem rm_find1 (l : Launch) (Z : State) (a0 : Array Value) (hw : ∀ d ∈ tables_1, d.before a0 Z = true) (ws : List Jvm.Cond) (mb li : Addr) (D : Nat → Addr) (LN : List Value) (c1 c2 : Nat) (a1 b1 a2 b2 : Int32) (sa sb : Addr) (z1 : Int32) (cs : Int32) (fo : Value) (bo : Addr) (h0 : Heap) (n0 : Nat) (Zn : n0 ≤ h0.size) (M : OwnM Z h0 mb D (own_V2 c1 c2 a1 b1 a2 b2 bo) (.ref li) 23 1 2) (DI : own_di n0 mb li D) (A_li : OwnA Z h0 li .char LN) (h2 : LN[13]? = some (.int (Int32.ofNat c2))) (S_a : own_str Z h0 sa sb [.int z1]) (F_h : Fld Z h0 sa "java/lang/String" "hash" "I" (.int (0 : Int32))) (F_z : Fld Z h0 sa "java/lang/String" "hashIsZero" "Z" (.int (0 : Int32))) (o_sa : n0 ≤ sa) (hne : sb ≠ sa) (hsa : ∀ y ∈ (mb :: li :: [D 0, D 1, D 2, D 3, D 4, D 5, D 6, D 7, D 8, D 9] : List Addr), y ≠ sa) (hz : (z1 &&& (255 : Int32)) = Int32.ofNat c2) (hk1 : own_nc c1) (hk2 : own_nc c2) (h12 : c1 ≠ c2) (O : Old Z n0 h0) (SS : own_st Z cs fo bo) :
    MetFree l (⟨"com/example/upright_play/uprightplay/event/Members", "find", "(Ljava/lang/String;)I"⟩ : MethodName) (head1 (Jvm.Cond.code (⟨"com/example/upright_play/uprightplay/event/Members", "find", "(Ljava/lang/String;)I"⟩ : MethodName) prog_95_method_5_code 6 (some .int) :: ws) ({ frames := 6, cells := 0, slots := 0, locals := 135 } : Room)) (fun a U => a = #[(.ref mb), (.ref sa)] ∧ Z.Warmed39 U.vm ∧ U.heap = h0) (fun _ _ _ _ _ => True) (fun _ U o U' => ∃ v L, o = .returned v ∧ (Q_rm_find1 Z mb li D LN c1 c2 a1 b1 a2 b2 sa sb z1 cs fo bo h0 n0) v U'.heap L ∧ FrameEnd U o U' L ({ frames := 6, cells := 0, slots := 0, locals := 135 } : Room).cells ({ frames := 6, cells := 0, slots := 0, locals := 135 } : Room).slots) := by
  sorry
theorem pn_38 : plainName "com/example/upright_play/uprightplay/event/Members" = true := by first | (simp [plainName, overriddenIn]; done) | decide +kernel
theorem ef_rm_size (m : MethodId) (x0 : Addr) : entryFrame m #[(.ref x0)] 1 = mkF m 0 #[.val (.ref x0)] [] := by first | (simp [entryFrame, mkF, argsToLocals, Value.category]; done) | rfl
def Q_rm_size (Z : State) (mb li : Addr) (D : Nat → Addr) (LN : List Value) (V : Nat → List Value) (h0 : Heap) (n0 : Nat) (v : Option Value) (h : Heap) (L : List Loc) : Prop := v = some (.int (2 : Int32)) ∧ Fr n0 L ∧ h = h0
set_option maxRecDepth 65536 in
set_option maxHeartbeats 40000000 in
theorem rm_size (l : Launch) (Z : State) (a0 : Array Value) (hw : ∀ d ∈ tables_1, d.before a0 Z = true) (ws : List Jvm.Cond) (mb li : Addr) (D : Nat → Addr) (LN : List Value) (V : Nat → List Value) (h0 : Heap) (n0 : Nat) (Zn : n0 ≤ h0.size) (M : OwnM Z h0 mb D V (.ref li) 23 1 2) :
    MetFree l (⟨"com/example/upright_play/uprightplay/event/Members", "size", "()I"⟩ : MethodName) (head1 (Jvm.Cond.code (⟨"com/example/upright_play/uprightplay/event/Members", "size", "()I"⟩ : MethodName) prog_95_method_4_code 1 (some .int) :: ws) ({ frames := 0, cells := 0, slots := 0, locals := 0 } : Room)) (fun a U => a = #[(.ref mb)] ∧ Z.Warmed39 U.vm ∧ U.heap = h0) (fun _ _ _ _ _ => True) (fun _ U o U' => ∃ v L, o = .returned v ∧ (Q_rm_size Z mb li D LN V h0 n0) v U'.heap L ∧ FrameEnd U o U' L ({ frames := 0, cells := 0, slots := 0, locals := 0 } : Room).cells ({ frames := 0, cells := 0, slots := 0, locals := 0 } : Room).slots) := by
  sorry
def own_t (z : Int32) : Int32 := if z = 116 then 1 else 0
theorem pn_39 : plainName "com/example/upright_play/uprightplay/event/Members" = true := by first | (simp [plainName, overriddenIn]; done) | decide +kernel
theorem ef_rm_type0 (m : MethodId) (x0 : Addr) (x1 : Int32) : entryFrame m #[(.ref x0), (.int x1)] 2 = mkF m 0 #[.val (.ref x0), .val (.int x1)] [] := by first | (simp [entryFrame, mkF, argsToLocals, Value.category]; done) | rfl
def Q_rm_type0 (Z : State) (mb li : Addr) (D : Nat → Addr) (LN : List Value) (c1 c2 : Nat) (a1 b1 a2 b2 : Int32) (bo : Addr) (h0 : Heap) (n0 : Nat) (v : Option Value) (h : Heap) (L : List Loc) : Prop := v = some (.ref bo) ∧ Fr n0 L ∧ h = h0
set_option maxRecDepth 65536 in
set_option maxHeartbeats 40000000 in
theorem rm_type0 (l : Launch) (Z : State) (a0 : Array Value) (hw : ∀ d ∈ tables_1, d.before a0 Z = true) (ws : List Jvm.Cond) (mb li : Addr) (D : Nat → Addr) (LN : List Value) (c1 c2 : Nat) (a1 b1 a2 b2 : Int32) (bo : Addr) (h0 : Heap) (n0 : Nat) (Zn : n0 ≤ h0.size) (M : OwnM Z h0 mb D (own_V2 c1 c2 a1 b1 a2 b2 bo) (.ref li) 23 1 2) :
    MetFree l (⟨"com/example/upright_play/uprightplay/event/Members", "type", "(I)Lcom/example/upright_play/uprightplay/event/Members$Type;"⟩ : MethodName) (head1 (Jvm.Cond.code (⟨"com/example/upright_play/uprightplay/event/Members", "type", "(I)Lcom/example/upright_play/uprightplay/event/Members$Type;"⟩ : MethodName) prog_95_method_6_code 2 (some (.object "com/example/upright_play/uprightplay/event/Members$Type")) :: ws) ({ frames := 0, cells := 0, slots := 0, locals := 0 } : Room)) (fun a U => a = #[(.ref mb), (.int (0 : Int32))] ∧ Z.Warmed39 U.vm ∧ U.heap = h0) (fun _ _ _ _ _ => True) (fun _ U o U' => ∃ v L, o = .returned v ∧ (Q_rm_type0 Z mb li D LN c1 c2 a1 b1 a2 b2 bo h0 n0) v U'.heap L ∧ FrameEnd U o U' L ({ frames := 0, cells := 0, slots := 0, locals := 0 } : Room).cells ({ frames := 0, cells := 0, slots := 0, locals := 0 } : Room).slots) := by
  sorry
theorem pn_40 : plainName "com/example/upright_play/uprightplay/event/Members" = true := by first | (simp [plainName, overriddenIn]; done) | decide +kernel
theorem ef_rm_bool0 (m : MethodId) (x0 : Addr) (x1 : Int32) : entryFrame m #[(.ref x0), (.int x1)] 2 = mkF m 0 #[.val (.ref x0), .val (.int x1)] [] := by first | (simp [entryFrame, mkF, argsToLocals, Value.category]; done) | rfl
def Q_rm_bool0 (Z : State) (mb li : Addr) (D : Nat → Addr) (LN : List Value) (c1 c2 : Nat) (a1 b1 a2 b2 : Int32) (bo : Addr) (z1 : Int32) (h0 : Heap) (n0 : Nat) (v : Option Value) (h : Heap) (L : List Loc) : Prop := v = some (.int (own_t z1)) ∧ Fr n0 L ∧ h = h0
set_option maxRecDepth 65536 in
set_option maxHeartbeats 40000000 in
theorem rm_bool0 (l : Launch) (Z : State) (a0 : Array Value) (hw : ∀ d ∈ tables_1, d.before a0 Z = true) (ws : List Jvm.Cond) (mb li : Addr) (D : Nat → Addr) (LN : List Value) (c1 c2 : Nat) (a1 b1 a2 b2 : Int32) (bo : Addr) (z1 : Int32) (h0 : Heap) (n0 : Nat) (Zn : n0 ≤ h0.size) (M : OwnM Z h0 mb D (own_V2 c1 c2 a1 b1 a2 b2 bo) (.ref li) 23 1 2) (DI : own_di n0 mb li D) (A_li : OwnA Z h0 li .char LN) (hn : ¬ a1 < 0) (hz : LN[a1.toNatClampNeg]? = some (.int z1)) :
    MetFree l (⟨"com/example/upright_play/uprightplay/event/Members", "bool", "(I)Z"⟩ : MethodName) (head1 (Jvm.Cond.code (⟨"com/example/upright_play/uprightplay/event/Members", "bool", "(I)Z"⟩ : MethodName) prog_95_method_11_code 2 (some .boolean) :: ws) ({ frames := 0, cells := 0, slots := 0, locals := 0 } : Room)) (fun a U => a = #[(.ref mb), (.int (0 : Int32))] ∧ Z.Warmed39 U.vm ∧ U.heap = h0) (fun _ _ _ _ _ => True) (fun _ U o U' => ∃ v L, o = .returned v ∧ (Q_rm_bool0 Z mb li D LN c1 c2 a1 b1 a2 b2 bo z1 h0 n0) v U'.heap L ∧ FrameEnd U o U' L ({ frames := 0, cells := 0, slots := 0, locals := 0 } : Room).cells ({ frames := 0, cells := 0, slots := 0, locals := 0 } : Room).slots) := by
  sorry
theorem ef_rm_type1 (m : MethodId) (x0 : Addr) (x1 : Int32) : entryFrame m #[(.ref x0), (.int x1)] 2 = mkF m 0 #[.val (.ref x0), .val (.int x1)] [] := by first | (simp [entryFrame, mkF, argsToLocals, Value.category]; done) | rfl
def Q_rm_type1 (Z : State) (mb li : Addr) (D : Nat → Addr) (LN : List Value) (c1 c2 : Nat) (a1 b1 a2 b2 : Int32) (bo : Addr) (h0 : Heap) (n0 : Nat) (v : Option Value) (h : Heap) (L : List Loc) : Prop := v = some (.ref bo) ∧ Fr n0 L ∧ h = h0
set_option maxRecDepth 65536 in
set_option maxHeartbeats 40000000 in
theorem rm_type1 (l : Launch) (Z : State) (a0 : Array Value) (hw : ∀ d ∈ tables_1, d.before a0 Z = true) (ws : List Jvm.Cond) (mb li : Addr) (D : Nat → Addr) (LN : List Value) (c1 c2 : Nat) (a1 b1 a2 b2 : Int32) (bo : Addr) (h0 : Heap) (n0 : Nat) (Zn : n0 ≤ h0.size) (M : OwnM Z h0 mb D (own_V2 c1 c2 a1 b1 a2 b2 bo) (.ref li) 23 1 2) :
    MetFree l (⟨"com/example/upright_play/uprightplay/event/Members", "type", "(I)Lcom/example/upright_play/uprightplay/event/Members$Type;"⟩ : MethodName) (head1 (Jvm.Cond.code (⟨"com/example/upright_play/uprightplay/event/Members", "type", "(I)Lcom/example/upright_play/uprightplay/event/Members$Type;"⟩ : MethodName) prog_95_method_6_code 2 (some (.object "com/example/upright_play/uprightplay/event/Members$Type")) :: ws) ({ frames := 0, cells := 0, slots := 0, locals := 0 } : Room)) (fun a U => a = #[(.ref mb), (.int (1 : Int32))] ∧ Z.Warmed39 U.vm ∧ U.heap = h0) (fun _ _ _ _ _ => True) (fun _ U o U' => ∃ v L, o = .returned v ∧ (Q_rm_type1 Z mb li D LN c1 c2 a1 b1 a2 b2 bo h0 n0) v U'.heap L ∧ FrameEnd U o U' L ({ frames := 0, cells := 0, slots := 0, locals := 0 } : Room).cells ({ frames := 0, cells := 0, slots := 0, locals := 0 } : Room).slots) := by
  sorry
theorem ef_rm_bool1 (m : MethodId) (x0 : Addr) (x1 : Int32) : entryFrame m #[(.ref x0), (.int x1)] 2 = mkF m 0 #[.val (.ref x0), .val (.int x1)] [] := by first | (simp [entryFrame, mkF, argsToLocals, Value.category]; done) | rfl
def Q_rm_bool1 (Z : State) (mb li : Addr) (D : Nat → Addr) (LN : List Value) (c1 c2 : Nat) (a1 b1 a2 b2 : Int32) (bo : Addr) (z1 : Int32) (h0 : Heap) (n0 : Nat) (v : Option Value) (h : Heap) (L : List Loc) : Prop := v = some (.int (own_t z1)) ∧ Fr n0 L ∧ h = h0
set_option maxRecDepth 65536 in
set_option maxHeartbeats 40000000 in
theorem rm_bool1 (l : Launch) (Z : State) (a0 : Array Value) (hw : ∀ d ∈ tables_1, d.before a0 Z = true) (ws : List Jvm.Cond) (mb li : Addr) (D : Nat → Addr) (LN : List Value) (c1 c2 : Nat) (a1 b1 a2 b2 : Int32) (bo : Addr) (z1 : Int32) (h0 : Heap) (n0 : Nat) (Zn : n0 ≤ h0.size) (M : OwnM Z h0 mb D (own_V2 c1 c2 a1 b1 a2 b2 bo) (.ref li) 23 1 2) (DI : own_di n0 mb li D) (A_li : OwnA Z h0 li .char LN) (hn : ¬ a2 < 0) (hz : LN[a2.toNatClampNeg]? = some (.int z1)) :
    MetFree l (⟨"com/example/upright_play/uprightplay/event/Members", "bool", "(I)Z"⟩ : MethodName) (head1 (Jvm.Cond.code (⟨"com/example/upright_play/uprightplay/event/Members", "bool", "(I)Z"⟩ : MethodName) prog_95_method_11_code 2 (some .boolean) :: ws) ({ frames := 0, cells := 0, slots := 0, locals := 0 } : Room)) (fun a U => a = #[(.ref mb), (.int (1 : Int32))] ∧ Z.Warmed39 U.vm ∧ U.heap = h0) (fun _ _ _ _ _ => True) (fun _ U o U' => ∃ v L, o = .returned v ∧ (Q_rm_bool1 Z mb li D LN c1 c2 a1 b1 a2 b2 bo z1 h0 n0) v U'.heap L ∧ FrameEnd U o U' L ({ frames := 0, cells := 0, slots := 0, locals := 0 } : Room).cells ({ frames := 0, cells := 0, slots := 0, locals := 0 } : Room).slots) := by
  sorry
section OwnW
variable {p : Program} {l : Launch} {e : Env} {R : Room} {s : State} {m : MethodId} {args a0 : Array Value} {below : List Frame} {meth : Method} {c : Code} {T : State} {locs : List Loc} {cells slots : Nat} {Z : State} {h h' : Heap} {a b : Addr} {ty : FieldType} {vs : List Value} {v : Value} {sl : Nat} {vm0 vm1 : Vm} {Ts Ts' : List String}
def own_ix (t : String) : Nat := if t = "true" then 208 else 217
def own_tx (t : String) : List Value := if t = "true" then [.int (116 : Int32), .int (114 : Int32), .int (117 : Int32), .int (101 : Int32)] else [.int (102 : Int32), .int (97 : Int32), .int (108 : Int32), .int (115 : Int32), .int (101 : Int32)]
/-- the texts loaded since the start, and what stands for them -/
def own_tab (Z : State) (vm : Vm) (h : Heap) (Ts : List String) : Prop := IB Z vm Ts ∧ ∀ t ∈ Ts, ∃ a b, Lit (Z.setVm vm) "com/example/upright_play/uprightplay/event/Members" (own_ix t) a ∧ own_str Z h a b (own_tx t)
theorem own_txlen (t : String) : (own_tx t).length ≤ 5 := by unfold own_tx; split <;> decide
theorem own_tab_warm (B : own_tab Z vm0 h Ts) (W : (s.setVm vm0).WarmedH vm1) : own_tab Z vm1 h Ts := by
  obtain ⟨⟨more, h1, h2⟩, h3⟩ := B
  refine ⟨⟨more, by rw [W.interned_eq]; exact h1, h2⟩, fun t ht => ?_⟩
  obtain ⟨a, b, L, S⟩ := h3 t ht
  exact ⟨a, b, Lit.stays (s := s) (vm0 := vm0) L W.wide, S⟩
theorem own_tab_ext (B : own_tab Z vm0 h Ts) (E : Ext h h') : own_tab Z vm0 h' Ts := ⟨B.1, fun t ht => by obtain ⟨a, b, L, S⟩ := B.2 t ht; exact ⟨a, b, L, own_str_ext S E⟩⟩
def own_for (Z : State) (h : Heap) (x : Addr) : Prop := ∀ a b vs, own_str Z h a b vs → vs.length ≤ 5 → a ≠ x ∧ b ≠ x
theorem own_tab_wr {x : Addr} (B : own_tab Z vm0 h Ts) (W : Wr h h' x sl v) (q : own_for Z h x) : own_tab Z vm0 h' Ts := ⟨B.1, fun t ht => by
  obtain ⟨a, b, L, S⟩ := B.2 t ht
  obtain ⟨q1, q2⟩ := q a b _ S (own_txlen t)
  exact ⟨a, b, L, own_str_wr S W q1 q2⟩⟩
theorem own_tab_keep {ws : List Addr} (B : own_tab Z vm0 h Ts) (K : Keep h h' ws) (q : ∀ x ∈ ws, own_for Z h x) : own_tab Z vm0 h' Ts := ⟨B.1, fun t ht => by
  obtain ⟨a, b, L, S⟩ := B.2 t ht
  exact ⟨a, b, L, own_str_keep S K (fun z => (q a z a b _ S (own_txlen t)).1 rfl) (fun z => (q b z a b _ S (own_txlen t)).2 rfl)⟩⟩
theorem own_forE {n : Nat} {x : Addr} {C : String} (w : (Cond.instantiable C n).before a0 Z = true) (hC : "java/lang/String" ≠ C) (E : Exa Z h x C) : own_for Z h x := fun a b vs S _ => ⟨Exa.ne S.1 E hC, own_strne0 w E S.2.2.2⟩
theorem own_forA {n : Nat} {x : Addr} {ws : List Value} (w : (Cond.instantiable "java/lang/String" n).before a0 Z = true) (F : OwnA Z h x ty ws) (hl : 5 < ws.length) : own_for Z h x := fun a b vs S hv => ⟨Ne.symm (own_strne0 w S.1 F), fun q => by
  subst q
  obtain ⟨c1, A1, r1⟩ := F
  obtain ⟨c2, A2, r2⟩ := S.2.2.2
  cases A1.1.symm.trans A2.1
  rw [← r1, r2] at hl
  omega⟩
theorem own_M_for {mb : Addr} {D : Nat → Addr} {V : Nat → List Value} {lv : Value} {len cnt : Int32} {lnr : Int64} (w : (Cond.instantiable "com/example/upright_play/uprightplay/event/Members" 18).before a0 Z = true) (w' : (Cond.instantiable "java/lang/String" 4).before a0 Z = true) (M : OwnM Z h mb D V lv len lnr cnt) (hV : ∀ i, i < 10 → 5 < (V i).length) : ∀ x ∈ (mb :: [D 0, D 1, D 2, D 3, D 4, D 5, D 6, D 7, D 8, D 9] : List Addr), own_for Z h x := by
  obtain ⟨E, F0, F1, F2, F3, F4, F5, F6, F7, F8, F9, F10, F11, F12, F13, F14, F15, F16, A0, A1, A2, A3, A4, A5, A6, A7, A8, A9⟩ := M
  exact allS (own_forE w (by decide) E) (allS (own_forA w' A0 (hV 0 (by decide))) (allS (own_forA w' A1 (hV 1 (by decide))) (allS (own_forA w' A2 (hV 2 (by decide))) (allS (own_forA w' A3.toA (hV 3 (by decide))) (allS (own_forA w' A4.toA (hV 4 (by decide))) (allS (own_forA w' A5 (hV 5 (by decide))) (allS (own_forA w' A6 (hV 6 (by decide))) (allS (own_forA w' A7 (hV 7 (by decide))) (allS (own_forA w' A8 (hV 8 (by decide))) (allS (own_forA w' A9 (hV 9 (by decide))) all0))))))))))
theorem own_since0 (s : State) : s.Since s.vm 0 := ⟨State.Warmed39.refl s, fun j q hj hp => absurd (Array.getElem?_eq_some_iff.mp hp).1 (Nat.not_lt.mpr hj)⟩
theorem own_arv {k : ClassId} {z : Int32} {d : Value} (A : Arv Z h b k ty z vs d) (hl : z.toNatClampNeg = vs.length) : OwnA Z h b ty vs := by
  obtain ⟨c, h1, -, h3, -, h5, -⟩ := A
  refine ⟨c, h1, List.ext_getElem? fun j => ?_⟩
  rw [Array.getElem?_toList]
  by_cases q : j < c.slots.size
  · rw [h5 j q, List.getD_eq_getElem?_getD, List.getElem?_eq_getElem (by omega)]; rfl
  · rw [Array.getElem?_eq_none (by omega), List.getElem?_eq_none (by omega)]
/-- the end of a run that may have loaded constants -/
def own_finW (p : Program) (e : Env) (below : List Frame) (s : State) (cl sl : Nat) (Z : State) (Ts : List String) (Q : Option Value → Heap → List Loc → Prop) (S : State) : Prop :=
  ∃ s₂ o, Steps p.tables e below S s₂ ∧ s₂.status = .running ∧ Ended s₂ below o ∧ ∃ v L, o = .returned v ∧ Q v s₂.heap L ∧ own_tab Z s₂.vm s₂.heap Ts ∧ ReturnedEndW s o s₂ L cl sl
theorem own_byW {cl sl : Nat} {Q : Option Value → Heap → List Loc → Prop} {S S' : State} (st : ∀ target, Steps p.tables e below S' target → Steps p.tables e below S target) (k : own_finW p e below s cl sl Z Ts Q S') : own_finW p e below s cl sl Z Ts Q S := by
  obtain ⟨s2, o, h1, h2⟩ := k
  exact ⟨s2, o, st _ h1, h2⟩
theorem own_trW {cl sl : Nat} {Q : Option Value → Heap → List Loc → Prop} {S S' : State} (st : Steps p.tables e below S S') (k : own_finW p e below s cl sl Z Ts Q S') : own_finW p e below s cl sl Z Ts Q S := by
  obtain ⟨s2, o, h1, h2⟩ := k
  exact ⟨s2, o, st.trans h1, h2⟩
theorem own_startW {cl sl : Nat} {Q : Option Value → Heap → List Loc → Prop} {s₁ : State} {mx : Nat} {g : JFrame} (q : entryFrame m args mx = g) (k : own_finW p e below s cl sl Z Ts Q (s₁.setTop g)) :
    ∃ s₂ o, Steps p.tables e below (s₁.setTop (entryFrame m args mx)) s₂ ∧ s₂.status = .running ∧ Ended s₂ below o ∧ ∃ v L, o = .returned v ∧ Q v s₂.heap L ∧ own_tab Z s₂.vm s₂.heap Ts ∧ ReturnedEndW s o s₂ L cl sl := by
  rw [q]; exact k
theorem own_retW (X : Stand p l e R (s.setVm vm0) m args below meth c T locs cells slots) (hx : p.tables.exec = Jvm.exec) {k0 : Nat} (hS : s.Since vm0 k0) (eT : T.heap = h) (hk : k0 ≤ h.size) (B : own_tab Z vm0 h Ts) {cl sl : Nat} {Q : Option Value → Heap → List Loc → Prop} {pc : Nat} {Ls : Array Slot} {w : Value} {t : FieldType} {i : Instr} {rest : List Value} (hret : meth.sig.returnType = some t) (hn : narrow t w = w)
    (hi : (i = .ireturn ∧ (t = .int ∨ t = .boolean ∨ t = .byte ∨ t = .char ∨ t = .short) ∧ ∃ z, w = .int z) ∨ (i = .lreturn ∧ t = .long ∧ ∃ z, w = .long z) ∨ (i = .dreturn ∧ t = .double ∧ ∃ z, w = .double z) ∨ (i = .freturn ∧ t = .float ∧ ∃ z, w = .float z) ∨ (i = .areturn ∧ t.isReference = true ∧ w.isRef = true))
    (hd : decode c.code pc = .ok (i, 1)) (hlk : meth.locks = false) (hc : cells ≤ cl) (hs : slots ≤ sl) (q : Q (some w) h locs) : own_finW p e below s cl sl Z Ts Q (T.setTop (mkF m pc Ls (w :: rest))) := by
  subst eT
  obtain ⟨fs, hr, hrun, hended, h1, h2, h3, h4⟩ := X.leaveW hS hk (v := some w) (fun h => by rw [hret] at h; cases h) hlk
  exact ⟨_, _, retOut X hx hret hn hi hd hr, hrun, hended, _, _, rfl, q, own_tab_warm B X.warmed, h1, h2, h3, h4.mono hc hs⟩
theorem own_ret0W (X : Stand p l e R (s.setVm vm0) m args below meth c T locs cells slots) (hx : p.tables.exec = Jvm.exec) {k0 : Nat} (hS : s.Since vm0 k0) (eT : T.heap = h) (hk : k0 ≤ h.size) (B : own_tab Z vm0 h Ts) {cl sl : Nat} {Q : Option Value → Heap → List Loc → Prop} {pc : Nat} {Ls : Array Slot} (hret : meth.sig.returnType = none)
    (hd : decode c.code pc = .ok (.return_, 1)) (hlk : meth.locks = false) (hc : cells ≤ cl) (hs : slots ≤ sl) (q : Q none h locs) : own_finW p e below s cl sl Z Ts Q (T.setTop (mkF m pc Ls [])) := by
  subst eT
  obtain ⟨fs, hr, hrun, hended, h1, h2, h3, h4⟩ := X.leaveW hS hk (v := none) (fun _ => rfl) hlk
  exact ⟨_, _, X.returnOut hx hret hd hr, hrun, hended, _, _, rfl, q, own_tab_warm B X.warmed, h1, h2, h3, h4.mono hc hs⟩
theorem own_backS {y : MethodName} {bytes : ByteArray} {maxL : Nat} {ret : Option FieldType} {rm : Room} {len W : Nat} {as' : Array Value} {Q : Option Value → Heap → List Loc → Prop}
    (hM : MetFree l y (head1 [Cond.code y bytes maxL ret] rm) (fun a U => a = as' ∧ Z.Warmed39 U.vm ∧ U.heap = h ∧ own_tab Z U.vm h Ts) (fun _ _ _ _ _ => True) (fun _ U o U' => ∃ v L, o = .returned v ∧ Q v U'.heap L ∧ own_tab Z U'.vm U'.heap Ts' ∧ ReturnedEndW U o U' L rm.cells rm.slots))
    (hZ : Z.Warmed39 s.vm) (wc : (Cond.code y bytes maxL ret).before a0 Z = true) (wz : (Cond.initialized y.cls).before a0 Z = true) (hf : rm.frames + 1 ≤ R.frames) (hl : W + (maxL + 11) + rm.locals ≤ R.locals) :
    BackS l R p e below s args y len W (fun A a => a = as' ∧ A.U.heap = h ∧ own_tab Z A.U.vm h Ts ∧ A.cells + rm.cells ≤ R.cells ∧ A.slots + rm.slots ≤ R.slots)
      (fun A _ v B => ∃ L, Q v B.U.heap L ∧ own_tab Z B.U.vm B.U.heap Ts' ∧ B.locs = A.locs ++ L ∧ B.cells = A.cells + rm.cells ∧ B.slots = A.slots + rm.slots) :=
  BackS.of_freeW (bytes := bytes) (maxL := maxL) (ret := ret) (E := fun _ _ o t L k n => k = rm.cells ∧ n = rm.slots ∧ own_tab Z t.vm t.heap Ts' ∧ ∃ v, o = .returned v ∧ Q v t.heap L) hM hf hl
    (fun m meth c A a Y hp => have hU : Z.Warmed39 A.U.vm := wtrans hZ Y.warmed
      ⟨by show (Cond.and _ .tt).before a A.U = true; rw [Cond.before_and, mv hU wc]; rfl, mv hU wc, mv hU wz, hp.2.2.2.1, hp.2.2.2.2⟩)
    (fun m meth c A a g mk Y hp => ⟨hp.1, wtrans hZ Y.warmed, hp.2.1, hp.2.2.1⟩) (fun _ _ _ _ _ _ _ _ _ => trivial)
    (fun _ _ _ _ ⟨v, L, h1, h2, h3, h4⟩ => ⟨L, _, _, h4, rfl, rfl, h3, v, h1, h2⟩)
    (fun m meth c A a g mk v t L k n Y hp _ _ ⟨e1, e2, e5, v', e3, e4⟩ => by cases e3; subst e1 e2; exact ⟨L, e4, e5, rfl, rfl, rfl⟩)
theorem own_tab_in {t : String} (B : own_tab Z vm0 h Ts) (ht : t ∈ Ts) : own_tab Z vm0 h (t :: Ts) := by
  obtain ⟨⟨more, h1, h2⟩, h3⟩ := B
  refine ⟨⟨more, h1, fun q hq => by obtain ⟨u, hu, e⟩ := h2 q hq; exact ⟨u, List.mem_cons_of_mem _ hu, e⟩⟩, fun u hu => ?_⟩
  rcases List.mem_cons.mp hu with rfl | hu
  · exact h3 _ ht
  · exact h3 _ hu
theorem own_tab_new {t : String} (B : own_tab Z s.vm h Ts) (I : IB Z vm1 (t :: Ts)) (W : s.Warmed39 vm1) (E : Ext h h') (L : Lit (Z.setVm vm1) "com/example/upright_play/uprightplay/event/Members" (own_ix t) a) (S : own_str Z h' a b (own_tx t)) : own_tab Z vm1 h' (t :: Ts) := by
  refine ⟨I, fun u hu => ?_⟩
  rcases List.mem_cons.mp hu with rfl | hu
  · exact ⟨a, b, L, S⟩
  · obtain ⟨a', b', L', S'⟩ := B.2 u hu
    exact ⟨a', b', Lit.stays (s := s) (vm0 := s.vm) L' W, own_str_ext S' E⟩
end OwnW
theorem own_V0len  : ∀ i, i < 10 → 5 < (own_V0  i).length := fun i hi => by
  match i, hi with
  | 0, _ => exact Nat.le_of_ble_eq_true rfl
  | 1, _ => exact Nat.le_of_ble_eq_true rfl
  | 2, _ => exact Nat.le_of_ble_eq_true rfl
  | 3, _ => exact Nat.le_of_ble_eq_true rfl
  | 4, _ => exact Nat.le_of_ble_eq_true rfl
  | 5, _ => exact Nat.le_of_ble_eq_true rfl
  | 6, _ => exact Nat.le_of_ble_eq_true rfl
  | 7, _ => exact Nat.le_of_ble_eq_true rfl
  | 8, _ => exact Nat.le_of_ble_eq_true rfl
  | 9, _ => exact Nat.le_of_ble_eq_true rfl
theorem own_V1len (c1 : Nat) (a1 b1 : Int32) (bo : Addr) : ∀ i, i < 10 → 5 < (own_V1 c1 a1 b1 bo i).length := fun i hi => by
  match i, hi with
  | 0, _ => exact Nat.le_of_ble_eq_true rfl
  | 1, _ => exact Nat.le_of_ble_eq_true rfl
  | 2, _ => exact Nat.le_of_ble_eq_true rfl
  | 3, _ => exact Nat.le_of_ble_eq_true rfl
  | 4, _ => exact Nat.le_of_ble_eq_true rfl
  | 5, _ => exact Nat.le_of_ble_eq_true rfl
  | 6, _ => exact Nat.le_of_ble_eq_true rfl
  | 7, _ => exact Nat.le_of_ble_eq_true rfl
  | 8, _ => exact Nat.le_of_ble_eq_true rfl
  | 9, _ => show 5 < (own_S1 c1).length; rw [own_s1len]; decide
theorem own_wS {Z : State} {a0 : Array Value} (hw : ∀ d ∈ tables_1, d.before a0 Z = true) : ∀ a ∈ Bundle.stringAtoms, a.before a0 Z = true := fun a ha => by
  simp only [Bundle.stringAtoms, List.mem_cons, List.not_mem_nil, or_false] at ha
  rcases ha with rfl | rfl | rfl | rfl | rfl | rfl | rfl
  · exact (hw _ (List.mem_of_getElem? (i := 97) rfl))
  · exact (hw _ (List.mem_of_getElem? (i := 98) rfl))
  · exact (hw _ (List.mem_of_getElem? (i := 44) rfl))
  · exact (hw _ (List.mem_of_getElem? (i := 99) rfl))
  · exact (hw _ (List.mem_of_getElem? (i := 100) rfl))
  · exact (hw _ (List.mem_of_getElem? (i := 101) rfl))
  · exact (hw _ (List.mem_of_getElem? (i := 102) rfl))
def own_wd (LN : List Value) (p1 q1 : Nat) (t : String) : Prop := p1 < q1 ∧ q1 < 23 ∧ (∃ cz : Int32, LN[q1]? = some (.int cz) ∧ (cz = 32 ∨ cz = 44 ∨ cz = 125)) ∧ ((t = "true" ∧ q1 = p1 + 4 ∧ LN[p1 + 0]? = some (.int (116 : Int32)) ∧ LN[p1 + 1]? = some (.int (114 : Int32)) ∧ LN[p1 + 2]? = some (.int (117 : Int32)) ∧ LN[p1 + 3]? = some (.int (101 : Int32))) ∨ (t = "false" ∧ q1 = p1 + 5 ∧ LN[p1 + 0]? = some (.int (102 : Int32)) ∧ LN[p1 + 1]? = some (.int (97 : Int32)) ∧ LN[p1 + 2]? = some (.int (108 : Int32)) ∧ LN[p1 + 3]? = some (.int (115 : Int32)) ∧ LN[p1 + 4]? = some (.int (101 : Int32))))
theorem pn_14 : plainName "com/example/upright_play/uprightplay/event/Members" = true := by first | (simp [plainName, overriddenIn]; done) | decide +kernel
theorem ef_rm_val_true (m : MethodId) (x0 : Addr) (x1 : Int32) : entryFrame m #[(.ref x0), (.int x1)] 4 = mkF m 0 #[.val (.ref x0), .val (.int x1), .unset, .unset] [] := by first | (simp [entryFrame, mkF, argsToLocals, Value.category]; done) | rfl
def Q_rm_val_true (Z : State) (mb li : Addr) (LN : List Value) (p1 : Nat) (cz : Int32) (Ts : List String) (cs : Int32) (fo : Value) (bo : Addr) (h0 : Heap) (n0 : Nat) (v : Option Value) (h : Heap) (L : List Loc) : Prop := v = some (.ref bo) ∧ Fr n0 L ∧ ∃ h1, Ext h0 h1 ∧ Wr h1 h mb (Jvm.RoadKit.slotOf Z "com/example/upright_play/uprightplay/event/Members" "pos" "I") (.int (Int32.ofNat (p1 + 4)))
theorem pd__28Ljava_2flang_2fString_3b_29V : parseMethodDescriptor "(Ljava/lang/String;)V" = some ⟨[(.object "java/lang/String")], none⟩ := by decide +kernel
set_option maxRecDepth 65536 in
set_option maxHeartbeats 40000000 in
theorem rm_val_true (l : Launch) (Z : State) (a0 : Array Value) (hw : ∀ d ∈ tables_1, d.before a0 Z = true) (ws : List Jvm.Cond) (mb li : Addr) (LN : List Value) (p1 : Nat) (cz : Int32) (Ts : List String) (cs : Int32) (fo : Value) (bo : Addr) (h0 : Heap) (n0 : Nat) (Zn : n0 ≤ h0.size) (E_mb : Exa Z h0 mb "com/example/upright_play/uprightplay/event/Members") (F_pos : Fld Z h0 mb "com/example/upright_play/uprightplay/event/Members" "pos" "I" (.int (Int32.ofNat p1))) (F_len : Fld Z h0 mb "com/example/upright_play/uprightplay/event/Members" "length" "I" (.int (23 : Int32))) (F_line : Fld Z h0 mb "com/example/upright_play/uprightplay/event/Members" "line" "[C" (.ref li)) (A_li : OwnA Z h0 li .char LN) (o_mb : n0 ≤ mb) (ne_mb_li : mb ≠ li) (hp : p1 + 4 < 23) (hl0 : LN[p1 + 0]? = some (.int (116 : Int32))) (hl1 : LN[p1 + 1]? = some (.int (114 : Int32))) (hl2 : LN[p1 + 2]? = some (.int (117 : Int32))) (hl3 : LN[p1 + 3]? = some (.int (101 : Int32))) (hc : LN[p1 + 4]? = some (.int cz)) (hz : cz = 32 ∨ cz = 44 ∨ cz = 125) (O : Old Z n0 h0) (SS : own_st Z cs fo bo) (HC : ∀ t, Jvm.Lit.constHeld Z "com/example/upright_play/uprightplay/event/Members" (own_ix t)) (HW : Jvm.Lit.compactW.before a0 Z = true) :
    MetFree l (⟨"com/example/upright_play/uprightplay/event/Members", "readValue", "(I)Lcom/example/upright_play/uprightplay/event/Members$Type;"⟩ : MethodName) (head1 (Jvm.Cond.code (⟨"com/example/upright_play/uprightplay/event/Members", "readValue", "(I)Lcom/example/upright_play/uprightplay/event/Members$Type;"⟩ : MethodName) prog_95_method_14_code 4 (some (.object "com/example/upright_play/uprightplay/event/Members$Type")) :: ws) ({ frames := 5, cells := 2, slots := 24, locals := 110 } : Room)) (fun a U => a = #[(.ref mb), (.int (1 : Int32))] ∧ Z.Warmed39 U.vm ∧ U.heap = h0 ∧ own_tab Z U.vm h0 Ts) (fun _ _ _ _ _ => True) (fun _ U o U' => ∃ v L, o = .returned v ∧ (Q_rm_val_true Z mb li LN p1 cz Ts cs fo bo h0 n0) v U'.heap L ∧ own_tab Z U'.vm U'.heap ("true" :: Ts) ∧ ReturnedEndW U o U' L ({ frames := 5, cells := 2, slots := 24, locals := 110 } : Room).cells ({ frames := 5, cells := 2, slots := 24, locals := 110 } : Room).slots) := by
  sorry
theorem ef_rm_val_false (m : MethodId) (x0 : Addr) (x1 : Int32) : entryFrame m #[(.ref x0), (.int x1)] 4 = mkF m 0 #[.val (.ref x0), .val (.int x1), .unset, .unset] [] := by first | (simp [entryFrame, mkF, argsToLocals, Value.category]; done) | rfl
def Q_rm_val_false (Z : State) (mb li : Addr) (LN : List Value) (p1 : Nat) (cz : Int32) (Ts : List String) (cs : Int32) (fo : Value) (bo : Addr) (h0 : Heap) (n0 : Nat) (v : Option Value) (h : Heap) (L : List Loc) : Prop := v = some (.ref bo) ∧ Fr n0 L ∧ ∃ h1, Ext h0 h1 ∧ Wr h1 h mb (Jvm.RoadKit.slotOf Z "com/example/upright_play/uprightplay/event/Members" "pos" "I") (.int (Int32.ofNat (p1 + 5)))
set_option maxRecDepth 65536 in
set_option maxHeartbeats 40000000 in
theorem rm_val_false (l : Launch) (Z : State) (a0 : Array Value) (hw : ∀ d ∈ tables_1, d.before a0 Z = true) (ws : List Jvm.Cond) (mb li : Addr) (LN : List Value) (p1 : Nat) (cz : Int32) (Ts : List String) (cs : Int32) (fo : Value) (bo : Addr) (h0 : Heap) (n0 : Nat) (Zn : n0 ≤ h0.size) (E_mb : Exa Z h0 mb "com/example/upright_play/uprightplay/event/Members") (F_pos : Fld Z h0 mb "com/example/upright_play/uprightplay/event/Members" "pos" "I" (.int (Int32.ofNat p1))) (F_len : Fld Z h0 mb "com/example/upright_play/uprightplay/event/Members" "length" "I" (.int (23 : Int32))) (F_line : Fld Z h0 mb "com/example/upright_play/uprightplay/event/Members" "line" "[C" (.ref li)) (A_li : OwnA Z h0 li .char LN) (o_mb : n0 ≤ mb) (ne_mb_li : mb ≠ li) (hp : p1 + 5 < 23) (hl0 : LN[p1 + 0]? = some (.int (102 : Int32))) (hl1 : LN[p1 + 1]? = some (.int (97 : Int32))) (hl2 : LN[p1 + 2]? = some (.int (108 : Int32))) (hl3 : LN[p1 + 3]? = some (.int (115 : Int32))) (hl4 : LN[p1 + 4]? = some (.int (101 : Int32))) (hc : LN[p1 + 5]? = some (.int cz)) (hz : cz = 32 ∨ cz = 44 ∨ cz = 125) (O : Old Z n0 h0) (SS : own_st Z cs fo bo) (HC : ∀ t, Jvm.Lit.constHeld Z "com/example/upright_play/uprightplay/event/Members" (own_ix t)) (HW : Jvm.Lit.compactW.before a0 Z = true) :
    MetFree l (⟨"com/example/upright_play/uprightplay/event/Members", "readValue", "(I)Lcom/example/upright_play/uprightplay/event/Members$Type;"⟩ : MethodName) (head1 (Jvm.Cond.code (⟨"com/example/upright_play/uprightplay/event/Members", "readValue", "(I)Lcom/example/upright_play/uprightplay/event/Members$Type;"⟩ : MethodName) prog_95_method_14_code 4 (some (.object "com/example/upright_play/uprightplay/event/Members$Type")) :: ws) ({ frames := 5, cells := 2, slots := 24, locals := 110 } : Room)) (fun a U => a = #[(.ref mb), (.int (1 : Int32))] ∧ Z.Warmed39 U.vm ∧ U.heap = h0 ∧ own_tab Z U.vm h0 Ts) (fun _ _ _ _ _ => True) (fun _ U o U' => ∃ v L, o = .returned v ∧ (Q_rm_val_false Z mb li LN p1 cz Ts cs fo bo h0 n0) v U'.heap L ∧ own_tab Z U'.vm U'.heap ("false" :: Ts) ∧ ReturnedEndW U o U' L ({ frames := 5, cells := 2, slots := 24, locals := 110 } : Room).cells ({ frames := 5, cells := 2, slots := 24, locals := 110 } : Room).slots) := by
  sorry
theorem ef_rm_val (m : MethodId) (x0 : Addr) (x1 : Int32) : entryFrame m #[(.ref x0), (.int x1)] 4 = mkF m 0 #[.val (.ref x0), .val (.int x1), .unset, .unset] [] := by first | (simp [entryFrame, mkF, argsToLocals, Value.category]; done) | rfl
def Q_rm_val (Z : State) (mb li : Addr) (LN : List Value) (p1 q1 : Nat) (t : String) (Ts : List String) (cs : Int32) (fo : Value) (bo : Addr) (h0 : Heap) (n0 : Nat) (v : Option Value) (h : Heap) (L : List Loc) : Prop := v = some (.ref bo) ∧ Fr n0 L ∧ ∃ h1, Ext h0 h1 ∧ Wr h1 h mb (Jvm.RoadKit.slotOf Z "com/example/upright_play/uprightplay/event/Members" "pos" "I") (.int (Int32.ofNat q1))
set_option maxRecDepth 65536 in
set_option maxHeartbeats 40000000 in
theorem rm_val (l : Launch) (Z : State) (a0 : Array Value) (hw : ∀ d ∈ tables_1, d.before a0 Z = true) (ws : List Jvm.Cond) (mb li : Addr) (LN : List Value) (p1 q1 : Nat) (t : String) (Ts : List String) (cs : Int32) (fo : Value) (bo : Addr) (h0 : Heap) (n0 : Nat) (Zn : n0 ≤ h0.size) (E_mb : Exa Z h0 mb "com/example/upright_play/uprightplay/event/Members") (F_pos : Fld Z h0 mb "com/example/upright_play/uprightplay/event/Members" "pos" "I" (.int (Int32.ofNat p1))) (F_len : Fld Z h0 mb "com/example/upright_play/uprightplay/event/Members" "length" "I" (.int (23 : Int32))) (F_line : Fld Z h0 mb "com/example/upright_play/uprightplay/event/Members" "line" "[C" (.ref li)) (A_li : OwnA Z h0 li .char LN) (o_mb : n0 ≤ mb) (ne_mb_li : mb ≠ li) (hwd : own_wd LN p1 q1 t) (O : Old Z n0 h0) (SS : own_st Z cs fo bo) (HC : ∀ t, Jvm.Lit.constHeld Z "com/example/upright_play/uprightplay/event/Members" (own_ix t)) (HW : Jvm.Lit.compactW.before a0 Z = true) :
    MetFree l (⟨"com/example/upright_play/uprightplay/event/Members", "readValue", "(I)Lcom/example/upright_play/uprightplay/event/Members$Type;"⟩ : MethodName) (head1 (Jvm.Cond.code (⟨"com/example/upright_play/uprightplay/event/Members", "readValue", "(I)Lcom/example/upright_play/uprightplay/event/Members$Type;"⟩ : MethodName) prog_95_method_14_code 4 (some (.object "com/example/upright_play/uprightplay/event/Members$Type")) :: ws) ({ frames := 5, cells := 2, slots := 24, locals := 110 } : Room)) (fun a U => a = #[(.ref mb), (.int (1 : Int32))] ∧ Z.Warmed39 U.vm ∧ U.heap = h0 ∧ own_tab Z U.vm h0 Ts) (fun _ _ _ _ _ => True) (fun _ U o U' => ∃ v L, o = .returned v ∧ (Q_rm_val Z mb li LN p1 q1 t Ts cs fo bo h0 n0) v U'.heap L ∧ own_tab Z U'.vm U'.heap (t :: Ts) ∧ ReturnedEndW U o U' L ({ frames := 5, cells := 2, slots := 24, locals := 110 } : Room).cells ({ frames := 5, cells := 2, slots := 24, locals := 110 } : Room).slots) := by
  obtain ⟨h1, h2, ⟨cz, h3, h4⟩, ⟨rfl, rfl, l0, l1, l2, l3⟩ | ⟨rfl, rfl, l0, l1, l2, l3, l4⟩⟩ := hwd
  · exact rm_val_true l Z a0 hw ws mb li LN p1 cz Ts cs fo bo h0 n0 Zn E_mb F_pos F_len F_line A_li o_mb ne_mb_li h2 l0 l1 l2 l3 h3 h4 O SS HC HW
  · exact rm_val_false l Z a0 hw ws mb li LN p1 cz Ts cs fo bo h0 n0 Zn E_mb F_pos F_len F_line A_li o_mb ne_mb_li h2 l0 l1 l2 l3 l4 h3 h4 O SS HC HW
/-- the line: its signs, and where the words stand -/
def own_line (LN : List Value) (c1 c2 p1 q1 p2 q2 : Nat) (t1 t2 : String) : Prop := LN[0]? = some (.int (123 : Int32)) ∧ LN[1]? = some (.int (34 : Int32)) ∧ LN[2]? = some (.int (Int32.ofNat c1)) ∧ LN[3]? = some (.int (34 : Int32)) ∧ LN[4]? = some (.int (58 : Int32)) ∧ own_ws LN 5 p1 ∧ own_wd LN p1 q1 t1 ∧ own_ws LN q1 11 ∧ LN[11]? = some (.int (44 : Int32)) ∧ LN[12]? = some (.int (34 : Int32)) ∧ LN[13]? = some (.int (Int32.ofNat c2)) ∧ LN[14]? = some (.int (34 : Int32)) ∧ LN[15]? = some (.int (58 : Int32)) ∧ own_ws LN 16 p2 ∧ own_wd LN p2 q2 t2 ∧ own_ws LN q2 22 ∧ LN[22]? = some (.int (125 : Int32)) ∧ own_nc c1 ∧ own_nc c2 ∧ c1 ≠ c2
theorem own_ws0 {LN : List Value} {i : Nat} {c : Int32} (hi : i < 23) (h : LN[i]? = some (.int c)) (hc : own_w c = 0) : own_ws LN i i := ⟨Nat.le_refl _, by omega, fun j h1 h2 => by omega, fun _ => ⟨c, h, hc⟩⟩
theorem own_ws1 {LN : List Value} : own_ws LN 23 23 := ⟨Nat.le_refl _, Nat.le_refl _, fun j h1 h2 => by omega, fun q => by omega⟩
theorem pn_10 : plainName "com/example/upright_play/uprightplay/event/Members" = true := by first | (simp [plainName, overriddenIn]; done) | decide +kernel
theorem ef_rm_readC (m : MethodId) (x0 : Addr) (x1 : Int32) (x2 : Int32) : entryFrame m #[(.ref x0), (.int x1), (.int x2)] 9 = mkF m 0 #[.val (.ref x0), .val (.int x1), .val (.int x2), .unset, .unset, .unset, .unset, .unset, .unset] [] := by first | (simp [entryFrame, mkF, argsToLocals, Value.category]; done) | rfl
def Q_rm_readC (Z : State) (mb li : Addr) (D : Nat → Addr) (LN : List Value) (c1 c2 p1 q1 p2 q2 : Nat) (t1 t2 : String) (cs : Int32) (fo : Value) (bo : Addr) (h0 : Heap) (n0 : Nat) (v : Option Value) (h : Heap) (L : List Loc) : Prop := v = none ∧ Fr n0 L ∧ Keep h0 h (mb :: [D 0, D 1, D 2, D 3, D 4, D 5, D 6, D 7, D 8, D 9]) ∧ OwnM Z h mb D (own_V2 c1 c2 (Int32.ofNat p1) (Int32.ofNat q1) (Int32.ofNat p2) (Int32.ofNat q2) bo) (.ref li) 23 1 2 ∧ Fld Z h mb "com/example/upright_play/uprightplay/event/Members" "pos" "I" (.int (23 : Int32))
theorem pd__28I_29Lcom_2fexample_2fupright_5fplay_2fuprightplay_2fevent_2fMembers_24Type_3b : parseMethodDescriptor "(I)Lcom/example/upright_play/uprightplay/event/Members$Type;" = some ⟨[.int], some (.object "com/example/upright_play/uprightplay/event/Members$Type")⟩ := by decide +kernel
theorem pd__28IIZLcom_2fexample_2fupright_5fplay_2fuprightplay_2fevent_2fMembers_24Type_3bI_29V : parseMethodDescriptor "(IIZLcom/example/upright_play/uprightplay/event/Members$Type;I)V" = some ⟨[.int, .int, .boolean, (.object "com/example/upright_play/uprightplay/event/Members$Type"), .int], none⟩ := by decide +kernel
set_option maxRecDepth 65536 in
set_option maxHeartbeats 40000000 in
theorem rm_readC (l : Launch) (Z : State) (a0 : Array Value) (hw : ∀ d ∈ tables_1, d.before a0 Z = true) (ws : List Jvm.Cond) (mb li : Addr) (D : Nat → Addr) (LN : List Value) (c1 c2 p1 q1 p2 q2 : Nat) (t1 t2 : String) (cs : Int32) (fo : Value) (bo : Addr) (h0 : Heap) (n0 : Nat) (Zn : n0 ≤ h0.size) (M : OwnM Z h0 mb D own_V0 (.ref li) 23 1 0) (DI : own_di n0 mb li D) (A_li : OwnA Z h0 li .char LN) (F_pos : Fld Z h0 mb "com/example/upright_play/uprightplay/event/Members" "pos" "I" (.int (0 : Int32))) (HL : own_line LN c1 c2 p1 q1 p2 q2 t1 t2) (O : Old Z n0 h0) (SS : own_st Z cs fo bo) (HC : ∀ t, Jvm.Lit.constHeld Z "com/example/upright_play/uprightplay/event/Members" (own_ix t)) (HW : Jvm.Lit.compactW.before a0 Z = true) :
    MetFree l (⟨"com/example/upright_play/uprightplay/event/Members", "readContainer", "(IC)V"⟩ : MethodName) (head1 (Jvm.Cond.code (⟨"com/example/upright_play/uprightplay/event/Members", "readContainer", "(IC)V"⟩ : MethodName) prog_95_method_13_code 9 none :: ws) ({ frames := 6, cells := 4, slots := 48, locals := 140 } : Room)) (fun a U => a = #[(.ref mb), (.int (1 : Int32)), (.int (125 : Int32))] ∧ Z.Warmed39 U.vm ∧ U.heap = h0 ∧ own_tab Z U.vm h0 []) (fun _ _ _ _ _ => True) (fun _ U o U' => ∃ v L, o = .returned v ∧ (Q_rm_readC Z mb li D LN c1 c2 p1 q1 p2 q2 t1 t2 cs fo bo h0 n0) v U'.heap L ∧ own_tab Z U'.vm U'.heap [t2, t1] ∧ ReturnedEndW U o U' L ({ frames := 6, cells := 4, slots := 48, locals := 140 } : Room).cells ({ frames := 6, cells := 4, slots := 48, locals := 140 } : Room).slots) := by
  sorry
theorem pn_6 : plainName "com/example/upright_play/uprightplay/event/Members" = true := by first | (simp [plainName, overriddenIn]; done) | decide +kernel
theorem ef_rm_read (m : MethodId) (x0 : Addr) (x1 : Addr) (x2 : Int32) (x3 : Int64) : entryFrame m #[(.ref x0), (.ref x1), (.int x2), (.long x3)] 5 = mkF m 0 #[.val (.ref x0), .val (.ref x1), .val (.int x2), .val (.long x3), .second] [] := by first | (simp [entryFrame, mkF, argsToLocals, Value.category]; done) | rfl
def Q_rm_read (Z : State) (mb li : Addr) (D : Nat → Addr) (LN : List Value) (c1 c2 p1 q1 p2 q2 : Nat) (t1 t2 : String) (cs : Int32) (fo : Value) (bo : Addr) (h0 : Heap) (n0 : Nat) (v : Option Value) (h : Heap) (L : List Loc) : Prop := v = none ∧ Fr n0 L ∧ Keep h0 h (mb :: [D 0, D 1, D 2, D 3, D 4, D 5, D 6, D 7, D 8, D 9]) ∧ OwnM Z h mb D (own_V2 c1 c2 (Int32.ofNat p1) (Int32.ofNat q1) (Int32.ofNat p2) (Int32.ofNat q2) bo) (.ref li) 23 1 2
theorem pd__28IC_29V : parseMethodDescriptor "(IC)V" = some ⟨[.int, .char], none⟩ := by decide +kernel
set_option maxRecDepth 65536 in
set_option maxHeartbeats 40000000 in
theorem rm_read (l : Launch) (Z : State) (a0 : Array Value) (hw : ∀ d ∈ tables_1, d.before a0 Z = true) (ws : List Jvm.Cond) (mb li : Addr) (D : Nat → Addr) (LN : List Value) (c1 c2 p1 q1 p2 q2 : Nat) (t1 t2 : String) (cs : Int32) (fo : Value) (bo : Addr) (h0 : Heap) (n0 : Nat) (Zn : n0 ≤ h0.size) (M : OwnM Z h0 mb D own_V0 .null 0 0 0) (DI : own_di n0 mb li D) (A_li : OwnA Z h0 li .char LN) (F_pos : Fld Z h0 mb "com/example/upright_play/uprightplay/event/Members" "pos" "I" (.int (0 : Int32))) (HL : own_line LN c1 c2 p1 q1 p2 q2 t1 t2) (O : Old Z n0 h0) (SS : own_st Z cs fo bo) (HC : ∀ t, Jvm.Lit.constHeld Z "com/example/upright_play/uprightplay/event/Members" (own_ix t)) (HW : Jvm.Lit.compactW.before a0 Z = true) :
    MetFree l (⟨"com/example/upright_play/uprightplay/event/Members", "read", "([CIJ)V"⟩ : MethodName) (head1 (Jvm.Cond.code (⟨"com/example/upright_play/uprightplay/event/Members", "read", "([CIJ)V"⟩ : MethodName) prog_95_method_2_code 5 none :: ws) ({ frames := 7, cells := 4, slots := 48, locals := 165 } : Room)) (fun a U => a = #[(.ref mb), (.ref li), (.int (23 : Int32)), (.long (1 : Int64))] ∧ Z.Warmed39 U.vm ∧ U.heap = h0 ∧ own_tab Z U.vm h0 []) (fun _ _ _ _ _ => True) (fun _ U o U' => ∃ v L, o = .returned v ∧ (Q_rm_read Z mb li D LN c1 c2 p1 q1 p2 q2 t1 t2 cs fo bo h0 n0) v U'.heap L ∧ own_tab Z U'.vm U'.heap [t2, t1] ∧ ReturnedEndW U o U' L ({ frames := 7, cells := 4, slots := 48, locals := 165 } : Room).cells ({ frames := 7, cells := 4, slots := 48, locals := 165 } : Room).slots) := by
  sorry
def own_pv (f g : Int32) : List Int32 := if f = 0 then [102, 97, 108, 115, 101] else if g = 0 then [116, 114, 117, 101, 32] else [32, 116, 114, 117, 101]
theorem pn_3 : plainName "com/example/upright_play/uprightplay/event/MembersBoolPinLaw" = true := by first | (simp [plainName, overriddenIn]; done) | decide +kernel
theorem ef_rm_put6 (m : MethodId) (x0 : Addr) (x1 : Int32) (x2 : Int32) (x3 : Int32) : entryFrame m #[(.ref x0), (.int x1), (.int x2), (.int x3)] 4 = mkF m 0 #[.val (.ref x0), .val (.int x1), .val (.int x2), .val (.int x3)] [] := by first | (simp [entryFrame, mkF, argsToLocals, Value.category]; done) | rfl
def Q_rm_put6 (Z : State) (li : Addr) (f1 g1 : Int32) (vs : List Value) (h0 : Heap) (n0 : Nat) (v : Option Value) (h : Heap) (L : List Loc) : Prop := v = none ∧ Fr n0 L ∧ Keep h0 h [li] ∧ OwnA Z h li .char (((((vs.set 6 (.int ((own_pv f1 g1).getD 0 0))).set 7 (.int ((own_pv f1 g1).getD 1 0))).set 8 (.int ((own_pv f1 g1).getD 2 0))).set 9 (.int ((own_pv f1 g1).getD 3 0))).set 10 (.int ((own_pv f1 g1).getD 4 0)))
set_option maxRecDepth 65536 in
set_option maxHeartbeats 40000000 in
theorem rm_put6 (l : Launch) (Z : State) (a0 : Array Value) (hw : ∀ d ∈ tables_1, d.before a0 Z = true) (ws : List Jvm.Cond) (li : Addr) (f1 g1 : Int32) (vs : List Value) (h0 : Heap) (n0 : Nat) (Zn : n0 ≤ h0.size) (A_li : OwnA Z h0 li .char vs) (hl : vs.length = 23) (o_li : n0 ≤ li) :
    MetFree l (⟨"com/example/upright_play/uprightplay/event/MembersBoolPinLaw", "putValue", "([CIZZ)V"⟩ : MethodName) (head1 (Jvm.Cond.code (⟨"com/example/upright_play/uprightplay/event/MembersBoolPinLaw", "putValue", "([CIZZ)V"⟩ : MethodName) method_4_code 4 none :: ws) ({ frames := 0, cells := 0, slots := 0, locals := 0 } : Room)) (fun a U => a = #[(.ref li), (.int (6 : Int32)), (.int f1), (.int g1)] ∧ Z.Warmed39 U.vm ∧ U.heap = h0) (fun _ _ _ _ _ => True) (fun _ U o U' => ∃ v L, o = .returned v ∧ (Q_rm_put6 Z li f1 g1 vs h0 n0) v U'.heap L ∧ FrameEnd U o U' L ({ frames := 0, cells := 0, slots := 0, locals := 0 } : Room).cells ({ frames := 0, cells := 0, slots := 0, locals := 0 } : Room).slots) := by
  sorry
theorem ef_rm_put17 (m : MethodId) (x0 : Addr) (x1 : Int32) (x2 : Int32) (x3 : Int32) : entryFrame m #[(.ref x0), (.int x1), (.int x2), (.int x3)] 4 = mkF m 0 #[.val (.ref x0), .val (.int x1), .val (.int x2), .val (.int x3)] [] := by first | (simp [entryFrame, mkF, argsToLocals, Value.category]; done) | rfl
def Q_rm_put17 (Z : State) (li : Addr) (f1 g1 : Int32) (vs : List Value) (h0 : Heap) (n0 : Nat) (v : Option Value) (h : Heap) (L : List Loc) : Prop := v = none ∧ Fr n0 L ∧ Keep h0 h [li] ∧ OwnA Z h li .char (((((vs.set 17 (.int ((own_pv f1 g1).getD 0 0))).set 18 (.int ((own_pv f1 g1).getD 1 0))).set 19 (.int ((own_pv f1 g1).getD 2 0))).set 20 (.int ((own_pv f1 g1).getD 3 0))).set 21 (.int ((own_pv f1 g1).getD 4 0)))
set_option maxRecDepth 65536 in
set_option maxHeartbeats 40000000 in
theorem rm_put17 (l : Launch) (Z : State) (a0 : Array Value) (hw : ∀ d ∈ tables_1, d.before a0 Z = true) (ws : List Jvm.Cond) (li : Addr) (f1 g1 : Int32) (vs : List Value) (h0 : Heap) (n0 : Nat) (Zn : n0 ≤ h0.size) (A_li : OwnA Z h0 li .char vs) (hl : vs.length = 23) (o_li : n0 ≤ li) :
    MetFree l (⟨"com/example/upright_play/uprightplay/event/MembersBoolPinLaw", "putValue", "([CIZZ)V"⟩ : MethodName) (head1 (Jvm.Cond.code (⟨"com/example/upright_play/uprightplay/event/MembersBoolPinLaw", "putValue", "([CIZZ)V"⟩ : MethodName) method_4_code 4 none :: ws) ({ frames := 0, cells := 0, slots := 0, locals := 0 } : Room)) (fun a U => a = #[(.ref li), (.int (17 : Int32)), (.int f1), (.int g1)] ∧ Z.Warmed39 U.vm ∧ U.heap = h0) (fun _ _ _ _ _ => True) (fun _ U o U' => ∃ v L, o = .returned v ∧ (Q_rm_put17 Z li f1 g1 vs h0 n0) v U'.heap L ∧ FrameEnd U o U' L ({ frames := 0, cells := 0, slots := 0, locals := 0 } : Room).cells ({ frames := 0, cells := 0, slots := 0, locals := 0 } : Room).slots) := by
  sorry
theorem own_half {LN : List Value} {b : Nat} {bl f g d : Int32} (hb : b ≤ 12) (hbl : own_w bl = 1) (hf : f = 0 ∨ f = 1) (h4 : LN[b + 4]? = some (.int bl)) (h5 : LN[b + 5]? = some (.int ((own_pv f g).getD 0 0))) (h6 : LN[b + 6]? = some (.int ((own_pv f g).getD 1 0))) (h7 : LN[b + 7]? = some (.int ((own_pv f g).getD 2 0))) (h8 : LN[b + 8]? = some (.int ((own_pv f g).getD 3 0))) (h9 : LN[b + 9]? = some (.int ((own_pv f g).getD 4 0))) (h10 : LN[b + 10]? = some (.int d)) (hd : d = 44 ∨ d = 125) :
    ∃ p q t, own_ws LN (b + 4) p ∧ own_wd LN p q t ∧ own_ws LN q (b + 10) ∧ p < 23 ∧ ∃ z : Int32, LN[p]? = some (.int z) ∧ own_t z = f := by
  have hd0 : own_w d = 0 := by rcases hd with rfl | rfl <;> decide
  have hdd : d = 32 ∨ d = 44 ∨ d = 125 := Or.inr hd
  by_cases g0 : f = 0
  · have e1 : own_pv f g = [102, 97, 108, 115, 101] := by rw [own_pv, if_pos g0]
    rw [e1] at h5 h6 h7 h8 h9
    refine ⟨b + 5, b + 10, "false", ⟨by omega, by omega, fun i h1 h2 => ?_, fun _ => ⟨_, h5, by decide⟩⟩, ⟨by omega, by omega, ⟨d, h10, hdd⟩, Or.inr ⟨rfl, rfl, h5, h6, h7, h8, h9⟩⟩, ⟨by omega, by omega, fun i h1 h2 => by omega, fun _ => ⟨d, h10, hd0⟩⟩, by omega, _, h5, by rw [g0]; decide⟩
    obtain rfl : i = b + 4 := by omega
    exact ⟨_, h4, hbl⟩
  · have f1 : f = 1 := hf.resolve_left g0
    by_cases g2 : g = 0
    · have e1 : own_pv f g = [116, 114, 117, 101, 32] := by rw [own_pv, if_neg g0, if_pos g2]
      rw [e1] at h5 h6 h7 h8 h9
      refine ⟨b + 5, b + 9, "true", ⟨by omega, by omega, fun i h1 h2 => ?_, fun _ => ⟨_, h5, by decide⟩⟩, ⟨by omega, by omega, ⟨32, h9, Or.inl rfl⟩, Or.inl ⟨rfl, rfl, h5, h6, h7, h8⟩⟩, ⟨by omega, by omega, fun i h1 h2 => ?_, fun _ => ⟨d, h10, hd0⟩⟩, by omega, _, h5, by rw [f1]; decide⟩
      · obtain rfl : i = b + 4 := by omega
        exact ⟨_, h4, hbl⟩
      · obtain rfl : i = b + 9 := by omega
        exact ⟨_, h9, by decide⟩
    · have e1 : own_pv f g = [32, 116, 114, 117, 101] := by rw [own_pv, if_neg g0, if_neg g2]
      rw [e1] at h5 h6 h7 h8 h9
      refine ⟨b + 6, b + 10, "true", ⟨by omega, by omega, fun i h1 h2 => ?_, fun _ => ⟨_, h6, by decide⟩⟩, ⟨by omega, by omega, ⟨d, h10, hdd⟩, Or.inl ⟨rfl, rfl, h6, h7, h8, h9⟩⟩, ⟨by omega, by omega, fun i h1 h2 => by omega, fun _ => ⟨d, h10, hd0⟩⟩, by omega, _, h6, by rw [f1]; decide⟩
      have hi : i = b + 4 ∨ i = b + 5 := by omega
      rcases hi with rfl | rfl
      · exact ⟨_, h4, hbl⟩
      · exact ⟨_, h5, by decide⟩
theorem own_sub {mb li sa : Addr} {D : Nat → Addr} (q : ∀ y ∈ (mb :: li :: [D 0, D 1, D 2, D 3, D 4, D 5, D 6, D 7, D 8, D 9] : List Addr), y ≠ sa) : ∀ y ∈ (mb :: [D 0, D 1, D 2, D 3, D 4, D 5, D 6, D 7, D 8, D 9] : List Addr), y ∉ [sa] := fun y hy => ninS (q y ((List.mem_cons.mp hy).elim (fun e => e ▸ List.mem_cons_self ..) fun r => List.mem_cons_of_mem _ (List.mem_cons_of_mem _ r))) nin0
theorem own_nes {Z : State} {h : Heap} {a0 : Array Value} {mb li sa sb : Addr} {D : Nat → Addr} {V : Nat → List Value} {lv : Value} {len cnt : Int32} {lnr : Int64} {LN bs : List Value} (w : (Cond.instantiable "java/lang/String" 4).before a0 Z = true) (M : OwnM Z h mb D V lv len lnr cnt) (A : OwnA Z h li .char LN) (S : own_str Z h sa sb bs) : ∀ y ∈ (mb :: li :: [D 0, D 1, D 2, D 3, D 4, D 5, D 6, D 7, D 8, D 9] : List Addr), y ≠ sa := by
  obtain ⟨E, F0, F1, F2, F3, F4, F5, F6, F7, F8, F9, F10, F11, F12, F13, F14, F15, F16, A0, A1, A2, A3, A4, A5, A6, A7, A8, A9⟩ := M
  exact allS (Ne.symm (Exa.ne S.1 E (by decide))) (allS (own_strne0 w S.1 A) (allS (own_strne0 w S.1 A0) (allS (own_strne0 w S.1 A1) (allS (own_strne0 w S.1 A2) (allS (own_strne0 w S.1 A3.toA) (allS (own_strne0 w S.1 A4.toA) (allS (own_strne0 w S.1 A5) (allS (own_strne0 w S.1 A6) (allS (own_strne0 w S.1 A7) (allS (own_strne0 w S.1 A8) (allS (own_strne0 w S.1 A9) all0)))))))))))
section OwnLaw
variable {p : Program} {l : Launch} {e : Env} {R : Room} {s : State} {m : MethodId} {args : Array Value} {below : List Frame} {meth : Method} {c : Code} {T : State} {locs : List Loc} {cells slots : Nat} {h : Heap} {vm0 : Vm}
def own_finL (p : Program) (e : Env) (below : List Frame) (s : State) (cl sl : Nat) (Q : Option Value → Heap → List Loc → Prop) (S : State) : Prop :=
  ∃ s₂ o, Steps p.tables e below S s₂ ∧ s₂.status = .running ∧ Ended s₂ below o ∧ ∃ v L, o = .returned v ∧ Q v s₂.heap L ∧ ReturnedEndW s o s₂ L cl sl
theorem own_byL {cl sl : Nat} {Q : Option Value → Heap → List Loc → Prop} {S S' : State} (st : ∀ target, Steps p.tables e below S' target → Steps p.tables e below S target) (k : own_finL p e below s cl sl Q S') : own_finL p e below s cl sl Q S := by
  obtain ⟨s2, o, h1, h2⟩ := k
  exact ⟨s2, o, st _ h1, h2⟩
theorem own_trL {cl sl : Nat} {Q : Option Value → Heap → List Loc → Prop} {S S' : State} (st : Steps p.tables e below S S') (k : own_finL p e below s cl sl Q S') : own_finL p e below s cl sl Q S := by
  obtain ⟨s2, o, h1, h2⟩ := k
  exact ⟨s2, o, st.trans h1, h2⟩
theorem own_startL {cl sl : Nat} {Q : Option Value → Heap → List Loc → Prop} {s₁ : State} {mx : Nat} {g : JFrame} (q : entryFrame m args mx = g) (k : own_finL p e below s cl sl Q (s₁.setTop g)) :
    ∃ s₂ o, Steps p.tables e below (s₁.setTop (entryFrame m args mx)) s₂ ∧ s₂.status = .running ∧ Ended s₂ below o ∧ ∃ v L, o = .returned v ∧ Q v s₂.heap L ∧ ReturnedEndW s o s₂ L cl sl := by
  rw [q]; exact k
theorem own_retL (X : Stand p l e R (s.setVm vm0) m args below meth c T locs cells slots) (hx : p.tables.exec = Jvm.exec) {k0 : Nat} (hS : s.Since vm0 k0) (eT : T.heap = h) (hk : k0 ≤ h.size) {cl sl : Nat} {Q : Option Value → Heap → List Loc → Prop} {pc : Nat} {Ls : Array Slot} {w : Value} {t : FieldType} {i : Instr} {rest : List Value} (hret : meth.sig.returnType = some t) (hn : narrow t w = w)
    (hi : (i = .ireturn ∧ (t = .int ∨ t = .boolean ∨ t = .byte ∨ t = .char ∨ t = .short) ∧ ∃ z, w = .int z) ∨ (i = .lreturn ∧ t = .long ∧ ∃ z, w = .long z) ∨ (i = .dreturn ∧ t = .double ∧ ∃ z, w = .double z) ∨ (i = .freturn ∧ t = .float ∧ ∃ z, w = .float z) ∨ (i = .areturn ∧ t.isReference = true ∧ w.isRef = true))
    (hd : decode c.code pc = .ok (i, 1)) (hlk : meth.locks = false) (hc : cells ≤ cl) (hs : slots ≤ sl) (q : Q (some w) h locs) : own_finL p e below s cl sl Q (T.setTop (mkF m pc Ls (w :: rest))) := by
  subst eT
  obtain ⟨fs, hr, hrun, hended, h1, h2, h3, h4⟩ := X.leaveW hS hk (v := some w) (fun h => by rw [hret] at h; cases h) hlk
  exact ⟨_, _, retOut X hx hret hn hi hd hr, hrun, hended, _, _, rfl, q, h1, h2, h3, h4.mono hc hs⟩
end OwnLaw
theorem pn_0 : plainName "com/example/upright_play/uprightplay/event/MembersBoolPinLaw" = true := by first | (simp [plainName, overriddenIn]; done) | decide +kernel
theorem ef_rm0 (m : MethodId) (x0 : Int32) (x1 : Int32) (x2 : Int32) (x3 : Int32) : entryFrame m #[(.int x0), (.int x1), (.int x2), (.int x3)] maxLocals = mkF m 0 #[.val (.int x0), .val (.int x1), .val (.int x2), .val (.int x3), .unset, .unset, .unset, .unset, .unset, .unset, .unset, .unset, .unset, .unset] [] := by first | (simp [entryFrame, mkF, argsToLocals, Value.category, maxLocals]; done) | rfl
def Q_rm0 (Z : State) (n1 n2 fg bk : Int32) (cs : Int32) (fo : Value) (bo : Addr) (h0 : Heap) (n0 : Nat) (v : Option Value) (h : Heap) (L : List Loc) : Prop := v = some (.int (1 : Int32)) ∧ Fr n0 L
theorem pd__28_5bCIZZ_29V : parseMethodDescriptor "([CIZZ)V" = some ⟨[(.array .char), .int, .boolean, .boolean], none⟩ := by decide +kernel
theorem pd__28_5bCIJ_29V : parseMethodDescriptor "([CIJ)V" = some ⟨[(.array .char), .int, .long], none⟩ := by decide +kernel
theorem pd__28C_29Ljava_2flang_2fString_3b : parseMethodDescriptor "(C)Ljava/lang/String;" = some ⟨[.char], some (.object "java/lang/String")⟩ := by decide +kernel
theorem pd__28Ljava_2flang_2fString_3b_29I : parseMethodDescriptor "(Ljava/lang/String;)I" = some ⟨[(.object "java/lang/String")], some .int⟩ := by decide +kernel
theorem pd__28I_29Z : parseMethodDescriptor "(I)Z" = some ⟨[.int], some .boolean⟩ := by decide +kernel
set_option maxRecDepth 65536 in
set_option maxHeartbeats 40000000 in
theorem rm0 (l : Launch) (Z : State) (a0 : Array Value) (hw : ∀ d ∈ tables_1, d.before a0 Z = true) (ws : List Jvm.Cond) (n1 n2 fg bk : Int32) (cs : Int32) (fo : Value) (bo : Addr) (h0 : Heap) (n0 : Nat) (Zn : n0 ≤ h0.size) (O : Old Z n0 h0) (SS : own_st Z cs fo bo) (HC : ∀ t, Jvm.Lit.constHeld Z "com/example/upright_play/uprightplay/event/Members" (own_ix t)) (HW : Jvm.Lit.compactW.before a0 Z = true) :
    MetFree l x (head1 (Jvm.Cond.code x code maxLocals ret :: ws) room_1) (fun a U => a = #[(.int n1), (.int n2), (.int fg), (.int bk)] ∧ Z.Warmed39 U.vm ∧ U.heap = h0 ∧ own_tab Z U.vm h0 []) (fun _ _ _ _ _ => True) (fun _ U o U' => ∃ v L, o = .returned v ∧ (Q_rm0 Z n1 n2 fg bk cs fo bo h0 n0) v U'.heap L ∧ ReturnedEndW U o U' L room_1.cells room_1.slots) := by
  refine MetFree.of_bodySF (plainFor_of_name pn_0) hisR ?_
  intro p e s m args below meth c s₁ Bd hml0 hP hK
  obtain ⟨rfl, hZ, hh, TB⟩ := hP
  have hx := Bd.exec
  have hby := Bd.bytes
  have hml : c.maxLocals = 14 := hml0
  have hown : s.vm.findClass "com/example/upright_play/uprightplay/event/MembersBoolPinLaw" = some m.cls := findClass_of_methodNamed Bd.named
  have hnm := (name_of_methodNamed Bd.named Bd.method).1
  have hlk : meth.locks = false := BodyLoose.notSynchronized Bd
  have X0 : Stand p l e room_1 (s.setVm s.vm) m #[(.int n1), (.int n2), (.int fg), (.int bk)] below meth c s₁ [] 0 0 := Stand.of_body Bd
  have e0 : s₁.heap = h0 := by rw [← hh, Bd.state]; rfl
  have N := Fr.nil n0
  have K := Keep.refl h0 []
  have hS := own_since0 s
  have hk : 0 ≤ h0.size := Nat.zero_le _
  refine own_startL (cl := room_1.cells) (sl := room_1.slots) (Q := (Q_rm0 Z n1 n2 fg bk cs fo bo h0 n0)) (ef_rm0 m n1 n2 fg bk) ?_
  obtain ⟨SC, hcs, SF, hfo, SB, EB⟩ := SS
  refine own_byL (S' := (s₁.setTop (mkF m 3 #[.val (.int n1), .val (.int n2), .val (.int fg), .val (.int bk), .unset, .unset, .unset, .unset, .unset, .unset, .unset, .unset, .unset, .unset] [(.int (fg &&& (1 : Int32)))]))) (fun _ k => XS.iloadN X0.here hx rfl (hb hby at_0) rfl (XS.iconst X0.here hx rfl (hb hby at_1) (XS.iand X0.here hx rfl (hb hby at_2) rfl k))) ?_
  suffices J487 : ∀ (f1 : Int32), f1 = 0 ∨ f1 = 1 → own_finL p e below s room_1.cells room_1.slots (Q_rm0 Z n1 n2 fg bk cs fo bo h0 n0) (s₁.setTop (mkF m 11 #[.val (.int n1), .val (.int n2), .val (.int fg), .val (.int bk), .unset, .unset, .unset, .unset, .unset, .unset, .unset, .unset, .unset, .unset] [(.int f1)])) by
    by_cases hc488 : (fg &&& (1 : Int32)) = (0 : Int32)
    · refine own_byL (S' := (s₁.setTop (mkF m 11 #[.val (.int n1), .val (.int n2), .val (.int fg), .val (.int bk), .unset, .unset, .unset, .unset, .unset, .unset, .unset, .unset, .unset, .unset] [(.int (0 : Int32))]))) (fun _ k => XS.ifYes X0.here hx rfl (pc0 := 3) (pc' := 10) rfl (hb hby at_3) rfl ((if0 _ _).trans (teq (hc488 : (fg &&& (1 : Int32)) = (0 : Int32))).1) (by decide) (by decide) (XS.iconst X0.here hx rfl (hb hby at_10) k)) ?_
      exact J487 _ (by decide)
    · refine own_byL (S' := (s₁.setTop (mkF m 11 #[.val (.int n1), .val (.int n2), .val (.int fg), .val (.int bk), .unset, .unset, .unset, .unset, .unset, .unset, .unset, .unset, .unset, .unset] [(.int (1 : Int32))]))) (fun _ k => XS.ifNo X0.here hx rfl (hb hby at_3) rfl ((if0 _ _).trans (feq (hc488 : ¬ ((fg &&& (1 : Int32)) = (0 : Int32)))).1) (XS.iconst X0.here hx rfl (hb hby at_6) (XS.goto X0.here hx rfl (pc0 := 7) (pc' := 11) rfl (hb hby at_7) (by decide) (by decide) k))) ?_
      exact J487 _ (by decide)
  intro f1 hf1
  refine own_byL (S' := (s₁.setTop (mkF m 16 #[.val (.int n1), .val (.int n2), .val (.int fg), .val (.int bk), .val (.int f1), .unset, .unset, .unset, .unset, .unset, .unset, .unset, .unset, .unset] [(.int (fg &&& (2 : Int32)))]))) (fun _ k => XS.istore X0.here hx rfl (hb hby at_11) rfl (l' := #[.val (.int n1), .val (.int n2), .val (.int fg), .val (.int bk), .val (.int f1), .unset, .unset, .unset, .unset, .unset, .unset, .unset, .unset, .unset]) rfl (XS.iloadN X0.here hx rfl (hb hby at_13) rfl (XS.iconst X0.here hx rfl (hb hby at_14) (XS.iand X0.here hx rfl (hb hby at_15) rfl k)))) ?_
  suffices J489 : ∀ (f2 : Int32), f2 = 0 ∨ f2 = 1 → own_finL p e below s room_1.cells room_1.slots (Q_rm0 Z n1 n2 fg bk cs fo bo h0 n0) (s₁.setTop (mkF m 24 #[.val (.int n1), .val (.int n2), .val (.int fg), .val (.int bk), .val (.int f1), .unset, .unset, .unset, .unset, .unset, .unset, .unset, .unset, .unset] [(.int f2)])) by
    by_cases hc490 : (fg &&& (2 : Int32)) = (0 : Int32)
    · refine own_byL (S' := (s₁.setTop (mkF m 24 #[.val (.int n1), .val (.int n2), .val (.int fg), .val (.int bk), .val (.int f1), .unset, .unset, .unset, .unset, .unset, .unset, .unset, .unset, .unset] [(.int (0 : Int32))]))) (fun _ k => XS.ifYes X0.here hx rfl (pc0 := 16) (pc' := 23) rfl (hb hby at_16) rfl ((if0 _ _).trans (teq (hc490 : (fg &&& (2 : Int32)) = (0 : Int32))).1) (by decide) (by decide) (XS.iconst X0.here hx rfl (hb hby at_23) k)) ?_
      exact J489 _ (by decide)
    · refine own_byL (S' := (s₁.setTop (mkF m 24 #[.val (.int n1), .val (.int n2), .val (.int fg), .val (.int bk), .val (.int f1), .unset, .unset, .unset, .unset, .unset, .unset, .unset, .unset, .unset] [(.int (1 : Int32))]))) (fun _ k => XS.ifNo X0.here hx rfl (hb hby at_16) rfl ((if0 _ _).trans (feq (hc490 : ¬ ((fg &&& (2 : Int32)) = (0 : Int32)))).1) (XS.iconst X0.here hx rfl (hb hby at_19) (XS.goto X0.here hx rfl (pc0 := 20) (pc' := 24) rfl (hb hby at_20) (by decide) (by decide) k))) ?_
      exact J489 _ (by decide)
  intro f2 hf2
  refine own_byL (S' := (s₁.setTop (mkF m 29 #[.val (.int n1), .val (.int n2), .val (.int fg), .val (.int bk), .val (.int f1), .val (.int f2), .unset, .unset, .unset, .unset, .unset, .unset, .unset, .unset] [(.int (fg &&& (4 : Int32)))]))) (fun _ k => XS.istore X0.here hx rfl (hb hby at_24) rfl (l' := #[.val (.int n1), .val (.int n2), .val (.int fg), .val (.int bk), .val (.int f1), .val (.int f2), .unset, .unset, .unset, .unset, .unset, .unset, .unset, .unset]) rfl (XS.iloadN X0.here hx rfl (hb hby at_26) rfl (XS.iconst X0.here hx rfl (hb hby at_27) (XS.iand X0.here hx rfl (hb hby at_28) rfl k)))) ?_
  suffices J491 : ∀ (g1 : Int32), g1 = 0 ∨ g1 = 1 → own_finL p e below s room_1.cells room_1.slots (Q_rm0 Z n1 n2 fg bk cs fo bo h0 n0) (s₁.setTop (mkF m 37 #[.val (.int n1), .val (.int n2), .val (.int fg), .val (.int bk), .val (.int f1), .val (.int f2), .unset, .unset, .unset, .unset, .unset, .unset, .unset, .unset] [(.int g1)])) by
    by_cases hc492 : (fg &&& (4 : Int32)) = (0 : Int32)
    · refine own_byL (S' := (s₁.setTop (mkF m 37 #[.val (.int n1), .val (.int n2), .val (.int fg), .val (.int bk), .val (.int f1), .val (.int f2), .unset, .unset, .unset, .unset, .unset, .unset, .unset, .unset] [(.int (0 : Int32))]))) (fun _ k => XS.ifYes X0.here hx rfl (pc0 := 29) (pc' := 36) rfl (hb hby at_29) rfl ((if0 _ _).trans (teq (hc492 : (fg &&& (4 : Int32)) = (0 : Int32))).1) (by decide) (by decide) (XS.iconst X0.here hx rfl (hb hby at_36) k)) ?_
      exact J491 _ (by decide)
    · refine own_byL (S' := (s₁.setTop (mkF m 37 #[.val (.int n1), .val (.int n2), .val (.int fg), .val (.int bk), .val (.int f1), .val (.int f2), .unset, .unset, .unset, .unset, .unset, .unset, .unset, .unset] [(.int (1 : Int32))]))) (fun _ k => XS.ifNo X0.here hx rfl (hb hby at_29) rfl ((if0 _ _).trans (feq (hc492 : ¬ ((fg &&& (4 : Int32)) = (0 : Int32)))).1) (XS.iconst X0.here hx rfl (hb hby at_32) (XS.goto X0.here hx rfl (pc0 := 33) (pc' := 37) rfl (hb hby at_33) (by decide) (by decide) k))) ?_
      exact J491 _ (by decide)
  intro g1 hg1
  refine own_byL (S' := (s₁.setTop (mkF m 43 #[.val (.int n1), .val (.int n2), .val (.int fg), .val (.int bk), .val (.int f1), .val (.int f2), .val (.int g1), .unset, .unset, .unset, .unset, .unset, .unset, .unset] [(.int (fg &&& (8 : Int32)))]))) (fun _ k => XS.istore X0.here hx rfl (hb hby at_37) rfl (l' := #[.val (.int n1), .val (.int n2), .val (.int fg), .val (.int bk), .val (.int f1), .val (.int f2), .val (.int g1), .unset, .unset, .unset, .unset, .unset, .unset, .unset]) rfl (XS.iloadN X0.here hx rfl (hb hby at_39) rfl (XS.bipush X0.here hx rfl (hb hby at_40) (XS.iand X0.here hx rfl (hb hby at_42) rfl k)))) ?_
  suffices J493 : ∀ (g2 : Int32), g2 = 0 ∨ g2 = 1 → own_finL p e below s room_1.cells room_1.slots (Q_rm0 Z n1 n2 fg bk cs fo bo h0 n0) (s₁.setTop (mkF m 51 #[.val (.int n1), .val (.int n2), .val (.int fg), .val (.int bk), .val (.int f1), .val (.int f2), .val (.int g1), .unset, .unset, .unset, .unset, .unset, .unset, .unset] [(.int g2)])) by
    by_cases hc494 : (fg &&& (8 : Int32)) = (0 : Int32)
    · refine own_byL (S' := (s₁.setTop (mkF m 51 #[.val (.int n1), .val (.int n2), .val (.int fg), .val (.int bk), .val (.int f1), .val (.int f2), .val (.int g1), .unset, .unset, .unset, .unset, .unset, .unset, .unset] [(.int (0 : Int32))]))) (fun _ k => XS.ifYes X0.here hx rfl (pc0 := 43) (pc' := 50) rfl (hb hby at_43) rfl ((if0 _ _).trans (teq (hc494 : (fg &&& (8 : Int32)) = (0 : Int32))).1) (by decide) (by decide) (XS.iconst X0.here hx rfl (hb hby at_50) k)) ?_
      exact J493 _ (by decide)
    · refine own_byL (S' := (s₁.setTop (mkF m 51 #[.val (.int n1), .val (.int n2), .val (.int fg), .val (.int bk), .val (.int f1), .val (.int f2), .val (.int g1), .unset, .unset, .unset, .unset, .unset, .unset, .unset] [(.int (1 : Int32))]))) (fun _ k => XS.ifNo X0.here hx rfl (hb hby at_43) rfl ((if0 _ _).trans (feq (hc494 : ¬ ((fg &&& (8 : Int32)) = (0 : Int32)))).1) (XS.iconst X0.here hx rfl (hb hby at_46) (XS.goto X0.here hx rfl (pc0 := 47) (pc' := 51) rfl (hb hby at_47) (by decide) (by decide) k))) ?_
      exact J493 _ (by decide)
  intro g2 hg2
  refine own_byL (S' := (s₁.setTop (mkF m 54 #[.val (.int n1), .val (.int n2), .val (.int fg), .val (.int bk), .val (.int f1), .val (.int f2), .val (.int g1), .val (.int g2), .unset, .unset, .unset, .unset, .unset, .unset] []))) (fun _ k => XS.istore X0.here hx rfl (hb hby at_51) rfl (l' := #[.val (.int n1), .val (.int n2), .val (.int fg), .val (.int bk), .val (.int f1), .val (.int f2), .val (.int g1), .val (.int g2), .unset, .unset, .unset, .unset, .unset, .unset]) rfl (XS.iloadN X0.here hx rfl (hb hby at_53) rfl k)) ?_
  obtain ⟨_, _, ⟨T495, L495, k495, n495⟩, -, X495, ⟨Lc495, hQ495, l495, y495, z495⟩, st495⟩ := Jvm.LawKit.callS X0 hx (y := (⟨"com/example/upright_play/uprightplay/event/MembersBoolPinLaw", "nameChar", "(I)C"⟩ : MethodName)) hown (mvT hZ (hw _ (List.mem_of_getElem? (i := 0) rfl))) (mvT hZ (hw _ (List.mem_of_getElem? (i := 1) rfl))) (mvT hZ (hw _ (List.mem_of_getElem? (i := 2) rfl))) (mvT hZ (hw _ (List.mem_of_getElem? (i := 3) rfl))) (by decide) (backOf (W := 0) (rm_nameChar l Z a0 hw [] n1 h0 n0 Zn) hZ (hw _ (List.mem_of_getElem? (i := 3) rfl)) (hw _ (List.mem_of_getElem? (i := 2) rfl)) (by decide) (by decide)) (g := (mkF m 54 #[.val (.int n1), .val (.int n2), .val (.int fg), .val (.int bk), .val (.int f1), .val (.int f2), .val (.int g1), .val (.int g2), .unset, .unset, .unset, .unset, .unset, .unset] [(.int n1)])) rfl (by rw [hml]; rfl) (argsL := [(.int n1)]) (rest := []) (lenOf pd__28I_29C rfl) rfl (by show 2 * 0 + _ ≤ _; exact Nat.le_of_eq rfl) (hb hby at_54) (fun _ _ => ⟨rfl, e0, (by decide : 0 + 0 ≤ _), (by decide : 0 + 0 ≤ _)⟩)
  dsimp only [Pt.U, Pt.locs, Pt.cells, Pt.slots] at X495 l495 y495 z495 st495 hQ495
  have X495 := own_recast X495 l495 y495 z495
  obtain ⟨c1, rfl, N495q, eh1, hk1⟩ := hQ495
  have N := Fr.app N N495q
  refine own_byL (S' := (T495.setTop (mkF m 57 #[.val (.int n1), .val (.int n2), .val (.int fg), .val (.int bk), .val (.int f1), .val (.int f2), .val (.int g1), .val (.int g2), .unset, .unset, .unset, .unset, .unset, .unset] [(.int (Int32.ofNat c1))]))) st495 ?_
  refine own_byL (S' := (T495.setTop (mkF m 60 #[.val (.int n1), .val (.int n2), .val (.int fg), .val (.int bk), .val (.int f1), .val (.int f2), .val (.int g1), .val (.int g2), .val (.int (Int32.ofNat c1)), .unset, .unset, .unset, .unset, .unset] []))) (fun _ k => XS.istore X495.here hx rfl (hb hby at_57) rfl (l' := #[.val (.int n1), .val (.int n2), .val (.int fg), .val (.int bk), .val (.int f1), .val (.int f2), .val (.int g1), .val (.int g2), .val (.int (Int32.ofNat c1)), .unset, .unset, .unset, .unset, .unset]) rfl (XS.iloadN X495.here hx rfl (hb hby at_59) rfl k)) ?_
  obtain ⟨_, _, ⟨T496, L496, k496, n496⟩, -, X496, ⟨Lc496, hQ496, l496, y496, z496⟩, st496⟩ := Jvm.LawKit.callS X495 hx (y := (⟨"com/example/upright_play/uprightplay/event/MembersBoolPinLaw", "nameChar", "(I)C"⟩ : MethodName)) hown (mvT hZ (hw _ (List.mem_of_getElem? (i := 0) rfl))) (mvT hZ (hw _ (List.mem_of_getElem? (i := 1) rfl))) (mvT hZ (hw _ (List.mem_of_getElem? (i := 2) rfl))) (mvT hZ (hw _ (List.mem_of_getElem? (i := 3) rfl))) (by decide) (backOf (W := 0) (rm_nameChar l Z a0 hw [] n2 h0 n0 Zn) hZ (hw _ (List.mem_of_getElem? (i := 3) rfl)) (hw _ (List.mem_of_getElem? (i := 2) rfl)) (by decide) (by decide)) (g := (mkF m 60 #[.val (.int n1), .val (.int n2), .val (.int fg), .val (.int bk), .val (.int f1), .val (.int f2), .val (.int g1), .val (.int g2), .val (.int (Int32.ofNat c1)), .unset, .unset, .unset, .unset, .unset] [(.int n2)])) rfl (by rw [hml]; rfl) (argsL := [(.int n2)]) (rest := []) (lenOf pd__28I_29C rfl) rfl (by show 2 * 0 + _ ≤ _; exact Nat.le_of_eq rfl) (hb hby at_60) (fun _ _ => ⟨rfl, eh1, (by decide : 0 + 0 ≤ _), (by decide : 0 + 0 ≤ _)⟩)
  dsimp only [Pt.U, Pt.locs, Pt.cells, Pt.slots] at X496 l496 y496 z496 st496 hQ496
  have X496 := own_recast X496 l496 y496 z496
  obtain ⟨cz, rfl, N496q, eh2, hkz⟩ := hQ496
  have N := Fr.app N N496q
  refine own_byL (S' := (T496.setTop (mkF m 63 #[.val (.int n1), .val (.int n2), .val (.int fg), .val (.int bk), .val (.int f1), .val (.int f2), .val (.int g1), .val (.int g2), .val (.int (Int32.ofNat c1)), .unset, .unset, .unset, .unset, .unset] [(.int (Int32.ofNat cz))]))) st496 ?_
  refine own_byL (S' := (T496.setTop (mkF m 69 #[.val (.int n1), .val (.int n2), .val (.int fg), .val (.int bk), .val (.int f1), .val (.int f2), .val (.int g1), .val (.int g2), .val (.int (Int32.ofNat c1)), .val (.int (Int32.ofNat cz)), .unset, .unset, .unset, .unset] [(.int (Int32.ofNat c1)), (.int (Int32.ofNat cz))]))) (fun _ k => XS.istore X496.here hx rfl (hb hby at_63) rfl (l' := #[.val (.int n1), .val (.int n2), .val (.int fg), .val (.int bk), .val (.int f1), .val (.int f2), .val (.int g1), .val (.int g2), .val (.int (Int32.ofNat c1)), .val (.int (Int32.ofNat cz)), .unset, .unset, .unset, .unset]) rfl (XS.iload X496.here hx rfl (hb hby at_65) rfl (XS.iload X496.here hx rfl (hb hby at_67) rfl k))) ?_
  suffices J497 : ∀ (c2 : Nat), own_nc c2 → c1 ≠ c2 → own_finL p e below s room_1.cells room_1.slots (Q_rm0 Z n1 n2 fg bk cs fo bo h0 n0) (T496.setTop (mkF m 88 #[.val (.int n1), .val (.int n2), .val (.int fg), .val (.int bk), .val (.int f1), .val (.int f2), .val (.int g1), .val (.int g2), .val (.int (Int32.ofNat c1)), .val (.int (Int32.ofNat c2)), .unset, .unset, .unset, .unset] [])) by
    by_cases ge : (Int32.ofNat cz) = (Int32.ofNat c1)
    · refine own_byL (S' := (T496.setTop (mkF m 76 #[.val (.int n1), .val (.int n2), .val (.int fg), .val (.int bk), .val (.int f1), .val (.int f2), .val (.int g1), .val (.int g2), .val (.int (Int32.ofNat c1)), .val (.int (Int32.ofNat cz)), .unset, .unset, .unset, .unset] [(.int (97 : Int32)), (.int (Int32.ofNat c1))]))) (fun _ k => XS.icmpNo X496.here hx rfl (hb hby at_69) rfl (teq (ge : (Int32.ofNat cz) = (Int32.ofNat c1))).2 (XS.iload X496.here hx rfl (hb hby at_72) rfl (XS.bipush X496.here hx rfl (hb hby at_74) k))) ?_
      by_cases g97 : (Int32.ofNat c1) = (97 : Int32)
      · refine own_byL (S' := (T496.setTop (mkF m 88 #[.val (.int n1), .val (.int n2), .val (.int fg), .val (.int bk), .val (.int f1), .val (.int f2), .val (.int g1), .val (.int g2), .val (.int (Int32.ofNat c1)), .val (.int (98 : Int32)), .unset, .unset, .unset, .unset] []))) (fun _ k => XS.icmpNo X496.here hx rfl (hb hby at_76) rfl (teq (g97 : (Int32.ofNat c1) = (97 : Int32))).2 (XS.bipush X496.here hx rfl (hb hby at_79) (XS.goto X496.here hx rfl (pc0 := 81) (pc' := 86) rfl (hb hby at_81) (by decide) (by decide) (XS.istore X496.here hx rfl (hb hby at_86) rfl (l' := #[.val (.int n1), .val (.int n2), .val (.int fg), .val (.int bk), .val (.int f1), .val (.int f2), .val (.int g1), .val (.int g2), .val (.int (Int32.ofNat c1)), .val (.int (98 : Int32)), .unset, .unset, .unset, .unset]) rfl k)))) ?_
        exact J497 98 (by unfold own_nc; decide) (fun q => absurd (show Int32.ofNat 98 = (97 : Int32) from q ▸ g97) (by decide))
      · refine own_byL (S' := (T496.setTop (mkF m 88 #[.val (.int n1), .val (.int n2), .val (.int fg), .val (.int bk), .val (.int f1), .val (.int f2), .val (.int g1), .val (.int g2), .val (.int (Int32.ofNat c1)), .val (.int (97 : Int32)), .unset, .unset, .unset, .unset] []))) (fun _ k => XS.icmpYes X496.here hx rfl (pc0 := 76) (pc' := 84) rfl (hb hby at_76) rfl (feq (g97 : ¬ ((Int32.ofNat c1) = (97 : Int32)))).2 (by decide) (by decide) (XS.bipush X496.here hx rfl (hb hby at_84) (XS.istore X496.here hx rfl (hb hby at_86) rfl (l' := #[.val (.int n1), .val (.int n2), .val (.int fg), .val (.int bk), .val (.int f1), .val (.int f2), .val (.int g1), .val (.int g2), .val (.int (Int32.ofNat c1)), .val (.int (97 : Int32)), .unset, .unset, .unset, .unset]) rfl k))) ?_
        exact J497 97 (by unfold own_nc; decide) (fun q => g97 (by rw [q]; rfl))
    · refine own_byL (S' := (T496.setTop (mkF m 88 #[.val (.int n1), .val (.int n2), .val (.int fg), .val (.int bk), .val (.int f1), .val (.int f2), .val (.int g1), .val (.int g2), .val (.int (Int32.ofNat c1)), .val (.int (Int32.ofNat cz)), .unset, .unset, .unset, .unset] []))) (fun _ k => XS.icmpYes X496.here hx rfl (pc0 := 69) (pc' := 88) rfl (hb hby at_69) rfl (feq (ge : ¬ ((Int32.ofNat cz) = (Int32.ofNat c1)))).2 (by decide) (by decide) k) ?_
      exact J497 cz hkz (fun q => ge (by rw [q]))
  intro c2 hk2 h12
  refine own_byL (S' := (T496.setTop (mkF m 90 #[.val (.int n1), .val (.int n2), .val (.int fg), .val (.int bk), .val (.int f1), .val (.int f2), .val (.int g1), .val (.int g2), .val (.int (Int32.ofNat c1)), .val (.int (Int32.ofNat c2)), .unset, .unset, .unset, .unset] []))) (fun _ k => XS.bipush X496.here hx rfl (hb hby at_88) k) ?_
  obtain ⟨T498, h498, k498, X498, e498, E498, A498, st498⟩ := newP X496 hx hZ (hw _ (List.mem_of_getElem? (i := 5) rfl)) eh2 (g := (mkF m 90 #[.val (.int n1), .val (.int n2), .val (.int fg), .val (.int bk), .val (.int f1), .val (.int f2), .val (.int g1), .val (.int g2), .val (.int (Int32.ofNat c1)), .val (.int (Int32.ofNat c2)), .unset, .unset, .unset, .unset] [(.int (23 : Int32))])) rfl (hb hby at_90) rfl (by decide) (cap := 23) (by decide) (by decide) (by decide : 0 + 1 ≤ _) (by decide : 0 + 23 ≤ _)
  obtain ⟨li, g498⟩ : ∃ z, z = h0.size := ⟨_, rfl⟩
  rw [← g498] at A498 st498
  have o498 : n0 ≤ li := Nat.le_trans Zn (Nat.le_of_eq g498.symm)
  have z498 : h0.size ≤ li := Nat.le_trans K.1 (Nat.le_of_eq g498.symm)
  have TB := own_tab_ext TB E498
  have O := O.ext E498
  have hk := Nat.le_trans hk E498.1
  have Zn := Nat.le_trans Zn E498.1
  have K := K.ext E498
  have A_li : OwnA Z h498 li .char [.int (0 : Int32), .int (0 : Int32), .int (0 : Int32), .int (0 : Int32), .int (0 : Int32), .int (0 : Int32), .int (0 : Int32), .int (0 : Int32), .int (0 : Int32), .int (0 : Int32), .int (0 : Int32), .int (0 : Int32), .int (0 : Int32), .int (0 : Int32), .int (0 : Int32), .int (0 : Int32), .int (0 : Int32), .int (0 : Int32), .int (0 : Int32), .int (0 : Int32), .int (0 : Int32), .int (0 : Int32), .int (0 : Int32)] := own_new A498 rfl
  refine own_byL (S' := (T498.setTop (mkF m 92 #[.val (.int n1), .val (.int n2), .val (.int fg), .val (.int bk), .val (.int f1), .val (.int f2), .val (.int g1), .val (.int g2), .val (.int (Int32.ofNat c1)), .val (.int (Int32.ofNat c2)), .unset, .unset, .unset, .unset] [(.ref li)]))) st498 ?_
  refine own_byL (S' := (T498.setTop (mkF m 99 #[.val (.int n1), .val (.int n2), .val (.int fg), .val (.int bk), .val (.int f1), .val (.int f2), .val (.int g1), .val (.int g2), .val (.int (Int32.ofNat c1)), .val (.int (Int32.ofNat c2)), .val (.ref li), .unset, .unset, .unset] []))) (fun _ k => XS.astore X498.here hx rfl (hb hby at_92) rfl rfl (l' := #[.val (.int n1), .val (.int n2), .val (.int fg), .val (.int bk), .val (.int f1), .val (.int f2), .val (.int g1), .val (.int g2), .val (.int (Int32.ofNat c1)), .val (.int (Int32.ofNat c2)), .val (.ref li), .unset, .unset, .unset]) rfl (XS.aload X498.here hx rfl (hb hby at_94) rfl rfl (XS.iconst X498.here hx rfl (hb hby at_96) (XS.bipush X498.here hx rfl (hb hby at_97) k)))) ?_
  obtain ⟨T499, h499, X499, e499, W499, st499⟩ := own_stC X498 hx hZ e498 A_li (j := (0 : Int32)) (by decide) (Nat.le_of_ble_eq_true rfl) (g := (mkF m 99 #[.val (.int n1), .val (.int n2), .val (.int fg), .val (.int bk), .val (.int f1), .val (.int f2), .val (.int g1), .val (.int g2), .val (.int (Int32.ofNat c1)), .val (.int (Int32.ofNat c2)), .val (.ref li), .unset, .unset, .unset] [(.int (123 : Int32)), (.int (0 : Int32)), (.ref li)])) rfl rfl (hb hby at_99)
  have N := Fr.snoc X499 N o498
  have TB := own_tab_wr TB W499 (own_forA (hw _ (List.mem_of_getElem? (i := 98) rfl)) A_li (Nat.le_of_ble_eq_true rfl))
  have hk := Nat.le_trans hk (Nat.le_of_eq W499.size.symm)
  have O := O.wr W499 o498
  have A_li := A_li.set W499
  have Zn : n0 ≤ _ := Nat.le_trans Zn (Nat.le_of_eq W499.size.symm)
  have K := K.wr W499 (Or.inr z498)
  have A_li : OwnA Z h499 li .char [(.int (123 : Int32)), .int (0 : Int32), .int (0 : Int32), .int (0 : Int32), .int (0 : Int32), .int (0 : Int32), .int (0 : Int32), .int (0 : Int32), .int (0 : Int32), .int (0 : Int32), .int (0 : Int32), .int (0 : Int32), .int (0 : Int32), .int (0 : Int32), .int (0 : Int32), .int (0 : Int32), .int (0 : Int32), .int (0 : Int32), .int (0 : Int32), .int (0 : Int32), .int (0 : Int32), .int (0 : Int32), .int (0 : Int32)] := (by have q := A_li; rw [show (123 : Int32).toUInt32.toUInt16.toUInt32.toInt32 = (123 : Int32) from (by decide)] at q; exact q)
  refine own_byL (S' := (T499.setTop (mkF m 100 #[.val (.int n1), .val (.int n2), .val (.int fg), .val (.int bk), .val (.int f1), .val (.int f2), .val (.int g1), .val (.int g2), .val (.int (Int32.ofNat c1)), .val (.int (Int32.ofNat c2)), .val (.ref li), .unset, .unset, .unset] []))) st499 ?_
  refine own_byL (S' := (T499.setTop (mkF m 105 #[.val (.int n1), .val (.int n2), .val (.int fg), .val (.int bk), .val (.int f1), .val (.int f2), .val (.int g1), .val (.int g2), .val (.int (Int32.ofNat c1)), .val (.int (Int32.ofNat c2)), .val (.ref li), .unset, .unset, .unset] []))) (fun _ k => XS.aload X499.here hx rfl (hb hby at_100) rfl rfl (XS.iconst X499.here hx rfl (hb hby at_102) (XS.bipush X499.here hx rfl (hb hby at_103) k))) ?_
  obtain ⟨T500, h500, X500, e500, W500, st500⟩ := own_stC X499 hx hZ e499 A_li (j := (1 : Int32)) (by decide) (Nat.le_of_ble_eq_true rfl) (g := (mkF m 105 #[.val (.int n1), .val (.int n2), .val (.int fg), .val (.int bk), .val (.int f1), .val (.int f2), .val (.int g1), .val (.int g2), .val (.int (Int32.ofNat c1)), .val (.int (Int32.ofNat c2)), .val (.ref li), .unset, .unset, .unset] [(.int (34 : Int32)), (.int (1 : Int32)), (.ref li)])) rfl rfl (hb hby at_105)
  have N := Fr.snoc X500 N o498
  have TB := own_tab_wr TB W500 (own_forA (hw _ (List.mem_of_getElem? (i := 98) rfl)) A_li (Nat.le_of_ble_eq_true rfl))
  have hk := Nat.le_trans hk (Nat.le_of_eq W500.size.symm)
  have O := O.wr W500 o498
  have A_li := A_li.set W500
  have Zn : n0 ≤ _ := Nat.le_trans Zn (Nat.le_of_eq W500.size.symm)
  have K := K.wr W500 (Or.inr z498)
  have A_li : OwnA Z h500 li .char [(.int (123 : Int32)), (.int (34 : Int32)), .int (0 : Int32), .int (0 : Int32), .int (0 : Int32), .int (0 : Int32), .int (0 : Int32), .int (0 : Int32), .int (0 : Int32), .int (0 : Int32), .int (0 : Int32), .int (0 : Int32), .int (0 : Int32), .int (0 : Int32), .int (0 : Int32), .int (0 : Int32), .int (0 : Int32), .int (0 : Int32), .int (0 : Int32), .int (0 : Int32), .int (0 : Int32), .int (0 : Int32), .int (0 : Int32)] := (by have q := A_li; rw [show (34 : Int32).toUInt32.toUInt16.toUInt32.toInt32 = (34 : Int32) from (by decide)] at q; exact q)
  refine own_byL (S' := (T500.setTop (mkF m 106 #[.val (.int n1), .val (.int n2), .val (.int fg), .val (.int bk), .val (.int f1), .val (.int f2), .val (.int g1), .val (.int g2), .val (.int (Int32.ofNat c1)), .val (.int (Int32.ofNat c2)), .val (.ref li), .unset, .unset, .unset] []))) st500 ?_
  refine own_byL (S' := (T500.setTop (mkF m 111 #[.val (.int n1), .val (.int n2), .val (.int fg), .val (.int bk), .val (.int f1), .val (.int f2), .val (.int g1), .val (.int g2), .val (.int (Int32.ofNat c1)), .val (.int (Int32.ofNat c2)), .val (.ref li), .unset, .unset, .unset] []))) (fun _ k => XS.aload X500.here hx rfl (hb hby at_106) rfl rfl (XS.iconst X500.here hx rfl (hb hby at_108) (XS.iload X500.here hx rfl (hb hby at_109) rfl k))) ?_
  obtain ⟨T501, h501, X501, e501, W501, st501⟩ := own_stC X500 hx hZ e500 A_li (j := (2 : Int32)) (by decide) (Nat.le_of_ble_eq_true rfl) (g := (mkF m 111 #[.val (.int n1), .val (.int n2), .val (.int fg), .val (.int bk), .val (.int f1), .val (.int f2), .val (.int g1), .val (.int g2), .val (.int (Int32.ofNat c1)), .val (.int (Int32.ofNat c2)), .val (.ref li), .unset, .unset, .unset] [(.int (Int32.ofNat c1)), (.int (2 : Int32)), (.ref li)])) rfl rfl (hb hby at_111)
  have N := Fr.snoc X501 N o498
  have TB := own_tab_wr TB W501 (own_forA (hw _ (List.mem_of_getElem? (i := 98) rfl)) A_li (Nat.le_of_ble_eq_true rfl))
  have hk := Nat.le_trans hk (Nat.le_of_eq W501.size.symm)
  have O := O.wr W501 o498
  have A_li := A_li.set W501
  have Zn : n0 ≤ _ := Nat.le_trans Zn (Nat.le_of_eq W501.size.symm)
  have K := K.wr W501 (Or.inr z498)
  have A_li : OwnA Z h501 li .char [(.int (123 : Int32)), (.int (34 : Int32)), (.int (Int32.ofNat c1)), .int (0 : Int32), .int (0 : Int32), .int (0 : Int32), .int (0 : Int32), .int (0 : Int32), .int (0 : Int32), .int (0 : Int32), .int (0 : Int32), .int (0 : Int32), .int (0 : Int32), .int (0 : Int32), .int (0 : Int32), .int (0 : Int32), .int (0 : Int32), .int (0 : Int32), .int (0 : Int32), .int (0 : Int32), .int (0 : Int32), .int (0 : Int32), .int (0 : Int32)] := (by have q := A_li; rw [show (Int32.ofNat c1).toUInt32.toUInt16.toUInt32.toInt32 = (Int32.ofNat c1) from own_c16 _ hk1.2.1] at q; exact q)
  refine own_byL (S' := (T501.setTop (mkF m 112 #[.val (.int n1), .val (.int n2), .val (.int fg), .val (.int bk), .val (.int f1), .val (.int f2), .val (.int g1), .val (.int g2), .val (.int (Int32.ofNat c1)), .val (.int (Int32.ofNat c2)), .val (.ref li), .unset, .unset, .unset] []))) st501 ?_
  refine own_byL (S' := (T501.setTop (mkF m 117 #[.val (.int n1), .val (.int n2), .val (.int fg), .val (.int bk), .val (.int f1), .val (.int f2), .val (.int g1), .val (.int g2), .val (.int (Int32.ofNat c1)), .val (.int (Int32.ofNat c2)), .val (.ref li), .unset, .unset, .unset] []))) (fun _ k => XS.aload X501.here hx rfl (hb hby at_112) rfl rfl (XS.iconst X501.here hx rfl (hb hby at_114) (XS.bipush X501.here hx rfl (hb hby at_115) k))) ?_
  obtain ⟨T502, h502, X502, e502, W502, st502⟩ := own_stC X501 hx hZ e501 A_li (j := (3 : Int32)) (by decide) (Nat.le_of_ble_eq_true rfl) (g := (mkF m 117 #[.val (.int n1), .val (.int n2), .val (.int fg), .val (.int bk), .val (.int f1), .val (.int f2), .val (.int g1), .val (.int g2), .val (.int (Int32.ofNat c1)), .val (.int (Int32.ofNat c2)), .val (.ref li), .unset, .unset, .unset] [(.int (34 : Int32)), (.int (3 : Int32)), (.ref li)])) rfl rfl (hb hby at_117)
  have N := Fr.snoc X502 N o498
  have TB := own_tab_wr TB W502 (own_forA (hw _ (List.mem_of_getElem? (i := 98) rfl)) A_li (Nat.le_of_ble_eq_true rfl))
  have hk := Nat.le_trans hk (Nat.le_of_eq W502.size.symm)
  have O := O.wr W502 o498
  have A_li := A_li.set W502
  have Zn : n0 ≤ _ := Nat.le_trans Zn (Nat.le_of_eq W502.size.symm)
  have K := K.wr W502 (Or.inr z498)
  have A_li : OwnA Z h502 li .char [(.int (123 : Int32)), (.int (34 : Int32)), (.int (Int32.ofNat c1)), (.int (34 : Int32)), .int (0 : Int32), .int (0 : Int32), .int (0 : Int32), .int (0 : Int32), .int (0 : Int32), .int (0 : Int32), .int (0 : Int32), .int (0 : Int32), .int (0 : Int32), .int (0 : Int32), .int (0 : Int32), .int (0 : Int32), .int (0 : Int32), .int (0 : Int32), .int (0 : Int32), .int (0 : Int32), .int (0 : Int32), .int (0 : Int32), .int (0 : Int32)] := (by have q := A_li; rw [show (34 : Int32).toUInt32.toUInt16.toUInt32.toInt32 = (34 : Int32) from (by decide)] at q; exact q)
  refine own_byL (S' := (T502.setTop (mkF m 118 #[.val (.int n1), .val (.int n2), .val (.int fg), .val (.int bk), .val (.int f1), .val (.int f2), .val (.int g1), .val (.int g2), .val (.int (Int32.ofNat c1)), .val (.int (Int32.ofNat c2)), .val (.ref li), .unset, .unset, .unset] []))) st502 ?_
  refine own_byL (S' := (T502.setTop (mkF m 123 #[.val (.int n1), .val (.int n2), .val (.int fg), .val (.int bk), .val (.int f1), .val (.int f2), .val (.int g1), .val (.int g2), .val (.int (Int32.ofNat c1)), .val (.int (Int32.ofNat c2)), .val (.ref li), .unset, .unset, .unset] []))) (fun _ k => XS.aload X502.here hx rfl (hb hby at_118) rfl rfl (XS.iconst X502.here hx rfl (hb hby at_120) (XS.bipush X502.here hx rfl (hb hby at_121) k))) ?_
  obtain ⟨T503, h503, X503, e503, W503, st503⟩ := own_stC X502 hx hZ e502 A_li (j := (4 : Int32)) (by decide) (Nat.le_of_ble_eq_true rfl) (g := (mkF m 123 #[.val (.int n1), .val (.int n2), .val (.int fg), .val (.int bk), .val (.int f1), .val (.int f2), .val (.int g1), .val (.int g2), .val (.int (Int32.ofNat c1)), .val (.int (Int32.ofNat c2)), .val (.ref li), .unset, .unset, .unset] [(.int (58 : Int32)), (.int (4 : Int32)), (.ref li)])) rfl rfl (hb hby at_123)
  have N := Fr.snoc X503 N o498
  have TB := own_tab_wr TB W503 (own_forA (hw _ (List.mem_of_getElem? (i := 98) rfl)) A_li (Nat.le_of_ble_eq_true rfl))
  have hk := Nat.le_trans hk (Nat.le_of_eq W503.size.symm)
  have O := O.wr W503 o498
  have A_li := A_li.set W503
  have Zn : n0 ≤ _ := Nat.le_trans Zn (Nat.le_of_eq W503.size.symm)
  have K := K.wr W503 (Or.inr z498)
  have A_li : OwnA Z h503 li .char [(.int (123 : Int32)), (.int (34 : Int32)), (.int (Int32.ofNat c1)), (.int (34 : Int32)), (.int (58 : Int32)), .int (0 : Int32), .int (0 : Int32), .int (0 : Int32), .int (0 : Int32), .int (0 : Int32), .int (0 : Int32), .int (0 : Int32), .int (0 : Int32), .int (0 : Int32), .int (0 : Int32), .int (0 : Int32), .int (0 : Int32), .int (0 : Int32), .int (0 : Int32), .int (0 : Int32), .int (0 : Int32), .int (0 : Int32), .int (0 : Int32)] := (by have q := A_li; rw [show (58 : Int32).toUInt32.toUInt16.toUInt32.toInt32 = (58 : Int32) from (by decide)] at q; exact q)
  refine own_byL (S' := (T503.setTop (mkF m 124 #[.val (.int n1), .val (.int n2), .val (.int fg), .val (.int bk), .val (.int f1), .val (.int f2), .val (.int g1), .val (.int g2), .val (.int (Int32.ofNat c1)), .val (.int (Int32.ofNat c2)), .val (.ref li), .unset, .unset, .unset] []))) st503 ?_
  refine own_byL (S' := (T503.setTop (mkF m 128 #[.val (.int n1), .val (.int n2), .val (.int fg), .val (.int bk), .val (.int f1), .val (.int f2), .val (.int g1), .val (.int g2), .val (.int (Int32.ofNat c1)), .val (.int (Int32.ofNat c2)), .val (.ref li), .unset, .unset, .unset] [(.int (5 : Int32)), (.ref li)]))) (fun _ k => XS.aload X503.here hx rfl (hb hby at_124) rfl rfl (XS.iconst X503.here hx rfl (hb hby at_126) (XS.iloadN X503.here hx rfl (hb hby at_127) rfl k))) ?_
  obtain ⟨_, _, ⟨T504, L504, k504, n504⟩, -, X504, ⟨Lc504, hQ504, l504, y504, z504⟩, st504⟩ := Jvm.LawKit.callS X503 hx (y := (⟨"com/example/upright_play/uprightplay/event/MembersBoolPinLaw", "blank", "(I)C"⟩ : MethodName)) hown (mvT hZ (hw _ (List.mem_of_getElem? (i := 6) rfl))) (mvT hZ (hw _ (List.mem_of_getElem? (i := 7) rfl))) (mvT hZ (hw _ (List.mem_of_getElem? (i := 2) rfl))) (mvT hZ (hw _ (List.mem_of_getElem? (i := 8) rfl))) (by decide) (backOf (W := 2) (rm_blank l Z a0 hw [] bk h503 n0 Zn) hZ (hw _ (List.mem_of_getElem? (i := 8) rfl)) (hw _ (List.mem_of_getElem? (i := 2) rfl)) (by decide) (by decide)) (g := (mkF m 128 #[.val (.int n1), .val (.int n2), .val (.int fg), .val (.int bk), .val (.int f1), .val (.int f2), .val (.int g1), .val (.int g2), .val (.int (Int32.ofNat c1)), .val (.int (Int32.ofNat c2)), .val (.ref li), .unset, .unset, .unset] [(.int bk), (.int (5 : Int32)), (.ref li)])) rfl (by rw [hml]; rfl) (argsL := [(.int bk)]) (rest := [(.int (5 : Int32)), (.ref li)]) (lenOf pd__28I_29C rfl) rfl (by show 2 * 0 + _ ≤ _; exact Nat.le_of_eq rfl) (hb hby at_128) (fun _ _ => ⟨rfl, e503, (by decide : 1 + 0 ≤ _), (by decide : 23 + 0 ≤ _)⟩)
  dsimp only [Pt.U, Pt.locs, Pt.cells, Pt.slots] at X504 l504 y504 z504 st504 hQ504
  have X504 := own_recast X504 l504 y504 z504
  obtain ⟨bl1, rfl, N504q, eb1, hb1, hv1⟩ := hQ504
  have N := Fr.app N N504q
  refine own_byL (S' := (T504.setTop (mkF m 131 #[.val (.int n1), .val (.int n2), .val (.int fg), .val (.int bk), .val (.int f1), .val (.int f2), .val (.int g1), .val (.int g2), .val (.int (Int32.ofNat c1)), .val (.int (Int32.ofNat c2)), .val (.ref li), .unset, .unset, .unset] [(.int bl1), (.int (5 : Int32)), (.ref li)]))) st504 ?_
  obtain ⟨T505, h505, X505, e505, W505, st505⟩ := own_stC X504 hx hZ eb1 A_li (j := (5 : Int32)) (by decide) (Nat.le_of_ble_eq_true rfl) (g := (mkF m 131 #[.val (.int n1), .val (.int n2), .val (.int fg), .val (.int bk), .val (.int f1), .val (.int f2), .val (.int g1), .val (.int g2), .val (.int (Int32.ofNat c1)), .val (.int (Int32.ofNat c2)), .val (.ref li), .unset, .unset, .unset] [(.int bl1), (.int (5 : Int32)), (.ref li)])) rfl rfl (hb hby at_131)
  have N := Fr.snoc X505 N o498
  have TB := own_tab_wr TB W505 (own_forA (hw _ (List.mem_of_getElem? (i := 98) rfl)) A_li (Nat.le_of_ble_eq_true rfl))
  have hk := Nat.le_trans hk (Nat.le_of_eq W505.size.symm)
  have O := O.wr W505 o498
  have A_li := A_li.set W505
  have Zn : n0 ≤ _ := Nat.le_trans Zn (Nat.le_of_eq W505.size.symm)
  have K := K.wr W505 (Or.inr z498)
  have A_li : OwnA Z h505 li .char [(.int (123 : Int32)), (.int (34 : Int32)), (.int (Int32.ofNat c1)), (.int (34 : Int32)), (.int (58 : Int32)), (.int bl1), .int (0 : Int32), .int (0 : Int32), .int (0 : Int32), .int (0 : Int32), .int (0 : Int32), .int (0 : Int32), .int (0 : Int32), .int (0 : Int32), .int (0 : Int32), .int (0 : Int32), .int (0 : Int32), .int (0 : Int32), .int (0 : Int32), .int (0 : Int32), .int (0 : Int32), .int (0 : Int32), .int (0 : Int32)] := (by have q := A_li; rw [show bl1.toUInt32.toUInt16.toUInt32.toInt32 = bl1 from hv1] at q; exact q)
  refine own_byL (S' := (T505.setTop (mkF m 132 #[.val (.int n1), .val (.int n2), .val (.int fg), .val (.int bk), .val (.int f1), .val (.int f2), .val (.int g1), .val (.int g2), .val (.int (Int32.ofNat c1)), .val (.int (Int32.ofNat c2)), .val (.ref li), .unset, .unset, .unset] []))) st505 ?_
  refine own_byL (S' := (T505.setTop (mkF m 140 #[.val (.int n1), .val (.int n2), .val (.int fg), .val (.int bk), .val (.int f1), .val (.int f2), .val (.int g1), .val (.int g2), .val (.int (Int32.ofNat c1)), .val (.int (Int32.ofNat c2)), .val (.ref li), .unset, .unset, .unset] []))) (fun _ k => XS.aload X505.here hx rfl (hb hby at_132) rfl rfl (XS.bipush X505.here hx rfl (hb hby at_134) (XS.iload X505.here hx rfl (hb hby at_136) rfl (XS.iload X505.here hx rfl (hb hby at_138) rfl k)))) ?_
  obtain ⟨_, _, ⟨T506, L506, k506, n506⟩, -, X506, ⟨Lc506, hQ506, l506, y506, z506⟩, st506⟩ := Jvm.LawKit.callS X505 hx (y := (⟨"com/example/upright_play/uprightplay/event/MembersBoolPinLaw", "putValue", "([CIZZ)V"⟩ : MethodName)) hown (mvT hZ (hw _ (List.mem_of_getElem? (i := 9) rfl))) (mvT hZ (hw _ (List.mem_of_getElem? (i := 10) rfl))) (mvT hZ (hw _ (List.mem_of_getElem? (i := 2) rfl))) (mvT hZ (hw _ (List.mem_of_getElem? (i := 11) rfl))) (by decide) (backOf (W := 0) (rm_put6 l Z a0 hw [] li f1 g1 [(.int (123 : Int32)), (.int (34 : Int32)), (.int (Int32.ofNat c1)), (.int (34 : Int32)), (.int (58 : Int32)), (.int bl1), .int (0 : Int32), .int (0 : Int32), .int (0 : Int32), .int (0 : Int32), .int (0 : Int32), .int (0 : Int32), .int (0 : Int32), .int (0 : Int32), .int (0 : Int32), .int (0 : Int32), .int (0 : Int32), .int (0 : Int32), .int (0 : Int32), .int (0 : Int32), .int (0 : Int32), .int (0 : Int32), .int (0 : Int32)] h505 n0 Zn A_li rfl o498) hZ (hw _ (List.mem_of_getElem? (i := 11) rfl)) (hw _ (List.mem_of_getElem? (i := 2) rfl)) (by decide) (by decide)) (g := (mkF m 140 #[.val (.int n1), .val (.int n2), .val (.int fg), .val (.int bk), .val (.int f1), .val (.int f2), .val (.int g1), .val (.int g2), .val (.int (Int32.ofNat c1)), .val (.int (Int32.ofNat c2)), .val (.ref li), .unset, .unset, .unset] [(.int g1), (.int f1), (.int (6 : Int32)), (.ref li)])) rfl (by rw [hml]; rfl) (argsL := [(.ref li), (.int (6 : Int32)), (.int f1), (.int g1)]) (rest := []) (lenOf pd__28_5bCIZZ_29V rfl) rfl (by show 2 * 0 + _ ≤ _; exact Nat.le_of_eq rfl) (hb hby at_140) (fun _ _ => ⟨rfl, e505, (by decide : 1 + 0 ≤ _), (by decide : 23 + 0 ≤ _)⟩)
  dsimp only [Pt.U, Pt.locs, Pt.cells, Pt.slots] at X506 l506 y506 z506 st506 hQ506
  have X506 := own_recast X506 l506 y506 z506
  obtain ⟨rfl, N506q, Kp1, B_li⟩ := hQ506
  have N := Fr.app N N506q
  have TB := own_tab_keep TB Kp1 (allS (own_forA (hw _ (List.mem_of_getElem? (i := 98) rfl)) A_li (Nat.le_of_ble_eq_true rfl)) all0)
  have hk := Nat.le_trans hk Kp1.1
  have O := O.keep Kp1 (allS o498 all0)
  have Zn : n0 ≤ _ := Nat.le_trans Zn Kp1.1
  have K := K.trans Kp1 (allS (Or.inr z498) all0)
  refine own_byL (S' := (T506.setTop (mkF m 143 #[.val (.int n1), .val (.int n2), .val (.int fg), .val (.int bk), .val (.int f1), .val (.int f2), .val (.int g1), .val (.int g2), .val (.int (Int32.ofNat c1)), .val (.int (Int32.ofNat c2)), .val (.ref li), .unset, .unset, .unset] []))) st506 ?_
  have A_li : OwnA Z T506.heap li .char [(.int (123 : Int32)), (.int (34 : Int32)), (.int (Int32.ofNat c1)), (.int (34 : Int32)), (.int (58 : Int32)), (.int bl1), .int ((own_pv f1 g1).getD 0 0), .int ((own_pv f1 g1).getD 1 0), .int ((own_pv f1 g1).getD 2 0), .int ((own_pv f1 g1).getD 3 0), .int ((own_pv f1 g1).getD 4 0), .int (0 : Int32), .int (0 : Int32), .int (0 : Int32), .int (0 : Int32), .int (0 : Int32), .int (0 : Int32), .int (0 : Int32), .int (0 : Int32), .int (0 : Int32), .int (0 : Int32), .int (0 : Int32), .int (0 : Int32)] := B_li
  refine own_byL (S' := (T506.setTop (mkF m 149 #[.val (.int n1), .val (.int n2), .val (.int fg), .val (.int bk), .val (.int f1), .val (.int f2), .val (.int g1), .val (.int g2), .val (.int (Int32.ofNat c1)), .val (.int (Int32.ofNat c2)), .val (.ref li), .unset, .unset, .unset] []))) (fun _ k => XS.aload X506.here hx rfl (hb hby at_143) rfl rfl (XS.bipush X506.here hx rfl (hb hby at_145) (XS.bipush X506.here hx rfl (hb hby at_147) k))) ?_
  obtain ⟨T507, h507, X507, e507, W507, st507⟩ := own_stC X506 hx hZ rfl A_li (j := (11 : Int32)) (by decide) (Nat.le_of_ble_eq_true rfl) (g := (mkF m 149 #[.val (.int n1), .val (.int n2), .val (.int fg), .val (.int bk), .val (.int f1), .val (.int f2), .val (.int g1), .val (.int g2), .val (.int (Int32.ofNat c1)), .val (.int (Int32.ofNat c2)), .val (.ref li), .unset, .unset, .unset] [(.int (44 : Int32)), (.int (11 : Int32)), (.ref li)])) rfl rfl (hb hby at_149)
  have N := Fr.snoc X507 N o498
  have TB := own_tab_wr TB W507 (own_forA (hw _ (List.mem_of_getElem? (i := 98) rfl)) A_li (Nat.le_of_ble_eq_true rfl))
  have hk := Nat.le_trans hk (Nat.le_of_eq W507.size.symm)
  have O := O.wr W507 o498
  have A_li := A_li.set W507
  have Zn : n0 ≤ _ := Nat.le_trans Zn (Nat.le_of_eq W507.size.symm)
  have K := K.wr W507 (Or.inr z498)
  have A_li : OwnA Z h507 li .char [(.int (123 : Int32)), (.int (34 : Int32)), (.int (Int32.ofNat c1)), (.int (34 : Int32)), (.int (58 : Int32)), (.int bl1), .int ((own_pv f1 g1).getD 0 0), .int ((own_pv f1 g1).getD 1 0), .int ((own_pv f1 g1).getD 2 0), .int ((own_pv f1 g1).getD 3 0), .int ((own_pv f1 g1).getD 4 0), (.int (44 : Int32)), .int (0 : Int32), .int (0 : Int32), .int (0 : Int32), .int (0 : Int32), .int (0 : Int32), .int (0 : Int32), .int (0 : Int32), .int (0 : Int32), .int (0 : Int32), .int (0 : Int32), .int (0 : Int32)] := (by have q := A_li; rw [show (44 : Int32).toUInt32.toUInt16.toUInt32.toInt32 = (44 : Int32) from (by decide)] at q; exact q)
  refine own_byL (S' := (T507.setTop (mkF m 150 #[.val (.int n1), .val (.int n2), .val (.int fg), .val (.int bk), .val (.int f1), .val (.int f2), .val (.int g1), .val (.int g2), .val (.int (Int32.ofNat c1)), .val (.int (Int32.ofNat c2)), .val (.ref li), .unset, .unset, .unset] []))) st507 ?_
  refine own_byL (S' := (T507.setTop (mkF m 156 #[.val (.int n1), .val (.int n2), .val (.int fg), .val (.int bk), .val (.int f1), .val (.int f2), .val (.int g1), .val (.int g2), .val (.int (Int32.ofNat c1)), .val (.int (Int32.ofNat c2)), .val (.ref li), .unset, .unset, .unset] []))) (fun _ k => XS.aload X507.here hx rfl (hb hby at_150) rfl rfl (XS.bipush X507.here hx rfl (hb hby at_152) (XS.bipush X507.here hx rfl (hb hby at_154) k))) ?_
  obtain ⟨T508, h508, X508, e508, W508, st508⟩ := own_stC X507 hx hZ e507 A_li (j := (12 : Int32)) (by decide) (Nat.le_of_ble_eq_true rfl) (g := (mkF m 156 #[.val (.int n1), .val (.int n2), .val (.int fg), .val (.int bk), .val (.int f1), .val (.int f2), .val (.int g1), .val (.int g2), .val (.int (Int32.ofNat c1)), .val (.int (Int32.ofNat c2)), .val (.ref li), .unset, .unset, .unset] [(.int (34 : Int32)), (.int (12 : Int32)), (.ref li)])) rfl rfl (hb hby at_156)
  have N := Fr.snoc X508 N o498
  have TB := own_tab_wr TB W508 (own_forA (hw _ (List.mem_of_getElem? (i := 98) rfl)) A_li (Nat.le_of_ble_eq_true rfl))
  have hk := Nat.le_trans hk (Nat.le_of_eq W508.size.symm)
  have O := O.wr W508 o498
  have A_li := A_li.set W508
  have Zn : n0 ≤ _ := Nat.le_trans Zn (Nat.le_of_eq W508.size.symm)
  have K := K.wr W508 (Or.inr z498)
  have A_li : OwnA Z h508 li .char [(.int (123 : Int32)), (.int (34 : Int32)), (.int (Int32.ofNat c1)), (.int (34 : Int32)), (.int (58 : Int32)), (.int bl1), .int ((own_pv f1 g1).getD 0 0), .int ((own_pv f1 g1).getD 1 0), .int ((own_pv f1 g1).getD 2 0), .int ((own_pv f1 g1).getD 3 0), .int ((own_pv f1 g1).getD 4 0), (.int (44 : Int32)), (.int (34 : Int32)), .int (0 : Int32), .int (0 : Int32), .int (0 : Int32), .int (0 : Int32), .int (0 : Int32), .int (0 : Int32), .int (0 : Int32), .int (0 : Int32), .int (0 : Int32), .int (0 : Int32)] := (by have q := A_li; rw [show (34 : Int32).toUInt32.toUInt16.toUInt32.toInt32 = (34 : Int32) from (by decide)] at q; exact q)
  refine own_byL (S' := (T508.setTop (mkF m 157 #[.val (.int n1), .val (.int n2), .val (.int fg), .val (.int bk), .val (.int f1), .val (.int f2), .val (.int g1), .val (.int g2), .val (.int (Int32.ofNat c1)), .val (.int (Int32.ofNat c2)), .val (.ref li), .unset, .unset, .unset] []))) st508 ?_
  refine own_byL (S' := (T508.setTop (mkF m 163 #[.val (.int n1), .val (.int n2), .val (.int fg), .val (.int bk), .val (.int f1), .val (.int f2), .val (.int g1), .val (.int g2), .val (.int (Int32.ofNat c1)), .val (.int (Int32.ofNat c2)), .val (.ref li), .unset, .unset, .unset] []))) (fun _ k => XS.aload X508.here hx rfl (hb hby at_157) rfl rfl (XS.bipush X508.here hx rfl (hb hby at_159) (XS.iload X508.here hx rfl (hb hby at_161) rfl k))) ?_
  obtain ⟨T509, h509, X509, e509, W509, st509⟩ := own_stC X508 hx hZ e508 A_li (j := (13 : Int32)) (by decide) (Nat.le_of_ble_eq_true rfl) (g := (mkF m 163 #[.val (.int n1), .val (.int n2), .val (.int fg), .val (.int bk), .val (.int f1), .val (.int f2), .val (.int g1), .val (.int g2), .val (.int (Int32.ofNat c1)), .val (.int (Int32.ofNat c2)), .val (.ref li), .unset, .unset, .unset] [(.int (Int32.ofNat c2)), (.int (13 : Int32)), (.ref li)])) rfl rfl (hb hby at_163)
  have N := Fr.snoc X509 N o498
  have TB := own_tab_wr TB W509 (own_forA (hw _ (List.mem_of_getElem? (i := 98) rfl)) A_li (Nat.le_of_ble_eq_true rfl))
  have hk := Nat.le_trans hk (Nat.le_of_eq W509.size.symm)
  have O := O.wr W509 o498
  have A_li := A_li.set W509
  have Zn : n0 ≤ _ := Nat.le_trans Zn (Nat.le_of_eq W509.size.symm)
  have K := K.wr W509 (Or.inr z498)
  have A_li : OwnA Z h509 li .char [(.int (123 : Int32)), (.int (34 : Int32)), (.int (Int32.ofNat c1)), (.int (34 : Int32)), (.int (58 : Int32)), (.int bl1), .int ((own_pv f1 g1).getD 0 0), .int ((own_pv f1 g1).getD 1 0), .int ((own_pv f1 g1).getD 2 0), .int ((own_pv f1 g1).getD 3 0), .int ((own_pv f1 g1).getD 4 0), (.int (44 : Int32)), (.int (34 : Int32)), (.int (Int32.ofNat c2)), .int (0 : Int32), .int (0 : Int32), .int (0 : Int32), .int (0 : Int32), .int (0 : Int32), .int (0 : Int32), .int (0 : Int32), .int (0 : Int32), .int (0 : Int32)] := (by have q := A_li; rw [show (Int32.ofNat c2).toUInt32.toUInt16.toUInt32.toInt32 = (Int32.ofNat c2) from own_c16 _ hk2.2.1] at q; exact q)
  refine own_byL (S' := (T509.setTop (mkF m 164 #[.val (.int n1), .val (.int n2), .val (.int fg), .val (.int bk), .val (.int f1), .val (.int f2), .val (.int g1), .val (.int g2), .val (.int (Int32.ofNat c1)), .val (.int (Int32.ofNat c2)), .val (.ref li), .unset, .unset, .unset] []))) st509 ?_
  refine own_byL (S' := (T509.setTop (mkF m 170 #[.val (.int n1), .val (.int n2), .val (.int fg), .val (.int bk), .val (.int f1), .val (.int f2), .val (.int g1), .val (.int g2), .val (.int (Int32.ofNat c1)), .val (.int (Int32.ofNat c2)), .val (.ref li), .unset, .unset, .unset] []))) (fun _ k => XS.aload X509.here hx rfl (hb hby at_164) rfl rfl (XS.bipush X509.here hx rfl (hb hby at_166) (XS.bipush X509.here hx rfl (hb hby at_168) k))) ?_
  obtain ⟨T510, h510, X510, e510, W510, st510⟩ := own_stC X509 hx hZ e509 A_li (j := (14 : Int32)) (by decide) (Nat.le_of_ble_eq_true rfl) (g := (mkF m 170 #[.val (.int n1), .val (.int n2), .val (.int fg), .val (.int bk), .val (.int f1), .val (.int f2), .val (.int g1), .val (.int g2), .val (.int (Int32.ofNat c1)), .val (.int (Int32.ofNat c2)), .val (.ref li), .unset, .unset, .unset] [(.int (34 : Int32)), (.int (14 : Int32)), (.ref li)])) rfl rfl (hb hby at_170)
  have N := Fr.snoc X510 N o498
  have TB := own_tab_wr TB W510 (own_forA (hw _ (List.mem_of_getElem? (i := 98) rfl)) A_li (Nat.le_of_ble_eq_true rfl))
  have hk := Nat.le_trans hk (Nat.le_of_eq W510.size.symm)
  have O := O.wr W510 o498
  have A_li := A_li.set W510
  have Zn : n0 ≤ _ := Nat.le_trans Zn (Nat.le_of_eq W510.size.symm)
  have K := K.wr W510 (Or.inr z498)
  have A_li : OwnA Z h510 li .char [(.int (123 : Int32)), (.int (34 : Int32)), (.int (Int32.ofNat c1)), (.int (34 : Int32)), (.int (58 : Int32)), (.int bl1), .int ((own_pv f1 g1).getD 0 0), .int ((own_pv f1 g1).getD 1 0), .int ((own_pv f1 g1).getD 2 0), .int ((own_pv f1 g1).getD 3 0), .int ((own_pv f1 g1).getD 4 0), (.int (44 : Int32)), (.int (34 : Int32)), (.int (Int32.ofNat c2)), (.int (34 : Int32)), .int (0 : Int32), .int (0 : Int32), .int (0 : Int32), .int (0 : Int32), .int (0 : Int32), .int (0 : Int32), .int (0 : Int32), .int (0 : Int32)] := (by have q := A_li; rw [show (34 : Int32).toUInt32.toUInt16.toUInt32.toInt32 = (34 : Int32) from (by decide)] at q; exact q)
  refine own_byL (S' := (T510.setTop (mkF m 171 #[.val (.int n1), .val (.int n2), .val (.int fg), .val (.int bk), .val (.int f1), .val (.int f2), .val (.int g1), .val (.int g2), .val (.int (Int32.ofNat c1)), .val (.int (Int32.ofNat c2)), .val (.ref li), .unset, .unset, .unset] []))) st510 ?_
  refine own_byL (S' := (T510.setTop (mkF m 177 #[.val (.int n1), .val (.int n2), .val (.int fg), .val (.int bk), .val (.int f1), .val (.int f2), .val (.int g1), .val (.int g2), .val (.int (Int32.ofNat c1)), .val (.int (Int32.ofNat c2)), .val (.ref li), .unset, .unset, .unset] []))) (fun _ k => XS.aload X510.here hx rfl (hb hby at_171) rfl rfl (XS.bipush X510.here hx rfl (hb hby at_173) (XS.bipush X510.here hx rfl (hb hby at_175) k))) ?_
  obtain ⟨T511, h511, X511, e511, W511, st511⟩ := own_stC X510 hx hZ e510 A_li (j := (15 : Int32)) (by decide) (Nat.le_of_ble_eq_true rfl) (g := (mkF m 177 #[.val (.int n1), .val (.int n2), .val (.int fg), .val (.int bk), .val (.int f1), .val (.int f2), .val (.int g1), .val (.int g2), .val (.int (Int32.ofNat c1)), .val (.int (Int32.ofNat c2)), .val (.ref li), .unset, .unset, .unset] [(.int (58 : Int32)), (.int (15 : Int32)), (.ref li)])) rfl rfl (hb hby at_177)
  have N := Fr.snoc X511 N o498
  have TB := own_tab_wr TB W511 (own_forA (hw _ (List.mem_of_getElem? (i := 98) rfl)) A_li (Nat.le_of_ble_eq_true rfl))
  have hk := Nat.le_trans hk (Nat.le_of_eq W511.size.symm)
  have O := O.wr W511 o498
  have A_li := A_li.set W511
  have Zn : n0 ≤ _ := Nat.le_trans Zn (Nat.le_of_eq W511.size.symm)
  have K := K.wr W511 (Or.inr z498)
  have A_li : OwnA Z h511 li .char [(.int (123 : Int32)), (.int (34 : Int32)), (.int (Int32.ofNat c1)), (.int (34 : Int32)), (.int (58 : Int32)), (.int bl1), .int ((own_pv f1 g1).getD 0 0), .int ((own_pv f1 g1).getD 1 0), .int ((own_pv f1 g1).getD 2 0), .int ((own_pv f1 g1).getD 3 0), .int ((own_pv f1 g1).getD 4 0), (.int (44 : Int32)), (.int (34 : Int32)), (.int (Int32.ofNat c2)), (.int (34 : Int32)), (.int (58 : Int32)), .int (0 : Int32), .int (0 : Int32), .int (0 : Int32), .int (0 : Int32), .int (0 : Int32), .int (0 : Int32), .int (0 : Int32)] := (by have q := A_li; rw [show (58 : Int32).toUInt32.toUInt16.toUInt32.toInt32 = (58 : Int32) from (by decide)] at q; exact q)
  refine own_byL (S' := (T511.setTop (mkF m 178 #[.val (.int n1), .val (.int n2), .val (.int fg), .val (.int bk), .val (.int f1), .val (.int f2), .val (.int g1), .val (.int g2), .val (.int (Int32.ofNat c1)), .val (.int (Int32.ofNat c2)), .val (.ref li), .unset, .unset, .unset] []))) st511 ?_
  refine own_byL (S' := (T511.setTop (mkF m 185 #[.val (.int n1), .val (.int n2), .val (.int fg), .val (.int bk), .val (.int f1), .val (.int f2), .val (.int g1), .val (.int g2), .val (.int (Int32.ofNat c1)), .val (.int (Int32.ofNat c2)), .val (.ref li), .unset, .unset, .unset] [(.int (16 : Int32)), (.ref li)]))) (fun _ k => XS.aload X511.here hx rfl (hb hby at_178) rfl rfl (XS.bipush X511.here hx rfl (hb hby at_180) (XS.iloadN X511.here hx rfl (hb hby at_182) rfl (XS.iconst X511.here hx rfl (hb hby at_183) (XS.ishr X511.here hx rfl (hb hby at_184) rfl k))))) ?_
  obtain ⟨_, _, ⟨T512, L512, k512, n512⟩, -, X512, ⟨Lc512, hQ512, l512, y512, z512⟩, st512⟩ := Jvm.LawKit.callS X511 hx (y := (⟨"com/example/upright_play/uprightplay/event/MembersBoolPinLaw", "blank", "(I)C"⟩ : MethodName)) hown (mvT hZ (hw _ (List.mem_of_getElem? (i := 6) rfl))) (mvT hZ (hw _ (List.mem_of_getElem? (i := 7) rfl))) (mvT hZ (hw _ (List.mem_of_getElem? (i := 2) rfl))) (mvT hZ (hw _ (List.mem_of_getElem? (i := 8) rfl))) (by decide) (backOf (W := 2) (rm_blank l Z a0 hw [] (bk >>> ((2 : Int32) &&& 31)) h511 n0 Zn) hZ (hw _ (List.mem_of_getElem? (i := 8) rfl)) (hw _ (List.mem_of_getElem? (i := 2) rfl)) (by decide) (by decide)) (g := (mkF m 185 #[.val (.int n1), .val (.int n2), .val (.int fg), .val (.int bk), .val (.int f1), .val (.int f2), .val (.int g1), .val (.int g2), .val (.int (Int32.ofNat c1)), .val (.int (Int32.ofNat c2)), .val (.ref li), .unset, .unset, .unset] [(.int (bk >>> ((2 : Int32) &&& 31))), (.int (16 : Int32)), (.ref li)])) rfl (by rw [hml]; rfl) (argsL := [(.int (bk >>> ((2 : Int32) &&& 31)))]) (rest := [(.int (16 : Int32)), (.ref li)]) (lenOf pd__28I_29C rfl) rfl (by show 2 * 0 + _ ≤ _; exact Nat.le_of_eq rfl) (hb hby at_185) (fun _ _ => ⟨rfl, e511, (by decide : 1 + 0 ≤ _), (by decide : 23 + 0 ≤ _)⟩)
  dsimp only [Pt.U, Pt.locs, Pt.cells, Pt.slots] at X512 l512 y512 z512 st512 hQ512
  have X512 := own_recast X512 l512 y512 z512
  obtain ⟨bl2, rfl, N512q, eb2, hb2, hv2⟩ := hQ512
  have N := Fr.app N N512q
  refine own_byL (S' := (T512.setTop (mkF m 188 #[.val (.int n1), .val (.int n2), .val (.int fg), .val (.int bk), .val (.int f1), .val (.int f2), .val (.int g1), .val (.int g2), .val (.int (Int32.ofNat c1)), .val (.int (Int32.ofNat c2)), .val (.ref li), .unset, .unset, .unset] [(.int bl2), (.int (16 : Int32)), (.ref li)]))) st512 ?_
  obtain ⟨T513, h513, X513, e513, W513, st513⟩ := own_stC X512 hx hZ eb2 A_li (j := (16 : Int32)) (by decide) (Nat.le_of_ble_eq_true rfl) (g := (mkF m 188 #[.val (.int n1), .val (.int n2), .val (.int fg), .val (.int bk), .val (.int f1), .val (.int f2), .val (.int g1), .val (.int g2), .val (.int (Int32.ofNat c1)), .val (.int (Int32.ofNat c2)), .val (.ref li), .unset, .unset, .unset] [(.int bl2), (.int (16 : Int32)), (.ref li)])) rfl rfl (hb hby at_188)
  have N := Fr.snoc X513 N o498
  have TB := own_tab_wr TB W513 (own_forA (hw _ (List.mem_of_getElem? (i := 98) rfl)) A_li (Nat.le_of_ble_eq_true rfl))
  have hk := Nat.le_trans hk (Nat.le_of_eq W513.size.symm)
  have O := O.wr W513 o498
  have A_li := A_li.set W513
  have Zn : n0 ≤ _ := Nat.le_trans Zn (Nat.le_of_eq W513.size.symm)
  have K := K.wr W513 (Or.inr z498)
  have A_li : OwnA Z h513 li .char [(.int (123 : Int32)), (.int (34 : Int32)), (.int (Int32.ofNat c1)), (.int (34 : Int32)), (.int (58 : Int32)), (.int bl1), .int ((own_pv f1 g1).getD 0 0), .int ((own_pv f1 g1).getD 1 0), .int ((own_pv f1 g1).getD 2 0), .int ((own_pv f1 g1).getD 3 0), .int ((own_pv f1 g1).getD 4 0), (.int (44 : Int32)), (.int (34 : Int32)), (.int (Int32.ofNat c2)), (.int (34 : Int32)), (.int (58 : Int32)), (.int bl2), .int (0 : Int32), .int (0 : Int32), .int (0 : Int32), .int (0 : Int32), .int (0 : Int32), .int (0 : Int32)] := (by have q := A_li; rw [show bl2.toUInt32.toUInt16.toUInt32.toInt32 = bl2 from hv2] at q; exact q)
  refine own_byL (S' := (T513.setTop (mkF m 189 #[.val (.int n1), .val (.int n2), .val (.int fg), .val (.int bk), .val (.int f1), .val (.int f2), .val (.int g1), .val (.int g2), .val (.int (Int32.ofNat c1)), .val (.int (Int32.ofNat c2)), .val (.ref li), .unset, .unset, .unset] []))) st513 ?_
  refine own_byL (S' := (T513.setTop (mkF m 197 #[.val (.int n1), .val (.int n2), .val (.int fg), .val (.int bk), .val (.int f1), .val (.int f2), .val (.int g1), .val (.int g2), .val (.int (Int32.ofNat c1)), .val (.int (Int32.ofNat c2)), .val (.ref li), .unset, .unset, .unset] []))) (fun _ k => XS.aload X513.here hx rfl (hb hby at_189) rfl rfl (XS.bipush X513.here hx rfl (hb hby at_191) (XS.iload X513.here hx rfl (hb hby at_193) rfl (XS.iload X513.here hx rfl (hb hby at_195) rfl k)))) ?_
  obtain ⟨_, _, ⟨T514, L514, k514, n514⟩, -, X514, ⟨Lc514, hQ514, l514, y514, z514⟩, st514⟩ := Jvm.LawKit.callS X513 hx (y := (⟨"com/example/upright_play/uprightplay/event/MembersBoolPinLaw", "putValue", "([CIZZ)V"⟩ : MethodName)) hown (mvT hZ (hw _ (List.mem_of_getElem? (i := 9) rfl))) (mvT hZ (hw _ (List.mem_of_getElem? (i := 10) rfl))) (mvT hZ (hw _ (List.mem_of_getElem? (i := 2) rfl))) (mvT hZ (hw _ (List.mem_of_getElem? (i := 11) rfl))) (by decide) (backOf (W := 0) (rm_put17 l Z a0 hw [] li f2 g2 [(.int (123 : Int32)), (.int (34 : Int32)), (.int (Int32.ofNat c1)), (.int (34 : Int32)), (.int (58 : Int32)), (.int bl1), .int ((own_pv f1 g1).getD 0 0), .int ((own_pv f1 g1).getD 1 0), .int ((own_pv f1 g1).getD 2 0), .int ((own_pv f1 g1).getD 3 0), .int ((own_pv f1 g1).getD 4 0), (.int (44 : Int32)), (.int (34 : Int32)), (.int (Int32.ofNat c2)), (.int (34 : Int32)), (.int (58 : Int32)), (.int bl2), .int (0 : Int32), .int (0 : Int32), .int (0 : Int32), .int (0 : Int32), .int (0 : Int32), .int (0 : Int32)] h513 n0 Zn A_li rfl o498) hZ (hw _ (List.mem_of_getElem? (i := 11) rfl)) (hw _ (List.mem_of_getElem? (i := 2) rfl)) (by decide) (by decide)) (g := (mkF m 197 #[.val (.int n1), .val (.int n2), .val (.int fg), .val (.int bk), .val (.int f1), .val (.int f2), .val (.int g1), .val (.int g2), .val (.int (Int32.ofNat c1)), .val (.int (Int32.ofNat c2)), .val (.ref li), .unset, .unset, .unset] [(.int g2), (.int f2), (.int (17 : Int32)), (.ref li)])) rfl (by rw [hml]; rfl) (argsL := [(.ref li), (.int (17 : Int32)), (.int f2), (.int g2)]) (rest := []) (lenOf pd__28_5bCIZZ_29V rfl) rfl (by show 2 * 0 + _ ≤ _; exact Nat.le_of_eq rfl) (hb hby at_197) (fun _ _ => ⟨rfl, e513, (by decide : 1 + 0 ≤ _), (by decide : 23 + 0 ≤ _)⟩)
  dsimp only [Pt.U, Pt.locs, Pt.cells, Pt.slots] at X514 l514 y514 z514 st514 hQ514
  have X514 := own_recast X514 l514 y514 z514
  obtain ⟨rfl, N514q, Kp2, B_li⟩ := hQ514
  have N := Fr.app N N514q
  have TB := own_tab_keep TB Kp2 (allS (own_forA (hw _ (List.mem_of_getElem? (i := 98) rfl)) A_li (Nat.le_of_ble_eq_true rfl)) all0)
  have hk := Nat.le_trans hk Kp2.1
  have O := O.keep Kp2 (allS o498 all0)
  have Zn : n0 ≤ _ := Nat.le_trans Zn Kp2.1
  have K := K.trans Kp2 (allS (Or.inr z498) all0)
  refine own_byL (S' := (T514.setTop (mkF m 200 #[.val (.int n1), .val (.int n2), .val (.int fg), .val (.int bk), .val (.int f1), .val (.int f2), .val (.int g1), .val (.int g2), .val (.int (Int32.ofNat c1)), .val (.int (Int32.ofNat c2)), .val (.ref li), .unset, .unset, .unset] []))) st514 ?_
  have A_li : OwnA Z T514.heap li .char [(.int (123 : Int32)), (.int (34 : Int32)), (.int (Int32.ofNat c1)), (.int (34 : Int32)), (.int (58 : Int32)), (.int bl1), .int ((own_pv f1 g1).getD 0 0), .int ((own_pv f1 g1).getD 1 0), .int ((own_pv f1 g1).getD 2 0), .int ((own_pv f1 g1).getD 3 0), .int ((own_pv f1 g1).getD 4 0), (.int (44 : Int32)), (.int (34 : Int32)), (.int (Int32.ofNat c2)), (.int (34 : Int32)), (.int (58 : Int32)), (.int bl2), .int ((own_pv f2 g2).getD 0 0), .int ((own_pv f2 g2).getD 1 0), .int ((own_pv f2 g2).getD 2 0), .int ((own_pv f2 g2).getD 3 0), .int ((own_pv f2 g2).getD 4 0), .int (0 : Int32)] := B_li
  refine own_byL (S' := (T514.setTop (mkF m 206 #[.val (.int n1), .val (.int n2), .val (.int fg), .val (.int bk), .val (.int f1), .val (.int f2), .val (.int g1), .val (.int g2), .val (.int (Int32.ofNat c1)), .val (.int (Int32.ofNat c2)), .val (.ref li), .unset, .unset, .unset] []))) (fun _ k => XS.aload X514.here hx rfl (hb hby at_200) rfl rfl (XS.bipush X514.here hx rfl (hb hby at_202) (XS.bipush X514.here hx rfl (hb hby at_204) k))) ?_
  obtain ⟨T515, h515, X515, e515, W515, st515⟩ := own_stC X514 hx hZ rfl A_li (j := (22 : Int32)) (by decide) (Nat.le_of_ble_eq_true rfl) (g := (mkF m 206 #[.val (.int n1), .val (.int n2), .val (.int fg), .val (.int bk), .val (.int f1), .val (.int f2), .val (.int g1), .val (.int g2), .val (.int (Int32.ofNat c1)), .val (.int (Int32.ofNat c2)), .val (.ref li), .unset, .unset, .unset] [(.int (125 : Int32)), (.int (22 : Int32)), (.ref li)])) rfl rfl (hb hby at_206)
  have N := Fr.snoc X515 N o498
  have TB := own_tab_wr TB W515 (own_forA (hw _ (List.mem_of_getElem? (i := 98) rfl)) A_li (Nat.le_of_ble_eq_true rfl))
  have hk := Nat.le_trans hk (Nat.le_of_eq W515.size.symm)
  have O := O.wr W515 o498
  have A_li := A_li.set W515
  have Zn : n0 ≤ _ := Nat.le_trans Zn (Nat.le_of_eq W515.size.symm)
  have K := K.wr W515 (Or.inr z498)
  have A_li : OwnA Z h515 li .char [(.int (123 : Int32)), (.int (34 : Int32)), (.int (Int32.ofNat c1)), (.int (34 : Int32)), (.int (58 : Int32)), (.int bl1), .int ((own_pv f1 g1).getD 0 0), .int ((own_pv f1 g1).getD 1 0), .int ((own_pv f1 g1).getD 2 0), .int ((own_pv f1 g1).getD 3 0), .int ((own_pv f1 g1).getD 4 0), (.int (44 : Int32)), (.int (34 : Int32)), (.int (Int32.ofNat c2)), (.int (34 : Int32)), (.int (58 : Int32)), (.int bl2), .int ((own_pv f2 g2).getD 0 0), .int ((own_pv f2 g2).getD 1 0), .int ((own_pv f2 g2).getD 2 0), .int ((own_pv f2 g2).getD 3 0), .int ((own_pv f2 g2).getD 4 0), (.int (125 : Int32))] := (by have q := A_li; rw [show (125 : Int32).toUInt32.toUInt16.toUInt32.toInt32 = (125 : Int32) from (by decide)] at q; exact q)
  refine own_byL (S' := (T515.setTop (mkF m 207 #[.val (.int n1), .val (.int n2), .val (.int fg), .val (.int bk), .val (.int f1), .val (.int f2), .val (.int g1), .val (.int g2), .val (.int (Int32.ofNat c1)), .val (.int (Int32.ofNat c2)), .val (.ref li), .unset, .unset, .unset] []))) st515 ?_
  obtain ⟨LN, hLN⟩ : ∃ z, z = ([(.int (123 : Int32)), (.int (34 : Int32)), (.int (Int32.ofNat c1)), (.int (34 : Int32)), (.int (58 : Int32)), (.int bl1), .int ((own_pv f1 g1).getD 0 0), .int ((own_pv f1 g1).getD 1 0), .int ((own_pv f1 g1).getD 2 0), .int ((own_pv f1 g1).getD 3 0), .int ((own_pv f1 g1).getD 4 0), (.int (44 : Int32)), (.int (34 : Int32)), (.int (Int32.ofNat c2)), (.int (34 : Int32)), (.int (58 : Int32)), (.int bl2), .int ((own_pv f2 g2).getD 0 0), .int ((own_pv f2 g2).getD 1 0), .int ((own_pv f2 g2).getD 2 0), .int ((own_pv f2 g2).getD 3 0), .int ((own_pv f2 g2).getD 4 0), (.int (125 : Int32))] : List Value) := ⟨_, rfl⟩
  rw [← hLN] at A_li
  have l0 : LN[0]? = some ((.int (123 : Int32))) := by rw [hLN]; rfl
  have l1 : LN[1]? = some ((.int (34 : Int32))) := by rw [hLN]; rfl
  have l2 : LN[2]? = some ((.int (Int32.ofNat c1))) := by rw [hLN]; rfl
  have l3 : LN[3]? = some ((.int (34 : Int32))) := by rw [hLN]; rfl
  have l4 : LN[4]? = some ((.int (58 : Int32))) := by rw [hLN]; rfl
  have l5 : LN[5]? = some ((.int bl1)) := by rw [hLN]; rfl
  have l6 : LN[6]? = some (.int ((own_pv f1 g1).getD 0 0)) := by rw [hLN]; rfl
  have l7 : LN[7]? = some (.int ((own_pv f1 g1).getD 1 0)) := by rw [hLN]; rfl
  have l8 : LN[8]? = some (.int ((own_pv f1 g1).getD 2 0)) := by rw [hLN]; rfl
  have l9 : LN[9]? = some (.int ((own_pv f1 g1).getD 3 0)) := by rw [hLN]; rfl
  have l10 : LN[10]? = some (.int ((own_pv f1 g1).getD 4 0)) := by rw [hLN]; rfl
  have l11 : LN[11]? = some ((.int (44 : Int32))) := by rw [hLN]; rfl
  have l12 : LN[12]? = some ((.int (34 : Int32))) := by rw [hLN]; rfl
  have l13 : LN[13]? = some ((.int (Int32.ofNat c2))) := by rw [hLN]; rfl
  have l14 : LN[14]? = some ((.int (34 : Int32))) := by rw [hLN]; rfl
  have l15 : LN[15]? = some ((.int (58 : Int32))) := by rw [hLN]; rfl
  have l16 : LN[16]? = some ((.int bl2)) := by rw [hLN]; rfl
  have l17 : LN[17]? = some (.int ((own_pv f2 g2).getD 0 0)) := by rw [hLN]; rfl
  have l18 : LN[18]? = some (.int ((own_pv f2 g2).getD 1 0)) := by rw [hLN]; rfl
  have l19 : LN[19]? = some (.int ((own_pv f2 g2).getD 2 0)) := by rw [hLN]; rfl
  have l20 : LN[20]? = some (.int ((own_pv f2 g2).getD 3 0)) := by rw [hLN]; rfl
  have l21 : LN[21]? = some (.int ((own_pv f2 g2).getD 4 0)) := by rw [hLN]; rfl
  have l22 : LN[22]? = some ((.int (125 : Int32))) := by rw [hLN]; rfl
  obtain ⟨p1, q1, t1, w5, d5, w6, hp1, z1, hz1, ht1⟩ := own_half (b := 1) (by decide) hb1 hf1 l5 l6 l7 l8 l9 l10 l11 (Or.inl rfl)
  obtain ⟨p2, q2, t2, w16, d16, w17, hp2, z2, hz2, ht2⟩ := own_half (b := 12) (by decide) hb2 hf2 l16 l17 l18 l19 l20 l21 l22 (Or.inr rfl)
  have HL : own_line LN c1 c2 p1 q1 p2 q2 t1 t2 := ⟨l0, l1, l2, l3, l4, w5, d5, w6, l11, l12, l13, l14, l15, w16, d16, w17, l22, hk1, hk2, h12⟩
  obtain ⟨T516, h516, X516, e516, E516, A516, D516, -, st516⟩ := newO X515 hx hZ hown (hw _ (List.mem_of_getElem? (i := 12) rfl)) (hw _ (List.mem_of_getElem? (i := 13) rfl)) (hw _ (List.mem_of_getElem? (i := 14) rfl)) e515 (g := (mkF m 207 #[.val (.int n1), .val (.int n2), .val (.int fg), .val (.int bk), .val (.int f1), .val (.int f2), .val (.int g1), .val (.int g2), .val (.int (Int32.ofNat c1)), .val (.int (Int32.ofNat c2)), .val (.ref li), .unset, .unset, .unset] [])) rfl (hb hby at_207) (by decide : 1 + 1 ≤ _) (by decide : 23 + 18 ≤ _)
  obtain ⟨mb, g516⟩ : ∃ z, z = h515.size := ⟨_, rfl⟩
  rw [← g516] at A516 D516 st516
  have o516 : n0 ≤ mb := Nat.le_trans Zn (Nat.le_of_eq g516.symm)
  have z516 : h0.size ≤ mb := Nat.le_trans K.1 (Nat.le_of_eq g516.symm)
  have ne_li_mb : li ≠ mb := fun q => Nat.ne_of_lt A_li.lt (q.trans g516)
  have TB := own_tab_ext TB E516
  have O := O.ext E516
  have A_li := A_li.ext E516
  have hk := Nat.le_trans hk E516.1
  have Zn := Nat.le_trans Zn E516.1
  have K := K.ext E516
  have E_mb := A516
  have F_mb_nameStarts : Fld Z h516 mb "com/example/upright_play/uprightplay/event/Members" "nameStarts" "[I" .null := D516 (Or.inl (hw _ (List.mem_of_getElem? (i := 23) rfl))) (ty := (.array .int)) (by decide)
  have F_mb_nameEnds : Fld Z h516 mb "com/example/upright_play/uprightplay/event/Members" "nameEnds" "[I" .null := D516 (Or.inl (hw _ (List.mem_of_getElem? (i := 25) rfl))) (ty := (.array .int)) (by decide)
  have F_mb_nameHashes : Fld Z h516 mb "com/example/upright_play/uprightplay/event/Members" "nameHashes" "[I" .null := D516 (Or.inl (hw _ (List.mem_of_getElem? (i := 27) rfl))) (ty := (.array .int)) (by decide)
  have F_mb_escapedNames : Fld Z h516 mb "com/example/upright_play/uprightplay/event/Members" "escapedNames" "[Ljava/lang/String;" .null := D516 (Or.inl (hw _ (List.mem_of_getElem? (i := 31) rfl))) (ty := (.array (.object "java/lang/String"))) (by decide)
  have F_mb_types : Fld Z h516 mb "com/example/upright_play/uprightplay/event/Members" "types" "[Lcom/example/upright_play/uprightplay/event/Members$Type;" .null := D516 (Or.inl (hw _ (List.mem_of_getElem? (i := 35) rfl))) (ty := (.array (.object "com/example/upright_play/uprightplay/event/Members$Type"))) (by decide)
  have F_mb_valueStarts : Fld Z h516 mb "com/example/upright_play/uprightplay/event/Members" "valueStarts" "[I" .null := D516 (Or.inl (hw _ (List.mem_of_getElem? (i := 37) rfl))) (ty := (.array .int)) (by decide)
  have F_mb_valueEnds : Fld Z h516 mb "com/example/upright_play/uprightplay/event/Members" "valueEnds" "[I" .null := D516 (Or.inl (hw _ (List.mem_of_getElem? (i := 39) rfl))) (ty := (.array .int)) (by decide)
  have F_mb_integerEnds : Fld Z h516 mb "com/example/upright_play/uprightplay/event/Members" "integerEnds" "[I" .null := D516 (Or.inl (hw _ (List.mem_of_getElem? (i := 41) rfl))) (ty := (.array .int)) (by decide)
  have F_mb_fractionEnds : Fld Z h516 mb "com/example/upright_play/uprightplay/event/Members" "fractionEnds" "[I" .null := D516 (Or.inl (hw _ (List.mem_of_getElem? (i := 43) rfl))) (ty := (.array .int)) (by decide)
  have F_mb_slots : Fld Z h516 mb "com/example/upright_play/uprightplay/event/Members" "slots" "[B" .null := D516 (Or.inr (hw _ (List.mem_of_getElem? (i := 46) rfl))) (ty := (.array .byte)) (by decide)
  have F_mb_line : Fld Z h516 mb "com/example/upright_play/uprightplay/event/Members" "line" "[C" .null := D516 (Or.inl (hw _ (List.mem_of_getElem? (i := 53) rfl))) (ty := (.array .char)) (by decide)
  have F_mb_length : Fld Z h516 mb "com/example/upright_play/uprightplay/event/Members" "length" "I" (.int (0 : Int32)) := D516 (Or.inl (hw _ (List.mem_of_getElem? (i := 55) rfl))) (ty := .int) (by decide)
  have F_mb_lineNumber : Fld Z h516 mb "com/example/upright_play/uprightplay/event/Members" "lineNumber" "J" (.long (0 : Int64)) := D516 (Or.inl (hw _ (List.mem_of_getElem? (i := 57) rfl))) (ty := .long) (by decide)
  have F_mb_pos : Fld Z h516 mb "com/example/upright_play/uprightplay/event/Members" "pos" "I" (.int (0 : Int32)) := D516 (Or.inl (hw _ (List.mem_of_getElem? (i := 59) rfl))) (ty := .int) (by decide)
  have F_mb_count : Fld Z h516 mb "com/example/upright_play/uprightplay/event/Members" "count" "I" (.int (0 : Int32)) := D516 (Or.inl (hw _ (List.mem_of_getElem? (i := 61) rfl))) (ty := .int) (by decide)
  have F_mb_index : Fld Z h516 mb "com/example/upright_play/uprightplay/event/Members" "index" "Ljava/util/Map;" .null := D516 (Or.inl (hw _ (List.mem_of_getElem? (i := 63) rfl))) (ty := (.object "java/util/Map")) (by decide)
  have F_mb_integerEnd : Fld Z h516 mb "com/example/upright_play/uprightplay/event/Members" "integerEnd" "I" (.int (0 : Int32)) := D516 (Or.inl (hw _ (List.mem_of_getElem? (i := 162) rfl))) (ty := .int) (by decide)
  have F_mb_fractionEnd : Fld Z h516 mb "com/example/upright_play/uprightplay/event/Members" "fractionEnd" "I" (.int (0 : Int32)) := D516 (Or.inl (hw _ (List.mem_of_getElem? (i := 164) rfl))) (ty := .int) (by decide)
  refine own_byL (S' := (T516.setTop (mkF m 210 #[.val (.int n1), .val (.int n2), .val (.int fg), .val (.int bk), .val (.int f1), .val (.int f2), .val (.int g1), .val (.int g2), .val (.int (Int32.ofNat c1)), .val (.int (Int32.ofNat c2)), .val (.ref li), .unset, .unset, .unset] [(.ref mb)]))) st516 ?_
  refine own_byL (S' := (T516.setTop (mkF m 211 #[.val (.int n1), .val (.int n2), .val (.int fg), .val (.int bk), .val (.int f1), .val (.int f2), .val (.int g1), .val (.int g2), .val (.int (Int32.ofNat c1)), .val (.int (Int32.ofNat c2)), .val (.ref li), .unset, .unset, .unset] [(.ref mb), (.ref mb)]))) (fun _ k => XS.dup X516.here hx rfl (hb hby at_210) rfl rfl k) ?_
  have lt_mb := E_mb.lt
  have lt_li := A_li.lt
  have Znb := Zn
  have Kb := K
  obtain ⟨_, _, ⟨T517, L517, k517, n517⟩, -, X517, ⟨Lc517, hQ517, l517, y517, z517⟩, st517⟩ := X516.specialBack hx (y := (⟨"com/example/upright_play/uprightplay/event/Members", "<init>", "()V"⟩ : MethodName)) rfl hown (mvT hZ (hw _ (List.mem_of_getElem? (i := 15) rfl))) (mvT hZ (hw _ (List.mem_of_getElem? (i := 16) rfl))) (mvT hZ (hw _ (List.mem_of_getElem? (i := 17) rfl))) (by decide) (backOf (W := 1) (rm_init l Z a0 hw [] mb h516 n0 Zn E_mb o516 F_mb_nameStarts F_mb_nameEnds F_mb_nameHashes F_mb_escapedNames F_mb_types F_mb_valueStarts F_mb_valueEnds F_mb_integerEnds F_mb_fractionEnds F_mb_slots F_mb_line F_mb_length F_mb_lineNumber F_mb_count F_mb_index F_mb_integerEnd F_mb_fractionEnd F_mb_pos) hZ (hw _ (List.mem_of_getElem? (i := 17) rfl)) (hw _ (List.mem_of_getElem? (i := 14) rfl)) (by decide) (by decide)) (g := (mkF m 211 #[.val (.int n1), .val (.int n2), .val (.int fg), .val (.int bk), .val (.int f1), .val (.int f2), .val (.int g1), .val (.int g2), .val (.int (Int32.ofNat c1)), .val (.int (Int32.ofNat c2)), .val (.ref li), .unset, .unset, .unset] [(.ref mb), (.ref mb)])) rfl (by rw [hml]; rfl) (Steps.refl _) (a := mb) (argsL := []) (rest := [(.ref mb)]) (lenOf pd__28_29V rfl) rfl (by show 2 * 0 + _ ≤ _; exact Nat.le_of_eq rfl) (hb hby at_211) (fun _ _ => ⟨rfl, e516, (by decide : 2 + 10 ≤ _), (by decide : 41 + 176 ≤ _)⟩)
  dsimp only [Pt.U, Pt.locs, Pt.cells, Pt.slots] at X517 l517 y517 z517 st517 hQ517
  have X517 := own_recast X517 l517 y517 z517
  obtain ⟨D, rfl, N517q, Ki, hD, hN, M, F_pos⟩ := hQ517
  have N := Fr.app N N517q
  have TB := own_tab_keep TB Ki (allS (own_forE (hw _ (List.mem_of_getElem? (i := 13) rfl)) (by decide) E_mb) all0)
  have hk := Nat.le_trans hk Ki.1
  have O := O.keep Ki (allS o516 all0)
  have A_li := A_li.keep Ki (ninS ne_li_mb nin0)
  have E_mb := E_mb.keep Ki
  have Zn : n0 ≤ _ := Nat.le_trans Zn Ki.1
  have K := K.trans Ki (allS (Or.inr z516) all0)
  refine own_trL (S' := (T517.setTop (mkF m 214 #[.val (.int n1), .val (.int n2), .val (.int fg), .val (.int bk), .val (.int f1), .val (.int f2), .val (.int g1), .val (.int g2), .val (.int (Int32.ofNat c1)), .val (.int (Int32.ofNat c2)), .val (.ref li), .unset, .unset, .unset] [(.ref mb)]))) st517 ?_
  have DI : own_di n0 mb li D := ⟨o516, fun i hi => Nat.le_trans Znb (hD i hi), own_nd (allS (Ne.symm ne_li_mb) (allS (Nat.ne_of_lt (Nat.lt_of_lt_of_le lt_mb (hD 0 (by decide)))) (allS (Nat.ne_of_lt (Nat.lt_of_lt_of_le lt_mb (hD 1 (by decide)))) (allS (Nat.ne_of_lt (Nat.lt_of_lt_of_le lt_mb (hD 2 (by decide)))) (allS (Nat.ne_of_lt (Nat.lt_of_lt_of_le lt_mb (hD 3 (by decide)))) (allS (Nat.ne_of_lt (Nat.lt_of_lt_of_le lt_mb (hD 4 (by decide)))) (allS (Nat.ne_of_lt (Nat.lt_of_lt_of_le lt_mb (hD 5 (by decide)))) (allS (Nat.ne_of_lt (Nat.lt_of_lt_of_le lt_mb (hD 6 (by decide)))) (allS (Nat.ne_of_lt (Nat.lt_of_lt_of_le lt_mb (hD 7 (by decide)))) (allS (Nat.ne_of_lt (Nat.lt_of_lt_of_le lt_mb (hD 8 (by decide)))) (allS (Nat.ne_of_lt (Nat.lt_of_lt_of_le lt_mb (hD 9 (by decide)))) all0))))))))))) (own_nd (allS (Nat.ne_of_lt (Nat.lt_of_lt_of_le lt_li (hD 0 (by decide)))) (allS (Nat.ne_of_lt (Nat.lt_of_lt_of_le lt_li (hD 1 (by decide)))) (allS (Nat.ne_of_lt (Nat.lt_of_lt_of_le lt_li (hD 2 (by decide)))) (allS (Nat.ne_of_lt (Nat.lt_of_lt_of_le lt_li (hD 3 (by decide)))) (allS (Nat.ne_of_lt (Nat.lt_of_lt_of_le lt_li (hD 4 (by decide)))) (allS (Nat.ne_of_lt (Nat.lt_of_lt_of_le lt_li (hD 5 (by decide)))) (allS (Nat.ne_of_lt (Nat.lt_of_lt_of_le lt_li (hD 6 (by decide)))) (allS (Nat.ne_of_lt (Nat.lt_of_lt_of_le lt_li (hD 7 (by decide)))) (allS (Nat.ne_of_lt (Nat.lt_of_lt_of_le lt_li (hD 8 (by decide)))) (allS (Nat.ne_of_lt (Nat.lt_of_lt_of_le lt_li (hD 9 (by decide)))) all0)))))))))) hN)⟩
  refine own_byL (S' := (T517.setTop (mkF m 223 #[.val (.int n1), .val (.int n2), .val (.int fg), .val (.int bk), .val (.int f1), .val (.int f2), .val (.int g1), .val (.int g2), .val (.int (Int32.ofNat c1)), .val (.int (Int32.ofNat c2)), .val (.ref li), .val (.ref mb), .unset, .unset] []))) (fun _ k => XS.astore X517.here hx rfl (hb hby at_214) rfl rfl (l' := #[.val (.int n1), .val (.int n2), .val (.int fg), .val (.int bk), .val (.int f1), .val (.int f2), .val (.int g1), .val (.int g2), .val (.int (Int32.ofNat c1)), .val (.int (Int32.ofNat c2)), .val (.ref li), .val (.ref mb), .unset, .unset]) rfl (XS.aload X517.here hx rfl (hb hby at_216) rfl rfl (XS.aload X517.here hx rfl (hb hby at_218) rfl rfl (XS.bipush X517.here hx rfl (hb hby at_220) (XS.lconst X517.here hx rfl (hb hby at_222) k))))) ?_
  obtain ⟨cq518, kq518, q518a, q518b, q518c⟩ := isOf hZ rfl E_mb
  obtain ⟨_, _, ⟨T518, L518, k518, n518⟩, -, X518, S518, G518, ⟨Lc518, hQ518, TB, l518, y518, z518⟩, st518⟩ := X517.virtualBackS hx (y := (⟨"com/example/upright_play/uprightplay/event/Members", "read", "([CIJ)V"⟩ : MethodName)) (z := (⟨"com/example/upright_play/uprightplay/event/Members", "read", "([CIJ)V"⟩ : MethodName)) hown (mvT hZ (hw _ (List.mem_of_getElem? (i := 47) rfl))) (mvT hZ (hw _ (List.mem_of_getElem? (i := 48) rfl))) (notFace_of_selects (args := #[]) (mvT hZ (hw _ (List.mem_of_getElem? (i := 50) rfl)))) (mvT hZ (hw _ (List.mem_of_getElem? (i := 50) rfl))) (mvT hZ (hw _ (List.mem_of_getElem? (i := 49) rfl))) (by decide) (own_backS (W := 0) (rm_read l Z a0 hw [] mb li D LN c1 c2 p1 q1 p2 q2 t1 t2 cs fo bo T517.heap n0 Zn M DI A_li F_pos HL O ⟨SC, hcs, SF, hfo, SB, EB⟩ HC HW) hZ (hw _ (List.mem_of_getElem? (i := 51) rfl)) (hw _ (List.mem_of_getElem? (i := 14) rfl)) (by decide) (by decide)) q518a q518c (g := (mkF m 223 #[.val (.int n1), .val (.int n2), .val (.int fg), .val (.int bk), .val (.int f1), .val (.int f2), .val (.int g1), .val (.int g2), .val (.int (Int32.ofNat c1)), .val (.int (Int32.ofNat c2)), .val (.ref li), .val (.ref mb), .unset, .unset] [(.long (1 : Int64)), (.int (23 : Int32)), (.ref li), (.ref mb)])) rfl (by rw [hml]; rfl) (Steps.refl _) (argsL := [(.ref li), (.int (23 : Int32)), (.long (1 : Int64))]) (rest := []) (lenOf pd__28_5bCIJ_29V rfl) rfl (by show 2 * 0 + _ ≤ _; exact Nat.le_of_eq rfl) (hb hby at_223) (fun _ hv => ⟨rfl, rfl, own_tab_warm TB hv, (by decide : 12 + 4 ≤ _), (by decide : 217 + 48 ≤ _)⟩)
  dsimp only [Pt.U, Pt.locs, Pt.cells, Pt.slots] at X518 l518 y518 z518 st518 hQ518
  have X518 := own_recast X518 l518 y518 z518
  dsimp only [Pt.U, Pt.locs, Pt.cells, Pt.slots] at S518 G518 TB
  obtain ⟨X518, hS, hZ, hown⟩ := rebS hS hk X518 S518 G518 hZ hown
  obtain ⟨rfl, N518q, Kr, M⟩ := hQ518
  have N := Fr.app N N518q
  have O := O.keep Kr (allS DI.1 (allS (DI.2.1 0 (by decide)) (allS (DI.2.1 1 (by decide)) (allS (DI.2.1 2 (by decide)) (allS (DI.2.1 3 (by decide)) (allS (DI.2.1 4 (by decide)) (allS (DI.2.1 5 (by decide)) (allS (DI.2.1 6 (by decide)) (allS (DI.2.1 7 (by decide)) (allS (DI.2.1 8 (by decide)) (allS (DI.2.1 9 (by decide)) all0)))))))))))
  have A_li := A_li.keep Kr (ninS ne_li_mb (ninS (own_pick DI.2.2 1 2 rfl rfl (by decide)) (ninS (own_pick DI.2.2 1 3 rfl rfl (by decide)) (ninS (own_pick DI.2.2 1 4 rfl rfl (by decide)) (ninS (own_pick DI.2.2 1 5 rfl rfl (by decide)) (ninS (own_pick DI.2.2 1 6 rfl rfl (by decide)) (ninS (own_pick DI.2.2 1 7 rfl rfl (by decide)) (ninS (own_pick DI.2.2 1 8 rfl rfl (by decide)) (ninS (own_pick DI.2.2 1 9 rfl rfl (by decide)) (ninS (own_pick DI.2.2 1 10 rfl rfl (by decide)) (ninS (own_pick DI.2.2 1 11 rfl rfl (by decide)) nin0)))))))))))
  have E_mb := E_mb.keep Kr
  have Zn : n0 ≤ _ := Nat.le_trans Zn Kr.1
  have K := K.trans Kr (allS (Or.inr z516) (allS (Or.inr (Nat.le_trans Kb.1 (hD 0 (by decide)))) (allS (Or.inr (Nat.le_trans Kb.1 (hD 1 (by decide)))) (allS (Or.inr (Nat.le_trans Kb.1 (hD 2 (by decide)))) (allS (Or.inr (Nat.le_trans Kb.1 (hD 3 (by decide)))) (allS (Or.inr (Nat.le_trans Kb.1 (hD 4 (by decide)))) (allS (Or.inr (Nat.le_trans Kb.1 (hD 5 (by decide)))) (allS (Or.inr (Nat.le_trans Kb.1 (hD 6 (by decide)))) (allS (Or.inr (Nat.le_trans Kb.1 (hD 7 (by decide)))) (allS (Or.inr (Nat.le_trans Kb.1 (hD 8 (by decide)))) (allS (Or.inr (Nat.le_trans Kb.1 (hD 9 (by decide)))) all0)))))))))))
  have hk : T518.heap.size ≤ T518.heap.size := Nat.le_refl _
  refine own_trL (S' := (T518.setTop (mkF m 226 #[.val (.int n1), .val (.int n2), .val (.int fg), .val (.int bk), .val (.int f1), .val (.int f2), .val (.int g1), .val (.int g2), .val (.int (Int32.ofNat c1)), .val (.int (Int32.ofNat c2)), .val (.ref li), .val (.ref mb), .unset, .unset] []))) st518 ?_
  have E_mb := M.1
  have F_line := M.2.2.2.2.2.2.2.2.2.2.2.1
  have F_len := M.2.2.2.2.2.2.2.2.2.2.2.2.1
  refine own_byL (S' := (T518.setTop (mkF m 230 #[.val (.int n1), .val (.int n2), .val (.int fg), .val (.int bk), .val (.int f1), .val (.int f2), .val (.int g1), .val (.int g2), .val (.int (Int32.ofNat c1)), .val (.int (Int32.ofNat c2)), .val (.ref li), .val (.ref mb), .unset, .unset] [(.int (Int32.ofNat c1)), (.ref mb)]))) (fun _ k => XS.aload X518.here hx rfl (hb hby at_226) rfl rfl (XS.iload X518.here hx rfl (hb hby at_228) rfl k)) ?_
  have TBs := TB
  have Zs := Zn
  have Ks0 := K
  obtain ⟨_, _, ⟨T519, L519, k519, n519⟩, -, X519, ⟨Lc519, hQ519, l519, y519, z519⟩, st519⟩ := Jvm.LawKit.callS X518 hx (y := (⟨"java/lang/String", "valueOf", "(C)Ljava/lang/String;"⟩ : MethodName)) hown (mvT hZ (hw _ (List.mem_of_getElem? (i := 170) rfl))) (mvT hZ (hw _ (List.mem_of_getElem? (i := 171) rfl))) (mvT hZ (hw _ (List.mem_of_getElem? (i := 97) rfl))) (mvT hZ (hw _ (List.mem_of_getElem? (i := 172) rfl))) (by decide) (backOf (W := 1) (rm_valueOf l Z a0 hw [] c1 cs fo bo T518.heap n0 Zn hk1.2.1 O ⟨SC, hcs, SF, hfo, SB, EB⟩) hZ (hw _ (List.mem_of_getElem? (i := 172) rfl)) (hw _ (List.mem_of_getElem? (i := 97) rfl)) (by decide) (by decide)) (g := (mkF m 230 #[.val (.int n1), .val (.int n2), .val (.int fg), .val (.int bk), .val (.int f1), .val (.int f2), .val (.int g1), .val (.int g2), .val (.int (Int32.ofNat c1)), .val (.int (Int32.ofNat c2)), .val (.ref li), .val (.ref mb), .unset, .unset] [(.int (Int32.ofNat c1)), (.ref mb)])) rfl (by rw [hml]; rfl) (argsL := [(.int (Int32.ofNat c1))]) (rest := [(.ref mb)]) (lenOf pd__28C_29Ljava_2flang_2fString_3b rfl) rfl (by show 2 * 0 + _ ≤ _; exact Nat.le_of_eq rfl) (hb hby at_230) (fun _ _ => ⟨rfl, rfl, (by decide : 16 + 2 ≤ _), (by decide : 265 + 5 ≤ _)⟩)
  dsimp only [Pt.U, Pt.locs, Pt.cells, Pt.slots] at X519 l519 y519 z519 st519 hQ519
  have X519 := own_recast X519 l519 y519 z519
  obtain ⟨sa0, sb0, rfl, N519q, Kv0, hsa0, S0, G0, H0⟩ := hQ519
  have N := Fr.app N N519q
  have hk := Nat.le_trans hk Kv0.1
  have O := O.keep Kv0 all0
  have A_li := A_li.keep Kv0 nin0
  have E_mb := E_mb.keep Kv0
  have M := own_M_keep M Kv0 (fun _ _ => nin0)
  have F_line := F_line.keep Kv0 nin0
  have F_len := F_len.keep Kv0 nin0
  have Zn : n0 ≤ _ := Nat.le_trans Zn Kv0.1
  have K := K.trans Kv0 all0
  refine own_byL (S' := (T519.setTop (mkF m 233 #[.val (.int n1), .val (.int n2), .val (.int fg), .val (.int bk), .val (.int f1), .val (.int f2), .val (.int g1), .val (.int g2), .val (.int (Int32.ofNat c1)), .val (.int (Int32.ofNat c2)), .val (.ref li), .val (.ref mb), .unset, .unset] [(.ref sa0), (.ref mb)]))) st519 ?_
  have hns0 := own_nes (hw _ (List.mem_of_getElem? (i := 98) rfl)) M A_li S0
  obtain ⟨cq520, kq520, q520a, q520b, q520c⟩ := isOf hZ rfl E_mb
  obtain ⟨_, _, ⟨T520, L520, k520, n520⟩, -, X520, ⟨Lc520, hQ520, l520, y520, z520⟩, st520⟩ := X519.virtualBack hx (y := (⟨"com/example/upright_play/uprightplay/event/Members", "find", "(Ljava/lang/String;)I"⟩ : MethodName)) (z := (⟨"com/example/upright_play/uprightplay/event/Members", "find", "(Ljava/lang/String;)I"⟩ : MethodName)) hown (mvT hZ (hw _ (List.mem_of_getElem? (i := 185) rfl))) (mvT hZ (hw _ (List.mem_of_getElem? (i := 186) rfl))) (notFace_of_selects (args := #[]) (mvT hZ (hw _ (List.mem_of_getElem? (i := 188) rfl)))) (mvT hZ (hw _ (List.mem_of_getElem? (i := 188) rfl))) (mvT hZ (hw _ (List.mem_of_getElem? (i := 187) rfl))) (by decide) (backOf (W := 0) (rm_find0 l Z a0 hw [] mb li D LN c1 c2 (Int32.ofNat p1) (Int32.ofNat q1) (Int32.ofNat p2) (Int32.ofNat q2) sa0 sb0 (((Int32.ofNat c1).toInt8.toInt32).toInt8.toInt32) cs fo bo T519.heap n0 Zn M DI A_li l2 S0 G0 H0 (Nat.le_trans Zs hsa0) (own_strne0 (hw _ (List.mem_of_getElem? (i := 98) rfl)) S0.1 S0.2.2.2) hns0 (own_b8 _ hk1.2.1) hk1 hk2 h12 O ⟨SC, hcs, SF, hfo, SB, EB⟩) hZ (hw _ (List.mem_of_getElem? (i := 189) rfl)) (hw _ (List.mem_of_getElem? (i := 14) rfl)) (by decide) (by decide)) q520a q520c (g := (mkF m 233 #[.val (.int n1), .val (.int n2), .val (.int fg), .val (.int bk), .val (.int f1), .val (.int f2), .val (.int g1), .val (.int g2), .val (.int (Int32.ofNat c1)), .val (.int (Int32.ofNat c2)), .val (.ref li), .val (.ref mb), .unset, .unset] [(.ref sa0), (.ref mb)])) rfl (by rw [hml]; rfl) (Steps.refl _) (argsL := [(.ref sa0)]) (rest := []) (lenOf pd__28Ljava_2flang_2fString_3b_29I rfl) rfl (by show 2 * 0 + _ ≤ _; exact Nat.le_of_eq rfl) (hb hby at_233) (fun _ _ => ⟨rfl, rfl, (by decide : 18 + 0 ≤ _), (by decide : 270 + 0 ≤ _)⟩)
  dsimp only [Pt.U, Pt.locs, Pt.cells, Pt.slots] at X520 l520 y520 z520 st520 hQ520
  have X520 := own_recast X520 l520 y520 z520
  obtain ⟨rfl, N520q, Kf0⟩ := hQ520
  have N := Fr.app N N520q
  have hk := Nat.le_trans hk Kf0.1
  have O := O.keep Kf0 (allS (Nat.le_trans Zs hsa0) all0)
  have A_li := A_li.keep Kf0 (ninS (hns0 _ (List.mem_of_getElem? (i := 1) rfl)) nin0)
  have E_mb := E_mb.keep Kf0
  have M := own_M_keep M Kf0 (own_sub hns0)
  have F_line := F_line.keep Kf0 (ninS (hns0 _ (List.mem_of_getElem? (i := 0) rfl)) nin0)
  have F_len := F_len.keep Kf0 (ninS (hns0 _ (List.mem_of_getElem? (i := 0) rfl)) nin0)
  have Zn : n0 ≤ _ := Nat.le_trans Zn Kf0.1
  have K := K.trans Kf0 (allS (Or.inr (Nat.le_trans Ks0.1 hsa0)) all0)
  refine own_trL (S' := (T520.setTop (mkF m 236 #[.val (.int n1), .val (.int n2), .val (.int fg), .val (.int bk), .val (.int f1), .val (.int f2), .val (.int g1), .val (.int g2), .val (.int (Int32.ofNat c1)), .val (.int (Int32.ofNat c2)), .val (.ref li), .val (.ref mb), .unset, .unset] [(.int (0 : Int32))]))) st520 ?_
  have TB := own_tab_keep TBs (Keep.trans Kv0 Kf0 (allS (Or.inr hsa0) all0)) all0
  refine own_byL (S' := (T520.setTop (mkF m 242 #[.val (.int n1), .val (.int n2), .val (.int fg), .val (.int bk), .val (.int f1), .val (.int f2), .val (.int g1), .val (.int g2), .val (.int (Int32.ofNat c1)), .val (.int (Int32.ofNat c2)), .val (.ref li), .val (.ref mb), .val (.int (0 : Int32)), .unset] [(.int (Int32.ofNat c2)), (.ref mb)]))) (fun _ k => XS.istore X520.here hx rfl (hb hby at_236) rfl (l' := #[.val (.int n1), .val (.int n2), .val (.int fg), .val (.int bk), .val (.int f1), .val (.int f2), .val (.int g1), .val (.int g2), .val (.int (Int32.ofNat c1)), .val (.int (Int32.ofNat c2)), .val (.ref li), .val (.ref mb), .val (.int (0 : Int32)), .unset]) rfl (XS.aload X520.here hx rfl (hb hby at_238) rfl rfl (XS.iload X520.here hx rfl (hb hby at_240) rfl k))) ?_
  have TBs := TB
  have Zs := Zn
  have Ks1 := K
  obtain ⟨_, _, ⟨T521, L521, k521, n521⟩, -, X521, ⟨Lc521, hQ521, l521, y521, z521⟩, st521⟩ := Jvm.LawKit.callS X520 hx (y := (⟨"java/lang/String", "valueOf", "(C)Ljava/lang/String;"⟩ : MethodName)) hown (mvT hZ (hw _ (List.mem_of_getElem? (i := 170) rfl))) (mvT hZ (hw _ (List.mem_of_getElem? (i := 171) rfl))) (mvT hZ (hw _ (List.mem_of_getElem? (i := 97) rfl))) (mvT hZ (hw _ (List.mem_of_getElem? (i := 172) rfl))) (by decide) (backOf (W := 1) (rm_valueOf l Z a0 hw [] c2 cs fo bo T520.heap n0 Zn hk2.2.1 O ⟨SC, hcs, SF, hfo, SB, EB⟩) hZ (hw _ (List.mem_of_getElem? (i := 172) rfl)) (hw _ (List.mem_of_getElem? (i := 97) rfl)) (by decide) (by decide)) (g := (mkF m 242 #[.val (.int n1), .val (.int n2), .val (.int fg), .val (.int bk), .val (.int f1), .val (.int f2), .val (.int g1), .val (.int g2), .val (.int (Int32.ofNat c1)), .val (.int (Int32.ofNat c2)), .val (.ref li), .val (.ref mb), .val (.int (0 : Int32)), .unset] [(.int (Int32.ofNat c2)), (.ref mb)])) rfl (by rw [hml]; rfl) (argsL := [(.int (Int32.ofNat c2))]) (rest := [(.ref mb)]) (lenOf pd__28C_29Ljava_2flang_2fString_3b rfl) rfl (by show 2 * 0 + _ ≤ _; exact Nat.le_of_eq rfl) (hb hby at_242) (fun _ _ => ⟨rfl, rfl, (by decide : 18 + 2 ≤ _), (by decide : 270 + 5 ≤ _)⟩)
  dsimp only [Pt.U, Pt.locs, Pt.cells, Pt.slots] at X521 l521 y521 z521 st521 hQ521
  have X521 := own_recast X521 l521 y521 z521
  obtain ⟨sa1, sb1, rfl, N521q, Kv1, hsa1, S1, G1, H1⟩ := hQ521
  have N := Fr.app N N521q
  have hk := Nat.le_trans hk Kv1.1
  have O := O.keep Kv1 all0
  have A_li := A_li.keep Kv1 nin0
  have E_mb := E_mb.keep Kv1
  have M := own_M_keep M Kv1 (fun _ _ => nin0)
  have F_line := F_line.keep Kv1 nin0
  have F_len := F_len.keep Kv1 nin0
  have Zn : n0 ≤ _ := Nat.le_trans Zn Kv1.1
  have K := K.trans Kv1 all0
  refine own_byL (S' := (T521.setTop (mkF m 245 #[.val (.int n1), .val (.int n2), .val (.int fg), .val (.int bk), .val (.int f1), .val (.int f2), .val (.int g1), .val (.int g2), .val (.int (Int32.ofNat c1)), .val (.int (Int32.ofNat c2)), .val (.ref li), .val (.ref mb), .val (.int (0 : Int32)), .unset] [(.ref sa1), (.ref mb)]))) st521 ?_
  have hns1 := own_nes (hw _ (List.mem_of_getElem? (i := 98) rfl)) M A_li S1
  obtain ⟨cq522, kq522, q522a, q522b, q522c⟩ := isOf hZ rfl E_mb
  obtain ⟨_, _, ⟨T522, L522, k522, n522⟩, -, X522, ⟨Lc522, hQ522, l522, y522, z522⟩, st522⟩ := X521.virtualBack hx (y := (⟨"com/example/upright_play/uprightplay/event/Members", "find", "(Ljava/lang/String;)I"⟩ : MethodName)) (z := (⟨"com/example/upright_play/uprightplay/event/Members", "find", "(Ljava/lang/String;)I"⟩ : MethodName)) hown (mvT hZ (hw _ (List.mem_of_getElem? (i := 185) rfl))) (mvT hZ (hw _ (List.mem_of_getElem? (i := 186) rfl))) (notFace_of_selects (args := #[]) (mvT hZ (hw _ (List.mem_of_getElem? (i := 188) rfl)))) (mvT hZ (hw _ (List.mem_of_getElem? (i := 188) rfl))) (mvT hZ (hw _ (List.mem_of_getElem? (i := 187) rfl))) (by decide) (backOf (W := 0) (rm_find1 l Z a0 hw [] mb li D LN c1 c2 (Int32.ofNat p1) (Int32.ofNat q1) (Int32.ofNat p2) (Int32.ofNat q2) sa1 sb1 (((Int32.ofNat c2).toInt8.toInt32).toInt8.toInt32) cs fo bo T521.heap n0 Zn M DI A_li l13 S1 G1 H1 (Nat.le_trans Zs hsa1) (own_strne0 (hw _ (List.mem_of_getElem? (i := 98) rfl)) S1.1 S1.2.2.2) hns1 (own_b8 _ hk2.2.1) hk1 hk2 h12 O ⟨SC, hcs, SF, hfo, SB, EB⟩) hZ (hw _ (List.mem_of_getElem? (i := 189) rfl)) (hw _ (List.mem_of_getElem? (i := 14) rfl)) (by decide) (by decide)) q522a q522c (g := (mkF m 245 #[.val (.int n1), .val (.int n2), .val (.int fg), .val (.int bk), .val (.int f1), .val (.int f2), .val (.int g1), .val (.int g2), .val (.int (Int32.ofNat c1)), .val (.int (Int32.ofNat c2)), .val (.ref li), .val (.ref mb), .val (.int (0 : Int32)), .unset] [(.ref sa1), (.ref mb)])) rfl (by rw [hml]; rfl) (Steps.refl _) (argsL := [(.ref sa1)]) (rest := []) (lenOf pd__28Ljava_2flang_2fString_3b_29I rfl) rfl (by show 2 * 0 + _ ≤ _; exact Nat.le_of_eq rfl) (hb hby at_245) (fun _ _ => ⟨rfl, rfl, (by decide : 20 + 0 ≤ _), (by decide : 275 + 0 ≤ _)⟩)
  dsimp only [Pt.U, Pt.locs, Pt.cells, Pt.slots] at X522 l522 y522 z522 st522 hQ522
  have X522 := own_recast X522 l522 y522 z522
  obtain ⟨rfl, N522q, Kf1⟩ := hQ522
  have N := Fr.app N N522q
  have hk := Nat.le_trans hk Kf1.1
  have O := O.keep Kf1 (allS (Nat.le_trans Zs hsa1) all0)
  have A_li := A_li.keep Kf1 (ninS (hns1 _ (List.mem_of_getElem? (i := 1) rfl)) nin0)
  have E_mb := E_mb.keep Kf1
  have M := own_M_keep M Kf1 (own_sub hns1)
  have F_line := F_line.keep Kf1 (ninS (hns1 _ (List.mem_of_getElem? (i := 0) rfl)) nin0)
  have F_len := F_len.keep Kf1 (ninS (hns1 _ (List.mem_of_getElem? (i := 0) rfl)) nin0)
  have Zn : n0 ≤ _ := Nat.le_trans Zn Kf1.1
  have K := K.trans Kf1 (allS (Or.inr (Nat.le_trans Ks1.1 hsa1)) all0)
  refine own_trL (S' := (T522.setTop (mkF m 248 #[.val (.int n1), .val (.int n2), .val (.int fg), .val (.int bk), .val (.int f1), .val (.int f2), .val (.int g1), .val (.int g2), .val (.int (Int32.ofNat c1)), .val (.int (Int32.ofNat c2)), .val (.ref li), .val (.ref mb), .val (.int (0 : Int32)), .unset] [(.int (1 : Int32))]))) st522 ?_
  have TB := own_tab_keep TBs (Keep.trans Kv1 Kf1 (allS (Or.inr hsa1) all0)) all0
  refine own_byL (S' := (T522.setTop (mkF m 252 #[.val (.int n1), .val (.int n2), .val (.int fg), .val (.int bk), .val (.int f1), .val (.int f2), .val (.int g1), .val (.int g2), .val (.int (Int32.ofNat c1)), .val (.int (Int32.ofNat c2)), .val (.ref li), .val (.ref mb), .val (.int (0 : Int32)), .val (.int (1 : Int32))] []))) (fun _ k => XS.istore X522.here hx rfl (hb hby at_248) rfl (l' := #[.val (.int n1), .val (.int n2), .val (.int fg), .val (.int bk), .val (.int f1), .val (.int f2), .val (.int g1), .val (.int g2), .val (.int (Int32.ofNat c1)), .val (.int (Int32.ofNat c2)), .val (.ref li), .val (.ref mb), .val (.int (0 : Int32)), .val (.int (1 : Int32))]) rfl (XS.aload X522.here hx rfl (hb hby at_250) rfl rfl k)) ?_
  obtain ⟨cq523, kq523, q523a, q523b, q523c⟩ := isOf hZ rfl E_mb
  obtain ⟨_, _, ⟨T523, L523, k523, n523⟩, -, X523, ⟨Lc523, hQ523, l523, y523, z523⟩, st523⟩ := X522.virtualBack hx (y := (⟨"com/example/upright_play/uprightplay/event/Members", "size", "()I"⟩ : MethodName)) (z := (⟨"com/example/upright_play/uprightplay/event/Members", "size", "()I"⟩ : MethodName)) hown (mvT hZ (hw _ (List.mem_of_getElem? (i := 213) rfl))) (mvT hZ (hw _ (List.mem_of_getElem? (i := 214) rfl))) (notFace_of_selects (args := #[]) (mvT hZ (hw _ (List.mem_of_getElem? (i := 216) rfl)))) (mvT hZ (hw _ (List.mem_of_getElem? (i := 216) rfl))) (mvT hZ (hw _ (List.mem_of_getElem? (i := 215) rfl))) (by decide) (backOf (W := 0) (rm_size l Z a0 hw [] mb li D LN (own_V2 c1 c2 (Int32.ofNat p1) (Int32.ofNat q1) (Int32.ofNat p2) (Int32.ofNat q2) bo) T522.heap n0 Zn M) hZ (hw _ (List.mem_of_getElem? (i := 217) rfl)) (hw _ (List.mem_of_getElem? (i := 14) rfl)) (by decide) (by decide)) q523a q523c (g := (mkF m 252 #[.val (.int n1), .val (.int n2), .val (.int fg), .val (.int bk), .val (.int f1), .val (.int f2), .val (.int g1), .val (.int g2), .val (.int (Int32.ofNat c1)), .val (.int (Int32.ofNat c2)), .val (.ref li), .val (.ref mb), .val (.int (0 : Int32)), .val (.int (1 : Int32))] [(.ref mb)])) rfl (by rw [hml]; rfl) (Steps.refl _) (argsL := []) (rest := []) (lenOf pd__28_29I rfl) rfl (by show 2 * 0 + _ ≤ _; exact Nat.le_of_eq rfl) (hb hby at_252) (fun _ _ => ⟨rfl, rfl, (by decide : 20 + 0 ≤ _), (by decide : 275 + 0 ≤ _)⟩)
  dsimp only [Pt.U, Pt.locs, Pt.cells, Pt.slots] at X523 l523 y523 z523 st523 hQ523
  have X523 := own_recast X523 l523 y523 z523
  obtain ⟨rfl, N523q, ez⟩ := hQ523
  have N := Fr.app N N523q
  refine own_trL (S' := (T523.setTop (mkF m 255 #[.val (.int n1), .val (.int n2), .val (.int fg), .val (.int bk), .val (.int f1), .val (.int f2), .val (.int g1), .val (.int g2), .val (.int (Int32.ofNat c1)), .val (.int (Int32.ofNat c2)), .val (.ref li), .val (.ref mb), .val (.int (0 : Int32)), .val (.int (1 : Int32))] [(.int (2 : Int32))]))) st523 ?_
  refine own_byL (S' := (T523.setTop (mkF m 276 #[.val (.int n1), .val (.int n2), .val (.int fg), .val (.int bk), .val (.int f1), .val (.int f2), .val (.int g1), .val (.int g2), .val (.int (Int32.ofNat c1)), .val (.int (Int32.ofNat c2)), .val (.ref li), .val (.ref mb), .val (.int (0 : Int32)), .val (.int (1 : Int32))] []))) (fun _ k => XS.iconst X523.here hx rfl (hb hby at_255) (XS.icmpNo X523.here hx rfl (hb hby at_256) rfl (teq ((by decide) : (2 : Int32) = (2 : Int32))).2 (XS.iload X523.here hx rfl (hb hby at_259) rfl (XS.ifNo X523.here hx rfl (hb hby at_261) rfl ((if0 _ _).trans (teq ((by decide) : (0 : Int32) = (0 : Int32))).2) (XS.iload X523.here hx rfl (hb hby at_264) rfl (XS.iconst X523.here hx rfl (hb hby at_266) (XS.icmpYes X523.here hx rfl (pc0 := 267) (pc' := 272) rfl (hb hby at_267) rfl (teq ((by decide) : (1 : Int32) = (1 : Int32))).1 (by decide) (by decide) (XS.aload X523.here hx rfl (hb hby at_272) rfl rfl (XS.iload X523.here hx rfl (hb hby at_274) rfl k))))))))) ?_
  obtain ⟨cq524, kq524, q524a, q524b, q524c⟩ := isOf hZ ez E_mb
  obtain ⟨_, _, ⟨T524, L524, k524, n524⟩, -, X524, ⟨Lc524, hQ524, l524, y524, z524⟩, st524⟩ := X523.virtualBack hx (y := (⟨"com/example/upright_play/uprightplay/event/Members", "type", "(I)Lcom/example/upright_play/uprightplay/event/Members$Type;"⟩ : MethodName)) (z := (⟨"com/example/upright_play/uprightplay/event/Members", "type", "(I)Lcom/example/upright_play/uprightplay/event/Members$Type;"⟩ : MethodName)) hown (mvT hZ (hw _ (List.mem_of_getElem? (i := 218) rfl))) (mvT hZ (hw _ (List.mem_of_getElem? (i := 219) rfl))) (notFace_of_selects (args := #[]) (mvT hZ (hw _ (List.mem_of_getElem? (i := 221) rfl)))) (mvT hZ (hw _ (List.mem_of_getElem? (i := 221) rfl))) (mvT hZ (hw _ (List.mem_of_getElem? (i := 220) rfl))) (by decide) (backOf (W := 0) (rm_type0 l Z a0 hw [] mb li D LN c1 c2 (Int32.ofNat p1) (Int32.ofNat q1) (Int32.ofNat p2) (Int32.ofNat q2) bo T522.heap n0 Zn M) hZ (hw _ (List.mem_of_getElem? (i := 222) rfl)) (hw _ (List.mem_of_getElem? (i := 14) rfl)) (by decide) (by decide)) q524a q524c (g := (mkF m 276 #[.val (.int n1), .val (.int n2), .val (.int fg), .val (.int bk), .val (.int f1), .val (.int f2), .val (.int g1), .val (.int g2), .val (.int (Int32.ofNat c1)), .val (.int (Int32.ofNat c2)), .val (.ref li), .val (.ref mb), .val (.int (0 : Int32)), .val (.int (1 : Int32))] [(.int (0 : Int32)), (.ref mb)])) rfl (by rw [hml]; rfl) (Steps.refl _) (argsL := [(.int (0 : Int32))]) (rest := []) (lenOf pd__28I_29Lcom_2fexample_2fupright_5fplay_2fuprightplay_2fevent_2fMembers_24Type_3b rfl) rfl (by show 2 * 0 + _ ≤ _; exact Nat.le_of_eq rfl) (hb hby at_276) (fun _ _ => ⟨rfl, ez, (by decide : 20 + 0 ≤ _), (by decide : 275 + 0 ≤ _)⟩)
  dsimp only [Pt.U, Pt.locs, Pt.cells, Pt.slots] at X524 l524 y524 z524 st524 hQ524
  have X524 := own_recast X524 l524 y524 z524
  obtain ⟨rfl, N524q, ey0⟩ := hQ524
  have N := Fr.app N N524q
  refine own_trL (S' := (T524.setTop (mkF m 279 #[.val (.int n1), .val (.int n2), .val (.int fg), .val (.int bk), .val (.int f1), .val (.int f2), .val (.int g1), .val (.int g2), .val (.int (Int32.ofNat c1)), .val (.int (Int32.ofNat c2)), .val (.ref li), .val (.ref mb), .val (.int (0 : Int32)), .val (.int (1 : Int32))] [(.ref bo)]))) st524 ?_
  obtain ⟨T525, X525, e525, st525⟩ := getS2 X524 hx hZ hown (host := "") (Or.inl (hw _ (List.mem_of_getElem? (i := 223) rfl))) Via.refl ey0 (SB.ext O.2) (g := (mkF m 279 #[.val (.int n1), .val (.int n2), .val (.int fg), .val (.int bk), .val (.int f1), .val (.int f2), .val (.int g1), .val (.int g2), .val (.int (Int32.ofNat c1)), .val (.int (Int32.ofNat c2)), .val (.ref li), .val (.ref mb), .val (.int (0 : Int32)), .val (.int (1 : Int32))] [(.ref bo)])) rfl (hb hby at_279)
  refine own_byL (S' := (T525.setTop (mkF m 282 #[.val (.int n1), .val (.int n2), .val (.int fg), .val (.int bk), .val (.int f1), .val (.int f2), .val (.int g1), .val (.int g2), .val (.int (Int32.ofNat c1)), .val (.int (Int32.ofNat c2)), .val (.ref li), .val (.ref mb), .val (.int (0 : Int32)), .val (.int (1 : Int32))] [(.ref bo), (.ref bo)]))) st525 ?_
  refine own_byL (S' := (T525.setTop (mkF m 289 #[.val (.int n1), .val (.int n2), .val (.int fg), .val (.int bk), .val (.int f1), .val (.int f2), .val (.int g1), .val (.int g2), .val (.int (Int32.ofNat c1)), .val (.int (Int32.ofNat c2)), .val (.ref li), .val (.ref mb), .val (.int (0 : Int32)), .val (.int (1 : Int32))] []))) (fun _ k => Jvm.RoadKit.acmp (g := (mkF m 282 #[.val (.int n1), .val (.int n2), .val (.int fg), .val (.int bk), .val (.int f1), .val (.int f2), .val (.int g1), .val (.int g2), .val (.int (Int32.ofNat c1)), .val (.int (Int32.ofNat c2)), .val (.ref li), .val (.ref mb), .val (.int (0 : Int32)), .val (.int (1 : Int32))] [(.ref bo), (.ref bo)])) X525 hx rfl rfl rfl (pc0 := 282) (pc' := 285) (same := true) rfl (hb hby at_282) rfl (decide_eq_true rfl) (by decide) (by decide) (XS.aload X525.here hx rfl (hb hby at_285) rfl rfl (XS.iload X525.here hx rfl (hb hby at_287) rfl k))) ?_
  obtain ⟨cq526, kq526, q526a, q526b, q526c⟩ := isOf hZ e525 E_mb
  obtain ⟨_, _, ⟨T526, L526, k526, n526⟩, -, X526, ⟨Lc526, hQ526, l526, y526, z526⟩, st526⟩ := X525.virtualBack hx (y := (⟨"com/example/upright_play/uprightplay/event/Members", "type", "(I)Lcom/example/upright_play/uprightplay/event/Members$Type;"⟩ : MethodName)) (z := (⟨"com/example/upright_play/uprightplay/event/Members", "type", "(I)Lcom/example/upright_play/uprightplay/event/Members$Type;"⟩ : MethodName)) hown (mvT hZ (hw _ (List.mem_of_getElem? (i := 218) rfl))) (mvT hZ (hw _ (List.mem_of_getElem? (i := 219) rfl))) (notFace_of_selects (args := #[]) (mvT hZ (hw _ (List.mem_of_getElem? (i := 221) rfl)))) (mvT hZ (hw _ (List.mem_of_getElem? (i := 221) rfl))) (mvT hZ (hw _ (List.mem_of_getElem? (i := 220) rfl))) (by decide) (backOf (W := 0) (rm_type1 l Z a0 hw [] mb li D LN c1 c2 (Int32.ofNat p1) (Int32.ofNat q1) (Int32.ofNat p2) (Int32.ofNat q2) bo T522.heap n0 Zn M) hZ (hw _ (List.mem_of_getElem? (i := 222) rfl)) (hw _ (List.mem_of_getElem? (i := 14) rfl)) (by decide) (by decide)) q526a q526c (g := (mkF m 289 #[.val (.int n1), .val (.int n2), .val (.int fg), .val (.int bk), .val (.int f1), .val (.int f2), .val (.int g1), .val (.int g2), .val (.int (Int32.ofNat c1)), .val (.int (Int32.ofNat c2)), .val (.ref li), .val (.ref mb), .val (.int (0 : Int32)), .val (.int (1 : Int32))] [(.int (1 : Int32)), (.ref mb)])) rfl (by rw [hml]; rfl) (Steps.refl _) (argsL := [(.int (1 : Int32))]) (rest := []) (lenOf pd__28I_29Lcom_2fexample_2fupright_5fplay_2fuprightplay_2fevent_2fMembers_24Type_3b rfl) rfl (by show 2 * 0 + _ ≤ _; exact Nat.le_of_eq rfl) (hb hby at_289) (fun _ _ => ⟨rfl, e525, (by decide : 20 + 0 ≤ _), (by decide : 275 + 0 ≤ _)⟩)
  dsimp only [Pt.U, Pt.locs, Pt.cells, Pt.slots] at X526 l526 y526 z526 st526 hQ526
  have X526 := own_recast X526 l526 y526 z526
  obtain ⟨rfl, N526q, ey1⟩ := hQ526
  have N := Fr.app N N526q
  refine own_trL (S' := (T526.setTop (mkF m 292 #[.val (.int n1), .val (.int n2), .val (.int fg), .val (.int bk), .val (.int f1), .val (.int f2), .val (.int g1), .val (.int g2), .val (.int (Int32.ofNat c1)), .val (.int (Int32.ofNat c2)), .val (.ref li), .val (.ref mb), .val (.int (0 : Int32)), .val (.int (1 : Int32))] [(.ref bo)]))) st526 ?_
  obtain ⟨T527, X527, e527, st527⟩ := getS2 X526 hx hZ hown (host := "") (Or.inl (hw _ (List.mem_of_getElem? (i := 223) rfl))) Via.refl ey1 (SB.ext O.2) (g := (mkF m 292 #[.val (.int n1), .val (.int n2), .val (.int fg), .val (.int bk), .val (.int f1), .val (.int f2), .val (.int g1), .val (.int g2), .val (.int (Int32.ofNat c1)), .val (.int (Int32.ofNat c2)), .val (.ref li), .val (.ref mb), .val (.int (0 : Int32)), .val (.int (1 : Int32))] [(.ref bo)])) rfl (hb hby at_292)
  refine own_byL (S' := (T527.setTop (mkF m 295 #[.val (.int n1), .val (.int n2), .val (.int fg), .val (.int bk), .val (.int f1), .val (.int f2), .val (.int g1), .val (.int g2), .val (.int (Int32.ofNat c1)), .val (.int (Int32.ofNat c2)), .val (.ref li), .val (.ref mb), .val (.int (0 : Int32)), .val (.int (1 : Int32))] [(.ref bo), (.ref bo)]))) st527 ?_
  refine own_byL (S' := (T527.setTop (mkF m 304 #[.val (.int n1), .val (.int n2), .val (.int fg), .val (.int bk), .val (.int f1), .val (.int f2), .val (.int g1), .val (.int g2), .val (.int (Int32.ofNat c1)), .val (.int (Int32.ofNat c2)), .val (.ref li), .val (.ref mb), .val (.int (0 : Int32)), .val (.int (1 : Int32))] []))) (fun _ k => Jvm.RoadKit.acmp (g := (mkF m 295 #[.val (.int n1), .val (.int n2), .val (.int fg), .val (.int bk), .val (.int f1), .val (.int f2), .val (.int g1), .val (.int g2), .val (.int (Int32.ofNat c1)), .val (.int (Int32.ofNat c2)), .val (.ref li), .val (.ref mb), .val (.int (0 : Int32)), .val (.int (1 : Int32))] [(.ref bo), (.ref bo)])) X527 hx rfl rfl rfl (pc0 := 295) (pc' := 300) (same := true) rfl (hb hby at_295) rfl (decide_eq_true rfl) (by decide) (by decide) (XS.aload X527.here hx rfl (hb hby at_300) rfl rfl (XS.iload X527.here hx rfl (hb hby at_302) rfl k))) ?_
  obtain ⟨cq528, kq528, q528a, q528b, q528c⟩ := isOf hZ e527 E_mb
  obtain ⟨_, _, ⟨T528, L528, k528, n528⟩, -, X528, ⟨Lc528, hQ528, l528, y528, z528⟩, st528⟩ := X527.virtualBack hx (y := (⟨"com/example/upright_play/uprightplay/event/Members", "bool", "(I)Z"⟩ : MethodName)) (z := (⟨"com/example/upright_play/uprightplay/event/Members", "bool", "(I)Z"⟩ : MethodName)) hown (mvT hZ (hw _ (List.mem_of_getElem? (i := 224) rfl))) (mvT hZ (hw _ (List.mem_of_getElem? (i := 225) rfl))) (notFace_of_selects (args := #[]) (mvT hZ (hw _ (List.mem_of_getElem? (i := 227) rfl)))) (mvT hZ (hw _ (List.mem_of_getElem? (i := 227) rfl))) (mvT hZ (hw _ (List.mem_of_getElem? (i := 226) rfl))) (by decide) (backOf (W := 0) (rm_bool0 l Z a0 hw [] mb li D LN c1 c2 (Int32.ofNat p1) (Int32.ofNat q1) (Int32.ofNat p2) (Int32.ofNat q2) bo z1 T522.heap n0 Zn M DI A_li (own_nn (by omega)) (own_at (by omega) hz1)) hZ (hw _ (List.mem_of_getElem? (i := 228) rfl)) (hw _ (List.mem_of_getElem? (i := 14) rfl)) (by decide) (by decide)) q528a q528c (g := (mkF m 304 #[.val (.int n1), .val (.int n2), .val (.int fg), .val (.int bk), .val (.int f1), .val (.int f2), .val (.int g1), .val (.int g2), .val (.int (Int32.ofNat c1)), .val (.int (Int32.ofNat c2)), .val (.ref li), .val (.ref mb), .val (.int (0 : Int32)), .val (.int (1 : Int32))] [(.int (0 : Int32)), (.ref mb)])) rfl (by rw [hml]; rfl) (Steps.refl _) (argsL := [(.int (0 : Int32))]) (rest := []) (lenOf pd__28I_29Z rfl) rfl (by show 2 * 0 + _ ≤ _; exact Nat.le_of_eq rfl) (hb hby at_304) (fun _ _ => ⟨rfl, e527, (by decide : 20 + 0 ≤ _), (by decide : 275 + 0 ≤ _)⟩)
  dsimp only [Pt.U, Pt.locs, Pt.cells, Pt.slots] at X528 l528 y528 z528 st528 hQ528
  have X528 := own_recast X528 l528 y528 z528
  obtain ⟨rfl, N528q, ew0⟩ := hQ528
  have N := Fr.app N N528q
  refine own_trL (S' := (T528.setTop (mkF m 307 #[.val (.int n1), .val (.int n2), .val (.int fg), .val (.int bk), .val (.int f1), .val (.int f2), .val (.int g1), .val (.int g2), .val (.int (Int32.ofNat c1)), .val (.int (Int32.ofNat c2)), .val (.ref li), .val (.ref mb), .val (.int (0 : Int32)), .val (.int (1 : Int32))] [(.int (own_t z1))]))) st528 ?_
  refine own_byL (S' := (T528.setTop (mkF m 316 #[.val (.int n1), .val (.int n2), .val (.int fg), .val (.int bk), .val (.int f1), .val (.int f2), .val (.int g1), .val (.int g2), .val (.int (Int32.ofNat c1)), .val (.int (Int32.ofNat c2)), .val (.ref li), .val (.ref mb), .val (.int (0 : Int32)), .val (.int (1 : Int32))] []))) (fun _ k => XS.iload X528.here hx rfl (hb hby at_307) rfl (XS.icmpNo X528.here hx rfl (hb hby at_309) rfl (teq (ht1 : (own_t z1) = f1)).2 (XS.aload X528.here hx rfl (hb hby at_312) rfl rfl (XS.iload X528.here hx rfl (hb hby at_314) rfl k)))) ?_
  obtain ⟨cq529, kq529, q529a, q529b, q529c⟩ := isOf hZ ew0 E_mb
  obtain ⟨_, _, ⟨T529, L529, k529, n529⟩, -, X529, ⟨Lc529, hQ529, l529, y529, z529⟩, st529⟩ := X528.virtualBack hx (y := (⟨"com/example/upright_play/uprightplay/event/Members", "bool", "(I)Z"⟩ : MethodName)) (z := (⟨"com/example/upright_play/uprightplay/event/Members", "bool", "(I)Z"⟩ : MethodName)) hown (mvT hZ (hw _ (List.mem_of_getElem? (i := 224) rfl))) (mvT hZ (hw _ (List.mem_of_getElem? (i := 225) rfl))) (notFace_of_selects (args := #[]) (mvT hZ (hw _ (List.mem_of_getElem? (i := 227) rfl)))) (mvT hZ (hw _ (List.mem_of_getElem? (i := 227) rfl))) (mvT hZ (hw _ (List.mem_of_getElem? (i := 226) rfl))) (by decide) (backOf (W := 0) (rm_bool1 l Z a0 hw [] mb li D LN c1 c2 (Int32.ofNat p1) (Int32.ofNat q1) (Int32.ofNat p2) (Int32.ofNat q2) bo z2 T522.heap n0 Zn M DI A_li (own_nn (by omega)) (own_at (by omega) hz2)) hZ (hw _ (List.mem_of_getElem? (i := 228) rfl)) (hw _ (List.mem_of_getElem? (i := 14) rfl)) (by decide) (by decide)) q529a q529c (g := (mkF m 316 #[.val (.int n1), .val (.int n2), .val (.int fg), .val (.int bk), .val (.int f1), .val (.int f2), .val (.int g1), .val (.int g2), .val (.int (Int32.ofNat c1)), .val (.int (Int32.ofNat c2)), .val (.ref li), .val (.ref mb), .val (.int (0 : Int32)), .val (.int (1 : Int32))] [(.int (1 : Int32)), (.ref mb)])) rfl (by rw [hml]; rfl) (Steps.refl _) (argsL := [(.int (1 : Int32))]) (rest := []) (lenOf pd__28I_29Z rfl) rfl (by show 2 * 0 + _ ≤ _; exact Nat.le_of_eq rfl) (hb hby at_316) (fun _ _ => ⟨rfl, ew0, (by decide : 20 + 0 ≤ _), (by decide : 275 + 0 ≤ _)⟩)
  dsimp only [Pt.U, Pt.locs, Pt.cells, Pt.slots] at X529 l529 y529 z529 st529 hQ529
  have X529 := own_recast X529 l529 y529 z529
  obtain ⟨rfl, N529q, ew1⟩ := hQ529
  have N := Fr.app N N529q
  refine own_trL (S' := (T529.setTop (mkF m 319 #[.val (.int n1), .val (.int n2), .val (.int fg), .val (.int bk), .val (.int f1), .val (.int f2), .val (.int g1), .val (.int g2), .val (.int (Int32.ofNat c1)), .val (.int (Int32.ofNat c2)), .val (.ref li), .val (.ref mb), .val (.int (0 : Int32)), .val (.int (1 : Int32))] [(.int (own_t z2))]))) st529 ?_
  refine own_byL (S' := (T529.setTop (mkF m 329 #[.val (.int n1), .val (.int n2), .val (.int fg), .val (.int bk), .val (.int f1), .val (.int f2), .val (.int g1), .val (.int g2), .val (.int (Int32.ofNat c1)), .val (.int (Int32.ofNat c2)), .val (.ref li), .val (.ref mb), .val (.int (0 : Int32)), .val (.int (1 : Int32))] [(.int (1 : Int32))]))) (fun _ k => XS.iload X529.here hx rfl (hb hby at_319) rfl (XS.icmpNo X529.here hx rfl (hb hby at_321) rfl (teq (ht2 : (own_t z2) = f2)).2 (XS.iconst X529.here hx rfl (hb hby at_324) (XS.goto X529.here hx rfl (pc0 := 325) (pc' := 329) rfl (hb hby at_325) (by decide) (by decide) k)))) ?_
  exact own_retL X529 hx hS ew1 hk (t := .boolean) Bd.returns rfl (Or.inl ⟨rfl, by simp, _, rfl⟩) (hb hby at_329) hlk (by decide : 20 ≤ _) (by decide : 275 ≤ _) ⟨rfl, N⟩
theorem own_ncs {s : State} {args : Array Value} {cs : Int32} (e : (Term.static "java/lang/String" "COMPACT_STRINGS" "Z").eval args s none [] s = some (.int cs)) (w : (Cond.not (.eq (.static "java/lang/String" "COMPACT_STRINGS" "Z") (.int 0))).before args s = true) : cs ≠ 0 := fun q => by
  subst q
  simp [Cond.before, Cond.holds, Cond.value, e, Term.int_eval] at w
theorem own_isref {s : State} {args : Array Value} {t : Term} (w : (Cond.isRef t).before args s = true) : ∃ v, t.eval args s none [] s = some v ∧ (v = .null ∨ ∃ a, v = .ref a) := by
  simp only [Cond.before, Cond.holds, Cond.value] at w
  cases h : t.eval args s none [] s with
  | none => simp [h] at w
  | some v => cases v <;> simp [h] at w ⊢
set_option maxRecDepth 65536 in
set_option maxHeartbeats 40000000 in
theorem comes_1 {Post : Tables → Env → Array Value → State → Outcome → State → Prop} (hpost : ∀ tb e args s v u, (limb_1_1.after args s (.returned v) u = true ∧ limb_1_2.after args s (.returned v) u = true ∧ True) → ReturnedEndW s (.returned v) u (Jvm.fieldLocs frame_1_writes args s ++ Jvm.arrayLocs frame_1_arrays args s ++ Jvm.staticLocs frame_1_statics s) 48 2624 → Post tb e args s (.returned v) u) :
    ArmFor flags0 classFile x code maxLocals ret World_1 tables_1 room_1 Calls_1 rest_1 Pre_1 Post := by
  intro l hfl _ _ p e ha hc hk s m args below hf hA hF happ hP
  obtain ⟨hcalls, hrest, hpre⟩ := hP
  obtain ⟨-, -, -, hnamed, -, -, -, hat⟩ := (Spec.applies_iff hf).mp happ
  obtain ⟨hg, hn⟩ := and_e (Cond.before_iff.mp (show (Jvm.Cond.and given_1 narrow_1).before args s = true from hpre))
  obtain ⟨gc, gr⟩ := and_e hg
  obtain ⟨g0, gr⟩ := and_e gr
  obtain ⟨g1, gr⟩ := and_e gr
  obtain ⟨g2, gr⟩ := and_e gr
  have g3 := gr
  obtain ⟨w0, w1, w2, w3, rfl⟩ : ∃ w0 w1 w2 w3 : Value, args = #[w0, w1, w2, w3] := by
    have hs : args.size = 4 := by simpa [Cond.value, given_1] using gc
    obtain ⟨L⟩ := args
    match L, hs with
    | [w0, w1, w2, w3], _ => exact ⟨w0, w1, w2, w3, rfl⟩
  have hw := fun d (hd : d ∈ tables_1) => atoms_spec (ws := Jvm.Cond.code x code maxLocals ret :: tables_1) hat d (List.mem_cons_of_mem _ hd)
  have hfit : Fit s := fun {y c} hc i hi => by
    obtain ⟨ha, rfl⟩ := Array.getElem?_eq_some_iff.mp hc
    have q := List.all_eq_true.mp ((Array.all_eq_true_iff_forall_mem.mp hF) _ (Array.getElem_mem ha)) i (List.mem_range.mpr hi)
    simpa [Array.getElem?_eq_getElem hi] using q
  obtain ⟨hsets, hown0⟩ := atoms_of _ (rest_1_c_eq ▸ (show rest_1_c.before _ s = true from hrest))
  obtain ⟨i0, ei0⟩ := is_v g0
  obtain rfl : w0 = (.int i0) := Option.some.inj ei0
  obtain ⟨i1, ei1⟩ := is_v g1
  obtain rfl : w1 = (.int i1) := Option.some.inj ei1
  obtain ⟨i2, ei2⟩ := is_v g2
  obtain rfl : w2 = (.int i2) := Option.some.inj ei2
  obtain ⟨i3, ei3⟩ := is_v g3
  obtain rfl : w3 = (.int i3) := Option.some.inj ei3
  obtain ⟨cs, ecs⟩ := is_v (Cond.before_iff.mp (hsets _ (List.mem_of_getElem? (i := 1) rfl)))
  have SC := Sta.start ecs (Or.inl (hsets _ (List.mem_of_getElem? (i := 0) rfl)))
  have hcs : cs ≠ 0 := own_ncs ecs (hsets _ (List.mem_of_getElem? (i := 2) rfl))
  obtain ⟨fo, efo, hfo⟩ := own_isref (hsets _ (List.mem_of_getElem? (i := 8) rfl))
  have SF := Sta.start efo (Or.inl (hsets _ (List.mem_of_getElem? (i := 7) rfl)))
  obtain ⟨bo, ebo⟩ := exa_v hn
  have SB := Sta.start ebo (Or.inr ⟨(hw _ (List.mem_of_getElem? (i := 150) rfl)), (hw _ (List.mem_of_getElem? (i := 151) rfl))⟩)
  have EB := Exa.start ebo hn
  have HC : ∀ t, Jvm.Lit.constHeld s "com/example/upright_play/uprightplay/event/Members" (own_ix t) := fun t => by
    unfold own_ix; split
    · exact hcalls.1 (_, 208) (List.mem_of_getElem? (i := 0) rfl)
    · exact hcalls.1 (_, 217) (List.mem_of_getElem? (i := 1) rfl)
  obtain ⟨n, o, h1, h2, h3, _, L, rfl, ⟨rfl, N⟩, hq⟩ := rm0 l s _ hw tables_1 i0 i1 i2 i3 cs fo bo s.heap s.heap.size (Nat.le_refl _) (Old.start s) ⟨SC, hcs, SF, hfo, SB, EB⟩ HC (hsets _ (List.mem_of_getElem? (i := 2) rfl)) p e ha hc hk s m _ below hf ((Spec.applies_iff_loose hf).mp happ).1 ⟨rfl, State.Warmed39.refl s, rfl, IB.start, fun t ht => nomatch ht⟩ trivial
  refine ⟨n, _, h1, h2, h3, hpost _ _ _ _ _ _ ⟨Cond.after_iff.mpr rfl, Cond.after_iff.mpr (eq_i res_at (Term.int_eval (1)) rfl), trivial⟩ ⟨hq.1, hq.2.1, hq.2.2.1, (hq.2.2.2.sift fun y hy => Or.inr (N y hy)).mono (by decide) (by decide)⟩⟩
theorem main_1_1 : Claimed_1_1 := comes_1 fun _ _ _ _ _ _ h hF => ⟨h.1, hF⟩
theorem main_1_2 : Claimed_1_2 := comes_1 fun _ _ _ _ _ _ h hF => ⟨h.2.1, hF⟩
end Jvm.Pilot.@@N@@
