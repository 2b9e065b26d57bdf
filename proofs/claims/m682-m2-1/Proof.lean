import JvmDerived
import JvmDerived.Pilot.@@N@@Statement
import JvmDerived.Pilot.@@N@@Code
set_option linter.unusedVariables false
set_option linter.unusedSimpArgs false
namespace Jvm.Pilot.@@N@@
open Jvm Jvm.ClassFile Sem Op Lib Jvm.Free Jvm.Stand Jvm.LawKit Jvm.RoadKit Bundle Jvm.Pilot.@@N@@.Jvm.D
section Own
variable {p : Program} {l : Launch} {e : Env} {R : Room} {s : State} {m : MethodId} {args : Array Value} {below : List Frame} {meth : Method} {c : Code} {T : State} {locs : List Loc} {cells slots : Nat} {Z : State} {h h' : Heap} {a b : Addr} {ty : FieldType} {vs : List Value} {v : Value} {sl : Nat}
/-- from here the run comes to an end that Q allows -/
def own_fin (p : Program) (e : Env) (below : List Frame) (s : State) (cl sl : Nat) (Q : Option Value → Heap → List Loc → Prop) (S : State) : Prop :=
  ∃ s₂ o, Steps p.tables e below S s₂ ∧ s₂.status = .running ∧ Ended s₂ below o ∧ ∃ v L, o = .returned v ∧ Q v s₂.heap L ∧ FrameEnd s o s₂ L cl sl
theorem own_by {cl sl : Nat} {Q : Option Value → Heap → List Loc → Prop} {S S' : State} (st : ∀ target, Steps p.tables e below S' target → Steps p.tables e below S target) (k : own_fin p e below s cl sl Q S') : own_fin p e below s cl sl Q S := by
  obtain ⟨s2, o, h1, h2⟩ := k
  exact ⟨s2, o, st _ h1, h2⟩
theorem own_tr {cl sl : Nat} {Q : Option Value → Heap → List Loc → Prop} {S S' : State} (st : Steps p.tables e below S S') (k : own_fin p e below s cl sl Q S') : own_fin p e below s cl sl Q S := by
  obtain ⟨s2, o, h1, h2⟩ := k
  exact ⟨s2, o, st.trans h1, h2⟩
theorem own_start {cl sl : Nat} {Q : Option Value → Heap → List Loc → Prop} {s₁ : State} {mx : Nat} {g : JFrame} (q : entryFrame m args mx = g) (k : own_fin p e below s cl sl Q (s₁.setTop g)) :
    ∃ s₂ o, Steps p.tables e below (s₁.setTop (entryFrame m args mx)) s₂ ∧ s₂.status = .running ∧ Ended s₂ below o ∧ ∃ v L, o = .returned v ∧ Q v s₂.heap L ∧ FrameEnd s o s₂ L cl sl := by
  rw [q]; exact k
theorem own_ret (X : Stand p l e R s m args below meth c T locs cells slots) (hx : p.tables.exec = Jvm.exec) {cl sl : Nat} {Q : Option Value → Heap → List Loc → Prop} {pc : Nat} {Ls : Array Slot} {w : Value} {t : FieldType} {i : Instr} {rest : List Value} (hret : meth.sig.returnType = some t) (hn : narrow t w = w)
    (hi : (i = .ireturn ∧ (t = .int ∨ t = .boolean ∨ t = .byte ∨ t = .char ∨ t = .short) ∧ ∃ z, w = .int z) ∨ (i = .lreturn ∧ t = .long ∧ ∃ z, w = .long z) ∨ (i = .dreturn ∧ t = .double ∧ ∃ z, w = .double z) ∨ (i = .freturn ∧ t = .float ∧ ∃ z, w = .float z) ∨ (i = .areturn ∧ t.isReference = true ∧ w.isRef = true))
    (hd : decode c.code pc = .ok (i, 1)) (hlk : meth.locks = false) (hc : cells ≤ cl) (hs : slots ≤ sl) (q : Q (some w) T.heap locs) : own_fin p e below s cl sl Q (T.setTop (mkF m pc Ls (w :: rest))) := by
  obtain ⟨fs, hr, hrun, hended, hW, hsame⟩ := X.leave (v := some w) (fun h => by rw [hret] at h; cases h)
  exact ⟨_, _, retOut X hx hret hn hi hd hr, hrun, hended, _, _, rfl, q, ⟨_, rfl⟩, hW, hsame.mono hc hs⟩
theorem own_ret0 (X : Stand p l e R s m args below meth c T locs cells slots) (hx : p.tables.exec = Jvm.exec) {cl sl : Nat} {Q : Option Value → Heap → List Loc → Prop} {pc : Nat} {Ls : Array Slot} (hret : meth.sig.returnType = none)
    (hd : decode c.code pc = .ok (.return_, 1)) (hlk : meth.locks = false) (hc : cells ≤ cl) (hs : slots ≤ sl) (q : Q none T.heap locs) : own_fin p e below s cl sl Q (T.setTop (mkF m pc Ls [])) := by
  obtain ⟨fs, hr, hrun, hended, hW, hsame⟩ := X.leave (v := none) (fun _ => rfl)
  exact ⟨_, _, X.returnOut hx hret hd hr, hrun, hended, _, _, rfl, q, ⟨_, rfl⟩, hW, hsame.mono hc hs⟩
/-- the array at a holds just these values -/
def OwnA (Z : State) (h : Heap) (a : Addr) (ty : FieldType) (vs : List Value) : Prop := ∃ c : Cell, Arr Z h a c ty ∧ c.slots.toList = vs
theorem OwnA.lt (F : OwnA Z h a ty vs) : a < h.size := by obtain ⟨c, A, -⟩ := F; exact A.lt
theorem OwnA.ext (F : OwnA Z h a ty vs) (E : Ext h h') : OwnA Z h' a ty vs := by obtain ⟨c, A, r⟩ := F; exact ⟨c, A.ext E, r⟩
theorem OwnA.other (F : OwnA Z h a ty vs) (W : Wr h h' b sl v) (q : a ≠ b) : OwnA Z h' a ty vs := by obtain ⟨c, A, r⟩ := F; exact ⟨c, A.other W q, r⟩
theorem OwnA.keep {ws : List Addr} (F : OwnA Z h a ty vs) (K : Keep h h' ws) (q : a ∉ ws) : OwnA Z h' a ty vs := by obtain ⟨c, A, r⟩ := F; exact ⟨c, ⟨K.2.1 a c A.1 q, A.2⟩, r⟩
theorem OwnA.set (F : OwnA Z h a ty vs) (W : Wr h h' a sl v) : OwnA Z h' a ty (vs.set sl v) := by
  obtain ⟨c, A, rfl⟩ := F
  exact ⟨_, A.same W, by simp [Cell.setSlot]⟩
theorem own_new {k : ClassId} {z : Int32} (A : Arr Z h a (newA k ty z) ty) (q : List.replicate z.toNatClampNeg (defaultValue ty) = vs) : OwnA Z h a ty vs := ⟨_, A, by rw [← q]; simp [newA]⟩
theorem own_inb {cl : Cell} {j : Int32} (hj : ¬ j < 0) (hv : cl.slots.toList[j.toNatClampNeg]? = some v) : ¬ (j < 0 ∨ cl.slots.size ≤ j.toNatClampNeg) ∧ cl.slots[j.toNatClampNeg]? = some v := by
  rw [Array.getElem?_toList] at hv
  exact ⟨fun q => q.elim hj fun q => absurd (Array.getElem?_eq_some_iff.mp hv).1 (Nat.not_lt.mpr q), hv⟩
theorem own_len (X : Stand p l e R s m args below meth c T locs cells slots) (hx : p.tables.exec = Jvm.exec) (hZ : Z.Warmed39 s.vm) (eT : T.heap = h) (F : OwnA Z h a ty vs) {z : Int32} (hz : Int32.ofNat vs.length = z) {g : JFrame} (hg : g.method = m) {rest : List Value} (hs : g.stack = .ref a :: rest)
    (hd : decode c.code g.pc = .ok (.arraylength, 1)) (target : State) (k : Steps p.tables e below (T.setTop { g with pc := g.pc + 1, stack := .int z :: rest }) target) : Steps p.tables e below (T.setTop g) target := by
  obtain ⟨cl, A, rfl⟩ := F
  refine X.arraylength hx (cell := cl) (by rw [eT]; exact A.1) (State.isArrayOf_alike hZ.alike A.2.1) hg hs hd _ ?_
  rw [Array.length_toList] at hz
  rw [show cl.slots.size.toInt32 = z from hz]; exact k
theorem own_iaload (X : Stand p l e R s m args below meth c T locs cells slots) (hx : p.tables.exec = Jvm.exec) (hZ : Z.Warmed39 s.vm) (eT : T.heap = h) (F : OwnA Z h a .int vs) {j : Int32} (hj : ¬ j < 0) (hv : vs[j.toNatClampNeg]? = some v) {g : JFrame} (hg : g.method = m) {rest : List Value} (hs : g.stack = .int j :: .ref a :: rest)
    (hd : decode c.code g.pc = .ok (.iaload, 1)) (target : State) (k : Steps p.tables e below (T.setTop { g with pc := g.pc + 1, stack := v :: rest }) target) : Steps p.tables e below (T.setTop g) target := by
  obtain ⟨cl, A, rfl⟩ := F
  exact X.iaload hx (by rw [eT]; exact A.1) (State.isArrayOf_alike hZ.alike A.2.1) A.2.2 (own_inb hj hv).1 (own_inb hj hv).2 hg hs hd _ k
theorem own_laload (X : Stand p l e R s m args below meth c T locs cells slots) (hx : p.tables.exec = Jvm.exec) (hZ : Z.Warmed39 s.vm) (eT : T.heap = h) (F : OwnA Z h a .long vs) {j : Int32} (hj : ¬ j < 0) (hv : vs[j.toNatClampNeg]? = some v) {g : JFrame} (hg : g.method = m) {rest : List Value} (hs : g.stack = .int j :: .ref a :: rest)
    (hd : decode c.code g.pc = .ok (.laload, 1)) (target : State) (k : Steps p.tables e below (T.setTop { g with pc := g.pc + 1, stack := v :: rest }) target) : Steps p.tables e below (T.setTop g) target := by
  obtain ⟨cl, A, rfl⟩ := F
  exact X.laload hx (by rw [eT]; exact A.1) (State.isArrayOf_alike hZ.alike A.2.1) A.2.2 (own_inb hj hv).1 (own_inb hj hv).2 hg hs hd _ k
theorem own_caload (X : Stand p l e R s m args below meth c T locs cells slots) (hx : p.tables.exec = Jvm.exec) (hZ : Z.Warmed39 s.vm) (eT : T.heap = h) (F : OwnA Z h a .char vs) {j : Int32} (hj : ¬ j < 0) (hv : vs[j.toNatClampNeg]? = some v) {g : JFrame} (hg : g.method = m) {rest : List Value} (hs : g.stack = .int j :: .ref a :: rest)
    (hd : decode c.code g.pc = .ok (.caload, 1)) (target : State) (k : Steps p.tables e below (T.setTop { g with pc := g.pc + 1, stack := v :: rest }) target) : Steps p.tables e below (T.setTop g) target := by
  obtain ⟨cl, A, rfl⟩ := F
  exact X.caload hx (by rw [eT]; exact A.1) (State.isArrayOf_alike hZ.alike A.2.1) A.2.2 (own_inb hj hv).1 (own_inb hj hv).2 hg hs hd _ k
theorem own_baload (X : Stand p l e R s m args below meth c T locs cells slots) (hx : p.tables.exec = Jvm.exec) (hZ : Z.Warmed39 s.vm) (eT : T.heap = h) (F : OwnA Z h a .byte vs) {j : Int32} (hj : ¬ j < 0) (hv : vs[j.toNatClampNeg]? = some v) {g : JFrame} (hg : g.method = m) {rest : List Value} (hs : g.stack = .int j :: .ref a :: rest)
    (hd : decode c.code g.pc = .ok (.baload, 1)) (target : State) (k : Steps p.tables e below (T.setTop { g with pc := g.pc + 1, stack := v :: rest }) target) : Steps p.tables e below (T.setTop g) target := by
  obtain ⟨cl, A, rfl⟩ := F
  exact X.baloadBytes hx (by rw [eT]; exact A.1) (State.isArrayOf_alike hZ.alike A.2.1) A.2.2 (own_inb hj hv).1 (own_inb hj hv).2 hg hs hd _ k
theorem own_baloadZ (X : Stand p l e R s m args below meth c T locs cells slots) (hx : p.tables.exec = Jvm.exec) (hZ : Z.Warmed39 s.vm) (eT : T.heap = h) (F : OwnA Z h a .boolean vs) {j : Int32} (hj : ¬ j < 0) (hv : vs[j.toNatClampNeg]? = some v) {g : JFrame} (hg : g.method = m) {rest : List Value} (hs : g.stack = .int j :: .ref a :: rest)
    (hd : decode c.code g.pc = .ok (.baload, 1)) (target : State) (k : Steps p.tables e below (T.setTop { g with pc := g.pc + 1, stack := v :: rest }) target) : Steps p.tables e below (T.setTop g) target := by
  obtain ⟨cl, A, rfl⟩ := F
  exact X.baloadBooleans hx (by rw [eT]; exact A.1) (State.isArrayOf_alike hZ.alike A.2.1) A.2.2 (own_inb hj hv).1 (own_inb hj hv).2 hg hs hd _ k
theorem own_aaload (X : Stand p l e R s m args below meth c T locs cells slots) (hx : p.tables.exec = Jvm.exec) (hZ : Z.Warmed39 s.vm) (eT : T.heap = h) (F : OwnA Z h a ty vs) (hty : ty.isReference = true) {j : Int32} (hj : ¬ j < 0) (hv : vs[j.toNatClampNeg]? = some v) {g : JFrame} (hg : g.method = m) {rest : List Value} (hs : g.stack = .int j :: .ref a :: rest)
    (hd : decode c.code g.pc = .ok (.aaload, 1)) (target : State) (k : Steps p.tables e below (T.setTop { g with pc := g.pc + 1, stack := v :: rest }) target) : Steps p.tables e below (T.setTop g) target := by
  obtain ⟨cl, A, rfl⟩ := F
  exact X.aaload hx (by rw [eT]; exact A.1) (State.isArrayOf_alike hZ.alike A.2.1) hty A.2.2 (own_inb hj hv).1 (own_inb hj hv).2 hg hs hd _ k
theorem own_inl {cl : Cell} {j : Int32} (hj : ¬ j < 0) (hl : j.toNatClampNeg < cl.slots.toList.length) : ¬ (j < 0 ∨ cl.slots.size ≤ j.toNatClampNeg) := by
  rw [Array.length_toList] at hl
  exact fun q => q.elim hj fun q => absurd hl (Nat.not_lt.mpr q)
theorem own_stI (X : Stand p l e R s m args below meth c T locs cells slots) (hx : p.tables.exec = Jvm.exec) (hZ : Z.Warmed39 s.vm) (eT : T.heap = h) (F : OwnA Z h a .int vs) {j x : Int32} (hj : ¬ j < 0) (hl : j.toNatClampNeg < vs.length) {g : JFrame} (hg : g.method = m) {rest : List Value} (hs : g.stack = .int x :: .int j :: .ref a :: rest) (hd : decode c.code g.pc = .ok (.iastore, 1)) :
    ∃ T' h', Stand p l e R s m args below meth c T' (locs ++ [⟨a, j.toNatClampNeg⟩]) cells slots ∧ T'.heap = h' ∧ Wr h h' a j.toNatClampNeg (.int x) ∧ ∀ target, Steps p.tables e below (T'.setTop { g with pc := g.pc + 1, stack := rest }) target → Steps p.tables e below (T.setTop g) target := by
  obtain ⟨cl, A, rfl⟩ := F
  exact stI X hx hZ eT A (own_inl hj hl) hg hs hd
theorem own_stJ (X : Stand p l e R s m args below meth c T locs cells slots) (hx : p.tables.exec = Jvm.exec) (hZ : Z.Warmed39 s.vm) (eT : T.heap = h) (F : OwnA Z h a .long vs) {j : Int32} {x : Int64} (hj : ¬ j < 0) (hl : j.toNatClampNeg < vs.length) {g : JFrame} (hg : g.method = m) {rest : List Value} (hs : g.stack = .long x :: .int j :: .ref a :: rest) (hd : decode c.code g.pc = .ok (.lastore, 1)) :
    ∃ T' h', Stand p l e R s m args below meth c T' (locs ++ [⟨a, j.toNatClampNeg⟩]) cells slots ∧ T'.heap = h' ∧ Wr h h' a j.toNatClampNeg (.long x) ∧ ∀ target, Steps p.tables e below (T'.setTop { g with pc := g.pc + 1, stack := rest }) target → Steps p.tables e below (T.setTop g) target := by
  obtain ⟨cl, A, rfl⟩ := F
  exact stJ X hx hZ eT A (own_inl hj hl) hg hs hd
theorem own_stB (X : Stand p l e R s m args below meth c T locs cells slots) (hx : p.tables.exec = Jvm.exec) (hZ : Z.Warmed39 s.vm) (eT : T.heap = h) (F : OwnA Z h a .byte vs) {j x : Int32} (hj : ¬ j < 0) (hl : j.toNatClampNeg < vs.length) {g : JFrame} (hg : g.method = m) {rest : List Value} (hs : g.stack = .int x :: .int j :: .ref a :: rest) (hd : decode c.code g.pc = .ok (.bastore, 1)) :
    ∃ T' h', Stand p l e R s m args below meth c T' (locs ++ [⟨a, j.toNatClampNeg⟩]) cells slots ∧ T'.heap = h' ∧ Wr h h' a j.toNatClampNeg (.int x.toInt8.toInt32) ∧ ∀ target, Steps p.tables e below (T'.setTop { g with pc := g.pc + 1, stack := rest }) target → Steps p.tables e below (T.setTop g) target := by
  obtain ⟨cl, A, rfl⟩ := F
  exact stB X hx hZ eT A (own_inl hj hl) hg hs hd
theorem own_stC (X : Stand p l e R s m args below meth c T locs cells slots) (hx : p.tables.exec = Jvm.exec) (hZ : Z.Warmed39 s.vm) (eT : T.heap = h) (F : OwnA Z h a .char vs) {j x : Int32} (hj : ¬ j < 0) (hl : j.toNatClampNeg < vs.length) {g : JFrame} (hg : g.method = m) {rest : List Value} (hs : g.stack = .int x :: .int j :: .ref a :: rest) (hd : decode c.code g.pc = .ok (.castore, 1)) :
    ∃ T' h', Stand p l e R s m args below meth c T' (locs ++ [⟨a, j.toNatClampNeg⟩]) cells slots ∧ T'.heap = h' ∧ Wr h h' a j.toNatClampNeg (.int x.toUInt32.toUInt16.toUInt32.toInt32) ∧ ∀ target, Steps p.tables e below (T'.setTop { g with pc := g.pc + 1, stack := rest }) target → Steps p.tables e below (T.setTop g) target := by
  obtain ⟨cl, A, rfl⟩ := F
  exact stC X hx hZ eT A (own_inl hj hl) hg hs hd
end Own
theorem own_lt {i n : Nat} (h : i < n) (hn : n < 2147483648) : Int32.ofNat i < Int32.ofNat n := by
  rw [Int32.lt_iff_toInt_lt, Int32.toInt_ofNat_of_lt (by omega), Int32.toInt_ofNat_of_lt (by omega)]
  omega
theorem own_nlt {i n : Nat} (h : ¬ i < n) (hi : i < 2147483648) : ¬ Int32.ofNat i < Int32.ofNat n := by
  rw [Int32.lt_iff_toInt_lt, Int32.toInt_ofNat_of_lt (by omega), Int32.toInt_ofNat_of_lt (by omega)]
  omega
theorem own_nn {n : Nat} (hn : n < 2147483648) : ¬ Int32.ofNat n < 0 := by
  rw [Int32.lt_iff_toInt_lt, Int32.toInt_ofNat_of_lt (by omega), show (0 : Int32).toInt = 0 from rfl]
  omega
theorem own_n32 {n : Nat} (hn : n < 2147483648) : (Int32.ofNat n).toNatClampNeg = n := by
  rw [Int32.toNatClampNeg, Int32.toInt_ofNat_of_lt (by omega)]; rfl
theorem own_one (i : Nat) : Int32.ofNat i + (1 : Int32) = Int32.ofNat (i + 1) := (Int32.ofNat_add i 1).symm
def own_lo (a b : Int32) : Int32 := if b < a then b else a
def own_hi (a b : Int32) : Int32 := if b < a then a else b
theorem own_cs {a b l u : Int32} (h1 : l = own_lo a b) (h2 : u = own_hi a b) : l.toInt ≤ u.toInt ∧ a.toInt ≤ u.toInt ∧ b.toInt ≤ u.toInt ∧ ∀ z : Int, a.toInt ≤ z → b.toInt ≤ z → u.toInt ≤ z := by
  subst h1 h2
  unfold own_lo own_hi
  split <;> rename_i h <;> rw [Int32.lt_iff_toInt_lt] at h <;> refine ⟨by omega, by omega, by omega, fun z p q => by omega⟩
theorem own_net {x0 x1 x2 x3 x4 a0 a1 b1 b2 c2 c3 d3 d4 e0 e1 f1 f2 g2 g3 h0 h1 i1 i2 j0 j1 : Int32} (q0 : a0 = own_lo x0 x1) (q1 : a1 = own_hi x0 x1) (q2 : b1 = own_lo a1 x2) (q3 : b2 = own_hi a1 x2) (q4 : c2 = own_lo b2 x3) (q5 : c3 = own_hi b2 x3) (q6 : d3 = own_lo c3 x4) (q7 : d4 = own_hi c3 x4)
    (q8 : e0 = own_lo a0 b1) (q9 : e1 = own_hi a0 b1) (q10 : f1 = own_lo e1 c2) (q11 : f2 = own_hi e1 c2) (q12 : g2 = own_lo f2 d3) (q13 : g3 = own_hi f2 d3) (q14 : h0 = own_lo e0 f1) (q15 : h1 = own_hi e0 f1) (q16 : i1 = own_lo h1 g2) (q17 : i2 = own_hi h1 g2) (q18 : j0 = own_lo h0 i1) (q19 : j1 = own_hi h0 i1) :
    j0.toInt ≤ j1.toInt ∧ j1.toInt ≤ i2.toInt ∧ i2.toInt ≤ g3.toInt ∧ g3.toInt ≤ d4.toInt := by
  obtain ⟨A1, A2, A3, A4⟩ := own_cs q0 q1
  obtain ⟨B1, B2, B3, B4⟩ := own_cs q2 q3
  obtain ⟨C1, C2, C3, C4⟩ := own_cs q4 q5
  obtain ⟨D1, D2, D3, D4⟩ := own_cs q6 q7
  obtain ⟨E1, E2, E3, E4⟩ := own_cs q8 q9
  obtain ⟨F1, F2, F3, F4⟩ := own_cs q10 q11
  obtain ⟨G1, G2, G3, G4⟩ := own_cs q12 q13
  obtain ⟨H1, H2, H3, H4⟩ := own_cs q14 q15
  obtain ⟨I1, I2, I3, I4⟩ := own_cs q16 q17
  obtain ⟨J1, J2, J3, J4⟩ := own_cs q18 q19
  refine ⟨J1, J4 _ (by omega) (by omega), I4 _ ?_ (by omega), G4 _ ?_ (by omega)⟩
  · exact H4 _ (by omega) (by omega)
  · exact F4 _ (E4 _ (by omega) (by omega)) (by omega)
theorem own_mid {lo hi : Nat} (h1 : lo < 1073741824) (h2 : hi < 1073741824) : ((Int32.ofNat lo + Int32.ofNat hi).toUInt32 >>> ((1 : Int32) &&& 31).toUInt32).toInt32 = Int32.ofNat ((lo + hi) / 2) := by
  rw [← Int32.ofNat_add]
  have e : (Int32.ofNat (lo + hi)).toUInt32 = UInt32.ofNat (lo + hi) := rfl
  rw [e]
  apply Int32.toBitVec_inj.mp
  show (UInt32.ofNat (lo + hi) >>> (1 : UInt32)).toBitVec = BitVec.ofNat 32 ((lo + hi) / 2)
  apply BitVec.eq_of_toNat_eq
  show (UInt32.ofNat (lo + hi) >>> (1 : UInt32)).toNat = _
  rw [UInt32.toNat_shiftRight, BitVec.toNat_ofNat, UInt32.toNat_ofNat']
  show ((lo + hi) % 4294967296) >>> 1 = (lo + hi) / 2 % 4294967296
  rw [Nat.shiftRight_eq_div_pow]
  omega
def own_le (i f t val y : Int32) : Int32 := if i < f then 0 else if i < t then (if val < y then 0 else 1) else 0
theorem own_one6 {a0 : Addr} {x1 x2 x3 x4 x5 : Int32} {s6 : Slot} {t : Int32} (hs : s6 = .unset ∨ ∃ t, s6 = .val (.int t)) :
    storeLocals #[.val (.ref a0), .val (.int x1), .val (.int x2), .val (.int x3), .val (.int x4), .val (.int x5), s6] 6 (.int t) = some #[.val (.ref a0), .val (.int x1), .val (.int x2), .val (.int x3), .val (.int x4), .val (.int x5), .val (.int t)] := by
  rcases hs with rfl | ⟨t', rfl⟩ <;> rfl
theorem own_from (x : Int32) : ∃ f : Nat, f ≤ 5 ∧ (x &&& (7 : Int32)) % (6 : Int32) = Int32.ofNat f := by
  have h1 : ((x &&& (7 : Int32)) % (6 : Int32)).toInt = (x.toInt % ((2 ^ 3 : Nat) : Int)).tmod 6 := by
    rw [Int32.toInt_mod, c_mask x _ 3 (by decide) (by decide)]; rfl
  have h2 : 0 ≤ x.toInt % ((2 ^ 3 : Nat) : Int) := Int.emod_nonneg _ (by decide)
  rw [Int.tmod_eq_emod_of_nonneg h2] at h1
  refine ⟨((x.toInt % ((2 ^ 3 : Nat) : Int)) % 6).toNat, by omega, ?_⟩
  rw [← Int32.toInt_inj, h1, Int32.toInt_ofNat_of_lt (by omega)]
  omega
theorem own_to (x : Int32) {f : Nat} (hf : f ≤ 5) : ¬ ((6 : Int32) - Int32.ofNat f = 0) ∧ ∃ t : Nat, f ≤ t ∧ t ≤ 5 ∧ Int32.ofNat f + (x &&& (7 : Int32)) % ((6 : Int32) - Int32.ofNat f) = Int32.ofNat t := by
  have e : (6 : Int32) - Int32.ofNat f = Int32.ofNat (6 - f) := by
    have : f = 0 ∨ f = 1 ∨ f = 2 ∨ f = 3 ∨ f = 4 ∨ f = 5 := by omega
    rcases this with rfl | rfl | rfl | rfl | rfl | rfl <;> rfl
  have e2 : (Int32.ofNat (6 - f)).toInt = ((6 - f : Nat) : Int) := Int32.toInt_ofNat_of_lt (by omega)
  rw [e]
  refine ⟨fun q => ?_, ?_⟩
  · rw [← Int32.toInt_inj, e2] at q
    have : ((0 : Int32).toInt) = 0 := rfl
    omega
  have h1 : ((x &&& (7 : Int32)) % Int32.ofNat (6 - f)).toInt = (x.toInt % ((2 ^ 3 : Nat) : Int)).tmod ((6 - f : Nat) : Int) := by
    rw [Int32.toInt_mod, c_mask x _ 3 (by decide) (by decide), e2]
  have h2 : 0 ≤ x.toInt % ((2 ^ 3 : Nat) : Int) := Int.emod_nonneg _ (by decide)
  rw [Int.tmod_eq_emod_of_nonneg h2] at h1
  have h3 : 0 ≤ (x.toInt % ((2 ^ 3 : Nat) : Int)) % ((6 - f : Nat) : Int) := Int.emod_nonneg _ (by omega)
  have h4 : (x.toInt % ((2 ^ 3 : Nat) : Int)) % ((6 - f : Nat) : Int) < ((6 - f : Nat) : Int) := Int.emod_lt_of_pos _ (by omega)
  generalize (x.toInt % ((2 ^ 3 : Nat) : Int)) % ((6 - f : Nat) : Int) = y at h1 h3 h4
  refine ⟨f + y.toNat, by omega, by omega, ?_⟩
  rw [Int32.ofNat_add]
  congr 1
  rw [← Int32.toInt_inj, h1, Int32.toInt_ofNat_of_lt (by omega)]
  omega
theorem own_idx5 (x : Int32) (y0 y1 y2 y3 y4 : Int32) : ¬ ((x &&& (7 : Int32)) % (5 : Int32) < 0) ∧ ∃ z : Int32, ([.int y0, .int y1, .int y2, .int y3, .int y4] : List Value)[((x &&& (7 : Int32)) % (5 : Int32)).toNatClampNeg]? = some (.int z) := by
  have h1 : ((x &&& (7 : Int32)) % (5 : Int32)).toInt = (x.toInt % ((2 ^ 3 : Nat) : Int)).tmod 5 := by
    rw [Int32.toInt_mod, c_mask x _ 3 (by decide) (by decide)]; rfl
  have h2 : 0 ≤ x.toInt % ((2 ^ 3 : Nat) : Int) := Int.emod_nonneg _ (by decide)
  rw [Int.tmod_eq_emod_of_nonneg h2] at h1
  generalize (x &&& (7 : Int32)) % (5 : Int32) = j at h1
  have h3 : j.toNatClampNeg = 0 ∨ j.toNatClampNeg = 1 ∨ j.toNatClampNeg = 2 ∨ j.toNatClampNeg = 3 ∨ j.toNatClampNeg = 4 := by
    rw [Int32.toNatClampNeg]; omega
  refine ⟨?_, ?_⟩
  · rw [Int32.lt_iff_toInt_lt, show (0 : Int32).toInt = 0 from rfl]; omega
  · rcases h3 with q | q | q | q | q <;> rw [q]
    · exact ⟨y0, rfl⟩
    · exact ⟨y1, rfl⟩
    · exact ⟨y2, rfl⟩
    · exact ⟨y3, rfl⟩
    · exact ⟨y4, rfl⟩
theorem own_le_eq {i f t : Nat} {r : Nat} {val y : Int32} (hi : i ≤ 4) (hf : f ≤ 5) (ht : t ≤ 5) (hfr : f ≤ r) (hrt : r ≤ t) (h1 : f ≤ i → i < r → ¬ val < y) (h2 : r ≤ i → i < t → val < y) :
    own_le (Int32.ofNat i) (Int32.ofNat f) (Int32.ofNat t) val y = if f ≤ i ∧ i < r then 1 else 0 := by
  unfold own_le
  have e1 : (Int32.ofNat i < Int32.ofNat f) ↔ i < f := by rw [Int32.lt_iff_toInt_lt, Int32.toInt_ofNat_of_lt (by omega), Int32.toInt_ofNat_of_lt (by omega)]; omega
  have e2 : (Int32.ofNat i < Int32.ofNat t) ↔ i < t := by rw [Int32.lt_iff_toInt_lt, Int32.toInt_ofNat_of_lt (by omega), Int32.toInt_ofNat_of_lt (by omega)]; omega
  by_cases q1 : i < f
  · rw [if_pos (e1.mpr q1), if_neg (by omega)]
  · rw [if_neg (fun z => q1 (e1.mp z))]
    by_cases q2 : i < t
    · rw [if_pos (e2.mpr q2)]
      by_cases q3 : i < r
      · rw [if_neg (h1 (by omega) q3), if_pos ⟨by omega, q3⟩]
      · rw [if_pos (h2 (by omega) q2), if_neg (by omega)]
    · rw [if_neg (fun z => q2 (e2.mp z)), if_neg (by omega)]
theorem own_tally : ∀ f, f < 6 → ∀ r, r < 6 → f ≤ r → Int32.ofNat r = ((((Int32.ofNat f + (if f ≤ 0 ∧ 0 < r then 1 else 0)) + (if f ≤ 1 ∧ 1 < r then 1 else 0)) + (if f ≤ 2 ∧ 2 < r then 1 else 0)) + (if f ≤ 3 ∧ 3 < r then 1 else 0)) + (if f ≤ 4 ∧ 4 < r then 1 else 0) := by decide
theorem own_fin5 {f t r : Nat} {val : Int32} {y0 y1 y2 y3 y4 : Int32} (hf : f ≤ 5) (ht : t ≤ 5) (hfr : f ≤ r) (hrt : r ≤ t) (h1 : ∀ i, f ≤ i → i < r → ¬ val < [y0, y1, y2, y3, y4].getD i 0) (h2 : ∀ i, r ≤ i → i < t → val < [y0, y1, y2, y3, y4].getD i 0) :
    Int32.ofNat r = ((((Int32.ofNat f + own_le 0 (Int32.ofNat f) (Int32.ofNat t) val y0) + own_le 1 (Int32.ofNat f) (Int32.ofNat t) val y1) + own_le 2 (Int32.ofNat f) (Int32.ofNat t) val y2) + own_le 3 (Int32.ofNat f) (Int32.ofNat t) val y3) + own_le 4 (Int32.ofNat f) (Int32.ofNat t) val y4 := by
  have a0 : own_le 0 (Int32.ofNat f) (Int32.ofNat t) val y0 = _ := own_le_eq (i := 0) (by omega) hf ht hfr hrt (h1 0) (h2 0)
  have a1 : own_le 1 (Int32.ofNat f) (Int32.ofNat t) val y1 = _ := own_le_eq (i := 1) (by omega) hf ht hfr hrt (h1 1) (h2 1)
  have a2 : own_le 2 (Int32.ofNat f) (Int32.ofNat t) val y2 = _ := own_le_eq (i := 2) (by omega) hf ht hfr hrt (h1 2) (h2 2)
  have a3 : own_le 3 (Int32.ofNat f) (Int32.ofNat t) val y3 = _ := own_le_eq (i := 3) (by omega) hf ht hfr hrt (h1 3) (h2 3)
  have a4 : own_le 4 (Int32.ofNat f) (Int32.ofNat t) val y4 = _ := own_le_eq (i := 4) (by omega) hf ht hfr hrt (h1 4) (h2 4)
  rw [a0, a1, a2, a3, a4]
  exact own_tally f (by omega) r (by omega) hfr
theorem own_sorted {y0 y1 y2 y3 y4 : Int32} (h : y0.toInt ≤ y1.toInt ∧ y1.toInt ≤ y2.toInt ∧ y2.toInt ≤ y3.toInt ∧ y3.toInt ≤ y4.toInt) : ∀ i j, i ≤ j → j < 5 → ([y0, y1, y2, y3, y4].getD i 0).toInt ≤ ([y0, y1, y2, y3, y4].getD j 0).toInt := by
  obtain ⟨h1, h2, h3, h4⟩ := h
  intro i j hij hj
  have hj' : j = 0 ∨ j = 1 ∨ j = 2 ∨ j = 3 ∨ j = 4 := by omega
  have hi' : i = 0 ∨ i = 1 ∨ i = 2 ∨ i = 3 ∨ i = 4 := by omega
  rcases hj' with rfl | rfl | rfl | rfl | rfl <;> rcases hi' with rfl | rfl | rfl | rfl | rfl <;> simp only [List.getD_cons_zero, List.getD_cons_succ] <;> omega
theorem d1_0 : decode method_3_code 0 = .ok (.aload_n 0, 1) := by decide +kernel
theorem d1_1 : decode method_3_code 1 = .ok (.iload_n 1, 1) := by decide +kernel
theorem d1_2 : decode method_3_code 2 = .ok (.iaload, 1) := by decide +kernel
theorem d1_3 : decode method_3_code 3 = .ok (.aload_n 0, 1) := by decide +kernel
theorem d1_4 : decode method_3_code 4 = .ok (.iload_n 2, 1) := by decide +kernel
theorem d1_5 : decode method_3_code 5 = .ok (.iaload, 1) := by decide +kernel
theorem d1_6 : decode method_3_code 6 = .ok (.if_icmp .le 17, 3) := by decide +kernel
theorem d1_9 : decode method_3_code 9 = .ok (.aload_n 0, 1) := by decide +kernel
theorem d1_10 : decode method_3_code 10 = .ok (.iload_n 1, 1) := by decide +kernel
theorem d1_11 : decode method_3_code 11 = .ok (.iaload, 1) := by decide +kernel
theorem d1_12 : decode method_3_code 12 = .ok (.istore_n 3, 1) := by decide +kernel
theorem d1_13 : decode method_3_code 13 = .ok (.aload_n 0, 1) := by decide +kernel
theorem d1_14 : decode method_3_code 14 = .ok (.iload_n 1, 1) := by decide +kernel
theorem d1_15 : decode method_3_code 15 = .ok (.aload_n 0, 1) := by decide +kernel
theorem d1_16 : decode method_3_code 16 = .ok (.iload_n 2, 1) := by decide +kernel
theorem d1_17 : decode method_3_code 17 = .ok (.iaload, 1) := by decide +kernel
theorem d1_18 : decode method_3_code 18 = .ok (.iastore, 1) := by decide +kernel
theorem d1_19 : decode method_3_code 19 = .ok (.aload_n 0, 1) := by decide +kernel
theorem d1_20 : decode method_3_code 20 = .ok (.iload_n 2, 1) := by decide +kernel
theorem d1_21 : decode method_3_code 21 = .ok (.iload_n 3, 1) := by decide +kernel
theorem d1_22 : decode method_3_code 22 = .ok (.iastore, 1) := by decide +kernel
theorem d1_23 : decode method_3_code 23 = .ok (.return_, 1) := by decide +kernel
theorem pn_1 : plainName "com/example/libstrata/libstrata/layout/LayerEndsFirstAbovePinLaw" = true := by first | (simp [plainName, overriddenIn]; done) | decide +kernel
theorem ef_rm1_0 (m : MethodId) (x0 : Addr) (x1 : Int32) (x2 : Int32) : entryFrame m #[(.ref x0), (.int x1), (.int x2)] 4 = mkF m 0 #[.val (.ref x0), .val (.int x1), .val (.int x2), .unset] [] := by first | (simp [entryFrame, mkF, argsToLocals, Value.category]; done) | rfl
def Q_rm1_0 (Z : State) (a1 : Addr) (x0 x1 x2 x3 x4 : Int32) (h0 : Heap) (n0 : Nat) (v : Option Value) (h : Heap) (L : List Loc) : Prop := v = none ∧ Fr n0 L ∧ Keep h0 h [a1] ∧ OwnA Z h a1 .int [.int (own_lo x0 x1), .int (own_hi x0 x1), .int x2, .int x3, .int x4]
set_option maxRecDepth 65536 in
set_option maxHeartbeats 40000000 in
theorem rm1_0 (l : Launch) (Z : State) (a0 : Array Value) (hw : ∀ d ∈ tables_1, d.before a0 Z = true) (ws : List Jvm.Cond) (a1 : Addr) (x0 x1 x2 x3 x4 : Int32) (h0 : Heap) (n0 : Nat) (Zn : n0 ≤ h0.size) (A_a1 : OwnA Z h0 a1 .int [.int x0, .int x1, .int x2, .int x3, .int x4]) (o_a1 : n0 ≤ a1) :
    MetFree l (⟨"com/example/libstrata/libstrata/layout/LayerEndsFirstAbovePinLaw", "cs", "([III)V"⟩ : MethodName) (head1 (Jvm.Cond.code (⟨"com/example/libstrata/libstrata/layout/LayerEndsFirstAbovePinLaw", "cs", "([III)V"⟩ : MethodName) method_3_code 4 none :: ws) ({ frames := 0, cells := 0, slots := 0, locals := 0 } : Room)) (fun a U => a = #[(.ref a1), (.int (0 : Int32)), (.int (1 : Int32))] ∧ Z.Warmed39 U.vm ∧ U.heap = h0) (fun _ _ _ _ _ => True) (fun _ U o U' => ∃ v L, o = .returned v ∧ (Q_rm1_0 Z a1 x0 x1 x2 x3 x4 h0 n0) v U'.heap L ∧ FrameEnd U o U' L ({ frames := 0, cells := 0, slots := 0, locals := 0 } : Room).cells ({ frames := 0, cells := 0, slots := 0, locals := 0 } : Room).slots) := by
  refine MetFree.of_bodySF (plainFor_of_name pn_1) hisR ?_
  intro p e s m args below meth c s₁ Bd hml0 hP hK
  obtain ⟨rfl, hZ, hh⟩ := hP
  have hx := Bd.exec
  have hby := Bd.bytes
  have hml : c.maxLocals = 4 := hml0
  have hown : s.vm.findClass "com/example/libstrata/libstrata/layout/LayerEndsFirstAbovePinLaw" = some m.cls := findClass_of_methodNamed Bd.named
  have hnm := (name_of_methodNamed Bd.named Bd.method).1
  have hlk : meth.locks = false := BodyLoose.notSynchronized Bd
  have X0 : Stand p l e ({ frames := 0, cells := 0, slots := 0, locals := 0 } : Room) s m #[(.ref a1), (.int (0 : Int32)), (.int (1 : Int32))] below meth c s₁ [] 0 0 := Stand.of_body Bd
  have e0 : s₁.heap = h0 := by rw [← hh, Bd.state]; rfl
  have N := Fr.nil n0
  have K := Keep.refl h0 [a1]
  refine own_start (cl := ({ frames := 0, cells := 0, slots := 0, locals := 0 } : Room).cells) (sl := ({ frames := 0, cells := 0, slots := 0, locals := 0 } : Room).slots) (Q := (Q_rm1_0 Z a1 x0 x1 x2 x3 x4 h0 n0)) (ef_rm1_0 m a1 ((0 : Int32)) ((1 : Int32))) ?_
  refine own_by (S' := (s₁.setTop (mkF m 1 #[.val (.ref a1), .val (.int (0 : Int32)), .val (.int (1 : Int32)), .unset] [(.ref a1)]))) (fun _ k => XS.aloadN X0.here hx rfl (hb hby d1_0) rfl rfl k) ?_
  refine own_by (S' := (s₁.setTop (mkF m 2 #[.val (.ref a1), .val (.int (0 : Int32)), .val (.int (1 : Int32)), .unset] [(.int (0 : Int32)), (.ref a1)]))) (fun _ k => XS.iloadN X0.here hx rfl (hb hby d1_1) rfl k) ?_
  refine own_by (S' := (s₁.setTop (mkF m 3 #[.val (.ref a1), .val (.int (0 : Int32)), .val (.int (1 : Int32)), .unset] [(.int x0)]))) (fun _ k => own_iaload X0 hx hZ e0 A_a1 (by decide) (v := (.int x0)) rfl (g := (mkF m 2 #[.val (.ref a1), .val (.int (0 : Int32)), .val (.int (1 : Int32)), .unset] [(.int (0 : Int32)), (.ref a1)])) rfl rfl (hb hby d1_2) _ k) ?_
  refine own_by (S' := (s₁.setTop (mkF m 4 #[.val (.ref a1), .val (.int (0 : Int32)), .val (.int (1 : Int32)), .unset] [(.ref a1), (.int x0)]))) (fun _ k => XS.aloadN X0.here hx rfl (hb hby d1_3) rfl rfl k) ?_
  refine own_by (S' := (s₁.setTop (mkF m 5 #[.val (.ref a1), .val (.int (0 : Int32)), .val (.int (1 : Int32)), .unset] [(.int (1 : Int32)), (.ref a1), (.int x0)]))) (fun _ k => XS.iloadN X0.here hx rfl (hb hby d1_4) rfl k) ?_
  refine own_by (S' := (s₁.setTop (mkF m 6 #[.val (.ref a1), .val (.int (0 : Int32)), .val (.int (1 : Int32)), .unset] [(.int x1), (.int x0)]))) (fun _ k => own_iaload X0 hx hZ e0 A_a1 (by decide) (v := (.int x1)) rfl (g := (mkF m 5 #[.val (.ref a1), .val (.int (0 : Int32)), .val (.int (1 : Int32)), .unset] [(.int (1 : Int32)), (.ref a1), (.int x0)])) rfl rfl (hb hby d1_5) _ k) ?_
  by_cases hc : x1 < x0
  · refine own_by (S' := (s₁.setTop (mkF m 9 #[.val (.ref a1), .val (.int (0 : Int32)), .val (.int (1 : Int32)), .unset] []))) (fun _ k => XS.icmpNo X0.here hx rfl (hb hby d1_6) rfl (tlt (hc : x1 < x0)).2.2.2 k) ?_
    refine own_by (S' := (s₁.setTop (mkF m 10 #[.val (.ref a1), .val (.int (0 : Int32)), .val (.int (1 : Int32)), .unset] [(.ref a1)]))) (fun _ k => XS.aloadN X0.here hx rfl (hb hby d1_9) rfl rfl k) ?_
    refine own_by (S' := (s₁.setTop (mkF m 11 #[.val (.ref a1), .val (.int (0 : Int32)), .val (.int (1 : Int32)), .unset] [(.int (0 : Int32)), (.ref a1)]))) (fun _ k => XS.iloadN X0.here hx rfl (hb hby d1_10) rfl k) ?_
    refine own_by (S' := (s₁.setTop (mkF m 12 #[.val (.ref a1), .val (.int (0 : Int32)), .val (.int (1 : Int32)), .unset] [(.int x0)]))) (fun _ k => own_iaload X0 hx hZ e0 A_a1 (by decide) (v := (.int x0)) rfl (g := (mkF m 11 #[.val (.ref a1), .val (.int (0 : Int32)), .val (.int (1 : Int32)), .unset] [(.int (0 : Int32)), (.ref a1)])) rfl rfl (hb hby d1_11) _ k) ?_
    refine own_by (S' := (s₁.setTop (mkF m 13 #[.val (.ref a1), .val (.int (0 : Int32)), .val (.int (1 : Int32)), .val (.int x0)] []))) (fun _ k => XS.istoreN X0.here hx rfl (hb hby d1_12) rfl (l' := #[.val (.ref a1), .val (.int (0 : Int32)), .val (.int (1 : Int32)), .val (.int x0)]) rfl k) ?_
    refine own_by (S' := (s₁.setTop (mkF m 14 #[.val (.ref a1), .val (.int (0 : Int32)), .val (.int (1 : Int32)), .val (.int x0)] [(.ref a1)]))) (fun _ k => XS.aloadN X0.here hx rfl (hb hby d1_13) rfl rfl k) ?_
    refine own_by (S' := (s₁.setTop (mkF m 15 #[.val (.ref a1), .val (.int (0 : Int32)), .val (.int (1 : Int32)), .val (.int x0)] [(.int (0 : Int32)), (.ref a1)]))) (fun _ k => XS.iloadN X0.here hx rfl (hb hby d1_14) rfl k) ?_
    refine own_by (S' := (s₁.setTop (mkF m 16 #[.val (.ref a1), .val (.int (0 : Int32)), .val (.int (1 : Int32)), .val (.int x0)] [(.ref a1), (.int (0 : Int32)), (.ref a1)]))) (fun _ k => XS.aloadN X0.here hx rfl (hb hby d1_15) rfl rfl k) ?_
    refine own_by (S' := (s₁.setTop (mkF m 17 #[.val (.ref a1), .val (.int (0 : Int32)), .val (.int (1 : Int32)), .val (.int x0)] [(.int (1 : Int32)), (.ref a1), (.int (0 : Int32)), (.ref a1)]))) (fun _ k => XS.iloadN X0.here hx rfl (hb hby d1_16) rfl k) ?_
    refine own_by (S' := (s₁.setTop (mkF m 18 #[.val (.ref a1), .val (.int (0 : Int32)), .val (.int (1 : Int32)), .val (.int x0)] [(.int x1), (.int (0 : Int32)), (.ref a1)]))) (fun _ k => own_iaload X0 hx hZ e0 A_a1 (by decide) (v := (.int x1)) rfl (g := (mkF m 17 #[.val (.ref a1), .val (.int (0 : Int32)), .val (.int (1 : Int32)), .val (.int x0)] [(.int (1 : Int32)), (.ref a1), (.int (0 : Int32)), (.ref a1)])) rfl rfl (hb hby d1_17) _ k) ?_
    obtain ⟨T1, h1, X1, e1, W1, st1⟩ := own_stI X0 hx hZ e0 A_a1 (j := (0 : Int32)) (by decide) (Nat.le_of_ble_eq_true rfl) (g := (mkF m 18 #[.val (.ref a1), .val (.int (0 : Int32)), .val (.int (1 : Int32)), .val (.int x0)] [(.int x1), (.int (0 : Int32)), (.ref a1)])) rfl rfl (hb hby d1_18)
    have N := Fr.snoc X1 N o_a1
    have A_a1 := A_a1.set W1
    have Zn : n0 ≤ _ := Nat.le_trans Zn (Nat.le_of_eq W1.size.symm)
    have K := K.wr W1 (Or.inl (List.mem_of_getElem? (i := 0) rfl))
    have A_a1 : OwnA Z h1 a1 .int [(.int x1), .int x1, .int x2, .int x3, .int x4] := A_a1
    refine own_by (S' := (T1.setTop (mkF m 19 #[.val (.ref a1), .val (.int (0 : Int32)), .val (.int (1 : Int32)), .val (.int x0)] []))) st1 ?_
    refine own_by (S' := (T1.setTop (mkF m 20 #[.val (.ref a1), .val (.int (0 : Int32)), .val (.int (1 : Int32)), .val (.int x0)] [(.ref a1)]))) (fun _ k => XS.aloadN X1.here hx rfl (hb hby d1_19) rfl rfl k) ?_
    refine own_by (S' := (T1.setTop (mkF m 21 #[.val (.ref a1), .val (.int (0 : Int32)), .val (.int (1 : Int32)), .val (.int x0)] [(.int (1 : Int32)), (.ref a1)]))) (fun _ k => XS.iloadN X1.here hx rfl (hb hby d1_20) rfl k) ?_
    refine own_by (S' := (T1.setTop (mkF m 22 #[.val (.ref a1), .val (.int (0 : Int32)), .val (.int (1 : Int32)), .val (.int x0)] [(.int x0), (.int (1 : Int32)), (.ref a1)]))) (fun _ k => XS.iloadN X1.here hx rfl (hb hby d1_21) rfl k) ?_
    obtain ⟨T2, h2, X2, e2, W2, st2⟩ := own_stI X1 hx hZ e1 A_a1 (j := (1 : Int32)) (by decide) (Nat.le_of_ble_eq_true rfl) (g := (mkF m 22 #[.val (.ref a1), .val (.int (0 : Int32)), .val (.int (1 : Int32)), .val (.int x0)] [(.int x0), (.int (1 : Int32)), (.ref a1)])) rfl rfl (hb hby d1_22)
    have N := Fr.snoc X2 N o_a1
    have A_a1 := A_a1.set W2
    have Zn : n0 ≤ _ := Nat.le_trans Zn (Nat.le_of_eq W2.size.symm)
    have K := K.wr W2 (Or.inl (List.mem_of_getElem? (i := 0) rfl))
    have A_a1 : OwnA Z h2 a1 .int [(.int x1), (.int x0), .int x2, .int x3, .int x4] := A_a1
    refine own_by (S' := (T2.setTop (mkF m 23 #[.val (.ref a1), .val (.int (0 : Int32)), .val (.int (1 : Int32)), .val (.int x0)] []))) st2 ?_
    exact own_ret0 X2 hx Bd.returns (hb hby d1_23) hlk (by decide : 0 ≤ _) (by decide : 0 ≤ _) (by rw [e2]; exact ⟨rfl, N, K, by rw [show own_lo x0 x1 = x1 from if_pos hc, show own_hi x0 x1 = x0 from if_pos hc]; exact A_a1⟩)
  · refine own_by (S' := (s₁.setTop (mkF m 23 #[.val (.ref a1), .val (.int (0 : Int32)), .val (.int (1 : Int32)), .unset] []))) (fun _ k => XS.icmpYes X0.here hx rfl (pc0 := 6) (pc' := 23) rfl (hb hby d1_6) rfl (flt (hc : ¬ (x1 < x0))).2.2.2 (by decide) (by decide) k) ?_
    exact own_ret0 X0 hx Bd.returns (hb hby d1_23) hlk (by decide : 0 ≤ _) (by decide : 0 ≤ _) (by rw [e0]; exact ⟨rfl, N, K, by rw [show own_lo x0 x1 = x0 from if_neg hc, show own_hi x0 x1 = x1 from if_neg hc]; exact A_a1⟩)
theorem ef_rm1_1 (m : MethodId) (x0 : Addr) (x1 : Int32) (x2 : Int32) : entryFrame m #[(.ref x0), (.int x1), (.int x2)] 4 = mkF m 0 #[.val (.ref x0), .val (.int x1), .val (.int x2), .unset] [] := by first | (simp [entryFrame, mkF, argsToLocals, Value.category]; done) | rfl
def Q_rm1_1 (Z : State) (a1 : Addr) (x0 x1 x2 x3 x4 : Int32) (h0 : Heap) (n0 : Nat) (v : Option Value) (h : Heap) (L : List Loc) : Prop := v = none ∧ Fr n0 L ∧ Keep h0 h [a1] ∧ OwnA Z h a1 .int [.int x0, .int (own_lo x1 x2), .int (own_hi x1 x2), .int x3, .int x4]
set_option maxRecDepth 65536 in
set_option maxHeartbeats 40000000 in
theorem rm1_1 (l : Launch) (Z : State) (a0 : Array Value) (hw : ∀ d ∈ tables_1, d.before a0 Z = true) (ws : List Jvm.Cond) (a1 : Addr) (x0 x1 x2 x3 x4 : Int32) (h0 : Heap) (n0 : Nat) (Zn : n0 ≤ h0.size) (A_a1 : OwnA Z h0 a1 .int [.int x0, .int x1, .int x2, .int x3, .int x4]) (o_a1 : n0 ≤ a1) :
    MetFree l (⟨"com/example/libstrata/libstrata/layout/LayerEndsFirstAbovePinLaw", "cs", "([III)V"⟩ : MethodName) (head1 (Jvm.Cond.code (⟨"com/example/libstrata/libstrata/layout/LayerEndsFirstAbovePinLaw", "cs", "([III)V"⟩ : MethodName) method_3_code 4 none :: ws) ({ frames := 0, cells := 0, slots := 0, locals := 0 } : Room)) (fun a U => a = #[(.ref a1), (.int (1 : Int32)), (.int (2 : Int32))] ∧ Z.Warmed39 U.vm ∧ U.heap = h0) (fun _ _ _ _ _ => True) (fun _ U o U' => ∃ v L, o = .returned v ∧ (Q_rm1_1 Z a1 x0 x1 x2 x3 x4 h0 n0) v U'.heap L ∧ FrameEnd U o U' L ({ frames := 0, cells := 0, slots := 0, locals := 0 } : Room).cells ({ frames := 0, cells := 0, slots := 0, locals := 0 } : Room).slots) := by
  refine MetFree.of_bodySF (plainFor_of_name pn_1) hisR ?_
  intro p e s m args below meth c s₁ Bd hml0 hP hK
  obtain ⟨rfl, hZ, hh⟩ := hP
  have hx := Bd.exec
  have hby := Bd.bytes
  have hml : c.maxLocals = 4 := hml0
  have hown : s.vm.findClass "com/example/libstrata/libstrata/layout/LayerEndsFirstAbovePinLaw" = some m.cls := findClass_of_methodNamed Bd.named
  have hnm := (name_of_methodNamed Bd.named Bd.method).1
  have hlk : meth.locks = false := BodyLoose.notSynchronized Bd
  have X0 : Stand p l e ({ frames := 0, cells := 0, slots := 0, locals := 0 } : Room) s m #[(.ref a1), (.int (1 : Int32)), (.int (2 : Int32))] below meth c s₁ [] 0 0 := Stand.of_body Bd
  have e0 : s₁.heap = h0 := by rw [← hh, Bd.state]; rfl
  have N := Fr.nil n0
  have K := Keep.refl h0 [a1]
  refine own_start (cl := ({ frames := 0, cells := 0, slots := 0, locals := 0 } : Room).cells) (sl := ({ frames := 0, cells := 0, slots := 0, locals := 0 } : Room).slots) (Q := (Q_rm1_1 Z a1 x0 x1 x2 x3 x4 h0 n0)) (ef_rm1_1 m a1 ((1 : Int32)) ((2 : Int32))) ?_
  refine own_by (S' := (s₁.setTop (mkF m 1 #[.val (.ref a1), .val (.int (1 : Int32)), .val (.int (2 : Int32)), .unset] [(.ref a1)]))) (fun _ k => XS.aloadN X0.here hx rfl (hb hby d1_0) rfl rfl k) ?_
  refine own_by (S' := (s₁.setTop (mkF m 2 #[.val (.ref a1), .val (.int (1 : Int32)), .val (.int (2 : Int32)), .unset] [(.int (1 : Int32)), (.ref a1)]))) (fun _ k => XS.iloadN X0.here hx rfl (hb hby d1_1) rfl k) ?_
  refine own_by (S' := (s₁.setTop (mkF m 3 #[.val (.ref a1), .val (.int (1 : Int32)), .val (.int (2 : Int32)), .unset] [(.int x1)]))) (fun _ k => own_iaload X0 hx hZ e0 A_a1 (by decide) (v := (.int x1)) rfl (g := (mkF m 2 #[.val (.ref a1), .val (.int (1 : Int32)), .val (.int (2 : Int32)), .unset] [(.int (1 : Int32)), (.ref a1)])) rfl rfl (hb hby d1_2) _ k) ?_
  refine own_by (S' := (s₁.setTop (mkF m 4 #[.val (.ref a1), .val (.int (1 : Int32)), .val (.int (2 : Int32)), .unset] [(.ref a1), (.int x1)]))) (fun _ k => XS.aloadN X0.here hx rfl (hb hby d1_3) rfl rfl k) ?_
  refine own_by (S' := (s₁.setTop (mkF m 5 #[.val (.ref a1), .val (.int (1 : Int32)), .val (.int (2 : Int32)), .unset] [(.int (2 : Int32)), (.ref a1), (.int x1)]))) (fun _ k => XS.iloadN X0.here hx rfl (hb hby d1_4) rfl k) ?_
  refine own_by (S' := (s₁.setTop (mkF m 6 #[.val (.ref a1), .val (.int (1 : Int32)), .val (.int (2 : Int32)), .unset] [(.int x2), (.int x1)]))) (fun _ k => own_iaload X0 hx hZ e0 A_a1 (by decide) (v := (.int x2)) rfl (g := (mkF m 5 #[.val (.ref a1), .val (.int (1 : Int32)), .val (.int (2 : Int32)), .unset] [(.int (2 : Int32)), (.ref a1), (.int x1)])) rfl rfl (hb hby d1_5) _ k) ?_
  by_cases hc : x2 < x1
  · refine own_by (S' := (s₁.setTop (mkF m 9 #[.val (.ref a1), .val (.int (1 : Int32)), .val (.int (2 : Int32)), .unset] []))) (fun _ k => XS.icmpNo X0.here hx rfl (hb hby d1_6) rfl (tlt (hc : x2 < x1)).2.2.2 k) ?_
    refine own_by (S' := (s₁.setTop (mkF m 10 #[.val (.ref a1), .val (.int (1 : Int32)), .val (.int (2 : Int32)), .unset] [(.ref a1)]))) (fun _ k => XS.aloadN X0.here hx rfl (hb hby d1_9) rfl rfl k) ?_
    refine own_by (S' := (s₁.setTop (mkF m 11 #[.val (.ref a1), .val (.int (1 : Int32)), .val (.int (2 : Int32)), .unset] [(.int (1 : Int32)), (.ref a1)]))) (fun _ k => XS.iloadN X0.here hx rfl (hb hby d1_10) rfl k) ?_
    refine own_by (S' := (s₁.setTop (mkF m 12 #[.val (.ref a1), .val (.int (1 : Int32)), .val (.int (2 : Int32)), .unset] [(.int x1)]))) (fun _ k => own_iaload X0 hx hZ e0 A_a1 (by decide) (v := (.int x1)) rfl (g := (mkF m 11 #[.val (.ref a1), .val (.int (1 : Int32)), .val (.int (2 : Int32)), .unset] [(.int (1 : Int32)), (.ref a1)])) rfl rfl (hb hby d1_11) _ k) ?_
    refine own_by (S' := (s₁.setTop (mkF m 13 #[.val (.ref a1), .val (.int (1 : Int32)), .val (.int (2 : Int32)), .val (.int x1)] []))) (fun _ k => XS.istoreN X0.here hx rfl (hb hby d1_12) rfl (l' := #[.val (.ref a1), .val (.int (1 : Int32)), .val (.int (2 : Int32)), .val (.int x1)]) rfl k) ?_
    refine own_by (S' := (s₁.setTop (mkF m 14 #[.val (.ref a1), .val (.int (1 : Int32)), .val (.int (2 : Int32)), .val (.int x1)] [(.ref a1)]))) (fun _ k => XS.aloadN X0.here hx rfl (hb hby d1_13) rfl rfl k) ?_
    refine own_by (S' := (s₁.setTop (mkF m 15 #[.val (.ref a1), .val (.int (1 : Int32)), .val (.int (2 : Int32)), .val (.int x1)] [(.int (1 : Int32)), (.ref a1)]))) (fun _ k => XS.iloadN X0.here hx rfl (hb hby d1_14) rfl k) ?_
    refine own_by (S' := (s₁.setTop (mkF m 16 #[.val (.ref a1), .val (.int (1 : Int32)), .val (.int (2 : Int32)), .val (.int x1)] [(.ref a1), (.int (1 : Int32)), (.ref a1)]))) (fun _ k => XS.aloadN X0.here hx rfl (hb hby d1_15) rfl rfl k) ?_
    refine own_by (S' := (s₁.setTop (mkF m 17 #[.val (.ref a1), .val (.int (1 : Int32)), .val (.int (2 : Int32)), .val (.int x1)] [(.int (2 : Int32)), (.ref a1), (.int (1 : Int32)), (.ref a1)]))) (fun _ k => XS.iloadN X0.here hx rfl (hb hby d1_16) rfl k) ?_
    refine own_by (S' := (s₁.setTop (mkF m 18 #[.val (.ref a1), .val (.int (1 : Int32)), .val (.int (2 : Int32)), .val (.int x1)] [(.int x2), (.int (1 : Int32)), (.ref a1)]))) (fun _ k => own_iaload X0 hx hZ e0 A_a1 (by decide) (v := (.int x2)) rfl (g := (mkF m 17 #[.val (.ref a1), .val (.int (1 : Int32)), .val (.int (2 : Int32)), .val (.int x1)] [(.int (2 : Int32)), (.ref a1), (.int (1 : Int32)), (.ref a1)])) rfl rfl (hb hby d1_17) _ k) ?_
    obtain ⟨T3, h3, X3, e3, W3, st3⟩ := own_stI X0 hx hZ e0 A_a1 (j := (1 : Int32)) (by decide) (Nat.le_of_ble_eq_true rfl) (g := (mkF m 18 #[.val (.ref a1), .val (.int (1 : Int32)), .val (.int (2 : Int32)), .val (.int x1)] [(.int x2), (.int (1 : Int32)), (.ref a1)])) rfl rfl (hb hby d1_18)
    have N := Fr.snoc X3 N o_a1
    have A_a1 := A_a1.set W3
    have Zn : n0 ≤ _ := Nat.le_trans Zn (Nat.le_of_eq W3.size.symm)
    have K := K.wr W3 (Or.inl (List.mem_of_getElem? (i := 0) rfl))
    have A_a1 : OwnA Z h3 a1 .int [.int x0, (.int x2), .int x2, .int x3, .int x4] := A_a1
    refine own_by (S' := (T3.setTop (mkF m 19 #[.val (.ref a1), .val (.int (1 : Int32)), .val (.int (2 : Int32)), .val (.int x1)] []))) st3 ?_
    refine own_by (S' := (T3.setTop (mkF m 20 #[.val (.ref a1), .val (.int (1 : Int32)), .val (.int (2 : Int32)), .val (.int x1)] [(.ref a1)]))) (fun _ k => XS.aloadN X3.here hx rfl (hb hby d1_19) rfl rfl k) ?_
    refine own_by (S' := (T3.setTop (mkF m 21 #[.val (.ref a1), .val (.int (1 : Int32)), .val (.int (2 : Int32)), .val (.int x1)] [(.int (2 : Int32)), (.ref a1)]))) (fun _ k => XS.iloadN X3.here hx rfl (hb hby d1_20) rfl k) ?_
    refine own_by (S' := (T3.setTop (mkF m 22 #[.val (.ref a1), .val (.int (1 : Int32)), .val (.int (2 : Int32)), .val (.int x1)] [(.int x1), (.int (2 : Int32)), (.ref a1)]))) (fun _ k => XS.iloadN X3.here hx rfl (hb hby d1_21) rfl k) ?_
    obtain ⟨T4, h4, X4, e4, W4, st4⟩ := own_stI X3 hx hZ e3 A_a1 (j := (2 : Int32)) (by decide) (Nat.le_of_ble_eq_true rfl) (g := (mkF m 22 #[.val (.ref a1), .val (.int (1 : Int32)), .val (.int (2 : Int32)), .val (.int x1)] [(.int x1), (.int (2 : Int32)), (.ref a1)])) rfl rfl (hb hby d1_22)
    have N := Fr.snoc X4 N o_a1
    have A_a1 := A_a1.set W4
    have Zn : n0 ≤ _ := Nat.le_trans Zn (Nat.le_of_eq W4.size.symm)
    have K := K.wr W4 (Or.inl (List.mem_of_getElem? (i := 0) rfl))
    have A_a1 : OwnA Z h4 a1 .int [.int x0, (.int x2), (.int x1), .int x3, .int x4] := A_a1
    refine own_by (S' := (T4.setTop (mkF m 23 #[.val (.ref a1), .val (.int (1 : Int32)), .val (.int (2 : Int32)), .val (.int x1)] []))) st4 ?_
    exact own_ret0 X4 hx Bd.returns (hb hby d1_23) hlk (by decide : 0 ≤ _) (by decide : 0 ≤ _) (by rw [e4]; exact ⟨rfl, N, K, by rw [show own_lo x1 x2 = x2 from if_pos hc, show own_hi x1 x2 = x1 from if_pos hc]; exact A_a1⟩)
  · refine own_by (S' := (s₁.setTop (mkF m 23 #[.val (.ref a1), .val (.int (1 : Int32)), .val (.int (2 : Int32)), .unset] []))) (fun _ k => XS.icmpYes X0.here hx rfl (pc0 := 6) (pc' := 23) rfl (hb hby d1_6) rfl (flt (hc : ¬ (x2 < x1))).2.2.2 (by decide) (by decide) k) ?_
    exact own_ret0 X0 hx Bd.returns (hb hby d1_23) hlk (by decide : 0 ≤ _) (by decide : 0 ≤ _) (by rw [e0]; exact ⟨rfl, N, K, by rw [show own_lo x1 x2 = x1 from if_neg hc, show own_hi x1 x2 = x2 from if_neg hc]; exact A_a1⟩)
theorem ef_rm1_2 (m : MethodId) (x0 : Addr) (x1 : Int32) (x2 : Int32) : entryFrame m #[(.ref x0), (.int x1), (.int x2)] 4 = mkF m 0 #[.val (.ref x0), .val (.int x1), .val (.int x2), .unset] [] := by first | (simp [entryFrame, mkF, argsToLocals, Value.category]; done) | rfl
def Q_rm1_2 (Z : State) (a1 : Addr) (x0 x1 x2 x3 x4 : Int32) (h0 : Heap) (n0 : Nat) (v : Option Value) (h : Heap) (L : List Loc) : Prop := v = none ∧ Fr n0 L ∧ Keep h0 h [a1] ∧ OwnA Z h a1 .int [.int x0, .int x1, .int (own_lo x2 x3), .int (own_hi x2 x3), .int x4]
set_option maxRecDepth 65536 in
set_option maxHeartbeats 40000000 in
theorem rm1_2 (l : Launch) (Z : State) (a0 : Array Value) (hw : ∀ d ∈ tables_1, d.before a0 Z = true) (ws : List Jvm.Cond) (a1 : Addr) (x0 x1 x2 x3 x4 : Int32) (h0 : Heap) (n0 : Nat) (Zn : n0 ≤ h0.size) (A_a1 : OwnA Z h0 a1 .int [.int x0, .int x1, .int x2, .int x3, .int x4]) (o_a1 : n0 ≤ a1) :
    MetFree l (⟨"com/example/libstrata/libstrata/layout/LayerEndsFirstAbovePinLaw", "cs", "([III)V"⟩ : MethodName) (head1 (Jvm.Cond.code (⟨"com/example/libstrata/libstrata/layout/LayerEndsFirstAbovePinLaw", "cs", "([III)V"⟩ : MethodName) method_3_code 4 none :: ws) ({ frames := 0, cells := 0, slots := 0, locals := 0 } : Room)) (fun a U => a = #[(.ref a1), (.int (2 : Int32)), (.int (3 : Int32))] ∧ Z.Warmed39 U.vm ∧ U.heap = h0) (fun _ _ _ _ _ => True) (fun _ U o U' => ∃ v L, o = .returned v ∧ (Q_rm1_2 Z a1 x0 x1 x2 x3 x4 h0 n0) v U'.heap L ∧ FrameEnd U o U' L ({ frames := 0, cells := 0, slots := 0, locals := 0 } : Room).cells ({ frames := 0, cells := 0, slots := 0, locals := 0 } : Room).slots) := by
  refine MetFree.of_bodySF (plainFor_of_name pn_1) hisR ?_
  intro p e s m args below meth c s₁ Bd hml0 hP hK
  obtain ⟨rfl, hZ, hh⟩ := hP
  have hx := Bd.exec
  have hby := Bd.bytes
  have hml : c.maxLocals = 4 := hml0
  have hown : s.vm.findClass "com/example/libstrata/libstrata/layout/LayerEndsFirstAbovePinLaw" = some m.cls := findClass_of_methodNamed Bd.named
  have hnm := (name_of_methodNamed Bd.named Bd.method).1
  have hlk : meth.locks = false := BodyLoose.notSynchronized Bd
  have X0 : Stand p l e ({ frames := 0, cells := 0, slots := 0, locals := 0 } : Room) s m #[(.ref a1), (.int (2 : Int32)), (.int (3 : Int32))] below meth c s₁ [] 0 0 := Stand.of_body Bd
  have e0 : s₁.heap = h0 := by rw [← hh, Bd.state]; rfl
  have N := Fr.nil n0
  have K := Keep.refl h0 [a1]
  refine own_start (cl := ({ frames := 0, cells := 0, slots := 0, locals := 0 } : Room).cells) (sl := ({ frames := 0, cells := 0, slots := 0, locals := 0 } : Room).slots) (Q := (Q_rm1_2 Z a1 x0 x1 x2 x3 x4 h0 n0)) (ef_rm1_2 m a1 ((2 : Int32)) ((3 : Int32))) ?_
  refine own_by (S' := (s₁.setTop (mkF m 1 #[.val (.ref a1), .val (.int (2 : Int32)), .val (.int (3 : Int32)), .unset] [(.ref a1)]))) (fun _ k => XS.aloadN X0.here hx rfl (hb hby d1_0) rfl rfl k) ?_
  refine own_by (S' := (s₁.setTop (mkF m 2 #[.val (.ref a1), .val (.int (2 : Int32)), .val (.int (3 : Int32)), .unset] [(.int (2 : Int32)), (.ref a1)]))) (fun _ k => XS.iloadN X0.here hx rfl (hb hby d1_1) rfl k) ?_
  refine own_by (S' := (s₁.setTop (mkF m 3 #[.val (.ref a1), .val (.int (2 : Int32)), .val (.int (3 : Int32)), .unset] [(.int x2)]))) (fun _ k => own_iaload X0 hx hZ e0 A_a1 (by decide) (v := (.int x2)) rfl (g := (mkF m 2 #[.val (.ref a1), .val (.int (2 : Int32)), .val (.int (3 : Int32)), .unset] [(.int (2 : Int32)), (.ref a1)])) rfl rfl (hb hby d1_2) _ k) ?_
  refine own_by (S' := (s₁.setTop (mkF m 4 #[.val (.ref a1), .val (.int (2 : Int32)), .val (.int (3 : Int32)), .unset] [(.ref a1), (.int x2)]))) (fun _ k => XS.aloadN X0.here hx rfl (hb hby d1_3) rfl rfl k) ?_
  refine own_by (S' := (s₁.setTop (mkF m 5 #[.val (.ref a1), .val (.int (2 : Int32)), .val (.int (3 : Int32)), .unset] [(.int (3 : Int32)), (.ref a1), (.int x2)]))) (fun _ k => XS.iloadN X0.here hx rfl (hb hby d1_4) rfl k) ?_
  refine own_by (S' := (s₁.setTop (mkF m 6 #[.val (.ref a1), .val (.int (2 : Int32)), .val (.int (3 : Int32)), .unset] [(.int x3), (.int x2)]))) (fun _ k => own_iaload X0 hx hZ e0 A_a1 (by decide) (v := (.int x3)) rfl (g := (mkF m 5 #[.val (.ref a1), .val (.int (2 : Int32)), .val (.int (3 : Int32)), .unset] [(.int (3 : Int32)), (.ref a1), (.int x2)])) rfl rfl (hb hby d1_5) _ k) ?_
  by_cases hc : x3 < x2
  · refine own_by (S' := (s₁.setTop (mkF m 9 #[.val (.ref a1), .val (.int (2 : Int32)), .val (.int (3 : Int32)), .unset] []))) (fun _ k => XS.icmpNo X0.here hx rfl (hb hby d1_6) rfl (tlt (hc : x3 < x2)).2.2.2 k) ?_
    refine own_by (S' := (s₁.setTop (mkF m 10 #[.val (.ref a1), .val (.int (2 : Int32)), .val (.int (3 : Int32)), .unset] [(.ref a1)]))) (fun _ k => XS.aloadN X0.here hx rfl (hb hby d1_9) rfl rfl k) ?_
    refine own_by (S' := (s₁.setTop (mkF m 11 #[.val (.ref a1), .val (.int (2 : Int32)), .val (.int (3 : Int32)), .unset] [(.int (2 : Int32)), (.ref a1)]))) (fun _ k => XS.iloadN X0.here hx rfl (hb hby d1_10) rfl k) ?_
    refine own_by (S' := (s₁.setTop (mkF m 12 #[.val (.ref a1), .val (.int (2 : Int32)), .val (.int (3 : Int32)), .unset] [(.int x2)]))) (fun _ k => own_iaload X0 hx hZ e0 A_a1 (by decide) (v := (.int x2)) rfl (g := (mkF m 11 #[.val (.ref a1), .val (.int (2 : Int32)), .val (.int (3 : Int32)), .unset] [(.int (2 : Int32)), (.ref a1)])) rfl rfl (hb hby d1_11) _ k) ?_
    refine own_by (S' := (s₁.setTop (mkF m 13 #[.val (.ref a1), .val (.int (2 : Int32)), .val (.int (3 : Int32)), .val (.int x2)] []))) (fun _ k => XS.istoreN X0.here hx rfl (hb hby d1_12) rfl (l' := #[.val (.ref a1), .val (.int (2 : Int32)), .val (.int (3 : Int32)), .val (.int x2)]) rfl k) ?_
    refine own_by (S' := (s₁.setTop (mkF m 14 #[.val (.ref a1), .val (.int (2 : Int32)), .val (.int (3 : Int32)), .val (.int x2)] [(.ref a1)]))) (fun _ k => XS.aloadN X0.here hx rfl (hb hby d1_13) rfl rfl k) ?_
    refine own_by (S' := (s₁.setTop (mkF m 15 #[.val (.ref a1), .val (.int (2 : Int32)), .val (.int (3 : Int32)), .val (.int x2)] [(.int (2 : Int32)), (.ref a1)]))) (fun _ k => XS.iloadN X0.here hx rfl (hb hby d1_14) rfl k) ?_
    refine own_by (S' := (s₁.setTop (mkF m 16 #[.val (.ref a1), .val (.int (2 : Int32)), .val (.int (3 : Int32)), .val (.int x2)] [(.ref a1), (.int (2 : Int32)), (.ref a1)]))) (fun _ k => XS.aloadN X0.here hx rfl (hb hby d1_15) rfl rfl k) ?_
    refine own_by (S' := (s₁.setTop (mkF m 17 #[.val (.ref a1), .val (.int (2 : Int32)), .val (.int (3 : Int32)), .val (.int x2)] [(.int (3 : Int32)), (.ref a1), (.int (2 : Int32)), (.ref a1)]))) (fun _ k => XS.iloadN X0.here hx rfl (hb hby d1_16) rfl k) ?_
    refine own_by (S' := (s₁.setTop (mkF m 18 #[.val (.ref a1), .val (.int (2 : Int32)), .val (.int (3 : Int32)), .val (.int x2)] [(.int x3), (.int (2 : Int32)), (.ref a1)]))) (fun _ k => own_iaload X0 hx hZ e0 A_a1 (by decide) (v := (.int x3)) rfl (g := (mkF m 17 #[.val (.ref a1), .val (.int (2 : Int32)), .val (.int (3 : Int32)), .val (.int x2)] [(.int (3 : Int32)), (.ref a1), (.int (2 : Int32)), (.ref a1)])) rfl rfl (hb hby d1_17) _ k) ?_
    obtain ⟨T5, h5, X5, e5, W5, st5⟩ := own_stI X0 hx hZ e0 A_a1 (j := (2 : Int32)) (by decide) (Nat.le_of_ble_eq_true rfl) (g := (mkF m 18 #[.val (.ref a1), .val (.int (2 : Int32)), .val (.int (3 : Int32)), .val (.int x2)] [(.int x3), (.int (2 : Int32)), (.ref a1)])) rfl rfl (hb hby d1_18)
    have N := Fr.snoc X5 N o_a1
    have A_a1 := A_a1.set W5
    have Zn : n0 ≤ _ := Nat.le_trans Zn (Nat.le_of_eq W5.size.symm)
    have K := K.wr W5 (Or.inl (List.mem_of_getElem? (i := 0) rfl))
    have A_a1 : OwnA Z h5 a1 .int [.int x0, .int x1, (.int x3), .int x3, .int x4] := A_a1
    refine own_by (S' := (T5.setTop (mkF m 19 #[.val (.ref a1), .val (.int (2 : Int32)), .val (.int (3 : Int32)), .val (.int x2)] []))) st5 ?_
    refine own_by (S' := (T5.setTop (mkF m 20 #[.val (.ref a1), .val (.int (2 : Int32)), .val (.int (3 : Int32)), .val (.int x2)] [(.ref a1)]))) (fun _ k => XS.aloadN X5.here hx rfl (hb hby d1_19) rfl rfl k) ?_
    refine own_by (S' := (T5.setTop (mkF m 21 #[.val (.ref a1), .val (.int (2 : Int32)), .val (.int (3 : Int32)), .val (.int x2)] [(.int (3 : Int32)), (.ref a1)]))) (fun _ k => XS.iloadN X5.here hx rfl (hb hby d1_20) rfl k) ?_
    refine own_by (S' := (T5.setTop (mkF m 22 #[.val (.ref a1), .val (.int (2 : Int32)), .val (.int (3 : Int32)), .val (.int x2)] [(.int x2), (.int (3 : Int32)), (.ref a1)]))) (fun _ k => XS.iloadN X5.here hx rfl (hb hby d1_21) rfl k) ?_
    obtain ⟨T6, h6, X6, e6, W6, st6⟩ := own_stI X5 hx hZ e5 A_a1 (j := (3 : Int32)) (by decide) (Nat.le_of_ble_eq_true rfl) (g := (mkF m 22 #[.val (.ref a1), .val (.int (2 : Int32)), .val (.int (3 : Int32)), .val (.int x2)] [(.int x2), (.int (3 : Int32)), (.ref a1)])) rfl rfl (hb hby d1_22)
    have N := Fr.snoc X6 N o_a1
    have A_a1 := A_a1.set W6
    have Zn : n0 ≤ _ := Nat.le_trans Zn (Nat.le_of_eq W6.size.symm)
    have K := K.wr W6 (Or.inl (List.mem_of_getElem? (i := 0) rfl))
    have A_a1 : OwnA Z h6 a1 .int [.int x0, .int x1, (.int x3), (.int x2), .int x4] := A_a1
    refine own_by (S' := (T6.setTop (mkF m 23 #[.val (.ref a1), .val (.int (2 : Int32)), .val (.int (3 : Int32)), .val (.int x2)] []))) st6 ?_
    exact own_ret0 X6 hx Bd.returns (hb hby d1_23) hlk (by decide : 0 ≤ _) (by decide : 0 ≤ _) (by rw [e6]; exact ⟨rfl, N, K, by rw [show own_lo x2 x3 = x3 from if_pos hc, show own_hi x2 x3 = x2 from if_pos hc]; exact A_a1⟩)
  · refine own_by (S' := (s₁.setTop (mkF m 23 #[.val (.ref a1), .val (.int (2 : Int32)), .val (.int (3 : Int32)), .unset] []))) (fun _ k => XS.icmpYes X0.here hx rfl (pc0 := 6) (pc' := 23) rfl (hb hby d1_6) rfl (flt (hc : ¬ (x3 < x2))).2.2.2 (by decide) (by decide) k) ?_
    exact own_ret0 X0 hx Bd.returns (hb hby d1_23) hlk (by decide : 0 ≤ _) (by decide : 0 ≤ _) (by rw [e0]; exact ⟨rfl, N, K, by rw [show own_lo x2 x3 = x2 from if_neg hc, show own_hi x2 x3 = x3 from if_neg hc]; exact A_a1⟩)
theorem ef_rm1_3 (m : MethodId) (x0 : Addr) (x1 : Int32) (x2 : Int32) : entryFrame m #[(.ref x0), (.int x1), (.int x2)] 4 = mkF m 0 #[.val (.ref x0), .val (.int x1), .val (.int x2), .unset] [] := by first | (simp [entryFrame, mkF, argsToLocals, Value.category]; done) | rfl
def Q_rm1_3 (Z : State) (a1 : Addr) (x0 x1 x2 x3 x4 : Int32) (h0 : Heap) (n0 : Nat) (v : Option Value) (h : Heap) (L : List Loc) : Prop := v = none ∧ Fr n0 L ∧ Keep h0 h [a1] ∧ OwnA Z h a1 .int [.int x0, .int x1, .int x2, .int (own_lo x3 x4), .int (own_hi x3 x4)]
set_option maxRecDepth 65536 in
set_option maxHeartbeats 40000000 in
theorem rm1_3 (l : Launch) (Z : State) (a0 : Array Value) (hw : ∀ d ∈ tables_1, d.before a0 Z = true) (ws : List Jvm.Cond) (a1 : Addr) (x0 x1 x2 x3 x4 : Int32) (h0 : Heap) (n0 : Nat) (Zn : n0 ≤ h0.size) (A_a1 : OwnA Z h0 a1 .int [.int x0, .int x1, .int x2, .int x3, .int x4]) (o_a1 : n0 ≤ a1) :
    MetFree l (⟨"com/example/libstrata/libstrata/layout/LayerEndsFirstAbovePinLaw", "cs", "([III)V"⟩ : MethodName) (head1 (Jvm.Cond.code (⟨"com/example/libstrata/libstrata/layout/LayerEndsFirstAbovePinLaw", "cs", "([III)V"⟩ : MethodName) method_3_code 4 none :: ws) ({ frames := 0, cells := 0, slots := 0, locals := 0 } : Room)) (fun a U => a = #[(.ref a1), (.int (3 : Int32)), (.int (4 : Int32))] ∧ Z.Warmed39 U.vm ∧ U.heap = h0) (fun _ _ _ _ _ => True) (fun _ U o U' => ∃ v L, o = .returned v ∧ (Q_rm1_3 Z a1 x0 x1 x2 x3 x4 h0 n0) v U'.heap L ∧ FrameEnd U o U' L ({ frames := 0, cells := 0, slots := 0, locals := 0 } : Room).cells ({ frames := 0, cells := 0, slots := 0, locals := 0 } : Room).slots) := by
  refine MetFree.of_bodySF (plainFor_of_name pn_1) hisR ?_
  intro p e s m args below meth c s₁ Bd hml0 hP hK
  obtain ⟨rfl, hZ, hh⟩ := hP
  have hx := Bd.exec
  have hby := Bd.bytes
  have hml : c.maxLocals = 4 := hml0
  have hown : s.vm.findClass "com/example/libstrata/libstrata/layout/LayerEndsFirstAbovePinLaw" = some m.cls := findClass_of_methodNamed Bd.named
  have hnm := (name_of_methodNamed Bd.named Bd.method).1
  have hlk : meth.locks = false := BodyLoose.notSynchronized Bd
  have X0 : Stand p l e ({ frames := 0, cells := 0, slots := 0, locals := 0 } : Room) s m #[(.ref a1), (.int (3 : Int32)), (.int (4 : Int32))] below meth c s₁ [] 0 0 := Stand.of_body Bd
  have e0 : s₁.heap = h0 := by rw [← hh, Bd.state]; rfl
  have N := Fr.nil n0
  have K := Keep.refl h0 [a1]
  refine own_start (cl := ({ frames := 0, cells := 0, slots := 0, locals := 0 } : Room).cells) (sl := ({ frames := 0, cells := 0, slots := 0, locals := 0 } : Room).slots) (Q := (Q_rm1_3 Z a1 x0 x1 x2 x3 x4 h0 n0)) (ef_rm1_3 m a1 ((3 : Int32)) ((4 : Int32))) ?_
  refine own_by (S' := (s₁.setTop (mkF m 1 #[.val (.ref a1), .val (.int (3 : Int32)), .val (.int (4 : Int32)), .unset] [(.ref a1)]))) (fun _ k => XS.aloadN X0.here hx rfl (hb hby d1_0) rfl rfl k) ?_
  refine own_by (S' := (s₁.setTop (mkF m 2 #[.val (.ref a1), .val (.int (3 : Int32)), .val (.int (4 : Int32)), .unset] [(.int (3 : Int32)), (.ref a1)]))) (fun _ k => XS.iloadN X0.here hx rfl (hb hby d1_1) rfl k) ?_
  refine own_by (S' := (s₁.setTop (mkF m 3 #[.val (.ref a1), .val (.int (3 : Int32)), .val (.int (4 : Int32)), .unset] [(.int x3)]))) (fun _ k => own_iaload X0 hx hZ e0 A_a1 (by decide) (v := (.int x3)) rfl (g := (mkF m 2 #[.val (.ref a1), .val (.int (3 : Int32)), .val (.int (4 : Int32)), .unset] [(.int (3 : Int32)), (.ref a1)])) rfl rfl (hb hby d1_2) _ k) ?_
  refine own_by (S' := (s₁.setTop (mkF m 4 #[.val (.ref a1), .val (.int (3 : Int32)), .val (.int (4 : Int32)), .unset] [(.ref a1), (.int x3)]))) (fun _ k => XS.aloadN X0.here hx rfl (hb hby d1_3) rfl rfl k) ?_
  refine own_by (S' := (s₁.setTop (mkF m 5 #[.val (.ref a1), .val (.int (3 : Int32)), .val (.int (4 : Int32)), .unset] [(.int (4 : Int32)), (.ref a1), (.int x3)]))) (fun _ k => XS.iloadN X0.here hx rfl (hb hby d1_4) rfl k) ?_
  refine own_by (S' := (s₁.setTop (mkF m 6 #[.val (.ref a1), .val (.int (3 : Int32)), .val (.int (4 : Int32)), .unset] [(.int x4), (.int x3)]))) (fun _ k => own_iaload X0 hx hZ e0 A_a1 (by decide) (v := (.int x4)) rfl (g := (mkF m 5 #[.val (.ref a1), .val (.int (3 : Int32)), .val (.int (4 : Int32)), .unset] [(.int (4 : Int32)), (.ref a1), (.int x3)])) rfl rfl (hb hby d1_5) _ k) ?_
  by_cases hc : x4 < x3
  · refine own_by (S' := (s₁.setTop (mkF m 9 #[.val (.ref a1), .val (.int (3 : Int32)), .val (.int (4 : Int32)), .unset] []))) (fun _ k => XS.icmpNo X0.here hx rfl (hb hby d1_6) rfl (tlt (hc : x4 < x3)).2.2.2 k) ?_
    refine own_by (S' := (s₁.setTop (mkF m 10 #[.val (.ref a1), .val (.int (3 : Int32)), .val (.int (4 : Int32)), .unset] [(.ref a1)]))) (fun _ k => XS.aloadN X0.here hx rfl (hb hby d1_9) rfl rfl k) ?_
    refine own_by (S' := (s₁.setTop (mkF m 11 #[.val (.ref a1), .val (.int (3 : Int32)), .val (.int (4 : Int32)), .unset] [(.int (3 : Int32)), (.ref a1)]))) (fun _ k => XS.iloadN X0.here hx rfl (hb hby d1_10) rfl k) ?_
    refine own_by (S' := (s₁.setTop (mkF m 12 #[.val (.ref a1), .val (.int (3 : Int32)), .val (.int (4 : Int32)), .unset] [(.int x3)]))) (fun _ k => own_iaload X0 hx hZ e0 A_a1 (by decide) (v := (.int x3)) rfl (g := (mkF m 11 #[.val (.ref a1), .val (.int (3 : Int32)), .val (.int (4 : Int32)), .unset] [(.int (3 : Int32)), (.ref a1)])) rfl rfl (hb hby d1_11) _ k) ?_
    refine own_by (S' := (s₁.setTop (mkF m 13 #[.val (.ref a1), .val (.int (3 : Int32)), .val (.int (4 : Int32)), .val (.int x3)] []))) (fun _ k => XS.istoreN X0.here hx rfl (hb hby d1_12) rfl (l' := #[.val (.ref a1), .val (.int (3 : Int32)), .val (.int (4 : Int32)), .val (.int x3)]) rfl k) ?_
    refine own_by (S' := (s₁.setTop (mkF m 14 #[.val (.ref a1), .val (.int (3 : Int32)), .val (.int (4 : Int32)), .val (.int x3)] [(.ref a1)]))) (fun _ k => XS.aloadN X0.here hx rfl (hb hby d1_13) rfl rfl k) ?_
    refine own_by (S' := (s₁.setTop (mkF m 15 #[.val (.ref a1), .val (.int (3 : Int32)), .val (.int (4 : Int32)), .val (.int x3)] [(.int (3 : Int32)), (.ref a1)]))) (fun _ k => XS.iloadN X0.here hx rfl (hb hby d1_14) rfl k) ?_
    refine own_by (S' := (s₁.setTop (mkF m 16 #[.val (.ref a1), .val (.int (3 : Int32)), .val (.int (4 : Int32)), .val (.int x3)] [(.ref a1), (.int (3 : Int32)), (.ref a1)]))) (fun _ k => XS.aloadN X0.here hx rfl (hb hby d1_15) rfl rfl k) ?_
    refine own_by (S' := (s₁.setTop (mkF m 17 #[.val (.ref a1), .val (.int (3 : Int32)), .val (.int (4 : Int32)), .val (.int x3)] [(.int (4 : Int32)), (.ref a1), (.int (3 : Int32)), (.ref a1)]))) (fun _ k => XS.iloadN X0.here hx rfl (hb hby d1_16) rfl k) ?_
    refine own_by (S' := (s₁.setTop (mkF m 18 #[.val (.ref a1), .val (.int (3 : Int32)), .val (.int (4 : Int32)), .val (.int x3)] [(.int x4), (.int (3 : Int32)), (.ref a1)]))) (fun _ k => own_iaload X0 hx hZ e0 A_a1 (by decide) (v := (.int x4)) rfl (g := (mkF m 17 #[.val (.ref a1), .val (.int (3 : Int32)), .val (.int (4 : Int32)), .val (.int x3)] [(.int (4 : Int32)), (.ref a1), (.int (3 : Int32)), (.ref a1)])) rfl rfl (hb hby d1_17) _ k) ?_
    obtain ⟨T7, h7, X7, e7, W7, st7⟩ := own_stI X0 hx hZ e0 A_a1 (j := (3 : Int32)) (by decide) (Nat.le_of_ble_eq_true rfl) (g := (mkF m 18 #[.val (.ref a1), .val (.int (3 : Int32)), .val (.int (4 : Int32)), .val (.int x3)] [(.int x4), (.int (3 : Int32)), (.ref a1)])) rfl rfl (hb hby d1_18)
    have N := Fr.snoc X7 N o_a1
    have A_a1 := A_a1.set W7
    have Zn : n0 ≤ _ := Nat.le_trans Zn (Nat.le_of_eq W7.size.symm)
    have K := K.wr W7 (Or.inl (List.mem_of_getElem? (i := 0) rfl))
    have A_a1 : OwnA Z h7 a1 .int [.int x0, .int x1, .int x2, (.int x4), .int x4] := A_a1
    refine own_by (S' := (T7.setTop (mkF m 19 #[.val (.ref a1), .val (.int (3 : Int32)), .val (.int (4 : Int32)), .val (.int x3)] []))) st7 ?_
    refine own_by (S' := (T7.setTop (mkF m 20 #[.val (.ref a1), .val (.int (3 : Int32)), .val (.int (4 : Int32)), .val (.int x3)] [(.ref a1)]))) (fun _ k => XS.aloadN X7.here hx rfl (hb hby d1_19) rfl rfl k) ?_
    refine own_by (S' := (T7.setTop (mkF m 21 #[.val (.ref a1), .val (.int (3 : Int32)), .val (.int (4 : Int32)), .val (.int x3)] [(.int (4 : Int32)), (.ref a1)]))) (fun _ k => XS.iloadN X7.here hx rfl (hb hby d1_20) rfl k) ?_
    refine own_by (S' := (T7.setTop (mkF m 22 #[.val (.ref a1), .val (.int (3 : Int32)), .val (.int (4 : Int32)), .val (.int x3)] [(.int x3), (.int (4 : Int32)), (.ref a1)]))) (fun _ k => XS.iloadN X7.here hx rfl (hb hby d1_21) rfl k) ?_
    obtain ⟨T8, h8, X8, e8, W8, st8⟩ := own_stI X7 hx hZ e7 A_a1 (j := (4 : Int32)) (by decide) (Nat.le_of_ble_eq_true rfl) (g := (mkF m 22 #[.val (.ref a1), .val (.int (3 : Int32)), .val (.int (4 : Int32)), .val (.int x3)] [(.int x3), (.int (4 : Int32)), (.ref a1)])) rfl rfl (hb hby d1_22)
    have N := Fr.snoc X8 N o_a1
    have A_a1 := A_a1.set W8
    have Zn : n0 ≤ _ := Nat.le_trans Zn (Nat.le_of_eq W8.size.symm)
    have K := K.wr W8 (Or.inl (List.mem_of_getElem? (i := 0) rfl))
    have A_a1 : OwnA Z h8 a1 .int [.int x0, .int x1, .int x2, (.int x4), (.int x3)] := A_a1
    refine own_by (S' := (T8.setTop (mkF m 23 #[.val (.ref a1), .val (.int (3 : Int32)), .val (.int (4 : Int32)), .val (.int x3)] []))) st8 ?_
    exact own_ret0 X8 hx Bd.returns (hb hby d1_23) hlk (by decide : 0 ≤ _) (by decide : 0 ≤ _) (by rw [e8]; exact ⟨rfl, N, K, by rw [show own_lo x3 x4 = x4 from if_pos hc, show own_hi x3 x4 = x3 from if_pos hc]; exact A_a1⟩)
  · refine own_by (S' := (s₁.setTop (mkF m 23 #[.val (.ref a1), .val (.int (3 : Int32)), .val (.int (4 : Int32)), .unset] []))) (fun _ k => XS.icmpYes X0.here hx rfl (pc0 := 6) (pc' := 23) rfl (hb hby d1_6) rfl (flt (hc : ¬ (x4 < x3))).2.2.2 (by decide) (by decide) k) ?_
    exact own_ret0 X0 hx Bd.returns (hb hby d1_23) hlk (by decide : 0 ≤ _) (by decide : 0 ≤ _) (by rw [e0]; exact ⟨rfl, N, K, by rw [show own_lo x3 x4 = x3 from if_neg hc, show own_hi x3 x4 = x4 from if_neg hc]; exact A_a1⟩)
theorem d2_0 : decode prog_41_method_26_code 0 = .ok (.iload_n 1, 1) := by decide +kernel
theorem d2_1 : decode prog_41_method_26_code 1 = .ok (.istore 4, 2) := by decide +kernel
theorem d2_3 : decode prog_41_method_26_code 3 = .ok (.iload_n 2, 1) := by decide +kernel
theorem d2_4 : decode prog_41_method_26_code 4 = .ok (.istore 5, 2) := by decide +kernel
theorem d2_6 : decode prog_41_method_26_code 6 = .ok (.iload 4, 2) := by decide +kernel
theorem d2_8 : decode prog_41_method_26_code 8 = .ok (.iload 5, 2) := by decide +kernel
theorem d2_10 : decode prog_41_method_26_code 10 = .ok (.if_icmp .ge 36, 3) := by decide +kernel
theorem d2_13 : decode prog_41_method_26_code 13 = .ok (.iload 4, 2) := by decide +kernel
theorem d2_15 : decode prog_41_method_26_code 15 = .ok (.iload 5, 2) := by decide +kernel
theorem d2_17 : decode prog_41_method_26_code 17 = .ok (.iadd, 1) := by decide +kernel
theorem d2_18 : decode prog_41_method_26_code 18 = .ok (.iconst 1, 1) := by decide +kernel
theorem d2_19 : decode prog_41_method_26_code 19 = .ok (.iushr, 1) := by decide +kernel
theorem d2_20 : decode prog_41_method_26_code 20 = .ok (.istore 6, 2) := by decide +kernel
theorem d2_22 : decode prog_41_method_26_code 22 = .ok (.aload_n 0, 1) := by decide +kernel
theorem d2_23 : decode prog_41_method_26_code 23 = .ok (.iload 6, 2) := by decide +kernel
theorem d2_25 : decode prog_41_method_26_code 25 = .ok (.iaload, 1) := by decide +kernel
theorem d2_26 : decode prog_41_method_26_code 26 = .ok (.iload_n 3, 1) := by decide +kernel
theorem d2_27 : decode prog_41_method_26_code 27 = .ok (.if_icmp .le 10, 3) := by decide +kernel
theorem d2_30 : decode prog_41_method_26_code 30 = .ok (.iload 6, 2) := by decide +kernel
theorem d2_32 : decode prog_41_method_26_code 32 = .ok (.istore 5, 2) := by decide +kernel
theorem d2_34 : decode prog_41_method_26_code 34 = .ok (.goto 9, 3) := by decide +kernel
theorem d2_37 : decode prog_41_method_26_code 37 = .ok (.iload 6, 2) := by decide +kernel
theorem d2_39 : decode prog_41_method_26_code 39 = .ok (.iconst 1, 1) := by decide +kernel
theorem d2_40 : decode prog_41_method_26_code 40 = .ok (.iadd, 1) := by decide +kernel
theorem d2_41 : decode prog_41_method_26_code 41 = .ok (.istore 4, 2) := by decide +kernel
theorem d2_43 : decode prog_41_method_26_code 43 = .ok (.goto (-37), 3) := by decide +kernel
theorem d2_46 : decode prog_41_method_26_code 46 = .ok (.iload 4, 2) := by decide +kernel
theorem d2_48 : decode prog_41_method_26_code 48 = .ok (.ireturn, 1) := by decide +kernel
theorem pn_2 : plainName "com/example/libstrata/libstrata/layout/LayerEnds" = true := by first | (simp [plainName, overriddenIn]; done) | decide +kernel
theorem ef_rm2 (m : MethodId) (x0 : Addr) (x1 : Int32) (x2 : Int32) (x3 : Int32) : entryFrame m #[(.ref x0), (.int x1), (.int x2), (.int x3)] 7 = mkF m 0 #[.val (.ref x0), .val (.int x1), .val (.int x2), .val (.int x3), .unset, .unset, .unset] [] := by first | (simp [entryFrame, mkF, argsToLocals, Value.category]; done) | rfl
def Q_rm2 (Z : State) (a1 : Addr) (ys : List Int32) (f t : Nat) (val : Int32) (h0 : Heap) (n0 : Nat) (v : Option Value) (h : Heap) (L : List Loc) : Prop := ∃ r : Nat, v = some (.int (Int32.ofNat r)) ∧ Fr n0 L ∧ h = h0 ∧ f ≤ r ∧ r ≤ t ∧ (∀ i, f ≤ i → i < r → ¬ val < ys.getD i 0) ∧ (∀ i, r ≤ i → i < t → val < ys.getD i 0)
set_option maxRecDepth 65536 in
set_option maxHeartbeats 40000000 in
theorem rm2 (l : Launch) (Z : State) (a0 : Array Value) (hw : ∀ d ∈ tables_1, d.before a0 Z = true) (ws : List Jvm.Cond) (a1 : Addr) (ys : List Int32) (f t : Nat) (val : Int32) (h0 : Heap) (n0 : Nat) (Zn : n0 ≤ h0.size) (A_a1 : OwnA Z h0 a1 .int (ys.map Value.int)) (hft : f ≤ t) (ht : t ≤ ys.length) (hlen : ys.length ≤ 5) (hsort : ∀ i j, i ≤ j → j < ys.length → (ys.getD i 0).toInt ≤ (ys.getD j 0).toInt) :
    MetFree l (⟨"com/example/libstrata/libstrata/layout/LayerEnds", "firstAbove", "([IIII)I"⟩ : MethodName) (head1 (Jvm.Cond.code (⟨"com/example/libstrata/libstrata/layout/LayerEnds", "firstAbove", "([IIII)I"⟩ : MethodName) prog_41_method_26_code 7 (some .int) :: ws) ({ frames := 0, cells := 0, slots := 0, locals := 0 } : Room)) (fun a U => a = #[(.ref a1), (.int (Int32.ofNat f)), (.int (Int32.ofNat t)), (.int val)] ∧ Z.Warmed39 U.vm ∧ U.heap = h0) (fun _ _ _ _ _ => True) (fun _ U o U' => ∃ v L, o = .returned v ∧ (Q_rm2 Z a1 ys f t val h0 n0) v U'.heap L ∧ FrameEnd U o U' L ({ frames := 0, cells := 0, slots := 0, locals := 0 } : Room).cells ({ frames := 0, cells := 0, slots := 0, locals := 0 } : Room).slots) := by
  refine MetFree.of_bodySF (plainFor_of_name pn_2) hisR ?_
  intro p e s m args below meth c s₁ Bd hml0 hP hK
  obtain ⟨rfl, hZ, hh⟩ := hP
  have hx := Bd.exec
  have hby := Bd.bytes
  have hml : c.maxLocals = 7 := hml0
  have hown : s.vm.findClass "com/example/libstrata/libstrata/layout/LayerEnds" = some m.cls := findClass_of_methodNamed Bd.named
  have hnm := (name_of_methodNamed Bd.named Bd.method).1
  have hlk : meth.locks = false := BodyLoose.notSynchronized Bd
  have X0 : Stand p l e ({ frames := 0, cells := 0, slots := 0, locals := 0 } : Room) s m #[(.ref a1), (.int (Int32.ofNat f)), (.int (Int32.ofNat t)), (.int val)] below meth c s₁ [] 0 0 := Stand.of_body Bd
  have e0 : s₁.heap = h0 := by rw [← hh, Bd.state]; rfl
  have N := Fr.nil n0
  have K := Keep.refl h0 []
  refine own_start (cl := ({ frames := 0, cells := 0, slots := 0, locals := 0 } : Room).cells) (sl := ({ frames := 0, cells := 0, slots := 0, locals := 0 } : Room).slots) (Q := (Q_rm2 Z a1 ys f t val h0 n0)) (ef_rm2 m a1 ((Int32.ofNat f)) ((Int32.ofNat t)) val) ?_
  refine own_by (S' := (s₁.setTop (mkF m 1 #[.val (.ref a1), .val (.int (Int32.ofNat f)), .val (.int (Int32.ofNat t)), .val (.int val), .unset, .unset, .unset] [(.int (Int32.ofNat f))]))) (fun _ k => XS.iloadN X0.here hx rfl (hb hby d2_0) rfl k) ?_
  refine own_by (S' := (s₁.setTop (mkF m 3 #[.val (.ref a1), .val (.int (Int32.ofNat f)), .val (.int (Int32.ofNat t)), .val (.int val), .val (.int (Int32.ofNat f)), .unset, .unset] []))) (fun _ k => XS.istore X0.here hx rfl (hb hby d2_1) rfl (l' := #[.val (.ref a1), .val (.int (Int32.ofNat f)), .val (.int (Int32.ofNat t)), .val (.int val), .val (.int (Int32.ofNat f)), .unset, .unset]) rfl k) ?_
  refine own_by (S' := (s₁.setTop (mkF m 4 #[.val (.ref a1), .val (.int (Int32.ofNat f)), .val (.int (Int32.ofNat t)), .val (.int val), .val (.int (Int32.ofNat f)), .unset, .unset] [(.int (Int32.ofNat t))]))) (fun _ k => XS.iloadN X0.here hx rfl (hb hby d2_3) rfl k) ?_
  refine own_by (S' := (s₁.setTop (mkF m 6 #[.val (.ref a1), .val (.int (Int32.ofNat f)), .val (.int (Int32.ofNat t)), .val (.int val), .val (.int (Int32.ofNat f)), .val (.int (Int32.ofNat t)), .unset] []))) (fun _ k => XS.istore X0.here hx rfl (hb hby d2_4) rfl (l' := #[.val (.ref a1), .val (.int (Int32.ofNat f)), .val (.int (Int32.ofNat t)), .val (.int val), .val (.int (Int32.ofNat f)), .val (.int (Int32.ofNat t)), .unset]) rfl k) ?_
  have loop : ∀ (k lo hi : Nat) (s6 : Slot) (T : State), hi - lo ≤ k → f ≤ lo → lo ≤ hi → hi ≤ t → (∀ i, f ≤ i → i < lo → ¬ val < ys.getD i 0) → (∀ i, hi ≤ i → i < t → val < ys.getD i 0) → (s6 = .unset ∨ ∃ t, s6 = .val (.int t)) → Stand p l e ({ frames := 0, cells := 0, slots := 0, locals := 0 } : Room) s m #[(.ref a1), (.int (Int32.ofNat f)), (.int (Int32.ofNat t)), (.int val)] below meth c T [] 0 0 → T.heap = h0 → own_fin p e below s ({ frames := 0, cells := 0, slots := 0, locals := 0 } : Room).cells ({ frames := 0, cells := 0, slots := 0, locals := 0 } : Room).slots (Q_rm2 Z a1 ys f t val h0 n0) (T.setTop (mkF m 6 #[.val (.ref a1), .val (.int (Int32.ofNat f)), .val (.int (Int32.ofNat t)), .val (.int val), .val (.int (Int32.ofNat lo)), .val (.int (Int32.ofNat hi)), s6] [])) := by
    intro k
    induction k with
    | zero =>
      intro lo hi s6 T hk hl1 hl2 hl3 hl4 hl5 hs XT eT
      refine own_by (S' := (T.setTop (mkF m 8 #[.val (.ref a1), .val (.int (Int32.ofNat f)), .val (.int (Int32.ofNat t)), .val (.int val), .val (.int (Int32.ofNat lo)), .val (.int (Int32.ofNat hi)), s6] [(.int (Int32.ofNat lo))]))) (fun _ k => XS.iload XT.here hx rfl (hb hby d2_6) rfl k) ?_
      refine own_by (S' := (T.setTop (mkF m 10 #[.val (.ref a1), .val (.int (Int32.ofNat f)), .val (.int (Int32.ofNat t)), .val (.int val), .val (.int (Int32.ofNat lo)), .val (.int (Int32.ofNat hi)), s6] [(.int (Int32.ofNat hi)), (.int (Int32.ofNat lo))]))) (fun _ k => XS.iload XT.here hx rfl (hb hby d2_8) rfl k) ?_
      refine own_by (S' := (T.setTop (mkF m 46 #[.val (.ref a1), .val (.int (Int32.ofNat f)), .val (.int (Int32.ofNat t)), .val (.int val), .val (.int (Int32.ofNat lo)), .val (.int (Int32.ofNat hi)), s6] []))) (fun _ k => XS.icmpYes XT.here hx rfl (pc0 := 10) (pc' := 46) rfl (hb hby d2_10) rfl (flt ((own_nlt (by omega) (by omega)) : ¬ ((Int32.ofNat lo) < (Int32.ofNat hi)))).2.1 (by decide) (by decide) k) ?_
      refine own_by (S' := (T.setTop (mkF m 48 #[.val (.ref a1), .val (.int (Int32.ofNat f)), .val (.int (Int32.ofNat t)), .val (.int val), .val (.int (Int32.ofNat lo)), .val (.int (Int32.ofNat hi)), s6] [(.int (Int32.ofNat lo))]))) (fun _ k => XS.iload XT.here hx rfl (hb hby d2_46) rfl k) ?_
      exact own_ret XT hx (t := .int) Bd.returns rfl (Or.inl ⟨rfl, by simp, _, rfl⟩) (hb hby d2_48) hlk (by decide : 0 ≤ _) (by decide : 0 ≤ _) (by rw [eT]; exact ⟨lo, rfl, N, rfl, hl1, by omega, hl4, fun i p q => hl5 i (by omega) q⟩)
    | succ k ih =>
      intro lo hi s6 T hk hl1 hl2 hl3 hl4 hl5 hs XT eT
      by_cases hlt : lo < hi
      · refine own_by (S' := (T.setTop (mkF m 8 #[.val (.ref a1), .val (.int (Int32.ofNat f)), .val (.int (Int32.ofNat t)), .val (.int val), .val (.int (Int32.ofNat lo)), .val (.int (Int32.ofNat hi)), s6] [(.int (Int32.ofNat lo))]))) (fun _ k => XS.iload XT.here hx rfl (hb hby d2_6) rfl k) ?_
        refine own_by (S' := (T.setTop (mkF m 10 #[.val (.ref a1), .val (.int (Int32.ofNat f)), .val (.int (Int32.ofNat t)), .val (.int val), .val (.int (Int32.ofNat lo)), .val (.int (Int32.ofNat hi)), s6] [(.int (Int32.ofNat hi)), (.int (Int32.ofNat lo))]))) (fun _ k => XS.iload XT.here hx rfl (hb hby d2_8) rfl k) ?_
        refine own_by (S' := (T.setTop (mkF m 13 #[.val (.ref a1), .val (.int (Int32.ofNat f)), .val (.int (Int32.ofNat t)), .val (.int val), .val (.int (Int32.ofNat lo)), .val (.int (Int32.ofNat hi)), s6] []))) (fun _ k => XS.icmpNo XT.here hx rfl (hb hby d2_10) rfl (tlt ((own_lt hlt (by omega)) : (Int32.ofNat lo) < (Int32.ofNat hi))).2.1 k) ?_
        refine own_by (S' := (T.setTop (mkF m 15 #[.val (.ref a1), .val (.int (Int32.ofNat f)), .val (.int (Int32.ofNat t)), .val (.int val), .val (.int (Int32.ofNat lo)), .val (.int (Int32.ofNat hi)), s6] [(.int (Int32.ofNat lo))]))) (fun _ k => XS.iload XT.here hx rfl (hb hby d2_13) rfl k) ?_
        refine own_by (S' := (T.setTop (mkF m 17 #[.val (.ref a1), .val (.int (Int32.ofNat f)), .val (.int (Int32.ofNat t)), .val (.int val), .val (.int (Int32.ofNat lo)), .val (.int (Int32.ofNat hi)), s6] [(.int (Int32.ofNat hi)), (.int (Int32.ofNat lo))]))) (fun _ k => XS.iload XT.here hx rfl (hb hby d2_15) rfl k) ?_
        refine own_by (S' := (T.setTop (mkF m 18 #[.val (.ref a1), .val (.int (Int32.ofNat f)), .val (.int (Int32.ofNat t)), .val (.int val), .val (.int (Int32.ofNat lo)), .val (.int (Int32.ofNat hi)), s6] [(.int ((Int32.ofNat lo) + (Int32.ofNat hi)))]))) (fun _ k => XS.iadd XT.here hx rfl (hb hby d2_17) rfl k) ?_
        refine own_by (S' := (T.setTop (mkF m 19 #[.val (.ref a1), .val (.int (Int32.ofNat f)), .val (.int (Int32.ofNat t)), .val (.int val), .val (.int (Int32.ofNat lo)), .val (.int (Int32.ofNat hi)), s6] [(.int (1 : Int32)), (.int ((Int32.ofNat lo) + (Int32.ofNat hi)))]))) (fun _ k => XS.iconst XT.here hx rfl (hb hby d2_18) k) ?_
        refine own_by (S' := (T.setTop (mkF m 20 #[.val (.ref a1), .val (.int (Int32.ofNat f)), .val (.int (Int32.ofNat t)), .val (.int val), .val (.int (Int32.ofNat lo)), .val (.int (Int32.ofNat hi)), s6] [(.int ((((Int32.ofNat lo) + (Int32.ofNat hi)).toUInt32 >>> ((1 : Int32) &&& 31).toUInt32).toInt32))]))) (fun _ k => XS.iushr XT.here hx rfl (hb hby d2_19) rfl k) ?_
        rw [own_mid (by omega) (by omega)]
        have hm1 : lo ≤ (lo + hi) / 2 := by omega
        have hm2 : (lo + hi) / 2 < hi := by omega
        generalize (lo + hi) / 2 = mid at hm1 hm2 ⊢
        have hat : (ys.map Value.int)[(Int32.ofNat mid).toNatClampNeg]? = some (.int (ys.getD mid 0)) := by
          rw [own_n32 (by omega)]
          simp [List.getD_eq_getElem?_getD, List.getElem?_eq_getElem (show mid < ys.length by omega)]
        refine own_by (S' := (T.setTop (mkF m 22 #[.val (.ref a1), .val (.int (Int32.ofNat f)), .val (.int (Int32.ofNat t)), .val (.int val), .val (.int (Int32.ofNat lo)), .val (.int (Int32.ofNat hi)), .val (.int (Int32.ofNat mid))] []))) (fun _ k => XS.istore XT.here hx rfl (hb hby d2_20) rfl (l' := #[.val (.ref a1), .val (.int (Int32.ofNat f)), .val (.int (Int32.ofNat t)), .val (.int val), .val (.int (Int32.ofNat lo)), .val (.int (Int32.ofNat hi)), .val (.int (Int32.ofNat mid))]) (own_one6 hs) k) ?_
        refine own_by (S' := (T.setTop (mkF m 23 #[.val (.ref a1), .val (.int (Int32.ofNat f)), .val (.int (Int32.ofNat t)), .val (.int val), .val (.int (Int32.ofNat lo)), .val (.int (Int32.ofNat hi)), .val (.int (Int32.ofNat mid))] [(.ref a1)]))) (fun _ k => XS.aloadN XT.here hx rfl (hb hby d2_22) rfl rfl k) ?_
        refine own_by (S' := (T.setTop (mkF m 25 #[.val (.ref a1), .val (.int (Int32.ofNat f)), .val (.int (Int32.ofNat t)), .val (.int val), .val (.int (Int32.ofNat lo)), .val (.int (Int32.ofNat hi)), .val (.int (Int32.ofNat mid))] [(.int (Int32.ofNat mid)), (.ref a1)]))) (fun _ k => XS.iload XT.here hx rfl (hb hby d2_23) rfl k) ?_
        refine own_by (S' := (T.setTop (mkF m 26 #[.val (.ref a1), .val (.int (Int32.ofNat f)), .val (.int (Int32.ofNat t)), .val (.int val), .val (.int (Int32.ofNat lo)), .val (.int (Int32.ofNat hi)), .val (.int (Int32.ofNat mid))] [(.int (ys.getD mid 0))]))) (fun _ k => own_iaload XT hx hZ eT A_a1 (own_nn (by omega)) (v := (.int (ys.getD mid 0))) hat (g := (mkF m 25 #[.val (.ref a1), .val (.int (Int32.ofNat f)), .val (.int (Int32.ofNat t)), .val (.int val), .val (.int (Int32.ofNat lo)), .val (.int (Int32.ofNat hi)), .val (.int (Int32.ofNat mid))] [(.int (Int32.ofNat mid)), (.ref a1)])) rfl rfl (hb hby d2_25) _ k) ?_
        refine own_by (S' := (T.setTop (mkF m 27 #[.val (.ref a1), .val (.int (Int32.ofNat f)), .val (.int (Int32.ofNat t)), .val (.int val), .val (.int (Int32.ofNat lo)), .val (.int (Int32.ofNat hi)), .val (.int (Int32.ofNat mid))] [(.int val), (.int (ys.getD mid 0))]))) (fun _ k => XS.iloadN XT.here hx rfl (hb hby d2_26) rfl k) ?_
        by_cases hv : val < (ys.getD mid 0)
        · refine own_by (S' := (T.setTop (mkF m 30 #[.val (.ref a1), .val (.int (Int32.ofNat f)), .val (.int (Int32.ofNat t)), .val (.int val), .val (.int (Int32.ofNat lo)), .val (.int (Int32.ofNat hi)), .val (.int (Int32.ofNat mid))] []))) (fun _ k => XS.icmpNo XT.here hx rfl (hb hby d2_27) rfl (tlt (hv : val < (ys.getD mid 0))).2.2.2 k) ?_
          refine own_by (S' := (T.setTop (mkF m 32 #[.val (.ref a1), .val (.int (Int32.ofNat f)), .val (.int (Int32.ofNat t)), .val (.int val), .val (.int (Int32.ofNat lo)), .val (.int (Int32.ofNat hi)), .val (.int (Int32.ofNat mid))] [(.int (Int32.ofNat mid))]))) (fun _ k => XS.iload XT.here hx rfl (hb hby d2_30) rfl k) ?_
          refine own_by (S' := (T.setTop (mkF m 34 #[.val (.ref a1), .val (.int (Int32.ofNat f)), .val (.int (Int32.ofNat t)), .val (.int val), .val (.int (Int32.ofNat lo)), .val (.int (Int32.ofNat mid)), .val (.int (Int32.ofNat mid))] []))) (fun _ k => XS.istore XT.here hx rfl (hb hby d2_32) rfl (l' := #[.val (.ref a1), .val (.int (Int32.ofNat f)), .val (.int (Int32.ofNat t)), .val (.int val), .val (.int (Int32.ofNat lo)), .val (.int (Int32.ofNat mid)), .val (.int (Int32.ofNat mid))]) rfl k) ?_
          refine own_by (S' := (T.setTop (mkF m 43 #[.val (.ref a1), .val (.int (Int32.ofNat f)), .val (.int (Int32.ofNat t)), .val (.int val), .val (.int (Int32.ofNat lo)), .val (.int (Int32.ofNat mid)), .val (.int (Int32.ofNat mid))] []))) (fun _ k => XS.goto XT.here hx rfl (pc0 := 34) (pc' := 43) rfl (hb hby d2_34) (by decide) (by decide) k) ?_
          refine own_by (S' := (T.setTop (mkF m 6 #[.val (.ref a1), .val (.int (Int32.ofNat f)), .val (.int (Int32.ofNat t)), .val (.int val), .val (.int (Int32.ofNat lo)), .val (.int (Int32.ofNat mid)), .val (.int (Int32.ofNat mid))] []))) (fun _ k => XS.goto XT.here hx rfl (pc0 := 43) (pc' := 6) rfl (hb hby d2_43) (by decide) (by decide) k) ?_
          exact ih lo mid (.val (.int (Int32.ofNat mid))) T (by omega) hl1 hm1 (by omega) hl4 (fun i p q => by
            have h1 := hsort mid i p (by omega)
            rw [Int32.lt_iff_toInt_lt] at hv ⊢
            omega) (Or.inr ⟨_, rfl⟩) XT eT
        · refine own_by (S' := (T.setTop (mkF m 37 #[.val (.ref a1), .val (.int (Int32.ofNat f)), .val (.int (Int32.ofNat t)), .val (.int val), .val (.int (Int32.ofNat lo)), .val (.int (Int32.ofNat hi)), .val (.int (Int32.ofNat mid))] []))) (fun _ k => XS.icmpYes XT.here hx rfl (pc0 := 27) (pc' := 37) rfl (hb hby d2_27) rfl (flt (hv : ¬ (val < (ys.getD mid 0)))).2.2.2 (by decide) (by decide) k) ?_
          refine own_by (S' := (T.setTop (mkF m 39 #[.val (.ref a1), .val (.int (Int32.ofNat f)), .val (.int (Int32.ofNat t)), .val (.int val), .val (.int (Int32.ofNat lo)), .val (.int (Int32.ofNat hi)), .val (.int (Int32.ofNat mid))] [(.int (Int32.ofNat mid))]))) (fun _ k => XS.iload XT.here hx rfl (hb hby d2_37) rfl k) ?_
          refine own_by (S' := (T.setTop (mkF m 40 #[.val (.ref a1), .val (.int (Int32.ofNat f)), .val (.int (Int32.ofNat t)), .val (.int val), .val (.int (Int32.ofNat lo)), .val (.int (Int32.ofNat hi)), .val (.int (Int32.ofNat mid))] [(.int (1 : Int32)), (.int (Int32.ofNat mid))]))) (fun _ k => XS.iconst XT.here hx rfl (hb hby d2_39) k) ?_
          refine own_by (S' := (T.setTop (mkF m 41 #[.val (.ref a1), .val (.int (Int32.ofNat f)), .val (.int (Int32.ofNat t)), .val (.int val), .val (.int (Int32.ofNat lo)), .val (.int (Int32.ofNat hi)), .val (.int (Int32.ofNat mid))] [(.int ((Int32.ofNat mid) + (1 : Int32)))]))) (fun _ k => XS.iadd XT.here hx rfl (hb hby d2_40) rfl k) ?_
          refine own_by (S' := (T.setTop (mkF m 43 #[.val (.ref a1), .val (.int (Int32.ofNat f)), .val (.int (Int32.ofNat t)), .val (.int val), .val (.int ((Int32.ofNat mid) + (1 : Int32))), .val (.int (Int32.ofNat hi)), .val (.int (Int32.ofNat mid))] []))) (fun _ k => XS.istore XT.here hx rfl (hb hby d2_41) rfl (l' := #[.val (.ref a1), .val (.int (Int32.ofNat f)), .val (.int (Int32.ofNat t)), .val (.int val), .val (.int ((Int32.ofNat mid) + (1 : Int32))), .val (.int (Int32.ofNat hi)), .val (.int (Int32.ofNat mid))]) rfl k) ?_
          refine own_by (S' := (T.setTop (mkF m 6 #[.val (.ref a1), .val (.int (Int32.ofNat f)), .val (.int (Int32.ofNat t)), .val (.int val), .val (.int ((Int32.ofNat mid) + (1 : Int32))), .val (.int (Int32.ofNat hi)), .val (.int (Int32.ofNat mid))] []))) (fun _ k => XS.goto XT.here hx rfl (pc0 := 43) (pc' := 6) rfl (hb hby d2_43) (by decide) (by decide) k) ?_
          have q := ih (mid + 1) hi (.val (.int (Int32.ofNat mid))) T (by omega) (by omega) (by omega) hl3 (fun i p q => by
            have h1 := hsort i mid (by omega) (by omega)
            rw [Int32.lt_iff_toInt_lt] at hv ⊢
            omega) hl5 (Or.inr ⟨_, rfl⟩) XT eT
          rw [← own_one] at q
          exact q
      · refine own_by (S' := (T.setTop (mkF m 8 #[.val (.ref a1), .val (.int (Int32.ofNat f)), .val (.int (Int32.ofNat t)), .val (.int val), .val (.int (Int32.ofNat lo)), .val (.int (Int32.ofNat hi)), s6] [(.int (Int32.ofNat lo))]))) (fun _ k => XS.iload XT.here hx rfl (hb hby d2_6) rfl k) ?_
        refine own_by (S' := (T.setTop (mkF m 10 #[.val (.ref a1), .val (.int (Int32.ofNat f)), .val (.int (Int32.ofNat t)), .val (.int val), .val (.int (Int32.ofNat lo)), .val (.int (Int32.ofNat hi)), s6] [(.int (Int32.ofNat hi)), (.int (Int32.ofNat lo))]))) (fun _ k => XS.iload XT.here hx rfl (hb hby d2_8) rfl k) ?_
        refine own_by (S' := (T.setTop (mkF m 46 #[.val (.ref a1), .val (.int (Int32.ofNat f)), .val (.int (Int32.ofNat t)), .val (.int val), .val (.int (Int32.ofNat lo)), .val (.int (Int32.ofNat hi)), s6] []))) (fun _ k => XS.icmpYes XT.here hx rfl (pc0 := 10) (pc' := 46) rfl (hb hby d2_10) rfl (flt ((own_nlt hlt (by omega)) : ¬ ((Int32.ofNat lo) < (Int32.ofNat hi)))).2.1 (by decide) (by decide) k) ?_
        refine own_by (S' := (T.setTop (mkF m 48 #[.val (.ref a1), .val (.int (Int32.ofNat f)), .val (.int (Int32.ofNat t)), .val (.int val), .val (.int (Int32.ofNat lo)), .val (.int (Int32.ofNat hi)), s6] [(.int (Int32.ofNat lo))]))) (fun _ k => XS.iload XT.here hx rfl (hb hby d2_46) rfl k) ?_
        exact own_ret XT hx (t := .int) Bd.returns rfl (Or.inl ⟨rfl, by simp, _, rfl⟩) (hb hby d2_48) hlk (by decide : 0 ≤ _) (by decide : 0 ≤ _) (by rw [eT]; exact ⟨lo, rfl, N, rfl, hl1, by omega, hl4, fun i p q => hl5 i (by omega) q⟩)
  exact loop (t - f) f t .unset _ (Nat.le_refl _) (Nat.le_refl _) hft (Nat.le_refl _) (fun i p q => by omega) (fun i p q => by omega) (Or.inl rfl) X0 e0
theorem d3_0 : decode method_4_code 0 = .ok (.iload_n 1, 1) := by decide +kernel
theorem d3_1 : decode method_4_code 1 = .ok (.iload_n 2, 1) := by decide +kernel
theorem d3_2 : decode method_4_code 2 = .ok (.if_icmp .lt 20, 3) := by decide +kernel
theorem d3_5 : decode method_4_code 5 = .ok (.iload_n 1, 1) := by decide +kernel
theorem d3_6 : decode method_4_code 6 = .ok (.iload_n 3, 1) := by decide +kernel
theorem d3_7 : decode method_4_code 7 = .ok (.if_icmp .ge 15, 3) := by decide +kernel
theorem d3_10 : decode method_4_code 10 = .ok (.aload_n 0, 1) := by decide +kernel
theorem d3_11 : decode method_4_code 11 = .ok (.iload_n 1, 1) := by decide +kernel
theorem d3_12 : decode method_4_code 12 = .ok (.iaload, 1) := by decide +kernel
theorem d3_13 : decode method_4_code 13 = .ok (.iload 4, 2) := by decide +kernel
theorem d3_15 : decode method_4_code 15 = .ok (.if_icmp .gt 7, 3) := by decide +kernel
theorem d3_18 : decode method_4_code 18 = .ok (.iconst 1, 1) := by decide +kernel
theorem d3_19 : decode method_4_code 19 = .ok (.goto 4, 3) := by decide +kernel
theorem d3_22 : decode method_4_code 22 = .ok (.iconst 0, 1) := by decide +kernel
theorem d3_23 : decode method_4_code 23 = .ok (.ireturn, 1) := by decide +kernel
theorem pn_3 : plainName "com/example/libstrata/libstrata/layout/LayerEndsFirstAbovePinLaw" = true := by first | (simp [plainName, overriddenIn]; done) | decide +kernel
theorem ef_rm3_0 (m : MethodId) (x0 : Addr) (x1 : Int32) (x2 : Int32) (x3 : Int32) (x4 : Int32) : entryFrame m #[(.ref x0), (.int x1), (.int x2), (.int x3), (.int x4)] 5 = mkF m 0 #[.val (.ref x0), .val (.int x1), .val (.int x2), .val (.int x3), .val (.int x4)] [] := by first | (simp [entryFrame, mkF, argsToLocals, Value.category]; done) | rfl
def Q_rm3_0 (Z : State) (a1 : Addr) (y0 y1 y2 y3 y4 : Int32) (f t val : Int32) (h0 : Heap) (n0 : Nat) (v : Option Value) (h : Heap) (L : List Loc) : Prop := v = some (.int (own_le (0 : Int32) f t val y0)) ∧ Fr n0 L ∧ h = h0
set_option maxRecDepth 65536 in
set_option maxHeartbeats 40000000 in
theorem rm3_0 (l : Launch) (Z : State) (a0 : Array Value) (hw : ∀ d ∈ tables_1, d.before a0 Z = true) (ws : List Jvm.Cond) (a1 : Addr) (y0 y1 y2 y3 y4 : Int32) (f t val : Int32) (h0 : Heap) (n0 : Nat) (Zn : n0 ≤ h0.size) (A_a1 : OwnA Z h0 a1 .int [.int y0, .int y1, .int y2, .int y3, .int y4]) :
    MetFree l (⟨"com/example/libstrata/libstrata/layout/LayerEndsFirstAbovePinLaw", "le", "([IIIII)I"⟩ : MethodName) (head1 (Jvm.Cond.code (⟨"com/example/libstrata/libstrata/layout/LayerEndsFirstAbovePinLaw", "le", "([IIIII)I"⟩ : MethodName) method_4_code 5 (some .int) :: ws) ({ frames := 0, cells := 0, slots := 0, locals := 0 } : Room)) (fun a U => a = #[(.ref a1), (.int (0 : Int32)), (.int f), (.int t), (.int val)] ∧ Z.Warmed39 U.vm ∧ U.heap = h0) (fun _ _ _ _ _ => True) (fun _ U o U' => ∃ v L, o = .returned v ∧ (Q_rm3_0 Z a1 y0 y1 y2 y3 y4 f t val h0 n0) v U'.heap L ∧ FrameEnd U o U' L ({ frames := 0, cells := 0, slots := 0, locals := 0 } : Room).cells ({ frames := 0, cells := 0, slots := 0, locals := 0 } : Room).slots) := by
  refine MetFree.of_bodySF (plainFor_of_name pn_3) hisR ?_
  intro p e s m args below meth c s₁ Bd hml0 hP hK
  obtain ⟨rfl, hZ, hh⟩ := hP
  have hx := Bd.exec
  have hby := Bd.bytes
  have hml : c.maxLocals = 5 := hml0
  have hown : s.vm.findClass "com/example/libstrata/libstrata/layout/LayerEndsFirstAbovePinLaw" = some m.cls := findClass_of_methodNamed Bd.named
  have hnm := (name_of_methodNamed Bd.named Bd.method).1
  have hlk : meth.locks = false := BodyLoose.notSynchronized Bd
  have X0 : Stand p l e ({ frames := 0, cells := 0, slots := 0, locals := 0 } : Room) s m #[(.ref a1), (.int (0 : Int32)), (.int f), (.int t), (.int val)] below meth c s₁ [] 0 0 := Stand.of_body Bd
  have e0 : s₁.heap = h0 := by rw [← hh, Bd.state]; rfl
  have N := Fr.nil n0
  have K := Keep.refl h0 []
  refine own_start (cl := ({ frames := 0, cells := 0, slots := 0, locals := 0 } : Room).cells) (sl := ({ frames := 0, cells := 0, slots := 0, locals := 0 } : Room).slots) (Q := (Q_rm3_0 Z a1 y0 y1 y2 y3 y4 f t val h0 n0)) (ef_rm3_0 m a1 ((0 : Int32)) f t val) ?_
  refine own_by (S' := (s₁.setTop (mkF m 1 #[.val (.ref a1), .val (.int (0 : Int32)), .val (.int f), .val (.int t), .val (.int val)] [(.int (0 : Int32))]))) (fun _ k => XS.iloadN X0.here hx rfl (hb hby d3_0) rfl k) ?_
  refine own_by (S' := (s₁.setTop (mkF m 2 #[.val (.ref a1), .val (.int (0 : Int32)), .val (.int f), .val (.int t), .val (.int val)] [(.int f), (.int (0 : Int32))]))) (fun _ k => XS.iloadN X0.here hx rfl (hb hby d3_1) rfl k) ?_
  by_cases h1 : (0 : Int32) < f
  · refine own_by (S' := (s₁.setTop (mkF m 22 #[.val (.ref a1), .val (.int (0 : Int32)), .val (.int f), .val (.int t), .val (.int val)] []))) (fun _ k => XS.icmpYes X0.here hx rfl (pc0 := 2) (pc' := 22) rfl (hb hby d3_2) rfl (tlt (h1 : (0 : Int32) < f)).1 (by decide) (by decide) k) ?_
    refine own_by (S' := (s₁.setTop (mkF m 23 #[.val (.ref a1), .val (.int (0 : Int32)), .val (.int f), .val (.int t), .val (.int val)] [(.int (0 : Int32))]))) (fun _ k => XS.iconst X0.here hx rfl (hb hby d3_22) k) ?_
    exact own_ret X0 hx (t := .int) Bd.returns rfl (Or.inl ⟨rfl, by simp, _, rfl⟩) (hb hby d3_23) hlk (by decide : 0 ≤ _) (by decide : 0 ≤ _) (by rw [e0]; exact ⟨by rw [own_le, if_pos h1], N, rfl⟩)
  · refine own_by (S' := (s₁.setTop (mkF m 5 #[.val (.ref a1), .val (.int (0 : Int32)), .val (.int f), .val (.int t), .val (.int val)] []))) (fun _ k => XS.icmpNo X0.here hx rfl (hb hby d3_2) rfl (flt (h1 : ¬ ((0 : Int32) < f))).1 k) ?_
    refine own_by (S' := (s₁.setTop (mkF m 6 #[.val (.ref a1), .val (.int (0 : Int32)), .val (.int f), .val (.int t), .val (.int val)] [(.int (0 : Int32))]))) (fun _ k => XS.iloadN X0.here hx rfl (hb hby d3_5) rfl k) ?_
    refine own_by (S' := (s₁.setTop (mkF m 7 #[.val (.ref a1), .val (.int (0 : Int32)), .val (.int f), .val (.int t), .val (.int val)] [(.int t), (.int (0 : Int32))]))) (fun _ k => XS.iloadN X0.here hx rfl (hb hby d3_6) rfl k) ?_
    by_cases h2 : (0 : Int32) < t
    · refine own_by (S' := (s₁.setTop (mkF m 10 #[.val (.ref a1), .val (.int (0 : Int32)), .val (.int f), .val (.int t), .val (.int val)] []))) (fun _ k => XS.icmpNo X0.here hx rfl (hb hby d3_7) rfl (tlt (h2 : (0 : Int32) < t)).2.1 k) ?_
      refine own_by (S' := (s₁.setTop (mkF m 11 #[.val (.ref a1), .val (.int (0 : Int32)), .val (.int f), .val (.int t), .val (.int val)] [(.ref a1)]))) (fun _ k => XS.aloadN X0.here hx rfl (hb hby d3_10) rfl rfl k) ?_
      refine own_by (S' := (s₁.setTop (mkF m 12 #[.val (.ref a1), .val (.int (0 : Int32)), .val (.int f), .val (.int t), .val (.int val)] [(.int (0 : Int32)), (.ref a1)]))) (fun _ k => XS.iloadN X0.here hx rfl (hb hby d3_11) rfl k) ?_
      refine own_by (S' := (s₁.setTop (mkF m 13 #[.val (.ref a1), .val (.int (0 : Int32)), .val (.int f), .val (.int t), .val (.int val)] [(.int y0)]))) (fun _ k => own_iaload X0 hx hZ e0 A_a1 (by decide) (v := (.int y0)) rfl (g := (mkF m 12 #[.val (.ref a1), .val (.int (0 : Int32)), .val (.int f), .val (.int t), .val (.int val)] [(.int (0 : Int32)), (.ref a1)])) rfl rfl (hb hby d3_12) _ k) ?_
      refine own_by (S' := (s₁.setTop (mkF m 15 #[.val (.ref a1), .val (.int (0 : Int32)), .val (.int f), .val (.int t), .val (.int val)] [(.int val), (.int y0)]))) (fun _ k => XS.iload X0.here hx rfl (hb hby d3_13) rfl k) ?_
      by_cases h3 : val < y0
      · refine own_by (S' := (s₁.setTop (mkF m 22 #[.val (.ref a1), .val (.int (0 : Int32)), .val (.int f), .val (.int t), .val (.int val)] []))) (fun _ k => XS.icmpYes X0.here hx rfl (pc0 := 15) (pc' := 22) rfl (hb hby d3_15) rfl (tlt (h3 : val < y0)).2.2.1 (by decide) (by decide) k) ?_
        refine own_by (S' := (s₁.setTop (mkF m 23 #[.val (.ref a1), .val (.int (0 : Int32)), .val (.int f), .val (.int t), .val (.int val)] [(.int (0 : Int32))]))) (fun _ k => XS.iconst X0.here hx rfl (hb hby d3_22) k) ?_
        exact own_ret X0 hx (t := .int) Bd.returns rfl (Or.inl ⟨rfl, by simp, _, rfl⟩) (hb hby d3_23) hlk (by decide : 0 ≤ _) (by decide : 0 ≤ _) (by rw [e0]; exact ⟨by rw [own_le, if_neg h1, if_pos h2, if_pos h3], N, rfl⟩)
      · refine own_by (S' := (s₁.setTop (mkF m 18 #[.val (.ref a1), .val (.int (0 : Int32)), .val (.int f), .val (.int t), .val (.int val)] []))) (fun _ k => XS.icmpNo X0.here hx rfl (hb hby d3_15) rfl (flt (h3 : ¬ (val < y0))).2.2.1 k) ?_
        refine own_by (S' := (s₁.setTop (mkF m 19 #[.val (.ref a1), .val (.int (0 : Int32)), .val (.int f), .val (.int t), .val (.int val)] [(.int (1 : Int32))]))) (fun _ k => XS.iconst X0.here hx rfl (hb hby d3_18) k) ?_
        refine own_by (S' := (s₁.setTop (mkF m 23 #[.val (.ref a1), .val (.int (0 : Int32)), .val (.int f), .val (.int t), .val (.int val)] [(.int (1 : Int32))]))) (fun _ k => XS.goto X0.here hx rfl (pc0 := 19) (pc' := 23) rfl (hb hby d3_19) (by decide) (by decide) k) ?_
        exact own_ret X0 hx (t := .int) Bd.returns rfl (Or.inl ⟨rfl, by simp, _, rfl⟩) (hb hby d3_23) hlk (by decide : 0 ≤ _) (by decide : 0 ≤ _) (by rw [e0]; exact ⟨by rw [own_le, if_neg h1, if_pos h2, if_neg h3], N, rfl⟩)
    · refine own_by (S' := (s₁.setTop (mkF m 22 #[.val (.ref a1), .val (.int (0 : Int32)), .val (.int f), .val (.int t), .val (.int val)] []))) (fun _ k => XS.icmpYes X0.here hx rfl (pc0 := 7) (pc' := 22) rfl (hb hby d3_7) rfl (flt (h2 : ¬ ((0 : Int32) < t))).2.1 (by decide) (by decide) k) ?_
      refine own_by (S' := (s₁.setTop (mkF m 23 #[.val (.ref a1), .val (.int (0 : Int32)), .val (.int f), .val (.int t), .val (.int val)] [(.int (0 : Int32))]))) (fun _ k => XS.iconst X0.here hx rfl (hb hby d3_22) k) ?_
      exact own_ret X0 hx (t := .int) Bd.returns rfl (Or.inl ⟨rfl, by simp, _, rfl⟩) (hb hby d3_23) hlk (by decide : 0 ≤ _) (by decide : 0 ≤ _) (by rw [e0]; exact ⟨by rw [own_le, if_neg h1, if_neg h2], N, rfl⟩)
theorem ef_rm3_1 (m : MethodId) (x0 : Addr) (x1 : Int32) (x2 : Int32) (x3 : Int32) (x4 : Int32) : entryFrame m #[(.ref x0), (.int x1), (.int x2), (.int x3), (.int x4)] 5 = mkF m 0 #[.val (.ref x0), .val (.int x1), .val (.int x2), .val (.int x3), .val (.int x4)] [] := by first | (simp [entryFrame, mkF, argsToLocals, Value.category]; done) | rfl
def Q_rm3_1 (Z : State) (a1 : Addr) (y0 y1 y2 y3 y4 : Int32) (f t val : Int32) (h0 : Heap) (n0 : Nat) (v : Option Value) (h : Heap) (L : List Loc) : Prop := v = some (.int (own_le (1 : Int32) f t val y1)) ∧ Fr n0 L ∧ h = h0
set_option maxRecDepth 65536 in
set_option maxHeartbeats 40000000 in
theorem rm3_1 (l : Launch) (Z : State) (a0 : Array Value) (hw : ∀ d ∈ tables_1, d.before a0 Z = true) (ws : List Jvm.Cond) (a1 : Addr) (y0 y1 y2 y3 y4 : Int32) (f t val : Int32) (h0 : Heap) (n0 : Nat) (Zn : n0 ≤ h0.size) (A_a1 : OwnA Z h0 a1 .int [.int y0, .int y1, .int y2, .int y3, .int y4]) :
    MetFree l (⟨"com/example/libstrata/libstrata/layout/LayerEndsFirstAbovePinLaw", "le", "([IIIII)I"⟩ : MethodName) (head1 (Jvm.Cond.code (⟨"com/example/libstrata/libstrata/layout/LayerEndsFirstAbovePinLaw", "le", "([IIIII)I"⟩ : MethodName) method_4_code 5 (some .int) :: ws) ({ frames := 0, cells := 0, slots := 0, locals := 0 } : Room)) (fun a U => a = #[(.ref a1), (.int (1 : Int32)), (.int f), (.int t), (.int val)] ∧ Z.Warmed39 U.vm ∧ U.heap = h0) (fun _ _ _ _ _ => True) (fun _ U o U' => ∃ v L, o = .returned v ∧ (Q_rm3_1 Z a1 y0 y1 y2 y3 y4 f t val h0 n0) v U'.heap L ∧ FrameEnd U o U' L ({ frames := 0, cells := 0, slots := 0, locals := 0 } : Room).cells ({ frames := 0, cells := 0, slots := 0, locals := 0 } : Room).slots) := by
  refine MetFree.of_bodySF (plainFor_of_name pn_3) hisR ?_
  intro p e s m args below meth c s₁ Bd hml0 hP hK
  obtain ⟨rfl, hZ, hh⟩ := hP
  have hx := Bd.exec
  have hby := Bd.bytes
  have hml : c.maxLocals = 5 := hml0
  have hown : s.vm.findClass "com/example/libstrata/libstrata/layout/LayerEndsFirstAbovePinLaw" = some m.cls := findClass_of_methodNamed Bd.named
  have hnm := (name_of_methodNamed Bd.named Bd.method).1
  have hlk : meth.locks = false := BodyLoose.notSynchronized Bd
  have X0 : Stand p l e ({ frames := 0, cells := 0, slots := 0, locals := 0 } : Room) s m #[(.ref a1), (.int (1 : Int32)), (.int f), (.int t), (.int val)] below meth c s₁ [] 0 0 := Stand.of_body Bd
  have e0 : s₁.heap = h0 := by rw [← hh, Bd.state]; rfl
  have N := Fr.nil n0
  have K := Keep.refl h0 []
  refine own_start (cl := ({ frames := 0, cells := 0, slots := 0, locals := 0 } : Room).cells) (sl := ({ frames := 0, cells := 0, slots := 0, locals := 0 } : Room).slots) (Q := (Q_rm3_1 Z a1 y0 y1 y2 y3 y4 f t val h0 n0)) (ef_rm3_1 m a1 ((1 : Int32)) f t val) ?_
  refine own_by (S' := (s₁.setTop (mkF m 1 #[.val (.ref a1), .val (.int (1 : Int32)), .val (.int f), .val (.int t), .val (.int val)] [(.int (1 : Int32))]))) (fun _ k => XS.iloadN X0.here hx rfl (hb hby d3_0) rfl k) ?_
  refine own_by (S' := (s₁.setTop (mkF m 2 #[.val (.ref a1), .val (.int (1 : Int32)), .val (.int f), .val (.int t), .val (.int val)] [(.int f), (.int (1 : Int32))]))) (fun _ k => XS.iloadN X0.here hx rfl (hb hby d3_1) rfl k) ?_
  by_cases h1 : (1 : Int32) < f
  · refine own_by (S' := (s₁.setTop (mkF m 22 #[.val (.ref a1), .val (.int (1 : Int32)), .val (.int f), .val (.int t), .val (.int val)] []))) (fun _ k => XS.icmpYes X0.here hx rfl (pc0 := 2) (pc' := 22) rfl (hb hby d3_2) rfl (tlt (h1 : (1 : Int32) < f)).1 (by decide) (by decide) k) ?_
    refine own_by (S' := (s₁.setTop (mkF m 23 #[.val (.ref a1), .val (.int (1 : Int32)), .val (.int f), .val (.int t), .val (.int val)] [(.int (0 : Int32))]))) (fun _ k => XS.iconst X0.here hx rfl (hb hby d3_22) k) ?_
    exact own_ret X0 hx (t := .int) Bd.returns rfl (Or.inl ⟨rfl, by simp, _, rfl⟩) (hb hby d3_23) hlk (by decide : 0 ≤ _) (by decide : 0 ≤ _) (by rw [e0]; exact ⟨by rw [own_le, if_pos h1], N, rfl⟩)
  · refine own_by (S' := (s₁.setTop (mkF m 5 #[.val (.ref a1), .val (.int (1 : Int32)), .val (.int f), .val (.int t), .val (.int val)] []))) (fun _ k => XS.icmpNo X0.here hx rfl (hb hby d3_2) rfl (flt (h1 : ¬ ((1 : Int32) < f))).1 k) ?_
    refine own_by (S' := (s₁.setTop (mkF m 6 #[.val (.ref a1), .val (.int (1 : Int32)), .val (.int f), .val (.int t), .val (.int val)] [(.int (1 : Int32))]))) (fun _ k => XS.iloadN X0.here hx rfl (hb hby d3_5) rfl k) ?_
    refine own_by (S' := (s₁.setTop (mkF m 7 #[.val (.ref a1), .val (.int (1 : Int32)), .val (.int f), .val (.int t), .val (.int val)] [(.int t), (.int (1 : Int32))]))) (fun _ k => XS.iloadN X0.here hx rfl (hb hby d3_6) rfl k) ?_
    by_cases h2 : (1 : Int32) < t
    · refine own_by (S' := (s₁.setTop (mkF m 10 #[.val (.ref a1), .val (.int (1 : Int32)), .val (.int f), .val (.int t), .val (.int val)] []))) (fun _ k => XS.icmpNo X0.here hx rfl (hb hby d3_7) rfl (tlt (h2 : (1 : Int32) < t)).2.1 k) ?_
      refine own_by (S' := (s₁.setTop (mkF m 11 #[.val (.ref a1), .val (.int (1 : Int32)), .val (.int f), .val (.int t), .val (.int val)] [(.ref a1)]))) (fun _ k => XS.aloadN X0.here hx rfl (hb hby d3_10) rfl rfl k) ?_
      refine own_by (S' := (s₁.setTop (mkF m 12 #[.val (.ref a1), .val (.int (1 : Int32)), .val (.int f), .val (.int t), .val (.int val)] [(.int (1 : Int32)), (.ref a1)]))) (fun _ k => XS.iloadN X0.here hx rfl (hb hby d3_11) rfl k) ?_
      refine own_by (S' := (s₁.setTop (mkF m 13 #[.val (.ref a1), .val (.int (1 : Int32)), .val (.int f), .val (.int t), .val (.int val)] [(.int y1)]))) (fun _ k => own_iaload X0 hx hZ e0 A_a1 (by decide) (v := (.int y1)) rfl (g := (mkF m 12 #[.val (.ref a1), .val (.int (1 : Int32)), .val (.int f), .val (.int t), .val (.int val)] [(.int (1 : Int32)), (.ref a1)])) rfl rfl (hb hby d3_12) _ k) ?_
      refine own_by (S' := (s₁.setTop (mkF m 15 #[.val (.ref a1), .val (.int (1 : Int32)), .val (.int f), .val (.int t), .val (.int val)] [(.int val), (.int y1)]))) (fun _ k => XS.iload X0.here hx rfl (hb hby d3_13) rfl k) ?_
      by_cases h3 : val < y1
      · refine own_by (S' := (s₁.setTop (mkF m 22 #[.val (.ref a1), .val (.int (1 : Int32)), .val (.int f), .val (.int t), .val (.int val)] []))) (fun _ k => XS.icmpYes X0.here hx rfl (pc0 := 15) (pc' := 22) rfl (hb hby d3_15) rfl (tlt (h3 : val < y1)).2.2.1 (by decide) (by decide) k) ?_
        refine own_by (S' := (s₁.setTop (mkF m 23 #[.val (.ref a1), .val (.int (1 : Int32)), .val (.int f), .val (.int t), .val (.int val)] [(.int (0 : Int32))]))) (fun _ k => XS.iconst X0.here hx rfl (hb hby d3_22) k) ?_
        exact own_ret X0 hx (t := .int) Bd.returns rfl (Or.inl ⟨rfl, by simp, _, rfl⟩) (hb hby d3_23) hlk (by decide : 0 ≤ _) (by decide : 0 ≤ _) (by rw [e0]; exact ⟨by rw [own_le, if_neg h1, if_pos h2, if_pos h3], N, rfl⟩)
      · refine own_by (S' := (s₁.setTop (mkF m 18 #[.val (.ref a1), .val (.int (1 : Int32)), .val (.int f), .val (.int t), .val (.int val)] []))) (fun _ k => XS.icmpNo X0.here hx rfl (hb hby d3_15) rfl (flt (h3 : ¬ (val < y1))).2.2.1 k) ?_
        refine own_by (S' := (s₁.setTop (mkF m 19 #[.val (.ref a1), .val (.int (1 : Int32)), .val (.int f), .val (.int t), .val (.int val)] [(.int (1 : Int32))]))) (fun _ k => XS.iconst X0.here hx rfl (hb hby d3_18) k) ?_
        refine own_by (S' := (s₁.setTop (mkF m 23 #[.val (.ref a1), .val (.int (1 : Int32)), .val (.int f), .val (.int t), .val (.int val)] [(.int (1 : Int32))]))) (fun _ k => XS.goto X0.here hx rfl (pc0 := 19) (pc' := 23) rfl (hb hby d3_19) (by decide) (by decide) k) ?_
        exact own_ret X0 hx (t := .int) Bd.returns rfl (Or.inl ⟨rfl, by simp, _, rfl⟩) (hb hby d3_23) hlk (by decide : 0 ≤ _) (by decide : 0 ≤ _) (by rw [e0]; exact ⟨by rw [own_le, if_neg h1, if_pos h2, if_neg h3], N, rfl⟩)
    · refine own_by (S' := (s₁.setTop (mkF m 22 #[.val (.ref a1), .val (.int (1 : Int32)), .val (.int f), .val (.int t), .val (.int val)] []))) (fun _ k => XS.icmpYes X0.here hx rfl (pc0 := 7) (pc' := 22) rfl (hb hby d3_7) rfl (flt (h2 : ¬ ((1 : Int32) < t))).2.1 (by decide) (by decide) k) ?_
      refine own_by (S' := (s₁.setTop (mkF m 23 #[.val (.ref a1), .val (.int (1 : Int32)), .val (.int f), .val (.int t), .val (.int val)] [(.int (0 : Int32))]))) (fun _ k => XS.iconst X0.here hx rfl (hb hby d3_22) k) ?_
      exact own_ret X0 hx (t := .int) Bd.returns rfl (Or.inl ⟨rfl, by simp, _, rfl⟩) (hb hby d3_23) hlk (by decide : 0 ≤ _) (by decide : 0 ≤ _) (by rw [e0]; exact ⟨by rw [own_le, if_neg h1, if_neg h2], N, rfl⟩)
theorem ef_rm3_2 (m : MethodId) (x0 : Addr) (x1 : Int32) (x2 : Int32) (x3 : Int32) (x4 : Int32) : entryFrame m #[(.ref x0), (.int x1), (.int x2), (.int x3), (.int x4)] 5 = mkF m 0 #[.val (.ref x0), .val (.int x1), .val (.int x2), .val (.int x3), .val (.int x4)] [] := by first | (simp [entryFrame, mkF, argsToLocals, Value.category]; done) | rfl
def Q_rm3_2 (Z : State) (a1 : Addr) (y0 y1 y2 y3 y4 : Int32) (f t val : Int32) (h0 : Heap) (n0 : Nat) (v : Option Value) (h : Heap) (L : List Loc) : Prop := v = some (.int (own_le (2 : Int32) f t val y2)) ∧ Fr n0 L ∧ h = h0
set_option maxRecDepth 65536 in
set_option maxHeartbeats 40000000 in
theorem rm3_2 (l : Launch) (Z : State) (a0 : Array Value) (hw : ∀ d ∈ tables_1, d.before a0 Z = true) (ws : List Jvm.Cond) (a1 : Addr) (y0 y1 y2 y3 y4 : Int32) (f t val : Int32) (h0 : Heap) (n0 : Nat) (Zn : n0 ≤ h0.size) (A_a1 : OwnA Z h0 a1 .int [.int y0, .int y1, .int y2, .int y3, .int y4]) :
    MetFree l (⟨"com/example/libstrata/libstrata/layout/LayerEndsFirstAbovePinLaw", "le", "([IIIII)I"⟩ : MethodName) (head1 (Jvm.Cond.code (⟨"com/example/libstrata/libstrata/layout/LayerEndsFirstAbovePinLaw", "le", "([IIIII)I"⟩ : MethodName) method_4_code 5 (some .int) :: ws) ({ frames := 0, cells := 0, slots := 0, locals := 0 } : Room)) (fun a U => a = #[(.ref a1), (.int (2 : Int32)), (.int f), (.int t), (.int val)] ∧ Z.Warmed39 U.vm ∧ U.heap = h0) (fun _ _ _ _ _ => True) (fun _ U o U' => ∃ v L, o = .returned v ∧ (Q_rm3_2 Z a1 y0 y1 y2 y3 y4 f t val h0 n0) v U'.heap L ∧ FrameEnd U o U' L ({ frames := 0, cells := 0, slots := 0, locals := 0 } : Room).cells ({ frames := 0, cells := 0, slots := 0, locals := 0 } : Room).slots) := by
  refine MetFree.of_bodySF (plainFor_of_name pn_3) hisR ?_
  intro p e s m args below meth c s₁ Bd hml0 hP hK
  obtain ⟨rfl, hZ, hh⟩ := hP
  have hx := Bd.exec
  have hby := Bd.bytes
  have hml : c.maxLocals = 5 := hml0
  have hown : s.vm.findClass "com/example/libstrata/libstrata/layout/LayerEndsFirstAbovePinLaw" = some m.cls := findClass_of_methodNamed Bd.named
  have hnm := (name_of_methodNamed Bd.named Bd.method).1
  have hlk : meth.locks = false := BodyLoose.notSynchronized Bd
  have X0 : Stand p l e ({ frames := 0, cells := 0, slots := 0, locals := 0 } : Room) s m #[(.ref a1), (.int (2 : Int32)), (.int f), (.int t), (.int val)] below meth c s₁ [] 0 0 := Stand.of_body Bd
  have e0 : s₁.heap = h0 := by rw [← hh, Bd.state]; rfl
  have N := Fr.nil n0
  have K := Keep.refl h0 []
  refine own_start (cl := ({ frames := 0, cells := 0, slots := 0, locals := 0 } : Room).cells) (sl := ({ frames := 0, cells := 0, slots := 0, locals := 0 } : Room).slots) (Q := (Q_rm3_2 Z a1 y0 y1 y2 y3 y4 f t val h0 n0)) (ef_rm3_2 m a1 ((2 : Int32)) f t val) ?_
  refine own_by (S' := (s₁.setTop (mkF m 1 #[.val (.ref a1), .val (.int (2 : Int32)), .val (.int f), .val (.int t), .val (.int val)] [(.int (2 : Int32))]))) (fun _ k => XS.iloadN X0.here hx rfl (hb hby d3_0) rfl k) ?_
  refine own_by (S' := (s₁.setTop (mkF m 2 #[.val (.ref a1), .val (.int (2 : Int32)), .val (.int f), .val (.int t), .val (.int val)] [(.int f), (.int (2 : Int32))]))) (fun _ k => XS.iloadN X0.here hx rfl (hb hby d3_1) rfl k) ?_
  by_cases h1 : (2 : Int32) < f
  · refine own_by (S' := (s₁.setTop (mkF m 22 #[.val (.ref a1), .val (.int (2 : Int32)), .val (.int f), .val (.int t), .val (.int val)] []))) (fun _ k => XS.icmpYes X0.here hx rfl (pc0 := 2) (pc' := 22) rfl (hb hby d3_2) rfl (tlt (h1 : (2 : Int32) < f)).1 (by decide) (by decide) k) ?_
    refine own_by (S' := (s₁.setTop (mkF m 23 #[.val (.ref a1), .val (.int (2 : Int32)), .val (.int f), .val (.int t), .val (.int val)] [(.int (0 : Int32))]))) (fun _ k => XS.iconst X0.here hx rfl (hb hby d3_22) k) ?_
    exact own_ret X0 hx (t := .int) Bd.returns rfl (Or.inl ⟨rfl, by simp, _, rfl⟩) (hb hby d3_23) hlk (by decide : 0 ≤ _) (by decide : 0 ≤ _) (by rw [e0]; exact ⟨by rw [own_le, if_pos h1], N, rfl⟩)
  · refine own_by (S' := (s₁.setTop (mkF m 5 #[.val (.ref a1), .val (.int (2 : Int32)), .val (.int f), .val (.int t), .val (.int val)] []))) (fun _ k => XS.icmpNo X0.here hx rfl (hb hby d3_2) rfl (flt (h1 : ¬ ((2 : Int32) < f))).1 k) ?_
    refine own_by (S' := (s₁.setTop (mkF m 6 #[.val (.ref a1), .val (.int (2 : Int32)), .val (.int f), .val (.int t), .val (.int val)] [(.int (2 : Int32))]))) (fun _ k => XS.iloadN X0.here hx rfl (hb hby d3_5) rfl k) ?_
    refine own_by (S' := (s₁.setTop (mkF m 7 #[.val (.ref a1), .val (.int (2 : Int32)), .val (.int f), .val (.int t), .val (.int val)] [(.int t), (.int (2 : Int32))]))) (fun _ k => XS.iloadN X0.here hx rfl (hb hby d3_6) rfl k) ?_
    by_cases h2 : (2 : Int32) < t
    · refine own_by (S' := (s₁.setTop (mkF m 10 #[.val (.ref a1), .val (.int (2 : Int32)), .val (.int f), .val (.int t), .val (.int val)] []))) (fun _ k => XS.icmpNo X0.here hx rfl (hb hby d3_7) rfl (tlt (h2 : (2 : Int32) < t)).2.1 k) ?_
      refine own_by (S' := (s₁.setTop (mkF m 11 #[.val (.ref a1), .val (.int (2 : Int32)), .val (.int f), .val (.int t), .val (.int val)] [(.ref a1)]))) (fun _ k => XS.aloadN X0.here hx rfl (hb hby d3_10) rfl rfl k) ?_
      refine own_by (S' := (s₁.setTop (mkF m 12 #[.val (.ref a1), .val (.int (2 : Int32)), .val (.int f), .val (.int t), .val (.int val)] [(.int (2 : Int32)), (.ref a1)]))) (fun _ k => XS.iloadN X0.here hx rfl (hb hby d3_11) rfl k) ?_
      refine own_by (S' := (s₁.setTop (mkF m 13 #[.val (.ref a1), .val (.int (2 : Int32)), .val (.int f), .val (.int t), .val (.int val)] [(.int y2)]))) (fun _ k => own_iaload X0 hx hZ e0 A_a1 (by decide) (v := (.int y2)) rfl (g := (mkF m 12 #[.val (.ref a1), .val (.int (2 : Int32)), .val (.int f), .val (.int t), .val (.int val)] [(.int (2 : Int32)), (.ref a1)])) rfl rfl (hb hby d3_12) _ k) ?_
      refine own_by (S' := (s₁.setTop (mkF m 15 #[.val (.ref a1), .val (.int (2 : Int32)), .val (.int f), .val (.int t), .val (.int val)] [(.int val), (.int y2)]))) (fun _ k => XS.iload X0.here hx rfl (hb hby d3_13) rfl k) ?_
      by_cases h3 : val < y2
      · refine own_by (S' := (s₁.setTop (mkF m 22 #[.val (.ref a1), .val (.int (2 : Int32)), .val (.int f), .val (.int t), .val (.int val)] []))) (fun _ k => XS.icmpYes X0.here hx rfl (pc0 := 15) (pc' := 22) rfl (hb hby d3_15) rfl (tlt (h3 : val < y2)).2.2.1 (by decide) (by decide) k) ?_
        refine own_by (S' := (s₁.setTop (mkF m 23 #[.val (.ref a1), .val (.int (2 : Int32)), .val (.int f), .val (.int t), .val (.int val)] [(.int (0 : Int32))]))) (fun _ k => XS.iconst X0.here hx rfl (hb hby d3_22) k) ?_
        exact own_ret X0 hx (t := .int) Bd.returns rfl (Or.inl ⟨rfl, by simp, _, rfl⟩) (hb hby d3_23) hlk (by decide : 0 ≤ _) (by decide : 0 ≤ _) (by rw [e0]; exact ⟨by rw [own_le, if_neg h1, if_pos h2, if_pos h3], N, rfl⟩)
      · refine own_by (S' := (s₁.setTop (mkF m 18 #[.val (.ref a1), .val (.int (2 : Int32)), .val (.int f), .val (.int t), .val (.int val)] []))) (fun _ k => XS.icmpNo X0.here hx rfl (hb hby d3_15) rfl (flt (h3 : ¬ (val < y2))).2.2.1 k) ?_
        refine own_by (S' := (s₁.setTop (mkF m 19 #[.val (.ref a1), .val (.int (2 : Int32)), .val (.int f), .val (.int t), .val (.int val)] [(.int (1 : Int32))]))) (fun _ k => XS.iconst X0.here hx rfl (hb hby d3_18) k) ?_
        refine own_by (S' := (s₁.setTop (mkF m 23 #[.val (.ref a1), .val (.int (2 : Int32)), .val (.int f), .val (.int t), .val (.int val)] [(.int (1 : Int32))]))) (fun _ k => XS.goto X0.here hx rfl (pc0 := 19) (pc' := 23) rfl (hb hby d3_19) (by decide) (by decide) k) ?_
        exact own_ret X0 hx (t := .int) Bd.returns rfl (Or.inl ⟨rfl, by simp, _, rfl⟩) (hb hby d3_23) hlk (by decide : 0 ≤ _) (by decide : 0 ≤ _) (by rw [e0]; exact ⟨by rw [own_le, if_neg h1, if_pos h2, if_neg h3], N, rfl⟩)
    · refine own_by (S' := (s₁.setTop (mkF m 22 #[.val (.ref a1), .val (.int (2 : Int32)), .val (.int f), .val (.int t), .val (.int val)] []))) (fun _ k => XS.icmpYes X0.here hx rfl (pc0 := 7) (pc' := 22) rfl (hb hby d3_7) rfl (flt (h2 : ¬ ((2 : Int32) < t))).2.1 (by decide) (by decide) k) ?_
      refine own_by (S' := (s₁.setTop (mkF m 23 #[.val (.ref a1), .val (.int (2 : Int32)), .val (.int f), .val (.int t), .val (.int val)] [(.int (0 : Int32))]))) (fun _ k => XS.iconst X0.here hx rfl (hb hby d3_22) k) ?_
      exact own_ret X0 hx (t := .int) Bd.returns rfl (Or.inl ⟨rfl, by simp, _, rfl⟩) (hb hby d3_23) hlk (by decide : 0 ≤ _) (by decide : 0 ≤ _) (by rw [e0]; exact ⟨by rw [own_le, if_neg h1, if_neg h2], N, rfl⟩)
theorem ef_rm3_3 (m : MethodId) (x0 : Addr) (x1 : Int32) (x2 : Int32) (x3 : Int32) (x4 : Int32) : entryFrame m #[(.ref x0), (.int x1), (.int x2), (.int x3), (.int x4)] 5 = mkF m 0 #[.val (.ref x0), .val (.int x1), .val (.int x2), .val (.int x3), .val (.int x4)] [] := by first | (simp [entryFrame, mkF, argsToLocals, Value.category]; done) | rfl
def Q_rm3_3 (Z : State) (a1 : Addr) (y0 y1 y2 y3 y4 : Int32) (f t val : Int32) (h0 : Heap) (n0 : Nat) (v : Option Value) (h : Heap) (L : List Loc) : Prop := v = some (.int (own_le (3 : Int32) f t val y3)) ∧ Fr n0 L ∧ h = h0
set_option maxRecDepth 65536 in
set_option maxHeartbeats 40000000 in
theorem rm3_3 (l : Launch) (Z : State) (a0 : Array Value) (hw : ∀ d ∈ tables_1, d.before a0 Z = true) (ws : List Jvm.Cond) (a1 : Addr) (y0 y1 y2 y3 y4 : Int32) (f t val : Int32) (h0 : Heap) (n0 : Nat) (Zn : n0 ≤ h0.size) (A_a1 : OwnA Z h0 a1 .int [.int y0, .int y1, .int y2, .int y3, .int y4]) :
    MetFree l (⟨"com/example/libstrata/libstrata/layout/LayerEndsFirstAbovePinLaw", "le", "([IIIII)I"⟩ : MethodName) (head1 (Jvm.Cond.code (⟨"com/example/libstrata/libstrata/layout/LayerEndsFirstAbovePinLaw", "le", "([IIIII)I"⟩ : MethodName) method_4_code 5 (some .int) :: ws) ({ frames := 0, cells := 0, slots := 0, locals := 0 } : Room)) (fun a U => a = #[(.ref a1), (.int (3 : Int32)), (.int f), (.int t), (.int val)] ∧ Z.Warmed39 U.vm ∧ U.heap = h0) (fun _ _ _ _ _ => True) (fun _ U o U' => ∃ v L, o = .returned v ∧ (Q_rm3_3 Z a1 y0 y1 y2 y3 y4 f t val h0 n0) v U'.heap L ∧ FrameEnd U o U' L ({ frames := 0, cells := 0, slots := 0, locals := 0 } : Room).cells ({ frames := 0, cells := 0, slots := 0, locals := 0 } : Room).slots) := by
  refine MetFree.of_bodySF (plainFor_of_name pn_3) hisR ?_
  intro p e s m args below meth c s₁ Bd hml0 hP hK
  obtain ⟨rfl, hZ, hh⟩ := hP
  have hx := Bd.exec
  have hby := Bd.bytes
  have hml : c.maxLocals = 5 := hml0
  have hown : s.vm.findClass "com/example/libstrata/libstrata/layout/LayerEndsFirstAbovePinLaw" = some m.cls := findClass_of_methodNamed Bd.named
  have hnm := (name_of_methodNamed Bd.named Bd.method).1
  have hlk : meth.locks = false := BodyLoose.notSynchronized Bd
  have X0 : Stand p l e ({ frames := 0, cells := 0, slots := 0, locals := 0 } : Room) s m #[(.ref a1), (.int (3 : Int32)), (.int f), (.int t), (.int val)] below meth c s₁ [] 0 0 := Stand.of_body Bd
  have e0 : s₁.heap = h0 := by rw [← hh, Bd.state]; rfl
  have N := Fr.nil n0
  have K := Keep.refl h0 []
  refine own_start (cl := ({ frames := 0, cells := 0, slots := 0, locals := 0 } : Room).cells) (sl := ({ frames := 0, cells := 0, slots := 0, locals := 0 } : Room).slots) (Q := (Q_rm3_3 Z a1 y0 y1 y2 y3 y4 f t val h0 n0)) (ef_rm3_3 m a1 ((3 : Int32)) f t val) ?_
  refine own_by (S' := (s₁.setTop (mkF m 1 #[.val (.ref a1), .val (.int (3 : Int32)), .val (.int f), .val (.int t), .val (.int val)] [(.int (3 : Int32))]))) (fun _ k => XS.iloadN X0.here hx rfl (hb hby d3_0) rfl k) ?_
  refine own_by (S' := (s₁.setTop (mkF m 2 #[.val (.ref a1), .val (.int (3 : Int32)), .val (.int f), .val (.int t), .val (.int val)] [(.int f), (.int (3 : Int32))]))) (fun _ k => XS.iloadN X0.here hx rfl (hb hby d3_1) rfl k) ?_
  by_cases h1 : (3 : Int32) < f
  · refine own_by (S' := (s₁.setTop (mkF m 22 #[.val (.ref a1), .val (.int (3 : Int32)), .val (.int f), .val (.int t), .val (.int val)] []))) (fun _ k => XS.icmpYes X0.here hx rfl (pc0 := 2) (pc' := 22) rfl (hb hby d3_2) rfl (tlt (h1 : (3 : Int32) < f)).1 (by decide) (by decide) k) ?_
    refine own_by (S' := (s₁.setTop (mkF m 23 #[.val (.ref a1), .val (.int (3 : Int32)), .val (.int f), .val (.int t), .val (.int val)] [(.int (0 : Int32))]))) (fun _ k => XS.iconst X0.here hx rfl (hb hby d3_22) k) ?_
    exact own_ret X0 hx (t := .int) Bd.returns rfl (Or.inl ⟨rfl, by simp, _, rfl⟩) (hb hby d3_23) hlk (by decide : 0 ≤ _) (by decide : 0 ≤ _) (by rw [e0]; exact ⟨by rw [own_le, if_pos h1], N, rfl⟩)
  · refine own_by (S' := (s₁.setTop (mkF m 5 #[.val (.ref a1), .val (.int (3 : Int32)), .val (.int f), .val (.int t), .val (.int val)] []))) (fun _ k => XS.icmpNo X0.here hx rfl (hb hby d3_2) rfl (flt (h1 : ¬ ((3 : Int32) < f))).1 k) ?_
    refine own_by (S' := (s₁.setTop (mkF m 6 #[.val (.ref a1), .val (.int (3 : Int32)), .val (.int f), .val (.int t), .val (.int val)] [(.int (3 : Int32))]))) (fun _ k => XS.iloadN X0.here hx rfl (hb hby d3_5) rfl k) ?_
    refine own_by (S' := (s₁.setTop (mkF m 7 #[.val (.ref a1), .val (.int (3 : Int32)), .val (.int f), .val (.int t), .val (.int val)] [(.int t), (.int (3 : Int32))]))) (fun _ k => XS.iloadN X0.here hx rfl (hb hby d3_6) rfl k) ?_
    by_cases h2 : (3 : Int32) < t
    · refine own_by (S' := (s₁.setTop (mkF m 10 #[.val (.ref a1), .val (.int (3 : Int32)), .val (.int f), .val (.int t), .val (.int val)] []))) (fun _ k => XS.icmpNo X0.here hx rfl (hb hby d3_7) rfl (tlt (h2 : (3 : Int32) < t)).2.1 k) ?_
      refine own_by (S' := (s₁.setTop (mkF m 11 #[.val (.ref a1), .val (.int (3 : Int32)), .val (.int f), .val (.int t), .val (.int val)] [(.ref a1)]))) (fun _ k => XS.aloadN X0.here hx rfl (hb hby d3_10) rfl rfl k) ?_
      refine own_by (S' := (s₁.setTop (mkF m 12 #[.val (.ref a1), .val (.int (3 : Int32)), .val (.int f), .val (.int t), .val (.int val)] [(.int (3 : Int32)), (.ref a1)]))) (fun _ k => XS.iloadN X0.here hx rfl (hb hby d3_11) rfl k) ?_
      refine own_by (S' := (s₁.setTop (mkF m 13 #[.val (.ref a1), .val (.int (3 : Int32)), .val (.int f), .val (.int t), .val (.int val)] [(.int y3)]))) (fun _ k => own_iaload X0 hx hZ e0 A_a1 (by decide) (v := (.int y3)) rfl (g := (mkF m 12 #[.val (.ref a1), .val (.int (3 : Int32)), .val (.int f), .val (.int t), .val (.int val)] [(.int (3 : Int32)), (.ref a1)])) rfl rfl (hb hby d3_12) _ k) ?_
      refine own_by (S' := (s₁.setTop (mkF m 15 #[.val (.ref a1), .val (.int (3 : Int32)), .val (.int f), .val (.int t), .val (.int val)] [(.int val), (.int y3)]))) (fun _ k => XS.iload X0.here hx rfl (hb hby d3_13) rfl k) ?_
      by_cases h3 : val < y3
      · refine own_by (S' := (s₁.setTop (mkF m 22 #[.val (.ref a1), .val (.int (3 : Int32)), .val (.int f), .val (.int t), .val (.int val)] []))) (fun _ k => XS.icmpYes X0.here hx rfl (pc0 := 15) (pc' := 22) rfl (hb hby d3_15) rfl (tlt (h3 : val < y3)).2.2.1 (by decide) (by decide) k) ?_
        refine own_by (S' := (s₁.setTop (mkF m 23 #[.val (.ref a1), .val (.int (3 : Int32)), .val (.int f), .val (.int t), .val (.int val)] [(.int (0 : Int32))]))) (fun _ k => XS.iconst X0.here hx rfl (hb hby d3_22) k) ?_
        exact own_ret X0 hx (t := .int) Bd.returns rfl (Or.inl ⟨rfl, by simp, _, rfl⟩) (hb hby d3_23) hlk (by decide : 0 ≤ _) (by decide : 0 ≤ _) (by rw [e0]; exact ⟨by rw [own_le, if_neg h1, if_pos h2, if_pos h3], N, rfl⟩)
      · refine own_by (S' := (s₁.setTop (mkF m 18 #[.val (.ref a1), .val (.int (3 : Int32)), .val (.int f), .val (.int t), .val (.int val)] []))) (fun _ k => XS.icmpNo X0.here hx rfl (hb hby d3_15) rfl (flt (h3 : ¬ (val < y3))).2.2.1 k) ?_
        refine own_by (S' := (s₁.setTop (mkF m 19 #[.val (.ref a1), .val (.int (3 : Int32)), .val (.int f), .val (.int t), .val (.int val)] [(.int (1 : Int32))]))) (fun _ k => XS.iconst X0.here hx rfl (hb hby d3_18) k) ?_
        refine own_by (S' := (s₁.setTop (mkF m 23 #[.val (.ref a1), .val (.int (3 : Int32)), .val (.int f), .val (.int t), .val (.int val)] [(.int (1 : Int32))]))) (fun _ k => XS.goto X0.here hx rfl (pc0 := 19) (pc' := 23) rfl (hb hby d3_19) (by decide) (by decide) k) ?_
        exact own_ret X0 hx (t := .int) Bd.returns rfl (Or.inl ⟨rfl, by simp, _, rfl⟩) (hb hby d3_23) hlk (by decide : 0 ≤ _) (by decide : 0 ≤ _) (by rw [e0]; exact ⟨by rw [own_le, if_neg h1, if_pos h2, if_neg h3], N, rfl⟩)
    · refine own_by (S' := (s₁.setTop (mkF m 22 #[.val (.ref a1), .val (.int (3 : Int32)), .val (.int f), .val (.int t), .val (.int val)] []))) (fun _ k => XS.icmpYes X0.here hx rfl (pc0 := 7) (pc' := 22) rfl (hb hby d3_7) rfl (flt (h2 : ¬ ((3 : Int32) < t))).2.1 (by decide) (by decide) k) ?_
      refine own_by (S' := (s₁.setTop (mkF m 23 #[.val (.ref a1), .val (.int (3 : Int32)), .val (.int f), .val (.int t), .val (.int val)] [(.int (0 : Int32))]))) (fun _ k => XS.iconst X0.here hx rfl (hb hby d3_22) k) ?_
      exact own_ret X0 hx (t := .int) Bd.returns rfl (Or.inl ⟨rfl, by simp, _, rfl⟩) (hb hby d3_23) hlk (by decide : 0 ≤ _) (by decide : 0 ≤ _) (by rw [e0]; exact ⟨by rw [own_le, if_neg h1, if_neg h2], N, rfl⟩)
theorem ef_rm3_4 (m : MethodId) (x0 : Addr) (x1 : Int32) (x2 : Int32) (x3 : Int32) (x4 : Int32) : entryFrame m #[(.ref x0), (.int x1), (.int x2), (.int x3), (.int x4)] 5 = mkF m 0 #[.val (.ref x0), .val (.int x1), .val (.int x2), .val (.int x3), .val (.int x4)] [] := by first | (simp [entryFrame, mkF, argsToLocals, Value.category]; done) | rfl
def Q_rm3_4 (Z : State) (a1 : Addr) (y0 y1 y2 y3 y4 : Int32) (f t val : Int32) (h0 : Heap) (n0 : Nat) (v : Option Value) (h : Heap) (L : List Loc) : Prop := v = some (.int (own_le (4 : Int32) f t val y4)) ∧ Fr n0 L ∧ h = h0
set_option maxRecDepth 65536 in
set_option maxHeartbeats 40000000 in
theorem rm3_4 (l : Launch) (Z : State) (a0 : Array Value) (hw : ∀ d ∈ tables_1, d.before a0 Z = true) (ws : List Jvm.Cond) (a1 : Addr) (y0 y1 y2 y3 y4 : Int32) (f t val : Int32) (h0 : Heap) (n0 : Nat) (Zn : n0 ≤ h0.size) (A_a1 : OwnA Z h0 a1 .int [.int y0, .int y1, .int y2, .int y3, .int y4]) :
    MetFree l (⟨"com/example/libstrata/libstrata/layout/LayerEndsFirstAbovePinLaw", "le", "([IIIII)I"⟩ : MethodName) (head1 (Jvm.Cond.code (⟨"com/example/libstrata/libstrata/layout/LayerEndsFirstAbovePinLaw", "le", "([IIIII)I"⟩ : MethodName) method_4_code 5 (some .int) :: ws) ({ frames := 0, cells := 0, slots := 0, locals := 0 } : Room)) (fun a U => a = #[(.ref a1), (.int (4 : Int32)), (.int f), (.int t), (.int val)] ∧ Z.Warmed39 U.vm ∧ U.heap = h0) (fun _ _ _ _ _ => True) (fun _ U o U' => ∃ v L, o = .returned v ∧ (Q_rm3_4 Z a1 y0 y1 y2 y3 y4 f t val h0 n0) v U'.heap L ∧ FrameEnd U o U' L ({ frames := 0, cells := 0, slots := 0, locals := 0 } : Room).cells ({ frames := 0, cells := 0, slots := 0, locals := 0 } : Room).slots) := by
  refine MetFree.of_bodySF (plainFor_of_name pn_3) hisR ?_
  intro p e s m args below meth c s₁ Bd hml0 hP hK
  obtain ⟨rfl, hZ, hh⟩ := hP
  have hx := Bd.exec
  have hby := Bd.bytes
  have hml : c.maxLocals = 5 := hml0
  have hown : s.vm.findClass "com/example/libstrata/libstrata/layout/LayerEndsFirstAbovePinLaw" = some m.cls := findClass_of_methodNamed Bd.named
  have hnm := (name_of_methodNamed Bd.named Bd.method).1
  have hlk : meth.locks = false := BodyLoose.notSynchronized Bd
  have X0 : Stand p l e ({ frames := 0, cells := 0, slots := 0, locals := 0 } : Room) s m #[(.ref a1), (.int (4 : Int32)), (.int f), (.int t), (.int val)] below meth c s₁ [] 0 0 := Stand.of_body Bd
  have e0 : s₁.heap = h0 := by rw [← hh, Bd.state]; rfl
  have N := Fr.nil n0
  have K := Keep.refl h0 []
  refine own_start (cl := ({ frames := 0, cells := 0, slots := 0, locals := 0 } : Room).cells) (sl := ({ frames := 0, cells := 0, slots := 0, locals := 0 } : Room).slots) (Q := (Q_rm3_4 Z a1 y0 y1 y2 y3 y4 f t val h0 n0)) (ef_rm3_4 m a1 ((4 : Int32)) f t val) ?_
  refine own_by (S' := (s₁.setTop (mkF m 1 #[.val (.ref a1), .val (.int (4 : Int32)), .val (.int f), .val (.int t), .val (.int val)] [(.int (4 : Int32))]))) (fun _ k => XS.iloadN X0.here hx rfl (hb hby d3_0) rfl k) ?_
  refine own_by (S' := (s₁.setTop (mkF m 2 #[.val (.ref a1), .val (.int (4 : Int32)), .val (.int f), .val (.int t), .val (.int val)] [(.int f), (.int (4 : Int32))]))) (fun _ k => XS.iloadN X0.here hx rfl (hb hby d3_1) rfl k) ?_
  by_cases h1 : (4 : Int32) < f
  · refine own_by (S' := (s₁.setTop (mkF m 22 #[.val (.ref a1), .val (.int (4 : Int32)), .val (.int f), .val (.int t), .val (.int val)] []))) (fun _ k => XS.icmpYes X0.here hx rfl (pc0 := 2) (pc' := 22) rfl (hb hby d3_2) rfl (tlt (h1 : (4 : Int32) < f)).1 (by decide) (by decide) k) ?_
    refine own_by (S' := (s₁.setTop (mkF m 23 #[.val (.ref a1), .val (.int (4 : Int32)), .val (.int f), .val (.int t), .val (.int val)] [(.int (0 : Int32))]))) (fun _ k => XS.iconst X0.here hx rfl (hb hby d3_22) k) ?_
    exact own_ret X0 hx (t := .int) Bd.returns rfl (Or.inl ⟨rfl, by simp, _, rfl⟩) (hb hby d3_23) hlk (by decide : 0 ≤ _) (by decide : 0 ≤ _) (by rw [e0]; exact ⟨by rw [own_le, if_pos h1], N, rfl⟩)
  · refine own_by (S' := (s₁.setTop (mkF m 5 #[.val (.ref a1), .val (.int (4 : Int32)), .val (.int f), .val (.int t), .val (.int val)] []))) (fun _ k => XS.icmpNo X0.here hx rfl (hb hby d3_2) rfl (flt (h1 : ¬ ((4 : Int32) < f))).1 k) ?_
    refine own_by (S' := (s₁.setTop (mkF m 6 #[.val (.ref a1), .val (.int (4 : Int32)), .val (.int f), .val (.int t), .val (.int val)] [(.int (4 : Int32))]))) (fun _ k => XS.iloadN X0.here hx rfl (hb hby d3_5) rfl k) ?_
    refine own_by (S' := (s₁.setTop (mkF m 7 #[.val (.ref a1), .val (.int (4 : Int32)), .val (.int f), .val (.int t), .val (.int val)] [(.int t), (.int (4 : Int32))]))) (fun _ k => XS.iloadN X0.here hx rfl (hb hby d3_6) rfl k) ?_
    by_cases h2 : (4 : Int32) < t
    · refine own_by (S' := (s₁.setTop (mkF m 10 #[.val (.ref a1), .val (.int (4 : Int32)), .val (.int f), .val (.int t), .val (.int val)] []))) (fun _ k => XS.icmpNo X0.here hx rfl (hb hby d3_7) rfl (tlt (h2 : (4 : Int32) < t)).2.1 k) ?_
      refine own_by (S' := (s₁.setTop (mkF m 11 #[.val (.ref a1), .val (.int (4 : Int32)), .val (.int f), .val (.int t), .val (.int val)] [(.ref a1)]))) (fun _ k => XS.aloadN X0.here hx rfl (hb hby d3_10) rfl rfl k) ?_
      refine own_by (S' := (s₁.setTop (mkF m 12 #[.val (.ref a1), .val (.int (4 : Int32)), .val (.int f), .val (.int t), .val (.int val)] [(.int (4 : Int32)), (.ref a1)]))) (fun _ k => XS.iloadN X0.here hx rfl (hb hby d3_11) rfl k) ?_
      refine own_by (S' := (s₁.setTop (mkF m 13 #[.val (.ref a1), .val (.int (4 : Int32)), .val (.int f), .val (.int t), .val (.int val)] [(.int y4)]))) (fun _ k => own_iaload X0 hx hZ e0 A_a1 (by decide) (v := (.int y4)) rfl (g := (mkF m 12 #[.val (.ref a1), .val (.int (4 : Int32)), .val (.int f), .val (.int t), .val (.int val)] [(.int (4 : Int32)), (.ref a1)])) rfl rfl (hb hby d3_12) _ k) ?_
      refine own_by (S' := (s₁.setTop (mkF m 15 #[.val (.ref a1), .val (.int (4 : Int32)), .val (.int f), .val (.int t), .val (.int val)] [(.int val), (.int y4)]))) (fun _ k => XS.iload X0.here hx rfl (hb hby d3_13) rfl k) ?_
      by_cases h3 : val < y4
      · refine own_by (S' := (s₁.setTop (mkF m 22 #[.val (.ref a1), .val (.int (4 : Int32)), .val (.int f), .val (.int t), .val (.int val)] []))) (fun _ k => XS.icmpYes X0.here hx rfl (pc0 := 15) (pc' := 22) rfl (hb hby d3_15) rfl (tlt (h3 : val < y4)).2.2.1 (by decide) (by decide) k) ?_
        refine own_by (S' := (s₁.setTop (mkF m 23 #[.val (.ref a1), .val (.int (4 : Int32)), .val (.int f), .val (.int t), .val (.int val)] [(.int (0 : Int32))]))) (fun _ k => XS.iconst X0.here hx rfl (hb hby d3_22) k) ?_
        exact own_ret X0 hx (t := .int) Bd.returns rfl (Or.inl ⟨rfl, by simp, _, rfl⟩) (hb hby d3_23) hlk (by decide : 0 ≤ _) (by decide : 0 ≤ _) (by rw [e0]; exact ⟨by rw [own_le, if_neg h1, if_pos h2, if_pos h3], N, rfl⟩)
      · refine own_by (S' := (s₁.setTop (mkF m 18 #[.val (.ref a1), .val (.int (4 : Int32)), .val (.int f), .val (.int t), .val (.int val)] []))) (fun _ k => XS.icmpNo X0.here hx rfl (hb hby d3_15) rfl (flt (h3 : ¬ (val < y4))).2.2.1 k) ?_
        refine own_by (S' := (s₁.setTop (mkF m 19 #[.val (.ref a1), .val (.int (4 : Int32)), .val (.int f), .val (.int t), .val (.int val)] [(.int (1 : Int32))]))) (fun _ k => XS.iconst X0.here hx rfl (hb hby d3_18) k) ?_
        refine own_by (S' := (s₁.setTop (mkF m 23 #[.val (.ref a1), .val (.int (4 : Int32)), .val (.int f), .val (.int t), .val (.int val)] [(.int (1 : Int32))]))) (fun _ k => XS.goto X0.here hx rfl (pc0 := 19) (pc' := 23) rfl (hb hby d3_19) (by decide) (by decide) k) ?_
        exact own_ret X0 hx (t := .int) Bd.returns rfl (Or.inl ⟨rfl, by simp, _, rfl⟩) (hb hby d3_23) hlk (by decide : 0 ≤ _) (by decide : 0 ≤ _) (by rw [e0]; exact ⟨by rw [own_le, if_neg h1, if_pos h2, if_neg h3], N, rfl⟩)
    · refine own_by (S' := (s₁.setTop (mkF m 22 #[.val (.ref a1), .val (.int (4 : Int32)), .val (.int f), .val (.int t), .val (.int val)] []))) (fun _ k => XS.icmpYes X0.here hx rfl (pc0 := 7) (pc' := 22) rfl (hb hby d3_7) rfl (flt (h2 : ¬ ((4 : Int32) < t))).2.1 (by decide) (by decide) k) ?_
      refine own_by (S' := (s₁.setTop (mkF m 23 #[.val (.ref a1), .val (.int (4 : Int32)), .val (.int f), .val (.int t), .val (.int val)] [(.int (0 : Int32))]))) (fun _ k => XS.iconst X0.here hx rfl (hb hby d3_22) k) ?_
      exact own_ret X0 hx (t := .int) Bd.returns rfl (Or.inl ⟨rfl, by simp, _, rfl⟩) (hb hby d3_23) hlk (by decide : 0 ≤ _) (by decide : 0 ≤ _) (by rw [e0]; exact ⟨by rw [own_le, if_neg h1, if_neg h2], N, rfl⟩)
theorem pn_0 : plainName "com/example/libstrata/libstrata/layout/LayerEndsFirstAbovePinLaw" = true := by first | (simp [plainName, overriddenIn]; done) | decide +kernel
theorem ef_rm0 (m : MethodId) (x0 : Int64) (x1 : Int64) (x2 : Int32) (x3 : Int32) (x4 : Int32) : entryFrame m #[(.long x0), (.long x1), (.int x2), (.int x3), (.int x4)] maxLocals = mkF m 0 #[.val (.long x0), .second, .val (.long x1), .second, .val (.int x2), .val (.int x3), .val (.int x4), .unset, .unset, .unset, .unset, .unset, .unset] [] := by first | (simp [entryFrame, mkF, argsToLocals, Value.category, maxLocals]; done) | rfl
def Q_rm0 (Z : State) (l1 l2 : Int64) (p1 p2 p3 : Int32) (h0 : Heap) (n0 : Nat) (v : Option Value) (h : Heap) (L : List Loc) : Prop := v = some (.int (1 : Int32)) ∧ Fr n0 L
theorem pd__28_5bIII_29V : parseMethodDescriptor "([III)V" = some ⟨[(.array .int), .int, .int], none⟩ := by decide +kernel
theorem pd__28_5bIIII_29I : parseMethodDescriptor "([IIII)I" = some ⟨[(.array .int), .int, .int, .int], some .int⟩ := by decide +kernel
theorem pd__28_5bIIIII_29I : parseMethodDescriptor "([IIIII)I" = some ⟨[(.array .int), .int, .int, .int, .int], some .int⟩ := by decide +kernel
set_option maxRecDepth 65536 in
set_option maxHeartbeats 40000000 in
theorem rm0 (l : Launch) (Z : State) (a0 : Array Value) (hw : ∀ d ∈ tables_1, d.before a0 Z = true) (ws : List Jvm.Cond) (l1 l2 : Int64) (p1 p2 p3 : Int32) (h0 : Heap) (n0 : Nat) (Zn : n0 ≤ h0.size) :
    MetFree l x (head1 (Jvm.Cond.code x code maxLocals ret :: ws) room_1) (fun a U => a = #[(.long l1), (.long l2), (.int p1), (.int p2), (.int p3)] ∧ Z.Warmed39 U.vm ∧ U.heap = h0) (fun _ _ _ _ _ => True) (fun _ U o U' => ∃ v L, o = .returned v ∧ (Q_rm0 Z l1 l2 p1 p2 p3 h0 n0) v U'.heap L ∧ FrameEnd U o U' L room_1.cells room_1.slots) := by
  refine MetFree.of_bodySF (plainFor_of_name pn_0) hisR ?_
  intro p e s m args below meth c s₁ Bd hml0 hP hK
  obtain ⟨rfl, hZ, hh⟩ := hP
  have hx := Bd.exec
  have hby := Bd.bytes
  have hml : c.maxLocals = 13 := hml0
  have hown : s.vm.findClass "com/example/libstrata/libstrata/layout/LayerEndsFirstAbovePinLaw" = some m.cls := findClass_of_methodNamed Bd.named
  have hnm := (name_of_methodNamed Bd.named Bd.method).1
  have hlk : meth.locks = false := BodyLoose.notSynchronized Bd
  have X0 : Stand p l e room_1 s m #[(.long l1), (.long l2), (.int p1), (.int p2), (.int p3)] below meth c s₁ [] 0 0 := Stand.of_body Bd
  have e0 : s₁.heap = h0 := by rw [← hh, Bd.state]; rfl
  have N := Fr.nil n0
  have K := Keep.refl h0 []
  refine own_start (cl := room_1.cells) (sl := room_1.slots) (Q := (Q_rm0 Z l1 l2 p1 p2 p3 h0 n0)) (ef_rm0 m l1 l2 p1 p2 p3) ?_
  refine own_by (S' := (s₁.setTop (mkF m 1 #[.val (.long l1), .second, .val (.long l2), .second, .val (.int p1), .val (.int p2), .val (.int p3), .unset, .unset, .unset, .unset, .unset, .unset] [(.int (5 : Int32))]))) (fun _ k => XS.iconst X0.here hx rfl (hb hby at_0) k) ?_
  obtain ⟨T9, h9, k9, X9, e9, E9, A9, st9⟩ := newP X0 hx hZ (hw _ (List.mem_of_getElem? (i := 0) rfl)) e0 (g := (mkF m 1 #[.val (.long l1), .second, .val (.long l2), .second, .val (.int p1), .val (.int p2), .val (.int p3), .unset, .unset, .unset, .unset, .unset, .unset] [(.int (5 : Int32))])) rfl (hb hby at_1) rfl (by decide) (cap := 5) (by decide) (by decide) (by decide : 0 + 1 ≤ _) (by decide : 0 + 5 ≤ _)
  obtain ⟨b9, g9⟩ : ∃ z, z = h0.size := ⟨_, rfl⟩
  rw [← g9] at A9 st9
  have o9 : n0 ≤ b9 := Nat.le_trans Zn (Nat.le_of_eq g9.symm)
  have z9 : h0.size ≤ b9 := Nat.le_trans K.1 (Nat.le_of_eq g9.symm)
  have Zn := Nat.le_trans Zn E9.1
  have K := K.ext E9
  have A_b9 : OwnA Z h9 b9 .int [.int (0 : Int32), .int (0 : Int32), .int (0 : Int32), .int (0 : Int32), .int (0 : Int32)] := own_new A9 rfl
  refine own_by (S' := (T9.setTop (mkF m 3 #[.val (.long l1), .second, .val (.long l2), .second, .val (.int p1), .val (.int p2), .val (.int p3), .unset, .unset, .unset, .unset, .unset, .unset] [(.ref b9)]))) st9 ?_
  refine own_by (S' := (T9.setTop (mkF m 5 #[.val (.long l1), .second, .val (.long l2), .second, .val (.int p1), .val (.int p2), .val (.int p3), .val (.ref b9), .unset, .unset, .unset, .unset, .unset] []))) (fun _ k => XS.astore X9.here hx rfl (hb hby at_3) rfl rfl (l' := #[.val (.long l1), .second, .val (.long l2), .second, .val (.int p1), .val (.int p2), .val (.int p3), .val (.ref b9), .unset, .unset, .unset, .unset, .unset]) rfl k) ?_
  refine own_by (S' := (T9.setTop (mkF m 7 #[.val (.long l1), .second, .val (.long l2), .second, .val (.int p1), .val (.int p2), .val (.int p3), .val (.ref b9), .unset, .unset, .unset, .unset, .unset] [(.ref b9)]))) (fun _ k => XS.aload X9.here hx rfl (hb hby at_5) rfl rfl k) ?_
  refine own_by (S' := (T9.setTop (mkF m 8 #[.val (.long l1), .second, .val (.long l2), .second, .val (.int p1), .val (.int p2), .val (.int p3), .val (.ref b9), .unset, .unset, .unset, .unset, .unset] [(.int (0 : Int32)), (.ref b9)]))) (fun _ k => XS.iconst X9.here hx rfl (hb hby at_7) k) ?_
  refine own_by (S' := (T9.setTop (mkF m 9 #[.val (.long l1), .second, .val (.long l2), .second, .val (.int p1), .val (.int p2), .val (.int p3), .val (.ref b9), .unset, .unset, .unset, .unset, .unset] [(.long l1), (.int (0 : Int32)), (.ref b9)]))) (fun _ k => XS.lloadN X9.here hx rfl (hb hby at_8) rfl k) ?_
  refine own_by (S' := (T9.setTop (mkF m 10 #[.val (.long l1), .second, .val (.long l2), .second, .val (.int p1), .val (.int p2), .val (.int p3), .val (.ref b9), .unset, .unset, .unset, .unset, .unset] [(.int (l1.toInt32)), (.int (0 : Int32)), (.ref b9)]))) (fun _ k => XS.l2i X9.here hx rfl (hb hby at_9) rfl k) ?_
  obtain ⟨T10, h10, X10, e10, W10, st10⟩ := own_stI X9 hx hZ e9 A_b9 (j := (0 : Int32)) (by decide) (Nat.le_of_ble_eq_true rfl) (g := (mkF m 10 #[.val (.long l1), .second, .val (.long l2), .second, .val (.int p1), .val (.int p2), .val (.int p3), .val (.ref b9), .unset, .unset, .unset, .unset, .unset] [(.int (l1.toInt32)), (.int (0 : Int32)), (.ref b9)])) rfl rfl (hb hby at_10)
  have N := Fr.snoc X10 N o9
  have A_b9 := A_b9.set W10
  have Zn : n0 ≤ _ := Nat.le_trans Zn (Nat.le_of_eq W10.size.symm)
  have K := K.wr W10 (Or.inr z9)
  have A_b9 : OwnA Z h10 b9 .int [(.int (l1.toInt32)), .int (0 : Int32), .int (0 : Int32), .int (0 : Int32), .int (0 : Int32)] := A_b9
  refine own_by (S' := (T10.setTop (mkF m 11 #[.val (.long l1), .second, .val (.long l2), .second, .val (.int p1), .val (.int p2), .val (.int p3), .val (.ref b9), .unset, .unset, .unset, .unset, .unset] []))) st10 ?_
  refine own_by (S' := (T10.setTop (mkF m 13 #[.val (.long l1), .second, .val (.long l2), .second, .val (.int p1), .val (.int p2), .val (.int p3), .val (.ref b9), .unset, .unset, .unset, .unset, .unset] [(.ref b9)]))) (fun _ k => XS.aload X10.here hx rfl (hb hby at_11) rfl rfl k) ?_
  refine own_by (S' := (T10.setTop (mkF m 14 #[.val (.long l1), .second, .val (.long l2), .second, .val (.int p1), .val (.int p2), .val (.int p3), .val (.ref b9), .unset, .unset, .unset, .unset, .unset] [(.int (1 : Int32)), (.ref b9)]))) (fun _ k => XS.iconst X10.here hx rfl (hb hby at_13) k) ?_
  refine own_by (S' := (T10.setTop (mkF m 15 #[.val (.long l1), .second, .val (.long l2), .second, .val (.int p1), .val (.int p2), .val (.int p3), .val (.ref b9), .unset, .unset, .unset, .unset, .unset] [(.long l1), (.int (1 : Int32)), (.ref b9)]))) (fun _ k => XS.lloadN X10.here hx rfl (hb hby at_14) rfl k) ?_
  refine own_by (S' := (T10.setTop (mkF m 17 #[.val (.long l1), .second, .val (.long l2), .second, .val (.int p1), .val (.int p2), .val (.int p3), .val (.ref b9), .unset, .unset, .unset, .unset, .unset] [(.int (32 : Int32)), (.long l1), (.int (1 : Int32)), (.ref b9)]))) (fun _ k => XS.bipush X10.here hx rfl (hb hby at_15) k) ?_
  refine own_by (S' := (T10.setTop (mkF m 18 #[.val (.long l1), .second, .val (.long l2), .second, .val (.int p1), .val (.int p2), .val (.int p3), .val (.ref b9), .unset, .unset, .unset, .unset, .unset] [(.long ((l1.toUInt64 >>> ((32 : Int32) &&& 0x3f).toInt64.toUInt64).toInt64)), (.int (1 : Int32)), (.ref b9)]))) (fun _ k => XS.lushr X10.here hx rfl (hb hby at_17) rfl k) ?_
  refine own_by (S' := (T10.setTop (mkF m 19 #[.val (.long l1), .second, .val (.long l2), .second, .val (.int p1), .val (.int p2), .val (.int p3), .val (.ref b9), .unset, .unset, .unset, .unset, .unset] [(.int (((l1.toUInt64 >>> ((32 : Int32) &&& 0x3f).toInt64.toUInt64).toInt64).toInt32)), (.int (1 : Int32)), (.ref b9)]))) (fun _ k => XS.l2i X10.here hx rfl (hb hby at_18) rfl k) ?_
  obtain ⟨T11, h11, X11, e11, W11, st11⟩ := own_stI X10 hx hZ e10 A_b9 (j := (1 : Int32)) (by decide) (Nat.le_of_ble_eq_true rfl) (g := (mkF m 19 #[.val (.long l1), .second, .val (.long l2), .second, .val (.int p1), .val (.int p2), .val (.int p3), .val (.ref b9), .unset, .unset, .unset, .unset, .unset] [(.int (((l1.toUInt64 >>> ((32 : Int32) &&& 0x3f).toInt64.toUInt64).toInt64).toInt32)), (.int (1 : Int32)), (.ref b9)])) rfl rfl (hb hby at_19)
  have N := Fr.snoc X11 N o9
  have A_b9 := A_b9.set W11
  have Zn : n0 ≤ _ := Nat.le_trans Zn (Nat.le_of_eq W11.size.symm)
  have K := K.wr W11 (Or.inr z9)
  have A_b9 : OwnA Z h11 b9 .int [(.int (l1.toInt32)), (.int (((l1.toUInt64 >>> ((32 : Int32) &&& 0x3f).toInt64.toUInt64).toInt64).toInt32)), .int (0 : Int32), .int (0 : Int32), .int (0 : Int32)] := A_b9
  refine own_by (S' := (T11.setTop (mkF m 20 #[.val (.long l1), .second, .val (.long l2), .second, .val (.int p1), .val (.int p2), .val (.int p3), .val (.ref b9), .unset, .unset, .unset, .unset, .unset] []))) st11 ?_
  refine own_by (S' := (T11.setTop (mkF m 22 #[.val (.long l1), .second, .val (.long l2), .second, .val (.int p1), .val (.int p2), .val (.int p3), .val (.ref b9), .unset, .unset, .unset, .unset, .unset] [(.ref b9)]))) (fun _ k => XS.aload X11.here hx rfl (hb hby at_20) rfl rfl k) ?_
  refine own_by (S' := (T11.setTop (mkF m 23 #[.val (.long l1), .second, .val (.long l2), .second, .val (.int p1), .val (.int p2), .val (.int p3), .val (.ref b9), .unset, .unset, .unset, .unset, .unset] [(.int (2 : Int32)), (.ref b9)]))) (fun _ k => XS.iconst X11.here hx rfl (hb hby at_22) k) ?_
  refine own_by (S' := (T11.setTop (mkF m 24 #[.val (.long l1), .second, .val (.long l2), .second, .val (.int p1), .val (.int p2), .val (.int p3), .val (.ref b9), .unset, .unset, .unset, .unset, .unset] [(.long l2), (.int (2 : Int32)), (.ref b9)]))) (fun _ k => XS.lloadN X11.here hx rfl (hb hby at_23) rfl k) ?_
  refine own_by (S' := (T11.setTop (mkF m 25 #[.val (.long l1), .second, .val (.long l2), .second, .val (.int p1), .val (.int p2), .val (.int p3), .val (.ref b9), .unset, .unset, .unset, .unset, .unset] [(.int (l2.toInt32)), (.int (2 : Int32)), (.ref b9)]))) (fun _ k => XS.l2i X11.here hx rfl (hb hby at_24) rfl k) ?_
  obtain ⟨T12, h12, X12, e12, W12, st12⟩ := own_stI X11 hx hZ e11 A_b9 (j := (2 : Int32)) (by decide) (Nat.le_of_ble_eq_true rfl) (g := (mkF m 25 #[.val (.long l1), .second, .val (.long l2), .second, .val (.int p1), .val (.int p2), .val (.int p3), .val (.ref b9), .unset, .unset, .unset, .unset, .unset] [(.int (l2.toInt32)), (.int (2 : Int32)), (.ref b9)])) rfl rfl (hb hby at_25)
  have N := Fr.snoc X12 N o9
  have A_b9 := A_b9.set W12
  have Zn : n0 ≤ _ := Nat.le_trans Zn (Nat.le_of_eq W12.size.symm)
  have K := K.wr W12 (Or.inr z9)
  have A_b9 : OwnA Z h12 b9 .int [(.int (l1.toInt32)), (.int (((l1.toUInt64 >>> ((32 : Int32) &&& 0x3f).toInt64.toUInt64).toInt64).toInt32)), (.int (l2.toInt32)), .int (0 : Int32), .int (0 : Int32)] := A_b9
  refine own_by (S' := (T12.setTop (mkF m 26 #[.val (.long l1), .second, .val (.long l2), .second, .val (.int p1), .val (.int p2), .val (.int p3), .val (.ref b9), .unset, .unset, .unset, .unset, .unset] []))) st12 ?_
  refine own_by (S' := (T12.setTop (mkF m 28 #[.val (.long l1), .second, .val (.long l2), .second, .val (.int p1), .val (.int p2), .val (.int p3), .val (.ref b9), .unset, .unset, .unset, .unset, .unset] [(.ref b9)]))) (fun _ k => XS.aload X12.here hx rfl (hb hby at_26) rfl rfl k) ?_
  refine own_by (S' := (T12.setTop (mkF m 29 #[.val (.long l1), .second, .val (.long l2), .second, .val (.int p1), .val (.int p2), .val (.int p3), .val (.ref b9), .unset, .unset, .unset, .unset, .unset] [(.int (3 : Int32)), (.ref b9)]))) (fun _ k => XS.iconst X12.here hx rfl (hb hby at_28) k) ?_
  refine own_by (S' := (T12.setTop (mkF m 30 #[.val (.long l1), .second, .val (.long l2), .second, .val (.int p1), .val (.int p2), .val (.int p3), .val (.ref b9), .unset, .unset, .unset, .unset, .unset] [(.long l2), (.int (3 : Int32)), (.ref b9)]))) (fun _ k => XS.lloadN X12.here hx rfl (hb hby at_29) rfl k) ?_
  refine own_by (S' := (T12.setTop (mkF m 32 #[.val (.long l1), .second, .val (.long l2), .second, .val (.int p1), .val (.int p2), .val (.int p3), .val (.ref b9), .unset, .unset, .unset, .unset, .unset] [(.int (32 : Int32)), (.long l2), (.int (3 : Int32)), (.ref b9)]))) (fun _ k => XS.bipush X12.here hx rfl (hb hby at_30) k) ?_
  refine own_by (S' := (T12.setTop (mkF m 33 #[.val (.long l1), .second, .val (.long l2), .second, .val (.int p1), .val (.int p2), .val (.int p3), .val (.ref b9), .unset, .unset, .unset, .unset, .unset] [(.long ((l2.toUInt64 >>> ((32 : Int32) &&& 0x3f).toInt64.toUInt64).toInt64)), (.int (3 : Int32)), (.ref b9)]))) (fun _ k => XS.lushr X12.here hx rfl (hb hby at_32) rfl k) ?_
  refine own_by (S' := (T12.setTop (mkF m 34 #[.val (.long l1), .second, .val (.long l2), .second, .val (.int p1), .val (.int p2), .val (.int p3), .val (.ref b9), .unset, .unset, .unset, .unset, .unset] [(.int (((l2.toUInt64 >>> ((32 : Int32) &&& 0x3f).toInt64.toUInt64).toInt64).toInt32)), (.int (3 : Int32)), (.ref b9)]))) (fun _ k => XS.l2i X12.here hx rfl (hb hby at_33) rfl k) ?_
  obtain ⟨T13, h13, X13, e13, W13, st13⟩ := own_stI X12 hx hZ e12 A_b9 (j := (3 : Int32)) (by decide) (Nat.le_of_ble_eq_true rfl) (g := (mkF m 34 #[.val (.long l1), .second, .val (.long l2), .second, .val (.int p1), .val (.int p2), .val (.int p3), .val (.ref b9), .unset, .unset, .unset, .unset, .unset] [(.int (((l2.toUInt64 >>> ((32 : Int32) &&& 0x3f).toInt64.toUInt64).toInt64).toInt32)), (.int (3 : Int32)), (.ref b9)])) rfl rfl (hb hby at_34)
  have N := Fr.snoc X13 N o9
  have A_b9 := A_b9.set W13
  have Zn : n0 ≤ _ := Nat.le_trans Zn (Nat.le_of_eq W13.size.symm)
  have K := K.wr W13 (Or.inr z9)
  have A_b9 : OwnA Z h13 b9 .int [(.int (l1.toInt32)), (.int (((l1.toUInt64 >>> ((32 : Int32) &&& 0x3f).toInt64.toUInt64).toInt64).toInt32)), (.int (l2.toInt32)), (.int (((l2.toUInt64 >>> ((32 : Int32) &&& 0x3f).toInt64.toUInt64).toInt64).toInt32)), .int (0 : Int32)] := A_b9
  refine own_by (S' := (T13.setTop (mkF m 35 #[.val (.long l1), .second, .val (.long l2), .second, .val (.int p1), .val (.int p2), .val (.int p3), .val (.ref b9), .unset, .unset, .unset, .unset, .unset] []))) st13 ?_
  refine own_by (S' := (T13.setTop (mkF m 37 #[.val (.long l1), .second, .val (.long l2), .second, .val (.int p1), .val (.int p2), .val (.int p3), .val (.ref b9), .unset, .unset, .unset, .unset, .unset] [(.ref b9)]))) (fun _ k => XS.aload X13.here hx rfl (hb hby at_35) rfl rfl k) ?_
  refine own_by (S' := (T13.setTop (mkF m 38 #[.val (.long l1), .second, .val (.long l2), .second, .val (.int p1), .val (.int p2), .val (.int p3), .val (.ref b9), .unset, .unset, .unset, .unset, .unset] [(.int (4 : Int32)), (.ref b9)]))) (fun _ k => XS.iconst X13.here hx rfl (hb hby at_37) k) ?_
  refine own_by (S' := (T13.setTop (mkF m 40 #[.val (.long l1), .second, .val (.long l2), .second, .val (.int p1), .val (.int p2), .val (.int p3), .val (.ref b9), .unset, .unset, .unset, .unset, .unset] [(.int p1), (.int (4 : Int32)), (.ref b9)]))) (fun _ k => XS.iload X13.here hx rfl (hb hby at_38) rfl k) ?_
  obtain ⟨T14, h14, X14, e14, W14, st14⟩ := own_stI X13 hx hZ e13 A_b9 (j := (4 : Int32)) (by decide) (Nat.le_of_ble_eq_true rfl) (g := (mkF m 40 #[.val (.long l1), .second, .val (.long l2), .second, .val (.int p1), .val (.int p2), .val (.int p3), .val (.ref b9), .unset, .unset, .unset, .unset, .unset] [(.int p1), (.int (4 : Int32)), (.ref b9)])) rfl rfl (hb hby at_40)
  have N := Fr.snoc X14 N o9
  have A_b9 := A_b9.set W14
  have Zn : n0 ≤ _ := Nat.le_trans Zn (Nat.le_of_eq W14.size.symm)
  have K := K.wr W14 (Or.inr z9)
  have A_b9 : OwnA Z h14 b9 .int [(.int (l1.toInt32)), (.int (((l1.toUInt64 >>> ((32 : Int32) &&& 0x3f).toInt64.toUInt64).toInt64).toInt32)), (.int (l2.toInt32)), (.int (((l2.toUInt64 >>> ((32 : Int32) &&& 0x3f).toInt64.toUInt64).toInt64).toInt32)), (.int p1)] := A_b9
  refine own_by (S' := (T14.setTop (mkF m 41 #[.val (.long l1), .second, .val (.long l2), .second, .val (.int p1), .val (.int p2), .val (.int p3), .val (.ref b9), .unset, .unset, .unset, .unset, .unset] []))) st14 ?_
  generalize (l1.toInt32) = x0 at A_b9
  generalize (((l1.toUInt64 >>> ((32 : Int32) &&& 0x3f).toInt64.toUInt64).toInt64).toInt32) = x1 at A_b9
  generalize (l2.toInt32) = x2 at A_b9
  generalize (((l2.toUInt64 >>> ((32 : Int32) &&& 0x3f).toInt64.toUInt64).toInt64).toInt32) = x3 at A_b9
  refine own_by (S' := (T14.setTop (mkF m 43 #[.val (.long l1), .second, .val (.long l2), .second, .val (.int p1), .val (.int p2), .val (.int p3), .val (.ref b9), .unset, .unset, .unset, .unset, .unset] [(.ref b9)]))) (fun _ k => XS.aload X14.here hx rfl (hb hby at_41) rfl rfl k) ?_
  refine own_by (S' := (T14.setTop (mkF m 44 #[.val (.long l1), .second, .val (.long l2), .second, .val (.int p1), .val (.int p2), .val (.int p3), .val (.ref b9), .unset, .unset, .unset, .unset, .unset] [(.int (0 : Int32)), (.ref b9)]))) (fun _ k => XS.iconst X14.here hx rfl (hb hby at_43) k) ?_
  refine own_by (S' := (T14.setTop (mkF m 45 #[.val (.long l1), .second, .val (.long l2), .second, .val (.int p1), .val (.int p2), .val (.int p3), .val (.ref b9), .unset, .unset, .unset, .unset, .unset] [(.int (1 : Int32)), (.int (0 : Int32)), (.ref b9)]))) (fun _ k => XS.iconst X14.here hx rfl (hb hby at_44) k) ?_
  obtain ⟨_, _, ⟨T15, L15, k15, n15⟩, -, X15, ⟨Lc15, hQ15, l15, y15, z15⟩, st15⟩ := Jvm.LawKit.callS X14 hx (y := (⟨"com/example/libstrata/libstrata/layout/LayerEndsFirstAbovePinLaw", "cs", "([III)V"⟩ : MethodName)) hown (mvT hZ (hw _ (List.mem_of_getElem? (i := 1) rfl))) (mvT hZ (hw _ (List.mem_of_getElem? (i := 2) rfl))) (mvT hZ (hw _ (List.mem_of_getElem? (i := 3) rfl))) (mvT hZ (hw _ (List.mem_of_getElem? (i := 4) rfl))) (by decide) (backOf (W := 0) (rm1_0 l Z a0 hw [] b9 x0 x1 x2 x3 p1 h14 n0 Zn A_b9 o9) hZ (hw _ (List.mem_of_getElem? (i := 4) rfl)) (hw _ (List.mem_of_getElem? (i := 3) rfl)) (by decide) (by decide)) (g := (mkF m 45 #[.val (.long l1), .second, .val (.long l2), .second, .val (.int p1), .val (.int p2), .val (.int p3), .val (.ref b9), .unset, .unset, .unset, .unset, .unset] [(.int (1 : Int32)), (.int (0 : Int32)), (.ref b9)])) rfl (by rw [hml]; rfl) (argsL := [(.ref b9), (.int (0 : Int32)), (.int (1 : Int32))]) (rest := []) (lenOf pd__28_5bIII_29V rfl) rfl (by show 2 * 0 + _ ≤ _; exact Nat.le_of_eq rfl) (hb hby at_45) (fun _ _ => ⟨rfl, e14, (by decide : 1 + 0 ≤ _), (by decide : 5 + 0 ≤ _)⟩)
  dsimp only [Pt.U, Pt.locs, Pt.cells, Pt.slots] at X15 l15 y15 z15 st15 hQ15
  subst l15 y15 z15
  obtain ⟨rfl, N15q, Kc, A_b9⟩ := hQ15
  have N := Fr.app N N15q
  have Zn : n0 ≤ _ := Nat.le_trans Zn Kc.1
  have K := K.trans Kc (allS (Or.inr z9) all0)
  refine own_by (S' := (T15.setTop (mkF m 48 #[.val (.long l1), .second, .val (.long l2), .second, .val (.int p1), .val (.int p2), .val (.int p3), .val (.ref b9), .unset, .unset, .unset, .unset, .unset] []))) st15 ?_
  obtain ⟨va0, q_va0⟩ : ∃ z, z = own_lo x0 x1 := ⟨_, rfl⟩
  obtain ⟨va1, q_va1⟩ : ∃ z, z = own_hi x0 x1 := ⟨_, rfl⟩
  rw [← q_va0, ← q_va1] at A_b9
  refine own_by (S' := (T15.setTop (mkF m 50 #[.val (.long l1), .second, .val (.long l2), .second, .val (.int p1), .val (.int p2), .val (.int p3), .val (.ref b9), .unset, .unset, .unset, .unset, .unset] [(.ref b9)]))) (fun _ k => XS.aload X15.here hx rfl (hb hby at_48) rfl rfl k) ?_
  refine own_by (S' := (T15.setTop (mkF m 51 #[.val (.long l1), .second, .val (.long l2), .second, .val (.int p1), .val (.int p2), .val (.int p3), .val (.ref b9), .unset, .unset, .unset, .unset, .unset] [(.int (1 : Int32)), (.ref b9)]))) (fun _ k => XS.iconst X15.here hx rfl (hb hby at_50) k) ?_
  refine own_by (S' := (T15.setTop (mkF m 52 #[.val (.long l1), .second, .val (.long l2), .second, .val (.int p1), .val (.int p2), .val (.int p3), .val (.ref b9), .unset, .unset, .unset, .unset, .unset] [(.int (2 : Int32)), (.int (1 : Int32)), (.ref b9)]))) (fun _ k => XS.iconst X15.here hx rfl (hb hby at_51) k) ?_
  obtain ⟨_, _, ⟨T16, L16, k16, n16⟩, -, X16, ⟨Lc16, hQ16, l16, y16, z16⟩, st16⟩ := Jvm.LawKit.callS X15 hx (y := (⟨"com/example/libstrata/libstrata/layout/LayerEndsFirstAbovePinLaw", "cs", "([III)V"⟩ : MethodName)) hown (mvT hZ (hw _ (List.mem_of_getElem? (i := 1) rfl))) (mvT hZ (hw _ (List.mem_of_getElem? (i := 2) rfl))) (mvT hZ (hw _ (List.mem_of_getElem? (i := 3) rfl))) (mvT hZ (hw _ (List.mem_of_getElem? (i := 4) rfl))) (by decide) (backOf (W := 0) (rm1_1 l Z a0 hw [] b9 va0 va1 x2 x3 p1 T15.heap n0 Zn A_b9 o9) hZ (hw _ (List.mem_of_getElem? (i := 4) rfl)) (hw _ (List.mem_of_getElem? (i := 3) rfl)) (by decide) (by decide)) (g := (mkF m 52 #[.val (.long l1), .second, .val (.long l2), .second, .val (.int p1), .val (.int p2), .val (.int p3), .val (.ref b9), .unset, .unset, .unset, .unset, .unset] [(.int (2 : Int32)), (.int (1 : Int32)), (.ref b9)])) rfl (by rw [hml]; rfl) (argsL := [(.ref b9), (.int (1 : Int32)), (.int (2 : Int32))]) (rest := []) (lenOf pd__28_5bIII_29V rfl) rfl (by show 2 * 0 + _ ≤ _; exact Nat.le_of_eq rfl) (hb hby at_52) (fun _ _ => ⟨rfl, rfl, (by decide : 1 + 0 ≤ _), (by decide : 5 + 0 ≤ _)⟩)
  dsimp only [Pt.U, Pt.locs, Pt.cells, Pt.slots] at X16 l16 y16 z16 st16 hQ16
  subst l16 y16 z16
  obtain ⟨rfl, N16q, Kc, A_b9⟩ := hQ16
  have N := Fr.app N N16q
  have Zn : n0 ≤ _ := Nat.le_trans Zn Kc.1
  have K := K.trans Kc (allS (Or.inr z9) all0)
  refine own_by (S' := (T16.setTop (mkF m 55 #[.val (.long l1), .second, .val (.long l2), .second, .val (.int p1), .val (.int p2), .val (.int p3), .val (.ref b9), .unset, .unset, .unset, .unset, .unset] []))) st16 ?_
  obtain ⟨vb1, q_vb1⟩ : ∃ z, z = own_lo va1 x2 := ⟨_, rfl⟩
  obtain ⟨vb2, q_vb2⟩ : ∃ z, z = own_hi va1 x2 := ⟨_, rfl⟩
  rw [← q_vb1, ← q_vb2] at A_b9
  refine own_by (S' := (T16.setTop (mkF m 57 #[.val (.long l1), .second, .val (.long l2), .second, .val (.int p1), .val (.int p2), .val (.int p3), .val (.ref b9), .unset, .unset, .unset, .unset, .unset] [(.ref b9)]))) (fun _ k => XS.aload X16.here hx rfl (hb hby at_55) rfl rfl k) ?_
  refine own_by (S' := (T16.setTop (mkF m 58 #[.val (.long l1), .second, .val (.long l2), .second, .val (.int p1), .val (.int p2), .val (.int p3), .val (.ref b9), .unset, .unset, .unset, .unset, .unset] [(.int (2 : Int32)), (.ref b9)]))) (fun _ k => XS.iconst X16.here hx rfl (hb hby at_57) k) ?_
  refine own_by (S' := (T16.setTop (mkF m 59 #[.val (.long l1), .second, .val (.long l2), .second, .val (.int p1), .val (.int p2), .val (.int p3), .val (.ref b9), .unset, .unset, .unset, .unset, .unset] [(.int (3 : Int32)), (.int (2 : Int32)), (.ref b9)]))) (fun _ k => XS.iconst X16.here hx rfl (hb hby at_58) k) ?_
  obtain ⟨_, _, ⟨T17, L17, k17, n17⟩, -, X17, ⟨Lc17, hQ17, l17, y17, z17⟩, st17⟩ := Jvm.LawKit.callS X16 hx (y := (⟨"com/example/libstrata/libstrata/layout/LayerEndsFirstAbovePinLaw", "cs", "([III)V"⟩ : MethodName)) hown (mvT hZ (hw _ (List.mem_of_getElem? (i := 1) rfl))) (mvT hZ (hw _ (List.mem_of_getElem? (i := 2) rfl))) (mvT hZ (hw _ (List.mem_of_getElem? (i := 3) rfl))) (mvT hZ (hw _ (List.mem_of_getElem? (i := 4) rfl))) (by decide) (backOf (W := 0) (rm1_2 l Z a0 hw [] b9 va0 vb1 vb2 x3 p1 T16.heap n0 Zn A_b9 o9) hZ (hw _ (List.mem_of_getElem? (i := 4) rfl)) (hw _ (List.mem_of_getElem? (i := 3) rfl)) (by decide) (by decide)) (g := (mkF m 59 #[.val (.long l1), .second, .val (.long l2), .second, .val (.int p1), .val (.int p2), .val (.int p3), .val (.ref b9), .unset, .unset, .unset, .unset, .unset] [(.int (3 : Int32)), (.int (2 : Int32)), (.ref b9)])) rfl (by rw [hml]; rfl) (argsL := [(.ref b9), (.int (2 : Int32)), (.int (3 : Int32))]) (rest := []) (lenOf pd__28_5bIII_29V rfl) rfl (by show 2 * 0 + _ ≤ _; exact Nat.le_of_eq rfl) (hb hby at_59) (fun _ _ => ⟨rfl, rfl, (by decide : 1 + 0 ≤ _), (by decide : 5 + 0 ≤ _)⟩)
  dsimp only [Pt.U, Pt.locs, Pt.cells, Pt.slots] at X17 l17 y17 z17 st17 hQ17
  subst l17 y17 z17
  obtain ⟨rfl, N17q, Kc, A_b9⟩ := hQ17
  have N := Fr.app N N17q
  have Zn : n0 ≤ _ := Nat.le_trans Zn Kc.1
  have K := K.trans Kc (allS (Or.inr z9) all0)
  refine own_by (S' := (T17.setTop (mkF m 62 #[.val (.long l1), .second, .val (.long l2), .second, .val (.int p1), .val (.int p2), .val (.int p3), .val (.ref b9), .unset, .unset, .unset, .unset, .unset] []))) st17 ?_
  obtain ⟨vc2, q_vc2⟩ : ∃ z, z = own_lo vb2 x3 := ⟨_, rfl⟩
  obtain ⟨vc3, q_vc3⟩ : ∃ z, z = own_hi vb2 x3 := ⟨_, rfl⟩
  rw [← q_vc2, ← q_vc3] at A_b9
  refine own_by (S' := (T17.setTop (mkF m 64 #[.val (.long l1), .second, .val (.long l2), .second, .val (.int p1), .val (.int p2), .val (.int p3), .val (.ref b9), .unset, .unset, .unset, .unset, .unset] [(.ref b9)]))) (fun _ k => XS.aload X17.here hx rfl (hb hby at_62) rfl rfl k) ?_
  refine own_by (S' := (T17.setTop (mkF m 65 #[.val (.long l1), .second, .val (.long l2), .second, .val (.int p1), .val (.int p2), .val (.int p3), .val (.ref b9), .unset, .unset, .unset, .unset, .unset] [(.int (3 : Int32)), (.ref b9)]))) (fun _ k => XS.iconst X17.here hx rfl (hb hby at_64) k) ?_
  refine own_by (S' := (T17.setTop (mkF m 66 #[.val (.long l1), .second, .val (.long l2), .second, .val (.int p1), .val (.int p2), .val (.int p3), .val (.ref b9), .unset, .unset, .unset, .unset, .unset] [(.int (4 : Int32)), (.int (3 : Int32)), (.ref b9)]))) (fun _ k => XS.iconst X17.here hx rfl (hb hby at_65) k) ?_
  obtain ⟨_, _, ⟨T18, L18, k18, n18⟩, -, X18, ⟨Lc18, hQ18, l18, y18, z18⟩, st18⟩ := Jvm.LawKit.callS X17 hx (y := (⟨"com/example/libstrata/libstrata/layout/LayerEndsFirstAbovePinLaw", "cs", "([III)V"⟩ : MethodName)) hown (mvT hZ (hw _ (List.mem_of_getElem? (i := 1) rfl))) (mvT hZ (hw _ (List.mem_of_getElem? (i := 2) rfl))) (mvT hZ (hw _ (List.mem_of_getElem? (i := 3) rfl))) (mvT hZ (hw _ (List.mem_of_getElem? (i := 4) rfl))) (by decide) (backOf (W := 0) (rm1_3 l Z a0 hw [] b9 va0 vb1 vc2 vc3 p1 T17.heap n0 Zn A_b9 o9) hZ (hw _ (List.mem_of_getElem? (i := 4) rfl)) (hw _ (List.mem_of_getElem? (i := 3) rfl)) (by decide) (by decide)) (g := (mkF m 66 #[.val (.long l1), .second, .val (.long l2), .second, .val (.int p1), .val (.int p2), .val (.int p3), .val (.ref b9), .unset, .unset, .unset, .unset, .unset] [(.int (4 : Int32)), (.int (3 : Int32)), (.ref b9)])) rfl (by rw [hml]; rfl) (argsL := [(.ref b9), (.int (3 : Int32)), (.int (4 : Int32))]) (rest := []) (lenOf pd__28_5bIII_29V rfl) rfl (by show 2 * 0 + _ ≤ _; exact Nat.le_of_eq rfl) (hb hby at_66) (fun _ _ => ⟨rfl, rfl, (by decide : 1 + 0 ≤ _), (by decide : 5 + 0 ≤ _)⟩)
  dsimp only [Pt.U, Pt.locs, Pt.cells, Pt.slots] at X18 l18 y18 z18 st18 hQ18
  subst l18 y18 z18
  obtain ⟨rfl, N18q, Kc, A_b9⟩ := hQ18
  have N := Fr.app N N18q
  have Zn : n0 ≤ _ := Nat.le_trans Zn Kc.1
  have K := K.trans Kc (allS (Or.inr z9) all0)
  refine own_by (S' := (T18.setTop (mkF m 69 #[.val (.long l1), .second, .val (.long l2), .second, .val (.int p1), .val (.int p2), .val (.int p3), .val (.ref b9), .unset, .unset, .unset, .unset, .unset] []))) st18 ?_
  obtain ⟨vd3, q_vd3⟩ : ∃ z, z = own_lo vc3 p1 := ⟨_, rfl⟩
  obtain ⟨vd4, q_vd4⟩ : ∃ z, z = own_hi vc3 p1 := ⟨_, rfl⟩
  rw [← q_vd3, ← q_vd4] at A_b9
  refine own_by (S' := (T18.setTop (mkF m 71 #[.val (.long l1), .second, .val (.long l2), .second, .val (.int p1), .val (.int p2), .val (.int p3), .val (.ref b9), .unset, .unset, .unset, .unset, .unset] [(.ref b9)]))) (fun _ k => XS.aload X18.here hx rfl (hb hby at_69) rfl rfl k) ?_
  refine own_by (S' := (T18.setTop (mkF m 72 #[.val (.long l1), .second, .val (.long l2), .second, .val (.int p1), .val (.int p2), .val (.int p3), .val (.ref b9), .unset, .unset, .unset, .unset, .unset] [(.int (0 : Int32)), (.ref b9)]))) (fun _ k => XS.iconst X18.here hx rfl (hb hby at_71) k) ?_
  refine own_by (S' := (T18.setTop (mkF m 73 #[.val (.long l1), .second, .val (.long l2), .second, .val (.int p1), .val (.int p2), .val (.int p3), .val (.ref b9), .unset, .unset, .unset, .unset, .unset] [(.int (1 : Int32)), (.int (0 : Int32)), (.ref b9)]))) (fun _ k => XS.iconst X18.here hx rfl (hb hby at_72) k) ?_
  obtain ⟨_, _, ⟨T19, L19, k19, n19⟩, -, X19, ⟨Lc19, hQ19, l19, y19, z19⟩, st19⟩ := Jvm.LawKit.callS X18 hx (y := (⟨"com/example/libstrata/libstrata/layout/LayerEndsFirstAbovePinLaw", "cs", "([III)V"⟩ : MethodName)) hown (mvT hZ (hw _ (List.mem_of_getElem? (i := 1) rfl))) (mvT hZ (hw _ (List.mem_of_getElem? (i := 2) rfl))) (mvT hZ (hw _ (List.mem_of_getElem? (i := 3) rfl))) (mvT hZ (hw _ (List.mem_of_getElem? (i := 4) rfl))) (by decide) (backOf (W := 0) (rm1_0 l Z a0 hw [] b9 va0 vb1 vc2 vd3 vd4 T18.heap n0 Zn A_b9 o9) hZ (hw _ (List.mem_of_getElem? (i := 4) rfl)) (hw _ (List.mem_of_getElem? (i := 3) rfl)) (by decide) (by decide)) (g := (mkF m 73 #[.val (.long l1), .second, .val (.long l2), .second, .val (.int p1), .val (.int p2), .val (.int p3), .val (.ref b9), .unset, .unset, .unset, .unset, .unset] [(.int (1 : Int32)), (.int (0 : Int32)), (.ref b9)])) rfl (by rw [hml]; rfl) (argsL := [(.ref b9), (.int (0 : Int32)), (.int (1 : Int32))]) (rest := []) (lenOf pd__28_5bIII_29V rfl) rfl (by show 2 * 0 + _ ≤ _; exact Nat.le_of_eq rfl) (hb hby at_73) (fun _ _ => ⟨rfl, rfl, (by decide : 1 + 0 ≤ _), (by decide : 5 + 0 ≤ _)⟩)
  dsimp only [Pt.U, Pt.locs, Pt.cells, Pt.slots] at X19 l19 y19 z19 st19 hQ19
  subst l19 y19 z19
  obtain ⟨rfl, N19q, Kc, A_b9⟩ := hQ19
  have N := Fr.app N N19q
  have Zn : n0 ≤ _ := Nat.le_trans Zn Kc.1
  have K := K.trans Kc (allS (Or.inr z9) all0)
  refine own_by (S' := (T19.setTop (mkF m 76 #[.val (.long l1), .second, .val (.long l2), .second, .val (.int p1), .val (.int p2), .val (.int p3), .val (.ref b9), .unset, .unset, .unset, .unset, .unset] []))) st19 ?_
  obtain ⟨ve0, q_ve0⟩ : ∃ z, z = own_lo va0 vb1 := ⟨_, rfl⟩
  obtain ⟨ve1, q_ve1⟩ : ∃ z, z = own_hi va0 vb1 := ⟨_, rfl⟩
  rw [← q_ve0, ← q_ve1] at A_b9
  refine own_by (S' := (T19.setTop (mkF m 78 #[.val (.long l1), .second, .val (.long l2), .second, .val (.int p1), .val (.int p2), .val (.int p3), .val (.ref b9), .unset, .unset, .unset, .unset, .unset] [(.ref b9)]))) (fun _ k => XS.aload X19.here hx rfl (hb hby at_76) rfl rfl k) ?_
  refine own_by (S' := (T19.setTop (mkF m 79 #[.val (.long l1), .second, .val (.long l2), .second, .val (.int p1), .val (.int p2), .val (.int p3), .val (.ref b9), .unset, .unset, .unset, .unset, .unset] [(.int (1 : Int32)), (.ref b9)]))) (fun _ k => XS.iconst X19.here hx rfl (hb hby at_78) k) ?_
  refine own_by (S' := (T19.setTop (mkF m 80 #[.val (.long l1), .second, .val (.long l2), .second, .val (.int p1), .val (.int p2), .val (.int p3), .val (.ref b9), .unset, .unset, .unset, .unset, .unset] [(.int (2 : Int32)), (.int (1 : Int32)), (.ref b9)]))) (fun _ k => XS.iconst X19.here hx rfl (hb hby at_79) k) ?_
  obtain ⟨_, _, ⟨T20, L20, k20, n20⟩, -, X20, ⟨Lc20, hQ20, l20, y20, z20⟩, st20⟩ := Jvm.LawKit.callS X19 hx (y := (⟨"com/example/libstrata/libstrata/layout/LayerEndsFirstAbovePinLaw", "cs", "([III)V"⟩ : MethodName)) hown (mvT hZ (hw _ (List.mem_of_getElem? (i := 1) rfl))) (mvT hZ (hw _ (List.mem_of_getElem? (i := 2) rfl))) (mvT hZ (hw _ (List.mem_of_getElem? (i := 3) rfl))) (mvT hZ (hw _ (List.mem_of_getElem? (i := 4) rfl))) (by decide) (backOf (W := 0) (rm1_1 l Z a0 hw [] b9 ve0 ve1 vc2 vd3 vd4 T19.heap n0 Zn A_b9 o9) hZ (hw _ (List.mem_of_getElem? (i := 4) rfl)) (hw _ (List.mem_of_getElem? (i := 3) rfl)) (by decide) (by decide)) (g := (mkF m 80 #[.val (.long l1), .second, .val (.long l2), .second, .val (.int p1), .val (.int p2), .val (.int p3), .val (.ref b9), .unset, .unset, .unset, .unset, .unset] [(.int (2 : Int32)), (.int (1 : Int32)), (.ref b9)])) rfl (by rw [hml]; rfl) (argsL := [(.ref b9), (.int (1 : Int32)), (.int (2 : Int32))]) (rest := []) (lenOf pd__28_5bIII_29V rfl) rfl (by show 2 * 0 + _ ≤ _; exact Nat.le_of_eq rfl) (hb hby at_80) (fun _ _ => ⟨rfl, rfl, (by decide : 1 + 0 ≤ _), (by decide : 5 + 0 ≤ _)⟩)
  dsimp only [Pt.U, Pt.locs, Pt.cells, Pt.slots] at X20 l20 y20 z20 st20 hQ20
  subst l20 y20 z20
  obtain ⟨rfl, N20q, Kc, A_b9⟩ := hQ20
  have N := Fr.app N N20q
  have Zn : n0 ≤ _ := Nat.le_trans Zn Kc.1
  have K := K.trans Kc (allS (Or.inr z9) all0)
  refine own_by (S' := (T20.setTop (mkF m 83 #[.val (.long l1), .second, .val (.long l2), .second, .val (.int p1), .val (.int p2), .val (.int p3), .val (.ref b9), .unset, .unset, .unset, .unset, .unset] []))) st20 ?_
  obtain ⟨vf1, q_vf1⟩ : ∃ z, z = own_lo ve1 vc2 := ⟨_, rfl⟩
  obtain ⟨vf2, q_vf2⟩ : ∃ z, z = own_hi ve1 vc2 := ⟨_, rfl⟩
  rw [← q_vf1, ← q_vf2] at A_b9
  refine own_by (S' := (T20.setTop (mkF m 85 #[.val (.long l1), .second, .val (.long l2), .second, .val (.int p1), .val (.int p2), .val (.int p3), .val (.ref b9), .unset, .unset, .unset, .unset, .unset] [(.ref b9)]))) (fun _ k => XS.aload X20.here hx rfl (hb hby at_83) rfl rfl k) ?_
  refine own_by (S' := (T20.setTop (mkF m 86 #[.val (.long l1), .second, .val (.long l2), .second, .val (.int p1), .val (.int p2), .val (.int p3), .val (.ref b9), .unset, .unset, .unset, .unset, .unset] [(.int (2 : Int32)), (.ref b9)]))) (fun _ k => XS.iconst X20.here hx rfl (hb hby at_85) k) ?_
  refine own_by (S' := (T20.setTop (mkF m 87 #[.val (.long l1), .second, .val (.long l2), .second, .val (.int p1), .val (.int p2), .val (.int p3), .val (.ref b9), .unset, .unset, .unset, .unset, .unset] [(.int (3 : Int32)), (.int (2 : Int32)), (.ref b9)]))) (fun _ k => XS.iconst X20.here hx rfl (hb hby at_86) k) ?_
  obtain ⟨_, _, ⟨T21, L21, k21, n21⟩, -, X21, ⟨Lc21, hQ21, l21, y21, z21⟩, st21⟩ := Jvm.LawKit.callS X20 hx (y := (⟨"com/example/libstrata/libstrata/layout/LayerEndsFirstAbovePinLaw", "cs", "([III)V"⟩ : MethodName)) hown (mvT hZ (hw _ (List.mem_of_getElem? (i := 1) rfl))) (mvT hZ (hw _ (List.mem_of_getElem? (i := 2) rfl))) (mvT hZ (hw _ (List.mem_of_getElem? (i := 3) rfl))) (mvT hZ (hw _ (List.mem_of_getElem? (i := 4) rfl))) (by decide) (backOf (W := 0) (rm1_2 l Z a0 hw [] b9 ve0 vf1 vf2 vd3 vd4 T20.heap n0 Zn A_b9 o9) hZ (hw _ (List.mem_of_getElem? (i := 4) rfl)) (hw _ (List.mem_of_getElem? (i := 3) rfl)) (by decide) (by decide)) (g := (mkF m 87 #[.val (.long l1), .second, .val (.long l2), .second, .val (.int p1), .val (.int p2), .val (.int p3), .val (.ref b9), .unset, .unset, .unset, .unset, .unset] [(.int (3 : Int32)), (.int (2 : Int32)), (.ref b9)])) rfl (by rw [hml]; rfl) (argsL := [(.ref b9), (.int (2 : Int32)), (.int (3 : Int32))]) (rest := []) (lenOf pd__28_5bIII_29V rfl) rfl (by show 2 * 0 + _ ≤ _; exact Nat.le_of_eq rfl) (hb hby at_87) (fun _ _ => ⟨rfl, rfl, (by decide : 1 + 0 ≤ _), (by decide : 5 + 0 ≤ _)⟩)
  dsimp only [Pt.U, Pt.locs, Pt.cells, Pt.slots] at X21 l21 y21 z21 st21 hQ21
  subst l21 y21 z21
  obtain ⟨rfl, N21q, Kc, A_b9⟩ := hQ21
  have N := Fr.app N N21q
  have Zn : n0 ≤ _ := Nat.le_trans Zn Kc.1
  have K := K.trans Kc (allS (Or.inr z9) all0)
  refine own_by (S' := (T21.setTop (mkF m 90 #[.val (.long l1), .second, .val (.long l2), .second, .val (.int p1), .val (.int p2), .val (.int p3), .val (.ref b9), .unset, .unset, .unset, .unset, .unset] []))) st21 ?_
  obtain ⟨vg2, q_vg2⟩ : ∃ z, z = own_lo vf2 vd3 := ⟨_, rfl⟩
  obtain ⟨vg3, q_vg3⟩ : ∃ z, z = own_hi vf2 vd3 := ⟨_, rfl⟩
  rw [← q_vg2, ← q_vg3] at A_b9
  refine own_by (S' := (T21.setTop (mkF m 92 #[.val (.long l1), .second, .val (.long l2), .second, .val (.int p1), .val (.int p2), .val (.int p3), .val (.ref b9), .unset, .unset, .unset, .unset, .unset] [(.ref b9)]))) (fun _ k => XS.aload X21.here hx rfl (hb hby at_90) rfl rfl k) ?_
  refine own_by (S' := (T21.setTop (mkF m 93 #[.val (.long l1), .second, .val (.long l2), .second, .val (.int p1), .val (.int p2), .val (.int p3), .val (.ref b9), .unset, .unset, .unset, .unset, .unset] [(.int (0 : Int32)), (.ref b9)]))) (fun _ k => XS.iconst X21.here hx rfl (hb hby at_92) k) ?_
  refine own_by (S' := (T21.setTop (mkF m 94 #[.val (.long l1), .second, .val (.long l2), .second, .val (.int p1), .val (.int p2), .val (.int p3), .val (.ref b9), .unset, .unset, .unset, .unset, .unset] [(.int (1 : Int32)), (.int (0 : Int32)), (.ref b9)]))) (fun _ k => XS.iconst X21.here hx rfl (hb hby at_93) k) ?_
  obtain ⟨_, _, ⟨T22, L22, k22, n22⟩, -, X22, ⟨Lc22, hQ22, l22, y22, z22⟩, st22⟩ := Jvm.LawKit.callS X21 hx (y := (⟨"com/example/libstrata/libstrata/layout/LayerEndsFirstAbovePinLaw", "cs", "([III)V"⟩ : MethodName)) hown (mvT hZ (hw _ (List.mem_of_getElem? (i := 1) rfl))) (mvT hZ (hw _ (List.mem_of_getElem? (i := 2) rfl))) (mvT hZ (hw _ (List.mem_of_getElem? (i := 3) rfl))) (mvT hZ (hw _ (List.mem_of_getElem? (i := 4) rfl))) (by decide) (backOf (W := 0) (rm1_0 l Z a0 hw [] b9 ve0 vf1 vg2 vg3 vd4 T21.heap n0 Zn A_b9 o9) hZ (hw _ (List.mem_of_getElem? (i := 4) rfl)) (hw _ (List.mem_of_getElem? (i := 3) rfl)) (by decide) (by decide)) (g := (mkF m 94 #[.val (.long l1), .second, .val (.long l2), .second, .val (.int p1), .val (.int p2), .val (.int p3), .val (.ref b9), .unset, .unset, .unset, .unset, .unset] [(.int (1 : Int32)), (.int (0 : Int32)), (.ref b9)])) rfl (by rw [hml]; rfl) (argsL := [(.ref b9), (.int (0 : Int32)), (.int (1 : Int32))]) (rest := []) (lenOf pd__28_5bIII_29V rfl) rfl (by show 2 * 0 + _ ≤ _; exact Nat.le_of_eq rfl) (hb hby at_94) (fun _ _ => ⟨rfl, rfl, (by decide : 1 + 0 ≤ _), (by decide : 5 + 0 ≤ _)⟩)
  dsimp only [Pt.U, Pt.locs, Pt.cells, Pt.slots] at X22 l22 y22 z22 st22 hQ22
  subst l22 y22 z22
  obtain ⟨rfl, N22q, Kc, A_b9⟩ := hQ22
  have N := Fr.app N N22q
  have Zn : n0 ≤ _ := Nat.le_trans Zn Kc.1
  have K := K.trans Kc (allS (Or.inr z9) all0)
  refine own_by (S' := (T22.setTop (mkF m 97 #[.val (.long l1), .second, .val (.long l2), .second, .val (.int p1), .val (.int p2), .val (.int p3), .val (.ref b9), .unset, .unset, .unset, .unset, .unset] []))) st22 ?_
  obtain ⟨vh0, q_vh0⟩ : ∃ z, z = own_lo ve0 vf1 := ⟨_, rfl⟩
  obtain ⟨vh1, q_vh1⟩ : ∃ z, z = own_hi ve0 vf1 := ⟨_, rfl⟩
  rw [← q_vh0, ← q_vh1] at A_b9
  refine own_by (S' := (T22.setTop (mkF m 99 #[.val (.long l1), .second, .val (.long l2), .second, .val (.int p1), .val (.int p2), .val (.int p3), .val (.ref b9), .unset, .unset, .unset, .unset, .unset] [(.ref b9)]))) (fun _ k => XS.aload X22.here hx rfl (hb hby at_97) rfl rfl k) ?_
  refine own_by (S' := (T22.setTop (mkF m 100 #[.val (.long l1), .second, .val (.long l2), .second, .val (.int p1), .val (.int p2), .val (.int p3), .val (.ref b9), .unset, .unset, .unset, .unset, .unset] [(.int (1 : Int32)), (.ref b9)]))) (fun _ k => XS.iconst X22.here hx rfl (hb hby at_99) k) ?_
  refine own_by (S' := (T22.setTop (mkF m 101 #[.val (.long l1), .second, .val (.long l2), .second, .val (.int p1), .val (.int p2), .val (.int p3), .val (.ref b9), .unset, .unset, .unset, .unset, .unset] [(.int (2 : Int32)), (.int (1 : Int32)), (.ref b9)]))) (fun _ k => XS.iconst X22.here hx rfl (hb hby at_100) k) ?_
  obtain ⟨_, _, ⟨T23, L23, k23, n23⟩, -, X23, ⟨Lc23, hQ23, l23, y23, z23⟩, st23⟩ := Jvm.LawKit.callS X22 hx (y := (⟨"com/example/libstrata/libstrata/layout/LayerEndsFirstAbovePinLaw", "cs", "([III)V"⟩ : MethodName)) hown (mvT hZ (hw _ (List.mem_of_getElem? (i := 1) rfl))) (mvT hZ (hw _ (List.mem_of_getElem? (i := 2) rfl))) (mvT hZ (hw _ (List.mem_of_getElem? (i := 3) rfl))) (mvT hZ (hw _ (List.mem_of_getElem? (i := 4) rfl))) (by decide) (backOf (W := 0) (rm1_1 l Z a0 hw [] b9 vh0 vh1 vg2 vg3 vd4 T22.heap n0 Zn A_b9 o9) hZ (hw _ (List.mem_of_getElem? (i := 4) rfl)) (hw _ (List.mem_of_getElem? (i := 3) rfl)) (by decide) (by decide)) (g := (mkF m 101 #[.val (.long l1), .second, .val (.long l2), .second, .val (.int p1), .val (.int p2), .val (.int p3), .val (.ref b9), .unset, .unset, .unset, .unset, .unset] [(.int (2 : Int32)), (.int (1 : Int32)), (.ref b9)])) rfl (by rw [hml]; rfl) (argsL := [(.ref b9), (.int (1 : Int32)), (.int (2 : Int32))]) (rest := []) (lenOf pd__28_5bIII_29V rfl) rfl (by show 2 * 0 + _ ≤ _; exact Nat.le_of_eq rfl) (hb hby at_101) (fun _ _ => ⟨rfl, rfl, (by decide : 1 + 0 ≤ _), (by decide : 5 + 0 ≤ _)⟩)
  dsimp only [Pt.U, Pt.locs, Pt.cells, Pt.slots] at X23 l23 y23 z23 st23 hQ23
  subst l23 y23 z23
  obtain ⟨rfl, N23q, Kc, A_b9⟩ := hQ23
  have N := Fr.app N N23q
  have Zn : n0 ≤ _ := Nat.le_trans Zn Kc.1
  have K := K.trans Kc (allS (Or.inr z9) all0)
  refine own_by (S' := (T23.setTop (mkF m 104 #[.val (.long l1), .second, .val (.long l2), .second, .val (.int p1), .val (.int p2), .val (.int p3), .val (.ref b9), .unset, .unset, .unset, .unset, .unset] []))) st23 ?_
  obtain ⟨vi1, q_vi1⟩ : ∃ z, z = own_lo vh1 vg2 := ⟨_, rfl⟩
  obtain ⟨vi2, q_vi2⟩ : ∃ z, z = own_hi vh1 vg2 := ⟨_, rfl⟩
  rw [← q_vi1, ← q_vi2] at A_b9
  refine own_by (S' := (T23.setTop (mkF m 106 #[.val (.long l1), .second, .val (.long l2), .second, .val (.int p1), .val (.int p2), .val (.int p3), .val (.ref b9), .unset, .unset, .unset, .unset, .unset] [(.ref b9)]))) (fun _ k => XS.aload X23.here hx rfl (hb hby at_104) rfl rfl k) ?_
  refine own_by (S' := (T23.setTop (mkF m 107 #[.val (.long l1), .second, .val (.long l2), .second, .val (.int p1), .val (.int p2), .val (.int p3), .val (.ref b9), .unset, .unset, .unset, .unset, .unset] [(.int (0 : Int32)), (.ref b9)]))) (fun _ k => XS.iconst X23.here hx rfl (hb hby at_106) k) ?_
  refine own_by (S' := (T23.setTop (mkF m 108 #[.val (.long l1), .second, .val (.long l2), .second, .val (.int p1), .val (.int p2), .val (.int p3), .val (.ref b9), .unset, .unset, .unset, .unset, .unset] [(.int (1 : Int32)), (.int (0 : Int32)), (.ref b9)]))) (fun _ k => XS.iconst X23.here hx rfl (hb hby at_107) k) ?_
  obtain ⟨_, _, ⟨T24, L24, k24, n24⟩, -, X24, ⟨Lc24, hQ24, l24, y24, z24⟩, st24⟩ := Jvm.LawKit.callS X23 hx (y := (⟨"com/example/libstrata/libstrata/layout/LayerEndsFirstAbovePinLaw", "cs", "([III)V"⟩ : MethodName)) hown (mvT hZ (hw _ (List.mem_of_getElem? (i := 1) rfl))) (mvT hZ (hw _ (List.mem_of_getElem? (i := 2) rfl))) (mvT hZ (hw _ (List.mem_of_getElem? (i := 3) rfl))) (mvT hZ (hw _ (List.mem_of_getElem? (i := 4) rfl))) (by decide) (backOf (W := 0) (rm1_0 l Z a0 hw [] b9 vh0 vi1 vi2 vg3 vd4 T23.heap n0 Zn A_b9 o9) hZ (hw _ (List.mem_of_getElem? (i := 4) rfl)) (hw _ (List.mem_of_getElem? (i := 3) rfl)) (by decide) (by decide)) (g := (mkF m 108 #[.val (.long l1), .second, .val (.long l2), .second, .val (.int p1), .val (.int p2), .val (.int p3), .val (.ref b9), .unset, .unset, .unset, .unset, .unset] [(.int (1 : Int32)), (.int (0 : Int32)), (.ref b9)])) rfl (by rw [hml]; rfl) (argsL := [(.ref b9), (.int (0 : Int32)), (.int (1 : Int32))]) (rest := []) (lenOf pd__28_5bIII_29V rfl) rfl (by show 2 * 0 + _ ≤ _; exact Nat.le_of_eq rfl) (hb hby at_108) (fun _ _ => ⟨rfl, rfl, (by decide : 1 + 0 ≤ _), (by decide : 5 + 0 ≤ _)⟩)
  dsimp only [Pt.U, Pt.locs, Pt.cells, Pt.slots] at X24 l24 y24 z24 st24 hQ24
  subst l24 y24 z24
  obtain ⟨rfl, N24q, Kc, A_b9⟩ := hQ24
  have N := Fr.app N N24q
  have Zn : n0 ≤ _ := Nat.le_trans Zn Kc.1
  have K := K.trans Kc (allS (Or.inr z9) all0)
  refine own_by (S' := (T24.setTop (mkF m 111 #[.val (.long l1), .second, .val (.long l2), .second, .val (.int p1), .val (.int p2), .val (.int p3), .val (.ref b9), .unset, .unset, .unset, .unset, .unset] []))) st24 ?_
  obtain ⟨vj0, q_vj0⟩ : ∃ z, z = own_lo vh0 vi1 := ⟨_, rfl⟩
  obtain ⟨vj1, q_vj1⟩ : ∃ z, z = own_hi vh0 vi1 := ⟨_, rfl⟩
  rw [← q_vj0, ← q_vj1] at A_b9
  have hs := own_sorted (own_net q_va0 q_va1 q_vb1 q_vb2 q_vc2 q_vc3 q_vd3 q_vd4 q_ve0 q_ve1 q_vf1 q_vf2 q_vg2 q_vg3 q_vh0 q_vh1 q_vi1 q_vi2 q_vj0 q_vj1)
  refine own_by (S' := (T24.setTop (mkF m 113 #[.val (.long l1), .second, .val (.long l2), .second, .val (.int p1), .val (.int p2), .val (.int p3), .val (.ref b9), .unset, .unset, .unset, .unset, .unset] [(.int p2)]))) (fun _ k => XS.iload X24.here hx rfl (hb hby at_111) rfl k) ?_
  refine own_by (S' := (T24.setTop (mkF m 115 #[.val (.long l1), .second, .val (.long l2), .second, .val (.int p1), .val (.int p2), .val (.int p3), .val (.ref b9), .unset, .unset, .unset, .unset, .unset] [(.int (7 : Int32)), (.int p2)]))) (fun _ k => XS.bipush X24.here hx rfl (hb hby at_113) k) ?_
  refine own_by (S' := (T24.setTop (mkF m 116 #[.val (.long l1), .second, .val (.long l2), .second, .val (.int p1), .val (.int p2), .val (.int p3), .val (.ref b9), .unset, .unset, .unset, .unset, .unset] [(.int (p2 &&& (7 : Int32)))]))) (fun _ k => XS.iand X24.here hx rfl (hb hby at_115) rfl k) ?_
  refine own_by (S' := (T24.setTop (mkF m 118 #[.val (.long l1), .second, .val (.long l2), .second, .val (.int p1), .val (.int p2), .val (.int p3), .val (.ref b9), .unset, .unset, .unset, .unset, .unset] [(.int (6 : Int32)), (.int (p2 &&& (7 : Int32)))]))) (fun _ k => XS.bipush X24.here hx rfl (hb hby at_116) k) ?_
  refine own_by (S' := (T24.setTop (mkF m 119 #[.val (.long l1), .second, .val (.long l2), .second, .val (.int p1), .val (.int p2), .val (.int p3), .val (.ref b9), .unset, .unset, .unset, .unset, .unset] [(.int ((p2 &&& (7 : Int32)) % (6 : Int32)))]))) (fun _ k => iremM X24 hx rfl (hb hby at_118) rfl (by decide) k) ?_
  refine own_by (S' := (T24.setTop (mkF m 121 #[.val (.long l1), .second, .val (.long l2), .second, .val (.int p1), .val (.int p2), .val (.int p3), .val (.ref b9), .val (.int ((p2 &&& (7 : Int32)) % (6 : Int32))), .unset, .unset, .unset, .unset] []))) (fun _ k => XS.istore X24.here hx rfl (hb hby at_119) rfl (l' := #[.val (.long l1), .second, .val (.long l2), .second, .val (.int p1), .val (.int p2), .val (.int p3), .val (.ref b9), .val (.int ((p2 &&& (7 : Int32)) % (6 : Int32))), .unset, .unset, .unset, .unset]) rfl k) ?_
  obtain ⟨f, hf, ef⟩ := own_from p2
  rw [ef]
  refine own_by (S' := (T24.setTop (mkF m 123 #[.val (.long l1), .second, .val (.long l2), .second, .val (.int p1), .val (.int p2), .val (.int p3), .val (.ref b9), .val (.int (Int32.ofNat f)), .unset, .unset, .unset, .unset] [(.int (Int32.ofNat f))]))) (fun _ k => XS.iload X24.here hx rfl (hb hby at_121) rfl k) ?_
  refine own_by (S' := (T24.setTop (mkF m 125 #[.val (.long l1), .second, .val (.long l2), .second, .val (.int p1), .val (.int p2), .val (.int p3), .val (.ref b9), .val (.int (Int32.ofNat f)), .unset, .unset, .unset, .unset] [(.int p2), (.int (Int32.ofNat f))]))) (fun _ k => XS.iload X24.here hx rfl (hb hby at_123) rfl k) ?_
  refine own_by (S' := (T24.setTop (mkF m 126 #[.val (.long l1), .second, .val (.long l2), .second, .val (.int p1), .val (.int p2), .val (.int p3), .val (.ref b9), .val (.int (Int32.ofNat f)), .unset, .unset, .unset, .unset] [(.int (3 : Int32)), (.int p2), (.int (Int32.ofNat f))]))) (fun _ k => XS.iconst X24.here hx rfl (hb hby at_125) k) ?_
  refine own_by (S' := (T24.setTop (mkF m 127 #[.val (.long l1), .second, .val (.long l2), .second, .val (.int p1), .val (.int p2), .val (.int p3), .val (.ref b9), .val (.int (Int32.ofNat f)), .unset, .unset, .unset, .unset] [(.int ((p2.toUInt32 >>> ((3 : Int32) &&& 31).toUInt32).toInt32)), (.int (Int32.ofNat f))]))) (fun _ k => XS.iushr X24.here hx rfl (hb hby at_126) rfl k) ?_
  refine own_by (S' := (T24.setTop (mkF m 129 #[.val (.long l1), .second, .val (.long l2), .second, .val (.int p1), .val (.int p2), .val (.int p3), .val (.ref b9), .val (.int (Int32.ofNat f)), .unset, .unset, .unset, .unset] [(.int (7 : Int32)), (.int ((p2.toUInt32 >>> ((3 : Int32) &&& 31).toUInt32).toInt32)), (.int (Int32.ofNat f))]))) (fun _ k => XS.bipush X24.here hx rfl (hb hby at_127) k) ?_
  refine own_by (S' := (T24.setTop (mkF m 130 #[.val (.long l1), .second, .val (.long l2), .second, .val (.int p1), .val (.int p2), .val (.int p3), .val (.ref b9), .val (.int (Int32.ofNat f)), .unset, .unset, .unset, .unset] [(.int (((p2.toUInt32 >>> ((3 : Int32) &&& 31).toUInt32).toInt32) &&& (7 : Int32))), (.int (Int32.ofNat f))]))) (fun _ k => XS.iand X24.here hx rfl (hb hby at_129) rfl k) ?_
  refine own_by (S' := (T24.setTop (mkF m 132 #[.val (.long l1), .second, .val (.long l2), .second, .val (.int p1), .val (.int p2), .val (.int p3), .val (.ref b9), .val (.int (Int32.ofNat f)), .unset, .unset, .unset, .unset] [(.int (6 : Int32)), (.int (((p2.toUInt32 >>> ((3 : Int32) &&& 31).toUInt32).toInt32) &&& (7 : Int32))), (.int (Int32.ofNat f))]))) (fun _ k => XS.bipush X24.here hx rfl (hb hby at_130) k) ?_
  refine own_by (S' := (T24.setTop (mkF m 134 #[.val (.long l1), .second, .val (.long l2), .second, .val (.int p1), .val (.int p2), .val (.int p3), .val (.ref b9), .val (.int (Int32.ofNat f)), .unset, .unset, .unset, .unset] [(.int (Int32.ofNat f)), (.int (6 : Int32)), (.int (((p2.toUInt32 >>> ((3 : Int32) &&& 31).toUInt32).toInt32) &&& (7 : Int32))), (.int (Int32.ofNat f))]))) (fun _ k => XS.iload X24.here hx rfl (hb hby at_132) rfl k) ?_
  refine own_by (S' := (T24.setTop (mkF m 135 #[.val (.long l1), .second, .val (.long l2), .second, .val (.int p1), .val (.int p2), .val (.int p3), .val (.ref b9), .val (.int (Int32.ofNat f)), .unset, .unset, .unset, .unset] [(.int ((6 : Int32) - (Int32.ofNat f))), (.int (((p2.toUInt32 >>> ((3 : Int32) &&& 31).toUInt32).toInt32) &&& (7 : Int32))), (.int (Int32.ofNat f))]))) (fun _ k => XS.isub X24.here hx rfl (hb hby at_134) rfl k) ?_
  obtain ⟨hnz, t, hft, ht, et⟩ := own_to ((p2.toUInt32 >>> ((3 : Int32) &&& 31).toUInt32).toInt32) hf
  refine own_by (S' := (T24.setTop (mkF m 136 #[.val (.long l1), .second, .val (.long l2), .second, .val (.int p1), .val (.int p2), .val (.int p3), .val (.ref b9), .val (.int (Int32.ofNat f)), .unset, .unset, .unset, .unset] [(.int ((((p2.toUInt32 >>> ((3 : Int32) &&& 31).toUInt32).toInt32) &&& (7 : Int32)) % ((6 : Int32) - (Int32.ofNat f)))), (.int (Int32.ofNat f))]))) (fun _ k => iremM X24 hx rfl (hb hby at_135) rfl hnz k) ?_
  refine own_by (S' := (T24.setTop (mkF m 137 #[.val (.long l1), .second, .val (.long l2), .second, .val (.int p1), .val (.int p2), .val (.int p3), .val (.ref b9), .val (.int (Int32.ofNat f)), .unset, .unset, .unset, .unset] [(.int ((Int32.ofNat f) + ((((p2.toUInt32 >>> ((3 : Int32) &&& 31).toUInt32).toInt32) &&& (7 : Int32)) % ((6 : Int32) - (Int32.ofNat f)))))]))) (fun _ k => XS.iadd X24.here hx rfl (hb hby at_136) rfl k) ?_
  rw [et]
  refine own_by (S' := (T24.setTop (mkF m 139 #[.val (.long l1), .second, .val (.long l2), .second, .val (.int p1), .val (.int p2), .val (.int p3), .val (.ref b9), .val (.int (Int32.ofNat f)), .val (.int (Int32.ofNat t)), .unset, .unset, .unset] []))) (fun _ k => XS.istore X24.here hx rfl (hb hby at_137) rfl (l' := #[.val (.long l1), .second, .val (.long l2), .second, .val (.int p1), .val (.int p2), .val (.int p3), .val (.ref b9), .val (.int (Int32.ofNat f)), .val (.int (Int32.ofNat t)), .unset, .unset, .unset]) rfl k) ?_
  refine own_by (S' := (T24.setTop (mkF m 141 #[.val (.long l1), .second, .val (.long l2), .second, .val (.int p1), .val (.int p2), .val (.int p3), .val (.ref b9), .val (.int (Int32.ofNat f)), .val (.int (Int32.ofNat t)), .unset, .unset, .unset] [(.int p3)]))) (fun _ k => XS.iload X24.here hx rfl (hb hby at_139) rfl k) ?_
  refine own_by (S' := (T24.setTop (mkF m 143 #[.val (.long l1), .second, .val (.long l2), .second, .val (.int p1), .val (.int p2), .val (.int p3), .val (.ref b9), .val (.int (Int32.ofNat f)), .val (.int (Int32.ofNat t)), .val (.int p3), .unset, .unset] []))) (fun _ k => XS.istore X24.here hx rfl (hb hby at_141) rfl (l' := #[.val (.long l1), .second, .val (.long l2), .second, .val (.int p1), .val (.int p2), .val (.int p3), .val (.ref b9), .val (.int (Int32.ofNat f)), .val (.int (Int32.ofNat t)), .val (.int p3), .unset, .unset]) rfl k) ?_
  refine own_by (S' := (T24.setTop (mkF m 145 #[.val (.long l1), .second, .val (.long l2), .second, .val (.int p1), .val (.int p2), .val (.int p3), .val (.ref b9), .val (.int (Int32.ofNat f)), .val (.int (Int32.ofNat t)), .val (.int p3), .unset, .unset] [(.int p2)]))) (fun _ k => XS.iload X24.here hx rfl (hb hby at_143) rfl k) ?_
  refine own_by (S' := (T24.setTop (mkF m 147 #[.val (.long l1), .second, .val (.long l2), .second, .val (.int p1), .val (.int p2), .val (.int p3), .val (.ref b9), .val (.int (Int32.ofNat f)), .val (.int (Int32.ofNat t)), .val (.int p3), .unset, .unset] [(.int (6 : Int32)), (.int p2)]))) (fun _ k => XS.bipush X24.here hx rfl (hb hby at_145) k) ?_
  refine own_by (S' := (T24.setTop (mkF m 148 #[.val (.long l1), .second, .val (.long l2), .second, .val (.int p1), .val (.int p2), .val (.int p3), .val (.ref b9), .val (.int (Int32.ofNat f)), .val (.int (Int32.ofNat t)), .val (.int p3), .unset, .unset] [(.int ((p2.toUInt32 >>> ((6 : Int32) &&& 31).toUInt32).toInt32))]))) (fun _ k => XS.iushr X24.here hx rfl (hb hby at_147) rfl k) ?_
  refine own_by (S' := (T24.setTop (mkF m 149 #[.val (.long l1), .second, .val (.long l2), .second, .val (.int p1), .val (.int p2), .val (.int p3), .val (.ref b9), .val (.int (Int32.ofNat f)), .val (.int (Int32.ofNat t)), .val (.int p3), .unset, .unset] [(.int (1 : Int32)), (.int ((p2.toUInt32 >>> ((6 : Int32) &&& 31).toUInt32).toInt32))]))) (fun _ k => XS.iconst X24.here hx rfl (hb hby at_148) k) ?_
  refine own_by (S' := (T24.setTop (mkF m 150 #[.val (.long l1), .second, .val (.long l2), .second, .val (.int p1), .val (.int p2), .val (.int p3), .val (.ref b9), .val (.int (Int32.ofNat f)), .val (.int (Int32.ofNat t)), .val (.int p3), .unset, .unset] [(.int (((p2.toUInt32 >>> ((6 : Int32) &&& 31).toUInt32).toInt32) &&& (1 : Int32)))]))) (fun _ k => XS.iand X24.here hx rfl (hb hby at_149) rfl k) ?_
  suffices J25 : ∀ (val : Int32), own_fin p e below s room_1.cells room_1.slots (Q_rm0 Z l1 l2 p1 p2 p3 h0 n0) (T24.setTop (mkF m 178 #[.val (.long l1), .second, .val (.long l2), .second, .val (.int p1), .val (.int p2), .val (.int p3), .val (.ref b9), .val (.int (Int32.ofNat f)), .val (.int (Int32.ofNat t)), .val (.int val), .unset, .unset] [])) by
    by_cases hc26 : (((p2.toUInt32 >>> ((6 : Int32) &&& 31).toUInt32).toInt32) &&& (1 : Int32)) = (0 : Int32)
    · refine own_by (S' := (T24.setTop (mkF m 178 #[.val (.long l1), .second, .val (.long l2), .second, .val (.int p1), .val (.int p2), .val (.int p3), .val (.ref b9), .val (.int (Int32.ofNat f)), .val (.int (Int32.ofNat t)), .val (.int p3), .unset, .unset] []))) (fun _ k => XS.ifYes X24.here hx rfl (pc0 := 150) (pc' := 178) rfl (hb hby at_150) rfl ((if0 _ _).trans (teq (hc26 : (((p2.toUInt32 >>> ((6 : Int32) &&& 31).toUInt32).toInt32) &&& (1 : Int32)) = (0 : Int32))).1) (by decide) (by decide) k) ?_
      exact J25 p3
    · refine own_by (S' := (T24.setTop (mkF m 153 #[.val (.long l1), .second, .val (.long l2), .second, .val (.int p1), .val (.int p2), .val (.int p3), .val (.ref b9), .val (.int (Int32.ofNat f)), .val (.int (Int32.ofNat t)), .val (.int p3), .unset, .unset] []))) (fun _ k => XS.ifNo X24.here hx rfl (hb hby at_150) rfl ((if0 _ _).trans (feq (hc26 : ¬ ((((p2.toUInt32 >>> ((6 : Int32) &&& 31).toUInt32).toInt32) &&& (1 : Int32)) = (0 : Int32)))).1) k) ?_
      refine own_by (S' := (T24.setTop (mkF m 155 #[.val (.long l1), .second, .val (.long l2), .second, .val (.int p1), .val (.int p2), .val (.int p3), .val (.ref b9), .val (.int (Int32.ofNat f)), .val (.int (Int32.ofNat t)), .val (.int p3), .unset, .unset] [(.ref b9)]))) (fun _ k => XS.aload X24.here hx rfl (hb hby at_153) rfl rfl k) ?_
      refine own_by (S' := (T24.setTop (mkF m 157 #[.val (.long l1), .second, .val (.long l2), .second, .val (.int p1), .val (.int p2), .val (.int p3), .val (.ref b9), .val (.int (Int32.ofNat f)), .val (.int (Int32.ofNat t)), .val (.int p3), .unset, .unset] [(.int p2), (.ref b9)]))) (fun _ k => XS.iload X24.here hx rfl (hb hby at_155) rfl k) ?_
      refine own_by (S' := (T24.setTop (mkF m 159 #[.val (.long l1), .second, .val (.long l2), .second, .val (.int p1), .val (.int p2), .val (.int p3), .val (.ref b9), .val (.int (Int32.ofNat f)), .val (.int (Int32.ofNat t)), .val (.int p3), .unset, .unset] [(.int (7 : Int32)), (.int p2), (.ref b9)]))) (fun _ k => XS.bipush X24.here hx rfl (hb hby at_157) k) ?_
      refine own_by (S' := (T24.setTop (mkF m 160 #[.val (.long l1), .second, .val (.long l2), .second, .val (.int p1), .val (.int p2), .val (.int p3), .val (.ref b9), .val (.int (Int32.ofNat f)), .val (.int (Int32.ofNat t)), .val (.int p3), .unset, .unset] [(.int ((p2.toUInt32 >>> ((7 : Int32) &&& 31).toUInt32).toInt32)), (.ref b9)]))) (fun _ k => XS.iushr X24.here hx rfl (hb hby at_159) rfl k) ?_
      refine own_by (S' := (T24.setTop (mkF m 162 #[.val (.long l1), .second, .val (.long l2), .second, .val (.int p1), .val (.int p2), .val (.int p3), .val (.ref b9), .val (.int (Int32.ofNat f)), .val (.int (Int32.ofNat t)), .val (.int p3), .unset, .unset] [(.int (7 : Int32)), (.int ((p2.toUInt32 >>> ((7 : Int32) &&& 31).toUInt32).toInt32)), (.ref b9)]))) (fun _ k => XS.bipush X24.here hx rfl (hb hby at_160) k) ?_
      refine own_by (S' := (T24.setTop (mkF m 163 #[.val (.long l1), .second, .val (.long l2), .second, .val (.int p1), .val (.int p2), .val (.int p3), .val (.ref b9), .val (.int (Int32.ofNat f)), .val (.int (Int32.ofNat t)), .val (.int p3), .unset, .unset] [(.int (((p2.toUInt32 >>> ((7 : Int32) &&& 31).toUInt32).toInt32) &&& (7 : Int32))), (.ref b9)]))) (fun _ k => XS.iand X24.here hx rfl (hb hby at_162) rfl k) ?_
      refine own_by (S' := (T24.setTop (mkF m 164 #[.val (.long l1), .second, .val (.long l2), .second, .val (.int p1), .val (.int p2), .val (.int p3), .val (.ref b9), .val (.int (Int32.ofNat f)), .val (.int (Int32.ofNat t)), .val (.int p3), .unset, .unset] [(.int (5 : Int32)), (.int (((p2.toUInt32 >>> ((7 : Int32) &&& 31).toUInt32).toInt32) &&& (7 : Int32))), (.ref b9)]))) (fun _ k => XS.iconst X24.here hx rfl (hb hby at_163) k) ?_
      refine own_by (S' := (T24.setTop (mkF m 165 #[.val (.long l1), .second, .val (.long l2), .second, .val (.int p1), .val (.int p2), .val (.int p3), .val (.ref b9), .val (.int (Int32.ofNat f)), .val (.int (Int32.ofNat t)), .val (.int p3), .unset, .unset] [(.int ((((p2.toUInt32 >>> ((7 : Int32) &&& 31).toUInt32).toInt32) &&& (7 : Int32)) % (5 : Int32))), (.ref b9)]))) (fun _ k => iremM X24 hx rfl (hb hby at_164) rfl (by decide) k) ?_
      obtain ⟨hjn, z, hz⟩ := own_idx5 ((p2.toUInt32 >>> ((7 : Int32) &&& 31).toUInt32).toInt32) vj0 vj1 vi2 vg3 vd4
      refine own_by (S' := (T24.setTop (mkF m 166 #[.val (.long l1), .second, .val (.long l2), .second, .val (.int p1), .val (.int p2), .val (.int p3), .val (.ref b9), .val (.int (Int32.ofNat f)), .val (.int (Int32.ofNat t)), .val (.int p3), .unset, .unset] [(.int z)]))) (fun _ k => own_iaload X24 hx hZ rfl A_b9 hjn (v := (.int z)) hz (g := (mkF m 165 #[.val (.long l1), .second, .val (.long l2), .second, .val (.int p1), .val (.int p2), .val (.int p3), .val (.ref b9), .val (.int (Int32.ofNat f)), .val (.int (Int32.ofNat t)), .val (.int p3), .unset, .unset] [(.int ((((p2.toUInt32 >>> ((7 : Int32) &&& 31).toUInt32).toInt32) &&& (7 : Int32)) % (5 : Int32))), (.ref b9)])) rfl rfl (hb hby at_165) _ k) ?_
      refine own_by (S' := (T24.setTop (mkF m 168 #[.val (.long l1), .second, .val (.long l2), .second, .val (.int p1), .val (.int p2), .val (.int p3), .val (.ref b9), .val (.int (Int32.ofNat f)), .val (.int (Int32.ofNat t)), .val (.int p3), .unset, .unset] [(.int p2), (.int z)]))) (fun _ k => XS.iload X24.here hx rfl (hb hby at_166) rfl k) ?_
      refine own_by (S' := (T24.setTop (mkF m 170 #[.val (.long l1), .second, .val (.long l2), .second, .val (.int p1), .val (.int p2), .val (.int p3), .val (.ref b9), .val (.int (Int32.ofNat f)), .val (.int (Int32.ofNat t)), .val (.int p3), .unset, .unset] [(.int (10 : Int32)), (.int p2), (.int z)]))) (fun _ k => XS.bipush X24.here hx rfl (hb hby at_168) k) ?_
      refine own_by (S' := (T24.setTop (mkF m 171 #[.val (.long l1), .second, .val (.long l2), .second, .val (.int p1), .val (.int p2), .val (.int p3), .val (.ref b9), .val (.int (Int32.ofNat f)), .val (.int (Int32.ofNat t)), .val (.int p3), .unset, .unset] [(.int ((p2.toUInt32 >>> ((10 : Int32) &&& 31).toUInt32).toInt32)), (.int z)]))) (fun _ k => XS.iushr X24.here hx rfl (hb hby at_170) rfl k) ?_
      refine own_by (S' := (T24.setTop (mkF m 172 #[.val (.long l1), .second, .val (.long l2), .second, .val (.int p1), .val (.int p2), .val (.int p3), .val (.ref b9), .val (.int (Int32.ofNat f)), .val (.int (Int32.ofNat t)), .val (.int p3), .unset, .unset] [(.int (3 : Int32)), (.int ((p2.toUInt32 >>> ((10 : Int32) &&& 31).toUInt32).toInt32)), (.int z)]))) (fun _ k => XS.iconst X24.here hx rfl (hb hby at_171) k) ?_
      refine own_by (S' := (T24.setTop (mkF m 173 #[.val (.long l1), .second, .val (.long l2), .second, .val (.int p1), .val (.int p2), .val (.int p3), .val (.ref b9), .val (.int (Int32.ofNat f)), .val (.int (Int32.ofNat t)), .val (.int p3), .unset, .unset] [(.int (((p2.toUInt32 >>> ((10 : Int32) &&& 31).toUInt32).toInt32) &&& (3 : Int32))), (.int z)]))) (fun _ k => XS.iand X24.here hx rfl (hb hby at_172) rfl k) ?_
      refine own_by (S' := (T24.setTop (mkF m 174 #[.val (.long l1), .second, .val (.long l2), .second, .val (.int p1), .val (.int p2), .val (.int p3), .val (.ref b9), .val (.int (Int32.ofNat f)), .val (.int (Int32.ofNat t)), .val (.int p3), .unset, .unset] [(.int (z + (((p2.toUInt32 >>> ((10 : Int32) &&& 31).toUInt32).toInt32) &&& (3 : Int32))))]))) (fun _ k => XS.iadd X24.here hx rfl (hb hby at_173) rfl k) ?_
      refine own_by (S' := (T24.setTop (mkF m 175 #[.val (.long l1), .second, .val (.long l2), .second, .val (.int p1), .val (.int p2), .val (.int p3), .val (.ref b9), .val (.int (Int32.ofNat f)), .val (.int (Int32.ofNat t)), .val (.int p3), .unset, .unset] [(.int (1 : Int32)), (.int (z + (((p2.toUInt32 >>> ((10 : Int32) &&& 31).toUInt32).toInt32) &&& (3 : Int32))))]))) (fun _ k => XS.iconst X24.here hx rfl (hb hby at_174) k) ?_
      refine own_by (S' := (T24.setTop (mkF m 176 #[.val (.long l1), .second, .val (.long l2), .second, .val (.int p1), .val (.int p2), .val (.int p3), .val (.ref b9), .val (.int (Int32.ofNat f)), .val (.int (Int32.ofNat t)), .val (.int p3), .unset, .unset] [(.int ((z + (((p2.toUInt32 >>> ((10 : Int32) &&& 31).toUInt32).toInt32) &&& (3 : Int32))) - (1 : Int32)))]))) (fun _ k => XS.isub X24.here hx rfl (hb hby at_175) rfl k) ?_
      refine own_by (S' := (T24.setTop (mkF m 178 #[.val (.long l1), .second, .val (.long l2), .second, .val (.int p1), .val (.int p2), .val (.int p3), .val (.ref b9), .val (.int (Int32.ofNat f)), .val (.int (Int32.ofNat t)), .val (.int ((z + (((p2.toUInt32 >>> ((10 : Int32) &&& 31).toUInt32).toInt32) &&& (3 : Int32))) - (1 : Int32))), .unset, .unset] []))) (fun _ k => XS.istore X24.here hx rfl (hb hby at_176) rfl (l' := #[.val (.long l1), .second, .val (.long l2), .second, .val (.int p1), .val (.int p2), .val (.int p3), .val (.ref b9), .val (.int (Int32.ofNat f)), .val (.int (Int32.ofNat t)), .val (.int ((z + (((p2.toUInt32 >>> ((10 : Int32) &&& 31).toUInt32).toInt32) &&& (3 : Int32))) - (1 : Int32))), .unset, .unset]) rfl k) ?_
      exact J25 ((z + (((p2.toUInt32 >>> ((10 : Int32) &&& 31).toUInt32).toInt32) &&& (3 : Int32))) - (1 : Int32))
  intro val
  refine own_by (S' := (T24.setTop (mkF m 180 #[.val (.long l1), .second, .val (.long l2), .second, .val (.int p1), .val (.int p2), .val (.int p3), .val (.ref b9), .val (.int (Int32.ofNat f)), .val (.int (Int32.ofNat t)), .val (.int val), .unset, .unset] [(.ref b9)]))) (fun _ k => XS.aload X24.here hx rfl (hb hby at_178) rfl rfl k) ?_
  refine own_by (S' := (T24.setTop (mkF m 182 #[.val (.long l1), .second, .val (.long l2), .second, .val (.int p1), .val (.int p2), .val (.int p3), .val (.ref b9), .val (.int (Int32.ofNat f)), .val (.int (Int32.ofNat t)), .val (.int val), .unset, .unset] [(.int (Int32.ofNat f)), (.ref b9)]))) (fun _ k => XS.iload X24.here hx rfl (hb hby at_180) rfl k) ?_
  refine own_by (S' := (T24.setTop (mkF m 184 #[.val (.long l1), .second, .val (.long l2), .second, .val (.int p1), .val (.int p2), .val (.int p3), .val (.ref b9), .val (.int (Int32.ofNat f)), .val (.int (Int32.ofNat t)), .val (.int val), .unset, .unset] [(.int (Int32.ofNat t)), (.int (Int32.ofNat f)), (.ref b9)]))) (fun _ k => XS.iload X24.here hx rfl (hb hby at_182) rfl k) ?_
  refine own_by (S' := (T24.setTop (mkF m 186 #[.val (.long l1), .second, .val (.long l2), .second, .val (.int p1), .val (.int p2), .val (.int p3), .val (.ref b9), .val (.int (Int32.ofNat f)), .val (.int (Int32.ofNat t)), .val (.int val), .unset, .unset] [(.int val), (.int (Int32.ofNat t)), (.int (Int32.ofNat f)), (.ref b9)]))) (fun _ k => XS.iload X24.here hx rfl (hb hby at_184) rfl k) ?_
  obtain ⟨_, _, ⟨T27, L27, k27, n27⟩, -, X27, ⟨Lc27, hQ27, l27, y27, z27⟩, st27⟩ := Jvm.LawKit.callS X24 hx (y := (⟨"com/example/libstrata/libstrata/layout/LayerEnds", "firstAbove", "([IIII)I"⟩ : MethodName)) hown (mvT hZ (hw _ (List.mem_of_getElem? (i := 5) rfl))) (mvT hZ (hw _ (List.mem_of_getElem? (i := 6) rfl))) (mvT hZ (hw _ (List.mem_of_getElem? (i := 7) rfl))) (mvT hZ (hw _ (List.mem_of_getElem? (i := 8) rfl))) (by decide) (backOf (W := 0) (rm2 l Z a0 hw [] b9 [vj0, vj1, vi2, vg3, vd4] f t val T24.heap n0 Zn A_b9 hft ht (Nat.le_refl _) hs) hZ (hw _ (List.mem_of_getElem? (i := 8) rfl)) (hw _ (List.mem_of_getElem? (i := 7) rfl)) (by decide) (by decide)) (g := (mkF m 186 #[.val (.long l1), .second, .val (.long l2), .second, .val (.int p1), .val (.int p2), .val (.int p3), .val (.ref b9), .val (.int (Int32.ofNat f)), .val (.int (Int32.ofNat t)), .val (.int val), .unset, .unset] [(.int val), (.int (Int32.ofNat t)), (.int (Int32.ofNat f)), (.ref b9)])) rfl (by rw [hml]; rfl) (argsL := [(.ref b9), (.int (Int32.ofNat f)), (.int (Int32.ofNat t)), (.int val)]) (rest := []) (lenOf pd__28_5bIIII_29I rfl) rfl (by show 2 * 0 + _ ≤ _; exact Nat.le_of_eq rfl) (hb hby at_186) (fun _ _ => ⟨rfl, rfl, (by decide : 1 + 0 ≤ _), (by decide : 5 + 0 ≤ _)⟩)
  dsimp only [Pt.U, Pt.locs, Pt.cells, Pt.slots] at X27 l27 y27 z27 st27 hQ27
  subst l27 y27 z27
  obtain ⟨r, rfl, N27q, eh0, hr1, hr2, hr3, hr4⟩ := hQ27
  have N := Fr.app N N27q
  refine own_by (S' := (T27.setTop (mkF m 189 #[.val (.long l1), .second, .val (.long l2), .second, .val (.int p1), .val (.int p2), .val (.int p3), .val (.ref b9), .val (.int (Int32.ofNat f)), .val (.int (Int32.ofNat t)), .val (.int val), .unset, .unset] [(.int (Int32.ofNat r))]))) st27 ?_
  refine own_by (S' := (T27.setTop (mkF m 191 #[.val (.long l1), .second, .val (.long l2), .second, .val (.int p1), .val (.int p2), .val (.int p3), .val (.ref b9), .val (.int (Int32.ofNat f)), .val (.int (Int32.ofNat t)), .val (.int val), .val (.int (Int32.ofNat r)), .unset] []))) (fun _ k => XS.istore X27.here hx rfl (hb hby at_189) rfl (l' := #[.val (.long l1), .second, .val (.long l2), .second, .val (.int p1), .val (.int p2), .val (.int p3), .val (.ref b9), .val (.int (Int32.ofNat f)), .val (.int (Int32.ofNat t)), .val (.int val), .val (.int (Int32.ofNat r)), .unset]) rfl k) ?_
  refine own_by (S' := (T27.setTop (mkF m 193 #[.val (.long l1), .second, .val (.long l2), .second, .val (.int p1), .val (.int p2), .val (.int p3), .val (.ref b9), .val (.int (Int32.ofNat f)), .val (.int (Int32.ofNat t)), .val (.int val), .val (.int (Int32.ofNat r)), .unset] [(.int (Int32.ofNat f))]))) (fun _ k => XS.iload X27.here hx rfl (hb hby at_191) rfl k) ?_
  refine own_by (S' := (T27.setTop (mkF m 195 #[.val (.long l1), .second, .val (.long l2), .second, .val (.int p1), .val (.int p2), .val (.int p3), .val (.ref b9), .val (.int (Int32.ofNat f)), .val (.int (Int32.ofNat t)), .val (.int val), .val (.int (Int32.ofNat r)), .unset] [(.ref b9), (.int (Int32.ofNat f))]))) (fun _ k => XS.aload X27.here hx rfl (hb hby at_193) rfl rfl k) ?_
  refine own_by (S' := (T27.setTop (mkF m 196 #[.val (.long l1), .second, .val (.long l2), .second, .val (.int p1), .val (.int p2), .val (.int p3), .val (.ref b9), .val (.int (Int32.ofNat f)), .val (.int (Int32.ofNat t)), .val (.int val), .val (.int (Int32.ofNat r)), .unset] [(.int (0 : Int32)), (.ref b9), (.int (Int32.ofNat f))]))) (fun _ k => XS.iconst X27.here hx rfl (hb hby at_195) k) ?_
  refine own_by (S' := (T27.setTop (mkF m 198 #[.val (.long l1), .second, .val (.long l2), .second, .val (.int p1), .val (.int p2), .val (.int p3), .val (.ref b9), .val (.int (Int32.ofNat f)), .val (.int (Int32.ofNat t)), .val (.int val), .val (.int (Int32.ofNat r)), .unset] [(.int (Int32.ofNat f)), (.int (0 : Int32)), (.ref b9), (.int (Int32.ofNat f))]))) (fun _ k => XS.iload X27.here hx rfl (hb hby at_196) rfl k) ?_
  refine own_by (S' := (T27.setTop (mkF m 200 #[.val (.long l1), .second, .val (.long l2), .second, .val (.int p1), .val (.int p2), .val (.int p3), .val (.ref b9), .val (.int (Int32.ofNat f)), .val (.int (Int32.ofNat t)), .val (.int val), .val (.int (Int32.ofNat r)), .unset] [(.int (Int32.ofNat t)), (.int (Int32.ofNat f)), (.int (0 : Int32)), (.ref b9), (.int (Int32.ofNat f))]))) (fun _ k => XS.iload X27.here hx rfl (hb hby at_198) rfl k) ?_
  refine own_by (S' := (T27.setTop (mkF m 202 #[.val (.long l1), .second, .val (.long l2), .second, .val (.int p1), .val (.int p2), .val (.int p3), .val (.ref b9), .val (.int (Int32.ofNat f)), .val (.int (Int32.ofNat t)), .val (.int val), .val (.int (Int32.ofNat r)), .unset] [(.int val), (.int (Int32.ofNat t)), (.int (Int32.ofNat f)), (.int (0 : Int32)), (.ref b9), (.int (Int32.ofNat f))]))) (fun _ k => XS.iload X27.here hx rfl (hb hby at_200) rfl k) ?_
  obtain ⟨_, _, ⟨T28, L28, k28, n28⟩, -, X28, ⟨Lc28, hQ28, l28, y28, z28⟩, st28⟩ := Jvm.LawKit.callS X27 hx (y := (⟨"com/example/libstrata/libstrata/layout/LayerEndsFirstAbovePinLaw", "le", "([IIIII)I"⟩ : MethodName)) hown (mvT hZ (hw _ (List.mem_of_getElem? (i := 9) rfl))) (mvT hZ (hw _ (List.mem_of_getElem? (i := 10) rfl))) (mvT hZ (hw _ (List.mem_of_getElem? (i := 3) rfl))) (mvT hZ (hw _ (List.mem_of_getElem? (i := 11) rfl))) (by decide) (backOf (W := 1) (rm3_0 l Z a0 hw [] b9 vj0 vj1 vi2 vg3 vd4 (Int32.ofNat f) (Int32.ofNat t) val T24.heap n0 Zn A_b9) hZ (hw _ (List.mem_of_getElem? (i := 11) rfl)) (hw _ (List.mem_of_getElem? (i := 3) rfl)) (by decide) (by decide)) (g := (mkF m 202 #[.val (.long l1), .second, .val (.long l2), .second, .val (.int p1), .val (.int p2), .val (.int p3), .val (.ref b9), .val (.int (Int32.ofNat f)), .val (.int (Int32.ofNat t)), .val (.int val), .val (.int (Int32.ofNat r)), .unset] [(.int val), (.int (Int32.ofNat t)), (.int (Int32.ofNat f)), (.int (0 : Int32)), (.ref b9), (.int (Int32.ofNat f))])) rfl (by rw [hml]; rfl) (argsL := [(.ref b9), (.int (0 : Int32)), (.int (Int32.ofNat f)), (.int (Int32.ofNat t)), (.int val)]) (rest := [(.int (Int32.ofNat f))]) (lenOf pd__28_5bIIIII_29I rfl) rfl (by show 2 * 0 + _ ≤ _; exact Nat.le_of_eq rfl) (hb hby at_202) (fun _ _ => ⟨rfl, eh0, (by decide : 1 + 0 ≤ _), (by decide : 5 + 0 ≤ _)⟩)
  dsimp only [Pt.U, Pt.locs, Pt.cells, Pt.slots] at X28 l28 y28 z28 st28 hQ28
  subst l28 y28 z28
  obtain ⟨rfl, N28q, el0⟩ := hQ28
  have N := Fr.app N N28q
  refine own_by (S' := (T28.setTop (mkF m 205 #[.val (.long l1), .second, .val (.long l2), .second, .val (.int p1), .val (.int p2), .val (.int p3), .val (.ref b9), .val (.int (Int32.ofNat f)), .val (.int (Int32.ofNat t)), .val (.int val), .val (.int (Int32.ofNat r)), .unset] [(.int (own_le (0 : Int32) (Int32.ofNat f) (Int32.ofNat t) val vj0)), (.int (Int32.ofNat f))]))) st28 ?_
  refine own_by (S' := (T28.setTop (mkF m 206 #[.val (.long l1), .second, .val (.long l2), .second, .val (.int p1), .val (.int p2), .val (.int p3), .val (.ref b9), .val (.int (Int32.ofNat f)), .val (.int (Int32.ofNat t)), .val (.int val), .val (.int (Int32.ofNat r)), .unset] [(.int ((Int32.ofNat f) + (own_le (0 : Int32) (Int32.ofNat f) (Int32.ofNat t) val vj0)))]))) (fun _ k => XS.iadd X28.here hx rfl (hb hby at_205) rfl k) ?_
  refine own_by (S' := (T28.setTop (mkF m 208 #[.val (.long l1), .second, .val (.long l2), .second, .val (.int p1), .val (.int p2), .val (.int p3), .val (.ref b9), .val (.int (Int32.ofNat f)), .val (.int (Int32.ofNat t)), .val (.int val), .val (.int (Int32.ofNat r)), .unset] [(.ref b9), (.int ((Int32.ofNat f) + (own_le (0 : Int32) (Int32.ofNat f) (Int32.ofNat t) val vj0)))]))) (fun _ k => XS.aload X28.here hx rfl (hb hby at_206) rfl rfl k) ?_
  refine own_by (S' := (T28.setTop (mkF m 209 #[.val (.long l1), .second, .val (.long l2), .second, .val (.int p1), .val (.int p2), .val (.int p3), .val (.ref b9), .val (.int (Int32.ofNat f)), .val (.int (Int32.ofNat t)), .val (.int val), .val (.int (Int32.ofNat r)), .unset] [(.int (1 : Int32)), (.ref b9), (.int ((Int32.ofNat f) + (own_le (0 : Int32) (Int32.ofNat f) (Int32.ofNat t) val vj0)))]))) (fun _ k => XS.iconst X28.here hx rfl (hb hby at_208) k) ?_
  refine own_by (S' := (T28.setTop (mkF m 211 #[.val (.long l1), .second, .val (.long l2), .second, .val (.int p1), .val (.int p2), .val (.int p3), .val (.ref b9), .val (.int (Int32.ofNat f)), .val (.int (Int32.ofNat t)), .val (.int val), .val (.int (Int32.ofNat r)), .unset] [(.int (Int32.ofNat f)), (.int (1 : Int32)), (.ref b9), (.int ((Int32.ofNat f) + (own_le (0 : Int32) (Int32.ofNat f) (Int32.ofNat t) val vj0)))]))) (fun _ k => XS.iload X28.here hx rfl (hb hby at_209) rfl k) ?_
  refine own_by (S' := (T28.setTop (mkF m 213 #[.val (.long l1), .second, .val (.long l2), .second, .val (.int p1), .val (.int p2), .val (.int p3), .val (.ref b9), .val (.int (Int32.ofNat f)), .val (.int (Int32.ofNat t)), .val (.int val), .val (.int (Int32.ofNat r)), .unset] [(.int (Int32.ofNat t)), (.int (Int32.ofNat f)), (.int (1 : Int32)), (.ref b9), (.int ((Int32.ofNat f) + (own_le (0 : Int32) (Int32.ofNat f) (Int32.ofNat t) val vj0)))]))) (fun _ k => XS.iload X28.here hx rfl (hb hby at_211) rfl k) ?_
  refine own_by (S' := (T28.setTop (mkF m 215 #[.val (.long l1), .second, .val (.long l2), .second, .val (.int p1), .val (.int p2), .val (.int p3), .val (.ref b9), .val (.int (Int32.ofNat f)), .val (.int (Int32.ofNat t)), .val (.int val), .val (.int (Int32.ofNat r)), .unset] [(.int val), (.int (Int32.ofNat t)), (.int (Int32.ofNat f)), (.int (1 : Int32)), (.ref b9), (.int ((Int32.ofNat f) + (own_le (0 : Int32) (Int32.ofNat f) (Int32.ofNat t) val vj0)))]))) (fun _ k => XS.iload X28.here hx rfl (hb hby at_213) rfl k) ?_
  obtain ⟨_, _, ⟨T29, L29, k29, n29⟩, -, X29, ⟨Lc29, hQ29, l29, y29, z29⟩, st29⟩ := Jvm.LawKit.callS X28 hx (y := (⟨"com/example/libstrata/libstrata/layout/LayerEndsFirstAbovePinLaw", "le", "([IIIII)I"⟩ : MethodName)) hown (mvT hZ (hw _ (List.mem_of_getElem? (i := 9) rfl))) (mvT hZ (hw _ (List.mem_of_getElem? (i := 10) rfl))) (mvT hZ (hw _ (List.mem_of_getElem? (i := 3) rfl))) (mvT hZ (hw _ (List.mem_of_getElem? (i := 11) rfl))) (by decide) (backOf (W := 1) (rm3_1 l Z a0 hw [] b9 vj0 vj1 vi2 vg3 vd4 (Int32.ofNat f) (Int32.ofNat t) val T24.heap n0 Zn A_b9) hZ (hw _ (List.mem_of_getElem? (i := 11) rfl)) (hw _ (List.mem_of_getElem? (i := 3) rfl)) (by decide) (by decide)) (g := (mkF m 215 #[.val (.long l1), .second, .val (.long l2), .second, .val (.int p1), .val (.int p2), .val (.int p3), .val (.ref b9), .val (.int (Int32.ofNat f)), .val (.int (Int32.ofNat t)), .val (.int val), .val (.int (Int32.ofNat r)), .unset] [(.int val), (.int (Int32.ofNat t)), (.int (Int32.ofNat f)), (.int (1 : Int32)), (.ref b9), (.int ((Int32.ofNat f) + (own_le (0 : Int32) (Int32.ofNat f) (Int32.ofNat t) val vj0)))])) rfl (by rw [hml]; rfl) (argsL := [(.ref b9), (.int (1 : Int32)), (.int (Int32.ofNat f)), (.int (Int32.ofNat t)), (.int val)]) (rest := [(.int ((Int32.ofNat f) + (own_le (0 : Int32) (Int32.ofNat f) (Int32.ofNat t) val vj0)))]) (lenOf pd__28_5bIIIII_29I rfl) rfl (by show 2 * 0 + _ ≤ _; exact Nat.le_of_eq rfl) (hb hby at_215) (fun _ _ => ⟨rfl, el0, (by decide : 1 + 0 ≤ _), (by decide : 5 + 0 ≤ _)⟩)
  dsimp only [Pt.U, Pt.locs, Pt.cells, Pt.slots] at X29 l29 y29 z29 st29 hQ29
  subst l29 y29 z29
  obtain ⟨rfl, N29q, el1⟩ := hQ29
  have N := Fr.app N N29q
  refine own_by (S' := (T29.setTop (mkF m 218 #[.val (.long l1), .second, .val (.long l2), .second, .val (.int p1), .val (.int p2), .val (.int p3), .val (.ref b9), .val (.int (Int32.ofNat f)), .val (.int (Int32.ofNat t)), .val (.int val), .val (.int (Int32.ofNat r)), .unset] [(.int (own_le (1 : Int32) (Int32.ofNat f) (Int32.ofNat t) val vj1)), (.int ((Int32.ofNat f) + (own_le (0 : Int32) (Int32.ofNat f) (Int32.ofNat t) val vj0)))]))) st29 ?_
  refine own_by (S' := (T29.setTop (mkF m 219 #[.val (.long l1), .second, .val (.long l2), .second, .val (.int p1), .val (.int p2), .val (.int p3), .val (.ref b9), .val (.int (Int32.ofNat f)), .val (.int (Int32.ofNat t)), .val (.int val), .val (.int (Int32.ofNat r)), .unset] [(.int (((Int32.ofNat f) + (own_le (0 : Int32) (Int32.ofNat f) (Int32.ofNat t) val vj0)) + (own_le (1 : Int32) (Int32.ofNat f) (Int32.ofNat t) val vj1)))]))) (fun _ k => XS.iadd X29.here hx rfl (hb hby at_218) rfl k) ?_
  refine own_by (S' := (T29.setTop (mkF m 221 #[.val (.long l1), .second, .val (.long l2), .second, .val (.int p1), .val (.int p2), .val (.int p3), .val (.ref b9), .val (.int (Int32.ofNat f)), .val (.int (Int32.ofNat t)), .val (.int val), .val (.int (Int32.ofNat r)), .unset] [(.ref b9), (.int (((Int32.ofNat f) + (own_le (0 : Int32) (Int32.ofNat f) (Int32.ofNat t) val vj0)) + (own_le (1 : Int32) (Int32.ofNat f) (Int32.ofNat t) val vj1)))]))) (fun _ k => XS.aload X29.here hx rfl (hb hby at_219) rfl rfl k) ?_
  refine own_by (S' := (T29.setTop (mkF m 222 #[.val (.long l1), .second, .val (.long l2), .second, .val (.int p1), .val (.int p2), .val (.int p3), .val (.ref b9), .val (.int (Int32.ofNat f)), .val (.int (Int32.ofNat t)), .val (.int val), .val (.int (Int32.ofNat r)), .unset] [(.int (2 : Int32)), (.ref b9), (.int (((Int32.ofNat f) + (own_le (0 : Int32) (Int32.ofNat f) (Int32.ofNat t) val vj0)) + (own_le (1 : Int32) (Int32.ofNat f) (Int32.ofNat t) val vj1)))]))) (fun _ k => XS.iconst X29.here hx rfl (hb hby at_221) k) ?_
  refine own_by (S' := (T29.setTop (mkF m 224 #[.val (.long l1), .second, .val (.long l2), .second, .val (.int p1), .val (.int p2), .val (.int p3), .val (.ref b9), .val (.int (Int32.ofNat f)), .val (.int (Int32.ofNat t)), .val (.int val), .val (.int (Int32.ofNat r)), .unset] [(.int (Int32.ofNat f)), (.int (2 : Int32)), (.ref b9), (.int (((Int32.ofNat f) + (own_le (0 : Int32) (Int32.ofNat f) (Int32.ofNat t) val vj0)) + (own_le (1 : Int32) (Int32.ofNat f) (Int32.ofNat t) val vj1)))]))) (fun _ k => XS.iload X29.here hx rfl (hb hby at_222) rfl k) ?_
  refine own_by (S' := (T29.setTop (mkF m 226 #[.val (.long l1), .second, .val (.long l2), .second, .val (.int p1), .val (.int p2), .val (.int p3), .val (.ref b9), .val (.int (Int32.ofNat f)), .val (.int (Int32.ofNat t)), .val (.int val), .val (.int (Int32.ofNat r)), .unset] [(.int (Int32.ofNat t)), (.int (Int32.ofNat f)), (.int (2 : Int32)), (.ref b9), (.int (((Int32.ofNat f) + (own_le (0 : Int32) (Int32.ofNat f) (Int32.ofNat t) val vj0)) + (own_le (1 : Int32) (Int32.ofNat f) (Int32.ofNat t) val vj1)))]))) (fun _ k => XS.iload X29.here hx rfl (hb hby at_224) rfl k) ?_
  refine own_by (S' := (T29.setTop (mkF m 228 #[.val (.long l1), .second, .val (.long l2), .second, .val (.int p1), .val (.int p2), .val (.int p3), .val (.ref b9), .val (.int (Int32.ofNat f)), .val (.int (Int32.ofNat t)), .val (.int val), .val (.int (Int32.ofNat r)), .unset] [(.int val), (.int (Int32.ofNat t)), (.int (Int32.ofNat f)), (.int (2 : Int32)), (.ref b9), (.int (((Int32.ofNat f) + (own_le (0 : Int32) (Int32.ofNat f) (Int32.ofNat t) val vj0)) + (own_le (1 : Int32) (Int32.ofNat f) (Int32.ofNat t) val vj1)))]))) (fun _ k => XS.iload X29.here hx rfl (hb hby at_226) rfl k) ?_
  obtain ⟨_, _, ⟨T30, L30, k30, n30⟩, -, X30, ⟨Lc30, hQ30, l30, y30, z30⟩, st30⟩ := Jvm.LawKit.callS X29 hx (y := (⟨"com/example/libstrata/libstrata/layout/LayerEndsFirstAbovePinLaw", "le", "([IIIII)I"⟩ : MethodName)) hown (mvT hZ (hw _ (List.mem_of_getElem? (i := 9) rfl))) (mvT hZ (hw _ (List.mem_of_getElem? (i := 10) rfl))) (mvT hZ (hw _ (List.mem_of_getElem? (i := 3) rfl))) (mvT hZ (hw _ (List.mem_of_getElem? (i := 11) rfl))) (by decide) (backOf (W := 1) (rm3_2 l Z a0 hw [] b9 vj0 vj1 vi2 vg3 vd4 (Int32.ofNat f) (Int32.ofNat t) val T24.heap n0 Zn A_b9) hZ (hw _ (List.mem_of_getElem? (i := 11) rfl)) (hw _ (List.mem_of_getElem? (i := 3) rfl)) (by decide) (by decide)) (g := (mkF m 228 #[.val (.long l1), .second, .val (.long l2), .second, .val (.int p1), .val (.int p2), .val (.int p3), .val (.ref b9), .val (.int (Int32.ofNat f)), .val (.int (Int32.ofNat t)), .val (.int val), .val (.int (Int32.ofNat r)), .unset] [(.int val), (.int (Int32.ofNat t)), (.int (Int32.ofNat f)), (.int (2 : Int32)), (.ref b9), (.int (((Int32.ofNat f) + (own_le (0 : Int32) (Int32.ofNat f) (Int32.ofNat t) val vj0)) + (own_le (1 : Int32) (Int32.ofNat f) (Int32.ofNat t) val vj1)))])) rfl (by rw [hml]; rfl) (argsL := [(.ref b9), (.int (2 : Int32)), (.int (Int32.ofNat f)), (.int (Int32.ofNat t)), (.int val)]) (rest := [(.int (((Int32.ofNat f) + (own_le (0 : Int32) (Int32.ofNat f) (Int32.ofNat t) val vj0)) + (own_le (1 : Int32) (Int32.ofNat f) (Int32.ofNat t) val vj1)))]) (lenOf pd__28_5bIIIII_29I rfl) rfl (by show 2 * 0 + _ ≤ _; exact Nat.le_of_eq rfl) (hb hby at_228) (fun _ _ => ⟨rfl, el1, (by decide : 1 + 0 ≤ _), (by decide : 5 + 0 ≤ _)⟩)
  dsimp only [Pt.U, Pt.locs, Pt.cells, Pt.slots] at X30 l30 y30 z30 st30 hQ30
  subst l30 y30 z30
  obtain ⟨rfl, N30q, el2⟩ := hQ30
  have N := Fr.app N N30q
  refine own_by (S' := (T30.setTop (mkF m 231 #[.val (.long l1), .second, .val (.long l2), .second, .val (.int p1), .val (.int p2), .val (.int p3), .val (.ref b9), .val (.int (Int32.ofNat f)), .val (.int (Int32.ofNat t)), .val (.int val), .val (.int (Int32.ofNat r)), .unset] [(.int (own_le (2 : Int32) (Int32.ofNat f) (Int32.ofNat t) val vi2)), (.int (((Int32.ofNat f) + (own_le (0 : Int32) (Int32.ofNat f) (Int32.ofNat t) val vj0)) + (own_le (1 : Int32) (Int32.ofNat f) (Int32.ofNat t) val vj1)))]))) st30 ?_
  refine own_by (S' := (T30.setTop (mkF m 232 #[.val (.long l1), .second, .val (.long l2), .second, .val (.int p1), .val (.int p2), .val (.int p3), .val (.ref b9), .val (.int (Int32.ofNat f)), .val (.int (Int32.ofNat t)), .val (.int val), .val (.int (Int32.ofNat r)), .unset] [(.int ((((Int32.ofNat f) + (own_le (0 : Int32) (Int32.ofNat f) (Int32.ofNat t) val vj0)) + (own_le (1 : Int32) (Int32.ofNat f) (Int32.ofNat t) val vj1)) + (own_le (2 : Int32) (Int32.ofNat f) (Int32.ofNat t) val vi2)))]))) (fun _ k => XS.iadd X30.here hx rfl (hb hby at_231) rfl k) ?_
  refine own_by (S' := (T30.setTop (mkF m 234 #[.val (.long l1), .second, .val (.long l2), .second, .val (.int p1), .val (.int p2), .val (.int p3), .val (.ref b9), .val (.int (Int32.ofNat f)), .val (.int (Int32.ofNat t)), .val (.int val), .val (.int (Int32.ofNat r)), .unset] [(.ref b9), (.int ((((Int32.ofNat f) + (own_le (0 : Int32) (Int32.ofNat f) (Int32.ofNat t) val vj0)) + (own_le (1 : Int32) (Int32.ofNat f) (Int32.ofNat t) val vj1)) + (own_le (2 : Int32) (Int32.ofNat f) (Int32.ofNat t) val vi2)))]))) (fun _ k => XS.aload X30.here hx rfl (hb hby at_232) rfl rfl k) ?_
  refine own_by (S' := (T30.setTop (mkF m 235 #[.val (.long l1), .second, .val (.long l2), .second, .val (.int p1), .val (.int p2), .val (.int p3), .val (.ref b9), .val (.int (Int32.ofNat f)), .val (.int (Int32.ofNat t)), .val (.int val), .val (.int (Int32.ofNat r)), .unset] [(.int (3 : Int32)), (.ref b9), (.int ((((Int32.ofNat f) + (own_le (0 : Int32) (Int32.ofNat f) (Int32.ofNat t) val vj0)) + (own_le (1 : Int32) (Int32.ofNat f) (Int32.ofNat t) val vj1)) + (own_le (2 : Int32) (Int32.ofNat f) (Int32.ofNat t) val vi2)))]))) (fun _ k => XS.iconst X30.here hx rfl (hb hby at_234) k) ?_
  refine own_by (S' := (T30.setTop (mkF m 237 #[.val (.long l1), .second, .val (.long l2), .second, .val (.int p1), .val (.int p2), .val (.int p3), .val (.ref b9), .val (.int (Int32.ofNat f)), .val (.int (Int32.ofNat t)), .val (.int val), .val (.int (Int32.ofNat r)), .unset] [(.int (Int32.ofNat f)), (.int (3 : Int32)), (.ref b9), (.int ((((Int32.ofNat f) + (own_le (0 : Int32) (Int32.ofNat f) (Int32.ofNat t) val vj0)) + (own_le (1 : Int32) (Int32.ofNat f) (Int32.ofNat t) val vj1)) + (own_le (2 : Int32) (Int32.ofNat f) (Int32.ofNat t) val vi2)))]))) (fun _ k => XS.iload X30.here hx rfl (hb hby at_235) rfl k) ?_
  refine own_by (S' := (T30.setTop (mkF m 239 #[.val (.long l1), .second, .val (.long l2), .second, .val (.int p1), .val (.int p2), .val (.int p3), .val (.ref b9), .val (.int (Int32.ofNat f)), .val (.int (Int32.ofNat t)), .val (.int val), .val (.int (Int32.ofNat r)), .unset] [(.int (Int32.ofNat t)), (.int (Int32.ofNat f)), (.int (3 : Int32)), (.ref b9), (.int ((((Int32.ofNat f) + (own_le (0 : Int32) (Int32.ofNat f) (Int32.ofNat t) val vj0)) + (own_le (1 : Int32) (Int32.ofNat f) (Int32.ofNat t) val vj1)) + (own_le (2 : Int32) (Int32.ofNat f) (Int32.ofNat t) val vi2)))]))) (fun _ k => XS.iload X30.here hx rfl (hb hby at_237) rfl k) ?_
  refine own_by (S' := (T30.setTop (mkF m 241 #[.val (.long l1), .second, .val (.long l2), .second, .val (.int p1), .val (.int p2), .val (.int p3), .val (.ref b9), .val (.int (Int32.ofNat f)), .val (.int (Int32.ofNat t)), .val (.int val), .val (.int (Int32.ofNat r)), .unset] [(.int val), (.int (Int32.ofNat t)), (.int (Int32.ofNat f)), (.int (3 : Int32)), (.ref b9), (.int ((((Int32.ofNat f) + (own_le (0 : Int32) (Int32.ofNat f) (Int32.ofNat t) val vj0)) + (own_le (1 : Int32) (Int32.ofNat f) (Int32.ofNat t) val vj1)) + (own_le (2 : Int32) (Int32.ofNat f) (Int32.ofNat t) val vi2)))]))) (fun _ k => XS.iload X30.here hx rfl (hb hby at_239) rfl k) ?_
  obtain ⟨_, _, ⟨T31, L31, k31, n31⟩, -, X31, ⟨Lc31, hQ31, l31, y31, z31⟩, st31⟩ := Jvm.LawKit.callS X30 hx (y := (⟨"com/example/libstrata/libstrata/layout/LayerEndsFirstAbovePinLaw", "le", "([IIIII)I"⟩ : MethodName)) hown (mvT hZ (hw _ (List.mem_of_getElem? (i := 9) rfl))) (mvT hZ (hw _ (List.mem_of_getElem? (i := 10) rfl))) (mvT hZ (hw _ (List.mem_of_getElem? (i := 3) rfl))) (mvT hZ (hw _ (List.mem_of_getElem? (i := 11) rfl))) (by decide) (backOf (W := 1) (rm3_3 l Z a0 hw [] b9 vj0 vj1 vi2 vg3 vd4 (Int32.ofNat f) (Int32.ofNat t) val T24.heap n0 Zn A_b9) hZ (hw _ (List.mem_of_getElem? (i := 11) rfl)) (hw _ (List.mem_of_getElem? (i := 3) rfl)) (by decide) (by decide)) (g := (mkF m 241 #[.val (.long l1), .second, .val (.long l2), .second, .val (.int p1), .val (.int p2), .val (.int p3), .val (.ref b9), .val (.int (Int32.ofNat f)), .val (.int (Int32.ofNat t)), .val (.int val), .val (.int (Int32.ofNat r)), .unset] [(.int val), (.int (Int32.ofNat t)), (.int (Int32.ofNat f)), (.int (3 : Int32)), (.ref b9), (.int ((((Int32.ofNat f) + (own_le (0 : Int32) (Int32.ofNat f) (Int32.ofNat t) val vj0)) + (own_le (1 : Int32) (Int32.ofNat f) (Int32.ofNat t) val vj1)) + (own_le (2 : Int32) (Int32.ofNat f) (Int32.ofNat t) val vi2)))])) rfl (by rw [hml]; rfl) (argsL := [(.ref b9), (.int (3 : Int32)), (.int (Int32.ofNat f)), (.int (Int32.ofNat t)), (.int val)]) (rest := [(.int ((((Int32.ofNat f) + (own_le (0 : Int32) (Int32.ofNat f) (Int32.ofNat t) val vj0)) + (own_le (1 : Int32) (Int32.ofNat f) (Int32.ofNat t) val vj1)) + (own_le (2 : Int32) (Int32.ofNat f) (Int32.ofNat t) val vi2)))]) (lenOf pd__28_5bIIIII_29I rfl) rfl (by show 2 * 0 + _ ≤ _; exact Nat.le_of_eq rfl) (hb hby at_241) (fun _ _ => ⟨rfl, el2, (by decide : 1 + 0 ≤ _), (by decide : 5 + 0 ≤ _)⟩)
  dsimp only [Pt.U, Pt.locs, Pt.cells, Pt.slots] at X31 l31 y31 z31 st31 hQ31
  subst l31 y31 z31
  obtain ⟨rfl, N31q, el3⟩ := hQ31
  have N := Fr.app N N31q
  refine own_by (S' := (T31.setTop (mkF m 244 #[.val (.long l1), .second, .val (.long l2), .second, .val (.int p1), .val (.int p2), .val (.int p3), .val (.ref b9), .val (.int (Int32.ofNat f)), .val (.int (Int32.ofNat t)), .val (.int val), .val (.int (Int32.ofNat r)), .unset] [(.int (own_le (3 : Int32) (Int32.ofNat f) (Int32.ofNat t) val vg3)), (.int ((((Int32.ofNat f) + (own_le (0 : Int32) (Int32.ofNat f) (Int32.ofNat t) val vj0)) + (own_le (1 : Int32) (Int32.ofNat f) (Int32.ofNat t) val vj1)) + (own_le (2 : Int32) (Int32.ofNat f) (Int32.ofNat t) val vi2)))]))) st31 ?_
  refine own_by (S' := (T31.setTop (mkF m 245 #[.val (.long l1), .second, .val (.long l2), .second, .val (.int p1), .val (.int p2), .val (.int p3), .val (.ref b9), .val (.int (Int32.ofNat f)), .val (.int (Int32.ofNat t)), .val (.int val), .val (.int (Int32.ofNat r)), .unset] [(.int (((((Int32.ofNat f) + (own_le (0 : Int32) (Int32.ofNat f) (Int32.ofNat t) val vj0)) + (own_le (1 : Int32) (Int32.ofNat f) (Int32.ofNat t) val vj1)) + (own_le (2 : Int32) (Int32.ofNat f) (Int32.ofNat t) val vi2)) + (own_le (3 : Int32) (Int32.ofNat f) (Int32.ofNat t) val vg3)))]))) (fun _ k => XS.iadd X31.here hx rfl (hb hby at_244) rfl k) ?_
  refine own_by (S' := (T31.setTop (mkF m 247 #[.val (.long l1), .second, .val (.long l2), .second, .val (.int p1), .val (.int p2), .val (.int p3), .val (.ref b9), .val (.int (Int32.ofNat f)), .val (.int (Int32.ofNat t)), .val (.int val), .val (.int (Int32.ofNat r)), .unset] [(.ref b9), (.int (((((Int32.ofNat f) + (own_le (0 : Int32) (Int32.ofNat f) (Int32.ofNat t) val vj0)) + (own_le (1 : Int32) (Int32.ofNat f) (Int32.ofNat t) val vj1)) + (own_le (2 : Int32) (Int32.ofNat f) (Int32.ofNat t) val vi2)) + (own_le (3 : Int32) (Int32.ofNat f) (Int32.ofNat t) val vg3)))]))) (fun _ k => XS.aload X31.here hx rfl (hb hby at_245) rfl rfl k) ?_
  refine own_by (S' := (T31.setTop (mkF m 248 #[.val (.long l1), .second, .val (.long l2), .second, .val (.int p1), .val (.int p2), .val (.int p3), .val (.ref b9), .val (.int (Int32.ofNat f)), .val (.int (Int32.ofNat t)), .val (.int val), .val (.int (Int32.ofNat r)), .unset] [(.int (4 : Int32)), (.ref b9), (.int (((((Int32.ofNat f) + (own_le (0 : Int32) (Int32.ofNat f) (Int32.ofNat t) val vj0)) + (own_le (1 : Int32) (Int32.ofNat f) (Int32.ofNat t) val vj1)) + (own_le (2 : Int32) (Int32.ofNat f) (Int32.ofNat t) val vi2)) + (own_le (3 : Int32) (Int32.ofNat f) (Int32.ofNat t) val vg3)))]))) (fun _ k => XS.iconst X31.here hx rfl (hb hby at_247) k) ?_
  refine own_by (S' := (T31.setTop (mkF m 250 #[.val (.long l1), .second, .val (.long l2), .second, .val (.int p1), .val (.int p2), .val (.int p3), .val (.ref b9), .val (.int (Int32.ofNat f)), .val (.int (Int32.ofNat t)), .val (.int val), .val (.int (Int32.ofNat r)), .unset] [(.int (Int32.ofNat f)), (.int (4 : Int32)), (.ref b9), (.int (((((Int32.ofNat f) + (own_le (0 : Int32) (Int32.ofNat f) (Int32.ofNat t) val vj0)) + (own_le (1 : Int32) (Int32.ofNat f) (Int32.ofNat t) val vj1)) + (own_le (2 : Int32) (Int32.ofNat f) (Int32.ofNat t) val vi2)) + (own_le (3 : Int32) (Int32.ofNat f) (Int32.ofNat t) val vg3)))]))) (fun _ k => XS.iload X31.here hx rfl (hb hby at_248) rfl k) ?_
  refine own_by (S' := (T31.setTop (mkF m 252 #[.val (.long l1), .second, .val (.long l2), .second, .val (.int p1), .val (.int p2), .val (.int p3), .val (.ref b9), .val (.int (Int32.ofNat f)), .val (.int (Int32.ofNat t)), .val (.int val), .val (.int (Int32.ofNat r)), .unset] [(.int (Int32.ofNat t)), (.int (Int32.ofNat f)), (.int (4 : Int32)), (.ref b9), (.int (((((Int32.ofNat f) + (own_le (0 : Int32) (Int32.ofNat f) (Int32.ofNat t) val vj0)) + (own_le (1 : Int32) (Int32.ofNat f) (Int32.ofNat t) val vj1)) + (own_le (2 : Int32) (Int32.ofNat f) (Int32.ofNat t) val vi2)) + (own_le (3 : Int32) (Int32.ofNat f) (Int32.ofNat t) val vg3)))]))) (fun _ k => XS.iload X31.here hx rfl (hb hby at_250) rfl k) ?_
  refine own_by (S' := (T31.setTop (mkF m 254 #[.val (.long l1), .second, .val (.long l2), .second, .val (.int p1), .val (.int p2), .val (.int p3), .val (.ref b9), .val (.int (Int32.ofNat f)), .val (.int (Int32.ofNat t)), .val (.int val), .val (.int (Int32.ofNat r)), .unset] [(.int val), (.int (Int32.ofNat t)), (.int (Int32.ofNat f)), (.int (4 : Int32)), (.ref b9), (.int (((((Int32.ofNat f) + (own_le (0 : Int32) (Int32.ofNat f) (Int32.ofNat t) val vj0)) + (own_le (1 : Int32) (Int32.ofNat f) (Int32.ofNat t) val vj1)) + (own_le (2 : Int32) (Int32.ofNat f) (Int32.ofNat t) val vi2)) + (own_le (3 : Int32) (Int32.ofNat f) (Int32.ofNat t) val vg3)))]))) (fun _ k => XS.iload X31.here hx rfl (hb hby at_252) rfl k) ?_
  obtain ⟨_, _, ⟨T32, L32, k32, n32⟩, -, X32, ⟨Lc32, hQ32, l32, y32, z32⟩, st32⟩ := Jvm.LawKit.callS X31 hx (y := (⟨"com/example/libstrata/libstrata/layout/LayerEndsFirstAbovePinLaw", "le", "([IIIII)I"⟩ : MethodName)) hown (mvT hZ (hw _ (List.mem_of_getElem? (i := 9) rfl))) (mvT hZ (hw _ (List.mem_of_getElem? (i := 10) rfl))) (mvT hZ (hw _ (List.mem_of_getElem? (i := 3) rfl))) (mvT hZ (hw _ (List.mem_of_getElem? (i := 11) rfl))) (by decide) (backOf (W := 1) (rm3_4 l Z a0 hw [] b9 vj0 vj1 vi2 vg3 vd4 (Int32.ofNat f) (Int32.ofNat t) val T24.heap n0 Zn A_b9) hZ (hw _ (List.mem_of_getElem? (i := 11) rfl)) (hw _ (List.mem_of_getElem? (i := 3) rfl)) (by decide) (by decide)) (g := (mkF m 254 #[.val (.long l1), .second, .val (.long l2), .second, .val (.int p1), .val (.int p2), .val (.int p3), .val (.ref b9), .val (.int (Int32.ofNat f)), .val (.int (Int32.ofNat t)), .val (.int val), .val (.int (Int32.ofNat r)), .unset] [(.int val), (.int (Int32.ofNat t)), (.int (Int32.ofNat f)), (.int (4 : Int32)), (.ref b9), (.int (((((Int32.ofNat f) + (own_le (0 : Int32) (Int32.ofNat f) (Int32.ofNat t) val vj0)) + (own_le (1 : Int32) (Int32.ofNat f) (Int32.ofNat t) val vj1)) + (own_le (2 : Int32) (Int32.ofNat f) (Int32.ofNat t) val vi2)) + (own_le (3 : Int32) (Int32.ofNat f) (Int32.ofNat t) val vg3)))])) rfl (by rw [hml]; rfl) (argsL := [(.ref b9), (.int (4 : Int32)), (.int (Int32.ofNat f)), (.int (Int32.ofNat t)), (.int val)]) (rest := [(.int (((((Int32.ofNat f) + (own_le (0 : Int32) (Int32.ofNat f) (Int32.ofNat t) val vj0)) + (own_le (1 : Int32) (Int32.ofNat f) (Int32.ofNat t) val vj1)) + (own_le (2 : Int32) (Int32.ofNat f) (Int32.ofNat t) val vi2)) + (own_le (3 : Int32) (Int32.ofNat f) (Int32.ofNat t) val vg3)))]) (lenOf pd__28_5bIIIII_29I rfl) rfl (by show 2 * 0 + _ ≤ _; exact Nat.le_of_eq rfl) (hb hby at_254) (fun _ _ => ⟨rfl, el3, (by decide : 1 + 0 ≤ _), (by decide : 5 + 0 ≤ _)⟩)
  dsimp only [Pt.U, Pt.locs, Pt.cells, Pt.slots] at X32 l32 y32 z32 st32 hQ32
  subst l32 y32 z32
  obtain ⟨rfl, N32q, el4⟩ := hQ32
  have N := Fr.app N N32q
  refine own_by (S' := (T32.setTop (mkF m 257 #[.val (.long l1), .second, .val (.long l2), .second, .val (.int p1), .val (.int p2), .val (.int p3), .val (.ref b9), .val (.int (Int32.ofNat f)), .val (.int (Int32.ofNat t)), .val (.int val), .val (.int (Int32.ofNat r)), .unset] [(.int (own_le (4 : Int32) (Int32.ofNat f) (Int32.ofNat t) val vd4)), (.int (((((Int32.ofNat f) + (own_le (0 : Int32) (Int32.ofNat f) (Int32.ofNat t) val vj0)) + (own_le (1 : Int32) (Int32.ofNat f) (Int32.ofNat t) val vj1)) + (own_le (2 : Int32) (Int32.ofNat f) (Int32.ofNat t) val vi2)) + (own_le (3 : Int32) (Int32.ofNat f) (Int32.ofNat t) val vg3)))]))) st32 ?_
  refine own_by (S' := (T32.setTop (mkF m 258 #[.val (.long l1), .second, .val (.long l2), .second, .val (.int p1), .val (.int p2), .val (.int p3), .val (.ref b9), .val (.int (Int32.ofNat f)), .val (.int (Int32.ofNat t)), .val (.int val), .val (.int (Int32.ofNat r)), .unset] [(.int ((((((Int32.ofNat f) + (own_le (0 : Int32) (Int32.ofNat f) (Int32.ofNat t) val vj0)) + (own_le (1 : Int32) (Int32.ofNat f) (Int32.ofNat t) val vj1)) + (own_le (2 : Int32) (Int32.ofNat f) (Int32.ofNat t) val vi2)) + (own_le (3 : Int32) (Int32.ofNat f) (Int32.ofNat t) val vg3)) + (own_le (4 : Int32) (Int32.ofNat f) (Int32.ofNat t) val vd4)))]))) (fun _ k => XS.iadd X32.here hx rfl (hb hby at_257) rfl k) ?_
  refine own_by (S' := (T32.setTop (mkF m 260 #[.val (.long l1), .second, .val (.long l2), .second, .val (.int p1), .val (.int p2), .val (.int p3), .val (.ref b9), .val (.int (Int32.ofNat f)), .val (.int (Int32.ofNat t)), .val (.int val), .val (.int (Int32.ofNat r)), .val (.int ((((((Int32.ofNat f) + (own_le (0 : Int32) (Int32.ofNat f) (Int32.ofNat t) val vj0)) + (own_le (1 : Int32) (Int32.ofNat f) (Int32.ofNat t) val vj1)) + (own_le (2 : Int32) (Int32.ofNat f) (Int32.ofNat t) val vi2)) + (own_le (3 : Int32) (Int32.ofNat f) (Int32.ofNat t) val vg3)) + (own_le (4 : Int32) (Int32.ofNat f) (Int32.ofNat t) val vd4)))] []))) (fun _ k => XS.istore X32.here hx rfl (hb hby at_258) rfl (l' := #[.val (.long l1), .second, .val (.long l2), .second, .val (.int p1), .val (.int p2), .val (.int p3), .val (.ref b9), .val (.int (Int32.ofNat f)), .val (.int (Int32.ofNat t)), .val (.int val), .val (.int (Int32.ofNat r)), .val (.int ((((((Int32.ofNat f) + (own_le (0 : Int32) (Int32.ofNat f) (Int32.ofNat t) val vj0)) + (own_le (1 : Int32) (Int32.ofNat f) (Int32.ofNat t) val vj1)) + (own_le (2 : Int32) (Int32.ofNat f) (Int32.ofNat t) val vi2)) + (own_le (3 : Int32) (Int32.ofNat f) (Int32.ofNat t) val vg3)) + (own_le (4 : Int32) (Int32.ofNat f) (Int32.ofNat t) val vd4)))]) rfl k) ?_
  refine own_by (S' := (T32.setTop (mkF m 262 #[.val (.long l1), .second, .val (.long l2), .second, .val (.int p1), .val (.int p2), .val (.int p3), .val (.ref b9), .val (.int (Int32.ofNat f)), .val (.int (Int32.ofNat t)), .val (.int val), .val (.int (Int32.ofNat r)), .val (.int ((((((Int32.ofNat f) + (own_le (0 : Int32) (Int32.ofNat f) (Int32.ofNat t) val vj0)) + (own_le (1 : Int32) (Int32.ofNat f) (Int32.ofNat t) val vj1)) + (own_le (2 : Int32) (Int32.ofNat f) (Int32.ofNat t) val vi2)) + (own_le (3 : Int32) (Int32.ofNat f) (Int32.ofNat t) val vg3)) + (own_le (4 : Int32) (Int32.ofNat f) (Int32.ofNat t) val vd4)))] [(.int (Int32.ofNat r))]))) (fun _ k => XS.iload X32.here hx rfl (hb hby at_260) rfl k) ?_
  refine own_by (S' := (T32.setTop (mkF m 264 #[.val (.long l1), .second, .val (.long l2), .second, .val (.int p1), .val (.int p2), .val (.int p3), .val (.ref b9), .val (.int (Int32.ofNat f)), .val (.int (Int32.ofNat t)), .val (.int val), .val (.int (Int32.ofNat r)), .val (.int ((((((Int32.ofNat f) + (own_le (0 : Int32) (Int32.ofNat f) (Int32.ofNat t) val vj0)) + (own_le (1 : Int32) (Int32.ofNat f) (Int32.ofNat t) val vj1)) + (own_le (2 : Int32) (Int32.ofNat f) (Int32.ofNat t) val vi2)) + (own_le (3 : Int32) (Int32.ofNat f) (Int32.ofNat t) val vg3)) + (own_le (4 : Int32) (Int32.ofNat f) (Int32.ofNat t) val vd4)))] [(.int ((((((Int32.ofNat f) + (own_le (0 : Int32) (Int32.ofNat f) (Int32.ofNat t) val vj0)) + (own_le (1 : Int32) (Int32.ofNat f) (Int32.ofNat t) val vj1)) + (own_le (2 : Int32) (Int32.ofNat f) (Int32.ofNat t) val vi2)) + (own_le (3 : Int32) (Int32.ofNat f) (Int32.ofNat t) val vg3)) + (own_le (4 : Int32) (Int32.ofNat f) (Int32.ofNat t) val vd4))), (.int (Int32.ofNat r))]))) (fun _ k => XS.iload X32.here hx rfl (hb hby at_262) rfl k) ?_
  refine own_by (S' := (T32.setTop (mkF m 267 #[.val (.long l1), .second, .val (.long l2), .second, .val (.int p1), .val (.int p2), .val (.int p3), .val (.ref b9), .val (.int (Int32.ofNat f)), .val (.int (Int32.ofNat t)), .val (.int val), .val (.int (Int32.ofNat r)), .val (.int ((((((Int32.ofNat f) + (own_le (0 : Int32) (Int32.ofNat f) (Int32.ofNat t) val vj0)) + (own_le (1 : Int32) (Int32.ofNat f) (Int32.ofNat t) val vj1)) + (own_le (2 : Int32) (Int32.ofNat f) (Int32.ofNat t) val vi2)) + (own_le (3 : Int32) (Int32.ofNat f) (Int32.ofNat t) val vg3)) + (own_le (4 : Int32) (Int32.ofNat f) (Int32.ofNat t) val vd4)))] []))) (fun _ k => XS.icmpNo X32.here hx rfl (hb hby at_264) rfl (teq ((own_fin5 hf ht hr1 hr2 hr3 hr4) : (Int32.ofNat r) = ((((((Int32.ofNat f) + (own_le (0 : Int32) (Int32.ofNat f) (Int32.ofNat t) val vj0)) + (own_le (1 : Int32) (Int32.ofNat f) (Int32.ofNat t) val vj1)) + (own_le (2 : Int32) (Int32.ofNat f) (Int32.ofNat t) val vi2)) + (own_le (3 : Int32) (Int32.ofNat f) (Int32.ofNat t) val vg3)) + (own_le (4 : Int32) (Int32.ofNat f) (Int32.ofNat t) val vd4)))).2 k) ?_
  refine own_by (S' := (T32.setTop (mkF m 268 #[.val (.long l1), .second, .val (.long l2), .second, .val (.int p1), .val (.int p2), .val (.int p3), .val (.ref b9), .val (.int (Int32.ofNat f)), .val (.int (Int32.ofNat t)), .val (.int val), .val (.int (Int32.ofNat r)), .val (.int ((((((Int32.ofNat f) + (own_le (0 : Int32) (Int32.ofNat f) (Int32.ofNat t) val vj0)) + (own_le (1 : Int32) (Int32.ofNat f) (Int32.ofNat t) val vj1)) + (own_le (2 : Int32) (Int32.ofNat f) (Int32.ofNat t) val vi2)) + (own_le (3 : Int32) (Int32.ofNat f) (Int32.ofNat t) val vg3)) + (own_le (4 : Int32) (Int32.ofNat f) (Int32.ofNat t) val vd4)))] [(.int (1 : Int32))]))) (fun _ k => XS.iconst X32.here hx rfl (hb hby at_267) k) ?_
  refine own_by (S' := (T32.setTop (mkF m 272 #[.val (.long l1), .second, .val (.long l2), .second, .val (.int p1), .val (.int p2), .val (.int p3), .val (.ref b9), .val (.int (Int32.ofNat f)), .val (.int (Int32.ofNat t)), .val (.int val), .val (.int (Int32.ofNat r)), .val (.int ((((((Int32.ofNat f) + (own_le (0 : Int32) (Int32.ofNat f) (Int32.ofNat t) val vj0)) + (own_le (1 : Int32) (Int32.ofNat f) (Int32.ofNat t) val vj1)) + (own_le (2 : Int32) (Int32.ofNat f) (Int32.ofNat t) val vi2)) + (own_le (3 : Int32) (Int32.ofNat f) (Int32.ofNat t) val vg3)) + (own_le (4 : Int32) (Int32.ofNat f) (Int32.ofNat t) val vd4)))] [(.int (1 : Int32))]))) (fun _ k => XS.goto X32.here hx rfl (pc0 := 268) (pc' := 272) rfl (hb hby at_268) (by decide) (by decide) k) ?_
  exact own_ret X32 hx (t := .boolean) Bd.returns rfl (Or.inl ⟨rfl, by simp, _, rfl⟩) (hb hby at_272) hlk (by decide : 1 ≤ _) (by decide : 5 ≤ _) (by rw [el4]; exact ⟨rfl, N⟩)
set_option maxRecDepth 65536 in
set_option maxHeartbeats 40000000 in
theorem comes_1 {Post : Tables → Env → Array Value → State → Outcome → State → Prop} (hpost : ∀ tb e args s v u, (limb_1_1.after args s (.returned v) u = true ∧ limb_1_2.after args s (.returned v) u = true ∧ True) → FrameEnd s (.returned v) u (Jvm.fieldLocs frame_1_writes args s ++ Jvm.arrayLocs frame_1_arrays args s ++ Jvm.staticLocs frame_1_statics s) 16 128 → Post tb e args s (.returned v) u) :
    ArmFor flags0 classFile x code maxLocals ret World_1 tables_1 room_1 Calls_1 rest_1 Pre_1 Post := by
  intro l hfl _ _ p e ha hc hk s m args below hf hA hF happ hP
  obtain ⟨hcalls, hrest, hpre⟩ := hP
  obtain ⟨-, -, -, hnamed, -, -, -, hat⟩ := (Spec.applies_iff hf).mp happ
  obtain ⟨hg, hn⟩ := and_e (Cond.before_iff.mp (show (Jvm.Cond.and given_1 narrow_1).before args s = true from hpre))
  obtain ⟨gc, gr⟩ := and_e hg
  obtain ⟨g0, gr⟩ := and_e gr
  obtain ⟨g1, gr⟩ := and_e gr
  obtain ⟨g2, gr⟩ := and_e gr
  obtain ⟨g3, gr⟩ := and_e gr
  have g4 := gr
  obtain ⟨w0, w1, w2, w3, w4, rfl⟩ : ∃ w0 w1 w2 w3 w4 : Value, args = #[w0, w1, w2, w3, w4] := by
    have hs : args.size = 5 := by simpa [Cond.value, given_1] using gc
    obtain ⟨L⟩ := args
    match L, hs with
    | [w0, w1, w2, w3, w4], _ => exact ⟨w0, w1, w2, w3, w4, rfl⟩
  have hw := fun d (hd : d ∈ tables_1) => atoms_spec (ws := Jvm.Cond.code x code maxLocals ret :: tables_1) hat d (List.mem_cons_of_mem _ hd)
  have hfit : Fit s := fun {y c} hc i hi => by
    obtain ⟨ha, rfl⟩ := Array.getElem?_eq_some_iff.mp hc
    have q := List.all_eq_true.mp ((Array.all_eq_true_iff_forall_mem.mp hF) _ (Array.getElem_mem ha)) i (List.mem_range.mpr hi)
    simpa [Array.getElem?_eq_getElem hi] using q
  obtain ⟨i0, ei0⟩ := isL_v g0
  obtain rfl : w0 = (.long i0) := Option.some.inj ei0
  obtain ⟨i1, ei1⟩ := isL_v g1
  obtain rfl : w1 = (.long i1) := Option.some.inj ei1
  obtain ⟨i2, ei2⟩ := is_v g2
  obtain rfl : w2 = (.int i2) := Option.some.inj ei2
  obtain ⟨i3, ei3⟩ := is_v g3
  obtain rfl : w3 = (.int i3) := Option.some.inj ei3
  obtain ⟨i4, ei4⟩ := is_v g4
  obtain rfl : w4 = (.int i4) := Option.some.inj ei4
  obtain ⟨n, o, h1, h2, h3, _, L, rfl, ⟨rfl, N⟩, hq⟩ := rm0 l s _ hw tables_1 i0 i1 i2 i3 i4 s.heap s.heap.size (Nat.le_refl _) p e ha hc hk s m _ below hf ((Spec.applies_iff_loose hf).mp happ).1 ⟨rfl, State.Warmed39.refl s, rfl⟩ trivial
  refine ⟨n, _, h1, h2, h3, hpost _ _ _ _ _ _ ⟨Cond.after_iff.mpr rfl, Cond.after_iff.mpr (eq_i res_at (Term.int_eval (1)) rfl), trivial⟩ ⟨hq.1, hq.2.1, (hq.2.2.sift fun y hy => Or.inr (N y hy)).mono (by decide) (by decide)⟩⟩
theorem main_1_1 : Claimed_1_1 := comes_1 fun _ _ _ _ _ _ h hF => ⟨h.1, hF⟩
theorem main_1_2 : Claimed_1_2 := comes_1 fun _ _ _ _ _ _ h hF => ⟨h.2.1, hF⟩
end Jvm.Pilot.@@N@@
namespace Jvm.Pilot.@@N@@
open Jvm Jvm.ClassFile Sem Op Lib Jvm.Free Jvm.Stand Jvm.Pilot.@@N@@.Jvm.D
/-! MADE BY PROGRAM (witnessworld.py) out of the Statement's table words and the real class files: 9 classes; the members and pool entries that the words name. The judged class is class 1, her method 1. -/
namespace start1
open Jvm.ClassFile
def u (s : String) : CpInfo := .utf8 (stringToUtf16 s)
/-- a pool by its gaps: so many unusable entries, then the entry; so many at the end -/
def gap : Nat → List CpInfo → List CpInfo
  | 0, r => r
  | n + 1, r => .unusable :: gap n r
def poolList (es : List (Nat × CpInfo)) (last : Nat) : List CpInfo := es.foldr (fun e r => gap e.1 (e.2 :: r)) (gap last [])
def pool (es : List (Nat × CpInfo)) (last : Nat) : Array CpInfo := ⟨poolList es last⟩
def fileOf (pool : Array CpInfo) (this : Nat) (attrs : Array Attribute := #[]) (ms : Array MethodInfo := #[]) (fl : Nat := 33) (sup : Nat := 0) (ifs : Array Nat := #[]) (fds : Array FieldInfo := #[]) : ClassFile where
  minorVersion := 0
  majorVersion := 65
  constantPool := pool
  accessFlags := fl
  thisClass := this
  superClass := sup
  interfaces := ifs
  fields := fds
  methods := ms
  attributes := attrs
def plain (name : String) (sup : Option ClassId) : Class where
  name := name
  kind := .ordinary
  loader := none
  accessFlags := 33
  super := sup
  interfaces := #[]
  cf := none
  fields := #[]
  methods := #[]
  instanceTypes := #[]
  staticTypes := #[]
  resolved := #[]
  callSites := []
  init := .initialized
  statics := none
  mirror := none

def pool0 : Array CpInfo := pool [(5, u "<init>"), (0, u "()V"), (1, .class_ 10), (1, u "java/lang/Object")] 113

def k0m0 : Method := { name := "<init>", desc := "()V", sig := { parameters := [], returnType := none }, accessFlags := 1, code := none }
/-- java/lang/Object -/
def k0 : Class := { plain "java/lang/Object" none with
  accessFlags := 33
  interfaces := #[]
  cf := some (fileOf pool0 8 #[] #[{ accessFlags := 1, nameIndex := 5, descriptorIndex := 6, attributes := #[] }] 33 0 #[] #[])
  fields := #[]
  methods := #[k0m0]
  instanceTypes := #[]
  staticTypes := #[]
  resolved := Array.replicate 124 none
  statics := none }

def pool1 : Array CpInfo := pool [(2, .class_ 4), (1, u "java/lang/Object"), (0, u "<init>"), (0, u "()V"), (0, .methodref 8 9), (0, .class_ 10), (0, .nameAndType 11 12), (0, u "com/example/libstrata/libstrata/layout/LayerEndsFirstAbovePinLaw"), (0, u "cs"), (0, u "([III)V"), (0, .methodref 14 15), (0, .class_ 16), (0, .nameAndType 17 18), (0, u "com/example/libstrata/libstrata/layout/LayerEnds"), (0, u "firstAbove"), (0, u "([IIII)I"), (0, .methodref 8 20), (0, .nameAndType 21 22), (0, u "le"), (0, u "([IIIII)I"), (2, u "law"), (0, u "(JJIII)Z")] 5

def k1m0 : Method := { name := "<init>", desc := "()V", sig := { parameters := [], returnType := none }, accessFlags := 1, code := none }
def k1c1 : Code := { maxStack := 6, maxLocals := 13, code := code, exceptionTable := #[], attributes := #[] }
def k1m1 : Method := { name := "law", desc := "(JJIII)Z", sig := { parameters := [.long, .long, .int, .int, .int], returnType := some .boolean }, accessFlags := 9, code := some k1c1 }
def k1c2 : Code := { maxStack := 4, maxLocals := 4, code := method_3_code, exceptionTable := #[], attributes := #[] }
def k1m2 : Method := { name := "cs", desc := "([III)V", sig := { parameters := [(.array .int), .int, .int], returnType := none }, accessFlags := 10, code := some k1c2 }
def k1c3 : Code := { maxStack := 2, maxLocals := 5, code := method_4_code, exceptionTable := #[], attributes := #[] }
def k1m3 : Method := { name := "le", desc := "([IIIII)I", sig := { parameters := [(.array .int), .int, .int, .int, .int], returnType := some .int }, accessFlags := 10, code := some k1c3 }
/-- com/example/libstrata/libstrata/layout/LayerEndsFirstAbovePinLaw -/
def k1 : Class := { plain "com/example/libstrata/libstrata/layout/LayerEndsFirstAbovePinLaw" (some 0) with
  accessFlags := 49
  interfaces := #[]
  cf := some (fileOf pool1 8 #[] #[{ accessFlags := 1, nameIndex := 5, descriptorIndex := 6, attributes := #[] }, { accessFlags := 9, nameIndex := 25, descriptorIndex := 26, attributes := #[] }, { accessFlags := 10, nameIndex := 11, descriptorIndex := 12, attributes := #[] }, { accessFlags := 10, nameIndex := 21, descriptorIndex := 22, attributes := #[] }] 49 2 #[] #[])
  fields := #[]
  methods := #[k1m0, k1m1, k1m2, k1m3]
  instanceTypes := #[]
  staticTypes := #[]
  resolved := Array.replicate 32 none
  statics := none }

def pool2 : Array CpInfo := pool [(2, .class_ 4), (1, u "java/lang/Object"), (3, .class_ 10), (1, u "com/example/libstrata/libstrata/layout/LayerEnds"), (0, u "layer"), (0, u "I"), (2, u "steps"), (0, u "[I"), (2, u "hierarchy"), (0, u "Lcom/example/libstrata/libstrata/layout/Hierarchy;"), (6, .class_ 28), (0, u "com/example/libstrata/libstrata/layout/LayerEnds$Read"), (2, u "layers"), (0, u "[Lcom/example/libstrata/libstrata/layout/LayerEnds$Read;"), (5, u "labels"), (3, u "labelled"), (0, u "[[I"), (2, u "work"), (0, u "J"), (3, u "ends"), (3, u "manyEnds"), (3, u "manyStart"), (105, u "firstAbove"), (0, u "([IIII)I"), (69, u "NONE"), (2, u "SHORT_SEARCH"), (1, u "CHUNK"), (1, u "LABEL_LIMIT"), (0, u "SPREAD_GAP")] 17

def k2c0 : Code := { maxStack := 2, maxLocals := 7, code := prog_41_method_26_code, exceptionTable := #[], attributes := #[] }
def k2m0 : Method := { name := "firstAbove", desc := "([IIII)I", sig := { parameters := [(.array .int), .int, .int, .int], returnType := some .int }, accessFlags := 8, code := some k2c0 }
/-- com/example/libstrata/libstrata/layout/LayerEnds -/
def k2 : Class := { plain "com/example/libstrata/libstrata/layout/LayerEnds" (some 0) with
  accessFlags := 32
  interfaces := #[]
  cf := some (fileOf pool2 8 #[.nestMembers #[27]] #[{ accessFlags := 8, nameIndex := 165, descriptorIndex := 166, attributes := #[] }] 32 2 #[] #[{ accessFlags := 26, nameIndex := 236, descriptorIndex := 12, attributes := #[] }, { accessFlags := 24, nameIndex := 239, descriptorIndex := 12, attributes := #[] }, { accessFlags := 26, nameIndex := 241, descriptorIndex := 12, attributes := #[] }, { accessFlags := 26, nameIndex := 243, descriptorIndex := 12, attributes := #[] }, { accessFlags := 26, nameIndex := 244, descriptorIndex := 12, attributes := #[] }, { accessFlags := 18, nameIndex := 19, descriptorIndex := 20, attributes := #[] }, { accessFlags := 18, nameIndex := 31, descriptorIndex := 32, attributes := #[] }, { accessFlags := 18, nameIndex := 38, descriptorIndex := 16, attributes := #[] }, { accessFlags := 18, nameIndex := 42, descriptorIndex := 43, attributes := #[] }, { accessFlags := 2, nameIndex := 11, descriptorIndex := 12, attributes := #[] }, { accessFlags := 2, nameIndex := 46, descriptorIndex := 47, attributes := #[] }, { accessFlags := 2, nameIndex := 51, descriptorIndex := 43, attributes := #[] }, { accessFlags := 2, nameIndex := 55, descriptorIndex := 43, attributes := #[] }, { accessFlags := 2, nameIndex := 59, descriptorIndex := 43, attributes := #[] }, { accessFlags := 18, nameIndex := 15, descriptorIndex := 16, attributes := #[] }])
  fields := #[{ name := "NONE", type := .int, accessFlags := 26, slot := 0, constantValue := 0 }, { name := "SHORT_SEARCH", type := .int, accessFlags := 24, slot := 1, constantValue := 0 }, { name := "CHUNK", type := .int, accessFlags := 26, slot := 2, constantValue := 0 }, { name := "LABEL_LIMIT", type := .int, accessFlags := 26, slot := 3, constantValue := 0 }, { name := "SPREAD_GAP", type := .int, accessFlags := 26, slot := 4, constantValue := 0 }, { name := "hierarchy", type := (.object "com/example/libstrata/libstrata/layout/Hierarchy"), accessFlags := 18, slot := 0, constantValue := 0 }, { name := "layers", type := (.array (.object "com/example/libstrata/libstrata/layout/LayerEnds$Read")), accessFlags := 18, slot := 1, constantValue := 0 }, { name := "labels", type := (.array .int), accessFlags := 18, slot := 2, constantValue := 0 }, { name := "labelled", type := (.array (.array .int)), accessFlags := 18, slot := 3, constantValue := 0 }, { name := "layer", type := .int, accessFlags := 2, slot := 4, constantValue := 0 }, { name := "work", type := .long, accessFlags := 2, slot := 5, constantValue := 0 }, { name := "ends", type := (.array (.array .int)), accessFlags := 2, slot := 6, constantValue := 0 }, { name := "manyEnds", type := (.array (.array .int)), accessFlags := 2, slot := 7, constantValue := 0 }, { name := "manyStart", type := (.array (.array .int)), accessFlags := 2, slot := 8, constantValue := 0 }, { name := "steps", type := (.array .int), accessFlags := 18, slot := 9, constantValue := 0 }]
  methods := #[k2m0]
  instanceTypes := #[(.object "com/example/libstrata/libstrata/layout/Hierarchy"), (.array (.object "com/example/libstrata/libstrata/layout/LayerEnds$Read")), (.array .int), (.array (.array .int)), .int, .long, (.array (.array .int)), (.array (.array .int)), (.array (.array .int)), (.array .int)]
  staticTypes := #[.int, .int, .int, .int, .int]
  resolved := Array.replicate 262 none
  statics := none }

def pool3 : Array CpInfo := pool [(1, u "java/lang/Cloneable"), (0, .class_ 1), (0, u "java/lang/Object"), (0, .class_ 3)] 3

/-- java/lang/Cloneable -/
def k3 : Class := { plain "java/lang/Cloneable" (some 0) with
  accessFlags := 1537
  interfaces := #[]
  cf := some (fileOf pool3 2 #[] #[] 1537 4 #[] #[])
  fields := #[]
  methods := #[]
  instanceTypes := #[]
  staticTypes := #[]
  resolved := Array.replicate 8 none
  statics := none }

def pool4 : Array CpInfo := pool [(1, u "java/io/Serializable"), (0, .class_ 1), (0, u "java/lang/Object"), (0, .class_ 3)] 3

/-- java/io/Serializable -/
def k4 : Class := { plain "java/io/Serializable" (some 0) with
  accessFlags := 1537
  interfaces := #[]
  cf := some (fileOf pool4 2 #[] #[] 1537 4 #[] #[])
  fields := #[]
  methods := #[]
  instanceTypes := #[]
  staticTypes := #[]
  resolved := Array.replicate 8 none
  statics := none }

/-- the primitive byte -/
def k5 : Class := { plain "byte" none with kind := .primitive 'B', accessFlags := 0x411 }
/-- [B -/
def k6 : Class := { plain "[B" (some 0) with kind := .array 5 .byte, interfaces := #[3, 4], accessFlags := 1041 }

/-- the primitive int -/
def k7 : Class := { plain "int" none with kind := .primitive 'I', accessFlags := 0x411 }
/-- [I -/
def k8 : Class := { plain "[I" (some 0) with kind := .array 7 .int, interfaces := #[3, 4], accessFlags := 1041 }

def heap : Heap := #[]
def classes : Array Class := #[k0, k1, k2, k3, k4, k5, k6, k7, k8]
def interned : List (Array UInt16 × Addr) := []
def slotsUsed : Nat := 0
def theMethod : MethodId := ⟨1, 1⟩
def args0 : Array Value := #[.long 5, .long 6, .int 3, .int 4, .int 5]
def aboutOver (below : List Frame) : State where
  vm := { classes := classes, interned := interned.toArray }
  heap := heap
  slotsUsed := slotsUsed
  threads := #[{ frames := .invoking theMethod args0 :: below }]
def below0 : List Frame := [.native { method := ⟨0, 0⟩, args := #[] }]
def about1 : State := aboutOver below0
def p0 : Program := .bare "" "" ""
def e0 : Env := launch0.env 0 0 0
theorem w_frames : about1.frames = Frame.invoking theMethod args0 :: below0 := rfl
set_option maxRecDepth 65536 in
theorem w_args : argsFit about1.vm theMethod args0 = true := by decide +kernel
set_option maxRecDepth 65536 in
theorem w_heap : heapFits about1 = true := by decide +kernel
set_option maxRecDepth 65536 in
theorem w_runnable : about1.curStatus? = some .runnable := by decide +kernel
set_option maxRecDepth 65536 in
theorem w_alone : about1.alone = true := by decide +kernel
set_option maxRecDepth 65536 in
theorem w_named : about1.methodNamed? x = some theMethod := by decide +kernel
set_option maxRecDepth 65536 in
theorem w_hears : about1.hears theMethod below0 = true := by decide +kernel
set_option maxRecDepth 65536 in
theorem w_ripe : about1.ripe theMethod args0 below0 = true := by decide +kernel
theorem w_running : about1.status = .running := rfl
set_option maxRecDepth 65536 in
theorem w_room : about1.hasRoom e0.platform room_1 = true :=
  launch0.hasRoom_least _ room_1 (by decide +kernel) (by decide +kernel) (by decide +kernel) (by decide +kernel) (by decide +kernel) (by decide +kernel)
theorem allAtoms_all (ts : List Jvm.Cond) (a : Array Jvm.Value) (st : Jvm.State) : (allAtoms ts).before a st = ts.all (fun c => c.before a st) := by
  induction ts with
  | nil => rfl
  | cons c t ih =>
    show (Jvm.Cond.and c (allAtoms t)).before a st = _
    rw [Jvm.Cond.before_and, ih, List.all_cons]
def words1 : List Jvm.Cond := Jvm.Cond.code x code maxLocals ret :: tables_1
/-- a 'code' word, met by the world's own term for the bytes: nothing is compared byte by byte -/
theorem code_word {y : MethodName} {bytes : ByteArray} {mx : Nat} {rt : Option FieldType} {a : Array Value} {s : State} {m : MethodId} {meth : Method} {c : Code} (h1 : s.methodNamed? y = some m) (h2 : s.vm.method? m = some meth) (h3 : meth.code = some c) (h4 : c.code = bytes)
    (h5 : (c.maxLocals == mx && c.exceptionTable.isEmpty && decide (c.maxStack ≤ mostOperands) && decide (meth.sig.returnType = rt) && !meth.locks && decide (parseMethodDescriptor y.desc = some meth.sig)) = true) : (Jvm.Cond.code y bytes mx rt).before a s = true := by
  simp only [Bool.and_eq_true, beq_iff_eq, Bool.not_eq_true', decide_eq_true_eq] at h5
  obtain ⟨⟨⟨⟨⟨g1, g2⟩, g3⟩, g4⟩, g5⟩, g6⟩ := h5
  simp [Cond.before, Cond.holds, Cond.value, h1, h2, h3, h4, g1, g2, g3, g4, g5, g6]
def isCode : Jvm.Cond → Bool
  | .code _ _ _ _ => true
  | _ => false
theorem all_split {L : List Jvm.Cond} {P : Jvm.Cond → Bool} (h1 : L.all (fun c => isCode c || P c) = true) (h2 : ∀ c ∈ L.filter isCode, P c = true) : L.all P = true := by
  refine List.all_eq_true.mpr fun c hc => ?_
  have h := List.all_eq_true.mp h1 c hc
  rcases Bool.eq_false_or_eq_true (isCode c) with hi | hi
  · exact h2 c (List.mem_filter.mpr ⟨hc, hi⟩)
  · simpa [hi] using h
set_option maxRecDepth 65536 in
theorem w_c0 : (Jvm.Cond.code x code maxLocals ret).before args0 about1 = true := code_word (m := ⟨1, 1⟩) (meth := k1m1) (c := k1c1) (by decide +kernel) rfl rfl rfl (by decide +kernel)
set_option maxRecDepth 65536 in
theorem w_c1 : (Jvm.Cond.code ({ cls := "com/example/libstrata/libstrata/layout/LayerEndsFirstAbovePinLaw", name := "cs", desc := "([III)V" } : Jvm.MethodName) method_3_code (4 : Nat) (Option.none : Option Jvm.ClassFile.FieldType)).before args0 about1 = true := code_word (m := ⟨1, 2⟩) (meth := k1m2) (c := k1c2) (by decide +kernel) rfl rfl rfl (by decide +kernel)
set_option maxRecDepth 65536 in
theorem w_c2 : (Jvm.Cond.code ({ cls := "com/example/libstrata/libstrata/layout/LayerEnds", name := "firstAbove", desc := "([IIII)I" } : Jvm.MethodName) prog_41_method_26_code (7 : Nat) (Option.some Jvm.ClassFile.FieldType.int)).before args0 about1 = true := code_word (m := ⟨2, 0⟩) (meth := k2m0) (c := k2c0) (by decide +kernel) rfl rfl rfl (by decide +kernel)
set_option maxRecDepth 65536 in
theorem w_c3 : (Jvm.Cond.code ({ cls := "com/example/libstrata/libstrata/layout/LayerEndsFirstAbovePinLaw", name := "le", desc := "([IIIII)I" } : Jvm.MethodName) method_4_code (5 : Nat) (Option.some Jvm.ClassFile.FieldType.int)).before args0 about1 = true := code_word (m := ⟨1, 3⟩) (meth := k1m3) (c := k1c3) (by decide +kernel) rfl rfl rfl (by decide +kernel)
def codes1 : List Jvm.Cond := [Jvm.Cond.code x code maxLocals ret, Jvm.Cond.code ({ cls := "com/example/libstrata/libstrata/layout/LayerEndsFirstAbovePinLaw", name := "cs", desc := "([III)V" } : Jvm.MethodName) method_3_code (4 : Nat) (Option.none : Option Jvm.ClassFile.FieldType), Jvm.Cond.code ({ cls := "com/example/libstrata/libstrata/layout/LayerEnds", name := "firstAbove", desc := "([IIII)I" } : Jvm.MethodName) prog_41_method_26_code (7 : Nat) (Option.some Jvm.ClassFile.FieldType.int), Jvm.Cond.code ({ cls := "com/example/libstrata/libstrata/layout/LayerEndsFirstAbovePinLaw", name := "le", desc := "([IIIII)I" } : Jvm.MethodName) method_4_code (5 : Nat) (Option.some Jvm.ClassFile.FieldType.int)]
set_option maxRecDepth 65536 in
theorem codes_eq : words1.filter isCode = codes1 := rfl
theorem w_codes : ∀ c ∈ words1.filter isCode, c.before args0 about1 = true := by
  rw [codes_eq]
  intro c hc
  simp only [codes1, List.mem_cons, List.not_mem_nil, or_false] at hc
  rcases hc with rfl | rfl | rfl | rfl
  · exact w_c0
  · exact w_c1
  · exact w_c2
  · exact w_c3
set_option maxRecDepth 65536 in
theorem w_t1 : words1.all (fun c => isCode c || c.before args0 about1) = true := by decide +kernel
theorem w_tables : (allAtoms (Jvm.Cond.code x code maxLocals ret :: tables_1)).before args0 about1 = true := by
  rw [allAtoms_all]
  show words1.all (fun c => c.before args0 about1) = true
  refine all_split ?_ w_codes
  rw [w_t1]
set_option maxRecDepth 65536 in
theorem w_case : (Jvm.Cond.and given_1 narrow_1).before args0 about1 = true := by decide +kernel
theorem w_applies : (headSpec (Jvm.Cond.code x code maxLocals ret :: tables_1) room_1).applies x e0.platform about1 = true :=
  (Spec.applies_iff w_frames).mpr ⟨w_running, w_runnable, w_alone, w_named, w_hears, w_ripe, w_room, w_tables⟩
theorem atStart : AtStart classFile x code maxLocals ret World_1 tables_1 room_1 Calls_1 rest_1 Pre_1 launch0 p0 e0 about1 theMethod args0 below0 :=
  ⟨lists_1, trivial, launch0.admits_env _ _ _, launch0.least_env, fairChoices_fair.cas, fairChoices_fair.clock, w_frames, w_args, w_heap, w_applies, trivial, trivial, w_case⟩
end start1
theorem witness_1 : WitnessClaimed_1 := ⟨start1.p0, start1.e0, start1.about1, start1.theMethod, start1.args0, start1.below0, start1.atStart⟩
end Jvm.Pilot.@@N@@
