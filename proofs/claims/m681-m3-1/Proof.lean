import JvmDerived
import JvmDerived.Pilot.@@N@@Statement
import JvmDerived.Pilot.@@N@@Code
set_option linter.unusedVariables false
set_option linter.unusedSimpArgs false
namespace Jvm.Pilot.@@N@@
open Jvm Jvm.ClassFile Sem Op Lib Jvm.Free Jvm.Stand Jvm.LawKit Jvm.RoadKit Bundle Jvm.Pilot.@@N@@.Jvm.D
section Own
variable {p : Program} {l : Launch} {e : Env} {R : Room} {s : State} {m : MethodId} {args : Array Value} {below : List Frame} {meth : Method} {c : Code} {T : State} {locs : List Loc} {cells slots : Nat} {Z : State} {h h' : Heap} {a b : Addr} {ty : FieldType} {vs : List Value} {v : Value} {sl : Nat}
/-- from here the run comes to an end that Q allows -/
def own_fin (p : Program) (e : Env) (below : List Frame) (s : State) (cl sl : Nat) (Q : Option Value → Heap → List Loc → Prop) (S : State) : Prop :=
  ∃ s₂ o, Steps p.tables e below S s₂ ∧ s₂.status = .running ∧ Ended s₂ below o ∧ ∃ v L, o = .returned v ∧ Q v s₂.heap L ∧ FrameEnd s o s₂ L cl sl
theorem own_by {cl sl : Nat} {Q : Option Value → Heap → List Loc → Prop} {S S' : State} (st : ∀ target, Steps p.tables e below S' target → Steps p.tables e below S target) (k : own_fin p e below s cl sl Q S') : own_fin p e below s cl sl Q S := by
  obtain ⟨s2, o, h1, h2⟩ := k
  exact ⟨s2, o, st _ h1, h2⟩
theorem own_tr {cl sl : Nat} {Q : Option Value → Heap → List Loc → Prop} {S S' : State} (st : Steps p.tables e below S S') (k : own_fin p e below s cl sl Q S') : own_fin p e below s cl sl Q S := by
  obtain ⟨s2, o, h1, h2⟩ := k
  exact ⟨s2, o, st.trans h1, h2⟩
theorem own_start {cl sl : Nat} {Q : Option Value → Heap → List Loc → Prop} {s₁ : State} {mx : Nat} {g : JFrame} (q : entryFrame m args mx = g) (k : own_fin p e below s cl sl Q (s₁.setTop g)) :
    ∃ s₂ o, Steps p.tables e below (s₁.setTop (entryFrame m args mx)) s₂ ∧ s₂.status = .running ∧ Ended s₂ below o ∧ ∃ v L, o = .returned v ∧ Q v s₂.heap L ∧ FrameEnd s o s₂ L cl sl := by
  rw [q]; exact k
theorem own_ret (X : Stand p l e R s m args below meth c T locs cells slots) (hx : p.tables.exec = Jvm.exec) {cl sl : Nat} {Q : Option Value → Heap → List Loc → Prop} {pc : Nat} {Ls : Array Slot} {w : Value} {t : FieldType} {i : Instr} {rest : List Value} (hret : meth.sig.returnType = some t) (hn : narrow t w = w)
    (hi : (i = .ireturn ∧ (t = .int ∨ t = .boolean ∨ t = .byte ∨ t = .char ∨ t = .short) ∧ ∃ z, w = .int z) ∨ (i = .lreturn ∧ t = .long ∧ ∃ z, w = .long z) ∨ (i = .dreturn ∧ t = .double ∧ ∃ z, w = .double z) ∨ (i = .freturn ∧ t = .float ∧ ∃ z, w = .float z) ∨ (i = .areturn ∧ t.isReference = true ∧ w.isRef = true))
    (hd : decode c.code pc = .ok (i, 1)) (hlk : meth.locks = false) (hc : cells ≤ cl) (hs : slots ≤ sl) (q : Q (some w) T.heap locs) : own_fin p e below s cl sl Q (T.setTop (mkF m pc Ls (w :: rest))) := by
  obtain ⟨fs, hr, hrun, hended, hW, hsame⟩ := X.leave (v := some w) (fun h => by rw [hret] at h; cases h)
  exact ⟨_, _, retOut X hx hret hn hi hd hr, hrun, hended, _, _, rfl, q, ⟨_, rfl⟩, hW, hsame.mono hc hs⟩
theorem own_ret0 (X : Stand p l e R s m args below meth c T locs cells slots) (hx : p.tables.exec = Jvm.exec) {cl sl : Nat} {Q : Option Value → Heap → List Loc → Prop} {pc : Nat} {Ls : Array Slot} (hret : meth.sig.returnType = none)
    (hd : decode c.code pc = .ok (.return_, 1)) (hlk : meth.locks = false) (hc : cells ≤ cl) (hs : slots ≤ sl) (q : Q none T.heap locs) : own_fin p e below s cl sl Q (T.setTop (mkF m pc Ls [])) := by
  obtain ⟨fs, hr, hrun, hended, hW, hsame⟩ := X.leave (v := none) (fun _ => rfl)
  exact ⟨_, _, X.returnOut hx hret hd hr, hrun, hended, _, _, rfl, q, ⟨_, rfl⟩, hW, hsame.mono hc hs⟩
/-- the array at a holds just these values -/
def OwnA (Z : State) (h : Heap) (a : Addr) (ty : FieldType) (vs : List Value) : Prop := ∃ c : Cell, Arr Z h a c ty ∧ c.slots.toList = vs
theorem OwnA.lt (F : OwnA Z h a ty vs) : a < h.size := by obtain ⟨c, A, -⟩ := F; exact A.lt
theorem OwnA.ext (F : OwnA Z h a ty vs) (E : Ext h h') : OwnA Z h' a ty vs := by obtain ⟨c, A, r⟩ := F; exact ⟨c, A.ext E, r⟩
theorem OwnA.other (F : OwnA Z h a ty vs) (W : Wr h h' b sl v) (q : a ≠ b) : OwnA Z h' a ty vs := by obtain ⟨c, A, r⟩ := F; exact ⟨c, A.other W q, r⟩
theorem OwnA.keep {ws : List Addr} (F : OwnA Z h a ty vs) (K : Keep h h' ws) (q : a ∉ ws) : OwnA Z h' a ty vs := by obtain ⟨c, A, r⟩ := F; exact ⟨c, ⟨K.2.1 a c A.1 q, A.2⟩, r⟩
theorem OwnA.set (F : OwnA Z h a ty vs) (W : Wr h h' a sl v) : OwnA Z h' a ty (vs.set sl v) := by
  obtain ⟨c, A, rfl⟩ := F
  exact ⟨_, A.same W, by simp [Cell.setSlot]⟩
theorem own_new {k : ClassId} {z : Int32} (A : Arr Z h a (newA k ty z) ty) (q : List.replicate z.toNatClampNeg (defaultValue ty) = vs) : OwnA Z h a ty vs := ⟨_, A, by rw [← q]; simp [newA]⟩
theorem own_inb {cl : Cell} {j : Int32} (hj : ¬ j < 0) (hv : cl.slots.toList[j.toNatClampNeg]? = some v) : ¬ (j < 0 ∨ cl.slots.size ≤ j.toNatClampNeg) ∧ cl.slots[j.toNatClampNeg]? = some v := by
  rw [Array.getElem?_toList] at hv
  exact ⟨fun q => q.elim hj fun q => absurd (Array.getElem?_eq_some_iff.mp hv).1 (Nat.not_lt.mpr q), hv⟩
theorem own_len (X : Stand p l e R s m args below meth c T locs cells slots) (hx : p.tables.exec = Jvm.exec) (hZ : Z.Warmed39 s.vm) (eT : T.heap = h) (F : OwnA Z h a ty vs) {z : Int32} (hz : Int32.ofNat vs.length = z) {g : JFrame} (hg : g.method = m) {rest : List Value} (hs : g.stack = .ref a :: rest)
    (hd : decode c.code g.pc = .ok (.arraylength, 1)) (target : State) (k : Steps p.tables e below (T.setTop { g with pc := g.pc + 1, stack := .int z :: rest }) target) : Steps p.tables e below (T.setTop g) target := by
  obtain ⟨cl, A, rfl⟩ := F
  refine X.arraylength hx (cell := cl) (by rw [eT]; exact A.1) (State.isArrayOf_alike hZ.alike A.2.1) hg hs hd _ ?_
  rw [Array.length_toList] at hz
  rw [show cl.slots.size.toInt32 = z from hz]; exact k
theorem own_iaload (X : Stand p l e R s m args below meth c T locs cells slots) (hx : p.tables.exec = Jvm.exec) (hZ : Z.Warmed39 s.vm) (eT : T.heap = h) (F : OwnA Z h a .int vs) {j : Int32} (hj : ¬ j < 0) (hv : vs[j.toNatClampNeg]? = some v) {g : JFrame} (hg : g.method = m) {rest : List Value} (hs : g.stack = .int j :: .ref a :: rest)
    (hd : decode c.code g.pc = .ok (.iaload, 1)) (target : State) (k : Steps p.tables e below (T.setTop { g with pc := g.pc + 1, stack := v :: rest }) target) : Steps p.tables e below (T.setTop g) target := by
  obtain ⟨cl, A, rfl⟩ := F
  exact X.iaload hx (by rw [eT]; exact A.1) (State.isArrayOf_alike hZ.alike A.2.1) A.2.2 (own_inb hj hv).1 (own_inb hj hv).2 hg hs hd _ k
theorem own_laload (X : Stand p l e R s m args below meth c T locs cells slots) (hx : p.tables.exec = Jvm.exec) (hZ : Z.Warmed39 s.vm) (eT : T.heap = h) (F : OwnA Z h a .long vs) {j : Int32} (hj : ¬ j < 0) (hv : vs[j.toNatClampNeg]? = some v) {g : JFrame} (hg : g.method = m) {rest : List Value} (hs : g.stack = .int j :: .ref a :: rest)
    (hd : decode c.code g.pc = .ok (.laload, 1)) (target : State) (k : Steps p.tables e below (T.setTop { g with pc := g.pc + 1, stack := v :: rest }) target) : Steps p.tables e below (T.setTop g) target := by
  obtain ⟨cl, A, rfl⟩ := F
  exact X.laload hx (by rw [eT]; exact A.1) (State.isArrayOf_alike hZ.alike A.2.1) A.2.2 (own_inb hj hv).1 (own_inb hj hv).2 hg hs hd _ k
theorem own_caload (X : Stand p l e R s m args below meth c T locs cells slots) (hx : p.tables.exec = Jvm.exec) (hZ : Z.Warmed39 s.vm) (eT : T.heap = h) (F : OwnA Z h a .char vs) {j : Int32} (hj : ¬ j < 0) (hv : vs[j.toNatClampNeg]? = some v) {g : JFrame} (hg : g.method = m) {rest : List Value} (hs : g.stack = .int j :: .ref a :: rest)
    (hd : decode c.code g.pc = .ok (.caload, 1)) (target : State) (k : Steps p.tables e below (T.setTop { g with pc := g.pc + 1, stack := v :: rest }) target) : Steps p.tables e below (T.setTop g) target := by
  obtain ⟨cl, A, rfl⟩ := F
  exact X.caload hx (by rw [eT]; exact A.1) (State.isArrayOf_alike hZ.alike A.2.1) A.2.2 (own_inb hj hv).1 (own_inb hj hv).2 hg hs hd _ k
theorem own_baload (X : Stand p l e R s m args below meth c T locs cells slots) (hx : p.tables.exec = Jvm.exec) (hZ : Z.Warmed39 s.vm) (eT : T.heap = h) (F : OwnA Z h a .byte vs) {j : Int32} (hj : ¬ j < 0) (hv : vs[j.toNatClampNeg]? = some v) {g : JFrame} (hg : g.method = m) {rest : List Value} (hs : g.stack = .int j :: .ref a :: rest)
    (hd : decode c.code g.pc = .ok (.baload, 1)) (target : State) (k : Steps p.tables e below (T.setTop { g with pc := g.pc + 1, stack := v :: rest }) target) : Steps p.tables e below (T.setTop g) target := by
  obtain ⟨cl, A, rfl⟩ := F
  exact X.baloadBytes hx (by rw [eT]; exact A.1) (State.isArrayOf_alike hZ.alike A.2.1) A.2.2 (own_inb hj hv).1 (own_inb hj hv).2 hg hs hd _ k
theorem own_baloadZ (X : Stand p l e R s m args below meth c T locs cells slots) (hx : p.tables.exec = Jvm.exec) (hZ : Z.Warmed39 s.vm) (eT : T.heap = h) (F : OwnA Z h a .boolean vs) {j : Int32} (hj : ¬ j < 0) (hv : vs[j.toNatClampNeg]? = some v) {g : JFrame} (hg : g.method = m) {rest : List Value} (hs : g.stack = .int j :: .ref a :: rest)
    (hd : decode c.code g.pc = .ok (.baload, 1)) (target : State) (k : Steps p.tables e below (T.setTop { g with pc := g.pc + 1, stack := v :: rest }) target) : Steps p.tables e below (T.setTop g) target := by
  obtain ⟨cl, A, rfl⟩ := F
  exact X.baloadBooleans hx (by rw [eT]; exact A.1) (State.isArrayOf_alike hZ.alike A.2.1) A.2.2 (own_inb hj hv).1 (own_inb hj hv).2 hg hs hd _ k
theorem own_aaload (X : Stand p l e R s m args below meth c T locs cells slots) (hx : p.tables.exec = Jvm.exec) (hZ : Z.Warmed39 s.vm) (eT : T.heap = h) (F : OwnA Z h a ty vs) (hty : ty.isReference = true) {j : Int32} (hj : ¬ j < 0) (hv : vs[j.toNatClampNeg]? = some v) {g : JFrame} (hg : g.method = m) {rest : List Value} (hs : g.stack = .int j :: .ref a :: rest)
    (hd : decode c.code g.pc = .ok (.aaload, 1)) (target : State) (k : Steps p.tables e below (T.setTop { g with pc := g.pc + 1, stack := v :: rest }) target) : Steps p.tables e below (T.setTop g) target := by
  obtain ⟨cl, A, rfl⟩ := F
  exact X.aaload hx (by rw [eT]; exact A.1) (State.isArrayOf_alike hZ.alike A.2.1) hty A.2.2 (own_inb hj hv).1 (own_inb hj hv).2 hg hs hd _ k
theorem own_inl {cl : Cell} {j : Int32} (hj : ¬ j < 0) (hl : j.toNatClampNeg < cl.slots.toList.length) : ¬ (j < 0 ∨ cl.slots.size ≤ j.toNatClampNeg) := by
  rw [Array.length_toList] at hl
  exact fun q => q.elim hj fun q => absurd hl (Nat.not_lt.mpr q)
theorem own_stI (X : Stand p l e R s m args below meth c T locs cells slots) (hx : p.tables.exec = Jvm.exec) (hZ : Z.Warmed39 s.vm) (eT : T.heap = h) (F : OwnA Z h a .int vs) {j x : Int32} (hj : ¬ j < 0) (hl : j.toNatClampNeg < vs.length) {g : JFrame} (hg : g.method = m) {rest : List Value} (hs : g.stack = .int x :: .int j :: .ref a :: rest) (hd : decode c.code g.pc = .ok (.iastore, 1)) :
    ∃ T' h', Stand p l e R s m args below meth c T' (locs ++ [⟨a, j.toNatClampNeg⟩]) cells slots ∧ T'.heap = h' ∧ Wr h h' a j.toNatClampNeg (.int x) ∧ ∀ target, Steps p.tables e below (T'.setTop { g with pc := g.pc + 1, stack := rest }) target → Steps p.tables e below (T.setTop g) target := by
  obtain ⟨cl, A, rfl⟩ := F
  exact stI X hx hZ eT A (own_inl hj hl) hg hs hd
theorem own_stJ (X : Stand p l e R s m args below meth c T locs cells slots) (hx : p.tables.exec = Jvm.exec) (hZ : Z.Warmed39 s.vm) (eT : T.heap = h) (F : OwnA Z h a .long vs) {j : Int32} {x : Int64} (hj : ¬ j < 0) (hl : j.toNatClampNeg < vs.length) {g : JFrame} (hg : g.method = m) {rest : List Value} (hs : g.stack = .long x :: .int j :: .ref a :: rest) (hd : decode c.code g.pc = .ok (.lastore, 1)) :
    ∃ T' h', Stand p l e R s m args below meth c T' (locs ++ [⟨a, j.toNatClampNeg⟩]) cells slots ∧ T'.heap = h' ∧ Wr h h' a j.toNatClampNeg (.long x) ∧ ∀ target, Steps p.tables e below (T'.setTop { g with pc := g.pc + 1, stack := rest }) target → Steps p.tables e below (T.setTop g) target := by
  obtain ⟨cl, A, rfl⟩ := F
  exact stJ X hx hZ eT A (own_inl hj hl) hg hs hd
theorem own_stB (X : Stand p l e R s m args below meth c T locs cells slots) (hx : p.tables.exec = Jvm.exec) (hZ : Z.Warmed39 s.vm) (eT : T.heap = h) (F : OwnA Z h a .byte vs) {j x : Int32} (hj : ¬ j < 0) (hl : j.toNatClampNeg < vs.length) {g : JFrame} (hg : g.method = m) {rest : List Value} (hs : g.stack = .int x :: .int j :: .ref a :: rest) (hd : decode c.code g.pc = .ok (.bastore, 1)) :
    ∃ T' h', Stand p l e R s m args below meth c T' (locs ++ [⟨a, j.toNatClampNeg⟩]) cells slots ∧ T'.heap = h' ∧ Wr h h' a j.toNatClampNeg (.int x.toInt8.toInt32) ∧ ∀ target, Steps p.tables e below (T'.setTop { g with pc := g.pc + 1, stack := rest }) target → Steps p.tables e below (T.setTop g) target := by
  obtain ⟨cl, A, rfl⟩ := F
  exact stB X hx hZ eT A (own_inl hj hl) hg hs hd
theorem own_stC (X : Stand p l e R s m args below meth c T locs cells slots) (hx : p.tables.exec = Jvm.exec) (hZ : Z.Warmed39 s.vm) (eT : T.heap = h) (F : OwnA Z h a .char vs) {j x : Int32} (hj : ¬ j < 0) (hl : j.toNatClampNeg < vs.length) {g : JFrame} (hg : g.method = m) {rest : List Value} (hs : g.stack = .int x :: .int j :: .ref a :: rest) (hd : decode c.code g.pc = .ok (.castore, 1)) :
    ∃ T' h', Stand p l e R s m args below meth c T' (locs ++ [⟨a, j.toNatClampNeg⟩]) cells slots ∧ T'.heap = h' ∧ Wr h h' a j.toNatClampNeg (.int x.toUInt32.toUInt16.toUInt32.toInt32) ∧ ∀ target, Steps p.tables e below (T'.setTop { g with pc := g.pc + 1, stack := rest }) target → Steps p.tables e below (T.setTop g) target := by
  obtain ⟨cl, A, rfl⟩ := F
  exact stC X hx hZ eT A (own_inl hj hl) hg hs hd
end Own
theorem own_eqint {args : Array Value} {first s : State} {o : Option Outcome} {idx : List Nat} {a : Term} {k : Int32} (h : (Cond.eq a (.int k)).value args first o s idx = some true) : a.eval args first o idx s = some (.int k) := by
  simp only [Cond.value, Term.int_eval] at h
  cases ha : a.eval args first o idx s with
  | none => simp [ha] at h
  | some x => cases x <;> simp [ha] at h ⊢; exact h
theorem own_m7 (x : Int32) : x &&& (7 : Int32) = 0 ∨ x &&& (7 : Int32) = 1 ∨ x &&& (7 : Int32) = 2 ∨ x &&& (7 : Int32) = 3 ∨ x &&& (7 : Int32) = 4 ∨ x &&& (7 : Int32) = 5 ∨ x &&& (7 : Int32) = 6 ∨ x &&& (7 : Int32) = 7 := by
  have h1 := c_mask x (7 : Int32) 3 (by decide) (by decide)
  simp only [← Int32.toInt_inj, h1, Int32.reduceToInt]
  omega
theorem d1_0 : decode method_2_code 0 = .ok (.iload_n 0, 1) := by decide +kernel
theorem d1_1 : decode method_2_code 1 = .ok (.ifCond .ne 7, 3) := by decide +kernel
theorem d1_4 : decode method_2_code 4 = .ok (.getstatic 7, 3) := by decide +kernel
theorem d1_7 : decode method_2_code 7 = .ok (.areturn, 1) := by decide +kernel
theorem d1_8 : decode method_2_code 8 = .ok (.iload_n 0, 1) := by decide +kernel
theorem d1_9 : decode method_2_code 9 = .ok (.iconst 1, 1) := by decide +kernel
theorem d1_10 : decode method_2_code 10 = .ok (.if_icmp .ne 7, 3) := by decide +kernel
theorem d1_13 : decode method_2_code 13 = .ok (.getstatic 13, 3) := by decide +kernel
theorem d1_16 : decode method_2_code 16 = .ok (.areturn, 1) := by decide +kernel
theorem d1_17 : decode method_2_code 17 = .ok (.iload_n 0, 1) := by decide +kernel
theorem d1_18 : decode method_2_code 18 = .ok (.iconst 2, 1) := by decide +kernel
theorem d1_19 : decode method_2_code 19 = .ok (.if_icmp .ne 7, 3) := by decide +kernel
theorem d1_22 : decode method_2_code 22 = .ok (.getstatic 16, 3) := by decide +kernel
theorem d1_25 : decode method_2_code 25 = .ok (.areturn, 1) := by decide +kernel
theorem d1_26 : decode method_2_code 26 = .ok (.iload_n 0, 1) := by decide +kernel
theorem d1_27 : decode method_2_code 27 = .ok (.iconst 3, 1) := by decide +kernel
theorem d1_28 : decode method_2_code 28 = .ok (.if_icmp .ne 7, 3) := by decide +kernel
theorem d1_31 : decode method_2_code 31 = .ok (.getstatic 19, 3) := by decide +kernel
theorem d1_34 : decode method_2_code 34 = .ok (.areturn, 1) := by decide +kernel
theorem d1_35 : decode method_2_code 35 = .ok (.iload_n 0, 1) := by decide +kernel
theorem d1_36 : decode method_2_code 36 = .ok (.iconst 4, 1) := by decide +kernel
theorem d1_37 : decode method_2_code 37 = .ok (.if_icmp .ne 7, 3) := by decide +kernel
theorem d1_40 : decode method_2_code 40 = .ok (.getstatic 22, 3) := by decide +kernel
theorem d1_43 : decode method_2_code 43 = .ok (.areturn, 1) := by decide +kernel
theorem d1_44 : decode method_2_code 44 = .ok (.iload_n 0, 1) := by decide +kernel
theorem d1_45 : decode method_2_code 45 = .ok (.iconst 5, 1) := by decide +kernel
theorem d1_46 : decode method_2_code 46 = .ok (.if_icmp .ne 7, 3) := by decide +kernel
theorem d1_49 : decode method_2_code 49 = .ok (.getstatic 25, 3) := by decide +kernel
theorem d1_52 : decode method_2_code 52 = .ok (.areturn, 1) := by decide +kernel
theorem d1_53 : decode method_2_code 53 = .ok (.iload_n 0, 1) := by decide +kernel
theorem d1_54 : decode method_2_code 54 = .ok (.bipush 6, 2) := by decide +kernel
theorem d1_56 : decode method_2_code 56 = .ok (.if_icmp .ne 7, 3) := by decide +kernel
theorem d1_59 : decode method_2_code 59 = .ok (.getstatic 28, 3) := by decide +kernel
theorem d1_62 : decode method_2_code 62 = .ok (.areturn, 1) := by decide +kernel
theorem d1_63 : decode method_2_code 63 = .ok (.getstatic 31, 3) := by decide +kernel
theorem d1_66 : decode method_2_code 66 = .ok (.areturn, 1) := by decide +kernel
theorem pn_1 : plainName "com/example/triarch/triarch/VerdictPossiblePinLaw" = true := by first | (simp [plainName, overriddenIn]; done) | decide +kernel
theorem ef_rm1_0 (m : MethodId) (x0 : Int32) : entryFrame m #[(.int x0)] 1 = mkF m 0 #[.val (.int x0)] [] := by first | (simp [entryFrame, mkF, argsToLocals, Value.category]; done) | rfl
def Q_rm1_0 (Z : State) (ad0 : Addr) (h0 : Heap) (n0 : Nat) (v : Option Value) (h : Heap) (L : List Loc) : Prop := v = some (.ref ad0) ∧ Fr n0 L ∧ h = h0
set_option maxRecDepth 65536 in
set_option maxHeartbeats 40000000 in
theorem rm1_0 (l : Launch) (Z : State) (a0 : Array Value) (hw : ∀ d ∈ tables_1, d.before a0 Z = true) (ws : List Jvm.Cond) (ad0 : Addr) (h0 : Heap) (n0 : Nat) (Zn : n0 ≤ h0.size) (S0 : Sta Z h0 "com/example/triarch/triarch/Payments$Verdict" "ALREADY_BUILT" "Lcom/example/triarch/triarch/Payments$Verdict;" (.ref ad0)) :
    MetFree l (⟨"com/example/triarch/triarch/VerdictPossiblePinLaw", "pick", "(I)Lcom/example/triarch/triarch/Payments$Verdict;"⟩ : MethodName) (head1 (Jvm.Cond.code (⟨"com/example/triarch/triarch/VerdictPossiblePinLaw", "pick", "(I)Lcom/example/triarch/triarch/Payments$Verdict;"⟩ : MethodName) method_2_code 1 (some (.object "com/example/triarch/triarch/Payments$Verdict")) :: ws) ({ frames := 0, cells := 0, slots := 0, locals := 0 } : Room)) (fun a U => a = #[(.int (0 : Int32))] ∧ Z.Warmed39 U.vm ∧ U.heap = h0) (fun _ _ _ _ _ => True) (fun _ U o U' => ∃ v L, o = .returned v ∧ (Q_rm1_0 Z ad0 h0 n0) v U'.heap L ∧ FrameEnd U o U' L ({ frames := 0, cells := 0, slots := 0, locals := 0 } : Room).cells ({ frames := 0, cells := 0, slots := 0, locals := 0 } : Room).slots) := by
  refine MetFree.of_bodySF (plainFor_of_name pn_1) hisR ?_
  intro p e s m args below meth c s₁ Bd hml0 hP hK
  obtain ⟨rfl, hZ, hh⟩ := hP
  have hx := Bd.exec
  have hby := Bd.bytes
  have hml : c.maxLocals = 1 := hml0
  have hown : s.vm.findClass "com/example/triarch/triarch/VerdictPossiblePinLaw" = some m.cls := findClass_of_methodNamed Bd.named
  have hnm := (name_of_methodNamed Bd.named Bd.method).1
  have hlk : meth.locks = false := BodyLoose.notSynchronized Bd
  have X0 : Stand p l e ({ frames := 0, cells := 0, slots := 0, locals := 0 } : Room) s m #[(.int (0 : Int32))] below meth c s₁ [] 0 0 := Stand.of_body Bd
  have e0 : s₁.heap = h0 := by rw [← hh, Bd.state]; rfl
  have N := Fr.nil n0
  have K := Keep.refl h0 []
  refine own_start (cl := ({ frames := 0, cells := 0, slots := 0, locals := 0 } : Room).cells) (sl := ({ frames := 0, cells := 0, slots := 0, locals := 0 } : Room).slots) (Q := (Q_rm1_0 Z ad0 h0 n0)) (ef_rm1_0 m ((0 : Int32))) ?_
  refine own_by (S' := (s₁.setTop (mkF m 1 #[.val (.int (0 : Int32))] [(.int (0 : Int32))]))) (fun _ k => XS.iloadN X0.here hx rfl (hb hby d1_0) rfl k) ?_
  refine own_by (S' := (s₁.setTop (mkF m 4 #[.val (.int (0 : Int32))] []))) (fun _ k => XS.ifNo X0.here hx rfl (hb hby d1_1) rfl ((if0 _ _).trans (teq ((by decide) : (0 : Int32) = (0 : Int32))).2) k) ?_
  obtain ⟨T1, X1, e1, st1⟩ := getS2 X0 hx hZ hown (host := "") (Or.inl (hw _ (List.mem_of_getElem? (i := 4) rfl))) Via.refl e0 S0 (g := (mkF m 4 #[.val (.int (0 : Int32))] [])) rfl (hb hby d1_4)
  refine own_by (S' := (T1.setTop (mkF m 7 #[.val (.int (0 : Int32))] [(.ref ad0)]))) st1 ?_
  exact own_ret X1 hx (t := (.object "com/example/triarch/triarch/Payments$Verdict")) Bd.returns rfl (Or.inr (Or.inr (Or.inr (Or.inr ⟨rfl, rfl, rfl⟩)))) (hb hby d1_7) hlk (by decide : 0 ≤ _) (by decide : 0 ≤ _) (by rw [e1]; exact ⟨rfl, N, rfl⟩)
theorem ef_rm1_1 (m : MethodId) (x0 : Int32) : entryFrame m #[(.int x0)] 1 = mkF m 0 #[.val (.int x0)] [] := by first | (simp [entryFrame, mkF, argsToLocals, Value.category]; done) | rfl
def Q_rm1_1 (Z : State) (ad1 : Addr) (h0 : Heap) (n0 : Nat) (v : Option Value) (h : Heap) (L : List Loc) : Prop := v = some (.ref ad1) ∧ Fr n0 L ∧ h = h0
set_option maxRecDepth 65536 in
set_option maxHeartbeats 40000000 in
theorem rm1_1 (l : Launch) (Z : State) (a0 : Array Value) (hw : ∀ d ∈ tables_1, d.before a0 Z = true) (ws : List Jvm.Cond) (ad1 : Addr) (h0 : Heap) (n0 : Nat) (Zn : n0 ≤ h0.size) (S1 : Sta Z h0 "com/example/triarch/triarch/Payments$Verdict" "NO_STAGE" "Lcom/example/triarch/triarch/Payments$Verdict;" (.ref ad1)) :
    MetFree l (⟨"com/example/triarch/triarch/VerdictPossiblePinLaw", "pick", "(I)Lcom/example/triarch/triarch/Payments$Verdict;"⟩ : MethodName) (head1 (Jvm.Cond.code (⟨"com/example/triarch/triarch/VerdictPossiblePinLaw", "pick", "(I)Lcom/example/triarch/triarch/Payments$Verdict;"⟩ : MethodName) method_2_code 1 (some (.object "com/example/triarch/triarch/Payments$Verdict")) :: ws) ({ frames := 0, cells := 0, slots := 0, locals := 0 } : Room)) (fun a U => a = #[(.int (1 : Int32))] ∧ Z.Warmed39 U.vm ∧ U.heap = h0) (fun _ _ _ _ _ => True) (fun _ U o U' => ∃ v L, o = .returned v ∧ (Q_rm1_1 Z ad1 h0 n0) v U'.heap L ∧ FrameEnd U o U' L ({ frames := 0, cells := 0, slots := 0, locals := 0 } : Room).cells ({ frames := 0, cells := 0, slots := 0, locals := 0 } : Room).slots) := by
  refine MetFree.of_bodySF (plainFor_of_name pn_1) hisR ?_
  intro p e s m args below meth c s₁ Bd hml0 hP hK
  obtain ⟨rfl, hZ, hh⟩ := hP
  have hx := Bd.exec
  have hby := Bd.bytes
  have hml : c.maxLocals = 1 := hml0
  have hown : s.vm.findClass "com/example/triarch/triarch/VerdictPossiblePinLaw" = some m.cls := findClass_of_methodNamed Bd.named
  have hnm := (name_of_methodNamed Bd.named Bd.method).1
  have hlk : meth.locks = false := BodyLoose.notSynchronized Bd
  have X0 : Stand p l e ({ frames := 0, cells := 0, slots := 0, locals := 0 } : Room) s m #[(.int (1 : Int32))] below meth c s₁ [] 0 0 := Stand.of_body Bd
  have e0 : s₁.heap = h0 := by rw [← hh, Bd.state]; rfl
  have N := Fr.nil n0
  have K := Keep.refl h0 []
  refine own_start (cl := ({ frames := 0, cells := 0, slots := 0, locals := 0 } : Room).cells) (sl := ({ frames := 0, cells := 0, slots := 0, locals := 0 } : Room).slots) (Q := (Q_rm1_1 Z ad1 h0 n0)) (ef_rm1_1 m ((1 : Int32))) ?_
  refine own_by (S' := (s₁.setTop (mkF m 1 #[.val (.int (1 : Int32))] [(.int (1 : Int32))]))) (fun _ k => XS.iloadN X0.here hx rfl (hb hby d1_0) rfl k) ?_
  refine own_by (S' := (s₁.setTop (mkF m 8 #[.val (.int (1 : Int32))] []))) (fun _ k => XS.ifYes X0.here hx rfl (pc0 := 1) (pc' := 8) rfl (hb hby d1_1) rfl ((if0 _ _).trans (feq ((by decide) : ¬ ((1 : Int32) = (0 : Int32)))).2) (by decide) (by decide) k) ?_
  refine own_by (S' := (s₁.setTop (mkF m 9 #[.val (.int (1 : Int32))] [(.int (1 : Int32))]))) (fun _ k => XS.iloadN X0.here hx rfl (hb hby d1_8) rfl k) ?_
  refine own_by (S' := (s₁.setTop (mkF m 10 #[.val (.int (1 : Int32))] [(.int (1 : Int32)), (.int (1 : Int32))]))) (fun _ k => XS.iconst X0.here hx rfl (hb hby d1_9) k) ?_
  refine own_by (S' := (s₁.setTop (mkF m 13 #[.val (.int (1 : Int32))] []))) (fun _ k => XS.icmpNo X0.here hx rfl (hb hby d1_10) rfl (teq ((by decide) : (1 : Int32) = (1 : Int32))).2 k) ?_
  obtain ⟨T2, X2, e2, st2⟩ := getS2 X0 hx hZ hown (host := "") (Or.inl (hw _ (List.mem_of_getElem? (i := 26) rfl))) Via.refl e0 S1 (g := (mkF m 13 #[.val (.int (1 : Int32))] [])) rfl (hb hby d1_13)
  refine own_by (S' := (T2.setTop (mkF m 16 #[.val (.int (1 : Int32))] [(.ref ad1)]))) st2 ?_
  exact own_ret X2 hx (t := (.object "com/example/triarch/triarch/Payments$Verdict")) Bd.returns rfl (Or.inr (Or.inr (Or.inr (Or.inr ⟨rfl, rfl, rfl⟩)))) (hb hby d1_16) hlk (by decide : 0 ≤ _) (by decide : 0 ≤ _) (by rw [e2]; exact ⟨rfl, N, rfl⟩)
theorem ef_rm1_2 (m : MethodId) (x0 : Int32) : entryFrame m #[(.int x0)] 1 = mkF m 0 #[.val (.int x0)] [] := by first | (simp [entryFrame, mkF, argsToLocals, Value.category]; done) | rfl
def Q_rm1_2 (Z : State) (ad2 : Addr) (h0 : Heap) (n0 : Nat) (v : Option Value) (h : Heap) (L : List Loc) : Prop := v = some (.ref ad2) ∧ Fr n0 L ∧ h = h0
set_option maxRecDepth 65536 in
set_option maxHeartbeats 40000000 in
theorem rm1_2 (l : Launch) (Z : State) (a0 : Array Value) (hw : ∀ d ∈ tables_1, d.before a0 Z = true) (ws : List Jvm.Cond) (ad2 : Addr) (h0 : Heap) (n0 : Nat) (Zn : n0 ≤ h0.size) (S2 : Sta Z h0 "com/example/triarch/triarch/Payments$Verdict" "FREE" "Lcom/example/triarch/triarch/Payments$Verdict;" (.ref ad2)) :
    MetFree l (⟨"com/example/triarch/triarch/VerdictPossiblePinLaw", "pick", "(I)Lcom/example/triarch/triarch/Payments$Verdict;"⟩ : MethodName) (head1 (Jvm.Cond.code (⟨"com/example/triarch/triarch/VerdictPossiblePinLaw", "pick", "(I)Lcom/example/triarch/triarch/Payments$Verdict;"⟩ : MethodName) method_2_code 1 (some (.object "com/example/triarch/triarch/Payments$Verdict")) :: ws) ({ frames := 0, cells := 0, slots := 0, locals := 0 } : Room)) (fun a U => a = #[(.int (2 : Int32))] ∧ Z.Warmed39 U.vm ∧ U.heap = h0) (fun _ _ _ _ _ => True) (fun _ U o U' => ∃ v L, o = .returned v ∧ (Q_rm1_2 Z ad2 h0 n0) v U'.heap L ∧ FrameEnd U o U' L ({ frames := 0, cells := 0, slots := 0, locals := 0 } : Room).cells ({ frames := 0, cells := 0, slots := 0, locals := 0 } : Room).slots) := by
  refine MetFree.of_bodySF (plainFor_of_name pn_1) hisR ?_
  intro p e s m args below meth c s₁ Bd hml0 hP hK
  obtain ⟨rfl, hZ, hh⟩ := hP
  have hx := Bd.exec
  have hby := Bd.bytes
  have hml : c.maxLocals = 1 := hml0
  have hown : s.vm.findClass "com/example/triarch/triarch/VerdictPossiblePinLaw" = some m.cls := findClass_of_methodNamed Bd.named
  have hnm := (name_of_methodNamed Bd.named Bd.method).1
  have hlk : meth.locks = false := BodyLoose.notSynchronized Bd
  have X0 : Stand p l e ({ frames := 0, cells := 0, slots := 0, locals := 0 } : Room) s m #[(.int (2 : Int32))] below meth c s₁ [] 0 0 := Stand.of_body Bd
  have e0 : s₁.heap = h0 := by rw [← hh, Bd.state]; rfl
  have N := Fr.nil n0
  have K := Keep.refl h0 []
  refine own_start (cl := ({ frames := 0, cells := 0, slots := 0, locals := 0 } : Room).cells) (sl := ({ frames := 0, cells := 0, slots := 0, locals := 0 } : Room).slots) (Q := (Q_rm1_2 Z ad2 h0 n0)) (ef_rm1_2 m ((2 : Int32))) ?_
  refine own_by (S' := (s₁.setTop (mkF m 1 #[.val (.int (2 : Int32))] [(.int (2 : Int32))]))) (fun _ k => XS.iloadN X0.here hx rfl (hb hby d1_0) rfl k) ?_
  refine own_by (S' := (s₁.setTop (mkF m 8 #[.val (.int (2 : Int32))] []))) (fun _ k => XS.ifYes X0.here hx rfl (pc0 := 1) (pc' := 8) rfl (hb hby d1_1) rfl ((if0 _ _).trans (feq ((by decide) : ¬ ((2 : Int32) = (0 : Int32)))).2) (by decide) (by decide) k) ?_
  refine own_by (S' := (s₁.setTop (mkF m 9 #[.val (.int (2 : Int32))] [(.int (2 : Int32))]))) (fun _ k => XS.iloadN X0.here hx rfl (hb hby d1_8) rfl k) ?_
  refine own_by (S' := (s₁.setTop (mkF m 10 #[.val (.int (2 : Int32))] [(.int (1 : Int32)), (.int (2 : Int32))]))) (fun _ k => XS.iconst X0.here hx rfl (hb hby d1_9) k) ?_
  refine own_by (S' := (s₁.setTop (mkF m 17 #[.val (.int (2 : Int32))] []))) (fun _ k => XS.icmpYes X0.here hx rfl (pc0 := 10) (pc' := 17) rfl (hb hby d1_10) rfl (feq ((by decide) : ¬ ((2 : Int32) = (1 : Int32)))).2 (by decide) (by decide) k) ?_
  refine own_by (S' := (s₁.setTop (mkF m 18 #[.val (.int (2 : Int32))] [(.int (2 : Int32))]))) (fun _ k => XS.iloadN X0.here hx rfl (hb hby d1_17) rfl k) ?_
  refine own_by (S' := (s₁.setTop (mkF m 19 #[.val (.int (2 : Int32))] [(.int (2 : Int32)), (.int (2 : Int32))]))) (fun _ k => XS.iconst X0.here hx rfl (hb hby d1_18) k) ?_
  refine own_by (S' := (s₁.setTop (mkF m 22 #[.val (.int (2 : Int32))] []))) (fun _ k => XS.icmpNo X0.here hx rfl (hb hby d1_19) rfl (teq ((by decide) : (2 : Int32) = (2 : Int32))).2 k) ?_
  obtain ⟨T3, X3, e3, st3⟩ := getS2 X0 hx hZ hown (host := "") (Or.inl (hw _ (List.mem_of_getElem? (i := 25) rfl))) Via.refl e0 S2 (g := (mkF m 22 #[.val (.int (2 : Int32))] [])) rfl (hb hby d1_22)
  refine own_by (S' := (T3.setTop (mkF m 25 #[.val (.int (2 : Int32))] [(.ref ad2)]))) st3 ?_
  exact own_ret X3 hx (t := (.object "com/example/triarch/triarch/Payments$Verdict")) Bd.returns rfl (Or.inr (Or.inr (Or.inr (Or.inr ⟨rfl, rfl, rfl⟩)))) (hb hby d1_25) hlk (by decide : 0 ≤ _) (by decide : 0 ≤ _) (by rw [e3]; exact ⟨rfl, N, rfl⟩)
theorem ef_rm1_3 (m : MethodId) (x0 : Int32) : entryFrame m #[(.int x0)] 1 = mkF m 0 #[.val (.int x0)] [] := by first | (simp [entryFrame, mkF, argsToLocals, Value.category]; done) | rfl
def Q_rm1_3 (Z : State) (ad3 : Addr) (h0 : Heap) (n0 : Nat) (v : Option Value) (h : Heap) (L : List Loc) : Prop := v = some (.ref ad3) ∧ Fr n0 L ∧ h = h0
set_option maxRecDepth 65536 in
set_option maxHeartbeats 40000000 in
theorem rm1_3 (l : Launch) (Z : State) (a0 : Array Value) (hw : ∀ d ∈ tables_1, d.before a0 Z = true) (ws : List Jvm.Cond) (ad3 : Addr) (h0 : Heap) (n0 : Nat) (Zn : n0 ≤ h0.size) (S3 : Sta Z h0 "com/example/triarch/triarch/Payments$Verdict" "CHAIN" "Lcom/example/triarch/triarch/Payments$Verdict;" (.ref ad3)) :
    MetFree l (⟨"com/example/triarch/triarch/VerdictPossiblePinLaw", "pick", "(I)Lcom/example/triarch/triarch/Payments$Verdict;"⟩ : MethodName) (head1 (Jvm.Cond.code (⟨"com/example/triarch/triarch/VerdictPossiblePinLaw", "pick", "(I)Lcom/example/triarch/triarch/Payments$Verdict;"⟩ : MethodName) method_2_code 1 (some (.object "com/example/triarch/triarch/Payments$Verdict")) :: ws) ({ frames := 0, cells := 0, slots := 0, locals := 0 } : Room)) (fun a U => a = #[(.int (3 : Int32))] ∧ Z.Warmed39 U.vm ∧ U.heap = h0) (fun _ _ _ _ _ => True) (fun _ U o U' => ∃ v L, o = .returned v ∧ (Q_rm1_3 Z ad3 h0 n0) v U'.heap L ∧ FrameEnd U o U' L ({ frames := 0, cells := 0, slots := 0, locals := 0 } : Room).cells ({ frames := 0, cells := 0, slots := 0, locals := 0 } : Room).slots) := by
  refine MetFree.of_bodySF (plainFor_of_name pn_1) hisR ?_
  intro p e s m args below meth c s₁ Bd hml0 hP hK
  obtain ⟨rfl, hZ, hh⟩ := hP
  have hx := Bd.exec
  have hby := Bd.bytes
  have hml : c.maxLocals = 1 := hml0
  have hown : s.vm.findClass "com/example/triarch/triarch/VerdictPossiblePinLaw" = some m.cls := findClass_of_methodNamed Bd.named
  have hnm := (name_of_methodNamed Bd.named Bd.method).1
  have hlk : meth.locks = false := BodyLoose.notSynchronized Bd
  have X0 : Stand p l e ({ frames := 0, cells := 0, slots := 0, locals := 0 } : Room) s m #[(.int (3 : Int32))] below meth c s₁ [] 0 0 := Stand.of_body Bd
  have e0 : s₁.heap = h0 := by rw [← hh, Bd.state]; rfl
  have N := Fr.nil n0
  have K := Keep.refl h0 []
  refine own_start (cl := ({ frames := 0, cells := 0, slots := 0, locals := 0 } : Room).cells) (sl := ({ frames := 0, cells := 0, slots := 0, locals := 0 } : Room).slots) (Q := (Q_rm1_3 Z ad3 h0 n0)) (ef_rm1_3 m ((3 : Int32))) ?_
  refine own_by (S' := (s₁.setTop (mkF m 1 #[.val (.int (3 : Int32))] [(.int (3 : Int32))]))) (fun _ k => XS.iloadN X0.here hx rfl (hb hby d1_0) rfl k) ?_
  refine own_by (S' := (s₁.setTop (mkF m 8 #[.val (.int (3 : Int32))] []))) (fun _ k => XS.ifYes X0.here hx rfl (pc0 := 1) (pc' := 8) rfl (hb hby d1_1) rfl ((if0 _ _).trans (feq ((by decide) : ¬ ((3 : Int32) = (0 : Int32)))).2) (by decide) (by decide) k) ?_
  refine own_by (S' := (s₁.setTop (mkF m 9 #[.val (.int (3 : Int32))] [(.int (3 : Int32))]))) (fun _ k => XS.iloadN X0.here hx rfl (hb hby d1_8) rfl k) ?_
  refine own_by (S' := (s₁.setTop (mkF m 10 #[.val (.int (3 : Int32))] [(.int (1 : Int32)), (.int (3 : Int32))]))) (fun _ k => XS.iconst X0.here hx rfl (hb hby d1_9) k) ?_
  refine own_by (S' := (s₁.setTop (mkF m 17 #[.val (.int (3 : Int32))] []))) (fun _ k => XS.icmpYes X0.here hx rfl (pc0 := 10) (pc' := 17) rfl (hb hby d1_10) rfl (feq ((by decide) : ¬ ((3 : Int32) = (1 : Int32)))).2 (by decide) (by decide) k) ?_
  refine own_by (S' := (s₁.setTop (mkF m 18 #[.val (.int (3 : Int32))] [(.int (3 : Int32))]))) (fun _ k => XS.iloadN X0.here hx rfl (hb hby d1_17) rfl k) ?_
  refine own_by (S' := (s₁.setTop (mkF m 19 #[.val (.int (3 : Int32))] [(.int (2 : Int32)), (.int (3 : Int32))]))) (fun _ k => XS.iconst X0.here hx rfl (hb hby d1_18) k) ?_
  refine own_by (S' := (s₁.setTop (mkF m 26 #[.val (.int (3 : Int32))] []))) (fun _ k => XS.icmpYes X0.here hx rfl (pc0 := 19) (pc' := 26) rfl (hb hby d1_19) rfl (feq ((by decide) : ¬ ((3 : Int32) = (2 : Int32)))).2 (by decide) (by decide) k) ?_
  refine own_by (S' := (s₁.setTop (mkF m 27 #[.val (.int (3 : Int32))] [(.int (3 : Int32))]))) (fun _ k => XS.iloadN X0.here hx rfl (hb hby d1_26) rfl k) ?_
  refine own_by (S' := (s₁.setTop (mkF m 28 #[.val (.int (3 : Int32))] [(.int (3 : Int32)), (.int (3 : Int32))]))) (fun _ k => XS.iconst X0.here hx rfl (hb hby d1_27) k) ?_
  refine own_by (S' := (s₁.setTop (mkF m 31 #[.val (.int (3 : Int32))] []))) (fun _ k => XS.icmpNo X0.here hx rfl (hb hby d1_28) rfl (teq ((by decide) : (3 : Int32) = (3 : Int32))).2 k) ?_
  obtain ⟨T4, X4, e4, st4⟩ := getS2 X0 hx hZ hown (host := "") (Or.inl (hw _ (List.mem_of_getElem? (i := 20) rfl))) Via.refl e0 S3 (g := (mkF m 31 #[.val (.int (3 : Int32))] [])) rfl (hb hby d1_31)
  refine own_by (S' := (T4.setTop (mkF m 34 #[.val (.int (3 : Int32))] [(.ref ad3)]))) st4 ?_
  exact own_ret X4 hx (t := (.object "com/example/triarch/triarch/Payments$Verdict")) Bd.returns rfl (Or.inr (Or.inr (Or.inr (Or.inr ⟨rfl, rfl, rfl⟩)))) (hb hby d1_34) hlk (by decide : 0 ≤ _) (by decide : 0 ≤ _) (by rw [e4]; exact ⟨rfl, N, rfl⟩)
theorem ef_rm1_4 (m : MethodId) (x0 : Int32) : entryFrame m #[(.int x0)] 1 = mkF m 0 #[.val (.int x0)] [] := by first | (simp [entryFrame, mkF, argsToLocals, Value.category]; done) | rfl
def Q_rm1_4 (Z : State) (ad4 : Addr) (h0 : Heap) (n0 : Nat) (v : Option Value) (h : Heap) (L : List Loc) : Prop := v = some (.ref ad4) ∧ Fr n0 L ∧ h = h0
set_option maxRecDepth 65536 in
set_option maxHeartbeats 40000000 in
theorem rm1_4 (l : Launch) (Z : State) (a0 : Array Value) (hw : ∀ d ∈ tables_1, d.before a0 Z = true) (ws : List Jvm.Cond) (ad4 : Addr) (h0 : Heap) (n0 : Nat) (Zn : n0 ≤ h0.size) (S4 : Sta Z h0 "com/example/triarch/triarch/Payments$Verdict" "OWN" "Lcom/example/triarch/triarch/Payments$Verdict;" (.ref ad4)) :
    MetFree l (⟨"com/example/triarch/triarch/VerdictPossiblePinLaw", "pick", "(I)Lcom/example/triarch/triarch/Payments$Verdict;"⟩ : MethodName) (head1 (Jvm.Cond.code (⟨"com/example/triarch/triarch/VerdictPossiblePinLaw", "pick", "(I)Lcom/example/triarch/triarch/Payments$Verdict;"⟩ : MethodName) method_2_code 1 (some (.object "com/example/triarch/triarch/Payments$Verdict")) :: ws) ({ frames := 0, cells := 0, slots := 0, locals := 0 } : Room)) (fun a U => a = #[(.int (4 : Int32))] ∧ Z.Warmed39 U.vm ∧ U.heap = h0) (fun _ _ _ _ _ => True) (fun _ U o U' => ∃ v L, o = .returned v ∧ (Q_rm1_4 Z ad4 h0 n0) v U'.heap L ∧ FrameEnd U o U' L ({ frames := 0, cells := 0, slots := 0, locals := 0 } : Room).cells ({ frames := 0, cells := 0, slots := 0, locals := 0 } : Room).slots) := by
  refine MetFree.of_bodySF (plainFor_of_name pn_1) hisR ?_
  intro p e s m args below meth c s₁ Bd hml0 hP hK
  obtain ⟨rfl, hZ, hh⟩ := hP
  have hx := Bd.exec
  have hby := Bd.bytes
  have hml : c.maxLocals = 1 := hml0
  have hown : s.vm.findClass "com/example/triarch/triarch/VerdictPossiblePinLaw" = some m.cls := findClass_of_methodNamed Bd.named
  have hnm := (name_of_methodNamed Bd.named Bd.method).1
  have hlk : meth.locks = false := BodyLoose.notSynchronized Bd
  have X0 : Stand p l e ({ frames := 0, cells := 0, slots := 0, locals := 0 } : Room) s m #[(.int (4 : Int32))] below meth c s₁ [] 0 0 := Stand.of_body Bd
  have e0 : s₁.heap = h0 := by rw [← hh, Bd.state]; rfl
  have N := Fr.nil n0
  have K := Keep.refl h0 []
  refine own_start (cl := ({ frames := 0, cells := 0, slots := 0, locals := 0 } : Room).cells) (sl := ({ frames := 0, cells := 0, slots := 0, locals := 0 } : Room).slots) (Q := (Q_rm1_4 Z ad4 h0 n0)) (ef_rm1_4 m ((4 : Int32))) ?_
  refine own_by (S' := (s₁.setTop (mkF m 1 #[.val (.int (4 : Int32))] [(.int (4 : Int32))]))) (fun _ k => XS.iloadN X0.here hx rfl (hb hby d1_0) rfl k) ?_
  refine own_by (S' := (s₁.setTop (mkF m 8 #[.val (.int (4 : Int32))] []))) (fun _ k => XS.ifYes X0.here hx rfl (pc0 := 1) (pc' := 8) rfl (hb hby d1_1) rfl ((if0 _ _).trans (feq ((by decide) : ¬ ((4 : Int32) = (0 : Int32)))).2) (by decide) (by decide) k) ?_
  refine own_by (S' := (s₁.setTop (mkF m 9 #[.val (.int (4 : Int32))] [(.int (4 : Int32))]))) (fun _ k => XS.iloadN X0.here hx rfl (hb hby d1_8) rfl k) ?_
  refine own_by (S' := (s₁.setTop (mkF m 10 #[.val (.int (4 : Int32))] [(.int (1 : Int32)), (.int (4 : Int32))]))) (fun _ k => XS.iconst X0.here hx rfl (hb hby d1_9) k) ?_
  refine own_by (S' := (s₁.setTop (mkF m 17 #[.val (.int (4 : Int32))] []))) (fun _ k => XS.icmpYes X0.here hx rfl (pc0 := 10) (pc' := 17) rfl (hb hby d1_10) rfl (feq ((by decide) : ¬ ((4 : Int32) = (1 : Int32)))).2 (by decide) (by decide) k) ?_
  refine own_by (S' := (s₁.setTop (mkF m 18 #[.val (.int (4 : Int32))] [(.int (4 : Int32))]))) (fun _ k => XS.iloadN X0.here hx rfl (hb hby d1_17) rfl k) ?_
  refine own_by (S' := (s₁.setTop (mkF m 19 #[.val (.int (4 : Int32))] [(.int (2 : Int32)), (.int (4 : Int32))]))) (fun _ k => XS.iconst X0.here hx rfl (hb hby d1_18) k) ?_
  refine own_by (S' := (s₁.setTop (mkF m 26 #[.val (.int (4 : Int32))] []))) (fun _ k => XS.icmpYes X0.here hx rfl (pc0 := 19) (pc' := 26) rfl (hb hby d1_19) rfl (feq ((by decide) : ¬ ((4 : Int32) = (2 : Int32)))).2 (by decide) (by decide) k) ?_
  refine own_by (S' := (s₁.setTop (mkF m 27 #[.val (.int (4 : Int32))] [(.int (4 : Int32))]))) (fun _ k => XS.iloadN X0.here hx rfl (hb hby d1_26) rfl k) ?_
  refine own_by (S' := (s₁.setTop (mkF m 28 #[.val (.int (4 : Int32))] [(.int (3 : Int32)), (.int (4 : Int32))]))) (fun _ k => XS.iconst X0.here hx rfl (hb hby d1_27) k) ?_
  refine own_by (S' := (s₁.setTop (mkF m 35 #[.val (.int (4 : Int32))] []))) (fun _ k => XS.icmpYes X0.here hx rfl (pc0 := 28) (pc' := 35) rfl (hb hby d1_28) rfl (feq ((by decide) : ¬ ((4 : Int32) = (3 : Int32)))).2 (by decide) (by decide) k) ?_
  refine own_by (S' := (s₁.setTop (mkF m 36 #[.val (.int (4 : Int32))] [(.int (4 : Int32))]))) (fun _ k => XS.iloadN X0.here hx rfl (hb hby d1_35) rfl k) ?_
  refine own_by (S' := (s₁.setTop (mkF m 37 #[.val (.int (4 : Int32))] [(.int (4 : Int32)), (.int (4 : Int32))]))) (fun _ k => XS.iconst X0.here hx rfl (hb hby d1_36) k) ?_
  refine own_by (S' := (s₁.setTop (mkF m 40 #[.val (.int (4 : Int32))] []))) (fun _ k => XS.icmpNo X0.here hx rfl (hb hby d1_37) rfl (teq ((by decide) : (4 : Int32) = (4 : Int32))).2 k) ?_
  obtain ⟨T5, X5, e5, st5⟩ := getS2 X0 hx hZ hown (host := "") (Or.inl (hw _ (List.mem_of_getElem? (i := 28) rfl))) Via.refl e0 S4 (g := (mkF m 40 #[.val (.int (4 : Int32))] [])) rfl (hb hby d1_40)
  refine own_by (S' := (T5.setTop (mkF m 43 #[.val (.int (4 : Int32))] [(.ref ad4)]))) st5 ?_
  exact own_ret X5 hx (t := (.object "com/example/triarch/triarch/Payments$Verdict")) Bd.returns rfl (Or.inr (Or.inr (Or.inr (Or.inr ⟨rfl, rfl, rfl⟩)))) (hb hby d1_43) hlk (by decide : 0 ≤ _) (by decide : 0 ≤ _) (by rw [e5]; exact ⟨rfl, N, rfl⟩)
theorem ef_rm1_5 (m : MethodId) (x0 : Int32) : entryFrame m #[(.int x0)] 1 = mkF m 0 #[.val (.int x0)] [] := by first | (simp [entryFrame, mkF, argsToLocals, Value.category]; done) | rfl
def Q_rm1_5 (Z : State) (ad5 : Addr) (h0 : Heap) (n0 : Nat) (v : Option Value) (h : Heap) (L : List Loc) : Prop := v = some (.ref ad5) ∧ Fr n0 L ∧ h = h0
set_option maxRecDepth 65536 in
set_option maxHeartbeats 40000000 in
theorem rm1_5 (l : Launch) (Z : State) (a0 : Array Value) (hw : ∀ d ∈ tables_1, d.before a0 Z = true) (ws : List Jvm.Cond) (ad5 : Addr) (h0 : Heap) (n0 : Nat) (Zn : n0 ≤ h0.size) (S5 : Sta Z h0 "com/example/triarch/triarch/Payments$Verdict" "TRADE" "Lcom/example/triarch/triarch/Payments$Verdict;" (.ref ad5)) :
    MetFree l (⟨"com/example/triarch/triarch/VerdictPossiblePinLaw", "pick", "(I)Lcom/example/triarch/triarch/Payments$Verdict;"⟩ : MethodName) (head1 (Jvm.Cond.code (⟨"com/example/triarch/triarch/VerdictPossiblePinLaw", "pick", "(I)Lcom/example/triarch/triarch/Payments$Verdict;"⟩ : MethodName) method_2_code 1 (some (.object "com/example/triarch/triarch/Payments$Verdict")) :: ws) ({ frames := 0, cells := 0, slots := 0, locals := 0 } : Room)) (fun a U => a = #[(.int (5 : Int32))] ∧ Z.Warmed39 U.vm ∧ U.heap = h0) (fun _ _ _ _ _ => True) (fun _ U o U' => ∃ v L, o = .returned v ∧ (Q_rm1_5 Z ad5 h0 n0) v U'.heap L ∧ FrameEnd U o U' L ({ frames := 0, cells := 0, slots := 0, locals := 0 } : Room).cells ({ frames := 0, cells := 0, slots := 0, locals := 0 } : Room).slots) := by
  refine MetFree.of_bodySF (plainFor_of_name pn_1) hisR ?_
  intro p e s m args below meth c s₁ Bd hml0 hP hK
  obtain ⟨rfl, hZ, hh⟩ := hP
  have hx := Bd.exec
  have hby := Bd.bytes
  have hml : c.maxLocals = 1 := hml0
  have hown : s.vm.findClass "com/example/triarch/triarch/VerdictPossiblePinLaw" = some m.cls := findClass_of_methodNamed Bd.named
  have hnm := (name_of_methodNamed Bd.named Bd.method).1
  have hlk : meth.locks = false := BodyLoose.notSynchronized Bd
  have X0 : Stand p l e ({ frames := 0, cells := 0, slots := 0, locals := 0 } : Room) s m #[(.int (5 : Int32))] below meth c s₁ [] 0 0 := Stand.of_body Bd
  have e0 : s₁.heap = h0 := by rw [← hh, Bd.state]; rfl
  have N := Fr.nil n0
  have K := Keep.refl h0 []
  refine own_start (cl := ({ frames := 0, cells := 0, slots := 0, locals := 0 } : Room).cells) (sl := ({ frames := 0, cells := 0, slots := 0, locals := 0 } : Room).slots) (Q := (Q_rm1_5 Z ad5 h0 n0)) (ef_rm1_5 m ((5 : Int32))) ?_
  refine own_by (S' := (s₁.setTop (mkF m 1 #[.val (.int (5 : Int32))] [(.int (5 : Int32))]))) (fun _ k => XS.iloadN X0.here hx rfl (hb hby d1_0) rfl k) ?_
  refine own_by (S' := (s₁.setTop (mkF m 8 #[.val (.int (5 : Int32))] []))) (fun _ k => XS.ifYes X0.here hx rfl (pc0 := 1) (pc' := 8) rfl (hb hby d1_1) rfl ((if0 _ _).trans (feq ((by decide) : ¬ ((5 : Int32) = (0 : Int32)))).2) (by decide) (by decide) k) ?_
  refine own_by (S' := (s₁.setTop (mkF m 9 #[.val (.int (5 : Int32))] [(.int (5 : Int32))]))) (fun _ k => XS.iloadN X0.here hx rfl (hb hby d1_8) rfl k) ?_
  refine own_by (S' := (s₁.setTop (mkF m 10 #[.val (.int (5 : Int32))] [(.int (1 : Int32)), (.int (5 : Int32))]))) (fun _ k => XS.iconst X0.here hx rfl (hb hby d1_9) k) ?_
  refine own_by (S' := (s₁.setTop (mkF m 17 #[.val (.int (5 : Int32))] []))) (fun _ k => XS.icmpYes X0.here hx rfl (pc0 := 10) (pc' := 17) rfl (hb hby d1_10) rfl (feq ((by decide) : ¬ ((5 : Int32) = (1 : Int32)))).2 (by decide) (by decide) k) ?_
  refine own_by (S' := (s₁.setTop (mkF m 18 #[.val (.int (5 : Int32))] [(.int (5 : Int32))]))) (fun _ k => XS.iloadN X0.here hx rfl (hb hby d1_17) rfl k) ?_
  refine own_by (S' := (s₁.setTop (mkF m 19 #[.val (.int (5 : Int32))] [(.int (2 : Int32)), (.int (5 : Int32))]))) (fun _ k => XS.iconst X0.here hx rfl (hb hby d1_18) k) ?_
  refine own_by (S' := (s₁.setTop (mkF m 26 #[.val (.int (5 : Int32))] []))) (fun _ k => XS.icmpYes X0.here hx rfl (pc0 := 19) (pc' := 26) rfl (hb hby d1_19) rfl (feq ((by decide) : ¬ ((5 : Int32) = (2 : Int32)))).2 (by decide) (by decide) k) ?_
  refine own_by (S' := (s₁.setTop (mkF m 27 #[.val (.int (5 : Int32))] [(.int (5 : Int32))]))) (fun _ k => XS.iloadN X0.here hx rfl (hb hby d1_26) rfl k) ?_
  refine own_by (S' := (s₁.setTop (mkF m 28 #[.val (.int (5 : Int32))] [(.int (3 : Int32)), (.int (5 : Int32))]))) (fun _ k => XS.iconst X0.here hx rfl (hb hby d1_27) k) ?_
  refine own_by (S' := (s₁.setTop (mkF m 35 #[.val (.int (5 : Int32))] []))) (fun _ k => XS.icmpYes X0.here hx rfl (pc0 := 28) (pc' := 35) rfl (hb hby d1_28) rfl (feq ((by decide) : ¬ ((5 : Int32) = (3 : Int32)))).2 (by decide) (by decide) k) ?_
  refine own_by (S' := (s₁.setTop (mkF m 36 #[.val (.int (5 : Int32))] [(.int (5 : Int32))]))) (fun _ k => XS.iloadN X0.here hx rfl (hb hby d1_35) rfl k) ?_
  refine own_by (S' := (s₁.setTop (mkF m 37 #[.val (.int (5 : Int32))] [(.int (4 : Int32)), (.int (5 : Int32))]))) (fun _ k => XS.iconst X0.here hx rfl (hb hby d1_36) k) ?_
  refine own_by (S' := (s₁.setTop (mkF m 44 #[.val (.int (5 : Int32))] []))) (fun _ k => XS.icmpYes X0.here hx rfl (pc0 := 37) (pc' := 44) rfl (hb hby d1_37) rfl (feq ((by decide) : ¬ ((5 : Int32) = (4 : Int32)))).2 (by decide) (by decide) k) ?_
  refine own_by (S' := (s₁.setTop (mkF m 45 #[.val (.int (5 : Int32))] [(.int (5 : Int32))]))) (fun _ k => XS.iloadN X0.here hx rfl (hb hby d1_44) rfl k) ?_
  refine own_by (S' := (s₁.setTop (mkF m 46 #[.val (.int (5 : Int32))] [(.int (5 : Int32)), (.int (5 : Int32))]))) (fun _ k => XS.iconst X0.here hx rfl (hb hby d1_45) k) ?_
  refine own_by (S' := (s₁.setTop (mkF m 49 #[.val (.int (5 : Int32))] []))) (fun _ k => XS.icmpNo X0.here hx rfl (hb hby d1_46) rfl (teq ((by decide) : (5 : Int32) = (5 : Int32))).2 k) ?_
  obtain ⟨T6, X6, e6, st6⟩ := getS2 X0 hx hZ hown (host := "") (Or.inl (hw _ (List.mem_of_getElem? (i := 29) rfl))) Via.refl e0 S5 (g := (mkF m 49 #[.val (.int (5 : Int32))] [])) rfl (hb hby d1_49)
  refine own_by (S' := (T6.setTop (mkF m 52 #[.val (.int (5 : Int32))] [(.ref ad5)]))) st6 ?_
  exact own_ret X6 hx (t := (.object "com/example/triarch/triarch/Payments$Verdict")) Bd.returns rfl (Or.inr (Or.inr (Or.inr (Or.inr ⟨rfl, rfl, rfl⟩)))) (hb hby d1_52) hlk (by decide : 0 ≤ _) (by decide : 0 ≤ _) (by rw [e6]; exact ⟨rfl, N, rfl⟩)
theorem ef_rm1_6 (m : MethodId) (x0 : Int32) : entryFrame m #[(.int x0)] 1 = mkF m 0 #[.val (.int x0)] [] := by first | (simp [entryFrame, mkF, argsToLocals, Value.category]; done) | rfl
def Q_rm1_6 (Z : State) (ad6 : Addr) (h0 : Heap) (n0 : Nat) (v : Option Value) (h : Heap) (L : List Loc) : Prop := v = some (.ref ad6) ∧ Fr n0 L ∧ h = h0
set_option maxRecDepth 65536 in
set_option maxHeartbeats 40000000 in
theorem rm1_6 (l : Launch) (Z : State) (a0 : Array Value) (hw : ∀ d ∈ tables_1, d.before a0 Z = true) (ws : List Jvm.Cond) (ad6 : Addr) (h0 : Heap) (n0 : Nat) (Zn : n0 ≤ h0.size) (S6 : Sta Z h0 "com/example/triarch/triarch/Payments$Verdict" "MISSING_RESOURCES" "Lcom/example/triarch/triarch/Payments$Verdict;" (.ref ad6)) :
    MetFree l (⟨"com/example/triarch/triarch/VerdictPossiblePinLaw", "pick", "(I)Lcom/example/triarch/triarch/Payments$Verdict;"⟩ : MethodName) (head1 (Jvm.Cond.code (⟨"com/example/triarch/triarch/VerdictPossiblePinLaw", "pick", "(I)Lcom/example/triarch/triarch/Payments$Verdict;"⟩ : MethodName) method_2_code 1 (some (.object "com/example/triarch/triarch/Payments$Verdict")) :: ws) ({ frames := 0, cells := 0, slots := 0, locals := 0 } : Room)) (fun a U => a = #[(.int (6 : Int32))] ∧ Z.Warmed39 U.vm ∧ U.heap = h0) (fun _ _ _ _ _ => True) (fun _ U o U' => ∃ v L, o = .returned v ∧ (Q_rm1_6 Z ad6 h0 n0) v U'.heap L ∧ FrameEnd U o U' L ({ frames := 0, cells := 0, slots := 0, locals := 0 } : Room).cells ({ frames := 0, cells := 0, slots := 0, locals := 0 } : Room).slots) := by
  refine MetFree.of_bodySF (plainFor_of_name pn_1) hisR ?_
  intro p e s m args below meth c s₁ Bd hml0 hP hK
  obtain ⟨rfl, hZ, hh⟩ := hP
  have hx := Bd.exec
  have hby := Bd.bytes
  have hml : c.maxLocals = 1 := hml0
  have hown : s.vm.findClass "com/example/triarch/triarch/VerdictPossiblePinLaw" = some m.cls := findClass_of_methodNamed Bd.named
  have hnm := (name_of_methodNamed Bd.named Bd.method).1
  have hlk : meth.locks = false := BodyLoose.notSynchronized Bd
  have X0 : Stand p l e ({ frames := 0, cells := 0, slots := 0, locals := 0 } : Room) s m #[(.int (6 : Int32))] below meth c s₁ [] 0 0 := Stand.of_body Bd
  have e0 : s₁.heap = h0 := by rw [← hh, Bd.state]; rfl
  have N := Fr.nil n0
  have K := Keep.refl h0 []
  refine own_start (cl := ({ frames := 0, cells := 0, slots := 0, locals := 0 } : Room).cells) (sl := ({ frames := 0, cells := 0, slots := 0, locals := 0 } : Room).slots) (Q := (Q_rm1_6 Z ad6 h0 n0)) (ef_rm1_6 m ((6 : Int32))) ?_
  refine own_by (S' := (s₁.setTop (mkF m 1 #[.val (.int (6 : Int32))] [(.int (6 : Int32))]))) (fun _ k => XS.iloadN X0.here hx rfl (hb hby d1_0) rfl k) ?_
  refine own_by (S' := (s₁.setTop (mkF m 8 #[.val (.int (6 : Int32))] []))) (fun _ k => XS.ifYes X0.here hx rfl (pc0 := 1) (pc' := 8) rfl (hb hby d1_1) rfl ((if0 _ _).trans (feq ((by decide) : ¬ ((6 : Int32) = (0 : Int32)))).2) (by decide) (by decide) k) ?_
  refine own_by (S' := (s₁.setTop (mkF m 9 #[.val (.int (6 : Int32))] [(.int (6 : Int32))]))) (fun _ k => XS.iloadN X0.here hx rfl (hb hby d1_8) rfl k) ?_
  refine own_by (S' := (s₁.setTop (mkF m 10 #[.val (.int (6 : Int32))] [(.int (1 : Int32)), (.int (6 : Int32))]))) (fun _ k => XS.iconst X0.here hx rfl (hb hby d1_9) k) ?_
  refine own_by (S' := (s₁.setTop (mkF m 17 #[.val (.int (6 : Int32))] []))) (fun _ k => XS.icmpYes X0.here hx rfl (pc0 := 10) (pc' := 17) rfl (hb hby d1_10) rfl (feq ((by decide) : ¬ ((6 : Int32) = (1 : Int32)))).2 (by decide) (by decide) k) ?_
  refine own_by (S' := (s₁.setTop (mkF m 18 #[.val (.int (6 : Int32))] [(.int (6 : Int32))]))) (fun _ k => XS.iloadN X0.here hx rfl (hb hby d1_17) rfl k) ?_
  refine own_by (S' := (s₁.setTop (mkF m 19 #[.val (.int (6 : Int32))] [(.int (2 : Int32)), (.int (6 : Int32))]))) (fun _ k => XS.iconst X0.here hx rfl (hb hby d1_18) k) ?_
  refine own_by (S' := (s₁.setTop (mkF m 26 #[.val (.int (6 : Int32))] []))) (fun _ k => XS.icmpYes X0.here hx rfl (pc0 := 19) (pc' := 26) rfl (hb hby d1_19) rfl (feq ((by decide) : ¬ ((6 : Int32) = (2 : Int32)))).2 (by decide) (by decide) k) ?_
  refine own_by (S' := (s₁.setTop (mkF m 27 #[.val (.int (6 : Int32))] [(.int (6 : Int32))]))) (fun _ k => XS.iloadN X0.here hx rfl (hb hby d1_26) rfl k) ?_
  refine own_by (S' := (s₁.setTop (mkF m 28 #[.val (.int (6 : Int32))] [(.int (3 : Int32)), (.int (6 : Int32))]))) (fun _ k => XS.iconst X0.here hx rfl (hb hby d1_27) k) ?_
  refine own_by (S' := (s₁.setTop (mkF m 35 #[.val (.int (6 : Int32))] []))) (fun _ k => XS.icmpYes X0.here hx rfl (pc0 := 28) (pc' := 35) rfl (hb hby d1_28) rfl (feq ((by decide) : ¬ ((6 : Int32) = (3 : Int32)))).2 (by decide) (by decide) k) ?_
  refine own_by (S' := (s₁.setTop (mkF m 36 #[.val (.int (6 : Int32))] [(.int (6 : Int32))]))) (fun _ k => XS.iloadN X0.here hx rfl (hb hby d1_35) rfl k) ?_
  refine own_by (S' := (s₁.setTop (mkF m 37 #[.val (.int (6 : Int32))] [(.int (4 : Int32)), (.int (6 : Int32))]))) (fun _ k => XS.iconst X0.here hx rfl (hb hby d1_36) k) ?_
  refine own_by (S' := (s₁.setTop (mkF m 44 #[.val (.int (6 : Int32))] []))) (fun _ k => XS.icmpYes X0.here hx rfl (pc0 := 37) (pc' := 44) rfl (hb hby d1_37) rfl (feq ((by decide) : ¬ ((6 : Int32) = (4 : Int32)))).2 (by decide) (by decide) k) ?_
  refine own_by (S' := (s₁.setTop (mkF m 45 #[.val (.int (6 : Int32))] [(.int (6 : Int32))]))) (fun _ k => XS.iloadN X0.here hx rfl (hb hby d1_44) rfl k) ?_
  refine own_by (S' := (s₁.setTop (mkF m 46 #[.val (.int (6 : Int32))] [(.int (5 : Int32)), (.int (6 : Int32))]))) (fun _ k => XS.iconst X0.here hx rfl (hb hby d1_45) k) ?_
  refine own_by (S' := (s₁.setTop (mkF m 53 #[.val (.int (6 : Int32))] []))) (fun _ k => XS.icmpYes X0.here hx rfl (pc0 := 46) (pc' := 53) rfl (hb hby d1_46) rfl (feq ((by decide) : ¬ ((6 : Int32) = (5 : Int32)))).2 (by decide) (by decide) k) ?_
  refine own_by (S' := (s₁.setTop (mkF m 54 #[.val (.int (6 : Int32))] [(.int (6 : Int32))]))) (fun _ k => XS.iloadN X0.here hx rfl (hb hby d1_53) rfl k) ?_
  refine own_by (S' := (s₁.setTop (mkF m 56 #[.val (.int (6 : Int32))] [(.int (6 : Int32)), (.int (6 : Int32))]))) (fun _ k => XS.bipush X0.here hx rfl (hb hby d1_54) k) ?_
  refine own_by (S' := (s₁.setTop (mkF m 59 #[.val (.int (6 : Int32))] []))) (fun _ k => XS.icmpNo X0.here hx rfl (hb hby d1_56) rfl (teq ((by decide) : (6 : Int32) = (6 : Int32))).2 k) ?_
  obtain ⟨T7, X7, e7, st7⟩ := getS2 X0 hx hZ hown (host := "") (Or.inl (hw _ (List.mem_of_getElem? (i := 21) rfl))) Via.refl e0 S6 (g := (mkF m 59 #[.val (.int (6 : Int32))] [])) rfl (hb hby d1_59)
  refine own_by (S' := (T7.setTop (mkF m 62 #[.val (.int (6 : Int32))] [(.ref ad6)]))) st7 ?_
  exact own_ret X7 hx (t := (.object "com/example/triarch/triarch/Payments$Verdict")) Bd.returns rfl (Or.inr (Or.inr (Or.inr (Or.inr ⟨rfl, rfl, rfl⟩)))) (hb hby d1_62) hlk (by decide : 0 ≤ _) (by decide : 0 ≤ _) (by rw [e7]; exact ⟨rfl, N, rfl⟩)
theorem ef_rm1_7 (m : MethodId) (x0 : Int32) : entryFrame m #[(.int x0)] 1 = mkF m 0 #[.val (.int x0)] [] := by first | (simp [entryFrame, mkF, argsToLocals, Value.category]; done) | rfl
def Q_rm1_7 (Z : State) (ad7 : Addr) (h0 : Heap) (n0 : Nat) (v : Option Value) (h : Heap) (L : List Loc) : Prop := v = some (.ref ad7) ∧ Fr n0 L ∧ h = h0
set_option maxRecDepth 65536 in
set_option maxHeartbeats 40000000 in
theorem rm1_7 (l : Launch) (Z : State) (a0 : Array Value) (hw : ∀ d ∈ tables_1, d.before a0 Z = true) (ws : List Jvm.Cond) (ad7 : Addr) (h0 : Heap) (n0 : Nat) (Zn : n0 ≤ h0.size) (S7 : Sta Z h0 "com/example/triarch/triarch/Payments$Verdict" "NOT_ENOUGH_COINS" "Lcom/example/triarch/triarch/Payments$Verdict;" (.ref ad7)) :
    MetFree l (⟨"com/example/triarch/triarch/VerdictPossiblePinLaw", "pick", "(I)Lcom/example/triarch/triarch/Payments$Verdict;"⟩ : MethodName) (head1 (Jvm.Cond.code (⟨"com/example/triarch/triarch/VerdictPossiblePinLaw", "pick", "(I)Lcom/example/triarch/triarch/Payments$Verdict;"⟩ : MethodName) method_2_code 1 (some (.object "com/example/triarch/triarch/Payments$Verdict")) :: ws) ({ frames := 0, cells := 0, slots := 0, locals := 0 } : Room)) (fun a U => a = #[(.int (7 : Int32))] ∧ Z.Warmed39 U.vm ∧ U.heap = h0) (fun _ _ _ _ _ => True) (fun _ U o U' => ∃ v L, o = .returned v ∧ (Q_rm1_7 Z ad7 h0 n0) v U'.heap L ∧ FrameEnd U o U' L ({ frames := 0, cells := 0, slots := 0, locals := 0 } : Room).cells ({ frames := 0, cells := 0, slots := 0, locals := 0 } : Room).slots) := by
  refine MetFree.of_bodySF (plainFor_of_name pn_1) hisR ?_
  intro p e s m args below meth c s₁ Bd hml0 hP hK
  obtain ⟨rfl, hZ, hh⟩ := hP
  have hx := Bd.exec
  have hby := Bd.bytes
  have hml : c.maxLocals = 1 := hml0
  have hown : s.vm.findClass "com/example/triarch/triarch/VerdictPossiblePinLaw" = some m.cls := findClass_of_methodNamed Bd.named
  have hnm := (name_of_methodNamed Bd.named Bd.method).1
  have hlk : meth.locks = false := BodyLoose.notSynchronized Bd
  have X0 : Stand p l e ({ frames := 0, cells := 0, slots := 0, locals := 0 } : Room) s m #[(.int (7 : Int32))] below meth c s₁ [] 0 0 := Stand.of_body Bd
  have e0 : s₁.heap = h0 := by rw [← hh, Bd.state]; rfl
  have N := Fr.nil n0
  have K := Keep.refl h0 []
  refine own_start (cl := ({ frames := 0, cells := 0, slots := 0, locals := 0 } : Room).cells) (sl := ({ frames := 0, cells := 0, slots := 0, locals := 0 } : Room).slots) (Q := (Q_rm1_7 Z ad7 h0 n0)) (ef_rm1_7 m ((7 : Int32))) ?_
  refine own_by (S' := (s₁.setTop (mkF m 1 #[.val (.int (7 : Int32))] [(.int (7 : Int32))]))) (fun _ k => XS.iloadN X0.here hx rfl (hb hby d1_0) rfl k) ?_
  refine own_by (S' := (s₁.setTop (mkF m 8 #[.val (.int (7 : Int32))] []))) (fun _ k => XS.ifYes X0.here hx rfl (pc0 := 1) (pc' := 8) rfl (hb hby d1_1) rfl ((if0 _ _).trans (feq ((by decide) : ¬ ((7 : Int32) = (0 : Int32)))).2) (by decide) (by decide) k) ?_
  refine own_by (S' := (s₁.setTop (mkF m 9 #[.val (.int (7 : Int32))] [(.int (7 : Int32))]))) (fun _ k => XS.iloadN X0.here hx rfl (hb hby d1_8) rfl k) ?_
  refine own_by (S' := (s₁.setTop (mkF m 10 #[.val (.int (7 : Int32))] [(.int (1 : Int32)), (.int (7 : Int32))]))) (fun _ k => XS.iconst X0.here hx rfl (hb hby d1_9) k) ?_
  refine own_by (S' := (s₁.setTop (mkF m 17 #[.val (.int (7 : Int32))] []))) (fun _ k => XS.icmpYes X0.here hx rfl (pc0 := 10) (pc' := 17) rfl (hb hby d1_10) rfl (feq ((by decide) : ¬ ((7 : Int32) = (1 : Int32)))).2 (by decide) (by decide) k) ?_
  refine own_by (S' := (s₁.setTop (mkF m 18 #[.val (.int (7 : Int32))] [(.int (7 : Int32))]))) (fun _ k => XS.iloadN X0.here hx rfl (hb hby d1_17) rfl k) ?_
  refine own_by (S' := (s₁.setTop (mkF m 19 #[.val (.int (7 : Int32))] [(.int (2 : Int32)), (.int (7 : Int32))]))) (fun _ k => XS.iconst X0.here hx rfl (hb hby d1_18) k) ?_
  refine own_by (S' := (s₁.setTop (mkF m 26 #[.val (.int (7 : Int32))] []))) (fun _ k => XS.icmpYes X0.here hx rfl (pc0 := 19) (pc' := 26) rfl (hb hby d1_19) rfl (feq ((by decide) : ¬ ((7 : Int32) = (2 : Int32)))).2 (by decide) (by decide) k) ?_
  refine own_by (S' := (s₁.setTop (mkF m 27 #[.val (.int (7 : Int32))] [(.int (7 : Int32))]))) (fun _ k => XS.iloadN X0.here hx rfl (hb hby d1_26) rfl k) ?_
  refine own_by (S' := (s₁.setTop (mkF m 28 #[.val (.int (7 : Int32))] [(.int (3 : Int32)), (.int (7 : Int32))]))) (fun _ k => XS.iconst X0.here hx rfl (hb hby d1_27) k) ?_
  refine own_by (S' := (s₁.setTop (mkF m 35 #[.val (.int (7 : Int32))] []))) (fun _ k => XS.icmpYes X0.here hx rfl (pc0 := 28) (pc' := 35) rfl (hb hby d1_28) rfl (feq ((by decide) : ¬ ((7 : Int32) = (3 : Int32)))).2 (by decide) (by decide) k) ?_
  refine own_by (S' := (s₁.setTop (mkF m 36 #[.val (.int (7 : Int32))] [(.int (7 : Int32))]))) (fun _ k => XS.iloadN X0.here hx rfl (hb hby d1_35) rfl k) ?_
  refine own_by (S' := (s₁.setTop (mkF m 37 #[.val (.int (7 : Int32))] [(.int (4 : Int32)), (.int (7 : Int32))]))) (fun _ k => XS.iconst X0.here hx rfl (hb hby d1_36) k) ?_
  refine own_by (S' := (s₁.setTop (mkF m 44 #[.val (.int (7 : Int32))] []))) (fun _ k => XS.icmpYes X0.here hx rfl (pc0 := 37) (pc' := 44) rfl (hb hby d1_37) rfl (feq ((by decide) : ¬ ((7 : Int32) = (4 : Int32)))).2 (by decide) (by decide) k) ?_
  refine own_by (S' := (s₁.setTop (mkF m 45 #[.val (.int (7 : Int32))] [(.int (7 : Int32))]))) (fun _ k => XS.iloadN X0.here hx rfl (hb hby d1_44) rfl k) ?_
  refine own_by (S' := (s₁.setTop (mkF m 46 #[.val (.int (7 : Int32))] [(.int (5 : Int32)), (.int (7 : Int32))]))) (fun _ k => XS.iconst X0.here hx rfl (hb hby d1_45) k) ?_
  refine own_by (S' := (s₁.setTop (mkF m 53 #[.val (.int (7 : Int32))] []))) (fun _ k => XS.icmpYes X0.here hx rfl (pc0 := 46) (pc' := 53) rfl (hb hby d1_46) rfl (feq ((by decide) : ¬ ((7 : Int32) = (5 : Int32)))).2 (by decide) (by decide) k) ?_
  refine own_by (S' := (s₁.setTop (mkF m 54 #[.val (.int (7 : Int32))] [(.int (7 : Int32))]))) (fun _ k => XS.iloadN X0.here hx rfl (hb hby d1_53) rfl k) ?_
  refine own_by (S' := (s₁.setTop (mkF m 56 #[.val (.int (7 : Int32))] [(.int (6 : Int32)), (.int (7 : Int32))]))) (fun _ k => XS.bipush X0.here hx rfl (hb hby d1_54) k) ?_
  refine own_by (S' := (s₁.setTop (mkF m 63 #[.val (.int (7 : Int32))] []))) (fun _ k => XS.icmpYes X0.here hx rfl (pc0 := 56) (pc' := 63) rfl (hb hby d1_56) rfl (feq ((by decide) : ¬ ((7 : Int32) = (6 : Int32)))).2 (by decide) (by decide) k) ?_
  obtain ⟨T8, X8, e8, st8⟩ := getS2 X0 hx hZ hown (host := "") (Or.inl (hw _ (List.mem_of_getElem? (i := 23) rfl))) Via.refl e0 S7 (g := (mkF m 63 #[.val (.int (7 : Int32))] [])) rfl (hb hby d1_63)
  refine own_by (S' := (T8.setTop (mkF m 66 #[.val (.int (7 : Int32))] [(.ref ad7)]))) st8 ?_
  exact own_ret X8 hx (t := (.object "com/example/triarch/triarch/Payments$Verdict")) Bd.returns rfl (Or.inr (Or.inr (Or.inr (Or.inr ⟨rfl, rfl, rfl⟩)))) (hb hby d1_66) hlk (by decide : 0 ≤ _) (by decide : 0 ≤ _) (by rw [e8]; exact ⟨rfl, N, rfl⟩)
theorem d2_0 : decode prog_49_method_4_code 0 = .ok (.aload_n 0, 1) := by decide +kernel
theorem d2_1 : decode prog_49_method_4_code 1 = .ok (.getstatic 10, 3) := by decide +kernel
theorem d2_4 : decode prog_49_method_4_code 4 = .ok (.if_acmp .eq 24, 3) := by decide +kernel
theorem d2_7 : decode prog_49_method_4_code 7 = .ok (.aload_n 0, 1) := by decide +kernel
theorem d2_8 : decode prog_49_method_4_code 8 = .ok (.getstatic 13, 3) := by decide +kernel
theorem d2_11 : decode prog_49_method_4_code 11 = .ok (.if_acmp .eq 17, 3) := by decide +kernel
theorem d2_14 : decode prog_49_method_4_code 14 = .ok (.aload_n 0, 1) := by decide +kernel
theorem d2_15 : decode prog_49_method_4_code 15 = .ok (.getstatic 16, 3) := by decide +kernel
theorem d2_18 : decode prog_49_method_4_code 18 = .ok (.if_acmp .eq 10, 3) := by decide +kernel
theorem d2_21 : decode prog_49_method_4_code 21 = .ok (.aload_n 0, 1) := by decide +kernel
theorem d2_22 : decode prog_49_method_4_code 22 = .ok (.getstatic 19, 3) := by decide +kernel
theorem d2_25 : decode prog_49_method_4_code 25 = .ok (.if_acmp .ne 7, 3) := by decide +kernel
theorem d2_28 : decode prog_49_method_4_code 28 = .ok (.iconst 1, 1) := by decide +kernel
theorem d2_29 : decode prog_49_method_4_code 29 = .ok (.goto 4, 3) := by decide +kernel
theorem d2_32 : decode prog_49_method_4_code 32 = .ok (.iconst 0, 1) := by decide +kernel
theorem d2_33 : decode prog_49_method_4_code 33 = .ok (.ireturn, 1) := by decide +kernel
theorem pn_2 : plainName "com/example/triarch/triarch/Payments$Verdict" = true := by first | (simp [plainName, overriddenIn]; done) | decide +kernel
theorem ef_rm2_0 (m : MethodId) (x0 : Addr) : entryFrame m #[(.ref x0)] 1 = mkF m 0 #[.val (.ref x0)] [] := by first | (simp [entryFrame, mkF, argsToLocals, Value.category]; done) | rfl
def Q_rm2_0 (Z : State) (ad0 ad2 ad3 ad4 ad5 : Addr) (h0 : Heap) (n0 : Nat) (v : Option Value) (h : Heap) (L : List Loc) : Prop := v = some (.int (0 : Int32)) ∧ Fr n0 L ∧ h = h0
set_option maxRecDepth 65536 in
set_option maxHeartbeats 40000000 in
theorem rm2_0 (l : Launch) (Z : State) (a0 : Array Value) (hw : ∀ d ∈ tables_1, d.before a0 Z = true) (ws : List Jvm.Cond) (ad0 ad2 ad3 ad4 ad5 : Addr) (h0 : Heap) (n0 : Nat) (Zn : n0 ≤ h0.size) (S2 : Sta Z h0 "com/example/triarch/triarch/Payments$Verdict" "FREE" "Lcom/example/triarch/triarch/Payments$Verdict;" (.ref ad2)) (S3 : Sta Z h0 "com/example/triarch/triarch/Payments$Verdict" "CHAIN" "Lcom/example/triarch/triarch/Payments$Verdict;" (.ref ad3)) (S4 : Sta Z h0 "com/example/triarch/triarch/Payments$Verdict" "OWN" "Lcom/example/triarch/triarch/Payments$Verdict;" (.ref ad4)) (S5 : Sta Z h0 "com/example/triarch/triarch/Payments$Verdict" "TRADE" "Lcom/example/triarch/triarch/Payments$Verdict;" (.ref ad5)) (ne2 : ad0 ≠ ad2) (ne3 : ad0 ≠ ad3) (ne4 : ad0 ≠ ad4) (ne5 : ad0 ≠ ad5) :
    MetFree l (⟨"com/example/triarch/triarch/Payments$Verdict", "possible", "()Z"⟩ : MethodName) (head1 (Jvm.Cond.code (⟨"com/example/triarch/triarch/Payments$Verdict", "possible", "()Z"⟩ : MethodName) prog_49_method_4_code 1 (some .boolean) :: ws) ({ frames := 0, cells := 0, slots := 0, locals := 0 } : Room)) (fun a U => a = #[(.ref ad0)] ∧ Z.Warmed39 U.vm ∧ U.heap = h0) (fun _ _ _ _ _ => True) (fun _ U o U' => ∃ v L, o = .returned v ∧ (Q_rm2_0 Z ad0 ad2 ad3 ad4 ad5 h0 n0) v U'.heap L ∧ FrameEnd U o U' L ({ frames := 0, cells := 0, slots := 0, locals := 0 } : Room).cells ({ frames := 0, cells := 0, slots := 0, locals := 0 } : Room).slots) := by
  refine MetFree.of_bodySF (plainFor_of_name pn_2) hisR ?_
  intro p e s m args below meth c s₁ Bd hml0 hP hK
  obtain ⟨rfl, hZ, hh⟩ := hP
  have hx := Bd.exec
  have hby := Bd.bytes
  have hml : c.maxLocals = 1 := hml0
  have hown : s.vm.findClass "com/example/triarch/triarch/Payments$Verdict" = some m.cls := findClass_of_methodNamed Bd.named
  have hnm := (name_of_methodNamed Bd.named Bd.method).1
  have hlk : meth.locks = false := BodyLoose.notSynchronized Bd
  have X0 : Stand p l e ({ frames := 0, cells := 0, slots := 0, locals := 0 } : Room) s m #[(.ref ad0)] below meth c s₁ [] 0 0 := Stand.of_body Bd
  have e0 : s₁.heap = h0 := by rw [← hh, Bd.state]; rfl
  have N := Fr.nil n0
  have K := Keep.refl h0 []
  refine own_start (cl := ({ frames := 0, cells := 0, slots := 0, locals := 0 } : Room).cells) (sl := ({ frames := 0, cells := 0, slots := 0, locals := 0 } : Room).slots) (Q := (Q_rm2_0 Z ad0 ad2 ad3 ad4 ad5 h0 n0)) (ef_rm2_0 m ad0) ?_
  refine own_by (S' := (s₁.setTop (mkF m 1 #[.val (.ref ad0)] [(.ref ad0)]))) (fun _ k => XS.aloadN X0.here hx rfl (hb hby d2_0) rfl rfl k) ?_
  obtain ⟨T9, X9, e9, st9⟩ := getS2 X0 hx hZ hown (host := "") (Or.inl (hw _ (List.mem_of_getElem? (i := 12) rfl))) Via.refl e0 S2 (g := (mkF m 1 #[.val (.ref ad0)] [(.ref ad0)])) rfl (hb hby d2_1)
  refine own_by (S' := (T9.setTop (mkF m 4 #[.val (.ref ad0)] [(.ref ad2), (.ref ad0)]))) st9 ?_
  refine own_by (S' := (T9.setTop (mkF m 7 #[.val (.ref ad0)] []))) (fun _ k => Jvm.RoadKit.acmp (g := (mkF m 4 #[.val (.ref ad0)] [(.ref ad2), (.ref ad0)])) X9 hx rfl rfl rfl (pc0 := 4) (pc' := 7) (same := false) rfl (hb hby d2_4) rfl (decide_eq_false (fun q => ne2 (Value.ref.inj q))) (by decide) (by decide) k) ?_
  refine own_by (S' := (T9.setTop (mkF m 8 #[.val (.ref ad0)] [(.ref ad0)]))) (fun _ k => XS.aloadN X9.here hx rfl (hb hby d2_7) rfl rfl k) ?_
  obtain ⟨T10, X10, e10, st10⟩ := getS2 X9 hx hZ hown (host := "") (Or.inl (hw _ (List.mem_of_getElem? (i := 14) rfl))) Via.refl e9 S3 (g := (mkF m 8 #[.val (.ref ad0)] [(.ref ad0)])) rfl (hb hby d2_8)
  refine own_by (S' := (T10.setTop (mkF m 11 #[.val (.ref ad0)] [(.ref ad3), (.ref ad0)]))) st10 ?_
  refine own_by (S' := (T10.setTop (mkF m 14 #[.val (.ref ad0)] []))) (fun _ k => Jvm.RoadKit.acmp (g := (mkF m 11 #[.val (.ref ad0)] [(.ref ad3), (.ref ad0)])) X10 hx rfl rfl rfl (pc0 := 11) (pc' := 14) (same := false) rfl (hb hby d2_11) rfl (decide_eq_false (fun q => ne3 (Value.ref.inj q))) (by decide) (by decide) k) ?_
  refine own_by (S' := (T10.setTop (mkF m 15 #[.val (.ref ad0)] [(.ref ad0)]))) (fun _ k => XS.aloadN X10.here hx rfl (hb hby d2_14) rfl rfl k) ?_
  obtain ⟨T11, X11, e11, st11⟩ := getS2 X10 hx hZ hown (host := "") (Or.inl (hw _ (List.mem_of_getElem? (i := 16) rfl))) Via.refl e10 S4 (g := (mkF m 15 #[.val (.ref ad0)] [(.ref ad0)])) rfl (hb hby d2_15)
  refine own_by (S' := (T11.setTop (mkF m 18 #[.val (.ref ad0)] [(.ref ad4), (.ref ad0)]))) st11 ?_
  refine own_by (S' := (T11.setTop (mkF m 21 #[.val (.ref ad0)] []))) (fun _ k => Jvm.RoadKit.acmp (g := (mkF m 18 #[.val (.ref ad0)] [(.ref ad4), (.ref ad0)])) X11 hx rfl rfl rfl (pc0 := 18) (pc' := 21) (same := false) rfl (hb hby d2_18) rfl (decide_eq_false (fun q => ne4 (Value.ref.inj q))) (by decide) (by decide) k) ?_
  refine own_by (S' := (T11.setTop (mkF m 22 #[.val (.ref ad0)] [(.ref ad0)]))) (fun _ k => XS.aloadN X11.here hx rfl (hb hby d2_21) rfl rfl k) ?_
  obtain ⟨T12, X12, e12, st12⟩ := getS2 X11 hx hZ hown (host := "") (Or.inl (hw _ (List.mem_of_getElem? (i := 18) rfl))) Via.refl e11 S5 (g := (mkF m 22 #[.val (.ref ad0)] [(.ref ad0)])) rfl (hb hby d2_22)
  refine own_by (S' := (T12.setTop (mkF m 25 #[.val (.ref ad0)] [(.ref ad5), (.ref ad0)]))) st12 ?_
  refine own_by (S' := (T12.setTop (mkF m 32 #[.val (.ref ad0)] []))) (fun _ k => Jvm.RoadKit.acmp (g := (mkF m 25 #[.val (.ref ad0)] [(.ref ad5), (.ref ad0)])) X12 hx rfl rfl rfl (pc0 := 25) (pc' := 32) (same := false) rfl (hb hby d2_25) rfl (decide_eq_false (fun q => ne5 (Value.ref.inj q))) (by decide) (by decide) k) ?_
  refine own_by (S' := (T12.setTop (mkF m 33 #[.val (.ref ad0)] [(.int (0 : Int32))]))) (fun _ k => XS.iconst X12.here hx rfl (hb hby d2_32) k) ?_
  exact own_ret X12 hx (t := .boolean) Bd.returns rfl (Or.inl ⟨rfl, by simp, _, rfl⟩) (hb hby d2_33) hlk (by decide : 0 ≤ _) (by decide : 0 ≤ _) (by rw [e12]; exact ⟨rfl, N, rfl⟩)
theorem ef_rm2_1 (m : MethodId) (x0 : Addr) : entryFrame m #[(.ref x0)] 1 = mkF m 0 #[.val (.ref x0)] [] := by first | (simp [entryFrame, mkF, argsToLocals, Value.category]; done) | rfl
def Q_rm2_1 (Z : State) (ad1 ad2 ad3 ad4 ad5 : Addr) (h0 : Heap) (n0 : Nat) (v : Option Value) (h : Heap) (L : List Loc) : Prop := v = some (.int (0 : Int32)) ∧ Fr n0 L ∧ h = h0
set_option maxRecDepth 65536 in
set_option maxHeartbeats 40000000 in
theorem rm2_1 (l : Launch) (Z : State) (a0 : Array Value) (hw : ∀ d ∈ tables_1, d.before a0 Z = true) (ws : List Jvm.Cond) (ad1 ad2 ad3 ad4 ad5 : Addr) (h0 : Heap) (n0 : Nat) (Zn : n0 ≤ h0.size) (S2 : Sta Z h0 "com/example/triarch/triarch/Payments$Verdict" "FREE" "Lcom/example/triarch/triarch/Payments$Verdict;" (.ref ad2)) (S3 : Sta Z h0 "com/example/triarch/triarch/Payments$Verdict" "CHAIN" "Lcom/example/triarch/triarch/Payments$Verdict;" (.ref ad3)) (S4 : Sta Z h0 "com/example/triarch/triarch/Payments$Verdict" "OWN" "Lcom/example/triarch/triarch/Payments$Verdict;" (.ref ad4)) (S5 : Sta Z h0 "com/example/triarch/triarch/Payments$Verdict" "TRADE" "Lcom/example/triarch/triarch/Payments$Verdict;" (.ref ad5)) (ne2 : ad1 ≠ ad2) (ne3 : ad1 ≠ ad3) (ne4 : ad1 ≠ ad4) (ne5 : ad1 ≠ ad5) :
    MetFree l (⟨"com/example/triarch/triarch/Payments$Verdict", "possible", "()Z"⟩ : MethodName) (head1 (Jvm.Cond.code (⟨"com/example/triarch/triarch/Payments$Verdict", "possible", "()Z"⟩ : MethodName) prog_49_method_4_code 1 (some .boolean) :: ws) ({ frames := 0, cells := 0, slots := 0, locals := 0 } : Room)) (fun a U => a = #[(.ref ad1)] ∧ Z.Warmed39 U.vm ∧ U.heap = h0) (fun _ _ _ _ _ => True) (fun _ U o U' => ∃ v L, o = .returned v ∧ (Q_rm2_1 Z ad1 ad2 ad3 ad4 ad5 h0 n0) v U'.heap L ∧ FrameEnd U o U' L ({ frames := 0, cells := 0, slots := 0, locals := 0 } : Room).cells ({ frames := 0, cells := 0, slots := 0, locals := 0 } : Room).slots) := by
  refine MetFree.of_bodySF (plainFor_of_name pn_2) hisR ?_
  intro p e s m args below meth c s₁ Bd hml0 hP hK
  obtain ⟨rfl, hZ, hh⟩ := hP
  have hx := Bd.exec
  have hby := Bd.bytes
  have hml : c.maxLocals = 1 := hml0
  have hown : s.vm.findClass "com/example/triarch/triarch/Payments$Verdict" = some m.cls := findClass_of_methodNamed Bd.named
  have hnm := (name_of_methodNamed Bd.named Bd.method).1
  have hlk : meth.locks = false := BodyLoose.notSynchronized Bd
  have X0 : Stand p l e ({ frames := 0, cells := 0, slots := 0, locals := 0 } : Room) s m #[(.ref ad1)] below meth c s₁ [] 0 0 := Stand.of_body Bd
  have e0 : s₁.heap = h0 := by rw [← hh, Bd.state]; rfl
  have N := Fr.nil n0
  have K := Keep.refl h0 []
  refine own_start (cl := ({ frames := 0, cells := 0, slots := 0, locals := 0 } : Room).cells) (sl := ({ frames := 0, cells := 0, slots := 0, locals := 0 } : Room).slots) (Q := (Q_rm2_1 Z ad1 ad2 ad3 ad4 ad5 h0 n0)) (ef_rm2_1 m ad1) ?_
  refine own_by (S' := (s₁.setTop (mkF m 1 #[.val (.ref ad1)] [(.ref ad1)]))) (fun _ k => XS.aloadN X0.here hx rfl (hb hby d2_0) rfl rfl k) ?_
  obtain ⟨T13, X13, e13, st13⟩ := getS2 X0 hx hZ hown (host := "") (Or.inl (hw _ (List.mem_of_getElem? (i := 12) rfl))) Via.refl e0 S2 (g := (mkF m 1 #[.val (.ref ad1)] [(.ref ad1)])) rfl (hb hby d2_1)
  refine own_by (S' := (T13.setTop (mkF m 4 #[.val (.ref ad1)] [(.ref ad2), (.ref ad1)]))) st13 ?_
  refine own_by (S' := (T13.setTop (mkF m 7 #[.val (.ref ad1)] []))) (fun _ k => Jvm.RoadKit.acmp (g := (mkF m 4 #[.val (.ref ad1)] [(.ref ad2), (.ref ad1)])) X13 hx rfl rfl rfl (pc0 := 4) (pc' := 7) (same := false) rfl (hb hby d2_4) rfl (decide_eq_false (fun q => ne2 (Value.ref.inj q))) (by decide) (by decide) k) ?_
  refine own_by (S' := (T13.setTop (mkF m 8 #[.val (.ref ad1)] [(.ref ad1)]))) (fun _ k => XS.aloadN X13.here hx rfl (hb hby d2_7) rfl rfl k) ?_
  obtain ⟨T14, X14, e14, st14⟩ := getS2 X13 hx hZ hown (host := "") (Or.inl (hw _ (List.mem_of_getElem? (i := 14) rfl))) Via.refl e13 S3 (g := (mkF m 8 #[.val (.ref ad1)] [(.ref ad1)])) rfl (hb hby d2_8)
  refine own_by (S' := (T14.setTop (mkF m 11 #[.val (.ref ad1)] [(.ref ad3), (.ref ad1)]))) st14 ?_
  refine own_by (S' := (T14.setTop (mkF m 14 #[.val (.ref ad1)] []))) (fun _ k => Jvm.RoadKit.acmp (g := (mkF m 11 #[.val (.ref ad1)] [(.ref ad3), (.ref ad1)])) X14 hx rfl rfl rfl (pc0 := 11) (pc' := 14) (same := false) rfl (hb hby d2_11) rfl (decide_eq_false (fun q => ne3 (Value.ref.inj q))) (by decide) (by decide) k) ?_
  refine own_by (S' := (T14.setTop (mkF m 15 #[.val (.ref ad1)] [(.ref ad1)]))) (fun _ k => XS.aloadN X14.here hx rfl (hb hby d2_14) rfl rfl k) ?_
  obtain ⟨T15, X15, e15, st15⟩ := getS2 X14 hx hZ hown (host := "") (Or.inl (hw _ (List.mem_of_getElem? (i := 16) rfl))) Via.refl e14 S4 (g := (mkF m 15 #[.val (.ref ad1)] [(.ref ad1)])) rfl (hb hby d2_15)
  refine own_by (S' := (T15.setTop (mkF m 18 #[.val (.ref ad1)] [(.ref ad4), (.ref ad1)]))) st15 ?_
  refine own_by (S' := (T15.setTop (mkF m 21 #[.val (.ref ad1)] []))) (fun _ k => Jvm.RoadKit.acmp (g := (mkF m 18 #[.val (.ref ad1)] [(.ref ad4), (.ref ad1)])) X15 hx rfl rfl rfl (pc0 := 18) (pc' := 21) (same := false) rfl (hb hby d2_18) rfl (decide_eq_false (fun q => ne4 (Value.ref.inj q))) (by decide) (by decide) k) ?_
  refine own_by (S' := (T15.setTop (mkF m 22 #[.val (.ref ad1)] [(.ref ad1)]))) (fun _ k => XS.aloadN X15.here hx rfl (hb hby d2_21) rfl rfl k) ?_
  obtain ⟨T16, X16, e16, st16⟩ := getS2 X15 hx hZ hown (host := "") (Or.inl (hw _ (List.mem_of_getElem? (i := 18) rfl))) Via.refl e15 S5 (g := (mkF m 22 #[.val (.ref ad1)] [(.ref ad1)])) rfl (hb hby d2_22)
  refine own_by (S' := (T16.setTop (mkF m 25 #[.val (.ref ad1)] [(.ref ad5), (.ref ad1)]))) st16 ?_
  refine own_by (S' := (T16.setTop (mkF m 32 #[.val (.ref ad1)] []))) (fun _ k => Jvm.RoadKit.acmp (g := (mkF m 25 #[.val (.ref ad1)] [(.ref ad5), (.ref ad1)])) X16 hx rfl rfl rfl (pc0 := 25) (pc' := 32) (same := false) rfl (hb hby d2_25) rfl (decide_eq_false (fun q => ne5 (Value.ref.inj q))) (by decide) (by decide) k) ?_
  refine own_by (S' := (T16.setTop (mkF m 33 #[.val (.ref ad1)] [(.int (0 : Int32))]))) (fun _ k => XS.iconst X16.here hx rfl (hb hby d2_32) k) ?_
  exact own_ret X16 hx (t := .boolean) Bd.returns rfl (Or.inl ⟨rfl, by simp, _, rfl⟩) (hb hby d2_33) hlk (by decide : 0 ≤ _) (by decide : 0 ≤ _) (by rw [e16]; exact ⟨rfl, N, rfl⟩)
theorem ef_rm2_2 (m : MethodId) (x0 : Addr) : entryFrame m #[(.ref x0)] 1 = mkF m 0 #[.val (.ref x0)] [] := by first | (simp [entryFrame, mkF, argsToLocals, Value.category]; done) | rfl
def Q_rm2_2 (Z : State) (ad2 ad3 ad4 ad5 : Addr) (h0 : Heap) (n0 : Nat) (v : Option Value) (h : Heap) (L : List Loc) : Prop := v = some (.int (1 : Int32)) ∧ Fr n0 L ∧ h = h0
set_option maxRecDepth 65536 in
set_option maxHeartbeats 40000000 in
theorem rm2_2 (l : Launch) (Z : State) (a0 : Array Value) (hw : ∀ d ∈ tables_1, d.before a0 Z = true) (ws : List Jvm.Cond) (ad2 ad3 ad4 ad5 : Addr) (h0 : Heap) (n0 : Nat) (Zn : n0 ≤ h0.size) (S2 : Sta Z h0 "com/example/triarch/triarch/Payments$Verdict" "FREE" "Lcom/example/triarch/triarch/Payments$Verdict;" (.ref ad2)) (S3 : Sta Z h0 "com/example/triarch/triarch/Payments$Verdict" "CHAIN" "Lcom/example/triarch/triarch/Payments$Verdict;" (.ref ad3)) (S4 : Sta Z h0 "com/example/triarch/triarch/Payments$Verdict" "OWN" "Lcom/example/triarch/triarch/Payments$Verdict;" (.ref ad4)) (S5 : Sta Z h0 "com/example/triarch/triarch/Payments$Verdict" "TRADE" "Lcom/example/triarch/triarch/Payments$Verdict;" (.ref ad5)) (ne3 : ad2 ≠ ad3) (ne4 : ad2 ≠ ad4) (ne5 : ad2 ≠ ad5) :
    MetFree l (⟨"com/example/triarch/triarch/Payments$Verdict", "possible", "()Z"⟩ : MethodName) (head1 (Jvm.Cond.code (⟨"com/example/triarch/triarch/Payments$Verdict", "possible", "()Z"⟩ : MethodName) prog_49_method_4_code 1 (some .boolean) :: ws) ({ frames := 0, cells := 0, slots := 0, locals := 0 } : Room)) (fun a U => a = #[(.ref ad2)] ∧ Z.Warmed39 U.vm ∧ U.heap = h0) (fun _ _ _ _ _ => True) (fun _ U o U' => ∃ v L, o = .returned v ∧ (Q_rm2_2 Z ad2 ad3 ad4 ad5 h0 n0) v U'.heap L ∧ FrameEnd U o U' L ({ frames := 0, cells := 0, slots := 0, locals := 0 } : Room).cells ({ frames := 0, cells := 0, slots := 0, locals := 0 } : Room).slots) := by
  refine MetFree.of_bodySF (plainFor_of_name pn_2) hisR ?_
  intro p e s m args below meth c s₁ Bd hml0 hP hK
  obtain ⟨rfl, hZ, hh⟩ := hP
  have hx := Bd.exec
  have hby := Bd.bytes
  have hml : c.maxLocals = 1 := hml0
  have hown : s.vm.findClass "com/example/triarch/triarch/Payments$Verdict" = some m.cls := findClass_of_methodNamed Bd.named
  have hnm := (name_of_methodNamed Bd.named Bd.method).1
  have hlk : meth.locks = false := BodyLoose.notSynchronized Bd
  have X0 : Stand p l e ({ frames := 0, cells := 0, slots := 0, locals := 0 } : Room) s m #[(.ref ad2)] below meth c s₁ [] 0 0 := Stand.of_body Bd
  have e0 : s₁.heap = h0 := by rw [← hh, Bd.state]; rfl
  have N := Fr.nil n0
  have K := Keep.refl h0 []
  refine own_start (cl := ({ frames := 0, cells := 0, slots := 0, locals := 0 } : Room).cells) (sl := ({ frames := 0, cells := 0, slots := 0, locals := 0 } : Room).slots) (Q := (Q_rm2_2 Z ad2 ad3 ad4 ad5 h0 n0)) (ef_rm2_2 m ad2) ?_
  refine own_by (S' := (s₁.setTop (mkF m 1 #[.val (.ref ad2)] [(.ref ad2)]))) (fun _ k => XS.aloadN X0.here hx rfl (hb hby d2_0) rfl rfl k) ?_
  obtain ⟨T17, X17, e17, st17⟩ := getS2 X0 hx hZ hown (host := "") (Or.inl (hw _ (List.mem_of_getElem? (i := 12) rfl))) Via.refl e0 S2 (g := (mkF m 1 #[.val (.ref ad2)] [(.ref ad2)])) rfl (hb hby d2_1)
  refine own_by (S' := (T17.setTop (mkF m 4 #[.val (.ref ad2)] [(.ref ad2), (.ref ad2)]))) st17 ?_
  refine own_by (S' := (T17.setTop (mkF m 28 #[.val (.ref ad2)] []))) (fun _ k => Jvm.RoadKit.acmp (g := (mkF m 4 #[.val (.ref ad2)] [(.ref ad2), (.ref ad2)])) X17 hx rfl rfl rfl (pc0 := 4) (pc' := 28) (same := true) rfl (hb hby d2_4) rfl (decide_eq_true rfl) (by decide) (by decide) k) ?_
  refine own_by (S' := (T17.setTop (mkF m 29 #[.val (.ref ad2)] [(.int (1 : Int32))]))) (fun _ k => XS.iconst X17.here hx rfl (hb hby d2_28) k) ?_
  refine own_by (S' := (T17.setTop (mkF m 33 #[.val (.ref ad2)] [(.int (1 : Int32))]))) (fun _ k => XS.goto X17.here hx rfl (pc0 := 29) (pc' := 33) rfl (hb hby d2_29) (by decide) (by decide) k) ?_
  exact own_ret X17 hx (t := .boolean) Bd.returns rfl (Or.inl ⟨rfl, by simp, _, rfl⟩) (hb hby d2_33) hlk (by decide : 0 ≤ _) (by decide : 0 ≤ _) (by rw [e17]; exact ⟨rfl, N, rfl⟩)
theorem ef_rm2_3 (m : MethodId) (x0 : Addr) : entryFrame m #[(.ref x0)] 1 = mkF m 0 #[.val (.ref x0)] [] := by first | (simp [entryFrame, mkF, argsToLocals, Value.category]; done) | rfl
def Q_rm2_3 (Z : State) (ad2 ad3 ad4 ad5 : Addr) (h0 : Heap) (n0 : Nat) (v : Option Value) (h : Heap) (L : List Loc) : Prop := v = some (.int (1 : Int32)) ∧ Fr n0 L ∧ h = h0
set_option maxRecDepth 65536 in
set_option maxHeartbeats 40000000 in
theorem rm2_3 (l : Launch) (Z : State) (a0 : Array Value) (hw : ∀ d ∈ tables_1, d.before a0 Z = true) (ws : List Jvm.Cond) (ad2 ad3 ad4 ad5 : Addr) (h0 : Heap) (n0 : Nat) (Zn : n0 ≤ h0.size) (S2 : Sta Z h0 "com/example/triarch/triarch/Payments$Verdict" "FREE" "Lcom/example/triarch/triarch/Payments$Verdict;" (.ref ad2)) (S3 : Sta Z h0 "com/example/triarch/triarch/Payments$Verdict" "CHAIN" "Lcom/example/triarch/triarch/Payments$Verdict;" (.ref ad3)) (S4 : Sta Z h0 "com/example/triarch/triarch/Payments$Verdict" "OWN" "Lcom/example/triarch/triarch/Payments$Verdict;" (.ref ad4)) (S5 : Sta Z h0 "com/example/triarch/triarch/Payments$Verdict" "TRADE" "Lcom/example/triarch/triarch/Payments$Verdict;" (.ref ad5)) (ne2 : ad3 ≠ ad2) (ne4 : ad3 ≠ ad4) (ne5 : ad3 ≠ ad5) :
    MetFree l (⟨"com/example/triarch/triarch/Payments$Verdict", "possible", "()Z"⟩ : MethodName) (head1 (Jvm.Cond.code (⟨"com/example/triarch/triarch/Payments$Verdict", "possible", "()Z"⟩ : MethodName) prog_49_method_4_code 1 (some .boolean) :: ws) ({ frames := 0, cells := 0, slots := 0, locals := 0 } : Room)) (fun a U => a = #[(.ref ad3)] ∧ Z.Warmed39 U.vm ∧ U.heap = h0) (fun _ _ _ _ _ => True) (fun _ U o U' => ∃ v L, o = .returned v ∧ (Q_rm2_3 Z ad2 ad3 ad4 ad5 h0 n0) v U'.heap L ∧ FrameEnd U o U' L ({ frames := 0, cells := 0, slots := 0, locals := 0 } : Room).cells ({ frames := 0, cells := 0, slots := 0, locals := 0 } : Room).slots) := by
  refine MetFree.of_bodySF (plainFor_of_name pn_2) hisR ?_
  intro p e s m args below meth c s₁ Bd hml0 hP hK
  obtain ⟨rfl, hZ, hh⟩ := hP
  have hx := Bd.exec
  have hby := Bd.bytes
  have hml : c.maxLocals = 1 := hml0
  have hown : s.vm.findClass "com/example/triarch/triarch/Payments$Verdict" = some m.cls := findClass_of_methodNamed Bd.named
  have hnm := (name_of_methodNamed Bd.named Bd.method).1
  have hlk : meth.locks = false := BodyLoose.notSynchronized Bd
  have X0 : Stand p l e ({ frames := 0, cells := 0, slots := 0, locals := 0 } : Room) s m #[(.ref ad3)] below meth c s₁ [] 0 0 := Stand.of_body Bd
  have e0 : s₁.heap = h0 := by rw [← hh, Bd.state]; rfl
  have N := Fr.nil n0
  have K := Keep.refl h0 []
  refine own_start (cl := ({ frames := 0, cells := 0, slots := 0, locals := 0 } : Room).cells) (sl := ({ frames := 0, cells := 0, slots := 0, locals := 0 } : Room).slots) (Q := (Q_rm2_3 Z ad2 ad3 ad4 ad5 h0 n0)) (ef_rm2_3 m ad3) ?_
  refine own_by (S' := (s₁.setTop (mkF m 1 #[.val (.ref ad3)] [(.ref ad3)]))) (fun _ k => XS.aloadN X0.here hx rfl (hb hby d2_0) rfl rfl k) ?_
  obtain ⟨T18, X18, e18, st18⟩ := getS2 X0 hx hZ hown (host := "") (Or.inl (hw _ (List.mem_of_getElem? (i := 12) rfl))) Via.refl e0 S2 (g := (mkF m 1 #[.val (.ref ad3)] [(.ref ad3)])) rfl (hb hby d2_1)
  refine own_by (S' := (T18.setTop (mkF m 4 #[.val (.ref ad3)] [(.ref ad2), (.ref ad3)]))) st18 ?_
  refine own_by (S' := (T18.setTop (mkF m 7 #[.val (.ref ad3)] []))) (fun _ k => Jvm.RoadKit.acmp (g := (mkF m 4 #[.val (.ref ad3)] [(.ref ad2), (.ref ad3)])) X18 hx rfl rfl rfl (pc0 := 4) (pc' := 7) (same := false) rfl (hb hby d2_4) rfl (decide_eq_false (fun q => ne2 (Value.ref.inj q))) (by decide) (by decide) k) ?_
  refine own_by (S' := (T18.setTop (mkF m 8 #[.val (.ref ad3)] [(.ref ad3)]))) (fun _ k => XS.aloadN X18.here hx rfl (hb hby d2_7) rfl rfl k) ?_
  obtain ⟨T19, X19, e19, st19⟩ := getS2 X18 hx hZ hown (host := "") (Or.inl (hw _ (List.mem_of_getElem? (i := 14) rfl))) Via.refl e18 S3 (g := (mkF m 8 #[.val (.ref ad3)] [(.ref ad3)])) rfl (hb hby d2_8)
  refine own_by (S' := (T19.setTop (mkF m 11 #[.val (.ref ad3)] [(.ref ad3), (.ref ad3)]))) st19 ?_
  refine own_by (S' := (T19.setTop (mkF m 28 #[.val (.ref ad3)] []))) (fun _ k => Jvm.RoadKit.acmp (g := (mkF m 11 #[.val (.ref ad3)] [(.ref ad3), (.ref ad3)])) X19 hx rfl rfl rfl (pc0 := 11) (pc' := 28) (same := true) rfl (hb hby d2_11) rfl (decide_eq_true rfl) (by decide) (by decide) k) ?_
  refine own_by (S' := (T19.setTop (mkF m 29 #[.val (.ref ad3)] [(.int (1 : Int32))]))) (fun _ k => XS.iconst X19.here hx rfl (hb hby d2_28) k) ?_
  refine own_by (S' := (T19.setTop (mkF m 33 #[.val (.ref ad3)] [(.int (1 : Int32))]))) (fun _ k => XS.goto X19.here hx rfl (pc0 := 29) (pc' := 33) rfl (hb hby d2_29) (by decide) (by decide) k) ?_
  exact own_ret X19 hx (t := .boolean) Bd.returns rfl (Or.inl ⟨rfl, by simp, _, rfl⟩) (hb hby d2_33) hlk (by decide : 0 ≤ _) (by decide : 0 ≤ _) (by rw [e19]; exact ⟨rfl, N, rfl⟩)
theorem ef_rm2_4 (m : MethodId) (x0 : Addr) : entryFrame m #[(.ref x0)] 1 = mkF m 0 #[.val (.ref x0)] [] := by first | (simp [entryFrame, mkF, argsToLocals, Value.category]; done) | rfl
def Q_rm2_4 (Z : State) (ad2 ad3 ad4 ad5 : Addr) (h0 : Heap) (n0 : Nat) (v : Option Value) (h : Heap) (L : List Loc) : Prop := v = some (.int (1 : Int32)) ∧ Fr n0 L ∧ h = h0
set_option maxRecDepth 65536 in
set_option maxHeartbeats 40000000 in
theorem rm2_4 (l : Launch) (Z : State) (a0 : Array Value) (hw : ∀ d ∈ tables_1, d.before a0 Z = true) (ws : List Jvm.Cond) (ad2 ad3 ad4 ad5 : Addr) (h0 : Heap) (n0 : Nat) (Zn : n0 ≤ h0.size) (S2 : Sta Z h0 "com/example/triarch/triarch/Payments$Verdict" "FREE" "Lcom/example/triarch/triarch/Payments$Verdict;" (.ref ad2)) (S3 : Sta Z h0 "com/example/triarch/triarch/Payments$Verdict" "CHAIN" "Lcom/example/triarch/triarch/Payments$Verdict;" (.ref ad3)) (S4 : Sta Z h0 "com/example/triarch/triarch/Payments$Verdict" "OWN" "Lcom/example/triarch/triarch/Payments$Verdict;" (.ref ad4)) (S5 : Sta Z h0 "com/example/triarch/triarch/Payments$Verdict" "TRADE" "Lcom/example/triarch/triarch/Payments$Verdict;" (.ref ad5)) (ne2 : ad4 ≠ ad2) (ne3 : ad4 ≠ ad3) (ne5 : ad4 ≠ ad5) :
    MetFree l (⟨"com/example/triarch/triarch/Payments$Verdict", "possible", "()Z"⟩ : MethodName) (head1 (Jvm.Cond.code (⟨"com/example/triarch/triarch/Payments$Verdict", "possible", "()Z"⟩ : MethodName) prog_49_method_4_code 1 (some .boolean) :: ws) ({ frames := 0, cells := 0, slots := 0, locals := 0 } : Room)) (fun a U => a = #[(.ref ad4)] ∧ Z.Warmed39 U.vm ∧ U.heap = h0) (fun _ _ _ _ _ => True) (fun _ U o U' => ∃ v L, o = .returned v ∧ (Q_rm2_4 Z ad2 ad3 ad4 ad5 h0 n0) v U'.heap L ∧ FrameEnd U o U' L ({ frames := 0, cells := 0, slots := 0, locals := 0 } : Room).cells ({ frames := 0, cells := 0, slots := 0, locals := 0 } : Room).slots) := by
  refine MetFree.of_bodySF (plainFor_of_name pn_2) hisR ?_
  intro p e s m args below meth c s₁ Bd hml0 hP hK
  obtain ⟨rfl, hZ, hh⟩ := hP
  have hx := Bd.exec
  have hby := Bd.bytes
  have hml : c.maxLocals = 1 := hml0
  have hown : s.vm.findClass "com/example/triarch/triarch/Payments$Verdict" = some m.cls := findClass_of_methodNamed Bd.named
  have hnm := (name_of_methodNamed Bd.named Bd.method).1
  have hlk : meth.locks = false := BodyLoose.notSynchronized Bd
  have X0 : Stand p l e ({ frames := 0, cells := 0, slots := 0, locals := 0 } : Room) s m #[(.ref ad4)] below meth c s₁ [] 0 0 := Stand.of_body Bd
  have e0 : s₁.heap = h0 := by rw [← hh, Bd.state]; rfl
  have N := Fr.nil n0
  have K := Keep.refl h0 []
  refine own_start (cl := ({ frames := 0, cells := 0, slots := 0, locals := 0 } : Room).cells) (sl := ({ frames := 0, cells := 0, slots := 0, locals := 0 } : Room).slots) (Q := (Q_rm2_4 Z ad2 ad3 ad4 ad5 h0 n0)) (ef_rm2_4 m ad4) ?_
  refine own_by (S' := (s₁.setTop (mkF m 1 #[.val (.ref ad4)] [(.ref ad4)]))) (fun _ k => XS.aloadN X0.here hx rfl (hb hby d2_0) rfl rfl k) ?_
  obtain ⟨T20, X20, e20, st20⟩ := getS2 X0 hx hZ hown (host := "") (Or.inl (hw _ (List.mem_of_getElem? (i := 12) rfl))) Via.refl e0 S2 (g := (mkF m 1 #[.val (.ref ad4)] [(.ref ad4)])) rfl (hb hby d2_1)
  refine own_by (S' := (T20.setTop (mkF m 4 #[.val (.ref ad4)] [(.ref ad2), (.ref ad4)]))) st20 ?_
  refine own_by (S' := (T20.setTop (mkF m 7 #[.val (.ref ad4)] []))) (fun _ k => Jvm.RoadKit.acmp (g := (mkF m 4 #[.val (.ref ad4)] [(.ref ad2), (.ref ad4)])) X20 hx rfl rfl rfl (pc0 := 4) (pc' := 7) (same := false) rfl (hb hby d2_4) rfl (decide_eq_false (fun q => ne2 (Value.ref.inj q))) (by decide) (by decide) k) ?_
  refine own_by (S' := (T20.setTop (mkF m 8 #[.val (.ref ad4)] [(.ref ad4)]))) (fun _ k => XS.aloadN X20.here hx rfl (hb hby d2_7) rfl rfl k) ?_
  obtain ⟨T21, X21, e21, st21⟩ := getS2 X20 hx hZ hown (host := "") (Or.inl (hw _ (List.mem_of_getElem? (i := 14) rfl))) Via.refl e20 S3 (g := (mkF m 8 #[.val (.ref ad4)] [(.ref ad4)])) rfl (hb hby d2_8)
  refine own_by (S' := (T21.setTop (mkF m 11 #[.val (.ref ad4)] [(.ref ad3), (.ref ad4)]))) st21 ?_
  refine own_by (S' := (T21.setTop (mkF m 14 #[.val (.ref ad4)] []))) (fun _ k => Jvm.RoadKit.acmp (g := (mkF m 11 #[.val (.ref ad4)] [(.ref ad3), (.ref ad4)])) X21 hx rfl rfl rfl (pc0 := 11) (pc' := 14) (same := false) rfl (hb hby d2_11) rfl (decide_eq_false (fun q => ne3 (Value.ref.inj q))) (by decide) (by decide) k) ?_
  refine own_by (S' := (T21.setTop (mkF m 15 #[.val (.ref ad4)] [(.ref ad4)]))) (fun _ k => XS.aloadN X21.here hx rfl (hb hby d2_14) rfl rfl k) ?_
  obtain ⟨T22, X22, e22, st22⟩ := getS2 X21 hx hZ hown (host := "") (Or.inl (hw _ (List.mem_of_getElem? (i := 16) rfl))) Via.refl e21 S4 (g := (mkF m 15 #[.val (.ref ad4)] [(.ref ad4)])) rfl (hb hby d2_15)
  refine own_by (S' := (T22.setTop (mkF m 18 #[.val (.ref ad4)] [(.ref ad4), (.ref ad4)]))) st22 ?_
  refine own_by (S' := (T22.setTop (mkF m 28 #[.val (.ref ad4)] []))) (fun _ k => Jvm.RoadKit.acmp (g := (mkF m 18 #[.val (.ref ad4)] [(.ref ad4), (.ref ad4)])) X22 hx rfl rfl rfl (pc0 := 18) (pc' := 28) (same := true) rfl (hb hby d2_18) rfl (decide_eq_true rfl) (by decide) (by decide) k) ?_
  refine own_by (S' := (T22.setTop (mkF m 29 #[.val (.ref ad4)] [(.int (1 : Int32))]))) (fun _ k => XS.iconst X22.here hx rfl (hb hby d2_28) k) ?_
  refine own_by (S' := (T22.setTop (mkF m 33 #[.val (.ref ad4)] [(.int (1 : Int32))]))) (fun _ k => XS.goto X22.here hx rfl (pc0 := 29) (pc' := 33) rfl (hb hby d2_29) (by decide) (by decide) k) ?_
  exact own_ret X22 hx (t := .boolean) Bd.returns rfl (Or.inl ⟨rfl, by simp, _, rfl⟩) (hb hby d2_33) hlk (by decide : 0 ≤ _) (by decide : 0 ≤ _) (by rw [e22]; exact ⟨rfl, N, rfl⟩)
theorem ef_rm2_5 (m : MethodId) (x0 : Addr) : entryFrame m #[(.ref x0)] 1 = mkF m 0 #[.val (.ref x0)] [] := by first | (simp [entryFrame, mkF, argsToLocals, Value.category]; done) | rfl
def Q_rm2_5 (Z : State) (ad2 ad3 ad4 ad5 : Addr) (h0 : Heap) (n0 : Nat) (v : Option Value) (h : Heap) (L : List Loc) : Prop := v = some (.int (1 : Int32)) ∧ Fr n0 L ∧ h = h0
set_option maxRecDepth 65536 in
set_option maxHeartbeats 40000000 in
theorem rm2_5 (l : Launch) (Z : State) (a0 : Array Value) (hw : ∀ d ∈ tables_1, d.before a0 Z = true) (ws : List Jvm.Cond) (ad2 ad3 ad4 ad5 : Addr) (h0 : Heap) (n0 : Nat) (Zn : n0 ≤ h0.size) (S2 : Sta Z h0 "com/example/triarch/triarch/Payments$Verdict" "FREE" "Lcom/example/triarch/triarch/Payments$Verdict;" (.ref ad2)) (S3 : Sta Z h0 "com/example/triarch/triarch/Payments$Verdict" "CHAIN" "Lcom/example/triarch/triarch/Payments$Verdict;" (.ref ad3)) (S4 : Sta Z h0 "com/example/triarch/triarch/Payments$Verdict" "OWN" "Lcom/example/triarch/triarch/Payments$Verdict;" (.ref ad4)) (S5 : Sta Z h0 "com/example/triarch/triarch/Payments$Verdict" "TRADE" "Lcom/example/triarch/triarch/Payments$Verdict;" (.ref ad5)) (ne2 : ad5 ≠ ad2) (ne3 : ad5 ≠ ad3) (ne4 : ad5 ≠ ad4) :
    MetFree l (⟨"com/example/triarch/triarch/Payments$Verdict", "possible", "()Z"⟩ : MethodName) (head1 (Jvm.Cond.code (⟨"com/example/triarch/triarch/Payments$Verdict", "possible", "()Z"⟩ : MethodName) prog_49_method_4_code 1 (some .boolean) :: ws) ({ frames := 0, cells := 0, slots := 0, locals := 0 } : Room)) (fun a U => a = #[(.ref ad5)] ∧ Z.Warmed39 U.vm ∧ U.heap = h0) (fun _ _ _ _ _ => True) (fun _ U o U' => ∃ v L, o = .returned v ∧ (Q_rm2_5 Z ad2 ad3 ad4 ad5 h0 n0) v U'.heap L ∧ FrameEnd U o U' L ({ frames := 0, cells := 0, slots := 0, locals := 0 } : Room).cells ({ frames := 0, cells := 0, slots := 0, locals := 0 } : Room).slots) := by
  refine MetFree.of_bodySF (plainFor_of_name pn_2) hisR ?_
  intro p e s m args below meth c s₁ Bd hml0 hP hK
  obtain ⟨rfl, hZ, hh⟩ := hP
  have hx := Bd.exec
  have hby := Bd.bytes
  have hml : c.maxLocals = 1 := hml0
  have hown : s.vm.findClass "com/example/triarch/triarch/Payments$Verdict" = some m.cls := findClass_of_methodNamed Bd.named
  have hnm := (name_of_methodNamed Bd.named Bd.method).1
  have hlk : meth.locks = false := BodyLoose.notSynchronized Bd
  have X0 : Stand p l e ({ frames := 0, cells := 0, slots := 0, locals := 0 } : Room) s m #[(.ref ad5)] below meth c s₁ [] 0 0 := Stand.of_body Bd
  have e0 : s₁.heap = h0 := by rw [← hh, Bd.state]; rfl
  have N := Fr.nil n0
  have K := Keep.refl h0 []
  refine own_start (cl := ({ frames := 0, cells := 0, slots := 0, locals := 0 } : Room).cells) (sl := ({ frames := 0, cells := 0, slots := 0, locals := 0 } : Room).slots) (Q := (Q_rm2_5 Z ad2 ad3 ad4 ad5 h0 n0)) (ef_rm2_5 m ad5) ?_
  refine own_by (S' := (s₁.setTop (mkF m 1 #[.val (.ref ad5)] [(.ref ad5)]))) (fun _ k => XS.aloadN X0.here hx rfl (hb hby d2_0) rfl rfl k) ?_
  obtain ⟨T23, X23, e23, st23⟩ := getS2 X0 hx hZ hown (host := "") (Or.inl (hw _ (List.mem_of_getElem? (i := 12) rfl))) Via.refl e0 S2 (g := (mkF m 1 #[.val (.ref ad5)] [(.ref ad5)])) rfl (hb hby d2_1)
  refine own_by (S' := (T23.setTop (mkF m 4 #[.val (.ref ad5)] [(.ref ad2), (.ref ad5)]))) st23 ?_
  refine own_by (S' := (T23.setTop (mkF m 7 #[.val (.ref ad5)] []))) (fun _ k => Jvm.RoadKit.acmp (g := (mkF m 4 #[.val (.ref ad5)] [(.ref ad2), (.ref ad5)])) X23 hx rfl rfl rfl (pc0 := 4) (pc' := 7) (same := false) rfl (hb hby d2_4) rfl (decide_eq_false (fun q => ne2 (Value.ref.inj q))) (by decide) (by decide) k) ?_
  refine own_by (S' := (T23.setTop (mkF m 8 #[.val (.ref ad5)] [(.ref ad5)]))) (fun _ k => XS.aloadN X23.here hx rfl (hb hby d2_7) rfl rfl k) ?_
  obtain ⟨T24, X24, e24, st24⟩ := getS2 X23 hx hZ hown (host := "") (Or.inl (hw _ (List.mem_of_getElem? (i := 14) rfl))) Via.refl e23 S3 (g := (mkF m 8 #[.val (.ref ad5)] [(.ref ad5)])) rfl (hb hby d2_8)
  refine own_by (S' := (T24.setTop (mkF m 11 #[.val (.ref ad5)] [(.ref ad3), (.ref ad5)]))) st24 ?_
  refine own_by (S' := (T24.setTop (mkF m 14 #[.val (.ref ad5)] []))) (fun _ k => Jvm.RoadKit.acmp (g := (mkF m 11 #[.val (.ref ad5)] [(.ref ad3), (.ref ad5)])) X24 hx rfl rfl rfl (pc0 := 11) (pc' := 14) (same := false) rfl (hb hby d2_11) rfl (decide_eq_false (fun q => ne3 (Value.ref.inj q))) (by decide) (by decide) k) ?_
  refine own_by (S' := (T24.setTop (mkF m 15 #[.val (.ref ad5)] [(.ref ad5)]))) (fun _ k => XS.aloadN X24.here hx rfl (hb hby d2_14) rfl rfl k) ?_
  obtain ⟨T25, X25, e25, st25⟩ := getS2 X24 hx hZ hown (host := "") (Or.inl (hw _ (List.mem_of_getElem? (i := 16) rfl))) Via.refl e24 S4 (g := (mkF m 15 #[.val (.ref ad5)] [(.ref ad5)])) rfl (hb hby d2_15)
  refine own_by (S' := (T25.setTop (mkF m 18 #[.val (.ref ad5)] [(.ref ad4), (.ref ad5)]))) st25 ?_
  refine own_by (S' := (T25.setTop (mkF m 21 #[.val (.ref ad5)] []))) (fun _ k => Jvm.RoadKit.acmp (g := (mkF m 18 #[.val (.ref ad5)] [(.ref ad4), (.ref ad5)])) X25 hx rfl rfl rfl (pc0 := 18) (pc' := 21) (same := false) rfl (hb hby d2_18) rfl (decide_eq_false (fun q => ne4 (Value.ref.inj q))) (by decide) (by decide) k) ?_
  refine own_by (S' := (T25.setTop (mkF m 22 #[.val (.ref ad5)] [(.ref ad5)]))) (fun _ k => XS.aloadN X25.here hx rfl (hb hby d2_21) rfl rfl k) ?_
  obtain ⟨T26, X26, e26, st26⟩ := getS2 X25 hx hZ hown (host := "") (Or.inl (hw _ (List.mem_of_getElem? (i := 18) rfl))) Via.refl e25 S5 (g := (mkF m 22 #[.val (.ref ad5)] [(.ref ad5)])) rfl (hb hby d2_22)
  refine own_by (S' := (T26.setTop (mkF m 25 #[.val (.ref ad5)] [(.ref ad5), (.ref ad5)]))) st26 ?_
  refine own_by (S' := (T26.setTop (mkF m 28 #[.val (.ref ad5)] []))) (fun _ k => Jvm.RoadKit.acmp (g := (mkF m 25 #[.val (.ref ad5)] [(.ref ad5), (.ref ad5)])) X26 hx rfl rfl rfl (pc0 := 25) (pc' := 28) (same := true) rfl (hb hby d2_25) rfl (decide_eq_true rfl) (by decide) (by decide) k) ?_
  refine own_by (S' := (T26.setTop (mkF m 29 #[.val (.ref ad5)] [(.int (1 : Int32))]))) (fun _ k => XS.iconst X26.here hx rfl (hb hby d2_28) k) ?_
  refine own_by (S' := (T26.setTop (mkF m 33 #[.val (.ref ad5)] [(.int (1 : Int32))]))) (fun _ k => XS.goto X26.here hx rfl (pc0 := 29) (pc' := 33) rfl (hb hby d2_29) (by decide) (by decide) k) ?_
  exact own_ret X26 hx (t := .boolean) Bd.returns rfl (Or.inl ⟨rfl, by simp, _, rfl⟩) (hb hby d2_33) hlk (by decide : 0 ≤ _) (by decide : 0 ≤ _) (by rw [e26]; exact ⟨rfl, N, rfl⟩)
theorem ef_rm2_6 (m : MethodId) (x0 : Addr) : entryFrame m #[(.ref x0)] 1 = mkF m 0 #[.val (.ref x0)] [] := by first | (simp [entryFrame, mkF, argsToLocals, Value.category]; done) | rfl
def Q_rm2_6 (Z : State) (ad2 ad3 ad4 ad5 ad6 : Addr) (h0 : Heap) (n0 : Nat) (v : Option Value) (h : Heap) (L : List Loc) : Prop := v = some (.int (0 : Int32)) ∧ Fr n0 L ∧ h = h0
set_option maxRecDepth 65536 in
set_option maxHeartbeats 40000000 in
theorem rm2_6 (l : Launch) (Z : State) (a0 : Array Value) (hw : ∀ d ∈ tables_1, d.before a0 Z = true) (ws : List Jvm.Cond) (ad2 ad3 ad4 ad5 ad6 : Addr) (h0 : Heap) (n0 : Nat) (Zn : n0 ≤ h0.size) (S2 : Sta Z h0 "com/example/triarch/triarch/Payments$Verdict" "FREE" "Lcom/example/triarch/triarch/Payments$Verdict;" (.ref ad2)) (S3 : Sta Z h0 "com/example/triarch/triarch/Payments$Verdict" "CHAIN" "Lcom/example/triarch/triarch/Payments$Verdict;" (.ref ad3)) (S4 : Sta Z h0 "com/example/triarch/triarch/Payments$Verdict" "OWN" "Lcom/example/triarch/triarch/Payments$Verdict;" (.ref ad4)) (S5 : Sta Z h0 "com/example/triarch/triarch/Payments$Verdict" "TRADE" "Lcom/example/triarch/triarch/Payments$Verdict;" (.ref ad5)) (ne2 : ad6 ≠ ad2) (ne3 : ad6 ≠ ad3) (ne4 : ad6 ≠ ad4) (ne5 : ad6 ≠ ad5) :
    MetFree l (⟨"com/example/triarch/triarch/Payments$Verdict", "possible", "()Z"⟩ : MethodName) (head1 (Jvm.Cond.code (⟨"com/example/triarch/triarch/Payments$Verdict", "possible", "()Z"⟩ : MethodName) prog_49_method_4_code 1 (some .boolean) :: ws) ({ frames := 0, cells := 0, slots := 0, locals := 0 } : Room)) (fun a U => a = #[(.ref ad6)] ∧ Z.Warmed39 U.vm ∧ U.heap = h0) (fun _ _ _ _ _ => True) (fun _ U o U' => ∃ v L, o = .returned v ∧ (Q_rm2_6 Z ad2 ad3 ad4 ad5 ad6 h0 n0) v U'.heap L ∧ FrameEnd U o U' L ({ frames := 0, cells := 0, slots := 0, locals := 0 } : Room).cells ({ frames := 0, cells := 0, slots := 0, locals := 0 } : Room).slots) := by
  refine MetFree.of_bodySF (plainFor_of_name pn_2) hisR ?_
  intro p e s m args below meth c s₁ Bd hml0 hP hK
  obtain ⟨rfl, hZ, hh⟩ := hP
  have hx := Bd.exec
  have hby := Bd.bytes
  have hml : c.maxLocals = 1 := hml0
  have hown : s.vm.findClass "com/example/triarch/triarch/Payments$Verdict" = some m.cls := findClass_of_methodNamed Bd.named
  have hnm := (name_of_methodNamed Bd.named Bd.method).1
  have hlk : meth.locks = false := BodyLoose.notSynchronized Bd
  have X0 : Stand p l e ({ frames := 0, cells := 0, slots := 0, locals := 0 } : Room) s m #[(.ref ad6)] below meth c s₁ [] 0 0 := Stand.of_body Bd
  have e0 : s₁.heap = h0 := by rw [← hh, Bd.state]; rfl
  have N := Fr.nil n0
  have K := Keep.refl h0 []
  refine own_start (cl := ({ frames := 0, cells := 0, slots := 0, locals := 0 } : Room).cells) (sl := ({ frames := 0, cells := 0, slots := 0, locals := 0 } : Room).slots) (Q := (Q_rm2_6 Z ad2 ad3 ad4 ad5 ad6 h0 n0)) (ef_rm2_6 m ad6) ?_
  refine own_by (S' := (s₁.setTop (mkF m 1 #[.val (.ref ad6)] [(.ref ad6)]))) (fun _ k => XS.aloadN X0.here hx rfl (hb hby d2_0) rfl rfl k) ?_
  obtain ⟨T27, X27, e27, st27⟩ := getS2 X0 hx hZ hown (host := "") (Or.inl (hw _ (List.mem_of_getElem? (i := 12) rfl))) Via.refl e0 S2 (g := (mkF m 1 #[.val (.ref ad6)] [(.ref ad6)])) rfl (hb hby d2_1)
  refine own_by (S' := (T27.setTop (mkF m 4 #[.val (.ref ad6)] [(.ref ad2), (.ref ad6)]))) st27 ?_
  refine own_by (S' := (T27.setTop (mkF m 7 #[.val (.ref ad6)] []))) (fun _ k => Jvm.RoadKit.acmp (g := (mkF m 4 #[.val (.ref ad6)] [(.ref ad2), (.ref ad6)])) X27 hx rfl rfl rfl (pc0 := 4) (pc' := 7) (same := false) rfl (hb hby d2_4) rfl (decide_eq_false (fun q => ne2 (Value.ref.inj q))) (by decide) (by decide) k) ?_
  refine own_by (S' := (T27.setTop (mkF m 8 #[.val (.ref ad6)] [(.ref ad6)]))) (fun _ k => XS.aloadN X27.here hx rfl (hb hby d2_7) rfl rfl k) ?_
  obtain ⟨T28, X28, e28, st28⟩ := getS2 X27 hx hZ hown (host := "") (Or.inl (hw _ (List.mem_of_getElem? (i := 14) rfl))) Via.refl e27 S3 (g := (mkF m 8 #[.val (.ref ad6)] [(.ref ad6)])) rfl (hb hby d2_8)
  refine own_by (S' := (T28.setTop (mkF m 11 #[.val (.ref ad6)] [(.ref ad3), (.ref ad6)]))) st28 ?_
  refine own_by (S' := (T28.setTop (mkF m 14 #[.val (.ref ad6)] []))) (fun _ k => Jvm.RoadKit.acmp (g := (mkF m 11 #[.val (.ref ad6)] [(.ref ad3), (.ref ad6)])) X28 hx rfl rfl rfl (pc0 := 11) (pc' := 14) (same := false) rfl (hb hby d2_11) rfl (decide_eq_false (fun q => ne3 (Value.ref.inj q))) (by decide) (by decide) k) ?_
  refine own_by (S' := (T28.setTop (mkF m 15 #[.val (.ref ad6)] [(.ref ad6)]))) (fun _ k => XS.aloadN X28.here hx rfl (hb hby d2_14) rfl rfl k) ?_
  obtain ⟨T29, X29, e29, st29⟩ := getS2 X28 hx hZ hown (host := "") (Or.inl (hw _ (List.mem_of_getElem? (i := 16) rfl))) Via.refl e28 S4 (g := (mkF m 15 #[.val (.ref ad6)] [(.ref ad6)])) rfl (hb hby d2_15)
  refine own_by (S' := (T29.setTop (mkF m 18 #[.val (.ref ad6)] [(.ref ad4), (.ref ad6)]))) st29 ?_
  refine own_by (S' := (T29.setTop (mkF m 21 #[.val (.ref ad6)] []))) (fun _ k => Jvm.RoadKit.acmp (g := (mkF m 18 #[.val (.ref ad6)] [(.ref ad4), (.ref ad6)])) X29 hx rfl rfl rfl (pc0 := 18) (pc' := 21) (same := false) rfl (hb hby d2_18) rfl (decide_eq_false (fun q => ne4 (Value.ref.inj q))) (by decide) (by decide) k) ?_
  refine own_by (S' := (T29.setTop (mkF m 22 #[.val (.ref ad6)] [(.ref ad6)]))) (fun _ k => XS.aloadN X29.here hx rfl (hb hby d2_21) rfl rfl k) ?_
  obtain ⟨T30, X30, e30, st30⟩ := getS2 X29 hx hZ hown (host := "") (Or.inl (hw _ (List.mem_of_getElem? (i := 18) rfl))) Via.refl e29 S5 (g := (mkF m 22 #[.val (.ref ad6)] [(.ref ad6)])) rfl (hb hby d2_22)
  refine own_by (S' := (T30.setTop (mkF m 25 #[.val (.ref ad6)] [(.ref ad5), (.ref ad6)]))) st30 ?_
  refine own_by (S' := (T30.setTop (mkF m 32 #[.val (.ref ad6)] []))) (fun _ k => Jvm.RoadKit.acmp (g := (mkF m 25 #[.val (.ref ad6)] [(.ref ad5), (.ref ad6)])) X30 hx rfl rfl rfl (pc0 := 25) (pc' := 32) (same := false) rfl (hb hby d2_25) rfl (decide_eq_false (fun q => ne5 (Value.ref.inj q))) (by decide) (by decide) k) ?_
  refine own_by (S' := (T30.setTop (mkF m 33 #[.val (.ref ad6)] [(.int (0 : Int32))]))) (fun _ k => XS.iconst X30.here hx rfl (hb hby d2_32) k) ?_
  exact own_ret X30 hx (t := .boolean) Bd.returns rfl (Or.inl ⟨rfl, by simp, _, rfl⟩) (hb hby d2_33) hlk (by decide : 0 ≤ _) (by decide : 0 ≤ _) (by rw [e30]; exact ⟨rfl, N, rfl⟩)
theorem ef_rm2_7 (m : MethodId) (x0 : Addr) : entryFrame m #[(.ref x0)] 1 = mkF m 0 #[.val (.ref x0)] [] := by first | (simp [entryFrame, mkF, argsToLocals, Value.category]; done) | rfl
def Q_rm2_7 (Z : State) (ad2 ad3 ad4 ad5 ad7 : Addr) (h0 : Heap) (n0 : Nat) (v : Option Value) (h : Heap) (L : List Loc) : Prop := v = some (.int (0 : Int32)) ∧ Fr n0 L ∧ h = h0
set_option maxRecDepth 65536 in
set_option maxHeartbeats 40000000 in
theorem rm2_7 (l : Launch) (Z : State) (a0 : Array Value) (hw : ∀ d ∈ tables_1, d.before a0 Z = true) (ws : List Jvm.Cond) (ad2 ad3 ad4 ad5 ad7 : Addr) (h0 : Heap) (n0 : Nat) (Zn : n0 ≤ h0.size) (S2 : Sta Z h0 "com/example/triarch/triarch/Payments$Verdict" "FREE" "Lcom/example/triarch/triarch/Payments$Verdict;" (.ref ad2)) (S3 : Sta Z h0 "com/example/triarch/triarch/Payments$Verdict" "CHAIN" "Lcom/example/triarch/triarch/Payments$Verdict;" (.ref ad3)) (S4 : Sta Z h0 "com/example/triarch/triarch/Payments$Verdict" "OWN" "Lcom/example/triarch/triarch/Payments$Verdict;" (.ref ad4)) (S5 : Sta Z h0 "com/example/triarch/triarch/Payments$Verdict" "TRADE" "Lcom/example/triarch/triarch/Payments$Verdict;" (.ref ad5)) (ne2 : ad7 ≠ ad2) (ne3 : ad7 ≠ ad3) (ne4 : ad7 ≠ ad4) (ne5 : ad7 ≠ ad5) :
    MetFree l (⟨"com/example/triarch/triarch/Payments$Verdict", "possible", "()Z"⟩ : MethodName) (head1 (Jvm.Cond.code (⟨"com/example/triarch/triarch/Payments$Verdict", "possible", "()Z"⟩ : MethodName) prog_49_method_4_code 1 (some .boolean) :: ws) ({ frames := 0, cells := 0, slots := 0, locals := 0 } : Room)) (fun a U => a = #[(.ref ad7)] ∧ Z.Warmed39 U.vm ∧ U.heap = h0) (fun _ _ _ _ _ => True) (fun _ U o U' => ∃ v L, o = .returned v ∧ (Q_rm2_7 Z ad2 ad3 ad4 ad5 ad7 h0 n0) v U'.heap L ∧ FrameEnd U o U' L ({ frames := 0, cells := 0, slots := 0, locals := 0 } : Room).cells ({ frames := 0, cells := 0, slots := 0, locals := 0 } : Room).slots) := by
  refine MetFree.of_bodySF (plainFor_of_name pn_2) hisR ?_
  intro p e s m args below meth c s₁ Bd hml0 hP hK
  obtain ⟨rfl, hZ, hh⟩ := hP
  have hx := Bd.exec
  have hby := Bd.bytes
  have hml : c.maxLocals = 1 := hml0
  have hown : s.vm.findClass "com/example/triarch/triarch/Payments$Verdict" = some m.cls := findClass_of_methodNamed Bd.named
  have hnm := (name_of_methodNamed Bd.named Bd.method).1
  have hlk : meth.locks = false := BodyLoose.notSynchronized Bd
  have X0 : Stand p l e ({ frames := 0, cells := 0, slots := 0, locals := 0 } : Room) s m #[(.ref ad7)] below meth c s₁ [] 0 0 := Stand.of_body Bd
  have e0 : s₁.heap = h0 := by rw [← hh, Bd.state]; rfl
  have N := Fr.nil n0
  have K := Keep.refl h0 []
  refine own_start (cl := ({ frames := 0, cells := 0, slots := 0, locals := 0 } : Room).cells) (sl := ({ frames := 0, cells := 0, slots := 0, locals := 0 } : Room).slots) (Q := (Q_rm2_7 Z ad2 ad3 ad4 ad5 ad7 h0 n0)) (ef_rm2_7 m ad7) ?_
  refine own_by (S' := (s₁.setTop (mkF m 1 #[.val (.ref ad7)] [(.ref ad7)]))) (fun _ k => XS.aloadN X0.here hx rfl (hb hby d2_0) rfl rfl k) ?_
  obtain ⟨T31, X31, e31, st31⟩ := getS2 X0 hx hZ hown (host := "") (Or.inl (hw _ (List.mem_of_getElem? (i := 12) rfl))) Via.refl e0 S2 (g := (mkF m 1 #[.val (.ref ad7)] [(.ref ad7)])) rfl (hb hby d2_1)
  refine own_by (S' := (T31.setTop (mkF m 4 #[.val (.ref ad7)] [(.ref ad2), (.ref ad7)]))) st31 ?_
  refine own_by (S' := (T31.setTop (mkF m 7 #[.val (.ref ad7)] []))) (fun _ k => Jvm.RoadKit.acmp (g := (mkF m 4 #[.val (.ref ad7)] [(.ref ad2), (.ref ad7)])) X31 hx rfl rfl rfl (pc0 := 4) (pc' := 7) (same := false) rfl (hb hby d2_4) rfl (decide_eq_false (fun q => ne2 (Value.ref.inj q))) (by decide) (by decide) k) ?_
  refine own_by (S' := (T31.setTop (mkF m 8 #[.val (.ref ad7)] [(.ref ad7)]))) (fun _ k => XS.aloadN X31.here hx rfl (hb hby d2_7) rfl rfl k) ?_
  obtain ⟨T32, X32, e32, st32⟩ := getS2 X31 hx hZ hown (host := "") (Or.inl (hw _ (List.mem_of_getElem? (i := 14) rfl))) Via.refl e31 S3 (g := (mkF m 8 #[.val (.ref ad7)] [(.ref ad7)])) rfl (hb hby d2_8)
  refine own_by (S' := (T32.setTop (mkF m 11 #[.val (.ref ad7)] [(.ref ad3), (.ref ad7)]))) st32 ?_
  refine own_by (S' := (T32.setTop (mkF m 14 #[.val (.ref ad7)] []))) (fun _ k => Jvm.RoadKit.acmp (g := (mkF m 11 #[.val (.ref ad7)] [(.ref ad3), (.ref ad7)])) X32 hx rfl rfl rfl (pc0 := 11) (pc' := 14) (same := false) rfl (hb hby d2_11) rfl (decide_eq_false (fun q => ne3 (Value.ref.inj q))) (by decide) (by decide) k) ?_
  refine own_by (S' := (T32.setTop (mkF m 15 #[.val (.ref ad7)] [(.ref ad7)]))) (fun _ k => XS.aloadN X32.here hx rfl (hb hby d2_14) rfl rfl k) ?_
  obtain ⟨T33, X33, e33, st33⟩ := getS2 X32 hx hZ hown (host := "") (Or.inl (hw _ (List.mem_of_getElem? (i := 16) rfl))) Via.refl e32 S4 (g := (mkF m 15 #[.val (.ref ad7)] [(.ref ad7)])) rfl (hb hby d2_15)
  refine own_by (S' := (T33.setTop (mkF m 18 #[.val (.ref ad7)] [(.ref ad4), (.ref ad7)]))) st33 ?_
  refine own_by (S' := (T33.setTop (mkF m 21 #[.val (.ref ad7)] []))) (fun _ k => Jvm.RoadKit.acmp (g := (mkF m 18 #[.val (.ref ad7)] [(.ref ad4), (.ref ad7)])) X33 hx rfl rfl rfl (pc0 := 18) (pc' := 21) (same := false) rfl (hb hby d2_18) rfl (decide_eq_false (fun q => ne4 (Value.ref.inj q))) (by decide) (by decide) k) ?_
  refine own_by (S' := (T33.setTop (mkF m 22 #[.val (.ref ad7)] [(.ref ad7)]))) (fun _ k => XS.aloadN X33.here hx rfl (hb hby d2_21) rfl rfl k) ?_
  obtain ⟨T34, X34, e34, st34⟩ := getS2 X33 hx hZ hown (host := "") (Or.inl (hw _ (List.mem_of_getElem? (i := 18) rfl))) Via.refl e33 S5 (g := (mkF m 22 #[.val (.ref ad7)] [(.ref ad7)])) rfl (hb hby d2_22)
  refine own_by (S' := (T34.setTop (mkF m 25 #[.val (.ref ad7)] [(.ref ad5), (.ref ad7)]))) st34 ?_
  refine own_by (S' := (T34.setTop (mkF m 32 #[.val (.ref ad7)] []))) (fun _ k => Jvm.RoadKit.acmp (g := (mkF m 25 #[.val (.ref ad7)] [(.ref ad5), (.ref ad7)])) X34 hx rfl rfl rfl (pc0 := 25) (pc' := 32) (same := false) rfl (hb hby d2_25) rfl (decide_eq_false (fun q => ne5 (Value.ref.inj q))) (by decide) (by decide) k) ?_
  refine own_by (S' := (T34.setTop (mkF m 33 #[.val (.ref ad7)] [(.int (0 : Int32))]))) (fun _ k => XS.iconst X34.here hx rfl (hb hby d2_32) k) ?_
  exact own_ret X34 hx (t := .boolean) Bd.returns rfl (Or.inl ⟨rfl, by simp, _, rfl⟩) (hb hby d2_33) hlk (by decide : 0 ≤ _) (by decide : 0 ≤ _) (by rw [e34]; exact ⟨rfl, N, rfl⟩)
theorem pn_0 : plainName "com/example/triarch/triarch/VerdictPossiblePinLaw" = true := by first | (simp [plainName, overriddenIn]; done) | decide +kernel
theorem ef_rm0 (m : MethodId) (x0 : Int32) : entryFrame m #[(.int x0)] maxLocals = mkF m 0 #[.val (.int x0), .unset, .unset, .unset] [] := by first | (simp [entryFrame, mkF, argsToLocals, Value.category, maxLocals]; done) | rfl
def Q_rm0 (Z : State) (p1 : Int32) (ad0 ad1 ad2 ad3 ad4 ad5 ad6 ad7 : Addr) (h0 : Heap) (n0 : Nat) (v : Option Value) (h : Heap) (L : List Loc) : Prop := v = some (.int (1 : Int32)) ∧ Fr n0 L
theorem pd__28I_29Lcom_2fexample_2ftriarch_2ftriarch_2fPayments_24Verdict_3b : parseMethodDescriptor "(I)Lcom/example/triarch/triarch/Payments$Verdict;" = some ⟨[.int], some (.object "com/example/triarch/triarch/Payments$Verdict")⟩ := by decide +kernel
theorem pd__28_29Z : parseMethodDescriptor "()Z" = some ⟨[], some .boolean⟩ := by decide +kernel
set_option maxRecDepth 65536 in
set_option maxHeartbeats 40000000 in
theorem rm0 (l : Launch) (Z : State) (a0 : Array Value) (hw : ∀ d ∈ tables_1, d.before a0 Z = true) (ws : List Jvm.Cond) (p1 : Int32) (ad0 ad1 ad2 ad3 ad4 ad5 ad6 ad7 : Addr) (h0 : Heap) (n0 : Nat) (Zn : n0 ≤ h0.size) (S0 : Sta Z h0 "com/example/triarch/triarch/Payments$Verdict" "ALREADY_BUILT" "Lcom/example/triarch/triarch/Payments$Verdict;" (.ref ad0)) (S1 : Sta Z h0 "com/example/triarch/triarch/Payments$Verdict" "NO_STAGE" "Lcom/example/triarch/triarch/Payments$Verdict;" (.ref ad1)) (S2 : Sta Z h0 "com/example/triarch/triarch/Payments$Verdict" "FREE" "Lcom/example/triarch/triarch/Payments$Verdict;" (.ref ad2)) (S3 : Sta Z h0 "com/example/triarch/triarch/Payments$Verdict" "CHAIN" "Lcom/example/triarch/triarch/Payments$Verdict;" (.ref ad3)) (S4 : Sta Z h0 "com/example/triarch/triarch/Payments$Verdict" "OWN" "Lcom/example/triarch/triarch/Payments$Verdict;" (.ref ad4)) (S5 : Sta Z h0 "com/example/triarch/triarch/Payments$Verdict" "TRADE" "Lcom/example/triarch/triarch/Payments$Verdict;" (.ref ad5)) (S6 : Sta Z h0 "com/example/triarch/triarch/Payments$Verdict" "MISSING_RESOURCES" "Lcom/example/triarch/triarch/Payments$Verdict;" (.ref ad6)) (S7 : Sta Z h0 "com/example/triarch/triarch/Payments$Verdict" "NOT_ENOUGH_COINS" "Lcom/example/triarch/triarch/Payments$Verdict;" (.ref ad7)) (E0 : Exa Z h0 ad0 "com/example/triarch/triarch/Payments$Verdict") (E1 : Exa Z h0 ad1 "com/example/triarch/triarch/Payments$Verdict") (E2 : Exa Z h0 ad2 "com/example/triarch/triarch/Payments$Verdict") (E3 : Exa Z h0 ad3 "com/example/triarch/triarch/Payments$Verdict") (E4 : Exa Z h0 ad4 "com/example/triarch/triarch/Payments$Verdict") (E5 : Exa Z h0 ad5 "com/example/triarch/triarch/Payments$Verdict") (E6 : Exa Z h0 ad6 "com/example/triarch/triarch/Payments$Verdict") (E7 : Exa Z h0 ad7 "com/example/triarch/triarch/Payments$Verdict") (F0 : Fld Z h0 ad0 "java/lang/Enum" "ordinal" "I" (.int (0 : Int32))) (F1 : Fld Z h0 ad1 "java/lang/Enum" "ordinal" "I" (.int (1 : Int32))) (F2 : Fld Z h0 ad2 "java/lang/Enum" "ordinal" "I" (.int (2 : Int32))) (F3 : Fld Z h0 ad3 "java/lang/Enum" "ordinal" "I" (.int (3 : Int32))) (F4 : Fld Z h0 ad4 "java/lang/Enum" "ordinal" "I" (.int (4 : Int32))) (F5 : Fld Z h0 ad5 "java/lang/Enum" "ordinal" "I" (.int (5 : Int32))) (F6 : Fld Z h0 ad6 "java/lang/Enum" "ordinal" "I" (.int (6 : Int32))) (F7 : Fld Z h0 ad7 "java/lang/Enum" "ordinal" "I" (.int (7 : Int32))) :
    MetFree l x (head1 (Jvm.Cond.code x code maxLocals ret :: ws) room_1) (fun a U => a = #[(.int p1)] ∧ Z.Warmed39 U.vm ∧ U.heap = h0) (fun _ _ _ _ _ => True) (fun _ U o U' => ∃ v L, o = .returned v ∧ (Q_rm0 Z p1 ad0 ad1 ad2 ad3 ad4 ad5 ad6 ad7 h0 n0) v U'.heap L ∧ FrameEnd U o U' L room_1.cells room_1.slots) := by
  refine MetFree.of_bodySF (plainFor_of_name pn_0) hisR ?_
  intro p e s m args below meth c s₁ Bd hml0 hP hK
  obtain ⟨rfl, hZ, hh⟩ := hP
  have hx := Bd.exec
  have hby := Bd.bytes
  have hml : c.maxLocals = 4 := hml0
  have hown : s.vm.findClass "com/example/triarch/triarch/VerdictPossiblePinLaw" = some m.cls := findClass_of_methodNamed Bd.named
  have hnm := (name_of_methodNamed Bd.named Bd.method).1
  have hlk : meth.locks = false := BodyLoose.notSynchronized Bd
  have X0 : Stand p l e room_1 s m #[(.int p1)] below meth c s₁ [] 0 0 := Stand.of_body Bd
  have e0 : s₁.heap = h0 := by rw [← hh, Bd.state]; rfl
  have N := Fr.nil n0
  have K := Keep.refl h0 []
  refine own_start (cl := room_1.cells) (sl := room_1.slots) (Q := (Q_rm0 Z p1 ad0 ad1 ad2 ad3 ad4 ad5 ad6 ad7 h0 n0)) (ef_rm0 m p1) ?_
  refine own_by (S' := (s₁.setTop (mkF m 1 #[.val (.int p1), .unset, .unset, .unset] [(.int p1)]))) (fun _ k => XS.iloadN X0.here hx rfl (hb hby at_0) rfl k) ?_
  refine own_by (S' := (s₁.setTop (mkF m 3 #[.val (.int p1), .unset, .unset, .unset] [(.int (7 : Int32)), (.int p1)]))) (fun _ k => XS.bipush X0.here hx rfl (hb hby at_1) k) ?_
  refine own_by (S' := (s₁.setTop (mkF m 4 #[.val (.int p1), .unset, .unset, .unset] [(.int (p1 &&& (7 : Int32)))]))) (fun _ k => XS.iand X0.here hx rfl (hb hby at_3) rfl k) ?_
  refine own_by (S' := (s₁.setTop (mkF m 5 #[.val (.int p1), .val (.int (p1 &&& (7 : Int32))), .unset, .unset] []))) (fun _ k => XS.istoreN X0.here hx rfl (hb hby at_4) rfl (l' := #[.val (.int p1), .val (.int (p1 &&& (7 : Int32))), .unset, .unset]) rfl k) ?_
  rcases own_m7 p1 with hk | hk | hk | hk | hk | hk | hk | hk
  · rw [hk]
    refine own_by (S' := (s₁.setTop (mkF m 6 #[.val (.int p1), .val (.int (0 : Int32)), .unset, .unset] [(.int (0 : Int32))]))) (fun _ k => XS.iloadN X0.here hx rfl (hb hby at_5) rfl k) ?_
    obtain ⟨_, _, ⟨T35, L35, k35, n35⟩, -, X35, ⟨Lc35, hQ35, l35, y35, z35⟩, st35⟩ := Jvm.LawKit.callS X0 hx (y := (⟨"com/example/triarch/triarch/VerdictPossiblePinLaw", "pick", "(I)Lcom/example/triarch/triarch/Payments$Verdict;"⟩ : MethodName)) hown (mvT hZ (hw _ (List.mem_of_getElem? (i := 0) rfl))) (mvT hZ (hw _ (List.mem_of_getElem? (i := 1) rfl))) (mvT hZ (hw _ (List.mem_of_getElem? (i := 2) rfl))) (mvT hZ (hw _ (List.mem_of_getElem? (i := 3) rfl))) (by decide) (backOf (W := 0) (rm1_0 l Z a0 hw [] ad0 h0 n0 Zn S0) hZ (hw _ (List.mem_of_getElem? (i := 3) rfl)) (hw _ (List.mem_of_getElem? (i := 2) rfl)) (by decide) (by decide)) (g := (mkF m 6 #[.val (.int p1), .val (.int (0 : Int32)), .unset, .unset] [(.int (0 : Int32))])) rfl (by rw [hml]; rfl) (argsL := [(.int (0 : Int32))]) (rest := []) (lenOf pd__28I_29Lcom_2fexample_2ftriarch_2ftriarch_2fPayments_24Verdict_3b rfl) rfl (by show 2 * 0 + _ ≤ _; exact Nat.le_of_eq rfl) (hb hby at_6) (fun _ _ => ⟨rfl, e0, (by decide : 0 + 0 ≤ _), (by decide : 0 + 0 ≤ _)⟩)
    dsimp only [Pt.U, Pt.locs, Pt.cells, Pt.slots] at X35 l35 y35 z35 st35 hQ35
    subst l35 y35 z35
    obtain ⟨rfl, N35q, eh1⟩ := hQ35
    have N := Fr.app N N35q
    refine own_by (S' := (T35.setTop (mkF m 9 #[.val (.int p1), .val (.int (0 : Int32)), .unset, .unset] [(.ref ad0)]))) st35 ?_
    refine own_by (S' := (T35.setTop (mkF m 10 #[.val (.int p1), .val (.int (0 : Int32)), .val (.ref ad0), .unset] []))) (fun _ k => XS.astoreN X35.here hx rfl (hb hby at_9) rfl rfl (l' := #[.val (.int p1), .val (.int (0 : Int32)), .val (.ref ad0), .unset]) rfl k) ?_
    refine own_by (S' := (T35.setTop (mkF m 11 #[.val (.int p1), .val (.int (0 : Int32)), .val (.ref ad0), .unset] [(.int (0 : Int32))]))) (fun _ k => XS.iloadN X35.here hx rfl (hb hby at_10) rfl k) ?_
    refine own_by (S' := (T35.setTop (mkF m 12 #[.val (.int p1), .val (.int (0 : Int32)), .val (.ref ad0), .unset] [(.int (2 : Int32)), (.int (0 : Int32))]))) (fun _ k => XS.iconst X35.here hx rfl (hb hby at_11) k) ?_
    refine own_by (S' := (T35.setTop (mkF m 24 #[.val (.int p1), .val (.int (0 : Int32)), .val (.ref ad0), .unset] []))) (fun _ k => XS.icmpYes X35.here hx rfl (pc0 := 12) (pc' := 24) rfl (hb hby at_12) rfl (tlt ((by decide) : (0 : Int32) < (2 : Int32))).1 (by decide) (by decide) k) ?_
    refine own_by (S' := (T35.setTop (mkF m 25 #[.val (.int p1), .val (.int (0 : Int32)), .val (.ref ad0), .unset] [(.int (0 : Int32))]))) (fun _ k => XS.iconst X35.here hx rfl (hb hby at_24) k) ?_
    refine own_by (S' := (T35.setTop (mkF m 26 #[.val (.int p1), .val (.int (0 : Int32)), .val (.ref ad0), .val (.int (0 : Int32))] []))) (fun _ k => XS.istoreN X35.here hx rfl (hb hby at_25) rfl (l' := #[.val (.int p1), .val (.int (0 : Int32)), .val (.ref ad0), .val (.int (0 : Int32))]) rfl k) ?_
    refine own_by (S' := (T35.setTop (mkF m 27 #[.val (.int p1), .val (.int (0 : Int32)), .val (.ref ad0), .val (.int (0 : Int32))] [(.ref ad0)]))) (fun _ k => XS.aloadN X35.here hx rfl (hb hby at_26) rfl rfl k) ?_
    obtain ⟨cq36, kq36, q36a, q36b, q36c⟩ := isOf hZ eh1 E0
    obtain ⟨_, _, ⟨T36, L36, k36, n36⟩, -, X36, ⟨Lc36, hQ36, l36, y36, z36⟩, st36⟩ := X35.virtualBack hx (y := (⟨"com/example/triarch/triarch/Payments$Verdict", "possible", "()Z"⟩ : MethodName)) (z := (⟨"com/example/triarch/triarch/Payments$Verdict", "possible", "()Z"⟩ : MethodName)) hown (mvT hZ (hw _ (List.mem_of_getElem? (i := 7) rfl))) (mvT hZ (hw _ (List.mem_of_getElem? (i := 8) rfl))) (notFace_of_selects (args := #[]) (mvT hZ (hw _ (List.mem_of_getElem? (i := 10) rfl)))) (mvT hZ (hw _ (List.mem_of_getElem? (i := 10) rfl))) (mvT hZ (hw _ (List.mem_of_getElem? (i := 9) rfl))) (by decide) (backOf (W := 0) (rm2_0 l Z a0 hw [] ad0 ad2 ad3 ad4 ad5 h0 n0 Zn S2 S3 S4 S5 (F0.ne F2 (by decide)) (F0.ne F3 (by decide)) (F0.ne F4 (by decide)) (F0.ne F5 (by decide))) hZ (hw _ (List.mem_of_getElem? (i := 11) rfl)) (hw _ (List.mem_of_getElem? (i := 5) rfl)) (by decide) (by decide)) q36a q36c (g := (mkF m 27 #[.val (.int p1), .val (.int (0 : Int32)), .val (.ref ad0), .val (.int (0 : Int32))] [(.ref ad0)])) rfl (by rw [hml]; rfl) (Steps.refl _) (argsL := []) (rest := []) (lenOf pd__28_29Z rfl) rfl (by show 2 * 0 + _ ≤ _; exact Nat.le_of_eq rfl) (hb hby at_27) (fun _ _ => ⟨rfl, eh1, (by decide : 0 + 0 ≤ _), (by decide : 0 + 0 ≤ _)⟩)
    dsimp only [Pt.U, Pt.locs, Pt.cells, Pt.slots] at X36 l36 y36 z36 st36 hQ36
    subst l36 y36 z36
    obtain ⟨rfl, N36q, eh2⟩ := hQ36
    have N := Fr.app N N36q
    refine own_tr (S' := (T36.setTop (mkF m 30 #[.val (.int p1), .val (.int (0 : Int32)), .val (.ref ad0), .val (.int (0 : Int32))] [(.int (0 : Int32))]))) st36 ?_
    refine own_by (S' := (T36.setTop (mkF m 31 #[.val (.int p1), .val (.int (0 : Int32)), .val (.ref ad0), .val (.int (0 : Int32))] [(.int (0 : Int32)), (.int (0 : Int32))]))) (fun _ k => XS.iloadN X36.here hx rfl (hb hby at_30) rfl k) ?_
    refine own_by (S' := (T36.setTop (mkF m 34 #[.val (.int p1), .val (.int (0 : Int32)), .val (.ref ad0), .val (.int (0 : Int32))] []))) (fun _ k => XS.icmpNo X36.here hx rfl (hb hby at_31) rfl (teq ((by decide) : (0 : Int32) = (0 : Int32))).2 k) ?_
    refine own_by (S' := (T36.setTop (mkF m 35 #[.val (.int p1), .val (.int (0 : Int32)), .val (.ref ad0), .val (.int (0 : Int32))] [(.int (1 : Int32))]))) (fun _ k => XS.iconst X36.here hx rfl (hb hby at_34) k) ?_
    refine own_by (S' := (T36.setTop (mkF m 39 #[.val (.int p1), .val (.int (0 : Int32)), .val (.ref ad0), .val (.int (0 : Int32))] [(.int (1 : Int32))]))) (fun _ k => XS.goto X36.here hx rfl (pc0 := 35) (pc' := 39) rfl (hb hby at_35) (by decide) (by decide) k) ?_
    exact own_ret X36 hx (t := .boolean) Bd.returns rfl (Or.inl ⟨rfl, by simp, _, rfl⟩) (hb hby at_39) hlk (by decide : 0 ≤ _) (by decide : 0 ≤ _) (by rw [eh2]; exact ⟨rfl, N⟩)
  · rw [hk]
    refine own_by (S' := (s₁.setTop (mkF m 6 #[.val (.int p1), .val (.int (1 : Int32)), .unset, .unset] [(.int (1 : Int32))]))) (fun _ k => XS.iloadN X0.here hx rfl (hb hby at_5) rfl k) ?_
    obtain ⟨_, _, ⟨T37, L37, k37, n37⟩, -, X37, ⟨Lc37, hQ37, l37, y37, z37⟩, st37⟩ := Jvm.LawKit.callS X0 hx (y := (⟨"com/example/triarch/triarch/VerdictPossiblePinLaw", "pick", "(I)Lcom/example/triarch/triarch/Payments$Verdict;"⟩ : MethodName)) hown (mvT hZ (hw _ (List.mem_of_getElem? (i := 0) rfl))) (mvT hZ (hw _ (List.mem_of_getElem? (i := 1) rfl))) (mvT hZ (hw _ (List.mem_of_getElem? (i := 2) rfl))) (mvT hZ (hw _ (List.mem_of_getElem? (i := 3) rfl))) (by decide) (backOf (W := 0) (rm1_1 l Z a0 hw [] ad1 h0 n0 Zn S1) hZ (hw _ (List.mem_of_getElem? (i := 3) rfl)) (hw _ (List.mem_of_getElem? (i := 2) rfl)) (by decide) (by decide)) (g := (mkF m 6 #[.val (.int p1), .val (.int (1 : Int32)), .unset, .unset] [(.int (1 : Int32))])) rfl (by rw [hml]; rfl) (argsL := [(.int (1 : Int32))]) (rest := []) (lenOf pd__28I_29Lcom_2fexample_2ftriarch_2ftriarch_2fPayments_24Verdict_3b rfl) rfl (by show 2 * 0 + _ ≤ _; exact Nat.le_of_eq rfl) (hb hby at_6) (fun _ _ => ⟨rfl, e0, (by decide : 0 + 0 ≤ _), (by decide : 0 + 0 ≤ _)⟩)
    dsimp only [Pt.U, Pt.locs, Pt.cells, Pt.slots] at X37 l37 y37 z37 st37 hQ37
    subst l37 y37 z37
    obtain ⟨rfl, N37q, eh1⟩ := hQ37
    have N := Fr.app N N37q
    refine own_by (S' := (T37.setTop (mkF m 9 #[.val (.int p1), .val (.int (1 : Int32)), .unset, .unset] [(.ref ad1)]))) st37 ?_
    refine own_by (S' := (T37.setTop (mkF m 10 #[.val (.int p1), .val (.int (1 : Int32)), .val (.ref ad1), .unset] []))) (fun _ k => XS.astoreN X37.here hx rfl (hb hby at_9) rfl rfl (l' := #[.val (.int p1), .val (.int (1 : Int32)), .val (.ref ad1), .unset]) rfl k) ?_
    refine own_by (S' := (T37.setTop (mkF m 11 #[.val (.int p1), .val (.int (1 : Int32)), .val (.ref ad1), .unset] [(.int (1 : Int32))]))) (fun _ k => XS.iloadN X37.here hx rfl (hb hby at_10) rfl k) ?_
    refine own_by (S' := (T37.setTop (mkF m 12 #[.val (.int p1), .val (.int (1 : Int32)), .val (.ref ad1), .unset] [(.int (2 : Int32)), (.int (1 : Int32))]))) (fun _ k => XS.iconst X37.here hx rfl (hb hby at_11) k) ?_
    refine own_by (S' := (T37.setTop (mkF m 24 #[.val (.int p1), .val (.int (1 : Int32)), .val (.ref ad1), .unset] []))) (fun _ k => XS.icmpYes X37.here hx rfl (pc0 := 12) (pc' := 24) rfl (hb hby at_12) rfl (tlt ((by decide) : (1 : Int32) < (2 : Int32))).1 (by decide) (by decide) k) ?_
    refine own_by (S' := (T37.setTop (mkF m 25 #[.val (.int p1), .val (.int (1 : Int32)), .val (.ref ad1), .unset] [(.int (0 : Int32))]))) (fun _ k => XS.iconst X37.here hx rfl (hb hby at_24) k) ?_
    refine own_by (S' := (T37.setTop (mkF m 26 #[.val (.int p1), .val (.int (1 : Int32)), .val (.ref ad1), .val (.int (0 : Int32))] []))) (fun _ k => XS.istoreN X37.here hx rfl (hb hby at_25) rfl (l' := #[.val (.int p1), .val (.int (1 : Int32)), .val (.ref ad1), .val (.int (0 : Int32))]) rfl k) ?_
    refine own_by (S' := (T37.setTop (mkF m 27 #[.val (.int p1), .val (.int (1 : Int32)), .val (.ref ad1), .val (.int (0 : Int32))] [(.ref ad1)]))) (fun _ k => XS.aloadN X37.here hx rfl (hb hby at_26) rfl rfl k) ?_
    obtain ⟨cq38, kq38, q38a, q38b, q38c⟩ := isOf hZ eh1 E1
    obtain ⟨_, _, ⟨T38, L38, k38, n38⟩, -, X38, ⟨Lc38, hQ38, l38, y38, z38⟩, st38⟩ := X37.virtualBack hx (y := (⟨"com/example/triarch/triarch/Payments$Verdict", "possible", "()Z"⟩ : MethodName)) (z := (⟨"com/example/triarch/triarch/Payments$Verdict", "possible", "()Z"⟩ : MethodName)) hown (mvT hZ (hw _ (List.mem_of_getElem? (i := 7) rfl))) (mvT hZ (hw _ (List.mem_of_getElem? (i := 8) rfl))) (notFace_of_selects (args := #[]) (mvT hZ (hw _ (List.mem_of_getElem? (i := 10) rfl)))) (mvT hZ (hw _ (List.mem_of_getElem? (i := 10) rfl))) (mvT hZ (hw _ (List.mem_of_getElem? (i := 9) rfl))) (by decide) (backOf (W := 0) (rm2_1 l Z a0 hw [] ad1 ad2 ad3 ad4 ad5 h0 n0 Zn S2 S3 S4 S5 (F1.ne F2 (by decide)) (F1.ne F3 (by decide)) (F1.ne F4 (by decide)) (F1.ne F5 (by decide))) hZ (hw _ (List.mem_of_getElem? (i := 11) rfl)) (hw _ (List.mem_of_getElem? (i := 5) rfl)) (by decide) (by decide)) q38a q38c (g := (mkF m 27 #[.val (.int p1), .val (.int (1 : Int32)), .val (.ref ad1), .val (.int (0 : Int32))] [(.ref ad1)])) rfl (by rw [hml]; rfl) (Steps.refl _) (argsL := []) (rest := []) (lenOf pd__28_29Z rfl) rfl (by show 2 * 0 + _ ≤ _; exact Nat.le_of_eq rfl) (hb hby at_27) (fun _ _ => ⟨rfl, eh1, (by decide : 0 + 0 ≤ _), (by decide : 0 + 0 ≤ _)⟩)
    dsimp only [Pt.U, Pt.locs, Pt.cells, Pt.slots] at X38 l38 y38 z38 st38 hQ38
    subst l38 y38 z38
    obtain ⟨rfl, N38q, eh2⟩ := hQ38
    have N := Fr.app N N38q
    refine own_tr (S' := (T38.setTop (mkF m 30 #[.val (.int p1), .val (.int (1 : Int32)), .val (.ref ad1), .val (.int (0 : Int32))] [(.int (0 : Int32))]))) st38 ?_
    refine own_by (S' := (T38.setTop (mkF m 31 #[.val (.int p1), .val (.int (1 : Int32)), .val (.ref ad1), .val (.int (0 : Int32))] [(.int (0 : Int32)), (.int (0 : Int32))]))) (fun _ k => XS.iloadN X38.here hx rfl (hb hby at_30) rfl k) ?_
    refine own_by (S' := (T38.setTop (mkF m 34 #[.val (.int p1), .val (.int (1 : Int32)), .val (.ref ad1), .val (.int (0 : Int32))] []))) (fun _ k => XS.icmpNo X38.here hx rfl (hb hby at_31) rfl (teq ((by decide) : (0 : Int32) = (0 : Int32))).2 k) ?_
    refine own_by (S' := (T38.setTop (mkF m 35 #[.val (.int p1), .val (.int (1 : Int32)), .val (.ref ad1), .val (.int (0 : Int32))] [(.int (1 : Int32))]))) (fun _ k => XS.iconst X38.here hx rfl (hb hby at_34) k) ?_
    refine own_by (S' := (T38.setTop (mkF m 39 #[.val (.int p1), .val (.int (1 : Int32)), .val (.ref ad1), .val (.int (0 : Int32))] [(.int (1 : Int32))]))) (fun _ k => XS.goto X38.here hx rfl (pc0 := 35) (pc' := 39) rfl (hb hby at_35) (by decide) (by decide) k) ?_
    exact own_ret X38 hx (t := .boolean) Bd.returns rfl (Or.inl ⟨rfl, by simp, _, rfl⟩) (hb hby at_39) hlk (by decide : 0 ≤ _) (by decide : 0 ≤ _) (by rw [eh2]; exact ⟨rfl, N⟩)
  · rw [hk]
    refine own_by (S' := (s₁.setTop (mkF m 6 #[.val (.int p1), .val (.int (2 : Int32)), .unset, .unset] [(.int (2 : Int32))]))) (fun _ k => XS.iloadN X0.here hx rfl (hb hby at_5) rfl k) ?_
    obtain ⟨_, _, ⟨T39, L39, k39, n39⟩, -, X39, ⟨Lc39, hQ39, l39, y39, z39⟩, st39⟩ := Jvm.LawKit.callS X0 hx (y := (⟨"com/example/triarch/triarch/VerdictPossiblePinLaw", "pick", "(I)Lcom/example/triarch/triarch/Payments$Verdict;"⟩ : MethodName)) hown (mvT hZ (hw _ (List.mem_of_getElem? (i := 0) rfl))) (mvT hZ (hw _ (List.mem_of_getElem? (i := 1) rfl))) (mvT hZ (hw _ (List.mem_of_getElem? (i := 2) rfl))) (mvT hZ (hw _ (List.mem_of_getElem? (i := 3) rfl))) (by decide) (backOf (W := 0) (rm1_2 l Z a0 hw [] ad2 h0 n0 Zn S2) hZ (hw _ (List.mem_of_getElem? (i := 3) rfl)) (hw _ (List.mem_of_getElem? (i := 2) rfl)) (by decide) (by decide)) (g := (mkF m 6 #[.val (.int p1), .val (.int (2 : Int32)), .unset, .unset] [(.int (2 : Int32))])) rfl (by rw [hml]; rfl) (argsL := [(.int (2 : Int32))]) (rest := []) (lenOf pd__28I_29Lcom_2fexample_2ftriarch_2ftriarch_2fPayments_24Verdict_3b rfl) rfl (by show 2 * 0 + _ ≤ _; exact Nat.le_of_eq rfl) (hb hby at_6) (fun _ _ => ⟨rfl, e0, (by decide : 0 + 0 ≤ _), (by decide : 0 + 0 ≤ _)⟩)
    dsimp only [Pt.U, Pt.locs, Pt.cells, Pt.slots] at X39 l39 y39 z39 st39 hQ39
    subst l39 y39 z39
    obtain ⟨rfl, N39q, eh1⟩ := hQ39
    have N := Fr.app N N39q
    refine own_by (S' := (T39.setTop (mkF m 9 #[.val (.int p1), .val (.int (2 : Int32)), .unset, .unset] [(.ref ad2)]))) st39 ?_
    refine own_by (S' := (T39.setTop (mkF m 10 #[.val (.int p1), .val (.int (2 : Int32)), .val (.ref ad2), .unset] []))) (fun _ k => XS.astoreN X39.here hx rfl (hb hby at_9) rfl rfl (l' := #[.val (.int p1), .val (.int (2 : Int32)), .val (.ref ad2), .unset]) rfl k) ?_
    refine own_by (S' := (T39.setTop (mkF m 11 #[.val (.int p1), .val (.int (2 : Int32)), .val (.ref ad2), .unset] [(.int (2 : Int32))]))) (fun _ k => XS.iloadN X39.here hx rfl (hb hby at_10) rfl k) ?_
    refine own_by (S' := (T39.setTop (mkF m 12 #[.val (.int p1), .val (.int (2 : Int32)), .val (.ref ad2), .unset] [(.int (2 : Int32)), (.int (2 : Int32))]))) (fun _ k => XS.iconst X39.here hx rfl (hb hby at_11) k) ?_
    refine own_by (S' := (T39.setTop (mkF m 15 #[.val (.int p1), .val (.int (2 : Int32)), .val (.ref ad2), .unset] []))) (fun _ k => XS.icmpNo X39.here hx rfl (hb hby at_12) rfl (flt ((by decide) : ¬ ((2 : Int32) < (2 : Int32)))).1 k) ?_
    refine own_by (S' := (T39.setTop (mkF m 16 #[.val (.int p1), .val (.int (2 : Int32)), .val (.ref ad2), .unset] [(.int (2 : Int32))]))) (fun _ k => XS.iloadN X39.here hx rfl (hb hby at_15) rfl k) ?_
    refine own_by (S' := (T39.setTop (mkF m 17 #[.val (.int p1), .val (.int (2 : Int32)), .val (.ref ad2), .unset] [(.int (5 : Int32)), (.int (2 : Int32))]))) (fun _ k => XS.iconst X39.here hx rfl (hb hby at_16) k) ?_
    refine own_by (S' := (T39.setTop (mkF m 20 #[.val (.int p1), .val (.int (2 : Int32)), .val (.ref ad2), .unset] []))) (fun _ k => XS.icmpNo X39.here hx rfl (hb hby at_17) rfl (flt ((by decide) : ¬ ((5 : Int32) < (2 : Int32)))).2.2.1 k) ?_
    refine own_by (S' := (T39.setTop (mkF m 21 #[.val (.int p1), .val (.int (2 : Int32)), .val (.ref ad2), .unset] [(.int (1 : Int32))]))) (fun _ k => XS.iconst X39.here hx rfl (hb hby at_20) k) ?_
    refine own_by (S' := (T39.setTop (mkF m 25 #[.val (.int p1), .val (.int (2 : Int32)), .val (.ref ad2), .unset] [(.int (1 : Int32))]))) (fun _ k => XS.goto X39.here hx rfl (pc0 := 21) (pc' := 25) rfl (hb hby at_21) (by decide) (by decide) k) ?_
    refine own_by (S' := (T39.setTop (mkF m 26 #[.val (.int p1), .val (.int (2 : Int32)), .val (.ref ad2), .val (.int (1 : Int32))] []))) (fun _ k => XS.istoreN X39.here hx rfl (hb hby at_25) rfl (l' := #[.val (.int p1), .val (.int (2 : Int32)), .val (.ref ad2), .val (.int (1 : Int32))]) rfl k) ?_
    refine own_by (S' := (T39.setTop (mkF m 27 #[.val (.int p1), .val (.int (2 : Int32)), .val (.ref ad2), .val (.int (1 : Int32))] [(.ref ad2)]))) (fun _ k => XS.aloadN X39.here hx rfl (hb hby at_26) rfl rfl k) ?_
    obtain ⟨cq40, kq40, q40a, q40b, q40c⟩ := isOf hZ eh1 E2
    obtain ⟨_, _, ⟨T40, L40, k40, n40⟩, -, X40, ⟨Lc40, hQ40, l40, y40, z40⟩, st40⟩ := X39.virtualBack hx (y := (⟨"com/example/triarch/triarch/Payments$Verdict", "possible", "()Z"⟩ : MethodName)) (z := (⟨"com/example/triarch/triarch/Payments$Verdict", "possible", "()Z"⟩ : MethodName)) hown (mvT hZ (hw _ (List.mem_of_getElem? (i := 7) rfl))) (mvT hZ (hw _ (List.mem_of_getElem? (i := 8) rfl))) (notFace_of_selects (args := #[]) (mvT hZ (hw _ (List.mem_of_getElem? (i := 10) rfl)))) (mvT hZ (hw _ (List.mem_of_getElem? (i := 10) rfl))) (mvT hZ (hw _ (List.mem_of_getElem? (i := 9) rfl))) (by decide) (backOf (W := 0) (rm2_2 l Z a0 hw [] ad2 ad3 ad4 ad5 h0 n0 Zn S2 S3 S4 S5 (F2.ne F3 (by decide)) (F2.ne F4 (by decide)) (F2.ne F5 (by decide))) hZ (hw _ (List.mem_of_getElem? (i := 11) rfl)) (hw _ (List.mem_of_getElem? (i := 5) rfl)) (by decide) (by decide)) q40a q40c (g := (mkF m 27 #[.val (.int p1), .val (.int (2 : Int32)), .val (.ref ad2), .val (.int (1 : Int32))] [(.ref ad2)])) rfl (by rw [hml]; rfl) (Steps.refl _) (argsL := []) (rest := []) (lenOf pd__28_29Z rfl) rfl (by show 2 * 0 + _ ≤ _; exact Nat.le_of_eq rfl) (hb hby at_27) (fun _ _ => ⟨rfl, eh1, (by decide : 0 + 0 ≤ _), (by decide : 0 + 0 ≤ _)⟩)
    dsimp only [Pt.U, Pt.locs, Pt.cells, Pt.slots] at X40 l40 y40 z40 st40 hQ40
    subst l40 y40 z40
    obtain ⟨rfl, N40q, eh2⟩ := hQ40
    have N := Fr.app N N40q
    refine own_tr (S' := (T40.setTop (mkF m 30 #[.val (.int p1), .val (.int (2 : Int32)), .val (.ref ad2), .val (.int (1 : Int32))] [(.int (1 : Int32))]))) st40 ?_
    refine own_by (S' := (T40.setTop (mkF m 31 #[.val (.int p1), .val (.int (2 : Int32)), .val (.ref ad2), .val (.int (1 : Int32))] [(.int (1 : Int32)), (.int (1 : Int32))]))) (fun _ k => XS.iloadN X40.here hx rfl (hb hby at_30) rfl k) ?_
    refine own_by (S' := (T40.setTop (mkF m 34 #[.val (.int p1), .val (.int (2 : Int32)), .val (.ref ad2), .val (.int (1 : Int32))] []))) (fun _ k => XS.icmpNo X40.here hx rfl (hb hby at_31) rfl (teq ((by decide) : (1 : Int32) = (1 : Int32))).2 k) ?_
    refine own_by (S' := (T40.setTop (mkF m 35 #[.val (.int p1), .val (.int (2 : Int32)), .val (.ref ad2), .val (.int (1 : Int32))] [(.int (1 : Int32))]))) (fun _ k => XS.iconst X40.here hx rfl (hb hby at_34) k) ?_
    refine own_by (S' := (T40.setTop (mkF m 39 #[.val (.int p1), .val (.int (2 : Int32)), .val (.ref ad2), .val (.int (1 : Int32))] [(.int (1 : Int32))]))) (fun _ k => XS.goto X40.here hx rfl (pc0 := 35) (pc' := 39) rfl (hb hby at_35) (by decide) (by decide) k) ?_
    exact own_ret X40 hx (t := .boolean) Bd.returns rfl (Or.inl ⟨rfl, by simp, _, rfl⟩) (hb hby at_39) hlk (by decide : 0 ≤ _) (by decide : 0 ≤ _) (by rw [eh2]; exact ⟨rfl, N⟩)
  · rw [hk]
    refine own_by (S' := (s₁.setTop (mkF m 6 #[.val (.int p1), .val (.int (3 : Int32)), .unset, .unset] [(.int (3 : Int32))]))) (fun _ k => XS.iloadN X0.here hx rfl (hb hby at_5) rfl k) ?_
    obtain ⟨_, _, ⟨T41, L41, k41, n41⟩, -, X41, ⟨Lc41, hQ41, l41, y41, z41⟩, st41⟩ := Jvm.LawKit.callS X0 hx (y := (⟨"com/example/triarch/triarch/VerdictPossiblePinLaw", "pick", "(I)Lcom/example/triarch/triarch/Payments$Verdict;"⟩ : MethodName)) hown (mvT hZ (hw _ (List.mem_of_getElem? (i := 0) rfl))) (mvT hZ (hw _ (List.mem_of_getElem? (i := 1) rfl))) (mvT hZ (hw _ (List.mem_of_getElem? (i := 2) rfl))) (mvT hZ (hw _ (List.mem_of_getElem? (i := 3) rfl))) (by decide) (backOf (W := 0) (rm1_3 l Z a0 hw [] ad3 h0 n0 Zn S3) hZ (hw _ (List.mem_of_getElem? (i := 3) rfl)) (hw _ (List.mem_of_getElem? (i := 2) rfl)) (by decide) (by decide)) (g := (mkF m 6 #[.val (.int p1), .val (.int (3 : Int32)), .unset, .unset] [(.int (3 : Int32))])) rfl (by rw [hml]; rfl) (argsL := [(.int (3 : Int32))]) (rest := []) (lenOf pd__28I_29Lcom_2fexample_2ftriarch_2ftriarch_2fPayments_24Verdict_3b rfl) rfl (by show 2 * 0 + _ ≤ _; exact Nat.le_of_eq rfl) (hb hby at_6) (fun _ _ => ⟨rfl, e0, (by decide : 0 + 0 ≤ _), (by decide : 0 + 0 ≤ _)⟩)
    dsimp only [Pt.U, Pt.locs, Pt.cells, Pt.slots] at X41 l41 y41 z41 st41 hQ41
    subst l41 y41 z41
    obtain ⟨rfl, N41q, eh1⟩ := hQ41
    have N := Fr.app N N41q
    refine own_by (S' := (T41.setTop (mkF m 9 #[.val (.int p1), .val (.int (3 : Int32)), .unset, .unset] [(.ref ad3)]))) st41 ?_
    refine own_by (S' := (T41.setTop (mkF m 10 #[.val (.int p1), .val (.int (3 : Int32)), .val (.ref ad3), .unset] []))) (fun _ k => XS.astoreN X41.here hx rfl (hb hby at_9) rfl rfl (l' := #[.val (.int p1), .val (.int (3 : Int32)), .val (.ref ad3), .unset]) rfl k) ?_
    refine own_by (S' := (T41.setTop (mkF m 11 #[.val (.int p1), .val (.int (3 : Int32)), .val (.ref ad3), .unset] [(.int (3 : Int32))]))) (fun _ k => XS.iloadN X41.here hx rfl (hb hby at_10) rfl k) ?_
    refine own_by (S' := (T41.setTop (mkF m 12 #[.val (.int p1), .val (.int (3 : Int32)), .val (.ref ad3), .unset] [(.int (2 : Int32)), (.int (3 : Int32))]))) (fun _ k => XS.iconst X41.here hx rfl (hb hby at_11) k) ?_
    refine own_by (S' := (T41.setTop (mkF m 15 #[.val (.int p1), .val (.int (3 : Int32)), .val (.ref ad3), .unset] []))) (fun _ k => XS.icmpNo X41.here hx rfl (hb hby at_12) rfl (flt ((by decide) : ¬ ((3 : Int32) < (2 : Int32)))).1 k) ?_
    refine own_by (S' := (T41.setTop (mkF m 16 #[.val (.int p1), .val (.int (3 : Int32)), .val (.ref ad3), .unset] [(.int (3 : Int32))]))) (fun _ k => XS.iloadN X41.here hx rfl (hb hby at_15) rfl k) ?_
    refine own_by (S' := (T41.setTop (mkF m 17 #[.val (.int p1), .val (.int (3 : Int32)), .val (.ref ad3), .unset] [(.int (5 : Int32)), (.int (3 : Int32))]))) (fun _ k => XS.iconst X41.here hx rfl (hb hby at_16) k) ?_
    refine own_by (S' := (T41.setTop (mkF m 20 #[.val (.int p1), .val (.int (3 : Int32)), .val (.ref ad3), .unset] []))) (fun _ k => XS.icmpNo X41.here hx rfl (hb hby at_17) rfl (flt ((by decide) : ¬ ((5 : Int32) < (3 : Int32)))).2.2.1 k) ?_
    refine own_by (S' := (T41.setTop (mkF m 21 #[.val (.int p1), .val (.int (3 : Int32)), .val (.ref ad3), .unset] [(.int (1 : Int32))]))) (fun _ k => XS.iconst X41.here hx rfl (hb hby at_20) k) ?_
    refine own_by (S' := (T41.setTop (mkF m 25 #[.val (.int p1), .val (.int (3 : Int32)), .val (.ref ad3), .unset] [(.int (1 : Int32))]))) (fun _ k => XS.goto X41.here hx rfl (pc0 := 21) (pc' := 25) rfl (hb hby at_21) (by decide) (by decide) k) ?_
    refine own_by (S' := (T41.setTop (mkF m 26 #[.val (.int p1), .val (.int (3 : Int32)), .val (.ref ad3), .val (.int (1 : Int32))] []))) (fun _ k => XS.istoreN X41.here hx rfl (hb hby at_25) rfl (l' := #[.val (.int p1), .val (.int (3 : Int32)), .val (.ref ad3), .val (.int (1 : Int32))]) rfl k) ?_
    refine own_by (S' := (T41.setTop (mkF m 27 #[.val (.int p1), .val (.int (3 : Int32)), .val (.ref ad3), .val (.int (1 : Int32))] [(.ref ad3)]))) (fun _ k => XS.aloadN X41.here hx rfl (hb hby at_26) rfl rfl k) ?_
    obtain ⟨cq42, kq42, q42a, q42b, q42c⟩ := isOf hZ eh1 E3
    obtain ⟨_, _, ⟨T42, L42, k42, n42⟩, -, X42, ⟨Lc42, hQ42, l42, y42, z42⟩, st42⟩ := X41.virtualBack hx (y := (⟨"com/example/triarch/triarch/Payments$Verdict", "possible", "()Z"⟩ : MethodName)) (z := (⟨"com/example/triarch/triarch/Payments$Verdict", "possible", "()Z"⟩ : MethodName)) hown (mvT hZ (hw _ (List.mem_of_getElem? (i := 7) rfl))) (mvT hZ (hw _ (List.mem_of_getElem? (i := 8) rfl))) (notFace_of_selects (args := #[]) (mvT hZ (hw _ (List.mem_of_getElem? (i := 10) rfl)))) (mvT hZ (hw _ (List.mem_of_getElem? (i := 10) rfl))) (mvT hZ (hw _ (List.mem_of_getElem? (i := 9) rfl))) (by decide) (backOf (W := 0) (rm2_3 l Z a0 hw [] ad2 ad3 ad4 ad5 h0 n0 Zn S2 S3 S4 S5 (F3.ne F2 (by decide)) (F3.ne F4 (by decide)) (F3.ne F5 (by decide))) hZ (hw _ (List.mem_of_getElem? (i := 11) rfl)) (hw _ (List.mem_of_getElem? (i := 5) rfl)) (by decide) (by decide)) q42a q42c (g := (mkF m 27 #[.val (.int p1), .val (.int (3 : Int32)), .val (.ref ad3), .val (.int (1 : Int32))] [(.ref ad3)])) rfl (by rw [hml]; rfl) (Steps.refl _) (argsL := []) (rest := []) (lenOf pd__28_29Z rfl) rfl (by show 2 * 0 + _ ≤ _; exact Nat.le_of_eq rfl) (hb hby at_27) (fun _ _ => ⟨rfl, eh1, (by decide : 0 + 0 ≤ _), (by decide : 0 + 0 ≤ _)⟩)
    dsimp only [Pt.U, Pt.locs, Pt.cells, Pt.slots] at X42 l42 y42 z42 st42 hQ42
    subst l42 y42 z42
    obtain ⟨rfl, N42q, eh2⟩ := hQ42
    have N := Fr.app N N42q
    refine own_tr (S' := (T42.setTop (mkF m 30 #[.val (.int p1), .val (.int (3 : Int32)), .val (.ref ad3), .val (.int (1 : Int32))] [(.int (1 : Int32))]))) st42 ?_
    refine own_by (S' := (T42.setTop (mkF m 31 #[.val (.int p1), .val (.int (3 : Int32)), .val (.ref ad3), .val (.int (1 : Int32))] [(.int (1 : Int32)), (.int (1 : Int32))]))) (fun _ k => XS.iloadN X42.here hx rfl (hb hby at_30) rfl k) ?_
    refine own_by (S' := (T42.setTop (mkF m 34 #[.val (.int p1), .val (.int (3 : Int32)), .val (.ref ad3), .val (.int (1 : Int32))] []))) (fun _ k => XS.icmpNo X42.here hx rfl (hb hby at_31) rfl (teq ((by decide) : (1 : Int32) = (1 : Int32))).2 k) ?_
    refine own_by (S' := (T42.setTop (mkF m 35 #[.val (.int p1), .val (.int (3 : Int32)), .val (.ref ad3), .val (.int (1 : Int32))] [(.int (1 : Int32))]))) (fun _ k => XS.iconst X42.here hx rfl (hb hby at_34) k) ?_
    refine own_by (S' := (T42.setTop (mkF m 39 #[.val (.int p1), .val (.int (3 : Int32)), .val (.ref ad3), .val (.int (1 : Int32))] [(.int (1 : Int32))]))) (fun _ k => XS.goto X42.here hx rfl (pc0 := 35) (pc' := 39) rfl (hb hby at_35) (by decide) (by decide) k) ?_
    exact own_ret X42 hx (t := .boolean) Bd.returns rfl (Or.inl ⟨rfl, by simp, _, rfl⟩) (hb hby at_39) hlk (by decide : 0 ≤ _) (by decide : 0 ≤ _) (by rw [eh2]; exact ⟨rfl, N⟩)
  · rw [hk]
    refine own_by (S' := (s₁.setTop (mkF m 6 #[.val (.int p1), .val (.int (4 : Int32)), .unset, .unset] [(.int (4 : Int32))]))) (fun _ k => XS.iloadN X0.here hx rfl (hb hby at_5) rfl k) ?_
    obtain ⟨_, _, ⟨T43, L43, k43, n43⟩, -, X43, ⟨Lc43, hQ43, l43, y43, z43⟩, st43⟩ := Jvm.LawKit.callS X0 hx (y := (⟨"com/example/triarch/triarch/VerdictPossiblePinLaw", "pick", "(I)Lcom/example/triarch/triarch/Payments$Verdict;"⟩ : MethodName)) hown (mvT hZ (hw _ (List.mem_of_getElem? (i := 0) rfl))) (mvT hZ (hw _ (List.mem_of_getElem? (i := 1) rfl))) (mvT hZ (hw _ (List.mem_of_getElem? (i := 2) rfl))) (mvT hZ (hw _ (List.mem_of_getElem? (i := 3) rfl))) (by decide) (backOf (W := 0) (rm1_4 l Z a0 hw [] ad4 h0 n0 Zn S4) hZ (hw _ (List.mem_of_getElem? (i := 3) rfl)) (hw _ (List.mem_of_getElem? (i := 2) rfl)) (by decide) (by decide)) (g := (mkF m 6 #[.val (.int p1), .val (.int (4 : Int32)), .unset, .unset] [(.int (4 : Int32))])) rfl (by rw [hml]; rfl) (argsL := [(.int (4 : Int32))]) (rest := []) (lenOf pd__28I_29Lcom_2fexample_2ftriarch_2ftriarch_2fPayments_24Verdict_3b rfl) rfl (by show 2 * 0 + _ ≤ _; exact Nat.le_of_eq rfl) (hb hby at_6) (fun _ _ => ⟨rfl, e0, (by decide : 0 + 0 ≤ _), (by decide : 0 + 0 ≤ _)⟩)
    dsimp only [Pt.U, Pt.locs, Pt.cells, Pt.slots] at X43 l43 y43 z43 st43 hQ43
    subst l43 y43 z43
    obtain ⟨rfl, N43q, eh1⟩ := hQ43
    have N := Fr.app N N43q
    refine own_by (S' := (T43.setTop (mkF m 9 #[.val (.int p1), .val (.int (4 : Int32)), .unset, .unset] [(.ref ad4)]))) st43 ?_
    refine own_by (S' := (T43.setTop (mkF m 10 #[.val (.int p1), .val (.int (4 : Int32)), .val (.ref ad4), .unset] []))) (fun _ k => XS.astoreN X43.here hx rfl (hb hby at_9) rfl rfl (l' := #[.val (.int p1), .val (.int (4 : Int32)), .val (.ref ad4), .unset]) rfl k) ?_
    refine own_by (S' := (T43.setTop (mkF m 11 #[.val (.int p1), .val (.int (4 : Int32)), .val (.ref ad4), .unset] [(.int (4 : Int32))]))) (fun _ k => XS.iloadN X43.here hx rfl (hb hby at_10) rfl k) ?_
    refine own_by (S' := (T43.setTop (mkF m 12 #[.val (.int p1), .val (.int (4 : Int32)), .val (.ref ad4), .unset] [(.int (2 : Int32)), (.int (4 : Int32))]))) (fun _ k => XS.iconst X43.here hx rfl (hb hby at_11) k) ?_
    refine own_by (S' := (T43.setTop (mkF m 15 #[.val (.int p1), .val (.int (4 : Int32)), .val (.ref ad4), .unset] []))) (fun _ k => XS.icmpNo X43.here hx rfl (hb hby at_12) rfl (flt ((by decide) : ¬ ((4 : Int32) < (2 : Int32)))).1 k) ?_
    refine own_by (S' := (T43.setTop (mkF m 16 #[.val (.int p1), .val (.int (4 : Int32)), .val (.ref ad4), .unset] [(.int (4 : Int32))]))) (fun _ k => XS.iloadN X43.here hx rfl (hb hby at_15) rfl k) ?_
    refine own_by (S' := (T43.setTop (mkF m 17 #[.val (.int p1), .val (.int (4 : Int32)), .val (.ref ad4), .unset] [(.int (5 : Int32)), (.int (4 : Int32))]))) (fun _ k => XS.iconst X43.here hx rfl (hb hby at_16) k) ?_
    refine own_by (S' := (T43.setTop (mkF m 20 #[.val (.int p1), .val (.int (4 : Int32)), .val (.ref ad4), .unset] []))) (fun _ k => XS.icmpNo X43.here hx rfl (hb hby at_17) rfl (flt ((by decide) : ¬ ((5 : Int32) < (4 : Int32)))).2.2.1 k) ?_
    refine own_by (S' := (T43.setTop (mkF m 21 #[.val (.int p1), .val (.int (4 : Int32)), .val (.ref ad4), .unset] [(.int (1 : Int32))]))) (fun _ k => XS.iconst X43.here hx rfl (hb hby at_20) k) ?_
    refine own_by (S' := (T43.setTop (mkF m 25 #[.val (.int p1), .val (.int (4 : Int32)), .val (.ref ad4), .unset] [(.int (1 : Int32))]))) (fun _ k => XS.goto X43.here hx rfl (pc0 := 21) (pc' := 25) rfl (hb hby at_21) (by decide) (by decide) k) ?_
    refine own_by (S' := (T43.setTop (mkF m 26 #[.val (.int p1), .val (.int (4 : Int32)), .val (.ref ad4), .val (.int (1 : Int32))] []))) (fun _ k => XS.istoreN X43.here hx rfl (hb hby at_25) rfl (l' := #[.val (.int p1), .val (.int (4 : Int32)), .val (.ref ad4), .val (.int (1 : Int32))]) rfl k) ?_
    refine own_by (S' := (T43.setTop (mkF m 27 #[.val (.int p1), .val (.int (4 : Int32)), .val (.ref ad4), .val (.int (1 : Int32))] [(.ref ad4)]))) (fun _ k => XS.aloadN X43.here hx rfl (hb hby at_26) rfl rfl k) ?_
    obtain ⟨cq44, kq44, q44a, q44b, q44c⟩ := isOf hZ eh1 E4
    obtain ⟨_, _, ⟨T44, L44, k44, n44⟩, -, X44, ⟨Lc44, hQ44, l44, y44, z44⟩, st44⟩ := X43.virtualBack hx (y := (⟨"com/example/triarch/triarch/Payments$Verdict", "possible", "()Z"⟩ : MethodName)) (z := (⟨"com/example/triarch/triarch/Payments$Verdict", "possible", "()Z"⟩ : MethodName)) hown (mvT hZ (hw _ (List.mem_of_getElem? (i := 7) rfl))) (mvT hZ (hw _ (List.mem_of_getElem? (i := 8) rfl))) (notFace_of_selects (args := #[]) (mvT hZ (hw _ (List.mem_of_getElem? (i := 10) rfl)))) (mvT hZ (hw _ (List.mem_of_getElem? (i := 10) rfl))) (mvT hZ (hw _ (List.mem_of_getElem? (i := 9) rfl))) (by decide) (backOf (W := 0) (rm2_4 l Z a0 hw [] ad2 ad3 ad4 ad5 h0 n0 Zn S2 S3 S4 S5 (F4.ne F2 (by decide)) (F4.ne F3 (by decide)) (F4.ne F5 (by decide))) hZ (hw _ (List.mem_of_getElem? (i := 11) rfl)) (hw _ (List.mem_of_getElem? (i := 5) rfl)) (by decide) (by decide)) q44a q44c (g := (mkF m 27 #[.val (.int p1), .val (.int (4 : Int32)), .val (.ref ad4), .val (.int (1 : Int32))] [(.ref ad4)])) rfl (by rw [hml]; rfl) (Steps.refl _) (argsL := []) (rest := []) (lenOf pd__28_29Z rfl) rfl (by show 2 * 0 + _ ≤ _; exact Nat.le_of_eq rfl) (hb hby at_27) (fun _ _ => ⟨rfl, eh1, (by decide : 0 + 0 ≤ _), (by decide : 0 + 0 ≤ _)⟩)
    dsimp only [Pt.U, Pt.locs, Pt.cells, Pt.slots] at X44 l44 y44 z44 st44 hQ44
    subst l44 y44 z44
    obtain ⟨rfl, N44q, eh2⟩ := hQ44
    have N := Fr.app N N44q
    refine own_tr (S' := (T44.setTop (mkF m 30 #[.val (.int p1), .val (.int (4 : Int32)), .val (.ref ad4), .val (.int (1 : Int32))] [(.int (1 : Int32))]))) st44 ?_
    refine own_by (S' := (T44.setTop (mkF m 31 #[.val (.int p1), .val (.int (4 : Int32)), .val (.ref ad4), .val (.int (1 : Int32))] [(.int (1 : Int32)), (.int (1 : Int32))]))) (fun _ k => XS.iloadN X44.here hx rfl (hb hby at_30) rfl k) ?_
    refine own_by (S' := (T44.setTop (mkF m 34 #[.val (.int p1), .val (.int (4 : Int32)), .val (.ref ad4), .val (.int (1 : Int32))] []))) (fun _ k => XS.icmpNo X44.here hx rfl (hb hby at_31) rfl (teq ((by decide) : (1 : Int32) = (1 : Int32))).2 k) ?_
    refine own_by (S' := (T44.setTop (mkF m 35 #[.val (.int p1), .val (.int (4 : Int32)), .val (.ref ad4), .val (.int (1 : Int32))] [(.int (1 : Int32))]))) (fun _ k => XS.iconst X44.here hx rfl (hb hby at_34) k) ?_
    refine own_by (S' := (T44.setTop (mkF m 39 #[.val (.int p1), .val (.int (4 : Int32)), .val (.ref ad4), .val (.int (1 : Int32))] [(.int (1 : Int32))]))) (fun _ k => XS.goto X44.here hx rfl (pc0 := 35) (pc' := 39) rfl (hb hby at_35) (by decide) (by decide) k) ?_
    exact own_ret X44 hx (t := .boolean) Bd.returns rfl (Or.inl ⟨rfl, by simp, _, rfl⟩) (hb hby at_39) hlk (by decide : 0 ≤ _) (by decide : 0 ≤ _) (by rw [eh2]; exact ⟨rfl, N⟩)
  · rw [hk]
    refine own_by (S' := (s₁.setTop (mkF m 6 #[.val (.int p1), .val (.int (5 : Int32)), .unset, .unset] [(.int (5 : Int32))]))) (fun _ k => XS.iloadN X0.here hx rfl (hb hby at_5) rfl k) ?_
    obtain ⟨_, _, ⟨T45, L45, k45, n45⟩, -, X45, ⟨Lc45, hQ45, l45, y45, z45⟩, st45⟩ := Jvm.LawKit.callS X0 hx (y := (⟨"com/example/triarch/triarch/VerdictPossiblePinLaw", "pick", "(I)Lcom/example/triarch/triarch/Payments$Verdict;"⟩ : MethodName)) hown (mvT hZ (hw _ (List.mem_of_getElem? (i := 0) rfl))) (mvT hZ (hw _ (List.mem_of_getElem? (i := 1) rfl))) (mvT hZ (hw _ (List.mem_of_getElem? (i := 2) rfl))) (mvT hZ (hw _ (List.mem_of_getElem? (i := 3) rfl))) (by decide) (backOf (W := 0) (rm1_5 l Z a0 hw [] ad5 h0 n0 Zn S5) hZ (hw _ (List.mem_of_getElem? (i := 3) rfl)) (hw _ (List.mem_of_getElem? (i := 2) rfl)) (by decide) (by decide)) (g := (mkF m 6 #[.val (.int p1), .val (.int (5 : Int32)), .unset, .unset] [(.int (5 : Int32))])) rfl (by rw [hml]; rfl) (argsL := [(.int (5 : Int32))]) (rest := []) (lenOf pd__28I_29Lcom_2fexample_2ftriarch_2ftriarch_2fPayments_24Verdict_3b rfl) rfl (by show 2 * 0 + _ ≤ _; exact Nat.le_of_eq rfl) (hb hby at_6) (fun _ _ => ⟨rfl, e0, (by decide : 0 + 0 ≤ _), (by decide : 0 + 0 ≤ _)⟩)
    dsimp only [Pt.U, Pt.locs, Pt.cells, Pt.slots] at X45 l45 y45 z45 st45 hQ45
    subst l45 y45 z45
    obtain ⟨rfl, N45q, eh1⟩ := hQ45
    have N := Fr.app N N45q
    refine own_by (S' := (T45.setTop (mkF m 9 #[.val (.int p1), .val (.int (5 : Int32)), .unset, .unset] [(.ref ad5)]))) st45 ?_
    refine own_by (S' := (T45.setTop (mkF m 10 #[.val (.int p1), .val (.int (5 : Int32)), .val (.ref ad5), .unset] []))) (fun _ k => XS.astoreN X45.here hx rfl (hb hby at_9) rfl rfl (l' := #[.val (.int p1), .val (.int (5 : Int32)), .val (.ref ad5), .unset]) rfl k) ?_
    refine own_by (S' := (T45.setTop (mkF m 11 #[.val (.int p1), .val (.int (5 : Int32)), .val (.ref ad5), .unset] [(.int (5 : Int32))]))) (fun _ k => XS.iloadN X45.here hx rfl (hb hby at_10) rfl k) ?_
    refine own_by (S' := (T45.setTop (mkF m 12 #[.val (.int p1), .val (.int (5 : Int32)), .val (.ref ad5), .unset] [(.int (2 : Int32)), (.int (5 : Int32))]))) (fun _ k => XS.iconst X45.here hx rfl (hb hby at_11) k) ?_
    refine own_by (S' := (T45.setTop (mkF m 15 #[.val (.int p1), .val (.int (5 : Int32)), .val (.ref ad5), .unset] []))) (fun _ k => XS.icmpNo X45.here hx rfl (hb hby at_12) rfl (flt ((by decide) : ¬ ((5 : Int32) < (2 : Int32)))).1 k) ?_
    refine own_by (S' := (T45.setTop (mkF m 16 #[.val (.int p1), .val (.int (5 : Int32)), .val (.ref ad5), .unset] [(.int (5 : Int32))]))) (fun _ k => XS.iloadN X45.here hx rfl (hb hby at_15) rfl k) ?_
    refine own_by (S' := (T45.setTop (mkF m 17 #[.val (.int p1), .val (.int (5 : Int32)), .val (.ref ad5), .unset] [(.int (5 : Int32)), (.int (5 : Int32))]))) (fun _ k => XS.iconst X45.here hx rfl (hb hby at_16) k) ?_
    refine own_by (S' := (T45.setTop (mkF m 20 #[.val (.int p1), .val (.int (5 : Int32)), .val (.ref ad5), .unset] []))) (fun _ k => XS.icmpNo X45.here hx rfl (hb hby at_17) rfl (flt ((by decide) : ¬ ((5 : Int32) < (5 : Int32)))).2.2.1 k) ?_
    refine own_by (S' := (T45.setTop (mkF m 21 #[.val (.int p1), .val (.int (5 : Int32)), .val (.ref ad5), .unset] [(.int (1 : Int32))]))) (fun _ k => XS.iconst X45.here hx rfl (hb hby at_20) k) ?_
    refine own_by (S' := (T45.setTop (mkF m 25 #[.val (.int p1), .val (.int (5 : Int32)), .val (.ref ad5), .unset] [(.int (1 : Int32))]))) (fun _ k => XS.goto X45.here hx rfl (pc0 := 21) (pc' := 25) rfl (hb hby at_21) (by decide) (by decide) k) ?_
    refine own_by (S' := (T45.setTop (mkF m 26 #[.val (.int p1), .val (.int (5 : Int32)), .val (.ref ad5), .val (.int (1 : Int32))] []))) (fun _ k => XS.istoreN X45.here hx rfl (hb hby at_25) rfl (l' := #[.val (.int p1), .val (.int (5 : Int32)), .val (.ref ad5), .val (.int (1 : Int32))]) rfl k) ?_
    refine own_by (S' := (T45.setTop (mkF m 27 #[.val (.int p1), .val (.int (5 : Int32)), .val (.ref ad5), .val (.int (1 : Int32))] [(.ref ad5)]))) (fun _ k => XS.aloadN X45.here hx rfl (hb hby at_26) rfl rfl k) ?_
    obtain ⟨cq46, kq46, q46a, q46b, q46c⟩ := isOf hZ eh1 E5
    obtain ⟨_, _, ⟨T46, L46, k46, n46⟩, -, X46, ⟨Lc46, hQ46, l46, y46, z46⟩, st46⟩ := X45.virtualBack hx (y := (⟨"com/example/triarch/triarch/Payments$Verdict", "possible", "()Z"⟩ : MethodName)) (z := (⟨"com/example/triarch/triarch/Payments$Verdict", "possible", "()Z"⟩ : MethodName)) hown (mvT hZ (hw _ (List.mem_of_getElem? (i := 7) rfl))) (mvT hZ (hw _ (List.mem_of_getElem? (i := 8) rfl))) (notFace_of_selects (args := #[]) (mvT hZ (hw _ (List.mem_of_getElem? (i := 10) rfl)))) (mvT hZ (hw _ (List.mem_of_getElem? (i := 10) rfl))) (mvT hZ (hw _ (List.mem_of_getElem? (i := 9) rfl))) (by decide) (backOf (W := 0) (rm2_5 l Z a0 hw [] ad2 ad3 ad4 ad5 h0 n0 Zn S2 S3 S4 S5 (F5.ne F2 (by decide)) (F5.ne F3 (by decide)) (F5.ne F4 (by decide))) hZ (hw _ (List.mem_of_getElem? (i := 11) rfl)) (hw _ (List.mem_of_getElem? (i := 5) rfl)) (by decide) (by decide)) q46a q46c (g := (mkF m 27 #[.val (.int p1), .val (.int (5 : Int32)), .val (.ref ad5), .val (.int (1 : Int32))] [(.ref ad5)])) rfl (by rw [hml]; rfl) (Steps.refl _) (argsL := []) (rest := []) (lenOf pd__28_29Z rfl) rfl (by show 2 * 0 + _ ≤ _; exact Nat.le_of_eq rfl) (hb hby at_27) (fun _ _ => ⟨rfl, eh1, (by decide : 0 + 0 ≤ _), (by decide : 0 + 0 ≤ _)⟩)
    dsimp only [Pt.U, Pt.locs, Pt.cells, Pt.slots] at X46 l46 y46 z46 st46 hQ46
    subst l46 y46 z46
    obtain ⟨rfl, N46q, eh2⟩ := hQ46
    have N := Fr.app N N46q
    refine own_tr (S' := (T46.setTop (mkF m 30 #[.val (.int p1), .val (.int (5 : Int32)), .val (.ref ad5), .val (.int (1 : Int32))] [(.int (1 : Int32))]))) st46 ?_
    refine own_by (S' := (T46.setTop (mkF m 31 #[.val (.int p1), .val (.int (5 : Int32)), .val (.ref ad5), .val (.int (1 : Int32))] [(.int (1 : Int32)), (.int (1 : Int32))]))) (fun _ k => XS.iloadN X46.here hx rfl (hb hby at_30) rfl k) ?_
    refine own_by (S' := (T46.setTop (mkF m 34 #[.val (.int p1), .val (.int (5 : Int32)), .val (.ref ad5), .val (.int (1 : Int32))] []))) (fun _ k => XS.icmpNo X46.here hx rfl (hb hby at_31) rfl (teq ((by decide) : (1 : Int32) = (1 : Int32))).2 k) ?_
    refine own_by (S' := (T46.setTop (mkF m 35 #[.val (.int p1), .val (.int (5 : Int32)), .val (.ref ad5), .val (.int (1 : Int32))] [(.int (1 : Int32))]))) (fun _ k => XS.iconst X46.here hx rfl (hb hby at_34) k) ?_
    refine own_by (S' := (T46.setTop (mkF m 39 #[.val (.int p1), .val (.int (5 : Int32)), .val (.ref ad5), .val (.int (1 : Int32))] [(.int (1 : Int32))]))) (fun _ k => XS.goto X46.here hx rfl (pc0 := 35) (pc' := 39) rfl (hb hby at_35) (by decide) (by decide) k) ?_
    exact own_ret X46 hx (t := .boolean) Bd.returns rfl (Or.inl ⟨rfl, by simp, _, rfl⟩) (hb hby at_39) hlk (by decide : 0 ≤ _) (by decide : 0 ≤ _) (by rw [eh2]; exact ⟨rfl, N⟩)
  · rw [hk]
    refine own_by (S' := (s₁.setTop (mkF m 6 #[.val (.int p1), .val (.int (6 : Int32)), .unset, .unset] [(.int (6 : Int32))]))) (fun _ k => XS.iloadN X0.here hx rfl (hb hby at_5) rfl k) ?_
    obtain ⟨_, _, ⟨T47, L47, k47, n47⟩, -, X47, ⟨Lc47, hQ47, l47, y47, z47⟩, st47⟩ := Jvm.LawKit.callS X0 hx (y := (⟨"com/example/triarch/triarch/VerdictPossiblePinLaw", "pick", "(I)Lcom/example/triarch/triarch/Payments$Verdict;"⟩ : MethodName)) hown (mvT hZ (hw _ (List.mem_of_getElem? (i := 0) rfl))) (mvT hZ (hw _ (List.mem_of_getElem? (i := 1) rfl))) (mvT hZ (hw _ (List.mem_of_getElem? (i := 2) rfl))) (mvT hZ (hw _ (List.mem_of_getElem? (i := 3) rfl))) (by decide) (backOf (W := 0) (rm1_6 l Z a0 hw [] ad6 h0 n0 Zn S6) hZ (hw _ (List.mem_of_getElem? (i := 3) rfl)) (hw _ (List.mem_of_getElem? (i := 2) rfl)) (by decide) (by decide)) (g := (mkF m 6 #[.val (.int p1), .val (.int (6 : Int32)), .unset, .unset] [(.int (6 : Int32))])) rfl (by rw [hml]; rfl) (argsL := [(.int (6 : Int32))]) (rest := []) (lenOf pd__28I_29Lcom_2fexample_2ftriarch_2ftriarch_2fPayments_24Verdict_3b rfl) rfl (by show 2 * 0 + _ ≤ _; exact Nat.le_of_eq rfl) (hb hby at_6) (fun _ _ => ⟨rfl, e0, (by decide : 0 + 0 ≤ _), (by decide : 0 + 0 ≤ _)⟩)
    dsimp only [Pt.U, Pt.locs, Pt.cells, Pt.slots] at X47 l47 y47 z47 st47 hQ47
    subst l47 y47 z47
    obtain ⟨rfl, N47q, eh1⟩ := hQ47
    have N := Fr.app N N47q
    refine own_by (S' := (T47.setTop (mkF m 9 #[.val (.int p1), .val (.int (6 : Int32)), .unset, .unset] [(.ref ad6)]))) st47 ?_
    refine own_by (S' := (T47.setTop (mkF m 10 #[.val (.int p1), .val (.int (6 : Int32)), .val (.ref ad6), .unset] []))) (fun _ k => XS.astoreN X47.here hx rfl (hb hby at_9) rfl rfl (l' := #[.val (.int p1), .val (.int (6 : Int32)), .val (.ref ad6), .unset]) rfl k) ?_
    refine own_by (S' := (T47.setTop (mkF m 11 #[.val (.int p1), .val (.int (6 : Int32)), .val (.ref ad6), .unset] [(.int (6 : Int32))]))) (fun _ k => XS.iloadN X47.here hx rfl (hb hby at_10) rfl k) ?_
    refine own_by (S' := (T47.setTop (mkF m 12 #[.val (.int p1), .val (.int (6 : Int32)), .val (.ref ad6), .unset] [(.int (2 : Int32)), (.int (6 : Int32))]))) (fun _ k => XS.iconst X47.here hx rfl (hb hby at_11) k) ?_
    refine own_by (S' := (T47.setTop (mkF m 15 #[.val (.int p1), .val (.int (6 : Int32)), .val (.ref ad6), .unset] []))) (fun _ k => XS.icmpNo X47.here hx rfl (hb hby at_12) rfl (flt ((by decide) : ¬ ((6 : Int32) < (2 : Int32)))).1 k) ?_
    refine own_by (S' := (T47.setTop (mkF m 16 #[.val (.int p1), .val (.int (6 : Int32)), .val (.ref ad6), .unset] [(.int (6 : Int32))]))) (fun _ k => XS.iloadN X47.here hx rfl (hb hby at_15) rfl k) ?_
    refine own_by (S' := (T47.setTop (mkF m 17 #[.val (.int p1), .val (.int (6 : Int32)), .val (.ref ad6), .unset] [(.int (5 : Int32)), (.int (6 : Int32))]))) (fun _ k => XS.iconst X47.here hx rfl (hb hby at_16) k) ?_
    refine own_by (S' := (T47.setTop (mkF m 24 #[.val (.int p1), .val (.int (6 : Int32)), .val (.ref ad6), .unset] []))) (fun _ k => XS.icmpYes X47.here hx rfl (pc0 := 17) (pc' := 24) rfl (hb hby at_17) rfl (tlt ((by decide) : (5 : Int32) < (6 : Int32))).2.2.1 (by decide) (by decide) k) ?_
    refine own_by (S' := (T47.setTop (mkF m 25 #[.val (.int p1), .val (.int (6 : Int32)), .val (.ref ad6), .unset] [(.int (0 : Int32))]))) (fun _ k => XS.iconst X47.here hx rfl (hb hby at_24) k) ?_
    refine own_by (S' := (T47.setTop (mkF m 26 #[.val (.int p1), .val (.int (6 : Int32)), .val (.ref ad6), .val (.int (0 : Int32))] []))) (fun _ k => XS.istoreN X47.here hx rfl (hb hby at_25) rfl (l' := #[.val (.int p1), .val (.int (6 : Int32)), .val (.ref ad6), .val (.int (0 : Int32))]) rfl k) ?_
    refine own_by (S' := (T47.setTop (mkF m 27 #[.val (.int p1), .val (.int (6 : Int32)), .val (.ref ad6), .val (.int (0 : Int32))] [(.ref ad6)]))) (fun _ k => XS.aloadN X47.here hx rfl (hb hby at_26) rfl rfl k) ?_
    obtain ⟨cq48, kq48, q48a, q48b, q48c⟩ := isOf hZ eh1 E6
    obtain ⟨_, _, ⟨T48, L48, k48, n48⟩, -, X48, ⟨Lc48, hQ48, l48, y48, z48⟩, st48⟩ := X47.virtualBack hx (y := (⟨"com/example/triarch/triarch/Payments$Verdict", "possible", "()Z"⟩ : MethodName)) (z := (⟨"com/example/triarch/triarch/Payments$Verdict", "possible", "()Z"⟩ : MethodName)) hown (mvT hZ (hw _ (List.mem_of_getElem? (i := 7) rfl))) (mvT hZ (hw _ (List.mem_of_getElem? (i := 8) rfl))) (notFace_of_selects (args := #[]) (mvT hZ (hw _ (List.mem_of_getElem? (i := 10) rfl)))) (mvT hZ (hw _ (List.mem_of_getElem? (i := 10) rfl))) (mvT hZ (hw _ (List.mem_of_getElem? (i := 9) rfl))) (by decide) (backOf (W := 0) (rm2_6 l Z a0 hw [] ad2 ad3 ad4 ad5 ad6 h0 n0 Zn S2 S3 S4 S5 (F6.ne F2 (by decide)) (F6.ne F3 (by decide)) (F6.ne F4 (by decide)) (F6.ne F5 (by decide))) hZ (hw _ (List.mem_of_getElem? (i := 11) rfl)) (hw _ (List.mem_of_getElem? (i := 5) rfl)) (by decide) (by decide)) q48a q48c (g := (mkF m 27 #[.val (.int p1), .val (.int (6 : Int32)), .val (.ref ad6), .val (.int (0 : Int32))] [(.ref ad6)])) rfl (by rw [hml]; rfl) (Steps.refl _) (argsL := []) (rest := []) (lenOf pd__28_29Z rfl) rfl (by show 2 * 0 + _ ≤ _; exact Nat.le_of_eq rfl) (hb hby at_27) (fun _ _ => ⟨rfl, eh1, (by decide : 0 + 0 ≤ _), (by decide : 0 + 0 ≤ _)⟩)
    dsimp only [Pt.U, Pt.locs, Pt.cells, Pt.slots] at X48 l48 y48 z48 st48 hQ48
    subst l48 y48 z48
    obtain ⟨rfl, N48q, eh2⟩ := hQ48
    have N := Fr.app N N48q
    refine own_tr (S' := (T48.setTop (mkF m 30 #[.val (.int p1), .val (.int (6 : Int32)), .val (.ref ad6), .val (.int (0 : Int32))] [(.int (0 : Int32))]))) st48 ?_
    refine own_by (S' := (T48.setTop (mkF m 31 #[.val (.int p1), .val (.int (6 : Int32)), .val (.ref ad6), .val (.int (0 : Int32))] [(.int (0 : Int32)), (.int (0 : Int32))]))) (fun _ k => XS.iloadN X48.here hx rfl (hb hby at_30) rfl k) ?_
    refine own_by (S' := (T48.setTop (mkF m 34 #[.val (.int p1), .val (.int (6 : Int32)), .val (.ref ad6), .val (.int (0 : Int32))] []))) (fun _ k => XS.icmpNo X48.here hx rfl (hb hby at_31) rfl (teq ((by decide) : (0 : Int32) = (0 : Int32))).2 k) ?_
    refine own_by (S' := (T48.setTop (mkF m 35 #[.val (.int p1), .val (.int (6 : Int32)), .val (.ref ad6), .val (.int (0 : Int32))] [(.int (1 : Int32))]))) (fun _ k => XS.iconst X48.here hx rfl (hb hby at_34) k) ?_
    refine own_by (S' := (T48.setTop (mkF m 39 #[.val (.int p1), .val (.int (6 : Int32)), .val (.ref ad6), .val (.int (0 : Int32))] [(.int (1 : Int32))]))) (fun _ k => XS.goto X48.here hx rfl (pc0 := 35) (pc' := 39) rfl (hb hby at_35) (by decide) (by decide) k) ?_
    exact own_ret X48 hx (t := .boolean) Bd.returns rfl (Or.inl ⟨rfl, by simp, _, rfl⟩) (hb hby at_39) hlk (by decide : 0 ≤ _) (by decide : 0 ≤ _) (by rw [eh2]; exact ⟨rfl, N⟩)
  · rw [hk]
    refine own_by (S' := (s₁.setTop (mkF m 6 #[.val (.int p1), .val (.int (7 : Int32)), .unset, .unset] [(.int (7 : Int32))]))) (fun _ k => XS.iloadN X0.here hx rfl (hb hby at_5) rfl k) ?_
    obtain ⟨_, _, ⟨T49, L49, k49, n49⟩, -, X49, ⟨Lc49, hQ49, l49, y49, z49⟩, st49⟩ := Jvm.LawKit.callS X0 hx (y := (⟨"com/example/triarch/triarch/VerdictPossiblePinLaw", "pick", "(I)Lcom/example/triarch/triarch/Payments$Verdict;"⟩ : MethodName)) hown (mvT hZ (hw _ (List.mem_of_getElem? (i := 0) rfl))) (mvT hZ (hw _ (List.mem_of_getElem? (i := 1) rfl))) (mvT hZ (hw _ (List.mem_of_getElem? (i := 2) rfl))) (mvT hZ (hw _ (List.mem_of_getElem? (i := 3) rfl))) (by decide) (backOf (W := 0) (rm1_7 l Z a0 hw [] ad7 h0 n0 Zn S7) hZ (hw _ (List.mem_of_getElem? (i := 3) rfl)) (hw _ (List.mem_of_getElem? (i := 2) rfl)) (by decide) (by decide)) (g := (mkF m 6 #[.val (.int p1), .val (.int (7 : Int32)), .unset, .unset] [(.int (7 : Int32))])) rfl (by rw [hml]; rfl) (argsL := [(.int (7 : Int32))]) (rest := []) (lenOf pd__28I_29Lcom_2fexample_2ftriarch_2ftriarch_2fPayments_24Verdict_3b rfl) rfl (by show 2 * 0 + _ ≤ _; exact Nat.le_of_eq rfl) (hb hby at_6) (fun _ _ => ⟨rfl, e0, (by decide : 0 + 0 ≤ _), (by decide : 0 + 0 ≤ _)⟩)
    dsimp only [Pt.U, Pt.locs, Pt.cells, Pt.slots] at X49 l49 y49 z49 st49 hQ49
    subst l49 y49 z49
    obtain ⟨rfl, N49q, eh1⟩ := hQ49
    have N := Fr.app N N49q
    refine own_by (S' := (T49.setTop (mkF m 9 #[.val (.int p1), .val (.int (7 : Int32)), .unset, .unset] [(.ref ad7)]))) st49 ?_
    refine own_by (S' := (T49.setTop (mkF m 10 #[.val (.int p1), .val (.int (7 : Int32)), .val (.ref ad7), .unset] []))) (fun _ k => XS.astoreN X49.here hx rfl (hb hby at_9) rfl rfl (l' := #[.val (.int p1), .val (.int (7 : Int32)), .val (.ref ad7), .unset]) rfl k) ?_
    refine own_by (S' := (T49.setTop (mkF m 11 #[.val (.int p1), .val (.int (7 : Int32)), .val (.ref ad7), .unset] [(.int (7 : Int32))]))) (fun _ k => XS.iloadN X49.here hx rfl (hb hby at_10) rfl k) ?_
    refine own_by (S' := (T49.setTop (mkF m 12 #[.val (.int p1), .val (.int (7 : Int32)), .val (.ref ad7), .unset] [(.int (2 : Int32)), (.int (7 : Int32))]))) (fun _ k => XS.iconst X49.here hx rfl (hb hby at_11) k) ?_
    refine own_by (S' := (T49.setTop (mkF m 15 #[.val (.int p1), .val (.int (7 : Int32)), .val (.ref ad7), .unset] []))) (fun _ k => XS.icmpNo X49.here hx rfl (hb hby at_12) rfl (flt ((by decide) : ¬ ((7 : Int32) < (2 : Int32)))).1 k) ?_
    refine own_by (S' := (T49.setTop (mkF m 16 #[.val (.int p1), .val (.int (7 : Int32)), .val (.ref ad7), .unset] [(.int (7 : Int32))]))) (fun _ k => XS.iloadN X49.here hx rfl (hb hby at_15) rfl k) ?_
    refine own_by (S' := (T49.setTop (mkF m 17 #[.val (.int p1), .val (.int (7 : Int32)), .val (.ref ad7), .unset] [(.int (5 : Int32)), (.int (7 : Int32))]))) (fun _ k => XS.iconst X49.here hx rfl (hb hby at_16) k) ?_
    refine own_by (S' := (T49.setTop (mkF m 24 #[.val (.int p1), .val (.int (7 : Int32)), .val (.ref ad7), .unset] []))) (fun _ k => XS.icmpYes X49.here hx rfl (pc0 := 17) (pc' := 24) rfl (hb hby at_17) rfl (tlt ((by decide) : (5 : Int32) < (7 : Int32))).2.2.1 (by decide) (by decide) k) ?_
    refine own_by (S' := (T49.setTop (mkF m 25 #[.val (.int p1), .val (.int (7 : Int32)), .val (.ref ad7), .unset] [(.int (0 : Int32))]))) (fun _ k => XS.iconst X49.here hx rfl (hb hby at_24) k) ?_
    refine own_by (S' := (T49.setTop (mkF m 26 #[.val (.int p1), .val (.int (7 : Int32)), .val (.ref ad7), .val (.int (0 : Int32))] []))) (fun _ k => XS.istoreN X49.here hx rfl (hb hby at_25) rfl (l' := #[.val (.int p1), .val (.int (7 : Int32)), .val (.ref ad7), .val (.int (0 : Int32))]) rfl k) ?_
    refine own_by (S' := (T49.setTop (mkF m 27 #[.val (.int p1), .val (.int (7 : Int32)), .val (.ref ad7), .val (.int (0 : Int32))] [(.ref ad7)]))) (fun _ k => XS.aloadN X49.here hx rfl (hb hby at_26) rfl rfl k) ?_
    obtain ⟨cq50, kq50, q50a, q50b, q50c⟩ := isOf hZ eh1 E7
    obtain ⟨_, _, ⟨T50, L50, k50, n50⟩, -, X50, ⟨Lc50, hQ50, l50, y50, z50⟩, st50⟩ := X49.virtualBack hx (y := (⟨"com/example/triarch/triarch/Payments$Verdict", "possible", "()Z"⟩ : MethodName)) (z := (⟨"com/example/triarch/triarch/Payments$Verdict", "possible", "()Z"⟩ : MethodName)) hown (mvT hZ (hw _ (List.mem_of_getElem? (i := 7) rfl))) (mvT hZ (hw _ (List.mem_of_getElem? (i := 8) rfl))) (notFace_of_selects (args := #[]) (mvT hZ (hw _ (List.mem_of_getElem? (i := 10) rfl)))) (mvT hZ (hw _ (List.mem_of_getElem? (i := 10) rfl))) (mvT hZ (hw _ (List.mem_of_getElem? (i := 9) rfl))) (by decide) (backOf (W := 0) (rm2_7 l Z a0 hw [] ad2 ad3 ad4 ad5 ad7 h0 n0 Zn S2 S3 S4 S5 (F7.ne F2 (by decide)) (F7.ne F3 (by decide)) (F7.ne F4 (by decide)) (F7.ne F5 (by decide))) hZ (hw _ (List.mem_of_getElem? (i := 11) rfl)) (hw _ (List.mem_of_getElem? (i := 5) rfl)) (by decide) (by decide)) q50a q50c (g := (mkF m 27 #[.val (.int p1), .val (.int (7 : Int32)), .val (.ref ad7), .val (.int (0 : Int32))] [(.ref ad7)])) rfl (by rw [hml]; rfl) (Steps.refl _) (argsL := []) (rest := []) (lenOf pd__28_29Z rfl) rfl (by show 2 * 0 + _ ≤ _; exact Nat.le_of_eq rfl) (hb hby at_27) (fun _ _ => ⟨rfl, eh1, (by decide : 0 + 0 ≤ _), (by decide : 0 + 0 ≤ _)⟩)
    dsimp only [Pt.U, Pt.locs, Pt.cells, Pt.slots] at X50 l50 y50 z50 st50 hQ50
    subst l50 y50 z50
    obtain ⟨rfl, N50q, eh2⟩ := hQ50
    have N := Fr.app N N50q
    refine own_tr (S' := (T50.setTop (mkF m 30 #[.val (.int p1), .val (.int (7 : Int32)), .val (.ref ad7), .val (.int (0 : Int32))] [(.int (0 : Int32))]))) st50 ?_
    refine own_by (S' := (T50.setTop (mkF m 31 #[.val (.int p1), .val (.int (7 : Int32)), .val (.ref ad7), .val (.int (0 : Int32))] [(.int (0 : Int32)), (.int (0 : Int32))]))) (fun _ k => XS.iloadN X50.here hx rfl (hb hby at_30) rfl k) ?_
    refine own_by (S' := (T50.setTop (mkF m 34 #[.val (.int p1), .val (.int (7 : Int32)), .val (.ref ad7), .val (.int (0 : Int32))] []))) (fun _ k => XS.icmpNo X50.here hx rfl (hb hby at_31) rfl (teq ((by decide) : (0 : Int32) = (0 : Int32))).2 k) ?_
    refine own_by (S' := (T50.setTop (mkF m 35 #[.val (.int p1), .val (.int (7 : Int32)), .val (.ref ad7), .val (.int (0 : Int32))] [(.int (1 : Int32))]))) (fun _ k => XS.iconst X50.here hx rfl (hb hby at_34) k) ?_
    refine own_by (S' := (T50.setTop (mkF m 39 #[.val (.int p1), .val (.int (7 : Int32)), .val (.ref ad7), .val (.int (0 : Int32))] [(.int (1 : Int32))]))) (fun _ k => XS.goto X50.here hx rfl (pc0 := 35) (pc' := 39) rfl (hb hby at_35) (by decide) (by decide) k) ?_
    exact own_ret X50 hx (t := .boolean) Bd.returns rfl (Or.inl ⟨rfl, by simp, _, rfl⟩) (hb hby at_39) hlk (by decide : 0 ≤ _) (by decide : 0 ≤ _) (by rw [eh2]; exact ⟨rfl, N⟩)
set_option maxRecDepth 65536 in
set_option maxHeartbeats 40000000 in
theorem comes_1 {Post : Tables → Env → Array Value → State → Outcome → State → Prop} (hpost : ∀ tb e args s v u, (limb_1_1.after args s (.returned v) u = true ∧ limb_1_2.after args s (.returned v) u = true ∧ True) → FrameEnd s (.returned v) u (Jvm.fieldLocs frame_1_writes args s ++ Jvm.arrayLocs frame_1_arrays args s ++ Jvm.staticLocs frame_1_statics s) 0 0 → Post tb e args s (.returned v) u) :
    ArmFor flags0 classFile x code maxLocals ret World_1 tables_1 room_1 Calls_1 rest_1 Pre_1 Post := by
  intro l hfl _ _ p e ha hc hk s m args below hf hA hF happ hP
  obtain ⟨hcalls, hrest, hpre⟩ := hP
  obtain ⟨-, -, -, hnamed, -, -, -, hat⟩ := (Spec.applies_iff hf).mp happ
  obtain ⟨hg, hn⟩ := and_e (Cond.before_iff.mp (show (Jvm.Cond.and given_1 narrow_1).before args s = true from hpre))
  obtain ⟨gc, gr⟩ := and_e hg
  have g0 := gr
  obtain ⟨w0, rfl⟩ : ∃ w0 : Value, args = #[w0] := by
    have hs : args.size = 1 := by simpa [Cond.value, given_1] using gc
    obtain ⟨L⟩ := args
    match L, hs with
    | [w0], _ => exact ⟨w0, rfl⟩
  have hw := fun d (hd : d ∈ tables_1) => atoms_spec (ws := Jvm.Cond.code x code maxLocals ret :: tables_1) hat d (List.mem_cons_of_mem _ hd)
  have hfit : Fit s := fun {y c} hc i hi => by
    obtain ⟨ha, rfl⟩ := Array.getElem?_eq_some_iff.mp hc
    have q := List.all_eq_true.mp ((Array.all_eq_true_iff_forall_mem.mp hF) _ (Array.getElem_mem ha)) i (List.mem_range.mpr hi)
    simpa [Array.getElem?_eq_getElem hi] using q
  obtain ⟨i0, ei0⟩ := is_v g0
  obtain rfl : w0 = (.int i0) := Option.some.inj ei0
  obtain ⟨nE0, hn⟩ := and_e hn
  obtain ⟨nE2, hn⟩ := and_e hn
  obtain ⟨nF0, hn⟩ := and_e hn
  obtain ⟨nF2, hn⟩ := and_e hn
  obtain ⟨nE3, hn⟩ := and_e hn
  obtain ⟨nF3, hn⟩ := and_e hn
  obtain ⟨nE4, hn⟩ := and_e hn
  obtain ⟨nF4, hn⟩ := and_e hn
  obtain ⟨nE5, hn⟩ := and_e hn
  obtain ⟨nF5, hn⟩ := and_e hn
  obtain ⟨nE6, hn⟩ := and_e hn
  obtain ⟨nF6, hn⟩ := and_e hn
  obtain ⟨nE7, hn⟩ := and_e hn
  obtain ⟨nF7, hn⟩ := and_e hn
  obtain ⟨nE1, hn⟩ := and_e hn
  have nF1 := hn
  obtain ⟨ad0, ev0⟩ := exa_v nE0
  have E0 := Exa.start ev0 nE0
  have S0 := Sta.start ev0 (Or.inr ⟨hw _ (List.mem_of_getElem? (i := 5) rfl), hw _ (List.mem_of_getElem? (i := 6) rfl)⟩)
  have F0 := Fld.start ((fld_at ev0).symm.trans (own_eqint nF0))
  obtain ⟨ad1, ev1⟩ := exa_v nE1
  have E1 := Exa.start ev1 nE1
  have S1 := Sta.start ev1 (Or.inr ⟨hw _ (List.mem_of_getElem? (i := 5) rfl), hw _ (List.mem_of_getElem? (i := 27) rfl)⟩)
  have F1 := Fld.start ((fld_at ev1).symm.trans (own_eqint nF1))
  obtain ⟨ad2, ev2⟩ := exa_v nE2
  have E2 := Exa.start ev2 nE2
  have S2 := Sta.start ev2 (Or.inr ⟨hw _ (List.mem_of_getElem? (i := 5) rfl), hw _ (List.mem_of_getElem? (i := 13) rfl)⟩)
  have F2 := Fld.start ((fld_at ev2).symm.trans (own_eqint nF2))
  obtain ⟨ad3, ev3⟩ := exa_v nE3
  have E3 := Exa.start ev3 nE3
  have S3 := Sta.start ev3 (Or.inr ⟨hw _ (List.mem_of_getElem? (i := 5) rfl), hw _ (List.mem_of_getElem? (i := 15) rfl)⟩)
  have F3 := Fld.start ((fld_at ev3).symm.trans (own_eqint nF3))
  obtain ⟨ad4, ev4⟩ := exa_v nE4
  have E4 := Exa.start ev4 nE4
  have S4 := Sta.start ev4 (Or.inr ⟨hw _ (List.mem_of_getElem? (i := 5) rfl), hw _ (List.mem_of_getElem? (i := 17) rfl)⟩)
  have F4 := Fld.start ((fld_at ev4).symm.trans (own_eqint nF4))
  obtain ⟨ad5, ev5⟩ := exa_v nE5
  have E5 := Exa.start ev5 nE5
  have S5 := Sta.start ev5 (Or.inr ⟨hw _ (List.mem_of_getElem? (i := 5) rfl), hw _ (List.mem_of_getElem? (i := 19) rfl)⟩)
  have F5 := Fld.start ((fld_at ev5).symm.trans (own_eqint nF5))
  obtain ⟨ad6, ev6⟩ := exa_v nE6
  have E6 := Exa.start ev6 nE6
  have S6 := Sta.start ev6 (Or.inr ⟨hw _ (List.mem_of_getElem? (i := 5) rfl), hw _ (List.mem_of_getElem? (i := 22) rfl)⟩)
  have F6 := Fld.start ((fld_at ev6).symm.trans (own_eqint nF6))
  obtain ⟨ad7, ev7⟩ := exa_v nE7
  have E7 := Exa.start ev7 nE7
  have S7 := Sta.start ev7 (Or.inr ⟨hw _ (List.mem_of_getElem? (i := 5) rfl), hw _ (List.mem_of_getElem? (i := 24) rfl)⟩)
  have F7 := Fld.start ((fld_at ev7).symm.trans (own_eqint nF7))
  obtain ⟨n, o, h1, h2, h3, _, L, rfl, ⟨rfl, N⟩, hq⟩ := rm0 l s _ hw tables_1 i0 ad0 ad1 ad2 ad3 ad4 ad5 ad6 ad7 s.heap s.heap.size (Nat.le_refl _) S0 S1 S2 S3 S4 S5 S6 S7 E0 E1 E2 E3 E4 E5 E6 E7 F0 F1 F2 F3 F4 F5 F6 F7 p e ha hc hk s m _ below hf ((Spec.applies_iff_loose hf).mp happ).1 ⟨rfl, State.Warmed39.refl s, rfl⟩ trivial
  refine ⟨n, _, h1, h2, h3, hpost _ _ _ _ _ _ ⟨Cond.after_iff.mpr rfl, Cond.after_iff.mpr (eq_i res_at (Term.int_eval (1)) rfl), trivial⟩ ⟨hq.1, hq.2.1, (hq.2.2.sift fun y hy => Or.inr (N y hy)).mono (by decide) (by decide)⟩⟩
theorem main_1_1 : Claimed_1_1 := comes_1 fun _ _ _ _ _ _ h hF => ⟨h.1, hF⟩
theorem main_1_2 : Claimed_1_2 := comes_1 fun _ _ _ _ _ _ h hF => ⟨h.2.1, hF⟩
end Jvm.Pilot.@@N@@
namespace Jvm.Pilot.@@N@@
open Jvm Jvm.ClassFile Sem Op Lib Jvm.Free Jvm.Stand Jvm.Pilot.@@N@@.Jvm.D
/-! MADE BY PROGRAM (witnessworld.py) out of the Statement's table words and the real class files: 12 classes; the members and pool entries that the words name. The judged class is class 1, her method 2. -/
namespace start1
open Jvm.ClassFile
def u (s : String) : CpInfo := .utf8 (stringToUtf16 s)
/-- a pool by its gaps: so many unusable entries, then the entry; so many at the end -/
def gap : Nat → List CpInfo → List CpInfo
  | 0, r => r
  | n + 1, r => .unusable :: gap n r
def poolList (es : List (Nat × CpInfo)) (last : Nat) : List CpInfo := es.foldr (fun e r => gap e.1 (e.2 :: r)) (gap last [])
def pool (es : List (Nat × CpInfo)) (last : Nat) : Array CpInfo := ⟨poolList es last⟩
def fileOf (pool : Array CpInfo) (this : Nat) (attrs : Array Attribute := #[]) (ms : Array MethodInfo := #[]) (fl : Nat := 33) (sup : Nat := 0) (ifs : Array Nat := #[]) (fds : Array FieldInfo := #[]) : ClassFile where
  minorVersion := 0
  majorVersion := 65
  constantPool := pool
  accessFlags := fl
  thisClass := this
  superClass := sup
  interfaces := ifs
  fields := fds
  methods := ms
  attributes := attrs
def plain (name : String) (sup : Option ClassId) : Class where
  name := name
  kind := .ordinary
  loader := none
  accessFlags := 33
  super := sup
  interfaces := #[]
  cf := none
  fields := #[]
  methods := #[]
  instanceTypes := #[]
  staticTypes := #[]
  resolved := #[]
  callSites := []
  init := .initialized
  statics := none
  mirror := none

def pool0 : Array CpInfo := pool [(5, u "<init>"), (0, u "()V"), (1, .class_ 10), (1, u "java/lang/Object")] 113

def k0m0 : Method := { name := "<init>", desc := "()V", sig := { parameters := [], returnType := none }, accessFlags := 1, code := none }
/-- java/lang/Object -/
def k0 : Class := { plain "java/lang/Object" none with
  accessFlags := 33
  interfaces := #[]
  cf := some (fileOf pool0 8 #[] #[{ accessFlags := 1, nameIndex := 5, descriptorIndex := 6, attributes := #[] }] 33 0 #[] #[])
  fields := #[]
  methods := #[k0m0]
  instanceTypes := #[]
  staticTypes := #[]
  resolved := Array.replicate 124 none
  statics := none }

def pool1 : Array CpInfo := pool [(2, .class_ 4), (1, u "java/lang/Object"), (0, u "<init>"), (0, u "()V"), (0, .fieldref 8 9), (0, .class_ 10), (0, .nameAndType 11 12), (0, u "com/example/triarch/triarch/Payments$Verdict"), (0, u "ALREADY_BUILT"), (0, u "Lcom/example/triarch/triarch/Payments$Verdict;"), (0, .fieldref 8 14), (0, .nameAndType 15 12), (0, u "NO_STAGE"), (0, .fieldref 8 17), (0, .nameAndType 18 12), (0, u "FREE"), (0, .fieldref 8 20), (0, .nameAndType 21 12), (0, u "CHAIN"), (0, .fieldref 8 23), (0, .nameAndType 24 12), (0, u "OWN"), (0, .fieldref 8 26), (0, .nameAndType 27 12), (0, u "TRADE"), (0, .fieldref 8 29), (0, .nameAndType 30 12), (0, u "MISSING_RESOURCES"), (0, .fieldref 8 32), (0, .nameAndType 33 12), (0, u "NOT_ENOUGH_COINS"), (0, .methodref 35 36), (0, .class_ 37), (0, .nameAndType 38 39), (0, u "com/example/triarch/triarch/VerdictPossiblePinLaw"), (0, u "pick"), (0, u "(I)Lcom/example/triarch/triarch/Payments$Verdict;"), (0, .methodref 8 41), (0, .nameAndType 42 43), (0, u "possible"), (0, u "()Z"), (3, u "law"), (0, u "(I)Z")] 6

def k1m0 : Method := { name := "<init>", desc := "()V", sig := { parameters := [], returnType := none }, accessFlags := 2, code := none }
def k1c1 : Code := { maxStack := 2, maxLocals := 1, code := method_2_code, exceptionTable := #[], attributes := #[] }
def k1m1 : Method := { name := "pick", desc := "(I)Lcom/example/triarch/triarch/Payments$Verdict;", sig := { parameters := [.int], returnType := some (.object "com/example/triarch/triarch/Payments$Verdict") }, accessFlags := 10, code := some k1c1 }
def k1c2 : Code := { maxStack := 2, maxLocals := 4, code := code, exceptionTable := #[], attributes := #[] }
def k1m2 : Method := { name := "law", desc := "(I)Z", sig := { parameters := [.int], returnType := some .boolean }, accessFlags := 9, code := some k1c2 }
/-- com/example/triarch/triarch/VerdictPossiblePinLaw -/
def k1 : Class := { plain "com/example/triarch/triarch/VerdictPossiblePinLaw" (some 0) with
  accessFlags := 49
  interfaces := #[]
  cf := some (fileOf pool1 35 #[] #[{ accessFlags := 2, nameIndex := 5, descriptorIndex := 6, attributes := #[] }, { accessFlags := 10, nameIndex := 38, descriptorIndex := 39, attributes := #[] }, { accessFlags := 9, nameIndex := 47, descriptorIndex := 48, attributes := #[] }] 49 2 #[] #[])
  fields := #[]
  methods := #[k1m0, k1m1, k1m2]
  instanceTypes := #[]
  staticTypes := #[]
  resolved := Array.replicate 55 none
  statics := none }

def pool2 : Array CpInfo := pool [(1, .class_ 2), (0, u "java/lang/constant/Constable"), (0, .class_ 4), (0, u "java/lang/Object")] 6

/-- java/lang/constant/Constable -/
def k2 : Class := { plain "java/lang/constant/Constable" (some 0) with
  accessFlags := 1537
  interfaces := #[]
  cf := some (fileOf pool2 1 #[] #[] 1537 3 #[] #[])
  fields := #[]
  methods := #[]
  instanceTypes := #[]
  staticTypes := #[]
  resolved := Array.replicate 11 none
  statics := none }

def pool3 : Array CpInfo := pool [(1, .class_ 2), (0, u "java/lang/Comparable"), (0, .class_ 4), (0, u "java/lang/Object")] 7

/-- java/lang/Comparable -/
def k3 : Class := { plain "java/lang/Comparable" (some 0) with
  accessFlags := 1537
  interfaces := #[]
  cf := some (fileOf pool3 1 #[] #[] 1537 3 #[] #[])
  fields := #[]
  methods := #[]
  instanceTypes := #[]
  staticTypes := #[]
  resolved := Array.replicate 12 none
  statics := none }

def pool4 : Array CpInfo := pool [(1, .class_ 2), (0, u "java/io/Serializable"), (0, .class_ 4), (0, u "java/lang/Object")] 2

/-- java/io/Serializable -/
def k4 : Class := { plain "java/io/Serializable" (some 0) with
  accessFlags := 1537
  interfaces := #[]
  cf := some (fileOf pool4 1 #[] #[] 1537 3 #[] #[])
  fields := #[]
  methods := #[]
  instanceTypes := #[]
  staticTypes := #[]
  resolved := Array.replicate 7 none
  statics := none }

def pool5 : Array CpInfo := pool [(2, .class_ 4), (1, u "java/lang/Enum"), (0, u "name"), (0, u "Ljava/lang/String;"), (2, u "ordinal"), (0, u "I"), (1, .class_ 14), (1, u "java/lang/Object"), (4, u "hash"), (86, .class_ 108), (1, u "java/lang/Enum$EnumDesc"), (2, .class_ 112), (0, u "java/lang/constant/Constable"), (0, .class_ 114), (0, u "java/lang/Comparable"), (0, .class_ 116), (0, u "java/io/Serializable")] 87

/-- java/lang/Enum -/
def k5 : Class := { plain "java/lang/Enum" (some 0) with
  accessFlags := 1057
  interfaces := #[2, 3, 4]
  cf := some (fileOf pool5 2 #[.nestMembers #[106]] #[] 1057 12 #[111, 113, 115] #[{ accessFlags := 18, nameIndex := 5, descriptorIndex := 6, attributes := #[] }, { accessFlags := 18, nameIndex := 9, descriptorIndex := 10, attributes := #[] }, { accessFlags := 2, nameIndex := 19, descriptorIndex := 10, attributes := #[] }])
  fields := #[{ name := "name", type := (.object "java/lang/String"), accessFlags := 18, slot := 0, constantValue := 0 }, { name := "ordinal", type := .int, accessFlags := 18, slot := 1, constantValue := 0 }, { name := "hash", type := .int, accessFlags := 2, slot := 2, constantValue := 0 }]
  methods := #[]
  instanceTypes := #[(.object "java/lang/String"), .int, .int]
  staticTypes := #[]
  resolved := Array.replicate 204 none
  statics := none }

def pool6 : Array CpInfo := pool [(1, .class_ 2), (0, u "com/example/triarch/triarch/Payments$Verdict"), (2, u "ALREADY_BUILT"), (0, u "Lcom/example/triarch/triarch/Payments$Verdict;"), (2, u "NO_STAGE"), (0, .fieldref 1 11), (0, .nameAndType 12 6), (0, u "FREE"), (0, .fieldref 1 14), (0, .nameAndType 15 6), (0, u "CHAIN"), (0, .fieldref 1 17), (0, .nameAndType 18 6), (0, u "OWN"), (0, .fieldref 1 20), (0, .nameAndType 21 6), (0, u "TRADE"), (2, u "MISSING_RESOURCES"), (2, u "NOT_ENOUGH_COINS"), (2, u "$VALUES"), (0, u "[Lcom/example/triarch/triarch/Payments$Verdict;"), (6, .class_ 40), (1, u "java/lang/Enum"), (28, u "possible"), (0, u "()Z"), (31, .class_ 103), (0, u "com/example/triarch/triarch/Payments")] 16

def k6c0 : Code := { maxStack := 2, maxLocals := 1, code := prog_49_method_4_code, exceptionTable := #[], attributes := #[] }
def k6m0 : Method := { name := "possible", desc := "()Z", sig := { parameters := [], returnType := some .boolean }, accessFlags := 0, code := some k6c0 }
/-- com/example/triarch/triarch/Payments$Verdict -/
def k6 : Class := { plain "com/example/triarch/triarch/Payments$Verdict" (some 5) with
  accessFlags := 16432
  interfaces := #[]
  cf := some (fileOf pool6 1 #[.nestHost 102] #[{ accessFlags := 0, nameIndex := 69, descriptorIndex := 70, attributes := #[] }] 16432 38 #[] #[{ accessFlags := 16409, nameIndex := 5, descriptorIndex := 6, attributes := #[] }, { accessFlags := 16409, nameIndex := 9, descriptorIndex := 6, attributes := #[] }, { accessFlags := 16409, nameIndex := 12, descriptorIndex := 6, attributes := #[] }, { accessFlags := 16409, nameIndex := 15, descriptorIndex := 6, attributes := #[] }, { accessFlags := 16409, nameIndex := 18, descriptorIndex := 6, attributes := #[] }, { accessFlags := 16409, nameIndex := 21, descriptorIndex := 6, attributes := #[] }, { accessFlags := 16409, nameIndex := 24, descriptorIndex := 6, attributes := #[] }, { accessFlags := 16409, nameIndex := 27, descriptorIndex := 6, attributes := #[] }, { accessFlags := 4122, nameIndex := 30, descriptorIndex := 31, attributes := #[] }])
  fields := #[{ name := "ALREADY_BUILT", type := (.object "com/example/triarch/triarch/Payments$Verdict"), accessFlags := 16409, slot := 0, constantValue := 0 }, { name := "NO_STAGE", type := (.object "com/example/triarch/triarch/Payments$Verdict"), accessFlags := 16409, slot := 1, constantValue := 0 }, { name := "FREE", type := (.object "com/example/triarch/triarch/Payments$Verdict"), accessFlags := 16409, slot := 2, constantValue := 0 }, { name := "CHAIN", type := (.object "com/example/triarch/triarch/Payments$Verdict"), accessFlags := 16409, slot := 3, constantValue := 0 }, { name := "OWN", type := (.object "com/example/triarch/triarch/Payments$Verdict"), accessFlags := 16409, slot := 4, constantValue := 0 }, { name := "TRADE", type := (.object "com/example/triarch/triarch/Payments$Verdict"), accessFlags := 16409, slot := 5, constantValue := 0 }, { name := "MISSING_RESOURCES", type := (.object "com/example/triarch/triarch/Payments$Verdict"), accessFlags := 16409, slot := 6, constantValue := 0 }, { name := "NOT_ENOUGH_COINS", type := (.object "com/example/triarch/triarch/Payments$Verdict"), accessFlags := 16409, slot := 7, constantValue := 0 }, { name := "$VALUES", type := (.array (.object "com/example/triarch/triarch/Payments$Verdict")), accessFlags := 4122, slot := 8, constantValue := 0 }]
  methods := #[k6m0]
  instanceTypes := #[(.object "java/lang/String"), .int, .int]
  staticTypes := #[(.object "com/example/triarch/triarch/Payments$Verdict"), (.object "com/example/triarch/triarch/Payments$Verdict"), (.object "com/example/triarch/triarch/Payments$Verdict"), (.object "com/example/triarch/triarch/Payments$Verdict"), (.object "com/example/triarch/triarch/Payments$Verdict"), (.object "com/example/triarch/triarch/Payments$Verdict"), (.object "com/example/triarch/triarch/Payments$Verdict"), (.object "com/example/triarch/triarch/Payments$Verdict"), (.array (.object "com/example/triarch/triarch/Payments$Verdict"))]
  resolved := Array.replicate 120 none
  statics := some 0 }

def pool7 : Array CpInfo := pool [(1, u "java/lang/Cloneable"), (0, .class_ 1), (0, u "java/lang/Object"), (0, .class_ 3)] 3

/-- java/lang/Cloneable -/
def k7 : Class := { plain "java/lang/Cloneable" (some 0) with
  accessFlags := 1537
  interfaces := #[]
  cf := some (fileOf pool7 2 #[] #[] 1537 4 #[] #[])
  fields := #[]
  methods := #[]
  instanceTypes := #[]
  staticTypes := #[]
  resolved := Array.replicate 8 none
  statics := none }

/-- the primitive byte -/
def k8 : Class := { plain "byte" none with kind := .primitive 'B', accessFlags := 0x411 }
/-- [B -/
def k9 : Class := { plain "[B" (some 0) with kind := .array 8 .byte, interfaces := #[7, 4], accessFlags := 1041 }

/-- the primitive int -/
def k10 : Class := { plain "int" none with kind := .primitive 'I', accessFlags := 0x411 }
/-- [I -/
def k11 : Class := { plain "[I" (some 0) with kind := .array 10 .int, interfaces := #[7, 4], accessFlags := 1041 }

def heap : Heap := #[{ cls := 6, slots := #[.ref 1, .ref 2, .ref 3, .ref 4, .ref 5, .ref 6, .ref 7, .ref 8, .null], vm := .statics 6 },
  { cls := 6, slots := #[.null, .int 0, .int 0], vm := .none },
  { cls := 6, slots := #[.null, .int 1, .int 0], vm := .none },
  { cls := 6, slots := #[.null, .int 2, .int 0], vm := .none },
  { cls := 6, slots := #[.null, .int 3, .int 0], vm := .none },
  { cls := 6, slots := #[.null, .int 4, .int 0], vm := .none },
  { cls := 6, slots := #[.null, .int 5, .int 0], vm := .none },
  { cls := 6, slots := #[.null, .int 6, .int 0], vm := .none },
  { cls := 6, slots := #[.null, .int 7, .int 0], vm := .none }]
def classes : Array Class := #[k0, k1, k2, k3, k4, k5, k6, k7, k8, k9, k10, k11]
def interned : List (Array UInt16 × Addr) := []
def slotsUsed : Nat := 33
def theMethod : MethodId := ⟨1, 2⟩
def args0 : Array Value := #[.int 5]
def aboutOver (below : List Frame) : State where
  vm := { classes := classes, interned := interned.toArray }
  heap := heap
  slotsUsed := slotsUsed
  threads := #[{ frames := .invoking theMethod args0 :: below }]
def below0 : List Frame := [.native { method := ⟨0, 0⟩, args := #[] }]
def about1 : State := aboutOver below0
def p0 : Program := .bare "" "" ""
def e0 : Env := launch0.env 0 0 0
theorem w_frames : about1.frames = Frame.invoking theMethod args0 :: below0 := rfl
set_option maxRecDepth 65536 in
theorem w_args : argsFit about1.vm theMethod args0 = true := by decide +kernel
set_option maxRecDepth 65536 in
theorem w_heap : heapFits about1 = true := by decide +kernel
set_option maxRecDepth 65536 in
theorem w_runnable : about1.curStatus? = some .runnable := by decide +kernel
set_option maxRecDepth 65536 in
theorem w_alone : about1.alone = true := by decide +kernel
set_option maxRecDepth 65536 in
theorem w_named : about1.methodNamed? x = some theMethod := by decide +kernel
set_option maxRecDepth 65536 in
theorem w_hears : about1.hears theMethod below0 = true := by decide +kernel
set_option maxRecDepth 65536 in
theorem w_ripe : about1.ripe theMethod args0 below0 = true := by decide +kernel
theorem w_running : about1.status = .running := rfl
set_option maxRecDepth 65536 in
theorem w_room : about1.hasRoom e0.platform room_1 = true :=
  launch0.hasRoom_least _ room_1 (by decide +kernel) (by decide +kernel) (by decide +kernel) (by decide +kernel) (by decide +kernel) (by decide +kernel)
theorem allAtoms_all (ts : List Jvm.Cond) (a : Array Jvm.Value) (st : Jvm.State) : (allAtoms ts).before a st = ts.all (fun c => c.before a st) := by
  induction ts with
  | nil => rfl
  | cons c t ih =>
    show (Jvm.Cond.and c (allAtoms t)).before a st = _
    rw [Jvm.Cond.before_and, ih, List.all_cons]
def words1 : List Jvm.Cond := Jvm.Cond.code x code maxLocals ret :: tables_1
/-- a 'code' word, met by the world's own term for the bytes: nothing is compared byte by byte -/
theorem code_word {y : MethodName} {bytes : ByteArray} {mx : Nat} {rt : Option FieldType} {a : Array Value} {s : State} {m : MethodId} {meth : Method} {c : Code} (h1 : s.methodNamed? y = some m) (h2 : s.vm.method? m = some meth) (h3 : meth.code = some c) (h4 : c.code = bytes)
    (h5 : (c.maxLocals == mx && c.exceptionTable.isEmpty && decide (c.maxStack ≤ mostOperands) && decide (meth.sig.returnType = rt) && !meth.locks && decide (parseMethodDescriptor y.desc = some meth.sig)) = true) : (Jvm.Cond.code y bytes mx rt).before a s = true := by
  simp only [Bool.and_eq_true, beq_iff_eq, Bool.not_eq_true', decide_eq_true_eq] at h5
  obtain ⟨⟨⟨⟨⟨g1, g2⟩, g3⟩, g4⟩, g5⟩, g6⟩ := h5
  simp [Cond.before, Cond.holds, Cond.value, h1, h2, h3, h4, g1, g2, g3, g4, g5, g6]
def isCode : Jvm.Cond → Bool
  | .code _ _ _ _ => true
  | _ => false
theorem all_split {L : List Jvm.Cond} {P : Jvm.Cond → Bool} (h1 : L.all (fun c => isCode c || P c) = true) (h2 : ∀ c ∈ L.filter isCode, P c = true) : L.all P = true := by
  refine List.all_eq_true.mpr fun c hc => ?_
  have h := List.all_eq_true.mp h1 c hc
  rcases Bool.eq_false_or_eq_true (isCode c) with hi | hi
  · exact h2 c (List.mem_filter.mpr ⟨hc, hi⟩)
  · simpa [hi] using h
set_option maxRecDepth 65536 in
theorem w_c0 : (Jvm.Cond.code x code maxLocals ret).before args0 about1 = true := code_word (m := ⟨1, 2⟩) (meth := k1m2) (c := k1c2) (by decide +kernel) rfl rfl rfl (by decide +kernel)
set_option maxRecDepth 65536 in
theorem w_c1 : (Jvm.Cond.code ({ cls := "com/example/triarch/triarch/VerdictPossiblePinLaw", name := "pick", desc := "(I)Lcom/example/triarch/triarch/Payments$Verdict;" } : Jvm.MethodName) method_2_code (1 : Nat) (Option.some (Jvm.ClassFile.FieldType.object "com/example/triarch/triarch/Payments$Verdict"))).before args0 about1 = true := code_word (m := ⟨1, 1⟩) (meth := k1m1) (c := k1c1) (by decide +kernel) rfl rfl rfl (by decide +kernel)
set_option maxRecDepth 65536 in
theorem w_c2 : (Jvm.Cond.code ({ cls := "com/example/triarch/triarch/Payments$Verdict", name := "possible", desc := "()Z" } : Jvm.MethodName) prog_49_method_4_code (1 : Nat) (Option.some Jvm.ClassFile.FieldType.boolean)).before args0 about1 = true := code_word (m := ⟨6, 0⟩) (meth := k6m0) (c := k6c0) (by decide +kernel) rfl rfl rfl (by decide +kernel)
def codes1 : List Jvm.Cond := [Jvm.Cond.code x code maxLocals ret, Jvm.Cond.code ({ cls := "com/example/triarch/triarch/VerdictPossiblePinLaw", name := "pick", desc := "(I)Lcom/example/triarch/triarch/Payments$Verdict;" } : Jvm.MethodName) method_2_code (1 : Nat) (Option.some (Jvm.ClassFile.FieldType.object "com/example/triarch/triarch/Payments$Verdict")), Jvm.Cond.code ({ cls := "com/example/triarch/triarch/Payments$Verdict", name := "possible", desc := "()Z" } : Jvm.MethodName) prog_49_method_4_code (1 : Nat) (Option.some Jvm.ClassFile.FieldType.boolean)]
set_option maxRecDepth 65536 in
theorem codes_eq : words1.filter isCode = codes1 := rfl
theorem w_codes : ∀ c ∈ words1.filter isCode, c.before args0 about1 = true := by
  rw [codes_eq]
  intro c hc
  simp only [codes1, List.mem_cons, List.not_mem_nil, or_false] at hc
  rcases hc with rfl | rfl | rfl
  · exact w_c0
  · exact w_c1
  · exact w_c2
set_option maxRecDepth 65536 in
theorem w_t1 : (words1.take 24).all (fun c => isCode c || c.before args0 about1) = true := by decide +kernel
set_option maxRecDepth 65536 in
theorem w_t2 : (words1.drop 24).all (fun c => isCode c || c.before args0 about1) = true := by decide +kernel
theorem w_tables : (allAtoms (Jvm.Cond.code x code maxLocals ret :: tables_1)).before args0 about1 = true := by
  rw [allAtoms_all]
  show words1.all (fun c => c.before args0 about1) = true
  refine all_split ?_ w_codes
  rw [← List.take_append_drop 24 words1, List.all_append, w_t1, w_t2]
  rfl
set_option maxRecDepth 65536 in
theorem w_case : (Jvm.Cond.and given_1 narrow_1).before args0 about1 = true := by decide +kernel
theorem w_applies : (headSpec (Jvm.Cond.code x code maxLocals ret :: tables_1) room_1).applies x e0.platform about1 = true :=
  (Spec.applies_iff w_frames).mpr ⟨w_running, w_runnable, w_alone, w_named, w_hears, w_ripe, w_room, w_tables⟩
theorem atStart : AtStart classFile x code maxLocals ret World_1 tables_1 room_1 Calls_1 rest_1 Pre_1 launch0 p0 e0 about1 theMethod args0 below0 :=
  ⟨lists_1, trivial, launch0.admits_env _ _ _, launch0.least_env, fairChoices_fair.cas, fairChoices_fair.clock, w_frames, w_args, w_heap, w_applies, trivial, trivial, w_case⟩
end start1
theorem witness_1 : WitnessClaimed_1 := ⟨start1.p0, start1.e0, start1.about1, start1.theMethod, start1.args0, start1.below0, start1.atStart⟩
end Jvm.Pilot.@@N@@
