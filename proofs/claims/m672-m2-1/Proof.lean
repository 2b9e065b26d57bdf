import JvmDerived
import JvmDerived.Pilot.@@N@@Statement
import JvmDerived.Pilot.@@N@@Code
set_option linter.unusedVariables false
set_option linter.unusedSimpArgs false
namespace Jvm.Pilot.@@N@@
open Jvm Jvm.ClassFile Sem Op Lib Jvm.Free Jvm.Stand Jvm.LawKit Jvm.RoadKit Bundle Jvm.Pilot.@@N@@.Jvm.D
section Own
variable {p : Program} {l : Launch} {e : Env} {R : Room} {s : State} {m : MethodId} {args : Array Value} {below : List Frame} {meth : Method} {c : Code} {T : State} {locs : List Loc} {cells slots : Nat} {Z : State} {h h' : Heap} {a b : Addr} {ty : FieldType} {vs : List Value} {v : Value} {sl : Nat}
/-- from here the run comes to an end that Q allows -/
def own_fin (p : Program) (e : Env) (below : List Frame) (s : State) (cl sl : Nat) (Q : Option Value → Heap → List Loc → Prop) (S : State) : Prop :=
  ∃ s₂ o, Steps p.tables e below S s₂ ∧ s₂.status = .running ∧ Ended s₂ below o ∧ ∃ v L, o = .returned v ∧ Q v s₂.heap L ∧ FrameEnd s o s₂ L cl sl
theorem own_by {cl sl : Nat} {Q : Option Value → Heap → List Loc → Prop} {S S' : State} (st : ∀ target, Steps p.tables e below S' target → Steps p.tables e below S target) (k : own_fin p e below s cl sl Q S') : own_fin p e below s cl sl Q S := by
  obtain ⟨s2, o, h1, h2⟩ := k
  exact ⟨s2, o, st _ h1, h2⟩
theorem own_tr {cl sl : Nat} {Q : Option Value → Heap → List Loc → Prop} {S S' : State} (st : Steps p.tables e below S S') (k : own_fin p e below s cl sl Q S') : own_fin p e below s cl sl Q S := by
  obtain ⟨s2, o, h1, h2⟩ := k
  exact ⟨s2, o, st.trans h1, h2⟩
theorem own_start {cl sl : Nat} {Q : Option Value → Heap → List Loc → Prop} {s₁ : State} {mx : Nat} {g : JFrame} (q : entryFrame m args mx = g) (k : own_fin p e below s cl sl Q (s₁.setTop g)) :
    ∃ s₂ o, Steps p.tables e below (s₁.setTop (entryFrame m args mx)) s₂ ∧ s₂.status = .running ∧ Ended s₂ below o ∧ ∃ v L, o = .returned v ∧ Q v s₂.heap L ∧ FrameEnd s o s₂ L cl sl := by
  rw [q]; exact k
theorem own_ret (X : Stand p l e R s m args below meth c T locs cells slots) (hx : p.tables.exec = Jvm.exec) {cl sl : Nat} {Q : Option Value → Heap → List Loc → Prop} {pc : Nat} {Ls : Array Slot} {w : Value} {t : FieldType} {i : Instr} {rest : List Value} (hret : meth.sig.returnType = some t) (hn : narrow t w = w)
    (hi : (i = .ireturn ∧ (t = .int ∨ t = .boolean ∨ t = .byte ∨ t = .char ∨ t = .short) ∧ ∃ z, w = .int z) ∨ (i = .lreturn ∧ t = .long ∧ ∃ z, w = .long z) ∨ (i = .dreturn ∧ t = .double ∧ ∃ z, w = .double z) ∨ (i = .freturn ∧ t = .float ∧ ∃ z, w = .float z) ∨ (i = .areturn ∧ t.isReference = true ∧ w.isRef = true))
    (hd : decode c.code pc = .ok (i, 1)) (hlk : meth.locks = false) (hc : cells ≤ cl) (hs : slots ≤ sl) (q : Q (some w) T.heap locs) : own_fin p e below s cl sl Q (T.setTop (mkF m pc Ls (w :: rest))) := by
  obtain ⟨fs, hr, hrun, hended, hW, hsame⟩ := X.leave (v := some w) (fun h => by rw [hret] at h; cases h)
  exact ⟨_, _, retOut X hx hret hn hi hd hr, hrun, hended, _, _, rfl, q, ⟨_, rfl⟩, hW, hsame.mono hc hs⟩
theorem own_ret0 (X : Stand p l e R s m args below meth c T locs cells slots) (hx : p.tables.exec = Jvm.exec) {cl sl : Nat} {Q : Option Value → Heap → List Loc → Prop} {pc : Nat} {Ls : Array Slot} (hret : meth.sig.returnType = none)
    (hd : decode c.code pc = .ok (.return_, 1)) (hlk : meth.locks = false) (hc : cells ≤ cl) (hs : slots ≤ sl) (q : Q none T.heap locs) : own_fin p e below s cl sl Q (T.setTop (mkF m pc Ls [])) := by
  obtain ⟨fs, hr, hrun, hended, hW, hsame⟩ := X.leave (v := none) (fun _ => rfl)
  exact ⟨_, _, X.returnOut hx hret hd hr, hrun, hended, _, _, rfl, q, ⟨_, rfl⟩, hW, hsame.mono hc hs⟩
/-- the array at a holds just these values -/
def OwnA (Z : State) (h : Heap) (a : Addr) (ty : FieldType) (vs : List Value) : Prop := ∃ c : Cell, Arr Z h a c ty ∧ c.slots.toList = vs
theorem OwnA.lt (F : OwnA Z h a ty vs) : a < h.size := by obtain ⟨c, A, -⟩ := F; exact A.lt
theorem OwnA.ext (F : OwnA Z h a ty vs) (E : Ext h h') : OwnA Z h' a ty vs := by obtain ⟨c, A, r⟩ := F; exact ⟨c, A.ext E, r⟩
theorem OwnA.other (F : OwnA Z h a ty vs) (W : Wr h h' b sl v) (q : a ≠ b) : OwnA Z h' a ty vs := by obtain ⟨c, A, r⟩ := F; exact ⟨c, A.other W q, r⟩
theorem OwnA.keep {ws : List Addr} (F : OwnA Z h a ty vs) (K : Keep h h' ws) (q : a ∉ ws) : OwnA Z h' a ty vs := by obtain ⟨c, A, r⟩ := F; exact ⟨c, ⟨K.2.1 a c A.1 q, A.2⟩, r⟩
theorem OwnA.set (F : OwnA Z h a ty vs) (W : Wr h h' a sl v) : OwnA Z h' a ty (vs.set sl v) := by
  obtain ⟨c, A, rfl⟩ := F
  exact ⟨_, A.same W, by simp [Cell.setSlot]⟩
theorem own_new {k : ClassId} {z : Int32} (A : Arr Z h a (newA k ty z) ty) (q : List.replicate z.toNatClampNeg (defaultValue ty) = vs) : OwnA Z h a ty vs := ⟨_, A, by rw [← q]; simp [newA]⟩
theorem own_inb {cl : Cell} {j : Int32} (hj : ¬ j < 0) (hv : cl.slots.toList[j.toNatClampNeg]? = some v) : ¬ (j < 0 ∨ cl.slots.size ≤ j.toNatClampNeg) ∧ cl.slots[j.toNatClampNeg]? = some v := by
  rw [Array.getElem?_toList] at hv
  exact ⟨fun q => q.elim hj fun q => absurd (Array.getElem?_eq_some_iff.mp hv).1 (Nat.not_lt.mpr q), hv⟩
theorem own_len (X : Stand p l e R s m args below meth c T locs cells slots) (hx : p.tables.exec = Jvm.exec) (hZ : Z.Warmed39 s.vm) (eT : T.heap = h) (F : OwnA Z h a ty vs) {z : Int32} (hz : Int32.ofNat vs.length = z) {g : JFrame} (hg : g.method = m) {rest : List Value} (hs : g.stack = .ref a :: rest)
    (hd : decode c.code g.pc = .ok (.arraylength, 1)) (target : State) (k : Steps p.tables e below (T.setTop { g with pc := g.pc + 1, stack := .int z :: rest }) target) : Steps p.tables e below (T.setTop g) target := by
  obtain ⟨cl, A, rfl⟩ := F
  refine X.arraylength hx (cell := cl) (by rw [eT]; exact A.1) (State.isArrayOf_alike hZ.alike A.2.1) hg hs hd _ ?_
  rw [Array.length_toList] at hz
  rw [show cl.slots.size.toInt32 = z from hz]; exact k
theorem own_iaload (X : Stand p l e R s m args below meth c T locs cells slots) (hx : p.tables.exec = Jvm.exec) (hZ : Z.Warmed39 s.vm) (eT : T.heap = h) (F : OwnA Z h a .int vs) {j : Int32} (hj : ¬ j < 0) (hv : vs[j.toNatClampNeg]? = some v) {g : JFrame} (hg : g.method = m) {rest : List Value} (hs : g.stack = .int j :: .ref a :: rest)
    (hd : decode c.code g.pc = .ok (.iaload, 1)) (target : State) (k : Steps p.tables e below (T.setTop { g with pc := g.pc + 1, stack := v :: rest }) target) : Steps p.tables e below (T.setTop g) target := by
  obtain ⟨cl, A, rfl⟩ := F
  exact X.iaload hx (by rw [eT]; exact A.1) (State.isArrayOf_alike hZ.alike A.2.1) A.2.2 (own_inb hj hv).1 (own_inb hj hv).2 hg hs hd _ k
theorem own_laload (X : Stand p l e R s m args below meth c T locs cells slots) (hx : p.tables.exec = Jvm.exec) (hZ : Z.Warmed39 s.vm) (eT : T.heap = h) (F : OwnA Z h a .long vs) {j : Int32} (hj : ¬ j < 0) (hv : vs[j.toNatClampNeg]? = some v) {g : JFrame} (hg : g.method = m) {rest : List Value} (hs : g.stack = .int j :: .ref a :: rest)
    (hd : decode c.code g.pc = .ok (.laload, 1)) (target : State) (k : Steps p.tables e below (T.setTop { g with pc := g.pc + 1, stack := v :: rest }) target) : Steps p.tables e below (T.setTop g) target := by
  obtain ⟨cl, A, rfl⟩ := F
  exact X.laload hx (by rw [eT]; exact A.1) (State.isArrayOf_alike hZ.alike A.2.1) A.2.2 (own_inb hj hv).1 (own_inb hj hv).2 hg hs hd _ k
theorem own_caload (X : Stand p l e R s m args below meth c T locs cells slots) (hx : p.tables.exec = Jvm.exec) (hZ : Z.Warmed39 s.vm) (eT : T.heap = h) (F : OwnA Z h a .char vs) {j : Int32} (hj : ¬ j < 0) (hv : vs[j.toNatClampNeg]? = some v) {g : JFrame} (hg : g.method = m) {rest : List Value} (hs : g.stack = .int j :: .ref a :: rest)
    (hd : decode c.code g.pc = .ok (.caload, 1)) (target : State) (k : Steps p.tables e below (T.setTop { g with pc := g.pc + 1, stack := v :: rest }) target) : Steps p.tables e below (T.setTop g) target := by
  obtain ⟨cl, A, rfl⟩ := F
  exact X.caload hx (by rw [eT]; exact A.1) (State.isArrayOf_alike hZ.alike A.2.1) A.2.2 (own_inb hj hv).1 (own_inb hj hv).2 hg hs hd _ k
theorem own_baload (X : Stand p l e R s m args below meth c T locs cells slots) (hx : p.tables.exec = Jvm.exec) (hZ : Z.Warmed39 s.vm) (eT : T.heap = h) (F : OwnA Z h a .byte vs) {j : Int32} (hj : ¬ j < 0) (hv : vs[j.toNatClampNeg]? = some v) {g : JFrame} (hg : g.method = m) {rest : List Value} (hs : g.stack = .int j :: .ref a :: rest)
    (hd : decode c.code g.pc = .ok (.baload, 1)) (target : State) (k : Steps p.tables e below (T.setTop { g with pc := g.pc + 1, stack := v :: rest }) target) : Steps p.tables e below (T.setTop g) target := by
  obtain ⟨cl, A, rfl⟩ := F
  exact X.baloadBytes hx (by rw [eT]; exact A.1) (State.isArrayOf_alike hZ.alike A.2.1) A.2.2 (own_inb hj hv).1 (own_inb hj hv).2 hg hs hd _ k
theorem own_baloadZ (X : Stand p l e R s m args below meth c T locs cells slots) (hx : p.tables.exec = Jvm.exec) (hZ : Z.Warmed39 s.vm) (eT : T.heap = h) (F : OwnA Z h a .boolean vs) {j : Int32} (hj : ¬ j < 0) (hv : vs[j.toNatClampNeg]? = some v) {g : JFrame} (hg : g.method = m) {rest : List Value} (hs : g.stack = .int j :: .ref a :: rest)
    (hd : decode c.code g.pc = .ok (.baload, 1)) (target : State) (k : Steps p.tables e below (T.setTop { g with pc := g.pc + 1, stack := v :: rest }) target) : Steps p.tables e below (T.setTop g) target := by
  obtain ⟨cl, A, rfl⟩ := F
  exact X.baloadBooleans hx (by rw [eT]; exact A.1) (State.isArrayOf_alike hZ.alike A.2.1) A.2.2 (own_inb hj hv).1 (own_inb hj hv).2 hg hs hd _ k
theorem own_aaload (X : Stand p l e R s m args below meth c T locs cells slots) (hx : p.tables.exec = Jvm.exec) (hZ : Z.Warmed39 s.vm) (eT : T.heap = h) (F : OwnA Z h a ty vs) (hty : ty.isReference = true) {j : Int32} (hj : ¬ j < 0) (hv : vs[j.toNatClampNeg]? = some v) {g : JFrame} (hg : g.method = m) {rest : List Value} (hs : g.stack = .int j :: .ref a :: rest)
    (hd : decode c.code g.pc = .ok (.aaload, 1)) (target : State) (k : Steps p.tables e below (T.setTop { g with pc := g.pc + 1, stack := v :: rest }) target) : Steps p.tables e below (T.setTop g) target := by
  obtain ⟨cl, A, rfl⟩ := F
  exact X.aaload hx (by rw [eT]; exact A.1) (State.isArrayOf_alike hZ.alike A.2.1) hty A.2.2 (own_inb hj hv).1 (own_inb hj hv).2 hg hs hd _ k
theorem own_inl {cl : Cell} {j : Int32} (hj : ¬ j < 0) (hl : j.toNatClampNeg < cl.slots.toList.length) : ¬ (j < 0 ∨ cl.slots.size ≤ j.toNatClampNeg) := by
  rw [Array.length_toList] at hl
  exact fun q => q.elim hj fun q => absurd hl (Nat.not_lt.mpr q)
theorem own_stI (X : Stand p l e R s m args below meth c T locs cells slots) (hx : p.tables.exec = Jvm.exec) (hZ : Z.Warmed39 s.vm) (eT : T.heap = h) (F : OwnA Z h a .int vs) {j x : Int32} (hj : ¬ j < 0) (hl : j.toNatClampNeg < vs.length) {g : JFrame} (hg : g.method = m) {rest : List Value} (hs : g.stack = .int x :: .int j :: .ref a :: rest) (hd : decode c.code g.pc = .ok (.iastore, 1)) :
    ∃ T' h', Stand p l e R s m args below meth c T' (locs ++ [⟨a, j.toNatClampNeg⟩]) cells slots ∧ T'.heap = h' ∧ Wr h h' a j.toNatClampNeg (.int x) ∧ ∀ target, Steps p.tables e below (T'.setTop { g with pc := g.pc + 1, stack := rest }) target → Steps p.tables e below (T.setTop g) target := by
  obtain ⟨cl, A, rfl⟩ := F
  exact stI X hx hZ eT A (own_inl hj hl) hg hs hd
theorem own_stJ (X : Stand p l e R s m args below meth c T locs cells slots) (hx : p.tables.exec = Jvm.exec) (hZ : Z.Warmed39 s.vm) (eT : T.heap = h) (F : OwnA Z h a .long vs) {j : Int32} {x : Int64} (hj : ¬ j < 0) (hl : j.toNatClampNeg < vs.length) {g : JFrame} (hg : g.method = m) {rest : List Value} (hs : g.stack = .long x :: .int j :: .ref a :: rest) (hd : decode c.code g.pc = .ok (.lastore, 1)) :
    ∃ T' h', Stand p l e R s m args below meth c T' (locs ++ [⟨a, j.toNatClampNeg⟩]) cells slots ∧ T'.heap = h' ∧ Wr h h' a j.toNatClampNeg (.long x) ∧ ∀ target, Steps p.tables e below (T'.setTop { g with pc := g.pc + 1, stack := rest }) target → Steps p.tables e below (T.setTop g) target := by
  obtain ⟨cl, A, rfl⟩ := F
  exact stJ X hx hZ eT A (own_inl hj hl) hg hs hd
theorem own_stB (X : Stand p l e R s m args below meth c T locs cells slots) (hx : p.tables.exec = Jvm.exec) (hZ : Z.Warmed39 s.vm) (eT : T.heap = h) (F : OwnA Z h a .byte vs) {j x : Int32} (hj : ¬ j < 0) (hl : j.toNatClampNeg < vs.length) {g : JFrame} (hg : g.method = m) {rest : List Value} (hs : g.stack = .int x :: .int j :: .ref a :: rest) (hd : decode c.code g.pc = .ok (.bastore, 1)) :
    ∃ T' h', Stand p l e R s m args below meth c T' (locs ++ [⟨a, j.toNatClampNeg⟩]) cells slots ∧ T'.heap = h' ∧ Wr h h' a j.toNatClampNeg (.int x.toInt8.toInt32) ∧ ∀ target, Steps p.tables e below (T'.setTop { g with pc := g.pc + 1, stack := rest }) target → Steps p.tables e below (T.setTop g) target := by
  obtain ⟨cl, A, rfl⟩ := F
  exact stB X hx hZ eT A (own_inl hj hl) hg hs hd
theorem own_stC (X : Stand p l e R s m args below meth c T locs cells slots) (hx : p.tables.exec = Jvm.exec) (hZ : Z.Warmed39 s.vm) (eT : T.heap = h) (F : OwnA Z h a .char vs) {j x : Int32} (hj : ¬ j < 0) (hl : j.toNatClampNeg < vs.length) {g : JFrame} (hg : g.method = m) {rest : List Value} (hs : g.stack = .int x :: .int j :: .ref a :: rest) (hd : decode c.code g.pc = .ok (.castore, 1)) :
    ∃ T' h', Stand p l e R s m args below meth c T' (locs ++ [⟨a, j.toNatClampNeg⟩]) cells slots ∧ T'.heap = h' ∧ Wr h h' a j.toNatClampNeg (.int x.toUInt32.toUInt16.toUInt32.toInt32) ∧ ∀ target, Steps p.tables e below (T'.setTop { g with pc := g.pc + 1, stack := rest }) target → Steps p.tables e below (T.setTop g) target := by
  obtain ⟨cl, A, rfl⟩ := F
  exact stC X hx hZ eT A (own_inl hj hl) hg hs hd
end Own
def own_arg (p sel i : Int32) : Int32 := if ((sel.toUInt32 >>> (i &&& 31).toUInt32).toInt32) &&& (1 : Int32) = (0 : Int32) then (if p &&& (255 : Int32) = (10 : Int32) then (if p = (10 : Int32) then p else p ^^^ (1 : Int32)) else p) else (10 : Int32)
def own_inc (x : Int32) : Int64 := if x = (10 : Int32) then (1 : Int64) else (0 : Int64)
theorem own_inc1 {x : Int32} (h : x = (10 : Int32)) : own_inc x = (1 : Int64) := if_pos h
theorem own_inc0 {x : Int32} (h : ¬ x = (10 : Int32)) : own_inc x = (0 : Int64) := if_neg h
theorem d1_0 : decode method_2_code 0 = .ok (.iload_n 1, 1) := by decide +kernel
theorem d1_1 : decode method_2_code 1 = .ok (.iload_n 2, 1) := by decide +kernel
theorem d1_2 : decode method_2_code 2 = .ok (.iushr, 1) := by decide +kernel
theorem d1_3 : decode method_2_code 3 = .ok (.iconst 1, 1) := by decide +kernel
theorem d1_4 : decode method_2_code 4 = .ok (.iand, 1) := by decide +kernel
theorem d1_5 : decode method_2_code 5 = .ok (.ifCond .eq 6, 3) := by decide +kernel
theorem d1_8 : decode method_2_code 8 = .ok (.bipush 10, 2) := by decide +kernel
theorem d1_10 : decode method_2_code 10 = .ok (.ireturn, 1) := by decide +kernel
theorem d1_11 : decode method_2_code 11 = .ok (.iload_n 0, 1) := by decide +kernel
theorem d1_12 : decode method_2_code 12 = .ok (.sipush 255, 3) := by decide +kernel
theorem d1_15 : decode method_2_code 15 = .ok (.iand, 1) := by decide +kernel
theorem d1_16 : decode method_2_code 16 = .ok (.bipush 10, 2) := by decide +kernel
theorem d1_18 : decode method_2_code 18 = .ok (.if_icmp .ne 13, 3) := by decide +kernel
theorem d1_21 : decode method_2_code 21 = .ok (.iload_n 0, 1) := by decide +kernel
theorem d1_22 : decode method_2_code 22 = .ok (.bipush 10, 2) := by decide +kernel
theorem d1_24 : decode method_2_code 24 = .ok (.if_icmp .eq 7, 3) := by decide +kernel
theorem d1_27 : decode method_2_code 27 = .ok (.iload_n 0, 1) := by decide +kernel
theorem d1_28 : decode method_2_code 28 = .ok (.iconst 1, 1) := by decide +kernel
theorem d1_29 : decode method_2_code 29 = .ok (.ixor, 1) := by decide +kernel
theorem d1_30 : decode method_2_code 30 = .ok (.ireturn, 1) := by decide +kernel
theorem d1_31 : decode method_2_code 31 = .ok (.iload_n 0, 1) := by decide +kernel
theorem d1_32 : decode method_2_code 32 = .ok (.ireturn, 1) := by decide +kernel
theorem pn_1 : plainName "com/example/upright_play/uprightplay/LineCounterWritePinLaw" = true := by first | (simp [plainName, overriddenIn]; done) | decide +kernel
theorem ef_rm1 (m : MethodId) (x0 : Int32) (x1 : Int32) (x2 : Int32) : entryFrame m #[(.int x0), (.int x1), (.int x2)] 3 = mkF m 0 #[.val (.int x0), .val (.int x1), .val (.int x2)] [] := by first | (simp [entryFrame, mkF, argsToLocals, Value.category]; done) | rfl
def Q_rm1 (Z : State) (p1 p2 p3 : Int32) (h0 : Heap) (n0 : Nat) (v : Option Value) (h : Heap) (L : List Loc) : Prop := v = some (.int (own_arg p1 p2 p3)) ∧ Fr n0 L ∧ h = h0
set_option maxRecDepth 65536 in
set_option maxHeartbeats 40000000 in
theorem rm1 (l : Launch) (Z : State) (a0 : Array Value) (hw : ∀ d ∈ tables_1, d.before a0 Z = true) (ws : List Jvm.Cond) (p1 p2 p3 : Int32) (h0 : Heap) (n0 : Nat) (Zn : n0 ≤ h0.size) :
    MetFree l (⟨"com/example/upright_play/uprightplay/LineCounterWritePinLaw", "arg", "(III)I"⟩ : MethodName) (head1 (Jvm.Cond.code (⟨"com/example/upright_play/uprightplay/LineCounterWritePinLaw", "arg", "(III)I"⟩ : MethodName) method_2_code 3 (some .int) :: ws) ({ frames := 0, cells := 0, slots := 0, locals := 0 } : Room)) (fun a U => a = #[(.int p1), (.int p2), (.int p3)] ∧ Z.Warmed39 U.vm ∧ U.heap = h0) (fun _ _ _ _ _ => True) (fun _ U o U' => ∃ v L, o = .returned v ∧ (Q_rm1 Z p1 p2 p3 h0 n0) v U'.heap L ∧ FrameEnd U o U' L ({ frames := 0, cells := 0, slots := 0, locals := 0 } : Room).cells ({ frames := 0, cells := 0, slots := 0, locals := 0 } : Room).slots) := by
  refine MetFree.of_bodySF (plainFor_of_name pn_1) hisR ?_
  intro p e s m args below meth c s₁ Bd hml0 hP hK
  obtain ⟨rfl, hZ, hh⟩ := hP
  have hx := Bd.exec
  have hby := Bd.bytes
  have hml : c.maxLocals = 3 := hml0
  have hown : s.vm.findClass "com/example/upright_play/uprightplay/LineCounterWritePinLaw" = some m.cls := findClass_of_methodNamed Bd.named
  have hnm := (name_of_methodNamed Bd.named Bd.method).1
  have hlk : meth.locks = false := BodyLoose.notSynchronized Bd
  have X0 : Stand p l e ({ frames := 0, cells := 0, slots := 0, locals := 0 } : Room) s m #[(.int p1), (.int p2), (.int p3)] below meth c s₁ [] 0 0 := Stand.of_body Bd
  have e0 : s₁.heap = h0 := by rw [← hh, Bd.state]; rfl
  have N := Fr.nil n0
  have K := Keep.refl h0 []
  refine own_start (cl := ({ frames := 0, cells := 0, slots := 0, locals := 0 } : Room).cells) (sl := ({ frames := 0, cells := 0, slots := 0, locals := 0 } : Room).slots) (Q := (Q_rm1 Z p1 p2 p3 h0 n0)) (ef_rm1 m p1 p2 p3) ?_
  refine own_by (S' := (s₁.setTop (mkF m 1 #[.val (.int p1), .val (.int p2), .val (.int p3)] [(.int p2)]))) (fun _ k => XS.iloadN X0.here hx rfl (hb hby d1_0) rfl k) ?_
  refine own_by (S' := (s₁.setTop (mkF m 2 #[.val (.int p1), .val (.int p2), .val (.int p3)] [(.int p3), (.int p2)]))) (fun _ k => XS.iloadN X0.here hx rfl (hb hby d1_1) rfl k) ?_
  refine own_by (S' := (s₁.setTop (mkF m 3 #[.val (.int p1), .val (.int p2), .val (.int p3)] [(.int ((p2.toUInt32 >>> (p3 &&& 31).toUInt32).toInt32))]))) (fun _ k => XS.iushr X0.here hx rfl (hb hby d1_2) rfl k) ?_
  refine own_by (S' := (s₁.setTop (mkF m 4 #[.val (.int p1), .val (.int p2), .val (.int p3)] [(.int (1 : Int32)), (.int ((p2.toUInt32 >>> (p3 &&& 31).toUInt32).toInt32))]))) (fun _ k => XS.iconst X0.here hx rfl (hb hby d1_3) k) ?_
  refine own_by (S' := (s₁.setTop (mkF m 5 #[.val (.int p1), .val (.int p2), .val (.int p3)] [(.int (((p2.toUInt32 >>> (p3 &&& 31).toUInt32).toInt32) &&& (1 : Int32)))]))) (fun _ k => XS.iand X0.here hx rfl (hb hby d1_4) rfl k) ?_
  by_cases hc1 : (((p2.toUInt32 >>> (p3 &&& 31).toUInt32).toInt32) &&& (1 : Int32)) = (0 : Int32)
  · refine own_by (S' := (s₁.setTop (mkF m 11 #[.val (.int p1), .val (.int p2), .val (.int p3)] []))) (fun _ k => XS.ifYes X0.here hx rfl (pc0 := 5) (pc' := 11) rfl (hb hby d1_5) rfl ((if0 _ _).trans (teq (hc1 : (((p2.toUInt32 >>> (p3 &&& 31).toUInt32).toInt32) &&& (1 : Int32)) = (0 : Int32))).1) (by decide) (by decide) k) ?_
    refine own_by (S' := (s₁.setTop (mkF m 12 #[.val (.int p1), .val (.int p2), .val (.int p3)] [(.int p1)]))) (fun _ k => XS.iloadN X0.here hx rfl (hb hby d1_11) rfl k) ?_
    refine own_by (S' := (s₁.setTop (mkF m 15 #[.val (.int p1), .val (.int p2), .val (.int p3)] [(.int (255 : Int32)), (.int p1)]))) (fun _ k => XS.sipush X0.here hx rfl (hb hby d1_12) k) ?_
    refine own_by (S' := (s₁.setTop (mkF m 16 #[.val (.int p1), .val (.int p2), .val (.int p3)] [(.int (p1 &&& (255 : Int32)))]))) (fun _ k => XS.iand X0.here hx rfl (hb hby d1_15) rfl k) ?_
    refine own_by (S' := (s₁.setTop (mkF m 18 #[.val (.int p1), .val (.int p2), .val (.int p3)] [(.int (10 : Int32)), (.int (p1 &&& (255 : Int32)))]))) (fun _ k => XS.bipush X0.here hx rfl (hb hby d1_16) k) ?_
    by_cases hc2 : (p1 &&& (255 : Int32)) = (10 : Int32)
    · refine own_by (S' := (s₁.setTop (mkF m 21 #[.val (.int p1), .val (.int p2), .val (.int p3)] []))) (fun _ k => XS.icmpNo X0.here hx rfl (hb hby d1_18) rfl (teq (hc2 : (p1 &&& (255 : Int32)) = (10 : Int32))).2 k) ?_
      refine own_by (S' := (s₁.setTop (mkF m 22 #[.val (.int p1), .val (.int p2), .val (.int p3)] [(.int p1)]))) (fun _ k => XS.iloadN X0.here hx rfl (hb hby d1_21) rfl k) ?_
      refine own_by (S' := (s₁.setTop (mkF m 24 #[.val (.int p1), .val (.int p2), .val (.int p3)] [(.int (10 : Int32)), (.int p1)]))) (fun _ k => XS.bipush X0.here hx rfl (hb hby d1_22) k) ?_
      by_cases hc3 : p1 = (10 : Int32)
      · refine own_by (S' := (s₁.setTop (mkF m 31 #[.val (.int p1), .val (.int p2), .val (.int p3)] []))) (fun _ k => XS.icmpYes X0.here hx rfl (pc0 := 24) (pc' := 31) rfl (hb hby d1_24) rfl (teq (hc3 : p1 = (10 : Int32))).1 (by decide) (by decide) k) ?_
        refine own_by (S' := (s₁.setTop (mkF m 32 #[.val (.int p1), .val (.int p2), .val (.int p3)] [(.int p1)]))) (fun _ k => XS.iloadN X0.here hx rfl (hb hby d1_31) rfl k) ?_
        exact own_ret X0 hx (t := .int) Bd.returns rfl (Or.inl ⟨rfl, by simp, _, rfl⟩) (hb hby d1_32) hlk (by decide : 0 ≤ _) (by decide : 0 ≤ _) (by rw [e0]; exact ⟨by simp only [own_arg, if_pos hc1, if_pos hc2, if_pos hc3], N, rfl⟩)
      · refine own_by (S' := (s₁.setTop (mkF m 27 #[.val (.int p1), .val (.int p2), .val (.int p3)] []))) (fun _ k => XS.icmpNo X0.here hx rfl (hb hby d1_24) rfl (feq (hc3 : ¬ (p1 = (10 : Int32)))).1 k) ?_
        refine own_by (S' := (s₁.setTop (mkF m 28 #[.val (.int p1), .val (.int p2), .val (.int p3)] [(.int p1)]))) (fun _ k => XS.iloadN X0.here hx rfl (hb hby d1_27) rfl k) ?_
        refine own_by (S' := (s₁.setTop (mkF m 29 #[.val (.int p1), .val (.int p2), .val (.int p3)] [(.int (1 : Int32)), (.int p1)]))) (fun _ k => XS.iconst X0.here hx rfl (hb hby d1_28) k) ?_
        refine own_by (S' := (s₁.setTop (mkF m 30 #[.val (.int p1), .val (.int p2), .val (.int p3)] [(.int (p1 ^^^ (1 : Int32)))]))) (fun _ k => XS.ixor X0.here hx rfl (hb hby d1_29) rfl k) ?_
        exact own_ret X0 hx (t := .int) Bd.returns rfl (Or.inl ⟨rfl, by simp, _, rfl⟩) (hb hby d1_30) hlk (by decide : 0 ≤ _) (by decide : 0 ≤ _) (by rw [e0]; exact ⟨by simp only [own_arg, if_pos hc1, if_pos hc2, if_neg hc3], N, rfl⟩)
    · refine own_by (S' := (s₁.setTop (mkF m 31 #[.val (.int p1), .val (.int p2), .val (.int p3)] []))) (fun _ k => XS.icmpYes X0.here hx rfl (pc0 := 18) (pc' := 31) rfl (hb hby d1_18) rfl (feq (hc2 : ¬ ((p1 &&& (255 : Int32)) = (10 : Int32)))).2 (by decide) (by decide) k) ?_
      refine own_by (S' := (s₁.setTop (mkF m 32 #[.val (.int p1), .val (.int p2), .val (.int p3)] [(.int p1)]))) (fun _ k => XS.iloadN X0.here hx rfl (hb hby d1_31) rfl k) ?_
      exact own_ret X0 hx (t := .int) Bd.returns rfl (Or.inl ⟨rfl, by simp, _, rfl⟩) (hb hby d1_32) hlk (by decide : 0 ≤ _) (by decide : 0 ≤ _) (by rw [e0]; exact ⟨by simp only [own_arg, if_pos hc1, if_neg hc2], N, rfl⟩)
  · refine own_by (S' := (s₁.setTop (mkF m 8 #[.val (.int p1), .val (.int p2), .val (.int p3)] []))) (fun _ k => XS.ifNo X0.here hx rfl (hb hby d1_5) rfl ((if0 _ _).trans (feq (hc1 : ¬ ((((p2.toUInt32 >>> (p3 &&& 31).toUInt32).toInt32) &&& (1 : Int32)) = (0 : Int32)))).1) k) ?_
    refine own_by (S' := (s₁.setTop (mkF m 10 #[.val (.int p1), .val (.int p2), .val (.int p3)] [(.int (10 : Int32))]))) (fun _ k => XS.bipush X0.here hx rfl (hb hby d1_8) k) ?_
    exact own_ret X0 hx (t := .int) Bd.returns rfl (Or.inl ⟨rfl, by simp, _, rfl⟩) (hb hby d1_10) hlk (by decide : 0 ≤ _) (by decide : 0 ≤ _) (by rw [e0]; exact ⟨by simp only [own_arg, if_neg hc1], N, rfl⟩)
theorem d3_0 : decode jdk_2038_method_1_code 0 = .ok (.aload_n 0, 1) := by decide +kernel
theorem d3_1 : decode jdk_2038_method_1_code 1 = .ok (.invokespecial 1, 3) := by decide +kernel
theorem d3_4 : decode jdk_2038_method_1_code 4 = .ok (.return_, 1) := by decide +kernel
theorem pn_3 : plainName "java/io/OutputStream" = true := by first | (simp [plainName, overriddenIn]; done) | decide +kernel
theorem ef_rm3 (m : MethodId) (x0 : Addr) : entryFrame m #[(.ref x0)] 1 = mkF m 0 #[.val (.ref x0)] [] := by first | (simp [entryFrame, mkF, argsToLocals, Value.category]; done) | rfl
def Q_rm3 (Z : State) (a1 : Addr) (h0 : Heap) (n0 : Nat) (v : Option Value) (h : Heap) (L : List Loc) : Prop := v = none ∧ Fr n0 L ∧ h = h0
set_option maxRecDepth 65536 in
set_option maxHeartbeats 40000000 in
theorem rm3 (l : Launch) (Z : State) (a0 : Array Value) (hw : ∀ d ∈ tables_1, d.before a0 Z = true) (ws : List Jvm.Cond) (a1 : Addr) (h0 : Heap) (n0 : Nat) (Zn : n0 ≤ h0.size) :
    MetFree l (⟨"java/io/OutputStream", "<init>", "()V"⟩ : MethodName) (head1 (Jvm.Cond.code (⟨"java/io/OutputStream", "<init>", "()V"⟩ : MethodName) jdk_2038_method_1_code 1 none :: ws) ({ frames := 1, cells := 0, slots := 0, locals := 12 } : Room)) (fun a U => a = #[(.ref a1)] ∧ Z.Warmed39 U.vm ∧ U.heap = h0) (fun _ _ _ _ _ => True) (fun _ U o U' => ∃ v L, o = .returned v ∧ (Q_rm3 Z a1 h0 n0) v U'.heap L ∧ FrameEnd U o U' L ({ frames := 1, cells := 0, slots := 0, locals := 12 } : Room).cells ({ frames := 1, cells := 0, slots := 0, locals := 12 } : Room).slots) := by
  refine MetFree.of_bodySF (plainFor_of_name pn_3) hisR ?_
  intro p e s m args below meth c s₁ Bd hml0 hP hK
  obtain ⟨rfl, hZ, hh⟩ := hP
  have hx := Bd.exec
  have hby := Bd.bytes
  have hml : c.maxLocals = 1 := hml0
  have hown : s.vm.findClass "java/io/OutputStream" = some m.cls := findClass_of_methodNamed Bd.named
  have hnm := (name_of_methodNamed Bd.named Bd.method).1
  have hlk : meth.locks = false := BodyLoose.notSynchronized Bd
  have X0 : Stand p l e ({ frames := 1, cells := 0, slots := 0, locals := 12 } : Room) s m #[(.ref a1)] below meth c s₁ [] 0 0 := Stand.of_body Bd
  have e0 : s₁.heap = h0 := by rw [← hh, Bd.state]; rfl
  have N := Fr.nil n0
  have K := Keep.refl h0 []
  refine own_start (cl := ({ frames := 1, cells := 0, slots := 0, locals := 12 } : Room).cells) (sl := ({ frames := 1, cells := 0, slots := 0, locals := 12 } : Room).slots) (Q := (Q_rm3 Z a1 h0 n0)) (ef_rm3 m a1) ?_
  refine own_by (S' := (s₁.setTop (mkF m 1 #[.val (.ref a1)] [(.ref a1)]))) (fun _ k => XS.aloadN X0.here hx rfl (hb hby d3_0) rfl rfl k) ?_
  obtain ⟨T1, X1, e1, st1⟩ := initO X0 hx hZ hown (hw _ (List.mem_of_getElem? (i := 15) rfl)) (hw _ (List.mem_of_getElem? (i := 16) rfl)) (hw _ (List.mem_of_getElem? (i := 17) rfl)) e0 (g := (mkF m 1 #[.val (.ref a1)] [(.ref a1)])) rfl (by rw [hml]; rfl) rfl (hb hby d3_1) (by decide) (W := 0) (by show 2 * 0 + _ ≤ _; exact Nat.le_of_eq rfl) (by decide)
  refine own_by (S' := (T1.setTop (mkF m 4 #[.val (.ref a1)] []))) st1 ?_
  exact own_ret0 X1 hx Bd.returns (hb hby d3_4) hlk (by decide : 0 ≤ _) (by decide : 0 ≤ _) (by rw [e1]; exact ⟨rfl, N, rfl⟩)
theorem d2_0 : decode prog_1_method_1_code 0 = .ok (.aload_n 0, 1) := by decide +kernel
theorem d2_1 : decode prog_1_method_1_code 1 = .ok (.invokespecial 1, 3) := by decide +kernel
theorem d2_4 : decode prog_1_method_1_code 4 = .ok (.return_, 1) := by decide +kernel
theorem pn_2 : plainName "com/example/upright_play/uprightplay/LineCounter" = true := by first | (simp [plainName, overriddenIn]; done) | decide +kernel
theorem ef_rm2 (m : MethodId) (x0 : Addr) : entryFrame m #[(.ref x0)] 1 = mkF m 0 #[.val (.ref x0)] [] := by first | (simp [entryFrame, mkF, argsToLocals, Value.category]; done) | rfl
def Q_rm2 (Z : State) (a1 : Addr) (h0 : Heap) (n0 : Nat) (v : Option Value) (h : Heap) (L : List Loc) : Prop := v = none ∧ Fr n0 L ∧ h = h0
theorem pd__28_29V : parseMethodDescriptor "()V" = some ⟨[], none⟩ := by decide +kernel
set_option maxRecDepth 65536 in
set_option maxHeartbeats 40000000 in
theorem rm2 (l : Launch) (Z : State) (a0 : Array Value) (hw : ∀ d ∈ tables_1, d.before a0 Z = true) (ws : List Jvm.Cond) (a1 : Addr) (h0 : Heap) (n0 : Nat) (Zn : n0 ≤ h0.size) :
    MetFree l (⟨"com/example/upright_play/uprightplay/LineCounter", "<init>", "()V"⟩ : MethodName) (head1 (Jvm.Cond.code (⟨"com/example/upright_play/uprightplay/LineCounter", "<init>", "()V"⟩ : MethodName) prog_1_method_1_code 1 none :: ws) ({ frames := 2, cells := 0, slots := 0, locals := 24 } : Room)) (fun a U => a = #[(.ref a1)] ∧ Z.Warmed39 U.vm ∧ U.heap = h0) (fun _ _ _ _ _ => True) (fun _ U o U' => ∃ v L, o = .returned v ∧ (Q_rm2 Z a1 h0 n0) v U'.heap L ∧ FrameEnd U o U' L ({ frames := 2, cells := 0, slots := 0, locals := 24 } : Room).cells ({ frames := 2, cells := 0, slots := 0, locals := 24 } : Room).slots) := by
  refine MetFree.of_bodySF (plainFor_of_name pn_2) hisR ?_
  intro p e s m args below meth c s₁ Bd hml0 hP hK
  obtain ⟨rfl, hZ, hh⟩ := hP
  have hx := Bd.exec
  have hby := Bd.bytes
  have hml : c.maxLocals = 1 := hml0
  have hown : s.vm.findClass "com/example/upright_play/uprightplay/LineCounter" = some m.cls := findClass_of_methodNamed Bd.named
  have hnm := (name_of_methodNamed Bd.named Bd.method).1
  have hlk : meth.locks = false := BodyLoose.notSynchronized Bd
  have X0 : Stand p l e ({ frames := 2, cells := 0, slots := 0, locals := 24 } : Room) s m #[(.ref a1)] below meth c s₁ [] 0 0 := Stand.of_body Bd
  have e0 : s₁.heap = h0 := by rw [← hh, Bd.state]; rfl
  have N := Fr.nil n0
  have K := Keep.refl h0 []
  refine own_start (cl := ({ frames := 2, cells := 0, slots := 0, locals := 24 } : Room).cells) (sl := ({ frames := 2, cells := 0, slots := 0, locals := 24 } : Room).slots) (Q := (Q_rm2 Z a1 h0 n0)) (ef_rm2 m a1) ?_
  refine own_by (S' := (s₁.setTop (mkF m 1 #[.val (.ref a1)] [(.ref a1)]))) (fun _ k => XS.aloadN X0.here hx rfl (hb hby d2_0) rfl rfl k) ?_
  obtain ⟨_, _, ⟨T2, L2, k2, n2⟩, -, X2, ⟨Lc2, hQ2, l2, y2, z2⟩, st2⟩ := X0.specialBack hx (y := (⟨"java/io/OutputStream", "<init>", "()V"⟩ : MethodName)) rfl hown (mvT hZ (hw _ (List.mem_of_getElem? (i := 10) rfl))) (mvT hZ (hw _ (List.mem_of_getElem? (i := 11) rfl))) (mvT hZ (hw _ (List.mem_of_getElem? (i := 14) rfl))) (by decide) (backOf (W := 0) (rm3 l Z a0 hw [] a1 h0 n0 Zn) hZ (hw _ (List.mem_of_getElem? (i := 14) rfl)) (hw _ (List.mem_of_getElem? (i := 13) rfl)) (by decide) (by decide)) (g := (mkF m 1 #[.val (.ref a1)] [(.ref a1)])) rfl (by rw [hml]; rfl) (Steps.refl _) (a := a1) (argsL := []) (rest := []) (lenOf pd__28_29V rfl) rfl (by show 2 * 0 + _ ≤ _; exact Nat.le_of_eq rfl) (hb hby d2_1) (fun _ _ => ⟨rfl, e0, (by decide : 0 + 0 ≤ _), (by decide : 0 + 0 ≤ _)⟩)
  dsimp only [Pt.U, Pt.locs, Pt.cells, Pt.slots] at X2 l2 y2 z2 st2 hQ2
  subst l2 y2 z2
  obtain ⟨rfl, N2q, eh⟩ := hQ2
  have N := Fr.app N N2q
  refine own_tr (S' := (T2.setTop (mkF m 4 #[.val (.ref a1)] []))) st2 ?_
  exact own_ret0 X2 hx Bd.returns (hb hby d2_4) hlk (by decide : 0 ≤ _) (by decide : 0 ≤ _) (by rw [eh]; exact ⟨rfl, N, rfl⟩)
theorem d5_0 : decode prog_1_method_4_code 0 = .ok (.aload_n 0, 1) := by decide +kernel
theorem d5_1 : decode prog_1_method_4_code 1 = .ok (.getfield 7, 3) := by decide +kernel
theorem d5_4 : decode prog_1_method_4_code 4 = .ok (.lreturn, 1) := by decide +kernel
theorem pn_5 : plainName "com/example/upright_play/uprightplay/LineCounter" = true := by first | (simp [plainName, overriddenIn]; done) | decide +kernel
theorem ef_rm5 (m : MethodId) (x0 : Addr) : entryFrame m #[(.ref x0)] 1 = mkF m 0 #[.val (.ref x0)] [] := by first | (simp [entryFrame, mkF, argsToLocals, Value.category]; done) | rfl
def Q_rm5 (Z : State) (a1 : Addr) (q2 : Int64) (h0 : Heap) (n0 : Nat) (v : Option Value) (h : Heap) (L : List Loc) : Prop := v = some (.long q2) ∧ Fr n0 L ∧ h = h0
set_option maxRecDepth 65536 in
set_option maxHeartbeats 40000000 in
theorem rm5 (l : Launch) (Z : State) (a0 : Array Value) (hw : ∀ d ∈ tables_1, d.before a0 Z = true) (ws : List Jvm.Cond) (a1 : Addr) (q2 : Int64) (h0 : Heap) (n0 : Nat) (Zn : n0 ≤ h0.size) (F_a1 : Fld Z h0 a1 "com/example/upright_play/uprightplay/LineCounter" "lines" "J" (.long q2)) :
    MetFree l (⟨"com/example/upright_play/uprightplay/LineCounter", "lines", "()J"⟩ : MethodName) (head1 (Jvm.Cond.code (⟨"com/example/upright_play/uprightplay/LineCounter", "lines", "()J"⟩ : MethodName) prog_1_method_4_code 1 (some .long) :: ws) ({ frames := 0, cells := 0, slots := 0, locals := 0 } : Room)) (fun a U => a = #[(.ref a1)] ∧ Z.Warmed39 U.vm ∧ U.heap = h0) (fun _ _ _ _ _ => True) (fun _ U o U' => ∃ v L, o = .returned v ∧ (Q_rm5 Z a1 q2 h0 n0) v U'.heap L ∧ FrameEnd U o U' L ({ frames := 0, cells := 0, slots := 0, locals := 0 } : Room).cells ({ frames := 0, cells := 0, slots := 0, locals := 0 } : Room).slots) := by
  refine MetFree.of_bodySF (plainFor_of_name pn_5) hisR ?_
  intro p e s m args below meth c s₁ Bd hml0 hP hK
  obtain ⟨rfl, hZ, hh⟩ := hP
  have hx := Bd.exec
  have hby := Bd.bytes
  have hml : c.maxLocals = 1 := hml0
  have hown : s.vm.findClass "com/example/upright_play/uprightplay/LineCounter" = some m.cls := findClass_of_methodNamed Bd.named
  have hnm := (name_of_methodNamed Bd.named Bd.method).1
  have hlk : meth.locks = false := BodyLoose.notSynchronized Bd
  have X0 : Stand p l e ({ frames := 0, cells := 0, slots := 0, locals := 0 } : Room) s m #[(.ref a1)] below meth c s₁ [] 0 0 := Stand.of_body Bd
  have e0 : s₁.heap = h0 := by rw [← hh, Bd.state]; rfl
  have N := Fr.nil n0
  have K := Keep.refl h0 []
  refine own_start (cl := ({ frames := 0, cells := 0, slots := 0, locals := 0 } : Room).cells) (sl := ({ frames := 0, cells := 0, slots := 0, locals := 0 } : Room).slots) (Q := (Q_rm5 Z a1 q2 h0 n0)) (ef_rm5 m a1) ?_
  refine own_by (S' := (s₁.setTop (mkF m 1 #[.val (.ref a1)] [(.ref a1)]))) (fun _ k => XS.aloadN X0.here hx rfl (hb hby d5_0) rfl rfl k) ?_
  obtain ⟨T3, X3, e3, st3⟩ := getF X0 hx hZ hown (host := "") (Or.inl (hw _ (List.mem_of_getElem? (i := 23) rfl))) Via.refl e0 F_a1 (g := (mkF m 1 #[.val (.ref a1)] [(.ref a1)])) rfl rfl (hb hby d5_1)
  refine own_by (S' := (T3.setTop (mkF m 4 #[.val (.ref a1)] [(.long q2)]))) st3 ?_
  exact own_ret X3 hx (t := .long) Bd.returns rfl (Or.inr (Or.inl ⟨rfl, rfl, _, rfl⟩)) (hb hby d5_4) hlk (by decide : 0 ≤ _) (by decide : 0 ≤ _) (by rw [e3]; exact ⟨rfl, N, rfl⟩)
theorem d6_0 : decode prog_1_method_2_code 0 = .ok (.iload_n 1, 1) := by decide +kernel
theorem d6_1 : decode prog_1_method_2_code 1 = .ok (.bipush 10, 2) := by decide +kernel
theorem d6_3 : decode prog_1_method_2_code 3 = .ok (.if_icmp .ne 13, 3) := by decide +kernel
theorem d6_6 : decode prog_1_method_2_code 6 = .ok (.aload_n 0, 1) := by decide +kernel
theorem d6_7 : decode prog_1_method_2_code 7 = .ok (.dup, 1) := by decide +kernel
theorem d6_8 : decode prog_1_method_2_code 8 = .ok (.getfield 7, 3) := by decide +kernel
theorem d6_11 : decode prog_1_method_2_code 11 = .ok (.lconst 1, 1) := by decide +kernel
theorem d6_12 : decode prog_1_method_2_code 12 = .ok (.ladd, 1) := by decide +kernel
theorem d6_13 : decode prog_1_method_2_code 13 = .ok (.putfield 7, 3) := by decide +kernel
theorem d6_16 : decode prog_1_method_2_code 16 = .ok (.return_, 1) := by decide +kernel
theorem pn_6 : plainName "com/example/upright_play/uprightplay/LineCounter" = true := by first | (simp [plainName, overriddenIn]; done) | decide +kernel
theorem ef_rm6 (m : MethodId) (x0 : Addr) (x1 : Int32) : entryFrame m #[(.ref x0), (.int x1)] 2 = mkF m 0 #[.val (.ref x0), .val (.int x1)] [] := by first | (simp [entryFrame, mkF, argsToLocals, Value.category]; done) | rfl
def Q_rm6 (Z : State) (a1 : Addr) (p2 : Int32) (q2 : Int64) (h0 : Heap) (n0 : Nat) (v : Option Value) (h : Heap) (L : List Loc) : Prop := v = none ∧ Fr n0 L ∧ Keep h0 h [a1] ∧ Fld Z h a1 "com/example/upright_play/uprightplay/LineCounter" "lines" "J" (.long (q2 + own_inc p2))
set_option maxRecDepth 65536 in
set_option maxHeartbeats 40000000 in
theorem rm6 (l : Launch) (Z : State) (a0 : Array Value) (hw : ∀ d ∈ tables_1, d.before a0 Z = true) (ws : List Jvm.Cond) (a1 : Addr) (p2 : Int32) (q2 : Int64) (h0 : Heap) (n0 : Nat) (Zn : n0 ≤ h0.size) (E_a1 : Exa Z h0 a1 "com/example/upright_play/uprightplay/LineCounter") (F_a1 : Fld Z h0 a1 "com/example/upright_play/uprightplay/LineCounter" "lines" "J" (.long q2)) (o_a1 : n0 ≤ a1) :
    MetFree l (⟨"com/example/upright_play/uprightplay/LineCounter", "write", "(I)V"⟩ : MethodName) (head1 (Jvm.Cond.code (⟨"com/example/upright_play/uprightplay/LineCounter", "write", "(I)V"⟩ : MethodName) prog_1_method_2_code 2 none :: ws) ({ frames := 0, cells := 0, slots := 0, locals := 0 } : Room)) (fun a U => a = #[(.ref a1), (.int p2)] ∧ Z.Warmed39 U.vm ∧ U.heap = h0) (fun _ _ _ _ _ => True) (fun _ U o U' => ∃ v L, o = .returned v ∧ (Q_rm6 Z a1 p2 q2 h0 n0) v U'.heap L ∧ FrameEnd U o U' L ({ frames := 0, cells := 0, slots := 0, locals := 0 } : Room).cells ({ frames := 0, cells := 0, slots := 0, locals := 0 } : Room).slots) := by
  refine MetFree.of_bodySF (plainFor_of_name pn_6) hisR ?_
  intro p e s m args below meth c s₁ Bd hml0 hP hK
  obtain ⟨rfl, hZ, hh⟩ := hP
  have hx := Bd.exec
  have hby := Bd.bytes
  have hml : c.maxLocals = 2 := hml0
  have hown : s.vm.findClass "com/example/upright_play/uprightplay/LineCounter" = some m.cls := findClass_of_methodNamed Bd.named
  have hnm := (name_of_methodNamed Bd.named Bd.method).1
  have hlk : meth.locks = false := BodyLoose.notSynchronized Bd
  have X0 : Stand p l e ({ frames := 0, cells := 0, slots := 0, locals := 0 } : Room) s m #[(.ref a1), (.int p2)] below meth c s₁ [] 0 0 := Stand.of_body Bd
  have e0 : s₁.heap = h0 := by rw [← hh, Bd.state]; rfl
  have N := Fr.nil n0
  have K := Keep.refl h0 [a1]
  refine own_start (cl := ({ frames := 0, cells := 0, slots := 0, locals := 0 } : Room).cells) (sl := ({ frames := 0, cells := 0, slots := 0, locals := 0 } : Room).slots) (Q := (Q_rm6 Z a1 p2 q2 h0 n0)) (ef_rm6 m a1 p2) ?_
  refine own_by (S' := (s₁.setTop (mkF m 1 #[.val (.ref a1), .val (.int p2)] [(.int p2)]))) (fun _ k => XS.iloadN X0.here hx rfl (hb hby d6_0) rfl k) ?_
  refine own_by (S' := (s₁.setTop (mkF m 3 #[.val (.ref a1), .val (.int p2)] [(.int (10 : Int32)), (.int p2)]))) (fun _ k => XS.bipush X0.here hx rfl (hb hby d6_1) k) ?_
  by_cases hc1 : p2 = (10 : Int32)
  · refine own_by (S' := (s₁.setTop (mkF m 6 #[.val (.ref a1), .val (.int p2)] []))) (fun _ k => XS.icmpNo X0.here hx rfl (hb hby d6_3) rfl (teq (hc1 : p2 = (10 : Int32))).2 k) ?_
    refine own_by (S' := (s₁.setTop (mkF m 7 #[.val (.ref a1), .val (.int p2)] [(.ref a1)]))) (fun _ k => XS.aloadN X0.here hx rfl (hb hby d6_6) rfl rfl k) ?_
    refine own_by (S' := (s₁.setTop (mkF m 8 #[.val (.ref a1), .val (.int p2)] [(.ref a1), (.ref a1)]))) (fun _ k => XS.dup X0.here hx rfl (hb hby d6_7) rfl rfl k) ?_
    obtain ⟨T4, X4, e4, st4⟩ := getF X0 hx hZ hown (host := "") (Or.inl (hw _ (List.mem_of_getElem? (i := 23) rfl))) Via.refl e0 F_a1 (g := (mkF m 8 #[.val (.ref a1), .val (.int p2)] [(.ref a1), (.ref a1)])) rfl rfl (hb hby d6_8)
    refine own_by (S' := (T4.setTop (mkF m 11 #[.val (.ref a1), .val (.int p2)] [(.long q2), (.ref a1)]))) st4 ?_
    refine own_by (S' := (T4.setTop (mkF m 12 #[.val (.ref a1), .val (.int p2)] [(.long (1 : Int64)), (.long q2), (.ref a1)]))) (fun _ k => XS.lconst X4.here hx rfl (hb hby d6_11) k) ?_
    refine own_by (S' := (T4.setTop (mkF m 13 #[.val (.ref a1), .val (.int p2)] [(.long (q2 + (1 : Int64))), (.ref a1)]))) (fun _ k => XS.ladd X4.here hx rfl (hb hby d6_12) rfl k) ?_
    obtain ⟨T5, h5, X5, e5, W5, st5⟩ := putF X4 hx hZ hown (host := "") (Or.inl (hw _ (List.mem_of_getElem? (i := 23) rfl))) Via.refl e4 F_a1 E_a1 (Or.inl (hw _ (List.mem_of_getElem? (i := 24) rfl))) (hw _ (List.mem_of_getElem? (i := 5) rfl)) (ty := .long) (by decide) rfl rfl (g := (mkF m 13 #[.val (.ref a1), .val (.int p2)] [(.long (q2 + (1 : Int64))), (.ref a1)])) rfl rfl (hb hby d6_13)
    have N := Fr.snoc X5 N o_a1
    have E_a1 := E_a1.wr W5
    have F_a1 := F_a1.same W5
    have Zn : n0 ≤ _ := Nat.le_trans Zn (Nat.le_of_eq W5.size.symm)
    have K := K.wr W5 (Or.inl (List.mem_of_getElem? (i := 0) rfl))
    refine own_by (S' := (T5.setTop (mkF m 16 #[.val (.ref a1), .val (.int p2)] []))) st5 ?_
    exact own_ret0 X5 hx Bd.returns (hb hby d6_16) hlk (by decide : 0 ≤ _) (by decide : 0 ≤ _) (by rw [e5]; exact ⟨rfl, N, K, by rw [own_inc1 hc1]; exact F_a1⟩)
  · refine own_by (S' := (s₁.setTop (mkF m 16 #[.val (.ref a1), .val (.int p2)] []))) (fun _ k => XS.icmpYes X0.here hx rfl (pc0 := 3) (pc' := 16) rfl (hb hby d6_3) rfl (feq (hc1 : ¬ (p2 = (10 : Int32)))).2 (by decide) (by decide) k) ?_
    exact own_ret0 X0 hx Bd.returns (hb hby d6_16) hlk (by decide : 0 ≤ _) (by decide : 0 ≤ _) (by rw [e0]; exact ⟨rfl, N, K, by rw [own_inc0 hc1, Int64.add_zero]; exact F_a1⟩)
theorem d7_0 : decode method_3_code 0 = .ok (.iload_n 0, 1) := by decide +kernel
theorem d7_1 : decode method_3_code 1 = .ok (.bipush 10, 2) := by decide +kernel
theorem d7_3 : decode method_3_code 3 = .ok (.if_icmp .ne 5, 3) := by decide +kernel
theorem d7_6 : decode method_3_code 6 = .ok (.lconst 1, 1) := by decide +kernel
theorem d7_7 : decode method_3_code 7 = .ok (.lreturn, 1) := by decide +kernel
theorem d7_8 : decode method_3_code 8 = .ok (.lconst 0, 1) := by decide +kernel
theorem d7_9 : decode method_3_code 9 = .ok (.lreturn, 1) := by decide +kernel
theorem pn_7 : plainName "com/example/upright_play/uprightplay/LineCounterWritePinLaw" = true := by first | (simp [plainName, overriddenIn]; done) | decide +kernel
theorem ef_rm7 (m : MethodId) (x0 : Int32) : entryFrame m #[(.int x0)] 1 = mkF m 0 #[.val (.int x0)] [] := by first | (simp [entryFrame, mkF, argsToLocals, Value.category]; done) | rfl
def Q_rm7 (Z : State) (p1 : Int32) (h0 : Heap) (n0 : Nat) (v : Option Value) (h : Heap) (L : List Loc) : Prop := v = some (.long (own_inc p1)) ∧ Fr n0 L ∧ h = h0
set_option maxRecDepth 65536 in
set_option maxHeartbeats 40000000 in
theorem rm7 (l : Launch) (Z : State) (a0 : Array Value) (hw : ∀ d ∈ tables_1, d.before a0 Z = true) (ws : List Jvm.Cond) (p1 : Int32) (h0 : Heap) (n0 : Nat) (Zn : n0 ≤ h0.size) :
    MetFree l (⟨"com/example/upright_play/uprightplay/LineCounterWritePinLaw", "inc", "(I)J"⟩ : MethodName) (head1 (Jvm.Cond.code (⟨"com/example/upright_play/uprightplay/LineCounterWritePinLaw", "inc", "(I)J"⟩ : MethodName) method_3_code 1 (some .long) :: ws) ({ frames := 0, cells := 0, slots := 0, locals := 0 } : Room)) (fun a U => a = #[(.int p1)] ∧ Z.Warmed39 U.vm ∧ U.heap = h0) (fun _ _ _ _ _ => True) (fun _ U o U' => ∃ v L, o = .returned v ∧ (Q_rm7 Z p1 h0 n0) v U'.heap L ∧ FrameEnd U o U' L ({ frames := 0, cells := 0, slots := 0, locals := 0 } : Room).cells ({ frames := 0, cells := 0, slots := 0, locals := 0 } : Room).slots) := by
  refine MetFree.of_bodySF (plainFor_of_name pn_7) hisR ?_
  intro p e s m args below meth c s₁ Bd hml0 hP hK
  obtain ⟨rfl, hZ, hh⟩ := hP
  have hx := Bd.exec
  have hby := Bd.bytes
  have hml : c.maxLocals = 1 := hml0
  have hown : s.vm.findClass "com/example/upright_play/uprightplay/LineCounterWritePinLaw" = some m.cls := findClass_of_methodNamed Bd.named
  have hnm := (name_of_methodNamed Bd.named Bd.method).1
  have hlk : meth.locks = false := BodyLoose.notSynchronized Bd
  have X0 : Stand p l e ({ frames := 0, cells := 0, slots := 0, locals := 0 } : Room) s m #[(.int p1)] below meth c s₁ [] 0 0 := Stand.of_body Bd
  have e0 : s₁.heap = h0 := by rw [← hh, Bd.state]; rfl
  have N := Fr.nil n0
  have K := Keep.refl h0 []
  refine own_start (cl := ({ frames := 0, cells := 0, slots := 0, locals := 0 } : Room).cells) (sl := ({ frames := 0, cells := 0, slots := 0, locals := 0 } : Room).slots) (Q := (Q_rm7 Z p1 h0 n0)) (ef_rm7 m p1) ?_
  refine own_by (S' := (s₁.setTop (mkF m 1 #[.val (.int p1)] [(.int p1)]))) (fun _ k => XS.iloadN X0.here hx rfl (hb hby d7_0) rfl k) ?_
  refine own_by (S' := (s₁.setTop (mkF m 3 #[.val (.int p1)] [(.int (10 : Int32)), (.int p1)]))) (fun _ k => XS.bipush X0.here hx rfl (hb hby d7_1) k) ?_
  by_cases hc1 : p1 = (10 : Int32)
  · refine own_by (S' := (s₁.setTop (mkF m 6 #[.val (.int p1)] []))) (fun _ k => XS.icmpNo X0.here hx rfl (hb hby d7_3) rfl (teq (hc1 : p1 = (10 : Int32))).2 k) ?_
    refine own_by (S' := (s₁.setTop (mkF m 7 #[.val (.int p1)] [(.long (1 : Int64))]))) (fun _ k => XS.lconst X0.here hx rfl (hb hby d7_6) k) ?_
    exact own_ret X0 hx (t := .long) Bd.returns rfl (Or.inr (Or.inl ⟨rfl, rfl, _, rfl⟩)) (hb hby d7_7) hlk (by decide : 0 ≤ _) (by decide : 0 ≤ _) (by rw [e0]; exact ⟨by rw [own_inc1 hc1], N, rfl⟩)
  · refine own_by (S' := (s₁.setTop (mkF m 8 #[.val (.int p1)] []))) (fun _ k => XS.icmpYes X0.here hx rfl (pc0 := 3) (pc' := 8) rfl (hb hby d7_3) rfl (feq (hc1 : ¬ (p1 = (10 : Int32)))).2 (by decide) (by decide) k) ?_
    refine own_by (S' := (s₁.setTop (mkF m 9 #[.val (.int p1)] [(.long (0 : Int64))]))) (fun _ k => XS.lconst X0.here hx rfl (hb hby d7_8) k) ?_
    exact own_ret X0 hx (t := .long) Bd.returns rfl (Or.inr (Or.inl ⟨rfl, rfl, _, rfl⟩)) (hb hby d7_9) hlk (by decide : 0 ≤ _) (by decide : 0 ≤ _) (by rw [e0]; exact ⟨by rw [own_inc0 hc1], N, rfl⟩)
theorem pn_0 : plainName "com/example/upright_play/uprightplay/LineCounterWritePinLaw" = true := by first | (simp [plainName, overriddenIn]; done) | decide +kernel
theorem ef_rm0 (m : MethodId) (x0 : Int32) (x1 : Int32) (x2 : Int32) (x3 : Int32) : entryFrame m #[(.int x0), (.int x1), (.int x2), (.int x3)] maxLocals = mkF m 0 #[.val (.int x0), .val (.int x1), .val (.int x2), .val (.int x3), .unset, .unset, .unset, .unset, .unset, .unset, .unset] [] := by first | (simp [entryFrame, mkF, argsToLocals, Value.category, maxLocals]; done) | rfl
def Q_rm0 (Z : State) (p1 p2 p3 p4 : Int32) (h0 : Heap) (n0 : Nat) (v : Option Value) (h : Heap) (L : List Loc) : Prop := v = some (.int (1 : Int32)) ∧ Fr n0 L
theorem pd__28III_29I : parseMethodDescriptor "(III)I" = some ⟨[.int, .int, .int], some .int⟩ := by decide +kernel
theorem pd__28_29J : parseMethodDescriptor "()J" = some ⟨[], some .long⟩ := by decide +kernel
theorem pd__28I_29V : parseMethodDescriptor "(I)V" = some ⟨[.int], none⟩ := by decide +kernel
theorem pd__28I_29J : parseMethodDescriptor "(I)J" = some ⟨[.int], some .long⟩ := by decide +kernel
set_option maxRecDepth 65536 in
set_option maxHeartbeats 40000000 in
theorem rm0 (l : Launch) (Z : State) (a0 : Array Value) (hw : ∀ d ∈ tables_1, d.before a0 Z = true) (ws : List Jvm.Cond) (p1 p2 p3 p4 : Int32) (h0 : Heap) (n0 : Nat) (Zn : n0 ≤ h0.size) :
    MetFree l x (head1 (Jvm.Cond.code x code maxLocals ret :: ws) room_1) (fun a U => a = #[(.int p1), (.int p2), (.int p3), (.int p4)] ∧ Z.Warmed39 U.vm ∧ U.heap = h0) (fun _ _ _ _ _ => True) (fun _ U o U' => ∃ v L, o = .returned v ∧ (Q_rm0 Z p1 p2 p3 p4 h0 n0) v U'.heap L ∧ FrameEnd U o U' L room_1.cells room_1.slots) := by
  refine MetFree.of_bodySF (plainFor_of_name pn_0) hisR ?_
  intro p e s m args below meth c s₁ Bd hml0 hP hK
  obtain ⟨rfl, hZ, hh⟩ := hP
  have hx := Bd.exec
  have hby := Bd.bytes
  have hml : c.maxLocals = 11 := hml0
  have hown : s.vm.findClass "com/example/upright_play/uprightplay/LineCounterWritePinLaw" = some m.cls := findClass_of_methodNamed Bd.named
  have hnm := (name_of_methodNamed Bd.named Bd.method).1
  have hlk : meth.locks = false := BodyLoose.notSynchronized Bd
  have X0 : Stand p l e room_1 s m #[(.int p1), (.int p2), (.int p3), (.int p4)] below meth c s₁ [] 0 0 := Stand.of_body Bd
  have e0 : s₁.heap = h0 := by rw [← hh, Bd.state]; rfl
  have N := Fr.nil n0
  have K := Keep.refl h0 []
  refine own_start (cl := room_1.cells) (sl := room_1.slots) (Q := (Q_rm0 Z p1 p2 p3 p4 h0 n0)) (ef_rm0 m p1 p2 p3 p4) ?_
  refine own_by (S' := (s₁.setTop (mkF m 1 #[.val (.int p1), .val (.int p2), .val (.int p3), .val (.int p4), .unset, .unset, .unset, .unset, .unset, .unset, .unset] [(.int p1)]))) (fun _ k => XS.iloadN X0.here hx rfl (hb hby at_0) rfl k) ?_
  refine own_by (S' := (s₁.setTop (mkF m 2 #[.val (.int p1), .val (.int p2), .val (.int p3), .val (.int p4), .unset, .unset, .unset, .unset, .unset, .unset, .unset] [(.int p4), (.int p1)]))) (fun _ k => XS.iloadN X0.here hx rfl (hb hby at_1) rfl k) ?_
  refine own_by (S' := (s₁.setTop (mkF m 3 #[.val (.int p1), .val (.int p2), .val (.int p3), .val (.int p4), .unset, .unset, .unset, .unset, .unset, .unset, .unset] [(.int (0 : Int32)), (.int p4), (.int p1)]))) (fun _ k => XS.iconst X0.here hx rfl (hb hby at_2) k) ?_
  obtain ⟨_, _, ⟨T6, L6, k6, n6⟩, -, X6, ⟨Lc6, hQ6, l6, y6, z6⟩, st6⟩ := Jvm.LawKit.callS X0 hx (y := (⟨"com/example/upright_play/uprightplay/LineCounterWritePinLaw", "arg", "(III)I"⟩ : MethodName)) hown (mvT hZ (hw _ (List.mem_of_getElem? (i := 0) rfl))) (mvT hZ (hw _ (List.mem_of_getElem? (i := 1) rfl))) (mvT hZ (hw _ (List.mem_of_getElem? (i := 2) rfl))) (mvT hZ (hw _ (List.mem_of_getElem? (i := 3) rfl))) (by decide) (backOf (W := 0) (rm1 l Z a0 hw [] p1 p4 (0 : Int32) h0 n0 Zn) hZ (hw _ (List.mem_of_getElem? (i := 3) rfl)) (hw _ (List.mem_of_getElem? (i := 2) rfl)) (by decide) (by decide)) (g := (mkF m 3 #[.val (.int p1), .val (.int p2), .val (.int p3), .val (.int p4), .unset, .unset, .unset, .unset, .unset, .unset, .unset] [(.int (0 : Int32)), (.int p4), (.int p1)])) rfl (by rw [hml]; rfl) (argsL := [(.int p1), (.int p4), (.int (0 : Int32))]) (rest := []) (lenOf pd__28III_29I rfl) rfl (by show 2 * 0 + _ ≤ _; exact Nat.le_of_eq rfl) (hb hby at_3) (fun _ _ => ⟨rfl, e0, (by decide : 0 + 0 ≤ _), (by decide : 0 + 0 ≤ _)⟩)
  dsimp only [Pt.U, Pt.locs, Pt.cells, Pt.slots] at X6 l6 y6 z6 st6 hQ6
  subst l6 y6 z6
  obtain ⟨rfl, N6q, eh0⟩ := hQ6
  have N := Fr.app N N6q
  refine own_by (S' := (T6.setTop (mkF m 6 #[.val (.int p1), .val (.int p2), .val (.int p3), .val (.int p4), .unset, .unset, .unset, .unset, .unset, .unset, .unset] [(.int (own_arg p1 p4 (0 : Int32)))]))) st6 ?_
  generalize (own_arg p1 p4 (0 : Int32)) = x0
  refine own_by (S' := (T6.setTop (mkF m 8 #[.val (.int p1), .val (.int p2), .val (.int p3), .val (.int p4), .val (.int x0), .unset, .unset, .unset, .unset, .unset, .unset] []))) (fun _ k => XS.istore X6.here hx rfl (hb hby at_6) rfl (l' := #[.val (.int p1), .val (.int p2), .val (.int p3), .val (.int p4), .val (.int x0), .unset, .unset, .unset, .unset, .unset, .unset]) rfl k) ?_
  refine own_by (S' := (T6.setTop (mkF m 9 #[.val (.int p1), .val (.int p2), .val (.int p3), .val (.int p4), .val (.int x0), .unset, .unset, .unset, .unset, .unset, .unset] [(.int p2)]))) (fun _ k => XS.iloadN X6.here hx rfl (hb hby at_8) rfl k) ?_
  refine own_by (S' := (T6.setTop (mkF m 10 #[.val (.int p1), .val (.int p2), .val (.int p3), .val (.int p4), .val (.int x0), .unset, .unset, .unset, .unset, .unset, .unset] [(.int p4), (.int p2)]))) (fun _ k => XS.iloadN X6.here hx rfl (hb hby at_9) rfl k) ?_
  refine own_by (S' := (T6.setTop (mkF m 11 #[.val (.int p1), .val (.int p2), .val (.int p3), .val (.int p4), .val (.int x0), .unset, .unset, .unset, .unset, .unset, .unset] [(.int (1 : Int32)), (.int p4), (.int p2)]))) (fun _ k => XS.iconst X6.here hx rfl (hb hby at_10) k) ?_
  obtain ⟨_, _, ⟨T7, L7, k7, n7⟩, -, X7, ⟨Lc7, hQ7, l7, y7, z7⟩, st7⟩ := Jvm.LawKit.callS X6 hx (y := (⟨"com/example/upright_play/uprightplay/LineCounterWritePinLaw", "arg", "(III)I"⟩ : MethodName)) hown (mvT hZ (hw _ (List.mem_of_getElem? (i := 0) rfl))) (mvT hZ (hw _ (List.mem_of_getElem? (i := 1) rfl))) (mvT hZ (hw _ (List.mem_of_getElem? (i := 2) rfl))) (mvT hZ (hw _ (List.mem_of_getElem? (i := 3) rfl))) (by decide) (backOf (W := 0) (rm1 l Z a0 hw [] p2 p4 (1 : Int32) h0 n0 Zn) hZ (hw _ (List.mem_of_getElem? (i := 3) rfl)) (hw _ (List.mem_of_getElem? (i := 2) rfl)) (by decide) (by decide)) (g := (mkF m 11 #[.val (.int p1), .val (.int p2), .val (.int p3), .val (.int p4), .val (.int x0), .unset, .unset, .unset, .unset, .unset, .unset] [(.int (1 : Int32)), (.int p4), (.int p2)])) rfl (by rw [hml]; rfl) (argsL := [(.int p2), (.int p4), (.int (1 : Int32))]) (rest := []) (lenOf pd__28III_29I rfl) rfl (by show 2 * 0 + _ ≤ _; exact Nat.le_of_eq rfl) (hb hby at_11) (fun _ _ => ⟨rfl, eh0, (by decide : 0 + 0 ≤ _), (by decide : 0 + 0 ≤ _)⟩)
  dsimp only [Pt.U, Pt.locs, Pt.cells, Pt.slots] at X7 l7 y7 z7 st7 hQ7
  subst l7 y7 z7
  obtain ⟨rfl, N7q, eh1⟩ := hQ7
  have N := Fr.app N N7q
  refine own_by (S' := (T7.setTop (mkF m 14 #[.val (.int p1), .val (.int p2), .val (.int p3), .val (.int p4), .val (.int x0), .unset, .unset, .unset, .unset, .unset, .unset] [(.int (own_arg p2 p4 (1 : Int32)))]))) st7 ?_
  generalize (own_arg p2 p4 (1 : Int32)) = x1
  refine own_by (S' := (T7.setTop (mkF m 16 #[.val (.int p1), .val (.int p2), .val (.int p3), .val (.int p4), .val (.int x0), .val (.int x1), .unset, .unset, .unset, .unset, .unset] []))) (fun _ k => XS.istore X7.here hx rfl (hb hby at_14) rfl (l' := #[.val (.int p1), .val (.int p2), .val (.int p3), .val (.int p4), .val (.int x0), .val (.int x1), .unset, .unset, .unset, .unset, .unset]) rfl k) ?_
  refine own_by (S' := (T7.setTop (mkF m 17 #[.val (.int p1), .val (.int p2), .val (.int p3), .val (.int p4), .val (.int x0), .val (.int x1), .unset, .unset, .unset, .unset, .unset] [(.int p3)]))) (fun _ k => XS.iloadN X7.here hx rfl (hb hby at_16) rfl k) ?_
  refine own_by (S' := (T7.setTop (mkF m 18 #[.val (.int p1), .val (.int p2), .val (.int p3), .val (.int p4), .val (.int x0), .val (.int x1), .unset, .unset, .unset, .unset, .unset] [(.int p4), (.int p3)]))) (fun _ k => XS.iloadN X7.here hx rfl (hb hby at_17) rfl k) ?_
  refine own_by (S' := (T7.setTop (mkF m 19 #[.val (.int p1), .val (.int p2), .val (.int p3), .val (.int p4), .val (.int x0), .val (.int x1), .unset, .unset, .unset, .unset, .unset] [(.int (2 : Int32)), (.int p4), (.int p3)]))) (fun _ k => XS.iconst X7.here hx rfl (hb hby at_18) k) ?_
  obtain ⟨_, _, ⟨T8, L8, k8, n8⟩, -, X8, ⟨Lc8, hQ8, l8, y8, z8⟩, st8⟩ := Jvm.LawKit.callS X7 hx (y := (⟨"com/example/upright_play/uprightplay/LineCounterWritePinLaw", "arg", "(III)I"⟩ : MethodName)) hown (mvT hZ (hw _ (List.mem_of_getElem? (i := 0) rfl))) (mvT hZ (hw _ (List.mem_of_getElem? (i := 1) rfl))) (mvT hZ (hw _ (List.mem_of_getElem? (i := 2) rfl))) (mvT hZ (hw _ (List.mem_of_getElem? (i := 3) rfl))) (by decide) (backOf (W := 0) (rm1 l Z a0 hw [] p3 p4 (2 : Int32) h0 n0 Zn) hZ (hw _ (List.mem_of_getElem? (i := 3) rfl)) (hw _ (List.mem_of_getElem? (i := 2) rfl)) (by decide) (by decide)) (g := (mkF m 19 #[.val (.int p1), .val (.int p2), .val (.int p3), .val (.int p4), .val (.int x0), .val (.int x1), .unset, .unset, .unset, .unset, .unset] [(.int (2 : Int32)), (.int p4), (.int p3)])) rfl (by rw [hml]; rfl) (argsL := [(.int p3), (.int p4), (.int (2 : Int32))]) (rest := []) (lenOf pd__28III_29I rfl) rfl (by show 2 * 0 + _ ≤ _; exact Nat.le_of_eq rfl) (hb hby at_19) (fun _ _ => ⟨rfl, eh1, (by decide : 0 + 0 ≤ _), (by decide : 0 + 0 ≤ _)⟩)
  dsimp only [Pt.U, Pt.locs, Pt.cells, Pt.slots] at X8 l8 y8 z8 st8 hQ8
  subst l8 y8 z8
  obtain ⟨rfl, N8q, eh2⟩ := hQ8
  have N := Fr.app N N8q
  refine own_by (S' := (T8.setTop (mkF m 22 #[.val (.int p1), .val (.int p2), .val (.int p3), .val (.int p4), .val (.int x0), .val (.int x1), .unset, .unset, .unset, .unset, .unset] [(.int (own_arg p3 p4 (2 : Int32)))]))) st8 ?_
  generalize (own_arg p3 p4 (2 : Int32)) = x2
  refine own_by (S' := (T8.setTop (mkF m 24 #[.val (.int p1), .val (.int p2), .val (.int p3), .val (.int p4), .val (.int x0), .val (.int x1), .val (.int x2), .unset, .unset, .unset, .unset] []))) (fun _ k => XS.istore X8.here hx rfl (hb hby at_22) rfl (l' := #[.val (.int p1), .val (.int p2), .val (.int p3), .val (.int p4), .val (.int x0), .val (.int x1), .val (.int x2), .unset, .unset, .unset, .unset]) rfl k) ?_
  obtain ⟨T9, h9, X9, e9, E9, A9, D9, -, st9⟩ := newO X8 hx hZ hown (hw _ (List.mem_of_getElem? (i := 4) rfl)) (hw _ (List.mem_of_getElem? (i := 5) rfl)) (hw _ (List.mem_of_getElem? (i := 6) rfl)) eh2 (g := (mkF m 24 #[.val (.int p1), .val (.int p2), .val (.int p3), .val (.int p4), .val (.int x0), .val (.int x1), .val (.int x2), .unset, .unset, .unset, .unset] [])) rfl (hb hby at_24) (by decide : 0 + 1 ≤ _) (by decide : 0 + 1 ≤ _)
  obtain ⟨b9, g9⟩ : ∃ z, z = h0.size := ⟨_, rfl⟩
  rw [← g9] at A9 D9 st9
  have o9 : n0 ≤ b9 := Nat.le_trans Zn (Nat.le_of_eq g9.symm)
  have z9 : h0.size ≤ b9 := Nat.le_trans K.1 (Nat.le_of_eq g9.symm)
  have Zn := Nat.le_trans Zn E9.1
  have K := K.ext E9
  have E_b9 := A9
  have F_b9_lines : Fld Z h9 b9 "com/example/upright_play/uprightplay/LineCounter" "lines" "J" (.long (0 : Int64)) := D9 (Or.inl (hw _ (List.mem_of_getElem? (i := 24) rfl))) (ty := .long) (by decide)
  refine own_by (S' := (T9.setTop (mkF m 27 #[.val (.int p1), .val (.int p2), .val (.int p3), .val (.int p4), .val (.int x0), .val (.int x1), .val (.int x2), .unset, .unset, .unset, .unset] [(.ref b9)]))) st9 ?_
  refine own_by (S' := (T9.setTop (mkF m 28 #[.val (.int p1), .val (.int p2), .val (.int p3), .val (.int p4), .val (.int x0), .val (.int x1), .val (.int x2), .unset, .unset, .unset, .unset] [(.ref b9), (.ref b9)]))) (fun _ k => XS.dup X9.here hx rfl (hb hby at_27) rfl rfl k) ?_
  obtain ⟨_, _, ⟨T10, L10, k10, n10⟩, -, X10, ⟨Lc10, hQ10, l10, y10, z10⟩, st10⟩ := X9.specialBack hx (y := (⟨"com/example/upright_play/uprightplay/LineCounter", "<init>", "()V"⟩ : MethodName)) rfl hown (mvT hZ (hw _ (List.mem_of_getElem? (i := 7) rfl))) (mvT hZ (hw _ (List.mem_of_getElem? (i := 8) rfl))) (mvT hZ (hw _ (List.mem_of_getElem? (i := 9) rfl))) (by decide) (backOf (W := 1) (rm2 l Z a0 hw [] b9 h9 n0 Zn) hZ (hw _ (List.mem_of_getElem? (i := 9) rfl)) (hw _ (List.mem_of_getElem? (i := 6) rfl)) (by decide) (by decide)) (g := (mkF m 28 #[.val (.int p1), .val (.int p2), .val (.int p3), .val (.int p4), .val (.int x0), .val (.int x1), .val (.int x2), .unset, .unset, .unset, .unset] [(.ref b9), (.ref b9)])) rfl (by rw [hml]; rfl) (Steps.refl _) (a := b9) (argsL := []) (rest := [(.ref b9)]) (lenOf pd__28_29V rfl) rfl (by show 2 * 0 + _ ≤ _; exact Nat.le_of_eq rfl) (hb hby at_28) (fun _ _ => ⟨rfl, e9, (by decide : 1 + 0 ≤ _), (by decide : 1 + 0 ≤ _)⟩)
  dsimp only [Pt.U, Pt.locs, Pt.cells, Pt.slots] at X10 l10 y10 z10 st10 hQ10
  subst l10 y10 z10
  obtain ⟨rfl, N10q, ehn⟩ := hQ10
  have N := Fr.app N N10q
  refine own_tr (S' := (T10.setTop (mkF m 31 #[.val (.int p1), .val (.int p2), .val (.int p3), .val (.int p4), .val (.int x0), .val (.int x1), .val (.int x2), .unset, .unset, .unset, .unset] [(.ref b9)]))) st10 ?_
  refine own_by (S' := (T10.setTop (mkF m 33 #[.val (.int p1), .val (.int p2), .val (.int p3), .val (.int p4), .val (.int x0), .val (.int x1), .val (.int x2), .val (.ref b9), .unset, .unset, .unset] []))) (fun _ k => XS.astore X10.here hx rfl (hb hby at_31) rfl rfl (l' := #[.val (.int p1), .val (.int p2), .val (.int p3), .val (.int p4), .val (.int x0), .val (.int x1), .val (.int x2), .val (.ref b9), .unset, .unset, .unset]) rfl k) ?_
  refine own_by (S' := (T10.setTop (mkF m 35 #[.val (.int p1), .val (.int p2), .val (.int p3), .val (.int p4), .val (.int x0), .val (.int x1), .val (.int x2), .val (.ref b9), .unset, .unset, .unset] [(.ref b9)]))) (fun _ k => XS.aload X10.here hx rfl (hb hby at_33) rfl rfl k) ?_
  obtain ⟨cq12, kq12, q12a, q12b, q12c⟩ := isOf hZ ehn E_b9
  obtain ⟨_, _, ⟨T12, L12, k12, n12⟩, -, X12, ⟨Lc12, hQ12, l12, y12, z12⟩, st12⟩ := X10.virtualBack hx (y := (⟨"com/example/upright_play/uprightplay/LineCounter", "lines", "()J"⟩ : MethodName)) (z := (⟨"com/example/upright_play/uprightplay/LineCounter", "lines", "()J"⟩ : MethodName)) hown (mvT hZ (hw _ (List.mem_of_getElem? (i := 18) rfl))) (mvT hZ (hw _ (List.mem_of_getElem? (i := 19) rfl))) (notFace_of_selects (args := #[]) (mvT hZ (hw _ (List.mem_of_getElem? (i := 21) rfl)))) (mvT hZ (hw _ (List.mem_of_getElem? (i := 21) rfl))) (mvT hZ (hw _ (List.mem_of_getElem? (i := 20) rfl))) (by decide) (backOf (W := 0) (rm5 l Z a0 hw [] b9 (0 : Int64) h9 n0 Zn F_b9_lines) hZ (hw _ (List.mem_of_getElem? (i := 22) rfl)) (hw _ (List.mem_of_getElem? (i := 6) rfl)) (by decide) (by decide)) q12a q12c (g := (mkF m 35 #[.val (.int p1), .val (.int p2), .val (.int p3), .val (.int p4), .val (.int x0), .val (.int x1), .val (.int x2), .val (.ref b9), .unset, .unset, .unset] [(.ref b9)])) rfl (by rw [hml]; rfl) (Steps.refl _) (argsL := []) (rest := []) (lenOf pd__28_29J rfl) rfl (by show 2 * 0 + _ ≤ _; exact Nat.le_of_eq rfl) (hb hby at_35) (fun _ _ => ⟨rfl, ehn, (by decide : 1 + 0 ≤ _), (by decide : 1 + 0 ≤ _)⟩)
  dsimp only [Pt.U, Pt.locs, Pt.cells, Pt.slots] at X12 l12 y12 z12 st12 hQ12
  subst l12 y12 z12
  obtain ⟨rfl, N12q, eh11⟩ := hQ12
  have N := Fr.app N N12q
  refine own_tr (S' := (T12.setTop (mkF m 38 #[.val (.int p1), .val (.int p2), .val (.int p3), .val (.int p4), .val (.int x0), .val (.int x1), .val (.int x2), .val (.ref b9), .unset, .unset, .unset] [(.long (0 : Int64))]))) st12 ?_
  refine own_by (S' := (T12.setTop (mkF m 39 #[.val (.int p1), .val (.int p2), .val (.int p3), .val (.int p4), .val (.int x0), .val (.int x1), .val (.int x2), .val (.ref b9), .unset, .unset, .unset] [(.long (0 : Int64)), (.long (0 : Int64))]))) (fun _ k => XS.lconst X12.here hx rfl (hb hby at_38) k) ?_
  refine own_by (S' := (T12.setTop (mkF m 40 #[.val (.int p1), .val (.int p2), .val (.int p3), .val (.int p4), .val (.int x0), .val (.int x1), .val (.int x2), .val (.ref b9), .unset, .unset, .unset] [(.int (lcmpW (0 : Int64) (0 : Int64)))]))) (fun _ k => XS.lcmp X12.here hx rfl (hb hby at_39) rfl k) ?_
  refine own_by (S' := (T12.setTop (mkF m 43 #[.val (.int p1), .val (.int p2), .val (.int p3), .val (.int p4), .val (.int x0), .val (.int x1), .val (.int x2), .val (.ref b9), .unset, .unset, .unset] []))) (fun _ k => XS.ifNo X12.here hx rfl (hb hby at_40) rfl ((if0 _ _).trans (teq (((lw_eq _ _).mpr rfl) : (lcmpW (0 : Int64) (0 : Int64)) = (0 : Int32))).2) k) ?_
  refine own_by (S' := (T12.setTop (mkF m 44 #[.val (.int p1), .val (.int p2), .val (.int p3), .val (.int p4), .val (.int x0), .val (.int x1), .val (.int x2), .val (.ref b9), .unset, .unset, .unset] [(.int (1 : Int32))]))) (fun _ k => XS.iconst X12.here hx rfl (hb hby at_43) k) ?_
  refine own_by (S' := (T12.setTop (mkF m 48 #[.val (.int p1), .val (.int p2), .val (.int p3), .val (.int p4), .val (.int x0), .val (.int x1), .val (.int x2), .val (.ref b9), .unset, .unset, .unset] [(.int (1 : Int32))]))) (fun _ k => XS.goto X12.here hx rfl (pc0 := 44) (pc' := 48) rfl (hb hby at_44) (by decide) (by decide) k) ?_
  refine own_by (S' := (T12.setTop (mkF m 50 #[.val (.int p1), .val (.int p2), .val (.int p3), .val (.int p4), .val (.int x0), .val (.int x1), .val (.int x2), .val (.ref b9), .val (.int (1 : Int32)), .unset, .unset] []))) (fun _ k => XS.istore X12.here hx rfl (hb hby at_48) rfl (l' := #[.val (.int p1), .val (.int p2), .val (.int p3), .val (.int p4), .val (.int x0), .val (.int x1), .val (.int x2), .val (.ref b9), .val (.int (1 : Int32)), .unset, .unset]) rfl k) ?_
  refine own_by (S' := (T12.setTop (mkF m 51 #[.val (.int p1), .val (.int p2), .val (.int p3), .val (.int p4), .val (.int x0), .val (.int x1), .val (.int x2), .val (.ref b9), .val (.int (1 : Int32)), .unset, .unset] [(.long (0 : Int64))]))) (fun _ k => XS.lconst X12.here hx rfl (hb hby at_50) k) ?_
  refine own_by (S' := (T12.setTop (mkF m 53 #[.val (.int p1), .val (.int p2), .val (.int p3), .val (.int p4), .val (.int x0), .val (.int x1), .val (.int x2), .val (.ref b9), .val (.int (1 : Int32)), .val (.long (0 : Int64)), .second] []))) (fun _ k => XS.lstore X12.here hx rfl (hb hby at_51) rfl (l' := #[.val (.int p1), .val (.int p2), .val (.int p3), .val (.int p4), .val (.int x0), .val (.int x1), .val (.int x2), .val (.ref b9), .val (.int (1 : Int32)), .val (.long (0 : Int64)), .second]) rfl k) ?_
  refine own_by (S' := (T12.setTop (mkF m 55 #[.val (.int p1), .val (.int p2), .val (.int p3), .val (.int p4), .val (.int x0), .val (.int x1), .val (.int x2), .val (.ref b9), .val (.int (1 : Int32)), .val (.long (0 : Int64)), .second] [(.ref b9)]))) (fun _ k => XS.aload X12.here hx rfl (hb hby at_53) rfl rfl k) ?_
  refine own_by (S' := (T12.setTop (mkF m 57 #[.val (.int p1), .val (.int p2), .val (.int p3), .val (.int p4), .val (.int x0), .val (.int x1), .val (.int x2), .val (.ref b9), .val (.int (1 : Int32)), .val (.long (0 : Int64)), .second] [(.int x0), (.ref b9)]))) (fun _ k => XS.iload X12.here hx rfl (hb hby at_55) rfl k) ?_
  obtain ⟨cq13, kq13, q13a, q13b, q13c⟩ := isOf hZ eh11 E_b9
  obtain ⟨_, _, ⟨T13, L13, k13, n13⟩, -, X13, ⟨Lc13, hQ13, l13, y13, z13⟩, st13⟩ := X12.virtualBack hx (y := (⟨"com/example/upright_play/uprightplay/LineCounter", "write", "(I)V"⟩ : MethodName)) (z := (⟨"com/example/upright_play/uprightplay/LineCounter", "write", "(I)V"⟩ : MethodName)) hown (mvT hZ (hw _ (List.mem_of_getElem? (i := 25) rfl))) (mvT hZ (hw _ (List.mem_of_getElem? (i := 26) rfl))) (notFace_of_selects (args := #[]) (mvT hZ (hw _ (List.mem_of_getElem? (i := 28) rfl)))) (mvT hZ (hw _ (List.mem_of_getElem? (i := 28) rfl))) (mvT hZ (hw _ (List.mem_of_getElem? (i := 27) rfl))) (by decide) (backOf (W := 0) (rm6 l Z a0 hw [] b9 x0 (0 : Int64) h9 n0 Zn E_b9 F_b9_lines o9) hZ (hw _ (List.mem_of_getElem? (i := 29) rfl)) (hw _ (List.mem_of_getElem? (i := 6) rfl)) (by decide) (by decide)) q13a q13c (g := (mkF m 57 #[.val (.int p1), .val (.int p2), .val (.int p3), .val (.int p4), .val (.int x0), .val (.int x1), .val (.int x2), .val (.ref b9), .val (.int (1 : Int32)), .val (.long (0 : Int64)), .second] [(.int x0), (.ref b9)])) rfl (by rw [hml]; rfl) (Steps.refl _) (argsL := [(.int x0)]) (rest := []) (lenOf pd__28I_29V rfl) rfl (by show 2 * 0 + _ ≤ _; exact Nat.le_of_eq rfl) (hb hby at_57) (fun _ _ => ⟨rfl, eh11, (by decide : 1 + 0 ≤ _), (by decide : 1 + 0 ≤ _)⟩)
  dsimp only [Pt.U, Pt.locs, Pt.cells, Pt.slots] at X13 l13 y13 z13 st13 hQ13
  subst l13 y13 z13
  obtain ⟨rfl, N13q, Kc, F_b9_lines⟩ := hQ13
  have N := Fr.app N N13q
  have E_b9 := E_b9.keep Kc
  have Zn : n0 ≤ _ := Nat.le_trans Zn Kc.1
  have K := K.trans Kc (allS (Or.inr z9) all0)
  refine own_tr (S' := (T13.setTop (mkF m 60 #[.val (.int p1), .val (.int p2), .val (.int p3), .val (.int p4), .val (.int x0), .val (.int x1), .val (.int x2), .val (.ref b9), .val (.int (1 : Int32)), .val (.long (0 : Int64)), .second] []))) st13 ?_
  refine own_by (S' := (T13.setTop (mkF m 62 #[.val (.int p1), .val (.int p2), .val (.int p3), .val (.int p4), .val (.int x0), .val (.int x1), .val (.int x2), .val (.ref b9), .val (.int (1 : Int32)), .val (.long (0 : Int64)), .second] [(.long (0 : Int64))]))) (fun _ k => XS.lload X13.here hx rfl (hb hby at_60) rfl k) ?_
  refine own_by (S' := (T13.setTop (mkF m 64 #[.val (.int p1), .val (.int p2), .val (.int p3), .val (.int p4), .val (.int x0), .val (.int x1), .val (.int x2), .val (.ref b9), .val (.int (1 : Int32)), .val (.long (0 : Int64)), .second] [(.int x0), (.long (0 : Int64))]))) (fun _ k => XS.iload X13.here hx rfl (hb hby at_62) rfl k) ?_
  obtain ⟨_, _, ⟨T15, L15, k15, n15⟩, -, X15, ⟨Lc15, hQ15, l15, y15, z15⟩, st15⟩ := Jvm.LawKit.callS X13 hx (y := (⟨"com/example/upright_play/uprightplay/LineCounterWritePinLaw", "inc", "(I)J"⟩ : MethodName)) hown (mvT hZ (hw _ (List.mem_of_getElem? (i := 30) rfl))) (mvT hZ (hw _ (List.mem_of_getElem? (i := 31) rfl))) (mvT hZ (hw _ (List.mem_of_getElem? (i := 2) rfl))) (mvT hZ (hw _ (List.mem_of_getElem? (i := 32) rfl))) (by decide) (backOf (W := 2) (rm7 l Z a0 hw [] x0 T13.heap n0 Zn) hZ (hw _ (List.mem_of_getElem? (i := 32) rfl)) (hw _ (List.mem_of_getElem? (i := 2) rfl)) (by decide) (by decide)) (g := (mkF m 64 #[.val (.int p1), .val (.int p2), .val (.int p3), .val (.int p4), .val (.int x0), .val (.int x1), .val (.int x2), .val (.ref b9), .val (.int (1 : Int32)), .val (.long (0 : Int64)), .second] [(.int x0), (.long (0 : Int64))])) rfl (by rw [hml]; rfl) (argsL := [(.int x0)]) (rest := [(.long (0 : Int64))]) (lenOf pd__28I_29J rfl) rfl (by show 2 * 0 + _ ≤ _; exact Nat.le_of_eq rfl) (hb hby at_64) (fun _ _ => ⟨rfl, rfl, (by decide : 1 + 0 ≤ _), (by decide : 1 + 0 ≤ _)⟩)
  dsimp only [Pt.U, Pt.locs, Pt.cells, Pt.slots] at X15 l15 y15 z15 st15 hQ15
  subst l15 y15 z15
  obtain ⟨rfl, N15q, eh14⟩ := hQ15
  have N := Fr.app N N15q
  refine own_by (S' := (T15.setTop (mkF m 67 #[.val (.int p1), .val (.int p2), .val (.int p3), .val (.int p4), .val (.int x0), .val (.int x1), .val (.int x2), .val (.ref b9), .val (.int (1 : Int32)), .val (.long (0 : Int64)), .second] [(.long (own_inc x0)), (.long (0 : Int64))]))) st15 ?_
  refine own_by (S' := (T15.setTop (mkF m 68 #[.val (.int p1), .val (.int p2), .val (.int p3), .val (.int p4), .val (.int x0), .val (.int x1), .val (.int x2), .val (.ref b9), .val (.int (1 : Int32)), .val (.long (0 : Int64)), .second] [(.long ((0 : Int64) + (own_inc x0)))]))) (fun _ k => XS.ladd X15.here hx rfl (hb hby at_67) rfl k) ?_
  refine own_by (S' := (T15.setTop (mkF m 70 #[.val (.int p1), .val (.int p2), .val (.int p3), .val (.int p4), .val (.int x0), .val (.int x1), .val (.int x2), .val (.ref b9), .val (.int (1 : Int32)), .val (.long ((0 : Int64) + (own_inc x0))), .second] []))) (fun _ k => XS.lstore X15.here hx rfl (hb hby at_68) rfl (l' := #[.val (.int p1), .val (.int p2), .val (.int p3), .val (.int p4), .val (.int x0), .val (.int x1), .val (.int x2), .val (.ref b9), .val (.int (1 : Int32)), .val (.long ((0 : Int64) + (own_inc x0))), .second]) rfl k) ?_
  refine own_by (S' := (T15.setTop (mkF m 72 #[.val (.int p1), .val (.int p2), .val (.int p3), .val (.int p4), .val (.int x0), .val (.int x1), .val (.int x2), .val (.ref b9), .val (.int (1 : Int32)), .val (.long ((0 : Int64) + (own_inc x0))), .second] [(.int (1 : Int32))]))) (fun _ k => XS.iload X15.here hx rfl (hb hby at_70) rfl k) ?_
  refine own_by (S' := (T15.setTop (mkF m 75 #[.val (.int p1), .val (.int p2), .val (.int p3), .val (.int p4), .val (.int x0), .val (.int x1), .val (.int x2), .val (.ref b9), .val (.int (1 : Int32)), .val (.long ((0 : Int64) + (own_inc x0))), .second] []))) (fun _ k => XS.ifNo X15.here hx rfl (hb hby at_72) rfl ((if0 _ _).trans (feq ((by decide) : ¬ ((1 : Int32) = (0 : Int32)))).1) k) ?_
  refine own_by (S' := (T15.setTop (mkF m 77 #[.val (.int p1), .val (.int p2), .val (.int p3), .val (.int p4), .val (.int x0), .val (.int x1), .val (.int x2), .val (.ref b9), .val (.int (1 : Int32)), .val (.long ((0 : Int64) + (own_inc x0))), .second] [(.ref b9)]))) (fun _ k => XS.aload X15.here hx rfl (hb hby at_75) rfl rfl k) ?_
  obtain ⟨cq17, kq17, q17a, q17b, q17c⟩ := isOf hZ eh14 E_b9
  obtain ⟨_, _, ⟨T17, L17, k17, n17⟩, -, X17, ⟨Lc17, hQ17, l17, y17, z17⟩, st17⟩ := X15.virtualBack hx (y := (⟨"com/example/upright_play/uprightplay/LineCounter", "lines", "()J"⟩ : MethodName)) (z := (⟨"com/example/upright_play/uprightplay/LineCounter", "lines", "()J"⟩ : MethodName)) hown (mvT hZ (hw _ (List.mem_of_getElem? (i := 18) rfl))) (mvT hZ (hw _ (List.mem_of_getElem? (i := 19) rfl))) (notFace_of_selects (args := #[]) (mvT hZ (hw _ (List.mem_of_getElem? (i := 21) rfl)))) (mvT hZ (hw _ (List.mem_of_getElem? (i := 21) rfl))) (mvT hZ (hw _ (List.mem_of_getElem? (i := 20) rfl))) (by decide) (backOf (W := 0) (rm5 l Z a0 hw [] b9 ((0 : Int64) + (own_inc x0)) T13.heap n0 Zn F_b9_lines) hZ (hw _ (List.mem_of_getElem? (i := 22) rfl)) (hw _ (List.mem_of_getElem? (i := 6) rfl)) (by decide) (by decide)) q17a q17c (g := (mkF m 77 #[.val (.int p1), .val (.int p2), .val (.int p3), .val (.int p4), .val (.int x0), .val (.int x1), .val (.int x2), .val (.ref b9), .val (.int (1 : Int32)), .val (.long ((0 : Int64) + (own_inc x0))), .second] [(.ref b9)])) rfl (by rw [hml]; rfl) (Steps.refl _) (argsL := []) (rest := []) (lenOf pd__28_29J rfl) rfl (by show 2 * 0 + _ ≤ _; exact Nat.le_of_eq rfl) (hb hby at_77) (fun _ _ => ⟨rfl, eh14, (by decide : 1 + 0 ≤ _), (by decide : 1 + 0 ≤ _)⟩)
  dsimp only [Pt.U, Pt.locs, Pt.cells, Pt.slots] at X17 l17 y17 z17 st17 hQ17
  subst l17 y17 z17
  obtain ⟨rfl, N17q, eh16⟩ := hQ17
  have N := Fr.app N N17q
  refine own_tr (S' := (T17.setTop (mkF m 80 #[.val (.int p1), .val (.int p2), .val (.int p3), .val (.int p4), .val (.int x0), .val (.int x1), .val (.int x2), .val (.ref b9), .val (.int (1 : Int32)), .val (.long ((0 : Int64) + (own_inc x0))), .second] [(.long ((0 : Int64) + (own_inc x0)))]))) st17 ?_
  refine own_by (S' := (T17.setTop (mkF m 82 #[.val (.int p1), .val (.int p2), .val (.int p3), .val (.int p4), .val (.int x0), .val (.int x1), .val (.int x2), .val (.ref b9), .val (.int (1 : Int32)), .val (.long ((0 : Int64) + (own_inc x0))), .second] [(.long ((0 : Int64) + (own_inc x0))), (.long ((0 : Int64) + (own_inc x0)))]))) (fun _ k => XS.lload X17.here hx rfl (hb hby at_80) rfl k) ?_
  refine own_by (S' := (T17.setTop (mkF m 83 #[.val (.int p1), .val (.int p2), .val (.int p3), .val (.int p4), .val (.int x0), .val (.int x1), .val (.int x2), .val (.ref b9), .val (.int (1 : Int32)), .val (.long ((0 : Int64) + (own_inc x0))), .second] [(.int (lcmpW ((0 : Int64) + (own_inc x0)) ((0 : Int64) + (own_inc x0))))]))) (fun _ k => XS.lcmp X17.here hx rfl (hb hby at_82) rfl k) ?_
  refine own_by (S' := (T17.setTop (mkF m 86 #[.val (.int p1), .val (.int p2), .val (.int p3), .val (.int p4), .val (.int x0), .val (.int x1), .val (.int x2), .val (.ref b9), .val (.int (1 : Int32)), .val (.long ((0 : Int64) + (own_inc x0))), .second] []))) (fun _ k => XS.ifNo X17.here hx rfl (hb hby at_83) rfl ((if0 _ _).trans (teq (((lw_eq _ _).mpr rfl) : (lcmpW ((0 : Int64) + (own_inc x0)) ((0 : Int64) + (own_inc x0))) = (0 : Int32))).2) k) ?_
  refine own_by (S' := (T17.setTop (mkF m 87 #[.val (.int p1), .val (.int p2), .val (.int p3), .val (.int p4), .val (.int x0), .val (.int x1), .val (.int x2), .val (.ref b9), .val (.int (1 : Int32)), .val (.long ((0 : Int64) + (own_inc x0))), .second] [(.int (1 : Int32))]))) (fun _ k => XS.iconst X17.here hx rfl (hb hby at_86) k) ?_
  refine own_by (S' := (T17.setTop (mkF m 91 #[.val (.int p1), .val (.int p2), .val (.int p3), .val (.int p4), .val (.int x0), .val (.int x1), .val (.int x2), .val (.ref b9), .val (.int (1 : Int32)), .val (.long ((0 : Int64) + (own_inc x0))), .second] [(.int (1 : Int32))]))) (fun _ k => XS.goto X17.here hx rfl (pc0 := 87) (pc' := 91) rfl (hb hby at_87) (by decide) (by decide) k) ?_
  refine own_by (S' := (T17.setTop (mkF m 93 #[.val (.int p1), .val (.int p2), .val (.int p3), .val (.int p4), .val (.int x0), .val (.int x1), .val (.int x2), .val (.ref b9), .val (.int (1 : Int32)), .val (.long ((0 : Int64) + (own_inc x0))), .second] []))) (fun _ k => XS.istore X17.here hx rfl (hb hby at_91) rfl (l' := #[.val (.int p1), .val (.int p2), .val (.int p3), .val (.int p4), .val (.int x0), .val (.int x1), .val (.int x2), .val (.ref b9), .val (.int (1 : Int32)), .val (.long ((0 : Int64) + (own_inc x0))), .second]) rfl k) ?_
  refine own_by (S' := (T17.setTop (mkF m 95 #[.val (.int p1), .val (.int p2), .val (.int p3), .val (.int p4), .val (.int x0), .val (.int x1), .val (.int x2), .val (.ref b9), .val (.int (1 : Int32)), .val (.long ((0 : Int64) + (own_inc x0))), .second] [(.ref b9)]))) (fun _ k => XS.aload X17.here hx rfl (hb hby at_93) rfl rfl k) ?_
  refine own_by (S' := (T17.setTop (mkF m 97 #[.val (.int p1), .val (.int p2), .val (.int p3), .val (.int p4), .val (.int x0), .val (.int x1), .val (.int x2), .val (.ref b9), .val (.int (1 : Int32)), .val (.long ((0 : Int64) + (own_inc x0))), .second] [(.int x1), (.ref b9)]))) (fun _ k => XS.iload X17.here hx rfl (hb hby at_95) rfl k) ?_
  obtain ⟨cq18, kq18, q18a, q18b, q18c⟩ := isOf hZ eh16 E_b9
  obtain ⟨_, _, ⟨T18, L18, k18, n18⟩, -, X18, ⟨Lc18, hQ18, l18, y18, z18⟩, st18⟩ := X17.virtualBack hx (y := (⟨"com/example/upright_play/uprightplay/LineCounter", "write", "(I)V"⟩ : MethodName)) (z := (⟨"com/example/upright_play/uprightplay/LineCounter", "write", "(I)V"⟩ : MethodName)) hown (mvT hZ (hw _ (List.mem_of_getElem? (i := 25) rfl))) (mvT hZ (hw _ (List.mem_of_getElem? (i := 26) rfl))) (notFace_of_selects (args := #[]) (mvT hZ (hw _ (List.mem_of_getElem? (i := 28) rfl)))) (mvT hZ (hw _ (List.mem_of_getElem? (i := 28) rfl))) (mvT hZ (hw _ (List.mem_of_getElem? (i := 27) rfl))) (by decide) (backOf (W := 0) (rm6 l Z a0 hw [] b9 x1 ((0 : Int64) + (own_inc x0)) T13.heap n0 Zn E_b9 F_b9_lines o9) hZ (hw _ (List.mem_of_getElem? (i := 29) rfl)) (hw _ (List.mem_of_getElem? (i := 6) rfl)) (by decide) (by decide)) q18a q18c (g := (mkF m 97 #[.val (.int p1), .val (.int p2), .val (.int p3), .val (.int p4), .val (.int x0), .val (.int x1), .val (.int x2), .val (.ref b9), .val (.int (1 : Int32)), .val (.long ((0 : Int64) + (own_inc x0))), .second] [(.int x1), (.ref b9)])) rfl (by rw [hml]; rfl) (Steps.refl _) (argsL := [(.int x1)]) (rest := []) (lenOf pd__28I_29V rfl) rfl (by show 2 * 0 + _ ≤ _; exact Nat.le_of_eq rfl) (hb hby at_97) (fun _ _ => ⟨rfl, eh16, (by decide : 1 + 0 ≤ _), (by decide : 1 + 0 ≤ _)⟩)
  dsimp only [Pt.U, Pt.locs, Pt.cells, Pt.slots] at X18 l18 y18 z18 st18 hQ18
  subst l18 y18 z18
  obtain ⟨rfl, N18q, Kc, F_b9_lines⟩ := hQ18
  have N := Fr.app N N18q
  have E_b9 := E_b9.keep Kc
  have Zn : n0 ≤ _ := Nat.le_trans Zn Kc.1
  have K := K.trans Kc (allS (Or.inr z9) all0)
  refine own_tr (S' := (T18.setTop (mkF m 100 #[.val (.int p1), .val (.int p2), .val (.int p3), .val (.int p4), .val (.int x0), .val (.int x1), .val (.int x2), .val (.ref b9), .val (.int (1 : Int32)), .val (.long ((0 : Int64) + (own_inc x0))), .second] []))) st18 ?_
  refine own_by (S' := (T18.setTop (mkF m 102 #[.val (.int p1), .val (.int p2), .val (.int p3), .val (.int p4), .val (.int x0), .val (.int x1), .val (.int x2), .val (.ref b9), .val (.int (1 : Int32)), .val (.long ((0 : Int64) + (own_inc x0))), .second] [(.long ((0 : Int64) + (own_inc x0)))]))) (fun _ k => XS.lload X18.here hx rfl (hb hby at_100) rfl k) ?_
  refine own_by (S' := (T18.setTop (mkF m 104 #[.val (.int p1), .val (.int p2), .val (.int p3), .val (.int p4), .val (.int x0), .val (.int x1), .val (.int x2), .val (.ref b9), .val (.int (1 : Int32)), .val (.long ((0 : Int64) + (own_inc x0))), .second] [(.int x1), (.long ((0 : Int64) + (own_inc x0)))]))) (fun _ k => XS.iload X18.here hx rfl (hb hby at_102) rfl k) ?_
  obtain ⟨_, _, ⟨T20, L20, k20, n20⟩, -, X20, ⟨Lc20, hQ20, l20, y20, z20⟩, st20⟩ := Jvm.LawKit.callS X18 hx (y := (⟨"com/example/upright_play/uprightplay/LineCounterWritePinLaw", "inc", "(I)J"⟩ : MethodName)) hown (mvT hZ (hw _ (List.mem_of_getElem? (i := 30) rfl))) (mvT hZ (hw _ (List.mem_of_getElem? (i := 31) rfl))) (mvT hZ (hw _ (List.mem_of_getElem? (i := 2) rfl))) (mvT hZ (hw _ (List.mem_of_getElem? (i := 32) rfl))) (by decide) (backOf (W := 2) (rm7 l Z a0 hw [] x1 T18.heap n0 Zn) hZ (hw _ (List.mem_of_getElem? (i := 32) rfl)) (hw _ (List.mem_of_getElem? (i := 2) rfl)) (by decide) (by decide)) (g := (mkF m 104 #[.val (.int p1), .val (.int p2), .val (.int p3), .val (.int p4), .val (.int x0), .val (.int x1), .val (.int x2), .val (.ref b9), .val (.int (1 : Int32)), .val (.long ((0 : Int64) + (own_inc x0))), .second] [(.int x1), (.long ((0 : Int64) + (own_inc x0)))])) rfl (by rw [hml]; rfl) (argsL := [(.int x1)]) (rest := [(.long ((0 : Int64) + (own_inc x0)))]) (lenOf pd__28I_29J rfl) rfl (by show 2 * 0 + _ ≤ _; exact Nat.le_of_eq rfl) (hb hby at_104) (fun _ _ => ⟨rfl, rfl, (by decide : 1 + 0 ≤ _), (by decide : 1 + 0 ≤ _)⟩)
  dsimp only [Pt.U, Pt.locs, Pt.cells, Pt.slots] at X20 l20 y20 z20 st20 hQ20
  subst l20 y20 z20
  obtain ⟨rfl, N20q, eh19⟩ := hQ20
  have N := Fr.app N N20q
  refine own_by (S' := (T20.setTop (mkF m 107 #[.val (.int p1), .val (.int p2), .val (.int p3), .val (.int p4), .val (.int x0), .val (.int x1), .val (.int x2), .val (.ref b9), .val (.int (1 : Int32)), .val (.long ((0 : Int64) + (own_inc x0))), .second] [(.long (own_inc x1)), (.long ((0 : Int64) + (own_inc x0)))]))) st20 ?_
  refine own_by (S' := (T20.setTop (mkF m 108 #[.val (.int p1), .val (.int p2), .val (.int p3), .val (.int p4), .val (.int x0), .val (.int x1), .val (.int x2), .val (.ref b9), .val (.int (1 : Int32)), .val (.long ((0 : Int64) + (own_inc x0))), .second] [(.long (((0 : Int64) + (own_inc x0)) + (own_inc x1)))]))) (fun _ k => XS.ladd X20.here hx rfl (hb hby at_107) rfl k) ?_
  refine own_by (S' := (T20.setTop (mkF m 110 #[.val (.int p1), .val (.int p2), .val (.int p3), .val (.int p4), .val (.int x0), .val (.int x1), .val (.int x2), .val (.ref b9), .val (.int (1 : Int32)), .val (.long (((0 : Int64) + (own_inc x0)) + (own_inc x1))), .second] []))) (fun _ k => XS.lstore X20.here hx rfl (hb hby at_108) rfl (l' := #[.val (.int p1), .val (.int p2), .val (.int p3), .val (.int p4), .val (.int x0), .val (.int x1), .val (.int x2), .val (.ref b9), .val (.int (1 : Int32)), .val (.long (((0 : Int64) + (own_inc x0)) + (own_inc x1))), .second]) rfl k) ?_
  refine own_by (S' := (T20.setTop (mkF m 112 #[.val (.int p1), .val (.int p2), .val (.int p3), .val (.int p4), .val (.int x0), .val (.int x1), .val (.int x2), .val (.ref b9), .val (.int (1 : Int32)), .val (.long (((0 : Int64) + (own_inc x0)) + (own_inc x1))), .second] [(.int (1 : Int32))]))) (fun _ k => XS.iload X20.here hx rfl (hb hby at_110) rfl k) ?_
  refine own_by (S' := (T20.setTop (mkF m 115 #[.val (.int p1), .val (.int p2), .val (.int p3), .val (.int p4), .val (.int x0), .val (.int x1), .val (.int x2), .val (.ref b9), .val (.int (1 : Int32)), .val (.long (((0 : Int64) + (own_inc x0)) + (own_inc x1))), .second] []))) (fun _ k => XS.ifNo X20.here hx rfl (hb hby at_112) rfl ((if0 _ _).trans (feq ((by decide) : ¬ ((1 : Int32) = (0 : Int32)))).1) k) ?_
  refine own_by (S' := (T20.setTop (mkF m 117 #[.val (.int p1), .val (.int p2), .val (.int p3), .val (.int p4), .val (.int x0), .val (.int x1), .val (.int x2), .val (.ref b9), .val (.int (1 : Int32)), .val (.long (((0 : Int64) + (own_inc x0)) + (own_inc x1))), .second] [(.ref b9)]))) (fun _ k => XS.aload X20.here hx rfl (hb hby at_115) rfl rfl k) ?_
  obtain ⟨cq22, kq22, q22a, q22b, q22c⟩ := isOf hZ eh19 E_b9
  obtain ⟨_, _, ⟨T22, L22, k22, n22⟩, -, X22, ⟨Lc22, hQ22, l22, y22, z22⟩, st22⟩ := X20.virtualBack hx (y := (⟨"com/example/upright_play/uprightplay/LineCounter", "lines", "()J"⟩ : MethodName)) (z := (⟨"com/example/upright_play/uprightplay/LineCounter", "lines", "()J"⟩ : MethodName)) hown (mvT hZ (hw _ (List.mem_of_getElem? (i := 18) rfl))) (mvT hZ (hw _ (List.mem_of_getElem? (i := 19) rfl))) (notFace_of_selects (args := #[]) (mvT hZ (hw _ (List.mem_of_getElem? (i := 21) rfl)))) (mvT hZ (hw _ (List.mem_of_getElem? (i := 21) rfl))) (mvT hZ (hw _ (List.mem_of_getElem? (i := 20) rfl))) (by decide) (backOf (W := 0) (rm5 l Z a0 hw [] b9 (((0 : Int64) + (own_inc x0)) + (own_inc x1)) T18.heap n0 Zn F_b9_lines) hZ (hw _ (List.mem_of_getElem? (i := 22) rfl)) (hw _ (List.mem_of_getElem? (i := 6) rfl)) (by decide) (by decide)) q22a q22c (g := (mkF m 117 #[.val (.int p1), .val (.int p2), .val (.int p3), .val (.int p4), .val (.int x0), .val (.int x1), .val (.int x2), .val (.ref b9), .val (.int (1 : Int32)), .val (.long (((0 : Int64) + (own_inc x0)) + (own_inc x1))), .second] [(.ref b9)])) rfl (by rw [hml]; rfl) (Steps.refl _) (argsL := []) (rest := []) (lenOf pd__28_29J rfl) rfl (by show 2 * 0 + _ ≤ _; exact Nat.le_of_eq rfl) (hb hby at_117) (fun _ _ => ⟨rfl, eh19, (by decide : 1 + 0 ≤ _), (by decide : 1 + 0 ≤ _)⟩)
  dsimp only [Pt.U, Pt.locs, Pt.cells, Pt.slots] at X22 l22 y22 z22 st22 hQ22
  subst l22 y22 z22
  obtain ⟨rfl, N22q, eh21⟩ := hQ22
  have N := Fr.app N N22q
  refine own_tr (S' := (T22.setTop (mkF m 120 #[.val (.int p1), .val (.int p2), .val (.int p3), .val (.int p4), .val (.int x0), .val (.int x1), .val (.int x2), .val (.ref b9), .val (.int (1 : Int32)), .val (.long (((0 : Int64) + (own_inc x0)) + (own_inc x1))), .second] [(.long (((0 : Int64) + (own_inc x0)) + (own_inc x1)))]))) st22 ?_
  refine own_by (S' := (T22.setTop (mkF m 122 #[.val (.int p1), .val (.int p2), .val (.int p3), .val (.int p4), .val (.int x0), .val (.int x1), .val (.int x2), .val (.ref b9), .val (.int (1 : Int32)), .val (.long (((0 : Int64) + (own_inc x0)) + (own_inc x1))), .second] [(.long (((0 : Int64) + (own_inc x0)) + (own_inc x1))), (.long (((0 : Int64) + (own_inc x0)) + (own_inc x1)))]))) (fun _ k => XS.lload X22.here hx rfl (hb hby at_120) rfl k) ?_
  refine own_by (S' := (T22.setTop (mkF m 123 #[.val (.int p1), .val (.int p2), .val (.int p3), .val (.int p4), .val (.int x0), .val (.int x1), .val (.int x2), .val (.ref b9), .val (.int (1 : Int32)), .val (.long (((0 : Int64) + (own_inc x0)) + (own_inc x1))), .second] [(.int (lcmpW (((0 : Int64) + (own_inc x0)) + (own_inc x1)) (((0 : Int64) + (own_inc x0)) + (own_inc x1))))]))) (fun _ k => XS.lcmp X22.here hx rfl (hb hby at_122) rfl k) ?_
  refine own_by (S' := (T22.setTop (mkF m 126 #[.val (.int p1), .val (.int p2), .val (.int p3), .val (.int p4), .val (.int x0), .val (.int x1), .val (.int x2), .val (.ref b9), .val (.int (1 : Int32)), .val (.long (((0 : Int64) + (own_inc x0)) + (own_inc x1))), .second] []))) (fun _ k => XS.ifNo X22.here hx rfl (hb hby at_123) rfl ((if0 _ _).trans (teq (((lw_eq _ _).mpr rfl) : (lcmpW (((0 : Int64) + (own_inc x0)) + (own_inc x1)) (((0 : Int64) + (own_inc x0)) + (own_inc x1))) = (0 : Int32))).2) k) ?_
  refine own_by (S' := (T22.setTop (mkF m 127 #[.val (.int p1), .val (.int p2), .val (.int p3), .val (.int p4), .val (.int x0), .val (.int x1), .val (.int x2), .val (.ref b9), .val (.int (1 : Int32)), .val (.long (((0 : Int64) + (own_inc x0)) + (own_inc x1))), .second] [(.int (1 : Int32))]))) (fun _ k => XS.iconst X22.here hx rfl (hb hby at_126) k) ?_
  refine own_by (S' := (T22.setTop (mkF m 131 #[.val (.int p1), .val (.int p2), .val (.int p3), .val (.int p4), .val (.int x0), .val (.int x1), .val (.int x2), .val (.ref b9), .val (.int (1 : Int32)), .val (.long (((0 : Int64) + (own_inc x0)) + (own_inc x1))), .second] [(.int (1 : Int32))]))) (fun _ k => XS.goto X22.here hx rfl (pc0 := 127) (pc' := 131) rfl (hb hby at_127) (by decide) (by decide) k) ?_
  refine own_by (S' := (T22.setTop (mkF m 133 #[.val (.int p1), .val (.int p2), .val (.int p3), .val (.int p4), .val (.int x0), .val (.int x1), .val (.int x2), .val (.ref b9), .val (.int (1 : Int32)), .val (.long (((0 : Int64) + (own_inc x0)) + (own_inc x1))), .second] []))) (fun _ k => XS.istore X22.here hx rfl (hb hby at_131) rfl (l' := #[.val (.int p1), .val (.int p2), .val (.int p3), .val (.int p4), .val (.int x0), .val (.int x1), .val (.int x2), .val (.ref b9), .val (.int (1 : Int32)), .val (.long (((0 : Int64) + (own_inc x0)) + (own_inc x1))), .second]) rfl k) ?_
  refine own_by (S' := (T22.setTop (mkF m 135 #[.val (.int p1), .val (.int p2), .val (.int p3), .val (.int p4), .val (.int x0), .val (.int x1), .val (.int x2), .val (.ref b9), .val (.int (1 : Int32)), .val (.long (((0 : Int64) + (own_inc x0)) + (own_inc x1))), .second] [(.ref b9)]))) (fun _ k => XS.aload X22.here hx rfl (hb hby at_133) rfl rfl k) ?_
  refine own_by (S' := (T22.setTop (mkF m 137 #[.val (.int p1), .val (.int p2), .val (.int p3), .val (.int p4), .val (.int x0), .val (.int x1), .val (.int x2), .val (.ref b9), .val (.int (1 : Int32)), .val (.long (((0 : Int64) + (own_inc x0)) + (own_inc x1))), .second] [(.int x2), (.ref b9)]))) (fun _ k => XS.iload X22.here hx rfl (hb hby at_135) rfl k) ?_
  obtain ⟨cq23, kq23, q23a, q23b, q23c⟩ := isOf hZ eh21 E_b9
  obtain ⟨_, _, ⟨T23, L23, k23, n23⟩, -, X23, ⟨Lc23, hQ23, l23, y23, z23⟩, st23⟩ := X22.virtualBack hx (y := (⟨"com/example/upright_play/uprightplay/LineCounter", "write", "(I)V"⟩ : MethodName)) (z := (⟨"com/example/upright_play/uprightplay/LineCounter", "write", "(I)V"⟩ : MethodName)) hown (mvT hZ (hw _ (List.mem_of_getElem? (i := 25) rfl))) (mvT hZ (hw _ (List.mem_of_getElem? (i := 26) rfl))) (notFace_of_selects (args := #[]) (mvT hZ (hw _ (List.mem_of_getElem? (i := 28) rfl)))) (mvT hZ (hw _ (List.mem_of_getElem? (i := 28) rfl))) (mvT hZ (hw _ (List.mem_of_getElem? (i := 27) rfl))) (by decide) (backOf (W := 0) (rm6 l Z a0 hw [] b9 x2 (((0 : Int64) + (own_inc x0)) + (own_inc x1)) T18.heap n0 Zn E_b9 F_b9_lines o9) hZ (hw _ (List.mem_of_getElem? (i := 29) rfl)) (hw _ (List.mem_of_getElem? (i := 6) rfl)) (by decide) (by decide)) q23a q23c (g := (mkF m 137 #[.val (.int p1), .val (.int p2), .val (.int p3), .val (.int p4), .val (.int x0), .val (.int x1), .val (.int x2), .val (.ref b9), .val (.int (1 : Int32)), .val (.long (((0 : Int64) + (own_inc x0)) + (own_inc x1))), .second] [(.int x2), (.ref b9)])) rfl (by rw [hml]; rfl) (Steps.refl _) (argsL := [(.int x2)]) (rest := []) (lenOf pd__28I_29V rfl) rfl (by show 2 * 0 + _ ≤ _; exact Nat.le_of_eq rfl) (hb hby at_137) (fun _ _ => ⟨rfl, eh21, (by decide : 1 + 0 ≤ _), (by decide : 1 + 0 ≤ _)⟩)
  dsimp only [Pt.U, Pt.locs, Pt.cells, Pt.slots] at X23 l23 y23 z23 st23 hQ23
  subst l23 y23 z23
  obtain ⟨rfl, N23q, Kc, F_b9_lines⟩ := hQ23
  have N := Fr.app N N23q
  have E_b9 := E_b9.keep Kc
  have Zn : n0 ≤ _ := Nat.le_trans Zn Kc.1
  have K := K.trans Kc (allS (Or.inr z9) all0)
  refine own_tr (S' := (T23.setTop (mkF m 140 #[.val (.int p1), .val (.int p2), .val (.int p3), .val (.int p4), .val (.int x0), .val (.int x1), .val (.int x2), .val (.ref b9), .val (.int (1 : Int32)), .val (.long (((0 : Int64) + (own_inc x0)) + (own_inc x1))), .second] []))) st23 ?_
  refine own_by (S' := (T23.setTop (mkF m 142 #[.val (.int p1), .val (.int p2), .val (.int p3), .val (.int p4), .val (.int x0), .val (.int x1), .val (.int x2), .val (.ref b9), .val (.int (1 : Int32)), .val (.long (((0 : Int64) + (own_inc x0)) + (own_inc x1))), .second] [(.long (((0 : Int64) + (own_inc x0)) + (own_inc x1)))]))) (fun _ k => XS.lload X23.here hx rfl (hb hby at_140) rfl k) ?_
  refine own_by (S' := (T23.setTop (mkF m 144 #[.val (.int p1), .val (.int p2), .val (.int p3), .val (.int p4), .val (.int x0), .val (.int x1), .val (.int x2), .val (.ref b9), .val (.int (1 : Int32)), .val (.long (((0 : Int64) + (own_inc x0)) + (own_inc x1))), .second] [(.int x2), (.long (((0 : Int64) + (own_inc x0)) + (own_inc x1)))]))) (fun _ k => XS.iload X23.here hx rfl (hb hby at_142) rfl k) ?_
  obtain ⟨_, _, ⟨T25, L25, k25, n25⟩, -, X25, ⟨Lc25, hQ25, l25, y25, z25⟩, st25⟩ := Jvm.LawKit.callS X23 hx (y := (⟨"com/example/upright_play/uprightplay/LineCounterWritePinLaw", "inc", "(I)J"⟩ : MethodName)) hown (mvT hZ (hw _ (List.mem_of_getElem? (i := 30) rfl))) (mvT hZ (hw _ (List.mem_of_getElem? (i := 31) rfl))) (mvT hZ (hw _ (List.mem_of_getElem? (i := 2) rfl))) (mvT hZ (hw _ (List.mem_of_getElem? (i := 32) rfl))) (by decide) (backOf (W := 2) (rm7 l Z a0 hw [] x2 T23.heap n0 Zn) hZ (hw _ (List.mem_of_getElem? (i := 32) rfl)) (hw _ (List.mem_of_getElem? (i := 2) rfl)) (by decide) (by decide)) (g := (mkF m 144 #[.val (.int p1), .val (.int p2), .val (.int p3), .val (.int p4), .val (.int x0), .val (.int x1), .val (.int x2), .val (.ref b9), .val (.int (1 : Int32)), .val (.long (((0 : Int64) + (own_inc x0)) + (own_inc x1))), .second] [(.int x2), (.long (((0 : Int64) + (own_inc x0)) + (own_inc x1)))])) rfl (by rw [hml]; rfl) (argsL := [(.int x2)]) (rest := [(.long (((0 : Int64) + (own_inc x0)) + (own_inc x1)))]) (lenOf pd__28I_29J rfl) rfl (by show 2 * 0 + _ ≤ _; exact Nat.le_of_eq rfl) (hb hby at_144) (fun _ _ => ⟨rfl, rfl, (by decide : 1 + 0 ≤ _), (by decide : 1 + 0 ≤ _)⟩)
  dsimp only [Pt.U, Pt.locs, Pt.cells, Pt.slots] at X25 l25 y25 z25 st25 hQ25
  subst l25 y25 z25
  obtain ⟨rfl, N25q, eh24⟩ := hQ25
  have N := Fr.app N N25q
  refine own_by (S' := (T25.setTop (mkF m 147 #[.val (.int p1), .val (.int p2), .val (.int p3), .val (.int p4), .val (.int x0), .val (.int x1), .val (.int x2), .val (.ref b9), .val (.int (1 : Int32)), .val (.long (((0 : Int64) + (own_inc x0)) + (own_inc x1))), .second] [(.long (own_inc x2)), (.long (((0 : Int64) + (own_inc x0)) + (own_inc x1)))]))) st25 ?_
  refine own_by (S' := (T25.setTop (mkF m 148 #[.val (.int p1), .val (.int p2), .val (.int p3), .val (.int p4), .val (.int x0), .val (.int x1), .val (.int x2), .val (.ref b9), .val (.int (1 : Int32)), .val (.long (((0 : Int64) + (own_inc x0)) + (own_inc x1))), .second] [(.long ((((0 : Int64) + (own_inc x0)) + (own_inc x1)) + (own_inc x2)))]))) (fun _ k => XS.ladd X25.here hx rfl (hb hby at_147) rfl k) ?_
  refine own_by (S' := (T25.setTop (mkF m 150 #[.val (.int p1), .val (.int p2), .val (.int p3), .val (.int p4), .val (.int x0), .val (.int x1), .val (.int x2), .val (.ref b9), .val (.int (1 : Int32)), .val (.long ((((0 : Int64) + (own_inc x0)) + (own_inc x1)) + (own_inc x2))), .second] []))) (fun _ k => XS.lstore X25.here hx rfl (hb hby at_148) rfl (l' := #[.val (.int p1), .val (.int p2), .val (.int p3), .val (.int p4), .val (.int x0), .val (.int x1), .val (.int x2), .val (.ref b9), .val (.int (1 : Int32)), .val (.long ((((0 : Int64) + (own_inc x0)) + (own_inc x1)) + (own_inc x2))), .second]) rfl k) ?_
  refine own_by (S' := (T25.setTop (mkF m 152 #[.val (.int p1), .val (.int p2), .val (.int p3), .val (.int p4), .val (.int x0), .val (.int x1), .val (.int x2), .val (.ref b9), .val (.int (1 : Int32)), .val (.long ((((0 : Int64) + (own_inc x0)) + (own_inc x1)) + (own_inc x2))), .second] [(.int (1 : Int32))]))) (fun _ k => XS.iload X25.here hx rfl (hb hby at_150) rfl k) ?_
  refine own_by (S' := (T25.setTop (mkF m 155 #[.val (.int p1), .val (.int p2), .val (.int p3), .val (.int p4), .val (.int x0), .val (.int x1), .val (.int x2), .val (.ref b9), .val (.int (1 : Int32)), .val (.long ((((0 : Int64) + (own_inc x0)) + (own_inc x1)) + (own_inc x2))), .second] []))) (fun _ k => XS.ifNo X25.here hx rfl (hb hby at_152) rfl ((if0 _ _).trans (feq ((by decide) : ¬ ((1 : Int32) = (0 : Int32)))).1) k) ?_
  refine own_by (S' := (T25.setTop (mkF m 157 #[.val (.int p1), .val (.int p2), .val (.int p3), .val (.int p4), .val (.int x0), .val (.int x1), .val (.int x2), .val (.ref b9), .val (.int (1 : Int32)), .val (.long ((((0 : Int64) + (own_inc x0)) + (own_inc x1)) + (own_inc x2))), .second] [(.ref b9)]))) (fun _ k => XS.aload X25.here hx rfl (hb hby at_155) rfl rfl k) ?_
  obtain ⟨cq27, kq27, q27a, q27b, q27c⟩ := isOf hZ eh24 E_b9
  obtain ⟨_, _, ⟨T27, L27, k27, n27⟩, -, X27, ⟨Lc27, hQ27, l27, y27, z27⟩, st27⟩ := X25.virtualBack hx (y := (⟨"com/example/upright_play/uprightplay/LineCounter", "lines", "()J"⟩ : MethodName)) (z := (⟨"com/example/upright_play/uprightplay/LineCounter", "lines", "()J"⟩ : MethodName)) hown (mvT hZ (hw _ (List.mem_of_getElem? (i := 18) rfl))) (mvT hZ (hw _ (List.mem_of_getElem? (i := 19) rfl))) (notFace_of_selects (args := #[]) (mvT hZ (hw _ (List.mem_of_getElem? (i := 21) rfl)))) (mvT hZ (hw _ (List.mem_of_getElem? (i := 21) rfl))) (mvT hZ (hw _ (List.mem_of_getElem? (i := 20) rfl))) (by decide) (backOf (W := 0) (rm5 l Z a0 hw [] b9 ((((0 : Int64) + (own_inc x0)) + (own_inc x1)) + (own_inc x2)) T23.heap n0 Zn F_b9_lines) hZ (hw _ (List.mem_of_getElem? (i := 22) rfl)) (hw _ (List.mem_of_getElem? (i := 6) rfl)) (by decide) (by decide)) q27a q27c (g := (mkF m 157 #[.val (.int p1), .val (.int p2), .val (.int p3), .val (.int p4), .val (.int x0), .val (.int x1), .val (.int x2), .val (.ref b9), .val (.int (1 : Int32)), .val (.long ((((0 : Int64) + (own_inc x0)) + (own_inc x1)) + (own_inc x2))), .second] [(.ref b9)])) rfl (by rw [hml]; rfl) (Steps.refl _) (argsL := []) (rest := []) (lenOf pd__28_29J rfl) rfl (by show 2 * 0 + _ ≤ _; exact Nat.le_of_eq rfl) (hb hby at_157) (fun _ _ => ⟨rfl, eh24, (by decide : 1 + 0 ≤ _), (by decide : 1 + 0 ≤ _)⟩)
  dsimp only [Pt.U, Pt.locs, Pt.cells, Pt.slots] at X27 l27 y27 z27 st27 hQ27
  subst l27 y27 z27
  obtain ⟨rfl, N27q, eh26⟩ := hQ27
  have N := Fr.app N N27q
  refine own_tr (S' := (T27.setTop (mkF m 160 #[.val (.int p1), .val (.int p2), .val (.int p3), .val (.int p4), .val (.int x0), .val (.int x1), .val (.int x2), .val (.ref b9), .val (.int (1 : Int32)), .val (.long ((((0 : Int64) + (own_inc x0)) + (own_inc x1)) + (own_inc x2))), .second] [(.long ((((0 : Int64) + (own_inc x0)) + (own_inc x1)) + (own_inc x2)))]))) st27 ?_
  refine own_by (S' := (T27.setTop (mkF m 162 #[.val (.int p1), .val (.int p2), .val (.int p3), .val (.int p4), .val (.int x0), .val (.int x1), .val (.int x2), .val (.ref b9), .val (.int (1 : Int32)), .val (.long ((((0 : Int64) + (own_inc x0)) + (own_inc x1)) + (own_inc x2))), .second] [(.long ((((0 : Int64) + (own_inc x0)) + (own_inc x1)) + (own_inc x2))), (.long ((((0 : Int64) + (own_inc x0)) + (own_inc x1)) + (own_inc x2)))]))) (fun _ k => XS.lload X27.here hx rfl (hb hby at_160) rfl k) ?_
  refine own_by (S' := (T27.setTop (mkF m 163 #[.val (.int p1), .val (.int p2), .val (.int p3), .val (.int p4), .val (.int x0), .val (.int x1), .val (.int x2), .val (.ref b9), .val (.int (1 : Int32)), .val (.long ((((0 : Int64) + (own_inc x0)) + (own_inc x1)) + (own_inc x2))), .second] [(.int (lcmpW ((((0 : Int64) + (own_inc x0)) + (own_inc x1)) + (own_inc x2)) ((((0 : Int64) + (own_inc x0)) + (own_inc x1)) + (own_inc x2))))]))) (fun _ k => XS.lcmp X27.here hx rfl (hb hby at_162) rfl k) ?_
  refine own_by (S' := (T27.setTop (mkF m 166 #[.val (.int p1), .val (.int p2), .val (.int p3), .val (.int p4), .val (.int x0), .val (.int x1), .val (.int x2), .val (.ref b9), .val (.int (1 : Int32)), .val (.long ((((0 : Int64) + (own_inc x0)) + (own_inc x1)) + (own_inc x2))), .second] []))) (fun _ k => XS.ifNo X27.here hx rfl (hb hby at_163) rfl ((if0 _ _).trans (teq (((lw_eq _ _).mpr rfl) : (lcmpW ((((0 : Int64) + (own_inc x0)) + (own_inc x1)) + (own_inc x2)) ((((0 : Int64) + (own_inc x0)) + (own_inc x1)) + (own_inc x2))) = (0 : Int32))).2) k) ?_
  refine own_by (S' := (T27.setTop (mkF m 167 #[.val (.int p1), .val (.int p2), .val (.int p3), .val (.int p4), .val (.int x0), .val (.int x1), .val (.int x2), .val (.ref b9), .val (.int (1 : Int32)), .val (.long ((((0 : Int64) + (own_inc x0)) + (own_inc x1)) + (own_inc x2))), .second] [(.int (1 : Int32))]))) (fun _ k => XS.iconst X27.here hx rfl (hb hby at_166) k) ?_
  refine own_by (S' := (T27.setTop (mkF m 171 #[.val (.int p1), .val (.int p2), .val (.int p3), .val (.int p4), .val (.int x0), .val (.int x1), .val (.int x2), .val (.ref b9), .val (.int (1 : Int32)), .val (.long ((((0 : Int64) + (own_inc x0)) + (own_inc x1)) + (own_inc x2))), .second] [(.int (1 : Int32))]))) (fun _ k => XS.goto X27.here hx rfl (pc0 := 167) (pc' := 171) rfl (hb hby at_167) (by decide) (by decide) k) ?_
  refine own_by (S' := (T27.setTop (mkF m 173 #[.val (.int p1), .val (.int p2), .val (.int p3), .val (.int p4), .val (.int x0), .val (.int x1), .val (.int x2), .val (.ref b9), .val (.int (1 : Int32)), .val (.long ((((0 : Int64) + (own_inc x0)) + (own_inc x1)) + (own_inc x2))), .second] []))) (fun _ k => XS.istore X27.here hx rfl (hb hby at_171) rfl (l' := #[.val (.int p1), .val (.int p2), .val (.int p3), .val (.int p4), .val (.int x0), .val (.int x1), .val (.int x2), .val (.ref b9), .val (.int (1 : Int32)), .val (.long ((((0 : Int64) + (own_inc x0)) + (own_inc x1)) + (own_inc x2))), .second]) rfl k) ?_
  refine own_by (S' := (T27.setTop (mkF m 175 #[.val (.int p1), .val (.int p2), .val (.int p3), .val (.int p4), .val (.int x0), .val (.int x1), .val (.int x2), .val (.ref b9), .val (.int (1 : Int32)), .val (.long ((((0 : Int64) + (own_inc x0)) + (own_inc x1)) + (own_inc x2))), .second] [(.int (1 : Int32))]))) (fun _ k => XS.iload X27.here hx rfl (hb hby at_173) rfl k) ?_
  exact own_ret X27 hx (t := .boolean) Bd.returns rfl (Or.inl ⟨rfl, by simp, _, rfl⟩) (hb hby at_175) hlk (by decide : 1 ≤ _) (by decide : 1 ≤ _) (by rw [eh26]; exact ⟨rfl, N⟩)
set_option maxRecDepth 65536 in
set_option maxHeartbeats 40000000 in
theorem comes_1 {Post : Tables → Env → Array Value → State → Outcome → State → Prop} (hpost : ∀ tb e args s v u, (limb_1_1.after args s (.returned v) u = true ∧ limb_1_2.after args s (.returned v) u = true ∧ True) → FrameEnd s (.returned v) u (Jvm.fieldLocs frame_1_writes args s ++ Jvm.arrayLocs frame_1_arrays args s ++ Jvm.staticLocs frame_1_statics s) 16 128 → Post tb e args s (.returned v) u) :
    ArmFor flags0 classFile x code maxLocals ret World_1 tables_1 room_1 Calls_1 rest_1 Pre_1 Post := by
  intro l hfl _ _ p e ha hc hk s m args below hf hA hF happ hP
  obtain ⟨hcalls, hrest, hpre⟩ := hP
  obtain ⟨-, -, -, hnamed, -, -, -, hat⟩ := (Spec.applies_iff hf).mp happ
  obtain ⟨hg, hn⟩ := and_e (Cond.before_iff.mp (show (Jvm.Cond.and given_1 narrow_1).before args s = true from hpre))
  obtain ⟨gc, gr⟩ := and_e hg
  obtain ⟨g0, gr⟩ := and_e gr
  obtain ⟨g1, gr⟩ := and_e gr
  obtain ⟨g2, gr⟩ := and_e gr
  have g3 := gr
  obtain ⟨w0, w1, w2, w3, rfl⟩ : ∃ w0 w1 w2 w3 : Value, args = #[w0, w1, w2, w3] := by
    have hs : args.size = 4 := by simpa [Cond.value, given_1] using gc
    obtain ⟨L⟩ := args
    match L, hs with
    | [w0, w1, w2, w3], _ => exact ⟨w0, w1, w2, w3, rfl⟩
  have hw := fun d (hd : d ∈ tables_1) => atoms_spec (ws := Jvm.Cond.code x code maxLocals ret :: tables_1) hat d (List.mem_cons_of_mem _ hd)
  have hfit : Fit s := fun {y c} hc i hi => by
    obtain ⟨ha, rfl⟩ := Array.getElem?_eq_some_iff.mp hc
    have q := List.all_eq_true.mp ((Array.all_eq_true_iff_forall_mem.mp hF) _ (Array.getElem_mem ha)) i (List.mem_range.mpr hi)
    simpa [Array.getElem?_eq_getElem hi] using q
  obtain ⟨i0, ei0⟩ := is_v g0
  obtain rfl : w0 = (.int i0) := Option.some.inj ei0
  obtain ⟨i1, ei1⟩ := is_v g1
  obtain rfl : w1 = (.int i1) := Option.some.inj ei1
  obtain ⟨i2, ei2⟩ := is_v g2
  obtain rfl : w2 = (.int i2) := Option.some.inj ei2
  obtain ⟨i3, ei3⟩ := is_v g3
  obtain rfl : w3 = (.int i3) := Option.some.inj ei3
  obtain ⟨n, o, h1, h2, h3, _, L, rfl, ⟨rfl, N⟩, hq⟩ := rm0 l s _ hw tables_1 i0 i1 i2 i3 s.heap s.heap.size (Nat.le_refl _) p e ha hc hk s m _ below hf ((Spec.applies_iff_loose hf).mp happ).1 ⟨rfl, State.Warmed39.refl s, rfl⟩ trivial
  refine ⟨n, _, h1, h2, h3, hpost _ _ _ _ _ _ ⟨Cond.after_iff.mpr rfl, Cond.after_iff.mpr (eq_i res_at (Term.int_eval (1)) rfl), trivial⟩ ⟨hq.1, hq.2.1, (hq.2.2.sift fun y hy => Or.inr (N y hy)).mono (by decide) (by decide)⟩⟩
theorem main_1_1 : Claimed_1_1 := comes_1 fun _ _ _ _ _ _ h hF => ⟨h.1, hF⟩
theorem main_1_2 : Claimed_1_2 := comes_1 fun _ _ _ _ _ _ h hF => ⟨h.2.1, hF⟩
end Jvm.Pilot.@@N@@
namespace Jvm.Pilot.@@N@@
open Jvm Jvm.ClassFile Sem Op Lib Jvm.Free Jvm.Stand Jvm.Pilot.@@N@@.Jvm.D
/-! MADE BY PROGRAM (witnessworld.py) out of the Statement's table words and the real class files: 13 classes; the members and pool entries that the words name. The judged class is class 1, her method 3. -/
namespace start1
open Jvm.ClassFile
def u (s : String) : CpInfo := .utf8 (stringToUtf16 s)
/-- a pool by its gaps: so many unusable entries, then the entry; so many at the end -/
def gap : Nat → List CpInfo → List CpInfo
  | 0, r => r
  | n + 1, r => .unusable :: gap n r
def poolList (es : List (Nat × CpInfo)) (last : Nat) : List CpInfo := es.foldr (fun e r => gap e.1 (e.2 :: r)) (gap last [])
def pool (es : List (Nat × CpInfo)) (last : Nat) : Array CpInfo := ⟨poolList es last⟩
def fileOf (pool : Array CpInfo) (this : Nat) (attrs : Array Attribute := #[]) (ms : Array MethodInfo := #[]) (fl : Nat := 33) (sup : Nat := 0) (ifs : Array Nat := #[]) (fds : Array FieldInfo := #[]) : ClassFile where
  minorVersion := 0
  majorVersion := 65
  constantPool := pool
  accessFlags := fl
  thisClass := this
  superClass := sup
  interfaces := ifs
  fields := fds
  methods := ms
  attributes := attrs
def plain (name : String) (sup : Option ClassId) : Class where
  name := name
  kind := .ordinary
  loader := none
  accessFlags := 33
  super := sup
  interfaces := #[]
  cf := none
  fields := #[]
  methods := #[]
  instanceTypes := #[]
  staticTypes := #[]
  resolved := #[]
  callSites := []
  init := .initialized
  statics := none
  mirror := none

def pool0 : Array CpInfo := pool [(5, u "<init>"), (0, u "()V"), (1, .class_ 10), (1, u "java/lang/Object")] 113

def k0c0 : Code := { maxStack := 0, maxLocals := 1, code := object_method_1_code, exceptionTable := #[], attributes := #[] }
def k0m0 : Method := { name := "<init>", desc := "()V", sig := { parameters := [], returnType := none }, accessFlags := 1, code := some k0c0 }
/-- java/lang/Object -/
def k0 : Class := { plain "java/lang/Object" none with
  accessFlags := 33
  interfaces := #[]
  cf := some (fileOf pool0 8 #[] #[{ accessFlags := 1, nameIndex := 5, descriptorIndex := 6, attributes := #[] }] 33 0 #[] #[])
  fields := #[]
  methods := #[k0m0]
  instanceTypes := #[]
  staticTypes := #[]
  resolved := Array.replicate 124 none
  statics := none }

def pool1 : Array CpInfo := pool [(2, .class_ 4), (0, .nameAndType 5 6), (0, u "java/lang/Object"), (0, u "<init>"), (0, u "()V"), (0, .methodref 8 9), (0, .class_ 10), (0, .nameAndType 11 12), (0, u "com/example/upright_play/uprightplay/LineCounterWritePinLaw"), (0, u "arg"), (0, u "(III)I"), (0, .class_ 14), (0, u "com/example/upright_play/uprightplay/LineCounter"), (0, .methodref 13 3), (0, .methodref 13 17), (0, .nameAndType 18 19), (0, u "lines"), (0, u "()J"), (0, .methodref 13 21), (0, .nameAndType 22 23), (0, u "write"), (0, u "(I)V"), (0, .methodref 8 25), (0, .nameAndType 26 27), (0, u "inc"), (0, u "(I)J"), (3, u "law"), (0, u "(IIII)Z")] 2

def k1m0 : Method := { name := "<init>", desc := "()V", sig := { parameters := [], returnType := none }, accessFlags := 1, code := none }
def k1c1 : Code := { maxStack := 2, maxLocals := 3, code := method_2_code, exceptionTable := #[], attributes := #[] }
def k1m1 : Method := { name := "arg", desc := "(III)I", sig := { parameters := [.int, .int, .int], returnType := some .int }, accessFlags := 10, code := some k1c1 }
def k1c2 : Code := { maxStack := 2, maxLocals := 1, code := method_3_code, exceptionTable := #[], attributes := #[] }
def k1m2 : Method := { name := "inc", desc := "(I)J", sig := { parameters := [.int], returnType := some .long }, accessFlags := 10, code := some k1c2 }
def k1c3 : Code := { maxStack := 4, maxLocals := 11, code := code, exceptionTable := #[], attributes := #[] }
def k1m3 : Method := { name := "law", desc := "(IIII)Z", sig := { parameters := [.int, .int, .int, .int], returnType := some .boolean }, accessFlags := 9, code := some k1c3 }
/-- com/example/upright_play/uprightplay/LineCounterWritePinLaw -/
def k1 : Class := { plain "com/example/upright_play/uprightplay/LineCounterWritePinLaw" (some 0) with
  accessFlags := 49
  interfaces := #[]
  cf := some (fileOf pool1 8 #[] #[{ accessFlags := 1, nameIndex := 5, descriptorIndex := 6, attributes := #[] }, { accessFlags := 10, nameIndex := 11, descriptorIndex := 12, attributes := #[] }, { accessFlags := 10, nameIndex := 26, descriptorIndex := 27, attributes := #[] }, { accessFlags := 9, nameIndex := 31, descriptorIndex := 32, attributes := #[] }] 49 2 #[] #[])
  fields := #[]
  methods := #[k1m0, k1m1, k1m2, k1m3]
  instanceTypes := #[]
  staticTypes := #[]
  resolved := Array.replicate 35 none
  statics := none }

def pool2 : Array CpInfo := pool [(1, .class_ 2), (0, u "java/lang/AutoCloseable"), (0, .class_ 4), (0, u "java/lang/Object")] 7

/-- java/lang/AutoCloseable -/
def k2 : Class := { plain "java/lang/AutoCloseable" (some 0) with
  accessFlags := 1537
  interfaces := #[]
  cf := some (fileOf pool2 1 #[] #[] 1537 3 #[] #[])
  fields := #[]
  methods := #[]
  instanceTypes := #[]
  staticTypes := #[]
  resolved := Array.replicate 12 none
  statics := none }

def pool3 : Array CpInfo := pool [(1, .class_ 2), (0, u "java/io/Closeable"), (0, .class_ 4), (0, u "java/lang/Object"), (0, .class_ 6), (0, u "java/lang/AutoCloseable")] 7

/-- java/io/Closeable -/
def k3 : Class := { plain "java/io/Closeable" (some 0) with
  accessFlags := 1537
  interfaces := #[2]
  cf := some (fileOf pool3 1 #[] #[] 1537 3 #[5] #[])
  fields := #[]
  methods := #[]
  instanceTypes := #[]
  staticTypes := #[]
  resolved := Array.replicate 14 none
  statics := none }

def pool4 : Array CpInfo := pool [(1, .class_ 2), (0, u "java/io/Flushable"), (0, .class_ 4), (0, u "java/lang/Object")] 7

/-- java/io/Flushable -/
def k4 : Class := { plain "java/io/Flushable" (some 0) with
  accessFlags := 1537
  interfaces := #[]
  cf := some (fileOf pool4 1 #[] #[] 1537 3 #[] #[])
  fields := #[]
  methods := #[]
  instanceTypes := #[]
  staticTypes := #[]
  resolved := Array.replicate 12 none
  statics := none }

def pool5 : Array CpInfo := pool [(1, .methodref 2 3), (0, .class_ 4), (0, .nameAndType 5 6), (0, u "java/lang/Object"), (0, u "<init>"), (0, u "()V"), (0, .class_ 8), (0, u "java/io/OutputStream$1"), (2, .class_ 13), (1, u "java/io/OutputStream"), (11, .class_ 26), (0, u "java/io/Closeable"), (0, .class_ 28), (0, u "java/io/Flushable")] 24

def k5c0 : Code := { maxStack := 1, maxLocals := 1, code := jdk_2038_method_1_code, exceptionTable := #[], attributes := #[] }
def k5m0 : Method := { name := "<init>", desc := "()V", sig := { parameters := [], returnType := none }, accessFlags := 1, code := some k5c0 }
/-- java/io/OutputStream -/
def k5 : Class := { plain "java/io/OutputStream" (some 0) with
  accessFlags := 1057
  interfaces := #[3, 4]
  cf := some (fileOf pool5 11 #[.nestMembers #[7]] #[{ accessFlags := 1, nameIndex := 5, descriptorIndex := 6, attributes := #[] }] 1057 2 #[25, 27] #[])
  fields := #[]
  methods := #[k5m0]
  instanceTypes := #[]
  staticTypes := #[]
  resolved := Array.replicate 53 none
  statics := none }

def pool6 : Array CpInfo := pool [(1, .methodref 2 3), (0, .class_ 4), (0, .nameAndType 5 6), (0, u "java/io/OutputStream"), (0, u "<init>"), (0, u "()V"), (0, .fieldref 8 9), (0, .class_ 10), (0, .nameAndType 11 12), (0, u "com/example/upright_play/uprightplay/LineCounter"), (0, u "lines"), (0, u "J"), (2, u "write"), (0, u "(I)V"), (4, u "()J")] 2

def k6c0 : Code := { maxStack := 1, maxLocals := 1, code := prog_1_method_1_code, exceptionTable := #[], attributes := #[] }
def k6m0 : Method := { name := "<init>", desc := "()V", sig := { parameters := [], returnType := none }, accessFlags := 0, code := some k6c0 }
def k6c1 : Code := { maxStack := 5, maxLocals := 2, code := prog_1_method_2_code, exceptionTable := #[], attributes := #[] }
def k6m1 : Method := { name := "write", desc := "(I)V", sig := { parameters := [.int], returnType := none }, accessFlags := 1, code := some k6c1 }
def k6c2 : Code := { maxStack := 2, maxLocals := 1, code := prog_1_method_4_code, exceptionTable := #[], attributes := #[] }
def k6m2 : Method := { name := "lines", desc := "()J", sig := { parameters := [], returnType := some .long }, accessFlags := 0, code := some k6c2 }
/-- com/example/upright_play/uprightplay/LineCounter -/
def k6 : Class := { plain "com/example/upright_play/uprightplay/LineCounter" (some 5) with
  accessFlags := 32
  interfaces := #[]
  cf := some (fileOf pool6 8 #[] #[{ accessFlags := 0, nameIndex := 5, descriptorIndex := 6, attributes := #[] }, { accessFlags := 1, nameIndex := 15, descriptorIndex := 16, attributes := #[] }, { accessFlags := 0, nameIndex := 11, descriptorIndex := 21, attributes := #[] }] 32 2 #[] #[{ accessFlags := 2, nameIndex := 11, descriptorIndex := 12, attributes := #[] }])
  fields := #[{ name := "lines", type := .long, accessFlags := 2, slot := 0, constantValue := 0 }]
  methods := #[k6m0, k6m1, k6m2]
  instanceTypes := #[.long]
  staticTypes := #[]
  resolved := Array.replicate 24 none
  statics := none }

def pool7 : Array CpInfo := pool [(1, u "java/lang/Cloneable"), (0, .class_ 1), (0, u "java/lang/Object"), (0, .class_ 3)] 3

/-- java/lang/Cloneable -/
def k7 : Class := { plain "java/lang/Cloneable" (some 0) with
  accessFlags := 1537
  interfaces := #[]
  cf := some (fileOf pool7 2 #[] #[] 1537 4 #[] #[])
  fields := #[]
  methods := #[]
  instanceTypes := #[]
  staticTypes := #[]
  resolved := Array.replicate 8 none
  statics := none }

def pool8 : Array CpInfo := pool [(1, u "java/io/Serializable"), (0, .class_ 1), (0, u "java/lang/Object"), (0, .class_ 3)] 3

/-- java/io/Serializable -/
def k8 : Class := { plain "java/io/Serializable" (some 0) with
  accessFlags := 1537
  interfaces := #[]
  cf := some (fileOf pool8 2 #[] #[] 1537 4 #[] #[])
  fields := #[]
  methods := #[]
  instanceTypes := #[]
  staticTypes := #[]
  resolved := Array.replicate 8 none
  statics := none }

/-- the primitive byte -/
def k9 : Class := { plain "byte" none with kind := .primitive 'B', accessFlags := 0x411 }
/-- [B -/
def k10 : Class := { plain "[B" (some 0) with kind := .array 9 .byte, interfaces := #[7, 8], accessFlags := 1041 }

/-- the primitive int -/
def k11 : Class := { plain "int" none with kind := .primitive 'I', accessFlags := 0x411 }
/-- [I -/
def k12 : Class := { plain "[I" (some 0) with kind := .array 11 .int, interfaces := #[7, 8], accessFlags := 1041 }

def heap : Heap := #[]
def classes : Array Class := #[k0, k1, k2, k3, k4, k5, k6, k7, k8, k9, k10, k11, k12]
def interned : List (Array UInt16 × Addr) := []
def slotsUsed : Nat := 0
def theMethod : MethodId := ⟨1, 3⟩
def args0 : Array Value := #[.int 5, .int 5, .int 5, .int 5]
def aboutOver (below : List Frame) : State where
  vm := { classes := classes, interned := interned.toArray }
  heap := heap
  slotsUsed := slotsUsed
  threads := #[{ frames := .invoking theMethod args0 :: below }]
def below0 : List Frame := [.native { method := ⟨0, 0⟩, args := #[] }]
def about1 : State := aboutOver below0
def p0 : Program := .bare "" "" ""
def e0 : Env := launch0.env 0 0 0
theorem w_frames : about1.frames = Frame.invoking theMethod args0 :: below0 := rfl
set_option maxRecDepth 65536 in
theorem w_args : argsFit about1.vm theMethod args0 = true := by decide +kernel
set_option maxRecDepth 65536 in
theorem w_heap : heapFits about1 = true := by decide +kernel
set_option maxRecDepth 65536 in
theorem w_runnable : about1.curStatus? = some .runnable := by decide +kernel
set_option maxRecDepth 65536 in
theorem w_alone : about1.alone = true := by decide +kernel
set_option maxRecDepth 65536 in
theorem w_named : about1.methodNamed? x = some theMethod := by decide +kernel
set_option maxRecDepth 65536 in
theorem w_hears : about1.hears theMethod below0 = true := by decide +kernel
set_option maxRecDepth 65536 in
theorem w_ripe : about1.ripe theMethod args0 below0 = true := by decide +kernel
theorem w_running : about1.status = .running := rfl
set_option maxRecDepth 65536 in
theorem w_room : about1.hasRoom e0.platform room_1 = true :=
  launch0.hasRoom_least _ room_1 (by decide +kernel) (by decide +kernel) (by decide +kernel) (by decide +kernel) (by decide +kernel) (by decide +kernel)
theorem allAtoms_all (ts : List Jvm.Cond) (a : Array Jvm.Value) (st : Jvm.State) : (allAtoms ts).before a st = ts.all (fun c => c.before a st) := by
  induction ts with
  | nil => rfl
  | cons c t ih =>
    show (Jvm.Cond.and c (allAtoms t)).before a st = _
    rw [Jvm.Cond.before_and, ih, List.all_cons]
def words1 : List Jvm.Cond := Jvm.Cond.code x code maxLocals ret :: tables_1
/-- a 'code' word, met by the world's own term for the bytes: nothing is compared byte by byte -/
theorem code_word {y : MethodName} {bytes : ByteArray} {mx : Nat} {rt : Option FieldType} {a : Array Value} {s : State} {m : MethodId} {meth : Method} {c : Code} (h1 : s.methodNamed? y = some m) (h2 : s.vm.method? m = some meth) (h3 : meth.code = some c) (h4 : c.code = bytes)
    (h5 : (c.maxLocals == mx && c.exceptionTable.isEmpty && decide (c.maxStack ≤ mostOperands) && decide (meth.sig.returnType = rt) && !meth.locks && decide (parseMethodDescriptor y.desc = some meth.sig)) = true) : (Jvm.Cond.code y bytes mx rt).before a s = true := by
  simp only [Bool.and_eq_true, beq_iff_eq, Bool.not_eq_true', decide_eq_true_eq] at h5
  obtain ⟨⟨⟨⟨⟨g1, g2⟩, g3⟩, g4⟩, g5⟩, g6⟩ := h5
  simp [Cond.before, Cond.holds, Cond.value, h1, h2, h3, h4, g1, g2, g3, g4, g5, g6]
def isCode : Jvm.Cond → Bool
  | .code _ _ _ _ => true
  | _ => false
theorem all_split {L : List Jvm.Cond} {P : Jvm.Cond → Bool} (h1 : L.all (fun c => isCode c || P c) = true) (h2 : ∀ c ∈ L.filter isCode, P c = true) : L.all P = true := by
  refine List.all_eq_true.mpr fun c hc => ?_
  have h := List.all_eq_true.mp h1 c hc
  rcases Bool.eq_false_or_eq_true (isCode c) with hi | hi
  · exact h2 c (List.mem_filter.mpr ⟨hc, hi⟩)
  · simpa [hi] using h
set_option maxRecDepth 65536 in
theorem w_c0 : (Jvm.Cond.code x code maxLocals ret).before args0 about1 = true := code_word (m := ⟨1, 3⟩) (meth := k1m3) (c := k1c3) (by decide +kernel) rfl rfl rfl (by decide +kernel)
set_option maxRecDepth 65536 in
theorem w_c1 : (Jvm.Cond.code ({ cls := "com/example/upright_play/uprightplay/LineCounterWritePinLaw", name := "arg", desc := "(III)I" } : Jvm.MethodName) method_2_code (3 : Nat) (Option.some Jvm.ClassFile.FieldType.int)).before args0 about1 = true := code_word (m := ⟨1, 1⟩) (meth := k1m1) (c := k1c1) (by decide +kernel) rfl rfl rfl (by decide +kernel)
set_option maxRecDepth 65536 in
theorem w_c2 : (Jvm.Cond.code ({ cls := "com/example/upright_play/uprightplay/LineCounter", name := "<init>", desc := "()V" } : Jvm.MethodName) prog_1_method_1_code (1 : Nat) (Option.none : Option Jvm.ClassFile.FieldType)).before args0 about1 = true := code_word (m := ⟨6, 0⟩) (meth := k6m0) (c := k6c0) (by decide +kernel) rfl rfl rfl (by decide +kernel)
set_option maxRecDepth 65536 in
theorem w_c3 : (Jvm.Cond.code ({ cls := "java/io/OutputStream", name := "<init>", desc := "()V" } : Jvm.MethodName) jdk_2038_method_1_code (1 : Nat) (Option.none : Option Jvm.ClassFile.FieldType)).before args0 about1 = true := code_word (m := ⟨5, 0⟩) (meth := k5m0) (c := k5c0) (by decide +kernel) rfl rfl rfl (by decide +kernel)
set_option maxRecDepth 65536 in
theorem w_c4 : (Jvm.Cond.code ({ cls := "java/lang/Object", name := "<init>", desc := "()V" } : Jvm.MethodName) object_method_1_code (1 : Nat) (Option.none : Option Jvm.ClassFile.FieldType)).before args0 about1 = true := code_word (m := ⟨0, 0⟩) (meth := k0m0) (c := k0c0) (by decide +kernel) rfl rfl rfl (by decide +kernel)
set_option maxRecDepth 65536 in
theorem w_c5 : (Jvm.Cond.code ({ cls := "com/example/upright_play/uprightplay/LineCounter", name := "lines", desc := "()J" } : Jvm.MethodName) prog_1_method_4_code (1 : Nat) (Option.some Jvm.ClassFile.FieldType.long)).before args0 about1 = true := code_word (m := ⟨6, 2⟩) (meth := k6m2) (c := k6c2) (by decide +kernel) rfl rfl rfl (by decide +kernel)
set_option maxRecDepth 65536 in
theorem w_c6 : (Jvm.Cond.code ({ cls := "com/example/upright_play/uprightplay/LineCounter", name := "write", desc := "(I)V" } : Jvm.MethodName) prog_1_method_2_code (2 : Nat) (Option.none : Option Jvm.ClassFile.FieldType)).before args0 about1 = true := code_word (m := ⟨6, 1⟩) (meth := k6m1) (c := k6c1) (by decide +kernel) rfl rfl rfl (by decide +kernel)
set_option maxRecDepth 65536 in
theorem w_c7 : (Jvm.Cond.code ({ cls := "com/example/upright_play/uprightplay/LineCounterWritePinLaw", name := "inc", desc := "(I)J" } : Jvm.MethodName) method_3_code (1 : Nat) (Option.some Jvm.ClassFile.FieldType.long)).before args0 about1 = true := code_word (m := ⟨1, 2⟩) (meth := k1m2) (c := k1c2) (by decide +kernel) rfl rfl rfl (by decide +kernel)
def codes1 : List Jvm.Cond := [Jvm.Cond.code x code maxLocals ret, Jvm.Cond.code ({ cls := "com/example/upright_play/uprightplay/LineCounterWritePinLaw", name := "arg", desc := "(III)I" } : Jvm.MethodName) method_2_code (3 : Nat) (Option.some Jvm.ClassFile.FieldType.int), Jvm.Cond.code ({ cls := "com/example/upright_play/uprightplay/LineCounter", name := "<init>", desc := "()V" } : Jvm.MethodName) prog_1_method_1_code (1 : Nat) (Option.none : Option Jvm.ClassFile.FieldType), Jvm.Cond.code ({ cls := "java/io/OutputStream", name := "<init>", desc := "()V" } : Jvm.MethodName) jdk_2038_method_1_code (1 : Nat) (Option.none : Option Jvm.ClassFile.FieldType), Jvm.Cond.code ({ cls := "java/lang/Object", name := "<init>", desc := "()V" } : Jvm.MethodName) object_method_1_code (1 : Nat) (Option.none : Option Jvm.ClassFile.FieldType), Jvm.Cond.code ({ cls := "com/example/upright_play/uprightplay/LineCounter", name := "lines", desc := "()J" } : Jvm.MethodName) prog_1_method_4_code (1 : Nat) (Option.some Jvm.ClassFile.FieldType.long), Jvm.Cond.code ({ cls := "com/example/upright_play/uprightplay/LineCounter", name := "write", desc := "(I)V" } : Jvm.MethodName) prog_1_method_2_code (2 : Nat) (Option.none : Option Jvm.ClassFile.FieldType), Jvm.Cond.code ({ cls := "com/example/upright_play/uprightplay/LineCounterWritePinLaw", name := "inc", desc := "(I)J" } : Jvm.MethodName) method_3_code (1 : Nat) (Option.some Jvm.ClassFile.FieldType.long)]
set_option maxRecDepth 65536 in
theorem codes_eq : words1.filter isCode = codes1 := rfl
theorem w_codes : ∀ c ∈ words1.filter isCode, c.before args0 about1 = true := by
  rw [codes_eq]
  intro c hc
  simp only [codes1, List.mem_cons, List.not_mem_nil, or_false] at hc
  rcases hc with rfl | rfl | rfl | rfl | rfl | rfl | rfl | rfl
  · exact w_c0
  · exact w_c1
  · exact w_c2
  · exact w_c3
  · exact w_c4
  · exact w_c5
  · exact w_c6
  · exact w_c7
set_option maxRecDepth 65536 in
theorem w_t1 : (words1.take 24).all (fun c => isCode c || c.before args0 about1) = true := by decide +kernel
set_option maxRecDepth 65536 in
theorem w_t2 : (words1.drop 24).all (fun c => isCode c || c.before args0 about1) = true := by decide +kernel
theorem w_tables : (allAtoms (Jvm.Cond.code x code maxLocals ret :: tables_1)).before args0 about1 = true := by
  rw [allAtoms_all]
  show words1.all (fun c => c.before args0 about1) = true
  refine all_split ?_ w_codes
  rw [← List.take_append_drop 24 words1, List.all_append, w_t1, w_t2]
  rfl
set_option maxRecDepth 65536 in
theorem w_case : (Jvm.Cond.and given_1 narrow_1).before args0 about1 = true := by decide +kernel
theorem w_applies : (headSpec (Jvm.Cond.code x code maxLocals ret :: tables_1) room_1).applies x e0.platform about1 = true :=
  (Spec.applies_iff w_frames).mpr ⟨w_running, w_runnable, w_alone, w_named, w_hears, w_ripe, w_room, w_tables⟩
theorem atStart : AtStart classFile x code maxLocals ret World_1 tables_1 room_1 Calls_1 rest_1 Pre_1 launch0 p0 e0 about1 theMethod args0 below0 :=
  ⟨lists_1, trivial, launch0.admits_env _ _ _, launch0.least_env, fairChoices_fair.cas, fairChoices_fair.clock, w_frames, w_args, w_heap, w_applies, trivial, trivial, w_case⟩
end start1
theorem witness_1 : WitnessClaimed_1 := ⟨start1.p0, start1.e0, start1.about1, start1.theMethod, start1.args0, start1.below0, start1.atStart⟩
end Jvm.Pilot.@@N@@
