import JvmDerived
import JvmDerived.Pilot.@@N@@Statement
import JvmDerived.Pilot.@@N@@Code
set_option linter.unusedVariables false
set_option linter.unusedSimpArgs false
namespace Jvm.Pilot.@@N@@
open Jvm Jvm.ClassFile Sem Op Lib Jvm.Free Jvm.Stand Jvm.LawKit Jvm.RoadKit Bundle Jvm.Pilot.@@N@@.Jvm.D
section Own
variable {p : Program} {l : Launch} {e : Env} {R : Room} {s : State} {m : MethodId} {args : Array Value} {below : List Frame} {meth : Method} {c : Code} {T : State} {locs : List Loc} {cells slots : Nat} {Z : State} {h h' : Heap} {a b : Addr} {ty : FieldType} {vs : List Value} {v : Value} {sl : Nat}
/-- from here the run comes to an end that Q allows -/
def own_fin (p : Program) (e : Env) (below : List Frame) (s : State) (cl sl : Nat) (Q : Option Value → Heap → List Loc → Prop) (S : State) : Prop :=
  ∃ s₂ o, Steps p.tables e below S s₂ ∧ s₂.status = .running ∧ Ended s₂ below o ∧ ∃ v L, o = .returned v ∧ Q v s₂.heap L ∧ FrameEnd s o s₂ L cl sl
theorem own_by {cl sl : Nat} {Q : Option Value → Heap → List Loc → Prop} {S S' : State} (st : ∀ target, Steps p.tables e below S' target → Steps p.tables e below S target) (k : own_fin p e below s cl sl Q S') : own_fin p e below s cl sl Q S := by
  obtain ⟨s2, o, h1, h2⟩ := k
  exact ⟨s2, o, st _ h1, h2⟩
theorem own_tr {cl sl : Nat} {Q : Option Value → Heap → List Loc → Prop} {S S' : State} (st : Steps p.tables e below S S') (k : own_fin p e below s cl sl Q S') : own_fin p e below s cl sl Q S := by
  obtain ⟨s2, o, h1, h2⟩ := k
  exact ⟨s2, o, st.trans h1, h2⟩
theorem own_start {cl sl : Nat} {Q : Option Value → Heap → List Loc → Prop} {s₁ : State} {mx : Nat} {g : JFrame} (q : entryFrame m args mx = g) (k : own_fin p e below s cl sl Q (s₁.setTop g)) :
    ∃ s₂ o, Steps p.tables e below (s₁.setTop (entryFrame m args mx)) s₂ ∧ s₂.status = .running ∧ Ended s₂ below o ∧ ∃ v L, o = .returned v ∧ Q v s₂.heap L ∧ FrameEnd s o s₂ L cl sl := by
  rw [q]; exact k
theorem own_ret (X : Stand p l e R s m args below meth c T locs cells slots) (hx : p.tables.exec = Jvm.exec) {cl sl : Nat} {Q : Option Value → Heap → List Loc → Prop} {pc : Nat} {Ls : Array Slot} {w : Value} {t : FieldType} {i : Instr} {rest : List Value} (hret : meth.sig.returnType = some t) (hn : narrow t w = w)
    (hi : (i = .ireturn ∧ (t = .int ∨ t = .boolean ∨ t = .byte ∨ t = .char ∨ t = .short) ∧ ∃ z, w = .int z) ∨ (i = .lreturn ∧ t = .long ∧ ∃ z, w = .long z) ∨ (i = .dreturn ∧ t = .double ∧ ∃ z, w = .double z) ∨ (i = .freturn ∧ t = .float ∧ ∃ z, w = .float z) ∨ (i = .areturn ∧ t.isReference = true ∧ w.isRef = true))
    (hd : decode c.code pc = .ok (i, 1)) (hlk : meth.locks = false) (hc : cells ≤ cl) (hs : slots ≤ sl) (q : Q (some w) T.heap locs) : own_fin p e below s cl sl Q (T.setTop (mkF m pc Ls (w :: rest))) := by
  obtain ⟨fs, hr, hrun, hended, hW, hsame⟩ := X.leave (v := some w) (fun h => by rw [hret] at h; cases h)
  exact ⟨_, _, retOut X hx hret hn hi hd hr, hrun, hended, _, _, rfl, q, ⟨_, rfl⟩, hW, hsame.mono hc hs⟩
theorem own_ret0 (X : Stand p l e R s m args below meth c T locs cells slots) (hx : p.tables.exec = Jvm.exec) {cl sl : Nat} {Q : Option Value → Heap → List Loc → Prop} {pc : Nat} {Ls : Array Slot} (hret : meth.sig.returnType = none)
    (hd : decode c.code pc = .ok (.return_, 1)) (hlk : meth.locks = false) (hc : cells ≤ cl) (hs : slots ≤ sl) (q : Q none T.heap locs) : own_fin p e below s cl sl Q (T.setTop (mkF m pc Ls [])) := by
  obtain ⟨fs, hr, hrun, hended, hW, hsame⟩ := X.leave (v := none) (fun _ => rfl)
  exact ⟨_, _, X.returnOut hx hret hd hr, hrun, hended, _, _, rfl, q, ⟨_, rfl⟩, hW, hsame.mono hc hs⟩
/-- the array at a holds just these values -/
def OwnA (Z : State) (h : Heap) (a : Addr) (ty : FieldType) (vs : List Value) : Prop := ∃ c : Cell, Arr Z h a c ty ∧ c.slots.toList = vs
theorem OwnA.lt (F : OwnA Z h a ty vs) : a < h.size := by obtain ⟨c, A, -⟩ := F; exact A.lt
theorem OwnA.ext (F : OwnA Z h a ty vs) (E : Ext h h') : OwnA Z h' a ty vs := by obtain ⟨c, A, r⟩ := F; exact ⟨c, A.ext E, r⟩
theorem OwnA.other (F : OwnA Z h a ty vs) (W : Wr h h' b sl v) (q : a ≠ b) : OwnA Z h' a ty vs := by obtain ⟨c, A, r⟩ := F; exact ⟨c, A.other W q, r⟩
theorem OwnA.keep {ws : List Addr} (F : OwnA Z h a ty vs) (K : Keep h h' ws) (q : a ∉ ws) : OwnA Z h' a ty vs := by obtain ⟨c, A, r⟩ := F; exact ⟨c, ⟨K.2.1 a c A.1 q, A.2⟩, r⟩
theorem OwnA.set (F : OwnA Z h a ty vs) (W : Wr h h' a sl v) : OwnA Z h' a ty (vs.set sl v) := by
  obtain ⟨c, A, rfl⟩ := F
  exact ⟨_, A.same W, by simp [Cell.setSlot]⟩
theorem own_new {k : ClassId} {z : Int32} (A : Arr Z h a (newA k ty z) ty) (q : List.replicate z.toNatClampNeg (defaultValue ty) = vs) : OwnA Z h a ty vs := ⟨_, A, by rw [← q]; simp [newA]⟩
theorem own_inb {cl : Cell} {j : Int32} (hj : ¬ j < 0) (hv : cl.slots.toList[j.toNatClampNeg]? = some v) : ¬ (j < 0 ∨ cl.slots.size ≤ j.toNatClampNeg) ∧ cl.slots[j.toNatClampNeg]? = some v := by
  rw [Array.getElem?_toList] at hv
  exact ⟨fun q => q.elim hj fun q => absurd (Array.getElem?_eq_some_iff.mp hv).1 (Nat.not_lt.mpr q), hv⟩
theorem own_len (X : Stand p l e R s m args below meth c T locs cells slots) (hx : p.tables.exec = Jvm.exec) (hZ : Z.Warmed39 s.vm) (eT : T.heap = h) (F : OwnA Z h a ty vs) {z : Int32} (hz : Int32.ofNat vs.length = z) {g : JFrame} (hg : g.method = m) {rest : List Value} (hs : g.stack = .ref a :: rest)
    (hd : decode c.code g.pc = .ok (.arraylength, 1)) (target : State) (k : Steps p.tables e below (T.setTop { g with pc := g.pc + 1, stack := .int z :: rest }) target) : Steps p.tables e below (T.setTop g) target := by
  obtain ⟨cl, A, rfl⟩ := F
  refine X.arraylength hx (cell := cl) (by rw [eT]; exact A.1) (State.isArrayOf_alike hZ.alike A.2.1) hg hs hd _ ?_
  rw [Array.length_toList] at hz
  rw [show cl.slots.size.toInt32 = z from hz]; exact k
theorem own_iaload (X : Stand p l e R s m args below meth c T locs cells slots) (hx : p.tables.exec = Jvm.exec) (hZ : Z.Warmed39 s.vm) (eT : T.heap = h) (F : OwnA Z h a .int vs) {j : Int32} (hj : ¬ j < 0) (hv : vs[j.toNatClampNeg]? = some v) {g : JFrame} (hg : g.method = m) {rest : List Value} (hs : g.stack = .int j :: .ref a :: rest)
    (hd : decode c.code g.pc = .ok (.iaload, 1)) (target : State) (k : Steps p.tables e below (T.setTop { g with pc := g.pc + 1, stack := v :: rest }) target) : Steps p.tables e below (T.setTop g) target := by
  obtain ⟨cl, A, rfl⟩ := F
  exact X.iaload hx (by rw [eT]; exact A.1) (State.isArrayOf_alike hZ.alike A.2.1) A.2.2 (own_inb hj hv).1 (own_inb hj hv).2 hg hs hd _ k
theorem own_laload (X : Stand p l e R s m args below meth c T locs cells slots) (hx : p.tables.exec = Jvm.exec) (hZ : Z.Warmed39 s.vm) (eT : T.heap = h) (F : OwnA Z h a .long vs) {j : Int32} (hj : ¬ j < 0) (hv : vs[j.toNatClampNeg]? = some v) {g : JFrame} (hg : g.method = m) {rest : List Value} (hs : g.stack = .int j :: .ref a :: rest)
    (hd : decode c.code g.pc = .ok (.laload, 1)) (target : State) (k : Steps p.tables e below (T.setTop { g with pc := g.pc + 1, stack := v :: rest }) target) : Steps p.tables e below (T.setTop g) target := by
  obtain ⟨cl, A, rfl⟩ := F
  exact X.laload hx (by rw [eT]; exact A.1) (State.isArrayOf_alike hZ.alike A.2.1) A.2.2 (own_inb hj hv).1 (own_inb hj hv).2 hg hs hd _ k
theorem own_caload (X : Stand p l e R s m args below meth c T locs cells slots) (hx : p.tables.exec = Jvm.exec) (hZ : Z.Warmed39 s.vm) (eT : T.heap = h) (F : OwnA Z h a .char vs) {j : Int32} (hj : ¬ j < 0) (hv : vs[j.toNatClampNeg]? = some v) {g : JFrame} (hg : g.method = m) {rest : List Value} (hs : g.stack = .int j :: .ref a :: rest)
    (hd : decode c.code g.pc = .ok (.caload, 1)) (target : State) (k : Steps p.tables e below (T.setTop { g with pc := g.pc + 1, stack := v :: rest }) target) : Steps p.tables e below (T.setTop g) target := by
  obtain ⟨cl, A, rfl⟩ := F
  exact X.caload hx (by rw [eT]; exact A.1) (State.isArrayOf_alike hZ.alike A.2.1) A.2.2 (own_inb hj hv).1 (own_inb hj hv).2 hg hs hd _ k
theorem own_baload (X : Stand p l e R s m args below meth c T locs cells slots) (hx : p.tables.exec = Jvm.exec) (hZ : Z.Warmed39 s.vm) (eT : T.heap = h) (F : OwnA Z h a .byte vs) {j : Int32} (hj : ¬ j < 0) (hv : vs[j.toNatClampNeg]? = some v) {g : JFrame} (hg : g.method = m) {rest : List Value} (hs : g.stack = .int j :: .ref a :: rest)
    (hd : decode c.code g.pc = .ok (.baload, 1)) (target : State) (k : Steps p.tables e below (T.setTop { g with pc := g.pc + 1, stack := v :: rest }) target) : Steps p.tables e below (T.setTop g) target := by
  obtain ⟨cl, A, rfl⟩ := F
  exact X.baloadBytes hx (by rw [eT]; exact A.1) (State.isArrayOf_alike hZ.alike A.2.1) A.2.2 (own_inb hj hv).1 (own_inb hj hv).2 hg hs hd _ k
theorem own_baloadZ (X : Stand p l e R s m args below meth c T locs cells slots) (hx : p.tables.exec = Jvm.exec) (hZ : Z.Warmed39 s.vm) (eT : T.heap = h) (F : OwnA Z h a .boolean vs) {j : Int32} (hj : ¬ j < 0) (hv : vs[j.toNatClampNeg]? = some v) {g : JFrame} (hg : g.method = m) {rest : List Value} (hs : g.stack = .int j :: .ref a :: rest)
    (hd : decode c.code g.pc = .ok (.baload, 1)) (target : State) (k : Steps p.tables e below (T.setTop { g with pc := g.pc + 1, stack := v :: rest }) target) : Steps p.tables e below (T.setTop g) target := by
  obtain ⟨cl, A, rfl⟩ := F
  exact X.baloadBooleans hx (by rw [eT]; exact A.1) (State.isArrayOf_alike hZ.alike A.2.1) A.2.2 (own_inb hj hv).1 (own_inb hj hv).2 hg hs hd _ k
theorem own_aaload (X : Stand p l e R s m args below meth c T locs cells slots) (hx : p.tables.exec = Jvm.exec) (hZ : Z.Warmed39 s.vm) (eT : T.heap = h) (F : OwnA Z h a ty vs) (hty : ty.isReference = true) {j : Int32} (hj : ¬ j < 0) (hv : vs[j.toNatClampNeg]? = some v) {g : JFrame} (hg : g.method = m) {rest : List Value} (hs : g.stack = .int j :: .ref a :: rest)
    (hd : decode c.code g.pc = .ok (.aaload, 1)) (target : State) (k : Steps p.tables e below (T.setTop { g with pc := g.pc + 1, stack := v :: rest }) target) : Steps p.tables e below (T.setTop g) target := by
  obtain ⟨cl, A, rfl⟩ := F
  exact X.aaload hx (by rw [eT]; exact A.1) (State.isArrayOf_alike hZ.alike A.2.1) hty A.2.2 (own_inb hj hv).1 (own_inb hj hv).2 hg hs hd _ k
theorem own_inl {cl : Cell} {j : Int32} (hj : ¬ j < 0) (hl : j.toNatClampNeg < cl.slots.toList.length) : ¬ (j < 0 ∨ cl.slots.size ≤ j.toNatClampNeg) := by
  rw [Array.length_toList] at hl
  exact fun q => q.elim hj fun q => absurd hl (Nat.not_lt.mpr q)
theorem own_stI (X : Stand p l e R s m args below meth c T locs cells slots) (hx : p.tables.exec = Jvm.exec) (hZ : Z.Warmed39 s.vm) (eT : T.heap = h) (F : OwnA Z h a .int vs) {j x : Int32} (hj : ¬ j < 0) (hl : j.toNatClampNeg < vs.length) {g : JFrame} (hg : g.method = m) {rest : List Value} (hs : g.stack = .int x :: .int j :: .ref a :: rest) (hd : decode c.code g.pc = .ok (.iastore, 1)) :
    ∃ T' h', Stand p l e R s m args below meth c T' (locs ++ [⟨a, j.toNatClampNeg⟩]) cells slots ∧ T'.heap = h' ∧ Wr h h' a j.toNatClampNeg (.int x) ∧ ∀ target, Steps p.tables e below (T'.setTop { g with pc := g.pc + 1, stack := rest }) target → Steps p.tables e below (T.setTop g) target := by
  obtain ⟨cl, A, rfl⟩ := F
  exact stI X hx hZ eT A (own_inl hj hl) hg hs hd
theorem own_stJ (X : Stand p l e R s m args below meth c T locs cells slots) (hx : p.tables.exec = Jvm.exec) (hZ : Z.Warmed39 s.vm) (eT : T.heap = h) (F : OwnA Z h a .long vs) {j : Int32} {x : Int64} (hj : ¬ j < 0) (hl : j.toNatClampNeg < vs.length) {g : JFrame} (hg : g.method = m) {rest : List Value} (hs : g.stack = .long x :: .int j :: .ref a :: rest) (hd : decode c.code g.pc = .ok (.lastore, 1)) :
    ∃ T' h', Stand p l e R s m args below meth c T' (locs ++ [⟨a, j.toNatClampNeg⟩]) cells slots ∧ T'.heap = h' ∧ Wr h h' a j.toNatClampNeg (.long x) ∧ ∀ target, Steps p.tables e below (T'.setTop { g with pc := g.pc + 1, stack := rest }) target → Steps p.tables e below (T.setTop g) target := by
  obtain ⟨cl, A, rfl⟩ := F
  exact stJ X hx hZ eT A (own_inl hj hl) hg hs hd
theorem own_stB (X : Stand p l e R s m args below meth c T locs cells slots) (hx : p.tables.exec = Jvm.exec) (hZ : Z.Warmed39 s.vm) (eT : T.heap = h) (F : OwnA Z h a .byte vs) {j x : Int32} (hj : ¬ j < 0) (hl : j.toNatClampNeg < vs.length) {g : JFrame} (hg : g.method = m) {rest : List Value} (hs : g.stack = .int x :: .int j :: .ref a :: rest) (hd : decode c.code g.pc = .ok (.bastore, 1)) :
    ∃ T' h', Stand p l e R s m args below meth c T' (locs ++ [⟨a, j.toNatClampNeg⟩]) cells slots ∧ T'.heap = h' ∧ Wr h h' a j.toNatClampNeg (.int x.toInt8.toInt32) ∧ ∀ target, Steps p.tables e below (T'.setTop { g with pc := g.pc + 1, stack := rest }) target → Steps p.tables e below (T.setTop g) target := by
  obtain ⟨cl, A, rfl⟩ := F
  exact stB X hx hZ eT A (own_inl hj hl) hg hs hd
theorem own_stC (X : Stand p l e R s m args below meth c T locs cells slots) (hx : p.tables.exec = Jvm.exec) (hZ : Z.Warmed39 s.vm) (eT : T.heap = h) (F : OwnA Z h a .char vs) {j x : Int32} (hj : ¬ j < 0) (hl : j.toNatClampNeg < vs.length) {g : JFrame} (hg : g.method = m) {rest : List Value} (hs : g.stack = .int x :: .int j :: .ref a :: rest) (hd : decode c.code g.pc = .ok (.castore, 1)) :
    ∃ T' h', Stand p l e R s m args below meth c T' (locs ++ [⟨a, j.toNatClampNeg⟩]) cells slots ∧ T'.heap = h' ∧ Wr h h' a j.toNatClampNeg (.int x.toUInt32.toUInt16.toUInt32.toInt32) ∧ ∀ target, Steps p.tables e below (T'.setTop { g with pc := g.pc + 1, stack := rest }) target → Steps p.tables e below (T.setTop g) target := by
  obtain ⟨cl, A, rfl⟩ := F
  exact stC X hx hZ eT A (own_inl hj hl) hg hs hd
end Own
def own_xs (z : Int64) (k : Int32) : Int64 := (z ^^^ ((z.toUInt64 >>> (k &&& 0x3f).toInt64.toUInt64).toInt64))
def own_mix (x : Int64) : Int64 := own_xs (own_xs (own_xs x 30 * (-4658895280553007687)) 27 * (-7723592293110705685)) 31
theorem own_g2 (q : Int64) : q + (-7046029254386353131) + (-7046029254386353131) = q + 4354685564936845354 := by rw [Int64.add_assoc]; rfl
theorem own_g3 (q : Int64) : q + (-7046029254386353131) + (-7046029254386353131) + (-7046029254386353131) = q + (-2691343689449507777) := by rw [Int64.add_assoc, Int64.add_assoc]; rfl
theorem d1_0 : decode prog_57_method_1_code 0 = .ok (.aload_n 0, 1) := by decide +kernel
theorem d1_1 : decode prog_57_method_1_code 1 = .ok (.invokespecial 1, 3) := by decide +kernel
theorem d1_4 : decode prog_57_method_1_code 4 = .ok (.aload_n 0, 1) := by decide +kernel
theorem d1_5 : decode prog_57_method_1_code 5 = .ok (.lload_n 1, 1) := by decide +kernel
theorem d1_6 : decode prog_57_method_1_code 6 = .ok (.putfield 7, 3) := by decide +kernel
theorem d1_9 : decode prog_57_method_1_code 9 = .ok (.return_, 1) := by decide +kernel
theorem pn_1 : plainName "com/example/triarch/triarch/Rng" = true := by first | (simp [plainName, overriddenIn]; done) | decide +kernel
theorem ef_rm1 (m : MethodId) (x0 : Addr) (x1 : Int64) : entryFrame m #[(.ref x0), (.long x1)] 3 = mkF m 0 #[.val (.ref x0), .val (.long x1), .second] [] := by first | (simp [entryFrame, mkF, argsToLocals, Value.category]; done) | rfl
def Q_rm1 (Z : State) (a1 : Addr) (q2 : Int64) (h0 : Heap) (n0 : Nat) (v : Option Value) (h : Heap) (L : List Loc) : Prop := v = none ∧ Fr n0 L ∧ Keep h0 h [a1] ∧ Fld Z h a1 "com/example/triarch/triarch/Rng" "state" "J" (.long q2)
set_option maxRecDepth 65536 in
set_option maxHeartbeats 40000000 in
theorem rm1 (l : Launch) (Z : State) (a0 : Array Value) (hw : ∀ d ∈ tables_1, d.before a0 Z = true) (ws : List Jvm.Cond) (a1 : Addr) (q2 : Int64) (h0 : Heap) (n0 : Nat) (Zn : n0 ≤ h0.size) (E_a1 : Exa Z h0 a1 "com/example/triarch/triarch/Rng") (F_a1 : Fld Z h0 a1 "com/example/triarch/triarch/Rng" "state" "J" (.long (0 : Int64))) (o_a1 : n0 ≤ a1) :
    MetFree l (⟨"com/example/triarch/triarch/Rng", "<init>", "(J)V"⟩ : MethodName) (head1 (Jvm.Cond.code (⟨"com/example/triarch/triarch/Rng", "<init>", "(J)V"⟩ : MethodName) prog_57_method_1_code 3 none :: ws) ({ frames := 1, cells := 0, slots := 0, locals := 12 } : Room)) (fun a U => a = #[(.ref a1), (.long q2)] ∧ Z.Warmed39 U.vm ∧ U.heap = h0) (fun _ _ _ _ _ => True) (fun _ U o U' => ∃ v L, o = .returned v ∧ (Q_rm1 Z a1 q2 h0 n0) v U'.heap L ∧ FrameEnd U o U' L ({ frames := 1, cells := 0, slots := 0, locals := 12 } : Room).cells ({ frames := 1, cells := 0, slots := 0, locals := 12 } : Room).slots) := by
  refine MetFree.of_bodySF (plainFor_of_name pn_1) hisR ?_
  intro p e s m args below meth c s₁ Bd hml0 hP hK
  obtain ⟨rfl, hZ, hh⟩ := hP
  have hx := Bd.exec
  have hby := Bd.bytes
  have hml : c.maxLocals = 3 := hml0
  have hown : s.vm.findClass "com/example/triarch/triarch/Rng" = some m.cls := findClass_of_methodNamed Bd.named
  have hnm := (name_of_methodNamed Bd.named Bd.method).1
  have hlk : meth.locks = false := BodyLoose.notSynchronized Bd
  have X0 : Stand p l e ({ frames := 1, cells := 0, slots := 0, locals := 12 } : Room) s m #[(.ref a1), (.long q2)] below meth c s₁ [] 0 0 := Stand.of_body Bd
  have e0 : s₁.heap = h0 := by rw [← hh, Bd.state]; rfl
  have N := Fr.nil n0
  have K := Keep.refl h0 [a1]
  refine own_start (cl := ({ frames := 1, cells := 0, slots := 0, locals := 12 } : Room).cells) (sl := ({ frames := 1, cells := 0, slots := 0, locals := 12 } : Room).slots) (Q := (Q_rm1 Z a1 q2 h0 n0)) (ef_rm1 m a1 q2) ?_
  refine own_by (S' := (s₁.setTop (mkF m 1 #[.val (.ref a1), .val (.long q2), .second] [(.ref a1)]))) (fun _ k => XS.aloadN X0.here hx rfl (hb hby d1_0) rfl rfl k) ?_
  obtain ⟨T1, X1, e1, st1⟩ := initO X0 hx hZ hown (hw _ (List.mem_of_getElem? (i := 6) rfl)) (hw _ (List.mem_of_getElem? (i := 7) rfl)) (hw _ (List.mem_of_getElem? (i := 8) rfl)) e0 (g := (mkF m 1 #[.val (.ref a1), .val (.long q2), .second] [(.ref a1)])) rfl (by rw [hml]; rfl) rfl (hb hby d1_1) (by decide) (W := 0) (by show 2 * 0 + _ ≤ _; exact Nat.le_of_eq rfl) (by decide)
  refine own_by (S' := (T1.setTop (mkF m 4 #[.val (.ref a1), .val (.long q2), .second] []))) st1 ?_
  refine own_by (S' := (T1.setTop (mkF m 5 #[.val (.ref a1), .val (.long q2), .second] [(.ref a1)]))) (fun _ k => XS.aloadN X1.here hx rfl (hb hby d1_4) rfl rfl k) ?_
  refine own_by (S' := (T1.setTop (mkF m 6 #[.val (.ref a1), .val (.long q2), .second] [(.long q2), (.ref a1)]))) (fun _ k => XS.lloadN X1.here hx rfl (hb hby d1_5) rfl k) ?_
  obtain ⟨T2, h2, X2, e2, W2, st2⟩ := putF X1 hx hZ hown (host := "") (Or.inl (hw _ (List.mem_of_getElem? (i := 9) rfl))) Via.refl e1 F_a1 E_a1 (Or.inl (hw _ (List.mem_of_getElem? (i := 10) rfl))) (hw _ (List.mem_of_getElem? (i := 1) rfl)) (ty := .long) (by decide) rfl rfl (g := (mkF m 6 #[.val (.ref a1), .val (.long q2), .second] [(.long q2), (.ref a1)])) rfl rfl (hb hby d1_6)
  have N := Fr.snoc X2 N o_a1
  have E_a1 := E_a1.wr W2
  have F_a1 := F_a1.same W2
  have Zn : n0 ≤ _ := Nat.le_trans Zn (Nat.le_of_eq W2.size.symm)
  have K := K.wr W2 (Or.inl (List.mem_of_getElem? (i := 0) rfl))
  refine own_by (S' := (T2.setTop (mkF m 9 #[.val (.ref a1), .val (.long q2), .second] []))) st2 ?_
  exact own_ret0 X2 hx Bd.returns (hb hby d1_9) hlk (by decide : 0 ≤ _) (by decide : 0 ≤ _) (by rw [e2]; exact ⟨rfl, N, K, F_a1⟩)
theorem d3_0 : decode prog_57_method_2_code 0 = .ok (.aload_n 0, 1) := by decide +kernel
theorem d3_1 : decode prog_57_method_2_code 1 = .ok (.dup, 1) := by decide +kernel
theorem d3_2 : decode prog_57_method_2_code 2 = .ok (.getfield 7, 3) := by decide +kernel
theorem d3_5 : decode prog_57_method_2_code 5 = .ok (.ldc2_w 13, 3) := by decide +kernel
theorem d3_8 : decode prog_57_method_2_code 8 = .ok (.ladd, 1) := by decide +kernel
theorem d3_9 : decode prog_57_method_2_code 9 = .ok (.putfield 7, 3) := by decide +kernel
theorem d3_12 : decode prog_57_method_2_code 12 = .ok (.aload_n 0, 1) := by decide +kernel
theorem d3_13 : decode prog_57_method_2_code 13 = .ok (.getfield 7, 3) := by decide +kernel
theorem d3_16 : decode prog_57_method_2_code 16 = .ok (.lstore_n 1, 1) := by decide +kernel
theorem d3_17 : decode prog_57_method_2_code 17 = .ok (.lload_n 1, 1) := by decide +kernel
theorem d3_18 : decode prog_57_method_2_code 18 = .ok (.lload_n 1, 1) := by decide +kernel
theorem d3_19 : decode prog_57_method_2_code 19 = .ok (.bipush 30, 2) := by decide +kernel
theorem d3_21 : decode prog_57_method_2_code 21 = .ok (.lushr, 1) := by decide +kernel
theorem d3_22 : decode prog_57_method_2_code 22 = .ok (.lxor, 1) := by decide +kernel
theorem d3_23 : decode prog_57_method_2_code 23 = .ok (.ldc2_w 15, 3) := by decide +kernel
theorem d3_26 : decode prog_57_method_2_code 26 = .ok (.lmul, 1) := by decide +kernel
theorem d3_27 : decode prog_57_method_2_code 27 = .ok (.lstore_n 1, 1) := by decide +kernel
theorem d3_28 : decode prog_57_method_2_code 28 = .ok (.lload_n 1, 1) := by decide +kernel
theorem d3_29 : decode prog_57_method_2_code 29 = .ok (.lload_n 1, 1) := by decide +kernel
theorem d3_30 : decode prog_57_method_2_code 30 = .ok (.bipush 27, 2) := by decide +kernel
theorem d3_32 : decode prog_57_method_2_code 32 = .ok (.lushr, 1) := by decide +kernel
theorem d3_33 : decode prog_57_method_2_code 33 = .ok (.lxor, 1) := by decide +kernel
theorem d3_34 : decode prog_57_method_2_code 34 = .ok (.ldc2_w 17, 3) := by decide +kernel
theorem d3_37 : decode prog_57_method_2_code 37 = .ok (.lmul, 1) := by decide +kernel
theorem d3_38 : decode prog_57_method_2_code 38 = .ok (.lstore_n 1, 1) := by decide +kernel
theorem d3_39 : decode prog_57_method_2_code 39 = .ok (.lload_n 1, 1) := by decide +kernel
theorem d3_40 : decode prog_57_method_2_code 40 = .ok (.lload_n 1, 1) := by decide +kernel
theorem d3_41 : decode prog_57_method_2_code 41 = .ok (.bipush 31, 2) := by decide +kernel
theorem d3_43 : decode prog_57_method_2_code 43 = .ok (.lushr, 1) := by decide +kernel
theorem d3_44 : decode prog_57_method_2_code 44 = .ok (.lxor, 1) := by decide +kernel
theorem d3_45 : decode prog_57_method_2_code 45 = .ok (.lreturn, 1) := by decide +kernel
theorem pn_3 : plainName "com/example/triarch/triarch/Rng" = true := by first | (simp [plainName, overriddenIn]; done) | decide +kernel
theorem ef_rm3 (m : MethodId) (x0 : Addr) : entryFrame m #[(.ref x0)] 3 = mkF m 0 #[.val (.ref x0), .unset, .unset] [] := by first | (simp [entryFrame, mkF, argsToLocals, Value.category]; done) | rfl
def Q_rm3 (Z : State) (a1 : Addr) (q2 : Int64) (h0 : Heap) (n0 : Nat) (v : Option Value) (h : Heap) (L : List Loc) : Prop := v = some (.long (own_mix (q2 + (-7046029254386353131)))) ∧ Fr n0 L ∧ Keep h0 h [a1] ∧ Fld Z h a1 "com/example/triarch/triarch/Rng" "state" "J" (.long (q2 + (-7046029254386353131)))
set_option maxRecDepth 65536 in
set_option maxHeartbeats 40000000 in
theorem rm3 (l : Launch) (Z : State) (a0 : Array Value) (hw : ∀ d ∈ tables_1, d.before a0 Z = true) (ws : List Jvm.Cond) (a1 : Addr) (q2 : Int64) (h0 : Heap) (n0 : Nat) (Zn : n0 ≤ h0.size) (E_a1 : Exa Z h0 a1 "com/example/triarch/triarch/Rng") (F_a1 : Fld Z h0 a1 "com/example/triarch/triarch/Rng" "state" "J" (.long q2)) (o_a1 : n0 ≤ a1) :
    MetFree l (⟨"com/example/triarch/triarch/Rng", "next", "()J"⟩ : MethodName) (head1 (Jvm.Cond.code (⟨"com/example/triarch/triarch/Rng", "next", "()J"⟩ : MethodName) prog_57_method_2_code 3 (some .long) :: ws) ({ frames := 0, cells := 0, slots := 0, locals := 0 } : Room)) (fun a U => a = #[(.ref a1)] ∧ Z.Warmed39 U.vm ∧ U.heap = h0) (fun _ _ _ _ _ => True) (fun _ U o U' => ∃ v L, o = .returned v ∧ (Q_rm3 Z a1 q2 h0 n0) v U'.heap L ∧ FrameEnd U o U' L ({ frames := 0, cells := 0, slots := 0, locals := 0 } : Room).cells ({ frames := 0, cells := 0, slots := 0, locals := 0 } : Room).slots) := by
  refine MetFree.of_bodySF (plainFor_of_name pn_3) hisR ?_
  intro p e s m args below meth c s₁ Bd hml0 hP hK
  obtain ⟨rfl, hZ, hh⟩ := hP
  have hx := Bd.exec
  have hby := Bd.bytes
  have hml : c.maxLocals = 3 := hml0
  have hown : s.vm.findClass "com/example/triarch/triarch/Rng" = some m.cls := findClass_of_methodNamed Bd.named
  have hnm := (name_of_methodNamed Bd.named Bd.method).1
  have hlk : meth.locks = false := BodyLoose.notSynchronized Bd
  have X0 : Stand p l e ({ frames := 0, cells := 0, slots := 0, locals := 0 } : Room) s m #[(.ref a1)] below meth c s₁ [] 0 0 := Stand.of_body Bd
  have e0 : s₁.heap = h0 := by rw [← hh, Bd.state]; rfl
  have N := Fr.nil n0
  have K := Keep.refl h0 [a1]
  refine own_start (cl := ({ frames := 0, cells := 0, slots := 0, locals := 0 } : Room).cells) (sl := ({ frames := 0, cells := 0, slots := 0, locals := 0 } : Room).slots) (Q := (Q_rm3 Z a1 q2 h0 n0)) (ef_rm3 m a1) ?_
  refine own_by (S' := (s₁.setTop (mkF m 1 #[.val (.ref a1), .unset, .unset] [(.ref a1)]))) (fun _ k => XS.aloadN X0.here hx rfl (hb hby d3_0) rfl rfl k) ?_
  refine own_by (S' := (s₁.setTop (mkF m 2 #[.val (.ref a1), .unset, .unset] [(.ref a1), (.ref a1)]))) (fun _ k => XS.dup X0.here hx rfl (hb hby d3_1) rfl rfl k) ?_
  obtain ⟨T3, X3, e3, st3⟩ := getF X0 hx hZ hown (host := "") (Or.inl (hw _ (List.mem_of_getElem? (i := 9) rfl))) Via.refl e0 F_a1 (g := (mkF m 2 #[.val (.ref a1), .unset, .unset] [(.ref a1), (.ref a1)])) rfl rfl (hb hby d3_2)
  refine own_by (S' := (T3.setTop (mkF m 5 #[.val (.ref a1), .unset, .unset] [(.long q2), (.ref a1)]))) st3 ?_
  refine own_by (S' := (T3.setTop (mkF m 8 #[.val (.ref a1), .unset, .unset] [(.long (-7046029254386353131 : Int64)), (.long q2), (.ref a1)]))) (fun _ k => X3.ldc2Long hx hown (mvT hZ (hw _ (List.mem_of_getElem? (i := 16) rfl))) (g := (mkF m 5 #[.val (.ref a1), .unset, .unset] [(.long q2), (.ref a1)])) rfl (hb hby d3_5) _ k) ?_
  refine own_by (S' := (T3.setTop (mkF m 9 #[.val (.ref a1), .unset, .unset] [(.long (q2 + (-7046029254386353131 : Int64))), (.ref a1)]))) (fun _ k => XS.ladd X3.here hx rfl (hb hby d3_8) rfl k) ?_
  obtain ⟨T4, h4, X4, e4, W4, st4⟩ := putF X3 hx hZ hown (host := "") (Or.inl (hw _ (List.mem_of_getElem? (i := 9) rfl))) Via.refl e3 F_a1 E_a1 (Or.inl (hw _ (List.mem_of_getElem? (i := 10) rfl))) (hw _ (List.mem_of_getElem? (i := 1) rfl)) (ty := .long) (by decide) rfl rfl (g := (mkF m 9 #[.val (.ref a1), .unset, .unset] [(.long (q2 + (-7046029254386353131 : Int64))), (.ref a1)])) rfl rfl (hb hby d3_9)
  have N := Fr.snoc X4 N o_a1
  have E_a1 := E_a1.wr W4
  have F_a1 := F_a1.same W4
  have Zn : n0 ≤ _ := Nat.le_trans Zn (Nat.le_of_eq W4.size.symm)
  have K := K.wr W4 (Or.inl (List.mem_of_getElem? (i := 0) rfl))
  refine own_by (S' := (T4.setTop (mkF m 12 #[.val (.ref a1), .unset, .unset] []))) st4 ?_
  refine own_by (S' := (T4.setTop (mkF m 13 #[.val (.ref a1), .unset, .unset] [(.ref a1)]))) (fun _ k => XS.aloadN X4.here hx rfl (hb hby d3_12) rfl rfl k) ?_
  obtain ⟨T5, X5, e5, st5⟩ := getF X4 hx hZ hown (host := "") (Or.inl (hw _ (List.mem_of_getElem? (i := 9) rfl))) Via.refl e4 F_a1 (g := (mkF m 13 #[.val (.ref a1), .unset, .unset] [(.ref a1)])) rfl rfl (hb hby d3_13)
  refine own_by (S' := (T5.setTop (mkF m 16 #[.val (.ref a1), .unset, .unset] [(.long (q2 + (-7046029254386353131 : Int64)))]))) st5 ?_
  refine own_by (S' := (T5.setTop (mkF m 17 #[.val (.ref a1), .val (.long (q2 + (-7046029254386353131 : Int64))), .second] []))) (fun _ k => XS.lstoreN X5.here hx rfl (hb hby d3_16) rfl (l' := #[.val (.ref a1), .val (.long (q2 + (-7046029254386353131 : Int64))), .second]) rfl k) ?_
  refine own_by (S' := (T5.setTop (mkF m 18 #[.val (.ref a1), .val (.long (q2 + (-7046029254386353131 : Int64))), .second] [(.long (q2 + (-7046029254386353131 : Int64)))]))) (fun _ k => XS.lloadN X5.here hx rfl (hb hby d3_17) rfl k) ?_
  refine own_by (S' := (T5.setTop (mkF m 19 #[.val (.ref a1), .val (.long (q2 + (-7046029254386353131 : Int64))), .second] [(.long (q2 + (-7046029254386353131 : Int64))), (.long (q2 + (-7046029254386353131 : Int64)))]))) (fun _ k => XS.lloadN X5.here hx rfl (hb hby d3_18) rfl k) ?_
  refine own_by (S' := (T5.setTop (mkF m 21 #[.val (.ref a1), .val (.long (q2 + (-7046029254386353131 : Int64))), .second] [(.int (30 : Int32)), (.long (q2 + (-7046029254386353131 : Int64))), (.long (q2 + (-7046029254386353131 : Int64)))]))) (fun _ k => XS.bipush X5.here hx rfl (hb hby d3_19) k) ?_
  refine own_by (S' := (T5.setTop (mkF m 22 #[.val (.ref a1), .val (.long (q2 + (-7046029254386353131 : Int64))), .second] [(.long (((q2 + (-7046029254386353131 : Int64)).toUInt64 >>> ((30 : Int32) &&& 0x3f).toInt64.toUInt64).toInt64)), (.long (q2 + (-7046029254386353131 : Int64)))]))) (fun _ k => XS.lushr X5.here hx rfl (hb hby d3_21) rfl k) ?_
  refine own_by (S' := (T5.setTop (mkF m 23 #[.val (.ref a1), .val (.long (q2 + (-7046029254386353131 : Int64))), .second] [(.long ((q2 + (-7046029254386353131 : Int64)) ^^^ (((q2 + (-7046029254386353131 : Int64)).toUInt64 >>> ((30 : Int32) &&& 0x3f).toInt64.toUInt64).toInt64)))]))) (fun _ k => XS.lxor X5.here hx rfl (hb hby d3_22) rfl k) ?_
  refine own_by (S' := (T5.setTop (mkF m 26 #[.val (.ref a1), .val (.long (q2 + (-7046029254386353131 : Int64))), .second] [(.long (-4658895280553007687 : Int64)), (.long ((q2 + (-7046029254386353131 : Int64)) ^^^ (((q2 + (-7046029254386353131 : Int64)).toUInt64 >>> ((30 : Int32) &&& 0x3f).toInt64.toUInt64).toInt64)))]))) (fun _ k => X5.ldc2Long hx hown (mvT hZ (hw _ (List.mem_of_getElem? (i := 17) rfl))) (g := (mkF m 23 #[.val (.ref a1), .val (.long (q2 + (-7046029254386353131 : Int64))), .second] [(.long ((q2 + (-7046029254386353131 : Int64)) ^^^ (((q2 + (-7046029254386353131 : Int64)).toUInt64 >>> ((30 : Int32) &&& 0x3f).toInt64.toUInt64).toInt64)))])) rfl (hb hby d3_23) _ k) ?_
  refine own_by (S' := (T5.setTop (mkF m 27 #[.val (.ref a1), .val (.long (q2 + (-7046029254386353131 : Int64))), .second] [(.long (((q2 + (-7046029254386353131 : Int64)) ^^^ (((q2 + (-7046029254386353131 : Int64)).toUInt64 >>> ((30 : Int32) &&& 0x3f).toInt64.toUInt64).toInt64)) * (-4658895280553007687 : Int64)))]))) (fun _ k => XS.lmul X5.here hx rfl (hb hby d3_26) rfl k) ?_
  refine own_by (S' := (T5.setTop (mkF m 28 #[.val (.ref a1), .val (.long (((q2 + (-7046029254386353131 : Int64)) ^^^ (((q2 + (-7046029254386353131 : Int64)).toUInt64 >>> ((30 : Int32) &&& 0x3f).toInt64.toUInt64).toInt64)) * (-4658895280553007687 : Int64))), .second] []))) (fun _ k => XS.lstoreN X5.here hx rfl (hb hby d3_27) rfl (l' := #[.val (.ref a1), .val (.long (((q2 + (-7046029254386353131 : Int64)) ^^^ (((q2 + (-7046029254386353131 : Int64)).toUInt64 >>> ((30 : Int32) &&& 0x3f).toInt64.toUInt64).toInt64)) * (-4658895280553007687 : Int64))), .second]) rfl k) ?_
  refine own_by (S' := (T5.setTop (mkF m 29 #[.val (.ref a1), .val (.long (((q2 + (-7046029254386353131 : Int64)) ^^^ (((q2 + (-7046029254386353131 : Int64)).toUInt64 >>> ((30 : Int32) &&& 0x3f).toInt64.toUInt64).toInt64)) * (-4658895280553007687 : Int64))), .second] [(.long (((q2 + (-7046029254386353131 : Int64)) ^^^ (((q2 + (-7046029254386353131 : Int64)).toUInt64 >>> ((30 : Int32) &&& 0x3f).toInt64.toUInt64).toInt64)) * (-4658895280553007687 : Int64)))]))) (fun _ k => XS.lloadN X5.here hx rfl (hb hby d3_28) rfl k) ?_
  refine own_by (S' := (T5.setTop (mkF m 30 #[.val (.ref a1), .val (.long (((q2 + (-7046029254386353131 : Int64)) ^^^ (((q2 + (-7046029254386353131 : Int64)).toUInt64 >>> ((30 : Int32) &&& 0x3f).toInt64.toUInt64).toInt64)) * (-4658895280553007687 : Int64))), .second] [(.long (((q2 + (-7046029254386353131 : Int64)) ^^^ (((q2 + (-7046029254386353131 : Int64)).toUInt64 >>> ((30 : Int32) &&& 0x3f).toInt64.toUInt64).toInt64)) * (-4658895280553007687 : Int64))), (.long (((q2 + (-7046029254386353131 : Int64)) ^^^ (((q2 + (-7046029254386353131 : Int64)).toUInt64 >>> ((30 : Int32) &&& 0x3f).toInt64.toUInt64).toInt64)) * (-4658895280553007687 : Int64)))]))) (fun _ k => XS.lloadN X5.here hx rfl (hb hby d3_29) rfl k) ?_
  refine own_by (S' := (T5.setTop (mkF m 32 #[.val (.ref a1), .val (.long (((q2 + (-7046029254386353131 : Int64)) ^^^ (((q2 + (-7046029254386353131 : Int64)).toUInt64 >>> ((30 : Int32) &&& 0x3f).toInt64.toUInt64).toInt64)) * (-4658895280553007687 : Int64))), .second] [(.int (27 : Int32)), (.long (((q2 + (-7046029254386353131 : Int64)) ^^^ (((q2 + (-7046029254386353131 : Int64)).toUInt64 >>> ((30 : Int32) &&& 0x3f).toInt64.toUInt64).toInt64)) * (-4658895280553007687 : Int64))), (.long (((q2 + (-7046029254386353131 : Int64)) ^^^ (((q2 + (-7046029254386353131 : Int64)).toUInt64 >>> ((30 : Int32) &&& 0x3f).toInt64.toUInt64).toInt64)) * (-4658895280553007687 : Int64)))]))) (fun _ k => XS.bipush X5.here hx rfl (hb hby d3_30) k) ?_
  refine own_by (S' := (T5.setTop (mkF m 33 #[.val (.ref a1), .val (.long (((q2 + (-7046029254386353131 : Int64)) ^^^ (((q2 + (-7046029254386353131 : Int64)).toUInt64 >>> ((30 : Int32) &&& 0x3f).toInt64.toUInt64).toInt64)) * (-4658895280553007687 : Int64))), .second] [(.long (((((q2 + (-7046029254386353131 : Int64)) ^^^ (((q2 + (-7046029254386353131 : Int64)).toUInt64 >>> ((30 : Int32) &&& 0x3f).toInt64.toUInt64).toInt64)) * (-4658895280553007687 : Int64)).toUInt64 >>> ((27 : Int32) &&& 0x3f).toInt64.toUInt64).toInt64)), (.long (((q2 + (-7046029254386353131 : Int64)) ^^^ (((q2 + (-7046029254386353131 : Int64)).toUInt64 >>> ((30 : Int32) &&& 0x3f).toInt64.toUInt64).toInt64)) * (-4658895280553007687 : Int64)))]))) (fun _ k => XS.lushr X5.here hx rfl (hb hby d3_32) rfl k) ?_
  refine own_by (S' := (T5.setTop (mkF m 34 #[.val (.ref a1), .val (.long (((q2 + (-7046029254386353131 : Int64)) ^^^ (((q2 + (-7046029254386353131 : Int64)).toUInt64 >>> ((30 : Int32) &&& 0x3f).toInt64.toUInt64).toInt64)) * (-4658895280553007687 : Int64))), .second] [(.long ((((q2 + (-7046029254386353131 : Int64)) ^^^ (((q2 + (-7046029254386353131 : Int64)).toUInt64 >>> ((30 : Int32) &&& 0x3f).toInt64.toUInt64).toInt64)) * (-4658895280553007687 : Int64)) ^^^ (((((q2 + (-7046029254386353131 : Int64)) ^^^ (((q2 + (-7046029254386353131 : Int64)).toUInt64 >>> ((30 : Int32) &&& 0x3f).toInt64.toUInt64).toInt64)) * (-4658895280553007687 : Int64)).toUInt64 >>> ((27 : Int32) &&& 0x3f).toInt64.toUInt64).toInt64)))]))) (fun _ k => XS.lxor X5.here hx rfl (hb hby d3_33) rfl k) ?_
  refine own_by (S' := (T5.setTop (mkF m 37 #[.val (.ref a1), .val (.long (((q2 + (-7046029254386353131 : Int64)) ^^^ (((q2 + (-7046029254386353131 : Int64)).toUInt64 >>> ((30 : Int32) &&& 0x3f).toInt64.toUInt64).toInt64)) * (-4658895280553007687 : Int64))), .second] [(.long (-7723592293110705685 : Int64)), (.long ((((q2 + (-7046029254386353131 : Int64)) ^^^ (((q2 + (-7046029254386353131 : Int64)).toUInt64 >>> ((30 : Int32) &&& 0x3f).toInt64.toUInt64).toInt64)) * (-4658895280553007687 : Int64)) ^^^ (((((q2 + (-7046029254386353131 : Int64)) ^^^ (((q2 + (-7046029254386353131 : Int64)).toUInt64 >>> ((30 : Int32) &&& 0x3f).toInt64.toUInt64).toInt64)) * (-4658895280553007687 : Int64)).toUInt64 >>> ((27 : Int32) &&& 0x3f).toInt64.toUInt64).toInt64)))]))) (fun _ k => X5.ldc2Long hx hown (mvT hZ (hw _ (List.mem_of_getElem? (i := 18) rfl))) (g := (mkF m 34 #[.val (.ref a1), .val (.long (((q2 + (-7046029254386353131 : Int64)) ^^^ (((q2 + (-7046029254386353131 : Int64)).toUInt64 >>> ((30 : Int32) &&& 0x3f).toInt64.toUInt64).toInt64)) * (-4658895280553007687 : Int64))), .second] [(.long ((((q2 + (-7046029254386353131 : Int64)) ^^^ (((q2 + (-7046029254386353131 : Int64)).toUInt64 >>> ((30 : Int32) &&& 0x3f).toInt64.toUInt64).toInt64)) * (-4658895280553007687 : Int64)) ^^^ (((((q2 + (-7046029254386353131 : Int64)) ^^^ (((q2 + (-7046029254386353131 : Int64)).toUInt64 >>> ((30 : Int32) &&& 0x3f).toInt64.toUInt64).toInt64)) * (-4658895280553007687 : Int64)).toUInt64 >>> ((27 : Int32) &&& 0x3f).toInt64.toUInt64).toInt64)))])) rfl (hb hby d3_34) _ k) ?_
  refine own_by (S' := (T5.setTop (mkF m 38 #[.val (.ref a1), .val (.long (((q2 + (-7046029254386353131 : Int64)) ^^^ (((q2 + (-7046029254386353131 : Int64)).toUInt64 >>> ((30 : Int32) &&& 0x3f).toInt64.toUInt64).toInt64)) * (-4658895280553007687 : Int64))), .second] [(.long (((((q2 + (-7046029254386353131 : Int64)) ^^^ (((q2 + (-7046029254386353131 : Int64)).toUInt64 >>> ((30 : Int32) &&& 0x3f).toInt64.toUInt64).toInt64)) * (-4658895280553007687 : Int64)) ^^^ (((((q2 + (-7046029254386353131 : Int64)) ^^^ (((q2 + (-7046029254386353131 : Int64)).toUInt64 >>> ((30 : Int32) &&& 0x3f).toInt64.toUInt64).toInt64)) * (-4658895280553007687 : Int64)).toUInt64 >>> ((27 : Int32) &&& 0x3f).toInt64.toUInt64).toInt64)) * (-7723592293110705685 : Int64)))]))) (fun _ k => XS.lmul X5.here hx rfl (hb hby d3_37) rfl k) ?_
  refine own_by (S' := (T5.setTop (mkF m 39 #[.val (.ref a1), .val (.long (((((q2 + (-7046029254386353131 : Int64)) ^^^ (((q2 + (-7046029254386353131 : Int64)).toUInt64 >>> ((30 : Int32) &&& 0x3f).toInt64.toUInt64).toInt64)) * (-4658895280553007687 : Int64)) ^^^ (((((q2 + (-7046029254386353131 : Int64)) ^^^ (((q2 + (-7046029254386353131 : Int64)).toUInt64 >>> ((30 : Int32) &&& 0x3f).toInt64.toUInt64).toInt64)) * (-4658895280553007687 : Int64)).toUInt64 >>> ((27 : Int32) &&& 0x3f).toInt64.toUInt64).toInt64)) * (-7723592293110705685 : Int64))), .second] []))) (fun _ k => XS.lstoreN X5.here hx rfl (hb hby d3_38) rfl (l' := #[.val (.ref a1), .val (.long (((((q2 + (-7046029254386353131 : Int64)) ^^^ (((q2 + (-7046029254386353131 : Int64)).toUInt64 >>> ((30 : Int32) &&& 0x3f).toInt64.toUInt64).toInt64)) * (-4658895280553007687 : Int64)) ^^^ (((((q2 + (-7046029254386353131 : Int64)) ^^^ (((q2 + (-7046029254386353131 : Int64)).toUInt64 >>> ((30 : Int32) &&& 0x3f).toInt64.toUInt64).toInt64)) * (-4658895280553007687 : Int64)).toUInt64 >>> ((27 : Int32) &&& 0x3f).toInt64.toUInt64).toInt64)) * (-7723592293110705685 : Int64))), .second]) rfl k) ?_
  refine own_by (S' := (T5.setTop (mkF m 40 #[.val (.ref a1), .val (.long (((((q2 + (-7046029254386353131 : Int64)) ^^^ (((q2 + (-7046029254386353131 : Int64)).toUInt64 >>> ((30 : Int32) &&& 0x3f).toInt64.toUInt64).toInt64)) * (-4658895280553007687 : Int64)) ^^^ (((((q2 + (-7046029254386353131 : Int64)) ^^^ (((q2 + (-7046029254386353131 : Int64)).toUInt64 >>> ((30 : Int32) &&& 0x3f).toInt64.toUInt64).toInt64)) * (-4658895280553007687 : Int64)).toUInt64 >>> ((27 : Int32) &&& 0x3f).toInt64.toUInt64).toInt64)) * (-7723592293110705685 : Int64))), .second] [(.long (((((q2 + (-7046029254386353131 : Int64)) ^^^ (((q2 + (-7046029254386353131 : Int64)).toUInt64 >>> ((30 : Int32) &&& 0x3f).toInt64.toUInt64).toInt64)) * (-4658895280553007687 : Int64)) ^^^ (((((q2 + (-7046029254386353131 : Int64)) ^^^ (((q2 + (-7046029254386353131 : Int64)).toUInt64 >>> ((30 : Int32) &&& 0x3f).toInt64.toUInt64).toInt64)) * (-4658895280553007687 : Int64)).toUInt64 >>> ((27 : Int32) &&& 0x3f).toInt64.toUInt64).toInt64)) * (-7723592293110705685 : Int64)))]))) (fun _ k => XS.lloadN X5.here hx rfl (hb hby d3_39) rfl k) ?_
  refine own_by (S' := (T5.setTop (mkF m 41 #[.val (.ref a1), .val (.long (((((q2 + (-7046029254386353131 : Int64)) ^^^ (((q2 + (-7046029254386353131 : Int64)).toUInt64 >>> ((30 : Int32) &&& 0x3f).toInt64.toUInt64).toInt64)) * (-4658895280553007687 : Int64)) ^^^ (((((q2 + (-7046029254386353131 : Int64)) ^^^ (((q2 + (-7046029254386353131 : Int64)).toUInt64 >>> ((30 : Int32) &&& 0x3f).toInt64.toUInt64).toInt64)) * (-4658895280553007687 : Int64)).toUInt64 >>> ((27 : Int32) &&& 0x3f).toInt64.toUInt64).toInt64)) * (-7723592293110705685 : Int64))), .second] [(.long (((((q2 + (-7046029254386353131 : Int64)) ^^^ (((q2 + (-7046029254386353131 : Int64)).toUInt64 >>> ((30 : Int32) &&& 0x3f).toInt64.toUInt64).toInt64)) * (-4658895280553007687 : Int64)) ^^^ (((((q2 + (-7046029254386353131 : Int64)) ^^^ (((q2 + (-7046029254386353131 : Int64)).toUInt64 >>> ((30 : Int32) &&& 0x3f).toInt64.toUInt64).toInt64)) * (-4658895280553007687 : Int64)).toUInt64 >>> ((27 : Int32) &&& 0x3f).toInt64.toUInt64).toInt64)) * (-7723592293110705685 : Int64))), (.long (((((q2 + (-7046029254386353131 : Int64)) ^^^ (((q2 + (-7046029254386353131 : Int64)).toUInt64 >>> ((30 : Int32) &&& 0x3f).toInt64.toUInt64).toInt64)) * (-4658895280553007687 : Int64)) ^^^ (((((q2 + (-7046029254386353131 : Int64)) ^^^ (((q2 + (-7046029254386353131 : Int64)).toUInt64 >>> ((30 : Int32) &&& 0x3f).toInt64.toUInt64).toInt64)) * (-4658895280553007687 : Int64)).toUInt64 >>> ((27 : Int32) &&& 0x3f).toInt64.toUInt64).toInt64)) * (-7723592293110705685 : Int64)))]))) (fun _ k => XS.lloadN X5.here hx rfl (hb hby d3_40) rfl k) ?_
  refine own_by (S' := (T5.setTop (mkF m 43 #[.val (.ref a1), .val (.long (((((q2 + (-7046029254386353131 : Int64)) ^^^ (((q2 + (-7046029254386353131 : Int64)).toUInt64 >>> ((30 : Int32) &&& 0x3f).toInt64.toUInt64).toInt64)) * (-4658895280553007687 : Int64)) ^^^ (((((q2 + (-7046029254386353131 : Int64)) ^^^ (((q2 + (-7046029254386353131 : Int64)).toUInt64 >>> ((30 : Int32) &&& 0x3f).toInt64.toUInt64).toInt64)) * (-4658895280553007687 : Int64)).toUInt64 >>> ((27 : Int32) &&& 0x3f).toInt64.toUInt64).toInt64)) * (-7723592293110705685 : Int64))), .second] [(.int (31 : Int32)), (.long (((((q2 + (-7046029254386353131 : Int64)) ^^^ (((q2 + (-7046029254386353131 : Int64)).toUInt64 >>> ((30 : Int32) &&& 0x3f).toInt64.toUInt64).toInt64)) * (-4658895280553007687 : Int64)) ^^^ (((((q2 + (-7046029254386353131 : Int64)) ^^^ (((q2 + (-7046029254386353131 : Int64)).toUInt64 >>> ((30 : Int32) &&& 0x3f).toInt64.toUInt64).toInt64)) * (-4658895280553007687 : Int64)).toUInt64 >>> ((27 : Int32) &&& 0x3f).toInt64.toUInt64).toInt64)) * (-7723592293110705685 : Int64))), (.long (((((q2 + (-7046029254386353131 : Int64)) ^^^ (((q2 + (-7046029254386353131 : Int64)).toUInt64 >>> ((30 : Int32) &&& 0x3f).toInt64.toUInt64).toInt64)) * (-4658895280553007687 : Int64)) ^^^ (((((q2 + (-7046029254386353131 : Int64)) ^^^ (((q2 + (-7046029254386353131 : Int64)).toUInt64 >>> ((30 : Int32) &&& 0x3f).toInt64.toUInt64).toInt64)) * (-4658895280553007687 : Int64)).toUInt64 >>> ((27 : Int32) &&& 0x3f).toInt64.toUInt64).toInt64)) * (-7723592293110705685 : Int64)))]))) (fun _ k => XS.bipush X5.here hx rfl (hb hby d3_41) k) ?_
  refine own_by (S' := (T5.setTop (mkF m 44 #[.val (.ref a1), .val (.long (((((q2 + (-7046029254386353131 : Int64)) ^^^ (((q2 + (-7046029254386353131 : Int64)).toUInt64 >>> ((30 : Int32) &&& 0x3f).toInt64.toUInt64).toInt64)) * (-4658895280553007687 : Int64)) ^^^ (((((q2 + (-7046029254386353131 : Int64)) ^^^ (((q2 + (-7046029254386353131 : Int64)).toUInt64 >>> ((30 : Int32) &&& 0x3f).toInt64.toUInt64).toInt64)) * (-4658895280553007687 : Int64)).toUInt64 >>> ((27 : Int32) &&& 0x3f).toInt64.toUInt64).toInt64)) * (-7723592293110705685 : Int64))), .second] [(.long (((((((q2 + (-7046029254386353131 : Int64)) ^^^ (((q2 + (-7046029254386353131 : Int64)).toUInt64 >>> ((30 : Int32) &&& 0x3f).toInt64.toUInt64).toInt64)) * (-4658895280553007687 : Int64)) ^^^ (((((q2 + (-7046029254386353131 : Int64)) ^^^ (((q2 + (-7046029254386353131 : Int64)).toUInt64 >>> ((30 : Int32) &&& 0x3f).toInt64.toUInt64).toInt64)) * (-4658895280553007687 : Int64)).toUInt64 >>> ((27 : Int32) &&& 0x3f).toInt64.toUInt64).toInt64)) * (-7723592293110705685 : Int64)).toUInt64 >>> ((31 : Int32) &&& 0x3f).toInt64.toUInt64).toInt64)), (.long (((((q2 + (-7046029254386353131 : Int64)) ^^^ (((q2 + (-7046029254386353131 : Int64)).toUInt64 >>> ((30 : Int32) &&& 0x3f).toInt64.toUInt64).toInt64)) * (-4658895280553007687 : Int64)) ^^^ (((((q2 + (-7046029254386353131 : Int64)) ^^^ (((q2 + (-7046029254386353131 : Int64)).toUInt64 >>> ((30 : Int32) &&& 0x3f).toInt64.toUInt64).toInt64)) * (-4658895280553007687 : Int64)).toUInt64 >>> ((27 : Int32) &&& 0x3f).toInt64.toUInt64).toInt64)) * (-7723592293110705685 : Int64)))]))) (fun _ k => XS.lushr X5.here hx rfl (hb hby d3_43) rfl k) ?_
  refine own_by (S' := (T5.setTop (mkF m 45 #[.val (.ref a1), .val (.long (((((q2 + (-7046029254386353131 : Int64)) ^^^ (((q2 + (-7046029254386353131 : Int64)).toUInt64 >>> ((30 : Int32) &&& 0x3f).toInt64.toUInt64).toInt64)) * (-4658895280553007687 : Int64)) ^^^ (((((q2 + (-7046029254386353131 : Int64)) ^^^ (((q2 + (-7046029254386353131 : Int64)).toUInt64 >>> ((30 : Int32) &&& 0x3f).toInt64.toUInt64).toInt64)) * (-4658895280553007687 : Int64)).toUInt64 >>> ((27 : Int32) &&& 0x3f).toInt64.toUInt64).toInt64)) * (-7723592293110705685 : Int64))), .second] [(.long ((((((q2 + (-7046029254386353131 : Int64)) ^^^ (((q2 + (-7046029254386353131 : Int64)).toUInt64 >>> ((30 : Int32) &&& 0x3f).toInt64.toUInt64).toInt64)) * (-4658895280553007687 : Int64)) ^^^ (((((q2 + (-7046029254386353131 : Int64)) ^^^ (((q2 + (-7046029254386353131 : Int64)).toUInt64 >>> ((30 : Int32) &&& 0x3f).toInt64.toUInt64).toInt64)) * (-4658895280553007687 : Int64)).toUInt64 >>> ((27 : Int32) &&& 0x3f).toInt64.toUInt64).toInt64)) * (-7723592293110705685 : Int64)) ^^^ (((((((q2 + (-7046029254386353131 : Int64)) ^^^ (((q2 + (-7046029254386353131 : Int64)).toUInt64 >>> ((30 : Int32) &&& 0x3f).toInt64.toUInt64).toInt64)) * (-4658895280553007687 : Int64)) ^^^ (((((q2 + (-7046029254386353131 : Int64)) ^^^ (((q2 + (-7046029254386353131 : Int64)).toUInt64 >>> ((30 : Int32) &&& 0x3f).toInt64.toUInt64).toInt64)) * (-4658895280553007687 : Int64)).toUInt64 >>> ((27 : Int32) &&& 0x3f).toInt64.toUInt64).toInt64)) * (-7723592293110705685 : Int64)).toUInt64 >>> ((31 : Int32) &&& 0x3f).toInt64.toUInt64).toInt64)))]))) (fun _ k => XS.lxor X5.here hx rfl (hb hby d3_44) rfl k) ?_
  exact own_ret X5 hx (t := .long) Bd.returns rfl (Or.inr (Or.inl ⟨rfl, rfl, _, rfl⟩)) (hb hby d3_45) hlk (by decide : 0 ≤ _) (by decide : 0 ≤ _) (by rw [e5]; exact ⟨rfl, N, K, F_a1⟩)
theorem d5_0 : decode method_2_code 0 = .ok (.lload_n 0, 1) := by decide +kernel
theorem d5_1 : decode method_2_code 1 = .ok (.lload_n 0, 1) := by decide +kernel
theorem d5_2 : decode method_2_code 2 = .ok (.iload_n 2, 1) := by decide +kernel
theorem d5_3 : decode method_2_code 3 = .ok (.lushr, 1) := by decide +kernel
theorem d5_4 : decode method_2_code 4 = .ok (.lxor, 1) := by decide +kernel
theorem d5_5 : decode method_2_code 5 = .ok (.lreturn, 1) := by decide +kernel
theorem pn_5 : plainName "com/example/triarch/triarch/RngNextPinLaw" = true := by first | (simp [plainName, overriddenIn]; done) | decide +kernel
theorem ef_rm5 (m : MethodId) (x0 : Int64) (x1 : Int32) : entryFrame m #[(.long x0), (.int x1)] 3 = mkF m 0 #[.val (.long x0), .second, .val (.int x1)] [] := by first | (simp [entryFrame, mkF, argsToLocals, Value.category]; done) | rfl
def Q_rm5 (Z : State) (q1 : Int64) (p2 : Int32) (h0 : Heap) (n0 : Nat) (v : Option Value) (h : Heap) (L : List Loc) : Prop := v = some (.long (own_xs q1 p2)) ∧ Fr n0 L ∧ h = h0
set_option maxRecDepth 65536 in
set_option maxHeartbeats 40000000 in
theorem rm5 (l : Launch) (Z : State) (a0 : Array Value) (hw : ∀ d ∈ tables_1, d.before a0 Z = true) (ws : List Jvm.Cond) (q1 : Int64) (p2 : Int32) (h0 : Heap) (n0 : Nat) (Zn : n0 ≤ h0.size) :
    MetFree l (⟨"com/example/triarch/triarch/RngNextPinLaw", "xs", "(JI)J"⟩ : MethodName) (head1 (Jvm.Cond.code (⟨"com/example/triarch/triarch/RngNextPinLaw", "xs", "(JI)J"⟩ : MethodName) method_2_code 3 (some .long) :: ws) ({ frames := 0, cells := 0, slots := 0, locals := 0 } : Room)) (fun a U => a = #[(.long q1), (.int p2)] ∧ Z.Warmed39 U.vm ∧ U.heap = h0) (fun _ _ _ _ _ => True) (fun _ U o U' => ∃ v L, o = .returned v ∧ (Q_rm5 Z q1 p2 h0 n0) v U'.heap L ∧ FrameEnd U o U' L ({ frames := 0, cells := 0, slots := 0, locals := 0 } : Room).cells ({ frames := 0, cells := 0, slots := 0, locals := 0 } : Room).slots) := by
  refine MetFree.of_bodySF (plainFor_of_name pn_5) hisR ?_
  intro p e s m args below meth c s₁ Bd hml0 hP hK
  obtain ⟨rfl, hZ, hh⟩ := hP
  have hx := Bd.exec
  have hby := Bd.bytes
  have hml : c.maxLocals = 3 := hml0
  have hown : s.vm.findClass "com/example/triarch/triarch/RngNextPinLaw" = some m.cls := findClass_of_methodNamed Bd.named
  have hnm := (name_of_methodNamed Bd.named Bd.method).1
  have hlk : meth.locks = false := BodyLoose.notSynchronized Bd
  have X0 : Stand p l e ({ frames := 0, cells := 0, slots := 0, locals := 0 } : Room) s m #[(.long q1), (.int p2)] below meth c s₁ [] 0 0 := Stand.of_body Bd
  have e0 : s₁.heap = h0 := by rw [← hh, Bd.state]; rfl
  have N := Fr.nil n0
  have K := Keep.refl h0 []
  refine own_start (cl := ({ frames := 0, cells := 0, slots := 0, locals := 0 } : Room).cells) (sl := ({ frames := 0, cells := 0, slots := 0, locals := 0 } : Room).slots) (Q := (Q_rm5 Z q1 p2 h0 n0)) (ef_rm5 m q1 p2) ?_
  refine own_by (S' := (s₁.setTop (mkF m 1 #[.val (.long q1), .second, .val (.int p2)] [(.long q1)]))) (fun _ k => XS.lloadN X0.here hx rfl (hb hby d5_0) rfl k) ?_
  refine own_by (S' := (s₁.setTop (mkF m 2 #[.val (.long q1), .second, .val (.int p2)] [(.long q1), (.long q1)]))) (fun _ k => XS.lloadN X0.here hx rfl (hb hby d5_1) rfl k) ?_
  refine own_by (S' := (s₁.setTop (mkF m 3 #[.val (.long q1), .second, .val (.int p2)] [(.int p2), (.long q1), (.long q1)]))) (fun _ k => XS.iloadN X0.here hx rfl (hb hby d5_2) rfl k) ?_
  refine own_by (S' := (s₁.setTop (mkF m 4 #[.val (.long q1), .second, .val (.int p2)] [(.long ((q1.toUInt64 >>> (p2 &&& 0x3f).toInt64.toUInt64).toInt64)), (.long q1)]))) (fun _ k => XS.lushr X0.here hx rfl (hb hby d5_3) rfl k) ?_
  refine own_by (S' := (s₁.setTop (mkF m 5 #[.val (.long q1), .second, .val (.int p2)] [(.long (q1 ^^^ ((q1.toUInt64 >>> (p2 &&& 0x3f).toInt64.toUInt64).toInt64)))]))) (fun _ k => XS.lxor X0.here hx rfl (hb hby d5_4) rfl k) ?_
  exact own_ret X0 hx (t := .long) Bd.returns rfl (Or.inr (Or.inl ⟨rfl, rfl, _, rfl⟩)) (hb hby d5_5) hlk (by decide : 0 ≤ _) (by decide : 0 ≤ _) (by rw [e0]; exact ⟨rfl, N, rfl⟩)
theorem d4_0 : decode method_3_code 0 = .ok (.lload_n 0, 1) := by decide +kernel
theorem d4_1 : decode method_3_code 1 = .ok (.bipush 30, 2) := by decide +kernel
theorem d4_3 : decode method_3_code 3 = .ok (.invokestatic 7, 3) := by decide +kernel
theorem d4_6 : decode method_3_code 6 = .ok (.ldc2_w 13, 3) := by decide +kernel
theorem d4_9 : decode method_3_code 9 = .ok (.lmul, 1) := by decide +kernel
theorem d4_10 : decode method_3_code 10 = .ok (.lstore_n 2, 1) := by decide +kernel
theorem d4_11 : decode method_3_code 11 = .ok (.lload_n 2, 1) := by decide +kernel
theorem d4_12 : decode method_3_code 12 = .ok (.bipush 27, 2) := by decide +kernel
theorem d4_14 : decode method_3_code 14 = .ok (.invokestatic 7, 3) := by decide +kernel
theorem d4_17 : decode method_3_code 17 = .ok (.ldc2_w 15, 3) := by decide +kernel
theorem d4_20 : decode method_3_code 20 = .ok (.lmul, 1) := by decide +kernel
theorem d4_21 : decode method_3_code 21 = .ok (.lstore 4, 2) := by decide +kernel
theorem d4_23 : decode method_3_code 23 = .ok (.lload 4, 2) := by decide +kernel
theorem d4_25 : decode method_3_code 25 = .ok (.bipush 31, 2) := by decide +kernel
theorem d4_27 : decode method_3_code 27 = .ok (.invokestatic 7, 3) := by decide +kernel
theorem d4_30 : decode method_3_code 30 = .ok (.lreturn, 1) := by decide +kernel
theorem pn_4 : plainName "com/example/triarch/triarch/RngNextPinLaw" = true := by first | (simp [plainName, overriddenIn]; done) | decide +kernel
theorem ef_rm4 (m : MethodId) (x0 : Int64) : entryFrame m #[(.long x0)] 6 = mkF m 0 #[.val (.long x0), .second, .unset, .unset, .unset, .unset] [] := by first | (simp [entryFrame, mkF, argsToLocals, Value.category]; done) | rfl
def Q_rm4 (Z : State) (q1 : Int64) (h0 : Heap) (n0 : Nat) (v : Option Value) (h : Heap) (L : List Loc) : Prop := v = some (.long (own_mix q1)) ∧ Fr n0 L ∧ h = h0
theorem pd__28JI_29J : parseMethodDescriptor "(JI)J" = some ⟨[.long, .int], some .long⟩ := by decide +kernel
set_option maxRecDepth 65536 in
set_option maxHeartbeats 40000000 in
theorem rm4 (l : Launch) (Z : State) (a0 : Array Value) (hw : ∀ d ∈ tables_1, d.before a0 Z = true) (ws : List Jvm.Cond) (q1 : Int64) (h0 : Heap) (n0 : Nat) (Zn : n0 ≤ h0.size) :
    MetFree l (⟨"com/example/triarch/triarch/RngNextPinLaw", "fin", "(J)J"⟩ : MethodName) (head1 (Jvm.Cond.code (⟨"com/example/triarch/triarch/RngNextPinLaw", "fin", "(J)J"⟩ : MethodName) method_3_code 6 (some .long) :: ws) ({ frames := 1, cells := 0, slots := 0, locals := 14 } : Room)) (fun a U => a = #[(.long q1)] ∧ Z.Warmed39 U.vm ∧ U.heap = h0) (fun _ _ _ _ _ => True) (fun _ U o U' => ∃ v L, o = .returned v ∧ (Q_rm4 Z q1 h0 n0) v U'.heap L ∧ FrameEnd U o U' L ({ frames := 1, cells := 0, slots := 0, locals := 14 } : Room).cells ({ frames := 1, cells := 0, slots := 0, locals := 14 } : Room).slots) := by
  refine MetFree.of_bodySF (plainFor_of_name pn_4) hisR ?_
  intro p e s m args below meth c s₁ Bd hml0 hP hK
  obtain ⟨rfl, hZ, hh⟩ := hP
  have hx := Bd.exec
  have hby := Bd.bytes
  have hml : c.maxLocals = 6 := hml0
  have hown : s.vm.findClass "com/example/triarch/triarch/RngNextPinLaw" = some m.cls := findClass_of_methodNamed Bd.named
  have hnm := (name_of_methodNamed Bd.named Bd.method).1
  have hlk : meth.locks = false := BodyLoose.notSynchronized Bd
  have X0 : Stand p l e ({ frames := 1, cells := 0, slots := 0, locals := 14 } : Room) s m #[(.long q1)] below meth c s₁ [] 0 0 := Stand.of_body Bd
  have e0 : s₁.heap = h0 := by rw [← hh, Bd.state]; rfl
  have N := Fr.nil n0
  have K := Keep.refl h0 []
  refine own_start (cl := ({ frames := 1, cells := 0, slots := 0, locals := 14 } : Room).cells) (sl := ({ frames := 1, cells := 0, slots := 0, locals := 14 } : Room).slots) (Q := (Q_rm4 Z q1 h0 n0)) (ef_rm4 m q1) ?_
  refine own_by (S' := (s₁.setTop (mkF m 1 #[.val (.long q1), .second, .unset, .unset, .unset, .unset] [(.long q1)]))) (fun _ k => XS.lloadN X0.here hx rfl (hb hby d4_0) rfl k) ?_
  refine own_by (S' := (s₁.setTop (mkF m 3 #[.val (.long q1), .second, .unset, .unset, .unset, .unset] [(.int (30 : Int32)), (.long q1)]))) (fun _ k => XS.bipush X0.here hx rfl (hb hby d4_1) k) ?_
  obtain ⟨_, _, ⟨T6, L6, k6, n6⟩, -, X6, ⟨Lc6, hQ6, l6, y6, z6⟩, st6⟩ := Jvm.LawKit.callS X0 hx (y := (⟨"com/example/triarch/triarch/RngNextPinLaw", "xs", "(JI)J"⟩ : MethodName)) hown (mvT hZ (hw _ (List.mem_of_getElem? (i := 24) rfl))) (mvT hZ (hw _ (List.mem_of_getElem? (i := 25) rfl))) (mvT hZ (hw _ (List.mem_of_getElem? (i := 22) rfl))) (mvT hZ (hw _ (List.mem_of_getElem? (i := 26) rfl))) (by decide) (backOf (W := 0) (rm5 l Z a0 hw [] q1 (30 : Int32) h0 n0 Zn) hZ (hw _ (List.mem_of_getElem? (i := 26) rfl)) (hw _ (List.mem_of_getElem? (i := 22) rfl)) (by decide) (by decide)) (g := (mkF m 3 #[.val (.long q1), .second, .unset, .unset, .unset, .unset] [(.int (30 : Int32)), (.long q1)])) rfl (by rw [hml]; rfl) (argsL := [(.long q1), (.int (30 : Int32))]) (rest := []) (lenOf pd__28JI_29J rfl) rfl (by show 2 * 0 + _ ≤ _; exact Nat.le_of_eq rfl) (hb hby d4_3) (fun _ _ => ⟨rfl, e0, (by decide : 0 + 0 ≤ _), (by decide : 0 + 0 ≤ _)⟩)
  dsimp only [Pt.U, Pt.locs, Pt.cells, Pt.slots] at X6 l6 y6 z6 st6 hQ6
  subst l6 y6 z6
  obtain ⟨rfl, N6q, eh0⟩ := hQ6
  have N := Fr.app N N6q
  refine own_by (S' := (T6.setTop (mkF m 6 #[.val (.long q1), .second, .unset, .unset, .unset, .unset] [(.long (own_xs q1 (30 : Int32)))]))) st6 ?_
  refine own_by (S' := (T6.setTop (mkF m 9 #[.val (.long q1), .second, .unset, .unset, .unset, .unset] [(.long (-4658895280553007687 : Int64)), (.long (own_xs q1 (30 : Int32)))]))) (fun _ k => X6.ldc2Long hx hown (mvT hZ (hw _ (List.mem_of_getElem? (i := 27) rfl))) (g := (mkF m 6 #[.val (.long q1), .second, .unset, .unset, .unset, .unset] [(.long (own_xs q1 (30 : Int32)))])) rfl (hb hby d4_6) _ k) ?_
  refine own_by (S' := (T6.setTop (mkF m 10 #[.val (.long q1), .second, .unset, .unset, .unset, .unset] [(.long ((own_xs q1 (30 : Int32)) * (-4658895280553007687 : Int64)))]))) (fun _ k => XS.lmul X6.here hx rfl (hb hby d4_9) rfl k) ?_
  refine own_by (S' := (T6.setTop (mkF m 11 #[.val (.long q1), .second, .val (.long ((own_xs q1 (30 : Int32)) * (-4658895280553007687 : Int64))), .second, .unset, .unset] []))) (fun _ k => XS.lstoreN X6.here hx rfl (hb hby d4_10) rfl (l' := #[.val (.long q1), .second, .val (.long ((own_xs q1 (30 : Int32)) * (-4658895280553007687 : Int64))), .second, .unset, .unset]) rfl k) ?_
  refine own_by (S' := (T6.setTop (mkF m 12 #[.val (.long q1), .second, .val (.long ((own_xs q1 (30 : Int32)) * (-4658895280553007687 : Int64))), .second, .unset, .unset] [(.long ((own_xs q1 (30 : Int32)) * (-4658895280553007687 : Int64)))]))) (fun _ k => XS.lloadN X6.here hx rfl (hb hby d4_11) rfl k) ?_
  refine own_by (S' := (T6.setTop (mkF m 14 #[.val (.long q1), .second, .val (.long ((own_xs q1 (30 : Int32)) * (-4658895280553007687 : Int64))), .second, .unset, .unset] [(.int (27 : Int32)), (.long ((own_xs q1 (30 : Int32)) * (-4658895280553007687 : Int64)))]))) (fun _ k => XS.bipush X6.here hx rfl (hb hby d4_12) k) ?_
  obtain ⟨_, _, ⟨T7, L7, k7, n7⟩, -, X7, ⟨Lc7, hQ7, l7, y7, z7⟩, st7⟩ := Jvm.LawKit.callS X6 hx (y := (⟨"com/example/triarch/triarch/RngNextPinLaw", "xs", "(JI)J"⟩ : MethodName)) hown (mvT hZ (hw _ (List.mem_of_getElem? (i := 24) rfl))) (mvT hZ (hw _ (List.mem_of_getElem? (i := 25) rfl))) (mvT hZ (hw _ (List.mem_of_getElem? (i := 22) rfl))) (mvT hZ (hw _ (List.mem_of_getElem? (i := 26) rfl))) (by decide) (backOf (W := 0) (rm5 l Z a0 hw [] ((own_xs q1 (30 : Int32)) * (-4658895280553007687 : Int64)) (27 : Int32) h0 n0 Zn) hZ (hw _ (List.mem_of_getElem? (i := 26) rfl)) (hw _ (List.mem_of_getElem? (i := 22) rfl)) (by decide) (by decide)) (g := (mkF m 14 #[.val (.long q1), .second, .val (.long ((own_xs q1 (30 : Int32)) * (-4658895280553007687 : Int64))), .second, .unset, .unset] [(.int (27 : Int32)), (.long ((own_xs q1 (30 : Int32)) * (-4658895280553007687 : Int64)))])) rfl (by rw [hml]; rfl) (argsL := [(.long ((own_xs q1 (30 : Int32)) * (-4658895280553007687 : Int64))), (.int (27 : Int32))]) (rest := []) (lenOf pd__28JI_29J rfl) rfl (by show 2 * 0 + _ ≤ _; exact Nat.le_of_eq rfl) (hb hby d4_14) (fun _ _ => ⟨rfl, eh0, (by decide : 0 + 0 ≤ _), (by decide : 0 + 0 ≤ _)⟩)
  dsimp only [Pt.U, Pt.locs, Pt.cells, Pt.slots] at X7 l7 y7 z7 st7 hQ7
  subst l7 y7 z7
  obtain ⟨rfl, N7q, eh1⟩ := hQ7
  have N := Fr.app N N7q
  refine own_by (S' := (T7.setTop (mkF m 17 #[.val (.long q1), .second, .val (.long ((own_xs q1 (30 : Int32)) * (-4658895280553007687 : Int64))), .second, .unset, .unset] [(.long (own_xs ((own_xs q1 (30 : Int32)) * (-4658895280553007687 : Int64)) (27 : Int32)))]))) st7 ?_
  refine own_by (S' := (T7.setTop (mkF m 20 #[.val (.long q1), .second, .val (.long ((own_xs q1 (30 : Int32)) * (-4658895280553007687 : Int64))), .second, .unset, .unset] [(.long (-7723592293110705685 : Int64)), (.long (own_xs ((own_xs q1 (30 : Int32)) * (-4658895280553007687 : Int64)) (27 : Int32)))]))) (fun _ k => X7.ldc2Long hx hown (mvT hZ (hw _ (List.mem_of_getElem? (i := 28) rfl))) (g := (mkF m 17 #[.val (.long q1), .second, .val (.long ((own_xs q1 (30 : Int32)) * (-4658895280553007687 : Int64))), .second, .unset, .unset] [(.long (own_xs ((own_xs q1 (30 : Int32)) * (-4658895280553007687 : Int64)) (27 : Int32)))])) rfl (hb hby d4_17) _ k) ?_
  refine own_by (S' := (T7.setTop (mkF m 21 #[.val (.long q1), .second, .val (.long ((own_xs q1 (30 : Int32)) * (-4658895280553007687 : Int64))), .second, .unset, .unset] [(.long ((own_xs ((own_xs q1 (30 : Int32)) * (-4658895280553007687 : Int64)) (27 : Int32)) * (-7723592293110705685 : Int64)))]))) (fun _ k => XS.lmul X7.here hx rfl (hb hby d4_20) rfl k) ?_
  refine own_by (S' := (T7.setTop (mkF m 23 #[.val (.long q1), .second, .val (.long ((own_xs q1 (30 : Int32)) * (-4658895280553007687 : Int64))), .second, .val (.long ((own_xs ((own_xs q1 (30 : Int32)) * (-4658895280553007687 : Int64)) (27 : Int32)) * (-7723592293110705685 : Int64))), .second] []))) (fun _ k => XS.lstore X7.here hx rfl (hb hby d4_21) rfl (l' := #[.val (.long q1), .second, .val (.long ((own_xs q1 (30 : Int32)) * (-4658895280553007687 : Int64))), .second, .val (.long ((own_xs ((own_xs q1 (30 : Int32)) * (-4658895280553007687 : Int64)) (27 : Int32)) * (-7723592293110705685 : Int64))), .second]) rfl k) ?_
  refine own_by (S' := (T7.setTop (mkF m 25 #[.val (.long q1), .second, .val (.long ((own_xs q1 (30 : Int32)) * (-4658895280553007687 : Int64))), .second, .val (.long ((own_xs ((own_xs q1 (30 : Int32)) * (-4658895280553007687 : Int64)) (27 : Int32)) * (-7723592293110705685 : Int64))), .second] [(.long ((own_xs ((own_xs q1 (30 : Int32)) * (-4658895280553007687 : Int64)) (27 : Int32)) * (-7723592293110705685 : Int64)))]))) (fun _ k => XS.lload X7.here hx rfl (hb hby d4_23) rfl k) ?_
  refine own_by (S' := (T7.setTop (mkF m 27 #[.val (.long q1), .second, .val (.long ((own_xs q1 (30 : Int32)) * (-4658895280553007687 : Int64))), .second, .val (.long ((own_xs ((own_xs q1 (30 : Int32)) * (-4658895280553007687 : Int64)) (27 : Int32)) * (-7723592293110705685 : Int64))), .second] [(.int (31 : Int32)), (.long ((own_xs ((own_xs q1 (30 : Int32)) * (-4658895280553007687 : Int64)) (27 : Int32)) * (-7723592293110705685 : Int64)))]))) (fun _ k => XS.bipush X7.here hx rfl (hb hby d4_25) k) ?_
  obtain ⟨_, _, ⟨T8, L8, k8, n8⟩, -, X8, ⟨Lc8, hQ8, l8, y8, z8⟩, st8⟩ := Jvm.LawKit.callS X7 hx (y := (⟨"com/example/triarch/triarch/RngNextPinLaw", "xs", "(JI)J"⟩ : MethodName)) hown (mvT hZ (hw _ (List.mem_of_getElem? (i := 24) rfl))) (mvT hZ (hw _ (List.mem_of_getElem? (i := 25) rfl))) (mvT hZ (hw _ (List.mem_of_getElem? (i := 22) rfl))) (mvT hZ (hw _ (List.mem_of_getElem? (i := 26) rfl))) (by decide) (backOf (W := 0) (rm5 l Z a0 hw [] ((own_xs ((own_xs q1 (30 : Int32)) * (-4658895280553007687 : Int64)) (27 : Int32)) * (-7723592293110705685 : Int64)) (31 : Int32) h0 n0 Zn) hZ (hw _ (List.mem_of_getElem? (i := 26) rfl)) (hw _ (List.mem_of_getElem? (i := 22) rfl)) (by decide) (by decide)) (g := (mkF m 27 #[.val (.long q1), .second, .val (.long ((own_xs q1 (30 : Int32)) * (-4658895280553007687 : Int64))), .second, .val (.long ((own_xs ((own_xs q1 (30 : Int32)) * (-4658895280553007687 : Int64)) (27 : Int32)) * (-7723592293110705685 : Int64))), .second] [(.int (31 : Int32)), (.long ((own_xs ((own_xs q1 (30 : Int32)) * (-4658895280553007687 : Int64)) (27 : Int32)) * (-7723592293110705685 : Int64)))])) rfl (by rw [hml]; rfl) (argsL := [(.long ((own_xs ((own_xs q1 (30 : Int32)) * (-4658895280553007687 : Int64)) (27 : Int32)) * (-7723592293110705685 : Int64))), (.int (31 : Int32))]) (rest := []) (lenOf pd__28JI_29J rfl) rfl (by show 2 * 0 + _ ≤ _; exact Nat.le_of_eq rfl) (hb hby d4_27) (fun _ _ => ⟨rfl, eh1, (by decide : 0 + 0 ≤ _), (by decide : 0 + 0 ≤ _)⟩)
  dsimp only [Pt.U, Pt.locs, Pt.cells, Pt.slots] at X8 l8 y8 z8 st8 hQ8
  subst l8 y8 z8
  obtain ⟨rfl, N8q, eh2⟩ := hQ8
  have N := Fr.app N N8q
  refine own_by (S' := (T8.setTop (mkF m 30 #[.val (.long q1), .second, .val (.long ((own_xs q1 (30 : Int32)) * (-4658895280553007687 : Int64))), .second, .val (.long ((own_xs ((own_xs q1 (30 : Int32)) * (-4658895280553007687 : Int64)) (27 : Int32)) * (-7723592293110705685 : Int64))), .second] [(.long (own_xs ((own_xs ((own_xs q1 (30 : Int32)) * (-4658895280553007687 : Int64)) (27 : Int32)) * (-7723592293110705685 : Int64)) (31 : Int32)))]))) st8 ?_
  exact own_ret X8 hx (t := .long) Bd.returns rfl (Or.inr (Or.inl ⟨rfl, rfl, _, rfl⟩)) (hb hby d4_30) hlk (by decide : 0 ≤ _) (by decide : 0 ≤ _) (by rw [eh2]; exact ⟨rfl, N, rfl⟩)
theorem pn_0 : plainName "com/example/triarch/triarch/RngNextPinLaw" = true := by first | (simp [plainName, overriddenIn]; done) | decide +kernel
theorem ef_rm0 (m : MethodId) (x0 : Int64) : entryFrame m #[(.long x0)] maxLocals = mkF m 0 #[.val (.long x0), .second, .unset, .unset, .unset, .unset, .unset, .unset, .unset, .unset, .unset, .unset, .unset, .unset, .unset, .unset] [] := by first | (simp [entryFrame, mkF, argsToLocals, Value.category, maxLocals]; done) | rfl
def Q_rm0 (Z : State) (q1 : Int64) (h0 : Heap) (n0 : Nat) (v : Option Value) (h : Heap) (L : List Loc) : Prop := v = some (.int (1 : Int32)) ∧ Fr n0 L
theorem pd__28J_29V : parseMethodDescriptor "(J)V" = some ⟨[.long], none⟩ := by decide +kernel
theorem pd__28_29J : parseMethodDescriptor "()J" = some ⟨[], some .long⟩ := by decide +kernel
theorem pd__28J_29J : parseMethodDescriptor "(J)J" = some ⟨[.long], some .long⟩ := by decide +kernel
set_option maxRecDepth 65536 in
set_option maxHeartbeats 40000000 in
theorem rm0 (l : Launch) (Z : State) (a0 : Array Value) (hw : ∀ d ∈ tables_1, d.before a0 Z = true) (ws : List Jvm.Cond) (q1 : Int64) (h0 : Heap) (n0 : Nat) (Zn : n0 ≤ h0.size) :
    MetFree l x (head1 (Jvm.Cond.code x code maxLocals ret :: ws) room_1) (fun a U => a = #[(.long q1)] ∧ Z.Warmed39 U.vm ∧ U.heap = h0) (fun _ _ _ _ _ => True) (fun _ U o U' => ∃ v L, o = .returned v ∧ (Q_rm0 Z q1 h0 n0) v U'.heap L ∧ FrameEnd U o U' L room_1.cells room_1.slots) := by
  refine MetFree.of_bodySF (plainFor_of_name pn_0) hisR ?_
  intro p e s m args below meth c s₁ Bd hml0 hP hK
  obtain ⟨rfl, hZ, hh⟩ := hP
  have hx := Bd.exec
  have hby := Bd.bytes
  have hml : c.maxLocals = 16 := hml0
  have hown : s.vm.findClass "com/example/triarch/triarch/RngNextPinLaw" = some m.cls := findClass_of_methodNamed Bd.named
  have hnm := (name_of_methodNamed Bd.named Bd.method).1
  have hlk : meth.locks = false := BodyLoose.notSynchronized Bd
  have X0 : Stand p l e room_1 s m #[(.long q1)] below meth c s₁ [] 0 0 := Stand.of_body Bd
  have e0 : s₁.heap = h0 := by rw [← hh, Bd.state]; rfl
  have N := Fr.nil n0
  have K := Keep.refl h0 []
  refine own_start (cl := room_1.cells) (sl := room_1.slots) (Q := (Q_rm0 Z q1 h0 n0)) (ef_rm0 m q1) ?_
  obtain ⟨T9, h9, X9, e9, E9, A9, D9, -, st9⟩ := newO X0 hx hZ hown (hw _ (List.mem_of_getElem? (i := 0) rfl)) (hw _ (List.mem_of_getElem? (i := 1) rfl)) (hw _ (List.mem_of_getElem? (i := 2) rfl)) e0 (g := (mkF m 0 #[.val (.long q1), .second, .unset, .unset, .unset, .unset, .unset, .unset, .unset, .unset, .unset, .unset, .unset, .unset, .unset, .unset] [])) rfl (hb hby at_0) (by decide : 0 + 1 ≤ _) (by decide : 0 + 1 ≤ _)
  obtain ⟨b9, g9⟩ : ∃ z, z = h0.size := ⟨_, rfl⟩
  rw [← g9] at A9 D9 st9
  have o9 : n0 ≤ b9 := Nat.le_trans Zn (Nat.le_of_eq g9.symm)
  have z9 : h0.size ≤ b9 := Nat.le_trans K.1 (Nat.le_of_eq g9.symm)
  have Zn := Nat.le_trans Zn E9.1
  have K := K.ext E9
  have E_b9 := A9
  have F_b9_state : Fld Z h9 b9 "com/example/triarch/triarch/Rng" "state" "J" (.long (0 : Int64)) := D9 (Or.inl (hw _ (List.mem_of_getElem? (i := 10) rfl))) (ty := .long) (by decide)
  refine own_by (S' := (T9.setTop (mkF m 3 #[.val (.long q1), .second, .unset, .unset, .unset, .unset, .unset, .unset, .unset, .unset, .unset, .unset, .unset, .unset, .unset, .unset] [(.ref b9)]))) st9 ?_
  refine own_by (S' := (T9.setTop (mkF m 4 #[.val (.long q1), .second, .unset, .unset, .unset, .unset, .unset, .unset, .unset, .unset, .unset, .unset, .unset, .unset, .unset, .unset] [(.ref b9), (.ref b9)]))) (fun _ k => XS.dup X9.here hx rfl (hb hby at_3) rfl rfl k) ?_
  refine own_by (S' := (T9.setTop (mkF m 5 #[.val (.long q1), .second, .unset, .unset, .unset, .unset, .unset, .unset, .unset, .unset, .unset, .unset, .unset, .unset, .unset, .unset] [(.long q1), (.ref b9), (.ref b9)]))) (fun _ k => XS.lloadN X9.here hx rfl (hb hby at_4) rfl k) ?_
  obtain ⟨_, _, ⟨T10, L10, k10, n10⟩, -, X10, ⟨Lc10, hQ10, l10, y10, z10⟩, st10⟩ := X9.specialBack hx (y := (⟨"com/example/triarch/triarch/Rng", "<init>", "(J)V"⟩ : MethodName)) rfl hown (mvT hZ (hw _ (List.mem_of_getElem? (i := 3) rfl))) (mvT hZ (hw _ (List.mem_of_getElem? (i := 4) rfl))) (mvT hZ (hw _ (List.mem_of_getElem? (i := 5) rfl))) (by decide) (backOf (W := 1) (rm1 l Z a0 hw [] b9 q1 h9 n0 Zn E_b9 F_b9_state o9) hZ (hw _ (List.mem_of_getElem? (i := 5) rfl)) (hw _ (List.mem_of_getElem? (i := 2) rfl)) (by decide) (by decide)) (g := (mkF m 5 #[.val (.long q1), .second, .unset, .unset, .unset, .unset, .unset, .unset, .unset, .unset, .unset, .unset, .unset, .unset, .unset, .unset] [(.long q1), (.ref b9), (.ref b9)])) rfl (by rw [hml]; rfl) (Steps.refl _) (a := b9) (argsL := [(.long q1)]) (rest := [(.ref b9)]) (lenOf pd__28J_29V rfl) rfl (by show 2 * 0 + _ ≤ _; exact Nat.le_of_eq rfl) (hb hby at_5) (fun _ _ => ⟨rfl, e9, (by decide : 1 + 0 ≤ _), (by decide : 1 + 0 ≤ _)⟩)
  dsimp only [Pt.U, Pt.locs, Pt.cells, Pt.slots] at X10 l10 y10 z10 st10 hQ10
  subst l10 y10 z10
  obtain ⟨rfl, N10q, Kc, F_b9_state⟩ := hQ10
  have N := Fr.app N N10q
  have E_b9 := E_b9.keep Kc
  have Zn : n0 ≤ _ := Nat.le_trans Zn Kc.1
  have K := K.trans Kc (allS (Or.inr z9) all0)
  refine own_tr (S' := (T10.setTop (mkF m 8 #[.val (.long q1), .second, .unset, .unset, .unset, .unset, .unset, .unset, .unset, .unset, .unset, .unset, .unset, .unset, .unset, .unset] [(.ref b9)]))) st10 ?_
  refine own_by (S' := (T10.setTop (mkF m 9 #[.val (.long q1), .second, .val (.ref b9), .unset, .unset, .unset, .unset, .unset, .unset, .unset, .unset, .unset, .unset, .unset, .unset, .unset] []))) (fun _ k => XS.astoreN X10.here hx rfl (hb hby at_8) rfl rfl (l' := #[.val (.long q1), .second, .val (.ref b9), .unset, .unset, .unset, .unset, .unset, .unset, .unset, .unset, .unset, .unset, .unset, .unset, .unset]) rfl k) ?_
  refine own_by (S' := (T10.setTop (mkF m 10 #[.val (.long q1), .second, .val (.ref b9), .unset, .unset, .unset, .unset, .unset, .unset, .unset, .unset, .unset, .unset, .unset, .unset, .unset] [(.ref b9)]))) (fun _ k => XS.aloadN X10.here hx rfl (hb hby at_9) rfl rfl k) ?_
  obtain ⟨cq11, kq11, q11a, q11b, q11c⟩ := isOf hZ rfl E_b9
  obtain ⟨_, _, ⟨T11, L11, k11, n11⟩, -, X11, ⟨Lc11, hQ11, l11, y11, z11⟩, st11⟩ := X10.virtualBack hx (y := (⟨"com/example/triarch/triarch/Rng", "next", "()J"⟩ : MethodName)) (z := (⟨"com/example/triarch/triarch/Rng", "next", "()J"⟩ : MethodName)) hown (mvT hZ (hw _ (List.mem_of_getElem? (i := 11) rfl))) (mvT hZ (hw _ (List.mem_of_getElem? (i := 12) rfl))) (notFace_of_selects (args := #[]) (mvT hZ (hw _ (List.mem_of_getElem? (i := 14) rfl)))) (mvT hZ (hw _ (List.mem_of_getElem? (i := 14) rfl))) (mvT hZ (hw _ (List.mem_of_getElem? (i := 13) rfl))) (by decide) (backOf (W := 0) (rm3 l Z a0 hw [] b9 q1 T10.heap n0 Zn E_b9 F_b9_state o9) hZ (hw _ (List.mem_of_getElem? (i := 15) rfl)) (hw _ (List.mem_of_getElem? (i := 2) rfl)) (by decide) (by decide)) q11a q11c (g := (mkF m 10 #[.val (.long q1), .second, .val (.ref b9), .unset, .unset, .unset, .unset, .unset, .unset, .unset, .unset, .unset, .unset, .unset, .unset, .unset] [(.ref b9)])) rfl (by rw [hml]; rfl) (Steps.refl _) (argsL := []) (rest := []) (lenOf pd__28_29J rfl) rfl (by show 2 * 0 + _ ≤ _; exact Nat.le_of_eq rfl) (hb hby at_10) (fun _ _ => ⟨rfl, rfl, (by decide : 1 + 0 ≤ _), (by decide : 1 + 0 ≤ _)⟩)
  dsimp only [Pt.U, Pt.locs, Pt.cells, Pt.slots] at X11 l11 y11 z11 st11 hQ11
  subst l11 y11 z11
  obtain ⟨rfl, N11q, Kc, F_b9_state⟩ := hQ11
  have N := Fr.app N N11q
  have E_b9 := E_b9.keep Kc
  have Zn : n0 ≤ _ := Nat.le_trans Zn Kc.1
  have K := K.trans Kc (allS (Or.inr z9) all0)
  refine own_tr (S' := (T11.setTop (mkF m 13 #[.val (.long q1), .second, .val (.ref b9), .unset, .unset, .unset, .unset, .unset, .unset, .unset, .unset, .unset, .unset, .unset, .unset, .unset] [(.long (own_mix (q1 + (-7046029254386353131))))]))) st11 ?_
  refine own_by (S' := (T11.setTop (mkF m 14 #[.val (.long q1), .second, .val (.ref b9), .val (.long (own_mix (q1 + (-7046029254386353131)))), .second, .unset, .unset, .unset, .unset, .unset, .unset, .unset, .unset, .unset, .unset, .unset] []))) (fun _ k => XS.lstoreN X11.here hx rfl (hb hby at_13) rfl (l' := #[.val (.long q1), .second, .val (.ref b9), .val (.long (own_mix (q1 + (-7046029254386353131)))), .second, .unset, .unset, .unset, .unset, .unset, .unset, .unset, .unset, .unset, .unset, .unset]) rfl k) ?_
  refine own_by (S' := (T11.setTop (mkF m 15 #[.val (.long q1), .second, .val (.ref b9), .val (.long (own_mix (q1 + (-7046029254386353131)))), .second, .unset, .unset, .unset, .unset, .unset, .unset, .unset, .unset, .unset, .unset, .unset] [(.ref b9)]))) (fun _ k => XS.aloadN X11.here hx rfl (hb hby at_14) rfl rfl k) ?_
  obtain ⟨cq12, kq12, q12a, q12b, q12c⟩ := isOf hZ rfl E_b9
  obtain ⟨_, _, ⟨T12, L12, k12, n12⟩, -, X12, ⟨Lc12, hQ12, l12, y12, z12⟩, st12⟩ := X11.virtualBack hx (y := (⟨"com/example/triarch/triarch/Rng", "next", "()J"⟩ : MethodName)) (z := (⟨"com/example/triarch/triarch/Rng", "next", "()J"⟩ : MethodName)) hown (mvT hZ (hw _ (List.mem_of_getElem? (i := 11) rfl))) (mvT hZ (hw _ (List.mem_of_getElem? (i := 12) rfl))) (notFace_of_selects (args := #[]) (mvT hZ (hw _ (List.mem_of_getElem? (i := 14) rfl)))) (mvT hZ (hw _ (List.mem_of_getElem? (i := 14) rfl))) (mvT hZ (hw _ (List.mem_of_getElem? (i := 13) rfl))) (by decide) (backOf (W := 0) (rm3 l Z a0 hw [] b9 (q1 + (-7046029254386353131)) T11.heap n0 Zn E_b9 F_b9_state o9) hZ (hw _ (List.mem_of_getElem? (i := 15) rfl)) (hw _ (List.mem_of_getElem? (i := 2) rfl)) (by decide) (by decide)) q12a q12c (g := (mkF m 15 #[.val (.long q1), .second, .val (.ref b9), .val (.long (own_mix (q1 + (-7046029254386353131)))), .second, .unset, .unset, .unset, .unset, .unset, .unset, .unset, .unset, .unset, .unset, .unset] [(.ref b9)])) rfl (by rw [hml]; rfl) (Steps.refl _) (argsL := []) (rest := []) (lenOf pd__28_29J rfl) rfl (by show 2 * 0 + _ ≤ _; exact Nat.le_of_eq rfl) (hb hby at_15) (fun _ _ => ⟨rfl, rfl, (by decide : 1 + 0 ≤ _), (by decide : 1 + 0 ≤ _)⟩)
  dsimp only [Pt.U, Pt.locs, Pt.cells, Pt.slots] at X12 l12 y12 z12 st12 hQ12
  subst l12 y12 z12
  obtain ⟨rfl, N12q, Kc, F_b9_state⟩ := hQ12
  have N := Fr.app N N12q
  have E_b9 := E_b9.keep Kc
  have Zn : n0 ≤ _ := Nat.le_trans Zn Kc.1
  have K := K.trans Kc (allS (Or.inr z9) all0)
  refine own_tr (S' := (T12.setTop (mkF m 18 #[.val (.long q1), .second, .val (.ref b9), .val (.long (own_mix (q1 + (-7046029254386353131)))), .second, .unset, .unset, .unset, .unset, .unset, .unset, .unset, .unset, .unset, .unset, .unset] [(.long (own_mix ((q1 + (-7046029254386353131)) + (-7046029254386353131))))]))) st12 ?_
  refine own_by (S' := (T12.setTop (mkF m 20 #[.val (.long q1), .second, .val (.ref b9), .val (.long (own_mix (q1 + (-7046029254386353131)))), .second, .val (.long (own_mix ((q1 + (-7046029254386353131)) + (-7046029254386353131)))), .second, .unset, .unset, .unset, .unset, .unset, .unset, .unset, .unset, .unset] []))) (fun _ k => XS.lstore X12.here hx rfl (hb hby at_18) rfl (l' := #[.val (.long q1), .second, .val (.ref b9), .val (.long (own_mix (q1 + (-7046029254386353131)))), .second, .val (.long (own_mix ((q1 + (-7046029254386353131)) + (-7046029254386353131)))), .second, .unset, .unset, .unset, .unset, .unset, .unset, .unset, .unset, .unset]) rfl k) ?_
  refine own_by (S' := (T12.setTop (mkF m 21 #[.val (.long q1), .second, .val (.ref b9), .val (.long (own_mix (q1 + (-7046029254386353131)))), .second, .val (.long (own_mix ((q1 + (-7046029254386353131)) + (-7046029254386353131)))), .second, .unset, .unset, .unset, .unset, .unset, .unset, .unset, .unset, .unset] [(.ref b9)]))) (fun _ k => XS.aloadN X12.here hx rfl (hb hby at_20) rfl rfl k) ?_
  obtain ⟨cq13, kq13, q13a, q13b, q13c⟩ := isOf hZ rfl E_b9
  obtain ⟨_, _, ⟨T13, L13, k13, n13⟩, -, X13, ⟨Lc13, hQ13, l13, y13, z13⟩, st13⟩ := X12.virtualBack hx (y := (⟨"com/example/triarch/triarch/Rng", "next", "()J"⟩ : MethodName)) (z := (⟨"com/example/triarch/triarch/Rng", "next", "()J"⟩ : MethodName)) hown (mvT hZ (hw _ (List.mem_of_getElem? (i := 11) rfl))) (mvT hZ (hw _ (List.mem_of_getElem? (i := 12) rfl))) (notFace_of_selects (args := #[]) (mvT hZ (hw _ (List.mem_of_getElem? (i := 14) rfl)))) (mvT hZ (hw _ (List.mem_of_getElem? (i := 14) rfl))) (mvT hZ (hw _ (List.mem_of_getElem? (i := 13) rfl))) (by decide) (backOf (W := 0) (rm3 l Z a0 hw [] b9 ((q1 + (-7046029254386353131)) + (-7046029254386353131)) T12.heap n0 Zn E_b9 F_b9_state o9) hZ (hw _ (List.mem_of_getElem? (i := 15) rfl)) (hw _ (List.mem_of_getElem? (i := 2) rfl)) (by decide) (by decide)) q13a q13c (g := (mkF m 21 #[.val (.long q1), .second, .val (.ref b9), .val (.long (own_mix (q1 + (-7046029254386353131)))), .second, .val (.long (own_mix ((q1 + (-7046029254386353131)) + (-7046029254386353131)))), .second, .unset, .unset, .unset, .unset, .unset, .unset, .unset, .unset, .unset] [(.ref b9)])) rfl (by rw [hml]; rfl) (Steps.refl _) (argsL := []) (rest := []) (lenOf pd__28_29J rfl) rfl (by show 2 * 0 + _ ≤ _; exact Nat.le_of_eq rfl) (hb hby at_21) (fun _ _ => ⟨rfl, rfl, (by decide : 1 + 0 ≤ _), (by decide : 1 + 0 ≤ _)⟩)
  dsimp only [Pt.U, Pt.locs, Pt.cells, Pt.slots] at X13 l13 y13 z13 st13 hQ13
  subst l13 y13 z13
  obtain ⟨rfl, N13q, Kc, F_b9_state⟩ := hQ13
  have N := Fr.app N N13q
  have E_b9 := E_b9.keep Kc
  have Zn : n0 ≤ _ := Nat.le_trans Zn Kc.1
  have K := K.trans Kc (allS (Or.inr z9) all0)
  refine own_tr (S' := (T13.setTop (mkF m 24 #[.val (.long q1), .second, .val (.ref b9), .val (.long (own_mix (q1 + (-7046029254386353131)))), .second, .val (.long (own_mix ((q1 + (-7046029254386353131)) + (-7046029254386353131)))), .second, .unset, .unset, .unset, .unset, .unset, .unset, .unset, .unset, .unset] [(.long (own_mix (((q1 + (-7046029254386353131)) + (-7046029254386353131)) + (-7046029254386353131))))]))) st13 ?_
  refine own_by (S' := (T13.setTop (mkF m 26 #[.val (.long q1), .second, .val (.ref b9), .val (.long (own_mix (q1 + (-7046029254386353131)))), .second, .val (.long (own_mix ((q1 + (-7046029254386353131)) + (-7046029254386353131)))), .second, .val (.long (own_mix (((q1 + (-7046029254386353131)) + (-7046029254386353131)) + (-7046029254386353131)))), .second, .unset, .unset, .unset, .unset, .unset, .unset, .unset] []))) (fun _ k => XS.lstore X13.here hx rfl (hb hby at_24) rfl (l' := #[.val (.long q1), .second, .val (.ref b9), .val (.long (own_mix (q1 + (-7046029254386353131)))), .second, .val (.long (own_mix ((q1 + (-7046029254386353131)) + (-7046029254386353131)))), .second, .val (.long (own_mix (((q1 + (-7046029254386353131)) + (-7046029254386353131)) + (-7046029254386353131)))), .second, .unset, .unset, .unset, .unset, .unset, .unset, .unset]) rfl k) ?_
  obtain ⟨T14, h14, X14, e14, E14, A14, D14, -, st14⟩ := newO X13 hx hZ hown (hw _ (List.mem_of_getElem? (i := 0) rfl)) (hw _ (List.mem_of_getElem? (i := 1) rfl)) (hw _ (List.mem_of_getElem? (i := 2) rfl)) rfl (g := (mkF m 26 #[.val (.long q1), .second, .val (.ref b9), .val (.long (own_mix (q1 + (-7046029254386353131)))), .second, .val (.long (own_mix ((q1 + (-7046029254386353131)) + (-7046029254386353131)))), .second, .val (.long (own_mix (((q1 + (-7046029254386353131)) + (-7046029254386353131)) + (-7046029254386353131)))), .second, .unset, .unset, .unset, .unset, .unset, .unset, .unset] [])) rfl (hb hby at_26) (by decide : 1 + 1 ≤ _) (by decide : 1 + 1 ≤ _)
  obtain ⟨b14, g14⟩ : ∃ z, z = T13.heap.size := ⟨_, rfl⟩
  rw [← g14] at A14 D14 st14
  have o14 : n0 ≤ b14 := Nat.le_trans Zn (Nat.le_of_eq g14.symm)
  have z14 : h0.size ≤ b14 := Nat.le_trans K.1 (Nat.le_of_eq g14.symm)
  have ne_b9_b14 : b9 ≠ b14 := fun q => Nat.ne_of_lt E_b9.lt (q.trans g14)
  have E_b9 := E_b9.ext E14
  have F_b9_state := F_b9_state.ext E14
  have Zn := Nat.le_trans Zn E14.1
  have K := K.ext E14
  have E_b14 := A14
  have F_b14_state : Fld Z h14 b14 "com/example/triarch/triarch/Rng" "state" "J" (.long (0 : Int64)) := D14 (Or.inl (hw _ (List.mem_of_getElem? (i := 10) rfl))) (ty := .long) (by decide)
  refine own_by (S' := (T14.setTop (mkF m 29 #[.val (.long q1), .second, .val (.ref b9), .val (.long (own_mix (q1 + (-7046029254386353131)))), .second, .val (.long (own_mix ((q1 + (-7046029254386353131)) + (-7046029254386353131)))), .second, .val (.long (own_mix (((q1 + (-7046029254386353131)) + (-7046029254386353131)) + (-7046029254386353131)))), .second, .unset, .unset, .unset, .unset, .unset, .unset, .unset] [(.ref b14)]))) st14 ?_
  refine own_by (S' := (T14.setTop (mkF m 30 #[.val (.long q1), .second, .val (.ref b9), .val (.long (own_mix (q1 + (-7046029254386353131)))), .second, .val (.long (own_mix ((q1 + (-7046029254386353131)) + (-7046029254386353131)))), .second, .val (.long (own_mix (((q1 + (-7046029254386353131)) + (-7046029254386353131)) + (-7046029254386353131)))), .second, .unset, .unset, .unset, .unset, .unset, .unset, .unset] [(.ref b14), (.ref b14)]))) (fun _ k => XS.dup X14.here hx rfl (hb hby at_29) rfl rfl k) ?_
  refine own_by (S' := (T14.setTop (mkF m 31 #[.val (.long q1), .second, .val (.ref b9), .val (.long (own_mix (q1 + (-7046029254386353131)))), .second, .val (.long (own_mix ((q1 + (-7046029254386353131)) + (-7046029254386353131)))), .second, .val (.long (own_mix (((q1 + (-7046029254386353131)) + (-7046029254386353131)) + (-7046029254386353131)))), .second, .unset, .unset, .unset, .unset, .unset, .unset, .unset] [(.long q1), (.ref b14), (.ref b14)]))) (fun _ k => XS.lloadN X14.here hx rfl (hb hby at_30) rfl k) ?_
  refine own_by (S' := (T14.setTop (mkF m 34 #[.val (.long q1), .second, .val (.ref b9), .val (.long (own_mix (q1 + (-7046029254386353131)))), .second, .val (.long (own_mix ((q1 + (-7046029254386353131)) + (-7046029254386353131)))), .second, .val (.long (own_mix (((q1 + (-7046029254386353131)) + (-7046029254386353131)) + (-7046029254386353131)))), .second, .unset, .unset, .unset, .unset, .unset, .unset, .unset] [(.long (-7046029254386353131 : Int64)), (.long q1), (.ref b14), (.ref b14)]))) (fun _ k => X14.ldc2Long hx hown (mvT hZ (hw _ (List.mem_of_getElem? (i := 19) rfl))) (g := (mkF m 31 #[.val (.long q1), .second, .val (.ref b9), .val (.long (own_mix (q1 + (-7046029254386353131)))), .second, .val (.long (own_mix ((q1 + (-7046029254386353131)) + (-7046029254386353131)))), .second, .val (.long (own_mix (((q1 + (-7046029254386353131)) + (-7046029254386353131)) + (-7046029254386353131)))), .second, .unset, .unset, .unset, .unset, .unset, .unset, .unset] [(.long q1), (.ref b14), (.ref b14)])) rfl (hb hby at_31) _ k) ?_
  refine own_by (S' := (T14.setTop (mkF m 35 #[.val (.long q1), .second, .val (.ref b9), .val (.long (own_mix (q1 + (-7046029254386353131)))), .second, .val (.long (own_mix ((q1 + (-7046029254386353131)) + (-7046029254386353131)))), .second, .val (.long (own_mix (((q1 + (-7046029254386353131)) + (-7046029254386353131)) + (-7046029254386353131)))), .second, .unset, .unset, .unset, .unset, .unset, .unset, .unset] [(.long (q1 + (-7046029254386353131 : Int64))), (.ref b14), (.ref b14)]))) (fun _ k => XS.ladd X14.here hx rfl (hb hby at_34) rfl k) ?_
  obtain ⟨_, _, ⟨T15, L15, k15, n15⟩, -, X15, ⟨Lc15, hQ15, l15, y15, z15⟩, st15⟩ := X14.specialBack hx (y := (⟨"com/example/triarch/triarch/Rng", "<init>", "(J)V"⟩ : MethodName)) rfl hown (mvT hZ (hw _ (List.mem_of_getElem? (i := 3) rfl))) (mvT hZ (hw _ (List.mem_of_getElem? (i := 4) rfl))) (mvT hZ (hw _ (List.mem_of_getElem? (i := 5) rfl))) (by decide) (backOf (W := 1) (rm1 l Z a0 hw [] b14 (q1 + (-7046029254386353131 : Int64)) h14 n0 Zn E_b14 F_b14_state o14) hZ (hw _ (List.mem_of_getElem? (i := 5) rfl)) (hw _ (List.mem_of_getElem? (i := 2) rfl)) (by decide) (by decide)) (g := (mkF m 35 #[.val (.long q1), .second, .val (.ref b9), .val (.long (own_mix (q1 + (-7046029254386353131)))), .second, .val (.long (own_mix ((q1 + (-7046029254386353131)) + (-7046029254386353131)))), .second, .val (.long (own_mix (((q1 + (-7046029254386353131)) + (-7046029254386353131)) + (-7046029254386353131)))), .second, .unset, .unset, .unset, .unset, .unset, .unset, .unset] [(.long (q1 + (-7046029254386353131 : Int64))), (.ref b14), (.ref b14)])) rfl (by rw [hml]; rfl) (Steps.refl _) (a := b14) (argsL := [(.long (q1 + (-7046029254386353131 : Int64)))]) (rest := [(.ref b14)]) (lenOf pd__28J_29V rfl) rfl (by show 2 * 0 + _ ≤ _; exact Nat.le_of_eq rfl) (hb hby at_35) (fun _ _ => ⟨rfl, e14, (by decide : 2 + 0 ≤ _), (by decide : 2 + 0 ≤ _)⟩)
  dsimp only [Pt.U, Pt.locs, Pt.cells, Pt.slots] at X15 l15 y15 z15 st15 hQ15
  subst l15 y15 z15
  obtain ⟨rfl, N15q, Kc, F_b14_state⟩ := hQ15
  have N := Fr.app N N15q
  have E_b9 := E_b9.keep Kc
  have F_b9_state := F_b9_state.keep Kc (ninS ne_b9_b14 nin0)
  have E_b14 := E_b14.keep Kc
  have Zn : n0 ≤ _ := Nat.le_trans Zn Kc.1
  have K := K.trans Kc (allS (Or.inr z14) all0)
  refine own_tr (S' := (T15.setTop (mkF m 38 #[.val (.long q1), .second, .val (.ref b9), .val (.long (own_mix (q1 + (-7046029254386353131)))), .second, .val (.long (own_mix ((q1 + (-7046029254386353131)) + (-7046029254386353131)))), .second, .val (.long (own_mix (((q1 + (-7046029254386353131)) + (-7046029254386353131)) + (-7046029254386353131)))), .second, .unset, .unset, .unset, .unset, .unset, .unset, .unset] [(.ref b14)]))) st15 ?_
  refine own_by (S' := (T15.setTop (mkF m 40 #[.val (.long q1), .second, .val (.ref b9), .val (.long (own_mix (q1 + (-7046029254386353131)))), .second, .val (.long (own_mix ((q1 + (-7046029254386353131)) + (-7046029254386353131)))), .second, .val (.long (own_mix (((q1 + (-7046029254386353131)) + (-7046029254386353131)) + (-7046029254386353131)))), .second, .val (.ref b14), .unset, .unset, .unset, .unset, .unset, .unset] []))) (fun _ k => XS.astore X15.here hx rfl (hb hby at_38) rfl rfl (l' := #[.val (.long q1), .second, .val (.ref b9), .val (.long (own_mix (q1 + (-7046029254386353131)))), .second, .val (.long (own_mix ((q1 + (-7046029254386353131)) + (-7046029254386353131)))), .second, .val (.long (own_mix (((q1 + (-7046029254386353131)) + (-7046029254386353131)) + (-7046029254386353131)))), .second, .val (.ref b14), .unset, .unset, .unset, .unset, .unset, .unset]) rfl k) ?_
  refine own_by (S' := (T15.setTop (mkF m 42 #[.val (.long q1), .second, .val (.ref b9), .val (.long (own_mix (q1 + (-7046029254386353131)))), .second, .val (.long (own_mix ((q1 + (-7046029254386353131)) + (-7046029254386353131)))), .second, .val (.long (own_mix (((q1 + (-7046029254386353131)) + (-7046029254386353131)) + (-7046029254386353131)))), .second, .val (.ref b14), .unset, .unset, .unset, .unset, .unset, .unset] [(.ref b14)]))) (fun _ k => XS.aload X15.here hx rfl (hb hby at_40) rfl rfl k) ?_
  obtain ⟨cq16, kq16, q16a, q16b, q16c⟩ := isOf hZ rfl E_b14
  obtain ⟨_, _, ⟨T16, L16, k16, n16⟩, -, X16, ⟨Lc16, hQ16, l16, y16, z16⟩, st16⟩ := X15.virtualBack hx (y := (⟨"com/example/triarch/triarch/Rng", "next", "()J"⟩ : MethodName)) (z := (⟨"com/example/triarch/triarch/Rng", "next", "()J"⟩ : MethodName)) hown (mvT hZ (hw _ (List.mem_of_getElem? (i := 11) rfl))) (mvT hZ (hw _ (List.mem_of_getElem? (i := 12) rfl))) (notFace_of_selects (args := #[]) (mvT hZ (hw _ (List.mem_of_getElem? (i := 14) rfl)))) (mvT hZ (hw _ (List.mem_of_getElem? (i := 14) rfl))) (mvT hZ (hw _ (List.mem_of_getElem? (i := 13) rfl))) (by decide) (backOf (W := 0) (rm3 l Z a0 hw [] b14 (q1 + (-7046029254386353131 : Int64)) T15.heap n0 Zn E_b14 F_b14_state o14) hZ (hw _ (List.mem_of_getElem? (i := 15) rfl)) (hw _ (List.mem_of_getElem? (i := 2) rfl)) (by decide) (by decide)) q16a q16c (g := (mkF m 42 #[.val (.long q1), .second, .val (.ref b9), .val (.long (own_mix (q1 + (-7046029254386353131)))), .second, .val (.long (own_mix ((q1 + (-7046029254386353131)) + (-7046029254386353131)))), .second, .val (.long (own_mix (((q1 + (-7046029254386353131)) + (-7046029254386353131)) + (-7046029254386353131)))), .second, .val (.ref b14), .unset, .unset, .unset, .unset, .unset, .unset] [(.ref b14)])) rfl (by rw [hml]; rfl) (Steps.refl _) (argsL := []) (rest := []) (lenOf pd__28_29J rfl) rfl (by show 2 * 0 + _ ≤ _; exact Nat.le_of_eq rfl) (hb hby at_42) (fun _ _ => ⟨rfl, rfl, (by decide : 2 + 0 ≤ _), (by decide : 2 + 0 ≤ _)⟩)
  dsimp only [Pt.U, Pt.locs, Pt.cells, Pt.slots] at X16 l16 y16 z16 st16 hQ16
  subst l16 y16 z16
  obtain ⟨rfl, N16q, Kc, F_b14_state⟩ := hQ16
  have N := Fr.app N N16q
  have E_b9 := E_b9.keep Kc
  have F_b9_state := F_b9_state.keep Kc (ninS ne_b9_b14 nin0)
  have E_b14 := E_b14.keep Kc
  have Zn : n0 ≤ _ := Nat.le_trans Zn Kc.1
  have K := K.trans Kc (allS (Or.inr z14) all0)
  refine own_tr (S' := (T16.setTop (mkF m 45 #[.val (.long q1), .second, .val (.ref b9), .val (.long (own_mix (q1 + (-7046029254386353131)))), .second, .val (.long (own_mix ((q1 + (-7046029254386353131)) + (-7046029254386353131)))), .second, .val (.long (own_mix (((q1 + (-7046029254386353131)) + (-7046029254386353131)) + (-7046029254386353131)))), .second, .val (.ref b14), .unset, .unset, .unset, .unset, .unset, .unset] [(.long (own_mix ((q1 + (-7046029254386353131 : Int64)) + (-7046029254386353131))))]))) st16 ?_
  refine own_by (S' := (T16.setTop (mkF m 47 #[.val (.long q1), .second, .val (.ref b9), .val (.long (own_mix (q1 + (-7046029254386353131)))), .second, .val (.long (own_mix ((q1 + (-7046029254386353131)) + (-7046029254386353131)))), .second, .val (.long (own_mix (((q1 + (-7046029254386353131)) + (-7046029254386353131)) + (-7046029254386353131)))), .second, .val (.ref b14), .val (.long (own_mix ((q1 + (-7046029254386353131 : Int64)) + (-7046029254386353131)))), .second, .unset, .unset, .unset, .unset] []))) (fun _ k => XS.lstore X16.here hx rfl (hb hby at_45) rfl (l' := #[.val (.long q1), .second, .val (.ref b9), .val (.long (own_mix (q1 + (-7046029254386353131)))), .second, .val (.long (own_mix ((q1 + (-7046029254386353131)) + (-7046029254386353131)))), .second, .val (.long (own_mix (((q1 + (-7046029254386353131)) + (-7046029254386353131)) + (-7046029254386353131)))), .second, .val (.ref b14), .val (.long (own_mix ((q1 + (-7046029254386353131 : Int64)) + (-7046029254386353131)))), .second, .unset, .unset, .unset, .unset]) rfl k) ?_
  refine own_by (S' := (T16.setTop (mkF m 48 #[.val (.long q1), .second, .val (.ref b9), .val (.long (own_mix (q1 + (-7046029254386353131)))), .second, .val (.long (own_mix ((q1 + (-7046029254386353131)) + (-7046029254386353131)))), .second, .val (.long (own_mix (((q1 + (-7046029254386353131)) + (-7046029254386353131)) + (-7046029254386353131)))), .second, .val (.ref b14), .val (.long (own_mix ((q1 + (-7046029254386353131 : Int64)) + (-7046029254386353131)))), .second, .unset, .unset, .unset, .unset] [(.long (own_mix (q1 + (-7046029254386353131))))]))) (fun _ k => XS.lloadN X16.here hx rfl (hb hby at_47) rfl k) ?_
  refine own_by (S' := (T16.setTop (mkF m 49 #[.val (.long q1), .second, .val (.ref b9), .val (.long (own_mix (q1 + (-7046029254386353131)))), .second, .val (.long (own_mix ((q1 + (-7046029254386353131)) + (-7046029254386353131)))), .second, .val (.long (own_mix (((q1 + (-7046029254386353131)) + (-7046029254386353131)) + (-7046029254386353131)))), .second, .val (.ref b14), .val (.long (own_mix ((q1 + (-7046029254386353131 : Int64)) + (-7046029254386353131)))), .second, .unset, .unset, .unset, .unset] [(.long q1), (.long (own_mix (q1 + (-7046029254386353131))))]))) (fun _ k => XS.lloadN X16.here hx rfl (hb hby at_48) rfl k) ?_
  refine own_by (S' := (T16.setTop (mkF m 52 #[.val (.long q1), .second, .val (.ref b9), .val (.long (own_mix (q1 + (-7046029254386353131)))), .second, .val (.long (own_mix ((q1 + (-7046029254386353131)) + (-7046029254386353131)))), .second, .val (.long (own_mix (((q1 + (-7046029254386353131)) + (-7046029254386353131)) + (-7046029254386353131)))), .second, .val (.ref b14), .val (.long (own_mix ((q1 + (-7046029254386353131 : Int64)) + (-7046029254386353131)))), .second, .unset, .unset, .unset, .unset] [(.long (-7046029254386353131 : Int64)), (.long q1), (.long (own_mix (q1 + (-7046029254386353131))))]))) (fun _ k => X16.ldc2Long hx hown (mvT hZ (hw _ (List.mem_of_getElem? (i := 19) rfl))) (g := (mkF m 49 #[.val (.long q1), .second, .val (.ref b9), .val (.long (own_mix (q1 + (-7046029254386353131)))), .second, .val (.long (own_mix ((q1 + (-7046029254386353131)) + (-7046029254386353131)))), .second, .val (.long (own_mix (((q1 + (-7046029254386353131)) + (-7046029254386353131)) + (-7046029254386353131)))), .second, .val (.ref b14), .val (.long (own_mix ((q1 + (-7046029254386353131 : Int64)) + (-7046029254386353131)))), .second, .unset, .unset, .unset, .unset] [(.long q1), (.long (own_mix (q1 + (-7046029254386353131))))])) rfl (hb hby at_49) _ k) ?_
  refine own_by (S' := (T16.setTop (mkF m 53 #[.val (.long q1), .second, .val (.ref b9), .val (.long (own_mix (q1 + (-7046029254386353131)))), .second, .val (.long (own_mix ((q1 + (-7046029254386353131)) + (-7046029254386353131)))), .second, .val (.long (own_mix (((q1 + (-7046029254386353131)) + (-7046029254386353131)) + (-7046029254386353131)))), .second, .val (.ref b14), .val (.long (own_mix ((q1 + (-7046029254386353131 : Int64)) + (-7046029254386353131)))), .second, .unset, .unset, .unset, .unset] [(.long (q1 + (-7046029254386353131 : Int64))), (.long (own_mix (q1 + (-7046029254386353131))))]))) (fun _ k => XS.ladd X16.here hx rfl (hb hby at_52) rfl k) ?_
  obtain ⟨_, _, ⟨T17, L17, k17, n17⟩, -, X17, ⟨Lc17, hQ17, l17, y17, z17⟩, st17⟩ := Jvm.LawKit.callS X16 hx (y := (⟨"com/example/triarch/triarch/RngNextPinLaw", "fin", "(J)J"⟩ : MethodName)) hown (mvT hZ (hw _ (List.mem_of_getElem? (i := 20) rfl))) (mvT hZ (hw _ (List.mem_of_getElem? (i := 21) rfl))) (mvT hZ (hw _ (List.mem_of_getElem? (i := 22) rfl))) (mvT hZ (hw _ (List.mem_of_getElem? (i := 23) rfl))) (by decide) (backOf (W := 2) (rm4 l Z a0 hw [] (q1 + (-7046029254386353131 : Int64)) T16.heap n0 Zn) hZ (hw _ (List.mem_of_getElem? (i := 23) rfl)) (hw _ (List.mem_of_getElem? (i := 22) rfl)) (by decide) (by decide)) (g := (mkF m 53 #[.val (.long q1), .second, .val (.ref b9), .val (.long (own_mix (q1 + (-7046029254386353131)))), .second, .val (.long (own_mix ((q1 + (-7046029254386353131)) + (-7046029254386353131)))), .second, .val (.long (own_mix (((q1 + (-7046029254386353131)) + (-7046029254386353131)) + (-7046029254386353131)))), .second, .val (.ref b14), .val (.long (own_mix ((q1 + (-7046029254386353131 : Int64)) + (-7046029254386353131)))), .second, .unset, .unset, .unset, .unset] [(.long (q1 + (-7046029254386353131 : Int64))), (.long (own_mix (q1 + (-7046029254386353131))))])) rfl (by rw [hml]; rfl) (argsL := [(.long (q1 + (-7046029254386353131 : Int64)))]) (rest := [(.long (own_mix (q1 + (-7046029254386353131))))]) (lenOf pd__28J_29J rfl) rfl (by show 2 * 0 + _ ≤ _; exact Nat.le_of_eq rfl) (hb hby at_53) (fun _ _ => ⟨rfl, rfl, (by decide : 2 + 0 ≤ _), (by decide : 2 + 0 ≤ _)⟩)
  dsimp only [Pt.U, Pt.locs, Pt.cells, Pt.slots] at X17 l17 y17 z17 st17 hQ17
  subst l17 y17 z17
  obtain ⟨rfl, N17q, eh0⟩ := hQ17
  have N := Fr.app N N17q
  refine own_by (S' := (T17.setTop (mkF m 56 #[.val (.long q1), .second, .val (.ref b9), .val (.long (own_mix (q1 + (-7046029254386353131)))), .second, .val (.long (own_mix ((q1 + (-7046029254386353131)) + (-7046029254386353131)))), .second, .val (.long (own_mix (((q1 + (-7046029254386353131)) + (-7046029254386353131)) + (-7046029254386353131)))), .second, .val (.ref b14), .val (.long (own_mix ((q1 + (-7046029254386353131 : Int64)) + (-7046029254386353131)))), .second, .unset, .unset, .unset, .unset] [(.long (own_mix (q1 + (-7046029254386353131 : Int64)))), (.long (own_mix (q1 + (-7046029254386353131))))]))) st17 ?_
  refine own_by (S' := (T17.setTop (mkF m 57 #[.val (.long q1), .second, .val (.ref b9), .val (.long (own_mix (q1 + (-7046029254386353131)))), .second, .val (.long (own_mix ((q1 + (-7046029254386353131)) + (-7046029254386353131)))), .second, .val (.long (own_mix (((q1 + (-7046029254386353131)) + (-7046029254386353131)) + (-7046029254386353131)))), .second, .val (.ref b14), .val (.long (own_mix ((q1 + (-7046029254386353131 : Int64)) + (-7046029254386353131)))), .second, .unset, .unset, .unset, .unset] [(.int (lcmpW (own_mix (q1 + (-7046029254386353131))) (own_mix (q1 + (-7046029254386353131 : Int64)))))]))) (fun _ k => XS.lcmp X17.here hx rfl (hb hby at_56) rfl k) ?_
  refine own_by (S' := (T17.setTop (mkF m 60 #[.val (.long q1), .second, .val (.ref b9), .val (.long (own_mix (q1 + (-7046029254386353131)))), .second, .val (.long (own_mix ((q1 + (-7046029254386353131)) + (-7046029254386353131)))), .second, .val (.long (own_mix (((q1 + (-7046029254386353131)) + (-7046029254386353131)) + (-7046029254386353131)))), .second, .val (.ref b14), .val (.long (own_mix ((q1 + (-7046029254386353131 : Int64)) + (-7046029254386353131)))), .second, .unset, .unset, .unset, .unset] []))) (fun _ k => XS.ifNo X17.here hx rfl (hb hby at_57) rfl ((if0 _ _).trans (teq (((lw_eq _ _).mpr rfl) : (lcmpW (own_mix (q1 + (-7046029254386353131))) (own_mix (q1 + (-7046029254386353131 : Int64)))) = (0 : Int32))).2) k) ?_
  refine own_by (S' := (T17.setTop (mkF m 61 #[.val (.long q1), .second, .val (.ref b9), .val (.long (own_mix (q1 + (-7046029254386353131)))), .second, .val (.long (own_mix ((q1 + (-7046029254386353131)) + (-7046029254386353131)))), .second, .val (.long (own_mix (((q1 + (-7046029254386353131)) + (-7046029254386353131)) + (-7046029254386353131)))), .second, .val (.ref b14), .val (.long (own_mix ((q1 + (-7046029254386353131 : Int64)) + (-7046029254386353131)))), .second, .unset, .unset, .unset, .unset] [(.int (1 : Int32))]))) (fun _ k => XS.iconst X17.here hx rfl (hb hby at_60) k) ?_
  refine own_by (S' := (T17.setTop (mkF m 65 #[.val (.long q1), .second, .val (.ref b9), .val (.long (own_mix (q1 + (-7046029254386353131)))), .second, .val (.long (own_mix ((q1 + (-7046029254386353131)) + (-7046029254386353131)))), .second, .val (.long (own_mix (((q1 + (-7046029254386353131)) + (-7046029254386353131)) + (-7046029254386353131)))), .second, .val (.ref b14), .val (.long (own_mix ((q1 + (-7046029254386353131 : Int64)) + (-7046029254386353131)))), .second, .unset, .unset, .unset, .unset] [(.int (1 : Int32))]))) (fun _ k => XS.goto X17.here hx rfl (pc0 := 61) (pc' := 65) rfl (hb hby at_61) (by decide) (by decide) k) ?_
  refine own_by (S' := (T17.setTop (mkF m 67 #[.val (.long q1), .second, .val (.ref b9), .val (.long (own_mix (q1 + (-7046029254386353131)))), .second, .val (.long (own_mix ((q1 + (-7046029254386353131)) + (-7046029254386353131)))), .second, .val (.long (own_mix (((q1 + (-7046029254386353131)) + (-7046029254386353131)) + (-7046029254386353131)))), .second, .val (.ref b14), .val (.long (own_mix ((q1 + (-7046029254386353131 : Int64)) + (-7046029254386353131)))), .second, .val (.int (1 : Int32)), .unset, .unset, .unset] []))) (fun _ k => XS.istore X17.here hx rfl (hb hby at_65) rfl (l' := #[.val (.long q1), .second, .val (.ref b9), .val (.long (own_mix (q1 + (-7046029254386353131)))), .second, .val (.long (own_mix ((q1 + (-7046029254386353131)) + (-7046029254386353131)))), .second, .val (.long (own_mix (((q1 + (-7046029254386353131)) + (-7046029254386353131)) + (-7046029254386353131)))), .second, .val (.ref b14), .val (.long (own_mix ((q1 + (-7046029254386353131 : Int64)) + (-7046029254386353131)))), .second, .val (.int (1 : Int32)), .unset, .unset, .unset]) rfl k) ?_
  refine own_by (S' := (T17.setTop (mkF m 69 #[.val (.long q1), .second, .val (.ref b9), .val (.long (own_mix (q1 + (-7046029254386353131)))), .second, .val (.long (own_mix ((q1 + (-7046029254386353131)) + (-7046029254386353131)))), .second, .val (.long (own_mix (((q1 + (-7046029254386353131)) + (-7046029254386353131)) + (-7046029254386353131)))), .second, .val (.ref b14), .val (.long (own_mix ((q1 + (-7046029254386353131 : Int64)) + (-7046029254386353131)))), .second, .val (.int (1 : Int32)), .unset, .unset, .unset] [(.long (own_mix ((q1 + (-7046029254386353131)) + (-7046029254386353131))))]))) (fun _ k => XS.lload X17.here hx rfl (hb hby at_67) rfl k) ?_
  refine own_by (S' := (T17.setTop (mkF m 70 #[.val (.long q1), .second, .val (.ref b9), .val (.long (own_mix (q1 + (-7046029254386353131)))), .second, .val (.long (own_mix ((q1 + (-7046029254386353131)) + (-7046029254386353131)))), .second, .val (.long (own_mix (((q1 + (-7046029254386353131)) + (-7046029254386353131)) + (-7046029254386353131)))), .second, .val (.ref b14), .val (.long (own_mix ((q1 + (-7046029254386353131 : Int64)) + (-7046029254386353131)))), .second, .val (.int (1 : Int32)), .unset, .unset, .unset] [(.long q1), (.long (own_mix ((q1 + (-7046029254386353131)) + (-7046029254386353131))))]))) (fun _ k => XS.lloadN X17.here hx rfl (hb hby at_69) rfl k) ?_
  refine own_by (S' := (T17.setTop (mkF m 73 #[.val (.long q1), .second, .val (.ref b9), .val (.long (own_mix (q1 + (-7046029254386353131)))), .second, .val (.long (own_mix ((q1 + (-7046029254386353131)) + (-7046029254386353131)))), .second, .val (.long (own_mix (((q1 + (-7046029254386353131)) + (-7046029254386353131)) + (-7046029254386353131)))), .second, .val (.ref b14), .val (.long (own_mix ((q1 + (-7046029254386353131 : Int64)) + (-7046029254386353131)))), .second, .val (.int (1 : Int32)), .unset, .unset, .unset] [(.long (4354685564936845354 : Int64)), (.long q1), (.long (own_mix ((q1 + (-7046029254386353131)) + (-7046029254386353131))))]))) (fun _ k => X17.ldc2Long hx hown (mvT hZ (hw _ (List.mem_of_getElem? (i := 29) rfl))) (g := (mkF m 70 #[.val (.long q1), .second, .val (.ref b9), .val (.long (own_mix (q1 + (-7046029254386353131)))), .second, .val (.long (own_mix ((q1 + (-7046029254386353131)) + (-7046029254386353131)))), .second, .val (.long (own_mix (((q1 + (-7046029254386353131)) + (-7046029254386353131)) + (-7046029254386353131)))), .second, .val (.ref b14), .val (.long (own_mix ((q1 + (-7046029254386353131 : Int64)) + (-7046029254386353131)))), .second, .val (.int (1 : Int32)), .unset, .unset, .unset] [(.long q1), (.long (own_mix ((q1 + (-7046029254386353131)) + (-7046029254386353131))))])) rfl (hb hby at_70) _ k) ?_
  refine own_by (S' := (T17.setTop (mkF m 74 #[.val (.long q1), .second, .val (.ref b9), .val (.long (own_mix (q1 + (-7046029254386353131)))), .second, .val (.long (own_mix ((q1 + (-7046029254386353131)) + (-7046029254386353131)))), .second, .val (.long (own_mix (((q1 + (-7046029254386353131)) + (-7046029254386353131)) + (-7046029254386353131)))), .second, .val (.ref b14), .val (.long (own_mix ((q1 + (-7046029254386353131 : Int64)) + (-7046029254386353131)))), .second, .val (.int (1 : Int32)), .unset, .unset, .unset] [(.long (q1 + (4354685564936845354 : Int64))), (.long (own_mix ((q1 + (-7046029254386353131)) + (-7046029254386353131))))]))) (fun _ k => XS.ladd X17.here hx rfl (hb hby at_73) rfl k) ?_
  obtain ⟨_, _, ⟨T18, L18, k18, n18⟩, -, X18, ⟨Lc18, hQ18, l18, y18, z18⟩, st18⟩ := Jvm.LawKit.callS X17 hx (y := (⟨"com/example/triarch/triarch/RngNextPinLaw", "fin", "(J)J"⟩ : MethodName)) hown (mvT hZ (hw _ (List.mem_of_getElem? (i := 20) rfl))) (mvT hZ (hw _ (List.mem_of_getElem? (i := 21) rfl))) (mvT hZ (hw _ (List.mem_of_getElem? (i := 22) rfl))) (mvT hZ (hw _ (List.mem_of_getElem? (i := 23) rfl))) (by decide) (backOf (W := 2) (rm4 l Z a0 hw [] (q1 + (4354685564936845354 : Int64)) T16.heap n0 Zn) hZ (hw _ (List.mem_of_getElem? (i := 23) rfl)) (hw _ (List.mem_of_getElem? (i := 22) rfl)) (by decide) (by decide)) (g := (mkF m 74 #[.val (.long q1), .second, .val (.ref b9), .val (.long (own_mix (q1 + (-7046029254386353131)))), .second, .val (.long (own_mix ((q1 + (-7046029254386353131)) + (-7046029254386353131)))), .second, .val (.long (own_mix (((q1 + (-7046029254386353131)) + (-7046029254386353131)) + (-7046029254386353131)))), .second, .val (.ref b14), .val (.long (own_mix ((q1 + (-7046029254386353131 : Int64)) + (-7046029254386353131)))), .second, .val (.int (1 : Int32)), .unset, .unset, .unset] [(.long (q1 + (4354685564936845354 : Int64))), (.long (own_mix ((q1 + (-7046029254386353131)) + (-7046029254386353131))))])) rfl (by rw [hml]; rfl) (argsL := [(.long (q1 + (4354685564936845354 : Int64)))]) (rest := [(.long (own_mix ((q1 + (-7046029254386353131)) + (-7046029254386353131))))]) (lenOf pd__28J_29J rfl) rfl (by show 2 * 0 + _ ≤ _; exact Nat.le_of_eq rfl) (hb hby at_74) (fun _ _ => ⟨rfl, eh0, (by decide : 2 + 0 ≤ _), (by decide : 2 + 0 ≤ _)⟩)
  dsimp only [Pt.U, Pt.locs, Pt.cells, Pt.slots] at X18 l18 y18 z18 st18 hQ18
  subst l18 y18 z18
  obtain ⟨rfl, N18q, eh1⟩ := hQ18
  have N := Fr.app N N18q
  refine own_by (S' := (T18.setTop (mkF m 77 #[.val (.long q1), .second, .val (.ref b9), .val (.long (own_mix (q1 + (-7046029254386353131)))), .second, .val (.long (own_mix ((q1 + (-7046029254386353131)) + (-7046029254386353131)))), .second, .val (.long (own_mix (((q1 + (-7046029254386353131)) + (-7046029254386353131)) + (-7046029254386353131)))), .second, .val (.ref b14), .val (.long (own_mix ((q1 + (-7046029254386353131 : Int64)) + (-7046029254386353131)))), .second, .val (.int (1 : Int32)), .unset, .unset, .unset] [(.long (own_mix (q1 + (4354685564936845354 : Int64)))), (.long (own_mix ((q1 + (-7046029254386353131)) + (-7046029254386353131))))]))) st18 ?_
  refine own_by (S' := (T18.setTop (mkF m 78 #[.val (.long q1), .second, .val (.ref b9), .val (.long (own_mix (q1 + (-7046029254386353131)))), .second, .val (.long (own_mix ((q1 + (-7046029254386353131)) + (-7046029254386353131)))), .second, .val (.long (own_mix (((q1 + (-7046029254386353131)) + (-7046029254386353131)) + (-7046029254386353131)))), .second, .val (.ref b14), .val (.long (own_mix ((q1 + (-7046029254386353131 : Int64)) + (-7046029254386353131)))), .second, .val (.int (1 : Int32)), .unset, .unset, .unset] [(.int (lcmpW (own_mix ((q1 + (-7046029254386353131)) + (-7046029254386353131))) (own_mix (q1 + (4354685564936845354 : Int64)))))]))) (fun _ k => XS.lcmp X18.here hx rfl (hb hby at_77) rfl k) ?_
  refine own_by (S' := (T18.setTop (mkF m 81 #[.val (.long q1), .second, .val (.ref b9), .val (.long (own_mix (q1 + (-7046029254386353131)))), .second, .val (.long (own_mix ((q1 + (-7046029254386353131)) + (-7046029254386353131)))), .second, .val (.long (own_mix (((q1 + (-7046029254386353131)) + (-7046029254386353131)) + (-7046029254386353131)))), .second, .val (.ref b14), .val (.long (own_mix ((q1 + (-7046029254386353131 : Int64)) + (-7046029254386353131)))), .second, .val (.int (1 : Int32)), .unset, .unset, .unset] []))) (fun _ k => XS.ifNo X18.here hx rfl (hb hby at_78) rfl ((if0 _ _).trans (teq (((lw_eq _ _).mpr (congrArg own_mix (own_g2 q1))) : (lcmpW (own_mix ((q1 + (-7046029254386353131)) + (-7046029254386353131))) (own_mix (q1 + (4354685564936845354 : Int64)))) = (0 : Int32))).2) k) ?_
  refine own_by (S' := (T18.setTop (mkF m 82 #[.val (.long q1), .second, .val (.ref b9), .val (.long (own_mix (q1 + (-7046029254386353131)))), .second, .val (.long (own_mix ((q1 + (-7046029254386353131)) + (-7046029254386353131)))), .second, .val (.long (own_mix (((q1 + (-7046029254386353131)) + (-7046029254386353131)) + (-7046029254386353131)))), .second, .val (.ref b14), .val (.long (own_mix ((q1 + (-7046029254386353131 : Int64)) + (-7046029254386353131)))), .second, .val (.int (1 : Int32)), .unset, .unset, .unset] [(.int (1 : Int32))]))) (fun _ k => XS.iconst X18.here hx rfl (hb hby at_81) k) ?_
  refine own_by (S' := (T18.setTop (mkF m 86 #[.val (.long q1), .second, .val (.ref b9), .val (.long (own_mix (q1 + (-7046029254386353131)))), .second, .val (.long (own_mix ((q1 + (-7046029254386353131)) + (-7046029254386353131)))), .second, .val (.long (own_mix (((q1 + (-7046029254386353131)) + (-7046029254386353131)) + (-7046029254386353131)))), .second, .val (.ref b14), .val (.long (own_mix ((q1 + (-7046029254386353131 : Int64)) + (-7046029254386353131)))), .second, .val (.int (1 : Int32)), .unset, .unset, .unset] [(.int (1 : Int32))]))) (fun _ k => XS.goto X18.here hx rfl (pc0 := 82) (pc' := 86) rfl (hb hby at_82) (by decide) (by decide) k) ?_
  refine own_by (S' := (T18.setTop (mkF m 88 #[.val (.long q1), .second, .val (.ref b9), .val (.long (own_mix (q1 + (-7046029254386353131)))), .second, .val (.long (own_mix ((q1 + (-7046029254386353131)) + (-7046029254386353131)))), .second, .val (.long (own_mix (((q1 + (-7046029254386353131)) + (-7046029254386353131)) + (-7046029254386353131)))), .second, .val (.ref b14), .val (.long (own_mix ((q1 + (-7046029254386353131 : Int64)) + (-7046029254386353131)))), .second, .val (.int (1 : Int32)), .val (.int (1 : Int32)), .unset, .unset] []))) (fun _ k => XS.istore X18.here hx rfl (hb hby at_86) rfl (l' := #[.val (.long q1), .second, .val (.ref b9), .val (.long (own_mix (q1 + (-7046029254386353131)))), .second, .val (.long (own_mix ((q1 + (-7046029254386353131)) + (-7046029254386353131)))), .second, .val (.long (own_mix (((q1 + (-7046029254386353131)) + (-7046029254386353131)) + (-7046029254386353131)))), .second, .val (.ref b14), .val (.long (own_mix ((q1 + (-7046029254386353131 : Int64)) + (-7046029254386353131)))), .second, .val (.int (1 : Int32)), .val (.int (1 : Int32)), .unset, .unset]) rfl k) ?_
  refine own_by (S' := (T18.setTop (mkF m 90 #[.val (.long q1), .second, .val (.ref b9), .val (.long (own_mix (q1 + (-7046029254386353131)))), .second, .val (.long (own_mix ((q1 + (-7046029254386353131)) + (-7046029254386353131)))), .second, .val (.long (own_mix (((q1 + (-7046029254386353131)) + (-7046029254386353131)) + (-7046029254386353131)))), .second, .val (.ref b14), .val (.long (own_mix ((q1 + (-7046029254386353131 : Int64)) + (-7046029254386353131)))), .second, .val (.int (1 : Int32)), .val (.int (1 : Int32)), .unset, .unset] [(.long (own_mix (((q1 + (-7046029254386353131)) + (-7046029254386353131)) + (-7046029254386353131))))]))) (fun _ k => XS.lload X18.here hx rfl (hb hby at_88) rfl k) ?_
  refine own_by (S' := (T18.setTop (mkF m 91 #[.val (.long q1), .second, .val (.ref b9), .val (.long (own_mix (q1 + (-7046029254386353131)))), .second, .val (.long (own_mix ((q1 + (-7046029254386353131)) + (-7046029254386353131)))), .second, .val (.long (own_mix (((q1 + (-7046029254386353131)) + (-7046029254386353131)) + (-7046029254386353131)))), .second, .val (.ref b14), .val (.long (own_mix ((q1 + (-7046029254386353131 : Int64)) + (-7046029254386353131)))), .second, .val (.int (1 : Int32)), .val (.int (1 : Int32)), .unset, .unset] [(.long q1), (.long (own_mix (((q1 + (-7046029254386353131)) + (-7046029254386353131)) + (-7046029254386353131))))]))) (fun _ k => XS.lloadN X18.here hx rfl (hb hby at_90) rfl k) ?_
  refine own_by (S' := (T18.setTop (mkF m 94 #[.val (.long q1), .second, .val (.ref b9), .val (.long (own_mix (q1 + (-7046029254386353131)))), .second, .val (.long (own_mix ((q1 + (-7046029254386353131)) + (-7046029254386353131)))), .second, .val (.long (own_mix (((q1 + (-7046029254386353131)) + (-7046029254386353131)) + (-7046029254386353131)))), .second, .val (.ref b14), .val (.long (own_mix ((q1 + (-7046029254386353131 : Int64)) + (-7046029254386353131)))), .second, .val (.int (1 : Int32)), .val (.int (1 : Int32)), .unset, .unset] [(.long (-2691343689449507777 : Int64)), (.long q1), (.long (own_mix (((q1 + (-7046029254386353131)) + (-7046029254386353131)) + (-7046029254386353131))))]))) (fun _ k => X18.ldc2Long hx hown (mvT hZ (hw _ (List.mem_of_getElem? (i := 30) rfl))) (g := (mkF m 91 #[.val (.long q1), .second, .val (.ref b9), .val (.long (own_mix (q1 + (-7046029254386353131)))), .second, .val (.long (own_mix ((q1 + (-7046029254386353131)) + (-7046029254386353131)))), .second, .val (.long (own_mix (((q1 + (-7046029254386353131)) + (-7046029254386353131)) + (-7046029254386353131)))), .second, .val (.ref b14), .val (.long (own_mix ((q1 + (-7046029254386353131 : Int64)) + (-7046029254386353131)))), .second, .val (.int (1 : Int32)), .val (.int (1 : Int32)), .unset, .unset] [(.long q1), (.long (own_mix (((q1 + (-7046029254386353131)) + (-7046029254386353131)) + (-7046029254386353131))))])) rfl (hb hby at_91) _ k) ?_
  refine own_by (S' := (T18.setTop (mkF m 95 #[.val (.long q1), .second, .val (.ref b9), .val (.long (own_mix (q1 + (-7046029254386353131)))), .second, .val (.long (own_mix ((q1 + (-7046029254386353131)) + (-7046029254386353131)))), .second, .val (.long (own_mix (((q1 + (-7046029254386353131)) + (-7046029254386353131)) + (-7046029254386353131)))), .second, .val (.ref b14), .val (.long (own_mix ((q1 + (-7046029254386353131 : Int64)) + (-7046029254386353131)))), .second, .val (.int (1 : Int32)), .val (.int (1 : Int32)), .unset, .unset] [(.long (q1 + (-2691343689449507777 : Int64))), (.long (own_mix (((q1 + (-7046029254386353131)) + (-7046029254386353131)) + (-7046029254386353131))))]))) (fun _ k => XS.ladd X18.here hx rfl (hb hby at_94) rfl k) ?_
  obtain ⟨_, _, ⟨T19, L19, k19, n19⟩, -, X19, ⟨Lc19, hQ19, l19, y19, z19⟩, st19⟩ := Jvm.LawKit.callS X18 hx (y := (⟨"com/example/triarch/triarch/RngNextPinLaw", "fin", "(J)J"⟩ : MethodName)) hown (mvT hZ (hw _ (List.mem_of_getElem? (i := 20) rfl))) (mvT hZ (hw _ (List.mem_of_getElem? (i := 21) rfl))) (mvT hZ (hw _ (List.mem_of_getElem? (i := 22) rfl))) (mvT hZ (hw _ (List.mem_of_getElem? (i := 23) rfl))) (by decide) (backOf (W := 2) (rm4 l Z a0 hw [] (q1 + (-2691343689449507777 : Int64)) T16.heap n0 Zn) hZ (hw _ (List.mem_of_getElem? (i := 23) rfl)) (hw _ (List.mem_of_getElem? (i := 22) rfl)) (by decide) (by decide)) (g := (mkF m 95 #[.val (.long q1), .second, .val (.ref b9), .val (.long (own_mix (q1 + (-7046029254386353131)))), .second, .val (.long (own_mix ((q1 + (-7046029254386353131)) + (-7046029254386353131)))), .second, .val (.long (own_mix (((q1 + (-7046029254386353131)) + (-7046029254386353131)) + (-7046029254386353131)))), .second, .val (.ref b14), .val (.long (own_mix ((q1 + (-7046029254386353131 : Int64)) + (-7046029254386353131)))), .second, .val (.int (1 : Int32)), .val (.int (1 : Int32)), .unset, .unset] [(.long (q1 + (-2691343689449507777 : Int64))), (.long (own_mix (((q1 + (-7046029254386353131)) + (-7046029254386353131)) + (-7046029254386353131))))])) rfl (by rw [hml]; rfl) (argsL := [(.long (q1 + (-2691343689449507777 : Int64)))]) (rest := [(.long (own_mix (((q1 + (-7046029254386353131)) + (-7046029254386353131)) + (-7046029254386353131))))]) (lenOf pd__28J_29J rfl) rfl (by show 2 * 0 + _ ≤ _; exact Nat.le_of_eq rfl) (hb hby at_95) (fun _ _ => ⟨rfl, eh1, (by decide : 2 + 0 ≤ _), (by decide : 2 + 0 ≤ _)⟩)
  dsimp only [Pt.U, Pt.locs, Pt.cells, Pt.slots] at X19 l19 y19 z19 st19 hQ19
  subst l19 y19 z19
  obtain ⟨rfl, N19q, eh2⟩ := hQ19
  have N := Fr.app N N19q
  refine own_by (S' := (T19.setTop (mkF m 98 #[.val (.long q1), .second, .val (.ref b9), .val (.long (own_mix (q1 + (-7046029254386353131)))), .second, .val (.long (own_mix ((q1 + (-7046029254386353131)) + (-7046029254386353131)))), .second, .val (.long (own_mix (((q1 + (-7046029254386353131)) + (-7046029254386353131)) + (-7046029254386353131)))), .second, .val (.ref b14), .val (.long (own_mix ((q1 + (-7046029254386353131 : Int64)) + (-7046029254386353131)))), .second, .val (.int (1 : Int32)), .val (.int (1 : Int32)), .unset, .unset] [(.long (own_mix (q1 + (-2691343689449507777 : Int64)))), (.long (own_mix (((q1 + (-7046029254386353131)) + (-7046029254386353131)) + (-7046029254386353131))))]))) st19 ?_
  refine own_by (S' := (T19.setTop (mkF m 99 #[.val (.long q1), .second, .val (.ref b9), .val (.long (own_mix (q1 + (-7046029254386353131)))), .second, .val (.long (own_mix ((q1 + (-7046029254386353131)) + (-7046029254386353131)))), .second, .val (.long (own_mix (((q1 + (-7046029254386353131)) + (-7046029254386353131)) + (-7046029254386353131)))), .second, .val (.ref b14), .val (.long (own_mix ((q1 + (-7046029254386353131 : Int64)) + (-7046029254386353131)))), .second, .val (.int (1 : Int32)), .val (.int (1 : Int32)), .unset, .unset] [(.int (lcmpW (own_mix (((q1 + (-7046029254386353131)) + (-7046029254386353131)) + (-7046029254386353131))) (own_mix (q1 + (-2691343689449507777 : Int64)))))]))) (fun _ k => XS.lcmp X19.here hx rfl (hb hby at_98) rfl k) ?_
  refine own_by (S' := (T19.setTop (mkF m 102 #[.val (.long q1), .second, .val (.ref b9), .val (.long (own_mix (q1 + (-7046029254386353131)))), .second, .val (.long (own_mix ((q1 + (-7046029254386353131)) + (-7046029254386353131)))), .second, .val (.long (own_mix (((q1 + (-7046029254386353131)) + (-7046029254386353131)) + (-7046029254386353131)))), .second, .val (.ref b14), .val (.long (own_mix ((q1 + (-7046029254386353131 : Int64)) + (-7046029254386353131)))), .second, .val (.int (1 : Int32)), .val (.int (1 : Int32)), .unset, .unset] []))) (fun _ k => XS.ifNo X19.here hx rfl (hb hby at_99) rfl ((if0 _ _).trans (teq (((lw_eq _ _).mpr (congrArg own_mix (own_g3 q1))) : (lcmpW (own_mix (((q1 + (-7046029254386353131)) + (-7046029254386353131)) + (-7046029254386353131))) (own_mix (q1 + (-2691343689449507777 : Int64)))) = (0 : Int32))).2) k) ?_
  refine own_by (S' := (T19.setTop (mkF m 103 #[.val (.long q1), .second, .val (.ref b9), .val (.long (own_mix (q1 + (-7046029254386353131)))), .second, .val (.long (own_mix ((q1 + (-7046029254386353131)) + (-7046029254386353131)))), .second, .val (.long (own_mix (((q1 + (-7046029254386353131)) + (-7046029254386353131)) + (-7046029254386353131)))), .second, .val (.ref b14), .val (.long (own_mix ((q1 + (-7046029254386353131 : Int64)) + (-7046029254386353131)))), .second, .val (.int (1 : Int32)), .val (.int (1 : Int32)), .unset, .unset] [(.int (1 : Int32))]))) (fun _ k => XS.iconst X19.here hx rfl (hb hby at_102) k) ?_
  refine own_by (S' := (T19.setTop (mkF m 107 #[.val (.long q1), .second, .val (.ref b9), .val (.long (own_mix (q1 + (-7046029254386353131)))), .second, .val (.long (own_mix ((q1 + (-7046029254386353131)) + (-7046029254386353131)))), .second, .val (.long (own_mix (((q1 + (-7046029254386353131)) + (-7046029254386353131)) + (-7046029254386353131)))), .second, .val (.ref b14), .val (.long (own_mix ((q1 + (-7046029254386353131 : Int64)) + (-7046029254386353131)))), .second, .val (.int (1 : Int32)), .val (.int (1 : Int32)), .unset, .unset] [(.int (1 : Int32))]))) (fun _ k => XS.goto X19.here hx rfl (pc0 := 103) (pc' := 107) rfl (hb hby at_103) (by decide) (by decide) k) ?_
  refine own_by (S' := (T19.setTop (mkF m 109 #[.val (.long q1), .second, .val (.ref b9), .val (.long (own_mix (q1 + (-7046029254386353131)))), .second, .val (.long (own_mix ((q1 + (-7046029254386353131)) + (-7046029254386353131)))), .second, .val (.long (own_mix (((q1 + (-7046029254386353131)) + (-7046029254386353131)) + (-7046029254386353131)))), .second, .val (.ref b14), .val (.long (own_mix ((q1 + (-7046029254386353131 : Int64)) + (-7046029254386353131)))), .second, .val (.int (1 : Int32)), .val (.int (1 : Int32)), .val (.int (1 : Int32)), .unset] []))) (fun _ k => XS.istore X19.here hx rfl (hb hby at_107) rfl (l' := #[.val (.long q1), .second, .val (.ref b9), .val (.long (own_mix (q1 + (-7046029254386353131)))), .second, .val (.long (own_mix ((q1 + (-7046029254386353131)) + (-7046029254386353131)))), .second, .val (.long (own_mix (((q1 + (-7046029254386353131)) + (-7046029254386353131)) + (-7046029254386353131)))), .second, .val (.ref b14), .val (.long (own_mix ((q1 + (-7046029254386353131 : Int64)) + (-7046029254386353131)))), .second, .val (.int (1 : Int32)), .val (.int (1 : Int32)), .val (.int (1 : Int32)), .unset]) rfl k) ?_
  refine own_by (S' := (T19.setTop (mkF m 111 #[.val (.long q1), .second, .val (.ref b9), .val (.long (own_mix (q1 + (-7046029254386353131)))), .second, .val (.long (own_mix ((q1 + (-7046029254386353131)) + (-7046029254386353131)))), .second, .val (.long (own_mix (((q1 + (-7046029254386353131)) + (-7046029254386353131)) + (-7046029254386353131)))), .second, .val (.ref b14), .val (.long (own_mix ((q1 + (-7046029254386353131 : Int64)) + (-7046029254386353131)))), .second, .val (.int (1 : Int32)), .val (.int (1 : Int32)), .val (.int (1 : Int32)), .unset] [(.long (own_mix ((q1 + (-7046029254386353131 : Int64)) + (-7046029254386353131))))]))) (fun _ k => XS.lload X19.here hx rfl (hb hby at_109) rfl k) ?_
  refine own_by (S' := (T19.setTop (mkF m 113 #[.val (.long q1), .second, .val (.ref b9), .val (.long (own_mix (q1 + (-7046029254386353131)))), .second, .val (.long (own_mix ((q1 + (-7046029254386353131)) + (-7046029254386353131)))), .second, .val (.long (own_mix (((q1 + (-7046029254386353131)) + (-7046029254386353131)) + (-7046029254386353131)))), .second, .val (.ref b14), .val (.long (own_mix ((q1 + (-7046029254386353131 : Int64)) + (-7046029254386353131)))), .second, .val (.int (1 : Int32)), .val (.int (1 : Int32)), .val (.int (1 : Int32)), .unset] [(.long (own_mix ((q1 + (-7046029254386353131)) + (-7046029254386353131)))), (.long (own_mix ((q1 + (-7046029254386353131 : Int64)) + (-7046029254386353131))))]))) (fun _ k => XS.lload X19.here hx rfl (hb hby at_111) rfl k) ?_
  refine own_by (S' := (T19.setTop (mkF m 114 #[.val (.long q1), .second, .val (.ref b9), .val (.long (own_mix (q1 + (-7046029254386353131)))), .second, .val (.long (own_mix ((q1 + (-7046029254386353131)) + (-7046029254386353131)))), .second, .val (.long (own_mix (((q1 + (-7046029254386353131)) + (-7046029254386353131)) + (-7046029254386353131)))), .second, .val (.ref b14), .val (.long (own_mix ((q1 + (-7046029254386353131 : Int64)) + (-7046029254386353131)))), .second, .val (.int (1 : Int32)), .val (.int (1 : Int32)), .val (.int (1 : Int32)), .unset] [(.int (lcmpW (own_mix ((q1 + (-7046029254386353131 : Int64)) + (-7046029254386353131))) (own_mix ((q1 + (-7046029254386353131)) + (-7046029254386353131)))))]))) (fun _ k => XS.lcmp X19.here hx rfl (hb hby at_113) rfl k) ?_
  refine own_by (S' := (T19.setTop (mkF m 117 #[.val (.long q1), .second, .val (.ref b9), .val (.long (own_mix (q1 + (-7046029254386353131)))), .second, .val (.long (own_mix ((q1 + (-7046029254386353131)) + (-7046029254386353131)))), .second, .val (.long (own_mix (((q1 + (-7046029254386353131)) + (-7046029254386353131)) + (-7046029254386353131)))), .second, .val (.ref b14), .val (.long (own_mix ((q1 + (-7046029254386353131 : Int64)) + (-7046029254386353131)))), .second, .val (.int (1 : Int32)), .val (.int (1 : Int32)), .val (.int (1 : Int32)), .unset] []))) (fun _ k => XS.ifNo X19.here hx rfl (hb hby at_114) rfl ((if0 _ _).trans (teq (((lw_eq _ _).mpr rfl) : (lcmpW (own_mix ((q1 + (-7046029254386353131 : Int64)) + (-7046029254386353131))) (own_mix ((q1 + (-7046029254386353131)) + (-7046029254386353131)))) = (0 : Int32))).2) k) ?_
  refine own_by (S' := (T19.setTop (mkF m 118 #[.val (.long q1), .second, .val (.ref b9), .val (.long (own_mix (q1 + (-7046029254386353131)))), .second, .val (.long (own_mix ((q1 + (-7046029254386353131)) + (-7046029254386353131)))), .second, .val (.long (own_mix (((q1 + (-7046029254386353131)) + (-7046029254386353131)) + (-7046029254386353131)))), .second, .val (.ref b14), .val (.long (own_mix ((q1 + (-7046029254386353131 : Int64)) + (-7046029254386353131)))), .second, .val (.int (1 : Int32)), .val (.int (1 : Int32)), .val (.int (1 : Int32)), .unset] [(.int (1 : Int32))]))) (fun _ k => XS.iconst X19.here hx rfl (hb hby at_117) k) ?_
  refine own_by (S' := (T19.setTop (mkF m 122 #[.val (.long q1), .second, .val (.ref b9), .val (.long (own_mix (q1 + (-7046029254386353131)))), .second, .val (.long (own_mix ((q1 + (-7046029254386353131)) + (-7046029254386353131)))), .second, .val (.long (own_mix (((q1 + (-7046029254386353131)) + (-7046029254386353131)) + (-7046029254386353131)))), .second, .val (.ref b14), .val (.long (own_mix ((q1 + (-7046029254386353131 : Int64)) + (-7046029254386353131)))), .second, .val (.int (1 : Int32)), .val (.int (1 : Int32)), .val (.int (1 : Int32)), .unset] [(.int (1 : Int32))]))) (fun _ k => XS.goto X19.here hx rfl (pc0 := 118) (pc' := 122) rfl (hb hby at_118) (by decide) (by decide) k) ?_
  refine own_by (S' := (T19.setTop (mkF m 124 #[.val (.long q1), .second, .val (.ref b9), .val (.long (own_mix (q1 + (-7046029254386353131)))), .second, .val (.long (own_mix ((q1 + (-7046029254386353131)) + (-7046029254386353131)))), .second, .val (.long (own_mix (((q1 + (-7046029254386353131)) + (-7046029254386353131)) + (-7046029254386353131)))), .second, .val (.ref b14), .val (.long (own_mix ((q1 + (-7046029254386353131 : Int64)) + (-7046029254386353131)))), .second, .val (.int (1 : Int32)), .val (.int (1 : Int32)), .val (.int (1 : Int32)), .val (.int (1 : Int32))] []))) (fun _ k => XS.istore X19.here hx rfl (hb hby at_122) rfl (l' := #[.val (.long q1), .second, .val (.ref b9), .val (.long (own_mix (q1 + (-7046029254386353131)))), .second, .val (.long (own_mix ((q1 + (-7046029254386353131)) + (-7046029254386353131)))), .second, .val (.long (own_mix (((q1 + (-7046029254386353131)) + (-7046029254386353131)) + (-7046029254386353131)))), .second, .val (.ref b14), .val (.long (own_mix ((q1 + (-7046029254386353131 : Int64)) + (-7046029254386353131)))), .second, .val (.int (1 : Int32)), .val (.int (1 : Int32)), .val (.int (1 : Int32)), .val (.int (1 : Int32))]) rfl k) ?_
  refine own_by (S' := (T19.setTop (mkF m 126 #[.val (.long q1), .second, .val (.ref b9), .val (.long (own_mix (q1 + (-7046029254386353131)))), .second, .val (.long (own_mix ((q1 + (-7046029254386353131)) + (-7046029254386353131)))), .second, .val (.long (own_mix (((q1 + (-7046029254386353131)) + (-7046029254386353131)) + (-7046029254386353131)))), .second, .val (.ref b14), .val (.long (own_mix ((q1 + (-7046029254386353131 : Int64)) + (-7046029254386353131)))), .second, .val (.int (1 : Int32)), .val (.int (1 : Int32)), .val (.int (1 : Int32)), .val (.int (1 : Int32))] [(.int (1 : Int32))]))) (fun _ k => XS.iload X19.here hx rfl (hb hby at_124) rfl k) ?_
  refine own_by (S' := (T19.setTop (mkF m 129 #[.val (.long q1), .second, .val (.ref b9), .val (.long (own_mix (q1 + (-7046029254386353131)))), .second, .val (.long (own_mix ((q1 + (-7046029254386353131)) + (-7046029254386353131)))), .second, .val (.long (own_mix (((q1 + (-7046029254386353131)) + (-7046029254386353131)) + (-7046029254386353131)))), .second, .val (.ref b14), .val (.long (own_mix ((q1 + (-7046029254386353131 : Int64)) + (-7046029254386353131)))), .second, .val (.int (1 : Int32)), .val (.int (1 : Int32)), .val (.int (1 : Int32)), .val (.int (1 : Int32))] []))) (fun _ k => XS.ifNo X19.here hx rfl (hb hby at_126) rfl ((if0 _ _).trans (feq ((by decide) : ¬ ((1 : Int32) = (0 : Int32)))).1) k) ?_
  refine own_by (S' := (T19.setTop (mkF m 131 #[.val (.long q1), .second, .val (.ref b9), .val (.long (own_mix (q1 + (-7046029254386353131)))), .second, .val (.long (own_mix ((q1 + (-7046029254386353131)) + (-7046029254386353131)))), .second, .val (.long (own_mix (((q1 + (-7046029254386353131)) + (-7046029254386353131)) + (-7046029254386353131)))), .second, .val (.ref b14), .val (.long (own_mix ((q1 + (-7046029254386353131 : Int64)) + (-7046029254386353131)))), .second, .val (.int (1 : Int32)), .val (.int (1 : Int32)), .val (.int (1 : Int32)), .val (.int (1 : Int32))] [(.int (1 : Int32))]))) (fun _ k => XS.iload X19.here hx rfl (hb hby at_129) rfl k) ?_
  refine own_by (S' := (T19.setTop (mkF m 134 #[.val (.long q1), .second, .val (.ref b9), .val (.long (own_mix (q1 + (-7046029254386353131)))), .second, .val (.long (own_mix ((q1 + (-7046029254386353131)) + (-7046029254386353131)))), .second, .val (.long (own_mix (((q1 + (-7046029254386353131)) + (-7046029254386353131)) + (-7046029254386353131)))), .second, .val (.ref b14), .val (.long (own_mix ((q1 + (-7046029254386353131 : Int64)) + (-7046029254386353131)))), .second, .val (.int (1 : Int32)), .val (.int (1 : Int32)), .val (.int (1 : Int32)), .val (.int (1 : Int32))] []))) (fun _ k => XS.ifNo X19.here hx rfl (hb hby at_131) rfl ((if0 _ _).trans (feq ((by decide) : ¬ ((1 : Int32) = (0 : Int32)))).1) k) ?_
  refine own_by (S' := (T19.setTop (mkF m 136 #[.val (.long q1), .second, .val (.ref b9), .val (.long (own_mix (q1 + (-7046029254386353131)))), .second, .val (.long (own_mix ((q1 + (-7046029254386353131)) + (-7046029254386353131)))), .second, .val (.long (own_mix (((q1 + (-7046029254386353131)) + (-7046029254386353131)) + (-7046029254386353131)))), .second, .val (.ref b14), .val (.long (own_mix ((q1 + (-7046029254386353131 : Int64)) + (-7046029254386353131)))), .second, .val (.int (1 : Int32)), .val (.int (1 : Int32)), .val (.int (1 : Int32)), .val (.int (1 : Int32))] [(.int (1 : Int32))]))) (fun _ k => XS.iload X19.here hx rfl (hb hby at_134) rfl k) ?_
  refine own_by (S' := (T19.setTop (mkF m 139 #[.val (.long q1), .second, .val (.ref b9), .val (.long (own_mix (q1 + (-7046029254386353131)))), .second, .val (.long (own_mix ((q1 + (-7046029254386353131)) + (-7046029254386353131)))), .second, .val (.long (own_mix (((q1 + (-7046029254386353131)) + (-7046029254386353131)) + (-7046029254386353131)))), .second, .val (.ref b14), .val (.long (own_mix ((q1 + (-7046029254386353131 : Int64)) + (-7046029254386353131)))), .second, .val (.int (1 : Int32)), .val (.int (1 : Int32)), .val (.int (1 : Int32)), .val (.int (1 : Int32))] []))) (fun _ k => XS.ifNo X19.here hx rfl (hb hby at_136) rfl ((if0 _ _).trans (feq ((by decide) : ¬ ((1 : Int32) = (0 : Int32)))).1) k) ?_
  refine own_by (S' := (T19.setTop (mkF m 141 #[.val (.long q1), .second, .val (.ref b9), .val (.long (own_mix (q1 + (-7046029254386353131)))), .second, .val (.long (own_mix ((q1 + (-7046029254386353131)) + (-7046029254386353131)))), .second, .val (.long (own_mix (((q1 + (-7046029254386353131)) + (-7046029254386353131)) + (-7046029254386353131)))), .second, .val (.ref b14), .val (.long (own_mix ((q1 + (-7046029254386353131 : Int64)) + (-7046029254386353131)))), .second, .val (.int (1 : Int32)), .val (.int (1 : Int32)), .val (.int (1 : Int32)), .val (.int (1 : Int32))] [(.int (1 : Int32))]))) (fun _ k => XS.iload X19.here hx rfl (hb hby at_139) rfl k) ?_
  refine own_by (S' := (T19.setTop (mkF m 144 #[.val (.long q1), .second, .val (.ref b9), .val (.long (own_mix (q1 + (-7046029254386353131)))), .second, .val (.long (own_mix ((q1 + (-7046029254386353131)) + (-7046029254386353131)))), .second, .val (.long (own_mix (((q1 + (-7046029254386353131)) + (-7046029254386353131)) + (-7046029254386353131)))), .second, .val (.ref b14), .val (.long (own_mix ((q1 + (-7046029254386353131 : Int64)) + (-7046029254386353131)))), .second, .val (.int (1 : Int32)), .val (.int (1 : Int32)), .val (.int (1 : Int32)), .val (.int (1 : Int32))] []))) (fun _ k => XS.ifNo X19.here hx rfl (hb hby at_141) rfl ((if0 _ _).trans (feq ((by decide) : ¬ ((1 : Int32) = (0 : Int32)))).1) k) ?_
  refine own_by (S' := (T19.setTop (mkF m 145 #[.val (.long q1), .second, .val (.ref b9), .val (.long (own_mix (q1 + (-7046029254386353131)))), .second, .val (.long (own_mix ((q1 + (-7046029254386353131)) + (-7046029254386353131)))), .second, .val (.long (own_mix (((q1 + (-7046029254386353131)) + (-7046029254386353131)) + (-7046029254386353131)))), .second, .val (.ref b14), .val (.long (own_mix ((q1 + (-7046029254386353131 : Int64)) + (-7046029254386353131)))), .second, .val (.int (1 : Int32)), .val (.int (1 : Int32)), .val (.int (1 : Int32)), .val (.int (1 : Int32))] [(.int (1 : Int32))]))) (fun _ k => XS.iconst X19.here hx rfl (hb hby at_144) k) ?_
  refine own_by (S' := (T19.setTop (mkF m 149 #[.val (.long q1), .second, .val (.ref b9), .val (.long (own_mix (q1 + (-7046029254386353131)))), .second, .val (.long (own_mix ((q1 + (-7046029254386353131)) + (-7046029254386353131)))), .second, .val (.long (own_mix (((q1 + (-7046029254386353131)) + (-7046029254386353131)) + (-7046029254386353131)))), .second, .val (.ref b14), .val (.long (own_mix ((q1 + (-7046029254386353131 : Int64)) + (-7046029254386353131)))), .second, .val (.int (1 : Int32)), .val (.int (1 : Int32)), .val (.int (1 : Int32)), .val (.int (1 : Int32))] [(.int (1 : Int32))]))) (fun _ k => XS.goto X19.here hx rfl (pc0 := 145) (pc' := 149) rfl (hb hby at_145) (by decide) (by decide) k) ?_
  exact own_ret X19 hx (t := .boolean) Bd.returns rfl (Or.inl ⟨rfl, by simp, _, rfl⟩) (hb hby at_149) hlk (by decide : 2 ≤ _) (by decide : 2 ≤ _) (by rw [eh2]; exact ⟨rfl, N⟩)
set_option maxRecDepth 65536 in
set_option maxHeartbeats 40000000 in
theorem comes_1 {Post : Tables → Env → Array Value → State → Outcome → State → Prop} (hpost : ∀ tb e args s v u, (limb_1_1.after args s (.returned v) u = true ∧ limb_1_2.after args s (.returned v) u = true ∧ True) → FrameEnd s (.returned v) u (Jvm.fieldLocs frame_1_writes args s ++ Jvm.arrayLocs frame_1_arrays args s ++ Jvm.staticLocs frame_1_statics s) 16 128 → Post tb e args s (.returned v) u) :
    ArmFor flags0 classFile x code maxLocals ret World_1 tables_1 room_1 Calls_1 rest_1 Pre_1 Post := by
  intro l hfl _ _ p e ha hc hk s m args below hf hA hF happ hP
  obtain ⟨hcalls, hrest, hpre⟩ := hP
  obtain ⟨-, -, -, hnamed, -, -, -, hat⟩ := (Spec.applies_iff hf).mp happ
  obtain ⟨hg, hn⟩ := and_e (Cond.before_iff.mp (show (Jvm.Cond.and given_1 narrow_1).before args s = true from hpre))
  obtain ⟨gc, gr⟩ := and_e hg
  have g0 := gr
  obtain ⟨w0, rfl⟩ : ∃ w0 : Value, args = #[w0] := by
    have hs : args.size = 1 := by simpa [Cond.value, given_1] using gc
    obtain ⟨L⟩ := args
    match L, hs with
    | [w0], _ => exact ⟨w0, rfl⟩
  have hw := fun d (hd : d ∈ tables_1) => atoms_spec (ws := Jvm.Cond.code x code maxLocals ret :: tables_1) hat d (List.mem_cons_of_mem _ hd)
  have hfit : Fit s := fun {y c} hc i hi => by
    obtain ⟨ha, rfl⟩ := Array.getElem?_eq_some_iff.mp hc
    have q := List.all_eq_true.mp ((Array.all_eq_true_iff_forall_mem.mp hF) _ (Array.getElem_mem ha)) i (List.mem_range.mpr hi)
    simpa [Array.getElem?_eq_getElem hi] using q
  obtain ⟨i0, ei0⟩ := isL_v g0
  obtain rfl : w0 = (.long i0) := Option.some.inj ei0
  obtain ⟨n, o, h1, h2, h3, _, L, rfl, ⟨rfl, N⟩, hq⟩ := rm0 l s _ hw tables_1 i0 s.heap s.heap.size (Nat.le_refl _) p e ha hc hk s m _ below hf ((Spec.applies_iff_loose hf).mp happ).1 ⟨rfl, State.Warmed39.refl s, rfl⟩ trivial
  refine ⟨n, _, h1, h2, h3, hpost _ _ _ _ _ _ ⟨Cond.after_iff.mpr rfl, Cond.after_iff.mpr (eq_i res_at (Term.int_eval (1)) rfl), trivial⟩ ⟨hq.1, hq.2.1, (hq.2.2.sift fun y hy => Or.inr (N y hy)).mono (by decide) (by decide)⟩⟩
theorem main_1_1 : Claimed_1_1 := comes_1 fun _ _ _ _ _ _ h hF => ⟨h.1, hF⟩
theorem main_1_2 : Claimed_1_2 := comes_1 fun _ _ _ _ _ _ h hF => ⟨h.2.1, hF⟩
end Jvm.Pilot.@@N@@
namespace Jvm.Pilot.@@N@@
open Jvm Jvm.ClassFile Sem Op Lib Jvm.Free Jvm.Stand Jvm.Pilot.@@N@@.Jvm.D
/-! MADE BY PROGRAM (witnessworld.py) out of the Statement's table words and the real class files: 9 classes; the members and pool entries that the words name. The judged class is class 1, her method 3. -/
namespace start1
open Jvm.ClassFile
def u (s : String) : CpInfo := .utf8 (stringToUtf16 s)
/-- a pool by its gaps: so many unusable entries, then the entry; so many at the end -/
def gap : Nat → List CpInfo → List CpInfo
  | 0, r => r
  | n + 1, r => .unusable :: gap n r
def poolList (es : List (Nat × CpInfo)) (last : Nat) : List CpInfo := es.foldr (fun e r => gap e.1 (e.2 :: r)) (gap last [])
def pool (es : List (Nat × CpInfo)) (last : Nat) : Array CpInfo := ⟨poolList es last⟩
def fileOf (pool : Array CpInfo) (this : Nat) (attrs : Array Attribute := #[]) (ms : Array MethodInfo := #[]) (fl : Nat := 33) (sup : Nat := 0) (ifs : Array Nat := #[]) (fds : Array FieldInfo := #[]) : ClassFile where
  minorVersion := 0
  majorVersion := 65
  constantPool := pool
  accessFlags := fl
  thisClass := this
  superClass := sup
  interfaces := ifs
  fields := fds
  methods := ms
  attributes := attrs
def plain (name : String) (sup : Option ClassId) : Class where
  name := name
  kind := .ordinary
  loader := none
  accessFlags := 33
  super := sup
  interfaces := #[]
  cf := none
  fields := #[]
  methods := #[]
  instanceTypes := #[]
  staticTypes := #[]
  resolved := #[]
  callSites := []
  init := .initialized
  statics := none
  mirror := none

def pool0 : Array CpInfo := pool [(5, u "<init>"), (0, u "()V"), (1, .class_ 10), (1, u "java/lang/Object")] 113

def k0c0 : Code := { maxStack := 0, maxLocals := 1, code := object_method_1_code, exceptionTable := #[], attributes := #[] }
def k0m0 : Method := { name := "<init>", desc := "()V", sig := { parameters := [], returnType := none }, accessFlags := 1, code := some k0c0 }
/-- java/lang/Object -/
def k0 : Class := { plain "java/lang/Object" none with
  accessFlags := 33
  interfaces := #[]
  cf := some (fileOf pool0 8 #[] #[{ accessFlags := 1, nameIndex := 5, descriptorIndex := 6, attributes := #[] }] 33 0 #[] #[])
  fields := #[]
  methods := #[k0m0]
  instanceTypes := #[]
  staticTypes := #[]
  resolved := Array.replicate 124 none
  statics := none }

def pool1 : Array CpInfo := pool [(2, .class_ 4), (1, u "java/lang/Object"), (0, u "<init>"), (0, u "()V"), (0, .methodref 8 9), (0, .class_ 10), (0, .nameAndType 11 12), (0, u "com/example/triarch/triarch/RngNextPinLaw"), (0, u "xs"), (0, u "(JI)J"), (0, .long 13787848793156543929), (1, .long 10723151780598845931), (1, .class_ 18), (0, u "com/example/triarch/triarch/Rng"), (0, .methodref 17 20), (0, .nameAndType 5 21), (0, u "(J)V"), (0, .methodref 17 23), (0, .nameAndType 24 25), (0, u "next"), (0, u "()J"), (0, .long 11400714819323198485), (1, .methodref 8 29), (0, .nameAndType 30 31), (0, u "fin"), (0, u "(J)J"), (0, .long 4354685564936845354), (1, .long 15755400384260043839), (1, u "GAMMA"), (0, u "J"), (3, u "law"), (0, u "(J)Z")] 3

def k1m0 : Method := { name := "<init>", desc := "()V", sig := { parameters := [], returnType := none }, accessFlags := 1, code := none }
def k1c1 : Code := { maxStack := 5, maxLocals := 3, code := method_2_code, exceptionTable := #[], attributes := #[] }
def k1m1 : Method := { name := "xs", desc := "(JI)J", sig := { parameters := [.long, .int], returnType := some .long }, accessFlags := 10, code := some k1c1 }
def k1c2 : Code := { maxStack := 4, maxLocals := 6, code := method_3_code, exceptionTable := #[], attributes := #[] }
def k1m2 : Method := { name := "fin", desc := "(J)J", sig := { parameters := [.long], returnType := some .long }, accessFlags := 10, code := some k1c2 }
def k1c3 : Code := { maxStack := 6, maxLocals := 16, code := code, exceptionTable := #[], attributes := #[] }
def k1m3 : Method := { name := "law", desc := "(J)Z", sig := { parameters := [.long], returnType := some .boolean }, accessFlags := 9, code := some k1c3 }
/-- com/example/triarch/triarch/RngNextPinLaw -/
def k1 : Class := { plain "com/example/triarch/triarch/RngNextPinLaw" (some 0) with
  accessFlags := 49
  interfaces := #[]
  cf := some (fileOf pool1 8 #[] #[{ accessFlags := 1, nameIndex := 5, descriptorIndex := 6, attributes := #[] }, { accessFlags := 10, nameIndex := 11, descriptorIndex := 12, attributes := #[] }, { accessFlags := 10, nameIndex := 30, descriptorIndex := 31, attributes := #[] }, { accessFlags := 9, nameIndex := 41, descriptorIndex := 42, attributes := #[] }] 49 2 #[] #[{ accessFlags := 26, nameIndex := 36, descriptorIndex := 37, attributes := #[] }])
  fields := #[{ name := "GAMMA", type := .long, accessFlags := 26, slot := 0, constantValue := 0 }]
  methods := #[k1m0, k1m1, k1m2, k1m3]
  instanceTypes := #[]
  staticTypes := #[.long]
  resolved := Array.replicate 46 none
  statics := none }

def pool2 : Array CpInfo := pool [(1, .methodref 2 3), (0, .class_ 4), (0, .nameAndType 5 6), (0, u "java/lang/Object"), (0, u "<init>"), (0, u "()V"), (0, .fieldref 8 9), (0, .class_ 10), (0, .nameAndType 11 12), (0, u "com/example/triarch/triarch/Rng"), (0, u "state"), (0, u "J"), (0, .long 11400714819323198485), (1, .long 13787848793156543929), (1, .long 10723151780598845931), (16, u "next"), (0, u "()J"), (16, u "(J)V")] 24

def k2c0 : Code := { maxStack := 3, maxLocals := 3, code := prog_57_method_1_code, exceptionTable := #[], attributes := #[] }
def k2m0 : Method := { name := "<init>", desc := "(J)V", sig := { parameters := [.long], returnType := none }, accessFlags := 0, code := some k2c0 }
def k2c1 : Code := { maxStack := 5, maxLocals := 3, code := prog_57_method_2_code, exceptionTable := #[], attributes := #[] }
def k2m1 : Method := { name := "next", desc := "()J", sig := { parameters := [], returnType := some .long }, accessFlags := 0, code := some k2c1 }
/-- com/example/triarch/triarch/Rng -/
def k2 : Class := { plain "com/example/triarch/triarch/Rng" (some 0) with
  accessFlags := 48
  interfaces := #[]
  cf := some (fileOf pool2 8 #[] #[{ accessFlags := 0, nameIndex := 5, descriptorIndex := 52, attributes := #[] }, { accessFlags := 0, nameIndex := 34, descriptorIndex := 35, attributes := #[] }] 48 2 #[] #[{ accessFlags := 2, nameIndex := 11, descriptorIndex := 12, attributes := #[] }])
  fields := #[{ name := "state", type := .long, accessFlags := 2, slot := 0, constantValue := 0 }]
  methods := #[k2m0, k2m1]
  instanceTypes := #[.long]
  staticTypes := #[]
  resolved := Array.replicate 77 none
  statics := none }

def pool3 : Array CpInfo := pool [(1, u "java/lang/Cloneable"), (0, .class_ 1), (0, u "java/lang/Object"), (0, .class_ 3)] 3

/-- java/lang/Cloneable -/
def k3 : Class := { plain "java/lang/Cloneable" (some 0) with
  accessFlags := 1537
  interfaces := #[]
  cf := some (fileOf pool3 2 #[] #[] 1537 4 #[] #[])
  fields := #[]
  methods := #[]
  instanceTypes := #[]
  staticTypes := #[]
  resolved := Array.replicate 8 none
  statics := none }

def pool4 : Array CpInfo := pool [(1, u "java/io/Serializable"), (0, .class_ 1), (0, u "java/lang/Object"), (0, .class_ 3)] 3

/-- java/io/Serializable -/
def k4 : Class := { plain "java/io/Serializable" (some 0) with
  accessFlags := 1537
  interfaces := #[]
  cf := some (fileOf pool4 2 #[] #[] 1537 4 #[] #[])
  fields := #[]
  methods := #[]
  instanceTypes := #[]
  staticTypes := #[]
  resolved := Array.replicate 8 none
  statics := none }

/-- the primitive byte -/
def k5 : Class := { plain "byte" none with kind := .primitive 'B', accessFlags := 0x411 }
/-- [B -/
def k6 : Class := { plain "[B" (some 0) with kind := .array 5 .byte, interfaces := #[3, 4], accessFlags := 1041 }

/-- the primitive int -/
def k7 : Class := { plain "int" none with kind := .primitive 'I', accessFlags := 0x411 }
/-- [I -/
def k8 : Class := { plain "[I" (some 0) with kind := .array 7 .int, interfaces := #[3, 4], accessFlags := 1041 }

def heap : Heap := #[]
def classes : Array Class := #[k0, k1, k2, k3, k4, k5, k6, k7, k8]
def interned : List (Array UInt16 × Addr) := []
def slotsUsed : Nat := 0
def theMethod : MethodId := ⟨1, 3⟩
def args0 : Array Value := #[.long 5]
def aboutOver (below : List Frame) : State where
  vm := { classes := classes, interned := interned.toArray }
  heap := heap
  slotsUsed := slotsUsed
  threads := #[{ frames := .invoking theMethod args0 :: below }]
def below0 : List Frame := [.native { method := ⟨0, 0⟩, args := #[] }]
def about1 : State := aboutOver below0
def p0 : Program := .bare "" "" ""
def e0 : Env := launch0.env 0 0 0
theorem w_frames : about1.frames = Frame.invoking theMethod args0 :: below0 := rfl
set_option maxRecDepth 65536 in
theorem w_args : argsFit about1.vm theMethod args0 = true := by decide +kernel
set_option maxRecDepth 65536 in
theorem w_heap : heapFits about1 = true := by decide +kernel
set_option maxRecDepth 65536 in
theorem w_runnable : about1.curStatus? = some .runnable := by decide +kernel
set_option maxRecDepth 65536 in
theorem w_alone : about1.alone = true := by decide +kernel
set_option maxRecDepth 65536 in
theorem w_named : about1.methodNamed? x = some theMethod := by decide +kernel
set_option maxRecDepth 65536 in
theorem w_hears : about1.hears theMethod below0 = true := by decide +kernel
set_option maxRecDepth 65536 in
theorem w_ripe : about1.ripe theMethod args0 below0 = true := by decide +kernel
theorem w_running : about1.status = .running := rfl
set_option maxRecDepth 65536 in
theorem w_room : about1.hasRoom e0.platform room_1 = true :=
  launch0.hasRoom_least _ room_1 (by decide +kernel) (by decide +kernel) (by decide +kernel) (by decide +kernel) (by decide +kernel) (by decide +kernel)
theorem allAtoms_all (ts : List Jvm.Cond) (a : Array Jvm.Value) (st : Jvm.State) : (allAtoms ts).before a st = ts.all (fun c => c.before a st) := by
  induction ts with
  | nil => rfl
  | cons c t ih =>
    show (Jvm.Cond.and c (allAtoms t)).before a st = _
    rw [Jvm.Cond.before_and, ih, List.all_cons]
def words1 : List Jvm.Cond := Jvm.Cond.code x code maxLocals ret :: tables_1
/-- a 'code' word, met by the world's own term for the bytes: nothing is compared byte by byte -/
theorem code_word {y : MethodName} {bytes : ByteArray} {mx : Nat} {rt : Option FieldType} {a : Array Value} {s : State} {m : MethodId} {meth : Method} {c : Code} (h1 : s.methodNamed? y = some m) (h2 : s.vm.method? m = some meth) (h3 : meth.code = some c) (h4 : c.code = bytes)
    (h5 : (c.maxLocals == mx && c.exceptionTable.isEmpty && decide (c.maxStack ≤ mostOperands) && decide (meth.sig.returnType = rt) && !meth.locks && decide (parseMethodDescriptor y.desc = some meth.sig)) = true) : (Jvm.Cond.code y bytes mx rt).before a s = true := by
  simp only [Bool.and_eq_true, beq_iff_eq, Bool.not_eq_true', decide_eq_true_eq] at h5
  obtain ⟨⟨⟨⟨⟨g1, g2⟩, g3⟩, g4⟩, g5⟩, g6⟩ := h5
  simp [Cond.before, Cond.holds, Cond.value, h1, h2, h3, h4, g1, g2, g3, g4, g5, g6]
def isCode : Jvm.Cond → Bool
  | .code _ _ _ _ => true
  | _ => false
theorem all_split {L : List Jvm.Cond} {P : Jvm.Cond → Bool} (h1 : L.all (fun c => isCode c || P c) = true) (h2 : ∀ c ∈ L.filter isCode, P c = true) : L.all P = true := by
  refine List.all_eq_true.mpr fun c hc => ?_
  have h := List.all_eq_true.mp h1 c hc
  rcases Bool.eq_false_or_eq_true (isCode c) with hi | hi
  · exact h2 c (List.mem_filter.mpr ⟨hc, hi⟩)
  · simpa [hi] using h
set_option maxRecDepth 65536 in
theorem w_c0 : (Jvm.Cond.code x code maxLocals ret).before args0 about1 = true := code_word (m := ⟨1, 3⟩) (meth := k1m3) (c := k1c3) (by decide +kernel) rfl rfl rfl (by decide +kernel)
set_option maxRecDepth 65536 in
theorem w_c1 : (Jvm.Cond.code ({ cls := "com/example/triarch/triarch/Rng", name := "<init>", desc := "(J)V" } : Jvm.MethodName) prog_57_method_1_code (3 : Nat) (Option.none : Option Jvm.ClassFile.FieldType)).before args0 about1 = true := code_word (m := ⟨2, 0⟩) (meth := k2m0) (c := k2c0) (by decide +kernel) rfl rfl rfl (by decide +kernel)
set_option maxRecDepth 65536 in
theorem w_c2 : (Jvm.Cond.code ({ cls := "java/lang/Object", name := "<init>", desc := "()V" } : Jvm.MethodName) object_method_1_code (1 : Nat) (Option.none : Option Jvm.ClassFile.FieldType)).before args0 about1 = true := code_word (m := ⟨0, 0⟩) (meth := k0m0) (c := k0c0) (by decide +kernel) rfl rfl rfl (by decide +kernel)
set_option maxRecDepth 65536 in
theorem w_c3 : (Jvm.Cond.code ({ cls := "com/example/triarch/triarch/Rng", name := "next", desc := "()J" } : Jvm.MethodName) prog_57_method_2_code (3 : Nat) (Option.some Jvm.ClassFile.FieldType.long)).before args0 about1 = true := code_word (m := ⟨2, 1⟩) (meth := k2m1) (c := k2c1) (by decide +kernel) rfl rfl rfl (by decide +kernel)
set_option maxRecDepth 65536 in
theorem w_c4 : (Jvm.Cond.code ({ cls := "com/example/triarch/triarch/RngNextPinLaw", name := "fin", desc := "(J)J" } : Jvm.MethodName) method_3_code (6 : Nat) (Option.some Jvm.ClassFile.FieldType.long)).before args0 about1 = true := code_word (m := ⟨1, 2⟩) (meth := k1m2) (c := k1c2) (by decide +kernel) rfl rfl rfl (by decide +kernel)
set_option maxRecDepth 65536 in
theorem w_c5 : (Jvm.Cond.code ({ cls := "com/example/triarch/triarch/RngNextPinLaw", name := "xs", desc := "(JI)J" } : Jvm.MethodName) method_2_code (3 : Nat) (Option.some Jvm.ClassFile.FieldType.long)).before args0 about1 = true := code_word (m := ⟨1, 1⟩) (meth := k1m1) (c := k1c1) (by decide +kernel) rfl rfl rfl (by decide +kernel)
def codes1 : List Jvm.Cond := [Jvm.Cond.code x code maxLocals ret, Jvm.Cond.code ({ cls := "com/example/triarch/triarch/Rng", name := "<init>", desc := "(J)V" } : Jvm.MethodName) prog_57_method_1_code (3 : Nat) (Option.none : Option Jvm.ClassFile.FieldType), Jvm.Cond.code ({ cls := "java/lang/Object", name := "<init>", desc := "()V" } : Jvm.MethodName) object_method_1_code (1 : Nat) (Option.none : Option Jvm.ClassFile.FieldType), Jvm.Cond.code ({ cls := "com/example/triarch/triarch/Rng", name := "next", desc := "()J" } : Jvm.MethodName) prog_57_method_2_code (3 : Nat) (Option.some Jvm.ClassFile.FieldType.long), Jvm.Cond.code ({ cls := "com/example/triarch/triarch/RngNextPinLaw", name := "fin", desc := "(J)J" } : Jvm.MethodName) method_3_code (6 : Nat) (Option.some Jvm.ClassFile.FieldType.long), Jvm.Cond.code ({ cls := "com/example/triarch/triarch/RngNextPinLaw", name := "xs", desc := "(JI)J" } : Jvm.MethodName) method_2_code (3 : Nat) (Option.some Jvm.ClassFile.FieldType.long)]
set_option maxRecDepth 65536 in
theorem codes_eq : words1.filter isCode = codes1 := rfl
theorem w_codes : ∀ c ∈ words1.filter isCode, c.before args0 about1 = true := by
  rw [codes_eq]
  intro c hc
  simp only [codes1, List.mem_cons, List.not_mem_nil, or_false] at hc
  rcases hc with rfl | rfl | rfl | rfl | rfl | rfl
  · exact w_c0
  · exact w_c1
  · exact w_c2
  · exact w_c3
  · exact w_c4
  · exact w_c5
set_option maxRecDepth 65536 in
theorem w_t1 : (words1.take 24).all (fun c => isCode c || c.before args0 about1) = true := by decide +kernel
set_option maxRecDepth 65536 in
theorem w_t2 : (words1.drop 24).all (fun c => isCode c || c.before args0 about1) = true := by decide +kernel
theorem w_tables : (allAtoms (Jvm.Cond.code x code maxLocals ret :: tables_1)).before args0 about1 = true := by
  rw [allAtoms_all]
  show words1.all (fun c => c.before args0 about1) = true
  refine all_split ?_ w_codes
  rw [← List.take_append_drop 24 words1, List.all_append, w_t1, w_t2]
  rfl
set_option maxRecDepth 65536 in
theorem w_case : (Jvm.Cond.and given_1 narrow_1).before args0 about1 = true := by decide +kernel
theorem w_applies : (headSpec (Jvm.Cond.code x code maxLocals ret :: tables_1) room_1).applies x e0.platform about1 = true :=
  (Spec.applies_iff w_frames).mpr ⟨w_running, w_runnable, w_alone, w_named, w_hears, w_ripe, w_room, w_tables⟩
theorem atStart : AtStart classFile x code maxLocals ret World_1 tables_1 room_1 Calls_1 rest_1 Pre_1 launch0 p0 e0 about1 theMethod args0 below0 :=
  ⟨lists_1, trivial, launch0.admits_env _ _ _, launch0.least_env, fairChoices_fair.cas, fairChoices_fair.clock, w_frames, w_args, w_heap, w_applies, trivial, trivial, w_case⟩
end start1
theorem witness_1 : WitnessClaimed_1 := ⟨start1.p0, start1.e0, start1.about1, start1.theMethod, start1.args0, start1.below0, start1.atStart⟩
end Jvm.Pilot.@@N@@
