import JvmDerived
import JvmDerived.Pilot.@@N@@Statement
import JvmDerived.Pilot.@@N@@Code
set_option linter.unusedVariables false
set_option linter.unusedSimpArgs false
namespace Jvm.Pilot.@@N@@
open Jvm Jvm.ClassFile Sem Op Lib Jvm.Free Jvm.Stand Jvm.LawKit Jvm.RoadKit Bundle Jvm.Pilot.@@N@@.Jvm.D
section Own
variable {p : Program} {l : Launch} {e : Env} {R : Room} {s : State} {m : MethodId} {args : Array Value} {below : List Frame} {meth : Method} {c : Code} {T : State} {locs : List Loc} {cells slots : Nat} {Z : State} {h h' : Heap} {a b : Addr} {ty : FieldType} {vs : List Value} {v : Value} {sl : Nat}
/-- from here the run comes to an end that Q allows -/
def own_fin (p : Program) (e : Env) (below : List Frame) (s : State) (cl sl : Nat) (Q : Option Value → Heap → List Loc → Prop) (S : State) : Prop :=
  ∃ s₂ o, Steps p.tables e below S s₂ ∧ s₂.status = .running ∧ Ended s₂ below o ∧ ∃ v L, o = .returned v ∧ Q v s₂.heap L ∧ FrameEnd s o s₂ L cl sl
theorem own_by {cl sl : Nat} {Q : Option Value → Heap → List Loc → Prop} {S S' : State} (st : ∀ target, Steps p.tables e below S' target → Steps p.tables e below S target) (k : own_fin p e below s cl sl Q S') : own_fin p e below s cl sl Q S := by
  obtain ⟨s2, o, h1, h2⟩ := k
  exact ⟨s2, o, st _ h1, h2⟩
theorem own_tr {cl sl : Nat} {Q : Option Value → Heap → List Loc → Prop} {S S' : State} (st : Steps p.tables e below S S') (k : own_fin p e below s cl sl Q S') : own_fin p e below s cl sl Q S := by
  obtain ⟨s2, o, h1, h2⟩ := k
  exact ⟨s2, o, st.trans h1, h2⟩
theorem own_start {cl sl : Nat} {Q : Option Value → Heap → List Loc → Prop} {s₁ : State} {mx : Nat} {g : JFrame} (q : entryFrame m args mx = g) (k : own_fin p e below s cl sl Q (s₁.setTop g)) :
    ∃ s₂ o, Steps p.tables e below (s₁.setTop (entryFrame m args mx)) s₂ ∧ s₂.status = .running ∧ Ended s₂ below o ∧ ∃ v L, o = .returned v ∧ Q v s₂.heap L ∧ FrameEnd s o s₂ L cl sl := by
  rw [q]; exact k
theorem own_ret (X : Stand p l e R s m args below meth c T locs cells slots) (hx : p.tables.exec = Jvm.exec) {cl sl : Nat} {Q : Option Value → Heap → List Loc → Prop} {pc : Nat} {Ls : Array Slot} {w : Value} {t : FieldType} {i : Instr} {rest : List Value} (hret : meth.sig.returnType = some t) (hn : narrow t w = w)
    (hi : (i = .ireturn ∧ (t = .int ∨ t = .boolean ∨ t = .byte ∨ t = .char ∨ t = .short) ∧ ∃ z, w = .int z) ∨ (i = .lreturn ∧ t = .long ∧ ∃ z, w = .long z) ∨ (i = .dreturn ∧ t = .double ∧ ∃ z, w = .double z) ∨ (i = .freturn ∧ t = .float ∧ ∃ z, w = .float z) ∨ (i = .areturn ∧ t.isReference = true ∧ w.isRef = true))
    (hd : decode c.code pc = .ok (i, 1)) (hlk : meth.locks = false) (hc : cells ≤ cl) (hs : slots ≤ sl) (q : Q (some w) T.heap locs) : own_fin p e below s cl sl Q (T.setTop (mkF m pc Ls (w :: rest))) := by
  obtain ⟨fs, hr, hrun, hended, hW, hsame⟩ := X.leave (v := some w) (fun h => by rw [hret] at h; cases h)
  exact ⟨_, _, retOut X hx hret hn hi hd hr, hrun, hended, _, _, rfl, q, ⟨_, rfl⟩, hW, hsame.mono hc hs⟩
theorem own_ret0 (X : Stand p l e R s m args below meth c T locs cells slots) (hx : p.tables.exec = Jvm.exec) {cl sl : Nat} {Q : Option Value → Heap → List Loc → Prop} {pc : Nat} {Ls : Array Slot} (hret : meth.sig.returnType = none)
    (hd : decode c.code pc = .ok (.return_, 1)) (hlk : meth.locks = false) (hc : cells ≤ cl) (hs : slots ≤ sl) (q : Q none T.heap locs) : own_fin p e below s cl sl Q (T.setTop (mkF m pc Ls [])) := by
  obtain ⟨fs, hr, hrun, hended, hW, hsame⟩ := X.leave (v := none) (fun _ => rfl)
  exact ⟨_, _, X.returnOut hx hret hd hr, hrun, hended, _, _, rfl, q, ⟨_, rfl⟩, hW, hsame.mono hc hs⟩
/-- the array at a holds just these values -/
def OwnA (Z : State) (h : Heap) (a : Addr) (ty : FieldType) (vs : List Value) : Prop := ∃ c : Cell, Arr Z h a c ty ∧ c.slots.toList = vs
theorem OwnA.lt (F : OwnA Z h a ty vs) : a < h.size := by obtain ⟨c, A, -⟩ := F; exact A.lt
theorem OwnA.ext (F : OwnA Z h a ty vs) (E : Ext h h') : OwnA Z h' a ty vs := by obtain ⟨c, A, r⟩ := F; exact ⟨c, A.ext E, r⟩
theorem OwnA.other (F : OwnA Z h a ty vs) (W : Wr h h' b sl v) (q : a ≠ b) : OwnA Z h' a ty vs := by obtain ⟨c, A, r⟩ := F; exact ⟨c, A.other W q, r⟩
theorem OwnA.keep {ws : List Addr} (F : OwnA Z h a ty vs) (K : Keep h h' ws) (q : a ∉ ws) : OwnA Z h' a ty vs := by obtain ⟨c, A, r⟩ := F; exact ⟨c, ⟨K.2.1 a c A.1 q, A.2⟩, r⟩
theorem OwnA.set (F : OwnA Z h a ty vs) (W : Wr h h' a sl v) : OwnA Z h' a ty (vs.set sl v) := by
  obtain ⟨c, A, rfl⟩ := F
  exact ⟨_, A.same W, by simp [Cell.setSlot]⟩
theorem own_new {k : ClassId} {z : Int32} (A : Arr Z h a (newA k ty z) ty) (q : List.replicate z.toNatClampNeg (defaultValue ty) = vs) : OwnA Z h a ty vs := ⟨_, A, by rw [← q]; simp [newA]⟩
theorem own_inb {cl : Cell} {j : Int32} (hj : ¬ j < 0) (hv : cl.slots.toList[j.toNatClampNeg]? = some v) : ¬ (j < 0 ∨ cl.slots.size ≤ j.toNatClampNeg) ∧ cl.slots[j.toNatClampNeg]? = some v := by
  rw [Array.getElem?_toList] at hv
  exact ⟨fun q => q.elim hj fun q => absurd (Array.getElem?_eq_some_iff.mp hv).1 (Nat.not_lt.mpr q), hv⟩
theorem own_len (X : Stand p l e R s m args below meth c T locs cells slots) (hx : p.tables.exec = Jvm.exec) (hZ : Z.Warmed39 s.vm) (eT : T.heap = h) (F : OwnA Z h a ty vs) {z : Int32} (hz : Int32.ofNat vs.length = z) {g : JFrame} (hg : g.method = m) {rest : List Value} (hs : g.stack = .ref a :: rest)
    (hd : decode c.code g.pc = .ok (.arraylength, 1)) (target : State) (k : Steps p.tables e below (T.setTop { g with pc := g.pc + 1, stack := .int z :: rest }) target) : Steps p.tables e below (T.setTop g) target := by
  obtain ⟨cl, A, rfl⟩ := F
  refine X.arraylength hx (cell := cl) (by rw [eT]; exact A.1) (State.isArrayOf_alike hZ.alike A.2.1) hg hs hd _ ?_
  rw [Array.length_toList] at hz
  rw [show cl.slots.size.toInt32 = z from hz]; exact k
theorem own_iaload (X : Stand p l e R s m args below meth c T locs cells slots) (hx : p.tables.exec = Jvm.exec) (hZ : Z.Warmed39 s.vm) (eT : T.heap = h) (F : OwnA Z h a .int vs) {j : Int32} (hj : ¬ j < 0) (hv : vs[j.toNatClampNeg]? = some v) {g : JFrame} (hg : g.method = m) {rest : List Value} (hs : g.stack = .int j :: .ref a :: rest)
    (hd : decode c.code g.pc = .ok (.iaload, 1)) (target : State) (k : Steps p.tables e below (T.setTop { g with pc := g.pc + 1, stack := v :: rest }) target) : Steps p.tables e below (T.setTop g) target := by
  obtain ⟨cl, A, rfl⟩ := F
  exact X.iaload hx (by rw [eT]; exact A.1) (State.isArrayOf_alike hZ.alike A.2.1) A.2.2 (own_inb hj hv).1 (own_inb hj hv).2 hg hs hd _ k
theorem own_laload (X : Stand p l e R s m args below meth c T locs cells slots) (hx : p.tables.exec = Jvm.exec) (hZ : Z.Warmed39 s.vm) (eT : T.heap = h) (F : OwnA Z h a .long vs) {j : Int32} (hj : ¬ j < 0) (hv : vs[j.toNatClampNeg]? = some v) {g : JFrame} (hg : g.method = m) {rest : List Value} (hs : g.stack = .int j :: .ref a :: rest)
    (hd : decode c.code g.pc = .ok (.laload, 1)) (target : State) (k : Steps p.tables e below (T.setTop { g with pc := g.pc + 1, stack := v :: rest }) target) : Steps p.tables e below (T.setTop g) target := by
  obtain ⟨cl, A, rfl⟩ := F
  exact X.laload hx (by rw [eT]; exact A.1) (State.isArrayOf_alike hZ.alike A.2.1) A.2.2 (own_inb hj hv).1 (own_inb hj hv).2 hg hs hd _ k
theorem own_caload (X : Stand p l e R s m args below meth c T locs cells slots) (hx : p.tables.exec = Jvm.exec) (hZ : Z.Warmed39 s.vm) (eT : T.heap = h) (F : OwnA Z h a .char vs) {j : Int32} (hj : ¬ j < 0) (hv : vs[j.toNatClampNeg]? = some v) {g : JFrame} (hg : g.method = m) {rest : List Value} (hs : g.stack = .int j :: .ref a :: rest)
    (hd : decode c.code g.pc = .ok (.caload, 1)) (target : State) (k : Steps p.tables e below (T.setTop { g with pc := g.pc + 1, stack := v :: rest }) target) : Steps p.tables e below (T.setTop g) target := by
  obtain ⟨cl, A, rfl⟩ := F
  exact X.caload hx (by rw [eT]; exact A.1) (State.isArrayOf_alike hZ.alike A.2.1) A.2.2 (own_inb hj hv).1 (own_inb hj hv).2 hg hs hd _ k
theorem own_baload (X : Stand p l e R s m args below meth c T locs cells slots) (hx : p.tables.exec = Jvm.exec) (hZ : Z.Warmed39 s.vm) (eT : T.heap = h) (F : OwnA Z h a .byte vs) {j : Int32} (hj : ¬ j < 0) (hv : vs[j.toNatClampNeg]? = some v) {g : JFrame} (hg : g.method = m) {rest : List Value} (hs : g.stack = .int j :: .ref a :: rest)
    (hd : decode c.code g.pc = .ok (.baload, 1)) (target : State) (k : Steps p.tables e below (T.setTop { g with pc := g.pc + 1, stack := v :: rest }) target) : Steps p.tables e below (T.setTop g) target := by
  obtain ⟨cl, A, rfl⟩ := F
  exact X.baloadBytes hx (by rw [eT]; exact A.1) (State.isArrayOf_alike hZ.alike A.2.1) A.2.2 (own_inb hj hv).1 (own_inb hj hv).2 hg hs hd _ k
theorem own_baloadZ (X : Stand p l e R s m args below meth c T locs cells slots) (hx : p.tables.exec = Jvm.exec) (hZ : Z.Warmed39 s.vm) (eT : T.heap = h) (F : OwnA Z h a .boolean vs) {j : Int32} (hj : ¬ j < 0) (hv : vs[j.toNatClampNeg]? = some v) {g : JFrame} (hg : g.method = m) {rest : List Value} (hs : g.stack = .int j :: .ref a :: rest)
    (hd : decode c.code g.pc = .ok (.baload, 1)) (target : State) (k : Steps p.tables e below (T.setTop { g with pc := g.pc + 1, stack := v :: rest }) target) : Steps p.tables e below (T.setTop g) target := by
  obtain ⟨cl, A, rfl⟩ := F
  exact X.baloadBooleans hx (by rw [eT]; exact A.1) (State.isArrayOf_alike hZ.alike A.2.1) A.2.2 (own_inb hj hv).1 (own_inb hj hv).2 hg hs hd _ k
theorem own_aaload (X : Stand p l e R s m args below meth c T locs cells slots) (hx : p.tables.exec = Jvm.exec) (hZ : Z.Warmed39 s.vm) (eT : T.heap = h) (F : OwnA Z h a ty vs) (hty : ty.isReference = true) {j : Int32} (hj : ¬ j < 0) (hv : vs[j.toNatClampNeg]? = some v) {g : JFrame} (hg : g.method = m) {rest : List Value} (hs : g.stack = .int j :: .ref a :: rest)
    (hd : decode c.code g.pc = .ok (.aaload, 1)) (target : State) (k : Steps p.tables e below (T.setTop { g with pc := g.pc + 1, stack := v :: rest }) target) : Steps p.tables e below (T.setTop g) target := by
  obtain ⟨cl, A, rfl⟩ := F
  exact X.aaload hx (by rw [eT]; exact A.1) (State.isArrayOf_alike hZ.alike A.2.1) hty A.2.2 (own_inb hj hv).1 (own_inb hj hv).2 hg hs hd _ k
theorem own_inl {cl : Cell} {j : Int32} (hj : ¬ j < 0) (hl : j.toNatClampNeg < cl.slots.toList.length) : ¬ (j < 0 ∨ cl.slots.size ≤ j.toNatClampNeg) := by
  rw [Array.length_toList] at hl
  exact fun q => q.elim hj fun q => absurd hl (Nat.not_lt.mpr q)
theorem own_stI (X : Stand p l e R s m args below meth c T locs cells slots) (hx : p.tables.exec = Jvm.exec) (hZ : Z.Warmed39 s.vm) (eT : T.heap = h) (F : OwnA Z h a .int vs) {j x : Int32} (hj : ¬ j < 0) (hl : j.toNatClampNeg < vs.length) {g : JFrame} (hg : g.method = m) {rest : List Value} (hs : g.stack = .int x :: .int j :: .ref a :: rest) (hd : decode c.code g.pc = .ok (.iastore, 1)) :
    ∃ T' h', Stand p l e R s m args below meth c T' (locs ++ [⟨a, j.toNatClampNeg⟩]) cells slots ∧ T'.heap = h' ∧ Wr h h' a j.toNatClampNeg (.int x) ∧ ∀ target, Steps p.tables e below (T'.setTop { g with pc := g.pc + 1, stack := rest }) target → Steps p.tables e below (T.setTop g) target := by
  obtain ⟨cl, A, rfl⟩ := F
  exact stI X hx hZ eT A (own_inl hj hl) hg hs hd
theorem own_stJ (X : Stand p l e R s m args below meth c T locs cells slots) (hx : p.tables.exec = Jvm.exec) (hZ : Z.Warmed39 s.vm) (eT : T.heap = h) (F : OwnA Z h a .long vs) {j : Int32} {x : Int64} (hj : ¬ j < 0) (hl : j.toNatClampNeg < vs.length) {g : JFrame} (hg : g.method = m) {rest : List Value} (hs : g.stack = .long x :: .int j :: .ref a :: rest) (hd : decode c.code g.pc = .ok (.lastore, 1)) :
    ∃ T' h', Stand p l e R s m args below meth c T' (locs ++ [⟨a, j.toNatClampNeg⟩]) cells slots ∧ T'.heap = h' ∧ Wr h h' a j.toNatClampNeg (.long x) ∧ ∀ target, Steps p.tables e below (T'.setTop { g with pc := g.pc + 1, stack := rest }) target → Steps p.tables e below (T.setTop g) target := by
  obtain ⟨cl, A, rfl⟩ := F
  exact stJ X hx hZ eT A (own_inl hj hl) hg hs hd
theorem own_stB (X : Stand p l e R s m args below meth c T locs cells slots) (hx : p.tables.exec = Jvm.exec) (hZ : Z.Warmed39 s.vm) (eT : T.heap = h) (F : OwnA Z h a .byte vs) {j x : Int32} (hj : ¬ j < 0) (hl : j.toNatClampNeg < vs.length) {g : JFrame} (hg : g.method = m) {rest : List Value} (hs : g.stack = .int x :: .int j :: .ref a :: rest) (hd : decode c.code g.pc = .ok (.bastore, 1)) :
    ∃ T' h', Stand p l e R s m args below meth c T' (locs ++ [⟨a, j.toNatClampNeg⟩]) cells slots ∧ T'.heap = h' ∧ Wr h h' a j.toNatClampNeg (.int x.toInt8.toInt32) ∧ ∀ target, Steps p.tables e below (T'.setTop { g with pc := g.pc + 1, stack := rest }) target → Steps p.tables e below (T.setTop g) target := by
  obtain ⟨cl, A, rfl⟩ := F
  exact stB X hx hZ eT A (own_inl hj hl) hg hs hd
theorem own_stC (X : Stand p l e R s m args below meth c T locs cells slots) (hx : p.tables.exec = Jvm.exec) (hZ : Z.Warmed39 s.vm) (eT : T.heap = h) (F : OwnA Z h a .char vs) {j x : Int32} (hj : ¬ j < 0) (hl : j.toNatClampNeg < vs.length) {g : JFrame} (hg : g.method = m) {rest : List Value} (hs : g.stack = .int x :: .int j :: .ref a :: rest) (hd : decode c.code g.pc = .ok (.castore, 1)) :
    ∃ T' h', Stand p l e R s m args below meth c T' (locs ++ [⟨a, j.toNatClampNeg⟩]) cells slots ∧ T'.heap = h' ∧ Wr h h' a j.toNatClampNeg (.int x.toUInt32.toUInt16.toUInt32.toInt32) ∧ ∀ target, Steps p.tables e below (T'.setTop { g with pc := g.pc + 1, stack := rest }) target → Steps p.tables e below (T.setTop g) target := by
  obtain ⟨cl, A, rfl⟩ := F
  exact stC X hx hZ eT A (own_inl hj hl) hg hs hd
end Own
def own_b (x : Int32) : Int64 := if x = (0 : Int32) then (0 : Int64) else (1 : Int64)
theorem own_b1 {x : Int32} (h : ¬ x = (0 : Int32)) : own_b x = (1 : Int64) := if_neg h
theorem own_b0 {x : Int32} (h : x = (0 : Int32)) : own_b x = (0 : Int64) := if_pos h
theorem own_z {y z : Int64} : (0 : Int64) + y + z = y + z := by rw [Int64.zero_add]
theorem d1_0 : decode prog_3_method_1_code 0 = .ok (.aload_n 0, 1) := by decide +kernel
theorem d1_1 : decode prog_3_method_1_code 1 = .ok (.invokespecial 1, 3) := by decide +kernel
theorem d1_4 : decode prog_3_method_1_code 4 = .ok (.return_, 1) := by decide +kernel
theorem pn_1 : plainName "com/example/veindb/veindb/bench/MadeChain" = true := by first | (simp [plainName, overriddenIn]; done) | decide +kernel
theorem ef_rm1 (m : MethodId) (x0 : Addr) : entryFrame m #[(.ref x0)] 1 = mkF m 0 #[.val (.ref x0)] [] := by first | (simp [entryFrame, mkF, argsToLocals, Value.category]; done) | rfl
def Q_rm1 (Z : State) (a1 : Addr) (h0 : Heap) (n0 : Nat) (v : Option Value) (h : Heap) (L : List Loc) : Prop := v = none ∧ Fr n0 L ∧ h = h0
set_option maxRecDepth 65536 in
set_option maxHeartbeats 40000000 in
theorem rm1 (l : Launch) (Z : State) (a0 : Array Value) (hw : ∀ d ∈ tables_1, d.before a0 Z = true) (ws : List Jvm.Cond) (a1 : Addr) (h0 : Heap) (n0 : Nat) (Zn : n0 ≤ h0.size) :
    MetFree l (⟨"com/example/veindb/veindb/bench/MadeChain", "<init>", "()V"⟩ : MethodName) (head1 (Jvm.Cond.code (⟨"com/example/veindb/veindb/bench/MadeChain", "<init>", "()V"⟩ : MethodName) prog_3_method_1_code 1 none :: ws) ({ frames := 1, cells := 0, slots := 0, locals := 12 } : Room)) (fun a U => a = #[(.ref a1)] ∧ Z.Warmed39 U.vm ∧ U.heap = h0) (fun _ _ _ _ _ => True) (fun _ U o U' => ∃ v L, o = .returned v ∧ (Q_rm1 Z a1 h0 n0) v U'.heap L ∧ FrameEnd U o U' L ({ frames := 1, cells := 0, slots := 0, locals := 12 } : Room).cells ({ frames := 1, cells := 0, slots := 0, locals := 12 } : Room).slots) := by
  refine MetFree.of_bodySF (plainFor_of_name pn_1) hisR ?_
  intro p e s m args below meth c s₁ Bd hml0 hP hK
  obtain ⟨rfl, hZ, hh⟩ := hP
  have hx := Bd.exec
  have hby := Bd.bytes
  have hml : c.maxLocals = 1 := hml0
  have hown : s.vm.findClass "com/example/veindb/veindb/bench/MadeChain" = some m.cls := findClass_of_methodNamed Bd.named
  have hnm := (name_of_methodNamed Bd.named Bd.method).1
  have hlk : meth.locks = false := BodyLoose.notSynchronized Bd
  have X0 : Stand p l e ({ frames := 1, cells := 0, slots := 0, locals := 12 } : Room) s m #[(.ref a1)] below meth c s₁ [] 0 0 := Stand.of_body Bd
  have e0 : s₁.heap = h0 := by rw [← hh, Bd.state]; rfl
  have N := Fr.nil n0
  have K := Keep.refl h0 []
  refine own_start (cl := ({ frames := 1, cells := 0, slots := 0, locals := 12 } : Room).cells) (sl := ({ frames := 1, cells := 0, slots := 0, locals := 12 } : Room).slots) (Q := (Q_rm1 Z a1 h0 n0)) (ef_rm1 m a1) ?_
  refine own_by (S' := (s₁.setTop (mkF m 1 #[.val (.ref a1)] [(.ref a1)]))) (fun _ k => XS.aloadN X0.here hx rfl (hb hby d1_0) rfl rfl k) ?_
  obtain ⟨T1, X1, e1, st1⟩ := initO X0 hx hZ hown (hw _ (List.mem_of_getElem? (i := 6) rfl)) (hw _ (List.mem_of_getElem? (i := 7) rfl)) (hw _ (List.mem_of_getElem? (i := 8) rfl)) e0 (g := (mkF m 1 #[.val (.ref a1)] [(.ref a1)])) rfl (by rw [hml]; rfl) rfl (hb hby d1_1) (by decide) (W := 0) (by show 2 * 0 + _ ≤ _; exact Nat.le_of_eq rfl) (by decide)
  refine own_by (S' := (T1.setTop (mkF m 4 #[.val (.ref a1)] []))) st1 ?_
  exact own_ret0 X1 hx Bd.returns (hb hby d1_4) hlk (by decide : 0 ≤ _) (by decide : 0 ≤ _) (by rw [e1]; exact ⟨rfl, N, rfl⟩)
theorem d3_0 : decode prog_3_method_2_code 0 = .ok (.aload_n 0, 1) := by decide +kernel
theorem d3_1 : decode prog_3_method_2_code 1 = .ok (.dup, 1) := by decide +kernel
theorem d3_2 : decode prog_3_method_2_code 2 = .ok (.getfield 7, 3) := by decide +kernel
theorem d3_5 : decode prog_3_method_2_code 5 = .ok (.lconst 1, 1) := by decide +kernel
theorem d3_6 : decode prog_3_method_2_code 6 = .ok (.ladd, 1) := by decide +kernel
theorem d3_7 : decode prog_3_method_2_code 7 = .ok (.putfield 7, 3) := by decide +kernel
theorem d3_10 : decode prog_3_method_2_code 10 = .ok (.iload 5, 2) := by decide +kernel
theorem d3_12 : decode prog_3_method_2_code 12 = .ok (.ifCond .eq 13, 3) := by decide +kernel
theorem d3_15 : decode prog_3_method_2_code 15 = .ok (.aload_n 0, 1) := by decide +kernel
theorem d3_16 : decode prog_3_method_2_code 16 = .ok (.dup, 1) := by decide +kernel
theorem d3_17 : decode prog_3_method_2_code 17 = .ok (.getfield 13, 3) := by decide +kernel
theorem d3_20 : decode prog_3_method_2_code 20 = .ok (.lconst 1, 1) := by decide +kernel
theorem d3_21 : decode prog_3_method_2_code 21 = .ok (.ladd, 1) := by decide +kernel
theorem d3_22 : decode prog_3_method_2_code 22 = .ok (.putfield 13, 3) := by decide +kernel
theorem d3_25 : decode prog_3_method_2_code 25 = .ok (.iload 6, 2) := by decide +kernel
theorem d3_27 : decode prog_3_method_2_code 27 = .ok (.ifCond .eq 13, 3) := by decide +kernel
theorem d3_30 : decode prog_3_method_2_code 30 = .ok (.aload_n 0, 1) := by decide +kernel
theorem d3_31 : decode prog_3_method_2_code 31 = .ok (.dup, 1) := by decide +kernel
theorem d3_32 : decode prog_3_method_2_code 32 = .ok (.getfield 16, 3) := by decide +kernel
theorem d3_35 : decode prog_3_method_2_code 35 = .ok (.lconst 1, 1) := by decide +kernel
theorem d3_36 : decode prog_3_method_2_code 36 = .ok (.ladd, 1) := by decide +kernel
theorem d3_37 : decode prog_3_method_2_code 37 = .ok (.putfield 16, 3) := by decide +kernel
theorem d3_40 : decode prog_3_method_2_code 40 = .ok (.aload_n 0, 1) := by decide +kernel
theorem d3_41 : decode prog_3_method_2_code 41 = .ok (.dup, 1) := by decide +kernel
theorem d3_42 : decode prog_3_method_2_code 42 = .ok (.getfield 19, 3) := by decide +kernel
theorem d3_45 : decode prog_3_method_2_code 45 = .ok (.iload_n 1, 1) := by decide +kernel
theorem d3_46 : decode prog_3_method_2_code 46 = .ok (.i2l, 1) := by decide +kernel
theorem d3_47 : decode prog_3_method_2_code 47 = .ok (.ladd, 1) := by decide +kernel
theorem d3_48 : decode prog_3_method_2_code 48 = .ok (.putfield 19, 3) := by decide +kernel
theorem d3_51 : decode prog_3_method_2_code 51 = .ok (.aload_n 0, 1) := by decide +kernel
theorem d3_52 : decode prog_3_method_2_code 52 = .ok (.dup, 1) := by decide +kernel
theorem d3_53 : decode prog_3_method_2_code 53 = .ok (.getfield 22, 3) := by decide +kernel
theorem d3_56 : decode prog_3_method_2_code 56 = .ok (.iload_n 2, 1) := by decide +kernel
theorem d3_57 : decode prog_3_method_2_code 57 = .ok (.i2l, 1) := by decide +kernel
theorem d3_58 : decode prog_3_method_2_code 58 = .ok (.ladd, 1) := by decide +kernel
theorem d3_59 : decode prog_3_method_2_code 59 = .ok (.putfield 22, 3) := by decide +kernel
theorem d3_62 : decode prog_3_method_2_code 62 = .ok (.aload_n 0, 1) := by decide +kernel
theorem d3_63 : decode prog_3_method_2_code 63 = .ok (.dup, 1) := by decide +kernel
theorem d3_64 : decode prog_3_method_2_code 64 = .ok (.getfield 25, 3) := by decide +kernel
theorem d3_67 : decode prog_3_method_2_code 67 = .ok (.iload_n 3, 1) := by decide +kernel
theorem d3_68 : decode prog_3_method_2_code 68 = .ok (.i2l, 1) := by decide +kernel
theorem d3_69 : decode prog_3_method_2_code 69 = .ok (.ladd, 1) := by decide +kernel
theorem d3_70 : decode prog_3_method_2_code 70 = .ok (.putfield 25, 3) := by decide +kernel
theorem d3_73 : decode prog_3_method_2_code 73 = .ok (.aload_n 0, 1) := by decide +kernel
theorem d3_74 : decode prog_3_method_2_code 74 = .ok (.dup, 1) := by decide +kernel
theorem d3_75 : decode prog_3_method_2_code 75 = .ok (.getfield 28, 3) := by decide +kernel
theorem d3_78 : decode prog_3_method_2_code 78 = .ok (.iload 4, 2) := by decide +kernel
theorem d3_80 : decode prog_3_method_2_code 80 = .ok (.i2l, 1) := by decide +kernel
theorem d3_81 : decode prog_3_method_2_code 81 = .ok (.ladd, 1) := by decide +kernel
theorem d3_82 : decode prog_3_method_2_code 82 = .ok (.putfield 28, 3) := by decide +kernel
theorem d3_85 : decode prog_3_method_2_code 85 = .ok (.return_, 1) := by decide +kernel
theorem pn_3 : plainName "com/example/veindb/veindb/bench/MadeChain" = true := by first | (simp [plainName, overriddenIn]; done) | decide +kernel
theorem ef_rm3 (m : MethodId) (x0 : Addr) (x1 : Int32) (x2 : Int32) (x3 : Int32) (x4 : Int32) (x5 : Int32) (x6 : Int32) : entryFrame m #[(.ref x0), (.int x1), (.int x2), (.int x3), (.int x4), (.int x5), (.int x6)] 7 = mkF m 0 #[.val (.ref x0), .val (.int x1), .val (.int x2), .val (.int x3), .val (.int x4), .val (.int x5), .val (.int x6)] [] := by first | (simp [entryFrame, mkF, argsToLocals, Value.category]; done) | rfl
def Q_rm3 (Z : State) (a1 : Addr) (p0 p1 p2 p3 p4 p5 : Int32) (q0 q1 q2 q3 q4 q5 q6 : Int64) (h0 : Heap) (n0 : Nat) (v : Option Value) (h : Heap) (L : List Loc) : Prop := v = none ∧ Fr n0 L ∧ Keep h0 h [a1] ∧ Fld Z h a1 "com/example/veindb/veindb/bench/MadeChain" "mTransactions" "J" (.long (q0 + 1)) ∧ Fld Z h a1 "com/example/veindb/veindb/bench/MadeChain" "mWitnessTransactions" "J" (.long (q1 + own_b p4)) ∧ Fld Z h a1 "com/example/veindb/veindb/bench/MadeChain" "mHotHistory" "J" (.long (q2 + own_b p5)) ∧ Fld Z h a1 "com/example/veindb/veindb/bench/MadeChain" "mInputs" "J" (.long (q3 + p0.toInt64)) ∧ Fld Z h a1 "com/example/veindb/veindb/bench/MadeChain" "mOldInputs" "J" (.long (q4 + p1.toInt64)) ∧ Fld Z h a1 "com/example/veindb/veindb/bench/MadeChain" "mOutputs" "J" (.long (q5 + p2.toInt64)) ∧ Fld Z h a1 "com/example/veindb/veindb/bench/MadeChain" "mOpReturnOutputs" "J" (.long (q6 + p3.toInt64)) ∧ Fld Z h a1 "com/example/veindb/veindb/bench/MadeChain" "mBlocks" "I" (.int (0 : Int32)) ∧ Fld Z h a1 "com/example/veindb/veindb/bench/MadeChain" "mDistinctScripts" "J" (.long (0 : Int64))
set_option maxRecDepth 65536 in
set_option maxHeartbeats 40000000 in
theorem rm3 (l : Launch) (Z : State) (a0 : Array Value) (hw : ∀ d ∈ tables_1, d.before a0 Z = true) (ws : List Jvm.Cond) (a1 : Addr) (p0 p1 p2 p3 p4 p5 : Int32) (q0 q1 q2 q3 q4 q5 q6 : Int64) (h0 : Heap) (n0 : Nat) (Zn : n0 ≤ h0.size) (E_a1 : Exa Z h0 a1 "com/example/veindb/veindb/bench/MadeChain") (F_mTransactions : Fld Z h0 a1 "com/example/veindb/veindb/bench/MadeChain" "mTransactions" "J" (.long q0)) (F_mWitnessTransactions : Fld Z h0 a1 "com/example/veindb/veindb/bench/MadeChain" "mWitnessTransactions" "J" (.long q1)) (F_mHotHistory : Fld Z h0 a1 "com/example/veindb/veindb/bench/MadeChain" "mHotHistory" "J" (.long q2)) (F_mInputs : Fld Z h0 a1 "com/example/veindb/veindb/bench/MadeChain" "mInputs" "J" (.long q3)) (F_mOldInputs : Fld Z h0 a1 "com/example/veindb/veindb/bench/MadeChain" "mOldInputs" "J" (.long q4)) (F_mOutputs : Fld Z h0 a1 "com/example/veindb/veindb/bench/MadeChain" "mOutputs" "J" (.long q5)) (F_mOpReturnOutputs : Fld Z h0 a1 "com/example/veindb/veindb/bench/MadeChain" "mOpReturnOutputs" "J" (.long q6)) (F_mBlocks : Fld Z h0 a1 "com/example/veindb/veindb/bench/MadeChain" "mBlocks" "I" (.int (0 : Int32))) (F_mDistinctScripts : Fld Z h0 a1 "com/example/veindb/veindb/bench/MadeChain" "mDistinctScripts" "J" (.long (0 : Int64))) (o_a1 : n0 ≤ a1) :
    MetFree l (⟨"com/example/veindb/veindb/bench/MadeChain", "countTransaction", "(IIIIZZ)V"⟩ : MethodName) (head1 (Jvm.Cond.code (⟨"com/example/veindb/veindb/bench/MadeChain", "countTransaction", "(IIIIZZ)V"⟩ : MethodName) prog_3_method_2_code 7 none :: ws) ({ frames := 0, cells := 0, slots := 0, locals := 0 } : Room)) (fun a U => a = #[(.ref a1), (.int p0), (.int p1), (.int p2), (.int p3), (.int p4), (.int p5)] ∧ Z.Warmed39 U.vm ∧ U.heap = h0) (fun _ _ _ _ _ => True) (fun _ U o U' => ∃ v L, o = .returned v ∧ (Q_rm3 Z a1 p0 p1 p2 p3 p4 p5 q0 q1 q2 q3 q4 q5 q6 h0 n0) v U'.heap L ∧ FrameEnd U o U' L ({ frames := 0, cells := 0, slots := 0, locals := 0 } : Room).cells ({ frames := 0, cells := 0, slots := 0, locals := 0 } : Room).slots) := by
  refine MetFree.of_bodySF (plainFor_of_name pn_3) hisR ?_
  intro p e s m args below meth c s₁ Bd hml0 hP hK
  obtain ⟨rfl, hZ, hh⟩ := hP
  have hx := Bd.exec
  have hby := Bd.bytes
  have hml : c.maxLocals = 7 := hml0
  have hown : s.vm.findClass "com/example/veindb/veindb/bench/MadeChain" = some m.cls := findClass_of_methodNamed Bd.named
  have hnm := (name_of_methodNamed Bd.named Bd.method).1
  have hlk : meth.locks = false := BodyLoose.notSynchronized Bd
  have X0 : Stand p l e ({ frames := 0, cells := 0, slots := 0, locals := 0 } : Room) s m #[(.ref a1), (.int p0), (.int p1), (.int p2), (.int p3), (.int p4), (.int p5)] below meth c s₁ [] 0 0 := Stand.of_body Bd
  have e0 : s₁.heap = h0 := by rw [← hh, Bd.state]; rfl
  have N := Fr.nil n0
  have K := Keep.refl h0 [a1]
  refine own_start (cl := ({ frames := 0, cells := 0, slots := 0, locals := 0 } : Room).cells) (sl := ({ frames := 0, cells := 0, slots := 0, locals := 0 } : Room).slots) (Q := (Q_rm3 Z a1 p0 p1 p2 p3 p4 p5 q0 q1 q2 q3 q4 q5 q6 h0 n0)) (ef_rm3 m a1 p0 p1 p2 p3 p4 p5) ?_
  refine own_by (S' := (s₁.setTop (mkF m 1 #[.val (.ref a1), .val (.int p0), .val (.int p1), .val (.int p2), .val (.int p3), .val (.int p4), .val (.int p5)] [(.ref a1)]))) (fun _ k => XS.aloadN X0.here hx rfl (hb hby d3_0) rfl rfl k) ?_
  refine own_by (S' := (s₁.setTop (mkF m 2 #[.val (.ref a1), .val (.int p0), .val (.int p1), .val (.int p2), .val (.int p3), .val (.int p4), .val (.int p5)] [(.ref a1), (.ref a1)]))) (fun _ k => XS.dup X0.here hx rfl (hb hby d3_1) rfl rfl k) ?_
  obtain ⟨T2, X2, e2, st2⟩ := getF X0 hx hZ hown (host := "") (Or.inl (hw _ (List.mem_of_getElem? (i := 14) rfl))) Via.refl e0 F_mTransactions (g := (mkF m 2 #[.val (.ref a1), .val (.int p0), .val (.int p1), .val (.int p2), .val (.int p3), .val (.int p4), .val (.int p5)] [(.ref a1), (.ref a1)])) rfl rfl (hb hby d3_2)
  refine own_by (S' := (T2.setTop (mkF m 5 #[.val (.ref a1), .val (.int p0), .val (.int p1), .val (.int p2), .val (.int p3), .val (.int p4), .val (.int p5)] [(.long q0), (.ref a1)]))) st2 ?_
  refine own_by (S' := (T2.setTop (mkF m 6 #[.val (.ref a1), .val (.int p0), .val (.int p1), .val (.int p2), .val (.int p3), .val (.int p4), .val (.int p5)] [(.long (1 : Int64)), (.long q0), (.ref a1)]))) (fun _ k => XS.lconst X2.here hx rfl (hb hby d3_5) k) ?_
  refine own_by (S' := (T2.setTop (mkF m 7 #[.val (.ref a1), .val (.int p0), .val (.int p1), .val (.int p2), .val (.int p3), .val (.int p4), .val (.int p5)] [(.long (q0 + (1 : Int64))), (.ref a1)]))) (fun _ k => XS.ladd X2.here hx rfl (hb hby d3_6) rfl k) ?_
  obtain ⟨T3, h3, X3, e3, W3, st3⟩ := putF X2 hx hZ hown (host := "") (Or.inl (hw _ (List.mem_of_getElem? (i := 14) rfl))) Via.refl e2 F_mTransactions E_a1 (Or.inl (hw _ (List.mem_of_getElem? (i := 15) rfl))) (hw _ (List.mem_of_getElem? (i := 1) rfl)) (ty := .long) (by decide) rfl rfl (g := (mkF m 7 #[.val (.ref a1), .val (.int p0), .val (.int p1), .val (.int p2), .val (.int p3), .val (.int p4), .val (.int p5)] [(.long (q0 + (1 : Int64))), (.ref a1)])) rfl rfl (hb hby d3_7)
  have N := Fr.snoc X3 N o_a1
  have E_a1 := E_a1.wr W3
  have F_mTransactions := F_mTransactions.same W3
  have F_mWitnessTransactions := F_mWitnessTransactions.other W3 (Or.inr (slot_ne (Or.inl (hw _ (List.mem_of_getElem? (i := 17) rfl))) (Or.inl (hw _ (List.mem_of_getElem? (i := 15) rfl))) (by decide) (t := .long) (t' := .long) (by decide) (by decide)))
  have F_mHotHistory := F_mHotHistory.other W3 (Or.inr (slot_ne (Or.inl (hw _ (List.mem_of_getElem? (i := 19) rfl))) (Or.inl (hw _ (List.mem_of_getElem? (i := 15) rfl))) (by decide) (t := .long) (t' := .long) (by decide) (by decide)))
  have F_mInputs := F_mInputs.other W3 (Or.inr (slot_ne (Or.inl (hw _ (List.mem_of_getElem? (i := 21) rfl))) (Or.inl (hw _ (List.mem_of_getElem? (i := 15) rfl))) (by decide) (t := .long) (t' := .long) (by decide) (by decide)))
  have F_mOldInputs := F_mOldInputs.other W3 (Or.inr (slot_ne (Or.inl (hw _ (List.mem_of_getElem? (i := 23) rfl))) (Or.inl (hw _ (List.mem_of_getElem? (i := 15) rfl))) (by decide) (t := .long) (t' := .long) (by decide) (by decide)))
  have F_mOutputs := F_mOutputs.other W3 (Or.inr (slot_ne (Or.inl (hw _ (List.mem_of_getElem? (i := 25) rfl))) (Or.inl (hw _ (List.mem_of_getElem? (i := 15) rfl))) (by decide) (t := .long) (t' := .long) (by decide) (by decide)))
  have F_mOpReturnOutputs := F_mOpReturnOutputs.other W3 (Or.inr (slot_ne (Or.inl (hw _ (List.mem_of_getElem? (i := 27) rfl))) (Or.inl (hw _ (List.mem_of_getElem? (i := 15) rfl))) (by decide) (t := .long) (t' := .long) (by decide) (by decide)))
  have F_mBlocks := F_mBlocks.other W3 (Or.inr (slot_ne (Or.inl (hw _ (List.mem_of_getElem? (i := 74) rfl))) (Or.inl (hw _ (List.mem_of_getElem? (i := 15) rfl))) (by decide) (t := .int) (t' := .long) (by decide) (by decide)))
  have F_mDistinctScripts := F_mDistinctScripts.other W3 (Or.inr (slot_ne (Or.inl (hw _ (List.mem_of_getElem? (i := 81) rfl))) (Or.inl (hw _ (List.mem_of_getElem? (i := 15) rfl))) (by decide) (t := .long) (t' := .long) (by decide) (by decide)))
  have Zn : n0 ≤ _ := Nat.le_trans Zn (Nat.le_of_eq W3.size.symm)
  have K := K.wr W3 (Or.inl (List.mem_of_getElem? (i := 0) rfl))
  refine own_by (S' := (T3.setTop (mkF m 10 #[.val (.ref a1), .val (.int p0), .val (.int p1), .val (.int p2), .val (.int p3), .val (.int p4), .val (.int p5)] []))) st3 ?_
  refine own_by (S' := (T3.setTop (mkF m 12 #[.val (.ref a1), .val (.int p0), .val (.int p1), .val (.int p2), .val (.int p3), .val (.int p4), .val (.int p5)] [(.int p4)]))) (fun _ k => XS.iload X3.here hx rfl (hb hby d3_10) rfl k) ?_
  by_cases hw1 : p4 = (0 : Int32)
  · refine own_by (S' := (T3.setTop (mkF m 25 #[.val (.ref a1), .val (.int p0), .val (.int p1), .val (.int p2), .val (.int p3), .val (.int p4), .val (.int p5)] []))) (fun _ k => XS.ifYes X3.here hx rfl (pc0 := 12) (pc' := 25) rfl (hb hby d3_12) rfl ((if0 _ _).trans (teq (hw1 : p4 = (0 : Int32))).1) (by decide) (by decide) k) ?_
    refine own_by (S' := (T3.setTop (mkF m 27 #[.val (.ref a1), .val (.int p0), .val (.int p1), .val (.int p2), .val (.int p3), .val (.int p4), .val (.int p5)] [(.int p5)]))) (fun _ k => XS.iload X3.here hx rfl (hb hby d3_25) rfl k) ?_
    by_cases hh1 : p5 = (0 : Int32)
    · refine own_by (S' := (T3.setTop (mkF m 40 #[.val (.ref a1), .val (.int p0), .val (.int p1), .val (.int p2), .val (.int p3), .val (.int p4), .val (.int p5)] []))) (fun _ k => XS.ifYes X3.here hx rfl (pc0 := 27) (pc' := 40) rfl (hb hby d3_27) rfl ((if0 _ _).trans (teq (hh1 : p5 = (0 : Int32))).1) (by decide) (by decide) k) ?_
      refine own_by (S' := (T3.setTop (mkF m 41 #[.val (.ref a1), .val (.int p0), .val (.int p1), .val (.int p2), .val (.int p3), .val (.int p4), .val (.int p5)] [(.ref a1)]))) (fun _ k => XS.aloadN X3.here hx rfl (hb hby d3_40) rfl rfl k) ?_
      refine own_by (S' := (T3.setTop (mkF m 42 #[.val (.ref a1), .val (.int p0), .val (.int p1), .val (.int p2), .val (.int p3), .val (.int p4), .val (.int p5)] [(.ref a1), (.ref a1)]))) (fun _ k => XS.dup X3.here hx rfl (hb hby d3_41) rfl rfl k) ?_
      obtain ⟨T4, X4, e4, st4⟩ := getF X3 hx hZ hown (host := "") (Or.inl (hw _ (List.mem_of_getElem? (i := 20) rfl))) Via.refl e3 F_mInputs (g := (mkF m 42 #[.val (.ref a1), .val (.int p0), .val (.int p1), .val (.int p2), .val (.int p3), .val (.int p4), .val (.int p5)] [(.ref a1), (.ref a1)])) rfl rfl (hb hby d3_42)
      refine own_by (S' := (T4.setTop (mkF m 45 #[.val (.ref a1), .val (.int p0), .val (.int p1), .val (.int p2), .val (.int p3), .val (.int p4), .val (.int p5)] [(.long q3), (.ref a1)]))) st4 ?_
      refine own_by (S' := (T4.setTop (mkF m 46 #[.val (.ref a1), .val (.int p0), .val (.int p1), .val (.int p2), .val (.int p3), .val (.int p4), .val (.int p5)] [(.int p0), (.long q3), (.ref a1)]))) (fun _ k => XS.iloadN X4.here hx rfl (hb hby d3_45) rfl k) ?_
      refine own_by (S' := (T4.setTop (mkF m 47 #[.val (.ref a1), .val (.int p0), .val (.int p1), .val (.int p2), .val (.int p3), .val (.int p4), .val (.int p5)] [(.long (p0.toInt64)), (.long q3), (.ref a1)]))) (fun _ k => XS.i2l X4.here hx rfl (hb hby d3_46) rfl k) ?_
      refine own_by (S' := (T4.setTop (mkF m 48 #[.val (.ref a1), .val (.int p0), .val (.int p1), .val (.int p2), .val (.int p3), .val (.int p4), .val (.int p5)] [(.long (q3 + (p0.toInt64))), (.ref a1)]))) (fun _ k => XS.ladd X4.here hx rfl (hb hby d3_47) rfl k) ?_
      obtain ⟨T5, h5, X5, e5, W5, st5⟩ := putF X4 hx hZ hown (host := "") (Or.inl (hw _ (List.mem_of_getElem? (i := 20) rfl))) Via.refl e4 F_mInputs E_a1 (Or.inl (hw _ (List.mem_of_getElem? (i := 21) rfl))) (hw _ (List.mem_of_getElem? (i := 1) rfl)) (ty := .long) (by decide) rfl rfl (g := (mkF m 48 #[.val (.ref a1), .val (.int p0), .val (.int p1), .val (.int p2), .val (.int p3), .val (.int p4), .val (.int p5)] [(.long (q3 + (p0.toInt64))), (.ref a1)])) rfl rfl (hb hby d3_48)
      have N := Fr.snoc X5 N o_a1
      have E_a1 := E_a1.wr W5
      have F_mTransactions := F_mTransactions.other W5 (Or.inr (slot_ne (Or.inl (hw _ (List.mem_of_getElem? (i := 15) rfl))) (Or.inl (hw _ (List.mem_of_getElem? (i := 21) rfl))) (by decide) (t := .long) (t' := .long) (by decide) (by decide)))
      have F_mWitnessTransactions := F_mWitnessTransactions.other W5 (Or.inr (slot_ne (Or.inl (hw _ (List.mem_of_getElem? (i := 17) rfl))) (Or.inl (hw _ (List.mem_of_getElem? (i := 21) rfl))) (by decide) (t := .long) (t' := .long) (by decide) (by decide)))
      have F_mHotHistory := F_mHotHistory.other W5 (Or.inr (slot_ne (Or.inl (hw _ (List.mem_of_getElem? (i := 19) rfl))) (Or.inl (hw _ (List.mem_of_getElem? (i := 21) rfl))) (by decide) (t := .long) (t' := .long) (by decide) (by decide)))
      have F_mInputs := F_mInputs.same W5
      have F_mOldInputs := F_mOldInputs.other W5 (Or.inr (slot_ne (Or.inl (hw _ (List.mem_of_getElem? (i := 23) rfl))) (Or.inl (hw _ (List.mem_of_getElem? (i := 21) rfl))) (by decide) (t := .long) (t' := .long) (by decide) (by decide)))
      have F_mOutputs := F_mOutputs.other W5 (Or.inr (slot_ne (Or.inl (hw _ (List.mem_of_getElem? (i := 25) rfl))) (Or.inl (hw _ (List.mem_of_getElem? (i := 21) rfl))) (by decide) (t := .long) (t' := .long) (by decide) (by decide)))
      have F_mOpReturnOutputs := F_mOpReturnOutputs.other W5 (Or.inr (slot_ne (Or.inl (hw _ (List.mem_of_getElem? (i := 27) rfl))) (Or.inl (hw _ (List.mem_of_getElem? (i := 21) rfl))) (by decide) (t := .long) (t' := .long) (by decide) (by decide)))
      have F_mBlocks := F_mBlocks.other W5 (Or.inr (slot_ne (Or.inl (hw _ (List.mem_of_getElem? (i := 74) rfl))) (Or.inl (hw _ (List.mem_of_getElem? (i := 21) rfl))) (by decide) (t := .int) (t' := .long) (by decide) (by decide)))
      have F_mDistinctScripts := F_mDistinctScripts.other W5 (Or.inr (slot_ne (Or.inl (hw _ (List.mem_of_getElem? (i := 81) rfl))) (Or.inl (hw _ (List.mem_of_getElem? (i := 21) rfl))) (by decide) (t := .long) (t' := .long) (by decide) (by decide)))
      have Zn : n0 ≤ _ := Nat.le_trans Zn (Nat.le_of_eq W5.size.symm)
      have K := K.wr W5 (Or.inl (List.mem_of_getElem? (i := 0) rfl))
      refine own_by (S' := (T5.setTop (mkF m 51 #[.val (.ref a1), .val (.int p0), .val (.int p1), .val (.int p2), .val (.int p3), .val (.int p4), .val (.int p5)] []))) st5 ?_
      refine own_by (S' := (T5.setTop (mkF m 52 #[.val (.ref a1), .val (.int p0), .val (.int p1), .val (.int p2), .val (.int p3), .val (.int p4), .val (.int p5)] [(.ref a1)]))) (fun _ k => XS.aloadN X5.here hx rfl (hb hby d3_51) rfl rfl k) ?_
      refine own_by (S' := (T5.setTop (mkF m 53 #[.val (.ref a1), .val (.int p0), .val (.int p1), .val (.int p2), .val (.int p3), .val (.int p4), .val (.int p5)] [(.ref a1), (.ref a1)]))) (fun _ k => XS.dup X5.here hx rfl (hb hby d3_52) rfl rfl k) ?_
      obtain ⟨T6, X6, e6, st6⟩ := getF X5 hx hZ hown (host := "") (Or.inl (hw _ (List.mem_of_getElem? (i := 22) rfl))) Via.refl e5 F_mOldInputs (g := (mkF m 53 #[.val (.ref a1), .val (.int p0), .val (.int p1), .val (.int p2), .val (.int p3), .val (.int p4), .val (.int p5)] [(.ref a1), (.ref a1)])) rfl rfl (hb hby d3_53)
      refine own_by (S' := (T6.setTop (mkF m 56 #[.val (.ref a1), .val (.int p0), .val (.int p1), .val (.int p2), .val (.int p3), .val (.int p4), .val (.int p5)] [(.long q4), (.ref a1)]))) st6 ?_
      refine own_by (S' := (T6.setTop (mkF m 57 #[.val (.ref a1), .val (.int p0), .val (.int p1), .val (.int p2), .val (.int p3), .val (.int p4), .val (.int p5)] [(.int p1), (.long q4), (.ref a1)]))) (fun _ k => XS.iloadN X6.here hx rfl (hb hby d3_56) rfl k) ?_
      refine own_by (S' := (T6.setTop (mkF m 58 #[.val (.ref a1), .val (.int p0), .val (.int p1), .val (.int p2), .val (.int p3), .val (.int p4), .val (.int p5)] [(.long (p1.toInt64)), (.long q4), (.ref a1)]))) (fun _ k => XS.i2l X6.here hx rfl (hb hby d3_57) rfl k) ?_
      refine own_by (S' := (T6.setTop (mkF m 59 #[.val (.ref a1), .val (.int p0), .val (.int p1), .val (.int p2), .val (.int p3), .val (.int p4), .val (.int p5)] [(.long (q4 + (p1.toInt64))), (.ref a1)]))) (fun _ k => XS.ladd X6.here hx rfl (hb hby d3_58) rfl k) ?_
      obtain ⟨T7, h7, X7, e7, W7, st7⟩ := putF X6 hx hZ hown (host := "") (Or.inl (hw _ (List.mem_of_getElem? (i := 22) rfl))) Via.refl e6 F_mOldInputs E_a1 (Or.inl (hw _ (List.mem_of_getElem? (i := 23) rfl))) (hw _ (List.mem_of_getElem? (i := 1) rfl)) (ty := .long) (by decide) rfl rfl (g := (mkF m 59 #[.val (.ref a1), .val (.int p0), .val (.int p1), .val (.int p2), .val (.int p3), .val (.int p4), .val (.int p5)] [(.long (q4 + (p1.toInt64))), (.ref a1)])) rfl rfl (hb hby d3_59)
      have N := Fr.snoc X7 N o_a1
      have E_a1 := E_a1.wr W7
      have F_mTransactions := F_mTransactions.other W7 (Or.inr (slot_ne (Or.inl (hw _ (List.mem_of_getElem? (i := 15) rfl))) (Or.inl (hw _ (List.mem_of_getElem? (i := 23) rfl))) (by decide) (t := .long) (t' := .long) (by decide) (by decide)))
      have F_mWitnessTransactions := F_mWitnessTransactions.other W7 (Or.inr (slot_ne (Or.inl (hw _ (List.mem_of_getElem? (i := 17) rfl))) (Or.inl (hw _ (List.mem_of_getElem? (i := 23) rfl))) (by decide) (t := .long) (t' := .long) (by decide) (by decide)))
      have F_mHotHistory := F_mHotHistory.other W7 (Or.inr (slot_ne (Or.inl (hw _ (List.mem_of_getElem? (i := 19) rfl))) (Or.inl (hw _ (List.mem_of_getElem? (i := 23) rfl))) (by decide) (t := .long) (t' := .long) (by decide) (by decide)))
      have F_mInputs := F_mInputs.other W7 (Or.inr (slot_ne (Or.inl (hw _ (List.mem_of_getElem? (i := 21) rfl))) (Or.inl (hw _ (List.mem_of_getElem? (i := 23) rfl))) (by decide) (t := .long) (t' := .long) (by decide) (by decide)))
      have F_mOldInputs := F_mOldInputs.same W7
      have F_mOutputs := F_mOutputs.other W7 (Or.inr (slot_ne (Or.inl (hw _ (List.mem_of_getElem? (i := 25) rfl))) (Or.inl (hw _ (List.mem_of_getElem? (i := 23) rfl))) (by decide) (t := .long) (t' := .long) (by decide) (by decide)))
      have F_mOpReturnOutputs := F_mOpReturnOutputs.other W7 (Or.inr (slot_ne (Or.inl (hw _ (List.mem_of_getElem? (i := 27) rfl))) (Or.inl (hw _ (List.mem_of_getElem? (i := 23) rfl))) (by decide) (t := .long) (t' := .long) (by decide) (by decide)))
      have F_mBlocks := F_mBlocks.other W7 (Or.inr (slot_ne (Or.inl (hw _ (List.mem_of_getElem? (i := 74) rfl))) (Or.inl (hw _ (List.mem_of_getElem? (i := 23) rfl))) (by decide) (t := .int) (t' := .long) (by decide) (by decide)))
      have F_mDistinctScripts := F_mDistinctScripts.other W7 (Or.inr (slot_ne (Or.inl (hw _ (List.mem_of_getElem? (i := 81) rfl))) (Or.inl (hw _ (List.mem_of_getElem? (i := 23) rfl))) (by decide) (t := .long) (t' := .long) (by decide) (by decide)))
      have Zn : n0 ≤ _ := Nat.le_trans Zn (Nat.le_of_eq W7.size.symm)
      have K := K.wr W7 (Or.inl (List.mem_of_getElem? (i := 0) rfl))
      refine own_by (S' := (T7.setTop (mkF m 62 #[.val (.ref a1), .val (.int p0), .val (.int p1), .val (.int p2), .val (.int p3), .val (.int p4), .val (.int p5)] []))) st7 ?_
      refine own_by (S' := (T7.setTop (mkF m 63 #[.val (.ref a1), .val (.int p0), .val (.int p1), .val (.int p2), .val (.int p3), .val (.int p4), .val (.int p5)] [(.ref a1)]))) (fun _ k => XS.aloadN X7.here hx rfl (hb hby d3_62) rfl rfl k) ?_
      refine own_by (S' := (T7.setTop (mkF m 64 #[.val (.ref a1), .val (.int p0), .val (.int p1), .val (.int p2), .val (.int p3), .val (.int p4), .val (.int p5)] [(.ref a1), (.ref a1)]))) (fun _ k => XS.dup X7.here hx rfl (hb hby d3_63) rfl rfl k) ?_
      obtain ⟨T8, X8, e8, st8⟩ := getF X7 hx hZ hown (host := "") (Or.inl (hw _ (List.mem_of_getElem? (i := 24) rfl))) Via.refl e7 F_mOutputs (g := (mkF m 64 #[.val (.ref a1), .val (.int p0), .val (.int p1), .val (.int p2), .val (.int p3), .val (.int p4), .val (.int p5)] [(.ref a1), (.ref a1)])) rfl rfl (hb hby d3_64)
      refine own_by (S' := (T8.setTop (mkF m 67 #[.val (.ref a1), .val (.int p0), .val (.int p1), .val (.int p2), .val (.int p3), .val (.int p4), .val (.int p5)] [(.long q5), (.ref a1)]))) st8 ?_
      refine own_by (S' := (T8.setTop (mkF m 68 #[.val (.ref a1), .val (.int p0), .val (.int p1), .val (.int p2), .val (.int p3), .val (.int p4), .val (.int p5)] [(.int p2), (.long q5), (.ref a1)]))) (fun _ k => XS.iloadN X8.here hx rfl (hb hby d3_67) rfl k) ?_
      refine own_by (S' := (T8.setTop (mkF m 69 #[.val (.ref a1), .val (.int p0), .val (.int p1), .val (.int p2), .val (.int p3), .val (.int p4), .val (.int p5)] [(.long (p2.toInt64)), (.long q5), (.ref a1)]))) (fun _ k => XS.i2l X8.here hx rfl (hb hby d3_68) rfl k) ?_
      refine own_by (S' := (T8.setTop (mkF m 70 #[.val (.ref a1), .val (.int p0), .val (.int p1), .val (.int p2), .val (.int p3), .val (.int p4), .val (.int p5)] [(.long (q5 + (p2.toInt64))), (.ref a1)]))) (fun _ k => XS.ladd X8.here hx rfl (hb hby d3_69) rfl k) ?_
      obtain ⟨T9, h9, X9, e9, W9, st9⟩ := putF X8 hx hZ hown (host := "") (Or.inl (hw _ (List.mem_of_getElem? (i := 24) rfl))) Via.refl e8 F_mOutputs E_a1 (Or.inl (hw _ (List.mem_of_getElem? (i := 25) rfl))) (hw _ (List.mem_of_getElem? (i := 1) rfl)) (ty := .long) (by decide) rfl rfl (g := (mkF m 70 #[.val (.ref a1), .val (.int p0), .val (.int p1), .val (.int p2), .val (.int p3), .val (.int p4), .val (.int p5)] [(.long (q5 + (p2.toInt64))), (.ref a1)])) rfl rfl (hb hby d3_70)
      have N := Fr.snoc X9 N o_a1
      have E_a1 := E_a1.wr W9
      have F_mTransactions := F_mTransactions.other W9 (Or.inr (slot_ne (Or.inl (hw _ (List.mem_of_getElem? (i := 15) rfl))) (Or.inl (hw _ (List.mem_of_getElem? (i := 25) rfl))) (by decide) (t := .long) (t' := .long) (by decide) (by decide)))
      have F_mWitnessTransactions := F_mWitnessTransactions.other W9 (Or.inr (slot_ne (Or.inl (hw _ (List.mem_of_getElem? (i := 17) rfl))) (Or.inl (hw _ (List.mem_of_getElem? (i := 25) rfl))) (by decide) (t := .long) (t' := .long) (by decide) (by decide)))
      have F_mHotHistory := F_mHotHistory.other W9 (Or.inr (slot_ne (Or.inl (hw _ (List.mem_of_getElem? (i := 19) rfl))) (Or.inl (hw _ (List.mem_of_getElem? (i := 25) rfl))) (by decide) (t := .long) (t' := .long) (by decide) (by decide)))
      have F_mInputs := F_mInputs.other W9 (Or.inr (slot_ne (Or.inl (hw _ (List.mem_of_getElem? (i := 21) rfl))) (Or.inl (hw _ (List.mem_of_getElem? (i := 25) rfl))) (by decide) (t := .long) (t' := .long) (by decide) (by decide)))
      have F_mOldInputs := F_mOldInputs.other W9 (Or.inr (slot_ne (Or.inl (hw _ (List.mem_of_getElem? (i := 23) rfl))) (Or.inl (hw _ (List.mem_of_getElem? (i := 25) rfl))) (by decide) (t := .long) (t' := .long) (by decide) (by decide)))
      have F_mOutputs := F_mOutputs.same W9
      have F_mOpReturnOutputs := F_mOpReturnOutputs.other W9 (Or.inr (slot_ne (Or.inl (hw _ (List.mem_of_getElem? (i := 27) rfl))) (Or.inl (hw _ (List.mem_of_getElem? (i := 25) rfl))) (by decide) (t := .long) (t' := .long) (by decide) (by decide)))
      have F_mBlocks := F_mBlocks.other W9 (Or.inr (slot_ne (Or.inl (hw _ (List.mem_of_getElem? (i := 74) rfl))) (Or.inl (hw _ (List.mem_of_getElem? (i := 25) rfl))) (by decide) (t := .int) (t' := .long) (by decide) (by decide)))
      have F_mDistinctScripts := F_mDistinctScripts.other W9 (Or.inr (slot_ne (Or.inl (hw _ (List.mem_of_getElem? (i := 81) rfl))) (Or.inl (hw _ (List.mem_of_getElem? (i := 25) rfl))) (by decide) (t := .long) (t' := .long) (by decide) (by decide)))
      have Zn : n0 ≤ _ := Nat.le_trans Zn (Nat.le_of_eq W9.size.symm)
      have K := K.wr W9 (Or.inl (List.mem_of_getElem? (i := 0) rfl))
      refine own_by (S' := (T9.setTop (mkF m 73 #[.val (.ref a1), .val (.int p0), .val (.int p1), .val (.int p2), .val (.int p3), .val (.int p4), .val (.int p5)] []))) st9 ?_
      refine own_by (S' := (T9.setTop (mkF m 74 #[.val (.ref a1), .val (.int p0), .val (.int p1), .val (.int p2), .val (.int p3), .val (.int p4), .val (.int p5)] [(.ref a1)]))) (fun _ k => XS.aloadN X9.here hx rfl (hb hby d3_73) rfl rfl k) ?_
      refine own_by (S' := (T9.setTop (mkF m 75 #[.val (.ref a1), .val (.int p0), .val (.int p1), .val (.int p2), .val (.int p3), .val (.int p4), .val (.int p5)] [(.ref a1), (.ref a1)]))) (fun _ k => XS.dup X9.here hx rfl (hb hby d3_74) rfl rfl k) ?_
      obtain ⟨T10, X10, e10, st10⟩ := getF X9 hx hZ hown (host := "") (Or.inl (hw _ (List.mem_of_getElem? (i := 26) rfl))) Via.refl e9 F_mOpReturnOutputs (g := (mkF m 75 #[.val (.ref a1), .val (.int p0), .val (.int p1), .val (.int p2), .val (.int p3), .val (.int p4), .val (.int p5)] [(.ref a1), (.ref a1)])) rfl rfl (hb hby d3_75)
      refine own_by (S' := (T10.setTop (mkF m 78 #[.val (.ref a1), .val (.int p0), .val (.int p1), .val (.int p2), .val (.int p3), .val (.int p4), .val (.int p5)] [(.long q6), (.ref a1)]))) st10 ?_
      refine own_by (S' := (T10.setTop (mkF m 80 #[.val (.ref a1), .val (.int p0), .val (.int p1), .val (.int p2), .val (.int p3), .val (.int p4), .val (.int p5)] [(.int p3), (.long q6), (.ref a1)]))) (fun _ k => XS.iload X10.here hx rfl (hb hby d3_78) rfl k) ?_
      refine own_by (S' := (T10.setTop (mkF m 81 #[.val (.ref a1), .val (.int p0), .val (.int p1), .val (.int p2), .val (.int p3), .val (.int p4), .val (.int p5)] [(.long (p3.toInt64)), (.long q6), (.ref a1)]))) (fun _ k => XS.i2l X10.here hx rfl (hb hby d3_80) rfl k) ?_
      refine own_by (S' := (T10.setTop (mkF m 82 #[.val (.ref a1), .val (.int p0), .val (.int p1), .val (.int p2), .val (.int p3), .val (.int p4), .val (.int p5)] [(.long (q6 + (p3.toInt64))), (.ref a1)]))) (fun _ k => XS.ladd X10.here hx rfl (hb hby d3_81) rfl k) ?_
      obtain ⟨T11, h11, X11, e11, W11, st11⟩ := putF X10 hx hZ hown (host := "") (Or.inl (hw _ (List.mem_of_getElem? (i := 26) rfl))) Via.refl e10 F_mOpReturnOutputs E_a1 (Or.inl (hw _ (List.mem_of_getElem? (i := 27) rfl))) (hw _ (List.mem_of_getElem? (i := 1) rfl)) (ty := .long) (by decide) rfl rfl (g := (mkF m 82 #[.val (.ref a1), .val (.int p0), .val (.int p1), .val (.int p2), .val (.int p3), .val (.int p4), .val (.int p5)] [(.long (q6 + (p3.toInt64))), (.ref a1)])) rfl rfl (hb hby d3_82)
      have N := Fr.snoc X11 N o_a1
      have E_a1 := E_a1.wr W11
      have F_mTransactions := F_mTransactions.other W11 (Or.inr (slot_ne (Or.inl (hw _ (List.mem_of_getElem? (i := 15) rfl))) (Or.inl (hw _ (List.mem_of_getElem? (i := 27) rfl))) (by decide) (t := .long) (t' := .long) (by decide) (by decide)))
      have F_mWitnessTransactions := F_mWitnessTransactions.other W11 (Or.inr (slot_ne (Or.inl (hw _ (List.mem_of_getElem? (i := 17) rfl))) (Or.inl (hw _ (List.mem_of_getElem? (i := 27) rfl))) (by decide) (t := .long) (t' := .long) (by decide) (by decide)))
      have F_mHotHistory := F_mHotHistory.other W11 (Or.inr (slot_ne (Or.inl (hw _ (List.mem_of_getElem? (i := 19) rfl))) (Or.inl (hw _ (List.mem_of_getElem? (i := 27) rfl))) (by decide) (t := .long) (t' := .long) (by decide) (by decide)))
      have F_mInputs := F_mInputs.other W11 (Or.inr (slot_ne (Or.inl (hw _ (List.mem_of_getElem? (i := 21) rfl))) (Or.inl (hw _ (List.mem_of_getElem? (i := 27) rfl))) (by decide) (t := .long) (t' := .long) (by decide) (by decide)))
      have F_mOldInputs := F_mOldInputs.other W11 (Or.inr (slot_ne (Or.inl (hw _ (List.mem_of_getElem? (i := 23) rfl))) (Or.inl (hw _ (List.mem_of_getElem? (i := 27) rfl))) (by decide) (t := .long) (t' := .long) (by decide) (by decide)))
      have F_mOutputs := F_mOutputs.other W11 (Or.inr (slot_ne (Or.inl (hw _ (List.mem_of_getElem? (i := 25) rfl))) (Or.inl (hw _ (List.mem_of_getElem? (i := 27) rfl))) (by decide) (t := .long) (t' := .long) (by decide) (by decide)))
      have F_mOpReturnOutputs := F_mOpReturnOutputs.same W11
      have F_mBlocks := F_mBlocks.other W11 (Or.inr (slot_ne (Or.inl (hw _ (List.mem_of_getElem? (i := 74) rfl))) (Or.inl (hw _ (List.mem_of_getElem? (i := 27) rfl))) (by decide) (t := .int) (t' := .long) (by decide) (by decide)))
      have F_mDistinctScripts := F_mDistinctScripts.other W11 (Or.inr (slot_ne (Or.inl (hw _ (List.mem_of_getElem? (i := 81) rfl))) (Or.inl (hw _ (List.mem_of_getElem? (i := 27) rfl))) (by decide) (t := .long) (t' := .long) (by decide) (by decide)))
      have Zn : n0 ≤ _ := Nat.le_trans Zn (Nat.le_of_eq W11.size.symm)
      have K := K.wr W11 (Or.inl (List.mem_of_getElem? (i := 0) rfl))
      refine own_by (S' := (T11.setTop (mkF m 85 #[.val (.ref a1), .val (.int p0), .val (.int p1), .val (.int p2), .val (.int p3), .val (.int p4), .val (.int p5)] []))) st11 ?_
      exact own_ret0 X11 hx Bd.returns (hb hby d3_85) hlk (by decide : 0 ≤ _) (by decide : 0 ≤ _) (by rw [e11]; exact ⟨rfl, N, K, F_mTransactions, by rw [own_b0 hw1, Int64.add_zero]; exact F_mWitnessTransactions, by rw [own_b0 hh1, Int64.add_zero]; exact F_mHotHistory, F_mInputs, F_mOldInputs, F_mOutputs, F_mOpReturnOutputs, F_mBlocks, F_mDistinctScripts⟩)
    · refine own_by (S' := (T3.setTop (mkF m 30 #[.val (.ref a1), .val (.int p0), .val (.int p1), .val (.int p2), .val (.int p3), .val (.int p4), .val (.int p5)] []))) (fun _ k => XS.ifNo X3.here hx rfl (hb hby d3_27) rfl ((if0 _ _).trans (feq (hh1 : ¬ (p5 = (0 : Int32)))).1) k) ?_
      refine own_by (S' := (T3.setTop (mkF m 31 #[.val (.ref a1), .val (.int p0), .val (.int p1), .val (.int p2), .val (.int p3), .val (.int p4), .val (.int p5)] [(.ref a1)]))) (fun _ k => XS.aloadN X3.here hx rfl (hb hby d3_30) rfl rfl k) ?_
      refine own_by (S' := (T3.setTop (mkF m 32 #[.val (.ref a1), .val (.int p0), .val (.int p1), .val (.int p2), .val (.int p3), .val (.int p4), .val (.int p5)] [(.ref a1), (.ref a1)]))) (fun _ k => XS.dup X3.here hx rfl (hb hby d3_31) rfl rfl k) ?_
      obtain ⟨T12, X12, e12, st12⟩ := getF X3 hx hZ hown (host := "") (Or.inl (hw _ (List.mem_of_getElem? (i := 18) rfl))) Via.refl e3 F_mHotHistory (g := (mkF m 32 #[.val (.ref a1), .val (.int p0), .val (.int p1), .val (.int p2), .val (.int p3), .val (.int p4), .val (.int p5)] [(.ref a1), (.ref a1)])) rfl rfl (hb hby d3_32)
      refine own_by (S' := (T12.setTop (mkF m 35 #[.val (.ref a1), .val (.int p0), .val (.int p1), .val (.int p2), .val (.int p3), .val (.int p4), .val (.int p5)] [(.long q2), (.ref a1)]))) st12 ?_
      refine own_by (S' := (T12.setTop (mkF m 36 #[.val (.ref a1), .val (.int p0), .val (.int p1), .val (.int p2), .val (.int p3), .val (.int p4), .val (.int p5)] [(.long (1 : Int64)), (.long q2), (.ref a1)]))) (fun _ k => XS.lconst X12.here hx rfl (hb hby d3_35) k) ?_
      refine own_by (S' := (T12.setTop (mkF m 37 #[.val (.ref a1), .val (.int p0), .val (.int p1), .val (.int p2), .val (.int p3), .val (.int p4), .val (.int p5)] [(.long (q2 + (1 : Int64))), (.ref a1)]))) (fun _ k => XS.ladd X12.here hx rfl (hb hby d3_36) rfl k) ?_
      obtain ⟨T13, h13, X13, e13, W13, st13⟩ := putF X12 hx hZ hown (host := "") (Or.inl (hw _ (List.mem_of_getElem? (i := 18) rfl))) Via.refl e12 F_mHotHistory E_a1 (Or.inl (hw _ (List.mem_of_getElem? (i := 19) rfl))) (hw _ (List.mem_of_getElem? (i := 1) rfl)) (ty := .long) (by decide) rfl rfl (g := (mkF m 37 #[.val (.ref a1), .val (.int p0), .val (.int p1), .val (.int p2), .val (.int p3), .val (.int p4), .val (.int p5)] [(.long (q2 + (1 : Int64))), (.ref a1)])) rfl rfl (hb hby d3_37)
      have N := Fr.snoc X13 N o_a1
      have E_a1 := E_a1.wr W13
      have F_mTransactions := F_mTransactions.other W13 (Or.inr (slot_ne (Or.inl (hw _ (List.mem_of_getElem? (i := 15) rfl))) (Or.inl (hw _ (List.mem_of_getElem? (i := 19) rfl))) (by decide) (t := .long) (t' := .long) (by decide) (by decide)))
      have F_mWitnessTransactions := F_mWitnessTransactions.other W13 (Or.inr (slot_ne (Or.inl (hw _ (List.mem_of_getElem? (i := 17) rfl))) (Or.inl (hw _ (List.mem_of_getElem? (i := 19) rfl))) (by decide) (t := .long) (t' := .long) (by decide) (by decide)))
      have F_mHotHistory := F_mHotHistory.same W13
      have F_mInputs := F_mInputs.other W13 (Or.inr (slot_ne (Or.inl (hw _ (List.mem_of_getElem? (i := 21) rfl))) (Or.inl (hw _ (List.mem_of_getElem? (i := 19) rfl))) (by decide) (t := .long) (t' := .long) (by decide) (by decide)))
      have F_mOldInputs := F_mOldInputs.other W13 (Or.inr (slot_ne (Or.inl (hw _ (List.mem_of_getElem? (i := 23) rfl))) (Or.inl (hw _ (List.mem_of_getElem? (i := 19) rfl))) (by decide) (t := .long) (t' := .long) (by decide) (by decide)))
      have F_mOutputs := F_mOutputs.other W13 (Or.inr (slot_ne (Or.inl (hw _ (List.mem_of_getElem? (i := 25) rfl))) (Or.inl (hw _ (List.mem_of_getElem? (i := 19) rfl))) (by decide) (t := .long) (t' := .long) (by decide) (by decide)))
      have F_mOpReturnOutputs := F_mOpReturnOutputs.other W13 (Or.inr (slot_ne (Or.inl (hw _ (List.mem_of_getElem? (i := 27) rfl))) (Or.inl (hw _ (List.mem_of_getElem? (i := 19) rfl))) (by decide) (t := .long) (t' := .long) (by decide) (by decide)))
      have F_mBlocks := F_mBlocks.other W13 (Or.inr (slot_ne (Or.inl (hw _ (List.mem_of_getElem? (i := 74) rfl))) (Or.inl (hw _ (List.mem_of_getElem? (i := 19) rfl))) (by decide) (t := .int) (t' := .long) (by decide) (by decide)))
      have F_mDistinctScripts := F_mDistinctScripts.other W13 (Or.inr (slot_ne (Or.inl (hw _ (List.mem_of_getElem? (i := 81) rfl))) (Or.inl (hw _ (List.mem_of_getElem? (i := 19) rfl))) (by decide) (t := .long) (t' := .long) (by decide) (by decide)))
      have Zn : n0 ≤ _ := Nat.le_trans Zn (Nat.le_of_eq W13.size.symm)
      have K := K.wr W13 (Or.inl (List.mem_of_getElem? (i := 0) rfl))
      refine own_by (S' := (T13.setTop (mkF m 40 #[.val (.ref a1), .val (.int p0), .val (.int p1), .val (.int p2), .val (.int p3), .val (.int p4), .val (.int p5)] []))) st13 ?_
      refine own_by (S' := (T13.setTop (mkF m 41 #[.val (.ref a1), .val (.int p0), .val (.int p1), .val (.int p2), .val (.int p3), .val (.int p4), .val (.int p5)] [(.ref a1)]))) (fun _ k => XS.aloadN X13.here hx rfl (hb hby d3_40) rfl rfl k) ?_
      refine own_by (S' := (T13.setTop (mkF m 42 #[.val (.ref a1), .val (.int p0), .val (.int p1), .val (.int p2), .val (.int p3), .val (.int p4), .val (.int p5)] [(.ref a1), (.ref a1)]))) (fun _ k => XS.dup X13.here hx rfl (hb hby d3_41) rfl rfl k) ?_
      obtain ⟨T14, X14, e14, st14⟩ := getF X13 hx hZ hown (host := "") (Or.inl (hw _ (List.mem_of_getElem? (i := 20) rfl))) Via.refl e13 F_mInputs (g := (mkF m 42 #[.val (.ref a1), .val (.int p0), .val (.int p1), .val (.int p2), .val (.int p3), .val (.int p4), .val (.int p5)] [(.ref a1), (.ref a1)])) rfl rfl (hb hby d3_42)
      refine own_by (S' := (T14.setTop (mkF m 45 #[.val (.ref a1), .val (.int p0), .val (.int p1), .val (.int p2), .val (.int p3), .val (.int p4), .val (.int p5)] [(.long q3), (.ref a1)]))) st14 ?_
      refine own_by (S' := (T14.setTop (mkF m 46 #[.val (.ref a1), .val (.int p0), .val (.int p1), .val (.int p2), .val (.int p3), .val (.int p4), .val (.int p5)] [(.int p0), (.long q3), (.ref a1)]))) (fun _ k => XS.iloadN X14.here hx rfl (hb hby d3_45) rfl k) ?_
      refine own_by (S' := (T14.setTop (mkF m 47 #[.val (.ref a1), .val (.int p0), .val (.int p1), .val (.int p2), .val (.int p3), .val (.int p4), .val (.int p5)] [(.long (p0.toInt64)), (.long q3), (.ref a1)]))) (fun _ k => XS.i2l X14.here hx rfl (hb hby d3_46) rfl k) ?_
      refine own_by (S' := (T14.setTop (mkF m 48 #[.val (.ref a1), .val (.int p0), .val (.int p1), .val (.int p2), .val (.int p3), .val (.int p4), .val (.int p5)] [(.long (q3 + (p0.toInt64))), (.ref a1)]))) (fun _ k => XS.ladd X14.here hx rfl (hb hby d3_47) rfl k) ?_
      obtain ⟨T15, h15, X15, e15, W15, st15⟩ := putF X14 hx hZ hown (host := "") (Or.inl (hw _ (List.mem_of_getElem? (i := 20) rfl))) Via.refl e14 F_mInputs E_a1 (Or.inl (hw _ (List.mem_of_getElem? (i := 21) rfl))) (hw _ (List.mem_of_getElem? (i := 1) rfl)) (ty := .long) (by decide) rfl rfl (g := (mkF m 48 #[.val (.ref a1), .val (.int p0), .val (.int p1), .val (.int p2), .val (.int p3), .val (.int p4), .val (.int p5)] [(.long (q3 + (p0.toInt64))), (.ref a1)])) rfl rfl (hb hby d3_48)
      have N := Fr.snoc X15 N o_a1
      have E_a1 := E_a1.wr W15
      have F_mTransactions := F_mTransactions.other W15 (Or.inr (slot_ne (Or.inl (hw _ (List.mem_of_getElem? (i := 15) rfl))) (Or.inl (hw _ (List.mem_of_getElem? (i := 21) rfl))) (by decide) (t := .long) (t' := .long) (by decide) (by decide)))
      have F_mWitnessTransactions := F_mWitnessTransactions.other W15 (Or.inr (slot_ne (Or.inl (hw _ (List.mem_of_getElem? (i := 17) rfl))) (Or.inl (hw _ (List.mem_of_getElem? (i := 21) rfl))) (by decide) (t := .long) (t' := .long) (by decide) (by decide)))
      have F_mHotHistory := F_mHotHistory.other W15 (Or.inr (slot_ne (Or.inl (hw _ (List.mem_of_getElem? (i := 19) rfl))) (Or.inl (hw _ (List.mem_of_getElem? (i := 21) rfl))) (by decide) (t := .long) (t' := .long) (by decide) (by decide)))
      have F_mInputs := F_mInputs.same W15
      have F_mOldInputs := F_mOldInputs.other W15 (Or.inr (slot_ne (Or.inl (hw _ (List.mem_of_getElem? (i := 23) rfl))) (Or.inl (hw _ (List.mem_of_getElem? (i := 21) rfl))) (by decide) (t := .long) (t' := .long) (by decide) (by decide)))
      have F_mOutputs := F_mOutputs.other W15 (Or.inr (slot_ne (Or.inl (hw _ (List.mem_of_getElem? (i := 25) rfl))) (Or.inl (hw _ (List.mem_of_getElem? (i := 21) rfl))) (by decide) (t := .long) (t' := .long) (by decide) (by decide)))
      have F_mOpReturnOutputs := F_mOpReturnOutputs.other W15 (Or.inr (slot_ne (Or.inl (hw _ (List.mem_of_getElem? (i := 27) rfl))) (Or.inl (hw _ (List.mem_of_getElem? (i := 21) rfl))) (by decide) (t := .long) (t' := .long) (by decide) (by decide)))
      have F_mBlocks := F_mBlocks.other W15 (Or.inr (slot_ne (Or.inl (hw _ (List.mem_of_getElem? (i := 74) rfl))) (Or.inl (hw _ (List.mem_of_getElem? (i := 21) rfl))) (by decide) (t := .int) (t' := .long) (by decide) (by decide)))
      have F_mDistinctScripts := F_mDistinctScripts.other W15 (Or.inr (slot_ne (Or.inl (hw _ (List.mem_of_getElem? (i := 81) rfl))) (Or.inl (hw _ (List.mem_of_getElem? (i := 21) rfl))) (by decide) (t := .long) (t' := .long) (by decide) (by decide)))
      have Zn : n0 ≤ _ := Nat.le_trans Zn (Nat.le_of_eq W15.size.symm)
      have K := K.wr W15 (Or.inl (List.mem_of_getElem? (i := 0) rfl))
      refine own_by (S' := (T15.setTop (mkF m 51 #[.val (.ref a1), .val (.int p0), .val (.int p1), .val (.int p2), .val (.int p3), .val (.int p4), .val (.int p5)] []))) st15 ?_
      refine own_by (S' := (T15.setTop (mkF m 52 #[.val (.ref a1), .val (.int p0), .val (.int p1), .val (.int p2), .val (.int p3), .val (.int p4), .val (.int p5)] [(.ref a1)]))) (fun _ k => XS.aloadN X15.here hx rfl (hb hby d3_51) rfl rfl k) ?_
      refine own_by (S' := (T15.setTop (mkF m 53 #[.val (.ref a1), .val (.int p0), .val (.int p1), .val (.int p2), .val (.int p3), .val (.int p4), .val (.int p5)] [(.ref a1), (.ref a1)]))) (fun _ k => XS.dup X15.here hx rfl (hb hby d3_52) rfl rfl k) ?_
      obtain ⟨T16, X16, e16, st16⟩ := getF X15 hx hZ hown (host := "") (Or.inl (hw _ (List.mem_of_getElem? (i := 22) rfl))) Via.refl e15 F_mOldInputs (g := (mkF m 53 #[.val (.ref a1), .val (.int p0), .val (.int p1), .val (.int p2), .val (.int p3), .val (.int p4), .val (.int p5)] [(.ref a1), (.ref a1)])) rfl rfl (hb hby d3_53)
      refine own_by (S' := (T16.setTop (mkF m 56 #[.val (.ref a1), .val (.int p0), .val (.int p1), .val (.int p2), .val (.int p3), .val (.int p4), .val (.int p5)] [(.long q4), (.ref a1)]))) st16 ?_
      refine own_by (S' := (T16.setTop (mkF m 57 #[.val (.ref a1), .val (.int p0), .val (.int p1), .val (.int p2), .val (.int p3), .val (.int p4), .val (.int p5)] [(.int p1), (.long q4), (.ref a1)]))) (fun _ k => XS.iloadN X16.here hx rfl (hb hby d3_56) rfl k) ?_
      refine own_by (S' := (T16.setTop (mkF m 58 #[.val (.ref a1), .val (.int p0), .val (.int p1), .val (.int p2), .val (.int p3), .val (.int p4), .val (.int p5)] [(.long (p1.toInt64)), (.long q4), (.ref a1)]))) (fun _ k => XS.i2l X16.here hx rfl (hb hby d3_57) rfl k) ?_
      refine own_by (S' := (T16.setTop (mkF m 59 #[.val (.ref a1), .val (.int p0), .val (.int p1), .val (.int p2), .val (.int p3), .val (.int p4), .val (.int p5)] [(.long (q4 + (p1.toInt64))), (.ref a1)]))) (fun _ k => XS.ladd X16.here hx rfl (hb hby d3_58) rfl k) ?_
      obtain ⟨T17, h17, X17, e17, W17, st17⟩ := putF X16 hx hZ hown (host := "") (Or.inl (hw _ (List.mem_of_getElem? (i := 22) rfl))) Via.refl e16 F_mOldInputs E_a1 (Or.inl (hw _ (List.mem_of_getElem? (i := 23) rfl))) (hw _ (List.mem_of_getElem? (i := 1) rfl)) (ty := .long) (by decide) rfl rfl (g := (mkF m 59 #[.val (.ref a1), .val (.int p0), .val (.int p1), .val (.int p2), .val (.int p3), .val (.int p4), .val (.int p5)] [(.long (q4 + (p1.toInt64))), (.ref a1)])) rfl rfl (hb hby d3_59)
      have N := Fr.snoc X17 N o_a1
      have E_a1 := E_a1.wr W17
      have F_mTransactions := F_mTransactions.other W17 (Or.inr (slot_ne (Or.inl (hw _ (List.mem_of_getElem? (i := 15) rfl))) (Or.inl (hw _ (List.mem_of_getElem? (i := 23) rfl))) (by decide) (t := .long) (t' := .long) (by decide) (by decide)))
      have F_mWitnessTransactions := F_mWitnessTransactions.other W17 (Or.inr (slot_ne (Or.inl (hw _ (List.mem_of_getElem? (i := 17) rfl))) (Or.inl (hw _ (List.mem_of_getElem? (i := 23) rfl))) (by decide) (t := .long) (t' := .long) (by decide) (by decide)))
      have F_mHotHistory := F_mHotHistory.other W17 (Or.inr (slot_ne (Or.inl (hw _ (List.mem_of_getElem? (i := 19) rfl))) (Or.inl (hw _ (List.mem_of_getElem? (i := 23) rfl))) (by decide) (t := .long) (t' := .long) (by decide) (by decide)))
      have F_mInputs := F_mInputs.other W17 (Or.inr (slot_ne (Or.inl (hw _ (List.mem_of_getElem? (i := 21) rfl))) (Or.inl (hw _ (List.mem_of_getElem? (i := 23) rfl))) (by decide) (t := .long) (t' := .long) (by decide) (by decide)))
      have F_mOldInputs := F_mOldInputs.same W17
      have F_mOutputs := F_mOutputs.other W17 (Or.inr (slot_ne (Or.inl (hw _ (List.mem_of_getElem? (i := 25) rfl))) (Or.inl (hw _ (List.mem_of_getElem? (i := 23) rfl))) (by decide) (t := .long) (t' := .long) (by decide) (by decide)))
      have F_mOpReturnOutputs := F_mOpReturnOutputs.other W17 (Or.inr (slot_ne (Or.inl (hw _ (List.mem_of_getElem? (i := 27) rfl))) (Or.inl (hw _ (List.mem_of_getElem? (i := 23) rfl))) (by decide) (t := .long) (t' := .long) (by decide) (by decide)))
      have F_mBlocks := F_mBlocks.other W17 (Or.inr (slot_ne (Or.inl (hw _ (List.mem_of_getElem? (i := 74) rfl))) (Or.inl (hw _ (List.mem_of_getElem? (i := 23) rfl))) (by decide) (t := .int) (t' := .long) (by decide) (by decide)))
      have F_mDistinctScripts := F_mDistinctScripts.other W17 (Or.inr (slot_ne (Or.inl (hw _ (List.mem_of_getElem? (i := 81) rfl))) (Or.inl (hw _ (List.mem_of_getElem? (i := 23) rfl))) (by decide) (t := .long) (t' := .long) (by decide) (by decide)))
      have Zn : n0 ≤ _ := Nat.le_trans Zn (Nat.le_of_eq W17.size.symm)
      have K := K.wr W17 (Or.inl (List.mem_of_getElem? (i := 0) rfl))
      refine own_by (S' := (T17.setTop (mkF m 62 #[.val (.ref a1), .val (.int p0), .val (.int p1), .val (.int p2), .val (.int p3), .val (.int p4), .val (.int p5)] []))) st17 ?_
      refine own_by (S' := (T17.setTop (mkF m 63 #[.val (.ref a1), .val (.int p0), .val (.int p1), .val (.int p2), .val (.int p3), .val (.int p4), .val (.int p5)] [(.ref a1)]))) (fun _ k => XS.aloadN X17.here hx rfl (hb hby d3_62) rfl rfl k) ?_
      refine own_by (S' := (T17.setTop (mkF m 64 #[.val (.ref a1), .val (.int p0), .val (.int p1), .val (.int p2), .val (.int p3), .val (.int p4), .val (.int p5)] [(.ref a1), (.ref a1)]))) (fun _ k => XS.dup X17.here hx rfl (hb hby d3_63) rfl rfl k) ?_
      obtain ⟨T18, X18, e18, st18⟩ := getF X17 hx hZ hown (host := "") (Or.inl (hw _ (List.mem_of_getElem? (i := 24) rfl))) Via.refl e17 F_mOutputs (g := (mkF m 64 #[.val (.ref a1), .val (.int p0), .val (.int p1), .val (.int p2), .val (.int p3), .val (.int p4), .val (.int p5)] [(.ref a1), (.ref a1)])) rfl rfl (hb hby d3_64)
      refine own_by (S' := (T18.setTop (mkF m 67 #[.val (.ref a1), .val (.int p0), .val (.int p1), .val (.int p2), .val (.int p3), .val (.int p4), .val (.int p5)] [(.long q5), (.ref a1)]))) st18 ?_
      refine own_by (S' := (T18.setTop (mkF m 68 #[.val (.ref a1), .val (.int p0), .val (.int p1), .val (.int p2), .val (.int p3), .val (.int p4), .val (.int p5)] [(.int p2), (.long q5), (.ref a1)]))) (fun _ k => XS.iloadN X18.here hx rfl (hb hby d3_67) rfl k) ?_
      refine own_by (S' := (T18.setTop (mkF m 69 #[.val (.ref a1), .val (.int p0), .val (.int p1), .val (.int p2), .val (.int p3), .val (.int p4), .val (.int p5)] [(.long (p2.toInt64)), (.long q5), (.ref a1)]))) (fun _ k => XS.i2l X18.here hx rfl (hb hby d3_68) rfl k) ?_
      refine own_by (S' := (T18.setTop (mkF m 70 #[.val (.ref a1), .val (.int p0), .val (.int p1), .val (.int p2), .val (.int p3), .val (.int p4), .val (.int p5)] [(.long (q5 + (p2.toInt64))), (.ref a1)]))) (fun _ k => XS.ladd X18.here hx rfl (hb hby d3_69) rfl k) ?_
      obtain ⟨T19, h19, X19, e19, W19, st19⟩ := putF X18 hx hZ hown (host := "") (Or.inl (hw _ (List.mem_of_getElem? (i := 24) rfl))) Via.refl e18 F_mOutputs E_a1 (Or.inl (hw _ (List.mem_of_getElem? (i := 25) rfl))) (hw _ (List.mem_of_getElem? (i := 1) rfl)) (ty := .long) (by decide) rfl rfl (g := (mkF m 70 #[.val (.ref a1), .val (.int p0), .val (.int p1), .val (.int p2), .val (.int p3), .val (.int p4), .val (.int p5)] [(.long (q5 + (p2.toInt64))), (.ref a1)])) rfl rfl (hb hby d3_70)
      have N := Fr.snoc X19 N o_a1
      have E_a1 := E_a1.wr W19
      have F_mTransactions := F_mTransactions.other W19 (Or.inr (slot_ne (Or.inl (hw _ (List.mem_of_getElem? (i := 15) rfl))) (Or.inl (hw _ (List.mem_of_getElem? (i := 25) rfl))) (by decide) (t := .long) (t' := .long) (by decide) (by decide)))
      have F_mWitnessTransactions := F_mWitnessTransactions.other W19 (Or.inr (slot_ne (Or.inl (hw _ (List.mem_of_getElem? (i := 17) rfl))) (Or.inl (hw _ (List.mem_of_getElem? (i := 25) rfl))) (by decide) (t := .long) (t' := .long) (by decide) (by decide)))
      have F_mHotHistory := F_mHotHistory.other W19 (Or.inr (slot_ne (Or.inl (hw _ (List.mem_of_getElem? (i := 19) rfl))) (Or.inl (hw _ (List.mem_of_getElem? (i := 25) rfl))) (by decide) (t := .long) (t' := .long) (by decide) (by decide)))
      have F_mInputs := F_mInputs.other W19 (Or.inr (slot_ne (Or.inl (hw _ (List.mem_of_getElem? (i := 21) rfl))) (Or.inl (hw _ (List.mem_of_getElem? (i := 25) rfl))) (by decide) (t := .long) (t' := .long) (by decide) (by decide)))
      have F_mOldInputs := F_mOldInputs.other W19 (Or.inr (slot_ne (Or.inl (hw _ (List.mem_of_getElem? (i := 23) rfl))) (Or.inl (hw _ (List.mem_of_getElem? (i := 25) rfl))) (by decide) (t := .long) (t' := .long) (by decide) (by decide)))
      have F_mOutputs := F_mOutputs.same W19
      have F_mOpReturnOutputs := F_mOpReturnOutputs.other W19 (Or.inr (slot_ne (Or.inl (hw _ (List.mem_of_getElem? (i := 27) rfl))) (Or.inl (hw _ (List.mem_of_getElem? (i := 25) rfl))) (by decide) (t := .long) (t' := .long) (by decide) (by decide)))
      have F_mBlocks := F_mBlocks.other W19 (Or.inr (slot_ne (Or.inl (hw _ (List.mem_of_getElem? (i := 74) rfl))) (Or.inl (hw _ (List.mem_of_getElem? (i := 25) rfl))) (by decide) (t := .int) (t' := .long) (by decide) (by decide)))
      have F_mDistinctScripts := F_mDistinctScripts.other W19 (Or.inr (slot_ne (Or.inl (hw _ (List.mem_of_getElem? (i := 81) rfl))) (Or.inl (hw _ (List.mem_of_getElem? (i := 25) rfl))) (by decide) (t := .long) (t' := .long) (by decide) (by decide)))
      have Zn : n0 ≤ _ := Nat.le_trans Zn (Nat.le_of_eq W19.size.symm)
      have K := K.wr W19 (Or.inl (List.mem_of_getElem? (i := 0) rfl))
      refine own_by (S' := (T19.setTop (mkF m 73 #[.val (.ref a1), .val (.int p0), .val (.int p1), .val (.int p2), .val (.int p3), .val (.int p4), .val (.int p5)] []))) st19 ?_
      refine own_by (S' := (T19.setTop (mkF m 74 #[.val (.ref a1), .val (.int p0), .val (.int p1), .val (.int p2), .val (.int p3), .val (.int p4), .val (.int p5)] [(.ref a1)]))) (fun _ k => XS.aloadN X19.here hx rfl (hb hby d3_73) rfl rfl k) ?_
      refine own_by (S' := (T19.setTop (mkF m 75 #[.val (.ref a1), .val (.int p0), .val (.int p1), .val (.int p2), .val (.int p3), .val (.int p4), .val (.int p5)] [(.ref a1), (.ref a1)]))) (fun _ k => XS.dup X19.here hx rfl (hb hby d3_74) rfl rfl k) ?_
      obtain ⟨T20, X20, e20, st20⟩ := getF X19 hx hZ hown (host := "") (Or.inl (hw _ (List.mem_of_getElem? (i := 26) rfl))) Via.refl e19 F_mOpReturnOutputs (g := (mkF m 75 #[.val (.ref a1), .val (.int p0), .val (.int p1), .val (.int p2), .val (.int p3), .val (.int p4), .val (.int p5)] [(.ref a1), (.ref a1)])) rfl rfl (hb hby d3_75)
      refine own_by (S' := (T20.setTop (mkF m 78 #[.val (.ref a1), .val (.int p0), .val (.int p1), .val (.int p2), .val (.int p3), .val (.int p4), .val (.int p5)] [(.long q6), (.ref a1)]))) st20 ?_
      refine own_by (S' := (T20.setTop (mkF m 80 #[.val (.ref a1), .val (.int p0), .val (.int p1), .val (.int p2), .val (.int p3), .val (.int p4), .val (.int p5)] [(.int p3), (.long q6), (.ref a1)]))) (fun _ k => XS.iload X20.here hx rfl (hb hby d3_78) rfl k) ?_
      refine own_by (S' := (T20.setTop (mkF m 81 #[.val (.ref a1), .val (.int p0), .val (.int p1), .val (.int p2), .val (.int p3), .val (.int p4), .val (.int p5)] [(.long (p3.toInt64)), (.long q6), (.ref a1)]))) (fun _ k => XS.i2l X20.here hx rfl (hb hby d3_80) rfl k) ?_
      refine own_by (S' := (T20.setTop (mkF m 82 #[.val (.ref a1), .val (.int p0), .val (.int p1), .val (.int p2), .val (.int p3), .val (.int p4), .val (.int p5)] [(.long (q6 + (p3.toInt64))), (.ref a1)]))) (fun _ k => XS.ladd X20.here hx rfl (hb hby d3_81) rfl k) ?_
      obtain ⟨T21, h21, X21, e21, W21, st21⟩ := putF X20 hx hZ hown (host := "") (Or.inl (hw _ (List.mem_of_getElem? (i := 26) rfl))) Via.refl e20 F_mOpReturnOutputs E_a1 (Or.inl (hw _ (List.mem_of_getElem? (i := 27) rfl))) (hw _ (List.mem_of_getElem? (i := 1) rfl)) (ty := .long) (by decide) rfl rfl (g := (mkF m 82 #[.val (.ref a1), .val (.int p0), .val (.int p1), .val (.int p2), .val (.int p3), .val (.int p4), .val (.int p5)] [(.long (q6 + (p3.toInt64))), (.ref a1)])) rfl rfl (hb hby d3_82)
      have N := Fr.snoc X21 N o_a1
      have E_a1 := E_a1.wr W21
      have F_mTransactions := F_mTransactions.other W21 (Or.inr (slot_ne (Or.inl (hw _ (List.mem_of_getElem? (i := 15) rfl))) (Or.inl (hw _ (List.mem_of_getElem? (i := 27) rfl))) (by decide) (t := .long) (t' := .long) (by decide) (by decide)))
      have F_mWitnessTransactions := F_mWitnessTransactions.other W21 (Or.inr (slot_ne (Or.inl (hw _ (List.mem_of_getElem? (i := 17) rfl))) (Or.inl (hw _ (List.mem_of_getElem? (i := 27) rfl))) (by decide) (t := .long) (t' := .long) (by decide) (by decide)))
      have F_mHotHistory := F_mHotHistory.other W21 (Or.inr (slot_ne (Or.inl (hw _ (List.mem_of_getElem? (i := 19) rfl))) (Or.inl (hw _ (List.mem_of_getElem? (i := 27) rfl))) (by decide) (t := .long) (t' := .long) (by decide) (by decide)))
      have F_mInputs := F_mInputs.other W21 (Or.inr (slot_ne (Or.inl (hw _ (List.mem_of_getElem? (i := 21) rfl))) (Or.inl (hw _ (List.mem_of_getElem? (i := 27) rfl))) (by decide) (t := .long) (t' := .long) (by decide) (by decide)))
      have F_mOldInputs := F_mOldInputs.other W21 (Or.inr (slot_ne (Or.inl (hw _ (List.mem_of_getElem? (i := 23) rfl))) (Or.inl (hw _ (List.mem_of_getElem? (i := 27) rfl))) (by decide) (t := .long) (t' := .long) (by decide) (by decide)))
      have F_mOutputs := F_mOutputs.other W21 (Or.inr (slot_ne (Or.inl (hw _ (List.mem_of_getElem? (i := 25) rfl))) (Or.inl (hw _ (List.mem_of_getElem? (i := 27) rfl))) (by decide) (t := .long) (t' := .long) (by decide) (by decide)))
      have F_mOpReturnOutputs := F_mOpReturnOutputs.same W21
      have F_mBlocks := F_mBlocks.other W21 (Or.inr (slot_ne (Or.inl (hw _ (List.mem_of_getElem? (i := 74) rfl))) (Or.inl (hw _ (List.mem_of_getElem? (i := 27) rfl))) (by decide) (t := .int) (t' := .long) (by decide) (by decide)))
      have F_mDistinctScripts := F_mDistinctScripts.other W21 (Or.inr (slot_ne (Or.inl (hw _ (List.mem_of_getElem? (i := 81) rfl))) (Or.inl (hw _ (List.mem_of_getElem? (i := 27) rfl))) (by decide) (t := .long) (t' := .long) (by decide) (by decide)))
      have Zn : n0 ≤ _ := Nat.le_trans Zn (Nat.le_of_eq W21.size.symm)
      have K := K.wr W21 (Or.inl (List.mem_of_getElem? (i := 0) rfl))
      refine own_by (S' := (T21.setTop (mkF m 85 #[.val (.ref a1), .val (.int p0), .val (.int p1), .val (.int p2), .val (.int p3), .val (.int p4), .val (.int p5)] []))) st21 ?_
      exact own_ret0 X21 hx Bd.returns (hb hby d3_85) hlk (by decide : 0 ≤ _) (by decide : 0 ≤ _) (by rw [e21]; exact ⟨rfl, N, K, F_mTransactions, by rw [own_b0 hw1, Int64.add_zero]; exact F_mWitnessTransactions, by rw [own_b1 hh1]; exact F_mHotHistory, F_mInputs, F_mOldInputs, F_mOutputs, F_mOpReturnOutputs, F_mBlocks, F_mDistinctScripts⟩)
  · refine own_by (S' := (T3.setTop (mkF m 15 #[.val (.ref a1), .val (.int p0), .val (.int p1), .val (.int p2), .val (.int p3), .val (.int p4), .val (.int p5)] []))) (fun _ k => XS.ifNo X3.here hx rfl (hb hby d3_12) rfl ((if0 _ _).trans (feq (hw1 : ¬ (p4 = (0 : Int32)))).1) k) ?_
    refine own_by (S' := (T3.setTop (mkF m 16 #[.val (.ref a1), .val (.int p0), .val (.int p1), .val (.int p2), .val (.int p3), .val (.int p4), .val (.int p5)] [(.ref a1)]))) (fun _ k => XS.aloadN X3.here hx rfl (hb hby d3_15) rfl rfl k) ?_
    refine own_by (S' := (T3.setTop (mkF m 17 #[.val (.ref a1), .val (.int p0), .val (.int p1), .val (.int p2), .val (.int p3), .val (.int p4), .val (.int p5)] [(.ref a1), (.ref a1)]))) (fun _ k => XS.dup X3.here hx rfl (hb hby d3_16) rfl rfl k) ?_
    obtain ⟨T22, X22, e22, st22⟩ := getF X3 hx hZ hown (host := "") (Or.inl (hw _ (List.mem_of_getElem? (i := 16) rfl))) Via.refl e3 F_mWitnessTransactions (g := (mkF m 17 #[.val (.ref a1), .val (.int p0), .val (.int p1), .val (.int p2), .val (.int p3), .val (.int p4), .val (.int p5)] [(.ref a1), (.ref a1)])) rfl rfl (hb hby d3_17)
    refine own_by (S' := (T22.setTop (mkF m 20 #[.val (.ref a1), .val (.int p0), .val (.int p1), .val (.int p2), .val (.int p3), .val (.int p4), .val (.int p5)] [(.long q1), (.ref a1)]))) st22 ?_
    refine own_by (S' := (T22.setTop (mkF m 21 #[.val (.ref a1), .val (.int p0), .val (.int p1), .val (.int p2), .val (.int p3), .val (.int p4), .val (.int p5)] [(.long (1 : Int64)), (.long q1), (.ref a1)]))) (fun _ k => XS.lconst X22.here hx rfl (hb hby d3_20) k) ?_
    refine own_by (S' := (T22.setTop (mkF m 22 #[.val (.ref a1), .val (.int p0), .val (.int p1), .val (.int p2), .val (.int p3), .val (.int p4), .val (.int p5)] [(.long (q1 + (1 : Int64))), (.ref a1)]))) (fun _ k => XS.ladd X22.here hx rfl (hb hby d3_21) rfl k) ?_
    obtain ⟨T23, h23, X23, e23, W23, st23⟩ := putF X22 hx hZ hown (host := "") (Or.inl (hw _ (List.mem_of_getElem? (i := 16) rfl))) Via.refl e22 F_mWitnessTransactions E_a1 (Or.inl (hw _ (List.mem_of_getElem? (i := 17) rfl))) (hw _ (List.mem_of_getElem? (i := 1) rfl)) (ty := .long) (by decide) rfl rfl (g := (mkF m 22 #[.val (.ref a1), .val (.int p0), .val (.int p1), .val (.int p2), .val (.int p3), .val (.int p4), .val (.int p5)] [(.long (q1 + (1 : Int64))), (.ref a1)])) rfl rfl (hb hby d3_22)
    have N := Fr.snoc X23 N o_a1
    have E_a1 := E_a1.wr W23
    have F_mTransactions := F_mTransactions.other W23 (Or.inr (slot_ne (Or.inl (hw _ (List.mem_of_getElem? (i := 15) rfl))) (Or.inl (hw _ (List.mem_of_getElem? (i := 17) rfl))) (by decide) (t := .long) (t' := .long) (by decide) (by decide)))
    have F_mWitnessTransactions := F_mWitnessTransactions.same W23
    have F_mHotHistory := F_mHotHistory.other W23 (Or.inr (slot_ne (Or.inl (hw _ (List.mem_of_getElem? (i := 19) rfl))) (Or.inl (hw _ (List.mem_of_getElem? (i := 17) rfl))) (by decide) (t := .long) (t' := .long) (by decide) (by decide)))
    have F_mInputs := F_mInputs.other W23 (Or.inr (slot_ne (Or.inl (hw _ (List.mem_of_getElem? (i := 21) rfl))) (Or.inl (hw _ (List.mem_of_getElem? (i := 17) rfl))) (by decide) (t := .long) (t' := .long) (by decide) (by decide)))
    have F_mOldInputs := F_mOldInputs.other W23 (Or.inr (slot_ne (Or.inl (hw _ (List.mem_of_getElem? (i := 23) rfl))) (Or.inl (hw _ (List.mem_of_getElem? (i := 17) rfl))) (by decide) (t := .long) (t' := .long) (by decide) (by decide)))
    have F_mOutputs := F_mOutputs.other W23 (Or.inr (slot_ne (Or.inl (hw _ (List.mem_of_getElem? (i := 25) rfl))) (Or.inl (hw _ (List.mem_of_getElem? (i := 17) rfl))) (by decide) (t := .long) (t' := .long) (by decide) (by decide)))
    have F_mOpReturnOutputs := F_mOpReturnOutputs.other W23 (Or.inr (slot_ne (Or.inl (hw _ (List.mem_of_getElem? (i := 27) rfl))) (Or.inl (hw _ (List.mem_of_getElem? (i := 17) rfl))) (by decide) (t := .long) (t' := .long) (by decide) (by decide)))
    have F_mBlocks := F_mBlocks.other W23 (Or.inr (slot_ne (Or.inl (hw _ (List.mem_of_getElem? (i := 74) rfl))) (Or.inl (hw _ (List.mem_of_getElem? (i := 17) rfl))) (by decide) (t := .int) (t' := .long) (by decide) (by decide)))
    have F_mDistinctScripts := F_mDistinctScripts.other W23 (Or.inr (slot_ne (Or.inl (hw _ (List.mem_of_getElem? (i := 81) rfl))) (Or.inl (hw _ (List.mem_of_getElem? (i := 17) rfl))) (by decide) (t := .long) (t' := .long) (by decide) (by decide)))
    have Zn : n0 ≤ _ := Nat.le_trans Zn (Nat.le_of_eq W23.size.symm)
    have K := K.wr W23 (Or.inl (List.mem_of_getElem? (i := 0) rfl))
    refine own_by (S' := (T23.setTop (mkF m 25 #[.val (.ref a1), .val (.int p0), .val (.int p1), .val (.int p2), .val (.int p3), .val (.int p4), .val (.int p5)] []))) st23 ?_
    refine own_by (S' := (T23.setTop (mkF m 27 #[.val (.ref a1), .val (.int p0), .val (.int p1), .val (.int p2), .val (.int p3), .val (.int p4), .val (.int p5)] [(.int p5)]))) (fun _ k => XS.iload X23.here hx rfl (hb hby d3_25) rfl k) ?_
    by_cases hh1 : p5 = (0 : Int32)
    · refine own_by (S' := (T23.setTop (mkF m 40 #[.val (.ref a1), .val (.int p0), .val (.int p1), .val (.int p2), .val (.int p3), .val (.int p4), .val (.int p5)] []))) (fun _ k => XS.ifYes X23.here hx rfl (pc0 := 27) (pc' := 40) rfl (hb hby d3_27) rfl ((if0 _ _).trans (teq (hh1 : p5 = (0 : Int32))).1) (by decide) (by decide) k) ?_
      refine own_by (S' := (T23.setTop (mkF m 41 #[.val (.ref a1), .val (.int p0), .val (.int p1), .val (.int p2), .val (.int p3), .val (.int p4), .val (.int p5)] [(.ref a1)]))) (fun _ k => XS.aloadN X23.here hx rfl (hb hby d3_40) rfl rfl k) ?_
      refine own_by (S' := (T23.setTop (mkF m 42 #[.val (.ref a1), .val (.int p0), .val (.int p1), .val (.int p2), .val (.int p3), .val (.int p4), .val (.int p5)] [(.ref a1), (.ref a1)]))) (fun _ k => XS.dup X23.here hx rfl (hb hby d3_41) rfl rfl k) ?_
      obtain ⟨T24, X24, e24, st24⟩ := getF X23 hx hZ hown (host := "") (Or.inl (hw _ (List.mem_of_getElem? (i := 20) rfl))) Via.refl e23 F_mInputs (g := (mkF m 42 #[.val (.ref a1), .val (.int p0), .val (.int p1), .val (.int p2), .val (.int p3), .val (.int p4), .val (.int p5)] [(.ref a1), (.ref a1)])) rfl rfl (hb hby d3_42)
      refine own_by (S' := (T24.setTop (mkF m 45 #[.val (.ref a1), .val (.int p0), .val (.int p1), .val (.int p2), .val (.int p3), .val (.int p4), .val (.int p5)] [(.long q3), (.ref a1)]))) st24 ?_
      refine own_by (S' := (T24.setTop (mkF m 46 #[.val (.ref a1), .val (.int p0), .val (.int p1), .val (.int p2), .val (.int p3), .val (.int p4), .val (.int p5)] [(.int p0), (.long q3), (.ref a1)]))) (fun _ k => XS.iloadN X24.here hx rfl (hb hby d3_45) rfl k) ?_
      refine own_by (S' := (T24.setTop (mkF m 47 #[.val (.ref a1), .val (.int p0), .val (.int p1), .val (.int p2), .val (.int p3), .val (.int p4), .val (.int p5)] [(.long (p0.toInt64)), (.long q3), (.ref a1)]))) (fun _ k => XS.i2l X24.here hx rfl (hb hby d3_46) rfl k) ?_
      refine own_by (S' := (T24.setTop (mkF m 48 #[.val (.ref a1), .val (.int p0), .val (.int p1), .val (.int p2), .val (.int p3), .val (.int p4), .val (.int p5)] [(.long (q3 + (p0.toInt64))), (.ref a1)]))) (fun _ k => XS.ladd X24.here hx rfl (hb hby d3_47) rfl k) ?_
      obtain ⟨T25, h25, X25, e25, W25, st25⟩ := putF X24 hx hZ hown (host := "") (Or.inl (hw _ (List.mem_of_getElem? (i := 20) rfl))) Via.refl e24 F_mInputs E_a1 (Or.inl (hw _ (List.mem_of_getElem? (i := 21) rfl))) (hw _ (List.mem_of_getElem? (i := 1) rfl)) (ty := .long) (by decide) rfl rfl (g := (mkF m 48 #[.val (.ref a1), .val (.int p0), .val (.int p1), .val (.int p2), .val (.int p3), .val (.int p4), .val (.int p5)] [(.long (q3 + (p0.toInt64))), (.ref a1)])) rfl rfl (hb hby d3_48)
      have N := Fr.snoc X25 N o_a1
      have E_a1 := E_a1.wr W25
      have F_mTransactions := F_mTransactions.other W25 (Or.inr (slot_ne (Or.inl (hw _ (List.mem_of_getElem? (i := 15) rfl))) (Or.inl (hw _ (List.mem_of_getElem? (i := 21) rfl))) (by decide) (t := .long) (t' := .long) (by decide) (by decide)))
      have F_mWitnessTransactions := F_mWitnessTransactions.other W25 (Or.inr (slot_ne (Or.inl (hw _ (List.mem_of_getElem? (i := 17) rfl))) (Or.inl (hw _ (List.mem_of_getElem? (i := 21) rfl))) (by decide) (t := .long) (t' := .long) (by decide) (by decide)))
      have F_mHotHistory := F_mHotHistory.other W25 (Or.inr (slot_ne (Or.inl (hw _ (List.mem_of_getElem? (i := 19) rfl))) (Or.inl (hw _ (List.mem_of_getElem? (i := 21) rfl))) (by decide) (t := .long) (t' := .long) (by decide) (by decide)))
      have F_mInputs := F_mInputs.same W25
      have F_mOldInputs := F_mOldInputs.other W25 (Or.inr (slot_ne (Or.inl (hw _ (List.mem_of_getElem? (i := 23) rfl))) (Or.inl (hw _ (List.mem_of_getElem? (i := 21) rfl))) (by decide) (t := .long) (t' := .long) (by decide) (by decide)))
      have F_mOutputs := F_mOutputs.other W25 (Or.inr (slot_ne (Or.inl (hw _ (List.mem_of_getElem? (i := 25) rfl))) (Or.inl (hw _ (List.mem_of_getElem? (i := 21) rfl))) (by decide) (t := .long) (t' := .long) (by decide) (by decide)))
      have F_mOpReturnOutputs := F_mOpReturnOutputs.other W25 (Or.inr (slot_ne (Or.inl (hw _ (List.mem_of_getElem? (i := 27) rfl))) (Or.inl (hw _ (List.mem_of_getElem? (i := 21) rfl))) (by decide) (t := .long) (t' := .long) (by decide) (by decide)))
      have F_mBlocks := F_mBlocks.other W25 (Or.inr (slot_ne (Or.inl (hw _ (List.mem_of_getElem? (i := 74) rfl))) (Or.inl (hw _ (List.mem_of_getElem? (i := 21) rfl))) (by decide) (t := .int) (t' := .long) (by decide) (by decide)))
      have F_mDistinctScripts := F_mDistinctScripts.other W25 (Or.inr (slot_ne (Or.inl (hw _ (List.mem_of_getElem? (i := 81) rfl))) (Or.inl (hw _ (List.mem_of_getElem? (i := 21) rfl))) (by decide) (t := .long) (t' := .long) (by decide) (by decide)))
      have Zn : n0 ≤ _ := Nat.le_trans Zn (Nat.le_of_eq W25.size.symm)
      have K := K.wr W25 (Or.inl (List.mem_of_getElem? (i := 0) rfl))
      refine own_by (S' := (T25.setTop (mkF m 51 #[.val (.ref a1), .val (.int p0), .val (.int p1), .val (.int p2), .val (.int p3), .val (.int p4), .val (.int p5)] []))) st25 ?_
      refine own_by (S' := (T25.setTop (mkF m 52 #[.val (.ref a1), .val (.int p0), .val (.int p1), .val (.int p2), .val (.int p3), .val (.int p4), .val (.int p5)] [(.ref a1)]))) (fun _ k => XS.aloadN X25.here hx rfl (hb hby d3_51) rfl rfl k) ?_
      refine own_by (S' := (T25.setTop (mkF m 53 #[.val (.ref a1), .val (.int p0), .val (.int p1), .val (.int p2), .val (.int p3), .val (.int p4), .val (.int p5)] [(.ref a1), (.ref a1)]))) (fun _ k => XS.dup X25.here hx rfl (hb hby d3_52) rfl rfl k) ?_
      obtain ⟨T26, X26, e26, st26⟩ := getF X25 hx hZ hown (host := "") (Or.inl (hw _ (List.mem_of_getElem? (i := 22) rfl))) Via.refl e25 F_mOldInputs (g := (mkF m 53 #[.val (.ref a1), .val (.int p0), .val (.int p1), .val (.int p2), .val (.int p3), .val (.int p4), .val (.int p5)] [(.ref a1), (.ref a1)])) rfl rfl (hb hby d3_53)
      refine own_by (S' := (T26.setTop (mkF m 56 #[.val (.ref a1), .val (.int p0), .val (.int p1), .val (.int p2), .val (.int p3), .val (.int p4), .val (.int p5)] [(.long q4), (.ref a1)]))) st26 ?_
      refine own_by (S' := (T26.setTop (mkF m 57 #[.val (.ref a1), .val (.int p0), .val (.int p1), .val (.int p2), .val (.int p3), .val (.int p4), .val (.int p5)] [(.int p1), (.long q4), (.ref a1)]))) (fun _ k => XS.iloadN X26.here hx rfl (hb hby d3_56) rfl k) ?_
      refine own_by (S' := (T26.setTop (mkF m 58 #[.val (.ref a1), .val (.int p0), .val (.int p1), .val (.int p2), .val (.int p3), .val (.int p4), .val (.int p5)] [(.long (p1.toInt64)), (.long q4), (.ref a1)]))) (fun _ k => XS.i2l X26.here hx rfl (hb hby d3_57) rfl k) ?_
      refine own_by (S' := (T26.setTop (mkF m 59 #[.val (.ref a1), .val (.int p0), .val (.int p1), .val (.int p2), .val (.int p3), .val (.int p4), .val (.int p5)] [(.long (q4 + (p1.toInt64))), (.ref a1)]))) (fun _ k => XS.ladd X26.here hx rfl (hb hby d3_58) rfl k) ?_
      obtain ⟨T27, h27, X27, e27, W27, st27⟩ := putF X26 hx hZ hown (host := "") (Or.inl (hw _ (List.mem_of_getElem? (i := 22) rfl))) Via.refl e26 F_mOldInputs E_a1 (Or.inl (hw _ (List.mem_of_getElem? (i := 23) rfl))) (hw _ (List.mem_of_getElem? (i := 1) rfl)) (ty := .long) (by decide) rfl rfl (g := (mkF m 59 #[.val (.ref a1), .val (.int p0), .val (.int p1), .val (.int p2), .val (.int p3), .val (.int p4), .val (.int p5)] [(.long (q4 + (p1.toInt64))), (.ref a1)])) rfl rfl (hb hby d3_59)
      have N := Fr.snoc X27 N o_a1
      have E_a1 := E_a1.wr W27
      have F_mTransactions := F_mTransactions.other W27 (Or.inr (slot_ne (Or.inl (hw _ (List.mem_of_getElem? (i := 15) rfl))) (Or.inl (hw _ (List.mem_of_getElem? (i := 23) rfl))) (by decide) (t := .long) (t' := .long) (by decide) (by decide)))
      have F_mWitnessTransactions := F_mWitnessTransactions.other W27 (Or.inr (slot_ne (Or.inl (hw _ (List.mem_of_getElem? (i := 17) rfl))) (Or.inl (hw _ (List.mem_of_getElem? (i := 23) rfl))) (by decide) (t := .long) (t' := .long) (by decide) (by decide)))
      have F_mHotHistory := F_mHotHistory.other W27 (Or.inr (slot_ne (Or.inl (hw _ (List.mem_of_getElem? (i := 19) rfl))) (Or.inl (hw _ (List.mem_of_getElem? (i := 23) rfl))) (by decide) (t := .long) (t' := .long) (by decide) (by decide)))
      have F_mInputs := F_mInputs.other W27 (Or.inr (slot_ne (Or.inl (hw _ (List.mem_of_getElem? (i := 21) rfl))) (Or.inl (hw _ (List.mem_of_getElem? (i := 23) rfl))) (by decide) (t := .long) (t' := .long) (by decide) (by decide)))
      have F_mOldInputs := F_mOldInputs.same W27
      have F_mOutputs := F_mOutputs.other W27 (Or.inr (slot_ne (Or.inl (hw _ (List.mem_of_getElem? (i := 25) rfl))) (Or.inl (hw _ (List.mem_of_getElem? (i := 23) rfl))) (by decide) (t := .long) (t' := .long) (by decide) (by decide)))
      have F_mOpReturnOutputs := F_mOpReturnOutputs.other W27 (Or.inr (slot_ne (Or.inl (hw _ (List.mem_of_getElem? (i := 27) rfl))) (Or.inl (hw _ (List.mem_of_getElem? (i := 23) rfl))) (by decide) (t := .long) (t' := .long) (by decide) (by decide)))
      have F_mBlocks := F_mBlocks.other W27 (Or.inr (slot_ne (Or.inl (hw _ (List.mem_of_getElem? (i := 74) rfl))) (Or.inl (hw _ (List.mem_of_getElem? (i := 23) rfl))) (by decide) (t := .int) (t' := .long) (by decide) (by decide)))
      have F_mDistinctScripts := F_mDistinctScripts.other W27 (Or.inr (slot_ne (Or.inl (hw _ (List.mem_of_getElem? (i := 81) rfl))) (Or.inl (hw _ (List.mem_of_getElem? (i := 23) rfl))) (by decide) (t := .long) (t' := .long) (by decide) (by decide)))
      have Zn : n0 ≤ _ := Nat.le_trans Zn (Nat.le_of_eq W27.size.symm)
      have K := K.wr W27 (Or.inl (List.mem_of_getElem? (i := 0) rfl))
      refine own_by (S' := (T27.setTop (mkF m 62 #[.val (.ref a1), .val (.int p0), .val (.int p1), .val (.int p2), .val (.int p3), .val (.int p4), .val (.int p5)] []))) st27 ?_
      refine own_by (S' := (T27.setTop (mkF m 63 #[.val (.ref a1), .val (.int p0), .val (.int p1), .val (.int p2), .val (.int p3), .val (.int p4), .val (.int p5)] [(.ref a1)]))) (fun _ k => XS.aloadN X27.here hx rfl (hb hby d3_62) rfl rfl k) ?_
      refine own_by (S' := (T27.setTop (mkF m 64 #[.val (.ref a1), .val (.int p0), .val (.int p1), .val (.int p2), .val (.int p3), .val (.int p4), .val (.int p5)] [(.ref a1), (.ref a1)]))) (fun _ k => XS.dup X27.here hx rfl (hb hby d3_63) rfl rfl k) ?_
      obtain ⟨T28, X28, e28, st28⟩ := getF X27 hx hZ hown (host := "") (Or.inl (hw _ (List.mem_of_getElem? (i := 24) rfl))) Via.refl e27 F_mOutputs (g := (mkF m 64 #[.val (.ref a1), .val (.int p0), .val (.int p1), .val (.int p2), .val (.int p3), .val (.int p4), .val (.int p5)] [(.ref a1), (.ref a1)])) rfl rfl (hb hby d3_64)
      refine own_by (S' := (T28.setTop (mkF m 67 #[.val (.ref a1), .val (.int p0), .val (.int p1), .val (.int p2), .val (.int p3), .val (.int p4), .val (.int p5)] [(.long q5), (.ref a1)]))) st28 ?_
      refine own_by (S' := (T28.setTop (mkF m 68 #[.val (.ref a1), .val (.int p0), .val (.int p1), .val (.int p2), .val (.int p3), .val (.int p4), .val (.int p5)] [(.int p2), (.long q5), (.ref a1)]))) (fun _ k => XS.iloadN X28.here hx rfl (hb hby d3_67) rfl k) ?_
      refine own_by (S' := (T28.setTop (mkF m 69 #[.val (.ref a1), .val (.int p0), .val (.int p1), .val (.int p2), .val (.int p3), .val (.int p4), .val (.int p5)] [(.long (p2.toInt64)), (.long q5), (.ref a1)]))) (fun _ k => XS.i2l X28.here hx rfl (hb hby d3_68) rfl k) ?_
      refine own_by (S' := (T28.setTop (mkF m 70 #[.val (.ref a1), .val (.int p0), .val (.int p1), .val (.int p2), .val (.int p3), .val (.int p4), .val (.int p5)] [(.long (q5 + (p2.toInt64))), (.ref a1)]))) (fun _ k => XS.ladd X28.here hx rfl (hb hby d3_69) rfl k) ?_
      obtain ⟨T29, h29, X29, e29, W29, st29⟩ := putF X28 hx hZ hown (host := "") (Or.inl (hw _ (List.mem_of_getElem? (i := 24) rfl))) Via.refl e28 F_mOutputs E_a1 (Or.inl (hw _ (List.mem_of_getElem? (i := 25) rfl))) (hw _ (List.mem_of_getElem? (i := 1) rfl)) (ty := .long) (by decide) rfl rfl (g := (mkF m 70 #[.val (.ref a1), .val (.int p0), .val (.int p1), .val (.int p2), .val (.int p3), .val (.int p4), .val (.int p5)] [(.long (q5 + (p2.toInt64))), (.ref a1)])) rfl rfl (hb hby d3_70)
      have N := Fr.snoc X29 N o_a1
      have E_a1 := E_a1.wr W29
      have F_mTransactions := F_mTransactions.other W29 (Or.inr (slot_ne (Or.inl (hw _ (List.mem_of_getElem? (i := 15) rfl))) (Or.inl (hw _ (List.mem_of_getElem? (i := 25) rfl))) (by decide) (t := .long) (t' := .long) (by decide) (by decide)))
      have F_mWitnessTransactions := F_mWitnessTransactions.other W29 (Or.inr (slot_ne (Or.inl (hw _ (List.mem_of_getElem? (i := 17) rfl))) (Or.inl (hw _ (List.mem_of_getElem? (i := 25) rfl))) (by decide) (t := .long) (t' := .long) (by decide) (by decide)))
      have F_mHotHistory := F_mHotHistory.other W29 (Or.inr (slot_ne (Or.inl (hw _ (List.mem_of_getElem? (i := 19) rfl))) (Or.inl (hw _ (List.mem_of_getElem? (i := 25) rfl))) (by decide) (t := .long) (t' := .long) (by decide) (by decide)))
      have F_mInputs := F_mInputs.other W29 (Or.inr (slot_ne (Or.inl (hw _ (List.mem_of_getElem? (i := 21) rfl))) (Or.inl (hw _ (List.mem_of_getElem? (i := 25) rfl))) (by decide) (t := .long) (t' := .long) (by decide) (by decide)))
      have F_mOldInputs := F_mOldInputs.other W29 (Or.inr (slot_ne (Or.inl (hw _ (List.mem_of_getElem? (i := 23) rfl))) (Or.inl (hw _ (List.mem_of_getElem? (i := 25) rfl))) (by decide) (t := .long) (t' := .long) (by decide) (by decide)))
      have F_mOutputs := F_mOutputs.same W29
      have F_mOpReturnOutputs := F_mOpReturnOutputs.other W29 (Or.inr (slot_ne (Or.inl (hw _ (List.mem_of_getElem? (i := 27) rfl))) (Or.inl (hw _ (List.mem_of_getElem? (i := 25) rfl))) (by decide) (t := .long) (t' := .long) (by decide) (by decide)))
      have F_mBlocks := F_mBlocks.other W29 (Or.inr (slot_ne (Or.inl (hw _ (List.mem_of_getElem? (i := 74) rfl))) (Or.inl (hw _ (List.mem_of_getElem? (i := 25) rfl))) (by decide) (t := .int) (t' := .long) (by decide) (by decide)))
      have F_mDistinctScripts := F_mDistinctScripts.other W29 (Or.inr (slot_ne (Or.inl (hw _ (List.mem_of_getElem? (i := 81) rfl))) (Or.inl (hw _ (List.mem_of_getElem? (i := 25) rfl))) (by decide) (t := .long) (t' := .long) (by decide) (by decide)))
      have Zn : n0 ≤ _ := Nat.le_trans Zn (Nat.le_of_eq W29.size.symm)
      have K := K.wr W29 (Or.inl (List.mem_of_getElem? (i := 0) rfl))
      refine own_by (S' := (T29.setTop (mkF m 73 #[.val (.ref a1), .val (.int p0), .val (.int p1), .val (.int p2), .val (.int p3), .val (.int p4), .val (.int p5)] []))) st29 ?_
      refine own_by (S' := (T29.setTop (mkF m 74 #[.val (.ref a1), .val (.int p0), .val (.int p1), .val (.int p2), .val (.int p3), .val (.int p4), .val (.int p5)] [(.ref a1)]))) (fun _ k => XS.aloadN X29.here hx rfl (hb hby d3_73) rfl rfl k) ?_
      refine own_by (S' := (T29.setTop (mkF m 75 #[.val (.ref a1), .val (.int p0), .val (.int p1), .val (.int p2), .val (.int p3), .val (.int p4), .val (.int p5)] [(.ref a1), (.ref a1)]))) (fun _ k => XS.dup X29.here hx rfl (hb hby d3_74) rfl rfl k) ?_
      obtain ⟨T30, X30, e30, st30⟩ := getF X29 hx hZ hown (host := "") (Or.inl (hw _ (List.mem_of_getElem? (i := 26) rfl))) Via.refl e29 F_mOpReturnOutputs (g := (mkF m 75 #[.val (.ref a1), .val (.int p0), .val (.int p1), .val (.int p2), .val (.int p3), .val (.int p4), .val (.int p5)] [(.ref a1), (.ref a1)])) rfl rfl (hb hby d3_75)
      refine own_by (S' := (T30.setTop (mkF m 78 #[.val (.ref a1), .val (.int p0), .val (.int p1), .val (.int p2), .val (.int p3), .val (.int p4), .val (.int p5)] [(.long q6), (.ref a1)]))) st30 ?_
      refine own_by (S' := (T30.setTop (mkF m 80 #[.val (.ref a1), .val (.int p0), .val (.int p1), .val (.int p2), .val (.int p3), .val (.int p4), .val (.int p5)] [(.int p3), (.long q6), (.ref a1)]))) (fun _ k => XS.iload X30.here hx rfl (hb hby d3_78) rfl k) ?_
      refine own_by (S' := (T30.setTop (mkF m 81 #[.val (.ref a1), .val (.int p0), .val (.int p1), .val (.int p2), .val (.int p3), .val (.int p4), .val (.int p5)] [(.long (p3.toInt64)), (.long q6), (.ref a1)]))) (fun _ k => XS.i2l X30.here hx rfl (hb hby d3_80) rfl k) ?_
      refine own_by (S' := (T30.setTop (mkF m 82 #[.val (.ref a1), .val (.int p0), .val (.int p1), .val (.int p2), .val (.int p3), .val (.int p4), .val (.int p5)] [(.long (q6 + (p3.toInt64))), (.ref a1)]))) (fun _ k => XS.ladd X30.here hx rfl (hb hby d3_81) rfl k) ?_
      obtain ⟨T31, h31, X31, e31, W31, st31⟩ := putF X30 hx hZ hown (host := "") (Or.inl (hw _ (List.mem_of_getElem? (i := 26) rfl))) Via.refl e30 F_mOpReturnOutputs E_a1 (Or.inl (hw _ (List.mem_of_getElem? (i := 27) rfl))) (hw _ (List.mem_of_getElem? (i := 1) rfl)) (ty := .long) (by decide) rfl rfl (g := (mkF m 82 #[.val (.ref a1), .val (.int p0), .val (.int p1), .val (.int p2), .val (.int p3), .val (.int p4), .val (.int p5)] [(.long (q6 + (p3.toInt64))), (.ref a1)])) rfl rfl (hb hby d3_82)
      have N := Fr.snoc X31 N o_a1
      have E_a1 := E_a1.wr W31
      have F_mTransactions := F_mTransactions.other W31 (Or.inr (slot_ne (Or.inl (hw _ (List.mem_of_getElem? (i := 15) rfl))) (Or.inl (hw _ (List.mem_of_getElem? (i := 27) rfl))) (by decide) (t := .long) (t' := .long) (by decide) (by decide)))
      have F_mWitnessTransactions := F_mWitnessTransactions.other W31 (Or.inr (slot_ne (Or.inl (hw _ (List.mem_of_getElem? (i := 17) rfl))) (Or.inl (hw _ (List.mem_of_getElem? (i := 27) rfl))) (by decide) (t := .long) (t' := .long) (by decide) (by decide)))
      have F_mHotHistory := F_mHotHistory.other W31 (Or.inr (slot_ne (Or.inl (hw _ (List.mem_of_getElem? (i := 19) rfl))) (Or.inl (hw _ (List.mem_of_getElem? (i := 27) rfl))) (by decide) (t := .long) (t' := .long) (by decide) (by decide)))
      have F_mInputs := F_mInputs.other W31 (Or.inr (slot_ne (Or.inl (hw _ (List.mem_of_getElem? (i := 21) rfl))) (Or.inl (hw _ (List.mem_of_getElem? (i := 27) rfl))) (by decide) (t := .long) (t' := .long) (by decide) (by decide)))
      have F_mOldInputs := F_mOldInputs.other W31 (Or.inr (slot_ne (Or.inl (hw _ (List.mem_of_getElem? (i := 23) rfl))) (Or.inl (hw _ (List.mem_of_getElem? (i := 27) rfl))) (by decide) (t := .long) (t' := .long) (by decide) (by decide)))
      have F_mOutputs := F_mOutputs.other W31 (Or.inr (slot_ne (Or.inl (hw _ (List.mem_of_getElem? (i := 25) rfl))) (Or.inl (hw _ (List.mem_of_getElem? (i := 27) rfl))) (by decide) (t := .long) (t' := .long) (by decide) (by decide)))
      have F_mOpReturnOutputs := F_mOpReturnOutputs.same W31
      have F_mBlocks := F_mBlocks.other W31 (Or.inr (slot_ne (Or.inl (hw _ (List.mem_of_getElem? (i := 74) rfl))) (Or.inl (hw _ (List.mem_of_getElem? (i := 27) rfl))) (by decide) (t := .int) (t' := .long) (by decide) (by decide)))
      have F_mDistinctScripts := F_mDistinctScripts.other W31 (Or.inr (slot_ne (Or.inl (hw _ (List.mem_of_getElem? (i := 81) rfl))) (Or.inl (hw _ (List.mem_of_getElem? (i := 27) rfl))) (by decide) (t := .long) (t' := .long) (by decide) (by decide)))
      have Zn : n0 ≤ _ := Nat.le_trans Zn (Nat.le_of_eq W31.size.symm)
      have K := K.wr W31 (Or.inl (List.mem_of_getElem? (i := 0) rfl))
      refine own_by (S' := (T31.setTop (mkF m 85 #[.val (.ref a1), .val (.int p0), .val (.int p1), .val (.int p2), .val (.int p3), .val (.int p4), .val (.int p5)] []))) st31 ?_
      exact own_ret0 X31 hx Bd.returns (hb hby d3_85) hlk (by decide : 0 ≤ _) (by decide : 0 ≤ _) (by rw [e31]; exact ⟨rfl, N, K, F_mTransactions, by rw [own_b1 hw1]; exact F_mWitnessTransactions, by rw [own_b0 hh1, Int64.add_zero]; exact F_mHotHistory, F_mInputs, F_mOldInputs, F_mOutputs, F_mOpReturnOutputs, F_mBlocks, F_mDistinctScripts⟩)
    · refine own_by (S' := (T23.setTop (mkF m 30 #[.val (.ref a1), .val (.int p0), .val (.int p1), .val (.int p2), .val (.int p3), .val (.int p4), .val (.int p5)] []))) (fun _ k => XS.ifNo X23.here hx rfl (hb hby d3_27) rfl ((if0 _ _).trans (feq (hh1 : ¬ (p5 = (0 : Int32)))).1) k) ?_
      refine own_by (S' := (T23.setTop (mkF m 31 #[.val (.ref a1), .val (.int p0), .val (.int p1), .val (.int p2), .val (.int p3), .val (.int p4), .val (.int p5)] [(.ref a1)]))) (fun _ k => XS.aloadN X23.here hx rfl (hb hby d3_30) rfl rfl k) ?_
      refine own_by (S' := (T23.setTop (mkF m 32 #[.val (.ref a1), .val (.int p0), .val (.int p1), .val (.int p2), .val (.int p3), .val (.int p4), .val (.int p5)] [(.ref a1), (.ref a1)]))) (fun _ k => XS.dup X23.here hx rfl (hb hby d3_31) rfl rfl k) ?_
      obtain ⟨T32, X32, e32, st32⟩ := getF X23 hx hZ hown (host := "") (Or.inl (hw _ (List.mem_of_getElem? (i := 18) rfl))) Via.refl e23 F_mHotHistory (g := (mkF m 32 #[.val (.ref a1), .val (.int p0), .val (.int p1), .val (.int p2), .val (.int p3), .val (.int p4), .val (.int p5)] [(.ref a1), (.ref a1)])) rfl rfl (hb hby d3_32)
      refine own_by (S' := (T32.setTop (mkF m 35 #[.val (.ref a1), .val (.int p0), .val (.int p1), .val (.int p2), .val (.int p3), .val (.int p4), .val (.int p5)] [(.long q2), (.ref a1)]))) st32 ?_
      refine own_by (S' := (T32.setTop (mkF m 36 #[.val (.ref a1), .val (.int p0), .val (.int p1), .val (.int p2), .val (.int p3), .val (.int p4), .val (.int p5)] [(.long (1 : Int64)), (.long q2), (.ref a1)]))) (fun _ k => XS.lconst X32.here hx rfl (hb hby d3_35) k) ?_
      refine own_by (S' := (T32.setTop (mkF m 37 #[.val (.ref a1), .val (.int p0), .val (.int p1), .val (.int p2), .val (.int p3), .val (.int p4), .val (.int p5)] [(.long (q2 + (1 : Int64))), (.ref a1)]))) (fun _ k => XS.ladd X32.here hx rfl (hb hby d3_36) rfl k) ?_
      obtain ⟨T33, h33, X33, e33, W33, st33⟩ := putF X32 hx hZ hown (host := "") (Or.inl (hw _ (List.mem_of_getElem? (i := 18) rfl))) Via.refl e32 F_mHotHistory E_a1 (Or.inl (hw _ (List.mem_of_getElem? (i := 19) rfl))) (hw _ (List.mem_of_getElem? (i := 1) rfl)) (ty := .long) (by decide) rfl rfl (g := (mkF m 37 #[.val (.ref a1), .val (.int p0), .val (.int p1), .val (.int p2), .val (.int p3), .val (.int p4), .val (.int p5)] [(.long (q2 + (1 : Int64))), (.ref a1)])) rfl rfl (hb hby d3_37)
      have N := Fr.snoc X33 N o_a1
      have E_a1 := E_a1.wr W33
      have F_mTransactions := F_mTransactions.other W33 (Or.inr (slot_ne (Or.inl (hw _ (List.mem_of_getElem? (i := 15) rfl))) (Or.inl (hw _ (List.mem_of_getElem? (i := 19) rfl))) (by decide) (t := .long) (t' := .long) (by decide) (by decide)))
      have F_mWitnessTransactions := F_mWitnessTransactions.other W33 (Or.inr (slot_ne (Or.inl (hw _ (List.mem_of_getElem? (i := 17) rfl))) (Or.inl (hw _ (List.mem_of_getElem? (i := 19) rfl))) (by decide) (t := .long) (t' := .long) (by decide) (by decide)))
      have F_mHotHistory := F_mHotHistory.same W33
      have F_mInputs := F_mInputs.other W33 (Or.inr (slot_ne (Or.inl (hw _ (List.mem_of_getElem? (i := 21) rfl))) (Or.inl (hw _ (List.mem_of_getElem? (i := 19) rfl))) (by decide) (t := .long) (t' := .long) (by decide) (by decide)))
      have F_mOldInputs := F_mOldInputs.other W33 (Or.inr (slot_ne (Or.inl (hw _ (List.mem_of_getElem? (i := 23) rfl))) (Or.inl (hw _ (List.mem_of_getElem? (i := 19) rfl))) (by decide) (t := .long) (t' := .long) (by decide) (by decide)))
      have F_mOutputs := F_mOutputs.other W33 (Or.inr (slot_ne (Or.inl (hw _ (List.mem_of_getElem? (i := 25) rfl))) (Or.inl (hw _ (List.mem_of_getElem? (i := 19) rfl))) (by decide) (t := .long) (t' := .long) (by decide) (by decide)))
      have F_mOpReturnOutputs := F_mOpReturnOutputs.other W33 (Or.inr (slot_ne (Or.inl (hw _ (List.mem_of_getElem? (i := 27) rfl))) (Or.inl (hw _ (List.mem_of_getElem? (i := 19) rfl))) (by decide) (t := .long) (t' := .long) (by decide) (by decide)))
      have F_mBlocks := F_mBlocks.other W33 (Or.inr (slot_ne (Or.inl (hw _ (List.mem_of_getElem? (i := 74) rfl))) (Or.inl (hw _ (List.mem_of_getElem? (i := 19) rfl))) (by decide) (t := .int) (t' := .long) (by decide) (by decide)))
      have F_mDistinctScripts := F_mDistinctScripts.other W33 (Or.inr (slot_ne (Or.inl (hw _ (List.mem_of_getElem? (i := 81) rfl))) (Or.inl (hw _ (List.mem_of_getElem? (i := 19) rfl))) (by decide) (t := .long) (t' := .long) (by decide) (by decide)))
      have Zn : n0 ≤ _ := Nat.le_trans Zn (Nat.le_of_eq W33.size.symm)
      have K := K.wr W33 (Or.inl (List.mem_of_getElem? (i := 0) rfl))
      refine own_by (S' := (T33.setTop (mkF m 40 #[.val (.ref a1), .val (.int p0), .val (.int p1), .val (.int p2), .val (.int p3), .val (.int p4), .val (.int p5)] []))) st33 ?_
      refine own_by (S' := (T33.setTop (mkF m 41 #[.val (.ref a1), .val (.int p0), .val (.int p1), .val (.int p2), .val (.int p3), .val (.int p4), .val (.int p5)] [(.ref a1)]))) (fun _ k => XS.aloadN X33.here hx rfl (hb hby d3_40) rfl rfl k) ?_
      refine own_by (S' := (T33.setTop (mkF m 42 #[.val (.ref a1), .val (.int p0), .val (.int p1), .val (.int p2), .val (.int p3), .val (.int p4), .val (.int p5)] [(.ref a1), (.ref a1)]))) (fun _ k => XS.dup X33.here hx rfl (hb hby d3_41) rfl rfl k) ?_
      obtain ⟨T34, X34, e34, st34⟩ := getF X33 hx hZ hown (host := "") (Or.inl (hw _ (List.mem_of_getElem? (i := 20) rfl))) Via.refl e33 F_mInputs (g := (mkF m 42 #[.val (.ref a1), .val (.int p0), .val (.int p1), .val (.int p2), .val (.int p3), .val (.int p4), .val (.int p5)] [(.ref a1), (.ref a1)])) rfl rfl (hb hby d3_42)
      refine own_by (S' := (T34.setTop (mkF m 45 #[.val (.ref a1), .val (.int p0), .val (.int p1), .val (.int p2), .val (.int p3), .val (.int p4), .val (.int p5)] [(.long q3), (.ref a1)]))) st34 ?_
      refine own_by (S' := (T34.setTop (mkF m 46 #[.val (.ref a1), .val (.int p0), .val (.int p1), .val (.int p2), .val (.int p3), .val (.int p4), .val (.int p5)] [(.int p0), (.long q3), (.ref a1)]))) (fun _ k => XS.iloadN X34.here hx rfl (hb hby d3_45) rfl k) ?_
      refine own_by (S' := (T34.setTop (mkF m 47 #[.val (.ref a1), .val (.int p0), .val (.int p1), .val (.int p2), .val (.int p3), .val (.int p4), .val (.int p5)] [(.long (p0.toInt64)), (.long q3), (.ref a1)]))) (fun _ k => XS.i2l X34.here hx rfl (hb hby d3_46) rfl k) ?_
      refine own_by (S' := (T34.setTop (mkF m 48 #[.val (.ref a1), .val (.int p0), .val (.int p1), .val (.int p2), .val (.int p3), .val (.int p4), .val (.int p5)] [(.long (q3 + (p0.toInt64))), (.ref a1)]))) (fun _ k => XS.ladd X34.here hx rfl (hb hby d3_47) rfl k) ?_
      obtain ⟨T35, h35, X35, e35, W35, st35⟩ := putF X34 hx hZ hown (host := "") (Or.inl (hw _ (List.mem_of_getElem? (i := 20) rfl))) Via.refl e34 F_mInputs E_a1 (Or.inl (hw _ (List.mem_of_getElem? (i := 21) rfl))) (hw _ (List.mem_of_getElem? (i := 1) rfl)) (ty := .long) (by decide) rfl rfl (g := (mkF m 48 #[.val (.ref a1), .val (.int p0), .val (.int p1), .val (.int p2), .val (.int p3), .val (.int p4), .val (.int p5)] [(.long (q3 + (p0.toInt64))), (.ref a1)])) rfl rfl (hb hby d3_48)
      have N := Fr.snoc X35 N o_a1
      have E_a1 := E_a1.wr W35
      have F_mTransactions := F_mTransactions.other W35 (Or.inr (slot_ne (Or.inl (hw _ (List.mem_of_getElem? (i := 15) rfl))) (Or.inl (hw _ (List.mem_of_getElem? (i := 21) rfl))) (by decide) (t := .long) (t' := .long) (by decide) (by decide)))
      have F_mWitnessTransactions := F_mWitnessTransactions.other W35 (Or.inr (slot_ne (Or.inl (hw _ (List.mem_of_getElem? (i := 17) rfl))) (Or.inl (hw _ (List.mem_of_getElem? (i := 21) rfl))) (by decide) (t := .long) (t' := .long) (by decide) (by decide)))
      have F_mHotHistory := F_mHotHistory.other W35 (Or.inr (slot_ne (Or.inl (hw _ (List.mem_of_getElem? (i := 19) rfl))) (Or.inl (hw _ (List.mem_of_getElem? (i := 21) rfl))) (by decide) (t := .long) (t' := .long) (by decide) (by decide)))
      have F_mInputs := F_mInputs.same W35
      have F_mOldInputs := F_mOldInputs.other W35 (Or.inr (slot_ne (Or.inl (hw _ (List.mem_of_getElem? (i := 23) rfl))) (Or.inl (hw _ (List.mem_of_getElem? (i := 21) rfl))) (by decide) (t := .long) (t' := .long) (by decide) (by decide)))
      have F_mOutputs := F_mOutputs.other W35 (Or.inr (slot_ne (Or.inl (hw _ (List.mem_of_getElem? (i := 25) rfl))) (Or.inl (hw _ (List.mem_of_getElem? (i := 21) rfl))) (by decide) (t := .long) (t' := .long) (by decide) (by decide)))
      have F_mOpReturnOutputs := F_mOpReturnOutputs.other W35 (Or.inr (slot_ne (Or.inl (hw _ (List.mem_of_getElem? (i := 27) rfl))) (Or.inl (hw _ (List.mem_of_getElem? (i := 21) rfl))) (by decide) (t := .long) (t' := .long) (by decide) (by decide)))
      have F_mBlocks := F_mBlocks.other W35 (Or.inr (slot_ne (Or.inl (hw _ (List.mem_of_getElem? (i := 74) rfl))) (Or.inl (hw _ (List.mem_of_getElem? (i := 21) rfl))) (by decide) (t := .int) (t' := .long) (by decide) (by decide)))
      have F_mDistinctScripts := F_mDistinctScripts.other W35 (Or.inr (slot_ne (Or.inl (hw _ (List.mem_of_getElem? (i := 81) rfl))) (Or.inl (hw _ (List.mem_of_getElem? (i := 21) rfl))) (by decide) (t := .long) (t' := .long) (by decide) (by decide)))
      have Zn : n0 ≤ _ := Nat.le_trans Zn (Nat.le_of_eq W35.size.symm)
      have K := K.wr W35 (Or.inl (List.mem_of_getElem? (i := 0) rfl))
      refine own_by (S' := (T35.setTop (mkF m 51 #[.val (.ref a1), .val (.int p0), .val (.int p1), .val (.int p2), .val (.int p3), .val (.int p4), .val (.int p5)] []))) st35 ?_
      refine own_by (S' := (T35.setTop (mkF m 52 #[.val (.ref a1), .val (.int p0), .val (.int p1), .val (.int p2), .val (.int p3), .val (.int p4), .val (.int p5)] [(.ref a1)]))) (fun _ k => XS.aloadN X35.here hx rfl (hb hby d3_51) rfl rfl k) ?_
      refine own_by (S' := (T35.setTop (mkF m 53 #[.val (.ref a1), .val (.int p0), .val (.int p1), .val (.int p2), .val (.int p3), .val (.int p4), .val (.int p5)] [(.ref a1), (.ref a1)]))) (fun _ k => XS.dup X35.here hx rfl (hb hby d3_52) rfl rfl k) ?_
      obtain ⟨T36, X36, e36, st36⟩ := getF X35 hx hZ hown (host := "") (Or.inl (hw _ (List.mem_of_getElem? (i := 22) rfl))) Via.refl e35 F_mOldInputs (g := (mkF m 53 #[.val (.ref a1), .val (.int p0), .val (.int p1), .val (.int p2), .val (.int p3), .val (.int p4), .val (.int p5)] [(.ref a1), (.ref a1)])) rfl rfl (hb hby d3_53)
      refine own_by (S' := (T36.setTop (mkF m 56 #[.val (.ref a1), .val (.int p0), .val (.int p1), .val (.int p2), .val (.int p3), .val (.int p4), .val (.int p5)] [(.long q4), (.ref a1)]))) st36 ?_
      refine own_by (S' := (T36.setTop (mkF m 57 #[.val (.ref a1), .val (.int p0), .val (.int p1), .val (.int p2), .val (.int p3), .val (.int p4), .val (.int p5)] [(.int p1), (.long q4), (.ref a1)]))) (fun _ k => XS.iloadN X36.here hx rfl (hb hby d3_56) rfl k) ?_
      refine own_by (S' := (T36.setTop (mkF m 58 #[.val (.ref a1), .val (.int p0), .val (.int p1), .val (.int p2), .val (.int p3), .val (.int p4), .val (.int p5)] [(.long (p1.toInt64)), (.long q4), (.ref a1)]))) (fun _ k => XS.i2l X36.here hx rfl (hb hby d3_57) rfl k) ?_
      refine own_by (S' := (T36.setTop (mkF m 59 #[.val (.ref a1), .val (.int p0), .val (.int p1), .val (.int p2), .val (.int p3), .val (.int p4), .val (.int p5)] [(.long (q4 + (p1.toInt64))), (.ref a1)]))) (fun _ k => XS.ladd X36.here hx rfl (hb hby d3_58) rfl k) ?_
      obtain ⟨T37, h37, X37, e37, W37, st37⟩ := putF X36 hx hZ hown (host := "") (Or.inl (hw _ (List.mem_of_getElem? (i := 22) rfl))) Via.refl e36 F_mOldInputs E_a1 (Or.inl (hw _ (List.mem_of_getElem? (i := 23) rfl))) (hw _ (List.mem_of_getElem? (i := 1) rfl)) (ty := .long) (by decide) rfl rfl (g := (mkF m 59 #[.val (.ref a1), .val (.int p0), .val (.int p1), .val (.int p2), .val (.int p3), .val (.int p4), .val (.int p5)] [(.long (q4 + (p1.toInt64))), (.ref a1)])) rfl rfl (hb hby d3_59)
      have N := Fr.snoc X37 N o_a1
      have E_a1 := E_a1.wr W37
      have F_mTransactions := F_mTransactions.other W37 (Or.inr (slot_ne (Or.inl (hw _ (List.mem_of_getElem? (i := 15) rfl))) (Or.inl (hw _ (List.mem_of_getElem? (i := 23) rfl))) (by decide) (t := .long) (t' := .long) (by decide) (by decide)))
      have F_mWitnessTransactions := F_mWitnessTransactions.other W37 (Or.inr (slot_ne (Or.inl (hw _ (List.mem_of_getElem? (i := 17) rfl))) (Or.inl (hw _ (List.mem_of_getElem? (i := 23) rfl))) (by decide) (t := .long) (t' := .long) (by decide) (by decide)))
      have F_mHotHistory := F_mHotHistory.other W37 (Or.inr (slot_ne (Or.inl (hw _ (List.mem_of_getElem? (i := 19) rfl))) (Or.inl (hw _ (List.mem_of_getElem? (i := 23) rfl))) (by decide) (t := .long) (t' := .long) (by decide) (by decide)))
      have F_mInputs := F_mInputs.other W37 (Or.inr (slot_ne (Or.inl (hw _ (List.mem_of_getElem? (i := 21) rfl))) (Or.inl (hw _ (List.mem_of_getElem? (i := 23) rfl))) (by decide) (t := .long) (t' := .long) (by decide) (by decide)))
      have F_mOldInputs := F_mOldInputs.same W37
      have F_mOutputs := F_mOutputs.other W37 (Or.inr (slot_ne (Or.inl (hw _ (List.mem_of_getElem? (i := 25) rfl))) (Or.inl (hw _ (List.mem_of_getElem? (i := 23) rfl))) (by decide) (t := .long) (t' := .long) (by decide) (by decide)))
      have F_mOpReturnOutputs := F_mOpReturnOutputs.other W37 (Or.inr (slot_ne (Or.inl (hw _ (List.mem_of_getElem? (i := 27) rfl))) (Or.inl (hw _ (List.mem_of_getElem? (i := 23) rfl))) (by decide) (t := .long) (t' := .long) (by decide) (by decide)))
      have F_mBlocks := F_mBlocks.other W37 (Or.inr (slot_ne (Or.inl (hw _ (List.mem_of_getElem? (i := 74) rfl))) (Or.inl (hw _ (List.mem_of_getElem? (i := 23) rfl))) (by decide) (t := .int) (t' := .long) (by decide) (by decide)))
      have F_mDistinctScripts := F_mDistinctScripts.other W37 (Or.inr (slot_ne (Or.inl (hw _ (List.mem_of_getElem? (i := 81) rfl))) (Or.inl (hw _ (List.mem_of_getElem? (i := 23) rfl))) (by decide) (t := .long) (t' := .long) (by decide) (by decide)))
      have Zn : n0 ≤ _ := Nat.le_trans Zn (Nat.le_of_eq W37.size.symm)
      have K := K.wr W37 (Or.inl (List.mem_of_getElem? (i := 0) rfl))
      refine own_by (S' := (T37.setTop (mkF m 62 #[.val (.ref a1), .val (.int p0), .val (.int p1), .val (.int p2), .val (.int p3), .val (.int p4), .val (.int p5)] []))) st37 ?_
      refine own_by (S' := (T37.setTop (mkF m 63 #[.val (.ref a1), .val (.int p0), .val (.int p1), .val (.int p2), .val (.int p3), .val (.int p4), .val (.int p5)] [(.ref a1)]))) (fun _ k => XS.aloadN X37.here hx rfl (hb hby d3_62) rfl rfl k) ?_
      refine own_by (S' := (T37.setTop (mkF m 64 #[.val (.ref a1), .val (.int p0), .val (.int p1), .val (.int p2), .val (.int p3), .val (.int p4), .val (.int p5)] [(.ref a1), (.ref a1)]))) (fun _ k => XS.dup X37.here hx rfl (hb hby d3_63) rfl rfl k) ?_
      obtain ⟨T38, X38, e38, st38⟩ := getF X37 hx hZ hown (host := "") (Or.inl (hw _ (List.mem_of_getElem? (i := 24) rfl))) Via.refl e37 F_mOutputs (g := (mkF m 64 #[.val (.ref a1), .val (.int p0), .val (.int p1), .val (.int p2), .val (.int p3), .val (.int p4), .val (.int p5)] [(.ref a1), (.ref a1)])) rfl rfl (hb hby d3_64)
      refine own_by (S' := (T38.setTop (mkF m 67 #[.val (.ref a1), .val (.int p0), .val (.int p1), .val (.int p2), .val (.int p3), .val (.int p4), .val (.int p5)] [(.long q5), (.ref a1)]))) st38 ?_
      refine own_by (S' := (T38.setTop (mkF m 68 #[.val (.ref a1), .val (.int p0), .val (.int p1), .val (.int p2), .val (.int p3), .val (.int p4), .val (.int p5)] [(.int p2), (.long q5), (.ref a1)]))) (fun _ k => XS.iloadN X38.here hx rfl (hb hby d3_67) rfl k) ?_
      refine own_by (S' := (T38.setTop (mkF m 69 #[.val (.ref a1), .val (.int p0), .val (.int p1), .val (.int p2), .val (.int p3), .val (.int p4), .val (.int p5)] [(.long (p2.toInt64)), (.long q5), (.ref a1)]))) (fun _ k => XS.i2l X38.here hx rfl (hb hby d3_68) rfl k) ?_
      refine own_by (S' := (T38.setTop (mkF m 70 #[.val (.ref a1), .val (.int p0), .val (.int p1), .val (.int p2), .val (.int p3), .val (.int p4), .val (.int p5)] [(.long (q5 + (p2.toInt64))), (.ref a1)]))) (fun _ k => XS.ladd X38.here hx rfl (hb hby d3_69) rfl k) ?_
      obtain ⟨T39, h39, X39, e39, W39, st39⟩ := putF X38 hx hZ hown (host := "") (Or.inl (hw _ (List.mem_of_getElem? (i := 24) rfl))) Via.refl e38 F_mOutputs E_a1 (Or.inl (hw _ (List.mem_of_getElem? (i := 25) rfl))) (hw _ (List.mem_of_getElem? (i := 1) rfl)) (ty := .long) (by decide) rfl rfl (g := (mkF m 70 #[.val (.ref a1), .val (.int p0), .val (.int p1), .val (.int p2), .val (.int p3), .val (.int p4), .val (.int p5)] [(.long (q5 + (p2.toInt64))), (.ref a1)])) rfl rfl (hb hby d3_70)
      have N := Fr.snoc X39 N o_a1
      have E_a1 := E_a1.wr W39
      have F_mTransactions := F_mTransactions.other W39 (Or.inr (slot_ne (Or.inl (hw _ (List.mem_of_getElem? (i := 15) rfl))) (Or.inl (hw _ (List.mem_of_getElem? (i := 25) rfl))) (by decide) (t := .long) (t' := .long) (by decide) (by decide)))
      have F_mWitnessTransactions := F_mWitnessTransactions.other W39 (Or.inr (slot_ne (Or.inl (hw _ (List.mem_of_getElem? (i := 17) rfl))) (Or.inl (hw _ (List.mem_of_getElem? (i := 25) rfl))) (by decide) (t := .long) (t' := .long) (by decide) (by decide)))
      have F_mHotHistory := F_mHotHistory.other W39 (Or.inr (slot_ne (Or.inl (hw _ (List.mem_of_getElem? (i := 19) rfl))) (Or.inl (hw _ (List.mem_of_getElem? (i := 25) rfl))) (by decide) (t := .long) (t' := .long) (by decide) (by decide)))
      have F_mInputs := F_mInputs.other W39 (Or.inr (slot_ne (Or.inl (hw _ (List.mem_of_getElem? (i := 21) rfl))) (Or.inl (hw _ (List.mem_of_getElem? (i := 25) rfl))) (by decide) (t := .long) (t' := .long) (by decide) (by decide)))
      have F_mOldInputs := F_mOldInputs.other W39 (Or.inr (slot_ne (Or.inl (hw _ (List.mem_of_getElem? (i := 23) rfl))) (Or.inl (hw _ (List.mem_of_getElem? (i := 25) rfl))) (by decide) (t := .long) (t' := .long) (by decide) (by decide)))
      have F_mOutputs := F_mOutputs.same W39
      have F_mOpReturnOutputs := F_mOpReturnOutputs.other W39 (Or.inr (slot_ne (Or.inl (hw _ (List.mem_of_getElem? (i := 27) rfl))) (Or.inl (hw _ (List.mem_of_getElem? (i := 25) rfl))) (by decide) (t := .long) (t' := .long) (by decide) (by decide)))
      have F_mBlocks := F_mBlocks.other W39 (Or.inr (slot_ne (Or.inl (hw _ (List.mem_of_getElem? (i := 74) rfl))) (Or.inl (hw _ (List.mem_of_getElem? (i := 25) rfl))) (by decide) (t := .int) (t' := .long) (by decide) (by decide)))
      have F_mDistinctScripts := F_mDistinctScripts.other W39 (Or.inr (slot_ne (Or.inl (hw _ (List.mem_of_getElem? (i := 81) rfl))) (Or.inl (hw _ (List.mem_of_getElem? (i := 25) rfl))) (by decide) (t := .long) (t' := .long) (by decide) (by decide)))
      have Zn : n0 ≤ _ := Nat.le_trans Zn (Nat.le_of_eq W39.size.symm)
      have K := K.wr W39 (Or.inl (List.mem_of_getElem? (i := 0) rfl))
      refine own_by (S' := (T39.setTop (mkF m 73 #[.val (.ref a1), .val (.int p0), .val (.int p1), .val (.int p2), .val (.int p3), .val (.int p4), .val (.int p5)] []))) st39 ?_
      refine own_by (S' := (T39.setTop (mkF m 74 #[.val (.ref a1), .val (.int p0), .val (.int p1), .val (.int p2), .val (.int p3), .val (.int p4), .val (.int p5)] [(.ref a1)]))) (fun _ k => XS.aloadN X39.here hx rfl (hb hby d3_73) rfl rfl k) ?_
      refine own_by (S' := (T39.setTop (mkF m 75 #[.val (.ref a1), .val (.int p0), .val (.int p1), .val (.int p2), .val (.int p3), .val (.int p4), .val (.int p5)] [(.ref a1), (.ref a1)]))) (fun _ k => XS.dup X39.here hx rfl (hb hby d3_74) rfl rfl k) ?_
      obtain ⟨T40, X40, e40, st40⟩ := getF X39 hx hZ hown (host := "") (Or.inl (hw _ (List.mem_of_getElem? (i := 26) rfl))) Via.refl e39 F_mOpReturnOutputs (g := (mkF m 75 #[.val (.ref a1), .val (.int p0), .val (.int p1), .val (.int p2), .val (.int p3), .val (.int p4), .val (.int p5)] [(.ref a1), (.ref a1)])) rfl rfl (hb hby d3_75)
      refine own_by (S' := (T40.setTop (mkF m 78 #[.val (.ref a1), .val (.int p0), .val (.int p1), .val (.int p2), .val (.int p3), .val (.int p4), .val (.int p5)] [(.long q6), (.ref a1)]))) st40 ?_
      refine own_by (S' := (T40.setTop (mkF m 80 #[.val (.ref a1), .val (.int p0), .val (.int p1), .val (.int p2), .val (.int p3), .val (.int p4), .val (.int p5)] [(.int p3), (.long q6), (.ref a1)]))) (fun _ k => XS.iload X40.here hx rfl (hb hby d3_78) rfl k) ?_
      refine own_by (S' := (T40.setTop (mkF m 81 #[.val (.ref a1), .val (.int p0), .val (.int p1), .val (.int p2), .val (.int p3), .val (.int p4), .val (.int p5)] [(.long (p3.toInt64)), (.long q6), (.ref a1)]))) (fun _ k => XS.i2l X40.here hx rfl (hb hby d3_80) rfl k) ?_
      refine own_by (S' := (T40.setTop (mkF m 82 #[.val (.ref a1), .val (.int p0), .val (.int p1), .val (.int p2), .val (.int p3), .val (.int p4), .val (.int p5)] [(.long (q6 + (p3.toInt64))), (.ref a1)]))) (fun _ k => XS.ladd X40.here hx rfl (hb hby d3_81) rfl k) ?_
      obtain ⟨T41, h41, X41, e41, W41, st41⟩ := putF X40 hx hZ hown (host := "") (Or.inl (hw _ (List.mem_of_getElem? (i := 26) rfl))) Via.refl e40 F_mOpReturnOutputs E_a1 (Or.inl (hw _ (List.mem_of_getElem? (i := 27) rfl))) (hw _ (List.mem_of_getElem? (i := 1) rfl)) (ty := .long) (by decide) rfl rfl (g := (mkF m 82 #[.val (.ref a1), .val (.int p0), .val (.int p1), .val (.int p2), .val (.int p3), .val (.int p4), .val (.int p5)] [(.long (q6 + (p3.toInt64))), (.ref a1)])) rfl rfl (hb hby d3_82)
      have N := Fr.snoc X41 N o_a1
      have E_a1 := E_a1.wr W41
      have F_mTransactions := F_mTransactions.other W41 (Or.inr (slot_ne (Or.inl (hw _ (List.mem_of_getElem? (i := 15) rfl))) (Or.inl (hw _ (List.mem_of_getElem? (i := 27) rfl))) (by decide) (t := .long) (t' := .long) (by decide) (by decide)))
      have F_mWitnessTransactions := F_mWitnessTransactions.other W41 (Or.inr (slot_ne (Or.inl (hw _ (List.mem_of_getElem? (i := 17) rfl))) (Or.inl (hw _ (List.mem_of_getElem? (i := 27) rfl))) (by decide) (t := .long) (t' := .long) (by decide) (by decide)))
      have F_mHotHistory := F_mHotHistory.other W41 (Or.inr (slot_ne (Or.inl (hw _ (List.mem_of_getElem? (i := 19) rfl))) (Or.inl (hw _ (List.mem_of_getElem? (i := 27) rfl))) (by decide) (t := .long) (t' := .long) (by decide) (by decide)))
      have F_mInputs := F_mInputs.other W41 (Or.inr (slot_ne (Or.inl (hw _ (List.mem_of_getElem? (i := 21) rfl))) (Or.inl (hw _ (List.mem_of_getElem? (i := 27) rfl))) (by decide) (t := .long) (t' := .long) (by decide) (by decide)))
      have F_mOldInputs := F_mOldInputs.other W41 (Or.inr (slot_ne (Or.inl (hw _ (List.mem_of_getElem? (i := 23) rfl))) (Or.inl (hw _ (List.mem_of_getElem? (i := 27) rfl))) (by decide) (t := .long) (t' := .long) (by decide) (by decide)))
      have F_mOutputs := F_mOutputs.other W41 (Or.inr (slot_ne (Or.inl (hw _ (List.mem_of_getElem? (i := 25) rfl))) (Or.inl (hw _ (List.mem_of_getElem? (i := 27) rfl))) (by decide) (t := .long) (t' := .long) (by decide) (by decide)))
      have F_mOpReturnOutputs := F_mOpReturnOutputs.same W41
      have F_mBlocks := F_mBlocks.other W41 (Or.inr (slot_ne (Or.inl (hw _ (List.mem_of_getElem? (i := 74) rfl))) (Or.inl (hw _ (List.mem_of_getElem? (i := 27) rfl))) (by decide) (t := .int) (t' := .long) (by decide) (by decide)))
      have F_mDistinctScripts := F_mDistinctScripts.other W41 (Or.inr (slot_ne (Or.inl (hw _ (List.mem_of_getElem? (i := 81) rfl))) (Or.inl (hw _ (List.mem_of_getElem? (i := 27) rfl))) (by decide) (t := .long) (t' := .long) (by decide) (by decide)))
      have Zn : n0 ≤ _ := Nat.le_trans Zn (Nat.le_of_eq W41.size.symm)
      have K := K.wr W41 (Or.inl (List.mem_of_getElem? (i := 0) rfl))
      refine own_by (S' := (T41.setTop (mkF m 85 #[.val (.ref a1), .val (.int p0), .val (.int p1), .val (.int p2), .val (.int p3), .val (.int p4), .val (.int p5)] []))) st41 ?_
      exact own_ret0 X41 hx Bd.returns (hb hby d3_85) hlk (by decide : 0 ≤ _) (by decide : 0 ≤ _) (by rw [e41]; exact ⟨rfl, N, K, F_mTransactions, by rw [own_b1 hw1]; exact F_mWitnessTransactions, by rw [own_b1 hh1]; exact F_mHotHistory, F_mInputs, F_mOldInputs, F_mOutputs, F_mOpReturnOutputs, F_mBlocks, F_mDistinctScripts⟩)
theorem d4_0 : decode method_2_code 0 = .ok (.iload_n 0, 1) := by decide +kernel
theorem d4_1 : decode method_2_code 1 = .ok (.ifCond .eq 7, 3) := by decide +kernel
theorem d4_4 : decode method_2_code 4 = .ok (.lconst 1, 1) := by decide +kernel
theorem d4_5 : decode method_2_code 5 = .ok (.goto 4, 3) := by decide +kernel
theorem d4_8 : decode method_2_code 8 = .ok (.lconst 0, 1) := by decide +kernel
theorem d4_9 : decode method_2_code 9 = .ok (.lreturn, 1) := by decide +kernel
theorem pn_4 : plainName "com/example/veindb/veindb/bench/MadeChainCountTransactionPinLaw" = true := by first | (simp [plainName, overriddenIn]; done) | decide +kernel
theorem ef_rm4 (m : MethodId) (x0 : Int32) : entryFrame m #[(.int x0)] 1 = mkF m 0 #[.val (.int x0)] [] := by first | (simp [entryFrame, mkF, argsToLocals, Value.category]; done) | rfl
def Q_rm4 (Z : State) (p1 : Int32) (h0 : Heap) (n0 : Nat) (v : Option Value) (h : Heap) (L : List Loc) : Prop := v = some (.long (own_b p1)) ∧ Fr n0 L ∧ h = h0
set_option maxRecDepth 65536 in
set_option maxHeartbeats 40000000 in
theorem rm4 (l : Launch) (Z : State) (a0 : Array Value) (hw : ∀ d ∈ tables_1, d.before a0 Z = true) (ws : List Jvm.Cond) (p1 : Int32) (h0 : Heap) (n0 : Nat) (Zn : n0 ≤ h0.size) :
    MetFree l (⟨"com/example/veindb/veindb/bench/MadeChainCountTransactionPinLaw", "bit", "(Z)J"⟩ : MethodName) (head1 (Jvm.Cond.code (⟨"com/example/veindb/veindb/bench/MadeChainCountTransactionPinLaw", "bit", "(Z)J"⟩ : MethodName) method_2_code 1 (some .long) :: ws) ({ frames := 0, cells := 0, slots := 0, locals := 0 } : Room)) (fun a U => a = #[(.int p1)] ∧ Z.Warmed39 U.vm ∧ U.heap = h0) (fun _ _ _ _ _ => True) (fun _ U o U' => ∃ v L, o = .returned v ∧ (Q_rm4 Z p1 h0 n0) v U'.heap L ∧ FrameEnd U o U' L ({ frames := 0, cells := 0, slots := 0, locals := 0 } : Room).cells ({ frames := 0, cells := 0, slots := 0, locals := 0 } : Room).slots) := by
  refine MetFree.of_bodySF (plainFor_of_name pn_4) hisR ?_
  intro p e s m args below meth c s₁ Bd hml0 hP hK
  obtain ⟨rfl, hZ, hh⟩ := hP
  have hx := Bd.exec
  have hby := Bd.bytes
  have hml : c.maxLocals = 1 := hml0
  have hown : s.vm.findClass "com/example/veindb/veindb/bench/MadeChainCountTransactionPinLaw" = some m.cls := findClass_of_methodNamed Bd.named
  have hnm := (name_of_methodNamed Bd.named Bd.method).1
  have hlk : meth.locks = false := BodyLoose.notSynchronized Bd
  have X0 : Stand p l e ({ frames := 0, cells := 0, slots := 0, locals := 0 } : Room) s m #[(.int p1)] below meth c s₁ [] 0 0 := Stand.of_body Bd
  have e0 : s₁.heap = h0 := by rw [← hh, Bd.state]; rfl
  have N := Fr.nil n0
  have K := Keep.refl h0 []
  refine own_start (cl := ({ frames := 0, cells := 0, slots := 0, locals := 0 } : Room).cells) (sl := ({ frames := 0, cells := 0, slots := 0, locals := 0 } : Room).slots) (Q := (Q_rm4 Z p1 h0 n0)) (ef_rm4 m p1) ?_
  refine own_by (S' := (s₁.setTop (mkF m 1 #[.val (.int p1)] [(.int p1)]))) (fun _ k => XS.iloadN X0.here hx rfl (hb hby d4_0) rfl k) ?_
  by_cases hc1 : p1 = (0 : Int32)
  · refine own_by (S' := (s₁.setTop (mkF m 8 #[.val (.int p1)] []))) (fun _ k => XS.ifYes X0.here hx rfl (pc0 := 1) (pc' := 8) rfl (hb hby d4_1) rfl ((if0 _ _).trans (teq (hc1 : p1 = (0 : Int32))).1) (by decide) (by decide) k) ?_
    refine own_by (S' := (s₁.setTop (mkF m 9 #[.val (.int p1)] [(.long (0 : Int64))]))) (fun _ k => XS.lconst X0.here hx rfl (hb hby d4_8) k) ?_
    exact own_ret X0 hx (t := .long) Bd.returns rfl (Or.inr (Or.inl ⟨rfl, rfl, _, rfl⟩)) (hb hby d4_9) hlk (by decide : 0 ≤ _) (by decide : 0 ≤ _) (by rw [e0]; exact ⟨by rw [own_b0 hc1], N, rfl⟩)
  · refine own_by (S' := (s₁.setTop (mkF m 4 #[.val (.int p1)] []))) (fun _ k => XS.ifNo X0.here hx rfl (hb hby d4_1) rfl ((if0 _ _).trans (feq (hc1 : ¬ (p1 = (0 : Int32)))).1) k) ?_
    refine own_by (S' := (s₁.setTop (mkF m 5 #[.val (.int p1)] [(.long (1 : Int64))]))) (fun _ k => XS.lconst X0.here hx rfl (hb hby d4_4) k) ?_
    refine own_by (S' := (s₁.setTop (mkF m 9 #[.val (.int p1)] [(.long (1 : Int64))]))) (fun _ k => XS.goto X0.here hx rfl (pc0 := 5) (pc' := 9) rfl (hb hby d4_5) (by decide) (by decide) k) ?_
    exact own_ret X0 hx (t := .long) Bd.returns rfl (Or.inr (Or.inl ⟨rfl, rfl, _, rfl⟩)) (hb hby d4_9) hlk (by decide : 0 ≤ _) (by decide : 0 ≤ _) (by rw [e0]; exact ⟨by rw [own_b1 hc1], N, rfl⟩)
theorem d5_0 : decode prog_3_method_4_code 0 = .ok (.aload_n 0, 1) := by decide +kernel
theorem d5_1 : decode prog_3_method_4_code 1 = .ok (.getfield 7, 3) := by decide +kernel
theorem d5_4 : decode prog_3_method_4_code 4 = .ok (.lreturn, 1) := by decide +kernel
theorem pn_5 : plainName "com/example/veindb/veindb/bench/MadeChain" = true := by first | (simp [plainName, overriddenIn]; done) | decide +kernel
theorem ef_rm5 (m : MethodId) (x0 : Addr) : entryFrame m #[(.ref x0)] 1 = mkF m 0 #[.val (.ref x0)] [] := by first | (simp [entryFrame, mkF, argsToLocals, Value.category]; done) | rfl
def Q_rm5 (Z : State) (a1 : Addr) (q2 : Int64) (h0 : Heap) (n0 : Nat) (v : Option Value) (h : Heap) (L : List Loc) : Prop := v = some (.long q2) ∧ Fr n0 L ∧ h = h0
set_option maxRecDepth 65536 in
set_option maxHeartbeats 40000000 in
theorem rm5 (l : Launch) (Z : State) (a0 : Array Value) (hw : ∀ d ∈ tables_1, d.before a0 Z = true) (ws : List Jvm.Cond) (a1 : Addr) (q2 : Int64) (h0 : Heap) (n0 : Nat) (Zn : n0 ≤ h0.size) (F_a1 : Fld Z h0 a1 "com/example/veindb/veindb/bench/MadeChain" "mTransactions" "J" (.long q2)) :
    MetFree l (⟨"com/example/veindb/veindb/bench/MadeChain", "transactions", "()J"⟩ : MethodName) (head1 (Jvm.Cond.code (⟨"com/example/veindb/veindb/bench/MadeChain", "transactions", "()J"⟩ : MethodName) prog_3_method_4_code 1 (some .long) :: ws) ({ frames := 0, cells := 0, slots := 0, locals := 0 } : Room)) (fun a U => a = #[(.ref a1)] ∧ Z.Warmed39 U.vm ∧ U.heap = h0) (fun _ _ _ _ _ => True) (fun _ U o U' => ∃ v L, o = .returned v ∧ (Q_rm5 Z a1 q2 h0 n0) v U'.heap L ∧ FrameEnd U o U' L ({ frames := 0, cells := 0, slots := 0, locals := 0 } : Room).cells ({ frames := 0, cells := 0, slots := 0, locals := 0 } : Room).slots) := by
  refine MetFree.of_bodySF (plainFor_of_name pn_5) hisR ?_
  intro p e s m args below meth c s₁ Bd hml0 hP hK
  obtain ⟨rfl, hZ, hh⟩ := hP
  have hx := Bd.exec
  have hby := Bd.bytes
  have hml : c.maxLocals = 1 := hml0
  have hown : s.vm.findClass "com/example/veindb/veindb/bench/MadeChain" = some m.cls := findClass_of_methodNamed Bd.named
  have hnm := (name_of_methodNamed Bd.named Bd.method).1
  have hlk : meth.locks = false := BodyLoose.notSynchronized Bd
  have X0 : Stand p l e ({ frames := 0, cells := 0, slots := 0, locals := 0 } : Room) s m #[(.ref a1)] below meth c s₁ [] 0 0 := Stand.of_body Bd
  have e0 : s₁.heap = h0 := by rw [← hh, Bd.state]; rfl
  have N := Fr.nil n0
  have K := Keep.refl h0 []
  refine own_start (cl := ({ frames := 0, cells := 0, slots := 0, locals := 0 } : Room).cells) (sl := ({ frames := 0, cells := 0, slots := 0, locals := 0 } : Room).slots) (Q := (Q_rm5 Z a1 q2 h0 n0)) (ef_rm5 m a1) ?_
  refine own_by (S' := (s₁.setTop (mkF m 1 #[.val (.ref a1)] [(.ref a1)]))) (fun _ k => XS.aloadN X0.here hx rfl (hb hby d5_0) rfl rfl k) ?_
  obtain ⟨T42, X42, e42, st42⟩ := getF X0 hx hZ hown (host := "") (Or.inl (hw _ (List.mem_of_getElem? (i := 14) rfl))) Via.refl e0 F_a1 (g := (mkF m 1 #[.val (.ref a1)] [(.ref a1)])) rfl rfl (hb hby d5_1)
  refine own_by (S' := (T42.setTop (mkF m 4 #[.val (.ref a1)] [(.long q2)]))) st42 ?_
  exact own_ret X42 hx (t := .long) Bd.returns rfl (Or.inr (Or.inl ⟨rfl, rfl, _, rfl⟩)) (hb hby d5_4) hlk (by decide : 0 ≤ _) (by decide : 0 ≤ _) (by rw [e42]; exact ⟨rfl, N, rfl⟩)
theorem d6_0 : decode prog_3_method_5_code 0 = .ok (.aload_n 0, 1) := by decide +kernel
theorem d6_1 : decode prog_3_method_5_code 1 = .ok (.getfield 13, 3) := by decide +kernel
theorem d6_4 : decode prog_3_method_5_code 4 = .ok (.lreturn, 1) := by decide +kernel
theorem pn_6 : plainName "com/example/veindb/veindb/bench/MadeChain" = true := by first | (simp [plainName, overriddenIn]; done) | decide +kernel
theorem ef_rm6 (m : MethodId) (x0 : Addr) : entryFrame m #[(.ref x0)] 1 = mkF m 0 #[.val (.ref x0)] [] := by first | (simp [entryFrame, mkF, argsToLocals, Value.category]; done) | rfl
def Q_rm6 (Z : State) (a1 : Addr) (q2 : Int64) (h0 : Heap) (n0 : Nat) (v : Option Value) (h : Heap) (L : List Loc) : Prop := v = some (.long q2) ∧ Fr n0 L ∧ h = h0
set_option maxRecDepth 65536 in
set_option maxHeartbeats 40000000 in
theorem rm6 (l : Launch) (Z : State) (a0 : Array Value) (hw : ∀ d ∈ tables_1, d.before a0 Z = true) (ws : List Jvm.Cond) (a1 : Addr) (q2 : Int64) (h0 : Heap) (n0 : Nat) (Zn : n0 ≤ h0.size) (F_a1 : Fld Z h0 a1 "com/example/veindb/veindb/bench/MadeChain" "mWitnessTransactions" "J" (.long q2)) :
    MetFree l (⟨"com/example/veindb/veindb/bench/MadeChain", "witnessTransactions", "()J"⟩ : MethodName) (head1 (Jvm.Cond.code (⟨"com/example/veindb/veindb/bench/MadeChain", "witnessTransactions", "()J"⟩ : MethodName) prog_3_method_5_code 1 (some .long) :: ws) ({ frames := 0, cells := 0, slots := 0, locals := 0 } : Room)) (fun a U => a = #[(.ref a1)] ∧ Z.Warmed39 U.vm ∧ U.heap = h0) (fun _ _ _ _ _ => True) (fun _ U o U' => ∃ v L, o = .returned v ∧ (Q_rm6 Z a1 q2 h0 n0) v U'.heap L ∧ FrameEnd U o U' L ({ frames := 0, cells := 0, slots := 0, locals := 0 } : Room).cells ({ frames := 0, cells := 0, slots := 0, locals := 0 } : Room).slots) := by
  refine MetFree.of_bodySF (plainFor_of_name pn_6) hisR ?_
  intro p e s m args below meth c s₁ Bd hml0 hP hK
  obtain ⟨rfl, hZ, hh⟩ := hP
  have hx := Bd.exec
  have hby := Bd.bytes
  have hml : c.maxLocals = 1 := hml0
  have hown : s.vm.findClass "com/example/veindb/veindb/bench/MadeChain" = some m.cls := findClass_of_methodNamed Bd.named
  have hnm := (name_of_methodNamed Bd.named Bd.method).1
  have hlk : meth.locks = false := BodyLoose.notSynchronized Bd
  have X0 : Stand p l e ({ frames := 0, cells := 0, slots := 0, locals := 0 } : Room) s m #[(.ref a1)] below meth c s₁ [] 0 0 := Stand.of_body Bd
  have e0 : s₁.heap = h0 := by rw [← hh, Bd.state]; rfl
  have N := Fr.nil n0
  have K := Keep.refl h0 []
  refine own_start (cl := ({ frames := 0, cells := 0, slots := 0, locals := 0 } : Room).cells) (sl := ({ frames := 0, cells := 0, slots := 0, locals := 0 } : Room).slots) (Q := (Q_rm6 Z a1 q2 h0 n0)) (ef_rm6 m a1) ?_
  refine own_by (S' := (s₁.setTop (mkF m 1 #[.val (.ref a1)] [(.ref a1)]))) (fun _ k => XS.aloadN X0.here hx rfl (hb hby d6_0) rfl rfl k) ?_
  obtain ⟨T43, X43, e43, st43⟩ := getF X0 hx hZ hown (host := "") (Or.inl (hw _ (List.mem_of_getElem? (i := 16) rfl))) Via.refl e0 F_a1 (g := (mkF m 1 #[.val (.ref a1)] [(.ref a1)])) rfl rfl (hb hby d6_1)
  refine own_by (S' := (T43.setTop (mkF m 4 #[.val (.ref a1)] [(.long q2)]))) st43 ?_
  exact own_ret X43 hx (t := .long) Bd.returns rfl (Or.inr (Or.inl ⟨rfl, rfl, _, rfl⟩)) (hb hby d6_4) hlk (by decide : 0 ≤ _) (by decide : 0 ≤ _) (by rw [e43]; exact ⟨rfl, N, rfl⟩)
theorem d7_0 : decode prog_3_method_13_code 0 = .ok (.aload_n 0, 1) := by decide +kernel
theorem d7_1 : decode prog_3_method_13_code 1 = .ok (.getfield 16, 3) := by decide +kernel
theorem d7_4 : decode prog_3_method_13_code 4 = .ok (.lreturn, 1) := by decide +kernel
theorem pn_7 : plainName "com/example/veindb/veindb/bench/MadeChain" = true := by first | (simp [plainName, overriddenIn]; done) | decide +kernel
theorem ef_rm7 (m : MethodId) (x0 : Addr) : entryFrame m #[(.ref x0)] 1 = mkF m 0 #[.val (.ref x0)] [] := by first | (simp [entryFrame, mkF, argsToLocals, Value.category]; done) | rfl
def Q_rm7 (Z : State) (a1 : Addr) (q2 : Int64) (h0 : Heap) (n0 : Nat) (v : Option Value) (h : Heap) (L : List Loc) : Prop := v = some (.long q2) ∧ Fr n0 L ∧ h = h0
set_option maxRecDepth 65536 in
set_option maxHeartbeats 40000000 in
theorem rm7 (l : Launch) (Z : State) (a0 : Array Value) (hw : ∀ d ∈ tables_1, d.before a0 Z = true) (ws : List Jvm.Cond) (a1 : Addr) (q2 : Int64) (h0 : Heap) (n0 : Nat) (Zn : n0 ≤ h0.size) (F_a1 : Fld Z h0 a1 "com/example/veindb/veindb/bench/MadeChain" "mHotHistory" "J" (.long q2)) :
    MetFree l (⟨"com/example/veindb/veindb/bench/MadeChain", "hotHistory", "()J"⟩ : MethodName) (head1 (Jvm.Cond.code (⟨"com/example/veindb/veindb/bench/MadeChain", "hotHistory", "()J"⟩ : MethodName) prog_3_method_13_code 1 (some .long) :: ws) ({ frames := 0, cells := 0, slots := 0, locals := 0 } : Room)) (fun a U => a = #[(.ref a1)] ∧ Z.Warmed39 U.vm ∧ U.heap = h0) (fun _ _ _ _ _ => True) (fun _ U o U' => ∃ v L, o = .returned v ∧ (Q_rm7 Z a1 q2 h0 n0) v U'.heap L ∧ FrameEnd U o U' L ({ frames := 0, cells := 0, slots := 0, locals := 0 } : Room).cells ({ frames := 0, cells := 0, slots := 0, locals := 0 } : Room).slots) := by
  refine MetFree.of_bodySF (plainFor_of_name pn_7) hisR ?_
  intro p e s m args below meth c s₁ Bd hml0 hP hK
  obtain ⟨rfl, hZ, hh⟩ := hP
  have hx := Bd.exec
  have hby := Bd.bytes
  have hml : c.maxLocals = 1 := hml0
  have hown : s.vm.findClass "com/example/veindb/veindb/bench/MadeChain" = some m.cls := findClass_of_methodNamed Bd.named
  have hnm := (name_of_methodNamed Bd.named Bd.method).1
  have hlk : meth.locks = false := BodyLoose.notSynchronized Bd
  have X0 : Stand p l e ({ frames := 0, cells := 0, slots := 0, locals := 0 } : Room) s m #[(.ref a1)] below meth c s₁ [] 0 0 := Stand.of_body Bd
  have e0 : s₁.heap = h0 := by rw [← hh, Bd.state]; rfl
  have N := Fr.nil n0
  have K := Keep.refl h0 []
  refine own_start (cl := ({ frames := 0, cells := 0, slots := 0, locals := 0 } : Room).cells) (sl := ({ frames := 0, cells := 0, slots := 0, locals := 0 } : Room).slots) (Q := (Q_rm7 Z a1 q2 h0 n0)) (ef_rm7 m a1) ?_
  refine own_by (S' := (s₁.setTop (mkF m 1 #[.val (.ref a1)] [(.ref a1)]))) (fun _ k => XS.aloadN X0.here hx rfl (hb hby d7_0) rfl rfl k) ?_
  obtain ⟨T44, X44, e44, st44⟩ := getF X0 hx hZ hown (host := "") (Or.inl (hw _ (List.mem_of_getElem? (i := 18) rfl))) Via.refl e0 F_a1 (g := (mkF m 1 #[.val (.ref a1)] [(.ref a1)])) rfl rfl (hb hby d7_1)
  refine own_by (S' := (T44.setTop (mkF m 4 #[.val (.ref a1)] [(.long q2)]))) st44 ?_
  exact own_ret X44 hx (t := .long) Bd.returns rfl (Or.inr (Or.inl ⟨rfl, rfl, _, rfl⟩)) (hb hby d7_4) hlk (by decide : 0 ≤ _) (by decide : 0 ≤ _) (by rw [e44]; exact ⟨rfl, N, rfl⟩)
theorem d8_0 : decode prog_3_method_6_code 0 = .ok (.aload_n 0, 1) := by decide +kernel
theorem d8_1 : decode prog_3_method_6_code 1 = .ok (.getfield 19, 3) := by decide +kernel
theorem d8_4 : decode prog_3_method_6_code 4 = .ok (.lreturn, 1) := by decide +kernel
theorem pn_8 : plainName "com/example/veindb/veindb/bench/MadeChain" = true := by first | (simp [plainName, overriddenIn]; done) | decide +kernel
theorem ef_rm8 (m : MethodId) (x0 : Addr) : entryFrame m #[(.ref x0)] 1 = mkF m 0 #[.val (.ref x0)] [] := by first | (simp [entryFrame, mkF, argsToLocals, Value.category]; done) | rfl
def Q_rm8 (Z : State) (a1 : Addr) (q2 : Int64) (h0 : Heap) (n0 : Nat) (v : Option Value) (h : Heap) (L : List Loc) : Prop := v = some (.long q2) ∧ Fr n0 L ∧ h = h0
set_option maxRecDepth 65536 in
set_option maxHeartbeats 40000000 in
theorem rm8 (l : Launch) (Z : State) (a0 : Array Value) (hw : ∀ d ∈ tables_1, d.before a0 Z = true) (ws : List Jvm.Cond) (a1 : Addr) (q2 : Int64) (h0 : Heap) (n0 : Nat) (Zn : n0 ≤ h0.size) (F_a1 : Fld Z h0 a1 "com/example/veindb/veindb/bench/MadeChain" "mInputs" "J" (.long q2)) :
    MetFree l (⟨"com/example/veindb/veindb/bench/MadeChain", "inputs", "()J"⟩ : MethodName) (head1 (Jvm.Cond.code (⟨"com/example/veindb/veindb/bench/MadeChain", "inputs", "()J"⟩ : MethodName) prog_3_method_6_code 1 (some .long) :: ws) ({ frames := 0, cells := 0, slots := 0, locals := 0 } : Room)) (fun a U => a = #[(.ref a1)] ∧ Z.Warmed39 U.vm ∧ U.heap = h0) (fun _ _ _ _ _ => True) (fun _ U o U' => ∃ v L, o = .returned v ∧ (Q_rm8 Z a1 q2 h0 n0) v U'.heap L ∧ FrameEnd U o U' L ({ frames := 0, cells := 0, slots := 0, locals := 0 } : Room).cells ({ frames := 0, cells := 0, slots := 0, locals := 0 } : Room).slots) := by
  refine MetFree.of_bodySF (plainFor_of_name pn_8) hisR ?_
  intro p e s m args below meth c s₁ Bd hml0 hP hK
  obtain ⟨rfl, hZ, hh⟩ := hP
  have hx := Bd.exec
  have hby := Bd.bytes
  have hml : c.maxLocals = 1 := hml0
  have hown : s.vm.findClass "com/example/veindb/veindb/bench/MadeChain" = some m.cls := findClass_of_methodNamed Bd.named
  have hnm := (name_of_methodNamed Bd.named Bd.method).1
  have hlk : meth.locks = false := BodyLoose.notSynchronized Bd
  have X0 : Stand p l e ({ frames := 0, cells := 0, slots := 0, locals := 0 } : Room) s m #[(.ref a1)] below meth c s₁ [] 0 0 := Stand.of_body Bd
  have e0 : s₁.heap = h0 := by rw [← hh, Bd.state]; rfl
  have N := Fr.nil n0
  have K := Keep.refl h0 []
  refine own_start (cl := ({ frames := 0, cells := 0, slots := 0, locals := 0 } : Room).cells) (sl := ({ frames := 0, cells := 0, slots := 0, locals := 0 } : Room).slots) (Q := (Q_rm8 Z a1 q2 h0 n0)) (ef_rm8 m a1) ?_
  refine own_by (S' := (s₁.setTop (mkF m 1 #[.val (.ref a1)] [(.ref a1)]))) (fun _ k => XS.aloadN X0.here hx rfl (hb hby d8_0) rfl rfl k) ?_
  obtain ⟨T45, X45, e45, st45⟩ := getF X0 hx hZ hown (host := "") (Or.inl (hw _ (List.mem_of_getElem? (i := 20) rfl))) Via.refl e0 F_a1 (g := (mkF m 1 #[.val (.ref a1)] [(.ref a1)])) rfl rfl (hb hby d8_1)
  refine own_by (S' := (T45.setTop (mkF m 4 #[.val (.ref a1)] [(.long q2)]))) st45 ?_
  exact own_ret X45 hx (t := .long) Bd.returns rfl (Or.inr (Or.inl ⟨rfl, rfl, _, rfl⟩)) (hb hby d8_4) hlk (by decide : 0 ≤ _) (by decide : 0 ≤ _) (by rw [e45]; exact ⟨rfl, N, rfl⟩)
theorem d9_0 : decode prog_3_method_7_code 0 = .ok (.aload_n 0, 1) := by decide +kernel
theorem d9_1 : decode prog_3_method_7_code 1 = .ok (.getfield 22, 3) := by decide +kernel
theorem d9_4 : decode prog_3_method_7_code 4 = .ok (.lreturn, 1) := by decide +kernel
theorem pn_9 : plainName "com/example/veindb/veindb/bench/MadeChain" = true := by first | (simp [plainName, overriddenIn]; done) | decide +kernel
theorem ef_rm9 (m : MethodId) (x0 : Addr) : entryFrame m #[(.ref x0)] 1 = mkF m 0 #[.val (.ref x0)] [] := by first | (simp [entryFrame, mkF, argsToLocals, Value.category]; done) | rfl
def Q_rm9 (Z : State) (a1 : Addr) (q2 : Int64) (h0 : Heap) (n0 : Nat) (v : Option Value) (h : Heap) (L : List Loc) : Prop := v = some (.long q2) ∧ Fr n0 L ∧ h = h0
set_option maxRecDepth 65536 in
set_option maxHeartbeats 40000000 in
theorem rm9 (l : Launch) (Z : State) (a0 : Array Value) (hw : ∀ d ∈ tables_1, d.before a0 Z = true) (ws : List Jvm.Cond) (a1 : Addr) (q2 : Int64) (h0 : Heap) (n0 : Nat) (Zn : n0 ≤ h0.size) (F_a1 : Fld Z h0 a1 "com/example/veindb/veindb/bench/MadeChain" "mOldInputs" "J" (.long q2)) :
    MetFree l (⟨"com/example/veindb/veindb/bench/MadeChain", "oldInputs", "()J"⟩ : MethodName) (head1 (Jvm.Cond.code (⟨"com/example/veindb/veindb/bench/MadeChain", "oldInputs", "()J"⟩ : MethodName) prog_3_method_7_code 1 (some .long) :: ws) ({ frames := 0, cells := 0, slots := 0, locals := 0 } : Room)) (fun a U => a = #[(.ref a1)] ∧ Z.Warmed39 U.vm ∧ U.heap = h0) (fun _ _ _ _ _ => True) (fun _ U o U' => ∃ v L, o = .returned v ∧ (Q_rm9 Z a1 q2 h0 n0) v U'.heap L ∧ FrameEnd U o U' L ({ frames := 0, cells := 0, slots := 0, locals := 0 } : Room).cells ({ frames := 0, cells := 0, slots := 0, locals := 0 } : Room).slots) := by
  refine MetFree.of_bodySF (plainFor_of_name pn_9) hisR ?_
  intro p e s m args below meth c s₁ Bd hml0 hP hK
  obtain ⟨rfl, hZ, hh⟩ := hP
  have hx := Bd.exec
  have hby := Bd.bytes
  have hml : c.maxLocals = 1 := hml0
  have hown : s.vm.findClass "com/example/veindb/veindb/bench/MadeChain" = some m.cls := findClass_of_methodNamed Bd.named
  have hnm := (name_of_methodNamed Bd.named Bd.method).1
  have hlk : meth.locks = false := BodyLoose.notSynchronized Bd
  have X0 : Stand p l e ({ frames := 0, cells := 0, slots := 0, locals := 0 } : Room) s m #[(.ref a1)] below meth c s₁ [] 0 0 := Stand.of_body Bd
  have e0 : s₁.heap = h0 := by rw [← hh, Bd.state]; rfl
  have N := Fr.nil n0
  have K := Keep.refl h0 []
  refine own_start (cl := ({ frames := 0, cells := 0, slots := 0, locals := 0 } : Room).cells) (sl := ({ frames := 0, cells := 0, slots := 0, locals := 0 } : Room).slots) (Q := (Q_rm9 Z a1 q2 h0 n0)) (ef_rm9 m a1) ?_
  refine own_by (S' := (s₁.setTop (mkF m 1 #[.val (.ref a1)] [(.ref a1)]))) (fun _ k => XS.aloadN X0.here hx rfl (hb hby d9_0) rfl rfl k) ?_
  obtain ⟨T46, X46, e46, st46⟩ := getF X0 hx hZ hown (host := "") (Or.inl (hw _ (List.mem_of_getElem? (i := 22) rfl))) Via.refl e0 F_a1 (g := (mkF m 1 #[.val (.ref a1)] [(.ref a1)])) rfl rfl (hb hby d9_1)
  refine own_by (S' := (T46.setTop (mkF m 4 #[.val (.ref a1)] [(.long q2)]))) st46 ?_
  exact own_ret X46 hx (t := .long) Bd.returns rfl (Or.inr (Or.inl ⟨rfl, rfl, _, rfl⟩)) (hb hby d9_4) hlk (by decide : 0 ≤ _) (by decide : 0 ≤ _) (by rw [e46]; exact ⟨rfl, N, rfl⟩)
theorem d10_0 : decode prog_3_method_8_code 0 = .ok (.aload_n 0, 1) := by decide +kernel
theorem d10_1 : decode prog_3_method_8_code 1 = .ok (.getfield 25, 3) := by decide +kernel
theorem d10_4 : decode prog_3_method_8_code 4 = .ok (.lreturn, 1) := by decide +kernel
theorem pn_10 : plainName "com/example/veindb/veindb/bench/MadeChain" = true := by first | (simp [plainName, overriddenIn]; done) | decide +kernel
theorem ef_rm10 (m : MethodId) (x0 : Addr) : entryFrame m #[(.ref x0)] 1 = mkF m 0 #[.val (.ref x0)] [] := by first | (simp [entryFrame, mkF, argsToLocals, Value.category]; done) | rfl
def Q_rm10 (Z : State) (a1 : Addr) (q2 : Int64) (h0 : Heap) (n0 : Nat) (v : Option Value) (h : Heap) (L : List Loc) : Prop := v = some (.long q2) ∧ Fr n0 L ∧ h = h0
set_option maxRecDepth 65536 in
set_option maxHeartbeats 40000000 in
theorem rm10 (l : Launch) (Z : State) (a0 : Array Value) (hw : ∀ d ∈ tables_1, d.before a0 Z = true) (ws : List Jvm.Cond) (a1 : Addr) (q2 : Int64) (h0 : Heap) (n0 : Nat) (Zn : n0 ≤ h0.size) (F_a1 : Fld Z h0 a1 "com/example/veindb/veindb/bench/MadeChain" "mOutputs" "J" (.long q2)) :
    MetFree l (⟨"com/example/veindb/veindb/bench/MadeChain", "outputs", "()J"⟩ : MethodName) (head1 (Jvm.Cond.code (⟨"com/example/veindb/veindb/bench/MadeChain", "outputs", "()J"⟩ : MethodName) prog_3_method_8_code 1 (some .long) :: ws) ({ frames := 0, cells := 0, slots := 0, locals := 0 } : Room)) (fun a U => a = #[(.ref a1)] ∧ Z.Warmed39 U.vm ∧ U.heap = h0) (fun _ _ _ _ _ => True) (fun _ U o U' => ∃ v L, o = .returned v ∧ (Q_rm10 Z a1 q2 h0 n0) v U'.heap L ∧ FrameEnd U o U' L ({ frames := 0, cells := 0, slots := 0, locals := 0 } : Room).cells ({ frames := 0, cells := 0, slots := 0, locals := 0 } : Room).slots) := by
  refine MetFree.of_bodySF (plainFor_of_name pn_10) hisR ?_
  intro p e s m args below meth c s₁ Bd hml0 hP hK
  obtain ⟨rfl, hZ, hh⟩ := hP
  have hx := Bd.exec
  have hby := Bd.bytes
  have hml : c.maxLocals = 1 := hml0
  have hown : s.vm.findClass "com/example/veindb/veindb/bench/MadeChain" = some m.cls := findClass_of_methodNamed Bd.named
  have hnm := (name_of_methodNamed Bd.named Bd.method).1
  have hlk : meth.locks = false := BodyLoose.notSynchronized Bd
  have X0 : Stand p l e ({ frames := 0, cells := 0, slots := 0, locals := 0 } : Room) s m #[(.ref a1)] below meth c s₁ [] 0 0 := Stand.of_body Bd
  have e0 : s₁.heap = h0 := by rw [← hh, Bd.state]; rfl
  have N := Fr.nil n0
  have K := Keep.refl h0 []
  refine own_start (cl := ({ frames := 0, cells := 0, slots := 0, locals := 0 } : Room).cells) (sl := ({ frames := 0, cells := 0, slots := 0, locals := 0 } : Room).slots) (Q := (Q_rm10 Z a1 q2 h0 n0)) (ef_rm10 m a1) ?_
  refine own_by (S' := (s₁.setTop (mkF m 1 #[.val (.ref a1)] [(.ref a1)]))) (fun _ k => XS.aloadN X0.here hx rfl (hb hby d10_0) rfl rfl k) ?_
  obtain ⟨T47, X47, e47, st47⟩ := getF X0 hx hZ hown (host := "") (Or.inl (hw _ (List.mem_of_getElem? (i := 24) rfl))) Via.refl e0 F_a1 (g := (mkF m 1 #[.val (.ref a1)] [(.ref a1)])) rfl rfl (hb hby d10_1)
  refine own_by (S' := (T47.setTop (mkF m 4 #[.val (.ref a1)] [(.long q2)]))) st47 ?_
  exact own_ret X47 hx (t := .long) Bd.returns rfl (Or.inr (Or.inl ⟨rfl, rfl, _, rfl⟩)) (hb hby d10_4) hlk (by decide : 0 ≤ _) (by decide : 0 ≤ _) (by rw [e47]; exact ⟨rfl, N, rfl⟩)
theorem d11_0 : decode prog_3_method_9_code 0 = .ok (.aload_n 0, 1) := by decide +kernel
theorem d11_1 : decode prog_3_method_9_code 1 = .ok (.getfield 28, 3) := by decide +kernel
theorem d11_4 : decode prog_3_method_9_code 4 = .ok (.lreturn, 1) := by decide +kernel
theorem pn_11 : plainName "com/example/veindb/veindb/bench/MadeChain" = true := by first | (simp [plainName, overriddenIn]; done) | decide +kernel
theorem ef_rm11 (m : MethodId) (x0 : Addr) : entryFrame m #[(.ref x0)] 1 = mkF m 0 #[.val (.ref x0)] [] := by first | (simp [entryFrame, mkF, argsToLocals, Value.category]; done) | rfl
def Q_rm11 (Z : State) (a1 : Addr) (q2 : Int64) (h0 : Heap) (n0 : Nat) (v : Option Value) (h : Heap) (L : List Loc) : Prop := v = some (.long q2) ∧ Fr n0 L ∧ h = h0
set_option maxRecDepth 65536 in
set_option maxHeartbeats 40000000 in
theorem rm11 (l : Launch) (Z : State) (a0 : Array Value) (hw : ∀ d ∈ tables_1, d.before a0 Z = true) (ws : List Jvm.Cond) (a1 : Addr) (q2 : Int64) (h0 : Heap) (n0 : Nat) (Zn : n0 ≤ h0.size) (F_a1 : Fld Z h0 a1 "com/example/veindb/veindb/bench/MadeChain" "mOpReturnOutputs" "J" (.long q2)) :
    MetFree l (⟨"com/example/veindb/veindb/bench/MadeChain", "opReturnOutputs", "()J"⟩ : MethodName) (head1 (Jvm.Cond.code (⟨"com/example/veindb/veindb/bench/MadeChain", "opReturnOutputs", "()J"⟩ : MethodName) prog_3_method_9_code 1 (some .long) :: ws) ({ frames := 0, cells := 0, slots := 0, locals := 0 } : Room)) (fun a U => a = #[(.ref a1)] ∧ Z.Warmed39 U.vm ∧ U.heap = h0) (fun _ _ _ _ _ => True) (fun _ U o U' => ∃ v L, o = .returned v ∧ (Q_rm11 Z a1 q2 h0 n0) v U'.heap L ∧ FrameEnd U o U' L ({ frames := 0, cells := 0, slots := 0, locals := 0 } : Room).cells ({ frames := 0, cells := 0, slots := 0, locals := 0 } : Room).slots) := by
  refine MetFree.of_bodySF (plainFor_of_name pn_11) hisR ?_
  intro p e s m args below meth c s₁ Bd hml0 hP hK
  obtain ⟨rfl, hZ, hh⟩ := hP
  have hx := Bd.exec
  have hby := Bd.bytes
  have hml : c.maxLocals = 1 := hml0
  have hown : s.vm.findClass "com/example/veindb/veindb/bench/MadeChain" = some m.cls := findClass_of_methodNamed Bd.named
  have hnm := (name_of_methodNamed Bd.named Bd.method).1
  have hlk : meth.locks = false := BodyLoose.notSynchronized Bd
  have X0 : Stand p l e ({ frames := 0, cells := 0, slots := 0, locals := 0 } : Room) s m #[(.ref a1)] below meth c s₁ [] 0 0 := Stand.of_body Bd
  have e0 : s₁.heap = h0 := by rw [← hh, Bd.state]; rfl
  have N := Fr.nil n0
  have K := Keep.refl h0 []
  refine own_start (cl := ({ frames := 0, cells := 0, slots := 0, locals := 0 } : Room).cells) (sl := ({ frames := 0, cells := 0, slots := 0, locals := 0 } : Room).slots) (Q := (Q_rm11 Z a1 q2 h0 n0)) (ef_rm11 m a1) ?_
  refine own_by (S' := (s₁.setTop (mkF m 1 #[.val (.ref a1)] [(.ref a1)]))) (fun _ k => XS.aloadN X0.here hx rfl (hb hby d11_0) rfl rfl k) ?_
  obtain ⟨T48, X48, e48, st48⟩ := getF X0 hx hZ hown (host := "") (Or.inl (hw _ (List.mem_of_getElem? (i := 26) rfl))) Via.refl e0 F_a1 (g := (mkF m 1 #[.val (.ref a1)] [(.ref a1)])) rfl rfl (hb hby d11_1)
  refine own_by (S' := (T48.setTop (mkF m 4 #[.val (.ref a1)] [(.long q2)]))) st48 ?_
  exact own_ret X48 hx (t := .long) Bd.returns rfl (Or.inr (Or.inl ⟨rfl, rfl, _, rfl⟩)) (hb hby d11_4) hlk (by decide : 0 ≤ _) (by decide : 0 ≤ _) (by rw [e48]; exact ⟨rfl, N, rfl⟩)
theorem d12_0 : decode prog_3_method_10_code 0 = .ok (.aload_n 0, 1) := by decide +kernel
theorem d12_1 : decode prog_3_method_10_code 1 = .ok (.getfield 31, 3) := by decide +kernel
theorem d12_4 : decode prog_3_method_10_code 4 = .ok (.ireturn, 1) := by decide +kernel
theorem pn_12 : plainName "com/example/veindb/veindb/bench/MadeChain" = true := by first | (simp [plainName, overriddenIn]; done) | decide +kernel
theorem ef_rm12 (m : MethodId) (x0 : Addr) : entryFrame m #[(.ref x0)] 1 = mkF m 0 #[.val (.ref x0)] [] := by first | (simp [entryFrame, mkF, argsToLocals, Value.category]; done) | rfl
def Q_rm12 (Z : State) (a1 : Addr) (q2 : Int32) (h0 : Heap) (n0 : Nat) (v : Option Value) (h : Heap) (L : List Loc) : Prop := v = some (.int q2) ∧ Fr n0 L ∧ h = h0
set_option maxRecDepth 65536 in
set_option maxHeartbeats 40000000 in
theorem rm12 (l : Launch) (Z : State) (a0 : Array Value) (hw : ∀ d ∈ tables_1, d.before a0 Z = true) (ws : List Jvm.Cond) (a1 : Addr) (q2 : Int32) (h0 : Heap) (n0 : Nat) (Zn : n0 ≤ h0.size) (F_a1 : Fld Z h0 a1 "com/example/veindb/veindb/bench/MadeChain" "mBlocks" "I" (.int q2)) :
    MetFree l (⟨"com/example/veindb/veindb/bench/MadeChain", "blocks", "()I"⟩ : MethodName) (head1 (Jvm.Cond.code (⟨"com/example/veindb/veindb/bench/MadeChain", "blocks", "()I"⟩ : MethodName) prog_3_method_10_code 1 (some .int) :: ws) ({ frames := 0, cells := 0, slots := 0, locals := 0 } : Room)) (fun a U => a = #[(.ref a1)] ∧ Z.Warmed39 U.vm ∧ U.heap = h0) (fun _ _ _ _ _ => True) (fun _ U o U' => ∃ v L, o = .returned v ∧ (Q_rm12 Z a1 q2 h0 n0) v U'.heap L ∧ FrameEnd U o U' L ({ frames := 0, cells := 0, slots := 0, locals := 0 } : Room).cells ({ frames := 0, cells := 0, slots := 0, locals := 0 } : Room).slots) := by
  refine MetFree.of_bodySF (plainFor_of_name pn_12) hisR ?_
  intro p e s m args below meth c s₁ Bd hml0 hP hK
  obtain ⟨rfl, hZ, hh⟩ := hP
  have hx := Bd.exec
  have hby := Bd.bytes
  have hml : c.maxLocals = 1 := hml0
  have hown : s.vm.findClass "com/example/veindb/veindb/bench/MadeChain" = some m.cls := findClass_of_methodNamed Bd.named
  have hnm := (name_of_methodNamed Bd.named Bd.method).1
  have hlk : meth.locks = false := BodyLoose.notSynchronized Bd
  have X0 : Stand p l e ({ frames := 0, cells := 0, slots := 0, locals := 0 } : Room) s m #[(.ref a1)] below meth c s₁ [] 0 0 := Stand.of_body Bd
  have e0 : s₁.heap = h0 := by rw [← hh, Bd.state]; rfl
  have N := Fr.nil n0
  have K := Keep.refl h0 []
  refine own_start (cl := ({ frames := 0, cells := 0, slots := 0, locals := 0 } : Room).cells) (sl := ({ frames := 0, cells := 0, slots := 0, locals := 0 } : Room).slots) (Q := (Q_rm12 Z a1 q2 h0 n0)) (ef_rm12 m a1) ?_
  refine own_by (S' := (s₁.setTop (mkF m 1 #[.val (.ref a1)] [(.ref a1)]))) (fun _ k => XS.aloadN X0.here hx rfl (hb hby d12_0) rfl rfl k) ?_
  obtain ⟨T49, X49, e49, st49⟩ := getF X0 hx hZ hown (host := "") (Or.inl (hw _ (List.mem_of_getElem? (i := 73) rfl))) Via.refl e0 F_a1 (g := (mkF m 1 #[.val (.ref a1)] [(.ref a1)])) rfl rfl (hb hby d12_1)
  refine own_by (S' := (T49.setTop (mkF m 4 #[.val (.ref a1)] [(.int q2)]))) st49 ?_
  exact own_ret X49 hx (t := .int) Bd.returns rfl (Or.inl ⟨rfl, by simp, _, rfl⟩) (hb hby d12_4) hlk (by decide : 0 ≤ _) (by decide : 0 ≤ _) (by rw [e49]; exact ⟨rfl, N, rfl⟩)
theorem d13_0 : decode prog_3_method_11_code 0 = .ok (.aload_n 0, 1) := by decide +kernel
theorem d13_1 : decode prog_3_method_11_code 1 = .ok (.getfield 39, 3) := by decide +kernel
theorem d13_4 : decode prog_3_method_11_code 4 = .ok (.lreturn, 1) := by decide +kernel
theorem pn_13 : plainName "com/example/veindb/veindb/bench/MadeChain" = true := by first | (simp [plainName, overriddenIn]; done) | decide +kernel
theorem ef_rm13 (m : MethodId) (x0 : Addr) : entryFrame m #[(.ref x0)] 1 = mkF m 0 #[.val (.ref x0)] [] := by first | (simp [entryFrame, mkF, argsToLocals, Value.category]; done) | rfl
def Q_rm13 (Z : State) (a1 : Addr) (q2 : Int64) (h0 : Heap) (n0 : Nat) (v : Option Value) (h : Heap) (L : List Loc) : Prop := v = some (.long q2) ∧ Fr n0 L ∧ h = h0
set_option maxRecDepth 65536 in
set_option maxHeartbeats 40000000 in
theorem rm13 (l : Launch) (Z : State) (a0 : Array Value) (hw : ∀ d ∈ tables_1, d.before a0 Z = true) (ws : List Jvm.Cond) (a1 : Addr) (q2 : Int64) (h0 : Heap) (n0 : Nat) (Zn : n0 ≤ h0.size) (F_a1 : Fld Z h0 a1 "com/example/veindb/veindb/bench/MadeChain" "mDistinctScripts" "J" (.long q2)) :
    MetFree l (⟨"com/example/veindb/veindb/bench/MadeChain", "distinctScripts", "()J"⟩ : MethodName) (head1 (Jvm.Cond.code (⟨"com/example/veindb/veindb/bench/MadeChain", "distinctScripts", "()J"⟩ : MethodName) prog_3_method_11_code 1 (some .long) :: ws) ({ frames := 0, cells := 0, slots := 0, locals := 0 } : Room)) (fun a U => a = #[(.ref a1)] ∧ Z.Warmed39 U.vm ∧ U.heap = h0) (fun _ _ _ _ _ => True) (fun _ U o U' => ∃ v L, o = .returned v ∧ (Q_rm13 Z a1 q2 h0 n0) v U'.heap L ∧ FrameEnd U o U' L ({ frames := 0, cells := 0, slots := 0, locals := 0 } : Room).cells ({ frames := 0, cells := 0, slots := 0, locals := 0 } : Room).slots) := by
  refine MetFree.of_bodySF (plainFor_of_name pn_13) hisR ?_
  intro p e s m args below meth c s₁ Bd hml0 hP hK
  obtain ⟨rfl, hZ, hh⟩ := hP
  have hx := Bd.exec
  have hby := Bd.bytes
  have hml : c.maxLocals = 1 := hml0
  have hown : s.vm.findClass "com/example/veindb/veindb/bench/MadeChain" = some m.cls := findClass_of_methodNamed Bd.named
  have hnm := (name_of_methodNamed Bd.named Bd.method).1
  have hlk : meth.locks = false := BodyLoose.notSynchronized Bd
  have X0 : Stand p l e ({ frames := 0, cells := 0, slots := 0, locals := 0 } : Room) s m #[(.ref a1)] below meth c s₁ [] 0 0 := Stand.of_body Bd
  have e0 : s₁.heap = h0 := by rw [← hh, Bd.state]; rfl
  have N := Fr.nil n0
  have K := Keep.refl h0 []
  refine own_start (cl := ({ frames := 0, cells := 0, slots := 0, locals := 0 } : Room).cells) (sl := ({ frames := 0, cells := 0, slots := 0, locals := 0 } : Room).slots) (Q := (Q_rm13 Z a1 q2 h0 n0)) (ef_rm13 m a1) ?_
  refine own_by (S' := (s₁.setTop (mkF m 1 #[.val (.ref a1)] [(.ref a1)]))) (fun _ k => XS.aloadN X0.here hx rfl (hb hby d13_0) rfl rfl k) ?_
  obtain ⟨T50, X50, e50, st50⟩ := getF X0 hx hZ hown (host := "") (Or.inl (hw _ (List.mem_of_getElem? (i := 80) rfl))) Via.refl e0 F_a1 (g := (mkF m 1 #[.val (.ref a1)] [(.ref a1)])) rfl rfl (hb hby d13_1)
  refine own_by (S' := (T50.setTop (mkF m 4 #[.val (.ref a1)] [(.long q2)]))) st50 ?_
  exact own_ret X50 hx (t := .long) Bd.returns rfl (Or.inr (Or.inl ⟨rfl, rfl, _, rfl⟩)) (hb hby d13_4) hlk (by decide : 0 ≤ _) (by decide : 0 ≤ _) (by rw [e50]; exact ⟨rfl, N, rfl⟩)
theorem pn_0 : plainName "com/example/veindb/veindb/bench/MadeChainCountTransactionPinLaw" = true := by first | (simp [plainName, overriddenIn]; done) | decide +kernel
theorem ef_rm0 (m : MethodId) (x0 : Int32) (x1 : Int32) (x2 : Int32) (x3 : Int32) (x4 : Int32) (x5 : Int32) : entryFrame m #[(.int x0), (.int x1), (.int x2), (.int x3), (.int x4), (.int x5)] maxLocals = mkF m 0 #[.val (.int x0), .val (.int x1), .val (.int x2), .val (.int x3), .val (.int x4), .val (.int x5), .unset, .unset, .unset, .unset, .unset, .unset, .unset, .unset, .unset, .unset, .unset, .unset, .unset, .unset, .unset, .unset, .unset] [] := by first | (simp [entryFrame, mkF, argsToLocals, Value.category, maxLocals]; done) | rfl
def Q_rm0 (Z : State) (p0 p1 p2 p3 p4 p5 : Int32) (h0 : Heap) (n0 : Nat) (v : Option Value) (h : Heap) (L : List Loc) : Prop := v = some (.int (1 : Int32)) ∧ Fr n0 L
theorem pd__28_29V : parseMethodDescriptor "()V" = some ⟨[], none⟩ := by decide +kernel
theorem pd__28IIIIZZ_29V : parseMethodDescriptor "(IIIIZZ)V" = some ⟨[.int, .int, .int, .int, .boolean, .boolean], none⟩ := by decide +kernel
theorem pd__28Z_29J : parseMethodDescriptor "(Z)J" = some ⟨[.boolean], some .long⟩ := by decide +kernel
theorem pd__28_29J : parseMethodDescriptor "()J" = some ⟨[], some .long⟩ := by decide +kernel
theorem pd__28_29I : parseMethodDescriptor "()I" = some ⟨[], some .int⟩ := by decide +kernel
set_option maxRecDepth 65536 in
set_option maxHeartbeats 40000000 in
theorem rm0 (l : Launch) (Z : State) (a0 : Array Value) (hw : ∀ d ∈ tables_1, d.before a0 Z = true) (ws : List Jvm.Cond) (p0 p1 p2 p3 p4 p5 : Int32) (h0 : Heap) (n0 : Nat) (Zn : n0 ≤ h0.size) :
    MetFree l x (head1 (Jvm.Cond.code x code maxLocals ret :: ws) room_1) (fun a U => a = #[(.int p0), (.int p1), (.int p2), (.int p3), (.int p4), (.int p5)] ∧ Z.Warmed39 U.vm ∧ U.heap = h0) (fun _ _ _ _ _ => True) (fun _ U o U' => ∃ v L, o = .returned v ∧ (Q_rm0 Z p0 p1 p2 p3 p4 p5 h0 n0) v U'.heap L ∧ FrameEnd U o U' L room_1.cells room_1.slots) := by
  refine MetFree.of_bodySF (plainFor_of_name pn_0) hisR ?_
  intro p e s m args below meth c s₁ Bd hml0 hP hK
  obtain ⟨rfl, hZ, hh⟩ := hP
  have hx := Bd.exec
  have hby := Bd.bytes
  have hml : c.maxLocals = 23 := hml0
  have hown : s.vm.findClass "com/example/veindb/veindb/bench/MadeChainCountTransactionPinLaw" = some m.cls := findClass_of_methodNamed Bd.named
  have hnm := (name_of_methodNamed Bd.named Bd.method).1
  have hlk : meth.locks = false := BodyLoose.notSynchronized Bd
  have X0 : Stand p l e room_1 s m #[(.int p0), (.int p1), (.int p2), (.int p3), (.int p4), (.int p5)] below meth c s₁ [] 0 0 := Stand.of_body Bd
  have e0 : s₁.heap = h0 := by rw [← hh, Bd.state]; rfl
  have N := Fr.nil n0
  have K := Keep.refl h0 []
  refine own_start (cl := room_1.cells) (sl := room_1.slots) (Q := (Q_rm0 Z p0 p1 p2 p3 p4 p5 h0 n0)) (ef_rm0 m p0 p1 p2 p3 p4 p5) ?_
  refine own_by (S' := (s₁.setTop (mkF m 2 #[.val (.int p0), .val (.int p1), .val (.int p2), .val (.int p3), .val (.int p4), .val (.int p5), .unset, .unset, .unset, .unset, .unset, .unset, .unset, .unset, .unset, .unset, .unset, .unset, .unset, .unset, .unset, .unset, .unset] [(.int p5)]))) (fun _ k => XS.iload X0.here hx rfl (hb hby at_0) rfl k) ?_
  refine own_by (S' := (s₁.setTop (mkF m 3 #[.val (.int p0), .val (.int p1), .val (.int p2), .val (.int p3), .val (.int p4), .val (.int p5), .unset, .unset, .unset, .unset, .unset, .unset, .unset, .unset, .unset, .unset, .unset, .unset, .unset, .unset, .unset, .unset, .unset] [(.int (1 : Int32)), (.int p5)]))) (fun _ k => XS.iconst X0.here hx rfl (hb hby at_2) k) ?_
  refine own_by (S' := (s₁.setTop (mkF m 4 #[.val (.int p0), .val (.int p1), .val (.int p2), .val (.int p3), .val (.int p4), .val (.int p5), .unset, .unset, .unset, .unset, .unset, .unset, .unset, .unset, .unset, .unset, .unset, .unset, .unset, .unset, .unset, .unset, .unset] [(.int (p5 &&& (1 : Int32)))]))) (fun _ k => XS.iand X0.here hx rfl (hb hby at_3) rfl k) ?_
  suffices J51 : ∀ (w1 : Int32), own_fin p e below s room_1.cells room_1.slots (Q_rm0 Z p0 p1 p2 p3 p4 p5 h0 n0) (s₁.setTop (mkF m 12 #[.val (.int p0), .val (.int p1), .val (.int p2), .val (.int p3), .val (.int p4), .val (.int p5), .unset, .unset, .unset, .unset, .unset, .unset, .unset, .unset, .unset, .unset, .unset, .unset, .unset, .unset, .unset, .unset, .unset] [(.int w1)])) by
    by_cases hc52 : (p5 &&& (1 : Int32)) = (0 : Int32)
    · refine own_by (S' := (s₁.setTop (mkF m 11 #[.val (.int p0), .val (.int p1), .val (.int p2), .val (.int p3), .val (.int p4), .val (.int p5), .unset, .unset, .unset, .unset, .unset, .unset, .unset, .unset, .unset, .unset, .unset, .unset, .unset, .unset, .unset, .unset, .unset] []))) (fun _ k => XS.ifYes X0.here hx rfl (pc0 := 4) (pc' := 11) rfl (hb hby at_4) rfl ((if0 _ _).trans (teq (hc52 : (p5 &&& (1 : Int32)) = (0 : Int32))).1) (by decide) (by decide) k) ?_
      refine own_by (S' := (s₁.setTop (mkF m 12 #[.val (.int p0), .val (.int p1), .val (.int p2), .val (.int p3), .val (.int p4), .val (.int p5), .unset, .unset, .unset, .unset, .unset, .unset, .unset, .unset, .unset, .unset, .unset, .unset, .unset, .unset, .unset, .unset, .unset] [(.int (0 : Int32))]))) (fun _ k => XS.iconst X0.here hx rfl (hb hby at_11) k) ?_
      exact J51 (0 : Int32)
    · refine own_by (S' := (s₁.setTop (mkF m 7 #[.val (.int p0), .val (.int p1), .val (.int p2), .val (.int p3), .val (.int p4), .val (.int p5), .unset, .unset, .unset, .unset, .unset, .unset, .unset, .unset, .unset, .unset, .unset, .unset, .unset, .unset, .unset, .unset, .unset] []))) (fun _ k => XS.ifNo X0.here hx rfl (hb hby at_4) rfl ((if0 _ _).trans (feq (hc52 : ¬ ((p5 &&& (1 : Int32)) = (0 : Int32)))).1) k) ?_
      refine own_by (S' := (s₁.setTop (mkF m 8 #[.val (.int p0), .val (.int p1), .val (.int p2), .val (.int p3), .val (.int p4), .val (.int p5), .unset, .unset, .unset, .unset, .unset, .unset, .unset, .unset, .unset, .unset, .unset, .unset, .unset, .unset, .unset, .unset, .unset] [(.int (1 : Int32))]))) (fun _ k => XS.iconst X0.here hx rfl (hb hby at_7) k) ?_
      refine own_by (S' := (s₁.setTop (mkF m 12 #[.val (.int p0), .val (.int p1), .val (.int p2), .val (.int p3), .val (.int p4), .val (.int p5), .unset, .unset, .unset, .unset, .unset, .unset, .unset, .unset, .unset, .unset, .unset, .unset, .unset, .unset, .unset, .unset, .unset] [(.int (1 : Int32))]))) (fun _ k => XS.goto X0.here hx rfl (pc0 := 8) (pc' := 12) rfl (hb hby at_8) (by decide) (by decide) k) ?_
      exact J51 (1 : Int32)
  intro w1
  refine own_by (S' := (s₁.setTop (mkF m 14 #[.val (.int p0), .val (.int p1), .val (.int p2), .val (.int p3), .val (.int p4), .val (.int p5), .val (.int w1), .unset, .unset, .unset, .unset, .unset, .unset, .unset, .unset, .unset, .unset, .unset, .unset, .unset, .unset, .unset, .unset] []))) (fun _ k => XS.istore X0.here hx rfl (hb hby at_12) rfl (l' := #[.val (.int p0), .val (.int p1), .val (.int p2), .val (.int p3), .val (.int p4), .val (.int p5), .val (.int w1), .unset, .unset, .unset, .unset, .unset, .unset, .unset, .unset, .unset, .unset, .unset, .unset, .unset, .unset, .unset, .unset]) rfl k) ?_
  refine own_by (S' := (s₁.setTop (mkF m 16 #[.val (.int p0), .val (.int p1), .val (.int p2), .val (.int p3), .val (.int p4), .val (.int p5), .val (.int w1), .unset, .unset, .unset, .unset, .unset, .unset, .unset, .unset, .unset, .unset, .unset, .unset, .unset, .unset, .unset, .unset] [(.int p5)]))) (fun _ k => XS.iload X0.here hx rfl (hb hby at_14) rfl k) ?_
  refine own_by (S' := (s₁.setTop (mkF m 17 #[.val (.int p0), .val (.int p1), .val (.int p2), .val (.int p3), .val (.int p4), .val (.int p5), .val (.int w1), .unset, .unset, .unset, .unset, .unset, .unset, .unset, .unset, .unset, .unset, .unset, .unset, .unset, .unset, .unset, .unset] [(.int (2 : Int32)), (.int p5)]))) (fun _ k => XS.iconst X0.here hx rfl (hb hby at_16) k) ?_
  refine own_by (S' := (s₁.setTop (mkF m 18 #[.val (.int p0), .val (.int p1), .val (.int p2), .val (.int p3), .val (.int p4), .val (.int p5), .val (.int w1), .unset, .unset, .unset, .unset, .unset, .unset, .unset, .unset, .unset, .unset, .unset, .unset, .unset, .unset, .unset, .unset] [(.int (p5 &&& (2 : Int32)))]))) (fun _ k => XS.iand X0.here hx rfl (hb hby at_17) rfl k) ?_
  suffices J53 : ∀ (g1 : Int32), own_fin p e below s room_1.cells room_1.slots (Q_rm0 Z p0 p1 p2 p3 p4 p5 h0 n0) (s₁.setTop (mkF m 26 #[.val (.int p0), .val (.int p1), .val (.int p2), .val (.int p3), .val (.int p4), .val (.int p5), .val (.int w1), .unset, .unset, .unset, .unset, .unset, .unset, .unset, .unset, .unset, .unset, .unset, .unset, .unset, .unset, .unset, .unset] [(.int g1)])) by
    by_cases hc54 : (p5 &&& (2 : Int32)) = (0 : Int32)
    · refine own_by (S' := (s₁.setTop (mkF m 25 #[.val (.int p0), .val (.int p1), .val (.int p2), .val (.int p3), .val (.int p4), .val (.int p5), .val (.int w1), .unset, .unset, .unset, .unset, .unset, .unset, .unset, .unset, .unset, .unset, .unset, .unset, .unset, .unset, .unset, .unset] []))) (fun _ k => XS.ifYes X0.here hx rfl (pc0 := 18) (pc' := 25) rfl (hb hby at_18) rfl ((if0 _ _).trans (teq (hc54 : (p5 &&& (2 : Int32)) = (0 : Int32))).1) (by decide) (by decide) k) ?_
      refine own_by (S' := (s₁.setTop (mkF m 26 #[.val (.int p0), .val (.int p1), .val (.int p2), .val (.int p3), .val (.int p4), .val (.int p5), .val (.int w1), .unset, .unset, .unset, .unset, .unset, .unset, .unset, .unset, .unset, .unset, .unset, .unset, .unset, .unset, .unset, .unset] [(.int (0 : Int32))]))) (fun _ k => XS.iconst X0.here hx rfl (hb hby at_25) k) ?_
      exact J53 (0 : Int32)
    · refine own_by (S' := (s₁.setTop (mkF m 21 #[.val (.int p0), .val (.int p1), .val (.int p2), .val (.int p3), .val (.int p4), .val (.int p5), .val (.int w1), .unset, .unset, .unset, .unset, .unset, .unset, .unset, .unset, .unset, .unset, .unset, .unset, .unset, .unset, .unset, .unset] []))) (fun _ k => XS.ifNo X0.here hx rfl (hb hby at_18) rfl ((if0 _ _).trans (feq (hc54 : ¬ ((p5 &&& (2 : Int32)) = (0 : Int32)))).1) k) ?_
      refine own_by (S' := (s₁.setTop (mkF m 22 #[.val (.int p0), .val (.int p1), .val (.int p2), .val (.int p3), .val (.int p4), .val (.int p5), .val (.int w1), .unset, .unset, .unset, .unset, .unset, .unset, .unset, .unset, .unset, .unset, .unset, .unset, .unset, .unset, .unset, .unset] [(.int (1 : Int32))]))) (fun _ k => XS.iconst X0.here hx rfl (hb hby at_21) k) ?_
      refine own_by (S' := (s₁.setTop (mkF m 26 #[.val (.int p0), .val (.int p1), .val (.int p2), .val (.int p3), .val (.int p4), .val (.int p5), .val (.int w1), .unset, .unset, .unset, .unset, .unset, .unset, .unset, .unset, .unset, .unset, .unset, .unset, .unset, .unset, .unset, .unset] [(.int (1 : Int32))]))) (fun _ k => XS.goto X0.here hx rfl (pc0 := 22) (pc' := 26) rfl (hb hby at_22) (by decide) (by decide) k) ?_
      exact J53 (1 : Int32)
  intro g1
  refine own_by (S' := (s₁.setTop (mkF m 28 #[.val (.int p0), .val (.int p1), .val (.int p2), .val (.int p3), .val (.int p4), .val (.int p5), .val (.int w1), .val (.int g1), .unset, .unset, .unset, .unset, .unset, .unset, .unset, .unset, .unset, .unset, .unset, .unset, .unset, .unset, .unset] []))) (fun _ k => XS.istore X0.here hx rfl (hb hby at_26) rfl (l' := #[.val (.int p0), .val (.int p1), .val (.int p2), .val (.int p3), .val (.int p4), .val (.int p5), .val (.int w1), .val (.int g1), .unset, .unset, .unset, .unset, .unset, .unset, .unset, .unset, .unset, .unset, .unset, .unset, .unset, .unset, .unset]) rfl k) ?_
  refine own_by (S' := (s₁.setTop (mkF m 30 #[.val (.int p0), .val (.int p1), .val (.int p2), .val (.int p3), .val (.int p4), .val (.int p5), .val (.int w1), .val (.int g1), .unset, .unset, .unset, .unset, .unset, .unset, .unset, .unset, .unset, .unset, .unset, .unset, .unset, .unset, .unset] [(.int p5)]))) (fun _ k => XS.iload X0.here hx rfl (hb hby at_28) rfl k) ?_
  refine own_by (S' := (s₁.setTop (mkF m 31 #[.val (.int p0), .val (.int p1), .val (.int p2), .val (.int p3), .val (.int p4), .val (.int p5), .val (.int w1), .val (.int g1), .unset, .unset, .unset, .unset, .unset, .unset, .unset, .unset, .unset, .unset, .unset, .unset, .unset, .unset, .unset] [(.int (4 : Int32)), (.int p5)]))) (fun _ k => XS.iconst X0.here hx rfl (hb hby at_30) k) ?_
  refine own_by (S' := (s₁.setTop (mkF m 32 #[.val (.int p0), .val (.int p1), .val (.int p2), .val (.int p3), .val (.int p4), .val (.int p5), .val (.int w1), .val (.int g1), .unset, .unset, .unset, .unset, .unset, .unset, .unset, .unset, .unset, .unset, .unset, .unset, .unset, .unset, .unset] [(.int (p5 &&& (4 : Int32)))]))) (fun _ k => XS.iand X0.here hx rfl (hb hby at_31) rfl k) ?_
  suffices J55 : ∀ (w2 : Int32), own_fin p e below s room_1.cells room_1.slots (Q_rm0 Z p0 p1 p2 p3 p4 p5 h0 n0) (s₁.setTop (mkF m 40 #[.val (.int p0), .val (.int p1), .val (.int p2), .val (.int p3), .val (.int p4), .val (.int p5), .val (.int w1), .val (.int g1), .unset, .unset, .unset, .unset, .unset, .unset, .unset, .unset, .unset, .unset, .unset, .unset, .unset, .unset, .unset] [(.int w2)])) by
    by_cases hc56 : (p5 &&& (4 : Int32)) = (0 : Int32)
    · refine own_by (S' := (s₁.setTop (mkF m 39 #[.val (.int p0), .val (.int p1), .val (.int p2), .val (.int p3), .val (.int p4), .val (.int p5), .val (.int w1), .val (.int g1), .unset, .unset, .unset, .unset, .unset, .unset, .unset, .unset, .unset, .unset, .unset, .unset, .unset, .unset, .unset] []))) (fun _ k => XS.ifYes X0.here hx rfl (pc0 := 32) (pc' := 39) rfl (hb hby at_32) rfl ((if0 _ _).trans (teq (hc56 : (p5 &&& (4 : Int32)) = (0 : Int32))).1) (by decide) (by decide) k) ?_
      refine own_by (S' := (s₁.setTop (mkF m 40 #[.val (.int p0), .val (.int p1), .val (.int p2), .val (.int p3), .val (.int p4), .val (.int p5), .val (.int w1), .val (.int g1), .unset, .unset, .unset, .unset, .unset, .unset, .unset, .unset, .unset, .unset, .unset, .unset, .unset, .unset, .unset] [(.int (0 : Int32))]))) (fun _ k => XS.iconst X0.here hx rfl (hb hby at_39) k) ?_
      exact J55 (0 : Int32)
    · refine own_by (S' := (s₁.setTop (mkF m 35 #[.val (.int p0), .val (.int p1), .val (.int p2), .val (.int p3), .val (.int p4), .val (.int p5), .val (.int w1), .val (.int g1), .unset, .unset, .unset, .unset, .unset, .unset, .unset, .unset, .unset, .unset, .unset, .unset, .unset, .unset, .unset] []))) (fun _ k => XS.ifNo X0.here hx rfl (hb hby at_32) rfl ((if0 _ _).trans (feq (hc56 : ¬ ((p5 &&& (4 : Int32)) = (0 : Int32)))).1) k) ?_
      refine own_by (S' := (s₁.setTop (mkF m 36 #[.val (.int p0), .val (.int p1), .val (.int p2), .val (.int p3), .val (.int p4), .val (.int p5), .val (.int w1), .val (.int g1), .unset, .unset, .unset, .unset, .unset, .unset, .unset, .unset, .unset, .unset, .unset, .unset, .unset, .unset, .unset] [(.int (1 : Int32))]))) (fun _ k => XS.iconst X0.here hx rfl (hb hby at_35) k) ?_
      refine own_by (S' := (s₁.setTop (mkF m 40 #[.val (.int p0), .val (.int p1), .val (.int p2), .val (.int p3), .val (.int p4), .val (.int p5), .val (.int w1), .val (.int g1), .unset, .unset, .unset, .unset, .unset, .unset, .unset, .unset, .unset, .unset, .unset, .unset, .unset, .unset, .unset] [(.int (1 : Int32))]))) (fun _ k => XS.goto X0.here hx rfl (pc0 := 36) (pc' := 40) rfl (hb hby at_36) (by decide) (by decide) k) ?_
      exact J55 (1 : Int32)
  intro w2
  refine own_by (S' := (s₁.setTop (mkF m 42 #[.val (.int p0), .val (.int p1), .val (.int p2), .val (.int p3), .val (.int p4), .val (.int p5), .val (.int w1), .val (.int g1), .val (.int w2), .unset, .unset, .unset, .unset, .unset, .unset, .unset, .unset, .unset, .unset, .unset, .unset, .unset, .unset] []))) (fun _ k => XS.istore X0.here hx rfl (hb hby at_40) rfl (l' := #[.val (.int p0), .val (.int p1), .val (.int p2), .val (.int p3), .val (.int p4), .val (.int p5), .val (.int w1), .val (.int g1), .val (.int w2), .unset, .unset, .unset, .unset, .unset, .unset, .unset, .unset, .unset, .unset, .unset, .unset, .unset, .unset]) rfl k) ?_
  refine own_by (S' := (s₁.setTop (mkF m 44 #[.val (.int p0), .val (.int p1), .val (.int p2), .val (.int p3), .val (.int p4), .val (.int p5), .val (.int w1), .val (.int g1), .val (.int w2), .unset, .unset, .unset, .unset, .unset, .unset, .unset, .unset, .unset, .unset, .unset, .unset, .unset, .unset] [(.int p5)]))) (fun _ k => XS.iload X0.here hx rfl (hb hby at_42) rfl k) ?_
  refine own_by (S' := (s₁.setTop (mkF m 46 #[.val (.int p0), .val (.int p1), .val (.int p2), .val (.int p3), .val (.int p4), .val (.int p5), .val (.int w1), .val (.int g1), .val (.int w2), .unset, .unset, .unset, .unset, .unset, .unset, .unset, .unset, .unset, .unset, .unset, .unset, .unset, .unset] [(.int (8 : Int32)), (.int p5)]))) (fun _ k => XS.bipush X0.here hx rfl (hb hby at_44) k) ?_
  refine own_by (S' := (s₁.setTop (mkF m 47 #[.val (.int p0), .val (.int p1), .val (.int p2), .val (.int p3), .val (.int p4), .val (.int p5), .val (.int w1), .val (.int g1), .val (.int w2), .unset, .unset, .unset, .unset, .unset, .unset, .unset, .unset, .unset, .unset, .unset, .unset, .unset, .unset] [(.int (p5 &&& (8 : Int32)))]))) (fun _ k => XS.iand X0.here hx rfl (hb hby at_46) rfl k) ?_
  suffices J57 : ∀ (g2 : Int32), own_fin p e below s room_1.cells room_1.slots (Q_rm0 Z p0 p1 p2 p3 p4 p5 h0 n0) (s₁.setTop (mkF m 55 #[.val (.int p0), .val (.int p1), .val (.int p2), .val (.int p3), .val (.int p4), .val (.int p5), .val (.int w1), .val (.int g1), .val (.int w2), .unset, .unset, .unset, .unset, .unset, .unset, .unset, .unset, .unset, .unset, .unset, .unset, .unset, .unset] [(.int g2)])) by
    by_cases hc58 : (p5 &&& (8 : Int32)) = (0 : Int32)
    · refine own_by (S' := (s₁.setTop (mkF m 54 #[.val (.int p0), .val (.int p1), .val (.int p2), .val (.int p3), .val (.int p4), .val (.int p5), .val (.int w1), .val (.int g1), .val (.int w2), .unset, .unset, .unset, .unset, .unset, .unset, .unset, .unset, .unset, .unset, .unset, .unset, .unset, .unset] []))) (fun _ k => XS.ifYes X0.here hx rfl (pc0 := 47) (pc' := 54) rfl (hb hby at_47) rfl ((if0 _ _).trans (teq (hc58 : (p5 &&& (8 : Int32)) = (0 : Int32))).1) (by decide) (by decide) k) ?_
      refine own_by (S' := (s₁.setTop (mkF m 55 #[.val (.int p0), .val (.int p1), .val (.int p2), .val (.int p3), .val (.int p4), .val (.int p5), .val (.int w1), .val (.int g1), .val (.int w2), .unset, .unset, .unset, .unset, .unset, .unset, .unset, .unset, .unset, .unset, .unset, .unset, .unset, .unset] [(.int (0 : Int32))]))) (fun _ k => XS.iconst X0.here hx rfl (hb hby at_54) k) ?_
      exact J57 (0 : Int32)
    · refine own_by (S' := (s₁.setTop (mkF m 50 #[.val (.int p0), .val (.int p1), .val (.int p2), .val (.int p3), .val (.int p4), .val (.int p5), .val (.int w1), .val (.int g1), .val (.int w2), .unset, .unset, .unset, .unset, .unset, .unset, .unset, .unset, .unset, .unset, .unset, .unset, .unset, .unset] []))) (fun _ k => XS.ifNo X0.here hx rfl (hb hby at_47) rfl ((if0 _ _).trans (feq (hc58 : ¬ ((p5 &&& (8 : Int32)) = (0 : Int32)))).1) k) ?_
      refine own_by (S' := (s₁.setTop (mkF m 51 #[.val (.int p0), .val (.int p1), .val (.int p2), .val (.int p3), .val (.int p4), .val (.int p5), .val (.int w1), .val (.int g1), .val (.int w2), .unset, .unset, .unset, .unset, .unset, .unset, .unset, .unset, .unset, .unset, .unset, .unset, .unset, .unset] [(.int (1 : Int32))]))) (fun _ k => XS.iconst X0.here hx rfl (hb hby at_50) k) ?_
      refine own_by (S' := (s₁.setTop (mkF m 55 #[.val (.int p0), .val (.int p1), .val (.int p2), .val (.int p3), .val (.int p4), .val (.int p5), .val (.int w1), .val (.int g1), .val (.int w2), .unset, .unset, .unset, .unset, .unset, .unset, .unset, .unset, .unset, .unset, .unset, .unset, .unset, .unset] [(.int (1 : Int32))]))) (fun _ k => XS.goto X0.here hx rfl (pc0 := 51) (pc' := 55) rfl (hb hby at_51) (by decide) (by decide) k) ?_
      exact J57 (1 : Int32)
  intro g2
  refine own_by (S' := (s₁.setTop (mkF m 57 #[.val (.int p0), .val (.int p1), .val (.int p2), .val (.int p3), .val (.int p4), .val (.int p5), .val (.int w1), .val (.int g1), .val (.int w2), .val (.int g2), .unset, .unset, .unset, .unset, .unset, .unset, .unset, .unset, .unset, .unset, .unset, .unset, .unset] []))) (fun _ k => XS.istore X0.here hx rfl (hb hby at_55) rfl (l' := #[.val (.int p0), .val (.int p1), .val (.int p2), .val (.int p3), .val (.int p4), .val (.int p5), .val (.int w1), .val (.int g1), .val (.int w2), .val (.int g2), .unset, .unset, .unset, .unset, .unset, .unset, .unset, .unset, .unset, .unset, .unset, .unset, .unset]) rfl k) ?_
  obtain ⟨T59, h59, X59, e59, E59, A59, D59, -, st59⟩ := newO X0 hx hZ hown (hw _ (List.mem_of_getElem? (i := 0) rfl)) (hw _ (List.mem_of_getElem? (i := 1) rfl)) (hw _ (List.mem_of_getElem? (i := 2) rfl)) e0 (g := (mkF m 57 #[.val (.int p0), .val (.int p1), .val (.int p2), .val (.int p3), .val (.int p4), .val (.int p5), .val (.int w1), .val (.int g1), .val (.int w2), .val (.int g2), .unset, .unset, .unset, .unset, .unset, .unset, .unset, .unset, .unset, .unset, .unset, .unset, .unset] [])) rfl (hb hby at_57) (by decide : 0 + 1 ≤ _) (by decide : 0 + 11 ≤ _)
  obtain ⟨b59, g59⟩ : ∃ z, z = h0.size := ⟨_, rfl⟩
  rw [← g59] at A59 D59 st59
  have o59 : n0 ≤ b59 := Nat.le_trans Zn (Nat.le_of_eq g59.symm)
  have z59 : h0.size ≤ b59 := Nat.le_trans K.1 (Nat.le_of_eq g59.symm)
  have Zn := Nat.le_trans Zn E59.1
  have K := K.ext E59
  have E_b59 := A59
  have F_b59_mTransactions : Fld Z h59 b59 "com/example/veindb/veindb/bench/MadeChain" "mTransactions" "J" (.long (0 : Int64)) := D59 (Or.inl (hw _ (List.mem_of_getElem? (i := 15) rfl))) (ty := .long) (by decide)
  have F_b59_mWitnessTransactions : Fld Z h59 b59 "com/example/veindb/veindb/bench/MadeChain" "mWitnessTransactions" "J" (.long (0 : Int64)) := D59 (Or.inl (hw _ (List.mem_of_getElem? (i := 17) rfl))) (ty := .long) (by decide)
  have F_b59_mHotHistory : Fld Z h59 b59 "com/example/veindb/veindb/bench/MadeChain" "mHotHistory" "J" (.long (0 : Int64)) := D59 (Or.inl (hw _ (List.mem_of_getElem? (i := 19) rfl))) (ty := .long) (by decide)
  have F_b59_mInputs : Fld Z h59 b59 "com/example/veindb/veindb/bench/MadeChain" "mInputs" "J" (.long (0 : Int64)) := D59 (Or.inl (hw _ (List.mem_of_getElem? (i := 21) rfl))) (ty := .long) (by decide)
  have F_b59_mOldInputs : Fld Z h59 b59 "com/example/veindb/veindb/bench/MadeChain" "mOldInputs" "J" (.long (0 : Int64)) := D59 (Or.inl (hw _ (List.mem_of_getElem? (i := 23) rfl))) (ty := .long) (by decide)
  have F_b59_mOutputs : Fld Z h59 b59 "com/example/veindb/veindb/bench/MadeChain" "mOutputs" "J" (.long (0 : Int64)) := D59 (Or.inl (hw _ (List.mem_of_getElem? (i := 25) rfl))) (ty := .long) (by decide)
  have F_b59_mOpReturnOutputs : Fld Z h59 b59 "com/example/veindb/veindb/bench/MadeChain" "mOpReturnOutputs" "J" (.long (0 : Int64)) := D59 (Or.inl (hw _ (List.mem_of_getElem? (i := 27) rfl))) (ty := .long) (by decide)
  have F_b59_mBlocks : Fld Z h59 b59 "com/example/veindb/veindb/bench/MadeChain" "mBlocks" "I" (.int (0 : Int32)) := D59 (Or.inl (hw _ (List.mem_of_getElem? (i := 74) rfl))) (ty := .int) (by decide)
  have F_b59_mDistinctScripts : Fld Z h59 b59 "com/example/veindb/veindb/bench/MadeChain" "mDistinctScripts" "J" (.long (0 : Int64)) := D59 (Or.inl (hw _ (List.mem_of_getElem? (i := 81) rfl))) (ty := .long) (by decide)
  refine own_by (S' := (T59.setTop (mkF m 60 #[.val (.int p0), .val (.int p1), .val (.int p2), .val (.int p3), .val (.int p4), .val (.int p5), .val (.int w1), .val (.int g1), .val (.int w2), .val (.int g2), .unset, .unset, .unset, .unset, .unset, .unset, .unset, .unset, .unset, .unset, .unset, .unset, .unset] [(.ref b59)]))) st59 ?_
  refine own_by (S' := (T59.setTop (mkF m 61 #[.val (.int p0), .val (.int p1), .val (.int p2), .val (.int p3), .val (.int p4), .val (.int p5), .val (.int w1), .val (.int g1), .val (.int w2), .val (.int g2), .unset, .unset, .unset, .unset, .unset, .unset, .unset, .unset, .unset, .unset, .unset, .unset, .unset] [(.ref b59), (.ref b59)]))) (fun _ k => XS.dup X59.here hx rfl (hb hby at_60) rfl rfl k) ?_
  obtain ⟨_, _, ⟨T60, L60, k60, n60⟩, -, X60, ⟨Lc60, hQ60, l60, y60, z60⟩, st60⟩ := X59.specialBack hx (y := (⟨"com/example/veindb/veindb/bench/MadeChain", "<init>", "()V"⟩ : MethodName)) rfl hown (mvT hZ (hw _ (List.mem_of_getElem? (i := 3) rfl))) (mvT hZ (hw _ (List.mem_of_getElem? (i := 4) rfl))) (mvT hZ (hw _ (List.mem_of_getElem? (i := 5) rfl))) (by decide) (backOf (W := 1) (rm1 l Z a0 hw [] b59 h59 n0 Zn) hZ (hw _ (List.mem_of_getElem? (i := 5) rfl)) (hw _ (List.mem_of_getElem? (i := 2) rfl)) (by decide) (by decide)) (g := (mkF m 61 #[.val (.int p0), .val (.int p1), .val (.int p2), .val (.int p3), .val (.int p4), .val (.int p5), .val (.int w1), .val (.int g1), .val (.int w2), .val (.int g2), .unset, .unset, .unset, .unset, .unset, .unset, .unset, .unset, .unset, .unset, .unset, .unset, .unset] [(.ref b59), (.ref b59)])) rfl (by rw [hml]; rfl) (Steps.refl _) (a := b59) (argsL := []) (rest := [(.ref b59)]) (lenOf pd__28_29V rfl) rfl (by show 2 * 0 + _ ≤ _; exact Nat.le_of_eq rfl) (hb hby at_61) (fun _ _ => ⟨rfl, e59, (by decide : 1 + 0 ≤ _), (by decide : 11 + 0 ≤ _)⟩)
  dsimp only [Pt.U, Pt.locs, Pt.cells, Pt.slots] at X60 l60 y60 z60 st60 hQ60
  subst l60 y60 z60
  obtain ⟨rfl, N60q, ehn⟩ := hQ60
  have N := Fr.app N N60q
  refine own_tr (S' := (T60.setTop (mkF m 64 #[.val (.int p0), .val (.int p1), .val (.int p2), .val (.int p3), .val (.int p4), .val (.int p5), .val (.int w1), .val (.int g1), .val (.int w2), .val (.int g2), .unset, .unset, .unset, .unset, .unset, .unset, .unset, .unset, .unset, .unset, .unset, .unset, .unset] [(.ref b59)]))) st60 ?_
  refine own_by (S' := (T60.setTop (mkF m 66 #[.val (.int p0), .val (.int p1), .val (.int p2), .val (.int p3), .val (.int p4), .val (.int p5), .val (.int w1), .val (.int g1), .val (.int w2), .val (.int g2), .val (.ref b59), .unset, .unset, .unset, .unset, .unset, .unset, .unset, .unset, .unset, .unset, .unset, .unset] []))) (fun _ k => XS.astore X60.here hx rfl (hb hby at_64) rfl rfl (l' := #[.val (.int p0), .val (.int p1), .val (.int p2), .val (.int p3), .val (.int p4), .val (.int p5), .val (.int w1), .val (.int g1), .val (.int w2), .val (.int g2), .val (.ref b59), .unset, .unset, .unset, .unset, .unset, .unset, .unset, .unset, .unset, .unset, .unset, .unset]) rfl k) ?_
  refine own_by (S' := (T60.setTop (mkF m 68 #[.val (.int p0), .val (.int p1), .val (.int p2), .val (.int p3), .val (.int p4), .val (.int p5), .val (.int w1), .val (.int g1), .val (.int w2), .val (.int g2), .val (.ref b59), .unset, .unset, .unset, .unset, .unset, .unset, .unset, .unset, .unset, .unset, .unset, .unset] [(.ref b59)]))) (fun _ k => XS.aload X60.here hx rfl (hb hby at_66) rfl rfl k) ?_
  refine own_by (S' := (T60.setTop (mkF m 69 #[.val (.int p0), .val (.int p1), .val (.int p2), .val (.int p3), .val (.int p4), .val (.int p5), .val (.int w1), .val (.int g1), .val (.int w2), .val (.int g2), .val (.ref b59), .unset, .unset, .unset, .unset, .unset, .unset, .unset, .unset, .unset, .unset, .unset, .unset] [(.int p0), (.ref b59)]))) (fun _ k => XS.iloadN X60.here hx rfl (hb hby at_68) rfl k) ?_
  refine own_by (S' := (T60.setTop (mkF m 70 #[.val (.int p0), .val (.int p1), .val (.int p2), .val (.int p3), .val (.int p4), .val (.int p5), .val (.int w1), .val (.int g1), .val (.int w2), .val (.int g2), .val (.ref b59), .unset, .unset, .unset, .unset, .unset, .unset, .unset, .unset, .unset, .unset, .unset, .unset] [(.int p1), (.int p0), (.ref b59)]))) (fun _ k => XS.iloadN X60.here hx rfl (hb hby at_69) rfl k) ?_
  refine own_by (S' := (T60.setTop (mkF m 71 #[.val (.int p0), .val (.int p1), .val (.int p2), .val (.int p3), .val (.int p4), .val (.int p5), .val (.int w1), .val (.int g1), .val (.int w2), .val (.int g2), .val (.ref b59), .unset, .unset, .unset, .unset, .unset, .unset, .unset, .unset, .unset, .unset, .unset, .unset] [(.int p2), (.int p1), (.int p0), (.ref b59)]))) (fun _ k => XS.iloadN X60.here hx rfl (hb hby at_70) rfl k) ?_
  refine own_by (S' := (T60.setTop (mkF m 72 #[.val (.int p0), .val (.int p1), .val (.int p2), .val (.int p3), .val (.int p4), .val (.int p5), .val (.int w1), .val (.int g1), .val (.int w2), .val (.int g2), .val (.ref b59), .unset, .unset, .unset, .unset, .unset, .unset, .unset, .unset, .unset, .unset, .unset, .unset] [(.int p3), (.int p2), (.int p1), (.int p0), (.ref b59)]))) (fun _ k => XS.iloadN X60.here hx rfl (hb hby at_71) rfl k) ?_
  refine own_by (S' := (T60.setTop (mkF m 74 #[.val (.int p0), .val (.int p1), .val (.int p2), .val (.int p3), .val (.int p4), .val (.int p5), .val (.int w1), .val (.int g1), .val (.int w2), .val (.int g2), .val (.ref b59), .unset, .unset, .unset, .unset, .unset, .unset, .unset, .unset, .unset, .unset, .unset, .unset] [(.int w1), (.int p3), (.int p2), (.int p1), (.int p0), (.ref b59)]))) (fun _ k => XS.iload X60.here hx rfl (hb hby at_72) rfl k) ?_
  refine own_by (S' := (T60.setTop (mkF m 76 #[.val (.int p0), .val (.int p1), .val (.int p2), .val (.int p3), .val (.int p4), .val (.int p5), .val (.int w1), .val (.int g1), .val (.int w2), .val (.int g2), .val (.ref b59), .unset, .unset, .unset, .unset, .unset, .unset, .unset, .unset, .unset, .unset, .unset, .unset] [(.int g1), (.int w1), (.int p3), (.int p2), (.int p1), (.int p0), (.ref b59)]))) (fun _ k => XS.iload X60.here hx rfl (hb hby at_74) rfl k) ?_
  obtain ⟨cq61, kq61, q61a, q61b, q61c⟩ := isOf hZ ehn E_b59
  obtain ⟨_, _, ⟨T61, L61, k61, n61⟩, -, X61, ⟨Lc61, hQ61, l61, y61, z61⟩, st61⟩ := X60.virtualBack hx (y := (⟨"com/example/veindb/veindb/bench/MadeChain", "countTransaction", "(IIIIZZ)V"⟩ : MethodName)) (z := (⟨"com/example/veindb/veindb/bench/MadeChain", "countTransaction", "(IIIIZZ)V"⟩ : MethodName)) hown (mvT hZ (hw _ (List.mem_of_getElem? (i := 9) rfl))) (mvT hZ (hw _ (List.mem_of_getElem? (i := 10) rfl))) (notFace_of_selects (args := #[]) (mvT hZ (hw _ (List.mem_of_getElem? (i := 12) rfl)))) (mvT hZ (hw _ (List.mem_of_getElem? (i := 12) rfl))) (mvT hZ (hw _ (List.mem_of_getElem? (i := 11) rfl))) (by decide) (backOf (W := 0) (rm3 l Z a0 hw [] b59 p0 p1 p2 p3 w1 g1 (0 : Int64) (0 : Int64) (0 : Int64) (0 : Int64) (0 : Int64) (0 : Int64) (0 : Int64) h59 n0 Zn E_b59 F_b59_mTransactions F_b59_mWitnessTransactions F_b59_mHotHistory F_b59_mInputs F_b59_mOldInputs F_b59_mOutputs F_b59_mOpReturnOutputs F_b59_mBlocks F_b59_mDistinctScripts o59) hZ (hw _ (List.mem_of_getElem? (i := 13) rfl)) (hw _ (List.mem_of_getElem? (i := 2) rfl)) (by decide) (by decide)) q61a q61c (g := (mkF m 76 #[.val (.int p0), .val (.int p1), .val (.int p2), .val (.int p3), .val (.int p4), .val (.int p5), .val (.int w1), .val (.int g1), .val (.int w2), .val (.int g2), .val (.ref b59), .unset, .unset, .unset, .unset, .unset, .unset, .unset, .unset, .unset, .unset, .unset, .unset] [(.int g1), (.int w1), (.int p3), (.int p2), (.int p1), (.int p0), (.ref b59)])) rfl (by rw [hml]; rfl) (Steps.refl _) (argsL := [(.int p0), (.int p1), (.int p2), (.int p3), (.int w1), (.int g1)]) (rest := []) (lenOf pd__28IIIIZZ_29V rfl) rfl (by show 2 * 0 + _ ≤ _; exact Nat.le_of_eq rfl) (hb hby at_76) (fun _ _ => ⟨rfl, ehn, (by decide : 1 + 0 ≤ _), (by decide : 11 + 0 ≤ _)⟩)
  dsimp only [Pt.U, Pt.locs, Pt.cells, Pt.slots] at X61 l61 y61 z61 st61 hQ61
  subst l61 y61 z61
  obtain ⟨rfl, N61q, Kc, F_b59_mTransactions, F_b59_mWitnessTransactions, F_b59_mHotHistory, F_b59_mInputs, F_b59_mOldInputs, F_b59_mOutputs, F_b59_mOpReturnOutputs, F_b59_mBlocks, F_b59_mDistinctScripts⟩ := hQ61
  have N := Fr.app N N61q
  have E_b59 := E_b59.keep Kc
  have Zn : n0 ≤ _ := Nat.le_trans Zn Kc.1
  have K := K.trans Kc (allS (Or.inr z59) all0)
  refine own_tr (S' := (T61.setTop (mkF m 79 #[.val (.int p0), .val (.int p1), .val (.int p2), .val (.int p3), .val (.int p4), .val (.int p5), .val (.int w1), .val (.int g1), .val (.int w2), .val (.int g2), .val (.ref b59), .unset, .unset, .unset, .unset, .unset, .unset, .unset, .unset, .unset, .unset, .unset, .unset] []))) st61 ?_
  refine own_by (S' := (T61.setTop (mkF m 81 #[.val (.int p0), .val (.int p1), .val (.int p2), .val (.int p3), .val (.int p4), .val (.int p5), .val (.int w1), .val (.int g1), .val (.int w2), .val (.int g2), .val (.ref b59), .unset, .unset, .unset, .unset, .unset, .unset, .unset, .unset, .unset, .unset, .unset, .unset] [(.ref b59)]))) (fun _ k => XS.aload X61.here hx rfl (hb hby at_79) rfl rfl k) ?_
  refine own_by (S' := (T61.setTop (mkF m 82 #[.val (.int p0), .val (.int p1), .val (.int p2), .val (.int p3), .val (.int p4), .val (.int p5), .val (.int w1), .val (.int g1), .val (.int w2), .val (.int g2), .val (.ref b59), .unset, .unset, .unset, .unset, .unset, .unset, .unset, .unset, .unset, .unset, .unset, .unset] [(.int p3), (.ref b59)]))) (fun _ k => XS.iloadN X61.here hx rfl (hb hby at_81) rfl k) ?_
  refine own_by (S' := (T61.setTop (mkF m 83 #[.val (.int p0), .val (.int p1), .val (.int p2), .val (.int p3), .val (.int p4), .val (.int p5), .val (.int w1), .val (.int g1), .val (.int w2), .val (.int g2), .val (.ref b59), .unset, .unset, .unset, .unset, .unset, .unset, .unset, .unset, .unset, .unset, .unset, .unset] [(.int p0), (.int p3), (.ref b59)]))) (fun _ k => XS.iloadN X61.here hx rfl (hb hby at_82) rfl k) ?_
  refine own_by (S' := (T61.setTop (mkF m 85 #[.val (.int p0), .val (.int p1), .val (.int p2), .val (.int p3), .val (.int p4), .val (.int p5), .val (.int w1), .val (.int g1), .val (.int w2), .val (.int g2), .val (.ref b59), .unset, .unset, .unset, .unset, .unset, .unset, .unset, .unset, .unset, .unset, .unset, .unset] [(.int p4), (.int p0), (.int p3), (.ref b59)]))) (fun _ k => XS.iload X61.here hx rfl (hb hby at_83) rfl k) ?_
  refine own_by (S' := (T61.setTop (mkF m 86 #[.val (.int p0), .val (.int p1), .val (.int p2), .val (.int p3), .val (.int p4), .val (.int p5), .val (.int w1), .val (.int g1), .val (.int w2), .val (.int g2), .val (.ref b59), .unset, .unset, .unset, .unset, .unset, .unset, .unset, .unset, .unset, .unset, .unset, .unset] [(.int p1), (.int p4), (.int p0), (.int p3), (.ref b59)]))) (fun _ k => XS.iloadN X61.here hx rfl (hb hby at_85) rfl k) ?_
  refine own_by (S' := (T61.setTop (mkF m 88 #[.val (.int p0), .val (.int p1), .val (.int p2), .val (.int p3), .val (.int p4), .val (.int p5), .val (.int w1), .val (.int g1), .val (.int w2), .val (.int g2), .val (.ref b59), .unset, .unset, .unset, .unset, .unset, .unset, .unset, .unset, .unset, .unset, .unset, .unset] [(.int w2), (.int p1), (.int p4), (.int p0), (.int p3), (.ref b59)]))) (fun _ k => XS.iload X61.here hx rfl (hb hby at_86) rfl k) ?_
  refine own_by (S' := (T61.setTop (mkF m 90 #[.val (.int p0), .val (.int p1), .val (.int p2), .val (.int p3), .val (.int p4), .val (.int p5), .val (.int w1), .val (.int g1), .val (.int w2), .val (.int g2), .val (.ref b59), .unset, .unset, .unset, .unset, .unset, .unset, .unset, .unset, .unset, .unset, .unset, .unset] [(.int g2), (.int w2), (.int p1), (.int p4), (.int p0), (.int p3), (.ref b59)]))) (fun _ k => XS.iload X61.here hx rfl (hb hby at_88) rfl k) ?_
  obtain ⟨cq62, kq62, q62a, q62b, q62c⟩ := isOf hZ rfl E_b59
  obtain ⟨_, _, ⟨T62, L62, k62, n62⟩, -, X62, ⟨Lc62, hQ62, l62, y62, z62⟩, st62⟩ := X61.virtualBack hx (y := (⟨"com/example/veindb/veindb/bench/MadeChain", "countTransaction", "(IIIIZZ)V"⟩ : MethodName)) (z := (⟨"com/example/veindb/veindb/bench/MadeChain", "countTransaction", "(IIIIZZ)V"⟩ : MethodName)) hown (mvT hZ (hw _ (List.mem_of_getElem? (i := 9) rfl))) (mvT hZ (hw _ (List.mem_of_getElem? (i := 10) rfl))) (notFace_of_selects (args := #[]) (mvT hZ (hw _ (List.mem_of_getElem? (i := 12) rfl)))) (mvT hZ (hw _ (List.mem_of_getElem? (i := 12) rfl))) (mvT hZ (hw _ (List.mem_of_getElem? (i := 11) rfl))) (by decide) (backOf (W := 0) (rm3 l Z a0 hw [] b59 p3 p0 p4 p1 w2 g2 ((0 : Int64) + (1 : Int64)) ((0 : Int64) + own_b w1) ((0 : Int64) + own_b g1) ((0 : Int64) + p0.toInt64) ((0 : Int64) + p1.toInt64) ((0 : Int64) + p2.toInt64) ((0 : Int64) + p3.toInt64) T61.heap n0 Zn E_b59 F_b59_mTransactions F_b59_mWitnessTransactions F_b59_mHotHistory F_b59_mInputs F_b59_mOldInputs F_b59_mOutputs F_b59_mOpReturnOutputs F_b59_mBlocks F_b59_mDistinctScripts o59) hZ (hw _ (List.mem_of_getElem? (i := 13) rfl)) (hw _ (List.mem_of_getElem? (i := 2) rfl)) (by decide) (by decide)) q62a q62c (g := (mkF m 90 #[.val (.int p0), .val (.int p1), .val (.int p2), .val (.int p3), .val (.int p4), .val (.int p5), .val (.int w1), .val (.int g1), .val (.int w2), .val (.int g2), .val (.ref b59), .unset, .unset, .unset, .unset, .unset, .unset, .unset, .unset, .unset, .unset, .unset, .unset] [(.int g2), (.int w2), (.int p1), (.int p4), (.int p0), (.int p3), (.ref b59)])) rfl (by rw [hml]; rfl) (Steps.refl _) (argsL := [(.int p3), (.int p0), (.int p4), (.int p1), (.int w2), (.int g2)]) (rest := []) (lenOf pd__28IIIIZZ_29V rfl) rfl (by show 2 * 0 + _ ≤ _; exact Nat.le_of_eq rfl) (hb hby at_90) (fun _ _ => ⟨rfl, rfl, (by decide : 1 + 0 ≤ _), (by decide : 11 + 0 ≤ _)⟩)
  dsimp only [Pt.U, Pt.locs, Pt.cells, Pt.slots] at X62 l62 y62 z62 st62 hQ62
  subst l62 y62 z62
  obtain ⟨rfl, N62q, Kc, F_b59_mTransactions, F_b59_mWitnessTransactions, F_b59_mHotHistory, F_b59_mInputs, F_b59_mOldInputs, F_b59_mOutputs, F_b59_mOpReturnOutputs, F_b59_mBlocks, F_b59_mDistinctScripts⟩ := hQ62
  have N := Fr.app N N62q
  have E_b59 := E_b59.keep Kc
  have Zn : n0 ≤ _ := Nat.le_trans Zn Kc.1
  have K := K.trans Kc (allS (Or.inr z59) all0)
  refine own_tr (S' := (T62.setTop (mkF m 93 #[.val (.int p0), .val (.int p1), .val (.int p2), .val (.int p3), .val (.int p4), .val (.int p5), .val (.int w1), .val (.int g1), .val (.int w2), .val (.int g2), .val (.ref b59), .unset, .unset, .unset, .unset, .unset, .unset, .unset, .unset, .unset, .unset, .unset, .unset] []))) st62 ?_
  refine own_by (S' := (T62.setTop (mkF m 94 #[.val (.int p0), .val (.int p1), .val (.int p2), .val (.int p3), .val (.int p4), .val (.int p5), .val (.int w1), .val (.int g1), .val (.int w2), .val (.int g2), .val (.ref b59), .unset, .unset, .unset, .unset, .unset, .unset, .unset, .unset, .unset, .unset, .unset, .unset] [(.int p0)]))) (fun _ k => XS.iloadN X62.here hx rfl (hb hby at_93) rfl k) ?_
  refine own_by (S' := (T62.setTop (mkF m 95 #[.val (.int p0), .val (.int p1), .val (.int p2), .val (.int p3), .val (.int p4), .val (.int p5), .val (.int w1), .val (.int g1), .val (.int w2), .val (.int g2), .val (.ref b59), .unset, .unset, .unset, .unset, .unset, .unset, .unset, .unset, .unset, .unset, .unset, .unset] [(.long (p0.toInt64))]))) (fun _ k => XS.i2l X62.here hx rfl (hb hby at_94) rfl k) ?_
  refine own_by (S' := (T62.setTop (mkF m 96 #[.val (.int p0), .val (.int p1), .val (.int p2), .val (.int p3), .val (.int p4), .val (.int p5), .val (.int w1), .val (.int g1), .val (.int w2), .val (.int g2), .val (.ref b59), .unset, .unset, .unset, .unset, .unset, .unset, .unset, .unset, .unset, .unset, .unset, .unset] [(.int p3), (.long (p0.toInt64))]))) (fun _ k => XS.iloadN X62.here hx rfl (hb hby at_95) rfl k) ?_
  refine own_by (S' := (T62.setTop (mkF m 97 #[.val (.int p0), .val (.int p1), .val (.int p2), .val (.int p3), .val (.int p4), .val (.int p5), .val (.int w1), .val (.int g1), .val (.int w2), .val (.int g2), .val (.ref b59), .unset, .unset, .unset, .unset, .unset, .unset, .unset, .unset, .unset, .unset, .unset, .unset] [(.long (p3.toInt64)), (.long (p0.toInt64))]))) (fun _ k => XS.i2l X62.here hx rfl (hb hby at_96) rfl k) ?_
  refine own_by (S' := (T62.setTop (mkF m 98 #[.val (.int p0), .val (.int p1), .val (.int p2), .val (.int p3), .val (.int p4), .val (.int p5), .val (.int w1), .val (.int g1), .val (.int w2), .val (.int g2), .val (.ref b59), .unset, .unset, .unset, .unset, .unset, .unset, .unset, .unset, .unset, .unset, .unset, .unset] [(.long ((p0.toInt64) + (p3.toInt64)))]))) (fun _ k => XS.ladd X62.here hx rfl (hb hby at_97) rfl k) ?_
  refine own_by (S' := (T62.setTop (mkF m 100 #[.val (.int p0), .val (.int p1), .val (.int p2), .val (.int p3), .val (.int p4), .val (.int p5), .val (.int w1), .val (.int g1), .val (.int w2), .val (.int g2), .val (.ref b59), .val (.long ((p0.toInt64) + (p3.toInt64))), .second, .unset, .unset, .unset, .unset, .unset, .unset, .unset, .unset, .unset, .unset] []))) (fun _ k => XS.lstore X62.here hx rfl (hb hby at_98) rfl (l' := #[.val (.int p0), .val (.int p1), .val (.int p2), .val (.int p3), .val (.int p4), .val (.int p5), .val (.int w1), .val (.int g1), .val (.int w2), .val (.int g2), .val (.ref b59), .val (.long ((p0.toInt64) + (p3.toInt64))), .second, .unset, .unset, .unset, .unset, .unset, .unset, .unset, .unset, .unset, .unset]) rfl k) ?_
  refine own_by (S' := (T62.setTop (mkF m 101 #[.val (.int p0), .val (.int p1), .val (.int p2), .val (.int p3), .val (.int p4), .val (.int p5), .val (.int w1), .val (.int g1), .val (.int w2), .val (.int g2), .val (.ref b59), .val (.long ((p0.toInt64) + (p3.toInt64))), .second, .unset, .unset, .unset, .unset, .unset, .unset, .unset, .unset, .unset, .unset] [(.int p1)]))) (fun _ k => XS.iloadN X62.here hx rfl (hb hby at_100) rfl k) ?_
  refine own_by (S' := (T62.setTop (mkF m 102 #[.val (.int p0), .val (.int p1), .val (.int p2), .val (.int p3), .val (.int p4), .val (.int p5), .val (.int w1), .val (.int g1), .val (.int w2), .val (.int g2), .val (.ref b59), .val (.long ((p0.toInt64) + (p3.toInt64))), .second, .unset, .unset, .unset, .unset, .unset, .unset, .unset, .unset, .unset, .unset] [(.long (p1.toInt64))]))) (fun _ k => XS.i2l X62.here hx rfl (hb hby at_101) rfl k) ?_
  refine own_by (S' := (T62.setTop (mkF m 103 #[.val (.int p0), .val (.int p1), .val (.int p2), .val (.int p3), .val (.int p4), .val (.int p5), .val (.int w1), .val (.int g1), .val (.int w2), .val (.int g2), .val (.ref b59), .val (.long ((p0.toInt64) + (p3.toInt64))), .second, .unset, .unset, .unset, .unset, .unset, .unset, .unset, .unset, .unset, .unset] [(.int p0), (.long (p1.toInt64))]))) (fun _ k => XS.iloadN X62.here hx rfl (hb hby at_102) rfl k) ?_
  refine own_by (S' := (T62.setTop (mkF m 104 #[.val (.int p0), .val (.int p1), .val (.int p2), .val (.int p3), .val (.int p4), .val (.int p5), .val (.int w1), .val (.int g1), .val (.int w2), .val (.int g2), .val (.ref b59), .val (.long ((p0.toInt64) + (p3.toInt64))), .second, .unset, .unset, .unset, .unset, .unset, .unset, .unset, .unset, .unset, .unset] [(.long (p0.toInt64)), (.long (p1.toInt64))]))) (fun _ k => XS.i2l X62.here hx rfl (hb hby at_103) rfl k) ?_
  refine own_by (S' := (T62.setTop (mkF m 105 #[.val (.int p0), .val (.int p1), .val (.int p2), .val (.int p3), .val (.int p4), .val (.int p5), .val (.int w1), .val (.int g1), .val (.int w2), .val (.int g2), .val (.ref b59), .val (.long ((p0.toInt64) + (p3.toInt64))), .second, .unset, .unset, .unset, .unset, .unset, .unset, .unset, .unset, .unset, .unset] [(.long ((p1.toInt64) + (p0.toInt64)))]))) (fun _ k => XS.ladd X62.here hx rfl (hb hby at_104) rfl k) ?_
  refine own_by (S' := (T62.setTop (mkF m 107 #[.val (.int p0), .val (.int p1), .val (.int p2), .val (.int p3), .val (.int p4), .val (.int p5), .val (.int w1), .val (.int g1), .val (.int w2), .val (.int g2), .val (.ref b59), .val (.long ((p0.toInt64) + (p3.toInt64))), .second, .val (.long ((p1.toInt64) + (p0.toInt64))), .second, .unset, .unset, .unset, .unset, .unset, .unset, .unset, .unset] []))) (fun _ k => XS.lstore X62.here hx rfl (hb hby at_105) rfl (l' := #[.val (.int p0), .val (.int p1), .val (.int p2), .val (.int p3), .val (.int p4), .val (.int p5), .val (.int w1), .val (.int g1), .val (.int w2), .val (.int g2), .val (.ref b59), .val (.long ((p0.toInt64) + (p3.toInt64))), .second, .val (.long ((p1.toInt64) + (p0.toInt64))), .second, .unset, .unset, .unset, .unset, .unset, .unset, .unset, .unset]) rfl k) ?_
  refine own_by (S' := (T62.setTop (mkF m 108 #[.val (.int p0), .val (.int p1), .val (.int p2), .val (.int p3), .val (.int p4), .val (.int p5), .val (.int w1), .val (.int g1), .val (.int w2), .val (.int g2), .val (.ref b59), .val (.long ((p0.toInt64) + (p3.toInt64))), .second, .val (.long ((p1.toInt64) + (p0.toInt64))), .second, .unset, .unset, .unset, .unset, .unset, .unset, .unset, .unset] [(.int p2)]))) (fun _ k => XS.iloadN X62.here hx rfl (hb hby at_107) rfl k) ?_
  refine own_by (S' := (T62.setTop (mkF m 109 #[.val (.int p0), .val (.int p1), .val (.int p2), .val (.int p3), .val (.int p4), .val (.int p5), .val (.int w1), .val (.int g1), .val (.int w2), .val (.int g2), .val (.ref b59), .val (.long ((p0.toInt64) + (p3.toInt64))), .second, .val (.long ((p1.toInt64) + (p0.toInt64))), .second, .unset, .unset, .unset, .unset, .unset, .unset, .unset, .unset] [(.long (p2.toInt64))]))) (fun _ k => XS.i2l X62.here hx rfl (hb hby at_108) rfl k) ?_
  refine own_by (S' := (T62.setTop (mkF m 111 #[.val (.int p0), .val (.int p1), .val (.int p2), .val (.int p3), .val (.int p4), .val (.int p5), .val (.int w1), .val (.int g1), .val (.int w2), .val (.int g2), .val (.ref b59), .val (.long ((p0.toInt64) + (p3.toInt64))), .second, .val (.long ((p1.toInt64) + (p0.toInt64))), .second, .unset, .unset, .unset, .unset, .unset, .unset, .unset, .unset] [(.int p4), (.long (p2.toInt64))]))) (fun _ k => XS.iload X62.here hx rfl (hb hby at_109) rfl k) ?_
  refine own_by (S' := (T62.setTop (mkF m 112 #[.val (.int p0), .val (.int p1), .val (.int p2), .val (.int p3), .val (.int p4), .val (.int p5), .val (.int w1), .val (.int g1), .val (.int w2), .val (.int g2), .val (.ref b59), .val (.long ((p0.toInt64) + (p3.toInt64))), .second, .val (.long ((p1.toInt64) + (p0.toInt64))), .second, .unset, .unset, .unset, .unset, .unset, .unset, .unset, .unset] [(.long (p4.toInt64)), (.long (p2.toInt64))]))) (fun _ k => XS.i2l X62.here hx rfl (hb hby at_111) rfl k) ?_
  refine own_by (S' := (T62.setTop (mkF m 113 #[.val (.int p0), .val (.int p1), .val (.int p2), .val (.int p3), .val (.int p4), .val (.int p5), .val (.int w1), .val (.int g1), .val (.int w2), .val (.int g2), .val (.ref b59), .val (.long ((p0.toInt64) + (p3.toInt64))), .second, .val (.long ((p1.toInt64) + (p0.toInt64))), .second, .unset, .unset, .unset, .unset, .unset, .unset, .unset, .unset] [(.long ((p2.toInt64) + (p4.toInt64)))]))) (fun _ k => XS.ladd X62.here hx rfl (hb hby at_112) rfl k) ?_
  refine own_by (S' := (T62.setTop (mkF m 115 #[.val (.int p0), .val (.int p1), .val (.int p2), .val (.int p3), .val (.int p4), .val (.int p5), .val (.int w1), .val (.int g1), .val (.int w2), .val (.int g2), .val (.ref b59), .val (.long ((p0.toInt64) + (p3.toInt64))), .second, .val (.long ((p1.toInt64) + (p0.toInt64))), .second, .val (.long ((p2.toInt64) + (p4.toInt64))), .second, .unset, .unset, .unset, .unset, .unset, .unset] []))) (fun _ k => XS.lstore X62.here hx rfl (hb hby at_113) rfl (l' := #[.val (.int p0), .val (.int p1), .val (.int p2), .val (.int p3), .val (.int p4), .val (.int p5), .val (.int w1), .val (.int g1), .val (.int w2), .val (.int g2), .val (.ref b59), .val (.long ((p0.toInt64) + (p3.toInt64))), .second, .val (.long ((p1.toInt64) + (p0.toInt64))), .second, .val (.long ((p2.toInt64) + (p4.toInt64))), .second, .unset, .unset, .unset, .unset, .unset, .unset]) rfl k) ?_
  refine own_by (S' := (T62.setTop (mkF m 116 #[.val (.int p0), .val (.int p1), .val (.int p2), .val (.int p3), .val (.int p4), .val (.int p5), .val (.int w1), .val (.int g1), .val (.int w2), .val (.int g2), .val (.ref b59), .val (.long ((p0.toInt64) + (p3.toInt64))), .second, .val (.long ((p1.toInt64) + (p0.toInt64))), .second, .val (.long ((p2.toInt64) + (p4.toInt64))), .second, .unset, .unset, .unset, .unset, .unset, .unset] [(.int p3)]))) (fun _ k => XS.iloadN X62.here hx rfl (hb hby at_115) rfl k) ?_
  refine own_by (S' := (T62.setTop (mkF m 117 #[.val (.int p0), .val (.int p1), .val (.int p2), .val (.int p3), .val (.int p4), .val (.int p5), .val (.int w1), .val (.int g1), .val (.int w2), .val (.int g2), .val (.ref b59), .val (.long ((p0.toInt64) + (p3.toInt64))), .second, .val (.long ((p1.toInt64) + (p0.toInt64))), .second, .val (.long ((p2.toInt64) + (p4.toInt64))), .second, .unset, .unset, .unset, .unset, .unset, .unset] [(.long (p3.toInt64))]))) (fun _ k => XS.i2l X62.here hx rfl (hb hby at_116) rfl k) ?_
  refine own_by (S' := (T62.setTop (mkF m 118 #[.val (.int p0), .val (.int p1), .val (.int p2), .val (.int p3), .val (.int p4), .val (.int p5), .val (.int w1), .val (.int g1), .val (.int w2), .val (.int g2), .val (.ref b59), .val (.long ((p0.toInt64) + (p3.toInt64))), .second, .val (.long ((p1.toInt64) + (p0.toInt64))), .second, .val (.long ((p2.toInt64) + (p4.toInt64))), .second, .unset, .unset, .unset, .unset, .unset, .unset] [(.int p1), (.long (p3.toInt64))]))) (fun _ k => XS.iloadN X62.here hx rfl (hb hby at_117) rfl k) ?_
  refine own_by (S' := (T62.setTop (mkF m 119 #[.val (.int p0), .val (.int p1), .val (.int p2), .val (.int p3), .val (.int p4), .val (.int p5), .val (.int w1), .val (.int g1), .val (.int w2), .val (.int g2), .val (.ref b59), .val (.long ((p0.toInt64) + (p3.toInt64))), .second, .val (.long ((p1.toInt64) + (p0.toInt64))), .second, .val (.long ((p2.toInt64) + (p4.toInt64))), .second, .unset, .unset, .unset, .unset, .unset, .unset] [(.long (p1.toInt64)), (.long (p3.toInt64))]))) (fun _ k => XS.i2l X62.here hx rfl (hb hby at_118) rfl k) ?_
  refine own_by (S' := (T62.setTop (mkF m 120 #[.val (.int p0), .val (.int p1), .val (.int p2), .val (.int p3), .val (.int p4), .val (.int p5), .val (.int w1), .val (.int g1), .val (.int w2), .val (.int g2), .val (.ref b59), .val (.long ((p0.toInt64) + (p3.toInt64))), .second, .val (.long ((p1.toInt64) + (p0.toInt64))), .second, .val (.long ((p2.toInt64) + (p4.toInt64))), .second, .unset, .unset, .unset, .unset, .unset, .unset] [(.long ((p3.toInt64) + (p1.toInt64)))]))) (fun _ k => XS.ladd X62.here hx rfl (hb hby at_119) rfl k) ?_
  refine own_by (S' := (T62.setTop (mkF m 122 #[.val (.int p0), .val (.int p1), .val (.int p2), .val (.int p3), .val (.int p4), .val (.int p5), .val (.int w1), .val (.int g1), .val (.int w2), .val (.int g2), .val (.ref b59), .val (.long ((p0.toInt64) + (p3.toInt64))), .second, .val (.long ((p1.toInt64) + (p0.toInt64))), .second, .val (.long ((p2.toInt64) + (p4.toInt64))), .second, .val (.long ((p3.toInt64) + (p1.toInt64))), .second, .unset, .unset, .unset, .unset] []))) (fun _ k => XS.lstore X62.here hx rfl (hb hby at_120) rfl (l' := #[.val (.int p0), .val (.int p1), .val (.int p2), .val (.int p3), .val (.int p4), .val (.int p5), .val (.int w1), .val (.int g1), .val (.int w2), .val (.int g2), .val (.ref b59), .val (.long ((p0.toInt64) + (p3.toInt64))), .second, .val (.long ((p1.toInt64) + (p0.toInt64))), .second, .val (.long ((p2.toInt64) + (p4.toInt64))), .second, .val (.long ((p3.toInt64) + (p1.toInt64))), .second, .unset, .unset, .unset, .unset]) rfl k) ?_
  refine own_by (S' := (T62.setTop (mkF m 124 #[.val (.int p0), .val (.int p1), .val (.int p2), .val (.int p3), .val (.int p4), .val (.int p5), .val (.int w1), .val (.int g1), .val (.int w2), .val (.int g2), .val (.ref b59), .val (.long ((p0.toInt64) + (p3.toInt64))), .second, .val (.long ((p1.toInt64) + (p0.toInt64))), .second, .val (.long ((p2.toInt64) + (p4.toInt64))), .second, .val (.long ((p3.toInt64) + (p1.toInt64))), .second, .unset, .unset, .unset, .unset] [(.int w1)]))) (fun _ k => XS.iload X62.here hx rfl (hb hby at_122) rfl k) ?_
  obtain ⟨_, _, ⟨T64, L64, k64, n64⟩, -, X64, ⟨Lc64, hQ64, l64, y64, z64⟩, st64⟩ := Jvm.LawKit.callS X62 hx (y := (⟨"com/example/veindb/veindb/bench/MadeChainCountTransactionPinLaw", "bit", "(Z)J"⟩ : MethodName)) hown (mvT hZ (hw _ (List.mem_of_getElem? (i := 28) rfl))) (mvT hZ (hw _ (List.mem_of_getElem? (i := 29) rfl))) (mvT hZ (hw _ (List.mem_of_getElem? (i := 30) rfl))) (mvT hZ (hw _ (List.mem_of_getElem? (i := 31) rfl))) (by decide) (backOf (W := 0) (rm4 l Z a0 hw [] w1 T62.heap n0 Zn) hZ (hw _ (List.mem_of_getElem? (i := 31) rfl)) (hw _ (List.mem_of_getElem? (i := 30) rfl)) (by decide) (by decide)) (g := (mkF m 124 #[.val (.int p0), .val (.int p1), .val (.int p2), .val (.int p3), .val (.int p4), .val (.int p5), .val (.int w1), .val (.int g1), .val (.int w2), .val (.int g2), .val (.ref b59), .val (.long ((p0.toInt64) + (p3.toInt64))), .second, .val (.long ((p1.toInt64) + (p0.toInt64))), .second, .val (.long ((p2.toInt64) + (p4.toInt64))), .second, .val (.long ((p3.toInt64) + (p1.toInt64))), .second, .unset, .unset, .unset, .unset] [(.int w1)])) rfl (by rw [hml]; rfl) (argsL := [(.int w1)]) (rest := []) (lenOf pd__28Z_29J rfl) rfl (by show 2 * 0 + _ ≤ _; exact Nat.le_of_eq rfl) (hb hby at_124) (fun _ _ => ⟨rfl, rfl, (by decide : 1 + 0 ≤ _), (by decide : 11 + 0 ≤ _)⟩)
  dsimp only [Pt.U, Pt.locs, Pt.cells, Pt.slots] at X64 l64 y64 z64 st64 hQ64
  subst l64 y64 z64
  obtain ⟨rfl, N64q, eh63⟩ := hQ64
  have N := Fr.app N N64q
  refine own_by (S' := (T64.setTop (mkF m 127 #[.val (.int p0), .val (.int p1), .val (.int p2), .val (.int p3), .val (.int p4), .val (.int p5), .val (.int w1), .val (.int g1), .val (.int w2), .val (.int g2), .val (.ref b59), .val (.long ((p0.toInt64) + (p3.toInt64))), .second, .val (.long ((p1.toInt64) + (p0.toInt64))), .second, .val (.long ((p2.toInt64) + (p4.toInt64))), .second, .val (.long ((p3.toInt64) + (p1.toInt64))), .second, .unset, .unset, .unset, .unset] [(.long (own_b w1))]))) st64 ?_
  refine own_by (S' := (T64.setTop (mkF m 129 #[.val (.int p0), .val (.int p1), .val (.int p2), .val (.int p3), .val (.int p4), .val (.int p5), .val (.int w1), .val (.int g1), .val (.int w2), .val (.int g2), .val (.ref b59), .val (.long ((p0.toInt64) + (p3.toInt64))), .second, .val (.long ((p1.toInt64) + (p0.toInt64))), .second, .val (.long ((p2.toInt64) + (p4.toInt64))), .second, .val (.long ((p3.toInt64) + (p1.toInt64))), .second, .unset, .unset, .unset, .unset] [(.int w2), (.long (own_b w1))]))) (fun _ k => XS.iload X64.here hx rfl (hb hby at_127) rfl k) ?_
  obtain ⟨_, _, ⟨T66, L66, k66, n66⟩, -, X66, ⟨Lc66, hQ66, l66, y66, z66⟩, st66⟩ := Jvm.LawKit.callS X64 hx (y := (⟨"com/example/veindb/veindb/bench/MadeChainCountTransactionPinLaw", "bit", "(Z)J"⟩ : MethodName)) hown (mvT hZ (hw _ (List.mem_of_getElem? (i := 28) rfl))) (mvT hZ (hw _ (List.mem_of_getElem? (i := 29) rfl))) (mvT hZ (hw _ (List.mem_of_getElem? (i := 30) rfl))) (mvT hZ (hw _ (List.mem_of_getElem? (i := 31) rfl))) (by decide) (backOf (W := 2) (rm4 l Z a0 hw [] w2 T62.heap n0 Zn) hZ (hw _ (List.mem_of_getElem? (i := 31) rfl)) (hw _ (List.mem_of_getElem? (i := 30) rfl)) (by decide) (by decide)) (g := (mkF m 129 #[.val (.int p0), .val (.int p1), .val (.int p2), .val (.int p3), .val (.int p4), .val (.int p5), .val (.int w1), .val (.int g1), .val (.int w2), .val (.int g2), .val (.ref b59), .val (.long ((p0.toInt64) + (p3.toInt64))), .second, .val (.long ((p1.toInt64) + (p0.toInt64))), .second, .val (.long ((p2.toInt64) + (p4.toInt64))), .second, .val (.long ((p3.toInt64) + (p1.toInt64))), .second, .unset, .unset, .unset, .unset] [(.int w2), (.long (own_b w1))])) rfl (by rw [hml]; rfl) (argsL := [(.int w2)]) (rest := [(.long (own_b w1))]) (lenOf pd__28Z_29J rfl) rfl (by show 2 * 0 + _ ≤ _; exact Nat.le_of_eq rfl) (hb hby at_129) (fun _ _ => ⟨rfl, eh63, (by decide : 1 + 0 ≤ _), (by decide : 11 + 0 ≤ _)⟩)
  dsimp only [Pt.U, Pt.locs, Pt.cells, Pt.slots] at X66 l66 y66 z66 st66 hQ66
  subst l66 y66 z66
  obtain ⟨rfl, N66q, eh65⟩ := hQ66
  have N := Fr.app N N66q
  refine own_by (S' := (T66.setTop (mkF m 132 #[.val (.int p0), .val (.int p1), .val (.int p2), .val (.int p3), .val (.int p4), .val (.int p5), .val (.int w1), .val (.int g1), .val (.int w2), .val (.int g2), .val (.ref b59), .val (.long ((p0.toInt64) + (p3.toInt64))), .second, .val (.long ((p1.toInt64) + (p0.toInt64))), .second, .val (.long ((p2.toInt64) + (p4.toInt64))), .second, .val (.long ((p3.toInt64) + (p1.toInt64))), .second, .unset, .unset, .unset, .unset] [(.long (own_b w2)), (.long (own_b w1))]))) st66 ?_
  refine own_by (S' := (T66.setTop (mkF m 133 #[.val (.int p0), .val (.int p1), .val (.int p2), .val (.int p3), .val (.int p4), .val (.int p5), .val (.int w1), .val (.int g1), .val (.int w2), .val (.int g2), .val (.ref b59), .val (.long ((p0.toInt64) + (p3.toInt64))), .second, .val (.long ((p1.toInt64) + (p0.toInt64))), .second, .val (.long ((p2.toInt64) + (p4.toInt64))), .second, .val (.long ((p3.toInt64) + (p1.toInt64))), .second, .unset, .unset, .unset, .unset] [(.long ((own_b w1) + (own_b w2)))]))) (fun _ k => XS.ladd X66.here hx rfl (hb hby at_132) rfl k) ?_
  refine own_by (S' := (T66.setTop (mkF m 135 #[.val (.int p0), .val (.int p1), .val (.int p2), .val (.int p3), .val (.int p4), .val (.int p5), .val (.int w1), .val (.int g1), .val (.int w2), .val (.int g2), .val (.ref b59), .val (.long ((p0.toInt64) + (p3.toInt64))), .second, .val (.long ((p1.toInt64) + (p0.toInt64))), .second, .val (.long ((p2.toInt64) + (p4.toInt64))), .second, .val (.long ((p3.toInt64) + (p1.toInt64))), .second, .val (.long ((own_b w1) + (own_b w2))), .second, .unset, .unset] []))) (fun _ k => XS.lstore X66.here hx rfl (hb hby at_133) rfl (l' := #[.val (.int p0), .val (.int p1), .val (.int p2), .val (.int p3), .val (.int p4), .val (.int p5), .val (.int w1), .val (.int g1), .val (.int w2), .val (.int g2), .val (.ref b59), .val (.long ((p0.toInt64) + (p3.toInt64))), .second, .val (.long ((p1.toInt64) + (p0.toInt64))), .second, .val (.long ((p2.toInt64) + (p4.toInt64))), .second, .val (.long ((p3.toInt64) + (p1.toInt64))), .second, .val (.long ((own_b w1) + (own_b w2))), .second, .unset, .unset]) rfl k) ?_
  refine own_by (S' := (T66.setTop (mkF m 137 #[.val (.int p0), .val (.int p1), .val (.int p2), .val (.int p3), .val (.int p4), .val (.int p5), .val (.int w1), .val (.int g1), .val (.int w2), .val (.int g2), .val (.ref b59), .val (.long ((p0.toInt64) + (p3.toInt64))), .second, .val (.long ((p1.toInt64) + (p0.toInt64))), .second, .val (.long ((p2.toInt64) + (p4.toInt64))), .second, .val (.long ((p3.toInt64) + (p1.toInt64))), .second, .val (.long ((own_b w1) + (own_b w2))), .second, .unset, .unset] [(.int g1)]))) (fun _ k => XS.iload X66.here hx rfl (hb hby at_135) rfl k) ?_
  obtain ⟨_, _, ⟨T68, L68, k68, n68⟩, -, X68, ⟨Lc68, hQ68, l68, y68, z68⟩, st68⟩ := Jvm.LawKit.callS X66 hx (y := (⟨"com/example/veindb/veindb/bench/MadeChainCountTransactionPinLaw", "bit", "(Z)J"⟩ : MethodName)) hown (mvT hZ (hw _ (List.mem_of_getElem? (i := 28) rfl))) (mvT hZ (hw _ (List.mem_of_getElem? (i := 29) rfl))) (mvT hZ (hw _ (List.mem_of_getElem? (i := 30) rfl))) (mvT hZ (hw _ (List.mem_of_getElem? (i := 31) rfl))) (by decide) (backOf (W := 0) (rm4 l Z a0 hw [] g1 T62.heap n0 Zn) hZ (hw _ (List.mem_of_getElem? (i := 31) rfl)) (hw _ (List.mem_of_getElem? (i := 30) rfl)) (by decide) (by decide)) (g := (mkF m 137 #[.val (.int p0), .val (.int p1), .val (.int p2), .val (.int p3), .val (.int p4), .val (.int p5), .val (.int w1), .val (.int g1), .val (.int w2), .val (.int g2), .val (.ref b59), .val (.long ((p0.toInt64) + (p3.toInt64))), .second, .val (.long ((p1.toInt64) + (p0.toInt64))), .second, .val (.long ((p2.toInt64) + (p4.toInt64))), .second, .val (.long ((p3.toInt64) + (p1.toInt64))), .second, .val (.long ((own_b w1) + (own_b w2))), .second, .unset, .unset] [(.int g1)])) rfl (by rw [hml]; rfl) (argsL := [(.int g1)]) (rest := []) (lenOf pd__28Z_29J rfl) rfl (by show 2 * 0 + _ ≤ _; exact Nat.le_of_eq rfl) (hb hby at_137) (fun _ _ => ⟨rfl, eh65, (by decide : 1 + 0 ≤ _), (by decide : 11 + 0 ≤ _)⟩)
  dsimp only [Pt.U, Pt.locs, Pt.cells, Pt.slots] at X68 l68 y68 z68 st68 hQ68
  subst l68 y68 z68
  obtain ⟨rfl, N68q, eh67⟩ := hQ68
  have N := Fr.app N N68q
  refine own_by (S' := (T68.setTop (mkF m 140 #[.val (.int p0), .val (.int p1), .val (.int p2), .val (.int p3), .val (.int p4), .val (.int p5), .val (.int w1), .val (.int g1), .val (.int w2), .val (.int g2), .val (.ref b59), .val (.long ((p0.toInt64) + (p3.toInt64))), .second, .val (.long ((p1.toInt64) + (p0.toInt64))), .second, .val (.long ((p2.toInt64) + (p4.toInt64))), .second, .val (.long ((p3.toInt64) + (p1.toInt64))), .second, .val (.long ((own_b w1) + (own_b w2))), .second, .unset, .unset] [(.long (own_b g1))]))) st68 ?_
  refine own_by (S' := (T68.setTop (mkF m 142 #[.val (.int p0), .val (.int p1), .val (.int p2), .val (.int p3), .val (.int p4), .val (.int p5), .val (.int w1), .val (.int g1), .val (.int w2), .val (.int g2), .val (.ref b59), .val (.long ((p0.toInt64) + (p3.toInt64))), .second, .val (.long ((p1.toInt64) + (p0.toInt64))), .second, .val (.long ((p2.toInt64) + (p4.toInt64))), .second, .val (.long ((p3.toInt64) + (p1.toInt64))), .second, .val (.long ((own_b w1) + (own_b w2))), .second, .unset, .unset] [(.int g2), (.long (own_b g1))]))) (fun _ k => XS.iload X68.here hx rfl (hb hby at_140) rfl k) ?_
  obtain ⟨_, _, ⟨T70, L70, k70, n70⟩, -, X70, ⟨Lc70, hQ70, l70, y70, z70⟩, st70⟩ := Jvm.LawKit.callS X68 hx (y := (⟨"com/example/veindb/veindb/bench/MadeChainCountTransactionPinLaw", "bit", "(Z)J"⟩ : MethodName)) hown (mvT hZ (hw _ (List.mem_of_getElem? (i := 28) rfl))) (mvT hZ (hw _ (List.mem_of_getElem? (i := 29) rfl))) (mvT hZ (hw _ (List.mem_of_getElem? (i := 30) rfl))) (mvT hZ (hw _ (List.mem_of_getElem? (i := 31) rfl))) (by decide) (backOf (W := 2) (rm4 l Z a0 hw [] g2 T62.heap n0 Zn) hZ (hw _ (List.mem_of_getElem? (i := 31) rfl)) (hw _ (List.mem_of_getElem? (i := 30) rfl)) (by decide) (by decide)) (g := (mkF m 142 #[.val (.int p0), .val (.int p1), .val (.int p2), .val (.int p3), .val (.int p4), .val (.int p5), .val (.int w1), .val (.int g1), .val (.int w2), .val (.int g2), .val (.ref b59), .val (.long ((p0.toInt64) + (p3.toInt64))), .second, .val (.long ((p1.toInt64) + (p0.toInt64))), .second, .val (.long ((p2.toInt64) + (p4.toInt64))), .second, .val (.long ((p3.toInt64) + (p1.toInt64))), .second, .val (.long ((own_b w1) + (own_b w2))), .second, .unset, .unset] [(.int g2), (.long (own_b g1))])) rfl (by rw [hml]; rfl) (argsL := [(.int g2)]) (rest := [(.long (own_b g1))]) (lenOf pd__28Z_29J rfl) rfl (by show 2 * 0 + _ ≤ _; exact Nat.le_of_eq rfl) (hb hby at_142) (fun _ _ => ⟨rfl, eh67, (by decide : 1 + 0 ≤ _), (by decide : 11 + 0 ≤ _)⟩)
  dsimp only [Pt.U, Pt.locs, Pt.cells, Pt.slots] at X70 l70 y70 z70 st70 hQ70
  subst l70 y70 z70
  obtain ⟨rfl, N70q, eh69⟩ := hQ70
  have N := Fr.app N N70q
  refine own_by (S' := (T70.setTop (mkF m 145 #[.val (.int p0), .val (.int p1), .val (.int p2), .val (.int p3), .val (.int p4), .val (.int p5), .val (.int w1), .val (.int g1), .val (.int w2), .val (.int g2), .val (.ref b59), .val (.long ((p0.toInt64) + (p3.toInt64))), .second, .val (.long ((p1.toInt64) + (p0.toInt64))), .second, .val (.long ((p2.toInt64) + (p4.toInt64))), .second, .val (.long ((p3.toInt64) + (p1.toInt64))), .second, .val (.long ((own_b w1) + (own_b w2))), .second, .unset, .unset] [(.long (own_b g2)), (.long (own_b g1))]))) st70 ?_
  refine own_by (S' := (T70.setTop (mkF m 146 #[.val (.int p0), .val (.int p1), .val (.int p2), .val (.int p3), .val (.int p4), .val (.int p5), .val (.int w1), .val (.int g1), .val (.int w2), .val (.int g2), .val (.ref b59), .val (.long ((p0.toInt64) + (p3.toInt64))), .second, .val (.long ((p1.toInt64) + (p0.toInt64))), .second, .val (.long ((p2.toInt64) + (p4.toInt64))), .second, .val (.long ((p3.toInt64) + (p1.toInt64))), .second, .val (.long ((own_b w1) + (own_b w2))), .second, .unset, .unset] [(.long ((own_b g1) + (own_b g2)))]))) (fun _ k => XS.ladd X70.here hx rfl (hb hby at_145) rfl k) ?_
  refine own_by (S' := (T70.setTop (mkF m 148 #[.val (.int p0), .val (.int p1), .val (.int p2), .val (.int p3), .val (.int p4), .val (.int p5), .val (.int w1), .val (.int g1), .val (.int w2), .val (.int g2), .val (.ref b59), .val (.long ((p0.toInt64) + (p3.toInt64))), .second, .val (.long ((p1.toInt64) + (p0.toInt64))), .second, .val (.long ((p2.toInt64) + (p4.toInt64))), .second, .val (.long ((p3.toInt64) + (p1.toInt64))), .second, .val (.long ((own_b w1) + (own_b w2))), .second, .val (.long ((own_b g1) + (own_b g2))), .second] []))) (fun _ k => XS.lstore X70.here hx rfl (hb hby at_146) rfl (l' := #[.val (.int p0), .val (.int p1), .val (.int p2), .val (.int p3), .val (.int p4), .val (.int p5), .val (.int w1), .val (.int g1), .val (.int w2), .val (.int g2), .val (.ref b59), .val (.long ((p0.toInt64) + (p3.toInt64))), .second, .val (.long ((p1.toInt64) + (p0.toInt64))), .second, .val (.long ((p2.toInt64) + (p4.toInt64))), .second, .val (.long ((p3.toInt64) + (p1.toInt64))), .second, .val (.long ((own_b w1) + (own_b w2))), .second, .val (.long ((own_b g1) + (own_b g2))), .second]) rfl k) ?_
  refine own_by (S' := (T70.setTop (mkF m 150 #[.val (.int p0), .val (.int p1), .val (.int p2), .val (.int p3), .val (.int p4), .val (.int p5), .val (.int w1), .val (.int g1), .val (.int w2), .val (.int g2), .val (.ref b59), .val (.long ((p0.toInt64) + (p3.toInt64))), .second, .val (.long ((p1.toInt64) + (p0.toInt64))), .second, .val (.long ((p2.toInt64) + (p4.toInt64))), .second, .val (.long ((p3.toInt64) + (p1.toInt64))), .second, .val (.long ((own_b w1) + (own_b w2))), .second, .val (.long ((own_b g1) + (own_b g2))), .second] [(.ref b59)]))) (fun _ k => XS.aload X70.here hx rfl (hb hby at_148) rfl rfl k) ?_
  obtain ⟨cq72, kq72, q72a, q72b, q72c⟩ := isOf hZ eh69 E_b59
  obtain ⟨_, _, ⟨T72, L72, k72, n72⟩, -, X72, ⟨Lc72, hQ72, l72, y72, z72⟩, st72⟩ := X70.virtualBack hx (y := (⟨"com/example/veindb/veindb/bench/MadeChain", "transactions", "()J"⟩ : MethodName)) (z := (⟨"com/example/veindb/veindb/bench/MadeChain", "transactions", "()J"⟩ : MethodName)) hown (mvT hZ (hw _ (List.mem_of_getElem? (i := 32) rfl))) (mvT hZ (hw _ (List.mem_of_getElem? (i := 33) rfl))) (notFace_of_selects (args := #[]) (mvT hZ (hw _ (List.mem_of_getElem? (i := 35) rfl)))) (mvT hZ (hw _ (List.mem_of_getElem? (i := 35) rfl))) (mvT hZ (hw _ (List.mem_of_getElem? (i := 34) rfl))) (by decide) (backOf (W := 0) (rm5 l Z a0 hw [] b59 (((0 : Int64) + (1 : Int64)) + (1 : Int64)) T62.heap n0 Zn F_b59_mTransactions) hZ (hw _ (List.mem_of_getElem? (i := 36) rfl)) (hw _ (List.mem_of_getElem? (i := 2) rfl)) (by decide) (by decide)) q72a q72c (g := (mkF m 150 #[.val (.int p0), .val (.int p1), .val (.int p2), .val (.int p3), .val (.int p4), .val (.int p5), .val (.int w1), .val (.int g1), .val (.int w2), .val (.int g2), .val (.ref b59), .val (.long ((p0.toInt64) + (p3.toInt64))), .second, .val (.long ((p1.toInt64) + (p0.toInt64))), .second, .val (.long ((p2.toInt64) + (p4.toInt64))), .second, .val (.long ((p3.toInt64) + (p1.toInt64))), .second, .val (.long ((own_b w1) + (own_b w2))), .second, .val (.long ((own_b g1) + (own_b g2))), .second] [(.ref b59)])) rfl (by rw [hml]; rfl) (Steps.refl _) (argsL := []) (rest := []) (lenOf pd__28_29J rfl) rfl (by show 2 * 0 + _ ≤ _; exact Nat.le_of_eq rfl) (hb hby at_150) (fun _ _ => ⟨rfl, eh69, (by decide : 1 + 0 ≤ _), (by decide : 11 + 0 ≤ _)⟩)
  dsimp only [Pt.U, Pt.locs, Pt.cells, Pt.slots] at X72 l72 y72 z72 st72 hQ72
  subst l72 y72 z72
  obtain ⟨rfl, N72q, eh71⟩ := hQ72
  have N := Fr.app N N72q
  refine own_tr (S' := (T72.setTop (mkF m 153 #[.val (.int p0), .val (.int p1), .val (.int p2), .val (.int p3), .val (.int p4), .val (.int p5), .val (.int w1), .val (.int g1), .val (.int w2), .val (.int g2), .val (.ref b59), .val (.long ((p0.toInt64) + (p3.toInt64))), .second, .val (.long ((p1.toInt64) + (p0.toInt64))), .second, .val (.long ((p2.toInt64) + (p4.toInt64))), .second, .val (.long ((p3.toInt64) + (p1.toInt64))), .second, .val (.long ((own_b w1) + (own_b w2))), .second, .val (.long ((own_b g1) + (own_b g2))), .second] [(.long (((0 : Int64) + (1 : Int64)) + (1 : Int64)))]))) st72 ?_
  refine own_by (S' := (T72.setTop (mkF m 156 #[.val (.int p0), .val (.int p1), .val (.int p2), .val (.int p3), .val (.int p4), .val (.int p5), .val (.int w1), .val (.int g1), .val (.int w2), .val (.int g2), .val (.ref b59), .val (.long ((p0.toInt64) + (p3.toInt64))), .second, .val (.long ((p1.toInt64) + (p0.toInt64))), .second, .val (.long ((p2.toInt64) + (p4.toInt64))), .second, .val (.long ((p3.toInt64) + (p1.toInt64))), .second, .val (.long ((own_b w1) + (own_b w2))), .second, .val (.long ((own_b g1) + (own_b g2))), .second] [(.long (2 : Int64)), (.long (((0 : Int64) + (1 : Int64)) + (1 : Int64)))]))) (fun _ k => X72.ldc2Long hx hown (mvT hZ (hw _ (List.mem_of_getElem? (i := 37) rfl))) (g := (mkF m 153 #[.val (.int p0), .val (.int p1), .val (.int p2), .val (.int p3), .val (.int p4), .val (.int p5), .val (.int w1), .val (.int g1), .val (.int w2), .val (.int g2), .val (.ref b59), .val (.long ((p0.toInt64) + (p3.toInt64))), .second, .val (.long ((p1.toInt64) + (p0.toInt64))), .second, .val (.long ((p2.toInt64) + (p4.toInt64))), .second, .val (.long ((p3.toInt64) + (p1.toInt64))), .second, .val (.long ((own_b w1) + (own_b w2))), .second, .val (.long ((own_b g1) + (own_b g2))), .second] [(.long (((0 : Int64) + (1 : Int64)) + (1 : Int64)))])) rfl (hb hby at_153) _ k) ?_
  refine own_by (S' := (T72.setTop (mkF m 157 #[.val (.int p0), .val (.int p1), .val (.int p2), .val (.int p3), .val (.int p4), .val (.int p5), .val (.int w1), .val (.int g1), .val (.int w2), .val (.int g2), .val (.ref b59), .val (.long ((p0.toInt64) + (p3.toInt64))), .second, .val (.long ((p1.toInt64) + (p0.toInt64))), .second, .val (.long ((p2.toInt64) + (p4.toInt64))), .second, .val (.long ((p3.toInt64) + (p1.toInt64))), .second, .val (.long ((own_b w1) + (own_b w2))), .second, .val (.long ((own_b g1) + (own_b g2))), .second] [(.int (lcmpW (((0 : Int64) + (1 : Int64)) + (1 : Int64)) (2 : Int64)))]))) (fun _ k => XS.lcmp X72.here hx rfl (hb hby at_156) rfl k) ?_
  refine own_by (S' := (T72.setTop (mkF m 160 #[.val (.int p0), .val (.int p1), .val (.int p2), .val (.int p3), .val (.int p4), .val (.int p5), .val (.int w1), .val (.int g1), .val (.int w2), .val (.int g2), .val (.ref b59), .val (.long ((p0.toInt64) + (p3.toInt64))), .second, .val (.long ((p1.toInt64) + (p0.toInt64))), .second, .val (.long ((p2.toInt64) + (p4.toInt64))), .second, .val (.long ((p3.toInt64) + (p1.toInt64))), .second, .val (.long ((own_b w1) + (own_b w2))), .second, .val (.long ((own_b g1) + (own_b g2))), .second] []))) (fun _ k => XS.ifNo X72.here hx rfl (hb hby at_157) rfl ((if0 _ _).trans (teq (((lw_eq _ _).mpr rfl) : (lcmpW (((0 : Int64) + (1 : Int64)) + (1 : Int64)) (2 : Int64)) = (0 : Int32))).2) k) ?_
  refine own_by (S' := (T72.setTop (mkF m 162 #[.val (.int p0), .val (.int p1), .val (.int p2), .val (.int p3), .val (.int p4), .val (.int p5), .val (.int w1), .val (.int g1), .val (.int w2), .val (.int g2), .val (.ref b59), .val (.long ((p0.toInt64) + (p3.toInt64))), .second, .val (.long ((p1.toInt64) + (p0.toInt64))), .second, .val (.long ((p2.toInt64) + (p4.toInt64))), .second, .val (.long ((p3.toInt64) + (p1.toInt64))), .second, .val (.long ((own_b w1) + (own_b w2))), .second, .val (.long ((own_b g1) + (own_b g2))), .second] [(.ref b59)]))) (fun _ k => XS.aload X72.here hx rfl (hb hby at_160) rfl rfl k) ?_
  obtain ⟨cq74, kq74, q74a, q74b, q74c⟩ := isOf hZ eh71 E_b59
  obtain ⟨_, _, ⟨T74, L74, k74, n74⟩, -, X74, ⟨Lc74, hQ74, l74, y74, z74⟩, st74⟩ := X72.virtualBack hx (y := (⟨"com/example/veindb/veindb/bench/MadeChain", "witnessTransactions", "()J"⟩ : MethodName)) (z := (⟨"com/example/veindb/veindb/bench/MadeChain", "witnessTransactions", "()J"⟩ : MethodName)) hown (mvT hZ (hw _ (List.mem_of_getElem? (i := 38) rfl))) (mvT hZ (hw _ (List.mem_of_getElem? (i := 39) rfl))) (notFace_of_selects (args := #[]) (mvT hZ (hw _ (List.mem_of_getElem? (i := 41) rfl)))) (mvT hZ (hw _ (List.mem_of_getElem? (i := 41) rfl))) (mvT hZ (hw _ (List.mem_of_getElem? (i := 40) rfl))) (by decide) (backOf (W := 0) (rm6 l Z a0 hw [] b59 (((0 : Int64) + own_b w1) + own_b w2) T62.heap n0 Zn F_b59_mWitnessTransactions) hZ (hw _ (List.mem_of_getElem? (i := 42) rfl)) (hw _ (List.mem_of_getElem? (i := 2) rfl)) (by decide) (by decide)) q74a q74c (g := (mkF m 162 #[.val (.int p0), .val (.int p1), .val (.int p2), .val (.int p3), .val (.int p4), .val (.int p5), .val (.int w1), .val (.int g1), .val (.int w2), .val (.int g2), .val (.ref b59), .val (.long ((p0.toInt64) + (p3.toInt64))), .second, .val (.long ((p1.toInt64) + (p0.toInt64))), .second, .val (.long ((p2.toInt64) + (p4.toInt64))), .second, .val (.long ((p3.toInt64) + (p1.toInt64))), .second, .val (.long ((own_b w1) + (own_b w2))), .second, .val (.long ((own_b g1) + (own_b g2))), .second] [(.ref b59)])) rfl (by rw [hml]; rfl) (Steps.refl _) (argsL := []) (rest := []) (lenOf pd__28_29J rfl) rfl (by show 2 * 0 + _ ≤ _; exact Nat.le_of_eq rfl) (hb hby at_162) (fun _ _ => ⟨rfl, eh71, (by decide : 1 + 0 ≤ _), (by decide : 11 + 0 ≤ _)⟩)
  dsimp only [Pt.U, Pt.locs, Pt.cells, Pt.slots] at X74 l74 y74 z74 st74 hQ74
  subst l74 y74 z74
  obtain ⟨rfl, N74q, eh73⟩ := hQ74
  have N := Fr.app N N74q
  refine own_tr (S' := (T74.setTop (mkF m 165 #[.val (.int p0), .val (.int p1), .val (.int p2), .val (.int p3), .val (.int p4), .val (.int p5), .val (.int w1), .val (.int g1), .val (.int w2), .val (.int g2), .val (.ref b59), .val (.long ((p0.toInt64) + (p3.toInt64))), .second, .val (.long ((p1.toInt64) + (p0.toInt64))), .second, .val (.long ((p2.toInt64) + (p4.toInt64))), .second, .val (.long ((p3.toInt64) + (p1.toInt64))), .second, .val (.long ((own_b w1) + (own_b w2))), .second, .val (.long ((own_b g1) + (own_b g2))), .second] [(.long (((0 : Int64) + own_b w1) + own_b w2))]))) st74 ?_
  refine own_by (S' := (T74.setTop (mkF m 167 #[.val (.int p0), .val (.int p1), .val (.int p2), .val (.int p3), .val (.int p4), .val (.int p5), .val (.int w1), .val (.int g1), .val (.int w2), .val (.int g2), .val (.ref b59), .val (.long ((p0.toInt64) + (p3.toInt64))), .second, .val (.long ((p1.toInt64) + (p0.toInt64))), .second, .val (.long ((p2.toInt64) + (p4.toInt64))), .second, .val (.long ((p3.toInt64) + (p1.toInt64))), .second, .val (.long ((own_b w1) + (own_b w2))), .second, .val (.long ((own_b g1) + (own_b g2))), .second] [(.long ((own_b w1) + (own_b w2))), (.long (((0 : Int64) + own_b w1) + own_b w2))]))) (fun _ k => XS.lload X74.here hx rfl (hb hby at_165) rfl k) ?_
  refine own_by (S' := (T74.setTop (mkF m 168 #[.val (.int p0), .val (.int p1), .val (.int p2), .val (.int p3), .val (.int p4), .val (.int p5), .val (.int w1), .val (.int g1), .val (.int w2), .val (.int g2), .val (.ref b59), .val (.long ((p0.toInt64) + (p3.toInt64))), .second, .val (.long ((p1.toInt64) + (p0.toInt64))), .second, .val (.long ((p2.toInt64) + (p4.toInt64))), .second, .val (.long ((p3.toInt64) + (p1.toInt64))), .second, .val (.long ((own_b w1) + (own_b w2))), .second, .val (.long ((own_b g1) + (own_b g2))), .second] [(.int (lcmpW (((0 : Int64) + own_b w1) + own_b w2) ((own_b w1) + (own_b w2))))]))) (fun _ k => XS.lcmp X74.here hx rfl (hb hby at_167) rfl k) ?_
  refine own_by (S' := (T74.setTop (mkF m 171 #[.val (.int p0), .val (.int p1), .val (.int p2), .val (.int p3), .val (.int p4), .val (.int p5), .val (.int w1), .val (.int g1), .val (.int w2), .val (.int g2), .val (.ref b59), .val (.long ((p0.toInt64) + (p3.toInt64))), .second, .val (.long ((p1.toInt64) + (p0.toInt64))), .second, .val (.long ((p2.toInt64) + (p4.toInt64))), .second, .val (.long ((p3.toInt64) + (p1.toInt64))), .second, .val (.long ((own_b w1) + (own_b w2))), .second, .val (.long ((own_b g1) + (own_b g2))), .second] []))) (fun _ k => XS.ifNo X74.here hx rfl (hb hby at_168) rfl ((if0 _ _).trans (teq (((lw_eq _ _).mpr own_z) : (lcmpW (((0 : Int64) + own_b w1) + own_b w2) ((own_b w1) + (own_b w2))) = (0 : Int32))).2) k) ?_
  refine own_by (S' := (T74.setTop (mkF m 173 #[.val (.int p0), .val (.int p1), .val (.int p2), .val (.int p3), .val (.int p4), .val (.int p5), .val (.int w1), .val (.int g1), .val (.int w2), .val (.int g2), .val (.ref b59), .val (.long ((p0.toInt64) + (p3.toInt64))), .second, .val (.long ((p1.toInt64) + (p0.toInt64))), .second, .val (.long ((p2.toInt64) + (p4.toInt64))), .second, .val (.long ((p3.toInt64) + (p1.toInt64))), .second, .val (.long ((own_b w1) + (own_b w2))), .second, .val (.long ((own_b g1) + (own_b g2))), .second] [(.ref b59)]))) (fun _ k => XS.aload X74.here hx rfl (hb hby at_171) rfl rfl k) ?_
  obtain ⟨cq76, kq76, q76a, q76b, q76c⟩ := isOf hZ eh73 E_b59
  obtain ⟨_, _, ⟨T76, L76, k76, n76⟩, -, X76, ⟨Lc76, hQ76, l76, y76, z76⟩, st76⟩ := X74.virtualBack hx (y := (⟨"com/example/veindb/veindb/bench/MadeChain", "hotHistory", "()J"⟩ : MethodName)) (z := (⟨"com/example/veindb/veindb/bench/MadeChain", "hotHistory", "()J"⟩ : MethodName)) hown (mvT hZ (hw _ (List.mem_of_getElem? (i := 43) rfl))) (mvT hZ (hw _ (List.mem_of_getElem? (i := 44) rfl))) (notFace_of_selects (args := #[]) (mvT hZ (hw _ (List.mem_of_getElem? (i := 46) rfl)))) (mvT hZ (hw _ (List.mem_of_getElem? (i := 46) rfl))) (mvT hZ (hw _ (List.mem_of_getElem? (i := 45) rfl))) (by decide) (backOf (W := 0) (rm7 l Z a0 hw [] b59 (((0 : Int64) + own_b g1) + own_b g2) T62.heap n0 Zn F_b59_mHotHistory) hZ (hw _ (List.mem_of_getElem? (i := 47) rfl)) (hw _ (List.mem_of_getElem? (i := 2) rfl)) (by decide) (by decide)) q76a q76c (g := (mkF m 173 #[.val (.int p0), .val (.int p1), .val (.int p2), .val (.int p3), .val (.int p4), .val (.int p5), .val (.int w1), .val (.int g1), .val (.int w2), .val (.int g2), .val (.ref b59), .val (.long ((p0.toInt64) + (p3.toInt64))), .second, .val (.long ((p1.toInt64) + (p0.toInt64))), .second, .val (.long ((p2.toInt64) + (p4.toInt64))), .second, .val (.long ((p3.toInt64) + (p1.toInt64))), .second, .val (.long ((own_b w1) + (own_b w2))), .second, .val (.long ((own_b g1) + (own_b g2))), .second] [(.ref b59)])) rfl (by rw [hml]; rfl) (Steps.refl _) (argsL := []) (rest := []) (lenOf pd__28_29J rfl) rfl (by show 2 * 0 + _ ≤ _; exact Nat.le_of_eq rfl) (hb hby at_173) (fun _ _ => ⟨rfl, eh73, (by decide : 1 + 0 ≤ _), (by decide : 11 + 0 ≤ _)⟩)
  dsimp only [Pt.U, Pt.locs, Pt.cells, Pt.slots] at X76 l76 y76 z76 st76 hQ76
  subst l76 y76 z76
  obtain ⟨rfl, N76q, eh75⟩ := hQ76
  have N := Fr.app N N76q
  refine own_tr (S' := (T76.setTop (mkF m 176 #[.val (.int p0), .val (.int p1), .val (.int p2), .val (.int p3), .val (.int p4), .val (.int p5), .val (.int w1), .val (.int g1), .val (.int w2), .val (.int g2), .val (.ref b59), .val (.long ((p0.toInt64) + (p3.toInt64))), .second, .val (.long ((p1.toInt64) + (p0.toInt64))), .second, .val (.long ((p2.toInt64) + (p4.toInt64))), .second, .val (.long ((p3.toInt64) + (p1.toInt64))), .second, .val (.long ((own_b w1) + (own_b w2))), .second, .val (.long ((own_b g1) + (own_b g2))), .second] [(.long (((0 : Int64) + own_b g1) + own_b g2))]))) st76 ?_
  refine own_by (S' := (T76.setTop (mkF m 178 #[.val (.int p0), .val (.int p1), .val (.int p2), .val (.int p3), .val (.int p4), .val (.int p5), .val (.int w1), .val (.int g1), .val (.int w2), .val (.int g2), .val (.ref b59), .val (.long ((p0.toInt64) + (p3.toInt64))), .second, .val (.long ((p1.toInt64) + (p0.toInt64))), .second, .val (.long ((p2.toInt64) + (p4.toInt64))), .second, .val (.long ((p3.toInt64) + (p1.toInt64))), .second, .val (.long ((own_b w1) + (own_b w2))), .second, .val (.long ((own_b g1) + (own_b g2))), .second] [(.long ((own_b g1) + (own_b g2))), (.long (((0 : Int64) + own_b g1) + own_b g2))]))) (fun _ k => XS.lload X76.here hx rfl (hb hby at_176) rfl k) ?_
  refine own_by (S' := (T76.setTop (mkF m 179 #[.val (.int p0), .val (.int p1), .val (.int p2), .val (.int p3), .val (.int p4), .val (.int p5), .val (.int w1), .val (.int g1), .val (.int w2), .val (.int g2), .val (.ref b59), .val (.long ((p0.toInt64) + (p3.toInt64))), .second, .val (.long ((p1.toInt64) + (p0.toInt64))), .second, .val (.long ((p2.toInt64) + (p4.toInt64))), .second, .val (.long ((p3.toInt64) + (p1.toInt64))), .second, .val (.long ((own_b w1) + (own_b w2))), .second, .val (.long ((own_b g1) + (own_b g2))), .second] [(.int (lcmpW (((0 : Int64) + own_b g1) + own_b g2) ((own_b g1) + (own_b g2))))]))) (fun _ k => XS.lcmp X76.here hx rfl (hb hby at_178) rfl k) ?_
  refine own_by (S' := (T76.setTop (mkF m 182 #[.val (.int p0), .val (.int p1), .val (.int p2), .val (.int p3), .val (.int p4), .val (.int p5), .val (.int w1), .val (.int g1), .val (.int w2), .val (.int g2), .val (.ref b59), .val (.long ((p0.toInt64) + (p3.toInt64))), .second, .val (.long ((p1.toInt64) + (p0.toInt64))), .second, .val (.long ((p2.toInt64) + (p4.toInt64))), .second, .val (.long ((p3.toInt64) + (p1.toInt64))), .second, .val (.long ((own_b w1) + (own_b w2))), .second, .val (.long ((own_b g1) + (own_b g2))), .second] []))) (fun _ k => XS.ifNo X76.here hx rfl (hb hby at_179) rfl ((if0 _ _).trans (teq (((lw_eq _ _).mpr own_z) : (lcmpW (((0 : Int64) + own_b g1) + own_b g2) ((own_b g1) + (own_b g2))) = (0 : Int32))).2) k) ?_
  refine own_by (S' := (T76.setTop (mkF m 184 #[.val (.int p0), .val (.int p1), .val (.int p2), .val (.int p3), .val (.int p4), .val (.int p5), .val (.int w1), .val (.int g1), .val (.int w2), .val (.int g2), .val (.ref b59), .val (.long ((p0.toInt64) + (p3.toInt64))), .second, .val (.long ((p1.toInt64) + (p0.toInt64))), .second, .val (.long ((p2.toInt64) + (p4.toInt64))), .second, .val (.long ((p3.toInt64) + (p1.toInt64))), .second, .val (.long ((own_b w1) + (own_b w2))), .second, .val (.long ((own_b g1) + (own_b g2))), .second] [(.ref b59)]))) (fun _ k => XS.aload X76.here hx rfl (hb hby at_182) rfl rfl k) ?_
  obtain ⟨cq78, kq78, q78a, q78b, q78c⟩ := isOf hZ eh75 E_b59
  obtain ⟨_, _, ⟨T78, L78, k78, n78⟩, -, X78, ⟨Lc78, hQ78, l78, y78, z78⟩, st78⟩ := X76.virtualBack hx (y := (⟨"com/example/veindb/veindb/bench/MadeChain", "inputs", "()J"⟩ : MethodName)) (z := (⟨"com/example/veindb/veindb/bench/MadeChain", "inputs", "()J"⟩ : MethodName)) hown (mvT hZ (hw _ (List.mem_of_getElem? (i := 48) rfl))) (mvT hZ (hw _ (List.mem_of_getElem? (i := 49) rfl))) (notFace_of_selects (args := #[]) (mvT hZ (hw _ (List.mem_of_getElem? (i := 51) rfl)))) (mvT hZ (hw _ (List.mem_of_getElem? (i := 51) rfl))) (mvT hZ (hw _ (List.mem_of_getElem? (i := 50) rfl))) (by decide) (backOf (W := 0) (rm8 l Z a0 hw [] b59 (((0 : Int64) + p0.toInt64) + p3.toInt64) T62.heap n0 Zn F_b59_mInputs) hZ (hw _ (List.mem_of_getElem? (i := 52) rfl)) (hw _ (List.mem_of_getElem? (i := 2) rfl)) (by decide) (by decide)) q78a q78c (g := (mkF m 184 #[.val (.int p0), .val (.int p1), .val (.int p2), .val (.int p3), .val (.int p4), .val (.int p5), .val (.int w1), .val (.int g1), .val (.int w2), .val (.int g2), .val (.ref b59), .val (.long ((p0.toInt64) + (p3.toInt64))), .second, .val (.long ((p1.toInt64) + (p0.toInt64))), .second, .val (.long ((p2.toInt64) + (p4.toInt64))), .second, .val (.long ((p3.toInt64) + (p1.toInt64))), .second, .val (.long ((own_b w1) + (own_b w2))), .second, .val (.long ((own_b g1) + (own_b g2))), .second] [(.ref b59)])) rfl (by rw [hml]; rfl) (Steps.refl _) (argsL := []) (rest := []) (lenOf pd__28_29J rfl) rfl (by show 2 * 0 + _ ≤ _; exact Nat.le_of_eq rfl) (hb hby at_184) (fun _ _ => ⟨rfl, eh75, (by decide : 1 + 0 ≤ _), (by decide : 11 + 0 ≤ _)⟩)
  dsimp only [Pt.U, Pt.locs, Pt.cells, Pt.slots] at X78 l78 y78 z78 st78 hQ78
  subst l78 y78 z78
  obtain ⟨rfl, N78q, eh77⟩ := hQ78
  have N := Fr.app N N78q
  refine own_tr (S' := (T78.setTop (mkF m 187 #[.val (.int p0), .val (.int p1), .val (.int p2), .val (.int p3), .val (.int p4), .val (.int p5), .val (.int w1), .val (.int g1), .val (.int w2), .val (.int g2), .val (.ref b59), .val (.long ((p0.toInt64) + (p3.toInt64))), .second, .val (.long ((p1.toInt64) + (p0.toInt64))), .second, .val (.long ((p2.toInt64) + (p4.toInt64))), .second, .val (.long ((p3.toInt64) + (p1.toInt64))), .second, .val (.long ((own_b w1) + (own_b w2))), .second, .val (.long ((own_b g1) + (own_b g2))), .second] [(.long (((0 : Int64) + p0.toInt64) + p3.toInt64))]))) st78 ?_
  refine own_by (S' := (T78.setTop (mkF m 189 #[.val (.int p0), .val (.int p1), .val (.int p2), .val (.int p3), .val (.int p4), .val (.int p5), .val (.int w1), .val (.int g1), .val (.int w2), .val (.int g2), .val (.ref b59), .val (.long ((p0.toInt64) + (p3.toInt64))), .second, .val (.long ((p1.toInt64) + (p0.toInt64))), .second, .val (.long ((p2.toInt64) + (p4.toInt64))), .second, .val (.long ((p3.toInt64) + (p1.toInt64))), .second, .val (.long ((own_b w1) + (own_b w2))), .second, .val (.long ((own_b g1) + (own_b g2))), .second] [(.long ((p0.toInt64) + (p3.toInt64))), (.long (((0 : Int64) + p0.toInt64) + p3.toInt64))]))) (fun _ k => XS.lload X78.here hx rfl (hb hby at_187) rfl k) ?_
  refine own_by (S' := (T78.setTop (mkF m 190 #[.val (.int p0), .val (.int p1), .val (.int p2), .val (.int p3), .val (.int p4), .val (.int p5), .val (.int w1), .val (.int g1), .val (.int w2), .val (.int g2), .val (.ref b59), .val (.long ((p0.toInt64) + (p3.toInt64))), .second, .val (.long ((p1.toInt64) + (p0.toInt64))), .second, .val (.long ((p2.toInt64) + (p4.toInt64))), .second, .val (.long ((p3.toInt64) + (p1.toInt64))), .second, .val (.long ((own_b w1) + (own_b w2))), .second, .val (.long ((own_b g1) + (own_b g2))), .second] [(.int (lcmpW (((0 : Int64) + p0.toInt64) + p3.toInt64) ((p0.toInt64) + (p3.toInt64))))]))) (fun _ k => XS.lcmp X78.here hx rfl (hb hby at_189) rfl k) ?_
  refine own_by (S' := (T78.setTop (mkF m 193 #[.val (.int p0), .val (.int p1), .val (.int p2), .val (.int p3), .val (.int p4), .val (.int p5), .val (.int w1), .val (.int g1), .val (.int w2), .val (.int g2), .val (.ref b59), .val (.long ((p0.toInt64) + (p3.toInt64))), .second, .val (.long ((p1.toInt64) + (p0.toInt64))), .second, .val (.long ((p2.toInt64) + (p4.toInt64))), .second, .val (.long ((p3.toInt64) + (p1.toInt64))), .second, .val (.long ((own_b w1) + (own_b w2))), .second, .val (.long ((own_b g1) + (own_b g2))), .second] []))) (fun _ k => XS.ifNo X78.here hx rfl (hb hby at_190) rfl ((if0 _ _).trans (teq (((lw_eq _ _).mpr own_z) : (lcmpW (((0 : Int64) + p0.toInt64) + p3.toInt64) ((p0.toInt64) + (p3.toInt64))) = (0 : Int32))).2) k) ?_
  refine own_by (S' := (T78.setTop (mkF m 195 #[.val (.int p0), .val (.int p1), .val (.int p2), .val (.int p3), .val (.int p4), .val (.int p5), .val (.int w1), .val (.int g1), .val (.int w2), .val (.int g2), .val (.ref b59), .val (.long ((p0.toInt64) + (p3.toInt64))), .second, .val (.long ((p1.toInt64) + (p0.toInt64))), .second, .val (.long ((p2.toInt64) + (p4.toInt64))), .second, .val (.long ((p3.toInt64) + (p1.toInt64))), .second, .val (.long ((own_b w1) + (own_b w2))), .second, .val (.long ((own_b g1) + (own_b g2))), .second] [(.ref b59)]))) (fun _ k => XS.aload X78.here hx rfl (hb hby at_193) rfl rfl k) ?_
  obtain ⟨cq80, kq80, q80a, q80b, q80c⟩ := isOf hZ eh77 E_b59
  obtain ⟨_, _, ⟨T80, L80, k80, n80⟩, -, X80, ⟨Lc80, hQ80, l80, y80, z80⟩, st80⟩ := X78.virtualBack hx (y := (⟨"com/example/veindb/veindb/bench/MadeChain", "oldInputs", "()J"⟩ : MethodName)) (z := (⟨"com/example/veindb/veindb/bench/MadeChain", "oldInputs", "()J"⟩ : MethodName)) hown (mvT hZ (hw _ (List.mem_of_getElem? (i := 53) rfl))) (mvT hZ (hw _ (List.mem_of_getElem? (i := 54) rfl))) (notFace_of_selects (args := #[]) (mvT hZ (hw _ (List.mem_of_getElem? (i := 56) rfl)))) (mvT hZ (hw _ (List.mem_of_getElem? (i := 56) rfl))) (mvT hZ (hw _ (List.mem_of_getElem? (i := 55) rfl))) (by decide) (backOf (W := 0) (rm9 l Z a0 hw [] b59 (((0 : Int64) + p1.toInt64) + p0.toInt64) T62.heap n0 Zn F_b59_mOldInputs) hZ (hw _ (List.mem_of_getElem? (i := 57) rfl)) (hw _ (List.mem_of_getElem? (i := 2) rfl)) (by decide) (by decide)) q80a q80c (g := (mkF m 195 #[.val (.int p0), .val (.int p1), .val (.int p2), .val (.int p3), .val (.int p4), .val (.int p5), .val (.int w1), .val (.int g1), .val (.int w2), .val (.int g2), .val (.ref b59), .val (.long ((p0.toInt64) + (p3.toInt64))), .second, .val (.long ((p1.toInt64) + (p0.toInt64))), .second, .val (.long ((p2.toInt64) + (p4.toInt64))), .second, .val (.long ((p3.toInt64) + (p1.toInt64))), .second, .val (.long ((own_b w1) + (own_b w2))), .second, .val (.long ((own_b g1) + (own_b g2))), .second] [(.ref b59)])) rfl (by rw [hml]; rfl) (Steps.refl _) (argsL := []) (rest := []) (lenOf pd__28_29J rfl) rfl (by show 2 * 0 + _ ≤ _; exact Nat.le_of_eq rfl) (hb hby at_195) (fun _ _ => ⟨rfl, eh77, (by decide : 1 + 0 ≤ _), (by decide : 11 + 0 ≤ _)⟩)
  dsimp only [Pt.U, Pt.locs, Pt.cells, Pt.slots] at X80 l80 y80 z80 st80 hQ80
  subst l80 y80 z80
  obtain ⟨rfl, N80q, eh79⟩ := hQ80
  have N := Fr.app N N80q
  refine own_tr (S' := (T80.setTop (mkF m 198 #[.val (.int p0), .val (.int p1), .val (.int p2), .val (.int p3), .val (.int p4), .val (.int p5), .val (.int w1), .val (.int g1), .val (.int w2), .val (.int g2), .val (.ref b59), .val (.long ((p0.toInt64) + (p3.toInt64))), .second, .val (.long ((p1.toInt64) + (p0.toInt64))), .second, .val (.long ((p2.toInt64) + (p4.toInt64))), .second, .val (.long ((p3.toInt64) + (p1.toInt64))), .second, .val (.long ((own_b w1) + (own_b w2))), .second, .val (.long ((own_b g1) + (own_b g2))), .second] [(.long (((0 : Int64) + p1.toInt64) + p0.toInt64))]))) st80 ?_
  refine own_by (S' := (T80.setTop (mkF m 200 #[.val (.int p0), .val (.int p1), .val (.int p2), .val (.int p3), .val (.int p4), .val (.int p5), .val (.int w1), .val (.int g1), .val (.int w2), .val (.int g2), .val (.ref b59), .val (.long ((p0.toInt64) + (p3.toInt64))), .second, .val (.long ((p1.toInt64) + (p0.toInt64))), .second, .val (.long ((p2.toInt64) + (p4.toInt64))), .second, .val (.long ((p3.toInt64) + (p1.toInt64))), .second, .val (.long ((own_b w1) + (own_b w2))), .second, .val (.long ((own_b g1) + (own_b g2))), .second] [(.long ((p1.toInt64) + (p0.toInt64))), (.long (((0 : Int64) + p1.toInt64) + p0.toInt64))]))) (fun _ k => XS.lload X80.here hx rfl (hb hby at_198) rfl k) ?_
  refine own_by (S' := (T80.setTop (mkF m 201 #[.val (.int p0), .val (.int p1), .val (.int p2), .val (.int p3), .val (.int p4), .val (.int p5), .val (.int w1), .val (.int g1), .val (.int w2), .val (.int g2), .val (.ref b59), .val (.long ((p0.toInt64) + (p3.toInt64))), .second, .val (.long ((p1.toInt64) + (p0.toInt64))), .second, .val (.long ((p2.toInt64) + (p4.toInt64))), .second, .val (.long ((p3.toInt64) + (p1.toInt64))), .second, .val (.long ((own_b w1) + (own_b w2))), .second, .val (.long ((own_b g1) + (own_b g2))), .second] [(.int (lcmpW (((0 : Int64) + p1.toInt64) + p0.toInt64) ((p1.toInt64) + (p0.toInt64))))]))) (fun _ k => XS.lcmp X80.here hx rfl (hb hby at_200) rfl k) ?_
  refine own_by (S' := (T80.setTop (mkF m 204 #[.val (.int p0), .val (.int p1), .val (.int p2), .val (.int p3), .val (.int p4), .val (.int p5), .val (.int w1), .val (.int g1), .val (.int w2), .val (.int g2), .val (.ref b59), .val (.long ((p0.toInt64) + (p3.toInt64))), .second, .val (.long ((p1.toInt64) + (p0.toInt64))), .second, .val (.long ((p2.toInt64) + (p4.toInt64))), .second, .val (.long ((p3.toInt64) + (p1.toInt64))), .second, .val (.long ((own_b w1) + (own_b w2))), .second, .val (.long ((own_b g1) + (own_b g2))), .second] []))) (fun _ k => XS.ifNo X80.here hx rfl (hb hby at_201) rfl ((if0 _ _).trans (teq (((lw_eq _ _).mpr own_z) : (lcmpW (((0 : Int64) + p1.toInt64) + p0.toInt64) ((p1.toInt64) + (p0.toInt64))) = (0 : Int32))).2) k) ?_
  refine own_by (S' := (T80.setTop (mkF m 206 #[.val (.int p0), .val (.int p1), .val (.int p2), .val (.int p3), .val (.int p4), .val (.int p5), .val (.int w1), .val (.int g1), .val (.int w2), .val (.int g2), .val (.ref b59), .val (.long ((p0.toInt64) + (p3.toInt64))), .second, .val (.long ((p1.toInt64) + (p0.toInt64))), .second, .val (.long ((p2.toInt64) + (p4.toInt64))), .second, .val (.long ((p3.toInt64) + (p1.toInt64))), .second, .val (.long ((own_b w1) + (own_b w2))), .second, .val (.long ((own_b g1) + (own_b g2))), .second] [(.ref b59)]))) (fun _ k => XS.aload X80.here hx rfl (hb hby at_204) rfl rfl k) ?_
  obtain ⟨cq82, kq82, q82a, q82b, q82c⟩ := isOf hZ eh79 E_b59
  obtain ⟨_, _, ⟨T82, L82, k82, n82⟩, -, X82, ⟨Lc82, hQ82, l82, y82, z82⟩, st82⟩ := X80.virtualBack hx (y := (⟨"com/example/veindb/veindb/bench/MadeChain", "outputs", "()J"⟩ : MethodName)) (z := (⟨"com/example/veindb/veindb/bench/MadeChain", "outputs", "()J"⟩ : MethodName)) hown (mvT hZ (hw _ (List.mem_of_getElem? (i := 58) rfl))) (mvT hZ (hw _ (List.mem_of_getElem? (i := 59) rfl))) (notFace_of_selects (args := #[]) (mvT hZ (hw _ (List.mem_of_getElem? (i := 61) rfl)))) (mvT hZ (hw _ (List.mem_of_getElem? (i := 61) rfl))) (mvT hZ (hw _ (List.mem_of_getElem? (i := 60) rfl))) (by decide) (backOf (W := 0) (rm10 l Z a0 hw [] b59 (((0 : Int64) + p2.toInt64) + p4.toInt64) T62.heap n0 Zn F_b59_mOutputs) hZ (hw _ (List.mem_of_getElem? (i := 62) rfl)) (hw _ (List.mem_of_getElem? (i := 2) rfl)) (by decide) (by decide)) q82a q82c (g := (mkF m 206 #[.val (.int p0), .val (.int p1), .val (.int p2), .val (.int p3), .val (.int p4), .val (.int p5), .val (.int w1), .val (.int g1), .val (.int w2), .val (.int g2), .val (.ref b59), .val (.long ((p0.toInt64) + (p3.toInt64))), .second, .val (.long ((p1.toInt64) + (p0.toInt64))), .second, .val (.long ((p2.toInt64) + (p4.toInt64))), .second, .val (.long ((p3.toInt64) + (p1.toInt64))), .second, .val (.long ((own_b w1) + (own_b w2))), .second, .val (.long ((own_b g1) + (own_b g2))), .second] [(.ref b59)])) rfl (by rw [hml]; rfl) (Steps.refl _) (argsL := []) (rest := []) (lenOf pd__28_29J rfl) rfl (by show 2 * 0 + _ ≤ _; exact Nat.le_of_eq rfl) (hb hby at_206) (fun _ _ => ⟨rfl, eh79, (by decide : 1 + 0 ≤ _), (by decide : 11 + 0 ≤ _)⟩)
  dsimp only [Pt.U, Pt.locs, Pt.cells, Pt.slots] at X82 l82 y82 z82 st82 hQ82
  subst l82 y82 z82
  obtain ⟨rfl, N82q, eh81⟩ := hQ82
  have N := Fr.app N N82q
  refine own_tr (S' := (T82.setTop (mkF m 209 #[.val (.int p0), .val (.int p1), .val (.int p2), .val (.int p3), .val (.int p4), .val (.int p5), .val (.int w1), .val (.int g1), .val (.int w2), .val (.int g2), .val (.ref b59), .val (.long ((p0.toInt64) + (p3.toInt64))), .second, .val (.long ((p1.toInt64) + (p0.toInt64))), .second, .val (.long ((p2.toInt64) + (p4.toInt64))), .second, .val (.long ((p3.toInt64) + (p1.toInt64))), .second, .val (.long ((own_b w1) + (own_b w2))), .second, .val (.long ((own_b g1) + (own_b g2))), .second] [(.long (((0 : Int64) + p2.toInt64) + p4.toInt64))]))) st82 ?_
  refine own_by (S' := (T82.setTop (mkF m 211 #[.val (.int p0), .val (.int p1), .val (.int p2), .val (.int p3), .val (.int p4), .val (.int p5), .val (.int w1), .val (.int g1), .val (.int w2), .val (.int g2), .val (.ref b59), .val (.long ((p0.toInt64) + (p3.toInt64))), .second, .val (.long ((p1.toInt64) + (p0.toInt64))), .second, .val (.long ((p2.toInt64) + (p4.toInt64))), .second, .val (.long ((p3.toInt64) + (p1.toInt64))), .second, .val (.long ((own_b w1) + (own_b w2))), .second, .val (.long ((own_b g1) + (own_b g2))), .second] [(.long ((p2.toInt64) + (p4.toInt64))), (.long (((0 : Int64) + p2.toInt64) + p4.toInt64))]))) (fun _ k => XS.lload X82.here hx rfl (hb hby at_209) rfl k) ?_
  refine own_by (S' := (T82.setTop (mkF m 212 #[.val (.int p0), .val (.int p1), .val (.int p2), .val (.int p3), .val (.int p4), .val (.int p5), .val (.int w1), .val (.int g1), .val (.int w2), .val (.int g2), .val (.ref b59), .val (.long ((p0.toInt64) + (p3.toInt64))), .second, .val (.long ((p1.toInt64) + (p0.toInt64))), .second, .val (.long ((p2.toInt64) + (p4.toInt64))), .second, .val (.long ((p3.toInt64) + (p1.toInt64))), .second, .val (.long ((own_b w1) + (own_b w2))), .second, .val (.long ((own_b g1) + (own_b g2))), .second] [(.int (lcmpW (((0 : Int64) + p2.toInt64) + p4.toInt64) ((p2.toInt64) + (p4.toInt64))))]))) (fun _ k => XS.lcmp X82.here hx rfl (hb hby at_211) rfl k) ?_
  refine own_by (S' := (T82.setTop (mkF m 215 #[.val (.int p0), .val (.int p1), .val (.int p2), .val (.int p3), .val (.int p4), .val (.int p5), .val (.int w1), .val (.int g1), .val (.int w2), .val (.int g2), .val (.ref b59), .val (.long ((p0.toInt64) + (p3.toInt64))), .second, .val (.long ((p1.toInt64) + (p0.toInt64))), .second, .val (.long ((p2.toInt64) + (p4.toInt64))), .second, .val (.long ((p3.toInt64) + (p1.toInt64))), .second, .val (.long ((own_b w1) + (own_b w2))), .second, .val (.long ((own_b g1) + (own_b g2))), .second] []))) (fun _ k => XS.ifNo X82.here hx rfl (hb hby at_212) rfl ((if0 _ _).trans (teq (((lw_eq _ _).mpr own_z) : (lcmpW (((0 : Int64) + p2.toInt64) + p4.toInt64) ((p2.toInt64) + (p4.toInt64))) = (0 : Int32))).2) k) ?_
  refine own_by (S' := (T82.setTop (mkF m 217 #[.val (.int p0), .val (.int p1), .val (.int p2), .val (.int p3), .val (.int p4), .val (.int p5), .val (.int w1), .val (.int g1), .val (.int w2), .val (.int g2), .val (.ref b59), .val (.long ((p0.toInt64) + (p3.toInt64))), .second, .val (.long ((p1.toInt64) + (p0.toInt64))), .second, .val (.long ((p2.toInt64) + (p4.toInt64))), .second, .val (.long ((p3.toInt64) + (p1.toInt64))), .second, .val (.long ((own_b w1) + (own_b w2))), .second, .val (.long ((own_b g1) + (own_b g2))), .second] [(.ref b59)]))) (fun _ k => XS.aload X82.here hx rfl (hb hby at_215) rfl rfl k) ?_
  obtain ⟨cq84, kq84, q84a, q84b, q84c⟩ := isOf hZ eh81 E_b59
  obtain ⟨_, _, ⟨T84, L84, k84, n84⟩, -, X84, ⟨Lc84, hQ84, l84, y84, z84⟩, st84⟩ := X82.virtualBack hx (y := (⟨"com/example/veindb/veindb/bench/MadeChain", "opReturnOutputs", "()J"⟩ : MethodName)) (z := (⟨"com/example/veindb/veindb/bench/MadeChain", "opReturnOutputs", "()J"⟩ : MethodName)) hown (mvT hZ (hw _ (List.mem_of_getElem? (i := 63) rfl))) (mvT hZ (hw _ (List.mem_of_getElem? (i := 64) rfl))) (notFace_of_selects (args := #[]) (mvT hZ (hw _ (List.mem_of_getElem? (i := 66) rfl)))) (mvT hZ (hw _ (List.mem_of_getElem? (i := 66) rfl))) (mvT hZ (hw _ (List.mem_of_getElem? (i := 65) rfl))) (by decide) (backOf (W := 0) (rm11 l Z a0 hw [] b59 (((0 : Int64) + p3.toInt64) + p1.toInt64) T62.heap n0 Zn F_b59_mOpReturnOutputs) hZ (hw _ (List.mem_of_getElem? (i := 67) rfl)) (hw _ (List.mem_of_getElem? (i := 2) rfl)) (by decide) (by decide)) q84a q84c (g := (mkF m 217 #[.val (.int p0), .val (.int p1), .val (.int p2), .val (.int p3), .val (.int p4), .val (.int p5), .val (.int w1), .val (.int g1), .val (.int w2), .val (.int g2), .val (.ref b59), .val (.long ((p0.toInt64) + (p3.toInt64))), .second, .val (.long ((p1.toInt64) + (p0.toInt64))), .second, .val (.long ((p2.toInt64) + (p4.toInt64))), .second, .val (.long ((p3.toInt64) + (p1.toInt64))), .second, .val (.long ((own_b w1) + (own_b w2))), .second, .val (.long ((own_b g1) + (own_b g2))), .second] [(.ref b59)])) rfl (by rw [hml]; rfl) (Steps.refl _) (argsL := []) (rest := []) (lenOf pd__28_29J rfl) rfl (by show 2 * 0 + _ ≤ _; exact Nat.le_of_eq rfl) (hb hby at_217) (fun _ _ => ⟨rfl, eh81, (by decide : 1 + 0 ≤ _), (by decide : 11 + 0 ≤ _)⟩)
  dsimp only [Pt.U, Pt.locs, Pt.cells, Pt.slots] at X84 l84 y84 z84 st84 hQ84
  subst l84 y84 z84
  obtain ⟨rfl, N84q, eh83⟩ := hQ84
  have N := Fr.app N N84q
  refine own_tr (S' := (T84.setTop (mkF m 220 #[.val (.int p0), .val (.int p1), .val (.int p2), .val (.int p3), .val (.int p4), .val (.int p5), .val (.int w1), .val (.int g1), .val (.int w2), .val (.int g2), .val (.ref b59), .val (.long ((p0.toInt64) + (p3.toInt64))), .second, .val (.long ((p1.toInt64) + (p0.toInt64))), .second, .val (.long ((p2.toInt64) + (p4.toInt64))), .second, .val (.long ((p3.toInt64) + (p1.toInt64))), .second, .val (.long ((own_b w1) + (own_b w2))), .second, .val (.long ((own_b g1) + (own_b g2))), .second] [(.long (((0 : Int64) + p3.toInt64) + p1.toInt64))]))) st84 ?_
  refine own_by (S' := (T84.setTop (mkF m 222 #[.val (.int p0), .val (.int p1), .val (.int p2), .val (.int p3), .val (.int p4), .val (.int p5), .val (.int w1), .val (.int g1), .val (.int w2), .val (.int g2), .val (.ref b59), .val (.long ((p0.toInt64) + (p3.toInt64))), .second, .val (.long ((p1.toInt64) + (p0.toInt64))), .second, .val (.long ((p2.toInt64) + (p4.toInt64))), .second, .val (.long ((p3.toInt64) + (p1.toInt64))), .second, .val (.long ((own_b w1) + (own_b w2))), .second, .val (.long ((own_b g1) + (own_b g2))), .second] [(.long ((p3.toInt64) + (p1.toInt64))), (.long (((0 : Int64) + p3.toInt64) + p1.toInt64))]))) (fun _ k => XS.lload X84.here hx rfl (hb hby at_220) rfl k) ?_
  refine own_by (S' := (T84.setTop (mkF m 223 #[.val (.int p0), .val (.int p1), .val (.int p2), .val (.int p3), .val (.int p4), .val (.int p5), .val (.int w1), .val (.int g1), .val (.int w2), .val (.int g2), .val (.ref b59), .val (.long ((p0.toInt64) + (p3.toInt64))), .second, .val (.long ((p1.toInt64) + (p0.toInt64))), .second, .val (.long ((p2.toInt64) + (p4.toInt64))), .second, .val (.long ((p3.toInt64) + (p1.toInt64))), .second, .val (.long ((own_b w1) + (own_b w2))), .second, .val (.long ((own_b g1) + (own_b g2))), .second] [(.int (lcmpW (((0 : Int64) + p3.toInt64) + p1.toInt64) ((p3.toInt64) + (p1.toInt64))))]))) (fun _ k => XS.lcmp X84.here hx rfl (hb hby at_222) rfl k) ?_
  refine own_by (S' := (T84.setTop (mkF m 226 #[.val (.int p0), .val (.int p1), .val (.int p2), .val (.int p3), .val (.int p4), .val (.int p5), .val (.int w1), .val (.int g1), .val (.int w2), .val (.int g2), .val (.ref b59), .val (.long ((p0.toInt64) + (p3.toInt64))), .second, .val (.long ((p1.toInt64) + (p0.toInt64))), .second, .val (.long ((p2.toInt64) + (p4.toInt64))), .second, .val (.long ((p3.toInt64) + (p1.toInt64))), .second, .val (.long ((own_b w1) + (own_b w2))), .second, .val (.long ((own_b g1) + (own_b g2))), .second] []))) (fun _ k => XS.ifNo X84.here hx rfl (hb hby at_223) rfl ((if0 _ _).trans (teq (((lw_eq _ _).mpr own_z) : (lcmpW (((0 : Int64) + p3.toInt64) + p1.toInt64) ((p3.toInt64) + (p1.toInt64))) = (0 : Int32))).2) k) ?_
  refine own_by (S' := (T84.setTop (mkF m 228 #[.val (.int p0), .val (.int p1), .val (.int p2), .val (.int p3), .val (.int p4), .val (.int p5), .val (.int w1), .val (.int g1), .val (.int w2), .val (.int g2), .val (.ref b59), .val (.long ((p0.toInt64) + (p3.toInt64))), .second, .val (.long ((p1.toInt64) + (p0.toInt64))), .second, .val (.long ((p2.toInt64) + (p4.toInt64))), .second, .val (.long ((p3.toInt64) + (p1.toInt64))), .second, .val (.long ((own_b w1) + (own_b w2))), .second, .val (.long ((own_b g1) + (own_b g2))), .second] [(.ref b59)]))) (fun _ k => XS.aload X84.here hx rfl (hb hby at_226) rfl rfl k) ?_
  obtain ⟨cq86, kq86, q86a, q86b, q86c⟩ := isOf hZ eh83 E_b59
  obtain ⟨_, _, ⟨T86, L86, k86, n86⟩, -, X86, ⟨Lc86, hQ86, l86, y86, z86⟩, st86⟩ := X84.virtualBack hx (y := (⟨"com/example/veindb/veindb/bench/MadeChain", "blocks", "()I"⟩ : MethodName)) (z := (⟨"com/example/veindb/veindb/bench/MadeChain", "blocks", "()I"⟩ : MethodName)) hown (mvT hZ (hw _ (List.mem_of_getElem? (i := 68) rfl))) (mvT hZ (hw _ (List.mem_of_getElem? (i := 69) rfl))) (notFace_of_selects (args := #[]) (mvT hZ (hw _ (List.mem_of_getElem? (i := 71) rfl)))) (mvT hZ (hw _ (List.mem_of_getElem? (i := 71) rfl))) (mvT hZ (hw _ (List.mem_of_getElem? (i := 70) rfl))) (by decide) (backOf (W := 0) (rm12 l Z a0 hw [] b59 (0 : Int32) T62.heap n0 Zn F_b59_mBlocks) hZ (hw _ (List.mem_of_getElem? (i := 72) rfl)) (hw _ (List.mem_of_getElem? (i := 2) rfl)) (by decide) (by decide)) q86a q86c (g := (mkF m 228 #[.val (.int p0), .val (.int p1), .val (.int p2), .val (.int p3), .val (.int p4), .val (.int p5), .val (.int w1), .val (.int g1), .val (.int w2), .val (.int g2), .val (.ref b59), .val (.long ((p0.toInt64) + (p3.toInt64))), .second, .val (.long ((p1.toInt64) + (p0.toInt64))), .second, .val (.long ((p2.toInt64) + (p4.toInt64))), .second, .val (.long ((p3.toInt64) + (p1.toInt64))), .second, .val (.long ((own_b w1) + (own_b w2))), .second, .val (.long ((own_b g1) + (own_b g2))), .second] [(.ref b59)])) rfl (by rw [hml]; rfl) (Steps.refl _) (argsL := []) (rest := []) (lenOf pd__28_29I rfl) rfl (by show 2 * 0 + _ ≤ _; exact Nat.le_of_eq rfl) (hb hby at_228) (fun _ _ => ⟨rfl, eh83, (by decide : 1 + 0 ≤ _), (by decide : 11 + 0 ≤ _)⟩)
  dsimp only [Pt.U, Pt.locs, Pt.cells, Pt.slots] at X86 l86 y86 z86 st86 hQ86
  subst l86 y86 z86
  obtain ⟨rfl, N86q, eh85⟩ := hQ86
  have N := Fr.app N N86q
  refine own_tr (S' := (T86.setTop (mkF m 231 #[.val (.int p0), .val (.int p1), .val (.int p2), .val (.int p3), .val (.int p4), .val (.int p5), .val (.int w1), .val (.int g1), .val (.int w2), .val (.int g2), .val (.ref b59), .val (.long ((p0.toInt64) + (p3.toInt64))), .second, .val (.long ((p1.toInt64) + (p0.toInt64))), .second, .val (.long ((p2.toInt64) + (p4.toInt64))), .second, .val (.long ((p3.toInt64) + (p1.toInt64))), .second, .val (.long ((own_b w1) + (own_b w2))), .second, .val (.long ((own_b g1) + (own_b g2))), .second] [(.int (0 : Int32))]))) st86 ?_
  refine own_by (S' := (T86.setTop (mkF m 234 #[.val (.int p0), .val (.int p1), .val (.int p2), .val (.int p3), .val (.int p4), .val (.int p5), .val (.int w1), .val (.int g1), .val (.int w2), .val (.int g2), .val (.ref b59), .val (.long ((p0.toInt64) + (p3.toInt64))), .second, .val (.long ((p1.toInt64) + (p0.toInt64))), .second, .val (.long ((p2.toInt64) + (p4.toInt64))), .second, .val (.long ((p3.toInt64) + (p1.toInt64))), .second, .val (.long ((own_b w1) + (own_b w2))), .second, .val (.long ((own_b g1) + (own_b g2))), .second] []))) (fun _ k => XS.ifNo X86.here hx rfl (hb hby at_231) rfl ((if0 _ _).trans (teq ((by decide) : (0 : Int32) = (0 : Int32))).2) k) ?_
  refine own_by (S' := (T86.setTop (mkF m 236 #[.val (.int p0), .val (.int p1), .val (.int p2), .val (.int p3), .val (.int p4), .val (.int p5), .val (.int w1), .val (.int g1), .val (.int w2), .val (.int g2), .val (.ref b59), .val (.long ((p0.toInt64) + (p3.toInt64))), .second, .val (.long ((p1.toInt64) + (p0.toInt64))), .second, .val (.long ((p2.toInt64) + (p4.toInt64))), .second, .val (.long ((p3.toInt64) + (p1.toInt64))), .second, .val (.long ((own_b w1) + (own_b w2))), .second, .val (.long ((own_b g1) + (own_b g2))), .second] [(.ref b59)]))) (fun _ k => XS.aload X86.here hx rfl (hb hby at_234) rfl rfl k) ?_
  obtain ⟨cq88, kq88, q88a, q88b, q88c⟩ := isOf hZ eh85 E_b59
  obtain ⟨_, _, ⟨T88, L88, k88, n88⟩, -, X88, ⟨Lc88, hQ88, l88, y88, z88⟩, st88⟩ := X86.virtualBack hx (y := (⟨"com/example/veindb/veindb/bench/MadeChain", "distinctScripts", "()J"⟩ : MethodName)) (z := (⟨"com/example/veindb/veindb/bench/MadeChain", "distinctScripts", "()J"⟩ : MethodName)) hown (mvT hZ (hw _ (List.mem_of_getElem? (i := 75) rfl))) (mvT hZ (hw _ (List.mem_of_getElem? (i := 76) rfl))) (notFace_of_selects (args := #[]) (mvT hZ (hw _ (List.mem_of_getElem? (i := 78) rfl)))) (mvT hZ (hw _ (List.mem_of_getElem? (i := 78) rfl))) (mvT hZ (hw _ (List.mem_of_getElem? (i := 77) rfl))) (by decide) (backOf (W := 0) (rm13 l Z a0 hw [] b59 (0 : Int64) T62.heap n0 Zn F_b59_mDistinctScripts) hZ (hw _ (List.mem_of_getElem? (i := 79) rfl)) (hw _ (List.mem_of_getElem? (i := 2) rfl)) (by decide) (by decide)) q88a q88c (g := (mkF m 236 #[.val (.int p0), .val (.int p1), .val (.int p2), .val (.int p3), .val (.int p4), .val (.int p5), .val (.int w1), .val (.int g1), .val (.int w2), .val (.int g2), .val (.ref b59), .val (.long ((p0.toInt64) + (p3.toInt64))), .second, .val (.long ((p1.toInt64) + (p0.toInt64))), .second, .val (.long ((p2.toInt64) + (p4.toInt64))), .second, .val (.long ((p3.toInt64) + (p1.toInt64))), .second, .val (.long ((own_b w1) + (own_b w2))), .second, .val (.long ((own_b g1) + (own_b g2))), .second] [(.ref b59)])) rfl (by rw [hml]; rfl) (Steps.refl _) (argsL := []) (rest := []) (lenOf pd__28_29J rfl) rfl (by show 2 * 0 + _ ≤ _; exact Nat.le_of_eq rfl) (hb hby at_236) (fun _ _ => ⟨rfl, eh85, (by decide : 1 + 0 ≤ _), (by decide : 11 + 0 ≤ _)⟩)
  dsimp only [Pt.U, Pt.locs, Pt.cells, Pt.slots] at X88 l88 y88 z88 st88 hQ88
  subst l88 y88 z88
  obtain ⟨rfl, N88q, eh87⟩ := hQ88
  have N := Fr.app N N88q
  refine own_tr (S' := (T88.setTop (mkF m 239 #[.val (.int p0), .val (.int p1), .val (.int p2), .val (.int p3), .val (.int p4), .val (.int p5), .val (.int w1), .val (.int g1), .val (.int w2), .val (.int g2), .val (.ref b59), .val (.long ((p0.toInt64) + (p3.toInt64))), .second, .val (.long ((p1.toInt64) + (p0.toInt64))), .second, .val (.long ((p2.toInt64) + (p4.toInt64))), .second, .val (.long ((p3.toInt64) + (p1.toInt64))), .second, .val (.long ((own_b w1) + (own_b w2))), .second, .val (.long ((own_b g1) + (own_b g2))), .second] [(.long (0 : Int64))]))) st88 ?_
  refine own_by (S' := (T88.setTop (mkF m 240 #[.val (.int p0), .val (.int p1), .val (.int p2), .val (.int p3), .val (.int p4), .val (.int p5), .val (.int w1), .val (.int g1), .val (.int w2), .val (.int g2), .val (.ref b59), .val (.long ((p0.toInt64) + (p3.toInt64))), .second, .val (.long ((p1.toInt64) + (p0.toInt64))), .second, .val (.long ((p2.toInt64) + (p4.toInt64))), .second, .val (.long ((p3.toInt64) + (p1.toInt64))), .second, .val (.long ((own_b w1) + (own_b w2))), .second, .val (.long ((own_b g1) + (own_b g2))), .second] [(.long (0 : Int64)), (.long (0 : Int64))]))) (fun _ k => XS.lconst X88.here hx rfl (hb hby at_239) k) ?_
  refine own_by (S' := (T88.setTop (mkF m 241 #[.val (.int p0), .val (.int p1), .val (.int p2), .val (.int p3), .val (.int p4), .val (.int p5), .val (.int w1), .val (.int g1), .val (.int w2), .val (.int g2), .val (.ref b59), .val (.long ((p0.toInt64) + (p3.toInt64))), .second, .val (.long ((p1.toInt64) + (p0.toInt64))), .second, .val (.long ((p2.toInt64) + (p4.toInt64))), .second, .val (.long ((p3.toInt64) + (p1.toInt64))), .second, .val (.long ((own_b w1) + (own_b w2))), .second, .val (.long ((own_b g1) + (own_b g2))), .second] [(.int (lcmpW (0 : Int64) (0 : Int64)))]))) (fun _ k => XS.lcmp X88.here hx rfl (hb hby at_240) rfl k) ?_
  refine own_by (S' := (T88.setTop (mkF m 244 #[.val (.int p0), .val (.int p1), .val (.int p2), .val (.int p3), .val (.int p4), .val (.int p5), .val (.int w1), .val (.int g1), .val (.int w2), .val (.int g2), .val (.ref b59), .val (.long ((p0.toInt64) + (p3.toInt64))), .second, .val (.long ((p1.toInt64) + (p0.toInt64))), .second, .val (.long ((p2.toInt64) + (p4.toInt64))), .second, .val (.long ((p3.toInt64) + (p1.toInt64))), .second, .val (.long ((own_b w1) + (own_b w2))), .second, .val (.long ((own_b g1) + (own_b g2))), .second] []))) (fun _ k => XS.ifNo X88.here hx rfl (hb hby at_241) rfl ((if0 _ _).trans (teq (((lw_eq _ _).mpr rfl) : (lcmpW (0 : Int64) (0 : Int64)) = (0 : Int32))).2) k) ?_
  refine own_by (S' := (T88.setTop (mkF m 245 #[.val (.int p0), .val (.int p1), .val (.int p2), .val (.int p3), .val (.int p4), .val (.int p5), .val (.int w1), .val (.int g1), .val (.int w2), .val (.int g2), .val (.ref b59), .val (.long ((p0.toInt64) + (p3.toInt64))), .second, .val (.long ((p1.toInt64) + (p0.toInt64))), .second, .val (.long ((p2.toInt64) + (p4.toInt64))), .second, .val (.long ((p3.toInt64) + (p1.toInt64))), .second, .val (.long ((own_b w1) + (own_b w2))), .second, .val (.long ((own_b g1) + (own_b g2))), .second] [(.int (1 : Int32))]))) (fun _ k => XS.iconst X88.here hx rfl (hb hby at_244) k) ?_
  refine own_by (S' := (T88.setTop (mkF m 249 #[.val (.int p0), .val (.int p1), .val (.int p2), .val (.int p3), .val (.int p4), .val (.int p5), .val (.int w1), .val (.int g1), .val (.int w2), .val (.int g2), .val (.ref b59), .val (.long ((p0.toInt64) + (p3.toInt64))), .second, .val (.long ((p1.toInt64) + (p0.toInt64))), .second, .val (.long ((p2.toInt64) + (p4.toInt64))), .second, .val (.long ((p3.toInt64) + (p1.toInt64))), .second, .val (.long ((own_b w1) + (own_b w2))), .second, .val (.long ((own_b g1) + (own_b g2))), .second] [(.int (1 : Int32))]))) (fun _ k => XS.goto X88.here hx rfl (pc0 := 245) (pc' := 249) rfl (hb hby at_245) (by decide) (by decide) k) ?_
  exact own_ret X88 hx (t := .boolean) Bd.returns rfl (Or.inl ⟨rfl, by simp, _, rfl⟩) (hb hby at_249) hlk (by decide : 1 ≤ _) (by decide : 11 ≤ _) (by rw [eh87]; exact ⟨rfl, N⟩)
set_option maxRecDepth 65536 in
set_option maxHeartbeats 40000000 in
theorem comes_1 {Post : Tables → Env → Array Value → State → Outcome → State → Prop} (hpost : ∀ tb e args s v u, (limb_1_1.after args s (.returned v) u = true ∧ limb_1_2.after args s (.returned v) u = true ∧ True) → FrameEnd s (.returned v) u (Jvm.fieldLocs frame_1_writes args s ++ Jvm.arrayLocs frame_1_arrays args s ++ Jvm.staticLocs frame_1_statics s) 16 128 → Post tb e args s (.returned v) u) :
    ArmFor flags0 classFile x code maxLocals ret World_1 tables_1 room_1 Calls_1 rest_1 Pre_1 Post := by
  intro l hfl _ _ p e ha hc hk s m args below hf hA hF happ hP
  obtain ⟨hcalls, hrest, hpre⟩ := hP
  obtain ⟨-, -, -, hnamed, -, -, -, hat⟩ := (Spec.applies_iff hf).mp happ
  obtain ⟨hg, hn⟩ := and_e (Cond.before_iff.mp (show (Jvm.Cond.and given_1 narrow_1).before args s = true from hpre))
  obtain ⟨gc, gr⟩ := and_e hg
  obtain ⟨g0, gr⟩ := and_e gr
  obtain ⟨g1, gr⟩ := and_e gr
  obtain ⟨g2, gr⟩ := and_e gr
  obtain ⟨g3, gr⟩ := and_e gr
  obtain ⟨g4, gr⟩ := and_e gr
  have g5 := gr
  obtain ⟨w0, w1, w2, w3, w4, w5, rfl⟩ : ∃ w0 w1 w2 w3 w4 w5 : Value, args = #[w0, w1, w2, w3, w4, w5] := by
    have hs : args.size = 6 := by simpa [Cond.value, given_1] using gc
    obtain ⟨L⟩ := args
    match L, hs with
    | [w0, w1, w2, w3, w4, w5], _ => exact ⟨w0, w1, w2, w3, w4, w5, rfl⟩
  have hw := fun d (hd : d ∈ tables_1) => atoms_spec (ws := Jvm.Cond.code x code maxLocals ret :: tables_1) hat d (List.mem_cons_of_mem _ hd)
  have hfit : Fit s := fun {y c} hc i hi => by
    obtain ⟨ha, rfl⟩ := Array.getElem?_eq_some_iff.mp hc
    have q := List.all_eq_true.mp ((Array.all_eq_true_iff_forall_mem.mp hF) _ (Array.getElem_mem ha)) i (List.mem_range.mpr hi)
    simpa [Array.getElem?_eq_getElem hi] using q
  obtain ⟨i0, ei0⟩ := is_v g0
  obtain rfl : w0 = (.int i0) := Option.some.inj ei0
  obtain ⟨i1, ei1⟩ := is_v g1
  obtain rfl : w1 = (.int i1) := Option.some.inj ei1
  obtain ⟨i2, ei2⟩ := is_v g2
  obtain rfl : w2 = (.int i2) := Option.some.inj ei2
  obtain ⟨i3, ei3⟩ := is_v g3
  obtain rfl : w3 = (.int i3) := Option.some.inj ei3
  obtain ⟨i4, ei4⟩ := is_v g4
  obtain rfl : w4 = (.int i4) := Option.some.inj ei4
  obtain ⟨i5, ei5⟩ := is_v g5
  obtain rfl : w5 = (.int i5) := Option.some.inj ei5
  obtain ⟨n, o, h1, h2, h3, _, L, rfl, ⟨rfl, N⟩, hq⟩ := rm0 l s _ hw tables_1 i0 i1 i2 i3 i4 i5 s.heap s.heap.size (Nat.le_refl _) p e ha hc hk s m _ below hf ((Spec.applies_iff_loose hf).mp happ).1 ⟨rfl, State.Warmed39.refl s, rfl⟩ trivial
  refine ⟨n, _, h1, h2, h3, hpost _ _ _ _ _ _ ⟨Cond.after_iff.mpr rfl, Cond.after_iff.mpr (eq_i res_at (Term.int_eval (1)) rfl), trivial⟩ ⟨hq.1, hq.2.1, (hq.2.2.sift fun y hy => Or.inr (N y hy)).mono (by decide) (by decide)⟩⟩
theorem main_1_1 : Claimed_1_1 := comes_1 fun _ _ _ _ _ _ h hF => ⟨h.1, hF⟩
theorem main_1_2 : Claimed_1_2 := comes_1 fun _ _ _ _ _ _ h hF => ⟨h.2.1, hF⟩
end Jvm.Pilot.@@N@@
namespace Jvm.Pilot.@@N@@
open Jvm Jvm.ClassFile Sem Op Lib Jvm.Free Jvm.Stand Jvm.Pilot.@@N@@.Jvm.D
/-! MADE BY PROGRAM (witnessworld.py) out of the Statement's table words and the real class files: 9 classes; the members and pool entries that the words name. The judged class is class 1, her method 2. -/
namespace start1
open Jvm.ClassFile
def u (s : String) : CpInfo := .utf8 (stringToUtf16 s)
/-- a pool by its gaps: so many unusable entries, then the entry; so many at the end -/
def gap : Nat → List CpInfo → List CpInfo
  | 0, r => r
  | n + 1, r => .unusable :: gap n r
def poolList (es : List (Nat × CpInfo)) (last : Nat) : List CpInfo := es.foldr (fun e r => gap e.1 (e.2 :: r)) (gap last [])
def pool (es : List (Nat × CpInfo)) (last : Nat) : Array CpInfo := ⟨poolList es last⟩
def fileOf (pool : Array CpInfo) (this : Nat) (attrs : Array Attribute := #[]) (ms : Array MethodInfo := #[]) (fl : Nat := 33) (sup : Nat := 0) (ifs : Array Nat := #[]) (fds : Array FieldInfo := #[]) : ClassFile where
  minorVersion := 0
  majorVersion := 65
  constantPool := pool
  accessFlags := fl
  thisClass := this
  superClass := sup
  interfaces := ifs
  fields := fds
  methods := ms
  attributes := attrs
def plain (name : String) (sup : Option ClassId) : Class where
  name := name
  kind := .ordinary
  loader := none
  accessFlags := 33
  super := sup
  interfaces := #[]
  cf := none
  fields := #[]
  methods := #[]
  instanceTypes := #[]
  staticTypes := #[]
  resolved := #[]
  callSites := []
  init := .initialized
  statics := none
  mirror := none

def pool0 : Array CpInfo := pool [(5, u "<init>"), (0, u "()V"), (1, .class_ 10), (1, u "java/lang/Object")] 113

def k0c0 : Code := { maxStack := 0, maxLocals := 1, code := object_method_1_code, exceptionTable := #[], attributes := #[] }
def k0m0 : Method := { name := "<init>", desc := "()V", sig := { parameters := [], returnType := none }, accessFlags := 1, code := some k0c0 }
/-- java/lang/Object -/
def k0 : Class := { plain "java/lang/Object" none with
  accessFlags := 33
  interfaces := #[]
  cf := some (fileOf pool0 8 #[] #[{ accessFlags := 1, nameIndex := 5, descriptorIndex := 6, attributes := #[] }] 33 0 #[] #[])
  fields := #[]
  methods := #[k0m0]
  instanceTypes := #[]
  staticTypes := #[]
  resolved := Array.replicate 124 none
  statics := none }

def pool1 : Array CpInfo := pool [(2, .class_ 4), (0, .nameAndType 5 6), (0, u "java/lang/Object"), (0, u "<init>"), (0, u "()V"), (0, .class_ 8), (0, u "com/example/veindb/veindb/bench/MadeChain"), (0, .methodref 7 3), (0, .methodref 7 11), (0, .nameAndType 12 13), (0, u "countTransaction"), (0, u "(IIIIZZ)V"), (0, .methodref 15 16), (0, .class_ 17), (0, .nameAndType 18 19), (0, u "com/example/veindb/veindb/bench/MadeChainCountTransactionPinLaw"), (0, u "bit"), (0, u "(Z)J"), (0, .methodref 7 21), (0, .nameAndType 22 23), (0, u "transactions"), (0, u "()J"), (0, .long 2), (1, .methodref 7 27), (0, .nameAndType 28 23), (0, u "witnessTransactions"), (0, .methodref 7 30), (0, .nameAndType 31 23), (0, u "hotHistory"), (0, .methodref 7 33), (0, .nameAndType 34 23), (0, u "inputs"), (0, .methodref 7 36), (0, .nameAndType 37 23), (0, u "oldInputs"), (0, .methodref 7 39), (0, .nameAndType 40 23), (0, u "outputs"), (0, .methodref 7 42), (0, .nameAndType 43 23), (0, u "opReturnOutputs"), (0, .methodref 7 45), (0, .nameAndType 46 47), (0, u "blocks"), (0, u "()I"), (0, .methodref 7 49), (0, .nameAndType 50 23), (0, u "distinctScripts"), (3, u "law"), (0, u "(IIIIII)Z")] 2

def k1m0 : Method := { name := "<init>", desc := "()V", sig := { parameters := [], returnType := none }, accessFlags := 1, code := none }
def k1c1 : Code := { maxStack := 2, maxLocals := 1, code := method_2_code, exceptionTable := #[], attributes := #[] }
def k1m1 : Method := { name := "bit", desc := "(Z)J", sig := { parameters := [.boolean], returnType := some .long }, accessFlags := 10, code := some k1c1 }
def k1c2 : Code := { maxStack := 7, maxLocals := 23, code := code, exceptionTable := #[], attributes := #[] }
def k1m2 : Method := { name := "law", desc := "(IIIIII)Z", sig := { parameters := [.int, .int, .int, .int, .int, .int], returnType := some .boolean }, accessFlags := 9, code := some k1c2 }
/-- com/example/veindb/veindb/bench/MadeChainCountTransactionPinLaw -/
def k1 : Class := { plain "com/example/veindb/veindb/bench/MadeChainCountTransactionPinLaw" (some 0) with
  accessFlags := 49
  interfaces := #[]
  cf := some (fileOf pool1 15 #[] #[{ accessFlags := 1, nameIndex := 5, descriptorIndex := 6, attributes := #[] }, { accessFlags := 10, nameIndex := 18, descriptorIndex := 19, attributes := #[] }, { accessFlags := 9, nameIndex := 54, descriptorIndex := 55, attributes := #[] }] 49 2 #[] #[])
  fields := #[]
  methods := #[k1m0, k1m1, k1m2]
  instanceTypes := #[]
  staticTypes := #[]
  resolved := Array.replicate 58 none
  statics := none }

def pool2 : Array CpInfo := pool [(1, .methodref 2 3), (0, .class_ 4), (0, .nameAndType 5 6), (0, u "java/lang/Object"), (0, u "<init>"), (0, u "()V"), (0, .fieldref 8 9), (0, .class_ 10), (0, .nameAndType 11 12), (0, u "com/example/veindb/veindb/bench/MadeChain"), (0, u "mTransactions"), (0, u "J"), (0, .fieldref 8 14), (0, .nameAndType 15 12), (0, u "mWitnessTransactions"), (0, .fieldref 8 17), (0, .nameAndType 18 12), (0, u "mHotHistory"), (0, .fieldref 8 20), (0, .nameAndType 21 12), (0, u "mInputs"), (0, .fieldref 8 23), (0, .nameAndType 24 12), (0, u "mOldInputs"), (0, .fieldref 8 26), (0, .nameAndType 27 12), (0, u "mOutputs"), (0, .fieldref 8 29), (0, .nameAndType 30 12), (0, u "mOpReturnOutputs"), (0, .fieldref 8 32), (0, .nameAndType 33 34), (0, u "mBlocks"), (0, u "I"), (2, u "mTip"), (0, u "Lcom/example/veindb/veindb/chain/Hash256;"), (0, .fieldref 8 40), (0, .nameAndType 41 12), (0, u "mDistinctScripts"), (2, u "mHotScript"), (0, u "[B"), (7, u "countTransaction"), (0, u "(IIIIZZ)V"), (3, u "transactions"), (0, u "()J"), (0, u "witnessTransactions"), (0, u "inputs"), (0, u "oldInputs"), (0, u "outputs"), (0, u "opReturnOutputs"), (0, u "blocks"), (0, u "()I"), (0, u "distinctScripts"), (2, u "hotHistory")] 4

def k2c0 : Code := { maxStack := 1, maxLocals := 1, code := prog_3_method_1_code, exceptionTable := #[], attributes := #[] }
def k2m0 : Method := { name := "<init>", desc := "()V", sig := { parameters := [], returnType := none }, accessFlags := 0, code := some k2c0 }
def k2c1 : Code := { maxStack := 5, maxLocals := 7, code := prog_3_method_2_code, exceptionTable := #[], attributes := #[] }
def k2m1 : Method := { name := "countTransaction", desc := "(IIIIZZ)V", sig := { parameters := [.int, .int, .int, .int, .boolean, .boolean], returnType := none }, accessFlags := 0, code := some k2c1 }
def k2c2 : Code := { maxStack := 2, maxLocals := 1, code := prog_3_method_4_code, exceptionTable := #[], attributes := #[] }
def k2m2 : Method := { name := "transactions", desc := "()J", sig := { parameters := [], returnType := some .long }, accessFlags := 1, code := some k2c2 }
def k2c3 : Code := { maxStack := 2, maxLocals := 1, code := prog_3_method_5_code, exceptionTable := #[], attributes := #[] }
def k2m3 : Method := { name := "witnessTransactions", desc := "()J", sig := { parameters := [], returnType := some .long }, accessFlags := 1, code := some k2c3 }
def k2c4 : Code := { maxStack := 2, maxLocals := 1, code := prog_3_method_6_code, exceptionTable := #[], attributes := #[] }
def k2m4 : Method := { name := "inputs", desc := "()J", sig := { parameters := [], returnType := some .long }, accessFlags := 1, code := some k2c4 }
def k2c5 : Code := { maxStack := 2, maxLocals := 1, code := prog_3_method_7_code, exceptionTable := #[], attributes := #[] }
def k2m5 : Method := { name := "oldInputs", desc := "()J", sig := { parameters := [], returnType := some .long }, accessFlags := 1, code := some k2c5 }
def k2c6 : Code := { maxStack := 2, maxLocals := 1, code := prog_3_method_8_code, exceptionTable := #[], attributes := #[] }
def k2m6 : Method := { name := "outputs", desc := "()J", sig := { parameters := [], returnType := some .long }, accessFlags := 1, code := some k2c6 }
def k2c7 : Code := { maxStack := 2, maxLocals := 1, code := prog_3_method_9_code, exceptionTable := #[], attributes := #[] }
def k2m7 : Method := { name := "opReturnOutputs", desc := "()J", sig := { parameters := [], returnType := some .long }, accessFlags := 1, code := some k2c7 }
def k2c8 : Code := { maxStack := 1, maxLocals := 1, code := prog_3_method_10_code, exceptionTable := #[], attributes := #[] }
def k2m8 : Method := { name := "blocks", desc := "()I", sig := { parameters := [], returnType := some .int }, accessFlags := 1, code := some k2c8 }
def k2c9 : Code := { maxStack := 2, maxLocals := 1, code := prog_3_method_11_code, exceptionTable := #[], attributes := #[] }
def k2m9 : Method := { name := "distinctScripts", desc := "()J", sig := { parameters := [], returnType := some .long }, accessFlags := 1, code := some k2c9 }
def k2c10 : Code := { maxStack := 2, maxLocals := 1, code := prog_3_method_13_code, exceptionTable := #[], attributes := #[] }
def k2m10 : Method := { name := "hotHistory", desc := "()J", sig := { parameters := [], returnType := some .long }, accessFlags := 1, code := some k2c10 }
/-- com/example/veindb/veindb/bench/MadeChain -/
def k2 : Class := { plain "com/example/veindb/veindb/bench/MadeChain" (some 0) with
  accessFlags := 49
  interfaces := #[]
  cf := some (fileOf pool2 8 #[] #[{ accessFlags := 0, nameIndex := 5, descriptorIndex := 6, attributes := #[] }, { accessFlags := 0, nameIndex := 53, descriptorIndex := 54, attributes := #[] }, { accessFlags := 1, nameIndex := 58, descriptorIndex := 59, attributes := #[] }, { accessFlags := 1, nameIndex := 60, descriptorIndex := 59, attributes := #[] }, { accessFlags := 1, nameIndex := 61, descriptorIndex := 59, attributes := #[] }, { accessFlags := 1, nameIndex := 62, descriptorIndex := 59, attributes := #[] }, { accessFlags := 1, nameIndex := 63, descriptorIndex := 59, attributes := #[] }, { accessFlags := 1, nameIndex := 64, descriptorIndex := 59, attributes := #[] }, { accessFlags := 1, nameIndex := 65, descriptorIndex := 66, attributes := #[] }, { accessFlags := 1, nameIndex := 67, descriptorIndex := 59, attributes := #[] }, { accessFlags := 1, nameIndex := 70, descriptorIndex := 59, attributes := #[] }] 49 2 #[] #[{ accessFlags := 2, nameIndex := 11, descriptorIndex := 12, attributes := #[] }, { accessFlags := 2, nameIndex := 15, descriptorIndex := 12, attributes := #[] }, { accessFlags := 2, nameIndex := 21, descriptorIndex := 12, attributes := #[] }, { accessFlags := 2, nameIndex := 24, descriptorIndex := 12, attributes := #[] }, { accessFlags := 2, nameIndex := 27, descriptorIndex := 12, attributes := #[] }, { accessFlags := 2, nameIndex := 30, descriptorIndex := 12, attributes := #[] }, { accessFlags := 2, nameIndex := 33, descriptorIndex := 34, attributes := #[] }, { accessFlags := 2, nameIndex := 41, descriptorIndex := 12, attributes := #[] }, { accessFlags := 2, nameIndex := 18, descriptorIndex := 12, attributes := #[] }, { accessFlags := 2, nameIndex := 44, descriptorIndex := 45, attributes := #[] }, { accessFlags := 2, nameIndex := 37, descriptorIndex := 38, attributes := #[] }])
  fields := #[{ name := "mTransactions", type := .long, accessFlags := 2, slot := 0, constantValue := 0 }, { name := "mWitnessTransactions", type := .long, accessFlags := 2, slot := 1, constantValue := 0 }, { name := "mInputs", type := .long, accessFlags := 2, slot := 2, constantValue := 0 }, { name := "mOldInputs", type := .long, accessFlags := 2, slot := 3, constantValue := 0 }, { name := "mOutputs", type := .long, accessFlags := 2, slot := 4, constantValue := 0 }, { name := "mOpReturnOutputs", type := .long, accessFlags := 2, slot := 5, constantValue := 0 }, { name := "mBlocks", type := .int, accessFlags := 2, slot := 6, constantValue := 0 }, { name := "mDistinctScripts", type := .long, accessFlags := 2, slot := 7, constantValue := 0 }, { name := "mHotHistory", type := .long, accessFlags := 2, slot := 8, constantValue := 0 }, { name := "mHotScript", type := (.array .byte), accessFlags := 2, slot := 9, constantValue := 0 }, { name := "mTip", type := (.object "com/example/veindb/veindb/chain/Hash256"), accessFlags := 2, slot := 10, constantValue := 0 }]
  methods := #[k2m0, k2m1, k2m2, k2m3, k2m4, k2m5, k2m6, k2m7, k2m8, k2m9, k2m10]
  instanceTypes := #[.long, .long, .long, .long, .long, .long, .int, .long, .long, (.array .byte), (.object "com/example/veindb/veindb/chain/Hash256")]
  staticTypes := #[]
  resolved := Array.replicate 75 none
  statics := none }

def pool3 : Array CpInfo := pool [(1, u "java/lang/Cloneable"), (0, .class_ 1), (0, u "java/lang/Object"), (0, .class_ 3)] 3

/-- java/lang/Cloneable -/
def k3 : Class := { plain "java/lang/Cloneable" (some 0) with
  accessFlags := 1537
  interfaces := #[]
  cf := some (fileOf pool3 2 #[] #[] 1537 4 #[] #[])
  fields := #[]
  methods := #[]
  instanceTypes := #[]
  staticTypes := #[]
  resolved := Array.replicate 8 none
  statics := none }

def pool4 : Array CpInfo := pool [(1, u "java/io/Serializable"), (0, .class_ 1), (0, u "java/lang/Object"), (0, .class_ 3)] 3

/-- java/io/Serializable -/
def k4 : Class := { plain "java/io/Serializable" (some 0) with
  accessFlags := 1537
  interfaces := #[]
  cf := some (fileOf pool4 2 #[] #[] 1537 4 #[] #[])
  fields := #[]
  methods := #[]
  instanceTypes := #[]
  staticTypes := #[]
  resolved := Array.replicate 8 none
  statics := none }

/-- the primitive byte -/
def k5 : Class := { plain "byte" none with kind := .primitive 'B', accessFlags := 0x411 }
/-- [B -/
def k6 : Class := { plain "[B" (some 0) with kind := .array 5 .byte, interfaces := #[3, 4], accessFlags := 1041 }

/-- the primitive int -/
def k7 : Class := { plain "int" none with kind := .primitive 'I', accessFlags := 0x411 }
/-- [I -/
def k8 : Class := { plain "[I" (some 0) with kind := .array 7 .int, interfaces := #[3, 4], accessFlags := 1041 }

def heap : Heap := #[]
def classes : Array Class := #[k0, k1, k2, k3, k4, k5, k6, k7, k8]
def interned : List (Array UInt16 × Addr) := []
def slotsUsed : Nat := 0
def theMethod : MethodId := ⟨1, 2⟩
def args0 : Array Value := #[.int 5, .int 5, .int 5, .int 5, .int 5, .int 5]
def aboutOver (below : List Frame) : State where
  vm := { classes := classes, interned := interned.toArray }
  heap := heap
  slotsUsed := slotsUsed
  threads := #[{ frames := .invoking theMethod args0 :: below }]
def below0 : List Frame := [.native { method := ⟨0, 0⟩, args := #[] }]
def about1 : State := aboutOver below0
def p0 : Program := .bare "" "" ""
def e0 : Env := launch0.env 0 0 0
theorem w_frames : about1.frames = Frame.invoking theMethod args0 :: below0 := rfl
set_option maxRecDepth 65536 in
theorem w_args : argsFit about1.vm theMethod args0 = true := by decide +kernel
set_option maxRecDepth 65536 in
theorem w_heap : heapFits about1 = true := by decide +kernel
set_option maxRecDepth 65536 in
theorem w_runnable : about1.curStatus? = some .runnable := by decide +kernel
set_option maxRecDepth 65536 in
theorem w_alone : about1.alone = true := by decide +kernel
set_option maxRecDepth 65536 in
theorem w_named : about1.methodNamed? x = some theMethod := by decide +kernel
set_option maxRecDepth 65536 in
theorem w_hears : about1.hears theMethod below0 = true := by decide +kernel
set_option maxRecDepth 65536 in
theorem w_ripe : about1.ripe theMethod args0 below0 = true := by decide +kernel
theorem w_running : about1.status = .running := rfl
set_option maxRecDepth 65536 in
theorem w_room : about1.hasRoom e0.platform room_1 = true :=
  launch0.hasRoom_least _ room_1 (by decide +kernel) (by decide +kernel) (by decide +kernel) (by decide +kernel) (by decide +kernel) (by decide +kernel)
theorem allAtoms_all (ts : List Jvm.Cond) (a : Array Jvm.Value) (st : Jvm.State) : (allAtoms ts).before a st = ts.all (fun c => c.before a st) := by
  induction ts with
  | nil => rfl
  | cons c t ih =>
    show (Jvm.Cond.and c (allAtoms t)).before a st = _
    rw [Jvm.Cond.before_and, ih, List.all_cons]
def words1 : List Jvm.Cond := Jvm.Cond.code x code maxLocals ret :: tables_1
/-- a 'code' word, met by the world's own term for the bytes: nothing is compared byte by byte -/
theorem code_word {y : MethodName} {bytes : ByteArray} {mx : Nat} {rt : Option FieldType} {a : Array Value} {s : State} {m : MethodId} {meth : Method} {c : Code} (h1 : s.methodNamed? y = some m) (h2 : s.vm.method? m = some meth) (h3 : meth.code = some c) (h4 : c.code = bytes)
    (h5 : (c.maxLocals == mx && c.exceptionTable.isEmpty && decide (c.maxStack ≤ mostOperands) && decide (meth.sig.returnType = rt) && !meth.locks && decide (parseMethodDescriptor y.desc = some meth.sig)) = true) : (Jvm.Cond.code y bytes mx rt).before a s = true := by
  simp only [Bool.and_eq_true, beq_iff_eq, Bool.not_eq_true', decide_eq_true_eq] at h5
  obtain ⟨⟨⟨⟨⟨g1, g2⟩, g3⟩, g4⟩, g5⟩, g6⟩ := h5
  simp [Cond.before, Cond.holds, Cond.value, h1, h2, h3, h4, g1, g2, g3, g4, g5, g6]
def isCode : Jvm.Cond → Bool
  | .code _ _ _ _ => true
  | _ => false
theorem all_split {L : List Jvm.Cond} {P : Jvm.Cond → Bool} (h1 : L.all (fun c => isCode c || P c) = true) (h2 : ∀ c ∈ L.filter isCode, P c = true) : L.all P = true := by
  refine List.all_eq_true.mpr fun c hc => ?_
  have h := List.all_eq_true.mp h1 c hc
  rcases Bool.eq_false_or_eq_true (isCode c) with hi | hi
  · exact h2 c (List.mem_filter.mpr ⟨hc, hi⟩)
  · simpa [hi] using h
set_option maxRecDepth 65536 in
theorem w_c0 : (Jvm.Cond.code x code maxLocals ret).before args0 about1 = true := code_word (m := ⟨1, 2⟩) (meth := k1m2) (c := k1c2) (by decide +kernel) rfl rfl rfl (by decide +kernel)
set_option maxRecDepth 65536 in
theorem w_c1 : (Jvm.Cond.code ({ cls := "com/example/veindb/veindb/bench/MadeChain", name := "<init>", desc := "()V" } : Jvm.MethodName) prog_3_method_1_code (1 : Nat) (Option.none : Option Jvm.ClassFile.FieldType)).before args0 about1 = true := code_word (m := ⟨2, 0⟩) (meth := k2m0) (c := k2c0) (by decide +kernel) rfl rfl rfl (by decide +kernel)
set_option maxRecDepth 65536 in
theorem w_c2 : (Jvm.Cond.code ({ cls := "java/lang/Object", name := "<init>", desc := "()V" } : Jvm.MethodName) object_method_1_code (1 : Nat) (Option.none : Option Jvm.ClassFile.FieldType)).before args0 about1 = true := code_word (m := ⟨0, 0⟩) (meth := k0m0) (c := k0c0) (by decide +kernel) rfl rfl rfl (by decide +kernel)
set_option maxRecDepth 65536 in
theorem w_c3 : (Jvm.Cond.code ({ cls := "com/example/veindb/veindb/bench/MadeChain", name := "countTransaction", desc := "(IIIIZZ)V" } : Jvm.MethodName) prog_3_method_2_code (7 : Nat) (Option.none : Option Jvm.ClassFile.FieldType)).before args0 about1 = true := code_word (m := ⟨2, 1⟩) (meth := k2m1) (c := k2c1) (by decide +kernel) rfl rfl rfl (by decide +kernel)
set_option maxRecDepth 65536 in
theorem w_c4 : (Jvm.Cond.code ({ cls := "com/example/veindb/veindb/bench/MadeChainCountTransactionPinLaw", name := "bit", desc := "(Z)J" } : Jvm.MethodName) method_2_code (1 : Nat) (Option.some Jvm.ClassFile.FieldType.long)).before args0 about1 = true := code_word (m := ⟨1, 1⟩) (meth := k1m1) (c := k1c1) (by decide +kernel) rfl rfl rfl (by decide +kernel)
set_option maxRecDepth 65536 in
theorem w_c5 : (Jvm.Cond.code ({ cls := "com/example/veindb/veindb/bench/MadeChain", name := "transactions", desc := "()J" } : Jvm.MethodName) prog_3_method_4_code (1 : Nat) (Option.some Jvm.ClassFile.FieldType.long)).before args0 about1 = true := code_word (m := ⟨2, 2⟩) (meth := k2m2) (c := k2c2) (by decide +kernel) rfl rfl rfl (by decide +kernel)
set_option maxRecDepth 65536 in
theorem w_c6 : (Jvm.Cond.code ({ cls := "com/example/veindb/veindb/bench/MadeChain", name := "witnessTransactions", desc := "()J" } : Jvm.MethodName) prog_3_method_5_code (1 : Nat) (Option.some Jvm.ClassFile.FieldType.long)).before args0 about1 = true := code_word (m := ⟨2, 3⟩) (meth := k2m3) (c := k2c3) (by decide +kernel) rfl rfl rfl (by decide +kernel)
set_option maxRecDepth 65536 in
theorem w_c7 : (Jvm.Cond.code ({ cls := "com/example/veindb/veindb/bench/MadeChain", name := "hotHistory", desc := "()J" } : Jvm.MethodName) prog_3_method_13_code (1 : Nat) (Option.some Jvm.ClassFile.FieldType.long)).before args0 about1 = true := code_word (m := ⟨2, 10⟩) (meth := k2m10) (c := k2c10) (by decide +kernel) rfl rfl rfl (by decide +kernel)
set_option maxRecDepth 65536 in
theorem w_c8 : (Jvm.Cond.code ({ cls := "com/example/veindb/veindb/bench/MadeChain", name := "inputs", desc := "()J" } : Jvm.MethodName) prog_3_method_6_code (1 : Nat) (Option.some Jvm.ClassFile.FieldType.long)).before args0 about1 = true := code_word (m := ⟨2, 4⟩) (meth := k2m4) (c := k2c4) (by decide +kernel) rfl rfl rfl (by decide +kernel)
set_option maxRecDepth 65536 in
theorem w_c9 : (Jvm.Cond.code ({ cls := "com/example/veindb/veindb/bench/MadeChain", name := "oldInputs", desc := "()J" } : Jvm.MethodName) prog_3_method_7_code (1 : Nat) (Option.some Jvm.ClassFile.FieldType.long)).before args0 about1 = true := code_word (m := ⟨2, 5⟩) (meth := k2m5) (c := k2c5) (by decide +kernel) rfl rfl rfl (by decide +kernel)
set_option maxRecDepth 65536 in
theorem w_c10 : (Jvm.Cond.code ({ cls := "com/example/veindb/veindb/bench/MadeChain", name := "outputs", desc := "()J" } : Jvm.MethodName) prog_3_method_8_code (1 : Nat) (Option.some Jvm.ClassFile.FieldType.long)).before args0 about1 = true := code_word (m := ⟨2, 6⟩) (meth := k2m6) (c := k2c6) (by decide +kernel) rfl rfl rfl (by decide +kernel)
set_option maxRecDepth 65536 in
theorem w_c11 : (Jvm.Cond.code ({ cls := "com/example/veindb/veindb/bench/MadeChain", name := "opReturnOutputs", desc := "()J" } : Jvm.MethodName) prog_3_method_9_code (1 : Nat) (Option.some Jvm.ClassFile.FieldType.long)).before args0 about1 = true := code_word (m := ⟨2, 7⟩) (meth := k2m7) (c := k2c7) (by decide +kernel) rfl rfl rfl (by decide +kernel)
set_option maxRecDepth 65536 in
theorem w_c12 : (Jvm.Cond.code ({ cls := "com/example/veindb/veindb/bench/MadeChain", name := "blocks", desc := "()I" } : Jvm.MethodName) prog_3_method_10_code (1 : Nat) (Option.some Jvm.ClassFile.FieldType.int)).before args0 about1 = true := code_word (m := ⟨2, 8⟩) (meth := k2m8) (c := k2c8) (by decide +kernel) rfl rfl rfl (by decide +kernel)
set_option maxRecDepth 65536 in
theorem w_c13 : (Jvm.Cond.code ({ cls := "com/example/veindb/veindb/bench/MadeChain", name := "distinctScripts", desc := "()J" } : Jvm.MethodName) prog_3_method_11_code (1 : Nat) (Option.some Jvm.ClassFile.FieldType.long)).before args0 about1 = true := code_word (m := ⟨2, 9⟩) (meth := k2m9) (c := k2c9) (by decide +kernel) rfl rfl rfl (by decide +kernel)
def codes1 : List Jvm.Cond := [Jvm.Cond.code x code maxLocals ret, Jvm.Cond.code ({ cls := "com/example/veindb/veindb/bench/MadeChain", name := "<init>", desc := "()V" } : Jvm.MethodName) prog_3_method_1_code (1 : Nat) (Option.none : Option Jvm.ClassFile.FieldType), Jvm.Cond.code ({ cls := "java/lang/Object", name := "<init>", desc := "()V" } : Jvm.MethodName) object_method_1_code (1 : Nat) (Option.none : Option Jvm.ClassFile.FieldType), Jvm.Cond.code ({ cls := "com/example/veindb/veindb/bench/MadeChain", name := "countTransaction", desc := "(IIIIZZ)V" } : Jvm.MethodName) prog_3_method_2_code (7 : Nat) (Option.none : Option Jvm.ClassFile.FieldType), Jvm.Cond.code ({ cls := "com/example/veindb/veindb/bench/MadeChainCountTransactionPinLaw", name := "bit", desc := "(Z)J" } : Jvm.MethodName) method_2_code (1 : Nat) (Option.some Jvm.ClassFile.FieldType.long), Jvm.Cond.code ({ cls := "com/example/veindb/veindb/bench/MadeChain", name := "transactions", desc := "()J" } : Jvm.MethodName) prog_3_method_4_code (1 : Nat) (Option.some Jvm.ClassFile.FieldType.long), Jvm.Cond.code ({ cls := "com/example/veindb/veindb/bench/MadeChain", name := "witnessTransactions", desc := "()J" } : Jvm.MethodName) prog_3_method_5_code (1 : Nat) (Option.some Jvm.ClassFile.FieldType.long), Jvm.Cond.code ({ cls := "com/example/veindb/veindb/bench/MadeChain", name := "hotHistory", desc := "()J" } : Jvm.MethodName) prog_3_method_13_code (1 : Nat) (Option.some Jvm.ClassFile.FieldType.long), Jvm.Cond.code ({ cls := "com/example/veindb/veindb/bench/MadeChain", name := "inputs", desc := "()J" } : Jvm.MethodName) prog_3_method_6_code (1 : Nat) (Option.some Jvm.ClassFile.FieldType.long), Jvm.Cond.code ({ cls := "com/example/veindb/veindb/bench/MadeChain", name := "oldInputs", desc := "()J" } : Jvm.MethodName) prog_3_method_7_code (1 : Nat) (Option.some Jvm.ClassFile.FieldType.long), Jvm.Cond.code ({ cls := "com/example/veindb/veindb/bench/MadeChain", name := "outputs", desc := "()J" } : Jvm.MethodName) prog_3_method_8_code (1 : Nat) (Option.some Jvm.ClassFile.FieldType.long), Jvm.Cond.code ({ cls := "com/example/veindb/veindb/bench/MadeChain", name := "opReturnOutputs", desc := "()J" } : Jvm.MethodName) prog_3_method_9_code (1 : Nat) (Option.some Jvm.ClassFile.FieldType.long), Jvm.Cond.code ({ cls := "com/example/veindb/veindb/bench/MadeChain", name := "blocks", desc := "()I" } : Jvm.MethodName) prog_3_method_10_code (1 : Nat) (Option.some Jvm.ClassFile.FieldType.int), Jvm.Cond.code ({ cls := "com/example/veindb/veindb/bench/MadeChain", name := "distinctScripts", desc := "()J" } : Jvm.MethodName) prog_3_method_11_code (1 : Nat) (Option.some Jvm.ClassFile.FieldType.long)]
set_option maxRecDepth 65536 in
theorem codes_eq : words1.filter isCode = codes1 := rfl
theorem w_codes : ∀ c ∈ words1.filter isCode, c.before args0 about1 = true := by
  rw [codes_eq]
  intro c hc
  simp only [codes1, List.mem_cons, List.not_mem_nil, or_false] at hc
  rcases hc with rfl | rfl | rfl | rfl | rfl | rfl | rfl | rfl | rfl | rfl | rfl | rfl | rfl | rfl
  · exact w_c0
  · exact w_c1
  · exact w_c2
  · exact w_c3
  · exact w_c4
  · exact w_c5
  · exact w_c6
  · exact w_c7
  · exact w_c8
  · exact w_c9
  · exact w_c10
  · exact w_c11
  · exact w_c12
  · exact w_c13
set_option maxRecDepth 65536 in
theorem w_t1 : (words1.take 24).all (fun c => isCode c || c.before args0 about1) = true := by decide +kernel
set_option maxRecDepth 65536 in
theorem w_t2 : ((words1.drop 24).take 24).all (fun c => isCode c || c.before args0 about1) = true := by decide +kernel
set_option maxRecDepth 65536 in
theorem w_t3 : (((words1.drop 24).drop 24).take 24).all (fun c => isCode c || c.before args0 about1) = true := by decide +kernel
set_option maxRecDepth 65536 in
theorem w_t4 : (((words1.drop 24).drop 24).drop 24).all (fun c => isCode c || c.before args0 about1) = true := by decide +kernel
theorem w_tables : (allAtoms (Jvm.Cond.code x code maxLocals ret :: tables_1)).before args0 about1 = true := by
  rw [allAtoms_all]
  show words1.all (fun c => c.before args0 about1) = true
  refine all_split ?_ w_codes
  rw [← List.take_append_drop 24 words1, List.all_append, w_t1, ← List.take_append_drop 24 (words1.drop 24), List.all_append, w_t2, ← List.take_append_drop 24 ((words1.drop 24).drop 24), List.all_append, w_t3, w_t4]
  rfl
set_option maxRecDepth 65536 in
theorem w_case : (Jvm.Cond.and given_1 narrow_1).before args0 about1 = true := by decide +kernel
theorem w_applies : (headSpec (Jvm.Cond.code x code maxLocals ret :: tables_1) room_1).applies x e0.platform about1 = true :=
  (Spec.applies_iff w_frames).mpr ⟨w_running, w_runnable, w_alone, w_named, w_hears, w_ripe, w_room, w_tables⟩
theorem atStart : AtStart classFile x code maxLocals ret World_1 tables_1 room_1 Calls_1 rest_1 Pre_1 launch0 p0 e0 about1 theMethod args0 below0 :=
  ⟨lists_1, trivial, launch0.admits_env _ _ _, launch0.least_env, fairChoices_fair.cas, fairChoices_fair.clock, w_frames, w_args, w_heap, w_applies, trivial, trivial, w_case⟩
end start1
theorem witness_1 : WitnessClaimed_1 := ⟨start1.p0, start1.e0, start1.about1, start1.theMethod, start1.args0, start1.below0, start1.atStart⟩
end Jvm.Pilot.@@N@@
