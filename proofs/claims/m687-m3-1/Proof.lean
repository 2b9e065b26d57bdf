import JvmDerived
import JvmDerived.Pilot.@@N@@Statement
import JvmDerived.Pilot.@@N@@Code
set_option linter.unusedVariables false
set_option linter.unusedSimpArgs false
namespace Jvm.Pilot.@@N@@
open Jvm Jvm.ClassFile Sem Op Lib Jvm.Free Jvm.Stand Jvm.LawKit Jvm.RoadKit Bundle Jvm.Pilot.@@N@@.Jvm.D
section Own
variable {p : Program} {l : Launch} {e : Env} {R : Room} {s : State} {m : MethodId} {args : Array Value} {below : List Frame} {meth : Method} {c : Code} {T : State} {locs : List Loc} {cells slots : Nat} {Z : State} {h h' : Heap} {a b : Addr} {ty : FieldType} {vs : List Value} {v : Value} {sl : Nat}
/-- from here the run comes to an end that Q allows -/
def own_fin (p : Program) (e : Env) (below : List Frame) (s : State) (cl sl : Nat) (Q : Option Value → Heap → List Loc → Prop) (S : State) : Prop :=
  ∃ s₂ o, Steps p.tables e below S s₂ ∧ s₂.status = .running ∧ Ended s₂ below o ∧ ∃ v L, o = .returned v ∧ Q v s₂.heap L ∧ FrameEnd s o s₂ L cl sl
theorem own_by {cl sl : Nat} {Q : Option Value → Heap → List Loc → Prop} {S S' : State} (st : ∀ target, Steps p.tables e below S' target → Steps p.tables e below S target) (k : own_fin p e below s cl sl Q S') : own_fin p e below s cl sl Q S := by
  obtain ⟨s2, o, h1, h2⟩ := k
  exact ⟨s2, o, st _ h1, h2⟩
theorem own_tr {cl sl : Nat} {Q : Option Value → Heap → List Loc → Prop} {S S' : State} (st : Steps p.tables e below S S') (k : own_fin p e below s cl sl Q S') : own_fin p e below s cl sl Q S := by
  obtain ⟨s2, o, h1, h2⟩ := k
  exact ⟨s2, o, st.trans h1, h2⟩
theorem own_start {cl sl : Nat} {Q : Option Value → Heap → List Loc → Prop} {s₁ : State} {mx : Nat} {g : JFrame} (q : entryFrame m args mx = g) (k : own_fin p e below s cl sl Q (s₁.setTop g)) :
    ∃ s₂ o, Steps p.tables e below (s₁.setTop (entryFrame m args mx)) s₂ ∧ s₂.status = .running ∧ Ended s₂ below o ∧ ∃ v L, o = .returned v ∧ Q v s₂.heap L ∧ FrameEnd s o s₂ L cl sl := by
  rw [q]; exact k
theorem own_ret (X : Stand p l e R s m args below meth c T locs cells slots) (hx : p.tables.exec = Jvm.exec) {cl sl : Nat} {Q : Option Value → Heap → List Loc → Prop} {pc : Nat} {Ls : Array Slot} {w : Value} {t : FieldType} {i : Instr} {rest : List Value} (hret : meth.sig.returnType = some t) (hn : narrow t w = w)
    (hi : (i = .ireturn ∧ (t = .int ∨ t = .boolean ∨ t = .byte ∨ t = .char ∨ t = .short) ∧ ∃ z, w = .int z) ∨ (i = .lreturn ∧ t = .long ∧ ∃ z, w = .long z) ∨ (i = .dreturn ∧ t = .double ∧ ∃ z, w = .double z) ∨ (i = .freturn ∧ t = .float ∧ ∃ z, w = .float z) ∨ (i = .areturn ∧ t.isReference = true ∧ w.isRef = true))
    (hd : decode c.code pc = .ok (i, 1)) (hlk : meth.locks = false) (hc : cells ≤ cl) (hs : slots ≤ sl) (q : Q (some w) T.heap locs) : own_fin p e below s cl sl Q (T.setTop (mkF m pc Ls (w :: rest))) := by
  obtain ⟨fs, hr, hrun, hended, hW, hsame⟩ := X.leave (v := some w) (fun h => by rw [hret] at h; cases h)
  exact ⟨_, _, retOut X hx hret hn hi hd hr, hrun, hended, _, _, rfl, q, ⟨_, rfl⟩, hW, hsame.mono hc hs⟩
theorem own_ret0 (X : Stand p l e R s m args below meth c T locs cells slots) (hx : p.tables.exec = Jvm.exec) {cl sl : Nat} {Q : Option Value → Heap → List Loc → Prop} {pc : Nat} {Ls : Array Slot} (hret : meth.sig.returnType = none)
    (hd : decode c.code pc = .ok (.return_, 1)) (hlk : meth.locks = false) (hc : cells ≤ cl) (hs : slots ≤ sl) (q : Q none T.heap locs) : own_fin p e below s cl sl Q (T.setTop (mkF m pc Ls [])) := by
  obtain ⟨fs, hr, hrun, hended, hW, hsame⟩ := X.leave (v := none) (fun _ => rfl)
  exact ⟨_, _, X.returnOut hx hret hd hr, hrun, hended, _, _, rfl, q, ⟨_, rfl⟩, hW, hsame.mono hc hs⟩
/-- the array at a holds just these values -/
def OwnA (Z : State) (h : Heap) (a : Addr) (ty : FieldType) (vs : List Value) : Prop := ∃ c : Cell, Arr Z h a c ty ∧ c.slots.toList = vs
theorem OwnA.lt (F : OwnA Z h a ty vs) : a < h.size := by obtain ⟨c, A, -⟩ := F; exact A.lt
theorem OwnA.ext (F : OwnA Z h a ty vs) (E : Ext h h') : OwnA Z h' a ty vs := by obtain ⟨c, A, r⟩ := F; exact ⟨c, A.ext E, r⟩
theorem OwnA.other (F : OwnA Z h a ty vs) (W : Wr h h' b sl v) (q : a ≠ b) : OwnA Z h' a ty vs := by obtain ⟨c, A, r⟩ := F; exact ⟨c, A.other W q, r⟩
theorem OwnA.keep {ws : List Addr} (F : OwnA Z h a ty vs) (K : Keep h h' ws) (q : a ∉ ws) : OwnA Z h' a ty vs := by obtain ⟨c, A, r⟩ := F; exact ⟨c, ⟨K.2.1 a c A.1 q, A.2⟩, r⟩
theorem OwnA.set (F : OwnA Z h a ty vs) (W : Wr h h' a sl v) : OwnA Z h' a ty (vs.set sl v) := by
  obtain ⟨c, A, rfl⟩ := F
  exact ⟨_, A.same W, by simp [Cell.setSlot]⟩
theorem own_new {k : ClassId} {z : Int32} (A : Arr Z h a (newA k ty z) ty) (q : List.replicate z.toNatClampNeg (defaultValue ty) = vs) : OwnA Z h a ty vs := ⟨_, A, by rw [← q]; simp [newA]⟩
theorem own_inb {cl : Cell} {j : Int32} (hj : ¬ j < 0) (hv : cl.slots.toList[j.toNatClampNeg]? = some v) : ¬ (j < 0 ∨ cl.slots.size ≤ j.toNatClampNeg) ∧ cl.slots[j.toNatClampNeg]? = some v := by
  rw [Array.getElem?_toList] at hv
  exact ⟨fun q => q.elim hj fun q => absurd (Array.getElem?_eq_some_iff.mp hv).1 (Nat.not_lt.mpr q), hv⟩
theorem own_len (X : Stand p l e R s m args below meth c T locs cells slots) (hx : p.tables.exec = Jvm.exec) (hZ : Z.Warmed39 s.vm) (eT : T.heap = h) (F : OwnA Z h a ty vs) {z : Int32} (hz : Int32.ofNat vs.length = z) {g : JFrame} (hg : g.method = m) {rest : List Value} (hs : g.stack = .ref a :: rest)
    (hd : decode c.code g.pc = .ok (.arraylength, 1)) (target : State) (k : Steps p.tables e below (T.setTop { g with pc := g.pc + 1, stack := .int z :: rest }) target) : Steps p.tables e below (T.setTop g) target := by
  obtain ⟨cl, A, rfl⟩ := F
  refine X.arraylength hx (cell := cl) (by rw [eT]; exact A.1) (State.isArrayOf_alike hZ.alike A.2.1) hg hs hd _ ?_
  rw [Array.length_toList] at hz
  rw [show cl.slots.size.toInt32 = z from hz]; exact k
theorem own_iaload (X : Stand p l e R s m args below meth c T locs cells slots) (hx : p.tables.exec = Jvm.exec) (hZ : Z.Warmed39 s.vm) (eT : T.heap = h) (F : OwnA Z h a .int vs) {j : Int32} (hj : ¬ j < 0) (hv : vs[j.toNatClampNeg]? = some v) {g : JFrame} (hg : g.method = m) {rest : List Value} (hs : g.stack = .int j :: .ref a :: rest)
    (hd : decode c.code g.pc = .ok (.iaload, 1)) (target : State) (k : Steps p.tables e below (T.setTop { g with pc := g.pc + 1, stack := v :: rest }) target) : Steps p.tables e below (T.setTop g) target := by
  obtain ⟨cl, A, rfl⟩ := F
  exact X.iaload hx (by rw [eT]; exact A.1) (State.isArrayOf_alike hZ.alike A.2.1) A.2.2 (own_inb hj hv).1 (own_inb hj hv).2 hg hs hd _ k
theorem own_laload (X : Stand p l e R s m args below meth c T locs cells slots) (hx : p.tables.exec = Jvm.exec) (hZ : Z.Warmed39 s.vm) (eT : T.heap = h) (F : OwnA Z h a .long vs) {j : Int32} (hj : ¬ j < 0) (hv : vs[j.toNatClampNeg]? = some v) {g : JFrame} (hg : g.method = m) {rest : List Value} (hs : g.stack = .int j :: .ref a :: rest)
    (hd : decode c.code g.pc = .ok (.laload, 1)) (target : State) (k : Steps p.tables e below (T.setTop { g with pc := g.pc + 1, stack := v :: rest }) target) : Steps p.tables e below (T.setTop g) target := by
  obtain ⟨cl, A, rfl⟩ := F
  exact X.laload hx (by rw [eT]; exact A.1) (State.isArrayOf_alike hZ.alike A.2.1) A.2.2 (own_inb hj hv).1 (own_inb hj hv).2 hg hs hd _ k
theorem own_caload (X : Stand p l e R s m args below meth c T locs cells slots) (hx : p.tables.exec = Jvm.exec) (hZ : Z.Warmed39 s.vm) (eT : T.heap = h) (F : OwnA Z h a .char vs) {j : Int32} (hj : ¬ j < 0) (hv : vs[j.toNatClampNeg]? = some v) {g : JFrame} (hg : g.method = m) {rest : List Value} (hs : g.stack = .int j :: .ref a :: rest)
    (hd : decode c.code g.pc = .ok (.caload, 1)) (target : State) (k : Steps p.tables e below (T.setTop { g with pc := g.pc + 1, stack := v :: rest }) target) : Steps p.tables e below (T.setTop g) target := by
  obtain ⟨cl, A, rfl⟩ := F
  exact X.caload hx (by rw [eT]; exact A.1) (State.isArrayOf_alike hZ.alike A.2.1) A.2.2 (own_inb hj hv).1 (own_inb hj hv).2 hg hs hd _ k
theorem own_baload (X : Stand p l e R s m args below meth c T locs cells slots) (hx : p.tables.exec = Jvm.exec) (hZ : Z.Warmed39 s.vm) (eT : T.heap = h) (F : OwnA Z h a .byte vs) {j : Int32} (hj : ¬ j < 0) (hv : vs[j.toNatClampNeg]? = some v) {g : JFrame} (hg : g.method = m) {rest : List Value} (hs : g.stack = .int j :: .ref a :: rest)
    (hd : decode c.code g.pc = .ok (.baload, 1)) (target : State) (k : Steps p.tables e below (T.setTop { g with pc := g.pc + 1, stack := v :: rest }) target) : Steps p.tables e below (T.setTop g) target := by
  obtain ⟨cl, A, rfl⟩ := F
  exact X.baloadBytes hx (by rw [eT]; exact A.1) (State.isArrayOf_alike hZ.alike A.2.1) A.2.2 (own_inb hj hv).1 (own_inb hj hv).2 hg hs hd _ k
theorem own_baloadZ (X : Stand p l e R s m args below meth c T locs cells slots) (hx : p.tables.exec = Jvm.exec) (hZ : Z.Warmed39 s.vm) (eT : T.heap = h) (F : OwnA Z h a .boolean vs) {j : Int32} (hj : ¬ j < 0) (hv : vs[j.toNatClampNeg]? = some v) {g : JFrame} (hg : g.method = m) {rest : List Value} (hs : g.stack = .int j :: .ref a :: rest)
    (hd : decode c.code g.pc = .ok (.baload, 1)) (target : State) (k : Steps p.tables e below (T.setTop { g with pc := g.pc + 1, stack := v :: rest }) target) : Steps p.tables e below (T.setTop g) target := by
  obtain ⟨cl, A, rfl⟩ := F
  exact X.baloadBooleans hx (by rw [eT]; exact A.1) (State.isArrayOf_alike hZ.alike A.2.1) A.2.2 (own_inb hj hv).1 (own_inb hj hv).2 hg hs hd _ k
theorem own_aaload (X : Stand p l e R s m args below meth c T locs cells slots) (hx : p.tables.exec = Jvm.exec) (hZ : Z.Warmed39 s.vm) (eT : T.heap = h) (F : OwnA Z h a ty vs) (hty : ty.isReference = true) {j : Int32} (hj : ¬ j < 0) (hv : vs[j.toNatClampNeg]? = some v) {g : JFrame} (hg : g.method = m) {rest : List Value} (hs : g.stack = .int j :: .ref a :: rest)
    (hd : decode c.code g.pc = .ok (.aaload, 1)) (target : State) (k : Steps p.tables e below (T.setTop { g with pc := g.pc + 1, stack := v :: rest }) target) : Steps p.tables e below (T.setTop g) target := by
  obtain ⟨cl, A, rfl⟩ := F
  exact X.aaload hx (by rw [eT]; exact A.1) (State.isArrayOf_alike hZ.alike A.2.1) hty A.2.2 (own_inb hj hv).1 (own_inb hj hv).2 hg hs hd _ k
theorem own_inl {cl : Cell} {j : Int32} (hj : ¬ j < 0) (hl : j.toNatClampNeg < cl.slots.toList.length) : ¬ (j < 0 ∨ cl.slots.size ≤ j.toNatClampNeg) := by
  rw [Array.length_toList] at hl
  exact fun q => q.elim hj fun q => absurd hl (Nat.not_lt.mpr q)
theorem own_stI (X : Stand p l e R s m args below meth c T locs cells slots) (hx : p.tables.exec = Jvm.exec) (hZ : Z.Warmed39 s.vm) (eT : T.heap = h) (F : OwnA Z h a .int vs) {j x : Int32} (hj : ¬ j < 0) (hl : j.toNatClampNeg < vs.length) {g : JFrame} (hg : g.method = m) {rest : List Value} (hs : g.stack = .int x :: .int j :: .ref a :: rest) (hd : decode c.code g.pc = .ok (.iastore, 1)) :
    ∃ T' h', Stand p l e R s m args below meth c T' (locs ++ [⟨a, j.toNatClampNeg⟩]) cells slots ∧ T'.heap = h' ∧ Wr h h' a j.toNatClampNeg (.int x) ∧ ∀ target, Steps p.tables e below (T'.setTop { g with pc := g.pc + 1, stack := rest }) target → Steps p.tables e below (T.setTop g) target := by
  obtain ⟨cl, A, rfl⟩ := F
  exact stI X hx hZ eT A (own_inl hj hl) hg hs hd
theorem own_stJ (X : Stand p l e R s m args below meth c T locs cells slots) (hx : p.tables.exec = Jvm.exec) (hZ : Z.Warmed39 s.vm) (eT : T.heap = h) (F : OwnA Z h a .long vs) {j : Int32} {x : Int64} (hj : ¬ j < 0) (hl : j.toNatClampNeg < vs.length) {g : JFrame} (hg : g.method = m) {rest : List Value} (hs : g.stack = .long x :: .int j :: .ref a :: rest) (hd : decode c.code g.pc = .ok (.lastore, 1)) :
    ∃ T' h', Stand p l e R s m args below meth c T' (locs ++ [⟨a, j.toNatClampNeg⟩]) cells slots ∧ T'.heap = h' ∧ Wr h h' a j.toNatClampNeg (.long x) ∧ ∀ target, Steps p.tables e below (T'.setTop { g with pc := g.pc + 1, stack := rest }) target → Steps p.tables e below (T.setTop g) target := by
  obtain ⟨cl, A, rfl⟩ := F
  exact stJ X hx hZ eT A (own_inl hj hl) hg hs hd
theorem own_stB (X : Stand p l e R s m args below meth c T locs cells slots) (hx : p.tables.exec = Jvm.exec) (hZ : Z.Warmed39 s.vm) (eT : T.heap = h) (F : OwnA Z h a .byte vs) {j x : Int32} (hj : ¬ j < 0) (hl : j.toNatClampNeg < vs.length) {g : JFrame} (hg : g.method = m) {rest : List Value} (hs : g.stack = .int x :: .int j :: .ref a :: rest) (hd : decode c.code g.pc = .ok (.bastore, 1)) :
    ∃ T' h', Stand p l e R s m args below meth c T' (locs ++ [⟨a, j.toNatClampNeg⟩]) cells slots ∧ T'.heap = h' ∧ Wr h h' a j.toNatClampNeg (.int x.toInt8.toInt32) ∧ ∀ target, Steps p.tables e below (T'.setTop { g with pc := g.pc + 1, stack := rest }) target → Steps p.tables e below (T.setTop g) target := by
  obtain ⟨cl, A, rfl⟩ := F
  exact stB X hx hZ eT A (own_inl hj hl) hg hs hd
theorem own_stC (X : Stand p l e R s m args below meth c T locs cells slots) (hx : p.tables.exec = Jvm.exec) (hZ : Z.Warmed39 s.vm) (eT : T.heap = h) (F : OwnA Z h a .char vs) {j x : Int32} (hj : ¬ j < 0) (hl : j.toNatClampNeg < vs.length) {g : JFrame} (hg : g.method = m) {rest : List Value} (hs : g.stack = .int x :: .int j :: .ref a :: rest) (hd : decode c.code g.pc = .ok (.castore, 1)) :
    ∃ T' h', Stand p l e R s m args below meth c T' (locs ++ [⟨a, j.toNatClampNeg⟩]) cells slots ∧ T'.heap = h' ∧ Wr h h' a j.toNatClampNeg (.int x.toUInt32.toUInt16.toUInt32.toInt32) ∧ ∀ target, Steps p.tables e below (T'.setTop { g with pc := g.pc + 1, stack := rest }) target → Steps p.tables e below (T.setTop g) target := by
  obtain ⟨cl, A, rfl⟩ := F
  exact stC X hx hZ eT A (own_inl hj hl) hg hs hd
end Own
theorem own_nsroot {Z : State} {a0 : Array Value} {O K : String} {n : Nat} (w : (Cond.noSuperclass O).before a0 Z = true) (wk : (Cond.instantiable K n).before a0 Z = true) (hn : O ≠ K) : NS Z O K := by
  obtain ⟨c, k, h1, h2, h3, -, -⟩ := Cond.noSuperclass_spec w
  obtain ⟨t, kt, g1, -⟩ := Cond.instantiable_spec wk
  have ne := ids_ne h1 g1 hn
  refine ⟨c, t, h1, g1, fun fuel => ?_⟩
  cases fuel with
  | zero => rfl
  | succ f => simp [Vm.isSubclassAux, ne, h2, h3]
theorem own_nsno {Z : State} {a0 : Array Value} {C S K : String} {n : Nat} (w : (Cond.superclass C S).before a0 Z = true) (wk : (Cond.instantiable K n).before a0 Z = true) (q : NS Z C K) (hn : C ≠ K) : ∃ c t, Z.vm.findClass C = some c ∧ Z.vm.findClass K = some t ∧ Z.vm.assignable c t = false := by
  obtain ⟨c, t, h0, g0, n3⟩ := q
  obtain ⟨p, k, kp, h1, h2, h3, h4, h5, -, h7⟩ := Cond.superclass_spec h0 w
  obtain ⟨t', kt, g1, g2, g3, g4, -⟩ := Cond.instantiable_spec wk
  cases g0.symm.trans g1
  have ne := ids_ne h0 g0 hn
  have g7 : kt.isInterface = false := (Bool.or_eq_false_iff.mp g4).1
  refine ⟨c, t, h0, g0, ?_⟩
  show Z.vm.assignableAux (255 + 1) c t = false
  simp [Vm.assignableAux, ne, h2, g2, h5, g3, g7, Vm.isSubclass, n3]
theorem own_length {s : State} {args : Array Value} {t : Term} {n : Int32} {a : Addr} {c : Cell} {ty : FieldType} (h : (Cond.eq (.length t) (.int n)).value args s none s [] = some true) (ev : t.eval args s none [] s = some (.ref a)) (A : Arr s s.heap a c ty) : c.slots.size < 2 ^ 31 ∧ c.slots.size.toInt32 = n := by
  have e := eqv_i (Term.int_eval n) h
  by_cases q : c.slots.size < 2 ^ 31
  · rw [len_f ev (A.fin (Vm.Alike.refl _)) q] at e
    exact ⟨q, by simpa using e⟩
  · simp [Term.eval, ev, A.fin (Vm.Alike.refl _), q] at e
theorem own_static_idx {s : State} {args : Array Value} {C n d : String} {v : Value} (h : (Term.static C n d).eval args s none [] s = some v) (idx : List Nat) : (Term.static C n d).eval args s none idx s = some v := by
  simp only [Term.eval] at h ⊢; exact h
theorem own_idx128 {s : State} {args : Array Value} {j : Int32} (hj : ¬ j < 0) : (Term.sub (.index 0) (.int 128)).eval args s none [j.toNatClampNeg] s = some (.int (j - 128)) := by
  have e : (Term.index 0).eval args s none [j.toNatClampNeg] s = some (.int j) := idx_at hj
  simp only [Term.eval] at e ⊢
  rw [e]
  rfl
def own_eq (a : Int64) (b : Int32) (a' : Int64) (b' : Int32) : Int32 := if lcmpW a' a = (0 : Int32) then (if b' = b then 1 else 0) else 0
theorem own_eqc (a : Int64) (b : Int32) (a' : Int64) (b' : Int32) : own_eq a b a' b' = own_eq a' b' a b := by
  unfold own_eq
  simp only [lw_eq]
  by_cases h : a = a' <;> by_cases g : b = b' <;> simp [h, g, eq_comm]
theorem own_eqs (a : Int64) (b : Int32) : own_eq a b a b = 1 := by rw [own_eq, if_pos ((lw_eq a a).mpr rfl), if_pos rfl]
theorem own_noI (Z : State) (a0 : Array Value) (hw : ∀ d ∈ tables_1, d.before a0 Z = true) : ∃ c t, Z.vm.findClass "java/lang/Integer" = some c ∧ Z.vm.findClass "com/example/tideline/tideline/model/DataPartition" = some t ∧ Z.vm.assignable c t = false :=
  own_nsno (hw _ (List.mem_of_getElem? (i := 60) rfl)) (hw _ (List.mem_of_getElem? (i := 1) rfl)) (NS.step (hw _ (List.mem_of_getElem? (i := 60) rfl)) (NS.step (hw _ (List.mem_of_getElem? (i := 42) rfl)) (own_nsroot (hw _ (List.mem_of_getElem? (i := 43) rfl)) (hw _ (List.mem_of_getElem? (i := 1) rfl)) (by decide)) (by decide)) (by decide)) (by decide)
theorem own_noL (Z : State) (a0 : Array Value) (hw : ∀ d ∈ tables_1, d.before a0 Z = true) : ∃ c t, Z.vm.findClass "java/lang/Long" = some c ∧ Z.vm.findClass "com/example/tideline/tideline/model/DataPartition" = some t ∧ Z.vm.assignable c t = false :=
  own_nsno (hw _ (List.mem_of_getElem? (i := 41) rfl)) (hw _ (List.mem_of_getElem? (i := 1) rfl)) (NS.step (hw _ (List.mem_of_getElem? (i := 41) rfl)) (NS.step (hw _ (List.mem_of_getElem? (i := 42) rfl)) (own_nsroot (hw _ (List.mem_of_getElem? (i := 43) rfl)) (hw _ (List.mem_of_getElem? (i := 1) rfl)) (by decide)) (by decide)) (by decide)) (by decide)
theorem own_placeL (q : Int64) (h1 : ¬ lcmpW q (-128 : Int64) < (0 : Int32)) (h2 : ¬ (0 : Int32) < lcmpW q (127 : Int64)) : ¬ (q.toInt32 + (128 : Int32) < 0 ∨ (256 : Int32).toNatClampNeg ≤ (q.toInt32 + (128 : Int32)).toNatClampNeg) := by
  rw [lw_lt, Int64.lt_iff_toInt_lt] at h1
  rw [lw_gt, Int64.lt_iff_toInt_lt] at h2
  have e1 : ((-128 : Int64)).toInt = -128 := rfl
  have e2 : ((127 : Int64)).toInt = 127 := rfl
  have r1 := c_l2i q
  have r2 := rng32 q.toInt32
  have r3 := c_iadd q.toInt32 (128 : Int32)
  have r4 := rng32 (q.toInt32 + (128 : Int32))
  have e3 : ((128 : Int32)).toInt = 128 := rfl
  rw [Int32.lt_iff_toInt_lt, show (0 : Int32).toInt = 0 from rfl, show (256 : Int32).toNatClampNeg = 256 from rfl, Int32.toNatClampNeg]
  omega
theorem d1_0 : decode prog_36_method_1_code 0 = .ok (.aload_n 0, 1) := by decide +kernel
theorem d1_1 : decode prog_36_method_1_code 1 = .ok (.invokespecial 1, 3) := by decide +kernel
theorem d1_4 : decode prog_36_method_1_code 4 = .ok (.aload_n 0, 1) := by decide +kernel
theorem d1_5 : decode prog_36_method_1_code 5 = .ok (.lload_n 1, 1) := by decide +kernel
theorem d1_6 : decode prog_36_method_1_code 6 = .ok (.putfield 7, 3) := by decide +kernel
theorem d1_9 : decode prog_36_method_1_code 9 = .ok (.aload_n 0, 1) := by decide +kernel
theorem d1_10 : decode prog_36_method_1_code 10 = .ok (.iload_n 3, 1) := by decide +kernel
theorem d1_11 : decode prog_36_method_1_code 11 = .ok (.putfield 13, 3) := by decide +kernel
theorem d1_14 : decode prog_36_method_1_code 14 = .ok (.return_, 1) := by decide +kernel
theorem pn_1 : plainName "com/example/tideline/tideline/model/DataPartition" = true := by first | (simp [plainName, overriddenIn]; done) | decide +kernel
theorem ef_rm1 (m : MethodId) (x0 : Addr) (x1 : Int64) (x2 : Int32) : entryFrame m #[(.ref x0), (.long x1), (.int x2)] 4 = mkF m 0 #[.val (.ref x0), .val (.long x1), .second, .val (.int x2)] [] := by first | (simp [entryFrame, mkF, argsToLocals, Value.category]; done) | rfl
def Q_rm1 (Z : State) (a1 : Addr) (q1 : Int64) (p2 : Int32) (h0 : Heap) (n0 : Nat) (v : Option Value) (h : Heap) (L : List Loc) : Prop := v = none ∧ Fr n0 L ∧ Keep h0 h [a1] ∧ Fld Z h a1 "com/example/tideline/tideline/model/DataPartition" "start" "J" (.long q1) ∧ Fld Z h a1 "com/example/tideline/tideline/model/DataPartition" "seriesPartition" "I" (.int p2)
set_option maxRecDepth 65536 in
set_option maxHeartbeats 40000000 in
theorem rm1 (l : Launch) (Z : State) (a0 : Array Value) (hw : ∀ d ∈ tables_1, d.before a0 Z = true) (ws : List Jvm.Cond) (a1 : Addr) (q1 : Int64) (p2 : Int32) (h0 : Heap) (n0 : Nat) (Zn : n0 ≤ h0.size) (E_a1 : Exa Z h0 a1 "com/example/tideline/tideline/model/DataPartition") (F_h : Fld Z h0 a1 "com/example/tideline/tideline/model/DataPartition" "start" "J" (.long (0 : Int64))) (F_p : Fld Z h0 a1 "com/example/tideline/tideline/model/DataPartition" "seriesPartition" "I" (.int (0 : Int32))) (o_a1 : n0 ≤ a1) :
    MetFree l (⟨"com/example/tideline/tideline/model/DataPartition", "<init>", "(JI)V"⟩ : MethodName) (head1 (Jvm.Cond.code (⟨"com/example/tideline/tideline/model/DataPartition", "<init>", "(JI)V"⟩ : MethodName) prog_36_method_1_code 4 none :: ws) ({ frames := 1, cells := 0, slots := 0, locals := 12 } : Room)) (fun a U => a = #[(.ref a1), (.long q1), (.int p2)] ∧ Z.Warmed39 U.vm ∧ U.heap = h0) (fun _ _ _ _ _ => True) (fun _ U o U' => ∃ v L, o = .returned v ∧ (Q_rm1 Z a1 q1 p2 h0 n0) v U'.heap L ∧ FrameEnd U o U' L ({ frames := 1, cells := 0, slots := 0, locals := 12 } : Room).cells ({ frames := 1, cells := 0, slots := 0, locals := 12 } : Room).slots) := by
  refine MetFree.of_bodySF (plainFor_of_name pn_1) hisR ?_
  intro p e s m args below meth c s₁ Bd hml0 hP hK
  obtain ⟨rfl, hZ, hh⟩ := hP
  have hx := Bd.exec
  have hby := Bd.bytes
  have hml : c.maxLocals = 4 := hml0
  have hown : s.vm.findClass "com/example/tideline/tideline/model/DataPartition" = some m.cls := findClass_of_methodNamed Bd.named
  have hnm := (name_of_methodNamed Bd.named Bd.method).1
  have hlk : meth.locks = false := BodyLoose.notSynchronized Bd
  have X0 : Stand p l e ({ frames := 1, cells := 0, slots := 0, locals := 12 } : Room) s m #[(.ref a1), (.long q1), (.int p2)] below meth c s₁ [] 0 0 := Stand.of_body Bd
  have e0 : s₁.heap = h0 := by rw [← hh, Bd.state]; rfl
  have N := Fr.nil n0
  have K := Keep.refl h0 [a1]
  refine own_start (cl := ({ frames := 1, cells := 0, slots := 0, locals := 12 } : Room).cells) (sl := ({ frames := 1, cells := 0, slots := 0, locals := 12 } : Room).slots) (Q := (Q_rm1 Z a1 q1 p2 h0 n0)) (ef_rm1 m a1 q1 p2) ?_
  refine own_by (S' := (s₁.setTop (mkF m 1 #[.val (.ref a1), .val (.long q1), .second, .val (.int p2)] [(.ref a1)]))) (fun _ k => XS.aloadN X0.here hx rfl (hb hby d1_0) rfl rfl k) ?_
  obtain ⟨T1, X1, e1, st1⟩ := initO X0 hx hZ hown (hw _ (List.mem_of_getElem? (i := 6) rfl)) (hw _ (List.mem_of_getElem? (i := 7) rfl)) (hw _ (List.mem_of_getElem? (i := 8) rfl)) e0 (g := (mkF m 1 #[.val (.ref a1), .val (.long q1), .second, .val (.int p2)] [(.ref a1)])) rfl (by rw [hml]; rfl) rfl (hb hby d1_1) (by decide) (W := 0) (by show 2 * 0 + _ ≤ _; exact Nat.le_of_eq rfl) (by decide)
  refine own_by (S' := (T1.setTop (mkF m 4 #[.val (.ref a1), .val (.long q1), .second, .val (.int p2)] []))) st1 ?_
  refine own_by (S' := (T1.setTop (mkF m 5 #[.val (.ref a1), .val (.long q1), .second, .val (.int p2)] [(.ref a1)]))) (fun _ k => XS.aloadN X1.here hx rfl (hb hby d1_4) rfl rfl k) ?_
  refine own_by (S' := (T1.setTop (mkF m 6 #[.val (.ref a1), .val (.long q1), .second, .val (.int p2)] [(.long q1), (.ref a1)]))) (fun _ k => XS.lloadN X1.here hx rfl (hb hby d1_5) rfl k) ?_
  obtain ⟨T2, h2, X2, e2, W2, st2⟩ := putF X1 hx hZ hown (host := "") (Or.inl (hw _ (List.mem_of_getElem? (i := 9) rfl))) Via.refl e1 F_h E_a1 (Or.inr ⟨(hw _ (List.mem_of_getElem? (i := 10) rfl)), rfl, hnm⟩) (hw _ (List.mem_of_getElem? (i := 1) rfl)) (ty := .long) (by decide) rfl rfl (g := (mkF m 6 #[.val (.ref a1), .val (.long q1), .second, .val (.int p2)] [(.long q1), (.ref a1)])) rfl rfl (hb hby d1_6)
  have N := Fr.snoc X2 N o_a1
  have E_a1 := E_a1.wr W2
  have F_h := F_h.same W2
  have F_p := F_p.other W2 (Or.inr (slot_ne (Or.inr (hw _ (List.mem_of_getElem? (i := 12) rfl))) (Or.inr (hw _ (List.mem_of_getElem? (i := 10) rfl))) (by decide) (t := .int) (t' := .long) (by decide) (by decide)))
  have Zn : n0 ≤ _ := Nat.le_trans Zn (Nat.le_of_eq W2.size.symm)
  have K := K.wr W2 (Or.inl (List.mem_of_getElem? (i := 0) rfl))
  refine own_by (S' := (T2.setTop (mkF m 9 #[.val (.ref a1), .val (.long q1), .second, .val (.int p2)] []))) st2 ?_
  refine own_by (S' := (T2.setTop (mkF m 10 #[.val (.ref a1), .val (.long q1), .second, .val (.int p2)] [(.ref a1)]))) (fun _ k => XS.aloadN X2.here hx rfl (hb hby d1_9) rfl rfl k) ?_
  refine own_by (S' := (T2.setTop (mkF m 11 #[.val (.ref a1), .val (.long q1), .second, .val (.int p2)] [(.int p2), (.ref a1)]))) (fun _ k => XS.iloadN X2.here hx rfl (hb hby d1_10) rfl k) ?_
  obtain ⟨T3, h3, X3, e3, W3, st3⟩ := putF X2 hx hZ hown (host := "") (Or.inl (hw _ (List.mem_of_getElem? (i := 11) rfl))) Via.refl e2 F_p E_a1 (Or.inr ⟨(hw _ (List.mem_of_getElem? (i := 12) rfl)), rfl, hnm⟩) (hw _ (List.mem_of_getElem? (i := 1) rfl)) (ty := .int) (by decide) rfl rfl (g := (mkF m 11 #[.val (.ref a1), .val (.long q1), .second, .val (.int p2)] [(.int p2), (.ref a1)])) rfl rfl (hb hby d1_11)
  have N := Fr.snoc X3 N o_a1
  have E_a1 := E_a1.wr W3
  have F_h := F_h.other W3 (Or.inr (slot_ne (Or.inr (hw _ (List.mem_of_getElem? (i := 10) rfl))) (Or.inr (hw _ (List.mem_of_getElem? (i := 12) rfl))) (by decide) (t := .long) (t' := .int) (by decide) (by decide)))
  have F_p := F_p.same W3
  have Zn : n0 ≤ _ := Nat.le_trans Zn (Nat.le_of_eq W3.size.symm)
  have K := K.wr W3 (Or.inl (List.mem_of_getElem? (i := 0) rfl))
  refine own_by (S' := (T3.setTop (mkF m 14 #[.val (.ref a1), .val (.long q1), .second, .val (.int p2)] []))) st3 ?_
  exact own_ret0 X3 hx Bd.returns (hb hby d1_14) hlk (by decide : 0 ≤ _) (by decide : 0 ≤ _) (by rw [e3]; exact ⟨rfl, N, K, F_h, F_p⟩)
theorem d3_0 : decode prog_36_method_8_code 0 = .ok (.aload_n 1, 1) := by decide +kernel
theorem d3_1 : decode prog_36_method_8_code 1 = .ok (.instanceof 8, 3) := by decide +kernel
theorem d3_4 : decode prog_36_method_8_code 4 = .ok (.ifCond .eq 36, 3) := by decide +kernel
theorem d3_7 : decode prog_36_method_8_code 7 = .ok (.aload_n 1, 1) := by decide +kernel
theorem d3_8 : decode prog_36_method_8_code 8 = .ok (.checkcast 8, 3) := by decide +kernel
theorem d3_11 : decode prog_36_method_8_code 11 = .ok (.getfield 7, 3) := by decide +kernel
theorem d3_14 : decode prog_36_method_8_code 14 = .ok (.aload_n 0, 1) := by decide +kernel
theorem d3_15 : decode prog_36_method_8_code 15 = .ok (.getfield 7, 3) := by decide +kernel
theorem d3_18 : decode prog_36_method_8_code 18 = .ok (.lcmp, 1) := by decide +kernel
theorem d3_19 : decode prog_36_method_8_code 19 = .ok (.ifCond .ne 21, 3) := by decide +kernel
theorem d3_22 : decode prog_36_method_8_code 22 = .ok (.aload_n 1, 1) := by decide +kernel
theorem d3_23 : decode prog_36_method_8_code 23 = .ok (.checkcast 8, 3) := by decide +kernel
theorem d3_26 : decode prog_36_method_8_code 26 = .ok (.getfield 13, 3) := by decide +kernel
theorem d3_29 : decode prog_36_method_8_code 29 = .ok (.aload_n 0, 1) := by decide +kernel
theorem d3_30 : decode prog_36_method_8_code 30 = .ok (.getfield 13, 3) := by decide +kernel
theorem d3_33 : decode prog_36_method_8_code 33 = .ok (.if_icmp .ne 7, 3) := by decide +kernel
theorem d3_36 : decode prog_36_method_8_code 36 = .ok (.iconst 1, 1) := by decide +kernel
theorem d3_37 : decode prog_36_method_8_code 37 = .ok (.goto 4, 3) := by decide +kernel
theorem d3_40 : decode prog_36_method_8_code 40 = .ok (.iconst 0, 1) := by decide +kernel
theorem d3_41 : decode prog_36_method_8_code 41 = .ok (.ireturn, 1) := by decide +kernel
theorem pn_3 : plainName "com/example/tideline/tideline/model/DataPartition" = true := by first | (simp [plainName, overriddenIn]; done) | decide +kernel
theorem ef_rm3_t (m : MethodId) (x0 : Addr) (x1 : Addr) : entryFrame m #[(.ref x0), (.ref x1)] 2 = mkF m 0 #[.val (.ref x0), .val (.ref x1)] [] := by first | (simp [entryFrame, mkF, argsToLocals, Value.category]; done) | rfl
def Q_rm3_t (Z : State) (a1 b1 : Addr) (q1 : Int64) (p2 : Int32) (q3 : Int64) (p4 : Int32) (h0 : Heap) (n0 : Nat) (v : Option Value) (h : Heap) (L : List Loc) : Prop := v = some (.int (own_eq q1 p2 q3 p4)) ∧ Fr n0 L ∧ h = h0
set_option maxRecDepth 65536 in
set_option maxHeartbeats 40000000 in
theorem rm3_t (l : Launch) (Z : State) (a0 : Array Value) (hw : ∀ d ∈ tables_1, d.before a0 Z = true) (ws : List Jvm.Cond) (a1 b1 : Addr) (q1 : Int64) (p2 : Int32) (q3 : Int64) (p4 : Int32) (h0 : Heap) (n0 : Nat) (Zn : n0 ≤ h0.size) (E_b1 : Exa Z h0 b1 "com/example/tideline/tideline/model/DataPartition") (F_h : Fld Z h0 a1 "com/example/tideline/tideline/model/DataPartition" "start" "J" (.long q1)) (F_p : Fld Z h0 a1 "com/example/tideline/tideline/model/DataPartition" "seriesPartition" "I" (.int p2)) (G_h : Fld Z h0 b1 "com/example/tideline/tideline/model/DataPartition" "start" "J" (.long q3)) (G_p : Fld Z h0 b1 "com/example/tideline/tideline/model/DataPartition" "seriesPartition" "I" (.int p4)) :
    MetFree l (⟨"com/example/tideline/tideline/model/DataPartition", "equals", "(Ljava/lang/Object;)Z"⟩ : MethodName) (head1 (Jvm.Cond.code (⟨"com/example/tideline/tideline/model/DataPartition", "equals", "(Ljava/lang/Object;)Z"⟩ : MethodName) prog_36_method_8_code 2 (some .boolean) :: ws) ({ frames := 0, cells := 0, slots := 0, locals := 0 } : Room)) (fun a U => a = #[(.ref a1), (.ref b1)] ∧ Z.Warmed39 U.vm ∧ U.heap = h0) (fun _ _ _ _ _ => True) (fun _ U o U' => ∃ v L, o = .returned v ∧ (Q_rm3_t Z a1 b1 q1 p2 q3 p4 h0 n0) v U'.heap L ∧ FrameEnd U o U' L ({ frames := 0, cells := 0, slots := 0, locals := 0 } : Room).cells ({ frames := 0, cells := 0, slots := 0, locals := 0 } : Room).slots) := by
  refine MetFree.of_bodySF (plainFor_of_name pn_3) hisR ?_
  intro p e s m args below meth c s₁ Bd hml0 hP hK
  obtain ⟨rfl, hZ, hh⟩ := hP
  have hx := Bd.exec
  have hby := Bd.bytes
  have hml : c.maxLocals = 2 := hml0
  have hown : s.vm.findClass "com/example/tideline/tideline/model/DataPartition" = some m.cls := findClass_of_methodNamed Bd.named
  have hnm := (name_of_methodNamed Bd.named Bd.method).1
  have hlk : meth.locks = false := BodyLoose.notSynchronized Bd
  have X0 : Stand p l e ({ frames := 0, cells := 0, slots := 0, locals := 0 } : Room) s m #[(.ref a1), (.ref b1)] below meth c s₁ [] 0 0 := Stand.of_body Bd
  have e0 : s₁.heap = h0 := by rw [← hh, Bd.state]; rfl
  have N := Fr.nil n0
  have K := Keep.refl h0 []
  refine own_start (cl := ({ frames := 0, cells := 0, slots := 0, locals := 0 } : Room).cells) (sl := ({ frames := 0, cells := 0, slots := 0, locals := 0 } : Room).slots) (Q := (Q_rm3_t Z a1 b1 q1 p2 q3 p4 h0 n0)) (ef_rm3_t m a1 b1) ?_
  refine own_by (S' := (s₁.setTop (mkF m 1 #[.val (.ref a1), .val (.ref b1)] [(.ref b1)]))) (fun _ k => XS.aloadN X0.here hx rfl (hb hby d3_0) rfl rfl k) ?_
  obtain ⟨T4, X4, e4, st4⟩ := instY X0 hx hZ hown (hw _ (List.mem_of_getElem? (i := 18) rfl)) e0 (Ins.self E_b1) (g := (mkF m 1 #[.val (.ref a1), .val (.ref b1)] [(.ref b1)])) rfl rfl (hb hby d3_1)
  refine own_by (S' := (T4.setTop (mkF m 4 #[.val (.ref a1), .val (.ref b1)] [(.int (1 : Int32))]))) st4 ?_
  refine own_by (S' := (T4.setTop (mkF m 7 #[.val (.ref a1), .val (.ref b1)] []))) (fun _ k => XS.ifNo X4.here hx rfl (hb hby d3_4) rfl ((if0 _ _).trans (feq ((by decide) : ¬ ((1 : Int32) = (0 : Int32)))).1) k) ?_
  refine own_by (S' := (T4.setTop (mkF m 8 #[.val (.ref a1), .val (.ref b1)] [(.ref b1)]))) (fun _ k => XS.aloadN X4.here hx rfl (hb hby d3_7) rfl rfl k) ?_
  obtain ⟨T5, X5, e5, st5⟩ := castY X4 hx hZ hown (hw _ (List.mem_of_getElem? (i := 18) rfl)) e4 (Ins.self E_b1) (g := (mkF m 8 #[.val (.ref a1), .val (.ref b1)] [(.ref b1)])) rfl rfl (hb hby d3_8)
  refine own_by (S' := (T5.setTop (mkF m 11 #[.val (.ref a1), .val (.ref b1)] [(.ref b1)]))) st5 ?_
  obtain ⟨T6, X6, e6, st6⟩ := getF X5 hx hZ hown (host := "") (Or.inl (hw _ (List.mem_of_getElem? (i := 9) rfl))) Via.refl e5 G_h (g := (mkF m 11 #[.val (.ref a1), .val (.ref b1)] [(.ref b1)])) rfl rfl (hb hby d3_11)
  refine own_by (S' := (T6.setTop (mkF m 14 #[.val (.ref a1), .val (.ref b1)] [(.long q3)]))) st6 ?_
  refine own_by (S' := (T6.setTop (mkF m 15 #[.val (.ref a1), .val (.ref b1)] [(.ref a1), (.long q3)]))) (fun _ k => XS.aloadN X6.here hx rfl (hb hby d3_14) rfl rfl k) ?_
  obtain ⟨T7, X7, e7, st7⟩ := getF X6 hx hZ hown (host := "") (Or.inl (hw _ (List.mem_of_getElem? (i := 9) rfl))) Via.refl e6 F_h (g := (mkF m 15 #[.val (.ref a1), .val (.ref b1)] [(.ref a1), (.long q3)])) rfl rfl (hb hby d3_15)
  refine own_by (S' := (T7.setTop (mkF m 18 #[.val (.ref a1), .val (.ref b1)] [(.long q1), (.long q3)]))) st7 ?_
  refine own_by (S' := (T7.setTop (mkF m 19 #[.val (.ref a1), .val (.ref b1)] [(.int (lcmpW q3 q1))]))) (fun _ k => XS.lcmp X7.here hx rfl (hb hby d3_18) rfl k) ?_
  by_cases hc1 : (lcmpW q3 q1) = (0 : Int32)
  · refine own_by (S' := (T7.setTop (mkF m 22 #[.val (.ref a1), .val (.ref b1)] []))) (fun _ k => XS.ifNo X7.here hx rfl (hb hby d3_19) rfl ((if0 _ _).trans (teq (hc1 : (lcmpW q3 q1) = (0 : Int32))).2) k) ?_
    refine own_by (S' := (T7.setTop (mkF m 23 #[.val (.ref a1), .val (.ref b1)] [(.ref b1)]))) (fun _ k => XS.aloadN X7.here hx rfl (hb hby d3_22) rfl rfl k) ?_
    obtain ⟨T8, X8, e8, st8⟩ := castY X7 hx hZ hown (hw _ (List.mem_of_getElem? (i := 18) rfl)) e7 (Ins.self E_b1) (g := (mkF m 23 #[.val (.ref a1), .val (.ref b1)] [(.ref b1)])) rfl rfl (hb hby d3_23)
    refine own_by (S' := (T8.setTop (mkF m 26 #[.val (.ref a1), .val (.ref b1)] [(.ref b1)]))) st8 ?_
    obtain ⟨T9, X9, e9, st9⟩ := getF X8 hx hZ hown (host := "") (Or.inl (hw _ (List.mem_of_getElem? (i := 11) rfl))) Via.refl e8 G_p (g := (mkF m 26 #[.val (.ref a1), .val (.ref b1)] [(.ref b1)])) rfl rfl (hb hby d3_26)
    refine own_by (S' := (T9.setTop (mkF m 29 #[.val (.ref a1), .val (.ref b1)] [(.int p4)]))) st9 ?_
    refine own_by (S' := (T9.setTop (mkF m 30 #[.val (.ref a1), .val (.ref b1)] [(.ref a1), (.int p4)]))) (fun _ k => XS.aloadN X9.here hx rfl (hb hby d3_29) rfl rfl k) ?_
    obtain ⟨T10, X10, e10, st10⟩ := getF X9 hx hZ hown (host := "") (Or.inl (hw _ (List.mem_of_getElem? (i := 11) rfl))) Via.refl e9 F_p (g := (mkF m 30 #[.val (.ref a1), .val (.ref b1)] [(.ref a1), (.int p4)])) rfl rfl (hb hby d3_30)
    refine own_by (S' := (T10.setTop (mkF m 33 #[.val (.ref a1), .val (.ref b1)] [(.int p2), (.int p4)]))) st10 ?_
    by_cases hc2 : p4 = p2
    · refine own_by (S' := (T10.setTop (mkF m 36 #[.val (.ref a1), .val (.ref b1)] []))) (fun _ k => XS.icmpNo X10.here hx rfl (hb hby d3_33) rfl (teq (hc2 : p4 = p2)).2 k) ?_
      refine own_by (S' := (T10.setTop (mkF m 37 #[.val (.ref a1), .val (.ref b1)] [(.int (1 : Int32))]))) (fun _ k => XS.iconst X10.here hx rfl (hb hby d3_36) k) ?_
      refine own_by (S' := (T10.setTop (mkF m 41 #[.val (.ref a1), .val (.ref b1)] [(.int (1 : Int32))]))) (fun _ k => XS.goto X10.here hx rfl (pc0 := 37) (pc' := 41) rfl (hb hby d3_37) (by decide) (by decide) k) ?_
      exact own_ret X10 hx (t := .boolean) Bd.returns rfl (Or.inl ⟨rfl, by simp, _, rfl⟩) (hb hby d3_41) hlk (by decide : 0 ≤ _) (by decide : 0 ≤ _) (by rw [e10]; exact ⟨by rw [own_eq, if_pos hc1, if_pos hc2], N, rfl⟩)
    · refine own_by (S' := (T10.setTop (mkF m 40 #[.val (.ref a1), .val (.ref b1)] []))) (fun _ k => XS.icmpYes X10.here hx rfl (pc0 := 33) (pc' := 40) rfl (hb hby d3_33) rfl (feq (hc2 : ¬ (p4 = p2))).2 (by decide) (by decide) k) ?_
      refine own_by (S' := (T10.setTop (mkF m 41 #[.val (.ref a1), .val (.ref b1)] [(.int (0 : Int32))]))) (fun _ k => XS.iconst X10.here hx rfl (hb hby d3_40) k) ?_
      exact own_ret X10 hx (t := .boolean) Bd.returns rfl (Or.inl ⟨rfl, by simp, _, rfl⟩) (hb hby d3_41) hlk (by decide : 0 ≤ _) (by decide : 0 ≤ _) (by rw [e10]; exact ⟨by rw [own_eq, if_pos hc1, if_neg hc2], N, rfl⟩)
  · refine own_by (S' := (T7.setTop (mkF m 40 #[.val (.ref a1), .val (.ref b1)] []))) (fun _ k => XS.ifYes X7.here hx rfl (pc0 := 19) (pc' := 40) rfl (hb hby d3_19) rfl ((if0 _ _).trans (feq (hc1 : ¬ ((lcmpW q3 q1) = (0 : Int32)))).2) (by decide) (by decide) k) ?_
    refine own_by (S' := (T7.setTop (mkF m 41 #[.val (.ref a1), .val (.ref b1)] [(.int (0 : Int32))]))) (fun _ k => XS.iconst X7.here hx rfl (hb hby d3_40) k) ?_
    exact own_ret X7 hx (t := .boolean) Bd.returns rfl (Or.inl ⟨rfl, by simp, _, rfl⟩) (hb hby d3_41) hlk (by decide : 0 ≤ _) (by decide : 0 ≤ _) (by rw [e7]; exact ⟨by rw [own_eq, if_neg hc1], N, rfl⟩)
theorem ef_rm3_n (m : MethodId) (x0 : Addr) : entryFrame m #[(.ref x0), .null] 2 = mkF m 0 #[.val (.ref x0), .val .null] [] := by first | (simp [entryFrame, mkF, argsToLocals, Value.category]; done) | rfl
def Q_rm3_n (Z : State) (a1 : Addr) (h0 : Heap) (n0 : Nat) (v : Option Value) (h : Heap) (L : List Loc) : Prop := v = some (.int (0 : Int32)) ∧ Fr n0 L ∧ h = h0
set_option maxRecDepth 65536 in
set_option maxHeartbeats 40000000 in
theorem rm3_n (l : Launch) (Z : State) (a0 : Array Value) (hw : ∀ d ∈ tables_1, d.before a0 Z = true) (ws : List Jvm.Cond) (a1 : Addr) (h0 : Heap) (n0 : Nat) (Zn : n0 ≤ h0.size) :
    MetFree l (⟨"com/example/tideline/tideline/model/DataPartition", "equals", "(Ljava/lang/Object;)Z"⟩ : MethodName) (head1 (Jvm.Cond.code (⟨"com/example/tideline/tideline/model/DataPartition", "equals", "(Ljava/lang/Object;)Z"⟩ : MethodName) prog_36_method_8_code 2 (some .boolean) :: ws) ({ frames := 0, cells := 0, slots := 0, locals := 0 } : Room)) (fun a U => a = #[(.ref a1), .null] ∧ Z.Warmed39 U.vm ∧ U.heap = h0) (fun _ _ _ _ _ => True) (fun _ U o U' => ∃ v L, o = .returned v ∧ (Q_rm3_n Z a1 h0 n0) v U'.heap L ∧ FrameEnd U o U' L ({ frames := 0, cells := 0, slots := 0, locals := 0 } : Room).cells ({ frames := 0, cells := 0, slots := 0, locals := 0 } : Room).slots) := by
  refine MetFree.of_bodySF (plainFor_of_name pn_3) hisR ?_
  intro p e s m args below meth c s₁ Bd hml0 hP hK
  obtain ⟨rfl, hZ, hh⟩ := hP
  have hx := Bd.exec
  have hby := Bd.bytes
  have hml : c.maxLocals = 2 := hml0
  have hown : s.vm.findClass "com/example/tideline/tideline/model/DataPartition" = some m.cls := findClass_of_methodNamed Bd.named
  have hnm := (name_of_methodNamed Bd.named Bd.method).1
  have hlk : meth.locks = false := BodyLoose.notSynchronized Bd
  have X0 : Stand p l e ({ frames := 0, cells := 0, slots := 0, locals := 0 } : Room) s m #[(.ref a1), .null] below meth c s₁ [] 0 0 := Stand.of_body Bd
  have e0 : s₁.heap = h0 := by rw [← hh, Bd.state]; rfl
  have N := Fr.nil n0
  have K := Keep.refl h0 []
  refine own_start (cl := ({ frames := 0, cells := 0, slots := 0, locals := 0 } : Room).cells) (sl := ({ frames := 0, cells := 0, slots := 0, locals := 0 } : Room).slots) (Q := (Q_rm3_n Z a1 h0 n0)) (ef_rm3_n m a1) ?_
  refine own_by (S' := (s₁.setTop (mkF m 1 #[.val (.ref a1), .val .null] [.null]))) (fun _ k => XS.aloadN X0.here hx rfl (hb hby d3_0) rfl rfl k) ?_
  refine own_by (S' := (s₁.setTop (mkF m 4 #[.val (.ref a1), .val .null] [(.int (0 : Int32))]))) (fun _ k => X0.instanceofNull hx (g := (mkF m 1 #[.val (.ref a1), .val .null] [.null])) rfl rfl (hb hby d3_1) _ k) ?_
  refine own_by (S' := (s₁.setTop (mkF m 40 #[.val (.ref a1), .val .null] []))) (fun _ k => XS.ifYes X0.here hx rfl (pc0 := 4) (pc' := 40) rfl (hb hby d3_4) rfl ((if0 _ _).trans (teq ((by decide) : (0 : Int32) = (0 : Int32))).1) (by decide) (by decide) k) ?_
  refine own_by (S' := (s₁.setTop (mkF m 41 #[.val (.ref a1), .val .null] [(.int (0 : Int32))]))) (fun _ k => XS.iconst X0.here hx rfl (hb hby d3_40) k) ?_
  exact own_ret X0 hx (t := .boolean) Bd.returns rfl (Or.inl ⟨rfl, by simp, _, rfl⟩) (hb hby d3_41) hlk (by decide : 0 ≤ _) (by decide : 0 ≤ _) (by rw [e0]; exact ⟨rfl, N, rfl⟩)
theorem ef_rm3_i (m : MethodId) (x0 : Addr) (x1 : Addr) : entryFrame m #[(.ref x0), (.ref x1)] 2 = mkF m 0 #[.val (.ref x0), .val (.ref x1)] [] := by first | (simp [entryFrame, mkF, argsToLocals, Value.category]; done) | rfl
def Q_rm3_i (Z : State) (a1 b1 : Addr) (h0 : Heap) (n0 : Nat) (v : Option Value) (h : Heap) (L : List Loc) : Prop := v = some (.int (0 : Int32)) ∧ Fr n0 L ∧ h = h0
set_option maxRecDepth 65536 in
set_option maxHeartbeats 40000000 in
theorem rm3_i (l : Launch) (Z : State) (a0 : Array Value) (hw : ∀ d ∈ tables_1, d.before a0 Z = true) (ws : List Jvm.Cond) (a1 b1 : Addr) (h0 : Heap) (n0 : Nat) (Zn : n0 ≤ h0.size) (E_b1 : Exa Z h0 b1 "java/lang/Integer") :
    MetFree l (⟨"com/example/tideline/tideline/model/DataPartition", "equals", "(Ljava/lang/Object;)Z"⟩ : MethodName) (head1 (Jvm.Cond.code (⟨"com/example/tideline/tideline/model/DataPartition", "equals", "(Ljava/lang/Object;)Z"⟩ : MethodName) prog_36_method_8_code 2 (some .boolean) :: ws) ({ frames := 0, cells := 0, slots := 0, locals := 0 } : Room)) (fun a U => a = #[(.ref a1), (.ref b1)] ∧ Z.Warmed39 U.vm ∧ U.heap = h0) (fun _ _ _ _ _ => True) (fun _ U o U' => ∃ v L, o = .returned v ∧ (Q_rm3_i Z a1 b1 h0 n0) v U'.heap L ∧ FrameEnd U o U' L ({ frames := 0, cells := 0, slots := 0, locals := 0 } : Room).cells ({ frames := 0, cells := 0, slots := 0, locals := 0 } : Room).slots) := by
  refine MetFree.of_bodySF (plainFor_of_name pn_3) hisR ?_
  intro p e s m args below meth c s₁ Bd hml0 hP hK
  obtain ⟨rfl, hZ, hh⟩ := hP
  have hx := Bd.exec
  have hby := Bd.bytes
  have hml : c.maxLocals = 2 := hml0
  have hown : s.vm.findClass "com/example/tideline/tideline/model/DataPartition" = some m.cls := findClass_of_methodNamed Bd.named
  have hnm := (name_of_methodNamed Bd.named Bd.method).1
  have hlk : meth.locks = false := BodyLoose.notSynchronized Bd
  have X0 : Stand p l e ({ frames := 0, cells := 0, slots := 0, locals := 0 } : Room) s m #[(.ref a1), (.ref b1)] below meth c s₁ [] 0 0 := Stand.of_body Bd
  have e0 : s₁.heap = h0 := by rw [← hh, Bd.state]; rfl
  have N := Fr.nil n0
  have K := Keep.refl h0 []
  refine own_start (cl := ({ frames := 0, cells := 0, slots := 0, locals := 0 } : Room).cells) (sl := ({ frames := 0, cells := 0, slots := 0, locals := 0 } : Room).slots) (Q := (Q_rm3_i Z a1 b1 h0 n0)) (ef_rm3_i m a1 b1) ?_
  refine own_by (S' := (s₁.setTop (mkF m 1 #[.val (.ref a1), .val (.ref b1)] [(.ref b1)]))) (fun _ k => XS.aloadN X0.here hx rfl (hb hby d3_0) rfl rfl k) ?_
  obtain ⟨T11, X11, e11, st11⟩ := instNo X0 hx hZ hown (hw _ (List.mem_of_getElem? (i := 18) rfl)) e0 E_b1 (own_noI Z a0 hw) (g := (mkF m 1 #[.val (.ref a1), .val (.ref b1)] [(.ref b1)])) rfl rfl (hb hby d3_1)
  refine own_by (S' := (T11.setTop (mkF m 4 #[.val (.ref a1), .val (.ref b1)] [(.int (0 : Int32))]))) st11 ?_
  refine own_by (S' := (T11.setTop (mkF m 40 #[.val (.ref a1), .val (.ref b1)] []))) (fun _ k => XS.ifYes X11.here hx rfl (pc0 := 4) (pc' := 40) rfl (hb hby d3_4) rfl ((if0 _ _).trans (teq ((by decide) : (0 : Int32) = (0 : Int32))).1) (by decide) (by decide) k) ?_
  refine own_by (S' := (T11.setTop (mkF m 41 #[.val (.ref a1), .val (.ref b1)] [(.int (0 : Int32))]))) (fun _ k => XS.iconst X11.here hx rfl (hb hby d3_40) k) ?_
  exact own_ret X11 hx (t := .boolean) Bd.returns rfl (Or.inl ⟨rfl, by simp, _, rfl⟩) (hb hby d3_41) hlk (by decide : 0 ≤ _) (by decide : 0 ≤ _) (by rw [e11]; exact ⟨rfl, N, rfl⟩)
theorem ef_rm3_l (m : MethodId) (x0 : Addr) (x1 : Addr) : entryFrame m #[(.ref x0), (.ref x1)] 2 = mkF m 0 #[.val (.ref x0), .val (.ref x1)] [] := by first | (simp [entryFrame, mkF, argsToLocals, Value.category]; done) | rfl
def Q_rm3_l (Z : State) (a1 b1 : Addr) (h0 : Heap) (n0 : Nat) (v : Option Value) (h : Heap) (L : List Loc) : Prop := v = some (.int (0 : Int32)) ∧ Fr n0 L ∧ h = h0
set_option maxRecDepth 65536 in
set_option maxHeartbeats 40000000 in
theorem rm3_l (l : Launch) (Z : State) (a0 : Array Value) (hw : ∀ d ∈ tables_1, d.before a0 Z = true) (ws : List Jvm.Cond) (a1 b1 : Addr) (h0 : Heap) (n0 : Nat) (Zn : n0 ≤ h0.size) (E_b1 : Exa Z h0 b1 "java/lang/Long") :
    MetFree l (⟨"com/example/tideline/tideline/model/DataPartition", "equals", "(Ljava/lang/Object;)Z"⟩ : MethodName) (head1 (Jvm.Cond.code (⟨"com/example/tideline/tideline/model/DataPartition", "equals", "(Ljava/lang/Object;)Z"⟩ : MethodName) prog_36_method_8_code 2 (some .boolean) :: ws) ({ frames := 0, cells := 0, slots := 0, locals := 0 } : Room)) (fun a U => a = #[(.ref a1), (.ref b1)] ∧ Z.Warmed39 U.vm ∧ U.heap = h0) (fun _ _ _ _ _ => True) (fun _ U o U' => ∃ v L, o = .returned v ∧ (Q_rm3_l Z a1 b1 h0 n0) v U'.heap L ∧ FrameEnd U o U' L ({ frames := 0, cells := 0, slots := 0, locals := 0 } : Room).cells ({ frames := 0, cells := 0, slots := 0, locals := 0 } : Room).slots) := by
  refine MetFree.of_bodySF (plainFor_of_name pn_3) hisR ?_
  intro p e s m args below meth c s₁ Bd hml0 hP hK
  obtain ⟨rfl, hZ, hh⟩ := hP
  have hx := Bd.exec
  have hby := Bd.bytes
  have hml : c.maxLocals = 2 := hml0
  have hown : s.vm.findClass "com/example/tideline/tideline/model/DataPartition" = some m.cls := findClass_of_methodNamed Bd.named
  have hnm := (name_of_methodNamed Bd.named Bd.method).1
  have hlk : meth.locks = false := BodyLoose.notSynchronized Bd
  have X0 : Stand p l e ({ frames := 0, cells := 0, slots := 0, locals := 0 } : Room) s m #[(.ref a1), (.ref b1)] below meth c s₁ [] 0 0 := Stand.of_body Bd
  have e0 : s₁.heap = h0 := by rw [← hh, Bd.state]; rfl
  have N := Fr.nil n0
  have K := Keep.refl h0 []
  refine own_start (cl := ({ frames := 0, cells := 0, slots := 0, locals := 0 } : Room).cells) (sl := ({ frames := 0, cells := 0, slots := 0, locals := 0 } : Room).slots) (Q := (Q_rm3_l Z a1 b1 h0 n0)) (ef_rm3_l m a1 b1) ?_
  refine own_by (S' := (s₁.setTop (mkF m 1 #[.val (.ref a1), .val (.ref b1)] [(.ref b1)]))) (fun _ k => XS.aloadN X0.here hx rfl (hb hby d3_0) rfl rfl k) ?_
  obtain ⟨T12, X12, e12, st12⟩ := instNo X0 hx hZ hown (hw _ (List.mem_of_getElem? (i := 18) rfl)) e0 E_b1 (own_noL Z a0 hw) (g := (mkF m 1 #[.val (.ref a1), .val (.ref b1)] [(.ref b1)])) rfl rfl (hb hby d3_1)
  refine own_by (S' := (T12.setTop (mkF m 4 #[.val (.ref a1), .val (.ref b1)] [(.int (0 : Int32))]))) st12 ?_
  refine own_by (S' := (T12.setTop (mkF m 40 #[.val (.ref a1), .val (.ref b1)] []))) (fun _ k => XS.ifYes X12.here hx rfl (pc0 := 4) (pc' := 40) rfl (hb hby d3_4) rfl ((if0 _ _).trans (teq ((by decide) : (0 : Int32) = (0 : Int32))).1) (by decide) (by decide) k) ?_
  refine own_by (S' := (T12.setTop (mkF m 41 #[.val (.ref a1), .val (.ref b1)] [(.int (0 : Int32))]))) (fun _ k => XS.iconst X12.here hx rfl (hb hby d3_40) k) ?_
  exact own_ret X12 hx (t := .boolean) Bd.returns rfl (Or.inl ⟨rfl, by simp, _, rfl⟩) (hb hby d3_41) hlk (by decide : 0 ≤ _) (by decide : 0 ≤ _) (by rw [e12]; exact ⟨rfl, N, rfl⟩)
theorem d6_0 : decode jdk_18_method_1_code 0 = .ok (.aload_n 0, 1) := by decide +kernel
theorem d6_1 : decode jdk_18_method_1_code 1 = .ok (.invokespecial 1, 3) := by decide +kernel
theorem d6_4 : decode jdk_18_method_1_code 4 = .ok (.return_, 1) := by decide +kernel
theorem pn_6 : plainName "java/lang/Number" = true := by first | (simp [plainName, overriddenIn]; done) | decide +kernel
theorem ef_rm6 (m : MethodId) (x0 : Addr) : entryFrame m #[(.ref x0)] 1 = mkF m 0 #[.val (.ref x0)] [] := by first | (simp [entryFrame, mkF, argsToLocals, Value.category]; done) | rfl
def Q_rm6 (Z : State) (a1 : Addr) (h0 : Heap) (n0 : Nat) (v : Option Value) (h : Heap) (L : List Loc) : Prop := v = none ∧ Fr n0 L ∧ h = h0
set_option maxRecDepth 65536 in
set_option maxHeartbeats 40000000 in
theorem rm6 (l : Launch) (Z : State) (a0 : Array Value) (hw : ∀ d ∈ tables_1, d.before a0 Z = true) (ws : List Jvm.Cond) (a1 : Addr) (h0 : Heap) (n0 : Nat) (Zn : n0 ≤ h0.size) :
    MetFree l (⟨"java/lang/Number", "<init>", "()V"⟩ : MethodName) (head1 (Jvm.Cond.code (⟨"java/lang/Number", "<init>", "()V"⟩ : MethodName) jdk_18_method_1_code 1 none :: ws) ({ frames := 1, cells := 0, slots := 0, locals := 12 } : Room)) (fun a U => a = #[(.ref a1)] ∧ Z.Warmed39 U.vm ∧ U.heap = h0) (fun _ _ _ _ _ => True) (fun _ U o U' => ∃ v L, o = .returned v ∧ (Q_rm6 Z a1 h0 n0) v U'.heap L ∧ FrameEnd U o U' L ({ frames := 1, cells := 0, slots := 0, locals := 12 } : Room).cells ({ frames := 1, cells := 0, slots := 0, locals := 12 } : Room).slots) := by
  refine MetFree.of_bodySF (plainFor_of_name pn_6) hisR ?_
  intro p e s m args below meth c s₁ Bd hml0 hP hK
  obtain ⟨rfl, hZ, hh⟩ := hP
  have hx := Bd.exec
  have hby := Bd.bytes
  have hml : c.maxLocals = 1 := hml0
  have hown : s.vm.findClass "java/lang/Number" = some m.cls := findClass_of_methodNamed Bd.named
  have hnm := (name_of_methodNamed Bd.named Bd.method).1
  have hlk : meth.locks = false := BodyLoose.notSynchronized Bd
  have X0 : Stand p l e ({ frames := 1, cells := 0, slots := 0, locals := 12 } : Room) s m #[(.ref a1)] below meth c s₁ [] 0 0 := Stand.of_body Bd
  have e0 : s₁.heap = h0 := by rw [← hh, Bd.state]; rfl
  have N := Fr.nil n0
  have K := Keep.refl h0 []
  refine own_start (cl := ({ frames := 1, cells := 0, slots := 0, locals := 12 } : Room).cells) (sl := ({ frames := 1, cells := 0, slots := 0, locals := 12 } : Room).slots) (Q := (Q_rm6 Z a1 h0 n0)) (ef_rm6 m a1) ?_
  refine own_by (S' := (s₁.setTop (mkF m 1 #[.val (.ref a1)] [(.ref a1)]))) (fun _ k => XS.aloadN X0.here hx rfl (hb hby d6_0) rfl rfl k) ?_
  obtain ⟨T13, X13, e13, st13⟩ := initO X0 hx hZ hown (hw _ (List.mem_of_getElem? (i := 38) rfl)) (hw _ (List.mem_of_getElem? (i := 7) rfl)) (hw _ (List.mem_of_getElem? (i := 8) rfl)) e0 (g := (mkF m 1 #[.val (.ref a1)] [(.ref a1)])) rfl (by rw [hml]; rfl) rfl (hb hby d6_1) (by decide) (W := 0) (by show 2 * 0 + _ ≤ _; exact Nat.le_of_eq rfl) (by decide)
  refine own_by (S' := (T13.setTop (mkF m 4 #[.val (.ref a1)] []))) st13 ?_
  exact own_ret0 X13 hx Bd.returns (hb hby d6_4) hlk (by decide : 0 ≤ _) (by decide : 0 ≤ _) (by rw [e13]; exact ⟨rfl, N, rfl⟩)
theorem d8_0 : decode jdk_33_method_23_code 0 = .ok (.aload_n 0, 1) := by decide +kernel
theorem d8_1 : decode jdk_33_method_23_code 1 = .ok (.invokespecial 202, 3) := by decide +kernel
theorem d8_4 : decode jdk_33_method_23_code 4 = .ok (.aload_n 0, 1) := by decide +kernel
theorem d8_5 : decode jdk_33_method_23_code 5 = .ok (.iload_n 1, 1) := by decide +kernel
theorem d8_6 : decode jdk_33_method_23_code 6 = .ok (.putfield 205, 3) := by decide +kernel
theorem d8_9 : decode jdk_33_method_23_code 9 = .ok (.return_, 1) := by decide +kernel
theorem pn_8 : plainName "java/lang/Integer" = true := by first | (simp [plainName, overriddenIn]; done) | decide +kernel
theorem ef_rm8 (m : MethodId) (x0 : Addr) (x1 : Int32) : entryFrame m #[(.ref x0), (.int x1)] 2 = mkF m 0 #[.val (.ref x0), .val (.int x1)] [] := by first | (simp [entryFrame, mkF, argsToLocals, Value.category]; done) | rfl
def Q_rm8 (Z : State) (a1 : Addr) (p1 : Int32) (h0 : Heap) (n0 : Nat) (v : Option Value) (h : Heap) (L : List Loc) : Prop := v = none ∧ Fr n0 L ∧ Keep h0 h [a1]
theorem pd__28_29V : parseMethodDescriptor "()V" = some ⟨[], none⟩ := by decide +kernel
set_option maxRecDepth 65536 in
set_option maxHeartbeats 40000000 in
theorem rm8 (l : Launch) (Z : State) (a0 : Array Value) (hw : ∀ d ∈ tables_1, d.before a0 Z = true) (ws : List Jvm.Cond) (a1 : Addr) (p1 : Int32) (h0 : Heap) (n0 : Nat) (Zn : n0 ≤ h0.size) (E_a1 : Exa Z h0 a1 "java/lang/Integer") (F_v : Fld Z h0 a1 "java/lang/Integer" "value" "I" (.int (0 : Int32))) (o_a1 : n0 ≤ a1) :
    MetFree l (⟨"java/lang/Integer", "<init>", "(I)V"⟩ : MethodName) (head1 (Jvm.Cond.code (⟨"java/lang/Integer", "<init>", "(I)V"⟩ : MethodName) jdk_33_method_23_code 2 none :: ws) ({ frames := 2, cells := 0, slots := 0, locals := 24 } : Room)) (fun a U => a = #[(.ref a1), (.int p1)] ∧ Z.Warmed39 U.vm ∧ U.heap = h0) (fun _ _ _ _ _ => True) (fun _ U o U' => ∃ v L, o = .returned v ∧ (Q_rm8 Z a1 p1 h0 n0) v U'.heap L ∧ FrameEnd U o U' L ({ frames := 2, cells := 0, slots := 0, locals := 24 } : Room).cells ({ frames := 2, cells := 0, slots := 0, locals := 24 } : Room).slots) := by
  refine MetFree.of_bodySF (plainFor_of_name pn_8) hisR ?_
  intro p e s m args below meth c s₁ Bd hml0 hP hK
  obtain ⟨rfl, hZ, hh⟩ := hP
  have hx := Bd.exec
  have hby := Bd.bytes
  have hml : c.maxLocals = 2 := hml0
  have hown : s.vm.findClass "java/lang/Integer" = some m.cls := findClass_of_methodNamed Bd.named
  have hnm := (name_of_methodNamed Bd.named Bd.method).1
  have hlk : meth.locks = false := BodyLoose.notSynchronized Bd
  have X0 : Stand p l e ({ frames := 2, cells := 0, slots := 0, locals := 24 } : Room) s m #[(.ref a1), (.int p1)] below meth c s₁ [] 0 0 := Stand.of_body Bd
  have e0 : s₁.heap = h0 := by rw [← hh, Bd.state]; rfl
  have N := Fr.nil n0
  have K := Keep.refl h0 [a1]
  refine own_start (cl := ({ frames := 2, cells := 0, slots := 0, locals := 24 } : Room).cells) (sl := ({ frames := 2, cells := 0, slots := 0, locals := 24 } : Room).slots) (Q := (Q_rm8 Z a1 p1 h0 n0)) (ef_rm8 m a1 p1) ?_
  refine own_by (S' := (s₁.setTop (mkF m 1 #[.val (.ref a1), .val (.int p1)] [(.ref a1)]))) (fun _ k => XS.aloadN X0.here hx rfl (hb hby d8_0) rfl rfl k) ?_
  obtain ⟨_, _, ⟨T14, L14, k14, n14⟩, -, X14, ⟨Lc14, hQ14, l14, y14, z14⟩, st14⟩ := X0.specialBack hx (y := (⟨"java/lang/Number", "<init>", "()V"⟩ : MethodName)) rfl hown (mvT hZ (hw _ (List.mem_of_getElem? (i := 56) rfl))) (mvT hZ (hw _ (List.mem_of_getElem? (i := 33) rfl))) (mvT hZ (hw _ (List.mem_of_getElem? (i := 37) rfl))) (by decide) (backOf (W := 0) (rm6 l Z a0 hw [] a1 h0 n0 Zn) hZ (hw _ (List.mem_of_getElem? (i := 37) rfl)) (hw _ (List.mem_of_getElem? (i := 36) rfl)) (by decide) (by decide)) (g := (mkF m 1 #[.val (.ref a1), .val (.int p1)] [(.ref a1)])) rfl (by rw [hml]; rfl) (Steps.refl _) (a := a1) (argsL := []) (rest := []) (lenOf pd__28_29V rfl) rfl (by show 2 * 0 + _ ≤ _; exact Nat.le_of_eq rfl) (hb hby d8_1) (fun _ _ => ⟨rfl, e0, (by decide : 0 + 0 ≤ _), (by decide : 0 + 0 ≤ _)⟩)
  dsimp only [Pt.U, Pt.locs, Pt.cells, Pt.slots] at X14 l14 y14 z14 st14 hQ14
  subst l14 y14 z14
  obtain ⟨rfl, N14q, eh⟩ := hQ14
  have N := Fr.app N N14q
  refine own_tr (S' := (T14.setTop (mkF m 4 #[.val (.ref a1), .val (.int p1)] []))) st14 ?_
  refine own_by (S' := (T14.setTop (mkF m 5 #[.val (.ref a1), .val (.int p1)] [(.ref a1)]))) (fun _ k => XS.aloadN X14.here hx rfl (hb hby d8_4) rfl rfl k) ?_
  refine own_by (S' := (T14.setTop (mkF m 6 #[.val (.ref a1), .val (.int p1)] [(.int p1), (.ref a1)]))) (fun _ k => XS.iloadN X14.here hx rfl (hb hby d8_5) rfl k) ?_
  obtain ⟨T15, h15, X15, e15, W15, st15⟩ := putF X14 hx hZ hown (host := "") (Or.inl (hw _ (List.mem_of_getElem? (i := 58) rfl))) Via.refl eh F_v E_a1 (Or.inr ⟨(hw _ (List.mem_of_getElem? (i := 59) rfl)), rfl, hnm⟩) (hw _ (List.mem_of_getElem? (i := 51) rfl)) (ty := .int) (by decide) rfl rfl (g := (mkF m 6 #[.val (.ref a1), .val (.int p1)] [(.int p1), (.ref a1)])) rfl rfl (hb hby d8_6)
  have N := Fr.snoc X15 N o_a1
  have E_a1 := E_a1.wr W15
  have F_v := F_v.same W15
  have Zn : n0 ≤ _ := Nat.le_trans Zn (Nat.le_of_eq W15.size.symm)
  have K := K.wr W15 (Or.inl (List.mem_of_getElem? (i := 0) rfl))
  refine own_by (S' := (T15.setTop (mkF m 9 #[.val (.ref a1), .val (.int p1)] []))) st15 ?_
  exact own_ret0 X15 hx Bd.returns (hb hby d8_9) hlk (by decide : 0 ≤ _) (by decide : 0 ≤ _) (by rw [e15]; exact ⟨rfl, N, K⟩)
theorem d5_0 : decode jdk_35_method_26_code 0 = .ok (.aload_n 0, 1) := by decide +kernel
theorem d5_1 : decode jdk_35_method_26_code 1 = .ok (.invokespecial 270, 3) := by decide +kernel
theorem d5_4 : decode jdk_35_method_26_code 4 = .ok (.aload_n 0, 1) := by decide +kernel
theorem d5_5 : decode jdk_35_method_26_code 5 = .ok (.lload_n 1, 1) := by decide +kernel
theorem d5_6 : decode jdk_35_method_26_code 6 = .ok (.putfield 273, 3) := by decide +kernel
theorem d5_9 : decode jdk_35_method_26_code 9 = .ok (.return_, 1) := by decide +kernel
theorem pn_5 : plainName "java/lang/Long" = true := by first | (simp [plainName, overriddenIn]; done) | decide +kernel
theorem ef_rm5 (m : MethodId) (x0 : Addr) (x1 : Int64) : entryFrame m #[(.ref x0), (.long x1)] 3 = mkF m 0 #[.val (.ref x0), .val (.long x1), .second] [] := by first | (simp [entryFrame, mkF, argsToLocals, Value.category]; done) | rfl
def Q_rm5 (Z : State) (a1 : Addr) (p1 : Int64) (h0 : Heap) (n0 : Nat) (v : Option Value) (h : Heap) (L : List Loc) : Prop := v = none ∧ Fr n0 L ∧ Keep h0 h [a1]
set_option maxRecDepth 65536 in
set_option maxHeartbeats 40000000 in
theorem rm5 (l : Launch) (Z : State) (a0 : Array Value) (hw : ∀ d ∈ tables_1, d.before a0 Z = true) (ws : List Jvm.Cond) (a1 : Addr) (p1 : Int64) (h0 : Heap) (n0 : Nat) (Zn : n0 ≤ h0.size) (E_a1 : Exa Z h0 a1 "java/lang/Long") (F_v : Fld Z h0 a1 "java/lang/Long" "value" "J" (.long (0 : Int64))) (o_a1 : n0 ≤ a1) :
    MetFree l (⟨"java/lang/Long", "<init>", "(J)V"⟩ : MethodName) (head1 (Jvm.Cond.code (⟨"java/lang/Long", "<init>", "(J)V"⟩ : MethodName) jdk_35_method_26_code 3 none :: ws) ({ frames := 2, cells := 0, slots := 0, locals := 24 } : Room)) (fun a U => a = #[(.ref a1), (.long p1)] ∧ Z.Warmed39 U.vm ∧ U.heap = h0) (fun _ _ _ _ _ => True) (fun _ U o U' => ∃ v L, o = .returned v ∧ (Q_rm5 Z a1 p1 h0 n0) v U'.heap L ∧ FrameEnd U o U' L ({ frames := 2, cells := 0, slots := 0, locals := 24 } : Room).cells ({ frames := 2, cells := 0, slots := 0, locals := 24 } : Room).slots) := by
  refine MetFree.of_bodySF (plainFor_of_name pn_5) hisR ?_
  intro p e s m args below meth c s₁ Bd hml0 hP hK
  obtain ⟨rfl, hZ, hh⟩ := hP
  have hx := Bd.exec
  have hby := Bd.bytes
  have hml : c.maxLocals = 3 := hml0
  have hown : s.vm.findClass "java/lang/Long" = some m.cls := findClass_of_methodNamed Bd.named
  have hnm := (name_of_methodNamed Bd.named Bd.method).1
  have hlk : meth.locks = false := BodyLoose.notSynchronized Bd
  have X0 : Stand p l e ({ frames := 2, cells := 0, slots := 0, locals := 24 } : Room) s m #[(.ref a1), (.long p1)] below meth c s₁ [] 0 0 := Stand.of_body Bd
  have e0 : s₁.heap = h0 := by rw [← hh, Bd.state]; rfl
  have N := Fr.nil n0
  have K := Keep.refl h0 [a1]
  refine own_start (cl := ({ frames := 2, cells := 0, slots := 0, locals := 24 } : Room).cells) (sl := ({ frames := 2, cells := 0, slots := 0, locals := 24 } : Room).slots) (Q := (Q_rm5 Z a1 p1 h0 n0)) (ef_rm5 m a1 p1) ?_
  refine own_by (S' := (s₁.setTop (mkF m 1 #[.val (.ref a1), .val (.long p1), .second] [(.ref a1)]))) (fun _ k => XS.aloadN X0.here hx rfl (hb hby d5_0) rfl rfl k) ?_
  obtain ⟨_, _, ⟨T16, L16, k16, n16⟩, -, X16, ⟨Lc16, hQ16, l16, y16, z16⟩, st16⟩ := X0.specialBack hx (y := (⟨"java/lang/Number", "<init>", "()V"⟩ : MethodName)) rfl hown (mvT hZ (hw _ (List.mem_of_getElem? (i := 32) rfl))) (mvT hZ (hw _ (List.mem_of_getElem? (i := 33) rfl))) (mvT hZ (hw _ (List.mem_of_getElem? (i := 37) rfl))) (by decide) (backOf (W := 0) (rm6 l Z a0 hw [] a1 h0 n0 Zn) hZ (hw _ (List.mem_of_getElem? (i := 37) rfl)) (hw _ (List.mem_of_getElem? (i := 36) rfl)) (by decide) (by decide)) (g := (mkF m 1 #[.val (.ref a1), .val (.long p1), .second] [(.ref a1)])) rfl (by rw [hml]; rfl) (Steps.refl _) (a := a1) (argsL := []) (rest := []) (lenOf pd__28_29V rfl) rfl (by show 2 * 0 + _ ≤ _; exact Nat.le_of_eq rfl) (hb hby d5_1) (fun _ _ => ⟨rfl, e0, (by decide : 0 + 0 ≤ _), (by decide : 0 + 0 ≤ _)⟩)
  dsimp only [Pt.U, Pt.locs, Pt.cells, Pt.slots] at X16 l16 y16 z16 st16 hQ16
  subst l16 y16 z16
  obtain ⟨rfl, N16q, eh⟩ := hQ16
  have N := Fr.app N N16q
  refine own_tr (S' := (T16.setTop (mkF m 4 #[.val (.ref a1), .val (.long p1), .second] []))) st16 ?_
  refine own_by (S' := (T16.setTop (mkF m 5 #[.val (.ref a1), .val (.long p1), .second] [(.ref a1)]))) (fun _ k => XS.aloadN X16.here hx rfl (hb hby d5_4) rfl rfl k) ?_
  refine own_by (S' := (T16.setTop (mkF m 6 #[.val (.ref a1), .val (.long p1), .second] [(.long p1), (.ref a1)]))) (fun _ k => XS.lloadN X16.here hx rfl (hb hby d5_5) rfl k) ?_
  obtain ⟨T17, h17, X17, e17, W17, st17⟩ := putF X16 hx hZ hown (host := "") (Or.inl (hw _ (List.mem_of_getElem? (i := 39) rfl))) Via.refl eh F_v E_a1 (Or.inr ⟨(hw _ (List.mem_of_getElem? (i := 40) rfl)), rfl, hnm⟩) (hw _ (List.mem_of_getElem? (i := 27) rfl)) (ty := .long) (by decide) rfl rfl (g := (mkF m 6 #[.val (.ref a1), .val (.long p1), .second] [(.long p1), (.ref a1)])) rfl rfl (hb hby d5_6)
  have N := Fr.snoc X17 N o_a1
  have E_a1 := E_a1.wr W17
  have F_v := F_v.same W17
  have Zn : n0 ≤ _ := Nat.le_trans Zn (Nat.le_of_eq W17.size.symm)
  have K := K.wr W17 (Or.inl (List.mem_of_getElem? (i := 0) rfl))
  refine own_by (S' := (T17.setTop (mkF m 9 #[.val (.ref a1), .val (.long p1), .second] []))) st17 ?_
  exact own_ret0 X17 hx Bd.returns (hb hby d5_9) hlk (by decide : 0 ≤ _) (by decide : 0 ≤ _) (by rw [e17]; exact ⟨rfl, N, K⟩)
theorem d7_0 : decode jdk_33_method_22_code 0 = .ok (.iload_n 0, 1) := by decide +kernel
theorem d7_1 : decode jdk_33_method_22_code 1 = .ok (.bipush (-128), 2) := by decide +kernel
theorem d7_3 : decode jdk_33_method_22_code 3 = .ok (.if_icmp .lt 20, 3) := by decide +kernel
theorem d7_6 : decode jdk_33_method_22_code 6 = .ok (.iload_n 0, 1) := by decide +kernel
theorem d7_7 : decode jdk_33_method_22_code 7 = .ok (.getstatic 191, 3) := by decide +kernel
theorem d7_10 : decode jdk_33_method_22_code 10 = .ok (.if_icmp .gt 13, 3) := by decide +kernel
theorem d7_13 : decode jdk_33_method_22_code 13 = .ok (.getstatic 195, 3) := by decide +kernel
theorem d7_16 : decode jdk_33_method_22_code 16 = .ok (.iload_n 0, 1) := by decide +kernel
theorem d7_17 : decode jdk_33_method_22_code 17 = .ok (.sipush 128, 3) := by decide +kernel
theorem d7_20 : decode jdk_33_method_22_code 20 = .ok (.iadd, 1) := by decide +kernel
theorem d7_21 : decode jdk_33_method_22_code 21 = .ok (.aaload, 1) := by decide +kernel
theorem d7_22 : decode jdk_33_method_22_code 22 = .ok (.areturn, 1) := by decide +kernel
theorem d7_23 : decode jdk_33_method_22_code 23 = .ok (.new 1, 3) := by decide +kernel
theorem d7_26 : decode jdk_33_method_22_code 26 = .ok (.dup, 1) := by decide +kernel
theorem d7_27 : decode jdk_33_method_22_code 27 = .ok (.iload_n 0, 1) := by decide +kernel
theorem d7_28 : decode jdk_33_method_22_code 28 = .ok (.invokespecial 199, 3) := by decide +kernel
theorem d7_31 : decode jdk_33_method_22_code 31 = .ok (.areturn, 1) := by decide +kernel
theorem pn_7 : plainName "java/lang/Integer" = true := by first | (simp [plainName, overriddenIn]; done) | decide +kernel
theorem ef_rm7 (m : MethodId) (x0 : Int32) : entryFrame m #[(.int x0)] 1 = mkF m 0 #[.val (.int x0)] [] := by first | (simp [entryFrame, mkF, argsToLocals, Value.category]; done) | rfl
def Q_rm7 (Z : State) (p1 : Int32) (ca : Addr) (vs : List Value) (h0 : Heap) (n0 : Nat) (v : Option Value) (h : Heap) (L : List Loc) : Prop := ∃ b : Addr, v = some (.ref b) ∧ Fr n0 L ∧ Keep h0 h [] ∧ Exa Z h b "java/lang/Integer"
theorem pd__28I_29V : parseMethodDescriptor "(I)V" = some ⟨[.int], none⟩ := by decide +kernel
set_option maxRecDepth 65536 in
set_option maxHeartbeats 40000000 in
theorem rm7 (l : Launch) (Z : State) (a0 : Array Value) (hw : ∀ d ∈ tables_1, d.before a0 Z = true) (ws : List Jvm.Cond) (p1 : Int32) (ca : Addr) (vs : List Value) (h0 : Heap) (n0 : Nat) (Zn : n0 ≤ h0.size) (SH : Sta Z h0 "java/lang/Integer$IntegerCache" "high" "I" (.int (127 : Int32))) (SC : Sta Z h0 "java/lang/Integer$IntegerCache" "cache" "[Ljava/lang/Integer;" (.ref ca)) (AC : OwnA Z h0 ca (.object "java/lang/Integer") vs) (hel : ¬ p1 < (-128 : Int32) → ¬ (127 : Int32) < p1 → ¬ (p1 + (128 : Int32)) < 0 ∧ ∃ b, vs[(p1 + (128 : Int32)).toNatClampNeg]? = some (.ref b) ∧ Exa Z h0 b "java/lang/Integer") :
    MetFree l (⟨"java/lang/Integer", "valueOf", "(I)Ljava/lang/Integer;"⟩ : MethodName) (head1 (Jvm.Cond.code (⟨"java/lang/Integer", "valueOf", "(I)Ljava/lang/Integer;"⟩ : MethodName) jdk_33_method_22_code 1 (some (.object "java/lang/Integer")) :: ws) ({ frames := 3, cells := 1, slots := 1, locals := 38 } : Room)) (fun a U => a = #[(.int p1)] ∧ Z.Warmed39 U.vm ∧ U.heap = h0) (fun _ _ _ _ _ => True) (fun _ U o U' => ∃ v L, o = .returned v ∧ (Q_rm7 Z p1 ca vs h0 n0) v U'.heap L ∧ FrameEnd U o U' L ({ frames := 3, cells := 1, slots := 1, locals := 38 } : Room).cells ({ frames := 3, cells := 1, slots := 1, locals := 38 } : Room).slots) := by
  refine MetFree.of_bodySF (plainFor_of_name pn_7) hisR ?_
  intro p e s m args below meth c s₁ Bd hml0 hP hK
  obtain ⟨rfl, hZ, hh⟩ := hP
  have hx := Bd.exec
  have hby := Bd.bytes
  have hml : c.maxLocals = 1 := hml0
  have hown : s.vm.findClass "java/lang/Integer" = some m.cls := findClass_of_methodNamed Bd.named
  have hnm := (name_of_methodNamed Bd.named Bd.method).1
  have hlk : meth.locks = false := BodyLoose.notSynchronized Bd
  have X0 : Stand p l e ({ frames := 3, cells := 1, slots := 1, locals := 38 } : Room) s m #[(.int p1)] below meth c s₁ [] 0 0 := Stand.of_body Bd
  have e0 : s₁.heap = h0 := by rw [← hh, Bd.state]; rfl
  have N := Fr.nil n0
  have K := Keep.refl h0 []
  refine own_start (cl := ({ frames := 3, cells := 1, slots := 1, locals := 38 } : Room).cells) (sl := ({ frames := 3, cells := 1, slots := 1, locals := 38 } : Room).slots) (Q := (Q_rm7 Z p1 ca vs h0 n0)) (ef_rm7 m p1) ?_
  refine own_by (S' := (s₁.setTop (mkF m 1 #[.val (.int p1)] [(.int p1)]))) (fun _ k => XS.iloadN X0.here hx rfl (hb hby d7_0) rfl k) ?_
  refine own_by (S' := (s₁.setTop (mkF m 3 #[.val (.int p1)] [(.int (-128 : Int32)), (.int p1)]))) (fun _ k => XS.bipush X0.here hx rfl (hb hby d7_1) k) ?_
  by_cases hc1 : p1 < (-128 : Int32)
  · refine own_by (S' := (s₁.setTop (mkF m 23 #[.val (.int p1)] []))) (fun _ k => XS.icmpYes X0.here hx rfl (pc0 := 3) (pc' := 23) rfl (hb hby d7_3) rfl (tlt (hc1 : p1 < (-128 : Int32))).1 (by decide) (by decide) k) ?_
    obtain ⟨T18, h18, X18, e18, E18, A18, D18, -, st18⟩ := newO X0 hx hZ hown (hw _ (List.mem_of_getElem? (i := 50) rfl)) (hw _ (List.mem_of_getElem? (i := 51) rfl)) (hw _ (List.mem_of_getElem? (i := 46) rfl)) e0 (g := (mkF m 23 #[.val (.int p1)] [])) rfl (hb hby d7_23) (by decide : 0 + 1 ≤ _) (by decide : 0 + 1 ≤ _)
    obtain ⟨b18, g18⟩ : ∃ z, z = h0.size := ⟨_, rfl⟩
    rw [← g18] at A18 D18 st18
    have o18 : n0 ≤ b18 := Nat.le_trans Zn (Nat.le_of_eq g18.symm)
    have z18 : h0.size ≤ b18 := Nat.le_trans K.1 (Nat.le_of_eq g18.symm)
    have Zn := Nat.le_trans Zn E18.1
    have K := K.ext E18
    have E_b18 := A18
    have F_b18_value : Fld Z h18 b18 "java/lang/Integer" "value" "I" (.int (0 : Int32)) := D18 (Or.inr (hw _ (List.mem_of_getElem? (i := 59) rfl))) (ty := .int) (by decide)
    refine own_by (S' := (T18.setTop (mkF m 26 #[.val (.int p1)] [(.ref b18)]))) st18 ?_
    refine own_by (S' := (T18.setTop (mkF m 27 #[.val (.int p1)] [(.ref b18), (.ref b18)]))) (fun _ k => XS.dup X18.here hx rfl (hb hby d7_26) rfl rfl k) ?_
    refine own_by (S' := (T18.setTop (mkF m 28 #[.val (.int p1)] [(.int p1), (.ref b18), (.ref b18)]))) (fun _ k => XS.iloadN X18.here hx rfl (hb hby d7_27) rfl k) ?_
    obtain ⟨_, _, ⟨T19, L19, k19, n19⟩, -, X19, ⟨Lc19, hQ19, l19, y19, z19⟩, st19⟩ := X18.specialBack hx (y := (⟨"java/lang/Integer", "<init>", "(I)V"⟩ : MethodName)) rfl hown (mvT hZ (hw _ (List.mem_of_getElem? (i := 52) rfl))) (mvT hZ (hw _ (List.mem_of_getElem? (i := 53) rfl))) (mvT hZ (hw _ (List.mem_of_getElem? (i := 55) rfl))) (by decide) (backOf (W := 1) (rm8 l Z a0 hw [] b18 p1 h18 n0 Zn E_b18 F_b18_value o18) hZ (hw _ (List.mem_of_getElem? (i := 55) rfl)) (hw _ (List.mem_of_getElem? (i := 46) rfl)) (by decide) (by decide)) (g := (mkF m 28 #[.val (.int p1)] [(.int p1), (.ref b18), (.ref b18)])) rfl (by rw [hml]; rfl) (Steps.refl _) (a := b18) (argsL := [(.int p1)]) (rest := [(.ref b18)]) (lenOf pd__28I_29V rfl) rfl (by show 2 * 0 + _ ≤ _; exact Nat.le_of_eq rfl) (hb hby d7_28) (fun _ _ => ⟨rfl, e18, (by decide : 1 + 0 ≤ _), (by decide : 1 + 0 ≤ _)⟩)
    dsimp only [Pt.U, Pt.locs, Pt.cells, Pt.slots] at X19 l19 y19 z19 st19 hQ19
    subst l19 y19 z19
    obtain ⟨rfl, N19q, Kc⟩ := hQ19
    have N := Fr.app N N19q
    have E_b18 := E_b18.keep Kc
    have Zn : n0 ≤ _ := Nat.le_trans Zn Kc.1
    have K := K.trans Kc (allS (Or.inr z18) all0)
    refine own_tr (S' := (T19.setTop (mkF m 31 #[.val (.int p1)] [(.ref b18)]))) st19 ?_
    exact own_ret X19 hx (t := (.object "java/lang/Integer")) Bd.returns rfl (Or.inr (Or.inr (Or.inr (Or.inr ⟨rfl, rfl, rfl⟩)))) (hb hby d7_31) hlk (by decide : 1 ≤ _) (by decide : 1 ≤ _) (⟨b18, rfl, N, K, E_b18⟩)
  · refine own_by (S' := (s₁.setTop (mkF m 6 #[.val (.int p1)] []))) (fun _ k => XS.icmpNo X0.here hx rfl (hb hby d7_3) rfl (flt (hc1 : ¬ (p1 < (-128 : Int32)))).1 k) ?_
    refine own_by (S' := (s₁.setTop (mkF m 7 #[.val (.int p1)] [(.int p1)]))) (fun _ k => XS.iloadN X0.here hx rfl (hb hby d7_6) rfl k) ?_
    obtain ⟨T20, X20, e20, st20⟩ := getS2 X0 hx hZ hown (host := "") (Or.inl (hw _ (List.mem_of_getElem? (i := 48) rfl))) Via.refl e0 SH (g := (mkF m 7 #[.val (.int p1)] [(.int p1)])) rfl (hb hby d7_7)
    refine own_by (S' := (T20.setTop (mkF m 10 #[.val (.int p1)] [(.int (127 : Int32)), (.int p1)]))) st20 ?_
    by_cases hc2 : (127 : Int32) < p1
    · refine own_by (S' := (T20.setTop (mkF m 23 #[.val (.int p1)] []))) (fun _ k => XS.icmpYes X20.here hx rfl (pc0 := 10) (pc' := 23) rfl (hb hby d7_10) rfl (tlt (hc2 : (127 : Int32) < p1)).2.2.1 (by decide) (by decide) k) ?_
      obtain ⟨T21, h21, X21, e21, E21, A21, D21, -, st21⟩ := newO X20 hx hZ hown (hw _ (List.mem_of_getElem? (i := 50) rfl)) (hw _ (List.mem_of_getElem? (i := 51) rfl)) (hw _ (List.mem_of_getElem? (i := 46) rfl)) e20 (g := (mkF m 23 #[.val (.int p1)] [])) rfl (hb hby d7_23) (by decide : 0 + 1 ≤ _) (by decide : 0 + 1 ≤ _)
      obtain ⟨b21, g21⟩ : ∃ z, z = h0.size := ⟨_, rfl⟩
      rw [← g21] at A21 D21 st21
      have o21 : n0 ≤ b21 := Nat.le_trans Zn (Nat.le_of_eq g21.symm)
      have z21 : h0.size ≤ b21 := Nat.le_trans K.1 (Nat.le_of_eq g21.symm)
      have Zn := Nat.le_trans Zn E21.1
      have K := K.ext E21
      have E_b21 := A21
      have F_b21_value : Fld Z h21 b21 "java/lang/Integer" "value" "I" (.int (0 : Int32)) := D21 (Or.inr (hw _ (List.mem_of_getElem? (i := 59) rfl))) (ty := .int) (by decide)
      refine own_by (S' := (T21.setTop (mkF m 26 #[.val (.int p1)] [(.ref b21)]))) st21 ?_
      refine own_by (S' := (T21.setTop (mkF m 27 #[.val (.int p1)] [(.ref b21), (.ref b21)]))) (fun _ k => XS.dup X21.here hx rfl (hb hby d7_26) rfl rfl k) ?_
      refine own_by (S' := (T21.setTop (mkF m 28 #[.val (.int p1)] [(.int p1), (.ref b21), (.ref b21)]))) (fun _ k => XS.iloadN X21.here hx rfl (hb hby d7_27) rfl k) ?_
      obtain ⟨_, _, ⟨T22, L22, k22, n22⟩, -, X22, ⟨Lc22, hQ22, l22, y22, z22⟩, st22⟩ := X21.specialBack hx (y := (⟨"java/lang/Integer", "<init>", "(I)V"⟩ : MethodName)) rfl hown (mvT hZ (hw _ (List.mem_of_getElem? (i := 52) rfl))) (mvT hZ (hw _ (List.mem_of_getElem? (i := 53) rfl))) (mvT hZ (hw _ (List.mem_of_getElem? (i := 55) rfl))) (by decide) (backOf (W := 1) (rm8 l Z a0 hw [] b21 p1 h21 n0 Zn E_b21 F_b21_value o21) hZ (hw _ (List.mem_of_getElem? (i := 55) rfl)) (hw _ (List.mem_of_getElem? (i := 46) rfl)) (by decide) (by decide)) (g := (mkF m 28 #[.val (.int p1)] [(.int p1), (.ref b21), (.ref b21)])) rfl (by rw [hml]; rfl) (Steps.refl _) (a := b21) (argsL := [(.int p1)]) (rest := [(.ref b21)]) (lenOf pd__28I_29V rfl) rfl (by show 2 * 0 + _ ≤ _; exact Nat.le_of_eq rfl) (hb hby d7_28) (fun _ _ => ⟨rfl, e21, (by decide : 1 + 0 ≤ _), (by decide : 1 + 0 ≤ _)⟩)
      dsimp only [Pt.U, Pt.locs, Pt.cells, Pt.slots] at X22 l22 y22 z22 st22 hQ22
      subst l22 y22 z22
      obtain ⟨rfl, N22q, Kc⟩ := hQ22
      have N := Fr.app N N22q
      have E_b21 := E_b21.keep Kc
      have Zn : n0 ≤ _ := Nat.le_trans Zn Kc.1
      have K := K.trans Kc (allS (Or.inr z21) all0)
      refine own_tr (S' := (T22.setTop (mkF m 31 #[.val (.int p1)] [(.ref b21)]))) st22 ?_
      exact own_ret X22 hx (t := (.object "java/lang/Integer")) Bd.returns rfl (Or.inr (Or.inr (Or.inr (Or.inr ⟨rfl, rfl, rfl⟩)))) (hb hby d7_31) hlk (by decide : 1 ≤ _) (by decide : 1 ≤ _) (⟨b21, rfl, N, K, E_b21⟩)
    · refine own_by (S' := (T20.setTop (mkF m 13 #[.val (.int p1)] []))) (fun _ k => XS.icmpNo X20.here hx rfl (hb hby d7_10) rfl (flt (hc2 : ¬ ((127 : Int32) < p1))).2.2.1 k) ?_
      obtain ⟨hj, bx, hbx, Ebx⟩ := hel hc1 hc2
      obtain ⟨T23, X23, e23, st23⟩ := getS2 X20 hx hZ hown (host := "") (Or.inl (hw _ (List.mem_of_getElem? (i := 61) rfl))) Via.refl e20 SC (g := (mkF m 13 #[.val (.int p1)] [])) rfl (hb hby d7_13)
      refine own_by (S' := (T23.setTop (mkF m 16 #[.val (.int p1)] [(.ref ca)]))) st23 ?_
      refine own_by (S' := (T23.setTop (mkF m 17 #[.val (.int p1)] [(.int p1), (.ref ca)]))) (fun _ k => XS.iloadN X23.here hx rfl (hb hby d7_16) rfl k) ?_
      refine own_by (S' := (T23.setTop (mkF m 20 #[.val (.int p1)] [(.int (128 : Int32)), (.int p1), (.ref ca)]))) (fun _ k => XS.sipush X23.here hx rfl (hb hby d7_17) k) ?_
      refine own_by (S' := (T23.setTop (mkF m 21 #[.val (.int p1)] [(.int (p1 + (128 : Int32))), (.ref ca)]))) (fun _ k => XS.iadd X23.here hx rfl (hb hby d7_20) rfl k) ?_
      refine own_by (S' := (T23.setTop (mkF m 22 #[.val (.int p1)] [(.ref bx)]))) (fun _ k => own_aaload X23 hx hZ e23 AC rfl hj (v := (.ref bx)) hbx (g := (mkF m 21 #[.val (.int p1)] [(.int (p1 + (128 : Int32))), (.ref ca)])) rfl rfl (hb hby d7_21) _ k) ?_
      exact own_ret X23 hx (t := (.object "java/lang/Integer")) Bd.returns rfl (Or.inr (Or.inr (Or.inr (Or.inr ⟨rfl, rfl, rfl⟩)))) (hb hby d7_22) hlk (by decide : 0 ≤ _) (by decide : 0 ≤ _) (by rw [e23]; exact ⟨bx, rfl, N, K, Ebx⟩)
theorem d4_0 : decode jdk_35_method_24_code 0 = .ok (.sipush 128, 3) := by decide +kernel
theorem d4_3 : decode jdk_35_method_24_code 3 = .ok (.istore_n 2, 1) := by decide +kernel
theorem d4_4 : decode jdk_35_method_24_code 4 = .ok (.lload_n 0, 1) := by decide +kernel
theorem d4_5 : decode jdk_35_method_24_code 5 = .ok (.ldc2_w 230, 3) := by decide +kernel
theorem d4_8 : decode jdk_35_method_24_code 8 = .ok (.lcmp, 1) := by decide +kernel
theorem d4_9 : decode jdk_35_method_24_code 9 = .ok (.ifCond .lt 22, 3) := by decide +kernel
theorem d4_12 : decode jdk_35_method_24_code 12 = .ok (.lload_n 0, 1) := by decide +kernel
theorem d4_13 : decode jdk_35_method_24_code 13 = .ok (.ldc2_w 232, 3) := by decide +kernel
theorem d4_16 : decode jdk_35_method_24_code 16 = .ok (.lcmp, 1) := by decide +kernel
theorem d4_17 : decode jdk_35_method_24_code 17 = .ok (.ifCond .gt 14, 3) := by decide +kernel
theorem d4_20 : decode jdk_35_method_24_code 20 = .ok (.getstatic 234, 3) := by decide +kernel
theorem d4_23 : decode jdk_35_method_24_code 23 = .ok (.lload_n 0, 1) := by decide +kernel
theorem d4_24 : decode jdk_35_method_24_code 24 = .ok (.l2i, 1) := by decide +kernel
theorem d4_25 : decode jdk_35_method_24_code 25 = .ok (.sipush 128, 3) := by decide +kernel
theorem d4_28 : decode jdk_35_method_24_code 28 = .ok (.iadd, 1) := by decide +kernel
theorem d4_29 : decode jdk_35_method_24_code 29 = .ok (.aaload, 1) := by decide +kernel
theorem d4_30 : decode jdk_35_method_24_code 30 = .ok (.areturn, 1) := by decide +kernel
theorem d4_31 : decode jdk_35_method_24_code 31 = .ok (.new 1, 3) := by decide +kernel
theorem d4_34 : decode jdk_35_method_24_code 34 = .ok (.dup, 1) := by decide +kernel
theorem d4_35 : decode jdk_35_method_24_code 35 = .ok (.lload_n 0, 1) := by decide +kernel
theorem d4_36 : decode jdk_35_method_24_code 36 = .ok (.invokespecial 240, 3) := by decide +kernel
theorem d4_39 : decode jdk_35_method_24_code 39 = .ok (.areturn, 1) := by decide +kernel
theorem pn_4 : plainName "java/lang/Long" = true := by first | (simp [plainName, overriddenIn]; done) | decide +kernel
theorem ef_rm4 (m : MethodId) (x0 : Int64) : entryFrame m #[(.long x0)] 3 = mkF m 0 #[.val (.long x0), .second, .unset] [] := by first | (simp [entryFrame, mkF, argsToLocals, Value.category]; done) | rfl
def Q_rm4 (Z : State) (p1 : Int64) (ca : Addr) (vs : List Value) (h0 : Heap) (n0 : Nat) (v : Option Value) (h : Heap) (L : List Loc) : Prop := ∃ b : Addr, v = some (.ref b) ∧ Fr n0 L ∧ Keep h0 h [] ∧ Exa Z h b "java/lang/Long"
theorem pd__28J_29V : parseMethodDescriptor "(J)V" = some ⟨[.long], none⟩ := by decide +kernel
set_option maxRecDepth 65536 in
set_option maxHeartbeats 40000000 in
theorem rm4 (l : Launch) (Z : State) (a0 : Array Value) (hw : ∀ d ∈ tables_1, d.before a0 Z = true) (ws : List Jvm.Cond) (p1 : Int64) (ca : Addr) (vs : List Value) (h0 : Heap) (n0 : Nat) (Zn : n0 ≤ h0.size) (SC : Sta Z h0 "java/lang/Long$LongCache" "cache" "[Ljava/lang/Long;" (.ref ca)) (AC : OwnA Z h0 ca (.object "java/lang/Long") vs) (hel : ¬ lcmpW p1 (-128 : Int64) < (0 : Int32) → ¬ (0 : Int32) < lcmpW p1 (127 : Int64) → ¬ (p1.toInt32 + (128 : Int32)) < 0 ∧ ∃ b, vs[(p1.toInt32 + (128 : Int32)).toNatClampNeg]? = some (.ref b) ∧ Exa Z h0 b "java/lang/Long") :
    MetFree l (⟨"java/lang/Long", "valueOf", "(J)Ljava/lang/Long;"⟩ : MethodName) (head1 (Jvm.Cond.code (⟨"java/lang/Long", "valueOf", "(J)Ljava/lang/Long;"⟩ : MethodName) jdk_35_method_24_code 3 (some (.object "java/lang/Long")) :: ws) ({ frames := 3, cells := 1, slots := 1, locals := 39 } : Room)) (fun a U => a = #[(.long p1)] ∧ Z.Warmed39 U.vm ∧ U.heap = h0) (fun _ _ _ _ _ => True) (fun _ U o U' => ∃ v L, o = .returned v ∧ (Q_rm4 Z p1 ca vs h0 n0) v U'.heap L ∧ FrameEnd U o U' L ({ frames := 3, cells := 1, slots := 1, locals := 39 } : Room).cells ({ frames := 3, cells := 1, slots := 1, locals := 39 } : Room).slots) := by
  refine MetFree.of_bodySF (plainFor_of_name pn_4) hisR ?_
  intro p e s m args below meth c s₁ Bd hml0 hP hK
  obtain ⟨rfl, hZ, hh⟩ := hP
  have hx := Bd.exec
  have hby := Bd.bytes
  have hml : c.maxLocals = 3 := hml0
  have hown : s.vm.findClass "java/lang/Long" = some m.cls := findClass_of_methodNamed Bd.named
  have hnm := (name_of_methodNamed Bd.named Bd.method).1
  have hlk : meth.locks = false := BodyLoose.notSynchronized Bd
  have X0 : Stand p l e ({ frames := 3, cells := 1, slots := 1, locals := 39 } : Room) s m #[(.long p1)] below meth c s₁ [] 0 0 := Stand.of_body Bd
  have e0 : s₁.heap = h0 := by rw [← hh, Bd.state]; rfl
  have N := Fr.nil n0
  have K := Keep.refl h0 []
  refine own_start (cl := ({ frames := 3, cells := 1, slots := 1, locals := 39 } : Room).cells) (sl := ({ frames := 3, cells := 1, slots := 1, locals := 39 } : Room).slots) (Q := (Q_rm4 Z p1 ca vs h0 n0)) (ef_rm4 m p1) ?_
  refine own_by (S' := (s₁.setTop (mkF m 3 #[.val (.long p1), .second, .unset] [(.int (128 : Int32))]))) (fun _ k => XS.sipush X0.here hx rfl (hb hby d4_0) k) ?_
  refine own_by (S' := (s₁.setTop (mkF m 4 #[.val (.long p1), .second, .val (.int (128 : Int32))] []))) (fun _ k => XS.istoreN X0.here hx rfl (hb hby d4_3) rfl (l' := #[.val (.long p1), .second, .val (.int (128 : Int32))]) rfl k) ?_
  refine own_by (S' := (s₁.setTop (mkF m 5 #[.val (.long p1), .second, .val (.int (128 : Int32))] [(.long p1)]))) (fun _ k => XS.lloadN X0.here hx rfl (hb hby d4_4) rfl k) ?_
  refine own_by (S' := (s₁.setTop (mkF m 8 #[.val (.long p1), .second, .val (.int (128 : Int32))] [(.long (-128 : Int64)), (.long p1)]))) (fun _ k => X0.ldc2Long hx hown (mvT hZ (hw _ (List.mem_of_getElem? (i := 24) rfl))) (g := (mkF m 5 #[.val (.long p1), .second, .val (.int (128 : Int32))] [(.long p1)])) rfl (hb hby d4_5) _ k) ?_
  refine own_by (S' := (s₁.setTop (mkF m 9 #[.val (.long p1), .second, .val (.int (128 : Int32))] [(.int (lcmpW p1 (-128 : Int64)))]))) (fun _ k => XS.lcmp X0.here hx rfl (hb hby d4_8) rfl k) ?_
  by_cases hc1 : (lcmpW p1 (-128 : Int64)) < (0 : Int32)
  · refine own_by (S' := (s₁.setTop (mkF m 31 #[.val (.long p1), .second, .val (.int (128 : Int32))] []))) (fun _ k => XS.ifYes X0.here hx rfl (pc0 := 9) (pc' := 31) rfl (hb hby d4_9) rfl ((if0 _ _).trans (tlt (hc1 : (lcmpW p1 (-128 : Int64)) < (0 : Int32))).1) (by decide) (by decide) k) ?_
    obtain ⟨T24, h24, X24, e24, E24, A24, D24, -, st24⟩ := newO X0 hx hZ hown (hw _ (List.mem_of_getElem? (i := 26) rfl)) (hw _ (List.mem_of_getElem? (i := 27) rfl)) (hw _ (List.mem_of_getElem? (i := 22) rfl)) e0 (g := (mkF m 31 #[.val (.long p1), .second, .val (.int (128 : Int32))] [])) rfl (hb hby d4_31) (by decide : 0 + 1 ≤ _) (by decide : 0 + 1 ≤ _)
    obtain ⟨b24, g24⟩ : ∃ z, z = h0.size := ⟨_, rfl⟩
    rw [← g24] at A24 D24 st24
    have o24 : n0 ≤ b24 := Nat.le_trans Zn (Nat.le_of_eq g24.symm)
    have z24 : h0.size ≤ b24 := Nat.le_trans K.1 (Nat.le_of_eq g24.symm)
    have Zn := Nat.le_trans Zn E24.1
    have K := K.ext E24
    have E_b24 := A24
    have F_b24_value : Fld Z h24 b24 "java/lang/Long" "value" "J" (.long (0 : Int64)) := D24 (Or.inr (hw _ (List.mem_of_getElem? (i := 40) rfl))) (ty := .long) (by decide)
    refine own_by (S' := (T24.setTop (mkF m 34 #[.val (.long p1), .second, .val (.int (128 : Int32))] [(.ref b24)]))) st24 ?_
    refine own_by (S' := (T24.setTop (mkF m 35 #[.val (.long p1), .second, .val (.int (128 : Int32))] [(.ref b24), (.ref b24)]))) (fun _ k => XS.dup X24.here hx rfl (hb hby d4_34) rfl rfl k) ?_
    refine own_by (S' := (T24.setTop (mkF m 36 #[.val (.long p1), .second, .val (.int (128 : Int32))] [(.long p1), (.ref b24), (.ref b24)]))) (fun _ k => XS.lloadN X24.here hx rfl (hb hby d4_35) rfl k) ?_
    obtain ⟨_, _, ⟨T25, L25, k25, n25⟩, -, X25, ⟨Lc25, hQ25, l25, y25, z25⟩, st25⟩ := X24.specialBack hx (y := (⟨"java/lang/Long", "<init>", "(J)V"⟩ : MethodName)) rfl hown (mvT hZ (hw _ (List.mem_of_getElem? (i := 28) rfl))) (mvT hZ (hw _ (List.mem_of_getElem? (i := 29) rfl))) (mvT hZ (hw _ (List.mem_of_getElem? (i := 31) rfl))) (by decide) (backOf (W := 1) (rm5 l Z a0 hw [] b24 p1 h24 n0 Zn E_b24 F_b24_value o24) hZ (hw _ (List.mem_of_getElem? (i := 31) rfl)) (hw _ (List.mem_of_getElem? (i := 22) rfl)) (by decide) (by decide)) (g := (mkF m 36 #[.val (.long p1), .second, .val (.int (128 : Int32))] [(.long p1), (.ref b24), (.ref b24)])) rfl (by rw [hml]; rfl) (Steps.refl _) (a := b24) (argsL := [(.long p1)]) (rest := [(.ref b24)]) (lenOf pd__28J_29V rfl) rfl (by show 2 * 0 + _ ≤ _; exact Nat.le_of_eq rfl) (hb hby d4_36) (fun _ _ => ⟨rfl, e24, (by decide : 1 + 0 ≤ _), (by decide : 1 + 0 ≤ _)⟩)
    dsimp only [Pt.U, Pt.locs, Pt.cells, Pt.slots] at X25 l25 y25 z25 st25 hQ25
    subst l25 y25 z25
    obtain ⟨rfl, N25q, Kc⟩ := hQ25
    have N := Fr.app N N25q
    have E_b24 := E_b24.keep Kc
    have Zn : n0 ≤ _ := Nat.le_trans Zn Kc.1
    have K := K.trans Kc (allS (Or.inr z24) all0)
    refine own_tr (S' := (T25.setTop (mkF m 39 #[.val (.long p1), .second, .val (.int (128 : Int32))] [(.ref b24)]))) st25 ?_
    exact own_ret X25 hx (t := (.object "java/lang/Long")) Bd.returns rfl (Or.inr (Or.inr (Or.inr (Or.inr ⟨rfl, rfl, rfl⟩)))) (hb hby d4_39) hlk (by decide : 1 ≤ _) (by decide : 1 ≤ _) (⟨b24, rfl, N, K, E_b24⟩)
  · refine own_by (S' := (s₁.setTop (mkF m 12 #[.val (.long p1), .second, .val (.int (128 : Int32))] []))) (fun _ k => XS.ifNo X0.here hx rfl (hb hby d4_9) rfl ((if0 _ _).trans (flt (hc1 : ¬ ((lcmpW p1 (-128 : Int64)) < (0 : Int32)))).1) k) ?_
    refine own_by (S' := (s₁.setTop (mkF m 13 #[.val (.long p1), .second, .val (.int (128 : Int32))] [(.long p1)]))) (fun _ k => XS.lloadN X0.here hx rfl (hb hby d4_12) rfl k) ?_
    refine own_by (S' := (s₁.setTop (mkF m 16 #[.val (.long p1), .second, .val (.int (128 : Int32))] [(.long (127 : Int64)), (.long p1)]))) (fun _ k => X0.ldc2Long hx hown (mvT hZ (hw _ (List.mem_of_getElem? (i := 25) rfl))) (g := (mkF m 13 #[.val (.long p1), .second, .val (.int (128 : Int32))] [(.long p1)])) rfl (hb hby d4_13) _ k) ?_
    refine own_by (S' := (s₁.setTop (mkF m 17 #[.val (.long p1), .second, .val (.int (128 : Int32))] [(.int (lcmpW p1 (127 : Int64)))]))) (fun _ k => XS.lcmp X0.here hx rfl (hb hby d4_16) rfl k) ?_
    by_cases hc2 : (0 : Int32) < (lcmpW p1 (127 : Int64))
    · refine own_by (S' := (s₁.setTop (mkF m 31 #[.val (.long p1), .second, .val (.int (128 : Int32))] []))) (fun _ k => XS.ifYes X0.here hx rfl (pc0 := 17) (pc' := 31) rfl (hb hby d4_17) rfl ((if0 _ _).trans (tlt (hc2 : (0 : Int32) < (lcmpW p1 (127 : Int64)))).2.2.1) (by decide) (by decide) k) ?_
      obtain ⟨T26, h26, X26, e26, E26, A26, D26, -, st26⟩ := newO X0 hx hZ hown (hw _ (List.mem_of_getElem? (i := 26) rfl)) (hw _ (List.mem_of_getElem? (i := 27) rfl)) (hw _ (List.mem_of_getElem? (i := 22) rfl)) e0 (g := (mkF m 31 #[.val (.long p1), .second, .val (.int (128 : Int32))] [])) rfl (hb hby d4_31) (by decide : 0 + 1 ≤ _) (by decide : 0 + 1 ≤ _)
      obtain ⟨b26, g26⟩ : ∃ z, z = h0.size := ⟨_, rfl⟩
      rw [← g26] at A26 D26 st26
      have o26 : n0 ≤ b26 := Nat.le_trans Zn (Nat.le_of_eq g26.symm)
      have z26 : h0.size ≤ b26 := Nat.le_trans K.1 (Nat.le_of_eq g26.symm)
      have Zn := Nat.le_trans Zn E26.1
      have K := K.ext E26
      have E_b26 := A26
      have F_b26_value : Fld Z h26 b26 "java/lang/Long" "value" "J" (.long (0 : Int64)) := D26 (Or.inr (hw _ (List.mem_of_getElem? (i := 40) rfl))) (ty := .long) (by decide)
      refine own_by (S' := (T26.setTop (mkF m 34 #[.val (.long p1), .second, .val (.int (128 : Int32))] [(.ref b26)]))) st26 ?_
      refine own_by (S' := (T26.setTop (mkF m 35 #[.val (.long p1), .second, .val (.int (128 : Int32))] [(.ref b26), (.ref b26)]))) (fun _ k => XS.dup X26.here hx rfl (hb hby d4_34) rfl rfl k) ?_
      refine own_by (S' := (T26.setTop (mkF m 36 #[.val (.long p1), .second, .val (.int (128 : Int32))] [(.long p1), (.ref b26), (.ref b26)]))) (fun _ k => XS.lloadN X26.here hx rfl (hb hby d4_35) rfl k) ?_
      obtain ⟨_, _, ⟨T27, L27, k27, n27⟩, -, X27, ⟨Lc27, hQ27, l27, y27, z27⟩, st27⟩ := X26.specialBack hx (y := (⟨"java/lang/Long", "<init>", "(J)V"⟩ : MethodName)) rfl hown (mvT hZ (hw _ (List.mem_of_getElem? (i := 28) rfl))) (mvT hZ (hw _ (List.mem_of_getElem? (i := 29) rfl))) (mvT hZ (hw _ (List.mem_of_getElem? (i := 31) rfl))) (by decide) (backOf (W := 1) (rm5 l Z a0 hw [] b26 p1 h26 n0 Zn E_b26 F_b26_value o26) hZ (hw _ (List.mem_of_getElem? (i := 31) rfl)) (hw _ (List.mem_of_getElem? (i := 22) rfl)) (by decide) (by decide)) (g := (mkF m 36 #[.val (.long p1), .second, .val (.int (128 : Int32))] [(.long p1), (.ref b26), (.ref b26)])) rfl (by rw [hml]; rfl) (Steps.refl _) (a := b26) (argsL := [(.long p1)]) (rest := [(.ref b26)]) (lenOf pd__28J_29V rfl) rfl (by show 2 * 0 + _ ≤ _; exact Nat.le_of_eq rfl) (hb hby d4_36) (fun _ _ => ⟨rfl, e26, (by decide : 1 + 0 ≤ _), (by decide : 1 + 0 ≤ _)⟩)
      dsimp only [Pt.U, Pt.locs, Pt.cells, Pt.slots] at X27 l27 y27 z27 st27 hQ27
      subst l27 y27 z27
      obtain ⟨rfl, N27q, Kc⟩ := hQ27
      have N := Fr.app N N27q
      have E_b26 := E_b26.keep Kc
      have Zn : n0 ≤ _ := Nat.le_trans Zn Kc.1
      have K := K.trans Kc (allS (Or.inr z26) all0)
      refine own_tr (S' := (T27.setTop (mkF m 39 #[.val (.long p1), .second, .val (.int (128 : Int32))] [(.ref b26)]))) st27 ?_
      exact own_ret X27 hx (t := (.object "java/lang/Long")) Bd.returns rfl (Or.inr (Or.inr (Or.inr (Or.inr ⟨rfl, rfl, rfl⟩)))) (hb hby d4_39) hlk (by decide : 1 ≤ _) (by decide : 1 ≤ _) (⟨b26, rfl, N, K, E_b26⟩)
    · refine own_by (S' := (s₁.setTop (mkF m 20 #[.val (.long p1), .second, .val (.int (128 : Int32))] []))) (fun _ k => XS.ifNo X0.here hx rfl (hb hby d4_17) rfl ((if0 _ _).trans (flt (hc2 : ¬ ((0 : Int32) < (lcmpW p1 (127 : Int64))))).2.2.1) k) ?_
      obtain ⟨hj, bx, hbx, Ebx⟩ := hel hc1 hc2
      obtain ⟨T28, X28, e28, st28⟩ := getS2 X0 hx hZ hown (host := "") (Or.inl (hw _ (List.mem_of_getElem? (i := 62) rfl))) Via.refl e0 SC (g := (mkF m 20 #[.val (.long p1), .second, .val (.int (128 : Int32))] [])) rfl (hb hby d4_20)
      refine own_by (S' := (T28.setTop (mkF m 23 #[.val (.long p1), .second, .val (.int (128 : Int32))] [(.ref ca)]))) st28 ?_
      refine own_by (S' := (T28.setTop (mkF m 24 #[.val (.long p1), .second, .val (.int (128 : Int32))] [(.long p1), (.ref ca)]))) (fun _ k => XS.lloadN X28.here hx rfl (hb hby d4_23) rfl k) ?_
      refine own_by (S' := (T28.setTop (mkF m 25 #[.val (.long p1), .second, .val (.int (128 : Int32))] [(.int (p1.toInt32)), (.ref ca)]))) (fun _ k => XS.l2i X28.here hx rfl (hb hby d4_24) rfl k) ?_
      refine own_by (S' := (T28.setTop (mkF m 28 #[.val (.long p1), .second, .val (.int (128 : Int32))] [(.int (128 : Int32)), (.int (p1.toInt32)), (.ref ca)]))) (fun _ k => XS.sipush X28.here hx rfl (hb hby d4_25) k) ?_
      refine own_by (S' := (T28.setTop (mkF m 29 #[.val (.long p1), .second, .val (.int (128 : Int32))] [(.int ((p1.toInt32) + (128 : Int32))), (.ref ca)]))) (fun _ k => XS.iadd X28.here hx rfl (hb hby d4_28) rfl k) ?_
      refine own_by (S' := (T28.setTop (mkF m 30 #[.val (.long p1), .second, .val (.int (128 : Int32))] [(.ref bx)]))) (fun _ k => own_aaload X28 hx hZ e28 AC rfl hj (v := (.ref bx)) hbx (g := (mkF m 29 #[.val (.long p1), .second, .val (.int (128 : Int32))] [(.int ((p1.toInt32) + (128 : Int32))), (.ref ca)])) rfl rfl (hb hby d4_29) _ k) ?_
      exact own_ret X28 hx (t := (.object "java/lang/Long")) Bd.returns rfl (Or.inr (Or.inr (Or.inr (Or.inr ⟨rfl, rfl, rfl⟩)))) (hb hby d4_30) hlk (by decide : 0 ≤ _) (by decide : 0 ≤ _) (by rw [e28]; exact ⟨bx, rfl, N, K, Ebx⟩)
theorem pn_0 : plainName "com/example/tideline/tideline/model/DataPartitionEqualsPinLaw" = true := by first | (simp [plainName, overriddenIn]; done) | decide +kernel
theorem ef_rm0 (m : MethodId) (x0 : Int64) (x1 : Int32) (x2 : Int64) (x3 : Int32) (x4 : Int32) : entryFrame m #[(.long x0), (.int x1), (.long x2), (.int x3), (.int x4)] maxLocals = mkF m 0 #[.val (.long x0), .second, .val (.int x1), .val (.long x2), .second, .val (.int x3), .val (.int x4), .unset, .unset, .unset, .unset, .unset, .unset, .unset] [] := by first | (simp [entryFrame, mkF, argsToLocals, Value.category, maxLocals]; done) | rfl
def Q_rm0 (Z : State) (q1 : Int64) (p2 : Int32) (q3 : Int64) (p4 p5 : Int32) (ca : Addr) (cl : Cell) (da : Addr) (dl : Cell) (h0 : Heap) (n0 : Nat) (v : Option Value) (h : Heap) (L : List Loc) : Prop := v = some (.int (1 : Int32)) ∧ Fr n0 L
theorem pd__28JI_29V : parseMethodDescriptor "(JI)V" = some ⟨[.long, .int], none⟩ := by decide +kernel
theorem pd__28Ljava_2flang_2fObject_3b_29Z : parseMethodDescriptor "(Ljava/lang/Object;)Z" = some ⟨[(.object "java/lang/Object")], some .boolean⟩ := by decide +kernel
theorem pd__28J_29Ljava_2flang_2fLong_3b : parseMethodDescriptor "(J)Ljava/lang/Long;" = some ⟨[.long], some (.object "java/lang/Long")⟩ := by decide +kernel
theorem pd__28I_29Ljava_2flang_2fInteger_3b : parseMethodDescriptor "(I)Ljava/lang/Integer;" = some ⟨[.int], some (.object "java/lang/Integer")⟩ := by decide +kernel
set_option maxRecDepth 65536 in
set_option maxHeartbeats 40000000 in
theorem rm0 (l : Launch) (Z : State) (a0 : Array Value) (hw : ∀ d ∈ tables_1, d.before a0 Z = true) (ws : List Jvm.Cond) (q1 : Int64) (p2 : Int32) (q3 : Int64) (p4 p5 : Int32) (ca : Addr) (cl : Cell) (da : Addr) (dl : Cell) (h0 : Heap) (n0 : Nat) (Zn : n0 ≤ h0.size) (O : Old Z n0 h0) (SH : Sta Z Z.heap "java/lang/Integer$IntegerCache" "high" "I" (.int (127 : Int32))) (SC : Sta Z Z.heap "java/lang/Integer$IntegerCache" "cache" "[Ljava/lang/Integer;" (.ref ca)) (BX : Bxs Z ca cl "java/lang/Integer" "I" (256 : Int32) (fun j => .int (j - 128))) (SD : Sta Z Z.heap "java/lang/Long$LongCache" "cache" "[Ljava/lang/Long;" (.ref da)) (BD : Bxs Z da dl "java/lang/Long" "J" (256 : Int32) (fun j => .long (j - 128).toInt64)) :
    MetFree l x (head1 (Jvm.Cond.code x code maxLocals ret :: ws) room_1) (fun a U => a = #[(.long q1), (.int p2), (.long q3), (.int p4), (.int p5)] ∧ Z.Warmed39 U.vm ∧ U.heap = h0) (fun _ _ _ _ _ => True) (fun _ U o U' => ∃ v L, o = .returned v ∧ (Q_rm0 Z q1 p2 q3 p4 p5 ca cl da dl h0 n0) v U'.heap L ∧ FrameEnd U o U' L room_1.cells room_1.slots) := by
  refine MetFree.of_bodySF (plainFor_of_name pn_0) hisR ?_
  intro p e s m args below meth c s₁ Bd hml0 hP hK
  obtain ⟨rfl, hZ, hh⟩ := hP
  have hx := Bd.exec
  have hby := Bd.bytes
  have hml : c.maxLocals = 14 := hml0
  have hown : s.vm.findClass "com/example/tideline/tideline/model/DataPartitionEqualsPinLaw" = some m.cls := findClass_of_methodNamed Bd.named
  have hnm := (name_of_methodNamed Bd.named Bd.method).1
  have hlk : meth.locks = false := BodyLoose.notSynchronized Bd
  have X0 : Stand p l e room_1 s m #[(.long q1), (.int p2), (.long q3), (.int p4), (.int p5)] below meth c s₁ [] 0 0 := Stand.of_body Bd
  have e0 : s₁.heap = h0 := by rw [← hh, Bd.state]; rfl
  have N := Fr.nil n0
  have K := Keep.refl h0 []
  refine own_start (cl := room_1.cells) (sl := room_1.slots) (Q := (Q_rm0 Z q1 p2 q3 p4 p5 ca cl da dl h0 n0)) (ef_rm0 m q1 p2 q3 p4 p5) ?_
  obtain ⟨T29, h29, X29, e29, E29, A29, D29, -, st29⟩ := newO X0 hx hZ hown (hw _ (List.mem_of_getElem? (i := 0) rfl)) (hw _ (List.mem_of_getElem? (i := 1) rfl)) (hw _ (List.mem_of_getElem? (i := 2) rfl)) e0 (g := (mkF m 0 #[.val (.long q1), .second, .val (.int p2), .val (.long q3), .second, .val (.int p4), .val (.int p5), .unset, .unset, .unset, .unset, .unset, .unset, .unset] [])) rfl (hb hby at_0) (by decide : 0 + 1 ≤ _) (by decide : 0 + 2 ≤ _)
  obtain ⟨b29, g29⟩ : ∃ z, z = h0.size := ⟨_, rfl⟩
  rw [← g29] at A29 D29 st29
  have o29 : n0 ≤ b29 := Nat.le_trans Zn (Nat.le_of_eq g29.symm)
  have z29 : h0.size ≤ b29 := Nat.le_trans K.1 (Nat.le_of_eq g29.symm)
  have O := O.ext E29
  have Zn := Nat.le_trans Zn E29.1
  have K := K.ext E29
  have E_b29 := A29
  have F_b29_start : Fld Z h29 b29 "com/example/tideline/tideline/model/DataPartition" "start" "J" (.long (0 : Int64)) := D29 (Or.inr (hw _ (List.mem_of_getElem? (i := 10) rfl))) (ty := .long) (by decide)
  have F_b29_seriesPartition : Fld Z h29 b29 "com/example/tideline/tideline/model/DataPartition" "seriesPartition" "I" (.int (0 : Int32)) := D29 (Or.inr (hw _ (List.mem_of_getElem? (i := 12) rfl))) (ty := .int) (by decide)
  refine own_by (S' := (T29.setTop (mkF m 3 #[.val (.long q1), .second, .val (.int p2), .val (.long q3), .second, .val (.int p4), .val (.int p5), .unset, .unset, .unset, .unset, .unset, .unset, .unset] [(.ref b29)]))) st29 ?_
  refine own_by (S' := (T29.setTop (mkF m 4 #[.val (.long q1), .second, .val (.int p2), .val (.long q3), .second, .val (.int p4), .val (.int p5), .unset, .unset, .unset, .unset, .unset, .unset, .unset] [(.ref b29), (.ref b29)]))) (fun _ k => XS.dup X29.here hx rfl (hb hby at_3) rfl rfl k) ?_
  refine own_by (S' := (T29.setTop (mkF m 5 #[.val (.long q1), .second, .val (.int p2), .val (.long q3), .second, .val (.int p4), .val (.int p5), .unset, .unset, .unset, .unset, .unset, .unset, .unset] [(.long q1), (.ref b29), (.ref b29)]))) (fun _ k => XS.lloadN X29.here hx rfl (hb hby at_4) rfl k) ?_
  refine own_by (S' := (T29.setTop (mkF m 6 #[.val (.long q1), .second, .val (.int p2), .val (.long q3), .second, .val (.int p4), .val (.int p5), .unset, .unset, .unset, .unset, .unset, .unset, .unset] [(.int p2), (.long q1), (.ref b29), (.ref b29)]))) (fun _ k => XS.iloadN X29.here hx rfl (hb hby at_5) rfl k) ?_
  obtain ⟨_, _, ⟨T30, L30, k30, n30⟩, -, X30, ⟨Lc30, hQ30, l30, y30, z30⟩, st30⟩ := X29.specialBack hx (y := (⟨"com/example/tideline/tideline/model/DataPartition", "<init>", "(JI)V"⟩ : MethodName)) rfl hown (mvT hZ (hw _ (List.mem_of_getElem? (i := 3) rfl))) (mvT hZ (hw _ (List.mem_of_getElem? (i := 4) rfl))) (mvT hZ (hw _ (List.mem_of_getElem? (i := 5) rfl))) (by decide) (backOf (W := 1) (rm1 l Z a0 hw [] b29 q1 p2 h29 n0 Zn E_b29 F_b29_start F_b29_seriesPartition o29) hZ (hw _ (List.mem_of_getElem? (i := 5) rfl)) (hw _ (List.mem_of_getElem? (i := 2) rfl)) (by decide) (by decide)) (g := (mkF m 6 #[.val (.long q1), .second, .val (.int p2), .val (.long q3), .second, .val (.int p4), .val (.int p5), .unset, .unset, .unset, .unset, .unset, .unset, .unset] [(.int p2), (.long q1), (.ref b29), (.ref b29)])) rfl (by rw [hml]; rfl) (Steps.refl _) (a := b29) (argsL := [(.long q1), (.int p2)]) (rest := [(.ref b29)]) (lenOf pd__28JI_29V rfl) rfl (by show 2 * 0 + _ ≤ _; exact Nat.le_of_eq rfl) (hb hby at_6) (fun _ _ => ⟨rfl, e29, (by decide : 1 + 0 ≤ _), (by decide : 2 + 0 ≤ _)⟩)
  dsimp only [Pt.U, Pt.locs, Pt.cells, Pt.slots] at X30 l30 y30 z30 st30 hQ30
  subst l30 y30 z30
  obtain ⟨rfl, N30q, Kc, F_b29_start, F_b29_seriesPartition⟩ := hQ30
  have N := Fr.app N N30q
  have O := O.keep Kc (allS o29 all0)
  have E_b29 := E_b29.keep Kc
  have Zn : n0 ≤ _ := Nat.le_trans Zn Kc.1
  have K := K.trans Kc (allS (Or.inr z29) all0)
  refine own_tr (S' := (T30.setTop (mkF m 9 #[.val (.long q1), .second, .val (.int p2), .val (.long q3), .second, .val (.int p4), .val (.int p5), .unset, .unset, .unset, .unset, .unset, .unset, .unset] [(.ref b29)]))) st30 ?_
  refine own_by (S' := (T30.setTop (mkF m 11 #[.val (.long q1), .second, .val (.int p2), .val (.long q3), .second, .val (.int p4), .val (.int p5), .val (.ref b29), .unset, .unset, .unset, .unset, .unset, .unset] []))) (fun _ k => XS.astore X30.here hx rfl (hb hby at_9) rfl rfl (l' := #[.val (.long q1), .second, .val (.int p2), .val (.long q3), .second, .val (.int p4), .val (.int p5), .val (.ref b29), .unset, .unset, .unset, .unset, .unset, .unset]) rfl k) ?_
  refine own_by (S' := (T30.setTop (mkF m 13 #[.val (.long q1), .second, .val (.int p2), .val (.long q3), .second, .val (.int p4), .val (.int p5), .val (.ref b29), .unset, .unset, .unset, .unset, .unset, .unset] [(.int p5)]))) (fun _ k => XS.iload X30.here hx rfl (hb hby at_11) rfl k) ?_
  refine own_by (S' := (T30.setTop (mkF m 14 #[.val (.long q1), .second, .val (.int p2), .val (.long q3), .second, .val (.int p4), .val (.int p5), .val (.ref b29), .unset, .unset, .unset, .unset, .unset, .unset] [(.int (1 : Int32)), (.int p5)]))) (fun _ k => XS.iconst X30.here hx rfl (hb hby at_13) k) ?_
  refine own_by (S' := (T30.setTop (mkF m 15 #[.val (.long q1), .second, .val (.int p2), .val (.long q3), .second, .val (.int p4), .val (.int p5), .val (.ref b29), .unset, .unset, .unset, .unset, .unset, .unset] [(.int (p5 &&& (1 : Int32)))]))) (fun _ k => XS.iand X30.here hx rfl (hb hby at_14) rfl k) ?_
  suffices J31 : ∀ (t : Int64), own_fin p e below s room_1.cells room_1.slots (Q_rm0 Z q1 p2 q3 p4 p5 ca cl da dl h0 n0) (T30.setTop (mkF m 23 #[.val (.long q1), .second, .val (.int p2), .val (.long q3), .second, .val (.int p4), .val (.int p5), .val (.ref b29), .unset, .unset, .unset, .unset, .unset, .unset] [(.long t)])) by
    by_cases hc32 : (p5 &&& (1 : Int32)) = (0 : Int32)
    · refine own_by (S' := (T30.setTop (mkF m 22 #[.val (.long q1), .second, .val (.int p2), .val (.long q3), .second, .val (.int p4), .val (.int p5), .val (.ref b29), .unset, .unset, .unset, .unset, .unset, .unset] []))) (fun _ k => XS.ifYes X30.here hx rfl (pc0 := 15) (pc' := 22) rfl (hb hby at_15) rfl ((if0 _ _).trans (teq (hc32 : (p5 &&& (1 : Int32)) = (0 : Int32))).1) (by decide) (by decide) k) ?_
      refine own_by (S' := (T30.setTop (mkF m 23 #[.val (.long q1), .second, .val (.int p2), .val (.long q3), .second, .val (.int p4), .val (.int p5), .val (.ref b29), .unset, .unset, .unset, .unset, .unset, .unset] [(.long q3)]))) (fun _ k => XS.lloadN X30.here hx rfl (hb hby at_22) rfl k) ?_
      exact J31 q3
    · refine own_by (S' := (T30.setTop (mkF m 18 #[.val (.long q1), .second, .val (.int p2), .val (.long q3), .second, .val (.int p4), .val (.int p5), .val (.ref b29), .unset, .unset, .unset, .unset, .unset, .unset] []))) (fun _ k => XS.ifNo X30.here hx rfl (hb hby at_15) rfl ((if0 _ _).trans (feq (hc32 : ¬ ((p5 &&& (1 : Int32)) = (0 : Int32)))).1) k) ?_
      refine own_by (S' := (T30.setTop (mkF m 19 #[.val (.long q1), .second, .val (.int p2), .val (.long q3), .second, .val (.int p4), .val (.int p5), .val (.ref b29), .unset, .unset, .unset, .unset, .unset, .unset] [(.long q1)]))) (fun _ k => XS.lloadN X30.here hx rfl (hb hby at_18) rfl k) ?_
      refine own_by (S' := (T30.setTop (mkF m 23 #[.val (.long q1), .second, .val (.int p2), .val (.long q3), .second, .val (.int p4), .val (.int p5), .val (.ref b29), .unset, .unset, .unset, .unset, .unset, .unset] [(.long q1)]))) (fun _ k => XS.goto X30.here hx rfl (pc0 := 19) (pc' := 23) rfl (hb hby at_19) (by decide) (by decide) k) ?_
      exact J31 q1
  intro t
  refine own_by (S' := (T30.setTop (mkF m 25 #[.val (.long q1), .second, .val (.int p2), .val (.long q3), .second, .val (.int p4), .val (.int p5), .val (.ref b29), .val (.long t), .second, .unset, .unset, .unset, .unset] []))) (fun _ k => XS.lstore X30.here hx rfl (hb hby at_23) rfl (l' := #[.val (.long q1), .second, .val (.int p2), .val (.long q3), .second, .val (.int p4), .val (.int p5), .val (.ref b29), .val (.long t), .second, .unset, .unset, .unset, .unset]) rfl k) ?_
  refine own_by (S' := (T30.setTop (mkF m 27 #[.val (.long q1), .second, .val (.int p2), .val (.long q3), .second, .val (.int p4), .val (.int p5), .val (.ref b29), .val (.long t), .second, .unset, .unset, .unset, .unset] [(.int p5)]))) (fun _ k => XS.iload X30.here hx rfl (hb hby at_25) rfl k) ?_
  refine own_by (S' := (T30.setTop (mkF m 28 #[.val (.long q1), .second, .val (.int p2), .val (.long q3), .second, .val (.int p4), .val (.int p5), .val (.ref b29), .val (.long t), .second, .unset, .unset, .unset, .unset] [(.int (2 : Int32)), (.int p5)]))) (fun _ k => XS.iconst X30.here hx rfl (hb hby at_27) k) ?_
  refine own_by (S' := (T30.setTop (mkF m 29 #[.val (.long q1), .second, .val (.int p2), .val (.long q3), .second, .val (.int p4), .val (.int p5), .val (.ref b29), .val (.long t), .second, .unset, .unset, .unset, .unset] [(.int (p5 &&& (2 : Int32)))]))) (fun _ k => XS.iand X30.here hx rfl (hb hby at_28) rfl k) ?_
  suffices J33 : ∀ (q : Int32), own_fin p e below s room_1.cells room_1.slots (Q_rm0 Z q1 p2 q3 p4 p5 ca cl da dl h0 n0) (T30.setTop (mkF m 38 #[.val (.long q1), .second, .val (.int p2), .val (.long q3), .second, .val (.int p4), .val (.int p5), .val (.ref b29), .val (.long t), .second, .unset, .unset, .unset, .unset] [(.int q)])) by
    by_cases hc34 : (p5 &&& (2 : Int32)) = (0 : Int32)
    · refine own_by (S' := (T30.setTop (mkF m 36 #[.val (.long q1), .second, .val (.int p2), .val (.long q3), .second, .val (.int p4), .val (.int p5), .val (.ref b29), .val (.long t), .second, .unset, .unset, .unset, .unset] []))) (fun _ k => XS.ifYes X30.here hx rfl (pc0 := 29) (pc' := 36) rfl (hb hby at_29) rfl ((if0 _ _).trans (teq (hc34 : (p5 &&& (2 : Int32)) = (0 : Int32))).1) (by decide) (by decide) k) ?_
      refine own_by (S' := (T30.setTop (mkF m 38 #[.val (.long q1), .second, .val (.int p2), .val (.long q3), .second, .val (.int p4), .val (.int p5), .val (.ref b29), .val (.long t), .second, .unset, .unset, .unset, .unset] [(.int p4)]))) (fun _ k => XS.iload X30.here hx rfl (hb hby at_36) rfl k) ?_
      exact J33 p4
    · refine own_by (S' := (T30.setTop (mkF m 32 #[.val (.long q1), .second, .val (.int p2), .val (.long q3), .second, .val (.int p4), .val (.int p5), .val (.ref b29), .val (.long t), .second, .unset, .unset, .unset, .unset] []))) (fun _ k => XS.ifNo X30.here hx rfl (hb hby at_29) rfl ((if0 _ _).trans (feq (hc34 : ¬ ((p5 &&& (2 : Int32)) = (0 : Int32)))).1) k) ?_
      refine own_by (S' := (T30.setTop (mkF m 33 #[.val (.long q1), .second, .val (.int p2), .val (.long q3), .second, .val (.int p4), .val (.int p5), .val (.ref b29), .val (.long t), .second, .unset, .unset, .unset, .unset] [(.int p2)]))) (fun _ k => XS.iloadN X30.here hx rfl (hb hby at_32) rfl k) ?_
      refine own_by (S' := (T30.setTop (mkF m 38 #[.val (.long q1), .second, .val (.int p2), .val (.long q3), .second, .val (.int p4), .val (.int p5), .val (.ref b29), .val (.long t), .second, .unset, .unset, .unset, .unset] [(.int p2)]))) (fun _ k => XS.goto X30.here hx rfl (pc0 := 33) (pc' := 38) rfl (hb hby at_33) (by decide) (by decide) k) ?_
      exact J33 p2
  intro q
  refine own_by (S' := (T30.setTop (mkF m 40 #[.val (.long q1), .second, .val (.int p2), .val (.long q3), .second, .val (.int p4), .val (.int p5), .val (.ref b29), .val (.long t), .second, .val (.int q), .unset, .unset, .unset] []))) (fun _ k => XS.istore X30.here hx rfl (hb hby at_38) rfl (l' := #[.val (.long q1), .second, .val (.int p2), .val (.long q3), .second, .val (.int p4), .val (.int p5), .val (.ref b29), .val (.long t), .second, .val (.int q), .unset, .unset, .unset]) rfl k) ?_
  obtain ⟨T35, h35, X35, e35, E35, A35, D35, -, st35⟩ := newO X30 hx hZ hown (hw _ (List.mem_of_getElem? (i := 0) rfl)) (hw _ (List.mem_of_getElem? (i := 1) rfl)) (hw _ (List.mem_of_getElem? (i := 2) rfl)) rfl (g := (mkF m 40 #[.val (.long q1), .second, .val (.int p2), .val (.long q3), .second, .val (.int p4), .val (.int p5), .val (.ref b29), .val (.long t), .second, .val (.int q), .unset, .unset, .unset] [])) rfl (hb hby at_40) (by decide : 1 + 1 ≤ _) (by decide : 2 + 2 ≤ _)
  obtain ⟨b35, g35⟩ : ∃ z, z = T30.heap.size := ⟨_, rfl⟩
  rw [← g35] at A35 D35 st35
  have o35 : n0 ≤ b35 := Nat.le_trans Zn (Nat.le_of_eq g35.symm)
  have z35 : h0.size ≤ b35 := Nat.le_trans K.1 (Nat.le_of_eq g35.symm)
  have ne_b29_b35 : b29 ≠ b35 := fun q => Nat.ne_of_lt E_b29.lt (q.trans g35)
  have O := O.ext E35
  have E_b29 := E_b29.ext E35
  have F_b29_start := F_b29_start.ext E35
  have F_b29_seriesPartition := F_b29_seriesPartition.ext E35
  have Zn := Nat.le_trans Zn E35.1
  have K := K.ext E35
  have E_b35 := A35
  have F_b35_start : Fld Z h35 b35 "com/example/tideline/tideline/model/DataPartition" "start" "J" (.long (0 : Int64)) := D35 (Or.inr (hw _ (List.mem_of_getElem? (i := 10) rfl))) (ty := .long) (by decide)
  have F_b35_seriesPartition : Fld Z h35 b35 "com/example/tideline/tideline/model/DataPartition" "seriesPartition" "I" (.int (0 : Int32)) := D35 (Or.inr (hw _ (List.mem_of_getElem? (i := 12) rfl))) (ty := .int) (by decide)
  refine own_by (S' := (T35.setTop (mkF m 43 #[.val (.long q1), .second, .val (.int p2), .val (.long q3), .second, .val (.int p4), .val (.int p5), .val (.ref b29), .val (.long t), .second, .val (.int q), .unset, .unset, .unset] [(.ref b35)]))) st35 ?_
  refine own_by (S' := (T35.setTop (mkF m 44 #[.val (.long q1), .second, .val (.int p2), .val (.long q3), .second, .val (.int p4), .val (.int p5), .val (.ref b29), .val (.long t), .second, .val (.int q), .unset, .unset, .unset] [(.ref b35), (.ref b35)]))) (fun _ k => XS.dup X35.here hx rfl (hb hby at_43) rfl rfl k) ?_
  refine own_by (S' := (T35.setTop (mkF m 46 #[.val (.long q1), .second, .val (.int p2), .val (.long q3), .second, .val (.int p4), .val (.int p5), .val (.ref b29), .val (.long t), .second, .val (.int q), .unset, .unset, .unset] [(.long t), (.ref b35), (.ref b35)]))) (fun _ k => XS.lload X35.here hx rfl (hb hby at_44) rfl k) ?_
  refine own_by (S' := (T35.setTop (mkF m 48 #[.val (.long q1), .second, .val (.int p2), .val (.long q3), .second, .val (.int p4), .val (.int p5), .val (.ref b29), .val (.long t), .second, .val (.int q), .unset, .unset, .unset] [(.int q), (.long t), (.ref b35), (.ref b35)]))) (fun _ k => XS.iload X35.here hx rfl (hb hby at_46) rfl k) ?_
  obtain ⟨_, _, ⟨T36, L36, k36, n36⟩, -, X36, ⟨Lc36, hQ36, l36, y36, z36⟩, st36⟩ := X35.specialBack hx (y := (⟨"com/example/tideline/tideline/model/DataPartition", "<init>", "(JI)V"⟩ : MethodName)) rfl hown (mvT hZ (hw _ (List.mem_of_getElem? (i := 3) rfl))) (mvT hZ (hw _ (List.mem_of_getElem? (i := 4) rfl))) (mvT hZ (hw _ (List.mem_of_getElem? (i := 5) rfl))) (by decide) (backOf (W := 1) (rm1 l Z a0 hw [] b35 t q h35 n0 Zn E_b35 F_b35_start F_b35_seriesPartition o35) hZ (hw _ (List.mem_of_getElem? (i := 5) rfl)) (hw _ (List.mem_of_getElem? (i := 2) rfl)) (by decide) (by decide)) (g := (mkF m 48 #[.val (.long q1), .second, .val (.int p2), .val (.long q3), .second, .val (.int p4), .val (.int p5), .val (.ref b29), .val (.long t), .second, .val (.int q), .unset, .unset, .unset] [(.int q), (.long t), (.ref b35), (.ref b35)])) rfl (by rw [hml]; rfl) (Steps.refl _) (a := b35) (argsL := [(.long t), (.int q)]) (rest := [(.ref b35)]) (lenOf pd__28JI_29V rfl) rfl (by show 2 * 0 + _ ≤ _; exact Nat.le_of_eq rfl) (hb hby at_48) (fun _ _ => ⟨rfl, e35, (by decide : 2 + 0 ≤ _), (by decide : 4 + 0 ≤ _)⟩)
  dsimp only [Pt.U, Pt.locs, Pt.cells, Pt.slots] at X36 l36 y36 z36 st36 hQ36
  subst l36 y36 z36
  obtain ⟨rfl, N36q, Kc, F_b35_start, F_b35_seriesPartition⟩ := hQ36
  have N := Fr.app N N36q
  have O := O.keep Kc (allS o35 all0)
  have E_b29 := E_b29.keep Kc
  have F_b29_start := F_b29_start.keep Kc (ninS ne_b29_b35 nin0)
  have F_b29_seriesPartition := F_b29_seriesPartition.keep Kc (ninS ne_b29_b35 nin0)
  have E_b35 := E_b35.keep Kc
  have Zn : n0 ≤ _ := Nat.le_trans Zn Kc.1
  have K := K.trans Kc (allS (Or.inr z35) all0)
  refine own_tr (S' := (T36.setTop (mkF m 51 #[.val (.long q1), .second, .val (.int p2), .val (.long q3), .second, .val (.int p4), .val (.int p5), .val (.ref b29), .val (.long t), .second, .val (.int q), .unset, .unset, .unset] [(.ref b35)]))) st36 ?_
  refine own_by (S' := (T36.setTop (mkF m 53 #[.val (.long q1), .second, .val (.int p2), .val (.long q3), .second, .val (.int p4), .val (.int p5), .val (.ref b29), .val (.long t), .second, .val (.int q), .val (.ref b35), .unset, .unset] []))) (fun _ k => XS.astore X36.here hx rfl (hb hby at_51) rfl rfl (l' := #[.val (.long q1), .second, .val (.int p2), .val (.long q3), .second, .val (.int p4), .val (.int p5), .val (.ref b29), .val (.long t), .second, .val (.int q), .val (.ref b35), .unset, .unset]) rfl k) ?_
  refine own_by (S' := (T36.setTop (mkF m 55 #[.val (.long q1), .second, .val (.int p2), .val (.long q3), .second, .val (.int p4), .val (.int p5), .val (.ref b29), .val (.long t), .second, .val (.int q), .val (.ref b35), .unset, .unset] [(.int p5)]))) (fun _ k => XS.iload X36.here hx rfl (hb hby at_53) rfl k) ?_
  refine own_by (S' := (T36.setTop (mkF m 56 #[.val (.long q1), .second, .val (.int p2), .val (.long q3), .second, .val (.int p4), .val (.int p5), .val (.ref b29), .val (.long t), .second, .val (.int q), .val (.ref b35), .unset, .unset] [(.int (2 : Int32)), (.int p5)]))) (fun _ k => XS.iconst X36.here hx rfl (hb hby at_55) k) ?_
  refine own_by (S' := (T36.setTop (mkF m 57 #[.val (.long q1), .second, .val (.int p2), .val (.long q3), .second, .val (.int p4), .val (.int p5), .val (.ref b29), .val (.long t), .second, .val (.int q), .val (.ref b35), .unset, .unset] [(.int ((p5.toUInt32 >>> ((2 : Int32) &&& 31).toUInt32).toInt32))]))) (fun _ k => XS.iushr X36.here hx rfl (hb hby at_56) rfl k) ?_
  refine own_by (S' := (T36.setTop (mkF m 58 #[.val (.long q1), .second, .val (.int p2), .val (.long q3), .second, .val (.int p4), .val (.int p5), .val (.ref b29), .val (.long t), .second, .val (.int q), .val (.ref b35), .unset, .unset] [(.int (3 : Int32)), (.int ((p5.toUInt32 >>> ((2 : Int32) &&& 31).toUInt32).toInt32))]))) (fun _ k => XS.iconst X36.here hx rfl (hb hby at_57) k) ?_
  refine own_by (S' := (T36.setTop (mkF m 59 #[.val (.long q1), .second, .val (.int p2), .val (.long q3), .second, .val (.int p4), .val (.int p5), .val (.ref b29), .val (.long t), .second, .val (.int q), .val (.ref b35), .unset, .unset] [(.int (((p5.toUInt32 >>> ((2 : Int32) &&& 31).toUInt32).toInt32) &&& (3 : Int32)))]))) (fun _ k => XS.iand X36.here hx rfl (hb hby at_58) rfl k) ?_
  refine own_by (S' := (T36.setTop (mkF m 61 #[.val (.long q1), .second, .val (.int p2), .val (.long q3), .second, .val (.int p4), .val (.int p5), .val (.ref b29), .val (.long t), .second, .val (.int q), .val (.ref b35), .val (.int (((p5.toUInt32 >>> ((2 : Int32) &&& 31).toUInt32).toInt32) &&& (3 : Int32))), .unset] []))) (fun _ k => XS.istore X36.here hx rfl (hb hby at_59) rfl (l' := #[.val (.long q1), .second, .val (.int p2), .val (.long q3), .second, .val (.int p4), .val (.int p5), .val (.ref b29), .val (.long t), .second, .val (.int q), .val (.ref b35), .val (.int (((p5.toUInt32 >>> ((2 : Int32) &&& 31).toUInt32).toInt32) &&& (3 : Int32))), .unset]) rfl k) ?_
  generalize (((p5.toUInt32 >>> ((2 : Int32) &&& 31).toUInt32).toInt32) &&& (3 : Int32)) = kind
  refine own_by (S' := (T36.setTop (mkF m 63 #[.val (.long q1), .second, .val (.int p2), .val (.long q3), .second, .val (.int p4), .val (.int p5), .val (.ref b29), .val (.long t), .second, .val (.int q), .val (.ref b35), .val (.int kind), .unset] [(.int kind)]))) (fun _ k => XS.iload X36.here hx rfl (hb hby at_61) rfl k) ?_
  refine own_by (S' := (T36.setTop (mkF m 64 #[.val (.long q1), .second, .val (.int p2), .val (.long q3), .second, .val (.int p4), .val (.int p5), .val (.ref b29), .val (.long t), .second, .val (.int q), .val (.ref b35), .val (.int kind), .unset] [(.int (1 : Int32)), (.int kind)]))) (fun _ k => XS.iconst X36.here hx rfl (hb hby at_63) k) ?_
  by_cases kd1 : kind = (1 : Int32)
  · refine own_by (S' := (T36.setTop (mkF m 67 #[.val (.long q1), .second, .val (.int p2), .val (.long q3), .second, .val (.int p4), .val (.int p5), .val (.ref b29), .val (.long t), .second, .val (.int q), .val (.ref b35), .val (.int kind), .unset] []))) (fun _ k => XS.icmpNo X36.here hx rfl (hb hby at_64) rfl (teq (kd1 : kind = (1 : Int32))).2 k) ?_
    refine own_by (S' := (T36.setTop (mkF m 69 #[.val (.long q1), .second, .val (.int p2), .val (.long q3), .second, .val (.int p4), .val (.int p5), .val (.ref b29), .val (.long t), .second, .val (.int q), .val (.ref b35), .val (.int kind), .unset] [(.ref b29)]))) (fun _ k => XS.aload X36.here hx rfl (hb hby at_67) rfl rfl k) ?_
    refine own_by (S' := (T36.setTop (mkF m 70 #[.val (.long q1), .second, .val (.int p2), .val (.long q3), .second, .val (.int p4), .val (.int p5), .val (.ref b29), .val (.long t), .second, .val (.int q), .val (.ref b35), .val (.int kind), .unset] [.null, (.ref b29)]))) (fun _ k => XS.aconstNull X36.here hx rfl (hb hby at_69) k) ?_
    obtain ⟨cq37, kq37, q37a, q37b, q37c⟩ := isOf hZ rfl E_b29
    obtain ⟨_, _, ⟨T37, L37, k37, n37⟩, -, X37, ⟨Lc37, hQ37, l37, y37, z37⟩, st37⟩ := X36.virtualBack hx (y := (⟨"com/example/tideline/tideline/model/DataPartition", "equals", "(Ljava/lang/Object;)Z"⟩ : MethodName)) (z := (⟨"com/example/tideline/tideline/model/DataPartition", "equals", "(Ljava/lang/Object;)Z"⟩ : MethodName)) hown (mvT hZ (hw _ (List.mem_of_getElem? (i := 13) rfl))) (mvT hZ (hw _ (List.mem_of_getElem? (i := 14) rfl))) (notFace_of_selects (args := #[]) (mvT hZ (hw _ (List.mem_of_getElem? (i := 16) rfl)))) (mvT hZ (hw _ (List.mem_of_getElem? (i := 16) rfl))) (mvT hZ (hw _ (List.mem_of_getElem? (i := 15) rfl))) (by decide) (backOf (W := 0) (rm3_n l Z a0 hw [] b29 T36.heap n0 Zn) hZ (hw _ (List.mem_of_getElem? (i := 17) rfl)) (hw _ (List.mem_of_getElem? (i := 2) rfl)) (by decide) (by decide)) q37a q37c (g := (mkF m 70 #[.val (.long q1), .second, .val (.int p2), .val (.long q3), .second, .val (.int p4), .val (.int p5), .val (.ref b29), .val (.long t), .second, .val (.int q), .val (.ref b35), .val (.int kind), .unset] [.null, (.ref b29)])) rfl (by rw [hml]; rfl) (Steps.refl _) (argsL := [.null]) (rest := []) (lenOf pd__28Ljava_2flang_2fObject_3b_29Z rfl) rfl (by show 2 * 0 + _ ≤ _; exact Nat.le_of_eq rfl) (hb hby at_70) (fun _ _ => ⟨rfl, rfl, (by decide : 2 + 0 ≤ _), (by decide : 4 + 0 ≤ _)⟩)
    dsimp only [Pt.U, Pt.locs, Pt.cells, Pt.slots] at X37 l37 y37 z37 st37 hQ37
    subst l37 y37 z37
    obtain ⟨rfl, N37q, ehn⟩ := hQ37
    have N := Fr.app N N37q
    refine own_tr (S' := (T37.setTop (mkF m 73 #[.val (.long q1), .second, .val (.int p2), .val (.long q3), .second, .val (.int p4), .val (.int p5), .val (.ref b29), .val (.long t), .second, .val (.int q), .val (.ref b35), .val (.int kind), .unset] [(.int (0 : Int32))]))) st37 ?_
    refine own_by (S' := (T37.setTop (mkF m 76 #[.val (.long q1), .second, .val (.int p2), .val (.long q3), .second, .val (.int p4), .val (.int p5), .val (.ref b29), .val (.long t), .second, .val (.int q), .val (.ref b35), .val (.int kind), .unset] []))) (fun _ k => XS.ifNo X37.here hx rfl (hb hby at_73) rfl ((if0 _ _).trans (teq ((by decide) : (0 : Int32) = (0 : Int32))).2) k) ?_
    refine own_by (S' := (T37.setTop (mkF m 77 #[.val (.long q1), .second, .val (.int p2), .val (.long q3), .second, .val (.int p4), .val (.int p5), .val (.ref b29), .val (.long t), .second, .val (.int q), .val (.ref b35), .val (.int kind), .unset] [(.int (1 : Int32))]))) (fun _ k => XS.iconst X37.here hx rfl (hb hby at_76) k) ?_
    refine own_by (S' := (T37.setTop (mkF m 81 #[.val (.long q1), .second, .val (.int p2), .val (.long q3), .second, .val (.int p4), .val (.int p5), .val (.ref b29), .val (.long t), .second, .val (.int q), .val (.ref b35), .val (.int kind), .unset] [(.int (1 : Int32))]))) (fun _ k => XS.goto X37.here hx rfl (pc0 := 77) (pc' := 81) rfl (hb hby at_77) (by decide) (by decide) k) ?_
    exact own_ret X37 hx (t := .boolean) Bd.returns rfl (Or.inl ⟨rfl, by simp, _, rfl⟩) (hb hby at_81) hlk (by decide : 2 ≤ _) (by decide : 4 ≤ _) (by rw [ehn]; exact ⟨rfl, N⟩)
  · refine own_by (S' := (T36.setTop (mkF m 82 #[.val (.long q1), .second, .val (.int p2), .val (.long q3), .second, .val (.int p4), .val (.int p5), .val (.ref b29), .val (.long t), .second, .val (.int q), .val (.ref b35), .val (.int kind), .unset] []))) (fun _ k => XS.icmpYes X36.here hx rfl (pc0 := 64) (pc' := 82) rfl (hb hby at_64) rfl (feq (kd1 : ¬ (kind = (1 : Int32)))).2 (by decide) (by decide) k) ?_
    refine own_by (S' := (T36.setTop (mkF m 84 #[.val (.long q1), .second, .val (.int p2), .val (.long q3), .second, .val (.int p4), .val (.int p5), .val (.ref b29), .val (.long t), .second, .val (.int q), .val (.ref b35), .val (.int kind), .unset] [(.int kind)]))) (fun _ k => XS.iload X36.here hx rfl (hb hby at_82) rfl k) ?_
    refine own_by (S' := (T36.setTop (mkF m 85 #[.val (.long q1), .second, .val (.int p2), .val (.long q3), .second, .val (.int p4), .val (.int p5), .val (.ref b29), .val (.long t), .second, .val (.int q), .val (.ref b35), .val (.int kind), .unset] [(.int (2 : Int32)), (.int kind)]))) (fun _ k => XS.iconst X36.here hx rfl (hb hby at_84) k) ?_
    by_cases kd2 : kind = (2 : Int32)
    · refine own_by (S' := (T36.setTop (mkF m 88 #[.val (.long q1), .second, .val (.int p2), .val (.long q3), .second, .val (.int p4), .val (.int p5), .val (.ref b29), .val (.long t), .second, .val (.int q), .val (.ref b35), .val (.int kind), .unset] []))) (fun _ k => XS.icmpNo X36.here hx rfl (hb hby at_85) rfl (teq (kd2 : kind = (2 : Int32))).2 k) ?_
      refine own_by (S' := (T36.setTop (mkF m 90 #[.val (.long q1), .second, .val (.int p2), .val (.long q3), .second, .val (.int p4), .val (.int p5), .val (.ref b29), .val (.long t), .second, .val (.int q), .val (.ref b35), .val (.int kind), .unset] [(.ref b29)]))) (fun _ k => XS.aload X36.here hx rfl (hb hby at_88) rfl rfl k) ?_
      refine own_by (S' := (T36.setTop (mkF m 91 #[.val (.long q1), .second, .val (.int p2), .val (.long q3), .second, .val (.int p4), .val (.int p5), .val (.ref b29), .val (.long t), .second, .val (.int q), .val (.ref b35), .val (.int kind), .unset] [(.long q1), (.ref b29)]))) (fun _ k => XS.lloadN X36.here hx rfl (hb hby at_90) rfl k) ?_
      have hel : ¬ lcmpW q1 (-128 : Int64) < (0 : Int32) → ¬ (0 : Int32) < lcmpW q1 (127 : Int64) → ¬ (q1.toInt32 + (128 : Int32)) < 0 ∧ ∃ b, dl.slots.toList[(q1.toInt32 + (128 : Int32)).toNatClampNeg]? = some (.ref b) ∧ Exa Z T36.heap b "java/lang/Long" := fun u1 u2 => by
        have u5 : ¬ (q1.toInt32 + 128 < 0 ∨ dl.slots.size ≤ (q1.toInt32 + 128).toNatClampNeg) := by rw [BD.2.1]; exact own_placeL q1 u1 u2
        obtain ⟨b, b1, b2, -⟩ := BD.2.2.2 (q1.toInt32 + 128) u5
        exact ⟨fun q => u5 (Or.inl q), b, by rw [Array.getElem?_toList]; exact b1, b2.ext O.2⟩
      obtain ⟨_, _, ⟨T38, L38, k38, n38⟩, -, X38, ⟨Lc38, hQ38, l38, y38, z38⟩, st38⟩ := Jvm.LawKit.callS X36 hx (y := (⟨"java/lang/Long", "valueOf", "(J)Ljava/lang/Long;"⟩ : MethodName)) hown (mvT hZ (hw _ (List.mem_of_getElem? (i := 20) rfl))) (mvT hZ (hw _ (List.mem_of_getElem? (i := 21) rfl))) (mvT hZ (hw _ (List.mem_of_getElem? (i := 22) rfl))) (mvT hZ (hw _ (List.mem_of_getElem? (i := 23) rfl))) (by decide) (backOf (W := 1) (rm4 l Z a0 hw [] q1 da dl.slots.toList T36.heap n0 Zn (SD.ext O.2) ⟨dl, BD.1.ext O.2, rfl⟩ hel) hZ (hw _ (List.mem_of_getElem? (i := 23) rfl)) (hw _ (List.mem_of_getElem? (i := 22) rfl)) (by decide) (by decide)) (g := (mkF m 91 #[.val (.long q1), .second, .val (.int p2), .val (.long q3), .second, .val (.int p4), .val (.int p5), .val (.ref b29), .val (.long t), .second, .val (.int q), .val (.ref b35), .val (.int kind), .unset] [(.long q1), (.ref b29)])) rfl (by rw [hml]; rfl) (argsL := [(.long q1)]) (rest := [(.ref b29)]) (lenOf pd__28J_29Ljava_2flang_2fLong_3b rfl) rfl (by show 2 * 0 + _ ≤ _; exact Nat.le_of_eq rfl) (hb hby at_91) (fun _ _ => ⟨rfl, rfl, (by decide : 2 + 1 ≤ _), (by decide : 4 + 1 ≤ _)⟩)
      dsimp only [Pt.U, Pt.locs, Pt.cells, Pt.slots] at X38 l38 y38 z38 st38 hQ38
      subst l38 y38 z38
      obtain ⟨bx, rfl, N38q, Kc, E_bx⟩ := hQ38
      have N := Fr.app N N38q
      have O := O.keep Kc all0
      have E_b29 := E_b29.keep Kc
      have F_b29_start := F_b29_start.keep Kc nin0
      have F_b29_seriesPartition := F_b29_seriesPartition.keep Kc nin0
      have E_b35 := E_b35.keep Kc
      have F_b35_start := F_b35_start.keep Kc nin0
      have F_b35_seriesPartition := F_b35_seriesPartition.keep Kc nin0
      have Zn : n0 ≤ _ := Nat.le_trans Zn Kc.1
      have K := K.trans Kc all0
      refine own_by (S' := (T38.setTop (mkF m 94 #[.val (.long q1), .second, .val (.int p2), .val (.long q3), .second, .val (.int p4), .val (.int p5), .val (.ref b29), .val (.long t), .second, .val (.int q), .val (.ref b35), .val (.int kind), .unset] [(.ref bx), (.ref b29)]))) st38 ?_
      obtain ⟨cq39, kq39, q39a, q39b, q39c⟩ := isOf hZ rfl E_b29
      obtain ⟨_, _, ⟨T39, L39, k39, n39⟩, -, X39, ⟨Lc39, hQ39, l39, y39, z39⟩, st39⟩ := X38.virtualBack hx (y := (⟨"com/example/tideline/tideline/model/DataPartition", "equals", "(Ljava/lang/Object;)Z"⟩ : MethodName)) (z := (⟨"com/example/tideline/tideline/model/DataPartition", "equals", "(Ljava/lang/Object;)Z"⟩ : MethodName)) hown (mvT hZ (hw _ (List.mem_of_getElem? (i := 13) rfl))) (mvT hZ (hw _ (List.mem_of_getElem? (i := 14) rfl))) (notFace_of_selects (args := #[]) (mvT hZ (hw _ (List.mem_of_getElem? (i := 16) rfl)))) (mvT hZ (hw _ (List.mem_of_getElem? (i := 16) rfl))) (mvT hZ (hw _ (List.mem_of_getElem? (i := 15) rfl))) (by decide) (backOf (W := 0) (rm3_l l Z a0 hw [] b29 bx T38.heap n0 Zn E_bx) hZ (hw _ (List.mem_of_getElem? (i := 17) rfl)) (hw _ (List.mem_of_getElem? (i := 2) rfl)) (by decide) (by decide)) q39a q39c (g := (mkF m 94 #[.val (.long q1), .second, .val (.int p2), .val (.long q3), .second, .val (.int p4), .val (.int p5), .val (.ref b29), .val (.long t), .second, .val (.int q), .val (.ref b35), .val (.int kind), .unset] [(.ref bx), (.ref b29)])) rfl (by rw [hml]; rfl) (Steps.refl _) (argsL := [(.ref bx)]) (rest := []) (lenOf pd__28Ljava_2flang_2fObject_3b_29Z rfl) rfl (by show 2 * 0 + _ ≤ _; exact Nat.le_of_eq rfl) (hb hby at_94) (fun _ _ => ⟨rfl, rfl, (by decide : 3 + 0 ≤ _), (by decide : 5 + 0 ≤ _)⟩)
      dsimp only [Pt.U, Pt.locs, Pt.cells, Pt.slots] at X39 l39 y39 z39 st39 hQ39
      subst l39 y39 z39
      obtain ⟨rfl, N39q, ehi⟩ := hQ39
      have N := Fr.app N N39q
      refine own_tr (S' := (T39.setTop (mkF m 97 #[.val (.long q1), .second, .val (.int p2), .val (.long q3), .second, .val (.int p4), .val (.int p5), .val (.ref b29), .val (.long t), .second, .val (.int q), .val (.ref b35), .val (.int kind), .unset] [(.int (0 : Int32))]))) st39 ?_
      refine own_by (S' := (T39.setTop (mkF m 100 #[.val (.long q1), .second, .val (.int p2), .val (.long q3), .second, .val (.int p4), .val (.int p5), .val (.ref b29), .val (.long t), .second, .val (.int q), .val (.ref b35), .val (.int kind), .unset] []))) (fun _ k => XS.ifNo X39.here hx rfl (hb hby at_97) rfl ((if0 _ _).trans (teq ((by decide) : (0 : Int32) = (0 : Int32))).2) k) ?_
      refine own_by (S' := (T39.setTop (mkF m 101 #[.val (.long q1), .second, .val (.int p2), .val (.long q3), .second, .val (.int p4), .val (.int p5), .val (.ref b29), .val (.long t), .second, .val (.int q), .val (.ref b35), .val (.int kind), .unset] [(.int (1 : Int32))]))) (fun _ k => XS.iconst X39.here hx rfl (hb hby at_100) k) ?_
      refine own_by (S' := (T39.setTop (mkF m 105 #[.val (.long q1), .second, .val (.int p2), .val (.long q3), .second, .val (.int p4), .val (.int p5), .val (.ref b29), .val (.long t), .second, .val (.int q), .val (.ref b35), .val (.int kind), .unset] [(.int (1 : Int32))]))) (fun _ k => XS.goto X39.here hx rfl (pc0 := 101) (pc' := 105) rfl (hb hby at_101) (by decide) (by decide) k) ?_
      exact own_ret X39 hx (t := .boolean) Bd.returns rfl (Or.inl ⟨rfl, by simp, _, rfl⟩) (hb hby at_105) hlk (by decide : 3 ≤ _) (by decide : 5 ≤ _) (by rw [ehi]; exact ⟨rfl, N⟩)
    · refine own_by (S' := (T36.setTop (mkF m 106 #[.val (.long q1), .second, .val (.int p2), .val (.long q3), .second, .val (.int p4), .val (.int p5), .val (.ref b29), .val (.long t), .second, .val (.int q), .val (.ref b35), .val (.int kind), .unset] []))) (fun _ k => XS.icmpYes X36.here hx rfl (pc0 := 85) (pc' := 106) rfl (hb hby at_85) rfl (feq (kd2 : ¬ (kind = (2 : Int32)))).2 (by decide) (by decide) k) ?_
      refine own_by (S' := (T36.setTop (mkF m 108 #[.val (.long q1), .second, .val (.int p2), .val (.long q3), .second, .val (.int p4), .val (.int p5), .val (.ref b29), .val (.long t), .second, .val (.int q), .val (.ref b35), .val (.int kind), .unset] [(.int kind)]))) (fun _ k => XS.iload X36.here hx rfl (hb hby at_106) rfl k) ?_
      refine own_by (S' := (T36.setTop (mkF m 109 #[.val (.long q1), .second, .val (.int p2), .val (.long q3), .second, .val (.int p4), .val (.int p5), .val (.ref b29), .val (.long t), .second, .val (.int q), .val (.ref b35), .val (.int kind), .unset] [(.int (3 : Int32)), (.int kind)]))) (fun _ k => XS.iconst X36.here hx rfl (hb hby at_108) k) ?_
      by_cases kd3 : kind = (3 : Int32)
      · refine own_by (S' := (T36.setTop (mkF m 112 #[.val (.long q1), .second, .val (.int p2), .val (.long q3), .second, .val (.int p4), .val (.int p5), .val (.ref b29), .val (.long t), .second, .val (.int q), .val (.ref b35), .val (.int kind), .unset] []))) (fun _ k => XS.icmpNo X36.here hx rfl (hb hby at_109) rfl (teq (kd3 : kind = (3 : Int32))).2 k) ?_
        refine own_by (S' := (T36.setTop (mkF m 114 #[.val (.long q1), .second, .val (.int p2), .val (.long q3), .second, .val (.int p4), .val (.int p5), .val (.ref b29), .val (.long t), .second, .val (.int q), .val (.ref b35), .val (.int kind), .unset] [(.ref b29)]))) (fun _ k => XS.aload X36.here hx rfl (hb hby at_112) rfl rfl k) ?_
        refine own_by (S' := (T36.setTop (mkF m 115 #[.val (.long q1), .second, .val (.int p2), .val (.long q3), .second, .val (.int p4), .val (.int p5), .val (.ref b29), .val (.long t), .second, .val (.int q), .val (.ref b35), .val (.int kind), .unset] [(.int p2), (.ref b29)]))) (fun _ k => XS.iloadN X36.here hx rfl (hb hby at_114) rfl k) ?_
        have hel : ¬ p2 < (-128 : Int32) → ¬ (127 : Int32) < p2 → ¬ (p2 + (128 : Int32)) < 0 ∧ ∃ b, cl.slots.toList[(p2 + (128 : Int32)).toNatClampNeg]? = some (.ref b) ∧ Exa Z T36.heap b "java/lang/Integer" := fun u1 u2 => by
          obtain ⟨u3, u4⟩ := Jvm.Free.IntBox.place_ok p2 u1 u2
          have u5 : ¬ (p2 + 128 < 0 ∨ cl.slots.size ≤ (p2 + 128).toNatClampNeg) := by rw [BX.2.1]; exact u3
          obtain ⟨b, b1, b2, -⟩ := BX.2.2.2 (p2 + 128) u5
          exact ⟨fun q => u3 (Or.inl q), b, by rw [Array.getElem?_toList]; exact b1, b2.ext O.2⟩
        obtain ⟨_, _, ⟨T40, L40, k40, n40⟩, -, X40, ⟨Lc40, hQ40, l40, y40, z40⟩, st40⟩ := Jvm.LawKit.callS X36 hx (y := (⟨"java/lang/Integer", "valueOf", "(I)Ljava/lang/Integer;"⟩ : MethodName)) hown (mvT hZ (hw _ (List.mem_of_getElem? (i := 44) rfl))) (mvT hZ (hw _ (List.mem_of_getElem? (i := 45) rfl))) (mvT hZ (hw _ (List.mem_of_getElem? (i := 46) rfl))) (mvT hZ (hw _ (List.mem_of_getElem? (i := 47) rfl))) (by decide) (backOf (W := 1) (rm7 l Z a0 hw [] p2 ca cl.slots.toList T36.heap n0 Zn (SH.ext O.2) (SC.ext O.2) ⟨cl, BX.1.ext O.2, rfl⟩ hel) hZ (hw _ (List.mem_of_getElem? (i := 47) rfl)) (hw _ (List.mem_of_getElem? (i := 46) rfl)) (by decide) (by decide)) (g := (mkF m 115 #[.val (.long q1), .second, .val (.int p2), .val (.long q3), .second, .val (.int p4), .val (.int p5), .val (.ref b29), .val (.long t), .second, .val (.int q), .val (.ref b35), .val (.int kind), .unset] [(.int p2), (.ref b29)])) rfl (by rw [hml]; rfl) (argsL := [(.int p2)]) (rest := [(.ref b29)]) (lenOf pd__28I_29Ljava_2flang_2fInteger_3b rfl) rfl (by show 2 * 0 + _ ≤ _; exact Nat.le_of_eq rfl) (hb hby at_115) (fun _ _ => ⟨rfl, rfl, (by decide : 2 + 1 ≤ _), (by decide : 4 + 1 ≤ _)⟩)
        dsimp only [Pt.U, Pt.locs, Pt.cells, Pt.slots] at X40 l40 y40 z40 st40 hQ40
        subst l40 y40 z40
        obtain ⟨bx, rfl, N40q, Kc, E_bx⟩ := hQ40
        have N := Fr.app N N40q
        have O := O.keep Kc all0
        have E_b29 := E_b29.keep Kc
        have F_b29_start := F_b29_start.keep Kc nin0
        have F_b29_seriesPartition := F_b29_seriesPartition.keep Kc nin0
        have E_b35 := E_b35.keep Kc
        have F_b35_start := F_b35_start.keep Kc nin0
        have F_b35_seriesPartition := F_b35_seriesPartition.keep Kc nin0
        have Zn : n0 ≤ _ := Nat.le_trans Zn Kc.1
        have K := K.trans Kc all0
        refine own_by (S' := (T40.setTop (mkF m 118 #[.val (.long q1), .second, .val (.int p2), .val (.long q3), .second, .val (.int p4), .val (.int p5), .val (.ref b29), .val (.long t), .second, .val (.int q), .val (.ref b35), .val (.int kind), .unset] [(.ref bx), (.ref b29)]))) st40 ?_
        obtain ⟨cq41, kq41, q41a, q41b, q41c⟩ := isOf hZ rfl E_b29
        obtain ⟨_, _, ⟨T41, L41, k41, n41⟩, -, X41, ⟨Lc41, hQ41, l41, y41, z41⟩, st41⟩ := X40.virtualBack hx (y := (⟨"com/example/tideline/tideline/model/DataPartition", "equals", "(Ljava/lang/Object;)Z"⟩ : MethodName)) (z := (⟨"com/example/tideline/tideline/model/DataPartition", "equals", "(Ljava/lang/Object;)Z"⟩ : MethodName)) hown (mvT hZ (hw _ (List.mem_of_getElem? (i := 13) rfl))) (mvT hZ (hw _ (List.mem_of_getElem? (i := 14) rfl))) (notFace_of_selects (args := #[]) (mvT hZ (hw _ (List.mem_of_getElem? (i := 16) rfl)))) (mvT hZ (hw _ (List.mem_of_getElem? (i := 16) rfl))) (mvT hZ (hw _ (List.mem_of_getElem? (i := 15) rfl))) (by decide) (backOf (W := 0) (rm3_i l Z a0 hw [] b29 bx T40.heap n0 Zn E_bx) hZ (hw _ (List.mem_of_getElem? (i := 17) rfl)) (hw _ (List.mem_of_getElem? (i := 2) rfl)) (by decide) (by decide)) q41a q41c (g := (mkF m 118 #[.val (.long q1), .second, .val (.int p2), .val (.long q3), .second, .val (.int p4), .val (.int p5), .val (.ref b29), .val (.long t), .second, .val (.int q), .val (.ref b35), .val (.int kind), .unset] [(.ref bx), (.ref b29)])) rfl (by rw [hml]; rfl) (Steps.refl _) (argsL := [(.ref bx)]) (rest := []) (lenOf pd__28Ljava_2flang_2fObject_3b_29Z rfl) rfl (by show 2 * 0 + _ ≤ _; exact Nat.le_of_eq rfl) (hb hby at_118) (fun _ _ => ⟨rfl, rfl, (by decide : 3 + 0 ≤ _), (by decide : 5 + 0 ≤ _)⟩)
        dsimp only [Pt.U, Pt.locs, Pt.cells, Pt.slots] at X41 l41 y41 z41 st41 hQ41
        subst l41 y41 z41
        obtain ⟨rfl, N41q, ehi⟩ := hQ41
        have N := Fr.app N N41q
        refine own_tr (S' := (T41.setTop (mkF m 121 #[.val (.long q1), .second, .val (.int p2), .val (.long q3), .second, .val (.int p4), .val (.int p5), .val (.ref b29), .val (.long t), .second, .val (.int q), .val (.ref b35), .val (.int kind), .unset] [(.int (0 : Int32))]))) st41 ?_
        refine own_by (S' := (T41.setTop (mkF m 124 #[.val (.long q1), .second, .val (.int p2), .val (.long q3), .second, .val (.int p4), .val (.int p5), .val (.ref b29), .val (.long t), .second, .val (.int q), .val (.ref b35), .val (.int kind), .unset] []))) (fun _ k => XS.ifNo X41.here hx rfl (hb hby at_121) rfl ((if0 _ _).trans (teq ((by decide) : (0 : Int32) = (0 : Int32))).2) k) ?_
        refine own_by (S' := (T41.setTop (mkF m 125 #[.val (.long q1), .second, .val (.int p2), .val (.long q3), .second, .val (.int p4), .val (.int p5), .val (.ref b29), .val (.long t), .second, .val (.int q), .val (.ref b35), .val (.int kind), .unset] [(.int (1 : Int32))]))) (fun _ k => XS.iconst X41.here hx rfl (hb hby at_124) k) ?_
        refine own_by (S' := (T41.setTop (mkF m 129 #[.val (.long q1), .second, .val (.int p2), .val (.long q3), .second, .val (.int p4), .val (.int p5), .val (.ref b29), .val (.long t), .second, .val (.int q), .val (.ref b35), .val (.int kind), .unset] [(.int (1 : Int32))]))) (fun _ k => XS.goto X41.here hx rfl (pc0 := 125) (pc' := 129) rfl (hb hby at_125) (by decide) (by decide) k) ?_
        exact own_ret X41 hx (t := .boolean) Bd.returns rfl (Or.inl ⟨rfl, by simp, _, rfl⟩) (hb hby at_129) hlk (by decide : 3 ≤ _) (by decide : 5 ≤ _) (by rw [ehi]; exact ⟨rfl, N⟩)
      · refine own_by (S' := (T36.setTop (mkF m 130 #[.val (.long q1), .second, .val (.int p2), .val (.long q3), .second, .val (.int p4), .val (.int p5), .val (.ref b29), .val (.long t), .second, .val (.int q), .val (.ref b35), .val (.int kind), .unset] []))) (fun _ k => XS.icmpYes X36.here hx rfl (pc0 := 109) (pc' := 130) rfl (hb hby at_109) rfl (feq (kd3 : ¬ (kind = (3 : Int32)))).2 (by decide) (by decide) k) ?_
        refine own_by (S' := (T36.setTop (mkF m 132 #[.val (.long q1), .second, .val (.int p2), .val (.long q3), .second, .val (.int p4), .val (.int p5), .val (.ref b29), .val (.long t), .second, .val (.int q), .val (.ref b35), .val (.int kind), .unset] [(.long t)]))) (fun _ k => XS.lload X36.here hx rfl (hb hby at_130) rfl k) ?_
        refine own_by (S' := (T36.setTop (mkF m 133 #[.val (.long q1), .second, .val (.int p2), .val (.long q3), .second, .val (.int p4), .val (.int p5), .val (.ref b29), .val (.long t), .second, .val (.int q), .val (.ref b35), .val (.int kind), .unset] [(.long q1), (.long t)]))) (fun _ k => XS.lloadN X36.here hx rfl (hb hby at_132) rfl k) ?_
        refine own_by (S' := (T36.setTop (mkF m 134 #[.val (.long q1), .second, .val (.int p2), .val (.long q3), .second, .val (.int p4), .val (.int p5), .val (.ref b29), .val (.long t), .second, .val (.int q), .val (.ref b35), .val (.int kind), .unset] [(.int (lcmpW t q1))]))) (fun _ k => XS.lcmp X36.here hx rfl (hb hby at_133) rfl k) ?_
        suffices J42 : ∀ (ex : Int32), ex = own_eq q1 p2 t q → own_fin p e below s room_1.cells room_1.slots (Q_rm0 Z q1 p2 q3 p4 p5 ca cl da dl h0 n0) (T36.setTop (mkF m 148 #[.val (.long q1), .second, .val (.int p2), .val (.long q3), .second, .val (.int p4), .val (.int p5), .val (.ref b29), .val (.long t), .second, .val (.int q), .val (.ref b35), .val (.int kind), .unset] [(.int ex)])) by
          by_cases g1 : (lcmpW t q1) = (0 : Int32)
          · refine own_by (S' := (T36.setTop (mkF m 137 #[.val (.long q1), .second, .val (.int p2), .val (.long q3), .second, .val (.int p4), .val (.int p5), .val (.ref b29), .val (.long t), .second, .val (.int q), .val (.ref b35), .val (.int kind), .unset] []))) (fun _ k => XS.ifNo X36.here hx rfl (hb hby at_134) rfl ((if0 _ _).trans (teq (g1 : (lcmpW t q1) = (0 : Int32))).2) k) ?_
            refine own_by (S' := (T36.setTop (mkF m 139 #[.val (.long q1), .second, .val (.int p2), .val (.long q3), .second, .val (.int p4), .val (.int p5), .val (.ref b29), .val (.long t), .second, .val (.int q), .val (.ref b35), .val (.int kind), .unset] [(.int q)]))) (fun _ k => XS.iload X36.here hx rfl (hb hby at_137) rfl k) ?_
            refine own_by (S' := (T36.setTop (mkF m 140 #[.val (.long q1), .second, .val (.int p2), .val (.long q3), .second, .val (.int p4), .val (.int p5), .val (.ref b29), .val (.long t), .second, .val (.int q), .val (.ref b35), .val (.int kind), .unset] [(.int p2), (.int q)]))) (fun _ k => XS.iloadN X36.here hx rfl (hb hby at_139) rfl k) ?_
            by_cases g2 : q = p2
            · refine own_by (S' := (T36.setTop (mkF m 143 #[.val (.long q1), .second, .val (.int p2), .val (.long q3), .second, .val (.int p4), .val (.int p5), .val (.ref b29), .val (.long t), .second, .val (.int q), .val (.ref b35), .val (.int kind), .unset] []))) (fun _ k => XS.icmpNo X36.here hx rfl (hb hby at_140) rfl (teq (g2 : q = p2)).2 k) ?_
              refine own_by (S' := (T36.setTop (mkF m 144 #[.val (.long q1), .second, .val (.int p2), .val (.long q3), .second, .val (.int p4), .val (.int p5), .val (.ref b29), .val (.long t), .second, .val (.int q), .val (.ref b35), .val (.int kind), .unset] [(.int (1 : Int32))]))) (fun _ k => XS.iconst X36.here hx rfl (hb hby at_143) k) ?_
              refine own_by (S' := (T36.setTop (mkF m 148 #[.val (.long q1), .second, .val (.int p2), .val (.long q3), .second, .val (.int p4), .val (.int p5), .val (.ref b29), .val (.long t), .second, .val (.int q), .val (.ref b35), .val (.int kind), .unset] [(.int (1 : Int32))]))) (fun _ k => XS.goto X36.here hx rfl (pc0 := 144) (pc' := 148) rfl (hb hby at_144) (by decide) (by decide) k) ?_
              exact J42 _ (by rw [own_eq, if_pos g1, if_pos g2])
            · refine own_by (S' := (T36.setTop (mkF m 147 #[.val (.long q1), .second, .val (.int p2), .val (.long q3), .second, .val (.int p4), .val (.int p5), .val (.ref b29), .val (.long t), .second, .val (.int q), .val (.ref b35), .val (.int kind), .unset] []))) (fun _ k => XS.icmpYes X36.here hx rfl (pc0 := 140) (pc' := 147) rfl (hb hby at_140) rfl (feq (g2 : ¬ (q = p2))).2 (by decide) (by decide) k) ?_
              refine own_by (S' := (T36.setTop (mkF m 148 #[.val (.long q1), .second, .val (.int p2), .val (.long q3), .second, .val (.int p4), .val (.int p5), .val (.ref b29), .val (.long t), .second, .val (.int q), .val (.ref b35), .val (.int kind), .unset] [(.int (0 : Int32))]))) (fun _ k => XS.iconst X36.here hx rfl (hb hby at_147) k) ?_
              exact J42 _ (by rw [own_eq, if_pos g1, if_neg g2])
          · refine own_by (S' := (T36.setTop (mkF m 147 #[.val (.long q1), .second, .val (.int p2), .val (.long q3), .second, .val (.int p4), .val (.int p5), .val (.ref b29), .val (.long t), .second, .val (.int q), .val (.ref b35), .val (.int kind), .unset] []))) (fun _ k => XS.ifYes X36.here hx rfl (pc0 := 134) (pc' := 147) rfl (hb hby at_134) rfl ((if0 _ _).trans (feq (g1 : ¬ ((lcmpW t q1) = (0 : Int32)))).2) (by decide) (by decide) k) ?_
            refine own_by (S' := (T36.setTop (mkF m 148 #[.val (.long q1), .second, .val (.int p2), .val (.long q3), .second, .val (.int p4), .val (.int p5), .val (.ref b29), .val (.long t), .second, .val (.int q), .val (.ref b35), .val (.int kind), .unset] [(.int (0 : Int32))]))) (fun _ k => XS.iconst X36.here hx rfl (hb hby at_147) k) ?_
            exact J42 _ (by rw [own_eq, if_neg g1])
        intro ex hex
        refine own_by (S' := (T36.setTop (mkF m 150 #[.val (.long q1), .second, .val (.int p2), .val (.long q3), .second, .val (.int p4), .val (.int p5), .val (.ref b29), .val (.long t), .second, .val (.int q), .val (.ref b35), .val (.int kind), .val (.int ex)] []))) (fun _ k => XS.istore X36.here hx rfl (hb hby at_148) rfl (l' := #[.val (.long q1), .second, .val (.int p2), .val (.long q3), .second, .val (.int p4), .val (.int p5), .val (.ref b29), .val (.long t), .second, .val (.int q), .val (.ref b35), .val (.int kind), .val (.int ex)]) rfl k) ?_
        refine own_by (S' := (T36.setTop (mkF m 152 #[.val (.long q1), .second, .val (.int p2), .val (.long q3), .second, .val (.int p4), .val (.int p5), .val (.ref b29), .val (.long t), .second, .val (.int q), .val (.ref b35), .val (.int kind), .val (.int ex)] [(.ref b29)]))) (fun _ k => XS.aload X36.here hx rfl (hb hby at_150) rfl rfl k) ?_
        refine own_by (S' := (T36.setTop (mkF m 154 #[.val (.long q1), .second, .val (.int p2), .val (.long q3), .second, .val (.int p4), .val (.int p5), .val (.ref b29), .val (.long t), .second, .val (.int q), .val (.ref b35), .val (.int kind), .val (.int ex)] [(.ref b35), (.ref b29)]))) (fun _ k => XS.aload X36.here hx rfl (hb hby at_152) rfl rfl k) ?_
        obtain ⟨cq44, kq44, q44a, q44b, q44c⟩ := isOf hZ rfl E_b29
        obtain ⟨_, _, ⟨T44, L44, k44, n44⟩, -, X44, ⟨Lc44, hQ44, l44, y44, z44⟩, st44⟩ := X36.virtualBack hx (y := (⟨"com/example/tideline/tideline/model/DataPartition", "equals", "(Ljava/lang/Object;)Z"⟩ : MethodName)) (z := (⟨"com/example/tideline/tideline/model/DataPartition", "equals", "(Ljava/lang/Object;)Z"⟩ : MethodName)) hown (mvT hZ (hw _ (List.mem_of_getElem? (i := 13) rfl))) (mvT hZ (hw _ (List.mem_of_getElem? (i := 14) rfl))) (notFace_of_selects (args := #[]) (mvT hZ (hw _ (List.mem_of_getElem? (i := 16) rfl)))) (mvT hZ (hw _ (List.mem_of_getElem? (i := 16) rfl))) (mvT hZ (hw _ (List.mem_of_getElem? (i := 15) rfl))) (by decide) (backOf (W := 0) (rm3_t l Z a0 hw [] b29 b35 q1 p2 t q T36.heap n0 Zn E_b35 F_b29_start F_b29_seriesPartition F_b35_start F_b35_seriesPartition) hZ (hw _ (List.mem_of_getElem? (i := 17) rfl)) (hw _ (List.mem_of_getElem? (i := 2) rfl)) (by decide) (by decide)) q44a q44c (g := (mkF m 154 #[.val (.long q1), .second, .val (.int p2), .val (.long q3), .second, .val (.int p4), .val (.int p5), .val (.ref b29), .val (.long t), .second, .val (.int q), .val (.ref b35), .val (.int kind), .val (.int ex)] [(.ref b35), (.ref b29)])) rfl (by rw [hml]; rfl) (Steps.refl _) (argsL := [(.ref b35)]) (rest := []) (lenOf pd__28Ljava_2flang_2fObject_3b_29Z rfl) rfl (by show 2 * 0 + _ ≤ _; exact Nat.le_of_eq rfl) (hb hby at_154) (fun _ _ => ⟨rfl, rfl, (by decide : 2 + 0 ≤ _), (by decide : 4 + 0 ≤ _)⟩)
        dsimp only [Pt.U, Pt.locs, Pt.cells, Pt.slots] at X44 l44 y44 z44 st44 hQ44
        subst l44 y44 z44
        obtain ⟨rfl, N44q, eh43⟩ := hQ44
        have N := Fr.app N N44q
        refine own_tr (S' := (T44.setTop (mkF m 157 #[.val (.long q1), .second, .val (.int p2), .val (.long q3), .second, .val (.int p4), .val (.int p5), .val (.ref b29), .val (.long t), .second, .val (.int q), .val (.ref b35), .val (.int kind), .val (.int ex)] [(.int (own_eq q1 p2 t q))]))) st44 ?_
        refine own_by (S' := (T44.setTop (mkF m 159 #[.val (.long q1), .second, .val (.int p2), .val (.long q3), .second, .val (.int p4), .val (.int p5), .val (.ref b29), .val (.long t), .second, .val (.int q), .val (.ref b35), .val (.int kind), .val (.int ex)] [(.int ex), (.int (own_eq q1 p2 t q))]))) (fun _ k => XS.iload X44.here hx rfl (hb hby at_157) rfl k) ?_
        refine own_by (S' := (T44.setTop (mkF m 162 #[.val (.long q1), .second, .val (.int p2), .val (.long q3), .second, .val (.int p4), .val (.int p5), .val (.ref b29), .val (.long t), .second, .val (.int q), .val (.ref b35), .val (.int kind), .val (.int ex)] []))) (fun _ k => XS.icmpNo X44.here hx rfl (hb hby at_159) rfl (teq (hex.symm : (own_eq q1 p2 t q) = ex)).2 k) ?_
        refine own_by (S' := (T44.setTop (mkF m 164 #[.val (.long q1), .second, .val (.int p2), .val (.long q3), .second, .val (.int p4), .val (.int p5), .val (.ref b29), .val (.long t), .second, .val (.int q), .val (.ref b35), .val (.int kind), .val (.int ex)] [(.ref b35)]))) (fun _ k => XS.aload X44.here hx rfl (hb hby at_162) rfl rfl k) ?_
        refine own_by (S' := (T44.setTop (mkF m 166 #[.val (.long q1), .second, .val (.int p2), .val (.long q3), .second, .val (.int p4), .val (.int p5), .val (.ref b29), .val (.long t), .second, .val (.int q), .val (.ref b35), .val (.int kind), .val (.int ex)] [(.ref b29), (.ref b35)]))) (fun _ k => XS.aload X44.here hx rfl (hb hby at_164) rfl rfl k) ?_
        obtain ⟨cq46, kq46, q46a, q46b, q46c⟩ := isOf hZ eh43 E_b35
        obtain ⟨_, _, ⟨T46, L46, k46, n46⟩, -, X46, ⟨Lc46, hQ46, l46, y46, z46⟩, st46⟩ := X44.virtualBack hx (y := (⟨"com/example/tideline/tideline/model/DataPartition", "equals", "(Ljava/lang/Object;)Z"⟩ : MethodName)) (z := (⟨"com/example/tideline/tideline/model/DataPartition", "equals", "(Ljava/lang/Object;)Z"⟩ : MethodName)) hown (mvT hZ (hw _ (List.mem_of_getElem? (i := 13) rfl))) (mvT hZ (hw _ (List.mem_of_getElem? (i := 14) rfl))) (notFace_of_selects (args := #[]) (mvT hZ (hw _ (List.mem_of_getElem? (i := 16) rfl)))) (mvT hZ (hw _ (List.mem_of_getElem? (i := 16) rfl))) (mvT hZ (hw _ (List.mem_of_getElem? (i := 15) rfl))) (by decide) (backOf (W := 0) (rm3_t l Z a0 hw [] b35 b29 t q q1 p2 T36.heap n0 Zn E_b29 F_b35_start F_b35_seriesPartition F_b29_start F_b29_seriesPartition) hZ (hw _ (List.mem_of_getElem? (i := 17) rfl)) (hw _ (List.mem_of_getElem? (i := 2) rfl)) (by decide) (by decide)) q46a q46c (g := (mkF m 166 #[.val (.long q1), .second, .val (.int p2), .val (.long q3), .second, .val (.int p4), .val (.int p5), .val (.ref b29), .val (.long t), .second, .val (.int q), .val (.ref b35), .val (.int kind), .val (.int ex)] [(.ref b29), (.ref b35)])) rfl (by rw [hml]; rfl) (Steps.refl _) (argsL := [(.ref b29)]) (rest := []) (lenOf pd__28Ljava_2flang_2fObject_3b_29Z rfl) rfl (by show 2 * 0 + _ ≤ _; exact Nat.le_of_eq rfl) (hb hby at_166) (fun _ _ => ⟨rfl, eh43, (by decide : 2 + 0 ≤ _), (by decide : 4 + 0 ≤ _)⟩)
        dsimp only [Pt.U, Pt.locs, Pt.cells, Pt.slots] at X46 l46 y46 z46 st46 hQ46
        subst l46 y46 z46
        obtain ⟨rfl, N46q, eh45⟩ := hQ46
        have N := Fr.app N N46q
        refine own_tr (S' := (T46.setTop (mkF m 169 #[.val (.long q1), .second, .val (.int p2), .val (.long q3), .second, .val (.int p4), .val (.int p5), .val (.ref b29), .val (.long t), .second, .val (.int q), .val (.ref b35), .val (.int kind), .val (.int ex)] [(.int (own_eq t q q1 p2))]))) st46 ?_
        refine own_by (S' := (T46.setTop (mkF m 171 #[.val (.long q1), .second, .val (.int p2), .val (.long q3), .second, .val (.int p4), .val (.int p5), .val (.ref b29), .val (.long t), .second, .val (.int q), .val (.ref b35), .val (.int kind), .val (.int ex)] [(.int ex), (.int (own_eq t q q1 p2))]))) (fun _ k => XS.iload X46.here hx rfl (hb hby at_169) rfl k) ?_
        refine own_by (S' := (T46.setTop (mkF m 174 #[.val (.long q1), .second, .val (.int p2), .val (.long q3), .second, .val (.int p4), .val (.int p5), .val (.ref b29), .val (.long t), .second, .val (.int q), .val (.ref b35), .val (.int kind), .val (.int ex)] []))) (fun _ k => XS.icmpNo X46.here hx rfl (hb hby at_171) rfl (teq (((own_eqc _ _ _ _).trans hex.symm) : (own_eq t q q1 p2) = ex)).2 k) ?_
        refine own_by (S' := (T46.setTop (mkF m 176 #[.val (.long q1), .second, .val (.int p2), .val (.long q3), .second, .val (.int p4), .val (.int p5), .val (.ref b29), .val (.long t), .second, .val (.int q), .val (.ref b35), .val (.int kind), .val (.int ex)] [(.ref b29)]))) (fun _ k => XS.aload X46.here hx rfl (hb hby at_174) rfl rfl k) ?_
        refine own_by (S' := (T46.setTop (mkF m 178 #[.val (.long q1), .second, .val (.int p2), .val (.long q3), .second, .val (.int p4), .val (.int p5), .val (.ref b29), .val (.long t), .second, .val (.int q), .val (.ref b35), .val (.int kind), .val (.int ex)] [(.ref b29), (.ref b29)]))) (fun _ k => XS.aload X46.here hx rfl (hb hby at_176) rfl rfl k) ?_
        obtain ⟨cq48, kq48, q48a, q48b, q48c⟩ := isOf hZ eh45 E_b29
        obtain ⟨_, _, ⟨T48, L48, k48, n48⟩, -, X48, ⟨Lc48, hQ48, l48, y48, z48⟩, st48⟩ := X46.virtualBack hx (y := (⟨"com/example/tideline/tideline/model/DataPartition", "equals", "(Ljava/lang/Object;)Z"⟩ : MethodName)) (z := (⟨"com/example/tideline/tideline/model/DataPartition", "equals", "(Ljava/lang/Object;)Z"⟩ : MethodName)) hown (mvT hZ (hw _ (List.mem_of_getElem? (i := 13) rfl))) (mvT hZ (hw _ (List.mem_of_getElem? (i := 14) rfl))) (notFace_of_selects (args := #[]) (mvT hZ (hw _ (List.mem_of_getElem? (i := 16) rfl)))) (mvT hZ (hw _ (List.mem_of_getElem? (i := 16) rfl))) (mvT hZ (hw _ (List.mem_of_getElem? (i := 15) rfl))) (by decide) (backOf (W := 0) (rm3_t l Z a0 hw [] b29 b29 q1 p2 q1 p2 T36.heap n0 Zn E_b29 F_b29_start F_b29_seriesPartition F_b29_start F_b29_seriesPartition) hZ (hw _ (List.mem_of_getElem? (i := 17) rfl)) (hw _ (List.mem_of_getElem? (i := 2) rfl)) (by decide) (by decide)) q48a q48c (g := (mkF m 178 #[.val (.long q1), .second, .val (.int p2), .val (.long q3), .second, .val (.int p4), .val (.int p5), .val (.ref b29), .val (.long t), .second, .val (.int q), .val (.ref b35), .val (.int kind), .val (.int ex)] [(.ref b29), (.ref b29)])) rfl (by rw [hml]; rfl) (Steps.refl _) (argsL := [(.ref b29)]) (rest := []) (lenOf pd__28Ljava_2flang_2fObject_3b_29Z rfl) rfl (by show 2 * 0 + _ ≤ _; exact Nat.le_of_eq rfl) (hb hby at_178) (fun _ _ => ⟨rfl, eh45, (by decide : 2 + 0 ≤ _), (by decide : 4 + 0 ≤ _)⟩)
        dsimp only [Pt.U, Pt.locs, Pt.cells, Pt.slots] at X48 l48 y48 z48 st48 hQ48
        subst l48 y48 z48
        obtain ⟨rfl, N48q, eh47⟩ := hQ48
        have N := Fr.app N N48q
        refine own_tr (S' := (T48.setTop (mkF m 181 #[.val (.long q1), .second, .val (.int p2), .val (.long q3), .second, .val (.int p4), .val (.int p5), .val (.ref b29), .val (.long t), .second, .val (.int q), .val (.ref b35), .val (.int kind), .val (.int ex)] [(.int (own_eq q1 p2 q1 p2))]))) st48 ?_
        refine own_by (S' := (T48.setTop (mkF m 184 #[.val (.long q1), .second, .val (.int p2), .val (.long q3), .second, .val (.int p4), .val (.int p5), .val (.ref b29), .val (.long t), .second, .val (.int q), .val (.ref b35), .val (.int kind), .val (.int ex)] []))) (fun _ k => XS.ifNo X48.here hx rfl (hb hby at_181) rfl ((if0 _ _).trans (feq ((by rw [own_eqs]; decide) : ¬ ((own_eq q1 p2 q1 p2) = (0 : Int32)))).1) k) ?_
        refine own_by (S' := (T48.setTop (mkF m 185 #[.val (.long q1), .second, .val (.int p2), .val (.long q3), .second, .val (.int p4), .val (.int p5), .val (.ref b29), .val (.long t), .second, .val (.int q), .val (.ref b35), .val (.int kind), .val (.int ex)] [(.int (1 : Int32))]))) (fun _ k => XS.iconst X48.here hx rfl (hb hby at_184) k) ?_
        refine own_by (S' := (T48.setTop (mkF m 189 #[.val (.long q1), .second, .val (.int p2), .val (.long q3), .second, .val (.int p4), .val (.int p5), .val (.ref b29), .val (.long t), .second, .val (.int q), .val (.ref b35), .val (.int kind), .val (.int ex)] [(.int (1 : Int32))]))) (fun _ k => XS.goto X48.here hx rfl (pc0 := 185) (pc' := 189) rfl (hb hby at_185) (by decide) (by decide) k) ?_
        exact own_ret X48 hx (t := .boolean) Bd.returns rfl (Or.inl ⟨rfl, by simp, _, rfl⟩) (hb hby at_189) hlk (by decide : 2 ≤ _) (by decide : 4 ≤ _) (by rw [eh47]; exact ⟨rfl, N⟩)
set_option maxRecDepth 65536 in
set_option maxHeartbeats 40000000 in
theorem comes_1 {Post : Tables → Env → Array Value → State → Outcome → State → Prop} (hpost : ∀ tb e args s v u, (limb_1_1.after args s (.returned v) u = true ∧ limb_1_2.after args s (.returned v) u = true ∧ True) → FrameEnd s (.returned v) u (Jvm.fieldLocs frame_1_writes args s ++ Jvm.arrayLocs frame_1_arrays args s ++ Jvm.staticLocs frame_1_statics s) 16 128 → Post tb e args s (.returned v) u) :
    ArmFor flags0 classFile x code maxLocals ret World_1 tables_1 room_1 Calls_1 rest_1 Pre_1 Post := by
  intro l hfl _ _ p e ha hc hk s m args below hf hA hF happ hP
  obtain ⟨hcalls, hrest, hpre⟩ := hP
  obtain ⟨-, -, -, hnamed, -, -, -, hat⟩ := (Spec.applies_iff hf).mp happ
  obtain ⟨hg, hn⟩ := and_e (Cond.before_iff.mp (show (Jvm.Cond.and given_1 narrow_1).before args s = true from hpre))
  obtain ⟨gc, gr⟩ := and_e hg
  obtain ⟨g0, gr⟩ := and_e gr
  obtain ⟨g1, gr⟩ := and_e gr
  obtain ⟨g2, gr⟩ := and_e gr
  obtain ⟨g3, gr⟩ := and_e gr
  have g4 := gr
  obtain ⟨w0, w1, w2, w3, w4, rfl⟩ : ∃ w0 w1 w2 w3 w4 : Value, args = #[w0, w1, w2, w3, w4] := by
    have hs : args.size = 5 := by simpa [Cond.value, given_1] using gc
    obtain ⟨L⟩ := args
    match L, hs with
    | [w0, w1, w2, w3, w4], _ => exact ⟨w0, w1, w2, w3, w4, rfl⟩
  have hw := fun d (hd : d ∈ tables_1) => atoms_spec (ws := Jvm.Cond.code x code maxLocals ret :: tables_1) hat d (List.mem_cons_of_mem _ hd)
  have hfit : Fit s := fun {y c} hc i hi => by
    obtain ⟨ha, rfl⟩ := Array.getElem?_eq_some_iff.mp hc
    have q := List.all_eq_true.mp ((Array.all_eq_true_iff_forall_mem.mp hF) _ (Array.getElem_mem ha)) i (List.mem_range.mpr hi)
    simpa [Array.getElem?_eq_getElem hi] using q
  obtain ⟨hsets, hown0⟩ := atoms_of _ (rest_1_c_eq ▸ (show rest_1_c.before _ s = true from hrest))
  obtain ⟨i0, ei0⟩ := isL_v g0
  obtain rfl : w0 = (.long i0) := Option.some.inj ei0
  obtain ⟨i1, ei1⟩ := is_v g1
  obtain rfl : w1 = (.int i1) := Option.some.inj ei1
  obtain ⟨i2, ei2⟩ := isL_v g2
  obtain rfl : w2 = (.long i2) := Option.some.inj ei2
  obtain ⟨i3, ei3⟩ := is_v g3
  obtain rfl : w3 = (.int i3) := Option.some.inj ei3
  obtain ⟨i4, ei4⟩ := is_v g4
  obtain rfl : w4 = (.int i4) := Option.some.inj ei4
  obtain ⟨ca, eca⟩ := exa_v (Cond.before_iff.mp (hsets _ (List.mem_of_getElem? (i := 5) rfl)))
  have SC := Sta.start eca (Or.inr ⟨(hw _ (List.mem_of_getElem? (i := 49) rfl)), (hsets _ (List.mem_of_getElem? (i := 2) rfl))⟩)
  have SH := Sta.start (eqv_i (Term.int_eval (127 : Int32)) (Cond.before_iff.mp (hsets _ (List.mem_of_getElem? (i := 3) rfl)))) (Or.inl (hsets _ (List.mem_of_getElem? (i := 1) rfl)))
  obtain ⟨cl, AC⟩ := Arr.start eca (Cond.before_iff.mp (hsets _ (List.mem_of_getElem? (i := 4) rfl)))
  obtain ⟨hsz, hsz2⟩ := own_length (Cond.before_iff.mp (hsets _ (List.mem_of_getElem? (i := 6) rfl))) eca AC
  have BX : Bxs s ca cl "java/lang/Integer" "I" (256 : Int32) (fun j => .int (j - 128)) := Bxs.start (fun idx => own_static_idx eca idx) AC hsz hsz2 (by decide) (Cond.before_iff.mp (hsets _ (List.mem_of_getElem? (i := 7) rfl))) (fun X j hj q => eqv_i (own_idx128 hj) q)
  obtain ⟨da, eda⟩ := exa_v (Cond.before_iff.mp (hsets _ (List.mem_of_getElem? (i := 11) rfl)))
  have SD := Sta.start eda (Or.inl (hsets _ (List.mem_of_getElem? (i := 9) rfl)))
  obtain ⟨dl, AD⟩ := Arr.start eda (Cond.before_iff.mp (hsets _ (List.mem_of_getElem? (i := 10) rfl)))
  obtain ⟨hsd, hsd2⟩ := own_length (Cond.before_iff.mp (hsets _ (List.mem_of_getElem? (i := 12) rfl))) eda AD
  have BD : Bxs s da dl "java/lang/Long" "J" (256 : Int32) (fun j => .long (j - 128).toInt64) := Bxs.start (fun idx => own_static_idx eda idx) AD hsd hsd2 (by decide) (Cond.before_iff.mp (hsets _ (List.mem_of_getElem? (i := 13) rfl))) (fun X j hj q => eqv_l (i2l_at (own_idx128 hj)) q)
  obtain ⟨n, o, h1, h2, h3, _, L, rfl, ⟨rfl, N⟩, hq⟩ := rm0 l s _ hw tables_1 i0 i1 i2 i3 i4 ca cl da dl s.heap s.heap.size (Nat.le_refl _) (Old.start s) SH SC BX SD BD p e ha hc hk s m _ below hf ((Spec.applies_iff_loose hf).mp happ).1 ⟨rfl, State.Warmed39.refl s, rfl⟩ trivial
  refine ⟨n, _, h1, h2, h3, hpost _ _ _ _ _ _ ⟨Cond.after_iff.mpr rfl, Cond.after_iff.mpr (eq_i res_at (Term.int_eval (1)) rfl), trivial⟩ ⟨hq.1, hq.2.1, (hq.2.2.sift fun y hy => Or.inr (N y hy)).mono (by decide) (by decide)⟩⟩
theorem main_1_1 : Claimed_1_1 := comes_1 fun _ _ _ _ _ _ h hF => ⟨h.1, hF⟩
theorem main_1_2 : Claimed_1_2 := comes_1 fun _ _ _ _ _ _ h hF => ⟨h.2.1, hF⟩
end Jvm.Pilot.@@N@@
namespace Jvm.Pilot.@@N@@
open Jvm Jvm.ClassFile Sem Op Lib Jvm.Free Jvm.Stand Jvm.Pilot.@@N@@.Jvm.D
/-! MADE BY PROGRAM (witnessworld.py) out of the Statement's table words and the real class files: 19 classes; the members and pool entries that the words name. The judged class is class 1, her method 1. -/
namespace start1
open Jvm.ClassFile
def u (s : String) : CpInfo := .utf8 (stringToUtf16 s)
/-- a pool by its gaps: so many unusable entries, then the entry; so many at the end -/
def gap : Nat → List CpInfo → List CpInfo
  | 0, r => r
  | n + 1, r => .unusable :: gap n r
def poolList (es : List (Nat × CpInfo)) (last : Nat) : List CpInfo := es.foldr (fun e r => gap e.1 (e.2 :: r)) (gap last [])
def pool (es : List (Nat × CpInfo)) (last : Nat) : Array CpInfo := ⟨poolList es last⟩
def fileOf (pool : Array CpInfo) (this : Nat) (attrs : Array Attribute := #[]) (ms : Array MethodInfo := #[]) (fl : Nat := 33) (sup : Nat := 0) (ifs : Array Nat := #[]) (fds : Array FieldInfo := #[]) : ClassFile where
  minorVersion := 0
  majorVersion := 65
  constantPool := pool
  accessFlags := fl
  thisClass := this
  superClass := sup
  interfaces := ifs
  fields := fds
  methods := ms
  attributes := attrs
def plain (name : String) (sup : Option ClassId) : Class where
  name := name
  kind := .ordinary
  loader := none
  accessFlags := 33
  super := sup
  interfaces := #[]
  cf := none
  fields := #[]
  methods := #[]
  instanceTypes := #[]
  staticTypes := #[]
  resolved := #[]
  callSites := []
  init := .initialized
  statics := none
  mirror := none

def pool0 : Array CpInfo := pool [(5, u "<init>"), (0, u "()V"), (1, .class_ 10), (1, u "java/lang/Object")] 113

def k0c0 : Code := { maxStack := 0, maxLocals := 1, code := object_method_1_code, exceptionTable := #[], attributes := #[] }
def k0m0 : Method := { name := "<init>", desc := "()V", sig := { parameters := [], returnType := none }, accessFlags := 1, code := some k0c0 }
/-- java/lang/Object -/
def k0 : Class := { plain "java/lang/Object" none with
  accessFlags := 33
  interfaces := #[]
  cf := some (fileOf pool0 8 #[] #[{ accessFlags := 1, nameIndex := 5, descriptorIndex := 6, attributes := #[] }] 33 0 #[] #[])
  fields := #[]
  methods := #[k0m0]
  instanceTypes := #[]
  staticTypes := #[]
  resolved := Array.replicate 124 none
  statics := none }

def pool1 : Array CpInfo := pool [(2, .class_ 4), (1, u "java/lang/Object"), (0, u "<init>"), (0, u "()V"), (0, .class_ 8), (0, u "com/example/tideline/tideline/model/DataPartition"), (0, .methodref 7 10), (0, .nameAndType 5 11), (0, u "(JI)V"), (0, .methodref 7 13), (0, .nameAndType 14 15), (0, u "equals"), (0, u "(Ljava/lang/Object;)Z"), (0, .methodref 17 18), (0, .class_ 19), (0, .nameAndType 20 21), (0, u "java/lang/Long"), (0, u "valueOf"), (0, u "(J)Ljava/lang/Long;"), (0, .methodref 23 24), (0, .class_ 25), (0, .nameAndType 20 26), (0, u "java/lang/Integer"), (0, u "(I)Ljava/lang/Integer;"), (0, .class_ 28), (0, u "com/example/tideline/tideline/model/DataPartitionEqualsPinLaw"), (2, u "law"), (0, u "(JIJII)Z")] 3

def k1m0 : Method := { name := "<init>", desc := "()V", sig := { parameters := [], returnType := none }, accessFlags := 1, code := none }
def k1c1 : Code := { maxStack := 5, maxLocals := 14, code := code, exceptionTable := #[], attributes := #[] }
def k1m1 : Method := { name := "law", desc := "(JIJII)Z", sig := { parameters := [.long, .int, .long, .int, .int], returnType := some .boolean }, accessFlags := 9, code := some k1c1 }
/-- com/example/tideline/tideline/model/DataPartitionEqualsPinLaw -/
def k1 : Class := { plain "com/example/tideline/tideline/model/DataPartitionEqualsPinLaw" (some 0) with
  accessFlags := 49
  interfaces := #[]
  cf := some (fileOf pool1 27 #[] #[{ accessFlags := 1, nameIndex := 5, descriptorIndex := 6, attributes := #[] }, { accessFlags := 9, nameIndex := 31, descriptorIndex := 32, attributes := #[] }] 49 2 #[] #[])
  fields := #[]
  methods := #[k1m0, k1m1]
  instanceTypes := #[]
  staticTypes := #[]
  resolved := Array.replicate 36 none
  statics := none }

def pool2 : Array CpInfo := pool [(1, .class_ 2), (0, u "java/lang/Comparable"), (0, .class_ 4), (0, u "java/lang/Object")] 7

/-- java/lang/Comparable -/
def k2 : Class := { plain "java/lang/Comparable" (some 0) with
  accessFlags := 1537
  interfaces := #[]
  cf := some (fileOf pool2 1 #[] #[] 1537 3 #[] #[])
  fields := #[]
  methods := #[]
  instanceTypes := #[]
  staticTypes := #[]
  resolved := Array.replicate 12 none
  statics := none }

def pool3 : Array CpInfo := pool [(1, .methodref 2 3), (0, .class_ 4), (0, .nameAndType 5 6), (0, u "java/lang/Object"), (0, u "<init>"), (0, u "()V"), (0, .fieldref 8 9), (0, .class_ 10), (0, .nameAndType 11 12), (0, u "com/example/tideline/tideline/model/DataPartition"), (0, u "start"), (0, u "J"), (0, .fieldref 8 14), (0, .nameAndType 15 16), (0, u "seriesPartition"), (0, u "I"), (55, u "(JI)V"), (46, .class_ 120), (0, u "java/lang/Comparable"), (14, u "equals"), (0, u "(Ljava/lang/Object;)Z")] 38

def k3c0 : Code := { maxStack := 3, maxLocals := 4, code := prog_36_method_1_code, exceptionTable := #[], attributes := #[] }
def k3m0 : Method := { name := "<init>", desc := "(JI)V", sig := { parameters := [.long, .int], returnType := none }, accessFlags := 1, code := some k3c0 }
def k3c1 : Code := { maxStack := 4, maxLocals := 2, code := prog_36_method_8_code, exceptionTable := #[], attributes := #[] }
def k3m1 : Method := { name := "equals", desc := "(Ljava/lang/Object;)Z", sig := { parameters := [(.object "java/lang/Object")], returnType := some .boolean }, accessFlags := 1, code := some k3c1 }
/-- com/example/tideline/tideline/model/DataPartition -/
def k3 : Class := { plain "com/example/tideline/tideline/model/DataPartition" (some 0) with
  accessFlags := 49
  interfaces := #[2]
  cf := some (fileOf pool3 8 #[] #[{ accessFlags := 1, nameIndex := 5, descriptorIndex := 72, attributes := #[] }, { accessFlags := 1, nameIndex := 135, descriptorIndex := 136, attributes := #[] }] 49 2 #[119] #[{ accessFlags := 18, nameIndex := 11, descriptorIndex := 12, attributes := #[] }, { accessFlags := 18, nameIndex := 15, descriptorIndex := 16, attributes := #[] }])
  fields := #[{ name := "start", type := .long, accessFlags := 18, slot := 0, constantValue := 0 }, { name := "seriesPartition", type := .int, accessFlags := 18, slot := 1, constantValue := 0 }]
  methods := #[k3m0, k3m1]
  instanceTypes := #[.long, .int]
  staticTypes := #[]
  resolved := Array.replicate 175 none
  statics := none }

def pool4 : Array CpInfo := pool [(1, .class_ 2), (0, u "java/io/Serializable"), (0, .class_ 4), (0, u "java/lang/Object")] 2

/-- java/io/Serializable -/
def k4 : Class := { plain "java/io/Serializable" (some 0) with
  accessFlags := 1537
  interfaces := #[]
  cf := some (fileOf pool4 1 #[] #[] 1537 3 #[] #[])
  fields := #[]
  methods := #[]
  instanceTypes := #[]
  staticTypes := #[]
  resolved := Array.replicate 7 none
  statics := none }

def pool5 : Array CpInfo := pool [(1, .methodref 2 3), (0, .class_ 4), (0, .nameAndType 5 6), (0, u "java/lang/Object"), (0, u "<init>"), (0, u "()V"), (1, .class_ 10), (1, u "java/lang/Number"), (2, .class_ 14), (0, u "java/io/Serializable"), (0, u "serialVersionUID"), (0, u "J")] 20

def k5c0 : Code := { maxStack := 1, maxLocals := 1, code := jdk_18_method_1_code, exceptionTable := #[], attributes := #[] }
def k5m0 : Method := { name := "<init>", desc := "()V", sig := { parameters := [], returnType := none }, accessFlags := 1, code := some k5c0 }
/-- java/lang/Number -/
def k5 : Class := { plain "java/lang/Number" (some 0) with
  accessFlags := 1057
  interfaces := #[4]
  cf := some (fileOf pool5 8 #[] #[{ accessFlags := 1, nameIndex := 5, descriptorIndex := 6, attributes := #[] }] 1057 2 #[13] #[{ accessFlags := 26, nameIndex := 15, descriptorIndex := 16, attributes := #[] }])
  fields := #[{ name := "serialVersionUID", type := .long, accessFlags := 26, slot := 0, constantValue := 0 }]
  methods := #[k5m0]
  instanceTypes := #[]
  staticTypes := #[.long]
  resolved := Array.replicate 37 none
  statics := none }

def pool6 : Array CpInfo := pool [(1, .class_ 2), (0, u "java/lang/constant/Constable"), (0, .class_ 4), (0, u "java/lang/Object")] 6

/-- java/lang/constant/Constable -/
def k6 : Class := { plain "java/lang/constant/Constable" (some 0) with
  accessFlags := 1537
  interfaces := #[]
  cf := some (fileOf pool6 1 #[] #[] 1537 3 #[] #[])
  fields := #[]
  methods := #[]
  instanceTypes := #[]
  staticTypes := #[]
  resolved := Array.replicate 11 none
  statics := none }

def pool7 : Array CpInfo := pool [(1, .class_ 2), (0, u "java/lang/constant/ConstantDesc"), (0, .class_ 4), (0, u "java/lang/Object")] 32

/-- java/lang/constant/ConstantDesc -/
def k7 : Class := { plain "java/lang/constant/ConstantDesc" (some 0) with
  accessFlags := 1537
  interfaces := #[]
  cf := some (fileOf pool7 1 #[] #[] 1537 3 #[] #[])
  fields := #[]
  methods := #[]
  instanceTypes := #[]
  staticTypes := #[]
  resolved := Array.replicate 37 none
  statics := none }

def pool8 : Array CpInfo := pool [(1, .class_ 2), (0, u "java/lang/Long"), (55, .nameAndType 59 60), (0, u "<init>"), (0, u "()V"), (24, u "valueOf"), (143, u "(J)Ljava/lang/Long;"), (0, .long 18446744073709551488), (1, .long 127), (1, .fieldref 235 236), (0, .class_ 237), (0, .nameAndType 238 239), (0, u "java/lang/Long$LongCache"), (0, u "cache"), (0, u "[Ljava/lang/Long;"), (0, .methodref 1 241), (0, .nameAndType 59 242), (0, u "(J)V"), (27, .methodref 271 58), (0, .class_ 272), (0, u "java/lang/Number"), (0, .fieldref 1 274), (0, .nameAndType 275 276), (0, u "value"), (0, u "J"), (84, u "TYPE"), (0, u "Ljava/lang/Class;"), (0, .class_ 364), (0, u "java/lang/Comparable"), (0, .class_ 366), (0, u "java/lang/constant/Constable"), (0, .class_ 368), (0, u "java/lang/constant/ConstantDesc"), (0, u "MIN_VALUE"), (1, u "MAX_VALUE"), (4, u "SIZE"), (0, u "I"), (1, u "BYTES"), (1, u "serialVersionUID")] 142

def k8c0 : Code := { maxStack := 4, maxLocals := 3, code := jdk_35_method_24_code, exceptionTable := #[], attributes := #[] }
def k8m0 : Method := { name := "valueOf", desc := "(J)Ljava/lang/Long;", sig := { parameters := [.long], returnType := some (.object "java/lang/Long") }, accessFlags := 9, code := some k8c0 }
def k8c1 : Code := { maxStack := 3, maxLocals := 3, code := jdk_35_method_26_code, exceptionTable := #[], attributes := #[] }
def k8m1 : Method := { name := "<init>", desc := "(J)V", sig := { parameters := [.long], returnType := none }, accessFlags := 1, code := some k8c1 }
/-- java/lang/Long -/
def k8 : Class := { plain "java/lang/Long" (some 5) with
  accessFlags := 49
  interfaces := #[2, 6, 7]
  cf := some (fileOf pool8 1 #[.nestMembers #[235]] #[{ accessFlags := 9, nameIndex := 85, descriptorIndex := 229, attributes := #[] }, { accessFlags := 1, nameIndex := 59, descriptorIndex := 242, attributes := #[] }] 49 271 #[363, 365, 367] #[{ accessFlags := 25, nameIndex := 369, descriptorIndex := 276, attributes := #[] }, { accessFlags := 25, nameIndex := 371, descriptorIndex := 276, attributes := #[] }, { accessFlags := 25, nameIndex := 361, descriptorIndex := 362, attributes := #[] }, { accessFlags := 18, nameIndex := 275, descriptorIndex := 276, attributes := #[] }, { accessFlags := 25, nameIndex := 376, descriptorIndex := 377, attributes := #[] }, { accessFlags := 25, nameIndex := 379, descriptorIndex := 377, attributes := #[] }, { accessFlags := 26, nameIndex := 381, descriptorIndex := 276, attributes := #[] }])
  fields := #[{ name := "MIN_VALUE", type := .long, accessFlags := 25, slot := 0, constantValue := 0 }, { name := "MAX_VALUE", type := .long, accessFlags := 25, slot := 1, constantValue := 0 }, { name := "TYPE", type := (.object "java/lang/Class"), accessFlags := 25, slot := 2, constantValue := 0 }, { name := "value", type := .long, accessFlags := 18, slot := 0, constantValue := 0 }, { name := "SIZE", type := .int, accessFlags := 25, slot := 3, constantValue := 0 }, { name := "BYTES", type := .int, accessFlags := 25, slot := 4, constantValue := 0 }, { name := "serialVersionUID", type := .long, accessFlags := 26, slot := 5, constantValue := 0 }]
  methods := #[k8m0, k8m1]
  instanceTypes := #[.long]
  staticTypes := #[.long, .long, (.object "java/lang/Class"), .int, .int, .long]
  resolved := Array.replicate 524 none
  statics := none }

def pool9 : Array CpInfo := pool [(1, .class_ 2), (0, u "java/lang/Integer"), (16, u "digits"), (0, u "[C"), (46, u "<init>"), (17, u "DigitOnes"), (0, u "[B"), (2, u "DigitTens"), (10, .nameAndType 67 101), (0, u "()V"), (85, u "valueOf"), (0, u "(I)Ljava/lang/Integer;"), (0, .class_ 190), (0, u "java/lang/Integer$IntegerCache"), (0, .fieldref 189 192), (0, .nameAndType 193 194), (0, u "high"), (0, u "I"), (0, .fieldref 189 196), (0, .nameAndType 197 198), (0, u "cache"), (0, u "[Ljava/lang/Integer;"), (0, .methodref 1 200), (0, .nameAndType 67 201), (0, u "(I)V"), (0, .methodref 203 100), (0, .class_ 204), (0, u "java/lang/Number"), (0, .fieldref 1 206), (0, .nameAndType 207 194), (0, u "value"), (94, u "TYPE"), (0, u "Ljava/lang/Class;"), (0, .class_ 305), (0, u "java/lang/Comparable"), (0, .class_ 307), (0, u "java/lang/constant/Constable"), (0, .class_ 309), (0, u "java/lang/constant/ConstantDesc"), (0, u "MIN_VALUE"), (1, u "MAX_VALUE"), (3, u "SIZE"), (1, u "BYTES"), (1, u "serialVersionUID"), (0, u "J")] 131

def k9c0 : Code := { maxStack := 3, maxLocals := 1, code := jdk_33_method_22_code, exceptionTable := #[], attributes := #[] }
def k9m0 : Method := { name := "valueOf", desc := "(I)Ljava/lang/Integer;", sig := { parameters := [.int], returnType := some (.object "java/lang/Integer") }, accessFlags := 9, code := some k9c0 }
def k9c1 : Code := { maxStack := 2, maxLocals := 2, code := jdk_33_method_23_code, exceptionTable := #[], attributes := #[] }
def k9m1 : Method := { name := "<init>", desc := "(I)V", sig := { parameters := [.int], returnType := none }, accessFlags := 1, code := some k9c1 }
/-- java/lang/Integer -/
def k9 : Class := { plain "java/lang/Integer" (some 5) with
  accessFlags := 49
  interfaces := #[2, 6, 7]
  cf := some (fileOf pool9 1 #[.nestMembers #[189]] #[{ accessFlags := 9, nameIndex := 187, descriptorIndex := 188, attributes := #[] }, { accessFlags := 1, nameIndex := 67, descriptorIndex := 201, attributes := #[] }] 49 203 #[304, 306, 308] #[{ accessFlags := 25, nameIndex := 310, descriptorIndex := 194, attributes := #[] }, { accessFlags := 25, nameIndex := 312, descriptorIndex := 194, attributes := #[] }, { accessFlags := 25, nameIndex := 302, descriptorIndex := 303, attributes := #[] }, { accessFlags := 24, nameIndex := 19, descriptorIndex := 20, attributes := #[] }, { accessFlags := 24, nameIndex := 89, descriptorIndex := 86, attributes := #[] }, { accessFlags := 24, nameIndex := 85, descriptorIndex := 86, attributes := #[] }, { accessFlags := 18, nameIndex := 207, descriptorIndex := 194, attributes := #[] }, { accessFlags := 25, nameIndex := 316, descriptorIndex := 194, attributes := #[] }, { accessFlags := 25, nameIndex := 318, descriptorIndex := 194, attributes := #[] }, { accessFlags := 26, nameIndex := 320, descriptorIndex := 321, attributes := #[] }])
  fields := #[{ name := "MIN_VALUE", type := .int, accessFlags := 25, slot := 0, constantValue := 0 }, { name := "MAX_VALUE", type := .int, accessFlags := 25, slot := 1, constantValue := 0 }, { name := "TYPE", type := (.object "java/lang/Class"), accessFlags := 25, slot := 2, constantValue := 0 }, { name := "digits", type := (.array .char), accessFlags := 24, slot := 3, constantValue := 0 }, { name := "DigitTens", type := (.array .byte), accessFlags := 24, slot := 4, constantValue := 0 }, { name := "DigitOnes", type := (.array .byte), accessFlags := 24, slot := 5, constantValue := 0 }, { name := "value", type := .int, accessFlags := 18, slot := 0, constantValue := 0 }, { name := "SIZE", type := .int, accessFlags := 25, slot := 6, constantValue := 0 }, { name := "BYTES", type := .int, accessFlags := 25, slot := 7, constantValue := 0 }, { name := "serialVersionUID", type := .long, accessFlags := 26, slot := 8, constantValue := 0 }]
  methods := #[k9m0, k9m1]
  instanceTypes := #[.int]
  staticTypes := #[.int, .int, (.object "java/lang/Class"), (.array .char), (.array .byte), (.array .byte), .int, .int, .long]
  resolved := Array.replicate 453 none
  statics := none }

def pool10 : Array CpInfo := pool [(2, .class_ 4), (1, u "java/lang/Object"), (0, u "<init>"), (0, u "()V"), (0, .class_ 8), (0, u "java/lang/Integer"), (7, .class_ 18), (1, u "java/lang/Integer$IntegerCache"), (0, u "$assertionsDisabled"), (0, u "Z"), (26, u "high"), (0, u "I"), (8, u "archivedCache"), (0, u "[Ljava/lang/Integer;"), (12, u "cache"), (0, u "low")] 27

def k10m0 : Method := { name := "<init>", desc := "()V", sig := { parameters := [], returnType := none }, accessFlags := 2, code := none }
/-- java/lang/Integer$IntegerCache -/
def k10 : Class := { plain "java/lang/Integer$IntegerCache" (some 0) with
  accessFlags := 48
  interfaces := #[]
  cf := some (fileOf pool10 16 #[.nestHost 7] #[{ accessFlags := 2, nameIndex := 5, descriptorIndex := 6, attributes := #[] }] 48 2 #[] #[{ accessFlags := 24, nameIndex := 72, descriptorIndex := 48, attributes := #[] }, { accessFlags := 24, nameIndex := 47, descriptorIndex := 48, attributes := #[] }, { accessFlags := 24, nameIndex := 71, descriptorIndex := 58, attributes := #[] }, { accessFlags := 8, nameIndex := 57, descriptorIndex := 58, attributes := #[] }, { accessFlags := 4120, nameIndex := 19, descriptorIndex := 20, attributes := #[] }])
  fields := #[{ name := "low", type := .int, accessFlags := 24, slot := 0, constantValue := 0 }, { name := "high", type := .int, accessFlags := 24, slot := 1, constantValue := 0 }, { name := "cache", type := (.array (.object "java/lang/Integer")), accessFlags := 24, slot := 2, constantValue := 0 }, { name := "archivedCache", type := (.array (.object "java/lang/Integer")), accessFlags := 8, slot := 3, constantValue := 0 }, { name := "$assertionsDisabled", type := .boolean, accessFlags := 4120, slot := 4, constantValue := 0 }]
  methods := #[k10m0]
  instanceTypes := #[]
  staticTypes := #[.int, .int, (.array (.object "java/lang/Integer")), (.array (.object "java/lang/Integer")), .boolean]
  resolved := Array.replicate 100 none
  statics := some 0 }

def pool11 : Array CpInfo := pool [(2, .class_ 4), (1, u "java/lang/Object"), (0, u "<init>"), (0, u "()V"), (0, .class_ 8), (0, u "java/lang/Long"), (7, .class_ 18), (1, u "java/lang/Long$LongCache"), (0, u "$assertionsDisabled"), (0, u "Z"), (8, u "archivedCache"), (0, u "[Ljava/lang/Long;"), (7, u "cache")] 24

def k11m0 : Method := { name := "<init>", desc := "()V", sig := { parameters := [], returnType := none }, accessFlags := 2, code := none }
/-- java/lang/Long$LongCache -/
def k11 : Class := { plain "java/lang/Long$LongCache" (some 0) with
  accessFlags := 48
  interfaces := #[]
  cf := some (fileOf pool11 16 #[.nestHost 7] #[{ accessFlags := 2, nameIndex := 5, descriptorIndex := 6, attributes := #[] }] 48 2 #[] #[{ accessFlags := 24, nameIndex := 38, descriptorIndex := 30, attributes := #[] }, { accessFlags := 8, nameIndex := 29, descriptorIndex := 30, attributes := #[] }, { accessFlags := 4120, nameIndex := 19, descriptorIndex := 20, attributes := #[] }])
  fields := #[{ name := "cache", type := (.array (.object "java/lang/Long")), accessFlags := 24, slot := 0, constantValue := 0 }, { name := "archivedCache", type := (.array (.object "java/lang/Long")), accessFlags := 8, slot := 1, constantValue := 0 }, { name := "$assertionsDisabled", type := .boolean, accessFlags := 4120, slot := 2, constantValue := 0 }]
  methods := #[k11m0]
  instanceTypes := #[]
  staticTypes := #[(.array (.object "java/lang/Long")), (.array (.object "java/lang/Long")), .boolean]
  resolved := Array.replicate 63 none
  statics := some 1 }

def pool12 : Array CpInfo := pool [(1, u "java/lang/Cloneable"), (0, .class_ 1), (0, u "java/lang/Object"), (0, .class_ 3)] 3

/-- java/lang/Cloneable -/
def k12 : Class := { plain "java/lang/Cloneable" (some 0) with
  accessFlags := 1537
  interfaces := #[]
  cf := some (fileOf pool12 2 #[] #[] 1537 4 #[] #[])
  fields := #[]
  methods := #[]
  instanceTypes := #[]
  staticTypes := #[]
  resolved := Array.replicate 8 none
  statics := none }

/-- the primitive byte -/
def k13 : Class := { plain "byte" none with kind := .primitive 'B', accessFlags := 0x411 }
/-- [B -/
def k14 : Class := { plain "[B" (some 0) with kind := .array 13 .byte, interfaces := #[12, 4], accessFlags := 1041 }

/-- the primitive int -/
def k15 : Class := { plain "int" none with kind := .primitive 'I', accessFlags := 0x411 }
/-- [I -/
def k16 : Class := { plain "[I" (some 0) with kind := .array 15 .int, interfaces := #[12, 4], accessFlags := 1041 }

/-- [Ljava/lang/Integer; -/
def k17 : Class := { plain "[Ljava/lang/Integer;" (some 0) with kind := .array 9 (.object "java/lang/Integer"), interfaces := #[12, 4], accessFlags := 1041 }

/-- [Ljava/lang/Long; -/
def k18 : Class := { plain "[Ljava/lang/Long;" (some 0) with kind := .array 8 (.object "java/lang/Long"), interfaces := #[12, 4], accessFlags := 1041 }

def heap : Heap := #[{ cls := 10, slots := #[.int 0, .int 127, .ref 2, .null, .int 0], vm := .statics 10 },
  { cls := 11, slots := #[.ref 3, .null, .int 0], vm := .statics 11 },
  { cls := 17, slots := #[.ref 4, .ref 5, .ref 6, .ref 7, .ref 8, .ref 9, .ref 10, .ref 11, .ref 12, .ref 13, .ref 14, .ref 15, .ref 16, .ref 17, .ref 18, .ref 19, .ref 20, .ref 21, .ref 22, .ref 23, .ref 24, .ref 25, .ref 26, .ref 27, .ref 28, .ref 29, .ref 30, .ref 31, .ref 32, .ref 33, .ref 34, .ref 35, .ref 36, .ref 37, .ref 38, .ref 39, .ref 40, .ref 41, .ref 42, .ref 43, .ref 44, .ref 45, .ref 46, .ref 47, .ref 48, .ref 49, .ref 50, .ref 51, .ref 52, .ref 53, .ref 54, .ref 55, .ref 56, .ref 57, .ref 58, .ref 59, .ref 60, .ref 61, .ref 62, .ref 63, .ref 64, .ref 65, .ref 66, .ref 67, .ref 68, .ref 69, .ref 70, .ref 71, .ref 72, .ref 73, .ref 74, .ref 75, .ref 76, .ref 77, .ref 78, .ref 79, .ref 80, .ref 81, .ref 82, .ref 83, .ref 84, .ref 85, .ref 86, .ref 87, .ref 88, .ref 89, .ref 90, .ref 91, .ref 92, .ref 93, .ref 94, .ref 95, .ref 96, .ref 97, .ref 98, .ref 99, .ref 100, .ref 101, .ref 102, .ref 103, .ref 104, .ref 105, .ref 106, .ref 107, .ref 108, .ref 109, .ref 110, .ref 111, .ref 112, .ref 113, .ref 114, .ref 115, .ref 116, .ref 117, .ref 118, .ref 119, .ref 120, .ref 121, .ref 122, .ref 123, .ref 124, .ref 125, .ref 126, .ref 127, .ref 128, .ref 129, .ref 130, .ref 131, .ref 132, .ref 133, .ref 134, .ref 135, .ref 136, .ref 137, .ref 138, .ref 139, .ref 140, .ref 141, .ref 142, .ref 143, .ref 144, .ref 145, .ref 146, .ref 147, .ref 148, .ref 149, .ref 150, .ref 151, .ref 152, .ref 153, .ref 154, .ref 155, .ref 156, .ref 157, .ref 158, .ref 159, .ref 160, .ref 161, .ref 162, .ref 163, .ref 164, .ref 165, .ref 166, .ref 167, .ref 168, .ref 169, .ref 170, .ref 171, .ref 172, .ref 173, .ref 174, .ref 175, .ref 176, .ref 177, .ref 178, .ref 179, .ref 180, .ref 181, .ref 182, .ref 183, .ref 184, .ref 185, .ref 186, .ref 187, .ref 188, .ref 189, .ref 190, .ref 191, .ref 192, .ref 193, .ref 194, .ref 195, .ref 196, .ref 197, .ref 198, .ref 199, .ref 200, .ref 201, .ref 202, .ref 203, .ref 204, .ref 205, .ref 206, .ref 207, .ref 208, .ref 209, .ref 210, .ref 211, .ref 212, .ref 213, .ref 214, .ref 215, .ref 216, .ref 217, .ref 218, .ref 219, .ref 220, .ref 221, .ref 222, .ref 223, .ref 224, .ref 225, .ref 226, .ref 227, .ref 228, .ref 229, .ref 230, .ref 231, .ref 232, .ref 233, .ref 234, .ref 235, .ref 236, .ref 237, .ref 238, .ref 239, .ref 240, .ref 241, .ref 242, .ref 243, .ref 244, .ref 245, .ref 246, .ref 247, .ref 248, .ref 249, .ref 250, .ref 251, .ref 252, .ref 253, .ref 254, .ref 255, .ref 256, .ref 257, .ref 258, .ref 259], vm := .none },
  { cls := 18, slots := #[.ref 260, .ref 261, .ref 262, .ref 263, .ref 264, .ref 265, .ref 266, .ref 267, .ref 268, .ref 269, .ref 270, .ref 271, .ref 272, .ref 273, .ref 274, .ref 275, .ref 276, .ref 277, .ref 278, .ref 279, .ref 280, .ref 281, .ref 282, .ref 283, .ref 284, .ref 285, .ref 286, .ref 287, .ref 288, .ref 289, .ref 290, .ref 291, .ref 292, .ref 293, .ref 294, .ref 295, .ref 296, .ref 297, .ref 298, .ref 299, .ref 300, .ref 301, .ref 302, .ref 303, .ref 304, .ref 305, .ref 306, .ref 307, .ref 308, .ref 309, .ref 310, .ref 311, .ref 312, .ref 313, .ref 314, .ref 315, .ref 316, .ref 317, .ref 318, .ref 319, .ref 320, .ref 321, .ref 322, .ref 323, .ref 324, .ref 325, .ref 326, .ref 327, .ref 328, .ref 329, .ref 330, .ref 331, .ref 332, .ref 333, .ref 334, .ref 335, .ref 336, .ref 337, .ref 338, .ref 339, .ref 340, .ref 341, .ref 342, .ref 343, .ref 344, .ref 345, .ref 346, .ref 347, .ref 348, .ref 349, .ref 350, .ref 351, .ref 352, .ref 353, .ref 354, .ref 355, .ref 356, .ref 357, .ref 358, .ref 359, .ref 360, .ref 361, .ref 362, .ref 363, .ref 364, .ref 365, .ref 366, .ref 367, .ref 368, .ref 369, .ref 370, .ref 371, .ref 372, .ref 373, .ref 374, .ref 375, .ref 376, .ref 377, .ref 378, .ref 379, .ref 380, .ref 381, .ref 382, .ref 383, .ref 384, .ref 385, .ref 386, .ref 387, .ref 388, .ref 389, .ref 390, .ref 391, .ref 392, .ref 393, .ref 394, .ref 395, .ref 396, .ref 397, .ref 398, .ref 399, .ref 400, .ref 401, .ref 402, .ref 403, .ref 404, .ref 405, .ref 406, .ref 407, .ref 408, .ref 409, .ref 410, .ref 411, .ref 412, .ref 413, .ref 414, .ref 415, .ref 416, .ref 417, .ref 418, .ref 419, .ref 420, .ref 421, .ref 422, .ref 423, .ref 424, .ref 425, .ref 426, .ref 427, .ref 428, .ref 429, .ref 430, .ref 431, .ref 432, .ref 433, .ref 434, .ref 435, .ref 436, .ref 437, .ref 438, .ref 439, .ref 440, .ref 441, .ref 442, .ref 443, .ref 444, .ref 445, .ref 446, .ref 447, .ref 448, .ref 449, .ref 450, .ref 451, .ref 452, .ref 453, .ref 454, .ref 455, .ref 456, .ref 457, .ref 458, .ref 459, .ref 460, .ref 461, .ref 462, .ref 463, .ref 464, .ref 465, .ref 466, .ref 467, .ref 468, .ref 469, .ref 470, .ref 471, .ref 472, .ref 473, .ref 474, .ref 475, .ref 476, .ref 477, .ref 478, .ref 479, .ref 480, .ref 481, .ref 482, .ref 483, .ref 484, .ref 485, .ref 486, .ref 487, .ref 488, .ref 489, .ref 490, .ref 491, .ref 492, .ref 493, .ref 494, .ref 495, .ref 496, .ref 497, .ref 498, .ref 499, .ref 500, .ref 501, .ref 502, .ref 503, .ref 504, .ref 505, .ref 506, .ref 507, .ref 508, .ref 509, .ref 510, .ref 511, .ref 512, .ref 513, .ref 514, .ref 515], vm := .none },
  { cls := 9, slots := #[.int (-128)], vm := .none },
  { cls := 9, slots := #[.int (-127)], vm := .none },
  { cls := 9, slots := #[.int (-126)], vm := .none },
  { cls := 9, slots := #[.int (-125)], vm := .none },
  { cls := 9, slots := #[.int (-124)], vm := .none },
  { cls := 9, slots := #[.int (-123)], vm := .none },
  { cls := 9, slots := #[.int (-122)], vm := .none },
  { cls := 9, slots := #[.int (-121)], vm := .none },
  { cls := 9, slots := #[.int (-120)], vm := .none },
  { cls := 9, slots := #[.int (-119)], vm := .none },
  { cls := 9, slots := #[.int (-118)], vm := .none },
  { cls := 9, slots := #[.int (-117)], vm := .none },
  { cls := 9, slots := #[.int (-116)], vm := .none },
  { cls := 9, slots := #[.int (-115)], vm := .none },
  { cls := 9, slots := #[.int (-114)], vm := .none },
  { cls := 9, slots := #[.int (-113)], vm := .none },
  { cls := 9, slots := #[.int (-112)], vm := .none },
  { cls := 9, slots := #[.int (-111)], vm := .none },
  { cls := 9, slots := #[.int (-110)], vm := .none },
  { cls := 9, slots := #[.int (-109)], vm := .none },
  { cls := 9, slots := #[.int (-108)], vm := .none },
  { cls := 9, slots := #[.int (-107)], vm := .none },
  { cls := 9, slots := #[.int (-106)], vm := .none },
  { cls := 9, slots := #[.int (-105)], vm := .none },
  { cls := 9, slots := #[.int (-104)], vm := .none },
  { cls := 9, slots := #[.int (-103)], vm := .none },
  { cls := 9, slots := #[.int (-102)], vm := .none },
  { cls := 9, slots := #[.int (-101)], vm := .none },
  { cls := 9, slots := #[.int (-100)], vm := .none },
  { cls := 9, slots := #[.int (-99)], vm := .none },
  { cls := 9, slots := #[.int (-98)], vm := .none },
  { cls := 9, slots := #[.int (-97)], vm := .none },
  { cls := 9, slots := #[.int (-96)], vm := .none },
  { cls := 9, slots := #[.int (-95)], vm := .none },
  { cls := 9, slots := #[.int (-94)], vm := .none },
  { cls := 9, slots := #[.int (-93)], vm := .none },
  { cls := 9, slots := #[.int (-92)], vm := .none },
  { cls := 9, slots := #[.int (-91)], vm := .none },
  { cls := 9, slots := #[.int (-90)], vm := .none },
  { cls := 9, slots := #[.int (-89)], vm := .none },
  { cls := 9, slots := #[.int (-88)], vm := .none },
  { cls := 9, slots := #[.int (-87)], vm := .none },
  { cls := 9, slots := #[.int (-86)], vm := .none },
  { cls := 9, slots := #[.int (-85)], vm := .none },
  { cls := 9, slots := #[.int (-84)], vm := .none },
  { cls := 9, slots := #[.int (-83)], vm := .none },
  { cls := 9, slots := #[.int (-82)], vm := .none },
  { cls := 9, slots := #[.int (-81)], vm := .none },
  { cls := 9, slots := #[.int (-80)], vm := .none },
  { cls := 9, slots := #[.int (-79)], vm := .none },
  { cls := 9, slots := #[.int (-78)], vm := .none },
  { cls := 9, slots := #[.int (-77)], vm := .none },
  { cls := 9, slots := #[.int (-76)], vm := .none },
  { cls := 9, slots := #[.int (-75)], vm := .none },
  { cls := 9, slots := #[.int (-74)], vm := .none },
  { cls := 9, slots := #[.int (-73)], vm := .none },
  { cls := 9, slots := #[.int (-72)], vm := .none },
  { cls := 9, slots := #[.int (-71)], vm := .none },
  { cls := 9, slots := #[.int (-70)], vm := .none },
  { cls := 9, slots := #[.int (-69)], vm := .none },
  { cls := 9, slots := #[.int (-68)], vm := .none },
  { cls := 9, slots := #[.int (-67)], vm := .none },
  { cls := 9, slots := #[.int (-66)], vm := .none },
  { cls := 9, slots := #[.int (-65)], vm := .none },
  { cls := 9, slots := #[.int (-64)], vm := .none },
  { cls := 9, slots := #[.int (-63)], vm := .none },
  { cls := 9, slots := #[.int (-62)], vm := .none },
  { cls := 9, slots := #[.int (-61)], vm := .none },
  { cls := 9, slots := #[.int (-60)], vm := .none },
  { cls := 9, slots := #[.int (-59)], vm := .none },
  { cls := 9, slots := #[.int (-58)], vm := .none },
  { cls := 9, slots := #[.int (-57)], vm := .none },
  { cls := 9, slots := #[.int (-56)], vm := .none },
  { cls := 9, slots := #[.int (-55)], vm := .none },
  { cls := 9, slots := #[.int (-54)], vm := .none },
  { cls := 9, slots := #[.int (-53)], vm := .none },
  { cls := 9, slots := #[.int (-52)], vm := .none },
  { cls := 9, slots := #[.int (-51)], vm := .none },
  { cls := 9, slots := #[.int (-50)], vm := .none },
  { cls := 9, slots := #[.int (-49)], vm := .none },
  { cls := 9, slots := #[.int (-48)], vm := .none },
  { cls := 9, slots := #[.int (-47)], vm := .none },
  { cls := 9, slots := #[.int (-46)], vm := .none },
  { cls := 9, slots := #[.int (-45)], vm := .none },
  { cls := 9, slots := #[.int (-44)], vm := .none },
  { cls := 9, slots := #[.int (-43)], vm := .none },
  { cls := 9, slots := #[.int (-42)], vm := .none },
  { cls := 9, slots := #[.int (-41)], vm := .none },
  { cls := 9, slots := #[.int (-40)], vm := .none },
  { cls := 9, slots := #[.int (-39)], vm := .none },
  { cls := 9, slots := #[.int (-38)], vm := .none },
  { cls := 9, slots := #[.int (-37)], vm := .none },
  { cls := 9, slots := #[.int (-36)], vm := .none },
  { cls := 9, slots := #[.int (-35)], vm := .none },
  { cls := 9, slots := #[.int (-34)], vm := .none },
  { cls := 9, slots := #[.int (-33)], vm := .none },
  { cls := 9, slots := #[.int (-32)], vm := .none },
  { cls := 9, slots := #[.int (-31)], vm := .none },
  { cls := 9, slots := #[.int (-30)], vm := .none },
  { cls := 9, slots := #[.int (-29)], vm := .none },
  { cls := 9, slots := #[.int (-28)], vm := .none },
  { cls := 9, slots := #[.int (-27)], vm := .none },
  { cls := 9, slots := #[.int (-26)], vm := .none },
  { cls := 9, slots := #[.int (-25)], vm := .none },
  { cls := 9, slots := #[.int (-24)], vm := .none },
  { cls := 9, slots := #[.int (-23)], vm := .none },
  { cls := 9, slots := #[.int (-22)], vm := .none },
  { cls := 9, slots := #[.int (-21)], vm := .none },
  { cls := 9, slots := #[.int (-20)], vm := .none },
  { cls := 9, slots := #[.int (-19)], vm := .none },
  { cls := 9, slots := #[.int (-18)], vm := .none },
  { cls := 9, slots := #[.int (-17)], vm := .none },
  { cls := 9, slots := #[.int (-16)], vm := .none },
  { cls := 9, slots := #[.int (-15)], vm := .none },
  { cls := 9, slots := #[.int (-14)], vm := .none },
  { cls := 9, slots := #[.int (-13)], vm := .none },
  { cls := 9, slots := #[.int (-12)], vm := .none },
  { cls := 9, slots := #[.int (-11)], vm := .none },
  { cls := 9, slots := #[.int (-10)], vm := .none },
  { cls := 9, slots := #[.int (-9)], vm := .none },
  { cls := 9, slots := #[.int (-8)], vm := .none },
  { cls := 9, slots := #[.int (-7)], vm := .none },
  { cls := 9, slots := #[.int (-6)], vm := .none },
  { cls := 9, slots := #[.int (-5)], vm := .none },
  { cls := 9, slots := #[.int (-4)], vm := .none },
  { cls := 9, slots := #[.int (-3)], vm := .none },
  { cls := 9, slots := #[.int (-2)], vm := .none },
  { cls := 9, slots := #[.int (-1)], vm := .none },
  { cls := 9, slots := #[.int (0)], vm := .none },
  { cls := 9, slots := #[.int (1)], vm := .none },
  { cls := 9, slots := #[.int (2)], vm := .none },
  { cls := 9, slots := #[.int (3)], vm := .none },
  { cls := 9, slots := #[.int (4)], vm := .none },
  { cls := 9, slots := #[.int (5)], vm := .none },
  { cls := 9, slots := #[.int (6)], vm := .none },
  { cls := 9, slots := #[.int (7)], vm := .none },
  { cls := 9, slots := #[.int (8)], vm := .none },
  { cls := 9, slots := #[.int (9)], vm := .none },
  { cls := 9, slots := #[.int (10)], vm := .none },
  { cls := 9, slots := #[.int (11)], vm := .none },
  { cls := 9, slots := #[.int (12)], vm := .none },
  { cls := 9, slots := #[.int (13)], vm := .none },
  { cls := 9, slots := #[.int (14)], vm := .none },
  { cls := 9, slots := #[.int (15)], vm := .none },
  { cls := 9, slots := #[.int (16)], vm := .none },
  { cls := 9, slots := #[.int (17)], vm := .none },
  { cls := 9, slots := #[.int (18)], vm := .none },
  { cls := 9, slots := #[.int (19)], vm := .none },
  { cls := 9, slots := #[.int (20)], vm := .none },
  { cls := 9, slots := #[.int (21)], vm := .none },
  { cls := 9, slots := #[.int (22)], vm := .none },
  { cls := 9, slots := #[.int (23)], vm := .none },
  { cls := 9, slots := #[.int (24)], vm := .none },
  { cls := 9, slots := #[.int (25)], vm := .none },
  { cls := 9, slots := #[.int (26)], vm := .none },
  { cls := 9, slots := #[.int (27)], vm := .none },
  { cls := 9, slots := #[.int (28)], vm := .none },
  { cls := 9, slots := #[.int (29)], vm := .none },
  { cls := 9, slots := #[.int (30)], vm := .none },
  { cls := 9, slots := #[.int (31)], vm := .none },
  { cls := 9, slots := #[.int (32)], vm := .none },
  { cls := 9, slots := #[.int (33)], vm := .none },
  { cls := 9, slots := #[.int (34)], vm := .none },
  { cls := 9, slots := #[.int (35)], vm := .none },
  { cls := 9, slots := #[.int (36)], vm := .none },
  { cls := 9, slots := #[.int (37)], vm := .none },
  { cls := 9, slots := #[.int (38)], vm := .none },
  { cls := 9, slots := #[.int (39)], vm := .none },
  { cls := 9, slots := #[.int (40)], vm := .none },
  { cls := 9, slots := #[.int (41)], vm := .none },
  { cls := 9, slots := #[.int (42)], vm := .none },
  { cls := 9, slots := #[.int (43)], vm := .none },
  { cls := 9, slots := #[.int (44)], vm := .none },
  { cls := 9, slots := #[.int (45)], vm := .none },
  { cls := 9, slots := #[.int (46)], vm := .none },
  { cls := 9, slots := #[.int (47)], vm := .none },
  { cls := 9, slots := #[.int (48)], vm := .none },
  { cls := 9, slots := #[.int (49)], vm := .none },
  { cls := 9, slots := #[.int (50)], vm := .none },
  { cls := 9, slots := #[.int (51)], vm := .none },
  { cls := 9, slots := #[.int (52)], vm := .none },
  { cls := 9, slots := #[.int (53)], vm := .none },
  { cls := 9, slots := #[.int (54)], vm := .none },
  { cls := 9, slots := #[.int (55)], vm := .none },
  { cls := 9, slots := #[.int (56)], vm := .none },
  { cls := 9, slots := #[.int (57)], vm := .none },
  { cls := 9, slots := #[.int (58)], vm := .none },
  { cls := 9, slots := #[.int (59)], vm := .none },
  { cls := 9, slots := #[.int (60)], vm := .none },
  { cls := 9, slots := #[.int (61)], vm := .none },
  { cls := 9, slots := #[.int (62)], vm := .none },
  { cls := 9, slots := #[.int (63)], vm := .none },
  { cls := 9, slots := #[.int (64)], vm := .none },
  { cls := 9, slots := #[.int (65)], vm := .none },
  { cls := 9, slots := #[.int (66)], vm := .none },
  { cls := 9, slots := #[.int (67)], vm := .none },
  { cls := 9, slots := #[.int (68)], vm := .none },
  { cls := 9, slots := #[.int (69)], vm := .none },
  { cls := 9, slots := #[.int (70)], vm := .none },
  { cls := 9, slots := #[.int (71)], vm := .none },
  { cls := 9, slots := #[.int (72)], vm := .none },
  { cls := 9, slots := #[.int (73)], vm := .none },
  { cls := 9, slots := #[.int (74)], vm := .none },
  { cls := 9, slots := #[.int (75)], vm := .none },
  { cls := 9, slots := #[.int (76)], vm := .none },
  { cls := 9, slots := #[.int (77)], vm := .none },
  { cls := 9, slots := #[.int (78)], vm := .none },
  { cls := 9, slots := #[.int (79)], vm := .none },
  { cls := 9, slots := #[.int (80)], vm := .none },
  { cls := 9, slots := #[.int (81)], vm := .none },
  { cls := 9, slots := #[.int (82)], vm := .none },
  { cls := 9, slots := #[.int (83)], vm := .none },
  { cls := 9, slots := #[.int (84)], vm := .none },
  { cls := 9, slots := #[.int (85)], vm := .none },
  { cls := 9, slots := #[.int (86)], vm := .none },
  { cls := 9, slots := #[.int (87)], vm := .none },
  { cls := 9, slots := #[.int (88)], vm := .none },
  { cls := 9, slots := #[.int (89)], vm := .none },
  { cls := 9, slots := #[.int (90)], vm := .none },
  { cls := 9, slots := #[.int (91)], vm := .none },
  { cls := 9, slots := #[.int (92)], vm := .none },
  { cls := 9, slots := #[.int (93)], vm := .none },
  { cls := 9, slots := #[.int (94)], vm := .none },
  { cls := 9, slots := #[.int (95)], vm := .none },
  { cls := 9, slots := #[.int (96)], vm := .none },
  { cls := 9, slots := #[.int (97)], vm := .none },
  { cls := 9, slots := #[.int (98)], vm := .none },
  { cls := 9, slots := #[.int (99)], vm := .none },
  { cls := 9, slots := #[.int (100)], vm := .none },
  { cls := 9, slots := #[.int (101)], vm := .none },
  { cls := 9, slots := #[.int (102)], vm := .none },
  { cls := 9, slots := #[.int (103)], vm := .none },
  { cls := 9, slots := #[.int (104)], vm := .none },
  { cls := 9, slots := #[.int (105)], vm := .none },
  { cls := 9, slots := #[.int (106)], vm := .none },
  { cls := 9, slots := #[.int (107)], vm := .none },
  { cls := 9, slots := #[.int (108)], vm := .none },
  { cls := 9, slots := #[.int (109)], vm := .none },
  { cls := 9, slots := #[.int (110)], vm := .none },
  { cls := 9, slots := #[.int (111)], vm := .none },
  { cls := 9, slots := #[.int (112)], vm := .none },
  { cls := 9, slots := #[.int (113)], vm := .none },
  { cls := 9, slots := #[.int (114)], vm := .none },
  { cls := 9, slots := #[.int (115)], vm := .none },
  { cls := 9, slots := #[.int (116)], vm := .none },
  { cls := 9, slots := #[.int (117)], vm := .none },
  { cls := 9, slots := #[.int (118)], vm := .none },
  { cls := 9, slots := #[.int (119)], vm := .none },
  { cls := 9, slots := #[.int (120)], vm := .none },
  { cls := 9, slots := #[.int (121)], vm := .none },
  { cls := 9, slots := #[.int (122)], vm := .none },
  { cls := 9, slots := #[.int (123)], vm := .none },
  { cls := 9, slots := #[.int (124)], vm := .none },
  { cls := 9, slots := #[.int (125)], vm := .none },
  { cls := 9, slots := #[.int (126)], vm := .none },
  { cls := 9, slots := #[.int (127)], vm := .none },
  { cls := 8, slots := #[.long (-128)], vm := .none },
  { cls := 8, slots := #[.long (-127)], vm := .none },
  { cls := 8, slots := #[.long (-126)], vm := .none },
  { cls := 8, slots := #[.long (-125)], vm := .none },
  { cls := 8, slots := #[.long (-124)], vm := .none },
  { cls := 8, slots := #[.long (-123)], vm := .none },
  { cls := 8, slots := #[.long (-122)], vm := .none },
  { cls := 8, slots := #[.long (-121)], vm := .none },
  { cls := 8, slots := #[.long (-120)], vm := .none },
  { cls := 8, slots := #[.long (-119)], vm := .none },
  { cls := 8, slots := #[.long (-118)], vm := .none },
  { cls := 8, slots := #[.long (-117)], vm := .none },
  { cls := 8, slots := #[.long (-116)], vm := .none },
  { cls := 8, slots := #[.long (-115)], vm := .none },
  { cls := 8, slots := #[.long (-114)], vm := .none },
  { cls := 8, slots := #[.long (-113)], vm := .none },
  { cls := 8, slots := #[.long (-112)], vm := .none },
  { cls := 8, slots := #[.long (-111)], vm := .none },
  { cls := 8, slots := #[.long (-110)], vm := .none },
  { cls := 8, slots := #[.long (-109)], vm := .none },
  { cls := 8, slots := #[.long (-108)], vm := .none },
  { cls := 8, slots := #[.long (-107)], vm := .none },
  { cls := 8, slots := #[.long (-106)], vm := .none },
  { cls := 8, slots := #[.long (-105)], vm := .none },
  { cls := 8, slots := #[.long (-104)], vm := .none },
  { cls := 8, slots := #[.long (-103)], vm := .none },
  { cls := 8, slots := #[.long (-102)], vm := .none },
  { cls := 8, slots := #[.long (-101)], vm := .none },
  { cls := 8, slots := #[.long (-100)], vm := .none },
  { cls := 8, slots := #[.long (-99)], vm := .none },
  { cls := 8, slots := #[.long (-98)], vm := .none },
  { cls := 8, slots := #[.long (-97)], vm := .none },
  { cls := 8, slots := #[.long (-96)], vm := .none },
  { cls := 8, slots := #[.long (-95)], vm := .none },
  { cls := 8, slots := #[.long (-94)], vm := .none },
  { cls := 8, slots := #[.long (-93)], vm := .none },
  { cls := 8, slots := #[.long (-92)], vm := .none },
  { cls := 8, slots := #[.long (-91)], vm := .none },
  { cls := 8, slots := #[.long (-90)], vm := .none },
  { cls := 8, slots := #[.long (-89)], vm := .none },
  { cls := 8, slots := #[.long (-88)], vm := .none },
  { cls := 8, slots := #[.long (-87)], vm := .none },
  { cls := 8, slots := #[.long (-86)], vm := .none },
  { cls := 8, slots := #[.long (-85)], vm := .none },
  { cls := 8, slots := #[.long (-84)], vm := .none },
  { cls := 8, slots := #[.long (-83)], vm := .none },
  { cls := 8, slots := #[.long (-82)], vm := .none },
  { cls := 8, slots := #[.long (-81)], vm := .none },
  { cls := 8, slots := #[.long (-80)], vm := .none },
  { cls := 8, slots := #[.long (-79)], vm := .none },
  { cls := 8, slots := #[.long (-78)], vm := .none },
  { cls := 8, slots := #[.long (-77)], vm := .none },
  { cls := 8, slots := #[.long (-76)], vm := .none },
  { cls := 8, slots := #[.long (-75)], vm := .none },
  { cls := 8, slots := #[.long (-74)], vm := .none },
  { cls := 8, slots := #[.long (-73)], vm := .none },
  { cls := 8, slots := #[.long (-72)], vm := .none },
  { cls := 8, slots := #[.long (-71)], vm := .none },
  { cls := 8, slots := #[.long (-70)], vm := .none },
  { cls := 8, slots := #[.long (-69)], vm := .none },
  { cls := 8, slots := #[.long (-68)], vm := .none },
  { cls := 8, slots := #[.long (-67)], vm := .none },
  { cls := 8, slots := #[.long (-66)], vm := .none },
  { cls := 8, slots := #[.long (-65)], vm := .none },
  { cls := 8, slots := #[.long (-64)], vm := .none },
  { cls := 8, slots := #[.long (-63)], vm := .none },
  { cls := 8, slots := #[.long (-62)], vm := .none },
  { cls := 8, slots := #[.long (-61)], vm := .none },
  { cls := 8, slots := #[.long (-60)], vm := .none },
  { cls := 8, slots := #[.long (-59)], vm := .none },
  { cls := 8, slots := #[.long (-58)], vm := .none },
  { cls := 8, slots := #[.long (-57)], vm := .none },
  { cls := 8, slots := #[.long (-56)], vm := .none },
  { cls := 8, slots := #[.long (-55)], vm := .none },
  { cls := 8, slots := #[.long (-54)], vm := .none },
  { cls := 8, slots := #[.long (-53)], vm := .none },
  { cls := 8, slots := #[.long (-52)], vm := .none },
  { cls := 8, slots := #[.long (-51)], vm := .none },
  { cls := 8, slots := #[.long (-50)], vm := .none },
  { cls := 8, slots := #[.long (-49)], vm := .none },
  { cls := 8, slots := #[.long (-48)], vm := .none },
  { cls := 8, slots := #[.long (-47)], vm := .none },
  { cls := 8, slots := #[.long (-46)], vm := .none },
  { cls := 8, slots := #[.long (-45)], vm := .none },
  { cls := 8, slots := #[.long (-44)], vm := .none },
  { cls := 8, slots := #[.long (-43)], vm := .none },
  { cls := 8, slots := #[.long (-42)], vm := .none },
  { cls := 8, slots := #[.long (-41)], vm := .none },
  { cls := 8, slots := #[.long (-40)], vm := .none },
  { cls := 8, slots := #[.long (-39)], vm := .none },
  { cls := 8, slots := #[.long (-38)], vm := .none },
  { cls := 8, slots := #[.long (-37)], vm := .none },
  { cls := 8, slots := #[.long (-36)], vm := .none },
  { cls := 8, slots := #[.long (-35)], vm := .none },
  { cls := 8, slots := #[.long (-34)], vm := .none },
  { cls := 8, slots := #[.long (-33)], vm := .none },
  { cls := 8, slots := #[.long (-32)], vm := .none },
  { cls := 8, slots := #[.long (-31)], vm := .none },
  { cls := 8, slots := #[.long (-30)], vm := .none },
  { cls := 8, slots := #[.long (-29)], vm := .none },
  { cls := 8, slots := #[.long (-28)], vm := .none },
  { cls := 8, slots := #[.long (-27)], vm := .none },
  { cls := 8, slots := #[.long (-26)], vm := .none },
  { cls := 8, slots := #[.long (-25)], vm := .none },
  { cls := 8, slots := #[.long (-24)], vm := .none },
  { cls := 8, slots := #[.long (-23)], vm := .none },
  { cls := 8, slots := #[.long (-22)], vm := .none },
  { cls := 8, slots := #[.long (-21)], vm := .none },
  { cls := 8, slots := #[.long (-20)], vm := .none },
  { cls := 8, slots := #[.long (-19)], vm := .none },
  { cls := 8, slots := #[.long (-18)], vm := .none },
  { cls := 8, slots := #[.long (-17)], vm := .none },
  { cls := 8, slots := #[.long (-16)], vm := .none },
  { cls := 8, slots := #[.long (-15)], vm := .none },
  { cls := 8, slots := #[.long (-14)], vm := .none },
  { cls := 8, slots := #[.long (-13)], vm := .none },
  { cls := 8, slots := #[.long (-12)], vm := .none },
  { cls := 8, slots := #[.long (-11)], vm := .none },
  { cls := 8, slots := #[.long (-10)], vm := .none },
  { cls := 8, slots := #[.long (-9)], vm := .none },
  { cls := 8, slots := #[.long (-8)], vm := .none },
  { cls := 8, slots := #[.long (-7)], vm := .none },
  { cls := 8, slots := #[.long (-6)], vm := .none },
  { cls := 8, slots := #[.long (-5)], vm := .none },
  { cls := 8, slots := #[.long (-4)], vm := .none },
  { cls := 8, slots := #[.long (-3)], vm := .none },
  { cls := 8, slots := #[.long (-2)], vm := .none },
  { cls := 8, slots := #[.long (-1)], vm := .none },
  { cls := 8, slots := #[.long (0)], vm := .none },
  { cls := 8, slots := #[.long (1)], vm := .none },
  { cls := 8, slots := #[.long (2)], vm := .none },
  { cls := 8, slots := #[.long (3)], vm := .none },
  { cls := 8, slots := #[.long (4)], vm := .none },
  { cls := 8, slots := #[.long (5)], vm := .none },
  { cls := 8, slots := #[.long (6)], vm := .none },
  { cls := 8, slots := #[.long (7)], vm := .none },
  { cls := 8, slots := #[.long (8)], vm := .none },
  { cls := 8, slots := #[.long (9)], vm := .none },
  { cls := 8, slots := #[.long (10)], vm := .none },
  { cls := 8, slots := #[.long (11)], vm := .none },
  { cls := 8, slots := #[.long (12)], vm := .none },
  { cls := 8, slots := #[.long (13)], vm := .none },
  { cls := 8, slots := #[.long (14)], vm := .none },
  { cls := 8, slots := #[.long (15)], vm := .none },
  { cls := 8, slots := #[.long (16)], vm := .none },
  { cls := 8, slots := #[.long (17)], vm := .none },
  { cls := 8, slots := #[.long (18)], vm := .none },
  { cls := 8, slots := #[.long (19)], vm := .none },
  { cls := 8, slots := #[.long (20)], vm := .none },
  { cls := 8, slots := #[.long (21)], vm := .none },
  { cls := 8, slots := #[.long (22)], vm := .none },
  { cls := 8, slots := #[.long (23)], vm := .none },
  { cls := 8, slots := #[.long (24)], vm := .none },
  { cls := 8, slots := #[.long (25)], vm := .none },
  { cls := 8, slots := #[.long (26)], vm := .none },
  { cls := 8, slots := #[.long (27)], vm := .none },
  { cls := 8, slots := #[.long (28)], vm := .none },
  { cls := 8, slots := #[.long (29)], vm := .none },
  { cls := 8, slots := #[.long (30)], vm := .none },
  { cls := 8, slots := #[.long (31)], vm := .none },
  { cls := 8, slots := #[.long (32)], vm := .none },
  { cls := 8, slots := #[.long (33)], vm := .none },
  { cls := 8, slots := #[.long (34)], vm := .none },
  { cls := 8, slots := #[.long (35)], vm := .none },
  { cls := 8, slots := #[.long (36)], vm := .none },
  { cls := 8, slots := #[.long (37)], vm := .none },
  { cls := 8, slots := #[.long (38)], vm := .none },
  { cls := 8, slots := #[.long (39)], vm := .none },
  { cls := 8, slots := #[.long (40)], vm := .none },
  { cls := 8, slots := #[.long (41)], vm := .none },
  { cls := 8, slots := #[.long (42)], vm := .none },
  { cls := 8, slots := #[.long (43)], vm := .none },
  { cls := 8, slots := #[.long (44)], vm := .none },
  { cls := 8, slots := #[.long (45)], vm := .none },
  { cls := 8, slots := #[.long (46)], vm := .none },
  { cls := 8, slots := #[.long (47)], vm := .none },
  { cls := 8, slots := #[.long (48)], vm := .none },
  { cls := 8, slots := #[.long (49)], vm := .none },
  { cls := 8, slots := #[.long (50)], vm := .none },
  { cls := 8, slots := #[.long (51)], vm := .none },
  { cls := 8, slots := #[.long (52)], vm := .none },
  { cls := 8, slots := #[.long (53)], vm := .none },
  { cls := 8, slots := #[.long (54)], vm := .none },
  { cls := 8, slots := #[.long (55)], vm := .none },
  { cls := 8, slots := #[.long (56)], vm := .none },
  { cls := 8, slots := #[.long (57)], vm := .none },
  { cls := 8, slots := #[.long (58)], vm := .none },
  { cls := 8, slots := #[.long (59)], vm := .none },
  { cls := 8, slots := #[.long (60)], vm := .none },
  { cls := 8, slots := #[.long (61)], vm := .none },
  { cls := 8, slots := #[.long (62)], vm := .none },
  { cls := 8, slots := #[.long (63)], vm := .none },
  { cls := 8, slots := #[.long (64)], vm := .none },
  { cls := 8, slots := #[.long (65)], vm := .none },
  { cls := 8, slots := #[.long (66)], vm := .none },
  { cls := 8, slots := #[.long (67)], vm := .none },
  { cls := 8, slots := #[.long (68)], vm := .none },
  { cls := 8, slots := #[.long (69)], vm := .none },
  { cls := 8, slots := #[.long (70)], vm := .none },
  { cls := 8, slots := #[.long (71)], vm := .none },
  { cls := 8, slots := #[.long (72)], vm := .none },
  { cls := 8, slots := #[.long (73)], vm := .none },
  { cls := 8, slots := #[.long (74)], vm := .none },
  { cls := 8, slots := #[.long (75)], vm := .none },
  { cls := 8, slots := #[.long (76)], vm := .none },
  { cls := 8, slots := #[.long (77)], vm := .none },
  { cls := 8, slots := #[.long (78)], vm := .none },
  { cls := 8, slots := #[.long (79)], vm := .none },
  { cls := 8, slots := #[.long (80)], vm := .none },
  { cls := 8, slots := #[.long (81)], vm := .none },
  { cls := 8, slots := #[.long (82)], vm := .none },
  { cls := 8, slots := #[.long (83)], vm := .none },
  { cls := 8, slots := #[.long (84)], vm := .none },
  { cls := 8, slots := #[.long (85)], vm := .none },
  { cls := 8, slots := #[.long (86)], vm := .none },
  { cls := 8, slots := #[.long (87)], vm := .none },
  { cls := 8, slots := #[.long (88)], vm := .none },
  { cls := 8, slots := #[.long (89)], vm := .none },
  { cls := 8, slots := #[.long (90)], vm := .none },
  { cls := 8, slots := #[.long (91)], vm := .none },
  { cls := 8, slots := #[.long (92)], vm := .none },
  { cls := 8, slots := #[.long (93)], vm := .none },
  { cls := 8, slots := #[.long (94)], vm := .none },
  { cls := 8, slots := #[.long (95)], vm := .none },
  { cls := 8, slots := #[.long (96)], vm := .none },
  { cls := 8, slots := #[.long (97)], vm := .none },
  { cls := 8, slots := #[.long (98)], vm := .none },
  { cls := 8, slots := #[.long (99)], vm := .none },
  { cls := 8, slots := #[.long (100)], vm := .none },
  { cls := 8, slots := #[.long (101)], vm := .none },
  { cls := 8, slots := #[.long (102)], vm := .none },
  { cls := 8, slots := #[.long (103)], vm := .none },
  { cls := 8, slots := #[.long (104)], vm := .none },
  { cls := 8, slots := #[.long (105)], vm := .none },
  { cls := 8, slots := #[.long (106)], vm := .none },
  { cls := 8, slots := #[.long (107)], vm := .none },
  { cls := 8, slots := #[.long (108)], vm := .none },
  { cls := 8, slots := #[.long (109)], vm := .none },
  { cls := 8, slots := #[.long (110)], vm := .none },
  { cls := 8, slots := #[.long (111)], vm := .none },
  { cls := 8, slots := #[.long (112)], vm := .none },
  { cls := 8, slots := #[.long (113)], vm := .none },
  { cls := 8, slots := #[.long (114)], vm := .none },
  { cls := 8, slots := #[.long (115)], vm := .none },
  { cls := 8, slots := #[.long (116)], vm := .none },
  { cls := 8, slots := #[.long (117)], vm := .none },
  { cls := 8, slots := #[.long (118)], vm := .none },
  { cls := 8, slots := #[.long (119)], vm := .none },
  { cls := 8, slots := #[.long (120)], vm := .none },
  { cls := 8, slots := #[.long (121)], vm := .none },
  { cls := 8, slots := #[.long (122)], vm := .none },
  { cls := 8, slots := #[.long (123)], vm := .none },
  { cls := 8, slots := #[.long (124)], vm := .none },
  { cls := 8, slots := #[.long (125)], vm := .none },
  { cls := 8, slots := #[.long (126)], vm := .none },
  { cls := 8, slots := #[.long (127)], vm := .none }]
def classes : Array Class := #[k0, k1, k2, k3, k4, k5, k6, k7, k8, k9, k10, k11, k12, k13, k14, k15, k16, k17, k18]
def interned : List (Array UInt16 × Addr) := []
def slotsUsed : Nat := 1032
def theMethod : MethodId := ⟨1, 1⟩
def args0 : Array Value := #[.long 5, .int 5, .long 5, .int 5, .int 5]
def aboutOver (below : List Frame) : State where
  vm := { classes := classes, interned := interned.toArray }
  heap := heap
  slotsUsed := slotsUsed
  threads := #[{ frames := .invoking theMethod args0 :: below }]
def below0 : List Frame := [.native { method := ⟨0, 0⟩, args := #[] }]
def about1 : State := aboutOver below0
def p0 : Program := .bare "" "" ""
def e0 : Env := launch0.env 0 0 0
theorem w_frames : about1.frames = Frame.invoking theMethod args0 :: below0 := rfl
set_option maxRecDepth 65536 in
theorem w_args : argsFit about1.vm theMethod args0 = true := by decide +kernel
set_option maxRecDepth 65536 in
theorem w_heap : heapFits about1 = true := by decide +kernel
set_option maxRecDepth 65536 in
theorem w_runnable : about1.curStatus? = some .runnable := by decide +kernel
set_option maxRecDepth 65536 in
theorem w_alone : about1.alone = true := by decide +kernel
set_option maxRecDepth 65536 in
theorem w_named : about1.methodNamed? x = some theMethod := by decide +kernel
set_option maxRecDepth 65536 in
theorem w_hears : about1.hears theMethod below0 = true := by decide +kernel
set_option maxRecDepth 65536 in
theorem w_ripe : about1.ripe theMethod args0 below0 = true := by decide +kernel
theorem w_running : about1.status = .running := rfl
set_option maxRecDepth 65536 in
theorem w_room : about1.hasRoom e0.platform room_1 = true :=
  launch0.hasRoom_least _ room_1 (by decide +kernel) (by decide +kernel) (by decide +kernel) (by decide +kernel) (by decide +kernel) (by decide +kernel)
theorem allAtoms_all (ts : List Jvm.Cond) (a : Array Jvm.Value) (st : Jvm.State) : (allAtoms ts).before a st = ts.all (fun c => c.before a st) := by
  induction ts with
  | nil => rfl
  | cons c t ih =>
    show (Jvm.Cond.and c (allAtoms t)).before a st = _
    rw [Jvm.Cond.before_and, ih, List.all_cons]
def words1 : List Jvm.Cond := Jvm.Cond.code x code maxLocals ret :: tables_1
/-- a 'code' word, met by the world's own term for the bytes: nothing is compared byte by byte -/
theorem code_word {y : MethodName} {bytes : ByteArray} {mx : Nat} {rt : Option FieldType} {a : Array Value} {s : State} {m : MethodId} {meth : Method} {c : Code} (h1 : s.methodNamed? y = some m) (h2 : s.vm.method? m = some meth) (h3 : meth.code = some c) (h4 : c.code = bytes)
    (h5 : (c.maxLocals == mx && c.exceptionTable.isEmpty && decide (c.maxStack ≤ mostOperands) && decide (meth.sig.returnType = rt) && !meth.locks && decide (parseMethodDescriptor y.desc = some meth.sig)) = true) : (Jvm.Cond.code y bytes mx rt).before a s = true := by
  simp only [Bool.and_eq_true, beq_iff_eq, Bool.not_eq_true', decide_eq_true_eq] at h5
  obtain ⟨⟨⟨⟨⟨g1, g2⟩, g3⟩, g4⟩, g5⟩, g6⟩ := h5
  simp [Cond.before, Cond.holds, Cond.value, h1, h2, h3, h4, g1, g2, g3, g4, g5, g6]
def isCode : Jvm.Cond → Bool
  | .code _ _ _ _ => true
  | _ => false
theorem all_split {L : List Jvm.Cond} {P : Jvm.Cond → Bool} (h1 : L.all (fun c => isCode c || P c) = true) (h2 : ∀ c ∈ L.filter isCode, P c = true) : L.all P = true := by
  refine List.all_eq_true.mpr fun c hc => ?_
  have h := List.all_eq_true.mp h1 c hc
  rcases Bool.eq_false_or_eq_true (isCode c) with hi | hi
  · exact h2 c (List.mem_filter.mpr ⟨hc, hi⟩)
  · simpa [hi] using h
set_option maxRecDepth 65536 in
theorem w_c0 : (Jvm.Cond.code x code maxLocals ret).before args0 about1 = true := code_word (m := ⟨1, 1⟩) (meth := k1m1) (c := k1c1) (by decide +kernel) rfl rfl rfl (by decide +kernel)
set_option maxRecDepth 65536 in
theorem w_c1 : (Jvm.Cond.code ({ cls := "com/example/tideline/tideline/model/DataPartition", name := "<init>", desc := "(JI)V" } : Jvm.MethodName) prog_36_method_1_code (4 : Nat) (Option.none : Option Jvm.ClassFile.FieldType)).before args0 about1 = true := code_word (m := ⟨3, 0⟩) (meth := k3m0) (c := k3c0) (by decide +kernel) rfl rfl rfl (by decide +kernel)
set_option maxRecDepth 65536 in
theorem w_c2 : (Jvm.Cond.code ({ cls := "java/lang/Object", name := "<init>", desc := "()V" } : Jvm.MethodName) object_method_1_code (1 : Nat) (Option.none : Option Jvm.ClassFile.FieldType)).before args0 about1 = true := code_word (m := ⟨0, 0⟩) (meth := k0m0) (c := k0c0) (by decide +kernel) rfl rfl rfl (by decide +kernel)
set_option maxRecDepth 65536 in
theorem w_c3 : (Jvm.Cond.code ({ cls := "com/example/tideline/tideline/model/DataPartition", name := "equals", desc := "(Ljava/lang/Object;)Z" } : Jvm.MethodName) prog_36_method_8_code (2 : Nat) (Option.some Jvm.ClassFile.FieldType.boolean)).before args0 about1 = true := code_word (m := ⟨3, 1⟩) (meth := k3m1) (c := k3c1) (by decide +kernel) rfl rfl rfl (by decide +kernel)
set_option maxRecDepth 65536 in
theorem w_c4 : (Jvm.Cond.code ({ cls := "java/lang/Long", name := "valueOf", desc := "(J)Ljava/lang/Long;" } : Jvm.MethodName) jdk_35_method_24_code (3 : Nat) (Option.some (Jvm.ClassFile.FieldType.object "java/lang/Long"))).before args0 about1 = true := code_word (m := ⟨8, 0⟩) (meth := k8m0) (c := k8c0) (by decide +kernel) rfl rfl rfl (by decide +kernel)
set_option maxRecDepth 65536 in
theorem w_c5 : (Jvm.Cond.code ({ cls := "java/lang/Long", name := "<init>", desc := "(J)V" } : Jvm.MethodName) jdk_35_method_26_code (3 : Nat) (Option.none : Option Jvm.ClassFile.FieldType)).before args0 about1 = true := code_word (m := ⟨8, 1⟩) (meth := k8m1) (c := k8c1) (by decide +kernel) rfl rfl rfl (by decide +kernel)
set_option maxRecDepth 65536 in
theorem w_c6 : (Jvm.Cond.code ({ cls := "java/lang/Number", name := "<init>", desc := "()V" } : Jvm.MethodName) jdk_18_method_1_code (1 : Nat) (Option.none : Option Jvm.ClassFile.FieldType)).before args0 about1 = true := code_word (m := ⟨5, 0⟩) (meth := k5m0) (c := k5c0) (by decide +kernel) rfl rfl rfl (by decide +kernel)
set_option maxRecDepth 65536 in
theorem w_c7 : (Jvm.Cond.code ({ cls := "java/lang/Integer", name := "valueOf", desc := "(I)Ljava/lang/Integer;" } : Jvm.MethodName) jdk_33_method_22_code (1 : Nat) (Option.some (Jvm.ClassFile.FieldType.object "java/lang/Integer"))).before args0 about1 = true := code_word (m := ⟨9, 0⟩) (meth := k9m0) (c := k9c0) (by decide +kernel) rfl rfl rfl (by decide +kernel)
set_option maxRecDepth 65536 in
theorem w_c8 : (Jvm.Cond.code ({ cls := "java/lang/Integer", name := "<init>", desc := "(I)V" } : Jvm.MethodName) jdk_33_method_23_code (2 : Nat) (Option.none : Option Jvm.ClassFile.FieldType)).before args0 about1 = true := code_word (m := ⟨9, 1⟩) (meth := k9m1) (c := k9c1) (by decide +kernel) rfl rfl rfl (by decide +kernel)
def codes1 : List Jvm.Cond := [Jvm.Cond.code x code maxLocals ret, Jvm.Cond.code ({ cls := "com/example/tideline/tideline/model/DataPartition", name := "<init>", desc := "(JI)V" } : Jvm.MethodName) prog_36_method_1_code (4 : Nat) (Option.none : Option Jvm.ClassFile.FieldType), Jvm.Cond.code ({ cls := "java/lang/Object", name := "<init>", desc := "()V" } : Jvm.MethodName) object_method_1_code (1 : Nat) (Option.none : Option Jvm.ClassFile.FieldType), Jvm.Cond.code ({ cls := "com/example/tideline/tideline/model/DataPartition", name := "equals", desc := "(Ljava/lang/Object;)Z" } : Jvm.MethodName) prog_36_method_8_code (2 : Nat) (Option.some Jvm.ClassFile.FieldType.boolean), Jvm.Cond.code ({ cls := "java/lang/Long", name := "valueOf", desc := "(J)Ljava/lang/Long;" } : Jvm.MethodName) jdk_35_method_24_code (3 : Nat) (Option.some (Jvm.ClassFile.FieldType.object "java/lang/Long")), Jvm.Cond.code ({ cls := "java/lang/Long", name := "<init>", desc := "(J)V" } : Jvm.MethodName) jdk_35_method_26_code (3 : Nat) (Option.none : Option Jvm.ClassFile.FieldType), Jvm.Cond.code ({ cls := "java/lang/Number", name := "<init>", desc := "()V" } : Jvm.MethodName) jdk_18_method_1_code (1 : Nat) (Option.none : Option Jvm.ClassFile.FieldType), Jvm.Cond.code ({ cls := "java/lang/Integer", name := "valueOf", desc := "(I)Ljava/lang/Integer;" } : Jvm.MethodName) jdk_33_method_22_code (1 : Nat) (Option.some (Jvm.ClassFile.FieldType.object "java/lang/Integer")), Jvm.Cond.code ({ cls := "java/lang/Integer", name := "<init>", desc := "(I)V" } : Jvm.MethodName) jdk_33_method_23_code (2 : Nat) (Option.none : Option Jvm.ClassFile.FieldType)]
set_option maxRecDepth 65536 in
theorem codes_eq : words1.filter isCode = codes1 := rfl
theorem w_codes : ∀ c ∈ words1.filter isCode, c.before args0 about1 = true := by
  rw [codes_eq]
  intro c hc
  simp only [codes1, List.mem_cons, List.not_mem_nil, or_false] at hc
  rcases hc with rfl | rfl | rfl | rfl | rfl | rfl | rfl | rfl | rfl
  · exact w_c0
  · exact w_c1
  · exact w_c2
  · exact w_c3
  · exact w_c4
  · exact w_c5
  · exact w_c6
  · exact w_c7
  · exact w_c8
set_option maxRecDepth 65536 in
theorem w_t1 : (words1.take 24).all (fun c => isCode c || c.before args0 about1) = true := by decide +kernel
set_option maxRecDepth 65536 in
theorem w_t2 : ((words1.drop 24).take 24).all (fun c => isCode c || c.before args0 about1) = true := by decide +kernel
set_option maxRecDepth 65536 in
theorem w_t3 : ((words1.drop 24).drop 24).all (fun c => isCode c || c.before args0 about1) = true := by decide +kernel
theorem w_tables : (allAtoms (Jvm.Cond.code x code maxLocals ret :: tables_1)).before args0 about1 = true := by
  rw [allAtoms_all]
  show words1.all (fun c => c.before args0 about1) = true
  refine all_split ?_ w_codes
  rw [← List.take_append_drop 24 words1, List.all_append, w_t1, ← List.take_append_drop 24 (words1.drop 24), List.all_append, w_t2, w_t3]
  rfl
set_option maxRecDepth 65536 in
theorem w_rest : rest_1_c.before args0 about1 = true := by decide +kernel
set_option maxRecDepth 65536 in
theorem w_case : (Jvm.Cond.and given_1 narrow_1).before args0 about1 = true := by decide +kernel
theorem w_applies : (headSpec (Jvm.Cond.code x code maxLocals ret :: tables_1) room_1).applies x e0.platform about1 = true :=
  (Spec.applies_iff w_frames).mpr ⟨w_running, w_runnable, w_alone, w_named, w_hears, w_ripe, w_room, w_tables⟩
theorem atStart : AtStart classFile x code maxLocals ret World_1 tables_1 room_1 Calls_1 rest_1 Pre_1 launch0 p0 e0 about1 theMethod args0 below0 :=
  ⟨lists_1, trivial, launch0.admits_env _ _ _, launch0.least_env, fairChoices_fair.cas, fairChoices_fair.clock, w_frames, w_args, w_heap, w_applies, trivial, w_rest, w_case⟩
end start1
theorem witness_1 : WitnessClaimed_1 := ⟨start1.p0, start1.e0, start1.about1, start1.theMethod, start1.args0, start1.below0, start1.atStart⟩
end Jvm.Pilot.@@N@@
