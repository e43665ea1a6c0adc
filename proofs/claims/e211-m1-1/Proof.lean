import JvmDerived
import JvmDerived.Pilot.@@N@@Statement
import JvmDerived.Pilot.@@N@@Code
set_option linter.unusedVariables false
set_option linter.unusedSimpArgs false
namespace Jvm.Pilot.@@N@@
open Jvm Jvm.ClassFile Sem Op Lib Jvm.Free Jvm.Stand Jvm.LawKit Jvm.RoadKit Bundle Jvm.Pilot.@@N@@.Jvm.D
/-- from T at the frame g the body comes to its return, and Q holds of what it returns, the heap, the places written, the cells and slots made -/
def Run (p : Program) (l : Launch) (e : Env) (R : Room) (s : State) (m : MethodId) (args : Array Value) (below : List Frame) (meth : Method) (c : Code) (Q : Option Value → Heap → List Loc → Nat → Nat → Prop) (T : State) (g : JFrame) : Prop :=
  ∃ (T' : State) (locs' : List Loc) (cells' slots' : Nat) (v : Option Value), Stand p l e R s m args below meth c T' locs' cells' slots' ∧ Q v T'.heap locs' cells' slots' ∧ (meth.sig.returnType = none → v = none) ∧
    ∀ fs, (∀ (f : JFrame) (acts : List Action), f.method = m → f.locked = none → f.entered = [] → (doReturn e (T'.setTop f) acts v).1 = T'.setFrames fs) → Steps p.tables e below (T.setTop g) (T'.setFrames fs)
section OwnRun
variable {p : Program} {l : Launch} {e : Env} {R : Room} {s : State} {m : MethodId} {args : Array Value} {below : List Frame} {meth : Method} {c : Code} {Q : Option Value → Heap → List Loc → Nat → Nat → Prop} {T T1 : State} {g g1 : JFrame} {locs : List Loc} {cells slots : Nat}
theorem Run.step (st : ∀ target, Steps p.tables e below (T1.setTop g1) target → Steps p.tables e below (T.setTop g) target) (r : Run p l e R s m args below meth c Q T1 g1) : Run p l e R s m args below meth c Q T g := by
  obtain ⟨T', locs', cs, sl, v, X, q, hv, k⟩ := r
  exact ⟨T', locs', cs, sl, v, X, q, hv, fun fs hr => st _ (k fs hr)⟩
theorem Run.retZ (X : Stand p l e R s m args below meth c T locs cells slots) (hx : p.tables.exec = Jvm.exec) {pc : Nat} {Ls : Array Slot} {z : Int32} {t : FieldType} {rest : List Value} (hret : meth.sig.returnType = some t) (ht : t = .boolean ∨ t = .byte ∨ t = .char ∨ t = .short) (hd : decode c.code pc = .ok (.ireturn, 1)) (q : Q (some (.int (nar t z))) T.heap locs cells slots) :
    Run p l e R s m args below meth c Q T (mkF m pc Ls (.int z :: rest)) :=
  ⟨T, locs, cells, slots, _, X, q, (fun h => by rw [hret] at h; cases h), fun fs hr => retN X hx hret ht hd hr⟩
theorem Run.retG (X : Stand p l e R s m args below meth c T locs cells slots) (hx : p.tables.exec = Jvm.exec) {pc : Nat} {Ls : Array Slot} {w : Value} {t : FieldType} {i : Instr} {rest : List Value} (hret : meth.sig.returnType = some t) (hn : narrow t w = w)
    (hi : (i = .ireturn ∧ (t = .int ∨ t = .boolean ∨ t = .byte ∨ t = .char ∨ t = .short) ∧ ∃ z, w = .int z) ∨ (i = .lreturn ∧ t = .long ∧ ∃ z, w = .long z) ∨ (i = .dreturn ∧ t = .double ∧ ∃ z, w = .double z) ∨ (i = .freturn ∧ t = .float ∧ ∃ z, w = .float z) ∨ (i = .areturn ∧ t.isReference = true ∧ w.isRef = true))
    (hd : decode c.code pc = .ok (i, 1)) (q : Q (some w) T.heap locs cells slots) : Run p l e R s m args below meth c Q T (mkF m pc Ls (w :: rest)) :=
  ⟨T, locs, cells, slots, _, X, q, (fun h => by rw [hret] at h; cases h), fun fs hr => retOut X hx hret hn hi hd hr⟩
theorem Run.retV (X : Stand p l e R s m args below meth c T locs cells slots) (hx : p.tables.exec = Jvm.exec) {pc : Nat} {Ls : Array Slot} (hret : meth.sig.returnType = none) (hd : decode c.code pc = .ok (.return_, 1)) (q : Q none T.heap locs cells slots) :
    Run p l e R s m args below meth c Q T (mkF m pc Ls []) :=
  ⟨T, locs, cells, slots, none, X, q, (fun _ => rfl), fun fs hr => X.returnOut hx hret hd hr⟩
end OwnRun
/-- the room's figures, and a contract's own word -/
def RQ (rm : Room) (Qm : Option Value → Heap → List Loc → Prop) : Option Value → Heap → List Loc → Nat → Nat → Prop := fun v h L cs sl => cs ≤ rm.cells ∧ sl ≤ rm.slots ∧ Qm v h L
/-- it returns u and leaves the heap as it was -/
def QV (u : Value) (h0 : Heap) (n0 : Nat) (v : Option Value) (h : Heap) (L : List Loc) : Prop := v = some u ∧ Fr n0 L ∧ h = h0
/-- a contract out of a run of the body -/
theorem metRun {l : Launch} {y : MethodName} {bytes : ByteArray} {maxL : Nat} {ret : Option FieldType} {ws : List Jvm.Cond} {rm : Room} {as' : Array Value} {Z : State} {h0 : Heap} {f0 : MethodId → JFrame} {Qm : Option Value → Heap → List Loc → Prop}
    (hpl : plainFor y = true) (hef : ∀ m, entryFrame m as' maxL = f0 m)
    (H : ∀ (p : Program) (e : Env) (s : State) (m : MethodId) (below : List Frame) (meth : Method) (c : Code) (s₁ : State), Stand p l e rm s m as' below meth c s₁ [] 0 0 → p.tables.exec = Jvm.exec → c.code = bytes → c.maxLocals = maxL → s.vm.findClass y.cls = some m.cls → meth.name = y.name → meth.sig.returnType = ret → Z.Warmed39 s.vm → s₁.heap = h0 → s.heap = h0 →
      Run p l e rm s m as' below meth c (RQ rm Qm) s₁ (f0 m)) :
    MetFree l y (head1 (Jvm.Cond.code y bytes maxL ret :: ws) rm) (fun a U => a = as' ∧ Z.Warmed39 U.vm ∧ U.heap = h0) (fun _ _ _ _ _ => True) (fun _ U o U' => ∃ v L, o = .returned v ∧ Qm v U'.heap L ∧ FrameEnd U o U' L rm.cells rm.slots) := by
  refine MetFree.of_bodySF hpl hisR ?_
  intro p e s m args below meth c s₁ Bd hml0 hP hK
  obtain ⟨rfl, hZ, hh⟩ := hP
  have X0 : Stand p l e rm s m _ below meth c s₁ [] 0 0 := Stand.of_body Bd
  have e0 : s₁.heap = h0 := by rw [← hh, Bd.state]; rfl
  obtain ⟨T', locs', cs, sl, v, X', q, hv, k⟩ := H p e s m below meth c s₁ X0 Bd.exec Bd.bytes hml0 (findClass_of_methodNamed Bd.named) (name_of_methodNamed Bd.named Bd.method).1 Bd.returns hZ e0 hh
  obtain ⟨fs, hr, hrun, hended, hW, hsame⟩ := X'.leave (v := v) hv
  exact ⟨_, _, castTop (hef m) (k fs hr), hrun, hended, v, _, rfl, q.2.2, ⟨_, rfl⟩, hW, hsame.mono q.1 q.2.1⟩
section OwnArr
variable {p : Program} {l : Launch} {e : Env} {R : Room} {s : State} {m : MethodId} {args : Array Value} {below : List Frame} {meth : Method} {c : Code} {T : State} {locs : List Loc} {cells slots : Nat} {Z : State} {a0 : Array Value} {h h1 h2 : Heap} {n0 : Nat}
/-- an array of the kind ty (its class k) whose components are vs -/
def AL (Z : State) (h : Heap) (a : Addr) (k : ClassId) (ty : FieldType) (vs : List Value) : Prop := ∃ cl : Cell, Arr Z h a cl ty ∧ cl.cls = k ∧ cl.slots.toList = vs
theorem AL.lt {a : Addr} {k : ClassId} {ty : FieldType} {vs : List Value} (A : AL Z h a k ty vs) : a < h.size := by
  obtain ⟨cl, A, -⟩ := A
  exact A.lt
theorem AL.keep {a : Addr} {k : ClassId} {ty : FieldType} {vs : List Value} (A : AL Z h a k ty vs) (K : Keep h h1 []) : AL Z h1 a k ty vs := by
  obtain ⟨cl, A, q, e⟩ := A
  exact ⟨cl, ⟨K.2.1 a cl A.1 (by simp), A.2⟩, q, e⟩
theorem AL.other {a b : Addr} {k : ClassId} {ty : FieldType} {vs : List Value} {sl : Nat} {v : Value} (A : AL Z h a k ty vs) (W : Wr h h1 b sl v) (q : a ≠ b) : AL Z h1 a k ty vs := by
  obtain ⟨cl, A, r⟩ := A
  exact ⟨cl, A.other W q, r⟩
theorem Keep.trans0 (K : Keep h h1 []) (K' : Keep h1 h2 []) : Keep h h2 [] := K.trans K' (fun x hx => nomatch hx)
theorem own_staKeep {C n d : String} {v : Value} (F : Sta Z h C n d v) (K : Keep h h1 []) : Sta Z h1 C n d v := by
  obtain ⟨cf, i, k, f, st, cell, q1, q2, q3, q4, q5, r⟩ := F
  exact ⟨cf, i, k, f, st, cell, q1, q2, q3, q4, K.2.1 _ _ q5 (by simp), r⟩
theorem own_newI (X : Stand p l e R s m args below meth c T locs cells slots) (hx : p.tables.exec = Jvm.exec) (hZ : Z.Warmed39 s.vm) (w : (Cond.arrayClass .int).before a0 Z = true) (eT : T.heap = h) {g : JFrame} (hg : g.method = m) (hd : decode c.code g.pc = .ok (.newarray .int, 2)) {n : Int32} {rest : List Value} (hs : g.stack = .int n :: rest)
    (hn : ¬ n < 0) {cap : Nat} (hcap : n.toNatClampNeg = cap) (hb : cap * 8 ≤ 536870912) (hc : cells + 1 ≤ R.cells) (hl : slots + cap ≤ R.slots) :
    ∃ T' h' k, Stand p l e R s m args below meth c T' locs (cells + 1) (slots + cap) ∧ T'.heap = h' ∧ Keep h h' [] ∧ AL Z h' h.size k .int (List.replicate cap (.int 0)) ∧
      ∀ target, Steps p.tables e below (T'.setTop { g with pc := g.pc + 2, stack := .ref h.size :: rest }) target → Steps p.tables e below (T.setTop g) target := by
  obtain ⟨T', h', k, X', e', E, A, st⟩ := newP X hx hZ (aty := .int) w eT hg hd hs hn (cap := cap) (Nat.le_of_eq hcap) hb hc hl
  exact ⟨T', h', k, X', e', (Keep.refl _ _).ext E, ⟨_, A, rfl, by simp [newA, hcap, newarray.typeOf, defaultValue]⟩, st⟩
theorem own_newR (X : Stand p l e R s m args below meth c T locs cells slots) (hx : p.tables.exec = Jvm.exec) (hZ : Z.Warmed39 s.vm) {own C : String} {index : Nat} (hown : s.vm.findClass own = some m.cls) (w1 : (Cond.classLink own index C).before a0 Z = true) (w2 : (Cond.arrayOver (.object C)).before a0 Z = true) (eT : T.heap = h) {g : JFrame} (hg : g.method = m) (hd : decode c.code g.pc = .ok (.anewarray index, 3)) {n : Int32} {rest : List Value} (hs : g.stack = .int n :: rest)
    (hn : ¬ n < 0) {cap : Nat} (hcap : n.toNatClampNeg = cap) (hb : cap * 8 ≤ 536870912) (hc : cells + 1 ≤ R.cells) (hl : slots + cap ≤ R.slots) :
    ∃ T' h' k, Stand p l e R s m args below meth c T' locs (cells + 1) (slots + cap) ∧ T'.heap = h' ∧ Keep h h' [] ∧ AL Z h' h.size k (.object C) (List.replicate cap .null) ∧ Ovr Z k C ∧
      ∀ target, Steps p.tables e below (T'.setTop { g with pc := g.pc + 3, stack := .ref h.size :: rest }) target → Steps p.tables e below (T.setTop g) target := by
  obtain ⟨T', h', k, X', e', E, A, O, st⟩ := newR X hx hZ hown w1 w2 eT hg hd hs hn (cap := cap) (Nat.le_of_eq hcap) hb hc hl
  exact ⟨T', h', k, X', e', (Keep.refl _ _).ext E, ⟨_, A, rfl, by simp [newA, hcap, defaultValue]⟩, O, st⟩
theorem own_in {cl : Cell} {vs : List Value} (ev : cl.slots.toList = vs) {j : Int32} {i : Nat} (hj : ¬ j < 0) (hji : j.toNatClampNeg = i) (hi : i < vs.length) : ¬ (j < 0 ∨ cl.slots.size ≤ j.toNatClampNeg) := by
  have hsz : cl.slots.size = vs.length := by rw [← ev]; simp
  rw [hsz, hji]
  rintro (q | q)
  · exact hj q
  · exact absurd hi (Nat.not_lt.mpr q)
theorem own_stI (X : Stand p l e R s m args below meth c T locs cells slots) (hx : p.tables.exec = Jvm.exec) (hZ : Z.Warmed39 s.vm) (eT : T.heap = h1) {a : Addr} {k : ClassId} {vs : List Value} (A : AL Z h1 a k .int vs) (K : Keep h h1 []) (ha : h.size ≤ a) (N : Fr n0 locs) (hn : n0 ≤ a) {j x : Int32} {i : Nat} (hj : ¬ j < 0) (hji : j.toNatClampNeg = i) (hi : i < vs.length)
    {g : JFrame} (hg : g.method = m) {rest : List Value} (hs : g.stack = .int x :: .int j :: .ref a :: rest) (hd : decode c.code g.pc = .ok (.iastore, 1)) :
    ∃ T' h' locs', Stand p l e R s m args below meth c T' locs' cells slots ∧ T'.heap = h' ∧ Wr h1 h' a j.toNatClampNeg (.int x) ∧ AL Z h' a k .int (vs.set i (.int x)) ∧ Keep h h' [] ∧ Fr n0 locs' ∧
      ∀ target, Steps p.tables e below (T'.setTop { g with pc := g.pc + 1, stack := rest }) target → Steps p.tables e below (T.setTop g) target := by
  obtain ⟨cl, Ar, q, ev⟩ := A
  obtain ⟨T', h', X', e', W, st⟩ := stI X hx hZ eT Ar (j := j) (x := x) (own_in ev hj hji hi) hg hs hd
  refine ⟨T', h', _, X', e', W, ⟨_, Ar.same W, q, ?_⟩, K.wr W (Or.inr ha), Fr.snoc X' N hn, st⟩
  show (cl.slots.setIfInBounds _ _).toList = _
  rw [hji, Array.toList_setIfInBounds, ev]
theorem own_stR (X : Stand p l e R s m args below meth c T locs cells slots) (hx : p.tables.exec = Jvm.exec) (hZ : Z.Warmed39 s.vm) (eT : T.heap = h1) {a y : Addr} {k : ClassId} {C : String} {vs : List Value} (A : AL Z h1 a k (.object C) vs) (O : Ovr Z k C) (I : Ins Z h1 y C true) (K : Keep h h1 []) (ha : h.size ≤ a) (N : Fr n0 locs) (hn : n0 ≤ a) {j : Int32} {i : Nat} (hj : ¬ j < 0) (hji : j.toNatClampNeg = i) (hi : i < vs.length)
    {g : JFrame} (hg : g.method = m) {rest : List Value} (hs : g.stack = .ref y :: .int j :: .ref a :: rest) (hd : decode c.code g.pc = .ok (.aastore, 1)) :
    ∃ T' h' locs', Stand p l e R s m args below meth c T' locs' cells slots ∧ T'.heap = h' ∧ Wr h1 h' a j.toNatClampNeg (.ref y) ∧ AL Z h' a k (.object C) (vs.set i (.ref y)) ∧ Keep h h' [] ∧ Fr n0 locs' ∧
      ∀ target, Steps p.tables e below (T'.setTop { g with pc := g.pc + 1, stack := rest }) target → Steps p.tables e below (T.setTop g) target := by
  obtain ⟨cl, Ar, q, ev⟩ := A
  obtain ⟨T', h', X', e', W, st⟩ := stR X hx hZ eT Ar (j := j) (own_in ev hj hji hi) rfl (Sto.ofV Ar q O I) hg hs hd
  refine ⟨T', h', _, X', e', W, ⟨_, Ar.same W, q, ?_⟩, K.wr W (Or.inr ha), Fr.snoc X' N hn, st⟩
  show (cl.slots.setIfInBounds _ _).toList = _
  rw [hji, Array.toList_setIfInBounds, ev]
theorem own_ldI (X : Stand p l e R s m args below meth c T locs cells slots) (hx : p.tables.exec = Jvm.exec) (hZ : Z.Warmed39 s.vm) (eT : T.heap = h1) {a : Addr} {k : ClassId} {vs : List Value} (A : AL Z h1 a k .int vs) {j : Int32} {v : Value} (hj : ¬ j < 0) (hv : vs[j.toNatClampNeg]? = some v)
    {g : JFrame} (hg : g.method = m) {rest : List Value} (hs : g.stack = .int j :: .ref a :: rest) (hd : decode c.code g.pc = .ok (.iaload, 1)) (target : State)
    (hr : Steps p.tables e below (T.setTop { g with pc := g.pc + 1, stack := v :: rest }) target) : Steps p.tables e below (T.setTop g) target := by
  obtain ⟨cl, Ar, q, ev⟩ := A
  have hi : j.toNatClampNeg < vs.length := (List.getElem?_eq_some_iff.mp hv).1
  exact X.iaload hx (by rw [eT]; exact Ar.1) (State.isArrayOf_alike hZ.alike Ar.2.1) Ar.2.2 (own_in ev hj rfl hi) (by rw [← Array.getElem?_toList, ev]; exact hv) hg hs hd target hr
theorem own_ldR (X : Stand p l e R s m args below meth c T locs cells slots) (hx : p.tables.exec = Jvm.exec) (hZ : Z.Warmed39 s.vm) (eT : T.heap = h1) {a : Addr} {k : ClassId} {ty : FieldType} (hty : ty.isReference = true) {vs : List Value} (A : AL Z h1 a k ty vs) {j : Int32} {v : Value} (hj : ¬ j < 0) (hv : vs[j.toNatClampNeg]? = some v)
    {g : JFrame} (hg : g.method = m) {rest : List Value} (hs : g.stack = .int j :: .ref a :: rest) (hd : decode c.code g.pc = .ok (.aaload, 1)) (target : State)
    (hr : Steps p.tables e below (T.setTop { g with pc := g.pc + 1, stack := v :: rest }) target) : Steps p.tables e below (T.setTop g) target := by
  obtain ⟨cl, Ar, q, ev⟩ := A
  have hi : j.toNatClampNeg < vs.length := (List.getElem?_eq_some_iff.mp hv).1
  exact X.aaload hx (by rw [eT]; exact Ar.1) (State.isArrayOf_alike hZ.alike Ar.2.1) hty Ar.2.2 (own_in ev hj rfl hi) (by rw [← Array.getElem?_toList, ev]; exact hv) hg hs hd target hr
end OwnArr
theorem own_b1 {u : Int32} (h : u = 1) : some (Value.int (nar .boolean 1)) = some (.int u) := by rw [h]; rfl
theorem own_b0 {u : Int32} (h : u = 0) : some (Value.int (nar .boolean 0)) = some (.int u) := by rw [h]; rfl
/-- the law returns 1 and writes nothing that stood at its start -/
def QO (n0 : Nat) (v : Option Value) (h : Heap) (L : List Loc) : Prop := v = some (.int 1) ∧ Fr n0 L
def inR (p1 p2 p3 : Int32) : Int32 := (if p1 < p2 then (0 : Int32) else (if p3 < p1 then (0 : Int32) else (1 : Int32)))
def exc (p1 : Int32) : Int32 := (if p1 < (65 : Int32) then (1 : Int32) else (if (inR p1 (91 : Int32) (94 : Int32)) = (0 : Int32) then (if p1 = (96 : Int32) then (1 : Int32) else (if (inR p1 (123 : Int32) (191 : Int32)) = (0 : Int32) then (if p1 = (215 : Int32) then (1 : Int32) else (if p1 = (247 : Int32) then (1 : Int32) else (if (inR p1 (768 : Int32) (879 : Int32)) = (0 : Int32) then (if p1 = (894 : Int32) then (1 : Int32) else (if (inR p1 (8192 : Int32) (8203 : Int32)) = (0 : Int32) then (if (inR p1 (8206 : Int32) (8303 : Int32)) = (0 : Int32) then (if (inR p1 (8592 : Int32) (11263 : Int32)) = (0 : Int32) then (if (inR p1 (12272 : Int32) (12288 : Int32)) = (0 : Int32) then (if (inR p1 (55296 : Int32) (63743 : Int32)) = (0 : Int32) then (if (inR p1 (64976 : Int32) (65007 : Int32)) = (0 : Int32) then (if (inR p1 (65534 : Int32) (65535 : Int32)) = (0 : Int32) then (if (983039 : Int32) < p1 then (1 : Int32) else (0 : Int32)) else (1 : Int32)) else (1 : Int32)) else (1 : Int32)) else (1 : Int32)) else (1 : Int32)) else (1 : Int32)) else (1 : Int32))) else (1 : Int32)))) else (1 : Int32))) else (1 : Int32)))
def v179 (p1 : Int32) : Int32 := (if p1 < (65536 : Int32) then (0 : Int32) else (if (983039 : Int32) < p1 then (0 : Int32) else (1 : Int32)))
def v167 (p1 : Int32) : Int32 := (if p1 < (65008 : Int32) then (v179 p1) else (if (65533 : Int32) < p1 then (v179 p1) else (1 : Int32)))
def v155 (p1 : Int32) : Int32 := (if p1 < (63744 : Int32) then (v167 p1) else (if (64975 : Int32) < p1 then (v167 p1) else (1 : Int32)))
def v142 (p1 : Int32) : Int32 := (if p1 < (12289 : Int32) then (v155 p1) else (if (55295 : Int32) < p1 then (v155 p1) else (1 : Int32)))
def v128 (p1 : Int32) : Int32 := (if p1 < (11264 : Int32) then (v142 p1) else (if (12271 : Int32) < p1 then (v142 p1) else (1 : Int32)))
def v114 (p1 : Int32) : Int32 := (if p1 < (8304 : Int32) then (v128 p1) else (if (8591 : Int32) < p1 then (v128 p1) else (1 : Int32)))
def v100 (p1 : Int32) : Int32 := (if p1 < (8204 : Int32) then (v114 p1) else (if (8205 : Int32) < p1 then (v114 p1) else (1 : Int32)))
def v86 (p1 : Int32) : Int32 := (if p1 < (895 : Int32) then (v100 p1) else (if (8191 : Int32) < p1 then (v100 p1) else (1 : Int32)))
def v72 (p1 : Int32) : Int32 := (if p1 < (880 : Int32) then (v86 p1) else (if (893 : Int32) < p1 then (v86 p1) else (1 : Int32)))
def v58 (p1 : Int32) : Int32 := (if p1 < (248 : Int32) then (v72 p1) else (if (767 : Int32) < p1 then (v72 p1) else (1 : Int32)))
def v44 (p1 : Int32) : Int32 := (if p1 < (216 : Int32) then (v58 p1) else (if (246 : Int32) < p1 then (v58 p1) else (1 : Int32)))
def v30 (p1 : Int32) : Int32 := (if p1 < (192 : Int32) then (v44 p1) else (if (214 : Int32) < p1 then (v44 p1) else (1 : Int32)))
def v24 (p1 : Int32) : Int32 := (if p1 = (95 : Int32) then (1 : Int32) else (v30 p1))
def v12 (p1 : Int32) : Int32 := (if p1 < (65 : Int32) then (v24 p1) else (if (90 : Int32) < p1 then (v24 p1) else (1 : Int32)))
def v0 (p1 : Int32) : Int32 := (if p1 < (97 : Int32) then (v12 p1) else (if (122 : Int32) < p1 then (v12 p1) else (1 : Int32)))
def bnds : List Value := (((((((((((((((((((((((((((((((List.replicate 30 (.int 0)).set 0 (.int (58 : Int32))).set 1 (.int (65 : Int32))).set 2 (.int (90 : Int32))).set 3 (.int (95 : Int32))).set 4 (.int (97 : Int32))).set 5 (.int (122 : Int32))).set 6 (.int (192 : Int32))).set 7 (.int (214 : Int32))).set 8 (.int (216 : Int32))).set 9 (.int (246 : Int32))).set 10 (.int (248 : Int32))).set 11 (.int (767 : Int32))).set 12 (.int (880 : Int32))).set 13 (.int (893 : Int32))).set 14 (.int (895 : Int32))).set 15 (.int (8191 : Int32))).set 16 (.int (8204 : Int32))).set 17 (.int (8205 : Int32))).set 18 (.int (8304 : Int32))).set 19 (.int (8591 : Int32))).set 20 (.int (11264 : Int32))).set 21 (.int (12271 : Int32))).set 22 (.int (12289 : Int32))).set 23 (.int (55295 : Int32))).set 24 (.int (63744 : Int32))).set 25 (.int (64975 : Int32))).set 26 (.int (65008 : Int32))).set 27 (.int (65533 : Int32))).set 28 (.int (65536 : Int32))).set 29 (.int (983039 : Int32)))
theorem t65 : (65 : Int32).toInt = 65 := by decide
theorem t90 : (90 : Int32).toInt = 90 := by decide
theorem t91 : (91 : Int32).toInt = 91 := by decide
theorem t94 : (94 : Int32).toInt = 94 := by decide
theorem t95 : (95 : Int32).toInt = 95 := by decide
theorem t96 : (96 : Int32).toInt = 96 := by decide
theorem t97 : (97 : Int32).toInt = 97 := by decide
theorem t122 : (122 : Int32).toInt = 122 := by decide
theorem t123 : (123 : Int32).toInt = 123 := by decide
theorem t191 : (191 : Int32).toInt = 191 := by decide
theorem t192 : (192 : Int32).toInt = 192 := by decide
theorem t214 : (214 : Int32).toInt = 214 := by decide
theorem t215 : (215 : Int32).toInt = 215 := by decide
theorem t216 : (216 : Int32).toInt = 216 := by decide
theorem t246 : (246 : Int32).toInt = 246 := by decide
theorem t247 : (247 : Int32).toInt = 247 := by decide
theorem t248 : (248 : Int32).toInt = 248 := by decide
theorem t767 : (767 : Int32).toInt = 767 := by decide
theorem t768 : (768 : Int32).toInt = 768 := by decide
theorem t879 : (879 : Int32).toInt = 879 := by decide
theorem t880 : (880 : Int32).toInt = 880 := by decide
theorem t893 : (893 : Int32).toInt = 893 := by decide
theorem t894 : (894 : Int32).toInt = 894 := by decide
theorem t895 : (895 : Int32).toInt = 895 := by decide
theorem t8191 : (8191 : Int32).toInt = 8191 := by decide
theorem t8192 : (8192 : Int32).toInt = 8192 := by decide
theorem t8203 : (8203 : Int32).toInt = 8203 := by decide
theorem t8204 : (8204 : Int32).toInt = 8204 := by decide
theorem t8205 : (8205 : Int32).toInt = 8205 := by decide
theorem t8206 : (8206 : Int32).toInt = 8206 := by decide
theorem t8303 : (8303 : Int32).toInt = 8303 := by decide
theorem t8304 : (8304 : Int32).toInt = 8304 := by decide
theorem t8591 : (8591 : Int32).toInt = 8591 := by decide
theorem t8592 : (8592 : Int32).toInt = 8592 := by decide
theorem t11263 : (11263 : Int32).toInt = 11263 := by decide
theorem t11264 : (11264 : Int32).toInt = 11264 := by decide
theorem t12271 : (12271 : Int32).toInt = 12271 := by decide
theorem t12272 : (12272 : Int32).toInt = 12272 := by decide
theorem t12288 : (12288 : Int32).toInt = 12288 := by decide
theorem t12289 : (12289 : Int32).toInt = 12289 := by decide
theorem t55295 : (55295 : Int32).toInt = 55295 := by decide
theorem t55296 : (55296 : Int32).toInt = 55296 := by decide
theorem t63743 : (63743 : Int32).toInt = 63743 := by decide
theorem t63744 : (63744 : Int32).toInt = 63744 := by decide
theorem t64975 : (64975 : Int32).toInt = 64975 := by decide
theorem t64976 : (64976 : Int32).toInt = 64976 := by decide
theorem t65007 : (65007 : Int32).toInt = 65007 := by decide
theorem t65008 : (65008 : Int32).toInt = 65008 := by decide
theorem t65533 : (65533 : Int32).toInt = 65533 := by decide
theorem t65534 : (65534 : Int32).toInt = 65534 := by decide
theorem t65535 : (65535 : Int32).toInt = 65535 := by decide
theorem t65536 : (65536 : Int32).toInt = 65536 := by decide
theorem t983039 : (983039 : Int32).toInt = 983039 := by decide
theorem own_lt {c k : Int32} {n : Int} (t : k.toInt = n) : (c < k) ↔ c.toInt < n := by rw [Int32.lt_iff_toInt_lt, t]
theorem own_gt {c k : Int32} {n : Int} (t : k.toInt = n) : (k < c) ↔ n < c.toInt := by rw [Int32.lt_iff_toInt_lt, t]
theorem own_eq {c k : Int32} {n : Int} (t : k.toInt = n) : (c = k) ↔ c.toInt = n := by rw [← Int32.toInt_inj, t]
theorem own_in0 {c a b : Int32} {i j : Int} (ta : a.toInt = i) (tb : b.toInt = j) : (inR c a b = 0) ↔ (c.toInt < i ∨ j < c.toInt) := by
  rw [← own_lt (c := c) ta, ← own_gt (c := c) tb]
  unfold inR
  by_cases h1 : c < a
  · rw [if_pos h1]; exact ⟨fun _ => Or.inl h1, fun _ => rfl⟩
  · rw [if_neg h1]
    by_cases h2 : b < c
    · rw [if_pos h2]; exact ⟨fun _ => Or.inr h2, fun _ => rfl⟩
    · rw [if_neg h2]; exact ⟨fun q => absurd q (by decide), fun q => (q.elim h1 h2).elim⟩
def EXC (n : Int) : Prop := n < 65 ∨ (91 ≤ n ∧ n ≤ 94) ∨ n = 96 ∨ (123 ≤ n ∧ n ≤ 191) ∨ n = 215 ∨ n = 247 ∨ (768 ≤ n ∧ n ≤ 879) ∨ n = 894 ∨ (8192 ≤ n ∧ n ≤ 8203) ∨ (8206 ≤ n ∧ n ≤ 8303) ∨ (8592 ≤ n ∧ n ≤ 11263) ∨ (12272 ≤ n ∧ n ≤ 12288) ∨ (55296 ≤ n ∧ n ≤ 63743) ∨ (64976 ≤ n ∧ n ≤ 65007) ∨ (65534 ≤ n ∧ n ≤ 65535) ∨ 983039 < n
theorem own_exc (c : Int32) : (exc c = 1 ∧ EXC c.toInt) ∨ (exc c = 0 ∧ ¬ EXC c.toInt) := by
  unfold exc EXC
  by_cases h0 : c < 65
  case pos => rw [if_pos h0]; have k0 := (own_lt t65).mp h0; left; exact ⟨rfl, by omega⟩
  rw [if_neg h0]; have k0 := (not_congr (own_lt t65)).mp h0
  by_cases h1 : inR c 91 94 = 0
  case neg => rw [if_neg h1]; have k1 := (not_congr (own_in0 t91 t94)).mp h1; left; exact ⟨rfl, by omega⟩
  rw [if_pos h1]; have k1 := (own_in0 t91 t94).mp h1
  by_cases h2 : c = 96
  case pos => rw [if_pos h2]; have k2 := (own_eq t96).mp h2; left; exact ⟨rfl, by omega⟩
  rw [if_neg h2]; have k2 := (not_congr (own_eq t96)).mp h2
  by_cases h3 : inR c 123 191 = 0
  case neg => rw [if_neg h3]; have k3 := (not_congr (own_in0 t123 t191)).mp h3; left; exact ⟨rfl, by omega⟩
  rw [if_pos h3]; have k3 := (own_in0 t123 t191).mp h3
  by_cases h4 : c = 215
  case pos => rw [if_pos h4]; have k4 := (own_eq t215).mp h4; left; exact ⟨rfl, by omega⟩
  rw [if_neg h4]; have k4 := (not_congr (own_eq t215)).mp h4
  by_cases h5 : c = 247
  case pos => rw [if_pos h5]; have k5 := (own_eq t247).mp h5; left; exact ⟨rfl, by omega⟩
  rw [if_neg h5]; have k5 := (not_congr (own_eq t247)).mp h5
  by_cases h6 : inR c 768 879 = 0
  case neg => rw [if_neg h6]; have k6 := (not_congr (own_in0 t768 t879)).mp h6; left; exact ⟨rfl, by omega⟩
  rw [if_pos h6]; have k6 := (own_in0 t768 t879).mp h6
  by_cases h7 : c = 894
  case pos => rw [if_pos h7]; have k7 := (own_eq t894).mp h7; left; exact ⟨rfl, by omega⟩
  rw [if_neg h7]; have k7 := (not_congr (own_eq t894)).mp h7
  by_cases h8 : inR c 8192 8203 = 0
  case neg => rw [if_neg h8]; have k8 := (not_congr (own_in0 t8192 t8203)).mp h8; left; exact ⟨rfl, by omega⟩
  rw [if_pos h8]; have k8 := (own_in0 t8192 t8203).mp h8
  by_cases h9 : inR c 8206 8303 = 0
  case neg => rw [if_neg h9]; have k9 := (not_congr (own_in0 t8206 t8303)).mp h9; left; exact ⟨rfl, by omega⟩
  rw [if_pos h9]; have k9 := (own_in0 t8206 t8303).mp h9
  by_cases h10 : inR c 8592 11263 = 0
  case neg => rw [if_neg h10]; have k10 := (not_congr (own_in0 t8592 t11263)).mp h10; left; exact ⟨rfl, by omega⟩
  rw [if_pos h10]; have k10 := (own_in0 t8592 t11263).mp h10
  by_cases h11 : inR c 12272 12288 = 0
  case neg => rw [if_neg h11]; have k11 := (not_congr (own_in0 t12272 t12288)).mp h11; left; exact ⟨rfl, by omega⟩
  rw [if_pos h11]; have k11 := (own_in0 t12272 t12288).mp h11
  by_cases h12 : inR c 55296 63743 = 0
  case neg => rw [if_neg h12]; have k12 := (not_congr (own_in0 t55296 t63743)).mp h12; left; exact ⟨rfl, by omega⟩
  rw [if_pos h12]; have k12 := (own_in0 t55296 t63743).mp h12
  by_cases h13 : inR c 64976 65007 = 0
  case neg => rw [if_neg h13]; have k13 := (not_congr (own_in0 t64976 t65007)).mp h13; left; exact ⟨rfl, by omega⟩
  rw [if_pos h13]; have k13 := (own_in0 t64976 t65007).mp h13
  by_cases h14 : inR c 65534 65535 = 0
  case neg => rw [if_neg h14]; have k14 := (not_congr (own_in0 t65534 t65535)).mp h14; left; exact ⟨rfl, by omega⟩
  rw [if_pos h14]; have k14 := (own_in0 t65534 t65535).mp h14
  by_cases h15 : 983039 < c
  case pos => rw [if_pos h15]; have k15 := (own_gt t983039).mp h15; left; exact ⟨rfl, by omega⟩
  rw [if_neg h15]; have k15 := (not_congr (own_gt t983039)).mp h15
  right; exact ⟨rfl, by omega⟩
def NS179 (n : Int) : Prop := (65536 ≤ n ∧ n ≤ 983039) ∨ False
theorem own_v179 (c : Int32) : (v179 c = 1 ∧ NS179 c.toInt) ∨ (v179 c = 0 ∧ ¬ NS179 c.toInt) := by
  unfold v179 NS179
  by_cases h1 : c < 65536
  · rw [if_pos h1]; have k1 := (own_lt t65536).mp h1
    exact Or.inr ⟨rfl, fun z => z.elim (by omega) id⟩
  · rw [if_neg h1]; have k1 := (not_congr (own_lt t65536)).mp h1
    by_cases h2 : 983039 < c
    · rw [if_pos h2]; have k2 := (own_gt t983039).mp h2
      exact Or.inr ⟨rfl, fun z => z.elim (by omega) id⟩
    · rw [if_neg h2]; have k2 := (not_congr (own_gt t983039)).mp h2
      exact Or.inl ⟨rfl, Or.inl (by omega)⟩
def NS167 (n : Int) : Prop := (65008 ≤ n ∧ n ≤ 65533) ∨ NS179 n
theorem own_v167 (c : Int32) : (v167 c = 1 ∧ NS167 c.toInt) ∨ (v167 c = 0 ∧ ¬ NS167 c.toInt) := by
  have r := own_v179 c
  unfold v167 NS167
  by_cases h1 : c < 65008
  · rw [if_pos h1]; have k1 := (own_lt t65008).mp h1
    rcases r with ⟨r1, r2⟩ | ⟨r1, r2⟩
    · exact Or.inl ⟨r1, Or.inr r2⟩
    · exact Or.inr ⟨r1, fun z => z.elim (by omega) r2⟩
  · rw [if_neg h1]; have k1 := (not_congr (own_lt t65008)).mp h1
    by_cases h2 : 65533 < c
    · rw [if_pos h2]; have k2 := (own_gt t65533).mp h2
      rcases r with ⟨r1, r2⟩ | ⟨r1, r2⟩
      · exact Or.inl ⟨r1, Or.inr r2⟩
      · exact Or.inr ⟨r1, fun z => z.elim (by omega) r2⟩
    · rw [if_neg h2]; have k2 := (not_congr (own_gt t65533)).mp h2
      exact Or.inl ⟨rfl, Or.inl (by omega)⟩
def NS155 (n : Int) : Prop := (63744 ≤ n ∧ n ≤ 64975) ∨ NS167 n
theorem own_v155 (c : Int32) : (v155 c = 1 ∧ NS155 c.toInt) ∨ (v155 c = 0 ∧ ¬ NS155 c.toInt) := by
  have r := own_v167 c
  unfold v155 NS155
  by_cases h1 : c < 63744
  · rw [if_pos h1]; have k1 := (own_lt t63744).mp h1
    rcases r with ⟨r1, r2⟩ | ⟨r1, r2⟩
    · exact Or.inl ⟨r1, Or.inr r2⟩
    · exact Or.inr ⟨r1, fun z => z.elim (by omega) r2⟩
  · rw [if_neg h1]; have k1 := (not_congr (own_lt t63744)).mp h1
    by_cases h2 : 64975 < c
    · rw [if_pos h2]; have k2 := (own_gt t64975).mp h2
      rcases r with ⟨r1, r2⟩ | ⟨r1, r2⟩
      · exact Or.inl ⟨r1, Or.inr r2⟩
      · exact Or.inr ⟨r1, fun z => z.elim (by omega) r2⟩
    · rw [if_neg h2]; have k2 := (not_congr (own_gt t64975)).mp h2
      exact Or.inl ⟨rfl, Or.inl (by omega)⟩
def NS142 (n : Int) : Prop := (12289 ≤ n ∧ n ≤ 55295) ∨ NS155 n
theorem own_v142 (c : Int32) : (v142 c = 1 ∧ NS142 c.toInt) ∨ (v142 c = 0 ∧ ¬ NS142 c.toInt) := by
  have r := own_v155 c
  unfold v142 NS142
  by_cases h1 : c < 12289
  · rw [if_pos h1]; have k1 := (own_lt t12289).mp h1
    rcases r with ⟨r1, r2⟩ | ⟨r1, r2⟩
    · exact Or.inl ⟨r1, Or.inr r2⟩
    · exact Or.inr ⟨r1, fun z => z.elim (by omega) r2⟩
  · rw [if_neg h1]; have k1 := (not_congr (own_lt t12289)).mp h1
    by_cases h2 : 55295 < c
    · rw [if_pos h2]; have k2 := (own_gt t55295).mp h2
      rcases r with ⟨r1, r2⟩ | ⟨r1, r2⟩
      · exact Or.inl ⟨r1, Or.inr r2⟩
      · exact Or.inr ⟨r1, fun z => z.elim (by omega) r2⟩
    · rw [if_neg h2]; have k2 := (not_congr (own_gt t55295)).mp h2
      exact Or.inl ⟨rfl, Or.inl (by omega)⟩
def NS128 (n : Int) : Prop := (11264 ≤ n ∧ n ≤ 12271) ∨ NS142 n
theorem own_v128 (c : Int32) : (v128 c = 1 ∧ NS128 c.toInt) ∨ (v128 c = 0 ∧ ¬ NS128 c.toInt) := by
  have r := own_v142 c
  unfold v128 NS128
  by_cases h1 : c < 11264
  · rw [if_pos h1]; have k1 := (own_lt t11264).mp h1
    rcases r with ⟨r1, r2⟩ | ⟨r1, r2⟩
    · exact Or.inl ⟨r1, Or.inr r2⟩
    · exact Or.inr ⟨r1, fun z => z.elim (by omega) r2⟩
  · rw [if_neg h1]; have k1 := (not_congr (own_lt t11264)).mp h1
    by_cases h2 : 12271 < c
    · rw [if_pos h2]; have k2 := (own_gt t12271).mp h2
      rcases r with ⟨r1, r2⟩ | ⟨r1, r2⟩
      · exact Or.inl ⟨r1, Or.inr r2⟩
      · exact Or.inr ⟨r1, fun z => z.elim (by omega) r2⟩
    · rw [if_neg h2]; have k2 := (not_congr (own_gt t12271)).mp h2
      exact Or.inl ⟨rfl, Or.inl (by omega)⟩
def NS114 (n : Int) : Prop := (8304 ≤ n ∧ n ≤ 8591) ∨ NS128 n
theorem own_v114 (c : Int32) : (v114 c = 1 ∧ NS114 c.toInt) ∨ (v114 c = 0 ∧ ¬ NS114 c.toInt) := by
  have r := own_v128 c
  unfold v114 NS114
  by_cases h1 : c < 8304
  · rw [if_pos h1]; have k1 := (own_lt t8304).mp h1
    rcases r with ⟨r1, r2⟩ | ⟨r1, r2⟩
    · exact Or.inl ⟨r1, Or.inr r2⟩
    · exact Or.inr ⟨r1, fun z => z.elim (by omega) r2⟩
  · rw [if_neg h1]; have k1 := (not_congr (own_lt t8304)).mp h1
    by_cases h2 : 8591 < c
    · rw [if_pos h2]; have k2 := (own_gt t8591).mp h2
      rcases r with ⟨r1, r2⟩ | ⟨r1, r2⟩
      · exact Or.inl ⟨r1, Or.inr r2⟩
      · exact Or.inr ⟨r1, fun z => z.elim (by omega) r2⟩
    · rw [if_neg h2]; have k2 := (not_congr (own_gt t8591)).mp h2
      exact Or.inl ⟨rfl, Or.inl (by omega)⟩
def NS100 (n : Int) : Prop := (8204 ≤ n ∧ n ≤ 8205) ∨ NS114 n
theorem own_v100 (c : Int32) : (v100 c = 1 ∧ NS100 c.toInt) ∨ (v100 c = 0 ∧ ¬ NS100 c.toInt) := by
  have r := own_v114 c
  unfold v100 NS100
  by_cases h1 : c < 8204
  · rw [if_pos h1]; have k1 := (own_lt t8204).mp h1
    rcases r with ⟨r1, r2⟩ | ⟨r1, r2⟩
    · exact Or.inl ⟨r1, Or.inr r2⟩
    · exact Or.inr ⟨r1, fun z => z.elim (by omega) r2⟩
  · rw [if_neg h1]; have k1 := (not_congr (own_lt t8204)).mp h1
    by_cases h2 : 8205 < c
    · rw [if_pos h2]; have k2 := (own_gt t8205).mp h2
      rcases r with ⟨r1, r2⟩ | ⟨r1, r2⟩
      · exact Or.inl ⟨r1, Or.inr r2⟩
      · exact Or.inr ⟨r1, fun z => z.elim (by omega) r2⟩
    · rw [if_neg h2]; have k2 := (not_congr (own_gt t8205)).mp h2
      exact Or.inl ⟨rfl, Or.inl (by omega)⟩
def NS86 (n : Int) : Prop := (895 ≤ n ∧ n ≤ 8191) ∨ NS100 n
theorem own_v86 (c : Int32) : (v86 c = 1 ∧ NS86 c.toInt) ∨ (v86 c = 0 ∧ ¬ NS86 c.toInt) := by
  have r := own_v100 c
  unfold v86 NS86
  by_cases h1 : c < 895
  · rw [if_pos h1]; have k1 := (own_lt t895).mp h1
    rcases r with ⟨r1, r2⟩ | ⟨r1, r2⟩
    · exact Or.inl ⟨r1, Or.inr r2⟩
    · exact Or.inr ⟨r1, fun z => z.elim (by omega) r2⟩
  · rw [if_neg h1]; have k1 := (not_congr (own_lt t895)).mp h1
    by_cases h2 : 8191 < c
    · rw [if_pos h2]; have k2 := (own_gt t8191).mp h2
      rcases r with ⟨r1, r2⟩ | ⟨r1, r2⟩
      · exact Or.inl ⟨r1, Or.inr r2⟩
      · exact Or.inr ⟨r1, fun z => z.elim (by omega) r2⟩
    · rw [if_neg h2]; have k2 := (not_congr (own_gt t8191)).mp h2
      exact Or.inl ⟨rfl, Or.inl (by omega)⟩
def NS72 (n : Int) : Prop := (880 ≤ n ∧ n ≤ 893) ∨ NS86 n
theorem own_v72 (c : Int32) : (v72 c = 1 ∧ NS72 c.toInt) ∨ (v72 c = 0 ∧ ¬ NS72 c.toInt) := by
  have r := own_v86 c
  unfold v72 NS72
  by_cases h1 : c < 880
  · rw [if_pos h1]; have k1 := (own_lt t880).mp h1
    rcases r with ⟨r1, r2⟩ | ⟨r1, r2⟩
    · exact Or.inl ⟨r1, Or.inr r2⟩
    · exact Or.inr ⟨r1, fun z => z.elim (by omega) r2⟩
  · rw [if_neg h1]; have k1 := (not_congr (own_lt t880)).mp h1
    by_cases h2 : 893 < c
    · rw [if_pos h2]; have k2 := (own_gt t893).mp h2
      rcases r with ⟨r1, r2⟩ | ⟨r1, r2⟩
      · exact Or.inl ⟨r1, Or.inr r2⟩
      · exact Or.inr ⟨r1, fun z => z.elim (by omega) r2⟩
    · rw [if_neg h2]; have k2 := (not_congr (own_gt t893)).mp h2
      exact Or.inl ⟨rfl, Or.inl (by omega)⟩
def NS58 (n : Int) : Prop := (248 ≤ n ∧ n ≤ 767) ∨ NS72 n
theorem own_v58 (c : Int32) : (v58 c = 1 ∧ NS58 c.toInt) ∨ (v58 c = 0 ∧ ¬ NS58 c.toInt) := by
  have r := own_v72 c
  unfold v58 NS58
  by_cases h1 : c < 248
  · rw [if_pos h1]; have k1 := (own_lt t248).mp h1
    rcases r with ⟨r1, r2⟩ | ⟨r1, r2⟩
    · exact Or.inl ⟨r1, Or.inr r2⟩
    · exact Or.inr ⟨r1, fun z => z.elim (by omega) r2⟩
  · rw [if_neg h1]; have k1 := (not_congr (own_lt t248)).mp h1
    by_cases h2 : 767 < c
    · rw [if_pos h2]; have k2 := (own_gt t767).mp h2
      rcases r with ⟨r1, r2⟩ | ⟨r1, r2⟩
      · exact Or.inl ⟨r1, Or.inr r2⟩
      · exact Or.inr ⟨r1, fun z => z.elim (by omega) r2⟩
    · rw [if_neg h2]; have k2 := (not_congr (own_gt t767)).mp h2
      exact Or.inl ⟨rfl, Or.inl (by omega)⟩
def NS44 (n : Int) : Prop := (216 ≤ n ∧ n ≤ 246) ∨ NS58 n
theorem own_v44 (c : Int32) : (v44 c = 1 ∧ NS44 c.toInt) ∨ (v44 c = 0 ∧ ¬ NS44 c.toInt) := by
  have r := own_v58 c
  unfold v44 NS44
  by_cases h1 : c < 216
  · rw [if_pos h1]; have k1 := (own_lt t216).mp h1
    rcases r with ⟨r1, r2⟩ | ⟨r1, r2⟩
    · exact Or.inl ⟨r1, Or.inr r2⟩
    · exact Or.inr ⟨r1, fun z => z.elim (by omega) r2⟩
  · rw [if_neg h1]; have k1 := (not_congr (own_lt t216)).mp h1
    by_cases h2 : 246 < c
    · rw [if_pos h2]; have k2 := (own_gt t246).mp h2
      rcases r with ⟨r1, r2⟩ | ⟨r1, r2⟩
      · exact Or.inl ⟨r1, Or.inr r2⟩
      · exact Or.inr ⟨r1, fun z => z.elim (by omega) r2⟩
    · rw [if_neg h2]; have k2 := (not_congr (own_gt t246)).mp h2
      exact Or.inl ⟨rfl, Or.inl (by omega)⟩
def NS30 (n : Int) : Prop := (192 ≤ n ∧ n ≤ 214) ∨ NS44 n
theorem own_v30 (c : Int32) : (v30 c = 1 ∧ NS30 c.toInt) ∨ (v30 c = 0 ∧ ¬ NS30 c.toInt) := by
  have r := own_v44 c
  unfold v30 NS30
  by_cases h1 : c < 192
  · rw [if_pos h1]; have k1 := (own_lt t192).mp h1
    rcases r with ⟨r1, r2⟩ | ⟨r1, r2⟩
    · exact Or.inl ⟨r1, Or.inr r2⟩
    · exact Or.inr ⟨r1, fun z => z.elim (by omega) r2⟩
  · rw [if_neg h1]; have k1 := (not_congr (own_lt t192)).mp h1
    by_cases h2 : 214 < c
    · rw [if_pos h2]; have k2 := (own_gt t214).mp h2
      rcases r with ⟨r1, r2⟩ | ⟨r1, r2⟩
      · exact Or.inl ⟨r1, Or.inr r2⟩
      · exact Or.inr ⟨r1, fun z => z.elim (by omega) r2⟩
    · rw [if_neg h2]; have k2 := (not_congr (own_gt t214)).mp h2
      exact Or.inl ⟨rfl, Or.inl (by omega)⟩
def NS24 (n : Int) : Prop := (95 ≤ n ∧ n ≤ 95) ∨ NS30 n
theorem own_v24 (c : Int32) : (v24 c = 1 ∧ NS24 c.toInt) ∨ (v24 c = 0 ∧ ¬ NS24 c.toInt) := by
  have r := own_v30 c
  unfold v24 NS24
  by_cases h1 : c = 95
  · rw [if_pos h1]; have k1 := (own_eq t95).mp h1; exact Or.inl ⟨rfl, Or.inl (by omega)⟩
  · rw [if_neg h1]; have k1 := (not_congr (own_eq t95)).mp h1
    rcases r with ⟨r1, r2⟩ | ⟨r1, r2⟩
    · exact Or.inl ⟨r1, Or.inr r2⟩
    · exact Or.inr ⟨r1, fun z => z.elim (by omega) r2⟩
def NS12 (n : Int) : Prop := (65 ≤ n ∧ n ≤ 90) ∨ NS24 n
theorem own_v12 (c : Int32) : (v12 c = 1 ∧ NS12 c.toInt) ∨ (v12 c = 0 ∧ ¬ NS12 c.toInt) := by
  have r := own_v24 c
  unfold v12 NS12
  by_cases h1 : c < 65
  · rw [if_pos h1]; have k1 := (own_lt t65).mp h1
    rcases r with ⟨r1, r2⟩ | ⟨r1, r2⟩
    · exact Or.inl ⟨r1, Or.inr r2⟩
    · exact Or.inr ⟨r1, fun z => z.elim (by omega) r2⟩
  · rw [if_neg h1]; have k1 := (not_congr (own_lt t65)).mp h1
    by_cases h2 : 90 < c
    · rw [if_pos h2]; have k2 := (own_gt t90).mp h2
      rcases r with ⟨r1, r2⟩ | ⟨r1, r2⟩
      · exact Or.inl ⟨r1, Or.inr r2⟩
      · exact Or.inr ⟨r1, fun z => z.elim (by omega) r2⟩
    · rw [if_neg h2]; have k2 := (not_congr (own_gt t90)).mp h2
      exact Or.inl ⟨rfl, Or.inl (by omega)⟩
def NS0 (n : Int) : Prop := (97 ≤ n ∧ n ≤ 122) ∨ NS12 n
theorem own_v0 (c : Int32) : (v0 c = 1 ∧ NS0 c.toInt) ∨ (v0 c = 0 ∧ ¬ NS0 c.toInt) := by
  have r := own_v12 c
  unfold v0 NS0
  by_cases h1 : c < 97
  · rw [if_pos h1]; have k1 := (own_lt t97).mp h1
    rcases r with ⟨r1, r2⟩ | ⟨r1, r2⟩
    · exact Or.inl ⟨r1, Or.inr r2⟩
    · exact Or.inr ⟨r1, fun z => z.elim (by omega) r2⟩
  · rw [if_neg h1]; have k1 := (not_congr (own_lt t97)).mp h1
    by_cases h2 : 122 < c
    · rw [if_pos h2]; have k2 := (own_gt t122).mp h2
      rcases r with ⟨r1, r2⟩ | ⟨r1, r2⟩
      · exact Or.inl ⟨r1, Or.inr r2⟩
      · exact Or.inr ⟨r1, fun z => z.elim (by omega) r2⟩
    · rw [if_neg h2]; have k2 := (not_congr (own_gt t122)).mp h2
      exact Or.inl ⟨rfl, Or.inl (by omega)⟩
theorem own_part (n : Int) : EXC n ↔ ¬ NS0 n := by
  unfold EXC
  simp only [NS0, NS12, NS24, NS30, NS44, NS58, NS72, NS86, NS100, NS114, NS128, NS142, NS155, NS167, NS179, or_false]
  constructor
  · intro h z
    rcases h with h | h | h | h | h | h | h | h | h | h | h | h | h | h | h | h <;> omega
  · intro z; omega
theorem own_law (c : Int32) : (exc c = 0 ∧ v0 c = 1) ∨ (exc c = 1 ∧ v0 c = 0) := by
  have hp := own_part c.toInt
  rcases own_exc c with ⟨a1, a2⟩ | ⟨a1, a2⟩ <;> rcases own_v0 c with ⟨b1, b2⟩ | ⟨b1, b2⟩
  · exact absurd b2 (hp.mp a2)
  · exact Or.inr ⟨a1, b1⟩
  · exact Or.inl ⟨a1, b1⟩
  · exact absurd (hp.mpr b2) a2
theorem own_idx (x : Int32) : ¬ (((x.toUInt32 >>> ((1 : Int32) &&& 31).toUInt32).toInt32 % (30 : Int32)) < 0) ∧ ((x.toUInt32 >>> ((1 : Int32) &&& 31).toUInt32).toInt32 % (30 : Int32)).toNatClampNeg < 30 := by
  have h1 := c_iushr x 1 1 (by decide) (by decide)
  have h0 := rng32 x
  have h2 := (c_irem ((x.toUInt32 >>> ((1 : Int32) &&& 31).toUInt32).toInt32) 30 30 (by decide)).1 (by omega)
  generalize ((x.toUInt32 >>> ((1 : Int32) &&& 31).toUInt32).toInt32 % (30 : Int32)) = k at h2 ⊢
  rw [Int32.lt_iff_toInt_lt, show (0 : Int32).toInt = 0 from by decide]
  refine ⟨by omega, ?_⟩
  show k.toInt.toNat < 30
  omega
def isI : Value → Bool | .int _ => true | _ => false
theorem own_bnds (i : Nat) (h : i < 30) : ∃ v, bnds[i]? = some (.int v) := by
  have hl : bnds.length = 30 := by decide +kernel
  have hi : bnds.all isI = true := by decide +kernel
  have h' : i < bnds.length := by omega
  have q := List.all_eq_true.mp hi _ (List.getElem_mem h')
  rw [List.getElem?_eq_getElem h']
  generalize bnds[i] = v at q
  cases v <;> simp [isI] at q
  exact ⟨_, rfl⟩
theorem ef_3 (m : MethodId) (p1 : Int32) (p2 : Int32) (p3 : Int32) : entryFrame m #[(.int p1), (.int p2), (.int p3)] 3 = mkF m 0 #[.val (.int p1), .val (.int p2), .val (.int p3)] [] := by first | (simp [entryFrame, mkF, argsToLocals, Value.category]; done) | rfl
theorem pn_3 : plainName "com/example/stylemill/stylemill/xdm/XmlNamesIsNameStartCharPinLaw" = true := by first | (simp [plainName, overriddenIn]; done) | decide +kernel
theorem d3_0 : decode method_2_code 0 = .ok (.iload_n 0, 1) := by decide +kernel
theorem d3_1 : decode method_2_code 1 = .ok (.iload_n 1, 1) := by decide +kernel
theorem d3_2 : decode method_2_code 2 = .ok (.if_icmp .lt 12, 3) := by decide +kernel
theorem d3_14 : decode method_2_code 14 = .ok (.iconst 0, 1) := by decide +kernel
theorem d3_15 : decode method_2_code 15 = .ok (.ireturn, 1) := by decide +kernel
theorem d3_5 : decode method_2_code 5 = .ok (.iload_n 0, 1) := by decide +kernel
theorem d3_6 : decode method_2_code 6 = .ok (.iload_n 2, 1) := by decide +kernel
theorem d3_7 : decode method_2_code 7 = .ok (.if_icmp .gt 7, 3) := by decide +kernel
theorem d3_10 : decode method_2_code 10 = .ok (.iconst 1, 1) := by decide +kernel
theorem d3_11 : decode method_2_code 11 = .ok (.goto 4, 3) := by decide +kernel
theorem ef_1 (m : MethodId) (p1 : Int32) : entryFrame m #[(.int p1)] 1 = mkF m 0 #[.val (.int p1)] [] := by first | (simp [entryFrame, mkF, argsToLocals, Value.category]; done) | rfl
theorem pn_1 : plainName "com/example/stylemill/stylemill/xdm/XmlNamesIsNameStartCharPinLaw" = true := by first | (simp [plainName, overriddenIn]; done) | decide +kernel
theorem d1_160 : decode method_3_code 160 = .ok (.iconst 1, 1) := by decide +kernel
theorem d1_161 : decode method_3_code 161 = .ok (.goto 4, 3) := by decide +kernel
theorem d1_165 : decode method_3_code 165 = .ok (.ireturn, 1) := by decide +kernel
theorem d1_0 : decode method_3_code 0 = .ok (.iload_n 0, 1) := by decide +kernel
theorem d1_1 : decode method_3_code 1 = .ok (.bipush 65, 2) := by decide +kernel
theorem d1_3 : decode method_3_code 3 = .ok (.if_icmp .lt 157, 3) := by decide +kernel
theorem d1_6 : decode method_3_code 6 = .ok (.iload_n 0, 1) := by decide +kernel
theorem d1_7 : decode method_3_code 7 = .ok (.bipush 91, 2) := by decide +kernel
theorem d1_9 : decode method_3_code 9 = .ok (.bipush 94, 2) := by decide +kernel
theorem d1_11 : decode method_3_code 11 = .ok (.invokestatic 7, 3) := by decide +kernel
theorem pd__III_Z : parseMethodDescriptor "(III)Z" = some ⟨[.int, .int, .int], some .boolean⟩ := by decide +kernel
theorem d1_14 : decode method_3_code 14 = .ok (.ifCond .ne 146, 3) := by decide +kernel
theorem d1_17 : decode method_3_code 17 = .ok (.iload_n 0, 1) := by decide +kernel
theorem d1_18 : decode method_3_code 18 = .ok (.bipush 96, 2) := by decide +kernel
theorem d1_20 : decode method_3_code 20 = .ok (.if_icmp .eq 140, 3) := by decide +kernel
theorem d1_23 : decode method_3_code 23 = .ok (.iload_n 0, 1) := by decide +kernel
theorem d1_24 : decode method_3_code 24 = .ok (.bipush 123, 2) := by decide +kernel
theorem d1_26 : decode method_3_code 26 = .ok (.sipush 191, 3) := by decide +kernel
theorem d1_29 : decode method_3_code 29 = .ok (.invokestatic 7, 3) := by decide +kernel
theorem d1_32 : decode method_3_code 32 = .ok (.ifCond .ne 128, 3) := by decide +kernel
theorem d1_35 : decode method_3_code 35 = .ok (.iload_n 0, 1) := by decide +kernel
theorem d1_36 : decode method_3_code 36 = .ok (.sipush 215, 3) := by decide +kernel
theorem d1_39 : decode method_3_code 39 = .ok (.if_icmp .eq 121, 3) := by decide +kernel
theorem d1_42 : decode method_3_code 42 = .ok (.iload_n 0, 1) := by decide +kernel
theorem d1_43 : decode method_3_code 43 = .ok (.sipush 247, 3) := by decide +kernel
theorem d1_46 : decode method_3_code 46 = .ok (.if_icmp .eq 114, 3) := by decide +kernel
theorem d1_49 : decode method_3_code 49 = .ok (.iload_n 0, 1) := by decide +kernel
theorem d1_50 : decode method_3_code 50 = .ok (.sipush 768, 3) := by decide +kernel
theorem d1_53 : decode method_3_code 53 = .ok (.sipush 879, 3) := by decide +kernel
theorem d1_56 : decode method_3_code 56 = .ok (.invokestatic 7, 3) := by decide +kernel
theorem d1_59 : decode method_3_code 59 = .ok (.ifCond .ne 101, 3) := by decide +kernel
theorem d1_62 : decode method_3_code 62 = .ok (.iload_n 0, 1) := by decide +kernel
theorem d1_63 : decode method_3_code 63 = .ok (.sipush 894, 3) := by decide +kernel
theorem d1_66 : decode method_3_code 66 = .ok (.if_icmp .eq 94, 3) := by decide +kernel
theorem d1_69 : decode method_3_code 69 = .ok (.iload_n 0, 1) := by decide +kernel
theorem d1_70 : decode method_3_code 70 = .ok (.sipush 8192, 3) := by decide +kernel
theorem d1_73 : decode method_3_code 73 = .ok (.sipush 8203, 3) := by decide +kernel
theorem d1_76 : decode method_3_code 76 = .ok (.invokestatic 7, 3) := by decide +kernel
theorem d1_79 : decode method_3_code 79 = .ok (.ifCond .ne 81, 3) := by decide +kernel
theorem d1_82 : decode method_3_code 82 = .ok (.iload_n 0, 1) := by decide +kernel
theorem d1_83 : decode method_3_code 83 = .ok (.sipush 8206, 3) := by decide +kernel
theorem d1_86 : decode method_3_code 86 = .ok (.sipush 8303, 3) := by decide +kernel
theorem d1_89 : decode method_3_code 89 = .ok (.invokestatic 7, 3) := by decide +kernel
theorem d1_92 : decode method_3_code 92 = .ok (.ifCond .ne 68, 3) := by decide +kernel
theorem d1_95 : decode method_3_code 95 = .ok (.iload_n 0, 1) := by decide +kernel
theorem d1_96 : decode method_3_code 96 = .ok (.sipush 8592, 3) := by decide +kernel
theorem d1_99 : decode method_3_code 99 = .ok (.sipush 11263, 3) := by decide +kernel
theorem d1_102 : decode method_3_code 102 = .ok (.invokestatic 7, 3) := by decide +kernel
theorem d1_105 : decode method_3_code 105 = .ok (.ifCond .ne 55, 3) := by decide +kernel
theorem d1_108 : decode method_3_code 108 = .ok (.iload_n 0, 1) := by decide +kernel
theorem d1_109 : decode method_3_code 109 = .ok (.sipush 12272, 3) := by decide +kernel
theorem d1_112 : decode method_3_code 112 = .ok (.sipush 12288, 3) := by decide +kernel
theorem d1_115 : decode method_3_code 115 = .ok (.invokestatic 7, 3) := by decide +kernel
theorem d1_118 : decode method_3_code 118 = .ok (.ifCond .ne 42, 3) := by decide +kernel
theorem d1_121 : decode method_3_code 121 = .ok (.iload_n 0, 1) := by decide +kernel
theorem d1_122 : decode method_3_code 122 = .ok (.ldc 13, 2) := by decide +kernel
theorem d1_124 : decode method_3_code 124 = .ok (.ldc 14, 2) := by decide +kernel
theorem d1_126 : decode method_3_code 126 = .ok (.invokestatic 7, 3) := by decide +kernel
theorem d1_129 : decode method_3_code 129 = .ok (.ifCond .ne 31, 3) := by decide +kernel
theorem d1_132 : decode method_3_code 132 = .ok (.iload_n 0, 1) := by decide +kernel
theorem d1_133 : decode method_3_code 133 = .ok (.ldc 15, 2) := by decide +kernel
theorem d1_135 : decode method_3_code 135 = .ok (.ldc 16, 2) := by decide +kernel
theorem d1_137 : decode method_3_code 137 = .ok (.invokestatic 7, 3) := by decide +kernel
theorem d1_140 : decode method_3_code 140 = .ok (.ifCond .ne 20, 3) := by decide +kernel
theorem d1_143 : decode method_3_code 143 = .ok (.iload_n 0, 1) := by decide +kernel
theorem d1_144 : decode method_3_code 144 = .ok (.ldc 17, 2) := by decide +kernel
theorem d1_146 : decode method_3_code 146 = .ok (.ldc 18, 2) := by decide +kernel
theorem d1_148 : decode method_3_code 148 = .ok (.invokestatic 7, 3) := by decide +kernel
theorem d1_151 : decode method_3_code 151 = .ok (.ifCond .ne 9, 3) := by decide +kernel
theorem d1_154 : decode method_3_code 154 = .ok (.iload_n 0, 1) := by decide +kernel
theorem d1_155 : decode method_3_code 155 = .ok (.ldc 19, 2) := by decide +kernel
theorem d1_157 : decode method_3_code 157 = .ok (.if_icmp .le 7, 3) := by decide +kernel
theorem d1_164 : decode method_3_code 164 = .ok (.iconst 0, 1) := by decide +kernel
theorem ef_2 (m : MethodId) (p1 : Int32) : entryFrame m #[(.int p1)] 1 = mkF m 0 #[.val (.int p1)] [] := by first | (simp [entryFrame, mkF, argsToLocals, Value.category]; done) | rfl
theorem pn_2 : plainName "com/example/stylemill/stylemill/xdm/XmlNames" = true := by first | (simp [plainName, overriddenIn]; done) | decide +kernel
theorem d2_195 : decode prog_107_method_4_code 195 = .ok (.iconst 0, 1) := by decide +kernel
theorem d2_196 : decode prog_107_method_4_code 196 = .ok (.ireturn, 1) := by decide +kernel
theorem d2_191 : decode prog_107_method_4_code 191 = .ok (.iconst 1, 1) := by decide +kernel
theorem d2_192 : decode prog_107_method_4_code 192 = .ok (.goto 4, 3) := by decide +kernel
theorem d2_179 : decode prog_107_method_4_code 179 = .ok (.iload_n 0, 1) := by decide +kernel
theorem d2_180 : decode prog_107_method_4_code 180 = .ok (.ldc 78, 2) := by decide +kernel
theorem d2_182 : decode prog_107_method_4_code 182 = .ok (.if_icmp .lt 13, 3) := by decide +kernel
theorem d2_185 : decode prog_107_method_4_code 185 = .ok (.iload_n 0, 1) := by decide +kernel
theorem d2_186 : decode prog_107_method_4_code 186 = .ok (.ldc 79, 2) := by decide +kernel
theorem d2_188 : decode prog_107_method_4_code 188 = .ok (.if_icmp .gt 7, 3) := by decide +kernel
theorem d2_167 : decode prog_107_method_4_code 167 = .ok (.iload_n 0, 1) := by decide +kernel
theorem d2_168 : decode prog_107_method_4_code 168 = .ok (.ldc 76, 2) := by decide +kernel
theorem d2_170 : decode prog_107_method_4_code 170 = .ok (.if_icmp .lt 9, 3) := by decide +kernel
theorem d2_173 : decode prog_107_method_4_code 173 = .ok (.iload_n 0, 1) := by decide +kernel
theorem d2_174 : decode prog_107_method_4_code 174 = .ok (.ldc 77, 2) := by decide +kernel
theorem d2_176 : decode prog_107_method_4_code 176 = .ok (.if_icmp .le 15, 3) := by decide +kernel
theorem d2_155 : decode prog_107_method_4_code 155 = .ok (.iload_n 0, 1) := by decide +kernel
theorem d2_156 : decode prog_107_method_4_code 156 = .ok (.ldc 74, 2) := by decide +kernel
theorem d2_158 : decode prog_107_method_4_code 158 = .ok (.if_icmp .lt 9, 3) := by decide +kernel
theorem d2_161 : decode prog_107_method_4_code 161 = .ok (.iload_n 0, 1) := by decide +kernel
theorem d2_162 : decode prog_107_method_4_code 162 = .ok (.ldc 75, 2) := by decide +kernel
theorem d2_164 : decode prog_107_method_4_code 164 = .ok (.if_icmp .le 27, 3) := by decide +kernel
theorem d2_142 : decode prog_107_method_4_code 142 = .ok (.iload_n 0, 1) := by decide +kernel
theorem d2_143 : decode prog_107_method_4_code 143 = .ok (.sipush 12289, 3) := by decide +kernel
theorem d2_146 : decode prog_107_method_4_code 146 = .ok (.if_icmp .lt 9, 3) := by decide +kernel
theorem d2_149 : decode prog_107_method_4_code 149 = .ok (.iload_n 0, 1) := by decide +kernel
theorem d2_150 : decode prog_107_method_4_code 150 = .ok (.ldc 73, 2) := by decide +kernel
theorem d2_152 : decode prog_107_method_4_code 152 = .ok (.if_icmp .le 39, 3) := by decide +kernel
theorem d2_128 : decode prog_107_method_4_code 128 = .ok (.iload_n 0, 1) := by decide +kernel
theorem d2_129 : decode prog_107_method_4_code 129 = .ok (.sipush 11264, 3) := by decide +kernel
theorem d2_132 : decode prog_107_method_4_code 132 = .ok (.if_icmp .lt 10, 3) := by decide +kernel
theorem d2_135 : decode prog_107_method_4_code 135 = .ok (.iload_n 0, 1) := by decide +kernel
theorem d2_136 : decode prog_107_method_4_code 136 = .ok (.sipush 12271, 3) := by decide +kernel
theorem d2_139 : decode prog_107_method_4_code 139 = .ok (.if_icmp .le 52, 3) := by decide +kernel
theorem d2_114 : decode prog_107_method_4_code 114 = .ok (.iload_n 0, 1) := by decide +kernel
theorem d2_115 : decode prog_107_method_4_code 115 = .ok (.sipush 8304, 3) := by decide +kernel
theorem d2_118 : decode prog_107_method_4_code 118 = .ok (.if_icmp .lt 10, 3) := by decide +kernel
theorem d2_121 : decode prog_107_method_4_code 121 = .ok (.iload_n 0, 1) := by decide +kernel
theorem d2_122 : decode prog_107_method_4_code 122 = .ok (.sipush 8591, 3) := by decide +kernel
theorem d2_125 : decode prog_107_method_4_code 125 = .ok (.if_icmp .le 66, 3) := by decide +kernel
theorem d2_100 : decode prog_107_method_4_code 100 = .ok (.iload_n 0, 1) := by decide +kernel
theorem d2_101 : decode prog_107_method_4_code 101 = .ok (.sipush 8204, 3) := by decide +kernel
theorem d2_104 : decode prog_107_method_4_code 104 = .ok (.if_icmp .lt 10, 3) := by decide +kernel
theorem d2_107 : decode prog_107_method_4_code 107 = .ok (.iload_n 0, 1) := by decide +kernel
theorem d2_108 : decode prog_107_method_4_code 108 = .ok (.sipush 8205, 3) := by decide +kernel
theorem d2_111 : decode prog_107_method_4_code 111 = .ok (.if_icmp .le 80, 3) := by decide +kernel
theorem d2_86 : decode prog_107_method_4_code 86 = .ok (.iload_n 0, 1) := by decide +kernel
theorem d2_87 : decode prog_107_method_4_code 87 = .ok (.sipush 895, 3) := by decide +kernel
theorem d2_90 : decode prog_107_method_4_code 90 = .ok (.if_icmp .lt 10, 3) := by decide +kernel
theorem d2_93 : decode prog_107_method_4_code 93 = .ok (.iload_n 0, 1) := by decide +kernel
theorem d2_94 : decode prog_107_method_4_code 94 = .ok (.sipush 8191, 3) := by decide +kernel
theorem d2_97 : decode prog_107_method_4_code 97 = .ok (.if_icmp .le 94, 3) := by decide +kernel
theorem d2_72 : decode prog_107_method_4_code 72 = .ok (.iload_n 0, 1) := by decide +kernel
theorem d2_73 : decode prog_107_method_4_code 73 = .ok (.sipush 880, 3) := by decide +kernel
theorem d2_76 : decode prog_107_method_4_code 76 = .ok (.if_icmp .lt 10, 3) := by decide +kernel
theorem d2_79 : decode prog_107_method_4_code 79 = .ok (.iload_n 0, 1) := by decide +kernel
theorem d2_80 : decode prog_107_method_4_code 80 = .ok (.sipush 893, 3) := by decide +kernel
theorem d2_83 : decode prog_107_method_4_code 83 = .ok (.if_icmp .le 108, 3) := by decide +kernel
theorem d2_58 : decode prog_107_method_4_code 58 = .ok (.iload_n 0, 1) := by decide +kernel
theorem d2_59 : decode prog_107_method_4_code 59 = .ok (.sipush 248, 3) := by decide +kernel
theorem d2_62 : decode prog_107_method_4_code 62 = .ok (.if_icmp .lt 10, 3) := by decide +kernel
theorem d2_65 : decode prog_107_method_4_code 65 = .ok (.iload_n 0, 1) := by decide +kernel
theorem d2_66 : decode prog_107_method_4_code 66 = .ok (.sipush 767, 3) := by decide +kernel
theorem d2_69 : decode prog_107_method_4_code 69 = .ok (.if_icmp .le 122, 3) := by decide +kernel
theorem d2_44 : decode prog_107_method_4_code 44 = .ok (.iload_n 0, 1) := by decide +kernel
theorem d2_45 : decode prog_107_method_4_code 45 = .ok (.sipush 216, 3) := by decide +kernel
theorem d2_48 : decode prog_107_method_4_code 48 = .ok (.if_icmp .lt 10, 3) := by decide +kernel
theorem d2_51 : decode prog_107_method_4_code 51 = .ok (.iload_n 0, 1) := by decide +kernel
theorem d2_52 : decode prog_107_method_4_code 52 = .ok (.sipush 246, 3) := by decide +kernel
theorem d2_55 : decode prog_107_method_4_code 55 = .ok (.if_icmp .le 136, 3) := by decide +kernel
theorem d2_30 : decode prog_107_method_4_code 30 = .ok (.iload_n 0, 1) := by decide +kernel
theorem d2_31 : decode prog_107_method_4_code 31 = .ok (.sipush 192, 3) := by decide +kernel
theorem d2_34 : decode prog_107_method_4_code 34 = .ok (.if_icmp .lt 10, 3) := by decide +kernel
theorem d2_37 : decode prog_107_method_4_code 37 = .ok (.iload_n 0, 1) := by decide +kernel
theorem d2_38 : decode prog_107_method_4_code 38 = .ok (.sipush 214, 3) := by decide +kernel
theorem d2_41 : decode prog_107_method_4_code 41 = .ok (.if_icmp .le 150, 3) := by decide +kernel
theorem d2_24 : decode prog_107_method_4_code 24 = .ok (.iload_n 0, 1) := by decide +kernel
theorem d2_25 : decode prog_107_method_4_code 25 = .ok (.bipush 95, 2) := by decide +kernel
theorem d2_27 : decode prog_107_method_4_code 27 = .ok (.if_icmp .eq 164, 3) := by decide +kernel
theorem d2_12 : decode prog_107_method_4_code 12 = .ok (.iload_n 0, 1) := by decide +kernel
theorem d2_13 : decode prog_107_method_4_code 13 = .ok (.bipush 65, 2) := by decide +kernel
theorem d2_15 : decode prog_107_method_4_code 15 = .ok (.if_icmp .lt 9, 3) := by decide +kernel
theorem d2_18 : decode prog_107_method_4_code 18 = .ok (.iload_n 0, 1) := by decide +kernel
theorem d2_19 : decode prog_107_method_4_code 19 = .ok (.bipush 90, 2) := by decide +kernel
theorem d2_21 : decode prog_107_method_4_code 21 = .ok (.if_icmp .le 170, 3) := by decide +kernel
theorem d2_0 : decode prog_107_method_4_code 0 = .ok (.iload_n 0, 1) := by decide +kernel
theorem d2_1 : decode prog_107_method_4_code 1 = .ok (.bipush 97, 2) := by decide +kernel
theorem d2_3 : decode prog_107_method_4_code 3 = .ok (.if_icmp .lt 9, 3) := by decide +kernel
theorem d2_6 : decode prog_107_method_4_code 6 = .ok (.iload_n 0, 1) := by decide +kernel
theorem d2_7 : decode prog_107_method_4_code 7 = .ok (.bipush 122, 2) := by decide +kernel
theorem d2_9 : decode prog_107_method_4_code 9 = .ok (.if_icmp .le 182, 3) := by decide +kernel
theorem ef_0 (m : MethodId) (p1 : Int32) (p2 : Int32) : entryFrame m #[(.int p1), (.int p2)] maxLocals = mkF m 0 #[.val (.int p1), .val (.int p2), .unset, .unset, .unset] [] := by first | (simp [entryFrame, mkF, argsToLocals, Value.category, maxLocals]; done) | rfl
theorem pn_0 : plainName "com/example/stylemill/stylemill/xdm/XmlNamesIsNameStartCharPinLaw" = true := by first | (simp [plainName, overriddenIn]; done) | decide +kernel
theorem pd__I_Z : parseMethodDescriptor "(I)Z" = some ⟨[.int], some .boolean⟩ := by decide +kernel
set_option maxRecDepth 65536 in
set_option maxHeartbeats 40000000 in
theorem rm3 (l : Launch) (Z : State) (a0 : Array Value) (hw : ∀ d ∈ tables_1, d.before a0 Z = true) (ws : List Jvm.Cond) (p1 p2 p3 u : Int32) (h0 : Heap) (n0 : Nat) (hu : u = inR p1 p2 p3) :
    MetFree l (⟨"com/example/stylemill/stylemill/xdm/XmlNamesIsNameStartCharPinLaw", "in", "(III)Z"⟩ : MethodName) (head1 (Jvm.Cond.code (⟨"com/example/stylemill/stylemill/xdm/XmlNamesIsNameStartCharPinLaw", "in", "(III)Z"⟩ : MethodName) method_2_code 3 (some .boolean) :: ws) ({ frames := 0, cells := 0, slots := 0, locals := 0 } : Room)) (fun a U => a = #[(.int p1), (.int p2), (.int p3)] ∧ Z.Warmed39 U.vm ∧ U.heap = h0) (fun _ _ _ _ _ => True) (fun _ U o U' => ∃ v L, o = .returned v ∧ QV (.int u) h0 n0 v U'.heap L ∧ FrameEnd U o U' L ({ frames := 0, cells := 0, slots := 0, locals := 0 } : Room).cells ({ frames := 0, cells := 0, slots := 0, locals := 0 } : Room).slots) := by
  refine metRun (Z := Z) (plainFor_of_name pn_3) (fun m => ef_3 m p1 p2 p3) ?_
  intro p e s m below meth c s₁ X0 hx hby hml hown hnm hret hZ e0 e00
  replace hown : s.vm.findClass "com/example/stylemill/stylemill/xdm/XmlNamesIsNameStartCharPinLaw" = some m.cls := hown
  have N0 := Fr.nil n0
  refine Run.step (T1 := s₁) (g1 := (mkF m 2 #[.val (.int p1), .val (.int p2), .val (.int p3)] [(.int p2), (.int p1)])) (fun target kt => ?_) ?_
  · show Steps p.tables e below (s₁.setTop (mkF m 0 #[.val (.int p1), .val (.int p2), .val (.int p3)] [])) _
    refine XS.iloadN X0.here hx rfl (hb hby d3_0) rfl ?_
    show Steps p.tables e below (s₁.setTop (mkF m 1 #[.val (.int p1), .val (.int p2), .val (.int p3)] [(.int p1)])) _
    refine XS.iloadN X0.here hx rfl (hb hby d3_1) rfl ?_
    exact kt
  by_cases hc2 : p1 < p2
  · refine Run.step (T1 := s₁) (g1 := (mkF m 14 #[.val (.int p1), .val (.int p2), .val (.int p3)] [])) (fun target kt => ?_) ?_
    · show Steps p.tables e below (s₁.setTop (mkF m 2 #[.val (.int p1), .val (.int p2), .val (.int p3)] [(.int p2), (.int p1)])) _
      refine XS.icmpYes X0.here hx rfl (pc0 := 2) (pc' := 14) rfl (hb hby d3_2) rfl (tlt hc2).1 (by decide) (by decide) ?_
      exact kt
    refine Run.step (T1 := s₁) (g1 := (mkF m 15 #[.val (.int p1), .val (.int p2), .val (.int p3)] [(.int (0 : Int32))])) (fun target kt => ?_) ?_
    · show Steps p.tables e below (s₁.setTop (mkF m 14 #[.val (.int p1), .val (.int p2), .val (.int p3)] [])) _
      refine XS.iconst X0.here hx rfl (hb hby d3_14) ?_
      exact kt
    exact Run.retZ X0 hx (t := .boolean) hret (by simp) (hb hby d3_15) ⟨Nat.le_refl _, Nat.le_refl _, own_b0 (hu.trans (by rw [inR, if_pos hc2])), N0, e0⟩
  · refine Run.step (T1 := s₁) (g1 := (mkF m 5 #[.val (.int p1), .val (.int p2), .val (.int p3)] [])) (fun target kt => ?_) ?_
    · show Steps p.tables e below (s₁.setTop (mkF m 2 #[.val (.int p1), .val (.int p2), .val (.int p3)] [(.int p2), (.int p1)])) _
      refine XS.icmpNo X0.here hx rfl (hb hby d3_2) rfl (flt hc2).1 ?_
      exact kt
    refine Run.step (T1 := s₁) (g1 := (mkF m 7 #[.val (.int p1), .val (.int p2), .val (.int p3)] [(.int p3), (.int p1)])) (fun target kt => ?_) ?_
    · show Steps p.tables e below (s₁.setTop (mkF m 5 #[.val (.int p1), .val (.int p2), .val (.int p3)] [])) _
      refine XS.iloadN X0.here hx rfl (hb hby d3_5) rfl ?_
      show Steps p.tables e below (s₁.setTop (mkF m 6 #[.val (.int p1), .val (.int p2), .val (.int p3)] [(.int p1)])) _
      refine XS.iloadN X0.here hx rfl (hb hby d3_6) rfl ?_
      exact kt
    by_cases hc7 : p3 < p1
    · refine Run.step (T1 := s₁) (g1 := (mkF m 14 #[.val (.int p1), .val (.int p2), .val (.int p3)] [])) (fun target kt => ?_) ?_
      · show Steps p.tables e below (s₁.setTop (mkF m 7 #[.val (.int p1), .val (.int p2), .val (.int p3)] [(.int p3), (.int p1)])) _
        refine XS.icmpYes X0.here hx rfl (pc0 := 7) (pc' := 14) rfl (hb hby d3_7) rfl (tlt hc7).2.2.1 (by decide) (by decide) ?_
        exact kt
      refine Run.step (T1 := s₁) (g1 := (mkF m 15 #[.val (.int p1), .val (.int p2), .val (.int p3)] [(.int (0 : Int32))])) (fun target kt => ?_) ?_
      · show Steps p.tables e below (s₁.setTop (mkF m 14 #[.val (.int p1), .val (.int p2), .val (.int p3)] [])) _
        refine XS.iconst X0.here hx rfl (hb hby d3_14) ?_
        exact kt
      exact Run.retZ X0 hx (t := .boolean) hret (by simp) (hb hby d3_15) ⟨Nat.le_refl _, Nat.le_refl _, own_b0 (hu.trans (by rw [inR, if_neg hc2, if_pos hc7])), N0, e0⟩
    · refine Run.step (T1 := s₁) (g1 := (mkF m 10 #[.val (.int p1), .val (.int p2), .val (.int p3)] [])) (fun target kt => ?_) ?_
      · show Steps p.tables e below (s₁.setTop (mkF m 7 #[.val (.int p1), .val (.int p2), .val (.int p3)] [(.int p3), (.int p1)])) _
        refine XS.icmpNo X0.here hx rfl (hb hby d3_7) rfl (flt hc7).2.2.1 ?_
        exact kt
      refine Run.step (T1 := s₁) (g1 := (mkF m 15 #[.val (.int p1), .val (.int p2), .val (.int p3)] [(.int (1 : Int32))])) (fun target kt => ?_) ?_
      · show Steps p.tables e below (s₁.setTop (mkF m 10 #[.val (.int p1), .val (.int p2), .val (.int p3)] [])) _
        refine XS.iconst X0.here hx rfl (hb hby d3_10) ?_
        show Steps p.tables e below (s₁.setTop (mkF m 11 #[.val (.int p1), .val (.int p2), .val (.int p3)] [(.int (1 : Int32))])) _
        refine XS.goto X0.here hx rfl (pc0 := 11) (pc' := 15) rfl (hb hby d3_11) (by decide) (by decide) ?_
        exact kt
      exact Run.retZ X0 hx (t := .boolean) hret (by simp) (hb hby d3_15) ⟨Nat.le_refl _, Nat.le_refl _, own_b1 (hu.trans (by rw [inR, if_neg hc2, if_neg hc7])), N0, e0⟩
set_option maxRecDepth 65536 in
set_option maxHeartbeats 40000000 in
theorem rm1 (l : Launch) (Z : State) (a0 : Array Value) (hw : ∀ d ∈ tables_1, d.before a0 Z = true) (ws : List Jvm.Cond) (p1 u : Int32) (h0 : Heap) (n0 : Nat) (hu : u = exc p1) :
    MetFree l (⟨"com/example/stylemill/stylemill/xdm/XmlNamesIsNameStartCharPinLaw", "excluded", "(I)Z"⟩ : MethodName) (head1 (Jvm.Cond.code (⟨"com/example/stylemill/stylemill/xdm/XmlNamesIsNameStartCharPinLaw", "excluded", "(I)Z"⟩ : MethodName) method_3_code 1 (some .boolean) :: ws) ({ frames := 1, cells := 0, slots := 0, locals := 14 } : Room)) (fun a U => a = #[(.int p1)] ∧ Z.Warmed39 U.vm ∧ U.heap = h0) (fun _ _ _ _ _ => True) (fun _ U o U' => ∃ v L, o = .returned v ∧ QV (.int u) h0 n0 v U'.heap L ∧ FrameEnd U o U' L ({ frames := 1, cells := 0, slots := 0, locals := 14 } : Room).cells ({ frames := 1, cells := 0, slots := 0, locals := 14 } : Room).slots) := by
  refine metRun (Z := Z) (plainFor_of_name pn_1) (fun m => ef_1 m p1) ?_
  intro p e s m below meth c s₁ X0 hx hby hml hown hnm hret hZ e0 e00
  replace hown : s.vm.findClass "com/example/stylemill/stylemill/xdm/XmlNamesIsNameStartCharPinLaw" = some m.cls := hown
  have N0 := Fr.nil n0
  have j160 : ∀ (T : State) (locs : List Loc), Stand p l e ({ frames := 1, cells := 0, slots := 0, locals := 14 } : Room) s m #[(.int p1)] below meth c T locs 0 0 → T.heap = h0 → Fr n0 locs → u = (1 : Int32) → Run p l e ({ frames := 1, cells := 0, slots := 0, locals := 14 } : Room) s m #[(.int p1)] below meth c (RQ ({ frames := 1, cells := 0, slots := 0, locals := 14 } : Room) (QV (.int u) h0 n0)) T (mkF m 160 #[.val (.int p1)] []) := by
    intro T locs X eT N hu1
    refine Run.step (T1 := T) (g1 := (mkF m 165 #[.val (.int p1)] [(.int (1 : Int32))])) (fun target kt => ?_) ?_
    · show Steps p.tables e below (T.setTop (mkF m 160 #[.val (.int p1)] [])) _
      refine XS.iconst X.here hx rfl (hb hby d1_160) ?_
      show Steps p.tables e below (T.setTop (mkF m 161 #[.val (.int p1)] [(.int (1 : Int32))])) _
      refine XS.goto X.here hx rfl (pc0 := 161) (pc' := 165) rfl (hb hby d1_161) (by decide) (by decide) ?_
      exact kt
    exact Run.retZ X hx (t := .boolean) hret (by simp) (hb hby d1_165) ⟨Nat.le_refl _, Nat.le_refl _, own_b1 hu1, N, eT⟩
  refine Run.step (T1 := s₁) (g1 := (mkF m 3 #[.val (.int p1)] [(.int (65 : Int32)), (.int p1)])) (fun target kt => ?_) ?_
  · show Steps p.tables e below (s₁.setTop (mkF m 0 #[.val (.int p1)] [])) _
    refine XS.iloadN X0.here hx rfl (hb hby d1_0) rfl ?_
    show Steps p.tables e below (s₁.setTop (mkF m 1 #[.val (.int p1)] [(.int p1)])) _
    refine XS.bipush X0.here hx rfl (hb hby d1_1) ?_
    exact kt
  by_cases hc3 : p1 < (65 : Int32)
  · refine Run.step (T1 := s₁) (g1 := (mkF m 160 #[.val (.int p1)] [])) (fun target kt => ?_) ?_
    · show Steps p.tables e below (s₁.setTop (mkF m 3 #[.val (.int p1)] [(.int (65 : Int32)), (.int p1)])) _
      refine XS.icmpYes X0.here hx rfl (pc0 := 3) (pc' := 160) rfl (hb hby d1_3) rfl (tlt hc3).1 (by decide) (by decide) ?_
      exact kt
    exact j160 _ _ X0 e0 N0 (hu.trans (by rw [exc, if_pos hc3]))
  · refine Run.step (T1 := s₁) (g1 := (mkF m 6 #[.val (.int p1)] [])) (fun target kt => ?_) ?_
    · show Steps p.tables e below (s₁.setTop (mkF m 3 #[.val (.int p1)] [(.int (65 : Int32)), (.int p1)])) _
      refine XS.icmpNo X0.here hx rfl (hb hby d1_3) rfl (flt hc3).1 ?_
      exact kt
    obtain ⟨_, _, ⟨T1, L1, k1, n1⟩, -, X1, ⟨Lc1, hQ1, l1, y1, z1⟩, st1⟩ := Jvm.LawKit.callS X0 hx (y := (⟨"com/example/stylemill/stylemill/xdm/XmlNamesIsNameStartCharPinLaw", "in", "(III)Z"⟩ : MethodName)) hown (mvT hZ (hw _ (List.mem_of_getElem? (i := 19) rfl))) (mvT hZ (hw _ (List.mem_of_getElem? (i := 20) rfl))) (mvT hZ (hw _ (List.mem_of_getElem? (i := 10) rfl))) (mvT hZ (hw _ (List.mem_of_getElem? (i := 21) rfl))) (by decide) (backOf (W := 0) (rm3 l Z a0 hw [] p1 (91 : Int32) (94 : Int32) (inR p1 (91 : Int32) (94 : Int32)) h0 n0 rfl) hZ (hw _ (List.mem_of_getElem? (i := 21) rfl)) (hw _ (List.mem_of_getElem? (i := 10) rfl)) (by decide) (by decide)) (g := (mkF m 11 #[.val (.int p1)] [(.int (94 : Int32)), (.int (91 : Int32)), (.int p1)])) rfl (by rw [hml]; rfl) (argsL := [(.int p1), (.int (91 : Int32)), (.int (94 : Int32))]) (rest := []) (lenOf pd__III_Z rfl) rfl (by show 2 * 0 + _ ≤ _; exact Nat.le_of_eq rfl) (hb hby d1_11) (fun _ _ => ⟨rfl, e0, (by decide : 0 + 0 ≤ _), (by decide : 0 + 0 ≤ _)⟩)
    dsimp only [Pt.U, Pt.locs, Pt.cells, Pt.slots] at X1 l1 y1 z1 st1 hQ1
    subst l1 y1 z1
    obtain ⟨rfl, N1q, e1⟩ := hQ1
    have N1 := Fr.app N0 N1q
    refine Run.step (T1 := T1) (g1 := (mkF m 14 #[.val (.int p1)] [(.int (inR p1 (91 : Int32) (94 : Int32)))])) (fun target kt => ?_) ?_
    · show Steps p.tables e below (s₁.setTop (mkF m 6 #[.val (.int p1)] [])) _
      refine XS.iloadN X0.here hx rfl (hb hby d1_6) rfl ?_
      show Steps p.tables e below (s₁.setTop (mkF m 7 #[.val (.int p1)] [(.int p1)])) _
      refine XS.bipush X0.here hx rfl (hb hby d1_7) ?_
      show Steps p.tables e below (s₁.setTop (mkF m 9 #[.val (.int p1)] [(.int (91 : Int32)), (.int p1)])) _
      refine XS.bipush X0.here hx rfl (hb hby d1_9) ?_
      show Steps p.tables e below (s₁.setTop (mkF m 11 #[.val (.int p1)] [(.int (94 : Int32)), (.int (91 : Int32)), (.int p1)])) _
      refine st1 _ ?_
      exact kt
    by_cases hc14 : (inR p1 (91 : Int32) (94 : Int32)) = (0 : Int32)
    · refine Run.step (T1 := T1) (g1 := (mkF m 17 #[.val (.int p1)] [])) (fun target kt => ?_) ?_
      · show Steps p.tables e below (T1.setTop (mkF m 14 #[.val (.int p1)] [(.int (inR p1 (91 : Int32) (94 : Int32)))])) _
        refine XS.ifNo X1.here hx rfl (hb hby d1_14) rfl ((if0 _ _).trans (teq hc14).2) ?_
        exact kt
      refine Run.step (T1 := T1) (g1 := (mkF m 20 #[.val (.int p1)] [(.int (96 : Int32)), (.int p1)])) (fun target kt => ?_) ?_
      · show Steps p.tables e below (T1.setTop (mkF m 17 #[.val (.int p1)] [])) _
        refine XS.iloadN X1.here hx rfl (hb hby d1_17) rfl ?_
        show Steps p.tables e below (T1.setTop (mkF m 18 #[.val (.int p1)] [(.int p1)])) _
        refine XS.bipush X1.here hx rfl (hb hby d1_18) ?_
        exact kt
      by_cases hc20 : p1 = (96 : Int32)
      · refine Run.step (T1 := T1) (g1 := (mkF m 160 #[.val (.int p1)] [])) (fun target kt => ?_) ?_
        · show Steps p.tables e below (T1.setTop (mkF m 20 #[.val (.int p1)] [(.int (96 : Int32)), (.int p1)])) _
          refine XS.icmpYes X1.here hx rfl (pc0 := 20) (pc' := 160) rfl (hb hby d1_20) rfl (teq hc20).1 (by decide) (by decide) ?_
          exact kt
        exact j160 _ _ X1 e1 N1 (hu.trans (by rw [exc, if_neg hc3, if_pos hc14, if_pos hc20]))
      · refine Run.step (T1 := T1) (g1 := (mkF m 23 #[.val (.int p1)] [])) (fun target kt => ?_) ?_
        · show Steps p.tables e below (T1.setTop (mkF m 20 #[.val (.int p1)] [(.int (96 : Int32)), (.int p1)])) _
          refine XS.icmpNo X1.here hx rfl (hb hby d1_20) rfl (feq hc20).1 ?_
          exact kt
        obtain ⟨_, _, ⟨T2, L2, k2, n2⟩, -, X2, ⟨Lc2, hQ2, l2, y2, z2⟩, st2⟩ := Jvm.LawKit.callS X1 hx (y := (⟨"com/example/stylemill/stylemill/xdm/XmlNamesIsNameStartCharPinLaw", "in", "(III)Z"⟩ : MethodName)) hown (mvT hZ (hw _ (List.mem_of_getElem? (i := 19) rfl))) (mvT hZ (hw _ (List.mem_of_getElem? (i := 20) rfl))) (mvT hZ (hw _ (List.mem_of_getElem? (i := 10) rfl))) (mvT hZ (hw _ (List.mem_of_getElem? (i := 21) rfl))) (by decide) (backOf (W := 0) (rm3 l Z a0 hw [] p1 (123 : Int32) (191 : Int32) (inR p1 (123 : Int32) (191 : Int32)) h0 n0 rfl) hZ (hw _ (List.mem_of_getElem? (i := 21) rfl)) (hw _ (List.mem_of_getElem? (i := 10) rfl)) (by decide) (by decide)) (g := (mkF m 29 #[.val (.int p1)] [(.int (191 : Int32)), (.int (123 : Int32)), (.int p1)])) rfl (by rw [hml]; rfl) (argsL := [(.int p1), (.int (123 : Int32)), (.int (191 : Int32))]) (rest := []) (lenOf pd__III_Z rfl) rfl (by show 2 * 0 + _ ≤ _; exact Nat.le_of_eq rfl) (hb hby d1_29) (fun _ _ => ⟨rfl, e1, (by decide : 0 + 0 ≤ _), (by decide : 0 + 0 ≤ _)⟩)
        dsimp only [Pt.U, Pt.locs, Pt.cells, Pt.slots] at X2 l2 y2 z2 st2 hQ2
        subst l2 y2 z2
        obtain ⟨rfl, N2q, e2⟩ := hQ2
        have N2 := Fr.app N1 N2q
        refine Run.step (T1 := T2) (g1 := (mkF m 32 #[.val (.int p1)] [(.int (inR p1 (123 : Int32) (191 : Int32)))])) (fun target kt => ?_) ?_
        · show Steps p.tables e below (T1.setTop (mkF m 23 #[.val (.int p1)] [])) _
          refine XS.iloadN X1.here hx rfl (hb hby d1_23) rfl ?_
          show Steps p.tables e below (T1.setTop (mkF m 24 #[.val (.int p1)] [(.int p1)])) _
          refine XS.bipush X1.here hx rfl (hb hby d1_24) ?_
          show Steps p.tables e below (T1.setTop (mkF m 26 #[.val (.int p1)] [(.int (123 : Int32)), (.int p1)])) _
          refine XS.sipush X1.here hx rfl (hb hby d1_26) ?_
          show Steps p.tables e below (T1.setTop (mkF m 29 #[.val (.int p1)] [(.int (191 : Int32)), (.int (123 : Int32)), (.int p1)])) _
          refine st2 _ ?_
          exact kt
        by_cases hc32 : (inR p1 (123 : Int32) (191 : Int32)) = (0 : Int32)
        · refine Run.step (T1 := T2) (g1 := (mkF m 35 #[.val (.int p1)] [])) (fun target kt => ?_) ?_
          · show Steps p.tables e below (T2.setTop (mkF m 32 #[.val (.int p1)] [(.int (inR p1 (123 : Int32) (191 : Int32)))])) _
            refine XS.ifNo X2.here hx rfl (hb hby d1_32) rfl ((if0 _ _).trans (teq hc32).2) ?_
            exact kt
          refine Run.step (T1 := T2) (g1 := (mkF m 39 #[.val (.int p1)] [(.int (215 : Int32)), (.int p1)])) (fun target kt => ?_) ?_
          · show Steps p.tables e below (T2.setTop (mkF m 35 #[.val (.int p1)] [])) _
            refine XS.iloadN X2.here hx rfl (hb hby d1_35) rfl ?_
            show Steps p.tables e below (T2.setTop (mkF m 36 #[.val (.int p1)] [(.int p1)])) _
            refine XS.sipush X2.here hx rfl (hb hby d1_36) ?_
            exact kt
          by_cases hc39 : p1 = (215 : Int32)
          · refine Run.step (T1 := T2) (g1 := (mkF m 160 #[.val (.int p1)] [])) (fun target kt => ?_) ?_
            · show Steps p.tables e below (T2.setTop (mkF m 39 #[.val (.int p1)] [(.int (215 : Int32)), (.int p1)])) _
              refine XS.icmpYes X2.here hx rfl (pc0 := 39) (pc' := 160) rfl (hb hby d1_39) rfl (teq hc39).1 (by decide) (by decide) ?_
              exact kt
            exact j160 _ _ X2 e2 N2 (hu.trans (by rw [exc, if_neg hc3, if_pos hc14, if_neg hc20, if_pos hc32, if_pos hc39]))
          · refine Run.step (T1 := T2) (g1 := (mkF m 42 #[.val (.int p1)] [])) (fun target kt => ?_) ?_
            · show Steps p.tables e below (T2.setTop (mkF m 39 #[.val (.int p1)] [(.int (215 : Int32)), (.int p1)])) _
              refine XS.icmpNo X2.here hx rfl (hb hby d1_39) rfl (feq hc39).1 ?_
              exact kt
            refine Run.step (T1 := T2) (g1 := (mkF m 46 #[.val (.int p1)] [(.int (247 : Int32)), (.int p1)])) (fun target kt => ?_) ?_
            · show Steps p.tables e below (T2.setTop (mkF m 42 #[.val (.int p1)] [])) _
              refine XS.iloadN X2.here hx rfl (hb hby d1_42) rfl ?_
              show Steps p.tables e below (T2.setTop (mkF m 43 #[.val (.int p1)] [(.int p1)])) _
              refine XS.sipush X2.here hx rfl (hb hby d1_43) ?_
              exact kt
            by_cases hc46 : p1 = (247 : Int32)
            · refine Run.step (T1 := T2) (g1 := (mkF m 160 #[.val (.int p1)] [])) (fun target kt => ?_) ?_
              · show Steps p.tables e below (T2.setTop (mkF m 46 #[.val (.int p1)] [(.int (247 : Int32)), (.int p1)])) _
                refine XS.icmpYes X2.here hx rfl (pc0 := 46) (pc' := 160) rfl (hb hby d1_46) rfl (teq hc46).1 (by decide) (by decide) ?_
                exact kt
              exact j160 _ _ X2 e2 N2 (hu.trans (by rw [exc, if_neg hc3, if_pos hc14, if_neg hc20, if_pos hc32, if_neg hc39, if_pos hc46]))
            · refine Run.step (T1 := T2) (g1 := (mkF m 49 #[.val (.int p1)] [])) (fun target kt => ?_) ?_
              · show Steps p.tables e below (T2.setTop (mkF m 46 #[.val (.int p1)] [(.int (247 : Int32)), (.int p1)])) _
                refine XS.icmpNo X2.here hx rfl (hb hby d1_46) rfl (feq hc46).1 ?_
                exact kt
              obtain ⟨_, _, ⟨T3, L3, k3, n3⟩, -, X3, ⟨Lc3, hQ3, l3, y3, z3⟩, st3⟩ := Jvm.LawKit.callS X2 hx (y := (⟨"com/example/stylemill/stylemill/xdm/XmlNamesIsNameStartCharPinLaw", "in", "(III)Z"⟩ : MethodName)) hown (mvT hZ (hw _ (List.mem_of_getElem? (i := 19) rfl))) (mvT hZ (hw _ (List.mem_of_getElem? (i := 20) rfl))) (mvT hZ (hw _ (List.mem_of_getElem? (i := 10) rfl))) (mvT hZ (hw _ (List.mem_of_getElem? (i := 21) rfl))) (by decide) (backOf (W := 0) (rm3 l Z a0 hw [] p1 (768 : Int32) (879 : Int32) (inR p1 (768 : Int32) (879 : Int32)) h0 n0 rfl) hZ (hw _ (List.mem_of_getElem? (i := 21) rfl)) (hw _ (List.mem_of_getElem? (i := 10) rfl)) (by decide) (by decide)) (g := (mkF m 56 #[.val (.int p1)] [(.int (879 : Int32)), (.int (768 : Int32)), (.int p1)])) rfl (by rw [hml]; rfl) (argsL := [(.int p1), (.int (768 : Int32)), (.int (879 : Int32))]) (rest := []) (lenOf pd__III_Z rfl) rfl (by show 2 * 0 + _ ≤ _; exact Nat.le_of_eq rfl) (hb hby d1_56) (fun _ _ => ⟨rfl, e2, (by decide : 0 + 0 ≤ _), (by decide : 0 + 0 ≤ _)⟩)
              dsimp only [Pt.U, Pt.locs, Pt.cells, Pt.slots] at X3 l3 y3 z3 st3 hQ3
              subst l3 y3 z3
              obtain ⟨rfl, N3q, e3⟩ := hQ3
              have N3 := Fr.app N2 N3q
              refine Run.step (T1 := T3) (g1 := (mkF m 59 #[.val (.int p1)] [(.int (inR p1 (768 : Int32) (879 : Int32)))])) (fun target kt => ?_) ?_
              · show Steps p.tables e below (T2.setTop (mkF m 49 #[.val (.int p1)] [])) _
                refine XS.iloadN X2.here hx rfl (hb hby d1_49) rfl ?_
                show Steps p.tables e below (T2.setTop (mkF m 50 #[.val (.int p1)] [(.int p1)])) _
                refine XS.sipush X2.here hx rfl (hb hby d1_50) ?_
                show Steps p.tables e below (T2.setTop (mkF m 53 #[.val (.int p1)] [(.int (768 : Int32)), (.int p1)])) _
                refine XS.sipush X2.here hx rfl (hb hby d1_53) ?_
                show Steps p.tables e below (T2.setTop (mkF m 56 #[.val (.int p1)] [(.int (879 : Int32)), (.int (768 : Int32)), (.int p1)])) _
                refine st3 _ ?_
                exact kt
              by_cases hc59 : (inR p1 (768 : Int32) (879 : Int32)) = (0 : Int32)
              · refine Run.step (T1 := T3) (g1 := (mkF m 62 #[.val (.int p1)] [])) (fun target kt => ?_) ?_
                · show Steps p.tables e below (T3.setTop (mkF m 59 #[.val (.int p1)] [(.int (inR p1 (768 : Int32) (879 : Int32)))])) _
                  refine XS.ifNo X3.here hx rfl (hb hby d1_59) rfl ((if0 _ _).trans (teq hc59).2) ?_
                  exact kt
                refine Run.step (T1 := T3) (g1 := (mkF m 66 #[.val (.int p1)] [(.int (894 : Int32)), (.int p1)])) (fun target kt => ?_) ?_
                · show Steps p.tables e below (T3.setTop (mkF m 62 #[.val (.int p1)] [])) _
                  refine XS.iloadN X3.here hx rfl (hb hby d1_62) rfl ?_
                  show Steps p.tables e below (T3.setTop (mkF m 63 #[.val (.int p1)] [(.int p1)])) _
                  refine XS.sipush X3.here hx rfl (hb hby d1_63) ?_
                  exact kt
                by_cases hc66 : p1 = (894 : Int32)
                · refine Run.step (T1 := T3) (g1 := (mkF m 160 #[.val (.int p1)] [])) (fun target kt => ?_) ?_
                  · show Steps p.tables e below (T3.setTop (mkF m 66 #[.val (.int p1)] [(.int (894 : Int32)), (.int p1)])) _
                    refine XS.icmpYes X3.here hx rfl (pc0 := 66) (pc' := 160) rfl (hb hby d1_66) rfl (teq hc66).1 (by decide) (by decide) ?_
                    exact kt
                  exact j160 _ _ X3 e3 N3 (hu.trans (by rw [exc, if_neg hc3, if_pos hc14, if_neg hc20, if_pos hc32, if_neg hc39, if_neg hc46, if_pos hc59, if_pos hc66]))
                · refine Run.step (T1 := T3) (g1 := (mkF m 69 #[.val (.int p1)] [])) (fun target kt => ?_) ?_
                  · show Steps p.tables e below (T3.setTop (mkF m 66 #[.val (.int p1)] [(.int (894 : Int32)), (.int p1)])) _
                    refine XS.icmpNo X3.here hx rfl (hb hby d1_66) rfl (feq hc66).1 ?_
                    exact kt
                  obtain ⟨_, _, ⟨T4, L4, k4, n4⟩, -, X4, ⟨Lc4, hQ4, l4, y4, z4⟩, st4⟩ := Jvm.LawKit.callS X3 hx (y := (⟨"com/example/stylemill/stylemill/xdm/XmlNamesIsNameStartCharPinLaw", "in", "(III)Z"⟩ : MethodName)) hown (mvT hZ (hw _ (List.mem_of_getElem? (i := 19) rfl))) (mvT hZ (hw _ (List.mem_of_getElem? (i := 20) rfl))) (mvT hZ (hw _ (List.mem_of_getElem? (i := 10) rfl))) (mvT hZ (hw _ (List.mem_of_getElem? (i := 21) rfl))) (by decide) (backOf (W := 0) (rm3 l Z a0 hw [] p1 (8192 : Int32) (8203 : Int32) (inR p1 (8192 : Int32) (8203 : Int32)) h0 n0 rfl) hZ (hw _ (List.mem_of_getElem? (i := 21) rfl)) (hw _ (List.mem_of_getElem? (i := 10) rfl)) (by decide) (by decide)) (g := (mkF m 76 #[.val (.int p1)] [(.int (8203 : Int32)), (.int (8192 : Int32)), (.int p1)])) rfl (by rw [hml]; rfl) (argsL := [(.int p1), (.int (8192 : Int32)), (.int (8203 : Int32))]) (rest := []) (lenOf pd__III_Z rfl) rfl (by show 2 * 0 + _ ≤ _; exact Nat.le_of_eq rfl) (hb hby d1_76) (fun _ _ => ⟨rfl, e3, (by decide : 0 + 0 ≤ _), (by decide : 0 + 0 ≤ _)⟩)
                  dsimp only [Pt.U, Pt.locs, Pt.cells, Pt.slots] at X4 l4 y4 z4 st4 hQ4
                  subst l4 y4 z4
                  obtain ⟨rfl, N4q, e4⟩ := hQ4
                  have N4 := Fr.app N3 N4q
                  refine Run.step (T1 := T4) (g1 := (mkF m 79 #[.val (.int p1)] [(.int (inR p1 (8192 : Int32) (8203 : Int32)))])) (fun target kt => ?_) ?_
                  · show Steps p.tables e below (T3.setTop (mkF m 69 #[.val (.int p1)] [])) _
                    refine XS.iloadN X3.here hx rfl (hb hby d1_69) rfl ?_
                    show Steps p.tables e below (T3.setTop (mkF m 70 #[.val (.int p1)] [(.int p1)])) _
                    refine XS.sipush X3.here hx rfl (hb hby d1_70) ?_
                    show Steps p.tables e below (T3.setTop (mkF m 73 #[.val (.int p1)] [(.int (8192 : Int32)), (.int p1)])) _
                    refine XS.sipush X3.here hx rfl (hb hby d1_73) ?_
                    show Steps p.tables e below (T3.setTop (mkF m 76 #[.val (.int p1)] [(.int (8203 : Int32)), (.int (8192 : Int32)), (.int p1)])) _
                    refine st4 _ ?_
                    exact kt
                  by_cases hc79 : (inR p1 (8192 : Int32) (8203 : Int32)) = (0 : Int32)
                  · refine Run.step (T1 := T4) (g1 := (mkF m 82 #[.val (.int p1)] [])) (fun target kt => ?_) ?_
                    · show Steps p.tables e below (T4.setTop (mkF m 79 #[.val (.int p1)] [(.int (inR p1 (8192 : Int32) (8203 : Int32)))])) _
                      refine XS.ifNo X4.here hx rfl (hb hby d1_79) rfl ((if0 _ _).trans (teq hc79).2) ?_
                      exact kt
                    obtain ⟨_, _, ⟨T5, L5, k5, n5⟩, -, X5, ⟨Lc5, hQ5, l5, y5, z5⟩, st5⟩ := Jvm.LawKit.callS X4 hx (y := (⟨"com/example/stylemill/stylemill/xdm/XmlNamesIsNameStartCharPinLaw", "in", "(III)Z"⟩ : MethodName)) hown (mvT hZ (hw _ (List.mem_of_getElem? (i := 19) rfl))) (mvT hZ (hw _ (List.mem_of_getElem? (i := 20) rfl))) (mvT hZ (hw _ (List.mem_of_getElem? (i := 10) rfl))) (mvT hZ (hw _ (List.mem_of_getElem? (i := 21) rfl))) (by decide) (backOf (W := 0) (rm3 l Z a0 hw [] p1 (8206 : Int32) (8303 : Int32) (inR p1 (8206 : Int32) (8303 : Int32)) h0 n0 rfl) hZ (hw _ (List.mem_of_getElem? (i := 21) rfl)) (hw _ (List.mem_of_getElem? (i := 10) rfl)) (by decide) (by decide)) (g := (mkF m 89 #[.val (.int p1)] [(.int (8303 : Int32)), (.int (8206 : Int32)), (.int p1)])) rfl (by rw [hml]; rfl) (argsL := [(.int p1), (.int (8206 : Int32)), (.int (8303 : Int32))]) (rest := []) (lenOf pd__III_Z rfl) rfl (by show 2 * 0 + _ ≤ _; exact Nat.le_of_eq rfl) (hb hby d1_89) (fun _ _ => ⟨rfl, e4, (by decide : 0 + 0 ≤ _), (by decide : 0 + 0 ≤ _)⟩)
                    dsimp only [Pt.U, Pt.locs, Pt.cells, Pt.slots] at X5 l5 y5 z5 st5 hQ5
                    subst l5 y5 z5
                    obtain ⟨rfl, N5q, e5⟩ := hQ5
                    have N5 := Fr.app N4 N5q
                    refine Run.step (T1 := T5) (g1 := (mkF m 92 #[.val (.int p1)] [(.int (inR p1 (8206 : Int32) (8303 : Int32)))])) (fun target kt => ?_) ?_
                    · show Steps p.tables e below (T4.setTop (mkF m 82 #[.val (.int p1)] [])) _
                      refine XS.iloadN X4.here hx rfl (hb hby d1_82) rfl ?_
                      show Steps p.tables e below (T4.setTop (mkF m 83 #[.val (.int p1)] [(.int p1)])) _
                      refine XS.sipush X4.here hx rfl (hb hby d1_83) ?_
                      show Steps p.tables e below (T4.setTop (mkF m 86 #[.val (.int p1)] [(.int (8206 : Int32)), (.int p1)])) _
                      refine XS.sipush X4.here hx rfl (hb hby d1_86) ?_
                      show Steps p.tables e below (T4.setTop (mkF m 89 #[.val (.int p1)] [(.int (8303 : Int32)), (.int (8206 : Int32)), (.int p1)])) _
                      refine st5 _ ?_
                      exact kt
                    by_cases hc92 : (inR p1 (8206 : Int32) (8303 : Int32)) = (0 : Int32)
                    · refine Run.step (T1 := T5) (g1 := (mkF m 95 #[.val (.int p1)] [])) (fun target kt => ?_) ?_
                      · show Steps p.tables e below (T5.setTop (mkF m 92 #[.val (.int p1)] [(.int (inR p1 (8206 : Int32) (8303 : Int32)))])) _
                        refine XS.ifNo X5.here hx rfl (hb hby d1_92) rfl ((if0 _ _).trans (teq hc92).2) ?_
                        exact kt
                      obtain ⟨_, _, ⟨T6, L6, k6, n6⟩, -, X6, ⟨Lc6, hQ6, l6, y6, z6⟩, st6⟩ := Jvm.LawKit.callS X5 hx (y := (⟨"com/example/stylemill/stylemill/xdm/XmlNamesIsNameStartCharPinLaw", "in", "(III)Z"⟩ : MethodName)) hown (mvT hZ (hw _ (List.mem_of_getElem? (i := 19) rfl))) (mvT hZ (hw _ (List.mem_of_getElem? (i := 20) rfl))) (mvT hZ (hw _ (List.mem_of_getElem? (i := 10) rfl))) (mvT hZ (hw _ (List.mem_of_getElem? (i := 21) rfl))) (by decide) (backOf (W := 0) (rm3 l Z a0 hw [] p1 (8592 : Int32) (11263 : Int32) (inR p1 (8592 : Int32) (11263 : Int32)) h0 n0 rfl) hZ (hw _ (List.mem_of_getElem? (i := 21) rfl)) (hw _ (List.mem_of_getElem? (i := 10) rfl)) (by decide) (by decide)) (g := (mkF m 102 #[.val (.int p1)] [(.int (11263 : Int32)), (.int (8592 : Int32)), (.int p1)])) rfl (by rw [hml]; rfl) (argsL := [(.int p1), (.int (8592 : Int32)), (.int (11263 : Int32))]) (rest := []) (lenOf pd__III_Z rfl) rfl (by show 2 * 0 + _ ≤ _; exact Nat.le_of_eq rfl) (hb hby d1_102) (fun _ _ => ⟨rfl, e5, (by decide : 0 + 0 ≤ _), (by decide : 0 + 0 ≤ _)⟩)
                      dsimp only [Pt.U, Pt.locs, Pt.cells, Pt.slots] at X6 l6 y6 z6 st6 hQ6
                      subst l6 y6 z6
                      obtain ⟨rfl, N6q, e6⟩ := hQ6
                      have N6 := Fr.app N5 N6q
                      refine Run.step (T1 := T6) (g1 := (mkF m 105 #[.val (.int p1)] [(.int (inR p1 (8592 : Int32) (11263 : Int32)))])) (fun target kt => ?_) ?_
                      · show Steps p.tables e below (T5.setTop (mkF m 95 #[.val (.int p1)] [])) _
                        refine XS.iloadN X5.here hx rfl (hb hby d1_95) rfl ?_
                        show Steps p.tables e below (T5.setTop (mkF m 96 #[.val (.int p1)] [(.int p1)])) _
                        refine XS.sipush X5.here hx rfl (hb hby d1_96) ?_
                        show Steps p.tables e below (T5.setTop (mkF m 99 #[.val (.int p1)] [(.int (8592 : Int32)), (.int p1)])) _
                        refine XS.sipush X5.here hx rfl (hb hby d1_99) ?_
                        show Steps p.tables e below (T5.setTop (mkF m 102 #[.val (.int p1)] [(.int (11263 : Int32)), (.int (8592 : Int32)), (.int p1)])) _
                        refine st6 _ ?_
                        exact kt
                      by_cases hc105 : (inR p1 (8592 : Int32) (11263 : Int32)) = (0 : Int32)
                      · refine Run.step (T1 := T6) (g1 := (mkF m 108 #[.val (.int p1)] [])) (fun target kt => ?_) ?_
                        · show Steps p.tables e below (T6.setTop (mkF m 105 #[.val (.int p1)] [(.int (inR p1 (8592 : Int32) (11263 : Int32)))])) _
                          refine XS.ifNo X6.here hx rfl (hb hby d1_105) rfl ((if0 _ _).trans (teq hc105).2) ?_
                          exact kt
                        obtain ⟨_, _, ⟨T7, L7, k7, n7⟩, -, X7, ⟨Lc7, hQ7, l7, y7, z7⟩, st7⟩ := Jvm.LawKit.callS X6 hx (y := (⟨"com/example/stylemill/stylemill/xdm/XmlNamesIsNameStartCharPinLaw", "in", "(III)Z"⟩ : MethodName)) hown (mvT hZ (hw _ (List.mem_of_getElem? (i := 19) rfl))) (mvT hZ (hw _ (List.mem_of_getElem? (i := 20) rfl))) (mvT hZ (hw _ (List.mem_of_getElem? (i := 10) rfl))) (mvT hZ (hw _ (List.mem_of_getElem? (i := 21) rfl))) (by decide) (backOf (W := 0) (rm3 l Z a0 hw [] p1 (12272 : Int32) (12288 : Int32) (inR p1 (12272 : Int32) (12288 : Int32)) h0 n0 rfl) hZ (hw _ (List.mem_of_getElem? (i := 21) rfl)) (hw _ (List.mem_of_getElem? (i := 10) rfl)) (by decide) (by decide)) (g := (mkF m 115 #[.val (.int p1)] [(.int (12288 : Int32)), (.int (12272 : Int32)), (.int p1)])) rfl (by rw [hml]; rfl) (argsL := [(.int p1), (.int (12272 : Int32)), (.int (12288 : Int32))]) (rest := []) (lenOf pd__III_Z rfl) rfl (by show 2 * 0 + _ ≤ _; exact Nat.le_of_eq rfl) (hb hby d1_115) (fun _ _ => ⟨rfl, e6, (by decide : 0 + 0 ≤ _), (by decide : 0 + 0 ≤ _)⟩)
                        dsimp only [Pt.U, Pt.locs, Pt.cells, Pt.slots] at X7 l7 y7 z7 st7 hQ7
                        subst l7 y7 z7
                        obtain ⟨rfl, N7q, e7⟩ := hQ7
                        have N7 := Fr.app N6 N7q
                        refine Run.step (T1 := T7) (g1 := (mkF m 118 #[.val (.int p1)] [(.int (inR p1 (12272 : Int32) (12288 : Int32)))])) (fun target kt => ?_) ?_
                        · show Steps p.tables e below (T6.setTop (mkF m 108 #[.val (.int p1)] [])) _
                          refine XS.iloadN X6.here hx rfl (hb hby d1_108) rfl ?_
                          show Steps p.tables e below (T6.setTop (mkF m 109 #[.val (.int p1)] [(.int p1)])) _
                          refine XS.sipush X6.here hx rfl (hb hby d1_109) ?_
                          show Steps p.tables e below (T6.setTop (mkF m 112 #[.val (.int p1)] [(.int (12272 : Int32)), (.int p1)])) _
                          refine XS.sipush X6.here hx rfl (hb hby d1_112) ?_
                          show Steps p.tables e below (T6.setTop (mkF m 115 #[.val (.int p1)] [(.int (12288 : Int32)), (.int (12272 : Int32)), (.int p1)])) _
                          refine st7 _ ?_
                          exact kt
                        by_cases hc118 : (inR p1 (12272 : Int32) (12288 : Int32)) = (0 : Int32)
                        · refine Run.step (T1 := T7) (g1 := (mkF m 121 #[.val (.int p1)] [])) (fun target kt => ?_) ?_
                          · show Steps p.tables e below (T7.setTop (mkF m 118 #[.val (.int p1)] [(.int (inR p1 (12272 : Int32) (12288 : Int32)))])) _
                            refine XS.ifNo X7.here hx rfl (hb hby d1_118) rfl ((if0 _ _).trans (teq hc118).2) ?_
                            exact kt
                          obtain ⟨_, _, ⟨T8, L8, k8, n8⟩, -, X8, ⟨Lc8, hQ8, l8, y8, z8⟩, st8⟩ := Jvm.LawKit.callS X7 hx (y := (⟨"com/example/stylemill/stylemill/xdm/XmlNamesIsNameStartCharPinLaw", "in", "(III)Z"⟩ : MethodName)) hown (mvT hZ (hw _ (List.mem_of_getElem? (i := 19) rfl))) (mvT hZ (hw _ (List.mem_of_getElem? (i := 20) rfl))) (mvT hZ (hw _ (List.mem_of_getElem? (i := 10) rfl))) (mvT hZ (hw _ (List.mem_of_getElem? (i := 21) rfl))) (by decide) (backOf (W := 0) (rm3 l Z a0 hw [] p1 (55296 : Int32) (63743 : Int32) (inR p1 (55296 : Int32) (63743 : Int32)) h0 n0 rfl) hZ (hw _ (List.mem_of_getElem? (i := 21) rfl)) (hw _ (List.mem_of_getElem? (i := 10) rfl)) (by decide) (by decide)) (g := (mkF m 126 #[.val (.int p1)] [(.int (63743 : Int32)), (.int (55296 : Int32)), (.int p1)])) rfl (by rw [hml]; rfl) (argsL := [(.int p1), (.int (55296 : Int32)), (.int (63743 : Int32))]) (rest := []) (lenOf pd__III_Z rfl) rfl (by show 2 * 0 + _ ≤ _; exact Nat.le_of_eq rfl) (hb hby d1_126) (fun _ _ => ⟨rfl, e7, (by decide : 0 + 0 ≤ _), (by decide : 0 + 0 ≤ _)⟩)
                          dsimp only [Pt.U, Pt.locs, Pt.cells, Pt.slots] at X8 l8 y8 z8 st8 hQ8
                          subst l8 y8 z8
                          obtain ⟨rfl, N8q, e8⟩ := hQ8
                          have N8 := Fr.app N7 N8q
                          refine Run.step (T1 := T8) (g1 := (mkF m 129 #[.val (.int p1)] [(.int (inR p1 (55296 : Int32) (63743 : Int32)))])) (fun target kt => ?_) ?_
                          · show Steps p.tables e below (T7.setTop (mkF m 121 #[.val (.int p1)] [])) _
                            refine XS.iloadN X7.here hx rfl (hb hby d1_121) rfl ?_
                            show Steps p.tables e below (T7.setTop (mkF m 122 #[.val (.int p1)] [(.int p1)])) _
                            refine X7.ldcInt hx hown (mvT hZ (hw _ (List.mem_of_getElem? (i := 22) rfl))) (g := (mkF m 122 #[.val (.int p1)] [(.int p1)])) rfl (hb hby d1_122) _ ?_
                            show Steps p.tables e below (T7.setTop (mkF m 124 #[.val (.int p1)] [(.int (55296 : Int32)), (.int p1)])) _
                            refine X7.ldcInt hx hown (mvT hZ (hw _ (List.mem_of_getElem? (i := 23) rfl))) (g := (mkF m 124 #[.val (.int p1)] [(.int (55296 : Int32)), (.int p1)])) rfl (hb hby d1_124) _ ?_
                            show Steps p.tables e below (T7.setTop (mkF m 126 #[.val (.int p1)] [(.int (63743 : Int32)), (.int (55296 : Int32)), (.int p1)])) _
                            refine st8 _ ?_
                            exact kt
                          by_cases hc129 : (inR p1 (55296 : Int32) (63743 : Int32)) = (0 : Int32)
                          · refine Run.step (T1 := T8) (g1 := (mkF m 132 #[.val (.int p1)] [])) (fun target kt => ?_) ?_
                            · show Steps p.tables e below (T8.setTop (mkF m 129 #[.val (.int p1)] [(.int (inR p1 (55296 : Int32) (63743 : Int32)))])) _
                              refine XS.ifNo X8.here hx rfl (hb hby d1_129) rfl ((if0 _ _).trans (teq hc129).2) ?_
                              exact kt
                            obtain ⟨_, _, ⟨T9, L9, k9, n9⟩, -, X9, ⟨Lc9, hQ9, l9, y9, z9⟩, st9⟩ := Jvm.LawKit.callS X8 hx (y := (⟨"com/example/stylemill/stylemill/xdm/XmlNamesIsNameStartCharPinLaw", "in", "(III)Z"⟩ : MethodName)) hown (mvT hZ (hw _ (List.mem_of_getElem? (i := 19) rfl))) (mvT hZ (hw _ (List.mem_of_getElem? (i := 20) rfl))) (mvT hZ (hw _ (List.mem_of_getElem? (i := 10) rfl))) (mvT hZ (hw _ (List.mem_of_getElem? (i := 21) rfl))) (by decide) (backOf (W := 0) (rm3 l Z a0 hw [] p1 (64976 : Int32) (65007 : Int32) (inR p1 (64976 : Int32) (65007 : Int32)) h0 n0 rfl) hZ (hw _ (List.mem_of_getElem? (i := 21) rfl)) (hw _ (List.mem_of_getElem? (i := 10) rfl)) (by decide) (by decide)) (g := (mkF m 137 #[.val (.int p1)] [(.int (65007 : Int32)), (.int (64976 : Int32)), (.int p1)])) rfl (by rw [hml]; rfl) (argsL := [(.int p1), (.int (64976 : Int32)), (.int (65007 : Int32))]) (rest := []) (lenOf pd__III_Z rfl) rfl (by show 2 * 0 + _ ≤ _; exact Nat.le_of_eq rfl) (hb hby d1_137) (fun _ _ => ⟨rfl, e8, (by decide : 0 + 0 ≤ _), (by decide : 0 + 0 ≤ _)⟩)
                            dsimp only [Pt.U, Pt.locs, Pt.cells, Pt.slots] at X9 l9 y9 z9 st9 hQ9
                            subst l9 y9 z9
                            obtain ⟨rfl, N9q, e9⟩ := hQ9
                            have N9 := Fr.app N8 N9q
                            refine Run.step (T1 := T9) (g1 := (mkF m 140 #[.val (.int p1)] [(.int (inR p1 (64976 : Int32) (65007 : Int32)))])) (fun target kt => ?_) ?_
                            · show Steps p.tables e below (T8.setTop (mkF m 132 #[.val (.int p1)] [])) _
                              refine XS.iloadN X8.here hx rfl (hb hby d1_132) rfl ?_
                              show Steps p.tables e below (T8.setTop (mkF m 133 #[.val (.int p1)] [(.int p1)])) _
                              refine X8.ldcInt hx hown (mvT hZ (hw _ (List.mem_of_getElem? (i := 24) rfl))) (g := (mkF m 133 #[.val (.int p1)] [(.int p1)])) rfl (hb hby d1_133) _ ?_
                              show Steps p.tables e below (T8.setTop (mkF m 135 #[.val (.int p1)] [(.int (64976 : Int32)), (.int p1)])) _
                              refine X8.ldcInt hx hown (mvT hZ (hw _ (List.mem_of_getElem? (i := 25) rfl))) (g := (mkF m 135 #[.val (.int p1)] [(.int (64976 : Int32)), (.int p1)])) rfl (hb hby d1_135) _ ?_
                              show Steps p.tables e below (T8.setTop (mkF m 137 #[.val (.int p1)] [(.int (65007 : Int32)), (.int (64976 : Int32)), (.int p1)])) _
                              refine st9 _ ?_
                              exact kt
                            by_cases hc140 : (inR p1 (64976 : Int32) (65007 : Int32)) = (0 : Int32)
                            · refine Run.step (T1 := T9) (g1 := (mkF m 143 #[.val (.int p1)] [])) (fun target kt => ?_) ?_
                              · show Steps p.tables e below (T9.setTop (mkF m 140 #[.val (.int p1)] [(.int (inR p1 (64976 : Int32) (65007 : Int32)))])) _
                                refine XS.ifNo X9.here hx rfl (hb hby d1_140) rfl ((if0 _ _).trans (teq hc140).2) ?_
                                exact kt
                              obtain ⟨_, _, ⟨T10, L10, k10, n10⟩, -, X10, ⟨Lc10, hQ10, l10, y10, z10⟩, st10⟩ := Jvm.LawKit.callS X9 hx (y := (⟨"com/example/stylemill/stylemill/xdm/XmlNamesIsNameStartCharPinLaw", "in", "(III)Z"⟩ : MethodName)) hown (mvT hZ (hw _ (List.mem_of_getElem? (i := 19) rfl))) (mvT hZ (hw _ (List.mem_of_getElem? (i := 20) rfl))) (mvT hZ (hw _ (List.mem_of_getElem? (i := 10) rfl))) (mvT hZ (hw _ (List.mem_of_getElem? (i := 21) rfl))) (by decide) (backOf (W := 0) (rm3 l Z a0 hw [] p1 (65534 : Int32) (65535 : Int32) (inR p1 (65534 : Int32) (65535 : Int32)) h0 n0 rfl) hZ (hw _ (List.mem_of_getElem? (i := 21) rfl)) (hw _ (List.mem_of_getElem? (i := 10) rfl)) (by decide) (by decide)) (g := (mkF m 148 #[.val (.int p1)] [(.int (65535 : Int32)), (.int (65534 : Int32)), (.int p1)])) rfl (by rw [hml]; rfl) (argsL := [(.int p1), (.int (65534 : Int32)), (.int (65535 : Int32))]) (rest := []) (lenOf pd__III_Z rfl) rfl (by show 2 * 0 + _ ≤ _; exact Nat.le_of_eq rfl) (hb hby d1_148) (fun _ _ => ⟨rfl, e9, (by decide : 0 + 0 ≤ _), (by decide : 0 + 0 ≤ _)⟩)
                              dsimp only [Pt.U, Pt.locs, Pt.cells, Pt.slots] at X10 l10 y10 z10 st10 hQ10
                              subst l10 y10 z10
                              obtain ⟨rfl, N10q, e10⟩ := hQ10
                              have N10 := Fr.app N9 N10q
                              refine Run.step (T1 := T10) (g1 := (mkF m 151 #[.val (.int p1)] [(.int (inR p1 (65534 : Int32) (65535 : Int32)))])) (fun target kt => ?_) ?_
                              · show Steps p.tables e below (T9.setTop (mkF m 143 #[.val (.int p1)] [])) _
                                refine XS.iloadN X9.here hx rfl (hb hby d1_143) rfl ?_
                                show Steps p.tables e below (T9.setTop (mkF m 144 #[.val (.int p1)] [(.int p1)])) _
                                refine X9.ldcInt hx hown (mvT hZ (hw _ (List.mem_of_getElem? (i := 26) rfl))) (g := (mkF m 144 #[.val (.int p1)] [(.int p1)])) rfl (hb hby d1_144) _ ?_
                                show Steps p.tables e below (T9.setTop (mkF m 146 #[.val (.int p1)] [(.int (65534 : Int32)), (.int p1)])) _
                                refine X9.ldcInt hx hown (mvT hZ (hw _ (List.mem_of_getElem? (i := 27) rfl))) (g := (mkF m 146 #[.val (.int p1)] [(.int (65534 : Int32)), (.int p1)])) rfl (hb hby d1_146) _ ?_
                                show Steps p.tables e below (T9.setTop (mkF m 148 #[.val (.int p1)] [(.int (65535 : Int32)), (.int (65534 : Int32)), (.int p1)])) _
                                refine st10 _ ?_
                                exact kt
                              by_cases hc151 : (inR p1 (65534 : Int32) (65535 : Int32)) = (0 : Int32)
                              · refine Run.step (T1 := T10) (g1 := (mkF m 154 #[.val (.int p1)] [])) (fun target kt => ?_) ?_
                                · show Steps p.tables e below (T10.setTop (mkF m 151 #[.val (.int p1)] [(.int (inR p1 (65534 : Int32) (65535 : Int32)))])) _
                                  refine XS.ifNo X10.here hx rfl (hb hby d1_151) rfl ((if0 _ _).trans (teq hc151).2) ?_
                                  exact kt
                                refine Run.step (T1 := T10) (g1 := (mkF m 157 #[.val (.int p1)] [(.int (983039 : Int32)), (.int p1)])) (fun target kt => ?_) ?_
                                · show Steps p.tables e below (T10.setTop (mkF m 154 #[.val (.int p1)] [])) _
                                  refine XS.iloadN X10.here hx rfl (hb hby d1_154) rfl ?_
                                  show Steps p.tables e below (T10.setTop (mkF m 155 #[.val (.int p1)] [(.int p1)])) _
                                  refine X10.ldcInt hx hown (mvT hZ (hw _ (List.mem_of_getElem? (i := 7) rfl))) (g := (mkF m 155 #[.val (.int p1)] [(.int p1)])) rfl (hb hby d1_155) _ ?_
                                  exact kt
                                by_cases hc157 : (983039 : Int32) < p1
                                · refine Run.step (T1 := T10) (g1 := (mkF m 160 #[.val (.int p1)] [])) (fun target kt => ?_) ?_
                                  · show Steps p.tables e below (T10.setTop (mkF m 157 #[.val (.int p1)] [(.int (983039 : Int32)), (.int p1)])) _
                                    refine XS.icmpNo X10.here hx rfl (hb hby d1_157) rfl (tlt hc157).2.2.2 ?_
                                    exact kt
                                  exact j160 _ _ X10 e10 N10 (hu.trans (by rw [exc, if_neg hc3, if_pos hc14, if_neg hc20, if_pos hc32, if_neg hc39, if_neg hc46, if_pos hc59, if_neg hc66, if_pos hc79, if_pos hc92, if_pos hc105, if_pos hc118, if_pos hc129, if_pos hc140, if_pos hc151, if_pos hc157]))
                                · refine Run.step (T1 := T10) (g1 := (mkF m 164 #[.val (.int p1)] [])) (fun target kt => ?_) ?_
                                  · show Steps p.tables e below (T10.setTop (mkF m 157 #[.val (.int p1)] [(.int (983039 : Int32)), (.int p1)])) _
                                    refine XS.icmpYes X10.here hx rfl (pc0 := 157) (pc' := 164) rfl (hb hby d1_157) rfl (flt hc157).2.2.2 (by decide) (by decide) ?_
                                    exact kt
                                  refine Run.step (T1 := T10) (g1 := (mkF m 165 #[.val (.int p1)] [(.int (0 : Int32))])) (fun target kt => ?_) ?_
                                  · show Steps p.tables e below (T10.setTop (mkF m 164 #[.val (.int p1)] [])) _
                                    refine XS.iconst X10.here hx rfl (hb hby d1_164) ?_
                                    exact kt
                                  exact Run.retZ X10 hx (t := .boolean) hret (by simp) (hb hby d1_165) ⟨Nat.le_refl _, Nat.le_refl _, own_b0 (hu.trans (by rw [exc, if_neg hc3, if_pos hc14, if_neg hc20, if_pos hc32, if_neg hc39, if_neg hc46, if_pos hc59, if_neg hc66, if_pos hc79, if_pos hc92, if_pos hc105, if_pos hc118, if_pos hc129, if_pos hc140, if_pos hc151, if_neg hc157])), N10, e10⟩
                              · refine Run.step (T1 := T10) (g1 := (mkF m 160 #[.val (.int p1)] [])) (fun target kt => ?_) ?_
                                · show Steps p.tables e below (T10.setTop (mkF m 151 #[.val (.int p1)] [(.int (inR p1 (65534 : Int32) (65535 : Int32)))])) _
                                  refine XS.ifYes X10.here hx rfl (pc0 := 151) (pc' := 160) rfl (hb hby d1_151) rfl ((if0 _ _).trans (feq hc151).2) (by decide) (by decide) ?_
                                  exact kt
                                exact j160 _ _ X10 e10 N10 (hu.trans (by rw [exc, if_neg hc3, if_pos hc14, if_neg hc20, if_pos hc32, if_neg hc39, if_neg hc46, if_pos hc59, if_neg hc66, if_pos hc79, if_pos hc92, if_pos hc105, if_pos hc118, if_pos hc129, if_pos hc140, if_neg hc151]))
                            · refine Run.step (T1 := T9) (g1 := (mkF m 160 #[.val (.int p1)] [])) (fun target kt => ?_) ?_
                              · show Steps p.tables e below (T9.setTop (mkF m 140 #[.val (.int p1)] [(.int (inR p1 (64976 : Int32) (65007 : Int32)))])) _
                                refine XS.ifYes X9.here hx rfl (pc0 := 140) (pc' := 160) rfl (hb hby d1_140) rfl ((if0 _ _).trans (feq hc140).2) (by decide) (by decide) ?_
                                exact kt
                              exact j160 _ _ X9 e9 N9 (hu.trans (by rw [exc, if_neg hc3, if_pos hc14, if_neg hc20, if_pos hc32, if_neg hc39, if_neg hc46, if_pos hc59, if_neg hc66, if_pos hc79, if_pos hc92, if_pos hc105, if_pos hc118, if_pos hc129, if_neg hc140]))
                          · refine Run.step (T1 := T8) (g1 := (mkF m 160 #[.val (.int p1)] [])) (fun target kt => ?_) ?_
                            · show Steps p.tables e below (T8.setTop (mkF m 129 #[.val (.int p1)] [(.int (inR p1 (55296 : Int32) (63743 : Int32)))])) _
                              refine XS.ifYes X8.here hx rfl (pc0 := 129) (pc' := 160) rfl (hb hby d1_129) rfl ((if0 _ _).trans (feq hc129).2) (by decide) (by decide) ?_
                              exact kt
                            exact j160 _ _ X8 e8 N8 (hu.trans (by rw [exc, if_neg hc3, if_pos hc14, if_neg hc20, if_pos hc32, if_neg hc39, if_neg hc46, if_pos hc59, if_neg hc66, if_pos hc79, if_pos hc92, if_pos hc105, if_pos hc118, if_neg hc129]))
                        · refine Run.step (T1 := T7) (g1 := (mkF m 160 #[.val (.int p1)] [])) (fun target kt => ?_) ?_
                          · show Steps p.tables e below (T7.setTop (mkF m 118 #[.val (.int p1)] [(.int (inR p1 (12272 : Int32) (12288 : Int32)))])) _
                            refine XS.ifYes X7.here hx rfl (pc0 := 118) (pc' := 160) rfl (hb hby d1_118) rfl ((if0 _ _).trans (feq hc118).2) (by decide) (by decide) ?_
                            exact kt
                          exact j160 _ _ X7 e7 N7 (hu.trans (by rw [exc, if_neg hc3, if_pos hc14, if_neg hc20, if_pos hc32, if_neg hc39, if_neg hc46, if_pos hc59, if_neg hc66, if_pos hc79, if_pos hc92, if_pos hc105, if_neg hc118]))
                      · refine Run.step (T1 := T6) (g1 := (mkF m 160 #[.val (.int p1)] [])) (fun target kt => ?_) ?_
                        · show Steps p.tables e below (T6.setTop (mkF m 105 #[.val (.int p1)] [(.int (inR p1 (8592 : Int32) (11263 : Int32)))])) _
                          refine XS.ifYes X6.here hx rfl (pc0 := 105) (pc' := 160) rfl (hb hby d1_105) rfl ((if0 _ _).trans (feq hc105).2) (by decide) (by decide) ?_
                          exact kt
                        exact j160 _ _ X6 e6 N6 (hu.trans (by rw [exc, if_neg hc3, if_pos hc14, if_neg hc20, if_pos hc32, if_neg hc39, if_neg hc46, if_pos hc59, if_neg hc66, if_pos hc79, if_pos hc92, if_neg hc105]))
                    · refine Run.step (T1 := T5) (g1 := (mkF m 160 #[.val (.int p1)] [])) (fun target kt => ?_) ?_
                      · show Steps p.tables e below (T5.setTop (mkF m 92 #[.val (.int p1)] [(.int (inR p1 (8206 : Int32) (8303 : Int32)))])) _
                        refine XS.ifYes X5.here hx rfl (pc0 := 92) (pc' := 160) rfl (hb hby d1_92) rfl ((if0 _ _).trans (feq hc92).2) (by decide) (by decide) ?_
                        exact kt
                      exact j160 _ _ X5 e5 N5 (hu.trans (by rw [exc, if_neg hc3, if_pos hc14, if_neg hc20, if_pos hc32, if_neg hc39, if_neg hc46, if_pos hc59, if_neg hc66, if_pos hc79, if_neg hc92]))
                  · refine Run.step (T1 := T4) (g1 := (mkF m 160 #[.val (.int p1)] [])) (fun target kt => ?_) ?_
                    · show Steps p.tables e below (T4.setTop (mkF m 79 #[.val (.int p1)] [(.int (inR p1 (8192 : Int32) (8203 : Int32)))])) _
                      refine XS.ifYes X4.here hx rfl (pc0 := 79) (pc' := 160) rfl (hb hby d1_79) rfl ((if0 _ _).trans (feq hc79).2) (by decide) (by decide) ?_
                      exact kt
                    exact j160 _ _ X4 e4 N4 (hu.trans (by rw [exc, if_neg hc3, if_pos hc14, if_neg hc20, if_pos hc32, if_neg hc39, if_neg hc46, if_pos hc59, if_neg hc66, if_neg hc79]))
              · refine Run.step (T1 := T3) (g1 := (mkF m 160 #[.val (.int p1)] [])) (fun target kt => ?_) ?_
                · show Steps p.tables e below (T3.setTop (mkF m 59 #[.val (.int p1)] [(.int (inR p1 (768 : Int32) (879 : Int32)))])) _
                  refine XS.ifYes X3.here hx rfl (pc0 := 59) (pc' := 160) rfl (hb hby d1_59) rfl ((if0 _ _).trans (feq hc59).2) (by decide) (by decide) ?_
                  exact kt
                exact j160 _ _ X3 e3 N3 (hu.trans (by rw [exc, if_neg hc3, if_pos hc14, if_neg hc20, if_pos hc32, if_neg hc39, if_neg hc46, if_neg hc59]))
        · refine Run.step (T1 := T2) (g1 := (mkF m 160 #[.val (.int p1)] [])) (fun target kt => ?_) ?_
          · show Steps p.tables e below (T2.setTop (mkF m 32 #[.val (.int p1)] [(.int (inR p1 (123 : Int32) (191 : Int32)))])) _
            refine XS.ifYes X2.here hx rfl (pc0 := 32) (pc' := 160) rfl (hb hby d1_32) rfl ((if0 _ _).trans (feq hc32).2) (by decide) (by decide) ?_
            exact kt
          exact j160 _ _ X2 e2 N2 (hu.trans (by rw [exc, if_neg hc3, if_pos hc14, if_neg hc20, if_neg hc32]))
    · refine Run.step (T1 := T1) (g1 := (mkF m 160 #[.val (.int p1)] [])) (fun target kt => ?_) ?_
      · show Steps p.tables e below (T1.setTop (mkF m 14 #[.val (.int p1)] [(.int (inR p1 (91 : Int32) (94 : Int32)))])) _
        refine XS.ifYes X1.here hx rfl (pc0 := 14) (pc' := 160) rfl (hb hby d1_14) rfl ((if0 _ _).trans (feq hc14).2) (by decide) (by decide) ?_
        exact kt
      exact j160 _ _ X1 e1 N1 (hu.trans (by rw [exc, if_neg hc3, if_neg hc14]))
set_option maxRecDepth 65536 in
set_option maxHeartbeats 40000000 in
theorem rm2 (l : Launch) (Z : State) (a0 : Array Value) (hw : ∀ d ∈ tables_1, d.before a0 Z = true) (ws : List Jvm.Cond) (p1 u : Int32) (h0 : Heap) (n0 : Nat) (hu : u = v0 p1) :
    MetFree l (⟨"com/example/stylemill/stylemill/xdm/XmlNames", "isNameStartChar", "(I)Z"⟩ : MethodName) (head1 (Jvm.Cond.code (⟨"com/example/stylemill/stylemill/xdm/XmlNames", "isNameStartChar", "(I)Z"⟩ : MethodName) prog_107_method_4_code 1 (some .boolean) :: ws) ({ frames := 0, cells := 0, slots := 0, locals := 0 } : Room)) (fun a U => a = #[(.int p1)] ∧ Z.Warmed39 U.vm ∧ U.heap = h0) (fun _ _ _ _ _ => True) (fun _ U o U' => ∃ v L, o = .returned v ∧ QV (.int u) h0 n0 v U'.heap L ∧ FrameEnd U o U' L ({ frames := 0, cells := 0, slots := 0, locals := 0 } : Room).cells ({ frames := 0, cells := 0, slots := 0, locals := 0 } : Room).slots) := by
  refine metRun (Z := Z) (plainFor_of_name pn_2) (fun m => ef_2 m p1) ?_
  intro p e s m below meth c s₁ X0 hx hby hml hown hnm hret hZ e0 e00
  replace hown : s.vm.findClass "com/example/stylemill/stylemill/xdm/XmlNames" = some m.cls := hown
  have N0 := Fr.nil n0
  have j195 : ∀ u : Int32, u = (0 : Int32) → Run p l e ({ frames := 0, cells := 0, slots := 0, locals := 0 } : Room) s m #[(.int p1)] below meth c (RQ ({ frames := 0, cells := 0, slots := 0, locals := 0 } : Room) (QV (.int u) h0 n0)) s₁ (mkF m 195 #[.val (.int p1)] []) := by
    intro u hu
    refine Run.step (T1 := s₁) (g1 := (mkF m 196 #[.val (.int p1)] [(.int (0 : Int32))])) (fun target kt => ?_) ?_
    · show Steps p.tables e below (s₁.setTop (mkF m 195 #[.val (.int p1)] [])) _
      refine XS.iconst X0.here hx rfl (hb hby d2_195) ?_
      exact kt
    exact Run.retZ X0 hx (t := .boolean) hret (by simp) (hb hby d2_196) ⟨Nat.le_refl _, Nat.le_refl _, own_b0 hu, N0, e0⟩
  have j191 : ∀ u : Int32, u = (1 : Int32) → Run p l e ({ frames := 0, cells := 0, slots := 0, locals := 0 } : Room) s m #[(.int p1)] below meth c (RQ ({ frames := 0, cells := 0, slots := 0, locals := 0 } : Room) (QV (.int u) h0 n0)) s₁ (mkF m 191 #[.val (.int p1)] []) := by
    intro u hu
    refine Run.step (T1 := s₁) (g1 := (mkF m 196 #[.val (.int p1)] [(.int (1 : Int32))])) (fun target kt => ?_) ?_
    · show Steps p.tables e below (s₁.setTop (mkF m 191 #[.val (.int p1)] [])) _
      refine XS.iconst X0.here hx rfl (hb hby d2_191) ?_
      show Steps p.tables e below (s₁.setTop (mkF m 192 #[.val (.int p1)] [(.int (1 : Int32))])) _
      refine XS.goto X0.here hx rfl (pc0 := 192) (pc' := 196) rfl (hb hby d2_192) (by decide) (by decide) ?_
      exact kt
    exact Run.retZ X0 hx (t := .boolean) hret (by simp) (hb hby d2_196) ⟨Nat.le_refl _, Nat.le_refl _, own_b1 hu, N0, e0⟩
  have j179 : ∀ u : Int32, u = (v179 p1) → Run p l e ({ frames := 0, cells := 0, slots := 0, locals := 0 } : Room) s m #[(.int p1)] below meth c (RQ ({ frames := 0, cells := 0, slots := 0, locals := 0 } : Room) (QV (.int u) h0 n0)) s₁ (mkF m 179 #[.val (.int p1)] []) := by
    intro u hu
    refine Run.step (T1 := s₁) (g1 := (mkF m 182 #[.val (.int p1)] [(.int (65536 : Int32)), (.int p1)])) (fun target kt => ?_) ?_
    · show Steps p.tables e below (s₁.setTop (mkF m 179 #[.val (.int p1)] [])) _
      refine XS.iloadN X0.here hx rfl (hb hby d2_179) rfl ?_
      show Steps p.tables e below (s₁.setTop (mkF m 180 #[.val (.int p1)] [(.int p1)])) _
      refine X0.ldcInt hx hown (mvT hZ (hw _ (List.mem_of_getElem? (i := 18) rfl))) (g := (mkF m 180 #[.val (.int p1)] [(.int p1)])) rfl (hb hby d2_180) _ ?_
      exact kt
    by_cases hc182 : p1 < (65536 : Int32)
    · refine Run.step (T1 := s₁) (g1 := (mkF m 195 #[.val (.int p1)] [])) (fun target kt => ?_) ?_
      · show Steps p.tables e below (s₁.setTop (mkF m 182 #[.val (.int p1)] [(.int (65536 : Int32)), (.int p1)])) _
        refine XS.icmpYes X0.here hx rfl (pc0 := 182) (pc' := 195) rfl (hb hby d2_182) rfl (tlt hc182).1 (by decide) (by decide) ?_
        exact kt
      exact j195 u (hu.trans (by rw [v179, if_pos hc182]))
    · refine Run.step (T1 := s₁) (g1 := (mkF m 185 #[.val (.int p1)] [])) (fun target kt => ?_) ?_
      · show Steps p.tables e below (s₁.setTop (mkF m 182 #[.val (.int p1)] [(.int (65536 : Int32)), (.int p1)])) _
        refine XS.icmpNo X0.here hx rfl (hb hby d2_182) rfl (flt hc182).1 ?_
        exact kt
      refine Run.step (T1 := s₁) (g1 := (mkF m 188 #[.val (.int p1)] [(.int (983039 : Int32)), (.int p1)])) (fun target kt => ?_) ?_
      · show Steps p.tables e below (s₁.setTop (mkF m 185 #[.val (.int p1)] [])) _
        refine XS.iloadN X0.here hx rfl (hb hby d2_185) rfl ?_
        show Steps p.tables e below (s₁.setTop (mkF m 186 #[.val (.int p1)] [(.int p1)])) _
        refine X0.ldcInt hx hown (mvT hZ (hw _ (List.mem_of_getElem? (i := 31) rfl))) (g := (mkF m 186 #[.val (.int p1)] [(.int p1)])) rfl (hb hby d2_186) _ ?_
        exact kt
      by_cases hc188 : (983039 : Int32) < p1
      · refine Run.step (T1 := s₁) (g1 := (mkF m 195 #[.val (.int p1)] [])) (fun target kt => ?_) ?_
        · show Steps p.tables e below (s₁.setTop (mkF m 188 #[.val (.int p1)] [(.int (983039 : Int32)), (.int p1)])) _
          refine XS.icmpYes X0.here hx rfl (pc0 := 188) (pc' := 195) rfl (hb hby d2_188) rfl (tlt hc188).2.2.1 (by decide) (by decide) ?_
          exact kt
        exact j195 u (hu.trans (by rw [v179, if_neg hc182, if_pos hc188]))
      · refine Run.step (T1 := s₁) (g1 := (mkF m 191 #[.val (.int p1)] [])) (fun target kt => ?_) ?_
        · show Steps p.tables e below (s₁.setTop (mkF m 188 #[.val (.int p1)] [(.int (983039 : Int32)), (.int p1)])) _
          refine XS.icmpNo X0.here hx rfl (hb hby d2_188) rfl (flt hc188).2.2.1 ?_
          exact kt
        exact j191 u (hu.trans (by rw [v179, if_neg hc182, if_neg hc188]))
  have j167 : ∀ u : Int32, u = (v167 p1) → Run p l e ({ frames := 0, cells := 0, slots := 0, locals := 0 } : Room) s m #[(.int p1)] below meth c (RQ ({ frames := 0, cells := 0, slots := 0, locals := 0 } : Room) (QV (.int u) h0 n0)) s₁ (mkF m 167 #[.val (.int p1)] []) := by
    intro u hu
    refine Run.step (T1 := s₁) (g1 := (mkF m 170 #[.val (.int p1)] [(.int (65008 : Int32)), (.int p1)])) (fun target kt => ?_) ?_
    · show Steps p.tables e below (s₁.setTop (mkF m 167 #[.val (.int p1)] [])) _
      refine XS.iloadN X0.here hx rfl (hb hby d2_167) rfl ?_
      show Steps p.tables e below (s₁.setTop (mkF m 168 #[.val (.int p1)] [(.int p1)])) _
      refine X0.ldcInt hx hown (mvT hZ (hw _ (List.mem_of_getElem? (i := 17) rfl))) (g := (mkF m 168 #[.val (.int p1)] [(.int p1)])) rfl (hb hby d2_168) _ ?_
      exact kt
    by_cases hc170 : p1 < (65008 : Int32)
    · refine Run.step (T1 := s₁) (g1 := (mkF m 179 #[.val (.int p1)] [])) (fun target kt => ?_) ?_
      · show Steps p.tables e below (s₁.setTop (mkF m 170 #[.val (.int p1)] [(.int (65008 : Int32)), (.int p1)])) _
        refine XS.icmpYes X0.here hx rfl (pc0 := 170) (pc' := 179) rfl (hb hby d2_170) rfl (tlt hc170).1 (by decide) (by decide) ?_
        exact kt
      exact j179 u (hu.trans (by rw [v167, if_pos hc170]))
    · refine Run.step (T1 := s₁) (g1 := (mkF m 173 #[.val (.int p1)] [])) (fun target kt => ?_) ?_
      · show Steps p.tables e below (s₁.setTop (mkF m 170 #[.val (.int p1)] [(.int (65008 : Int32)), (.int p1)])) _
        refine XS.icmpNo X0.here hx rfl (hb hby d2_170) rfl (flt hc170).1 ?_
        exact kt
      refine Run.step (T1 := s₁) (g1 := (mkF m 176 #[.val (.int p1)] [(.int (65533 : Int32)), (.int p1)])) (fun target kt => ?_) ?_
      · show Steps p.tables e below (s₁.setTop (mkF m 173 #[.val (.int p1)] [])) _
        refine XS.iloadN X0.here hx rfl (hb hby d2_173) rfl ?_
        show Steps p.tables e below (s₁.setTop (mkF m 174 #[.val (.int p1)] [(.int p1)])) _
        refine X0.ldcInt hx hown (mvT hZ (hw _ (List.mem_of_getElem? (i := 30) rfl))) (g := (mkF m 174 #[.val (.int p1)] [(.int p1)])) rfl (hb hby d2_174) _ ?_
        exact kt
      by_cases hc176 : (65533 : Int32) < p1
      · refine Run.step (T1 := s₁) (g1 := (mkF m 179 #[.val (.int p1)] [])) (fun target kt => ?_) ?_
        · show Steps p.tables e below (s₁.setTop (mkF m 176 #[.val (.int p1)] [(.int (65533 : Int32)), (.int p1)])) _
          refine XS.icmpNo X0.here hx rfl (hb hby d2_176) rfl (tlt hc176).2.2.2 ?_
          exact kt
        exact j179 u (hu.trans (by rw [v167, if_neg hc170, if_pos hc176]))
      · refine Run.step (T1 := s₁) (g1 := (mkF m 191 #[.val (.int p1)] [])) (fun target kt => ?_) ?_
        · show Steps p.tables e below (s₁.setTop (mkF m 176 #[.val (.int p1)] [(.int (65533 : Int32)), (.int p1)])) _
          refine XS.icmpYes X0.here hx rfl (pc0 := 176) (pc' := 191) rfl (hb hby d2_176) rfl (flt hc176).2.2.2 (by decide) (by decide) ?_
          exact kt
        exact j191 u (hu.trans (by rw [v167, if_neg hc170, if_neg hc176]))
  have j155 : ∀ u : Int32, u = (v155 p1) → Run p l e ({ frames := 0, cells := 0, slots := 0, locals := 0 } : Room) s m #[(.int p1)] below meth c (RQ ({ frames := 0, cells := 0, slots := 0, locals := 0 } : Room) (QV (.int u) h0 n0)) s₁ (mkF m 155 #[.val (.int p1)] []) := by
    intro u hu
    refine Run.step (T1 := s₁) (g1 := (mkF m 158 #[.val (.int p1)] [(.int (63744 : Int32)), (.int p1)])) (fun target kt => ?_) ?_
    · show Steps p.tables e below (s₁.setTop (mkF m 155 #[.val (.int p1)] [])) _
      refine XS.iloadN X0.here hx rfl (hb hby d2_155) rfl ?_
      show Steps p.tables e below (s₁.setTop (mkF m 156 #[.val (.int p1)] [(.int p1)])) _
      refine X0.ldcInt hx hown (mvT hZ (hw _ (List.mem_of_getElem? (i := 16) rfl))) (g := (mkF m 156 #[.val (.int p1)] [(.int p1)])) rfl (hb hby d2_156) _ ?_
      exact kt
    by_cases hc158 : p1 < (63744 : Int32)
    · refine Run.step (T1 := s₁) (g1 := (mkF m 167 #[.val (.int p1)] [])) (fun target kt => ?_) ?_
      · show Steps p.tables e below (s₁.setTop (mkF m 158 #[.val (.int p1)] [(.int (63744 : Int32)), (.int p1)])) _
        refine XS.icmpYes X0.here hx rfl (pc0 := 158) (pc' := 167) rfl (hb hby d2_158) rfl (tlt hc158).1 (by decide) (by decide) ?_
        exact kt
      exact j167 u (hu.trans (by rw [v155, if_pos hc158]))
    · refine Run.step (T1 := s₁) (g1 := (mkF m 161 #[.val (.int p1)] [])) (fun target kt => ?_) ?_
      · show Steps p.tables e below (s₁.setTop (mkF m 158 #[.val (.int p1)] [(.int (63744 : Int32)), (.int p1)])) _
        refine XS.icmpNo X0.here hx rfl (hb hby d2_158) rfl (flt hc158).1 ?_
        exact kt
      refine Run.step (T1 := s₁) (g1 := (mkF m 164 #[.val (.int p1)] [(.int (64975 : Int32)), (.int p1)])) (fun target kt => ?_) ?_
      · show Steps p.tables e below (s₁.setTop (mkF m 161 #[.val (.int p1)] [])) _
        refine XS.iloadN X0.here hx rfl (hb hby d2_161) rfl ?_
        show Steps p.tables e below (s₁.setTop (mkF m 162 #[.val (.int p1)] [(.int p1)])) _
        refine X0.ldcInt hx hown (mvT hZ (hw _ (List.mem_of_getElem? (i := 29) rfl))) (g := (mkF m 162 #[.val (.int p1)] [(.int p1)])) rfl (hb hby d2_162) _ ?_
        exact kt
      by_cases hc164 : (64975 : Int32) < p1
      · refine Run.step (T1 := s₁) (g1 := (mkF m 167 #[.val (.int p1)] [])) (fun target kt => ?_) ?_
        · show Steps p.tables e below (s₁.setTop (mkF m 164 #[.val (.int p1)] [(.int (64975 : Int32)), (.int p1)])) _
          refine XS.icmpNo X0.here hx rfl (hb hby d2_164) rfl (tlt hc164).2.2.2 ?_
          exact kt
        exact j167 u (hu.trans (by rw [v155, if_neg hc158, if_pos hc164]))
      · refine Run.step (T1 := s₁) (g1 := (mkF m 191 #[.val (.int p1)] [])) (fun target kt => ?_) ?_
        · show Steps p.tables e below (s₁.setTop (mkF m 164 #[.val (.int p1)] [(.int (64975 : Int32)), (.int p1)])) _
          refine XS.icmpYes X0.here hx rfl (pc0 := 164) (pc' := 191) rfl (hb hby d2_164) rfl (flt hc164).2.2.2 (by decide) (by decide) ?_
          exact kt
        exact j191 u (hu.trans (by rw [v155, if_neg hc158, if_neg hc164]))
  have j142 : ∀ u : Int32, u = (v142 p1) → Run p l e ({ frames := 0, cells := 0, slots := 0, locals := 0 } : Room) s m #[(.int p1)] below meth c (RQ ({ frames := 0, cells := 0, slots := 0, locals := 0 } : Room) (QV (.int u) h0 n0)) s₁ (mkF m 142 #[.val (.int p1)] []) := by
    intro u hu
    refine Run.step (T1 := s₁) (g1 := (mkF m 146 #[.val (.int p1)] [(.int (12289 : Int32)), (.int p1)])) (fun target kt => ?_) ?_
    · show Steps p.tables e below (s₁.setTop (mkF m 142 #[.val (.int p1)] [])) _
      refine XS.iloadN X0.here hx rfl (hb hby d2_142) rfl ?_
      show Steps p.tables e below (s₁.setTop (mkF m 143 #[.val (.int p1)] [(.int p1)])) _
      refine XS.sipush X0.here hx rfl (hb hby d2_143) ?_
      exact kt
    by_cases hc146 : p1 < (12289 : Int32)
    · refine Run.step (T1 := s₁) (g1 := (mkF m 155 #[.val (.int p1)] [])) (fun target kt => ?_) ?_
      · show Steps p.tables e below (s₁.setTop (mkF m 146 #[.val (.int p1)] [(.int (12289 : Int32)), (.int p1)])) _
        refine XS.icmpYes X0.here hx rfl (pc0 := 146) (pc' := 155) rfl (hb hby d2_146) rfl (tlt hc146).1 (by decide) (by decide) ?_
        exact kt
      exact j155 u (hu.trans (by rw [v142, if_pos hc146]))
    · refine Run.step (T1 := s₁) (g1 := (mkF m 149 #[.val (.int p1)] [])) (fun target kt => ?_) ?_
      · show Steps p.tables e below (s₁.setTop (mkF m 146 #[.val (.int p1)] [(.int (12289 : Int32)), (.int p1)])) _
        refine XS.icmpNo X0.here hx rfl (hb hby d2_146) rfl (flt hc146).1 ?_
        exact kt
      refine Run.step (T1 := s₁) (g1 := (mkF m 152 #[.val (.int p1)] [(.int (55295 : Int32)), (.int p1)])) (fun target kt => ?_) ?_
      · show Steps p.tables e below (s₁.setTop (mkF m 149 #[.val (.int p1)] [])) _
        refine XS.iloadN X0.here hx rfl (hb hby d2_149) rfl ?_
        show Steps p.tables e below (s₁.setTop (mkF m 150 #[.val (.int p1)] [(.int p1)])) _
        refine X0.ldcInt hx hown (mvT hZ (hw _ (List.mem_of_getElem? (i := 28) rfl))) (g := (mkF m 150 #[.val (.int p1)] [(.int p1)])) rfl (hb hby d2_150) _ ?_
        exact kt
      by_cases hc152 : (55295 : Int32) < p1
      · refine Run.step (T1 := s₁) (g1 := (mkF m 155 #[.val (.int p1)] [])) (fun target kt => ?_) ?_
        · show Steps p.tables e below (s₁.setTop (mkF m 152 #[.val (.int p1)] [(.int (55295 : Int32)), (.int p1)])) _
          refine XS.icmpNo X0.here hx rfl (hb hby d2_152) rfl (tlt hc152).2.2.2 ?_
          exact kt
        exact j155 u (hu.trans (by rw [v142, if_neg hc146, if_pos hc152]))
      · refine Run.step (T1 := s₁) (g1 := (mkF m 191 #[.val (.int p1)] [])) (fun target kt => ?_) ?_
        · show Steps p.tables e below (s₁.setTop (mkF m 152 #[.val (.int p1)] [(.int (55295 : Int32)), (.int p1)])) _
          refine XS.icmpYes X0.here hx rfl (pc0 := 152) (pc' := 191) rfl (hb hby d2_152) rfl (flt hc152).2.2.2 (by decide) (by decide) ?_
          exact kt
        exact j191 u (hu.trans (by rw [v142, if_neg hc146, if_neg hc152]))
  have j128 : ∀ u : Int32, u = (v128 p1) → Run p l e ({ frames := 0, cells := 0, slots := 0, locals := 0 } : Room) s m #[(.int p1)] below meth c (RQ ({ frames := 0, cells := 0, slots := 0, locals := 0 } : Room) (QV (.int u) h0 n0)) s₁ (mkF m 128 #[.val (.int p1)] []) := by
    intro u hu
    refine Run.step (T1 := s₁) (g1 := (mkF m 132 #[.val (.int p1)] [(.int (11264 : Int32)), (.int p1)])) (fun target kt => ?_) ?_
    · show Steps p.tables e below (s₁.setTop (mkF m 128 #[.val (.int p1)] [])) _
      refine XS.iloadN X0.here hx rfl (hb hby d2_128) rfl ?_
      show Steps p.tables e below (s₁.setTop (mkF m 129 #[.val (.int p1)] [(.int p1)])) _
      refine XS.sipush X0.here hx rfl (hb hby d2_129) ?_
      exact kt
    by_cases hc132 : p1 < (11264 : Int32)
    · refine Run.step (T1 := s₁) (g1 := (mkF m 142 #[.val (.int p1)] [])) (fun target kt => ?_) ?_
      · show Steps p.tables e below (s₁.setTop (mkF m 132 #[.val (.int p1)] [(.int (11264 : Int32)), (.int p1)])) _
        refine XS.icmpYes X0.here hx rfl (pc0 := 132) (pc' := 142) rfl (hb hby d2_132) rfl (tlt hc132).1 (by decide) (by decide) ?_
        exact kt
      exact j142 u (hu.trans (by rw [v128, if_pos hc132]))
    · refine Run.step (T1 := s₁) (g1 := (mkF m 135 #[.val (.int p1)] [])) (fun target kt => ?_) ?_
      · show Steps p.tables e below (s₁.setTop (mkF m 132 #[.val (.int p1)] [(.int (11264 : Int32)), (.int p1)])) _
        refine XS.icmpNo X0.here hx rfl (hb hby d2_132) rfl (flt hc132).1 ?_
        exact kt
      refine Run.step (T1 := s₁) (g1 := (mkF m 139 #[.val (.int p1)] [(.int (12271 : Int32)), (.int p1)])) (fun target kt => ?_) ?_
      · show Steps p.tables e below (s₁.setTop (mkF m 135 #[.val (.int p1)] [])) _
        refine XS.iloadN X0.here hx rfl (hb hby d2_135) rfl ?_
        show Steps p.tables e below (s₁.setTop (mkF m 136 #[.val (.int p1)] [(.int p1)])) _
        refine XS.sipush X0.here hx rfl (hb hby d2_136) ?_
        exact kt
      by_cases hc139 : (12271 : Int32) < p1
      · refine Run.step (T1 := s₁) (g1 := (mkF m 142 #[.val (.int p1)] [])) (fun target kt => ?_) ?_
        · show Steps p.tables e below (s₁.setTop (mkF m 139 #[.val (.int p1)] [(.int (12271 : Int32)), (.int p1)])) _
          refine XS.icmpNo X0.here hx rfl (hb hby d2_139) rfl (tlt hc139).2.2.2 ?_
          exact kt
        exact j142 u (hu.trans (by rw [v128, if_neg hc132, if_pos hc139]))
      · refine Run.step (T1 := s₁) (g1 := (mkF m 191 #[.val (.int p1)] [])) (fun target kt => ?_) ?_
        · show Steps p.tables e below (s₁.setTop (mkF m 139 #[.val (.int p1)] [(.int (12271 : Int32)), (.int p1)])) _
          refine XS.icmpYes X0.here hx rfl (pc0 := 139) (pc' := 191) rfl (hb hby d2_139) rfl (flt hc139).2.2.2 (by decide) (by decide) ?_
          exact kt
        exact j191 u (hu.trans (by rw [v128, if_neg hc132, if_neg hc139]))
  have j114 : ∀ u : Int32, u = (v114 p1) → Run p l e ({ frames := 0, cells := 0, slots := 0, locals := 0 } : Room) s m #[(.int p1)] below meth c (RQ ({ frames := 0, cells := 0, slots := 0, locals := 0 } : Room) (QV (.int u) h0 n0)) s₁ (mkF m 114 #[.val (.int p1)] []) := by
    intro u hu
    refine Run.step (T1 := s₁) (g1 := (mkF m 118 #[.val (.int p1)] [(.int (8304 : Int32)), (.int p1)])) (fun target kt => ?_) ?_
    · show Steps p.tables e below (s₁.setTop (mkF m 114 #[.val (.int p1)] [])) _
      refine XS.iloadN X0.here hx rfl (hb hby d2_114) rfl ?_
      show Steps p.tables e below (s₁.setTop (mkF m 115 #[.val (.int p1)] [(.int p1)])) _
      refine XS.sipush X0.here hx rfl (hb hby d2_115) ?_
      exact kt
    by_cases hc118 : p1 < (8304 : Int32)
    · refine Run.step (T1 := s₁) (g1 := (mkF m 128 #[.val (.int p1)] [])) (fun target kt => ?_) ?_
      · show Steps p.tables e below (s₁.setTop (mkF m 118 #[.val (.int p1)] [(.int (8304 : Int32)), (.int p1)])) _
        refine XS.icmpYes X0.here hx rfl (pc0 := 118) (pc' := 128) rfl (hb hby d2_118) rfl (tlt hc118).1 (by decide) (by decide) ?_
        exact kt
      exact j128 u (hu.trans (by rw [v114, if_pos hc118]))
    · refine Run.step (T1 := s₁) (g1 := (mkF m 121 #[.val (.int p1)] [])) (fun target kt => ?_) ?_
      · show Steps p.tables e below (s₁.setTop (mkF m 118 #[.val (.int p1)] [(.int (8304 : Int32)), (.int p1)])) _
        refine XS.icmpNo X0.here hx rfl (hb hby d2_118) rfl (flt hc118).1 ?_
        exact kt
      refine Run.step (T1 := s₁) (g1 := (mkF m 125 #[.val (.int p1)] [(.int (8591 : Int32)), (.int p1)])) (fun target kt => ?_) ?_
      · show Steps p.tables e below (s₁.setTop (mkF m 121 #[.val (.int p1)] [])) _
        refine XS.iloadN X0.here hx rfl (hb hby d2_121) rfl ?_
        show Steps p.tables e below (s₁.setTop (mkF m 122 #[.val (.int p1)] [(.int p1)])) _
        refine XS.sipush X0.here hx rfl (hb hby d2_122) ?_
        exact kt
      by_cases hc125 : (8591 : Int32) < p1
      · refine Run.step (T1 := s₁) (g1 := (mkF m 128 #[.val (.int p1)] [])) (fun target kt => ?_) ?_
        · show Steps p.tables e below (s₁.setTop (mkF m 125 #[.val (.int p1)] [(.int (8591 : Int32)), (.int p1)])) _
          refine XS.icmpNo X0.here hx rfl (hb hby d2_125) rfl (tlt hc125).2.2.2 ?_
          exact kt
        exact j128 u (hu.trans (by rw [v114, if_neg hc118, if_pos hc125]))
      · refine Run.step (T1 := s₁) (g1 := (mkF m 191 #[.val (.int p1)] [])) (fun target kt => ?_) ?_
        · show Steps p.tables e below (s₁.setTop (mkF m 125 #[.val (.int p1)] [(.int (8591 : Int32)), (.int p1)])) _
          refine XS.icmpYes X0.here hx rfl (pc0 := 125) (pc' := 191) rfl (hb hby d2_125) rfl (flt hc125).2.2.2 (by decide) (by decide) ?_
          exact kt
        exact j191 u (hu.trans (by rw [v114, if_neg hc118, if_neg hc125]))
  have j100 : ∀ u : Int32, u = (v100 p1) → Run p l e ({ frames := 0, cells := 0, slots := 0, locals := 0 } : Room) s m #[(.int p1)] below meth c (RQ ({ frames := 0, cells := 0, slots := 0, locals := 0 } : Room) (QV (.int u) h0 n0)) s₁ (mkF m 100 #[.val (.int p1)] []) := by
    intro u hu
    refine Run.step (T1 := s₁) (g1 := (mkF m 104 #[.val (.int p1)] [(.int (8204 : Int32)), (.int p1)])) (fun target kt => ?_) ?_
    · show Steps p.tables e below (s₁.setTop (mkF m 100 #[.val (.int p1)] [])) _
      refine XS.iloadN X0.here hx rfl (hb hby d2_100) rfl ?_
      show Steps p.tables e below (s₁.setTop (mkF m 101 #[.val (.int p1)] [(.int p1)])) _
      refine XS.sipush X0.here hx rfl (hb hby d2_101) ?_
      exact kt
    by_cases hc104 : p1 < (8204 : Int32)
    · refine Run.step (T1 := s₁) (g1 := (mkF m 114 #[.val (.int p1)] [])) (fun target kt => ?_) ?_
      · show Steps p.tables e below (s₁.setTop (mkF m 104 #[.val (.int p1)] [(.int (8204 : Int32)), (.int p1)])) _
        refine XS.icmpYes X0.here hx rfl (pc0 := 104) (pc' := 114) rfl (hb hby d2_104) rfl (tlt hc104).1 (by decide) (by decide) ?_
        exact kt
      exact j114 u (hu.trans (by rw [v100, if_pos hc104]))
    · refine Run.step (T1 := s₁) (g1 := (mkF m 107 #[.val (.int p1)] [])) (fun target kt => ?_) ?_
      · show Steps p.tables e below (s₁.setTop (mkF m 104 #[.val (.int p1)] [(.int (8204 : Int32)), (.int p1)])) _
        refine XS.icmpNo X0.here hx rfl (hb hby d2_104) rfl (flt hc104).1 ?_
        exact kt
      refine Run.step (T1 := s₁) (g1 := (mkF m 111 #[.val (.int p1)] [(.int (8205 : Int32)), (.int p1)])) (fun target kt => ?_) ?_
      · show Steps p.tables e below (s₁.setTop (mkF m 107 #[.val (.int p1)] [])) _
        refine XS.iloadN X0.here hx rfl (hb hby d2_107) rfl ?_
        show Steps p.tables e below (s₁.setTop (mkF m 108 #[.val (.int p1)] [(.int p1)])) _
        refine XS.sipush X0.here hx rfl (hb hby d2_108) ?_
        exact kt
      by_cases hc111 : (8205 : Int32) < p1
      · refine Run.step (T1 := s₁) (g1 := (mkF m 114 #[.val (.int p1)] [])) (fun target kt => ?_) ?_
        · show Steps p.tables e below (s₁.setTop (mkF m 111 #[.val (.int p1)] [(.int (8205 : Int32)), (.int p1)])) _
          refine XS.icmpNo X0.here hx rfl (hb hby d2_111) rfl (tlt hc111).2.2.2 ?_
          exact kt
        exact j114 u (hu.trans (by rw [v100, if_neg hc104, if_pos hc111]))
      · refine Run.step (T1 := s₁) (g1 := (mkF m 191 #[.val (.int p1)] [])) (fun target kt => ?_) ?_
        · show Steps p.tables e below (s₁.setTop (mkF m 111 #[.val (.int p1)] [(.int (8205 : Int32)), (.int p1)])) _
          refine XS.icmpYes X0.here hx rfl (pc0 := 111) (pc' := 191) rfl (hb hby d2_111) rfl (flt hc111).2.2.2 (by decide) (by decide) ?_
          exact kt
        exact j191 u (hu.trans (by rw [v100, if_neg hc104, if_neg hc111]))
  have j86 : ∀ u : Int32, u = (v86 p1) → Run p l e ({ frames := 0, cells := 0, slots := 0, locals := 0 } : Room) s m #[(.int p1)] below meth c (RQ ({ frames := 0, cells := 0, slots := 0, locals := 0 } : Room) (QV (.int u) h0 n0)) s₁ (mkF m 86 #[.val (.int p1)] []) := by
    intro u hu
    refine Run.step (T1 := s₁) (g1 := (mkF m 90 #[.val (.int p1)] [(.int (895 : Int32)), (.int p1)])) (fun target kt => ?_) ?_
    · show Steps p.tables e below (s₁.setTop (mkF m 86 #[.val (.int p1)] [])) _
      refine XS.iloadN X0.here hx rfl (hb hby d2_86) rfl ?_
      show Steps p.tables e below (s₁.setTop (mkF m 87 #[.val (.int p1)] [(.int p1)])) _
      refine XS.sipush X0.here hx rfl (hb hby d2_87) ?_
      exact kt
    by_cases hc90 : p1 < (895 : Int32)
    · refine Run.step (T1 := s₁) (g1 := (mkF m 100 #[.val (.int p1)] [])) (fun target kt => ?_) ?_
      · show Steps p.tables e below (s₁.setTop (mkF m 90 #[.val (.int p1)] [(.int (895 : Int32)), (.int p1)])) _
        refine XS.icmpYes X0.here hx rfl (pc0 := 90) (pc' := 100) rfl (hb hby d2_90) rfl (tlt hc90).1 (by decide) (by decide) ?_
        exact kt
      exact j100 u (hu.trans (by rw [v86, if_pos hc90]))
    · refine Run.step (T1 := s₁) (g1 := (mkF m 93 #[.val (.int p1)] [])) (fun target kt => ?_) ?_
      · show Steps p.tables e below (s₁.setTop (mkF m 90 #[.val (.int p1)] [(.int (895 : Int32)), (.int p1)])) _
        refine XS.icmpNo X0.here hx rfl (hb hby d2_90) rfl (flt hc90).1 ?_
        exact kt
      refine Run.step (T1 := s₁) (g1 := (mkF m 97 #[.val (.int p1)] [(.int (8191 : Int32)), (.int p1)])) (fun target kt => ?_) ?_
      · show Steps p.tables e below (s₁.setTop (mkF m 93 #[.val (.int p1)] [])) _
        refine XS.iloadN X0.here hx rfl (hb hby d2_93) rfl ?_
        show Steps p.tables e below (s₁.setTop (mkF m 94 #[.val (.int p1)] [(.int p1)])) _
        refine XS.sipush X0.here hx rfl (hb hby d2_94) ?_
        exact kt
      by_cases hc97 : (8191 : Int32) < p1
      · refine Run.step (T1 := s₁) (g1 := (mkF m 100 #[.val (.int p1)] [])) (fun target kt => ?_) ?_
        · show Steps p.tables e below (s₁.setTop (mkF m 97 #[.val (.int p1)] [(.int (8191 : Int32)), (.int p1)])) _
          refine XS.icmpNo X0.here hx rfl (hb hby d2_97) rfl (tlt hc97).2.2.2 ?_
          exact kt
        exact j100 u (hu.trans (by rw [v86, if_neg hc90, if_pos hc97]))
      · refine Run.step (T1 := s₁) (g1 := (mkF m 191 #[.val (.int p1)] [])) (fun target kt => ?_) ?_
        · show Steps p.tables e below (s₁.setTop (mkF m 97 #[.val (.int p1)] [(.int (8191 : Int32)), (.int p1)])) _
          refine XS.icmpYes X0.here hx rfl (pc0 := 97) (pc' := 191) rfl (hb hby d2_97) rfl (flt hc97).2.2.2 (by decide) (by decide) ?_
          exact kt
        exact j191 u (hu.trans (by rw [v86, if_neg hc90, if_neg hc97]))
  have j72 : ∀ u : Int32, u = (v72 p1) → Run p l e ({ frames := 0, cells := 0, slots := 0, locals := 0 } : Room) s m #[(.int p1)] below meth c (RQ ({ frames := 0, cells := 0, slots := 0, locals := 0 } : Room) (QV (.int u) h0 n0)) s₁ (mkF m 72 #[.val (.int p1)] []) := by
    intro u hu
    refine Run.step (T1 := s₁) (g1 := (mkF m 76 #[.val (.int p1)] [(.int (880 : Int32)), (.int p1)])) (fun target kt => ?_) ?_
    · show Steps p.tables e below (s₁.setTop (mkF m 72 #[.val (.int p1)] [])) _
      refine XS.iloadN X0.here hx rfl (hb hby d2_72) rfl ?_
      show Steps p.tables e below (s₁.setTop (mkF m 73 #[.val (.int p1)] [(.int p1)])) _
      refine XS.sipush X0.here hx rfl (hb hby d2_73) ?_
      exact kt
    by_cases hc76 : p1 < (880 : Int32)
    · refine Run.step (T1 := s₁) (g1 := (mkF m 86 #[.val (.int p1)] [])) (fun target kt => ?_) ?_
      · show Steps p.tables e below (s₁.setTop (mkF m 76 #[.val (.int p1)] [(.int (880 : Int32)), (.int p1)])) _
        refine XS.icmpYes X0.here hx rfl (pc0 := 76) (pc' := 86) rfl (hb hby d2_76) rfl (tlt hc76).1 (by decide) (by decide) ?_
        exact kt
      exact j86 u (hu.trans (by rw [v72, if_pos hc76]))
    · refine Run.step (T1 := s₁) (g1 := (mkF m 79 #[.val (.int p1)] [])) (fun target kt => ?_) ?_
      · show Steps p.tables e below (s₁.setTop (mkF m 76 #[.val (.int p1)] [(.int (880 : Int32)), (.int p1)])) _
        refine XS.icmpNo X0.here hx rfl (hb hby d2_76) rfl (flt hc76).1 ?_
        exact kt
      refine Run.step (T1 := s₁) (g1 := (mkF m 83 #[.val (.int p1)] [(.int (893 : Int32)), (.int p1)])) (fun target kt => ?_) ?_
      · show Steps p.tables e below (s₁.setTop (mkF m 79 #[.val (.int p1)] [])) _
        refine XS.iloadN X0.here hx rfl (hb hby d2_79) rfl ?_
        show Steps p.tables e below (s₁.setTop (mkF m 80 #[.val (.int p1)] [(.int p1)])) _
        refine XS.sipush X0.here hx rfl (hb hby d2_80) ?_
        exact kt
      by_cases hc83 : (893 : Int32) < p1
      · refine Run.step (T1 := s₁) (g1 := (mkF m 86 #[.val (.int p1)] [])) (fun target kt => ?_) ?_
        · show Steps p.tables e below (s₁.setTop (mkF m 83 #[.val (.int p1)] [(.int (893 : Int32)), (.int p1)])) _
          refine XS.icmpNo X0.here hx rfl (hb hby d2_83) rfl (tlt hc83).2.2.2 ?_
          exact kt
        exact j86 u (hu.trans (by rw [v72, if_neg hc76, if_pos hc83]))
      · refine Run.step (T1 := s₁) (g1 := (mkF m 191 #[.val (.int p1)] [])) (fun target kt => ?_) ?_
        · show Steps p.tables e below (s₁.setTop (mkF m 83 #[.val (.int p1)] [(.int (893 : Int32)), (.int p1)])) _
          refine XS.icmpYes X0.here hx rfl (pc0 := 83) (pc' := 191) rfl (hb hby d2_83) rfl (flt hc83).2.2.2 (by decide) (by decide) ?_
          exact kt
        exact j191 u (hu.trans (by rw [v72, if_neg hc76, if_neg hc83]))
  have j58 : ∀ u : Int32, u = (v58 p1) → Run p l e ({ frames := 0, cells := 0, slots := 0, locals := 0 } : Room) s m #[(.int p1)] below meth c (RQ ({ frames := 0, cells := 0, slots := 0, locals := 0 } : Room) (QV (.int u) h0 n0)) s₁ (mkF m 58 #[.val (.int p1)] []) := by
    intro u hu
    refine Run.step (T1 := s₁) (g1 := (mkF m 62 #[.val (.int p1)] [(.int (248 : Int32)), (.int p1)])) (fun target kt => ?_) ?_
    · show Steps p.tables e below (s₁.setTop (mkF m 58 #[.val (.int p1)] [])) _
      refine XS.iloadN X0.here hx rfl (hb hby d2_58) rfl ?_
      show Steps p.tables e below (s₁.setTop (mkF m 59 #[.val (.int p1)] [(.int p1)])) _
      refine XS.sipush X0.here hx rfl (hb hby d2_59) ?_
      exact kt
    by_cases hc62 : p1 < (248 : Int32)
    · refine Run.step (T1 := s₁) (g1 := (mkF m 72 #[.val (.int p1)] [])) (fun target kt => ?_) ?_
      · show Steps p.tables e below (s₁.setTop (mkF m 62 #[.val (.int p1)] [(.int (248 : Int32)), (.int p1)])) _
        refine XS.icmpYes X0.here hx rfl (pc0 := 62) (pc' := 72) rfl (hb hby d2_62) rfl (tlt hc62).1 (by decide) (by decide) ?_
        exact kt
      exact j72 u (hu.trans (by rw [v58, if_pos hc62]))
    · refine Run.step (T1 := s₁) (g1 := (mkF m 65 #[.val (.int p1)] [])) (fun target kt => ?_) ?_
      · show Steps p.tables e below (s₁.setTop (mkF m 62 #[.val (.int p1)] [(.int (248 : Int32)), (.int p1)])) _
        refine XS.icmpNo X0.here hx rfl (hb hby d2_62) rfl (flt hc62).1 ?_
        exact kt
      refine Run.step (T1 := s₁) (g1 := (mkF m 69 #[.val (.int p1)] [(.int (767 : Int32)), (.int p1)])) (fun target kt => ?_) ?_
      · show Steps p.tables e below (s₁.setTop (mkF m 65 #[.val (.int p1)] [])) _
        refine XS.iloadN X0.here hx rfl (hb hby d2_65) rfl ?_
        show Steps p.tables e below (s₁.setTop (mkF m 66 #[.val (.int p1)] [(.int p1)])) _
        refine XS.sipush X0.here hx rfl (hb hby d2_66) ?_
        exact kt
      by_cases hc69 : (767 : Int32) < p1
      · refine Run.step (T1 := s₁) (g1 := (mkF m 72 #[.val (.int p1)] [])) (fun target kt => ?_) ?_
        · show Steps p.tables e below (s₁.setTop (mkF m 69 #[.val (.int p1)] [(.int (767 : Int32)), (.int p1)])) _
          refine XS.icmpNo X0.here hx rfl (hb hby d2_69) rfl (tlt hc69).2.2.2 ?_
          exact kt
        exact j72 u (hu.trans (by rw [v58, if_neg hc62, if_pos hc69]))
      · refine Run.step (T1 := s₁) (g1 := (mkF m 191 #[.val (.int p1)] [])) (fun target kt => ?_) ?_
        · show Steps p.tables e below (s₁.setTop (mkF m 69 #[.val (.int p1)] [(.int (767 : Int32)), (.int p1)])) _
          refine XS.icmpYes X0.here hx rfl (pc0 := 69) (pc' := 191) rfl (hb hby d2_69) rfl (flt hc69).2.2.2 (by decide) (by decide) ?_
          exact kt
        exact j191 u (hu.trans (by rw [v58, if_neg hc62, if_neg hc69]))
  have j44 : ∀ u : Int32, u = (v44 p1) → Run p l e ({ frames := 0, cells := 0, slots := 0, locals := 0 } : Room) s m #[(.int p1)] below meth c (RQ ({ frames := 0, cells := 0, slots := 0, locals := 0 } : Room) (QV (.int u) h0 n0)) s₁ (mkF m 44 #[.val (.int p1)] []) := by
    intro u hu
    refine Run.step (T1 := s₁) (g1 := (mkF m 48 #[.val (.int p1)] [(.int (216 : Int32)), (.int p1)])) (fun target kt => ?_) ?_
    · show Steps p.tables e below (s₁.setTop (mkF m 44 #[.val (.int p1)] [])) _
      refine XS.iloadN X0.here hx rfl (hb hby d2_44) rfl ?_
      show Steps p.tables e below (s₁.setTop (mkF m 45 #[.val (.int p1)] [(.int p1)])) _
      refine XS.sipush X0.here hx rfl (hb hby d2_45) ?_
      exact kt
    by_cases hc48 : p1 < (216 : Int32)
    · refine Run.step (T1 := s₁) (g1 := (mkF m 58 #[.val (.int p1)] [])) (fun target kt => ?_) ?_
      · show Steps p.tables e below (s₁.setTop (mkF m 48 #[.val (.int p1)] [(.int (216 : Int32)), (.int p1)])) _
        refine XS.icmpYes X0.here hx rfl (pc0 := 48) (pc' := 58) rfl (hb hby d2_48) rfl (tlt hc48).1 (by decide) (by decide) ?_
        exact kt
      exact j58 u (hu.trans (by rw [v44, if_pos hc48]))
    · refine Run.step (T1 := s₁) (g1 := (mkF m 51 #[.val (.int p1)] [])) (fun target kt => ?_) ?_
      · show Steps p.tables e below (s₁.setTop (mkF m 48 #[.val (.int p1)] [(.int (216 : Int32)), (.int p1)])) _
        refine XS.icmpNo X0.here hx rfl (hb hby d2_48) rfl (flt hc48).1 ?_
        exact kt
      refine Run.step (T1 := s₁) (g1 := (mkF m 55 #[.val (.int p1)] [(.int (246 : Int32)), (.int p1)])) (fun target kt => ?_) ?_
      · show Steps p.tables e below (s₁.setTop (mkF m 51 #[.val (.int p1)] [])) _
        refine XS.iloadN X0.here hx rfl (hb hby d2_51) rfl ?_
        show Steps p.tables e below (s₁.setTop (mkF m 52 #[.val (.int p1)] [(.int p1)])) _
        refine XS.sipush X0.here hx rfl (hb hby d2_52) ?_
        exact kt
      by_cases hc55 : (246 : Int32) < p1
      · refine Run.step (T1 := s₁) (g1 := (mkF m 58 #[.val (.int p1)] [])) (fun target kt => ?_) ?_
        · show Steps p.tables e below (s₁.setTop (mkF m 55 #[.val (.int p1)] [(.int (246 : Int32)), (.int p1)])) _
          refine XS.icmpNo X0.here hx rfl (hb hby d2_55) rfl (tlt hc55).2.2.2 ?_
          exact kt
        exact j58 u (hu.trans (by rw [v44, if_neg hc48, if_pos hc55]))
      · refine Run.step (T1 := s₁) (g1 := (mkF m 191 #[.val (.int p1)] [])) (fun target kt => ?_) ?_
        · show Steps p.tables e below (s₁.setTop (mkF m 55 #[.val (.int p1)] [(.int (246 : Int32)), (.int p1)])) _
          refine XS.icmpYes X0.here hx rfl (pc0 := 55) (pc' := 191) rfl (hb hby d2_55) rfl (flt hc55).2.2.2 (by decide) (by decide) ?_
          exact kt
        exact j191 u (hu.trans (by rw [v44, if_neg hc48, if_neg hc55]))
  have j30 : ∀ u : Int32, u = (v30 p1) → Run p l e ({ frames := 0, cells := 0, slots := 0, locals := 0 } : Room) s m #[(.int p1)] below meth c (RQ ({ frames := 0, cells := 0, slots := 0, locals := 0 } : Room) (QV (.int u) h0 n0)) s₁ (mkF m 30 #[.val (.int p1)] []) := by
    intro u hu
    refine Run.step (T1 := s₁) (g1 := (mkF m 34 #[.val (.int p1)] [(.int (192 : Int32)), (.int p1)])) (fun target kt => ?_) ?_
    · show Steps p.tables e below (s₁.setTop (mkF m 30 #[.val (.int p1)] [])) _
      refine XS.iloadN X0.here hx rfl (hb hby d2_30) rfl ?_
      show Steps p.tables e below (s₁.setTop (mkF m 31 #[.val (.int p1)] [(.int p1)])) _
      refine XS.sipush X0.here hx rfl (hb hby d2_31) ?_
      exact kt
    by_cases hc34 : p1 < (192 : Int32)
    · refine Run.step (T1 := s₁) (g1 := (mkF m 44 #[.val (.int p1)] [])) (fun target kt => ?_) ?_
      · show Steps p.tables e below (s₁.setTop (mkF m 34 #[.val (.int p1)] [(.int (192 : Int32)), (.int p1)])) _
        refine XS.icmpYes X0.here hx rfl (pc0 := 34) (pc' := 44) rfl (hb hby d2_34) rfl (tlt hc34).1 (by decide) (by decide) ?_
        exact kt
      exact j44 u (hu.trans (by rw [v30, if_pos hc34]))
    · refine Run.step (T1 := s₁) (g1 := (mkF m 37 #[.val (.int p1)] [])) (fun target kt => ?_) ?_
      · show Steps p.tables e below (s₁.setTop (mkF m 34 #[.val (.int p1)] [(.int (192 : Int32)), (.int p1)])) _
        refine XS.icmpNo X0.here hx rfl (hb hby d2_34) rfl (flt hc34).1 ?_
        exact kt
      refine Run.step (T1 := s₁) (g1 := (mkF m 41 #[.val (.int p1)] [(.int (214 : Int32)), (.int p1)])) (fun target kt => ?_) ?_
      · show Steps p.tables e below (s₁.setTop (mkF m 37 #[.val (.int p1)] [])) _
        refine XS.iloadN X0.here hx rfl (hb hby d2_37) rfl ?_
        show Steps p.tables e below (s₁.setTop (mkF m 38 #[.val (.int p1)] [(.int p1)])) _
        refine XS.sipush X0.here hx rfl (hb hby d2_38) ?_
        exact kt
      by_cases hc41 : (214 : Int32) < p1
      · refine Run.step (T1 := s₁) (g1 := (mkF m 44 #[.val (.int p1)] [])) (fun target kt => ?_) ?_
        · show Steps p.tables e below (s₁.setTop (mkF m 41 #[.val (.int p1)] [(.int (214 : Int32)), (.int p1)])) _
          refine XS.icmpNo X0.here hx rfl (hb hby d2_41) rfl (tlt hc41).2.2.2 ?_
          exact kt
        exact j44 u (hu.trans (by rw [v30, if_neg hc34, if_pos hc41]))
      · refine Run.step (T1 := s₁) (g1 := (mkF m 191 #[.val (.int p1)] [])) (fun target kt => ?_) ?_
        · show Steps p.tables e below (s₁.setTop (mkF m 41 #[.val (.int p1)] [(.int (214 : Int32)), (.int p1)])) _
          refine XS.icmpYes X0.here hx rfl (pc0 := 41) (pc' := 191) rfl (hb hby d2_41) rfl (flt hc41).2.2.2 (by decide) (by decide) ?_
          exact kt
        exact j191 u (hu.trans (by rw [v30, if_neg hc34, if_neg hc41]))
  have j24 : ∀ u : Int32, u = (v24 p1) → Run p l e ({ frames := 0, cells := 0, slots := 0, locals := 0 } : Room) s m #[(.int p1)] below meth c (RQ ({ frames := 0, cells := 0, slots := 0, locals := 0 } : Room) (QV (.int u) h0 n0)) s₁ (mkF m 24 #[.val (.int p1)] []) := by
    intro u hu
    refine Run.step (T1 := s₁) (g1 := (mkF m 27 #[.val (.int p1)] [(.int (95 : Int32)), (.int p1)])) (fun target kt => ?_) ?_
    · show Steps p.tables e below (s₁.setTop (mkF m 24 #[.val (.int p1)] [])) _
      refine XS.iloadN X0.here hx rfl (hb hby d2_24) rfl ?_
      show Steps p.tables e below (s₁.setTop (mkF m 25 #[.val (.int p1)] [(.int p1)])) _
      refine XS.bipush X0.here hx rfl (hb hby d2_25) ?_
      exact kt
    by_cases hc27 : p1 = (95 : Int32)
    · refine Run.step (T1 := s₁) (g1 := (mkF m 191 #[.val (.int p1)] [])) (fun target kt => ?_) ?_
      · show Steps p.tables e below (s₁.setTop (mkF m 27 #[.val (.int p1)] [(.int (95 : Int32)), (.int p1)])) _
        refine XS.icmpYes X0.here hx rfl (pc0 := 27) (pc' := 191) rfl (hb hby d2_27) rfl (teq hc27).1 (by decide) (by decide) ?_
        exact kt
      exact j191 u (hu.trans (by rw [v24, if_pos hc27]))
    · refine Run.step (T1 := s₁) (g1 := (mkF m 30 #[.val (.int p1)] [])) (fun target kt => ?_) ?_
      · show Steps p.tables e below (s₁.setTop (mkF m 27 #[.val (.int p1)] [(.int (95 : Int32)), (.int p1)])) _
        refine XS.icmpNo X0.here hx rfl (hb hby d2_27) rfl (feq hc27).1 ?_
        exact kt
      exact j30 u (hu.trans (by rw [v24, if_neg hc27]))
  have j12 : ∀ u : Int32, u = (v12 p1) → Run p l e ({ frames := 0, cells := 0, slots := 0, locals := 0 } : Room) s m #[(.int p1)] below meth c (RQ ({ frames := 0, cells := 0, slots := 0, locals := 0 } : Room) (QV (.int u) h0 n0)) s₁ (mkF m 12 #[.val (.int p1)] []) := by
    intro u hu
    refine Run.step (T1 := s₁) (g1 := (mkF m 15 #[.val (.int p1)] [(.int (65 : Int32)), (.int p1)])) (fun target kt => ?_) ?_
    · show Steps p.tables e below (s₁.setTop (mkF m 12 #[.val (.int p1)] [])) _
      refine XS.iloadN X0.here hx rfl (hb hby d2_12) rfl ?_
      show Steps p.tables e below (s₁.setTop (mkF m 13 #[.val (.int p1)] [(.int p1)])) _
      refine XS.bipush X0.here hx rfl (hb hby d2_13) ?_
      exact kt
    by_cases hc15 : p1 < (65 : Int32)
    · refine Run.step (T1 := s₁) (g1 := (mkF m 24 #[.val (.int p1)] [])) (fun target kt => ?_) ?_
      · show Steps p.tables e below (s₁.setTop (mkF m 15 #[.val (.int p1)] [(.int (65 : Int32)), (.int p1)])) _
        refine XS.icmpYes X0.here hx rfl (pc0 := 15) (pc' := 24) rfl (hb hby d2_15) rfl (tlt hc15).1 (by decide) (by decide) ?_
        exact kt
      exact j24 u (hu.trans (by rw [v12, if_pos hc15]))
    · refine Run.step (T1 := s₁) (g1 := (mkF m 18 #[.val (.int p1)] [])) (fun target kt => ?_) ?_
      · show Steps p.tables e below (s₁.setTop (mkF m 15 #[.val (.int p1)] [(.int (65 : Int32)), (.int p1)])) _
        refine XS.icmpNo X0.here hx rfl (hb hby d2_15) rfl (flt hc15).1 ?_
        exact kt
      refine Run.step (T1 := s₁) (g1 := (mkF m 21 #[.val (.int p1)] [(.int (90 : Int32)), (.int p1)])) (fun target kt => ?_) ?_
      · show Steps p.tables e below (s₁.setTop (mkF m 18 #[.val (.int p1)] [])) _
        refine XS.iloadN X0.here hx rfl (hb hby d2_18) rfl ?_
        show Steps p.tables e below (s₁.setTop (mkF m 19 #[.val (.int p1)] [(.int p1)])) _
        refine XS.bipush X0.here hx rfl (hb hby d2_19) ?_
        exact kt
      by_cases hc21 : (90 : Int32) < p1
      · refine Run.step (T1 := s₁) (g1 := (mkF m 24 #[.val (.int p1)] [])) (fun target kt => ?_) ?_
        · show Steps p.tables e below (s₁.setTop (mkF m 21 #[.val (.int p1)] [(.int (90 : Int32)), (.int p1)])) _
          refine XS.icmpNo X0.here hx rfl (hb hby d2_21) rfl (tlt hc21).2.2.2 ?_
          exact kt
        exact j24 u (hu.trans (by rw [v12, if_neg hc15, if_pos hc21]))
      · refine Run.step (T1 := s₁) (g1 := (mkF m 191 #[.val (.int p1)] [])) (fun target kt => ?_) ?_
        · show Steps p.tables e below (s₁.setTop (mkF m 21 #[.val (.int p1)] [(.int (90 : Int32)), (.int p1)])) _
          refine XS.icmpYes X0.here hx rfl (pc0 := 21) (pc' := 191) rfl (hb hby d2_21) rfl (flt hc21).2.2.2 (by decide) (by decide) ?_
          exact kt
        exact j191 u (hu.trans (by rw [v12, if_neg hc15, if_neg hc21]))
  refine Run.step (T1 := s₁) (g1 := (mkF m 3 #[.val (.int p1)] [(.int (97 : Int32)), (.int p1)])) (fun target kt => ?_) ?_
  · show Steps p.tables e below (s₁.setTop (mkF m 0 #[.val (.int p1)] [])) _
    refine XS.iloadN X0.here hx rfl (hb hby d2_0) rfl ?_
    show Steps p.tables e below (s₁.setTop (mkF m 1 #[.val (.int p1)] [(.int p1)])) _
    refine XS.bipush X0.here hx rfl (hb hby d2_1) ?_
    exact kt
  by_cases hc3 : p1 < (97 : Int32)
  · refine Run.step (T1 := s₁) (g1 := (mkF m 12 #[.val (.int p1)] [])) (fun target kt => ?_) ?_
    · show Steps p.tables e below (s₁.setTop (mkF m 3 #[.val (.int p1)] [(.int (97 : Int32)), (.int p1)])) _
      refine XS.icmpYes X0.here hx rfl (pc0 := 3) (pc' := 12) rfl (hb hby d2_3) rfl (tlt hc3).1 (by decide) (by decide) ?_
      exact kt
    exact j12 u (hu.trans (by rw [v0, if_pos hc3]))
  · refine Run.step (T1 := s₁) (g1 := (mkF m 6 #[.val (.int p1)] [])) (fun target kt => ?_) ?_
    · show Steps p.tables e below (s₁.setTop (mkF m 3 #[.val (.int p1)] [(.int (97 : Int32)), (.int p1)])) _
      refine XS.icmpNo X0.here hx rfl (hb hby d2_3) rfl (flt hc3).1 ?_
      exact kt
    refine Run.step (T1 := s₁) (g1 := (mkF m 9 #[.val (.int p1)] [(.int (122 : Int32)), (.int p1)])) (fun target kt => ?_) ?_
    · show Steps p.tables e below (s₁.setTop (mkF m 6 #[.val (.int p1)] [])) _
      refine XS.iloadN X0.here hx rfl (hb hby d2_6) rfl ?_
      show Steps p.tables e below (s₁.setTop (mkF m 7 #[.val (.int p1)] [(.int p1)])) _
      refine XS.bipush X0.here hx rfl (hb hby d2_7) ?_
      exact kt
    by_cases hc9 : (122 : Int32) < p1
    · refine Run.step (T1 := s₁) (g1 := (mkF m 12 #[.val (.int p1)] [])) (fun target kt => ?_) ?_
      · show Steps p.tables e below (s₁.setTop (mkF m 9 #[.val (.int p1)] [(.int (122 : Int32)), (.int p1)])) _
        refine XS.icmpNo X0.here hx rfl (hb hby d2_9) rfl (tlt hc9).2.2.2 ?_
        exact kt
      exact j12 u (hu.trans (by rw [v0, if_neg hc3, if_pos hc9]))
    · refine Run.step (T1 := s₁) (g1 := (mkF m 191 #[.val (.int p1)] [])) (fun target kt => ?_) ?_
      · show Steps p.tables e below (s₁.setTop (mkF m 9 #[.val (.int p1)] [(.int (122 : Int32)), (.int p1)])) _
        refine XS.icmpYes X0.here hx rfl (pc0 := 9) (pc' := 191) rfl (hb hby d2_9) rfl (flt hc9).2.2.2 (by decide) (by decide) ?_
        exact kt
      exact j191 u (hu.trans (by rw [v0, if_neg hc3, if_neg hc9]))
set_option maxRecDepth 65536 in
set_option maxHeartbeats 40000000 in
theorem rm0 (l : Launch) (Z : State) (a0 : Array Value) (hw : ∀ d ∈ tables_1, d.before a0 Z = true) (ws : List Jvm.Cond) (p1 p2 : Int32) (h0 : Heap) (n0 : Nat) (Z0 : n0 ≤ h0.size) :
    MetFree l x (head1 (Jvm.Cond.code x code maxLocals ret :: ws) room_1) (fun a U => a = #[(.int p1), (.int p2)] ∧ Z.Warmed39 U.vm ∧ U.heap = h0) (fun _ _ _ _ _ => True) (fun _ U o U' => ∃ v L, o = .returned v ∧ QO n0 v U'.heap L ∧ FrameEnd U o U' L room_1.cells room_1.slots) := by
  refine metRun (Z := Z) (plainFor_of_name pn_0) (fun m => ef_0 m p1 p2) ?_
  intro p e s m below meth c s₁ X0 hx hby hml hown hnm hret hZ e0 e00
  replace hown : s.vm.findClass "com/example/stylemill/stylemill/xdm/XmlNamesIsNameStartCharPinLaw" = some m.cls := hown
  have N0 := Fr.nil n0
  obtain ⟨T11, h11, k11, X11, e11, K11, A11, st11⟩ := own_newI X0 hx hZ (hw _ (List.mem_of_getElem? (i := 0) rfl)) e0 (g := (mkF m 2 #[.val (.int p1), .val (.int p2), .unset, .unset, .unset] [(.int (30 : Int32))])) rfl (hb hby at_2) rfl (by decide) (cap := 30) (by decide) (by decide) (by decide) (by decide)
  obtain ⟨b11, g11⟩ : ∃ z, z = h0.size := ⟨_, rfl⟩
  rw [← g11] at A11 st11
  have KK11 := (Keep.trans0 (Keep.refl h0 []) K11)
  have sz_b11 : h0.size ≤ b11 := Nat.le_trans (Keep.refl h0 []).1 (Nat.le_of_eq g11.symm)
  have g_b11 : n0 ≤ b11 := Nat.le_trans Z0 sz_b11
  obtain ⟨T12, h12, L12, X12, e12, W12, A12, K12, N12, st12⟩ := own_stI X11 hx hZ e11 A11 KK11 sz_b11 N0 g_b11 (i := 0) (by decide) (by decide) (by simp) (g := (mkF m 8 #[.val (.int p1), .val (.int p2), .unset, .unset, .unset] [(.int (58 : Int32)), (.int (0 : Int32)), (.ref b11), (.ref b11)])) rfl rfl (hb hby at_8)
  obtain ⟨T13, h13, L13, X13, e13, W13, A13, K13, N13, st13⟩ := own_stI X12 hx hZ e12 A12 K12 sz_b11 N12 g_b11 (i := 1) (by decide) (by decide) (by simp) (g := (mkF m 13 #[.val (.int p1), .val (.int p2), .unset, .unset, .unset] [(.int (65 : Int32)), (.int (1 : Int32)), (.ref b11), (.ref b11)])) rfl rfl (hb hby at_13)
  obtain ⟨T14, h14, L14, X14, e14, W14, A14, K14, N14, st14⟩ := own_stI X13 hx hZ e13 A13 K13 sz_b11 N13 g_b11 (i := 2) (by decide) (by decide) (by simp) (g := (mkF m 18 #[.val (.int p1), .val (.int p2), .unset, .unset, .unset] [(.int (90 : Int32)), (.int (2 : Int32)), (.ref b11), (.ref b11)])) rfl rfl (hb hby at_18)
  obtain ⟨T15, h15, L15, X15, e15, W15, A15, K15, N15, st15⟩ := own_stI X14 hx hZ e14 A14 K14 sz_b11 N14 g_b11 (i := 3) (by decide) (by decide) (by simp) (g := (mkF m 23 #[.val (.int p1), .val (.int p2), .unset, .unset, .unset] [(.int (95 : Int32)), (.int (3 : Int32)), (.ref b11), (.ref b11)])) rfl rfl (hb hby at_23)
  obtain ⟨T16, h16, L16, X16, e16, W16, A16, K16, N16, st16⟩ := own_stI X15 hx hZ e15 A15 K15 sz_b11 N15 g_b11 (i := 4) (by decide) (by decide) (by simp) (g := (mkF m 28 #[.val (.int p1), .val (.int p2), .unset, .unset, .unset] [(.int (97 : Int32)), (.int (4 : Int32)), (.ref b11), (.ref b11)])) rfl rfl (hb hby at_28)
  obtain ⟨T17, h17, L17, X17, e17, W17, A17, K17, N17, st17⟩ := own_stI X16 hx hZ e16 A16 K16 sz_b11 N16 g_b11 (i := 5) (by decide) (by decide) (by simp) (g := (mkF m 33 #[.val (.int p1), .val (.int p2), .unset, .unset, .unset] [(.int (122 : Int32)), (.int (5 : Int32)), (.ref b11), (.ref b11)])) rfl rfl (hb hby at_33)
  obtain ⟨T18, h18, L18, X18, e18, W18, A18, K18, N18, st18⟩ := own_stI X17 hx hZ e17 A17 K17 sz_b11 N17 g_b11 (i := 6) (by decide) (by decide) (by simp) (g := (mkF m 40 #[.val (.int p1), .val (.int p2), .unset, .unset, .unset] [(.int (192 : Int32)), (.int (6 : Int32)), (.ref b11), (.ref b11)])) rfl rfl (hb hby at_40)
  obtain ⟨T19, h19, L19, X19, e19, W19, A19, K19, N19, st19⟩ := own_stI X18 hx hZ e18 A18 K18 sz_b11 N18 g_b11 (i := 7) (by decide) (by decide) (by simp) (g := (mkF m 47 #[.val (.int p1), .val (.int p2), .unset, .unset, .unset] [(.int (214 : Int32)), (.int (7 : Int32)), (.ref b11), (.ref b11)])) rfl rfl (hb hby at_47)
  obtain ⟨T20, h20, L20, X20, e20, W20, A20, K20, N20, st20⟩ := own_stI X19 hx hZ e19 A19 K19 sz_b11 N19 g_b11 (i := 8) (by decide) (by decide) (by simp) (g := (mkF m 54 #[.val (.int p1), .val (.int p2), .unset, .unset, .unset] [(.int (216 : Int32)), (.int (8 : Int32)), (.ref b11), (.ref b11)])) rfl rfl (hb hby at_54)
  obtain ⟨T21, h21, L21, X21, e21, W21, A21, K21, N21, st21⟩ := own_stI X20 hx hZ e20 A20 K20 sz_b11 N20 g_b11 (i := 9) (by decide) (by decide) (by simp) (g := (mkF m 61 #[.val (.int p1), .val (.int p2), .unset, .unset, .unset] [(.int (246 : Int32)), (.int (9 : Int32)), (.ref b11), (.ref b11)])) rfl rfl (hb hby at_61)
  obtain ⟨T22, h22, L22, X22, e22, W22, A22, K22, N22, st22⟩ := own_stI X21 hx hZ e21 A21 K21 sz_b11 N21 g_b11 (i := 10) (by decide) (by decide) (by simp) (g := (mkF m 68 #[.val (.int p1), .val (.int p2), .unset, .unset, .unset] [(.int (248 : Int32)), (.int (10 : Int32)), (.ref b11), (.ref b11)])) rfl rfl (hb hby at_68)
  obtain ⟨T23, h23, L23, X23, e23, W23, A23, K23, N23, st23⟩ := own_stI X22 hx hZ e22 A22 K22 sz_b11 N22 g_b11 (i := 11) (by decide) (by decide) (by simp) (g := (mkF m 75 #[.val (.int p1), .val (.int p2), .unset, .unset, .unset] [(.int (767 : Int32)), (.int (11 : Int32)), (.ref b11), (.ref b11)])) rfl rfl (hb hby at_75)
  obtain ⟨T24, h24, L24, X24, e24, W24, A24, K24, N24, st24⟩ := own_stI X23 hx hZ e23 A23 K23 sz_b11 N23 g_b11 (i := 12) (by decide) (by decide) (by simp) (g := (mkF m 82 #[.val (.int p1), .val (.int p2), .unset, .unset, .unset] [(.int (880 : Int32)), (.int (12 : Int32)), (.ref b11), (.ref b11)])) rfl rfl (hb hby at_82)
  obtain ⟨T25, h25, L25, X25, e25, W25, A25, K25, N25, st25⟩ := own_stI X24 hx hZ e24 A24 K24 sz_b11 N24 g_b11 (i := 13) (by decide) (by decide) (by simp) (g := (mkF m 89 #[.val (.int p1), .val (.int p2), .unset, .unset, .unset] [(.int (893 : Int32)), (.int (13 : Int32)), (.ref b11), (.ref b11)])) rfl rfl (hb hby at_89)
  obtain ⟨T26, h26, L26, X26, e26, W26, A26, K26, N26, st26⟩ := own_stI X25 hx hZ e25 A25 K25 sz_b11 N25 g_b11 (i := 14) (by decide) (by decide) (by simp) (g := (mkF m 96 #[.val (.int p1), .val (.int p2), .unset, .unset, .unset] [(.int (895 : Int32)), (.int (14 : Int32)), (.ref b11), (.ref b11)])) rfl rfl (hb hby at_96)
  obtain ⟨T27, h27, L27, X27, e27, W27, A27, K27, N27, st27⟩ := own_stI X26 hx hZ e26 A26 K26 sz_b11 N26 g_b11 (i := 15) (by decide) (by decide) (by simp) (g := (mkF m 103 #[.val (.int p1), .val (.int p2), .unset, .unset, .unset] [(.int (8191 : Int32)), (.int (15 : Int32)), (.ref b11), (.ref b11)])) rfl rfl (hb hby at_103)
  obtain ⟨T28, h28, L28, X28, e28, W28, A28, K28, N28, st28⟩ := own_stI X27 hx hZ e27 A27 K27 sz_b11 N27 g_b11 (i := 16) (by decide) (by decide) (by simp) (g := (mkF m 110 #[.val (.int p1), .val (.int p2), .unset, .unset, .unset] [(.int (8204 : Int32)), (.int (16 : Int32)), (.ref b11), (.ref b11)])) rfl rfl (hb hby at_110)
  obtain ⟨T29, h29, L29, X29, e29, W29, A29, K29, N29, st29⟩ := own_stI X28 hx hZ e28 A28 K28 sz_b11 N28 g_b11 (i := 17) (by decide) (by decide) (by simp) (g := (mkF m 117 #[.val (.int p1), .val (.int p2), .unset, .unset, .unset] [(.int (8205 : Int32)), (.int (17 : Int32)), (.ref b11), (.ref b11)])) rfl rfl (hb hby at_117)
  obtain ⟨T30, h30, L30, X30, e30, W30, A30, K30, N30, st30⟩ := own_stI X29 hx hZ e29 A29 K29 sz_b11 N29 g_b11 (i := 18) (by decide) (by decide) (by simp) (g := (mkF m 124 #[.val (.int p1), .val (.int p2), .unset, .unset, .unset] [(.int (8304 : Int32)), (.int (18 : Int32)), (.ref b11), (.ref b11)])) rfl rfl (hb hby at_124)
  obtain ⟨T31, h31, L31, X31, e31, W31, A31, K31, N31, st31⟩ := own_stI X30 hx hZ e30 A30 K30 sz_b11 N30 g_b11 (i := 19) (by decide) (by decide) (by simp) (g := (mkF m 131 #[.val (.int p1), .val (.int p2), .unset, .unset, .unset] [(.int (8591 : Int32)), (.int (19 : Int32)), (.ref b11), (.ref b11)])) rfl rfl (hb hby at_131)
  obtain ⟨T32, h32, L32, X32, e32, W32, A32, K32, N32, st32⟩ := own_stI X31 hx hZ e31 A31 K31 sz_b11 N31 g_b11 (i := 20) (by decide) (by decide) (by simp) (g := (mkF m 138 #[.val (.int p1), .val (.int p2), .unset, .unset, .unset] [(.int (11264 : Int32)), (.int (20 : Int32)), (.ref b11), (.ref b11)])) rfl rfl (hb hby at_138)
  obtain ⟨T33, h33, L33, X33, e33, W33, A33, K33, N33, st33⟩ := own_stI X32 hx hZ e32 A32 K32 sz_b11 N32 g_b11 (i := 21) (by decide) (by decide) (by simp) (g := (mkF m 145 #[.val (.int p1), .val (.int p2), .unset, .unset, .unset] [(.int (12271 : Int32)), (.int (21 : Int32)), (.ref b11), (.ref b11)])) rfl rfl (hb hby at_145)
  obtain ⟨T34, h34, L34, X34, e34, W34, A34, K34, N34, st34⟩ := own_stI X33 hx hZ e33 A33 K33 sz_b11 N33 g_b11 (i := 22) (by decide) (by decide) (by simp) (g := (mkF m 152 #[.val (.int p1), .val (.int p2), .unset, .unset, .unset] [(.int (12289 : Int32)), (.int (22 : Int32)), (.ref b11), (.ref b11)])) rfl rfl (hb hby at_152)
  obtain ⟨T35, h35, L35, X35, e35, W35, A35, K35, N35, st35⟩ := own_stI X34 hx hZ e34 A34 K34 sz_b11 N34 g_b11 (i := 23) (by decide) (by decide) (by simp) (g := (mkF m 158 #[.val (.int p1), .val (.int p2), .unset, .unset, .unset] [(.int (55295 : Int32)), (.int (23 : Int32)), (.ref b11), (.ref b11)])) rfl rfl (hb hby at_158)
  obtain ⟨T36, h36, L36, X36, e36, W36, A36, K36, N36, st36⟩ := own_stI X35 hx hZ e35 A35 K35 sz_b11 N35 g_b11 (i := 24) (by decide) (by decide) (by simp) (g := (mkF m 164 #[.val (.int p1), .val (.int p2), .unset, .unset, .unset] [(.int (63744 : Int32)), (.int (24 : Int32)), (.ref b11), (.ref b11)])) rfl rfl (hb hby at_164)
  obtain ⟨T37, h37, L37, X37, e37, W37, A37, K37, N37, st37⟩ := own_stI X36 hx hZ e36 A36 K36 sz_b11 N36 g_b11 (i := 25) (by decide) (by decide) (by simp) (g := (mkF m 170 #[.val (.int p1), .val (.int p2), .unset, .unset, .unset] [(.int (64975 : Int32)), (.int (25 : Int32)), (.ref b11), (.ref b11)])) rfl rfl (hb hby at_170)
  obtain ⟨T38, h38, L38, X38, e38, W38, A38, K38, N38, st38⟩ := own_stI X37 hx hZ e37 A37 K37 sz_b11 N37 g_b11 (i := 26) (by decide) (by decide) (by simp) (g := (mkF m 176 #[.val (.int p1), .val (.int p2), .unset, .unset, .unset] [(.int (65008 : Int32)), (.int (26 : Int32)), (.ref b11), (.ref b11)])) rfl rfl (hb hby at_176)
  obtain ⟨T39, h39, L39, X39, e39, W39, A39, K39, N39, st39⟩ := own_stI X38 hx hZ e38 A38 K38 sz_b11 N38 g_b11 (i := 27) (by decide) (by decide) (by simp) (g := (mkF m 182 #[.val (.int p1), .val (.int p2), .unset, .unset, .unset] [(.int (65533 : Int32)), (.int (27 : Int32)), (.ref b11), (.ref b11)])) rfl rfl (hb hby at_182)
  obtain ⟨T40, h40, L40, X40, e40, W40, A40, K40, N40, st40⟩ := own_stI X39 hx hZ e39 A39 K39 sz_b11 N39 g_b11 (i := 28) (by decide) (by decide) (by simp) (g := (mkF m 188 #[.val (.int p1), .val (.int p2), .unset, .unset, .unset] [(.int (65536 : Int32)), (.int (28 : Int32)), (.ref b11), (.ref b11)])) rfl rfl (hb hby at_188)
  obtain ⟨T41, h41, L41, X41, e41, W41, A41, K41, N41, st41⟩ := own_stI X40 hx hZ e40 A40 K40 sz_b11 N40 g_b11 (i := 29) (by decide) (by decide) (by simp) (g := (mkF m 194 #[.val (.int p1), .val (.int p2), .unset, .unset, .unset] [(.int (983039 : Int32)), (.int (29 : Int32)), (.ref b11), (.ref b11)])) rfl rfl (hb hby at_194)
  refine Run.step (T1 := T41) (g1 := (mkF m 199 #[.val (.int p1), .val (.int p2), .val (.ref b11), .unset, .unset] [(.int (p2 &&& (1 : Int32)))])) (fun target kt => ?_) ?_
  · show Steps p.tables e below (s₁.setTop (mkF m 0 #[.val (.int p1), .val (.int p2), .unset, .unset, .unset] [])) _
    refine XS.bipush X0.here hx rfl (hb hby at_0) ?_
    show Steps p.tables e below (s₁.setTop (mkF m 2 #[.val (.int p1), .val (.int p2), .unset, .unset, .unset] [(.int (30 : Int32))])) _
    refine st11 _ ?_
    show Steps p.tables e below (T11.setTop (mkF m 4 #[.val (.int p1), .val (.int p2), .unset, .unset, .unset] [(.ref b11)])) _
    refine XS.dup X11.here hx rfl (hb hby at_4) rfl rfl ?_
    show Steps p.tables e below (T11.setTop (mkF m 5 #[.val (.int p1), .val (.int p2), .unset, .unset, .unset] [(.ref b11), (.ref b11)])) _
    refine XS.iconst X11.here hx rfl (hb hby at_5) ?_
    show Steps p.tables e below (T11.setTop (mkF m 6 #[.val (.int p1), .val (.int p2), .unset, .unset, .unset] [(.int (0 : Int32)), (.ref b11), (.ref b11)])) _
    refine XS.bipush X11.here hx rfl (hb hby at_6) ?_
    show Steps p.tables e below (T11.setTop (mkF m 8 #[.val (.int p1), .val (.int p2), .unset, .unset, .unset] [(.int (58 : Int32)), (.int (0 : Int32)), (.ref b11), (.ref b11)])) _
    refine st12 _ ?_
    show Steps p.tables e below (T12.setTop (mkF m 9 #[.val (.int p1), .val (.int p2), .unset, .unset, .unset] [(.ref b11)])) _
    refine XS.dup X12.here hx rfl (hb hby at_9) rfl rfl ?_
    show Steps p.tables e below (T12.setTop (mkF m 10 #[.val (.int p1), .val (.int p2), .unset, .unset, .unset] [(.ref b11), (.ref b11)])) _
    refine XS.iconst X12.here hx rfl (hb hby at_10) ?_
    show Steps p.tables e below (T12.setTop (mkF m 11 #[.val (.int p1), .val (.int p2), .unset, .unset, .unset] [(.int (1 : Int32)), (.ref b11), (.ref b11)])) _
    refine XS.bipush X12.here hx rfl (hb hby at_11) ?_
    show Steps p.tables e below (T12.setTop (mkF m 13 #[.val (.int p1), .val (.int p2), .unset, .unset, .unset] [(.int (65 : Int32)), (.int (1 : Int32)), (.ref b11), (.ref b11)])) _
    refine st13 _ ?_
    show Steps p.tables e below (T13.setTop (mkF m 14 #[.val (.int p1), .val (.int p2), .unset, .unset, .unset] [(.ref b11)])) _
    refine XS.dup X13.here hx rfl (hb hby at_14) rfl rfl ?_
    show Steps p.tables e below (T13.setTop (mkF m 15 #[.val (.int p1), .val (.int p2), .unset, .unset, .unset] [(.ref b11), (.ref b11)])) _
    refine XS.iconst X13.here hx rfl (hb hby at_15) ?_
    show Steps p.tables e below (T13.setTop (mkF m 16 #[.val (.int p1), .val (.int p2), .unset, .unset, .unset] [(.int (2 : Int32)), (.ref b11), (.ref b11)])) _
    refine XS.bipush X13.here hx rfl (hb hby at_16) ?_
    show Steps p.tables e below (T13.setTop (mkF m 18 #[.val (.int p1), .val (.int p2), .unset, .unset, .unset] [(.int (90 : Int32)), (.int (2 : Int32)), (.ref b11), (.ref b11)])) _
    refine st14 _ ?_
    show Steps p.tables e below (T14.setTop (mkF m 19 #[.val (.int p1), .val (.int p2), .unset, .unset, .unset] [(.ref b11)])) _
    refine XS.dup X14.here hx rfl (hb hby at_19) rfl rfl ?_
    show Steps p.tables e below (T14.setTop (mkF m 20 #[.val (.int p1), .val (.int p2), .unset, .unset, .unset] [(.ref b11), (.ref b11)])) _
    refine XS.iconst X14.here hx rfl (hb hby at_20) ?_
    show Steps p.tables e below (T14.setTop (mkF m 21 #[.val (.int p1), .val (.int p2), .unset, .unset, .unset] [(.int (3 : Int32)), (.ref b11), (.ref b11)])) _
    refine XS.bipush X14.here hx rfl (hb hby at_21) ?_
    show Steps p.tables e below (T14.setTop (mkF m 23 #[.val (.int p1), .val (.int p2), .unset, .unset, .unset] [(.int (95 : Int32)), (.int (3 : Int32)), (.ref b11), (.ref b11)])) _
    refine st15 _ ?_
    show Steps p.tables e below (T15.setTop (mkF m 24 #[.val (.int p1), .val (.int p2), .unset, .unset, .unset] [(.ref b11)])) _
    refine XS.dup X15.here hx rfl (hb hby at_24) rfl rfl ?_
    show Steps p.tables e below (T15.setTop (mkF m 25 #[.val (.int p1), .val (.int p2), .unset, .unset, .unset] [(.ref b11), (.ref b11)])) _
    refine XS.iconst X15.here hx rfl (hb hby at_25) ?_
    show Steps p.tables e below (T15.setTop (mkF m 26 #[.val (.int p1), .val (.int p2), .unset, .unset, .unset] [(.int (4 : Int32)), (.ref b11), (.ref b11)])) _
    refine XS.bipush X15.here hx rfl (hb hby at_26) ?_
    show Steps p.tables e below (T15.setTop (mkF m 28 #[.val (.int p1), .val (.int p2), .unset, .unset, .unset] [(.int (97 : Int32)), (.int (4 : Int32)), (.ref b11), (.ref b11)])) _
    refine st16 _ ?_
    show Steps p.tables e below (T16.setTop (mkF m 29 #[.val (.int p1), .val (.int p2), .unset, .unset, .unset] [(.ref b11)])) _
    refine XS.dup X16.here hx rfl (hb hby at_29) rfl rfl ?_
    show Steps p.tables e below (T16.setTop (mkF m 30 #[.val (.int p1), .val (.int p2), .unset, .unset, .unset] [(.ref b11), (.ref b11)])) _
    refine XS.iconst X16.here hx rfl (hb hby at_30) ?_
    show Steps p.tables e below (T16.setTop (mkF m 31 #[.val (.int p1), .val (.int p2), .unset, .unset, .unset] [(.int (5 : Int32)), (.ref b11), (.ref b11)])) _
    refine XS.bipush X16.here hx rfl (hb hby at_31) ?_
    show Steps p.tables e below (T16.setTop (mkF m 33 #[.val (.int p1), .val (.int p2), .unset, .unset, .unset] [(.int (122 : Int32)), (.int (5 : Int32)), (.ref b11), (.ref b11)])) _
    refine st17 _ ?_
    show Steps p.tables e below (T17.setTop (mkF m 34 #[.val (.int p1), .val (.int p2), .unset, .unset, .unset] [(.ref b11)])) _
    refine XS.dup X17.here hx rfl (hb hby at_34) rfl rfl ?_
    show Steps p.tables e below (T17.setTop (mkF m 35 #[.val (.int p1), .val (.int p2), .unset, .unset, .unset] [(.ref b11), (.ref b11)])) _
    refine XS.bipush X17.here hx rfl (hb hby at_35) ?_
    show Steps p.tables e below (T17.setTop (mkF m 37 #[.val (.int p1), .val (.int p2), .unset, .unset, .unset] [(.int (6 : Int32)), (.ref b11), (.ref b11)])) _
    refine XS.sipush X17.here hx rfl (hb hby at_37) ?_
    show Steps p.tables e below (T17.setTop (mkF m 40 #[.val (.int p1), .val (.int p2), .unset, .unset, .unset] [(.int (192 : Int32)), (.int (6 : Int32)), (.ref b11), (.ref b11)])) _
    refine st18 _ ?_
    show Steps p.tables e below (T18.setTop (mkF m 41 #[.val (.int p1), .val (.int p2), .unset, .unset, .unset] [(.ref b11)])) _
    refine XS.dup X18.here hx rfl (hb hby at_41) rfl rfl ?_
    show Steps p.tables e below (T18.setTop (mkF m 42 #[.val (.int p1), .val (.int p2), .unset, .unset, .unset] [(.ref b11), (.ref b11)])) _
    refine XS.bipush X18.here hx rfl (hb hby at_42) ?_
    show Steps p.tables e below (T18.setTop (mkF m 44 #[.val (.int p1), .val (.int p2), .unset, .unset, .unset] [(.int (7 : Int32)), (.ref b11), (.ref b11)])) _
    refine XS.sipush X18.here hx rfl (hb hby at_44) ?_
    show Steps p.tables e below (T18.setTop (mkF m 47 #[.val (.int p1), .val (.int p2), .unset, .unset, .unset] [(.int (214 : Int32)), (.int (7 : Int32)), (.ref b11), (.ref b11)])) _
    refine st19 _ ?_
    show Steps p.tables e below (T19.setTop (mkF m 48 #[.val (.int p1), .val (.int p2), .unset, .unset, .unset] [(.ref b11)])) _
    refine XS.dup X19.here hx rfl (hb hby at_48) rfl rfl ?_
    show Steps p.tables e below (T19.setTop (mkF m 49 #[.val (.int p1), .val (.int p2), .unset, .unset, .unset] [(.ref b11), (.ref b11)])) _
    refine XS.bipush X19.here hx rfl (hb hby at_49) ?_
    show Steps p.tables e below (T19.setTop (mkF m 51 #[.val (.int p1), .val (.int p2), .unset, .unset, .unset] [(.int (8 : Int32)), (.ref b11), (.ref b11)])) _
    refine XS.sipush X19.here hx rfl (hb hby at_51) ?_
    show Steps p.tables e below (T19.setTop (mkF m 54 #[.val (.int p1), .val (.int p2), .unset, .unset, .unset] [(.int (216 : Int32)), (.int (8 : Int32)), (.ref b11), (.ref b11)])) _
    refine st20 _ ?_
    show Steps p.tables e below (T20.setTop (mkF m 55 #[.val (.int p1), .val (.int p2), .unset, .unset, .unset] [(.ref b11)])) _
    refine XS.dup X20.here hx rfl (hb hby at_55) rfl rfl ?_
    show Steps p.tables e below (T20.setTop (mkF m 56 #[.val (.int p1), .val (.int p2), .unset, .unset, .unset] [(.ref b11), (.ref b11)])) _
    refine XS.bipush X20.here hx rfl (hb hby at_56) ?_
    show Steps p.tables e below (T20.setTop (mkF m 58 #[.val (.int p1), .val (.int p2), .unset, .unset, .unset] [(.int (9 : Int32)), (.ref b11), (.ref b11)])) _
    refine XS.sipush X20.here hx rfl (hb hby at_58) ?_
    show Steps p.tables e below (T20.setTop (mkF m 61 #[.val (.int p1), .val (.int p2), .unset, .unset, .unset] [(.int (246 : Int32)), (.int (9 : Int32)), (.ref b11), (.ref b11)])) _
    refine st21 _ ?_
    show Steps p.tables e below (T21.setTop (mkF m 62 #[.val (.int p1), .val (.int p2), .unset, .unset, .unset] [(.ref b11)])) _
    refine XS.dup X21.here hx rfl (hb hby at_62) rfl rfl ?_
    show Steps p.tables e below (T21.setTop (mkF m 63 #[.val (.int p1), .val (.int p2), .unset, .unset, .unset] [(.ref b11), (.ref b11)])) _
    refine XS.bipush X21.here hx rfl (hb hby at_63) ?_
    show Steps p.tables e below (T21.setTop (mkF m 65 #[.val (.int p1), .val (.int p2), .unset, .unset, .unset] [(.int (10 : Int32)), (.ref b11), (.ref b11)])) _
    refine XS.sipush X21.here hx rfl (hb hby at_65) ?_
    show Steps p.tables e below (T21.setTop (mkF m 68 #[.val (.int p1), .val (.int p2), .unset, .unset, .unset] [(.int (248 : Int32)), (.int (10 : Int32)), (.ref b11), (.ref b11)])) _
    refine st22 _ ?_
    show Steps p.tables e below (T22.setTop (mkF m 69 #[.val (.int p1), .val (.int p2), .unset, .unset, .unset] [(.ref b11)])) _
    refine XS.dup X22.here hx rfl (hb hby at_69) rfl rfl ?_
    show Steps p.tables e below (T22.setTop (mkF m 70 #[.val (.int p1), .val (.int p2), .unset, .unset, .unset] [(.ref b11), (.ref b11)])) _
    refine XS.bipush X22.here hx rfl (hb hby at_70) ?_
    show Steps p.tables e below (T22.setTop (mkF m 72 #[.val (.int p1), .val (.int p2), .unset, .unset, .unset] [(.int (11 : Int32)), (.ref b11), (.ref b11)])) _
    refine XS.sipush X22.here hx rfl (hb hby at_72) ?_
    show Steps p.tables e below (T22.setTop (mkF m 75 #[.val (.int p1), .val (.int p2), .unset, .unset, .unset] [(.int (767 : Int32)), (.int (11 : Int32)), (.ref b11), (.ref b11)])) _
    refine st23 _ ?_
    show Steps p.tables e below (T23.setTop (mkF m 76 #[.val (.int p1), .val (.int p2), .unset, .unset, .unset] [(.ref b11)])) _
    refine XS.dup X23.here hx rfl (hb hby at_76) rfl rfl ?_
    show Steps p.tables e below (T23.setTop (mkF m 77 #[.val (.int p1), .val (.int p2), .unset, .unset, .unset] [(.ref b11), (.ref b11)])) _
    refine XS.bipush X23.here hx rfl (hb hby at_77) ?_
    show Steps p.tables e below (T23.setTop (mkF m 79 #[.val (.int p1), .val (.int p2), .unset, .unset, .unset] [(.int (12 : Int32)), (.ref b11), (.ref b11)])) _
    refine XS.sipush X23.here hx rfl (hb hby at_79) ?_
    show Steps p.tables e below (T23.setTop (mkF m 82 #[.val (.int p1), .val (.int p2), .unset, .unset, .unset] [(.int (880 : Int32)), (.int (12 : Int32)), (.ref b11), (.ref b11)])) _
    refine st24 _ ?_
    show Steps p.tables e below (T24.setTop (mkF m 83 #[.val (.int p1), .val (.int p2), .unset, .unset, .unset] [(.ref b11)])) _
    refine XS.dup X24.here hx rfl (hb hby at_83) rfl rfl ?_
    show Steps p.tables e below (T24.setTop (mkF m 84 #[.val (.int p1), .val (.int p2), .unset, .unset, .unset] [(.ref b11), (.ref b11)])) _
    refine XS.bipush X24.here hx rfl (hb hby at_84) ?_
    show Steps p.tables e below (T24.setTop (mkF m 86 #[.val (.int p1), .val (.int p2), .unset, .unset, .unset] [(.int (13 : Int32)), (.ref b11), (.ref b11)])) _
    refine XS.sipush X24.here hx rfl (hb hby at_86) ?_
    show Steps p.tables e below (T24.setTop (mkF m 89 #[.val (.int p1), .val (.int p2), .unset, .unset, .unset] [(.int (893 : Int32)), (.int (13 : Int32)), (.ref b11), (.ref b11)])) _
    refine st25 _ ?_
    show Steps p.tables e below (T25.setTop (mkF m 90 #[.val (.int p1), .val (.int p2), .unset, .unset, .unset] [(.ref b11)])) _
    refine XS.dup X25.here hx rfl (hb hby at_90) rfl rfl ?_
    show Steps p.tables e below (T25.setTop (mkF m 91 #[.val (.int p1), .val (.int p2), .unset, .unset, .unset] [(.ref b11), (.ref b11)])) _
    refine XS.bipush X25.here hx rfl (hb hby at_91) ?_
    show Steps p.tables e below (T25.setTop (mkF m 93 #[.val (.int p1), .val (.int p2), .unset, .unset, .unset] [(.int (14 : Int32)), (.ref b11), (.ref b11)])) _
    refine XS.sipush X25.here hx rfl (hb hby at_93) ?_
    show Steps p.tables e below (T25.setTop (mkF m 96 #[.val (.int p1), .val (.int p2), .unset, .unset, .unset] [(.int (895 : Int32)), (.int (14 : Int32)), (.ref b11), (.ref b11)])) _
    refine st26 _ ?_
    show Steps p.tables e below (T26.setTop (mkF m 97 #[.val (.int p1), .val (.int p2), .unset, .unset, .unset] [(.ref b11)])) _
    refine XS.dup X26.here hx rfl (hb hby at_97) rfl rfl ?_
    show Steps p.tables e below (T26.setTop (mkF m 98 #[.val (.int p1), .val (.int p2), .unset, .unset, .unset] [(.ref b11), (.ref b11)])) _
    refine XS.bipush X26.here hx rfl (hb hby at_98) ?_
    show Steps p.tables e below (T26.setTop (mkF m 100 #[.val (.int p1), .val (.int p2), .unset, .unset, .unset] [(.int (15 : Int32)), (.ref b11), (.ref b11)])) _
    refine XS.sipush X26.here hx rfl (hb hby at_100) ?_
    show Steps p.tables e below (T26.setTop (mkF m 103 #[.val (.int p1), .val (.int p2), .unset, .unset, .unset] [(.int (8191 : Int32)), (.int (15 : Int32)), (.ref b11), (.ref b11)])) _
    refine st27 _ ?_
    show Steps p.tables e below (T27.setTop (mkF m 104 #[.val (.int p1), .val (.int p2), .unset, .unset, .unset] [(.ref b11)])) _
    refine XS.dup X27.here hx rfl (hb hby at_104) rfl rfl ?_
    show Steps p.tables e below (T27.setTop (mkF m 105 #[.val (.int p1), .val (.int p2), .unset, .unset, .unset] [(.ref b11), (.ref b11)])) _
    refine XS.bipush X27.here hx rfl (hb hby at_105) ?_
    show Steps p.tables e below (T27.setTop (mkF m 107 #[.val (.int p1), .val (.int p2), .unset, .unset, .unset] [(.int (16 : Int32)), (.ref b11), (.ref b11)])) _
    refine XS.sipush X27.here hx rfl (hb hby at_107) ?_
    show Steps p.tables e below (T27.setTop (mkF m 110 #[.val (.int p1), .val (.int p2), .unset, .unset, .unset] [(.int (8204 : Int32)), (.int (16 : Int32)), (.ref b11), (.ref b11)])) _
    refine st28 _ ?_
    show Steps p.tables e below (T28.setTop (mkF m 111 #[.val (.int p1), .val (.int p2), .unset, .unset, .unset] [(.ref b11)])) _
    refine XS.dup X28.here hx rfl (hb hby at_111) rfl rfl ?_
    show Steps p.tables e below (T28.setTop (mkF m 112 #[.val (.int p1), .val (.int p2), .unset, .unset, .unset] [(.ref b11), (.ref b11)])) _
    refine XS.bipush X28.here hx rfl (hb hby at_112) ?_
    show Steps p.tables e below (T28.setTop (mkF m 114 #[.val (.int p1), .val (.int p2), .unset, .unset, .unset] [(.int (17 : Int32)), (.ref b11), (.ref b11)])) _
    refine XS.sipush X28.here hx rfl (hb hby at_114) ?_
    show Steps p.tables e below (T28.setTop (mkF m 117 #[.val (.int p1), .val (.int p2), .unset, .unset, .unset] [(.int (8205 : Int32)), (.int (17 : Int32)), (.ref b11), (.ref b11)])) _
    refine st29 _ ?_
    show Steps p.tables e below (T29.setTop (mkF m 118 #[.val (.int p1), .val (.int p2), .unset, .unset, .unset] [(.ref b11)])) _
    refine XS.dup X29.here hx rfl (hb hby at_118) rfl rfl ?_
    show Steps p.tables e below (T29.setTop (mkF m 119 #[.val (.int p1), .val (.int p2), .unset, .unset, .unset] [(.ref b11), (.ref b11)])) _
    refine XS.bipush X29.here hx rfl (hb hby at_119) ?_
    show Steps p.tables e below (T29.setTop (mkF m 121 #[.val (.int p1), .val (.int p2), .unset, .unset, .unset] [(.int (18 : Int32)), (.ref b11), (.ref b11)])) _
    refine XS.sipush X29.here hx rfl (hb hby at_121) ?_
    show Steps p.tables e below (T29.setTop (mkF m 124 #[.val (.int p1), .val (.int p2), .unset, .unset, .unset] [(.int (8304 : Int32)), (.int (18 : Int32)), (.ref b11), (.ref b11)])) _
    refine st30 _ ?_
    show Steps p.tables e below (T30.setTop (mkF m 125 #[.val (.int p1), .val (.int p2), .unset, .unset, .unset] [(.ref b11)])) _
    refine XS.dup X30.here hx rfl (hb hby at_125) rfl rfl ?_
    show Steps p.tables e below (T30.setTop (mkF m 126 #[.val (.int p1), .val (.int p2), .unset, .unset, .unset] [(.ref b11), (.ref b11)])) _
    refine XS.bipush X30.here hx rfl (hb hby at_126) ?_
    show Steps p.tables e below (T30.setTop (mkF m 128 #[.val (.int p1), .val (.int p2), .unset, .unset, .unset] [(.int (19 : Int32)), (.ref b11), (.ref b11)])) _
    refine XS.sipush X30.here hx rfl (hb hby at_128) ?_
    show Steps p.tables e below (T30.setTop (mkF m 131 #[.val (.int p1), .val (.int p2), .unset, .unset, .unset] [(.int (8591 : Int32)), (.int (19 : Int32)), (.ref b11), (.ref b11)])) _
    refine st31 _ ?_
    show Steps p.tables e below (T31.setTop (mkF m 132 #[.val (.int p1), .val (.int p2), .unset, .unset, .unset] [(.ref b11)])) _
    refine XS.dup X31.here hx rfl (hb hby at_132) rfl rfl ?_
    show Steps p.tables e below (T31.setTop (mkF m 133 #[.val (.int p1), .val (.int p2), .unset, .unset, .unset] [(.ref b11), (.ref b11)])) _
    refine XS.bipush X31.here hx rfl (hb hby at_133) ?_
    show Steps p.tables e below (T31.setTop (mkF m 135 #[.val (.int p1), .val (.int p2), .unset, .unset, .unset] [(.int (20 : Int32)), (.ref b11), (.ref b11)])) _
    refine XS.sipush X31.here hx rfl (hb hby at_135) ?_
    show Steps p.tables e below (T31.setTop (mkF m 138 #[.val (.int p1), .val (.int p2), .unset, .unset, .unset] [(.int (11264 : Int32)), (.int (20 : Int32)), (.ref b11), (.ref b11)])) _
    refine st32 _ ?_
    show Steps p.tables e below (T32.setTop (mkF m 139 #[.val (.int p1), .val (.int p2), .unset, .unset, .unset] [(.ref b11)])) _
    refine XS.dup X32.here hx rfl (hb hby at_139) rfl rfl ?_
    show Steps p.tables e below (T32.setTop (mkF m 140 #[.val (.int p1), .val (.int p2), .unset, .unset, .unset] [(.ref b11), (.ref b11)])) _
    refine XS.bipush X32.here hx rfl (hb hby at_140) ?_
    show Steps p.tables e below (T32.setTop (mkF m 142 #[.val (.int p1), .val (.int p2), .unset, .unset, .unset] [(.int (21 : Int32)), (.ref b11), (.ref b11)])) _
    refine XS.sipush X32.here hx rfl (hb hby at_142) ?_
    show Steps p.tables e below (T32.setTop (mkF m 145 #[.val (.int p1), .val (.int p2), .unset, .unset, .unset] [(.int (12271 : Int32)), (.int (21 : Int32)), (.ref b11), (.ref b11)])) _
    refine st33 _ ?_
    show Steps p.tables e below (T33.setTop (mkF m 146 #[.val (.int p1), .val (.int p2), .unset, .unset, .unset] [(.ref b11)])) _
    refine XS.dup X33.here hx rfl (hb hby at_146) rfl rfl ?_
    show Steps p.tables e below (T33.setTop (mkF m 147 #[.val (.int p1), .val (.int p2), .unset, .unset, .unset] [(.ref b11), (.ref b11)])) _
    refine XS.bipush X33.here hx rfl (hb hby at_147) ?_
    show Steps p.tables e below (T33.setTop (mkF m 149 #[.val (.int p1), .val (.int p2), .unset, .unset, .unset] [(.int (22 : Int32)), (.ref b11), (.ref b11)])) _
    refine XS.sipush X33.here hx rfl (hb hby at_149) ?_
    show Steps p.tables e below (T33.setTop (mkF m 152 #[.val (.int p1), .val (.int p2), .unset, .unset, .unset] [(.int (12289 : Int32)), (.int (22 : Int32)), (.ref b11), (.ref b11)])) _
    refine st34 _ ?_
    show Steps p.tables e below (T34.setTop (mkF m 153 #[.val (.int p1), .val (.int p2), .unset, .unset, .unset] [(.ref b11)])) _
    refine XS.dup X34.here hx rfl (hb hby at_153) rfl rfl ?_
    show Steps p.tables e below (T34.setTop (mkF m 154 #[.val (.int p1), .val (.int p2), .unset, .unset, .unset] [(.ref b11), (.ref b11)])) _
    refine XS.bipush X34.here hx rfl (hb hby at_154) ?_
    show Steps p.tables e below (T34.setTop (mkF m 156 #[.val (.int p1), .val (.int p2), .unset, .unset, .unset] [(.int (23 : Int32)), (.ref b11), (.ref b11)])) _
    refine X34.ldcInt hx hown (mvT hZ (hw _ (List.mem_of_getElem? (i := 1) rfl))) (g := (mkF m 156 #[.val (.int p1), .val (.int p2), .unset, .unset, .unset] [(.int (23 : Int32)), (.ref b11), (.ref b11)])) rfl (hb hby at_156) _ ?_
    show Steps p.tables e below (T34.setTop (mkF m 158 #[.val (.int p1), .val (.int p2), .unset, .unset, .unset] [(.int (55295 : Int32)), (.int (23 : Int32)), (.ref b11), (.ref b11)])) _
    refine st35 _ ?_
    show Steps p.tables e below (T35.setTop (mkF m 159 #[.val (.int p1), .val (.int p2), .unset, .unset, .unset] [(.ref b11)])) _
    refine XS.dup X35.here hx rfl (hb hby at_159) rfl rfl ?_
    show Steps p.tables e below (T35.setTop (mkF m 160 #[.val (.int p1), .val (.int p2), .unset, .unset, .unset] [(.ref b11), (.ref b11)])) _
    refine XS.bipush X35.here hx rfl (hb hby at_160) ?_
    show Steps p.tables e below (T35.setTop (mkF m 162 #[.val (.int p1), .val (.int p2), .unset, .unset, .unset] [(.int (24 : Int32)), (.ref b11), (.ref b11)])) _
    refine X35.ldcInt hx hown (mvT hZ (hw _ (List.mem_of_getElem? (i := 2) rfl))) (g := (mkF m 162 #[.val (.int p1), .val (.int p2), .unset, .unset, .unset] [(.int (24 : Int32)), (.ref b11), (.ref b11)])) rfl (hb hby at_162) _ ?_
    show Steps p.tables e below (T35.setTop (mkF m 164 #[.val (.int p1), .val (.int p2), .unset, .unset, .unset] [(.int (63744 : Int32)), (.int (24 : Int32)), (.ref b11), (.ref b11)])) _
    refine st36 _ ?_
    show Steps p.tables e below (T36.setTop (mkF m 165 #[.val (.int p1), .val (.int p2), .unset, .unset, .unset] [(.ref b11)])) _
    refine XS.dup X36.here hx rfl (hb hby at_165) rfl rfl ?_
    show Steps p.tables e below (T36.setTop (mkF m 166 #[.val (.int p1), .val (.int p2), .unset, .unset, .unset] [(.ref b11), (.ref b11)])) _
    refine XS.bipush X36.here hx rfl (hb hby at_166) ?_
    show Steps p.tables e below (T36.setTop (mkF m 168 #[.val (.int p1), .val (.int p2), .unset, .unset, .unset] [(.int (25 : Int32)), (.ref b11), (.ref b11)])) _
    refine X36.ldcInt hx hown (mvT hZ (hw _ (List.mem_of_getElem? (i := 3) rfl))) (g := (mkF m 168 #[.val (.int p1), .val (.int p2), .unset, .unset, .unset] [(.int (25 : Int32)), (.ref b11), (.ref b11)])) rfl (hb hby at_168) _ ?_
    show Steps p.tables e below (T36.setTop (mkF m 170 #[.val (.int p1), .val (.int p2), .unset, .unset, .unset] [(.int (64975 : Int32)), (.int (25 : Int32)), (.ref b11), (.ref b11)])) _
    refine st37 _ ?_
    show Steps p.tables e below (T37.setTop (mkF m 171 #[.val (.int p1), .val (.int p2), .unset, .unset, .unset] [(.ref b11)])) _
    refine XS.dup X37.here hx rfl (hb hby at_171) rfl rfl ?_
    show Steps p.tables e below (T37.setTop (mkF m 172 #[.val (.int p1), .val (.int p2), .unset, .unset, .unset] [(.ref b11), (.ref b11)])) _
    refine XS.bipush X37.here hx rfl (hb hby at_172) ?_
    show Steps p.tables e below (T37.setTop (mkF m 174 #[.val (.int p1), .val (.int p2), .unset, .unset, .unset] [(.int (26 : Int32)), (.ref b11), (.ref b11)])) _
    refine X37.ldcInt hx hown (mvT hZ (hw _ (List.mem_of_getElem? (i := 4) rfl))) (g := (mkF m 174 #[.val (.int p1), .val (.int p2), .unset, .unset, .unset] [(.int (26 : Int32)), (.ref b11), (.ref b11)])) rfl (hb hby at_174) _ ?_
    show Steps p.tables e below (T37.setTop (mkF m 176 #[.val (.int p1), .val (.int p2), .unset, .unset, .unset] [(.int (65008 : Int32)), (.int (26 : Int32)), (.ref b11), (.ref b11)])) _
    refine st38 _ ?_
    show Steps p.tables e below (T38.setTop (mkF m 177 #[.val (.int p1), .val (.int p2), .unset, .unset, .unset] [(.ref b11)])) _
    refine XS.dup X38.here hx rfl (hb hby at_177) rfl rfl ?_
    show Steps p.tables e below (T38.setTop (mkF m 178 #[.val (.int p1), .val (.int p2), .unset, .unset, .unset] [(.ref b11), (.ref b11)])) _
    refine XS.bipush X38.here hx rfl (hb hby at_178) ?_
    show Steps p.tables e below (T38.setTop (mkF m 180 #[.val (.int p1), .val (.int p2), .unset, .unset, .unset] [(.int (27 : Int32)), (.ref b11), (.ref b11)])) _
    refine X38.ldcInt hx hown (mvT hZ (hw _ (List.mem_of_getElem? (i := 5) rfl))) (g := (mkF m 180 #[.val (.int p1), .val (.int p2), .unset, .unset, .unset] [(.int (27 : Int32)), (.ref b11), (.ref b11)])) rfl (hb hby at_180) _ ?_
    show Steps p.tables e below (T38.setTop (mkF m 182 #[.val (.int p1), .val (.int p2), .unset, .unset, .unset] [(.int (65533 : Int32)), (.int (27 : Int32)), (.ref b11), (.ref b11)])) _
    refine st39 _ ?_
    show Steps p.tables e below (T39.setTop (mkF m 183 #[.val (.int p1), .val (.int p2), .unset, .unset, .unset] [(.ref b11)])) _
    refine XS.dup X39.here hx rfl (hb hby at_183) rfl rfl ?_
    show Steps p.tables e below (T39.setTop (mkF m 184 #[.val (.int p1), .val (.int p2), .unset, .unset, .unset] [(.ref b11), (.ref b11)])) _
    refine XS.bipush X39.here hx rfl (hb hby at_184) ?_
    show Steps p.tables e below (T39.setTop (mkF m 186 #[.val (.int p1), .val (.int p2), .unset, .unset, .unset] [(.int (28 : Int32)), (.ref b11), (.ref b11)])) _
    refine X39.ldcInt hx hown (mvT hZ (hw _ (List.mem_of_getElem? (i := 6) rfl))) (g := (mkF m 186 #[.val (.int p1), .val (.int p2), .unset, .unset, .unset] [(.int (28 : Int32)), (.ref b11), (.ref b11)])) rfl (hb hby at_186) _ ?_
    show Steps p.tables e below (T39.setTop (mkF m 188 #[.val (.int p1), .val (.int p2), .unset, .unset, .unset] [(.int (65536 : Int32)), (.int (28 : Int32)), (.ref b11), (.ref b11)])) _
    refine st40 _ ?_
    show Steps p.tables e below (T40.setTop (mkF m 189 #[.val (.int p1), .val (.int p2), .unset, .unset, .unset] [(.ref b11)])) _
    refine XS.dup X40.here hx rfl (hb hby at_189) rfl rfl ?_
    show Steps p.tables e below (T40.setTop (mkF m 190 #[.val (.int p1), .val (.int p2), .unset, .unset, .unset] [(.ref b11), (.ref b11)])) _
    refine XS.bipush X40.here hx rfl (hb hby at_190) ?_
    show Steps p.tables e below (T40.setTop (mkF m 192 #[.val (.int p1), .val (.int p2), .unset, .unset, .unset] [(.int (29 : Int32)), (.ref b11), (.ref b11)])) _
    refine X40.ldcInt hx hown (mvT hZ (hw _ (List.mem_of_getElem? (i := 7) rfl))) (g := (mkF m 192 #[.val (.int p1), .val (.int p2), .unset, .unset, .unset] [(.int (29 : Int32)), (.ref b11), (.ref b11)])) rfl (hb hby at_192) _ ?_
    show Steps p.tables e below (T40.setTop (mkF m 194 #[.val (.int p1), .val (.int p2), .unset, .unset, .unset] [(.int (983039 : Int32)), (.int (29 : Int32)), (.ref b11), (.ref b11)])) _
    refine st41 _ ?_
    show Steps p.tables e below (T41.setTop (mkF m 195 #[.val (.int p1), .val (.int p2), .unset, .unset, .unset] [(.ref b11)])) _
    refine XS.astoreN X41.here hx rfl (hb hby at_195) rfl rfl (l' := #[.val (.int p1), .val (.int p2), .val (.ref b11), .unset, .unset]) rfl ?_
    show Steps p.tables e below (T41.setTop (mkF m 196 #[.val (.int p1), .val (.int p2), .val (.ref b11), .unset, .unset] [])) _
    refine XS.iloadN X41.here hx rfl (hb hby at_196) rfl ?_
    show Steps p.tables e below (T41.setTop (mkF m 197 #[.val (.int p1), .val (.int p2), .val (.ref b11), .unset, .unset] [(.int p2)])) _
    refine XS.iconst X41.here hx rfl (hb hby at_197) ?_
    show Steps p.tables e below (T41.setTop (mkF m 198 #[.val (.int p1), .val (.int p2), .val (.ref b11), .unset, .unset] [(.int (1 : Int32)), (.int p2)])) _
    refine XS.iand X41.here hx rfl (hb hby at_198) rfl ?_
    exact kt
  have AB : AL Z h41 b11 k11 .int bnds := A41
  by_cases hc199 : (p2 &&& (1 : Int32)) = (0 : Int32)
  · refine Run.step (T1 := T41) (g1 := (mkF m 226 #[.val (.int p1), .val (.int p2), .val (.ref b11), .val (.int p1), .unset] [])) (fun target kt => ?_) ?_
    · show Steps p.tables e below (T41.setTop (mkF m 199 #[.val (.int p1), .val (.int p2), .val (.ref b11), .unset, .unset] [(.int (p2 &&& (1 : Int32)))])) _
      refine XS.ifNo X41.here hx rfl (hb hby at_199) rfl ((if0 _ _).trans (teq hc199).2) ?_
      show Steps p.tables e below (T41.setTop (mkF m 202 #[.val (.int p1), .val (.int p2), .val (.ref b11), .unset, .unset] [])) _
      refine XS.iloadN X41.here hx rfl (hb hby at_202) rfl ?_
      show Steps p.tables e below (T41.setTop (mkF m 203 #[.val (.int p1), .val (.int p2), .val (.ref b11), .unset, .unset] [(.int p1)])) _
      refine XS.istoreN X41.here hx rfl (hb hby at_203) rfl (l' := #[.val (.int p1), .val (.int p2), .val (.ref b11), .val (.int p1), .unset]) rfl ?_
      show Steps p.tables e below (T41.setTop (mkF m 204 #[.val (.int p1), .val (.int p2), .val (.ref b11), .val (.int p1), .unset] [])) _
      refine XS.goto X41.here hx rfl (pc0 := 204) (pc' := 226) rfl (hb hby at_204) (by decide) (by decide) ?_
      exact kt
    rcases own_law p1 with ⟨q1, q2⟩ | ⟨q1, q2⟩
    · obtain ⟨_, _, ⟨T42, L42, k42, n42⟩, -, X42, ⟨Lc42, hQ42, l42, y42, z42⟩, st42⟩ := Jvm.LawKit.callS X41 hx (y := (⟨"com/example/stylemill/stylemill/xdm/XmlNamesIsNameStartCharPinLaw", "excluded", "(I)Z"⟩ : MethodName)) hown (mvT hZ (hw _ (List.mem_of_getElem? (i := 8) rfl))) (mvT hZ (hw _ (List.mem_of_getElem? (i := 9) rfl))) (mvT hZ (hw _ (List.mem_of_getElem? (i := 10) rfl))) (mvT hZ (hw _ (List.mem_of_getElem? (i := 11) rfl))) (by decide) (backOf (W := 0) (rm1 l Z a0 hw [] p1 (0 : Int32) h41 n0 q1.symm) hZ (hw _ (List.mem_of_getElem? (i := 11) rfl)) (hw _ (List.mem_of_getElem? (i := 10) rfl)) (by decide) (by decide)) (g := (mkF m 227 #[.val (.int p1), .val (.int p2), .val (.ref b11), .val (.int p1), .unset] [(.int p1)])) rfl (by rw [hml]; rfl) (argsL := [(.int p1)]) (rest := []) (lenOf pd__I_Z rfl) rfl (by show 2 * 0 + _ ≤ _; exact Nat.le_of_eq rfl) (hb hby at_227) (fun _ _ => ⟨rfl, e41, (by decide : 1 + 0 ≤ _), (by decide : 30 + 0 ≤ _)⟩)
      dsimp only [Pt.U, Pt.locs, Pt.cells, Pt.slots] at X42 l42 y42 z42 st42 hQ42
      subst l42 y42 z42
      obtain ⟨rfl, N42q, e42⟩ := hQ42
      have N42 := Fr.app N41 N42q
      obtain ⟨_, _, ⟨T43, L43, k43, n43⟩, -, X43, ⟨Lc43, hQ43, l43, y43, z43⟩, st43⟩ := Jvm.LawKit.callS X42 hx (y := (⟨"com/example/stylemill/stylemill/xdm/XmlNames", "isNameStartChar", "(I)Z"⟩ : MethodName)) hown (mvT hZ (hw _ (List.mem_of_getElem? (i := 12) rfl))) (mvT hZ (hw _ (List.mem_of_getElem? (i := 13) rfl))) (mvT hZ (hw _ (List.mem_of_getElem? (i := 14) rfl))) (mvT hZ (hw _ (List.mem_of_getElem? (i := 15) rfl))) (by decide) (backOf (W := 0) (rm2 l Z a0 hw [] p1 (1 : Int32) h41 n0 q2.symm) hZ (hw _ (List.mem_of_getElem? (i := 15) rfl)) (hw _ (List.mem_of_getElem? (i := 14) rfl)) (by decide) (by decide)) (g := (mkF m 241 #[.val (.int p1), .val (.int p2), .val (.ref b11), .val (.int p1), .val (.int (1 : Int32))] [(.int p1)])) rfl (by rw [hml]; rfl) (argsL := [(.int p1)]) (rest := []) (lenOf pd__I_Z rfl) rfl (by show 2 * 0 + _ ≤ _; exact Nat.le_of_eq rfl) (hb hby at_241) (fun _ _ => ⟨rfl, e42, (by decide : 1 + 0 ≤ _), (by decide : 30 + 0 ≤ _)⟩)
      dsimp only [Pt.U, Pt.locs, Pt.cells, Pt.slots] at X43 l43 y43 z43 st43 hQ43
      subst l43 y43 z43
      obtain ⟨rfl, N43q, e43⟩ := hQ43
      have N43 := Fr.app N42 N43q
      refine Run.step (T1 := T43) (g1 := (mkF m 254 #[.val (.int p1), .val (.int p2), .val (.ref b11), .val (.int p1), .val (.int (1 : Int32))] [(.int (1 : Int32))])) (fun target kt => ?_) ?_
      · show Steps p.tables e below (T41.setTop (mkF m 226 #[.val (.int p1), .val (.int p2), .val (.ref b11), .val (.int p1), .unset] [])) _
        refine XS.iloadN X41.here hx rfl (hb hby at_226) rfl ?_
        show Steps p.tables e below (T41.setTop (mkF m 227 #[.val (.int p1), .val (.int p2), .val (.ref b11), .val (.int p1), .unset] [(.int p1)])) _
        refine st42 _ ?_
        show Steps p.tables e below (T42.setTop (mkF m 230 #[.val (.int p1), .val (.int p2), .val (.ref b11), .val (.int p1), .unset] [(.int (0 : Int32))])) _
        refine XS.ifNo X42.here hx rfl (hb hby at_230) rfl ((if0 _ _).trans (teq (by decide : (0 : Int32) = (0 : Int32))).2) ?_
        show Steps p.tables e below (T42.setTop (mkF m 233 #[.val (.int p1), .val (.int p2), .val (.ref b11), .val (.int p1), .unset] [])) _
        refine XS.iconst X42.here hx rfl (hb hby at_233) ?_
        show Steps p.tables e below (T42.setTop (mkF m 234 #[.val (.int p1), .val (.int p2), .val (.ref b11), .val (.int p1), .unset] [(.int (1 : Int32))])) _
        refine XS.goto X42.here hx rfl (pc0 := 234) (pc' := 238) rfl (hb hby at_234) (by decide) (by decide) ?_
        show Steps p.tables e below (T42.setTop (mkF m 238 #[.val (.int p1), .val (.int p2), .val (.ref b11), .val (.int p1), .unset] [(.int (1 : Int32))])) _
        refine XS.istore X42.here hx rfl (hb hby at_238) rfl (l' := #[.val (.int p1), .val (.int p2), .val (.ref b11), .val (.int p1), .val (.int (1 : Int32))]) rfl ?_
        show Steps p.tables e below (T42.setTop (mkF m 240 #[.val (.int p1), .val (.int p2), .val (.ref b11), .val (.int p1), .val (.int (1 : Int32))] [])) _
        refine XS.iloadN X42.here hx rfl (hb hby at_240) rfl ?_
        show Steps p.tables e below (T42.setTop (mkF m 241 #[.val (.int p1), .val (.int p2), .val (.ref b11), .val (.int p1), .val (.int (1 : Int32))] [(.int p1)])) _
        refine st43 _ ?_
        show Steps p.tables e below (T43.setTop (mkF m 244 #[.val (.int p1), .val (.int p2), .val (.ref b11), .val (.int p1), .val (.int (1 : Int32))] [(.int (1 : Int32))])) _
        refine XS.iload X43.here hx rfl (hb hby at_244) rfl ?_
        show Steps p.tables e below (T43.setTop (mkF m 246 #[.val (.int p1), .val (.int p2), .val (.ref b11), .val (.int p1), .val (.int (1 : Int32))] [(.int (1 : Int32)), (.int (1 : Int32))])) _
        refine XS.icmpNo X43.here hx rfl (hb hby at_246) rfl (teq (by decide : (1 : Int32) = (1 : Int32))).2 ?_
        show Steps p.tables e below (T43.setTop (mkF m 249 #[.val (.int p1), .val (.int p2), .val (.ref b11), .val (.int p1), .val (.int (1 : Int32))] [])) _
        refine XS.iconst X43.here hx rfl (hb hby at_249) ?_
        show Steps p.tables e below (T43.setTop (mkF m 250 #[.val (.int p1), .val (.int p2), .val (.ref b11), .val (.int p1), .val (.int (1 : Int32))] [(.int (1 : Int32))])) _
        refine XS.goto X43.here hx rfl (pc0 := 250) (pc' := 254) rfl (hb hby at_250) (by decide) (by decide) ?_
        exact kt
      exact Run.retZ X43 hx (t := .boolean) hret (by simp) (hb hby at_254) ⟨by decide, by decide, rfl, N43⟩
    · obtain ⟨_, _, ⟨T44, L44, k44, n44⟩, -, X44, ⟨Lc44, hQ44, l44, y44, z44⟩, st44⟩ := Jvm.LawKit.callS X41 hx (y := (⟨"com/example/stylemill/stylemill/xdm/XmlNamesIsNameStartCharPinLaw", "excluded", "(I)Z"⟩ : MethodName)) hown (mvT hZ (hw _ (List.mem_of_getElem? (i := 8) rfl))) (mvT hZ (hw _ (List.mem_of_getElem? (i := 9) rfl))) (mvT hZ (hw _ (List.mem_of_getElem? (i := 10) rfl))) (mvT hZ (hw _ (List.mem_of_getElem? (i := 11) rfl))) (by decide) (backOf (W := 0) (rm1 l Z a0 hw [] p1 (1 : Int32) h41 n0 q1.symm) hZ (hw _ (List.mem_of_getElem? (i := 11) rfl)) (hw _ (List.mem_of_getElem? (i := 10) rfl)) (by decide) (by decide)) (g := (mkF m 227 #[.val (.int p1), .val (.int p2), .val (.ref b11), .val (.int p1), .unset] [(.int p1)])) rfl (by rw [hml]; rfl) (argsL := [(.int p1)]) (rest := []) (lenOf pd__I_Z rfl) rfl (by show 2 * 0 + _ ≤ _; exact Nat.le_of_eq rfl) (hb hby at_227) (fun _ _ => ⟨rfl, e41, (by decide : 1 + 0 ≤ _), (by decide : 30 + 0 ≤ _)⟩)
      dsimp only [Pt.U, Pt.locs, Pt.cells, Pt.slots] at X44 l44 y44 z44 st44 hQ44
      subst l44 y44 z44
      obtain ⟨rfl, N44q, e44⟩ := hQ44
      have N44 := Fr.app N41 N44q
      obtain ⟨_, _, ⟨T45, L45, k45, n45⟩, -, X45, ⟨Lc45, hQ45, l45, y45, z45⟩, st45⟩ := Jvm.LawKit.callS X44 hx (y := (⟨"com/example/stylemill/stylemill/xdm/XmlNames", "isNameStartChar", "(I)Z"⟩ : MethodName)) hown (mvT hZ (hw _ (List.mem_of_getElem? (i := 12) rfl))) (mvT hZ (hw _ (List.mem_of_getElem? (i := 13) rfl))) (mvT hZ (hw _ (List.mem_of_getElem? (i := 14) rfl))) (mvT hZ (hw _ (List.mem_of_getElem? (i := 15) rfl))) (by decide) (backOf (W := 0) (rm2 l Z a0 hw [] p1 (0 : Int32) h41 n0 q2.symm) hZ (hw _ (List.mem_of_getElem? (i := 15) rfl)) (hw _ (List.mem_of_getElem? (i := 14) rfl)) (by decide) (by decide)) (g := (mkF m 241 #[.val (.int p1), .val (.int p2), .val (.ref b11), .val (.int p1), .val (.int (0 : Int32))] [(.int p1)])) rfl (by rw [hml]; rfl) (argsL := [(.int p1)]) (rest := []) (lenOf pd__I_Z rfl) rfl (by show 2 * 0 + _ ≤ _; exact Nat.le_of_eq rfl) (hb hby at_241) (fun _ _ => ⟨rfl, e44, (by decide : 1 + 0 ≤ _), (by decide : 30 + 0 ≤ _)⟩)
      dsimp only [Pt.U, Pt.locs, Pt.cells, Pt.slots] at X45 l45 y45 z45 st45 hQ45
      subst l45 y45 z45
      obtain ⟨rfl, N45q, e45⟩ := hQ45
      have N45 := Fr.app N44 N45q
      refine Run.step (T1 := T45) (g1 := (mkF m 254 #[.val (.int p1), .val (.int p2), .val (.ref b11), .val (.int p1), .val (.int (0 : Int32))] [(.int (1 : Int32))])) (fun target kt => ?_) ?_
      · show Steps p.tables e below (T41.setTop (mkF m 226 #[.val (.int p1), .val (.int p2), .val (.ref b11), .val (.int p1), .unset] [])) _
        refine XS.iloadN X41.here hx rfl (hb hby at_226) rfl ?_
        show Steps p.tables e below (T41.setTop (mkF m 227 #[.val (.int p1), .val (.int p2), .val (.ref b11), .val (.int p1), .unset] [(.int p1)])) _
        refine st44 _ ?_
        show Steps p.tables e below (T44.setTop (mkF m 230 #[.val (.int p1), .val (.int p2), .val (.ref b11), .val (.int p1), .unset] [(.int (1 : Int32))])) _
        refine XS.ifYes X44.here hx rfl (pc0 := 230) (pc' := 237) rfl (hb hby at_230) rfl ((if0 _ _).trans (feq (by decide : ¬ ((1 : Int32) = (0 : Int32)))).2) (by decide) (by decide) ?_
        show Steps p.tables e below (T44.setTop (mkF m 237 #[.val (.int p1), .val (.int p2), .val (.ref b11), .val (.int p1), .unset] [])) _
        refine XS.iconst X44.here hx rfl (hb hby at_237) ?_
        show Steps p.tables e below (T44.setTop (mkF m 238 #[.val (.int p1), .val (.int p2), .val (.ref b11), .val (.int p1), .unset] [(.int (0 : Int32))])) _
        refine XS.istore X44.here hx rfl (hb hby at_238) rfl (l' := #[.val (.int p1), .val (.int p2), .val (.ref b11), .val (.int p1), .val (.int (0 : Int32))]) rfl ?_
        show Steps p.tables e below (T44.setTop (mkF m 240 #[.val (.int p1), .val (.int p2), .val (.ref b11), .val (.int p1), .val (.int (0 : Int32))] [])) _
        refine XS.iloadN X44.here hx rfl (hb hby at_240) rfl ?_
        show Steps p.tables e below (T44.setTop (mkF m 241 #[.val (.int p1), .val (.int p2), .val (.ref b11), .val (.int p1), .val (.int (0 : Int32))] [(.int p1)])) _
        refine st45 _ ?_
        show Steps p.tables e below (T45.setTop (mkF m 244 #[.val (.int p1), .val (.int p2), .val (.ref b11), .val (.int p1), .val (.int (0 : Int32))] [(.int (0 : Int32))])) _
        refine XS.iload X45.here hx rfl (hb hby at_244) rfl ?_
        show Steps p.tables e below (T45.setTop (mkF m 246 #[.val (.int p1), .val (.int p2), .val (.ref b11), .val (.int p1), .val (.int (0 : Int32))] [(.int (0 : Int32)), (.int (0 : Int32))])) _
        refine XS.icmpNo X45.here hx rfl (hb hby at_246) rfl (teq (by decide : (0 : Int32) = (0 : Int32))).2 ?_
        show Steps p.tables e below (T45.setTop (mkF m 249 #[.val (.int p1), .val (.int p2), .val (.ref b11), .val (.int p1), .val (.int (0 : Int32))] [])) _
        refine XS.iconst X45.here hx rfl (hb hby at_249) ?_
        show Steps p.tables e below (T45.setTop (mkF m 250 #[.val (.int p1), .val (.int p2), .val (.ref b11), .val (.int p1), .val (.int (0 : Int32))] [(.int (1 : Int32))])) _
        refine XS.goto X45.here hx rfl (pc0 := 250) (pc' := 254) rfl (hb hby at_250) (by decide) (by decide) ?_
        exact kt
      exact Run.retZ X45 hx (t := .boolean) hret (by simp) (hb hby at_254) ⟨by decide, by decide, rfl, N45⟩
  · obtain ⟨hj, hj30⟩ := own_idx p2
    obtain ⟨vb, hvb⟩ := own_bnds _ hj30
    refine Run.step (T1 := T41) (g1 := (mkF m 226 #[.val (.int p1), .val (.int p2), .val (.ref b11), .val (.int (vb + ((p1 &&& (3 : Int32)) - (1 : Int32)))), .val (.int (((p2.toUInt32 >>> ((1 : Int32) &&& 31).toUInt32).toInt32) % (30 : Int32)))] [])) (fun target kt => ?_) ?_
    · show Steps p.tables e below (T41.setTop (mkF m 199 #[.val (.int p1), .val (.int p2), .val (.ref b11), .unset, .unset] [(.int (p2 &&& (1 : Int32)))])) _
      refine XS.ifYes X41.here hx rfl (pc0 := 199) (pc' := 207) rfl (hb hby at_199) rfl ((if0 _ _).trans (feq hc199).2) (by decide) (by decide) ?_
      show Steps p.tables e below (T41.setTop (mkF m 207 #[.val (.int p1), .val (.int p2), .val (.ref b11), .unset, .unset] [])) _
      refine XS.iloadN X41.here hx rfl (hb hby at_207) rfl ?_
      show Steps p.tables e below (T41.setTop (mkF m 208 #[.val (.int p1), .val (.int p2), .val (.ref b11), .unset, .unset] [(.int p2)])) _
      refine XS.iconst X41.here hx rfl (hb hby at_208) ?_
      show Steps p.tables e below (T41.setTop (mkF m 209 #[.val (.int p1), .val (.int p2), .val (.ref b11), .unset, .unset] [(.int (1 : Int32)), (.int p2)])) _
      refine XS.iushr X41.here hx rfl (hb hby at_209) rfl ?_
      show Steps p.tables e below (T41.setTop (mkF m 210 #[.val (.int p1), .val (.int p2), .val (.ref b11), .unset, .unset] [(.int ((p2.toUInt32 >>> ((1 : Int32) &&& 31).toUInt32).toInt32))])) _
      refine XS.bipush X41.here hx rfl (hb hby at_210) ?_
      show Steps p.tables e below (T41.setTop (mkF m 212 #[.val (.int p1), .val (.int p2), .val (.ref b11), .unset, .unset] [(.int (30 : Int32)), (.int ((p2.toUInt32 >>> ((1 : Int32) &&& 31).toUInt32).toInt32))])) _
      refine iremM (g := (mkF m 212 #[.val (.int p1), .val (.int p2), .val (.ref b11), .unset, .unset] [(.int (30 : Int32)), (.int ((p2.toUInt32 >>> ((1 : Int32) &&& 31).toUInt32).toInt32))])) X41 hx rfl (hb hby at_212) rfl (by decide) ?_
      show Steps p.tables e below (T41.setTop (mkF m 213 #[.val (.int p1), .val (.int p2), .val (.ref b11), .unset, .unset] [(.int (((p2.toUInt32 >>> ((1 : Int32) &&& 31).toUInt32).toInt32) % (30 : Int32)))])) _
      refine XS.istore X41.here hx rfl (hb hby at_213) rfl (l' := #[.val (.int p1), .val (.int p2), .val (.ref b11), .unset, .val (.int (((p2.toUInt32 >>> ((1 : Int32) &&& 31).toUInt32).toInt32) % (30 : Int32)))]) rfl ?_
      show Steps p.tables e below (T41.setTop (mkF m 215 #[.val (.int p1), .val (.int p2), .val (.ref b11), .unset, .val (.int (((p2.toUInt32 >>> ((1 : Int32) &&& 31).toUInt32).toInt32) % (30 : Int32)))] [])) _
      refine XS.aloadN X41.here hx rfl (hb hby at_215) rfl rfl ?_
      show Steps p.tables e below (T41.setTop (mkF m 216 #[.val (.int p1), .val (.int p2), .val (.ref b11), .unset, .val (.int (((p2.toUInt32 >>> ((1 : Int32) &&& 31).toUInt32).toInt32) % (30 : Int32)))] [(.ref b11)])) _
      refine XS.iload X41.here hx rfl (hb hby at_216) rfl ?_
      show Steps p.tables e below (T41.setTop (mkF m 218 #[.val (.int p1), .val (.int p2), .val (.ref b11), .unset, .val (.int (((p2.toUInt32 >>> ((1 : Int32) &&& 31).toUInt32).toInt32) % (30 : Int32)))] [(.int (((p2.toUInt32 >>> ((1 : Int32) &&& 31).toUInt32).toInt32) % (30 : Int32))), (.ref b11)])) _
      refine own_ldI X41 hx hZ e41 AB (v := (.int vb)) hj hvb (g := (mkF m 218 #[.val (.int p1), .val (.int p2), .val (.ref b11), .unset, .val (.int (((p2.toUInt32 >>> ((1 : Int32) &&& 31).toUInt32).toInt32) % (30 : Int32)))] [(.int (((p2.toUInt32 >>> ((1 : Int32) &&& 31).toUInt32).toInt32) % (30 : Int32))), (.ref b11)])) rfl rfl (hb hby at_218) _ ?_
      show Steps p.tables e below (T41.setTop (mkF m 219 #[.val (.int p1), .val (.int p2), .val (.ref b11), .unset, .val (.int (((p2.toUInt32 >>> ((1 : Int32) &&& 31).toUInt32).toInt32) % (30 : Int32)))] [(.int vb)])) _
      refine XS.iloadN X41.here hx rfl (hb hby at_219) rfl ?_
      show Steps p.tables e below (T41.setTop (mkF m 220 #[.val (.int p1), .val (.int p2), .val (.ref b11), .unset, .val (.int (((p2.toUInt32 >>> ((1 : Int32) &&& 31).toUInt32).toInt32) % (30 : Int32)))] [(.int p1), (.int vb)])) _
      refine XS.iconst X41.here hx rfl (hb hby at_220) ?_
      show Steps p.tables e below (T41.setTop (mkF m 221 #[.val (.int p1), .val (.int p2), .val (.ref b11), .unset, .val (.int (((p2.toUInt32 >>> ((1 : Int32) &&& 31).toUInt32).toInt32) % (30 : Int32)))] [(.int (3 : Int32)), (.int p1), (.int vb)])) _
      refine XS.iand X41.here hx rfl (hb hby at_221) rfl ?_
      show Steps p.tables e below (T41.setTop (mkF m 222 #[.val (.int p1), .val (.int p2), .val (.ref b11), .unset, .val (.int (((p2.toUInt32 >>> ((1 : Int32) &&& 31).toUInt32).toInt32) % (30 : Int32)))] [(.int (p1 &&& (3 : Int32))), (.int vb)])) _
      refine XS.iconst X41.here hx rfl (hb hby at_222) ?_
      show Steps p.tables e below (T41.setTop (mkF m 223 #[.val (.int p1), .val (.int p2), .val (.ref b11), .unset, .val (.int (((p2.toUInt32 >>> ((1 : Int32) &&& 31).toUInt32).toInt32) % (30 : Int32)))] [(.int (1 : Int32)), (.int (p1 &&& (3 : Int32))), (.int vb)])) _
      refine XS.isub X41.here hx rfl (hb hby at_223) rfl ?_
      show Steps p.tables e below (T41.setTop (mkF m 224 #[.val (.int p1), .val (.int p2), .val (.ref b11), .unset, .val (.int (((p2.toUInt32 >>> ((1 : Int32) &&& 31).toUInt32).toInt32) % (30 : Int32)))] [(.int ((p1 &&& (3 : Int32)) - (1 : Int32))), (.int vb)])) _
      refine XS.iadd X41.here hx rfl (hb hby at_224) rfl ?_
      show Steps p.tables e below (T41.setTop (mkF m 225 #[.val (.int p1), .val (.int p2), .val (.ref b11), .unset, .val (.int (((p2.toUInt32 >>> ((1 : Int32) &&& 31).toUInt32).toInt32) % (30 : Int32)))] [(.int (vb + ((p1 &&& (3 : Int32)) - (1 : Int32))))])) _
      refine XS.istoreN X41.here hx rfl (hb hby at_225) rfl (l' := #[.val (.int p1), .val (.int p2), .val (.ref b11), .val (.int (vb + ((p1 &&& (3 : Int32)) - (1 : Int32)))), .val (.int (((p2.toUInt32 >>> ((1 : Int32) &&& 31).toUInt32).toInt32) % (30 : Int32)))]) rfl ?_
      exact kt
    rcases own_law (vb + ((p1 &&& (3 : Int32)) - (1 : Int32))) with ⟨q1, q2⟩ | ⟨q1, q2⟩
    · obtain ⟨_, _, ⟨T46, L46, k46, n46⟩, -, X46, ⟨Lc46, hQ46, l46, y46, z46⟩, st46⟩ := Jvm.LawKit.callS X41 hx (y := (⟨"com/example/stylemill/stylemill/xdm/XmlNamesIsNameStartCharPinLaw", "excluded", "(I)Z"⟩ : MethodName)) hown (mvT hZ (hw _ (List.mem_of_getElem? (i := 8) rfl))) (mvT hZ (hw _ (List.mem_of_getElem? (i := 9) rfl))) (mvT hZ (hw _ (List.mem_of_getElem? (i := 10) rfl))) (mvT hZ (hw _ (List.mem_of_getElem? (i := 11) rfl))) (by decide) (backOf (W := 0) (rm1 l Z a0 hw [] (vb + ((p1 &&& (3 : Int32)) - (1 : Int32))) (0 : Int32) h41 n0 q1.symm) hZ (hw _ (List.mem_of_getElem? (i := 11) rfl)) (hw _ (List.mem_of_getElem? (i := 10) rfl)) (by decide) (by decide)) (g := (mkF m 227 #[.val (.int p1), .val (.int p2), .val (.ref b11), .val (.int (vb + ((p1 &&& (3 : Int32)) - (1 : Int32)))), .val (.int (((p2.toUInt32 >>> ((1 : Int32) &&& 31).toUInt32).toInt32) % (30 : Int32)))] [(.int (vb + ((p1 &&& (3 : Int32)) - (1 : Int32))))])) rfl (by rw [hml]; rfl) (argsL := [(.int (vb + ((p1 &&& (3 : Int32)) - (1 : Int32))))]) (rest := []) (lenOf pd__I_Z rfl) rfl (by show 2 * 0 + _ ≤ _; exact Nat.le_of_eq rfl) (hb hby at_227) (fun _ _ => ⟨rfl, e41, (by decide : 1 + 0 ≤ _), (by decide : 30 + 0 ≤ _)⟩)
      dsimp only [Pt.U, Pt.locs, Pt.cells, Pt.slots] at X46 l46 y46 z46 st46 hQ46
      subst l46 y46 z46
      obtain ⟨rfl, N46q, e46⟩ := hQ46
      have N46 := Fr.app N41 N46q
      obtain ⟨_, _, ⟨T47, L47, k47, n47⟩, -, X47, ⟨Lc47, hQ47, l47, y47, z47⟩, st47⟩ := Jvm.LawKit.callS X46 hx (y := (⟨"com/example/stylemill/stylemill/xdm/XmlNames", "isNameStartChar", "(I)Z"⟩ : MethodName)) hown (mvT hZ (hw _ (List.mem_of_getElem? (i := 12) rfl))) (mvT hZ (hw _ (List.mem_of_getElem? (i := 13) rfl))) (mvT hZ (hw _ (List.mem_of_getElem? (i := 14) rfl))) (mvT hZ (hw _ (List.mem_of_getElem? (i := 15) rfl))) (by decide) (backOf (W := 0) (rm2 l Z a0 hw [] (vb + ((p1 &&& (3 : Int32)) - (1 : Int32))) (1 : Int32) h41 n0 q2.symm) hZ (hw _ (List.mem_of_getElem? (i := 15) rfl)) (hw _ (List.mem_of_getElem? (i := 14) rfl)) (by decide) (by decide)) (g := (mkF m 241 #[.val (.int p1), .val (.int p2), .val (.ref b11), .val (.int (vb + ((p1 &&& (3 : Int32)) - (1 : Int32)))), .val (.int (1 : Int32))] [(.int (vb + ((p1 &&& (3 : Int32)) - (1 : Int32))))])) rfl (by rw [hml]; rfl) (argsL := [(.int (vb + ((p1 &&& (3 : Int32)) - (1 : Int32))))]) (rest := []) (lenOf pd__I_Z rfl) rfl (by show 2 * 0 + _ ≤ _; exact Nat.le_of_eq rfl) (hb hby at_241) (fun _ _ => ⟨rfl, e46, (by decide : 1 + 0 ≤ _), (by decide : 30 + 0 ≤ _)⟩)
      dsimp only [Pt.U, Pt.locs, Pt.cells, Pt.slots] at X47 l47 y47 z47 st47 hQ47
      subst l47 y47 z47
      obtain ⟨rfl, N47q, e47⟩ := hQ47
      have N47 := Fr.app N46 N47q
      refine Run.step (T1 := T47) (g1 := (mkF m 254 #[.val (.int p1), .val (.int p2), .val (.ref b11), .val (.int (vb + ((p1 &&& (3 : Int32)) - (1 : Int32)))), .val (.int (1 : Int32))] [(.int (1 : Int32))])) (fun target kt => ?_) ?_
      · show Steps p.tables e below (T41.setTop (mkF m 226 #[.val (.int p1), .val (.int p2), .val (.ref b11), .val (.int (vb + ((p1 &&& (3 : Int32)) - (1 : Int32)))), .val (.int (((p2.toUInt32 >>> ((1 : Int32) &&& 31).toUInt32).toInt32) % (30 : Int32)))] [])) _
        refine XS.iloadN X41.here hx rfl (hb hby at_226) rfl ?_
        show Steps p.tables e below (T41.setTop (mkF m 227 #[.val (.int p1), .val (.int p2), .val (.ref b11), .val (.int (vb + ((p1 &&& (3 : Int32)) - (1 : Int32)))), .val (.int (((p2.toUInt32 >>> ((1 : Int32) &&& 31).toUInt32).toInt32) % (30 : Int32)))] [(.int (vb + ((p1 &&& (3 : Int32)) - (1 : Int32))))])) _
        refine st46 _ ?_
        show Steps p.tables e below (T46.setTop (mkF m 230 #[.val (.int p1), .val (.int p2), .val (.ref b11), .val (.int (vb + ((p1 &&& (3 : Int32)) - (1 : Int32)))), .val (.int (((p2.toUInt32 >>> ((1 : Int32) &&& 31).toUInt32).toInt32) % (30 : Int32)))] [(.int (0 : Int32))])) _
        refine XS.ifNo X46.here hx rfl (hb hby at_230) rfl ((if0 _ _).trans (teq (by decide : (0 : Int32) = (0 : Int32))).2) ?_
        show Steps p.tables e below (T46.setTop (mkF m 233 #[.val (.int p1), .val (.int p2), .val (.ref b11), .val (.int (vb + ((p1 &&& (3 : Int32)) - (1 : Int32)))), .val (.int (((p2.toUInt32 >>> ((1 : Int32) &&& 31).toUInt32).toInt32) % (30 : Int32)))] [])) _
        refine XS.iconst X46.here hx rfl (hb hby at_233) ?_
        show Steps p.tables e below (T46.setTop (mkF m 234 #[.val (.int p1), .val (.int p2), .val (.ref b11), .val (.int (vb + ((p1 &&& (3 : Int32)) - (1 : Int32)))), .val (.int (((p2.toUInt32 >>> ((1 : Int32) &&& 31).toUInt32).toInt32) % (30 : Int32)))] [(.int (1 : Int32))])) _
        refine XS.goto X46.here hx rfl (pc0 := 234) (pc' := 238) rfl (hb hby at_234) (by decide) (by decide) ?_
        show Steps p.tables e below (T46.setTop (mkF m 238 #[.val (.int p1), .val (.int p2), .val (.ref b11), .val (.int (vb + ((p1 &&& (3 : Int32)) - (1 : Int32)))), .val (.int (((p2.toUInt32 >>> ((1 : Int32) &&& 31).toUInt32).toInt32) % (30 : Int32)))] [(.int (1 : Int32))])) _
        refine XS.istore X46.here hx rfl (hb hby at_238) rfl (l' := #[.val (.int p1), .val (.int p2), .val (.ref b11), .val (.int (vb + ((p1 &&& (3 : Int32)) - (1 : Int32)))), .val (.int (1 : Int32))]) rfl ?_
        show Steps p.tables e below (T46.setTop (mkF m 240 #[.val (.int p1), .val (.int p2), .val (.ref b11), .val (.int (vb + ((p1 &&& (3 : Int32)) - (1 : Int32)))), .val (.int (1 : Int32))] [])) _
        refine XS.iloadN X46.here hx rfl (hb hby at_240) rfl ?_
        show Steps p.tables e below (T46.setTop (mkF m 241 #[.val (.int p1), .val (.int p2), .val (.ref b11), .val (.int (vb + ((p1 &&& (3 : Int32)) - (1 : Int32)))), .val (.int (1 : Int32))] [(.int (vb + ((p1 &&& (3 : Int32)) - (1 : Int32))))])) _
        refine st47 _ ?_
        show Steps p.tables e below (T47.setTop (mkF m 244 #[.val (.int p1), .val (.int p2), .val (.ref b11), .val (.int (vb + ((p1 &&& (3 : Int32)) - (1 : Int32)))), .val (.int (1 : Int32))] [(.int (1 : Int32))])) _
        refine XS.iload X47.here hx rfl (hb hby at_244) rfl ?_
        show Steps p.tables e below (T47.setTop (mkF m 246 #[.val (.int p1), .val (.int p2), .val (.ref b11), .val (.int (vb + ((p1 &&& (3 : Int32)) - (1 : Int32)))), .val (.int (1 : Int32))] [(.int (1 : Int32)), (.int (1 : Int32))])) _
        refine XS.icmpNo X47.here hx rfl (hb hby at_246) rfl (teq (by decide : (1 : Int32) = (1 : Int32))).2 ?_
        show Steps p.tables e below (T47.setTop (mkF m 249 #[.val (.int p1), .val (.int p2), .val (.ref b11), .val (.int (vb + ((p1 &&& (3 : Int32)) - (1 : Int32)))), .val (.int (1 : Int32))] [])) _
        refine XS.iconst X47.here hx rfl (hb hby at_249) ?_
        show Steps p.tables e below (T47.setTop (mkF m 250 #[.val (.int p1), .val (.int p2), .val (.ref b11), .val (.int (vb + ((p1 &&& (3 : Int32)) - (1 : Int32)))), .val (.int (1 : Int32))] [(.int (1 : Int32))])) _
        refine XS.goto X47.here hx rfl (pc0 := 250) (pc' := 254) rfl (hb hby at_250) (by decide) (by decide) ?_
        exact kt
      exact Run.retZ X47 hx (t := .boolean) hret (by simp) (hb hby at_254) ⟨by decide, by decide, rfl, N47⟩
    · obtain ⟨_, _, ⟨T48, L48, k48, n48⟩, -, X48, ⟨Lc48, hQ48, l48, y48, z48⟩, st48⟩ := Jvm.LawKit.callS X41 hx (y := (⟨"com/example/stylemill/stylemill/xdm/XmlNamesIsNameStartCharPinLaw", "excluded", "(I)Z"⟩ : MethodName)) hown (mvT hZ (hw _ (List.mem_of_getElem? (i := 8) rfl))) (mvT hZ (hw _ (List.mem_of_getElem? (i := 9) rfl))) (mvT hZ (hw _ (List.mem_of_getElem? (i := 10) rfl))) (mvT hZ (hw _ (List.mem_of_getElem? (i := 11) rfl))) (by decide) (backOf (W := 0) (rm1 l Z a0 hw [] (vb + ((p1 &&& (3 : Int32)) - (1 : Int32))) (1 : Int32) h41 n0 q1.symm) hZ (hw _ (List.mem_of_getElem? (i := 11) rfl)) (hw _ (List.mem_of_getElem? (i := 10) rfl)) (by decide) (by decide)) (g := (mkF m 227 #[.val (.int p1), .val (.int p2), .val (.ref b11), .val (.int (vb + ((p1 &&& (3 : Int32)) - (1 : Int32)))), .val (.int (((p2.toUInt32 >>> ((1 : Int32) &&& 31).toUInt32).toInt32) % (30 : Int32)))] [(.int (vb + ((p1 &&& (3 : Int32)) - (1 : Int32))))])) rfl (by rw [hml]; rfl) (argsL := [(.int (vb + ((p1 &&& (3 : Int32)) - (1 : Int32))))]) (rest := []) (lenOf pd__I_Z rfl) rfl (by show 2 * 0 + _ ≤ _; exact Nat.le_of_eq rfl) (hb hby at_227) (fun _ _ => ⟨rfl, e41, (by decide : 1 + 0 ≤ _), (by decide : 30 + 0 ≤ _)⟩)
      dsimp only [Pt.U, Pt.locs, Pt.cells, Pt.slots] at X48 l48 y48 z48 st48 hQ48
      subst l48 y48 z48
      obtain ⟨rfl, N48q, e48⟩ := hQ48
      have N48 := Fr.app N41 N48q
      obtain ⟨_, _, ⟨T49, L49, k49, n49⟩, -, X49, ⟨Lc49, hQ49, l49, y49, z49⟩, st49⟩ := Jvm.LawKit.callS X48 hx (y := (⟨"com/example/stylemill/stylemill/xdm/XmlNames", "isNameStartChar", "(I)Z"⟩ : MethodName)) hown (mvT hZ (hw _ (List.mem_of_getElem? (i := 12) rfl))) (mvT hZ (hw _ (List.mem_of_getElem? (i := 13) rfl))) (mvT hZ (hw _ (List.mem_of_getElem? (i := 14) rfl))) (mvT hZ (hw _ (List.mem_of_getElem? (i := 15) rfl))) (by decide) (backOf (W := 0) (rm2 l Z a0 hw [] (vb + ((p1 &&& (3 : Int32)) - (1 : Int32))) (0 : Int32) h41 n0 q2.symm) hZ (hw _ (List.mem_of_getElem? (i := 15) rfl)) (hw _ (List.mem_of_getElem? (i := 14) rfl)) (by decide) (by decide)) (g := (mkF m 241 #[.val (.int p1), .val (.int p2), .val (.ref b11), .val (.int (vb + ((p1 &&& (3 : Int32)) - (1 : Int32)))), .val (.int (0 : Int32))] [(.int (vb + ((p1 &&& (3 : Int32)) - (1 : Int32))))])) rfl (by rw [hml]; rfl) (argsL := [(.int (vb + ((p1 &&& (3 : Int32)) - (1 : Int32))))]) (rest := []) (lenOf pd__I_Z rfl) rfl (by show 2 * 0 + _ ≤ _; exact Nat.le_of_eq rfl) (hb hby at_241) (fun _ _ => ⟨rfl, e48, (by decide : 1 + 0 ≤ _), (by decide : 30 + 0 ≤ _)⟩)
      dsimp only [Pt.U, Pt.locs, Pt.cells, Pt.slots] at X49 l49 y49 z49 st49 hQ49
      subst l49 y49 z49
      obtain ⟨rfl, N49q, e49⟩ := hQ49
      have N49 := Fr.app N48 N49q
      refine Run.step (T1 := T49) (g1 := (mkF m 254 #[.val (.int p1), .val (.int p2), .val (.ref b11), .val (.int (vb + ((p1 &&& (3 : Int32)) - (1 : Int32)))), .val (.int (0 : Int32))] [(.int (1 : Int32))])) (fun target kt => ?_) ?_
      · show Steps p.tables e below (T41.setTop (mkF m 226 #[.val (.int p1), .val (.int p2), .val (.ref b11), .val (.int (vb + ((p1 &&& (3 : Int32)) - (1 : Int32)))), .val (.int (((p2.toUInt32 >>> ((1 : Int32) &&& 31).toUInt32).toInt32) % (30 : Int32)))] [])) _
        refine XS.iloadN X41.here hx rfl (hb hby at_226) rfl ?_
        show Steps p.tables e below (T41.setTop (mkF m 227 #[.val (.int p1), .val (.int p2), .val (.ref b11), .val (.int (vb + ((p1 &&& (3 : Int32)) - (1 : Int32)))), .val (.int (((p2.toUInt32 >>> ((1 : Int32) &&& 31).toUInt32).toInt32) % (30 : Int32)))] [(.int (vb + ((p1 &&& (3 : Int32)) - (1 : Int32))))])) _
        refine st48 _ ?_
        show Steps p.tables e below (T48.setTop (mkF m 230 #[.val (.int p1), .val (.int p2), .val (.ref b11), .val (.int (vb + ((p1 &&& (3 : Int32)) - (1 : Int32)))), .val (.int (((p2.toUInt32 >>> ((1 : Int32) &&& 31).toUInt32).toInt32) % (30 : Int32)))] [(.int (1 : Int32))])) _
        refine XS.ifYes X48.here hx rfl (pc0 := 230) (pc' := 237) rfl (hb hby at_230) rfl ((if0 _ _).trans (feq (by decide : ¬ ((1 : Int32) = (0 : Int32)))).2) (by decide) (by decide) ?_
        show Steps p.tables e below (T48.setTop (mkF m 237 #[.val (.int p1), .val (.int p2), .val (.ref b11), .val (.int (vb + ((p1 &&& (3 : Int32)) - (1 : Int32)))), .val (.int (((p2.toUInt32 >>> ((1 : Int32) &&& 31).toUInt32).toInt32) % (30 : Int32)))] [])) _
        refine XS.iconst X48.here hx rfl (hb hby at_237) ?_
        show Steps p.tables e below (T48.setTop (mkF m 238 #[.val (.int p1), .val (.int p2), .val (.ref b11), .val (.int (vb + ((p1 &&& (3 : Int32)) - (1 : Int32)))), .val (.int (((p2.toUInt32 >>> ((1 : Int32) &&& 31).toUInt32).toInt32) % (30 : Int32)))] [(.int (0 : Int32))])) _
        refine XS.istore X48.here hx rfl (hb hby at_238) rfl (l' := #[.val (.int p1), .val (.int p2), .val (.ref b11), .val (.int (vb + ((p1 &&& (3 : Int32)) - (1 : Int32)))), .val (.int (0 : Int32))]) rfl ?_
        show Steps p.tables e below (T48.setTop (mkF m 240 #[.val (.int p1), .val (.int p2), .val (.ref b11), .val (.int (vb + ((p1 &&& (3 : Int32)) - (1 : Int32)))), .val (.int (0 : Int32))] [])) _
        refine XS.iloadN X48.here hx rfl (hb hby at_240) rfl ?_
        show Steps p.tables e below (T48.setTop (mkF m 241 #[.val (.int p1), .val (.int p2), .val (.ref b11), .val (.int (vb + ((p1 &&& (3 : Int32)) - (1 : Int32)))), .val (.int (0 : Int32))] [(.int (vb + ((p1 &&& (3 : Int32)) - (1 : Int32))))])) _
        refine st49 _ ?_
        show Steps p.tables e below (T49.setTop (mkF m 244 #[.val (.int p1), .val (.int p2), .val (.ref b11), .val (.int (vb + ((p1 &&& (3 : Int32)) - (1 : Int32)))), .val (.int (0 : Int32))] [(.int (0 : Int32))])) _
        refine XS.iload X49.here hx rfl (hb hby at_244) rfl ?_
        show Steps p.tables e below (T49.setTop (mkF m 246 #[.val (.int p1), .val (.int p2), .val (.ref b11), .val (.int (vb + ((p1 &&& (3 : Int32)) - (1 : Int32)))), .val (.int (0 : Int32))] [(.int (0 : Int32)), (.int (0 : Int32))])) _
        refine XS.icmpNo X49.here hx rfl (hb hby at_246) rfl (teq (by decide : (0 : Int32) = (0 : Int32))).2 ?_
        show Steps p.tables e below (T49.setTop (mkF m 249 #[.val (.int p1), .val (.int p2), .val (.ref b11), .val (.int (vb + ((p1 &&& (3 : Int32)) - (1 : Int32)))), .val (.int (0 : Int32))] [])) _
        refine XS.iconst X49.here hx rfl (hb hby at_249) ?_
        show Steps p.tables e below (T49.setTop (mkF m 250 #[.val (.int p1), .val (.int p2), .val (.ref b11), .val (.int (vb + ((p1 &&& (3 : Int32)) - (1 : Int32)))), .val (.int (0 : Int32))] [(.int (1 : Int32))])) _
        refine XS.goto X49.here hx rfl (pc0 := 250) (pc' := 254) rfl (hb hby at_250) (by decide) (by decide) ?_
        exact kt
      exact Run.retZ X49 hx (t := .boolean) hret (by simp) (hb hby at_254) ⟨by decide, by decide, rfl, N49⟩
set_option maxRecDepth 65536 in
set_option maxHeartbeats 40000000 in
theorem comes_1 {Post : Tables → Env → Array Value → State → Outcome → State → Prop} (hpost : ∀ tb e args s v u, (limb_1_1.after args s (.returned v) u = true ∧ limb_1_2.after args s (.returned v) u = true ∧ True) → FrameEnd s (.returned v) u (Jvm.fieldLocs frame_1_writes args s ++ Jvm.arrayLocs frame_1_arrays args s ++ Jvm.staticLocs frame_1_statics s) 16 128 → Post tb e args s (.returned v) u) :
    ArmFor flags0 classFile x code maxLocals ret World_1 tables_1 room_1 Calls_1 rest_1 Pre_1 Post := by
  intro l hfl _ _ p e ha hc hk s m args below hf hA hF happ hP
  obtain ⟨hcalls, hrest, hpre⟩ := hP
  obtain ⟨-, -, -, hnamed, -, -, -, hat⟩ := (Spec.applies_iff hf).mp happ
  obtain ⟨hg, hn⟩ := and_e (Cond.before_iff.mp (show (Jvm.Cond.and given_1 narrow_1).before args s = true from hpre))
  obtain ⟨g1, g2⟩ := and_e hg
  obtain ⟨g3, g4⟩ := and_e g2
  obtain ⟨w0, w1, rfl⟩ : ∃ w0 w1 : Value, args = #[w0, w1] := by
    have hs : args.size = 2 := by simpa [Cond.value, given_1] using g1
    obtain ⟨L⟩ := args
    match L, hs with
    | [w0, w1], _ => exact ⟨w0, w1, rfl⟩
  have hw := fun d (hd : d ∈ tables_1) => atoms_spec (ws := Jvm.Cond.code x code maxLocals ret :: tables_1) hat d (List.mem_cons_of_mem _ hd)
  obtain ⟨i0, ei0⟩ := is_v g3
  obtain rfl : w0 = (.int i0) := Option.some.inj ei0
  obtain ⟨i1, ei1⟩ := is_v g4
  obtain rfl : w1 = (.int i1) := Option.some.inj ei1
  obtain ⟨n, o, h1, h2, h3, _, L, rfl, ⟨rfl, N⟩, hq⟩ := rm0 l s _ hw tables_1 i0 i1 s.heap s.heap.size (Nat.le_refl _) p e ha hc hk s m _ below hf ((Spec.applies_iff_loose hf).mp happ).1 ⟨rfl, State.Warmed39.refl s, rfl⟩ trivial
  refine ⟨n, _, h1, h2, h3, hpost _ _ _ _ _ _ ⟨Cond.after_iff.mpr rfl, Cond.after_iff.mpr (eq_i res_at (Term.int_eval (1)) rfl), trivial⟩ ⟨hq.1, hq.2.1, (hq.2.2.sift fun y hy => Or.inr (N y hy)).mono (by decide) (by decide)⟩⟩
theorem main_1_1 : Claimed_1_1 := comes_1 fun _ _ _ _ _ _ h hF => ⟨h.1, hF⟩
theorem main_1_2 : Claimed_1_2 := comes_1 fun _ _ _ _ _ _ h hF => ⟨h.2.1, hF⟩
end Jvm.Pilot.@@N@@
namespace Jvm.Pilot.@@N@@
open Jvm Jvm.ClassFile Sem Op Lib Jvm.Free Jvm.Stand Jvm.Pilot.@@N@@.Jvm.D
/-! MADE BY PROGRAM (witnessworld.py) out of the Statement's table words and the real class files: 9 classes; the members and pool entries that the words name. The judged class is class 1, her method 3. -/
namespace start1
open Jvm.ClassFile
def u (s : String) : CpInfo := .utf8 (stringToUtf16 s)
/-- a pool by its gaps: so many unusable entries, then the entry; so many at the end -/
def gap : Nat → List CpInfo → List CpInfo
  | 0, r => r
  | n + 1, r => .unusable :: gap n r
def poolList (es : List (Nat × CpInfo)) (last : Nat) : List CpInfo := es.foldr (fun e r => gap e.1 (e.2 :: r)) (gap last [])
def pool (es : List (Nat × CpInfo)) (last : Nat) : Array CpInfo := ⟨poolList es last⟩
def fileOf (pool : Array CpInfo) (this : Nat) (attrs : Array Attribute := #[]) (ms : Array MethodInfo := #[]) (fl : Nat := 33) (sup : Nat := 0) (ifs : Array Nat := #[]) (fds : Array FieldInfo := #[]) : ClassFile where
  minorVersion := 0
  majorVersion := 65
  constantPool := pool
  accessFlags := fl
  thisClass := this
  superClass := sup
  interfaces := ifs
  fields := fds
  methods := ms
  attributes := attrs
def plain (name : String) (sup : Option ClassId) : Class where
  name := name
  kind := .ordinary
  loader := none
  accessFlags := 33
  super := sup
  interfaces := #[]
  cf := none
  fields := #[]
  methods := #[]
  instanceTypes := #[]
  staticTypes := #[]
  resolved := #[]
  callSites := []
  init := .initialized
  statics := none
  mirror := none

def pool0 : Array CpInfo := pool [(5, u "<init>"), (0, u "()V"), (1, .class_ 10), (1, u "java/lang/Object")] 113

def k0m0 : Method := { name := "<init>", desc := "()V", sig := { parameters := [], returnType := none }, accessFlags := 1, code := none }
/-- java/lang/Object -/
def k0 : Class := { plain "java/lang/Object" none with
  accessFlags := 33
  interfaces := #[]
  cf := some (fileOf pool0 8 #[] #[{ accessFlags := 1, nameIndex := 5, descriptorIndex := 6, attributes := #[] }] 33 0 #[] #[])
  fields := #[]
  methods := #[k0m0]
  instanceTypes := #[]
  staticTypes := #[]
  resolved := Array.replicate 124 none
  statics := none }

def pool1 : Array CpInfo := pool [(2, .class_ 4), (1, u "java/lang/Object"), (0, u "<init>"), (0, u "()V"), (0, .methodref 8 9), (0, .class_ 10), (0, .nameAndType 11 12), (0, u "com/example/stylemill/stylemill/xdm/XmlNamesIsNameStartCharPinLaw"), (0, u "in"), (0, u "(III)Z"), (0, .integer 55296), (0, .integer 63743), (0, .integer 64976), (0, .integer 65007), (0, .integer 65534), (0, .integer 65535), (0, .integer 983039), (0, .integer 55295), (0, .integer 63744), (0, .integer 64975), (0, .integer 65008), (0, .integer 65533), (0, .integer 65536), (0, .methodref 8 27), (0, .nameAndType 28 29), (0, u "excluded"), (0, u "(I)Z"), (0, .methodref 31 32), (0, .class_ 33), (0, .nameAndType 34 29), (0, u "com/example/stylemill/stylemill/xdm/XmlNames"), (0, u "isNameStartChar"), (3, u "law"), (0, u "(II)Z")] 4

def k1m0 : Method := { name := "<init>", desc := "()V", sig := { parameters := [], returnType := none }, accessFlags := 1, code := none }
def k1c1 : Code := { maxStack := 2, maxLocals := 3, code := method_2_code, exceptionTable := #[], attributes := #[] }
def k1m1 : Method := { name := "in", desc := "(III)Z", sig := { parameters := [.int, .int, .int], returnType := some .boolean }, accessFlags := 10, code := some k1c1 }
def k1c2 : Code := { maxStack := 3, maxLocals := 1, code := method_3_code, exceptionTable := #[], attributes := #[] }
def k1m2 : Method := { name := "excluded", desc := "(I)Z", sig := { parameters := [.int], returnType := some .boolean }, accessFlags := 10, code := some k1c2 }
def k1c3 : Code := { maxStack := 4, maxLocals := 5, code := code, exceptionTable := #[], attributes := #[] }
def k1m3 : Method := { name := "law", desc := "(II)Z", sig := { parameters := [.int, .int], returnType := some .boolean }, accessFlags := 9, code := some k1c3 }
/-- com/example/stylemill/stylemill/xdm/XmlNamesIsNameStartCharPinLaw -/
def k1 : Class := { plain "com/example/stylemill/stylemill/xdm/XmlNamesIsNameStartCharPinLaw" (some 0) with
  accessFlags := 49
  interfaces := #[]
  cf := some (fileOf pool1 8 #[] #[{ accessFlags := 1, nameIndex := 5, descriptorIndex := 6, attributes := #[] }, { accessFlags := 10, nameIndex := 11, descriptorIndex := 12, attributes := #[] }, { accessFlags := 10, nameIndex := 28, descriptorIndex := 29, attributes := #[] }, { accessFlags := 9, nameIndex := 38, descriptorIndex := 39, attributes := #[] }] 49 2 #[] #[])
  fields := #[]
  methods := #[k1m0, k1m1, k1m2, k1m3]
  instanceTypes := #[]
  staticTypes := #[]
  resolved := Array.replicate 44 none
  statics := none }

def pool2 : Array CpInfo := pool [(2, .class_ 4), (1, u "java/lang/Object"), (0, u "<init>"), (0, u "()V"), (37, .class_ 46), (1, u "com/example/stylemill/stylemill/xdm/XmlNames"), (26, .integer 55295), (0, .integer 63744), (0, .integer 64975), (0, .integer 65008), (0, .integer 65533), (0, .integer 65536), (0, .integer 983039), (2, u "isNameStartChar"), (0, u "(I)Z"), (37, u "LANGUAGE"), (0, u "Ljava/util/regex/Pattern;"), (13, u "DECIMAL")] 40

def k2m0 : Method := { name := "<init>", desc := "()V", sig := { parameters := [], returnType := none }, accessFlags := 2, code := none }
def k2c1 : Code := { maxStack := 2, maxLocals := 1, code := prog_107_method_4_code, exceptionTable := #[], attributes := #[] }
def k2m1 : Method := { name := "isNameStartChar", desc := "(I)Z", sig := { parameters := [.int], returnType := some .boolean }, accessFlags := 9, code := some k2c1 }
/-- com/example/stylemill/stylemill/xdm/XmlNames -/
def k2 : Class := { plain "com/example/stylemill/stylemill/xdm/XmlNames" (some 0) with
  accessFlags := 49
  interfaces := #[]
  cf := some (fileOf pool2 44 #[] #[{ accessFlags := 2, nameIndex := 5, descriptorIndex := 6, attributes := #[] }, { accessFlags := 9, nameIndex := 82, descriptorIndex := 83, attributes := #[] }] 49 2 #[] #[{ accessFlags := 26, nameIndex := 121, descriptorIndex := 122, attributes := #[] }, { accessFlags := 26, nameIndex := 136, descriptorIndex := 122, attributes := #[] }])
  fields := #[{ name := "LANGUAGE", type := (.object "java/util/regex/Pattern"), accessFlags := 26, slot := 0, constantValue := 0 }, { name := "DECIMAL", type := (.object "java/util/regex/Pattern"), accessFlags := 26, slot := 1, constantValue := 0 }]
  methods := #[k2m0, k2m1]
  instanceTypes := #[]
  staticTypes := #[(.object "java/util/regex/Pattern"), (.object "java/util/regex/Pattern")]
  resolved := Array.replicate 177 none
  statics := none }

def pool3 : Array CpInfo := pool [(1, u "java/lang/Cloneable"), (0, .class_ 1), (0, u "java/lang/Object"), (0, .class_ 3)] 3

/-- java/lang/Cloneable -/
def k3 : Class := { plain "java/lang/Cloneable" (some 0) with
  accessFlags := 1537
  interfaces := #[]
  cf := some (fileOf pool3 2 #[] #[] 1537 4 #[] #[])
  fields := #[]
  methods := #[]
  instanceTypes := #[]
  staticTypes := #[]
  resolved := Array.replicate 8 none
  statics := none }

def pool4 : Array CpInfo := pool [(1, u "java/io/Serializable"), (0, .class_ 1), (0, u "java/lang/Object"), (0, .class_ 3)] 3

/-- java/io/Serializable -/
def k4 : Class := { plain "java/io/Serializable" (some 0) with
  accessFlags := 1537
  interfaces := #[]
  cf := some (fileOf pool4 2 #[] #[] 1537 4 #[] #[])
  fields := #[]
  methods := #[]
  instanceTypes := #[]
  staticTypes := #[]
  resolved := Array.replicate 8 none
  statics := none }

/-- the primitive byte -/
def k5 : Class := { plain "byte" none with kind := .primitive 'B', accessFlags := 0x411 }
/-- [B -/
def k6 : Class := { plain "[B" (some 0) with kind := .array 5 .byte, interfaces := #[3, 4], accessFlags := 1041 }

/-- the primitive int -/
def k7 : Class := { plain "int" none with kind := .primitive 'I', accessFlags := 0x411 }
/-- [I -/
def k8 : Class := { plain "[I" (some 0) with kind := .array 7 .int, interfaces := #[3, 4], accessFlags := 1041 }

def heap : Heap := #[]
def classes : Array Class := #[k0, k1, k2, k3, k4, k5, k6, k7, k8]
def interned : List (Array UInt16 × Addr) := []
def slotsUsed : Nat := 0
def theMethod : MethodId := ⟨1, 3⟩
def args0 : Array Value := #[.int 65, .int 0]
def aboutOver (below : List Frame) : State where
  vm := { classes := classes, interned := interned.toArray }
  heap := heap
  slotsUsed := slotsUsed
  threads := #[{ frames := .invoking theMethod args0 :: below }]
def below0 : List Frame := [.native { method := ⟨0, 0⟩, args := #[] }]
def about1 : State := aboutOver below0
def p0 : Program := .bare "" "" ""
def e0 : Env := launch0.env 0 0 0
theorem w_frames : about1.frames = Frame.invoking theMethod args0 :: below0 := rfl
set_option maxRecDepth 65536 in
theorem w_args : argsFit about1.vm theMethod args0 = true := by decide +kernel
set_option maxRecDepth 65536 in
theorem w_heap : heapFits about1 = true := by decide +kernel
set_option maxRecDepth 65536 in
theorem w_runnable : about1.curStatus? = some .runnable := by decide +kernel
set_option maxRecDepth 65536 in
theorem w_alone : about1.alone = true := by decide +kernel
set_option maxRecDepth 65536 in
theorem w_named : about1.methodNamed? x = some theMethod := by decide +kernel
set_option maxRecDepth 65536 in
theorem w_hears : about1.hears theMethod below0 = true := by decide +kernel
set_option maxRecDepth 65536 in
theorem w_ripe : about1.ripe theMethod args0 below0 = true := by decide +kernel
theorem w_running : about1.status = .running := rfl
set_option maxRecDepth 65536 in
theorem w_room : about1.hasRoom e0.platform room_1 = true :=
  launch0.hasRoom_least _ room_1 (by decide +kernel) (by decide +kernel) (by decide +kernel) (by decide +kernel) (by decide +kernel) (by decide +kernel)
theorem allAtoms_all (ts : List Jvm.Cond) (a : Array Jvm.Value) (st : Jvm.State) : (allAtoms ts).before a st = ts.all (fun c => c.before a st) := by
  induction ts with
  | nil => rfl
  | cons c t ih =>
    show (Jvm.Cond.and c (allAtoms t)).before a st = _
    rw [Jvm.Cond.before_and, ih, List.all_cons]
def words1 : List Jvm.Cond := Jvm.Cond.code x code maxLocals ret :: tables_1
/-- a 'code' word, met by the world's own term for the bytes: nothing is compared byte by byte -/
theorem code_word {y : MethodName} {bytes : ByteArray} {mx : Nat} {rt : Option FieldType} {a : Array Value} {s : State} {m : MethodId} {meth : Method} {c : Code} (h1 : s.methodNamed? y = some m) (h2 : s.vm.method? m = some meth) (h3 : meth.code = some c) (h4 : c.code = bytes)
    (h5 : (c.maxLocals == mx && c.exceptionTable.isEmpty && decide (c.maxStack ≤ mostOperands) && decide (meth.sig.returnType = rt) && !meth.locks && decide (parseMethodDescriptor y.desc = some meth.sig)) = true) : (Jvm.Cond.code y bytes mx rt).before a s = true := by
  simp only [Bool.and_eq_true, beq_iff_eq, Bool.not_eq_true', decide_eq_true_eq] at h5
  obtain ⟨⟨⟨⟨⟨g1, g2⟩, g3⟩, g4⟩, g5⟩, g6⟩ := h5
  simp [Cond.before, Cond.holds, Cond.value, h1, h2, h3, h4, g1, g2, g3, g4, g5, g6]
def isCode : Jvm.Cond → Bool
  | .code _ _ _ _ => true
  | _ => false
theorem all_split {L : List Jvm.Cond} {P : Jvm.Cond → Bool} (h1 : L.all (fun c => isCode c || P c) = true) (h2 : ∀ c ∈ L.filter isCode, P c = true) : L.all P = true := by
  refine List.all_eq_true.mpr fun c hc => ?_
  have h := List.all_eq_true.mp h1 c hc
  rcases Bool.eq_false_or_eq_true (isCode c) with hi | hi
  · exact h2 c (List.mem_filter.mpr ⟨hc, hi⟩)
  · simpa [hi] using h
set_option maxRecDepth 65536 in
theorem w_c0 : (Jvm.Cond.code x code maxLocals ret).before args0 about1 = true := code_word (m := ⟨1, 3⟩) (meth := k1m3) (c := k1c3) (by decide +kernel) rfl rfl rfl (by decide +kernel)
set_option maxRecDepth 65536 in
theorem w_c1 : (Jvm.Cond.code ({ cls := "com/example/stylemill/stylemill/xdm/XmlNamesIsNameStartCharPinLaw", name := "excluded", desc := "(I)Z" } : Jvm.MethodName) method_3_code (1 : Nat) (Option.some Jvm.ClassFile.FieldType.boolean)).before args0 about1 = true := code_word (m := ⟨1, 2⟩) (meth := k1m2) (c := k1c2) (by decide +kernel) rfl rfl rfl (by decide +kernel)
set_option maxRecDepth 65536 in
theorem w_c2 : (Jvm.Cond.code ({ cls := "com/example/stylemill/stylemill/xdm/XmlNames", name := "isNameStartChar", desc := "(I)Z" } : Jvm.MethodName) prog_107_method_4_code (1 : Nat) (Option.some Jvm.ClassFile.FieldType.boolean)).before args0 about1 = true := code_word (m := ⟨2, 1⟩) (meth := k2m1) (c := k2c1) (by decide +kernel) rfl rfl rfl (by decide +kernel)
set_option maxRecDepth 65536 in
theorem w_c3 : (Jvm.Cond.code ({ cls := "com/example/stylemill/stylemill/xdm/XmlNamesIsNameStartCharPinLaw", name := "in", desc := "(III)Z" } : Jvm.MethodName) method_2_code (3 : Nat) (Option.some Jvm.ClassFile.FieldType.boolean)).before args0 about1 = true := code_word (m := ⟨1, 1⟩) (meth := k1m1) (c := k1c1) (by decide +kernel) rfl rfl rfl (by decide +kernel)
def codes1 : List Jvm.Cond := [Jvm.Cond.code x code maxLocals ret, Jvm.Cond.code ({ cls := "com/example/stylemill/stylemill/xdm/XmlNamesIsNameStartCharPinLaw", name := "excluded", desc := "(I)Z" } : Jvm.MethodName) method_3_code (1 : Nat) (Option.some Jvm.ClassFile.FieldType.boolean), Jvm.Cond.code ({ cls := "com/example/stylemill/stylemill/xdm/XmlNames", name := "isNameStartChar", desc := "(I)Z" } : Jvm.MethodName) prog_107_method_4_code (1 : Nat) (Option.some Jvm.ClassFile.FieldType.boolean), Jvm.Cond.code ({ cls := "com/example/stylemill/stylemill/xdm/XmlNamesIsNameStartCharPinLaw", name := "in", desc := "(III)Z" } : Jvm.MethodName) method_2_code (3 : Nat) (Option.some Jvm.ClassFile.FieldType.boolean)]
set_option maxRecDepth 65536 in
theorem codes_eq : words1.filter isCode = codes1 := rfl
theorem w_codes : ∀ c ∈ words1.filter isCode, c.before args0 about1 = true := by
  rw [codes_eq]
  intro c hc
  simp only [codes1, List.mem_cons, List.not_mem_nil, or_false] at hc
  rcases hc with rfl | rfl | rfl | rfl
  · exact w_c0
  · exact w_c1
  · exact w_c2
  · exact w_c3
set_option maxRecDepth 65536 in
theorem w_t1 : (words1.take 24).all (fun c => isCode c || c.before args0 about1) = true := by decide +kernel
set_option maxRecDepth 65536 in
theorem w_t2 : (words1.drop 24).all (fun c => isCode c || c.before args0 about1) = true := by decide +kernel
theorem w_tables : (allAtoms (Jvm.Cond.code x code maxLocals ret :: tables_1)).before args0 about1 = true := by
  rw [allAtoms_all]
  show words1.all (fun c => c.before args0 about1) = true
  refine all_split ?_ w_codes
  rw [← List.take_append_drop 24 words1, List.all_append, w_t1, w_t2]
  rfl
set_option maxRecDepth 65536 in
theorem w_case : (Jvm.Cond.and given_1 narrow_1).before args0 about1 = true := by decide +kernel
theorem w_applies : (headSpec (Jvm.Cond.code x code maxLocals ret :: tables_1) room_1).applies x e0.platform about1 = true :=
  (Spec.applies_iff w_frames).mpr ⟨w_running, w_runnable, w_alone, w_named, w_hears, w_ripe, w_room, w_tables⟩
theorem atStart : AtStart classFile x code maxLocals ret World_1 tables_1 room_1 Calls_1 rest_1 Pre_1 launch0 p0 e0 about1 theMethod args0 below0 :=
  ⟨lists_1, trivial, launch0.admits_env _ _ _, launch0.least_env, fairChoices_fair.cas, fairChoices_fair.clock, w_frames, w_args, w_heap, w_applies, trivial, trivial, w_case⟩
end start1
theorem witness_1 : WitnessClaimed_1 := ⟨start1.p0, start1.e0, start1.about1, start1.theMethod, start1.args0, start1.below0, start1.atStart⟩
end Jvm.Pilot.@@N@@
