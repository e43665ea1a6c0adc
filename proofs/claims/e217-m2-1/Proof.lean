import JvmDerived
import JvmDerived.Pilot.@@N@@Statement
import JvmDerived.Pilot.@@N@@Code
set_option linter.unusedVariables false
set_option linter.unusedSimpArgs false
namespace Jvm.Pilot.@@N@@
open Jvm Jvm.ClassFile Sem Op Lib Jvm.Free Jvm.Stand Jvm.LawKit Jvm.RoadKit Bundle Jvm.Pilot.@@N@@.Jvm.D
/-- from T at the frame g the body comes to its return, and Q holds of what it returns, the heap, the places written, the cells and slots made -/
def Run (p : Program) (l : Launch) (e : Env) (R : Room) (s : State) (m : MethodId) (args : Array Value) (below : List Frame) (meth : Method) (c : Code) (Q : Option Value → Heap → List Loc → Nat → Nat → Prop) (T : State) (g : JFrame) : Prop :=
  ∃ (T' : State) (locs' : List Loc) (cells' slots' : Nat) (v : Option Value), Stand p l e R s m args below meth c T' locs' cells' slots' ∧ Q v T'.heap locs' cells' slots' ∧ (meth.sig.returnType = none → v = none) ∧
    ∀ fs, (∀ (f : JFrame) (acts : List Action), f.method = m → f.locked = none → f.entered = [] → (doReturn e (T'.setTop f) acts v).1 = T'.setFrames fs) → Steps p.tables e below (T.setTop g) (T'.setFrames fs)
section OwnRun
variable {p : Program} {l : Launch} {e : Env} {R : Room} {s : State} {m : MethodId} {args : Array Value} {below : List Frame} {meth : Method} {c : Code} {Q : Option Value → Heap → List Loc → Nat → Nat → Prop} {T T1 : State} {g g1 : JFrame} {locs : List Loc} {cells slots : Nat}
theorem Run.step (st : ∀ target, Steps p.tables e below (T1.setTop g1) target → Steps p.tables e below (T.setTop g) target) (r : Run p l e R s m args below meth c Q T1 g1) : Run p l e R s m args below meth c Q T g := by
  obtain ⟨T', locs', cs, sl, v, X, q, hv, k⟩ := r
  exact ⟨T', locs', cs, sl, v, X, q, hv, fun fs hr => st _ (k fs hr)⟩
theorem Run.retZ (X : Stand p l e R s m args below meth c T locs cells slots) (hx : p.tables.exec = Jvm.exec) {pc : Nat} {Ls : Array Slot} {z : Int32} {t : FieldType} {rest : List Value} (hret : meth.sig.returnType = some t) (ht : t = .boolean ∨ t = .byte ∨ t = .char ∨ t = .short) (hd : decode c.code pc = .ok (.ireturn, 1)) (q : Q (some (.int (nar t z))) T.heap locs cells slots) :
    Run p l e R s m args below meth c Q T (mkF m pc Ls (.int z :: rest)) :=
  ⟨T, locs, cells, slots, _, X, q, (fun h => by rw [hret] at h; cases h), fun fs hr => retN X hx hret ht hd hr⟩
theorem Run.retG (X : Stand p l e R s m args below meth c T locs cells slots) (hx : p.tables.exec = Jvm.exec) {pc : Nat} {Ls : Array Slot} {w : Value} {t : FieldType} {i : Instr} {rest : List Value} (hret : meth.sig.returnType = some t) (hn : narrow t w = w)
    (hi : (i = .ireturn ∧ (t = .int ∨ t = .boolean ∨ t = .byte ∨ t = .char ∨ t = .short) ∧ ∃ z, w = .int z) ∨ (i = .lreturn ∧ t = .long ∧ ∃ z, w = .long z) ∨ (i = .dreturn ∧ t = .double ∧ ∃ z, w = .double z) ∨ (i = .freturn ∧ t = .float ∧ ∃ z, w = .float z) ∨ (i = .areturn ∧ t.isReference = true ∧ w.isRef = true))
    (hd : decode c.code pc = .ok (i, 1)) (q : Q (some w) T.heap locs cells slots) : Run p l e R s m args below meth c Q T (mkF m pc Ls (w :: rest)) :=
  ⟨T, locs, cells, slots, _, X, q, (fun h => by rw [hret] at h; cases h), fun fs hr => retOut X hx hret hn hi hd hr⟩
theorem Run.retV (X : Stand p l e R s m args below meth c T locs cells slots) (hx : p.tables.exec = Jvm.exec) {pc : Nat} {Ls : Array Slot} (hret : meth.sig.returnType = none) (hd : decode c.code pc = .ok (.return_, 1)) (q : Q none T.heap locs cells slots) :
    Run p l e R s m args below meth c Q T (mkF m pc Ls []) :=
  ⟨T, locs, cells, slots, none, X, q, (fun _ => rfl), fun fs hr => X.returnOut hx hret hd hr⟩
end OwnRun
/-- the room's figures, and a contract's own word -/
def RQ (rm : Room) (Qm : Option Value → Heap → List Loc → Prop) : Option Value → Heap → List Loc → Nat → Nat → Prop := fun v h L cs sl => cs ≤ rm.cells ∧ sl ≤ rm.slots ∧ Qm v h L
/-- it returns u and leaves the heap as it was -/
def QV (u : Value) (h0 : Heap) (n0 : Nat) (v : Option Value) (h : Heap) (L : List Loc) : Prop := v = some u ∧ Fr n0 L ∧ h = h0
/-- a contract out of a run of the body -/
theorem metRun {l : Launch} {y : MethodName} {bytes : ByteArray} {maxL : Nat} {ret : Option FieldType} {ws : List Jvm.Cond} {rm : Room} {as' : Array Value} {Z : State} {h0 : Heap} {f0 : MethodId → JFrame} {Qm : Option Value → Heap → List Loc → Prop}
    (hpl : plainFor y = true) (hef : ∀ m, entryFrame m as' maxL = f0 m)
    (H : ∀ (p : Program) (e : Env) (s : State) (m : MethodId) (below : List Frame) (meth : Method) (c : Code) (s₁ : State), Stand p l e rm s m as' below meth c s₁ [] 0 0 → p.tables.exec = Jvm.exec → c.code = bytes → c.maxLocals = maxL → s.vm.findClass y.cls = some m.cls → meth.name = y.name → meth.sig.returnType = ret → Z.Warmed39 s.vm → s₁.heap = h0 → s.heap = h0 →
      Run p l e rm s m as' below meth c (RQ rm Qm) s₁ (f0 m)) :
    MetFree l y (head1 (Jvm.Cond.code y bytes maxL ret :: ws) rm) (fun a U => a = as' ∧ Z.Warmed39 U.vm ∧ U.heap = h0) (fun _ _ _ _ _ => True) (fun _ U o U' => ∃ v L, o = .returned v ∧ Qm v U'.heap L ∧ FrameEnd U o U' L rm.cells rm.slots) := by
  refine MetFree.of_bodySF hpl hisR ?_
  intro p e s m args below meth c s₁ Bd hml0 hP hK
  obtain ⟨rfl, hZ, hh⟩ := hP
  have X0 : Stand p l e rm s m _ below meth c s₁ [] 0 0 := Stand.of_body Bd
  have e0 : s₁.heap = h0 := by rw [← hh, Bd.state]; rfl
  obtain ⟨T', locs', cs, sl, v, X', q, hv, k⟩ := H p e s m below meth c s₁ X0 Bd.exec Bd.bytes hml0 (findClass_of_methodNamed Bd.named) (name_of_methodNamed Bd.named Bd.method).1 Bd.returns hZ e0 hh
  obtain ⟨fs, hr, hrun, hended, hW, hsame⟩ := X'.leave (v := v) hv
  exact ⟨_, _, castTop (hef m) (k fs hr), hrun, hended, v, _, rfl, q.2.2, ⟨_, rfl⟩, hW, hsame.mono q.1 q.2.1⟩
section OwnArr
variable {p : Program} {l : Launch} {e : Env} {R : Room} {s : State} {m : MethodId} {args : Array Value} {below : List Frame} {meth : Method} {c : Code} {T : State} {locs : List Loc} {cells slots : Nat} {Z : State} {a0 : Array Value} {h h1 h2 : Heap} {n0 : Nat}
/-- an array of the kind ty (its class k) whose components are vs -/
def AL (Z : State) (h : Heap) (a : Addr) (k : ClassId) (ty : FieldType) (vs : List Value) : Prop := ∃ cl : Cell, Arr Z h a cl ty ∧ cl.cls = k ∧ cl.slots.toList = vs
theorem AL.lt {a : Addr} {k : ClassId} {ty : FieldType} {vs : List Value} (A : AL Z h a k ty vs) : a < h.size := by
  obtain ⟨cl, A, -⟩ := A
  exact A.lt
theorem AL.keep {a : Addr} {k : ClassId} {ty : FieldType} {vs : List Value} (A : AL Z h a k ty vs) (K : Keep h h1 []) : AL Z h1 a k ty vs := by
  obtain ⟨cl, A, q, e⟩ := A
  exact ⟨cl, ⟨K.2.1 a cl A.1 (by simp), A.2⟩, q, e⟩
theorem AL.other {a b : Addr} {k : ClassId} {ty : FieldType} {vs : List Value} {sl : Nat} {v : Value} (A : AL Z h a k ty vs) (W : Wr h h1 b sl v) (q : a ≠ b) : AL Z h1 a k ty vs := by
  obtain ⟨cl, A, r⟩ := A
  exact ⟨cl, A.other W q, r⟩
theorem Keep.trans0 (K : Keep h h1 []) (K' : Keep h1 h2 []) : Keep h h2 [] := K.trans K' (fun x hx => nomatch hx)
theorem own_staKeep {C n d : String} {v : Value} (F : Sta Z h C n d v) (K : Keep h h1 []) : Sta Z h1 C n d v := by
  obtain ⟨cf, i, k, f, st, cell, q1, q2, q3, q4, q5, r⟩ := F
  exact ⟨cf, i, k, f, st, cell, q1, q2, q3, q4, K.2.1 _ _ q5 (by simp), r⟩
theorem own_newI (X : Stand p l e R s m args below meth c T locs cells slots) (hx : p.tables.exec = Jvm.exec) (hZ : Z.Warmed39 s.vm) (w : (Cond.arrayClass .int).before a0 Z = true) (eT : T.heap = h) {g : JFrame} (hg : g.method = m) (hd : decode c.code g.pc = .ok (.newarray .int, 2)) {n : Int32} {rest : List Value} (hs : g.stack = .int n :: rest)
    (hn : ¬ n < 0) {cap : Nat} (hcap : n.toNatClampNeg = cap) (hb : cap * 8 ≤ 536870912) (hc : cells + 1 ≤ R.cells) (hl : slots + cap ≤ R.slots) :
    ∃ T' h' k, Stand p l e R s m args below meth c T' locs (cells + 1) (slots + cap) ∧ T'.heap = h' ∧ Keep h h' [] ∧ AL Z h' h.size k .int (List.replicate cap (.int 0)) ∧
      ∀ target, Steps p.tables e below (T'.setTop { g with pc := g.pc + 2, stack := .ref h.size :: rest }) target → Steps p.tables e below (T.setTop g) target := by
  obtain ⟨T', h', k, X', e', E, A, st⟩ := newP X hx hZ (aty := .int) w eT hg hd hs hn (cap := cap) (Nat.le_of_eq hcap) hb hc hl
  exact ⟨T', h', k, X', e', (Keep.refl _ _).ext E, ⟨_, A, rfl, by simp [newA, hcap, newarray.typeOf, defaultValue]⟩, st⟩
theorem own_newR (X : Stand p l e R s m args below meth c T locs cells slots) (hx : p.tables.exec = Jvm.exec) (hZ : Z.Warmed39 s.vm) {own C : String} {index : Nat} (hown : s.vm.findClass own = some m.cls) (w1 : (Cond.classLink own index C).before a0 Z = true) (w2 : (Cond.arrayOver (.object C)).before a0 Z = true) (eT : T.heap = h) {g : JFrame} (hg : g.method = m) (hd : decode c.code g.pc = .ok (.anewarray index, 3)) {n : Int32} {rest : List Value} (hs : g.stack = .int n :: rest)
    (hn : ¬ n < 0) {cap : Nat} (hcap : n.toNatClampNeg = cap) (hb : cap * 8 ≤ 536870912) (hc : cells + 1 ≤ R.cells) (hl : slots + cap ≤ R.slots) :
    ∃ T' h' k, Stand p l e R s m args below meth c T' locs (cells + 1) (slots + cap) ∧ T'.heap = h' ∧ Keep h h' [] ∧ AL Z h' h.size k (.object C) (List.replicate cap .null) ∧ Ovr Z k C ∧
      ∀ target, Steps p.tables e below (T'.setTop { g with pc := g.pc + 3, stack := .ref h.size :: rest }) target → Steps p.tables e below (T.setTop g) target := by
  obtain ⟨T', h', k, X', e', E, A, O, st⟩ := newR X hx hZ hown w1 w2 eT hg hd hs hn (cap := cap) (Nat.le_of_eq hcap) hb hc hl
  exact ⟨T', h', k, X', e', (Keep.refl _ _).ext E, ⟨_, A, rfl, by simp [newA, hcap, defaultValue]⟩, O, st⟩
theorem own_in {cl : Cell} {vs : List Value} (ev : cl.slots.toList = vs) {j : Int32} {i : Nat} (hj : ¬ j < 0) (hji : j.toNatClampNeg = i) (hi : i < vs.length) : ¬ (j < 0 ∨ cl.slots.size ≤ j.toNatClampNeg) := by
  have hsz : cl.slots.size = vs.length := by rw [← ev]; simp
  rw [hsz, hji]
  rintro (q | q)
  · exact hj q
  · exact absurd hi (Nat.not_lt.mpr q)
theorem own_stI (X : Stand p l e R s m args below meth c T locs cells slots) (hx : p.tables.exec = Jvm.exec) (hZ : Z.Warmed39 s.vm) (eT : T.heap = h1) {a : Addr} {k : ClassId} {vs : List Value} (A : AL Z h1 a k .int vs) (K : Keep h h1 []) (ha : h.size ≤ a) (N : Fr n0 locs) (hn : n0 ≤ a) {j x : Int32} {i : Nat} (hj : ¬ j < 0) (hji : j.toNatClampNeg = i) (hi : i < vs.length)
    {g : JFrame} (hg : g.method = m) {rest : List Value} (hs : g.stack = .int x :: .int j :: .ref a :: rest) (hd : decode c.code g.pc = .ok (.iastore, 1)) :
    ∃ T' h' locs', Stand p l e R s m args below meth c T' locs' cells slots ∧ T'.heap = h' ∧ Wr h1 h' a j.toNatClampNeg (.int x) ∧ AL Z h' a k .int (vs.set i (.int x)) ∧ Keep h h' [] ∧ Fr n0 locs' ∧
      ∀ target, Steps p.tables e below (T'.setTop { g with pc := g.pc + 1, stack := rest }) target → Steps p.tables e below (T.setTop g) target := by
  obtain ⟨cl, Ar, q, ev⟩ := A
  obtain ⟨T', h', X', e', W, st⟩ := stI X hx hZ eT Ar (j := j) (x := x) (own_in ev hj hji hi) hg hs hd
  refine ⟨T', h', _, X', e', W, ⟨_, Ar.same W, q, ?_⟩, K.wr W (Or.inr ha), Fr.snoc X' N hn, st⟩
  show (cl.slots.setIfInBounds _ _).toList = _
  rw [hji, Array.toList_setIfInBounds, ev]
theorem own_stR (X : Stand p l e R s m args below meth c T locs cells slots) (hx : p.tables.exec = Jvm.exec) (hZ : Z.Warmed39 s.vm) (eT : T.heap = h1) {a y : Addr} {k : ClassId} {C : String} {vs : List Value} (A : AL Z h1 a k (.object C) vs) (O : Ovr Z k C) (I : Ins Z h1 y C true) (K : Keep h h1 []) (ha : h.size ≤ a) (N : Fr n0 locs) (hn : n0 ≤ a) {j : Int32} {i : Nat} (hj : ¬ j < 0) (hji : j.toNatClampNeg = i) (hi : i < vs.length)
    {g : JFrame} (hg : g.method = m) {rest : List Value} (hs : g.stack = .ref y :: .int j :: .ref a :: rest) (hd : decode c.code g.pc = .ok (.aastore, 1)) :
    ∃ T' h' locs', Stand p l e R s m args below meth c T' locs' cells slots ∧ T'.heap = h' ∧ Wr h1 h' a j.toNatClampNeg (.ref y) ∧ AL Z h' a k (.object C) (vs.set i (.ref y)) ∧ Keep h h' [] ∧ Fr n0 locs' ∧
      ∀ target, Steps p.tables e below (T'.setTop { g with pc := g.pc + 1, stack := rest }) target → Steps p.tables e below (T.setTop g) target := by
  obtain ⟨cl, Ar, q, ev⟩ := A
  obtain ⟨T', h', X', e', W, st⟩ := stR X hx hZ eT Ar (j := j) (own_in ev hj hji hi) rfl (Sto.ofV Ar q O I) hg hs hd
  refine ⟨T', h', _, X', e', W, ⟨_, Ar.same W, q, ?_⟩, K.wr W (Or.inr ha), Fr.snoc X' N hn, st⟩
  show (cl.slots.setIfInBounds _ _).toList = _
  rw [hji, Array.toList_setIfInBounds, ev]
theorem own_ldI (X : Stand p l e R s m args below meth c T locs cells slots) (hx : p.tables.exec = Jvm.exec) (hZ : Z.Warmed39 s.vm) (eT : T.heap = h1) {a : Addr} {k : ClassId} {vs : List Value} (A : AL Z h1 a k .int vs) {j : Int32} {v : Value} (hj : ¬ j < 0) (hv : vs[j.toNatClampNeg]? = some v)
    {g : JFrame} (hg : g.method = m) {rest : List Value} (hs : g.stack = .int j :: .ref a :: rest) (hd : decode c.code g.pc = .ok (.iaload, 1)) (target : State)
    (hr : Steps p.tables e below (T.setTop { g with pc := g.pc + 1, stack := v :: rest }) target) : Steps p.tables e below (T.setTop g) target := by
  obtain ⟨cl, Ar, q, ev⟩ := A
  have hi : j.toNatClampNeg < vs.length := (List.getElem?_eq_some_iff.mp hv).1
  exact X.iaload hx (by rw [eT]; exact Ar.1) (State.isArrayOf_alike hZ.alike Ar.2.1) Ar.2.2 (own_in ev hj rfl hi) (by rw [← Array.getElem?_toList, ev]; exact hv) hg hs hd target hr
theorem own_ldR (X : Stand p l e R s m args below meth c T locs cells slots) (hx : p.tables.exec = Jvm.exec) (hZ : Z.Warmed39 s.vm) (eT : T.heap = h1) {a : Addr} {k : ClassId} {ty : FieldType} (hty : ty.isReference = true) {vs : List Value} (A : AL Z h1 a k ty vs) {j : Int32} {v : Value} (hj : ¬ j < 0) (hv : vs[j.toNatClampNeg]? = some v)
    {g : JFrame} (hg : g.method = m) {rest : List Value} (hs : g.stack = .int j :: .ref a :: rest) (hd : decode c.code g.pc = .ok (.aaload, 1)) (target : State)
    (hr : Steps p.tables e below (T.setTop { g with pc := g.pc + 1, stack := v :: rest }) target) : Steps p.tables e below (T.setTop g) target := by
  obtain ⟨cl, Ar, q, ev⟩ := A
  have hi : j.toNatClampNeg < vs.length := (List.getElem?_eq_some_iff.mp hv).1
  exact X.aaload hx (by rw [eT]; exact Ar.1) (State.isArrayOf_alike hZ.alike Ar.2.1) hty Ar.2.2 (own_in ev hj rfl hi) (by rw [← Array.getElem?_toList, ev]; exact hv) hg hs hd target hr
end OwnArr
theorem own_b1 {u : Int32} (h : u = 1) : some (Value.int (nar .boolean 1)) = some (.int u) := by rw [h]; rfl
theorem own_b0 {u : Int32} (h : u = 0) : some (Value.int (nar .boolean 0)) = some (.int u) := by rw [h]; rfl
/-- the law returns 1 and writes nothing that stood at its start -/
def QO (n0 : Nat) (v : Option Value) (h : Heap) (L : List Loc) : Prop := v = some (.int 1) ∧ Fr n0 L
/-- a constant of the enum: the static, its class, its two fields -/
def FF (Z : State) (h : Heap) (f : String) (a : Addr) (lo hi : Int32) : Prop := Sta Z h "com/example/cantilever/cantilever/xpath/CoreCall$Function" f "Lcom/example/cantilever/cantilever/xpath/CoreCall$Function;" (.ref a) ∧ Exa Z h a "com/example/cantilever/cantilever/xpath/CoreCall$Function" ∧ Fld Z h a "com/example/cantilever/cantilever/xpath/CoreCall$Function" "least" "I" (.int lo) ∧ Fld Z h a "com/example/cantilever/cantilever/xpath/CoreCall$Function" "most" "I" (.int hi)
theorem FF.keep {Z : State} {h h' : Heap} {f : String} {a : Addr} {lo hi : Int32} (F : FF Z h f a lo hi) (K : Keep h h' []) : FF Z h' f a lo hi := ⟨own_staKeep F.1 K, F.2.1.keep K, F.2.2.1.keep K (by simp), F.2.2.2.keep K (by simp)⟩
def tk (p2 lo hi : Int32) : Int32 := (if p2 < lo then (0 : Int32) else (if hi < p2 then (0 : Int32) else (1 : Int32)))
def ex (p1 p2 lk mk : Int32) : Int32 := (if p1 = (8 : Int32) then (if p2 < (2 : Int32) then (0 : Int32) else (1 : Int32)) else (if p2 < lk then (0 : Int32) else (if mk < p2 then (0 : Int32) else (1 : Int32))))
def fsL (f0 f1 f2 f3 f4 f5 f6 f7 f8 f9 f10 f11 f12 f13 f14 f15 f16 f17 f18 f19 f20 f21 f22 f23 f24 f25 f26 : Addr) : List Value := [.ref f0, .ref f1, .ref f2, .ref f3, .ref f4, .ref f5, .ref f6, .ref f7, .ref f8, .ref f9, .ref f10, .ref f11, .ref f12, .ref f13, .ref f14, .ref f15, .ref f16, .ref f17, .ref f18, .ref f19, .ref f20, .ref f21, .ref f22, .ref f23, .ref f24, .ref f25, .ref f26]
def leL : List Value := [.int (0 : Int32), .int (0 : Int32), .int (1 : Int32), .int (1 : Int32), .int (0 : Int32), .int (0 : Int32), .int (0 : Int32), .int (0 : Int32), .int (2 : Int32), .int (2 : Int32), .int (2 : Int32), .int (2 : Int32), .int (2 : Int32), .int (2 : Int32), .int (0 : Int32), .int (0 : Int32), .int (3 : Int32), .int (1 : Int32), .int (1 : Int32), .int (0 : Int32), .int (0 : Int32), .int (1 : Int32), .int (0 : Int32), .int (1 : Int32), .int (1 : Int32), .int (1 : Int32), .int (1 : Int32)]
def moL : List Value := [.int (0 : Int32), .int (0 : Int32), .int (1 : Int32), .int (1 : Int32), .int (1 : Int32), .int (1 : Int32), .int (1 : Int32), .int (1 : Int32), .int (0 : Int32), .int (2 : Int32), .int (2 : Int32), .int (2 : Int32), .int (2 : Int32), .int (3 : Int32), .int (1 : Int32), .int (1 : Int32), .int (3 : Int32), .int (1 : Int32), .int (1 : Int32), .int (0 : Int32), .int (0 : Int32), .int (1 : Int32), .int (1 : Int32), .int (1 : Int32), .int (1 : Int32), .int (1 : Int32), .int (1 : Int32)]
theorem own_mod27 (x : Int32) : (x &&& (2147483647 : Int32)) % (27 : Int32) = (0 : Int32) ∨ (x &&& (2147483647 : Int32)) % (27 : Int32) = (1 : Int32) ∨ (x &&& (2147483647 : Int32)) % (27 : Int32) = (2 : Int32) ∨ (x &&& (2147483647 : Int32)) % (27 : Int32) = (3 : Int32) ∨ (x &&& (2147483647 : Int32)) % (27 : Int32) = (4 : Int32) ∨ (x &&& (2147483647 : Int32)) % (27 : Int32) = (5 : Int32) ∨ (x &&& (2147483647 : Int32)) % (27 : Int32) = (6 : Int32) ∨ (x &&& (2147483647 : Int32)) % (27 : Int32) = (7 : Int32) ∨ (x &&& (2147483647 : Int32)) % (27 : Int32) = (8 : Int32) ∨ (x &&& (2147483647 : Int32)) % (27 : Int32) = (9 : Int32) ∨ (x &&& (2147483647 : Int32)) % (27 : Int32) = (10 : Int32) ∨ (x &&& (2147483647 : Int32)) % (27 : Int32) = (11 : Int32) ∨ (x &&& (2147483647 : Int32)) % (27 : Int32) = (12 : Int32) ∨ (x &&& (2147483647 : Int32)) % (27 : Int32) = (13 : Int32) ∨ (x &&& (2147483647 : Int32)) % (27 : Int32) = (14 : Int32) ∨ (x &&& (2147483647 : Int32)) % (27 : Int32) = (15 : Int32) ∨ (x &&& (2147483647 : Int32)) % (27 : Int32) = (16 : Int32) ∨ (x &&& (2147483647 : Int32)) % (27 : Int32) = (17 : Int32) ∨ (x &&& (2147483647 : Int32)) % (27 : Int32) = (18 : Int32) ∨ (x &&& (2147483647 : Int32)) % (27 : Int32) = (19 : Int32) ∨ (x &&& (2147483647 : Int32)) % (27 : Int32) = (20 : Int32) ∨ (x &&& (2147483647 : Int32)) % (27 : Int32) = (21 : Int32) ∨ (x &&& (2147483647 : Int32)) % (27 : Int32) = (22 : Int32) ∨ (x &&& (2147483647 : Int32)) % (27 : Int32) = (23 : Int32) ∨ (x &&& (2147483647 : Int32)) % (27 : Int32) = (24 : Int32) ∨ (x &&& (2147483647 : Int32)) % (27 : Int32) = (25 : Int32) ∨ (x &&& (2147483647 : Int32)) % (27 : Int32) = (26 : Int32) := by
  have h1 := c_mask x 2147483647 31 (by decide) (by decide)
  have h2 := (c_irem (x &&& 2147483647) 27 27 (by decide)).1 (by omega)
  generalize (x &&& 2147483647) % 27 = k at h2 ⊢
  have h4 : 0 ≤ k.toInt ∧ k.toInt < 27 := by omega
  clear h2 h1
  have h3 : ∃ j : Fin 27, k = Int32.ofNat j.1 := ⟨⟨k.toInt.toNat, by omega⟩, Int32.toInt_inj.mp (by rw [Int32.toInt_ofNat_small (by show k.toInt.toNat < 2 ^ 31; omega)]; show k.toInt = (k.toInt.toNat : Int); omega)⟩
  obtain ⟨j, rfl⟩ := h3
  clear h4
  revert j
  decide +kernel
theorem own_top (n : Int32) : ¬ ((2147483647 : Int32) < n) := by
  rw [Int32.lt_iff_toInt_lt, show (2147483647 : Int32).toInt = 2147483647 from by decide]
  have := n.toInt_lt
  omega
set_option maxHeartbeats 40000000 in
theorem own_sel {Z : State} {h : Heap} {f0 f1 f2 f3 f4 f5 f6 f7 f8 f9 f10 f11 f12 f13 f14 f15 f16 f17 f18 f19 f20 f21 f22 f23 f24 f25 f26 : Addr} (k : Int32) (hk : k = (0 : Int32) ∨ k = (1 : Int32) ∨ k = (2 : Int32) ∨ k = (3 : Int32) ∨ k = (4 : Int32) ∨ k = (5 : Int32) ∨ k = (6 : Int32) ∨ k = (7 : Int32) ∨ k = (8 : Int32) ∨ k = (9 : Int32) ∨ k = (10 : Int32) ∨ k = (11 : Int32) ∨ k = (12 : Int32) ∨ k = (13 : Int32) ∨ k = (14 : Int32) ∨ k = (15 : Int32) ∨ k = (16 : Int32) ∨ k = (17 : Int32) ∨ k = (18 : Int32) ∨ k = (19 : Int32) ∨ k = (20 : Int32) ∨ k = (21 : Int32) ∨ k = (22 : Int32) ∨ k = (23 : Int32) ∨ k = (24 : Int32) ∨ k = (25 : Int32) ∨ k = (26 : Int32)) (H0 : FF Z h "LAST" f0 0 0) (H1 : FF Z h "POSITION" f1 0 0) (H2 : FF Z h "COUNT" f2 1 1) (H3 : FF Z h "ID" f3 1 1) (H4 : FF Z h "LOCAL_NAME" f4 0 1) (H5 : FF Z h "NAMESPACE_URI" f5 0 1) (H6 : FF Z h "NAME" f6 0 1) (H7 : FF Z h "STRING" f7 0 1) (H8 : FF Z h "CONCAT" f8 2 2147483647) (H9 : FF Z h "STARTS_WITH" f9 2 2) (H10 : FF Z h "CONTAINS" f10 2 2) (H11 : FF Z h "SUBSTRING_BEFORE" f11 2 2) (H12 : FF Z h "SUBSTRING_AFTER" f12 2 2) (H13 : FF Z h "SUBSTRING" f13 2 3) (H14 : FF Z h "STRING_LENGTH" f14 0 1) (H15 : FF Z h "NORMALIZE_SPACE" f15 0 1) (H16 : FF Z h "TRANSLATE" f16 3 3) (H17 : FF Z h "BOOLEAN" f17 1 1) (H18 : FF Z h "NOT" f18 1 1) (H19 : FF Z h "TRUE" f19 0 0) (H20 : FF Z h "FALSE" f20 0 0) (H21 : FF Z h "LANG" f21 1 1) (H22 : FF Z h "NUMBER" f22 0 1) (H23 : FF Z h "SUM" f23 1 1) (H24 : FF Z h "FLOOR" f24 1 1) (H25 : FF Z h "CEILING" f25 1 1) (H26 : FF Z h "ROUND" f26 1 1) :
    ∃ (r : Addr) (lo hi lk mk : Int32), ¬ k < 0 ∧ (fsL f0 f1 f2 f3 f4 f5 f6 f7 f8 f9 f10 f11 f12 f13 f14 f15 f16 f17 f18 f19 f20 f21 f22 f23 f24 f25 f26)[k.toNatClampNeg]? = some (.ref r) ∧ leL[k.toNatClampNeg]? = some (.int lk) ∧ moL[k.toNatClampNeg]? = some (.int mk) ∧ Exa Z h r "com/example/cantilever/cantilever/xpath/CoreCall$Function" ∧ Fld Z h r "com/example/cantilever/cantilever/xpath/CoreCall$Function" "least" "I" (.int lo) ∧ Fld Z h r "com/example/cantilever/cantilever/xpath/CoreCall$Function" "most" "I" (.int hi) ∧ ∀ n, ex k n lk mk = tk n lo hi := by
  rcases hk with rfl | rfl | rfl | rfl | rfl | rfl | rfl | rfl | rfl | rfl | rfl | rfl | rfl | rfl | rfl | rfl | rfl | rfl | rfl | rfl | rfl | rfl | rfl | rfl | rfl | rfl | rfl
  · have hN : ((0 : Int32)).toNatClampNeg = 0 := by decide
    exact ⟨f0, 0, 0, 0, 0, by decide, by rw [hN]; rfl, by rw [hN]; rfl, by rw [hN]; rfl, H0.2.1, H0.2.2.1, H0.2.2.2, (fun n => by rw [ex, tk, if_neg (by decide)])⟩
  · have hN : ((1 : Int32)).toNatClampNeg = 1 := by decide
    exact ⟨f1, 0, 0, 0, 0, by decide, by rw [hN]; rfl, by rw [hN]; rfl, by rw [hN]; rfl, H1.2.1, H1.2.2.1, H1.2.2.2, (fun n => by rw [ex, tk, if_neg (by decide)])⟩
  · have hN : ((2 : Int32)).toNatClampNeg = 2 := by decide
    exact ⟨f2, 1, 1, 1, 1, by decide, by rw [hN]; rfl, by rw [hN]; rfl, by rw [hN]; rfl, H2.2.1, H2.2.2.1, H2.2.2.2, (fun n => by rw [ex, tk, if_neg (by decide)])⟩
  · have hN : ((3 : Int32)).toNatClampNeg = 3 := by decide
    exact ⟨f3, 1, 1, 1, 1, by decide, by rw [hN]; rfl, by rw [hN]; rfl, by rw [hN]; rfl, H3.2.1, H3.2.2.1, H3.2.2.2, (fun n => by rw [ex, tk, if_neg (by decide)])⟩
  · have hN : ((4 : Int32)).toNatClampNeg = 4 := by decide
    exact ⟨f4, 0, 1, 0, 1, by decide, by rw [hN]; rfl, by rw [hN]; rfl, by rw [hN]; rfl, H4.2.1, H4.2.2.1, H4.2.2.2, (fun n => by rw [ex, tk, if_neg (by decide)])⟩
  · have hN : ((5 : Int32)).toNatClampNeg = 5 := by decide
    exact ⟨f5, 0, 1, 0, 1, by decide, by rw [hN]; rfl, by rw [hN]; rfl, by rw [hN]; rfl, H5.2.1, H5.2.2.1, H5.2.2.2, (fun n => by rw [ex, tk, if_neg (by decide)])⟩
  · have hN : ((6 : Int32)).toNatClampNeg = 6 := by decide
    exact ⟨f6, 0, 1, 0, 1, by decide, by rw [hN]; rfl, by rw [hN]; rfl, by rw [hN]; rfl, H6.2.1, H6.2.2.1, H6.2.2.2, (fun n => by rw [ex, tk, if_neg (by decide)])⟩
  · have hN : ((7 : Int32)).toNatClampNeg = 7 := by decide
    exact ⟨f7, 0, 1, 0, 1, by decide, by rw [hN]; rfl, by rw [hN]; rfl, by rw [hN]; rfl, H7.2.1, H7.2.2.1, H7.2.2.2, (fun n => by rw [ex, tk, if_neg (by decide)])⟩
  · have hN : ((8 : Int32)).toNatClampNeg = 8 := by decide
    exact ⟨f8, 2, 2147483647, 2, 0, by decide, by rw [hN]; rfl, by rw [hN]; rfl, by rw [hN]; rfl, H8.2.1, H8.2.2.1, H8.2.2.2, (fun n => by rw [ex, tk, if_pos rfl, if_neg (own_top n)])⟩
  · have hN : ((9 : Int32)).toNatClampNeg = 9 := by decide
    exact ⟨f9, 2, 2, 2, 2, by decide, by rw [hN]; rfl, by rw [hN]; rfl, by rw [hN]; rfl, H9.2.1, H9.2.2.1, H9.2.2.2, (fun n => by rw [ex, tk, if_neg (by decide)])⟩
  · have hN : ((10 : Int32)).toNatClampNeg = 10 := by decide
    exact ⟨f10, 2, 2, 2, 2, by decide, by rw [hN]; rfl, by rw [hN]; rfl, by rw [hN]; rfl, H10.2.1, H10.2.2.1, H10.2.2.2, (fun n => by rw [ex, tk, if_neg (by decide)])⟩
  · have hN : ((11 : Int32)).toNatClampNeg = 11 := by decide
    exact ⟨f11, 2, 2, 2, 2, by decide, by rw [hN]; rfl, by rw [hN]; rfl, by rw [hN]; rfl, H11.2.1, H11.2.2.1, H11.2.2.2, (fun n => by rw [ex, tk, if_neg (by decide)])⟩
  · have hN : ((12 : Int32)).toNatClampNeg = 12 := by decide
    exact ⟨f12, 2, 2, 2, 2, by decide, by rw [hN]; rfl, by rw [hN]; rfl, by rw [hN]; rfl, H12.2.1, H12.2.2.1, H12.2.2.2, (fun n => by rw [ex, tk, if_neg (by decide)])⟩
  · have hN : ((13 : Int32)).toNatClampNeg = 13 := by decide
    exact ⟨f13, 2, 3, 2, 3, by decide, by rw [hN]; rfl, by rw [hN]; rfl, by rw [hN]; rfl, H13.2.1, H13.2.2.1, H13.2.2.2, (fun n => by rw [ex, tk, if_neg (by decide)])⟩
  · have hN : ((14 : Int32)).toNatClampNeg = 14 := by decide
    exact ⟨f14, 0, 1, 0, 1, by decide, by rw [hN]; rfl, by rw [hN]; rfl, by rw [hN]; rfl, H14.2.1, H14.2.2.1, H14.2.2.2, (fun n => by rw [ex, tk, if_neg (by decide)])⟩
  · have hN : ((15 : Int32)).toNatClampNeg = 15 := by decide
    exact ⟨f15, 0, 1, 0, 1, by decide, by rw [hN]; rfl, by rw [hN]; rfl, by rw [hN]; rfl, H15.2.1, H15.2.2.1, H15.2.2.2, (fun n => by rw [ex, tk, if_neg (by decide)])⟩
  · have hN : ((16 : Int32)).toNatClampNeg = 16 := by decide
    exact ⟨f16, 3, 3, 3, 3, by decide, by rw [hN]; rfl, by rw [hN]; rfl, by rw [hN]; rfl, H16.2.1, H16.2.2.1, H16.2.2.2, (fun n => by rw [ex, tk, if_neg (by decide)])⟩
  · have hN : ((17 : Int32)).toNatClampNeg = 17 := by decide
    exact ⟨f17, 1, 1, 1, 1, by decide, by rw [hN]; rfl, by rw [hN]; rfl, by rw [hN]; rfl, H17.2.1, H17.2.2.1, H17.2.2.2, (fun n => by rw [ex, tk, if_neg (by decide)])⟩
  · have hN : ((18 : Int32)).toNatClampNeg = 18 := by decide
    exact ⟨f18, 1, 1, 1, 1, by decide, by rw [hN]; rfl, by rw [hN]; rfl, by rw [hN]; rfl, H18.2.1, H18.2.2.1, H18.2.2.2, (fun n => by rw [ex, tk, if_neg (by decide)])⟩
  · have hN : ((19 : Int32)).toNatClampNeg = 19 := by decide
    exact ⟨f19, 0, 0, 0, 0, by decide, by rw [hN]; rfl, by rw [hN]; rfl, by rw [hN]; rfl, H19.2.1, H19.2.2.1, H19.2.2.2, (fun n => by rw [ex, tk, if_neg (by decide)])⟩
  · have hN : ((20 : Int32)).toNatClampNeg = 20 := by decide
    exact ⟨f20, 0, 0, 0, 0, by decide, by rw [hN]; rfl, by rw [hN]; rfl, by rw [hN]; rfl, H20.2.1, H20.2.2.1, H20.2.2.2, (fun n => by rw [ex, tk, if_neg (by decide)])⟩
  · have hN : ((21 : Int32)).toNatClampNeg = 21 := by decide
    exact ⟨f21, 1, 1, 1, 1, by decide, by rw [hN]; rfl, by rw [hN]; rfl, by rw [hN]; rfl, H21.2.1, H21.2.2.1, H21.2.2.2, (fun n => by rw [ex, tk, if_neg (by decide)])⟩
  · have hN : ((22 : Int32)).toNatClampNeg = 22 := by decide
    exact ⟨f22, 0, 1, 0, 1, by decide, by rw [hN]; rfl, by rw [hN]; rfl, by rw [hN]; rfl, H22.2.1, H22.2.2.1, H22.2.2.2, (fun n => by rw [ex, tk, if_neg (by decide)])⟩
  · have hN : ((23 : Int32)).toNatClampNeg = 23 := by decide
    exact ⟨f23, 1, 1, 1, 1, by decide, by rw [hN]; rfl, by rw [hN]; rfl, by rw [hN]; rfl, H23.2.1, H23.2.2.1, H23.2.2.2, (fun n => by rw [ex, tk, if_neg (by decide)])⟩
  · have hN : ((24 : Int32)).toNatClampNeg = 24 := by decide
    exact ⟨f24, 1, 1, 1, 1, by decide, by rw [hN]; rfl, by rw [hN]; rfl, by rw [hN]; rfl, H24.2.1, H24.2.2.1, H24.2.2.2, (fun n => by rw [ex, tk, if_neg (by decide)])⟩
  · have hN : ((25 : Int32)).toNatClampNeg = 25 := by decide
    exact ⟨f25, 1, 1, 1, 1, by decide, by rw [hN]; rfl, by rw [hN]; rfl, by rw [hN]; rfl, H25.2.1, H25.2.2.1, H25.2.2.2, (fun n => by rw [ex, tk, if_neg (by decide)])⟩
  · have hN : ((26 : Int32)).toNatClampNeg = 26 := by decide
    exact ⟨f26, 1, 1, 1, 1, by decide, by rw [hN]; rfl, by rw [hN]; rfl, by rw [hN]; rfl, H26.2.1, H26.2.2.1, H26.2.2.2, (fun n => by rw [ex, tk, if_neg (by decide)])⟩
theorem ef_1 (m : MethodId) (a1 : Addr) (p2 : Int32) : entryFrame m #[(.ref a1), (.int p2)] 2 = mkF m 0 #[.val (.ref a1), .val (.int p2)] [] := by first | (simp [entryFrame, mkF, argsToLocals, Value.category]; done) | rfl
theorem pn_1 : plainName "com/example/cantilever/cantilever/xpath/CoreCall$Function" = true := by first | (simp [plainName, overriddenIn]; done) | decide +kernel
theorem d1_0 : decode prog_216_method_6_code 0 = .ok (.iload_n 1, 1) := by decide +kernel
theorem d1_1 : decode prog_216_method_6_code 1 = .ok (.aload_n 0, 1) := by decide +kernel
theorem d1_2 : decode prog_216_method_6_code 2 = .ok (.getfield 108, 3) := by decide +kernel
theorem d1_5 : decode prog_216_method_6_code 5 = .ok (.if_icmp .lt 15, 3) := by decide +kernel
theorem d1_20 : decode prog_216_method_6_code 20 = .ok (.iconst 0, 1) := by decide +kernel
theorem d1_21 : decode prog_216_method_6_code 21 = .ok (.ireturn, 1) := by decide +kernel
theorem d1_8 : decode prog_216_method_6_code 8 = .ok (.iload_n 1, 1) := by decide +kernel
theorem d1_9 : decode prog_216_method_6_code 9 = .ok (.aload_n 0, 1) := by decide +kernel
theorem d1_10 : decode prog_216_method_6_code 10 = .ok (.getfield 112, 3) := by decide +kernel
theorem d1_13 : decode prog_216_method_6_code 13 = .ok (.if_icmp .gt 7, 3) := by decide +kernel
theorem d1_16 : decode prog_216_method_6_code 16 = .ok (.iconst 1, 1) := by decide +kernel
theorem d1_17 : decode prog_216_method_6_code 17 = .ok (.goto 4, 3) := by decide +kernel
theorem ef_2 (m : MethodId) (p1 : Int32) (p2 : Int32) (a3 : Addr) (a4 : Addr) : entryFrame m #[(.int p1), (.int p2), (.ref a3), (.ref a4)] 4 = mkF m 0 #[.val (.int p1), .val (.int p2), .val (.ref a3), .val (.ref a4)] [] := by first | (simp [entryFrame, mkF, argsToLocals, Value.category]; done) | rfl
theorem pn_2 : plainName "com/example/cantilever/cantilever/xpath/CoreCallFunctionTakesPinLaw" = true := by first | (simp [plainName, overriddenIn]; done) | decide +kernel
theorem d2_0 : decode method_3_code 0 = .ok (.iload_n 0, 1) := by decide +kernel
theorem d2_1 : decode method_3_code 1 = .ok (.bipush 8, 2) := by decide +kernel
theorem d2_3 : decode method_3_code 3 = .ok (.if_icmp .ne 14, 3) := by decide +kernel
theorem d2_6 : decode method_3_code 6 = .ok (.iload_n 1, 1) := by decide +kernel
theorem d2_7 : decode method_3_code 7 = .ok (.iconst 2, 1) := by decide +kernel
theorem d2_8 : decode method_3_code 8 = .ok (.if_icmp .lt 7, 3) := by decide +kernel
theorem d2_15 : decode method_3_code 15 = .ok (.iconst 0, 1) := by decide +kernel
theorem d2_16 : decode method_3_code 16 = .ok (.ireturn, 1) := by decide +kernel
theorem d2_11 : decode method_3_code 11 = .ok (.iconst 1, 1) := by decide +kernel
theorem d2_12 : decode method_3_code 12 = .ok (.goto 4, 3) := by decide +kernel
theorem d2_17 : decode method_3_code 17 = .ok (.iload_n 1, 1) := by decide +kernel
theorem d2_18 : decode method_3_code 18 = .ok (.aload_n 2, 1) := by decide +kernel
theorem d2_19 : decode method_3_code 19 = .ok (.iload_n 0, 1) := by decide +kernel
theorem d2_20 : decode method_3_code 20 = .ok (.iaload, 1) := by decide +kernel
theorem d2_21 : decode method_3_code 21 = .ok (.if_icmp .lt 14, 3) := by decide +kernel
theorem d2_35 : decode method_3_code 35 = .ok (.iconst 0, 1) := by decide +kernel
theorem d2_36 : decode method_3_code 36 = .ok (.ireturn, 1) := by decide +kernel
theorem d2_24 : decode method_3_code 24 = .ok (.iload_n 1, 1) := by decide +kernel
theorem d2_25 : decode method_3_code 25 = .ok (.aload_n 3, 1) := by decide +kernel
theorem d2_26 : decode method_3_code 26 = .ok (.iload_n 0, 1) := by decide +kernel
theorem d2_27 : decode method_3_code 27 = .ok (.iaload, 1) := by decide +kernel
theorem d2_28 : decode method_3_code 28 = .ok (.if_icmp .gt 7, 3) := by decide +kernel
theorem d2_31 : decode method_3_code 31 = .ok (.iconst 1, 1) := by decide +kernel
theorem d2_32 : decode method_3_code 32 = .ok (.goto 4, 3) := by decide +kernel
theorem ef_0 (m : MethodId) (p1 : Int32) (p2 : Int32) (p3 : Int32) : entryFrame m #[(.int p1), (.int p2), (.int p3)] maxLocals = mkF m 0 #[.val (.int p1), .val (.int p2), .val (.int p3), .unset, .unset, .unset, .unset, .unset, .unset, .unset, .unset] [] := by first | (simp [entryFrame, mkF, argsToLocals, Value.category, maxLocals]; done) | rfl
theorem pn_0 : plainName "com/example/cantilever/cantilever/xpath/CoreCallFunctionTakesPinLaw" = true := by first | (simp [plainName, overriddenIn]; done) | decide +kernel
theorem pd__I_Z : parseMethodDescriptor "(I)Z" = some ⟨[.int], some .boolean⟩ := by decide +kernel
theorem pd__II_I_I_Z : parseMethodDescriptor "(II[I[I)Z" = some ⟨[.int, .int, (.array .int), (.array .int)], some .boolean⟩ := by decide +kernel
set_option maxRecDepth 65536 in
set_option maxHeartbeats 40000000 in
theorem rm1 (l : Launch) (Z : State) (a0 : Array Value) (hw : ∀ d ∈ tables_1, d.before a0 Z = true) (ws : List Jvm.Cond) (a1 : Addr) (p2 lo hi u : Int32) (h0 : Heap) (n0 : Nat) (F1 : Fld Z h0 a1 "com/example/cantilever/cantilever/xpath/CoreCall$Function" "least" "I" (.int lo)) (F2 : Fld Z h0 a1 "com/example/cantilever/cantilever/xpath/CoreCall$Function" "most" "I" (.int hi)) (hu : u = tk p2 lo hi) :
    MetFree l (⟨"com/example/cantilever/cantilever/xpath/CoreCall$Function", "takes", "(I)Z"⟩ : MethodName) (head1 (Jvm.Cond.code (⟨"com/example/cantilever/cantilever/xpath/CoreCall$Function", "takes", "(I)Z"⟩ : MethodName) prog_216_method_6_code 2 (some .boolean) :: ws) ({ frames := 0, cells := 0, slots := 0, locals := 0 } : Room)) (fun a U => a = #[(.ref a1), (.int p2)] ∧ Z.Warmed39 U.vm ∧ U.heap = h0) (fun _ _ _ _ _ => True) (fun _ U o U' => ∃ v L, o = .returned v ∧ QV (.int u) h0 n0 v U'.heap L ∧ FrameEnd U o U' L ({ frames := 0, cells := 0, slots := 0, locals := 0 } : Room).cells ({ frames := 0, cells := 0, slots := 0, locals := 0 } : Room).slots) := by
  refine metRun (Z := Z) (plainFor_of_name pn_1) (fun m => ef_1 m a1 p2) ?_
  intro p e s m below meth c s₁ X0 hx hby hml hown hnm hret hZ e0 e00
  replace hown : s.vm.findClass "com/example/cantilever/cantilever/xpath/CoreCall$Function" = some m.cls := hown
  have N0 := Fr.nil n0
  obtain ⟨T1, X1, e1, st1⟩ := getF X0 hx hZ hown (host := "") (Or.inl (hw _ (List.mem_of_getElem? (i := 65) rfl))) Via.refl e0 F1 (g := (mkF m 2 #[.val (.ref a1), .val (.int p2)] [(.ref a1), (.int p2)])) rfl rfl (hb hby d1_2)
  refine Run.step (T1 := T1) (g1 := (mkF m 5 #[.val (.ref a1), .val (.int p2)] [(.int lo), (.int p2)])) (fun target kt => ?_) ?_
  · show Steps p.tables e below (s₁.setTop (mkF m 0 #[.val (.ref a1), .val (.int p2)] [])) _
    refine XS.iloadN X0.here hx rfl (hb hby d1_0) rfl ?_
    show Steps p.tables e below (s₁.setTop (mkF m 1 #[.val (.ref a1), .val (.int p2)] [(.int p2)])) _
    refine XS.aloadN X0.here hx rfl (hb hby d1_1) rfl rfl ?_
    show Steps p.tables e below (s₁.setTop (mkF m 2 #[.val (.ref a1), .val (.int p2)] [(.ref a1), (.int p2)])) _
    refine st1 _ ?_
    exact kt
  by_cases hc5 : p2 < lo
  · refine Run.step (T1 := T1) (g1 := (mkF m 20 #[.val (.ref a1), .val (.int p2)] [])) (fun target kt => ?_) ?_
    · show Steps p.tables e below (T1.setTop (mkF m 5 #[.val (.ref a1), .val (.int p2)] [(.int lo), (.int p2)])) _
      refine XS.icmpYes X1.here hx rfl (pc0 := 5) (pc' := 20) rfl (hb hby d1_5) rfl (tlt hc5).1 (by decide) (by decide) ?_
      exact kt
    refine Run.step (T1 := T1) (g1 := (mkF m 21 #[.val (.ref a1), .val (.int p2)] [(.int (0 : Int32))])) (fun target kt => ?_) ?_
    · show Steps p.tables e below (T1.setTop (mkF m 20 #[.val (.ref a1), .val (.int p2)] [])) _
      refine XS.iconst X1.here hx rfl (hb hby d1_20) ?_
      exact kt
    exact Run.retZ X1 hx (t := .boolean) hret (by simp) (hb hby d1_21) ⟨Nat.le_refl _, Nat.le_refl _, own_b0 (hu.trans (by rw [tk, if_pos hc5])), N0, e1⟩
  · refine Run.step (T1 := T1) (g1 := (mkF m 8 #[.val (.ref a1), .val (.int p2)] [])) (fun target kt => ?_) ?_
    · show Steps p.tables e below (T1.setTop (mkF m 5 #[.val (.ref a1), .val (.int p2)] [(.int lo), (.int p2)])) _
      refine XS.icmpNo X1.here hx rfl (hb hby d1_5) rfl (flt hc5).1 ?_
      exact kt
    obtain ⟨T2, X2, e2, st2⟩ := getF X1 hx hZ hown (host := "") (Or.inl (hw _ (List.mem_of_getElem? (i := 67) rfl))) Via.refl e1 F2 (g := (mkF m 10 #[.val (.ref a1), .val (.int p2)] [(.ref a1), (.int p2)])) rfl rfl (hb hby d1_10)
    refine Run.step (T1 := T2) (g1 := (mkF m 13 #[.val (.ref a1), .val (.int p2)] [(.int hi), (.int p2)])) (fun target kt => ?_) ?_
    · show Steps p.tables e below (T1.setTop (mkF m 8 #[.val (.ref a1), .val (.int p2)] [])) _
      refine XS.iloadN X1.here hx rfl (hb hby d1_8) rfl ?_
      show Steps p.tables e below (T1.setTop (mkF m 9 #[.val (.ref a1), .val (.int p2)] [(.int p2)])) _
      refine XS.aloadN X1.here hx rfl (hb hby d1_9) rfl rfl ?_
      show Steps p.tables e below (T1.setTop (mkF m 10 #[.val (.ref a1), .val (.int p2)] [(.ref a1), (.int p2)])) _
      refine st2 _ ?_
      exact kt
    by_cases hc13 : hi < p2
    · refine Run.step (T1 := T2) (g1 := (mkF m 20 #[.val (.ref a1), .val (.int p2)] [])) (fun target kt => ?_) ?_
      · show Steps p.tables e below (T2.setTop (mkF m 13 #[.val (.ref a1), .val (.int p2)] [(.int hi), (.int p2)])) _
        refine XS.icmpYes X2.here hx rfl (pc0 := 13) (pc' := 20) rfl (hb hby d1_13) rfl (tlt hc13).2.2.1 (by decide) (by decide) ?_
        exact kt
      refine Run.step (T1 := T2) (g1 := (mkF m 21 #[.val (.ref a1), .val (.int p2)] [(.int (0 : Int32))])) (fun target kt => ?_) ?_
      · show Steps p.tables e below (T2.setTop (mkF m 20 #[.val (.ref a1), .val (.int p2)] [])) _
        refine XS.iconst X2.here hx rfl (hb hby d1_20) ?_
        exact kt
      exact Run.retZ X2 hx (t := .boolean) hret (by simp) (hb hby d1_21) ⟨Nat.le_refl _, Nat.le_refl _, own_b0 (hu.trans (by rw [tk, if_neg hc5, if_pos hc13])), N0, e2⟩
    · refine Run.step (T1 := T2) (g1 := (mkF m 16 #[.val (.ref a1), .val (.int p2)] [])) (fun target kt => ?_) ?_
      · show Steps p.tables e below (T2.setTop (mkF m 13 #[.val (.ref a1), .val (.int p2)] [(.int hi), (.int p2)])) _
        refine XS.icmpNo X2.here hx rfl (hb hby d1_13) rfl (flt hc13).2.2.1 ?_
        exact kt
      refine Run.step (T1 := T2) (g1 := (mkF m 21 #[.val (.ref a1), .val (.int p2)] [(.int (1 : Int32))])) (fun target kt => ?_) ?_
      · show Steps p.tables e below (T2.setTop (mkF m 16 #[.val (.ref a1), .val (.int p2)] [])) _
        refine XS.iconst X2.here hx rfl (hb hby d1_16) ?_
        show Steps p.tables e below (T2.setTop (mkF m 17 #[.val (.ref a1), .val (.int p2)] [(.int (1 : Int32))])) _
        refine XS.goto X2.here hx rfl (pc0 := 17) (pc' := 21) rfl (hb hby d1_17) (by decide) (by decide) ?_
        exact kt
      exact Run.retZ X2 hx (t := .boolean) hret (by simp) (hb hby d1_21) ⟨Nat.le_refl _, Nat.le_refl _, own_b1 (hu.trans (by rw [tk, if_neg hc5, if_neg hc13])), N0, e2⟩
set_option maxRecDepth 65536 in
set_option maxHeartbeats 40000000 in
theorem rm2 (l : Launch) (Z : State) (a0 : Array Value) (hw : ∀ d ∈ tables_1, d.before a0 Z = true) (ws : List Jvm.Cond) (p1 p2 : Int32) (a3 a4 : Addr) (lk mk u : Int32) (k3 k4 : ClassId) (vs3 vs4 : List Value) (h0 : Heap) (n0 : Nat) (A3 : AL Z h0 a3 k3 .int vs3) (A4 : AL Z h0 a4 k4 .int vs4) (hj : ¬ p1 < 0) (g3 : vs3[p1.toNatClampNeg]? = some (.int lk)) (g4 : vs4[p1.toNatClampNeg]? = some (.int mk)) (hu : u = ex p1 p2 lk mk) :
    MetFree l (⟨"com/example/cantilever/cantilever/xpath/CoreCallFunctionTakesPinLaw", "expected", "(II[I[I)Z"⟩ : MethodName) (head1 (Jvm.Cond.code (⟨"com/example/cantilever/cantilever/xpath/CoreCallFunctionTakesPinLaw", "expected", "(II[I[I)Z"⟩ : MethodName) method_3_code 4 (some .boolean) :: ws) ({ frames := 0, cells := 0, slots := 0, locals := 0 } : Room)) (fun a U => a = #[(.int p1), (.int p2), (.ref a3), (.ref a4)] ∧ Z.Warmed39 U.vm ∧ U.heap = h0) (fun _ _ _ _ _ => True) (fun _ U o U' => ∃ v L, o = .returned v ∧ QV (.int u) h0 n0 v U'.heap L ∧ FrameEnd U o U' L ({ frames := 0, cells := 0, slots := 0, locals := 0 } : Room).cells ({ frames := 0, cells := 0, slots := 0, locals := 0 } : Room).slots) := by
  refine metRun (Z := Z) (plainFor_of_name pn_2) (fun m => ef_2 m p1 p2 a3 a4) ?_
  intro p e s m below meth c s₁ X0 hx hby hml hown hnm hret hZ e0 e00
  replace hown : s.vm.findClass "com/example/cantilever/cantilever/xpath/CoreCallFunctionTakesPinLaw" = some m.cls := hown
  have N0 := Fr.nil n0
  refine Run.step (T1 := s₁) (g1 := (mkF m 3 #[.val (.int p1), .val (.int p2), .val (.ref a3), .val (.ref a4)] [(.int (8 : Int32)), (.int p1)])) (fun target kt => ?_) ?_
  · show Steps p.tables e below (s₁.setTop (mkF m 0 #[.val (.int p1), .val (.int p2), .val (.ref a3), .val (.ref a4)] [])) _
    refine XS.iloadN X0.here hx rfl (hb hby d2_0) rfl ?_
    show Steps p.tables e below (s₁.setTop (mkF m 1 #[.val (.int p1), .val (.int p2), .val (.ref a3), .val (.ref a4)] [(.int p1)])) _
    refine XS.bipush X0.here hx rfl (hb hby d2_1) ?_
    exact kt
  by_cases hc3 : p1 = (8 : Int32)
  · refine Run.step (T1 := s₁) (g1 := (mkF m 6 #[.val (.int p1), .val (.int p2), .val (.ref a3), .val (.ref a4)] [])) (fun target kt => ?_) ?_
    · show Steps p.tables e below (s₁.setTop (mkF m 3 #[.val (.int p1), .val (.int p2), .val (.ref a3), .val (.ref a4)] [(.int (8 : Int32)), (.int p1)])) _
      refine XS.icmpNo X0.here hx rfl (hb hby d2_3) rfl (teq hc3).2 ?_
      exact kt
    refine Run.step (T1 := s₁) (g1 := (mkF m 8 #[.val (.int p1), .val (.int p2), .val (.ref a3), .val (.ref a4)] [(.int (2 : Int32)), (.int p2)])) (fun target kt => ?_) ?_
    · show Steps p.tables e below (s₁.setTop (mkF m 6 #[.val (.int p1), .val (.int p2), .val (.ref a3), .val (.ref a4)] [])) _
      refine XS.iloadN X0.here hx rfl (hb hby d2_6) rfl ?_
      show Steps p.tables e below (s₁.setTop (mkF m 7 #[.val (.int p1), .val (.int p2), .val (.ref a3), .val (.ref a4)] [(.int p2)])) _
      refine XS.iconst X0.here hx rfl (hb hby d2_7) ?_
      exact kt
    by_cases hc8 : p2 < (2 : Int32)
    · refine Run.step (T1 := s₁) (g1 := (mkF m 15 #[.val (.int p1), .val (.int p2), .val (.ref a3), .val (.ref a4)] [])) (fun target kt => ?_) ?_
      · show Steps p.tables e below (s₁.setTop (mkF m 8 #[.val (.int p1), .val (.int p2), .val (.ref a3), .val (.ref a4)] [(.int (2 : Int32)), (.int p2)])) _
        refine XS.icmpYes X0.here hx rfl (pc0 := 8) (pc' := 15) rfl (hb hby d2_8) rfl (tlt hc8).1 (by decide) (by decide) ?_
        exact kt
      refine Run.step (T1 := s₁) (g1 := (mkF m 16 #[.val (.int p1), .val (.int p2), .val (.ref a3), .val (.ref a4)] [(.int (0 : Int32))])) (fun target kt => ?_) ?_
      · show Steps p.tables e below (s₁.setTop (mkF m 15 #[.val (.int p1), .val (.int p2), .val (.ref a3), .val (.ref a4)] [])) _
        refine XS.iconst X0.here hx rfl (hb hby d2_15) ?_
        exact kt
      exact Run.retZ X0 hx (t := .boolean) hret (by simp) (hb hby d2_16) ⟨Nat.le_refl _, Nat.le_refl _, own_b0 (hu.trans (by rw [ex, if_pos hc3, if_pos hc8])), N0, e0⟩
    · refine Run.step (T1 := s₁) (g1 := (mkF m 11 #[.val (.int p1), .val (.int p2), .val (.ref a3), .val (.ref a4)] [])) (fun target kt => ?_) ?_
      · show Steps p.tables e below (s₁.setTop (mkF m 8 #[.val (.int p1), .val (.int p2), .val (.ref a3), .val (.ref a4)] [(.int (2 : Int32)), (.int p2)])) _
        refine XS.icmpNo X0.here hx rfl (hb hby d2_8) rfl (flt hc8).1 ?_
        exact kt
      refine Run.step (T1 := s₁) (g1 := (mkF m 16 #[.val (.int p1), .val (.int p2), .val (.ref a3), .val (.ref a4)] [(.int (1 : Int32))])) (fun target kt => ?_) ?_
      · show Steps p.tables e below (s₁.setTop (mkF m 11 #[.val (.int p1), .val (.int p2), .val (.ref a3), .val (.ref a4)] [])) _
        refine XS.iconst X0.here hx rfl (hb hby d2_11) ?_
        show Steps p.tables e below (s₁.setTop (mkF m 12 #[.val (.int p1), .val (.int p2), .val (.ref a3), .val (.ref a4)] [(.int (1 : Int32))])) _
        refine XS.goto X0.here hx rfl (pc0 := 12) (pc' := 16) rfl (hb hby d2_12) (by decide) (by decide) ?_
        exact kt
      exact Run.retZ X0 hx (t := .boolean) hret (by simp) (hb hby d2_16) ⟨Nat.le_refl _, Nat.le_refl _, own_b1 (hu.trans (by rw [ex, if_pos hc3, if_neg hc8])), N0, e0⟩
  · refine Run.step (T1 := s₁) (g1 := (mkF m 17 #[.val (.int p1), .val (.int p2), .val (.ref a3), .val (.ref a4)] [])) (fun target kt => ?_) ?_
    · show Steps p.tables e below (s₁.setTop (mkF m 3 #[.val (.int p1), .val (.int p2), .val (.ref a3), .val (.ref a4)] [(.int (8 : Int32)), (.int p1)])) _
      refine XS.icmpYes X0.here hx rfl (pc0 := 3) (pc' := 17) rfl (hb hby d2_3) rfl (feq hc3).2 (by decide) (by decide) ?_
      exact kt
    refine Run.step (T1 := s₁) (g1 := (mkF m 21 #[.val (.int p1), .val (.int p2), .val (.ref a3), .val (.ref a4)] [(.int lk), (.int p2)])) (fun target kt => ?_) ?_
    · show Steps p.tables e below (s₁.setTop (mkF m 17 #[.val (.int p1), .val (.int p2), .val (.ref a3), .val (.ref a4)] [])) _
      refine XS.iloadN X0.here hx rfl (hb hby d2_17) rfl ?_
      show Steps p.tables e below (s₁.setTop (mkF m 18 #[.val (.int p1), .val (.int p2), .val (.ref a3), .val (.ref a4)] [(.int p2)])) _
      refine XS.aloadN X0.here hx rfl (hb hby d2_18) rfl rfl ?_
      show Steps p.tables e below (s₁.setTop (mkF m 19 #[.val (.int p1), .val (.int p2), .val (.ref a3), .val (.ref a4)] [(.ref a3), (.int p2)])) _
      refine XS.iloadN X0.here hx rfl (hb hby d2_19) rfl ?_
      show Steps p.tables e below (s₁.setTop (mkF m 20 #[.val (.int p1), .val (.int p2), .val (.ref a3), .val (.ref a4)] [(.int p1), (.ref a3), (.int p2)])) _
      refine own_ldI X0 hx hZ e0 A3 (v := (.int lk)) hj g3 (g := (mkF m 20 #[.val (.int p1), .val (.int p2), .val (.ref a3), .val (.ref a4)] [(.int p1), (.ref a3), (.int p2)])) rfl rfl (hb hby d2_20) _ ?_
      exact kt
    by_cases hc21 : p2 < lk
    · refine Run.step (T1 := s₁) (g1 := (mkF m 35 #[.val (.int p1), .val (.int p2), .val (.ref a3), .val (.ref a4)] [])) (fun target kt => ?_) ?_
      · show Steps p.tables e below (s₁.setTop (mkF m 21 #[.val (.int p1), .val (.int p2), .val (.ref a3), .val (.ref a4)] [(.int lk), (.int p2)])) _
        refine XS.icmpYes X0.here hx rfl (pc0 := 21) (pc' := 35) rfl (hb hby d2_21) rfl (tlt hc21).1 (by decide) (by decide) ?_
        exact kt
      refine Run.step (T1 := s₁) (g1 := (mkF m 36 #[.val (.int p1), .val (.int p2), .val (.ref a3), .val (.ref a4)] [(.int (0 : Int32))])) (fun target kt => ?_) ?_
      · show Steps p.tables e below (s₁.setTop (mkF m 35 #[.val (.int p1), .val (.int p2), .val (.ref a3), .val (.ref a4)] [])) _
        refine XS.iconst X0.here hx rfl (hb hby d2_35) ?_
        exact kt
      exact Run.retZ X0 hx (t := .boolean) hret (by simp) (hb hby d2_36) ⟨Nat.le_refl _, Nat.le_refl _, own_b0 (hu.trans (by rw [ex, if_neg hc3, if_pos hc21])), N0, e0⟩
    · refine Run.step (T1 := s₁) (g1 := (mkF m 24 #[.val (.int p1), .val (.int p2), .val (.ref a3), .val (.ref a4)] [])) (fun target kt => ?_) ?_
      · show Steps p.tables e below (s₁.setTop (mkF m 21 #[.val (.int p1), .val (.int p2), .val (.ref a3), .val (.ref a4)] [(.int lk), (.int p2)])) _
        refine XS.icmpNo X0.here hx rfl (hb hby d2_21) rfl (flt hc21).1 ?_
        exact kt
      refine Run.step (T1 := s₁) (g1 := (mkF m 28 #[.val (.int p1), .val (.int p2), .val (.ref a3), .val (.ref a4)] [(.int mk), (.int p2)])) (fun target kt => ?_) ?_
      · show Steps p.tables e below (s₁.setTop (mkF m 24 #[.val (.int p1), .val (.int p2), .val (.ref a3), .val (.ref a4)] [])) _
        refine XS.iloadN X0.here hx rfl (hb hby d2_24) rfl ?_
        show Steps p.tables e below (s₁.setTop (mkF m 25 #[.val (.int p1), .val (.int p2), .val (.ref a3), .val (.ref a4)] [(.int p2)])) _
        refine XS.aloadN X0.here hx rfl (hb hby d2_25) rfl rfl ?_
        show Steps p.tables e below (s₁.setTop (mkF m 26 #[.val (.int p1), .val (.int p2), .val (.ref a3), .val (.ref a4)] [(.ref a4), (.int p2)])) _
        refine XS.iloadN X0.here hx rfl (hb hby d2_26) rfl ?_
        show Steps p.tables e below (s₁.setTop (mkF m 27 #[.val (.int p1), .val (.int p2), .val (.ref a3), .val (.ref a4)] [(.int p1), (.ref a4), (.int p2)])) _
        refine own_ldI X0 hx hZ e0 A4 (v := (.int mk)) hj g4 (g := (mkF m 27 #[.val (.int p1), .val (.int p2), .val (.ref a3), .val (.ref a4)] [(.int p1), (.ref a4), (.int p2)])) rfl rfl (hb hby d2_27) _ ?_
        exact kt
      by_cases hc28 : mk < p2
      · refine Run.step (T1 := s₁) (g1 := (mkF m 35 #[.val (.int p1), .val (.int p2), .val (.ref a3), .val (.ref a4)] [])) (fun target kt => ?_) ?_
        · show Steps p.tables e below (s₁.setTop (mkF m 28 #[.val (.int p1), .val (.int p2), .val (.ref a3), .val (.ref a4)] [(.int mk), (.int p2)])) _
          refine XS.icmpYes X0.here hx rfl (pc0 := 28) (pc' := 35) rfl (hb hby d2_28) rfl (tlt hc28).2.2.1 (by decide) (by decide) ?_
          exact kt
        refine Run.step (T1 := s₁) (g1 := (mkF m 36 #[.val (.int p1), .val (.int p2), .val (.ref a3), .val (.ref a4)] [(.int (0 : Int32))])) (fun target kt => ?_) ?_
        · show Steps p.tables e below (s₁.setTop (mkF m 35 #[.val (.int p1), .val (.int p2), .val (.ref a3), .val (.ref a4)] [])) _
          refine XS.iconst X0.here hx rfl (hb hby d2_35) ?_
          exact kt
        exact Run.retZ X0 hx (t := .boolean) hret (by simp) (hb hby d2_36) ⟨Nat.le_refl _, Nat.le_refl _, own_b0 (hu.trans (by rw [ex, if_neg hc3, if_neg hc21, if_pos hc28])), N0, e0⟩
      · refine Run.step (T1 := s₁) (g1 := (mkF m 31 #[.val (.int p1), .val (.int p2), .val (.ref a3), .val (.ref a4)] [])) (fun target kt => ?_) ?_
        · show Steps p.tables e below (s₁.setTop (mkF m 28 #[.val (.int p1), .val (.int p2), .val (.ref a3), .val (.ref a4)] [(.int mk), (.int p2)])) _
          refine XS.icmpNo X0.here hx rfl (hb hby d2_28) rfl (flt hc28).2.2.1 ?_
          exact kt
        refine Run.step (T1 := s₁) (g1 := (mkF m 36 #[.val (.int p1), .val (.int p2), .val (.ref a3), .val (.ref a4)] [(.int (1 : Int32))])) (fun target kt => ?_) ?_
        · show Steps p.tables e below (s₁.setTop (mkF m 31 #[.val (.int p1), .val (.int p2), .val (.ref a3), .val (.ref a4)] [])) _
          refine XS.iconst X0.here hx rfl (hb hby d2_31) ?_
          show Steps p.tables e below (s₁.setTop (mkF m 32 #[.val (.int p1), .val (.int p2), .val (.ref a3), .val (.ref a4)] [(.int (1 : Int32))])) _
          refine XS.goto X0.here hx rfl (pc0 := 32) (pc' := 36) rfl (hb hby d2_32) (by decide) (by decide) ?_
          exact kt
        exact Run.retZ X0 hx (t := .boolean) hret (by simp) (hb hby d2_36) ⟨Nat.le_refl _, Nat.le_refl _, own_b1 (hu.trans (by rw [ex, if_neg hc3, if_neg hc21, if_neg hc28])), N0, e0⟩
set_option maxRecDepth 65536 in
set_option maxHeartbeats 40000000 in
theorem rm0 (l : Launch) (Z : State) (a0 : Array Value) (hw : ∀ d ∈ tables_1, d.before a0 Z = true) (ws : List Jvm.Cond) (p1 p2 p3 : Int32) (f0 f1 f2 f3 f4 f5 f6 f7 f8 f9 f10 f11 f12 f13 f14 f15 f16 f17 f18 f19 f20 f21 f22 f23 f24 f25 f26 : Addr) (h0 : Heap) (n0 : Nat) (Z0 : n0 ≤ h0.size) (H0 : FF Z h0 "LAST" f0 0 0) (H1 : FF Z h0 "POSITION" f1 0 0) (H2 : FF Z h0 "COUNT" f2 1 1) (H3 : FF Z h0 "ID" f3 1 1) (H4 : FF Z h0 "LOCAL_NAME" f4 0 1) (H5 : FF Z h0 "NAMESPACE_URI" f5 0 1) (H6 : FF Z h0 "NAME" f6 0 1) (H7 : FF Z h0 "STRING" f7 0 1) (H8 : FF Z h0 "CONCAT" f8 2 2147483647) (H9 : FF Z h0 "STARTS_WITH" f9 2 2) (H10 : FF Z h0 "CONTAINS" f10 2 2) (H11 : FF Z h0 "SUBSTRING_BEFORE" f11 2 2) (H12 : FF Z h0 "SUBSTRING_AFTER" f12 2 2) (H13 : FF Z h0 "SUBSTRING" f13 2 3) (H14 : FF Z h0 "STRING_LENGTH" f14 0 1) (H15 : FF Z h0 "NORMALIZE_SPACE" f15 0 1) (H16 : FF Z h0 "TRANSLATE" f16 3 3) (H17 : FF Z h0 "BOOLEAN" f17 1 1) (H18 : FF Z h0 "NOT" f18 1 1) (H19 : FF Z h0 "TRUE" f19 0 0) (H20 : FF Z h0 "FALSE" f20 0 0) (H21 : FF Z h0 "LANG" f21 1 1) (H22 : FF Z h0 "NUMBER" f22 0 1) (H23 : FF Z h0 "SUM" f23 1 1) (H24 : FF Z h0 "FLOOR" f24 1 1) (H25 : FF Z h0 "CEILING" f25 1 1) (H26 : FF Z h0 "ROUND" f26 1 1) :
    MetFree l x (head1 (Jvm.Cond.code x code maxLocals ret :: ws) room_1) (fun a U => a = #[(.int p1), (.int p2), (.int p3)] ∧ Z.Warmed39 U.vm ∧ U.heap = h0) (fun _ _ _ _ _ => True) (fun _ U o U' => ∃ v L, o = .returned v ∧ QO n0 v U'.heap L ∧ FrameEnd U o U' L room_1.cells room_1.slots) := by
  refine metRun (Z := Z) (plainFor_of_name pn_0) (fun m => ef_0 m p1 p2 p3) ?_
  intro p e s m below meth c s₁ X0 hx hby hml hown hnm hret hZ e0 e00
  replace hown : s.vm.findClass "com/example/cantilever/cantilever/xpath/CoreCallFunctionTakesPinLaw" = some m.cls := hown
  have N0 := Fr.nil n0
  refine Run.step (T1 := s₁) (g1 := (mkF m 7 #[.val (.int p1), .val (.int p2), .val (.int p3), .unset, .unset, .unset, .unset, .unset, .unset, .unset, .unset] [(.int ((p1 &&& (2147483647 : Int32)) % (27 : Int32)))])) (fun target kt => ?_) ?_
  · show Steps p.tables e below (s₁.setTop (mkF m 0 #[.val (.int p1), .val (.int p2), .val (.int p3), .unset, .unset, .unset, .unset, .unset, .unset, .unset, .unset] [])) _
    refine XS.iloadN X0.here hx rfl (hb hby at_0) rfl ?_
    show Steps p.tables e below (s₁.setTop (mkF m 1 #[.val (.int p1), .val (.int p2), .val (.int p3), .unset, .unset, .unset, .unset, .unset, .unset, .unset, .unset] [(.int p1)])) _
    refine X0.ldcInt hx hown (mvT hZ (hw _ (List.mem_of_getElem? (i := 0) rfl))) (g := (mkF m 1 #[.val (.int p1), .val (.int p2), .val (.int p3), .unset, .unset, .unset, .unset, .unset, .unset, .unset, .unset] [(.int p1)])) rfl (hb hby at_1) _ ?_
    show Steps p.tables e below (s₁.setTop (mkF m 3 #[.val (.int p1), .val (.int p2), .val (.int p3), .unset, .unset, .unset, .unset, .unset, .unset, .unset, .unset] [(.int (2147483647 : Int32)), (.int p1)])) _
    refine XS.iand X0.here hx rfl (hb hby at_3) rfl ?_
    show Steps p.tables e below (s₁.setTop (mkF m 4 #[.val (.int p1), .val (.int p2), .val (.int p3), .unset, .unset, .unset, .unset, .unset, .unset, .unset, .unset] [(.int (p1 &&& (2147483647 : Int32)))])) _
    refine XS.bipush X0.here hx rfl (hb hby at_4) ?_
    show Steps p.tables e below (s₁.setTop (mkF m 6 #[.val (.int p1), .val (.int p2), .val (.int p3), .unset, .unset, .unset, .unset, .unset, .unset, .unset, .unset] [(.int (27 : Int32)), (.int (p1 &&& (2147483647 : Int32)))])) _
    refine iremM (g := (mkF m 6 #[.val (.int p1), .val (.int p2), .val (.int p3), .unset, .unset, .unset, .unset, .unset, .unset, .unset, .unset] [(.int (27 : Int32)), (.int (p1 &&& (2147483647 : Int32)))])) X0 hx rfl (hb hby at_6) rfl (by decide) ?_
    exact kt
  obtain ⟨kx, hkx⟩ : ∃ k, k = ((p1 &&& (2147483647 : Int32)) % (27 : Int32)) := ⟨_, rfl⟩
  rw [← hkx]
  obtain ⟨T3, h3, k3, X3, e3, K3, A3, O3, st3⟩ := own_newR X0 hx hZ hown (hw _ (List.mem_of_getElem? (i := 1) rfl)) (hw _ (List.mem_of_getElem? (i := 2) rfl)) e0 (g := (mkF m 10 #[.val (.int p1), .val (.int p2), .val (.int p3), .val (.int kx), .unset, .unset, .unset, .unset, .unset, .unset, .unset] [(.int (27 : Int32))])) rfl (hb hby at_10) rfl (by decide) (cap := 27) (by decide) (by decide) (by decide) (by decide)
  obtain ⟨b3, g3⟩ : ∃ z, z = h0.size := ⟨_, rfl⟩
  rw [← g3] at A3 st3
  replace A3 : AL Z h3 b3 k3 (.object "com/example/cantilever/cantilever/xpath/CoreCall$Function") [.null, .null, .null, .null, .null, .null, .null, .null, .null, .null, .null, .null, .null, .null, .null, .null, .null, .null, .null, .null, .null, .null, .null, .null, .null, .null, .null] := A3
  have KK3 := (Keep.trans0 (Keep.refl h0 []) K3)
  have sz_b3 : h0.size ≤ b3 := Nat.le_trans (Keep.refl h0 []).1 (Nat.le_of_eq g3.symm)
  have g_b3 : n0 ≤ b3 := Nat.le_trans Z0 sz_b3
  obtain ⟨T4, X4, e4, st4⟩ := getS2 X3 hx hZ hown (host := "") (Or.inl (hw _ (List.mem_of_getElem? (i := 3) rfl))) Via.refl e3 (own_staKeep H0.1 KK3) (g := (mkF m 15 #[.val (.int p1), .val (.int p2), .val (.int p3), .val (.int kx), .unset, .unset, .unset, .unset, .unset, .unset, .unset] [(.int (0 : Int32)), (.ref b3), (.ref b3)])) rfl (hb hby at_15)
  obtain ⟨T5, h5, L5, X5, e5, W5, A5, K5, N5, st5⟩ := own_stR X4 hx hZ e4 A3 O3 (Ins.self (H0.2.1.keep KK3)) KK3 sz_b3 N0 g_b3 (i := 0) (by decide) (by decide) (by simp) (g := (mkF m 18 #[.val (.int p1), .val (.int p2), .val (.int p3), .val (.int kx), .unset, .unset, .unset, .unset, .unset, .unset, .unset] [(.ref f0), (.int (0 : Int32)), (.ref b3), (.ref b3)])) rfl rfl (hb hby at_18)
  replace A5 : AL Z h5 b3 k3 (.object "com/example/cantilever/cantilever/xpath/CoreCall$Function") [.ref f0, .null, .null, .null, .null, .null, .null, .null, .null, .null, .null, .null, .null, .null, .null, .null, .null, .null, .null, .null, .null, .null, .null, .null, .null, .null, .null] := A5
  obtain ⟨T6, X6, e6, st6⟩ := getS2 X5 hx hZ hown (host := "") (Or.inl (hw _ (List.mem_of_getElem? (i := 7) rfl))) Via.refl e5 (own_staKeep H1.1 K5) (g := (mkF m 21 #[.val (.int p1), .val (.int p2), .val (.int p3), .val (.int kx), .unset, .unset, .unset, .unset, .unset, .unset, .unset] [(.int (1 : Int32)), (.ref b3), (.ref b3)])) rfl (hb hby at_21)
  obtain ⟨T7, h7, L7, X7, e7, W7, A7, K7, N7, st7⟩ := own_stR X6 hx hZ e6 A5 O3 (Ins.self (H1.2.1.keep K5)) K5 sz_b3 N5 g_b3 (i := 1) (by decide) (by decide) (by simp) (g := (mkF m 24 #[.val (.int p1), .val (.int p2), .val (.int p3), .val (.int kx), .unset, .unset, .unset, .unset, .unset, .unset, .unset] [(.ref f1), (.int (1 : Int32)), (.ref b3), (.ref b3)])) rfl rfl (hb hby at_24)
  replace A7 : AL Z h7 b3 k3 (.object "com/example/cantilever/cantilever/xpath/CoreCall$Function") [.ref f0, .ref f1, .null, .null, .null, .null, .null, .null, .null, .null, .null, .null, .null, .null, .null, .null, .null, .null, .null, .null, .null, .null, .null, .null, .null, .null, .null] := A7
  obtain ⟨T8, X8, e8, st8⟩ := getS2 X7 hx hZ hown (host := "") (Or.inl (hw _ (List.mem_of_getElem? (i := 9) rfl))) Via.refl e7 (own_staKeep H2.1 K7) (g := (mkF m 27 #[.val (.int p1), .val (.int p2), .val (.int p3), .val (.int kx), .unset, .unset, .unset, .unset, .unset, .unset, .unset] [(.int (2 : Int32)), (.ref b3), (.ref b3)])) rfl (hb hby at_27)
  obtain ⟨T9, h9, L9, X9, e9, W9, A9, K9, N9, st9⟩ := own_stR X8 hx hZ e8 A7 O3 (Ins.self (H2.2.1.keep K7)) K7 sz_b3 N7 g_b3 (i := 2) (by decide) (by decide) (by simp) (g := (mkF m 30 #[.val (.int p1), .val (.int p2), .val (.int p3), .val (.int kx), .unset, .unset, .unset, .unset, .unset, .unset, .unset] [(.ref f2), (.int (2 : Int32)), (.ref b3), (.ref b3)])) rfl rfl (hb hby at_30)
  replace A9 : AL Z h9 b3 k3 (.object "com/example/cantilever/cantilever/xpath/CoreCall$Function") [.ref f0, .ref f1, .ref f2, .null, .null, .null, .null, .null, .null, .null, .null, .null, .null, .null, .null, .null, .null, .null, .null, .null, .null, .null, .null, .null, .null, .null, .null] := A9
  obtain ⟨T10, X10, e10, st10⟩ := getS2 X9 hx hZ hown (host := "") (Or.inl (hw _ (List.mem_of_getElem? (i := 11) rfl))) Via.refl e9 (own_staKeep H3.1 K9) (g := (mkF m 33 #[.val (.int p1), .val (.int p2), .val (.int p3), .val (.int kx), .unset, .unset, .unset, .unset, .unset, .unset, .unset] [(.int (3 : Int32)), (.ref b3), (.ref b3)])) rfl (hb hby at_33)
  obtain ⟨T11, h11, L11, X11, e11, W11, A11, K11, N11, st11⟩ := own_stR X10 hx hZ e10 A9 O3 (Ins.self (H3.2.1.keep K9)) K9 sz_b3 N9 g_b3 (i := 3) (by decide) (by decide) (by simp) (g := (mkF m 36 #[.val (.int p1), .val (.int p2), .val (.int p3), .val (.int kx), .unset, .unset, .unset, .unset, .unset, .unset, .unset] [(.ref f3), (.int (3 : Int32)), (.ref b3), (.ref b3)])) rfl rfl (hb hby at_36)
  replace A11 : AL Z h11 b3 k3 (.object "com/example/cantilever/cantilever/xpath/CoreCall$Function") [.ref f0, .ref f1, .ref f2, .ref f3, .null, .null, .null, .null, .null, .null, .null, .null, .null, .null, .null, .null, .null, .null, .null, .null, .null, .null, .null, .null, .null, .null, .null] := A11
  obtain ⟨T12, X12, e12, st12⟩ := getS2 X11 hx hZ hown (host := "") (Or.inl (hw _ (List.mem_of_getElem? (i := 13) rfl))) Via.refl e11 (own_staKeep H4.1 K11) (g := (mkF m 39 #[.val (.int p1), .val (.int p2), .val (.int p3), .val (.int kx), .unset, .unset, .unset, .unset, .unset, .unset, .unset] [(.int (4 : Int32)), (.ref b3), (.ref b3)])) rfl (hb hby at_39)
  obtain ⟨T13, h13, L13, X13, e13, W13, A13, K13, N13, st13⟩ := own_stR X12 hx hZ e12 A11 O3 (Ins.self (H4.2.1.keep K11)) K11 sz_b3 N11 g_b3 (i := 4) (by decide) (by decide) (by simp) (g := (mkF m 42 #[.val (.int p1), .val (.int p2), .val (.int p3), .val (.int kx), .unset, .unset, .unset, .unset, .unset, .unset, .unset] [(.ref f4), (.int (4 : Int32)), (.ref b3), (.ref b3)])) rfl rfl (hb hby at_42)
  replace A13 : AL Z h13 b3 k3 (.object "com/example/cantilever/cantilever/xpath/CoreCall$Function") [.ref f0, .ref f1, .ref f2, .ref f3, .ref f4, .null, .null, .null, .null, .null, .null, .null, .null, .null, .null, .null, .null, .null, .null, .null, .null, .null, .null, .null, .null, .null, .null] := A13
  obtain ⟨T14, X14, e14, st14⟩ := getS2 X13 hx hZ hown (host := "") (Or.inl (hw _ (List.mem_of_getElem? (i := 15) rfl))) Via.refl e13 (own_staKeep H5.1 K13) (g := (mkF m 45 #[.val (.int p1), .val (.int p2), .val (.int p3), .val (.int kx), .unset, .unset, .unset, .unset, .unset, .unset, .unset] [(.int (5 : Int32)), (.ref b3), (.ref b3)])) rfl (hb hby at_45)
  obtain ⟨T15, h15, L15, X15, e15, W15, A15, K15, N15, st15⟩ := own_stR X14 hx hZ e14 A13 O3 (Ins.self (H5.2.1.keep K13)) K13 sz_b3 N13 g_b3 (i := 5) (by decide) (by decide) (by simp) (g := (mkF m 48 #[.val (.int p1), .val (.int p2), .val (.int p3), .val (.int kx), .unset, .unset, .unset, .unset, .unset, .unset, .unset] [(.ref f5), (.int (5 : Int32)), (.ref b3), (.ref b3)])) rfl rfl (hb hby at_48)
  replace A15 : AL Z h15 b3 k3 (.object "com/example/cantilever/cantilever/xpath/CoreCall$Function") [.ref f0, .ref f1, .ref f2, .ref f3, .ref f4, .ref f5, .null, .null, .null, .null, .null, .null, .null, .null, .null, .null, .null, .null, .null, .null, .null, .null, .null, .null, .null, .null, .null] := A15
  obtain ⟨T16, X16, e16, st16⟩ := getS2 X15 hx hZ hown (host := "") (Or.inl (hw _ (List.mem_of_getElem? (i := 17) rfl))) Via.refl e15 (own_staKeep H6.1 K15) (g := (mkF m 52 #[.val (.int p1), .val (.int p2), .val (.int p3), .val (.int kx), .unset, .unset, .unset, .unset, .unset, .unset, .unset] [(.int (6 : Int32)), (.ref b3), (.ref b3)])) rfl (hb hby at_52)
  obtain ⟨T17, h17, L17, X17, e17, W17, A17, K17, N17, st17⟩ := own_stR X16 hx hZ e16 A15 O3 (Ins.self (H6.2.1.keep K15)) K15 sz_b3 N15 g_b3 (i := 6) (by decide) (by decide) (by simp) (g := (mkF m 55 #[.val (.int p1), .val (.int p2), .val (.int p3), .val (.int kx), .unset, .unset, .unset, .unset, .unset, .unset, .unset] [(.ref f6), (.int (6 : Int32)), (.ref b3), (.ref b3)])) rfl rfl (hb hby at_55)
  replace A17 : AL Z h17 b3 k3 (.object "com/example/cantilever/cantilever/xpath/CoreCall$Function") [.ref f0, .ref f1, .ref f2, .ref f3, .ref f4, .ref f5, .ref f6, .null, .null, .null, .null, .null, .null, .null, .null, .null, .null, .null, .null, .null, .null, .null, .null, .null, .null, .null, .null] := A17
  obtain ⟨T18, X18, e18, st18⟩ := getS2 X17 hx hZ hown (host := "") (Or.inl (hw _ (List.mem_of_getElem? (i := 19) rfl))) Via.refl e17 (own_staKeep H7.1 K17) (g := (mkF m 59 #[.val (.int p1), .val (.int p2), .val (.int p3), .val (.int kx), .unset, .unset, .unset, .unset, .unset, .unset, .unset] [(.int (7 : Int32)), (.ref b3), (.ref b3)])) rfl (hb hby at_59)
  obtain ⟨T19, h19, L19, X19, e19, W19, A19, K19, N19, st19⟩ := own_stR X18 hx hZ e18 A17 O3 (Ins.self (H7.2.1.keep K17)) K17 sz_b3 N17 g_b3 (i := 7) (by decide) (by decide) (by simp) (g := (mkF m 62 #[.val (.int p1), .val (.int p2), .val (.int p3), .val (.int kx), .unset, .unset, .unset, .unset, .unset, .unset, .unset] [(.ref f7), (.int (7 : Int32)), (.ref b3), (.ref b3)])) rfl rfl (hb hby at_62)
  replace A19 : AL Z h19 b3 k3 (.object "com/example/cantilever/cantilever/xpath/CoreCall$Function") [.ref f0, .ref f1, .ref f2, .ref f3, .ref f4, .ref f5, .ref f6, .ref f7, .null, .null, .null, .null, .null, .null, .null, .null, .null, .null, .null, .null, .null, .null, .null, .null, .null, .null, .null] := A19
  obtain ⟨T20, X20, e20, st20⟩ := getS2 X19 hx hZ hown (host := "") (Or.inl (hw _ (List.mem_of_getElem? (i := 21) rfl))) Via.refl e19 (own_staKeep H8.1 K19) (g := (mkF m 66 #[.val (.int p1), .val (.int p2), .val (.int p3), .val (.int kx), .unset, .unset, .unset, .unset, .unset, .unset, .unset] [(.int (8 : Int32)), (.ref b3), (.ref b3)])) rfl (hb hby at_66)
  obtain ⟨T21, h21, L21, X21, e21, W21, A21, K21, N21, st21⟩ := own_stR X20 hx hZ e20 A19 O3 (Ins.self (H8.2.1.keep K19)) K19 sz_b3 N19 g_b3 (i := 8) (by decide) (by decide) (by simp) (g := (mkF m 69 #[.val (.int p1), .val (.int p2), .val (.int p3), .val (.int kx), .unset, .unset, .unset, .unset, .unset, .unset, .unset] [(.ref f8), (.int (8 : Int32)), (.ref b3), (.ref b3)])) rfl rfl (hb hby at_69)
  replace A21 : AL Z h21 b3 k3 (.object "com/example/cantilever/cantilever/xpath/CoreCall$Function") [.ref f0, .ref f1, .ref f2, .ref f3, .ref f4, .ref f5, .ref f6, .ref f7, .ref f8, .null, .null, .null, .null, .null, .null, .null, .null, .null, .null, .null, .null, .null, .null, .null, .null, .null, .null] := A21
  obtain ⟨T22, X22, e22, st22⟩ := getS2 X21 hx hZ hown (host := "") (Or.inl (hw _ (List.mem_of_getElem? (i := 23) rfl))) Via.refl e21 (own_staKeep H9.1 K21) (g := (mkF m 73 #[.val (.int p1), .val (.int p2), .val (.int p3), .val (.int kx), .unset, .unset, .unset, .unset, .unset, .unset, .unset] [(.int (9 : Int32)), (.ref b3), (.ref b3)])) rfl (hb hby at_73)
  obtain ⟨T23, h23, L23, X23, e23, W23, A23, K23, N23, st23⟩ := own_stR X22 hx hZ e22 A21 O3 (Ins.self (H9.2.1.keep K21)) K21 sz_b3 N21 g_b3 (i := 9) (by decide) (by decide) (by simp) (g := (mkF m 76 #[.val (.int p1), .val (.int p2), .val (.int p3), .val (.int kx), .unset, .unset, .unset, .unset, .unset, .unset, .unset] [(.ref f9), (.int (9 : Int32)), (.ref b3), (.ref b3)])) rfl rfl (hb hby at_76)
  replace A23 : AL Z h23 b3 k3 (.object "com/example/cantilever/cantilever/xpath/CoreCall$Function") [.ref f0, .ref f1, .ref f2, .ref f3, .ref f4, .ref f5, .ref f6, .ref f7, .ref f8, .ref f9, .null, .null, .null, .null, .null, .null, .null, .null, .null, .null, .null, .null, .null, .null, .null, .null, .null] := A23
  obtain ⟨T24, X24, e24, st24⟩ := getS2 X23 hx hZ hown (host := "") (Or.inl (hw _ (List.mem_of_getElem? (i := 25) rfl))) Via.refl e23 (own_staKeep H10.1 K23) (g := (mkF m 80 #[.val (.int p1), .val (.int p2), .val (.int p3), .val (.int kx), .unset, .unset, .unset, .unset, .unset, .unset, .unset] [(.int (10 : Int32)), (.ref b3), (.ref b3)])) rfl (hb hby at_80)
  obtain ⟨T25, h25, L25, X25, e25, W25, A25, K25, N25, st25⟩ := own_stR X24 hx hZ e24 A23 O3 (Ins.self (H10.2.1.keep K23)) K23 sz_b3 N23 g_b3 (i := 10) (by decide) (by decide) (by simp) (g := (mkF m 83 #[.val (.int p1), .val (.int p2), .val (.int p3), .val (.int kx), .unset, .unset, .unset, .unset, .unset, .unset, .unset] [(.ref f10), (.int (10 : Int32)), (.ref b3), (.ref b3)])) rfl rfl (hb hby at_83)
  replace A25 : AL Z h25 b3 k3 (.object "com/example/cantilever/cantilever/xpath/CoreCall$Function") [.ref f0, .ref f1, .ref f2, .ref f3, .ref f4, .ref f5, .ref f6, .ref f7, .ref f8, .ref f9, .ref f10, .null, .null, .null, .null, .null, .null, .null, .null, .null, .null, .null, .null, .null, .null, .null, .null] := A25
  obtain ⟨T26, X26, e26, st26⟩ := getS2 X25 hx hZ hown (host := "") (Or.inl (hw _ (List.mem_of_getElem? (i := 27) rfl))) Via.refl e25 (own_staKeep H11.1 K25) (g := (mkF m 87 #[.val (.int p1), .val (.int p2), .val (.int p3), .val (.int kx), .unset, .unset, .unset, .unset, .unset, .unset, .unset] [(.int (11 : Int32)), (.ref b3), (.ref b3)])) rfl (hb hby at_87)
  obtain ⟨T27, h27, L27, X27, e27, W27, A27, K27, N27, st27⟩ := own_stR X26 hx hZ e26 A25 O3 (Ins.self (H11.2.1.keep K25)) K25 sz_b3 N25 g_b3 (i := 11) (by decide) (by decide) (by simp) (g := (mkF m 90 #[.val (.int p1), .val (.int p2), .val (.int p3), .val (.int kx), .unset, .unset, .unset, .unset, .unset, .unset, .unset] [(.ref f11), (.int (11 : Int32)), (.ref b3), (.ref b3)])) rfl rfl (hb hby at_90)
  replace A27 : AL Z h27 b3 k3 (.object "com/example/cantilever/cantilever/xpath/CoreCall$Function") [.ref f0, .ref f1, .ref f2, .ref f3, .ref f4, .ref f5, .ref f6, .ref f7, .ref f8, .ref f9, .ref f10, .ref f11, .null, .null, .null, .null, .null, .null, .null, .null, .null, .null, .null, .null, .null, .null, .null] := A27
  obtain ⟨T28, X28, e28, st28⟩ := getS2 X27 hx hZ hown (host := "") (Or.inl (hw _ (List.mem_of_getElem? (i := 29) rfl))) Via.refl e27 (own_staKeep H12.1 K27) (g := (mkF m 94 #[.val (.int p1), .val (.int p2), .val (.int p3), .val (.int kx), .unset, .unset, .unset, .unset, .unset, .unset, .unset] [(.int (12 : Int32)), (.ref b3), (.ref b3)])) rfl (hb hby at_94)
  obtain ⟨T29, h29, L29, X29, e29, W29, A29, K29, N29, st29⟩ := own_stR X28 hx hZ e28 A27 O3 (Ins.self (H12.2.1.keep K27)) K27 sz_b3 N27 g_b3 (i := 12) (by decide) (by decide) (by simp) (g := (mkF m 97 #[.val (.int p1), .val (.int p2), .val (.int p3), .val (.int kx), .unset, .unset, .unset, .unset, .unset, .unset, .unset] [(.ref f12), (.int (12 : Int32)), (.ref b3), (.ref b3)])) rfl rfl (hb hby at_97)
  replace A29 : AL Z h29 b3 k3 (.object "com/example/cantilever/cantilever/xpath/CoreCall$Function") [.ref f0, .ref f1, .ref f2, .ref f3, .ref f4, .ref f5, .ref f6, .ref f7, .ref f8, .ref f9, .ref f10, .ref f11, .ref f12, .null, .null, .null, .null, .null, .null, .null, .null, .null, .null, .null, .null, .null, .null] := A29
  obtain ⟨T30, X30, e30, st30⟩ := getS2 X29 hx hZ hown (host := "") (Or.inl (hw _ (List.mem_of_getElem? (i := 31) rfl))) Via.refl e29 (own_staKeep H13.1 K29) (g := (mkF m 101 #[.val (.int p1), .val (.int p2), .val (.int p3), .val (.int kx), .unset, .unset, .unset, .unset, .unset, .unset, .unset] [(.int (13 : Int32)), (.ref b3), (.ref b3)])) rfl (hb hby at_101)
  obtain ⟨T31, h31, L31, X31, e31, W31, A31, K31, N31, st31⟩ := own_stR X30 hx hZ e30 A29 O3 (Ins.self (H13.2.1.keep K29)) K29 sz_b3 N29 g_b3 (i := 13) (by decide) (by decide) (by simp) (g := (mkF m 104 #[.val (.int p1), .val (.int p2), .val (.int p3), .val (.int kx), .unset, .unset, .unset, .unset, .unset, .unset, .unset] [(.ref f13), (.int (13 : Int32)), (.ref b3), (.ref b3)])) rfl rfl (hb hby at_104)
  replace A31 : AL Z h31 b3 k3 (.object "com/example/cantilever/cantilever/xpath/CoreCall$Function") [.ref f0, .ref f1, .ref f2, .ref f3, .ref f4, .ref f5, .ref f6, .ref f7, .ref f8, .ref f9, .ref f10, .ref f11, .ref f12, .ref f13, .null, .null, .null, .null, .null, .null, .null, .null, .null, .null, .null, .null, .null] := A31
  obtain ⟨T32, X32, e32, st32⟩ := getS2 X31 hx hZ hown (host := "") (Or.inl (hw _ (List.mem_of_getElem? (i := 33) rfl))) Via.refl e31 (own_staKeep H14.1 K31) (g := (mkF m 108 #[.val (.int p1), .val (.int p2), .val (.int p3), .val (.int kx), .unset, .unset, .unset, .unset, .unset, .unset, .unset] [(.int (14 : Int32)), (.ref b3), (.ref b3)])) rfl (hb hby at_108)
  obtain ⟨T33, h33, L33, X33, e33, W33, A33, K33, N33, st33⟩ := own_stR X32 hx hZ e32 A31 O3 (Ins.self (H14.2.1.keep K31)) K31 sz_b3 N31 g_b3 (i := 14) (by decide) (by decide) (by simp) (g := (mkF m 111 #[.val (.int p1), .val (.int p2), .val (.int p3), .val (.int kx), .unset, .unset, .unset, .unset, .unset, .unset, .unset] [(.ref f14), (.int (14 : Int32)), (.ref b3), (.ref b3)])) rfl rfl (hb hby at_111)
  replace A33 : AL Z h33 b3 k3 (.object "com/example/cantilever/cantilever/xpath/CoreCall$Function") [.ref f0, .ref f1, .ref f2, .ref f3, .ref f4, .ref f5, .ref f6, .ref f7, .ref f8, .ref f9, .ref f10, .ref f11, .ref f12, .ref f13, .ref f14, .null, .null, .null, .null, .null, .null, .null, .null, .null, .null, .null, .null] := A33
  obtain ⟨T34, X34, e34, st34⟩ := getS2 X33 hx hZ hown (host := "") (Or.inl (hw _ (List.mem_of_getElem? (i := 35) rfl))) Via.refl e33 (own_staKeep H15.1 K33) (g := (mkF m 115 #[.val (.int p1), .val (.int p2), .val (.int p3), .val (.int kx), .unset, .unset, .unset, .unset, .unset, .unset, .unset] [(.int (15 : Int32)), (.ref b3), (.ref b3)])) rfl (hb hby at_115)
  obtain ⟨T35, h35, L35, X35, e35, W35, A35, K35, N35, st35⟩ := own_stR X34 hx hZ e34 A33 O3 (Ins.self (H15.2.1.keep K33)) K33 sz_b3 N33 g_b3 (i := 15) (by decide) (by decide) (by simp) (g := (mkF m 118 #[.val (.int p1), .val (.int p2), .val (.int p3), .val (.int kx), .unset, .unset, .unset, .unset, .unset, .unset, .unset] [(.ref f15), (.int (15 : Int32)), (.ref b3), (.ref b3)])) rfl rfl (hb hby at_118)
  replace A35 : AL Z h35 b3 k3 (.object "com/example/cantilever/cantilever/xpath/CoreCall$Function") [.ref f0, .ref f1, .ref f2, .ref f3, .ref f4, .ref f5, .ref f6, .ref f7, .ref f8, .ref f9, .ref f10, .ref f11, .ref f12, .ref f13, .ref f14, .ref f15, .null, .null, .null, .null, .null, .null, .null, .null, .null, .null, .null] := A35
  obtain ⟨T36, X36, e36, st36⟩ := getS2 X35 hx hZ hown (host := "") (Or.inl (hw _ (List.mem_of_getElem? (i := 37) rfl))) Via.refl e35 (own_staKeep H16.1 K35) (g := (mkF m 122 #[.val (.int p1), .val (.int p2), .val (.int p3), .val (.int kx), .unset, .unset, .unset, .unset, .unset, .unset, .unset] [(.int (16 : Int32)), (.ref b3), (.ref b3)])) rfl (hb hby at_122)
  obtain ⟨T37, h37, L37, X37, e37, W37, A37, K37, N37, st37⟩ := own_stR X36 hx hZ e36 A35 O3 (Ins.self (H16.2.1.keep K35)) K35 sz_b3 N35 g_b3 (i := 16) (by decide) (by decide) (by simp) (g := (mkF m 125 #[.val (.int p1), .val (.int p2), .val (.int p3), .val (.int kx), .unset, .unset, .unset, .unset, .unset, .unset, .unset] [(.ref f16), (.int (16 : Int32)), (.ref b3), (.ref b3)])) rfl rfl (hb hby at_125)
  replace A37 : AL Z h37 b3 k3 (.object "com/example/cantilever/cantilever/xpath/CoreCall$Function") [.ref f0, .ref f1, .ref f2, .ref f3, .ref f4, .ref f5, .ref f6, .ref f7, .ref f8, .ref f9, .ref f10, .ref f11, .ref f12, .ref f13, .ref f14, .ref f15, .ref f16, .null, .null, .null, .null, .null, .null, .null, .null, .null, .null] := A37
  obtain ⟨T38, X38, e38, st38⟩ := getS2 X37 hx hZ hown (host := "") (Or.inl (hw _ (List.mem_of_getElem? (i := 39) rfl))) Via.refl e37 (own_staKeep H17.1 K37) (g := (mkF m 129 #[.val (.int p1), .val (.int p2), .val (.int p3), .val (.int kx), .unset, .unset, .unset, .unset, .unset, .unset, .unset] [(.int (17 : Int32)), (.ref b3), (.ref b3)])) rfl (hb hby at_129)
  obtain ⟨T39, h39, L39, X39, e39, W39, A39, K39, N39, st39⟩ := own_stR X38 hx hZ e38 A37 O3 (Ins.self (H17.2.1.keep K37)) K37 sz_b3 N37 g_b3 (i := 17) (by decide) (by decide) (by simp) (g := (mkF m 132 #[.val (.int p1), .val (.int p2), .val (.int p3), .val (.int kx), .unset, .unset, .unset, .unset, .unset, .unset, .unset] [(.ref f17), (.int (17 : Int32)), (.ref b3), (.ref b3)])) rfl rfl (hb hby at_132)
  replace A39 : AL Z h39 b3 k3 (.object "com/example/cantilever/cantilever/xpath/CoreCall$Function") [.ref f0, .ref f1, .ref f2, .ref f3, .ref f4, .ref f5, .ref f6, .ref f7, .ref f8, .ref f9, .ref f10, .ref f11, .ref f12, .ref f13, .ref f14, .ref f15, .ref f16, .ref f17, .null, .null, .null, .null, .null, .null, .null, .null, .null] := A39
  obtain ⟨T40, X40, e40, st40⟩ := getS2 X39 hx hZ hown (host := "") (Or.inl (hw _ (List.mem_of_getElem? (i := 41) rfl))) Via.refl e39 (own_staKeep H18.1 K39) (g := (mkF m 136 #[.val (.int p1), .val (.int p2), .val (.int p3), .val (.int kx), .unset, .unset, .unset, .unset, .unset, .unset, .unset] [(.int (18 : Int32)), (.ref b3), (.ref b3)])) rfl (hb hby at_136)
  obtain ⟨T41, h41, L41, X41, e41, W41, A41, K41, N41, st41⟩ := own_stR X40 hx hZ e40 A39 O3 (Ins.self (H18.2.1.keep K39)) K39 sz_b3 N39 g_b3 (i := 18) (by decide) (by decide) (by simp) (g := (mkF m 139 #[.val (.int p1), .val (.int p2), .val (.int p3), .val (.int kx), .unset, .unset, .unset, .unset, .unset, .unset, .unset] [(.ref f18), (.int (18 : Int32)), (.ref b3), (.ref b3)])) rfl rfl (hb hby at_139)
  replace A41 : AL Z h41 b3 k3 (.object "com/example/cantilever/cantilever/xpath/CoreCall$Function") [.ref f0, .ref f1, .ref f2, .ref f3, .ref f4, .ref f5, .ref f6, .ref f7, .ref f8, .ref f9, .ref f10, .ref f11, .ref f12, .ref f13, .ref f14, .ref f15, .ref f16, .ref f17, .ref f18, .null, .null, .null, .null, .null, .null, .null, .null] := A41
  obtain ⟨T42, X42, e42, st42⟩ := getS2 X41 hx hZ hown (host := "") (Or.inl (hw _ (List.mem_of_getElem? (i := 43) rfl))) Via.refl e41 (own_staKeep H19.1 K41) (g := (mkF m 143 #[.val (.int p1), .val (.int p2), .val (.int p3), .val (.int kx), .unset, .unset, .unset, .unset, .unset, .unset, .unset] [(.int (19 : Int32)), (.ref b3), (.ref b3)])) rfl (hb hby at_143)
  obtain ⟨T43, h43, L43, X43, e43, W43, A43, K43, N43, st43⟩ := own_stR X42 hx hZ e42 A41 O3 (Ins.self (H19.2.1.keep K41)) K41 sz_b3 N41 g_b3 (i := 19) (by decide) (by decide) (by simp) (g := (mkF m 146 #[.val (.int p1), .val (.int p2), .val (.int p3), .val (.int kx), .unset, .unset, .unset, .unset, .unset, .unset, .unset] [(.ref f19), (.int (19 : Int32)), (.ref b3), (.ref b3)])) rfl rfl (hb hby at_146)
  replace A43 : AL Z h43 b3 k3 (.object "com/example/cantilever/cantilever/xpath/CoreCall$Function") [.ref f0, .ref f1, .ref f2, .ref f3, .ref f4, .ref f5, .ref f6, .ref f7, .ref f8, .ref f9, .ref f10, .ref f11, .ref f12, .ref f13, .ref f14, .ref f15, .ref f16, .ref f17, .ref f18, .ref f19, .null, .null, .null, .null, .null, .null, .null] := A43
  obtain ⟨T44, X44, e44, st44⟩ := getS2 X43 hx hZ hown (host := "") (Or.inl (hw _ (List.mem_of_getElem? (i := 45) rfl))) Via.refl e43 (own_staKeep H20.1 K43) (g := (mkF m 150 #[.val (.int p1), .val (.int p2), .val (.int p3), .val (.int kx), .unset, .unset, .unset, .unset, .unset, .unset, .unset] [(.int (20 : Int32)), (.ref b3), (.ref b3)])) rfl (hb hby at_150)
  obtain ⟨T45, h45, L45, X45, e45, W45, A45, K45, N45, st45⟩ := own_stR X44 hx hZ e44 A43 O3 (Ins.self (H20.2.1.keep K43)) K43 sz_b3 N43 g_b3 (i := 20) (by decide) (by decide) (by simp) (g := (mkF m 153 #[.val (.int p1), .val (.int p2), .val (.int p3), .val (.int kx), .unset, .unset, .unset, .unset, .unset, .unset, .unset] [(.ref f20), (.int (20 : Int32)), (.ref b3), (.ref b3)])) rfl rfl (hb hby at_153)
  replace A45 : AL Z h45 b3 k3 (.object "com/example/cantilever/cantilever/xpath/CoreCall$Function") [.ref f0, .ref f1, .ref f2, .ref f3, .ref f4, .ref f5, .ref f6, .ref f7, .ref f8, .ref f9, .ref f10, .ref f11, .ref f12, .ref f13, .ref f14, .ref f15, .ref f16, .ref f17, .ref f18, .ref f19, .ref f20, .null, .null, .null, .null, .null, .null] := A45
  obtain ⟨T46, X46, e46, st46⟩ := getS2 X45 hx hZ hown (host := "") (Or.inl (hw _ (List.mem_of_getElem? (i := 47) rfl))) Via.refl e45 (own_staKeep H21.1 K45) (g := (mkF m 157 #[.val (.int p1), .val (.int p2), .val (.int p3), .val (.int kx), .unset, .unset, .unset, .unset, .unset, .unset, .unset] [(.int (21 : Int32)), (.ref b3), (.ref b3)])) rfl (hb hby at_157)
  obtain ⟨T47, h47, L47, X47, e47, W47, A47, K47, N47, st47⟩ := own_stR X46 hx hZ e46 A45 O3 (Ins.self (H21.2.1.keep K45)) K45 sz_b3 N45 g_b3 (i := 21) (by decide) (by decide) (by simp) (g := (mkF m 160 #[.val (.int p1), .val (.int p2), .val (.int p3), .val (.int kx), .unset, .unset, .unset, .unset, .unset, .unset, .unset] [(.ref f21), (.int (21 : Int32)), (.ref b3), (.ref b3)])) rfl rfl (hb hby at_160)
  replace A47 : AL Z h47 b3 k3 (.object "com/example/cantilever/cantilever/xpath/CoreCall$Function") [.ref f0, .ref f1, .ref f2, .ref f3, .ref f4, .ref f5, .ref f6, .ref f7, .ref f8, .ref f9, .ref f10, .ref f11, .ref f12, .ref f13, .ref f14, .ref f15, .ref f16, .ref f17, .ref f18, .ref f19, .ref f20, .ref f21, .null, .null, .null, .null, .null] := A47
  obtain ⟨T48, X48, e48, st48⟩ := getS2 X47 hx hZ hown (host := "") (Or.inl (hw _ (List.mem_of_getElem? (i := 49) rfl))) Via.refl e47 (own_staKeep H22.1 K47) (g := (mkF m 164 #[.val (.int p1), .val (.int p2), .val (.int p3), .val (.int kx), .unset, .unset, .unset, .unset, .unset, .unset, .unset] [(.int (22 : Int32)), (.ref b3), (.ref b3)])) rfl (hb hby at_164)
  obtain ⟨T49, h49, L49, X49, e49, W49, A49, K49, N49, st49⟩ := own_stR X48 hx hZ e48 A47 O3 (Ins.self (H22.2.1.keep K47)) K47 sz_b3 N47 g_b3 (i := 22) (by decide) (by decide) (by simp) (g := (mkF m 167 #[.val (.int p1), .val (.int p2), .val (.int p3), .val (.int kx), .unset, .unset, .unset, .unset, .unset, .unset, .unset] [(.ref f22), (.int (22 : Int32)), (.ref b3), (.ref b3)])) rfl rfl (hb hby at_167)
  replace A49 : AL Z h49 b3 k3 (.object "com/example/cantilever/cantilever/xpath/CoreCall$Function") [.ref f0, .ref f1, .ref f2, .ref f3, .ref f4, .ref f5, .ref f6, .ref f7, .ref f8, .ref f9, .ref f10, .ref f11, .ref f12, .ref f13, .ref f14, .ref f15, .ref f16, .ref f17, .ref f18, .ref f19, .ref f20, .ref f21, .ref f22, .null, .null, .null, .null] := A49
  obtain ⟨T50, X50, e50, st50⟩ := getS2 X49 hx hZ hown (host := "") (Or.inl (hw _ (List.mem_of_getElem? (i := 51) rfl))) Via.refl e49 (own_staKeep H23.1 K49) (g := (mkF m 171 #[.val (.int p1), .val (.int p2), .val (.int p3), .val (.int kx), .unset, .unset, .unset, .unset, .unset, .unset, .unset] [(.int (23 : Int32)), (.ref b3), (.ref b3)])) rfl (hb hby at_171)
  obtain ⟨T51, h51, L51, X51, e51, W51, A51, K51, N51, st51⟩ := own_stR X50 hx hZ e50 A49 O3 (Ins.self (H23.2.1.keep K49)) K49 sz_b3 N49 g_b3 (i := 23) (by decide) (by decide) (by simp) (g := (mkF m 174 #[.val (.int p1), .val (.int p2), .val (.int p3), .val (.int kx), .unset, .unset, .unset, .unset, .unset, .unset, .unset] [(.ref f23), (.int (23 : Int32)), (.ref b3), (.ref b3)])) rfl rfl (hb hby at_174)
  replace A51 : AL Z h51 b3 k3 (.object "com/example/cantilever/cantilever/xpath/CoreCall$Function") [.ref f0, .ref f1, .ref f2, .ref f3, .ref f4, .ref f5, .ref f6, .ref f7, .ref f8, .ref f9, .ref f10, .ref f11, .ref f12, .ref f13, .ref f14, .ref f15, .ref f16, .ref f17, .ref f18, .ref f19, .ref f20, .ref f21, .ref f22, .ref f23, .null, .null, .null] := A51
  obtain ⟨T52, X52, e52, st52⟩ := getS2 X51 hx hZ hown (host := "") (Or.inl (hw _ (List.mem_of_getElem? (i := 53) rfl))) Via.refl e51 (own_staKeep H24.1 K51) (g := (mkF m 178 #[.val (.int p1), .val (.int p2), .val (.int p3), .val (.int kx), .unset, .unset, .unset, .unset, .unset, .unset, .unset] [(.int (24 : Int32)), (.ref b3), (.ref b3)])) rfl (hb hby at_178)
  obtain ⟨T53, h53, L53, X53, e53, W53, A53, K53, N53, st53⟩ := own_stR X52 hx hZ e52 A51 O3 (Ins.self (H24.2.1.keep K51)) K51 sz_b3 N51 g_b3 (i := 24) (by decide) (by decide) (by simp) (g := (mkF m 181 #[.val (.int p1), .val (.int p2), .val (.int p3), .val (.int kx), .unset, .unset, .unset, .unset, .unset, .unset, .unset] [(.ref f24), (.int (24 : Int32)), (.ref b3), (.ref b3)])) rfl rfl (hb hby at_181)
  replace A53 : AL Z h53 b3 k3 (.object "com/example/cantilever/cantilever/xpath/CoreCall$Function") [.ref f0, .ref f1, .ref f2, .ref f3, .ref f4, .ref f5, .ref f6, .ref f7, .ref f8, .ref f9, .ref f10, .ref f11, .ref f12, .ref f13, .ref f14, .ref f15, .ref f16, .ref f17, .ref f18, .ref f19, .ref f20, .ref f21, .ref f22, .ref f23, .ref f24, .null, .null] := A53
  obtain ⟨T54, X54, e54, st54⟩ := getS2 X53 hx hZ hown (host := "") (Or.inl (hw _ (List.mem_of_getElem? (i := 55) rfl))) Via.refl e53 (own_staKeep H25.1 K53) (g := (mkF m 185 #[.val (.int p1), .val (.int p2), .val (.int p3), .val (.int kx), .unset, .unset, .unset, .unset, .unset, .unset, .unset] [(.int (25 : Int32)), (.ref b3), (.ref b3)])) rfl (hb hby at_185)
  obtain ⟨T55, h55, L55, X55, e55, W55, A55, K55, N55, st55⟩ := own_stR X54 hx hZ e54 A53 O3 (Ins.self (H25.2.1.keep K53)) K53 sz_b3 N53 g_b3 (i := 25) (by decide) (by decide) (by simp) (g := (mkF m 188 #[.val (.int p1), .val (.int p2), .val (.int p3), .val (.int kx), .unset, .unset, .unset, .unset, .unset, .unset, .unset] [(.ref f25), (.int (25 : Int32)), (.ref b3), (.ref b3)])) rfl rfl (hb hby at_188)
  replace A55 : AL Z h55 b3 k3 (.object "com/example/cantilever/cantilever/xpath/CoreCall$Function") [.ref f0, .ref f1, .ref f2, .ref f3, .ref f4, .ref f5, .ref f6, .ref f7, .ref f8, .ref f9, .ref f10, .ref f11, .ref f12, .ref f13, .ref f14, .ref f15, .ref f16, .ref f17, .ref f18, .ref f19, .ref f20, .ref f21, .ref f22, .ref f23, .ref f24, .ref f25, .null] := A55
  obtain ⟨T56, X56, e56, st56⟩ := getS2 X55 hx hZ hown (host := "") (Or.inl (hw _ (List.mem_of_getElem? (i := 57) rfl))) Via.refl e55 (own_staKeep H26.1 K55) (g := (mkF m 192 #[.val (.int p1), .val (.int p2), .val (.int p3), .val (.int kx), .unset, .unset, .unset, .unset, .unset, .unset, .unset] [(.int (26 : Int32)), (.ref b3), (.ref b3)])) rfl (hb hby at_192)
  obtain ⟨T57, h57, L57, X57, e57, W57, A57, K57, N57, st57⟩ := own_stR X56 hx hZ e56 A55 O3 (Ins.self (H26.2.1.keep K55)) K55 sz_b3 N55 g_b3 (i := 26) (by decide) (by decide) (by simp) (g := (mkF m 195 #[.val (.int p1), .val (.int p2), .val (.int p3), .val (.int kx), .unset, .unset, .unset, .unset, .unset, .unset, .unset] [(.ref f26), (.int (26 : Int32)), (.ref b3), (.ref b3)])) rfl rfl (hb hby at_195)
  replace A57 : AL Z h57 b3 k3 (.object "com/example/cantilever/cantilever/xpath/CoreCall$Function") [.ref f0, .ref f1, .ref f2, .ref f3, .ref f4, .ref f5, .ref f6, .ref f7, .ref f8, .ref f9, .ref f10, .ref f11, .ref f12, .ref f13, .ref f14, .ref f15, .ref f16, .ref f17, .ref f18, .ref f19, .ref f20, .ref f21, .ref f22, .ref f23, .ref f24, .ref f25, .ref f26] := A57
  obtain ⟨T58, h58, k58, X58, e58, K58, A58, st58⟩ := own_newI X57 hx hZ (hw _ (List.mem_of_getElem? (i := 59) rfl)) e57 (g := (mkF m 200 #[.val (.int p1), .val (.int p2), .val (.int p3), .val (.int kx), .val (.ref b3), .unset, .unset, .unset, .unset, .unset, .unset] [(.int (27 : Int32))])) rfl (hb hby at_200) rfl (by decide) (cap := 27) (by decide) (by decide) (by decide) (by decide)
  obtain ⟨b58, g58⟩ : ∃ z, z = h57.size := ⟨_, rfl⟩
  rw [← g58] at A58 st58
  replace A58 : AL Z h58 b58 k58 .int [.int (0 : Int32), .int (0 : Int32), .int (0 : Int32), .int (0 : Int32), .int (0 : Int32), .int (0 : Int32), .int (0 : Int32), .int (0 : Int32), .int (0 : Int32), .int (0 : Int32), .int (0 : Int32), .int (0 : Int32), .int (0 : Int32), .int (0 : Int32), .int (0 : Int32), .int (0 : Int32), .int (0 : Int32), .int (0 : Int32), .int (0 : Int32), .int (0 : Int32), .int (0 : Int32), .int (0 : Int32), .int (0 : Int32), .int (0 : Int32), .int (0 : Int32), .int (0 : Int32), .int (0 : Int32)] := A58
  have ne_b3_b58 : b3 ≠ b58 := Nat.ne_of_lt (Nat.lt_of_lt_of_le (AL.lt A57) (Nat.le_of_eq g58.symm))
  have A58_b3 := A57.keep K58
  have KK58 := (Keep.trans0 K57 K58)
  have sz_b58 : h0.size ≤ b58 := Nat.le_trans K57.1 (Nat.le_of_eq g58.symm)
  have g_b58 : n0 ≤ b58 := Nat.le_trans Z0 sz_b58
  obtain ⟨T59, h59, L59, X59, e59, W59, A59, K59, N59, st59⟩ := own_stI X58 hx hZ e58 A58 KK58 sz_b58 N57 g_b58 (i := 0) (by decide) (by decide) (by simp) (g := (mkF m 205 #[.val (.int p1), .val (.int p2), .val (.int p3), .val (.int kx), .val (.ref b3), .unset, .unset, .unset, .unset, .unset, .unset] [(.int (0 : Int32)), (.int (0 : Int32)), (.ref b58), (.ref b58)])) rfl rfl (hb hby at_205)
  replace A59 : AL Z h59 b58 k58 .int [.int (0 : Int32), .int (0 : Int32), .int (0 : Int32), .int (0 : Int32), .int (0 : Int32), .int (0 : Int32), .int (0 : Int32), .int (0 : Int32), .int (0 : Int32), .int (0 : Int32), .int (0 : Int32), .int (0 : Int32), .int (0 : Int32), .int (0 : Int32), .int (0 : Int32), .int (0 : Int32), .int (0 : Int32), .int (0 : Int32), .int (0 : Int32), .int (0 : Int32), .int (0 : Int32), .int (0 : Int32), .int (0 : Int32), .int (0 : Int32), .int (0 : Int32), .int (0 : Int32), .int (0 : Int32)] := A59
  have A59_b3 := (A58_b3.other W59 ne_b3_b58)
  obtain ⟨T60, h60, L60, X60, e60, W60, A60, K60, N60, st60⟩ := own_stI X59 hx hZ e59 A59 K59 sz_b58 N59 g_b58 (i := 1) (by decide) (by decide) (by simp) (g := (mkF m 209 #[.val (.int p1), .val (.int p2), .val (.int p3), .val (.int kx), .val (.ref b3), .unset, .unset, .unset, .unset, .unset, .unset] [(.int (0 : Int32)), (.int (1 : Int32)), (.ref b58), (.ref b58)])) rfl rfl (hb hby at_209)
  replace A60 : AL Z h60 b58 k58 .int [.int (0 : Int32), .int (0 : Int32), .int (0 : Int32), .int (0 : Int32), .int (0 : Int32), .int (0 : Int32), .int (0 : Int32), .int (0 : Int32), .int (0 : Int32), .int (0 : Int32), .int (0 : Int32), .int (0 : Int32), .int (0 : Int32), .int (0 : Int32), .int (0 : Int32), .int (0 : Int32), .int (0 : Int32), .int (0 : Int32), .int (0 : Int32), .int (0 : Int32), .int (0 : Int32), .int (0 : Int32), .int (0 : Int32), .int (0 : Int32), .int (0 : Int32), .int (0 : Int32), .int (0 : Int32)] := A60
  have A60_b3 := (A59_b3.other W60 ne_b3_b58)
  obtain ⟨T61, h61, L61, X61, e61, W61, A61, K61, N61, st61⟩ := own_stI X60 hx hZ e60 A60 K60 sz_b58 N60 g_b58 (i := 2) (by decide) (by decide) (by simp) (g := (mkF m 213 #[.val (.int p1), .val (.int p2), .val (.int p3), .val (.int kx), .val (.ref b3), .unset, .unset, .unset, .unset, .unset, .unset] [(.int (1 : Int32)), (.int (2 : Int32)), (.ref b58), (.ref b58)])) rfl rfl (hb hby at_213)
  replace A61 : AL Z h61 b58 k58 .int [.int (0 : Int32), .int (0 : Int32), .int (1 : Int32), .int (0 : Int32), .int (0 : Int32), .int (0 : Int32), .int (0 : Int32), .int (0 : Int32), .int (0 : Int32), .int (0 : Int32), .int (0 : Int32), .int (0 : Int32), .int (0 : Int32), .int (0 : Int32), .int (0 : Int32), .int (0 : Int32), .int (0 : Int32), .int (0 : Int32), .int (0 : Int32), .int (0 : Int32), .int (0 : Int32), .int (0 : Int32), .int (0 : Int32), .int (0 : Int32), .int (0 : Int32), .int (0 : Int32), .int (0 : Int32)] := A61
  have A61_b3 := (A60_b3.other W61 ne_b3_b58)
  obtain ⟨T62, h62, L62, X62, e62, W62, A62, K62, N62, st62⟩ := own_stI X61 hx hZ e61 A61 K61 sz_b58 N61 g_b58 (i := 3) (by decide) (by decide) (by simp) (g := (mkF m 217 #[.val (.int p1), .val (.int p2), .val (.int p3), .val (.int kx), .val (.ref b3), .unset, .unset, .unset, .unset, .unset, .unset] [(.int (1 : Int32)), (.int (3 : Int32)), (.ref b58), (.ref b58)])) rfl rfl (hb hby at_217)
  replace A62 : AL Z h62 b58 k58 .int [.int (0 : Int32), .int (0 : Int32), .int (1 : Int32), .int (1 : Int32), .int (0 : Int32), .int (0 : Int32), .int (0 : Int32), .int (0 : Int32), .int (0 : Int32), .int (0 : Int32), .int (0 : Int32), .int (0 : Int32), .int (0 : Int32), .int (0 : Int32), .int (0 : Int32), .int (0 : Int32), .int (0 : Int32), .int (0 : Int32), .int (0 : Int32), .int (0 : Int32), .int (0 : Int32), .int (0 : Int32), .int (0 : Int32), .int (0 : Int32), .int (0 : Int32), .int (0 : Int32), .int (0 : Int32)] := A62
  have A62_b3 := (A61_b3.other W62 ne_b3_b58)
  obtain ⟨T63, h63, L63, X63, e63, W63, A63, K63, N63, st63⟩ := own_stI X62 hx hZ e62 A62 K62 sz_b58 N62 g_b58 (i := 4) (by decide) (by decide) (by simp) (g := (mkF m 221 #[.val (.int p1), .val (.int p2), .val (.int p3), .val (.int kx), .val (.ref b3), .unset, .unset, .unset, .unset, .unset, .unset] [(.int (0 : Int32)), (.int (4 : Int32)), (.ref b58), (.ref b58)])) rfl rfl (hb hby at_221)
  replace A63 : AL Z h63 b58 k58 .int [.int (0 : Int32), .int (0 : Int32), .int (1 : Int32), .int (1 : Int32), .int (0 : Int32), .int (0 : Int32), .int (0 : Int32), .int (0 : Int32), .int (0 : Int32), .int (0 : Int32), .int (0 : Int32), .int (0 : Int32), .int (0 : Int32), .int (0 : Int32), .int (0 : Int32), .int (0 : Int32), .int (0 : Int32), .int (0 : Int32), .int (0 : Int32), .int (0 : Int32), .int (0 : Int32), .int (0 : Int32), .int (0 : Int32), .int (0 : Int32), .int (0 : Int32), .int (0 : Int32), .int (0 : Int32)] := A63
  have A63_b3 := (A62_b3.other W63 ne_b3_b58)
  obtain ⟨T64, h64, L64, X64, e64, W64, A64, K64, N64, st64⟩ := own_stI X63 hx hZ e63 A63 K63 sz_b58 N63 g_b58 (i := 5) (by decide) (by decide) (by simp) (g := (mkF m 225 #[.val (.int p1), .val (.int p2), .val (.int p3), .val (.int kx), .val (.ref b3), .unset, .unset, .unset, .unset, .unset, .unset] [(.int (0 : Int32)), (.int (5 : Int32)), (.ref b58), (.ref b58)])) rfl rfl (hb hby at_225)
  replace A64 : AL Z h64 b58 k58 .int [.int (0 : Int32), .int (0 : Int32), .int (1 : Int32), .int (1 : Int32), .int (0 : Int32), .int (0 : Int32), .int (0 : Int32), .int (0 : Int32), .int (0 : Int32), .int (0 : Int32), .int (0 : Int32), .int (0 : Int32), .int (0 : Int32), .int (0 : Int32), .int (0 : Int32), .int (0 : Int32), .int (0 : Int32), .int (0 : Int32), .int (0 : Int32), .int (0 : Int32), .int (0 : Int32), .int (0 : Int32), .int (0 : Int32), .int (0 : Int32), .int (0 : Int32), .int (0 : Int32), .int (0 : Int32)] := A64
  have A64_b3 := (A63_b3.other W64 ne_b3_b58)
  obtain ⟨T65, h65, L65, X65, e65, W65, A65, K65, N65, st65⟩ := own_stI X64 hx hZ e64 A64 K64 sz_b58 N64 g_b58 (i := 6) (by decide) (by decide) (by simp) (g := (mkF m 230 #[.val (.int p1), .val (.int p2), .val (.int p3), .val (.int kx), .val (.ref b3), .unset, .unset, .unset, .unset, .unset, .unset] [(.int (0 : Int32)), (.int (6 : Int32)), (.ref b58), (.ref b58)])) rfl rfl (hb hby at_230)
  replace A65 : AL Z h65 b58 k58 .int [.int (0 : Int32), .int (0 : Int32), .int (1 : Int32), .int (1 : Int32), .int (0 : Int32), .int (0 : Int32), .int (0 : Int32), .int (0 : Int32), .int (0 : Int32), .int (0 : Int32), .int (0 : Int32), .int (0 : Int32), .int (0 : Int32), .int (0 : Int32), .int (0 : Int32), .int (0 : Int32), .int (0 : Int32), .int (0 : Int32), .int (0 : Int32), .int (0 : Int32), .int (0 : Int32), .int (0 : Int32), .int (0 : Int32), .int (0 : Int32), .int (0 : Int32), .int (0 : Int32), .int (0 : Int32)] := A65
  have A65_b3 := (A64_b3.other W65 ne_b3_b58)
  obtain ⟨T66, h66, L66, X66, e66, W66, A66, K66, N66, st66⟩ := own_stI X65 hx hZ e65 A65 K65 sz_b58 N65 g_b58 (i := 7) (by decide) (by decide) (by simp) (g := (mkF m 235 #[.val (.int p1), .val (.int p2), .val (.int p3), .val (.int kx), .val (.ref b3), .unset, .unset, .unset, .unset, .unset, .unset] [(.int (0 : Int32)), (.int (7 : Int32)), (.ref b58), (.ref b58)])) rfl rfl (hb hby at_235)
  replace A66 : AL Z h66 b58 k58 .int [.int (0 : Int32), .int (0 : Int32), .int (1 : Int32), .int (1 : Int32), .int (0 : Int32), .int (0 : Int32), .int (0 : Int32), .int (0 : Int32), .int (0 : Int32), .int (0 : Int32), .int (0 : Int32), .int (0 : Int32), .int (0 : Int32), .int (0 : Int32), .int (0 : Int32), .int (0 : Int32), .int (0 : Int32), .int (0 : Int32), .int (0 : Int32), .int (0 : Int32), .int (0 : Int32), .int (0 : Int32), .int (0 : Int32), .int (0 : Int32), .int (0 : Int32), .int (0 : Int32), .int (0 : Int32)] := A66
  have A66_b3 := (A65_b3.other W66 ne_b3_b58)
  obtain ⟨T67, h67, L67, X67, e67, W67, A67, K67, N67, st67⟩ := own_stI X66 hx hZ e66 A66 K66 sz_b58 N66 g_b58 (i := 8) (by decide) (by decide) (by simp) (g := (mkF m 240 #[.val (.int p1), .val (.int p2), .val (.int p3), .val (.int kx), .val (.ref b3), .unset, .unset, .unset, .unset, .unset, .unset] [(.int (2 : Int32)), (.int (8 : Int32)), (.ref b58), (.ref b58)])) rfl rfl (hb hby at_240)
  replace A67 : AL Z h67 b58 k58 .int [.int (0 : Int32), .int (0 : Int32), .int (1 : Int32), .int (1 : Int32), .int (0 : Int32), .int (0 : Int32), .int (0 : Int32), .int (0 : Int32), .int (2 : Int32), .int (0 : Int32), .int (0 : Int32), .int (0 : Int32), .int (0 : Int32), .int (0 : Int32), .int (0 : Int32), .int (0 : Int32), .int (0 : Int32), .int (0 : Int32), .int (0 : Int32), .int (0 : Int32), .int (0 : Int32), .int (0 : Int32), .int (0 : Int32), .int (0 : Int32), .int (0 : Int32), .int (0 : Int32), .int (0 : Int32)] := A67
  have A67_b3 := (A66_b3.other W67 ne_b3_b58)
  obtain ⟨T68, h68, L68, X68, e68, W68, A68, K68, N68, st68⟩ := own_stI X67 hx hZ e67 A67 K67 sz_b58 N67 g_b58 (i := 9) (by decide) (by decide) (by simp) (g := (mkF m 245 #[.val (.int p1), .val (.int p2), .val (.int p3), .val (.int kx), .val (.ref b3), .unset, .unset, .unset, .unset, .unset, .unset] [(.int (2 : Int32)), (.int (9 : Int32)), (.ref b58), (.ref b58)])) rfl rfl (hb hby at_245)
  replace A68 : AL Z h68 b58 k58 .int [.int (0 : Int32), .int (0 : Int32), .int (1 : Int32), .int (1 : Int32), .int (0 : Int32), .int (0 : Int32), .int (0 : Int32), .int (0 : Int32), .int (2 : Int32), .int (2 : Int32), .int (0 : Int32), .int (0 : Int32), .int (0 : Int32), .int (0 : Int32), .int (0 : Int32), .int (0 : Int32), .int (0 : Int32), .int (0 : Int32), .int (0 : Int32), .int (0 : Int32), .int (0 : Int32), .int (0 : Int32), .int (0 : Int32), .int (0 : Int32), .int (0 : Int32), .int (0 : Int32), .int (0 : Int32)] := A68
  have A68_b3 := (A67_b3.other W68 ne_b3_b58)
  obtain ⟨T69, h69, L69, X69, e69, W69, A69, K69, N69, st69⟩ := own_stI X68 hx hZ e68 A68 K68 sz_b58 N68 g_b58 (i := 10) (by decide) (by decide) (by simp) (g := (mkF m 250 #[.val (.int p1), .val (.int p2), .val (.int p3), .val (.int kx), .val (.ref b3), .unset, .unset, .unset, .unset, .unset, .unset] [(.int (2 : Int32)), (.int (10 : Int32)), (.ref b58), (.ref b58)])) rfl rfl (hb hby at_250)
  replace A69 : AL Z h69 b58 k58 .int [.int (0 : Int32), .int (0 : Int32), .int (1 : Int32), .int (1 : Int32), .int (0 : Int32), .int (0 : Int32), .int (0 : Int32), .int (0 : Int32), .int (2 : Int32), .int (2 : Int32), .int (2 : Int32), .int (0 : Int32), .int (0 : Int32), .int (0 : Int32), .int (0 : Int32), .int (0 : Int32), .int (0 : Int32), .int (0 : Int32), .int (0 : Int32), .int (0 : Int32), .int (0 : Int32), .int (0 : Int32), .int (0 : Int32), .int (0 : Int32), .int (0 : Int32), .int (0 : Int32), .int (0 : Int32)] := A69
  have A69_b3 := (A68_b3.other W69 ne_b3_b58)
  obtain ⟨T70, h70, L70, X70, e70, W70, A70, K70, N70, st70⟩ := own_stI X69 hx hZ e69 A69 K69 sz_b58 N69 g_b58 (i := 11) (by decide) (by decide) (by simp) (g := (mkF m 255 #[.val (.int p1), .val (.int p2), .val (.int p3), .val (.int kx), .val (.ref b3), .unset, .unset, .unset, .unset, .unset, .unset] [(.int (2 : Int32)), (.int (11 : Int32)), (.ref b58), (.ref b58)])) rfl rfl (hb hby at_255)
  replace A70 : AL Z h70 b58 k58 .int [.int (0 : Int32), .int (0 : Int32), .int (1 : Int32), .int (1 : Int32), .int (0 : Int32), .int (0 : Int32), .int (0 : Int32), .int (0 : Int32), .int (2 : Int32), .int (2 : Int32), .int (2 : Int32), .int (2 : Int32), .int (0 : Int32), .int (0 : Int32), .int (0 : Int32), .int (0 : Int32), .int (0 : Int32), .int (0 : Int32), .int (0 : Int32), .int (0 : Int32), .int (0 : Int32), .int (0 : Int32), .int (0 : Int32), .int (0 : Int32), .int (0 : Int32), .int (0 : Int32), .int (0 : Int32)] := A70
  have A70_b3 := (A69_b3.other W70 ne_b3_b58)
  obtain ⟨T71, h71, L71, X71, e71, W71, A71, K71, N71, st71⟩ := own_stI X70 hx hZ e70 A70 K70 sz_b58 N70 g_b58 (i := 12) (by decide) (by decide) (by simp) (g := (mkF m 260 #[.val (.int p1), .val (.int p2), .val (.int p3), .val (.int kx), .val (.ref b3), .unset, .unset, .unset, .unset, .unset, .unset] [(.int (2 : Int32)), (.int (12 : Int32)), (.ref b58), (.ref b58)])) rfl rfl (hb hby at_260)
  replace A71 : AL Z h71 b58 k58 .int [.int (0 : Int32), .int (0 : Int32), .int (1 : Int32), .int (1 : Int32), .int (0 : Int32), .int (0 : Int32), .int (0 : Int32), .int (0 : Int32), .int (2 : Int32), .int (2 : Int32), .int (2 : Int32), .int (2 : Int32), .int (2 : Int32), .int (0 : Int32), .int (0 : Int32), .int (0 : Int32), .int (0 : Int32), .int (0 : Int32), .int (0 : Int32), .int (0 : Int32), .int (0 : Int32), .int (0 : Int32), .int (0 : Int32), .int (0 : Int32), .int (0 : Int32), .int (0 : Int32), .int (0 : Int32)] := A71
  have A71_b3 := (A70_b3.other W71 ne_b3_b58)
  obtain ⟨T72, h72, L72, X72, e72, W72, A72, K72, N72, st72⟩ := own_stI X71 hx hZ e71 A71 K71 sz_b58 N71 g_b58 (i := 13) (by decide) (by decide) (by simp) (g := (mkF m 265 #[.val (.int p1), .val (.int p2), .val (.int p3), .val (.int kx), .val (.ref b3), .unset, .unset, .unset, .unset, .unset, .unset] [(.int (2 : Int32)), (.int (13 : Int32)), (.ref b58), (.ref b58)])) rfl rfl (hb hby at_265)
  replace A72 : AL Z h72 b58 k58 .int [.int (0 : Int32), .int (0 : Int32), .int (1 : Int32), .int (1 : Int32), .int (0 : Int32), .int (0 : Int32), .int (0 : Int32), .int (0 : Int32), .int (2 : Int32), .int (2 : Int32), .int (2 : Int32), .int (2 : Int32), .int (2 : Int32), .int (2 : Int32), .int (0 : Int32), .int (0 : Int32), .int (0 : Int32), .int (0 : Int32), .int (0 : Int32), .int (0 : Int32), .int (0 : Int32), .int (0 : Int32), .int (0 : Int32), .int (0 : Int32), .int (0 : Int32), .int (0 : Int32), .int (0 : Int32)] := A72
  have A72_b3 := (A71_b3.other W72 ne_b3_b58)
  obtain ⟨T73, h73, L73, X73, e73, W73, A73, K73, N73, st73⟩ := own_stI X72 hx hZ e72 A72 K72 sz_b58 N72 g_b58 (i := 14) (by decide) (by decide) (by simp) (g := (mkF m 270 #[.val (.int p1), .val (.int p2), .val (.int p3), .val (.int kx), .val (.ref b3), .unset, .unset, .unset, .unset, .unset, .unset] [(.int (0 : Int32)), (.int (14 : Int32)), (.ref b58), (.ref b58)])) rfl rfl (hb hby at_270)
  replace A73 : AL Z h73 b58 k58 .int [.int (0 : Int32), .int (0 : Int32), .int (1 : Int32), .int (1 : Int32), .int (0 : Int32), .int (0 : Int32), .int (0 : Int32), .int (0 : Int32), .int (2 : Int32), .int (2 : Int32), .int (2 : Int32), .int (2 : Int32), .int (2 : Int32), .int (2 : Int32), .int (0 : Int32), .int (0 : Int32), .int (0 : Int32), .int (0 : Int32), .int (0 : Int32), .int (0 : Int32), .int (0 : Int32), .int (0 : Int32), .int (0 : Int32), .int (0 : Int32), .int (0 : Int32), .int (0 : Int32), .int (0 : Int32)] := A73
  have A73_b3 := (A72_b3.other W73 ne_b3_b58)
  obtain ⟨T74, h74, L74, X74, e74, W74, A74, K74, N74, st74⟩ := own_stI X73 hx hZ e73 A73 K73 sz_b58 N73 g_b58 (i := 15) (by decide) (by decide) (by simp) (g := (mkF m 275 #[.val (.int p1), .val (.int p2), .val (.int p3), .val (.int kx), .val (.ref b3), .unset, .unset, .unset, .unset, .unset, .unset] [(.int (0 : Int32)), (.int (15 : Int32)), (.ref b58), (.ref b58)])) rfl rfl (hb hby at_275)
  replace A74 : AL Z h74 b58 k58 .int [.int (0 : Int32), .int (0 : Int32), .int (1 : Int32), .int (1 : Int32), .int (0 : Int32), .int (0 : Int32), .int (0 : Int32), .int (0 : Int32), .int (2 : Int32), .int (2 : Int32), .int (2 : Int32), .int (2 : Int32), .int (2 : Int32), .int (2 : Int32), .int (0 : Int32), .int (0 : Int32), .int (0 : Int32), .int (0 : Int32), .int (0 : Int32), .int (0 : Int32), .int (0 : Int32), .int (0 : Int32), .int (0 : Int32), .int (0 : Int32), .int (0 : Int32), .int (0 : Int32), .int (0 : Int32)] := A74
  have A74_b3 := (A73_b3.other W74 ne_b3_b58)
  obtain ⟨T75, h75, L75, X75, e75, W75, A75, K75, N75, st75⟩ := own_stI X74 hx hZ e74 A74 K74 sz_b58 N74 g_b58 (i := 16) (by decide) (by decide) (by simp) (g := (mkF m 280 #[.val (.int p1), .val (.int p2), .val (.int p3), .val (.int kx), .val (.ref b3), .unset, .unset, .unset, .unset, .unset, .unset] [(.int (3 : Int32)), (.int (16 : Int32)), (.ref b58), (.ref b58)])) rfl rfl (hb hby at_280)
  replace A75 : AL Z h75 b58 k58 .int [.int (0 : Int32), .int (0 : Int32), .int (1 : Int32), .int (1 : Int32), .int (0 : Int32), .int (0 : Int32), .int (0 : Int32), .int (0 : Int32), .int (2 : Int32), .int (2 : Int32), .int (2 : Int32), .int (2 : Int32), .int (2 : Int32), .int (2 : Int32), .int (0 : Int32), .int (0 : Int32), .int (3 : Int32), .int (0 : Int32), .int (0 : Int32), .int (0 : Int32), .int (0 : Int32), .int (0 : Int32), .int (0 : Int32), .int (0 : Int32), .int (0 : Int32), .int (0 : Int32), .int (0 : Int32)] := A75
  have A75_b3 := (A74_b3.other W75 ne_b3_b58)
  obtain ⟨T76, h76, L76, X76, e76, W76, A76, K76, N76, st76⟩ := own_stI X75 hx hZ e75 A75 K75 sz_b58 N75 g_b58 (i := 17) (by decide) (by decide) (by simp) (g := (mkF m 285 #[.val (.int p1), .val (.int p2), .val (.int p3), .val (.int kx), .val (.ref b3), .unset, .unset, .unset, .unset, .unset, .unset] [(.int (1 : Int32)), (.int (17 : Int32)), (.ref b58), (.ref b58)])) rfl rfl (hb hby at_285)
  replace A76 : AL Z h76 b58 k58 .int [.int (0 : Int32), .int (0 : Int32), .int (1 : Int32), .int (1 : Int32), .int (0 : Int32), .int (0 : Int32), .int (0 : Int32), .int (0 : Int32), .int (2 : Int32), .int (2 : Int32), .int (2 : Int32), .int (2 : Int32), .int (2 : Int32), .int (2 : Int32), .int (0 : Int32), .int (0 : Int32), .int (3 : Int32), .int (1 : Int32), .int (0 : Int32), .int (0 : Int32), .int (0 : Int32), .int (0 : Int32), .int (0 : Int32), .int (0 : Int32), .int (0 : Int32), .int (0 : Int32), .int (0 : Int32)] := A76
  have A76_b3 := (A75_b3.other W76 ne_b3_b58)
  obtain ⟨T77, h77, L77, X77, e77, W77, A77, K77, N77, st77⟩ := own_stI X76 hx hZ e76 A76 K76 sz_b58 N76 g_b58 (i := 18) (by decide) (by decide) (by simp) (g := (mkF m 290 #[.val (.int p1), .val (.int p2), .val (.int p3), .val (.int kx), .val (.ref b3), .unset, .unset, .unset, .unset, .unset, .unset] [(.int (1 : Int32)), (.int (18 : Int32)), (.ref b58), (.ref b58)])) rfl rfl (hb hby at_290)
  replace A77 : AL Z h77 b58 k58 .int [.int (0 : Int32), .int (0 : Int32), .int (1 : Int32), .int (1 : Int32), .int (0 : Int32), .int (0 : Int32), .int (0 : Int32), .int (0 : Int32), .int (2 : Int32), .int (2 : Int32), .int (2 : Int32), .int (2 : Int32), .int (2 : Int32), .int (2 : Int32), .int (0 : Int32), .int (0 : Int32), .int (3 : Int32), .int (1 : Int32), .int (1 : Int32), .int (0 : Int32), .int (0 : Int32), .int (0 : Int32), .int (0 : Int32), .int (0 : Int32), .int (0 : Int32), .int (0 : Int32), .int (0 : Int32)] := A77
  have A77_b3 := (A76_b3.other W77 ne_b3_b58)
  obtain ⟨T78, h78, L78, X78, e78, W78, A78, K78, N78, st78⟩ := own_stI X77 hx hZ e77 A77 K77 sz_b58 N77 g_b58 (i := 19) (by decide) (by decide) (by simp) (g := (mkF m 295 #[.val (.int p1), .val (.int p2), .val (.int p3), .val (.int kx), .val (.ref b3), .unset, .unset, .unset, .unset, .unset, .unset] [(.int (0 : Int32)), (.int (19 : Int32)), (.ref b58), (.ref b58)])) rfl rfl (hb hby at_295)
  replace A78 : AL Z h78 b58 k58 .int [.int (0 : Int32), .int (0 : Int32), .int (1 : Int32), .int (1 : Int32), .int (0 : Int32), .int (0 : Int32), .int (0 : Int32), .int (0 : Int32), .int (2 : Int32), .int (2 : Int32), .int (2 : Int32), .int (2 : Int32), .int (2 : Int32), .int (2 : Int32), .int (0 : Int32), .int (0 : Int32), .int (3 : Int32), .int (1 : Int32), .int (1 : Int32), .int (0 : Int32), .int (0 : Int32), .int (0 : Int32), .int (0 : Int32), .int (0 : Int32), .int (0 : Int32), .int (0 : Int32), .int (0 : Int32)] := A78
  have A78_b3 := (A77_b3.other W78 ne_b3_b58)
  obtain ⟨T79, h79, L79, X79, e79, W79, A79, K79, N79, st79⟩ := own_stI X78 hx hZ e78 A78 K78 sz_b58 N78 g_b58 (i := 20) (by decide) (by decide) (by simp) (g := (mkF m 300 #[.val (.int p1), .val (.int p2), .val (.int p3), .val (.int kx), .val (.ref b3), .unset, .unset, .unset, .unset, .unset, .unset] [(.int (0 : Int32)), (.int (20 : Int32)), (.ref b58), (.ref b58)])) rfl rfl (hb hby at_300)
  replace A79 : AL Z h79 b58 k58 .int [.int (0 : Int32), .int (0 : Int32), .int (1 : Int32), .int (1 : Int32), .int (0 : Int32), .int (0 : Int32), .int (0 : Int32), .int (0 : Int32), .int (2 : Int32), .int (2 : Int32), .int (2 : Int32), .int (2 : Int32), .int (2 : Int32), .int (2 : Int32), .int (0 : Int32), .int (0 : Int32), .int (3 : Int32), .int (1 : Int32), .int (1 : Int32), .int (0 : Int32), .int (0 : Int32), .int (0 : Int32), .int (0 : Int32), .int (0 : Int32), .int (0 : Int32), .int (0 : Int32), .int (0 : Int32)] := A79
  have A79_b3 := (A78_b3.other W79 ne_b3_b58)
  obtain ⟨T80, h80, L80, X80, e80, W80, A80, K80, N80, st80⟩ := own_stI X79 hx hZ e79 A79 K79 sz_b58 N79 g_b58 (i := 21) (by decide) (by decide) (by simp) (g := (mkF m 305 #[.val (.int p1), .val (.int p2), .val (.int p3), .val (.int kx), .val (.ref b3), .unset, .unset, .unset, .unset, .unset, .unset] [(.int (1 : Int32)), (.int (21 : Int32)), (.ref b58), (.ref b58)])) rfl rfl (hb hby at_305)
  replace A80 : AL Z h80 b58 k58 .int [.int (0 : Int32), .int (0 : Int32), .int (1 : Int32), .int (1 : Int32), .int (0 : Int32), .int (0 : Int32), .int (0 : Int32), .int (0 : Int32), .int (2 : Int32), .int (2 : Int32), .int (2 : Int32), .int (2 : Int32), .int (2 : Int32), .int (2 : Int32), .int (0 : Int32), .int (0 : Int32), .int (3 : Int32), .int (1 : Int32), .int (1 : Int32), .int (0 : Int32), .int (0 : Int32), .int (1 : Int32), .int (0 : Int32), .int (0 : Int32), .int (0 : Int32), .int (0 : Int32), .int (0 : Int32)] := A80
  have A80_b3 := (A79_b3.other W80 ne_b3_b58)
  obtain ⟨T81, h81, L81, X81, e81, W81, A81, K81, N81, st81⟩ := own_stI X80 hx hZ e80 A80 K80 sz_b58 N80 g_b58 (i := 22) (by decide) (by decide) (by simp) (g := (mkF m 310 #[.val (.int p1), .val (.int p2), .val (.int p3), .val (.int kx), .val (.ref b3), .unset, .unset, .unset, .unset, .unset, .unset] [(.int (0 : Int32)), (.int (22 : Int32)), (.ref b58), (.ref b58)])) rfl rfl (hb hby at_310)
  replace A81 : AL Z h81 b58 k58 .int [.int (0 : Int32), .int (0 : Int32), .int (1 : Int32), .int (1 : Int32), .int (0 : Int32), .int (0 : Int32), .int (0 : Int32), .int (0 : Int32), .int (2 : Int32), .int (2 : Int32), .int (2 : Int32), .int (2 : Int32), .int (2 : Int32), .int (2 : Int32), .int (0 : Int32), .int (0 : Int32), .int (3 : Int32), .int (1 : Int32), .int (1 : Int32), .int (0 : Int32), .int (0 : Int32), .int (1 : Int32), .int (0 : Int32), .int (0 : Int32), .int (0 : Int32), .int (0 : Int32), .int (0 : Int32)] := A81
  have A81_b3 := (A80_b3.other W81 ne_b3_b58)
  obtain ⟨T82, h82, L82, X82, e82, W82, A82, K82, N82, st82⟩ := own_stI X81 hx hZ e81 A81 K81 sz_b58 N81 g_b58 (i := 23) (by decide) (by decide) (by simp) (g := (mkF m 315 #[.val (.int p1), .val (.int p2), .val (.int p3), .val (.int kx), .val (.ref b3), .unset, .unset, .unset, .unset, .unset, .unset] [(.int (1 : Int32)), (.int (23 : Int32)), (.ref b58), (.ref b58)])) rfl rfl (hb hby at_315)
  replace A82 : AL Z h82 b58 k58 .int [.int (0 : Int32), .int (0 : Int32), .int (1 : Int32), .int (1 : Int32), .int (0 : Int32), .int (0 : Int32), .int (0 : Int32), .int (0 : Int32), .int (2 : Int32), .int (2 : Int32), .int (2 : Int32), .int (2 : Int32), .int (2 : Int32), .int (2 : Int32), .int (0 : Int32), .int (0 : Int32), .int (3 : Int32), .int (1 : Int32), .int (1 : Int32), .int (0 : Int32), .int (0 : Int32), .int (1 : Int32), .int (0 : Int32), .int (1 : Int32), .int (0 : Int32), .int (0 : Int32), .int (0 : Int32)] := A82
  have A82_b3 := (A81_b3.other W82 ne_b3_b58)
  obtain ⟨T83, h83, L83, X83, e83, W83, A83, K83, N83, st83⟩ := own_stI X82 hx hZ e82 A82 K82 sz_b58 N82 g_b58 (i := 24) (by decide) (by decide) (by simp) (g := (mkF m 320 #[.val (.int p1), .val (.int p2), .val (.int p3), .val (.int kx), .val (.ref b3), .unset, .unset, .unset, .unset, .unset, .unset] [(.int (1 : Int32)), (.int (24 : Int32)), (.ref b58), (.ref b58)])) rfl rfl (hb hby at_320)
  replace A83 : AL Z h83 b58 k58 .int [.int (0 : Int32), .int (0 : Int32), .int (1 : Int32), .int (1 : Int32), .int (0 : Int32), .int (0 : Int32), .int (0 : Int32), .int (0 : Int32), .int (2 : Int32), .int (2 : Int32), .int (2 : Int32), .int (2 : Int32), .int (2 : Int32), .int (2 : Int32), .int (0 : Int32), .int (0 : Int32), .int (3 : Int32), .int (1 : Int32), .int (1 : Int32), .int (0 : Int32), .int (0 : Int32), .int (1 : Int32), .int (0 : Int32), .int (1 : Int32), .int (1 : Int32), .int (0 : Int32), .int (0 : Int32)] := A83
  have A83_b3 := (A82_b3.other W83 ne_b3_b58)
  obtain ⟨T84, h84, L84, X84, e84, W84, A84, K84, N84, st84⟩ := own_stI X83 hx hZ e83 A83 K83 sz_b58 N83 g_b58 (i := 25) (by decide) (by decide) (by simp) (g := (mkF m 325 #[.val (.int p1), .val (.int p2), .val (.int p3), .val (.int kx), .val (.ref b3), .unset, .unset, .unset, .unset, .unset, .unset] [(.int (1 : Int32)), (.int (25 : Int32)), (.ref b58), (.ref b58)])) rfl rfl (hb hby at_325)
  replace A84 : AL Z h84 b58 k58 .int [.int (0 : Int32), .int (0 : Int32), .int (1 : Int32), .int (1 : Int32), .int (0 : Int32), .int (0 : Int32), .int (0 : Int32), .int (0 : Int32), .int (2 : Int32), .int (2 : Int32), .int (2 : Int32), .int (2 : Int32), .int (2 : Int32), .int (2 : Int32), .int (0 : Int32), .int (0 : Int32), .int (3 : Int32), .int (1 : Int32), .int (1 : Int32), .int (0 : Int32), .int (0 : Int32), .int (1 : Int32), .int (0 : Int32), .int (1 : Int32), .int (1 : Int32), .int (1 : Int32), .int (0 : Int32)] := A84
  have A84_b3 := (A83_b3.other W84 ne_b3_b58)
  obtain ⟨T85, h85, L85, X85, e85, W85, A85, K85, N85, st85⟩ := own_stI X84 hx hZ e84 A84 K84 sz_b58 N84 g_b58 (i := 26) (by decide) (by decide) (by simp) (g := (mkF m 330 #[.val (.int p1), .val (.int p2), .val (.int p3), .val (.int kx), .val (.ref b3), .unset, .unset, .unset, .unset, .unset, .unset] [(.int (1 : Int32)), (.int (26 : Int32)), (.ref b58), (.ref b58)])) rfl rfl (hb hby at_330)
  replace A85 : AL Z h85 b58 k58 .int [.int (0 : Int32), .int (0 : Int32), .int (1 : Int32), .int (1 : Int32), .int (0 : Int32), .int (0 : Int32), .int (0 : Int32), .int (0 : Int32), .int (2 : Int32), .int (2 : Int32), .int (2 : Int32), .int (2 : Int32), .int (2 : Int32), .int (2 : Int32), .int (0 : Int32), .int (0 : Int32), .int (3 : Int32), .int (1 : Int32), .int (1 : Int32), .int (0 : Int32), .int (0 : Int32), .int (1 : Int32), .int (0 : Int32), .int (1 : Int32), .int (1 : Int32), .int (1 : Int32), .int (1 : Int32)] := A85
  have A85_b3 := (A84_b3.other W85 ne_b3_b58)
  obtain ⟨T86, h86, k86, X86, e86, K86, A86, st86⟩ := own_newI X85 hx hZ (hw _ (List.mem_of_getElem? (i := 59) rfl)) e85 (g := (mkF m 335 #[.val (.int p1), .val (.int p2), .val (.int p3), .val (.int kx), .val (.ref b3), .val (.ref b58), .unset, .unset, .unset, .unset, .unset] [(.int (27 : Int32))])) rfl (hb hby at_335) rfl (by decide) (cap := 27) (by decide) (by decide) (by decide) (by decide)
  obtain ⟨b86, g86⟩ : ∃ z, z = h85.size := ⟨_, rfl⟩
  rw [← g86] at A86 st86
  replace A86 : AL Z h86 b86 k86 .int [.int (0 : Int32), .int (0 : Int32), .int (0 : Int32), .int (0 : Int32), .int (0 : Int32), .int (0 : Int32), .int (0 : Int32), .int (0 : Int32), .int (0 : Int32), .int (0 : Int32), .int (0 : Int32), .int (0 : Int32), .int (0 : Int32), .int (0 : Int32), .int (0 : Int32), .int (0 : Int32), .int (0 : Int32), .int (0 : Int32), .int (0 : Int32), .int (0 : Int32), .int (0 : Int32), .int (0 : Int32), .int (0 : Int32), .int (0 : Int32), .int (0 : Int32), .int (0 : Int32), .int (0 : Int32)] := A86
  have ne_b3_b86 : b3 ≠ b86 := Nat.ne_of_lt (Nat.lt_of_lt_of_le (AL.lt A85_b3) (Nat.le_of_eq g86.symm))
  have A86_b3 := A85_b3.keep K86
  have ne_b58_b86 : b58 ≠ b86 := Nat.ne_of_lt (Nat.lt_of_lt_of_le (AL.lt A85) (Nat.le_of_eq g86.symm))
  have A86_b58 := A85.keep K86
  have KK86 := (Keep.trans0 K85 K86)
  have sz_b86 : h0.size ≤ b86 := Nat.le_trans K85.1 (Nat.le_of_eq g86.symm)
  have g_b86 : n0 ≤ b86 := Nat.le_trans Z0 sz_b86
  obtain ⟨T87, h87, L87, X87, e87, W87, A87, K87, N87, st87⟩ := own_stI X86 hx hZ e86 A86 KK86 sz_b86 N85 g_b86 (i := 0) (by decide) (by decide) (by simp) (g := (mkF m 340 #[.val (.int p1), .val (.int p2), .val (.int p3), .val (.int kx), .val (.ref b3), .val (.ref b58), .unset, .unset, .unset, .unset, .unset] [(.int (0 : Int32)), (.int (0 : Int32)), (.ref b86), (.ref b86)])) rfl rfl (hb hby at_340)
  replace A87 : AL Z h87 b86 k86 .int [.int (0 : Int32), .int (0 : Int32), .int (0 : Int32), .int (0 : Int32), .int (0 : Int32), .int (0 : Int32), .int (0 : Int32), .int (0 : Int32), .int (0 : Int32), .int (0 : Int32), .int (0 : Int32), .int (0 : Int32), .int (0 : Int32), .int (0 : Int32), .int (0 : Int32), .int (0 : Int32), .int (0 : Int32), .int (0 : Int32), .int (0 : Int32), .int (0 : Int32), .int (0 : Int32), .int (0 : Int32), .int (0 : Int32), .int (0 : Int32), .int (0 : Int32), .int (0 : Int32), .int (0 : Int32)] := A87
  have A87_b3 := (A86_b3.other W87 ne_b3_b86)
  have A87_b58 := (A86_b58.other W87 ne_b58_b86)
  obtain ⟨T88, h88, L88, X88, e88, W88, A88, K88, N88, st88⟩ := own_stI X87 hx hZ e87 A87 K87 sz_b86 N87 g_b86 (i := 1) (by decide) (by decide) (by simp) (g := (mkF m 344 #[.val (.int p1), .val (.int p2), .val (.int p3), .val (.int kx), .val (.ref b3), .val (.ref b58), .unset, .unset, .unset, .unset, .unset] [(.int (0 : Int32)), (.int (1 : Int32)), (.ref b86), (.ref b86)])) rfl rfl (hb hby at_344)
  replace A88 : AL Z h88 b86 k86 .int [.int (0 : Int32), .int (0 : Int32), .int (0 : Int32), .int (0 : Int32), .int (0 : Int32), .int (0 : Int32), .int (0 : Int32), .int (0 : Int32), .int (0 : Int32), .int (0 : Int32), .int (0 : Int32), .int (0 : Int32), .int (0 : Int32), .int (0 : Int32), .int (0 : Int32), .int (0 : Int32), .int (0 : Int32), .int (0 : Int32), .int (0 : Int32), .int (0 : Int32), .int (0 : Int32), .int (0 : Int32), .int (0 : Int32), .int (0 : Int32), .int (0 : Int32), .int (0 : Int32), .int (0 : Int32)] := A88
  have A88_b3 := (A87_b3.other W88 ne_b3_b86)
  have A88_b58 := (A87_b58.other W88 ne_b58_b86)
  obtain ⟨T89, h89, L89, X89, e89, W89, A89, K89, N89, st89⟩ := own_stI X88 hx hZ e88 A88 K88 sz_b86 N88 g_b86 (i := 2) (by decide) (by decide) (by simp) (g := (mkF m 348 #[.val (.int p1), .val (.int p2), .val (.int p3), .val (.int kx), .val (.ref b3), .val (.ref b58), .unset, .unset, .unset, .unset, .unset] [(.int (1 : Int32)), (.int (2 : Int32)), (.ref b86), (.ref b86)])) rfl rfl (hb hby at_348)
  replace A89 : AL Z h89 b86 k86 .int [.int (0 : Int32), .int (0 : Int32), .int (1 : Int32), .int (0 : Int32), .int (0 : Int32), .int (0 : Int32), .int (0 : Int32), .int (0 : Int32), .int (0 : Int32), .int (0 : Int32), .int (0 : Int32), .int (0 : Int32), .int (0 : Int32), .int (0 : Int32), .int (0 : Int32), .int (0 : Int32), .int (0 : Int32), .int (0 : Int32), .int (0 : Int32), .int (0 : Int32), .int (0 : Int32), .int (0 : Int32), .int (0 : Int32), .int (0 : Int32), .int (0 : Int32), .int (0 : Int32), .int (0 : Int32)] := A89
  have A89_b3 := (A88_b3.other W89 ne_b3_b86)
  have A89_b58 := (A88_b58.other W89 ne_b58_b86)
  obtain ⟨T90, h90, L90, X90, e90, W90, A90, K90, N90, st90⟩ := own_stI X89 hx hZ e89 A89 K89 sz_b86 N89 g_b86 (i := 3) (by decide) (by decide) (by simp) (g := (mkF m 352 #[.val (.int p1), .val (.int p2), .val (.int p3), .val (.int kx), .val (.ref b3), .val (.ref b58), .unset, .unset, .unset, .unset, .unset] [(.int (1 : Int32)), (.int (3 : Int32)), (.ref b86), (.ref b86)])) rfl rfl (hb hby at_352)
  replace A90 : AL Z h90 b86 k86 .int [.int (0 : Int32), .int (0 : Int32), .int (1 : Int32), .int (1 : Int32), .int (0 : Int32), .int (0 : Int32), .int (0 : Int32), .int (0 : Int32), .int (0 : Int32), .int (0 : Int32), .int (0 : Int32), .int (0 : Int32), .int (0 : Int32), .int (0 : Int32), .int (0 : Int32), .int (0 : Int32), .int (0 : Int32), .int (0 : Int32), .int (0 : Int32), .int (0 : Int32), .int (0 : Int32), .int (0 : Int32), .int (0 : Int32), .int (0 : Int32), .int (0 : Int32), .int (0 : Int32), .int (0 : Int32)] := A90
  have A90_b3 := (A89_b3.other W90 ne_b3_b86)
  have A90_b58 := (A89_b58.other W90 ne_b58_b86)
  obtain ⟨T91, h91, L91, X91, e91, W91, A91, K91, N91, st91⟩ := own_stI X90 hx hZ e90 A90 K90 sz_b86 N90 g_b86 (i := 4) (by decide) (by decide) (by simp) (g := (mkF m 356 #[.val (.int p1), .val (.int p2), .val (.int p3), .val (.int kx), .val (.ref b3), .val (.ref b58), .unset, .unset, .unset, .unset, .unset] [(.int (1 : Int32)), (.int (4 : Int32)), (.ref b86), (.ref b86)])) rfl rfl (hb hby at_356)
  replace A91 : AL Z h91 b86 k86 .int [.int (0 : Int32), .int (0 : Int32), .int (1 : Int32), .int (1 : Int32), .int (1 : Int32), .int (0 : Int32), .int (0 : Int32), .int (0 : Int32), .int (0 : Int32), .int (0 : Int32), .int (0 : Int32), .int (0 : Int32), .int (0 : Int32), .int (0 : Int32), .int (0 : Int32), .int (0 : Int32), .int (0 : Int32), .int (0 : Int32), .int (0 : Int32), .int (0 : Int32), .int (0 : Int32), .int (0 : Int32), .int (0 : Int32), .int (0 : Int32), .int (0 : Int32), .int (0 : Int32), .int (0 : Int32)] := A91
  have A91_b3 := (A90_b3.other W91 ne_b3_b86)
  have A91_b58 := (A90_b58.other W91 ne_b58_b86)
  obtain ⟨T92, h92, L92, X92, e92, W92, A92, K92, N92, st92⟩ := own_stI X91 hx hZ e91 A91 K91 sz_b86 N91 g_b86 (i := 5) (by decide) (by decide) (by simp) (g := (mkF m 360 #[.val (.int p1), .val (.int p2), .val (.int p3), .val (.int kx), .val (.ref b3), .val (.ref b58), .unset, .unset, .unset, .unset, .unset] [(.int (1 : Int32)), (.int (5 : Int32)), (.ref b86), (.ref b86)])) rfl rfl (hb hby at_360)
  replace A92 : AL Z h92 b86 k86 .int [.int (0 : Int32), .int (0 : Int32), .int (1 : Int32), .int (1 : Int32), .int (1 : Int32), .int (1 : Int32), .int (0 : Int32), .int (0 : Int32), .int (0 : Int32), .int (0 : Int32), .int (0 : Int32), .int (0 : Int32), .int (0 : Int32), .int (0 : Int32), .int (0 : Int32), .int (0 : Int32), .int (0 : Int32), .int (0 : Int32), .int (0 : Int32), .int (0 : Int32), .int (0 : Int32), .int (0 : Int32), .int (0 : Int32), .int (0 : Int32), .int (0 : Int32), .int (0 : Int32), .int (0 : Int32)] := A92
  have A92_b3 := (A91_b3.other W92 ne_b3_b86)
  have A92_b58 := (A91_b58.other W92 ne_b58_b86)
  obtain ⟨T93, h93, L93, X93, e93, W93, A93, K93, N93, st93⟩ := own_stI X92 hx hZ e92 A92 K92 sz_b86 N92 g_b86 (i := 6) (by decide) (by decide) (by simp) (g := (mkF m 365 #[.val (.int p1), .val (.int p2), .val (.int p3), .val (.int kx), .val (.ref b3), .val (.ref b58), .unset, .unset, .unset, .unset, .unset] [(.int (1 : Int32)), (.int (6 : Int32)), (.ref b86), (.ref b86)])) rfl rfl (hb hby at_365)
  replace A93 : AL Z h93 b86 k86 .int [.int (0 : Int32), .int (0 : Int32), .int (1 : Int32), .int (1 : Int32), .int (1 : Int32), .int (1 : Int32), .int (1 : Int32), .int (0 : Int32), .int (0 : Int32), .int (0 : Int32), .int (0 : Int32), .int (0 : Int32), .int (0 : Int32), .int (0 : Int32), .int (0 : Int32), .int (0 : Int32), .int (0 : Int32), .int (0 : Int32), .int (0 : Int32), .int (0 : Int32), .int (0 : Int32), .int (0 : Int32), .int (0 : Int32), .int (0 : Int32), .int (0 : Int32), .int (0 : Int32), .int (0 : Int32)] := A93
  have A93_b3 := (A92_b3.other W93 ne_b3_b86)
  have A93_b58 := (A92_b58.other W93 ne_b58_b86)
  obtain ⟨T94, h94, L94, X94, e94, W94, A94, K94, N94, st94⟩ := own_stI X93 hx hZ e93 A93 K93 sz_b86 N93 g_b86 (i := 7) (by decide) (by decide) (by simp) (g := (mkF m 370 #[.val (.int p1), .val (.int p2), .val (.int p3), .val (.int kx), .val (.ref b3), .val (.ref b58), .unset, .unset, .unset, .unset, .unset] [(.int (1 : Int32)), (.int (7 : Int32)), (.ref b86), (.ref b86)])) rfl rfl (hb hby at_370)
  replace A94 : AL Z h94 b86 k86 .int [.int (0 : Int32), .int (0 : Int32), .int (1 : Int32), .int (1 : Int32), .int (1 : Int32), .int (1 : Int32), .int (1 : Int32), .int (1 : Int32), .int (0 : Int32), .int (0 : Int32), .int (0 : Int32), .int (0 : Int32), .int (0 : Int32), .int (0 : Int32), .int (0 : Int32), .int (0 : Int32), .int (0 : Int32), .int (0 : Int32), .int (0 : Int32), .int (0 : Int32), .int (0 : Int32), .int (0 : Int32), .int (0 : Int32), .int (0 : Int32), .int (0 : Int32), .int (0 : Int32), .int (0 : Int32)] := A94
  have A94_b3 := (A93_b3.other W94 ne_b3_b86)
  have A94_b58 := (A93_b58.other W94 ne_b58_b86)
  obtain ⟨T95, h95, L95, X95, e95, W95, A95, K95, N95, st95⟩ := own_stI X94 hx hZ e94 A94 K94 sz_b86 N94 g_b86 (i := 8) (by decide) (by decide) (by simp) (g := (mkF m 375 #[.val (.int p1), .val (.int p2), .val (.int p3), .val (.int kx), .val (.ref b3), .val (.ref b58), .unset, .unset, .unset, .unset, .unset] [(.int (0 : Int32)), (.int (8 : Int32)), (.ref b86), (.ref b86)])) rfl rfl (hb hby at_375)
  replace A95 : AL Z h95 b86 k86 .int [.int (0 : Int32), .int (0 : Int32), .int (1 : Int32), .int (1 : Int32), .int (1 : Int32), .int (1 : Int32), .int (1 : Int32), .int (1 : Int32), .int (0 : Int32), .int (0 : Int32), .int (0 : Int32), .int (0 : Int32), .int (0 : Int32), .int (0 : Int32), .int (0 : Int32), .int (0 : Int32), .int (0 : Int32), .int (0 : Int32), .int (0 : Int32), .int (0 : Int32), .int (0 : Int32), .int (0 : Int32), .int (0 : Int32), .int (0 : Int32), .int (0 : Int32), .int (0 : Int32), .int (0 : Int32)] := A95
  have A95_b3 := (A94_b3.other W95 ne_b3_b86)
  have A95_b58 := (A94_b58.other W95 ne_b58_b86)
  obtain ⟨T96, h96, L96, X96, e96, W96, A96, K96, N96, st96⟩ := own_stI X95 hx hZ e95 A95 K95 sz_b86 N95 g_b86 (i := 9) (by decide) (by decide) (by simp) (g := (mkF m 380 #[.val (.int p1), .val (.int p2), .val (.int p3), .val (.int kx), .val (.ref b3), .val (.ref b58), .unset, .unset, .unset, .unset, .unset] [(.int (2 : Int32)), (.int (9 : Int32)), (.ref b86), (.ref b86)])) rfl rfl (hb hby at_380)
  replace A96 : AL Z h96 b86 k86 .int [.int (0 : Int32), .int (0 : Int32), .int (1 : Int32), .int (1 : Int32), .int (1 : Int32), .int (1 : Int32), .int (1 : Int32), .int (1 : Int32), .int (0 : Int32), .int (2 : Int32), .int (0 : Int32), .int (0 : Int32), .int (0 : Int32), .int (0 : Int32), .int (0 : Int32), .int (0 : Int32), .int (0 : Int32), .int (0 : Int32), .int (0 : Int32), .int (0 : Int32), .int (0 : Int32), .int (0 : Int32), .int (0 : Int32), .int (0 : Int32), .int (0 : Int32), .int (0 : Int32), .int (0 : Int32)] := A96
  have A96_b3 := (A95_b3.other W96 ne_b3_b86)
  have A96_b58 := (A95_b58.other W96 ne_b58_b86)
  obtain ⟨T97, h97, L97, X97, e97, W97, A97, K97, N97, st97⟩ := own_stI X96 hx hZ e96 A96 K96 sz_b86 N96 g_b86 (i := 10) (by decide) (by decide) (by simp) (g := (mkF m 385 #[.val (.int p1), .val (.int p2), .val (.int p3), .val (.int kx), .val (.ref b3), .val (.ref b58), .unset, .unset, .unset, .unset, .unset] [(.int (2 : Int32)), (.int (10 : Int32)), (.ref b86), (.ref b86)])) rfl rfl (hb hby at_385)
  replace A97 : AL Z h97 b86 k86 .int [.int (0 : Int32), .int (0 : Int32), .int (1 : Int32), .int (1 : Int32), .int (1 : Int32), .int (1 : Int32), .int (1 : Int32), .int (1 : Int32), .int (0 : Int32), .int (2 : Int32), .int (2 : Int32), .int (0 : Int32), .int (0 : Int32), .int (0 : Int32), .int (0 : Int32), .int (0 : Int32), .int (0 : Int32), .int (0 : Int32), .int (0 : Int32), .int (0 : Int32), .int (0 : Int32), .int (0 : Int32), .int (0 : Int32), .int (0 : Int32), .int (0 : Int32), .int (0 : Int32), .int (0 : Int32)] := A97
  have A97_b3 := (A96_b3.other W97 ne_b3_b86)
  have A97_b58 := (A96_b58.other W97 ne_b58_b86)
  obtain ⟨T98, h98, L98, X98, e98, W98, A98, K98, N98, st98⟩ := own_stI X97 hx hZ e97 A97 K97 sz_b86 N97 g_b86 (i := 11) (by decide) (by decide) (by simp) (g := (mkF m 390 #[.val (.int p1), .val (.int p2), .val (.int p3), .val (.int kx), .val (.ref b3), .val (.ref b58), .unset, .unset, .unset, .unset, .unset] [(.int (2 : Int32)), (.int (11 : Int32)), (.ref b86), (.ref b86)])) rfl rfl (hb hby at_390)
  replace A98 : AL Z h98 b86 k86 .int [.int (0 : Int32), .int (0 : Int32), .int (1 : Int32), .int (1 : Int32), .int (1 : Int32), .int (1 : Int32), .int (1 : Int32), .int (1 : Int32), .int (0 : Int32), .int (2 : Int32), .int (2 : Int32), .int (2 : Int32), .int (0 : Int32), .int (0 : Int32), .int (0 : Int32), .int (0 : Int32), .int (0 : Int32), .int (0 : Int32), .int (0 : Int32), .int (0 : Int32), .int (0 : Int32), .int (0 : Int32), .int (0 : Int32), .int (0 : Int32), .int (0 : Int32), .int (0 : Int32), .int (0 : Int32)] := A98
  have A98_b3 := (A97_b3.other W98 ne_b3_b86)
  have A98_b58 := (A97_b58.other W98 ne_b58_b86)
  obtain ⟨T99, h99, L99, X99, e99, W99, A99, K99, N99, st99⟩ := own_stI X98 hx hZ e98 A98 K98 sz_b86 N98 g_b86 (i := 12) (by decide) (by decide) (by simp) (g := (mkF m 395 #[.val (.int p1), .val (.int p2), .val (.int p3), .val (.int kx), .val (.ref b3), .val (.ref b58), .unset, .unset, .unset, .unset, .unset] [(.int (2 : Int32)), (.int (12 : Int32)), (.ref b86), (.ref b86)])) rfl rfl (hb hby at_395)
  replace A99 : AL Z h99 b86 k86 .int [.int (0 : Int32), .int (0 : Int32), .int (1 : Int32), .int (1 : Int32), .int (1 : Int32), .int (1 : Int32), .int (1 : Int32), .int (1 : Int32), .int (0 : Int32), .int (2 : Int32), .int (2 : Int32), .int (2 : Int32), .int (2 : Int32), .int (0 : Int32), .int (0 : Int32), .int (0 : Int32), .int (0 : Int32), .int (0 : Int32), .int (0 : Int32), .int (0 : Int32), .int (0 : Int32), .int (0 : Int32), .int (0 : Int32), .int (0 : Int32), .int (0 : Int32), .int (0 : Int32), .int (0 : Int32)] := A99
  have A99_b3 := (A98_b3.other W99 ne_b3_b86)
  have A99_b58 := (A98_b58.other W99 ne_b58_b86)
  obtain ⟨T100, h100, L100, X100, e100, W100, A100, K100, N100, st100⟩ := own_stI X99 hx hZ e99 A99 K99 sz_b86 N99 g_b86 (i := 13) (by decide) (by decide) (by simp) (g := (mkF m 400 #[.val (.int p1), .val (.int p2), .val (.int p3), .val (.int kx), .val (.ref b3), .val (.ref b58), .unset, .unset, .unset, .unset, .unset] [(.int (3 : Int32)), (.int (13 : Int32)), (.ref b86), (.ref b86)])) rfl rfl (hb hby at_400)
  replace A100 : AL Z h100 b86 k86 .int [.int (0 : Int32), .int (0 : Int32), .int (1 : Int32), .int (1 : Int32), .int (1 : Int32), .int (1 : Int32), .int (1 : Int32), .int (1 : Int32), .int (0 : Int32), .int (2 : Int32), .int (2 : Int32), .int (2 : Int32), .int (2 : Int32), .int (3 : Int32), .int (0 : Int32), .int (0 : Int32), .int (0 : Int32), .int (0 : Int32), .int (0 : Int32), .int (0 : Int32), .int (0 : Int32), .int (0 : Int32), .int (0 : Int32), .int (0 : Int32), .int (0 : Int32), .int (0 : Int32), .int (0 : Int32)] := A100
  have A100_b3 := (A99_b3.other W100 ne_b3_b86)
  have A100_b58 := (A99_b58.other W100 ne_b58_b86)
  obtain ⟨T101, h101, L101, X101, e101, W101, A101, K101, N101, st101⟩ := own_stI X100 hx hZ e100 A100 K100 sz_b86 N100 g_b86 (i := 14) (by decide) (by decide) (by simp) (g := (mkF m 405 #[.val (.int p1), .val (.int p2), .val (.int p3), .val (.int kx), .val (.ref b3), .val (.ref b58), .unset, .unset, .unset, .unset, .unset] [(.int (1 : Int32)), (.int (14 : Int32)), (.ref b86), (.ref b86)])) rfl rfl (hb hby at_405)
  replace A101 : AL Z h101 b86 k86 .int [.int (0 : Int32), .int (0 : Int32), .int (1 : Int32), .int (1 : Int32), .int (1 : Int32), .int (1 : Int32), .int (1 : Int32), .int (1 : Int32), .int (0 : Int32), .int (2 : Int32), .int (2 : Int32), .int (2 : Int32), .int (2 : Int32), .int (3 : Int32), .int (1 : Int32), .int (0 : Int32), .int (0 : Int32), .int (0 : Int32), .int (0 : Int32), .int (0 : Int32), .int (0 : Int32), .int (0 : Int32), .int (0 : Int32), .int (0 : Int32), .int (0 : Int32), .int (0 : Int32), .int (0 : Int32)] := A101
  have A101_b3 := (A100_b3.other W101 ne_b3_b86)
  have A101_b58 := (A100_b58.other W101 ne_b58_b86)
  obtain ⟨T102, h102, L102, X102, e102, W102, A102, K102, N102, st102⟩ := own_stI X101 hx hZ e101 A101 K101 sz_b86 N101 g_b86 (i := 15) (by decide) (by decide) (by simp) (g := (mkF m 410 #[.val (.int p1), .val (.int p2), .val (.int p3), .val (.int kx), .val (.ref b3), .val (.ref b58), .unset, .unset, .unset, .unset, .unset] [(.int (1 : Int32)), (.int (15 : Int32)), (.ref b86), (.ref b86)])) rfl rfl (hb hby at_410)
  replace A102 : AL Z h102 b86 k86 .int [.int (0 : Int32), .int (0 : Int32), .int (1 : Int32), .int (1 : Int32), .int (1 : Int32), .int (1 : Int32), .int (1 : Int32), .int (1 : Int32), .int (0 : Int32), .int (2 : Int32), .int (2 : Int32), .int (2 : Int32), .int (2 : Int32), .int (3 : Int32), .int (1 : Int32), .int (1 : Int32), .int (0 : Int32), .int (0 : Int32), .int (0 : Int32), .int (0 : Int32), .int (0 : Int32), .int (0 : Int32), .int (0 : Int32), .int (0 : Int32), .int (0 : Int32), .int (0 : Int32), .int (0 : Int32)] := A102
  have A102_b3 := (A101_b3.other W102 ne_b3_b86)
  have A102_b58 := (A101_b58.other W102 ne_b58_b86)
  obtain ⟨T103, h103, L103, X103, e103, W103, A103, K103, N103, st103⟩ := own_stI X102 hx hZ e102 A102 K102 sz_b86 N102 g_b86 (i := 16) (by decide) (by decide) (by simp) (g := (mkF m 415 #[.val (.int p1), .val (.int p2), .val (.int p3), .val (.int kx), .val (.ref b3), .val (.ref b58), .unset, .unset, .unset, .unset, .unset] [(.int (3 : Int32)), (.int (16 : Int32)), (.ref b86), (.ref b86)])) rfl rfl (hb hby at_415)
  replace A103 : AL Z h103 b86 k86 .int [.int (0 : Int32), .int (0 : Int32), .int (1 : Int32), .int (1 : Int32), .int (1 : Int32), .int (1 : Int32), .int (1 : Int32), .int (1 : Int32), .int (0 : Int32), .int (2 : Int32), .int (2 : Int32), .int (2 : Int32), .int (2 : Int32), .int (3 : Int32), .int (1 : Int32), .int (1 : Int32), .int (3 : Int32), .int (0 : Int32), .int (0 : Int32), .int (0 : Int32), .int (0 : Int32), .int (0 : Int32), .int (0 : Int32), .int (0 : Int32), .int (0 : Int32), .int (0 : Int32), .int (0 : Int32)] := A103
  have A103_b3 := (A102_b3.other W103 ne_b3_b86)
  have A103_b58 := (A102_b58.other W103 ne_b58_b86)
  obtain ⟨T104, h104, L104, X104, e104, W104, A104, K104, N104, st104⟩ := own_stI X103 hx hZ e103 A103 K103 sz_b86 N103 g_b86 (i := 17) (by decide) (by decide) (by simp) (g := (mkF m 420 #[.val (.int p1), .val (.int p2), .val (.int p3), .val (.int kx), .val (.ref b3), .val (.ref b58), .unset, .unset, .unset, .unset, .unset] [(.int (1 : Int32)), (.int (17 : Int32)), (.ref b86), (.ref b86)])) rfl rfl (hb hby at_420)
  replace A104 : AL Z h104 b86 k86 .int [.int (0 : Int32), .int (0 : Int32), .int (1 : Int32), .int (1 : Int32), .int (1 : Int32), .int (1 : Int32), .int (1 : Int32), .int (1 : Int32), .int (0 : Int32), .int (2 : Int32), .int (2 : Int32), .int (2 : Int32), .int (2 : Int32), .int (3 : Int32), .int (1 : Int32), .int (1 : Int32), .int (3 : Int32), .int (1 : Int32), .int (0 : Int32), .int (0 : Int32), .int (0 : Int32), .int (0 : Int32), .int (0 : Int32), .int (0 : Int32), .int (0 : Int32), .int (0 : Int32), .int (0 : Int32)] := A104
  have A104_b3 := (A103_b3.other W104 ne_b3_b86)
  have A104_b58 := (A103_b58.other W104 ne_b58_b86)
  obtain ⟨T105, h105, L105, X105, e105, W105, A105, K105, N105, st105⟩ := own_stI X104 hx hZ e104 A104 K104 sz_b86 N104 g_b86 (i := 18) (by decide) (by decide) (by simp) (g := (mkF m 425 #[.val (.int p1), .val (.int p2), .val (.int p3), .val (.int kx), .val (.ref b3), .val (.ref b58), .unset, .unset, .unset, .unset, .unset] [(.int (1 : Int32)), (.int (18 : Int32)), (.ref b86), (.ref b86)])) rfl rfl (hb hby at_425)
  replace A105 : AL Z h105 b86 k86 .int [.int (0 : Int32), .int (0 : Int32), .int (1 : Int32), .int (1 : Int32), .int (1 : Int32), .int (1 : Int32), .int (1 : Int32), .int (1 : Int32), .int (0 : Int32), .int (2 : Int32), .int (2 : Int32), .int (2 : Int32), .int (2 : Int32), .int (3 : Int32), .int (1 : Int32), .int (1 : Int32), .int (3 : Int32), .int (1 : Int32), .int (1 : Int32), .int (0 : Int32), .int (0 : Int32), .int (0 : Int32), .int (0 : Int32), .int (0 : Int32), .int (0 : Int32), .int (0 : Int32), .int (0 : Int32)] := A105
  have A105_b3 := (A104_b3.other W105 ne_b3_b86)
  have A105_b58 := (A104_b58.other W105 ne_b58_b86)
  obtain ⟨T106, h106, L106, X106, e106, W106, A106, K106, N106, st106⟩ := own_stI X105 hx hZ e105 A105 K105 sz_b86 N105 g_b86 (i := 19) (by decide) (by decide) (by simp) (g := (mkF m 430 #[.val (.int p1), .val (.int p2), .val (.int p3), .val (.int kx), .val (.ref b3), .val (.ref b58), .unset, .unset, .unset, .unset, .unset] [(.int (0 : Int32)), (.int (19 : Int32)), (.ref b86), (.ref b86)])) rfl rfl (hb hby at_430)
  replace A106 : AL Z h106 b86 k86 .int [.int (0 : Int32), .int (0 : Int32), .int (1 : Int32), .int (1 : Int32), .int (1 : Int32), .int (1 : Int32), .int (1 : Int32), .int (1 : Int32), .int (0 : Int32), .int (2 : Int32), .int (2 : Int32), .int (2 : Int32), .int (2 : Int32), .int (3 : Int32), .int (1 : Int32), .int (1 : Int32), .int (3 : Int32), .int (1 : Int32), .int (1 : Int32), .int (0 : Int32), .int (0 : Int32), .int (0 : Int32), .int (0 : Int32), .int (0 : Int32), .int (0 : Int32), .int (0 : Int32), .int (0 : Int32)] := A106
  have A106_b3 := (A105_b3.other W106 ne_b3_b86)
  have A106_b58 := (A105_b58.other W106 ne_b58_b86)
  obtain ⟨T107, h107, L107, X107, e107, W107, A107, K107, N107, st107⟩ := own_stI X106 hx hZ e106 A106 K106 sz_b86 N106 g_b86 (i := 20) (by decide) (by decide) (by simp) (g := (mkF m 435 #[.val (.int p1), .val (.int p2), .val (.int p3), .val (.int kx), .val (.ref b3), .val (.ref b58), .unset, .unset, .unset, .unset, .unset] [(.int (0 : Int32)), (.int (20 : Int32)), (.ref b86), (.ref b86)])) rfl rfl (hb hby at_435)
  replace A107 : AL Z h107 b86 k86 .int [.int (0 : Int32), .int (0 : Int32), .int (1 : Int32), .int (1 : Int32), .int (1 : Int32), .int (1 : Int32), .int (1 : Int32), .int (1 : Int32), .int (0 : Int32), .int (2 : Int32), .int (2 : Int32), .int (2 : Int32), .int (2 : Int32), .int (3 : Int32), .int (1 : Int32), .int (1 : Int32), .int (3 : Int32), .int (1 : Int32), .int (1 : Int32), .int (0 : Int32), .int (0 : Int32), .int (0 : Int32), .int (0 : Int32), .int (0 : Int32), .int (0 : Int32), .int (0 : Int32), .int (0 : Int32)] := A107
  have A107_b3 := (A106_b3.other W107 ne_b3_b86)
  have A107_b58 := (A106_b58.other W107 ne_b58_b86)
  obtain ⟨T108, h108, L108, X108, e108, W108, A108, K108, N108, st108⟩ := own_stI X107 hx hZ e107 A107 K107 sz_b86 N107 g_b86 (i := 21) (by decide) (by decide) (by simp) (g := (mkF m 440 #[.val (.int p1), .val (.int p2), .val (.int p3), .val (.int kx), .val (.ref b3), .val (.ref b58), .unset, .unset, .unset, .unset, .unset] [(.int (1 : Int32)), (.int (21 : Int32)), (.ref b86), (.ref b86)])) rfl rfl (hb hby at_440)
  replace A108 : AL Z h108 b86 k86 .int [.int (0 : Int32), .int (0 : Int32), .int (1 : Int32), .int (1 : Int32), .int (1 : Int32), .int (1 : Int32), .int (1 : Int32), .int (1 : Int32), .int (0 : Int32), .int (2 : Int32), .int (2 : Int32), .int (2 : Int32), .int (2 : Int32), .int (3 : Int32), .int (1 : Int32), .int (1 : Int32), .int (3 : Int32), .int (1 : Int32), .int (1 : Int32), .int (0 : Int32), .int (0 : Int32), .int (1 : Int32), .int (0 : Int32), .int (0 : Int32), .int (0 : Int32), .int (0 : Int32), .int (0 : Int32)] := A108
  have A108_b3 := (A107_b3.other W108 ne_b3_b86)
  have A108_b58 := (A107_b58.other W108 ne_b58_b86)
  obtain ⟨T109, h109, L109, X109, e109, W109, A109, K109, N109, st109⟩ := own_stI X108 hx hZ e108 A108 K108 sz_b86 N108 g_b86 (i := 22) (by decide) (by decide) (by simp) (g := (mkF m 445 #[.val (.int p1), .val (.int p2), .val (.int p3), .val (.int kx), .val (.ref b3), .val (.ref b58), .unset, .unset, .unset, .unset, .unset] [(.int (1 : Int32)), (.int (22 : Int32)), (.ref b86), (.ref b86)])) rfl rfl (hb hby at_445)
  replace A109 : AL Z h109 b86 k86 .int [.int (0 : Int32), .int (0 : Int32), .int (1 : Int32), .int (1 : Int32), .int (1 : Int32), .int (1 : Int32), .int (1 : Int32), .int (1 : Int32), .int (0 : Int32), .int (2 : Int32), .int (2 : Int32), .int (2 : Int32), .int (2 : Int32), .int (3 : Int32), .int (1 : Int32), .int (1 : Int32), .int (3 : Int32), .int (1 : Int32), .int (1 : Int32), .int (0 : Int32), .int (0 : Int32), .int (1 : Int32), .int (1 : Int32), .int (0 : Int32), .int (0 : Int32), .int (0 : Int32), .int (0 : Int32)] := A109
  have A109_b3 := (A108_b3.other W109 ne_b3_b86)
  have A109_b58 := (A108_b58.other W109 ne_b58_b86)
  obtain ⟨T110, h110, L110, X110, e110, W110, A110, K110, N110, st110⟩ := own_stI X109 hx hZ e109 A109 K109 sz_b86 N109 g_b86 (i := 23) (by decide) (by decide) (by simp) (g := (mkF m 450 #[.val (.int p1), .val (.int p2), .val (.int p3), .val (.int kx), .val (.ref b3), .val (.ref b58), .unset, .unset, .unset, .unset, .unset] [(.int (1 : Int32)), (.int (23 : Int32)), (.ref b86), (.ref b86)])) rfl rfl (hb hby at_450)
  replace A110 : AL Z h110 b86 k86 .int [.int (0 : Int32), .int (0 : Int32), .int (1 : Int32), .int (1 : Int32), .int (1 : Int32), .int (1 : Int32), .int (1 : Int32), .int (1 : Int32), .int (0 : Int32), .int (2 : Int32), .int (2 : Int32), .int (2 : Int32), .int (2 : Int32), .int (3 : Int32), .int (1 : Int32), .int (1 : Int32), .int (3 : Int32), .int (1 : Int32), .int (1 : Int32), .int (0 : Int32), .int (0 : Int32), .int (1 : Int32), .int (1 : Int32), .int (1 : Int32), .int (0 : Int32), .int (0 : Int32), .int (0 : Int32)] := A110
  have A110_b3 := (A109_b3.other W110 ne_b3_b86)
  have A110_b58 := (A109_b58.other W110 ne_b58_b86)
  obtain ⟨T111, h111, L111, X111, e111, W111, A111, K111, N111, st111⟩ := own_stI X110 hx hZ e110 A110 K110 sz_b86 N110 g_b86 (i := 24) (by decide) (by decide) (by simp) (g := (mkF m 455 #[.val (.int p1), .val (.int p2), .val (.int p3), .val (.int kx), .val (.ref b3), .val (.ref b58), .unset, .unset, .unset, .unset, .unset] [(.int (1 : Int32)), (.int (24 : Int32)), (.ref b86), (.ref b86)])) rfl rfl (hb hby at_455)
  replace A111 : AL Z h111 b86 k86 .int [.int (0 : Int32), .int (0 : Int32), .int (1 : Int32), .int (1 : Int32), .int (1 : Int32), .int (1 : Int32), .int (1 : Int32), .int (1 : Int32), .int (0 : Int32), .int (2 : Int32), .int (2 : Int32), .int (2 : Int32), .int (2 : Int32), .int (3 : Int32), .int (1 : Int32), .int (1 : Int32), .int (3 : Int32), .int (1 : Int32), .int (1 : Int32), .int (0 : Int32), .int (0 : Int32), .int (1 : Int32), .int (1 : Int32), .int (1 : Int32), .int (1 : Int32), .int (0 : Int32), .int (0 : Int32)] := A111
  have A111_b3 := (A110_b3.other W111 ne_b3_b86)
  have A111_b58 := (A110_b58.other W111 ne_b58_b86)
  obtain ⟨T112, h112, L112, X112, e112, W112, A112, K112, N112, st112⟩ := own_stI X111 hx hZ e111 A111 K111 sz_b86 N111 g_b86 (i := 25) (by decide) (by decide) (by simp) (g := (mkF m 460 #[.val (.int p1), .val (.int p2), .val (.int p3), .val (.int kx), .val (.ref b3), .val (.ref b58), .unset, .unset, .unset, .unset, .unset] [(.int (1 : Int32)), (.int (25 : Int32)), (.ref b86), (.ref b86)])) rfl rfl (hb hby at_460)
  replace A112 : AL Z h112 b86 k86 .int [.int (0 : Int32), .int (0 : Int32), .int (1 : Int32), .int (1 : Int32), .int (1 : Int32), .int (1 : Int32), .int (1 : Int32), .int (1 : Int32), .int (0 : Int32), .int (2 : Int32), .int (2 : Int32), .int (2 : Int32), .int (2 : Int32), .int (3 : Int32), .int (1 : Int32), .int (1 : Int32), .int (3 : Int32), .int (1 : Int32), .int (1 : Int32), .int (0 : Int32), .int (0 : Int32), .int (1 : Int32), .int (1 : Int32), .int (1 : Int32), .int (1 : Int32), .int (1 : Int32), .int (0 : Int32)] := A112
  have A112_b3 := (A111_b3.other W112 ne_b3_b86)
  have A112_b58 := (A111_b58.other W112 ne_b58_b86)
  obtain ⟨T113, h113, L113, X113, e113, W113, A113, K113, N113, st113⟩ := own_stI X112 hx hZ e112 A112 K112 sz_b86 N112 g_b86 (i := 26) (by decide) (by decide) (by simp) (g := (mkF m 465 #[.val (.int p1), .val (.int p2), .val (.int p3), .val (.int kx), .val (.ref b3), .val (.ref b58), .unset, .unset, .unset, .unset, .unset] [(.int (1 : Int32)), (.int (26 : Int32)), (.ref b86), (.ref b86)])) rfl rfl (hb hby at_465)
  replace A113 : AL Z h113 b86 k86 .int [.int (0 : Int32), .int (0 : Int32), .int (1 : Int32), .int (1 : Int32), .int (1 : Int32), .int (1 : Int32), .int (1 : Int32), .int (1 : Int32), .int (0 : Int32), .int (2 : Int32), .int (2 : Int32), .int (2 : Int32), .int (2 : Int32), .int (3 : Int32), .int (1 : Int32), .int (1 : Int32), .int (3 : Int32), .int (1 : Int32), .int (1 : Int32), .int (0 : Int32), .int (0 : Int32), .int (1 : Int32), .int (1 : Int32), .int (1 : Int32), .int (1 : Int32), .int (1 : Int32), .int (1 : Int32)] := A113
  have A113_b3 := (A112_b3.other W113 ne_b3_b86)
  have A113_b58 := (A112_b58.other W113 ne_b58_b86)
  refine Run.step (T1 := T113) (g1 := (mkF m 476 #[.val (.int p1), .val (.int p2), .val (.int p3), .val (.int kx), .val (.ref b3), .val (.ref b58), .val (.ref b86), .val (.int ((p3 &&& (7 : Int32)) - (2 : Int32))), .unset, .unset, .unset] [])) (fun target kt => ?_) ?_
  · show Steps p.tables e below (s₁.setTop (mkF m 7 #[.val (.int p1), .val (.int p2), .val (.int p3), .unset, .unset, .unset, .unset, .unset, .unset, .unset, .unset] [(.int kx)])) _
    refine XS.istoreN X0.here hx rfl (hb hby at_7) rfl (l' := #[.val (.int p1), .val (.int p2), .val (.int p3), .val (.int kx), .unset, .unset, .unset, .unset, .unset, .unset, .unset]) rfl ?_
    show Steps p.tables e below (s₁.setTop (mkF m 8 #[.val (.int p1), .val (.int p2), .val (.int p3), .val (.int kx), .unset, .unset, .unset, .unset, .unset, .unset, .unset] [])) _
    refine XS.bipush X0.here hx rfl (hb hby at_8) ?_
    show Steps p.tables e below (s₁.setTop (mkF m 10 #[.val (.int p1), .val (.int p2), .val (.int p3), .val (.int kx), .unset, .unset, .unset, .unset, .unset, .unset, .unset] [(.int (27 : Int32))])) _
    refine st3 _ ?_
    show Steps p.tables e below (T3.setTop (mkF m 13 #[.val (.int p1), .val (.int p2), .val (.int p3), .val (.int kx), .unset, .unset, .unset, .unset, .unset, .unset, .unset] [(.ref b3)])) _
    refine XS.dup X3.here hx rfl (hb hby at_13) rfl rfl ?_
    show Steps p.tables e below (T3.setTop (mkF m 14 #[.val (.int p1), .val (.int p2), .val (.int p3), .val (.int kx), .unset, .unset, .unset, .unset, .unset, .unset, .unset] [(.ref b3), (.ref b3)])) _
    refine XS.iconst X3.here hx rfl (hb hby at_14) ?_
    show Steps p.tables e below (T3.setTop (mkF m 15 #[.val (.int p1), .val (.int p2), .val (.int p3), .val (.int kx), .unset, .unset, .unset, .unset, .unset, .unset, .unset] [(.int (0 : Int32)), (.ref b3), (.ref b3)])) _
    refine st4 _ ?_
    show Steps p.tables e below (T4.setTop (mkF m 18 #[.val (.int p1), .val (.int p2), .val (.int p3), .val (.int kx), .unset, .unset, .unset, .unset, .unset, .unset, .unset] [(.ref f0), (.int (0 : Int32)), (.ref b3), (.ref b3)])) _
    refine st5 _ ?_
    show Steps p.tables e below (T5.setTop (mkF m 19 #[.val (.int p1), .val (.int p2), .val (.int p3), .val (.int kx), .unset, .unset, .unset, .unset, .unset, .unset, .unset] [(.ref b3)])) _
    refine XS.dup X5.here hx rfl (hb hby at_19) rfl rfl ?_
    show Steps p.tables e below (T5.setTop (mkF m 20 #[.val (.int p1), .val (.int p2), .val (.int p3), .val (.int kx), .unset, .unset, .unset, .unset, .unset, .unset, .unset] [(.ref b3), (.ref b3)])) _
    refine XS.iconst X5.here hx rfl (hb hby at_20) ?_
    show Steps p.tables e below (T5.setTop (mkF m 21 #[.val (.int p1), .val (.int p2), .val (.int p3), .val (.int kx), .unset, .unset, .unset, .unset, .unset, .unset, .unset] [(.int (1 : Int32)), (.ref b3), (.ref b3)])) _
    refine st6 _ ?_
    show Steps p.tables e below (T6.setTop (mkF m 24 #[.val (.int p1), .val (.int p2), .val (.int p3), .val (.int kx), .unset, .unset, .unset, .unset, .unset, .unset, .unset] [(.ref f1), (.int (1 : Int32)), (.ref b3), (.ref b3)])) _
    refine st7 _ ?_
    show Steps p.tables e below (T7.setTop (mkF m 25 #[.val (.int p1), .val (.int p2), .val (.int p3), .val (.int kx), .unset, .unset, .unset, .unset, .unset, .unset, .unset] [(.ref b3)])) _
    refine XS.dup X7.here hx rfl (hb hby at_25) rfl rfl ?_
    show Steps p.tables e below (T7.setTop (mkF m 26 #[.val (.int p1), .val (.int p2), .val (.int p3), .val (.int kx), .unset, .unset, .unset, .unset, .unset, .unset, .unset] [(.ref b3), (.ref b3)])) _
    refine XS.iconst X7.here hx rfl (hb hby at_26) ?_
    show Steps p.tables e below (T7.setTop (mkF m 27 #[.val (.int p1), .val (.int p2), .val (.int p3), .val (.int kx), .unset, .unset, .unset, .unset, .unset, .unset, .unset] [(.int (2 : Int32)), (.ref b3), (.ref b3)])) _
    refine st8 _ ?_
    show Steps p.tables e below (T8.setTop (mkF m 30 #[.val (.int p1), .val (.int p2), .val (.int p3), .val (.int kx), .unset, .unset, .unset, .unset, .unset, .unset, .unset] [(.ref f2), (.int (2 : Int32)), (.ref b3), (.ref b3)])) _
    refine st9 _ ?_
    show Steps p.tables e below (T9.setTop (mkF m 31 #[.val (.int p1), .val (.int p2), .val (.int p3), .val (.int kx), .unset, .unset, .unset, .unset, .unset, .unset, .unset] [(.ref b3)])) _
    refine XS.dup X9.here hx rfl (hb hby at_31) rfl rfl ?_
    show Steps p.tables e below (T9.setTop (mkF m 32 #[.val (.int p1), .val (.int p2), .val (.int p3), .val (.int kx), .unset, .unset, .unset, .unset, .unset, .unset, .unset] [(.ref b3), (.ref b3)])) _
    refine XS.iconst X9.here hx rfl (hb hby at_32) ?_
    show Steps p.tables e below (T9.setTop (mkF m 33 #[.val (.int p1), .val (.int p2), .val (.int p3), .val (.int kx), .unset, .unset, .unset, .unset, .unset, .unset, .unset] [(.int (3 : Int32)), (.ref b3), (.ref b3)])) _
    refine st10 _ ?_
    show Steps p.tables e below (T10.setTop (mkF m 36 #[.val (.int p1), .val (.int p2), .val (.int p3), .val (.int kx), .unset, .unset, .unset, .unset, .unset, .unset, .unset] [(.ref f3), (.int (3 : Int32)), (.ref b3), (.ref b3)])) _
    refine st11 _ ?_
    show Steps p.tables e below (T11.setTop (mkF m 37 #[.val (.int p1), .val (.int p2), .val (.int p3), .val (.int kx), .unset, .unset, .unset, .unset, .unset, .unset, .unset] [(.ref b3)])) _
    refine XS.dup X11.here hx rfl (hb hby at_37) rfl rfl ?_
    show Steps p.tables e below (T11.setTop (mkF m 38 #[.val (.int p1), .val (.int p2), .val (.int p3), .val (.int kx), .unset, .unset, .unset, .unset, .unset, .unset, .unset] [(.ref b3), (.ref b3)])) _
    refine XS.iconst X11.here hx rfl (hb hby at_38) ?_
    show Steps p.tables e below (T11.setTop (mkF m 39 #[.val (.int p1), .val (.int p2), .val (.int p3), .val (.int kx), .unset, .unset, .unset, .unset, .unset, .unset, .unset] [(.int (4 : Int32)), (.ref b3), (.ref b3)])) _
    refine st12 _ ?_
    show Steps p.tables e below (T12.setTop (mkF m 42 #[.val (.int p1), .val (.int p2), .val (.int p3), .val (.int kx), .unset, .unset, .unset, .unset, .unset, .unset, .unset] [(.ref f4), (.int (4 : Int32)), (.ref b3), (.ref b3)])) _
    refine st13 _ ?_
    show Steps p.tables e below (T13.setTop (mkF m 43 #[.val (.int p1), .val (.int p2), .val (.int p3), .val (.int kx), .unset, .unset, .unset, .unset, .unset, .unset, .unset] [(.ref b3)])) _
    refine XS.dup X13.here hx rfl (hb hby at_43) rfl rfl ?_
    show Steps p.tables e below (T13.setTop (mkF m 44 #[.val (.int p1), .val (.int p2), .val (.int p3), .val (.int kx), .unset, .unset, .unset, .unset, .unset, .unset, .unset] [(.ref b3), (.ref b3)])) _
    refine XS.iconst X13.here hx rfl (hb hby at_44) ?_
    show Steps p.tables e below (T13.setTop (mkF m 45 #[.val (.int p1), .val (.int p2), .val (.int p3), .val (.int kx), .unset, .unset, .unset, .unset, .unset, .unset, .unset] [(.int (5 : Int32)), (.ref b3), (.ref b3)])) _
    refine st14 _ ?_
    show Steps p.tables e below (T14.setTop (mkF m 48 #[.val (.int p1), .val (.int p2), .val (.int p3), .val (.int kx), .unset, .unset, .unset, .unset, .unset, .unset, .unset] [(.ref f5), (.int (5 : Int32)), (.ref b3), (.ref b3)])) _
    refine st15 _ ?_
    show Steps p.tables e below (T15.setTop (mkF m 49 #[.val (.int p1), .val (.int p2), .val (.int p3), .val (.int kx), .unset, .unset, .unset, .unset, .unset, .unset, .unset] [(.ref b3)])) _
    refine XS.dup X15.here hx rfl (hb hby at_49) rfl rfl ?_
    show Steps p.tables e below (T15.setTop (mkF m 50 #[.val (.int p1), .val (.int p2), .val (.int p3), .val (.int kx), .unset, .unset, .unset, .unset, .unset, .unset, .unset] [(.ref b3), (.ref b3)])) _
    refine XS.bipush X15.here hx rfl (hb hby at_50) ?_
    show Steps p.tables e below (T15.setTop (mkF m 52 #[.val (.int p1), .val (.int p2), .val (.int p3), .val (.int kx), .unset, .unset, .unset, .unset, .unset, .unset, .unset] [(.int (6 : Int32)), (.ref b3), (.ref b3)])) _
    refine st16 _ ?_
    show Steps p.tables e below (T16.setTop (mkF m 55 #[.val (.int p1), .val (.int p2), .val (.int p3), .val (.int kx), .unset, .unset, .unset, .unset, .unset, .unset, .unset] [(.ref f6), (.int (6 : Int32)), (.ref b3), (.ref b3)])) _
    refine st17 _ ?_
    show Steps p.tables e below (T17.setTop (mkF m 56 #[.val (.int p1), .val (.int p2), .val (.int p3), .val (.int kx), .unset, .unset, .unset, .unset, .unset, .unset, .unset] [(.ref b3)])) _
    refine XS.dup X17.here hx rfl (hb hby at_56) rfl rfl ?_
    show Steps p.tables e below (T17.setTop (mkF m 57 #[.val (.int p1), .val (.int p2), .val (.int p3), .val (.int kx), .unset, .unset, .unset, .unset, .unset, .unset, .unset] [(.ref b3), (.ref b3)])) _
    refine XS.bipush X17.here hx rfl (hb hby at_57) ?_
    show Steps p.tables e below (T17.setTop (mkF m 59 #[.val (.int p1), .val (.int p2), .val (.int p3), .val (.int kx), .unset, .unset, .unset, .unset, .unset, .unset, .unset] [(.int (7 : Int32)), (.ref b3), (.ref b3)])) _
    refine st18 _ ?_
    show Steps p.tables e below (T18.setTop (mkF m 62 #[.val (.int p1), .val (.int p2), .val (.int p3), .val (.int kx), .unset, .unset, .unset, .unset, .unset, .unset, .unset] [(.ref f7), (.int (7 : Int32)), (.ref b3), (.ref b3)])) _
    refine st19 _ ?_
    show Steps p.tables e below (T19.setTop (mkF m 63 #[.val (.int p1), .val (.int p2), .val (.int p3), .val (.int kx), .unset, .unset, .unset, .unset, .unset, .unset, .unset] [(.ref b3)])) _
    refine XS.dup X19.here hx rfl (hb hby at_63) rfl rfl ?_
    show Steps p.tables e below (T19.setTop (mkF m 64 #[.val (.int p1), .val (.int p2), .val (.int p3), .val (.int kx), .unset, .unset, .unset, .unset, .unset, .unset, .unset] [(.ref b3), (.ref b3)])) _
    refine XS.bipush X19.here hx rfl (hb hby at_64) ?_
    show Steps p.tables e below (T19.setTop (mkF m 66 #[.val (.int p1), .val (.int p2), .val (.int p3), .val (.int kx), .unset, .unset, .unset, .unset, .unset, .unset, .unset] [(.int (8 : Int32)), (.ref b3), (.ref b3)])) _
    refine st20 _ ?_
    show Steps p.tables e below (T20.setTop (mkF m 69 #[.val (.int p1), .val (.int p2), .val (.int p3), .val (.int kx), .unset, .unset, .unset, .unset, .unset, .unset, .unset] [(.ref f8), (.int (8 : Int32)), (.ref b3), (.ref b3)])) _
    refine st21 _ ?_
    show Steps p.tables e below (T21.setTop (mkF m 70 #[.val (.int p1), .val (.int p2), .val (.int p3), .val (.int kx), .unset, .unset, .unset, .unset, .unset, .unset, .unset] [(.ref b3)])) _
    refine XS.dup X21.here hx rfl (hb hby at_70) rfl rfl ?_
    show Steps p.tables e below (T21.setTop (mkF m 71 #[.val (.int p1), .val (.int p2), .val (.int p3), .val (.int kx), .unset, .unset, .unset, .unset, .unset, .unset, .unset] [(.ref b3), (.ref b3)])) _
    refine XS.bipush X21.here hx rfl (hb hby at_71) ?_
    show Steps p.tables e below (T21.setTop (mkF m 73 #[.val (.int p1), .val (.int p2), .val (.int p3), .val (.int kx), .unset, .unset, .unset, .unset, .unset, .unset, .unset] [(.int (9 : Int32)), (.ref b3), (.ref b3)])) _
    refine st22 _ ?_
    show Steps p.tables e below (T22.setTop (mkF m 76 #[.val (.int p1), .val (.int p2), .val (.int p3), .val (.int kx), .unset, .unset, .unset, .unset, .unset, .unset, .unset] [(.ref f9), (.int (9 : Int32)), (.ref b3), (.ref b3)])) _
    refine st23 _ ?_
    show Steps p.tables e below (T23.setTop (mkF m 77 #[.val (.int p1), .val (.int p2), .val (.int p3), .val (.int kx), .unset, .unset, .unset, .unset, .unset, .unset, .unset] [(.ref b3)])) _
    refine XS.dup X23.here hx rfl (hb hby at_77) rfl rfl ?_
    show Steps p.tables e below (T23.setTop (mkF m 78 #[.val (.int p1), .val (.int p2), .val (.int p3), .val (.int kx), .unset, .unset, .unset, .unset, .unset, .unset, .unset] [(.ref b3), (.ref b3)])) _
    refine XS.bipush X23.here hx rfl (hb hby at_78) ?_
    show Steps p.tables e below (T23.setTop (mkF m 80 #[.val (.int p1), .val (.int p2), .val (.int p3), .val (.int kx), .unset, .unset, .unset, .unset, .unset, .unset, .unset] [(.int (10 : Int32)), (.ref b3), (.ref b3)])) _
    refine st24 _ ?_
    show Steps p.tables e below (T24.setTop (mkF m 83 #[.val (.int p1), .val (.int p2), .val (.int p3), .val (.int kx), .unset, .unset, .unset, .unset, .unset, .unset, .unset] [(.ref f10), (.int (10 : Int32)), (.ref b3), (.ref b3)])) _
    refine st25 _ ?_
    show Steps p.tables e below (T25.setTop (mkF m 84 #[.val (.int p1), .val (.int p2), .val (.int p3), .val (.int kx), .unset, .unset, .unset, .unset, .unset, .unset, .unset] [(.ref b3)])) _
    refine XS.dup X25.here hx rfl (hb hby at_84) rfl rfl ?_
    show Steps p.tables e below (T25.setTop (mkF m 85 #[.val (.int p1), .val (.int p2), .val (.int p3), .val (.int kx), .unset, .unset, .unset, .unset, .unset, .unset, .unset] [(.ref b3), (.ref b3)])) _
    refine XS.bipush X25.here hx rfl (hb hby at_85) ?_
    show Steps p.tables e below (T25.setTop (mkF m 87 #[.val (.int p1), .val (.int p2), .val (.int p3), .val (.int kx), .unset, .unset, .unset, .unset, .unset, .unset, .unset] [(.int (11 : Int32)), (.ref b3), (.ref b3)])) _
    refine st26 _ ?_
    show Steps p.tables e below (T26.setTop (mkF m 90 #[.val (.int p1), .val (.int p2), .val (.int p3), .val (.int kx), .unset, .unset, .unset, .unset, .unset, .unset, .unset] [(.ref f11), (.int (11 : Int32)), (.ref b3), (.ref b3)])) _
    refine st27 _ ?_
    show Steps p.tables e below (T27.setTop (mkF m 91 #[.val (.int p1), .val (.int p2), .val (.int p3), .val (.int kx), .unset, .unset, .unset, .unset, .unset, .unset, .unset] [(.ref b3)])) _
    refine XS.dup X27.here hx rfl (hb hby at_91) rfl rfl ?_
    show Steps p.tables e below (T27.setTop (mkF m 92 #[.val (.int p1), .val (.int p2), .val (.int p3), .val (.int kx), .unset, .unset, .unset, .unset, .unset, .unset, .unset] [(.ref b3), (.ref b3)])) _
    refine XS.bipush X27.here hx rfl (hb hby at_92) ?_
    show Steps p.tables e below (T27.setTop (mkF m 94 #[.val (.int p1), .val (.int p2), .val (.int p3), .val (.int kx), .unset, .unset, .unset, .unset, .unset, .unset, .unset] [(.int (12 : Int32)), (.ref b3), (.ref b3)])) _
    refine st28 _ ?_
    show Steps p.tables e below (T28.setTop (mkF m 97 #[.val (.int p1), .val (.int p2), .val (.int p3), .val (.int kx), .unset, .unset, .unset, .unset, .unset, .unset, .unset] [(.ref f12), (.int (12 : Int32)), (.ref b3), (.ref b3)])) _
    refine st29 _ ?_
    show Steps p.tables e below (T29.setTop (mkF m 98 #[.val (.int p1), .val (.int p2), .val (.int p3), .val (.int kx), .unset, .unset, .unset, .unset, .unset, .unset, .unset] [(.ref b3)])) _
    refine XS.dup X29.here hx rfl (hb hby at_98) rfl rfl ?_
    show Steps p.tables e below (T29.setTop (mkF m 99 #[.val (.int p1), .val (.int p2), .val (.int p3), .val (.int kx), .unset, .unset, .unset, .unset, .unset, .unset, .unset] [(.ref b3), (.ref b3)])) _
    refine XS.bipush X29.here hx rfl (hb hby at_99) ?_
    show Steps p.tables e below (T29.setTop (mkF m 101 #[.val (.int p1), .val (.int p2), .val (.int p3), .val (.int kx), .unset, .unset, .unset, .unset, .unset, .unset, .unset] [(.int (13 : Int32)), (.ref b3), (.ref b3)])) _
    refine st30 _ ?_
    show Steps p.tables e below (T30.setTop (mkF m 104 #[.val (.int p1), .val (.int p2), .val (.int p3), .val (.int kx), .unset, .unset, .unset, .unset, .unset, .unset, .unset] [(.ref f13), (.int (13 : Int32)), (.ref b3), (.ref b3)])) _
    refine st31 _ ?_
    show Steps p.tables e below (T31.setTop (mkF m 105 #[.val (.int p1), .val (.int p2), .val (.int p3), .val (.int kx), .unset, .unset, .unset, .unset, .unset, .unset, .unset] [(.ref b3)])) _
    refine XS.dup X31.here hx rfl (hb hby at_105) rfl rfl ?_
    show Steps p.tables e below (T31.setTop (mkF m 106 #[.val (.int p1), .val (.int p2), .val (.int p3), .val (.int kx), .unset, .unset, .unset, .unset, .unset, .unset, .unset] [(.ref b3), (.ref b3)])) _
    refine XS.bipush X31.here hx rfl (hb hby at_106) ?_
    show Steps p.tables e below (T31.setTop (mkF m 108 #[.val (.int p1), .val (.int p2), .val (.int p3), .val (.int kx), .unset, .unset, .unset, .unset, .unset, .unset, .unset] [(.int (14 : Int32)), (.ref b3), (.ref b3)])) _
    refine st32 _ ?_
    show Steps p.tables e below (T32.setTop (mkF m 111 #[.val (.int p1), .val (.int p2), .val (.int p3), .val (.int kx), .unset, .unset, .unset, .unset, .unset, .unset, .unset] [(.ref f14), (.int (14 : Int32)), (.ref b3), (.ref b3)])) _
    refine st33 _ ?_
    show Steps p.tables e below (T33.setTop (mkF m 112 #[.val (.int p1), .val (.int p2), .val (.int p3), .val (.int kx), .unset, .unset, .unset, .unset, .unset, .unset, .unset] [(.ref b3)])) _
    refine XS.dup X33.here hx rfl (hb hby at_112) rfl rfl ?_
    show Steps p.tables e below (T33.setTop (mkF m 113 #[.val (.int p1), .val (.int p2), .val (.int p3), .val (.int kx), .unset, .unset, .unset, .unset, .unset, .unset, .unset] [(.ref b3), (.ref b3)])) _
    refine XS.bipush X33.here hx rfl (hb hby at_113) ?_
    show Steps p.tables e below (T33.setTop (mkF m 115 #[.val (.int p1), .val (.int p2), .val (.int p3), .val (.int kx), .unset, .unset, .unset, .unset, .unset, .unset, .unset] [(.int (15 : Int32)), (.ref b3), (.ref b3)])) _
    refine st34 _ ?_
    show Steps p.tables e below (T34.setTop (mkF m 118 #[.val (.int p1), .val (.int p2), .val (.int p3), .val (.int kx), .unset, .unset, .unset, .unset, .unset, .unset, .unset] [(.ref f15), (.int (15 : Int32)), (.ref b3), (.ref b3)])) _
    refine st35 _ ?_
    show Steps p.tables e below (T35.setTop (mkF m 119 #[.val (.int p1), .val (.int p2), .val (.int p3), .val (.int kx), .unset, .unset, .unset, .unset, .unset, .unset, .unset] [(.ref b3)])) _
    refine XS.dup X35.here hx rfl (hb hby at_119) rfl rfl ?_
    show Steps p.tables e below (T35.setTop (mkF m 120 #[.val (.int p1), .val (.int p2), .val (.int p3), .val (.int kx), .unset, .unset, .unset, .unset, .unset, .unset, .unset] [(.ref b3), (.ref b3)])) _
    refine XS.bipush X35.here hx rfl (hb hby at_120) ?_
    show Steps p.tables e below (T35.setTop (mkF m 122 #[.val (.int p1), .val (.int p2), .val (.int p3), .val (.int kx), .unset, .unset, .unset, .unset, .unset, .unset, .unset] [(.int (16 : Int32)), (.ref b3), (.ref b3)])) _
    refine st36 _ ?_
    show Steps p.tables e below (T36.setTop (mkF m 125 #[.val (.int p1), .val (.int p2), .val (.int p3), .val (.int kx), .unset, .unset, .unset, .unset, .unset, .unset, .unset] [(.ref f16), (.int (16 : Int32)), (.ref b3), (.ref b3)])) _
    refine st37 _ ?_
    show Steps p.tables e below (T37.setTop (mkF m 126 #[.val (.int p1), .val (.int p2), .val (.int p3), .val (.int kx), .unset, .unset, .unset, .unset, .unset, .unset, .unset] [(.ref b3)])) _
    refine XS.dup X37.here hx rfl (hb hby at_126) rfl rfl ?_
    show Steps p.tables e below (T37.setTop (mkF m 127 #[.val (.int p1), .val (.int p2), .val (.int p3), .val (.int kx), .unset, .unset, .unset, .unset, .unset, .unset, .unset] [(.ref b3), (.ref b3)])) _
    refine XS.bipush X37.here hx rfl (hb hby at_127) ?_
    show Steps p.tables e below (T37.setTop (mkF m 129 #[.val (.int p1), .val (.int p2), .val (.int p3), .val (.int kx), .unset, .unset, .unset, .unset, .unset, .unset, .unset] [(.int (17 : Int32)), (.ref b3), (.ref b3)])) _
    refine st38 _ ?_
    show Steps p.tables e below (T38.setTop (mkF m 132 #[.val (.int p1), .val (.int p2), .val (.int p3), .val (.int kx), .unset, .unset, .unset, .unset, .unset, .unset, .unset] [(.ref f17), (.int (17 : Int32)), (.ref b3), (.ref b3)])) _
    refine st39 _ ?_
    show Steps p.tables e below (T39.setTop (mkF m 133 #[.val (.int p1), .val (.int p2), .val (.int p3), .val (.int kx), .unset, .unset, .unset, .unset, .unset, .unset, .unset] [(.ref b3)])) _
    refine XS.dup X39.here hx rfl (hb hby at_133) rfl rfl ?_
    show Steps p.tables e below (T39.setTop (mkF m 134 #[.val (.int p1), .val (.int p2), .val (.int p3), .val (.int kx), .unset, .unset, .unset, .unset, .unset, .unset, .unset] [(.ref b3), (.ref b3)])) _
    refine XS.bipush X39.here hx rfl (hb hby at_134) ?_
    show Steps p.tables e below (T39.setTop (mkF m 136 #[.val (.int p1), .val (.int p2), .val (.int p3), .val (.int kx), .unset, .unset, .unset, .unset, .unset, .unset, .unset] [(.int (18 : Int32)), (.ref b3), (.ref b3)])) _
    refine st40 _ ?_
    show Steps p.tables e below (T40.setTop (mkF m 139 #[.val (.int p1), .val (.int p2), .val (.int p3), .val (.int kx), .unset, .unset, .unset, .unset, .unset, .unset, .unset] [(.ref f18), (.int (18 : Int32)), (.ref b3), (.ref b3)])) _
    refine st41 _ ?_
    show Steps p.tables e below (T41.setTop (mkF m 140 #[.val (.int p1), .val (.int p2), .val (.int p3), .val (.int kx), .unset, .unset, .unset, .unset, .unset, .unset, .unset] [(.ref b3)])) _
    refine XS.dup X41.here hx rfl (hb hby at_140) rfl rfl ?_
    show Steps p.tables e below (T41.setTop (mkF m 141 #[.val (.int p1), .val (.int p2), .val (.int p3), .val (.int kx), .unset, .unset, .unset, .unset, .unset, .unset, .unset] [(.ref b3), (.ref b3)])) _
    refine XS.bipush X41.here hx rfl (hb hby at_141) ?_
    show Steps p.tables e below (T41.setTop (mkF m 143 #[.val (.int p1), .val (.int p2), .val (.int p3), .val (.int kx), .unset, .unset, .unset, .unset, .unset, .unset, .unset] [(.int (19 : Int32)), (.ref b3), (.ref b3)])) _
    refine st42 _ ?_
    show Steps p.tables e below (T42.setTop (mkF m 146 #[.val (.int p1), .val (.int p2), .val (.int p3), .val (.int kx), .unset, .unset, .unset, .unset, .unset, .unset, .unset] [(.ref f19), (.int (19 : Int32)), (.ref b3), (.ref b3)])) _
    refine st43 _ ?_
    show Steps p.tables e below (T43.setTop (mkF m 147 #[.val (.int p1), .val (.int p2), .val (.int p3), .val (.int kx), .unset, .unset, .unset, .unset, .unset, .unset, .unset] [(.ref b3)])) _
    refine XS.dup X43.here hx rfl (hb hby at_147) rfl rfl ?_
    show Steps p.tables e below (T43.setTop (mkF m 148 #[.val (.int p1), .val (.int p2), .val (.int p3), .val (.int kx), .unset, .unset, .unset, .unset, .unset, .unset, .unset] [(.ref b3), (.ref b3)])) _
    refine XS.bipush X43.here hx rfl (hb hby at_148) ?_
    show Steps p.tables e below (T43.setTop (mkF m 150 #[.val (.int p1), .val (.int p2), .val (.int p3), .val (.int kx), .unset, .unset, .unset, .unset, .unset, .unset, .unset] [(.int (20 : Int32)), (.ref b3), (.ref b3)])) _
    refine st44 _ ?_
    show Steps p.tables e below (T44.setTop (mkF m 153 #[.val (.int p1), .val (.int p2), .val (.int p3), .val (.int kx), .unset, .unset, .unset, .unset, .unset, .unset, .unset] [(.ref f20), (.int (20 : Int32)), (.ref b3), (.ref b3)])) _
    refine st45 _ ?_
    show Steps p.tables e below (T45.setTop (mkF m 154 #[.val (.int p1), .val (.int p2), .val (.int p3), .val (.int kx), .unset, .unset, .unset, .unset, .unset, .unset, .unset] [(.ref b3)])) _
    refine XS.dup X45.here hx rfl (hb hby at_154) rfl rfl ?_
    show Steps p.tables e below (T45.setTop (mkF m 155 #[.val (.int p1), .val (.int p2), .val (.int p3), .val (.int kx), .unset, .unset, .unset, .unset, .unset, .unset, .unset] [(.ref b3), (.ref b3)])) _
    refine XS.bipush X45.here hx rfl (hb hby at_155) ?_
    show Steps p.tables e below (T45.setTop (mkF m 157 #[.val (.int p1), .val (.int p2), .val (.int p3), .val (.int kx), .unset, .unset, .unset, .unset, .unset, .unset, .unset] [(.int (21 : Int32)), (.ref b3), (.ref b3)])) _
    refine st46 _ ?_
    show Steps p.tables e below (T46.setTop (mkF m 160 #[.val (.int p1), .val (.int p2), .val (.int p3), .val (.int kx), .unset, .unset, .unset, .unset, .unset, .unset, .unset] [(.ref f21), (.int (21 : Int32)), (.ref b3), (.ref b3)])) _
    refine st47 _ ?_
    show Steps p.tables e below (T47.setTop (mkF m 161 #[.val (.int p1), .val (.int p2), .val (.int p3), .val (.int kx), .unset, .unset, .unset, .unset, .unset, .unset, .unset] [(.ref b3)])) _
    refine XS.dup X47.here hx rfl (hb hby at_161) rfl rfl ?_
    show Steps p.tables e below (T47.setTop (mkF m 162 #[.val (.int p1), .val (.int p2), .val (.int p3), .val (.int kx), .unset, .unset, .unset, .unset, .unset, .unset, .unset] [(.ref b3), (.ref b3)])) _
    refine XS.bipush X47.here hx rfl (hb hby at_162) ?_
    show Steps p.tables e below (T47.setTop (mkF m 164 #[.val (.int p1), .val (.int p2), .val (.int p3), .val (.int kx), .unset, .unset, .unset, .unset, .unset, .unset, .unset] [(.int (22 : Int32)), (.ref b3), (.ref b3)])) _
    refine st48 _ ?_
    show Steps p.tables e below (T48.setTop (mkF m 167 #[.val (.int p1), .val (.int p2), .val (.int p3), .val (.int kx), .unset, .unset, .unset, .unset, .unset, .unset, .unset] [(.ref f22), (.int (22 : Int32)), (.ref b3), (.ref b3)])) _
    refine st49 _ ?_
    show Steps p.tables e below (T49.setTop (mkF m 168 #[.val (.int p1), .val (.int p2), .val (.int p3), .val (.int kx), .unset, .unset, .unset, .unset, .unset, .unset, .unset] [(.ref b3)])) _
    refine XS.dup X49.here hx rfl (hb hby at_168) rfl rfl ?_
    show Steps p.tables e below (T49.setTop (mkF m 169 #[.val (.int p1), .val (.int p2), .val (.int p3), .val (.int kx), .unset, .unset, .unset, .unset, .unset, .unset, .unset] [(.ref b3), (.ref b3)])) _
    refine XS.bipush X49.here hx rfl (hb hby at_169) ?_
    show Steps p.tables e below (T49.setTop (mkF m 171 #[.val (.int p1), .val (.int p2), .val (.int p3), .val (.int kx), .unset, .unset, .unset, .unset, .unset, .unset, .unset] [(.int (23 : Int32)), (.ref b3), (.ref b3)])) _
    refine st50 _ ?_
    show Steps p.tables e below (T50.setTop (mkF m 174 #[.val (.int p1), .val (.int p2), .val (.int p3), .val (.int kx), .unset, .unset, .unset, .unset, .unset, .unset, .unset] [(.ref f23), (.int (23 : Int32)), (.ref b3), (.ref b3)])) _
    refine st51 _ ?_
    show Steps p.tables e below (T51.setTop (mkF m 175 #[.val (.int p1), .val (.int p2), .val (.int p3), .val (.int kx), .unset, .unset, .unset, .unset, .unset, .unset, .unset] [(.ref b3)])) _
    refine XS.dup X51.here hx rfl (hb hby at_175) rfl rfl ?_
    show Steps p.tables e below (T51.setTop (mkF m 176 #[.val (.int p1), .val (.int p2), .val (.int p3), .val (.int kx), .unset, .unset, .unset, .unset, .unset, .unset, .unset] [(.ref b3), (.ref b3)])) _
    refine XS.bipush X51.here hx rfl (hb hby at_176) ?_
    show Steps p.tables e below (T51.setTop (mkF m 178 #[.val (.int p1), .val (.int p2), .val (.int p3), .val (.int kx), .unset, .unset, .unset, .unset, .unset, .unset, .unset] [(.int (24 : Int32)), (.ref b3), (.ref b3)])) _
    refine st52 _ ?_
    show Steps p.tables e below (T52.setTop (mkF m 181 #[.val (.int p1), .val (.int p2), .val (.int p3), .val (.int kx), .unset, .unset, .unset, .unset, .unset, .unset, .unset] [(.ref f24), (.int (24 : Int32)), (.ref b3), (.ref b3)])) _
    refine st53 _ ?_
    show Steps p.tables e below (T53.setTop (mkF m 182 #[.val (.int p1), .val (.int p2), .val (.int p3), .val (.int kx), .unset, .unset, .unset, .unset, .unset, .unset, .unset] [(.ref b3)])) _
    refine XS.dup X53.here hx rfl (hb hby at_182) rfl rfl ?_
    show Steps p.tables e below (T53.setTop (mkF m 183 #[.val (.int p1), .val (.int p2), .val (.int p3), .val (.int kx), .unset, .unset, .unset, .unset, .unset, .unset, .unset] [(.ref b3), (.ref b3)])) _
    refine XS.bipush X53.here hx rfl (hb hby at_183) ?_
    show Steps p.tables e below (T53.setTop (mkF m 185 #[.val (.int p1), .val (.int p2), .val (.int p3), .val (.int kx), .unset, .unset, .unset, .unset, .unset, .unset, .unset] [(.int (25 : Int32)), (.ref b3), (.ref b3)])) _
    refine st54 _ ?_
    show Steps p.tables e below (T54.setTop (mkF m 188 #[.val (.int p1), .val (.int p2), .val (.int p3), .val (.int kx), .unset, .unset, .unset, .unset, .unset, .unset, .unset] [(.ref f25), (.int (25 : Int32)), (.ref b3), (.ref b3)])) _
    refine st55 _ ?_
    show Steps p.tables e below (T55.setTop (mkF m 189 #[.val (.int p1), .val (.int p2), .val (.int p3), .val (.int kx), .unset, .unset, .unset, .unset, .unset, .unset, .unset] [(.ref b3)])) _
    refine XS.dup X55.here hx rfl (hb hby at_189) rfl rfl ?_
    show Steps p.tables e below (T55.setTop (mkF m 190 #[.val (.int p1), .val (.int p2), .val (.int p3), .val (.int kx), .unset, .unset, .unset, .unset, .unset, .unset, .unset] [(.ref b3), (.ref b3)])) _
    refine XS.bipush X55.here hx rfl (hb hby at_190) ?_
    show Steps p.tables e below (T55.setTop (mkF m 192 #[.val (.int p1), .val (.int p2), .val (.int p3), .val (.int kx), .unset, .unset, .unset, .unset, .unset, .unset, .unset] [(.int (26 : Int32)), (.ref b3), (.ref b3)])) _
    refine st56 _ ?_
    show Steps p.tables e below (T56.setTop (mkF m 195 #[.val (.int p1), .val (.int p2), .val (.int p3), .val (.int kx), .unset, .unset, .unset, .unset, .unset, .unset, .unset] [(.ref f26), (.int (26 : Int32)), (.ref b3), (.ref b3)])) _
    refine st57 _ ?_
    show Steps p.tables e below (T57.setTop (mkF m 196 #[.val (.int p1), .val (.int p2), .val (.int p3), .val (.int kx), .unset, .unset, .unset, .unset, .unset, .unset, .unset] [(.ref b3)])) _
    refine XS.astore X57.here hx rfl (hb hby at_196) rfl rfl (l' := #[.val (.int p1), .val (.int p2), .val (.int p3), .val (.int kx), .val (.ref b3), .unset, .unset, .unset, .unset, .unset, .unset]) rfl ?_
    show Steps p.tables e below (T57.setTop (mkF m 198 #[.val (.int p1), .val (.int p2), .val (.int p3), .val (.int kx), .val (.ref b3), .unset, .unset, .unset, .unset, .unset, .unset] [])) _
    refine XS.bipush X57.here hx rfl (hb hby at_198) ?_
    show Steps p.tables e below (T57.setTop (mkF m 200 #[.val (.int p1), .val (.int p2), .val (.int p3), .val (.int kx), .val (.ref b3), .unset, .unset, .unset, .unset, .unset, .unset] [(.int (27 : Int32))])) _
    refine st58 _ ?_
    show Steps p.tables e below (T58.setTop (mkF m 202 #[.val (.int p1), .val (.int p2), .val (.int p3), .val (.int kx), .val (.ref b3), .unset, .unset, .unset, .unset, .unset, .unset] [(.ref b58)])) _
    refine XS.dup X58.here hx rfl (hb hby at_202) rfl rfl ?_
    show Steps p.tables e below (T58.setTop (mkF m 203 #[.val (.int p1), .val (.int p2), .val (.int p3), .val (.int kx), .val (.ref b3), .unset, .unset, .unset, .unset, .unset, .unset] [(.ref b58), (.ref b58)])) _
    refine XS.iconst X58.here hx rfl (hb hby at_203) ?_
    show Steps p.tables e below (T58.setTop (mkF m 204 #[.val (.int p1), .val (.int p2), .val (.int p3), .val (.int kx), .val (.ref b3), .unset, .unset, .unset, .unset, .unset, .unset] [(.int (0 : Int32)), (.ref b58), (.ref b58)])) _
    refine XS.iconst X58.here hx rfl (hb hby at_204) ?_
    show Steps p.tables e below (T58.setTop (mkF m 205 #[.val (.int p1), .val (.int p2), .val (.int p3), .val (.int kx), .val (.ref b3), .unset, .unset, .unset, .unset, .unset, .unset] [(.int (0 : Int32)), (.int (0 : Int32)), (.ref b58), (.ref b58)])) _
    refine st59 _ ?_
    show Steps p.tables e below (T59.setTop (mkF m 206 #[.val (.int p1), .val (.int p2), .val (.int p3), .val (.int kx), .val (.ref b3), .unset, .unset, .unset, .unset, .unset, .unset] [(.ref b58)])) _
    refine XS.dup X59.here hx rfl (hb hby at_206) rfl rfl ?_
    show Steps p.tables e below (T59.setTop (mkF m 207 #[.val (.int p1), .val (.int p2), .val (.int p3), .val (.int kx), .val (.ref b3), .unset, .unset, .unset, .unset, .unset, .unset] [(.ref b58), (.ref b58)])) _
    refine XS.iconst X59.here hx rfl (hb hby at_207) ?_
    show Steps p.tables e below (T59.setTop (mkF m 208 #[.val (.int p1), .val (.int p2), .val (.int p3), .val (.int kx), .val (.ref b3), .unset, .unset, .unset, .unset, .unset, .unset] [(.int (1 : Int32)), (.ref b58), (.ref b58)])) _
    refine XS.iconst X59.here hx rfl (hb hby at_208) ?_
    show Steps p.tables e below (T59.setTop (mkF m 209 #[.val (.int p1), .val (.int p2), .val (.int p3), .val (.int kx), .val (.ref b3), .unset, .unset, .unset, .unset, .unset, .unset] [(.int (0 : Int32)), (.int (1 : Int32)), (.ref b58), (.ref b58)])) _
    refine st60 _ ?_
    show Steps p.tables e below (T60.setTop (mkF m 210 #[.val (.int p1), .val (.int p2), .val (.int p3), .val (.int kx), .val (.ref b3), .unset, .unset, .unset, .unset, .unset, .unset] [(.ref b58)])) _
    refine XS.dup X60.here hx rfl (hb hby at_210) rfl rfl ?_
    show Steps p.tables e below (T60.setTop (mkF m 211 #[.val (.int p1), .val (.int p2), .val (.int p3), .val (.int kx), .val (.ref b3), .unset, .unset, .unset, .unset, .unset, .unset] [(.ref b58), (.ref b58)])) _
    refine XS.iconst X60.here hx rfl (hb hby at_211) ?_
    show Steps p.tables e below (T60.setTop (mkF m 212 #[.val (.int p1), .val (.int p2), .val (.int p3), .val (.int kx), .val (.ref b3), .unset, .unset, .unset, .unset, .unset, .unset] [(.int (2 : Int32)), (.ref b58), (.ref b58)])) _
    refine XS.iconst X60.here hx rfl (hb hby at_212) ?_
    show Steps p.tables e below (T60.setTop (mkF m 213 #[.val (.int p1), .val (.int p2), .val (.int p3), .val (.int kx), .val (.ref b3), .unset, .unset, .unset, .unset, .unset, .unset] [(.int (1 : Int32)), (.int (2 : Int32)), (.ref b58), (.ref b58)])) _
    refine st61 _ ?_
    show Steps p.tables e below (T61.setTop (mkF m 214 #[.val (.int p1), .val (.int p2), .val (.int p3), .val (.int kx), .val (.ref b3), .unset, .unset, .unset, .unset, .unset, .unset] [(.ref b58)])) _
    refine XS.dup X61.here hx rfl (hb hby at_214) rfl rfl ?_
    show Steps p.tables e below (T61.setTop (mkF m 215 #[.val (.int p1), .val (.int p2), .val (.int p3), .val (.int kx), .val (.ref b3), .unset, .unset, .unset, .unset, .unset, .unset] [(.ref b58), (.ref b58)])) _
    refine XS.iconst X61.here hx rfl (hb hby at_215) ?_
    show Steps p.tables e below (T61.setTop (mkF m 216 #[.val (.int p1), .val (.int p2), .val (.int p3), .val (.int kx), .val (.ref b3), .unset, .unset, .unset, .unset, .unset, .unset] [(.int (3 : Int32)), (.ref b58), (.ref b58)])) _
    refine XS.iconst X61.here hx rfl (hb hby at_216) ?_
    show Steps p.tables e below (T61.setTop (mkF m 217 #[.val (.int p1), .val (.int p2), .val (.int p3), .val (.int kx), .val (.ref b3), .unset, .unset, .unset, .unset, .unset, .unset] [(.int (1 : Int32)), (.int (3 : Int32)), (.ref b58), (.ref b58)])) _
    refine st62 _ ?_
    show Steps p.tables e below (T62.setTop (mkF m 218 #[.val (.int p1), .val (.int p2), .val (.int p3), .val (.int kx), .val (.ref b3), .unset, .unset, .unset, .unset, .unset, .unset] [(.ref b58)])) _
    refine XS.dup X62.here hx rfl (hb hby at_218) rfl rfl ?_
    show Steps p.tables e below (T62.setTop (mkF m 219 #[.val (.int p1), .val (.int p2), .val (.int p3), .val (.int kx), .val (.ref b3), .unset, .unset, .unset, .unset, .unset, .unset] [(.ref b58), (.ref b58)])) _
    refine XS.iconst X62.here hx rfl (hb hby at_219) ?_
    show Steps p.tables e below (T62.setTop (mkF m 220 #[.val (.int p1), .val (.int p2), .val (.int p3), .val (.int kx), .val (.ref b3), .unset, .unset, .unset, .unset, .unset, .unset] [(.int (4 : Int32)), (.ref b58), (.ref b58)])) _
    refine XS.iconst X62.here hx rfl (hb hby at_220) ?_
    show Steps p.tables e below (T62.setTop (mkF m 221 #[.val (.int p1), .val (.int p2), .val (.int p3), .val (.int kx), .val (.ref b3), .unset, .unset, .unset, .unset, .unset, .unset] [(.int (0 : Int32)), (.int (4 : Int32)), (.ref b58), (.ref b58)])) _
    refine st63 _ ?_
    show Steps p.tables e below (T63.setTop (mkF m 222 #[.val (.int p1), .val (.int p2), .val (.int p3), .val (.int kx), .val (.ref b3), .unset, .unset, .unset, .unset, .unset, .unset] [(.ref b58)])) _
    refine XS.dup X63.here hx rfl (hb hby at_222) rfl rfl ?_
    show Steps p.tables e below (T63.setTop (mkF m 223 #[.val (.int p1), .val (.int p2), .val (.int p3), .val (.int kx), .val (.ref b3), .unset, .unset, .unset, .unset, .unset, .unset] [(.ref b58), (.ref b58)])) _
    refine XS.iconst X63.here hx rfl (hb hby at_223) ?_
    show Steps p.tables e below (T63.setTop (mkF m 224 #[.val (.int p1), .val (.int p2), .val (.int p3), .val (.int kx), .val (.ref b3), .unset, .unset, .unset, .unset, .unset, .unset] [(.int (5 : Int32)), (.ref b58), (.ref b58)])) _
    refine XS.iconst X63.here hx rfl (hb hby at_224) ?_
    show Steps p.tables e below (T63.setTop (mkF m 225 #[.val (.int p1), .val (.int p2), .val (.int p3), .val (.int kx), .val (.ref b3), .unset, .unset, .unset, .unset, .unset, .unset] [(.int (0 : Int32)), (.int (5 : Int32)), (.ref b58), (.ref b58)])) _
    refine st64 _ ?_
    show Steps p.tables e below (T64.setTop (mkF m 226 #[.val (.int p1), .val (.int p2), .val (.int p3), .val (.int kx), .val (.ref b3), .unset, .unset, .unset, .unset, .unset, .unset] [(.ref b58)])) _
    refine XS.dup X64.here hx rfl (hb hby at_226) rfl rfl ?_
    show Steps p.tables e below (T64.setTop (mkF m 227 #[.val (.int p1), .val (.int p2), .val (.int p3), .val (.int kx), .val (.ref b3), .unset, .unset, .unset, .unset, .unset, .unset] [(.ref b58), (.ref b58)])) _
    refine XS.bipush X64.here hx rfl (hb hby at_227) ?_
    show Steps p.tables e below (T64.setTop (mkF m 229 #[.val (.int p1), .val (.int p2), .val (.int p3), .val (.int kx), .val (.ref b3), .unset, .unset, .unset, .unset, .unset, .unset] [(.int (6 : Int32)), (.ref b58), (.ref b58)])) _
    refine XS.iconst X64.here hx rfl (hb hby at_229) ?_
    show Steps p.tables e below (T64.setTop (mkF m 230 #[.val (.int p1), .val (.int p2), .val (.int p3), .val (.int kx), .val (.ref b3), .unset, .unset, .unset, .unset, .unset, .unset] [(.int (0 : Int32)), (.int (6 : Int32)), (.ref b58), (.ref b58)])) _
    refine st65 _ ?_
    show Steps p.tables e below (T65.setTop (mkF m 231 #[.val (.int p1), .val (.int p2), .val (.int p3), .val (.int kx), .val (.ref b3), .unset, .unset, .unset, .unset, .unset, .unset] [(.ref b58)])) _
    refine XS.dup X65.here hx rfl (hb hby at_231) rfl rfl ?_
    show Steps p.tables e below (T65.setTop (mkF m 232 #[.val (.int p1), .val (.int p2), .val (.int p3), .val (.int kx), .val (.ref b3), .unset, .unset, .unset, .unset, .unset, .unset] [(.ref b58), (.ref b58)])) _
    refine XS.bipush X65.here hx rfl (hb hby at_232) ?_
    show Steps p.tables e below (T65.setTop (mkF m 234 #[.val (.int p1), .val (.int p2), .val (.int p3), .val (.int kx), .val (.ref b3), .unset, .unset, .unset, .unset, .unset, .unset] [(.int (7 : Int32)), (.ref b58), (.ref b58)])) _
    refine XS.iconst X65.here hx rfl (hb hby at_234) ?_
    show Steps p.tables e below (T65.setTop (mkF m 235 #[.val (.int p1), .val (.int p2), .val (.int p3), .val (.int kx), .val (.ref b3), .unset, .unset, .unset, .unset, .unset, .unset] [(.int (0 : Int32)), (.int (7 : Int32)), (.ref b58), (.ref b58)])) _
    refine st66 _ ?_
    show Steps p.tables e below (T66.setTop (mkF m 236 #[.val (.int p1), .val (.int p2), .val (.int p3), .val (.int kx), .val (.ref b3), .unset, .unset, .unset, .unset, .unset, .unset] [(.ref b58)])) _
    refine XS.dup X66.here hx rfl (hb hby at_236) rfl rfl ?_
    show Steps p.tables e below (T66.setTop (mkF m 237 #[.val (.int p1), .val (.int p2), .val (.int p3), .val (.int kx), .val (.ref b3), .unset, .unset, .unset, .unset, .unset, .unset] [(.ref b58), (.ref b58)])) _
    refine XS.bipush X66.here hx rfl (hb hby at_237) ?_
    show Steps p.tables e below (T66.setTop (mkF m 239 #[.val (.int p1), .val (.int p2), .val (.int p3), .val (.int kx), .val (.ref b3), .unset, .unset, .unset, .unset, .unset, .unset] [(.int (8 : Int32)), (.ref b58), (.ref b58)])) _
    refine XS.iconst X66.here hx rfl (hb hby at_239) ?_
    show Steps p.tables e below (T66.setTop (mkF m 240 #[.val (.int p1), .val (.int p2), .val (.int p3), .val (.int kx), .val (.ref b3), .unset, .unset, .unset, .unset, .unset, .unset] [(.int (2 : Int32)), (.int (8 : Int32)), (.ref b58), (.ref b58)])) _
    refine st67 _ ?_
    show Steps p.tables e below (T67.setTop (mkF m 241 #[.val (.int p1), .val (.int p2), .val (.int p3), .val (.int kx), .val (.ref b3), .unset, .unset, .unset, .unset, .unset, .unset] [(.ref b58)])) _
    refine XS.dup X67.here hx rfl (hb hby at_241) rfl rfl ?_
    show Steps p.tables e below (T67.setTop (mkF m 242 #[.val (.int p1), .val (.int p2), .val (.int p3), .val (.int kx), .val (.ref b3), .unset, .unset, .unset, .unset, .unset, .unset] [(.ref b58), (.ref b58)])) _
    refine XS.bipush X67.here hx rfl (hb hby at_242) ?_
    show Steps p.tables e below (T67.setTop (mkF m 244 #[.val (.int p1), .val (.int p2), .val (.int p3), .val (.int kx), .val (.ref b3), .unset, .unset, .unset, .unset, .unset, .unset] [(.int (9 : Int32)), (.ref b58), (.ref b58)])) _
    refine XS.iconst X67.here hx rfl (hb hby at_244) ?_
    show Steps p.tables e below (T67.setTop (mkF m 245 #[.val (.int p1), .val (.int p2), .val (.int p3), .val (.int kx), .val (.ref b3), .unset, .unset, .unset, .unset, .unset, .unset] [(.int (2 : Int32)), (.int (9 : Int32)), (.ref b58), (.ref b58)])) _
    refine st68 _ ?_
    show Steps p.tables e below (T68.setTop (mkF m 246 #[.val (.int p1), .val (.int p2), .val (.int p3), .val (.int kx), .val (.ref b3), .unset, .unset, .unset, .unset, .unset, .unset] [(.ref b58)])) _
    refine XS.dup X68.here hx rfl (hb hby at_246) rfl rfl ?_
    show Steps p.tables e below (T68.setTop (mkF m 247 #[.val (.int p1), .val (.int p2), .val (.int p3), .val (.int kx), .val (.ref b3), .unset, .unset, .unset, .unset, .unset, .unset] [(.ref b58), (.ref b58)])) _
    refine XS.bipush X68.here hx rfl (hb hby at_247) ?_
    show Steps p.tables e below (T68.setTop (mkF m 249 #[.val (.int p1), .val (.int p2), .val (.int p3), .val (.int kx), .val (.ref b3), .unset, .unset, .unset, .unset, .unset, .unset] [(.int (10 : Int32)), (.ref b58), (.ref b58)])) _
    refine XS.iconst X68.here hx rfl (hb hby at_249) ?_
    show Steps p.tables e below (T68.setTop (mkF m 250 #[.val (.int p1), .val (.int p2), .val (.int p3), .val (.int kx), .val (.ref b3), .unset, .unset, .unset, .unset, .unset, .unset] [(.int (2 : Int32)), (.int (10 : Int32)), (.ref b58), (.ref b58)])) _
    refine st69 _ ?_
    show Steps p.tables e below (T69.setTop (mkF m 251 #[.val (.int p1), .val (.int p2), .val (.int p3), .val (.int kx), .val (.ref b3), .unset, .unset, .unset, .unset, .unset, .unset] [(.ref b58)])) _
    refine XS.dup X69.here hx rfl (hb hby at_251) rfl rfl ?_
    show Steps p.tables e below (T69.setTop (mkF m 252 #[.val (.int p1), .val (.int p2), .val (.int p3), .val (.int kx), .val (.ref b3), .unset, .unset, .unset, .unset, .unset, .unset] [(.ref b58), (.ref b58)])) _
    refine XS.bipush X69.here hx rfl (hb hby at_252) ?_
    show Steps p.tables e below (T69.setTop (mkF m 254 #[.val (.int p1), .val (.int p2), .val (.int p3), .val (.int kx), .val (.ref b3), .unset, .unset, .unset, .unset, .unset, .unset] [(.int (11 : Int32)), (.ref b58), (.ref b58)])) _
    refine XS.iconst X69.here hx rfl (hb hby at_254) ?_
    show Steps p.tables e below (T69.setTop (mkF m 255 #[.val (.int p1), .val (.int p2), .val (.int p3), .val (.int kx), .val (.ref b3), .unset, .unset, .unset, .unset, .unset, .unset] [(.int (2 : Int32)), (.int (11 : Int32)), (.ref b58), (.ref b58)])) _
    refine st70 _ ?_
    show Steps p.tables e below (T70.setTop (mkF m 256 #[.val (.int p1), .val (.int p2), .val (.int p3), .val (.int kx), .val (.ref b3), .unset, .unset, .unset, .unset, .unset, .unset] [(.ref b58)])) _
    refine XS.dup X70.here hx rfl (hb hby at_256) rfl rfl ?_
    show Steps p.tables e below (T70.setTop (mkF m 257 #[.val (.int p1), .val (.int p2), .val (.int p3), .val (.int kx), .val (.ref b3), .unset, .unset, .unset, .unset, .unset, .unset] [(.ref b58), (.ref b58)])) _
    refine XS.bipush X70.here hx rfl (hb hby at_257) ?_
    show Steps p.tables e below (T70.setTop (mkF m 259 #[.val (.int p1), .val (.int p2), .val (.int p3), .val (.int kx), .val (.ref b3), .unset, .unset, .unset, .unset, .unset, .unset] [(.int (12 : Int32)), (.ref b58), (.ref b58)])) _
    refine XS.iconst X70.here hx rfl (hb hby at_259) ?_
    show Steps p.tables e below (T70.setTop (mkF m 260 #[.val (.int p1), .val (.int p2), .val (.int p3), .val (.int kx), .val (.ref b3), .unset, .unset, .unset, .unset, .unset, .unset] [(.int (2 : Int32)), (.int (12 : Int32)), (.ref b58), (.ref b58)])) _
    refine st71 _ ?_
    show Steps p.tables e below (T71.setTop (mkF m 261 #[.val (.int p1), .val (.int p2), .val (.int p3), .val (.int kx), .val (.ref b3), .unset, .unset, .unset, .unset, .unset, .unset] [(.ref b58)])) _
    refine XS.dup X71.here hx rfl (hb hby at_261) rfl rfl ?_
    show Steps p.tables e below (T71.setTop (mkF m 262 #[.val (.int p1), .val (.int p2), .val (.int p3), .val (.int kx), .val (.ref b3), .unset, .unset, .unset, .unset, .unset, .unset] [(.ref b58), (.ref b58)])) _
    refine XS.bipush X71.here hx rfl (hb hby at_262) ?_
    show Steps p.tables e below (T71.setTop (mkF m 264 #[.val (.int p1), .val (.int p2), .val (.int p3), .val (.int kx), .val (.ref b3), .unset, .unset, .unset, .unset, .unset, .unset] [(.int (13 : Int32)), (.ref b58), (.ref b58)])) _
    refine XS.iconst X71.here hx rfl (hb hby at_264) ?_
    show Steps p.tables e below (T71.setTop (mkF m 265 #[.val (.int p1), .val (.int p2), .val (.int p3), .val (.int kx), .val (.ref b3), .unset, .unset, .unset, .unset, .unset, .unset] [(.int (2 : Int32)), (.int (13 : Int32)), (.ref b58), (.ref b58)])) _
    refine st72 _ ?_
    show Steps p.tables e below (T72.setTop (mkF m 266 #[.val (.int p1), .val (.int p2), .val (.int p3), .val (.int kx), .val (.ref b3), .unset, .unset, .unset, .unset, .unset, .unset] [(.ref b58)])) _
    refine XS.dup X72.here hx rfl (hb hby at_266) rfl rfl ?_
    show Steps p.tables e below (T72.setTop (mkF m 267 #[.val (.int p1), .val (.int p2), .val (.int p3), .val (.int kx), .val (.ref b3), .unset, .unset, .unset, .unset, .unset, .unset] [(.ref b58), (.ref b58)])) _
    refine XS.bipush X72.here hx rfl (hb hby at_267) ?_
    show Steps p.tables e below (T72.setTop (mkF m 269 #[.val (.int p1), .val (.int p2), .val (.int p3), .val (.int kx), .val (.ref b3), .unset, .unset, .unset, .unset, .unset, .unset] [(.int (14 : Int32)), (.ref b58), (.ref b58)])) _
    refine XS.iconst X72.here hx rfl (hb hby at_269) ?_
    show Steps p.tables e below (T72.setTop (mkF m 270 #[.val (.int p1), .val (.int p2), .val (.int p3), .val (.int kx), .val (.ref b3), .unset, .unset, .unset, .unset, .unset, .unset] [(.int (0 : Int32)), (.int (14 : Int32)), (.ref b58), (.ref b58)])) _
    refine st73 _ ?_
    show Steps p.tables e below (T73.setTop (mkF m 271 #[.val (.int p1), .val (.int p2), .val (.int p3), .val (.int kx), .val (.ref b3), .unset, .unset, .unset, .unset, .unset, .unset] [(.ref b58)])) _
    refine XS.dup X73.here hx rfl (hb hby at_271) rfl rfl ?_
    show Steps p.tables e below (T73.setTop (mkF m 272 #[.val (.int p1), .val (.int p2), .val (.int p3), .val (.int kx), .val (.ref b3), .unset, .unset, .unset, .unset, .unset, .unset] [(.ref b58), (.ref b58)])) _
    refine XS.bipush X73.here hx rfl (hb hby at_272) ?_
    show Steps p.tables e below (T73.setTop (mkF m 274 #[.val (.int p1), .val (.int p2), .val (.int p3), .val (.int kx), .val (.ref b3), .unset, .unset, .unset, .unset, .unset, .unset] [(.int (15 : Int32)), (.ref b58), (.ref b58)])) _
    refine XS.iconst X73.here hx rfl (hb hby at_274) ?_
    show Steps p.tables e below (T73.setTop (mkF m 275 #[.val (.int p1), .val (.int p2), .val (.int p3), .val (.int kx), .val (.ref b3), .unset, .unset, .unset, .unset, .unset, .unset] [(.int (0 : Int32)), (.int (15 : Int32)), (.ref b58), (.ref b58)])) _
    refine st74 _ ?_
    show Steps p.tables e below (T74.setTop (mkF m 276 #[.val (.int p1), .val (.int p2), .val (.int p3), .val (.int kx), .val (.ref b3), .unset, .unset, .unset, .unset, .unset, .unset] [(.ref b58)])) _
    refine XS.dup X74.here hx rfl (hb hby at_276) rfl rfl ?_
    show Steps p.tables e below (T74.setTop (mkF m 277 #[.val (.int p1), .val (.int p2), .val (.int p3), .val (.int kx), .val (.ref b3), .unset, .unset, .unset, .unset, .unset, .unset] [(.ref b58), (.ref b58)])) _
    refine XS.bipush X74.here hx rfl (hb hby at_277) ?_
    show Steps p.tables e below (T74.setTop (mkF m 279 #[.val (.int p1), .val (.int p2), .val (.int p3), .val (.int kx), .val (.ref b3), .unset, .unset, .unset, .unset, .unset, .unset] [(.int (16 : Int32)), (.ref b58), (.ref b58)])) _
    refine XS.iconst X74.here hx rfl (hb hby at_279) ?_
    show Steps p.tables e below (T74.setTop (mkF m 280 #[.val (.int p1), .val (.int p2), .val (.int p3), .val (.int kx), .val (.ref b3), .unset, .unset, .unset, .unset, .unset, .unset] [(.int (3 : Int32)), (.int (16 : Int32)), (.ref b58), (.ref b58)])) _
    refine st75 _ ?_
    show Steps p.tables e below (T75.setTop (mkF m 281 #[.val (.int p1), .val (.int p2), .val (.int p3), .val (.int kx), .val (.ref b3), .unset, .unset, .unset, .unset, .unset, .unset] [(.ref b58)])) _
    refine XS.dup X75.here hx rfl (hb hby at_281) rfl rfl ?_
    show Steps p.tables e below (T75.setTop (mkF m 282 #[.val (.int p1), .val (.int p2), .val (.int p3), .val (.int kx), .val (.ref b3), .unset, .unset, .unset, .unset, .unset, .unset] [(.ref b58), (.ref b58)])) _
    refine XS.bipush X75.here hx rfl (hb hby at_282) ?_
    show Steps p.tables e below (T75.setTop (mkF m 284 #[.val (.int p1), .val (.int p2), .val (.int p3), .val (.int kx), .val (.ref b3), .unset, .unset, .unset, .unset, .unset, .unset] [(.int (17 : Int32)), (.ref b58), (.ref b58)])) _
    refine XS.iconst X75.here hx rfl (hb hby at_284) ?_
    show Steps p.tables e below (T75.setTop (mkF m 285 #[.val (.int p1), .val (.int p2), .val (.int p3), .val (.int kx), .val (.ref b3), .unset, .unset, .unset, .unset, .unset, .unset] [(.int (1 : Int32)), (.int (17 : Int32)), (.ref b58), (.ref b58)])) _
    refine st76 _ ?_
    show Steps p.tables e below (T76.setTop (mkF m 286 #[.val (.int p1), .val (.int p2), .val (.int p3), .val (.int kx), .val (.ref b3), .unset, .unset, .unset, .unset, .unset, .unset] [(.ref b58)])) _
    refine XS.dup X76.here hx rfl (hb hby at_286) rfl rfl ?_
    show Steps p.tables e below (T76.setTop (mkF m 287 #[.val (.int p1), .val (.int p2), .val (.int p3), .val (.int kx), .val (.ref b3), .unset, .unset, .unset, .unset, .unset, .unset] [(.ref b58), (.ref b58)])) _
    refine XS.bipush X76.here hx rfl (hb hby at_287) ?_
    show Steps p.tables e below (T76.setTop (mkF m 289 #[.val (.int p1), .val (.int p2), .val (.int p3), .val (.int kx), .val (.ref b3), .unset, .unset, .unset, .unset, .unset, .unset] [(.int (18 : Int32)), (.ref b58), (.ref b58)])) _
    refine XS.iconst X76.here hx rfl (hb hby at_289) ?_
    show Steps p.tables e below (T76.setTop (mkF m 290 #[.val (.int p1), .val (.int p2), .val (.int p3), .val (.int kx), .val (.ref b3), .unset, .unset, .unset, .unset, .unset, .unset] [(.int (1 : Int32)), (.int (18 : Int32)), (.ref b58), (.ref b58)])) _
    refine st77 _ ?_
    show Steps p.tables e below (T77.setTop (mkF m 291 #[.val (.int p1), .val (.int p2), .val (.int p3), .val (.int kx), .val (.ref b3), .unset, .unset, .unset, .unset, .unset, .unset] [(.ref b58)])) _
    refine XS.dup X77.here hx rfl (hb hby at_291) rfl rfl ?_
    show Steps p.tables e below (T77.setTop (mkF m 292 #[.val (.int p1), .val (.int p2), .val (.int p3), .val (.int kx), .val (.ref b3), .unset, .unset, .unset, .unset, .unset, .unset] [(.ref b58), (.ref b58)])) _
    refine XS.bipush X77.here hx rfl (hb hby at_292) ?_
    show Steps p.tables e below (T77.setTop (mkF m 294 #[.val (.int p1), .val (.int p2), .val (.int p3), .val (.int kx), .val (.ref b3), .unset, .unset, .unset, .unset, .unset, .unset] [(.int (19 : Int32)), (.ref b58), (.ref b58)])) _
    refine XS.iconst X77.here hx rfl (hb hby at_294) ?_
    show Steps p.tables e below (T77.setTop (mkF m 295 #[.val (.int p1), .val (.int p2), .val (.int p3), .val (.int kx), .val (.ref b3), .unset, .unset, .unset, .unset, .unset, .unset] [(.int (0 : Int32)), (.int (19 : Int32)), (.ref b58), (.ref b58)])) _
    refine st78 _ ?_
    show Steps p.tables e below (T78.setTop (mkF m 296 #[.val (.int p1), .val (.int p2), .val (.int p3), .val (.int kx), .val (.ref b3), .unset, .unset, .unset, .unset, .unset, .unset] [(.ref b58)])) _
    refine XS.dup X78.here hx rfl (hb hby at_296) rfl rfl ?_
    show Steps p.tables e below (T78.setTop (mkF m 297 #[.val (.int p1), .val (.int p2), .val (.int p3), .val (.int kx), .val (.ref b3), .unset, .unset, .unset, .unset, .unset, .unset] [(.ref b58), (.ref b58)])) _
    refine XS.bipush X78.here hx rfl (hb hby at_297) ?_
    show Steps p.tables e below (T78.setTop (mkF m 299 #[.val (.int p1), .val (.int p2), .val (.int p3), .val (.int kx), .val (.ref b3), .unset, .unset, .unset, .unset, .unset, .unset] [(.int (20 : Int32)), (.ref b58), (.ref b58)])) _
    refine XS.iconst X78.here hx rfl (hb hby at_299) ?_
    show Steps p.tables e below (T78.setTop (mkF m 300 #[.val (.int p1), .val (.int p2), .val (.int p3), .val (.int kx), .val (.ref b3), .unset, .unset, .unset, .unset, .unset, .unset] [(.int (0 : Int32)), (.int (20 : Int32)), (.ref b58), (.ref b58)])) _
    refine st79 _ ?_
    show Steps p.tables e below (T79.setTop (mkF m 301 #[.val (.int p1), .val (.int p2), .val (.int p3), .val (.int kx), .val (.ref b3), .unset, .unset, .unset, .unset, .unset, .unset] [(.ref b58)])) _
    refine XS.dup X79.here hx rfl (hb hby at_301) rfl rfl ?_
    show Steps p.tables e below (T79.setTop (mkF m 302 #[.val (.int p1), .val (.int p2), .val (.int p3), .val (.int kx), .val (.ref b3), .unset, .unset, .unset, .unset, .unset, .unset] [(.ref b58), (.ref b58)])) _
    refine XS.bipush X79.here hx rfl (hb hby at_302) ?_
    show Steps p.tables e below (T79.setTop (mkF m 304 #[.val (.int p1), .val (.int p2), .val (.int p3), .val (.int kx), .val (.ref b3), .unset, .unset, .unset, .unset, .unset, .unset] [(.int (21 : Int32)), (.ref b58), (.ref b58)])) _
    refine XS.iconst X79.here hx rfl (hb hby at_304) ?_
    show Steps p.tables e below (T79.setTop (mkF m 305 #[.val (.int p1), .val (.int p2), .val (.int p3), .val (.int kx), .val (.ref b3), .unset, .unset, .unset, .unset, .unset, .unset] [(.int (1 : Int32)), (.int (21 : Int32)), (.ref b58), (.ref b58)])) _
    refine st80 _ ?_
    show Steps p.tables e below (T80.setTop (mkF m 306 #[.val (.int p1), .val (.int p2), .val (.int p3), .val (.int kx), .val (.ref b3), .unset, .unset, .unset, .unset, .unset, .unset] [(.ref b58)])) _
    refine XS.dup X80.here hx rfl (hb hby at_306) rfl rfl ?_
    show Steps p.tables e below (T80.setTop (mkF m 307 #[.val (.int p1), .val (.int p2), .val (.int p3), .val (.int kx), .val (.ref b3), .unset, .unset, .unset, .unset, .unset, .unset] [(.ref b58), (.ref b58)])) _
    refine XS.bipush X80.here hx rfl (hb hby at_307) ?_
    show Steps p.tables e below (T80.setTop (mkF m 309 #[.val (.int p1), .val (.int p2), .val (.int p3), .val (.int kx), .val (.ref b3), .unset, .unset, .unset, .unset, .unset, .unset] [(.int (22 : Int32)), (.ref b58), (.ref b58)])) _
    refine XS.iconst X80.here hx rfl (hb hby at_309) ?_
    show Steps p.tables e below (T80.setTop (mkF m 310 #[.val (.int p1), .val (.int p2), .val (.int p3), .val (.int kx), .val (.ref b3), .unset, .unset, .unset, .unset, .unset, .unset] [(.int (0 : Int32)), (.int (22 : Int32)), (.ref b58), (.ref b58)])) _
    refine st81 _ ?_
    show Steps p.tables e below (T81.setTop (mkF m 311 #[.val (.int p1), .val (.int p2), .val (.int p3), .val (.int kx), .val (.ref b3), .unset, .unset, .unset, .unset, .unset, .unset] [(.ref b58)])) _
    refine XS.dup X81.here hx rfl (hb hby at_311) rfl rfl ?_
    show Steps p.tables e below (T81.setTop (mkF m 312 #[.val (.int p1), .val (.int p2), .val (.int p3), .val (.int kx), .val (.ref b3), .unset, .unset, .unset, .unset, .unset, .unset] [(.ref b58), (.ref b58)])) _
    refine XS.bipush X81.here hx rfl (hb hby at_312) ?_
    show Steps p.tables e below (T81.setTop (mkF m 314 #[.val (.int p1), .val (.int p2), .val (.int p3), .val (.int kx), .val (.ref b3), .unset, .unset, .unset, .unset, .unset, .unset] [(.int (23 : Int32)), (.ref b58), (.ref b58)])) _
    refine XS.iconst X81.here hx rfl (hb hby at_314) ?_
    show Steps p.tables e below (T81.setTop (mkF m 315 #[.val (.int p1), .val (.int p2), .val (.int p3), .val (.int kx), .val (.ref b3), .unset, .unset, .unset, .unset, .unset, .unset] [(.int (1 : Int32)), (.int (23 : Int32)), (.ref b58), (.ref b58)])) _
    refine st82 _ ?_
    show Steps p.tables e below (T82.setTop (mkF m 316 #[.val (.int p1), .val (.int p2), .val (.int p3), .val (.int kx), .val (.ref b3), .unset, .unset, .unset, .unset, .unset, .unset] [(.ref b58)])) _
    refine XS.dup X82.here hx rfl (hb hby at_316) rfl rfl ?_
    show Steps p.tables e below (T82.setTop (mkF m 317 #[.val (.int p1), .val (.int p2), .val (.int p3), .val (.int kx), .val (.ref b3), .unset, .unset, .unset, .unset, .unset, .unset] [(.ref b58), (.ref b58)])) _
    refine XS.bipush X82.here hx rfl (hb hby at_317) ?_
    show Steps p.tables e below (T82.setTop (mkF m 319 #[.val (.int p1), .val (.int p2), .val (.int p3), .val (.int kx), .val (.ref b3), .unset, .unset, .unset, .unset, .unset, .unset] [(.int (24 : Int32)), (.ref b58), (.ref b58)])) _
    refine XS.iconst X82.here hx rfl (hb hby at_319) ?_
    show Steps p.tables e below (T82.setTop (mkF m 320 #[.val (.int p1), .val (.int p2), .val (.int p3), .val (.int kx), .val (.ref b3), .unset, .unset, .unset, .unset, .unset, .unset] [(.int (1 : Int32)), (.int (24 : Int32)), (.ref b58), (.ref b58)])) _
    refine st83 _ ?_
    show Steps p.tables e below (T83.setTop (mkF m 321 #[.val (.int p1), .val (.int p2), .val (.int p3), .val (.int kx), .val (.ref b3), .unset, .unset, .unset, .unset, .unset, .unset] [(.ref b58)])) _
    refine XS.dup X83.here hx rfl (hb hby at_321) rfl rfl ?_
    show Steps p.tables e below (T83.setTop (mkF m 322 #[.val (.int p1), .val (.int p2), .val (.int p3), .val (.int kx), .val (.ref b3), .unset, .unset, .unset, .unset, .unset, .unset] [(.ref b58), (.ref b58)])) _
    refine XS.bipush X83.here hx rfl (hb hby at_322) ?_
    show Steps p.tables e below (T83.setTop (mkF m 324 #[.val (.int p1), .val (.int p2), .val (.int p3), .val (.int kx), .val (.ref b3), .unset, .unset, .unset, .unset, .unset, .unset] [(.int (25 : Int32)), (.ref b58), (.ref b58)])) _
    refine XS.iconst X83.here hx rfl (hb hby at_324) ?_
    show Steps p.tables e below (T83.setTop (mkF m 325 #[.val (.int p1), .val (.int p2), .val (.int p3), .val (.int kx), .val (.ref b3), .unset, .unset, .unset, .unset, .unset, .unset] [(.int (1 : Int32)), (.int (25 : Int32)), (.ref b58), (.ref b58)])) _
    refine st84 _ ?_
    show Steps p.tables e below (T84.setTop (mkF m 326 #[.val (.int p1), .val (.int p2), .val (.int p3), .val (.int kx), .val (.ref b3), .unset, .unset, .unset, .unset, .unset, .unset] [(.ref b58)])) _
    refine XS.dup X84.here hx rfl (hb hby at_326) rfl rfl ?_
    show Steps p.tables e below (T84.setTop (mkF m 327 #[.val (.int p1), .val (.int p2), .val (.int p3), .val (.int kx), .val (.ref b3), .unset, .unset, .unset, .unset, .unset, .unset] [(.ref b58), (.ref b58)])) _
    refine XS.bipush X84.here hx rfl (hb hby at_327) ?_
    show Steps p.tables e below (T84.setTop (mkF m 329 #[.val (.int p1), .val (.int p2), .val (.int p3), .val (.int kx), .val (.ref b3), .unset, .unset, .unset, .unset, .unset, .unset] [(.int (26 : Int32)), (.ref b58), (.ref b58)])) _
    refine XS.iconst X84.here hx rfl (hb hby at_329) ?_
    show Steps p.tables e below (T84.setTop (mkF m 330 #[.val (.int p1), .val (.int p2), .val (.int p3), .val (.int kx), .val (.ref b3), .unset, .unset, .unset, .unset, .unset, .unset] [(.int (1 : Int32)), (.int (26 : Int32)), (.ref b58), (.ref b58)])) _
    refine st85 _ ?_
    show Steps p.tables e below (T85.setTop (mkF m 331 #[.val (.int p1), .val (.int p2), .val (.int p3), .val (.int kx), .val (.ref b3), .unset, .unset, .unset, .unset, .unset, .unset] [(.ref b58)])) _
    refine XS.astore X85.here hx rfl (hb hby at_331) rfl rfl (l' := #[.val (.int p1), .val (.int p2), .val (.int p3), .val (.int kx), .val (.ref b3), .val (.ref b58), .unset, .unset, .unset, .unset, .unset]) rfl ?_
    show Steps p.tables e below (T85.setTop (mkF m 333 #[.val (.int p1), .val (.int p2), .val (.int p3), .val (.int kx), .val (.ref b3), .val (.ref b58), .unset, .unset, .unset, .unset, .unset] [])) _
    refine XS.bipush X85.here hx rfl (hb hby at_333) ?_
    show Steps p.tables e below (T85.setTop (mkF m 335 #[.val (.int p1), .val (.int p2), .val (.int p3), .val (.int kx), .val (.ref b3), .val (.ref b58), .unset, .unset, .unset, .unset, .unset] [(.int (27 : Int32))])) _
    refine st86 _ ?_
    show Steps p.tables e below (T86.setTop (mkF m 337 #[.val (.int p1), .val (.int p2), .val (.int p3), .val (.int kx), .val (.ref b3), .val (.ref b58), .unset, .unset, .unset, .unset, .unset] [(.ref b86)])) _
    refine XS.dup X86.here hx rfl (hb hby at_337) rfl rfl ?_
    show Steps p.tables e below (T86.setTop (mkF m 338 #[.val (.int p1), .val (.int p2), .val (.int p3), .val (.int kx), .val (.ref b3), .val (.ref b58), .unset, .unset, .unset, .unset, .unset] [(.ref b86), (.ref b86)])) _
    refine XS.iconst X86.here hx rfl (hb hby at_338) ?_
    show Steps p.tables e below (T86.setTop (mkF m 339 #[.val (.int p1), .val (.int p2), .val (.int p3), .val (.int kx), .val (.ref b3), .val (.ref b58), .unset, .unset, .unset, .unset, .unset] [(.int (0 : Int32)), (.ref b86), (.ref b86)])) _
    refine XS.iconst X86.here hx rfl (hb hby at_339) ?_
    show Steps p.tables e below (T86.setTop (mkF m 340 #[.val (.int p1), .val (.int p2), .val (.int p3), .val (.int kx), .val (.ref b3), .val (.ref b58), .unset, .unset, .unset, .unset, .unset] [(.int (0 : Int32)), (.int (0 : Int32)), (.ref b86), (.ref b86)])) _
    refine st87 _ ?_
    show Steps p.tables e below (T87.setTop (mkF m 341 #[.val (.int p1), .val (.int p2), .val (.int p3), .val (.int kx), .val (.ref b3), .val (.ref b58), .unset, .unset, .unset, .unset, .unset] [(.ref b86)])) _
    refine XS.dup X87.here hx rfl (hb hby at_341) rfl rfl ?_
    show Steps p.tables e below (T87.setTop (mkF m 342 #[.val (.int p1), .val (.int p2), .val (.int p3), .val (.int kx), .val (.ref b3), .val (.ref b58), .unset, .unset, .unset, .unset, .unset] [(.ref b86), (.ref b86)])) _
    refine XS.iconst X87.here hx rfl (hb hby at_342) ?_
    show Steps p.tables e below (T87.setTop (mkF m 343 #[.val (.int p1), .val (.int p2), .val (.int p3), .val (.int kx), .val (.ref b3), .val (.ref b58), .unset, .unset, .unset, .unset, .unset] [(.int (1 : Int32)), (.ref b86), (.ref b86)])) _
    refine XS.iconst X87.here hx rfl (hb hby at_343) ?_
    show Steps p.tables e below (T87.setTop (mkF m 344 #[.val (.int p1), .val (.int p2), .val (.int p3), .val (.int kx), .val (.ref b3), .val (.ref b58), .unset, .unset, .unset, .unset, .unset] [(.int (0 : Int32)), (.int (1 : Int32)), (.ref b86), (.ref b86)])) _
    refine st88 _ ?_
    show Steps p.tables e below (T88.setTop (mkF m 345 #[.val (.int p1), .val (.int p2), .val (.int p3), .val (.int kx), .val (.ref b3), .val (.ref b58), .unset, .unset, .unset, .unset, .unset] [(.ref b86)])) _
    refine XS.dup X88.here hx rfl (hb hby at_345) rfl rfl ?_
    show Steps p.tables e below (T88.setTop (mkF m 346 #[.val (.int p1), .val (.int p2), .val (.int p3), .val (.int kx), .val (.ref b3), .val (.ref b58), .unset, .unset, .unset, .unset, .unset] [(.ref b86), (.ref b86)])) _
    refine XS.iconst X88.here hx rfl (hb hby at_346) ?_
    show Steps p.tables e below (T88.setTop (mkF m 347 #[.val (.int p1), .val (.int p2), .val (.int p3), .val (.int kx), .val (.ref b3), .val (.ref b58), .unset, .unset, .unset, .unset, .unset] [(.int (2 : Int32)), (.ref b86), (.ref b86)])) _
    refine XS.iconst X88.here hx rfl (hb hby at_347) ?_
    show Steps p.tables e below (T88.setTop (mkF m 348 #[.val (.int p1), .val (.int p2), .val (.int p3), .val (.int kx), .val (.ref b3), .val (.ref b58), .unset, .unset, .unset, .unset, .unset] [(.int (1 : Int32)), (.int (2 : Int32)), (.ref b86), (.ref b86)])) _
    refine st89 _ ?_
    show Steps p.tables e below (T89.setTop (mkF m 349 #[.val (.int p1), .val (.int p2), .val (.int p3), .val (.int kx), .val (.ref b3), .val (.ref b58), .unset, .unset, .unset, .unset, .unset] [(.ref b86)])) _
    refine XS.dup X89.here hx rfl (hb hby at_349) rfl rfl ?_
    show Steps p.tables e below (T89.setTop (mkF m 350 #[.val (.int p1), .val (.int p2), .val (.int p3), .val (.int kx), .val (.ref b3), .val (.ref b58), .unset, .unset, .unset, .unset, .unset] [(.ref b86), (.ref b86)])) _
    refine XS.iconst X89.here hx rfl (hb hby at_350) ?_
    show Steps p.tables e below (T89.setTop (mkF m 351 #[.val (.int p1), .val (.int p2), .val (.int p3), .val (.int kx), .val (.ref b3), .val (.ref b58), .unset, .unset, .unset, .unset, .unset] [(.int (3 : Int32)), (.ref b86), (.ref b86)])) _
    refine XS.iconst X89.here hx rfl (hb hby at_351) ?_
    show Steps p.tables e below (T89.setTop (mkF m 352 #[.val (.int p1), .val (.int p2), .val (.int p3), .val (.int kx), .val (.ref b3), .val (.ref b58), .unset, .unset, .unset, .unset, .unset] [(.int (1 : Int32)), (.int (3 : Int32)), (.ref b86), (.ref b86)])) _
    refine st90 _ ?_
    show Steps p.tables e below (T90.setTop (mkF m 353 #[.val (.int p1), .val (.int p2), .val (.int p3), .val (.int kx), .val (.ref b3), .val (.ref b58), .unset, .unset, .unset, .unset, .unset] [(.ref b86)])) _
    refine XS.dup X90.here hx rfl (hb hby at_353) rfl rfl ?_
    show Steps p.tables e below (T90.setTop (mkF m 354 #[.val (.int p1), .val (.int p2), .val (.int p3), .val (.int kx), .val (.ref b3), .val (.ref b58), .unset, .unset, .unset, .unset, .unset] [(.ref b86), (.ref b86)])) _
    refine XS.iconst X90.here hx rfl (hb hby at_354) ?_
    show Steps p.tables e below (T90.setTop (mkF m 355 #[.val (.int p1), .val (.int p2), .val (.int p3), .val (.int kx), .val (.ref b3), .val (.ref b58), .unset, .unset, .unset, .unset, .unset] [(.int (4 : Int32)), (.ref b86), (.ref b86)])) _
    refine XS.iconst X90.here hx rfl (hb hby at_355) ?_
    show Steps p.tables e below (T90.setTop (mkF m 356 #[.val (.int p1), .val (.int p2), .val (.int p3), .val (.int kx), .val (.ref b3), .val (.ref b58), .unset, .unset, .unset, .unset, .unset] [(.int (1 : Int32)), (.int (4 : Int32)), (.ref b86), (.ref b86)])) _
    refine st91 _ ?_
    show Steps p.tables e below (T91.setTop (mkF m 357 #[.val (.int p1), .val (.int p2), .val (.int p3), .val (.int kx), .val (.ref b3), .val (.ref b58), .unset, .unset, .unset, .unset, .unset] [(.ref b86)])) _
    refine XS.dup X91.here hx rfl (hb hby at_357) rfl rfl ?_
    show Steps p.tables e below (T91.setTop (mkF m 358 #[.val (.int p1), .val (.int p2), .val (.int p3), .val (.int kx), .val (.ref b3), .val (.ref b58), .unset, .unset, .unset, .unset, .unset] [(.ref b86), (.ref b86)])) _
    refine XS.iconst X91.here hx rfl (hb hby at_358) ?_
    show Steps p.tables e below (T91.setTop (mkF m 359 #[.val (.int p1), .val (.int p2), .val (.int p3), .val (.int kx), .val (.ref b3), .val (.ref b58), .unset, .unset, .unset, .unset, .unset] [(.int (5 : Int32)), (.ref b86), (.ref b86)])) _
    refine XS.iconst X91.here hx rfl (hb hby at_359) ?_
    show Steps p.tables e below (T91.setTop (mkF m 360 #[.val (.int p1), .val (.int p2), .val (.int p3), .val (.int kx), .val (.ref b3), .val (.ref b58), .unset, .unset, .unset, .unset, .unset] [(.int (1 : Int32)), (.int (5 : Int32)), (.ref b86), (.ref b86)])) _
    refine st92 _ ?_
    show Steps p.tables e below (T92.setTop (mkF m 361 #[.val (.int p1), .val (.int p2), .val (.int p3), .val (.int kx), .val (.ref b3), .val (.ref b58), .unset, .unset, .unset, .unset, .unset] [(.ref b86)])) _
    refine XS.dup X92.here hx rfl (hb hby at_361) rfl rfl ?_
    show Steps p.tables e below (T92.setTop (mkF m 362 #[.val (.int p1), .val (.int p2), .val (.int p3), .val (.int kx), .val (.ref b3), .val (.ref b58), .unset, .unset, .unset, .unset, .unset] [(.ref b86), (.ref b86)])) _
    refine XS.bipush X92.here hx rfl (hb hby at_362) ?_
    show Steps p.tables e below (T92.setTop (mkF m 364 #[.val (.int p1), .val (.int p2), .val (.int p3), .val (.int kx), .val (.ref b3), .val (.ref b58), .unset, .unset, .unset, .unset, .unset] [(.int (6 : Int32)), (.ref b86), (.ref b86)])) _
    refine XS.iconst X92.here hx rfl (hb hby at_364) ?_
    show Steps p.tables e below (T92.setTop (mkF m 365 #[.val (.int p1), .val (.int p2), .val (.int p3), .val (.int kx), .val (.ref b3), .val (.ref b58), .unset, .unset, .unset, .unset, .unset] [(.int (1 : Int32)), (.int (6 : Int32)), (.ref b86), (.ref b86)])) _
    refine st93 _ ?_
    show Steps p.tables e below (T93.setTop (mkF m 366 #[.val (.int p1), .val (.int p2), .val (.int p3), .val (.int kx), .val (.ref b3), .val (.ref b58), .unset, .unset, .unset, .unset, .unset] [(.ref b86)])) _
    refine XS.dup X93.here hx rfl (hb hby at_366) rfl rfl ?_
    show Steps p.tables e below (T93.setTop (mkF m 367 #[.val (.int p1), .val (.int p2), .val (.int p3), .val (.int kx), .val (.ref b3), .val (.ref b58), .unset, .unset, .unset, .unset, .unset] [(.ref b86), (.ref b86)])) _
    refine XS.bipush X93.here hx rfl (hb hby at_367) ?_
    show Steps p.tables e below (T93.setTop (mkF m 369 #[.val (.int p1), .val (.int p2), .val (.int p3), .val (.int kx), .val (.ref b3), .val (.ref b58), .unset, .unset, .unset, .unset, .unset] [(.int (7 : Int32)), (.ref b86), (.ref b86)])) _
    refine XS.iconst X93.here hx rfl (hb hby at_369) ?_
    show Steps p.tables e below (T93.setTop (mkF m 370 #[.val (.int p1), .val (.int p2), .val (.int p3), .val (.int kx), .val (.ref b3), .val (.ref b58), .unset, .unset, .unset, .unset, .unset] [(.int (1 : Int32)), (.int (7 : Int32)), (.ref b86), (.ref b86)])) _
    refine st94 _ ?_
    show Steps p.tables e below (T94.setTop (mkF m 371 #[.val (.int p1), .val (.int p2), .val (.int p3), .val (.int kx), .val (.ref b3), .val (.ref b58), .unset, .unset, .unset, .unset, .unset] [(.ref b86)])) _
    refine XS.dup X94.here hx rfl (hb hby at_371) rfl rfl ?_
    show Steps p.tables e below (T94.setTop (mkF m 372 #[.val (.int p1), .val (.int p2), .val (.int p3), .val (.int kx), .val (.ref b3), .val (.ref b58), .unset, .unset, .unset, .unset, .unset] [(.ref b86), (.ref b86)])) _
    refine XS.bipush X94.here hx rfl (hb hby at_372) ?_
    show Steps p.tables e below (T94.setTop (mkF m 374 #[.val (.int p1), .val (.int p2), .val (.int p3), .val (.int kx), .val (.ref b3), .val (.ref b58), .unset, .unset, .unset, .unset, .unset] [(.int (8 : Int32)), (.ref b86), (.ref b86)])) _
    refine XS.iconst X94.here hx rfl (hb hby at_374) ?_
    show Steps p.tables e below (T94.setTop (mkF m 375 #[.val (.int p1), .val (.int p2), .val (.int p3), .val (.int kx), .val (.ref b3), .val (.ref b58), .unset, .unset, .unset, .unset, .unset] [(.int (0 : Int32)), (.int (8 : Int32)), (.ref b86), (.ref b86)])) _
    refine st95 _ ?_
    show Steps p.tables e below (T95.setTop (mkF m 376 #[.val (.int p1), .val (.int p2), .val (.int p3), .val (.int kx), .val (.ref b3), .val (.ref b58), .unset, .unset, .unset, .unset, .unset] [(.ref b86)])) _
    refine XS.dup X95.here hx rfl (hb hby at_376) rfl rfl ?_
    show Steps p.tables e below (T95.setTop (mkF m 377 #[.val (.int p1), .val (.int p2), .val (.int p3), .val (.int kx), .val (.ref b3), .val (.ref b58), .unset, .unset, .unset, .unset, .unset] [(.ref b86), (.ref b86)])) _
    refine XS.bipush X95.here hx rfl (hb hby at_377) ?_
    show Steps p.tables e below (T95.setTop (mkF m 379 #[.val (.int p1), .val (.int p2), .val (.int p3), .val (.int kx), .val (.ref b3), .val (.ref b58), .unset, .unset, .unset, .unset, .unset] [(.int (9 : Int32)), (.ref b86), (.ref b86)])) _
    refine XS.iconst X95.here hx rfl (hb hby at_379) ?_
    show Steps p.tables e below (T95.setTop (mkF m 380 #[.val (.int p1), .val (.int p2), .val (.int p3), .val (.int kx), .val (.ref b3), .val (.ref b58), .unset, .unset, .unset, .unset, .unset] [(.int (2 : Int32)), (.int (9 : Int32)), (.ref b86), (.ref b86)])) _
    refine st96 _ ?_
    show Steps p.tables e below (T96.setTop (mkF m 381 #[.val (.int p1), .val (.int p2), .val (.int p3), .val (.int kx), .val (.ref b3), .val (.ref b58), .unset, .unset, .unset, .unset, .unset] [(.ref b86)])) _
    refine XS.dup X96.here hx rfl (hb hby at_381) rfl rfl ?_
    show Steps p.tables e below (T96.setTop (mkF m 382 #[.val (.int p1), .val (.int p2), .val (.int p3), .val (.int kx), .val (.ref b3), .val (.ref b58), .unset, .unset, .unset, .unset, .unset] [(.ref b86), (.ref b86)])) _
    refine XS.bipush X96.here hx rfl (hb hby at_382) ?_
    show Steps p.tables e below (T96.setTop (mkF m 384 #[.val (.int p1), .val (.int p2), .val (.int p3), .val (.int kx), .val (.ref b3), .val (.ref b58), .unset, .unset, .unset, .unset, .unset] [(.int (10 : Int32)), (.ref b86), (.ref b86)])) _
    refine XS.iconst X96.here hx rfl (hb hby at_384) ?_
    show Steps p.tables e below (T96.setTop (mkF m 385 #[.val (.int p1), .val (.int p2), .val (.int p3), .val (.int kx), .val (.ref b3), .val (.ref b58), .unset, .unset, .unset, .unset, .unset] [(.int (2 : Int32)), (.int (10 : Int32)), (.ref b86), (.ref b86)])) _
    refine st97 _ ?_
    show Steps p.tables e below (T97.setTop (mkF m 386 #[.val (.int p1), .val (.int p2), .val (.int p3), .val (.int kx), .val (.ref b3), .val (.ref b58), .unset, .unset, .unset, .unset, .unset] [(.ref b86)])) _
    refine XS.dup X97.here hx rfl (hb hby at_386) rfl rfl ?_
    show Steps p.tables e below (T97.setTop (mkF m 387 #[.val (.int p1), .val (.int p2), .val (.int p3), .val (.int kx), .val (.ref b3), .val (.ref b58), .unset, .unset, .unset, .unset, .unset] [(.ref b86), (.ref b86)])) _
    refine XS.bipush X97.here hx rfl (hb hby at_387) ?_
    show Steps p.tables e below (T97.setTop (mkF m 389 #[.val (.int p1), .val (.int p2), .val (.int p3), .val (.int kx), .val (.ref b3), .val (.ref b58), .unset, .unset, .unset, .unset, .unset] [(.int (11 : Int32)), (.ref b86), (.ref b86)])) _
    refine XS.iconst X97.here hx rfl (hb hby at_389) ?_
    show Steps p.tables e below (T97.setTop (mkF m 390 #[.val (.int p1), .val (.int p2), .val (.int p3), .val (.int kx), .val (.ref b3), .val (.ref b58), .unset, .unset, .unset, .unset, .unset] [(.int (2 : Int32)), (.int (11 : Int32)), (.ref b86), (.ref b86)])) _
    refine st98 _ ?_
    show Steps p.tables e below (T98.setTop (mkF m 391 #[.val (.int p1), .val (.int p2), .val (.int p3), .val (.int kx), .val (.ref b3), .val (.ref b58), .unset, .unset, .unset, .unset, .unset] [(.ref b86)])) _
    refine XS.dup X98.here hx rfl (hb hby at_391) rfl rfl ?_
    show Steps p.tables e below (T98.setTop (mkF m 392 #[.val (.int p1), .val (.int p2), .val (.int p3), .val (.int kx), .val (.ref b3), .val (.ref b58), .unset, .unset, .unset, .unset, .unset] [(.ref b86), (.ref b86)])) _
    refine XS.bipush X98.here hx rfl (hb hby at_392) ?_
    show Steps p.tables e below (T98.setTop (mkF m 394 #[.val (.int p1), .val (.int p2), .val (.int p3), .val (.int kx), .val (.ref b3), .val (.ref b58), .unset, .unset, .unset, .unset, .unset] [(.int (12 : Int32)), (.ref b86), (.ref b86)])) _
    refine XS.iconst X98.here hx rfl (hb hby at_394) ?_
    show Steps p.tables e below (T98.setTop (mkF m 395 #[.val (.int p1), .val (.int p2), .val (.int p3), .val (.int kx), .val (.ref b3), .val (.ref b58), .unset, .unset, .unset, .unset, .unset] [(.int (2 : Int32)), (.int (12 : Int32)), (.ref b86), (.ref b86)])) _
    refine st99 _ ?_
    show Steps p.tables e below (T99.setTop (mkF m 396 #[.val (.int p1), .val (.int p2), .val (.int p3), .val (.int kx), .val (.ref b3), .val (.ref b58), .unset, .unset, .unset, .unset, .unset] [(.ref b86)])) _
    refine XS.dup X99.here hx rfl (hb hby at_396) rfl rfl ?_
    show Steps p.tables e below (T99.setTop (mkF m 397 #[.val (.int p1), .val (.int p2), .val (.int p3), .val (.int kx), .val (.ref b3), .val (.ref b58), .unset, .unset, .unset, .unset, .unset] [(.ref b86), (.ref b86)])) _
    refine XS.bipush X99.here hx rfl (hb hby at_397) ?_
    show Steps p.tables e below (T99.setTop (mkF m 399 #[.val (.int p1), .val (.int p2), .val (.int p3), .val (.int kx), .val (.ref b3), .val (.ref b58), .unset, .unset, .unset, .unset, .unset] [(.int (13 : Int32)), (.ref b86), (.ref b86)])) _
    refine XS.iconst X99.here hx rfl (hb hby at_399) ?_
    show Steps p.tables e below (T99.setTop (mkF m 400 #[.val (.int p1), .val (.int p2), .val (.int p3), .val (.int kx), .val (.ref b3), .val (.ref b58), .unset, .unset, .unset, .unset, .unset] [(.int (3 : Int32)), (.int (13 : Int32)), (.ref b86), (.ref b86)])) _
    refine st100 _ ?_
    show Steps p.tables e below (T100.setTop (mkF m 401 #[.val (.int p1), .val (.int p2), .val (.int p3), .val (.int kx), .val (.ref b3), .val (.ref b58), .unset, .unset, .unset, .unset, .unset] [(.ref b86)])) _
    refine XS.dup X100.here hx rfl (hb hby at_401) rfl rfl ?_
    show Steps p.tables e below (T100.setTop (mkF m 402 #[.val (.int p1), .val (.int p2), .val (.int p3), .val (.int kx), .val (.ref b3), .val (.ref b58), .unset, .unset, .unset, .unset, .unset] [(.ref b86), (.ref b86)])) _
    refine XS.bipush X100.here hx rfl (hb hby at_402) ?_
    show Steps p.tables e below (T100.setTop (mkF m 404 #[.val (.int p1), .val (.int p2), .val (.int p3), .val (.int kx), .val (.ref b3), .val (.ref b58), .unset, .unset, .unset, .unset, .unset] [(.int (14 : Int32)), (.ref b86), (.ref b86)])) _
    refine XS.iconst X100.here hx rfl (hb hby at_404) ?_
    show Steps p.tables e below (T100.setTop (mkF m 405 #[.val (.int p1), .val (.int p2), .val (.int p3), .val (.int kx), .val (.ref b3), .val (.ref b58), .unset, .unset, .unset, .unset, .unset] [(.int (1 : Int32)), (.int (14 : Int32)), (.ref b86), (.ref b86)])) _
    refine st101 _ ?_
    show Steps p.tables e below (T101.setTop (mkF m 406 #[.val (.int p1), .val (.int p2), .val (.int p3), .val (.int kx), .val (.ref b3), .val (.ref b58), .unset, .unset, .unset, .unset, .unset] [(.ref b86)])) _
    refine XS.dup X101.here hx rfl (hb hby at_406) rfl rfl ?_
    show Steps p.tables e below (T101.setTop (mkF m 407 #[.val (.int p1), .val (.int p2), .val (.int p3), .val (.int kx), .val (.ref b3), .val (.ref b58), .unset, .unset, .unset, .unset, .unset] [(.ref b86), (.ref b86)])) _
    refine XS.bipush X101.here hx rfl (hb hby at_407) ?_
    show Steps p.tables e below (T101.setTop (mkF m 409 #[.val (.int p1), .val (.int p2), .val (.int p3), .val (.int kx), .val (.ref b3), .val (.ref b58), .unset, .unset, .unset, .unset, .unset] [(.int (15 : Int32)), (.ref b86), (.ref b86)])) _
    refine XS.iconst X101.here hx rfl (hb hby at_409) ?_
    show Steps p.tables e below (T101.setTop (mkF m 410 #[.val (.int p1), .val (.int p2), .val (.int p3), .val (.int kx), .val (.ref b3), .val (.ref b58), .unset, .unset, .unset, .unset, .unset] [(.int (1 : Int32)), (.int (15 : Int32)), (.ref b86), (.ref b86)])) _
    refine st102 _ ?_
    show Steps p.tables e below (T102.setTop (mkF m 411 #[.val (.int p1), .val (.int p2), .val (.int p3), .val (.int kx), .val (.ref b3), .val (.ref b58), .unset, .unset, .unset, .unset, .unset] [(.ref b86)])) _
    refine XS.dup X102.here hx rfl (hb hby at_411) rfl rfl ?_
    show Steps p.tables e below (T102.setTop (mkF m 412 #[.val (.int p1), .val (.int p2), .val (.int p3), .val (.int kx), .val (.ref b3), .val (.ref b58), .unset, .unset, .unset, .unset, .unset] [(.ref b86), (.ref b86)])) _
    refine XS.bipush X102.here hx rfl (hb hby at_412) ?_
    show Steps p.tables e below (T102.setTop (mkF m 414 #[.val (.int p1), .val (.int p2), .val (.int p3), .val (.int kx), .val (.ref b3), .val (.ref b58), .unset, .unset, .unset, .unset, .unset] [(.int (16 : Int32)), (.ref b86), (.ref b86)])) _
    refine XS.iconst X102.here hx rfl (hb hby at_414) ?_
    show Steps p.tables e below (T102.setTop (mkF m 415 #[.val (.int p1), .val (.int p2), .val (.int p3), .val (.int kx), .val (.ref b3), .val (.ref b58), .unset, .unset, .unset, .unset, .unset] [(.int (3 : Int32)), (.int (16 : Int32)), (.ref b86), (.ref b86)])) _
    refine st103 _ ?_
    show Steps p.tables e below (T103.setTop (mkF m 416 #[.val (.int p1), .val (.int p2), .val (.int p3), .val (.int kx), .val (.ref b3), .val (.ref b58), .unset, .unset, .unset, .unset, .unset] [(.ref b86)])) _
    refine XS.dup X103.here hx rfl (hb hby at_416) rfl rfl ?_
    show Steps p.tables e below (T103.setTop (mkF m 417 #[.val (.int p1), .val (.int p2), .val (.int p3), .val (.int kx), .val (.ref b3), .val (.ref b58), .unset, .unset, .unset, .unset, .unset] [(.ref b86), (.ref b86)])) _
    refine XS.bipush X103.here hx rfl (hb hby at_417) ?_
    show Steps p.tables e below (T103.setTop (mkF m 419 #[.val (.int p1), .val (.int p2), .val (.int p3), .val (.int kx), .val (.ref b3), .val (.ref b58), .unset, .unset, .unset, .unset, .unset] [(.int (17 : Int32)), (.ref b86), (.ref b86)])) _
    refine XS.iconst X103.here hx rfl (hb hby at_419) ?_
    show Steps p.tables e below (T103.setTop (mkF m 420 #[.val (.int p1), .val (.int p2), .val (.int p3), .val (.int kx), .val (.ref b3), .val (.ref b58), .unset, .unset, .unset, .unset, .unset] [(.int (1 : Int32)), (.int (17 : Int32)), (.ref b86), (.ref b86)])) _
    refine st104 _ ?_
    show Steps p.tables e below (T104.setTop (mkF m 421 #[.val (.int p1), .val (.int p2), .val (.int p3), .val (.int kx), .val (.ref b3), .val (.ref b58), .unset, .unset, .unset, .unset, .unset] [(.ref b86)])) _
    refine XS.dup X104.here hx rfl (hb hby at_421) rfl rfl ?_
    show Steps p.tables e below (T104.setTop (mkF m 422 #[.val (.int p1), .val (.int p2), .val (.int p3), .val (.int kx), .val (.ref b3), .val (.ref b58), .unset, .unset, .unset, .unset, .unset] [(.ref b86), (.ref b86)])) _
    refine XS.bipush X104.here hx rfl (hb hby at_422) ?_
    show Steps p.tables e below (T104.setTop (mkF m 424 #[.val (.int p1), .val (.int p2), .val (.int p3), .val (.int kx), .val (.ref b3), .val (.ref b58), .unset, .unset, .unset, .unset, .unset] [(.int (18 : Int32)), (.ref b86), (.ref b86)])) _
    refine XS.iconst X104.here hx rfl (hb hby at_424) ?_
    show Steps p.tables e below (T104.setTop (mkF m 425 #[.val (.int p1), .val (.int p2), .val (.int p3), .val (.int kx), .val (.ref b3), .val (.ref b58), .unset, .unset, .unset, .unset, .unset] [(.int (1 : Int32)), (.int (18 : Int32)), (.ref b86), (.ref b86)])) _
    refine st105 _ ?_
    show Steps p.tables e below (T105.setTop (mkF m 426 #[.val (.int p1), .val (.int p2), .val (.int p3), .val (.int kx), .val (.ref b3), .val (.ref b58), .unset, .unset, .unset, .unset, .unset] [(.ref b86)])) _
    refine XS.dup X105.here hx rfl (hb hby at_426) rfl rfl ?_
    show Steps p.tables e below (T105.setTop (mkF m 427 #[.val (.int p1), .val (.int p2), .val (.int p3), .val (.int kx), .val (.ref b3), .val (.ref b58), .unset, .unset, .unset, .unset, .unset] [(.ref b86), (.ref b86)])) _
    refine XS.bipush X105.here hx rfl (hb hby at_427) ?_
    show Steps p.tables e below (T105.setTop (mkF m 429 #[.val (.int p1), .val (.int p2), .val (.int p3), .val (.int kx), .val (.ref b3), .val (.ref b58), .unset, .unset, .unset, .unset, .unset] [(.int (19 : Int32)), (.ref b86), (.ref b86)])) _
    refine XS.iconst X105.here hx rfl (hb hby at_429) ?_
    show Steps p.tables e below (T105.setTop (mkF m 430 #[.val (.int p1), .val (.int p2), .val (.int p3), .val (.int kx), .val (.ref b3), .val (.ref b58), .unset, .unset, .unset, .unset, .unset] [(.int (0 : Int32)), (.int (19 : Int32)), (.ref b86), (.ref b86)])) _
    refine st106 _ ?_
    show Steps p.tables e below (T106.setTop (mkF m 431 #[.val (.int p1), .val (.int p2), .val (.int p3), .val (.int kx), .val (.ref b3), .val (.ref b58), .unset, .unset, .unset, .unset, .unset] [(.ref b86)])) _
    refine XS.dup X106.here hx rfl (hb hby at_431) rfl rfl ?_
    show Steps p.tables e below (T106.setTop (mkF m 432 #[.val (.int p1), .val (.int p2), .val (.int p3), .val (.int kx), .val (.ref b3), .val (.ref b58), .unset, .unset, .unset, .unset, .unset] [(.ref b86), (.ref b86)])) _
    refine XS.bipush X106.here hx rfl (hb hby at_432) ?_
    show Steps p.tables e below (T106.setTop (mkF m 434 #[.val (.int p1), .val (.int p2), .val (.int p3), .val (.int kx), .val (.ref b3), .val (.ref b58), .unset, .unset, .unset, .unset, .unset] [(.int (20 : Int32)), (.ref b86), (.ref b86)])) _
    refine XS.iconst X106.here hx rfl (hb hby at_434) ?_
    show Steps p.tables e below (T106.setTop (mkF m 435 #[.val (.int p1), .val (.int p2), .val (.int p3), .val (.int kx), .val (.ref b3), .val (.ref b58), .unset, .unset, .unset, .unset, .unset] [(.int (0 : Int32)), (.int (20 : Int32)), (.ref b86), (.ref b86)])) _
    refine st107 _ ?_
    show Steps p.tables e below (T107.setTop (mkF m 436 #[.val (.int p1), .val (.int p2), .val (.int p3), .val (.int kx), .val (.ref b3), .val (.ref b58), .unset, .unset, .unset, .unset, .unset] [(.ref b86)])) _
    refine XS.dup X107.here hx rfl (hb hby at_436) rfl rfl ?_
    show Steps p.tables e below (T107.setTop (mkF m 437 #[.val (.int p1), .val (.int p2), .val (.int p3), .val (.int kx), .val (.ref b3), .val (.ref b58), .unset, .unset, .unset, .unset, .unset] [(.ref b86), (.ref b86)])) _
    refine XS.bipush X107.here hx rfl (hb hby at_437) ?_
    show Steps p.tables e below (T107.setTop (mkF m 439 #[.val (.int p1), .val (.int p2), .val (.int p3), .val (.int kx), .val (.ref b3), .val (.ref b58), .unset, .unset, .unset, .unset, .unset] [(.int (21 : Int32)), (.ref b86), (.ref b86)])) _
    refine XS.iconst X107.here hx rfl (hb hby at_439) ?_
    show Steps p.tables e below (T107.setTop (mkF m 440 #[.val (.int p1), .val (.int p2), .val (.int p3), .val (.int kx), .val (.ref b3), .val (.ref b58), .unset, .unset, .unset, .unset, .unset] [(.int (1 : Int32)), (.int (21 : Int32)), (.ref b86), (.ref b86)])) _
    refine st108 _ ?_
    show Steps p.tables e below (T108.setTop (mkF m 441 #[.val (.int p1), .val (.int p2), .val (.int p3), .val (.int kx), .val (.ref b3), .val (.ref b58), .unset, .unset, .unset, .unset, .unset] [(.ref b86)])) _
    refine XS.dup X108.here hx rfl (hb hby at_441) rfl rfl ?_
    show Steps p.tables e below (T108.setTop (mkF m 442 #[.val (.int p1), .val (.int p2), .val (.int p3), .val (.int kx), .val (.ref b3), .val (.ref b58), .unset, .unset, .unset, .unset, .unset] [(.ref b86), (.ref b86)])) _
    refine XS.bipush X108.here hx rfl (hb hby at_442) ?_
    show Steps p.tables e below (T108.setTop (mkF m 444 #[.val (.int p1), .val (.int p2), .val (.int p3), .val (.int kx), .val (.ref b3), .val (.ref b58), .unset, .unset, .unset, .unset, .unset] [(.int (22 : Int32)), (.ref b86), (.ref b86)])) _
    refine XS.iconst X108.here hx rfl (hb hby at_444) ?_
    show Steps p.tables e below (T108.setTop (mkF m 445 #[.val (.int p1), .val (.int p2), .val (.int p3), .val (.int kx), .val (.ref b3), .val (.ref b58), .unset, .unset, .unset, .unset, .unset] [(.int (1 : Int32)), (.int (22 : Int32)), (.ref b86), (.ref b86)])) _
    refine st109 _ ?_
    show Steps p.tables e below (T109.setTop (mkF m 446 #[.val (.int p1), .val (.int p2), .val (.int p3), .val (.int kx), .val (.ref b3), .val (.ref b58), .unset, .unset, .unset, .unset, .unset] [(.ref b86)])) _
    refine XS.dup X109.here hx rfl (hb hby at_446) rfl rfl ?_
    show Steps p.tables e below (T109.setTop (mkF m 447 #[.val (.int p1), .val (.int p2), .val (.int p3), .val (.int kx), .val (.ref b3), .val (.ref b58), .unset, .unset, .unset, .unset, .unset] [(.ref b86), (.ref b86)])) _
    refine XS.bipush X109.here hx rfl (hb hby at_447) ?_
    show Steps p.tables e below (T109.setTop (mkF m 449 #[.val (.int p1), .val (.int p2), .val (.int p3), .val (.int kx), .val (.ref b3), .val (.ref b58), .unset, .unset, .unset, .unset, .unset] [(.int (23 : Int32)), (.ref b86), (.ref b86)])) _
    refine XS.iconst X109.here hx rfl (hb hby at_449) ?_
    show Steps p.tables e below (T109.setTop (mkF m 450 #[.val (.int p1), .val (.int p2), .val (.int p3), .val (.int kx), .val (.ref b3), .val (.ref b58), .unset, .unset, .unset, .unset, .unset] [(.int (1 : Int32)), (.int (23 : Int32)), (.ref b86), (.ref b86)])) _
    refine st110 _ ?_
    show Steps p.tables e below (T110.setTop (mkF m 451 #[.val (.int p1), .val (.int p2), .val (.int p3), .val (.int kx), .val (.ref b3), .val (.ref b58), .unset, .unset, .unset, .unset, .unset] [(.ref b86)])) _
    refine XS.dup X110.here hx rfl (hb hby at_451) rfl rfl ?_
    show Steps p.tables e below (T110.setTop (mkF m 452 #[.val (.int p1), .val (.int p2), .val (.int p3), .val (.int kx), .val (.ref b3), .val (.ref b58), .unset, .unset, .unset, .unset, .unset] [(.ref b86), (.ref b86)])) _
    refine XS.bipush X110.here hx rfl (hb hby at_452) ?_
    show Steps p.tables e below (T110.setTop (mkF m 454 #[.val (.int p1), .val (.int p2), .val (.int p3), .val (.int kx), .val (.ref b3), .val (.ref b58), .unset, .unset, .unset, .unset, .unset] [(.int (24 : Int32)), (.ref b86), (.ref b86)])) _
    refine XS.iconst X110.here hx rfl (hb hby at_454) ?_
    show Steps p.tables e below (T110.setTop (mkF m 455 #[.val (.int p1), .val (.int p2), .val (.int p3), .val (.int kx), .val (.ref b3), .val (.ref b58), .unset, .unset, .unset, .unset, .unset] [(.int (1 : Int32)), (.int (24 : Int32)), (.ref b86), (.ref b86)])) _
    refine st111 _ ?_
    show Steps p.tables e below (T111.setTop (mkF m 456 #[.val (.int p1), .val (.int p2), .val (.int p3), .val (.int kx), .val (.ref b3), .val (.ref b58), .unset, .unset, .unset, .unset, .unset] [(.ref b86)])) _
    refine XS.dup X111.here hx rfl (hb hby at_456) rfl rfl ?_
    show Steps p.tables e below (T111.setTop (mkF m 457 #[.val (.int p1), .val (.int p2), .val (.int p3), .val (.int kx), .val (.ref b3), .val (.ref b58), .unset, .unset, .unset, .unset, .unset] [(.ref b86), (.ref b86)])) _
    refine XS.bipush X111.here hx rfl (hb hby at_457) ?_
    show Steps p.tables e below (T111.setTop (mkF m 459 #[.val (.int p1), .val (.int p2), .val (.int p3), .val (.int kx), .val (.ref b3), .val (.ref b58), .unset, .unset, .unset, .unset, .unset] [(.int (25 : Int32)), (.ref b86), (.ref b86)])) _
    refine XS.iconst X111.here hx rfl (hb hby at_459) ?_
    show Steps p.tables e below (T111.setTop (mkF m 460 #[.val (.int p1), .val (.int p2), .val (.int p3), .val (.int kx), .val (.ref b3), .val (.ref b58), .unset, .unset, .unset, .unset, .unset] [(.int (1 : Int32)), (.int (25 : Int32)), (.ref b86), (.ref b86)])) _
    refine st112 _ ?_
    show Steps p.tables e below (T112.setTop (mkF m 461 #[.val (.int p1), .val (.int p2), .val (.int p3), .val (.int kx), .val (.ref b3), .val (.ref b58), .unset, .unset, .unset, .unset, .unset] [(.ref b86)])) _
    refine XS.dup X112.here hx rfl (hb hby at_461) rfl rfl ?_
    show Steps p.tables e below (T112.setTop (mkF m 462 #[.val (.int p1), .val (.int p2), .val (.int p3), .val (.int kx), .val (.ref b3), .val (.ref b58), .unset, .unset, .unset, .unset, .unset] [(.ref b86), (.ref b86)])) _
    refine XS.bipush X112.here hx rfl (hb hby at_462) ?_
    show Steps p.tables e below (T112.setTop (mkF m 464 #[.val (.int p1), .val (.int p2), .val (.int p3), .val (.int kx), .val (.ref b3), .val (.ref b58), .unset, .unset, .unset, .unset, .unset] [(.int (26 : Int32)), (.ref b86), (.ref b86)])) _
    refine XS.iconst X112.here hx rfl (hb hby at_464) ?_
    show Steps p.tables e below (T112.setTop (mkF m 465 #[.val (.int p1), .val (.int p2), .val (.int p3), .val (.int kx), .val (.ref b3), .val (.ref b58), .unset, .unset, .unset, .unset, .unset] [(.int (1 : Int32)), (.int (26 : Int32)), (.ref b86), (.ref b86)])) _
    refine st113 _ ?_
    show Steps p.tables e below (T113.setTop (mkF m 466 #[.val (.int p1), .val (.int p2), .val (.int p3), .val (.int kx), .val (.ref b3), .val (.ref b58), .unset, .unset, .unset, .unset, .unset] [(.ref b86)])) _
    refine XS.astore X113.here hx rfl (hb hby at_466) rfl rfl (l' := #[.val (.int p1), .val (.int p2), .val (.int p3), .val (.int kx), .val (.ref b3), .val (.ref b58), .val (.ref b86), .unset, .unset, .unset, .unset]) rfl ?_
    show Steps p.tables e below (T113.setTop (mkF m 468 #[.val (.int p1), .val (.int p2), .val (.int p3), .val (.int kx), .val (.ref b3), .val (.ref b58), .val (.ref b86), .unset, .unset, .unset, .unset] [])) _
    refine XS.iloadN X113.here hx rfl (hb hby at_468) rfl ?_
    show Steps p.tables e below (T113.setTop (mkF m 469 #[.val (.int p1), .val (.int p2), .val (.int p3), .val (.int kx), .val (.ref b3), .val (.ref b58), .val (.ref b86), .unset, .unset, .unset, .unset] [(.int p3)])) _
    refine XS.bipush X113.here hx rfl (hb hby at_469) ?_
    show Steps p.tables e below (T113.setTop (mkF m 471 #[.val (.int p1), .val (.int p2), .val (.int p3), .val (.int kx), .val (.ref b3), .val (.ref b58), .val (.ref b86), .unset, .unset, .unset, .unset] [(.int (7 : Int32)), (.int p3)])) _
    refine XS.iand X113.here hx rfl (hb hby at_471) rfl ?_
    show Steps p.tables e below (T113.setTop (mkF m 472 #[.val (.int p1), .val (.int p2), .val (.int p3), .val (.int kx), .val (.ref b3), .val (.ref b58), .val (.ref b86), .unset, .unset, .unset, .unset] [(.int (p3 &&& (7 : Int32)))])) _
    refine XS.iconst X113.here hx rfl (hb hby at_472) ?_
    show Steps p.tables e below (T113.setTop (mkF m 473 #[.val (.int p1), .val (.int p2), .val (.int p3), .val (.int kx), .val (.ref b3), .val (.ref b58), .val (.ref b86), .unset, .unset, .unset, .unset] [(.int (2 : Int32)), (.int (p3 &&& (7 : Int32)))])) _
    refine XS.isub X113.here hx rfl (hb hby at_473) rfl ?_
    show Steps p.tables e below (T113.setTop (mkF m 474 #[.val (.int p1), .val (.int p2), .val (.int p3), .val (.int kx), .val (.ref b3), .val (.ref b58), .val (.ref b86), .unset, .unset, .unset, .unset] [(.int ((p3 &&& (7 : Int32)) - (2 : Int32)))])) _
    refine XS.istore X113.here hx rfl (hb hby at_474) rfl (l' := #[.val (.int p1), .val (.int p2), .val (.int p3), .val (.int kx), .val (.ref b3), .val (.ref b58), .val (.ref b86), .val (.int ((p3 &&& (7 : Int32)) - (2 : Int32))), .unset, .unset, .unset]) rfl ?_
    exact kt
  have AF : AL Z h113 b3 k3 (.object "com/example/cantilever/cantilever/xpath/CoreCall$Function") (fsL f0 f1 f2 f3 f4 f5 f6 f7 f8 f9 f10 f11 f12 f13 f14 f15 f16 f17 f18 f19 f20 f21 f22 f23 f24 f25 f26) := A113_b3
  have AL1 : AL Z h113 b58 k58 .int leL := A113_b58
  have AL2 : AL Z h113 b86 k86 .int moL := A113
  obtain ⟨r, lo, hi, lk, mk, hj, z1, z2, z3, ER, G1, G2, hsame⟩ := own_sel kx (by rw [hkx]; exact own_mod27 p1) (H0.keep K113) (H1.keep K113) (H2.keep K113) (H3.keep K113) (H4.keep K113) (H5.keep K113) (H6.keep K113) (H7.keep K113) (H8.keep K113) (H9.keep K113) (H10.keep K113) (H11.keep K113) (H12.keep K113) (H13.keep K113) (H14.keep K113) (H15.keep K113) (H16.keep K113) (H17.keep K113) (H18.keep K113) (H19.keep K113) (H20.keep K113) (H21.keep K113) (H22.keep K113) (H23.keep K113) (H24.keep K113) (H25.keep K113) (H26.keep K113)
  obtain ⟨cq114, kq114, q114a, q114b, q114c⟩ := isOf hZ e113 ER
  obtain ⟨_, _, ⟨T114, L114, k114, n114⟩, -, X114, ⟨Lc114, hQ114, l114, y114, z114⟩, st114⟩ := X113.virtualBack hx (y := (⟨"com/example/cantilever/cantilever/xpath/CoreCall$Function", "takes", "(I)Z"⟩ : MethodName)) (z := (⟨"com/example/cantilever/cantilever/xpath/CoreCall$Function", "takes", "(I)Z"⟩ : MethodName)) hown (mvT hZ (hw _ (List.mem_of_getElem? (i := 60) rfl))) (mvT hZ (hw _ (List.mem_of_getElem? (i := 61) rfl))) (notFace_of_selects (args := #[]) (mvT hZ (hw _ (List.mem_of_getElem? (i := 63) rfl)))) (mvT hZ (hw _ (List.mem_of_getElem? (i := 63) rfl))) (mvT hZ (hw _ (List.mem_of_getElem? (i := 62) rfl))) (by decide) (backOf (W := 0) (rm1 l Z a0 hw [] r p2 lo hi (tk p2 lo hi) h113 n0 G1 G2 rfl) hZ (hw _ (List.mem_of_getElem? (i := 64) rfl)) (hw _ (List.mem_of_getElem? (i := 4) rfl)) (by decide) (by decide)) q114a q114c (g := (mkF m 485 #[.val (.int p1), .val (.int p2), .val (.int p3), .val (.int kx), .val (.ref b3), .val (.ref b58), .val (.ref b86), .val (.int ((p3 &&& (7 : Int32)) - (2 : Int32))), .val (.ref r), .unset, .unset] [(.int p2), (.ref r)])) rfl (by rw [hml]; rfl) (Steps.refl _) (argsL := [(.int p2)]) (rest := []) (lenOf pd__I_Z rfl) rfl (by show 2 * 0 + _ ≤ _; exact Nat.le_of_eq rfl) (hb hby at_485) (fun _ _ => ⟨rfl, e113, (by decide : 3 + 0 ≤ _), (by decide : 81 + 0 ≤ _)⟩)
  dsimp only [Pt.U, Pt.locs, Pt.cells, Pt.slots] at X114 l114 y114 z114 st114 hQ114
  subst l114 y114 z114
  obtain ⟨rfl, N114q, e114⟩ := hQ114
  have N114 := Fr.app N113 N114q
  obtain ⟨_, _, ⟨T115, L115, k115, n115⟩, -, X115, ⟨Lc115, hQ115, l115, y115, z115⟩, st115⟩ := Jvm.LawKit.callS X114 hx (y := (⟨"com/example/cantilever/cantilever/xpath/CoreCallFunctionTakesPinLaw", "expected", "(II[I[I)Z"⟩ : MethodName)) hown (mvT hZ (hw _ (List.mem_of_getElem? (i := 69) rfl))) (mvT hZ (hw _ (List.mem_of_getElem? (i := 70) rfl))) (mvT hZ (hw _ (List.mem_of_getElem? (i := 71) rfl))) (mvT hZ (hw _ (List.mem_of_getElem? (i := 72) rfl))) (by decide) (backOf (W := 1) (rm2 l Z a0 hw [] kx p2 b58 b86 lk mk (tk p2 lo hi) k58 k86 leL moL h113 n0 AL1 AL2 hj z2 z3 (hsame p2).symm) hZ (hw _ (List.mem_of_getElem? (i := 72) rfl)) (hw _ (List.mem_of_getElem? (i := 71) rfl)) (by decide) (by decide)) (g := (mkF m 494 #[.val (.int p1), .val (.int p2), .val (.int p3), .val (.int kx), .val (.ref b3), .val (.ref b58), .val (.ref b86), .val (.int ((p3 &&& (7 : Int32)) - (2 : Int32))), .val (.ref r), .unset, .unset] [(.ref b86), (.ref b58), (.int p2), (.int kx), (.int (tk p2 lo hi))])) rfl (by rw [hml]; rfl) (argsL := [(.int kx), (.int p2), (.ref b58), (.ref b86)]) (rest := [(.int (tk p2 lo hi))]) (lenOf pd__II_I_I_Z rfl) rfl (by show 2 * 0 + _ ≤ _; exact Nat.le_of_eq rfl) (hb hby at_494) (fun _ _ => ⟨rfl, e114, (by decide : 3 + 0 ≤ _), (by decide : 81 + 0 ≤ _)⟩)
  dsimp only [Pt.U, Pt.locs, Pt.cells, Pt.slots] at X115 l115 y115 z115 st115 hQ115
  subst l115 y115 z115
  obtain ⟨rfl, N115q, e115⟩ := hQ115
  have N115 := Fr.app N114 N115q
  obtain ⟨cq116, kq116, q116a, q116b, q116c⟩ := isOf hZ e115 ER
  obtain ⟨_, _, ⟨T116, L116, k116, n116⟩, -, X116, ⟨Lc116, hQ116, l116, y116, z116⟩, st116⟩ := X115.virtualBack hx (y := (⟨"com/example/cantilever/cantilever/xpath/CoreCall$Function", "takes", "(I)Z"⟩ : MethodName)) (z := (⟨"com/example/cantilever/cantilever/xpath/CoreCall$Function", "takes", "(I)Z"⟩ : MethodName)) hown (mvT hZ (hw _ (List.mem_of_getElem? (i := 60) rfl))) (mvT hZ (hw _ (List.mem_of_getElem? (i := 61) rfl))) (notFace_of_selects (args := #[]) (mvT hZ (hw _ (List.mem_of_getElem? (i := 63) rfl)))) (mvT hZ (hw _ (List.mem_of_getElem? (i := 63) rfl))) (mvT hZ (hw _ (List.mem_of_getElem? (i := 62) rfl))) (by decide) (backOf (W := 0) (rm1 l Z a0 hw [] r ((p3 &&& (7 : Int32)) - (2 : Int32)) lo hi (tk ((p3 &&& (7 : Int32)) - (2 : Int32)) lo hi) h113 n0 G1 G2 rfl) hZ (hw _ (List.mem_of_getElem? (i := 64) rfl)) (hw _ (List.mem_of_getElem? (i := 4) rfl)) (by decide) (by decide)) q116a q116c (g := (mkF m 511 #[.val (.int p1), .val (.int p2), .val (.int p3), .val (.int kx), .val (.ref b3), .val (.ref b58), .val (.ref b86), .val (.int ((p3 &&& (7 : Int32)) - (2 : Int32))), .val (.ref r), .val (.int (1 : Int32)), .unset] [(.int ((p3 &&& (7 : Int32)) - (2 : Int32))), (.ref r)])) rfl (by rw [hml]; rfl) (Steps.refl _) (argsL := [(.int ((p3 &&& (7 : Int32)) - (2 : Int32)))]) (rest := []) (lenOf pd__I_Z rfl) rfl (by show 2 * 0 + _ ≤ _; exact Nat.le_of_eq rfl) (hb hby at_511) (fun _ _ => ⟨rfl, e115, (by decide : 3 + 0 ≤ _), (by decide : 81 + 0 ≤ _)⟩)
  dsimp only [Pt.U, Pt.locs, Pt.cells, Pt.slots] at X116 l116 y116 z116 st116 hQ116
  subst l116 y116 z116
  obtain ⟨rfl, N116q, e116⟩ := hQ116
  have N116 := Fr.app N115 N116q
  obtain ⟨_, _, ⟨T117, L117, k117, n117⟩, -, X117, ⟨Lc117, hQ117, l117, y117, z117⟩, st117⟩ := Jvm.LawKit.callS X116 hx (y := (⟨"com/example/cantilever/cantilever/xpath/CoreCallFunctionTakesPinLaw", "expected", "(II[I[I)Z"⟩ : MethodName)) hown (mvT hZ (hw _ (List.mem_of_getElem? (i := 69) rfl))) (mvT hZ (hw _ (List.mem_of_getElem? (i := 70) rfl))) (mvT hZ (hw _ (List.mem_of_getElem? (i := 71) rfl))) (mvT hZ (hw _ (List.mem_of_getElem? (i := 72) rfl))) (by decide) (backOf (W := 1) (rm2 l Z a0 hw [] kx ((p3 &&& (7 : Int32)) - (2 : Int32)) b58 b86 lk mk (tk ((p3 &&& (7 : Int32)) - (2 : Int32)) lo hi) k58 k86 leL moL h113 n0 AL1 AL2 hj z2 z3 (hsame ((p3 &&& (7 : Int32)) - (2 : Int32))).symm) hZ (hw _ (List.mem_of_getElem? (i := 72) rfl)) (hw _ (List.mem_of_getElem? (i := 71) rfl)) (by decide) (by decide)) (g := (mkF m 521 #[.val (.int p1), .val (.int p2), .val (.int p3), .val (.int kx), .val (.ref b3), .val (.ref b58), .val (.ref b86), .val (.int ((p3 &&& (7 : Int32)) - (2 : Int32))), .val (.ref r), .val (.int (1 : Int32)), .unset] [(.ref b86), (.ref b58), (.int ((p3 &&& (7 : Int32)) - (2 : Int32))), (.int kx), (.int (tk ((p3 &&& (7 : Int32)) - (2 : Int32)) lo hi))])) rfl (by rw [hml]; rfl) (argsL := [(.int kx), (.int ((p3 &&& (7 : Int32)) - (2 : Int32))), (.ref b58), (.ref b86)]) (rest := [(.int (tk ((p3 &&& (7 : Int32)) - (2 : Int32)) lo hi))]) (lenOf pd__II_I_I_Z rfl) rfl (by show 2 * 0 + _ ≤ _; exact Nat.le_of_eq rfl) (hb hby at_521) (fun _ _ => ⟨rfl, e116, (by decide : 3 + 0 ≤ _), (by decide : 81 + 0 ≤ _)⟩)
  dsimp only [Pt.U, Pt.locs, Pt.cells, Pt.slots] at X117 l117 y117 z117 st117 hQ117
  subst l117 y117 z117
  obtain ⟨rfl, N117q, e117⟩ := hQ117
  have N117 := Fr.app N116 N117q
  refine Run.step (T1 := T117) (g1 := (mkF m 549 #[.val (.int p1), .val (.int p2), .val (.int p3), .val (.int kx), .val (.ref b3), .val (.ref b58), .val (.ref b86), .val (.int ((p3 &&& (7 : Int32)) - (2 : Int32))), .val (.ref r), .val (.int (1 : Int32)), .val (.int (1 : Int32))] [(.int (1 : Int32))])) (fun target kt => ?_) ?_
  · show Steps p.tables e below (T113.setTop (mkF m 476 #[.val (.int p1), .val (.int p2), .val (.int p3), .val (.int kx), .val (.ref b3), .val (.ref b58), .val (.ref b86), .val (.int ((p3 &&& (7 : Int32)) - (2 : Int32))), .unset, .unset, .unset] [])) _
    refine XS.aload X113.here hx rfl (hb hby at_476) rfl rfl ?_
    show Steps p.tables e below (T113.setTop (mkF m 478 #[.val (.int p1), .val (.int p2), .val (.int p3), .val (.int kx), .val (.ref b3), .val (.ref b58), .val (.ref b86), .val (.int ((p3 &&& (7 : Int32)) - (2 : Int32))), .unset, .unset, .unset] [(.ref b3)])) _
    refine XS.iloadN X113.here hx rfl (hb hby at_478) rfl ?_
    show Steps p.tables e below (T113.setTop (mkF m 479 #[.val (.int p1), .val (.int p2), .val (.int p3), .val (.int kx), .val (.ref b3), .val (.ref b58), .val (.ref b86), .val (.int ((p3 &&& (7 : Int32)) - (2 : Int32))), .unset, .unset, .unset] [(.int kx), (.ref b3)])) _
    refine own_ldR X113 hx hZ e113 rfl AF (v := (.ref r)) hj z1 (g := (mkF m 479 #[.val (.int p1), .val (.int p2), .val (.int p3), .val (.int kx), .val (.ref b3), .val (.ref b58), .val (.ref b86), .val (.int ((p3 &&& (7 : Int32)) - (2 : Int32))), .unset, .unset, .unset] [(.int kx), (.ref b3)])) rfl rfl (hb hby at_479) _ ?_
    show Steps p.tables e below (T113.setTop (mkF m 480 #[.val (.int p1), .val (.int p2), .val (.int p3), .val (.int kx), .val (.ref b3), .val (.ref b58), .val (.ref b86), .val (.int ((p3 &&& (7 : Int32)) - (2 : Int32))), .unset, .unset, .unset] [(.ref r)])) _
    refine XS.astore X113.here hx rfl (hb hby at_480) rfl rfl (l' := #[.val (.int p1), .val (.int p2), .val (.int p3), .val (.int kx), .val (.ref b3), .val (.ref b58), .val (.ref b86), .val (.int ((p3 &&& (7 : Int32)) - (2 : Int32))), .val (.ref r), .unset, .unset]) rfl ?_
    show Steps p.tables e below (T113.setTop (mkF m 482 #[.val (.int p1), .val (.int p2), .val (.int p3), .val (.int kx), .val (.ref b3), .val (.ref b58), .val (.ref b86), .val (.int ((p3 &&& (7 : Int32)) - (2 : Int32))), .val (.ref r), .unset, .unset] [])) _
    refine XS.aload X113.here hx rfl (hb hby at_482) rfl rfl ?_
    show Steps p.tables e below (T113.setTop (mkF m 484 #[.val (.int p1), .val (.int p2), .val (.int p3), .val (.int kx), .val (.ref b3), .val (.ref b58), .val (.ref b86), .val (.int ((p3 &&& (7 : Int32)) - (2 : Int32))), .val (.ref r), .unset, .unset] [(.ref r)])) _
    refine XS.iloadN X113.here hx rfl (hb hby at_484) rfl ?_
    show Steps p.tables e below (T113.setTop (mkF m 485 #[.val (.int p1), .val (.int p2), .val (.int p3), .val (.int kx), .val (.ref b3), .val (.ref b58), .val (.ref b86), .val (.int ((p3 &&& (7 : Int32)) - (2 : Int32))), .val (.ref r), .unset, .unset] [(.int p2), (.ref r)])) _
    refine st114.trans ?_
    show Steps p.tables e below (T114.setTop (mkF m 488 #[.val (.int p1), .val (.int p2), .val (.int p3), .val (.int kx), .val (.ref b3), .val (.ref b58), .val (.ref b86), .val (.int ((p3 &&& (7 : Int32)) - (2 : Int32))), .val (.ref r), .unset, .unset] [(.int (tk p2 lo hi))])) _
    refine XS.iloadN X114.here hx rfl (hb hby at_488) rfl ?_
    show Steps p.tables e below (T114.setTop (mkF m 489 #[.val (.int p1), .val (.int p2), .val (.int p3), .val (.int kx), .val (.ref b3), .val (.ref b58), .val (.ref b86), .val (.int ((p3 &&& (7 : Int32)) - (2 : Int32))), .val (.ref r), .unset, .unset] [(.int kx), (.int (tk p2 lo hi))])) _
    refine XS.iloadN X114.here hx rfl (hb hby at_489) rfl ?_
    show Steps p.tables e below (T114.setTop (mkF m 490 #[.val (.int p1), .val (.int p2), .val (.int p3), .val (.int kx), .val (.ref b3), .val (.ref b58), .val (.ref b86), .val (.int ((p3 &&& (7 : Int32)) - (2 : Int32))), .val (.ref r), .unset, .unset] [(.int p2), (.int kx), (.int (tk p2 lo hi))])) _
    refine XS.aload X114.here hx rfl (hb hby at_490) rfl rfl ?_
    show Steps p.tables e below (T114.setTop (mkF m 492 #[.val (.int p1), .val (.int p2), .val (.int p3), .val (.int kx), .val (.ref b3), .val (.ref b58), .val (.ref b86), .val (.int ((p3 &&& (7 : Int32)) - (2 : Int32))), .val (.ref r), .unset, .unset] [(.ref b58), (.int p2), (.int kx), (.int (tk p2 lo hi))])) _
    refine XS.aload X114.here hx rfl (hb hby at_492) rfl rfl ?_
    show Steps p.tables e below (T114.setTop (mkF m 494 #[.val (.int p1), .val (.int p2), .val (.int p3), .val (.int kx), .val (.ref b3), .val (.ref b58), .val (.ref b86), .val (.int ((p3 &&& (7 : Int32)) - (2 : Int32))), .val (.ref r), .unset, .unset] [(.ref b86), (.ref b58), (.int p2), (.int kx), (.int (tk p2 lo hi))])) _
    refine st115 _ ?_
    show Steps p.tables e below (T115.setTop (mkF m 497 #[.val (.int p1), .val (.int p2), .val (.int p3), .val (.int kx), .val (.ref b3), .val (.ref b58), .val (.ref b86), .val (.int ((p3 &&& (7 : Int32)) - (2 : Int32))), .val (.ref r), .unset, .unset] [(.int (tk p2 lo hi)), (.int (tk p2 lo hi))])) _
    refine XS.icmpNo X115.here hx rfl (hb hby at_497) rfl (teq (rfl : (tk p2 lo hi) = (tk p2 lo hi))).2 ?_
    show Steps p.tables e below (T115.setTop (mkF m 500 #[.val (.int p1), .val (.int p2), .val (.int p3), .val (.int kx), .val (.ref b3), .val (.ref b58), .val (.ref b86), .val (.int ((p3 &&& (7 : Int32)) - (2 : Int32))), .val (.ref r), .unset, .unset] [])) _
    refine XS.iconst X115.here hx rfl (hb hby at_500) ?_
    show Steps p.tables e below (T115.setTop (mkF m 501 #[.val (.int p1), .val (.int p2), .val (.int p3), .val (.int kx), .val (.ref b3), .val (.ref b58), .val (.ref b86), .val (.int ((p3 &&& (7 : Int32)) - (2 : Int32))), .val (.ref r), .unset, .unset] [(.int (1 : Int32))])) _
    refine XS.goto X115.here hx rfl (pc0 := 501) (pc' := 505) rfl (hb hby at_501) (by decide) (by decide) ?_
    show Steps p.tables e below (T115.setTop (mkF m 505 #[.val (.int p1), .val (.int p2), .val (.int p3), .val (.int kx), .val (.ref b3), .val (.ref b58), .val (.ref b86), .val (.int ((p3 &&& (7 : Int32)) - (2 : Int32))), .val (.ref r), .unset, .unset] [(.int (1 : Int32))])) _
    refine XS.istore X115.here hx rfl (hb hby at_505) rfl (l' := #[.val (.int p1), .val (.int p2), .val (.int p3), .val (.int kx), .val (.ref b3), .val (.ref b58), .val (.ref b86), .val (.int ((p3 &&& (7 : Int32)) - (2 : Int32))), .val (.ref r), .val (.int (1 : Int32)), .unset]) rfl ?_
    show Steps p.tables e below (T115.setTop (mkF m 507 #[.val (.int p1), .val (.int p2), .val (.int p3), .val (.int kx), .val (.ref b3), .val (.ref b58), .val (.ref b86), .val (.int ((p3 &&& (7 : Int32)) - (2 : Int32))), .val (.ref r), .val (.int (1 : Int32)), .unset] [])) _
    refine XS.aload X115.here hx rfl (hb hby at_507) rfl rfl ?_
    show Steps p.tables e below (T115.setTop (mkF m 509 #[.val (.int p1), .val (.int p2), .val (.int p3), .val (.int kx), .val (.ref b3), .val (.ref b58), .val (.ref b86), .val (.int ((p3 &&& (7 : Int32)) - (2 : Int32))), .val (.ref r), .val (.int (1 : Int32)), .unset] [(.ref r)])) _
    refine XS.iload X115.here hx rfl (hb hby at_509) rfl ?_
    show Steps p.tables e below (T115.setTop (mkF m 511 #[.val (.int p1), .val (.int p2), .val (.int p3), .val (.int kx), .val (.ref b3), .val (.ref b58), .val (.ref b86), .val (.int ((p3 &&& (7 : Int32)) - (2 : Int32))), .val (.ref r), .val (.int (1 : Int32)), .unset] [(.int ((p3 &&& (7 : Int32)) - (2 : Int32))), (.ref r)])) _
    refine st116.trans ?_
    show Steps p.tables e below (T116.setTop (mkF m 514 #[.val (.int p1), .val (.int p2), .val (.int p3), .val (.int kx), .val (.ref b3), .val (.ref b58), .val (.ref b86), .val (.int ((p3 &&& (7 : Int32)) - (2 : Int32))), .val (.ref r), .val (.int (1 : Int32)), .unset] [(.int (tk ((p3 &&& (7 : Int32)) - (2 : Int32)) lo hi))])) _
    refine XS.iloadN X116.here hx rfl (hb hby at_514) rfl ?_
    show Steps p.tables e below (T116.setTop (mkF m 515 #[.val (.int p1), .val (.int p2), .val (.int p3), .val (.int kx), .val (.ref b3), .val (.ref b58), .val (.ref b86), .val (.int ((p3 &&& (7 : Int32)) - (2 : Int32))), .val (.ref r), .val (.int (1 : Int32)), .unset] [(.int kx), (.int (tk ((p3 &&& (7 : Int32)) - (2 : Int32)) lo hi))])) _
    refine XS.iload X116.here hx rfl (hb hby at_515) rfl ?_
    show Steps p.tables e below (T116.setTop (mkF m 517 #[.val (.int p1), .val (.int p2), .val (.int p3), .val (.int kx), .val (.ref b3), .val (.ref b58), .val (.ref b86), .val (.int ((p3 &&& (7 : Int32)) - (2 : Int32))), .val (.ref r), .val (.int (1 : Int32)), .unset] [(.int ((p3 &&& (7 : Int32)) - (2 : Int32))), (.int kx), (.int (tk ((p3 &&& (7 : Int32)) - (2 : Int32)) lo hi))])) _
    refine XS.aload X116.here hx rfl (hb hby at_517) rfl rfl ?_
    show Steps p.tables e below (T116.setTop (mkF m 519 #[.val (.int p1), .val (.int p2), .val (.int p3), .val (.int kx), .val (.ref b3), .val (.ref b58), .val (.ref b86), .val (.int ((p3 &&& (7 : Int32)) - (2 : Int32))), .val (.ref r), .val (.int (1 : Int32)), .unset] [(.ref b58), (.int ((p3 &&& (7 : Int32)) - (2 : Int32))), (.int kx), (.int (tk ((p3 &&& (7 : Int32)) - (2 : Int32)) lo hi))])) _
    refine XS.aload X116.here hx rfl (hb hby at_519) rfl rfl ?_
    show Steps p.tables e below (T116.setTop (mkF m 521 #[.val (.int p1), .val (.int p2), .val (.int p3), .val (.int kx), .val (.ref b3), .val (.ref b58), .val (.ref b86), .val (.int ((p3 &&& (7 : Int32)) - (2 : Int32))), .val (.ref r), .val (.int (1 : Int32)), .unset] [(.ref b86), (.ref b58), (.int ((p3 &&& (7 : Int32)) - (2 : Int32))), (.int kx), (.int (tk ((p3 &&& (7 : Int32)) - (2 : Int32)) lo hi))])) _
    refine st117 _ ?_
    show Steps p.tables e below (T117.setTop (mkF m 524 #[.val (.int p1), .val (.int p2), .val (.int p3), .val (.int kx), .val (.ref b3), .val (.ref b58), .val (.ref b86), .val (.int ((p3 &&& (7 : Int32)) - (2 : Int32))), .val (.ref r), .val (.int (1 : Int32)), .unset] [(.int (tk ((p3 &&& (7 : Int32)) - (2 : Int32)) lo hi)), (.int (tk ((p3 &&& (7 : Int32)) - (2 : Int32)) lo hi))])) _
    refine XS.icmpNo X117.here hx rfl (hb hby at_524) rfl (teq (rfl : (tk ((p3 &&& (7 : Int32)) - (2 : Int32)) lo hi) = (tk ((p3 &&& (7 : Int32)) - (2 : Int32)) lo hi))).2 ?_
    show Steps p.tables e below (T117.setTop (mkF m 527 #[.val (.int p1), .val (.int p2), .val (.int p3), .val (.int kx), .val (.ref b3), .val (.ref b58), .val (.ref b86), .val (.int ((p3 &&& (7 : Int32)) - (2 : Int32))), .val (.ref r), .val (.int (1 : Int32)), .unset] [])) _
    refine XS.iconst X117.here hx rfl (hb hby at_527) ?_
    show Steps p.tables e below (T117.setTop (mkF m 528 #[.val (.int p1), .val (.int p2), .val (.int p3), .val (.int kx), .val (.ref b3), .val (.ref b58), .val (.ref b86), .val (.int ((p3 &&& (7 : Int32)) - (2 : Int32))), .val (.ref r), .val (.int (1 : Int32)), .unset] [(.int (1 : Int32))])) _
    refine XS.goto X117.here hx rfl (pc0 := 528) (pc' := 532) rfl (hb hby at_528) (by decide) (by decide) ?_
    show Steps p.tables e below (T117.setTop (mkF m 532 #[.val (.int p1), .val (.int p2), .val (.int p3), .val (.int kx), .val (.ref b3), .val (.ref b58), .val (.ref b86), .val (.int ((p3 &&& (7 : Int32)) - (2 : Int32))), .val (.ref r), .val (.int (1 : Int32)), .unset] [(.int (1 : Int32))])) _
    refine XS.istore X117.here hx rfl (hb hby at_532) rfl (l' := #[.val (.int p1), .val (.int p2), .val (.int p3), .val (.int kx), .val (.ref b3), .val (.ref b58), .val (.ref b86), .val (.int ((p3 &&& (7 : Int32)) - (2 : Int32))), .val (.ref r), .val (.int (1 : Int32)), .val (.int (1 : Int32))]) rfl ?_
    show Steps p.tables e below (T117.setTop (mkF m 534 #[.val (.int p1), .val (.int p2), .val (.int p3), .val (.int kx), .val (.ref b3), .val (.ref b58), .val (.ref b86), .val (.int ((p3 &&& (7 : Int32)) - (2 : Int32))), .val (.ref r), .val (.int (1 : Int32)), .val (.int (1 : Int32))] [])) _
    refine XS.iload X117.here hx rfl (hb hby at_534) rfl ?_
    show Steps p.tables e below (T117.setTop (mkF m 536 #[.val (.int p1), .val (.int p2), .val (.int p3), .val (.int kx), .val (.ref b3), .val (.ref b58), .val (.ref b86), .val (.int ((p3 &&& (7 : Int32)) - (2 : Int32))), .val (.ref r), .val (.int (1 : Int32)), .val (.int (1 : Int32))] [(.int (1 : Int32))])) _
    refine XS.ifNo X117.here hx rfl (hb hby at_536) rfl ((if0 _ _).trans (feq (by decide : ¬ ((1 : Int32) = (0 : Int32)))).1) ?_
    show Steps p.tables e below (T117.setTop (mkF m 539 #[.val (.int p1), .val (.int p2), .val (.int p3), .val (.int kx), .val (.ref b3), .val (.ref b58), .val (.ref b86), .val (.int ((p3 &&& (7 : Int32)) - (2 : Int32))), .val (.ref r), .val (.int (1 : Int32)), .val (.int (1 : Int32))] [])) _
    refine XS.iload X117.here hx rfl (hb hby at_539) rfl ?_
    show Steps p.tables e below (T117.setTop (mkF m 541 #[.val (.int p1), .val (.int p2), .val (.int p3), .val (.int kx), .val (.ref b3), .val (.ref b58), .val (.ref b86), .val (.int ((p3 &&& (7 : Int32)) - (2 : Int32))), .val (.ref r), .val (.int (1 : Int32)), .val (.int (1 : Int32))] [(.int (1 : Int32))])) _
    refine XS.ifNo X117.here hx rfl (hb hby at_541) rfl ((if0 _ _).trans (feq (by decide : ¬ ((1 : Int32) = (0 : Int32)))).1) ?_
    show Steps p.tables e below (T117.setTop (mkF m 544 #[.val (.int p1), .val (.int p2), .val (.int p3), .val (.int kx), .val (.ref b3), .val (.ref b58), .val (.ref b86), .val (.int ((p3 &&& (7 : Int32)) - (2 : Int32))), .val (.ref r), .val (.int (1 : Int32)), .val (.int (1 : Int32))] [])) _
    refine XS.iconst X117.here hx rfl (hb hby at_544) ?_
    show Steps p.tables e below (T117.setTop (mkF m 545 #[.val (.int p1), .val (.int p2), .val (.int p3), .val (.int kx), .val (.ref b3), .val (.ref b58), .val (.ref b86), .val (.int ((p3 &&& (7 : Int32)) - (2 : Int32))), .val (.ref r), .val (.int (1 : Int32)), .val (.int (1 : Int32))] [(.int (1 : Int32))])) _
    refine XS.goto X117.here hx rfl (pc0 := 545) (pc' := 549) rfl (hb hby at_545) (by decide) (by decide) ?_
    exact kt
  exact Run.retZ X117 hx (t := .boolean) hret (by simp) (hb hby at_549) ⟨by decide, by decide, rfl, N117⟩
theorem own_eq_int {t : Term} {k : Int32} {args : Array Value} {s : State} (h : (Jvm.Cond.eq t (.int k)).value args s none s [] = some true) : t.eval args s none [] s = some (.int k) := by
  have hk : (Term.int k).eval args s none [] s = some (.int k) := rfl
  simp only [Cond.value, hk] at h
  cases ht : t.eval args s none [] s with
  | none => simp [ht] at h
  | some v => cases v <;> simp_all
set_option maxRecDepth 65536 in
set_option maxHeartbeats 40000000 in
theorem comes_1 {Post : Tables → Env → Array Value → State → Outcome → State → Prop} (hpost : ∀ tb e args s v u, (limb_1_1.after args s (.returned v) u = true ∧ limb_1_2.after args s (.returned v) u = true ∧ True) → FrameEnd s (.returned v) u (Jvm.fieldLocs frame_1_writes args s ++ Jvm.arrayLocs frame_1_arrays args s ++ Jvm.staticLocs frame_1_statics s) 16 256 → Post tb e args s (.returned v) u) :
    ArmFor flags0 classFile x code maxLocals ret World_1 tables_1 room_1 Calls_1 rest_1 Pre_1 Post := by
  intro l hfl _ _ p e ha hc hk s m args below hf hA hF happ hP
  obtain ⟨hcalls, hrest, hpre⟩ := hP
  obtain ⟨-, -, -, hnamed, -, -, -, hat⟩ := (Spec.applies_iff hf).mp happ
  obtain ⟨hg, hn⟩ := and_e (Cond.before_iff.mp (show (Jvm.Cond.and given_1 narrow_1).before args s = true from hpre))
  obtain ⟨g1, g2⟩ := and_e hg
  obtain ⟨g3, g4⟩ := and_e g2
  obtain ⟨g5, g6⟩ := and_e g4
  obtain ⟨w0, w1, w2, rfl⟩ : ∃ w0 w1 w2 : Value, args = #[w0, w1, w2] := by
    have hs : args.size = 3 := by simpa [Cond.value, given_1] using g1
    obtain ⟨L⟩ := args
    match L, hs with
    | [w0, w1, w2], _ => exact ⟨w0, w1, w2, rfl⟩
  have hw := fun d (hd : d ∈ tables_1) => atoms_spec (ws := Jvm.Cond.code x code maxLocals ret :: tables_1) hat d (List.mem_cons_of_mem _ hd)
  obtain ⟨i0, ei0⟩ := is_v g3
  obtain rfl : w0 = (.int i0) := Option.some.inj ei0
  obtain ⟨i1, ei1⟩ := is_v g5
  obtain rfl : w1 = (.int i1) := Option.some.inj ei1
  obtain ⟨i2, ei2⟩ := is_v g6
  obtain rfl : w2 = (.int i2) := Option.some.inj ei2
  obtain ⟨c0, r0⟩ := and_e hn
  obtain ⟨c1, r1⟩ := and_e r0
  obtain ⟨c2, r2⟩ := and_e r1
  obtain ⟨c3, r3⟩ := and_e r2
  obtain ⟨c4, r4⟩ := and_e r3
  obtain ⟨c5, r5⟩ := and_e r4
  obtain ⟨c6, r6⟩ := and_e r5
  obtain ⟨c7, r7⟩ := and_e r6
  obtain ⟨c8, r8⟩ := and_e r7
  obtain ⟨c9, r9⟩ := and_e r8
  obtain ⟨c10, r10⟩ := and_e r9
  obtain ⟨c11, r11⟩ := and_e r10
  obtain ⟨c12, r12⟩ := and_e r11
  obtain ⟨c13, r13⟩ := and_e r12
  obtain ⟨c14, r14⟩ := and_e r13
  obtain ⟨c15, r15⟩ := and_e r14
  obtain ⟨c16, r16⟩ := and_e r15
  obtain ⟨c17, r17⟩ := and_e r16
  obtain ⟨c18, r18⟩ := and_e r17
  obtain ⟨c19, r19⟩ := and_e r18
  obtain ⟨c20, r20⟩ := and_e r19
  obtain ⟨c21, r21⟩ := and_e r20
  obtain ⟨c22, r22⟩ := and_e r21
  obtain ⟨c23, r23⟩ := and_e r22
  obtain ⟨c24, r24⟩ := and_e r23
  obtain ⟨c25, r25⟩ := and_e r24
  obtain ⟨c26, r26⟩ := and_e r25
  obtain ⟨c27, r27⟩ := and_e r26
  obtain ⟨c28, r28⟩ := and_e r27
  obtain ⟨c29, r29⟩ := and_e r28
  obtain ⟨c30, r30⟩ := and_e r29
  obtain ⟨c31, r31⟩ := and_e r30
  obtain ⟨c32, r32⟩ := and_e r31
  obtain ⟨c33, r33⟩ := and_e r32
  obtain ⟨c34, r34⟩ := and_e r33
  obtain ⟨c35, r35⟩ := and_e r34
  obtain ⟨c36, r36⟩ := and_e r35
  obtain ⟨c37, r37⟩ := and_e r36
  obtain ⟨c38, r38⟩ := and_e r37
  obtain ⟨c39, r39⟩ := and_e r38
  obtain ⟨c40, r40⟩ := and_e r39
  obtain ⟨c41, r41⟩ := and_e r40
  obtain ⟨c42, r42⟩ := and_e r41
  obtain ⟨c43, r43⟩ := and_e r42
  obtain ⟨c44, r44⟩ := and_e r43
  obtain ⟨c45, r45⟩ := and_e r44
  obtain ⟨c46, r46⟩ := and_e r45
  obtain ⟨c47, r47⟩ := and_e r46
  obtain ⟨c48, r48⟩ := and_e r47
  obtain ⟨c49, r49⟩ := and_e r48
  obtain ⟨c50, r50⟩ := and_e r49
  obtain ⟨c51, r51⟩ := and_e r50
  obtain ⟨c52, r52⟩ := and_e r51
  obtain ⟨c53, r53⟩ := and_e r52
  obtain ⟨c54, r54⟩ := and_e r53
  obtain ⟨c55, r55⟩ := and_e r54
  obtain ⟨c56, r56⟩ := and_e r55
  obtain ⟨c57, r57⟩ := and_e r56
  obtain ⟨c58, r58⟩ := and_e r57
  obtain ⟨c59, r59⟩ := and_e r58
  obtain ⟨c60, r60⟩ := and_e r59
  obtain ⟨c61, r61⟩ := and_e r60
  obtain ⟨c62, r62⟩ := and_e r61
  obtain ⟨c63, r63⟩ := and_e r62
  obtain ⟨c64, r64⟩ := and_e r63
  obtain ⟨c65, r65⟩ := and_e r64
  obtain ⟨c66, r66⟩ := and_e r65
  obtain ⟨c67, r67⟩ := and_e r66
  obtain ⟨c68, r68⟩ := and_e r67
  obtain ⟨c69, r69⟩ := and_e r68
  obtain ⟨c70, r70⟩ := and_e r69
  obtain ⟨c71, r71⟩ := and_e r70
  obtain ⟨c72, r72⟩ := and_e r71
  obtain ⟨c73, r73⟩ := and_e r72
  obtain ⟨c74, r74⟩ := and_e r73
  obtain ⟨c75, r75⟩ := and_e r74
  obtain ⟨c76, r76⟩ := and_e r75
  obtain ⟨c77, r77⟩ := and_e r76
  obtain ⟨c78, r78⟩ := and_e r77
  obtain ⟨c79, r79⟩ := and_e r78
  have c80 := r79
  obtain ⟨f0, ev0⟩ := exa_v c0
  have E0 := Exa.start ev0 c0
  have S0 := Sta.start ev0 (Or.inr ⟨(hw _ (List.mem_of_getElem? (i := 4) rfl)), (hw _ (List.mem_of_getElem? (i := 5) rfl))⟩)
  obtain ⟨f1, ev1⟩ := exa_v c1
  have E1 := Exa.start ev1 c1
  have S1 := Sta.start ev1 (Or.inr ⟨(hw _ (List.mem_of_getElem? (i := 4) rfl)), (hw _ (List.mem_of_getElem? (i := 8) rfl))⟩)
  obtain ⟨f2, ev2⟩ := exa_v c2
  have E2 := Exa.start ev2 c2
  have S2 := Sta.start ev2 (Or.inr ⟨(hw _ (List.mem_of_getElem? (i := 4) rfl)), (hw _ (List.mem_of_getElem? (i := 10) rfl))⟩)
  obtain ⟨f3, ev3⟩ := exa_v c3
  have E3 := Exa.start ev3 c3
  have S3 := Sta.start ev3 (Or.inr ⟨(hw _ (List.mem_of_getElem? (i := 4) rfl)), (hw _ (List.mem_of_getElem? (i := 12) rfl))⟩)
  obtain ⟨f4, ev4⟩ := exa_v c4
  have E4 := Exa.start ev4 c4
  have S4 := Sta.start ev4 (Or.inr ⟨(hw _ (List.mem_of_getElem? (i := 4) rfl)), (hw _ (List.mem_of_getElem? (i := 14) rfl))⟩)
  obtain ⟨f5, ev5⟩ := exa_v c5
  have E5 := Exa.start ev5 c5
  have S5 := Sta.start ev5 (Or.inr ⟨(hw _ (List.mem_of_getElem? (i := 4) rfl)), (hw _ (List.mem_of_getElem? (i := 16) rfl))⟩)
  obtain ⟨f6, ev6⟩ := exa_v c6
  have E6 := Exa.start ev6 c6
  have S6 := Sta.start ev6 (Or.inr ⟨(hw _ (List.mem_of_getElem? (i := 4) rfl)), (hw _ (List.mem_of_getElem? (i := 18) rfl))⟩)
  obtain ⟨f7, ev7⟩ := exa_v c7
  have E7 := Exa.start ev7 c7
  have S7 := Sta.start ev7 (Or.inr ⟨(hw _ (List.mem_of_getElem? (i := 4) rfl)), (hw _ (List.mem_of_getElem? (i := 20) rfl))⟩)
  obtain ⟨f8, ev8⟩ := exa_v c8
  have E8 := Exa.start ev8 c8
  have S8 := Sta.start ev8 (Or.inr ⟨(hw _ (List.mem_of_getElem? (i := 4) rfl)), (hw _ (List.mem_of_getElem? (i := 22) rfl))⟩)
  obtain ⟨f9, ev9⟩ := exa_v c9
  have E9 := Exa.start ev9 c9
  have S9 := Sta.start ev9 (Or.inr ⟨(hw _ (List.mem_of_getElem? (i := 4) rfl)), (hw _ (List.mem_of_getElem? (i := 24) rfl))⟩)
  obtain ⟨f10, ev10⟩ := exa_v c10
  have E10 := Exa.start ev10 c10
  have S10 := Sta.start ev10 (Or.inr ⟨(hw _ (List.mem_of_getElem? (i := 4) rfl)), (hw _ (List.mem_of_getElem? (i := 26) rfl))⟩)
  obtain ⟨f11, ev11⟩ := exa_v c11
  have E11 := Exa.start ev11 c11
  have S11 := Sta.start ev11 (Or.inr ⟨(hw _ (List.mem_of_getElem? (i := 4) rfl)), (hw _ (List.mem_of_getElem? (i := 28) rfl))⟩)
  obtain ⟨f12, ev12⟩ := exa_v c12
  have E12 := Exa.start ev12 c12
  have S12 := Sta.start ev12 (Or.inr ⟨(hw _ (List.mem_of_getElem? (i := 4) rfl)), (hw _ (List.mem_of_getElem? (i := 30) rfl))⟩)
  obtain ⟨f13, ev13⟩ := exa_v c13
  have E13 := Exa.start ev13 c13
  have S13 := Sta.start ev13 (Or.inr ⟨(hw _ (List.mem_of_getElem? (i := 4) rfl)), (hw _ (List.mem_of_getElem? (i := 32) rfl))⟩)
  obtain ⟨f14, ev14⟩ := exa_v c14
  have E14 := Exa.start ev14 c14
  have S14 := Sta.start ev14 (Or.inr ⟨(hw _ (List.mem_of_getElem? (i := 4) rfl)), (hw _ (List.mem_of_getElem? (i := 34) rfl))⟩)
  obtain ⟨f15, ev15⟩ := exa_v c15
  have E15 := Exa.start ev15 c15
  have S15 := Sta.start ev15 (Or.inr ⟨(hw _ (List.mem_of_getElem? (i := 4) rfl)), (hw _ (List.mem_of_getElem? (i := 36) rfl))⟩)
  obtain ⟨f16, ev16⟩ := exa_v c16
  have E16 := Exa.start ev16 c16
  have S16 := Sta.start ev16 (Or.inr ⟨(hw _ (List.mem_of_getElem? (i := 4) rfl)), (hw _ (List.mem_of_getElem? (i := 38) rfl))⟩)
  obtain ⟨f17, ev17⟩ := exa_v c17
  have E17 := Exa.start ev17 c17
  have S17 := Sta.start ev17 (Or.inr ⟨(hw _ (List.mem_of_getElem? (i := 4) rfl)), (hw _ (List.mem_of_getElem? (i := 40) rfl))⟩)
  obtain ⟨f18, ev18⟩ := exa_v c18
  have E18 := Exa.start ev18 c18
  have S18 := Sta.start ev18 (Or.inr ⟨(hw _ (List.mem_of_getElem? (i := 4) rfl)), (hw _ (List.mem_of_getElem? (i := 42) rfl))⟩)
  obtain ⟨f19, ev19⟩ := exa_v c19
  have E19 := Exa.start ev19 c19
  have S19 := Sta.start ev19 (Or.inr ⟨(hw _ (List.mem_of_getElem? (i := 4) rfl)), (hw _ (List.mem_of_getElem? (i := 44) rfl))⟩)
  obtain ⟨f20, ev20⟩ := exa_v c20
  have E20 := Exa.start ev20 c20
  have S20 := Sta.start ev20 (Or.inr ⟨(hw _ (List.mem_of_getElem? (i := 4) rfl)), (hw _ (List.mem_of_getElem? (i := 46) rfl))⟩)
  obtain ⟨f21, ev21⟩ := exa_v c21
  have E21 := Exa.start ev21 c21
  have S21 := Sta.start ev21 (Or.inr ⟨(hw _ (List.mem_of_getElem? (i := 4) rfl)), (hw _ (List.mem_of_getElem? (i := 48) rfl))⟩)
  obtain ⟨f22, ev22⟩ := exa_v c22
  have E22 := Exa.start ev22 c22
  have S22 := Sta.start ev22 (Or.inr ⟨(hw _ (List.mem_of_getElem? (i := 4) rfl)), (hw _ (List.mem_of_getElem? (i := 50) rfl))⟩)
  obtain ⟨f23, ev23⟩ := exa_v c23
  have E23 := Exa.start ev23 c23
  have S23 := Sta.start ev23 (Or.inr ⟨(hw _ (List.mem_of_getElem? (i := 4) rfl)), (hw _ (List.mem_of_getElem? (i := 52) rfl))⟩)
  obtain ⟨f24, ev24⟩ := exa_v c24
  have E24 := Exa.start ev24 c24
  have S24 := Sta.start ev24 (Or.inr ⟨(hw _ (List.mem_of_getElem? (i := 4) rfl)), (hw _ (List.mem_of_getElem? (i := 54) rfl))⟩)
  obtain ⟨f25, ev25⟩ := exa_v c25
  have E25 := Exa.start ev25 c25
  have S25 := Sta.start ev25 (Or.inr ⟨(hw _ (List.mem_of_getElem? (i := 4) rfl)), (hw _ (List.mem_of_getElem? (i := 56) rfl))⟩)
  obtain ⟨f26, ev26⟩ := exa_v c26
  have E26 := Exa.start ev26 c26
  have S26 := Sta.start ev26 (Or.inr ⟨(hw _ (List.mem_of_getElem? (i := 4) rfl)), (hw _ (List.mem_of_getElem? (i := 58) rfl))⟩)
  have P0 := Fld.start ((fld_at ev0).symm.trans (own_eq_int c27))
  have M0 := Fld.start ((fld_at ev0).symm.trans (own_eq_int c28))
  have P1 := Fld.start ((fld_at ev1).symm.trans (own_eq_int c29))
  have M1 := Fld.start ((fld_at ev1).symm.trans (own_eq_int c30))
  have P2 := Fld.start ((fld_at ev2).symm.trans (own_eq_int c31))
  have M2 := Fld.start ((fld_at ev2).symm.trans (own_eq_int c32))
  have P8 := Fld.start ((fld_at ev8).symm.trans (own_eq_int c33))
  have M8 := Fld.start ((fld_at ev8).symm.trans (own_eq_int c34))
  have P24 := Fld.start ((fld_at ev24).symm.trans (own_eq_int c35))
  have M24 := Fld.start ((fld_at ev24).symm.trans (own_eq_int c36))
  have P7 := Fld.start ((fld_at ev7).symm.trans (own_eq_int c37))
  have M7 := Fld.start ((fld_at ev7).symm.trans (own_eq_int c38))
  have P3 := Fld.start ((fld_at ev3).symm.trans (own_eq_int c39))
  have M3 := Fld.start ((fld_at ev3).symm.trans (own_eq_int c40))
  have P10 := Fld.start ((fld_at ev10).symm.trans (own_eq_int c41))
  have M10 := Fld.start ((fld_at ev10).symm.trans (own_eq_int c42))
  have P16 := Fld.start ((fld_at ev16).symm.trans (own_eq_int c43))
  have M16 := Fld.start ((fld_at ev16).symm.trans (own_eq_int c44))
  have P17 := Fld.start ((fld_at ev17).symm.trans (own_eq_int c45))
  have M17 := Fld.start ((fld_at ev17).symm.trans (own_eq_int c46))
  have P19 := Fld.start ((fld_at ev19).symm.trans (own_eq_int c47))
  have M19 := Fld.start ((fld_at ev19).symm.trans (own_eq_int c48))
  have P11 := Fld.start ((fld_at ev11).symm.trans (own_eq_int c49))
  have M11 := Fld.start ((fld_at ev11).symm.trans (own_eq_int c50))
  have P25 := Fld.start ((fld_at ev25).symm.trans (own_eq_int c51))
  have M25 := Fld.start ((fld_at ev25).symm.trans (own_eq_int c52))
  have P13 := Fld.start ((fld_at ev13).symm.trans (own_eq_int c53))
  have M13 := Fld.start ((fld_at ev13).symm.trans (own_eq_int c54))
  have P18 := Fld.start ((fld_at ev18).symm.trans (own_eq_int c55))
  have M18 := Fld.start ((fld_at ev18).symm.trans (own_eq_int c56))
  have P6 := Fld.start ((fld_at ev6).symm.trans (own_eq_int c57))
  have M6 := Fld.start ((fld_at ev6).symm.trans (own_eq_int c58))
  have P5 := Fld.start ((fld_at ev5).symm.trans (own_eq_int c59))
  have M5 := Fld.start ((fld_at ev5).symm.trans (own_eq_int c60))
  have P14 := Fld.start ((fld_at ev14).symm.trans (own_eq_int c61))
  have M14 := Fld.start ((fld_at ev14).symm.trans (own_eq_int c62))
  have P20 := Fld.start ((fld_at ev20).symm.trans (own_eq_int c63))
  have M20 := Fld.start ((fld_at ev20).symm.trans (own_eq_int c64))
  have P26 := Fld.start ((fld_at ev26).symm.trans (own_eq_int c65))
  have M26 := Fld.start ((fld_at ev26).symm.trans (own_eq_int c66))
  have P9 := Fld.start ((fld_at ev9).symm.trans (own_eq_int c67))
  have M9 := Fld.start ((fld_at ev9).symm.trans (own_eq_int c68))
  have P4 := Fld.start ((fld_at ev4).symm.trans (own_eq_int c69))
  have M4 := Fld.start ((fld_at ev4).symm.trans (own_eq_int c70))
  have P12 := Fld.start ((fld_at ev12).symm.trans (own_eq_int c71))
  have M12 := Fld.start ((fld_at ev12).symm.trans (own_eq_int c72))
  have P21 := Fld.start ((fld_at ev21).symm.trans (own_eq_int c73))
  have M21 := Fld.start ((fld_at ev21).symm.trans (own_eq_int c74))
  have P23 := Fld.start ((fld_at ev23).symm.trans (own_eq_int c75))
  have M23 := Fld.start ((fld_at ev23).symm.trans (own_eq_int c76))
  have P22 := Fld.start ((fld_at ev22).symm.trans (own_eq_int c77))
  have M22 := Fld.start ((fld_at ev22).symm.trans (own_eq_int c78))
  have P15 := Fld.start ((fld_at ev15).symm.trans (own_eq_int c79))
  have M15 := Fld.start ((fld_at ev15).symm.trans (own_eq_int c80))
  obtain ⟨n, o, h1, h2, h3, _, L, rfl, ⟨rfl, N⟩, hq⟩ := rm0 l s _ hw tables_1 i0 i1 i2 f0 f1 f2 f3 f4 f5 f6 f7 f8 f9 f10 f11 f12 f13 f14 f15 f16 f17 f18 f19 f20 f21 f22 f23 f24 f25 f26 s.heap s.heap.size (Nat.le_refl _) ⟨S0, E0, P0, M0⟩ ⟨S1, E1, P1, M1⟩ ⟨S2, E2, P2, M2⟩ ⟨S3, E3, P3, M3⟩ ⟨S4, E4, P4, M4⟩ ⟨S5, E5, P5, M5⟩ ⟨S6, E6, P6, M6⟩ ⟨S7, E7, P7, M7⟩ ⟨S8, E8, P8, M8⟩ ⟨S9, E9, P9, M9⟩ ⟨S10, E10, P10, M10⟩ ⟨S11, E11, P11, M11⟩ ⟨S12, E12, P12, M12⟩ ⟨S13, E13, P13, M13⟩ ⟨S14, E14, P14, M14⟩ ⟨S15, E15, P15, M15⟩ ⟨S16, E16, P16, M16⟩ ⟨S17, E17, P17, M17⟩ ⟨S18, E18, P18, M18⟩ ⟨S19, E19, P19, M19⟩ ⟨S20, E20, P20, M20⟩ ⟨S21, E21, P21, M21⟩ ⟨S22, E22, P22, M22⟩ ⟨S23, E23, P23, M23⟩ ⟨S24, E24, P24, M24⟩ ⟨S25, E25, P25, M25⟩ ⟨S26, E26, P26, M26⟩ p e ha hc hk s m _ below hf ((Spec.applies_iff_loose hf).mp happ).1 ⟨rfl, State.Warmed39.refl s, rfl⟩ trivial
  refine ⟨n, _, h1, h2, h3, hpost _ _ _ _ _ _ ⟨Cond.after_iff.mpr rfl, Cond.after_iff.mpr (eq_i res_at (Term.int_eval (1)) rfl), trivial⟩ ⟨hq.1, hq.2.1, (hq.2.2.sift fun y hy => Or.inr (N y hy)).mono (by decide) (by decide)⟩⟩
theorem main_1_1 : Claimed_1_1 := comes_1 fun _ _ _ _ _ _ h hF => ⟨h.1, hF⟩
theorem main_1_2 : Claimed_1_2 := comes_1 fun _ _ _ _ _ _ h hF => ⟨h.2.1, hF⟩
end Jvm.Pilot.@@N@@
namespace Jvm.Pilot.@@N@@
open Jvm Jvm.ClassFile Sem Op Lib Jvm.Free Jvm.Stand Jvm.Pilot.@@N@@.Jvm.D
/-! MADE BY PROGRAM (witnessworld.py) out of the Statement's table words and the real class files: 13 classes; the members and pool entries that the words name. The judged class is class 1, her method 1. -/
namespace start1
open Jvm.ClassFile
def u (s : String) : CpInfo := .utf8 (stringToUtf16 s)
/-- a pool by its gaps: so many unusable entries, then the entry; so many at the end -/
def gap : Nat → List CpInfo → List CpInfo
  | 0, r => r
  | n + 1, r => .unusable :: gap n r
def poolList (es : List (Nat × CpInfo)) (last : Nat) : List CpInfo := es.foldr (fun e r => gap e.1 (e.2 :: r)) (gap last [])
def pool (es : List (Nat × CpInfo)) (last : Nat) : Array CpInfo := ⟨poolList es last⟩
def fileOf (pool : Array CpInfo) (this : Nat) (attrs : Array Attribute := #[]) (ms : Array MethodInfo := #[]) (fl : Nat := 33) (sup : Nat := 0) (ifs : Array Nat := #[]) (fds : Array FieldInfo := #[]) : ClassFile where
  minorVersion := 0
  majorVersion := 65
  constantPool := pool
  accessFlags := fl
  thisClass := this
  superClass := sup
  interfaces := ifs
  fields := fds
  methods := ms
  attributes := attrs
def plain (name : String) (sup : Option ClassId) : Class where
  name := name
  kind := .ordinary
  loader := none
  accessFlags := 33
  super := sup
  interfaces := #[]
  cf := none
  fields := #[]
  methods := #[]
  instanceTypes := #[]
  staticTypes := #[]
  resolved := #[]
  callSites := []
  init := .initialized
  statics := none
  mirror := none

def pool0 : Array CpInfo := pool [(5, u "<init>"), (0, u "()V"), (1, .class_ 10), (1, u "java/lang/Object")] 113

def k0m0 : Method := { name := "<init>", desc := "()V", sig := { parameters := [], returnType := none }, accessFlags := 1, code := none }
/-- java/lang/Object -/
def k0 : Class := { plain "java/lang/Object" none with
  accessFlags := 33
  interfaces := #[]
  cf := some (fileOf pool0 8 #[] #[{ accessFlags := 1, nameIndex := 5, descriptorIndex := 6, attributes := #[] }] 33 0 #[] #[])
  fields := #[]
  methods := #[k0m0]
  instanceTypes := #[]
  staticTypes := #[]
  resolved := Array.replicate 124 none
  statics := none }

def pool1 : Array CpInfo := pool [(2, .class_ 4), (1, u "java/lang/Object"), (0, u "<init>"), (0, u "()V"), (0, .integer 2147483647), (0, .class_ 9), (0, u "com/example/cantilever/cantilever/xpath/CoreCall$Function"), (0, .fieldref 8 11), (0, .nameAndType 12 13), (0, u "LAST"), (0, u "Lcom/example/cantilever/cantilever/xpath/CoreCall$Function;"), (0, .fieldref 8 15), (0, .nameAndType 16 13), (0, u "POSITION"), (0, .fieldref 8 18), (0, .nameAndType 19 13), (0, u "COUNT"), (0, .fieldref 8 21), (0, .nameAndType 22 13), (0, u "ID"), (0, .fieldref 8 24), (0, .nameAndType 25 13), (0, u "LOCAL_NAME"), (0, .fieldref 8 27), (0, .nameAndType 28 13), (0, u "NAMESPACE_URI"), (0, .fieldref 8 30), (0, .nameAndType 31 13), (0, u "NAME"), (0, .fieldref 8 33), (0, .nameAndType 34 13), (0, u "STRING"), (0, .fieldref 8 36), (0, .nameAndType 37 13), (0, u "CONCAT"), (0, .fieldref 8 39), (0, .nameAndType 40 13), (0, u "STARTS_WITH"), (0, .fieldref 8 42), (0, .nameAndType 43 13), (0, u "CONTAINS"), (0, .fieldref 8 45), (0, .nameAndType 46 13), (0, u "SUBSTRING_BEFORE"), (0, .fieldref 8 48), (0, .nameAndType 49 13), (0, u "SUBSTRING_AFTER"), (0, .fieldref 8 51), (0, .nameAndType 52 13), (0, u "SUBSTRING"), (0, .fieldref 8 54), (0, .nameAndType 55 13), (0, u "STRING_LENGTH"), (0, .fieldref 8 57), (0, .nameAndType 58 13), (0, u "NORMALIZE_SPACE"), (0, .fieldref 8 60), (0, .nameAndType 61 13), (0, u "TRANSLATE"), (0, .fieldref 8 63), (0, .nameAndType 64 13), (0, u "BOOLEAN"), (0, .fieldref 8 66), (0, .nameAndType 67 13), (0, u "NOT"), (0, .fieldref 8 69), (0, .nameAndType 70 13), (0, u "TRUE"), (0, .fieldref 8 72), (0, .nameAndType 73 13), (0, u "FALSE"), (0, .fieldref 8 75), (0, .nameAndType 76 13), (0, u "LANG"), (0, .fieldref 8 78), (0, .nameAndType 79 13), (0, u "NUMBER"), (0, .fieldref 8 81), (0, .nameAndType 82 13), (0, u "SUM"), (0, .fieldref 8 84), (0, .nameAndType 85 13), (0, u "FLOOR"), (0, .fieldref 8 87), (0, .nameAndType 88 13), (0, u "CEILING"), (0, .fieldref 8 90), (0, .nameAndType 91 13), (0, u "ROUND"), (0, .methodref 8 93), (0, .nameAndType 94 95), (0, u "takes"), (0, u "(I)Z"), (0, .methodref 97 98), (0, .class_ 99), (0, .nameAndType 100 101), (0, u "com/example/cantilever/cantilever/xpath/CoreCallFunctionTakesPinLaw"), (0, u "expected"), (0, u "(II[I[I)Z"), (2, u "law"), (0, u "(III)Z")] 11

def k1m0 : Method := { name := "<init>", desc := "()V", sig := { parameters := [], returnType := none }, accessFlags := 1, code := none }
def k1c1 : Code := { maxStack := 5, maxLocals := 11, code := code, exceptionTable := #[], attributes := #[] }
def k1m1 : Method := { name := "law", desc := "(III)Z", sig := { parameters := [.int, .int, .int], returnType := some .boolean }, accessFlags := 9, code := some k1c1 }
def k1c2 : Code := { maxStack := 3, maxLocals := 4, code := method_3_code, exceptionTable := #[], attributes := #[] }
def k1m2 : Method := { name := "expected", desc := "(II[I[I)Z", sig := { parameters := [.int, .int, (.array .int), (.array .int)], returnType := some .boolean }, accessFlags := 10, code := some k1c2 }
/-- com/example/cantilever/cantilever/xpath/CoreCallFunctionTakesPinLaw -/
def k1 : Class := { plain "com/example/cantilever/cantilever/xpath/CoreCallFunctionTakesPinLaw" (some 0) with
  accessFlags := 49
  interfaces := #[]
  cf := some (fileOf pool1 97 #[] #[{ accessFlags := 1, nameIndex := 5, descriptorIndex := 6, attributes := #[] }, { accessFlags := 9, nameIndex := 104, descriptorIndex := 105, attributes := #[] }, { accessFlags := 10, nameIndex := 100, descriptorIndex := 101, attributes := #[] }] 49 2 #[] #[])
  fields := #[]
  methods := #[k1m0, k1m1, k1m2]
  instanceTypes := #[]
  staticTypes := #[]
  resolved := Array.replicate 117 none
  statics := none }

def pool2 : Array CpInfo := pool [(1, .class_ 2), (0, u "java/lang/constant/Constable"), (0, .class_ 4), (0, u "java/lang/Object")] 6

/-- java/lang/constant/Constable -/
def k2 : Class := { plain "java/lang/constant/Constable" (some 0) with
  accessFlags := 1537
  interfaces := #[]
  cf := some (fileOf pool2 1 #[] #[] 1537 3 #[] #[])
  fields := #[]
  methods := #[]
  instanceTypes := #[]
  staticTypes := #[]
  resolved := Array.replicate 11 none
  statics := none }

def pool3 : Array CpInfo := pool [(1, .class_ 2), (0, u "java/lang/Comparable"), (0, .class_ 4), (0, u "java/lang/Object")] 7

/-- java/lang/Comparable -/
def k3 : Class := { plain "java/lang/Comparable" (some 0) with
  accessFlags := 1537
  interfaces := #[]
  cf := some (fileOf pool3 1 #[] #[] 1537 3 #[] #[])
  fields := #[]
  methods := #[]
  instanceTypes := #[]
  staticTypes := #[]
  resolved := Array.replicate 12 none
  statics := none }

def pool4 : Array CpInfo := pool [(1, .class_ 2), (0, u "java/io/Serializable"), (0, .class_ 4), (0, u "java/lang/Object")] 2

/-- java/io/Serializable -/
def k4 : Class := { plain "java/io/Serializable" (some 0) with
  accessFlags := 1537
  interfaces := #[]
  cf := some (fileOf pool4 1 #[] #[] 1537 3 #[] #[])
  fields := #[]
  methods := #[]
  instanceTypes := #[]
  staticTypes := #[]
  resolved := Array.replicate 7 none
  statics := none }

def pool5 : Array CpInfo := pool [(2, .class_ 4), (1, u "java/lang/Enum"), (0, u "name"), (0, u "Ljava/lang/String;"), (2, u "ordinal"), (0, u "I"), (1, .class_ 14), (1, u "java/lang/Object"), (4, u "hash"), (86, .class_ 108), (1, u "java/lang/Enum$EnumDesc"), (2, .class_ 112), (0, u "java/lang/constant/Constable"), (0, .class_ 114), (0, u "java/lang/Comparable"), (0, .class_ 116), (0, u "java/io/Serializable")] 87

/-- java/lang/Enum -/
def k5 : Class := { plain "java/lang/Enum" (some 0) with
  accessFlags := 1057
  interfaces := #[2, 3, 4]
  cf := some (fileOf pool5 2 #[.nestMembers #[106]] #[] 1057 12 #[111, 113, 115] #[{ accessFlags := 18, nameIndex := 5, descriptorIndex := 6, attributes := #[] }, { accessFlags := 18, nameIndex := 9, descriptorIndex := 10, attributes := #[] }, { accessFlags := 2, nameIndex := 19, descriptorIndex := 10, attributes := #[] }])
  fields := #[{ name := "name", type := (.object "java/lang/String"), accessFlags := 18, slot := 0, constantValue := 0 }, { name := "ordinal", type := .int, accessFlags := 18, slot := 1, constantValue := 0 }, { name := "hash", type := .int, accessFlags := 2, slot := 2, constantValue := 0 }]
  methods := #[]
  instanceTypes := #[(.object "java/lang/String"), .int, .int]
  staticTypes := #[]
  resolved := Array.replicate 204 none
  statics := none }

def pool6 : Array CpInfo := pool [(1, .class_ 2), (0, u "com/example/cantilever/cantilever/xpath/CoreCall$Function"), (2, u "LAST"), (0, u "Lcom/example/cantilever/cantilever/xpath/CoreCall$Function;"), (2, u "POSITION"), (2, u "COUNT"), (2, u "ID"), (2, u "LOCAL_NAME"), (2, u "NAMESPACE_URI"), (2, u "NAME"), (2, u "STRING"), (2, u "CONCAT"), (2, u "STARTS_WITH"), (2, u "CONTAINS"), (2, u "SUBSTRING_BEFORE"), (2, u "SUBSTRING_AFTER"), (2, u "SUBSTRING"), (2, u "STRING_LENGTH"), (2, u "NORMALIZE_SPACE"), (2, u "TRANSLATE"), (2, u "BOOLEAN"), (2, u "NOT"), (2, u "TRUE"), (2, u "FALSE"), (2, u "LANG"), (2, u "NUMBER"), (2, u "SUM"), (2, u "FLOOR"), (2, u "CEILING"), (2, u "ROUND"), (2, u "$VALUES"), (0, u "[Lcom/example/cantilever/cantilever/xpath/CoreCall$Function;"), (6, .class_ 97), (1, u "java/lang/Enum"), (8, u "name"), (0, u "Ljava/lang/String;"), (0, .fieldref 1 109), (0, .nameAndType 110 111), (0, u "least"), (0, u "I"), (0, .fieldref 1 113), (0, .nameAndType 114 111), (0, u "most"), (2, u "type"), (0, u "Lcom/example/cantilever/cantilever/xpath/Expr$Type;"), (2, u "BY_NAME"), (0, u "Ljava/util/Map;"), (143, u "takes"), (0, u "(I)Z"), (10, .class_ 279), (0, u "com/example/cantilever/cantilever/xpath/CoreCall")] 23

def k6c0 : Code := { maxStack := 2, maxLocals := 2, code := prog_216_method_6_code, exceptionTable := #[], attributes := #[] }
def k6m0 : Method := { name := "takes", desc := "(I)Z", sig := { parameters := [.int], returnType := some .boolean }, accessFlags := 0, code := some k6c0 }
/-- com/example/cantilever/cantilever/xpath/CoreCall$Function -/
def k6 : Class := { plain "com/example/cantilever/cantilever/xpath/CoreCall$Function" (some 5) with
  accessFlags := 16432
  interfaces := #[]
  cf := some (fileOf pool6 1 #[.nestHost 278] #[{ accessFlags := 0, nameIndex := 266, descriptorIndex := 267, attributes := #[] }] 16432 95 #[] #[{ accessFlags := 16409, nameIndex := 5, descriptorIndex := 6, attributes := #[] }, { accessFlags := 16409, nameIndex := 9, descriptorIndex := 6, attributes := #[] }, { accessFlags := 16409, nameIndex := 12, descriptorIndex := 6, attributes := #[] }, { accessFlags := 16409, nameIndex := 15, descriptorIndex := 6, attributes := #[] }, { accessFlags := 16409, nameIndex := 18, descriptorIndex := 6, attributes := #[] }, { accessFlags := 16409, nameIndex := 21, descriptorIndex := 6, attributes := #[] }, { accessFlags := 16409, nameIndex := 24, descriptorIndex := 6, attributes := #[] }, { accessFlags := 16409, nameIndex := 27, descriptorIndex := 6, attributes := #[] }, { accessFlags := 16409, nameIndex := 30, descriptorIndex := 6, attributes := #[] }, { accessFlags := 16409, nameIndex := 33, descriptorIndex := 6, attributes := #[] }, { accessFlags := 16409, nameIndex := 36, descriptorIndex := 6, attributes := #[] }, { accessFlags := 16409, nameIndex := 39, descriptorIndex := 6, attributes := #[] }, { accessFlags := 16409, nameIndex := 42, descriptorIndex := 6, attributes := #[] }, { accessFlags := 16409, nameIndex := 45, descriptorIndex := 6, attributes := #[] }, { accessFlags := 16409, nameIndex := 48, descriptorIndex := 6, attributes := #[] }, { accessFlags := 16409, nameIndex := 51, descriptorIndex := 6, attributes := #[] }, { accessFlags := 16409, nameIndex := 54, descriptorIndex := 6, attributes := #[] }, { accessFlags := 16409, nameIndex := 57, descriptorIndex := 6, attributes := #[] }, { accessFlags := 16409, nameIndex := 60, descriptorIndex := 6, attributes := #[] }, { accessFlags := 16409, nameIndex := 63, descriptorIndex := 6, attributes := #[] }, { accessFlags := 16409, nameIndex := 66, descriptorIndex := 6, attributes := #[] }, { accessFlags := 16409, nameIndex := 69, descriptorIndex := 6, attributes := #[] }, { accessFlags := 16409, nameIndex := 72, descriptorIndex := 6, attributes := #[] }, { accessFlags := 16409, nameIndex := 75, descriptorIndex := 6, attributes := #[] }, { accessFlags := 16409, nameIndex := 78, descriptorIndex := 6, attributes := #[] }, { accessFlags := 16409, nameIndex := 81, descriptorIndex := 6, attributes := #[] }, { accessFlags := 16409, nameIndex := 84, descriptorIndex := 6, attributes := #[] }, { accessFlags := 26, nameIndex := 121, descriptorIndex := 122, attributes := #[] }, { accessFlags := 18, nameIndex := 106, descriptorIndex := 107, attributes := #[] }, { accessFlags := 18, nameIndex := 110, descriptorIndex := 111, attributes := #[] }, { accessFlags := 18, nameIndex := 114, descriptorIndex := 111, attributes := #[] }, { accessFlags := 18, nameIndex := 117, descriptorIndex := 118, attributes := #[] }, { accessFlags := 4122, nameIndex := 87, descriptorIndex := 88, attributes := #[] }])
  fields := #[{ name := "LAST", type := (.object "com/example/cantilever/cantilever/xpath/CoreCall$Function"), accessFlags := 16409, slot := 0, constantValue := 0 }, { name := "POSITION", type := (.object "com/example/cantilever/cantilever/xpath/CoreCall$Function"), accessFlags := 16409, slot := 1, constantValue := 0 }, { name := "COUNT", type := (.object "com/example/cantilever/cantilever/xpath/CoreCall$Function"), accessFlags := 16409, slot := 2, constantValue := 0 }, { name := "ID", type := (.object "com/example/cantilever/cantilever/xpath/CoreCall$Function"), accessFlags := 16409, slot := 3, constantValue := 0 }, { name := "LOCAL_NAME", type := (.object "com/example/cantilever/cantilever/xpath/CoreCall$Function"), accessFlags := 16409, slot := 4, constantValue := 0 }, { name := "NAMESPACE_URI", type := (.object "com/example/cantilever/cantilever/xpath/CoreCall$Function"), accessFlags := 16409, slot := 5, constantValue := 0 }, { name := "NAME", type := (.object "com/example/cantilever/cantilever/xpath/CoreCall$Function"), accessFlags := 16409, slot := 6, constantValue := 0 }, { name := "STRING", type := (.object "com/example/cantilever/cantilever/xpath/CoreCall$Function"), accessFlags := 16409, slot := 7, constantValue := 0 }, { name := "CONCAT", type := (.object "com/example/cantilever/cantilever/xpath/CoreCall$Function"), accessFlags := 16409, slot := 8, constantValue := 0 }, { name := "STARTS_WITH", type := (.object "com/example/cantilever/cantilever/xpath/CoreCall$Function"), accessFlags := 16409, slot := 9, constantValue := 0 }, { name := "CONTAINS", type := (.object "com/example/cantilever/cantilever/xpath/CoreCall$Function"), accessFlags := 16409, slot := 10, constantValue := 0 }, { name := "SUBSTRING_BEFORE", type := (.object "com/example/cantilever/cantilever/xpath/CoreCall$Function"), accessFlags := 16409, slot := 11, constantValue := 0 }, { name := "SUBSTRING_AFTER", type := (.object "com/example/cantilever/cantilever/xpath/CoreCall$Function"), accessFlags := 16409, slot := 12, constantValue := 0 }, { name := "SUBSTRING", type := (.object "com/example/cantilever/cantilever/xpath/CoreCall$Function"), accessFlags := 16409, slot := 13, constantValue := 0 }, { name := "STRING_LENGTH", type := (.object "com/example/cantilever/cantilever/xpath/CoreCall$Function"), accessFlags := 16409, slot := 14, constantValue := 0 }, { name := "NORMALIZE_SPACE", type := (.object "com/example/cantilever/cantilever/xpath/CoreCall$Function"), accessFlags := 16409, slot := 15, constantValue := 0 }, { name := "TRANSLATE", type := (.object "com/example/cantilever/cantilever/xpath/CoreCall$Function"), accessFlags := 16409, slot := 16, constantValue := 0 }, { name := "BOOLEAN", type := (.object "com/example/cantilever/cantilever/xpath/CoreCall$Function"), accessFlags := 16409, slot := 17, constantValue := 0 }, { name := "NOT", type := (.object "com/example/cantilever/cantilever/xpath/CoreCall$Function"), accessFlags := 16409, slot := 18, constantValue := 0 }, { name := "TRUE", type := (.object "com/example/cantilever/cantilever/xpath/CoreCall$Function"), accessFlags := 16409, slot := 19, constantValue := 0 }, { name := "FALSE", type := (.object "com/example/cantilever/cantilever/xpath/CoreCall$Function"), accessFlags := 16409, slot := 20, constantValue := 0 }, { name := "LANG", type := (.object "com/example/cantilever/cantilever/xpath/CoreCall$Function"), accessFlags := 16409, slot := 21, constantValue := 0 }, { name := "NUMBER", type := (.object "com/example/cantilever/cantilever/xpath/CoreCall$Function"), accessFlags := 16409, slot := 22, constantValue := 0 }, { name := "SUM", type := (.object "com/example/cantilever/cantilever/xpath/CoreCall$Function"), accessFlags := 16409, slot := 23, constantValue := 0 }, { name := "FLOOR", type := (.object "com/example/cantilever/cantilever/xpath/CoreCall$Function"), accessFlags := 16409, slot := 24, constantValue := 0 }, { name := "CEILING", type := (.object "com/example/cantilever/cantilever/xpath/CoreCall$Function"), accessFlags := 16409, slot := 25, constantValue := 0 }, { name := "ROUND", type := (.object "com/example/cantilever/cantilever/xpath/CoreCall$Function"), accessFlags := 16409, slot := 26, constantValue := 0 }, { name := "BY_NAME", type := (.object "java/util/Map"), accessFlags := 26, slot := 27, constantValue := 0 }, { name := "name", type := (.object "java/lang/String"), accessFlags := 18, slot := 3, constantValue := 0 }, { name := "least", type := .int, accessFlags := 18, slot := 4, constantValue := 0 }, { name := "most", type := .int, accessFlags := 18, slot := 5, constantValue := 0 }, { name := "type", type := (.object "com/example/cantilever/cantilever/xpath/Expr$Type"), accessFlags := 18, slot := 6, constantValue := 0 }, { name := "$VALUES", type := (.array (.object "com/example/cantilever/cantilever/xpath/CoreCall$Function")), accessFlags := 4122, slot := 28, constantValue := 0 }]
  methods := #[k6m0]
  instanceTypes := #[(.object "java/lang/String"), .int, .int, (.object "java/lang/String"), .int, .int, (.object "com/example/cantilever/cantilever/xpath/Expr$Type")]
  staticTypes := #[(.object "com/example/cantilever/cantilever/xpath/CoreCall$Function"), (.object "com/example/cantilever/cantilever/xpath/CoreCall$Function"), (.object "com/example/cantilever/cantilever/xpath/CoreCall$Function"), (.object "com/example/cantilever/cantilever/xpath/CoreCall$Function"), (.object "com/example/cantilever/cantilever/xpath/CoreCall$Function"), (.object "com/example/cantilever/cantilever/xpath/CoreCall$Function"), (.object "com/example/cantilever/cantilever/xpath/CoreCall$Function"), (.object "com/example/cantilever/cantilever/xpath/CoreCall$Function"), (.object "com/example/cantilever/cantilever/xpath/CoreCall$Function"), (.object "com/example/cantilever/cantilever/xpath/CoreCall$Function"), (.object "com/example/cantilever/cantilever/xpath/CoreCall$Function"), (.object "com/example/cantilever/cantilever/xpath/CoreCall$Function"), (.object "com/example/cantilever/cantilever/xpath/CoreCall$Function"), (.object "com/example/cantilever/cantilever/xpath/CoreCall$Function"), (.object "com/example/cantilever/cantilever/xpath/CoreCall$Function"), (.object "com/example/cantilever/cantilever/xpath/CoreCall$Function"), (.object "com/example/cantilever/cantilever/xpath/CoreCall$Function"), (.object "com/example/cantilever/cantilever/xpath/CoreCall$Function"), (.object "com/example/cantilever/cantilever/xpath/CoreCall$Function"), (.object "com/example/cantilever/cantilever/xpath/CoreCall$Function"), (.object "com/example/cantilever/cantilever/xpath/CoreCall$Function"), (.object "com/example/cantilever/cantilever/xpath/CoreCall$Function"), (.object "com/example/cantilever/cantilever/xpath/CoreCall$Function"), (.object "com/example/cantilever/cantilever/xpath/CoreCall$Function"), (.object "com/example/cantilever/cantilever/xpath/CoreCall$Function"), (.object "com/example/cantilever/cantilever/xpath/CoreCall$Function"), (.object "com/example/cantilever/cantilever/xpath/CoreCall$Function"), (.object "java/util/Map"), (.array (.object "com/example/cantilever/cantilever/xpath/CoreCall$Function"))]
  resolved := Array.replicate 303 none
  statics := some 0 }

def pool7 : Array CpInfo := pool [(1, u "java/lang/Cloneable"), (0, .class_ 1), (0, u "java/lang/Object"), (0, .class_ 3)] 3

/-- java/lang/Cloneable -/
def k7 : Class := { plain "java/lang/Cloneable" (some 0) with
  accessFlags := 1537
  interfaces := #[]
  cf := some (fileOf pool7 2 #[] #[] 1537 4 #[] #[])
  fields := #[]
  methods := #[]
  instanceTypes := #[]
  staticTypes := #[]
  resolved := Array.replicate 8 none
  statics := none }

/-- the primitive byte -/
def k8 : Class := { plain "byte" none with kind := .primitive 'B', accessFlags := 0x411 }
/-- [B -/
def k9 : Class := { plain "[B" (some 0) with kind := .array 8 .byte, interfaces := #[7, 4], accessFlags := 1041 }

/-- the primitive int -/
def k10 : Class := { plain "int" none with kind := .primitive 'I', accessFlags := 0x411 }
/-- [I -/
def k11 : Class := { plain "[I" (some 0) with kind := .array 10 .int, interfaces := #[7, 4], accessFlags := 1041 }

/-- [Lcom/example/cantilever/cantilever/xpath/CoreCall$Function; -/
def k12 : Class := { plain "[Lcom/example/cantilever/cantilever/xpath/CoreCall$Function;" (some 0) with kind := .array 6 (.object "com/example/cantilever/cantilever/xpath/CoreCall$Function"), interfaces := #[7, 4], accessFlags := 1041 }

def heap : Heap := #[{ cls := 6, slots := #[.ref 1, .ref 2, .ref 3, .ref 4, .ref 5, .ref 6, .ref 7, .ref 8, .ref 9, .ref 10, .ref 11, .ref 12, .ref 13, .ref 14, .ref 15, .ref 16, .ref 17, .ref 18, .ref 19, .ref 20, .ref 21, .ref 22, .ref 23, .ref 24, .ref 25, .ref 26, .ref 27, .null, .null], vm := .statics 6 },
  { cls := 6, slots := #[.null, .int 0, .int 0, .null, .int 0, .int 0, .null], vm := .none },
  { cls := 6, slots := #[.null, .int 1, .int 0, .null, .int 0, .int 0, .null], vm := .none },
  { cls := 6, slots := #[.null, .int 2, .int 0, .null, .int 1, .int 1, .null], vm := .none },
  { cls := 6, slots := #[.null, .int 3, .int 0, .null, .int 1, .int 1, .null], vm := .none },
  { cls := 6, slots := #[.null, .int 4, .int 0, .null, .int 0, .int 1, .null], vm := .none },
  { cls := 6, slots := #[.null, .int 5, .int 0, .null, .int 0, .int 1, .null], vm := .none },
  { cls := 6, slots := #[.null, .int 6, .int 0, .null, .int 0, .int 1, .null], vm := .none },
  { cls := 6, slots := #[.null, .int 7, .int 0, .null, .int 0, .int 1, .null], vm := .none },
  { cls := 6, slots := #[.null, .int 8, .int 0, .null, .int 2, .int 2147483647, .null], vm := .none },
  { cls := 6, slots := #[.null, .int 9, .int 0, .null, .int 2, .int 2, .null], vm := .none },
  { cls := 6, slots := #[.null, .int 10, .int 0, .null, .int 2, .int 2, .null], vm := .none },
  { cls := 6, slots := #[.null, .int 11, .int 0, .null, .int 2, .int 2, .null], vm := .none },
  { cls := 6, slots := #[.null, .int 12, .int 0, .null, .int 2, .int 2, .null], vm := .none },
  { cls := 6, slots := #[.null, .int 13, .int 0, .null, .int 2, .int 3, .null], vm := .none },
  { cls := 6, slots := #[.null, .int 14, .int 0, .null, .int 0, .int 1, .null], vm := .none },
  { cls := 6, slots := #[.null, .int 15, .int 0, .null, .int 0, .int 1, .null], vm := .none },
  { cls := 6, slots := #[.null, .int 16, .int 0, .null, .int 3, .int 3, .null], vm := .none },
  { cls := 6, slots := #[.null, .int 17, .int 0, .null, .int 1, .int 1, .null], vm := .none },
  { cls := 6, slots := #[.null, .int 18, .int 0, .null, .int 1, .int 1, .null], vm := .none },
  { cls := 6, slots := #[.null, .int 19, .int 0, .null, .int 0, .int 0, .null], vm := .none },
  { cls := 6, slots := #[.null, .int 20, .int 0, .null, .int 0, .int 0, .null], vm := .none },
  { cls := 6, slots := #[.null, .int 21, .int 0, .null, .int 1, .int 1, .null], vm := .none },
  { cls := 6, slots := #[.null, .int 22, .int 0, .null, .int 0, .int 1, .null], vm := .none },
  { cls := 6, slots := #[.null, .int 23, .int 0, .null, .int 1, .int 1, .null], vm := .none },
  { cls := 6, slots := #[.null, .int 24, .int 0, .null, .int 1, .int 1, .null], vm := .none },
  { cls := 6, slots := #[.null, .int 25, .int 0, .null, .int 1, .int 1, .null], vm := .none },
  { cls := 6, slots := #[.null, .int 26, .int 0, .null, .int 1, .int 1, .null], vm := .none }]
def classes : Array Class := #[k0, k1, k2, k3, k4, k5, k6, k7, k8, k9, k10, k11, k12]
def interned : List (Array UInt16 × Addr) := []
def slotsUsed : Nat := 218
def theMethod : MethodId := ⟨1, 1⟩
def args0 : Array Value := #[.int 0, .int 0, .int 2]
def aboutOver (below : List Frame) : State where
  vm := { classes := classes, interned := interned.toArray }
  heap := heap
  slotsUsed := slotsUsed
  threads := #[{ frames := .invoking theMethod args0 :: below }]
def below0 : List Frame := [.native { method := ⟨0, 0⟩, args := #[] }]
def about1 : State := aboutOver below0
def p0 : Program := .bare "" "" ""
def e0 : Env := launch0.env 0 0 0
theorem w_frames : about1.frames = Frame.invoking theMethod args0 :: below0 := rfl
set_option maxRecDepth 65536 in
theorem w_args : argsFit about1.vm theMethod args0 = true := by decide +kernel
set_option maxRecDepth 65536 in
theorem w_heap : heapFits about1 = true := by decide +kernel
set_option maxRecDepth 65536 in
theorem w_runnable : about1.curStatus? = some .runnable := by decide +kernel
set_option maxRecDepth 65536 in
theorem w_alone : about1.alone = true := by decide +kernel
set_option maxRecDepth 65536 in
theorem w_named : about1.methodNamed? x = some theMethod := by decide +kernel
set_option maxRecDepth 65536 in
theorem w_hears : about1.hears theMethod below0 = true := by decide +kernel
set_option maxRecDepth 65536 in
theorem w_ripe : about1.ripe theMethod args0 below0 = true := by decide +kernel
theorem w_running : about1.status = .running := rfl
set_option maxRecDepth 65536 in
theorem w_room : about1.hasRoom e0.platform room_1 = true :=
  launch0.hasRoom_least _ room_1 (by decide +kernel) (by decide +kernel) (by decide +kernel) (by decide +kernel) (by decide +kernel) (by decide +kernel)
theorem allAtoms_all (ts : List Jvm.Cond) (a : Array Jvm.Value) (st : Jvm.State) : (allAtoms ts).before a st = ts.all (fun c => c.before a st) := by
  induction ts with
  | nil => rfl
  | cons c t ih =>
    show (Jvm.Cond.and c (allAtoms t)).before a st = _
    rw [Jvm.Cond.before_and, ih, List.all_cons]
def words1 : List Jvm.Cond := Jvm.Cond.code x code maxLocals ret :: tables_1
/-- a 'code' word, met by the world's own term for the bytes: nothing is compared byte by byte -/
theorem code_word {y : MethodName} {bytes : ByteArray} {mx : Nat} {rt : Option FieldType} {a : Array Value} {s : State} {m : MethodId} {meth : Method} {c : Code} (h1 : s.methodNamed? y = some m) (h2 : s.vm.method? m = some meth) (h3 : meth.code = some c) (h4 : c.code = bytes)
    (h5 : (c.maxLocals == mx && c.exceptionTable.isEmpty && decide (c.maxStack ≤ mostOperands) && decide (meth.sig.returnType = rt) && !meth.locks && decide (parseMethodDescriptor y.desc = some meth.sig)) = true) : (Jvm.Cond.code y bytes mx rt).before a s = true := by
  simp only [Bool.and_eq_true, beq_iff_eq, Bool.not_eq_true', decide_eq_true_eq] at h5
  obtain ⟨⟨⟨⟨⟨g1, g2⟩, g3⟩, g4⟩, g5⟩, g6⟩ := h5
  simp [Cond.before, Cond.holds, Cond.value, h1, h2, h3, h4, g1, g2, g3, g4, g5, g6]
def isCode : Jvm.Cond → Bool
  | .code _ _ _ _ => true
  | _ => false
theorem all_split {L : List Jvm.Cond} {P : Jvm.Cond → Bool} (h1 : L.all (fun c => isCode c || P c) = true) (h2 : ∀ c ∈ L.filter isCode, P c = true) : L.all P = true := by
  refine List.all_eq_true.mpr fun c hc => ?_
  have h := List.all_eq_true.mp h1 c hc
  rcases Bool.eq_false_or_eq_true (isCode c) with hi | hi
  · exact h2 c (List.mem_filter.mpr ⟨hc, hi⟩)
  · simpa [hi] using h
set_option maxRecDepth 65536 in
theorem w_c0 : (Jvm.Cond.code x code maxLocals ret).before args0 about1 = true := code_word (m := ⟨1, 1⟩) (meth := k1m1) (c := k1c1) (by decide +kernel) rfl rfl rfl (by decide +kernel)
set_option maxRecDepth 65536 in
theorem w_c1 : (Jvm.Cond.code ({ cls := "com/example/cantilever/cantilever/xpath/CoreCall$Function", name := "takes", desc := "(I)Z" } : Jvm.MethodName) prog_216_method_6_code (2 : Nat) (Option.some Jvm.ClassFile.FieldType.boolean)).before args0 about1 = true := code_word (m := ⟨6, 0⟩) (meth := k6m0) (c := k6c0) (by decide +kernel) rfl rfl rfl (by decide +kernel)
set_option maxRecDepth 65536 in
theorem w_c2 : (Jvm.Cond.code ({ cls := "com/example/cantilever/cantilever/xpath/CoreCallFunctionTakesPinLaw", name := "expected", desc := "(II[I[I)Z" } : Jvm.MethodName) method_3_code (4 : Nat) (Option.some Jvm.ClassFile.FieldType.boolean)).before args0 about1 = true := code_word (m := ⟨1, 2⟩) (meth := k1m2) (c := k1c2) (by decide +kernel) rfl rfl rfl (by decide +kernel)
def codes1 : List Jvm.Cond := [Jvm.Cond.code x code maxLocals ret, Jvm.Cond.code ({ cls := "com/example/cantilever/cantilever/xpath/CoreCall$Function", name := "takes", desc := "(I)Z" } : Jvm.MethodName) prog_216_method_6_code (2 : Nat) (Option.some Jvm.ClassFile.FieldType.boolean), Jvm.Cond.code ({ cls := "com/example/cantilever/cantilever/xpath/CoreCallFunctionTakesPinLaw", name := "expected", desc := "(II[I[I)Z" } : Jvm.MethodName) method_3_code (4 : Nat) (Option.some Jvm.ClassFile.FieldType.boolean)]
set_option maxRecDepth 65536 in
theorem codes_eq : words1.filter isCode = codes1 := rfl
theorem w_codes : ∀ c ∈ words1.filter isCode, c.before args0 about1 = true := by
  rw [codes_eq]
  intro c hc
  simp only [codes1, List.mem_cons, List.not_mem_nil, or_false] at hc
  rcases hc with rfl | rfl | rfl
  · exact w_c0
  · exact w_c1
  · exact w_c2
set_option maxRecDepth 65536 in
theorem w_t1 : (words1.take 24).all (fun c => isCode c || c.before args0 about1) = true := by decide +kernel
set_option maxRecDepth 65536 in
theorem w_t2 : ((words1.drop 24).take 24).all (fun c => isCode c || c.before args0 about1) = true := by decide +kernel
set_option maxRecDepth 65536 in
theorem w_t3 : (((words1.drop 24).drop 24).take 24).all (fun c => isCode c || c.before args0 about1) = true := by decide +kernel
set_option maxRecDepth 65536 in
theorem w_t4 : (((words1.drop 24).drop 24).drop 24).all (fun c => isCode c || c.before args0 about1) = true := by decide +kernel
theorem w_tables : (allAtoms (Jvm.Cond.code x code maxLocals ret :: tables_1)).before args0 about1 = true := by
  rw [allAtoms_all]
  show words1.all (fun c => c.before args0 about1) = true
  refine all_split ?_ w_codes
  rw [← List.take_append_drop 24 words1, List.all_append, w_t1, ← List.take_append_drop 24 (words1.drop 24), List.all_append, w_t2, ← List.take_append_drop 24 ((words1.drop 24).drop 24), List.all_append, w_t3, w_t4]
  rfl
set_option maxRecDepth 65536 in
theorem w_case : (Jvm.Cond.and given_1 narrow_1).before args0 about1 = true := by decide +kernel
theorem w_applies : (headSpec (Jvm.Cond.code x code maxLocals ret :: tables_1) room_1).applies x e0.platform about1 = true :=
  (Spec.applies_iff w_frames).mpr ⟨w_running, w_runnable, w_alone, w_named, w_hears, w_ripe, w_room, w_tables⟩
theorem atStart : AtStart classFile x code maxLocals ret World_1 tables_1 room_1 Calls_1 rest_1 Pre_1 launch0 p0 e0 about1 theMethod args0 below0 :=
  ⟨lists_1, trivial, launch0.admits_env _ _ _, launch0.least_env, fairChoices_fair.cas, fairChoices_fair.clock, w_frames, w_args, w_heap, w_applies, trivial, trivial, w_case⟩
end start1
theorem witness_1 : WitnessClaimed_1 := ⟨start1.p0, start1.e0, start1.about1, start1.theMethod, start1.args0, start1.below0, start1.atStart⟩
end Jvm.Pilot.@@N@@
