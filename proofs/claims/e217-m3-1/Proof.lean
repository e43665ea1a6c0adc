import JvmDerived
import JvmDerived.Pilot.@@N@@Statement
import JvmDerived.Pilot.@@N@@Code
set_option linter.unusedVariables false
set_option linter.unusedSimpArgs false
namespace Jvm.Pilot.@@N@@
open Jvm Jvm.ClassFile Sem Op Lib Jvm.Free Jvm.Stand Jvm.LawKit Jvm.RoadKit Bundle Jvm.Pilot.@@N@@.Jvm.D
/-- from T at the frame g the body comes to its return, and Q holds of what it returns, the heap, the places written, the cells and slots made -/
def Run (p : Program) (l : Launch) (e : Env) (R : Room) (s : State) (m : MethodId) (args : Array Value) (below : List Frame) (meth : Method) (c : Code) (Q : Option Value → Heap → List Loc → Nat → Nat → Prop) (T : State) (g : JFrame) : Prop :=
  ∃ (T' : State) (locs' : List Loc) (cells' slots' : Nat) (v : Option Value), Stand p l e R s m args below meth c T' locs' cells' slots' ∧ Q v T'.heap locs' cells' slots' ∧ (meth.sig.returnType = none → v = none) ∧
    ∀ fs, (∀ (f : JFrame) (acts : List Action), f.method = m → f.locked = none → f.entered = [] → (doReturn e (T'.setTop f) acts v).1 = T'.setFrames fs) → Steps p.tables e below (T.setTop g) (T'.setFrames fs)
section OwnRun
variable {p : Program} {l : Launch} {e : Env} {R : Room} {s : State} {m : MethodId} {args : Array Value} {below : List Frame} {meth : Method} {c : Code} {Q : Option Value → Heap → List Loc → Nat → Nat → Prop} {T T1 : State} {g g1 : JFrame} {locs : List Loc} {cells slots : Nat}
theorem Run.step (st : ∀ target, Steps p.tables e below (T1.setTop g1) target → Steps p.tables e below (T.setTop g) target) (r : Run p l e R s m args below meth c Q T1 g1) : Run p l e R s m args below meth c Q T g := by
  obtain ⟨T', locs', cs, sl, v, X, q, hv, k⟩ := r
  exact ⟨T', locs', cs, sl, v, X, q, hv, fun fs hr => st _ (k fs hr)⟩
theorem Run.retZ (X : Stand p l e R s m args below meth c T locs cells slots) (hx : p.tables.exec = Jvm.exec) {pc : Nat} {Ls : Array Slot} {z : Int32} {t : FieldType} {rest : List Value} (hret : meth.sig.returnType = some t) (ht : t = .boolean ∨ t = .byte ∨ t = .char ∨ t = .short) (hd : decode c.code pc = .ok (.ireturn, 1)) (q : Q (some (.int (nar t z))) T.heap locs cells slots) :
    Run p l e R s m args below meth c Q T (mkF m pc Ls (.int z :: rest)) :=
  ⟨T, locs, cells, slots, _, X, q, (fun h => by rw [hret] at h; cases h), fun fs hr => retN X hx hret ht hd hr⟩
theorem Run.retG (X : Stand p l e R s m args below meth c T locs cells slots) (hx : p.tables.exec = Jvm.exec) {pc : Nat} {Ls : Array Slot} {w : Value} {t : FieldType} {i : Instr} {rest : List Value} (hret : meth.sig.returnType = some t) (hn : narrow t w = w)
    (hi : (i = .ireturn ∧ (t = .int ∨ t = .boolean ∨ t = .byte ∨ t = .char ∨ t = .short) ∧ ∃ z, w = .int z) ∨ (i = .lreturn ∧ t = .long ∧ ∃ z, w = .long z) ∨ (i = .dreturn ∧ t = .double ∧ ∃ z, w = .double z) ∨ (i = .freturn ∧ t = .float ∧ ∃ z, w = .float z) ∨ (i = .areturn ∧ t.isReference = true ∧ w.isRef = true))
    (hd : decode c.code pc = .ok (i, 1)) (q : Q (some w) T.heap locs cells slots) : Run p l e R s m args below meth c Q T (mkF m pc Ls (w :: rest)) :=
  ⟨T, locs, cells, slots, _, X, q, (fun h => by rw [hret] at h; cases h), fun fs hr => retOut X hx hret hn hi hd hr⟩
theorem Run.retV (X : Stand p l e R s m args below meth c T locs cells slots) (hx : p.tables.exec = Jvm.exec) {pc : Nat} {Ls : Array Slot} (hret : meth.sig.returnType = none) (hd : decode c.code pc = .ok (.return_, 1)) (q : Q none T.heap locs cells slots) :
    Run p l e R s m args below meth c Q T (mkF m pc Ls []) :=
  ⟨T, locs, cells, slots, none, X, q, (fun _ => rfl), fun fs hr => X.returnOut hx hret hd hr⟩
end OwnRun
/-- the room's figures, and a contract's own word -/
def RQ (rm : Room) (Qm : Option Value → Heap → List Loc → Prop) : Option Value → Heap → List Loc → Nat → Nat → Prop := fun v h L cs sl => cs ≤ rm.cells ∧ sl ≤ rm.slots ∧ Qm v h L
/-- it returns u and leaves the heap as it was -/
def QV (u : Value) (h0 : Heap) (n0 : Nat) (v : Option Value) (h : Heap) (L : List Loc) : Prop := v = some u ∧ Fr n0 L ∧ h = h0
/-- a contract out of a run of the body -/
theorem metRun {l : Launch} {y : MethodName} {bytes : ByteArray} {maxL : Nat} {ret : Option FieldType} {ws : List Jvm.Cond} {rm : Room} {as' : Array Value} {Z : State} {h0 : Heap} {f0 : MethodId → JFrame} {Qm : Option Value → Heap → List Loc → Prop}
    (hpl : plainFor y = true) (hef : ∀ m, entryFrame m as' maxL = f0 m)
    (H : ∀ (p : Program) (e : Env) (s : State) (m : MethodId) (below : List Frame) (meth : Method) (c : Code) (s₁ : State), Stand p l e rm s m as' below meth c s₁ [] 0 0 → p.tables.exec = Jvm.exec → c.code = bytes → c.maxLocals = maxL → s.vm.findClass y.cls = some m.cls → meth.name = y.name → meth.sig.returnType = ret → Z.Warmed39 s.vm → s₁.heap = h0 → s.heap = h0 →
      Run p l e rm s m as' below meth c (RQ rm Qm) s₁ (f0 m)) :
    MetFree l y (head1 (Jvm.Cond.code y bytes maxL ret :: ws) rm) (fun a U => a = as' ∧ Z.Warmed39 U.vm ∧ U.heap = h0) (fun _ _ _ _ _ => True) (fun _ U o U' => ∃ v L, o = .returned v ∧ Qm v U'.heap L ∧ FrameEnd U o U' L rm.cells rm.slots) := by
  refine MetFree.of_bodySF hpl hisR ?_
  intro p e s m args below meth c s₁ Bd hml0 hP hK
  obtain ⟨rfl, hZ, hh⟩ := hP
  have X0 : Stand p l e rm s m _ below meth c s₁ [] 0 0 := Stand.of_body Bd
  have e0 : s₁.heap = h0 := by rw [← hh, Bd.state]; rfl
  obtain ⟨T', locs', cs, sl, v, X', q, hv, k⟩ := H p e s m below meth c s₁ X0 Bd.exec Bd.bytes hml0 (findClass_of_methodNamed Bd.named) (name_of_methodNamed Bd.named Bd.method).1 Bd.returns hZ e0 hh
  obtain ⟨fs, hr, hrun, hended, hW, hsame⟩ := X'.leave (v := v) hv
  exact ⟨_, _, castTop (hef m) (k fs hr), hrun, hended, v, _, rfl, q.2.2, ⟨_, rfl⟩, hW, hsame.mono q.1 q.2.1⟩
def Ops (Z : State) (h : Heap) (aE aNE aL aLE aG aGE : Addr) : Prop := Sta Z h "com/example/cantilever/cantilever/xpath/Comparison$Operator" "EQUAL" "Lcom/example/cantilever/cantilever/xpath/Comparison$Operator;" (.ref aE) ∧ Sta Z h "com/example/cantilever/cantilever/xpath/Comparison$Operator" "NOT_EQUAL" "Lcom/example/cantilever/cantilever/xpath/Comparison$Operator;" (.ref aNE) ∧ Sta Z h "com/example/cantilever/cantilever/xpath/Comparison$Operator" "LESS" "Lcom/example/cantilever/cantilever/xpath/Comparison$Operator;" (.ref aL) ∧ Sta Z h "com/example/cantilever/cantilever/xpath/Comparison$Operator" "LESS_OR_EQUAL" "Lcom/example/cantilever/cantilever/xpath/Comparison$Operator;" (.ref aLE) ∧ Sta Z h "com/example/cantilever/cantilever/xpath/Comparison$Operator" "GREATER" "Lcom/example/cantilever/cantilever/xpath/Comparison$Operator;" (.ref aG) ∧ Sta Z h "com/example/cantilever/cantilever/xpath/Comparison$Operator" "GREATER_OR_EQUAL" "Lcom/example/cantilever/cantilever/xpath/Comparison$Operator;" (.ref aGE)
def Pk (k : Int32) (r aE aNE aL aLE aG aGE : Addr) : Prop := (k = 0 ∧ aE = r) ∨ (k = 1 ∧ aNE = r) ∨ (k = 2 ∧ aL = r) ∨ (k = 3 ∧ aLE = r) ∨ (k = 4 ∧ aG = r) ∨ (k = 5 ∧ aGE = r)
def Mk (k : Int32) (a1 r aE aNE aL aLE aG aGE : Addr) : Prop := (k = 0 ∧ a1 = r) ∨ (k = 1 ∧ a1 = r) ∨ (k = 2 ∧ aG = r) ∨ (k = 3 ∧ aGE = r) ∨ (k = 4 ∧ aL = r) ∨ (k = 5 ∧ aLE = r)
theorem own_ne {Z : State} {h : Heap} {a b : Addr} {C n d : String} {i j : Int32} (F : Fld Z h a C n d (.int i)) (G : Fld Z h b C n d (.int j)) (hn : ¬ (i = j)) : ¬ (a = b) := fun e => by
  subst e
  obtain ⟨cell, cf, k, ix, f, h1, h2, -, -, -, -, h7⟩ := F
  obtain ⟨cell', cf', k', ix', f', g1, g2, -, -, -, -, g7⟩ := G
  cases h1.symm.trans g1
  cases h2.symm.trans g2
  cases h7.symm.trans g7
  exact hn rfl
theorem own_mod6 (x : Int32) : (x &&& (2147483647 : Int32)) % (6 : Int32) = (0 : Int32) ∨ (x &&& (2147483647 : Int32)) % (6 : Int32) = (1 : Int32) ∨ (x &&& (2147483647 : Int32)) % (6 : Int32) = (2 : Int32) ∨ (x &&& (2147483647 : Int32)) % (6 : Int32) = (3 : Int32) ∨ (x &&& (2147483647 : Int32)) % (6 : Int32) = (4 : Int32) ∨ (x &&& (2147483647 : Int32)) % (6 : Int32) = (5 : Int32) := by
  have h1 := c_mask x 2147483647 31 (by decide) (by decide)
  have h2 := (c_irem (x &&& 2147483647) 6 6 (by decide)).1 (by omega)
  have h3 : ((x &&& 2147483647) % 6).toInt = 0 ∨ ((x &&& 2147483647) % 6).toInt = 1 ∨ ((x &&& 2147483647) % 6).toInt = 2 ∨ ((x &&& 2147483647) % 6).toInt = 3 ∨ ((x &&& 2147483647) % 6).toInt = 4 ∨ ((x &&& 2147483647) % 6).toInt = 5 := by omega
  generalize (x &&& 2147483647) % 6 = k at h3 ⊢
  rcases h3 with h | h | h | h | h | h
  · exact Or.inl (Int32.toInt_inj.mp (h.trans (by decide)))
  · exact Or.inr (Or.inl (Int32.toInt_inj.mp (h.trans (by decide))))
  · exact Or.inr (Or.inr (Or.inl (Int32.toInt_inj.mp (h.trans (by decide)))))
  · exact Or.inr (Or.inr (Or.inr (Or.inl (Int32.toInt_inj.mp (h.trans (by decide))))))
  · exact Or.inr (Or.inr (Or.inr (Or.inr (Or.inl (Int32.toInt_inj.mp (h.trans (by decide)))))))
  · exact Or.inr (Or.inr (Or.inr (Or.inr (Or.inr ((Int32.toInt_inj.mp (h.trans (by decide))))))))
theorem ef_4 (m : MethodId) (a1 : Addr) : entryFrame m #[(.ref a1)] 1 = mkF m 0 #[.val (.ref a1)] [] := by first | (simp [entryFrame, mkF, argsToLocals, Value.category]; done) | rfl
theorem pn_4 : plainName "java/lang/Enum" = true := by first | (simp [plainName, overriddenIn]; done) | decide +kernel
theorem d4_0 : decode jdk_37_method_2_code 0 = .ok (.aload_n 0, 1) := by decide +kernel
theorem d4_1 : decode jdk_37_method_2_code 1 = .ok (.getfield 7, 3) := by decide +kernel
theorem d4_4 : decode jdk_37_method_2_code 4 = .ok (.ireturn, 1) := by decide +kernel
theorem ef_1 (m : MethodId) (p1 : Int32) : entryFrame m #[(.int p1)] 1 = mkF m 0 #[.val (.int p1)] [] := by first | (simp [entryFrame, mkF, argsToLocals, Value.category]; done) | rfl
theorem pn_1 : plainName "com/example/cantilever/cantilever/xpath/OperatorIsEqualityPinLaw" = true := by first | (simp [plainName, overriddenIn]; done) | decide +kernel
theorem d1_0 : decode method_2_code 0 = .ok (.iload_n 0, 1) := by decide +kernel
theorem d1_1 : decode method_2_code 1 = .ok (.ifCond .ne 7, 3) := by decide +kernel
theorem d1_4 : decode method_2_code 4 = .ok (.getstatic 7, 3) := by decide +kernel
theorem d1_7 : decode method_2_code 7 = .ok (.areturn, 1) := by decide +kernel
theorem d1_8 : decode method_2_code 8 = .ok (.iload_n 0, 1) := by decide +kernel
theorem d1_9 : decode method_2_code 9 = .ok (.iconst 1, 1) := by decide +kernel
theorem d1_10 : decode method_2_code 10 = .ok (.if_icmp .ne 7, 3) := by decide +kernel
theorem d1_13 : decode method_2_code 13 = .ok (.getstatic 13, 3) := by decide +kernel
theorem d1_16 : decode method_2_code 16 = .ok (.areturn, 1) := by decide +kernel
theorem d1_17 : decode method_2_code 17 = .ok (.iload_n 0, 1) := by decide +kernel
theorem d1_18 : decode method_2_code 18 = .ok (.iconst 2, 1) := by decide +kernel
theorem d1_19 : decode method_2_code 19 = .ok (.if_icmp .ne 7, 3) := by decide +kernel
theorem d1_22 : decode method_2_code 22 = .ok (.getstatic 16, 3) := by decide +kernel
theorem d1_25 : decode method_2_code 25 = .ok (.areturn, 1) := by decide +kernel
theorem d1_26 : decode method_2_code 26 = .ok (.iload_n 0, 1) := by decide +kernel
theorem d1_27 : decode method_2_code 27 = .ok (.iconst 3, 1) := by decide +kernel
theorem d1_28 : decode method_2_code 28 = .ok (.if_icmp .ne 7, 3) := by decide +kernel
theorem d1_31 : decode method_2_code 31 = .ok (.getstatic 19, 3) := by decide +kernel
theorem d1_34 : decode method_2_code 34 = .ok (.areturn, 1) := by decide +kernel
theorem d1_35 : decode method_2_code 35 = .ok (.iload_n 0, 1) := by decide +kernel
theorem d1_36 : decode method_2_code 36 = .ok (.iconst 4, 1) := by decide +kernel
theorem d1_37 : decode method_2_code 37 = .ok (.if_icmp .ne 7, 3) := by decide +kernel
theorem d1_40 : decode method_2_code 40 = .ok (.getstatic 22, 3) := by decide +kernel
theorem d1_43 : decode method_2_code 43 = .ok (.areturn, 1) := by decide +kernel
theorem d1_44 : decode method_2_code 44 = .ok (.getstatic 25, 3) := by decide +kernel
theorem d1_47 : decode method_2_code 47 = .ok (.areturn, 1) := by decide +kernel
theorem ef_2 (m : MethodId) (a1 : Addr) : entryFrame m #[(.ref a1)] 1 = mkF m 0 #[.val (.ref a1)] [] := by first | (simp [entryFrame, mkF, argsToLocals, Value.category]; done) | rfl
theorem pn_2 : plainName "com/example/cantilever/cantilever/xpath/Comparison$Operator" = true := by first | (simp [plainName, overriddenIn]; done) | decide +kernel
theorem d2_0 : decode prog_211_method_5_code 0 = .ok (.aload_n 0, 1) := by decide +kernel
theorem d2_1 : decode prog_211_method_5_code 1 = .ok (.getstatic 3, 3) := by decide +kernel
theorem d2_4 : decode prog_211_method_5_code 4 = .ok (.if_acmp .eq 10, 3) := by decide +kernel
theorem d2_14 : decode prog_211_method_5_code 14 = .ok (.iconst 1, 1) := by decide +kernel
theorem d2_15 : decode prog_211_method_5_code 15 = .ok (.goto 4, 3) := by decide +kernel
theorem d2_19 : decode prog_211_method_5_code 19 = .ok (.ireturn, 1) := by decide +kernel
theorem d2_7 : decode prog_211_method_5_code 7 = .ok (.aload_n 0, 1) := by decide +kernel
theorem d2_8 : decode prog_211_method_5_code 8 = .ok (.getstatic 7, 3) := by decide +kernel
theorem d2_11 : decode prog_211_method_5_code 11 = .ok (.if_acmp .ne 7, 3) := by decide +kernel
theorem d2_18 : decode prog_211_method_5_code 18 = .ok (.iconst 0, 1) := by decide +kernel
theorem ef_3 (m : MethodId) (a1 : Addr) : entryFrame m #[(.ref a1)] 1 = mkF m 0 #[.val (.ref a1)] [] := by first | (simp [entryFrame, mkF, argsToLocals, Value.category]; done) | rfl
theorem pn_3 : plainName "com/example/cantilever/cantilever/xpath/Comparison$Operator" = true := by first | (simp [plainName, overriddenIn]; done) | decide +kernel
theorem d3_0 : decode prog_211_method_4_code 0 = .ok (.aload_n 0, 1) := by decide +kernel
theorem d3_1 : decode prog_211_method_4_code 1 = .ok (.invokevirtual 41, 3) := by decide +kernel
theorem pd___I : parseMethodDescriptor "()I" = some ⟨[], some .int⟩ := by decide +kernel
theorem d3_4 : decode prog_211_method_4_code 4 = .ok (.tableswitch 48 2 5 #[32, 36, 40, 44], 32) := by decide +kernel
theorem d3_52 : decode prog_211_method_4_code 52 = .ok (.aload_n 0, 1) := by decide +kernel
theorem d3_53 : decode prog_211_method_4_code 53 = .ok (.areturn, 1) := by decide +kernel
theorem d3_36 : decode prog_211_method_4_code 36 = .ok (.getstatic 16, 3) := by decide +kernel
theorem d3_39 : decode prog_211_method_4_code 39 = .ok (.areturn, 1) := by decide +kernel
theorem d3_40 : decode prog_211_method_4_code 40 = .ok (.getstatic 19, 3) := by decide +kernel
theorem d3_43 : decode prog_211_method_4_code 43 = .ok (.areturn, 1) := by decide +kernel
theorem d3_44 : decode prog_211_method_4_code 44 = .ok (.getstatic 10, 3) := by decide +kernel
theorem d3_47 : decode prog_211_method_4_code 47 = .ok (.areturn, 1) := by decide +kernel
theorem d3_48 : decode prog_211_method_4_code 48 = .ok (.getstatic 13, 3) := by decide +kernel
theorem d3_51 : decode prog_211_method_4_code 51 = .ok (.areturn, 1) := by decide +kernel
theorem ef_0 (m : MethodId) (p1 : Int32) : entryFrame m #[(.int p1)] maxLocals = mkF m 0 #[.val (.int p1), .unset, .unset, .unset, .unset, .unset] [] := by first | (simp [entryFrame, mkF, argsToLocals, Value.category, maxLocals]; done) | rfl
theorem pn_0 : plainName "com/example/cantilever/cantilever/xpath/OperatorIsEqualityPinLaw" = true := by first | (simp [plainName, overriddenIn]; done) | decide +kernel
theorem pd__I_Lcom_example_cantilever_cantilever_xpath_Comparison_Operator_ : parseMethodDescriptor "(I)Lcom/example/cantilever/cantilever/xpath/Comparison$Operator;" = some ⟨[.int], some (.object "com/example/cantilever/cantilever/xpath/Comparison$Operator")⟩ := by decide +kernel
theorem pd___Z : parseMethodDescriptor "()Z" = some ⟨[], some .boolean⟩ := by decide +kernel
theorem pd___Lcom_example_cantilever_cantilever_xpath_Comparison_Operator_ : parseMethodDescriptor "()Lcom/example/cantilever/cantilever/xpath/Comparison$Operator;" = some ⟨[], some (.object "com/example/cantilever/cantilever/xpath/Comparison$Operator")⟩ := by decide +kernel
set_option maxRecDepth 65536 in
set_option maxHeartbeats 40000000 in
theorem rm4 (l : Launch) (Z : State) (a0 : Array Value) (hw : ∀ d ∈ tables_1, d.before a0 Z = true) (ws : List Jvm.Cond) (a1 : Addr) (w : Int32) (h0 : Heap) (n0 : Nat) (F : Fld Z h0 a1 "java/lang/Enum" "ordinal" "I" (.int w)) :
    MetFree l (⟨"java/lang/Enum", "ordinal", "()I"⟩ : MethodName) (head1 (Jvm.Cond.code (⟨"java/lang/Enum", "ordinal", "()I"⟩ : MethodName) jdk_37_method_2_code 1 (some .int) :: ws) ({ frames := 0, cells := 0, slots := 0, locals := 0 } : Room)) (fun a U => a = #[(.ref a1)] ∧ Z.Warmed39 U.vm ∧ U.heap = h0) (fun _ _ _ _ _ => True) (fun _ U o U' => ∃ v L, o = .returned v ∧ QV (.int w) h0 n0 v U'.heap L ∧ FrameEnd U o U' L ({ frames := 0, cells := 0, slots := 0, locals := 0 } : Room).cells ({ frames := 0, cells := 0, slots := 0, locals := 0 } : Room).slots) := by
  refine metRun (Z := Z) (plainFor_of_name pn_4) (fun m => ef_4 m a1) ?_
  intro p e s m below meth c s₁ X0 hx hby hml hown hnm hret hZ e0 e00
  replace hown : s.vm.findClass "java/lang/Enum" = some m.cls := hown
  have N0 := Fr.nil n0
  obtain ⟨T1, X1, e1, st1⟩ := getF X0 hx hZ hown (host := "") (Or.inl (hw _ (List.mem_of_getElem? (i := 26) rfl))) Via.refl e0 F (g := (mkF m 1 #[.val (.ref a1)] [(.ref a1)])) rfl rfl (hb hby d4_1)
  refine Run.step (T1 := T1) (g1 := (mkF m 4 #[.val (.ref a1)] [(.int w)])) (fun target kt => ?_) ?_
  · show Steps p.tables e below (s₁.setTop (mkF m 0 #[.val (.ref a1)] [])) _
    refine XS.aloadN X0.here hx rfl (hb hby d4_0) rfl rfl ?_
    show Steps p.tables e below (s₁.setTop (mkF m 1 #[.val (.ref a1)] [(.ref a1)])) _
    refine st1 _ ?_
    exact kt
  exact Run.retG X1 hx (t := .int) hret rfl (Or.inl ⟨rfl, Or.inl rfl, _, rfl⟩) (hb hby d4_4) ⟨Nat.le_refl _, Nat.le_refl _, rfl, N0, e1⟩
set_option maxRecDepth 65536 in
set_option maxHeartbeats 40000000 in
theorem rm1 (l : Launch) (Z : State) (a0 : Array Value) (hw : ∀ d ∈ tables_1, d.before a0 Z = true) (ws : List Jvm.Cond) (p1 : Int32) (r aE aNE aL aLE aG aGE : Addr) (h0 : Heap) (n0 : Nat) (O : Ops Z h0 aE aNE aL aLE aG aGE) (P : Pk p1 r aE aNE aL aLE aG aGE) :
    MetFree l (⟨"com/example/cantilever/cantilever/xpath/OperatorIsEqualityPinLaw", "pick", "(I)Lcom/example/cantilever/cantilever/xpath/Comparison$Operator;"⟩ : MethodName) (head1 (Jvm.Cond.code (⟨"com/example/cantilever/cantilever/xpath/OperatorIsEqualityPinLaw", "pick", "(I)Lcom/example/cantilever/cantilever/xpath/Comparison$Operator;"⟩ : MethodName) method_2_code 1 (some (.object "com/example/cantilever/cantilever/xpath/Comparison$Operator")) :: ws) ({ frames := 0, cells := 0, slots := 0, locals := 0 } : Room)) (fun a U => a = #[(.int p1)] ∧ Z.Warmed39 U.vm ∧ U.heap = h0) (fun _ _ _ _ _ => True) (fun _ U o U' => ∃ v L, o = .returned v ∧ QV (.ref r) h0 n0 v U'.heap L ∧ FrameEnd U o U' L ({ frames := 0, cells := 0, slots := 0, locals := 0 } : Room).cells ({ frames := 0, cells := 0, slots := 0, locals := 0 } : Room).slots) := by
  obtain ⟨S_EQUAL, S_NOT_EQUAL, S_LESS, S_LESS_OR_EQUAL, S_GREATER, S_GREATER_OR_EQUAL⟩ := O
  rcases P with ⟨rfl, rfl⟩ | ⟨rfl, rfl⟩ | ⟨rfl, rfl⟩ | ⟨rfl, rfl⟩ | ⟨rfl, rfl⟩ | ⟨rfl, rfl⟩
  · refine metRun (Z := Z) (plainFor_of_name pn_1) (fun m => ef_1 m (0 : Int32)) ?_
    intro p e s m below meth c s₁ X0 hx hby hml hown hnm hret hZ e0 e00
    replace hown : s.vm.findClass "com/example/cantilever/cantilever/xpath/OperatorIsEqualityPinLaw" = some m.cls := hown
    have N0 := Fr.nil n0
    obtain ⟨T2, X2, e2, st2⟩ := getS2 X0 hx hZ hown (host := "") (Or.inl (hw _ (List.mem_of_getElem? (i := 5) rfl))) Via.refl e0 S_EQUAL (g := (mkF m 4 #[.val (.int (0 : Int32))] [])) rfl (hb hby d1_4)
    refine Run.step (T1 := T2) (g1 := (mkF m 7 #[.val (.int (0 : Int32))] [(.ref aE)])) (fun target kt => ?_) ?_
    · show Steps p.tables e below (s₁.setTop (mkF m 0 #[.val (.int (0 : Int32))] [])) _
      refine XS.iloadN X0.here hx rfl (hb hby d1_0) rfl ?_
      show Steps p.tables e below (s₁.setTop (mkF m 1 #[.val (.int (0 : Int32))] [(.int (0 : Int32))])) _
      refine XS.ifNo X0.here hx rfl (hb hby d1_1) rfl ((if0 _ _).trans (teq (by decide : (0 : Int32) = (0 : Int32))).2) ?_
      show Steps p.tables e below (s₁.setTop (mkF m 4 #[.val (.int (0 : Int32))] [])) _
      refine st2 _ ?_
      exact kt
    exact Run.retG X2 hx (t := (.object "com/example/cantilever/cantilever/xpath/Comparison$Operator")) hret rfl (Or.inr (Or.inr (Or.inr (Or.inr ⟨rfl, rfl, rfl⟩)))) (hb hby d1_7) ⟨Nat.le_refl _, Nat.le_refl _, rfl, N0, e2⟩
  · refine metRun (Z := Z) (plainFor_of_name pn_1) (fun m => ef_1 m (1 : Int32)) ?_
    intro p e s m below meth c s₁ X0 hx hby hml hown hnm hret hZ e0 e00
    replace hown : s.vm.findClass "com/example/cantilever/cantilever/xpath/OperatorIsEqualityPinLaw" = some m.cls := hown
    have N0 := Fr.nil n0
    obtain ⟨T3, X3, e3, st3⟩ := getS2 X0 hx hZ hown (host := "") (Or.inl (hw _ (List.mem_of_getElem? (i := 38) rfl))) Via.refl e0 S_NOT_EQUAL (g := (mkF m 13 #[.val (.int (1 : Int32))] [])) rfl (hb hby d1_13)
    refine Run.step (T1 := T3) (g1 := (mkF m 16 #[.val (.int (1 : Int32))] [(.ref aNE)])) (fun target kt => ?_) ?_
    · show Steps p.tables e below (s₁.setTop (mkF m 0 #[.val (.int (1 : Int32))] [])) _
      refine XS.iloadN X0.here hx rfl (hb hby d1_0) rfl ?_
      show Steps p.tables e below (s₁.setTop (mkF m 1 #[.val (.int (1 : Int32))] [(.int (1 : Int32))])) _
      refine XS.ifYes X0.here hx rfl (pc0 := 1) (pc' := 8) rfl (hb hby d1_1) rfl ((if0 _ _).trans (feq (by decide : ¬ ((1 : Int32) = (0 : Int32)))).2) (by decide) (by decide) ?_
      show Steps p.tables e below (s₁.setTop (mkF m 8 #[.val (.int (1 : Int32))] [])) _
      refine XS.iloadN X0.here hx rfl (hb hby d1_8) rfl ?_
      show Steps p.tables e below (s₁.setTop (mkF m 9 #[.val (.int (1 : Int32))] [(.int (1 : Int32))])) _
      refine XS.iconst X0.here hx rfl (hb hby d1_9) ?_
      show Steps p.tables e below (s₁.setTop (mkF m 10 #[.val (.int (1 : Int32))] [(.int (1 : Int32)), (.int (1 : Int32))])) _
      refine XS.icmpNo X0.here hx rfl (hb hby d1_10) rfl (teq (by decide : (1 : Int32) = (1 : Int32))).2 ?_
      show Steps p.tables e below (s₁.setTop (mkF m 13 #[.val (.int (1 : Int32))] [])) _
      refine st3 _ ?_
      exact kt
    exact Run.retG X3 hx (t := (.object "com/example/cantilever/cantilever/xpath/Comparison$Operator")) hret rfl (Or.inr (Or.inr (Or.inr (Or.inr ⟨rfl, rfl, rfl⟩)))) (hb hby d1_16) ⟨Nat.le_refl _, Nat.le_refl _, rfl, N0, e3⟩
  · refine metRun (Z := Z) (plainFor_of_name pn_1) (fun m => ef_1 m (2 : Int32)) ?_
    intro p e s m below meth c s₁ X0 hx hby hml hown hnm hret hZ e0 e00
    replace hown : s.vm.findClass "com/example/cantilever/cantilever/xpath/OperatorIsEqualityPinLaw" = some m.cls := hown
    have N0 := Fr.nil n0
    obtain ⟨T4, X4, e4, st4⟩ := getS2 X0 hx hZ hown (host := "") (Or.inl (hw _ (List.mem_of_getElem? (i := 34) rfl))) Via.refl e0 S_LESS (g := (mkF m 22 #[.val (.int (2 : Int32))] [])) rfl (hb hby d1_22)
    refine Run.step (T1 := T4) (g1 := (mkF m 25 #[.val (.int (2 : Int32))] [(.ref aL)])) (fun target kt => ?_) ?_
    · show Steps p.tables e below (s₁.setTop (mkF m 0 #[.val (.int (2 : Int32))] [])) _
      refine XS.iloadN X0.here hx rfl (hb hby d1_0) rfl ?_
      show Steps p.tables e below (s₁.setTop (mkF m 1 #[.val (.int (2 : Int32))] [(.int (2 : Int32))])) _
      refine XS.ifYes X0.here hx rfl (pc0 := 1) (pc' := 8) rfl (hb hby d1_1) rfl ((if0 _ _).trans (feq (by decide : ¬ ((2 : Int32) = (0 : Int32)))).2) (by decide) (by decide) ?_
      show Steps p.tables e below (s₁.setTop (mkF m 8 #[.val (.int (2 : Int32))] [])) _
      refine XS.iloadN X0.here hx rfl (hb hby d1_8) rfl ?_
      show Steps p.tables e below (s₁.setTop (mkF m 9 #[.val (.int (2 : Int32))] [(.int (2 : Int32))])) _
      refine XS.iconst X0.here hx rfl (hb hby d1_9) ?_
      show Steps p.tables e below (s₁.setTop (mkF m 10 #[.val (.int (2 : Int32))] [(.int (1 : Int32)), (.int (2 : Int32))])) _
      refine XS.icmpYes X0.here hx rfl (pc0 := 10) (pc' := 17) rfl (hb hby d1_10) rfl (feq (by decide : ¬ ((2 : Int32) = (1 : Int32)))).2 (by decide) (by decide) ?_
      show Steps p.tables e below (s₁.setTop (mkF m 17 #[.val (.int (2 : Int32))] [])) _
      refine XS.iloadN X0.here hx rfl (hb hby d1_17) rfl ?_
      show Steps p.tables e below (s₁.setTop (mkF m 18 #[.val (.int (2 : Int32))] [(.int (2 : Int32))])) _
      refine XS.iconst X0.here hx rfl (hb hby d1_18) ?_
      show Steps p.tables e below (s₁.setTop (mkF m 19 #[.val (.int (2 : Int32))] [(.int (2 : Int32)), (.int (2 : Int32))])) _
      refine XS.icmpNo X0.here hx rfl (hb hby d1_19) rfl (teq (by decide : (2 : Int32) = (2 : Int32))).2 ?_
      show Steps p.tables e below (s₁.setTop (mkF m 22 #[.val (.int (2 : Int32))] [])) _
      refine st4 _ ?_
      exact kt
    exact Run.retG X4 hx (t := (.object "com/example/cantilever/cantilever/xpath/Comparison$Operator")) hret rfl (Or.inr (Or.inr (Or.inr (Or.inr ⟨rfl, rfl, rfl⟩)))) (hb hby d1_25) ⟨Nat.le_refl _, Nat.le_refl _, rfl, N0, e4⟩
  · refine metRun (Z := Z) (plainFor_of_name pn_1) (fun m => ef_1 m (3 : Int32)) ?_
    intro p e s m below meth c s₁ X0 hx hby hml hown hnm hret hZ e0 e00
    replace hown : s.vm.findClass "com/example/cantilever/cantilever/xpath/OperatorIsEqualityPinLaw" = some m.cls := hown
    have N0 := Fr.nil n0
    obtain ⟨T5, X5, e5, st5⟩ := getS2 X0 hx hZ hown (host := "") (Or.inl (hw _ (List.mem_of_getElem? (i := 28) rfl))) Via.refl e0 S_LESS_OR_EQUAL (g := (mkF m 31 #[.val (.int (3 : Int32))] [])) rfl (hb hby d1_31)
    refine Run.step (T1 := T5) (g1 := (mkF m 34 #[.val (.int (3 : Int32))] [(.ref aLE)])) (fun target kt => ?_) ?_
    · show Steps p.tables e below (s₁.setTop (mkF m 0 #[.val (.int (3 : Int32))] [])) _
      refine XS.iloadN X0.here hx rfl (hb hby d1_0) rfl ?_
      show Steps p.tables e below (s₁.setTop (mkF m 1 #[.val (.int (3 : Int32))] [(.int (3 : Int32))])) _
      refine XS.ifYes X0.here hx rfl (pc0 := 1) (pc' := 8) rfl (hb hby d1_1) rfl ((if0 _ _).trans (feq (by decide : ¬ ((3 : Int32) = (0 : Int32)))).2) (by decide) (by decide) ?_
      show Steps p.tables e below (s₁.setTop (mkF m 8 #[.val (.int (3 : Int32))] [])) _
      refine XS.iloadN X0.here hx rfl (hb hby d1_8) rfl ?_
      show Steps p.tables e below (s₁.setTop (mkF m 9 #[.val (.int (3 : Int32))] [(.int (3 : Int32))])) _
      refine XS.iconst X0.here hx rfl (hb hby d1_9) ?_
      show Steps p.tables e below (s₁.setTop (mkF m 10 #[.val (.int (3 : Int32))] [(.int (1 : Int32)), (.int (3 : Int32))])) _
      refine XS.icmpYes X0.here hx rfl (pc0 := 10) (pc' := 17) rfl (hb hby d1_10) rfl (feq (by decide : ¬ ((3 : Int32) = (1 : Int32)))).2 (by decide) (by decide) ?_
      show Steps p.tables e below (s₁.setTop (mkF m 17 #[.val (.int (3 : Int32))] [])) _
      refine XS.iloadN X0.here hx rfl (hb hby d1_17) rfl ?_
      show Steps p.tables e below (s₁.setTop (mkF m 18 #[.val (.int (3 : Int32))] [(.int (3 : Int32))])) _
      refine XS.iconst X0.here hx rfl (hb hby d1_18) ?_
      show Steps p.tables e below (s₁.setTop (mkF m 19 #[.val (.int (3 : Int32))] [(.int (2 : Int32)), (.int (3 : Int32))])) _
      refine XS.icmpYes X0.here hx rfl (pc0 := 19) (pc' := 26) rfl (hb hby d1_19) rfl (feq (by decide : ¬ ((3 : Int32) = (2 : Int32)))).2 (by decide) (by decide) ?_
      show Steps p.tables e below (s₁.setTop (mkF m 26 #[.val (.int (3 : Int32))] [])) _
      refine XS.iloadN X0.here hx rfl (hb hby d1_26) rfl ?_
      show Steps p.tables e below (s₁.setTop (mkF m 27 #[.val (.int (3 : Int32))] [(.int (3 : Int32))])) _
      refine XS.iconst X0.here hx rfl (hb hby d1_27) ?_
      show Steps p.tables e below (s₁.setTop (mkF m 28 #[.val (.int (3 : Int32))] [(.int (3 : Int32)), (.int (3 : Int32))])) _
      refine XS.icmpNo X0.here hx rfl (hb hby d1_28) rfl (teq (by decide : (3 : Int32) = (3 : Int32))).2 ?_
      show Steps p.tables e below (s₁.setTop (mkF m 31 #[.val (.int (3 : Int32))] [])) _
      refine st5 _ ?_
      exact kt
    exact Run.retG X5 hx (t := (.object "com/example/cantilever/cantilever/xpath/Comparison$Operator")) hret rfl (Or.inr (Or.inr (Or.inr (Or.inr ⟨rfl, rfl, rfl⟩)))) (hb hby d1_34) ⟨Nat.le_refl _, Nat.le_refl _, rfl, N0, e5⟩
  · refine metRun (Z := Z) (plainFor_of_name pn_1) (fun m => ef_1 m (4 : Int32)) ?_
    intro p e s m below meth c s₁ X0 hx hby hml hown hnm hret hZ e0 e00
    replace hown : s.vm.findClass "com/example/cantilever/cantilever/xpath/OperatorIsEqualityPinLaw" = some m.cls := hown
    have N0 := Fr.nil n0
    obtain ⟨T6, X6, e6, st6⟩ := getS2 X0 hx hZ hown (host := "") (Or.inl (hw _ (List.mem_of_getElem? (i := 41) rfl))) Via.refl e0 S_GREATER (g := (mkF m 40 #[.val (.int (4 : Int32))] [])) rfl (hb hby d1_40)
    refine Run.step (T1 := T6) (g1 := (mkF m 43 #[.val (.int (4 : Int32))] [(.ref aG)])) (fun target kt => ?_) ?_
    · show Steps p.tables e below (s₁.setTop (mkF m 0 #[.val (.int (4 : Int32))] [])) _
      refine XS.iloadN X0.here hx rfl (hb hby d1_0) rfl ?_
      show Steps p.tables e below (s₁.setTop (mkF m 1 #[.val (.int (4 : Int32))] [(.int (4 : Int32))])) _
      refine XS.ifYes X0.here hx rfl (pc0 := 1) (pc' := 8) rfl (hb hby d1_1) rfl ((if0 _ _).trans (feq (by decide : ¬ ((4 : Int32) = (0 : Int32)))).2) (by decide) (by decide) ?_
      show Steps p.tables e below (s₁.setTop (mkF m 8 #[.val (.int (4 : Int32))] [])) _
      refine XS.iloadN X0.here hx rfl (hb hby d1_8) rfl ?_
      show Steps p.tables e below (s₁.setTop (mkF m 9 #[.val (.int (4 : Int32))] [(.int (4 : Int32))])) _
      refine XS.iconst X0.here hx rfl (hb hby d1_9) ?_
      show Steps p.tables e below (s₁.setTop (mkF m 10 #[.val (.int (4 : Int32))] [(.int (1 : Int32)), (.int (4 : Int32))])) _
      refine XS.icmpYes X0.here hx rfl (pc0 := 10) (pc' := 17) rfl (hb hby d1_10) rfl (feq (by decide : ¬ ((4 : Int32) = (1 : Int32)))).2 (by decide) (by decide) ?_
      show Steps p.tables e below (s₁.setTop (mkF m 17 #[.val (.int (4 : Int32))] [])) _
      refine XS.iloadN X0.here hx rfl (hb hby d1_17) rfl ?_
      show Steps p.tables e below (s₁.setTop (mkF m 18 #[.val (.int (4 : Int32))] [(.int (4 : Int32))])) _
      refine XS.iconst X0.here hx rfl (hb hby d1_18) ?_
      show Steps p.tables e below (s₁.setTop (mkF m 19 #[.val (.int (4 : Int32))] [(.int (2 : Int32)), (.int (4 : Int32))])) _
      refine XS.icmpYes X0.here hx rfl (pc0 := 19) (pc' := 26) rfl (hb hby d1_19) rfl (feq (by decide : ¬ ((4 : Int32) = (2 : Int32)))).2 (by decide) (by decide) ?_
      show Steps p.tables e below (s₁.setTop (mkF m 26 #[.val (.int (4 : Int32))] [])) _
      refine XS.iloadN X0.here hx rfl (hb hby d1_26) rfl ?_
      show Steps p.tables e below (s₁.setTop (mkF m 27 #[.val (.int (4 : Int32))] [(.int (4 : Int32))])) _
      refine XS.iconst X0.here hx rfl (hb hby d1_27) ?_
      show Steps p.tables e below (s₁.setTop (mkF m 28 #[.val (.int (4 : Int32))] [(.int (3 : Int32)), (.int (4 : Int32))])) _
      refine XS.icmpYes X0.here hx rfl (pc0 := 28) (pc' := 35) rfl (hb hby d1_28) rfl (feq (by decide : ¬ ((4 : Int32) = (3 : Int32)))).2 (by decide) (by decide) ?_
      show Steps p.tables e below (s₁.setTop (mkF m 35 #[.val (.int (4 : Int32))] [])) _
      refine XS.iloadN X0.here hx rfl (hb hby d1_35) rfl ?_
      show Steps p.tables e below (s₁.setTop (mkF m 36 #[.val (.int (4 : Int32))] [(.int (4 : Int32))])) _
      refine XS.iconst X0.here hx rfl (hb hby d1_36) ?_
      show Steps p.tables e below (s₁.setTop (mkF m 37 #[.val (.int (4 : Int32))] [(.int (4 : Int32)), (.int (4 : Int32))])) _
      refine XS.icmpNo X0.here hx rfl (hb hby d1_37) rfl (teq (by decide : (4 : Int32) = (4 : Int32))).2 ?_
      show Steps p.tables e below (s₁.setTop (mkF m 40 #[.val (.int (4 : Int32))] [])) _
      refine st6 _ ?_
      exact kt
    exact Run.retG X6 hx (t := (.object "com/example/cantilever/cantilever/xpath/Comparison$Operator")) hret rfl (Or.inr (Or.inr (Or.inr (Or.inr ⟨rfl, rfl, rfl⟩)))) (hb hby d1_43) ⟨Nat.le_refl _, Nat.le_refl _, rfl, N0, e6⟩
  · refine metRun (Z := Z) (plainFor_of_name pn_1) (fun m => ef_1 m (5 : Int32)) ?_
    intro p e s m below meth c s₁ X0 hx hby hml hown hnm hret hZ e0 e00
    replace hown : s.vm.findClass "com/example/cantilever/cantilever/xpath/OperatorIsEqualityPinLaw" = some m.cls := hown
    have N0 := Fr.nil n0
    obtain ⟨T7, X7, e7, st7⟩ := getS2 X0 hx hZ hown (host := "") (Or.inl (hw _ (List.mem_of_getElem? (i := 39) rfl))) Via.refl e0 S_GREATER_OR_EQUAL (g := (mkF m 44 #[.val (.int (5 : Int32))] [])) rfl (hb hby d1_44)
    refine Run.step (T1 := T7) (g1 := (mkF m 47 #[.val (.int (5 : Int32))] [(.ref aGE)])) (fun target kt => ?_) ?_
    · show Steps p.tables e below (s₁.setTop (mkF m 0 #[.val (.int (5 : Int32))] [])) _
      refine XS.iloadN X0.here hx rfl (hb hby d1_0) rfl ?_
      show Steps p.tables e below (s₁.setTop (mkF m 1 #[.val (.int (5 : Int32))] [(.int (5 : Int32))])) _
      refine XS.ifYes X0.here hx rfl (pc0 := 1) (pc' := 8) rfl (hb hby d1_1) rfl ((if0 _ _).trans (feq (by decide : ¬ ((5 : Int32) = (0 : Int32)))).2) (by decide) (by decide) ?_
      show Steps p.tables e below (s₁.setTop (mkF m 8 #[.val (.int (5 : Int32))] [])) _
      refine XS.iloadN X0.here hx rfl (hb hby d1_8) rfl ?_
      show Steps p.tables e below (s₁.setTop (mkF m 9 #[.val (.int (5 : Int32))] [(.int (5 : Int32))])) _
      refine XS.iconst X0.here hx rfl (hb hby d1_9) ?_
      show Steps p.tables e below (s₁.setTop (mkF m 10 #[.val (.int (5 : Int32))] [(.int (1 : Int32)), (.int (5 : Int32))])) _
      refine XS.icmpYes X0.here hx rfl (pc0 := 10) (pc' := 17) rfl (hb hby d1_10) rfl (feq (by decide : ¬ ((5 : Int32) = (1 : Int32)))).2 (by decide) (by decide) ?_
      show Steps p.tables e below (s₁.setTop (mkF m 17 #[.val (.int (5 : Int32))] [])) _
      refine XS.iloadN X0.here hx rfl (hb hby d1_17) rfl ?_
      show Steps p.tables e below (s₁.setTop (mkF m 18 #[.val (.int (5 : Int32))] [(.int (5 : Int32))])) _
      refine XS.iconst X0.here hx rfl (hb hby d1_18) ?_
      show Steps p.tables e below (s₁.setTop (mkF m 19 #[.val (.int (5 : Int32))] [(.int (2 : Int32)), (.int (5 : Int32))])) _
      refine XS.icmpYes X0.here hx rfl (pc0 := 19) (pc' := 26) rfl (hb hby d1_19) rfl (feq (by decide : ¬ ((5 : Int32) = (2 : Int32)))).2 (by decide) (by decide) ?_
      show Steps p.tables e below (s₁.setTop (mkF m 26 #[.val (.int (5 : Int32))] [])) _
      refine XS.iloadN X0.here hx rfl (hb hby d1_26) rfl ?_
      show Steps p.tables e below (s₁.setTop (mkF m 27 #[.val (.int (5 : Int32))] [(.int (5 : Int32))])) _
      refine XS.iconst X0.here hx rfl (hb hby d1_27) ?_
      show Steps p.tables e below (s₁.setTop (mkF m 28 #[.val (.int (5 : Int32))] [(.int (3 : Int32)), (.int (5 : Int32))])) _
      refine XS.icmpYes X0.here hx rfl (pc0 := 28) (pc' := 35) rfl (hb hby d1_28) rfl (feq (by decide : ¬ ((5 : Int32) = (3 : Int32)))).2 (by decide) (by decide) ?_
      show Steps p.tables e below (s₁.setTop (mkF m 35 #[.val (.int (5 : Int32))] [])) _
      refine XS.iloadN X0.here hx rfl (hb hby d1_35) rfl ?_
      show Steps p.tables e below (s₁.setTop (mkF m 36 #[.val (.int (5 : Int32))] [(.int (5 : Int32))])) _
      refine XS.iconst X0.here hx rfl (hb hby d1_36) ?_
      show Steps p.tables e below (s₁.setTop (mkF m 37 #[.val (.int (5 : Int32))] [(.int (4 : Int32)), (.int (5 : Int32))])) _
      refine XS.icmpYes X0.here hx rfl (pc0 := 37) (pc' := 44) rfl (hb hby d1_37) rfl (feq (by decide : ¬ ((5 : Int32) = (4 : Int32)))).2 (by decide) (by decide) ?_
      show Steps p.tables e below (s₁.setTop (mkF m 44 #[.val (.int (5 : Int32))] [])) _
      refine st7 _ ?_
      exact kt
    exact Run.retG X7 hx (t := (.object "com/example/cantilever/cantilever/xpath/Comparison$Operator")) hret rfl (Or.inr (Or.inr (Or.inr (Or.inr ⟨rfl, rfl, rfl⟩)))) (hb hby d1_47) ⟨Nat.le_refl _, Nat.le_refl _, rfl, N0, e7⟩
set_option maxRecDepth 65536 in
set_option maxHeartbeats 40000000 in
theorem rm2 (l : Launch) (Z : State) (a0 : Array Value) (hw : ∀ d ∈ tables_1, d.before a0 Z = true) (ws : List Jvm.Cond) (a1 : Addr) (b : Int32) (aE aNE aL aLE aG aGE : Addr) (h0 : Heap) (n0 : Nat) (O : Ops Z h0 aE aNE aL aLE aG aGE) (P : (aE = a1 ∧ (1 : Int32) = b) ∨ (¬ (a1 = aE) ∧ aNE = a1 ∧ (1 : Int32) = b) ∨ (¬ (a1 = aE) ∧ ¬ (a1 = aNE) ∧ (0 : Int32) = b)) :
    MetFree l (⟨"com/example/cantilever/cantilever/xpath/Comparison$Operator", "isEquality", "()Z"⟩ : MethodName) (head1 (Jvm.Cond.code (⟨"com/example/cantilever/cantilever/xpath/Comparison$Operator", "isEquality", "()Z"⟩ : MethodName) prog_211_method_5_code 1 (some .boolean) :: ws) ({ frames := 0, cells := 0, slots := 0, locals := 0 } : Room)) (fun a U => a = #[(.ref a1)] ∧ Z.Warmed39 U.vm ∧ U.heap = h0) (fun _ _ _ _ _ => True) (fun _ U o U' => ∃ v L, o = .returned v ∧ QV (.int b) h0 n0 v U'.heap L ∧ FrameEnd U o U' L ({ frames := 0, cells := 0, slots := 0, locals := 0 } : Room).cells ({ frames := 0, cells := 0, slots := 0, locals := 0 } : Room).slots) := by
  obtain ⟨S_EQUAL, S_NOT_EQUAL, S_LESS, S_LESS_OR_EQUAL, S_GREATER, S_GREATER_OR_EQUAL⟩ := O
  rcases P with ⟨rfl, rfl⟩ | ⟨h1, rfl, rfl⟩ | ⟨h1, h2, rfl⟩
  · refine metRun (Z := Z) (plainFor_of_name pn_2) (fun m => ef_2 m aE) ?_
    intro p e s m below meth c s₁ X0 hx hby hml hown hnm hret hZ e0 e00
    replace hown : s.vm.findClass "com/example/cantilever/cantilever/xpath/Comparison$Operator" = some m.cls := hown
    have N0 := Fr.nil n0
    obtain ⟨T8, X8, e8, st8⟩ := getS2 X0 hx hZ hown (host := "") (Or.inl (hw _ (List.mem_of_getElem? (i := 13) rfl))) Via.refl e0 S_EQUAL (g := (mkF m 1 #[.val (.ref aE)] [(.ref aE)])) rfl (hb hby d2_1)
    refine Run.step (T1 := T8) (g1 := (mkF m 19 #[.val (.ref aE)] [(.int (1 : Int32))])) (fun target kt => ?_) ?_
    · show Steps p.tables e below (s₁.setTop (mkF m 0 #[.val (.ref aE)] [])) _
      refine XS.aloadN X0.here hx rfl (hb hby d2_0) rfl rfl ?_
      show Steps p.tables e below (s₁.setTop (mkF m 1 #[.val (.ref aE)] [(.ref aE)])) _
      refine st8 _ ?_
      show Steps p.tables e below (T8.setTop (mkF m 4 #[.val (.ref aE)] [(.ref aE), (.ref aE)])) _
      refine Jvm.RoadKit.acmp (g := (mkF m 4 #[.val (.ref aE)] [(.ref aE), (.ref aE)])) X8 hx rfl rfl rfl (pc0 := 4) (pc' := 14) (same := true) rfl (hb hby d2_4) rfl (decide_eq_true rfl) (by decide) (by decide) ?_
      show Steps p.tables e below (T8.setTop (mkF m 14 #[.val (.ref aE)] [])) _
      refine XS.iconst X8.here hx rfl (hb hby d2_14) ?_
      show Steps p.tables e below (T8.setTop (mkF m 15 #[.val (.ref aE)] [(.int (1 : Int32))])) _
      refine XS.goto X8.here hx rfl (pc0 := 15) (pc' := 19) rfl (hb hby d2_15) (by decide) (by decide) ?_
      exact kt
    exact Run.retZ X8 hx (t := .boolean) hret (by simp) (hb hby d2_19) ⟨Nat.le_refl _, Nat.le_refl _, rfl, N0, e8⟩
  · refine metRun (Z := Z) (plainFor_of_name pn_2) (fun m => ef_2 m aNE) ?_
    intro p e s m below meth c s₁ X0 hx hby hml hown hnm hret hZ e0 e00
    replace hown : s.vm.findClass "com/example/cantilever/cantilever/xpath/Comparison$Operator" = some m.cls := hown
    have N0 := Fr.nil n0
    obtain ⟨T9, X9, e9, st9⟩ := getS2 X0 hx hZ hown (host := "") (Or.inl (hw _ (List.mem_of_getElem? (i := 13) rfl))) Via.refl e0 S_EQUAL (g := (mkF m 1 #[.val (.ref aNE)] [(.ref aNE)])) rfl (hb hby d2_1)
    obtain ⟨T10, X10, e10, st10⟩ := getS2 X9 hx hZ hown (host := "") (Or.inl (hw _ (List.mem_of_getElem? (i := 30) rfl))) Via.refl e9 S_NOT_EQUAL (g := (mkF m 8 #[.val (.ref aNE)] [(.ref aNE)])) rfl (hb hby d2_8)
    refine Run.step (T1 := T10) (g1 := (mkF m 19 #[.val (.ref aNE)] [(.int (1 : Int32))])) (fun target kt => ?_) ?_
    · show Steps p.tables e below (s₁.setTop (mkF m 0 #[.val (.ref aNE)] [])) _
      refine XS.aloadN X0.here hx rfl (hb hby d2_0) rfl rfl ?_
      show Steps p.tables e below (s₁.setTop (mkF m 1 #[.val (.ref aNE)] [(.ref aNE)])) _
      refine st9 _ ?_
      show Steps p.tables e below (T9.setTop (mkF m 4 #[.val (.ref aNE)] [(.ref aE), (.ref aNE)])) _
      refine Jvm.RoadKit.acmp (g := (mkF m 4 #[.val (.ref aNE)] [(.ref aE), (.ref aNE)])) X9 hx rfl rfl rfl (pc0 := 4) (pc' := 7) (same := false) rfl (hb hby d2_4) rfl (decide_eq_false fun q => h1 (Value.ref.inj q)) (by decide) (by decide) ?_
      show Steps p.tables e below (T9.setTop (mkF m 7 #[.val (.ref aNE)] [])) _
      refine XS.aloadN X9.here hx rfl (hb hby d2_7) rfl rfl ?_
      show Steps p.tables e below (T9.setTop (mkF m 8 #[.val (.ref aNE)] [(.ref aNE)])) _
      refine st10 _ ?_
      show Steps p.tables e below (T10.setTop (mkF m 11 #[.val (.ref aNE)] [(.ref aNE), (.ref aNE)])) _
      refine Jvm.RoadKit.acmp (g := (mkF m 11 #[.val (.ref aNE)] [(.ref aNE), (.ref aNE)])) X10 hx rfl rfl rfl (pc0 := 11) (pc' := 14) (same := true) rfl (hb hby d2_11) rfl (decide_eq_true rfl) (by decide) (by decide) ?_
      show Steps p.tables e below (T10.setTop (mkF m 14 #[.val (.ref aNE)] [])) _
      refine XS.iconst X10.here hx rfl (hb hby d2_14) ?_
      show Steps p.tables e below (T10.setTop (mkF m 15 #[.val (.ref aNE)] [(.int (1 : Int32))])) _
      refine XS.goto X10.here hx rfl (pc0 := 15) (pc' := 19) rfl (hb hby d2_15) (by decide) (by decide) ?_
      exact kt
    exact Run.retZ X10 hx (t := .boolean) hret (by simp) (hb hby d2_19) ⟨Nat.le_refl _, Nat.le_refl _, rfl, N0, e10⟩
  · refine metRun (Z := Z) (plainFor_of_name pn_2) (fun m => ef_2 m a1) ?_
    intro p e s m below meth c s₁ X0 hx hby hml hown hnm hret hZ e0 e00
    replace hown : s.vm.findClass "com/example/cantilever/cantilever/xpath/Comparison$Operator" = some m.cls := hown
    have N0 := Fr.nil n0
    obtain ⟨T11, X11, e11, st11⟩ := getS2 X0 hx hZ hown (host := "") (Or.inl (hw _ (List.mem_of_getElem? (i := 13) rfl))) Via.refl e0 S_EQUAL (g := (mkF m 1 #[.val (.ref a1)] [(.ref a1)])) rfl (hb hby d2_1)
    obtain ⟨T12, X12, e12, st12⟩ := getS2 X11 hx hZ hown (host := "") (Or.inl (hw _ (List.mem_of_getElem? (i := 30) rfl))) Via.refl e11 S_NOT_EQUAL (g := (mkF m 8 #[.val (.ref a1)] [(.ref a1)])) rfl (hb hby d2_8)
    refine Run.step (T1 := T12) (g1 := (mkF m 19 #[.val (.ref a1)] [(.int (0 : Int32))])) (fun target kt => ?_) ?_
    · show Steps p.tables e below (s₁.setTop (mkF m 0 #[.val (.ref a1)] [])) _
      refine XS.aloadN X0.here hx rfl (hb hby d2_0) rfl rfl ?_
      show Steps p.tables e below (s₁.setTop (mkF m 1 #[.val (.ref a1)] [(.ref a1)])) _
      refine st11 _ ?_
      show Steps p.tables e below (T11.setTop (mkF m 4 #[.val (.ref a1)] [(.ref aE), (.ref a1)])) _
      refine Jvm.RoadKit.acmp (g := (mkF m 4 #[.val (.ref a1)] [(.ref aE), (.ref a1)])) X11 hx rfl rfl rfl (pc0 := 4) (pc' := 7) (same := false) rfl (hb hby d2_4) rfl (decide_eq_false fun q => h1 (Value.ref.inj q)) (by decide) (by decide) ?_
      show Steps p.tables e below (T11.setTop (mkF m 7 #[.val (.ref a1)] [])) _
      refine XS.aloadN X11.here hx rfl (hb hby d2_7) rfl rfl ?_
      show Steps p.tables e below (T11.setTop (mkF m 8 #[.val (.ref a1)] [(.ref a1)])) _
      refine st12 _ ?_
      show Steps p.tables e below (T12.setTop (mkF m 11 #[.val (.ref a1)] [(.ref aNE), (.ref a1)])) _
      refine Jvm.RoadKit.acmp (g := (mkF m 11 #[.val (.ref a1)] [(.ref aNE), (.ref a1)])) X12 hx rfl rfl rfl (pc0 := 11) (pc' := 18) (same := false) rfl (hb hby d2_11) rfl (decide_eq_false fun q => h2 (Value.ref.inj q)) (by decide) (by decide) ?_
      show Steps p.tables e below (T12.setTop (mkF m 18 #[.val (.ref a1)] [])) _
      refine XS.iconst X12.here hx rfl (hb hby d2_18) ?_
      exact kt
    exact Run.retZ X12 hx (t := .boolean) hret (by simp) (hb hby d2_19) ⟨Nat.le_refl _, Nat.le_refl _, rfl, N0, e12⟩
set_option maxRecDepth 65536 in
set_option maxHeartbeats 40000000 in
theorem rm3 (l : Launch) (Z : State) (a0 : Array Value) (hw : ∀ d ∈ tables_1, d.before a0 Z = true) (ws : List Jvm.Cond) (a1 : Addr) (w : Int32) (r aE aNE aL aLE aG aGE : Addr) (h0 : Heap) (n0 : Nat) (O : Ops Z h0 aE aNE aL aLE aG aGE) (Ex : Exa Z h0 a1 "com/example/cantilever/cantilever/xpath/Comparison$Operator") (F : Fld Z h0 a1 "java/lang/Enum" "ordinal" "I" (.int w)) (P : Mk w a1 r aE aNE aL aLE aG aGE) :
    MetFree l (⟨"com/example/cantilever/cantilever/xpath/Comparison$Operator", "mirrored", "()Lcom/example/cantilever/cantilever/xpath/Comparison$Operator;"⟩ : MethodName) (head1 (Jvm.Cond.code (⟨"com/example/cantilever/cantilever/xpath/Comparison$Operator", "mirrored", "()Lcom/example/cantilever/cantilever/xpath/Comparison$Operator;"⟩ : MethodName) prog_211_method_4_code 1 (some (.object "com/example/cantilever/cantilever/xpath/Comparison$Operator")) :: ws) ({ frames := 1, cells := 0, slots := 0, locals := 12 } : Room)) (fun a U => a = #[(.ref a1)] ∧ Z.Warmed39 U.vm ∧ U.heap = h0) (fun _ _ _ _ _ => True) (fun _ U o U' => ∃ v L, o = .returned v ∧ QV (.ref r) h0 n0 v U'.heap L ∧ FrameEnd U o U' L ({ frames := 1, cells := 0, slots := 0, locals := 12 } : Room).cells ({ frames := 1, cells := 0, slots := 0, locals := 12 } : Room).slots) := by
  obtain ⟨S_EQUAL, S_NOT_EQUAL, S_LESS, S_LESS_OR_EQUAL, S_GREATER, S_GREATER_OR_EQUAL⟩ := O
  rcases P with ⟨rfl, rfl⟩ | ⟨rfl, rfl⟩ | ⟨rfl, rfl⟩ | ⟨rfl, rfl⟩ | ⟨rfl, rfl⟩ | ⟨rfl, rfl⟩
  · refine metRun (Z := Z) (plainFor_of_name pn_3) (fun m => ef_3 m a1) ?_
    intro p e s m below meth c s₁ X0 hx hby hml hown hnm hret hZ e0 e00
    replace hown : s.vm.findClass "com/example/cantilever/cantilever/xpath/Comparison$Operator" = some m.cls := hown
    have N0 := Fr.nil n0
    obtain ⟨cq13, kq13, q13a, q13b, q13c⟩ := isOf hZ e0 Ex
    obtain ⟨_, _, ⟨T13, L13, k13, n13⟩, -, X13, ⟨Lc13, hQ13, l13, y13, z13⟩, st13⟩ := X0.virtualBackUp hx (owner := "java/lang/Enum") (x := (⟨"com/example/cantilever/cantilever/xpath/Comparison$Operator", "ordinal", "()I"⟩ : MethodName)) (y := (⟨"java/lang/Enum", "ordinal", "()I"⟩ : MethodName)) hown (mvT hZ (hw _ (List.mem_of_getElem? (i := 19) rfl))) (mvT hZ (hw _ (List.mem_of_getElem? (i := 20) rfl))) (mvT hZ (hw _ (List.mem_of_getElem? (i := 21) rfl))) (by decide) (mvT hZ (hw _ (List.mem_of_getElem? (i := 23) rfl))) (mvT hZ (hw _ (List.mem_of_getElem? (i := 22) rfl))) (backOf (W := 0) (rm4 l Z a0 hw [] a1 (0 : Int32) h0 n0 F) hZ (hw _ (List.mem_of_getElem? (i := 25) rfl)) (hw _ (List.mem_of_getElem? (i := 24) rfl)) (by decide) (by decide)) q13a q13c (g := (mkF m 1 #[.val (.ref a1)] [(.ref a1)])) rfl (by rw [hml]; rfl) (Steps.refl _) (argsL := []) (rest := []) (lenOf pd___I rfl) rfl (by show 2 * 0 + _ ≤ _; exact Nat.le_of_eq rfl) (hb hby d3_1) (fun _ _ => ⟨rfl, e0, (by decide : 0 + 0 ≤ _), (by decide : 0 + 0 ≤ _)⟩)
    dsimp only [Pt.U, Pt.locs, Pt.cells, Pt.slots] at X13 l13 y13 z13 st13 hQ13
    subst l13 y13 z13
    obtain ⟨rfl, N13q, e13⟩ := hQ13
    have N13 := Fr.app N0 N13q
    refine Run.step (T1 := T13) (g1 := (mkF m 53 #[.val (.ref a1)] [(.ref a1)])) (fun target kt => ?_) ?_
    · show Steps p.tables e below (s₁.setTop (mkF m 0 #[.val (.ref a1)] [])) _
      refine XS.aloadN X0.here hx rfl (hb hby d3_0) rfl rfl ?_
      show Steps p.tables e below (s₁.setTop (mkF m 1 #[.val (.ref a1)] [(.ref a1)])) _
      refine st13.trans ?_
      show Steps p.tables e below (T13.setTop (mkF m 4 #[.val (.ref a1)] [(.int (0 : Int32))])) _
      refine XS.tswOut X13.here hx rfl (pc0 := 4) (pc' := 52) rfl (hb hby d3_4) rfl (by decide) (by decide) (by decide) ?_
      show Steps p.tables e below (T13.setTop (mkF m 52 #[.val (.ref a1)] [])) _
      refine XS.aloadN X13.here hx rfl (hb hby d3_52) rfl rfl ?_
      exact kt
    exact Run.retG X13 hx (t := (.object "com/example/cantilever/cantilever/xpath/Comparison$Operator")) hret rfl (Or.inr (Or.inr (Or.inr (Or.inr ⟨rfl, rfl, rfl⟩)))) (hb hby d3_53) ⟨Nat.le_refl _, Nat.le_refl _, rfl, N13, e13⟩
  · refine metRun (Z := Z) (plainFor_of_name pn_3) (fun m => ef_3 m a1) ?_
    intro p e s m below meth c s₁ X0 hx hby hml hown hnm hret hZ e0 e00
    replace hown : s.vm.findClass "com/example/cantilever/cantilever/xpath/Comparison$Operator" = some m.cls := hown
    have N0 := Fr.nil n0
    obtain ⟨cq14, kq14, q14a, q14b, q14c⟩ := isOf hZ e0 Ex
    obtain ⟨_, _, ⟨T14, L14, k14, n14⟩, -, X14, ⟨Lc14, hQ14, l14, y14, z14⟩, st14⟩ := X0.virtualBackUp hx (owner := "java/lang/Enum") (x := (⟨"com/example/cantilever/cantilever/xpath/Comparison$Operator", "ordinal", "()I"⟩ : MethodName)) (y := (⟨"java/lang/Enum", "ordinal", "()I"⟩ : MethodName)) hown (mvT hZ (hw _ (List.mem_of_getElem? (i := 19) rfl))) (mvT hZ (hw _ (List.mem_of_getElem? (i := 20) rfl))) (mvT hZ (hw _ (List.mem_of_getElem? (i := 21) rfl))) (by decide) (mvT hZ (hw _ (List.mem_of_getElem? (i := 23) rfl))) (mvT hZ (hw _ (List.mem_of_getElem? (i := 22) rfl))) (backOf (W := 0) (rm4 l Z a0 hw [] a1 (1 : Int32) h0 n0 F) hZ (hw _ (List.mem_of_getElem? (i := 25) rfl)) (hw _ (List.mem_of_getElem? (i := 24) rfl)) (by decide) (by decide)) q14a q14c (g := (mkF m 1 #[.val (.ref a1)] [(.ref a1)])) rfl (by rw [hml]; rfl) (Steps.refl _) (argsL := []) (rest := []) (lenOf pd___I rfl) rfl (by show 2 * 0 + _ ≤ _; exact Nat.le_of_eq rfl) (hb hby d3_1) (fun _ _ => ⟨rfl, e0, (by decide : 0 + 0 ≤ _), (by decide : 0 + 0 ≤ _)⟩)
    dsimp only [Pt.U, Pt.locs, Pt.cells, Pt.slots] at X14 l14 y14 z14 st14 hQ14
    subst l14 y14 z14
    obtain ⟨rfl, N14q, e14⟩ := hQ14
    have N14 := Fr.app N0 N14q
    refine Run.step (T1 := T14) (g1 := (mkF m 53 #[.val (.ref a1)] [(.ref a1)])) (fun target kt => ?_) ?_
    · show Steps p.tables e below (s₁.setTop (mkF m 0 #[.val (.ref a1)] [])) _
      refine XS.aloadN X0.here hx rfl (hb hby d3_0) rfl rfl ?_
      show Steps p.tables e below (s₁.setTop (mkF m 1 #[.val (.ref a1)] [(.ref a1)])) _
      refine st14.trans ?_
      show Steps p.tables e below (T14.setTop (mkF m 4 #[.val (.ref a1)] [(.int (1 : Int32))])) _
      refine XS.tswOut X14.here hx rfl (pc0 := 4) (pc' := 52) rfl (hb hby d3_4) rfl (by decide) (by decide) (by decide) ?_
      show Steps p.tables e below (T14.setTop (mkF m 52 #[.val (.ref a1)] [])) _
      refine XS.aloadN X14.here hx rfl (hb hby d3_52) rfl rfl ?_
      exact kt
    exact Run.retG X14 hx (t := (.object "com/example/cantilever/cantilever/xpath/Comparison$Operator")) hret rfl (Or.inr (Or.inr (Or.inr (Or.inr ⟨rfl, rfl, rfl⟩)))) (hb hby d3_53) ⟨Nat.le_refl _, Nat.le_refl _, rfl, N14, e14⟩
  · refine metRun (Z := Z) (plainFor_of_name pn_3) (fun m => ef_3 m a1) ?_
    intro p e s m below meth c s₁ X0 hx hby hml hown hnm hret hZ e0 e00
    replace hown : s.vm.findClass "com/example/cantilever/cantilever/xpath/Comparison$Operator" = some m.cls := hown
    have N0 := Fr.nil n0
    obtain ⟨cq15, kq15, q15a, q15b, q15c⟩ := isOf hZ e0 Ex
    obtain ⟨_, _, ⟨T15, L15, k15, n15⟩, -, X15, ⟨Lc15, hQ15, l15, y15, z15⟩, st15⟩ := X0.virtualBackUp hx (owner := "java/lang/Enum") (x := (⟨"com/example/cantilever/cantilever/xpath/Comparison$Operator", "ordinal", "()I"⟩ : MethodName)) (y := (⟨"java/lang/Enum", "ordinal", "()I"⟩ : MethodName)) hown (mvT hZ (hw _ (List.mem_of_getElem? (i := 19) rfl))) (mvT hZ (hw _ (List.mem_of_getElem? (i := 20) rfl))) (mvT hZ (hw _ (List.mem_of_getElem? (i := 21) rfl))) (by decide) (mvT hZ (hw _ (List.mem_of_getElem? (i := 23) rfl))) (mvT hZ (hw _ (List.mem_of_getElem? (i := 22) rfl))) (backOf (W := 0) (rm4 l Z a0 hw [] a1 (2 : Int32) h0 n0 F) hZ (hw _ (List.mem_of_getElem? (i := 25) rfl)) (hw _ (List.mem_of_getElem? (i := 24) rfl)) (by decide) (by decide)) q15a q15c (g := (mkF m 1 #[.val (.ref a1)] [(.ref a1)])) rfl (by rw [hml]; rfl) (Steps.refl _) (argsL := []) (rest := []) (lenOf pd___I rfl) rfl (by show 2 * 0 + _ ≤ _; exact Nat.le_of_eq rfl) (hb hby d3_1) (fun _ _ => ⟨rfl, e0, (by decide : 0 + 0 ≤ _), (by decide : 0 + 0 ≤ _)⟩)
    dsimp only [Pt.U, Pt.locs, Pt.cells, Pt.slots] at X15 l15 y15 z15 st15 hQ15
    subst l15 y15 z15
    obtain ⟨rfl, N15q, e15⟩ := hQ15
    have N15 := Fr.app N0 N15q
    obtain ⟨T16, X16, e16, st16⟩ := getS2 X15 hx hZ hown (host := "") (Or.inl (hw _ (List.mem_of_getElem? (i := 36) rfl))) Via.refl e15 S_GREATER (g := (mkF m 36 #[.val (.ref a1)] [])) rfl (hb hby d3_36)
    refine Run.step (T1 := T16) (g1 := (mkF m 39 #[.val (.ref a1)] [(.ref aG)])) (fun target kt => ?_) ?_
    · show Steps p.tables e below (s₁.setTop (mkF m 0 #[.val (.ref a1)] [])) _
      refine XS.aloadN X0.here hx rfl (hb hby d3_0) rfl rfl ?_
      show Steps p.tables e below (s₁.setTop (mkF m 1 #[.val (.ref a1)] [(.ref a1)])) _
      refine st15.trans ?_
      show Steps p.tables e below (T15.setTop (mkF m 4 #[.val (.ref a1)] [(.int (2 : Int32))])) _
      refine XS.tswIn X15.here hx rfl (pc0 := 4) (pc' := 36) (o := 32) rfl (hb hby d3_4) rfl (by decide) (by decide) (by decide) (by decide) ?_
      show Steps p.tables e below (T15.setTop (mkF m 36 #[.val (.ref a1)] [])) _
      refine st16 _ ?_
      exact kt
    exact Run.retG X16 hx (t := (.object "com/example/cantilever/cantilever/xpath/Comparison$Operator")) hret rfl (Or.inr (Or.inr (Or.inr (Or.inr ⟨rfl, rfl, rfl⟩)))) (hb hby d3_39) ⟨Nat.le_refl _, Nat.le_refl _, rfl, N15, e16⟩
  · refine metRun (Z := Z) (plainFor_of_name pn_3) (fun m => ef_3 m a1) ?_
    intro p e s m below meth c s₁ X0 hx hby hml hown hnm hret hZ e0 e00
    replace hown : s.vm.findClass "com/example/cantilever/cantilever/xpath/Comparison$Operator" = some m.cls := hown
    have N0 := Fr.nil n0
    obtain ⟨cq17, kq17, q17a, q17b, q17c⟩ := isOf hZ e0 Ex
    obtain ⟨_, _, ⟨T17, L17, k17, n17⟩, -, X17, ⟨Lc17, hQ17, l17, y17, z17⟩, st17⟩ := X0.virtualBackUp hx (owner := "java/lang/Enum") (x := (⟨"com/example/cantilever/cantilever/xpath/Comparison$Operator", "ordinal", "()I"⟩ : MethodName)) (y := (⟨"java/lang/Enum", "ordinal", "()I"⟩ : MethodName)) hown (mvT hZ (hw _ (List.mem_of_getElem? (i := 19) rfl))) (mvT hZ (hw _ (List.mem_of_getElem? (i := 20) rfl))) (mvT hZ (hw _ (List.mem_of_getElem? (i := 21) rfl))) (by decide) (mvT hZ (hw _ (List.mem_of_getElem? (i := 23) rfl))) (mvT hZ (hw _ (List.mem_of_getElem? (i := 22) rfl))) (backOf (W := 0) (rm4 l Z a0 hw [] a1 (3 : Int32) h0 n0 F) hZ (hw _ (List.mem_of_getElem? (i := 25) rfl)) (hw _ (List.mem_of_getElem? (i := 24) rfl)) (by decide) (by decide)) q17a q17c (g := (mkF m 1 #[.val (.ref a1)] [(.ref a1)])) rfl (by rw [hml]; rfl) (Steps.refl _) (argsL := []) (rest := []) (lenOf pd___I rfl) rfl (by show 2 * 0 + _ ≤ _; exact Nat.le_of_eq rfl) (hb hby d3_1) (fun _ _ => ⟨rfl, e0, (by decide : 0 + 0 ≤ _), (by decide : 0 + 0 ≤ _)⟩)
    dsimp only [Pt.U, Pt.locs, Pt.cells, Pt.slots] at X17 l17 y17 z17 st17 hQ17
    subst l17 y17 z17
    obtain ⟨rfl, N17q, e17⟩ := hQ17
    have N17 := Fr.app N0 N17q
    obtain ⟨T18, X18, e18, st18⟩ := getS2 X17 hx hZ hown (host := "") (Or.inl (hw _ (List.mem_of_getElem? (i := 32) rfl))) Via.refl e17 S_GREATER_OR_EQUAL (g := (mkF m 40 #[.val (.ref a1)] [])) rfl (hb hby d3_40)
    refine Run.step (T1 := T18) (g1 := (mkF m 43 #[.val (.ref a1)] [(.ref aGE)])) (fun target kt => ?_) ?_
    · show Steps p.tables e below (s₁.setTop (mkF m 0 #[.val (.ref a1)] [])) _
      refine XS.aloadN X0.here hx rfl (hb hby d3_0) rfl rfl ?_
      show Steps p.tables e below (s₁.setTop (mkF m 1 #[.val (.ref a1)] [(.ref a1)])) _
      refine st17.trans ?_
      show Steps p.tables e below (T17.setTop (mkF m 4 #[.val (.ref a1)] [(.int (3 : Int32))])) _
      refine XS.tswIn X17.here hx rfl (pc0 := 4) (pc' := 40) (o := 36) rfl (hb hby d3_4) rfl (by decide) (by decide) (by decide) (by decide) ?_
      show Steps p.tables e below (T17.setTop (mkF m 40 #[.val (.ref a1)] [])) _
      refine st18 _ ?_
      exact kt
    exact Run.retG X18 hx (t := (.object "com/example/cantilever/cantilever/xpath/Comparison$Operator")) hret rfl (Or.inr (Or.inr (Or.inr (Or.inr ⟨rfl, rfl, rfl⟩)))) (hb hby d3_43) ⟨Nat.le_refl _, Nat.le_refl _, rfl, N17, e18⟩
  · refine metRun (Z := Z) (plainFor_of_name pn_3) (fun m => ef_3 m a1) ?_
    intro p e s m below meth c s₁ X0 hx hby hml hown hnm hret hZ e0 e00
    replace hown : s.vm.findClass "com/example/cantilever/cantilever/xpath/Comparison$Operator" = some m.cls := hown
    have N0 := Fr.nil n0
    obtain ⟨cq19, kq19, q19a, q19b, q19c⟩ := isOf hZ e0 Ex
    obtain ⟨_, _, ⟨T19, L19, k19, n19⟩, -, X19, ⟨Lc19, hQ19, l19, y19, z19⟩, st19⟩ := X0.virtualBackUp hx (owner := "java/lang/Enum") (x := (⟨"com/example/cantilever/cantilever/xpath/Comparison$Operator", "ordinal", "()I"⟩ : MethodName)) (y := (⟨"java/lang/Enum", "ordinal", "()I"⟩ : MethodName)) hown (mvT hZ (hw _ (List.mem_of_getElem? (i := 19) rfl))) (mvT hZ (hw _ (List.mem_of_getElem? (i := 20) rfl))) (mvT hZ (hw _ (List.mem_of_getElem? (i := 21) rfl))) (by decide) (mvT hZ (hw _ (List.mem_of_getElem? (i := 23) rfl))) (mvT hZ (hw _ (List.mem_of_getElem? (i := 22) rfl))) (backOf (W := 0) (rm4 l Z a0 hw [] a1 (4 : Int32) h0 n0 F) hZ (hw _ (List.mem_of_getElem? (i := 25) rfl)) (hw _ (List.mem_of_getElem? (i := 24) rfl)) (by decide) (by decide)) q19a q19c (g := (mkF m 1 #[.val (.ref a1)] [(.ref a1)])) rfl (by rw [hml]; rfl) (Steps.refl _) (argsL := []) (rest := []) (lenOf pd___I rfl) rfl (by show 2 * 0 + _ ≤ _; exact Nat.le_of_eq rfl) (hb hby d3_1) (fun _ _ => ⟨rfl, e0, (by decide : 0 + 0 ≤ _), (by decide : 0 + 0 ≤ _)⟩)
    dsimp only [Pt.U, Pt.locs, Pt.cells, Pt.slots] at X19 l19 y19 z19 st19 hQ19
    subst l19 y19 z19
    obtain ⟨rfl, N19q, e19⟩ := hQ19
    have N19 := Fr.app N0 N19q
    obtain ⟨T20, X20, e20, st20⟩ := getS2 X19 hx hZ hown (host := "") (Or.inl (hw _ (List.mem_of_getElem? (i := 42) rfl))) Via.refl e19 S_LESS (g := (mkF m 44 #[.val (.ref a1)] [])) rfl (hb hby d3_44)
    refine Run.step (T1 := T20) (g1 := (mkF m 47 #[.val (.ref a1)] [(.ref aL)])) (fun target kt => ?_) ?_
    · show Steps p.tables e below (s₁.setTop (mkF m 0 #[.val (.ref a1)] [])) _
      refine XS.aloadN X0.here hx rfl (hb hby d3_0) rfl rfl ?_
      show Steps p.tables e below (s₁.setTop (mkF m 1 #[.val (.ref a1)] [(.ref a1)])) _
      refine st19.trans ?_
      show Steps p.tables e below (T19.setTop (mkF m 4 #[.val (.ref a1)] [(.int (4 : Int32))])) _
      refine XS.tswIn X19.here hx rfl (pc0 := 4) (pc' := 44) (o := 40) rfl (hb hby d3_4) rfl (by decide) (by decide) (by decide) (by decide) ?_
      show Steps p.tables e below (T19.setTop (mkF m 44 #[.val (.ref a1)] [])) _
      refine st20 _ ?_
      exact kt
    exact Run.retG X20 hx (t := (.object "com/example/cantilever/cantilever/xpath/Comparison$Operator")) hret rfl (Or.inr (Or.inr (Or.inr (Or.inr ⟨rfl, rfl, rfl⟩)))) (hb hby d3_47) ⟨Nat.le_refl _, Nat.le_refl _, rfl, N19, e20⟩
  · refine metRun (Z := Z) (plainFor_of_name pn_3) (fun m => ef_3 m a1) ?_
    intro p e s m below meth c s₁ X0 hx hby hml hown hnm hret hZ e0 e00
    replace hown : s.vm.findClass "com/example/cantilever/cantilever/xpath/Comparison$Operator" = some m.cls := hown
    have N0 := Fr.nil n0
    obtain ⟨cq21, kq21, q21a, q21b, q21c⟩ := isOf hZ e0 Ex
    obtain ⟨_, _, ⟨T21, L21, k21, n21⟩, -, X21, ⟨Lc21, hQ21, l21, y21, z21⟩, st21⟩ := X0.virtualBackUp hx (owner := "java/lang/Enum") (x := (⟨"com/example/cantilever/cantilever/xpath/Comparison$Operator", "ordinal", "()I"⟩ : MethodName)) (y := (⟨"java/lang/Enum", "ordinal", "()I"⟩ : MethodName)) hown (mvT hZ (hw _ (List.mem_of_getElem? (i := 19) rfl))) (mvT hZ (hw _ (List.mem_of_getElem? (i := 20) rfl))) (mvT hZ (hw _ (List.mem_of_getElem? (i := 21) rfl))) (by decide) (mvT hZ (hw _ (List.mem_of_getElem? (i := 23) rfl))) (mvT hZ (hw _ (List.mem_of_getElem? (i := 22) rfl))) (backOf (W := 0) (rm4 l Z a0 hw [] a1 (5 : Int32) h0 n0 F) hZ (hw _ (List.mem_of_getElem? (i := 25) rfl)) (hw _ (List.mem_of_getElem? (i := 24) rfl)) (by decide) (by decide)) q21a q21c (g := (mkF m 1 #[.val (.ref a1)] [(.ref a1)])) rfl (by rw [hml]; rfl) (Steps.refl _) (argsL := []) (rest := []) (lenOf pd___I rfl) rfl (by show 2 * 0 + _ ≤ _; exact Nat.le_of_eq rfl) (hb hby d3_1) (fun _ _ => ⟨rfl, e0, (by decide : 0 + 0 ≤ _), (by decide : 0 + 0 ≤ _)⟩)
    dsimp only [Pt.U, Pt.locs, Pt.cells, Pt.slots] at X21 l21 y21 z21 st21 hQ21
    subst l21 y21 z21
    obtain ⟨rfl, N21q, e21⟩ := hQ21
    have N21 := Fr.app N0 N21q
    obtain ⟨T22, X22, e22, st22⟩ := getS2 X21 hx hZ hown (host := "") (Or.inl (hw _ (List.mem_of_getElem? (i := 40) rfl))) Via.refl e21 S_LESS_OR_EQUAL (g := (mkF m 48 #[.val (.ref a1)] [])) rfl (hb hby d3_48)
    refine Run.step (T1 := T22) (g1 := (mkF m 51 #[.val (.ref a1)] [(.ref aLE)])) (fun target kt => ?_) ?_
    · show Steps p.tables e below (s₁.setTop (mkF m 0 #[.val (.ref a1)] [])) _
      refine XS.aloadN X0.here hx rfl (hb hby d3_0) rfl rfl ?_
      show Steps p.tables e below (s₁.setTop (mkF m 1 #[.val (.ref a1)] [(.ref a1)])) _
      refine st21.trans ?_
      show Steps p.tables e below (T21.setTop (mkF m 4 #[.val (.ref a1)] [(.int (5 : Int32))])) _
      refine XS.tswIn X21.here hx rfl (pc0 := 4) (pc' := 48) (o := 44) rfl (hb hby d3_4) rfl (by decide) (by decide) (by decide) (by decide) ?_
      show Steps p.tables e below (T21.setTop (mkF m 48 #[.val (.ref a1)] [])) _
      refine st22 _ ?_
      exact kt
    exact Run.retG X22 hx (t := (.object "com/example/cantilever/cantilever/xpath/Comparison$Operator")) hret rfl (Or.inr (Or.inr (Or.inr (Or.inr ⟨rfl, rfl, rfl⟩)))) (hb hby d3_51) ⟨Nat.le_refl _, Nat.le_refl _, rfl, N21, e22⟩
set_option maxRecDepth 65536 in
set_option maxHeartbeats 40000000 in
theorem rm0 (l : Launch) (Z : State) (a0 : Array Value) (hw : ∀ d ∈ tables_1, d.before a0 Z = true) (ws : List Jvm.Cond) (p1 : Int32) (aE aNE aL aLE aG aGE : Addr) (h0 : Heap) (n0 : Nat) (O : Ops Z h0 aE aNE aL aLE aG aGE) (F0 : Fld Z h0 aE "java/lang/Enum" "ordinal" "I" (.int 0)) (E0 : Exa Z h0 aE "com/example/cantilever/cantilever/xpath/Comparison$Operator") (F1 : Fld Z h0 aNE "java/lang/Enum" "ordinal" "I" (.int 1)) (E1 : Exa Z h0 aNE "com/example/cantilever/cantilever/xpath/Comparison$Operator") (F2 : Fld Z h0 aL "java/lang/Enum" "ordinal" "I" (.int 2)) (E2 : Exa Z h0 aL "com/example/cantilever/cantilever/xpath/Comparison$Operator") (F3 : Fld Z h0 aLE "java/lang/Enum" "ordinal" "I" (.int 3)) (E3 : Exa Z h0 aLE "com/example/cantilever/cantilever/xpath/Comparison$Operator") (F4 : Fld Z h0 aG "java/lang/Enum" "ordinal" "I" (.int 4)) (E4 : Exa Z h0 aG "com/example/cantilever/cantilever/xpath/Comparison$Operator") (F5 : Fld Z h0 aGE "java/lang/Enum" "ordinal" "I" (.int 5)) (E5 : Exa Z h0 aGE "com/example/cantilever/cantilever/xpath/Comparison$Operator") :
    MetFree l x (head1 (Jvm.Cond.code x code maxLocals ret :: ws) room_1) (fun a U => a = #[(.int p1)] ∧ Z.Warmed39 U.vm ∧ U.heap = h0) (fun _ _ _ _ _ => True) (fun _ U o U' => ∃ v L, o = .returned v ∧ QV (.int (1 : Int32)) h0 n0 v U'.heap L ∧ FrameEnd U o U' L room_1.cells room_1.slots) := by
  refine metRun (Z := Z) (plainFor_of_name pn_0) (fun m => ef_0 m p1) ?_
  intro p e s m below meth c s₁ X0 hx hby hml hown hnm hret hZ e0 e00
  replace hown : s.vm.findClass "com/example/cantilever/cantilever/xpath/OperatorIsEqualityPinLaw" = some m.cls := hown
  have N0 := Fr.nil n0
  refine Run.step (T1 := s₁) (g1 := (mkF m 7 #[.val (.int p1), .unset, .unset, .unset, .unset, .unset] [(.int ((p1 &&& (2147483647 : Int32)) % (6 : Int32)))])) (fun target kt => ?_) ?_
  · show Steps p.tables e below (s₁.setTop (mkF m 0 #[.val (.int p1), .unset, .unset, .unset, .unset, .unset] [])) _
    refine XS.iloadN X0.here hx rfl (hb hby at_0) rfl ?_
    show Steps p.tables e below (s₁.setTop (mkF m 1 #[.val (.int p1), .unset, .unset, .unset, .unset, .unset] [(.int p1)])) _
    refine X0.ldcInt hx hown (mvT hZ (hw _ (List.mem_of_getElem? (i := 0) rfl))) (g := (mkF m 1 #[.val (.int p1), .unset, .unset, .unset, .unset, .unset] [(.int p1)])) rfl (hb hby at_1) _ ?_
    show Steps p.tables e below (s₁.setTop (mkF m 3 #[.val (.int p1), .unset, .unset, .unset, .unset, .unset] [(.int (2147483647 : Int32)), (.int p1)])) _
    refine XS.iand X0.here hx rfl (hb hby at_3) rfl ?_
    show Steps p.tables e below (s₁.setTop (mkF m 4 #[.val (.int p1), .unset, .unset, .unset, .unset, .unset] [(.int (p1 &&& (2147483647 : Int32)))])) _
    refine XS.bipush X0.here hx rfl (hb hby at_4) ?_
    show Steps p.tables e below (s₁.setTop (mkF m 6 #[.val (.int p1), .unset, .unset, .unset, .unset, .unset] [(.int (6 : Int32)), (.int (p1 &&& (2147483647 : Int32)))])) _
    refine iremM (g := (mkF m 6 #[.val (.int p1), .unset, .unset, .unset, .unset, .unset] [(.int (6 : Int32)), (.int (p1 &&& (2147483647 : Int32)))])) X0 hx rfl (hb hby at_6) rfl (by decide) ?_
    exact kt
  rcases own_mod6 p1 with hk | hk | hk | hk | hk | hk
  · rw [hk]
    obtain ⟨_, _, ⟨T23, L23, k23, n23⟩, -, X23, ⟨Lc23, hQ23, l23, y23, z23⟩, st23⟩ := Jvm.LawKit.callS X0 hx (y := (⟨"com/example/cantilever/cantilever/xpath/OperatorIsEqualityPinLaw", "pick", "(I)Lcom/example/cantilever/cantilever/xpath/Comparison$Operator;"⟩ : MethodName)) hown (mvT hZ (hw _ (List.mem_of_getElem? (i := 1) rfl))) (mvT hZ (hw _ (List.mem_of_getElem? (i := 2) rfl))) (mvT hZ (hw _ (List.mem_of_getElem? (i := 3) rfl))) (mvT hZ (hw _ (List.mem_of_getElem? (i := 4) rfl))) (by decide) (backOf (W := 0) (rm1 l Z a0 hw [] (0 : Int32) aE aE aNE aL aLE aG aGE h0 n0 O (Or.inl ⟨rfl, rfl⟩)) hZ (hw _ (List.mem_of_getElem? (i := 4) rfl)) (hw _ (List.mem_of_getElem? (i := 3) rfl)) (by decide) (by decide)) (g := (mkF m 9 #[.val (.int p1), .val (.int (0 : Int32)), .unset, .unset, .unset, .unset] [(.int (0 : Int32))])) rfl (by rw [hml]; rfl) (argsL := [(.int (0 : Int32))]) (rest := []) (lenOf pd__I_Lcom_example_cantilever_cantilever_xpath_Comparison_Operator_ rfl) rfl (by show 2 * 0 + _ ≤ _; exact Nat.le_of_eq rfl) (hb hby at_9) (fun _ _ => ⟨rfl, e0, (by decide : 0 + 0 ≤ _), (by decide : 0 + 0 ≤ _)⟩)
    dsimp only [Pt.U, Pt.locs, Pt.cells, Pt.slots] at X23 l23 y23 z23 st23 hQ23
    subst l23 y23 z23
    obtain ⟨rfl, N23q, e23⟩ := hQ23
    have N23 := Fr.app N0 N23q
    obtain ⟨cq24, kq24, q24a, q24b, q24c⟩ := isOf hZ e23 E0
    obtain ⟨_, _, ⟨T24, L24, k24, n24⟩, -, X24, ⟨Lc24, hQ24, l24, y24, z24⟩, st24⟩ := X23.virtualBack hx (y := (⟨"com/example/cantilever/cantilever/xpath/Comparison$Operator", "isEquality", "()Z"⟩ : MethodName)) (z := (⟨"com/example/cantilever/cantilever/xpath/Comparison$Operator", "isEquality", "()Z"⟩ : MethodName)) hown (mvT hZ (hw _ (List.mem_of_getElem? (i := 8) rfl))) (mvT hZ (hw _ (List.mem_of_getElem? (i := 9) rfl))) (notFace_of_selects (args := #[]) (mvT hZ (hw _ (List.mem_of_getElem? (i := 11) rfl)))) (mvT hZ (hw _ (List.mem_of_getElem? (i := 11) rfl))) (mvT hZ (hw _ (List.mem_of_getElem? (i := 10) rfl))) (by decide) (backOf (W := 0) (rm2 l Z a0 hw [] aE (1 : Int32) aE aNE aL aLE aG aGE h0 n0 O (Or.inl ⟨rfl, rfl⟩)) hZ (hw _ (List.mem_of_getElem? (i := 12) rfl)) (hw _ (List.mem_of_getElem? (i := 6) rfl)) (by decide) (by decide)) q24a q24c (g := (mkF m 14 #[.val (.int p1), .val (.int (0 : Int32)), .val (.ref aE), .unset, .unset, .unset] [(.ref aE)])) rfl (by rw [hml]; rfl) (Steps.refl _) (argsL := []) (rest := []) (lenOf pd___Z rfl) rfl (by show 2 * 0 + _ ≤ _; exact Nat.le_of_eq rfl) (hb hby at_14) (fun _ _ => ⟨rfl, e23, (by decide : 0 + 0 ≤ _), (by decide : 0 + 0 ≤ _)⟩)
    dsimp only [Pt.U, Pt.locs, Pt.cells, Pt.slots] at X24 l24 y24 z24 st24 hQ24
    subst l24 y24 z24
    obtain ⟨rfl, N24q, e24⟩ := hQ24
    have N24 := Fr.app N23 N24q
    obtain ⟨cq25, kq25, q25a, q25b, q25c⟩ := isOf hZ e24 E0
    obtain ⟨_, _, ⟨T25, L25, k25, n25⟩, -, X25, ⟨Lc25, hQ25, l25, y25, z25⟩, st25⟩ := X24.virtualBack hx (y := (⟨"com/example/cantilever/cantilever/xpath/Comparison$Operator", "mirrored", "()Lcom/example/cantilever/cantilever/xpath/Comparison$Operator;"⟩ : MethodName)) (z := (⟨"com/example/cantilever/cantilever/xpath/Comparison$Operator", "mirrored", "()Lcom/example/cantilever/cantilever/xpath/Comparison$Operator;"⟩ : MethodName)) hown (mvT hZ (hw _ (List.mem_of_getElem? (i := 14) rfl))) (mvT hZ (hw _ (List.mem_of_getElem? (i := 15) rfl))) (notFace_of_selects (args := #[]) (mvT hZ (hw _ (List.mem_of_getElem? (i := 17) rfl)))) (mvT hZ (hw _ (List.mem_of_getElem? (i := 17) rfl))) (mvT hZ (hw _ (List.mem_of_getElem? (i := 16) rfl))) (by decide) (backOf (W := 0) (rm3 l Z a0 hw [] aE (0 : Int32) aE aE aNE aL aLE aG aGE h0 n0 O E0 F0 (Or.inl ⟨rfl, rfl⟩)) hZ (hw _ (List.mem_of_getElem? (i := 18) rfl)) (hw _ (List.mem_of_getElem? (i := 6) rfl)) (by decide) (by decide)) q25a q25c (g := (mkF m 31 #[.val (.int p1), .val (.int (0 : Int32)), .val (.ref aE), .val (.int (1 : Int32)), .val (.int (1 : Int32)), .unset] [(.ref aE)])) rfl (by rw [hml]; rfl) (Steps.refl _) (argsL := []) (rest := []) (lenOf pd___Lcom_example_cantilever_cantilever_xpath_Comparison_Operator_ rfl) rfl (by show 2 * 0 + _ ≤ _; exact Nat.le_of_eq rfl) (hb hby at_31) (fun _ _ => ⟨rfl, e24, (by decide : 0 + 0 ≤ _), (by decide : 0 + 0 ≤ _)⟩)
    dsimp only [Pt.U, Pt.locs, Pt.cells, Pt.slots] at X25 l25 y25 z25 st25 hQ25
    subst l25 y25 z25
    obtain ⟨rfl, N25q, e25⟩ := hQ25
    have N25 := Fr.app N24 N25q
    refine Run.step (T1 := T25) (g1 := (mkF m 62 #[.val (.int p1), .val (.int (0 : Int32)), .val (.ref aE), .val (.int (1 : Int32)), .val (.int (1 : Int32)), .val (.int (1 : Int32))] [(.int (1 : Int32))])) (fun target kt => ?_) ?_
    · show Steps p.tables e below (s₁.setTop (mkF m 7 #[.val (.int p1), .unset, .unset, .unset, .unset, .unset] [(.int (0 : Int32))])) _
      refine XS.istoreN X0.here hx rfl (hb hby at_7) rfl (l' := #[.val (.int p1), .val (.int (0 : Int32)), .unset, .unset, .unset, .unset]) rfl ?_
      show Steps p.tables e below (s₁.setTop (mkF m 8 #[.val (.int p1), .val (.int (0 : Int32)), .unset, .unset, .unset, .unset] [])) _
      refine XS.iloadN X0.here hx rfl (hb hby at_8) rfl ?_
      show Steps p.tables e below (s₁.setTop (mkF m 9 #[.val (.int p1), .val (.int (0 : Int32)), .unset, .unset, .unset, .unset] [(.int (0 : Int32))])) _
      refine st23 _ ?_
      show Steps p.tables e below (T23.setTop (mkF m 12 #[.val (.int p1), .val (.int (0 : Int32)), .unset, .unset, .unset, .unset] [(.ref aE)])) _
      refine XS.astoreN X23.here hx rfl (hb hby at_12) rfl rfl (l' := #[.val (.int p1), .val (.int (0 : Int32)), .val (.ref aE), .unset, .unset, .unset]) rfl ?_
      show Steps p.tables e below (T23.setTop (mkF m 13 #[.val (.int p1), .val (.int (0 : Int32)), .val (.ref aE), .unset, .unset, .unset] [])) _
      refine XS.aloadN X23.here hx rfl (hb hby at_13) rfl rfl ?_
      show Steps p.tables e below (T23.setTop (mkF m 14 #[.val (.int p1), .val (.int (0 : Int32)), .val (.ref aE), .unset, .unset, .unset] [(.ref aE)])) _
      refine st24.trans ?_
      show Steps p.tables e below (T24.setTop (mkF m 17 #[.val (.int p1), .val (.int (0 : Int32)), .val (.ref aE), .unset, .unset, .unset] [(.int (1 : Int32))])) _
      refine XS.istoreN X24.here hx rfl (hb hby at_17) rfl (l' := #[.val (.int p1), .val (.int (0 : Int32)), .val (.ref aE), .val (.int (1 : Int32)), .unset, .unset]) rfl ?_
      show Steps p.tables e below (T24.setTop (mkF m 18 #[.val (.int p1), .val (.int (0 : Int32)), .val (.ref aE), .val (.int (1 : Int32)), .unset, .unset] [])) _
      refine XS.iloadN X24.here hx rfl (hb hby at_18) rfl ?_
      show Steps p.tables e below (T24.setTop (mkF m 19 #[.val (.int p1), .val (.int (0 : Int32)), .val (.ref aE), .val (.int (1 : Int32)), .unset, .unset] [(.int (0 : Int32))])) _
      refine XS.iconst X24.here hx rfl (hb hby at_19) ?_
      show Steps p.tables e below (T24.setTop (mkF m 20 #[.val (.int p1), .val (.int (0 : Int32)), .val (.ref aE), .val (.int (1 : Int32)), .unset, .unset] [(.int (2 : Int32)), (.int (0 : Int32))])) _
      refine XS.icmpNo X24.here hx rfl (hb hby at_20) rfl (tlt (by decide : (0 : Int32) < (2 : Int32))).2.1 ?_
      show Steps p.tables e below (T24.setTop (mkF m 23 #[.val (.int p1), .val (.int (0 : Int32)), .val (.ref aE), .val (.int (1 : Int32)), .unset, .unset] [])) _
      refine XS.iconst X24.here hx rfl (hb hby at_23) ?_
      show Steps p.tables e below (T24.setTop (mkF m 24 #[.val (.int p1), .val (.int (0 : Int32)), .val (.ref aE), .val (.int (1 : Int32)), .unset, .unset] [(.int (1 : Int32))])) _
      refine XS.goto X24.here hx rfl (pc0 := 24) (pc' := 28) rfl (hb hby at_24) (by decide) (by decide) ?_
      show Steps p.tables e below (T24.setTop (mkF m 28 #[.val (.int p1), .val (.int (0 : Int32)), .val (.ref aE), .val (.int (1 : Int32)), .unset, .unset] [(.int (1 : Int32))])) _
      refine XS.istore X24.here hx rfl (hb hby at_28) rfl (l' := #[.val (.int p1), .val (.int (0 : Int32)), .val (.ref aE), .val (.int (1 : Int32)), .val (.int (1 : Int32)), .unset]) rfl ?_
      show Steps p.tables e below (T24.setTop (mkF m 30 #[.val (.int p1), .val (.int (0 : Int32)), .val (.ref aE), .val (.int (1 : Int32)), .val (.int (1 : Int32)), .unset] [])) _
      refine XS.aloadN X24.here hx rfl (hb hby at_30) rfl rfl ?_
      show Steps p.tables e below (T24.setTop (mkF m 31 #[.val (.int p1), .val (.int (0 : Int32)), .val (.ref aE), .val (.int (1 : Int32)), .val (.int (1 : Int32)), .unset] [(.ref aE)])) _
      refine st25.trans ?_
      show Steps p.tables e below (T25.setTop (mkF m 34 #[.val (.int p1), .val (.int (0 : Int32)), .val (.ref aE), .val (.int (1 : Int32)), .val (.int (1 : Int32)), .unset] [(.ref aE)])) _
      refine XS.aloadN X25.here hx rfl (hb hby at_34) rfl rfl ?_
      show Steps p.tables e below (T25.setTop (mkF m 35 #[.val (.int p1), .val (.int (0 : Int32)), .val (.ref aE), .val (.int (1 : Int32)), .val (.int (1 : Int32)), .unset] [(.ref aE), (.ref aE)])) _
      refine Jvm.RoadKit.acmp (g := (mkF m 35 #[.val (.int p1), .val (.int (0 : Int32)), .val (.ref aE), .val (.int (1 : Int32)), .val (.int (1 : Int32)), .unset] [(.ref aE), (.ref aE)])) X25 hx rfl rfl rfl (pc0 := 35) (pc' := 38) (same := true) rfl (hb hby at_35) rfl (decide_eq_true rfl) (by decide) (by decide) ?_
      show Steps p.tables e below (T25.setTop (mkF m 38 #[.val (.int p1), .val (.int (0 : Int32)), .val (.ref aE), .val (.int (1 : Int32)), .val (.int (1 : Int32)), .unset] [])) _
      refine XS.iconst X25.here hx rfl (hb hby at_38) ?_
      show Steps p.tables e below (T25.setTop (mkF m 39 #[.val (.int p1), .val (.int (0 : Int32)), .val (.ref aE), .val (.int (1 : Int32)), .val (.int (1 : Int32)), .unset] [(.int (1 : Int32))])) _
      refine XS.goto X25.here hx rfl (pc0 := 39) (pc' := 43) rfl (hb hby at_39) (by decide) (by decide) ?_
      show Steps p.tables e below (T25.setTop (mkF m 43 #[.val (.int p1), .val (.int (0 : Int32)), .val (.ref aE), .val (.int (1 : Int32)), .val (.int (1 : Int32)), .unset] [(.int (1 : Int32))])) _
      refine XS.istore X25.here hx rfl (hb hby at_43) rfl (l' := #[.val (.int p1), .val (.int (0 : Int32)), .val (.ref aE), .val (.int (1 : Int32)), .val (.int (1 : Int32)), .val (.int (1 : Int32))]) rfl ?_
      show Steps p.tables e below (T25.setTop (mkF m 45 #[.val (.int p1), .val (.int (0 : Int32)), .val (.ref aE), .val (.int (1 : Int32)), .val (.int (1 : Int32)), .val (.int (1 : Int32))] [])) _
      refine XS.iloadN X25.here hx rfl (hb hby at_45) rfl ?_
      show Steps p.tables e below (T25.setTop (mkF m 46 #[.val (.int p1), .val (.int (0 : Int32)), .val (.ref aE), .val (.int (1 : Int32)), .val (.int (1 : Int32)), .val (.int (1 : Int32))] [(.int (1 : Int32))])) _
      refine XS.iload X25.here hx rfl (hb hby at_46) rfl ?_
      show Steps p.tables e below (T25.setTop (mkF m 48 #[.val (.int p1), .val (.int (0 : Int32)), .val (.ref aE), .val (.int (1 : Int32)), .val (.int (1 : Int32)), .val (.int (1 : Int32))] [(.int (1 : Int32)), (.int (1 : Int32))])) _
      refine XS.icmpNo X25.here hx rfl (hb hby at_48) rfl (teq (by decide : (1 : Int32) = (1 : Int32))).2 ?_
      show Steps p.tables e below (T25.setTop (mkF m 51 #[.val (.int p1), .val (.int (0 : Int32)), .val (.ref aE), .val (.int (1 : Int32)), .val (.int (1 : Int32)), .val (.int (1 : Int32))] [])) _
      refine XS.iloadN X25.here hx rfl (hb hby at_51) rfl ?_
      show Steps p.tables e below (T25.setTop (mkF m 52 #[.val (.int p1), .val (.int (0 : Int32)), .val (.ref aE), .val (.int (1 : Int32)), .val (.int (1 : Int32)), .val (.int (1 : Int32))] [(.int (1 : Int32))])) _
      refine XS.iload X25.here hx rfl (hb hby at_52) rfl ?_
      show Steps p.tables e below (T25.setTop (mkF m 54 #[.val (.int p1), .val (.int (0 : Int32)), .val (.ref aE), .val (.int (1 : Int32)), .val (.int (1 : Int32)), .val (.int (1 : Int32))] [(.int (1 : Int32)), (.int (1 : Int32))])) _
      refine XS.icmpNo X25.here hx rfl (hb hby at_54) rfl (teq (by decide : (1 : Int32) = (1 : Int32))).2 ?_
      show Steps p.tables e below (T25.setTop (mkF m 57 #[.val (.int p1), .val (.int (0 : Int32)), .val (.ref aE), .val (.int (1 : Int32)), .val (.int (1 : Int32)), .val (.int (1 : Int32))] [])) _
      refine XS.iconst X25.here hx rfl (hb hby at_57) ?_
      show Steps p.tables e below (T25.setTop (mkF m 58 #[.val (.int p1), .val (.int (0 : Int32)), .val (.ref aE), .val (.int (1 : Int32)), .val (.int (1 : Int32)), .val (.int (1 : Int32))] [(.int (1 : Int32))])) _
      refine XS.goto X25.here hx rfl (pc0 := 58) (pc' := 62) rfl (hb hby at_58) (by decide) (by decide) ?_
      exact kt
    exact Run.retZ X25 hx (t := .boolean) hret (by simp) (hb hby at_62) ⟨Nat.le_refl _, Nat.le_refl _, rfl, N25, e25⟩
  · rw [hk]
    obtain ⟨_, _, ⟨T26, L26, k26, n26⟩, -, X26, ⟨Lc26, hQ26, l26, y26, z26⟩, st26⟩ := Jvm.LawKit.callS X0 hx (y := (⟨"com/example/cantilever/cantilever/xpath/OperatorIsEqualityPinLaw", "pick", "(I)Lcom/example/cantilever/cantilever/xpath/Comparison$Operator;"⟩ : MethodName)) hown (mvT hZ (hw _ (List.mem_of_getElem? (i := 1) rfl))) (mvT hZ (hw _ (List.mem_of_getElem? (i := 2) rfl))) (mvT hZ (hw _ (List.mem_of_getElem? (i := 3) rfl))) (mvT hZ (hw _ (List.mem_of_getElem? (i := 4) rfl))) (by decide) (backOf (W := 0) (rm1 l Z a0 hw [] (1 : Int32) aNE aE aNE aL aLE aG aGE h0 n0 O (Or.inr (Or.inl ⟨rfl, rfl⟩))) hZ (hw _ (List.mem_of_getElem? (i := 4) rfl)) (hw _ (List.mem_of_getElem? (i := 3) rfl)) (by decide) (by decide)) (g := (mkF m 9 #[.val (.int p1), .val (.int (1 : Int32)), .unset, .unset, .unset, .unset] [(.int (1 : Int32))])) rfl (by rw [hml]; rfl) (argsL := [(.int (1 : Int32))]) (rest := []) (lenOf pd__I_Lcom_example_cantilever_cantilever_xpath_Comparison_Operator_ rfl) rfl (by show 2 * 0 + _ ≤ _; exact Nat.le_of_eq rfl) (hb hby at_9) (fun _ _ => ⟨rfl, e0, (by decide : 0 + 0 ≤ _), (by decide : 0 + 0 ≤ _)⟩)
    dsimp only [Pt.U, Pt.locs, Pt.cells, Pt.slots] at X26 l26 y26 z26 st26 hQ26
    subst l26 y26 z26
    obtain ⟨rfl, N26q, e26⟩ := hQ26
    have N26 := Fr.app N0 N26q
    obtain ⟨cq27, kq27, q27a, q27b, q27c⟩ := isOf hZ e26 E1
    obtain ⟨_, _, ⟨T27, L27, k27, n27⟩, -, X27, ⟨Lc27, hQ27, l27, y27, z27⟩, st27⟩ := X26.virtualBack hx (y := (⟨"com/example/cantilever/cantilever/xpath/Comparison$Operator", "isEquality", "()Z"⟩ : MethodName)) (z := (⟨"com/example/cantilever/cantilever/xpath/Comparison$Operator", "isEquality", "()Z"⟩ : MethodName)) hown (mvT hZ (hw _ (List.mem_of_getElem? (i := 8) rfl))) (mvT hZ (hw _ (List.mem_of_getElem? (i := 9) rfl))) (notFace_of_selects (args := #[]) (mvT hZ (hw _ (List.mem_of_getElem? (i := 11) rfl)))) (mvT hZ (hw _ (List.mem_of_getElem? (i := 11) rfl))) (mvT hZ (hw _ (List.mem_of_getElem? (i := 10) rfl))) (by decide) (backOf (W := 0) (rm2 l Z a0 hw [] aNE (1 : Int32) aE aNE aL aLE aG aGE h0 n0 O (Or.inr (Or.inl ⟨own_ne F1 F0 (by decide), rfl, rfl⟩))) hZ (hw _ (List.mem_of_getElem? (i := 12) rfl)) (hw _ (List.mem_of_getElem? (i := 6) rfl)) (by decide) (by decide)) q27a q27c (g := (mkF m 14 #[.val (.int p1), .val (.int (1 : Int32)), .val (.ref aNE), .unset, .unset, .unset] [(.ref aNE)])) rfl (by rw [hml]; rfl) (Steps.refl _) (argsL := []) (rest := []) (lenOf pd___Z rfl) rfl (by show 2 * 0 + _ ≤ _; exact Nat.le_of_eq rfl) (hb hby at_14) (fun _ _ => ⟨rfl, e26, (by decide : 0 + 0 ≤ _), (by decide : 0 + 0 ≤ _)⟩)
    dsimp only [Pt.U, Pt.locs, Pt.cells, Pt.slots] at X27 l27 y27 z27 st27 hQ27
    subst l27 y27 z27
    obtain ⟨rfl, N27q, e27⟩ := hQ27
    have N27 := Fr.app N26 N27q
    obtain ⟨cq28, kq28, q28a, q28b, q28c⟩ := isOf hZ e27 E1
    obtain ⟨_, _, ⟨T28, L28, k28, n28⟩, -, X28, ⟨Lc28, hQ28, l28, y28, z28⟩, st28⟩ := X27.virtualBack hx (y := (⟨"com/example/cantilever/cantilever/xpath/Comparison$Operator", "mirrored", "()Lcom/example/cantilever/cantilever/xpath/Comparison$Operator;"⟩ : MethodName)) (z := (⟨"com/example/cantilever/cantilever/xpath/Comparison$Operator", "mirrored", "()Lcom/example/cantilever/cantilever/xpath/Comparison$Operator;"⟩ : MethodName)) hown (mvT hZ (hw _ (List.mem_of_getElem? (i := 14) rfl))) (mvT hZ (hw _ (List.mem_of_getElem? (i := 15) rfl))) (notFace_of_selects (args := #[]) (mvT hZ (hw _ (List.mem_of_getElem? (i := 17) rfl)))) (mvT hZ (hw _ (List.mem_of_getElem? (i := 17) rfl))) (mvT hZ (hw _ (List.mem_of_getElem? (i := 16) rfl))) (by decide) (backOf (W := 0) (rm3 l Z a0 hw [] aNE (1 : Int32) aNE aE aNE aL aLE aG aGE h0 n0 O E1 F1 (Or.inr (Or.inl ⟨rfl, rfl⟩))) hZ (hw _ (List.mem_of_getElem? (i := 18) rfl)) (hw _ (List.mem_of_getElem? (i := 6) rfl)) (by decide) (by decide)) q28a q28c (g := (mkF m 31 #[.val (.int p1), .val (.int (1 : Int32)), .val (.ref aNE), .val (.int (1 : Int32)), .val (.int (1 : Int32)), .unset] [(.ref aNE)])) rfl (by rw [hml]; rfl) (Steps.refl _) (argsL := []) (rest := []) (lenOf pd___Lcom_example_cantilever_cantilever_xpath_Comparison_Operator_ rfl) rfl (by show 2 * 0 + _ ≤ _; exact Nat.le_of_eq rfl) (hb hby at_31) (fun _ _ => ⟨rfl, e27, (by decide : 0 + 0 ≤ _), (by decide : 0 + 0 ≤ _)⟩)
    dsimp only [Pt.U, Pt.locs, Pt.cells, Pt.slots] at X28 l28 y28 z28 st28 hQ28
    subst l28 y28 z28
    obtain ⟨rfl, N28q, e28⟩ := hQ28
    have N28 := Fr.app N27 N28q
    refine Run.step (T1 := T28) (g1 := (mkF m 62 #[.val (.int p1), .val (.int (1 : Int32)), .val (.ref aNE), .val (.int (1 : Int32)), .val (.int (1 : Int32)), .val (.int (1 : Int32))] [(.int (1 : Int32))])) (fun target kt => ?_) ?_
    · show Steps p.tables e below (s₁.setTop (mkF m 7 #[.val (.int p1), .unset, .unset, .unset, .unset, .unset] [(.int (1 : Int32))])) _
      refine XS.istoreN X0.here hx rfl (hb hby at_7) rfl (l' := #[.val (.int p1), .val (.int (1 : Int32)), .unset, .unset, .unset, .unset]) rfl ?_
      show Steps p.tables e below (s₁.setTop (mkF m 8 #[.val (.int p1), .val (.int (1 : Int32)), .unset, .unset, .unset, .unset] [])) _
      refine XS.iloadN X0.here hx rfl (hb hby at_8) rfl ?_
      show Steps p.tables e below (s₁.setTop (mkF m 9 #[.val (.int p1), .val (.int (1 : Int32)), .unset, .unset, .unset, .unset] [(.int (1 : Int32))])) _
      refine st26 _ ?_
      show Steps p.tables e below (T26.setTop (mkF m 12 #[.val (.int p1), .val (.int (1 : Int32)), .unset, .unset, .unset, .unset] [(.ref aNE)])) _
      refine XS.astoreN X26.here hx rfl (hb hby at_12) rfl rfl (l' := #[.val (.int p1), .val (.int (1 : Int32)), .val (.ref aNE), .unset, .unset, .unset]) rfl ?_
      show Steps p.tables e below (T26.setTop (mkF m 13 #[.val (.int p1), .val (.int (1 : Int32)), .val (.ref aNE), .unset, .unset, .unset] [])) _
      refine XS.aloadN X26.here hx rfl (hb hby at_13) rfl rfl ?_
      show Steps p.tables e below (T26.setTop (mkF m 14 #[.val (.int p1), .val (.int (1 : Int32)), .val (.ref aNE), .unset, .unset, .unset] [(.ref aNE)])) _
      refine st27.trans ?_
      show Steps p.tables e below (T27.setTop (mkF m 17 #[.val (.int p1), .val (.int (1 : Int32)), .val (.ref aNE), .unset, .unset, .unset] [(.int (1 : Int32))])) _
      refine XS.istoreN X27.here hx rfl (hb hby at_17) rfl (l' := #[.val (.int p1), .val (.int (1 : Int32)), .val (.ref aNE), .val (.int (1 : Int32)), .unset, .unset]) rfl ?_
      show Steps p.tables e below (T27.setTop (mkF m 18 #[.val (.int p1), .val (.int (1 : Int32)), .val (.ref aNE), .val (.int (1 : Int32)), .unset, .unset] [])) _
      refine XS.iloadN X27.here hx rfl (hb hby at_18) rfl ?_
      show Steps p.tables e below (T27.setTop (mkF m 19 #[.val (.int p1), .val (.int (1 : Int32)), .val (.ref aNE), .val (.int (1 : Int32)), .unset, .unset] [(.int (1 : Int32))])) _
      refine XS.iconst X27.here hx rfl (hb hby at_19) ?_
      show Steps p.tables e below (T27.setTop (mkF m 20 #[.val (.int p1), .val (.int (1 : Int32)), .val (.ref aNE), .val (.int (1 : Int32)), .unset, .unset] [(.int (2 : Int32)), (.int (1 : Int32))])) _
      refine XS.icmpNo X27.here hx rfl (hb hby at_20) rfl (tlt (by decide : (1 : Int32) < (2 : Int32))).2.1 ?_
      show Steps p.tables e below (T27.setTop (mkF m 23 #[.val (.int p1), .val (.int (1 : Int32)), .val (.ref aNE), .val (.int (1 : Int32)), .unset, .unset] [])) _
      refine XS.iconst X27.here hx rfl (hb hby at_23) ?_
      show Steps p.tables e below (T27.setTop (mkF m 24 #[.val (.int p1), .val (.int (1 : Int32)), .val (.ref aNE), .val (.int (1 : Int32)), .unset, .unset] [(.int (1 : Int32))])) _
      refine XS.goto X27.here hx rfl (pc0 := 24) (pc' := 28) rfl (hb hby at_24) (by decide) (by decide) ?_
      show Steps p.tables e below (T27.setTop (mkF m 28 #[.val (.int p1), .val (.int (1 : Int32)), .val (.ref aNE), .val (.int (1 : Int32)), .unset, .unset] [(.int (1 : Int32))])) _
      refine XS.istore X27.here hx rfl (hb hby at_28) rfl (l' := #[.val (.int p1), .val (.int (1 : Int32)), .val (.ref aNE), .val (.int (1 : Int32)), .val (.int (1 : Int32)), .unset]) rfl ?_
      show Steps p.tables e below (T27.setTop (mkF m 30 #[.val (.int p1), .val (.int (1 : Int32)), .val (.ref aNE), .val (.int (1 : Int32)), .val (.int (1 : Int32)), .unset] [])) _
      refine XS.aloadN X27.here hx rfl (hb hby at_30) rfl rfl ?_
      show Steps p.tables e below (T27.setTop (mkF m 31 #[.val (.int p1), .val (.int (1 : Int32)), .val (.ref aNE), .val (.int (1 : Int32)), .val (.int (1 : Int32)), .unset] [(.ref aNE)])) _
      refine st28.trans ?_
      show Steps p.tables e below (T28.setTop (mkF m 34 #[.val (.int p1), .val (.int (1 : Int32)), .val (.ref aNE), .val (.int (1 : Int32)), .val (.int (1 : Int32)), .unset] [(.ref aNE)])) _
      refine XS.aloadN X28.here hx rfl (hb hby at_34) rfl rfl ?_
      show Steps p.tables e below (T28.setTop (mkF m 35 #[.val (.int p1), .val (.int (1 : Int32)), .val (.ref aNE), .val (.int (1 : Int32)), .val (.int (1 : Int32)), .unset] [(.ref aNE), (.ref aNE)])) _
      refine Jvm.RoadKit.acmp (g := (mkF m 35 #[.val (.int p1), .val (.int (1 : Int32)), .val (.ref aNE), .val (.int (1 : Int32)), .val (.int (1 : Int32)), .unset] [(.ref aNE), (.ref aNE)])) X28 hx rfl rfl rfl (pc0 := 35) (pc' := 38) (same := true) rfl (hb hby at_35) rfl (decide_eq_true rfl) (by decide) (by decide) ?_
      show Steps p.tables e below (T28.setTop (mkF m 38 #[.val (.int p1), .val (.int (1 : Int32)), .val (.ref aNE), .val (.int (1 : Int32)), .val (.int (1 : Int32)), .unset] [])) _
      refine XS.iconst X28.here hx rfl (hb hby at_38) ?_
      show Steps p.tables e below (T28.setTop (mkF m 39 #[.val (.int p1), .val (.int (1 : Int32)), .val (.ref aNE), .val (.int (1 : Int32)), .val (.int (1 : Int32)), .unset] [(.int (1 : Int32))])) _
      refine XS.goto X28.here hx rfl (pc0 := 39) (pc' := 43) rfl (hb hby at_39) (by decide) (by decide) ?_
      show Steps p.tables e below (T28.setTop (mkF m 43 #[.val (.int p1), .val (.int (1 : Int32)), .val (.ref aNE), .val (.int (1 : Int32)), .val (.int (1 : Int32)), .unset] [(.int (1 : Int32))])) _
      refine XS.istore X28.here hx rfl (hb hby at_43) rfl (l' := #[.val (.int p1), .val (.int (1 : Int32)), .val (.ref aNE), .val (.int (1 : Int32)), .val (.int (1 : Int32)), .val (.int (1 : Int32))]) rfl ?_
      show Steps p.tables e below (T28.setTop (mkF m 45 #[.val (.int p1), .val (.int (1 : Int32)), .val (.ref aNE), .val (.int (1 : Int32)), .val (.int (1 : Int32)), .val (.int (1 : Int32))] [])) _
      refine XS.iloadN X28.here hx rfl (hb hby at_45) rfl ?_
      show Steps p.tables e below (T28.setTop (mkF m 46 #[.val (.int p1), .val (.int (1 : Int32)), .val (.ref aNE), .val (.int (1 : Int32)), .val (.int (1 : Int32)), .val (.int (1 : Int32))] [(.int (1 : Int32))])) _
      refine XS.iload X28.here hx rfl (hb hby at_46) rfl ?_
      show Steps p.tables e below (T28.setTop (mkF m 48 #[.val (.int p1), .val (.int (1 : Int32)), .val (.ref aNE), .val (.int (1 : Int32)), .val (.int (1 : Int32)), .val (.int (1 : Int32))] [(.int (1 : Int32)), (.int (1 : Int32))])) _
      refine XS.icmpNo X28.here hx rfl (hb hby at_48) rfl (teq (by decide : (1 : Int32) = (1 : Int32))).2 ?_
      show Steps p.tables e below (T28.setTop (mkF m 51 #[.val (.int p1), .val (.int (1 : Int32)), .val (.ref aNE), .val (.int (1 : Int32)), .val (.int (1 : Int32)), .val (.int (1 : Int32))] [])) _
      refine XS.iloadN X28.here hx rfl (hb hby at_51) rfl ?_
      show Steps p.tables e below (T28.setTop (mkF m 52 #[.val (.int p1), .val (.int (1 : Int32)), .val (.ref aNE), .val (.int (1 : Int32)), .val (.int (1 : Int32)), .val (.int (1 : Int32))] [(.int (1 : Int32))])) _
      refine XS.iload X28.here hx rfl (hb hby at_52) rfl ?_
      show Steps p.tables e below (T28.setTop (mkF m 54 #[.val (.int p1), .val (.int (1 : Int32)), .val (.ref aNE), .val (.int (1 : Int32)), .val (.int (1 : Int32)), .val (.int (1 : Int32))] [(.int (1 : Int32)), (.int (1 : Int32))])) _
      refine XS.icmpNo X28.here hx rfl (hb hby at_54) rfl (teq (by decide : (1 : Int32) = (1 : Int32))).2 ?_
      show Steps p.tables e below (T28.setTop (mkF m 57 #[.val (.int p1), .val (.int (1 : Int32)), .val (.ref aNE), .val (.int (1 : Int32)), .val (.int (1 : Int32)), .val (.int (1 : Int32))] [])) _
      refine XS.iconst X28.here hx rfl (hb hby at_57) ?_
      show Steps p.tables e below (T28.setTop (mkF m 58 #[.val (.int p1), .val (.int (1 : Int32)), .val (.ref aNE), .val (.int (1 : Int32)), .val (.int (1 : Int32)), .val (.int (1 : Int32))] [(.int (1 : Int32))])) _
      refine XS.goto X28.here hx rfl (pc0 := 58) (pc' := 62) rfl (hb hby at_58) (by decide) (by decide) ?_
      exact kt
    exact Run.retZ X28 hx (t := .boolean) hret (by simp) (hb hby at_62) ⟨Nat.le_refl _, Nat.le_refl _, rfl, N28, e28⟩
  · rw [hk]
    obtain ⟨_, _, ⟨T29, L29, k29, n29⟩, -, X29, ⟨Lc29, hQ29, l29, y29, z29⟩, st29⟩ := Jvm.LawKit.callS X0 hx (y := (⟨"com/example/cantilever/cantilever/xpath/OperatorIsEqualityPinLaw", "pick", "(I)Lcom/example/cantilever/cantilever/xpath/Comparison$Operator;"⟩ : MethodName)) hown (mvT hZ (hw _ (List.mem_of_getElem? (i := 1) rfl))) (mvT hZ (hw _ (List.mem_of_getElem? (i := 2) rfl))) (mvT hZ (hw _ (List.mem_of_getElem? (i := 3) rfl))) (mvT hZ (hw _ (List.mem_of_getElem? (i := 4) rfl))) (by decide) (backOf (W := 0) (rm1 l Z a0 hw [] (2 : Int32) aL aE aNE aL aLE aG aGE h0 n0 O (Or.inr (Or.inr (Or.inl ⟨rfl, rfl⟩)))) hZ (hw _ (List.mem_of_getElem? (i := 4) rfl)) (hw _ (List.mem_of_getElem? (i := 3) rfl)) (by decide) (by decide)) (g := (mkF m 9 #[.val (.int p1), .val (.int (2 : Int32)), .unset, .unset, .unset, .unset] [(.int (2 : Int32))])) rfl (by rw [hml]; rfl) (argsL := [(.int (2 : Int32))]) (rest := []) (lenOf pd__I_Lcom_example_cantilever_cantilever_xpath_Comparison_Operator_ rfl) rfl (by show 2 * 0 + _ ≤ _; exact Nat.le_of_eq rfl) (hb hby at_9) (fun _ _ => ⟨rfl, e0, (by decide : 0 + 0 ≤ _), (by decide : 0 + 0 ≤ _)⟩)
    dsimp only [Pt.U, Pt.locs, Pt.cells, Pt.slots] at X29 l29 y29 z29 st29 hQ29
    subst l29 y29 z29
    obtain ⟨rfl, N29q, e29⟩ := hQ29
    have N29 := Fr.app N0 N29q
    obtain ⟨cq30, kq30, q30a, q30b, q30c⟩ := isOf hZ e29 E2
    obtain ⟨_, _, ⟨T30, L30, k30, n30⟩, -, X30, ⟨Lc30, hQ30, l30, y30, z30⟩, st30⟩ := X29.virtualBack hx (y := (⟨"com/example/cantilever/cantilever/xpath/Comparison$Operator", "isEquality", "()Z"⟩ : MethodName)) (z := (⟨"com/example/cantilever/cantilever/xpath/Comparison$Operator", "isEquality", "()Z"⟩ : MethodName)) hown (mvT hZ (hw _ (List.mem_of_getElem? (i := 8) rfl))) (mvT hZ (hw _ (List.mem_of_getElem? (i := 9) rfl))) (notFace_of_selects (args := #[]) (mvT hZ (hw _ (List.mem_of_getElem? (i := 11) rfl)))) (mvT hZ (hw _ (List.mem_of_getElem? (i := 11) rfl))) (mvT hZ (hw _ (List.mem_of_getElem? (i := 10) rfl))) (by decide) (backOf (W := 0) (rm2 l Z a0 hw [] aL (0 : Int32) aE aNE aL aLE aG aGE h0 n0 O (Or.inr (Or.inr ⟨own_ne F2 F0 (by decide), own_ne F2 F1 (by decide), rfl⟩))) hZ (hw _ (List.mem_of_getElem? (i := 12) rfl)) (hw _ (List.mem_of_getElem? (i := 6) rfl)) (by decide) (by decide)) q30a q30c (g := (mkF m 14 #[.val (.int p1), .val (.int (2 : Int32)), .val (.ref aL), .unset, .unset, .unset] [(.ref aL)])) rfl (by rw [hml]; rfl) (Steps.refl _) (argsL := []) (rest := []) (lenOf pd___Z rfl) rfl (by show 2 * 0 + _ ≤ _; exact Nat.le_of_eq rfl) (hb hby at_14) (fun _ _ => ⟨rfl, e29, (by decide : 0 + 0 ≤ _), (by decide : 0 + 0 ≤ _)⟩)
    dsimp only [Pt.U, Pt.locs, Pt.cells, Pt.slots] at X30 l30 y30 z30 st30 hQ30
    subst l30 y30 z30
    obtain ⟨rfl, N30q, e30⟩ := hQ30
    have N30 := Fr.app N29 N30q
    obtain ⟨cq31, kq31, q31a, q31b, q31c⟩ := isOf hZ e30 E2
    obtain ⟨_, _, ⟨T31, L31, k31, n31⟩, -, X31, ⟨Lc31, hQ31, l31, y31, z31⟩, st31⟩ := X30.virtualBack hx (y := (⟨"com/example/cantilever/cantilever/xpath/Comparison$Operator", "mirrored", "()Lcom/example/cantilever/cantilever/xpath/Comparison$Operator;"⟩ : MethodName)) (z := (⟨"com/example/cantilever/cantilever/xpath/Comparison$Operator", "mirrored", "()Lcom/example/cantilever/cantilever/xpath/Comparison$Operator;"⟩ : MethodName)) hown (mvT hZ (hw _ (List.mem_of_getElem? (i := 14) rfl))) (mvT hZ (hw _ (List.mem_of_getElem? (i := 15) rfl))) (notFace_of_selects (args := #[]) (mvT hZ (hw _ (List.mem_of_getElem? (i := 17) rfl)))) (mvT hZ (hw _ (List.mem_of_getElem? (i := 17) rfl))) (mvT hZ (hw _ (List.mem_of_getElem? (i := 16) rfl))) (by decide) (backOf (W := 0) (rm3 l Z a0 hw [] aL (2 : Int32) aG aE aNE aL aLE aG aGE h0 n0 O E2 F2 (Or.inr (Or.inr (Or.inl ⟨rfl, rfl⟩)))) hZ (hw _ (List.mem_of_getElem? (i := 18) rfl)) (hw _ (List.mem_of_getElem? (i := 6) rfl)) (by decide) (by decide)) q31a q31c (g := (mkF m 31 #[.val (.int p1), .val (.int (2 : Int32)), .val (.ref aL), .val (.int (0 : Int32)), .val (.int (0 : Int32)), .unset] [(.ref aL)])) rfl (by rw [hml]; rfl) (Steps.refl _) (argsL := []) (rest := []) (lenOf pd___Lcom_example_cantilever_cantilever_xpath_Comparison_Operator_ rfl) rfl (by show 2 * 0 + _ ≤ _; exact Nat.le_of_eq rfl) (hb hby at_31) (fun _ _ => ⟨rfl, e30, (by decide : 0 + 0 ≤ _), (by decide : 0 + 0 ≤ _)⟩)
    dsimp only [Pt.U, Pt.locs, Pt.cells, Pt.slots] at X31 l31 y31 z31 st31 hQ31
    subst l31 y31 z31
    obtain ⟨rfl, N31q, e31⟩ := hQ31
    have N31 := Fr.app N30 N31q
    refine Run.step (T1 := T31) (g1 := (mkF m 62 #[.val (.int p1), .val (.int (2 : Int32)), .val (.ref aL), .val (.int (0 : Int32)), .val (.int (0 : Int32)), .val (.int (0 : Int32))] [(.int (1 : Int32))])) (fun target kt => ?_) ?_
    · show Steps p.tables e below (s₁.setTop (mkF m 7 #[.val (.int p1), .unset, .unset, .unset, .unset, .unset] [(.int (2 : Int32))])) _
      refine XS.istoreN X0.here hx rfl (hb hby at_7) rfl (l' := #[.val (.int p1), .val (.int (2 : Int32)), .unset, .unset, .unset, .unset]) rfl ?_
      show Steps p.tables e below (s₁.setTop (mkF m 8 #[.val (.int p1), .val (.int (2 : Int32)), .unset, .unset, .unset, .unset] [])) _
      refine XS.iloadN X0.here hx rfl (hb hby at_8) rfl ?_
      show Steps p.tables e below (s₁.setTop (mkF m 9 #[.val (.int p1), .val (.int (2 : Int32)), .unset, .unset, .unset, .unset] [(.int (2 : Int32))])) _
      refine st29 _ ?_
      show Steps p.tables e below (T29.setTop (mkF m 12 #[.val (.int p1), .val (.int (2 : Int32)), .unset, .unset, .unset, .unset] [(.ref aL)])) _
      refine XS.astoreN X29.here hx rfl (hb hby at_12) rfl rfl (l' := #[.val (.int p1), .val (.int (2 : Int32)), .val (.ref aL), .unset, .unset, .unset]) rfl ?_
      show Steps p.tables e below (T29.setTop (mkF m 13 #[.val (.int p1), .val (.int (2 : Int32)), .val (.ref aL), .unset, .unset, .unset] [])) _
      refine XS.aloadN X29.here hx rfl (hb hby at_13) rfl rfl ?_
      show Steps p.tables e below (T29.setTop (mkF m 14 #[.val (.int p1), .val (.int (2 : Int32)), .val (.ref aL), .unset, .unset, .unset] [(.ref aL)])) _
      refine st30.trans ?_
      show Steps p.tables e below (T30.setTop (mkF m 17 #[.val (.int p1), .val (.int (2 : Int32)), .val (.ref aL), .unset, .unset, .unset] [(.int (0 : Int32))])) _
      refine XS.istoreN X30.here hx rfl (hb hby at_17) rfl (l' := #[.val (.int p1), .val (.int (2 : Int32)), .val (.ref aL), .val (.int (0 : Int32)), .unset, .unset]) rfl ?_
      show Steps p.tables e below (T30.setTop (mkF m 18 #[.val (.int p1), .val (.int (2 : Int32)), .val (.ref aL), .val (.int (0 : Int32)), .unset, .unset] [])) _
      refine XS.iloadN X30.here hx rfl (hb hby at_18) rfl ?_
      show Steps p.tables e below (T30.setTop (mkF m 19 #[.val (.int p1), .val (.int (2 : Int32)), .val (.ref aL), .val (.int (0 : Int32)), .unset, .unset] [(.int (2 : Int32))])) _
      refine XS.iconst X30.here hx rfl (hb hby at_19) ?_
      show Steps p.tables e below (T30.setTop (mkF m 20 #[.val (.int p1), .val (.int (2 : Int32)), .val (.ref aL), .val (.int (0 : Int32)), .unset, .unset] [(.int (2 : Int32)), (.int (2 : Int32))])) _
      refine XS.icmpYes X30.here hx rfl (pc0 := 20) (pc' := 27) rfl (hb hby at_20) rfl (flt (by decide : ¬ ((2 : Int32) < (2 : Int32)))).2.1 (by decide) (by decide) ?_
      show Steps p.tables e below (T30.setTop (mkF m 27 #[.val (.int p1), .val (.int (2 : Int32)), .val (.ref aL), .val (.int (0 : Int32)), .unset, .unset] [])) _
      refine XS.iconst X30.here hx rfl (hb hby at_27) ?_
      show Steps p.tables e below (T30.setTop (mkF m 28 #[.val (.int p1), .val (.int (2 : Int32)), .val (.ref aL), .val (.int (0 : Int32)), .unset, .unset] [(.int (0 : Int32))])) _
      refine XS.istore X30.here hx rfl (hb hby at_28) rfl (l' := #[.val (.int p1), .val (.int (2 : Int32)), .val (.ref aL), .val (.int (0 : Int32)), .val (.int (0 : Int32)), .unset]) rfl ?_
      show Steps p.tables e below (T30.setTop (mkF m 30 #[.val (.int p1), .val (.int (2 : Int32)), .val (.ref aL), .val (.int (0 : Int32)), .val (.int (0 : Int32)), .unset] [])) _
      refine XS.aloadN X30.here hx rfl (hb hby at_30) rfl rfl ?_
      show Steps p.tables e below (T30.setTop (mkF m 31 #[.val (.int p1), .val (.int (2 : Int32)), .val (.ref aL), .val (.int (0 : Int32)), .val (.int (0 : Int32)), .unset] [(.ref aL)])) _
      refine st31.trans ?_
      show Steps p.tables e below (T31.setTop (mkF m 34 #[.val (.int p1), .val (.int (2 : Int32)), .val (.ref aL), .val (.int (0 : Int32)), .val (.int (0 : Int32)), .unset] [(.ref aG)])) _
      refine XS.aloadN X31.here hx rfl (hb hby at_34) rfl rfl ?_
      show Steps p.tables e below (T31.setTop (mkF m 35 #[.val (.int p1), .val (.int (2 : Int32)), .val (.ref aL), .val (.int (0 : Int32)), .val (.int (0 : Int32)), .unset] [(.ref aL), (.ref aG)])) _
      refine Jvm.RoadKit.acmp (g := (mkF m 35 #[.val (.int p1), .val (.int (2 : Int32)), .val (.ref aL), .val (.int (0 : Int32)), .val (.int (0 : Int32)), .unset] [(.ref aL), (.ref aG)])) X31 hx rfl rfl rfl (pc0 := 35) (pc' := 42) (same := false) rfl (hb hby at_35) rfl (decide_eq_false fun q => (own_ne F4 F2 (by decide)) (Value.ref.inj q)) (by decide) (by decide) ?_
      show Steps p.tables e below (T31.setTop (mkF m 42 #[.val (.int p1), .val (.int (2 : Int32)), .val (.ref aL), .val (.int (0 : Int32)), .val (.int (0 : Int32)), .unset] [])) _
      refine XS.iconst X31.here hx rfl (hb hby at_42) ?_
      show Steps p.tables e below (T31.setTop (mkF m 43 #[.val (.int p1), .val (.int (2 : Int32)), .val (.ref aL), .val (.int (0 : Int32)), .val (.int (0 : Int32)), .unset] [(.int (0 : Int32))])) _
      refine XS.istore X31.here hx rfl (hb hby at_43) rfl (l' := #[.val (.int p1), .val (.int (2 : Int32)), .val (.ref aL), .val (.int (0 : Int32)), .val (.int (0 : Int32)), .val (.int (0 : Int32))]) rfl ?_
      show Steps p.tables e below (T31.setTop (mkF m 45 #[.val (.int p1), .val (.int (2 : Int32)), .val (.ref aL), .val (.int (0 : Int32)), .val (.int (0 : Int32)), .val (.int (0 : Int32))] [])) _
      refine XS.iloadN X31.here hx rfl (hb hby at_45) rfl ?_
      show Steps p.tables e below (T31.setTop (mkF m 46 #[.val (.int p1), .val (.int (2 : Int32)), .val (.ref aL), .val (.int (0 : Int32)), .val (.int (0 : Int32)), .val (.int (0 : Int32))] [(.int (0 : Int32))])) _
      refine XS.iload X31.here hx rfl (hb hby at_46) rfl ?_
      show Steps p.tables e below (T31.setTop (mkF m 48 #[.val (.int p1), .val (.int (2 : Int32)), .val (.ref aL), .val (.int (0 : Int32)), .val (.int (0 : Int32)), .val (.int (0 : Int32))] [(.int (0 : Int32)), (.int (0 : Int32))])) _
      refine XS.icmpNo X31.here hx rfl (hb hby at_48) rfl (teq (by decide : (0 : Int32) = (0 : Int32))).2 ?_
      show Steps p.tables e below (T31.setTop (mkF m 51 #[.val (.int p1), .val (.int (2 : Int32)), .val (.ref aL), .val (.int (0 : Int32)), .val (.int (0 : Int32)), .val (.int (0 : Int32))] [])) _
      refine XS.iloadN X31.here hx rfl (hb hby at_51) rfl ?_
      show Steps p.tables e below (T31.setTop (mkF m 52 #[.val (.int p1), .val (.int (2 : Int32)), .val (.ref aL), .val (.int (0 : Int32)), .val (.int (0 : Int32)), .val (.int (0 : Int32))] [(.int (0 : Int32))])) _
      refine XS.iload X31.here hx rfl (hb hby at_52) rfl ?_
      show Steps p.tables e below (T31.setTop (mkF m 54 #[.val (.int p1), .val (.int (2 : Int32)), .val (.ref aL), .val (.int (0 : Int32)), .val (.int (0 : Int32)), .val (.int (0 : Int32))] [(.int (0 : Int32)), (.int (0 : Int32))])) _
      refine XS.icmpNo X31.here hx rfl (hb hby at_54) rfl (teq (by decide : (0 : Int32) = (0 : Int32))).2 ?_
      show Steps p.tables e below (T31.setTop (mkF m 57 #[.val (.int p1), .val (.int (2 : Int32)), .val (.ref aL), .val (.int (0 : Int32)), .val (.int (0 : Int32)), .val (.int (0 : Int32))] [])) _
      refine XS.iconst X31.here hx rfl (hb hby at_57) ?_
      show Steps p.tables e below (T31.setTop (mkF m 58 #[.val (.int p1), .val (.int (2 : Int32)), .val (.ref aL), .val (.int (0 : Int32)), .val (.int (0 : Int32)), .val (.int (0 : Int32))] [(.int (1 : Int32))])) _
      refine XS.goto X31.here hx rfl (pc0 := 58) (pc' := 62) rfl (hb hby at_58) (by decide) (by decide) ?_
      exact kt
    exact Run.retZ X31 hx (t := .boolean) hret (by simp) (hb hby at_62) ⟨Nat.le_refl _, Nat.le_refl _, rfl, N31, e31⟩
  · rw [hk]
    obtain ⟨_, _, ⟨T32, L32, k32, n32⟩, -, X32, ⟨Lc32, hQ32, l32, y32, z32⟩, st32⟩ := Jvm.LawKit.callS X0 hx (y := (⟨"com/example/cantilever/cantilever/xpath/OperatorIsEqualityPinLaw", "pick", "(I)Lcom/example/cantilever/cantilever/xpath/Comparison$Operator;"⟩ : MethodName)) hown (mvT hZ (hw _ (List.mem_of_getElem? (i := 1) rfl))) (mvT hZ (hw _ (List.mem_of_getElem? (i := 2) rfl))) (mvT hZ (hw _ (List.mem_of_getElem? (i := 3) rfl))) (mvT hZ (hw _ (List.mem_of_getElem? (i := 4) rfl))) (by decide) (backOf (W := 0) (rm1 l Z a0 hw [] (3 : Int32) aLE aE aNE aL aLE aG aGE h0 n0 O (Or.inr (Or.inr (Or.inr (Or.inl ⟨rfl, rfl⟩))))) hZ (hw _ (List.mem_of_getElem? (i := 4) rfl)) (hw _ (List.mem_of_getElem? (i := 3) rfl)) (by decide) (by decide)) (g := (mkF m 9 #[.val (.int p1), .val (.int (3 : Int32)), .unset, .unset, .unset, .unset] [(.int (3 : Int32))])) rfl (by rw [hml]; rfl) (argsL := [(.int (3 : Int32))]) (rest := []) (lenOf pd__I_Lcom_example_cantilever_cantilever_xpath_Comparison_Operator_ rfl) rfl (by show 2 * 0 + _ ≤ _; exact Nat.le_of_eq rfl) (hb hby at_9) (fun _ _ => ⟨rfl, e0, (by decide : 0 + 0 ≤ _), (by decide : 0 + 0 ≤ _)⟩)
    dsimp only [Pt.U, Pt.locs, Pt.cells, Pt.slots] at X32 l32 y32 z32 st32 hQ32
    subst l32 y32 z32
    obtain ⟨rfl, N32q, e32⟩ := hQ32
    have N32 := Fr.app N0 N32q
    obtain ⟨cq33, kq33, q33a, q33b, q33c⟩ := isOf hZ e32 E3
    obtain ⟨_, _, ⟨T33, L33, k33, n33⟩, -, X33, ⟨Lc33, hQ33, l33, y33, z33⟩, st33⟩ := X32.virtualBack hx (y := (⟨"com/example/cantilever/cantilever/xpath/Comparison$Operator", "isEquality", "()Z"⟩ : MethodName)) (z := (⟨"com/example/cantilever/cantilever/xpath/Comparison$Operator", "isEquality", "()Z"⟩ : MethodName)) hown (mvT hZ (hw _ (List.mem_of_getElem? (i := 8) rfl))) (mvT hZ (hw _ (List.mem_of_getElem? (i := 9) rfl))) (notFace_of_selects (args := #[]) (mvT hZ (hw _ (List.mem_of_getElem? (i := 11) rfl)))) (mvT hZ (hw _ (List.mem_of_getElem? (i := 11) rfl))) (mvT hZ (hw _ (List.mem_of_getElem? (i := 10) rfl))) (by decide) (backOf (W := 0) (rm2 l Z a0 hw [] aLE (0 : Int32) aE aNE aL aLE aG aGE h0 n0 O (Or.inr (Or.inr ⟨own_ne F3 F0 (by decide), own_ne F3 F1 (by decide), rfl⟩))) hZ (hw _ (List.mem_of_getElem? (i := 12) rfl)) (hw _ (List.mem_of_getElem? (i := 6) rfl)) (by decide) (by decide)) q33a q33c (g := (mkF m 14 #[.val (.int p1), .val (.int (3 : Int32)), .val (.ref aLE), .unset, .unset, .unset] [(.ref aLE)])) rfl (by rw [hml]; rfl) (Steps.refl _) (argsL := []) (rest := []) (lenOf pd___Z rfl) rfl (by show 2 * 0 + _ ≤ _; exact Nat.le_of_eq rfl) (hb hby at_14) (fun _ _ => ⟨rfl, e32, (by decide : 0 + 0 ≤ _), (by decide : 0 + 0 ≤ _)⟩)
    dsimp only [Pt.U, Pt.locs, Pt.cells, Pt.slots] at X33 l33 y33 z33 st33 hQ33
    subst l33 y33 z33
    obtain ⟨rfl, N33q, e33⟩ := hQ33
    have N33 := Fr.app N32 N33q
    obtain ⟨cq34, kq34, q34a, q34b, q34c⟩ := isOf hZ e33 E3
    obtain ⟨_, _, ⟨T34, L34, k34, n34⟩, -, X34, ⟨Lc34, hQ34, l34, y34, z34⟩, st34⟩ := X33.virtualBack hx (y := (⟨"com/example/cantilever/cantilever/xpath/Comparison$Operator", "mirrored", "()Lcom/example/cantilever/cantilever/xpath/Comparison$Operator;"⟩ : MethodName)) (z := (⟨"com/example/cantilever/cantilever/xpath/Comparison$Operator", "mirrored", "()Lcom/example/cantilever/cantilever/xpath/Comparison$Operator;"⟩ : MethodName)) hown (mvT hZ (hw _ (List.mem_of_getElem? (i := 14) rfl))) (mvT hZ (hw _ (List.mem_of_getElem? (i := 15) rfl))) (notFace_of_selects (args := #[]) (mvT hZ (hw _ (List.mem_of_getElem? (i := 17) rfl)))) (mvT hZ (hw _ (List.mem_of_getElem? (i := 17) rfl))) (mvT hZ (hw _ (List.mem_of_getElem? (i := 16) rfl))) (by decide) (backOf (W := 0) (rm3 l Z a0 hw [] aLE (3 : Int32) aGE aE aNE aL aLE aG aGE h0 n0 O E3 F3 (Or.inr (Or.inr (Or.inr (Or.inl ⟨rfl, rfl⟩))))) hZ (hw _ (List.mem_of_getElem? (i := 18) rfl)) (hw _ (List.mem_of_getElem? (i := 6) rfl)) (by decide) (by decide)) q34a q34c (g := (mkF m 31 #[.val (.int p1), .val (.int (3 : Int32)), .val (.ref aLE), .val (.int (0 : Int32)), .val (.int (0 : Int32)), .unset] [(.ref aLE)])) rfl (by rw [hml]; rfl) (Steps.refl _) (argsL := []) (rest := []) (lenOf pd___Lcom_example_cantilever_cantilever_xpath_Comparison_Operator_ rfl) rfl (by show 2 * 0 + _ ≤ _; exact Nat.le_of_eq rfl) (hb hby at_31) (fun _ _ => ⟨rfl, e33, (by decide : 0 + 0 ≤ _), (by decide : 0 + 0 ≤ _)⟩)
    dsimp only [Pt.U, Pt.locs, Pt.cells, Pt.slots] at X34 l34 y34 z34 st34 hQ34
    subst l34 y34 z34
    obtain ⟨rfl, N34q, e34⟩ := hQ34
    have N34 := Fr.app N33 N34q
    refine Run.step (T1 := T34) (g1 := (mkF m 62 #[.val (.int p1), .val (.int (3 : Int32)), .val (.ref aLE), .val (.int (0 : Int32)), .val (.int (0 : Int32)), .val (.int (0 : Int32))] [(.int (1 : Int32))])) (fun target kt => ?_) ?_
    · show Steps p.tables e below (s₁.setTop (mkF m 7 #[.val (.int p1), .unset, .unset, .unset, .unset, .unset] [(.int (3 : Int32))])) _
      refine XS.istoreN X0.here hx rfl (hb hby at_7) rfl (l' := #[.val (.int p1), .val (.int (3 : Int32)), .unset, .unset, .unset, .unset]) rfl ?_
      show Steps p.tables e below (s₁.setTop (mkF m 8 #[.val (.int p1), .val (.int (3 : Int32)), .unset, .unset, .unset, .unset] [])) _
      refine XS.iloadN X0.here hx rfl (hb hby at_8) rfl ?_
      show Steps p.tables e below (s₁.setTop (mkF m 9 #[.val (.int p1), .val (.int (3 : Int32)), .unset, .unset, .unset, .unset] [(.int (3 : Int32))])) _
      refine st32 _ ?_
      show Steps p.tables e below (T32.setTop (mkF m 12 #[.val (.int p1), .val (.int (3 : Int32)), .unset, .unset, .unset, .unset] [(.ref aLE)])) _
      refine XS.astoreN X32.here hx rfl (hb hby at_12) rfl rfl (l' := #[.val (.int p1), .val (.int (3 : Int32)), .val (.ref aLE), .unset, .unset, .unset]) rfl ?_
      show Steps p.tables e below (T32.setTop (mkF m 13 #[.val (.int p1), .val (.int (3 : Int32)), .val (.ref aLE), .unset, .unset, .unset] [])) _
      refine XS.aloadN X32.here hx rfl (hb hby at_13) rfl rfl ?_
      show Steps p.tables e below (T32.setTop (mkF m 14 #[.val (.int p1), .val (.int (3 : Int32)), .val (.ref aLE), .unset, .unset, .unset] [(.ref aLE)])) _
      refine st33.trans ?_
      show Steps p.tables e below (T33.setTop (mkF m 17 #[.val (.int p1), .val (.int (3 : Int32)), .val (.ref aLE), .unset, .unset, .unset] [(.int (0 : Int32))])) _
      refine XS.istoreN X33.here hx rfl (hb hby at_17) rfl (l' := #[.val (.int p1), .val (.int (3 : Int32)), .val (.ref aLE), .val (.int (0 : Int32)), .unset, .unset]) rfl ?_
      show Steps p.tables e below (T33.setTop (mkF m 18 #[.val (.int p1), .val (.int (3 : Int32)), .val (.ref aLE), .val (.int (0 : Int32)), .unset, .unset] [])) _
      refine XS.iloadN X33.here hx rfl (hb hby at_18) rfl ?_
      show Steps p.tables e below (T33.setTop (mkF m 19 #[.val (.int p1), .val (.int (3 : Int32)), .val (.ref aLE), .val (.int (0 : Int32)), .unset, .unset] [(.int (3 : Int32))])) _
      refine XS.iconst X33.here hx rfl (hb hby at_19) ?_
      show Steps p.tables e below (T33.setTop (mkF m 20 #[.val (.int p1), .val (.int (3 : Int32)), .val (.ref aLE), .val (.int (0 : Int32)), .unset, .unset] [(.int (2 : Int32)), (.int (3 : Int32))])) _
      refine XS.icmpYes X33.here hx rfl (pc0 := 20) (pc' := 27) rfl (hb hby at_20) rfl (flt (by decide : ¬ ((3 : Int32) < (2 : Int32)))).2.1 (by decide) (by decide) ?_
      show Steps p.tables e below (T33.setTop (mkF m 27 #[.val (.int p1), .val (.int (3 : Int32)), .val (.ref aLE), .val (.int (0 : Int32)), .unset, .unset] [])) _
      refine XS.iconst X33.here hx rfl (hb hby at_27) ?_
      show Steps p.tables e below (T33.setTop (mkF m 28 #[.val (.int p1), .val (.int (3 : Int32)), .val (.ref aLE), .val (.int (0 : Int32)), .unset, .unset] [(.int (0 : Int32))])) _
      refine XS.istore X33.here hx rfl (hb hby at_28) rfl (l' := #[.val (.int p1), .val (.int (3 : Int32)), .val (.ref aLE), .val (.int (0 : Int32)), .val (.int (0 : Int32)), .unset]) rfl ?_
      show Steps p.tables e below (T33.setTop (mkF m 30 #[.val (.int p1), .val (.int (3 : Int32)), .val (.ref aLE), .val (.int (0 : Int32)), .val (.int (0 : Int32)), .unset] [])) _
      refine XS.aloadN X33.here hx rfl (hb hby at_30) rfl rfl ?_
      show Steps p.tables e below (T33.setTop (mkF m 31 #[.val (.int p1), .val (.int (3 : Int32)), .val (.ref aLE), .val (.int (0 : Int32)), .val (.int (0 : Int32)), .unset] [(.ref aLE)])) _
      refine st34.trans ?_
      show Steps p.tables e below (T34.setTop (mkF m 34 #[.val (.int p1), .val (.int (3 : Int32)), .val (.ref aLE), .val (.int (0 : Int32)), .val (.int (0 : Int32)), .unset] [(.ref aGE)])) _
      refine XS.aloadN X34.here hx rfl (hb hby at_34) rfl rfl ?_
      show Steps p.tables e below (T34.setTop (mkF m 35 #[.val (.int p1), .val (.int (3 : Int32)), .val (.ref aLE), .val (.int (0 : Int32)), .val (.int (0 : Int32)), .unset] [(.ref aLE), (.ref aGE)])) _
      refine Jvm.RoadKit.acmp (g := (mkF m 35 #[.val (.int p1), .val (.int (3 : Int32)), .val (.ref aLE), .val (.int (0 : Int32)), .val (.int (0 : Int32)), .unset] [(.ref aLE), (.ref aGE)])) X34 hx rfl rfl rfl (pc0 := 35) (pc' := 42) (same := false) rfl (hb hby at_35) rfl (decide_eq_false fun q => (own_ne F5 F3 (by decide)) (Value.ref.inj q)) (by decide) (by decide) ?_
      show Steps p.tables e below (T34.setTop (mkF m 42 #[.val (.int p1), .val (.int (3 : Int32)), .val (.ref aLE), .val (.int (0 : Int32)), .val (.int (0 : Int32)), .unset] [])) _
      refine XS.iconst X34.here hx rfl (hb hby at_42) ?_
      show Steps p.tables e below (T34.setTop (mkF m 43 #[.val (.int p1), .val (.int (3 : Int32)), .val (.ref aLE), .val (.int (0 : Int32)), .val (.int (0 : Int32)), .unset] [(.int (0 : Int32))])) _
      refine XS.istore X34.here hx rfl (hb hby at_43) rfl (l' := #[.val (.int p1), .val (.int (3 : Int32)), .val (.ref aLE), .val (.int (0 : Int32)), .val (.int (0 : Int32)), .val (.int (0 : Int32))]) rfl ?_
      show Steps p.tables e below (T34.setTop (mkF m 45 #[.val (.int p1), .val (.int (3 : Int32)), .val (.ref aLE), .val (.int (0 : Int32)), .val (.int (0 : Int32)), .val (.int (0 : Int32))] [])) _
      refine XS.iloadN X34.here hx rfl (hb hby at_45) rfl ?_
      show Steps p.tables e below (T34.setTop (mkF m 46 #[.val (.int p1), .val (.int (3 : Int32)), .val (.ref aLE), .val (.int (0 : Int32)), .val (.int (0 : Int32)), .val (.int (0 : Int32))] [(.int (0 : Int32))])) _
      refine XS.iload X34.here hx rfl (hb hby at_46) rfl ?_
      show Steps p.tables e below (T34.setTop (mkF m 48 #[.val (.int p1), .val (.int (3 : Int32)), .val (.ref aLE), .val (.int (0 : Int32)), .val (.int (0 : Int32)), .val (.int (0 : Int32))] [(.int (0 : Int32)), (.int (0 : Int32))])) _
      refine XS.icmpNo X34.here hx rfl (hb hby at_48) rfl (teq (by decide : (0 : Int32) = (0 : Int32))).2 ?_
      show Steps p.tables e below (T34.setTop (mkF m 51 #[.val (.int p1), .val (.int (3 : Int32)), .val (.ref aLE), .val (.int (0 : Int32)), .val (.int (0 : Int32)), .val (.int (0 : Int32))] [])) _
      refine XS.iloadN X34.here hx rfl (hb hby at_51) rfl ?_
      show Steps p.tables e below (T34.setTop (mkF m 52 #[.val (.int p1), .val (.int (3 : Int32)), .val (.ref aLE), .val (.int (0 : Int32)), .val (.int (0 : Int32)), .val (.int (0 : Int32))] [(.int (0 : Int32))])) _
      refine XS.iload X34.here hx rfl (hb hby at_52) rfl ?_
      show Steps p.tables e below (T34.setTop (mkF m 54 #[.val (.int p1), .val (.int (3 : Int32)), .val (.ref aLE), .val (.int (0 : Int32)), .val (.int (0 : Int32)), .val (.int (0 : Int32))] [(.int (0 : Int32)), (.int (0 : Int32))])) _
      refine XS.icmpNo X34.here hx rfl (hb hby at_54) rfl (teq (by decide : (0 : Int32) = (0 : Int32))).2 ?_
      show Steps p.tables e below (T34.setTop (mkF m 57 #[.val (.int p1), .val (.int (3 : Int32)), .val (.ref aLE), .val (.int (0 : Int32)), .val (.int (0 : Int32)), .val (.int (0 : Int32))] [])) _
      refine XS.iconst X34.here hx rfl (hb hby at_57) ?_
      show Steps p.tables e below (T34.setTop (mkF m 58 #[.val (.int p1), .val (.int (3 : Int32)), .val (.ref aLE), .val (.int (0 : Int32)), .val (.int (0 : Int32)), .val (.int (0 : Int32))] [(.int (1 : Int32))])) _
      refine XS.goto X34.here hx rfl (pc0 := 58) (pc' := 62) rfl (hb hby at_58) (by decide) (by decide) ?_
      exact kt
    exact Run.retZ X34 hx (t := .boolean) hret (by simp) (hb hby at_62) ⟨Nat.le_refl _, Nat.le_refl _, rfl, N34, e34⟩
  · rw [hk]
    obtain ⟨_, _, ⟨T35, L35, k35, n35⟩, -, X35, ⟨Lc35, hQ35, l35, y35, z35⟩, st35⟩ := Jvm.LawKit.callS X0 hx (y := (⟨"com/example/cantilever/cantilever/xpath/OperatorIsEqualityPinLaw", "pick", "(I)Lcom/example/cantilever/cantilever/xpath/Comparison$Operator;"⟩ : MethodName)) hown (mvT hZ (hw _ (List.mem_of_getElem? (i := 1) rfl))) (mvT hZ (hw _ (List.mem_of_getElem? (i := 2) rfl))) (mvT hZ (hw _ (List.mem_of_getElem? (i := 3) rfl))) (mvT hZ (hw _ (List.mem_of_getElem? (i := 4) rfl))) (by decide) (backOf (W := 0) (rm1 l Z a0 hw [] (4 : Int32) aG aE aNE aL aLE aG aGE h0 n0 O (Or.inr (Or.inr (Or.inr (Or.inr (Or.inl ⟨rfl, rfl⟩)))))) hZ (hw _ (List.mem_of_getElem? (i := 4) rfl)) (hw _ (List.mem_of_getElem? (i := 3) rfl)) (by decide) (by decide)) (g := (mkF m 9 #[.val (.int p1), .val (.int (4 : Int32)), .unset, .unset, .unset, .unset] [(.int (4 : Int32))])) rfl (by rw [hml]; rfl) (argsL := [(.int (4 : Int32))]) (rest := []) (lenOf pd__I_Lcom_example_cantilever_cantilever_xpath_Comparison_Operator_ rfl) rfl (by show 2 * 0 + _ ≤ _; exact Nat.le_of_eq rfl) (hb hby at_9) (fun _ _ => ⟨rfl, e0, (by decide : 0 + 0 ≤ _), (by decide : 0 + 0 ≤ _)⟩)
    dsimp only [Pt.U, Pt.locs, Pt.cells, Pt.slots] at X35 l35 y35 z35 st35 hQ35
    subst l35 y35 z35
    obtain ⟨rfl, N35q, e35⟩ := hQ35
    have N35 := Fr.app N0 N35q
    obtain ⟨cq36, kq36, q36a, q36b, q36c⟩ := isOf hZ e35 E4
    obtain ⟨_, _, ⟨T36, L36, k36, n36⟩, -, X36, ⟨Lc36, hQ36, l36, y36, z36⟩, st36⟩ := X35.virtualBack hx (y := (⟨"com/example/cantilever/cantilever/xpath/Comparison$Operator", "isEquality", "()Z"⟩ : MethodName)) (z := (⟨"com/example/cantilever/cantilever/xpath/Comparison$Operator", "isEquality", "()Z"⟩ : MethodName)) hown (mvT hZ (hw _ (List.mem_of_getElem? (i := 8) rfl))) (mvT hZ (hw _ (List.mem_of_getElem? (i := 9) rfl))) (notFace_of_selects (args := #[]) (mvT hZ (hw _ (List.mem_of_getElem? (i := 11) rfl)))) (mvT hZ (hw _ (List.mem_of_getElem? (i := 11) rfl))) (mvT hZ (hw _ (List.mem_of_getElem? (i := 10) rfl))) (by decide) (backOf (W := 0) (rm2 l Z a0 hw [] aG (0 : Int32) aE aNE aL aLE aG aGE h0 n0 O (Or.inr (Or.inr ⟨own_ne F4 F0 (by decide), own_ne F4 F1 (by decide), rfl⟩))) hZ (hw _ (List.mem_of_getElem? (i := 12) rfl)) (hw _ (List.mem_of_getElem? (i := 6) rfl)) (by decide) (by decide)) q36a q36c (g := (mkF m 14 #[.val (.int p1), .val (.int (4 : Int32)), .val (.ref aG), .unset, .unset, .unset] [(.ref aG)])) rfl (by rw [hml]; rfl) (Steps.refl _) (argsL := []) (rest := []) (lenOf pd___Z rfl) rfl (by show 2 * 0 + _ ≤ _; exact Nat.le_of_eq rfl) (hb hby at_14) (fun _ _ => ⟨rfl, e35, (by decide : 0 + 0 ≤ _), (by decide : 0 + 0 ≤ _)⟩)
    dsimp only [Pt.U, Pt.locs, Pt.cells, Pt.slots] at X36 l36 y36 z36 st36 hQ36
    subst l36 y36 z36
    obtain ⟨rfl, N36q, e36⟩ := hQ36
    have N36 := Fr.app N35 N36q
    obtain ⟨cq37, kq37, q37a, q37b, q37c⟩ := isOf hZ e36 E4
    obtain ⟨_, _, ⟨T37, L37, k37, n37⟩, -, X37, ⟨Lc37, hQ37, l37, y37, z37⟩, st37⟩ := X36.virtualBack hx (y := (⟨"com/example/cantilever/cantilever/xpath/Comparison$Operator", "mirrored", "()Lcom/example/cantilever/cantilever/xpath/Comparison$Operator;"⟩ : MethodName)) (z := (⟨"com/example/cantilever/cantilever/xpath/Comparison$Operator", "mirrored", "()Lcom/example/cantilever/cantilever/xpath/Comparison$Operator;"⟩ : MethodName)) hown (mvT hZ (hw _ (List.mem_of_getElem? (i := 14) rfl))) (mvT hZ (hw _ (List.mem_of_getElem? (i := 15) rfl))) (notFace_of_selects (args := #[]) (mvT hZ (hw _ (List.mem_of_getElem? (i := 17) rfl)))) (mvT hZ (hw _ (List.mem_of_getElem? (i := 17) rfl))) (mvT hZ (hw _ (List.mem_of_getElem? (i := 16) rfl))) (by decide) (backOf (W := 0) (rm3 l Z a0 hw [] aG (4 : Int32) aL aE aNE aL aLE aG aGE h0 n0 O E4 F4 (Or.inr (Or.inr (Or.inr (Or.inr (Or.inl ⟨rfl, rfl⟩)))))) hZ (hw _ (List.mem_of_getElem? (i := 18) rfl)) (hw _ (List.mem_of_getElem? (i := 6) rfl)) (by decide) (by decide)) q37a q37c (g := (mkF m 31 #[.val (.int p1), .val (.int (4 : Int32)), .val (.ref aG), .val (.int (0 : Int32)), .val (.int (0 : Int32)), .unset] [(.ref aG)])) rfl (by rw [hml]; rfl) (Steps.refl _) (argsL := []) (rest := []) (lenOf pd___Lcom_example_cantilever_cantilever_xpath_Comparison_Operator_ rfl) rfl (by show 2 * 0 + _ ≤ _; exact Nat.le_of_eq rfl) (hb hby at_31) (fun _ _ => ⟨rfl, e36, (by decide : 0 + 0 ≤ _), (by decide : 0 + 0 ≤ _)⟩)
    dsimp only [Pt.U, Pt.locs, Pt.cells, Pt.slots] at X37 l37 y37 z37 st37 hQ37
    subst l37 y37 z37
    obtain ⟨rfl, N37q, e37⟩ := hQ37
    have N37 := Fr.app N36 N37q
    refine Run.step (T1 := T37) (g1 := (mkF m 62 #[.val (.int p1), .val (.int (4 : Int32)), .val (.ref aG), .val (.int (0 : Int32)), .val (.int (0 : Int32)), .val (.int (0 : Int32))] [(.int (1 : Int32))])) (fun target kt => ?_) ?_
    · show Steps p.tables e below (s₁.setTop (mkF m 7 #[.val (.int p1), .unset, .unset, .unset, .unset, .unset] [(.int (4 : Int32))])) _
      refine XS.istoreN X0.here hx rfl (hb hby at_7) rfl (l' := #[.val (.int p1), .val (.int (4 : Int32)), .unset, .unset, .unset, .unset]) rfl ?_
      show Steps p.tables e below (s₁.setTop (mkF m 8 #[.val (.int p1), .val (.int (4 : Int32)), .unset, .unset, .unset, .unset] [])) _
      refine XS.iloadN X0.here hx rfl (hb hby at_8) rfl ?_
      show Steps p.tables e below (s₁.setTop (mkF m 9 #[.val (.int p1), .val (.int (4 : Int32)), .unset, .unset, .unset, .unset] [(.int (4 : Int32))])) _
      refine st35 _ ?_
      show Steps p.tables e below (T35.setTop (mkF m 12 #[.val (.int p1), .val (.int (4 : Int32)), .unset, .unset, .unset, .unset] [(.ref aG)])) _
      refine XS.astoreN X35.here hx rfl (hb hby at_12) rfl rfl (l' := #[.val (.int p1), .val (.int (4 : Int32)), .val (.ref aG), .unset, .unset, .unset]) rfl ?_
      show Steps p.tables e below (T35.setTop (mkF m 13 #[.val (.int p1), .val (.int (4 : Int32)), .val (.ref aG), .unset, .unset, .unset] [])) _
      refine XS.aloadN X35.here hx rfl (hb hby at_13) rfl rfl ?_
      show Steps p.tables e below (T35.setTop (mkF m 14 #[.val (.int p1), .val (.int (4 : Int32)), .val (.ref aG), .unset, .unset, .unset] [(.ref aG)])) _
      refine st36.trans ?_
      show Steps p.tables e below (T36.setTop (mkF m 17 #[.val (.int p1), .val (.int (4 : Int32)), .val (.ref aG), .unset, .unset, .unset] [(.int (0 : Int32))])) _
      refine XS.istoreN X36.here hx rfl (hb hby at_17) rfl (l' := #[.val (.int p1), .val (.int (4 : Int32)), .val (.ref aG), .val (.int (0 : Int32)), .unset, .unset]) rfl ?_
      show Steps p.tables e below (T36.setTop (mkF m 18 #[.val (.int p1), .val (.int (4 : Int32)), .val (.ref aG), .val (.int (0 : Int32)), .unset, .unset] [])) _
      refine XS.iloadN X36.here hx rfl (hb hby at_18) rfl ?_
      show Steps p.tables e below (T36.setTop (mkF m 19 #[.val (.int p1), .val (.int (4 : Int32)), .val (.ref aG), .val (.int (0 : Int32)), .unset, .unset] [(.int (4 : Int32))])) _
      refine XS.iconst X36.here hx rfl (hb hby at_19) ?_
      show Steps p.tables e below (T36.setTop (mkF m 20 #[.val (.int p1), .val (.int (4 : Int32)), .val (.ref aG), .val (.int (0 : Int32)), .unset, .unset] [(.int (2 : Int32)), (.int (4 : Int32))])) _
      refine XS.icmpYes X36.here hx rfl (pc0 := 20) (pc' := 27) rfl (hb hby at_20) rfl (flt (by decide : ¬ ((4 : Int32) < (2 : Int32)))).2.1 (by decide) (by decide) ?_
      show Steps p.tables e below (T36.setTop (mkF m 27 #[.val (.int p1), .val (.int (4 : Int32)), .val (.ref aG), .val (.int (0 : Int32)), .unset, .unset] [])) _
      refine XS.iconst X36.here hx rfl (hb hby at_27) ?_
      show Steps p.tables e below (T36.setTop (mkF m 28 #[.val (.int p1), .val (.int (4 : Int32)), .val (.ref aG), .val (.int (0 : Int32)), .unset, .unset] [(.int (0 : Int32))])) _
      refine XS.istore X36.here hx rfl (hb hby at_28) rfl (l' := #[.val (.int p1), .val (.int (4 : Int32)), .val (.ref aG), .val (.int (0 : Int32)), .val (.int (0 : Int32)), .unset]) rfl ?_
      show Steps p.tables e below (T36.setTop (mkF m 30 #[.val (.int p1), .val (.int (4 : Int32)), .val (.ref aG), .val (.int (0 : Int32)), .val (.int (0 : Int32)), .unset] [])) _
      refine XS.aloadN X36.here hx rfl (hb hby at_30) rfl rfl ?_
      show Steps p.tables e below (T36.setTop (mkF m 31 #[.val (.int p1), .val (.int (4 : Int32)), .val (.ref aG), .val (.int (0 : Int32)), .val (.int (0 : Int32)), .unset] [(.ref aG)])) _
      refine st37.trans ?_
      show Steps p.tables e below (T37.setTop (mkF m 34 #[.val (.int p1), .val (.int (4 : Int32)), .val (.ref aG), .val (.int (0 : Int32)), .val (.int (0 : Int32)), .unset] [(.ref aL)])) _
      refine XS.aloadN X37.here hx rfl (hb hby at_34) rfl rfl ?_
      show Steps p.tables e below (T37.setTop (mkF m 35 #[.val (.int p1), .val (.int (4 : Int32)), .val (.ref aG), .val (.int (0 : Int32)), .val (.int (0 : Int32)), .unset] [(.ref aG), (.ref aL)])) _
      refine Jvm.RoadKit.acmp (g := (mkF m 35 #[.val (.int p1), .val (.int (4 : Int32)), .val (.ref aG), .val (.int (0 : Int32)), .val (.int (0 : Int32)), .unset] [(.ref aG), (.ref aL)])) X37 hx rfl rfl rfl (pc0 := 35) (pc' := 42) (same := false) rfl (hb hby at_35) rfl (decide_eq_false fun q => (own_ne F2 F4 (by decide)) (Value.ref.inj q)) (by decide) (by decide) ?_
      show Steps p.tables e below (T37.setTop (mkF m 42 #[.val (.int p1), .val (.int (4 : Int32)), .val (.ref aG), .val (.int (0 : Int32)), .val (.int (0 : Int32)), .unset] [])) _
      refine XS.iconst X37.here hx rfl (hb hby at_42) ?_
      show Steps p.tables e below (T37.setTop (mkF m 43 #[.val (.int p1), .val (.int (4 : Int32)), .val (.ref aG), .val (.int (0 : Int32)), .val (.int (0 : Int32)), .unset] [(.int (0 : Int32))])) _
      refine XS.istore X37.here hx rfl (hb hby at_43) rfl (l' := #[.val (.int p1), .val (.int (4 : Int32)), .val (.ref aG), .val (.int (0 : Int32)), .val (.int (0 : Int32)), .val (.int (0 : Int32))]) rfl ?_
      show Steps p.tables e below (T37.setTop (mkF m 45 #[.val (.int p1), .val (.int (4 : Int32)), .val (.ref aG), .val (.int (0 : Int32)), .val (.int (0 : Int32)), .val (.int (0 : Int32))] [])) _
      refine XS.iloadN X37.here hx rfl (hb hby at_45) rfl ?_
      show Steps p.tables e below (T37.setTop (mkF m 46 #[.val (.int p1), .val (.int (4 : Int32)), .val (.ref aG), .val (.int (0 : Int32)), .val (.int (0 : Int32)), .val (.int (0 : Int32))] [(.int (0 : Int32))])) _
      refine XS.iload X37.here hx rfl (hb hby at_46) rfl ?_
      show Steps p.tables e below (T37.setTop (mkF m 48 #[.val (.int p1), .val (.int (4 : Int32)), .val (.ref aG), .val (.int (0 : Int32)), .val (.int (0 : Int32)), .val (.int (0 : Int32))] [(.int (0 : Int32)), (.int (0 : Int32))])) _
      refine XS.icmpNo X37.here hx rfl (hb hby at_48) rfl (teq (by decide : (0 : Int32) = (0 : Int32))).2 ?_
      show Steps p.tables e below (T37.setTop (mkF m 51 #[.val (.int p1), .val (.int (4 : Int32)), .val (.ref aG), .val (.int (0 : Int32)), .val (.int (0 : Int32)), .val (.int (0 : Int32))] [])) _
      refine XS.iloadN X37.here hx rfl (hb hby at_51) rfl ?_
      show Steps p.tables e below (T37.setTop (mkF m 52 #[.val (.int p1), .val (.int (4 : Int32)), .val (.ref aG), .val (.int (0 : Int32)), .val (.int (0 : Int32)), .val (.int (0 : Int32))] [(.int (0 : Int32))])) _
      refine XS.iload X37.here hx rfl (hb hby at_52) rfl ?_
      show Steps p.tables e below (T37.setTop (mkF m 54 #[.val (.int p1), .val (.int (4 : Int32)), .val (.ref aG), .val (.int (0 : Int32)), .val (.int (0 : Int32)), .val (.int (0 : Int32))] [(.int (0 : Int32)), (.int (0 : Int32))])) _
      refine XS.icmpNo X37.here hx rfl (hb hby at_54) rfl (teq (by decide : (0 : Int32) = (0 : Int32))).2 ?_
      show Steps p.tables e below (T37.setTop (mkF m 57 #[.val (.int p1), .val (.int (4 : Int32)), .val (.ref aG), .val (.int (0 : Int32)), .val (.int (0 : Int32)), .val (.int (0 : Int32))] [])) _
      refine XS.iconst X37.here hx rfl (hb hby at_57) ?_
      show Steps p.tables e below (T37.setTop (mkF m 58 #[.val (.int p1), .val (.int (4 : Int32)), .val (.ref aG), .val (.int (0 : Int32)), .val (.int (0 : Int32)), .val (.int (0 : Int32))] [(.int (1 : Int32))])) _
      refine XS.goto X37.here hx rfl (pc0 := 58) (pc' := 62) rfl (hb hby at_58) (by decide) (by decide) ?_
      exact kt
    exact Run.retZ X37 hx (t := .boolean) hret (by simp) (hb hby at_62) ⟨Nat.le_refl _, Nat.le_refl _, rfl, N37, e37⟩
  · rw [hk]
    obtain ⟨_, _, ⟨T38, L38, k38, n38⟩, -, X38, ⟨Lc38, hQ38, l38, y38, z38⟩, st38⟩ := Jvm.LawKit.callS X0 hx (y := (⟨"com/example/cantilever/cantilever/xpath/OperatorIsEqualityPinLaw", "pick", "(I)Lcom/example/cantilever/cantilever/xpath/Comparison$Operator;"⟩ : MethodName)) hown (mvT hZ (hw _ (List.mem_of_getElem? (i := 1) rfl))) (mvT hZ (hw _ (List.mem_of_getElem? (i := 2) rfl))) (mvT hZ (hw _ (List.mem_of_getElem? (i := 3) rfl))) (mvT hZ (hw _ (List.mem_of_getElem? (i := 4) rfl))) (by decide) (backOf (W := 0) (rm1 l Z a0 hw [] (5 : Int32) aGE aE aNE aL aLE aG aGE h0 n0 O (Or.inr (Or.inr (Or.inr (Or.inr (Or.inr (⟨rfl, rfl⟩))))))) hZ (hw _ (List.mem_of_getElem? (i := 4) rfl)) (hw _ (List.mem_of_getElem? (i := 3) rfl)) (by decide) (by decide)) (g := (mkF m 9 #[.val (.int p1), .val (.int (5 : Int32)), .unset, .unset, .unset, .unset] [(.int (5 : Int32))])) rfl (by rw [hml]; rfl) (argsL := [(.int (5 : Int32))]) (rest := []) (lenOf pd__I_Lcom_example_cantilever_cantilever_xpath_Comparison_Operator_ rfl) rfl (by show 2 * 0 + _ ≤ _; exact Nat.le_of_eq rfl) (hb hby at_9) (fun _ _ => ⟨rfl, e0, (by decide : 0 + 0 ≤ _), (by decide : 0 + 0 ≤ _)⟩)
    dsimp only [Pt.U, Pt.locs, Pt.cells, Pt.slots] at X38 l38 y38 z38 st38 hQ38
    subst l38 y38 z38
    obtain ⟨rfl, N38q, e38⟩ := hQ38
    have N38 := Fr.app N0 N38q
    obtain ⟨cq39, kq39, q39a, q39b, q39c⟩ := isOf hZ e38 E5
    obtain ⟨_, _, ⟨T39, L39, k39, n39⟩, -, X39, ⟨Lc39, hQ39, l39, y39, z39⟩, st39⟩ := X38.virtualBack hx (y := (⟨"com/example/cantilever/cantilever/xpath/Comparison$Operator", "isEquality", "()Z"⟩ : MethodName)) (z := (⟨"com/example/cantilever/cantilever/xpath/Comparison$Operator", "isEquality", "()Z"⟩ : MethodName)) hown (mvT hZ (hw _ (List.mem_of_getElem? (i := 8) rfl))) (mvT hZ (hw _ (List.mem_of_getElem? (i := 9) rfl))) (notFace_of_selects (args := #[]) (mvT hZ (hw _ (List.mem_of_getElem? (i := 11) rfl)))) (mvT hZ (hw _ (List.mem_of_getElem? (i := 11) rfl))) (mvT hZ (hw _ (List.mem_of_getElem? (i := 10) rfl))) (by decide) (backOf (W := 0) (rm2 l Z a0 hw [] aGE (0 : Int32) aE aNE aL aLE aG aGE h0 n0 O (Or.inr (Or.inr ⟨own_ne F5 F0 (by decide), own_ne F5 F1 (by decide), rfl⟩))) hZ (hw _ (List.mem_of_getElem? (i := 12) rfl)) (hw _ (List.mem_of_getElem? (i := 6) rfl)) (by decide) (by decide)) q39a q39c (g := (mkF m 14 #[.val (.int p1), .val (.int (5 : Int32)), .val (.ref aGE), .unset, .unset, .unset] [(.ref aGE)])) rfl (by rw [hml]; rfl) (Steps.refl _) (argsL := []) (rest := []) (lenOf pd___Z rfl) rfl (by show 2 * 0 + _ ≤ _; exact Nat.le_of_eq rfl) (hb hby at_14) (fun _ _ => ⟨rfl, e38, (by decide : 0 + 0 ≤ _), (by decide : 0 + 0 ≤ _)⟩)
    dsimp only [Pt.U, Pt.locs, Pt.cells, Pt.slots] at X39 l39 y39 z39 st39 hQ39
    subst l39 y39 z39
    obtain ⟨rfl, N39q, e39⟩ := hQ39
    have N39 := Fr.app N38 N39q
    obtain ⟨cq40, kq40, q40a, q40b, q40c⟩ := isOf hZ e39 E5
    obtain ⟨_, _, ⟨T40, L40, k40, n40⟩, -, X40, ⟨Lc40, hQ40, l40, y40, z40⟩, st40⟩ := X39.virtualBack hx (y := (⟨"com/example/cantilever/cantilever/xpath/Comparison$Operator", "mirrored", "()Lcom/example/cantilever/cantilever/xpath/Comparison$Operator;"⟩ : MethodName)) (z := (⟨"com/example/cantilever/cantilever/xpath/Comparison$Operator", "mirrored", "()Lcom/example/cantilever/cantilever/xpath/Comparison$Operator;"⟩ : MethodName)) hown (mvT hZ (hw _ (List.mem_of_getElem? (i := 14) rfl))) (mvT hZ (hw _ (List.mem_of_getElem? (i := 15) rfl))) (notFace_of_selects (args := #[]) (mvT hZ (hw _ (List.mem_of_getElem? (i := 17) rfl)))) (mvT hZ (hw _ (List.mem_of_getElem? (i := 17) rfl))) (mvT hZ (hw _ (List.mem_of_getElem? (i := 16) rfl))) (by decide) (backOf (W := 0) (rm3 l Z a0 hw [] aGE (5 : Int32) aLE aE aNE aL aLE aG aGE h0 n0 O E5 F5 (Or.inr (Or.inr (Or.inr (Or.inr (Or.inr (⟨rfl, rfl⟩))))))) hZ (hw _ (List.mem_of_getElem? (i := 18) rfl)) (hw _ (List.mem_of_getElem? (i := 6) rfl)) (by decide) (by decide)) q40a q40c (g := (mkF m 31 #[.val (.int p1), .val (.int (5 : Int32)), .val (.ref aGE), .val (.int (0 : Int32)), .val (.int (0 : Int32)), .unset] [(.ref aGE)])) rfl (by rw [hml]; rfl) (Steps.refl _) (argsL := []) (rest := []) (lenOf pd___Lcom_example_cantilever_cantilever_xpath_Comparison_Operator_ rfl) rfl (by show 2 * 0 + _ ≤ _; exact Nat.le_of_eq rfl) (hb hby at_31) (fun _ _ => ⟨rfl, e39, (by decide : 0 + 0 ≤ _), (by decide : 0 + 0 ≤ _)⟩)
    dsimp only [Pt.U, Pt.locs, Pt.cells, Pt.slots] at X40 l40 y40 z40 st40 hQ40
    subst l40 y40 z40
    obtain ⟨rfl, N40q, e40⟩ := hQ40
    have N40 := Fr.app N39 N40q
    refine Run.step (T1 := T40) (g1 := (mkF m 62 #[.val (.int p1), .val (.int (5 : Int32)), .val (.ref aGE), .val (.int (0 : Int32)), .val (.int (0 : Int32)), .val (.int (0 : Int32))] [(.int (1 : Int32))])) (fun target kt => ?_) ?_
    · show Steps p.tables e below (s₁.setTop (mkF m 7 #[.val (.int p1), .unset, .unset, .unset, .unset, .unset] [(.int (5 : Int32))])) _
      refine XS.istoreN X0.here hx rfl (hb hby at_7) rfl (l' := #[.val (.int p1), .val (.int (5 : Int32)), .unset, .unset, .unset, .unset]) rfl ?_
      show Steps p.tables e below (s₁.setTop (mkF m 8 #[.val (.int p1), .val (.int (5 : Int32)), .unset, .unset, .unset, .unset] [])) _
      refine XS.iloadN X0.here hx rfl (hb hby at_8) rfl ?_
      show Steps p.tables e below (s₁.setTop (mkF m 9 #[.val (.int p1), .val (.int (5 : Int32)), .unset, .unset, .unset, .unset] [(.int (5 : Int32))])) _
      refine st38 _ ?_
      show Steps p.tables e below (T38.setTop (mkF m 12 #[.val (.int p1), .val (.int (5 : Int32)), .unset, .unset, .unset, .unset] [(.ref aGE)])) _
      refine XS.astoreN X38.here hx rfl (hb hby at_12) rfl rfl (l' := #[.val (.int p1), .val (.int (5 : Int32)), .val (.ref aGE), .unset, .unset, .unset]) rfl ?_
      show Steps p.tables e below (T38.setTop (mkF m 13 #[.val (.int p1), .val (.int (5 : Int32)), .val (.ref aGE), .unset, .unset, .unset] [])) _
      refine XS.aloadN X38.here hx rfl (hb hby at_13) rfl rfl ?_
      show Steps p.tables e below (T38.setTop (mkF m 14 #[.val (.int p1), .val (.int (5 : Int32)), .val (.ref aGE), .unset, .unset, .unset] [(.ref aGE)])) _
      refine st39.trans ?_
      show Steps p.tables e below (T39.setTop (mkF m 17 #[.val (.int p1), .val (.int (5 : Int32)), .val (.ref aGE), .unset, .unset, .unset] [(.int (0 : Int32))])) _
      refine XS.istoreN X39.here hx rfl (hb hby at_17) rfl (l' := #[.val (.int p1), .val (.int (5 : Int32)), .val (.ref aGE), .val (.int (0 : Int32)), .unset, .unset]) rfl ?_
      show Steps p.tables e below (T39.setTop (mkF m 18 #[.val (.int p1), .val (.int (5 : Int32)), .val (.ref aGE), .val (.int (0 : Int32)), .unset, .unset] [])) _
      refine XS.iloadN X39.here hx rfl (hb hby at_18) rfl ?_
      show Steps p.tables e below (T39.setTop (mkF m 19 #[.val (.int p1), .val (.int (5 : Int32)), .val (.ref aGE), .val (.int (0 : Int32)), .unset, .unset] [(.int (5 : Int32))])) _
      refine XS.iconst X39.here hx rfl (hb hby at_19) ?_
      show Steps p.tables e below (T39.setTop (mkF m 20 #[.val (.int p1), .val (.int (5 : Int32)), .val (.ref aGE), .val (.int (0 : Int32)), .unset, .unset] [(.int (2 : Int32)), (.int (5 : Int32))])) _
      refine XS.icmpYes X39.here hx rfl (pc0 := 20) (pc' := 27) rfl (hb hby at_20) rfl (flt (by decide : ¬ ((5 : Int32) < (2 : Int32)))).2.1 (by decide) (by decide) ?_
      show Steps p.tables e below (T39.setTop (mkF m 27 #[.val (.int p1), .val (.int (5 : Int32)), .val (.ref aGE), .val (.int (0 : Int32)), .unset, .unset] [])) _
      refine XS.iconst X39.here hx rfl (hb hby at_27) ?_
      show Steps p.tables e below (T39.setTop (mkF m 28 #[.val (.int p1), .val (.int (5 : Int32)), .val (.ref aGE), .val (.int (0 : Int32)), .unset, .unset] [(.int (0 : Int32))])) _
      refine XS.istore X39.here hx rfl (hb hby at_28) rfl (l' := #[.val (.int p1), .val (.int (5 : Int32)), .val (.ref aGE), .val (.int (0 : Int32)), .val (.int (0 : Int32)), .unset]) rfl ?_
      show Steps p.tables e below (T39.setTop (mkF m 30 #[.val (.int p1), .val (.int (5 : Int32)), .val (.ref aGE), .val (.int (0 : Int32)), .val (.int (0 : Int32)), .unset] [])) _
      refine XS.aloadN X39.here hx rfl (hb hby at_30) rfl rfl ?_
      show Steps p.tables e below (T39.setTop (mkF m 31 #[.val (.int p1), .val (.int (5 : Int32)), .val (.ref aGE), .val (.int (0 : Int32)), .val (.int (0 : Int32)), .unset] [(.ref aGE)])) _
      refine st40.trans ?_
      show Steps p.tables e below (T40.setTop (mkF m 34 #[.val (.int p1), .val (.int (5 : Int32)), .val (.ref aGE), .val (.int (0 : Int32)), .val (.int (0 : Int32)), .unset] [(.ref aLE)])) _
      refine XS.aloadN X40.here hx rfl (hb hby at_34) rfl rfl ?_
      show Steps p.tables e below (T40.setTop (mkF m 35 #[.val (.int p1), .val (.int (5 : Int32)), .val (.ref aGE), .val (.int (0 : Int32)), .val (.int (0 : Int32)), .unset] [(.ref aGE), (.ref aLE)])) _
      refine Jvm.RoadKit.acmp (g := (mkF m 35 #[.val (.int p1), .val (.int (5 : Int32)), .val (.ref aGE), .val (.int (0 : Int32)), .val (.int (0 : Int32)), .unset] [(.ref aGE), (.ref aLE)])) X40 hx rfl rfl rfl (pc0 := 35) (pc' := 42) (same := false) rfl (hb hby at_35) rfl (decide_eq_false fun q => (own_ne F3 F5 (by decide)) (Value.ref.inj q)) (by decide) (by decide) ?_
      show Steps p.tables e below (T40.setTop (mkF m 42 #[.val (.int p1), .val (.int (5 : Int32)), .val (.ref aGE), .val (.int (0 : Int32)), .val (.int (0 : Int32)), .unset] [])) _
      refine XS.iconst X40.here hx rfl (hb hby at_42) ?_
      show Steps p.tables e below (T40.setTop (mkF m 43 #[.val (.int p1), .val (.int (5 : Int32)), .val (.ref aGE), .val (.int (0 : Int32)), .val (.int (0 : Int32)), .unset] [(.int (0 : Int32))])) _
      refine XS.istore X40.here hx rfl (hb hby at_43) rfl (l' := #[.val (.int p1), .val (.int (5 : Int32)), .val (.ref aGE), .val (.int (0 : Int32)), .val (.int (0 : Int32)), .val (.int (0 : Int32))]) rfl ?_
      show Steps p.tables e below (T40.setTop (mkF m 45 #[.val (.int p1), .val (.int (5 : Int32)), .val (.ref aGE), .val (.int (0 : Int32)), .val (.int (0 : Int32)), .val (.int (0 : Int32))] [])) _
      refine XS.iloadN X40.here hx rfl (hb hby at_45) rfl ?_
      show Steps p.tables e below (T40.setTop (mkF m 46 #[.val (.int p1), .val (.int (5 : Int32)), .val (.ref aGE), .val (.int (0 : Int32)), .val (.int (0 : Int32)), .val (.int (0 : Int32))] [(.int (0 : Int32))])) _
      refine XS.iload X40.here hx rfl (hb hby at_46) rfl ?_
      show Steps p.tables e below (T40.setTop (mkF m 48 #[.val (.int p1), .val (.int (5 : Int32)), .val (.ref aGE), .val (.int (0 : Int32)), .val (.int (0 : Int32)), .val (.int (0 : Int32))] [(.int (0 : Int32)), (.int (0 : Int32))])) _
      refine XS.icmpNo X40.here hx rfl (hb hby at_48) rfl (teq (by decide : (0 : Int32) = (0 : Int32))).2 ?_
      show Steps p.tables e below (T40.setTop (mkF m 51 #[.val (.int p1), .val (.int (5 : Int32)), .val (.ref aGE), .val (.int (0 : Int32)), .val (.int (0 : Int32)), .val (.int (0 : Int32))] [])) _
      refine XS.iloadN X40.here hx rfl (hb hby at_51) rfl ?_
      show Steps p.tables e below (T40.setTop (mkF m 52 #[.val (.int p1), .val (.int (5 : Int32)), .val (.ref aGE), .val (.int (0 : Int32)), .val (.int (0 : Int32)), .val (.int (0 : Int32))] [(.int (0 : Int32))])) _
      refine XS.iload X40.here hx rfl (hb hby at_52) rfl ?_
      show Steps p.tables e below (T40.setTop (mkF m 54 #[.val (.int p1), .val (.int (5 : Int32)), .val (.ref aGE), .val (.int (0 : Int32)), .val (.int (0 : Int32)), .val (.int (0 : Int32))] [(.int (0 : Int32)), (.int (0 : Int32))])) _
      refine XS.icmpNo X40.here hx rfl (hb hby at_54) rfl (teq (by decide : (0 : Int32) = (0 : Int32))).2 ?_
      show Steps p.tables e below (T40.setTop (mkF m 57 #[.val (.int p1), .val (.int (5 : Int32)), .val (.ref aGE), .val (.int (0 : Int32)), .val (.int (0 : Int32)), .val (.int (0 : Int32))] [])) _
      refine XS.iconst X40.here hx rfl (hb hby at_57) ?_
      show Steps p.tables e below (T40.setTop (mkF m 58 #[.val (.int p1), .val (.int (5 : Int32)), .val (.ref aGE), .val (.int (0 : Int32)), .val (.int (0 : Int32)), .val (.int (0 : Int32))] [(.int (1 : Int32))])) _
      refine XS.goto X40.here hx rfl (pc0 := 58) (pc' := 62) rfl (hb hby at_58) (by decide) (by decide) ?_
      exact kt
    exact Run.retZ X40 hx (t := .boolean) hret (by simp) (hb hby at_62) ⟨Nat.le_refl _, Nat.le_refl _, rfl, N40, e40⟩
theorem own_eq_int {t : Term} {k : Int32} {args : Array Value} {s : State} (h : (Jvm.Cond.eq t (.int k)).value args s none s [] = some true) : t.eval args s none [] s = some (.int k) := by
  have hk : (Term.int k).eval args s none [] s = some (.int k) := rfl
  simp only [Cond.value, hk] at h
  cases ht : t.eval args s none [] s with
  | none => simp [ht] at h
  | some v => cases v <;> simp_all
set_option maxRecDepth 65536 in
set_option maxHeartbeats 40000000 in
theorem comes_1 {Post : Tables → Env → Array Value → State → Outcome → State → Prop} (hpost : ∀ tb e args s v u, (limb_1_1.after args s (.returned v) u = true ∧ limb_1_2.after args s (.returned v) u = true ∧ True) → FrameEnd s (.returned v) u (Jvm.fieldLocs frame_1_writes args s ++ Jvm.arrayLocs frame_1_arrays args s ++ Jvm.staticLocs frame_1_statics s) 0 0 → Post tb e args s (.returned v) u) :
    ArmFor flags0 classFile x code maxLocals ret World_1 tables_1 room_1 Calls_1 rest_1 Pre_1 Post := by
  intro l hfl _ _ p e ha hc hk s m args below hf hA hF happ hP
  obtain ⟨hcalls, hrest, hpre⟩ := hP
  obtain ⟨-, -, -, hnamed, -, -, -, hat⟩ := (Spec.applies_iff hf).mp happ
  obtain ⟨hg, hn⟩ := and_e (Cond.before_iff.mp (show (Jvm.Cond.and given_1 narrow_1).before args s = true from hpre))
  obtain ⟨g1, g2⟩ := and_e hg
  obtain ⟨w0, rfl⟩ : ∃ w0 : Value, args = #[w0] := by
    have hs : args.size = 1 := by simpa [Cond.value, given_1] using g1
    obtain ⟨L⟩ := args
    match L, hs with
    | [w0], _ => exact ⟨w0, rfl⟩
  have hw := fun d (hd : d ∈ tables_1) => atoms_spec (ws := Jvm.Cond.code x code maxLocals ret :: tables_1) hat d (List.mem_cons_of_mem _ hd)
  obtain ⟨i0, ei0⟩ := is_v g2
  obtain rfl : w0 = (.int i0) := Option.some.inj ei0
  obtain ⟨x0, r0a⟩ := and_e hn
  obtain ⟨y0, r0b⟩ := and_e r0a
  obtain ⟨aE, ev0⟩ := exa_v x0
  have E0 := Exa.start ev0 x0
  have S0 := Sta.start ev0 (Or.inr ⟨(hw _ (List.mem_of_getElem? (i := 6) rfl)), (hw _ (List.mem_of_getElem? (i := 7) rfl))⟩)
  have F0 := Fld.start ((fld_at ev0).symm.trans (own_eq_int y0))
  obtain ⟨x3, r3a⟩ := and_e r0b
  obtain ⟨y3, r3b⟩ := and_e r3a
  obtain ⟨aLE, ev3⟩ := exa_v x3
  have E3 := Exa.start ev3 x3
  have S3 := Sta.start ev3 (Or.inr ⟨(hw _ (List.mem_of_getElem? (i := 6) rfl)), (hw _ (List.mem_of_getElem? (i := 29) rfl))⟩)
  have F3 := Fld.start ((fld_at ev3).symm.trans (own_eq_int y3))
  obtain ⟨x1, r1a⟩ := and_e r3b
  obtain ⟨y1, r1b⟩ := and_e r1a
  obtain ⟨aNE, ev1⟩ := exa_v x1
  have E1 := Exa.start ev1 x1
  have S1 := Sta.start ev1 (Or.inr ⟨(hw _ (List.mem_of_getElem? (i := 6) rfl)), (hw _ (List.mem_of_getElem? (i := 31) rfl))⟩)
  have F1 := Fld.start ((fld_at ev1).symm.trans (own_eq_int y1))
  obtain ⟨x5, r5a⟩ := and_e r1b
  obtain ⟨y5, r5b⟩ := and_e r5a
  obtain ⟨aGE, ev5⟩ := exa_v x5
  have E5 := Exa.start ev5 x5
  have S5 := Sta.start ev5 (Or.inr ⟨(hw _ (List.mem_of_getElem? (i := 6) rfl)), (hw _ (List.mem_of_getElem? (i := 33) rfl))⟩)
  have F5 := Fld.start ((fld_at ev5).symm.trans (own_eq_int y5))
  obtain ⟨x2, r2a⟩ := and_e r5b
  obtain ⟨y2, r2b⟩ := and_e r2a
  obtain ⟨aL, ev2⟩ := exa_v x2
  have E2 := Exa.start ev2 x2
  have S2 := Sta.start ev2 (Or.inr ⟨(hw _ (List.mem_of_getElem? (i := 6) rfl)), (hw _ (List.mem_of_getElem? (i := 35) rfl))⟩)
  have F2 := Fld.start ((fld_at ev2).symm.trans (own_eq_int y2))
  obtain ⟨x4, r4a⟩ := and_e r2b
  have y4 := r4a
  obtain ⟨aG, ev4⟩ := exa_v x4
  have E4 := Exa.start ev4 x4
  have S4 := Sta.start ev4 (Or.inr ⟨(hw _ (List.mem_of_getElem? (i := 6) rfl)), (hw _ (List.mem_of_getElem? (i := 37) rfl))⟩)
  have F4 := Fld.start ((fld_at ev4).symm.trans (own_eq_int y4))
  obtain ⟨n, o, h1, h2, h3, _, L, rfl, ⟨rfl, N, -⟩, hq⟩ := rm0 l s _ hw tables_1 i0 aE aNE aL aLE aG aGE s.heap s.heap.size ⟨S0, S1, S2, S3, S4, S5⟩ F0 E0 F1 E1 F2 E2 F3 E3 F4 E4 F5 E5 p e ha hc hk s m _ below hf ((Spec.applies_iff_loose hf).mp happ).1 ⟨rfl, State.Warmed39.refl s, rfl⟩ trivial
  refine ⟨n, _, h1, h2, h3, hpost _ _ _ _ _ _ ⟨Cond.after_iff.mpr rfl, Cond.after_iff.mpr (eq_i res_at (Term.int_eval (1)) rfl), trivial⟩ ⟨hq.1, hq.2.1, (hq.2.2.sift fun y hy => Or.inr (N y hy)).mono (by decide) (by decide)⟩⟩
theorem main_1_1 : Claimed_1_1 := comes_1 fun _ _ _ _ _ _ h hF => ⟨h.1, hF⟩
theorem main_1_2 : Claimed_1_2 := comes_1 fun _ _ _ _ _ _ h hF => ⟨h.2.1, hF⟩
end Jvm.Pilot.@@N@@
namespace Jvm.Pilot.@@N@@
open Jvm Jvm.ClassFile Sem Op Lib Jvm.Free Jvm.Stand Jvm.Pilot.@@N@@.Jvm.D
/-! MADE BY PROGRAM (witnessworld.py) out of the Statement's table words and the real class files: 12 classes; the members and pool entries that the words name. The judged class is class 1, her method 2. -/
namespace start1
open Jvm.ClassFile
def u (s : String) : CpInfo := .utf8 (stringToUtf16 s)
/-- a pool by its gaps: so many unusable entries, then the entry; so many at the end -/
def gap : Nat → List CpInfo → List CpInfo
  | 0, r => r
  | n + 1, r => .unusable :: gap n r
def poolList (es : List (Nat × CpInfo)) (last : Nat) : List CpInfo := es.foldr (fun e r => gap e.1 (e.2 :: r)) (gap last [])
def pool (es : List (Nat × CpInfo)) (last : Nat) : Array CpInfo := ⟨poolList es last⟩
def fileOf (pool : Array CpInfo) (this : Nat) (attrs : Array Attribute := #[]) (ms : Array MethodInfo := #[]) (fl : Nat := 33) (sup : Nat := 0) (ifs : Array Nat := #[]) (fds : Array FieldInfo := #[]) : ClassFile where
  minorVersion := 0
  majorVersion := 65
  constantPool := pool
  accessFlags := fl
  thisClass := this
  superClass := sup
  interfaces := ifs
  fields := fds
  methods := ms
  attributes := attrs
def plain (name : String) (sup : Option ClassId) : Class where
  name := name
  kind := .ordinary
  loader := none
  accessFlags := 33
  super := sup
  interfaces := #[]
  cf := none
  fields := #[]
  methods := #[]
  instanceTypes := #[]
  staticTypes := #[]
  resolved := #[]
  callSites := []
  init := .initialized
  statics := none
  mirror := none

def pool0 : Array CpInfo := pool [(5, u "<init>"), (0, u "()V"), (1, .class_ 10), (1, u "java/lang/Object")] 113

def k0m0 : Method := { name := "<init>", desc := "()V", sig := { parameters := [], returnType := none }, accessFlags := 1, code := none }
/-- java/lang/Object -/
def k0 : Class := { plain "java/lang/Object" none with
  accessFlags := 33
  interfaces := #[]
  cf := some (fileOf pool0 8 #[] #[{ accessFlags := 1, nameIndex := 5, descriptorIndex := 6, attributes := #[] }] 33 0 #[] #[])
  fields := #[]
  methods := #[k0m0]
  instanceTypes := #[]
  staticTypes := #[]
  resolved := Array.replicate 124 none
  statics := none }

def pool1 : Array CpInfo := pool [(2, .class_ 4), (1, u "java/lang/Object"), (0, u "<init>"), (0, u "()V"), (0, .fieldref 8 9), (0, .class_ 10), (0, .nameAndType 11 12), (0, u "com/example/cantilever/cantilever/xpath/Comparison$Operator"), (0, u "EQUAL"), (0, u "Lcom/example/cantilever/cantilever/xpath/Comparison$Operator;"), (0, .fieldref 8 14), (0, .nameAndType 15 12), (0, u "NOT_EQUAL"), (0, .fieldref 8 17), (0, .nameAndType 18 12), (0, u "LESS"), (0, .fieldref 8 20), (0, .nameAndType 21 12), (0, u "LESS_OR_EQUAL"), (0, .fieldref 8 23), (0, .nameAndType 24 12), (0, u "GREATER"), (0, .fieldref 8 26), (0, .nameAndType 27 12), (0, u "GREATER_OR_EQUAL"), (0, .integer 2147483647), (0, .methodref 30 31), (0, .class_ 32), (0, .nameAndType 33 34), (0, u "com/example/cantilever/cantilever/xpath/OperatorIsEqualityPinLaw"), (0, u "pick"), (0, u "(I)Lcom/example/cantilever/cantilever/xpath/Comparison$Operator;"), (0, .methodref 8 36), (0, .nameAndType 37 38), (0, u "isEquality"), (0, u "()Z"), (0, .methodref 8 40), (0, .nameAndType 41 42), (0, u "mirrored"), (0, u "()Lcom/example/cantilever/cantilever/xpath/Comparison$Operator;"), (3, u "law"), (0, u "(I)Z")] 6

def k1m0 : Method := { name := "<init>", desc := "()V", sig := { parameters := [], returnType := none }, accessFlags := 2, code := none }
def k1c1 : Code := { maxStack := 2, maxLocals := 1, code := method_2_code, exceptionTable := #[], attributes := #[] }
def k1m1 : Method := { name := "pick", desc := "(I)Lcom/example/cantilever/cantilever/xpath/Comparison$Operator;", sig := { parameters := [.int], returnType := some (.object "com/example/cantilever/cantilever/xpath/Comparison$Operator") }, accessFlags := 10, code := some k1c1 }
def k1c2 : Code := { maxStack := 2, maxLocals := 6, code := code, exceptionTable := #[], attributes := #[] }
def k1m2 : Method := { name := "law", desc := "(I)Z", sig := { parameters := [.int], returnType := some .boolean }, accessFlags := 9, code := some k1c2 }
/-- com/example/cantilever/cantilever/xpath/OperatorIsEqualityPinLaw -/
def k1 : Class := { plain "com/example/cantilever/cantilever/xpath/OperatorIsEqualityPinLaw" (some 0) with
  accessFlags := 49
  interfaces := #[]
  cf := some (fileOf pool1 30 #[] #[{ accessFlags := 2, nameIndex := 5, descriptorIndex := 6, attributes := #[] }, { accessFlags := 10, nameIndex := 33, descriptorIndex := 34, attributes := #[] }, { accessFlags := 9, nameIndex := 46, descriptorIndex := 47, attributes := #[] }] 49 2 #[] #[])
  fields := #[]
  methods := #[k1m0, k1m1, k1m2]
  instanceTypes := #[]
  staticTypes := #[]
  resolved := Array.replicate 54 none
  statics := none }

def pool2 : Array CpInfo := pool [(1, .class_ 2), (0, u "java/lang/constant/Constable"), (0, .class_ 4), (0, u "java/lang/Object")] 6

/-- java/lang/constant/Constable -/
def k2 : Class := { plain "java/lang/constant/Constable" (some 0) with
  accessFlags := 1537
  interfaces := #[]
  cf := some (fileOf pool2 1 #[] #[] 1537 3 #[] #[])
  fields := #[]
  methods := #[]
  instanceTypes := #[]
  staticTypes := #[]
  resolved := Array.replicate 11 none
  statics := none }

def pool3 : Array CpInfo := pool [(1, .class_ 2), (0, u "java/lang/Comparable"), (0, .class_ 4), (0, u "java/lang/Object")] 7

/-- java/lang/Comparable -/
def k3 : Class := { plain "java/lang/Comparable" (some 0) with
  accessFlags := 1537
  interfaces := #[]
  cf := some (fileOf pool3 1 #[] #[] 1537 3 #[] #[])
  fields := #[]
  methods := #[]
  instanceTypes := #[]
  staticTypes := #[]
  resolved := Array.replicate 12 none
  statics := none }

def pool4 : Array CpInfo := pool [(1, .class_ 2), (0, u "java/io/Serializable"), (0, .class_ 4), (0, u "java/lang/Object")] 2

/-- java/io/Serializable -/
def k4 : Class := { plain "java/io/Serializable" (some 0) with
  accessFlags := 1537
  interfaces := #[]
  cf := some (fileOf pool4 1 #[] #[] 1537 3 #[] #[])
  fields := #[]
  methods := #[]
  instanceTypes := #[]
  staticTypes := #[]
  resolved := Array.replicate 7 none
  statics := none }

def pool5 : Array CpInfo := pool [(2, .class_ 4), (1, u "java/lang/Enum"), (0, u "name"), (0, u "Ljava/lang/String;"), (0, .fieldref 2 8), (0, .nameAndType 9 10), (0, u "ordinal"), (0, u "I"), (1, .class_ 14), (1, u "java/lang/Object"), (4, u "hash"), (86, .class_ 108), (1, u "java/lang/Enum$EnumDesc"), (2, .class_ 112), (0, u "java/lang/constant/Constable"), (0, .class_ 114), (0, u "java/lang/Comparable"), (0, .class_ 116), (0, u "java/io/Serializable"), (9, u "()I")] 77

def k5c0 : Code := { maxStack := 1, maxLocals := 1, code := jdk_37_method_2_code, exceptionTable := #[], attributes := #[] }
def k5m0 : Method := { name := "ordinal", desc := "()I", sig := { parameters := [], returnType := some .int }, accessFlags := 17, code := some k5c0 }
/-- java/lang/Enum -/
def k5 : Class := { plain "java/lang/Enum" (some 0) with
  accessFlags := 1057
  interfaces := #[2, 3, 4]
  cf := some (fileOf pool5 2 #[.nestMembers #[106]] #[{ accessFlags := 17, nameIndex := 9, descriptorIndex := 126, attributes := #[] }] 1057 12 #[111, 113, 115] #[{ accessFlags := 18, nameIndex := 5, descriptorIndex := 6, attributes := #[] }, { accessFlags := 18, nameIndex := 9, descriptorIndex := 10, attributes := #[] }, { accessFlags := 2, nameIndex := 19, descriptorIndex := 10, attributes := #[] }])
  fields := #[{ name := "name", type := (.object "java/lang/String"), accessFlags := 18, slot := 0, constantValue := 0 }, { name := "ordinal", type := .int, accessFlags := 18, slot := 1, constantValue := 0 }, { name := "hash", type := .int, accessFlags := 2, slot := 2, constantValue := 0 }]
  methods := #[k5m0]
  instanceTypes := #[(.object "java/lang/String"), .int, .int]
  staticTypes := #[]
  resolved := Array.replicate 204 none
  statics := none }

def pool6 : Array CpInfo := pool [(1, .class_ 2), (0, u "com/example/cantilever/cantilever/xpath/Comparison$Operator"), (0, .fieldref 1 4), (0, .nameAndType 5 6), (0, u "EQUAL"), (0, u "Lcom/example/cantilever/cantilever/xpath/Comparison$Operator;"), (0, .fieldref 1 8), (0, .nameAndType 9 6), (0, u "NOT_EQUAL"), (0, .fieldref 1 11), (0, .nameAndType 12 6), (0, u "LESS"), (0, .fieldref 1 14), (0, .nameAndType 15 6), (0, u "LESS_OR_EQUAL"), (0, .fieldref 1 17), (0, .nameAndType 18 6), (0, u "GREATER"), (0, .fieldref 1 20), (0, .nameAndType 21 6), (0, u "GREATER_OR_EQUAL"), (2, u "$VALUES"), (0, u "[Lcom/example/cantilever/cantilever/xpath/Comparison$Operator;"), (6, .class_ 34), (1, u "java/lang/Enum"), (6, .methodref 1 42), (0, .nameAndType 43 44), (0, u "ordinal"), (0, u "()I"), (18, u "mirrored"), (0, u "()Lcom/example/cantilever/cantilever/xpath/Comparison$Operator;"), (1, u "isEquality"), (0, u "()Z"), (5, .class_ 74), (0, u "com/example/cantilever/cantilever/xpath/Comparison")] 2

def k6c0 : Code := { maxStack := 1, maxLocals := 1, code := prog_211_method_4_code, exceptionTable := #[], attributes := #[] }
def k6m0 : Method := { name := "mirrored", desc := "()Lcom/example/cantilever/cantilever/xpath/Comparison$Operator;", sig := { parameters := [], returnType := some (.object "com/example/cantilever/cantilever/xpath/Comparison$Operator") }, accessFlags := 0, code := some k6c0 }
def k6c1 : Code := { maxStack := 2, maxLocals := 1, code := prog_211_method_5_code, exceptionTable := #[], attributes := #[] }
def k6m1 : Method := { name := "isEquality", desc := "()Z", sig := { parameters := [], returnType := some .boolean }, accessFlags := 0, code := some k6c1 }
/-- com/example/cantilever/cantilever/xpath/Comparison$Operator -/
def k6 : Class := { plain "com/example/cantilever/cantilever/xpath/Comparison$Operator" (some 5) with
  accessFlags := 16432
  interfaces := #[]
  cf := some (fileOf pool6 1 #[.nestHost 73] #[{ accessFlags := 0, nameIndex := 63, descriptorIndex := 64, attributes := #[] }, { accessFlags := 0, nameIndex := 66, descriptorIndex := 67, attributes := #[] }] 16432 32 #[] #[{ accessFlags := 16409, nameIndex := 5, descriptorIndex := 6, attributes := #[] }, { accessFlags := 16409, nameIndex := 9, descriptorIndex := 6, attributes := #[] }, { accessFlags := 16409, nameIndex := 12, descriptorIndex := 6, attributes := #[] }, { accessFlags := 16409, nameIndex := 15, descriptorIndex := 6, attributes := #[] }, { accessFlags := 16409, nameIndex := 18, descriptorIndex := 6, attributes := #[] }, { accessFlags := 16409, nameIndex := 21, descriptorIndex := 6, attributes := #[] }, { accessFlags := 4122, nameIndex := 24, descriptorIndex := 25, attributes := #[] }])
  fields := #[{ name := "EQUAL", type := (.object "com/example/cantilever/cantilever/xpath/Comparison$Operator"), accessFlags := 16409, slot := 0, constantValue := 0 }, { name := "NOT_EQUAL", type := (.object "com/example/cantilever/cantilever/xpath/Comparison$Operator"), accessFlags := 16409, slot := 1, constantValue := 0 }, { name := "LESS", type := (.object "com/example/cantilever/cantilever/xpath/Comparison$Operator"), accessFlags := 16409, slot := 2, constantValue := 0 }, { name := "LESS_OR_EQUAL", type := (.object "com/example/cantilever/cantilever/xpath/Comparison$Operator"), accessFlags := 16409, slot := 3, constantValue := 0 }, { name := "GREATER", type := (.object "com/example/cantilever/cantilever/xpath/Comparison$Operator"), accessFlags := 16409, slot := 4, constantValue := 0 }, { name := "GREATER_OR_EQUAL", type := (.object "com/example/cantilever/cantilever/xpath/Comparison$Operator"), accessFlags := 16409, slot := 5, constantValue := 0 }, { name := "$VALUES", type := (.array (.object "com/example/cantilever/cantilever/xpath/Comparison$Operator")), accessFlags := 4122, slot := 6, constantValue := 0 }]
  methods := #[k6m0, k6m1]
  instanceTypes := #[(.object "java/lang/String"), .int, .int]
  staticTypes := #[(.object "com/example/cantilever/cantilever/xpath/Comparison$Operator"), (.object "com/example/cantilever/cantilever/xpath/Comparison$Operator"), (.object "com/example/cantilever/cantilever/xpath/Comparison$Operator"), (.object "com/example/cantilever/cantilever/xpath/Comparison$Operator"), (.object "com/example/cantilever/cantilever/xpath/Comparison$Operator"), (.object "com/example/cantilever/cantilever/xpath/Comparison$Operator"), (.array (.object "com/example/cantilever/cantilever/xpath/Comparison$Operator"))]
  resolved := Array.replicate 77 none
  statics := some 0 }

def pool7 : Array CpInfo := pool [(1, u "java/lang/Cloneable"), (0, .class_ 1), (0, u "java/lang/Object"), (0, .class_ 3)] 3

/-- java/lang/Cloneable -/
def k7 : Class := { plain "java/lang/Cloneable" (some 0) with
  accessFlags := 1537
  interfaces := #[]
  cf := some (fileOf pool7 2 #[] #[] 1537 4 #[] #[])
  fields := #[]
  methods := #[]
  instanceTypes := #[]
  staticTypes := #[]
  resolved := Array.replicate 8 none
  statics := none }

/-- the primitive byte -/
def k8 : Class := { plain "byte" none with kind := .primitive 'B', accessFlags := 0x411 }
/-- [B -/
def k9 : Class := { plain "[B" (some 0) with kind := .array 8 .byte, interfaces := #[7, 4], accessFlags := 1041 }

/-- the primitive int -/
def k10 : Class := { plain "int" none with kind := .primitive 'I', accessFlags := 0x411 }
/-- [I -/
def k11 : Class := { plain "[I" (some 0) with kind := .array 10 .int, interfaces := #[7, 4], accessFlags := 1041 }

def heap : Heap := #[{ cls := 6, slots := #[.ref 1, .ref 2, .ref 3, .ref 4, .ref 5, .ref 6, .null], vm := .statics 6 },
  { cls := 6, slots := #[.null, .int 0, .int 0], vm := .none },
  { cls := 6, slots := #[.null, .int 1, .int 0], vm := .none },
  { cls := 6, slots := #[.null, .int 2, .int 0], vm := .none },
  { cls := 6, slots := #[.null, .int 3, .int 0], vm := .none },
  { cls := 6, slots := #[.null, .int 4, .int 0], vm := .none },
  { cls := 6, slots := #[.null, .int 5, .int 0], vm := .none }]
def classes : Array Class := #[k0, k1, k2, k3, k4, k5, k6, k7, k8, k9, k10, k11]
def interned : List (Array UInt16 × Addr) := []
def slotsUsed : Nat := 25
def theMethod : MethodId := ⟨1, 2⟩
def args0 : Array Value := #[.int 1]
def aboutOver (below : List Frame) : State where
  vm := { classes := classes, interned := interned.toArray }
  heap := heap
  slotsUsed := slotsUsed
  threads := #[{ frames := .invoking theMethod args0 :: below }]
def below0 : List Frame := [.native { method := ⟨0, 0⟩, args := #[] }]
def about1 : State := aboutOver below0
def p0 : Program := .bare "" "" ""
def e0 : Env := launch0.env 0 0 0
theorem w_frames : about1.frames = Frame.invoking theMethod args0 :: below0 := rfl
set_option maxRecDepth 65536 in
theorem w_args : argsFit about1.vm theMethod args0 = true := by decide +kernel
set_option maxRecDepth 65536 in
theorem w_heap : heapFits about1 = true := by decide +kernel
set_option maxRecDepth 65536 in
theorem w_runnable : about1.curStatus? = some .runnable := by decide +kernel
set_option maxRecDepth 65536 in
theorem w_alone : about1.alone = true := by decide +kernel
set_option maxRecDepth 65536 in
theorem w_named : about1.methodNamed? x = some theMethod := by decide +kernel
set_option maxRecDepth 65536 in
theorem w_hears : about1.hears theMethod below0 = true := by decide +kernel
set_option maxRecDepth 65536 in
theorem w_ripe : about1.ripe theMethod args0 below0 = true := by decide +kernel
theorem w_running : about1.status = .running := rfl
set_option maxRecDepth 65536 in
theorem w_room : about1.hasRoom e0.platform room_1 = true :=
  launch0.hasRoom_least _ room_1 (by decide +kernel) (by decide +kernel) (by decide +kernel) (by decide +kernel) (by decide +kernel) (by decide +kernel)
theorem allAtoms_all (ts : List Jvm.Cond) (a : Array Jvm.Value) (st : Jvm.State) : (allAtoms ts).before a st = ts.all (fun c => c.before a st) := by
  induction ts with
  | nil => rfl
  | cons c t ih =>
    show (Jvm.Cond.and c (allAtoms t)).before a st = _
    rw [Jvm.Cond.before_and, ih, List.all_cons]
def words1 : List Jvm.Cond := Jvm.Cond.code x code maxLocals ret :: tables_1
/-- a 'code' word, met by the world's own term for the bytes: nothing is compared byte by byte -/
theorem code_word {y : MethodName} {bytes : ByteArray} {mx : Nat} {rt : Option FieldType} {a : Array Value} {s : State} {m : MethodId} {meth : Method} {c : Code} (h1 : s.methodNamed? y = some m) (h2 : s.vm.method? m = some meth) (h3 : meth.code = some c) (h4 : c.code = bytes)
    (h5 : (c.maxLocals == mx && c.exceptionTable.isEmpty && decide (c.maxStack ≤ mostOperands) && decide (meth.sig.returnType = rt) && !meth.locks && decide (parseMethodDescriptor y.desc = some meth.sig)) = true) : (Jvm.Cond.code y bytes mx rt).before a s = true := by
  simp only [Bool.and_eq_true, beq_iff_eq, Bool.not_eq_true', decide_eq_true_eq] at h5
  obtain ⟨⟨⟨⟨⟨g1, g2⟩, g3⟩, g4⟩, g5⟩, g6⟩ := h5
  simp [Cond.before, Cond.holds, Cond.value, h1, h2, h3, h4, g1, g2, g3, g4, g5, g6]
def isCode : Jvm.Cond → Bool
  | .code _ _ _ _ => true
  | _ => false
theorem all_split {L : List Jvm.Cond} {P : Jvm.Cond → Bool} (h1 : L.all (fun c => isCode c || P c) = true) (h2 : ∀ c ∈ L.filter isCode, P c = true) : L.all P = true := by
  refine List.all_eq_true.mpr fun c hc => ?_
  have h := List.all_eq_true.mp h1 c hc
  rcases Bool.eq_false_or_eq_true (isCode c) with hi | hi
  · exact h2 c (List.mem_filter.mpr ⟨hc, hi⟩)
  · simpa [hi] using h
set_option maxRecDepth 65536 in
theorem w_c0 : (Jvm.Cond.code x code maxLocals ret).before args0 about1 = true := code_word (m := ⟨1, 2⟩) (meth := k1m2) (c := k1c2) (by decide +kernel) rfl rfl rfl (by decide +kernel)
set_option maxRecDepth 65536 in
theorem w_c1 : (Jvm.Cond.code ({ cls := "com/example/cantilever/cantilever/xpath/OperatorIsEqualityPinLaw", name := "pick", desc := "(I)Lcom/example/cantilever/cantilever/xpath/Comparison$Operator;" } : Jvm.MethodName) method_2_code (1 : Nat) (Option.some (Jvm.ClassFile.FieldType.object "com/example/cantilever/cantilever/xpath/Comparison$Operator"))).before args0 about1 = true := code_word (m := ⟨1, 1⟩) (meth := k1m1) (c := k1c1) (by decide +kernel) rfl rfl rfl (by decide +kernel)
set_option maxRecDepth 65536 in
theorem w_c2 : (Jvm.Cond.code ({ cls := "com/example/cantilever/cantilever/xpath/Comparison$Operator", name := "isEquality", desc := "()Z" } : Jvm.MethodName) prog_211_method_5_code (1 : Nat) (Option.some Jvm.ClassFile.FieldType.boolean)).before args0 about1 = true := code_word (m := ⟨6, 1⟩) (meth := k6m1) (c := k6c1) (by decide +kernel) rfl rfl rfl (by decide +kernel)
set_option maxRecDepth 65536 in
theorem w_c3 : (Jvm.Cond.code ({ cls := "com/example/cantilever/cantilever/xpath/Comparison$Operator", name := "mirrored", desc := "()Lcom/example/cantilever/cantilever/xpath/Comparison$Operator;" } : Jvm.MethodName) prog_211_method_4_code (1 : Nat) (Option.some (Jvm.ClassFile.FieldType.object "com/example/cantilever/cantilever/xpath/Comparison$Operator"))).before args0 about1 = true := code_word (m := ⟨6, 0⟩) (meth := k6m0) (c := k6c0) (by decide +kernel) rfl rfl rfl (by decide +kernel)
set_option maxRecDepth 65536 in
theorem w_c4 : (Jvm.Cond.code ({ cls := "java/lang/Enum", name := "ordinal", desc := "()I" } : Jvm.MethodName) jdk_37_method_2_code (1 : Nat) (Option.some Jvm.ClassFile.FieldType.int)).before args0 about1 = true := code_word (m := ⟨5, 0⟩) (meth := k5m0) (c := k5c0) (by decide +kernel) rfl rfl rfl (by decide +kernel)
def codes1 : List Jvm.Cond := [Jvm.Cond.code x code maxLocals ret, Jvm.Cond.code ({ cls := "com/example/cantilever/cantilever/xpath/OperatorIsEqualityPinLaw", name := "pick", desc := "(I)Lcom/example/cantilever/cantilever/xpath/Comparison$Operator;" } : Jvm.MethodName) method_2_code (1 : Nat) (Option.some (Jvm.ClassFile.FieldType.object "com/example/cantilever/cantilever/xpath/Comparison$Operator")), Jvm.Cond.code ({ cls := "com/example/cantilever/cantilever/xpath/Comparison$Operator", name := "isEquality", desc := "()Z" } : Jvm.MethodName) prog_211_method_5_code (1 : Nat) (Option.some Jvm.ClassFile.FieldType.boolean), Jvm.Cond.code ({ cls := "com/example/cantilever/cantilever/xpath/Comparison$Operator", name := "mirrored", desc := "()Lcom/example/cantilever/cantilever/xpath/Comparison$Operator;" } : Jvm.MethodName) prog_211_method_4_code (1 : Nat) (Option.some (Jvm.ClassFile.FieldType.object "com/example/cantilever/cantilever/xpath/Comparison$Operator")), Jvm.Cond.code ({ cls := "java/lang/Enum", name := "ordinal", desc := "()I" } : Jvm.MethodName) jdk_37_method_2_code (1 : Nat) (Option.some Jvm.ClassFile.FieldType.int)]
set_option maxRecDepth 65536 in
theorem codes_eq : words1.filter isCode = codes1 := rfl
theorem w_codes : ∀ c ∈ words1.filter isCode, c.before args0 about1 = true := by
  rw [codes_eq]
  intro c hc
  simp only [codes1, List.mem_cons, List.not_mem_nil, or_false] at hc
  rcases hc with rfl | rfl | rfl | rfl | rfl
  · exact w_c0
  · exact w_c1
  · exact w_c2
  · exact w_c3
  · exact w_c4
set_option maxRecDepth 65536 in
theorem w_t1 : (words1.take 24).all (fun c => isCode c || c.before args0 about1) = true := by decide +kernel
set_option maxRecDepth 65536 in
theorem w_t2 : (words1.drop 24).all (fun c => isCode c || c.before args0 about1) = true := by decide +kernel
theorem w_tables : (allAtoms (Jvm.Cond.code x code maxLocals ret :: tables_1)).before args0 about1 = true := by
  rw [allAtoms_all]
  show words1.all (fun c => c.before args0 about1) = true
  refine all_split ?_ w_codes
  rw [← List.take_append_drop 24 words1, List.all_append, w_t1, w_t2]
  rfl
set_option maxRecDepth 65536 in
theorem w_case : (Jvm.Cond.and given_1 narrow_1).before args0 about1 = true := by decide +kernel
theorem w_applies : (headSpec (Jvm.Cond.code x code maxLocals ret :: tables_1) room_1).applies x e0.platform about1 = true :=
  (Spec.applies_iff w_frames).mpr ⟨w_running, w_runnable, w_alone, w_named, w_hears, w_ripe, w_room, w_tables⟩
theorem atStart : AtStart classFile x code maxLocals ret World_1 tables_1 room_1 Calls_1 rest_1 Pre_1 launch0 p0 e0 about1 theMethod args0 below0 :=
  ⟨lists_1, trivial, launch0.admits_env _ _ _, launch0.least_env, fairChoices_fair.cas, fairChoices_fair.clock, w_frames, w_args, w_heap, w_applies, trivial, trivial, w_case⟩
end start1
theorem witness_1 : WitnessClaimed_1 := ⟨start1.p0, start1.e0, start1.about1, start1.theMethod, start1.args0, start1.below0, start1.atStart⟩
end Jvm.Pilot.@@N@@
