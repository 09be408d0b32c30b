import JvmDerived
import JvmDerived.Pilot.@@N@@Statement
import JvmDerived.Pilot.@@N@@Code
set_option linter.unusedVariables false
set_option linter.unusedSimpArgs false
@@BLOCK:NumsL.lean.txt@@
namespace Jvm.RoadKit
open Sem ClassFile Op Lib Jvm.Stand Jvm.Free Jvm.LawKit
section New
variable {p : Program} {l : Launch} {e : Env} {R : Room} {s : State} {m : MethodId} {args : Array Value} {below : List Frame} {meth : Method} {c : Code} {T : State} {locs : List Loc} {cells slots : Nat}
theorem retI (X : Stand p l e R s m args below meth c T locs cells slots) (hx : p.tables.exec = Jvm.exec) {pc : Nat} {Ls : Array Slot} {z : Int32} {rest : List Value} (hret : meth.sig.returnType = some .int) (hd : decode c.code pc = .ok (.ireturn, 1)) {fs : List Frame}
    (hl : ∀ (f : JFrame) (acts : List Action), f.method = m → f.locked = none → f.entered = [] → (doReturn e (T.setTop f) acts (some (.int z))).1 = T.setFrames fs) : Steps p.tables e below (T.setTop (mkF m pc Ls (.int z :: rest))) (T.setFrames fs) := by
  have hm' : T.vm.method? m = some meth := X.method'
  have hn : narrow .int (.int z) = .int z := rfl
  show Steps p.tables e below (T.setTop { method := m, pc := pc, locals := Ls, stack := _ :: rest, locked := none }) _
  jvm_step X.here [X.here.top, hx, hd, hm', hret, hn]
  first | (intro acts; rw [hl _ acts rfl rfl rfl]) | rw [hl _ _ rfl rfl rfl]
  exact Steps.refl _
end New
end Jvm.RoadKit
namespace Jvm.Pilot.@@N@@
open Jvm Jvm.ClassFile Sem Op Lib Jvm.Free Jvm.Stand Jvm.LawKit Jvm.RoadKit Bundle Jvm.Pilot.@@N@@.Jvm.D
theorem d1_0 : decode prog_29_method_9_code 0 = .ok (.aload_n 0, 1) := by decide +kernel
theorem d1_1 : decode prog_29_method_9_code 1 = .ok (.getfield 93, 3) := by decide +kernel
theorem d1_4 : decode prog_29_method_9_code 4 = .ok (.getstatic 138, 3) := by decide +kernel
theorem d1_7 : decode prog_29_method_9_code 7 = .ok (.if_acmp .ne 7, 3) := by decide +kernel
theorem d1_10 : decode prog_29_method_9_code 10 = .ok (.iconst 1, 1) := by decide +kernel
theorem d1_11 : decode prog_29_method_9_code 11 = .ok (.goto 4, 3) := by decide +kernel
theorem d1_15 : decode prog_29_method_9_code 15 = .ok (.ireturn, 1) := by decide +kernel
theorem pn_1 : plainName "com/example/failfirst/failfirst/Operator" = true := by first | (simp [plainName, overriddenIn]; done) | decide +kernel
theorem ef_1 (m : MethodId) (x0 : Addr) : entryFrame m #[(.ref x0)] 1 = mkF m 0 #[.val (.ref x0)] [] := by first | (simp [entryFrame, mkF, argsToLocals, Value.category]; done) | rfl
def Q1_f (Z : State) (a1 : Addr) (w2 : Addr) (w4 : Addr) (h0 : Heap) (n0 : Nat) (v : Option Value) (h : Heap) (L : List Loc) : Prop := v = some (.int (1 : Int32)) ∧ Fr n0 L ∧ h = h0
set_option maxRecDepth 65536 in
set_option maxHeartbeats 40000000 in
theorem rm1_f (l : Launch) (Z : State) (a0 : Array Value) (hw : ∀ d ∈ tables_1, d.before a0 Z = true) (ws : List Jvm.Cond) (a1 : Addr) (w2 : Addr) (w4 : Addr) (h0 : Heap) (n0 : Nat) (Z0 : n0 ≤ h0.size) (F_kind_a1 : Fld Z h0 a1 "com/example/failfirst/failfirst/Operator" "kind" "Lcom/example/failfirst/failfirst/Operator$Kind;" (.ref w2)) (S_COMPARISON : Sta Z h0 "com/example/failfirst/failfirst/Operator$Kind" "COMPARISON" "Lcom/example/failfirst/failfirst/Operator$Kind;" (.ref w4)) (ha7 : w2 = w4) :
    MetFree l (⟨"com/example/failfirst/failfirst/Operator", "chains", "()Z"⟩ : MethodName) (head1 (Jvm.Cond.code (⟨"com/example/failfirst/failfirst/Operator", "chains", "()Z"⟩ : MethodName) prog_29_method_9_code 1 (some .boolean) :: ws) ({ frames := 0, cells := 0, slots := 0, locals := 0 } : Room)) (fun a U => a = #[(.ref a1)] ∧ Z.Warmed39 U.vm ∧ U.heap = h0) (fun _ _ _ _ _ => True) (fun _ U o U' => ∃ v L, o = .returned v ∧ Q1_f Z a1 w2 w4 h0 n0 v U'.heap L ∧ FrameEnd U o U' L ({ frames := 0, cells := 0, slots := 0, locals := 0 } : Room).cells ({ frames := 0, cells := 0, slots := 0, locals := 0 } : Room).slots) := by
  refine MetFree.of_bodySF (plainFor_of_name pn_1) hisR ?_
  intro p e s m args below meth c s₁ Bd hml0 hP hK
  obtain ⟨rfl, hZ, hh⟩ := hP
  have hx := Bd.exec
  have hby := Bd.bytes
  have hml : c.maxLocals = 1 := hml0
  have hown : s.vm.findClass "com/example/failfirst/failfirst/Operator" = some m.cls := findClass_of_methodNamed Bd.named
  have hnm := (name_of_methodNamed Bd.named Bd.method).1
  have X0 : Stand p l e ({ frames := 0, cells := 0, slots := 0, locals := 0 } : Room) s m #[(.ref a1)] below meth c s₁ [] 0 0 := Stand.of_body Bd
  have e0 : s₁.heap = h0 := by rw [← hh, Bd.state]; rfl
  have N0 := Fr.nil n0
  have pre0 : ∀ t, Steps p.tables e below (s₁.setTop (mkF m 0 #[.val (.ref a1)] [])) t → Steps p.tables e below (s₁.setTop (entryFrame m #[(.ref a1)] 1)) t := fun t k => castTop (ef_1 m a1) k
  obtain ⟨T3, X3, e3, st3⟩ := getF X0 hx hZ hown (host := "") (Or.inl (hw _ (List.mem_of_getElem? (i := 54) rfl))) Via.refl e0 F_kind_a1 (g := (mkF m 1 #[.val (.ref a1)] [(.ref a1)])) rfl rfl (hb hby d1_1)
  obtain ⟨T5, X5, e5, st5⟩ := getS2 X3 hx hZ hown (host := "") (Or.inl (hw _ (List.mem_of_getElem? (i := 58) rfl))) Via.refl e3 S_COMPARISON (g := (mkF m 4 #[.val (.ref a1)] [(.ref w2)])) rfl (hb hby d1_4)
  obtain ⟨fs, hr, hrun, hended, hW, hsame⟩ := X5.leave (v := some (.int (1 : Int32))) (fun h => by rw [Bd.returns] at h; cases h) Bd.notSynchronized
  refine ⟨_, _, pre0 _ ?_, hrun, hended, _, _, rfl, ?_, ⟨_, rfl⟩, hW, hsame.mono (by decide) (by decide)⟩
  · show Steps p.tables e below (s₁.setTop (mkF m 0 #[.val (.ref a1)] [])) _
    refine XS.aloadN X0.here hx rfl (hb hby d1_0) rfl rfl ?_
    show Steps p.tables e below (s₁.setTop (mkF m 1 #[.val (.ref a1)] [(.ref a1)])) _
    refine st3 _ ?_
    show Steps p.tables e below (T3.setTop (mkF m 4 #[.val (.ref a1)] [(.ref w2)])) _
    refine st5 _ ?_
    show Steps p.tables e below (T5.setTop (mkF m 7 #[.val (.ref a1)] [(.ref w4), (.ref w2)])) _
    refine Jvm.RoadKit.acmp (g := (mkF m 7 #[.val (.ref a1)] [(.ref w4), (.ref w2)])) X5 hx rfl rfl rfl (pc0 := 7) (pc' := 10) (same := true) rfl (hb hby d1_7) rfl (decide_eq_true (congrArg Value.ref ha7)) (by decide) (by decide) ?_
    show Steps p.tables e below (T5.setTop (mkF m 10 #[.val (.ref a1)] [])) _
    refine XS.iconst X5.here hx rfl (hb hby d1_10) ?_
    show Steps p.tables e below (T5.setTop (mkF m 11 #[.val (.ref a1)] [(.int (1 : Int32))])) _
    refine XS.goto X5.here hx rfl (pc0 := 11) (pc' := 15) rfl (hb hby d1_11) (by decide) (by decide) ?_
    show Steps p.tables e below (T5.setTop (mkF m 15 #[.val (.ref a1)] [(.int (1 : Int32))])) _
    exact retN X5 hx (t := .boolean) Bd.returns (by simp) (hb hby d1_15) hr
  · show Q1_f Z a1 w2 w4 h0 n0 _ T5.heap _
    rw [e5]
    exact ⟨rfl, N0, rfl⟩

theorem d1_14 : decode prog_29_method_9_code 14 = .ok (.iconst 0, 1) := by decide +kernel
def Q1_t (Z : State) (a1 : Addr) (w2 : Addr) (w4 : Addr) (h0 : Heap) (n0 : Nat) (v : Option Value) (h : Heap) (L : List Loc) : Prop := v = some (.int (0 : Int32)) ∧ Fr n0 L ∧ h = h0
set_option maxRecDepth 65536 in
set_option maxHeartbeats 40000000 in
theorem rm1_t (l : Launch) (Z : State) (a0 : Array Value) (hw : ∀ d ∈ tables_1, d.before a0 Z = true) (ws : List Jvm.Cond) (a1 : Addr) (w2 : Addr) (w4 : Addr) (h0 : Heap) (n0 : Nat) (Z0 : n0 ≤ h0.size) (F_kind_a1 : Fld Z h0 a1 "com/example/failfirst/failfirst/Operator" "kind" "Lcom/example/failfirst/failfirst/Operator$Kind;" (.ref w2)) (S_COMPARISON : Sta Z h0 "com/example/failfirst/failfirst/Operator$Kind" "COMPARISON" "Lcom/example/failfirst/failfirst/Operator$Kind;" (.ref w4)) (ha7 : ¬ (w2 = w4)) :
    MetFree l (⟨"com/example/failfirst/failfirst/Operator", "chains", "()Z"⟩ : MethodName) (head1 (Jvm.Cond.code (⟨"com/example/failfirst/failfirst/Operator", "chains", "()Z"⟩ : MethodName) prog_29_method_9_code 1 (some .boolean) :: ws) ({ frames := 0, cells := 0, slots := 0, locals := 0 } : Room)) (fun a U => a = #[(.ref a1)] ∧ Z.Warmed39 U.vm ∧ U.heap = h0) (fun _ _ _ _ _ => True) (fun _ U o U' => ∃ v L, o = .returned v ∧ Q1_t Z a1 w2 w4 h0 n0 v U'.heap L ∧ FrameEnd U o U' L ({ frames := 0, cells := 0, slots := 0, locals := 0 } : Room).cells ({ frames := 0, cells := 0, slots := 0, locals := 0 } : Room).slots) := by
  refine MetFree.of_bodySF (plainFor_of_name pn_1) hisR ?_
  intro p e s m args below meth c s₁ Bd hml0 hP hK
  obtain ⟨rfl, hZ, hh⟩ := hP
  have hx := Bd.exec
  have hby := Bd.bytes
  have hml : c.maxLocals = 1 := hml0
  have hown : s.vm.findClass "com/example/failfirst/failfirst/Operator" = some m.cls := findClass_of_methodNamed Bd.named
  have hnm := (name_of_methodNamed Bd.named Bd.method).1
  have X0 : Stand p l e ({ frames := 0, cells := 0, slots := 0, locals := 0 } : Room) s m #[(.ref a1)] below meth c s₁ [] 0 0 := Stand.of_body Bd
  have e0 : s₁.heap = h0 := by rw [← hh, Bd.state]; rfl
  have N0 := Fr.nil n0
  have pre0 : ∀ t, Steps p.tables e below (s₁.setTop (mkF m 0 #[.val (.ref a1)] [])) t → Steps p.tables e below (s₁.setTop (entryFrame m #[(.ref a1)] 1)) t := fun t k => castTop (ef_1 m a1) k
  obtain ⟨T3, X3, e3, st3⟩ := getF X0 hx hZ hown (host := "") (Or.inl (hw _ (List.mem_of_getElem? (i := 54) rfl))) Via.refl e0 F_kind_a1 (g := (mkF m 1 #[.val (.ref a1)] [(.ref a1)])) rfl rfl (hb hby d1_1)
  obtain ⟨T5, X5, e5, st5⟩ := getS2 X3 hx hZ hown (host := "") (Or.inl (hw _ (List.mem_of_getElem? (i := 58) rfl))) Via.refl e3 S_COMPARISON (g := (mkF m 4 #[.val (.ref a1)] [(.ref w2)])) rfl (hb hby d1_4)
  obtain ⟨fs, hr, hrun, hended, hW, hsame⟩ := X5.leave (v := some (.int (0 : Int32))) (fun h => by rw [Bd.returns] at h; cases h) Bd.notSynchronized
  refine ⟨_, _, pre0 _ ?_, hrun, hended, _, _, rfl, ?_, ⟨_, rfl⟩, hW, hsame.mono (by decide) (by decide)⟩
  · show Steps p.tables e below (s₁.setTop (mkF m 0 #[.val (.ref a1)] [])) _
    refine XS.aloadN X0.here hx rfl (hb hby d1_0) rfl rfl ?_
    show Steps p.tables e below (s₁.setTop (mkF m 1 #[.val (.ref a1)] [(.ref a1)])) _
    refine st3 _ ?_
    show Steps p.tables e below (T3.setTop (mkF m 4 #[.val (.ref a1)] [(.ref w2)])) _
    refine st5 _ ?_
    show Steps p.tables e below (T5.setTop (mkF m 7 #[.val (.ref a1)] [(.ref w4), (.ref w2)])) _
    refine Jvm.RoadKit.acmp (g := (mkF m 7 #[.val (.ref a1)] [(.ref w4), (.ref w2)])) X5 hx rfl rfl rfl (pc0 := 7) (pc' := 14) (same := false) rfl (hb hby d1_7) rfl (decide_eq_false fun q => ha7 (Value.ref.inj q)) (by decide) (by decide) ?_
    show Steps p.tables e below (T5.setTop (mkF m 14 #[.val (.ref a1)] [])) _
    refine XS.iconst X5.here hx rfl (hb hby d1_14) ?_
    show Steps p.tables e below (T5.setTop (mkF m 15 #[.val (.ref a1)] [(.int (0 : Int32))])) _
    exact retN X5 hx (t := .boolean) Bd.returns (by simp) (hb hby d1_15) hr
  · show Q1_t Z a1 w2 w4 h0 n0 _ T5.heap _
    rw [e5]
    exact ⟨rfl, N0, rfl⟩

theorem pn_0 : plainName "com/example/failfirst/failfirst/OperatorChainsPinLaw" = true := by first | (simp [plainName, overriddenIn]; done) | decide +kernel
theorem pd_0_0 : parseMethodDescriptor "()Z" = some ⟨[], some .boolean⟩ := by decide +kernel
theorem ef_0 (m : MethodId) (x0 : Int32) : entryFrame m #[(.int x0)] maxLocals = mkF m 0 #[.val (.int x0), .unset, .unset, .unset, .unset] [] := by first | (simp [entryFrame, mkF, argsToLocals, Value.category, maxLocals]; done) | rfl
def Q0 (Z : State) (p1 : Int32) (h0 : Heap) (n0 : Nat) (v : Option Value) (h : Heap) (L : List Loc) : Prop := v = some (.int (1 : Int32)) ∧ Fr n0 L
set_option maxRecDepth 65536 in
set_option maxHeartbeats 40000000 in
theorem rm0_LT (l : Launch) (Z : State) (a0 : Array Value) (hw : ∀ d ∈ tables_1, d.before a0 Z = true) (ws : List Jvm.Cond) (p1 : Int32) (w_NEG : Addr) (w_ABS : Addr) (w_ADD : Addr) (w_SUB : Addr) (w_MUL : Addr) (w_DIV : Addr) (w_MOD : Addr) (w_DIST : Addr) (w_MIN : Addr) (w_MAX : Addr) (w_LT : Addr) (w_LE : Addr) (w_GE : Addr) (w_GT : Addr) (w_EQ : Addr) (w_NE : Addr) (w_NOT : Addr) (w_AND : Addr) (w_OR : Addr) (w_XOR : Addr) (w_IFF : Addr) (w_IMP : Addr) (wx : Addr) (wk : Addr) (w_COMPARISON : Addr) (h0 : Heap) (n0 : Nat) (Z0 : n0 ≤ h0.size) (S_NEG : Sta Z h0 "com/example/failfirst/failfirst/Operator" "NEG" "Lcom/example/failfirst/failfirst/Operator;" (.ref w_NEG)) (E_NEG : Exa Z h0 w_NEG "com/example/failfirst/failfirst/Operator") (S_ABS : Sta Z h0 "com/example/failfirst/failfirst/Operator" "ABS" "Lcom/example/failfirst/failfirst/Operator;" (.ref w_ABS)) (E_ABS : Exa Z h0 w_ABS "com/example/failfirst/failfirst/Operator") (S_ADD : Sta Z h0 "com/example/failfirst/failfirst/Operator" "ADD" "Lcom/example/failfirst/failfirst/Operator;" (.ref w_ADD)) (E_ADD : Exa Z h0 w_ADD "com/example/failfirst/failfirst/Operator") (S_SUB : Sta Z h0 "com/example/failfirst/failfirst/Operator" "SUB" "Lcom/example/failfirst/failfirst/Operator;" (.ref w_SUB)) (E_SUB : Exa Z h0 w_SUB "com/example/failfirst/failfirst/Operator") (S_MUL : Sta Z h0 "com/example/failfirst/failfirst/Operator" "MUL" "Lcom/example/failfirst/failfirst/Operator;" (.ref w_MUL)) (E_MUL : Exa Z h0 w_MUL "com/example/failfirst/failfirst/Operator") (S_DIV : Sta Z h0 "com/example/failfirst/failfirst/Operator" "DIV" "Lcom/example/failfirst/failfirst/Operator;" (.ref w_DIV)) (E_DIV : Exa Z h0 w_DIV "com/example/failfirst/failfirst/Operator") (S_MOD : Sta Z h0 "com/example/failfirst/failfirst/Operator" "MOD" "Lcom/example/failfirst/failfirst/Operator;" (.ref w_MOD)) (E_MOD : Exa Z h0 w_MOD "com/example/failfirst/failfirst/Operator") (S_DIST : Sta Z h0 "com/example/failfirst/failfirst/Operator" "DIST" "Lcom/example/failfirst/failfirst/Operator;" (.ref w_DIST)) (E_DIST : Exa Z h0 w_DIST "com/example/failfirst/failfirst/Operator") (S_MIN : Sta Z h0 "com/example/failfirst/failfirst/Operator" "MIN" "Lcom/example/failfirst/failfirst/Operator;" (.ref w_MIN)) (E_MIN : Exa Z h0 w_MIN "com/example/failfirst/failfirst/Operator") (S_MAX : Sta Z h0 "com/example/failfirst/failfirst/Operator" "MAX" "Lcom/example/failfirst/failfirst/Operator;" (.ref w_MAX)) (E_MAX : Exa Z h0 w_MAX "com/example/failfirst/failfirst/Operator") (S_LT : Sta Z h0 "com/example/failfirst/failfirst/Operator" "LT" "Lcom/example/failfirst/failfirst/Operator;" (.ref w_LT)) (E_LT : Exa Z h0 w_LT "com/example/failfirst/failfirst/Operator") (S_LE : Sta Z h0 "com/example/failfirst/failfirst/Operator" "LE" "Lcom/example/failfirst/failfirst/Operator;" (.ref w_LE)) (E_LE : Exa Z h0 w_LE "com/example/failfirst/failfirst/Operator") (S_GE : Sta Z h0 "com/example/failfirst/failfirst/Operator" "GE" "Lcom/example/failfirst/failfirst/Operator;" (.ref w_GE)) (E_GE : Exa Z h0 w_GE "com/example/failfirst/failfirst/Operator") (S_GT : Sta Z h0 "com/example/failfirst/failfirst/Operator" "GT" "Lcom/example/failfirst/failfirst/Operator;" (.ref w_GT)) (E_GT : Exa Z h0 w_GT "com/example/failfirst/failfirst/Operator") (S_EQ : Sta Z h0 "com/example/failfirst/failfirst/Operator" "EQ" "Lcom/example/failfirst/failfirst/Operator;" (.ref w_EQ)) (E_EQ : Exa Z h0 w_EQ "com/example/failfirst/failfirst/Operator") (S_NE : Sta Z h0 "com/example/failfirst/failfirst/Operator" "NE" "Lcom/example/failfirst/failfirst/Operator;" (.ref w_NE)) (E_NE : Exa Z h0 w_NE "com/example/failfirst/failfirst/Operator") (S_NOT : Sta Z h0 "com/example/failfirst/failfirst/Operator" "NOT" "Lcom/example/failfirst/failfirst/Operator;" (.ref w_NOT)) (E_NOT : Exa Z h0 w_NOT "com/example/failfirst/failfirst/Operator") (S_AND : Sta Z h0 "com/example/failfirst/failfirst/Operator" "AND" "Lcom/example/failfirst/failfirst/Operator;" (.ref w_AND)) (E_AND : Exa Z h0 w_AND "com/example/failfirst/failfirst/Operator") (S_OR : Sta Z h0 "com/example/failfirst/failfirst/Operator" "OR" "Lcom/example/failfirst/failfirst/Operator;" (.ref w_OR)) (E_OR : Exa Z h0 w_OR "com/example/failfirst/failfirst/Operator") (S_XOR : Sta Z h0 "com/example/failfirst/failfirst/Operator" "XOR" "Lcom/example/failfirst/failfirst/Operator;" (.ref w_XOR)) (E_XOR : Exa Z h0 w_XOR "com/example/failfirst/failfirst/Operator") (S_IFF : Sta Z h0 "com/example/failfirst/failfirst/Operator" "IFF" "Lcom/example/failfirst/failfirst/Operator;" (.ref w_IFF)) (E_IFF : Exa Z h0 w_IFF "com/example/failfirst/failfirst/Operator") (S_IMP : Sta Z h0 "com/example/failfirst/failfirst/Operator" "IMP" "Lcom/example/failfirst/failfirst/Operator;" (.ref w_IMP)) (E_IMP : Exa Z h0 w_IMP "com/example/failfirst/failfirst/Operator") (S_COMPARISON : Sta Z h0 "com/example/failfirst/failfirst/Operator$Kind" "COMPARISON" "Lcom/example/failfirst/failfirst/Operator$Kind;" (.ref w_COMPARISON)) (F_kind : Fld Z h0 wx "com/example/failfirst/failfirst/Operator" "kind" "Lcom/example/failfirst/failfirst/Operator$Kind;" (.ref wk)) (E_wx : Exa Z h0 wx "com/example/failfirst/failfirst/Operator") (hj0 : ¬ ((p1 &&& (2147483647 : Int32)) % (22 : Int32)) < 0) (hj1 : ((p1 &&& (2147483647 : Int32)) % (22 : Int32)) < (22 : Int32)) (hlt : (((p1 &&& (2147483647 : Int32)) % (22 : Int32))).toNatClampNeg < (22 : Int32).toNatClampNeg) (hsel : ([.ref w_NEG, .ref w_ABS, .ref w_ADD, .ref w_SUB, .ref w_MUL, .ref w_DIV, .ref w_MOD, .ref w_DIST, .ref w_MIN, .ref w_MAX, .ref w_LT, .ref w_LE, .ref w_GE, .ref w_GT, .ref w_EQ, .ref w_NE, .ref w_NOT, .ref w_AND, .ref w_OR, .ref w_XOR, .ref w_IFF, .ref w_IMP] : List Value).getD (((p1 &&& (2147483647 : Int32)) % (22 : Int32))).toNatClampNeg .null = .ref wx) (hkd : wk = w_COMPARISON) (ha170 : wx = w_LT) (hk221 : (1 : Int32) = (1 : Int32)) :
    MetFree l x (head1 (Jvm.Cond.code x code maxLocals ret :: ws) room_1) (fun a U => a = #[(.int p1)] ∧ Z.Warmed39 U.vm ∧ U.heap = h0) (fun _ _ _ _ _ => True) (fun _ U o U' => ∃ v L, o = .returned v ∧ Q0 Z p1 h0 n0 v U'.heap L ∧ FrameEnd U o U' L room_1.cells room_1.slots) := by
  refine MetFree.of_bodySF (plainFor_of_name pn_0) hisR ?_
  intro p e s m args below meth c s₁ Bd hml0 hP hK
  obtain ⟨rfl, hZ, hh⟩ := hP
  have hx := Bd.exec
  have hby := Bd.bytes
  have hml : c.maxLocals = 5 := hml0
  have hown : s.vm.findClass "com/example/failfirst/failfirst/OperatorChainsPinLaw" = some m.cls := findClass_of_methodNamed Bd.named
  have hnm := (name_of_methodNamed Bd.named Bd.method).1
  have X0 : Stand p l e room_1 s m #[(.int p1)] below meth c s₁ [] 0 0 := Stand.of_body Bd
  have e0 : s₁.heap = h0 := by rw [← hh, Bd.state]; rfl
  have N0 := Fr.nil n0
  have pre0 : ∀ t, Steps p.tables e below (s₁.setTop (mkF m 0 #[.val (.int p1), .unset, .unset, .unset, .unset] [])) t → Steps p.tables e below (s₁.setTop (entryFrame m #[(.int p1)] maxLocals)) t := fun t k => castTop (ef_0 m p1) k
  obtain ⟨T2, h2, k2, X2, e2, E2, A2, O2, st2⟩ := newR X0 hx hZ hown (hw _ (List.mem_of_getElem? (i := 0) rfl)) (hw _ (List.mem_of_getElem? (i := 1) rfl)) e0 (g := (mkF m 2 #[.val (.int p1), .unset, .unset, .unset, .unset] [(.int (22 : Int32))])) rfl (hb hby at_2) rfl (by decide) (cap := 22) (by decide) (by decide) (by decide) (by decide)
  obtain ⟨b2, g2⟩ : ∃ z, z = h0.size := ⟨_, rfl⟩
  rw [← g2] at A2 st2
  have V_b2 : Arv Z h2 b2 k2 (.object "com/example/failfirst/failfirst/Operator") (22 : Int32) [.null, .null, .null, .null, .null, .null, .null, .null, .null, .null, .null, .null, .null, .null, .null, .null, .null, .null, .null, .null, .null, .null] .null := (Arv.new A2 (by decide)).pad (pad_rep [] .null 22)
  have g_b2 : n0 ≤ b2 := Nat.le_trans Z0 (Nat.le_of_eq g2.symm)
  have sz_b2 : h0.size ≤ b2 := (Nat.le_trans (Keep.refl h0 []).1 (Nat.le_of_eq g2.symm))
  have K2 : Keep h0 h2 [] := (Keep.refl h0 []).ext E2
  obtain ⟨T4, X4, e4, st4⟩ := getS2 X2 hx hZ hown (host := "") (Or.inl (hw _ (List.mem_of_getElem? (i := 2) rfl))) Via.refl e2 (S_NEG.ext E2) (g := (mkF m 7 #[.val (.int p1), .unset, .unset, .unset, .unset] [(.int (0 : Int32)), (.ref b2), (.ref b2)])) rfl (hb hby at_7)
  obtain ⟨cl_b2_10, Ar_b2, q_b2, S_b2, N_b2, H_b2, G_b2⟩ := V_b2
  have hin10 : ¬ ((0 : Int32) < 0 ∨ cl_b2_10.slots.size ≤ ((0 : Int32)).toNatClampNeg) := inb_of S_b2 ⟨by decide, by decide⟩
  have Sto10 : Sto Z h2 b2 (.ref w_NEG) := Sto.ofV Ar_b2 q_b2 O2 (Ins.self (E_NEG.ext E2))
  obtain ⟨T5, h5, X5, e5, W5, st5⟩ := stR X4 hx hZ e4 Ar_b2 (j := (0 : Int32)) hin10 rfl Sto10 (g := (mkF m 10 #[.val (.int p1), .unset, .unset, .unset, .unset] [(.ref w_NEG), (.int (0 : Int32)), (.ref b2), (.ref b2)])) rfl rfl (hb hby at_10)
  have V_b2_5 : Arv Z h5 b2 k2 (.object "com/example/failfirst/failfirst/Operator") (22 : Int32) [(.ref w_NEG), .null, .null, .null, .null, .null, .null, .null, .null, .null, .null, .null, .null, .null, .null, .null, .null, .null, .null, .null, .null, .null] .null := Arv.set Ar_b2 q_b2 S_b2 N_b2 H_b2 G_b2 rfl W5 0 rfl (Nat.le_of_ble_eq_true rfl)
  have K5 : Keep h0 h5 [] := K2.wr W5 (Or.inr sz_b2)
  have N5 := Fr.snoc X5 N0 g_b2
  obtain ⟨T7, X7, e7, st7⟩ := getS2 X5 hx hZ hown (host := "") (Or.inl (hw _ (List.mem_of_getElem? (i := 6) rfl))) Via.refl e5 ((S_ABS.ext E2).wr W5) (g := (mkF m 13 #[.val (.int p1), .unset, .unset, .unset, .unset] [(.int (1 : Int32)), (.ref b2), (.ref b2)])) rfl (hb hby at_13)
  obtain ⟨cl_b2_16, Ar_b2, q_b2, S_b2, N_b2, H_b2, G_b2⟩ := V_b2_5
  have hin16 : ¬ ((1 : Int32) < 0 ∨ cl_b2_16.slots.size ≤ ((1 : Int32)).toNatClampNeg) := inb_of S_b2 ⟨by decide, by decide⟩
  have Sto16 : Sto Z h5 b2 (.ref w_ABS) := Sto.ofV Ar_b2 q_b2 O2 (Ins.self ((E_ABS.ext E2).wr W5))
  obtain ⟨T8, h8, X8, e8, W8, st8⟩ := stR X7 hx hZ e7 Ar_b2 (j := (1 : Int32)) hin16 rfl Sto16 (g := (mkF m 16 #[.val (.int p1), .unset, .unset, .unset, .unset] [(.ref w_ABS), (.int (1 : Int32)), (.ref b2), (.ref b2)])) rfl rfl (hb hby at_16)
  have V_b2_8 : Arv Z h8 b2 k2 (.object "com/example/failfirst/failfirst/Operator") (22 : Int32) [(.ref w_NEG), (.ref w_ABS), .null, .null, .null, .null, .null, .null, .null, .null, .null, .null, .null, .null, .null, .null, .null, .null, .null, .null, .null, .null] .null := Arv.set Ar_b2 q_b2 S_b2 N_b2 H_b2 G_b2 rfl W8 1 rfl (Nat.le_of_ble_eq_true rfl)
  have K8 : Keep h0 h8 [] := K5.wr W8 (Or.inr sz_b2)
  have N8 := Fr.snoc X8 N5 g_b2
  obtain ⟨T10, X10, e10, st10⟩ := getS2 X8 hx hZ hown (host := "") (Or.inl (hw _ (List.mem_of_getElem? (i := 8) rfl))) Via.refl e8 (((S_ADD.ext E2).wr W5).wr W8) (g := (mkF m 19 #[.val (.int p1), .unset, .unset, .unset, .unset] [(.int (2 : Int32)), (.ref b2), (.ref b2)])) rfl (hb hby at_19)
  obtain ⟨cl_b2_22, Ar_b2, q_b2, S_b2, N_b2, H_b2, G_b2⟩ := V_b2_8
  have hin22 : ¬ ((2 : Int32) < 0 ∨ cl_b2_22.slots.size ≤ ((2 : Int32)).toNatClampNeg) := inb_of S_b2 ⟨by decide, by decide⟩
  have Sto22 : Sto Z h8 b2 (.ref w_ADD) := Sto.ofV Ar_b2 q_b2 O2 (Ins.self (((E_ADD.ext E2).wr W5).wr W8))
  obtain ⟨T11, h11, X11, e11, W11, st11⟩ := stR X10 hx hZ e10 Ar_b2 (j := (2 : Int32)) hin22 rfl Sto22 (g := (mkF m 22 #[.val (.int p1), .unset, .unset, .unset, .unset] [(.ref w_ADD), (.int (2 : Int32)), (.ref b2), (.ref b2)])) rfl rfl (hb hby at_22)
  have V_b2_11 : Arv Z h11 b2 k2 (.object "com/example/failfirst/failfirst/Operator") (22 : Int32) [(.ref w_NEG), (.ref w_ABS), (.ref w_ADD), .null, .null, .null, .null, .null, .null, .null, .null, .null, .null, .null, .null, .null, .null, .null, .null, .null, .null, .null] .null := Arv.set Ar_b2 q_b2 S_b2 N_b2 H_b2 G_b2 rfl W11 2 rfl (Nat.le_of_ble_eq_true rfl)
  have K11 : Keep h0 h11 [] := K8.wr W11 (Or.inr sz_b2)
  have N11 := Fr.snoc X11 N8 g_b2
  obtain ⟨T13, X13, e13, st13⟩ := getS2 X11 hx hZ hown (host := "") (Or.inl (hw _ (List.mem_of_getElem? (i := 10) rfl))) Via.refl e11 ((((S_SUB.ext E2).wr W5).wr W8).wr W11) (g := (mkF m 25 #[.val (.int p1), .unset, .unset, .unset, .unset] [(.int (3 : Int32)), (.ref b2), (.ref b2)])) rfl (hb hby at_25)
  obtain ⟨cl_b2_28, Ar_b2, q_b2, S_b2, N_b2, H_b2, G_b2⟩ := V_b2_11
  have hin28 : ¬ ((3 : Int32) < 0 ∨ cl_b2_28.slots.size ≤ ((3 : Int32)).toNatClampNeg) := inb_of S_b2 ⟨by decide, by decide⟩
  have Sto28 : Sto Z h11 b2 (.ref w_SUB) := Sto.ofV Ar_b2 q_b2 O2 (Ins.self ((((E_SUB.ext E2).wr W5).wr W8).wr W11))
  obtain ⟨T14, h14, X14, e14, W14, st14⟩ := stR X13 hx hZ e13 Ar_b2 (j := (3 : Int32)) hin28 rfl Sto28 (g := (mkF m 28 #[.val (.int p1), .unset, .unset, .unset, .unset] [(.ref w_SUB), (.int (3 : Int32)), (.ref b2), (.ref b2)])) rfl rfl (hb hby at_28)
  have V_b2_14 : Arv Z h14 b2 k2 (.object "com/example/failfirst/failfirst/Operator") (22 : Int32) [(.ref w_NEG), (.ref w_ABS), (.ref w_ADD), (.ref w_SUB), .null, .null, .null, .null, .null, .null, .null, .null, .null, .null, .null, .null, .null, .null, .null, .null, .null, .null] .null := Arv.set Ar_b2 q_b2 S_b2 N_b2 H_b2 G_b2 rfl W14 3 rfl (Nat.le_of_ble_eq_true rfl)
  have K14 : Keep h0 h14 [] := K11.wr W14 (Or.inr sz_b2)
  have N14 := Fr.snoc X14 N11 g_b2
  obtain ⟨T16, X16, e16, st16⟩ := getS2 X14 hx hZ hown (host := "") (Or.inl (hw _ (List.mem_of_getElem? (i := 12) rfl))) Via.refl e14 (((((S_MUL.ext E2).wr W5).wr W8).wr W11).wr W14) (g := (mkF m 31 #[.val (.int p1), .unset, .unset, .unset, .unset] [(.int (4 : Int32)), (.ref b2), (.ref b2)])) rfl (hb hby at_31)
  obtain ⟨cl_b2_34, Ar_b2, q_b2, S_b2, N_b2, H_b2, G_b2⟩ := V_b2_14
  have hin34 : ¬ ((4 : Int32) < 0 ∨ cl_b2_34.slots.size ≤ ((4 : Int32)).toNatClampNeg) := inb_of S_b2 ⟨by decide, by decide⟩
  have Sto34 : Sto Z h14 b2 (.ref w_MUL) := Sto.ofV Ar_b2 q_b2 O2 (Ins.self (((((E_MUL.ext E2).wr W5).wr W8).wr W11).wr W14))
  obtain ⟨T17, h17, X17, e17, W17, st17⟩ := stR X16 hx hZ e16 Ar_b2 (j := (4 : Int32)) hin34 rfl Sto34 (g := (mkF m 34 #[.val (.int p1), .unset, .unset, .unset, .unset] [(.ref w_MUL), (.int (4 : Int32)), (.ref b2), (.ref b2)])) rfl rfl (hb hby at_34)
  have V_b2_17 : Arv Z h17 b2 k2 (.object "com/example/failfirst/failfirst/Operator") (22 : Int32) [(.ref w_NEG), (.ref w_ABS), (.ref w_ADD), (.ref w_SUB), (.ref w_MUL), .null, .null, .null, .null, .null, .null, .null, .null, .null, .null, .null, .null, .null, .null, .null, .null, .null] .null := Arv.set Ar_b2 q_b2 S_b2 N_b2 H_b2 G_b2 rfl W17 4 rfl (Nat.le_of_ble_eq_true rfl)
  have K17 : Keep h0 h17 [] := K14.wr W17 (Or.inr sz_b2)
  have N17 := Fr.snoc X17 N14 g_b2
  obtain ⟨T19, X19, e19, st19⟩ := getS2 X17 hx hZ hown (host := "") (Or.inl (hw _ (List.mem_of_getElem? (i := 14) rfl))) Via.refl e17 ((((((S_DIV.ext E2).wr W5).wr W8).wr W11).wr W14).wr W17) (g := (mkF m 37 #[.val (.int p1), .unset, .unset, .unset, .unset] [(.int (5 : Int32)), (.ref b2), (.ref b2)])) rfl (hb hby at_37)
  obtain ⟨cl_b2_40, Ar_b2, q_b2, S_b2, N_b2, H_b2, G_b2⟩ := V_b2_17
  have hin40 : ¬ ((5 : Int32) < 0 ∨ cl_b2_40.slots.size ≤ ((5 : Int32)).toNatClampNeg) := inb_of S_b2 ⟨by decide, by decide⟩
  have Sto40 : Sto Z h17 b2 (.ref w_DIV) := Sto.ofV Ar_b2 q_b2 O2 (Ins.self ((((((E_DIV.ext E2).wr W5).wr W8).wr W11).wr W14).wr W17))
  obtain ⟨T20, h20, X20, e20, W20, st20⟩ := stR X19 hx hZ e19 Ar_b2 (j := (5 : Int32)) hin40 rfl Sto40 (g := (mkF m 40 #[.val (.int p1), .unset, .unset, .unset, .unset] [(.ref w_DIV), (.int (5 : Int32)), (.ref b2), (.ref b2)])) rfl rfl (hb hby at_40)
  have V_b2_20 : Arv Z h20 b2 k2 (.object "com/example/failfirst/failfirst/Operator") (22 : Int32) [(.ref w_NEG), (.ref w_ABS), (.ref w_ADD), (.ref w_SUB), (.ref w_MUL), (.ref w_DIV), .null, .null, .null, .null, .null, .null, .null, .null, .null, .null, .null, .null, .null, .null, .null, .null] .null := Arv.set Ar_b2 q_b2 S_b2 N_b2 H_b2 G_b2 rfl W20 5 rfl (Nat.le_of_ble_eq_true rfl)
  have K20 : Keep h0 h20 [] := K17.wr W20 (Or.inr sz_b2)
  have N20 := Fr.snoc X20 N17 g_b2
  obtain ⟨T22, X22, e22, st22⟩ := getS2 X20 hx hZ hown (host := "") (Or.inl (hw _ (List.mem_of_getElem? (i := 16) rfl))) Via.refl e20 (((((((S_MOD.ext E2).wr W5).wr W8).wr W11).wr W14).wr W17).wr W20) (g := (mkF m 44 #[.val (.int p1), .unset, .unset, .unset, .unset] [(.int (6 : Int32)), (.ref b2), (.ref b2)])) rfl (hb hby at_44)
  obtain ⟨cl_b2_47, Ar_b2, q_b2, S_b2, N_b2, H_b2, G_b2⟩ := V_b2_20
  have hin47 : ¬ ((6 : Int32) < 0 ∨ cl_b2_47.slots.size ≤ ((6 : Int32)).toNatClampNeg) := inb_of S_b2 ⟨by decide, by decide⟩
  have Sto47 : Sto Z h20 b2 (.ref w_MOD) := Sto.ofV Ar_b2 q_b2 O2 (Ins.self (((((((E_MOD.ext E2).wr W5).wr W8).wr W11).wr W14).wr W17).wr W20))
  obtain ⟨T23, h23, X23, e23, W23, st23⟩ := stR X22 hx hZ e22 Ar_b2 (j := (6 : Int32)) hin47 rfl Sto47 (g := (mkF m 47 #[.val (.int p1), .unset, .unset, .unset, .unset] [(.ref w_MOD), (.int (6 : Int32)), (.ref b2), (.ref b2)])) rfl rfl (hb hby at_47)
  have V_b2_23 : Arv Z h23 b2 k2 (.object "com/example/failfirst/failfirst/Operator") (22 : Int32) [(.ref w_NEG), (.ref w_ABS), (.ref w_ADD), (.ref w_SUB), (.ref w_MUL), (.ref w_DIV), (.ref w_MOD), .null, .null, .null, .null, .null, .null, .null, .null, .null, .null, .null, .null, .null, .null, .null] .null := Arv.set Ar_b2 q_b2 S_b2 N_b2 H_b2 G_b2 rfl W23 6 rfl (Nat.le_of_ble_eq_true rfl)
  have K23 : Keep h0 h23 [] := K20.wr W23 (Or.inr sz_b2)
  have N23 := Fr.snoc X23 N20 g_b2
  obtain ⟨T25, X25, e25, st25⟩ := getS2 X23 hx hZ hown (host := "") (Or.inl (hw _ (List.mem_of_getElem? (i := 18) rfl))) Via.refl e23 ((((((((S_DIST.ext E2).wr W5).wr W8).wr W11).wr W14).wr W17).wr W20).wr W23) (g := (mkF m 51 #[.val (.int p1), .unset, .unset, .unset, .unset] [(.int (7 : Int32)), (.ref b2), (.ref b2)])) rfl (hb hby at_51)
  obtain ⟨cl_b2_54, Ar_b2, q_b2, S_b2, N_b2, H_b2, G_b2⟩ := V_b2_23
  have hin54 : ¬ ((7 : Int32) < 0 ∨ cl_b2_54.slots.size ≤ ((7 : Int32)).toNatClampNeg) := inb_of S_b2 ⟨by decide, by decide⟩
  have Sto54 : Sto Z h23 b2 (.ref w_DIST) := Sto.ofV Ar_b2 q_b2 O2 (Ins.self ((((((((E_DIST.ext E2).wr W5).wr W8).wr W11).wr W14).wr W17).wr W20).wr W23))
  obtain ⟨T26, h26, X26, e26, W26, st26⟩ := stR X25 hx hZ e25 Ar_b2 (j := (7 : Int32)) hin54 rfl Sto54 (g := (mkF m 54 #[.val (.int p1), .unset, .unset, .unset, .unset] [(.ref w_DIST), (.int (7 : Int32)), (.ref b2), (.ref b2)])) rfl rfl (hb hby at_54)
  have V_b2_26 : Arv Z h26 b2 k2 (.object "com/example/failfirst/failfirst/Operator") (22 : Int32) [(.ref w_NEG), (.ref w_ABS), (.ref w_ADD), (.ref w_SUB), (.ref w_MUL), (.ref w_DIV), (.ref w_MOD), (.ref w_DIST), .null, .null, .null, .null, .null, .null, .null, .null, .null, .null, .null, .null, .null, .null] .null := Arv.set Ar_b2 q_b2 S_b2 N_b2 H_b2 G_b2 rfl W26 7 rfl (Nat.le_of_ble_eq_true rfl)
  have K26 : Keep h0 h26 [] := K23.wr W26 (Or.inr sz_b2)
  have N26 := Fr.snoc X26 N23 g_b2
  obtain ⟨T28, X28, e28, st28⟩ := getS2 X26 hx hZ hown (host := "") (Or.inl (hw _ (List.mem_of_getElem? (i := 20) rfl))) Via.refl e26 (((((((((S_MIN.ext E2).wr W5).wr W8).wr W11).wr W14).wr W17).wr W20).wr W23).wr W26) (g := (mkF m 58 #[.val (.int p1), .unset, .unset, .unset, .unset] [(.int (8 : Int32)), (.ref b2), (.ref b2)])) rfl (hb hby at_58)
  obtain ⟨cl_b2_61, Ar_b2, q_b2, S_b2, N_b2, H_b2, G_b2⟩ := V_b2_26
  have hin61 : ¬ ((8 : Int32) < 0 ∨ cl_b2_61.slots.size ≤ ((8 : Int32)).toNatClampNeg) := inb_of S_b2 ⟨by decide, by decide⟩
  have Sto61 : Sto Z h26 b2 (.ref w_MIN) := Sto.ofV Ar_b2 q_b2 O2 (Ins.self (((((((((E_MIN.ext E2).wr W5).wr W8).wr W11).wr W14).wr W17).wr W20).wr W23).wr W26))
  obtain ⟨T29, h29, X29, e29, W29, st29⟩ := stR X28 hx hZ e28 Ar_b2 (j := (8 : Int32)) hin61 rfl Sto61 (g := (mkF m 61 #[.val (.int p1), .unset, .unset, .unset, .unset] [(.ref w_MIN), (.int (8 : Int32)), (.ref b2), (.ref b2)])) rfl rfl (hb hby at_61)
  have V_b2_29 : Arv Z h29 b2 k2 (.object "com/example/failfirst/failfirst/Operator") (22 : Int32) [(.ref w_NEG), (.ref w_ABS), (.ref w_ADD), (.ref w_SUB), (.ref w_MUL), (.ref w_DIV), (.ref w_MOD), (.ref w_DIST), (.ref w_MIN), .null, .null, .null, .null, .null, .null, .null, .null, .null, .null, .null, .null, .null] .null := Arv.set Ar_b2 q_b2 S_b2 N_b2 H_b2 G_b2 rfl W29 8 rfl (Nat.le_of_ble_eq_true rfl)
  have K29 : Keep h0 h29 [] := K26.wr W29 (Or.inr sz_b2)
  have N29 := Fr.snoc X29 N26 g_b2
  obtain ⟨T31, X31, e31, st31⟩ := getS2 X29 hx hZ hown (host := "") (Or.inl (hw _ (List.mem_of_getElem? (i := 22) rfl))) Via.refl e29 ((((((((((S_MAX.ext E2).wr W5).wr W8).wr W11).wr W14).wr W17).wr W20).wr W23).wr W26).wr W29) (g := (mkF m 65 #[.val (.int p1), .unset, .unset, .unset, .unset] [(.int (9 : Int32)), (.ref b2), (.ref b2)])) rfl (hb hby at_65)
  obtain ⟨cl_b2_68, Ar_b2, q_b2, S_b2, N_b2, H_b2, G_b2⟩ := V_b2_29
  have hin68 : ¬ ((9 : Int32) < 0 ∨ cl_b2_68.slots.size ≤ ((9 : Int32)).toNatClampNeg) := inb_of S_b2 ⟨by decide, by decide⟩
  have Sto68 : Sto Z h29 b2 (.ref w_MAX) := Sto.ofV Ar_b2 q_b2 O2 (Ins.self ((((((((((E_MAX.ext E2).wr W5).wr W8).wr W11).wr W14).wr W17).wr W20).wr W23).wr W26).wr W29))
  obtain ⟨T32, h32, X32, e32, W32, st32⟩ := stR X31 hx hZ e31 Ar_b2 (j := (9 : Int32)) hin68 rfl Sto68 (g := (mkF m 68 #[.val (.int p1), .unset, .unset, .unset, .unset] [(.ref w_MAX), (.int (9 : Int32)), (.ref b2), (.ref b2)])) rfl rfl (hb hby at_68)
  have V_b2_32 : Arv Z h32 b2 k2 (.object "com/example/failfirst/failfirst/Operator") (22 : Int32) [(.ref w_NEG), (.ref w_ABS), (.ref w_ADD), (.ref w_SUB), (.ref w_MUL), (.ref w_DIV), (.ref w_MOD), (.ref w_DIST), (.ref w_MIN), (.ref w_MAX), .null, .null, .null, .null, .null, .null, .null, .null, .null, .null, .null, .null] .null := Arv.set Ar_b2 q_b2 S_b2 N_b2 H_b2 G_b2 rfl W32 9 rfl (Nat.le_of_ble_eq_true rfl)
  have K32 : Keep h0 h32 [] := K29.wr W32 (Or.inr sz_b2)
  have N32 := Fr.snoc X32 N29 g_b2
  obtain ⟨T34, X34, e34, st34⟩ := getS2 X32 hx hZ hown (host := "") (Or.inl (hw _ (List.mem_of_getElem? (i := 24) rfl))) Via.refl e32 (((((((((((S_LT.ext E2).wr W5).wr W8).wr W11).wr W14).wr W17).wr W20).wr W23).wr W26).wr W29).wr W32) (g := (mkF m 72 #[.val (.int p1), .unset, .unset, .unset, .unset] [(.int (10 : Int32)), (.ref b2), (.ref b2)])) rfl (hb hby at_72)
  obtain ⟨cl_b2_75, Ar_b2, q_b2, S_b2, N_b2, H_b2, G_b2⟩ := V_b2_32
  have hin75 : ¬ ((10 : Int32) < 0 ∨ cl_b2_75.slots.size ≤ ((10 : Int32)).toNatClampNeg) := inb_of S_b2 ⟨by decide, by decide⟩
  have Sto75 : Sto Z h32 b2 (.ref w_LT) := Sto.ofV Ar_b2 q_b2 O2 (Ins.self (((((((((((E_LT.ext E2).wr W5).wr W8).wr W11).wr W14).wr W17).wr W20).wr W23).wr W26).wr W29).wr W32))
  obtain ⟨T35, h35, X35, e35, W35, st35⟩ := stR X34 hx hZ e34 Ar_b2 (j := (10 : Int32)) hin75 rfl Sto75 (g := (mkF m 75 #[.val (.int p1), .unset, .unset, .unset, .unset] [(.ref w_LT), (.int (10 : Int32)), (.ref b2), (.ref b2)])) rfl rfl (hb hby at_75)
  have V_b2_35 : Arv Z h35 b2 k2 (.object "com/example/failfirst/failfirst/Operator") (22 : Int32) [(.ref w_NEG), (.ref w_ABS), (.ref w_ADD), (.ref w_SUB), (.ref w_MUL), (.ref w_DIV), (.ref w_MOD), (.ref w_DIST), (.ref w_MIN), (.ref w_MAX), (.ref w_LT), .null, .null, .null, .null, .null, .null, .null, .null, .null, .null, .null] .null := Arv.set Ar_b2 q_b2 S_b2 N_b2 H_b2 G_b2 rfl W35 10 rfl (Nat.le_of_ble_eq_true rfl)
  have K35 : Keep h0 h35 [] := K32.wr W35 (Or.inr sz_b2)
  have N35 := Fr.snoc X35 N32 g_b2
  obtain ⟨T37, X37, e37, st37⟩ := getS2 X35 hx hZ hown (host := "") (Or.inl (hw _ (List.mem_of_getElem? (i := 26) rfl))) Via.refl e35 ((((((((((((S_LE.ext E2).wr W5).wr W8).wr W11).wr W14).wr W17).wr W20).wr W23).wr W26).wr W29).wr W32).wr W35) (g := (mkF m 79 #[.val (.int p1), .unset, .unset, .unset, .unset] [(.int (11 : Int32)), (.ref b2), (.ref b2)])) rfl (hb hby at_79)
  obtain ⟨cl_b2_82, Ar_b2, q_b2, S_b2, N_b2, H_b2, G_b2⟩ := V_b2_35
  have hin82 : ¬ ((11 : Int32) < 0 ∨ cl_b2_82.slots.size ≤ ((11 : Int32)).toNatClampNeg) := inb_of S_b2 ⟨by decide, by decide⟩
  have Sto82 : Sto Z h35 b2 (.ref w_LE) := Sto.ofV Ar_b2 q_b2 O2 (Ins.self ((((((((((((E_LE.ext E2).wr W5).wr W8).wr W11).wr W14).wr W17).wr W20).wr W23).wr W26).wr W29).wr W32).wr W35))
  obtain ⟨T38, h38, X38, e38, W38, st38⟩ := stR X37 hx hZ e37 Ar_b2 (j := (11 : Int32)) hin82 rfl Sto82 (g := (mkF m 82 #[.val (.int p1), .unset, .unset, .unset, .unset] [(.ref w_LE), (.int (11 : Int32)), (.ref b2), (.ref b2)])) rfl rfl (hb hby at_82)
  have V_b2_38 : Arv Z h38 b2 k2 (.object "com/example/failfirst/failfirst/Operator") (22 : Int32) [(.ref w_NEG), (.ref w_ABS), (.ref w_ADD), (.ref w_SUB), (.ref w_MUL), (.ref w_DIV), (.ref w_MOD), (.ref w_DIST), (.ref w_MIN), (.ref w_MAX), (.ref w_LT), (.ref w_LE), .null, .null, .null, .null, .null, .null, .null, .null, .null, .null] .null := Arv.set Ar_b2 q_b2 S_b2 N_b2 H_b2 G_b2 rfl W38 11 rfl (Nat.le_of_ble_eq_true rfl)
  have K38 : Keep h0 h38 [] := K35.wr W38 (Or.inr sz_b2)
  have N38 := Fr.snoc X38 N35 g_b2
  obtain ⟨T40, X40, e40, st40⟩ := getS2 X38 hx hZ hown (host := "") (Or.inl (hw _ (List.mem_of_getElem? (i := 28) rfl))) Via.refl e38 (((((((((((((S_GE.ext E2).wr W5).wr W8).wr W11).wr W14).wr W17).wr W20).wr W23).wr W26).wr W29).wr W32).wr W35).wr W38) (g := (mkF m 86 #[.val (.int p1), .unset, .unset, .unset, .unset] [(.int (12 : Int32)), (.ref b2), (.ref b2)])) rfl (hb hby at_86)
  obtain ⟨cl_b2_89, Ar_b2, q_b2, S_b2, N_b2, H_b2, G_b2⟩ := V_b2_38
  have hin89 : ¬ ((12 : Int32) < 0 ∨ cl_b2_89.slots.size ≤ ((12 : Int32)).toNatClampNeg) := inb_of S_b2 ⟨by decide, by decide⟩
  have Sto89 : Sto Z h38 b2 (.ref w_GE) := Sto.ofV Ar_b2 q_b2 O2 (Ins.self (((((((((((((E_GE.ext E2).wr W5).wr W8).wr W11).wr W14).wr W17).wr W20).wr W23).wr W26).wr W29).wr W32).wr W35).wr W38))
  obtain ⟨T41, h41, X41, e41, W41, st41⟩ := stR X40 hx hZ e40 Ar_b2 (j := (12 : Int32)) hin89 rfl Sto89 (g := (mkF m 89 #[.val (.int p1), .unset, .unset, .unset, .unset] [(.ref w_GE), (.int (12 : Int32)), (.ref b2), (.ref b2)])) rfl rfl (hb hby at_89)
  have V_b2_41 : Arv Z h41 b2 k2 (.object "com/example/failfirst/failfirst/Operator") (22 : Int32) [(.ref w_NEG), (.ref w_ABS), (.ref w_ADD), (.ref w_SUB), (.ref w_MUL), (.ref w_DIV), (.ref w_MOD), (.ref w_DIST), (.ref w_MIN), (.ref w_MAX), (.ref w_LT), (.ref w_LE), (.ref w_GE), .null, .null, .null, .null, .null, .null, .null, .null, .null] .null := Arv.set Ar_b2 q_b2 S_b2 N_b2 H_b2 G_b2 rfl W41 12 rfl (Nat.le_of_ble_eq_true rfl)
  have K41 : Keep h0 h41 [] := K38.wr W41 (Or.inr sz_b2)
  have N41 := Fr.snoc X41 N38 g_b2
  obtain ⟨T43, X43, e43, st43⟩ := getS2 X41 hx hZ hown (host := "") (Or.inl (hw _ (List.mem_of_getElem? (i := 30) rfl))) Via.refl e41 ((((((((((((((S_GT.ext E2).wr W5).wr W8).wr W11).wr W14).wr W17).wr W20).wr W23).wr W26).wr W29).wr W32).wr W35).wr W38).wr W41) (g := (mkF m 93 #[.val (.int p1), .unset, .unset, .unset, .unset] [(.int (13 : Int32)), (.ref b2), (.ref b2)])) rfl (hb hby at_93)
  obtain ⟨cl_b2_96, Ar_b2, q_b2, S_b2, N_b2, H_b2, G_b2⟩ := V_b2_41
  have hin96 : ¬ ((13 : Int32) < 0 ∨ cl_b2_96.slots.size ≤ ((13 : Int32)).toNatClampNeg) := inb_of S_b2 ⟨by decide, by decide⟩
  have Sto96 : Sto Z h41 b2 (.ref w_GT) := Sto.ofV Ar_b2 q_b2 O2 (Ins.self ((((((((((((((E_GT.ext E2).wr W5).wr W8).wr W11).wr W14).wr W17).wr W20).wr W23).wr W26).wr W29).wr W32).wr W35).wr W38).wr W41))
  obtain ⟨T44, h44, X44, e44, W44, st44⟩ := stR X43 hx hZ e43 Ar_b2 (j := (13 : Int32)) hin96 rfl Sto96 (g := (mkF m 96 #[.val (.int p1), .unset, .unset, .unset, .unset] [(.ref w_GT), (.int (13 : Int32)), (.ref b2), (.ref b2)])) rfl rfl (hb hby at_96)
  have V_b2_44 : Arv Z h44 b2 k2 (.object "com/example/failfirst/failfirst/Operator") (22 : Int32) [(.ref w_NEG), (.ref w_ABS), (.ref w_ADD), (.ref w_SUB), (.ref w_MUL), (.ref w_DIV), (.ref w_MOD), (.ref w_DIST), (.ref w_MIN), (.ref w_MAX), (.ref w_LT), (.ref w_LE), (.ref w_GE), (.ref w_GT), .null, .null, .null, .null, .null, .null, .null, .null] .null := Arv.set Ar_b2 q_b2 S_b2 N_b2 H_b2 G_b2 rfl W44 13 rfl (Nat.le_of_ble_eq_true rfl)
  have K44 : Keep h0 h44 [] := K41.wr W44 (Or.inr sz_b2)
  have N44 := Fr.snoc X44 N41 g_b2
  obtain ⟨T46, X46, e46, st46⟩ := getS2 X44 hx hZ hown (host := "") (Or.inl (hw _ (List.mem_of_getElem? (i := 32) rfl))) Via.refl e44 (((((((((((((((S_EQ.ext E2).wr W5).wr W8).wr W11).wr W14).wr W17).wr W20).wr W23).wr W26).wr W29).wr W32).wr W35).wr W38).wr W41).wr W44) (g := (mkF m 100 #[.val (.int p1), .unset, .unset, .unset, .unset] [(.int (14 : Int32)), (.ref b2), (.ref b2)])) rfl (hb hby at_100)
  obtain ⟨cl_b2_103, Ar_b2, q_b2, S_b2, N_b2, H_b2, G_b2⟩ := V_b2_44
  have hin103 : ¬ ((14 : Int32) < 0 ∨ cl_b2_103.slots.size ≤ ((14 : Int32)).toNatClampNeg) := inb_of S_b2 ⟨by decide, by decide⟩
  have Sto103 : Sto Z h44 b2 (.ref w_EQ) := Sto.ofV Ar_b2 q_b2 O2 (Ins.self (((((((((((((((E_EQ.ext E2).wr W5).wr W8).wr W11).wr W14).wr W17).wr W20).wr W23).wr W26).wr W29).wr W32).wr W35).wr W38).wr W41).wr W44))
  obtain ⟨T47, h47, X47, e47, W47, st47⟩ := stR X46 hx hZ e46 Ar_b2 (j := (14 : Int32)) hin103 rfl Sto103 (g := (mkF m 103 #[.val (.int p1), .unset, .unset, .unset, .unset] [(.ref w_EQ), (.int (14 : Int32)), (.ref b2), (.ref b2)])) rfl rfl (hb hby at_103)
  have V_b2_47 : Arv Z h47 b2 k2 (.object "com/example/failfirst/failfirst/Operator") (22 : Int32) [(.ref w_NEG), (.ref w_ABS), (.ref w_ADD), (.ref w_SUB), (.ref w_MUL), (.ref w_DIV), (.ref w_MOD), (.ref w_DIST), (.ref w_MIN), (.ref w_MAX), (.ref w_LT), (.ref w_LE), (.ref w_GE), (.ref w_GT), (.ref w_EQ), .null, .null, .null, .null, .null, .null, .null] .null := Arv.set Ar_b2 q_b2 S_b2 N_b2 H_b2 G_b2 rfl W47 14 rfl (Nat.le_of_ble_eq_true rfl)
  have K47 : Keep h0 h47 [] := K44.wr W47 (Or.inr sz_b2)
  have N47 := Fr.snoc X47 N44 g_b2
  obtain ⟨T49, X49, e49, st49⟩ := getS2 X47 hx hZ hown (host := "") (Or.inl (hw _ (List.mem_of_getElem? (i := 34) rfl))) Via.refl e47 ((((((((((((((((S_NE.ext E2).wr W5).wr W8).wr W11).wr W14).wr W17).wr W20).wr W23).wr W26).wr W29).wr W32).wr W35).wr W38).wr W41).wr W44).wr W47) (g := (mkF m 107 #[.val (.int p1), .unset, .unset, .unset, .unset] [(.int (15 : Int32)), (.ref b2), (.ref b2)])) rfl (hb hby at_107)
  obtain ⟨cl_b2_110, Ar_b2, q_b2, S_b2, N_b2, H_b2, G_b2⟩ := V_b2_47
  have hin110 : ¬ ((15 : Int32) < 0 ∨ cl_b2_110.slots.size ≤ ((15 : Int32)).toNatClampNeg) := inb_of S_b2 ⟨by decide, by decide⟩
  have Sto110 : Sto Z h47 b2 (.ref w_NE) := Sto.ofV Ar_b2 q_b2 O2 (Ins.self ((((((((((((((((E_NE.ext E2).wr W5).wr W8).wr W11).wr W14).wr W17).wr W20).wr W23).wr W26).wr W29).wr W32).wr W35).wr W38).wr W41).wr W44).wr W47))
  obtain ⟨T50, h50, X50, e50, W50, st50⟩ := stR X49 hx hZ e49 Ar_b2 (j := (15 : Int32)) hin110 rfl Sto110 (g := (mkF m 110 #[.val (.int p1), .unset, .unset, .unset, .unset] [(.ref w_NE), (.int (15 : Int32)), (.ref b2), (.ref b2)])) rfl rfl (hb hby at_110)
  have V_b2_50 : Arv Z h50 b2 k2 (.object "com/example/failfirst/failfirst/Operator") (22 : Int32) [(.ref w_NEG), (.ref w_ABS), (.ref w_ADD), (.ref w_SUB), (.ref w_MUL), (.ref w_DIV), (.ref w_MOD), (.ref w_DIST), (.ref w_MIN), (.ref w_MAX), (.ref w_LT), (.ref w_LE), (.ref w_GE), (.ref w_GT), (.ref w_EQ), (.ref w_NE), .null, .null, .null, .null, .null, .null] .null := Arv.set Ar_b2 q_b2 S_b2 N_b2 H_b2 G_b2 rfl W50 15 rfl (Nat.le_of_ble_eq_true rfl)
  have K50 : Keep h0 h50 [] := K47.wr W50 (Or.inr sz_b2)
  have N50 := Fr.snoc X50 N47 g_b2
  obtain ⟨T52, X52, e52, st52⟩ := getS2 X50 hx hZ hown (host := "") (Or.inl (hw _ (List.mem_of_getElem? (i := 36) rfl))) Via.refl e50 (((((((((((((((((S_NOT.ext E2).wr W5).wr W8).wr W11).wr W14).wr W17).wr W20).wr W23).wr W26).wr W29).wr W32).wr W35).wr W38).wr W41).wr W44).wr W47).wr W50) (g := (mkF m 114 #[.val (.int p1), .unset, .unset, .unset, .unset] [(.int (16 : Int32)), (.ref b2), (.ref b2)])) rfl (hb hby at_114)
  obtain ⟨cl_b2_117, Ar_b2, q_b2, S_b2, N_b2, H_b2, G_b2⟩ := V_b2_50
  have hin117 : ¬ ((16 : Int32) < 0 ∨ cl_b2_117.slots.size ≤ ((16 : Int32)).toNatClampNeg) := inb_of S_b2 ⟨by decide, by decide⟩
  have Sto117 : Sto Z h50 b2 (.ref w_NOT) := Sto.ofV Ar_b2 q_b2 O2 (Ins.self (((((((((((((((((E_NOT.ext E2).wr W5).wr W8).wr W11).wr W14).wr W17).wr W20).wr W23).wr W26).wr W29).wr W32).wr W35).wr W38).wr W41).wr W44).wr W47).wr W50))
  obtain ⟨T53, h53, X53, e53, W53, st53⟩ := stR X52 hx hZ e52 Ar_b2 (j := (16 : Int32)) hin117 rfl Sto117 (g := (mkF m 117 #[.val (.int p1), .unset, .unset, .unset, .unset] [(.ref w_NOT), (.int (16 : Int32)), (.ref b2), (.ref b2)])) rfl rfl (hb hby at_117)
  have V_b2_53 : Arv Z h53 b2 k2 (.object "com/example/failfirst/failfirst/Operator") (22 : Int32) [(.ref w_NEG), (.ref w_ABS), (.ref w_ADD), (.ref w_SUB), (.ref w_MUL), (.ref w_DIV), (.ref w_MOD), (.ref w_DIST), (.ref w_MIN), (.ref w_MAX), (.ref w_LT), (.ref w_LE), (.ref w_GE), (.ref w_GT), (.ref w_EQ), (.ref w_NE), (.ref w_NOT), .null, .null, .null, .null, .null] .null := Arv.set Ar_b2 q_b2 S_b2 N_b2 H_b2 G_b2 rfl W53 16 rfl (Nat.le_of_ble_eq_true rfl)
  have K53 : Keep h0 h53 [] := K50.wr W53 (Or.inr sz_b2)
  have N53 := Fr.snoc X53 N50 g_b2
  obtain ⟨T55, X55, e55, st55⟩ := getS2 X53 hx hZ hown (host := "") (Or.inl (hw _ (List.mem_of_getElem? (i := 38) rfl))) Via.refl e53 ((((((((((((((((((S_AND.ext E2).wr W5).wr W8).wr W11).wr W14).wr W17).wr W20).wr W23).wr W26).wr W29).wr W32).wr W35).wr W38).wr W41).wr W44).wr W47).wr W50).wr W53) (g := (mkF m 121 #[.val (.int p1), .unset, .unset, .unset, .unset] [(.int (17 : Int32)), (.ref b2), (.ref b2)])) rfl (hb hby at_121)
  obtain ⟨cl_b2_124, Ar_b2, q_b2, S_b2, N_b2, H_b2, G_b2⟩ := V_b2_53
  have hin124 : ¬ ((17 : Int32) < 0 ∨ cl_b2_124.slots.size ≤ ((17 : Int32)).toNatClampNeg) := inb_of S_b2 ⟨by decide, by decide⟩
  have Sto124 : Sto Z h53 b2 (.ref w_AND) := Sto.ofV Ar_b2 q_b2 O2 (Ins.self ((((((((((((((((((E_AND.ext E2).wr W5).wr W8).wr W11).wr W14).wr W17).wr W20).wr W23).wr W26).wr W29).wr W32).wr W35).wr W38).wr W41).wr W44).wr W47).wr W50).wr W53))
  obtain ⟨T56, h56, X56, e56, W56, st56⟩ := stR X55 hx hZ e55 Ar_b2 (j := (17 : Int32)) hin124 rfl Sto124 (g := (mkF m 124 #[.val (.int p1), .unset, .unset, .unset, .unset] [(.ref w_AND), (.int (17 : Int32)), (.ref b2), (.ref b2)])) rfl rfl (hb hby at_124)
  have V_b2_56 : Arv Z h56 b2 k2 (.object "com/example/failfirst/failfirst/Operator") (22 : Int32) [(.ref w_NEG), (.ref w_ABS), (.ref w_ADD), (.ref w_SUB), (.ref w_MUL), (.ref w_DIV), (.ref w_MOD), (.ref w_DIST), (.ref w_MIN), (.ref w_MAX), (.ref w_LT), (.ref w_LE), (.ref w_GE), (.ref w_GT), (.ref w_EQ), (.ref w_NE), (.ref w_NOT), (.ref w_AND), .null, .null, .null, .null] .null := Arv.set Ar_b2 q_b2 S_b2 N_b2 H_b2 G_b2 rfl W56 17 rfl (Nat.le_of_ble_eq_true rfl)
  have K56 : Keep h0 h56 [] := K53.wr W56 (Or.inr sz_b2)
  have N56 := Fr.snoc X56 N53 g_b2
  obtain ⟨T58, X58, e58, st58⟩ := getS2 X56 hx hZ hown (host := "") (Or.inl (hw _ (List.mem_of_getElem? (i := 40) rfl))) Via.refl e56 (((((((((((((((((((S_OR.ext E2).wr W5).wr W8).wr W11).wr W14).wr W17).wr W20).wr W23).wr W26).wr W29).wr W32).wr W35).wr W38).wr W41).wr W44).wr W47).wr W50).wr W53).wr W56) (g := (mkF m 128 #[.val (.int p1), .unset, .unset, .unset, .unset] [(.int (18 : Int32)), (.ref b2), (.ref b2)])) rfl (hb hby at_128)
  obtain ⟨cl_b2_131, Ar_b2, q_b2, S_b2, N_b2, H_b2, G_b2⟩ := V_b2_56
  have hin131 : ¬ ((18 : Int32) < 0 ∨ cl_b2_131.slots.size ≤ ((18 : Int32)).toNatClampNeg) := inb_of S_b2 ⟨by decide, by decide⟩
  have Sto131 : Sto Z h56 b2 (.ref w_OR) := Sto.ofV Ar_b2 q_b2 O2 (Ins.self (((((((((((((((((((E_OR.ext E2).wr W5).wr W8).wr W11).wr W14).wr W17).wr W20).wr W23).wr W26).wr W29).wr W32).wr W35).wr W38).wr W41).wr W44).wr W47).wr W50).wr W53).wr W56))
  obtain ⟨T59, h59, X59, e59, W59, st59⟩ := stR X58 hx hZ e58 Ar_b2 (j := (18 : Int32)) hin131 rfl Sto131 (g := (mkF m 131 #[.val (.int p1), .unset, .unset, .unset, .unset] [(.ref w_OR), (.int (18 : Int32)), (.ref b2), (.ref b2)])) rfl rfl (hb hby at_131)
  have V_b2_59 : Arv Z h59 b2 k2 (.object "com/example/failfirst/failfirst/Operator") (22 : Int32) [(.ref w_NEG), (.ref w_ABS), (.ref w_ADD), (.ref w_SUB), (.ref w_MUL), (.ref w_DIV), (.ref w_MOD), (.ref w_DIST), (.ref w_MIN), (.ref w_MAX), (.ref w_LT), (.ref w_LE), (.ref w_GE), (.ref w_GT), (.ref w_EQ), (.ref w_NE), (.ref w_NOT), (.ref w_AND), (.ref w_OR), .null, .null, .null] .null := Arv.set Ar_b2 q_b2 S_b2 N_b2 H_b2 G_b2 rfl W59 18 rfl (Nat.le_of_ble_eq_true rfl)
  have K59 : Keep h0 h59 [] := K56.wr W59 (Or.inr sz_b2)
  have N59 := Fr.snoc X59 N56 g_b2
  obtain ⟨T61, X61, e61, st61⟩ := getS2 X59 hx hZ hown (host := "") (Or.inl (hw _ (List.mem_of_getElem? (i := 42) rfl))) Via.refl e59 ((((((((((((((((((((S_XOR.ext E2).wr W5).wr W8).wr W11).wr W14).wr W17).wr W20).wr W23).wr W26).wr W29).wr W32).wr W35).wr W38).wr W41).wr W44).wr W47).wr W50).wr W53).wr W56).wr W59) (g := (mkF m 135 #[.val (.int p1), .unset, .unset, .unset, .unset] [(.int (19 : Int32)), (.ref b2), (.ref b2)])) rfl (hb hby at_135)
  obtain ⟨cl_b2_138, Ar_b2, q_b2, S_b2, N_b2, H_b2, G_b2⟩ := V_b2_59
  have hin138 : ¬ ((19 : Int32) < 0 ∨ cl_b2_138.slots.size ≤ ((19 : Int32)).toNatClampNeg) := inb_of S_b2 ⟨by decide, by decide⟩
  have Sto138 : Sto Z h59 b2 (.ref w_XOR) := Sto.ofV Ar_b2 q_b2 O2 (Ins.self ((((((((((((((((((((E_XOR.ext E2).wr W5).wr W8).wr W11).wr W14).wr W17).wr W20).wr W23).wr W26).wr W29).wr W32).wr W35).wr W38).wr W41).wr W44).wr W47).wr W50).wr W53).wr W56).wr W59))
  obtain ⟨T62, h62, X62, e62, W62, st62⟩ := stR X61 hx hZ e61 Ar_b2 (j := (19 : Int32)) hin138 rfl Sto138 (g := (mkF m 138 #[.val (.int p1), .unset, .unset, .unset, .unset] [(.ref w_XOR), (.int (19 : Int32)), (.ref b2), (.ref b2)])) rfl rfl (hb hby at_138)
  have V_b2_62 : Arv Z h62 b2 k2 (.object "com/example/failfirst/failfirst/Operator") (22 : Int32) [(.ref w_NEG), (.ref w_ABS), (.ref w_ADD), (.ref w_SUB), (.ref w_MUL), (.ref w_DIV), (.ref w_MOD), (.ref w_DIST), (.ref w_MIN), (.ref w_MAX), (.ref w_LT), (.ref w_LE), (.ref w_GE), (.ref w_GT), (.ref w_EQ), (.ref w_NE), (.ref w_NOT), (.ref w_AND), (.ref w_OR), (.ref w_XOR), .null, .null] .null := Arv.set Ar_b2 q_b2 S_b2 N_b2 H_b2 G_b2 rfl W62 19 rfl (Nat.le_of_ble_eq_true rfl)
  have K62 : Keep h0 h62 [] := K59.wr W62 (Or.inr sz_b2)
  have N62 := Fr.snoc X62 N59 g_b2
  obtain ⟨T64, X64, e64, st64⟩ := getS2 X62 hx hZ hown (host := "") (Or.inl (hw _ (List.mem_of_getElem? (i := 44) rfl))) Via.refl e62 (((((((((((((((((((((S_IFF.ext E2).wr W5).wr W8).wr W11).wr W14).wr W17).wr W20).wr W23).wr W26).wr W29).wr W32).wr W35).wr W38).wr W41).wr W44).wr W47).wr W50).wr W53).wr W56).wr W59).wr W62) (g := (mkF m 142 #[.val (.int p1), .unset, .unset, .unset, .unset] [(.int (20 : Int32)), (.ref b2), (.ref b2)])) rfl (hb hby at_142)
  obtain ⟨cl_b2_145, Ar_b2, q_b2, S_b2, N_b2, H_b2, G_b2⟩ := V_b2_62
  have hin145 : ¬ ((20 : Int32) < 0 ∨ cl_b2_145.slots.size ≤ ((20 : Int32)).toNatClampNeg) := inb_of S_b2 ⟨by decide, by decide⟩
  have Sto145 : Sto Z h62 b2 (.ref w_IFF) := Sto.ofV Ar_b2 q_b2 O2 (Ins.self (((((((((((((((((((((E_IFF.ext E2).wr W5).wr W8).wr W11).wr W14).wr W17).wr W20).wr W23).wr W26).wr W29).wr W32).wr W35).wr W38).wr W41).wr W44).wr W47).wr W50).wr W53).wr W56).wr W59).wr W62))
  obtain ⟨T65, h65, X65, e65, W65, st65⟩ := stR X64 hx hZ e64 Ar_b2 (j := (20 : Int32)) hin145 rfl Sto145 (g := (mkF m 145 #[.val (.int p1), .unset, .unset, .unset, .unset] [(.ref w_IFF), (.int (20 : Int32)), (.ref b2), (.ref b2)])) rfl rfl (hb hby at_145)
  have V_b2_65 : Arv Z h65 b2 k2 (.object "com/example/failfirst/failfirst/Operator") (22 : Int32) [(.ref w_NEG), (.ref w_ABS), (.ref w_ADD), (.ref w_SUB), (.ref w_MUL), (.ref w_DIV), (.ref w_MOD), (.ref w_DIST), (.ref w_MIN), (.ref w_MAX), (.ref w_LT), (.ref w_LE), (.ref w_GE), (.ref w_GT), (.ref w_EQ), (.ref w_NE), (.ref w_NOT), (.ref w_AND), (.ref w_OR), (.ref w_XOR), (.ref w_IFF), .null] .null := Arv.set Ar_b2 q_b2 S_b2 N_b2 H_b2 G_b2 rfl W65 20 rfl (Nat.le_of_ble_eq_true rfl)
  have K65 : Keep h0 h65 [] := K62.wr W65 (Or.inr sz_b2)
  have N65 := Fr.snoc X65 N62 g_b2
  obtain ⟨T67, X67, e67, st67⟩ := getS2 X65 hx hZ hown (host := "") (Or.inl (hw _ (List.mem_of_getElem? (i := 46) rfl))) Via.refl e65 ((((((((((((((((((((((S_IMP.ext E2).wr W5).wr W8).wr W11).wr W14).wr W17).wr W20).wr W23).wr W26).wr W29).wr W32).wr W35).wr W38).wr W41).wr W44).wr W47).wr W50).wr W53).wr W56).wr W59).wr W62).wr W65) (g := (mkF m 149 #[.val (.int p1), .unset, .unset, .unset, .unset] [(.int (21 : Int32)), (.ref b2), (.ref b2)])) rfl (hb hby at_149)
  obtain ⟨cl_b2_152, Ar_b2, q_b2, S_b2, N_b2, H_b2, G_b2⟩ := V_b2_65
  have hin152 : ¬ ((21 : Int32) < 0 ∨ cl_b2_152.slots.size ≤ ((21 : Int32)).toNatClampNeg) := inb_of S_b2 ⟨by decide, by decide⟩
  have Sto152 : Sto Z h65 b2 (.ref w_IMP) := Sto.ofV Ar_b2 q_b2 O2 (Ins.self ((((((((((((((((((((((E_IMP.ext E2).wr W5).wr W8).wr W11).wr W14).wr W17).wr W20).wr W23).wr W26).wr W29).wr W32).wr W35).wr W38).wr W41).wr W44).wr W47).wr W50).wr W53).wr W56).wr W59).wr W62).wr W65))
  obtain ⟨T68, h68, X68, e68, W68, st68⟩ := stR X67 hx hZ e67 Ar_b2 (j := (21 : Int32)) hin152 rfl Sto152 (g := (mkF m 152 #[.val (.int p1), .unset, .unset, .unset, .unset] [(.ref w_IMP), (.int (21 : Int32)), (.ref b2), (.ref b2)])) rfl rfl (hb hby at_152)
  have V_b2_68 : Arv Z h68 b2 k2 (.object "com/example/failfirst/failfirst/Operator") (22 : Int32) [(.ref w_NEG), (.ref w_ABS), (.ref w_ADD), (.ref w_SUB), (.ref w_MUL), (.ref w_DIV), (.ref w_MOD), (.ref w_DIST), (.ref w_MIN), (.ref w_MAX), (.ref w_LT), (.ref w_LE), (.ref w_GE), (.ref w_GT), (.ref w_EQ), (.ref w_NE), (.ref w_NOT), (.ref w_AND), (.ref w_OR), (.ref w_XOR), (.ref w_IFF), (.ref w_IMP)] .null := Arv.set Ar_b2 q_b2 S_b2 N_b2 H_b2 G_b2 rfl W68 21 rfl (Nat.le_of_ble_eq_true rfl)
  have K68 : Keep h0 h68 [] := K65.wr W68 (Or.inr sz_b2)
  have N68 := Fr.snoc X68 N65 g_b2
  obtain ⟨cl_b2_164, Ar_b2_164, q_b2_164, S_b2_164, N_b2_164, H_b2_164, G_b2_164⟩ := V_b2_68
  have hin164 : ¬ (((p1 &&& (2147483647 : Int32)) % (22 : Int32)) < 0 ∨ cl_b2_164.slots.size ≤ (((p1 &&& (2147483647 : Int32)) % (22 : Int32))).toNatClampNeg) := inb_of S_b2_164 ⟨hj0, hj1⟩
  have hat164 : cl_b2_164.slots[(((p1 &&& (2147483647 : Int32)) % (22 : Int32))).toNatClampNeg]? = some (.ref wx) := (H_b2_164 _ (by rw [S_b2_164]; exact hlt)).trans (congrArg some hsel)
  obtain ⟨T69, X69, e69, st69⟩ := getS2 X68 hx hZ hown (host := "") (Or.inl (hw _ (List.mem_of_getElem? (i := 24) rfl))) Via.refl e68 (((((((((((((((((((((((S_LT.ext E2).wr W5).wr W8).wr W11).wr W14).wr W17).wr W20).wr W23).wr W26).wr W29).wr W32).wr W35).wr W38).wr W41).wr W44).wr W47).wr W50).wr W53).wr W56).wr W59).wr W62).wr W65).wr W68) (g := (mkF m 167 #[.val (.int p1), .val (.ref b2), .val (.int ((p1 &&& (2147483647 : Int32)) % (22 : Int32))), .val (.ref wx), .unset] [(.ref wx)])) rfl (hb hby at_167)
  obtain ⟨LL, X69, N68⟩ : ∃ LL, Stand p l e room_1 s m #[(.int p1)] below meth c T69 LL (0 + 1) (0 + 22) ∧ Fr n0 LL := ⟨_, X69, N68⟩
  obtain ⟨cq70, kq70, q70a, q70b, q70c⟩ := isOf hZ e69 (((((((((((((((((((((((E_wx.ext E2).wr W5).wr W8).wr W11).wr W14).wr W17).wr W20).wr W23).wr W26).wr W29).wr W32).wr W35).wr W38).wr W41).wr W44).wr W47).wr W50).wr W53).wr W56).wr W59).wr W62).wr W65).wr W68)
  obtain ⟨_, _, ⟨T70, L70, k70, n70⟩, -, X70, ⟨Lc70, hQ70, l70, y70, z70⟩, st70⟩ := X69.virtualBack hx (y := (⟨"com/example/failfirst/failfirst/Operator", "chains", "()Z"⟩ : MethodName)) (z := (⟨"com/example/failfirst/failfirst/Operator", "chains", "()Z"⟩ : MethodName)) hown (mvT hZ (hw _ (List.mem_of_getElem? (i := 49) rfl))) (mvT hZ (hw _ (List.mem_of_getElem? (i := 50) rfl))) (notFace_of_selects (args := #[]) (mvT hZ (hw _ (List.mem_of_getElem? (i := 52) rfl)))) (mvT hZ (hw _ (List.mem_of_getElem? (i := 52) rfl))) (mvT hZ (hw _ (List.mem_of_getElem? (i := 51) rfl))) (by decide) (backOf (W := 0) (rm1_f l Z a0 hw [] wx wk w_COMPARISON h68 n0 (Nat.le_trans Z0 K68.1) (F_kind.keep K68 List.not_mem_nil) (((((((((((((((((((((((S_COMPARISON.ext E2).wr W5).wr W8).wr W11).wr W14).wr W17).wr W20).wr W23).wr W26).wr W29).wr W32).wr W35).wr W38).wr W41).wr W44).wr W47).wr W50).wr W53).wr W56).wr W59).wr W62).wr W65).wr W68) hkd) hZ (hw _ (List.mem_of_getElem? (i := 53) rfl)) (hw _ (List.mem_of_getElem? (i := 3) rfl)) (by decide) (by decide)) q70a q70c (g := (mkF m 216 #[.val (.int p1), .val (.ref b2), .val (.int ((p1 &&& (2147483647 : Int32)) % (22 : Int32))), .val (.ref wx), .val (.int (1 : Int32))] [(.ref wx)])) rfl (by rw [hml]; rfl) (Steps.refl _) (argsL := []) (rest := []) (lenOf pd_0_0 rfl) rfl (by show 2 * 0 + _ ≤ _; exact Nat.le_of_eq rfl) (hb hby at_216) (fun _ _ => ⟨rfl, e69, (by decide : 1 + 0 ≤ _), (by decide : 22 + 0 ≤ _)⟩)
  dsimp only [Pt.U, Pt.locs, Pt.cells, Pt.slots] at X70 l70 y70 z70 st70 hQ70
  subst l70 y70 z70
  obtain ⟨rfl, N70q, e70q⟩ := hQ70
  have N70 := Fr.app N68 N70q
  obtain ⟨fs, hr, hrun, hended, hW, hsame⟩ := X70.leave (v := some (.int (1 : Int32))) (fun h => by rw [Bd.returns] at h; cases h) Bd.notSynchronized
  refine ⟨_, _, pre0 _ ?_, hrun, hended, _, _, rfl, ?_, ⟨_, rfl⟩, hW, hsame.mono (by decide) (by decide)⟩
  · show Steps p.tables e below (s₁.setTop (mkF m 0 #[.val (.int p1), .unset, .unset, .unset, .unset] [])) _
    refine XS.bipush X0.here hx rfl (hb hby at_0) ?_
    show Steps p.tables e below (s₁.setTop (mkF m 2 #[.val (.int p1), .unset, .unset, .unset, .unset] [(.int (22 : Int32))])) _
    refine st2 _ ?_
    show Steps p.tables e below (T2.setTop (mkF m 5 #[.val (.int p1), .unset, .unset, .unset, .unset] [(.ref b2)])) _
    refine XS.dup X2.here hx rfl (hb hby at_5) rfl rfl ?_
    show Steps p.tables e below (T2.setTop (mkF m 6 #[.val (.int p1), .unset, .unset, .unset, .unset] [(.ref b2), (.ref b2)])) _
    refine XS.iconst X2.here hx rfl (hb hby at_6) ?_
    show Steps p.tables e below (T2.setTop (mkF m 7 #[.val (.int p1), .unset, .unset, .unset, .unset] [(.int (0 : Int32)), (.ref b2), (.ref b2)])) _
    refine st4 _ ?_
    show Steps p.tables e below (T4.setTop (mkF m 10 #[.val (.int p1), .unset, .unset, .unset, .unset] [(.ref w_NEG), (.int (0 : Int32)), (.ref b2), (.ref b2)])) _
    refine st5 _ ?_
    show Steps p.tables e below (T5.setTop (mkF m 11 #[.val (.int p1), .unset, .unset, .unset, .unset] [(.ref b2)])) _
    refine XS.dup X5.here hx rfl (hb hby at_11) rfl rfl ?_
    show Steps p.tables e below (T5.setTop (mkF m 12 #[.val (.int p1), .unset, .unset, .unset, .unset] [(.ref b2), (.ref b2)])) _
    refine XS.iconst X5.here hx rfl (hb hby at_12) ?_
    show Steps p.tables e below (T5.setTop (mkF m 13 #[.val (.int p1), .unset, .unset, .unset, .unset] [(.int (1 : Int32)), (.ref b2), (.ref b2)])) _
    refine st7 _ ?_
    show Steps p.tables e below (T7.setTop (mkF m 16 #[.val (.int p1), .unset, .unset, .unset, .unset] [(.ref w_ABS), (.int (1 : Int32)), (.ref b2), (.ref b2)])) _
    refine st8 _ ?_
    show Steps p.tables e below (T8.setTop (mkF m 17 #[.val (.int p1), .unset, .unset, .unset, .unset] [(.ref b2)])) _
    refine XS.dup X8.here hx rfl (hb hby at_17) rfl rfl ?_
    show Steps p.tables e below (T8.setTop (mkF m 18 #[.val (.int p1), .unset, .unset, .unset, .unset] [(.ref b2), (.ref b2)])) _
    refine XS.iconst X8.here hx rfl (hb hby at_18) ?_
    show Steps p.tables e below (T8.setTop (mkF m 19 #[.val (.int p1), .unset, .unset, .unset, .unset] [(.int (2 : Int32)), (.ref b2), (.ref b2)])) _
    refine st10 _ ?_
    show Steps p.tables e below (T10.setTop (mkF m 22 #[.val (.int p1), .unset, .unset, .unset, .unset] [(.ref w_ADD), (.int (2 : Int32)), (.ref b2), (.ref b2)])) _
    refine st11 _ ?_
    show Steps p.tables e below (T11.setTop (mkF m 23 #[.val (.int p1), .unset, .unset, .unset, .unset] [(.ref b2)])) _
    refine XS.dup X11.here hx rfl (hb hby at_23) rfl rfl ?_
    show Steps p.tables e below (T11.setTop (mkF m 24 #[.val (.int p1), .unset, .unset, .unset, .unset] [(.ref b2), (.ref b2)])) _
    refine XS.iconst X11.here hx rfl (hb hby at_24) ?_
    show Steps p.tables e below (T11.setTop (mkF m 25 #[.val (.int p1), .unset, .unset, .unset, .unset] [(.int (3 : Int32)), (.ref b2), (.ref b2)])) _
    refine st13 _ ?_
    show Steps p.tables e below (T13.setTop (mkF m 28 #[.val (.int p1), .unset, .unset, .unset, .unset] [(.ref w_SUB), (.int (3 : Int32)), (.ref b2), (.ref b2)])) _
    refine st14 _ ?_
    show Steps p.tables e below (T14.setTop (mkF m 29 #[.val (.int p1), .unset, .unset, .unset, .unset] [(.ref b2)])) _
    refine XS.dup X14.here hx rfl (hb hby at_29) rfl rfl ?_
    show Steps p.tables e below (T14.setTop (mkF m 30 #[.val (.int p1), .unset, .unset, .unset, .unset] [(.ref b2), (.ref b2)])) _
    refine XS.iconst X14.here hx rfl (hb hby at_30) ?_
    show Steps p.tables e below (T14.setTop (mkF m 31 #[.val (.int p1), .unset, .unset, .unset, .unset] [(.int (4 : Int32)), (.ref b2), (.ref b2)])) _
    refine st16 _ ?_
    show Steps p.tables e below (T16.setTop (mkF m 34 #[.val (.int p1), .unset, .unset, .unset, .unset] [(.ref w_MUL), (.int (4 : Int32)), (.ref b2), (.ref b2)])) _
    refine st17 _ ?_
    show Steps p.tables e below (T17.setTop (mkF m 35 #[.val (.int p1), .unset, .unset, .unset, .unset] [(.ref b2)])) _
    refine XS.dup X17.here hx rfl (hb hby at_35) rfl rfl ?_
    show Steps p.tables e below (T17.setTop (mkF m 36 #[.val (.int p1), .unset, .unset, .unset, .unset] [(.ref b2), (.ref b2)])) _
    refine XS.iconst X17.here hx rfl (hb hby at_36) ?_
    show Steps p.tables e below (T17.setTop (mkF m 37 #[.val (.int p1), .unset, .unset, .unset, .unset] [(.int (5 : Int32)), (.ref b2), (.ref b2)])) _
    refine st19 _ ?_
    show Steps p.tables e below (T19.setTop (mkF m 40 #[.val (.int p1), .unset, .unset, .unset, .unset] [(.ref w_DIV), (.int (5 : Int32)), (.ref b2), (.ref b2)])) _
    refine st20 _ ?_
    show Steps p.tables e below (T20.setTop (mkF m 41 #[.val (.int p1), .unset, .unset, .unset, .unset] [(.ref b2)])) _
    refine XS.dup X20.here hx rfl (hb hby at_41) rfl rfl ?_
    show Steps p.tables e below (T20.setTop (mkF m 42 #[.val (.int p1), .unset, .unset, .unset, .unset] [(.ref b2), (.ref b2)])) _
    refine XS.bipush X20.here hx rfl (hb hby at_42) ?_
    show Steps p.tables e below (T20.setTop (mkF m 44 #[.val (.int p1), .unset, .unset, .unset, .unset] [(.int (6 : Int32)), (.ref b2), (.ref b2)])) _
    refine st22 _ ?_
    show Steps p.tables e below (T22.setTop (mkF m 47 #[.val (.int p1), .unset, .unset, .unset, .unset] [(.ref w_MOD), (.int (6 : Int32)), (.ref b2), (.ref b2)])) _
    refine st23 _ ?_
    show Steps p.tables e below (T23.setTop (mkF m 48 #[.val (.int p1), .unset, .unset, .unset, .unset] [(.ref b2)])) _
    refine XS.dup X23.here hx rfl (hb hby at_48) rfl rfl ?_
    show Steps p.tables e below (T23.setTop (mkF m 49 #[.val (.int p1), .unset, .unset, .unset, .unset] [(.ref b2), (.ref b2)])) _
    refine XS.bipush X23.here hx rfl (hb hby at_49) ?_
    show Steps p.tables e below (T23.setTop (mkF m 51 #[.val (.int p1), .unset, .unset, .unset, .unset] [(.int (7 : Int32)), (.ref b2), (.ref b2)])) _
    refine st25 _ ?_
    show Steps p.tables e below (T25.setTop (mkF m 54 #[.val (.int p1), .unset, .unset, .unset, .unset] [(.ref w_DIST), (.int (7 : Int32)), (.ref b2), (.ref b2)])) _
    refine st26 _ ?_
    show Steps p.tables e below (T26.setTop (mkF m 55 #[.val (.int p1), .unset, .unset, .unset, .unset] [(.ref b2)])) _
    refine XS.dup X26.here hx rfl (hb hby at_55) rfl rfl ?_
    show Steps p.tables e below (T26.setTop (mkF m 56 #[.val (.int p1), .unset, .unset, .unset, .unset] [(.ref b2), (.ref b2)])) _
    refine XS.bipush X26.here hx rfl (hb hby at_56) ?_
    show Steps p.tables e below (T26.setTop (mkF m 58 #[.val (.int p1), .unset, .unset, .unset, .unset] [(.int (8 : Int32)), (.ref b2), (.ref b2)])) _
    refine st28 _ ?_
    show Steps p.tables e below (T28.setTop (mkF m 61 #[.val (.int p1), .unset, .unset, .unset, .unset] [(.ref w_MIN), (.int (8 : Int32)), (.ref b2), (.ref b2)])) _
    refine st29 _ ?_
    show Steps p.tables e below (T29.setTop (mkF m 62 #[.val (.int p1), .unset, .unset, .unset, .unset] [(.ref b2)])) _
    refine XS.dup X29.here hx rfl (hb hby at_62) rfl rfl ?_
    show Steps p.tables e below (T29.setTop (mkF m 63 #[.val (.int p1), .unset, .unset, .unset, .unset] [(.ref b2), (.ref b2)])) _
    refine XS.bipush X29.here hx rfl (hb hby at_63) ?_
    show Steps p.tables e below (T29.setTop (mkF m 65 #[.val (.int p1), .unset, .unset, .unset, .unset] [(.int (9 : Int32)), (.ref b2), (.ref b2)])) _
    refine st31 _ ?_
    show Steps p.tables e below (T31.setTop (mkF m 68 #[.val (.int p1), .unset, .unset, .unset, .unset] [(.ref w_MAX), (.int (9 : Int32)), (.ref b2), (.ref b2)])) _
    refine st32 _ ?_
    show Steps p.tables e below (T32.setTop (mkF m 69 #[.val (.int p1), .unset, .unset, .unset, .unset] [(.ref b2)])) _
    refine XS.dup X32.here hx rfl (hb hby at_69) rfl rfl ?_
    show Steps p.tables e below (T32.setTop (mkF m 70 #[.val (.int p1), .unset, .unset, .unset, .unset] [(.ref b2), (.ref b2)])) _
    refine XS.bipush X32.here hx rfl (hb hby at_70) ?_
    show Steps p.tables e below (T32.setTop (mkF m 72 #[.val (.int p1), .unset, .unset, .unset, .unset] [(.int (10 : Int32)), (.ref b2), (.ref b2)])) _
    refine st34 _ ?_
    show Steps p.tables e below (T34.setTop (mkF m 75 #[.val (.int p1), .unset, .unset, .unset, .unset] [(.ref w_LT), (.int (10 : Int32)), (.ref b2), (.ref b2)])) _
    refine st35 _ ?_
    show Steps p.tables e below (T35.setTop (mkF m 76 #[.val (.int p1), .unset, .unset, .unset, .unset] [(.ref b2)])) _
    refine XS.dup X35.here hx rfl (hb hby at_76) rfl rfl ?_
    show Steps p.tables e below (T35.setTop (mkF m 77 #[.val (.int p1), .unset, .unset, .unset, .unset] [(.ref b2), (.ref b2)])) _
    refine XS.bipush X35.here hx rfl (hb hby at_77) ?_
    show Steps p.tables e below (T35.setTop (mkF m 79 #[.val (.int p1), .unset, .unset, .unset, .unset] [(.int (11 : Int32)), (.ref b2), (.ref b2)])) _
    refine st37 _ ?_
    show Steps p.tables e below (T37.setTop (mkF m 82 #[.val (.int p1), .unset, .unset, .unset, .unset] [(.ref w_LE), (.int (11 : Int32)), (.ref b2), (.ref b2)])) _
    refine st38 _ ?_
    show Steps p.tables e below (T38.setTop (mkF m 83 #[.val (.int p1), .unset, .unset, .unset, .unset] [(.ref b2)])) _
    refine XS.dup X38.here hx rfl (hb hby at_83) rfl rfl ?_
    show Steps p.tables e below (T38.setTop (mkF m 84 #[.val (.int p1), .unset, .unset, .unset, .unset] [(.ref b2), (.ref b2)])) _
    refine XS.bipush X38.here hx rfl (hb hby at_84) ?_
    show Steps p.tables e below (T38.setTop (mkF m 86 #[.val (.int p1), .unset, .unset, .unset, .unset] [(.int (12 : Int32)), (.ref b2), (.ref b2)])) _
    refine st40 _ ?_
    show Steps p.tables e below (T40.setTop (mkF m 89 #[.val (.int p1), .unset, .unset, .unset, .unset] [(.ref w_GE), (.int (12 : Int32)), (.ref b2), (.ref b2)])) _
    refine st41 _ ?_
    show Steps p.tables e below (T41.setTop (mkF m 90 #[.val (.int p1), .unset, .unset, .unset, .unset] [(.ref b2)])) _
    refine XS.dup X41.here hx rfl (hb hby at_90) rfl rfl ?_
    show Steps p.tables e below (T41.setTop (mkF m 91 #[.val (.int p1), .unset, .unset, .unset, .unset] [(.ref b2), (.ref b2)])) _
    refine XS.bipush X41.here hx rfl (hb hby at_91) ?_
    show Steps p.tables e below (T41.setTop (mkF m 93 #[.val (.int p1), .unset, .unset, .unset, .unset] [(.int (13 : Int32)), (.ref b2), (.ref b2)])) _
    refine st43 _ ?_
    show Steps p.tables e below (T43.setTop (mkF m 96 #[.val (.int p1), .unset, .unset, .unset, .unset] [(.ref w_GT), (.int (13 : Int32)), (.ref b2), (.ref b2)])) _
    refine st44 _ ?_
    show Steps p.tables e below (T44.setTop (mkF m 97 #[.val (.int p1), .unset, .unset, .unset, .unset] [(.ref b2)])) _
    refine XS.dup X44.here hx rfl (hb hby at_97) rfl rfl ?_
    show Steps p.tables e below (T44.setTop (mkF m 98 #[.val (.int p1), .unset, .unset, .unset, .unset] [(.ref b2), (.ref b2)])) _
    refine XS.bipush X44.here hx rfl (hb hby at_98) ?_
    show Steps p.tables e below (T44.setTop (mkF m 100 #[.val (.int p1), .unset, .unset, .unset, .unset] [(.int (14 : Int32)), (.ref b2), (.ref b2)])) _
    refine st46 _ ?_
    show Steps p.tables e below (T46.setTop (mkF m 103 #[.val (.int p1), .unset, .unset, .unset, .unset] [(.ref w_EQ), (.int (14 : Int32)), (.ref b2), (.ref b2)])) _
    refine st47 _ ?_
    show Steps p.tables e below (T47.setTop (mkF m 104 #[.val (.int p1), .unset, .unset, .unset, .unset] [(.ref b2)])) _
    refine XS.dup X47.here hx rfl (hb hby at_104) rfl rfl ?_
    show Steps p.tables e below (T47.setTop (mkF m 105 #[.val (.int p1), .unset, .unset, .unset, .unset] [(.ref b2), (.ref b2)])) _
    refine XS.bipush X47.here hx rfl (hb hby at_105) ?_
    show Steps p.tables e below (T47.setTop (mkF m 107 #[.val (.int p1), .unset, .unset, .unset, .unset] [(.int (15 : Int32)), (.ref b2), (.ref b2)])) _
    refine st49 _ ?_
    show Steps p.tables e below (T49.setTop (mkF m 110 #[.val (.int p1), .unset, .unset, .unset, .unset] [(.ref w_NE), (.int (15 : Int32)), (.ref b2), (.ref b2)])) _
    refine st50 _ ?_
    show Steps p.tables e below (T50.setTop (mkF m 111 #[.val (.int p1), .unset, .unset, .unset, .unset] [(.ref b2)])) _
    refine XS.dup X50.here hx rfl (hb hby at_111) rfl rfl ?_
    show Steps p.tables e below (T50.setTop (mkF m 112 #[.val (.int p1), .unset, .unset, .unset, .unset] [(.ref b2), (.ref b2)])) _
    refine XS.bipush X50.here hx rfl (hb hby at_112) ?_
    show Steps p.tables e below (T50.setTop (mkF m 114 #[.val (.int p1), .unset, .unset, .unset, .unset] [(.int (16 : Int32)), (.ref b2), (.ref b2)])) _
    refine st52 _ ?_
    show Steps p.tables e below (T52.setTop (mkF m 117 #[.val (.int p1), .unset, .unset, .unset, .unset] [(.ref w_NOT), (.int (16 : Int32)), (.ref b2), (.ref b2)])) _
    refine st53 _ ?_
    show Steps p.tables e below (T53.setTop (mkF m 118 #[.val (.int p1), .unset, .unset, .unset, .unset] [(.ref b2)])) _
    refine XS.dup X53.here hx rfl (hb hby at_118) rfl rfl ?_
    show Steps p.tables e below (T53.setTop (mkF m 119 #[.val (.int p1), .unset, .unset, .unset, .unset] [(.ref b2), (.ref b2)])) _
    refine XS.bipush X53.here hx rfl (hb hby at_119) ?_
    show Steps p.tables e below (T53.setTop (mkF m 121 #[.val (.int p1), .unset, .unset, .unset, .unset] [(.int (17 : Int32)), (.ref b2), (.ref b2)])) _
    refine st55 _ ?_
    show Steps p.tables e below (T55.setTop (mkF m 124 #[.val (.int p1), .unset, .unset, .unset, .unset] [(.ref w_AND), (.int (17 : Int32)), (.ref b2), (.ref b2)])) _
    refine st56 _ ?_
    show Steps p.tables e below (T56.setTop (mkF m 125 #[.val (.int p1), .unset, .unset, .unset, .unset] [(.ref b2)])) _
    refine XS.dup X56.here hx rfl (hb hby at_125) rfl rfl ?_
    show Steps p.tables e below (T56.setTop (mkF m 126 #[.val (.int p1), .unset, .unset, .unset, .unset] [(.ref b2), (.ref b2)])) _
    refine XS.bipush X56.here hx rfl (hb hby at_126) ?_
    show Steps p.tables e below (T56.setTop (mkF m 128 #[.val (.int p1), .unset, .unset, .unset, .unset] [(.int (18 : Int32)), (.ref b2), (.ref b2)])) _
    refine st58 _ ?_
    show Steps p.tables e below (T58.setTop (mkF m 131 #[.val (.int p1), .unset, .unset, .unset, .unset] [(.ref w_OR), (.int (18 : Int32)), (.ref b2), (.ref b2)])) _
    refine st59 _ ?_
    show Steps p.tables e below (T59.setTop (mkF m 132 #[.val (.int p1), .unset, .unset, .unset, .unset] [(.ref b2)])) _
    refine XS.dup X59.here hx rfl (hb hby at_132) rfl rfl ?_
    show Steps p.tables e below (T59.setTop (mkF m 133 #[.val (.int p1), .unset, .unset, .unset, .unset] [(.ref b2), (.ref b2)])) _
    refine XS.bipush X59.here hx rfl (hb hby at_133) ?_
    show Steps p.tables e below (T59.setTop (mkF m 135 #[.val (.int p1), .unset, .unset, .unset, .unset] [(.int (19 : Int32)), (.ref b2), (.ref b2)])) _
    refine st61 _ ?_
    show Steps p.tables e below (T61.setTop (mkF m 138 #[.val (.int p1), .unset, .unset, .unset, .unset] [(.ref w_XOR), (.int (19 : Int32)), (.ref b2), (.ref b2)])) _
    refine st62 _ ?_
    show Steps p.tables e below (T62.setTop (mkF m 139 #[.val (.int p1), .unset, .unset, .unset, .unset] [(.ref b2)])) _
    refine XS.dup X62.here hx rfl (hb hby at_139) rfl rfl ?_
    show Steps p.tables e below (T62.setTop (mkF m 140 #[.val (.int p1), .unset, .unset, .unset, .unset] [(.ref b2), (.ref b2)])) _
    refine XS.bipush X62.here hx rfl (hb hby at_140) ?_
    show Steps p.tables e below (T62.setTop (mkF m 142 #[.val (.int p1), .unset, .unset, .unset, .unset] [(.int (20 : Int32)), (.ref b2), (.ref b2)])) _
    refine st64 _ ?_
    show Steps p.tables e below (T64.setTop (mkF m 145 #[.val (.int p1), .unset, .unset, .unset, .unset] [(.ref w_IFF), (.int (20 : Int32)), (.ref b2), (.ref b2)])) _
    refine st65 _ ?_
    show Steps p.tables e below (T65.setTop (mkF m 146 #[.val (.int p1), .unset, .unset, .unset, .unset] [(.ref b2)])) _
    refine XS.dup X65.here hx rfl (hb hby at_146) rfl rfl ?_
    show Steps p.tables e below (T65.setTop (mkF m 147 #[.val (.int p1), .unset, .unset, .unset, .unset] [(.ref b2), (.ref b2)])) _
    refine XS.bipush X65.here hx rfl (hb hby at_147) ?_
    show Steps p.tables e below (T65.setTop (mkF m 149 #[.val (.int p1), .unset, .unset, .unset, .unset] [(.int (21 : Int32)), (.ref b2), (.ref b2)])) _
    refine st67 _ ?_
    show Steps p.tables e below (T67.setTop (mkF m 152 #[.val (.int p1), .unset, .unset, .unset, .unset] [(.ref w_IMP), (.int (21 : Int32)), (.ref b2), (.ref b2)])) _
    refine st68 _ ?_
    show Steps p.tables e below (T68.setTop (mkF m 153 #[.val (.int p1), .unset, .unset, .unset, .unset] [(.ref b2)])) _
    refine XS.astoreN X68.here hx rfl (hb hby at_153) rfl rfl (l' := #[.val (.int p1), .val (.ref b2), .unset, .unset, .unset]) rfl ?_
    show Steps p.tables e below (T68.setTop (mkF m 154 #[.val (.int p1), .val (.ref b2), .unset, .unset, .unset] [])) _
    refine XS.iloadN X68.here hx rfl (hb hby at_154) rfl ?_
    show Steps p.tables e below (T68.setTop (mkF m 155 #[.val (.int p1), .val (.ref b2), .unset, .unset, .unset] [(.int p1)])) _
    refine X68.ldcInt hx hown (mvT hZ (hw _ (List.mem_of_getElem? (i := 48) rfl))) (g := (mkF m 155 #[.val (.int p1), .val (.ref b2), .unset, .unset, .unset] [(.int p1)])) rfl (hb hby at_155) _ ?_
    show Steps p.tables e below (T68.setTop (mkF m 157 #[.val (.int p1), .val (.ref b2), .unset, .unset, .unset] [(.int (2147483647 : Int32)), (.int p1)])) _
    refine XS.iand X68.here hx rfl (hb hby at_157) rfl ?_
    show Steps p.tables e below (T68.setTop (mkF m 158 #[.val (.int p1), .val (.ref b2), .unset, .unset, .unset] [(.int (p1 &&& (2147483647 : Int32)))])) _
    refine XS.bipush X68.here hx rfl (hb hby at_158) ?_
    show Steps p.tables e below (T68.setTop (mkF m 160 #[.val (.int p1), .val (.ref b2), .unset, .unset, .unset] [(.int (22 : Int32)), (.int (p1 &&& (2147483647 : Int32)))])) _
    refine iremM X68 hx rfl (hb hby at_160) rfl (by decide) ?_
    show Steps p.tables e below (T68.setTop (mkF m 161 #[.val (.int p1), .val (.ref b2), .unset, .unset, .unset] [(.int ((p1 &&& (2147483647 : Int32)) % (22 : Int32)))])) _
    refine XS.istoreN X68.here hx rfl (hb hby at_161) rfl (l' := #[.val (.int p1), .val (.ref b2), .val (.int ((p1 &&& (2147483647 : Int32)) % (22 : Int32))), .unset, .unset]) rfl ?_
    show Steps p.tables e below (T68.setTop (mkF m 162 #[.val (.int p1), .val (.ref b2), .val (.int ((p1 &&& (2147483647 : Int32)) % (22 : Int32))), .unset, .unset] [])) _
    refine XS.aloadN X68.here hx rfl (hb hby at_162) rfl rfl ?_
    show Steps p.tables e below (T68.setTop (mkF m 163 #[.val (.int p1), .val (.ref b2), .val (.int ((p1 &&& (2147483647 : Int32)) % (22 : Int32))), .unset, .unset] [(.ref b2)])) _
    refine XS.iloadN X68.here hx rfl (hb hby at_163) rfl ?_
    show Steps p.tables e below (T68.setTop (mkF m 164 #[.val (.int p1), .val (.ref b2), .val (.int ((p1 &&& (2147483647 : Int32)) % (22 : Int32))), .unset, .unset] [(.int ((p1 &&& (2147483647 : Int32)) % (22 : Int32))), (.ref b2)])) _
    refine X68.aaload hx (j := ((p1 &&& (2147483647 : Int32)) % (22 : Int32))) (v := (.ref wx)) (by rw [e68]; exact Ar_b2_164.1) (State.isArrayOf_alike hZ.alike Ar_b2_164.2.1) rfl Ar_b2_164.2.2 hin164 hat164 (g := (mkF m 164 #[.val (.int p1), .val (.ref b2), .val (.int ((p1 &&& (2147483647 : Int32)) % (22 : Int32))), .unset, .unset] [(.int ((p1 &&& (2147483647 : Int32)) % (22 : Int32))), (.ref b2)])) rfl rfl (hb hby at_164) _ ?_
    show Steps p.tables e below (T68.setTop (mkF m 165 #[.val (.int p1), .val (.ref b2), .val (.int ((p1 &&& (2147483647 : Int32)) % (22 : Int32))), .unset, .unset] [(.ref wx)])) _
    refine XS.astoreN X68.here hx rfl (hb hby at_165) rfl rfl (l' := #[.val (.int p1), .val (.ref b2), .val (.int ((p1 &&& (2147483647 : Int32)) % (22 : Int32))), .val (.ref wx), .unset]) rfl ?_
    show Steps p.tables e below (T68.setTop (mkF m 166 #[.val (.int p1), .val (.ref b2), .val (.int ((p1 &&& (2147483647 : Int32)) % (22 : Int32))), .val (.ref wx), .unset] [])) _
    refine XS.aloadN X68.here hx rfl (hb hby at_166) rfl rfl ?_
    show Steps p.tables e below (T68.setTop (mkF m 167 #[.val (.int p1), .val (.ref b2), .val (.int ((p1 &&& (2147483647 : Int32)) % (22 : Int32))), .val (.ref wx), .unset] [(.ref wx)])) _
    refine st69 _ ?_
    show Steps p.tables e below (T69.setTop (mkF m 170 #[.val (.int p1), .val (.ref b2), .val (.int ((p1 &&& (2147483647 : Int32)) % (22 : Int32))), .val (.ref wx), .unset] [(.ref w_LT), (.ref wx)])) _
    refine Jvm.RoadKit.acmp (g := (mkF m 170 #[.val (.int p1), .val (.ref b2), .val (.int ((p1 &&& (2147483647 : Int32)) % (22 : Int32))), .val (.ref wx), .unset] [(.ref w_LT), (.ref wx)])) X69 hx rfl rfl rfl (pc0 := 170) (pc' := 208) (same := true) rfl (hb hby at_170) rfl (decide_eq_true (congrArg Value.ref ha170)) (by decide) (by decide) ?_
    show Steps p.tables e below (T69.setTop (mkF m 208 #[.val (.int p1), .val (.ref b2), .val (.int ((p1 &&& (2147483647 : Int32)) % (22 : Int32))), .val (.ref wx), .unset] [])) _
    refine XS.iconst X69.here hx rfl (hb hby at_208) ?_
    show Steps p.tables e below (T69.setTop (mkF m 209 #[.val (.int p1), .val (.ref b2), .val (.int ((p1 &&& (2147483647 : Int32)) % (22 : Int32))), .val (.ref wx), .unset] [(.int (1 : Int32))])) _
    refine XS.goto X69.here hx rfl (pc0 := 209) (pc' := 213) rfl (hb hby at_209) (by decide) (by decide) ?_
    show Steps p.tables e below (T69.setTop (mkF m 213 #[.val (.int p1), .val (.ref b2), .val (.int ((p1 &&& (2147483647 : Int32)) % (22 : Int32))), .val (.ref wx), .unset] [(.int (1 : Int32))])) _
    refine XS.istore X69.here hx rfl (hb hby at_213) rfl (l' := #[.val (.int p1), .val (.ref b2), .val (.int ((p1 &&& (2147483647 : Int32)) % (22 : Int32))), .val (.ref wx), .val (.int (1 : Int32))]) rfl ?_
    show Steps p.tables e below (T69.setTop (mkF m 215 #[.val (.int p1), .val (.ref b2), .val (.int ((p1 &&& (2147483647 : Int32)) % (22 : Int32))), .val (.ref wx), .val (.int (1 : Int32))] [])) _
    refine XS.aloadN X69.here hx rfl (hb hby at_215) rfl rfl ?_
    show Steps p.tables e below (T69.setTop (mkF m 216 #[.val (.int p1), .val (.ref b2), .val (.int ((p1 &&& (2147483647 : Int32)) % (22 : Int32))), .val (.ref wx), .val (.int (1 : Int32))] [(.ref wx)])) _
    refine st70.trans ?_
    show Steps p.tables e below (T70.setTop (mkF m 219 #[.val (.int p1), .val (.ref b2), .val (.int ((p1 &&& (2147483647 : Int32)) % (22 : Int32))), .val (.ref wx), .val (.int (1 : Int32))] [(.int (1 : Int32))])) _
    refine XS.iload X70.here hx rfl (hb hby at_219) rfl ?_
    show Steps p.tables e below (T70.setTop (mkF m 221 #[.val (.int p1), .val (.ref b2), .val (.int ((p1 &&& (2147483647 : Int32)) % (22 : Int32))), .val (.ref wx), .val (.int (1 : Int32))] [(.int (1 : Int32)), (.int (1 : Int32))])) _
    refine XS.icmpNo X70.here hx rfl (hb hby at_221) rfl (teq hk221).2 ?_
    show Steps p.tables e below (T70.setTop (mkF m 224 #[.val (.int p1), .val (.ref b2), .val (.int ((p1 &&& (2147483647 : Int32)) % (22 : Int32))), .val (.ref wx), .val (.int (1 : Int32))] [])) _
    refine XS.iconst X70.here hx rfl (hb hby at_224) ?_
    show Steps p.tables e below (T70.setTop (mkF m 225 #[.val (.int p1), .val (.ref b2), .val (.int ((p1 &&& (2147483647 : Int32)) % (22 : Int32))), .val (.ref wx), .val (.int (1 : Int32))] [(.int (1 : Int32))])) _
    refine XS.goto X70.here hx rfl (pc0 := 225) (pc' := 229) rfl (hb hby at_225) (by decide) (by decide) ?_
    show Steps p.tables e below (T70.setTop (mkF m 229 #[.val (.int p1), .val (.ref b2), .val (.int ((p1 &&& (2147483647 : Int32)) % (22 : Int32))), .val (.ref wx), .val (.int (1 : Int32))] [(.int (1 : Int32))])) _
    exact retN X70 hx (t := .boolean) Bd.returns (by simp) (hb hby at_229) hr
  · show Q0 Z p1 h0 n0 _ T70.heap _
    exact ⟨rfl, N70⟩
set_option maxRecDepth 65536 in
set_option maxHeartbeats 40000000 in
theorem rm0_LE (l : Launch) (Z : State) (a0 : Array Value) (hw : ∀ d ∈ tables_1, d.before a0 Z = true) (ws : List Jvm.Cond) (p1 : Int32) (w_NEG : Addr) (w_ABS : Addr) (w_ADD : Addr) (w_SUB : Addr) (w_MUL : Addr) (w_DIV : Addr) (w_MOD : Addr) (w_DIST : Addr) (w_MIN : Addr) (w_MAX : Addr) (w_LT : Addr) (w_LE : Addr) (w_GE : Addr) (w_GT : Addr) (w_EQ : Addr) (w_NE : Addr) (w_NOT : Addr) (w_AND : Addr) (w_OR : Addr) (w_XOR : Addr) (w_IFF : Addr) (w_IMP : Addr) (wx : Addr) (wk : Addr) (w_COMPARISON : Addr) (h0 : Heap) (n0 : Nat) (Z0 : n0 ≤ h0.size) (S_NEG : Sta Z h0 "com/example/failfirst/failfirst/Operator" "NEG" "Lcom/example/failfirst/failfirst/Operator;" (.ref w_NEG)) (E_NEG : Exa Z h0 w_NEG "com/example/failfirst/failfirst/Operator") (S_ABS : Sta Z h0 "com/example/failfirst/failfirst/Operator" "ABS" "Lcom/example/failfirst/failfirst/Operator;" (.ref w_ABS)) (E_ABS : Exa Z h0 w_ABS "com/example/failfirst/failfirst/Operator") (S_ADD : Sta Z h0 "com/example/failfirst/failfirst/Operator" "ADD" "Lcom/example/failfirst/failfirst/Operator;" (.ref w_ADD)) (E_ADD : Exa Z h0 w_ADD "com/example/failfirst/failfirst/Operator") (S_SUB : Sta Z h0 "com/example/failfirst/failfirst/Operator" "SUB" "Lcom/example/failfirst/failfirst/Operator;" (.ref w_SUB)) (E_SUB : Exa Z h0 w_SUB "com/example/failfirst/failfirst/Operator") (S_MUL : Sta Z h0 "com/example/failfirst/failfirst/Operator" "MUL" "Lcom/example/failfirst/failfirst/Operator;" (.ref w_MUL)) (E_MUL : Exa Z h0 w_MUL "com/example/failfirst/failfirst/Operator") (S_DIV : Sta Z h0 "com/example/failfirst/failfirst/Operator" "DIV" "Lcom/example/failfirst/failfirst/Operator;" (.ref w_DIV)) (E_DIV : Exa Z h0 w_DIV "com/example/failfirst/failfirst/Operator") (S_MOD : Sta Z h0 "com/example/failfirst/failfirst/Operator" "MOD" "Lcom/example/failfirst/failfirst/Operator;" (.ref w_MOD)) (E_MOD : Exa Z h0 w_MOD "com/example/failfirst/failfirst/Operator") (S_DIST : Sta Z h0 "com/example/failfirst/failfirst/Operator" "DIST" "Lcom/example/failfirst/failfirst/Operator;" (.ref w_DIST)) (E_DIST : Exa Z h0 w_DIST "com/example/failfirst/failfirst/Operator") (S_MIN : Sta Z h0 "com/example/failfirst/failfirst/Operator" "MIN" "Lcom/example/failfirst/failfirst/Operator;" (.ref w_MIN)) (E_MIN : Exa Z h0 w_MIN "com/example/failfirst/failfirst/Operator") (S_MAX : Sta Z h0 "com/example/failfirst/failfirst/Operator" "MAX" "Lcom/example/failfirst/failfirst/Operator;" (.ref w_MAX)) (E_MAX : Exa Z h0 w_MAX "com/example/failfirst/failfirst/Operator") (S_LT : Sta Z h0 "com/example/failfirst/failfirst/Operator" "LT" "Lcom/example/failfirst/failfirst/Operator;" (.ref w_LT)) (E_LT : Exa Z h0 w_LT "com/example/failfirst/failfirst/Operator") (S_LE : Sta Z h0 "com/example/failfirst/failfirst/Operator" "LE" "Lcom/example/failfirst/failfirst/Operator;" (.ref w_LE)) (E_LE : Exa Z h0 w_LE "com/example/failfirst/failfirst/Operator") (S_GE : Sta Z h0 "com/example/failfirst/failfirst/Operator" "GE" "Lcom/example/failfirst/failfirst/Operator;" (.ref w_GE)) (E_GE : Exa Z h0 w_GE "com/example/failfirst/failfirst/Operator") (S_GT : Sta Z h0 "com/example/failfirst/failfirst/Operator" "GT" "Lcom/example/failfirst/failfirst/Operator;" (.ref w_GT)) (E_GT : Exa Z h0 w_GT "com/example/failfirst/failfirst/Operator") (S_EQ : Sta Z h0 "com/example/failfirst/failfirst/Operator" "EQ" "Lcom/example/failfirst/failfirst/Operator;" (.ref w_EQ)) (E_EQ : Exa Z h0 w_EQ "com/example/failfirst/failfirst/Operator") (S_NE : Sta Z h0 "com/example/failfirst/failfirst/Operator" "NE" "Lcom/example/failfirst/failfirst/Operator;" (.ref w_NE)) (E_NE : Exa Z h0 w_NE "com/example/failfirst/failfirst/Operator") (S_NOT : Sta Z h0 "com/example/failfirst/failfirst/Operator" "NOT" "Lcom/example/failfirst/failfirst/Operator;" (.ref w_NOT)) (E_NOT : Exa Z h0 w_NOT "com/example/failfirst/failfirst/Operator") (S_AND : Sta Z h0 "com/example/failfirst/failfirst/Operator" "AND" "Lcom/example/failfirst/failfirst/Operator;" (.ref w_AND)) (E_AND : Exa Z h0 w_AND "com/example/failfirst/failfirst/Operator") (S_OR : Sta Z h0 "com/example/failfirst/failfirst/Operator" "OR" "Lcom/example/failfirst/failfirst/Operator;" (.ref w_OR)) (E_OR : Exa Z h0 w_OR "com/example/failfirst/failfirst/Operator") (S_XOR : Sta Z h0 "com/example/failfirst/failfirst/Operator" "XOR" "Lcom/example/failfirst/failfirst/Operator;" (.ref w_XOR)) (E_XOR : Exa Z h0 w_XOR "com/example/failfirst/failfirst/Operator") (S_IFF : Sta Z h0 "com/example/failfirst/failfirst/Operator" "IFF" "Lcom/example/failfirst/failfirst/Operator;" (.ref w_IFF)) (E_IFF : Exa Z h0 w_IFF "com/example/failfirst/failfirst/Operator") (S_IMP : Sta Z h0 "com/example/failfirst/failfirst/Operator" "IMP" "Lcom/example/failfirst/failfirst/Operator;" (.ref w_IMP)) (E_IMP : Exa Z h0 w_IMP "com/example/failfirst/failfirst/Operator") (S_COMPARISON : Sta Z h0 "com/example/failfirst/failfirst/Operator$Kind" "COMPARISON" "Lcom/example/failfirst/failfirst/Operator$Kind;" (.ref w_COMPARISON)) (F_kind : Fld Z h0 wx "com/example/failfirst/failfirst/Operator" "kind" "Lcom/example/failfirst/failfirst/Operator$Kind;" (.ref wk)) (E_wx : Exa Z h0 wx "com/example/failfirst/failfirst/Operator") (hj0 : ¬ ((p1 &&& (2147483647 : Int32)) % (22 : Int32)) < 0) (hj1 : ((p1 &&& (2147483647 : Int32)) % (22 : Int32)) < (22 : Int32)) (hlt : (((p1 &&& (2147483647 : Int32)) % (22 : Int32))).toNatClampNeg < (22 : Int32).toNatClampNeg) (hsel : ([.ref w_NEG, .ref w_ABS, .ref w_ADD, .ref w_SUB, .ref w_MUL, .ref w_DIV, .ref w_MOD, .ref w_DIST, .ref w_MIN, .ref w_MAX, .ref w_LT, .ref w_LE, .ref w_GE, .ref w_GT, .ref w_EQ, .ref w_NE, .ref w_NOT, .ref w_AND, .ref w_OR, .ref w_XOR, .ref w_IFF, .ref w_IMP] : List Value).getD (((p1 &&& (2147483647 : Int32)) % (22 : Int32))).toNatClampNeg .null = .ref wx) (hkd : wk = w_COMPARISON) (ha170 : ¬ (wx = w_LT)) (ha177 : wx = w_LE) (hk221 : (1 : Int32) = (1 : Int32)) :
    MetFree l x (head1 (Jvm.Cond.code x code maxLocals ret :: ws) room_1) (fun a U => a = #[(.int p1)] ∧ Z.Warmed39 U.vm ∧ U.heap = h0) (fun _ _ _ _ _ => True) (fun _ U o U' => ∃ v L, o = .returned v ∧ Q0 Z p1 h0 n0 v U'.heap L ∧ FrameEnd U o U' L room_1.cells room_1.slots) := by
  refine MetFree.of_bodySF (plainFor_of_name pn_0) hisR ?_
  intro p e s m args below meth c s₁ Bd hml0 hP hK
  obtain ⟨rfl, hZ, hh⟩ := hP
  have hx := Bd.exec
  have hby := Bd.bytes
  have hml : c.maxLocals = 5 := hml0
  have hown : s.vm.findClass "com/example/failfirst/failfirst/OperatorChainsPinLaw" = some m.cls := findClass_of_methodNamed Bd.named
  have hnm := (name_of_methodNamed Bd.named Bd.method).1
  have X0 : Stand p l e room_1 s m #[(.int p1)] below meth c s₁ [] 0 0 := Stand.of_body Bd
  have e0 : s₁.heap = h0 := by rw [← hh, Bd.state]; rfl
  have N0 := Fr.nil n0
  have pre0 : ∀ t, Steps p.tables e below (s₁.setTop (mkF m 0 #[.val (.int p1), .unset, .unset, .unset, .unset] [])) t → Steps p.tables e below (s₁.setTop (entryFrame m #[(.int p1)] maxLocals)) t := fun t k => castTop (ef_0 m p1) k
  obtain ⟨T2, h2, k2, X2, e2, E2, A2, O2, st2⟩ := newR X0 hx hZ hown (hw _ (List.mem_of_getElem? (i := 0) rfl)) (hw _ (List.mem_of_getElem? (i := 1) rfl)) e0 (g := (mkF m 2 #[.val (.int p1), .unset, .unset, .unset, .unset] [(.int (22 : Int32))])) rfl (hb hby at_2) rfl (by decide) (cap := 22) (by decide) (by decide) (by decide) (by decide)
  obtain ⟨b2, g2⟩ : ∃ z, z = h0.size := ⟨_, rfl⟩
  rw [← g2] at A2 st2
  have V_b2 : Arv Z h2 b2 k2 (.object "com/example/failfirst/failfirst/Operator") (22 : Int32) [.null, .null, .null, .null, .null, .null, .null, .null, .null, .null, .null, .null, .null, .null, .null, .null, .null, .null, .null, .null, .null, .null] .null := (Arv.new A2 (by decide)).pad (pad_rep [] .null 22)
  have g_b2 : n0 ≤ b2 := Nat.le_trans Z0 (Nat.le_of_eq g2.symm)
  have sz_b2 : h0.size ≤ b2 := (Nat.le_trans (Keep.refl h0 []).1 (Nat.le_of_eq g2.symm))
  have K2 : Keep h0 h2 [] := (Keep.refl h0 []).ext E2
  obtain ⟨T4, X4, e4, st4⟩ := getS2 X2 hx hZ hown (host := "") (Or.inl (hw _ (List.mem_of_getElem? (i := 2) rfl))) Via.refl e2 (S_NEG.ext E2) (g := (mkF m 7 #[.val (.int p1), .unset, .unset, .unset, .unset] [(.int (0 : Int32)), (.ref b2), (.ref b2)])) rfl (hb hby at_7)
  obtain ⟨cl_b2_10, Ar_b2, q_b2, S_b2, N_b2, H_b2, G_b2⟩ := V_b2
  have hin10 : ¬ ((0 : Int32) < 0 ∨ cl_b2_10.slots.size ≤ ((0 : Int32)).toNatClampNeg) := inb_of S_b2 ⟨by decide, by decide⟩
  have Sto10 : Sto Z h2 b2 (.ref w_NEG) := Sto.ofV Ar_b2 q_b2 O2 (Ins.self (E_NEG.ext E2))
  obtain ⟨T5, h5, X5, e5, W5, st5⟩ := stR X4 hx hZ e4 Ar_b2 (j := (0 : Int32)) hin10 rfl Sto10 (g := (mkF m 10 #[.val (.int p1), .unset, .unset, .unset, .unset] [(.ref w_NEG), (.int (0 : Int32)), (.ref b2), (.ref b2)])) rfl rfl (hb hby at_10)
  have V_b2_5 : Arv Z h5 b2 k2 (.object "com/example/failfirst/failfirst/Operator") (22 : Int32) [(.ref w_NEG), .null, .null, .null, .null, .null, .null, .null, .null, .null, .null, .null, .null, .null, .null, .null, .null, .null, .null, .null, .null, .null] .null := Arv.set Ar_b2 q_b2 S_b2 N_b2 H_b2 G_b2 rfl W5 0 rfl (Nat.le_of_ble_eq_true rfl)
  have K5 : Keep h0 h5 [] := K2.wr W5 (Or.inr sz_b2)
  have N5 := Fr.snoc X5 N0 g_b2
  obtain ⟨T7, X7, e7, st7⟩ := getS2 X5 hx hZ hown (host := "") (Or.inl (hw _ (List.mem_of_getElem? (i := 6) rfl))) Via.refl e5 ((S_ABS.ext E2).wr W5) (g := (mkF m 13 #[.val (.int p1), .unset, .unset, .unset, .unset] [(.int (1 : Int32)), (.ref b2), (.ref b2)])) rfl (hb hby at_13)
  obtain ⟨cl_b2_16, Ar_b2, q_b2, S_b2, N_b2, H_b2, G_b2⟩ := V_b2_5
  have hin16 : ¬ ((1 : Int32) < 0 ∨ cl_b2_16.slots.size ≤ ((1 : Int32)).toNatClampNeg) := inb_of S_b2 ⟨by decide, by decide⟩
  have Sto16 : Sto Z h5 b2 (.ref w_ABS) := Sto.ofV Ar_b2 q_b2 O2 (Ins.self ((E_ABS.ext E2).wr W5))
  obtain ⟨T8, h8, X8, e8, W8, st8⟩ := stR X7 hx hZ e7 Ar_b2 (j := (1 : Int32)) hin16 rfl Sto16 (g := (mkF m 16 #[.val (.int p1), .unset, .unset, .unset, .unset] [(.ref w_ABS), (.int (1 : Int32)), (.ref b2), (.ref b2)])) rfl rfl (hb hby at_16)
  have V_b2_8 : Arv Z h8 b2 k2 (.object "com/example/failfirst/failfirst/Operator") (22 : Int32) [(.ref w_NEG), (.ref w_ABS), .null, .null, .null, .null, .null, .null, .null, .null, .null, .null, .null, .null, .null, .null, .null, .null, .null, .null, .null, .null] .null := Arv.set Ar_b2 q_b2 S_b2 N_b2 H_b2 G_b2 rfl W8 1 rfl (Nat.le_of_ble_eq_true rfl)
  have K8 : Keep h0 h8 [] := K5.wr W8 (Or.inr sz_b2)
  have N8 := Fr.snoc X8 N5 g_b2
  obtain ⟨T10, X10, e10, st10⟩ := getS2 X8 hx hZ hown (host := "") (Or.inl (hw _ (List.mem_of_getElem? (i := 8) rfl))) Via.refl e8 (((S_ADD.ext E2).wr W5).wr W8) (g := (mkF m 19 #[.val (.int p1), .unset, .unset, .unset, .unset] [(.int (2 : Int32)), (.ref b2), (.ref b2)])) rfl (hb hby at_19)
  obtain ⟨cl_b2_22, Ar_b2, q_b2, S_b2, N_b2, H_b2, G_b2⟩ := V_b2_8
  have hin22 : ¬ ((2 : Int32) < 0 ∨ cl_b2_22.slots.size ≤ ((2 : Int32)).toNatClampNeg) := inb_of S_b2 ⟨by decide, by decide⟩
  have Sto22 : Sto Z h8 b2 (.ref w_ADD) := Sto.ofV Ar_b2 q_b2 O2 (Ins.self (((E_ADD.ext E2).wr W5).wr W8))
  obtain ⟨T11, h11, X11, e11, W11, st11⟩ := stR X10 hx hZ e10 Ar_b2 (j := (2 : Int32)) hin22 rfl Sto22 (g := (mkF m 22 #[.val (.int p1), .unset, .unset, .unset, .unset] [(.ref w_ADD), (.int (2 : Int32)), (.ref b2), (.ref b2)])) rfl rfl (hb hby at_22)
  have V_b2_11 : Arv Z h11 b2 k2 (.object "com/example/failfirst/failfirst/Operator") (22 : Int32) [(.ref w_NEG), (.ref w_ABS), (.ref w_ADD), .null, .null, .null, .null, .null, .null, .null, .null, .null, .null, .null, .null, .null, .null, .null, .null, .null, .null, .null] .null := Arv.set Ar_b2 q_b2 S_b2 N_b2 H_b2 G_b2 rfl W11 2 rfl (Nat.le_of_ble_eq_true rfl)
  have K11 : Keep h0 h11 [] := K8.wr W11 (Or.inr sz_b2)
  have N11 := Fr.snoc X11 N8 g_b2
  obtain ⟨T13, X13, e13, st13⟩ := getS2 X11 hx hZ hown (host := "") (Or.inl (hw _ (List.mem_of_getElem? (i := 10) rfl))) Via.refl e11 ((((S_SUB.ext E2).wr W5).wr W8).wr W11) (g := (mkF m 25 #[.val (.int p1), .unset, .unset, .unset, .unset] [(.int (3 : Int32)), (.ref b2), (.ref b2)])) rfl (hb hby at_25)
  obtain ⟨cl_b2_28, Ar_b2, q_b2, S_b2, N_b2, H_b2, G_b2⟩ := V_b2_11
  have hin28 : ¬ ((3 : Int32) < 0 ∨ cl_b2_28.slots.size ≤ ((3 : Int32)).toNatClampNeg) := inb_of S_b2 ⟨by decide, by decide⟩
  have Sto28 : Sto Z h11 b2 (.ref w_SUB) := Sto.ofV Ar_b2 q_b2 O2 (Ins.self ((((E_SUB.ext E2).wr W5).wr W8).wr W11))
  obtain ⟨T14, h14, X14, e14, W14, st14⟩ := stR X13 hx hZ e13 Ar_b2 (j := (3 : Int32)) hin28 rfl Sto28 (g := (mkF m 28 #[.val (.int p1), .unset, .unset, .unset, .unset] [(.ref w_SUB), (.int (3 : Int32)), (.ref b2), (.ref b2)])) rfl rfl (hb hby at_28)
  have V_b2_14 : Arv Z h14 b2 k2 (.object "com/example/failfirst/failfirst/Operator") (22 : Int32) [(.ref w_NEG), (.ref w_ABS), (.ref w_ADD), (.ref w_SUB), .null, .null, .null, .null, .null, .null, .null, .null, .null, .null, .null, .null, .null, .null, .null, .null, .null, .null] .null := Arv.set Ar_b2 q_b2 S_b2 N_b2 H_b2 G_b2 rfl W14 3 rfl (Nat.le_of_ble_eq_true rfl)
  have K14 : Keep h0 h14 [] := K11.wr W14 (Or.inr sz_b2)
  have N14 := Fr.snoc X14 N11 g_b2
  obtain ⟨T16, X16, e16, st16⟩ := getS2 X14 hx hZ hown (host := "") (Or.inl (hw _ (List.mem_of_getElem? (i := 12) rfl))) Via.refl e14 (((((S_MUL.ext E2).wr W5).wr W8).wr W11).wr W14) (g := (mkF m 31 #[.val (.int p1), .unset, .unset, .unset, .unset] [(.int (4 : Int32)), (.ref b2), (.ref b2)])) rfl (hb hby at_31)
  obtain ⟨cl_b2_34, Ar_b2, q_b2, S_b2, N_b2, H_b2, G_b2⟩ := V_b2_14
  have hin34 : ¬ ((4 : Int32) < 0 ∨ cl_b2_34.slots.size ≤ ((4 : Int32)).toNatClampNeg) := inb_of S_b2 ⟨by decide, by decide⟩
  have Sto34 : Sto Z h14 b2 (.ref w_MUL) := Sto.ofV Ar_b2 q_b2 O2 (Ins.self (((((E_MUL.ext E2).wr W5).wr W8).wr W11).wr W14))
  obtain ⟨T17, h17, X17, e17, W17, st17⟩ := stR X16 hx hZ e16 Ar_b2 (j := (4 : Int32)) hin34 rfl Sto34 (g := (mkF m 34 #[.val (.int p1), .unset, .unset, .unset, .unset] [(.ref w_MUL), (.int (4 : Int32)), (.ref b2), (.ref b2)])) rfl rfl (hb hby at_34)
  have V_b2_17 : Arv Z h17 b2 k2 (.object "com/example/failfirst/failfirst/Operator") (22 : Int32) [(.ref w_NEG), (.ref w_ABS), (.ref w_ADD), (.ref w_SUB), (.ref w_MUL), .null, .null, .null, .null, .null, .null, .null, .null, .null, .null, .null, .null, .null, .null, .null, .null, .null] .null := Arv.set Ar_b2 q_b2 S_b2 N_b2 H_b2 G_b2 rfl W17 4 rfl (Nat.le_of_ble_eq_true rfl)
  have K17 : Keep h0 h17 [] := K14.wr W17 (Or.inr sz_b2)
  have N17 := Fr.snoc X17 N14 g_b2
  obtain ⟨T19, X19, e19, st19⟩ := getS2 X17 hx hZ hown (host := "") (Or.inl (hw _ (List.mem_of_getElem? (i := 14) rfl))) Via.refl e17 ((((((S_DIV.ext E2).wr W5).wr W8).wr W11).wr W14).wr W17) (g := (mkF m 37 #[.val (.int p1), .unset, .unset, .unset, .unset] [(.int (5 : Int32)), (.ref b2), (.ref b2)])) rfl (hb hby at_37)
  obtain ⟨cl_b2_40, Ar_b2, q_b2, S_b2, N_b2, H_b2, G_b2⟩ := V_b2_17
  have hin40 : ¬ ((5 : Int32) < 0 ∨ cl_b2_40.slots.size ≤ ((5 : Int32)).toNatClampNeg) := inb_of S_b2 ⟨by decide, by decide⟩
  have Sto40 : Sto Z h17 b2 (.ref w_DIV) := Sto.ofV Ar_b2 q_b2 O2 (Ins.self ((((((E_DIV.ext E2).wr W5).wr W8).wr W11).wr W14).wr W17))
  obtain ⟨T20, h20, X20, e20, W20, st20⟩ := stR X19 hx hZ e19 Ar_b2 (j := (5 : Int32)) hin40 rfl Sto40 (g := (mkF m 40 #[.val (.int p1), .unset, .unset, .unset, .unset] [(.ref w_DIV), (.int (5 : Int32)), (.ref b2), (.ref b2)])) rfl rfl (hb hby at_40)
  have V_b2_20 : Arv Z h20 b2 k2 (.object "com/example/failfirst/failfirst/Operator") (22 : Int32) [(.ref w_NEG), (.ref w_ABS), (.ref w_ADD), (.ref w_SUB), (.ref w_MUL), (.ref w_DIV), .null, .null, .null, .null, .null, .null, .null, .null, .null, .null, .null, .null, .null, .null, .null, .null] .null := Arv.set Ar_b2 q_b2 S_b2 N_b2 H_b2 G_b2 rfl W20 5 rfl (Nat.le_of_ble_eq_true rfl)
  have K20 : Keep h0 h20 [] := K17.wr W20 (Or.inr sz_b2)
  have N20 := Fr.snoc X20 N17 g_b2
  obtain ⟨T22, X22, e22, st22⟩ := getS2 X20 hx hZ hown (host := "") (Or.inl (hw _ (List.mem_of_getElem? (i := 16) rfl))) Via.refl e20 (((((((S_MOD.ext E2).wr W5).wr W8).wr W11).wr W14).wr W17).wr W20) (g := (mkF m 44 #[.val (.int p1), .unset, .unset, .unset, .unset] [(.int (6 : Int32)), (.ref b2), (.ref b2)])) rfl (hb hby at_44)
  obtain ⟨cl_b2_47, Ar_b2, q_b2, S_b2, N_b2, H_b2, G_b2⟩ := V_b2_20
  have hin47 : ¬ ((6 : Int32) < 0 ∨ cl_b2_47.slots.size ≤ ((6 : Int32)).toNatClampNeg) := inb_of S_b2 ⟨by decide, by decide⟩
  have Sto47 : Sto Z h20 b2 (.ref w_MOD) := Sto.ofV Ar_b2 q_b2 O2 (Ins.self (((((((E_MOD.ext E2).wr W5).wr W8).wr W11).wr W14).wr W17).wr W20))
  obtain ⟨T23, h23, X23, e23, W23, st23⟩ := stR X22 hx hZ e22 Ar_b2 (j := (6 : Int32)) hin47 rfl Sto47 (g := (mkF m 47 #[.val (.int p1), .unset, .unset, .unset, .unset] [(.ref w_MOD), (.int (6 : Int32)), (.ref b2), (.ref b2)])) rfl rfl (hb hby at_47)
  have V_b2_23 : Arv Z h23 b2 k2 (.object "com/example/failfirst/failfirst/Operator") (22 : Int32) [(.ref w_NEG), (.ref w_ABS), (.ref w_ADD), (.ref w_SUB), (.ref w_MUL), (.ref w_DIV), (.ref w_MOD), .null, .null, .null, .null, .null, .null, .null, .null, .null, .null, .null, .null, .null, .null, .null] .null := Arv.set Ar_b2 q_b2 S_b2 N_b2 H_b2 G_b2 rfl W23 6 rfl (Nat.le_of_ble_eq_true rfl)
  have K23 : Keep h0 h23 [] := K20.wr W23 (Or.inr sz_b2)
  have N23 := Fr.snoc X23 N20 g_b2
  obtain ⟨T25, X25, e25, st25⟩ := getS2 X23 hx hZ hown (host := "") (Or.inl (hw _ (List.mem_of_getElem? (i := 18) rfl))) Via.refl e23 ((((((((S_DIST.ext E2).wr W5).wr W8).wr W11).wr W14).wr W17).wr W20).wr W23) (g := (mkF m 51 #[.val (.int p1), .unset, .unset, .unset, .unset] [(.int (7 : Int32)), (.ref b2), (.ref b2)])) rfl (hb hby at_51)
  obtain ⟨cl_b2_54, Ar_b2, q_b2, S_b2, N_b2, H_b2, G_b2⟩ := V_b2_23
  have hin54 : ¬ ((7 : Int32) < 0 ∨ cl_b2_54.slots.size ≤ ((7 : Int32)).toNatClampNeg) := inb_of S_b2 ⟨by decide, by decide⟩
  have Sto54 : Sto Z h23 b2 (.ref w_DIST) := Sto.ofV Ar_b2 q_b2 O2 (Ins.self ((((((((E_DIST.ext E2).wr W5).wr W8).wr W11).wr W14).wr W17).wr W20).wr W23))
  obtain ⟨T26, h26, X26, e26, W26, st26⟩ := stR X25 hx hZ e25 Ar_b2 (j := (7 : Int32)) hin54 rfl Sto54 (g := (mkF m 54 #[.val (.int p1), .unset, .unset, .unset, .unset] [(.ref w_DIST), (.int (7 : Int32)), (.ref b2), (.ref b2)])) rfl rfl (hb hby at_54)
  have V_b2_26 : Arv Z h26 b2 k2 (.object "com/example/failfirst/failfirst/Operator") (22 : Int32) [(.ref w_NEG), (.ref w_ABS), (.ref w_ADD), (.ref w_SUB), (.ref w_MUL), (.ref w_DIV), (.ref w_MOD), (.ref w_DIST), .null, .null, .null, .null, .null, .null, .null, .null, .null, .null, .null, .null, .null, .null] .null := Arv.set Ar_b2 q_b2 S_b2 N_b2 H_b2 G_b2 rfl W26 7 rfl (Nat.le_of_ble_eq_true rfl)
  have K26 : Keep h0 h26 [] := K23.wr W26 (Or.inr sz_b2)
  have N26 := Fr.snoc X26 N23 g_b2
  obtain ⟨T28, X28, e28, st28⟩ := getS2 X26 hx hZ hown (host := "") (Or.inl (hw _ (List.mem_of_getElem? (i := 20) rfl))) Via.refl e26 (((((((((S_MIN.ext E2).wr W5).wr W8).wr W11).wr W14).wr W17).wr W20).wr W23).wr W26) (g := (mkF m 58 #[.val (.int p1), .unset, .unset, .unset, .unset] [(.int (8 : Int32)), (.ref b2), (.ref b2)])) rfl (hb hby at_58)
  obtain ⟨cl_b2_61, Ar_b2, q_b2, S_b2, N_b2, H_b2, G_b2⟩ := V_b2_26
  have hin61 : ¬ ((8 : Int32) < 0 ∨ cl_b2_61.slots.size ≤ ((8 : Int32)).toNatClampNeg) := inb_of S_b2 ⟨by decide, by decide⟩
  have Sto61 : Sto Z h26 b2 (.ref w_MIN) := Sto.ofV Ar_b2 q_b2 O2 (Ins.self (((((((((E_MIN.ext E2).wr W5).wr W8).wr W11).wr W14).wr W17).wr W20).wr W23).wr W26))
  obtain ⟨T29, h29, X29, e29, W29, st29⟩ := stR X28 hx hZ e28 Ar_b2 (j := (8 : Int32)) hin61 rfl Sto61 (g := (mkF m 61 #[.val (.int p1), .unset, .unset, .unset, .unset] [(.ref w_MIN), (.int (8 : Int32)), (.ref b2), (.ref b2)])) rfl rfl (hb hby at_61)
  have V_b2_29 : Arv Z h29 b2 k2 (.object "com/example/failfirst/failfirst/Operator") (22 : Int32) [(.ref w_NEG), (.ref w_ABS), (.ref w_ADD), (.ref w_SUB), (.ref w_MUL), (.ref w_DIV), (.ref w_MOD), (.ref w_DIST), (.ref w_MIN), .null, .null, .null, .null, .null, .null, .null, .null, .null, .null, .null, .null, .null] .null := Arv.set Ar_b2 q_b2 S_b2 N_b2 H_b2 G_b2 rfl W29 8 rfl (Nat.le_of_ble_eq_true rfl)
  have K29 : Keep h0 h29 [] := K26.wr W29 (Or.inr sz_b2)
  have N29 := Fr.snoc X29 N26 g_b2
  obtain ⟨T31, X31, e31, st31⟩ := getS2 X29 hx hZ hown (host := "") (Or.inl (hw _ (List.mem_of_getElem? (i := 22) rfl))) Via.refl e29 ((((((((((S_MAX.ext E2).wr W5).wr W8).wr W11).wr W14).wr W17).wr W20).wr W23).wr W26).wr W29) (g := (mkF m 65 #[.val (.int p1), .unset, .unset, .unset, .unset] [(.int (9 : Int32)), (.ref b2), (.ref b2)])) rfl (hb hby at_65)
  obtain ⟨cl_b2_68, Ar_b2, q_b2, S_b2, N_b2, H_b2, G_b2⟩ := V_b2_29
  have hin68 : ¬ ((9 : Int32) < 0 ∨ cl_b2_68.slots.size ≤ ((9 : Int32)).toNatClampNeg) := inb_of S_b2 ⟨by decide, by decide⟩
  have Sto68 : Sto Z h29 b2 (.ref w_MAX) := Sto.ofV Ar_b2 q_b2 O2 (Ins.self ((((((((((E_MAX.ext E2).wr W5).wr W8).wr W11).wr W14).wr W17).wr W20).wr W23).wr W26).wr W29))
  obtain ⟨T32, h32, X32, e32, W32, st32⟩ := stR X31 hx hZ e31 Ar_b2 (j := (9 : Int32)) hin68 rfl Sto68 (g := (mkF m 68 #[.val (.int p1), .unset, .unset, .unset, .unset] [(.ref w_MAX), (.int (9 : Int32)), (.ref b2), (.ref b2)])) rfl rfl (hb hby at_68)
  have V_b2_32 : Arv Z h32 b2 k2 (.object "com/example/failfirst/failfirst/Operator") (22 : Int32) [(.ref w_NEG), (.ref w_ABS), (.ref w_ADD), (.ref w_SUB), (.ref w_MUL), (.ref w_DIV), (.ref w_MOD), (.ref w_DIST), (.ref w_MIN), (.ref w_MAX), .null, .null, .null, .null, .null, .null, .null, .null, .null, .null, .null, .null] .null := Arv.set Ar_b2 q_b2 S_b2 N_b2 H_b2 G_b2 rfl W32 9 rfl (Nat.le_of_ble_eq_true rfl)
  have K32 : Keep h0 h32 [] := K29.wr W32 (Or.inr sz_b2)
  have N32 := Fr.snoc X32 N29 g_b2
  obtain ⟨T34, X34, e34, st34⟩ := getS2 X32 hx hZ hown (host := "") (Or.inl (hw _ (List.mem_of_getElem? (i := 24) rfl))) Via.refl e32 (((((((((((S_LT.ext E2).wr W5).wr W8).wr W11).wr W14).wr W17).wr W20).wr W23).wr W26).wr W29).wr W32) (g := (mkF m 72 #[.val (.int p1), .unset, .unset, .unset, .unset] [(.int (10 : Int32)), (.ref b2), (.ref b2)])) rfl (hb hby at_72)
  obtain ⟨cl_b2_75, Ar_b2, q_b2, S_b2, N_b2, H_b2, G_b2⟩ := V_b2_32
  have hin75 : ¬ ((10 : Int32) < 0 ∨ cl_b2_75.slots.size ≤ ((10 : Int32)).toNatClampNeg) := inb_of S_b2 ⟨by decide, by decide⟩
  have Sto75 : Sto Z h32 b2 (.ref w_LT) := Sto.ofV Ar_b2 q_b2 O2 (Ins.self (((((((((((E_LT.ext E2).wr W5).wr W8).wr W11).wr W14).wr W17).wr W20).wr W23).wr W26).wr W29).wr W32))
  obtain ⟨T35, h35, X35, e35, W35, st35⟩ := stR X34 hx hZ e34 Ar_b2 (j := (10 : Int32)) hin75 rfl Sto75 (g := (mkF m 75 #[.val (.int p1), .unset, .unset, .unset, .unset] [(.ref w_LT), (.int (10 : Int32)), (.ref b2), (.ref b2)])) rfl rfl (hb hby at_75)
  have V_b2_35 : Arv Z h35 b2 k2 (.object "com/example/failfirst/failfirst/Operator") (22 : Int32) [(.ref w_NEG), (.ref w_ABS), (.ref w_ADD), (.ref w_SUB), (.ref w_MUL), (.ref w_DIV), (.ref w_MOD), (.ref w_DIST), (.ref w_MIN), (.ref w_MAX), (.ref w_LT), .null, .null, .null, .null, .null, .null, .null, .null, .null, .null, .null] .null := Arv.set Ar_b2 q_b2 S_b2 N_b2 H_b2 G_b2 rfl W35 10 rfl (Nat.le_of_ble_eq_true rfl)
  have K35 : Keep h0 h35 [] := K32.wr W35 (Or.inr sz_b2)
  have N35 := Fr.snoc X35 N32 g_b2
  obtain ⟨T37, X37, e37, st37⟩ := getS2 X35 hx hZ hown (host := "") (Or.inl (hw _ (List.mem_of_getElem? (i := 26) rfl))) Via.refl e35 ((((((((((((S_LE.ext E2).wr W5).wr W8).wr W11).wr W14).wr W17).wr W20).wr W23).wr W26).wr W29).wr W32).wr W35) (g := (mkF m 79 #[.val (.int p1), .unset, .unset, .unset, .unset] [(.int (11 : Int32)), (.ref b2), (.ref b2)])) rfl (hb hby at_79)
  obtain ⟨cl_b2_82, Ar_b2, q_b2, S_b2, N_b2, H_b2, G_b2⟩ := V_b2_35
  have hin82 : ¬ ((11 : Int32) < 0 ∨ cl_b2_82.slots.size ≤ ((11 : Int32)).toNatClampNeg) := inb_of S_b2 ⟨by decide, by decide⟩
  have Sto82 : Sto Z h35 b2 (.ref w_LE) := Sto.ofV Ar_b2 q_b2 O2 (Ins.self ((((((((((((E_LE.ext E2).wr W5).wr W8).wr W11).wr W14).wr W17).wr W20).wr W23).wr W26).wr W29).wr W32).wr W35))
  obtain ⟨T38, h38, X38, e38, W38, st38⟩ := stR X37 hx hZ e37 Ar_b2 (j := (11 : Int32)) hin82 rfl Sto82 (g := (mkF m 82 #[.val (.int p1), .unset, .unset, .unset, .unset] [(.ref w_LE), (.int (11 : Int32)), (.ref b2), (.ref b2)])) rfl rfl (hb hby at_82)
  have V_b2_38 : Arv Z h38 b2 k2 (.object "com/example/failfirst/failfirst/Operator") (22 : Int32) [(.ref w_NEG), (.ref w_ABS), (.ref w_ADD), (.ref w_SUB), (.ref w_MUL), (.ref w_DIV), (.ref w_MOD), (.ref w_DIST), (.ref w_MIN), (.ref w_MAX), (.ref w_LT), (.ref w_LE), .null, .null, .null, .null, .null, .null, .null, .null, .null, .null] .null := Arv.set Ar_b2 q_b2 S_b2 N_b2 H_b2 G_b2 rfl W38 11 rfl (Nat.le_of_ble_eq_true rfl)
  have K38 : Keep h0 h38 [] := K35.wr W38 (Or.inr sz_b2)
  have N38 := Fr.snoc X38 N35 g_b2
  obtain ⟨T40, X40, e40, st40⟩ := getS2 X38 hx hZ hown (host := "") (Or.inl (hw _ (List.mem_of_getElem? (i := 28) rfl))) Via.refl e38 (((((((((((((S_GE.ext E2).wr W5).wr W8).wr W11).wr W14).wr W17).wr W20).wr W23).wr W26).wr W29).wr W32).wr W35).wr W38) (g := (mkF m 86 #[.val (.int p1), .unset, .unset, .unset, .unset] [(.int (12 : Int32)), (.ref b2), (.ref b2)])) rfl (hb hby at_86)
  obtain ⟨cl_b2_89, Ar_b2, q_b2, S_b2, N_b2, H_b2, G_b2⟩ := V_b2_38
  have hin89 : ¬ ((12 : Int32) < 0 ∨ cl_b2_89.slots.size ≤ ((12 : Int32)).toNatClampNeg) := inb_of S_b2 ⟨by decide, by decide⟩
  have Sto89 : Sto Z h38 b2 (.ref w_GE) := Sto.ofV Ar_b2 q_b2 O2 (Ins.self (((((((((((((E_GE.ext E2).wr W5).wr W8).wr W11).wr W14).wr W17).wr W20).wr W23).wr W26).wr W29).wr W32).wr W35).wr W38))
  obtain ⟨T41, h41, X41, e41, W41, st41⟩ := stR X40 hx hZ e40 Ar_b2 (j := (12 : Int32)) hin89 rfl Sto89 (g := (mkF m 89 #[.val (.int p1), .unset, .unset, .unset, .unset] [(.ref w_GE), (.int (12 : Int32)), (.ref b2), (.ref b2)])) rfl rfl (hb hby at_89)
  have V_b2_41 : Arv Z h41 b2 k2 (.object "com/example/failfirst/failfirst/Operator") (22 : Int32) [(.ref w_NEG), (.ref w_ABS), (.ref w_ADD), (.ref w_SUB), (.ref w_MUL), (.ref w_DIV), (.ref w_MOD), (.ref w_DIST), (.ref w_MIN), (.ref w_MAX), (.ref w_LT), (.ref w_LE), (.ref w_GE), .null, .null, .null, .null, .null, .null, .null, .null, .null] .null := Arv.set Ar_b2 q_b2 S_b2 N_b2 H_b2 G_b2 rfl W41 12 rfl (Nat.le_of_ble_eq_true rfl)
  have K41 : Keep h0 h41 [] := K38.wr W41 (Or.inr sz_b2)
  have N41 := Fr.snoc X41 N38 g_b2
  obtain ⟨T43, X43, e43, st43⟩ := getS2 X41 hx hZ hown (host := "") (Or.inl (hw _ (List.mem_of_getElem? (i := 30) rfl))) Via.refl e41 ((((((((((((((S_GT.ext E2).wr W5).wr W8).wr W11).wr W14).wr W17).wr W20).wr W23).wr W26).wr W29).wr W32).wr W35).wr W38).wr W41) (g := (mkF m 93 #[.val (.int p1), .unset, .unset, .unset, .unset] [(.int (13 : Int32)), (.ref b2), (.ref b2)])) rfl (hb hby at_93)
  obtain ⟨cl_b2_96, Ar_b2, q_b2, S_b2, N_b2, H_b2, G_b2⟩ := V_b2_41
  have hin96 : ¬ ((13 : Int32) < 0 ∨ cl_b2_96.slots.size ≤ ((13 : Int32)).toNatClampNeg) := inb_of S_b2 ⟨by decide, by decide⟩
  have Sto96 : Sto Z h41 b2 (.ref w_GT) := Sto.ofV Ar_b2 q_b2 O2 (Ins.self ((((((((((((((E_GT.ext E2).wr W5).wr W8).wr W11).wr W14).wr W17).wr W20).wr W23).wr W26).wr W29).wr W32).wr W35).wr W38).wr W41))
  obtain ⟨T44, h44, X44, e44, W44, st44⟩ := stR X43 hx hZ e43 Ar_b2 (j := (13 : Int32)) hin96 rfl Sto96 (g := (mkF m 96 #[.val (.int p1), .unset, .unset, .unset, .unset] [(.ref w_GT), (.int (13 : Int32)), (.ref b2), (.ref b2)])) rfl rfl (hb hby at_96)
  have V_b2_44 : Arv Z h44 b2 k2 (.object "com/example/failfirst/failfirst/Operator") (22 : Int32) [(.ref w_NEG), (.ref w_ABS), (.ref w_ADD), (.ref w_SUB), (.ref w_MUL), (.ref w_DIV), (.ref w_MOD), (.ref w_DIST), (.ref w_MIN), (.ref w_MAX), (.ref w_LT), (.ref w_LE), (.ref w_GE), (.ref w_GT), .null, .null, .null, .null, .null, .null, .null, .null] .null := Arv.set Ar_b2 q_b2 S_b2 N_b2 H_b2 G_b2 rfl W44 13 rfl (Nat.le_of_ble_eq_true rfl)
  have K44 : Keep h0 h44 [] := K41.wr W44 (Or.inr sz_b2)
  have N44 := Fr.snoc X44 N41 g_b2
  obtain ⟨T46, X46, e46, st46⟩ := getS2 X44 hx hZ hown (host := "") (Or.inl (hw _ (List.mem_of_getElem? (i := 32) rfl))) Via.refl e44 (((((((((((((((S_EQ.ext E2).wr W5).wr W8).wr W11).wr W14).wr W17).wr W20).wr W23).wr W26).wr W29).wr W32).wr W35).wr W38).wr W41).wr W44) (g := (mkF m 100 #[.val (.int p1), .unset, .unset, .unset, .unset] [(.int (14 : Int32)), (.ref b2), (.ref b2)])) rfl (hb hby at_100)
  obtain ⟨cl_b2_103, Ar_b2, q_b2, S_b2, N_b2, H_b2, G_b2⟩ := V_b2_44
  have hin103 : ¬ ((14 : Int32) < 0 ∨ cl_b2_103.slots.size ≤ ((14 : Int32)).toNatClampNeg) := inb_of S_b2 ⟨by decide, by decide⟩
  have Sto103 : Sto Z h44 b2 (.ref w_EQ) := Sto.ofV Ar_b2 q_b2 O2 (Ins.self (((((((((((((((E_EQ.ext E2).wr W5).wr W8).wr W11).wr W14).wr W17).wr W20).wr W23).wr W26).wr W29).wr W32).wr W35).wr W38).wr W41).wr W44))
  obtain ⟨T47, h47, X47, e47, W47, st47⟩ := stR X46 hx hZ e46 Ar_b2 (j := (14 : Int32)) hin103 rfl Sto103 (g := (mkF m 103 #[.val (.int p1), .unset, .unset, .unset, .unset] [(.ref w_EQ), (.int (14 : Int32)), (.ref b2), (.ref b2)])) rfl rfl (hb hby at_103)
  have V_b2_47 : Arv Z h47 b2 k2 (.object "com/example/failfirst/failfirst/Operator") (22 : Int32) [(.ref w_NEG), (.ref w_ABS), (.ref w_ADD), (.ref w_SUB), (.ref w_MUL), (.ref w_DIV), (.ref w_MOD), (.ref w_DIST), (.ref w_MIN), (.ref w_MAX), (.ref w_LT), (.ref w_LE), (.ref w_GE), (.ref w_GT), (.ref w_EQ), .null, .null, .null, .null, .null, .null, .null] .null := Arv.set Ar_b2 q_b2 S_b2 N_b2 H_b2 G_b2 rfl W47 14 rfl (Nat.le_of_ble_eq_true rfl)
  have K47 : Keep h0 h47 [] := K44.wr W47 (Or.inr sz_b2)
  have N47 := Fr.snoc X47 N44 g_b2
  obtain ⟨T49, X49, e49, st49⟩ := getS2 X47 hx hZ hown (host := "") (Or.inl (hw _ (List.mem_of_getElem? (i := 34) rfl))) Via.refl e47 ((((((((((((((((S_NE.ext E2).wr W5).wr W8).wr W11).wr W14).wr W17).wr W20).wr W23).wr W26).wr W29).wr W32).wr W35).wr W38).wr W41).wr W44).wr W47) (g := (mkF m 107 #[.val (.int p1), .unset, .unset, .unset, .unset] [(.int (15 : Int32)), (.ref b2), (.ref b2)])) rfl (hb hby at_107)
  obtain ⟨cl_b2_110, Ar_b2, q_b2, S_b2, N_b2, H_b2, G_b2⟩ := V_b2_47
  have hin110 : ¬ ((15 : Int32) < 0 ∨ cl_b2_110.slots.size ≤ ((15 : Int32)).toNatClampNeg) := inb_of S_b2 ⟨by decide, by decide⟩
  have Sto110 : Sto Z h47 b2 (.ref w_NE) := Sto.ofV Ar_b2 q_b2 O2 (Ins.self ((((((((((((((((E_NE.ext E2).wr W5).wr W8).wr W11).wr W14).wr W17).wr W20).wr W23).wr W26).wr W29).wr W32).wr W35).wr W38).wr W41).wr W44).wr W47))
  obtain ⟨T50, h50, X50, e50, W50, st50⟩ := stR X49 hx hZ e49 Ar_b2 (j := (15 : Int32)) hin110 rfl Sto110 (g := (mkF m 110 #[.val (.int p1), .unset, .unset, .unset, .unset] [(.ref w_NE), (.int (15 : Int32)), (.ref b2), (.ref b2)])) rfl rfl (hb hby at_110)
  have V_b2_50 : Arv Z h50 b2 k2 (.object "com/example/failfirst/failfirst/Operator") (22 : Int32) [(.ref w_NEG), (.ref w_ABS), (.ref w_ADD), (.ref w_SUB), (.ref w_MUL), (.ref w_DIV), (.ref w_MOD), (.ref w_DIST), (.ref w_MIN), (.ref w_MAX), (.ref w_LT), (.ref w_LE), (.ref w_GE), (.ref w_GT), (.ref w_EQ), (.ref w_NE), .null, .null, .null, .null, .null, .null] .null := Arv.set Ar_b2 q_b2 S_b2 N_b2 H_b2 G_b2 rfl W50 15 rfl (Nat.le_of_ble_eq_true rfl)
  have K50 : Keep h0 h50 [] := K47.wr W50 (Or.inr sz_b2)
  have N50 := Fr.snoc X50 N47 g_b2
  obtain ⟨T52, X52, e52, st52⟩ := getS2 X50 hx hZ hown (host := "") (Or.inl (hw _ (List.mem_of_getElem? (i := 36) rfl))) Via.refl e50 (((((((((((((((((S_NOT.ext E2).wr W5).wr W8).wr W11).wr W14).wr W17).wr W20).wr W23).wr W26).wr W29).wr W32).wr W35).wr W38).wr W41).wr W44).wr W47).wr W50) (g := (mkF m 114 #[.val (.int p1), .unset, .unset, .unset, .unset] [(.int (16 : Int32)), (.ref b2), (.ref b2)])) rfl (hb hby at_114)
  obtain ⟨cl_b2_117, Ar_b2, q_b2, S_b2, N_b2, H_b2, G_b2⟩ := V_b2_50
  have hin117 : ¬ ((16 : Int32) < 0 ∨ cl_b2_117.slots.size ≤ ((16 : Int32)).toNatClampNeg) := inb_of S_b2 ⟨by decide, by decide⟩
  have Sto117 : Sto Z h50 b2 (.ref w_NOT) := Sto.ofV Ar_b2 q_b2 O2 (Ins.self (((((((((((((((((E_NOT.ext E2).wr W5).wr W8).wr W11).wr W14).wr W17).wr W20).wr W23).wr W26).wr W29).wr W32).wr W35).wr W38).wr W41).wr W44).wr W47).wr W50))
  obtain ⟨T53, h53, X53, e53, W53, st53⟩ := stR X52 hx hZ e52 Ar_b2 (j := (16 : Int32)) hin117 rfl Sto117 (g := (mkF m 117 #[.val (.int p1), .unset, .unset, .unset, .unset] [(.ref w_NOT), (.int (16 : Int32)), (.ref b2), (.ref b2)])) rfl rfl (hb hby at_117)
  have V_b2_53 : Arv Z h53 b2 k2 (.object "com/example/failfirst/failfirst/Operator") (22 : Int32) [(.ref w_NEG), (.ref w_ABS), (.ref w_ADD), (.ref w_SUB), (.ref w_MUL), (.ref w_DIV), (.ref w_MOD), (.ref w_DIST), (.ref w_MIN), (.ref w_MAX), (.ref w_LT), (.ref w_LE), (.ref w_GE), (.ref w_GT), (.ref w_EQ), (.ref w_NE), (.ref w_NOT), .null, .null, .null, .null, .null] .null := Arv.set Ar_b2 q_b2 S_b2 N_b2 H_b2 G_b2 rfl W53 16 rfl (Nat.le_of_ble_eq_true rfl)
  have K53 : Keep h0 h53 [] := K50.wr W53 (Or.inr sz_b2)
  have N53 := Fr.snoc X53 N50 g_b2
  obtain ⟨T55, X55, e55, st55⟩ := getS2 X53 hx hZ hown (host := "") (Or.inl (hw _ (List.mem_of_getElem? (i := 38) rfl))) Via.refl e53 ((((((((((((((((((S_AND.ext E2).wr W5).wr W8).wr W11).wr W14).wr W17).wr W20).wr W23).wr W26).wr W29).wr W32).wr W35).wr W38).wr W41).wr W44).wr W47).wr W50).wr W53) (g := (mkF m 121 #[.val (.int p1), .unset, .unset, .unset, .unset] [(.int (17 : Int32)), (.ref b2), (.ref b2)])) rfl (hb hby at_121)
  obtain ⟨cl_b2_124, Ar_b2, q_b2, S_b2, N_b2, H_b2, G_b2⟩ := V_b2_53
  have hin124 : ¬ ((17 : Int32) < 0 ∨ cl_b2_124.slots.size ≤ ((17 : Int32)).toNatClampNeg) := inb_of S_b2 ⟨by decide, by decide⟩
  have Sto124 : Sto Z h53 b2 (.ref w_AND) := Sto.ofV Ar_b2 q_b2 O2 (Ins.self ((((((((((((((((((E_AND.ext E2).wr W5).wr W8).wr W11).wr W14).wr W17).wr W20).wr W23).wr W26).wr W29).wr W32).wr W35).wr W38).wr W41).wr W44).wr W47).wr W50).wr W53))
  obtain ⟨T56, h56, X56, e56, W56, st56⟩ := stR X55 hx hZ e55 Ar_b2 (j := (17 : Int32)) hin124 rfl Sto124 (g := (mkF m 124 #[.val (.int p1), .unset, .unset, .unset, .unset] [(.ref w_AND), (.int (17 : Int32)), (.ref b2), (.ref b2)])) rfl rfl (hb hby at_124)
  have V_b2_56 : Arv Z h56 b2 k2 (.object "com/example/failfirst/failfirst/Operator") (22 : Int32) [(.ref w_NEG), (.ref w_ABS), (.ref w_ADD), (.ref w_SUB), (.ref w_MUL), (.ref w_DIV), (.ref w_MOD), (.ref w_DIST), (.ref w_MIN), (.ref w_MAX), (.ref w_LT), (.ref w_LE), (.ref w_GE), (.ref w_GT), (.ref w_EQ), (.ref w_NE), (.ref w_NOT), (.ref w_AND), .null, .null, .null, .null] .null := Arv.set Ar_b2 q_b2 S_b2 N_b2 H_b2 G_b2 rfl W56 17 rfl (Nat.le_of_ble_eq_true rfl)
  have K56 : Keep h0 h56 [] := K53.wr W56 (Or.inr sz_b2)
  have N56 := Fr.snoc X56 N53 g_b2
  obtain ⟨T58, X58, e58, st58⟩ := getS2 X56 hx hZ hown (host := "") (Or.inl (hw _ (List.mem_of_getElem? (i := 40) rfl))) Via.refl e56 (((((((((((((((((((S_OR.ext E2).wr W5).wr W8).wr W11).wr W14).wr W17).wr W20).wr W23).wr W26).wr W29).wr W32).wr W35).wr W38).wr W41).wr W44).wr W47).wr W50).wr W53).wr W56) (g := (mkF m 128 #[.val (.int p1), .unset, .unset, .unset, .unset] [(.int (18 : Int32)), (.ref b2), (.ref b2)])) rfl (hb hby at_128)
  obtain ⟨cl_b2_131, Ar_b2, q_b2, S_b2, N_b2, H_b2, G_b2⟩ := V_b2_56
  have hin131 : ¬ ((18 : Int32) < 0 ∨ cl_b2_131.slots.size ≤ ((18 : Int32)).toNatClampNeg) := inb_of S_b2 ⟨by decide, by decide⟩
  have Sto131 : Sto Z h56 b2 (.ref w_OR) := Sto.ofV Ar_b2 q_b2 O2 (Ins.self (((((((((((((((((((E_OR.ext E2).wr W5).wr W8).wr W11).wr W14).wr W17).wr W20).wr W23).wr W26).wr W29).wr W32).wr W35).wr W38).wr W41).wr W44).wr W47).wr W50).wr W53).wr W56))
  obtain ⟨T59, h59, X59, e59, W59, st59⟩ := stR X58 hx hZ e58 Ar_b2 (j := (18 : Int32)) hin131 rfl Sto131 (g := (mkF m 131 #[.val (.int p1), .unset, .unset, .unset, .unset] [(.ref w_OR), (.int (18 : Int32)), (.ref b2), (.ref b2)])) rfl rfl (hb hby at_131)
  have V_b2_59 : Arv Z h59 b2 k2 (.object "com/example/failfirst/failfirst/Operator") (22 : Int32) [(.ref w_NEG), (.ref w_ABS), (.ref w_ADD), (.ref w_SUB), (.ref w_MUL), (.ref w_DIV), (.ref w_MOD), (.ref w_DIST), (.ref w_MIN), (.ref w_MAX), (.ref w_LT), (.ref w_LE), (.ref w_GE), (.ref w_GT), (.ref w_EQ), (.ref w_NE), (.ref w_NOT), (.ref w_AND), (.ref w_OR), .null, .null, .null] .null := Arv.set Ar_b2 q_b2 S_b2 N_b2 H_b2 G_b2 rfl W59 18 rfl (Nat.le_of_ble_eq_true rfl)
  have K59 : Keep h0 h59 [] := K56.wr W59 (Or.inr sz_b2)
  have N59 := Fr.snoc X59 N56 g_b2
  obtain ⟨T61, X61, e61, st61⟩ := getS2 X59 hx hZ hown (host := "") (Or.inl (hw _ (List.mem_of_getElem? (i := 42) rfl))) Via.refl e59 ((((((((((((((((((((S_XOR.ext E2).wr W5).wr W8).wr W11).wr W14).wr W17).wr W20).wr W23).wr W26).wr W29).wr W32).wr W35).wr W38).wr W41).wr W44).wr W47).wr W50).wr W53).wr W56).wr W59) (g := (mkF m 135 #[.val (.int p1), .unset, .unset, .unset, .unset] [(.int (19 : Int32)), (.ref b2), (.ref b2)])) rfl (hb hby at_135)
  obtain ⟨cl_b2_138, Ar_b2, q_b2, S_b2, N_b2, H_b2, G_b2⟩ := V_b2_59
  have hin138 : ¬ ((19 : Int32) < 0 ∨ cl_b2_138.slots.size ≤ ((19 : Int32)).toNatClampNeg) := inb_of S_b2 ⟨by decide, by decide⟩
  have Sto138 : Sto Z h59 b2 (.ref w_XOR) := Sto.ofV Ar_b2 q_b2 O2 (Ins.self ((((((((((((((((((((E_XOR.ext E2).wr W5).wr W8).wr W11).wr W14).wr W17).wr W20).wr W23).wr W26).wr W29).wr W32).wr W35).wr W38).wr W41).wr W44).wr W47).wr W50).wr W53).wr W56).wr W59))
  obtain ⟨T62, h62, X62, e62, W62, st62⟩ := stR X61 hx hZ e61 Ar_b2 (j := (19 : Int32)) hin138 rfl Sto138 (g := (mkF m 138 #[.val (.int p1), .unset, .unset, .unset, .unset] [(.ref w_XOR), (.int (19 : Int32)), (.ref b2), (.ref b2)])) rfl rfl (hb hby at_138)
  have V_b2_62 : Arv Z h62 b2 k2 (.object "com/example/failfirst/failfirst/Operator") (22 : Int32) [(.ref w_NEG), (.ref w_ABS), (.ref w_ADD), (.ref w_SUB), (.ref w_MUL), (.ref w_DIV), (.ref w_MOD), (.ref w_DIST), (.ref w_MIN), (.ref w_MAX), (.ref w_LT), (.ref w_LE), (.ref w_GE), (.ref w_GT), (.ref w_EQ), (.ref w_NE), (.ref w_NOT), (.ref w_AND), (.ref w_OR), (.ref w_XOR), .null, .null] .null := Arv.set Ar_b2 q_b2 S_b2 N_b2 H_b2 G_b2 rfl W62 19 rfl (Nat.le_of_ble_eq_true rfl)
  have K62 : Keep h0 h62 [] := K59.wr W62 (Or.inr sz_b2)
  have N62 := Fr.snoc X62 N59 g_b2
  obtain ⟨T64, X64, e64, st64⟩ := getS2 X62 hx hZ hown (host := "") (Or.inl (hw _ (List.mem_of_getElem? (i := 44) rfl))) Via.refl e62 (((((((((((((((((((((S_IFF.ext E2).wr W5).wr W8).wr W11).wr W14).wr W17).wr W20).wr W23).wr W26).wr W29).wr W32).wr W35).wr W38).wr W41).wr W44).wr W47).wr W50).wr W53).wr W56).wr W59).wr W62) (g := (mkF m 142 #[.val (.int p1), .unset, .unset, .unset, .unset] [(.int (20 : Int32)), (.ref b2), (.ref b2)])) rfl (hb hby at_142)
  obtain ⟨cl_b2_145, Ar_b2, q_b2, S_b2, N_b2, H_b2, G_b2⟩ := V_b2_62
  have hin145 : ¬ ((20 : Int32) < 0 ∨ cl_b2_145.slots.size ≤ ((20 : Int32)).toNatClampNeg) := inb_of S_b2 ⟨by decide, by decide⟩
  have Sto145 : Sto Z h62 b2 (.ref w_IFF) := Sto.ofV Ar_b2 q_b2 O2 (Ins.self (((((((((((((((((((((E_IFF.ext E2).wr W5).wr W8).wr W11).wr W14).wr W17).wr W20).wr W23).wr W26).wr W29).wr W32).wr W35).wr W38).wr W41).wr W44).wr W47).wr W50).wr W53).wr W56).wr W59).wr W62))
  obtain ⟨T65, h65, X65, e65, W65, st65⟩ := stR X64 hx hZ e64 Ar_b2 (j := (20 : Int32)) hin145 rfl Sto145 (g := (mkF m 145 #[.val (.int p1), .unset, .unset, .unset, .unset] [(.ref w_IFF), (.int (20 : Int32)), (.ref b2), (.ref b2)])) rfl rfl (hb hby at_145)
  have V_b2_65 : Arv Z h65 b2 k2 (.object "com/example/failfirst/failfirst/Operator") (22 : Int32) [(.ref w_NEG), (.ref w_ABS), (.ref w_ADD), (.ref w_SUB), (.ref w_MUL), (.ref w_DIV), (.ref w_MOD), (.ref w_DIST), (.ref w_MIN), (.ref w_MAX), (.ref w_LT), (.ref w_LE), (.ref w_GE), (.ref w_GT), (.ref w_EQ), (.ref w_NE), (.ref w_NOT), (.ref w_AND), (.ref w_OR), (.ref w_XOR), (.ref w_IFF), .null] .null := Arv.set Ar_b2 q_b2 S_b2 N_b2 H_b2 G_b2 rfl W65 20 rfl (Nat.le_of_ble_eq_true rfl)
  have K65 : Keep h0 h65 [] := K62.wr W65 (Or.inr sz_b2)
  have N65 := Fr.snoc X65 N62 g_b2
  obtain ⟨T67, X67, e67, st67⟩ := getS2 X65 hx hZ hown (host := "") (Or.inl (hw _ (List.mem_of_getElem? (i := 46) rfl))) Via.refl e65 ((((((((((((((((((((((S_IMP.ext E2).wr W5).wr W8).wr W11).wr W14).wr W17).wr W20).wr W23).wr W26).wr W29).wr W32).wr W35).wr W38).wr W41).wr W44).wr W47).wr W50).wr W53).wr W56).wr W59).wr W62).wr W65) (g := (mkF m 149 #[.val (.int p1), .unset, .unset, .unset, .unset] [(.int (21 : Int32)), (.ref b2), (.ref b2)])) rfl (hb hby at_149)
  obtain ⟨cl_b2_152, Ar_b2, q_b2, S_b2, N_b2, H_b2, G_b2⟩ := V_b2_65
  have hin152 : ¬ ((21 : Int32) < 0 ∨ cl_b2_152.slots.size ≤ ((21 : Int32)).toNatClampNeg) := inb_of S_b2 ⟨by decide, by decide⟩
  have Sto152 : Sto Z h65 b2 (.ref w_IMP) := Sto.ofV Ar_b2 q_b2 O2 (Ins.self ((((((((((((((((((((((E_IMP.ext E2).wr W5).wr W8).wr W11).wr W14).wr W17).wr W20).wr W23).wr W26).wr W29).wr W32).wr W35).wr W38).wr W41).wr W44).wr W47).wr W50).wr W53).wr W56).wr W59).wr W62).wr W65))
  obtain ⟨T68, h68, X68, e68, W68, st68⟩ := stR X67 hx hZ e67 Ar_b2 (j := (21 : Int32)) hin152 rfl Sto152 (g := (mkF m 152 #[.val (.int p1), .unset, .unset, .unset, .unset] [(.ref w_IMP), (.int (21 : Int32)), (.ref b2), (.ref b2)])) rfl rfl (hb hby at_152)
  have V_b2_68 : Arv Z h68 b2 k2 (.object "com/example/failfirst/failfirst/Operator") (22 : Int32) [(.ref w_NEG), (.ref w_ABS), (.ref w_ADD), (.ref w_SUB), (.ref w_MUL), (.ref w_DIV), (.ref w_MOD), (.ref w_DIST), (.ref w_MIN), (.ref w_MAX), (.ref w_LT), (.ref w_LE), (.ref w_GE), (.ref w_GT), (.ref w_EQ), (.ref w_NE), (.ref w_NOT), (.ref w_AND), (.ref w_OR), (.ref w_XOR), (.ref w_IFF), (.ref w_IMP)] .null := Arv.set Ar_b2 q_b2 S_b2 N_b2 H_b2 G_b2 rfl W68 21 rfl (Nat.le_of_ble_eq_true rfl)
  have K68 : Keep h0 h68 [] := K65.wr W68 (Or.inr sz_b2)
  have N68 := Fr.snoc X68 N65 g_b2
  obtain ⟨cl_b2_164, Ar_b2_164, q_b2_164, S_b2_164, N_b2_164, H_b2_164, G_b2_164⟩ := V_b2_68
  have hin164 : ¬ (((p1 &&& (2147483647 : Int32)) % (22 : Int32)) < 0 ∨ cl_b2_164.slots.size ≤ (((p1 &&& (2147483647 : Int32)) % (22 : Int32))).toNatClampNeg) := inb_of S_b2_164 ⟨hj0, hj1⟩
  have hat164 : cl_b2_164.slots[(((p1 &&& (2147483647 : Int32)) % (22 : Int32))).toNatClampNeg]? = some (.ref wx) := (H_b2_164 _ (by rw [S_b2_164]; exact hlt)).trans (congrArg some hsel)
  obtain ⟨T69, X69, e69, st69⟩ := getS2 X68 hx hZ hown (host := "") (Or.inl (hw _ (List.mem_of_getElem? (i := 24) rfl))) Via.refl e68 (((((((((((((((((((((((S_LT.ext E2).wr W5).wr W8).wr W11).wr W14).wr W17).wr W20).wr W23).wr W26).wr W29).wr W32).wr W35).wr W38).wr W41).wr W44).wr W47).wr W50).wr W53).wr W56).wr W59).wr W62).wr W65).wr W68) (g := (mkF m 167 #[.val (.int p1), .val (.ref b2), .val (.int ((p1 &&& (2147483647 : Int32)) % (22 : Int32))), .val (.ref wx), .unset] [(.ref wx)])) rfl (hb hby at_167)
  obtain ⟨T70, X70, e70, st70⟩ := getS2 X69 hx hZ hown (host := "") (Or.inl (hw _ (List.mem_of_getElem? (i := 26) rfl))) Via.refl e69 (((((((((((((((((((((((S_LE.ext E2).wr W5).wr W8).wr W11).wr W14).wr W17).wr W20).wr W23).wr W26).wr W29).wr W32).wr W35).wr W38).wr W41).wr W44).wr W47).wr W50).wr W53).wr W56).wr W59).wr W62).wr W65).wr W68) (g := (mkF m 174 #[.val (.int p1), .val (.ref b2), .val (.int ((p1 &&& (2147483647 : Int32)) % (22 : Int32))), .val (.ref wx), .unset] [(.ref wx)])) rfl (hb hby at_174)
  obtain ⟨LL, X70, N68⟩ : ∃ LL, Stand p l e room_1 s m #[(.int p1)] below meth c T70 LL (0 + 1) (0 + 22) ∧ Fr n0 LL := ⟨_, X70, N68⟩
  obtain ⟨cq71, kq71, q71a, q71b, q71c⟩ := isOf hZ e70 (((((((((((((((((((((((E_wx.ext E2).wr W5).wr W8).wr W11).wr W14).wr W17).wr W20).wr W23).wr W26).wr W29).wr W32).wr W35).wr W38).wr W41).wr W44).wr W47).wr W50).wr W53).wr W56).wr W59).wr W62).wr W65).wr W68)
  obtain ⟨_, _, ⟨T71, L71, k71, n71⟩, -, X71, ⟨Lc71, hQ71, l71, y71, z71⟩, st71⟩ := X70.virtualBack hx (y := (⟨"com/example/failfirst/failfirst/Operator", "chains", "()Z"⟩ : MethodName)) (z := (⟨"com/example/failfirst/failfirst/Operator", "chains", "()Z"⟩ : MethodName)) hown (mvT hZ (hw _ (List.mem_of_getElem? (i := 49) rfl))) (mvT hZ (hw _ (List.mem_of_getElem? (i := 50) rfl))) (notFace_of_selects (args := #[]) (mvT hZ (hw _ (List.mem_of_getElem? (i := 52) rfl)))) (mvT hZ (hw _ (List.mem_of_getElem? (i := 52) rfl))) (mvT hZ (hw _ (List.mem_of_getElem? (i := 51) rfl))) (by decide) (backOf (W := 0) (rm1_f l Z a0 hw [] wx wk w_COMPARISON h68 n0 (Nat.le_trans Z0 K68.1) (F_kind.keep K68 List.not_mem_nil) (((((((((((((((((((((((S_COMPARISON.ext E2).wr W5).wr W8).wr W11).wr W14).wr W17).wr W20).wr W23).wr W26).wr W29).wr W32).wr W35).wr W38).wr W41).wr W44).wr W47).wr W50).wr W53).wr W56).wr W59).wr W62).wr W65).wr W68) hkd) hZ (hw _ (List.mem_of_getElem? (i := 53) rfl)) (hw _ (List.mem_of_getElem? (i := 3) rfl)) (by decide) (by decide)) q71a q71c (g := (mkF m 216 #[.val (.int p1), .val (.ref b2), .val (.int ((p1 &&& (2147483647 : Int32)) % (22 : Int32))), .val (.ref wx), .val (.int (1 : Int32))] [(.ref wx)])) rfl (by rw [hml]; rfl) (Steps.refl _) (argsL := []) (rest := []) (lenOf pd_0_0 rfl) rfl (by show 2 * 0 + _ ≤ _; exact Nat.le_of_eq rfl) (hb hby at_216) (fun _ _ => ⟨rfl, e70, (by decide : 1 + 0 ≤ _), (by decide : 22 + 0 ≤ _)⟩)
  dsimp only [Pt.U, Pt.locs, Pt.cells, Pt.slots] at X71 l71 y71 z71 st71 hQ71
  subst l71 y71 z71
  obtain ⟨rfl, N71q, e71q⟩ := hQ71
  have N71 := Fr.app N68 N71q
  obtain ⟨fs, hr, hrun, hended, hW, hsame⟩ := X71.leave (v := some (.int (1 : Int32))) (fun h => by rw [Bd.returns] at h; cases h) Bd.notSynchronized
  refine ⟨_, _, pre0 _ ?_, hrun, hended, _, _, rfl, ?_, ⟨_, rfl⟩, hW, hsame.mono (by decide) (by decide)⟩
  · show Steps p.tables e below (s₁.setTop (mkF m 0 #[.val (.int p1), .unset, .unset, .unset, .unset] [])) _
    refine XS.bipush X0.here hx rfl (hb hby at_0) ?_
    show Steps p.tables e below (s₁.setTop (mkF m 2 #[.val (.int p1), .unset, .unset, .unset, .unset] [(.int (22 : Int32))])) _
    refine st2 _ ?_
    show Steps p.tables e below (T2.setTop (mkF m 5 #[.val (.int p1), .unset, .unset, .unset, .unset] [(.ref b2)])) _
    refine XS.dup X2.here hx rfl (hb hby at_5) rfl rfl ?_
    show Steps p.tables e below (T2.setTop (mkF m 6 #[.val (.int p1), .unset, .unset, .unset, .unset] [(.ref b2), (.ref b2)])) _
    refine XS.iconst X2.here hx rfl (hb hby at_6) ?_
    show Steps p.tables e below (T2.setTop (mkF m 7 #[.val (.int p1), .unset, .unset, .unset, .unset] [(.int (0 : Int32)), (.ref b2), (.ref b2)])) _
    refine st4 _ ?_
    show Steps p.tables e below (T4.setTop (mkF m 10 #[.val (.int p1), .unset, .unset, .unset, .unset] [(.ref w_NEG), (.int (0 : Int32)), (.ref b2), (.ref b2)])) _
    refine st5 _ ?_
    show Steps p.tables e below (T5.setTop (mkF m 11 #[.val (.int p1), .unset, .unset, .unset, .unset] [(.ref b2)])) _
    refine XS.dup X5.here hx rfl (hb hby at_11) rfl rfl ?_
    show Steps p.tables e below (T5.setTop (mkF m 12 #[.val (.int p1), .unset, .unset, .unset, .unset] [(.ref b2), (.ref b2)])) _
    refine XS.iconst X5.here hx rfl (hb hby at_12) ?_
    show Steps p.tables e below (T5.setTop (mkF m 13 #[.val (.int p1), .unset, .unset, .unset, .unset] [(.int (1 : Int32)), (.ref b2), (.ref b2)])) _
    refine st7 _ ?_
    show Steps p.tables e below (T7.setTop (mkF m 16 #[.val (.int p1), .unset, .unset, .unset, .unset] [(.ref w_ABS), (.int (1 : Int32)), (.ref b2), (.ref b2)])) _
    refine st8 _ ?_
    show Steps p.tables e below (T8.setTop (mkF m 17 #[.val (.int p1), .unset, .unset, .unset, .unset] [(.ref b2)])) _
    refine XS.dup X8.here hx rfl (hb hby at_17) rfl rfl ?_
    show Steps p.tables e below (T8.setTop (mkF m 18 #[.val (.int p1), .unset, .unset, .unset, .unset] [(.ref b2), (.ref b2)])) _
    refine XS.iconst X8.here hx rfl (hb hby at_18) ?_
    show Steps p.tables e below (T8.setTop (mkF m 19 #[.val (.int p1), .unset, .unset, .unset, .unset] [(.int (2 : Int32)), (.ref b2), (.ref b2)])) _
    refine st10 _ ?_
    show Steps p.tables e below (T10.setTop (mkF m 22 #[.val (.int p1), .unset, .unset, .unset, .unset] [(.ref w_ADD), (.int (2 : Int32)), (.ref b2), (.ref b2)])) _
    refine st11 _ ?_
    show Steps p.tables e below (T11.setTop (mkF m 23 #[.val (.int p1), .unset, .unset, .unset, .unset] [(.ref b2)])) _
    refine XS.dup X11.here hx rfl (hb hby at_23) rfl rfl ?_
    show Steps p.tables e below (T11.setTop (mkF m 24 #[.val (.int p1), .unset, .unset, .unset, .unset] [(.ref b2), (.ref b2)])) _
    refine XS.iconst X11.here hx rfl (hb hby at_24) ?_
    show Steps p.tables e below (T11.setTop (mkF m 25 #[.val (.int p1), .unset, .unset, .unset, .unset] [(.int (3 : Int32)), (.ref b2), (.ref b2)])) _
    refine st13 _ ?_
    show Steps p.tables e below (T13.setTop (mkF m 28 #[.val (.int p1), .unset, .unset, .unset, .unset] [(.ref w_SUB), (.int (3 : Int32)), (.ref b2), (.ref b2)])) _
    refine st14 _ ?_
    show Steps p.tables e below (T14.setTop (mkF m 29 #[.val (.int p1), .unset, .unset, .unset, .unset] [(.ref b2)])) _
    refine XS.dup X14.here hx rfl (hb hby at_29) rfl rfl ?_
    show Steps p.tables e below (T14.setTop (mkF m 30 #[.val (.int p1), .unset, .unset, .unset, .unset] [(.ref b2), (.ref b2)])) _
    refine XS.iconst X14.here hx rfl (hb hby at_30) ?_
    show Steps p.tables e below (T14.setTop (mkF m 31 #[.val (.int p1), .unset, .unset, .unset, .unset] [(.int (4 : Int32)), (.ref b2), (.ref b2)])) _
    refine st16 _ ?_
    show Steps p.tables e below (T16.setTop (mkF m 34 #[.val (.int p1), .unset, .unset, .unset, .unset] [(.ref w_MUL), (.int (4 : Int32)), (.ref b2), (.ref b2)])) _
    refine st17 _ ?_
    show Steps p.tables e below (T17.setTop (mkF m 35 #[.val (.int p1), .unset, .unset, .unset, .unset] [(.ref b2)])) _
    refine XS.dup X17.here hx rfl (hb hby at_35) rfl rfl ?_
    show Steps p.tables e below (T17.setTop (mkF m 36 #[.val (.int p1), .unset, .unset, .unset, .unset] [(.ref b2), (.ref b2)])) _
    refine XS.iconst X17.here hx rfl (hb hby at_36) ?_
    show Steps p.tables e below (T17.setTop (mkF m 37 #[.val (.int p1), .unset, .unset, .unset, .unset] [(.int (5 : Int32)), (.ref b2), (.ref b2)])) _
    refine st19 _ ?_
    show Steps p.tables e below (T19.setTop (mkF m 40 #[.val (.int p1), .unset, .unset, .unset, .unset] [(.ref w_DIV), (.int (5 : Int32)), (.ref b2), (.ref b2)])) _
    refine st20 _ ?_
    show Steps p.tables e below (T20.setTop (mkF m 41 #[.val (.int p1), .unset, .unset, .unset, .unset] [(.ref b2)])) _
    refine XS.dup X20.here hx rfl (hb hby at_41) rfl rfl ?_
    show Steps p.tables e below (T20.setTop (mkF m 42 #[.val (.int p1), .unset, .unset, .unset, .unset] [(.ref b2), (.ref b2)])) _
    refine XS.bipush X20.here hx rfl (hb hby at_42) ?_
    show Steps p.tables e below (T20.setTop (mkF m 44 #[.val (.int p1), .unset, .unset, .unset, .unset] [(.int (6 : Int32)), (.ref b2), (.ref b2)])) _
    refine st22 _ ?_
    show Steps p.tables e below (T22.setTop (mkF m 47 #[.val (.int p1), .unset, .unset, .unset, .unset] [(.ref w_MOD), (.int (6 : Int32)), (.ref b2), (.ref b2)])) _
    refine st23 _ ?_
    show Steps p.tables e below (T23.setTop (mkF m 48 #[.val (.int p1), .unset, .unset, .unset, .unset] [(.ref b2)])) _
    refine XS.dup X23.here hx rfl (hb hby at_48) rfl rfl ?_
    show Steps p.tables e below (T23.setTop (mkF m 49 #[.val (.int p1), .unset, .unset, .unset, .unset] [(.ref b2), (.ref b2)])) _
    refine XS.bipush X23.here hx rfl (hb hby at_49) ?_
    show Steps p.tables e below (T23.setTop (mkF m 51 #[.val (.int p1), .unset, .unset, .unset, .unset] [(.int (7 : Int32)), (.ref b2), (.ref b2)])) _
    refine st25 _ ?_
    show Steps p.tables e below (T25.setTop (mkF m 54 #[.val (.int p1), .unset, .unset, .unset, .unset] [(.ref w_DIST), (.int (7 : Int32)), (.ref b2), (.ref b2)])) _
    refine st26 _ ?_
    show Steps p.tables e below (T26.setTop (mkF m 55 #[.val (.int p1), .unset, .unset, .unset, .unset] [(.ref b2)])) _
    refine XS.dup X26.here hx rfl (hb hby at_55) rfl rfl ?_
    show Steps p.tables e below (T26.setTop (mkF m 56 #[.val (.int p1), .unset, .unset, .unset, .unset] [(.ref b2), (.ref b2)])) _
    refine XS.bipush X26.here hx rfl (hb hby at_56) ?_
    show Steps p.tables e below (T26.setTop (mkF m 58 #[.val (.int p1), .unset, .unset, .unset, .unset] [(.int (8 : Int32)), (.ref b2), (.ref b2)])) _
    refine st28 _ ?_
    show Steps p.tables e below (T28.setTop (mkF m 61 #[.val (.int p1), .unset, .unset, .unset, .unset] [(.ref w_MIN), (.int (8 : Int32)), (.ref b2), (.ref b2)])) _
    refine st29 _ ?_
    show Steps p.tables e below (T29.setTop (mkF m 62 #[.val (.int p1), .unset, .unset, .unset, .unset] [(.ref b2)])) _
    refine XS.dup X29.here hx rfl (hb hby at_62) rfl rfl ?_
    show Steps p.tables e below (T29.setTop (mkF m 63 #[.val (.int p1), .unset, .unset, .unset, .unset] [(.ref b2), (.ref b2)])) _
    refine XS.bipush X29.here hx rfl (hb hby at_63) ?_
    show Steps p.tables e below (T29.setTop (mkF m 65 #[.val (.int p1), .unset, .unset, .unset, .unset] [(.int (9 : Int32)), (.ref b2), (.ref b2)])) _
    refine st31 _ ?_
    show Steps p.tables e below (T31.setTop (mkF m 68 #[.val (.int p1), .unset, .unset, .unset, .unset] [(.ref w_MAX), (.int (9 : Int32)), (.ref b2), (.ref b2)])) _
    refine st32 _ ?_
    show Steps p.tables e below (T32.setTop (mkF m 69 #[.val (.int p1), .unset, .unset, .unset, .unset] [(.ref b2)])) _
    refine XS.dup X32.here hx rfl (hb hby at_69) rfl rfl ?_
    show Steps p.tables e below (T32.setTop (mkF m 70 #[.val (.int p1), .unset, .unset, .unset, .unset] [(.ref b2), (.ref b2)])) _
    refine XS.bipush X32.here hx rfl (hb hby at_70) ?_
    show Steps p.tables e below (T32.setTop (mkF m 72 #[.val (.int p1), .unset, .unset, .unset, .unset] [(.int (10 : Int32)), (.ref b2), (.ref b2)])) _
    refine st34 _ ?_
    show Steps p.tables e below (T34.setTop (mkF m 75 #[.val (.int p1), .unset, .unset, .unset, .unset] [(.ref w_LT), (.int (10 : Int32)), (.ref b2), (.ref b2)])) _
    refine st35 _ ?_
    show Steps p.tables e below (T35.setTop (mkF m 76 #[.val (.int p1), .unset, .unset, .unset, .unset] [(.ref b2)])) _
    refine XS.dup X35.here hx rfl (hb hby at_76) rfl rfl ?_
    show Steps p.tables e below (T35.setTop (mkF m 77 #[.val (.int p1), .unset, .unset, .unset, .unset] [(.ref b2), (.ref b2)])) _
    refine XS.bipush X35.here hx rfl (hb hby at_77) ?_
    show Steps p.tables e below (T35.setTop (mkF m 79 #[.val (.int p1), .unset, .unset, .unset, .unset] [(.int (11 : Int32)), (.ref b2), (.ref b2)])) _
    refine st37 _ ?_
    show Steps p.tables e below (T37.setTop (mkF m 82 #[.val (.int p1), .unset, .unset, .unset, .unset] [(.ref w_LE), (.int (11 : Int32)), (.ref b2), (.ref b2)])) _
    refine st38 _ ?_
    show Steps p.tables e below (T38.setTop (mkF m 83 #[.val (.int p1), .unset, .unset, .unset, .unset] [(.ref b2)])) _
    refine XS.dup X38.here hx rfl (hb hby at_83) rfl rfl ?_
    show Steps p.tables e below (T38.setTop (mkF m 84 #[.val (.int p1), .unset, .unset, .unset, .unset] [(.ref b2), (.ref b2)])) _
    refine XS.bipush X38.here hx rfl (hb hby at_84) ?_
    show Steps p.tables e below (T38.setTop (mkF m 86 #[.val (.int p1), .unset, .unset, .unset, .unset] [(.int (12 : Int32)), (.ref b2), (.ref b2)])) _
    refine st40 _ ?_
    show Steps p.tables e below (T40.setTop (mkF m 89 #[.val (.int p1), .unset, .unset, .unset, .unset] [(.ref w_GE), (.int (12 : Int32)), (.ref b2), (.ref b2)])) _
    refine st41 _ ?_
    show Steps p.tables e below (T41.setTop (mkF m 90 #[.val (.int p1), .unset, .unset, .unset, .unset] [(.ref b2)])) _
    refine XS.dup X41.here hx rfl (hb hby at_90) rfl rfl ?_
    show Steps p.tables e below (T41.setTop (mkF m 91 #[.val (.int p1), .unset, .unset, .unset, .unset] [(.ref b2), (.ref b2)])) _
    refine XS.bipush X41.here hx rfl (hb hby at_91) ?_
    show Steps p.tables e below (T41.setTop (mkF m 93 #[.val (.int p1), .unset, .unset, .unset, .unset] [(.int (13 : Int32)), (.ref b2), (.ref b2)])) _
    refine st43 _ ?_
    show Steps p.tables e below (T43.setTop (mkF m 96 #[.val (.int p1), .unset, .unset, .unset, .unset] [(.ref w_GT), (.int (13 : Int32)), (.ref b2), (.ref b2)])) _
    refine st44 _ ?_
    show Steps p.tables e below (T44.setTop (mkF m 97 #[.val (.int p1), .unset, .unset, .unset, .unset] [(.ref b2)])) _
    refine XS.dup X44.here hx rfl (hb hby at_97) rfl rfl ?_
    show Steps p.tables e below (T44.setTop (mkF m 98 #[.val (.int p1), .unset, .unset, .unset, .unset] [(.ref b2), (.ref b2)])) _
    refine XS.bipush X44.here hx rfl (hb hby at_98) ?_
    show Steps p.tables e below (T44.setTop (mkF m 100 #[.val (.int p1), .unset, .unset, .unset, .unset] [(.int (14 : Int32)), (.ref b2), (.ref b2)])) _
    refine st46 _ ?_
    show Steps p.tables e below (T46.setTop (mkF m 103 #[.val (.int p1), .unset, .unset, .unset, .unset] [(.ref w_EQ), (.int (14 : Int32)), (.ref b2), (.ref b2)])) _
    refine st47 _ ?_
    show Steps p.tables e below (T47.setTop (mkF m 104 #[.val (.int p1), .unset, .unset, .unset, .unset] [(.ref b2)])) _
    refine XS.dup X47.here hx rfl (hb hby at_104) rfl rfl ?_
    show Steps p.tables e below (T47.setTop (mkF m 105 #[.val (.int p1), .unset, .unset, .unset, .unset] [(.ref b2), (.ref b2)])) _
    refine XS.bipush X47.here hx rfl (hb hby at_105) ?_
    show Steps p.tables e below (T47.setTop (mkF m 107 #[.val (.int p1), .unset, .unset, .unset, .unset] [(.int (15 : Int32)), (.ref b2), (.ref b2)])) _
    refine st49 _ ?_
    show Steps p.tables e below (T49.setTop (mkF m 110 #[.val (.int p1), .unset, .unset, .unset, .unset] [(.ref w_NE), (.int (15 : Int32)), (.ref b2), (.ref b2)])) _
    refine st50 _ ?_
    show Steps p.tables e below (T50.setTop (mkF m 111 #[.val (.int p1), .unset, .unset, .unset, .unset] [(.ref b2)])) _
    refine XS.dup X50.here hx rfl (hb hby at_111) rfl rfl ?_
    show Steps p.tables e below (T50.setTop (mkF m 112 #[.val (.int p1), .unset, .unset, .unset, .unset] [(.ref b2), (.ref b2)])) _
    refine XS.bipush X50.here hx rfl (hb hby at_112) ?_
    show Steps p.tables e below (T50.setTop (mkF m 114 #[.val (.int p1), .unset, .unset, .unset, .unset] [(.int (16 : Int32)), (.ref b2), (.ref b2)])) _
    refine st52 _ ?_
    show Steps p.tables e below (T52.setTop (mkF m 117 #[.val (.int p1), .unset, .unset, .unset, .unset] [(.ref w_NOT), (.int (16 : Int32)), (.ref b2), (.ref b2)])) _
    refine st53 _ ?_
    show Steps p.tables e below (T53.setTop (mkF m 118 #[.val (.int p1), .unset, .unset, .unset, .unset] [(.ref b2)])) _
    refine XS.dup X53.here hx rfl (hb hby at_118) rfl rfl ?_
    show Steps p.tables e below (T53.setTop (mkF m 119 #[.val (.int p1), .unset, .unset, .unset, .unset] [(.ref b2), (.ref b2)])) _
    refine XS.bipush X53.here hx rfl (hb hby at_119) ?_
    show Steps p.tables e below (T53.setTop (mkF m 121 #[.val (.int p1), .unset, .unset, .unset, .unset] [(.int (17 : Int32)), (.ref b2), (.ref b2)])) _
    refine st55 _ ?_
    show Steps p.tables e below (T55.setTop (mkF m 124 #[.val (.int p1), .unset, .unset, .unset, .unset] [(.ref w_AND), (.int (17 : Int32)), (.ref b2), (.ref b2)])) _
    refine st56 _ ?_
    show Steps p.tables e below (T56.setTop (mkF m 125 #[.val (.int p1), .unset, .unset, .unset, .unset] [(.ref b2)])) _
    refine XS.dup X56.here hx rfl (hb hby at_125) rfl rfl ?_
    show Steps p.tables e below (T56.setTop (mkF m 126 #[.val (.int p1), .unset, .unset, .unset, .unset] [(.ref b2), (.ref b2)])) _
    refine XS.bipush X56.here hx rfl (hb hby at_126) ?_
    show Steps p.tables e below (T56.setTop (mkF m 128 #[.val (.int p1), .unset, .unset, .unset, .unset] [(.int (18 : Int32)), (.ref b2), (.ref b2)])) _
    refine st58 _ ?_
    show Steps p.tables e below (T58.setTop (mkF m 131 #[.val (.int p1), .unset, .unset, .unset, .unset] [(.ref w_OR), (.int (18 : Int32)), (.ref b2), (.ref b2)])) _
    refine st59 _ ?_
    show Steps p.tables e below (T59.setTop (mkF m 132 #[.val (.int p1), .unset, .unset, .unset, .unset] [(.ref b2)])) _
    refine XS.dup X59.here hx rfl (hb hby at_132) rfl rfl ?_
    show Steps p.tables e below (T59.setTop (mkF m 133 #[.val (.int p1), .unset, .unset, .unset, .unset] [(.ref b2), (.ref b2)])) _
    refine XS.bipush X59.here hx rfl (hb hby at_133) ?_
    show Steps p.tables e below (T59.setTop (mkF m 135 #[.val (.int p1), .unset, .unset, .unset, .unset] [(.int (19 : Int32)), (.ref b2), (.ref b2)])) _
    refine st61 _ ?_
    show Steps p.tables e below (T61.setTop (mkF m 138 #[.val (.int p1), .unset, .unset, .unset, .unset] [(.ref w_XOR), (.int (19 : Int32)), (.ref b2), (.ref b2)])) _
    refine st62 _ ?_
    show Steps p.tables e below (T62.setTop (mkF m 139 #[.val (.int p1), .unset, .unset, .unset, .unset] [(.ref b2)])) _
    refine XS.dup X62.here hx rfl (hb hby at_139) rfl rfl ?_
    show Steps p.tables e below (T62.setTop (mkF m 140 #[.val (.int p1), .unset, .unset, .unset, .unset] [(.ref b2), (.ref b2)])) _
    refine XS.bipush X62.here hx rfl (hb hby at_140) ?_
    show Steps p.tables e below (T62.setTop (mkF m 142 #[.val (.int p1), .unset, .unset, .unset, .unset] [(.int (20 : Int32)), (.ref b2), (.ref b2)])) _
    refine st64 _ ?_
    show Steps p.tables e below (T64.setTop (mkF m 145 #[.val (.int p1), .unset, .unset, .unset, .unset] [(.ref w_IFF), (.int (20 : Int32)), (.ref b2), (.ref b2)])) _
    refine st65 _ ?_
    show Steps p.tables e below (T65.setTop (mkF m 146 #[.val (.int p1), .unset, .unset, .unset, .unset] [(.ref b2)])) _
    refine XS.dup X65.here hx rfl (hb hby at_146) rfl rfl ?_
    show Steps p.tables e below (T65.setTop (mkF m 147 #[.val (.int p1), .unset, .unset, .unset, .unset] [(.ref b2), (.ref b2)])) _
    refine XS.bipush X65.here hx rfl (hb hby at_147) ?_
    show Steps p.tables e below (T65.setTop (mkF m 149 #[.val (.int p1), .unset, .unset, .unset, .unset] [(.int (21 : Int32)), (.ref b2), (.ref b2)])) _
    refine st67 _ ?_
    show Steps p.tables e below (T67.setTop (mkF m 152 #[.val (.int p1), .unset, .unset, .unset, .unset] [(.ref w_IMP), (.int (21 : Int32)), (.ref b2), (.ref b2)])) _
    refine st68 _ ?_
    show Steps p.tables e below (T68.setTop (mkF m 153 #[.val (.int p1), .unset, .unset, .unset, .unset] [(.ref b2)])) _
    refine XS.astoreN X68.here hx rfl (hb hby at_153) rfl rfl (l' := #[.val (.int p1), .val (.ref b2), .unset, .unset, .unset]) rfl ?_
    show Steps p.tables e below (T68.setTop (mkF m 154 #[.val (.int p1), .val (.ref b2), .unset, .unset, .unset] [])) _
    refine XS.iloadN X68.here hx rfl (hb hby at_154) rfl ?_
    show Steps p.tables e below (T68.setTop (mkF m 155 #[.val (.int p1), .val (.ref b2), .unset, .unset, .unset] [(.int p1)])) _
    refine X68.ldcInt hx hown (mvT hZ (hw _ (List.mem_of_getElem? (i := 48) rfl))) (g := (mkF m 155 #[.val (.int p1), .val (.ref b2), .unset, .unset, .unset] [(.int p1)])) rfl (hb hby at_155) _ ?_
    show Steps p.tables e below (T68.setTop (mkF m 157 #[.val (.int p1), .val (.ref b2), .unset, .unset, .unset] [(.int (2147483647 : Int32)), (.int p1)])) _
    refine XS.iand X68.here hx rfl (hb hby at_157) rfl ?_
    show Steps p.tables e below (T68.setTop (mkF m 158 #[.val (.int p1), .val (.ref b2), .unset, .unset, .unset] [(.int (p1 &&& (2147483647 : Int32)))])) _
    refine XS.bipush X68.here hx rfl (hb hby at_158) ?_
    show Steps p.tables e below (T68.setTop (mkF m 160 #[.val (.int p1), .val (.ref b2), .unset, .unset, .unset] [(.int (22 : Int32)), (.int (p1 &&& (2147483647 : Int32)))])) _
    refine iremM X68 hx rfl (hb hby at_160) rfl (by decide) ?_
    show Steps p.tables e below (T68.setTop (mkF m 161 #[.val (.int p1), .val (.ref b2), .unset, .unset, .unset] [(.int ((p1 &&& (2147483647 : Int32)) % (22 : Int32)))])) _
    refine XS.istoreN X68.here hx rfl (hb hby at_161) rfl (l' := #[.val (.int p1), .val (.ref b2), .val (.int ((p1 &&& (2147483647 : Int32)) % (22 : Int32))), .unset, .unset]) rfl ?_
    show Steps p.tables e below (T68.setTop (mkF m 162 #[.val (.int p1), .val (.ref b2), .val (.int ((p1 &&& (2147483647 : Int32)) % (22 : Int32))), .unset, .unset] [])) _
    refine XS.aloadN X68.here hx rfl (hb hby at_162) rfl rfl ?_
    show Steps p.tables e below (T68.setTop (mkF m 163 #[.val (.int p1), .val (.ref b2), .val (.int ((p1 &&& (2147483647 : Int32)) % (22 : Int32))), .unset, .unset] [(.ref b2)])) _
    refine XS.iloadN X68.here hx rfl (hb hby at_163) rfl ?_
    show Steps p.tables e below (T68.setTop (mkF m 164 #[.val (.int p1), .val (.ref b2), .val (.int ((p1 &&& (2147483647 : Int32)) % (22 : Int32))), .unset, .unset] [(.int ((p1 &&& (2147483647 : Int32)) % (22 : Int32))), (.ref b2)])) _
    refine X68.aaload hx (j := ((p1 &&& (2147483647 : Int32)) % (22 : Int32))) (v := (.ref wx)) (by rw [e68]; exact Ar_b2_164.1) (State.isArrayOf_alike hZ.alike Ar_b2_164.2.1) rfl Ar_b2_164.2.2 hin164 hat164 (g := (mkF m 164 #[.val (.int p1), .val (.ref b2), .val (.int ((p1 &&& (2147483647 : Int32)) % (22 : Int32))), .unset, .unset] [(.int ((p1 &&& (2147483647 : Int32)) % (22 : Int32))), (.ref b2)])) rfl rfl (hb hby at_164) _ ?_
    show Steps p.tables e below (T68.setTop (mkF m 165 #[.val (.int p1), .val (.ref b2), .val (.int ((p1 &&& (2147483647 : Int32)) % (22 : Int32))), .unset, .unset] [(.ref wx)])) _
    refine XS.astoreN X68.here hx rfl (hb hby at_165) rfl rfl (l' := #[.val (.int p1), .val (.ref b2), .val (.int ((p1 &&& (2147483647 : Int32)) % (22 : Int32))), .val (.ref wx), .unset]) rfl ?_
    show Steps p.tables e below (T68.setTop (mkF m 166 #[.val (.int p1), .val (.ref b2), .val (.int ((p1 &&& (2147483647 : Int32)) % (22 : Int32))), .val (.ref wx), .unset] [])) _
    refine XS.aloadN X68.here hx rfl (hb hby at_166) rfl rfl ?_
    show Steps p.tables e below (T68.setTop (mkF m 167 #[.val (.int p1), .val (.ref b2), .val (.int ((p1 &&& (2147483647 : Int32)) % (22 : Int32))), .val (.ref wx), .unset] [(.ref wx)])) _
    refine st69 _ ?_
    show Steps p.tables e below (T69.setTop (mkF m 170 #[.val (.int p1), .val (.ref b2), .val (.int ((p1 &&& (2147483647 : Int32)) % (22 : Int32))), .val (.ref wx), .unset] [(.ref w_LT), (.ref wx)])) _
    refine Jvm.RoadKit.acmp (g := (mkF m 170 #[.val (.int p1), .val (.ref b2), .val (.int ((p1 &&& (2147483647 : Int32)) % (22 : Int32))), .val (.ref wx), .unset] [(.ref w_LT), (.ref wx)])) X69 hx rfl rfl rfl (pc0 := 170) (pc' := 173) (same := false) rfl (hb hby at_170) rfl (decide_eq_false fun q => ha170 (Value.ref.inj q)) (by decide) (by decide) ?_
    show Steps p.tables e below (T69.setTop (mkF m 173 #[.val (.int p1), .val (.ref b2), .val (.int ((p1 &&& (2147483647 : Int32)) % (22 : Int32))), .val (.ref wx), .unset] [])) _
    refine XS.aloadN X69.here hx rfl (hb hby at_173) rfl rfl ?_
    show Steps p.tables e below (T69.setTop (mkF m 174 #[.val (.int p1), .val (.ref b2), .val (.int ((p1 &&& (2147483647 : Int32)) % (22 : Int32))), .val (.ref wx), .unset] [(.ref wx)])) _
    refine st70 _ ?_
    show Steps p.tables e below (T70.setTop (mkF m 177 #[.val (.int p1), .val (.ref b2), .val (.int ((p1 &&& (2147483647 : Int32)) % (22 : Int32))), .val (.ref wx), .unset] [(.ref w_LE), (.ref wx)])) _
    refine Jvm.RoadKit.acmp (g := (mkF m 177 #[.val (.int p1), .val (.ref b2), .val (.int ((p1 &&& (2147483647 : Int32)) % (22 : Int32))), .val (.ref wx), .unset] [(.ref w_LE), (.ref wx)])) X70 hx rfl rfl rfl (pc0 := 177) (pc' := 208) (same := true) rfl (hb hby at_177) rfl (decide_eq_true (congrArg Value.ref ha177)) (by decide) (by decide) ?_
    show Steps p.tables e below (T70.setTop (mkF m 208 #[.val (.int p1), .val (.ref b2), .val (.int ((p1 &&& (2147483647 : Int32)) % (22 : Int32))), .val (.ref wx), .unset] [])) _
    refine XS.iconst X70.here hx rfl (hb hby at_208) ?_
    show Steps p.tables e below (T70.setTop (mkF m 209 #[.val (.int p1), .val (.ref b2), .val (.int ((p1 &&& (2147483647 : Int32)) % (22 : Int32))), .val (.ref wx), .unset] [(.int (1 : Int32))])) _
    refine XS.goto X70.here hx rfl (pc0 := 209) (pc' := 213) rfl (hb hby at_209) (by decide) (by decide) ?_
    show Steps p.tables e below (T70.setTop (mkF m 213 #[.val (.int p1), .val (.ref b2), .val (.int ((p1 &&& (2147483647 : Int32)) % (22 : Int32))), .val (.ref wx), .unset] [(.int (1 : Int32))])) _
    refine XS.istore X70.here hx rfl (hb hby at_213) rfl (l' := #[.val (.int p1), .val (.ref b2), .val (.int ((p1 &&& (2147483647 : Int32)) % (22 : Int32))), .val (.ref wx), .val (.int (1 : Int32))]) rfl ?_
    show Steps p.tables e below (T70.setTop (mkF m 215 #[.val (.int p1), .val (.ref b2), .val (.int ((p1 &&& (2147483647 : Int32)) % (22 : Int32))), .val (.ref wx), .val (.int (1 : Int32))] [])) _
    refine XS.aloadN X70.here hx rfl (hb hby at_215) rfl rfl ?_
    show Steps p.tables e below (T70.setTop (mkF m 216 #[.val (.int p1), .val (.ref b2), .val (.int ((p1 &&& (2147483647 : Int32)) % (22 : Int32))), .val (.ref wx), .val (.int (1 : Int32))] [(.ref wx)])) _
    refine st71.trans ?_
    show Steps p.tables e below (T71.setTop (mkF m 219 #[.val (.int p1), .val (.ref b2), .val (.int ((p1 &&& (2147483647 : Int32)) % (22 : Int32))), .val (.ref wx), .val (.int (1 : Int32))] [(.int (1 : Int32))])) _
    refine XS.iload X71.here hx rfl (hb hby at_219) rfl ?_
    show Steps p.tables e below (T71.setTop (mkF m 221 #[.val (.int p1), .val (.ref b2), .val (.int ((p1 &&& (2147483647 : Int32)) % (22 : Int32))), .val (.ref wx), .val (.int (1 : Int32))] [(.int (1 : Int32)), (.int (1 : Int32))])) _
    refine XS.icmpNo X71.here hx rfl (hb hby at_221) rfl (teq hk221).2 ?_
    show Steps p.tables e below (T71.setTop (mkF m 224 #[.val (.int p1), .val (.ref b2), .val (.int ((p1 &&& (2147483647 : Int32)) % (22 : Int32))), .val (.ref wx), .val (.int (1 : Int32))] [])) _
    refine XS.iconst X71.here hx rfl (hb hby at_224) ?_
    show Steps p.tables e below (T71.setTop (mkF m 225 #[.val (.int p1), .val (.ref b2), .val (.int ((p1 &&& (2147483647 : Int32)) % (22 : Int32))), .val (.ref wx), .val (.int (1 : Int32))] [(.int (1 : Int32))])) _
    refine XS.goto X71.here hx rfl (pc0 := 225) (pc' := 229) rfl (hb hby at_225) (by decide) (by decide) ?_
    show Steps p.tables e below (T71.setTop (mkF m 229 #[.val (.int p1), .val (.ref b2), .val (.int ((p1 &&& (2147483647 : Int32)) % (22 : Int32))), .val (.ref wx), .val (.int (1 : Int32))] [(.int (1 : Int32))])) _
    exact retN X71 hx (t := .boolean) Bd.returns (by simp) (hb hby at_229) hr
  · show Q0 Z p1 h0 n0 _ T71.heap _
    exact ⟨rfl, N71⟩
set_option maxRecDepth 65536 in
set_option maxHeartbeats 40000000 in
theorem rm0_GE (l : Launch) (Z : State) (a0 : Array Value) (hw : ∀ d ∈ tables_1, d.before a0 Z = true) (ws : List Jvm.Cond) (p1 : Int32) (w_NEG : Addr) (w_ABS : Addr) (w_ADD : Addr) (w_SUB : Addr) (w_MUL : Addr) (w_DIV : Addr) (w_MOD : Addr) (w_DIST : Addr) (w_MIN : Addr) (w_MAX : Addr) (w_LT : Addr) (w_LE : Addr) (w_GE : Addr) (w_GT : Addr) (w_EQ : Addr) (w_NE : Addr) (w_NOT : Addr) (w_AND : Addr) (w_OR : Addr) (w_XOR : Addr) (w_IFF : Addr) (w_IMP : Addr) (wx : Addr) (wk : Addr) (w_COMPARISON : Addr) (h0 : Heap) (n0 : Nat) (Z0 : n0 ≤ h0.size) (S_NEG : Sta Z h0 "com/example/failfirst/failfirst/Operator" "NEG" "Lcom/example/failfirst/failfirst/Operator;" (.ref w_NEG)) (E_NEG : Exa Z h0 w_NEG "com/example/failfirst/failfirst/Operator") (S_ABS : Sta Z h0 "com/example/failfirst/failfirst/Operator" "ABS" "Lcom/example/failfirst/failfirst/Operator;" (.ref w_ABS)) (E_ABS : Exa Z h0 w_ABS "com/example/failfirst/failfirst/Operator") (S_ADD : Sta Z h0 "com/example/failfirst/failfirst/Operator" "ADD" "Lcom/example/failfirst/failfirst/Operator;" (.ref w_ADD)) (E_ADD : Exa Z h0 w_ADD "com/example/failfirst/failfirst/Operator") (S_SUB : Sta Z h0 "com/example/failfirst/failfirst/Operator" "SUB" "Lcom/example/failfirst/failfirst/Operator;" (.ref w_SUB)) (E_SUB : Exa Z h0 w_SUB "com/example/failfirst/failfirst/Operator") (S_MUL : Sta Z h0 "com/example/failfirst/failfirst/Operator" "MUL" "Lcom/example/failfirst/failfirst/Operator;" (.ref w_MUL)) (E_MUL : Exa Z h0 w_MUL "com/example/failfirst/failfirst/Operator") (S_DIV : Sta Z h0 "com/example/failfirst/failfirst/Operator" "DIV" "Lcom/example/failfirst/failfirst/Operator;" (.ref w_DIV)) (E_DIV : Exa Z h0 w_DIV "com/example/failfirst/failfirst/Operator") (S_MOD : Sta Z h0 "com/example/failfirst/failfirst/Operator" "MOD" "Lcom/example/failfirst/failfirst/Operator;" (.ref w_MOD)) (E_MOD : Exa Z h0 w_MOD "com/example/failfirst/failfirst/Operator") (S_DIST : Sta Z h0 "com/example/failfirst/failfirst/Operator" "DIST" "Lcom/example/failfirst/failfirst/Operator;" (.ref w_DIST)) (E_DIST : Exa Z h0 w_DIST "com/example/failfirst/failfirst/Operator") (S_MIN : Sta Z h0 "com/example/failfirst/failfirst/Operator" "MIN" "Lcom/example/failfirst/failfirst/Operator;" (.ref w_MIN)) (E_MIN : Exa Z h0 w_MIN "com/example/failfirst/failfirst/Operator") (S_MAX : Sta Z h0 "com/example/failfirst/failfirst/Operator" "MAX" "Lcom/example/failfirst/failfirst/Operator;" (.ref w_MAX)) (E_MAX : Exa Z h0 w_MAX "com/example/failfirst/failfirst/Operator") (S_LT : Sta Z h0 "com/example/failfirst/failfirst/Operator" "LT" "Lcom/example/failfirst/failfirst/Operator;" (.ref w_LT)) (E_LT : Exa Z h0 w_LT "com/example/failfirst/failfirst/Operator") (S_LE : Sta Z h0 "com/example/failfirst/failfirst/Operator" "LE" "Lcom/example/failfirst/failfirst/Operator;" (.ref w_LE)) (E_LE : Exa Z h0 w_LE "com/example/failfirst/failfirst/Operator") (S_GE : Sta Z h0 "com/example/failfirst/failfirst/Operator" "GE" "Lcom/example/failfirst/failfirst/Operator;" (.ref w_GE)) (E_GE : Exa Z h0 w_GE "com/example/failfirst/failfirst/Operator") (S_GT : Sta Z h0 "com/example/failfirst/failfirst/Operator" "GT" "Lcom/example/failfirst/failfirst/Operator;" (.ref w_GT)) (E_GT : Exa Z h0 w_GT "com/example/failfirst/failfirst/Operator") (S_EQ : Sta Z h0 "com/example/failfirst/failfirst/Operator" "EQ" "Lcom/example/failfirst/failfirst/Operator;" (.ref w_EQ)) (E_EQ : Exa Z h0 w_EQ "com/example/failfirst/failfirst/Operator") (S_NE : Sta Z h0 "com/example/failfirst/failfirst/Operator" "NE" "Lcom/example/failfirst/failfirst/Operator;" (.ref w_NE)) (E_NE : Exa Z h0 w_NE "com/example/failfirst/failfirst/Operator") (S_NOT : Sta Z h0 "com/example/failfirst/failfirst/Operator" "NOT" "Lcom/example/failfirst/failfirst/Operator;" (.ref w_NOT)) (E_NOT : Exa Z h0 w_NOT "com/example/failfirst/failfirst/Operator") (S_AND : Sta Z h0 "com/example/failfirst/failfirst/Operator" "AND" "Lcom/example/failfirst/failfirst/Operator;" (.ref w_AND)) (E_AND : Exa Z h0 w_AND "com/example/failfirst/failfirst/Operator") (S_OR : Sta Z h0 "com/example/failfirst/failfirst/Operator" "OR" "Lcom/example/failfirst/failfirst/Operator;" (.ref w_OR)) (E_OR : Exa Z h0 w_OR "com/example/failfirst/failfirst/Operator") (S_XOR : Sta Z h0 "com/example/failfirst/failfirst/Operator" "XOR" "Lcom/example/failfirst/failfirst/Operator;" (.ref w_XOR)) (E_XOR : Exa Z h0 w_XOR "com/example/failfirst/failfirst/Operator") (S_IFF : Sta Z h0 "com/example/failfirst/failfirst/Operator" "IFF" "Lcom/example/failfirst/failfirst/Operator;" (.ref w_IFF)) (E_IFF : Exa Z h0 w_IFF "com/example/failfirst/failfirst/Operator") (S_IMP : Sta Z h0 "com/example/failfirst/failfirst/Operator" "IMP" "Lcom/example/failfirst/failfirst/Operator;" (.ref w_IMP)) (E_IMP : Exa Z h0 w_IMP "com/example/failfirst/failfirst/Operator") (S_COMPARISON : Sta Z h0 "com/example/failfirst/failfirst/Operator$Kind" "COMPARISON" "Lcom/example/failfirst/failfirst/Operator$Kind;" (.ref w_COMPARISON)) (F_kind : Fld Z h0 wx "com/example/failfirst/failfirst/Operator" "kind" "Lcom/example/failfirst/failfirst/Operator$Kind;" (.ref wk)) (E_wx : Exa Z h0 wx "com/example/failfirst/failfirst/Operator") (hj0 : ¬ ((p1 &&& (2147483647 : Int32)) % (22 : Int32)) < 0) (hj1 : ((p1 &&& (2147483647 : Int32)) % (22 : Int32)) < (22 : Int32)) (hlt : (((p1 &&& (2147483647 : Int32)) % (22 : Int32))).toNatClampNeg < (22 : Int32).toNatClampNeg) (hsel : ([.ref w_NEG, .ref w_ABS, .ref w_ADD, .ref w_SUB, .ref w_MUL, .ref w_DIV, .ref w_MOD, .ref w_DIST, .ref w_MIN, .ref w_MAX, .ref w_LT, .ref w_LE, .ref w_GE, .ref w_GT, .ref w_EQ, .ref w_NE, .ref w_NOT, .ref w_AND, .ref w_OR, .ref w_XOR, .ref w_IFF, .ref w_IMP] : List Value).getD (((p1 &&& (2147483647 : Int32)) % (22 : Int32))).toNatClampNeg .null = .ref wx) (hkd : wk = w_COMPARISON) (ha170 : ¬ (wx = w_LT)) (ha177 : ¬ (wx = w_LE)) (ha184 : wx = w_GE) (hk221 : (1 : Int32) = (1 : Int32)) :
    MetFree l x (head1 (Jvm.Cond.code x code maxLocals ret :: ws) room_1) (fun a U => a = #[(.int p1)] ∧ Z.Warmed39 U.vm ∧ U.heap = h0) (fun _ _ _ _ _ => True) (fun _ U o U' => ∃ v L, o = .returned v ∧ Q0 Z p1 h0 n0 v U'.heap L ∧ FrameEnd U o U' L room_1.cells room_1.slots) := by
  refine MetFree.of_bodySF (plainFor_of_name pn_0) hisR ?_
  intro p e s m args below meth c s₁ Bd hml0 hP hK
  obtain ⟨rfl, hZ, hh⟩ := hP
  have hx := Bd.exec
  have hby := Bd.bytes
  have hml : c.maxLocals = 5 := hml0
  have hown : s.vm.findClass "com/example/failfirst/failfirst/OperatorChainsPinLaw" = some m.cls := findClass_of_methodNamed Bd.named
  have hnm := (name_of_methodNamed Bd.named Bd.method).1
  have X0 : Stand p l e room_1 s m #[(.int p1)] below meth c s₁ [] 0 0 := Stand.of_body Bd
  have e0 : s₁.heap = h0 := by rw [← hh, Bd.state]; rfl
  have N0 := Fr.nil n0
  have pre0 : ∀ t, Steps p.tables e below (s₁.setTop (mkF m 0 #[.val (.int p1), .unset, .unset, .unset, .unset] [])) t → Steps p.tables e below (s₁.setTop (entryFrame m #[(.int p1)] maxLocals)) t := fun t k => castTop (ef_0 m p1) k
  obtain ⟨T2, h2, k2, X2, e2, E2, A2, O2, st2⟩ := newR X0 hx hZ hown (hw _ (List.mem_of_getElem? (i := 0) rfl)) (hw _ (List.mem_of_getElem? (i := 1) rfl)) e0 (g := (mkF m 2 #[.val (.int p1), .unset, .unset, .unset, .unset] [(.int (22 : Int32))])) rfl (hb hby at_2) rfl (by decide) (cap := 22) (by decide) (by decide) (by decide) (by decide)
  obtain ⟨b2, g2⟩ : ∃ z, z = h0.size := ⟨_, rfl⟩
  rw [← g2] at A2 st2
  have V_b2 : Arv Z h2 b2 k2 (.object "com/example/failfirst/failfirst/Operator") (22 : Int32) [.null, .null, .null, .null, .null, .null, .null, .null, .null, .null, .null, .null, .null, .null, .null, .null, .null, .null, .null, .null, .null, .null] .null := (Arv.new A2 (by decide)).pad (pad_rep [] .null 22)
  have g_b2 : n0 ≤ b2 := Nat.le_trans Z0 (Nat.le_of_eq g2.symm)
  have sz_b2 : h0.size ≤ b2 := (Nat.le_trans (Keep.refl h0 []).1 (Nat.le_of_eq g2.symm))
  have K2 : Keep h0 h2 [] := (Keep.refl h0 []).ext E2
  obtain ⟨T4, X4, e4, st4⟩ := getS2 X2 hx hZ hown (host := "") (Or.inl (hw _ (List.mem_of_getElem? (i := 2) rfl))) Via.refl e2 (S_NEG.ext E2) (g := (mkF m 7 #[.val (.int p1), .unset, .unset, .unset, .unset] [(.int (0 : Int32)), (.ref b2), (.ref b2)])) rfl (hb hby at_7)
  obtain ⟨cl_b2_10, Ar_b2, q_b2, S_b2, N_b2, H_b2, G_b2⟩ := V_b2
  have hin10 : ¬ ((0 : Int32) < 0 ∨ cl_b2_10.slots.size ≤ ((0 : Int32)).toNatClampNeg) := inb_of S_b2 ⟨by decide, by decide⟩
  have Sto10 : Sto Z h2 b2 (.ref w_NEG) := Sto.ofV Ar_b2 q_b2 O2 (Ins.self (E_NEG.ext E2))
  obtain ⟨T5, h5, X5, e5, W5, st5⟩ := stR X4 hx hZ e4 Ar_b2 (j := (0 : Int32)) hin10 rfl Sto10 (g := (mkF m 10 #[.val (.int p1), .unset, .unset, .unset, .unset] [(.ref w_NEG), (.int (0 : Int32)), (.ref b2), (.ref b2)])) rfl rfl (hb hby at_10)
  have V_b2_5 : Arv Z h5 b2 k2 (.object "com/example/failfirst/failfirst/Operator") (22 : Int32) [(.ref w_NEG), .null, .null, .null, .null, .null, .null, .null, .null, .null, .null, .null, .null, .null, .null, .null, .null, .null, .null, .null, .null, .null] .null := Arv.set Ar_b2 q_b2 S_b2 N_b2 H_b2 G_b2 rfl W5 0 rfl (Nat.le_of_ble_eq_true rfl)
  have K5 : Keep h0 h5 [] := K2.wr W5 (Or.inr sz_b2)
  have N5 := Fr.snoc X5 N0 g_b2
  obtain ⟨T7, X7, e7, st7⟩ := getS2 X5 hx hZ hown (host := "") (Or.inl (hw _ (List.mem_of_getElem? (i := 6) rfl))) Via.refl e5 ((S_ABS.ext E2).wr W5) (g := (mkF m 13 #[.val (.int p1), .unset, .unset, .unset, .unset] [(.int (1 : Int32)), (.ref b2), (.ref b2)])) rfl (hb hby at_13)
  obtain ⟨cl_b2_16, Ar_b2, q_b2, S_b2, N_b2, H_b2, G_b2⟩ := V_b2_5
  have hin16 : ¬ ((1 : Int32) < 0 ∨ cl_b2_16.slots.size ≤ ((1 : Int32)).toNatClampNeg) := inb_of S_b2 ⟨by decide, by decide⟩
  have Sto16 : Sto Z h5 b2 (.ref w_ABS) := Sto.ofV Ar_b2 q_b2 O2 (Ins.self ((E_ABS.ext E2).wr W5))
  obtain ⟨T8, h8, X8, e8, W8, st8⟩ := stR X7 hx hZ e7 Ar_b2 (j := (1 : Int32)) hin16 rfl Sto16 (g := (mkF m 16 #[.val (.int p1), .unset, .unset, .unset, .unset] [(.ref w_ABS), (.int (1 : Int32)), (.ref b2), (.ref b2)])) rfl rfl (hb hby at_16)
  have V_b2_8 : Arv Z h8 b2 k2 (.object "com/example/failfirst/failfirst/Operator") (22 : Int32) [(.ref w_NEG), (.ref w_ABS), .null, .null, .null, .null, .null, .null, .null, .null, .null, .null, .null, .null, .null, .null, .null, .null, .null, .null, .null, .null] .null := Arv.set Ar_b2 q_b2 S_b2 N_b2 H_b2 G_b2 rfl W8 1 rfl (Nat.le_of_ble_eq_true rfl)
  have K8 : Keep h0 h8 [] := K5.wr W8 (Or.inr sz_b2)
  have N8 := Fr.snoc X8 N5 g_b2
  obtain ⟨T10, X10, e10, st10⟩ := getS2 X8 hx hZ hown (host := "") (Or.inl (hw _ (List.mem_of_getElem? (i := 8) rfl))) Via.refl e8 (((S_ADD.ext E2).wr W5).wr W8) (g := (mkF m 19 #[.val (.int p1), .unset, .unset, .unset, .unset] [(.int (2 : Int32)), (.ref b2), (.ref b2)])) rfl (hb hby at_19)
  obtain ⟨cl_b2_22, Ar_b2, q_b2, S_b2, N_b2, H_b2, G_b2⟩ := V_b2_8
  have hin22 : ¬ ((2 : Int32) < 0 ∨ cl_b2_22.slots.size ≤ ((2 : Int32)).toNatClampNeg) := inb_of S_b2 ⟨by decide, by decide⟩
  have Sto22 : Sto Z h8 b2 (.ref w_ADD) := Sto.ofV Ar_b2 q_b2 O2 (Ins.self (((E_ADD.ext E2).wr W5).wr W8))
  obtain ⟨T11, h11, X11, e11, W11, st11⟩ := stR X10 hx hZ e10 Ar_b2 (j := (2 : Int32)) hin22 rfl Sto22 (g := (mkF m 22 #[.val (.int p1), .unset, .unset, .unset, .unset] [(.ref w_ADD), (.int (2 : Int32)), (.ref b2), (.ref b2)])) rfl rfl (hb hby at_22)
  have V_b2_11 : Arv Z h11 b2 k2 (.object "com/example/failfirst/failfirst/Operator") (22 : Int32) [(.ref w_NEG), (.ref w_ABS), (.ref w_ADD), .null, .null, .null, .null, .null, .null, .null, .null, .null, .null, .null, .null, .null, .null, .null, .null, .null, .null, .null] .null := Arv.set Ar_b2 q_b2 S_b2 N_b2 H_b2 G_b2 rfl W11 2 rfl (Nat.le_of_ble_eq_true rfl)
  have K11 : Keep h0 h11 [] := K8.wr W11 (Or.inr sz_b2)
  have N11 := Fr.snoc X11 N8 g_b2
  obtain ⟨T13, X13, e13, st13⟩ := getS2 X11 hx hZ hown (host := "") (Or.inl (hw _ (List.mem_of_getElem? (i := 10) rfl))) Via.refl e11 ((((S_SUB.ext E2).wr W5).wr W8).wr W11) (g := (mkF m 25 #[.val (.int p1), .unset, .unset, .unset, .unset] [(.int (3 : Int32)), (.ref b2), (.ref b2)])) rfl (hb hby at_25)
  obtain ⟨cl_b2_28, Ar_b2, q_b2, S_b2, N_b2, H_b2, G_b2⟩ := V_b2_11
  have hin28 : ¬ ((3 : Int32) < 0 ∨ cl_b2_28.slots.size ≤ ((3 : Int32)).toNatClampNeg) := inb_of S_b2 ⟨by decide, by decide⟩
  have Sto28 : Sto Z h11 b2 (.ref w_SUB) := Sto.ofV Ar_b2 q_b2 O2 (Ins.self ((((E_SUB.ext E2).wr W5).wr W8).wr W11))
  obtain ⟨T14, h14, X14, e14, W14, st14⟩ := stR X13 hx hZ e13 Ar_b2 (j := (3 : Int32)) hin28 rfl Sto28 (g := (mkF m 28 #[.val (.int p1), .unset, .unset, .unset, .unset] [(.ref w_SUB), (.int (3 : Int32)), (.ref b2), (.ref b2)])) rfl rfl (hb hby at_28)
  have V_b2_14 : Arv Z h14 b2 k2 (.object "com/example/failfirst/failfirst/Operator") (22 : Int32) [(.ref w_NEG), (.ref w_ABS), (.ref w_ADD), (.ref w_SUB), .null, .null, .null, .null, .null, .null, .null, .null, .null, .null, .null, .null, .null, .null, .null, .null, .null, .null] .null := Arv.set Ar_b2 q_b2 S_b2 N_b2 H_b2 G_b2 rfl W14 3 rfl (Nat.le_of_ble_eq_true rfl)
  have K14 : Keep h0 h14 [] := K11.wr W14 (Or.inr sz_b2)
  have N14 := Fr.snoc X14 N11 g_b2
  obtain ⟨T16, X16, e16, st16⟩ := getS2 X14 hx hZ hown (host := "") (Or.inl (hw _ (List.mem_of_getElem? (i := 12) rfl))) Via.refl e14 (((((S_MUL.ext E2).wr W5).wr W8).wr W11).wr W14) (g := (mkF m 31 #[.val (.int p1), .unset, .unset, .unset, .unset] [(.int (4 : Int32)), (.ref b2), (.ref b2)])) rfl (hb hby at_31)
  obtain ⟨cl_b2_34, Ar_b2, q_b2, S_b2, N_b2, H_b2, G_b2⟩ := V_b2_14
  have hin34 : ¬ ((4 : Int32) < 0 ∨ cl_b2_34.slots.size ≤ ((4 : Int32)).toNatClampNeg) := inb_of S_b2 ⟨by decide, by decide⟩
  have Sto34 : Sto Z h14 b2 (.ref w_MUL) := Sto.ofV Ar_b2 q_b2 O2 (Ins.self (((((E_MUL.ext E2).wr W5).wr W8).wr W11).wr W14))
  obtain ⟨T17, h17, X17, e17, W17, st17⟩ := stR X16 hx hZ e16 Ar_b2 (j := (4 : Int32)) hin34 rfl Sto34 (g := (mkF m 34 #[.val (.int p1), .unset, .unset, .unset, .unset] [(.ref w_MUL), (.int (4 : Int32)), (.ref b2), (.ref b2)])) rfl rfl (hb hby at_34)
  have V_b2_17 : Arv Z h17 b2 k2 (.object "com/example/failfirst/failfirst/Operator") (22 : Int32) [(.ref w_NEG), (.ref w_ABS), (.ref w_ADD), (.ref w_SUB), (.ref w_MUL), .null, .null, .null, .null, .null, .null, .null, .null, .null, .null, .null, .null, .null, .null, .null, .null, .null] .null := Arv.set Ar_b2 q_b2 S_b2 N_b2 H_b2 G_b2 rfl W17 4 rfl (Nat.le_of_ble_eq_true rfl)
  have K17 : Keep h0 h17 [] := K14.wr W17 (Or.inr sz_b2)
  have N17 := Fr.snoc X17 N14 g_b2
  obtain ⟨T19, X19, e19, st19⟩ := getS2 X17 hx hZ hown (host := "") (Or.inl (hw _ (List.mem_of_getElem? (i := 14) rfl))) Via.refl e17 ((((((S_DIV.ext E2).wr W5).wr W8).wr W11).wr W14).wr W17) (g := (mkF m 37 #[.val (.int p1), .unset, .unset, .unset, .unset] [(.int (5 : Int32)), (.ref b2), (.ref b2)])) rfl (hb hby at_37)
  obtain ⟨cl_b2_40, Ar_b2, q_b2, S_b2, N_b2, H_b2, G_b2⟩ := V_b2_17
  have hin40 : ¬ ((5 : Int32) < 0 ∨ cl_b2_40.slots.size ≤ ((5 : Int32)).toNatClampNeg) := inb_of S_b2 ⟨by decide, by decide⟩
  have Sto40 : Sto Z h17 b2 (.ref w_DIV) := Sto.ofV Ar_b2 q_b2 O2 (Ins.self ((((((E_DIV.ext E2).wr W5).wr W8).wr W11).wr W14).wr W17))
  obtain ⟨T20, h20, X20, e20, W20, st20⟩ := stR X19 hx hZ e19 Ar_b2 (j := (5 : Int32)) hin40 rfl Sto40 (g := (mkF m 40 #[.val (.int p1), .unset, .unset, .unset, .unset] [(.ref w_DIV), (.int (5 : Int32)), (.ref b2), (.ref b2)])) rfl rfl (hb hby at_40)
  have V_b2_20 : Arv Z h20 b2 k2 (.object "com/example/failfirst/failfirst/Operator") (22 : Int32) [(.ref w_NEG), (.ref w_ABS), (.ref w_ADD), (.ref w_SUB), (.ref w_MUL), (.ref w_DIV), .null, .null, .null, .null, .null, .null, .null, .null, .null, .null, .null, .null, .null, .null, .null, .null] .null := Arv.set Ar_b2 q_b2 S_b2 N_b2 H_b2 G_b2 rfl W20 5 rfl (Nat.le_of_ble_eq_true rfl)
  have K20 : Keep h0 h20 [] := K17.wr W20 (Or.inr sz_b2)
  have N20 := Fr.snoc X20 N17 g_b2
  obtain ⟨T22, X22, e22, st22⟩ := getS2 X20 hx hZ hown (host := "") (Or.inl (hw _ (List.mem_of_getElem? (i := 16) rfl))) Via.refl e20 (((((((S_MOD.ext E2).wr W5).wr W8).wr W11).wr W14).wr W17).wr W20) (g := (mkF m 44 #[.val (.int p1), .unset, .unset, .unset, .unset] [(.int (6 : Int32)), (.ref b2), (.ref b2)])) rfl (hb hby at_44)
  obtain ⟨cl_b2_47, Ar_b2, q_b2, S_b2, N_b2, H_b2, G_b2⟩ := V_b2_20
  have hin47 : ¬ ((6 : Int32) < 0 ∨ cl_b2_47.slots.size ≤ ((6 : Int32)).toNatClampNeg) := inb_of S_b2 ⟨by decide, by decide⟩
  have Sto47 : Sto Z h20 b2 (.ref w_MOD) := Sto.ofV Ar_b2 q_b2 O2 (Ins.self (((((((E_MOD.ext E2).wr W5).wr W8).wr W11).wr W14).wr W17).wr W20))
  obtain ⟨T23, h23, X23, e23, W23, st23⟩ := stR X22 hx hZ e22 Ar_b2 (j := (6 : Int32)) hin47 rfl Sto47 (g := (mkF m 47 #[.val (.int p1), .unset, .unset, .unset, .unset] [(.ref w_MOD), (.int (6 : Int32)), (.ref b2), (.ref b2)])) rfl rfl (hb hby at_47)
  have V_b2_23 : Arv Z h23 b2 k2 (.object "com/example/failfirst/failfirst/Operator") (22 : Int32) [(.ref w_NEG), (.ref w_ABS), (.ref w_ADD), (.ref w_SUB), (.ref w_MUL), (.ref w_DIV), (.ref w_MOD), .null, .null, .null, .null, .null, .null, .null, .null, .null, .null, .null, .null, .null, .null, .null] .null := Arv.set Ar_b2 q_b2 S_b2 N_b2 H_b2 G_b2 rfl W23 6 rfl (Nat.le_of_ble_eq_true rfl)
  have K23 : Keep h0 h23 [] := K20.wr W23 (Or.inr sz_b2)
  have N23 := Fr.snoc X23 N20 g_b2
  obtain ⟨T25, X25, e25, st25⟩ := getS2 X23 hx hZ hown (host := "") (Or.inl (hw _ (List.mem_of_getElem? (i := 18) rfl))) Via.refl e23 ((((((((S_DIST.ext E2).wr W5).wr W8).wr W11).wr W14).wr W17).wr W20).wr W23) (g := (mkF m 51 #[.val (.int p1), .unset, .unset, .unset, .unset] [(.int (7 : Int32)), (.ref b2), (.ref b2)])) rfl (hb hby at_51)
  obtain ⟨cl_b2_54, Ar_b2, q_b2, S_b2, N_b2, H_b2, G_b2⟩ := V_b2_23
  have hin54 : ¬ ((7 : Int32) < 0 ∨ cl_b2_54.slots.size ≤ ((7 : Int32)).toNatClampNeg) := inb_of S_b2 ⟨by decide, by decide⟩
  have Sto54 : Sto Z h23 b2 (.ref w_DIST) := Sto.ofV Ar_b2 q_b2 O2 (Ins.self ((((((((E_DIST.ext E2).wr W5).wr W8).wr W11).wr W14).wr W17).wr W20).wr W23))
  obtain ⟨T26, h26, X26, e26, W26, st26⟩ := stR X25 hx hZ e25 Ar_b2 (j := (7 : Int32)) hin54 rfl Sto54 (g := (mkF m 54 #[.val (.int p1), .unset, .unset, .unset, .unset] [(.ref w_DIST), (.int (7 : Int32)), (.ref b2), (.ref b2)])) rfl rfl (hb hby at_54)
  have V_b2_26 : Arv Z h26 b2 k2 (.object "com/example/failfirst/failfirst/Operator") (22 : Int32) [(.ref w_NEG), (.ref w_ABS), (.ref w_ADD), (.ref w_SUB), (.ref w_MUL), (.ref w_DIV), (.ref w_MOD), (.ref w_DIST), .null, .null, .null, .null, .null, .null, .null, .null, .null, .null, .null, .null, .null, .null] .null := Arv.set Ar_b2 q_b2 S_b2 N_b2 H_b2 G_b2 rfl W26 7 rfl (Nat.le_of_ble_eq_true rfl)
  have K26 : Keep h0 h26 [] := K23.wr W26 (Or.inr sz_b2)
  have N26 := Fr.snoc X26 N23 g_b2
  obtain ⟨T28, X28, e28, st28⟩ := getS2 X26 hx hZ hown (host := "") (Or.inl (hw _ (List.mem_of_getElem? (i := 20) rfl))) Via.refl e26 (((((((((S_MIN.ext E2).wr W5).wr W8).wr W11).wr W14).wr W17).wr W20).wr W23).wr W26) (g := (mkF m 58 #[.val (.int p1), .unset, .unset, .unset, .unset] [(.int (8 : Int32)), (.ref b2), (.ref b2)])) rfl (hb hby at_58)
  obtain ⟨cl_b2_61, Ar_b2, q_b2, S_b2, N_b2, H_b2, G_b2⟩ := V_b2_26
  have hin61 : ¬ ((8 : Int32) < 0 ∨ cl_b2_61.slots.size ≤ ((8 : Int32)).toNatClampNeg) := inb_of S_b2 ⟨by decide, by decide⟩
  have Sto61 : Sto Z h26 b2 (.ref w_MIN) := Sto.ofV Ar_b2 q_b2 O2 (Ins.self (((((((((E_MIN.ext E2).wr W5).wr W8).wr W11).wr W14).wr W17).wr W20).wr W23).wr W26))
  obtain ⟨T29, h29, X29, e29, W29, st29⟩ := stR X28 hx hZ e28 Ar_b2 (j := (8 : Int32)) hin61 rfl Sto61 (g := (mkF m 61 #[.val (.int p1), .unset, .unset, .unset, .unset] [(.ref w_MIN), (.int (8 : Int32)), (.ref b2), (.ref b2)])) rfl rfl (hb hby at_61)
  have V_b2_29 : Arv Z h29 b2 k2 (.object "com/example/failfirst/failfirst/Operator") (22 : Int32) [(.ref w_NEG), (.ref w_ABS), (.ref w_ADD), (.ref w_SUB), (.ref w_MUL), (.ref w_DIV), (.ref w_MOD), (.ref w_DIST), (.ref w_MIN), .null, .null, .null, .null, .null, .null, .null, .null, .null, .null, .null, .null, .null] .null := Arv.set Ar_b2 q_b2 S_b2 N_b2 H_b2 G_b2 rfl W29 8 rfl (Nat.le_of_ble_eq_true rfl)
  have K29 : Keep h0 h29 [] := K26.wr W29 (Or.inr sz_b2)
  have N29 := Fr.snoc X29 N26 g_b2
  obtain ⟨T31, X31, e31, st31⟩ := getS2 X29 hx hZ hown (host := "") (Or.inl (hw _ (List.mem_of_getElem? (i := 22) rfl))) Via.refl e29 ((((((((((S_MAX.ext E2).wr W5).wr W8).wr W11).wr W14).wr W17).wr W20).wr W23).wr W26).wr W29) (g := (mkF m 65 #[.val (.int p1), .unset, .unset, .unset, .unset] [(.int (9 : Int32)), (.ref b2), (.ref b2)])) rfl (hb hby at_65)
  obtain ⟨cl_b2_68, Ar_b2, q_b2, S_b2, N_b2, H_b2, G_b2⟩ := V_b2_29
  have hin68 : ¬ ((9 : Int32) < 0 ∨ cl_b2_68.slots.size ≤ ((9 : Int32)).toNatClampNeg) := inb_of S_b2 ⟨by decide, by decide⟩
  have Sto68 : Sto Z h29 b2 (.ref w_MAX) := Sto.ofV Ar_b2 q_b2 O2 (Ins.self ((((((((((E_MAX.ext E2).wr W5).wr W8).wr W11).wr W14).wr W17).wr W20).wr W23).wr W26).wr W29))
  obtain ⟨T32, h32, X32, e32, W32, st32⟩ := stR X31 hx hZ e31 Ar_b2 (j := (9 : Int32)) hin68 rfl Sto68 (g := (mkF m 68 #[.val (.int p1), .unset, .unset, .unset, .unset] [(.ref w_MAX), (.int (9 : Int32)), (.ref b2), (.ref b2)])) rfl rfl (hb hby at_68)
  have V_b2_32 : Arv Z h32 b2 k2 (.object "com/example/failfirst/failfirst/Operator") (22 : Int32) [(.ref w_NEG), (.ref w_ABS), (.ref w_ADD), (.ref w_SUB), (.ref w_MUL), (.ref w_DIV), (.ref w_MOD), (.ref w_DIST), (.ref w_MIN), (.ref w_MAX), .null, .null, .null, .null, .null, .null, .null, .null, .null, .null, .null, .null] .null := Arv.set Ar_b2 q_b2 S_b2 N_b2 H_b2 G_b2 rfl W32 9 rfl (Nat.le_of_ble_eq_true rfl)
  have K32 : Keep h0 h32 [] := K29.wr W32 (Or.inr sz_b2)
  have N32 := Fr.snoc X32 N29 g_b2
  obtain ⟨T34, X34, e34, st34⟩ := getS2 X32 hx hZ hown (host := "") (Or.inl (hw _ (List.mem_of_getElem? (i := 24) rfl))) Via.refl e32 (((((((((((S_LT.ext E2).wr W5).wr W8).wr W11).wr W14).wr W17).wr W20).wr W23).wr W26).wr W29).wr W32) (g := (mkF m 72 #[.val (.int p1), .unset, .unset, .unset, .unset] [(.int (10 : Int32)), (.ref b2), (.ref b2)])) rfl (hb hby at_72)
  obtain ⟨cl_b2_75, Ar_b2, q_b2, S_b2, N_b2, H_b2, G_b2⟩ := V_b2_32
  have hin75 : ¬ ((10 : Int32) < 0 ∨ cl_b2_75.slots.size ≤ ((10 : Int32)).toNatClampNeg) := inb_of S_b2 ⟨by decide, by decide⟩
  have Sto75 : Sto Z h32 b2 (.ref w_LT) := Sto.ofV Ar_b2 q_b2 O2 (Ins.self (((((((((((E_LT.ext E2).wr W5).wr W8).wr W11).wr W14).wr W17).wr W20).wr W23).wr W26).wr W29).wr W32))
  obtain ⟨T35, h35, X35, e35, W35, st35⟩ := stR X34 hx hZ e34 Ar_b2 (j := (10 : Int32)) hin75 rfl Sto75 (g := (mkF m 75 #[.val (.int p1), .unset, .unset, .unset, .unset] [(.ref w_LT), (.int (10 : Int32)), (.ref b2), (.ref b2)])) rfl rfl (hb hby at_75)
  have V_b2_35 : Arv Z h35 b2 k2 (.object "com/example/failfirst/failfirst/Operator") (22 : Int32) [(.ref w_NEG), (.ref w_ABS), (.ref w_ADD), (.ref w_SUB), (.ref w_MUL), (.ref w_DIV), (.ref w_MOD), (.ref w_DIST), (.ref w_MIN), (.ref w_MAX), (.ref w_LT), .null, .null, .null, .null, .null, .null, .null, .null, .null, .null, .null] .null := Arv.set Ar_b2 q_b2 S_b2 N_b2 H_b2 G_b2 rfl W35 10 rfl (Nat.le_of_ble_eq_true rfl)
  have K35 : Keep h0 h35 [] := K32.wr W35 (Or.inr sz_b2)
  have N35 := Fr.snoc X35 N32 g_b2
  obtain ⟨T37, X37, e37, st37⟩ := getS2 X35 hx hZ hown (host := "") (Or.inl (hw _ (List.mem_of_getElem? (i := 26) rfl))) Via.refl e35 ((((((((((((S_LE.ext E2).wr W5).wr W8).wr W11).wr W14).wr W17).wr W20).wr W23).wr W26).wr W29).wr W32).wr W35) (g := (mkF m 79 #[.val (.int p1), .unset, .unset, .unset, .unset] [(.int (11 : Int32)), (.ref b2), (.ref b2)])) rfl (hb hby at_79)
  obtain ⟨cl_b2_82, Ar_b2, q_b2, S_b2, N_b2, H_b2, G_b2⟩ := V_b2_35
  have hin82 : ¬ ((11 : Int32) < 0 ∨ cl_b2_82.slots.size ≤ ((11 : Int32)).toNatClampNeg) := inb_of S_b2 ⟨by decide, by decide⟩
  have Sto82 : Sto Z h35 b2 (.ref w_LE) := Sto.ofV Ar_b2 q_b2 O2 (Ins.self ((((((((((((E_LE.ext E2).wr W5).wr W8).wr W11).wr W14).wr W17).wr W20).wr W23).wr W26).wr W29).wr W32).wr W35))
  obtain ⟨T38, h38, X38, e38, W38, st38⟩ := stR X37 hx hZ e37 Ar_b2 (j := (11 : Int32)) hin82 rfl Sto82 (g := (mkF m 82 #[.val (.int p1), .unset, .unset, .unset, .unset] [(.ref w_LE), (.int (11 : Int32)), (.ref b2), (.ref b2)])) rfl rfl (hb hby at_82)
  have V_b2_38 : Arv Z h38 b2 k2 (.object "com/example/failfirst/failfirst/Operator") (22 : Int32) [(.ref w_NEG), (.ref w_ABS), (.ref w_ADD), (.ref w_SUB), (.ref w_MUL), (.ref w_DIV), (.ref w_MOD), (.ref w_DIST), (.ref w_MIN), (.ref w_MAX), (.ref w_LT), (.ref w_LE), .null, .null, .null, .null, .null, .null, .null, .null, .null, .null] .null := Arv.set Ar_b2 q_b2 S_b2 N_b2 H_b2 G_b2 rfl W38 11 rfl (Nat.le_of_ble_eq_true rfl)
  have K38 : Keep h0 h38 [] := K35.wr W38 (Or.inr sz_b2)
  have N38 := Fr.snoc X38 N35 g_b2
  obtain ⟨T40, X40, e40, st40⟩ := getS2 X38 hx hZ hown (host := "") (Or.inl (hw _ (List.mem_of_getElem? (i := 28) rfl))) Via.refl e38 (((((((((((((S_GE.ext E2).wr W5).wr W8).wr W11).wr W14).wr W17).wr W20).wr W23).wr W26).wr W29).wr W32).wr W35).wr W38) (g := (mkF m 86 #[.val (.int p1), .unset, .unset, .unset, .unset] [(.int (12 : Int32)), (.ref b2), (.ref b2)])) rfl (hb hby at_86)
  obtain ⟨cl_b2_89, Ar_b2, q_b2, S_b2, N_b2, H_b2, G_b2⟩ := V_b2_38
  have hin89 : ¬ ((12 : Int32) < 0 ∨ cl_b2_89.slots.size ≤ ((12 : Int32)).toNatClampNeg) := inb_of S_b2 ⟨by decide, by decide⟩
  have Sto89 : Sto Z h38 b2 (.ref w_GE) := Sto.ofV Ar_b2 q_b2 O2 (Ins.self (((((((((((((E_GE.ext E2).wr W5).wr W8).wr W11).wr W14).wr W17).wr W20).wr W23).wr W26).wr W29).wr W32).wr W35).wr W38))
  obtain ⟨T41, h41, X41, e41, W41, st41⟩ := stR X40 hx hZ e40 Ar_b2 (j := (12 : Int32)) hin89 rfl Sto89 (g := (mkF m 89 #[.val (.int p1), .unset, .unset, .unset, .unset] [(.ref w_GE), (.int (12 : Int32)), (.ref b2), (.ref b2)])) rfl rfl (hb hby at_89)
  have V_b2_41 : Arv Z h41 b2 k2 (.object "com/example/failfirst/failfirst/Operator") (22 : Int32) [(.ref w_NEG), (.ref w_ABS), (.ref w_ADD), (.ref w_SUB), (.ref w_MUL), (.ref w_DIV), (.ref w_MOD), (.ref w_DIST), (.ref w_MIN), (.ref w_MAX), (.ref w_LT), (.ref w_LE), (.ref w_GE), .null, .null, .null, .null, .null, .null, .null, .null, .null] .null := Arv.set Ar_b2 q_b2 S_b2 N_b2 H_b2 G_b2 rfl W41 12 rfl (Nat.le_of_ble_eq_true rfl)
  have K41 : Keep h0 h41 [] := K38.wr W41 (Or.inr sz_b2)
  have N41 := Fr.snoc X41 N38 g_b2
  obtain ⟨T43, X43, e43, st43⟩ := getS2 X41 hx hZ hown (host := "") (Or.inl (hw _ (List.mem_of_getElem? (i := 30) rfl))) Via.refl e41 ((((((((((((((S_GT.ext E2).wr W5).wr W8).wr W11).wr W14).wr W17).wr W20).wr W23).wr W26).wr W29).wr W32).wr W35).wr W38).wr W41) (g := (mkF m 93 #[.val (.int p1), .unset, .unset, .unset, .unset] [(.int (13 : Int32)), (.ref b2), (.ref b2)])) rfl (hb hby at_93)
  obtain ⟨cl_b2_96, Ar_b2, q_b2, S_b2, N_b2, H_b2, G_b2⟩ := V_b2_41
  have hin96 : ¬ ((13 : Int32) < 0 ∨ cl_b2_96.slots.size ≤ ((13 : Int32)).toNatClampNeg) := inb_of S_b2 ⟨by decide, by decide⟩
  have Sto96 : Sto Z h41 b2 (.ref w_GT) := Sto.ofV Ar_b2 q_b2 O2 (Ins.self ((((((((((((((E_GT.ext E2).wr W5).wr W8).wr W11).wr W14).wr W17).wr W20).wr W23).wr W26).wr W29).wr W32).wr W35).wr W38).wr W41))
  obtain ⟨T44, h44, X44, e44, W44, st44⟩ := stR X43 hx hZ e43 Ar_b2 (j := (13 : Int32)) hin96 rfl Sto96 (g := (mkF m 96 #[.val (.int p1), .unset, .unset, .unset, .unset] [(.ref w_GT), (.int (13 : Int32)), (.ref b2), (.ref b2)])) rfl rfl (hb hby at_96)
  have V_b2_44 : Arv Z h44 b2 k2 (.object "com/example/failfirst/failfirst/Operator") (22 : Int32) [(.ref w_NEG), (.ref w_ABS), (.ref w_ADD), (.ref w_SUB), (.ref w_MUL), (.ref w_DIV), (.ref w_MOD), (.ref w_DIST), (.ref w_MIN), (.ref w_MAX), (.ref w_LT), (.ref w_LE), (.ref w_GE), (.ref w_GT), .null, .null, .null, .null, .null, .null, .null, .null] .null := Arv.set Ar_b2 q_b2 S_b2 N_b2 H_b2 G_b2 rfl W44 13 rfl (Nat.le_of_ble_eq_true rfl)
  have K44 : Keep h0 h44 [] := K41.wr W44 (Or.inr sz_b2)
  have N44 := Fr.snoc X44 N41 g_b2
  obtain ⟨T46, X46, e46, st46⟩ := getS2 X44 hx hZ hown (host := "") (Or.inl (hw _ (List.mem_of_getElem? (i := 32) rfl))) Via.refl e44 (((((((((((((((S_EQ.ext E2).wr W5).wr W8).wr W11).wr W14).wr W17).wr W20).wr W23).wr W26).wr W29).wr W32).wr W35).wr W38).wr W41).wr W44) (g := (mkF m 100 #[.val (.int p1), .unset, .unset, .unset, .unset] [(.int (14 : Int32)), (.ref b2), (.ref b2)])) rfl (hb hby at_100)
  obtain ⟨cl_b2_103, Ar_b2, q_b2, S_b2, N_b2, H_b2, G_b2⟩ := V_b2_44
  have hin103 : ¬ ((14 : Int32) < 0 ∨ cl_b2_103.slots.size ≤ ((14 : Int32)).toNatClampNeg) := inb_of S_b2 ⟨by decide, by decide⟩
  have Sto103 : Sto Z h44 b2 (.ref w_EQ) := Sto.ofV Ar_b2 q_b2 O2 (Ins.self (((((((((((((((E_EQ.ext E2).wr W5).wr W8).wr W11).wr W14).wr W17).wr W20).wr W23).wr W26).wr W29).wr W32).wr W35).wr W38).wr W41).wr W44))
  obtain ⟨T47, h47, X47, e47, W47, st47⟩ := stR X46 hx hZ e46 Ar_b2 (j := (14 : Int32)) hin103 rfl Sto103 (g := (mkF m 103 #[.val (.int p1), .unset, .unset, .unset, .unset] [(.ref w_EQ), (.int (14 : Int32)), (.ref b2), (.ref b2)])) rfl rfl (hb hby at_103)
  have V_b2_47 : Arv Z h47 b2 k2 (.object "com/example/failfirst/failfirst/Operator") (22 : Int32) [(.ref w_NEG), (.ref w_ABS), (.ref w_ADD), (.ref w_SUB), (.ref w_MUL), (.ref w_DIV), (.ref w_MOD), (.ref w_DIST), (.ref w_MIN), (.ref w_MAX), (.ref w_LT), (.ref w_LE), (.ref w_GE), (.ref w_GT), (.ref w_EQ), .null, .null, .null, .null, .null, .null, .null] .null := Arv.set Ar_b2 q_b2 S_b2 N_b2 H_b2 G_b2 rfl W47 14 rfl (Nat.le_of_ble_eq_true rfl)
  have K47 : Keep h0 h47 [] := K44.wr W47 (Or.inr sz_b2)
  have N47 := Fr.snoc X47 N44 g_b2
  obtain ⟨T49, X49, e49, st49⟩ := getS2 X47 hx hZ hown (host := "") (Or.inl (hw _ (List.mem_of_getElem? (i := 34) rfl))) Via.refl e47 ((((((((((((((((S_NE.ext E2).wr W5).wr W8).wr W11).wr W14).wr W17).wr W20).wr W23).wr W26).wr W29).wr W32).wr W35).wr W38).wr W41).wr W44).wr W47) (g := (mkF m 107 #[.val (.int p1), .unset, .unset, .unset, .unset] [(.int (15 : Int32)), (.ref b2), (.ref b2)])) rfl (hb hby at_107)
  obtain ⟨cl_b2_110, Ar_b2, q_b2, S_b2, N_b2, H_b2, G_b2⟩ := V_b2_47
  have hin110 : ¬ ((15 : Int32) < 0 ∨ cl_b2_110.slots.size ≤ ((15 : Int32)).toNatClampNeg) := inb_of S_b2 ⟨by decide, by decide⟩
  have Sto110 : Sto Z h47 b2 (.ref w_NE) := Sto.ofV Ar_b2 q_b2 O2 (Ins.self ((((((((((((((((E_NE.ext E2).wr W5).wr W8).wr W11).wr W14).wr W17).wr W20).wr W23).wr W26).wr W29).wr W32).wr W35).wr W38).wr W41).wr W44).wr W47))
  obtain ⟨T50, h50, X50, e50, W50, st50⟩ := stR X49 hx hZ e49 Ar_b2 (j := (15 : Int32)) hin110 rfl Sto110 (g := (mkF m 110 #[.val (.int p1), .unset, .unset, .unset, .unset] [(.ref w_NE), (.int (15 : Int32)), (.ref b2), (.ref b2)])) rfl rfl (hb hby at_110)
  have V_b2_50 : Arv Z h50 b2 k2 (.object "com/example/failfirst/failfirst/Operator") (22 : Int32) [(.ref w_NEG), (.ref w_ABS), (.ref w_ADD), (.ref w_SUB), (.ref w_MUL), (.ref w_DIV), (.ref w_MOD), (.ref w_DIST), (.ref w_MIN), (.ref w_MAX), (.ref w_LT), (.ref w_LE), (.ref w_GE), (.ref w_GT), (.ref w_EQ), (.ref w_NE), .null, .null, .null, .null, .null, .null] .null := Arv.set Ar_b2 q_b2 S_b2 N_b2 H_b2 G_b2 rfl W50 15 rfl (Nat.le_of_ble_eq_true rfl)
  have K50 : Keep h0 h50 [] := K47.wr W50 (Or.inr sz_b2)
  have N50 := Fr.snoc X50 N47 g_b2
  obtain ⟨T52, X52, e52, st52⟩ := getS2 X50 hx hZ hown (host := "") (Or.inl (hw _ (List.mem_of_getElem? (i := 36) rfl))) Via.refl e50 (((((((((((((((((S_NOT.ext E2).wr W5).wr W8).wr W11).wr W14).wr W17).wr W20).wr W23).wr W26).wr W29).wr W32).wr W35).wr W38).wr W41).wr W44).wr W47).wr W50) (g := (mkF m 114 #[.val (.int p1), .unset, .unset, .unset, .unset] [(.int (16 : Int32)), (.ref b2), (.ref b2)])) rfl (hb hby at_114)
  obtain ⟨cl_b2_117, Ar_b2, q_b2, S_b2, N_b2, H_b2, G_b2⟩ := V_b2_50
  have hin117 : ¬ ((16 : Int32) < 0 ∨ cl_b2_117.slots.size ≤ ((16 : Int32)).toNatClampNeg) := inb_of S_b2 ⟨by decide, by decide⟩
  have Sto117 : Sto Z h50 b2 (.ref w_NOT) := Sto.ofV Ar_b2 q_b2 O2 (Ins.self (((((((((((((((((E_NOT.ext E2).wr W5).wr W8).wr W11).wr W14).wr W17).wr W20).wr W23).wr W26).wr W29).wr W32).wr W35).wr W38).wr W41).wr W44).wr W47).wr W50))
  obtain ⟨T53, h53, X53, e53, W53, st53⟩ := stR X52 hx hZ e52 Ar_b2 (j := (16 : Int32)) hin117 rfl Sto117 (g := (mkF m 117 #[.val (.int p1), .unset, .unset, .unset, .unset] [(.ref w_NOT), (.int (16 : Int32)), (.ref b2), (.ref b2)])) rfl rfl (hb hby at_117)
  have V_b2_53 : Arv Z h53 b2 k2 (.object "com/example/failfirst/failfirst/Operator") (22 : Int32) [(.ref w_NEG), (.ref w_ABS), (.ref w_ADD), (.ref w_SUB), (.ref w_MUL), (.ref w_DIV), (.ref w_MOD), (.ref w_DIST), (.ref w_MIN), (.ref w_MAX), (.ref w_LT), (.ref w_LE), (.ref w_GE), (.ref w_GT), (.ref w_EQ), (.ref w_NE), (.ref w_NOT), .null, .null, .null, .null, .null] .null := Arv.set Ar_b2 q_b2 S_b2 N_b2 H_b2 G_b2 rfl W53 16 rfl (Nat.le_of_ble_eq_true rfl)
  have K53 : Keep h0 h53 [] := K50.wr W53 (Or.inr sz_b2)
  have N53 := Fr.snoc X53 N50 g_b2
  obtain ⟨T55, X55, e55, st55⟩ := getS2 X53 hx hZ hown (host := "") (Or.inl (hw _ (List.mem_of_getElem? (i := 38) rfl))) Via.refl e53 ((((((((((((((((((S_AND.ext E2).wr W5).wr W8).wr W11).wr W14).wr W17).wr W20).wr W23).wr W26).wr W29).wr W32).wr W35).wr W38).wr W41).wr W44).wr W47).wr W50).wr W53) (g := (mkF m 121 #[.val (.int p1), .unset, .unset, .unset, .unset] [(.int (17 : Int32)), (.ref b2), (.ref b2)])) rfl (hb hby at_121)
  obtain ⟨cl_b2_124, Ar_b2, q_b2, S_b2, N_b2, H_b2, G_b2⟩ := V_b2_53
  have hin124 : ¬ ((17 : Int32) < 0 ∨ cl_b2_124.slots.size ≤ ((17 : Int32)).toNatClampNeg) := inb_of S_b2 ⟨by decide, by decide⟩
  have Sto124 : Sto Z h53 b2 (.ref w_AND) := Sto.ofV Ar_b2 q_b2 O2 (Ins.self ((((((((((((((((((E_AND.ext E2).wr W5).wr W8).wr W11).wr W14).wr W17).wr W20).wr W23).wr W26).wr W29).wr W32).wr W35).wr W38).wr W41).wr W44).wr W47).wr W50).wr W53))
  obtain ⟨T56, h56, X56, e56, W56, st56⟩ := stR X55 hx hZ e55 Ar_b2 (j := (17 : Int32)) hin124 rfl Sto124 (g := (mkF m 124 #[.val (.int p1), .unset, .unset, .unset, .unset] [(.ref w_AND), (.int (17 : Int32)), (.ref b2), (.ref b2)])) rfl rfl (hb hby at_124)
  have V_b2_56 : Arv Z h56 b2 k2 (.object "com/example/failfirst/failfirst/Operator") (22 : Int32) [(.ref w_NEG), (.ref w_ABS), (.ref w_ADD), (.ref w_SUB), (.ref w_MUL), (.ref w_DIV), (.ref w_MOD), (.ref w_DIST), (.ref w_MIN), (.ref w_MAX), (.ref w_LT), (.ref w_LE), (.ref w_GE), (.ref w_GT), (.ref w_EQ), (.ref w_NE), (.ref w_NOT), (.ref w_AND), .null, .null, .null, .null] .null := Arv.set Ar_b2 q_b2 S_b2 N_b2 H_b2 G_b2 rfl W56 17 rfl (Nat.le_of_ble_eq_true rfl)
  have K56 : Keep h0 h56 [] := K53.wr W56 (Or.inr sz_b2)
  have N56 := Fr.snoc X56 N53 g_b2
  obtain ⟨T58, X58, e58, st58⟩ := getS2 X56 hx hZ hown (host := "") (Or.inl (hw _ (List.mem_of_getElem? (i := 40) rfl))) Via.refl e56 (((((((((((((((((((S_OR.ext E2).wr W5).wr W8).wr W11).wr W14).wr W17).wr W20).wr W23).wr W26).wr W29).wr W32).wr W35).wr W38).wr W41).wr W44).wr W47).wr W50).wr W53).wr W56) (g := (mkF m 128 #[.val (.int p1), .unset, .unset, .unset, .unset] [(.int (18 : Int32)), (.ref b2), (.ref b2)])) rfl (hb hby at_128)
  obtain ⟨cl_b2_131, Ar_b2, q_b2, S_b2, N_b2, H_b2, G_b2⟩ := V_b2_56
  have hin131 : ¬ ((18 : Int32) < 0 ∨ cl_b2_131.slots.size ≤ ((18 : Int32)).toNatClampNeg) := inb_of S_b2 ⟨by decide, by decide⟩
  have Sto131 : Sto Z h56 b2 (.ref w_OR) := Sto.ofV Ar_b2 q_b2 O2 (Ins.self (((((((((((((((((((E_OR.ext E2).wr W5).wr W8).wr W11).wr W14).wr W17).wr W20).wr W23).wr W26).wr W29).wr W32).wr W35).wr W38).wr W41).wr W44).wr W47).wr W50).wr W53).wr W56))
  obtain ⟨T59, h59, X59, e59, W59, st59⟩ := stR X58 hx hZ e58 Ar_b2 (j := (18 : Int32)) hin131 rfl Sto131 (g := (mkF m 131 #[.val (.int p1), .unset, .unset, .unset, .unset] [(.ref w_OR), (.int (18 : Int32)), (.ref b2), (.ref b2)])) rfl rfl (hb hby at_131)
  have V_b2_59 : Arv Z h59 b2 k2 (.object "com/example/failfirst/failfirst/Operator") (22 : Int32) [(.ref w_NEG), (.ref w_ABS), (.ref w_ADD), (.ref w_SUB), (.ref w_MUL), (.ref w_DIV), (.ref w_MOD), (.ref w_DIST), (.ref w_MIN), (.ref w_MAX), (.ref w_LT), (.ref w_LE), (.ref w_GE), (.ref w_GT), (.ref w_EQ), (.ref w_NE), (.ref w_NOT), (.ref w_AND), (.ref w_OR), .null, .null, .null] .null := Arv.set Ar_b2 q_b2 S_b2 N_b2 H_b2 G_b2 rfl W59 18 rfl (Nat.le_of_ble_eq_true rfl)
  have K59 : Keep h0 h59 [] := K56.wr W59 (Or.inr sz_b2)
  have N59 := Fr.snoc X59 N56 g_b2
  obtain ⟨T61, X61, e61, st61⟩ := getS2 X59 hx hZ hown (host := "") (Or.inl (hw _ (List.mem_of_getElem? (i := 42) rfl))) Via.refl e59 ((((((((((((((((((((S_XOR.ext E2).wr W5).wr W8).wr W11).wr W14).wr W17).wr W20).wr W23).wr W26).wr W29).wr W32).wr W35).wr W38).wr W41).wr W44).wr W47).wr W50).wr W53).wr W56).wr W59) (g := (mkF m 135 #[.val (.int p1), .unset, .unset, .unset, .unset] [(.int (19 : Int32)), (.ref b2), (.ref b2)])) rfl (hb hby at_135)
  obtain ⟨cl_b2_138, Ar_b2, q_b2, S_b2, N_b2, H_b2, G_b2⟩ := V_b2_59
  have hin138 : ¬ ((19 : Int32) < 0 ∨ cl_b2_138.slots.size ≤ ((19 : Int32)).toNatClampNeg) := inb_of S_b2 ⟨by decide, by decide⟩
  have Sto138 : Sto Z h59 b2 (.ref w_XOR) := Sto.ofV Ar_b2 q_b2 O2 (Ins.self ((((((((((((((((((((E_XOR.ext E2).wr W5).wr W8).wr W11).wr W14).wr W17).wr W20).wr W23).wr W26).wr W29).wr W32).wr W35).wr W38).wr W41).wr W44).wr W47).wr W50).wr W53).wr W56).wr W59))
  obtain ⟨T62, h62, X62, e62, W62, st62⟩ := stR X61 hx hZ e61 Ar_b2 (j := (19 : Int32)) hin138 rfl Sto138 (g := (mkF m 138 #[.val (.int p1), .unset, .unset, .unset, .unset] [(.ref w_XOR), (.int (19 : Int32)), (.ref b2), (.ref b2)])) rfl rfl (hb hby at_138)
  have V_b2_62 : Arv Z h62 b2 k2 (.object "com/example/failfirst/failfirst/Operator") (22 : Int32) [(.ref w_NEG), (.ref w_ABS), (.ref w_ADD), (.ref w_SUB), (.ref w_MUL), (.ref w_DIV), (.ref w_MOD), (.ref w_DIST), (.ref w_MIN), (.ref w_MAX), (.ref w_LT), (.ref w_LE), (.ref w_GE), (.ref w_GT), (.ref w_EQ), (.ref w_NE), (.ref w_NOT), (.ref w_AND), (.ref w_OR), (.ref w_XOR), .null, .null] .null := Arv.set Ar_b2 q_b2 S_b2 N_b2 H_b2 G_b2 rfl W62 19 rfl (Nat.le_of_ble_eq_true rfl)
  have K62 : Keep h0 h62 [] := K59.wr W62 (Or.inr sz_b2)
  have N62 := Fr.snoc X62 N59 g_b2
  obtain ⟨T64, X64, e64, st64⟩ := getS2 X62 hx hZ hown (host := "") (Or.inl (hw _ (List.mem_of_getElem? (i := 44) rfl))) Via.refl e62 (((((((((((((((((((((S_IFF.ext E2).wr W5).wr W8).wr W11).wr W14).wr W17).wr W20).wr W23).wr W26).wr W29).wr W32).wr W35).wr W38).wr W41).wr W44).wr W47).wr W50).wr W53).wr W56).wr W59).wr W62) (g := (mkF m 142 #[.val (.int p1), .unset, .unset, .unset, .unset] [(.int (20 : Int32)), (.ref b2), (.ref b2)])) rfl (hb hby at_142)
  obtain ⟨cl_b2_145, Ar_b2, q_b2, S_b2, N_b2, H_b2, G_b2⟩ := V_b2_62
  have hin145 : ¬ ((20 : Int32) < 0 ∨ cl_b2_145.slots.size ≤ ((20 : Int32)).toNatClampNeg) := inb_of S_b2 ⟨by decide, by decide⟩
  have Sto145 : Sto Z h62 b2 (.ref w_IFF) := Sto.ofV Ar_b2 q_b2 O2 (Ins.self (((((((((((((((((((((E_IFF.ext E2).wr W5).wr W8).wr W11).wr W14).wr W17).wr W20).wr W23).wr W26).wr W29).wr W32).wr W35).wr W38).wr W41).wr W44).wr W47).wr W50).wr W53).wr W56).wr W59).wr W62))
  obtain ⟨T65, h65, X65, e65, W65, st65⟩ := stR X64 hx hZ e64 Ar_b2 (j := (20 : Int32)) hin145 rfl Sto145 (g := (mkF m 145 #[.val (.int p1), .unset, .unset, .unset, .unset] [(.ref w_IFF), (.int (20 : Int32)), (.ref b2), (.ref b2)])) rfl rfl (hb hby at_145)
  have V_b2_65 : Arv Z h65 b2 k2 (.object "com/example/failfirst/failfirst/Operator") (22 : Int32) [(.ref w_NEG), (.ref w_ABS), (.ref w_ADD), (.ref w_SUB), (.ref w_MUL), (.ref w_DIV), (.ref w_MOD), (.ref w_DIST), (.ref w_MIN), (.ref w_MAX), (.ref w_LT), (.ref w_LE), (.ref w_GE), (.ref w_GT), (.ref w_EQ), (.ref w_NE), (.ref w_NOT), (.ref w_AND), (.ref w_OR), (.ref w_XOR), (.ref w_IFF), .null] .null := Arv.set Ar_b2 q_b2 S_b2 N_b2 H_b2 G_b2 rfl W65 20 rfl (Nat.le_of_ble_eq_true rfl)
  have K65 : Keep h0 h65 [] := K62.wr W65 (Or.inr sz_b2)
  have N65 := Fr.snoc X65 N62 g_b2
  obtain ⟨T67, X67, e67, st67⟩ := getS2 X65 hx hZ hown (host := "") (Or.inl (hw _ (List.mem_of_getElem? (i := 46) rfl))) Via.refl e65 ((((((((((((((((((((((S_IMP.ext E2).wr W5).wr W8).wr W11).wr W14).wr W17).wr W20).wr W23).wr W26).wr W29).wr W32).wr W35).wr W38).wr W41).wr W44).wr W47).wr W50).wr W53).wr W56).wr W59).wr W62).wr W65) (g := (mkF m 149 #[.val (.int p1), .unset, .unset, .unset, .unset] [(.int (21 : Int32)), (.ref b2), (.ref b2)])) rfl (hb hby at_149)
  obtain ⟨cl_b2_152, Ar_b2, q_b2, S_b2, N_b2, H_b2, G_b2⟩ := V_b2_65
  have hin152 : ¬ ((21 : Int32) < 0 ∨ cl_b2_152.slots.size ≤ ((21 : Int32)).toNatClampNeg) := inb_of S_b2 ⟨by decide, by decide⟩
  have Sto152 : Sto Z h65 b2 (.ref w_IMP) := Sto.ofV Ar_b2 q_b2 O2 (Ins.self ((((((((((((((((((((((E_IMP.ext E2).wr W5).wr W8).wr W11).wr W14).wr W17).wr W20).wr W23).wr W26).wr W29).wr W32).wr W35).wr W38).wr W41).wr W44).wr W47).wr W50).wr W53).wr W56).wr W59).wr W62).wr W65))
  obtain ⟨T68, h68, X68, e68, W68, st68⟩ := stR X67 hx hZ e67 Ar_b2 (j := (21 : Int32)) hin152 rfl Sto152 (g := (mkF m 152 #[.val (.int p1), .unset, .unset, .unset, .unset] [(.ref w_IMP), (.int (21 : Int32)), (.ref b2), (.ref b2)])) rfl rfl (hb hby at_152)
  have V_b2_68 : Arv Z h68 b2 k2 (.object "com/example/failfirst/failfirst/Operator") (22 : Int32) [(.ref w_NEG), (.ref w_ABS), (.ref w_ADD), (.ref w_SUB), (.ref w_MUL), (.ref w_DIV), (.ref w_MOD), (.ref w_DIST), (.ref w_MIN), (.ref w_MAX), (.ref w_LT), (.ref w_LE), (.ref w_GE), (.ref w_GT), (.ref w_EQ), (.ref w_NE), (.ref w_NOT), (.ref w_AND), (.ref w_OR), (.ref w_XOR), (.ref w_IFF), (.ref w_IMP)] .null := Arv.set Ar_b2 q_b2 S_b2 N_b2 H_b2 G_b2 rfl W68 21 rfl (Nat.le_of_ble_eq_true rfl)
  have K68 : Keep h0 h68 [] := K65.wr W68 (Or.inr sz_b2)
  have N68 := Fr.snoc X68 N65 g_b2
  obtain ⟨cl_b2_164, Ar_b2_164, q_b2_164, S_b2_164, N_b2_164, H_b2_164, G_b2_164⟩ := V_b2_68
  have hin164 : ¬ (((p1 &&& (2147483647 : Int32)) % (22 : Int32)) < 0 ∨ cl_b2_164.slots.size ≤ (((p1 &&& (2147483647 : Int32)) % (22 : Int32))).toNatClampNeg) := inb_of S_b2_164 ⟨hj0, hj1⟩
  have hat164 : cl_b2_164.slots[(((p1 &&& (2147483647 : Int32)) % (22 : Int32))).toNatClampNeg]? = some (.ref wx) := (H_b2_164 _ (by rw [S_b2_164]; exact hlt)).trans (congrArg some hsel)
  obtain ⟨T69, X69, e69, st69⟩ := getS2 X68 hx hZ hown (host := "") (Or.inl (hw _ (List.mem_of_getElem? (i := 24) rfl))) Via.refl e68 (((((((((((((((((((((((S_LT.ext E2).wr W5).wr W8).wr W11).wr W14).wr W17).wr W20).wr W23).wr W26).wr W29).wr W32).wr W35).wr W38).wr W41).wr W44).wr W47).wr W50).wr W53).wr W56).wr W59).wr W62).wr W65).wr W68) (g := (mkF m 167 #[.val (.int p1), .val (.ref b2), .val (.int ((p1 &&& (2147483647 : Int32)) % (22 : Int32))), .val (.ref wx), .unset] [(.ref wx)])) rfl (hb hby at_167)
  obtain ⟨T70, X70, e70, st70⟩ := getS2 X69 hx hZ hown (host := "") (Or.inl (hw _ (List.mem_of_getElem? (i := 26) rfl))) Via.refl e69 (((((((((((((((((((((((S_LE.ext E2).wr W5).wr W8).wr W11).wr W14).wr W17).wr W20).wr W23).wr W26).wr W29).wr W32).wr W35).wr W38).wr W41).wr W44).wr W47).wr W50).wr W53).wr W56).wr W59).wr W62).wr W65).wr W68) (g := (mkF m 174 #[.val (.int p1), .val (.ref b2), .val (.int ((p1 &&& (2147483647 : Int32)) % (22 : Int32))), .val (.ref wx), .unset] [(.ref wx)])) rfl (hb hby at_174)
  obtain ⟨T71, X71, e71, st71⟩ := getS2 X70 hx hZ hown (host := "") (Or.inl (hw _ (List.mem_of_getElem? (i := 28) rfl))) Via.refl e70 (((((((((((((((((((((((S_GE.ext E2).wr W5).wr W8).wr W11).wr W14).wr W17).wr W20).wr W23).wr W26).wr W29).wr W32).wr W35).wr W38).wr W41).wr W44).wr W47).wr W50).wr W53).wr W56).wr W59).wr W62).wr W65).wr W68) (g := (mkF m 181 #[.val (.int p1), .val (.ref b2), .val (.int ((p1 &&& (2147483647 : Int32)) % (22 : Int32))), .val (.ref wx), .unset] [(.ref wx)])) rfl (hb hby at_181)
  obtain ⟨LL, X71, N68⟩ : ∃ LL, Stand p l e room_1 s m #[(.int p1)] below meth c T71 LL (0 + 1) (0 + 22) ∧ Fr n0 LL := ⟨_, X71, N68⟩
  obtain ⟨cq72, kq72, q72a, q72b, q72c⟩ := isOf hZ e71 (((((((((((((((((((((((E_wx.ext E2).wr W5).wr W8).wr W11).wr W14).wr W17).wr W20).wr W23).wr W26).wr W29).wr W32).wr W35).wr W38).wr W41).wr W44).wr W47).wr W50).wr W53).wr W56).wr W59).wr W62).wr W65).wr W68)
  obtain ⟨_, _, ⟨T72, L72, k72, n72⟩, -, X72, ⟨Lc72, hQ72, l72, y72, z72⟩, st72⟩ := X71.virtualBack hx (y := (⟨"com/example/failfirst/failfirst/Operator", "chains", "()Z"⟩ : MethodName)) (z := (⟨"com/example/failfirst/failfirst/Operator", "chains", "()Z"⟩ : MethodName)) hown (mvT hZ (hw _ (List.mem_of_getElem? (i := 49) rfl))) (mvT hZ (hw _ (List.mem_of_getElem? (i := 50) rfl))) (notFace_of_selects (args := #[]) (mvT hZ (hw _ (List.mem_of_getElem? (i := 52) rfl)))) (mvT hZ (hw _ (List.mem_of_getElem? (i := 52) rfl))) (mvT hZ (hw _ (List.mem_of_getElem? (i := 51) rfl))) (by decide) (backOf (W := 0) (rm1_f l Z a0 hw [] wx wk w_COMPARISON h68 n0 (Nat.le_trans Z0 K68.1) (F_kind.keep K68 List.not_mem_nil) (((((((((((((((((((((((S_COMPARISON.ext E2).wr W5).wr W8).wr W11).wr W14).wr W17).wr W20).wr W23).wr W26).wr W29).wr W32).wr W35).wr W38).wr W41).wr W44).wr W47).wr W50).wr W53).wr W56).wr W59).wr W62).wr W65).wr W68) hkd) hZ (hw _ (List.mem_of_getElem? (i := 53) rfl)) (hw _ (List.mem_of_getElem? (i := 3) rfl)) (by decide) (by decide)) q72a q72c (g := (mkF m 216 #[.val (.int p1), .val (.ref b2), .val (.int ((p1 &&& (2147483647 : Int32)) % (22 : Int32))), .val (.ref wx), .val (.int (1 : Int32))] [(.ref wx)])) rfl (by rw [hml]; rfl) (Steps.refl _) (argsL := []) (rest := []) (lenOf pd_0_0 rfl) rfl (by show 2 * 0 + _ ≤ _; exact Nat.le_of_eq rfl) (hb hby at_216) (fun _ _ => ⟨rfl, e71, (by decide : 1 + 0 ≤ _), (by decide : 22 + 0 ≤ _)⟩)
  dsimp only [Pt.U, Pt.locs, Pt.cells, Pt.slots] at X72 l72 y72 z72 st72 hQ72
  subst l72 y72 z72
  obtain ⟨rfl, N72q, e72q⟩ := hQ72
  have N72 := Fr.app N68 N72q
  obtain ⟨fs, hr, hrun, hended, hW, hsame⟩ := X72.leave (v := some (.int (1 : Int32))) (fun h => by rw [Bd.returns] at h; cases h) Bd.notSynchronized
  refine ⟨_, _, pre0 _ ?_, hrun, hended, _, _, rfl, ?_, ⟨_, rfl⟩, hW, hsame.mono (by decide) (by decide)⟩
  · show Steps p.tables e below (s₁.setTop (mkF m 0 #[.val (.int p1), .unset, .unset, .unset, .unset] [])) _
    refine XS.bipush X0.here hx rfl (hb hby at_0) ?_
    show Steps p.tables e below (s₁.setTop (mkF m 2 #[.val (.int p1), .unset, .unset, .unset, .unset] [(.int (22 : Int32))])) _
    refine st2 _ ?_
    show Steps p.tables e below (T2.setTop (mkF m 5 #[.val (.int p1), .unset, .unset, .unset, .unset] [(.ref b2)])) _
    refine XS.dup X2.here hx rfl (hb hby at_5) rfl rfl ?_
    show Steps p.tables e below (T2.setTop (mkF m 6 #[.val (.int p1), .unset, .unset, .unset, .unset] [(.ref b2), (.ref b2)])) _
    refine XS.iconst X2.here hx rfl (hb hby at_6) ?_
    show Steps p.tables e below (T2.setTop (mkF m 7 #[.val (.int p1), .unset, .unset, .unset, .unset] [(.int (0 : Int32)), (.ref b2), (.ref b2)])) _
    refine st4 _ ?_
    show Steps p.tables e below (T4.setTop (mkF m 10 #[.val (.int p1), .unset, .unset, .unset, .unset] [(.ref w_NEG), (.int (0 : Int32)), (.ref b2), (.ref b2)])) _
    refine st5 _ ?_
    show Steps p.tables e below (T5.setTop (mkF m 11 #[.val (.int p1), .unset, .unset, .unset, .unset] [(.ref b2)])) _
    refine XS.dup X5.here hx rfl (hb hby at_11) rfl rfl ?_
    show Steps p.tables e below (T5.setTop (mkF m 12 #[.val (.int p1), .unset, .unset, .unset, .unset] [(.ref b2), (.ref b2)])) _
    refine XS.iconst X5.here hx rfl (hb hby at_12) ?_
    show Steps p.tables e below (T5.setTop (mkF m 13 #[.val (.int p1), .unset, .unset, .unset, .unset] [(.int (1 : Int32)), (.ref b2), (.ref b2)])) _
    refine st7 _ ?_
    show Steps p.tables e below (T7.setTop (mkF m 16 #[.val (.int p1), .unset, .unset, .unset, .unset] [(.ref w_ABS), (.int (1 : Int32)), (.ref b2), (.ref b2)])) _
    refine st8 _ ?_
    show Steps p.tables e below (T8.setTop (mkF m 17 #[.val (.int p1), .unset, .unset, .unset, .unset] [(.ref b2)])) _
    refine XS.dup X8.here hx rfl (hb hby at_17) rfl rfl ?_
    show Steps p.tables e below (T8.setTop (mkF m 18 #[.val (.int p1), .unset, .unset, .unset, .unset] [(.ref b2), (.ref b2)])) _
    refine XS.iconst X8.here hx rfl (hb hby at_18) ?_
    show Steps p.tables e below (T8.setTop (mkF m 19 #[.val (.int p1), .unset, .unset, .unset, .unset] [(.int (2 : Int32)), (.ref b2), (.ref b2)])) _
    refine st10 _ ?_
    show Steps p.tables e below (T10.setTop (mkF m 22 #[.val (.int p1), .unset, .unset, .unset, .unset] [(.ref w_ADD), (.int (2 : Int32)), (.ref b2), (.ref b2)])) _
    refine st11 _ ?_
    show Steps p.tables e below (T11.setTop (mkF m 23 #[.val (.int p1), .unset, .unset, .unset, .unset] [(.ref b2)])) _
    refine XS.dup X11.here hx rfl (hb hby at_23) rfl rfl ?_
    show Steps p.tables e below (T11.setTop (mkF m 24 #[.val (.int p1), .unset, .unset, .unset, .unset] [(.ref b2), (.ref b2)])) _
    refine XS.iconst X11.here hx rfl (hb hby at_24) ?_
    show Steps p.tables e below (T11.setTop (mkF m 25 #[.val (.int p1), .unset, .unset, .unset, .unset] [(.int (3 : Int32)), (.ref b2), (.ref b2)])) _
    refine st13 _ ?_
    show Steps p.tables e below (T13.setTop (mkF m 28 #[.val (.int p1), .unset, .unset, .unset, .unset] [(.ref w_SUB), (.int (3 : Int32)), (.ref b2), (.ref b2)])) _
    refine st14 _ ?_
    show Steps p.tables e below (T14.setTop (mkF m 29 #[.val (.int p1), .unset, .unset, .unset, .unset] [(.ref b2)])) _
    refine XS.dup X14.here hx rfl (hb hby at_29) rfl rfl ?_
    show Steps p.tables e below (T14.setTop (mkF m 30 #[.val (.int p1), .unset, .unset, .unset, .unset] [(.ref b2), (.ref b2)])) _
    refine XS.iconst X14.here hx rfl (hb hby at_30) ?_
    show Steps p.tables e below (T14.setTop (mkF m 31 #[.val (.int p1), .unset, .unset, .unset, .unset] [(.int (4 : Int32)), (.ref b2), (.ref b2)])) _
    refine st16 _ ?_
    show Steps p.tables e below (T16.setTop (mkF m 34 #[.val (.int p1), .unset, .unset, .unset, .unset] [(.ref w_MUL), (.int (4 : Int32)), (.ref b2), (.ref b2)])) _
    refine st17 _ ?_
    show Steps p.tables e below (T17.setTop (mkF m 35 #[.val (.int p1), .unset, .unset, .unset, .unset] [(.ref b2)])) _
    refine XS.dup X17.here hx rfl (hb hby at_35) rfl rfl ?_
    show Steps p.tables e below (T17.setTop (mkF m 36 #[.val (.int p1), .unset, .unset, .unset, .unset] [(.ref b2), (.ref b2)])) _
    refine XS.iconst X17.here hx rfl (hb hby at_36) ?_
    show Steps p.tables e below (T17.setTop (mkF m 37 #[.val (.int p1), .unset, .unset, .unset, .unset] [(.int (5 : Int32)), (.ref b2), (.ref b2)])) _
    refine st19 _ ?_
    show Steps p.tables e below (T19.setTop (mkF m 40 #[.val (.int p1), .unset, .unset, .unset, .unset] [(.ref w_DIV), (.int (5 : Int32)), (.ref b2), (.ref b2)])) _
    refine st20 _ ?_
    show Steps p.tables e below (T20.setTop (mkF m 41 #[.val (.int p1), .unset, .unset, .unset, .unset] [(.ref b2)])) _
    refine XS.dup X20.here hx rfl (hb hby at_41) rfl rfl ?_
    show Steps p.tables e below (T20.setTop (mkF m 42 #[.val (.int p1), .unset, .unset, .unset, .unset] [(.ref b2), (.ref b2)])) _
    refine XS.bipush X20.here hx rfl (hb hby at_42) ?_
    show Steps p.tables e below (T20.setTop (mkF m 44 #[.val (.int p1), .unset, .unset, .unset, .unset] [(.int (6 : Int32)), (.ref b2), (.ref b2)])) _
    refine st22 _ ?_
    show Steps p.tables e below (T22.setTop (mkF m 47 #[.val (.int p1), .unset, .unset, .unset, .unset] [(.ref w_MOD), (.int (6 : Int32)), (.ref b2), (.ref b2)])) _
    refine st23 _ ?_
    show Steps p.tables e below (T23.setTop (mkF m 48 #[.val (.int p1), .unset, .unset, .unset, .unset] [(.ref b2)])) _
    refine XS.dup X23.here hx rfl (hb hby at_48) rfl rfl ?_
    show Steps p.tables e below (T23.setTop (mkF m 49 #[.val (.int p1), .unset, .unset, .unset, .unset] [(.ref b2), (.ref b2)])) _
    refine XS.bipush X23.here hx rfl (hb hby at_49) ?_
    show Steps p.tables e below (T23.setTop (mkF m 51 #[.val (.int p1), .unset, .unset, .unset, .unset] [(.int (7 : Int32)), (.ref b2), (.ref b2)])) _
    refine st25 _ ?_
    show Steps p.tables e below (T25.setTop (mkF m 54 #[.val (.int p1), .unset, .unset, .unset, .unset] [(.ref w_DIST), (.int (7 : Int32)), (.ref b2), (.ref b2)])) _
    refine st26 _ ?_
    show Steps p.tables e below (T26.setTop (mkF m 55 #[.val (.int p1), .unset, .unset, .unset, .unset] [(.ref b2)])) _
    refine XS.dup X26.here hx rfl (hb hby at_55) rfl rfl ?_
    show Steps p.tables e below (T26.setTop (mkF m 56 #[.val (.int p1), .unset, .unset, .unset, .unset] [(.ref b2), (.ref b2)])) _
    refine XS.bipush X26.here hx rfl (hb hby at_56) ?_
    show Steps p.tables e below (T26.setTop (mkF m 58 #[.val (.int p1), .unset, .unset, .unset, .unset] [(.int (8 : Int32)), (.ref b2), (.ref b2)])) _
    refine st28 _ ?_
    show Steps p.tables e below (T28.setTop (mkF m 61 #[.val (.int p1), .unset, .unset, .unset, .unset] [(.ref w_MIN), (.int (8 : Int32)), (.ref b2), (.ref b2)])) _
    refine st29 _ ?_
    show Steps p.tables e below (T29.setTop (mkF m 62 #[.val (.int p1), .unset, .unset, .unset, .unset] [(.ref b2)])) _
    refine XS.dup X29.here hx rfl (hb hby at_62) rfl rfl ?_
    show Steps p.tables e below (T29.setTop (mkF m 63 #[.val (.int p1), .unset, .unset, .unset, .unset] [(.ref b2), (.ref b2)])) _
    refine XS.bipush X29.here hx rfl (hb hby at_63) ?_
    show Steps p.tables e below (T29.setTop (mkF m 65 #[.val (.int p1), .unset, .unset, .unset, .unset] [(.int (9 : Int32)), (.ref b2), (.ref b2)])) _
    refine st31 _ ?_
    show Steps p.tables e below (T31.setTop (mkF m 68 #[.val (.int p1), .unset, .unset, .unset, .unset] [(.ref w_MAX), (.int (9 : Int32)), (.ref b2), (.ref b2)])) _
    refine st32 _ ?_
    show Steps p.tables e below (T32.setTop (mkF m 69 #[.val (.int p1), .unset, .unset, .unset, .unset] [(.ref b2)])) _
    refine XS.dup X32.here hx rfl (hb hby at_69) rfl rfl ?_
    show Steps p.tables e below (T32.setTop (mkF m 70 #[.val (.int p1), .unset, .unset, .unset, .unset] [(.ref b2), (.ref b2)])) _
    refine XS.bipush X32.here hx rfl (hb hby at_70) ?_
    show Steps p.tables e below (T32.setTop (mkF m 72 #[.val (.int p1), .unset, .unset, .unset, .unset] [(.int (10 : Int32)), (.ref b2), (.ref b2)])) _
    refine st34 _ ?_
    show Steps p.tables e below (T34.setTop (mkF m 75 #[.val (.int p1), .unset, .unset, .unset, .unset] [(.ref w_LT), (.int (10 : Int32)), (.ref b2), (.ref b2)])) _
    refine st35 _ ?_
    show Steps p.tables e below (T35.setTop (mkF m 76 #[.val (.int p1), .unset, .unset, .unset, .unset] [(.ref b2)])) _
    refine XS.dup X35.here hx rfl (hb hby at_76) rfl rfl ?_
    show Steps p.tables e below (T35.setTop (mkF m 77 #[.val (.int p1), .unset, .unset, .unset, .unset] [(.ref b2), (.ref b2)])) _
    refine XS.bipush X35.here hx rfl (hb hby at_77) ?_
    show Steps p.tables e below (T35.setTop (mkF m 79 #[.val (.int p1), .unset, .unset, .unset, .unset] [(.int (11 : Int32)), (.ref b2), (.ref b2)])) _
    refine st37 _ ?_
    show Steps p.tables e below (T37.setTop (mkF m 82 #[.val (.int p1), .unset, .unset, .unset, .unset] [(.ref w_LE), (.int (11 : Int32)), (.ref b2), (.ref b2)])) _
    refine st38 _ ?_
    show Steps p.tables e below (T38.setTop (mkF m 83 #[.val (.int p1), .unset, .unset, .unset, .unset] [(.ref b2)])) _
    refine XS.dup X38.here hx rfl (hb hby at_83) rfl rfl ?_
    show Steps p.tables e below (T38.setTop (mkF m 84 #[.val (.int p1), .unset, .unset, .unset, .unset] [(.ref b2), (.ref b2)])) _
    refine XS.bipush X38.here hx rfl (hb hby at_84) ?_
    show Steps p.tables e below (T38.setTop (mkF m 86 #[.val (.int p1), .unset, .unset, .unset, .unset] [(.int (12 : Int32)), (.ref b2), (.ref b2)])) _
    refine st40 _ ?_
    show Steps p.tables e below (T40.setTop (mkF m 89 #[.val (.int p1), .unset, .unset, .unset, .unset] [(.ref w_GE), (.int (12 : Int32)), (.ref b2), (.ref b2)])) _
    refine st41 _ ?_
    show Steps p.tables e below (T41.setTop (mkF m 90 #[.val (.int p1), .unset, .unset, .unset, .unset] [(.ref b2)])) _
    refine XS.dup X41.here hx rfl (hb hby at_90) rfl rfl ?_
    show Steps p.tables e below (T41.setTop (mkF m 91 #[.val (.int p1), .unset, .unset, .unset, .unset] [(.ref b2), (.ref b2)])) _
    refine XS.bipush X41.here hx rfl (hb hby at_91) ?_
    show Steps p.tables e below (T41.setTop (mkF m 93 #[.val (.int p1), .unset, .unset, .unset, .unset] [(.int (13 : Int32)), (.ref b2), (.ref b2)])) _
    refine st43 _ ?_
    show Steps p.tables e below (T43.setTop (mkF m 96 #[.val (.int p1), .unset, .unset, .unset, .unset] [(.ref w_GT), (.int (13 : Int32)), (.ref b2), (.ref b2)])) _
    refine st44 _ ?_
    show Steps p.tables e below (T44.setTop (mkF m 97 #[.val (.int p1), .unset, .unset, .unset, .unset] [(.ref b2)])) _
    refine XS.dup X44.here hx rfl (hb hby at_97) rfl rfl ?_
    show Steps p.tables e below (T44.setTop (mkF m 98 #[.val (.int p1), .unset, .unset, .unset, .unset] [(.ref b2), (.ref b2)])) _
    refine XS.bipush X44.here hx rfl (hb hby at_98) ?_
    show Steps p.tables e below (T44.setTop (mkF m 100 #[.val (.int p1), .unset, .unset, .unset, .unset] [(.int (14 : Int32)), (.ref b2), (.ref b2)])) _
    refine st46 _ ?_
    show Steps p.tables e below (T46.setTop (mkF m 103 #[.val (.int p1), .unset, .unset, .unset, .unset] [(.ref w_EQ), (.int (14 : Int32)), (.ref b2), (.ref b2)])) _
    refine st47 _ ?_
    show Steps p.tables e below (T47.setTop (mkF m 104 #[.val (.int p1), .unset, .unset, .unset, .unset] [(.ref b2)])) _
    refine XS.dup X47.here hx rfl (hb hby at_104) rfl rfl ?_
    show Steps p.tables e below (T47.setTop (mkF m 105 #[.val (.int p1), .unset, .unset, .unset, .unset] [(.ref b2), (.ref b2)])) _
    refine XS.bipush X47.here hx rfl (hb hby at_105) ?_
    show Steps p.tables e below (T47.setTop (mkF m 107 #[.val (.int p1), .unset, .unset, .unset, .unset] [(.int (15 : Int32)), (.ref b2), (.ref b2)])) _
    refine st49 _ ?_
    show Steps p.tables e below (T49.setTop (mkF m 110 #[.val (.int p1), .unset, .unset, .unset, .unset] [(.ref w_NE), (.int (15 : Int32)), (.ref b2), (.ref b2)])) _
    refine st50 _ ?_
    show Steps p.tables e below (T50.setTop (mkF m 111 #[.val (.int p1), .unset, .unset, .unset, .unset] [(.ref b2)])) _
    refine XS.dup X50.here hx rfl (hb hby at_111) rfl rfl ?_
    show Steps p.tables e below (T50.setTop (mkF m 112 #[.val (.int p1), .unset, .unset, .unset, .unset] [(.ref b2), (.ref b2)])) _
    refine XS.bipush X50.here hx rfl (hb hby at_112) ?_
    show Steps p.tables e below (T50.setTop (mkF m 114 #[.val (.int p1), .unset, .unset, .unset, .unset] [(.int (16 : Int32)), (.ref b2), (.ref b2)])) _
    refine st52 _ ?_
    show Steps p.tables e below (T52.setTop (mkF m 117 #[.val (.int p1), .unset, .unset, .unset, .unset] [(.ref w_NOT), (.int (16 : Int32)), (.ref b2), (.ref b2)])) _
    refine st53 _ ?_
    show Steps p.tables e below (T53.setTop (mkF m 118 #[.val (.int p1), .unset, .unset, .unset, .unset] [(.ref b2)])) _
    refine XS.dup X53.here hx rfl (hb hby at_118) rfl rfl ?_
    show Steps p.tables e below (T53.setTop (mkF m 119 #[.val (.int p1), .unset, .unset, .unset, .unset] [(.ref b2), (.ref b2)])) _
    refine XS.bipush X53.here hx rfl (hb hby at_119) ?_
    show Steps p.tables e below (T53.setTop (mkF m 121 #[.val (.int p1), .unset, .unset, .unset, .unset] [(.int (17 : Int32)), (.ref b2), (.ref b2)])) _
    refine st55 _ ?_
    show Steps p.tables e below (T55.setTop (mkF m 124 #[.val (.int p1), .unset, .unset, .unset, .unset] [(.ref w_AND), (.int (17 : Int32)), (.ref b2), (.ref b2)])) _
    refine st56 _ ?_
    show Steps p.tables e below (T56.setTop (mkF m 125 #[.val (.int p1), .unset, .unset, .unset, .unset] [(.ref b2)])) _
    refine XS.dup X56.here hx rfl (hb hby at_125) rfl rfl ?_
    show Steps p.tables e below (T56.setTop (mkF m 126 #[.val (.int p1), .unset, .unset, .unset, .unset] [(.ref b2), (.ref b2)])) _
    refine XS.bipush X56.here hx rfl (hb hby at_126) ?_
    show Steps p.tables e below (T56.setTop (mkF m 128 #[.val (.int p1), .unset, .unset, .unset, .unset] [(.int (18 : Int32)), (.ref b2), (.ref b2)])) _
    refine st58 _ ?_
    show Steps p.tables e below (T58.setTop (mkF m 131 #[.val (.int p1), .unset, .unset, .unset, .unset] [(.ref w_OR), (.int (18 : Int32)), (.ref b2), (.ref b2)])) _
    refine st59 _ ?_
    show Steps p.tables e below (T59.setTop (mkF m 132 #[.val (.int p1), .unset, .unset, .unset, .unset] [(.ref b2)])) _
    refine XS.dup X59.here hx rfl (hb hby at_132) rfl rfl ?_
    show Steps p.tables e below (T59.setTop (mkF m 133 #[.val (.int p1), .unset, .unset, .unset, .unset] [(.ref b2), (.ref b2)])) _
    refine XS.bipush X59.here hx rfl (hb hby at_133) ?_
    show Steps p.tables e below (T59.setTop (mkF m 135 #[.val (.int p1), .unset, .unset, .unset, .unset] [(.int (19 : Int32)), (.ref b2), (.ref b2)])) _
    refine st61 _ ?_
    show Steps p.tables e below (T61.setTop (mkF m 138 #[.val (.int p1), .unset, .unset, .unset, .unset] [(.ref w_XOR), (.int (19 : Int32)), (.ref b2), (.ref b2)])) _
    refine st62 _ ?_
    show Steps p.tables e below (T62.setTop (mkF m 139 #[.val (.int p1), .unset, .unset, .unset, .unset] [(.ref b2)])) _
    refine XS.dup X62.here hx rfl (hb hby at_139) rfl rfl ?_
    show Steps p.tables e below (T62.setTop (mkF m 140 #[.val (.int p1), .unset, .unset, .unset, .unset] [(.ref b2), (.ref b2)])) _
    refine XS.bipush X62.here hx rfl (hb hby at_140) ?_
    show Steps p.tables e below (T62.setTop (mkF m 142 #[.val (.int p1), .unset, .unset, .unset, .unset] [(.int (20 : Int32)), (.ref b2), (.ref b2)])) _
    refine st64 _ ?_
    show Steps p.tables e below (T64.setTop (mkF m 145 #[.val (.int p1), .unset, .unset, .unset, .unset] [(.ref w_IFF), (.int (20 : Int32)), (.ref b2), (.ref b2)])) _
    refine st65 _ ?_
    show Steps p.tables e below (T65.setTop (mkF m 146 #[.val (.int p1), .unset, .unset, .unset, .unset] [(.ref b2)])) _
    refine XS.dup X65.here hx rfl (hb hby at_146) rfl rfl ?_
    show Steps p.tables e below (T65.setTop (mkF m 147 #[.val (.int p1), .unset, .unset, .unset, .unset] [(.ref b2), (.ref b2)])) _
    refine XS.bipush X65.here hx rfl (hb hby at_147) ?_
    show Steps p.tables e below (T65.setTop (mkF m 149 #[.val (.int p1), .unset, .unset, .unset, .unset] [(.int (21 : Int32)), (.ref b2), (.ref b2)])) _
    refine st67 _ ?_
    show Steps p.tables e below (T67.setTop (mkF m 152 #[.val (.int p1), .unset, .unset, .unset, .unset] [(.ref w_IMP), (.int (21 : Int32)), (.ref b2), (.ref b2)])) _
    refine st68 _ ?_
    show Steps p.tables e below (T68.setTop (mkF m 153 #[.val (.int p1), .unset, .unset, .unset, .unset] [(.ref b2)])) _
    refine XS.astoreN X68.here hx rfl (hb hby at_153) rfl rfl (l' := #[.val (.int p1), .val (.ref b2), .unset, .unset, .unset]) rfl ?_
    show Steps p.tables e below (T68.setTop (mkF m 154 #[.val (.int p1), .val (.ref b2), .unset, .unset, .unset] [])) _
    refine XS.iloadN X68.here hx rfl (hb hby at_154) rfl ?_
    show Steps p.tables e below (T68.setTop (mkF m 155 #[.val (.int p1), .val (.ref b2), .unset, .unset, .unset] [(.int p1)])) _
    refine X68.ldcInt hx hown (mvT hZ (hw _ (List.mem_of_getElem? (i := 48) rfl))) (g := (mkF m 155 #[.val (.int p1), .val (.ref b2), .unset, .unset, .unset] [(.int p1)])) rfl (hb hby at_155) _ ?_
    show Steps p.tables e below (T68.setTop (mkF m 157 #[.val (.int p1), .val (.ref b2), .unset, .unset, .unset] [(.int (2147483647 : Int32)), (.int p1)])) _
    refine XS.iand X68.here hx rfl (hb hby at_157) rfl ?_
    show Steps p.tables e below (T68.setTop (mkF m 158 #[.val (.int p1), .val (.ref b2), .unset, .unset, .unset] [(.int (p1 &&& (2147483647 : Int32)))])) _
    refine XS.bipush X68.here hx rfl (hb hby at_158) ?_
    show Steps p.tables e below (T68.setTop (mkF m 160 #[.val (.int p1), .val (.ref b2), .unset, .unset, .unset] [(.int (22 : Int32)), (.int (p1 &&& (2147483647 : Int32)))])) _
    refine iremM X68 hx rfl (hb hby at_160) rfl (by decide) ?_
    show Steps p.tables e below (T68.setTop (mkF m 161 #[.val (.int p1), .val (.ref b2), .unset, .unset, .unset] [(.int ((p1 &&& (2147483647 : Int32)) % (22 : Int32)))])) _
    refine XS.istoreN X68.here hx rfl (hb hby at_161) rfl (l' := #[.val (.int p1), .val (.ref b2), .val (.int ((p1 &&& (2147483647 : Int32)) % (22 : Int32))), .unset, .unset]) rfl ?_
    show Steps p.tables e below (T68.setTop (mkF m 162 #[.val (.int p1), .val (.ref b2), .val (.int ((p1 &&& (2147483647 : Int32)) % (22 : Int32))), .unset, .unset] [])) _
    refine XS.aloadN X68.here hx rfl (hb hby at_162) rfl rfl ?_
    show Steps p.tables e below (T68.setTop (mkF m 163 #[.val (.int p1), .val (.ref b2), .val (.int ((p1 &&& (2147483647 : Int32)) % (22 : Int32))), .unset, .unset] [(.ref b2)])) _
    refine XS.iloadN X68.here hx rfl (hb hby at_163) rfl ?_
    show Steps p.tables e below (T68.setTop (mkF m 164 #[.val (.int p1), .val (.ref b2), .val (.int ((p1 &&& (2147483647 : Int32)) % (22 : Int32))), .unset, .unset] [(.int ((p1 &&& (2147483647 : Int32)) % (22 : Int32))), (.ref b2)])) _
    refine X68.aaload hx (j := ((p1 &&& (2147483647 : Int32)) % (22 : Int32))) (v := (.ref wx)) (by rw [e68]; exact Ar_b2_164.1) (State.isArrayOf_alike hZ.alike Ar_b2_164.2.1) rfl Ar_b2_164.2.2 hin164 hat164 (g := (mkF m 164 #[.val (.int p1), .val (.ref b2), .val (.int ((p1 &&& (2147483647 : Int32)) % (22 : Int32))), .unset, .unset] [(.int ((p1 &&& (2147483647 : Int32)) % (22 : Int32))), (.ref b2)])) rfl rfl (hb hby at_164) _ ?_
    show Steps p.tables e below (T68.setTop (mkF m 165 #[.val (.int p1), .val (.ref b2), .val (.int ((p1 &&& (2147483647 : Int32)) % (22 : Int32))), .unset, .unset] [(.ref wx)])) _
    refine XS.astoreN X68.here hx rfl (hb hby at_165) rfl rfl (l' := #[.val (.int p1), .val (.ref b2), .val (.int ((p1 &&& (2147483647 : Int32)) % (22 : Int32))), .val (.ref wx), .unset]) rfl ?_
    show Steps p.tables e below (T68.setTop (mkF m 166 #[.val (.int p1), .val (.ref b2), .val (.int ((p1 &&& (2147483647 : Int32)) % (22 : Int32))), .val (.ref wx), .unset] [])) _
    refine XS.aloadN X68.here hx rfl (hb hby at_166) rfl rfl ?_
    show Steps p.tables e below (T68.setTop (mkF m 167 #[.val (.int p1), .val (.ref b2), .val (.int ((p1 &&& (2147483647 : Int32)) % (22 : Int32))), .val (.ref wx), .unset] [(.ref wx)])) _
    refine st69 _ ?_
    show Steps p.tables e below (T69.setTop (mkF m 170 #[.val (.int p1), .val (.ref b2), .val (.int ((p1 &&& (2147483647 : Int32)) % (22 : Int32))), .val (.ref wx), .unset] [(.ref w_LT), (.ref wx)])) _
    refine Jvm.RoadKit.acmp (g := (mkF m 170 #[.val (.int p1), .val (.ref b2), .val (.int ((p1 &&& (2147483647 : Int32)) % (22 : Int32))), .val (.ref wx), .unset] [(.ref w_LT), (.ref wx)])) X69 hx rfl rfl rfl (pc0 := 170) (pc' := 173) (same := false) rfl (hb hby at_170) rfl (decide_eq_false fun q => ha170 (Value.ref.inj q)) (by decide) (by decide) ?_
    show Steps p.tables e below (T69.setTop (mkF m 173 #[.val (.int p1), .val (.ref b2), .val (.int ((p1 &&& (2147483647 : Int32)) % (22 : Int32))), .val (.ref wx), .unset] [])) _
    refine XS.aloadN X69.here hx rfl (hb hby at_173) rfl rfl ?_
    show Steps p.tables e below (T69.setTop (mkF m 174 #[.val (.int p1), .val (.ref b2), .val (.int ((p1 &&& (2147483647 : Int32)) % (22 : Int32))), .val (.ref wx), .unset] [(.ref wx)])) _
    refine st70 _ ?_
    show Steps p.tables e below (T70.setTop (mkF m 177 #[.val (.int p1), .val (.ref b2), .val (.int ((p1 &&& (2147483647 : Int32)) % (22 : Int32))), .val (.ref wx), .unset] [(.ref w_LE), (.ref wx)])) _
    refine Jvm.RoadKit.acmp (g := (mkF m 177 #[.val (.int p1), .val (.ref b2), .val (.int ((p1 &&& (2147483647 : Int32)) % (22 : Int32))), .val (.ref wx), .unset] [(.ref w_LE), (.ref wx)])) X70 hx rfl rfl rfl (pc0 := 177) (pc' := 180) (same := false) rfl (hb hby at_177) rfl (decide_eq_false fun q => ha177 (Value.ref.inj q)) (by decide) (by decide) ?_
    show Steps p.tables e below (T70.setTop (mkF m 180 #[.val (.int p1), .val (.ref b2), .val (.int ((p1 &&& (2147483647 : Int32)) % (22 : Int32))), .val (.ref wx), .unset] [])) _
    refine XS.aloadN X70.here hx rfl (hb hby at_180) rfl rfl ?_
    show Steps p.tables e below (T70.setTop (mkF m 181 #[.val (.int p1), .val (.ref b2), .val (.int ((p1 &&& (2147483647 : Int32)) % (22 : Int32))), .val (.ref wx), .unset] [(.ref wx)])) _
    refine st71 _ ?_
    show Steps p.tables e below (T71.setTop (mkF m 184 #[.val (.int p1), .val (.ref b2), .val (.int ((p1 &&& (2147483647 : Int32)) % (22 : Int32))), .val (.ref wx), .unset] [(.ref w_GE), (.ref wx)])) _
    refine Jvm.RoadKit.acmp (g := (mkF m 184 #[.val (.int p1), .val (.ref b2), .val (.int ((p1 &&& (2147483647 : Int32)) % (22 : Int32))), .val (.ref wx), .unset] [(.ref w_GE), (.ref wx)])) X71 hx rfl rfl rfl (pc0 := 184) (pc' := 208) (same := true) rfl (hb hby at_184) rfl (decide_eq_true (congrArg Value.ref ha184)) (by decide) (by decide) ?_
    show Steps p.tables e below (T71.setTop (mkF m 208 #[.val (.int p1), .val (.ref b2), .val (.int ((p1 &&& (2147483647 : Int32)) % (22 : Int32))), .val (.ref wx), .unset] [])) _
    refine XS.iconst X71.here hx rfl (hb hby at_208) ?_
    show Steps p.tables e below (T71.setTop (mkF m 209 #[.val (.int p1), .val (.ref b2), .val (.int ((p1 &&& (2147483647 : Int32)) % (22 : Int32))), .val (.ref wx), .unset] [(.int (1 : Int32))])) _
    refine XS.goto X71.here hx rfl (pc0 := 209) (pc' := 213) rfl (hb hby at_209) (by decide) (by decide) ?_
    show Steps p.tables e below (T71.setTop (mkF m 213 #[.val (.int p1), .val (.ref b2), .val (.int ((p1 &&& (2147483647 : Int32)) % (22 : Int32))), .val (.ref wx), .unset] [(.int (1 : Int32))])) _
    refine XS.istore X71.here hx rfl (hb hby at_213) rfl (l' := #[.val (.int p1), .val (.ref b2), .val (.int ((p1 &&& (2147483647 : Int32)) % (22 : Int32))), .val (.ref wx), .val (.int (1 : Int32))]) rfl ?_
    show Steps p.tables e below (T71.setTop (mkF m 215 #[.val (.int p1), .val (.ref b2), .val (.int ((p1 &&& (2147483647 : Int32)) % (22 : Int32))), .val (.ref wx), .val (.int (1 : Int32))] [])) _
    refine XS.aloadN X71.here hx rfl (hb hby at_215) rfl rfl ?_
    show Steps p.tables e below (T71.setTop (mkF m 216 #[.val (.int p1), .val (.ref b2), .val (.int ((p1 &&& (2147483647 : Int32)) % (22 : Int32))), .val (.ref wx), .val (.int (1 : Int32))] [(.ref wx)])) _
    refine st72.trans ?_
    show Steps p.tables e below (T72.setTop (mkF m 219 #[.val (.int p1), .val (.ref b2), .val (.int ((p1 &&& (2147483647 : Int32)) % (22 : Int32))), .val (.ref wx), .val (.int (1 : Int32))] [(.int (1 : Int32))])) _
    refine XS.iload X72.here hx rfl (hb hby at_219) rfl ?_
    show Steps p.tables e below (T72.setTop (mkF m 221 #[.val (.int p1), .val (.ref b2), .val (.int ((p1 &&& (2147483647 : Int32)) % (22 : Int32))), .val (.ref wx), .val (.int (1 : Int32))] [(.int (1 : Int32)), (.int (1 : Int32))])) _
    refine XS.icmpNo X72.here hx rfl (hb hby at_221) rfl (teq hk221).2 ?_
    show Steps p.tables e below (T72.setTop (mkF m 224 #[.val (.int p1), .val (.ref b2), .val (.int ((p1 &&& (2147483647 : Int32)) % (22 : Int32))), .val (.ref wx), .val (.int (1 : Int32))] [])) _
    refine XS.iconst X72.here hx rfl (hb hby at_224) ?_
    show Steps p.tables e below (T72.setTop (mkF m 225 #[.val (.int p1), .val (.ref b2), .val (.int ((p1 &&& (2147483647 : Int32)) % (22 : Int32))), .val (.ref wx), .val (.int (1 : Int32))] [(.int (1 : Int32))])) _
    refine XS.goto X72.here hx rfl (pc0 := 225) (pc' := 229) rfl (hb hby at_225) (by decide) (by decide) ?_
    show Steps p.tables e below (T72.setTop (mkF m 229 #[.val (.int p1), .val (.ref b2), .val (.int ((p1 &&& (2147483647 : Int32)) % (22 : Int32))), .val (.ref wx), .val (.int (1 : Int32))] [(.int (1 : Int32))])) _
    exact retN X72 hx (t := .boolean) Bd.returns (by simp) (hb hby at_229) hr
  · show Q0 Z p1 h0 n0 _ T72.heap _
    exact ⟨rfl, N72⟩
set_option maxRecDepth 65536 in
set_option maxHeartbeats 40000000 in
theorem rm0_GT (l : Launch) (Z : State) (a0 : Array Value) (hw : ∀ d ∈ tables_1, d.before a0 Z = true) (ws : List Jvm.Cond) (p1 : Int32) (w_NEG : Addr) (w_ABS : Addr) (w_ADD : Addr) (w_SUB : Addr) (w_MUL : Addr) (w_DIV : Addr) (w_MOD : Addr) (w_DIST : Addr) (w_MIN : Addr) (w_MAX : Addr) (w_LT : Addr) (w_LE : Addr) (w_GE : Addr) (w_GT : Addr) (w_EQ : Addr) (w_NE : Addr) (w_NOT : Addr) (w_AND : Addr) (w_OR : Addr) (w_XOR : Addr) (w_IFF : Addr) (w_IMP : Addr) (wx : Addr) (wk : Addr) (w_COMPARISON : Addr) (h0 : Heap) (n0 : Nat) (Z0 : n0 ≤ h0.size) (S_NEG : Sta Z h0 "com/example/failfirst/failfirst/Operator" "NEG" "Lcom/example/failfirst/failfirst/Operator;" (.ref w_NEG)) (E_NEG : Exa Z h0 w_NEG "com/example/failfirst/failfirst/Operator") (S_ABS : Sta Z h0 "com/example/failfirst/failfirst/Operator" "ABS" "Lcom/example/failfirst/failfirst/Operator;" (.ref w_ABS)) (E_ABS : Exa Z h0 w_ABS "com/example/failfirst/failfirst/Operator") (S_ADD : Sta Z h0 "com/example/failfirst/failfirst/Operator" "ADD" "Lcom/example/failfirst/failfirst/Operator;" (.ref w_ADD)) (E_ADD : Exa Z h0 w_ADD "com/example/failfirst/failfirst/Operator") (S_SUB : Sta Z h0 "com/example/failfirst/failfirst/Operator" "SUB" "Lcom/example/failfirst/failfirst/Operator;" (.ref w_SUB)) (E_SUB : Exa Z h0 w_SUB "com/example/failfirst/failfirst/Operator") (S_MUL : Sta Z h0 "com/example/failfirst/failfirst/Operator" "MUL" "Lcom/example/failfirst/failfirst/Operator;" (.ref w_MUL)) (E_MUL : Exa Z h0 w_MUL "com/example/failfirst/failfirst/Operator") (S_DIV : Sta Z h0 "com/example/failfirst/failfirst/Operator" "DIV" "Lcom/example/failfirst/failfirst/Operator;" (.ref w_DIV)) (E_DIV : Exa Z h0 w_DIV "com/example/failfirst/failfirst/Operator") (S_MOD : Sta Z h0 "com/example/failfirst/failfirst/Operator" "MOD" "Lcom/example/failfirst/failfirst/Operator;" (.ref w_MOD)) (E_MOD : Exa Z h0 w_MOD "com/example/failfirst/failfirst/Operator") (S_DIST : Sta Z h0 "com/example/failfirst/failfirst/Operator" "DIST" "Lcom/example/failfirst/failfirst/Operator;" (.ref w_DIST)) (E_DIST : Exa Z h0 w_DIST "com/example/failfirst/failfirst/Operator") (S_MIN : Sta Z h0 "com/example/failfirst/failfirst/Operator" "MIN" "Lcom/example/failfirst/failfirst/Operator;" (.ref w_MIN)) (E_MIN : Exa Z h0 w_MIN "com/example/failfirst/failfirst/Operator") (S_MAX : Sta Z h0 "com/example/failfirst/failfirst/Operator" "MAX" "Lcom/example/failfirst/failfirst/Operator;" (.ref w_MAX)) (E_MAX : Exa Z h0 w_MAX "com/example/failfirst/failfirst/Operator") (S_LT : Sta Z h0 "com/example/failfirst/failfirst/Operator" "LT" "Lcom/example/failfirst/failfirst/Operator;" (.ref w_LT)) (E_LT : Exa Z h0 w_LT "com/example/failfirst/failfirst/Operator") (S_LE : Sta Z h0 "com/example/failfirst/failfirst/Operator" "LE" "Lcom/example/failfirst/failfirst/Operator;" (.ref w_LE)) (E_LE : Exa Z h0 w_LE "com/example/failfirst/failfirst/Operator") (S_GE : Sta Z h0 "com/example/failfirst/failfirst/Operator" "GE" "Lcom/example/failfirst/failfirst/Operator;" (.ref w_GE)) (E_GE : Exa Z h0 w_GE "com/example/failfirst/failfirst/Operator") (S_GT : Sta Z h0 "com/example/failfirst/failfirst/Operator" "GT" "Lcom/example/failfirst/failfirst/Operator;" (.ref w_GT)) (E_GT : Exa Z h0 w_GT "com/example/failfirst/failfirst/Operator") (S_EQ : Sta Z h0 "com/example/failfirst/failfirst/Operator" "EQ" "Lcom/example/failfirst/failfirst/Operator;" (.ref w_EQ)) (E_EQ : Exa Z h0 w_EQ "com/example/failfirst/failfirst/Operator") (S_NE : Sta Z h0 "com/example/failfirst/failfirst/Operator" "NE" "Lcom/example/failfirst/failfirst/Operator;" (.ref w_NE)) (E_NE : Exa Z h0 w_NE "com/example/failfirst/failfirst/Operator") (S_NOT : Sta Z h0 "com/example/failfirst/failfirst/Operator" "NOT" "Lcom/example/failfirst/failfirst/Operator;" (.ref w_NOT)) (E_NOT : Exa Z h0 w_NOT "com/example/failfirst/failfirst/Operator") (S_AND : Sta Z h0 "com/example/failfirst/failfirst/Operator" "AND" "Lcom/example/failfirst/failfirst/Operator;" (.ref w_AND)) (E_AND : Exa Z h0 w_AND "com/example/failfirst/failfirst/Operator") (S_OR : Sta Z h0 "com/example/failfirst/failfirst/Operator" "OR" "Lcom/example/failfirst/failfirst/Operator;" (.ref w_OR)) (E_OR : Exa Z h0 w_OR "com/example/failfirst/failfirst/Operator") (S_XOR : Sta Z h0 "com/example/failfirst/failfirst/Operator" "XOR" "Lcom/example/failfirst/failfirst/Operator;" (.ref w_XOR)) (E_XOR : Exa Z h0 w_XOR "com/example/failfirst/failfirst/Operator") (S_IFF : Sta Z h0 "com/example/failfirst/failfirst/Operator" "IFF" "Lcom/example/failfirst/failfirst/Operator;" (.ref w_IFF)) (E_IFF : Exa Z h0 w_IFF "com/example/failfirst/failfirst/Operator") (S_IMP : Sta Z h0 "com/example/failfirst/failfirst/Operator" "IMP" "Lcom/example/failfirst/failfirst/Operator;" (.ref w_IMP)) (E_IMP : Exa Z h0 w_IMP "com/example/failfirst/failfirst/Operator") (S_COMPARISON : Sta Z h0 "com/example/failfirst/failfirst/Operator$Kind" "COMPARISON" "Lcom/example/failfirst/failfirst/Operator$Kind;" (.ref w_COMPARISON)) (F_kind : Fld Z h0 wx "com/example/failfirst/failfirst/Operator" "kind" "Lcom/example/failfirst/failfirst/Operator$Kind;" (.ref wk)) (E_wx : Exa Z h0 wx "com/example/failfirst/failfirst/Operator") (hj0 : ¬ ((p1 &&& (2147483647 : Int32)) % (22 : Int32)) < 0) (hj1 : ((p1 &&& (2147483647 : Int32)) % (22 : Int32)) < (22 : Int32)) (hlt : (((p1 &&& (2147483647 : Int32)) % (22 : Int32))).toNatClampNeg < (22 : Int32).toNatClampNeg) (hsel : ([.ref w_NEG, .ref w_ABS, .ref w_ADD, .ref w_SUB, .ref w_MUL, .ref w_DIV, .ref w_MOD, .ref w_DIST, .ref w_MIN, .ref w_MAX, .ref w_LT, .ref w_LE, .ref w_GE, .ref w_GT, .ref w_EQ, .ref w_NE, .ref w_NOT, .ref w_AND, .ref w_OR, .ref w_XOR, .ref w_IFF, .ref w_IMP] : List Value).getD (((p1 &&& (2147483647 : Int32)) % (22 : Int32))).toNatClampNeg .null = .ref wx) (hkd : wk = w_COMPARISON) (ha170 : ¬ (wx = w_LT)) (ha177 : ¬ (wx = w_LE)) (ha184 : ¬ (wx = w_GE)) (ha191 : wx = w_GT) (hk221 : (1 : Int32) = (1 : Int32)) :
    MetFree l x (head1 (Jvm.Cond.code x code maxLocals ret :: ws) room_1) (fun a U => a = #[(.int p1)] ∧ Z.Warmed39 U.vm ∧ U.heap = h0) (fun _ _ _ _ _ => True) (fun _ U o U' => ∃ v L, o = .returned v ∧ Q0 Z p1 h0 n0 v U'.heap L ∧ FrameEnd U o U' L room_1.cells room_1.slots) := by
  refine MetFree.of_bodySF (plainFor_of_name pn_0) hisR ?_
  intro p e s m args below meth c s₁ Bd hml0 hP hK
  obtain ⟨rfl, hZ, hh⟩ := hP
  have hx := Bd.exec
  have hby := Bd.bytes
  have hml : c.maxLocals = 5 := hml0
  have hown : s.vm.findClass "com/example/failfirst/failfirst/OperatorChainsPinLaw" = some m.cls := findClass_of_methodNamed Bd.named
  have hnm := (name_of_methodNamed Bd.named Bd.method).1
  have X0 : Stand p l e room_1 s m #[(.int p1)] below meth c s₁ [] 0 0 := Stand.of_body Bd
  have e0 : s₁.heap = h0 := by rw [← hh, Bd.state]; rfl
  have N0 := Fr.nil n0
  have pre0 : ∀ t, Steps p.tables e below (s₁.setTop (mkF m 0 #[.val (.int p1), .unset, .unset, .unset, .unset] [])) t → Steps p.tables e below (s₁.setTop (entryFrame m #[(.int p1)] maxLocals)) t := fun t k => castTop (ef_0 m p1) k
  obtain ⟨T2, h2, k2, X2, e2, E2, A2, O2, st2⟩ := newR X0 hx hZ hown (hw _ (List.mem_of_getElem? (i := 0) rfl)) (hw _ (List.mem_of_getElem? (i := 1) rfl)) e0 (g := (mkF m 2 #[.val (.int p1), .unset, .unset, .unset, .unset] [(.int (22 : Int32))])) rfl (hb hby at_2) rfl (by decide) (cap := 22) (by decide) (by decide) (by decide) (by decide)
  obtain ⟨b2, g2⟩ : ∃ z, z = h0.size := ⟨_, rfl⟩
  rw [← g2] at A2 st2
  have V_b2 : Arv Z h2 b2 k2 (.object "com/example/failfirst/failfirst/Operator") (22 : Int32) [.null, .null, .null, .null, .null, .null, .null, .null, .null, .null, .null, .null, .null, .null, .null, .null, .null, .null, .null, .null, .null, .null] .null := (Arv.new A2 (by decide)).pad (pad_rep [] .null 22)
  have g_b2 : n0 ≤ b2 := Nat.le_trans Z0 (Nat.le_of_eq g2.symm)
  have sz_b2 : h0.size ≤ b2 := (Nat.le_trans (Keep.refl h0 []).1 (Nat.le_of_eq g2.symm))
  have K2 : Keep h0 h2 [] := (Keep.refl h0 []).ext E2
  obtain ⟨T4, X4, e4, st4⟩ := getS2 X2 hx hZ hown (host := "") (Or.inl (hw _ (List.mem_of_getElem? (i := 2) rfl))) Via.refl e2 (S_NEG.ext E2) (g := (mkF m 7 #[.val (.int p1), .unset, .unset, .unset, .unset] [(.int (0 : Int32)), (.ref b2), (.ref b2)])) rfl (hb hby at_7)
  obtain ⟨cl_b2_10, Ar_b2, q_b2, S_b2, N_b2, H_b2, G_b2⟩ := V_b2
  have hin10 : ¬ ((0 : Int32) < 0 ∨ cl_b2_10.slots.size ≤ ((0 : Int32)).toNatClampNeg) := inb_of S_b2 ⟨by decide, by decide⟩
  have Sto10 : Sto Z h2 b2 (.ref w_NEG) := Sto.ofV Ar_b2 q_b2 O2 (Ins.self (E_NEG.ext E2))
  obtain ⟨T5, h5, X5, e5, W5, st5⟩ := stR X4 hx hZ e4 Ar_b2 (j := (0 : Int32)) hin10 rfl Sto10 (g := (mkF m 10 #[.val (.int p1), .unset, .unset, .unset, .unset] [(.ref w_NEG), (.int (0 : Int32)), (.ref b2), (.ref b2)])) rfl rfl (hb hby at_10)
  have V_b2_5 : Arv Z h5 b2 k2 (.object "com/example/failfirst/failfirst/Operator") (22 : Int32) [(.ref w_NEG), .null, .null, .null, .null, .null, .null, .null, .null, .null, .null, .null, .null, .null, .null, .null, .null, .null, .null, .null, .null, .null] .null := Arv.set Ar_b2 q_b2 S_b2 N_b2 H_b2 G_b2 rfl W5 0 rfl (Nat.le_of_ble_eq_true rfl)
  have K5 : Keep h0 h5 [] := K2.wr W5 (Or.inr sz_b2)
  have N5 := Fr.snoc X5 N0 g_b2
  obtain ⟨T7, X7, e7, st7⟩ := getS2 X5 hx hZ hown (host := "") (Or.inl (hw _ (List.mem_of_getElem? (i := 6) rfl))) Via.refl e5 ((S_ABS.ext E2).wr W5) (g := (mkF m 13 #[.val (.int p1), .unset, .unset, .unset, .unset] [(.int (1 : Int32)), (.ref b2), (.ref b2)])) rfl (hb hby at_13)
  obtain ⟨cl_b2_16, Ar_b2, q_b2, S_b2, N_b2, H_b2, G_b2⟩ := V_b2_5
  have hin16 : ¬ ((1 : Int32) < 0 ∨ cl_b2_16.slots.size ≤ ((1 : Int32)).toNatClampNeg) := inb_of S_b2 ⟨by decide, by decide⟩
  have Sto16 : Sto Z h5 b2 (.ref w_ABS) := Sto.ofV Ar_b2 q_b2 O2 (Ins.self ((E_ABS.ext E2).wr W5))
  obtain ⟨T8, h8, X8, e8, W8, st8⟩ := stR X7 hx hZ e7 Ar_b2 (j := (1 : Int32)) hin16 rfl Sto16 (g := (mkF m 16 #[.val (.int p1), .unset, .unset, .unset, .unset] [(.ref w_ABS), (.int (1 : Int32)), (.ref b2), (.ref b2)])) rfl rfl (hb hby at_16)
  have V_b2_8 : Arv Z h8 b2 k2 (.object "com/example/failfirst/failfirst/Operator") (22 : Int32) [(.ref w_NEG), (.ref w_ABS), .null, .null, .null, .null, .null, .null, .null, .null, .null, .null, .null, .null, .null, .null, .null, .null, .null, .null, .null, .null] .null := Arv.set Ar_b2 q_b2 S_b2 N_b2 H_b2 G_b2 rfl W8 1 rfl (Nat.le_of_ble_eq_true rfl)
  have K8 : Keep h0 h8 [] := K5.wr W8 (Or.inr sz_b2)
  have N8 := Fr.snoc X8 N5 g_b2
  obtain ⟨T10, X10, e10, st10⟩ := getS2 X8 hx hZ hown (host := "") (Or.inl (hw _ (List.mem_of_getElem? (i := 8) rfl))) Via.refl e8 (((S_ADD.ext E2).wr W5).wr W8) (g := (mkF m 19 #[.val (.int p1), .unset, .unset, .unset, .unset] [(.int (2 : Int32)), (.ref b2), (.ref b2)])) rfl (hb hby at_19)
  obtain ⟨cl_b2_22, Ar_b2, q_b2, S_b2, N_b2, H_b2, G_b2⟩ := V_b2_8
  have hin22 : ¬ ((2 : Int32) < 0 ∨ cl_b2_22.slots.size ≤ ((2 : Int32)).toNatClampNeg) := inb_of S_b2 ⟨by decide, by decide⟩
  have Sto22 : Sto Z h8 b2 (.ref w_ADD) := Sto.ofV Ar_b2 q_b2 O2 (Ins.self (((E_ADD.ext E2).wr W5).wr W8))
  obtain ⟨T11, h11, X11, e11, W11, st11⟩ := stR X10 hx hZ e10 Ar_b2 (j := (2 : Int32)) hin22 rfl Sto22 (g := (mkF m 22 #[.val (.int p1), .unset, .unset, .unset, .unset] [(.ref w_ADD), (.int (2 : Int32)), (.ref b2), (.ref b2)])) rfl rfl (hb hby at_22)
  have V_b2_11 : Arv Z h11 b2 k2 (.object "com/example/failfirst/failfirst/Operator") (22 : Int32) [(.ref w_NEG), (.ref w_ABS), (.ref w_ADD), .null, .null, .null, .null, .null, .null, .null, .null, .null, .null, .null, .null, .null, .null, .null, .null, .null, .null, .null] .null := Arv.set Ar_b2 q_b2 S_b2 N_b2 H_b2 G_b2 rfl W11 2 rfl (Nat.le_of_ble_eq_true rfl)
  have K11 : Keep h0 h11 [] := K8.wr W11 (Or.inr sz_b2)
  have N11 := Fr.snoc X11 N8 g_b2
  obtain ⟨T13, X13, e13, st13⟩ := getS2 X11 hx hZ hown (host := "") (Or.inl (hw _ (List.mem_of_getElem? (i := 10) rfl))) Via.refl e11 ((((S_SUB.ext E2).wr W5).wr W8).wr W11) (g := (mkF m 25 #[.val (.int p1), .unset, .unset, .unset, .unset] [(.int (3 : Int32)), (.ref b2), (.ref b2)])) rfl (hb hby at_25)
  obtain ⟨cl_b2_28, Ar_b2, q_b2, S_b2, N_b2, H_b2, G_b2⟩ := V_b2_11
  have hin28 : ¬ ((3 : Int32) < 0 ∨ cl_b2_28.slots.size ≤ ((3 : Int32)).toNatClampNeg) := inb_of S_b2 ⟨by decide, by decide⟩
  have Sto28 : Sto Z h11 b2 (.ref w_SUB) := Sto.ofV Ar_b2 q_b2 O2 (Ins.self ((((E_SUB.ext E2).wr W5).wr W8).wr W11))
  obtain ⟨T14, h14, X14, e14, W14, st14⟩ := stR X13 hx hZ e13 Ar_b2 (j := (3 : Int32)) hin28 rfl Sto28 (g := (mkF m 28 #[.val (.int p1), .unset, .unset, .unset, .unset] [(.ref w_SUB), (.int (3 : Int32)), (.ref b2), (.ref b2)])) rfl rfl (hb hby at_28)
  have V_b2_14 : Arv Z h14 b2 k2 (.object "com/example/failfirst/failfirst/Operator") (22 : Int32) [(.ref w_NEG), (.ref w_ABS), (.ref w_ADD), (.ref w_SUB), .null, .null, .null, .null, .null, .null, .null, .null, .null, .null, .null, .null, .null, .null, .null, .null, .null, .null] .null := Arv.set Ar_b2 q_b2 S_b2 N_b2 H_b2 G_b2 rfl W14 3 rfl (Nat.le_of_ble_eq_true rfl)
  have K14 : Keep h0 h14 [] := K11.wr W14 (Or.inr sz_b2)
  have N14 := Fr.snoc X14 N11 g_b2
  obtain ⟨T16, X16, e16, st16⟩ := getS2 X14 hx hZ hown (host := "") (Or.inl (hw _ (List.mem_of_getElem? (i := 12) rfl))) Via.refl e14 (((((S_MUL.ext E2).wr W5).wr W8).wr W11).wr W14) (g := (mkF m 31 #[.val (.int p1), .unset, .unset, .unset, .unset] [(.int (4 : Int32)), (.ref b2), (.ref b2)])) rfl (hb hby at_31)
  obtain ⟨cl_b2_34, Ar_b2, q_b2, S_b2, N_b2, H_b2, G_b2⟩ := V_b2_14
  have hin34 : ¬ ((4 : Int32) < 0 ∨ cl_b2_34.slots.size ≤ ((4 : Int32)).toNatClampNeg) := inb_of S_b2 ⟨by decide, by decide⟩
  have Sto34 : Sto Z h14 b2 (.ref w_MUL) := Sto.ofV Ar_b2 q_b2 O2 (Ins.self (((((E_MUL.ext E2).wr W5).wr W8).wr W11).wr W14))
  obtain ⟨T17, h17, X17, e17, W17, st17⟩ := stR X16 hx hZ e16 Ar_b2 (j := (4 : Int32)) hin34 rfl Sto34 (g := (mkF m 34 #[.val (.int p1), .unset, .unset, .unset, .unset] [(.ref w_MUL), (.int (4 : Int32)), (.ref b2), (.ref b2)])) rfl rfl (hb hby at_34)
  have V_b2_17 : Arv Z h17 b2 k2 (.object "com/example/failfirst/failfirst/Operator") (22 : Int32) [(.ref w_NEG), (.ref w_ABS), (.ref w_ADD), (.ref w_SUB), (.ref w_MUL), .null, .null, .null, .null, .null, .null, .null, .null, .null, .null, .null, .null, .null, .null, .null, .null, .null] .null := Arv.set Ar_b2 q_b2 S_b2 N_b2 H_b2 G_b2 rfl W17 4 rfl (Nat.le_of_ble_eq_true rfl)
  have K17 : Keep h0 h17 [] := K14.wr W17 (Or.inr sz_b2)
  have N17 := Fr.snoc X17 N14 g_b2
  obtain ⟨T19, X19, e19, st19⟩ := getS2 X17 hx hZ hown (host := "") (Or.inl (hw _ (List.mem_of_getElem? (i := 14) rfl))) Via.refl e17 ((((((S_DIV.ext E2).wr W5).wr W8).wr W11).wr W14).wr W17) (g := (mkF m 37 #[.val (.int p1), .unset, .unset, .unset, .unset] [(.int (5 : Int32)), (.ref b2), (.ref b2)])) rfl (hb hby at_37)
  obtain ⟨cl_b2_40, Ar_b2, q_b2, S_b2, N_b2, H_b2, G_b2⟩ := V_b2_17
  have hin40 : ¬ ((5 : Int32) < 0 ∨ cl_b2_40.slots.size ≤ ((5 : Int32)).toNatClampNeg) := inb_of S_b2 ⟨by decide, by decide⟩
  have Sto40 : Sto Z h17 b2 (.ref w_DIV) := Sto.ofV Ar_b2 q_b2 O2 (Ins.self ((((((E_DIV.ext E2).wr W5).wr W8).wr W11).wr W14).wr W17))
  obtain ⟨T20, h20, X20, e20, W20, st20⟩ := stR X19 hx hZ e19 Ar_b2 (j := (5 : Int32)) hin40 rfl Sto40 (g := (mkF m 40 #[.val (.int p1), .unset, .unset, .unset, .unset] [(.ref w_DIV), (.int (5 : Int32)), (.ref b2), (.ref b2)])) rfl rfl (hb hby at_40)
  have V_b2_20 : Arv Z h20 b2 k2 (.object "com/example/failfirst/failfirst/Operator") (22 : Int32) [(.ref w_NEG), (.ref w_ABS), (.ref w_ADD), (.ref w_SUB), (.ref w_MUL), (.ref w_DIV), .null, .null, .null, .null, .null, .null, .null, .null, .null, .null, .null, .null, .null, .null, .null, .null] .null := Arv.set Ar_b2 q_b2 S_b2 N_b2 H_b2 G_b2 rfl W20 5 rfl (Nat.le_of_ble_eq_true rfl)
  have K20 : Keep h0 h20 [] := K17.wr W20 (Or.inr sz_b2)
  have N20 := Fr.snoc X20 N17 g_b2
  obtain ⟨T22, X22, e22, st22⟩ := getS2 X20 hx hZ hown (host := "") (Or.inl (hw _ (List.mem_of_getElem? (i := 16) rfl))) Via.refl e20 (((((((S_MOD.ext E2).wr W5).wr W8).wr W11).wr W14).wr W17).wr W20) (g := (mkF m 44 #[.val (.int p1), .unset, .unset, .unset, .unset] [(.int (6 : Int32)), (.ref b2), (.ref b2)])) rfl (hb hby at_44)
  obtain ⟨cl_b2_47, Ar_b2, q_b2, S_b2, N_b2, H_b2, G_b2⟩ := V_b2_20
  have hin47 : ¬ ((6 : Int32) < 0 ∨ cl_b2_47.slots.size ≤ ((6 : Int32)).toNatClampNeg) := inb_of S_b2 ⟨by decide, by decide⟩
  have Sto47 : Sto Z h20 b2 (.ref w_MOD) := Sto.ofV Ar_b2 q_b2 O2 (Ins.self (((((((E_MOD.ext E2).wr W5).wr W8).wr W11).wr W14).wr W17).wr W20))
  obtain ⟨T23, h23, X23, e23, W23, st23⟩ := stR X22 hx hZ e22 Ar_b2 (j := (6 : Int32)) hin47 rfl Sto47 (g := (mkF m 47 #[.val (.int p1), .unset, .unset, .unset, .unset] [(.ref w_MOD), (.int (6 : Int32)), (.ref b2), (.ref b2)])) rfl rfl (hb hby at_47)
  have V_b2_23 : Arv Z h23 b2 k2 (.object "com/example/failfirst/failfirst/Operator") (22 : Int32) [(.ref w_NEG), (.ref w_ABS), (.ref w_ADD), (.ref w_SUB), (.ref w_MUL), (.ref w_DIV), (.ref w_MOD), .null, .null, .null, .null, .null, .null, .null, .null, .null, .null, .null, .null, .null, .null, .null] .null := Arv.set Ar_b2 q_b2 S_b2 N_b2 H_b2 G_b2 rfl W23 6 rfl (Nat.le_of_ble_eq_true rfl)
  have K23 : Keep h0 h23 [] := K20.wr W23 (Or.inr sz_b2)
  have N23 := Fr.snoc X23 N20 g_b2
  obtain ⟨T25, X25, e25, st25⟩ := getS2 X23 hx hZ hown (host := "") (Or.inl (hw _ (List.mem_of_getElem? (i := 18) rfl))) Via.refl e23 ((((((((S_DIST.ext E2).wr W5).wr W8).wr W11).wr W14).wr W17).wr W20).wr W23) (g := (mkF m 51 #[.val (.int p1), .unset, .unset, .unset, .unset] [(.int (7 : Int32)), (.ref b2), (.ref b2)])) rfl (hb hby at_51)
  obtain ⟨cl_b2_54, Ar_b2, q_b2, S_b2, N_b2, H_b2, G_b2⟩ := V_b2_23
  have hin54 : ¬ ((7 : Int32) < 0 ∨ cl_b2_54.slots.size ≤ ((7 : Int32)).toNatClampNeg) := inb_of S_b2 ⟨by decide, by decide⟩
  have Sto54 : Sto Z h23 b2 (.ref w_DIST) := Sto.ofV Ar_b2 q_b2 O2 (Ins.self ((((((((E_DIST.ext E2).wr W5).wr W8).wr W11).wr W14).wr W17).wr W20).wr W23))
  obtain ⟨T26, h26, X26, e26, W26, st26⟩ := stR X25 hx hZ e25 Ar_b2 (j := (7 : Int32)) hin54 rfl Sto54 (g := (mkF m 54 #[.val (.int p1), .unset, .unset, .unset, .unset] [(.ref w_DIST), (.int (7 : Int32)), (.ref b2), (.ref b2)])) rfl rfl (hb hby at_54)
  have V_b2_26 : Arv Z h26 b2 k2 (.object "com/example/failfirst/failfirst/Operator") (22 : Int32) [(.ref w_NEG), (.ref w_ABS), (.ref w_ADD), (.ref w_SUB), (.ref w_MUL), (.ref w_DIV), (.ref w_MOD), (.ref w_DIST), .null, .null, .null, .null, .null, .null, .null, .null, .null, .null, .null, .null, .null, .null] .null := Arv.set Ar_b2 q_b2 S_b2 N_b2 H_b2 G_b2 rfl W26 7 rfl (Nat.le_of_ble_eq_true rfl)
  have K26 : Keep h0 h26 [] := K23.wr W26 (Or.inr sz_b2)
  have N26 := Fr.snoc X26 N23 g_b2
  obtain ⟨T28, X28, e28, st28⟩ := getS2 X26 hx hZ hown (host := "") (Or.inl (hw _ (List.mem_of_getElem? (i := 20) rfl))) Via.refl e26 (((((((((S_MIN.ext E2).wr W5).wr W8).wr W11).wr W14).wr W17).wr W20).wr W23).wr W26) (g := (mkF m 58 #[.val (.int p1), .unset, .unset, .unset, .unset] [(.int (8 : Int32)), (.ref b2), (.ref b2)])) rfl (hb hby at_58)
  obtain ⟨cl_b2_61, Ar_b2, q_b2, S_b2, N_b2, H_b2, G_b2⟩ := V_b2_26
  have hin61 : ¬ ((8 : Int32) < 0 ∨ cl_b2_61.slots.size ≤ ((8 : Int32)).toNatClampNeg) := inb_of S_b2 ⟨by decide, by decide⟩
  have Sto61 : Sto Z h26 b2 (.ref w_MIN) := Sto.ofV Ar_b2 q_b2 O2 (Ins.self (((((((((E_MIN.ext E2).wr W5).wr W8).wr W11).wr W14).wr W17).wr W20).wr W23).wr W26))
  obtain ⟨T29, h29, X29, e29, W29, st29⟩ := stR X28 hx hZ e28 Ar_b2 (j := (8 : Int32)) hin61 rfl Sto61 (g := (mkF m 61 #[.val (.int p1), .unset, .unset, .unset, .unset] [(.ref w_MIN), (.int (8 : Int32)), (.ref b2), (.ref b2)])) rfl rfl (hb hby at_61)
  have V_b2_29 : Arv Z h29 b2 k2 (.object "com/example/failfirst/failfirst/Operator") (22 : Int32) [(.ref w_NEG), (.ref w_ABS), (.ref w_ADD), (.ref w_SUB), (.ref w_MUL), (.ref w_DIV), (.ref w_MOD), (.ref w_DIST), (.ref w_MIN), .null, .null, .null, .null, .null, .null, .null, .null, .null, .null, .null, .null, .null] .null := Arv.set Ar_b2 q_b2 S_b2 N_b2 H_b2 G_b2 rfl W29 8 rfl (Nat.le_of_ble_eq_true rfl)
  have K29 : Keep h0 h29 [] := K26.wr W29 (Or.inr sz_b2)
  have N29 := Fr.snoc X29 N26 g_b2
  obtain ⟨T31, X31, e31, st31⟩ := getS2 X29 hx hZ hown (host := "") (Or.inl (hw _ (List.mem_of_getElem? (i := 22) rfl))) Via.refl e29 ((((((((((S_MAX.ext E2).wr W5).wr W8).wr W11).wr W14).wr W17).wr W20).wr W23).wr W26).wr W29) (g := (mkF m 65 #[.val (.int p1), .unset, .unset, .unset, .unset] [(.int (9 : Int32)), (.ref b2), (.ref b2)])) rfl (hb hby at_65)
  obtain ⟨cl_b2_68, Ar_b2, q_b2, S_b2, N_b2, H_b2, G_b2⟩ := V_b2_29
  have hin68 : ¬ ((9 : Int32) < 0 ∨ cl_b2_68.slots.size ≤ ((9 : Int32)).toNatClampNeg) := inb_of S_b2 ⟨by decide, by decide⟩
  have Sto68 : Sto Z h29 b2 (.ref w_MAX) := Sto.ofV Ar_b2 q_b2 O2 (Ins.self ((((((((((E_MAX.ext E2).wr W5).wr W8).wr W11).wr W14).wr W17).wr W20).wr W23).wr W26).wr W29))
  obtain ⟨T32, h32, X32, e32, W32, st32⟩ := stR X31 hx hZ e31 Ar_b2 (j := (9 : Int32)) hin68 rfl Sto68 (g := (mkF m 68 #[.val (.int p1), .unset, .unset, .unset, .unset] [(.ref w_MAX), (.int (9 : Int32)), (.ref b2), (.ref b2)])) rfl rfl (hb hby at_68)
  have V_b2_32 : Arv Z h32 b2 k2 (.object "com/example/failfirst/failfirst/Operator") (22 : Int32) [(.ref w_NEG), (.ref w_ABS), (.ref w_ADD), (.ref w_SUB), (.ref w_MUL), (.ref w_DIV), (.ref w_MOD), (.ref w_DIST), (.ref w_MIN), (.ref w_MAX), .null, .null, .null, .null, .null, .null, .null, .null, .null, .null, .null, .null] .null := Arv.set Ar_b2 q_b2 S_b2 N_b2 H_b2 G_b2 rfl W32 9 rfl (Nat.le_of_ble_eq_true rfl)
  have K32 : Keep h0 h32 [] := K29.wr W32 (Or.inr sz_b2)
  have N32 := Fr.snoc X32 N29 g_b2
  obtain ⟨T34, X34, e34, st34⟩ := getS2 X32 hx hZ hown (host := "") (Or.inl (hw _ (List.mem_of_getElem? (i := 24) rfl))) Via.refl e32 (((((((((((S_LT.ext E2).wr W5).wr W8).wr W11).wr W14).wr W17).wr W20).wr W23).wr W26).wr W29).wr W32) (g := (mkF m 72 #[.val (.int p1), .unset, .unset, .unset, .unset] [(.int (10 : Int32)), (.ref b2), (.ref b2)])) rfl (hb hby at_72)
  obtain ⟨cl_b2_75, Ar_b2, q_b2, S_b2, N_b2, H_b2, G_b2⟩ := V_b2_32
  have hin75 : ¬ ((10 : Int32) < 0 ∨ cl_b2_75.slots.size ≤ ((10 : Int32)).toNatClampNeg) := inb_of S_b2 ⟨by decide, by decide⟩
  have Sto75 : Sto Z h32 b2 (.ref w_LT) := Sto.ofV Ar_b2 q_b2 O2 (Ins.self (((((((((((E_LT.ext E2).wr W5).wr W8).wr W11).wr W14).wr W17).wr W20).wr W23).wr W26).wr W29).wr W32))
  obtain ⟨T35, h35, X35, e35, W35, st35⟩ := stR X34 hx hZ e34 Ar_b2 (j := (10 : Int32)) hin75 rfl Sto75 (g := (mkF m 75 #[.val (.int p1), .unset, .unset, .unset, .unset] [(.ref w_LT), (.int (10 : Int32)), (.ref b2), (.ref b2)])) rfl rfl (hb hby at_75)
  have V_b2_35 : Arv Z h35 b2 k2 (.object "com/example/failfirst/failfirst/Operator") (22 : Int32) [(.ref w_NEG), (.ref w_ABS), (.ref w_ADD), (.ref w_SUB), (.ref w_MUL), (.ref w_DIV), (.ref w_MOD), (.ref w_DIST), (.ref w_MIN), (.ref w_MAX), (.ref w_LT), .null, .null, .null, .null, .null, .null, .null, .null, .null, .null, .null] .null := Arv.set Ar_b2 q_b2 S_b2 N_b2 H_b2 G_b2 rfl W35 10 rfl (Nat.le_of_ble_eq_true rfl)
  have K35 : Keep h0 h35 [] := K32.wr W35 (Or.inr sz_b2)
  have N35 := Fr.snoc X35 N32 g_b2
  obtain ⟨T37, X37, e37, st37⟩ := getS2 X35 hx hZ hown (host := "") (Or.inl (hw _ (List.mem_of_getElem? (i := 26) rfl))) Via.refl e35 ((((((((((((S_LE.ext E2).wr W5).wr W8).wr W11).wr W14).wr W17).wr W20).wr W23).wr W26).wr W29).wr W32).wr W35) (g := (mkF m 79 #[.val (.int p1), .unset, .unset, .unset, .unset] [(.int (11 : Int32)), (.ref b2), (.ref b2)])) rfl (hb hby at_79)
  obtain ⟨cl_b2_82, Ar_b2, q_b2, S_b2, N_b2, H_b2, G_b2⟩ := V_b2_35
  have hin82 : ¬ ((11 : Int32) < 0 ∨ cl_b2_82.slots.size ≤ ((11 : Int32)).toNatClampNeg) := inb_of S_b2 ⟨by decide, by decide⟩
  have Sto82 : Sto Z h35 b2 (.ref w_LE) := Sto.ofV Ar_b2 q_b2 O2 (Ins.self ((((((((((((E_LE.ext E2).wr W5).wr W8).wr W11).wr W14).wr W17).wr W20).wr W23).wr W26).wr W29).wr W32).wr W35))
  obtain ⟨T38, h38, X38, e38, W38, st38⟩ := stR X37 hx hZ e37 Ar_b2 (j := (11 : Int32)) hin82 rfl Sto82 (g := (mkF m 82 #[.val (.int p1), .unset, .unset, .unset, .unset] [(.ref w_LE), (.int (11 : Int32)), (.ref b2), (.ref b2)])) rfl rfl (hb hby at_82)
  have V_b2_38 : Arv Z h38 b2 k2 (.object "com/example/failfirst/failfirst/Operator") (22 : Int32) [(.ref w_NEG), (.ref w_ABS), (.ref w_ADD), (.ref w_SUB), (.ref w_MUL), (.ref w_DIV), (.ref w_MOD), (.ref w_DIST), (.ref w_MIN), (.ref w_MAX), (.ref w_LT), (.ref w_LE), .null, .null, .null, .null, .null, .null, .null, .null, .null, .null] .null := Arv.set Ar_b2 q_b2 S_b2 N_b2 H_b2 G_b2 rfl W38 11 rfl (Nat.le_of_ble_eq_true rfl)
  have K38 : Keep h0 h38 [] := K35.wr W38 (Or.inr sz_b2)
  have N38 := Fr.snoc X38 N35 g_b2
  obtain ⟨T40, X40, e40, st40⟩ := getS2 X38 hx hZ hown (host := "") (Or.inl (hw _ (List.mem_of_getElem? (i := 28) rfl))) Via.refl e38 (((((((((((((S_GE.ext E2).wr W5).wr W8).wr W11).wr W14).wr W17).wr W20).wr W23).wr W26).wr W29).wr W32).wr W35).wr W38) (g := (mkF m 86 #[.val (.int p1), .unset, .unset, .unset, .unset] [(.int (12 : Int32)), (.ref b2), (.ref b2)])) rfl (hb hby at_86)
  obtain ⟨cl_b2_89, Ar_b2, q_b2, S_b2, N_b2, H_b2, G_b2⟩ := V_b2_38
  have hin89 : ¬ ((12 : Int32) < 0 ∨ cl_b2_89.slots.size ≤ ((12 : Int32)).toNatClampNeg) := inb_of S_b2 ⟨by decide, by decide⟩
  have Sto89 : Sto Z h38 b2 (.ref w_GE) := Sto.ofV Ar_b2 q_b2 O2 (Ins.self (((((((((((((E_GE.ext E2).wr W5).wr W8).wr W11).wr W14).wr W17).wr W20).wr W23).wr W26).wr W29).wr W32).wr W35).wr W38))
  obtain ⟨T41, h41, X41, e41, W41, st41⟩ := stR X40 hx hZ e40 Ar_b2 (j := (12 : Int32)) hin89 rfl Sto89 (g := (mkF m 89 #[.val (.int p1), .unset, .unset, .unset, .unset] [(.ref w_GE), (.int (12 : Int32)), (.ref b2), (.ref b2)])) rfl rfl (hb hby at_89)
  have V_b2_41 : Arv Z h41 b2 k2 (.object "com/example/failfirst/failfirst/Operator") (22 : Int32) [(.ref w_NEG), (.ref w_ABS), (.ref w_ADD), (.ref w_SUB), (.ref w_MUL), (.ref w_DIV), (.ref w_MOD), (.ref w_DIST), (.ref w_MIN), (.ref w_MAX), (.ref w_LT), (.ref w_LE), (.ref w_GE), .null, .null, .null, .null, .null, .null, .null, .null, .null] .null := Arv.set Ar_b2 q_b2 S_b2 N_b2 H_b2 G_b2 rfl W41 12 rfl (Nat.le_of_ble_eq_true rfl)
  have K41 : Keep h0 h41 [] := K38.wr W41 (Or.inr sz_b2)
  have N41 := Fr.snoc X41 N38 g_b2
  obtain ⟨T43, X43, e43, st43⟩ := getS2 X41 hx hZ hown (host := "") (Or.inl (hw _ (List.mem_of_getElem? (i := 30) rfl))) Via.refl e41 ((((((((((((((S_GT.ext E2).wr W5).wr W8).wr W11).wr W14).wr W17).wr W20).wr W23).wr W26).wr W29).wr W32).wr W35).wr W38).wr W41) (g := (mkF m 93 #[.val (.int p1), .unset, .unset, .unset, .unset] [(.int (13 : Int32)), (.ref b2), (.ref b2)])) rfl (hb hby at_93)
  obtain ⟨cl_b2_96, Ar_b2, q_b2, S_b2, N_b2, H_b2, G_b2⟩ := V_b2_41
  have hin96 : ¬ ((13 : Int32) < 0 ∨ cl_b2_96.slots.size ≤ ((13 : Int32)).toNatClampNeg) := inb_of S_b2 ⟨by decide, by decide⟩
  have Sto96 : Sto Z h41 b2 (.ref w_GT) := Sto.ofV Ar_b2 q_b2 O2 (Ins.self ((((((((((((((E_GT.ext E2).wr W5).wr W8).wr W11).wr W14).wr W17).wr W20).wr W23).wr W26).wr W29).wr W32).wr W35).wr W38).wr W41))
  obtain ⟨T44, h44, X44, e44, W44, st44⟩ := stR X43 hx hZ e43 Ar_b2 (j := (13 : Int32)) hin96 rfl Sto96 (g := (mkF m 96 #[.val (.int p1), .unset, .unset, .unset, .unset] [(.ref w_GT), (.int (13 : Int32)), (.ref b2), (.ref b2)])) rfl rfl (hb hby at_96)
  have V_b2_44 : Arv Z h44 b2 k2 (.object "com/example/failfirst/failfirst/Operator") (22 : Int32) [(.ref w_NEG), (.ref w_ABS), (.ref w_ADD), (.ref w_SUB), (.ref w_MUL), (.ref w_DIV), (.ref w_MOD), (.ref w_DIST), (.ref w_MIN), (.ref w_MAX), (.ref w_LT), (.ref w_LE), (.ref w_GE), (.ref w_GT), .null, .null, .null, .null, .null, .null, .null, .null] .null := Arv.set Ar_b2 q_b2 S_b2 N_b2 H_b2 G_b2 rfl W44 13 rfl (Nat.le_of_ble_eq_true rfl)
  have K44 : Keep h0 h44 [] := K41.wr W44 (Or.inr sz_b2)
  have N44 := Fr.snoc X44 N41 g_b2
  obtain ⟨T46, X46, e46, st46⟩ := getS2 X44 hx hZ hown (host := "") (Or.inl (hw _ (List.mem_of_getElem? (i := 32) rfl))) Via.refl e44 (((((((((((((((S_EQ.ext E2).wr W5).wr W8).wr W11).wr W14).wr W17).wr W20).wr W23).wr W26).wr W29).wr W32).wr W35).wr W38).wr W41).wr W44) (g := (mkF m 100 #[.val (.int p1), .unset, .unset, .unset, .unset] [(.int (14 : Int32)), (.ref b2), (.ref b2)])) rfl (hb hby at_100)
  obtain ⟨cl_b2_103, Ar_b2, q_b2, S_b2, N_b2, H_b2, G_b2⟩ := V_b2_44
  have hin103 : ¬ ((14 : Int32) < 0 ∨ cl_b2_103.slots.size ≤ ((14 : Int32)).toNatClampNeg) := inb_of S_b2 ⟨by decide, by decide⟩
  have Sto103 : Sto Z h44 b2 (.ref w_EQ) := Sto.ofV Ar_b2 q_b2 O2 (Ins.self (((((((((((((((E_EQ.ext E2).wr W5).wr W8).wr W11).wr W14).wr W17).wr W20).wr W23).wr W26).wr W29).wr W32).wr W35).wr W38).wr W41).wr W44))
  obtain ⟨T47, h47, X47, e47, W47, st47⟩ := stR X46 hx hZ e46 Ar_b2 (j := (14 : Int32)) hin103 rfl Sto103 (g := (mkF m 103 #[.val (.int p1), .unset, .unset, .unset, .unset] [(.ref w_EQ), (.int (14 : Int32)), (.ref b2), (.ref b2)])) rfl rfl (hb hby at_103)
  have V_b2_47 : Arv Z h47 b2 k2 (.object "com/example/failfirst/failfirst/Operator") (22 : Int32) [(.ref w_NEG), (.ref w_ABS), (.ref w_ADD), (.ref w_SUB), (.ref w_MUL), (.ref w_DIV), (.ref w_MOD), (.ref w_DIST), (.ref w_MIN), (.ref w_MAX), (.ref w_LT), (.ref w_LE), (.ref w_GE), (.ref w_GT), (.ref w_EQ), .null, .null, .null, .null, .null, .null, .null] .null := Arv.set Ar_b2 q_b2 S_b2 N_b2 H_b2 G_b2 rfl W47 14 rfl (Nat.le_of_ble_eq_true rfl)
  have K47 : Keep h0 h47 [] := K44.wr W47 (Or.inr sz_b2)
  have N47 := Fr.snoc X47 N44 g_b2
  obtain ⟨T49, X49, e49, st49⟩ := getS2 X47 hx hZ hown (host := "") (Or.inl (hw _ (List.mem_of_getElem? (i := 34) rfl))) Via.refl e47 ((((((((((((((((S_NE.ext E2).wr W5).wr W8).wr W11).wr W14).wr W17).wr W20).wr W23).wr W26).wr W29).wr W32).wr W35).wr W38).wr W41).wr W44).wr W47) (g := (mkF m 107 #[.val (.int p1), .unset, .unset, .unset, .unset] [(.int (15 : Int32)), (.ref b2), (.ref b2)])) rfl (hb hby at_107)
  obtain ⟨cl_b2_110, Ar_b2, q_b2, S_b2, N_b2, H_b2, G_b2⟩ := V_b2_47
  have hin110 : ¬ ((15 : Int32) < 0 ∨ cl_b2_110.slots.size ≤ ((15 : Int32)).toNatClampNeg) := inb_of S_b2 ⟨by decide, by decide⟩
  have Sto110 : Sto Z h47 b2 (.ref w_NE) := Sto.ofV Ar_b2 q_b2 O2 (Ins.self ((((((((((((((((E_NE.ext E2).wr W5).wr W8).wr W11).wr W14).wr W17).wr W20).wr W23).wr W26).wr W29).wr W32).wr W35).wr W38).wr W41).wr W44).wr W47))
  obtain ⟨T50, h50, X50, e50, W50, st50⟩ := stR X49 hx hZ e49 Ar_b2 (j := (15 : Int32)) hin110 rfl Sto110 (g := (mkF m 110 #[.val (.int p1), .unset, .unset, .unset, .unset] [(.ref w_NE), (.int (15 : Int32)), (.ref b2), (.ref b2)])) rfl rfl (hb hby at_110)
  have V_b2_50 : Arv Z h50 b2 k2 (.object "com/example/failfirst/failfirst/Operator") (22 : Int32) [(.ref w_NEG), (.ref w_ABS), (.ref w_ADD), (.ref w_SUB), (.ref w_MUL), (.ref w_DIV), (.ref w_MOD), (.ref w_DIST), (.ref w_MIN), (.ref w_MAX), (.ref w_LT), (.ref w_LE), (.ref w_GE), (.ref w_GT), (.ref w_EQ), (.ref w_NE), .null, .null, .null, .null, .null, .null] .null := Arv.set Ar_b2 q_b2 S_b2 N_b2 H_b2 G_b2 rfl W50 15 rfl (Nat.le_of_ble_eq_true rfl)
  have K50 : Keep h0 h50 [] := K47.wr W50 (Or.inr sz_b2)
  have N50 := Fr.snoc X50 N47 g_b2
  obtain ⟨T52, X52, e52, st52⟩ := getS2 X50 hx hZ hown (host := "") (Or.inl (hw _ (List.mem_of_getElem? (i := 36) rfl))) Via.refl e50 (((((((((((((((((S_NOT.ext E2).wr W5).wr W8).wr W11).wr W14).wr W17).wr W20).wr W23).wr W26).wr W29).wr W32).wr W35).wr W38).wr W41).wr W44).wr W47).wr W50) (g := (mkF m 114 #[.val (.int p1), .unset, .unset, .unset, .unset] [(.int (16 : Int32)), (.ref b2), (.ref b2)])) rfl (hb hby at_114)
  obtain ⟨cl_b2_117, Ar_b2, q_b2, S_b2, N_b2, H_b2, G_b2⟩ := V_b2_50
  have hin117 : ¬ ((16 : Int32) < 0 ∨ cl_b2_117.slots.size ≤ ((16 : Int32)).toNatClampNeg) := inb_of S_b2 ⟨by decide, by decide⟩
  have Sto117 : Sto Z h50 b2 (.ref w_NOT) := Sto.ofV Ar_b2 q_b2 O2 (Ins.self (((((((((((((((((E_NOT.ext E2).wr W5).wr W8).wr W11).wr W14).wr W17).wr W20).wr W23).wr W26).wr W29).wr W32).wr W35).wr W38).wr W41).wr W44).wr W47).wr W50))
  obtain ⟨T53, h53, X53, e53, W53, st53⟩ := stR X52 hx hZ e52 Ar_b2 (j := (16 : Int32)) hin117 rfl Sto117 (g := (mkF m 117 #[.val (.int p1), .unset, .unset, .unset, .unset] [(.ref w_NOT), (.int (16 : Int32)), (.ref b2), (.ref b2)])) rfl rfl (hb hby at_117)
  have V_b2_53 : Arv Z h53 b2 k2 (.object "com/example/failfirst/failfirst/Operator") (22 : Int32) [(.ref w_NEG), (.ref w_ABS), (.ref w_ADD), (.ref w_SUB), (.ref w_MUL), (.ref w_DIV), (.ref w_MOD), (.ref w_DIST), (.ref w_MIN), (.ref w_MAX), (.ref w_LT), (.ref w_LE), (.ref w_GE), (.ref w_GT), (.ref w_EQ), (.ref w_NE), (.ref w_NOT), .null, .null, .null, .null, .null] .null := Arv.set Ar_b2 q_b2 S_b2 N_b2 H_b2 G_b2 rfl W53 16 rfl (Nat.le_of_ble_eq_true rfl)
  have K53 : Keep h0 h53 [] := K50.wr W53 (Or.inr sz_b2)
  have N53 := Fr.snoc X53 N50 g_b2
  obtain ⟨T55, X55, e55, st55⟩ := getS2 X53 hx hZ hown (host := "") (Or.inl (hw _ (List.mem_of_getElem? (i := 38) rfl))) Via.refl e53 ((((((((((((((((((S_AND.ext E2).wr W5).wr W8).wr W11).wr W14).wr W17).wr W20).wr W23).wr W26).wr W29).wr W32).wr W35).wr W38).wr W41).wr W44).wr W47).wr W50).wr W53) (g := (mkF m 121 #[.val (.int p1), .unset, .unset, .unset, .unset] [(.int (17 : Int32)), (.ref b2), (.ref b2)])) rfl (hb hby at_121)
  obtain ⟨cl_b2_124, Ar_b2, q_b2, S_b2, N_b2, H_b2, G_b2⟩ := V_b2_53
  have hin124 : ¬ ((17 : Int32) < 0 ∨ cl_b2_124.slots.size ≤ ((17 : Int32)).toNatClampNeg) := inb_of S_b2 ⟨by decide, by decide⟩
  have Sto124 : Sto Z h53 b2 (.ref w_AND) := Sto.ofV Ar_b2 q_b2 O2 (Ins.self ((((((((((((((((((E_AND.ext E2).wr W5).wr W8).wr W11).wr W14).wr W17).wr W20).wr W23).wr W26).wr W29).wr W32).wr W35).wr W38).wr W41).wr W44).wr W47).wr W50).wr W53))
  obtain ⟨T56, h56, X56, e56, W56, st56⟩ := stR X55 hx hZ e55 Ar_b2 (j := (17 : Int32)) hin124 rfl Sto124 (g := (mkF m 124 #[.val (.int p1), .unset, .unset, .unset, .unset] [(.ref w_AND), (.int (17 : Int32)), (.ref b2), (.ref b2)])) rfl rfl (hb hby at_124)
  have V_b2_56 : Arv Z h56 b2 k2 (.object "com/example/failfirst/failfirst/Operator") (22 : Int32) [(.ref w_NEG), (.ref w_ABS), (.ref w_ADD), (.ref w_SUB), (.ref w_MUL), (.ref w_DIV), (.ref w_MOD), (.ref w_DIST), (.ref w_MIN), (.ref w_MAX), (.ref w_LT), (.ref w_LE), (.ref w_GE), (.ref w_GT), (.ref w_EQ), (.ref w_NE), (.ref w_NOT), (.ref w_AND), .null, .null, .null, .null] .null := Arv.set Ar_b2 q_b2 S_b2 N_b2 H_b2 G_b2 rfl W56 17 rfl (Nat.le_of_ble_eq_true rfl)
  have K56 : Keep h0 h56 [] := K53.wr W56 (Or.inr sz_b2)
  have N56 := Fr.snoc X56 N53 g_b2
  obtain ⟨T58, X58, e58, st58⟩ := getS2 X56 hx hZ hown (host := "") (Or.inl (hw _ (List.mem_of_getElem? (i := 40) rfl))) Via.refl e56 (((((((((((((((((((S_OR.ext E2).wr W5).wr W8).wr W11).wr W14).wr W17).wr W20).wr W23).wr W26).wr W29).wr W32).wr W35).wr W38).wr W41).wr W44).wr W47).wr W50).wr W53).wr W56) (g := (mkF m 128 #[.val (.int p1), .unset, .unset, .unset, .unset] [(.int (18 : Int32)), (.ref b2), (.ref b2)])) rfl (hb hby at_128)
  obtain ⟨cl_b2_131, Ar_b2, q_b2, S_b2, N_b2, H_b2, G_b2⟩ := V_b2_56
  have hin131 : ¬ ((18 : Int32) < 0 ∨ cl_b2_131.slots.size ≤ ((18 : Int32)).toNatClampNeg) := inb_of S_b2 ⟨by decide, by decide⟩
  have Sto131 : Sto Z h56 b2 (.ref w_OR) := Sto.ofV Ar_b2 q_b2 O2 (Ins.self (((((((((((((((((((E_OR.ext E2).wr W5).wr W8).wr W11).wr W14).wr W17).wr W20).wr W23).wr W26).wr W29).wr W32).wr W35).wr W38).wr W41).wr W44).wr W47).wr W50).wr W53).wr W56))
  obtain ⟨T59, h59, X59, e59, W59, st59⟩ := stR X58 hx hZ e58 Ar_b2 (j := (18 : Int32)) hin131 rfl Sto131 (g := (mkF m 131 #[.val (.int p1), .unset, .unset, .unset, .unset] [(.ref w_OR), (.int (18 : Int32)), (.ref b2), (.ref b2)])) rfl rfl (hb hby at_131)
  have V_b2_59 : Arv Z h59 b2 k2 (.object "com/example/failfirst/failfirst/Operator") (22 : Int32) [(.ref w_NEG), (.ref w_ABS), (.ref w_ADD), (.ref w_SUB), (.ref w_MUL), (.ref w_DIV), (.ref w_MOD), (.ref w_DIST), (.ref w_MIN), (.ref w_MAX), (.ref w_LT), (.ref w_LE), (.ref w_GE), (.ref w_GT), (.ref w_EQ), (.ref w_NE), (.ref w_NOT), (.ref w_AND), (.ref w_OR), .null, .null, .null] .null := Arv.set Ar_b2 q_b2 S_b2 N_b2 H_b2 G_b2 rfl W59 18 rfl (Nat.le_of_ble_eq_true rfl)
  have K59 : Keep h0 h59 [] := K56.wr W59 (Or.inr sz_b2)
  have N59 := Fr.snoc X59 N56 g_b2
  obtain ⟨T61, X61, e61, st61⟩ := getS2 X59 hx hZ hown (host := "") (Or.inl (hw _ (List.mem_of_getElem? (i := 42) rfl))) Via.refl e59 ((((((((((((((((((((S_XOR.ext E2).wr W5).wr W8).wr W11).wr W14).wr W17).wr W20).wr W23).wr W26).wr W29).wr W32).wr W35).wr W38).wr W41).wr W44).wr W47).wr W50).wr W53).wr W56).wr W59) (g := (mkF m 135 #[.val (.int p1), .unset, .unset, .unset, .unset] [(.int (19 : Int32)), (.ref b2), (.ref b2)])) rfl (hb hby at_135)
  obtain ⟨cl_b2_138, Ar_b2, q_b2, S_b2, N_b2, H_b2, G_b2⟩ := V_b2_59
  have hin138 : ¬ ((19 : Int32) < 0 ∨ cl_b2_138.slots.size ≤ ((19 : Int32)).toNatClampNeg) := inb_of S_b2 ⟨by decide, by decide⟩
  have Sto138 : Sto Z h59 b2 (.ref w_XOR) := Sto.ofV Ar_b2 q_b2 O2 (Ins.self ((((((((((((((((((((E_XOR.ext E2).wr W5).wr W8).wr W11).wr W14).wr W17).wr W20).wr W23).wr W26).wr W29).wr W32).wr W35).wr W38).wr W41).wr W44).wr W47).wr W50).wr W53).wr W56).wr W59))
  obtain ⟨T62, h62, X62, e62, W62, st62⟩ := stR X61 hx hZ e61 Ar_b2 (j := (19 : Int32)) hin138 rfl Sto138 (g := (mkF m 138 #[.val (.int p1), .unset, .unset, .unset, .unset] [(.ref w_XOR), (.int (19 : Int32)), (.ref b2), (.ref b2)])) rfl rfl (hb hby at_138)
  have V_b2_62 : Arv Z h62 b2 k2 (.object "com/example/failfirst/failfirst/Operator") (22 : Int32) [(.ref w_NEG), (.ref w_ABS), (.ref w_ADD), (.ref w_SUB), (.ref w_MUL), (.ref w_DIV), (.ref w_MOD), (.ref w_DIST), (.ref w_MIN), (.ref w_MAX), (.ref w_LT), (.ref w_LE), (.ref w_GE), (.ref w_GT), (.ref w_EQ), (.ref w_NE), (.ref w_NOT), (.ref w_AND), (.ref w_OR), (.ref w_XOR), .null, .null] .null := Arv.set Ar_b2 q_b2 S_b2 N_b2 H_b2 G_b2 rfl W62 19 rfl (Nat.le_of_ble_eq_true rfl)
  have K62 : Keep h0 h62 [] := K59.wr W62 (Or.inr sz_b2)
  have N62 := Fr.snoc X62 N59 g_b2
  obtain ⟨T64, X64, e64, st64⟩ := getS2 X62 hx hZ hown (host := "") (Or.inl (hw _ (List.mem_of_getElem? (i := 44) rfl))) Via.refl e62 (((((((((((((((((((((S_IFF.ext E2).wr W5).wr W8).wr W11).wr W14).wr W17).wr W20).wr W23).wr W26).wr W29).wr W32).wr W35).wr W38).wr W41).wr W44).wr W47).wr W50).wr W53).wr W56).wr W59).wr W62) (g := (mkF m 142 #[.val (.int p1), .unset, .unset, .unset, .unset] [(.int (20 : Int32)), (.ref b2), (.ref b2)])) rfl (hb hby at_142)
  obtain ⟨cl_b2_145, Ar_b2, q_b2, S_b2, N_b2, H_b2, G_b2⟩ := V_b2_62
  have hin145 : ¬ ((20 : Int32) < 0 ∨ cl_b2_145.slots.size ≤ ((20 : Int32)).toNatClampNeg) := inb_of S_b2 ⟨by decide, by decide⟩
  have Sto145 : Sto Z h62 b2 (.ref w_IFF) := Sto.ofV Ar_b2 q_b2 O2 (Ins.self (((((((((((((((((((((E_IFF.ext E2).wr W5).wr W8).wr W11).wr W14).wr W17).wr W20).wr W23).wr W26).wr W29).wr W32).wr W35).wr W38).wr W41).wr W44).wr W47).wr W50).wr W53).wr W56).wr W59).wr W62))
  obtain ⟨T65, h65, X65, e65, W65, st65⟩ := stR X64 hx hZ e64 Ar_b2 (j := (20 : Int32)) hin145 rfl Sto145 (g := (mkF m 145 #[.val (.int p1), .unset, .unset, .unset, .unset] [(.ref w_IFF), (.int (20 : Int32)), (.ref b2), (.ref b2)])) rfl rfl (hb hby at_145)
  have V_b2_65 : Arv Z h65 b2 k2 (.object "com/example/failfirst/failfirst/Operator") (22 : Int32) [(.ref w_NEG), (.ref w_ABS), (.ref w_ADD), (.ref w_SUB), (.ref w_MUL), (.ref w_DIV), (.ref w_MOD), (.ref w_DIST), (.ref w_MIN), (.ref w_MAX), (.ref w_LT), (.ref w_LE), (.ref w_GE), (.ref w_GT), (.ref w_EQ), (.ref w_NE), (.ref w_NOT), (.ref w_AND), (.ref w_OR), (.ref w_XOR), (.ref w_IFF), .null] .null := Arv.set Ar_b2 q_b2 S_b2 N_b2 H_b2 G_b2 rfl W65 20 rfl (Nat.le_of_ble_eq_true rfl)
  have K65 : Keep h0 h65 [] := K62.wr W65 (Or.inr sz_b2)
  have N65 := Fr.snoc X65 N62 g_b2
  obtain ⟨T67, X67, e67, st67⟩ := getS2 X65 hx hZ hown (host := "") (Or.inl (hw _ (List.mem_of_getElem? (i := 46) rfl))) Via.refl e65 ((((((((((((((((((((((S_IMP.ext E2).wr W5).wr W8).wr W11).wr W14).wr W17).wr W20).wr W23).wr W26).wr W29).wr W32).wr W35).wr W38).wr W41).wr W44).wr W47).wr W50).wr W53).wr W56).wr W59).wr W62).wr W65) (g := (mkF m 149 #[.val (.int p1), .unset, .unset, .unset, .unset] [(.int (21 : Int32)), (.ref b2), (.ref b2)])) rfl (hb hby at_149)
  obtain ⟨cl_b2_152, Ar_b2, q_b2, S_b2, N_b2, H_b2, G_b2⟩ := V_b2_65
  have hin152 : ¬ ((21 : Int32) < 0 ∨ cl_b2_152.slots.size ≤ ((21 : Int32)).toNatClampNeg) := inb_of S_b2 ⟨by decide, by decide⟩
  have Sto152 : Sto Z h65 b2 (.ref w_IMP) := Sto.ofV Ar_b2 q_b2 O2 (Ins.self ((((((((((((((((((((((E_IMP.ext E2).wr W5).wr W8).wr W11).wr W14).wr W17).wr W20).wr W23).wr W26).wr W29).wr W32).wr W35).wr W38).wr W41).wr W44).wr W47).wr W50).wr W53).wr W56).wr W59).wr W62).wr W65))
  obtain ⟨T68, h68, X68, e68, W68, st68⟩ := stR X67 hx hZ e67 Ar_b2 (j := (21 : Int32)) hin152 rfl Sto152 (g := (mkF m 152 #[.val (.int p1), .unset, .unset, .unset, .unset] [(.ref w_IMP), (.int (21 : Int32)), (.ref b2), (.ref b2)])) rfl rfl (hb hby at_152)
  have V_b2_68 : Arv Z h68 b2 k2 (.object "com/example/failfirst/failfirst/Operator") (22 : Int32) [(.ref w_NEG), (.ref w_ABS), (.ref w_ADD), (.ref w_SUB), (.ref w_MUL), (.ref w_DIV), (.ref w_MOD), (.ref w_DIST), (.ref w_MIN), (.ref w_MAX), (.ref w_LT), (.ref w_LE), (.ref w_GE), (.ref w_GT), (.ref w_EQ), (.ref w_NE), (.ref w_NOT), (.ref w_AND), (.ref w_OR), (.ref w_XOR), (.ref w_IFF), (.ref w_IMP)] .null := Arv.set Ar_b2 q_b2 S_b2 N_b2 H_b2 G_b2 rfl W68 21 rfl (Nat.le_of_ble_eq_true rfl)
  have K68 : Keep h0 h68 [] := K65.wr W68 (Or.inr sz_b2)
  have N68 := Fr.snoc X68 N65 g_b2
  obtain ⟨cl_b2_164, Ar_b2_164, q_b2_164, S_b2_164, N_b2_164, H_b2_164, G_b2_164⟩ := V_b2_68
  have hin164 : ¬ (((p1 &&& (2147483647 : Int32)) % (22 : Int32)) < 0 ∨ cl_b2_164.slots.size ≤ (((p1 &&& (2147483647 : Int32)) % (22 : Int32))).toNatClampNeg) := inb_of S_b2_164 ⟨hj0, hj1⟩
  have hat164 : cl_b2_164.slots[(((p1 &&& (2147483647 : Int32)) % (22 : Int32))).toNatClampNeg]? = some (.ref wx) := (H_b2_164 _ (by rw [S_b2_164]; exact hlt)).trans (congrArg some hsel)
  obtain ⟨T69, X69, e69, st69⟩ := getS2 X68 hx hZ hown (host := "") (Or.inl (hw _ (List.mem_of_getElem? (i := 24) rfl))) Via.refl e68 (((((((((((((((((((((((S_LT.ext E2).wr W5).wr W8).wr W11).wr W14).wr W17).wr W20).wr W23).wr W26).wr W29).wr W32).wr W35).wr W38).wr W41).wr W44).wr W47).wr W50).wr W53).wr W56).wr W59).wr W62).wr W65).wr W68) (g := (mkF m 167 #[.val (.int p1), .val (.ref b2), .val (.int ((p1 &&& (2147483647 : Int32)) % (22 : Int32))), .val (.ref wx), .unset] [(.ref wx)])) rfl (hb hby at_167)
  obtain ⟨T70, X70, e70, st70⟩ := getS2 X69 hx hZ hown (host := "") (Or.inl (hw _ (List.mem_of_getElem? (i := 26) rfl))) Via.refl e69 (((((((((((((((((((((((S_LE.ext E2).wr W5).wr W8).wr W11).wr W14).wr W17).wr W20).wr W23).wr W26).wr W29).wr W32).wr W35).wr W38).wr W41).wr W44).wr W47).wr W50).wr W53).wr W56).wr W59).wr W62).wr W65).wr W68) (g := (mkF m 174 #[.val (.int p1), .val (.ref b2), .val (.int ((p1 &&& (2147483647 : Int32)) % (22 : Int32))), .val (.ref wx), .unset] [(.ref wx)])) rfl (hb hby at_174)
  obtain ⟨T71, X71, e71, st71⟩ := getS2 X70 hx hZ hown (host := "") (Or.inl (hw _ (List.mem_of_getElem? (i := 28) rfl))) Via.refl e70 (((((((((((((((((((((((S_GE.ext E2).wr W5).wr W8).wr W11).wr W14).wr W17).wr W20).wr W23).wr W26).wr W29).wr W32).wr W35).wr W38).wr W41).wr W44).wr W47).wr W50).wr W53).wr W56).wr W59).wr W62).wr W65).wr W68) (g := (mkF m 181 #[.val (.int p1), .val (.ref b2), .val (.int ((p1 &&& (2147483647 : Int32)) % (22 : Int32))), .val (.ref wx), .unset] [(.ref wx)])) rfl (hb hby at_181)
  obtain ⟨T72, X72, e72, st72⟩ := getS2 X71 hx hZ hown (host := "") (Or.inl (hw _ (List.mem_of_getElem? (i := 30) rfl))) Via.refl e71 (((((((((((((((((((((((S_GT.ext E2).wr W5).wr W8).wr W11).wr W14).wr W17).wr W20).wr W23).wr W26).wr W29).wr W32).wr W35).wr W38).wr W41).wr W44).wr W47).wr W50).wr W53).wr W56).wr W59).wr W62).wr W65).wr W68) (g := (mkF m 188 #[.val (.int p1), .val (.ref b2), .val (.int ((p1 &&& (2147483647 : Int32)) % (22 : Int32))), .val (.ref wx), .unset] [(.ref wx)])) rfl (hb hby at_188)
  obtain ⟨LL, X72, N68⟩ : ∃ LL, Stand p l e room_1 s m #[(.int p1)] below meth c T72 LL (0 + 1) (0 + 22) ∧ Fr n0 LL := ⟨_, X72, N68⟩
  obtain ⟨cq73, kq73, q73a, q73b, q73c⟩ := isOf hZ e72 (((((((((((((((((((((((E_wx.ext E2).wr W5).wr W8).wr W11).wr W14).wr W17).wr W20).wr W23).wr W26).wr W29).wr W32).wr W35).wr W38).wr W41).wr W44).wr W47).wr W50).wr W53).wr W56).wr W59).wr W62).wr W65).wr W68)
  obtain ⟨_, _, ⟨T73, L73, k73, n73⟩, -, X73, ⟨Lc73, hQ73, l73, y73, z73⟩, st73⟩ := X72.virtualBack hx (y := (⟨"com/example/failfirst/failfirst/Operator", "chains", "()Z"⟩ : MethodName)) (z := (⟨"com/example/failfirst/failfirst/Operator", "chains", "()Z"⟩ : MethodName)) hown (mvT hZ (hw _ (List.mem_of_getElem? (i := 49) rfl))) (mvT hZ (hw _ (List.mem_of_getElem? (i := 50) rfl))) (notFace_of_selects (args := #[]) (mvT hZ (hw _ (List.mem_of_getElem? (i := 52) rfl)))) (mvT hZ (hw _ (List.mem_of_getElem? (i := 52) rfl))) (mvT hZ (hw _ (List.mem_of_getElem? (i := 51) rfl))) (by decide) (backOf (W := 0) (rm1_f l Z a0 hw [] wx wk w_COMPARISON h68 n0 (Nat.le_trans Z0 K68.1) (F_kind.keep K68 List.not_mem_nil) (((((((((((((((((((((((S_COMPARISON.ext E2).wr W5).wr W8).wr W11).wr W14).wr W17).wr W20).wr W23).wr W26).wr W29).wr W32).wr W35).wr W38).wr W41).wr W44).wr W47).wr W50).wr W53).wr W56).wr W59).wr W62).wr W65).wr W68) hkd) hZ (hw _ (List.mem_of_getElem? (i := 53) rfl)) (hw _ (List.mem_of_getElem? (i := 3) rfl)) (by decide) (by decide)) q73a q73c (g := (mkF m 216 #[.val (.int p1), .val (.ref b2), .val (.int ((p1 &&& (2147483647 : Int32)) % (22 : Int32))), .val (.ref wx), .val (.int (1 : Int32))] [(.ref wx)])) rfl (by rw [hml]; rfl) (Steps.refl _) (argsL := []) (rest := []) (lenOf pd_0_0 rfl) rfl (by show 2 * 0 + _ ≤ _; exact Nat.le_of_eq rfl) (hb hby at_216) (fun _ _ => ⟨rfl, e72, (by decide : 1 + 0 ≤ _), (by decide : 22 + 0 ≤ _)⟩)
  dsimp only [Pt.U, Pt.locs, Pt.cells, Pt.slots] at X73 l73 y73 z73 st73 hQ73
  subst l73 y73 z73
  obtain ⟨rfl, N73q, e73q⟩ := hQ73
  have N73 := Fr.app N68 N73q
  obtain ⟨fs, hr, hrun, hended, hW, hsame⟩ := X73.leave (v := some (.int (1 : Int32))) (fun h => by rw [Bd.returns] at h; cases h) Bd.notSynchronized
  refine ⟨_, _, pre0 _ ?_, hrun, hended, _, _, rfl, ?_, ⟨_, rfl⟩, hW, hsame.mono (by decide) (by decide)⟩
  · show Steps p.tables e below (s₁.setTop (mkF m 0 #[.val (.int p1), .unset, .unset, .unset, .unset] [])) _
    refine XS.bipush X0.here hx rfl (hb hby at_0) ?_
    show Steps p.tables e below (s₁.setTop (mkF m 2 #[.val (.int p1), .unset, .unset, .unset, .unset] [(.int (22 : Int32))])) _
    refine st2 _ ?_
    show Steps p.tables e below (T2.setTop (mkF m 5 #[.val (.int p1), .unset, .unset, .unset, .unset] [(.ref b2)])) _
    refine XS.dup X2.here hx rfl (hb hby at_5) rfl rfl ?_
    show Steps p.tables e below (T2.setTop (mkF m 6 #[.val (.int p1), .unset, .unset, .unset, .unset] [(.ref b2), (.ref b2)])) _
    refine XS.iconst X2.here hx rfl (hb hby at_6) ?_
    show Steps p.tables e below (T2.setTop (mkF m 7 #[.val (.int p1), .unset, .unset, .unset, .unset] [(.int (0 : Int32)), (.ref b2), (.ref b2)])) _
    refine st4 _ ?_
    show Steps p.tables e below (T4.setTop (mkF m 10 #[.val (.int p1), .unset, .unset, .unset, .unset] [(.ref w_NEG), (.int (0 : Int32)), (.ref b2), (.ref b2)])) _
    refine st5 _ ?_
    show Steps p.tables e below (T5.setTop (mkF m 11 #[.val (.int p1), .unset, .unset, .unset, .unset] [(.ref b2)])) _
    refine XS.dup X5.here hx rfl (hb hby at_11) rfl rfl ?_
    show Steps p.tables e below (T5.setTop (mkF m 12 #[.val (.int p1), .unset, .unset, .unset, .unset] [(.ref b2), (.ref b2)])) _
    refine XS.iconst X5.here hx rfl (hb hby at_12) ?_
    show Steps p.tables e below (T5.setTop (mkF m 13 #[.val (.int p1), .unset, .unset, .unset, .unset] [(.int (1 : Int32)), (.ref b2), (.ref b2)])) _
    refine st7 _ ?_
    show Steps p.tables e below (T7.setTop (mkF m 16 #[.val (.int p1), .unset, .unset, .unset, .unset] [(.ref w_ABS), (.int (1 : Int32)), (.ref b2), (.ref b2)])) _
    refine st8 _ ?_
    show Steps p.tables e below (T8.setTop (mkF m 17 #[.val (.int p1), .unset, .unset, .unset, .unset] [(.ref b2)])) _
    refine XS.dup X8.here hx rfl (hb hby at_17) rfl rfl ?_
    show Steps p.tables e below (T8.setTop (mkF m 18 #[.val (.int p1), .unset, .unset, .unset, .unset] [(.ref b2), (.ref b2)])) _
    refine XS.iconst X8.here hx rfl (hb hby at_18) ?_
    show Steps p.tables e below (T8.setTop (mkF m 19 #[.val (.int p1), .unset, .unset, .unset, .unset] [(.int (2 : Int32)), (.ref b2), (.ref b2)])) _
    refine st10 _ ?_
    show Steps p.tables e below (T10.setTop (mkF m 22 #[.val (.int p1), .unset, .unset, .unset, .unset] [(.ref w_ADD), (.int (2 : Int32)), (.ref b2), (.ref b2)])) _
    refine st11 _ ?_
    show Steps p.tables e below (T11.setTop (mkF m 23 #[.val (.int p1), .unset, .unset, .unset, .unset] [(.ref b2)])) _
    refine XS.dup X11.here hx rfl (hb hby at_23) rfl rfl ?_
    show Steps p.tables e below (T11.setTop (mkF m 24 #[.val (.int p1), .unset, .unset, .unset, .unset] [(.ref b2), (.ref b2)])) _
    refine XS.iconst X11.here hx rfl (hb hby at_24) ?_
    show Steps p.tables e below (T11.setTop (mkF m 25 #[.val (.int p1), .unset, .unset, .unset, .unset] [(.int (3 : Int32)), (.ref b2), (.ref b2)])) _
    refine st13 _ ?_
    show Steps p.tables e below (T13.setTop (mkF m 28 #[.val (.int p1), .unset, .unset, .unset, .unset] [(.ref w_SUB), (.int (3 : Int32)), (.ref b2), (.ref b2)])) _
    refine st14 _ ?_
    show Steps p.tables e below (T14.setTop (mkF m 29 #[.val (.int p1), .unset, .unset, .unset, .unset] [(.ref b2)])) _
    refine XS.dup X14.here hx rfl (hb hby at_29) rfl rfl ?_
    show Steps p.tables e below (T14.setTop (mkF m 30 #[.val (.int p1), .unset, .unset, .unset, .unset] [(.ref b2), (.ref b2)])) _
    refine XS.iconst X14.here hx rfl (hb hby at_30) ?_
    show Steps p.tables e below (T14.setTop (mkF m 31 #[.val (.int p1), .unset, .unset, .unset, .unset] [(.int (4 : Int32)), (.ref b2), (.ref b2)])) _
    refine st16 _ ?_
    show Steps p.tables e below (T16.setTop (mkF m 34 #[.val (.int p1), .unset, .unset, .unset, .unset] [(.ref w_MUL), (.int (4 : Int32)), (.ref b2), (.ref b2)])) _
    refine st17 _ ?_
    show Steps p.tables e below (T17.setTop (mkF m 35 #[.val (.int p1), .unset, .unset, .unset, .unset] [(.ref b2)])) _
    refine XS.dup X17.here hx rfl (hb hby at_35) rfl rfl ?_
    show Steps p.tables e below (T17.setTop (mkF m 36 #[.val (.int p1), .unset, .unset, .unset, .unset] [(.ref b2), (.ref b2)])) _
    refine XS.iconst X17.here hx rfl (hb hby at_36) ?_
    show Steps p.tables e below (T17.setTop (mkF m 37 #[.val (.int p1), .unset, .unset, .unset, .unset] [(.int (5 : Int32)), (.ref b2), (.ref b2)])) _
    refine st19 _ ?_
    show Steps p.tables e below (T19.setTop (mkF m 40 #[.val (.int p1), .unset, .unset, .unset, .unset] [(.ref w_DIV), (.int (5 : Int32)), (.ref b2), (.ref b2)])) _
    refine st20 _ ?_
    show Steps p.tables e below (T20.setTop (mkF m 41 #[.val (.int p1), .unset, .unset, .unset, .unset] [(.ref b2)])) _
    refine XS.dup X20.here hx rfl (hb hby at_41) rfl rfl ?_
    show Steps p.tables e below (T20.setTop (mkF m 42 #[.val (.int p1), .unset, .unset, .unset, .unset] [(.ref b2), (.ref b2)])) _
    refine XS.bipush X20.here hx rfl (hb hby at_42) ?_
    show Steps p.tables e below (T20.setTop (mkF m 44 #[.val (.int p1), .unset, .unset, .unset, .unset] [(.int (6 : Int32)), (.ref b2), (.ref b2)])) _
    refine st22 _ ?_
    show Steps p.tables e below (T22.setTop (mkF m 47 #[.val (.int p1), .unset, .unset, .unset, .unset] [(.ref w_MOD), (.int (6 : Int32)), (.ref b2), (.ref b2)])) _
    refine st23 _ ?_
    show Steps p.tables e below (T23.setTop (mkF m 48 #[.val (.int p1), .unset, .unset, .unset, .unset] [(.ref b2)])) _
    refine XS.dup X23.here hx rfl (hb hby at_48) rfl rfl ?_
    show Steps p.tables e below (T23.setTop (mkF m 49 #[.val (.int p1), .unset, .unset, .unset, .unset] [(.ref b2), (.ref b2)])) _
    refine XS.bipush X23.here hx rfl (hb hby at_49) ?_
    show Steps p.tables e below (T23.setTop (mkF m 51 #[.val (.int p1), .unset, .unset, .unset, .unset] [(.int (7 : Int32)), (.ref b2), (.ref b2)])) _
    refine st25 _ ?_
    show Steps p.tables e below (T25.setTop (mkF m 54 #[.val (.int p1), .unset, .unset, .unset, .unset] [(.ref w_DIST), (.int (7 : Int32)), (.ref b2), (.ref b2)])) _
    refine st26 _ ?_
    show Steps p.tables e below (T26.setTop (mkF m 55 #[.val (.int p1), .unset, .unset, .unset, .unset] [(.ref b2)])) _
    refine XS.dup X26.here hx rfl (hb hby at_55) rfl rfl ?_
    show Steps p.tables e below (T26.setTop (mkF m 56 #[.val (.int p1), .unset, .unset, .unset, .unset] [(.ref b2), (.ref b2)])) _
    refine XS.bipush X26.here hx rfl (hb hby at_56) ?_
    show Steps p.tables e below (T26.setTop (mkF m 58 #[.val (.int p1), .unset, .unset, .unset, .unset] [(.int (8 : Int32)), (.ref b2), (.ref b2)])) _
    refine st28 _ ?_
    show Steps p.tables e below (T28.setTop (mkF m 61 #[.val (.int p1), .unset, .unset, .unset, .unset] [(.ref w_MIN), (.int (8 : Int32)), (.ref b2), (.ref b2)])) _
    refine st29 _ ?_
    show Steps p.tables e below (T29.setTop (mkF m 62 #[.val (.int p1), .unset, .unset, .unset, .unset] [(.ref b2)])) _
    refine XS.dup X29.here hx rfl (hb hby at_62) rfl rfl ?_
    show Steps p.tables e below (T29.setTop (mkF m 63 #[.val (.int p1), .unset, .unset, .unset, .unset] [(.ref b2), (.ref b2)])) _
    refine XS.bipush X29.here hx rfl (hb hby at_63) ?_
    show Steps p.tables e below (T29.setTop (mkF m 65 #[.val (.int p1), .unset, .unset, .unset, .unset] [(.int (9 : Int32)), (.ref b2), (.ref b2)])) _
    refine st31 _ ?_
    show Steps p.tables e below (T31.setTop (mkF m 68 #[.val (.int p1), .unset, .unset, .unset, .unset] [(.ref w_MAX), (.int (9 : Int32)), (.ref b2), (.ref b2)])) _
    refine st32 _ ?_
    show Steps p.tables e below (T32.setTop (mkF m 69 #[.val (.int p1), .unset, .unset, .unset, .unset] [(.ref b2)])) _
    refine XS.dup X32.here hx rfl (hb hby at_69) rfl rfl ?_
    show Steps p.tables e below (T32.setTop (mkF m 70 #[.val (.int p1), .unset, .unset, .unset, .unset] [(.ref b2), (.ref b2)])) _
    refine XS.bipush X32.here hx rfl (hb hby at_70) ?_
    show Steps p.tables e below (T32.setTop (mkF m 72 #[.val (.int p1), .unset, .unset, .unset, .unset] [(.int (10 : Int32)), (.ref b2), (.ref b2)])) _
    refine st34 _ ?_
    show Steps p.tables e below (T34.setTop (mkF m 75 #[.val (.int p1), .unset, .unset, .unset, .unset] [(.ref w_LT), (.int (10 : Int32)), (.ref b2), (.ref b2)])) _
    refine st35 _ ?_
    show Steps p.tables e below (T35.setTop (mkF m 76 #[.val (.int p1), .unset, .unset, .unset, .unset] [(.ref b2)])) _
    refine XS.dup X35.here hx rfl (hb hby at_76) rfl rfl ?_
    show Steps p.tables e below (T35.setTop (mkF m 77 #[.val (.int p1), .unset, .unset, .unset, .unset] [(.ref b2), (.ref b2)])) _
    refine XS.bipush X35.here hx rfl (hb hby at_77) ?_
    show Steps p.tables e below (T35.setTop (mkF m 79 #[.val (.int p1), .unset, .unset, .unset, .unset] [(.int (11 : Int32)), (.ref b2), (.ref b2)])) _
    refine st37 _ ?_
    show Steps p.tables e below (T37.setTop (mkF m 82 #[.val (.int p1), .unset, .unset, .unset, .unset] [(.ref w_LE), (.int (11 : Int32)), (.ref b2), (.ref b2)])) _
    refine st38 _ ?_
    show Steps p.tables e below (T38.setTop (mkF m 83 #[.val (.int p1), .unset, .unset, .unset, .unset] [(.ref b2)])) _
    refine XS.dup X38.here hx rfl (hb hby at_83) rfl rfl ?_
    show Steps p.tables e below (T38.setTop (mkF m 84 #[.val (.int p1), .unset, .unset, .unset, .unset] [(.ref b2), (.ref b2)])) _
    refine XS.bipush X38.here hx rfl (hb hby at_84) ?_
    show Steps p.tables e below (T38.setTop (mkF m 86 #[.val (.int p1), .unset, .unset, .unset, .unset] [(.int (12 : Int32)), (.ref b2), (.ref b2)])) _
    refine st40 _ ?_
    show Steps p.tables e below (T40.setTop (mkF m 89 #[.val (.int p1), .unset, .unset, .unset, .unset] [(.ref w_GE), (.int (12 : Int32)), (.ref b2), (.ref b2)])) _
    refine st41 _ ?_
    show Steps p.tables e below (T41.setTop (mkF m 90 #[.val (.int p1), .unset, .unset, .unset, .unset] [(.ref b2)])) _
    refine XS.dup X41.here hx rfl (hb hby at_90) rfl rfl ?_
    show Steps p.tables e below (T41.setTop (mkF m 91 #[.val (.int p1), .unset, .unset, .unset, .unset] [(.ref b2), (.ref b2)])) _
    refine XS.bipush X41.here hx rfl (hb hby at_91) ?_
    show Steps p.tables e below (T41.setTop (mkF m 93 #[.val (.int p1), .unset, .unset, .unset, .unset] [(.int (13 : Int32)), (.ref b2), (.ref b2)])) _
    refine st43 _ ?_
    show Steps p.tables e below (T43.setTop (mkF m 96 #[.val (.int p1), .unset, .unset, .unset, .unset] [(.ref w_GT), (.int (13 : Int32)), (.ref b2), (.ref b2)])) _
    refine st44 _ ?_
    show Steps p.tables e below (T44.setTop (mkF m 97 #[.val (.int p1), .unset, .unset, .unset, .unset] [(.ref b2)])) _
    refine XS.dup X44.here hx rfl (hb hby at_97) rfl rfl ?_
    show Steps p.tables e below (T44.setTop (mkF m 98 #[.val (.int p1), .unset, .unset, .unset, .unset] [(.ref b2), (.ref b2)])) _
    refine XS.bipush X44.here hx rfl (hb hby at_98) ?_
    show Steps p.tables e below (T44.setTop (mkF m 100 #[.val (.int p1), .unset, .unset, .unset, .unset] [(.int (14 : Int32)), (.ref b2), (.ref b2)])) _
    refine st46 _ ?_
    show Steps p.tables e below (T46.setTop (mkF m 103 #[.val (.int p1), .unset, .unset, .unset, .unset] [(.ref w_EQ), (.int (14 : Int32)), (.ref b2), (.ref b2)])) _
    refine st47 _ ?_
    show Steps p.tables e below (T47.setTop (mkF m 104 #[.val (.int p1), .unset, .unset, .unset, .unset] [(.ref b2)])) _
    refine XS.dup X47.here hx rfl (hb hby at_104) rfl rfl ?_
    show Steps p.tables e below (T47.setTop (mkF m 105 #[.val (.int p1), .unset, .unset, .unset, .unset] [(.ref b2), (.ref b2)])) _
    refine XS.bipush X47.here hx rfl (hb hby at_105) ?_
    show Steps p.tables e below (T47.setTop (mkF m 107 #[.val (.int p1), .unset, .unset, .unset, .unset] [(.int (15 : Int32)), (.ref b2), (.ref b2)])) _
    refine st49 _ ?_
    show Steps p.tables e below (T49.setTop (mkF m 110 #[.val (.int p1), .unset, .unset, .unset, .unset] [(.ref w_NE), (.int (15 : Int32)), (.ref b2), (.ref b2)])) _
    refine st50 _ ?_
    show Steps p.tables e below (T50.setTop (mkF m 111 #[.val (.int p1), .unset, .unset, .unset, .unset] [(.ref b2)])) _
    refine XS.dup X50.here hx rfl (hb hby at_111) rfl rfl ?_
    show Steps p.tables e below (T50.setTop (mkF m 112 #[.val (.int p1), .unset, .unset, .unset, .unset] [(.ref b2), (.ref b2)])) _
    refine XS.bipush X50.here hx rfl (hb hby at_112) ?_
    show Steps p.tables e below (T50.setTop (mkF m 114 #[.val (.int p1), .unset, .unset, .unset, .unset] [(.int (16 : Int32)), (.ref b2), (.ref b2)])) _
    refine st52 _ ?_
    show Steps p.tables e below (T52.setTop (mkF m 117 #[.val (.int p1), .unset, .unset, .unset, .unset] [(.ref w_NOT), (.int (16 : Int32)), (.ref b2), (.ref b2)])) _
    refine st53 _ ?_
    show Steps p.tables e below (T53.setTop (mkF m 118 #[.val (.int p1), .unset, .unset, .unset, .unset] [(.ref b2)])) _
    refine XS.dup X53.here hx rfl (hb hby at_118) rfl rfl ?_
    show Steps p.tables e below (T53.setTop (mkF m 119 #[.val (.int p1), .unset, .unset, .unset, .unset] [(.ref b2), (.ref b2)])) _
    refine XS.bipush X53.here hx rfl (hb hby at_119) ?_
    show Steps p.tables e below (T53.setTop (mkF m 121 #[.val (.int p1), .unset, .unset, .unset, .unset] [(.int (17 : Int32)), (.ref b2), (.ref b2)])) _
    refine st55 _ ?_
    show Steps p.tables e below (T55.setTop (mkF m 124 #[.val (.int p1), .unset, .unset, .unset, .unset] [(.ref w_AND), (.int (17 : Int32)), (.ref b2), (.ref b2)])) _
    refine st56 _ ?_
    show Steps p.tables e below (T56.setTop (mkF m 125 #[.val (.int p1), .unset, .unset, .unset, .unset] [(.ref b2)])) _
    refine XS.dup X56.here hx rfl (hb hby at_125) rfl rfl ?_
    show Steps p.tables e below (T56.setTop (mkF m 126 #[.val (.int p1), .unset, .unset, .unset, .unset] [(.ref b2), (.ref b2)])) _
    refine XS.bipush X56.here hx rfl (hb hby at_126) ?_
    show Steps p.tables e below (T56.setTop (mkF m 128 #[.val (.int p1), .unset, .unset, .unset, .unset] [(.int (18 : Int32)), (.ref b2), (.ref b2)])) _
    refine st58 _ ?_
    show Steps p.tables e below (T58.setTop (mkF m 131 #[.val (.int p1), .unset, .unset, .unset, .unset] [(.ref w_OR), (.int (18 : Int32)), (.ref b2), (.ref b2)])) _
    refine st59 _ ?_
    show Steps p.tables e below (T59.setTop (mkF m 132 #[.val (.int p1), .unset, .unset, .unset, .unset] [(.ref b2)])) _
    refine XS.dup X59.here hx rfl (hb hby at_132) rfl rfl ?_
    show Steps p.tables e below (T59.setTop (mkF m 133 #[.val (.int p1), .unset, .unset, .unset, .unset] [(.ref b2), (.ref b2)])) _
    refine XS.bipush X59.here hx rfl (hb hby at_133) ?_
    show Steps p.tables e below (T59.setTop (mkF m 135 #[.val (.int p1), .unset, .unset, .unset, .unset] [(.int (19 : Int32)), (.ref b2), (.ref b2)])) _
    refine st61 _ ?_
    show Steps p.tables e below (T61.setTop (mkF m 138 #[.val (.int p1), .unset, .unset, .unset, .unset] [(.ref w_XOR), (.int (19 : Int32)), (.ref b2), (.ref b2)])) _
    refine st62 _ ?_
    show Steps p.tables e below (T62.setTop (mkF m 139 #[.val (.int p1), .unset, .unset, .unset, .unset] [(.ref b2)])) _
    refine XS.dup X62.here hx rfl (hb hby at_139) rfl rfl ?_
    show Steps p.tables e below (T62.setTop (mkF m 140 #[.val (.int p1), .unset, .unset, .unset, .unset] [(.ref b2), (.ref b2)])) _
    refine XS.bipush X62.here hx rfl (hb hby at_140) ?_
    show Steps p.tables e below (T62.setTop (mkF m 142 #[.val (.int p1), .unset, .unset, .unset, .unset] [(.int (20 : Int32)), (.ref b2), (.ref b2)])) _
    refine st64 _ ?_
    show Steps p.tables e below (T64.setTop (mkF m 145 #[.val (.int p1), .unset, .unset, .unset, .unset] [(.ref w_IFF), (.int (20 : Int32)), (.ref b2), (.ref b2)])) _
    refine st65 _ ?_
    show Steps p.tables e below (T65.setTop (mkF m 146 #[.val (.int p1), .unset, .unset, .unset, .unset] [(.ref b2)])) _
    refine XS.dup X65.here hx rfl (hb hby at_146) rfl rfl ?_
    show Steps p.tables e below (T65.setTop (mkF m 147 #[.val (.int p1), .unset, .unset, .unset, .unset] [(.ref b2), (.ref b2)])) _
    refine XS.bipush X65.here hx rfl (hb hby at_147) ?_
    show Steps p.tables e below (T65.setTop (mkF m 149 #[.val (.int p1), .unset, .unset, .unset, .unset] [(.int (21 : Int32)), (.ref b2), (.ref b2)])) _
    refine st67 _ ?_
    show Steps p.tables e below (T67.setTop (mkF m 152 #[.val (.int p1), .unset, .unset, .unset, .unset] [(.ref w_IMP), (.int (21 : Int32)), (.ref b2), (.ref b2)])) _
    refine st68 _ ?_
    show Steps p.tables e below (T68.setTop (mkF m 153 #[.val (.int p1), .unset, .unset, .unset, .unset] [(.ref b2)])) _
    refine XS.astoreN X68.here hx rfl (hb hby at_153) rfl rfl (l' := #[.val (.int p1), .val (.ref b2), .unset, .unset, .unset]) rfl ?_
    show Steps p.tables e below (T68.setTop (mkF m 154 #[.val (.int p1), .val (.ref b2), .unset, .unset, .unset] [])) _
    refine XS.iloadN X68.here hx rfl (hb hby at_154) rfl ?_
    show Steps p.tables e below (T68.setTop (mkF m 155 #[.val (.int p1), .val (.ref b2), .unset, .unset, .unset] [(.int p1)])) _
    refine X68.ldcInt hx hown (mvT hZ (hw _ (List.mem_of_getElem? (i := 48) rfl))) (g := (mkF m 155 #[.val (.int p1), .val (.ref b2), .unset, .unset, .unset] [(.int p1)])) rfl (hb hby at_155) _ ?_
    show Steps p.tables e below (T68.setTop (mkF m 157 #[.val (.int p1), .val (.ref b2), .unset, .unset, .unset] [(.int (2147483647 : Int32)), (.int p1)])) _
    refine XS.iand X68.here hx rfl (hb hby at_157) rfl ?_
    show Steps p.tables e below (T68.setTop (mkF m 158 #[.val (.int p1), .val (.ref b2), .unset, .unset, .unset] [(.int (p1 &&& (2147483647 : Int32)))])) _
    refine XS.bipush X68.here hx rfl (hb hby at_158) ?_
    show Steps p.tables e below (T68.setTop (mkF m 160 #[.val (.int p1), .val (.ref b2), .unset, .unset, .unset] [(.int (22 : Int32)), (.int (p1 &&& (2147483647 : Int32)))])) _
    refine iremM X68 hx rfl (hb hby at_160) rfl (by decide) ?_
    show Steps p.tables e below (T68.setTop (mkF m 161 #[.val (.int p1), .val (.ref b2), .unset, .unset, .unset] [(.int ((p1 &&& (2147483647 : Int32)) % (22 : Int32)))])) _
    refine XS.istoreN X68.here hx rfl (hb hby at_161) rfl (l' := #[.val (.int p1), .val (.ref b2), .val (.int ((p1 &&& (2147483647 : Int32)) % (22 : Int32))), .unset, .unset]) rfl ?_
    show Steps p.tables e below (T68.setTop (mkF m 162 #[.val (.int p1), .val (.ref b2), .val (.int ((p1 &&& (2147483647 : Int32)) % (22 : Int32))), .unset, .unset] [])) _
    refine XS.aloadN X68.here hx rfl (hb hby at_162) rfl rfl ?_
    show Steps p.tables e below (T68.setTop (mkF m 163 #[.val (.int p1), .val (.ref b2), .val (.int ((p1 &&& (2147483647 : Int32)) % (22 : Int32))), .unset, .unset] [(.ref b2)])) _
    refine XS.iloadN X68.here hx rfl (hb hby at_163) rfl ?_
    show Steps p.tables e below (T68.setTop (mkF m 164 #[.val (.int p1), .val (.ref b2), .val (.int ((p1 &&& (2147483647 : Int32)) % (22 : Int32))), .unset, .unset] [(.int ((p1 &&& (2147483647 : Int32)) % (22 : Int32))), (.ref b2)])) _
    refine X68.aaload hx (j := ((p1 &&& (2147483647 : Int32)) % (22 : Int32))) (v := (.ref wx)) (by rw [e68]; exact Ar_b2_164.1) (State.isArrayOf_alike hZ.alike Ar_b2_164.2.1) rfl Ar_b2_164.2.2 hin164 hat164 (g := (mkF m 164 #[.val (.int p1), .val (.ref b2), .val (.int ((p1 &&& (2147483647 : Int32)) % (22 : Int32))), .unset, .unset] [(.int ((p1 &&& (2147483647 : Int32)) % (22 : Int32))), (.ref b2)])) rfl rfl (hb hby at_164) _ ?_
    show Steps p.tables e below (T68.setTop (mkF m 165 #[.val (.int p1), .val (.ref b2), .val (.int ((p1 &&& (2147483647 : Int32)) % (22 : Int32))), .unset, .unset] [(.ref wx)])) _
    refine XS.astoreN X68.here hx rfl (hb hby at_165) rfl rfl (l' := #[.val (.int p1), .val (.ref b2), .val (.int ((p1 &&& (2147483647 : Int32)) % (22 : Int32))), .val (.ref wx), .unset]) rfl ?_
    show Steps p.tables e below (T68.setTop (mkF m 166 #[.val (.int p1), .val (.ref b2), .val (.int ((p1 &&& (2147483647 : Int32)) % (22 : Int32))), .val (.ref wx), .unset] [])) _
    refine XS.aloadN X68.here hx rfl (hb hby at_166) rfl rfl ?_
    show Steps p.tables e below (T68.setTop (mkF m 167 #[.val (.int p1), .val (.ref b2), .val (.int ((p1 &&& (2147483647 : Int32)) % (22 : Int32))), .val (.ref wx), .unset] [(.ref wx)])) _
    refine st69 _ ?_
    show Steps p.tables e below (T69.setTop (mkF m 170 #[.val (.int p1), .val (.ref b2), .val (.int ((p1 &&& (2147483647 : Int32)) % (22 : Int32))), .val (.ref wx), .unset] [(.ref w_LT), (.ref wx)])) _
    refine Jvm.RoadKit.acmp (g := (mkF m 170 #[.val (.int p1), .val (.ref b2), .val (.int ((p1 &&& (2147483647 : Int32)) % (22 : Int32))), .val (.ref wx), .unset] [(.ref w_LT), (.ref wx)])) X69 hx rfl rfl rfl (pc0 := 170) (pc' := 173) (same := false) rfl (hb hby at_170) rfl (decide_eq_false fun q => ha170 (Value.ref.inj q)) (by decide) (by decide) ?_
    show Steps p.tables e below (T69.setTop (mkF m 173 #[.val (.int p1), .val (.ref b2), .val (.int ((p1 &&& (2147483647 : Int32)) % (22 : Int32))), .val (.ref wx), .unset] [])) _
    refine XS.aloadN X69.here hx rfl (hb hby at_173) rfl rfl ?_
    show Steps p.tables e below (T69.setTop (mkF m 174 #[.val (.int p1), .val (.ref b2), .val (.int ((p1 &&& (2147483647 : Int32)) % (22 : Int32))), .val (.ref wx), .unset] [(.ref wx)])) _
    refine st70 _ ?_
    show Steps p.tables e below (T70.setTop (mkF m 177 #[.val (.int p1), .val (.ref b2), .val (.int ((p1 &&& (2147483647 : Int32)) % (22 : Int32))), .val (.ref wx), .unset] [(.ref w_LE), (.ref wx)])) _
    refine Jvm.RoadKit.acmp (g := (mkF m 177 #[.val (.int p1), .val (.ref b2), .val (.int ((p1 &&& (2147483647 : Int32)) % (22 : Int32))), .val (.ref wx), .unset] [(.ref w_LE), (.ref wx)])) X70 hx rfl rfl rfl (pc0 := 177) (pc' := 180) (same := false) rfl (hb hby at_177) rfl (decide_eq_false fun q => ha177 (Value.ref.inj q)) (by decide) (by decide) ?_
    show Steps p.tables e below (T70.setTop (mkF m 180 #[.val (.int p1), .val (.ref b2), .val (.int ((p1 &&& (2147483647 : Int32)) % (22 : Int32))), .val (.ref wx), .unset] [])) _
    refine XS.aloadN X70.here hx rfl (hb hby at_180) rfl rfl ?_
    show Steps p.tables e below (T70.setTop (mkF m 181 #[.val (.int p1), .val (.ref b2), .val (.int ((p1 &&& (2147483647 : Int32)) % (22 : Int32))), .val (.ref wx), .unset] [(.ref wx)])) _
    refine st71 _ ?_
    show Steps p.tables e below (T71.setTop (mkF m 184 #[.val (.int p1), .val (.ref b2), .val (.int ((p1 &&& (2147483647 : Int32)) % (22 : Int32))), .val (.ref wx), .unset] [(.ref w_GE), (.ref wx)])) _
    refine Jvm.RoadKit.acmp (g := (mkF m 184 #[.val (.int p1), .val (.ref b2), .val (.int ((p1 &&& (2147483647 : Int32)) % (22 : Int32))), .val (.ref wx), .unset] [(.ref w_GE), (.ref wx)])) X71 hx rfl rfl rfl (pc0 := 184) (pc' := 187) (same := false) rfl (hb hby at_184) rfl (decide_eq_false fun q => ha184 (Value.ref.inj q)) (by decide) (by decide) ?_
    show Steps p.tables e below (T71.setTop (mkF m 187 #[.val (.int p1), .val (.ref b2), .val (.int ((p1 &&& (2147483647 : Int32)) % (22 : Int32))), .val (.ref wx), .unset] [])) _
    refine XS.aloadN X71.here hx rfl (hb hby at_187) rfl rfl ?_
    show Steps p.tables e below (T71.setTop (mkF m 188 #[.val (.int p1), .val (.ref b2), .val (.int ((p1 &&& (2147483647 : Int32)) % (22 : Int32))), .val (.ref wx), .unset] [(.ref wx)])) _
    refine st72 _ ?_
    show Steps p.tables e below (T72.setTop (mkF m 191 #[.val (.int p1), .val (.ref b2), .val (.int ((p1 &&& (2147483647 : Int32)) % (22 : Int32))), .val (.ref wx), .unset] [(.ref w_GT), (.ref wx)])) _
    refine Jvm.RoadKit.acmp (g := (mkF m 191 #[.val (.int p1), .val (.ref b2), .val (.int ((p1 &&& (2147483647 : Int32)) % (22 : Int32))), .val (.ref wx), .unset] [(.ref w_GT), (.ref wx)])) X72 hx rfl rfl rfl (pc0 := 191) (pc' := 208) (same := true) rfl (hb hby at_191) rfl (decide_eq_true (congrArg Value.ref ha191)) (by decide) (by decide) ?_
    show Steps p.tables e below (T72.setTop (mkF m 208 #[.val (.int p1), .val (.ref b2), .val (.int ((p1 &&& (2147483647 : Int32)) % (22 : Int32))), .val (.ref wx), .unset] [])) _
    refine XS.iconst X72.here hx rfl (hb hby at_208) ?_
    show Steps p.tables e below (T72.setTop (mkF m 209 #[.val (.int p1), .val (.ref b2), .val (.int ((p1 &&& (2147483647 : Int32)) % (22 : Int32))), .val (.ref wx), .unset] [(.int (1 : Int32))])) _
    refine XS.goto X72.here hx rfl (pc0 := 209) (pc' := 213) rfl (hb hby at_209) (by decide) (by decide) ?_
    show Steps p.tables e below (T72.setTop (mkF m 213 #[.val (.int p1), .val (.ref b2), .val (.int ((p1 &&& (2147483647 : Int32)) % (22 : Int32))), .val (.ref wx), .unset] [(.int (1 : Int32))])) _
    refine XS.istore X72.here hx rfl (hb hby at_213) rfl (l' := #[.val (.int p1), .val (.ref b2), .val (.int ((p1 &&& (2147483647 : Int32)) % (22 : Int32))), .val (.ref wx), .val (.int (1 : Int32))]) rfl ?_
    show Steps p.tables e below (T72.setTop (mkF m 215 #[.val (.int p1), .val (.ref b2), .val (.int ((p1 &&& (2147483647 : Int32)) % (22 : Int32))), .val (.ref wx), .val (.int (1 : Int32))] [])) _
    refine XS.aloadN X72.here hx rfl (hb hby at_215) rfl rfl ?_
    show Steps p.tables e below (T72.setTop (mkF m 216 #[.val (.int p1), .val (.ref b2), .val (.int ((p1 &&& (2147483647 : Int32)) % (22 : Int32))), .val (.ref wx), .val (.int (1 : Int32))] [(.ref wx)])) _
    refine st73.trans ?_
    show Steps p.tables e below (T73.setTop (mkF m 219 #[.val (.int p1), .val (.ref b2), .val (.int ((p1 &&& (2147483647 : Int32)) % (22 : Int32))), .val (.ref wx), .val (.int (1 : Int32))] [(.int (1 : Int32))])) _
    refine XS.iload X73.here hx rfl (hb hby at_219) rfl ?_
    show Steps p.tables e below (T73.setTop (mkF m 221 #[.val (.int p1), .val (.ref b2), .val (.int ((p1 &&& (2147483647 : Int32)) % (22 : Int32))), .val (.ref wx), .val (.int (1 : Int32))] [(.int (1 : Int32)), (.int (1 : Int32))])) _
    refine XS.icmpNo X73.here hx rfl (hb hby at_221) rfl (teq hk221).2 ?_
    show Steps p.tables e below (T73.setTop (mkF m 224 #[.val (.int p1), .val (.ref b2), .val (.int ((p1 &&& (2147483647 : Int32)) % (22 : Int32))), .val (.ref wx), .val (.int (1 : Int32))] [])) _
    refine XS.iconst X73.here hx rfl (hb hby at_224) ?_
    show Steps p.tables e below (T73.setTop (mkF m 225 #[.val (.int p1), .val (.ref b2), .val (.int ((p1 &&& (2147483647 : Int32)) % (22 : Int32))), .val (.ref wx), .val (.int (1 : Int32))] [(.int (1 : Int32))])) _
    refine XS.goto X73.here hx rfl (pc0 := 225) (pc' := 229) rfl (hb hby at_225) (by decide) (by decide) ?_
    show Steps p.tables e below (T73.setTop (mkF m 229 #[.val (.int p1), .val (.ref b2), .val (.int ((p1 &&& (2147483647 : Int32)) % (22 : Int32))), .val (.ref wx), .val (.int (1 : Int32))] [(.int (1 : Int32))])) _
    exact retN X73 hx (t := .boolean) Bd.returns (by simp) (hb hby at_229) hr
  · show Q0 Z p1 h0 n0 _ T73.heap _
    exact ⟨rfl, N73⟩
set_option maxRecDepth 65536 in
set_option maxHeartbeats 40000000 in
theorem rm0_EQ (l : Launch) (Z : State) (a0 : Array Value) (hw : ∀ d ∈ tables_1, d.before a0 Z = true) (ws : List Jvm.Cond) (p1 : Int32) (w_NEG : Addr) (w_ABS : Addr) (w_ADD : Addr) (w_SUB : Addr) (w_MUL : Addr) (w_DIV : Addr) (w_MOD : Addr) (w_DIST : Addr) (w_MIN : Addr) (w_MAX : Addr) (w_LT : Addr) (w_LE : Addr) (w_GE : Addr) (w_GT : Addr) (w_EQ : Addr) (w_NE : Addr) (w_NOT : Addr) (w_AND : Addr) (w_OR : Addr) (w_XOR : Addr) (w_IFF : Addr) (w_IMP : Addr) (wx : Addr) (wk : Addr) (w_COMPARISON : Addr) (h0 : Heap) (n0 : Nat) (Z0 : n0 ≤ h0.size) (S_NEG : Sta Z h0 "com/example/failfirst/failfirst/Operator" "NEG" "Lcom/example/failfirst/failfirst/Operator;" (.ref w_NEG)) (E_NEG : Exa Z h0 w_NEG "com/example/failfirst/failfirst/Operator") (S_ABS : Sta Z h0 "com/example/failfirst/failfirst/Operator" "ABS" "Lcom/example/failfirst/failfirst/Operator;" (.ref w_ABS)) (E_ABS : Exa Z h0 w_ABS "com/example/failfirst/failfirst/Operator") (S_ADD : Sta Z h0 "com/example/failfirst/failfirst/Operator" "ADD" "Lcom/example/failfirst/failfirst/Operator;" (.ref w_ADD)) (E_ADD : Exa Z h0 w_ADD "com/example/failfirst/failfirst/Operator") (S_SUB : Sta Z h0 "com/example/failfirst/failfirst/Operator" "SUB" "Lcom/example/failfirst/failfirst/Operator;" (.ref w_SUB)) (E_SUB : Exa Z h0 w_SUB "com/example/failfirst/failfirst/Operator") (S_MUL : Sta Z h0 "com/example/failfirst/failfirst/Operator" "MUL" "Lcom/example/failfirst/failfirst/Operator;" (.ref w_MUL)) (E_MUL : Exa Z h0 w_MUL "com/example/failfirst/failfirst/Operator") (S_DIV : Sta Z h0 "com/example/failfirst/failfirst/Operator" "DIV" "Lcom/example/failfirst/failfirst/Operator;" (.ref w_DIV)) (E_DIV : Exa Z h0 w_DIV "com/example/failfirst/failfirst/Operator") (S_MOD : Sta Z h0 "com/example/failfirst/failfirst/Operator" "MOD" "Lcom/example/failfirst/failfirst/Operator;" (.ref w_MOD)) (E_MOD : Exa Z h0 w_MOD "com/example/failfirst/failfirst/Operator") (S_DIST : Sta Z h0 "com/example/failfirst/failfirst/Operator" "DIST" "Lcom/example/failfirst/failfirst/Operator;" (.ref w_DIST)) (E_DIST : Exa Z h0 w_DIST "com/example/failfirst/failfirst/Operator") (S_MIN : Sta Z h0 "com/example/failfirst/failfirst/Operator" "MIN" "Lcom/example/failfirst/failfirst/Operator;" (.ref w_MIN)) (E_MIN : Exa Z h0 w_MIN "com/example/failfirst/failfirst/Operator") (S_MAX : Sta Z h0 "com/example/failfirst/failfirst/Operator" "MAX" "Lcom/example/failfirst/failfirst/Operator;" (.ref w_MAX)) (E_MAX : Exa Z h0 w_MAX "com/example/failfirst/failfirst/Operator") (S_LT : Sta Z h0 "com/example/failfirst/failfirst/Operator" "LT" "Lcom/example/failfirst/failfirst/Operator;" (.ref w_LT)) (E_LT : Exa Z h0 w_LT "com/example/failfirst/failfirst/Operator") (S_LE : Sta Z h0 "com/example/failfirst/failfirst/Operator" "LE" "Lcom/example/failfirst/failfirst/Operator;" (.ref w_LE)) (E_LE : Exa Z h0 w_LE "com/example/failfirst/failfirst/Operator") (S_GE : Sta Z h0 "com/example/failfirst/failfirst/Operator" "GE" "Lcom/example/failfirst/failfirst/Operator;" (.ref w_GE)) (E_GE : Exa Z h0 w_GE "com/example/failfirst/failfirst/Operator") (S_GT : Sta Z h0 "com/example/failfirst/failfirst/Operator" "GT" "Lcom/example/failfirst/failfirst/Operator;" (.ref w_GT)) (E_GT : Exa Z h0 w_GT "com/example/failfirst/failfirst/Operator") (S_EQ : Sta Z h0 "com/example/failfirst/failfirst/Operator" "EQ" "Lcom/example/failfirst/failfirst/Operator;" (.ref w_EQ)) (E_EQ : Exa Z h0 w_EQ "com/example/failfirst/failfirst/Operator") (S_NE : Sta Z h0 "com/example/failfirst/failfirst/Operator" "NE" "Lcom/example/failfirst/failfirst/Operator;" (.ref w_NE)) (E_NE : Exa Z h0 w_NE "com/example/failfirst/failfirst/Operator") (S_NOT : Sta Z h0 "com/example/failfirst/failfirst/Operator" "NOT" "Lcom/example/failfirst/failfirst/Operator;" (.ref w_NOT)) (E_NOT : Exa Z h0 w_NOT "com/example/failfirst/failfirst/Operator") (S_AND : Sta Z h0 "com/example/failfirst/failfirst/Operator" "AND" "Lcom/example/failfirst/failfirst/Operator;" (.ref w_AND)) (E_AND : Exa Z h0 w_AND "com/example/failfirst/failfirst/Operator") (S_OR : Sta Z h0 "com/example/failfirst/failfirst/Operator" "OR" "Lcom/example/failfirst/failfirst/Operator;" (.ref w_OR)) (E_OR : Exa Z h0 w_OR "com/example/failfirst/failfirst/Operator") (S_XOR : Sta Z h0 "com/example/failfirst/failfirst/Operator" "XOR" "Lcom/example/failfirst/failfirst/Operator;" (.ref w_XOR)) (E_XOR : Exa Z h0 w_XOR "com/example/failfirst/failfirst/Operator") (S_IFF : Sta Z h0 "com/example/failfirst/failfirst/Operator" "IFF" "Lcom/example/failfirst/failfirst/Operator;" (.ref w_IFF)) (E_IFF : Exa Z h0 w_IFF "com/example/failfirst/failfirst/Operator") (S_IMP : Sta Z h0 "com/example/failfirst/failfirst/Operator" "IMP" "Lcom/example/failfirst/failfirst/Operator;" (.ref w_IMP)) (E_IMP : Exa Z h0 w_IMP "com/example/failfirst/failfirst/Operator") (S_COMPARISON : Sta Z h0 "com/example/failfirst/failfirst/Operator$Kind" "COMPARISON" "Lcom/example/failfirst/failfirst/Operator$Kind;" (.ref w_COMPARISON)) (F_kind : Fld Z h0 wx "com/example/failfirst/failfirst/Operator" "kind" "Lcom/example/failfirst/failfirst/Operator$Kind;" (.ref wk)) (E_wx : Exa Z h0 wx "com/example/failfirst/failfirst/Operator") (hj0 : ¬ ((p1 &&& (2147483647 : Int32)) % (22 : Int32)) < 0) (hj1 : ((p1 &&& (2147483647 : Int32)) % (22 : Int32)) < (22 : Int32)) (hlt : (((p1 &&& (2147483647 : Int32)) % (22 : Int32))).toNatClampNeg < (22 : Int32).toNatClampNeg) (hsel : ([.ref w_NEG, .ref w_ABS, .ref w_ADD, .ref w_SUB, .ref w_MUL, .ref w_DIV, .ref w_MOD, .ref w_DIST, .ref w_MIN, .ref w_MAX, .ref w_LT, .ref w_LE, .ref w_GE, .ref w_GT, .ref w_EQ, .ref w_NE, .ref w_NOT, .ref w_AND, .ref w_OR, .ref w_XOR, .ref w_IFF, .ref w_IMP] : List Value).getD (((p1 &&& (2147483647 : Int32)) % (22 : Int32))).toNatClampNeg .null = .ref wx) (hkd : wk = w_COMPARISON) (ha170 : ¬ (wx = w_LT)) (ha177 : ¬ (wx = w_LE)) (ha184 : ¬ (wx = w_GE)) (ha191 : ¬ (wx = w_GT)) (ha198 : wx = w_EQ) (hk221 : (1 : Int32) = (1 : Int32)) :
    MetFree l x (head1 (Jvm.Cond.code x code maxLocals ret :: ws) room_1) (fun a U => a = #[(.int p1)] ∧ Z.Warmed39 U.vm ∧ U.heap = h0) (fun _ _ _ _ _ => True) (fun _ U o U' => ∃ v L, o = .returned v ∧ Q0 Z p1 h0 n0 v U'.heap L ∧ FrameEnd U o U' L room_1.cells room_1.slots) := by
  refine MetFree.of_bodySF (plainFor_of_name pn_0) hisR ?_
  intro p e s m args below meth c s₁ Bd hml0 hP hK
  obtain ⟨rfl, hZ, hh⟩ := hP
  have hx := Bd.exec
  have hby := Bd.bytes
  have hml : c.maxLocals = 5 := hml0
  have hown : s.vm.findClass "com/example/failfirst/failfirst/OperatorChainsPinLaw" = some m.cls := findClass_of_methodNamed Bd.named
  have hnm := (name_of_methodNamed Bd.named Bd.method).1
  have X0 : Stand p l e room_1 s m #[(.int p1)] below meth c s₁ [] 0 0 := Stand.of_body Bd
  have e0 : s₁.heap = h0 := by rw [← hh, Bd.state]; rfl
  have N0 := Fr.nil n0
  have pre0 : ∀ t, Steps p.tables e below (s₁.setTop (mkF m 0 #[.val (.int p1), .unset, .unset, .unset, .unset] [])) t → Steps p.tables e below (s₁.setTop (entryFrame m #[(.int p1)] maxLocals)) t := fun t k => castTop (ef_0 m p1) k
  obtain ⟨T2, h2, k2, X2, e2, E2, A2, O2, st2⟩ := newR X0 hx hZ hown (hw _ (List.mem_of_getElem? (i := 0) rfl)) (hw _ (List.mem_of_getElem? (i := 1) rfl)) e0 (g := (mkF m 2 #[.val (.int p1), .unset, .unset, .unset, .unset] [(.int (22 : Int32))])) rfl (hb hby at_2) rfl (by decide) (cap := 22) (by decide) (by decide) (by decide) (by decide)
  obtain ⟨b2, g2⟩ : ∃ z, z = h0.size := ⟨_, rfl⟩
  rw [← g2] at A2 st2
  have V_b2 : Arv Z h2 b2 k2 (.object "com/example/failfirst/failfirst/Operator") (22 : Int32) [.null, .null, .null, .null, .null, .null, .null, .null, .null, .null, .null, .null, .null, .null, .null, .null, .null, .null, .null, .null, .null, .null] .null := (Arv.new A2 (by decide)).pad (pad_rep [] .null 22)
  have g_b2 : n0 ≤ b2 := Nat.le_trans Z0 (Nat.le_of_eq g2.symm)
  have sz_b2 : h0.size ≤ b2 := (Nat.le_trans (Keep.refl h0 []).1 (Nat.le_of_eq g2.symm))
  have K2 : Keep h0 h2 [] := (Keep.refl h0 []).ext E2
  obtain ⟨T4, X4, e4, st4⟩ := getS2 X2 hx hZ hown (host := "") (Or.inl (hw _ (List.mem_of_getElem? (i := 2) rfl))) Via.refl e2 (S_NEG.ext E2) (g := (mkF m 7 #[.val (.int p1), .unset, .unset, .unset, .unset] [(.int (0 : Int32)), (.ref b2), (.ref b2)])) rfl (hb hby at_7)
  obtain ⟨cl_b2_10, Ar_b2, q_b2, S_b2, N_b2, H_b2, G_b2⟩ := V_b2
  have hin10 : ¬ ((0 : Int32) < 0 ∨ cl_b2_10.slots.size ≤ ((0 : Int32)).toNatClampNeg) := inb_of S_b2 ⟨by decide, by decide⟩
  have Sto10 : Sto Z h2 b2 (.ref w_NEG) := Sto.ofV Ar_b2 q_b2 O2 (Ins.self (E_NEG.ext E2))
  obtain ⟨T5, h5, X5, e5, W5, st5⟩ := stR X4 hx hZ e4 Ar_b2 (j := (0 : Int32)) hin10 rfl Sto10 (g := (mkF m 10 #[.val (.int p1), .unset, .unset, .unset, .unset] [(.ref w_NEG), (.int (0 : Int32)), (.ref b2), (.ref b2)])) rfl rfl (hb hby at_10)
  have V_b2_5 : Arv Z h5 b2 k2 (.object "com/example/failfirst/failfirst/Operator") (22 : Int32) [(.ref w_NEG), .null, .null, .null, .null, .null, .null, .null, .null, .null, .null, .null, .null, .null, .null, .null, .null, .null, .null, .null, .null, .null] .null := Arv.set Ar_b2 q_b2 S_b2 N_b2 H_b2 G_b2 rfl W5 0 rfl (Nat.le_of_ble_eq_true rfl)
  have K5 : Keep h0 h5 [] := K2.wr W5 (Or.inr sz_b2)
  have N5 := Fr.snoc X5 N0 g_b2
  obtain ⟨T7, X7, e7, st7⟩ := getS2 X5 hx hZ hown (host := "") (Or.inl (hw _ (List.mem_of_getElem? (i := 6) rfl))) Via.refl e5 ((S_ABS.ext E2).wr W5) (g := (mkF m 13 #[.val (.int p1), .unset, .unset, .unset, .unset] [(.int (1 : Int32)), (.ref b2), (.ref b2)])) rfl (hb hby at_13)
  obtain ⟨cl_b2_16, Ar_b2, q_b2, S_b2, N_b2, H_b2, G_b2⟩ := V_b2_5
  have hin16 : ¬ ((1 : Int32) < 0 ∨ cl_b2_16.slots.size ≤ ((1 : Int32)).toNatClampNeg) := inb_of S_b2 ⟨by decide, by decide⟩
  have Sto16 : Sto Z h5 b2 (.ref w_ABS) := Sto.ofV Ar_b2 q_b2 O2 (Ins.self ((E_ABS.ext E2).wr W5))
  obtain ⟨T8, h8, X8, e8, W8, st8⟩ := stR X7 hx hZ e7 Ar_b2 (j := (1 : Int32)) hin16 rfl Sto16 (g := (mkF m 16 #[.val (.int p1), .unset, .unset, .unset, .unset] [(.ref w_ABS), (.int (1 : Int32)), (.ref b2), (.ref b2)])) rfl rfl (hb hby at_16)
  have V_b2_8 : Arv Z h8 b2 k2 (.object "com/example/failfirst/failfirst/Operator") (22 : Int32) [(.ref w_NEG), (.ref w_ABS), .null, .null, .null, .null, .null, .null, .null, .null, .null, .null, .null, .null, .null, .null, .null, .null, .null, .null, .null, .null] .null := Arv.set Ar_b2 q_b2 S_b2 N_b2 H_b2 G_b2 rfl W8 1 rfl (Nat.le_of_ble_eq_true rfl)
  have K8 : Keep h0 h8 [] := K5.wr W8 (Or.inr sz_b2)
  have N8 := Fr.snoc X8 N5 g_b2
  obtain ⟨T10, X10, e10, st10⟩ := getS2 X8 hx hZ hown (host := "") (Or.inl (hw _ (List.mem_of_getElem? (i := 8) rfl))) Via.refl e8 (((S_ADD.ext E2).wr W5).wr W8) (g := (mkF m 19 #[.val (.int p1), .unset, .unset, .unset, .unset] [(.int (2 : Int32)), (.ref b2), (.ref b2)])) rfl (hb hby at_19)
  obtain ⟨cl_b2_22, Ar_b2, q_b2, S_b2, N_b2, H_b2, G_b2⟩ := V_b2_8
  have hin22 : ¬ ((2 : Int32) < 0 ∨ cl_b2_22.slots.size ≤ ((2 : Int32)).toNatClampNeg) := inb_of S_b2 ⟨by decide, by decide⟩
  have Sto22 : Sto Z h8 b2 (.ref w_ADD) := Sto.ofV Ar_b2 q_b2 O2 (Ins.self (((E_ADD.ext E2).wr W5).wr W8))
  obtain ⟨T11, h11, X11, e11, W11, st11⟩ := stR X10 hx hZ e10 Ar_b2 (j := (2 : Int32)) hin22 rfl Sto22 (g := (mkF m 22 #[.val (.int p1), .unset, .unset, .unset, .unset] [(.ref w_ADD), (.int (2 : Int32)), (.ref b2), (.ref b2)])) rfl rfl (hb hby at_22)
  have V_b2_11 : Arv Z h11 b2 k2 (.object "com/example/failfirst/failfirst/Operator") (22 : Int32) [(.ref w_NEG), (.ref w_ABS), (.ref w_ADD), .null, .null, .null, .null, .null, .null, .null, .null, .null, .null, .null, .null, .null, .null, .null, .null, .null, .null, .null] .null := Arv.set Ar_b2 q_b2 S_b2 N_b2 H_b2 G_b2 rfl W11 2 rfl (Nat.le_of_ble_eq_true rfl)
  have K11 : Keep h0 h11 [] := K8.wr W11 (Or.inr sz_b2)
  have N11 := Fr.snoc X11 N8 g_b2
  obtain ⟨T13, X13, e13, st13⟩ := getS2 X11 hx hZ hown (host := "") (Or.inl (hw _ (List.mem_of_getElem? (i := 10) rfl))) Via.refl e11 ((((S_SUB.ext E2).wr W5).wr W8).wr W11) (g := (mkF m 25 #[.val (.int p1), .unset, .unset, .unset, .unset] [(.int (3 : Int32)), (.ref b2), (.ref b2)])) rfl (hb hby at_25)
  obtain ⟨cl_b2_28, Ar_b2, q_b2, S_b2, N_b2, H_b2, G_b2⟩ := V_b2_11
  have hin28 : ¬ ((3 : Int32) < 0 ∨ cl_b2_28.slots.size ≤ ((3 : Int32)).toNatClampNeg) := inb_of S_b2 ⟨by decide, by decide⟩
  have Sto28 : Sto Z h11 b2 (.ref w_SUB) := Sto.ofV Ar_b2 q_b2 O2 (Ins.self ((((E_SUB.ext E2).wr W5).wr W8).wr W11))
  obtain ⟨T14, h14, X14, e14, W14, st14⟩ := stR X13 hx hZ e13 Ar_b2 (j := (3 : Int32)) hin28 rfl Sto28 (g := (mkF m 28 #[.val (.int p1), .unset, .unset, .unset, .unset] [(.ref w_SUB), (.int (3 : Int32)), (.ref b2), (.ref b2)])) rfl rfl (hb hby at_28)
  have V_b2_14 : Arv Z h14 b2 k2 (.object "com/example/failfirst/failfirst/Operator") (22 : Int32) [(.ref w_NEG), (.ref w_ABS), (.ref w_ADD), (.ref w_SUB), .null, .null, .null, .null, .null, .null, .null, .null, .null, .null, .null, .null, .null, .null, .null, .null, .null, .null] .null := Arv.set Ar_b2 q_b2 S_b2 N_b2 H_b2 G_b2 rfl W14 3 rfl (Nat.le_of_ble_eq_true rfl)
  have K14 : Keep h0 h14 [] := K11.wr W14 (Or.inr sz_b2)
  have N14 := Fr.snoc X14 N11 g_b2
  obtain ⟨T16, X16, e16, st16⟩ := getS2 X14 hx hZ hown (host := "") (Or.inl (hw _ (List.mem_of_getElem? (i := 12) rfl))) Via.refl e14 (((((S_MUL.ext E2).wr W5).wr W8).wr W11).wr W14) (g := (mkF m 31 #[.val (.int p1), .unset, .unset, .unset, .unset] [(.int (4 : Int32)), (.ref b2), (.ref b2)])) rfl (hb hby at_31)
  obtain ⟨cl_b2_34, Ar_b2, q_b2, S_b2, N_b2, H_b2, G_b2⟩ := V_b2_14
  have hin34 : ¬ ((4 : Int32) < 0 ∨ cl_b2_34.slots.size ≤ ((4 : Int32)).toNatClampNeg) := inb_of S_b2 ⟨by decide, by decide⟩
  have Sto34 : Sto Z h14 b2 (.ref w_MUL) := Sto.ofV Ar_b2 q_b2 O2 (Ins.self (((((E_MUL.ext E2).wr W5).wr W8).wr W11).wr W14))
  obtain ⟨T17, h17, X17, e17, W17, st17⟩ := stR X16 hx hZ e16 Ar_b2 (j := (4 : Int32)) hin34 rfl Sto34 (g := (mkF m 34 #[.val (.int p1), .unset, .unset, .unset, .unset] [(.ref w_MUL), (.int (4 : Int32)), (.ref b2), (.ref b2)])) rfl rfl (hb hby at_34)
  have V_b2_17 : Arv Z h17 b2 k2 (.object "com/example/failfirst/failfirst/Operator") (22 : Int32) [(.ref w_NEG), (.ref w_ABS), (.ref w_ADD), (.ref w_SUB), (.ref w_MUL), .null, .null, .null, .null, .null, .null, .null, .null, .null, .null, .null, .null, .null, .null, .null, .null, .null] .null := Arv.set Ar_b2 q_b2 S_b2 N_b2 H_b2 G_b2 rfl W17 4 rfl (Nat.le_of_ble_eq_true rfl)
  have K17 : Keep h0 h17 [] := K14.wr W17 (Or.inr sz_b2)
  have N17 := Fr.snoc X17 N14 g_b2
  obtain ⟨T19, X19, e19, st19⟩ := getS2 X17 hx hZ hown (host := "") (Or.inl (hw _ (List.mem_of_getElem? (i := 14) rfl))) Via.refl e17 ((((((S_DIV.ext E2).wr W5).wr W8).wr W11).wr W14).wr W17) (g := (mkF m 37 #[.val (.int p1), .unset, .unset, .unset, .unset] [(.int (5 : Int32)), (.ref b2), (.ref b2)])) rfl (hb hby at_37)
  obtain ⟨cl_b2_40, Ar_b2, q_b2, S_b2, N_b2, H_b2, G_b2⟩ := V_b2_17
  have hin40 : ¬ ((5 : Int32) < 0 ∨ cl_b2_40.slots.size ≤ ((5 : Int32)).toNatClampNeg) := inb_of S_b2 ⟨by decide, by decide⟩
  have Sto40 : Sto Z h17 b2 (.ref w_DIV) := Sto.ofV Ar_b2 q_b2 O2 (Ins.self ((((((E_DIV.ext E2).wr W5).wr W8).wr W11).wr W14).wr W17))
  obtain ⟨T20, h20, X20, e20, W20, st20⟩ := stR X19 hx hZ e19 Ar_b2 (j := (5 : Int32)) hin40 rfl Sto40 (g := (mkF m 40 #[.val (.int p1), .unset, .unset, .unset, .unset] [(.ref w_DIV), (.int (5 : Int32)), (.ref b2), (.ref b2)])) rfl rfl (hb hby at_40)
  have V_b2_20 : Arv Z h20 b2 k2 (.object "com/example/failfirst/failfirst/Operator") (22 : Int32) [(.ref w_NEG), (.ref w_ABS), (.ref w_ADD), (.ref w_SUB), (.ref w_MUL), (.ref w_DIV), .null, .null, .null, .null, .null, .null, .null, .null, .null, .null, .null, .null, .null, .null, .null, .null] .null := Arv.set Ar_b2 q_b2 S_b2 N_b2 H_b2 G_b2 rfl W20 5 rfl (Nat.le_of_ble_eq_true rfl)
  have K20 : Keep h0 h20 [] := K17.wr W20 (Or.inr sz_b2)
  have N20 := Fr.snoc X20 N17 g_b2
  obtain ⟨T22, X22, e22, st22⟩ := getS2 X20 hx hZ hown (host := "") (Or.inl (hw _ (List.mem_of_getElem? (i := 16) rfl))) Via.refl e20 (((((((S_MOD.ext E2).wr W5).wr W8).wr W11).wr W14).wr W17).wr W20) (g := (mkF m 44 #[.val (.int p1), .unset, .unset, .unset, .unset] [(.int (6 : Int32)), (.ref b2), (.ref b2)])) rfl (hb hby at_44)
  obtain ⟨cl_b2_47, Ar_b2, q_b2, S_b2, N_b2, H_b2, G_b2⟩ := V_b2_20
  have hin47 : ¬ ((6 : Int32) < 0 ∨ cl_b2_47.slots.size ≤ ((6 : Int32)).toNatClampNeg) := inb_of S_b2 ⟨by decide, by decide⟩
  have Sto47 : Sto Z h20 b2 (.ref w_MOD) := Sto.ofV Ar_b2 q_b2 O2 (Ins.self (((((((E_MOD.ext E2).wr W5).wr W8).wr W11).wr W14).wr W17).wr W20))
  obtain ⟨T23, h23, X23, e23, W23, st23⟩ := stR X22 hx hZ e22 Ar_b2 (j := (6 : Int32)) hin47 rfl Sto47 (g := (mkF m 47 #[.val (.int p1), .unset, .unset, .unset, .unset] [(.ref w_MOD), (.int (6 : Int32)), (.ref b2), (.ref b2)])) rfl rfl (hb hby at_47)
  have V_b2_23 : Arv Z h23 b2 k2 (.object "com/example/failfirst/failfirst/Operator") (22 : Int32) [(.ref w_NEG), (.ref w_ABS), (.ref w_ADD), (.ref w_SUB), (.ref w_MUL), (.ref w_DIV), (.ref w_MOD), .null, .null, .null, .null, .null, .null, .null, .null, .null, .null, .null, .null, .null, .null, .null] .null := Arv.set Ar_b2 q_b2 S_b2 N_b2 H_b2 G_b2 rfl W23 6 rfl (Nat.le_of_ble_eq_true rfl)
  have K23 : Keep h0 h23 [] := K20.wr W23 (Or.inr sz_b2)
  have N23 := Fr.snoc X23 N20 g_b2
  obtain ⟨T25, X25, e25, st25⟩ := getS2 X23 hx hZ hown (host := "") (Or.inl (hw _ (List.mem_of_getElem? (i := 18) rfl))) Via.refl e23 ((((((((S_DIST.ext E2).wr W5).wr W8).wr W11).wr W14).wr W17).wr W20).wr W23) (g := (mkF m 51 #[.val (.int p1), .unset, .unset, .unset, .unset] [(.int (7 : Int32)), (.ref b2), (.ref b2)])) rfl (hb hby at_51)
  obtain ⟨cl_b2_54, Ar_b2, q_b2, S_b2, N_b2, H_b2, G_b2⟩ := V_b2_23
  have hin54 : ¬ ((7 : Int32) < 0 ∨ cl_b2_54.slots.size ≤ ((7 : Int32)).toNatClampNeg) := inb_of S_b2 ⟨by decide, by decide⟩
  have Sto54 : Sto Z h23 b2 (.ref w_DIST) := Sto.ofV Ar_b2 q_b2 O2 (Ins.self ((((((((E_DIST.ext E2).wr W5).wr W8).wr W11).wr W14).wr W17).wr W20).wr W23))
  obtain ⟨T26, h26, X26, e26, W26, st26⟩ := stR X25 hx hZ e25 Ar_b2 (j := (7 : Int32)) hin54 rfl Sto54 (g := (mkF m 54 #[.val (.int p1), .unset, .unset, .unset, .unset] [(.ref w_DIST), (.int (7 : Int32)), (.ref b2), (.ref b2)])) rfl rfl (hb hby at_54)
  have V_b2_26 : Arv Z h26 b2 k2 (.object "com/example/failfirst/failfirst/Operator") (22 : Int32) [(.ref w_NEG), (.ref w_ABS), (.ref w_ADD), (.ref w_SUB), (.ref w_MUL), (.ref w_DIV), (.ref w_MOD), (.ref w_DIST), .null, .null, .null, .null, .null, .null, .null, .null, .null, .null, .null, .null, .null, .null] .null := Arv.set Ar_b2 q_b2 S_b2 N_b2 H_b2 G_b2 rfl W26 7 rfl (Nat.le_of_ble_eq_true rfl)
  have K26 : Keep h0 h26 [] := K23.wr W26 (Or.inr sz_b2)
  have N26 := Fr.snoc X26 N23 g_b2
  obtain ⟨T28, X28, e28, st28⟩ := getS2 X26 hx hZ hown (host := "") (Or.inl (hw _ (List.mem_of_getElem? (i := 20) rfl))) Via.refl e26 (((((((((S_MIN.ext E2).wr W5).wr W8).wr W11).wr W14).wr W17).wr W20).wr W23).wr W26) (g := (mkF m 58 #[.val (.int p1), .unset, .unset, .unset, .unset] [(.int (8 : Int32)), (.ref b2), (.ref b2)])) rfl (hb hby at_58)
  obtain ⟨cl_b2_61, Ar_b2, q_b2, S_b2, N_b2, H_b2, G_b2⟩ := V_b2_26
  have hin61 : ¬ ((8 : Int32) < 0 ∨ cl_b2_61.slots.size ≤ ((8 : Int32)).toNatClampNeg) := inb_of S_b2 ⟨by decide, by decide⟩
  have Sto61 : Sto Z h26 b2 (.ref w_MIN) := Sto.ofV Ar_b2 q_b2 O2 (Ins.self (((((((((E_MIN.ext E2).wr W5).wr W8).wr W11).wr W14).wr W17).wr W20).wr W23).wr W26))
  obtain ⟨T29, h29, X29, e29, W29, st29⟩ := stR X28 hx hZ e28 Ar_b2 (j := (8 : Int32)) hin61 rfl Sto61 (g := (mkF m 61 #[.val (.int p1), .unset, .unset, .unset, .unset] [(.ref w_MIN), (.int (8 : Int32)), (.ref b2), (.ref b2)])) rfl rfl (hb hby at_61)
  have V_b2_29 : Arv Z h29 b2 k2 (.object "com/example/failfirst/failfirst/Operator") (22 : Int32) [(.ref w_NEG), (.ref w_ABS), (.ref w_ADD), (.ref w_SUB), (.ref w_MUL), (.ref w_DIV), (.ref w_MOD), (.ref w_DIST), (.ref w_MIN), .null, .null, .null, .null, .null, .null, .null, .null, .null, .null, .null, .null, .null] .null := Arv.set Ar_b2 q_b2 S_b2 N_b2 H_b2 G_b2 rfl W29 8 rfl (Nat.le_of_ble_eq_true rfl)
  have K29 : Keep h0 h29 [] := K26.wr W29 (Or.inr sz_b2)
  have N29 := Fr.snoc X29 N26 g_b2
  obtain ⟨T31, X31, e31, st31⟩ := getS2 X29 hx hZ hown (host := "") (Or.inl (hw _ (List.mem_of_getElem? (i := 22) rfl))) Via.refl e29 ((((((((((S_MAX.ext E2).wr W5).wr W8).wr W11).wr W14).wr W17).wr W20).wr W23).wr W26).wr W29) (g := (mkF m 65 #[.val (.int p1), .unset, .unset, .unset, .unset] [(.int (9 : Int32)), (.ref b2), (.ref b2)])) rfl (hb hby at_65)
  obtain ⟨cl_b2_68, Ar_b2, q_b2, S_b2, N_b2, H_b2, G_b2⟩ := V_b2_29
  have hin68 : ¬ ((9 : Int32) < 0 ∨ cl_b2_68.slots.size ≤ ((9 : Int32)).toNatClampNeg) := inb_of S_b2 ⟨by decide, by decide⟩
  have Sto68 : Sto Z h29 b2 (.ref w_MAX) := Sto.ofV Ar_b2 q_b2 O2 (Ins.self ((((((((((E_MAX.ext E2).wr W5).wr W8).wr W11).wr W14).wr W17).wr W20).wr W23).wr W26).wr W29))
  obtain ⟨T32, h32, X32, e32, W32, st32⟩ := stR X31 hx hZ e31 Ar_b2 (j := (9 : Int32)) hin68 rfl Sto68 (g := (mkF m 68 #[.val (.int p1), .unset, .unset, .unset, .unset] [(.ref w_MAX), (.int (9 : Int32)), (.ref b2), (.ref b2)])) rfl rfl (hb hby at_68)
  have V_b2_32 : Arv Z h32 b2 k2 (.object "com/example/failfirst/failfirst/Operator") (22 : Int32) [(.ref w_NEG), (.ref w_ABS), (.ref w_ADD), (.ref w_SUB), (.ref w_MUL), (.ref w_DIV), (.ref w_MOD), (.ref w_DIST), (.ref w_MIN), (.ref w_MAX), .null, .null, .null, .null, .null, .null, .null, .null, .null, .null, .null, .null] .null := Arv.set Ar_b2 q_b2 S_b2 N_b2 H_b2 G_b2 rfl W32 9 rfl (Nat.le_of_ble_eq_true rfl)
  have K32 : Keep h0 h32 [] := K29.wr W32 (Or.inr sz_b2)
  have N32 := Fr.snoc X32 N29 g_b2
  obtain ⟨T34, X34, e34, st34⟩ := getS2 X32 hx hZ hown (host := "") (Or.inl (hw _ (List.mem_of_getElem? (i := 24) rfl))) Via.refl e32 (((((((((((S_LT.ext E2).wr W5).wr W8).wr W11).wr W14).wr W17).wr W20).wr W23).wr W26).wr W29).wr W32) (g := (mkF m 72 #[.val (.int p1), .unset, .unset, .unset, .unset] [(.int (10 : Int32)), (.ref b2), (.ref b2)])) rfl (hb hby at_72)
  obtain ⟨cl_b2_75, Ar_b2, q_b2, S_b2, N_b2, H_b2, G_b2⟩ := V_b2_32
  have hin75 : ¬ ((10 : Int32) < 0 ∨ cl_b2_75.slots.size ≤ ((10 : Int32)).toNatClampNeg) := inb_of S_b2 ⟨by decide, by decide⟩
  have Sto75 : Sto Z h32 b2 (.ref w_LT) := Sto.ofV Ar_b2 q_b2 O2 (Ins.self (((((((((((E_LT.ext E2).wr W5).wr W8).wr W11).wr W14).wr W17).wr W20).wr W23).wr W26).wr W29).wr W32))
  obtain ⟨T35, h35, X35, e35, W35, st35⟩ := stR X34 hx hZ e34 Ar_b2 (j := (10 : Int32)) hin75 rfl Sto75 (g := (mkF m 75 #[.val (.int p1), .unset, .unset, .unset, .unset] [(.ref w_LT), (.int (10 : Int32)), (.ref b2), (.ref b2)])) rfl rfl (hb hby at_75)
  have V_b2_35 : Arv Z h35 b2 k2 (.object "com/example/failfirst/failfirst/Operator") (22 : Int32) [(.ref w_NEG), (.ref w_ABS), (.ref w_ADD), (.ref w_SUB), (.ref w_MUL), (.ref w_DIV), (.ref w_MOD), (.ref w_DIST), (.ref w_MIN), (.ref w_MAX), (.ref w_LT), .null, .null, .null, .null, .null, .null, .null, .null, .null, .null, .null] .null := Arv.set Ar_b2 q_b2 S_b2 N_b2 H_b2 G_b2 rfl W35 10 rfl (Nat.le_of_ble_eq_true rfl)
  have K35 : Keep h0 h35 [] := K32.wr W35 (Or.inr sz_b2)
  have N35 := Fr.snoc X35 N32 g_b2
  obtain ⟨T37, X37, e37, st37⟩ := getS2 X35 hx hZ hown (host := "") (Or.inl (hw _ (List.mem_of_getElem? (i := 26) rfl))) Via.refl e35 ((((((((((((S_LE.ext E2).wr W5).wr W8).wr W11).wr W14).wr W17).wr W20).wr W23).wr W26).wr W29).wr W32).wr W35) (g := (mkF m 79 #[.val (.int p1), .unset, .unset, .unset, .unset] [(.int (11 : Int32)), (.ref b2), (.ref b2)])) rfl (hb hby at_79)
  obtain ⟨cl_b2_82, Ar_b2, q_b2, S_b2, N_b2, H_b2, G_b2⟩ := V_b2_35
  have hin82 : ¬ ((11 : Int32) < 0 ∨ cl_b2_82.slots.size ≤ ((11 : Int32)).toNatClampNeg) := inb_of S_b2 ⟨by decide, by decide⟩
  have Sto82 : Sto Z h35 b2 (.ref w_LE) := Sto.ofV Ar_b2 q_b2 O2 (Ins.self ((((((((((((E_LE.ext E2).wr W5).wr W8).wr W11).wr W14).wr W17).wr W20).wr W23).wr W26).wr W29).wr W32).wr W35))
  obtain ⟨T38, h38, X38, e38, W38, st38⟩ := stR X37 hx hZ e37 Ar_b2 (j := (11 : Int32)) hin82 rfl Sto82 (g := (mkF m 82 #[.val (.int p1), .unset, .unset, .unset, .unset] [(.ref w_LE), (.int (11 : Int32)), (.ref b2), (.ref b2)])) rfl rfl (hb hby at_82)
  have V_b2_38 : Arv Z h38 b2 k2 (.object "com/example/failfirst/failfirst/Operator") (22 : Int32) [(.ref w_NEG), (.ref w_ABS), (.ref w_ADD), (.ref w_SUB), (.ref w_MUL), (.ref w_DIV), (.ref w_MOD), (.ref w_DIST), (.ref w_MIN), (.ref w_MAX), (.ref w_LT), (.ref w_LE), .null, .null, .null, .null, .null, .null, .null, .null, .null, .null] .null := Arv.set Ar_b2 q_b2 S_b2 N_b2 H_b2 G_b2 rfl W38 11 rfl (Nat.le_of_ble_eq_true rfl)
  have K38 : Keep h0 h38 [] := K35.wr W38 (Or.inr sz_b2)
  have N38 := Fr.snoc X38 N35 g_b2
  obtain ⟨T40, X40, e40, st40⟩ := getS2 X38 hx hZ hown (host := "") (Or.inl (hw _ (List.mem_of_getElem? (i := 28) rfl))) Via.refl e38 (((((((((((((S_GE.ext E2).wr W5).wr W8).wr W11).wr W14).wr W17).wr W20).wr W23).wr W26).wr W29).wr W32).wr W35).wr W38) (g := (mkF m 86 #[.val (.int p1), .unset, .unset, .unset, .unset] [(.int (12 : Int32)), (.ref b2), (.ref b2)])) rfl (hb hby at_86)
  obtain ⟨cl_b2_89, Ar_b2, q_b2, S_b2, N_b2, H_b2, G_b2⟩ := V_b2_38
  have hin89 : ¬ ((12 : Int32) < 0 ∨ cl_b2_89.slots.size ≤ ((12 : Int32)).toNatClampNeg) := inb_of S_b2 ⟨by decide, by decide⟩
  have Sto89 : Sto Z h38 b2 (.ref w_GE) := Sto.ofV Ar_b2 q_b2 O2 (Ins.self (((((((((((((E_GE.ext E2).wr W5).wr W8).wr W11).wr W14).wr W17).wr W20).wr W23).wr W26).wr W29).wr W32).wr W35).wr W38))
  obtain ⟨T41, h41, X41, e41, W41, st41⟩ := stR X40 hx hZ e40 Ar_b2 (j := (12 : Int32)) hin89 rfl Sto89 (g := (mkF m 89 #[.val (.int p1), .unset, .unset, .unset, .unset] [(.ref w_GE), (.int (12 : Int32)), (.ref b2), (.ref b2)])) rfl rfl (hb hby at_89)
  have V_b2_41 : Arv Z h41 b2 k2 (.object "com/example/failfirst/failfirst/Operator") (22 : Int32) [(.ref w_NEG), (.ref w_ABS), (.ref w_ADD), (.ref w_SUB), (.ref w_MUL), (.ref w_DIV), (.ref w_MOD), (.ref w_DIST), (.ref w_MIN), (.ref w_MAX), (.ref w_LT), (.ref w_LE), (.ref w_GE), .null, .null, .null, .null, .null, .null, .null, .null, .null] .null := Arv.set Ar_b2 q_b2 S_b2 N_b2 H_b2 G_b2 rfl W41 12 rfl (Nat.le_of_ble_eq_true rfl)
  have K41 : Keep h0 h41 [] := K38.wr W41 (Or.inr sz_b2)
  have N41 := Fr.snoc X41 N38 g_b2
  obtain ⟨T43, X43, e43, st43⟩ := getS2 X41 hx hZ hown (host := "") (Or.inl (hw _ (List.mem_of_getElem? (i := 30) rfl))) Via.refl e41 ((((((((((((((S_GT.ext E2).wr W5).wr W8).wr W11).wr W14).wr W17).wr W20).wr W23).wr W26).wr W29).wr W32).wr W35).wr W38).wr W41) (g := (mkF m 93 #[.val (.int p1), .unset, .unset, .unset, .unset] [(.int (13 : Int32)), (.ref b2), (.ref b2)])) rfl (hb hby at_93)
  obtain ⟨cl_b2_96, Ar_b2, q_b2, S_b2, N_b2, H_b2, G_b2⟩ := V_b2_41
  have hin96 : ¬ ((13 : Int32) < 0 ∨ cl_b2_96.slots.size ≤ ((13 : Int32)).toNatClampNeg) := inb_of S_b2 ⟨by decide, by decide⟩
  have Sto96 : Sto Z h41 b2 (.ref w_GT) := Sto.ofV Ar_b2 q_b2 O2 (Ins.self ((((((((((((((E_GT.ext E2).wr W5).wr W8).wr W11).wr W14).wr W17).wr W20).wr W23).wr W26).wr W29).wr W32).wr W35).wr W38).wr W41))
  obtain ⟨T44, h44, X44, e44, W44, st44⟩ := stR X43 hx hZ e43 Ar_b2 (j := (13 : Int32)) hin96 rfl Sto96 (g := (mkF m 96 #[.val (.int p1), .unset, .unset, .unset, .unset] [(.ref w_GT), (.int (13 : Int32)), (.ref b2), (.ref b2)])) rfl rfl (hb hby at_96)
  have V_b2_44 : Arv Z h44 b2 k2 (.object "com/example/failfirst/failfirst/Operator") (22 : Int32) [(.ref w_NEG), (.ref w_ABS), (.ref w_ADD), (.ref w_SUB), (.ref w_MUL), (.ref w_DIV), (.ref w_MOD), (.ref w_DIST), (.ref w_MIN), (.ref w_MAX), (.ref w_LT), (.ref w_LE), (.ref w_GE), (.ref w_GT), .null, .null, .null, .null, .null, .null, .null, .null] .null := Arv.set Ar_b2 q_b2 S_b2 N_b2 H_b2 G_b2 rfl W44 13 rfl (Nat.le_of_ble_eq_true rfl)
  have K44 : Keep h0 h44 [] := K41.wr W44 (Or.inr sz_b2)
  have N44 := Fr.snoc X44 N41 g_b2
  obtain ⟨T46, X46, e46, st46⟩ := getS2 X44 hx hZ hown (host := "") (Or.inl (hw _ (List.mem_of_getElem? (i := 32) rfl))) Via.refl e44 (((((((((((((((S_EQ.ext E2).wr W5).wr W8).wr W11).wr W14).wr W17).wr W20).wr W23).wr W26).wr W29).wr W32).wr W35).wr W38).wr W41).wr W44) (g := (mkF m 100 #[.val (.int p1), .unset, .unset, .unset, .unset] [(.int (14 : Int32)), (.ref b2), (.ref b2)])) rfl (hb hby at_100)
  obtain ⟨cl_b2_103, Ar_b2, q_b2, S_b2, N_b2, H_b2, G_b2⟩ := V_b2_44
  have hin103 : ¬ ((14 : Int32) < 0 ∨ cl_b2_103.slots.size ≤ ((14 : Int32)).toNatClampNeg) := inb_of S_b2 ⟨by decide, by decide⟩
  have Sto103 : Sto Z h44 b2 (.ref w_EQ) := Sto.ofV Ar_b2 q_b2 O2 (Ins.self (((((((((((((((E_EQ.ext E2).wr W5).wr W8).wr W11).wr W14).wr W17).wr W20).wr W23).wr W26).wr W29).wr W32).wr W35).wr W38).wr W41).wr W44))
  obtain ⟨T47, h47, X47, e47, W47, st47⟩ := stR X46 hx hZ e46 Ar_b2 (j := (14 : Int32)) hin103 rfl Sto103 (g := (mkF m 103 #[.val (.int p1), .unset, .unset, .unset, .unset] [(.ref w_EQ), (.int (14 : Int32)), (.ref b2), (.ref b2)])) rfl rfl (hb hby at_103)
  have V_b2_47 : Arv Z h47 b2 k2 (.object "com/example/failfirst/failfirst/Operator") (22 : Int32) [(.ref w_NEG), (.ref w_ABS), (.ref w_ADD), (.ref w_SUB), (.ref w_MUL), (.ref w_DIV), (.ref w_MOD), (.ref w_DIST), (.ref w_MIN), (.ref w_MAX), (.ref w_LT), (.ref w_LE), (.ref w_GE), (.ref w_GT), (.ref w_EQ), .null, .null, .null, .null, .null, .null, .null] .null := Arv.set Ar_b2 q_b2 S_b2 N_b2 H_b2 G_b2 rfl W47 14 rfl (Nat.le_of_ble_eq_true rfl)
  have K47 : Keep h0 h47 [] := K44.wr W47 (Or.inr sz_b2)
  have N47 := Fr.snoc X47 N44 g_b2
  obtain ⟨T49, X49, e49, st49⟩ := getS2 X47 hx hZ hown (host := "") (Or.inl (hw _ (List.mem_of_getElem? (i := 34) rfl))) Via.refl e47 ((((((((((((((((S_NE.ext E2).wr W5).wr W8).wr W11).wr W14).wr W17).wr W20).wr W23).wr W26).wr W29).wr W32).wr W35).wr W38).wr W41).wr W44).wr W47) (g := (mkF m 107 #[.val (.int p1), .unset, .unset, .unset, .unset] [(.int (15 : Int32)), (.ref b2), (.ref b2)])) rfl (hb hby at_107)
  obtain ⟨cl_b2_110, Ar_b2, q_b2, S_b2, N_b2, H_b2, G_b2⟩ := V_b2_47
  have hin110 : ¬ ((15 : Int32) < 0 ∨ cl_b2_110.slots.size ≤ ((15 : Int32)).toNatClampNeg) := inb_of S_b2 ⟨by decide, by decide⟩
  have Sto110 : Sto Z h47 b2 (.ref w_NE) := Sto.ofV Ar_b2 q_b2 O2 (Ins.self ((((((((((((((((E_NE.ext E2).wr W5).wr W8).wr W11).wr W14).wr W17).wr W20).wr W23).wr W26).wr W29).wr W32).wr W35).wr W38).wr W41).wr W44).wr W47))
  obtain ⟨T50, h50, X50, e50, W50, st50⟩ := stR X49 hx hZ e49 Ar_b2 (j := (15 : Int32)) hin110 rfl Sto110 (g := (mkF m 110 #[.val (.int p1), .unset, .unset, .unset, .unset] [(.ref w_NE), (.int (15 : Int32)), (.ref b2), (.ref b2)])) rfl rfl (hb hby at_110)
  have V_b2_50 : Arv Z h50 b2 k2 (.object "com/example/failfirst/failfirst/Operator") (22 : Int32) [(.ref w_NEG), (.ref w_ABS), (.ref w_ADD), (.ref w_SUB), (.ref w_MUL), (.ref w_DIV), (.ref w_MOD), (.ref w_DIST), (.ref w_MIN), (.ref w_MAX), (.ref w_LT), (.ref w_LE), (.ref w_GE), (.ref w_GT), (.ref w_EQ), (.ref w_NE), .null, .null, .null, .null, .null, .null] .null := Arv.set Ar_b2 q_b2 S_b2 N_b2 H_b2 G_b2 rfl W50 15 rfl (Nat.le_of_ble_eq_true rfl)
  have K50 : Keep h0 h50 [] := K47.wr W50 (Or.inr sz_b2)
  have N50 := Fr.snoc X50 N47 g_b2
  obtain ⟨T52, X52, e52, st52⟩ := getS2 X50 hx hZ hown (host := "") (Or.inl (hw _ (List.mem_of_getElem? (i := 36) rfl))) Via.refl e50 (((((((((((((((((S_NOT.ext E2).wr W5).wr W8).wr W11).wr W14).wr W17).wr W20).wr W23).wr W26).wr W29).wr W32).wr W35).wr W38).wr W41).wr W44).wr W47).wr W50) (g := (mkF m 114 #[.val (.int p1), .unset, .unset, .unset, .unset] [(.int (16 : Int32)), (.ref b2), (.ref b2)])) rfl (hb hby at_114)
  obtain ⟨cl_b2_117, Ar_b2, q_b2, S_b2, N_b2, H_b2, G_b2⟩ := V_b2_50
  have hin117 : ¬ ((16 : Int32) < 0 ∨ cl_b2_117.slots.size ≤ ((16 : Int32)).toNatClampNeg) := inb_of S_b2 ⟨by decide, by decide⟩
  have Sto117 : Sto Z h50 b2 (.ref w_NOT) := Sto.ofV Ar_b2 q_b2 O2 (Ins.self (((((((((((((((((E_NOT.ext E2).wr W5).wr W8).wr W11).wr W14).wr W17).wr W20).wr W23).wr W26).wr W29).wr W32).wr W35).wr W38).wr W41).wr W44).wr W47).wr W50))
  obtain ⟨T53, h53, X53, e53, W53, st53⟩ := stR X52 hx hZ e52 Ar_b2 (j := (16 : Int32)) hin117 rfl Sto117 (g := (mkF m 117 #[.val (.int p1), .unset, .unset, .unset, .unset] [(.ref w_NOT), (.int (16 : Int32)), (.ref b2), (.ref b2)])) rfl rfl (hb hby at_117)
  have V_b2_53 : Arv Z h53 b2 k2 (.object "com/example/failfirst/failfirst/Operator") (22 : Int32) [(.ref w_NEG), (.ref w_ABS), (.ref w_ADD), (.ref w_SUB), (.ref w_MUL), (.ref w_DIV), (.ref w_MOD), (.ref w_DIST), (.ref w_MIN), (.ref w_MAX), (.ref w_LT), (.ref w_LE), (.ref w_GE), (.ref w_GT), (.ref w_EQ), (.ref w_NE), (.ref w_NOT), .null, .null, .null, .null, .null] .null := Arv.set Ar_b2 q_b2 S_b2 N_b2 H_b2 G_b2 rfl W53 16 rfl (Nat.le_of_ble_eq_true rfl)
  have K53 : Keep h0 h53 [] := K50.wr W53 (Or.inr sz_b2)
  have N53 := Fr.snoc X53 N50 g_b2
  obtain ⟨T55, X55, e55, st55⟩ := getS2 X53 hx hZ hown (host := "") (Or.inl (hw _ (List.mem_of_getElem? (i := 38) rfl))) Via.refl e53 ((((((((((((((((((S_AND.ext E2).wr W5).wr W8).wr W11).wr W14).wr W17).wr W20).wr W23).wr W26).wr W29).wr W32).wr W35).wr W38).wr W41).wr W44).wr W47).wr W50).wr W53) (g := (mkF m 121 #[.val (.int p1), .unset, .unset, .unset, .unset] [(.int (17 : Int32)), (.ref b2), (.ref b2)])) rfl (hb hby at_121)
  obtain ⟨cl_b2_124, Ar_b2, q_b2, S_b2, N_b2, H_b2, G_b2⟩ := V_b2_53
  have hin124 : ¬ ((17 : Int32) < 0 ∨ cl_b2_124.slots.size ≤ ((17 : Int32)).toNatClampNeg) := inb_of S_b2 ⟨by decide, by decide⟩
  have Sto124 : Sto Z h53 b2 (.ref w_AND) := Sto.ofV Ar_b2 q_b2 O2 (Ins.self ((((((((((((((((((E_AND.ext E2).wr W5).wr W8).wr W11).wr W14).wr W17).wr W20).wr W23).wr W26).wr W29).wr W32).wr W35).wr W38).wr W41).wr W44).wr W47).wr W50).wr W53))
  obtain ⟨T56, h56, X56, e56, W56, st56⟩ := stR X55 hx hZ e55 Ar_b2 (j := (17 : Int32)) hin124 rfl Sto124 (g := (mkF m 124 #[.val (.int p1), .unset, .unset, .unset, .unset] [(.ref w_AND), (.int (17 : Int32)), (.ref b2), (.ref b2)])) rfl rfl (hb hby at_124)
  have V_b2_56 : Arv Z h56 b2 k2 (.object "com/example/failfirst/failfirst/Operator") (22 : Int32) [(.ref w_NEG), (.ref w_ABS), (.ref w_ADD), (.ref w_SUB), (.ref w_MUL), (.ref w_DIV), (.ref w_MOD), (.ref w_DIST), (.ref w_MIN), (.ref w_MAX), (.ref w_LT), (.ref w_LE), (.ref w_GE), (.ref w_GT), (.ref w_EQ), (.ref w_NE), (.ref w_NOT), (.ref w_AND), .null, .null, .null, .null] .null := Arv.set Ar_b2 q_b2 S_b2 N_b2 H_b2 G_b2 rfl W56 17 rfl (Nat.le_of_ble_eq_true rfl)
  have K56 : Keep h0 h56 [] := K53.wr W56 (Or.inr sz_b2)
  have N56 := Fr.snoc X56 N53 g_b2
  obtain ⟨T58, X58, e58, st58⟩ := getS2 X56 hx hZ hown (host := "") (Or.inl (hw _ (List.mem_of_getElem? (i := 40) rfl))) Via.refl e56 (((((((((((((((((((S_OR.ext E2).wr W5).wr W8).wr W11).wr W14).wr W17).wr W20).wr W23).wr W26).wr W29).wr W32).wr W35).wr W38).wr W41).wr W44).wr W47).wr W50).wr W53).wr W56) (g := (mkF m 128 #[.val (.int p1), .unset, .unset, .unset, .unset] [(.int (18 : Int32)), (.ref b2), (.ref b2)])) rfl (hb hby at_128)
  obtain ⟨cl_b2_131, Ar_b2, q_b2, S_b2, N_b2, H_b2, G_b2⟩ := V_b2_56
  have hin131 : ¬ ((18 : Int32) < 0 ∨ cl_b2_131.slots.size ≤ ((18 : Int32)).toNatClampNeg) := inb_of S_b2 ⟨by decide, by decide⟩
  have Sto131 : Sto Z h56 b2 (.ref w_OR) := Sto.ofV Ar_b2 q_b2 O2 (Ins.self (((((((((((((((((((E_OR.ext E2).wr W5).wr W8).wr W11).wr W14).wr W17).wr W20).wr W23).wr W26).wr W29).wr W32).wr W35).wr W38).wr W41).wr W44).wr W47).wr W50).wr W53).wr W56))
  obtain ⟨T59, h59, X59, e59, W59, st59⟩ := stR X58 hx hZ e58 Ar_b2 (j := (18 : Int32)) hin131 rfl Sto131 (g := (mkF m 131 #[.val (.int p1), .unset, .unset, .unset, .unset] [(.ref w_OR), (.int (18 : Int32)), (.ref b2), (.ref b2)])) rfl rfl (hb hby at_131)
  have V_b2_59 : Arv Z h59 b2 k2 (.object "com/example/failfirst/failfirst/Operator") (22 : Int32) [(.ref w_NEG), (.ref w_ABS), (.ref w_ADD), (.ref w_SUB), (.ref w_MUL), (.ref w_DIV), (.ref w_MOD), (.ref w_DIST), (.ref w_MIN), (.ref w_MAX), (.ref w_LT), (.ref w_LE), (.ref w_GE), (.ref w_GT), (.ref w_EQ), (.ref w_NE), (.ref w_NOT), (.ref w_AND), (.ref w_OR), .null, .null, .null] .null := Arv.set Ar_b2 q_b2 S_b2 N_b2 H_b2 G_b2 rfl W59 18 rfl (Nat.le_of_ble_eq_true rfl)
  have K59 : Keep h0 h59 [] := K56.wr W59 (Or.inr sz_b2)
  have N59 := Fr.snoc X59 N56 g_b2
  obtain ⟨T61, X61, e61, st61⟩ := getS2 X59 hx hZ hown (host := "") (Or.inl (hw _ (List.mem_of_getElem? (i := 42) rfl))) Via.refl e59 ((((((((((((((((((((S_XOR.ext E2).wr W5).wr W8).wr W11).wr W14).wr W17).wr W20).wr W23).wr W26).wr W29).wr W32).wr W35).wr W38).wr W41).wr W44).wr W47).wr W50).wr W53).wr W56).wr W59) (g := (mkF m 135 #[.val (.int p1), .unset, .unset, .unset, .unset] [(.int (19 : Int32)), (.ref b2), (.ref b2)])) rfl (hb hby at_135)
  obtain ⟨cl_b2_138, Ar_b2, q_b2, S_b2, N_b2, H_b2, G_b2⟩ := V_b2_59
  have hin138 : ¬ ((19 : Int32) < 0 ∨ cl_b2_138.slots.size ≤ ((19 : Int32)).toNatClampNeg) := inb_of S_b2 ⟨by decide, by decide⟩
  have Sto138 : Sto Z h59 b2 (.ref w_XOR) := Sto.ofV Ar_b2 q_b2 O2 (Ins.self ((((((((((((((((((((E_XOR.ext E2).wr W5).wr W8).wr W11).wr W14).wr W17).wr W20).wr W23).wr W26).wr W29).wr W32).wr W35).wr W38).wr W41).wr W44).wr W47).wr W50).wr W53).wr W56).wr W59))
  obtain ⟨T62, h62, X62, e62, W62, st62⟩ := stR X61 hx hZ e61 Ar_b2 (j := (19 : Int32)) hin138 rfl Sto138 (g := (mkF m 138 #[.val (.int p1), .unset, .unset, .unset, .unset] [(.ref w_XOR), (.int (19 : Int32)), (.ref b2), (.ref b2)])) rfl rfl (hb hby at_138)
  have V_b2_62 : Arv Z h62 b2 k2 (.object "com/example/failfirst/failfirst/Operator") (22 : Int32) [(.ref w_NEG), (.ref w_ABS), (.ref w_ADD), (.ref w_SUB), (.ref w_MUL), (.ref w_DIV), (.ref w_MOD), (.ref w_DIST), (.ref w_MIN), (.ref w_MAX), (.ref w_LT), (.ref w_LE), (.ref w_GE), (.ref w_GT), (.ref w_EQ), (.ref w_NE), (.ref w_NOT), (.ref w_AND), (.ref w_OR), (.ref w_XOR), .null, .null] .null := Arv.set Ar_b2 q_b2 S_b2 N_b2 H_b2 G_b2 rfl W62 19 rfl (Nat.le_of_ble_eq_true rfl)
  have K62 : Keep h0 h62 [] := K59.wr W62 (Or.inr sz_b2)
  have N62 := Fr.snoc X62 N59 g_b2
  obtain ⟨T64, X64, e64, st64⟩ := getS2 X62 hx hZ hown (host := "") (Or.inl (hw _ (List.mem_of_getElem? (i := 44) rfl))) Via.refl e62 (((((((((((((((((((((S_IFF.ext E2).wr W5).wr W8).wr W11).wr W14).wr W17).wr W20).wr W23).wr W26).wr W29).wr W32).wr W35).wr W38).wr W41).wr W44).wr W47).wr W50).wr W53).wr W56).wr W59).wr W62) (g := (mkF m 142 #[.val (.int p1), .unset, .unset, .unset, .unset] [(.int (20 : Int32)), (.ref b2), (.ref b2)])) rfl (hb hby at_142)
  obtain ⟨cl_b2_145, Ar_b2, q_b2, S_b2, N_b2, H_b2, G_b2⟩ := V_b2_62
  have hin145 : ¬ ((20 : Int32) < 0 ∨ cl_b2_145.slots.size ≤ ((20 : Int32)).toNatClampNeg) := inb_of S_b2 ⟨by decide, by decide⟩
  have Sto145 : Sto Z h62 b2 (.ref w_IFF) := Sto.ofV Ar_b2 q_b2 O2 (Ins.self (((((((((((((((((((((E_IFF.ext E2).wr W5).wr W8).wr W11).wr W14).wr W17).wr W20).wr W23).wr W26).wr W29).wr W32).wr W35).wr W38).wr W41).wr W44).wr W47).wr W50).wr W53).wr W56).wr W59).wr W62))
  obtain ⟨T65, h65, X65, e65, W65, st65⟩ := stR X64 hx hZ e64 Ar_b2 (j := (20 : Int32)) hin145 rfl Sto145 (g := (mkF m 145 #[.val (.int p1), .unset, .unset, .unset, .unset] [(.ref w_IFF), (.int (20 : Int32)), (.ref b2), (.ref b2)])) rfl rfl (hb hby at_145)
  have V_b2_65 : Arv Z h65 b2 k2 (.object "com/example/failfirst/failfirst/Operator") (22 : Int32) [(.ref w_NEG), (.ref w_ABS), (.ref w_ADD), (.ref w_SUB), (.ref w_MUL), (.ref w_DIV), (.ref w_MOD), (.ref w_DIST), (.ref w_MIN), (.ref w_MAX), (.ref w_LT), (.ref w_LE), (.ref w_GE), (.ref w_GT), (.ref w_EQ), (.ref w_NE), (.ref w_NOT), (.ref w_AND), (.ref w_OR), (.ref w_XOR), (.ref w_IFF), .null] .null := Arv.set Ar_b2 q_b2 S_b2 N_b2 H_b2 G_b2 rfl W65 20 rfl (Nat.le_of_ble_eq_true rfl)
  have K65 : Keep h0 h65 [] := K62.wr W65 (Or.inr sz_b2)
  have N65 := Fr.snoc X65 N62 g_b2
  obtain ⟨T67, X67, e67, st67⟩ := getS2 X65 hx hZ hown (host := "") (Or.inl (hw _ (List.mem_of_getElem? (i := 46) rfl))) Via.refl e65 ((((((((((((((((((((((S_IMP.ext E2).wr W5).wr W8).wr W11).wr W14).wr W17).wr W20).wr W23).wr W26).wr W29).wr W32).wr W35).wr W38).wr W41).wr W44).wr W47).wr W50).wr W53).wr W56).wr W59).wr W62).wr W65) (g := (mkF m 149 #[.val (.int p1), .unset, .unset, .unset, .unset] [(.int (21 : Int32)), (.ref b2), (.ref b2)])) rfl (hb hby at_149)
  obtain ⟨cl_b2_152, Ar_b2, q_b2, S_b2, N_b2, H_b2, G_b2⟩ := V_b2_65
  have hin152 : ¬ ((21 : Int32) < 0 ∨ cl_b2_152.slots.size ≤ ((21 : Int32)).toNatClampNeg) := inb_of S_b2 ⟨by decide, by decide⟩
  have Sto152 : Sto Z h65 b2 (.ref w_IMP) := Sto.ofV Ar_b2 q_b2 O2 (Ins.self ((((((((((((((((((((((E_IMP.ext E2).wr W5).wr W8).wr W11).wr W14).wr W17).wr W20).wr W23).wr W26).wr W29).wr W32).wr W35).wr W38).wr W41).wr W44).wr W47).wr W50).wr W53).wr W56).wr W59).wr W62).wr W65))
  obtain ⟨T68, h68, X68, e68, W68, st68⟩ := stR X67 hx hZ e67 Ar_b2 (j := (21 : Int32)) hin152 rfl Sto152 (g := (mkF m 152 #[.val (.int p1), .unset, .unset, .unset, .unset] [(.ref w_IMP), (.int (21 : Int32)), (.ref b2), (.ref b2)])) rfl rfl (hb hby at_152)
  have V_b2_68 : Arv Z h68 b2 k2 (.object "com/example/failfirst/failfirst/Operator") (22 : Int32) [(.ref w_NEG), (.ref w_ABS), (.ref w_ADD), (.ref w_SUB), (.ref w_MUL), (.ref w_DIV), (.ref w_MOD), (.ref w_DIST), (.ref w_MIN), (.ref w_MAX), (.ref w_LT), (.ref w_LE), (.ref w_GE), (.ref w_GT), (.ref w_EQ), (.ref w_NE), (.ref w_NOT), (.ref w_AND), (.ref w_OR), (.ref w_XOR), (.ref w_IFF), (.ref w_IMP)] .null := Arv.set Ar_b2 q_b2 S_b2 N_b2 H_b2 G_b2 rfl W68 21 rfl (Nat.le_of_ble_eq_true rfl)
  have K68 : Keep h0 h68 [] := K65.wr W68 (Or.inr sz_b2)
  have N68 := Fr.snoc X68 N65 g_b2
  obtain ⟨cl_b2_164, Ar_b2_164, q_b2_164, S_b2_164, N_b2_164, H_b2_164, G_b2_164⟩ := V_b2_68
  have hin164 : ¬ (((p1 &&& (2147483647 : Int32)) % (22 : Int32)) < 0 ∨ cl_b2_164.slots.size ≤ (((p1 &&& (2147483647 : Int32)) % (22 : Int32))).toNatClampNeg) := inb_of S_b2_164 ⟨hj0, hj1⟩
  have hat164 : cl_b2_164.slots[(((p1 &&& (2147483647 : Int32)) % (22 : Int32))).toNatClampNeg]? = some (.ref wx) := (H_b2_164 _ (by rw [S_b2_164]; exact hlt)).trans (congrArg some hsel)
  obtain ⟨T69, X69, e69, st69⟩ := getS2 X68 hx hZ hown (host := "") (Or.inl (hw _ (List.mem_of_getElem? (i := 24) rfl))) Via.refl e68 (((((((((((((((((((((((S_LT.ext E2).wr W5).wr W8).wr W11).wr W14).wr W17).wr W20).wr W23).wr W26).wr W29).wr W32).wr W35).wr W38).wr W41).wr W44).wr W47).wr W50).wr W53).wr W56).wr W59).wr W62).wr W65).wr W68) (g := (mkF m 167 #[.val (.int p1), .val (.ref b2), .val (.int ((p1 &&& (2147483647 : Int32)) % (22 : Int32))), .val (.ref wx), .unset] [(.ref wx)])) rfl (hb hby at_167)
  obtain ⟨T70, X70, e70, st70⟩ := getS2 X69 hx hZ hown (host := "") (Or.inl (hw _ (List.mem_of_getElem? (i := 26) rfl))) Via.refl e69 (((((((((((((((((((((((S_LE.ext E2).wr W5).wr W8).wr W11).wr W14).wr W17).wr W20).wr W23).wr W26).wr W29).wr W32).wr W35).wr W38).wr W41).wr W44).wr W47).wr W50).wr W53).wr W56).wr W59).wr W62).wr W65).wr W68) (g := (mkF m 174 #[.val (.int p1), .val (.ref b2), .val (.int ((p1 &&& (2147483647 : Int32)) % (22 : Int32))), .val (.ref wx), .unset] [(.ref wx)])) rfl (hb hby at_174)
  obtain ⟨T71, X71, e71, st71⟩ := getS2 X70 hx hZ hown (host := "") (Or.inl (hw _ (List.mem_of_getElem? (i := 28) rfl))) Via.refl e70 (((((((((((((((((((((((S_GE.ext E2).wr W5).wr W8).wr W11).wr W14).wr W17).wr W20).wr W23).wr W26).wr W29).wr W32).wr W35).wr W38).wr W41).wr W44).wr W47).wr W50).wr W53).wr W56).wr W59).wr W62).wr W65).wr W68) (g := (mkF m 181 #[.val (.int p1), .val (.ref b2), .val (.int ((p1 &&& (2147483647 : Int32)) % (22 : Int32))), .val (.ref wx), .unset] [(.ref wx)])) rfl (hb hby at_181)
  obtain ⟨T72, X72, e72, st72⟩ := getS2 X71 hx hZ hown (host := "") (Or.inl (hw _ (List.mem_of_getElem? (i := 30) rfl))) Via.refl e71 (((((((((((((((((((((((S_GT.ext E2).wr W5).wr W8).wr W11).wr W14).wr W17).wr W20).wr W23).wr W26).wr W29).wr W32).wr W35).wr W38).wr W41).wr W44).wr W47).wr W50).wr W53).wr W56).wr W59).wr W62).wr W65).wr W68) (g := (mkF m 188 #[.val (.int p1), .val (.ref b2), .val (.int ((p1 &&& (2147483647 : Int32)) % (22 : Int32))), .val (.ref wx), .unset] [(.ref wx)])) rfl (hb hby at_188)
  obtain ⟨T73, X73, e73, st73⟩ := getS2 X72 hx hZ hown (host := "") (Or.inl (hw _ (List.mem_of_getElem? (i := 32) rfl))) Via.refl e72 (((((((((((((((((((((((S_EQ.ext E2).wr W5).wr W8).wr W11).wr W14).wr W17).wr W20).wr W23).wr W26).wr W29).wr W32).wr W35).wr W38).wr W41).wr W44).wr W47).wr W50).wr W53).wr W56).wr W59).wr W62).wr W65).wr W68) (g := (mkF m 195 #[.val (.int p1), .val (.ref b2), .val (.int ((p1 &&& (2147483647 : Int32)) % (22 : Int32))), .val (.ref wx), .unset] [(.ref wx)])) rfl (hb hby at_195)
  obtain ⟨LL, X73, N68⟩ : ∃ LL, Stand p l e room_1 s m #[(.int p1)] below meth c T73 LL (0 + 1) (0 + 22) ∧ Fr n0 LL := ⟨_, X73, N68⟩
  obtain ⟨cq74, kq74, q74a, q74b, q74c⟩ := isOf hZ e73 (((((((((((((((((((((((E_wx.ext E2).wr W5).wr W8).wr W11).wr W14).wr W17).wr W20).wr W23).wr W26).wr W29).wr W32).wr W35).wr W38).wr W41).wr W44).wr W47).wr W50).wr W53).wr W56).wr W59).wr W62).wr W65).wr W68)
  obtain ⟨_, _, ⟨T74, L74, k74, n74⟩, -, X74, ⟨Lc74, hQ74, l74, y74, z74⟩, st74⟩ := X73.virtualBack hx (y := (⟨"com/example/failfirst/failfirst/Operator", "chains", "()Z"⟩ : MethodName)) (z := (⟨"com/example/failfirst/failfirst/Operator", "chains", "()Z"⟩ : MethodName)) hown (mvT hZ (hw _ (List.mem_of_getElem? (i := 49) rfl))) (mvT hZ (hw _ (List.mem_of_getElem? (i := 50) rfl))) (notFace_of_selects (args := #[]) (mvT hZ (hw _ (List.mem_of_getElem? (i := 52) rfl)))) (mvT hZ (hw _ (List.mem_of_getElem? (i := 52) rfl))) (mvT hZ (hw _ (List.mem_of_getElem? (i := 51) rfl))) (by decide) (backOf (W := 0) (rm1_f l Z a0 hw [] wx wk w_COMPARISON h68 n0 (Nat.le_trans Z0 K68.1) (F_kind.keep K68 List.not_mem_nil) (((((((((((((((((((((((S_COMPARISON.ext E2).wr W5).wr W8).wr W11).wr W14).wr W17).wr W20).wr W23).wr W26).wr W29).wr W32).wr W35).wr W38).wr W41).wr W44).wr W47).wr W50).wr W53).wr W56).wr W59).wr W62).wr W65).wr W68) hkd) hZ (hw _ (List.mem_of_getElem? (i := 53) rfl)) (hw _ (List.mem_of_getElem? (i := 3) rfl)) (by decide) (by decide)) q74a q74c (g := (mkF m 216 #[.val (.int p1), .val (.ref b2), .val (.int ((p1 &&& (2147483647 : Int32)) % (22 : Int32))), .val (.ref wx), .val (.int (1 : Int32))] [(.ref wx)])) rfl (by rw [hml]; rfl) (Steps.refl _) (argsL := []) (rest := []) (lenOf pd_0_0 rfl) rfl (by show 2 * 0 + _ ≤ _; exact Nat.le_of_eq rfl) (hb hby at_216) (fun _ _ => ⟨rfl, e73, (by decide : 1 + 0 ≤ _), (by decide : 22 + 0 ≤ _)⟩)
  dsimp only [Pt.U, Pt.locs, Pt.cells, Pt.slots] at X74 l74 y74 z74 st74 hQ74
  subst l74 y74 z74
  obtain ⟨rfl, N74q, e74q⟩ := hQ74
  have N74 := Fr.app N68 N74q
  obtain ⟨fs, hr, hrun, hended, hW, hsame⟩ := X74.leave (v := some (.int (1 : Int32))) (fun h => by rw [Bd.returns] at h; cases h) Bd.notSynchronized
  refine ⟨_, _, pre0 _ ?_, hrun, hended, _, _, rfl, ?_, ⟨_, rfl⟩, hW, hsame.mono (by decide) (by decide)⟩
  · show Steps p.tables e below (s₁.setTop (mkF m 0 #[.val (.int p1), .unset, .unset, .unset, .unset] [])) _
    refine XS.bipush X0.here hx rfl (hb hby at_0) ?_
    show Steps p.tables e below (s₁.setTop (mkF m 2 #[.val (.int p1), .unset, .unset, .unset, .unset] [(.int (22 : Int32))])) _
    refine st2 _ ?_
    show Steps p.tables e below (T2.setTop (mkF m 5 #[.val (.int p1), .unset, .unset, .unset, .unset] [(.ref b2)])) _
    refine XS.dup X2.here hx rfl (hb hby at_5) rfl rfl ?_
    show Steps p.tables e below (T2.setTop (mkF m 6 #[.val (.int p1), .unset, .unset, .unset, .unset] [(.ref b2), (.ref b2)])) _
    refine XS.iconst X2.here hx rfl (hb hby at_6) ?_
    show Steps p.tables e below (T2.setTop (mkF m 7 #[.val (.int p1), .unset, .unset, .unset, .unset] [(.int (0 : Int32)), (.ref b2), (.ref b2)])) _
    refine st4 _ ?_
    show Steps p.tables e below (T4.setTop (mkF m 10 #[.val (.int p1), .unset, .unset, .unset, .unset] [(.ref w_NEG), (.int (0 : Int32)), (.ref b2), (.ref b2)])) _
    refine st5 _ ?_
    show Steps p.tables e below (T5.setTop (mkF m 11 #[.val (.int p1), .unset, .unset, .unset, .unset] [(.ref b2)])) _
    refine XS.dup X5.here hx rfl (hb hby at_11) rfl rfl ?_
    show Steps p.tables e below (T5.setTop (mkF m 12 #[.val (.int p1), .unset, .unset, .unset, .unset] [(.ref b2), (.ref b2)])) _
    refine XS.iconst X5.here hx rfl (hb hby at_12) ?_
    show Steps p.tables e below (T5.setTop (mkF m 13 #[.val (.int p1), .unset, .unset, .unset, .unset] [(.int (1 : Int32)), (.ref b2), (.ref b2)])) _
    refine st7 _ ?_
    show Steps p.tables e below (T7.setTop (mkF m 16 #[.val (.int p1), .unset, .unset, .unset, .unset] [(.ref w_ABS), (.int (1 : Int32)), (.ref b2), (.ref b2)])) _
    refine st8 _ ?_
    show Steps p.tables e below (T8.setTop (mkF m 17 #[.val (.int p1), .unset, .unset, .unset, .unset] [(.ref b2)])) _
    refine XS.dup X8.here hx rfl (hb hby at_17) rfl rfl ?_
    show Steps p.tables e below (T8.setTop (mkF m 18 #[.val (.int p1), .unset, .unset, .unset, .unset] [(.ref b2), (.ref b2)])) _
    refine XS.iconst X8.here hx rfl (hb hby at_18) ?_
    show Steps p.tables e below (T8.setTop (mkF m 19 #[.val (.int p1), .unset, .unset, .unset, .unset] [(.int (2 : Int32)), (.ref b2), (.ref b2)])) _
    refine st10 _ ?_
    show Steps p.tables e below (T10.setTop (mkF m 22 #[.val (.int p1), .unset, .unset, .unset, .unset] [(.ref w_ADD), (.int (2 : Int32)), (.ref b2), (.ref b2)])) _
    refine st11 _ ?_
    show Steps p.tables e below (T11.setTop (mkF m 23 #[.val (.int p1), .unset, .unset, .unset, .unset] [(.ref b2)])) _
    refine XS.dup X11.here hx rfl (hb hby at_23) rfl rfl ?_
    show Steps p.tables e below (T11.setTop (mkF m 24 #[.val (.int p1), .unset, .unset, .unset, .unset] [(.ref b2), (.ref b2)])) _
    refine XS.iconst X11.here hx rfl (hb hby at_24) ?_
    show Steps p.tables e below (T11.setTop (mkF m 25 #[.val (.int p1), .unset, .unset, .unset, .unset] [(.int (3 : Int32)), (.ref b2), (.ref b2)])) _
    refine st13 _ ?_
    show Steps p.tables e below (T13.setTop (mkF m 28 #[.val (.int p1), .unset, .unset, .unset, .unset] [(.ref w_SUB), (.int (3 : Int32)), (.ref b2), (.ref b2)])) _
    refine st14 _ ?_
    show Steps p.tables e below (T14.setTop (mkF m 29 #[.val (.int p1), .unset, .unset, .unset, .unset] [(.ref b2)])) _
    refine XS.dup X14.here hx rfl (hb hby at_29) rfl rfl ?_
    show Steps p.tables e below (T14.setTop (mkF m 30 #[.val (.int p1), .unset, .unset, .unset, .unset] [(.ref b2), (.ref b2)])) _
    refine XS.iconst X14.here hx rfl (hb hby at_30) ?_
    show Steps p.tables e below (T14.setTop (mkF m 31 #[.val (.int p1), .unset, .unset, .unset, .unset] [(.int (4 : Int32)), (.ref b2), (.ref b2)])) _
    refine st16 _ ?_
    show Steps p.tables e below (T16.setTop (mkF m 34 #[.val (.int p1), .unset, .unset, .unset, .unset] [(.ref w_MUL), (.int (4 : Int32)), (.ref b2), (.ref b2)])) _
    refine st17 _ ?_
    show Steps p.tables e below (T17.setTop (mkF m 35 #[.val (.int p1), .unset, .unset, .unset, .unset] [(.ref b2)])) _
    refine XS.dup X17.here hx rfl (hb hby at_35) rfl rfl ?_
    show Steps p.tables e below (T17.setTop (mkF m 36 #[.val (.int p1), .unset, .unset, .unset, .unset] [(.ref b2), (.ref b2)])) _
    refine XS.iconst X17.here hx rfl (hb hby at_36) ?_
    show Steps p.tables e below (T17.setTop (mkF m 37 #[.val (.int p1), .unset, .unset, .unset, .unset] [(.int (5 : Int32)), (.ref b2), (.ref b2)])) _
    refine st19 _ ?_
    show Steps p.tables e below (T19.setTop (mkF m 40 #[.val (.int p1), .unset, .unset, .unset, .unset] [(.ref w_DIV), (.int (5 : Int32)), (.ref b2), (.ref b2)])) _
    refine st20 _ ?_
    show Steps p.tables e below (T20.setTop (mkF m 41 #[.val (.int p1), .unset, .unset, .unset, .unset] [(.ref b2)])) _
    refine XS.dup X20.here hx rfl (hb hby at_41) rfl rfl ?_
    show Steps p.tables e below (T20.setTop (mkF m 42 #[.val (.int p1), .unset, .unset, .unset, .unset] [(.ref b2), (.ref b2)])) _
    refine XS.bipush X20.here hx rfl (hb hby at_42) ?_
    show Steps p.tables e below (T20.setTop (mkF m 44 #[.val (.int p1), .unset, .unset, .unset, .unset] [(.int (6 : Int32)), (.ref b2), (.ref b2)])) _
    refine st22 _ ?_
    show Steps p.tables e below (T22.setTop (mkF m 47 #[.val (.int p1), .unset, .unset, .unset, .unset] [(.ref w_MOD), (.int (6 : Int32)), (.ref b2), (.ref b2)])) _
    refine st23 _ ?_
    show Steps p.tables e below (T23.setTop (mkF m 48 #[.val (.int p1), .unset, .unset, .unset, .unset] [(.ref b2)])) _
    refine XS.dup X23.here hx rfl (hb hby at_48) rfl rfl ?_
    show Steps p.tables e below (T23.setTop (mkF m 49 #[.val (.int p1), .unset, .unset, .unset, .unset] [(.ref b2), (.ref b2)])) _
    refine XS.bipush X23.here hx rfl (hb hby at_49) ?_
    show Steps p.tables e below (T23.setTop (mkF m 51 #[.val (.int p1), .unset, .unset, .unset, .unset] [(.int (7 : Int32)), (.ref b2), (.ref b2)])) _
    refine st25 _ ?_
    show Steps p.tables e below (T25.setTop (mkF m 54 #[.val (.int p1), .unset, .unset, .unset, .unset] [(.ref w_DIST), (.int (7 : Int32)), (.ref b2), (.ref b2)])) _
    refine st26 _ ?_
    show Steps p.tables e below (T26.setTop (mkF m 55 #[.val (.int p1), .unset, .unset, .unset, .unset] [(.ref b2)])) _
    refine XS.dup X26.here hx rfl (hb hby at_55) rfl rfl ?_
    show Steps p.tables e below (T26.setTop (mkF m 56 #[.val (.int p1), .unset, .unset, .unset, .unset] [(.ref b2), (.ref b2)])) _
    refine XS.bipush X26.here hx rfl (hb hby at_56) ?_
    show Steps p.tables e below (T26.setTop (mkF m 58 #[.val (.int p1), .unset, .unset, .unset, .unset] [(.int (8 : Int32)), (.ref b2), (.ref b2)])) _
    refine st28 _ ?_
    show Steps p.tables e below (T28.setTop (mkF m 61 #[.val (.int p1), .unset, .unset, .unset, .unset] [(.ref w_MIN), (.int (8 : Int32)), (.ref b2), (.ref b2)])) _
    refine st29 _ ?_
    show Steps p.tables e below (T29.setTop (mkF m 62 #[.val (.int p1), .unset, .unset, .unset, .unset] [(.ref b2)])) _
    refine XS.dup X29.here hx rfl (hb hby at_62) rfl rfl ?_
    show Steps p.tables e below (T29.setTop (mkF m 63 #[.val (.int p1), .unset, .unset, .unset, .unset] [(.ref b2), (.ref b2)])) _
    refine XS.bipush X29.here hx rfl (hb hby at_63) ?_
    show Steps p.tables e below (T29.setTop (mkF m 65 #[.val (.int p1), .unset, .unset, .unset, .unset] [(.int (9 : Int32)), (.ref b2), (.ref b2)])) _
    refine st31 _ ?_
    show Steps p.tables e below (T31.setTop (mkF m 68 #[.val (.int p1), .unset, .unset, .unset, .unset] [(.ref w_MAX), (.int (9 : Int32)), (.ref b2), (.ref b2)])) _
    refine st32 _ ?_
    show Steps p.tables e below (T32.setTop (mkF m 69 #[.val (.int p1), .unset, .unset, .unset, .unset] [(.ref b2)])) _
    refine XS.dup X32.here hx rfl (hb hby at_69) rfl rfl ?_
    show Steps p.tables e below (T32.setTop (mkF m 70 #[.val (.int p1), .unset, .unset, .unset, .unset] [(.ref b2), (.ref b2)])) _
    refine XS.bipush X32.here hx rfl (hb hby at_70) ?_
    show Steps p.tables e below (T32.setTop (mkF m 72 #[.val (.int p1), .unset, .unset, .unset, .unset] [(.int (10 : Int32)), (.ref b2), (.ref b2)])) _
    refine st34 _ ?_
    show Steps p.tables e below (T34.setTop (mkF m 75 #[.val (.int p1), .unset, .unset, .unset, .unset] [(.ref w_LT), (.int (10 : Int32)), (.ref b2), (.ref b2)])) _
    refine st35 _ ?_
    show Steps p.tables e below (T35.setTop (mkF m 76 #[.val (.int p1), .unset, .unset, .unset, .unset] [(.ref b2)])) _
    refine XS.dup X35.here hx rfl (hb hby at_76) rfl rfl ?_
    show Steps p.tables e below (T35.setTop (mkF m 77 #[.val (.int p1), .unset, .unset, .unset, .unset] [(.ref b2), (.ref b2)])) _
    refine XS.bipush X35.here hx rfl (hb hby at_77) ?_
    show Steps p.tables e below (T35.setTop (mkF m 79 #[.val (.int p1), .unset, .unset, .unset, .unset] [(.int (11 : Int32)), (.ref b2), (.ref b2)])) _
    refine st37 _ ?_
    show Steps p.tables e below (T37.setTop (mkF m 82 #[.val (.int p1), .unset, .unset, .unset, .unset] [(.ref w_LE), (.int (11 : Int32)), (.ref b2), (.ref b2)])) _
    refine st38 _ ?_
    show Steps p.tables e below (T38.setTop (mkF m 83 #[.val (.int p1), .unset, .unset, .unset, .unset] [(.ref b2)])) _
    refine XS.dup X38.here hx rfl (hb hby at_83) rfl rfl ?_
    show Steps p.tables e below (T38.setTop (mkF m 84 #[.val (.int p1), .unset, .unset, .unset, .unset] [(.ref b2), (.ref b2)])) _
    refine XS.bipush X38.here hx rfl (hb hby at_84) ?_
    show Steps p.tables e below (T38.setTop (mkF m 86 #[.val (.int p1), .unset, .unset, .unset, .unset] [(.int (12 : Int32)), (.ref b2), (.ref b2)])) _
    refine st40 _ ?_
    show Steps p.tables e below (T40.setTop (mkF m 89 #[.val (.int p1), .unset, .unset, .unset, .unset] [(.ref w_GE), (.int (12 : Int32)), (.ref b2), (.ref b2)])) _
    refine st41 _ ?_
    show Steps p.tables e below (T41.setTop (mkF m 90 #[.val (.int p1), .unset, .unset, .unset, .unset] [(.ref b2)])) _
    refine XS.dup X41.here hx rfl (hb hby at_90) rfl rfl ?_
    show Steps p.tables e below (T41.setTop (mkF m 91 #[.val (.int p1), .unset, .unset, .unset, .unset] [(.ref b2), (.ref b2)])) _
    refine XS.bipush X41.here hx rfl (hb hby at_91) ?_
    show Steps p.tables e below (T41.setTop (mkF m 93 #[.val (.int p1), .unset, .unset, .unset, .unset] [(.int (13 : Int32)), (.ref b2), (.ref b2)])) _
    refine st43 _ ?_
    show Steps p.tables e below (T43.setTop (mkF m 96 #[.val (.int p1), .unset, .unset, .unset, .unset] [(.ref w_GT), (.int (13 : Int32)), (.ref b2), (.ref b2)])) _
    refine st44 _ ?_
    show Steps p.tables e below (T44.setTop (mkF m 97 #[.val (.int p1), .unset, .unset, .unset, .unset] [(.ref b2)])) _
    refine XS.dup X44.here hx rfl (hb hby at_97) rfl rfl ?_
    show Steps p.tables e below (T44.setTop (mkF m 98 #[.val (.int p1), .unset, .unset, .unset, .unset] [(.ref b2), (.ref b2)])) _
    refine XS.bipush X44.here hx rfl (hb hby at_98) ?_
    show Steps p.tables e below (T44.setTop (mkF m 100 #[.val (.int p1), .unset, .unset, .unset, .unset] [(.int (14 : Int32)), (.ref b2), (.ref b2)])) _
    refine st46 _ ?_
    show Steps p.tables e below (T46.setTop (mkF m 103 #[.val (.int p1), .unset, .unset, .unset, .unset] [(.ref w_EQ), (.int (14 : Int32)), (.ref b2), (.ref b2)])) _
    refine st47 _ ?_
    show Steps p.tables e below (T47.setTop (mkF m 104 #[.val (.int p1), .unset, .unset, .unset, .unset] [(.ref b2)])) _
    refine XS.dup X47.here hx rfl (hb hby at_104) rfl rfl ?_
    show Steps p.tables e below (T47.setTop (mkF m 105 #[.val (.int p1), .unset, .unset, .unset, .unset] [(.ref b2), (.ref b2)])) _
    refine XS.bipush X47.here hx rfl (hb hby at_105) ?_
    show Steps p.tables e below (T47.setTop (mkF m 107 #[.val (.int p1), .unset, .unset, .unset, .unset] [(.int (15 : Int32)), (.ref b2), (.ref b2)])) _
    refine st49 _ ?_
    show Steps p.tables e below (T49.setTop (mkF m 110 #[.val (.int p1), .unset, .unset, .unset, .unset] [(.ref w_NE), (.int (15 : Int32)), (.ref b2), (.ref b2)])) _
    refine st50 _ ?_
    show Steps p.tables e below (T50.setTop (mkF m 111 #[.val (.int p1), .unset, .unset, .unset, .unset] [(.ref b2)])) _
    refine XS.dup X50.here hx rfl (hb hby at_111) rfl rfl ?_
    show Steps p.tables e below (T50.setTop (mkF m 112 #[.val (.int p1), .unset, .unset, .unset, .unset] [(.ref b2), (.ref b2)])) _
    refine XS.bipush X50.here hx rfl (hb hby at_112) ?_
    show Steps p.tables e below (T50.setTop (mkF m 114 #[.val (.int p1), .unset, .unset, .unset, .unset] [(.int (16 : Int32)), (.ref b2), (.ref b2)])) _
    refine st52 _ ?_
    show Steps p.tables e below (T52.setTop (mkF m 117 #[.val (.int p1), .unset, .unset, .unset, .unset] [(.ref w_NOT), (.int (16 : Int32)), (.ref b2), (.ref b2)])) _
    refine st53 _ ?_
    show Steps p.tables e below (T53.setTop (mkF m 118 #[.val (.int p1), .unset, .unset, .unset, .unset] [(.ref b2)])) _
    refine XS.dup X53.here hx rfl (hb hby at_118) rfl rfl ?_
    show Steps p.tables e below (T53.setTop (mkF m 119 #[.val (.int p1), .unset, .unset, .unset, .unset] [(.ref b2), (.ref b2)])) _
    refine XS.bipush X53.here hx rfl (hb hby at_119) ?_
    show Steps p.tables e below (T53.setTop (mkF m 121 #[.val (.int p1), .unset, .unset, .unset, .unset] [(.int (17 : Int32)), (.ref b2), (.ref b2)])) _
    refine st55 _ ?_
    show Steps p.tables e below (T55.setTop (mkF m 124 #[.val (.int p1), .unset, .unset, .unset, .unset] [(.ref w_AND), (.int (17 : Int32)), (.ref b2), (.ref b2)])) _
    refine st56 _ ?_
    show Steps p.tables e below (T56.setTop (mkF m 125 #[.val (.int p1), .unset, .unset, .unset, .unset] [(.ref b2)])) _
    refine XS.dup X56.here hx rfl (hb hby at_125) rfl rfl ?_
    show Steps p.tables e below (T56.setTop (mkF m 126 #[.val (.int p1), .unset, .unset, .unset, .unset] [(.ref b2), (.ref b2)])) _
    refine XS.bipush X56.here hx rfl (hb hby at_126) ?_
    show Steps p.tables e below (T56.setTop (mkF m 128 #[.val (.int p1), .unset, .unset, .unset, .unset] [(.int (18 : Int32)), (.ref b2), (.ref b2)])) _
    refine st58 _ ?_
    show Steps p.tables e below (T58.setTop (mkF m 131 #[.val (.int p1), .unset, .unset, .unset, .unset] [(.ref w_OR), (.int (18 : Int32)), (.ref b2), (.ref b2)])) _
    refine st59 _ ?_
    show Steps p.tables e below (T59.setTop (mkF m 132 #[.val (.int p1), .unset, .unset, .unset, .unset] [(.ref b2)])) _
    refine XS.dup X59.here hx rfl (hb hby at_132) rfl rfl ?_
    show Steps p.tables e below (T59.setTop (mkF m 133 #[.val (.int p1), .unset, .unset, .unset, .unset] [(.ref b2), (.ref b2)])) _
    refine XS.bipush X59.here hx rfl (hb hby at_133) ?_
    show Steps p.tables e below (T59.setTop (mkF m 135 #[.val (.int p1), .unset, .unset, .unset, .unset] [(.int (19 : Int32)), (.ref b2), (.ref b2)])) _
    refine st61 _ ?_
    show Steps p.tables e below (T61.setTop (mkF m 138 #[.val (.int p1), .unset, .unset, .unset, .unset] [(.ref w_XOR), (.int (19 : Int32)), (.ref b2), (.ref b2)])) _
    refine st62 _ ?_
    show Steps p.tables e below (T62.setTop (mkF m 139 #[.val (.int p1), .unset, .unset, .unset, .unset] [(.ref b2)])) _
    refine XS.dup X62.here hx rfl (hb hby at_139) rfl rfl ?_
    show Steps p.tables e below (T62.setTop (mkF m 140 #[.val (.int p1), .unset, .unset, .unset, .unset] [(.ref b2), (.ref b2)])) _
    refine XS.bipush X62.here hx rfl (hb hby at_140) ?_
    show Steps p.tables e below (T62.setTop (mkF m 142 #[.val (.int p1), .unset, .unset, .unset, .unset] [(.int (20 : Int32)), (.ref b2), (.ref b2)])) _
    refine st64 _ ?_
    show Steps p.tables e below (T64.setTop (mkF m 145 #[.val (.int p1), .unset, .unset, .unset, .unset] [(.ref w_IFF), (.int (20 : Int32)), (.ref b2), (.ref b2)])) _
    refine st65 _ ?_
    show Steps p.tables e below (T65.setTop (mkF m 146 #[.val (.int p1), .unset, .unset, .unset, .unset] [(.ref b2)])) _
    refine XS.dup X65.here hx rfl (hb hby at_146) rfl rfl ?_
    show Steps p.tables e below (T65.setTop (mkF m 147 #[.val (.int p1), .unset, .unset, .unset, .unset] [(.ref b2), (.ref b2)])) _
    refine XS.bipush X65.here hx rfl (hb hby at_147) ?_
    show Steps p.tables e below (T65.setTop (mkF m 149 #[.val (.int p1), .unset, .unset, .unset, .unset] [(.int (21 : Int32)), (.ref b2), (.ref b2)])) _
    refine st67 _ ?_
    show Steps p.tables e below (T67.setTop (mkF m 152 #[.val (.int p1), .unset, .unset, .unset, .unset] [(.ref w_IMP), (.int (21 : Int32)), (.ref b2), (.ref b2)])) _
    refine st68 _ ?_
    show Steps p.tables e below (T68.setTop (mkF m 153 #[.val (.int p1), .unset, .unset, .unset, .unset] [(.ref b2)])) _
    refine XS.astoreN X68.here hx rfl (hb hby at_153) rfl rfl (l' := #[.val (.int p1), .val (.ref b2), .unset, .unset, .unset]) rfl ?_
    show Steps p.tables e below (T68.setTop (mkF m 154 #[.val (.int p1), .val (.ref b2), .unset, .unset, .unset] [])) _
    refine XS.iloadN X68.here hx rfl (hb hby at_154) rfl ?_
    show Steps p.tables e below (T68.setTop (mkF m 155 #[.val (.int p1), .val (.ref b2), .unset, .unset, .unset] [(.int p1)])) _
    refine X68.ldcInt hx hown (mvT hZ (hw _ (List.mem_of_getElem? (i := 48) rfl))) (g := (mkF m 155 #[.val (.int p1), .val (.ref b2), .unset, .unset, .unset] [(.int p1)])) rfl (hb hby at_155) _ ?_
    show Steps p.tables e below (T68.setTop (mkF m 157 #[.val (.int p1), .val (.ref b2), .unset, .unset, .unset] [(.int (2147483647 : Int32)), (.int p1)])) _
    refine XS.iand X68.here hx rfl (hb hby at_157) rfl ?_
    show Steps p.tables e below (T68.setTop (mkF m 158 #[.val (.int p1), .val (.ref b2), .unset, .unset, .unset] [(.int (p1 &&& (2147483647 : Int32)))])) _
    refine XS.bipush X68.here hx rfl (hb hby at_158) ?_
    show Steps p.tables e below (T68.setTop (mkF m 160 #[.val (.int p1), .val (.ref b2), .unset, .unset, .unset] [(.int (22 : Int32)), (.int (p1 &&& (2147483647 : Int32)))])) _
    refine iremM X68 hx rfl (hb hby at_160) rfl (by decide) ?_
    show Steps p.tables e below (T68.setTop (mkF m 161 #[.val (.int p1), .val (.ref b2), .unset, .unset, .unset] [(.int ((p1 &&& (2147483647 : Int32)) % (22 : Int32)))])) _
    refine XS.istoreN X68.here hx rfl (hb hby at_161) rfl (l' := #[.val (.int p1), .val (.ref b2), .val (.int ((p1 &&& (2147483647 : Int32)) % (22 : Int32))), .unset, .unset]) rfl ?_
    show Steps p.tables e below (T68.setTop (mkF m 162 #[.val (.int p1), .val (.ref b2), .val (.int ((p1 &&& (2147483647 : Int32)) % (22 : Int32))), .unset, .unset] [])) _
    refine XS.aloadN X68.here hx rfl (hb hby at_162) rfl rfl ?_
    show Steps p.tables e below (T68.setTop (mkF m 163 #[.val (.int p1), .val (.ref b2), .val (.int ((p1 &&& (2147483647 : Int32)) % (22 : Int32))), .unset, .unset] [(.ref b2)])) _
    refine XS.iloadN X68.here hx rfl (hb hby at_163) rfl ?_
    show Steps p.tables e below (T68.setTop (mkF m 164 #[.val (.int p1), .val (.ref b2), .val (.int ((p1 &&& (2147483647 : Int32)) % (22 : Int32))), .unset, .unset] [(.int ((p1 &&& (2147483647 : Int32)) % (22 : Int32))), (.ref b2)])) _
    refine X68.aaload hx (j := ((p1 &&& (2147483647 : Int32)) % (22 : Int32))) (v := (.ref wx)) (by rw [e68]; exact Ar_b2_164.1) (State.isArrayOf_alike hZ.alike Ar_b2_164.2.1) rfl Ar_b2_164.2.2 hin164 hat164 (g := (mkF m 164 #[.val (.int p1), .val (.ref b2), .val (.int ((p1 &&& (2147483647 : Int32)) % (22 : Int32))), .unset, .unset] [(.int ((p1 &&& (2147483647 : Int32)) % (22 : Int32))), (.ref b2)])) rfl rfl (hb hby at_164) _ ?_
    show Steps p.tables e below (T68.setTop (mkF m 165 #[.val (.int p1), .val (.ref b2), .val (.int ((p1 &&& (2147483647 : Int32)) % (22 : Int32))), .unset, .unset] [(.ref wx)])) _
    refine XS.astoreN X68.here hx rfl (hb hby at_165) rfl rfl (l' := #[.val (.int p1), .val (.ref b2), .val (.int ((p1 &&& (2147483647 : Int32)) % (22 : Int32))), .val (.ref wx), .unset]) rfl ?_
    show Steps p.tables e below (T68.setTop (mkF m 166 #[.val (.int p1), .val (.ref b2), .val (.int ((p1 &&& (2147483647 : Int32)) % (22 : Int32))), .val (.ref wx), .unset] [])) _
    refine XS.aloadN X68.here hx rfl (hb hby at_166) rfl rfl ?_
    show Steps p.tables e below (T68.setTop (mkF m 167 #[.val (.int p1), .val (.ref b2), .val (.int ((p1 &&& (2147483647 : Int32)) % (22 : Int32))), .val (.ref wx), .unset] [(.ref wx)])) _
    refine st69 _ ?_
    show Steps p.tables e below (T69.setTop (mkF m 170 #[.val (.int p1), .val (.ref b2), .val (.int ((p1 &&& (2147483647 : Int32)) % (22 : Int32))), .val (.ref wx), .unset] [(.ref w_LT), (.ref wx)])) _
    refine Jvm.RoadKit.acmp (g := (mkF m 170 #[.val (.int p1), .val (.ref b2), .val (.int ((p1 &&& (2147483647 : Int32)) % (22 : Int32))), .val (.ref wx), .unset] [(.ref w_LT), (.ref wx)])) X69 hx rfl rfl rfl (pc0 := 170) (pc' := 173) (same := false) rfl (hb hby at_170) rfl (decide_eq_false fun q => ha170 (Value.ref.inj q)) (by decide) (by decide) ?_
    show Steps p.tables e below (T69.setTop (mkF m 173 #[.val (.int p1), .val (.ref b2), .val (.int ((p1 &&& (2147483647 : Int32)) % (22 : Int32))), .val (.ref wx), .unset] [])) _
    refine XS.aloadN X69.here hx rfl (hb hby at_173) rfl rfl ?_
    show Steps p.tables e below (T69.setTop (mkF m 174 #[.val (.int p1), .val (.ref b2), .val (.int ((p1 &&& (2147483647 : Int32)) % (22 : Int32))), .val (.ref wx), .unset] [(.ref wx)])) _
    refine st70 _ ?_
    show Steps p.tables e below (T70.setTop (mkF m 177 #[.val (.int p1), .val (.ref b2), .val (.int ((p1 &&& (2147483647 : Int32)) % (22 : Int32))), .val (.ref wx), .unset] [(.ref w_LE), (.ref wx)])) _
    refine Jvm.RoadKit.acmp (g := (mkF m 177 #[.val (.int p1), .val (.ref b2), .val (.int ((p1 &&& (2147483647 : Int32)) % (22 : Int32))), .val (.ref wx), .unset] [(.ref w_LE), (.ref wx)])) X70 hx rfl rfl rfl (pc0 := 177) (pc' := 180) (same := false) rfl (hb hby at_177) rfl (decide_eq_false fun q => ha177 (Value.ref.inj q)) (by decide) (by decide) ?_
    show Steps p.tables e below (T70.setTop (mkF m 180 #[.val (.int p1), .val (.ref b2), .val (.int ((p1 &&& (2147483647 : Int32)) % (22 : Int32))), .val (.ref wx), .unset] [])) _
    refine XS.aloadN X70.here hx rfl (hb hby at_180) rfl rfl ?_
    show Steps p.tables e below (T70.setTop (mkF m 181 #[.val (.int p1), .val (.ref b2), .val (.int ((p1 &&& (2147483647 : Int32)) % (22 : Int32))), .val (.ref wx), .unset] [(.ref wx)])) _
    refine st71 _ ?_
    show Steps p.tables e below (T71.setTop (mkF m 184 #[.val (.int p1), .val (.ref b2), .val (.int ((p1 &&& (2147483647 : Int32)) % (22 : Int32))), .val (.ref wx), .unset] [(.ref w_GE), (.ref wx)])) _
    refine Jvm.RoadKit.acmp (g := (mkF m 184 #[.val (.int p1), .val (.ref b2), .val (.int ((p1 &&& (2147483647 : Int32)) % (22 : Int32))), .val (.ref wx), .unset] [(.ref w_GE), (.ref wx)])) X71 hx rfl rfl rfl (pc0 := 184) (pc' := 187) (same := false) rfl (hb hby at_184) rfl (decide_eq_false fun q => ha184 (Value.ref.inj q)) (by decide) (by decide) ?_
    show Steps p.tables e below (T71.setTop (mkF m 187 #[.val (.int p1), .val (.ref b2), .val (.int ((p1 &&& (2147483647 : Int32)) % (22 : Int32))), .val (.ref wx), .unset] [])) _
    refine XS.aloadN X71.here hx rfl (hb hby at_187) rfl rfl ?_
    show Steps p.tables e below (T71.setTop (mkF m 188 #[.val (.int p1), .val (.ref b2), .val (.int ((p1 &&& (2147483647 : Int32)) % (22 : Int32))), .val (.ref wx), .unset] [(.ref wx)])) _
    refine st72 _ ?_
    show Steps p.tables e below (T72.setTop (mkF m 191 #[.val (.int p1), .val (.ref b2), .val (.int ((p1 &&& (2147483647 : Int32)) % (22 : Int32))), .val (.ref wx), .unset] [(.ref w_GT), (.ref wx)])) _
    refine Jvm.RoadKit.acmp (g := (mkF m 191 #[.val (.int p1), .val (.ref b2), .val (.int ((p1 &&& (2147483647 : Int32)) % (22 : Int32))), .val (.ref wx), .unset] [(.ref w_GT), (.ref wx)])) X72 hx rfl rfl rfl (pc0 := 191) (pc' := 194) (same := false) rfl (hb hby at_191) rfl (decide_eq_false fun q => ha191 (Value.ref.inj q)) (by decide) (by decide) ?_
    show Steps p.tables e below (T72.setTop (mkF m 194 #[.val (.int p1), .val (.ref b2), .val (.int ((p1 &&& (2147483647 : Int32)) % (22 : Int32))), .val (.ref wx), .unset] [])) _
    refine XS.aloadN X72.here hx rfl (hb hby at_194) rfl rfl ?_
    show Steps p.tables e below (T72.setTop (mkF m 195 #[.val (.int p1), .val (.ref b2), .val (.int ((p1 &&& (2147483647 : Int32)) % (22 : Int32))), .val (.ref wx), .unset] [(.ref wx)])) _
    refine st73 _ ?_
    show Steps p.tables e below (T73.setTop (mkF m 198 #[.val (.int p1), .val (.ref b2), .val (.int ((p1 &&& (2147483647 : Int32)) % (22 : Int32))), .val (.ref wx), .unset] [(.ref w_EQ), (.ref wx)])) _
    refine Jvm.RoadKit.acmp (g := (mkF m 198 #[.val (.int p1), .val (.ref b2), .val (.int ((p1 &&& (2147483647 : Int32)) % (22 : Int32))), .val (.ref wx), .unset] [(.ref w_EQ), (.ref wx)])) X73 hx rfl rfl rfl (pc0 := 198) (pc' := 208) (same := true) rfl (hb hby at_198) rfl (decide_eq_true (congrArg Value.ref ha198)) (by decide) (by decide) ?_
    show Steps p.tables e below (T73.setTop (mkF m 208 #[.val (.int p1), .val (.ref b2), .val (.int ((p1 &&& (2147483647 : Int32)) % (22 : Int32))), .val (.ref wx), .unset] [])) _
    refine XS.iconst X73.here hx rfl (hb hby at_208) ?_
    show Steps p.tables e below (T73.setTop (mkF m 209 #[.val (.int p1), .val (.ref b2), .val (.int ((p1 &&& (2147483647 : Int32)) % (22 : Int32))), .val (.ref wx), .unset] [(.int (1 : Int32))])) _
    refine XS.goto X73.here hx rfl (pc0 := 209) (pc' := 213) rfl (hb hby at_209) (by decide) (by decide) ?_
    show Steps p.tables e below (T73.setTop (mkF m 213 #[.val (.int p1), .val (.ref b2), .val (.int ((p1 &&& (2147483647 : Int32)) % (22 : Int32))), .val (.ref wx), .unset] [(.int (1 : Int32))])) _
    refine XS.istore X73.here hx rfl (hb hby at_213) rfl (l' := #[.val (.int p1), .val (.ref b2), .val (.int ((p1 &&& (2147483647 : Int32)) % (22 : Int32))), .val (.ref wx), .val (.int (1 : Int32))]) rfl ?_
    show Steps p.tables e below (T73.setTop (mkF m 215 #[.val (.int p1), .val (.ref b2), .val (.int ((p1 &&& (2147483647 : Int32)) % (22 : Int32))), .val (.ref wx), .val (.int (1 : Int32))] [])) _
    refine XS.aloadN X73.here hx rfl (hb hby at_215) rfl rfl ?_
    show Steps p.tables e below (T73.setTop (mkF m 216 #[.val (.int p1), .val (.ref b2), .val (.int ((p1 &&& (2147483647 : Int32)) % (22 : Int32))), .val (.ref wx), .val (.int (1 : Int32))] [(.ref wx)])) _
    refine st74.trans ?_
    show Steps p.tables e below (T74.setTop (mkF m 219 #[.val (.int p1), .val (.ref b2), .val (.int ((p1 &&& (2147483647 : Int32)) % (22 : Int32))), .val (.ref wx), .val (.int (1 : Int32))] [(.int (1 : Int32))])) _
    refine XS.iload X74.here hx rfl (hb hby at_219) rfl ?_
    show Steps p.tables e below (T74.setTop (mkF m 221 #[.val (.int p1), .val (.ref b2), .val (.int ((p1 &&& (2147483647 : Int32)) % (22 : Int32))), .val (.ref wx), .val (.int (1 : Int32))] [(.int (1 : Int32)), (.int (1 : Int32))])) _
    refine XS.icmpNo X74.here hx rfl (hb hby at_221) rfl (teq hk221).2 ?_
    show Steps p.tables e below (T74.setTop (mkF m 224 #[.val (.int p1), .val (.ref b2), .val (.int ((p1 &&& (2147483647 : Int32)) % (22 : Int32))), .val (.ref wx), .val (.int (1 : Int32))] [])) _
    refine XS.iconst X74.here hx rfl (hb hby at_224) ?_
    show Steps p.tables e below (T74.setTop (mkF m 225 #[.val (.int p1), .val (.ref b2), .val (.int ((p1 &&& (2147483647 : Int32)) % (22 : Int32))), .val (.ref wx), .val (.int (1 : Int32))] [(.int (1 : Int32))])) _
    refine XS.goto X74.here hx rfl (pc0 := 225) (pc' := 229) rfl (hb hby at_225) (by decide) (by decide) ?_
    show Steps p.tables e below (T74.setTop (mkF m 229 #[.val (.int p1), .val (.ref b2), .val (.int ((p1 &&& (2147483647 : Int32)) % (22 : Int32))), .val (.ref wx), .val (.int (1 : Int32))] [(.int (1 : Int32))])) _
    exact retN X74 hx (t := .boolean) Bd.returns (by simp) (hb hby at_229) hr
  · show Q0 Z p1 h0 n0 _ T74.heap _
    exact ⟨rfl, N74⟩
set_option maxRecDepth 65536 in
set_option maxHeartbeats 40000000 in
theorem rm0_NE (l : Launch) (Z : State) (a0 : Array Value) (hw : ∀ d ∈ tables_1, d.before a0 Z = true) (ws : List Jvm.Cond) (p1 : Int32) (w_NEG : Addr) (w_ABS : Addr) (w_ADD : Addr) (w_SUB : Addr) (w_MUL : Addr) (w_DIV : Addr) (w_MOD : Addr) (w_DIST : Addr) (w_MIN : Addr) (w_MAX : Addr) (w_LT : Addr) (w_LE : Addr) (w_GE : Addr) (w_GT : Addr) (w_EQ : Addr) (w_NE : Addr) (w_NOT : Addr) (w_AND : Addr) (w_OR : Addr) (w_XOR : Addr) (w_IFF : Addr) (w_IMP : Addr) (wx : Addr) (wk : Addr) (w_COMPARISON : Addr) (h0 : Heap) (n0 : Nat) (Z0 : n0 ≤ h0.size) (S_NEG : Sta Z h0 "com/example/failfirst/failfirst/Operator" "NEG" "Lcom/example/failfirst/failfirst/Operator;" (.ref w_NEG)) (E_NEG : Exa Z h0 w_NEG "com/example/failfirst/failfirst/Operator") (S_ABS : Sta Z h0 "com/example/failfirst/failfirst/Operator" "ABS" "Lcom/example/failfirst/failfirst/Operator;" (.ref w_ABS)) (E_ABS : Exa Z h0 w_ABS "com/example/failfirst/failfirst/Operator") (S_ADD : Sta Z h0 "com/example/failfirst/failfirst/Operator" "ADD" "Lcom/example/failfirst/failfirst/Operator;" (.ref w_ADD)) (E_ADD : Exa Z h0 w_ADD "com/example/failfirst/failfirst/Operator") (S_SUB : Sta Z h0 "com/example/failfirst/failfirst/Operator" "SUB" "Lcom/example/failfirst/failfirst/Operator;" (.ref w_SUB)) (E_SUB : Exa Z h0 w_SUB "com/example/failfirst/failfirst/Operator") (S_MUL : Sta Z h0 "com/example/failfirst/failfirst/Operator" "MUL" "Lcom/example/failfirst/failfirst/Operator;" (.ref w_MUL)) (E_MUL : Exa Z h0 w_MUL "com/example/failfirst/failfirst/Operator") (S_DIV : Sta Z h0 "com/example/failfirst/failfirst/Operator" "DIV" "Lcom/example/failfirst/failfirst/Operator;" (.ref w_DIV)) (E_DIV : Exa Z h0 w_DIV "com/example/failfirst/failfirst/Operator") (S_MOD : Sta Z h0 "com/example/failfirst/failfirst/Operator" "MOD" "Lcom/example/failfirst/failfirst/Operator;" (.ref w_MOD)) (E_MOD : Exa Z h0 w_MOD "com/example/failfirst/failfirst/Operator") (S_DIST : Sta Z h0 "com/example/failfirst/failfirst/Operator" "DIST" "Lcom/example/failfirst/failfirst/Operator;" (.ref w_DIST)) (E_DIST : Exa Z h0 w_DIST "com/example/failfirst/failfirst/Operator") (S_MIN : Sta Z h0 "com/example/failfirst/failfirst/Operator" "MIN" "Lcom/example/failfirst/failfirst/Operator;" (.ref w_MIN)) (E_MIN : Exa Z h0 w_MIN "com/example/failfirst/failfirst/Operator") (S_MAX : Sta Z h0 "com/example/failfirst/failfirst/Operator" "MAX" "Lcom/example/failfirst/failfirst/Operator;" (.ref w_MAX)) (E_MAX : Exa Z h0 w_MAX "com/example/failfirst/failfirst/Operator") (S_LT : Sta Z h0 "com/example/failfirst/failfirst/Operator" "LT" "Lcom/example/failfirst/failfirst/Operator;" (.ref w_LT)) (E_LT : Exa Z h0 w_LT "com/example/failfirst/failfirst/Operator") (S_LE : Sta Z h0 "com/example/failfirst/failfirst/Operator" "LE" "Lcom/example/failfirst/failfirst/Operator;" (.ref w_LE)) (E_LE : Exa Z h0 w_LE "com/example/failfirst/failfirst/Operator") (S_GE : Sta Z h0 "com/example/failfirst/failfirst/Operator" "GE" "Lcom/example/failfirst/failfirst/Operator;" (.ref w_GE)) (E_GE : Exa Z h0 w_GE "com/example/failfirst/failfirst/Operator") (S_GT : Sta Z h0 "com/example/failfirst/failfirst/Operator" "GT" "Lcom/example/failfirst/failfirst/Operator;" (.ref w_GT)) (E_GT : Exa Z h0 w_GT "com/example/failfirst/failfirst/Operator") (S_EQ : Sta Z h0 "com/example/failfirst/failfirst/Operator" "EQ" "Lcom/example/failfirst/failfirst/Operator;" (.ref w_EQ)) (E_EQ : Exa Z h0 w_EQ "com/example/failfirst/failfirst/Operator") (S_NE : Sta Z h0 "com/example/failfirst/failfirst/Operator" "NE" "Lcom/example/failfirst/failfirst/Operator;" (.ref w_NE)) (E_NE : Exa Z h0 w_NE "com/example/failfirst/failfirst/Operator") (S_NOT : Sta Z h0 "com/example/failfirst/failfirst/Operator" "NOT" "Lcom/example/failfirst/failfirst/Operator;" (.ref w_NOT)) (E_NOT : Exa Z h0 w_NOT "com/example/failfirst/failfirst/Operator") (S_AND : Sta Z h0 "com/example/failfirst/failfirst/Operator" "AND" "Lcom/example/failfirst/failfirst/Operator;" (.ref w_AND)) (E_AND : Exa Z h0 w_AND "com/example/failfirst/failfirst/Operator") (S_OR : Sta Z h0 "com/example/failfirst/failfirst/Operator" "OR" "Lcom/example/failfirst/failfirst/Operator;" (.ref w_OR)) (E_OR : Exa Z h0 w_OR "com/example/failfirst/failfirst/Operator") (S_XOR : Sta Z h0 "com/example/failfirst/failfirst/Operator" "XOR" "Lcom/example/failfirst/failfirst/Operator;" (.ref w_XOR)) (E_XOR : Exa Z h0 w_XOR "com/example/failfirst/failfirst/Operator") (S_IFF : Sta Z h0 "com/example/failfirst/failfirst/Operator" "IFF" "Lcom/example/failfirst/failfirst/Operator;" (.ref w_IFF)) (E_IFF : Exa Z h0 w_IFF "com/example/failfirst/failfirst/Operator") (S_IMP : Sta Z h0 "com/example/failfirst/failfirst/Operator" "IMP" "Lcom/example/failfirst/failfirst/Operator;" (.ref w_IMP)) (E_IMP : Exa Z h0 w_IMP "com/example/failfirst/failfirst/Operator") (S_COMPARISON : Sta Z h0 "com/example/failfirst/failfirst/Operator$Kind" "COMPARISON" "Lcom/example/failfirst/failfirst/Operator$Kind;" (.ref w_COMPARISON)) (F_kind : Fld Z h0 wx "com/example/failfirst/failfirst/Operator" "kind" "Lcom/example/failfirst/failfirst/Operator$Kind;" (.ref wk)) (E_wx : Exa Z h0 wx "com/example/failfirst/failfirst/Operator") (hj0 : ¬ ((p1 &&& (2147483647 : Int32)) % (22 : Int32)) < 0) (hj1 : ((p1 &&& (2147483647 : Int32)) % (22 : Int32)) < (22 : Int32)) (hlt : (((p1 &&& (2147483647 : Int32)) % (22 : Int32))).toNatClampNeg < (22 : Int32).toNatClampNeg) (hsel : ([.ref w_NEG, .ref w_ABS, .ref w_ADD, .ref w_SUB, .ref w_MUL, .ref w_DIV, .ref w_MOD, .ref w_DIST, .ref w_MIN, .ref w_MAX, .ref w_LT, .ref w_LE, .ref w_GE, .ref w_GT, .ref w_EQ, .ref w_NE, .ref w_NOT, .ref w_AND, .ref w_OR, .ref w_XOR, .ref w_IFF, .ref w_IMP] : List Value).getD (((p1 &&& (2147483647 : Int32)) % (22 : Int32))).toNatClampNeg .null = .ref wx) (hkd : wk = w_COMPARISON) (ha170 : ¬ (wx = w_LT)) (ha177 : ¬ (wx = w_LE)) (ha184 : ¬ (wx = w_GE)) (ha191 : ¬ (wx = w_GT)) (ha198 : ¬ (wx = w_EQ)) (ha205 : wx = w_NE) (hk221 : (1 : Int32) = (1 : Int32)) :
    MetFree l x (head1 (Jvm.Cond.code x code maxLocals ret :: ws) room_1) (fun a U => a = #[(.int p1)] ∧ Z.Warmed39 U.vm ∧ U.heap = h0) (fun _ _ _ _ _ => True) (fun _ U o U' => ∃ v L, o = .returned v ∧ Q0 Z p1 h0 n0 v U'.heap L ∧ FrameEnd U o U' L room_1.cells room_1.slots) := by
  refine MetFree.of_bodySF (plainFor_of_name pn_0) hisR ?_
  intro p e s m args below meth c s₁ Bd hml0 hP hK
  obtain ⟨rfl, hZ, hh⟩ := hP
  have hx := Bd.exec
  have hby := Bd.bytes
  have hml : c.maxLocals = 5 := hml0
  have hown : s.vm.findClass "com/example/failfirst/failfirst/OperatorChainsPinLaw" = some m.cls := findClass_of_methodNamed Bd.named
  have hnm := (name_of_methodNamed Bd.named Bd.method).1
  have X0 : Stand p l e room_1 s m #[(.int p1)] below meth c s₁ [] 0 0 := Stand.of_body Bd
  have e0 : s₁.heap = h0 := by rw [← hh, Bd.state]; rfl
  have N0 := Fr.nil n0
  have pre0 : ∀ t, Steps p.tables e below (s₁.setTop (mkF m 0 #[.val (.int p1), .unset, .unset, .unset, .unset] [])) t → Steps p.tables e below (s₁.setTop (entryFrame m #[(.int p1)] maxLocals)) t := fun t k => castTop (ef_0 m p1) k
  obtain ⟨T2, h2, k2, X2, e2, E2, A2, O2, st2⟩ := newR X0 hx hZ hown (hw _ (List.mem_of_getElem? (i := 0) rfl)) (hw _ (List.mem_of_getElem? (i := 1) rfl)) e0 (g := (mkF m 2 #[.val (.int p1), .unset, .unset, .unset, .unset] [(.int (22 : Int32))])) rfl (hb hby at_2) rfl (by decide) (cap := 22) (by decide) (by decide) (by decide) (by decide)
  obtain ⟨b2, g2⟩ : ∃ z, z = h0.size := ⟨_, rfl⟩
  rw [← g2] at A2 st2
  have V_b2 : Arv Z h2 b2 k2 (.object "com/example/failfirst/failfirst/Operator") (22 : Int32) [.null, .null, .null, .null, .null, .null, .null, .null, .null, .null, .null, .null, .null, .null, .null, .null, .null, .null, .null, .null, .null, .null] .null := (Arv.new A2 (by decide)).pad (pad_rep [] .null 22)
  have g_b2 : n0 ≤ b2 := Nat.le_trans Z0 (Nat.le_of_eq g2.symm)
  have sz_b2 : h0.size ≤ b2 := (Nat.le_trans (Keep.refl h0 []).1 (Nat.le_of_eq g2.symm))
  have K2 : Keep h0 h2 [] := (Keep.refl h0 []).ext E2
  obtain ⟨T4, X4, e4, st4⟩ := getS2 X2 hx hZ hown (host := "") (Or.inl (hw _ (List.mem_of_getElem? (i := 2) rfl))) Via.refl e2 (S_NEG.ext E2) (g := (mkF m 7 #[.val (.int p1), .unset, .unset, .unset, .unset] [(.int (0 : Int32)), (.ref b2), (.ref b2)])) rfl (hb hby at_7)
  obtain ⟨cl_b2_10, Ar_b2, q_b2, S_b2, N_b2, H_b2, G_b2⟩ := V_b2
  have hin10 : ¬ ((0 : Int32) < 0 ∨ cl_b2_10.slots.size ≤ ((0 : Int32)).toNatClampNeg) := inb_of S_b2 ⟨by decide, by decide⟩
  have Sto10 : Sto Z h2 b2 (.ref w_NEG) := Sto.ofV Ar_b2 q_b2 O2 (Ins.self (E_NEG.ext E2))
  obtain ⟨T5, h5, X5, e5, W5, st5⟩ := stR X4 hx hZ e4 Ar_b2 (j := (0 : Int32)) hin10 rfl Sto10 (g := (mkF m 10 #[.val (.int p1), .unset, .unset, .unset, .unset] [(.ref w_NEG), (.int (0 : Int32)), (.ref b2), (.ref b2)])) rfl rfl (hb hby at_10)
  have V_b2_5 : Arv Z h5 b2 k2 (.object "com/example/failfirst/failfirst/Operator") (22 : Int32) [(.ref w_NEG), .null, .null, .null, .null, .null, .null, .null, .null, .null, .null, .null, .null, .null, .null, .null, .null, .null, .null, .null, .null, .null] .null := Arv.set Ar_b2 q_b2 S_b2 N_b2 H_b2 G_b2 rfl W5 0 rfl (Nat.le_of_ble_eq_true rfl)
  have K5 : Keep h0 h5 [] := K2.wr W5 (Or.inr sz_b2)
  have N5 := Fr.snoc X5 N0 g_b2
  obtain ⟨T7, X7, e7, st7⟩ := getS2 X5 hx hZ hown (host := "") (Or.inl (hw _ (List.mem_of_getElem? (i := 6) rfl))) Via.refl e5 ((S_ABS.ext E2).wr W5) (g := (mkF m 13 #[.val (.int p1), .unset, .unset, .unset, .unset] [(.int (1 : Int32)), (.ref b2), (.ref b2)])) rfl (hb hby at_13)
  obtain ⟨cl_b2_16, Ar_b2, q_b2, S_b2, N_b2, H_b2, G_b2⟩ := V_b2_5
  have hin16 : ¬ ((1 : Int32) < 0 ∨ cl_b2_16.slots.size ≤ ((1 : Int32)).toNatClampNeg) := inb_of S_b2 ⟨by decide, by decide⟩
  have Sto16 : Sto Z h5 b2 (.ref w_ABS) := Sto.ofV Ar_b2 q_b2 O2 (Ins.self ((E_ABS.ext E2).wr W5))
  obtain ⟨T8, h8, X8, e8, W8, st8⟩ := stR X7 hx hZ e7 Ar_b2 (j := (1 : Int32)) hin16 rfl Sto16 (g := (mkF m 16 #[.val (.int p1), .unset, .unset, .unset, .unset] [(.ref w_ABS), (.int (1 : Int32)), (.ref b2), (.ref b2)])) rfl rfl (hb hby at_16)
  have V_b2_8 : Arv Z h8 b2 k2 (.object "com/example/failfirst/failfirst/Operator") (22 : Int32) [(.ref w_NEG), (.ref w_ABS), .null, .null, .null, .null, .null, .null, .null, .null, .null, .null, .null, .null, .null, .null, .null, .null, .null, .null, .null, .null] .null := Arv.set Ar_b2 q_b2 S_b2 N_b2 H_b2 G_b2 rfl W8 1 rfl (Nat.le_of_ble_eq_true rfl)
  have K8 : Keep h0 h8 [] := K5.wr W8 (Or.inr sz_b2)
  have N8 := Fr.snoc X8 N5 g_b2
  obtain ⟨T10, X10, e10, st10⟩ := getS2 X8 hx hZ hown (host := "") (Or.inl (hw _ (List.mem_of_getElem? (i := 8) rfl))) Via.refl e8 (((S_ADD.ext E2).wr W5).wr W8) (g := (mkF m 19 #[.val (.int p1), .unset, .unset, .unset, .unset] [(.int (2 : Int32)), (.ref b2), (.ref b2)])) rfl (hb hby at_19)
  obtain ⟨cl_b2_22, Ar_b2, q_b2, S_b2, N_b2, H_b2, G_b2⟩ := V_b2_8
  have hin22 : ¬ ((2 : Int32) < 0 ∨ cl_b2_22.slots.size ≤ ((2 : Int32)).toNatClampNeg) := inb_of S_b2 ⟨by decide, by decide⟩
  have Sto22 : Sto Z h8 b2 (.ref w_ADD) := Sto.ofV Ar_b2 q_b2 O2 (Ins.self (((E_ADD.ext E2).wr W5).wr W8))
  obtain ⟨T11, h11, X11, e11, W11, st11⟩ := stR X10 hx hZ e10 Ar_b2 (j := (2 : Int32)) hin22 rfl Sto22 (g := (mkF m 22 #[.val (.int p1), .unset, .unset, .unset, .unset] [(.ref w_ADD), (.int (2 : Int32)), (.ref b2), (.ref b2)])) rfl rfl (hb hby at_22)
  have V_b2_11 : Arv Z h11 b2 k2 (.object "com/example/failfirst/failfirst/Operator") (22 : Int32) [(.ref w_NEG), (.ref w_ABS), (.ref w_ADD), .null, .null, .null, .null, .null, .null, .null, .null, .null, .null, .null, .null, .null, .null, .null, .null, .null, .null, .null] .null := Arv.set Ar_b2 q_b2 S_b2 N_b2 H_b2 G_b2 rfl W11 2 rfl (Nat.le_of_ble_eq_true rfl)
  have K11 : Keep h0 h11 [] := K8.wr W11 (Or.inr sz_b2)
  have N11 := Fr.snoc X11 N8 g_b2
  obtain ⟨T13, X13, e13, st13⟩ := getS2 X11 hx hZ hown (host := "") (Or.inl (hw _ (List.mem_of_getElem? (i := 10) rfl))) Via.refl e11 ((((S_SUB.ext E2).wr W5).wr W8).wr W11) (g := (mkF m 25 #[.val (.int p1), .unset, .unset, .unset, .unset] [(.int (3 : Int32)), (.ref b2), (.ref b2)])) rfl (hb hby at_25)
  obtain ⟨cl_b2_28, Ar_b2, q_b2, S_b2, N_b2, H_b2, G_b2⟩ := V_b2_11
  have hin28 : ¬ ((3 : Int32) < 0 ∨ cl_b2_28.slots.size ≤ ((3 : Int32)).toNatClampNeg) := inb_of S_b2 ⟨by decide, by decide⟩
  have Sto28 : Sto Z h11 b2 (.ref w_SUB) := Sto.ofV Ar_b2 q_b2 O2 (Ins.self ((((E_SUB.ext E2).wr W5).wr W8).wr W11))
  obtain ⟨T14, h14, X14, e14, W14, st14⟩ := stR X13 hx hZ e13 Ar_b2 (j := (3 : Int32)) hin28 rfl Sto28 (g := (mkF m 28 #[.val (.int p1), .unset, .unset, .unset, .unset] [(.ref w_SUB), (.int (3 : Int32)), (.ref b2), (.ref b2)])) rfl rfl (hb hby at_28)
  have V_b2_14 : Arv Z h14 b2 k2 (.object "com/example/failfirst/failfirst/Operator") (22 : Int32) [(.ref w_NEG), (.ref w_ABS), (.ref w_ADD), (.ref w_SUB), .null, .null, .null, .null, .null, .null, .null, .null, .null, .null, .null, .null, .null, .null, .null, .null, .null, .null] .null := Arv.set Ar_b2 q_b2 S_b2 N_b2 H_b2 G_b2 rfl W14 3 rfl (Nat.le_of_ble_eq_true rfl)
  have K14 : Keep h0 h14 [] := K11.wr W14 (Or.inr sz_b2)
  have N14 := Fr.snoc X14 N11 g_b2
  obtain ⟨T16, X16, e16, st16⟩ := getS2 X14 hx hZ hown (host := "") (Or.inl (hw _ (List.mem_of_getElem? (i := 12) rfl))) Via.refl e14 (((((S_MUL.ext E2).wr W5).wr W8).wr W11).wr W14) (g := (mkF m 31 #[.val (.int p1), .unset, .unset, .unset, .unset] [(.int (4 : Int32)), (.ref b2), (.ref b2)])) rfl (hb hby at_31)
  obtain ⟨cl_b2_34, Ar_b2, q_b2, S_b2, N_b2, H_b2, G_b2⟩ := V_b2_14
  have hin34 : ¬ ((4 : Int32) < 0 ∨ cl_b2_34.slots.size ≤ ((4 : Int32)).toNatClampNeg) := inb_of S_b2 ⟨by decide, by decide⟩
  have Sto34 : Sto Z h14 b2 (.ref w_MUL) := Sto.ofV Ar_b2 q_b2 O2 (Ins.self (((((E_MUL.ext E2).wr W5).wr W8).wr W11).wr W14))
  obtain ⟨T17, h17, X17, e17, W17, st17⟩ := stR X16 hx hZ e16 Ar_b2 (j := (4 : Int32)) hin34 rfl Sto34 (g := (mkF m 34 #[.val (.int p1), .unset, .unset, .unset, .unset] [(.ref w_MUL), (.int (4 : Int32)), (.ref b2), (.ref b2)])) rfl rfl (hb hby at_34)
  have V_b2_17 : Arv Z h17 b2 k2 (.object "com/example/failfirst/failfirst/Operator") (22 : Int32) [(.ref w_NEG), (.ref w_ABS), (.ref w_ADD), (.ref w_SUB), (.ref w_MUL), .null, .null, .null, .null, .null, .null, .null, .null, .null, .null, .null, .null, .null, .null, .null, .null, .null] .null := Arv.set Ar_b2 q_b2 S_b2 N_b2 H_b2 G_b2 rfl W17 4 rfl (Nat.le_of_ble_eq_true rfl)
  have K17 : Keep h0 h17 [] := K14.wr W17 (Or.inr sz_b2)
  have N17 := Fr.snoc X17 N14 g_b2
  obtain ⟨T19, X19, e19, st19⟩ := getS2 X17 hx hZ hown (host := "") (Or.inl (hw _ (List.mem_of_getElem? (i := 14) rfl))) Via.refl e17 ((((((S_DIV.ext E2).wr W5).wr W8).wr W11).wr W14).wr W17) (g := (mkF m 37 #[.val (.int p1), .unset, .unset, .unset, .unset] [(.int (5 : Int32)), (.ref b2), (.ref b2)])) rfl (hb hby at_37)
  obtain ⟨cl_b2_40, Ar_b2, q_b2, S_b2, N_b2, H_b2, G_b2⟩ := V_b2_17
  have hin40 : ¬ ((5 : Int32) < 0 ∨ cl_b2_40.slots.size ≤ ((5 : Int32)).toNatClampNeg) := inb_of S_b2 ⟨by decide, by decide⟩
  have Sto40 : Sto Z h17 b2 (.ref w_DIV) := Sto.ofV Ar_b2 q_b2 O2 (Ins.self ((((((E_DIV.ext E2).wr W5).wr W8).wr W11).wr W14).wr W17))
  obtain ⟨T20, h20, X20, e20, W20, st20⟩ := stR X19 hx hZ e19 Ar_b2 (j := (5 : Int32)) hin40 rfl Sto40 (g := (mkF m 40 #[.val (.int p1), .unset, .unset, .unset, .unset] [(.ref w_DIV), (.int (5 : Int32)), (.ref b2), (.ref b2)])) rfl rfl (hb hby at_40)
  have V_b2_20 : Arv Z h20 b2 k2 (.object "com/example/failfirst/failfirst/Operator") (22 : Int32) [(.ref w_NEG), (.ref w_ABS), (.ref w_ADD), (.ref w_SUB), (.ref w_MUL), (.ref w_DIV), .null, .null, .null, .null, .null, .null, .null, .null, .null, .null, .null, .null, .null, .null, .null, .null] .null := Arv.set Ar_b2 q_b2 S_b2 N_b2 H_b2 G_b2 rfl W20 5 rfl (Nat.le_of_ble_eq_true rfl)
  have K20 : Keep h0 h20 [] := K17.wr W20 (Or.inr sz_b2)
  have N20 := Fr.snoc X20 N17 g_b2
  obtain ⟨T22, X22, e22, st22⟩ := getS2 X20 hx hZ hown (host := "") (Or.inl (hw _ (List.mem_of_getElem? (i := 16) rfl))) Via.refl e20 (((((((S_MOD.ext E2).wr W5).wr W8).wr W11).wr W14).wr W17).wr W20) (g := (mkF m 44 #[.val (.int p1), .unset, .unset, .unset, .unset] [(.int (6 : Int32)), (.ref b2), (.ref b2)])) rfl (hb hby at_44)
  obtain ⟨cl_b2_47, Ar_b2, q_b2, S_b2, N_b2, H_b2, G_b2⟩ := V_b2_20
  have hin47 : ¬ ((6 : Int32) < 0 ∨ cl_b2_47.slots.size ≤ ((6 : Int32)).toNatClampNeg) := inb_of S_b2 ⟨by decide, by decide⟩
  have Sto47 : Sto Z h20 b2 (.ref w_MOD) := Sto.ofV Ar_b2 q_b2 O2 (Ins.self (((((((E_MOD.ext E2).wr W5).wr W8).wr W11).wr W14).wr W17).wr W20))
  obtain ⟨T23, h23, X23, e23, W23, st23⟩ := stR X22 hx hZ e22 Ar_b2 (j := (6 : Int32)) hin47 rfl Sto47 (g := (mkF m 47 #[.val (.int p1), .unset, .unset, .unset, .unset] [(.ref w_MOD), (.int (6 : Int32)), (.ref b2), (.ref b2)])) rfl rfl (hb hby at_47)
  have V_b2_23 : Arv Z h23 b2 k2 (.object "com/example/failfirst/failfirst/Operator") (22 : Int32) [(.ref w_NEG), (.ref w_ABS), (.ref w_ADD), (.ref w_SUB), (.ref w_MUL), (.ref w_DIV), (.ref w_MOD), .null, .null, .null, .null, .null, .null, .null, .null, .null, .null, .null, .null, .null, .null, .null] .null := Arv.set Ar_b2 q_b2 S_b2 N_b2 H_b2 G_b2 rfl W23 6 rfl (Nat.le_of_ble_eq_true rfl)
  have K23 : Keep h0 h23 [] := K20.wr W23 (Or.inr sz_b2)
  have N23 := Fr.snoc X23 N20 g_b2
  obtain ⟨T25, X25, e25, st25⟩ := getS2 X23 hx hZ hown (host := "") (Or.inl (hw _ (List.mem_of_getElem? (i := 18) rfl))) Via.refl e23 ((((((((S_DIST.ext E2).wr W5).wr W8).wr W11).wr W14).wr W17).wr W20).wr W23) (g := (mkF m 51 #[.val (.int p1), .unset, .unset, .unset, .unset] [(.int (7 : Int32)), (.ref b2), (.ref b2)])) rfl (hb hby at_51)
  obtain ⟨cl_b2_54, Ar_b2, q_b2, S_b2, N_b2, H_b2, G_b2⟩ := V_b2_23
  have hin54 : ¬ ((7 : Int32) < 0 ∨ cl_b2_54.slots.size ≤ ((7 : Int32)).toNatClampNeg) := inb_of S_b2 ⟨by decide, by decide⟩
  have Sto54 : Sto Z h23 b2 (.ref w_DIST) := Sto.ofV Ar_b2 q_b2 O2 (Ins.self ((((((((E_DIST.ext E2).wr W5).wr W8).wr W11).wr W14).wr W17).wr W20).wr W23))
  obtain ⟨T26, h26, X26, e26, W26, st26⟩ := stR X25 hx hZ e25 Ar_b2 (j := (7 : Int32)) hin54 rfl Sto54 (g := (mkF m 54 #[.val (.int p1), .unset, .unset, .unset, .unset] [(.ref w_DIST), (.int (7 : Int32)), (.ref b2), (.ref b2)])) rfl rfl (hb hby at_54)
  have V_b2_26 : Arv Z h26 b2 k2 (.object "com/example/failfirst/failfirst/Operator") (22 : Int32) [(.ref w_NEG), (.ref w_ABS), (.ref w_ADD), (.ref w_SUB), (.ref w_MUL), (.ref w_DIV), (.ref w_MOD), (.ref w_DIST), .null, .null, .null, .null, .null, .null, .null, .null, .null, .null, .null, .null, .null, .null] .null := Arv.set Ar_b2 q_b2 S_b2 N_b2 H_b2 G_b2 rfl W26 7 rfl (Nat.le_of_ble_eq_true rfl)
  have K26 : Keep h0 h26 [] := K23.wr W26 (Or.inr sz_b2)
  have N26 := Fr.snoc X26 N23 g_b2
  obtain ⟨T28, X28, e28, st28⟩ := getS2 X26 hx hZ hown (host := "") (Or.inl (hw _ (List.mem_of_getElem? (i := 20) rfl))) Via.refl e26 (((((((((S_MIN.ext E2).wr W5).wr W8).wr W11).wr W14).wr W17).wr W20).wr W23).wr W26) (g := (mkF m 58 #[.val (.int p1), .unset, .unset, .unset, .unset] [(.int (8 : Int32)), (.ref b2), (.ref b2)])) rfl (hb hby at_58)
  obtain ⟨cl_b2_61, Ar_b2, q_b2, S_b2, N_b2, H_b2, G_b2⟩ := V_b2_26
  have hin61 : ¬ ((8 : Int32) < 0 ∨ cl_b2_61.slots.size ≤ ((8 : Int32)).toNatClampNeg) := inb_of S_b2 ⟨by decide, by decide⟩
  have Sto61 : Sto Z h26 b2 (.ref w_MIN) := Sto.ofV Ar_b2 q_b2 O2 (Ins.self (((((((((E_MIN.ext E2).wr W5).wr W8).wr W11).wr W14).wr W17).wr W20).wr W23).wr W26))
  obtain ⟨T29, h29, X29, e29, W29, st29⟩ := stR X28 hx hZ e28 Ar_b2 (j := (8 : Int32)) hin61 rfl Sto61 (g := (mkF m 61 #[.val (.int p1), .unset, .unset, .unset, .unset] [(.ref w_MIN), (.int (8 : Int32)), (.ref b2), (.ref b2)])) rfl rfl (hb hby at_61)
  have V_b2_29 : Arv Z h29 b2 k2 (.object "com/example/failfirst/failfirst/Operator") (22 : Int32) [(.ref w_NEG), (.ref w_ABS), (.ref w_ADD), (.ref w_SUB), (.ref w_MUL), (.ref w_DIV), (.ref w_MOD), (.ref w_DIST), (.ref w_MIN), .null, .null, .null, .null, .null, .null, .null, .null, .null, .null, .null, .null, .null] .null := Arv.set Ar_b2 q_b2 S_b2 N_b2 H_b2 G_b2 rfl W29 8 rfl (Nat.le_of_ble_eq_true rfl)
  have K29 : Keep h0 h29 [] := K26.wr W29 (Or.inr sz_b2)
  have N29 := Fr.snoc X29 N26 g_b2
  obtain ⟨T31, X31, e31, st31⟩ := getS2 X29 hx hZ hown (host := "") (Or.inl (hw _ (List.mem_of_getElem? (i := 22) rfl))) Via.refl e29 ((((((((((S_MAX.ext E2).wr W5).wr W8).wr W11).wr W14).wr W17).wr W20).wr W23).wr W26).wr W29) (g := (mkF m 65 #[.val (.int p1), .unset, .unset, .unset, .unset] [(.int (9 : Int32)), (.ref b2), (.ref b2)])) rfl (hb hby at_65)
  obtain ⟨cl_b2_68, Ar_b2, q_b2, S_b2, N_b2, H_b2, G_b2⟩ := V_b2_29
  have hin68 : ¬ ((9 : Int32) < 0 ∨ cl_b2_68.slots.size ≤ ((9 : Int32)).toNatClampNeg) := inb_of S_b2 ⟨by decide, by decide⟩
  have Sto68 : Sto Z h29 b2 (.ref w_MAX) := Sto.ofV Ar_b2 q_b2 O2 (Ins.self ((((((((((E_MAX.ext E2).wr W5).wr W8).wr W11).wr W14).wr W17).wr W20).wr W23).wr W26).wr W29))
  obtain ⟨T32, h32, X32, e32, W32, st32⟩ := stR X31 hx hZ e31 Ar_b2 (j := (9 : Int32)) hin68 rfl Sto68 (g := (mkF m 68 #[.val (.int p1), .unset, .unset, .unset, .unset] [(.ref w_MAX), (.int (9 : Int32)), (.ref b2), (.ref b2)])) rfl rfl (hb hby at_68)
  have V_b2_32 : Arv Z h32 b2 k2 (.object "com/example/failfirst/failfirst/Operator") (22 : Int32) [(.ref w_NEG), (.ref w_ABS), (.ref w_ADD), (.ref w_SUB), (.ref w_MUL), (.ref w_DIV), (.ref w_MOD), (.ref w_DIST), (.ref w_MIN), (.ref w_MAX), .null, .null, .null, .null, .null, .null, .null, .null, .null, .null, .null, .null] .null := Arv.set Ar_b2 q_b2 S_b2 N_b2 H_b2 G_b2 rfl W32 9 rfl (Nat.le_of_ble_eq_true rfl)
  have K32 : Keep h0 h32 [] := K29.wr W32 (Or.inr sz_b2)
  have N32 := Fr.snoc X32 N29 g_b2
  obtain ⟨T34, X34, e34, st34⟩ := getS2 X32 hx hZ hown (host := "") (Or.inl (hw _ (List.mem_of_getElem? (i := 24) rfl))) Via.refl e32 (((((((((((S_LT.ext E2).wr W5).wr W8).wr W11).wr W14).wr W17).wr W20).wr W23).wr W26).wr W29).wr W32) (g := (mkF m 72 #[.val (.int p1), .unset, .unset, .unset, .unset] [(.int (10 : Int32)), (.ref b2), (.ref b2)])) rfl (hb hby at_72)
  obtain ⟨cl_b2_75, Ar_b2, q_b2, S_b2, N_b2, H_b2, G_b2⟩ := V_b2_32
  have hin75 : ¬ ((10 : Int32) < 0 ∨ cl_b2_75.slots.size ≤ ((10 : Int32)).toNatClampNeg) := inb_of S_b2 ⟨by decide, by decide⟩
  have Sto75 : Sto Z h32 b2 (.ref w_LT) := Sto.ofV Ar_b2 q_b2 O2 (Ins.self (((((((((((E_LT.ext E2).wr W5).wr W8).wr W11).wr W14).wr W17).wr W20).wr W23).wr W26).wr W29).wr W32))
  obtain ⟨T35, h35, X35, e35, W35, st35⟩ := stR X34 hx hZ e34 Ar_b2 (j := (10 : Int32)) hin75 rfl Sto75 (g := (mkF m 75 #[.val (.int p1), .unset, .unset, .unset, .unset] [(.ref w_LT), (.int (10 : Int32)), (.ref b2), (.ref b2)])) rfl rfl (hb hby at_75)
  have V_b2_35 : Arv Z h35 b2 k2 (.object "com/example/failfirst/failfirst/Operator") (22 : Int32) [(.ref w_NEG), (.ref w_ABS), (.ref w_ADD), (.ref w_SUB), (.ref w_MUL), (.ref w_DIV), (.ref w_MOD), (.ref w_DIST), (.ref w_MIN), (.ref w_MAX), (.ref w_LT), .null, .null, .null, .null, .null, .null, .null, .null, .null, .null, .null] .null := Arv.set Ar_b2 q_b2 S_b2 N_b2 H_b2 G_b2 rfl W35 10 rfl (Nat.le_of_ble_eq_true rfl)
  have K35 : Keep h0 h35 [] := K32.wr W35 (Or.inr sz_b2)
  have N35 := Fr.snoc X35 N32 g_b2
  obtain ⟨T37, X37, e37, st37⟩ := getS2 X35 hx hZ hown (host := "") (Or.inl (hw _ (List.mem_of_getElem? (i := 26) rfl))) Via.refl e35 ((((((((((((S_LE.ext E2).wr W5).wr W8).wr W11).wr W14).wr W17).wr W20).wr W23).wr W26).wr W29).wr W32).wr W35) (g := (mkF m 79 #[.val (.int p1), .unset, .unset, .unset, .unset] [(.int (11 : Int32)), (.ref b2), (.ref b2)])) rfl (hb hby at_79)
  obtain ⟨cl_b2_82, Ar_b2, q_b2, S_b2, N_b2, H_b2, G_b2⟩ := V_b2_35
  have hin82 : ¬ ((11 : Int32) < 0 ∨ cl_b2_82.slots.size ≤ ((11 : Int32)).toNatClampNeg) := inb_of S_b2 ⟨by decide, by decide⟩
  have Sto82 : Sto Z h35 b2 (.ref w_LE) := Sto.ofV Ar_b2 q_b2 O2 (Ins.self ((((((((((((E_LE.ext E2).wr W5).wr W8).wr W11).wr W14).wr W17).wr W20).wr W23).wr W26).wr W29).wr W32).wr W35))
  obtain ⟨T38, h38, X38, e38, W38, st38⟩ := stR X37 hx hZ e37 Ar_b2 (j := (11 : Int32)) hin82 rfl Sto82 (g := (mkF m 82 #[.val (.int p1), .unset, .unset, .unset, .unset] [(.ref w_LE), (.int (11 : Int32)), (.ref b2), (.ref b2)])) rfl rfl (hb hby at_82)
  have V_b2_38 : Arv Z h38 b2 k2 (.object "com/example/failfirst/failfirst/Operator") (22 : Int32) [(.ref w_NEG), (.ref w_ABS), (.ref w_ADD), (.ref w_SUB), (.ref w_MUL), (.ref w_DIV), (.ref w_MOD), (.ref w_DIST), (.ref w_MIN), (.ref w_MAX), (.ref w_LT), (.ref w_LE), .null, .null, .null, .null, .null, .null, .null, .null, .null, .null] .null := Arv.set Ar_b2 q_b2 S_b2 N_b2 H_b2 G_b2 rfl W38 11 rfl (Nat.le_of_ble_eq_true rfl)
  have K38 : Keep h0 h38 [] := K35.wr W38 (Or.inr sz_b2)
  have N38 := Fr.snoc X38 N35 g_b2
  obtain ⟨T40, X40, e40, st40⟩ := getS2 X38 hx hZ hown (host := "") (Or.inl (hw _ (List.mem_of_getElem? (i := 28) rfl))) Via.refl e38 (((((((((((((S_GE.ext E2).wr W5).wr W8).wr W11).wr W14).wr W17).wr W20).wr W23).wr W26).wr W29).wr W32).wr W35).wr W38) (g := (mkF m 86 #[.val (.int p1), .unset, .unset, .unset, .unset] [(.int (12 : Int32)), (.ref b2), (.ref b2)])) rfl (hb hby at_86)
  obtain ⟨cl_b2_89, Ar_b2, q_b2, S_b2, N_b2, H_b2, G_b2⟩ := V_b2_38
  have hin89 : ¬ ((12 : Int32) < 0 ∨ cl_b2_89.slots.size ≤ ((12 : Int32)).toNatClampNeg) := inb_of S_b2 ⟨by decide, by decide⟩
  have Sto89 : Sto Z h38 b2 (.ref w_GE) := Sto.ofV Ar_b2 q_b2 O2 (Ins.self (((((((((((((E_GE.ext E2).wr W5).wr W8).wr W11).wr W14).wr W17).wr W20).wr W23).wr W26).wr W29).wr W32).wr W35).wr W38))
  obtain ⟨T41, h41, X41, e41, W41, st41⟩ := stR X40 hx hZ e40 Ar_b2 (j := (12 : Int32)) hin89 rfl Sto89 (g := (mkF m 89 #[.val (.int p1), .unset, .unset, .unset, .unset] [(.ref w_GE), (.int (12 : Int32)), (.ref b2), (.ref b2)])) rfl rfl (hb hby at_89)
  have V_b2_41 : Arv Z h41 b2 k2 (.object "com/example/failfirst/failfirst/Operator") (22 : Int32) [(.ref w_NEG), (.ref w_ABS), (.ref w_ADD), (.ref w_SUB), (.ref w_MUL), (.ref w_DIV), (.ref w_MOD), (.ref w_DIST), (.ref w_MIN), (.ref w_MAX), (.ref w_LT), (.ref w_LE), (.ref w_GE), .null, .null, .null, .null, .null, .null, .null, .null, .null] .null := Arv.set Ar_b2 q_b2 S_b2 N_b2 H_b2 G_b2 rfl W41 12 rfl (Nat.le_of_ble_eq_true rfl)
  have K41 : Keep h0 h41 [] := K38.wr W41 (Or.inr sz_b2)
  have N41 := Fr.snoc X41 N38 g_b2
  obtain ⟨T43, X43, e43, st43⟩ := getS2 X41 hx hZ hown (host := "") (Or.inl (hw _ (List.mem_of_getElem? (i := 30) rfl))) Via.refl e41 ((((((((((((((S_GT.ext E2).wr W5).wr W8).wr W11).wr W14).wr W17).wr W20).wr W23).wr W26).wr W29).wr W32).wr W35).wr W38).wr W41) (g := (mkF m 93 #[.val (.int p1), .unset, .unset, .unset, .unset] [(.int (13 : Int32)), (.ref b2), (.ref b2)])) rfl (hb hby at_93)
  obtain ⟨cl_b2_96, Ar_b2, q_b2, S_b2, N_b2, H_b2, G_b2⟩ := V_b2_41
  have hin96 : ¬ ((13 : Int32) < 0 ∨ cl_b2_96.slots.size ≤ ((13 : Int32)).toNatClampNeg) := inb_of S_b2 ⟨by decide, by decide⟩
  have Sto96 : Sto Z h41 b2 (.ref w_GT) := Sto.ofV Ar_b2 q_b2 O2 (Ins.self ((((((((((((((E_GT.ext E2).wr W5).wr W8).wr W11).wr W14).wr W17).wr W20).wr W23).wr W26).wr W29).wr W32).wr W35).wr W38).wr W41))
  obtain ⟨T44, h44, X44, e44, W44, st44⟩ := stR X43 hx hZ e43 Ar_b2 (j := (13 : Int32)) hin96 rfl Sto96 (g := (mkF m 96 #[.val (.int p1), .unset, .unset, .unset, .unset] [(.ref w_GT), (.int (13 : Int32)), (.ref b2), (.ref b2)])) rfl rfl (hb hby at_96)
  have V_b2_44 : Arv Z h44 b2 k2 (.object "com/example/failfirst/failfirst/Operator") (22 : Int32) [(.ref w_NEG), (.ref w_ABS), (.ref w_ADD), (.ref w_SUB), (.ref w_MUL), (.ref w_DIV), (.ref w_MOD), (.ref w_DIST), (.ref w_MIN), (.ref w_MAX), (.ref w_LT), (.ref w_LE), (.ref w_GE), (.ref w_GT), .null, .null, .null, .null, .null, .null, .null, .null] .null := Arv.set Ar_b2 q_b2 S_b2 N_b2 H_b2 G_b2 rfl W44 13 rfl (Nat.le_of_ble_eq_true rfl)
  have K44 : Keep h0 h44 [] := K41.wr W44 (Or.inr sz_b2)
  have N44 := Fr.snoc X44 N41 g_b2
  obtain ⟨T46, X46, e46, st46⟩ := getS2 X44 hx hZ hown (host := "") (Or.inl (hw _ (List.mem_of_getElem? (i := 32) rfl))) Via.refl e44 (((((((((((((((S_EQ.ext E2).wr W5).wr W8).wr W11).wr W14).wr W17).wr W20).wr W23).wr W26).wr W29).wr W32).wr W35).wr W38).wr W41).wr W44) (g := (mkF m 100 #[.val (.int p1), .unset, .unset, .unset, .unset] [(.int (14 : Int32)), (.ref b2), (.ref b2)])) rfl (hb hby at_100)
  obtain ⟨cl_b2_103, Ar_b2, q_b2, S_b2, N_b2, H_b2, G_b2⟩ := V_b2_44
  have hin103 : ¬ ((14 : Int32) < 0 ∨ cl_b2_103.slots.size ≤ ((14 : Int32)).toNatClampNeg) := inb_of S_b2 ⟨by decide, by decide⟩
  have Sto103 : Sto Z h44 b2 (.ref w_EQ) := Sto.ofV Ar_b2 q_b2 O2 (Ins.self (((((((((((((((E_EQ.ext E2).wr W5).wr W8).wr W11).wr W14).wr W17).wr W20).wr W23).wr W26).wr W29).wr W32).wr W35).wr W38).wr W41).wr W44))
  obtain ⟨T47, h47, X47, e47, W47, st47⟩ := stR X46 hx hZ e46 Ar_b2 (j := (14 : Int32)) hin103 rfl Sto103 (g := (mkF m 103 #[.val (.int p1), .unset, .unset, .unset, .unset] [(.ref w_EQ), (.int (14 : Int32)), (.ref b2), (.ref b2)])) rfl rfl (hb hby at_103)
  have V_b2_47 : Arv Z h47 b2 k2 (.object "com/example/failfirst/failfirst/Operator") (22 : Int32) [(.ref w_NEG), (.ref w_ABS), (.ref w_ADD), (.ref w_SUB), (.ref w_MUL), (.ref w_DIV), (.ref w_MOD), (.ref w_DIST), (.ref w_MIN), (.ref w_MAX), (.ref w_LT), (.ref w_LE), (.ref w_GE), (.ref w_GT), (.ref w_EQ), .null, .null, .null, .null, .null, .null, .null] .null := Arv.set Ar_b2 q_b2 S_b2 N_b2 H_b2 G_b2 rfl W47 14 rfl (Nat.le_of_ble_eq_true rfl)
  have K47 : Keep h0 h47 [] := K44.wr W47 (Or.inr sz_b2)
  have N47 := Fr.snoc X47 N44 g_b2
  obtain ⟨T49, X49, e49, st49⟩ := getS2 X47 hx hZ hown (host := "") (Or.inl (hw _ (List.mem_of_getElem? (i := 34) rfl))) Via.refl e47 ((((((((((((((((S_NE.ext E2).wr W5).wr W8).wr W11).wr W14).wr W17).wr W20).wr W23).wr W26).wr W29).wr W32).wr W35).wr W38).wr W41).wr W44).wr W47) (g := (mkF m 107 #[.val (.int p1), .unset, .unset, .unset, .unset] [(.int (15 : Int32)), (.ref b2), (.ref b2)])) rfl (hb hby at_107)
  obtain ⟨cl_b2_110, Ar_b2, q_b2, S_b2, N_b2, H_b2, G_b2⟩ := V_b2_47
  have hin110 : ¬ ((15 : Int32) < 0 ∨ cl_b2_110.slots.size ≤ ((15 : Int32)).toNatClampNeg) := inb_of S_b2 ⟨by decide, by decide⟩
  have Sto110 : Sto Z h47 b2 (.ref w_NE) := Sto.ofV Ar_b2 q_b2 O2 (Ins.self ((((((((((((((((E_NE.ext E2).wr W5).wr W8).wr W11).wr W14).wr W17).wr W20).wr W23).wr W26).wr W29).wr W32).wr W35).wr W38).wr W41).wr W44).wr W47))
  obtain ⟨T50, h50, X50, e50, W50, st50⟩ := stR X49 hx hZ e49 Ar_b2 (j := (15 : Int32)) hin110 rfl Sto110 (g := (mkF m 110 #[.val (.int p1), .unset, .unset, .unset, .unset] [(.ref w_NE), (.int (15 : Int32)), (.ref b2), (.ref b2)])) rfl rfl (hb hby at_110)
  have V_b2_50 : Arv Z h50 b2 k2 (.object "com/example/failfirst/failfirst/Operator") (22 : Int32) [(.ref w_NEG), (.ref w_ABS), (.ref w_ADD), (.ref w_SUB), (.ref w_MUL), (.ref w_DIV), (.ref w_MOD), (.ref w_DIST), (.ref w_MIN), (.ref w_MAX), (.ref w_LT), (.ref w_LE), (.ref w_GE), (.ref w_GT), (.ref w_EQ), (.ref w_NE), .null, .null, .null, .null, .null, .null] .null := Arv.set Ar_b2 q_b2 S_b2 N_b2 H_b2 G_b2 rfl W50 15 rfl (Nat.le_of_ble_eq_true rfl)
  have K50 : Keep h0 h50 [] := K47.wr W50 (Or.inr sz_b2)
  have N50 := Fr.snoc X50 N47 g_b2
  obtain ⟨T52, X52, e52, st52⟩ := getS2 X50 hx hZ hown (host := "") (Or.inl (hw _ (List.mem_of_getElem? (i := 36) rfl))) Via.refl e50 (((((((((((((((((S_NOT.ext E2).wr W5).wr W8).wr W11).wr W14).wr W17).wr W20).wr W23).wr W26).wr W29).wr W32).wr W35).wr W38).wr W41).wr W44).wr W47).wr W50) (g := (mkF m 114 #[.val (.int p1), .unset, .unset, .unset, .unset] [(.int (16 : Int32)), (.ref b2), (.ref b2)])) rfl (hb hby at_114)
  obtain ⟨cl_b2_117, Ar_b2, q_b2, S_b2, N_b2, H_b2, G_b2⟩ := V_b2_50
  have hin117 : ¬ ((16 : Int32) < 0 ∨ cl_b2_117.slots.size ≤ ((16 : Int32)).toNatClampNeg) := inb_of S_b2 ⟨by decide, by decide⟩
  have Sto117 : Sto Z h50 b2 (.ref w_NOT) := Sto.ofV Ar_b2 q_b2 O2 (Ins.self (((((((((((((((((E_NOT.ext E2).wr W5).wr W8).wr W11).wr W14).wr W17).wr W20).wr W23).wr W26).wr W29).wr W32).wr W35).wr W38).wr W41).wr W44).wr W47).wr W50))
  obtain ⟨T53, h53, X53, e53, W53, st53⟩ := stR X52 hx hZ e52 Ar_b2 (j := (16 : Int32)) hin117 rfl Sto117 (g := (mkF m 117 #[.val (.int p1), .unset, .unset, .unset, .unset] [(.ref w_NOT), (.int (16 : Int32)), (.ref b2), (.ref b2)])) rfl rfl (hb hby at_117)
  have V_b2_53 : Arv Z h53 b2 k2 (.object "com/example/failfirst/failfirst/Operator") (22 : Int32) [(.ref w_NEG), (.ref w_ABS), (.ref w_ADD), (.ref w_SUB), (.ref w_MUL), (.ref w_DIV), (.ref w_MOD), (.ref w_DIST), (.ref w_MIN), (.ref w_MAX), (.ref w_LT), (.ref w_LE), (.ref w_GE), (.ref w_GT), (.ref w_EQ), (.ref w_NE), (.ref w_NOT), .null, .null, .null, .null, .null] .null := Arv.set Ar_b2 q_b2 S_b2 N_b2 H_b2 G_b2 rfl W53 16 rfl (Nat.le_of_ble_eq_true rfl)
  have K53 : Keep h0 h53 [] := K50.wr W53 (Or.inr sz_b2)
  have N53 := Fr.snoc X53 N50 g_b2
  obtain ⟨T55, X55, e55, st55⟩ := getS2 X53 hx hZ hown (host := "") (Or.inl (hw _ (List.mem_of_getElem? (i := 38) rfl))) Via.refl e53 ((((((((((((((((((S_AND.ext E2).wr W5).wr W8).wr W11).wr W14).wr W17).wr W20).wr W23).wr W26).wr W29).wr W32).wr W35).wr W38).wr W41).wr W44).wr W47).wr W50).wr W53) (g := (mkF m 121 #[.val (.int p1), .unset, .unset, .unset, .unset] [(.int (17 : Int32)), (.ref b2), (.ref b2)])) rfl (hb hby at_121)
  obtain ⟨cl_b2_124, Ar_b2, q_b2, S_b2, N_b2, H_b2, G_b2⟩ := V_b2_53
  have hin124 : ¬ ((17 : Int32) < 0 ∨ cl_b2_124.slots.size ≤ ((17 : Int32)).toNatClampNeg) := inb_of S_b2 ⟨by decide, by decide⟩
  have Sto124 : Sto Z h53 b2 (.ref w_AND) := Sto.ofV Ar_b2 q_b2 O2 (Ins.self ((((((((((((((((((E_AND.ext E2).wr W5).wr W8).wr W11).wr W14).wr W17).wr W20).wr W23).wr W26).wr W29).wr W32).wr W35).wr W38).wr W41).wr W44).wr W47).wr W50).wr W53))
  obtain ⟨T56, h56, X56, e56, W56, st56⟩ := stR X55 hx hZ e55 Ar_b2 (j := (17 : Int32)) hin124 rfl Sto124 (g := (mkF m 124 #[.val (.int p1), .unset, .unset, .unset, .unset] [(.ref w_AND), (.int (17 : Int32)), (.ref b2), (.ref b2)])) rfl rfl (hb hby at_124)
  have V_b2_56 : Arv Z h56 b2 k2 (.object "com/example/failfirst/failfirst/Operator") (22 : Int32) [(.ref w_NEG), (.ref w_ABS), (.ref w_ADD), (.ref w_SUB), (.ref w_MUL), (.ref w_DIV), (.ref w_MOD), (.ref w_DIST), (.ref w_MIN), (.ref w_MAX), (.ref w_LT), (.ref w_LE), (.ref w_GE), (.ref w_GT), (.ref w_EQ), (.ref w_NE), (.ref w_NOT), (.ref w_AND), .null, .null, .null, .null] .null := Arv.set Ar_b2 q_b2 S_b2 N_b2 H_b2 G_b2 rfl W56 17 rfl (Nat.le_of_ble_eq_true rfl)
  have K56 : Keep h0 h56 [] := K53.wr W56 (Or.inr sz_b2)
  have N56 := Fr.snoc X56 N53 g_b2
  obtain ⟨T58, X58, e58, st58⟩ := getS2 X56 hx hZ hown (host := "") (Or.inl (hw _ (List.mem_of_getElem? (i := 40) rfl))) Via.refl e56 (((((((((((((((((((S_OR.ext E2).wr W5).wr W8).wr W11).wr W14).wr W17).wr W20).wr W23).wr W26).wr W29).wr W32).wr W35).wr W38).wr W41).wr W44).wr W47).wr W50).wr W53).wr W56) (g := (mkF m 128 #[.val (.int p1), .unset, .unset, .unset, .unset] [(.int (18 : Int32)), (.ref b2), (.ref b2)])) rfl (hb hby at_128)
  obtain ⟨cl_b2_131, Ar_b2, q_b2, S_b2, N_b2, H_b2, G_b2⟩ := V_b2_56
  have hin131 : ¬ ((18 : Int32) < 0 ∨ cl_b2_131.slots.size ≤ ((18 : Int32)).toNatClampNeg) := inb_of S_b2 ⟨by decide, by decide⟩
  have Sto131 : Sto Z h56 b2 (.ref w_OR) := Sto.ofV Ar_b2 q_b2 O2 (Ins.self (((((((((((((((((((E_OR.ext E2).wr W5).wr W8).wr W11).wr W14).wr W17).wr W20).wr W23).wr W26).wr W29).wr W32).wr W35).wr W38).wr W41).wr W44).wr W47).wr W50).wr W53).wr W56))
  obtain ⟨T59, h59, X59, e59, W59, st59⟩ := stR X58 hx hZ e58 Ar_b2 (j := (18 : Int32)) hin131 rfl Sto131 (g := (mkF m 131 #[.val (.int p1), .unset, .unset, .unset, .unset] [(.ref w_OR), (.int (18 : Int32)), (.ref b2), (.ref b2)])) rfl rfl (hb hby at_131)
  have V_b2_59 : Arv Z h59 b2 k2 (.object "com/example/failfirst/failfirst/Operator") (22 : Int32) [(.ref w_NEG), (.ref w_ABS), (.ref w_ADD), (.ref w_SUB), (.ref w_MUL), (.ref w_DIV), (.ref w_MOD), (.ref w_DIST), (.ref w_MIN), (.ref w_MAX), (.ref w_LT), (.ref w_LE), (.ref w_GE), (.ref w_GT), (.ref w_EQ), (.ref w_NE), (.ref w_NOT), (.ref w_AND), (.ref w_OR), .null, .null, .null] .null := Arv.set Ar_b2 q_b2 S_b2 N_b2 H_b2 G_b2 rfl W59 18 rfl (Nat.le_of_ble_eq_true rfl)
  have K59 : Keep h0 h59 [] := K56.wr W59 (Or.inr sz_b2)
  have N59 := Fr.snoc X59 N56 g_b2
  obtain ⟨T61, X61, e61, st61⟩ := getS2 X59 hx hZ hown (host := "") (Or.inl (hw _ (List.mem_of_getElem? (i := 42) rfl))) Via.refl e59 ((((((((((((((((((((S_XOR.ext E2).wr W5).wr W8).wr W11).wr W14).wr W17).wr W20).wr W23).wr W26).wr W29).wr W32).wr W35).wr W38).wr W41).wr W44).wr W47).wr W50).wr W53).wr W56).wr W59) (g := (mkF m 135 #[.val (.int p1), .unset, .unset, .unset, .unset] [(.int (19 : Int32)), (.ref b2), (.ref b2)])) rfl (hb hby at_135)
  obtain ⟨cl_b2_138, Ar_b2, q_b2, S_b2, N_b2, H_b2, G_b2⟩ := V_b2_59
  have hin138 : ¬ ((19 : Int32) < 0 ∨ cl_b2_138.slots.size ≤ ((19 : Int32)).toNatClampNeg) := inb_of S_b2 ⟨by decide, by decide⟩
  have Sto138 : Sto Z h59 b2 (.ref w_XOR) := Sto.ofV Ar_b2 q_b2 O2 (Ins.self ((((((((((((((((((((E_XOR.ext E2).wr W5).wr W8).wr W11).wr W14).wr W17).wr W20).wr W23).wr W26).wr W29).wr W32).wr W35).wr W38).wr W41).wr W44).wr W47).wr W50).wr W53).wr W56).wr W59))
  obtain ⟨T62, h62, X62, e62, W62, st62⟩ := stR X61 hx hZ e61 Ar_b2 (j := (19 : Int32)) hin138 rfl Sto138 (g := (mkF m 138 #[.val (.int p1), .unset, .unset, .unset, .unset] [(.ref w_XOR), (.int (19 : Int32)), (.ref b2), (.ref b2)])) rfl rfl (hb hby at_138)
  have V_b2_62 : Arv Z h62 b2 k2 (.object "com/example/failfirst/failfirst/Operator") (22 : Int32) [(.ref w_NEG), (.ref w_ABS), (.ref w_ADD), (.ref w_SUB), (.ref w_MUL), (.ref w_DIV), (.ref w_MOD), (.ref w_DIST), (.ref w_MIN), (.ref w_MAX), (.ref w_LT), (.ref w_LE), (.ref w_GE), (.ref w_GT), (.ref w_EQ), (.ref w_NE), (.ref w_NOT), (.ref w_AND), (.ref w_OR), (.ref w_XOR), .null, .null] .null := Arv.set Ar_b2 q_b2 S_b2 N_b2 H_b2 G_b2 rfl W62 19 rfl (Nat.le_of_ble_eq_true rfl)
  have K62 : Keep h0 h62 [] := K59.wr W62 (Or.inr sz_b2)
  have N62 := Fr.snoc X62 N59 g_b2
  obtain ⟨T64, X64, e64, st64⟩ := getS2 X62 hx hZ hown (host := "") (Or.inl (hw _ (List.mem_of_getElem? (i := 44) rfl))) Via.refl e62 (((((((((((((((((((((S_IFF.ext E2).wr W5).wr W8).wr W11).wr W14).wr W17).wr W20).wr W23).wr W26).wr W29).wr W32).wr W35).wr W38).wr W41).wr W44).wr W47).wr W50).wr W53).wr W56).wr W59).wr W62) (g := (mkF m 142 #[.val (.int p1), .unset, .unset, .unset, .unset] [(.int (20 : Int32)), (.ref b2), (.ref b2)])) rfl (hb hby at_142)
  obtain ⟨cl_b2_145, Ar_b2, q_b2, S_b2, N_b2, H_b2, G_b2⟩ := V_b2_62
  have hin145 : ¬ ((20 : Int32) < 0 ∨ cl_b2_145.slots.size ≤ ((20 : Int32)).toNatClampNeg) := inb_of S_b2 ⟨by decide, by decide⟩
  have Sto145 : Sto Z h62 b2 (.ref w_IFF) := Sto.ofV Ar_b2 q_b2 O2 (Ins.self (((((((((((((((((((((E_IFF.ext E2).wr W5).wr W8).wr W11).wr W14).wr W17).wr W20).wr W23).wr W26).wr W29).wr W32).wr W35).wr W38).wr W41).wr W44).wr W47).wr W50).wr W53).wr W56).wr W59).wr W62))
  obtain ⟨T65, h65, X65, e65, W65, st65⟩ := stR X64 hx hZ e64 Ar_b2 (j := (20 : Int32)) hin145 rfl Sto145 (g := (mkF m 145 #[.val (.int p1), .unset, .unset, .unset, .unset] [(.ref w_IFF), (.int (20 : Int32)), (.ref b2), (.ref b2)])) rfl rfl (hb hby at_145)
  have V_b2_65 : Arv Z h65 b2 k2 (.object "com/example/failfirst/failfirst/Operator") (22 : Int32) [(.ref w_NEG), (.ref w_ABS), (.ref w_ADD), (.ref w_SUB), (.ref w_MUL), (.ref w_DIV), (.ref w_MOD), (.ref w_DIST), (.ref w_MIN), (.ref w_MAX), (.ref w_LT), (.ref w_LE), (.ref w_GE), (.ref w_GT), (.ref w_EQ), (.ref w_NE), (.ref w_NOT), (.ref w_AND), (.ref w_OR), (.ref w_XOR), (.ref w_IFF), .null] .null := Arv.set Ar_b2 q_b2 S_b2 N_b2 H_b2 G_b2 rfl W65 20 rfl (Nat.le_of_ble_eq_true rfl)
  have K65 : Keep h0 h65 [] := K62.wr W65 (Or.inr sz_b2)
  have N65 := Fr.snoc X65 N62 g_b2
  obtain ⟨T67, X67, e67, st67⟩ := getS2 X65 hx hZ hown (host := "") (Or.inl (hw _ (List.mem_of_getElem? (i := 46) rfl))) Via.refl e65 ((((((((((((((((((((((S_IMP.ext E2).wr W5).wr W8).wr W11).wr W14).wr W17).wr W20).wr W23).wr W26).wr W29).wr W32).wr W35).wr W38).wr W41).wr W44).wr W47).wr W50).wr W53).wr W56).wr W59).wr W62).wr W65) (g := (mkF m 149 #[.val (.int p1), .unset, .unset, .unset, .unset] [(.int (21 : Int32)), (.ref b2), (.ref b2)])) rfl (hb hby at_149)
  obtain ⟨cl_b2_152, Ar_b2, q_b2, S_b2, N_b2, H_b2, G_b2⟩ := V_b2_65
  have hin152 : ¬ ((21 : Int32) < 0 ∨ cl_b2_152.slots.size ≤ ((21 : Int32)).toNatClampNeg) := inb_of S_b2 ⟨by decide, by decide⟩
  have Sto152 : Sto Z h65 b2 (.ref w_IMP) := Sto.ofV Ar_b2 q_b2 O2 (Ins.self ((((((((((((((((((((((E_IMP.ext E2).wr W5).wr W8).wr W11).wr W14).wr W17).wr W20).wr W23).wr W26).wr W29).wr W32).wr W35).wr W38).wr W41).wr W44).wr W47).wr W50).wr W53).wr W56).wr W59).wr W62).wr W65))
  obtain ⟨T68, h68, X68, e68, W68, st68⟩ := stR X67 hx hZ e67 Ar_b2 (j := (21 : Int32)) hin152 rfl Sto152 (g := (mkF m 152 #[.val (.int p1), .unset, .unset, .unset, .unset] [(.ref w_IMP), (.int (21 : Int32)), (.ref b2), (.ref b2)])) rfl rfl (hb hby at_152)
  have V_b2_68 : Arv Z h68 b2 k2 (.object "com/example/failfirst/failfirst/Operator") (22 : Int32) [(.ref w_NEG), (.ref w_ABS), (.ref w_ADD), (.ref w_SUB), (.ref w_MUL), (.ref w_DIV), (.ref w_MOD), (.ref w_DIST), (.ref w_MIN), (.ref w_MAX), (.ref w_LT), (.ref w_LE), (.ref w_GE), (.ref w_GT), (.ref w_EQ), (.ref w_NE), (.ref w_NOT), (.ref w_AND), (.ref w_OR), (.ref w_XOR), (.ref w_IFF), (.ref w_IMP)] .null := Arv.set Ar_b2 q_b2 S_b2 N_b2 H_b2 G_b2 rfl W68 21 rfl (Nat.le_of_ble_eq_true rfl)
  have K68 : Keep h0 h68 [] := K65.wr W68 (Or.inr sz_b2)
  have N68 := Fr.snoc X68 N65 g_b2
  obtain ⟨cl_b2_164, Ar_b2_164, q_b2_164, S_b2_164, N_b2_164, H_b2_164, G_b2_164⟩ := V_b2_68
  have hin164 : ¬ (((p1 &&& (2147483647 : Int32)) % (22 : Int32)) < 0 ∨ cl_b2_164.slots.size ≤ (((p1 &&& (2147483647 : Int32)) % (22 : Int32))).toNatClampNeg) := inb_of S_b2_164 ⟨hj0, hj1⟩
  have hat164 : cl_b2_164.slots[(((p1 &&& (2147483647 : Int32)) % (22 : Int32))).toNatClampNeg]? = some (.ref wx) := (H_b2_164 _ (by rw [S_b2_164]; exact hlt)).trans (congrArg some hsel)
  obtain ⟨T69, X69, e69, st69⟩ := getS2 X68 hx hZ hown (host := "") (Or.inl (hw _ (List.mem_of_getElem? (i := 24) rfl))) Via.refl e68 (((((((((((((((((((((((S_LT.ext E2).wr W5).wr W8).wr W11).wr W14).wr W17).wr W20).wr W23).wr W26).wr W29).wr W32).wr W35).wr W38).wr W41).wr W44).wr W47).wr W50).wr W53).wr W56).wr W59).wr W62).wr W65).wr W68) (g := (mkF m 167 #[.val (.int p1), .val (.ref b2), .val (.int ((p1 &&& (2147483647 : Int32)) % (22 : Int32))), .val (.ref wx), .unset] [(.ref wx)])) rfl (hb hby at_167)
  obtain ⟨T70, X70, e70, st70⟩ := getS2 X69 hx hZ hown (host := "") (Or.inl (hw _ (List.mem_of_getElem? (i := 26) rfl))) Via.refl e69 (((((((((((((((((((((((S_LE.ext E2).wr W5).wr W8).wr W11).wr W14).wr W17).wr W20).wr W23).wr W26).wr W29).wr W32).wr W35).wr W38).wr W41).wr W44).wr W47).wr W50).wr W53).wr W56).wr W59).wr W62).wr W65).wr W68) (g := (mkF m 174 #[.val (.int p1), .val (.ref b2), .val (.int ((p1 &&& (2147483647 : Int32)) % (22 : Int32))), .val (.ref wx), .unset] [(.ref wx)])) rfl (hb hby at_174)
  obtain ⟨T71, X71, e71, st71⟩ := getS2 X70 hx hZ hown (host := "") (Or.inl (hw _ (List.mem_of_getElem? (i := 28) rfl))) Via.refl e70 (((((((((((((((((((((((S_GE.ext E2).wr W5).wr W8).wr W11).wr W14).wr W17).wr W20).wr W23).wr W26).wr W29).wr W32).wr W35).wr W38).wr W41).wr W44).wr W47).wr W50).wr W53).wr W56).wr W59).wr W62).wr W65).wr W68) (g := (mkF m 181 #[.val (.int p1), .val (.ref b2), .val (.int ((p1 &&& (2147483647 : Int32)) % (22 : Int32))), .val (.ref wx), .unset] [(.ref wx)])) rfl (hb hby at_181)
  obtain ⟨T72, X72, e72, st72⟩ := getS2 X71 hx hZ hown (host := "") (Or.inl (hw _ (List.mem_of_getElem? (i := 30) rfl))) Via.refl e71 (((((((((((((((((((((((S_GT.ext E2).wr W5).wr W8).wr W11).wr W14).wr W17).wr W20).wr W23).wr W26).wr W29).wr W32).wr W35).wr W38).wr W41).wr W44).wr W47).wr W50).wr W53).wr W56).wr W59).wr W62).wr W65).wr W68) (g := (mkF m 188 #[.val (.int p1), .val (.ref b2), .val (.int ((p1 &&& (2147483647 : Int32)) % (22 : Int32))), .val (.ref wx), .unset] [(.ref wx)])) rfl (hb hby at_188)
  obtain ⟨T73, X73, e73, st73⟩ := getS2 X72 hx hZ hown (host := "") (Or.inl (hw _ (List.mem_of_getElem? (i := 32) rfl))) Via.refl e72 (((((((((((((((((((((((S_EQ.ext E2).wr W5).wr W8).wr W11).wr W14).wr W17).wr W20).wr W23).wr W26).wr W29).wr W32).wr W35).wr W38).wr W41).wr W44).wr W47).wr W50).wr W53).wr W56).wr W59).wr W62).wr W65).wr W68) (g := (mkF m 195 #[.val (.int p1), .val (.ref b2), .val (.int ((p1 &&& (2147483647 : Int32)) % (22 : Int32))), .val (.ref wx), .unset] [(.ref wx)])) rfl (hb hby at_195)
  obtain ⟨T74, X74, e74, st74⟩ := getS2 X73 hx hZ hown (host := "") (Or.inl (hw _ (List.mem_of_getElem? (i := 34) rfl))) Via.refl e73 (((((((((((((((((((((((S_NE.ext E2).wr W5).wr W8).wr W11).wr W14).wr W17).wr W20).wr W23).wr W26).wr W29).wr W32).wr W35).wr W38).wr W41).wr W44).wr W47).wr W50).wr W53).wr W56).wr W59).wr W62).wr W65).wr W68) (g := (mkF m 202 #[.val (.int p1), .val (.ref b2), .val (.int ((p1 &&& (2147483647 : Int32)) % (22 : Int32))), .val (.ref wx), .unset] [(.ref wx)])) rfl (hb hby at_202)
  obtain ⟨LL, X74, N68⟩ : ∃ LL, Stand p l e room_1 s m #[(.int p1)] below meth c T74 LL (0 + 1) (0 + 22) ∧ Fr n0 LL := ⟨_, X74, N68⟩
  obtain ⟨cq75, kq75, q75a, q75b, q75c⟩ := isOf hZ e74 (((((((((((((((((((((((E_wx.ext E2).wr W5).wr W8).wr W11).wr W14).wr W17).wr W20).wr W23).wr W26).wr W29).wr W32).wr W35).wr W38).wr W41).wr W44).wr W47).wr W50).wr W53).wr W56).wr W59).wr W62).wr W65).wr W68)
  obtain ⟨_, _, ⟨T75, L75, k75, n75⟩, -, X75, ⟨Lc75, hQ75, l75, y75, z75⟩, st75⟩ := X74.virtualBack hx (y := (⟨"com/example/failfirst/failfirst/Operator", "chains", "()Z"⟩ : MethodName)) (z := (⟨"com/example/failfirst/failfirst/Operator", "chains", "()Z"⟩ : MethodName)) hown (mvT hZ (hw _ (List.mem_of_getElem? (i := 49) rfl))) (mvT hZ (hw _ (List.mem_of_getElem? (i := 50) rfl))) (notFace_of_selects (args := #[]) (mvT hZ (hw _ (List.mem_of_getElem? (i := 52) rfl)))) (mvT hZ (hw _ (List.mem_of_getElem? (i := 52) rfl))) (mvT hZ (hw _ (List.mem_of_getElem? (i := 51) rfl))) (by decide) (backOf (W := 0) (rm1_f l Z a0 hw [] wx wk w_COMPARISON h68 n0 (Nat.le_trans Z0 K68.1) (F_kind.keep K68 List.not_mem_nil) (((((((((((((((((((((((S_COMPARISON.ext E2).wr W5).wr W8).wr W11).wr W14).wr W17).wr W20).wr W23).wr W26).wr W29).wr W32).wr W35).wr W38).wr W41).wr W44).wr W47).wr W50).wr W53).wr W56).wr W59).wr W62).wr W65).wr W68) hkd) hZ (hw _ (List.mem_of_getElem? (i := 53) rfl)) (hw _ (List.mem_of_getElem? (i := 3) rfl)) (by decide) (by decide)) q75a q75c (g := (mkF m 216 #[.val (.int p1), .val (.ref b2), .val (.int ((p1 &&& (2147483647 : Int32)) % (22 : Int32))), .val (.ref wx), .val (.int (1 : Int32))] [(.ref wx)])) rfl (by rw [hml]; rfl) (Steps.refl _) (argsL := []) (rest := []) (lenOf pd_0_0 rfl) rfl (by show 2 * 0 + _ ≤ _; exact Nat.le_of_eq rfl) (hb hby at_216) (fun _ _ => ⟨rfl, e74, (by decide : 1 + 0 ≤ _), (by decide : 22 + 0 ≤ _)⟩)
  dsimp only [Pt.U, Pt.locs, Pt.cells, Pt.slots] at X75 l75 y75 z75 st75 hQ75
  subst l75 y75 z75
  obtain ⟨rfl, N75q, e75q⟩ := hQ75
  have N75 := Fr.app N68 N75q
  obtain ⟨fs, hr, hrun, hended, hW, hsame⟩ := X75.leave (v := some (.int (1 : Int32))) (fun h => by rw [Bd.returns] at h; cases h) Bd.notSynchronized
  refine ⟨_, _, pre0 _ ?_, hrun, hended, _, _, rfl, ?_, ⟨_, rfl⟩, hW, hsame.mono (by decide) (by decide)⟩
  · show Steps p.tables e below (s₁.setTop (mkF m 0 #[.val (.int p1), .unset, .unset, .unset, .unset] [])) _
    refine XS.bipush X0.here hx rfl (hb hby at_0) ?_
    show Steps p.tables e below (s₁.setTop (mkF m 2 #[.val (.int p1), .unset, .unset, .unset, .unset] [(.int (22 : Int32))])) _
    refine st2 _ ?_
    show Steps p.tables e below (T2.setTop (mkF m 5 #[.val (.int p1), .unset, .unset, .unset, .unset] [(.ref b2)])) _
    refine XS.dup X2.here hx rfl (hb hby at_5) rfl rfl ?_
    show Steps p.tables e below (T2.setTop (mkF m 6 #[.val (.int p1), .unset, .unset, .unset, .unset] [(.ref b2), (.ref b2)])) _
    refine XS.iconst X2.here hx rfl (hb hby at_6) ?_
    show Steps p.tables e below (T2.setTop (mkF m 7 #[.val (.int p1), .unset, .unset, .unset, .unset] [(.int (0 : Int32)), (.ref b2), (.ref b2)])) _
    refine st4 _ ?_
    show Steps p.tables e below (T4.setTop (mkF m 10 #[.val (.int p1), .unset, .unset, .unset, .unset] [(.ref w_NEG), (.int (0 : Int32)), (.ref b2), (.ref b2)])) _
    refine st5 _ ?_
    show Steps p.tables e below (T5.setTop (mkF m 11 #[.val (.int p1), .unset, .unset, .unset, .unset] [(.ref b2)])) _
    refine XS.dup X5.here hx rfl (hb hby at_11) rfl rfl ?_
    show Steps p.tables e below (T5.setTop (mkF m 12 #[.val (.int p1), .unset, .unset, .unset, .unset] [(.ref b2), (.ref b2)])) _
    refine XS.iconst X5.here hx rfl (hb hby at_12) ?_
    show Steps p.tables e below (T5.setTop (mkF m 13 #[.val (.int p1), .unset, .unset, .unset, .unset] [(.int (1 : Int32)), (.ref b2), (.ref b2)])) _
    refine st7 _ ?_
    show Steps p.tables e below (T7.setTop (mkF m 16 #[.val (.int p1), .unset, .unset, .unset, .unset] [(.ref w_ABS), (.int (1 : Int32)), (.ref b2), (.ref b2)])) _
    refine st8 _ ?_
    show Steps p.tables e below (T8.setTop (mkF m 17 #[.val (.int p1), .unset, .unset, .unset, .unset] [(.ref b2)])) _
    refine XS.dup X8.here hx rfl (hb hby at_17) rfl rfl ?_
    show Steps p.tables e below (T8.setTop (mkF m 18 #[.val (.int p1), .unset, .unset, .unset, .unset] [(.ref b2), (.ref b2)])) _
    refine XS.iconst X8.here hx rfl (hb hby at_18) ?_
    show Steps p.tables e below (T8.setTop (mkF m 19 #[.val (.int p1), .unset, .unset, .unset, .unset] [(.int (2 : Int32)), (.ref b2), (.ref b2)])) _
    refine st10 _ ?_
    show Steps p.tables e below (T10.setTop (mkF m 22 #[.val (.int p1), .unset, .unset, .unset, .unset] [(.ref w_ADD), (.int (2 : Int32)), (.ref b2), (.ref b2)])) _
    refine st11 _ ?_
    show Steps p.tables e below (T11.setTop (mkF m 23 #[.val (.int p1), .unset, .unset, .unset, .unset] [(.ref b2)])) _
    refine XS.dup X11.here hx rfl (hb hby at_23) rfl rfl ?_
    show Steps p.tables e below (T11.setTop (mkF m 24 #[.val (.int p1), .unset, .unset, .unset, .unset] [(.ref b2), (.ref b2)])) _
    refine XS.iconst X11.here hx rfl (hb hby at_24) ?_
    show Steps p.tables e below (T11.setTop (mkF m 25 #[.val (.int p1), .unset, .unset, .unset, .unset] [(.int (3 : Int32)), (.ref b2), (.ref b2)])) _
    refine st13 _ ?_
    show Steps p.tables e below (T13.setTop (mkF m 28 #[.val (.int p1), .unset, .unset, .unset, .unset] [(.ref w_SUB), (.int (3 : Int32)), (.ref b2), (.ref b2)])) _
    refine st14 _ ?_
    show Steps p.tables e below (T14.setTop (mkF m 29 #[.val (.int p1), .unset, .unset, .unset, .unset] [(.ref b2)])) _
    refine XS.dup X14.here hx rfl (hb hby at_29) rfl rfl ?_
    show Steps p.tables e below (T14.setTop (mkF m 30 #[.val (.int p1), .unset, .unset, .unset, .unset] [(.ref b2), (.ref b2)])) _
    refine XS.iconst X14.here hx rfl (hb hby at_30) ?_
    show Steps p.tables e below (T14.setTop (mkF m 31 #[.val (.int p1), .unset, .unset, .unset, .unset] [(.int (4 : Int32)), (.ref b2), (.ref b2)])) _
    refine st16 _ ?_
    show Steps p.tables e below (T16.setTop (mkF m 34 #[.val (.int p1), .unset, .unset, .unset, .unset] [(.ref w_MUL), (.int (4 : Int32)), (.ref b2), (.ref b2)])) _
    refine st17 _ ?_
    show Steps p.tables e below (T17.setTop (mkF m 35 #[.val (.int p1), .unset, .unset, .unset, .unset] [(.ref b2)])) _
    refine XS.dup X17.here hx rfl (hb hby at_35) rfl rfl ?_
    show Steps p.tables e below (T17.setTop (mkF m 36 #[.val (.int p1), .unset, .unset, .unset, .unset] [(.ref b2), (.ref b2)])) _
    refine XS.iconst X17.here hx rfl (hb hby at_36) ?_
    show Steps p.tables e below (T17.setTop (mkF m 37 #[.val (.int p1), .unset, .unset, .unset, .unset] [(.int (5 : Int32)), (.ref b2), (.ref b2)])) _
    refine st19 _ ?_
    show Steps p.tables e below (T19.setTop (mkF m 40 #[.val (.int p1), .unset, .unset, .unset, .unset] [(.ref w_DIV), (.int (5 : Int32)), (.ref b2), (.ref b2)])) _
    refine st20 _ ?_
    show Steps p.tables e below (T20.setTop (mkF m 41 #[.val (.int p1), .unset, .unset, .unset, .unset] [(.ref b2)])) _
    refine XS.dup X20.here hx rfl (hb hby at_41) rfl rfl ?_
    show Steps p.tables e below (T20.setTop (mkF m 42 #[.val (.int p1), .unset, .unset, .unset, .unset] [(.ref b2), (.ref b2)])) _
    refine XS.bipush X20.here hx rfl (hb hby at_42) ?_
    show Steps p.tables e below (T20.setTop (mkF m 44 #[.val (.int p1), .unset, .unset, .unset, .unset] [(.int (6 : Int32)), (.ref b2), (.ref b2)])) _
    refine st22 _ ?_
    show Steps p.tables e below (T22.setTop (mkF m 47 #[.val (.int p1), .unset, .unset, .unset, .unset] [(.ref w_MOD), (.int (6 : Int32)), (.ref b2), (.ref b2)])) _
    refine st23 _ ?_
    show Steps p.tables e below (T23.setTop (mkF m 48 #[.val (.int p1), .unset, .unset, .unset, .unset] [(.ref b2)])) _
    refine XS.dup X23.here hx rfl (hb hby at_48) rfl rfl ?_
    show Steps p.tables e below (T23.setTop (mkF m 49 #[.val (.int p1), .unset, .unset, .unset, .unset] [(.ref b2), (.ref b2)])) _
    refine XS.bipush X23.here hx rfl (hb hby at_49) ?_
    show Steps p.tables e below (T23.setTop (mkF m 51 #[.val (.int p1), .unset, .unset, .unset, .unset] [(.int (7 : Int32)), (.ref b2), (.ref b2)])) _
    refine st25 _ ?_
    show Steps p.tables e below (T25.setTop (mkF m 54 #[.val (.int p1), .unset, .unset, .unset, .unset] [(.ref w_DIST), (.int (7 : Int32)), (.ref b2), (.ref b2)])) _
    refine st26 _ ?_
    show Steps p.tables e below (T26.setTop (mkF m 55 #[.val (.int p1), .unset, .unset, .unset, .unset] [(.ref b2)])) _
    refine XS.dup X26.here hx rfl (hb hby at_55) rfl rfl ?_
    show Steps p.tables e below (T26.setTop (mkF m 56 #[.val (.int p1), .unset, .unset, .unset, .unset] [(.ref b2), (.ref b2)])) _
    refine XS.bipush X26.here hx rfl (hb hby at_56) ?_
    show Steps p.tables e below (T26.setTop (mkF m 58 #[.val (.int p1), .unset, .unset, .unset, .unset] [(.int (8 : Int32)), (.ref b2), (.ref b2)])) _
    refine st28 _ ?_
    show Steps p.tables e below (T28.setTop (mkF m 61 #[.val (.int p1), .unset, .unset, .unset, .unset] [(.ref w_MIN), (.int (8 : Int32)), (.ref b2), (.ref b2)])) _
    refine st29 _ ?_
    show Steps p.tables e below (T29.setTop (mkF m 62 #[.val (.int p1), .unset, .unset, .unset, .unset] [(.ref b2)])) _
    refine XS.dup X29.here hx rfl (hb hby at_62) rfl rfl ?_
    show Steps p.tables e below (T29.setTop (mkF m 63 #[.val (.int p1), .unset, .unset, .unset, .unset] [(.ref b2), (.ref b2)])) _
    refine XS.bipush X29.here hx rfl (hb hby at_63) ?_
    show Steps p.tables e below (T29.setTop (mkF m 65 #[.val (.int p1), .unset, .unset, .unset, .unset] [(.int (9 : Int32)), (.ref b2), (.ref b2)])) _
    refine st31 _ ?_
    show Steps p.tables e below (T31.setTop (mkF m 68 #[.val (.int p1), .unset, .unset, .unset, .unset] [(.ref w_MAX), (.int (9 : Int32)), (.ref b2), (.ref b2)])) _
    refine st32 _ ?_
    show Steps p.tables e below (T32.setTop (mkF m 69 #[.val (.int p1), .unset, .unset, .unset, .unset] [(.ref b2)])) _
    refine XS.dup X32.here hx rfl (hb hby at_69) rfl rfl ?_
    show Steps p.tables e below (T32.setTop (mkF m 70 #[.val (.int p1), .unset, .unset, .unset, .unset] [(.ref b2), (.ref b2)])) _
    refine XS.bipush X32.here hx rfl (hb hby at_70) ?_
    show Steps p.tables e below (T32.setTop (mkF m 72 #[.val (.int p1), .unset, .unset, .unset, .unset] [(.int (10 : Int32)), (.ref b2), (.ref b2)])) _
    refine st34 _ ?_
    show Steps p.tables e below (T34.setTop (mkF m 75 #[.val (.int p1), .unset, .unset, .unset, .unset] [(.ref w_LT), (.int (10 : Int32)), (.ref b2), (.ref b2)])) _
    refine st35 _ ?_
    show Steps p.tables e below (T35.setTop (mkF m 76 #[.val (.int p1), .unset, .unset, .unset, .unset] [(.ref b2)])) _
    refine XS.dup X35.here hx rfl (hb hby at_76) rfl rfl ?_
    show Steps p.tables e below (T35.setTop (mkF m 77 #[.val (.int p1), .unset, .unset, .unset, .unset] [(.ref b2), (.ref b2)])) _
    refine XS.bipush X35.here hx rfl (hb hby at_77) ?_
    show Steps p.tables e below (T35.setTop (mkF m 79 #[.val (.int p1), .unset, .unset, .unset, .unset] [(.int (11 : Int32)), (.ref b2), (.ref b2)])) _
    refine st37 _ ?_
    show Steps p.tables e below (T37.setTop (mkF m 82 #[.val (.int p1), .unset, .unset, .unset, .unset] [(.ref w_LE), (.int (11 : Int32)), (.ref b2), (.ref b2)])) _
    refine st38 _ ?_
    show Steps p.tables e below (T38.setTop (mkF m 83 #[.val (.int p1), .unset, .unset, .unset, .unset] [(.ref b2)])) _
    refine XS.dup X38.here hx rfl (hb hby at_83) rfl rfl ?_
    show Steps p.tables e below (T38.setTop (mkF m 84 #[.val (.int p1), .unset, .unset, .unset, .unset] [(.ref b2), (.ref b2)])) _
    refine XS.bipush X38.here hx rfl (hb hby at_84) ?_
    show Steps p.tables e below (T38.setTop (mkF m 86 #[.val (.int p1), .unset, .unset, .unset, .unset] [(.int (12 : Int32)), (.ref b2), (.ref b2)])) _
    refine st40 _ ?_
    show Steps p.tables e below (T40.setTop (mkF m 89 #[.val (.int p1), .unset, .unset, .unset, .unset] [(.ref w_GE), (.int (12 : Int32)), (.ref b2), (.ref b2)])) _
    refine st41 _ ?_
    show Steps p.tables e below (T41.setTop (mkF m 90 #[.val (.int p1), .unset, .unset, .unset, .unset] [(.ref b2)])) _
    refine XS.dup X41.here hx rfl (hb hby at_90) rfl rfl ?_
    show Steps p.tables e below (T41.setTop (mkF m 91 #[.val (.int p1), .unset, .unset, .unset, .unset] [(.ref b2), (.ref b2)])) _
    refine XS.bipush X41.here hx rfl (hb hby at_91) ?_
    show Steps p.tables e below (T41.setTop (mkF m 93 #[.val (.int p1), .unset, .unset, .unset, .unset] [(.int (13 : Int32)), (.ref b2), (.ref b2)])) _
    refine st43 _ ?_
    show Steps p.tables e below (T43.setTop (mkF m 96 #[.val (.int p1), .unset, .unset, .unset, .unset] [(.ref w_GT), (.int (13 : Int32)), (.ref b2), (.ref b2)])) _
    refine st44 _ ?_
    show Steps p.tables e below (T44.setTop (mkF m 97 #[.val (.int p1), .unset, .unset, .unset, .unset] [(.ref b2)])) _
    refine XS.dup X44.here hx rfl (hb hby at_97) rfl rfl ?_
    show Steps p.tables e below (T44.setTop (mkF m 98 #[.val (.int p1), .unset, .unset, .unset, .unset] [(.ref b2), (.ref b2)])) _
    refine XS.bipush X44.here hx rfl (hb hby at_98) ?_
    show Steps p.tables e below (T44.setTop (mkF m 100 #[.val (.int p1), .unset, .unset, .unset, .unset] [(.int (14 : Int32)), (.ref b2), (.ref b2)])) _
    refine st46 _ ?_
    show Steps p.tables e below (T46.setTop (mkF m 103 #[.val (.int p1), .unset, .unset, .unset, .unset] [(.ref w_EQ), (.int (14 : Int32)), (.ref b2), (.ref b2)])) _
    refine st47 _ ?_
    show Steps p.tables e below (T47.setTop (mkF m 104 #[.val (.int p1), .unset, .unset, .unset, .unset] [(.ref b2)])) _
    refine XS.dup X47.here hx rfl (hb hby at_104) rfl rfl ?_
    show Steps p.tables e below (T47.setTop (mkF m 105 #[.val (.int p1), .unset, .unset, .unset, .unset] [(.ref b2), (.ref b2)])) _
    refine XS.bipush X47.here hx rfl (hb hby at_105) ?_
    show Steps p.tables e below (T47.setTop (mkF m 107 #[.val (.int p1), .unset, .unset, .unset, .unset] [(.int (15 : Int32)), (.ref b2), (.ref b2)])) _
    refine st49 _ ?_
    show Steps p.tables e below (T49.setTop (mkF m 110 #[.val (.int p1), .unset, .unset, .unset, .unset] [(.ref w_NE), (.int (15 : Int32)), (.ref b2), (.ref b2)])) _
    refine st50 _ ?_
    show Steps p.tables e below (T50.setTop (mkF m 111 #[.val (.int p1), .unset, .unset, .unset, .unset] [(.ref b2)])) _
    refine XS.dup X50.here hx rfl (hb hby at_111) rfl rfl ?_
    show Steps p.tables e below (T50.setTop (mkF m 112 #[.val (.int p1), .unset, .unset, .unset, .unset] [(.ref b2), (.ref b2)])) _
    refine XS.bipush X50.here hx rfl (hb hby at_112) ?_
    show Steps p.tables e below (T50.setTop (mkF m 114 #[.val (.int p1), .unset, .unset, .unset, .unset] [(.int (16 : Int32)), (.ref b2), (.ref b2)])) _
    refine st52 _ ?_
    show Steps p.tables e below (T52.setTop (mkF m 117 #[.val (.int p1), .unset, .unset, .unset, .unset] [(.ref w_NOT), (.int (16 : Int32)), (.ref b2), (.ref b2)])) _
    refine st53 _ ?_
    show Steps p.tables e below (T53.setTop (mkF m 118 #[.val (.int p1), .unset, .unset, .unset, .unset] [(.ref b2)])) _
    refine XS.dup X53.here hx rfl (hb hby at_118) rfl rfl ?_
    show Steps p.tables e below (T53.setTop (mkF m 119 #[.val (.int p1), .unset, .unset, .unset, .unset] [(.ref b2), (.ref b2)])) _
    refine XS.bipush X53.here hx rfl (hb hby at_119) ?_
    show Steps p.tables e below (T53.setTop (mkF m 121 #[.val (.int p1), .unset, .unset, .unset, .unset] [(.int (17 : Int32)), (.ref b2), (.ref b2)])) _
    refine st55 _ ?_
    show Steps p.tables e below (T55.setTop (mkF m 124 #[.val (.int p1), .unset, .unset, .unset, .unset] [(.ref w_AND), (.int (17 : Int32)), (.ref b2), (.ref b2)])) _
    refine st56 _ ?_
    show Steps p.tables e below (T56.setTop (mkF m 125 #[.val (.int p1), .unset, .unset, .unset, .unset] [(.ref b2)])) _
    refine XS.dup X56.here hx rfl (hb hby at_125) rfl rfl ?_
    show Steps p.tables e below (T56.setTop (mkF m 126 #[.val (.int p1), .unset, .unset, .unset, .unset] [(.ref b2), (.ref b2)])) _
    refine XS.bipush X56.here hx rfl (hb hby at_126) ?_
    show Steps p.tables e below (T56.setTop (mkF m 128 #[.val (.int p1), .unset, .unset, .unset, .unset] [(.int (18 : Int32)), (.ref b2), (.ref b2)])) _
    refine st58 _ ?_
    show Steps p.tables e below (T58.setTop (mkF m 131 #[.val (.int p1), .unset, .unset, .unset, .unset] [(.ref w_OR), (.int (18 : Int32)), (.ref b2), (.ref b2)])) _
    refine st59 _ ?_
    show Steps p.tables e below (T59.setTop (mkF m 132 #[.val (.int p1), .unset, .unset, .unset, .unset] [(.ref b2)])) _
    refine XS.dup X59.here hx rfl (hb hby at_132) rfl rfl ?_
    show Steps p.tables e below (T59.setTop (mkF m 133 #[.val (.int p1), .unset, .unset, .unset, .unset] [(.ref b2), (.ref b2)])) _
    refine XS.bipush X59.here hx rfl (hb hby at_133) ?_
    show Steps p.tables e below (T59.setTop (mkF m 135 #[.val (.int p1), .unset, .unset, .unset, .unset] [(.int (19 : Int32)), (.ref b2), (.ref b2)])) _
    refine st61 _ ?_
    show Steps p.tables e below (T61.setTop (mkF m 138 #[.val (.int p1), .unset, .unset, .unset, .unset] [(.ref w_XOR), (.int (19 : Int32)), (.ref b2), (.ref b2)])) _
    refine st62 _ ?_
    show Steps p.tables e below (T62.setTop (mkF m 139 #[.val (.int p1), .unset, .unset, .unset, .unset] [(.ref b2)])) _
    refine XS.dup X62.here hx rfl (hb hby at_139) rfl rfl ?_
    show Steps p.tables e below (T62.setTop (mkF m 140 #[.val (.int p1), .unset, .unset, .unset, .unset] [(.ref b2), (.ref b2)])) _
    refine XS.bipush X62.here hx rfl (hb hby at_140) ?_
    show Steps p.tables e below (T62.setTop (mkF m 142 #[.val (.int p1), .unset, .unset, .unset, .unset] [(.int (20 : Int32)), (.ref b2), (.ref b2)])) _
    refine st64 _ ?_
    show Steps p.tables e below (T64.setTop (mkF m 145 #[.val (.int p1), .unset, .unset, .unset, .unset] [(.ref w_IFF), (.int (20 : Int32)), (.ref b2), (.ref b2)])) _
    refine st65 _ ?_
    show Steps p.tables e below (T65.setTop (mkF m 146 #[.val (.int p1), .unset, .unset, .unset, .unset] [(.ref b2)])) _
    refine XS.dup X65.here hx rfl (hb hby at_146) rfl rfl ?_
    show Steps p.tables e below (T65.setTop (mkF m 147 #[.val (.int p1), .unset, .unset, .unset, .unset] [(.ref b2), (.ref b2)])) _
    refine XS.bipush X65.here hx rfl (hb hby at_147) ?_
    show Steps p.tables e below (T65.setTop (mkF m 149 #[.val (.int p1), .unset, .unset, .unset, .unset] [(.int (21 : Int32)), (.ref b2), (.ref b2)])) _
    refine st67 _ ?_
    show Steps p.tables e below (T67.setTop (mkF m 152 #[.val (.int p1), .unset, .unset, .unset, .unset] [(.ref w_IMP), (.int (21 : Int32)), (.ref b2), (.ref b2)])) _
    refine st68 _ ?_
    show Steps p.tables e below (T68.setTop (mkF m 153 #[.val (.int p1), .unset, .unset, .unset, .unset] [(.ref b2)])) _
    refine XS.astoreN X68.here hx rfl (hb hby at_153) rfl rfl (l' := #[.val (.int p1), .val (.ref b2), .unset, .unset, .unset]) rfl ?_
    show Steps p.tables e below (T68.setTop (mkF m 154 #[.val (.int p1), .val (.ref b2), .unset, .unset, .unset] [])) _
    refine XS.iloadN X68.here hx rfl (hb hby at_154) rfl ?_
    show Steps p.tables e below (T68.setTop (mkF m 155 #[.val (.int p1), .val (.ref b2), .unset, .unset, .unset] [(.int p1)])) _
    refine X68.ldcInt hx hown (mvT hZ (hw _ (List.mem_of_getElem? (i := 48) rfl))) (g := (mkF m 155 #[.val (.int p1), .val (.ref b2), .unset, .unset, .unset] [(.int p1)])) rfl (hb hby at_155) _ ?_
    show Steps p.tables e below (T68.setTop (mkF m 157 #[.val (.int p1), .val (.ref b2), .unset, .unset, .unset] [(.int (2147483647 : Int32)), (.int p1)])) _
    refine XS.iand X68.here hx rfl (hb hby at_157) rfl ?_
    show Steps p.tables e below (T68.setTop (mkF m 158 #[.val (.int p1), .val (.ref b2), .unset, .unset, .unset] [(.int (p1 &&& (2147483647 : Int32)))])) _
    refine XS.bipush X68.here hx rfl (hb hby at_158) ?_
    show Steps p.tables e below (T68.setTop (mkF m 160 #[.val (.int p1), .val (.ref b2), .unset, .unset, .unset] [(.int (22 : Int32)), (.int (p1 &&& (2147483647 : Int32)))])) _
    refine iremM X68 hx rfl (hb hby at_160) rfl (by decide) ?_
    show Steps p.tables e below (T68.setTop (mkF m 161 #[.val (.int p1), .val (.ref b2), .unset, .unset, .unset] [(.int ((p1 &&& (2147483647 : Int32)) % (22 : Int32)))])) _
    refine XS.istoreN X68.here hx rfl (hb hby at_161) rfl (l' := #[.val (.int p1), .val (.ref b2), .val (.int ((p1 &&& (2147483647 : Int32)) % (22 : Int32))), .unset, .unset]) rfl ?_
    show Steps p.tables e below (T68.setTop (mkF m 162 #[.val (.int p1), .val (.ref b2), .val (.int ((p1 &&& (2147483647 : Int32)) % (22 : Int32))), .unset, .unset] [])) _
    refine XS.aloadN X68.here hx rfl (hb hby at_162) rfl rfl ?_
    show Steps p.tables e below (T68.setTop (mkF m 163 #[.val (.int p1), .val (.ref b2), .val (.int ((p1 &&& (2147483647 : Int32)) % (22 : Int32))), .unset, .unset] [(.ref b2)])) _
    refine XS.iloadN X68.here hx rfl (hb hby at_163) rfl ?_
    show Steps p.tables e below (T68.setTop (mkF m 164 #[.val (.int p1), .val (.ref b2), .val (.int ((p1 &&& (2147483647 : Int32)) % (22 : Int32))), .unset, .unset] [(.int ((p1 &&& (2147483647 : Int32)) % (22 : Int32))), (.ref b2)])) _
    refine X68.aaload hx (j := ((p1 &&& (2147483647 : Int32)) % (22 : Int32))) (v := (.ref wx)) (by rw [e68]; exact Ar_b2_164.1) (State.isArrayOf_alike hZ.alike Ar_b2_164.2.1) rfl Ar_b2_164.2.2 hin164 hat164 (g := (mkF m 164 #[.val (.int p1), .val (.ref b2), .val (.int ((p1 &&& (2147483647 : Int32)) % (22 : Int32))), .unset, .unset] [(.int ((p1 &&& (2147483647 : Int32)) % (22 : Int32))), (.ref b2)])) rfl rfl (hb hby at_164) _ ?_
    show Steps p.tables e below (T68.setTop (mkF m 165 #[.val (.int p1), .val (.ref b2), .val (.int ((p1 &&& (2147483647 : Int32)) % (22 : Int32))), .unset, .unset] [(.ref wx)])) _
    refine XS.astoreN X68.here hx rfl (hb hby at_165) rfl rfl (l' := #[.val (.int p1), .val (.ref b2), .val (.int ((p1 &&& (2147483647 : Int32)) % (22 : Int32))), .val (.ref wx), .unset]) rfl ?_
    show Steps p.tables e below (T68.setTop (mkF m 166 #[.val (.int p1), .val (.ref b2), .val (.int ((p1 &&& (2147483647 : Int32)) % (22 : Int32))), .val (.ref wx), .unset] [])) _
    refine XS.aloadN X68.here hx rfl (hb hby at_166) rfl rfl ?_
    show Steps p.tables e below (T68.setTop (mkF m 167 #[.val (.int p1), .val (.ref b2), .val (.int ((p1 &&& (2147483647 : Int32)) % (22 : Int32))), .val (.ref wx), .unset] [(.ref wx)])) _
    refine st69 _ ?_
    show Steps p.tables e below (T69.setTop (mkF m 170 #[.val (.int p1), .val (.ref b2), .val (.int ((p1 &&& (2147483647 : Int32)) % (22 : Int32))), .val (.ref wx), .unset] [(.ref w_LT), (.ref wx)])) _
    refine Jvm.RoadKit.acmp (g := (mkF m 170 #[.val (.int p1), .val (.ref b2), .val (.int ((p1 &&& (2147483647 : Int32)) % (22 : Int32))), .val (.ref wx), .unset] [(.ref w_LT), (.ref wx)])) X69 hx rfl rfl rfl (pc0 := 170) (pc' := 173) (same := false) rfl (hb hby at_170) rfl (decide_eq_false fun q => ha170 (Value.ref.inj q)) (by decide) (by decide) ?_
    show Steps p.tables e below (T69.setTop (mkF m 173 #[.val (.int p1), .val (.ref b2), .val (.int ((p1 &&& (2147483647 : Int32)) % (22 : Int32))), .val (.ref wx), .unset] [])) _
    refine XS.aloadN X69.here hx rfl (hb hby at_173) rfl rfl ?_
    show Steps p.tables e below (T69.setTop (mkF m 174 #[.val (.int p1), .val (.ref b2), .val (.int ((p1 &&& (2147483647 : Int32)) % (22 : Int32))), .val (.ref wx), .unset] [(.ref wx)])) _
    refine st70 _ ?_
    show Steps p.tables e below (T70.setTop (mkF m 177 #[.val (.int p1), .val (.ref b2), .val (.int ((p1 &&& (2147483647 : Int32)) % (22 : Int32))), .val (.ref wx), .unset] [(.ref w_LE), (.ref wx)])) _
    refine Jvm.RoadKit.acmp (g := (mkF m 177 #[.val (.int p1), .val (.ref b2), .val (.int ((p1 &&& (2147483647 : Int32)) % (22 : Int32))), .val (.ref wx), .unset] [(.ref w_LE), (.ref wx)])) X70 hx rfl rfl rfl (pc0 := 177) (pc' := 180) (same := false) rfl (hb hby at_177) rfl (decide_eq_false fun q => ha177 (Value.ref.inj q)) (by decide) (by decide) ?_
    show Steps p.tables e below (T70.setTop (mkF m 180 #[.val (.int p1), .val (.ref b2), .val (.int ((p1 &&& (2147483647 : Int32)) % (22 : Int32))), .val (.ref wx), .unset] [])) _
    refine XS.aloadN X70.here hx rfl (hb hby at_180) rfl rfl ?_
    show Steps p.tables e below (T70.setTop (mkF m 181 #[.val (.int p1), .val (.ref b2), .val (.int ((p1 &&& (2147483647 : Int32)) % (22 : Int32))), .val (.ref wx), .unset] [(.ref wx)])) _
    refine st71 _ ?_
    show Steps p.tables e below (T71.setTop (mkF m 184 #[.val (.int p1), .val (.ref b2), .val (.int ((p1 &&& (2147483647 : Int32)) % (22 : Int32))), .val (.ref wx), .unset] [(.ref w_GE), (.ref wx)])) _
    refine Jvm.RoadKit.acmp (g := (mkF m 184 #[.val (.int p1), .val (.ref b2), .val (.int ((p1 &&& (2147483647 : Int32)) % (22 : Int32))), .val (.ref wx), .unset] [(.ref w_GE), (.ref wx)])) X71 hx rfl rfl rfl (pc0 := 184) (pc' := 187) (same := false) rfl (hb hby at_184) rfl (decide_eq_false fun q => ha184 (Value.ref.inj q)) (by decide) (by decide) ?_
    show Steps p.tables e below (T71.setTop (mkF m 187 #[.val (.int p1), .val (.ref b2), .val (.int ((p1 &&& (2147483647 : Int32)) % (22 : Int32))), .val (.ref wx), .unset] [])) _
    refine XS.aloadN X71.here hx rfl (hb hby at_187) rfl rfl ?_
    show Steps p.tables e below (T71.setTop (mkF m 188 #[.val (.int p1), .val (.ref b2), .val (.int ((p1 &&& (2147483647 : Int32)) % (22 : Int32))), .val (.ref wx), .unset] [(.ref wx)])) _
    refine st72 _ ?_
    show Steps p.tables e below (T72.setTop (mkF m 191 #[.val (.int p1), .val (.ref b2), .val (.int ((p1 &&& (2147483647 : Int32)) % (22 : Int32))), .val (.ref wx), .unset] [(.ref w_GT), (.ref wx)])) _
    refine Jvm.RoadKit.acmp (g := (mkF m 191 #[.val (.int p1), .val (.ref b2), .val (.int ((p1 &&& (2147483647 : Int32)) % (22 : Int32))), .val (.ref wx), .unset] [(.ref w_GT), (.ref wx)])) X72 hx rfl rfl rfl (pc0 := 191) (pc' := 194) (same := false) rfl (hb hby at_191) rfl (decide_eq_false fun q => ha191 (Value.ref.inj q)) (by decide) (by decide) ?_
    show Steps p.tables e below (T72.setTop (mkF m 194 #[.val (.int p1), .val (.ref b2), .val (.int ((p1 &&& (2147483647 : Int32)) % (22 : Int32))), .val (.ref wx), .unset] [])) _
    refine XS.aloadN X72.here hx rfl (hb hby at_194) rfl rfl ?_
    show Steps p.tables e below (T72.setTop (mkF m 195 #[.val (.int p1), .val (.ref b2), .val (.int ((p1 &&& (2147483647 : Int32)) % (22 : Int32))), .val (.ref wx), .unset] [(.ref wx)])) _
    refine st73 _ ?_
    show Steps p.tables e below (T73.setTop (mkF m 198 #[.val (.int p1), .val (.ref b2), .val (.int ((p1 &&& (2147483647 : Int32)) % (22 : Int32))), .val (.ref wx), .unset] [(.ref w_EQ), (.ref wx)])) _
    refine Jvm.RoadKit.acmp (g := (mkF m 198 #[.val (.int p1), .val (.ref b2), .val (.int ((p1 &&& (2147483647 : Int32)) % (22 : Int32))), .val (.ref wx), .unset] [(.ref w_EQ), (.ref wx)])) X73 hx rfl rfl rfl (pc0 := 198) (pc' := 201) (same := false) rfl (hb hby at_198) rfl (decide_eq_false fun q => ha198 (Value.ref.inj q)) (by decide) (by decide) ?_
    show Steps p.tables e below (T73.setTop (mkF m 201 #[.val (.int p1), .val (.ref b2), .val (.int ((p1 &&& (2147483647 : Int32)) % (22 : Int32))), .val (.ref wx), .unset] [])) _
    refine XS.aloadN X73.here hx rfl (hb hby at_201) rfl rfl ?_
    show Steps p.tables e below (T73.setTop (mkF m 202 #[.val (.int p1), .val (.ref b2), .val (.int ((p1 &&& (2147483647 : Int32)) % (22 : Int32))), .val (.ref wx), .unset] [(.ref wx)])) _
    refine st74 _ ?_
    show Steps p.tables e below (T74.setTop (mkF m 205 #[.val (.int p1), .val (.ref b2), .val (.int ((p1 &&& (2147483647 : Int32)) % (22 : Int32))), .val (.ref wx), .unset] [(.ref w_NE), (.ref wx)])) _
    refine Jvm.RoadKit.acmp (g := (mkF m 205 #[.val (.int p1), .val (.ref b2), .val (.int ((p1 &&& (2147483647 : Int32)) % (22 : Int32))), .val (.ref wx), .unset] [(.ref w_NE), (.ref wx)])) X74 hx rfl rfl rfl (pc0 := 205) (pc' := 208) (same := true) rfl (hb hby at_205) rfl (decide_eq_true (congrArg Value.ref ha205)) (by decide) (by decide) ?_
    show Steps p.tables e below (T74.setTop (mkF m 208 #[.val (.int p1), .val (.ref b2), .val (.int ((p1 &&& (2147483647 : Int32)) % (22 : Int32))), .val (.ref wx), .unset] [])) _
    refine XS.iconst X74.here hx rfl (hb hby at_208) ?_
    show Steps p.tables e below (T74.setTop (mkF m 209 #[.val (.int p1), .val (.ref b2), .val (.int ((p1 &&& (2147483647 : Int32)) % (22 : Int32))), .val (.ref wx), .unset] [(.int (1 : Int32))])) _
    refine XS.goto X74.here hx rfl (pc0 := 209) (pc' := 213) rfl (hb hby at_209) (by decide) (by decide) ?_
    show Steps p.tables e below (T74.setTop (mkF m 213 #[.val (.int p1), .val (.ref b2), .val (.int ((p1 &&& (2147483647 : Int32)) % (22 : Int32))), .val (.ref wx), .unset] [(.int (1 : Int32))])) _
    refine XS.istore X74.here hx rfl (hb hby at_213) rfl (l' := #[.val (.int p1), .val (.ref b2), .val (.int ((p1 &&& (2147483647 : Int32)) % (22 : Int32))), .val (.ref wx), .val (.int (1 : Int32))]) rfl ?_
    show Steps p.tables e below (T74.setTop (mkF m 215 #[.val (.int p1), .val (.ref b2), .val (.int ((p1 &&& (2147483647 : Int32)) % (22 : Int32))), .val (.ref wx), .val (.int (1 : Int32))] [])) _
    refine XS.aloadN X74.here hx rfl (hb hby at_215) rfl rfl ?_
    show Steps p.tables e below (T74.setTop (mkF m 216 #[.val (.int p1), .val (.ref b2), .val (.int ((p1 &&& (2147483647 : Int32)) % (22 : Int32))), .val (.ref wx), .val (.int (1 : Int32))] [(.ref wx)])) _
    refine st75.trans ?_
    show Steps p.tables e below (T75.setTop (mkF m 219 #[.val (.int p1), .val (.ref b2), .val (.int ((p1 &&& (2147483647 : Int32)) % (22 : Int32))), .val (.ref wx), .val (.int (1 : Int32))] [(.int (1 : Int32))])) _
    refine XS.iload X75.here hx rfl (hb hby at_219) rfl ?_
    show Steps p.tables e below (T75.setTop (mkF m 221 #[.val (.int p1), .val (.ref b2), .val (.int ((p1 &&& (2147483647 : Int32)) % (22 : Int32))), .val (.ref wx), .val (.int (1 : Int32))] [(.int (1 : Int32)), (.int (1 : Int32))])) _
    refine XS.icmpNo X75.here hx rfl (hb hby at_221) rfl (teq hk221).2 ?_
    show Steps p.tables e below (T75.setTop (mkF m 224 #[.val (.int p1), .val (.ref b2), .val (.int ((p1 &&& (2147483647 : Int32)) % (22 : Int32))), .val (.ref wx), .val (.int (1 : Int32))] [])) _
    refine XS.iconst X75.here hx rfl (hb hby at_224) ?_
    show Steps p.tables e below (T75.setTop (mkF m 225 #[.val (.int p1), .val (.ref b2), .val (.int ((p1 &&& (2147483647 : Int32)) % (22 : Int32))), .val (.ref wx), .val (.int (1 : Int32))] [(.int (1 : Int32))])) _
    refine XS.goto X75.here hx rfl (pc0 := 225) (pc' := 229) rfl (hb hby at_225) (by decide) (by decide) ?_
    show Steps p.tables e below (T75.setTop (mkF m 229 #[.val (.int p1), .val (.ref b2), .val (.int ((p1 &&& (2147483647 : Int32)) % (22 : Int32))), .val (.ref wx), .val (.int (1 : Int32))] [(.int (1 : Int32))])) _
    exact retN X75 hx (t := .boolean) Bd.returns (by simp) (hb hby at_229) hr
  · show Q0 Z p1 h0 n0 _ T75.heap _
    exact ⟨rfl, N75⟩
set_option maxRecDepth 65536 in
set_option maxHeartbeats 40000000 in
theorem rm0_none (l : Launch) (Z : State) (a0 : Array Value) (hw : ∀ d ∈ tables_1, d.before a0 Z = true) (ws : List Jvm.Cond) (p1 : Int32) (w_NEG : Addr) (w_ABS : Addr) (w_ADD : Addr) (w_SUB : Addr) (w_MUL : Addr) (w_DIV : Addr) (w_MOD : Addr) (w_DIST : Addr) (w_MIN : Addr) (w_MAX : Addr) (w_LT : Addr) (w_LE : Addr) (w_GE : Addr) (w_GT : Addr) (w_EQ : Addr) (w_NE : Addr) (w_NOT : Addr) (w_AND : Addr) (w_OR : Addr) (w_XOR : Addr) (w_IFF : Addr) (w_IMP : Addr) (wx : Addr) (wk : Addr) (w_COMPARISON : Addr) (h0 : Heap) (n0 : Nat) (Z0 : n0 ≤ h0.size) (S_NEG : Sta Z h0 "com/example/failfirst/failfirst/Operator" "NEG" "Lcom/example/failfirst/failfirst/Operator;" (.ref w_NEG)) (E_NEG : Exa Z h0 w_NEG "com/example/failfirst/failfirst/Operator") (S_ABS : Sta Z h0 "com/example/failfirst/failfirst/Operator" "ABS" "Lcom/example/failfirst/failfirst/Operator;" (.ref w_ABS)) (E_ABS : Exa Z h0 w_ABS "com/example/failfirst/failfirst/Operator") (S_ADD : Sta Z h0 "com/example/failfirst/failfirst/Operator" "ADD" "Lcom/example/failfirst/failfirst/Operator;" (.ref w_ADD)) (E_ADD : Exa Z h0 w_ADD "com/example/failfirst/failfirst/Operator") (S_SUB : Sta Z h0 "com/example/failfirst/failfirst/Operator" "SUB" "Lcom/example/failfirst/failfirst/Operator;" (.ref w_SUB)) (E_SUB : Exa Z h0 w_SUB "com/example/failfirst/failfirst/Operator") (S_MUL : Sta Z h0 "com/example/failfirst/failfirst/Operator" "MUL" "Lcom/example/failfirst/failfirst/Operator;" (.ref w_MUL)) (E_MUL : Exa Z h0 w_MUL "com/example/failfirst/failfirst/Operator") (S_DIV : Sta Z h0 "com/example/failfirst/failfirst/Operator" "DIV" "Lcom/example/failfirst/failfirst/Operator;" (.ref w_DIV)) (E_DIV : Exa Z h0 w_DIV "com/example/failfirst/failfirst/Operator") (S_MOD : Sta Z h0 "com/example/failfirst/failfirst/Operator" "MOD" "Lcom/example/failfirst/failfirst/Operator;" (.ref w_MOD)) (E_MOD : Exa Z h0 w_MOD "com/example/failfirst/failfirst/Operator") (S_DIST : Sta Z h0 "com/example/failfirst/failfirst/Operator" "DIST" "Lcom/example/failfirst/failfirst/Operator;" (.ref w_DIST)) (E_DIST : Exa Z h0 w_DIST "com/example/failfirst/failfirst/Operator") (S_MIN : Sta Z h0 "com/example/failfirst/failfirst/Operator" "MIN" "Lcom/example/failfirst/failfirst/Operator;" (.ref w_MIN)) (E_MIN : Exa Z h0 w_MIN "com/example/failfirst/failfirst/Operator") (S_MAX : Sta Z h0 "com/example/failfirst/failfirst/Operator" "MAX" "Lcom/example/failfirst/failfirst/Operator;" (.ref w_MAX)) (E_MAX : Exa Z h0 w_MAX "com/example/failfirst/failfirst/Operator") (S_LT : Sta Z h0 "com/example/failfirst/failfirst/Operator" "LT" "Lcom/example/failfirst/failfirst/Operator;" (.ref w_LT)) (E_LT : Exa Z h0 w_LT "com/example/failfirst/failfirst/Operator") (S_LE : Sta Z h0 "com/example/failfirst/failfirst/Operator" "LE" "Lcom/example/failfirst/failfirst/Operator;" (.ref w_LE)) (E_LE : Exa Z h0 w_LE "com/example/failfirst/failfirst/Operator") (S_GE : Sta Z h0 "com/example/failfirst/failfirst/Operator" "GE" "Lcom/example/failfirst/failfirst/Operator;" (.ref w_GE)) (E_GE : Exa Z h0 w_GE "com/example/failfirst/failfirst/Operator") (S_GT : Sta Z h0 "com/example/failfirst/failfirst/Operator" "GT" "Lcom/example/failfirst/failfirst/Operator;" (.ref w_GT)) (E_GT : Exa Z h0 w_GT "com/example/failfirst/failfirst/Operator") (S_EQ : Sta Z h0 "com/example/failfirst/failfirst/Operator" "EQ" "Lcom/example/failfirst/failfirst/Operator;" (.ref w_EQ)) (E_EQ : Exa Z h0 w_EQ "com/example/failfirst/failfirst/Operator") (S_NE : Sta Z h0 "com/example/failfirst/failfirst/Operator" "NE" "Lcom/example/failfirst/failfirst/Operator;" (.ref w_NE)) (E_NE : Exa Z h0 w_NE "com/example/failfirst/failfirst/Operator") (S_NOT : Sta Z h0 "com/example/failfirst/failfirst/Operator" "NOT" "Lcom/example/failfirst/failfirst/Operator;" (.ref w_NOT)) (E_NOT : Exa Z h0 w_NOT "com/example/failfirst/failfirst/Operator") (S_AND : Sta Z h0 "com/example/failfirst/failfirst/Operator" "AND" "Lcom/example/failfirst/failfirst/Operator;" (.ref w_AND)) (E_AND : Exa Z h0 w_AND "com/example/failfirst/failfirst/Operator") (S_OR : Sta Z h0 "com/example/failfirst/failfirst/Operator" "OR" "Lcom/example/failfirst/failfirst/Operator;" (.ref w_OR)) (E_OR : Exa Z h0 w_OR "com/example/failfirst/failfirst/Operator") (S_XOR : Sta Z h0 "com/example/failfirst/failfirst/Operator" "XOR" "Lcom/example/failfirst/failfirst/Operator;" (.ref w_XOR)) (E_XOR : Exa Z h0 w_XOR "com/example/failfirst/failfirst/Operator") (S_IFF : Sta Z h0 "com/example/failfirst/failfirst/Operator" "IFF" "Lcom/example/failfirst/failfirst/Operator;" (.ref w_IFF)) (E_IFF : Exa Z h0 w_IFF "com/example/failfirst/failfirst/Operator") (S_IMP : Sta Z h0 "com/example/failfirst/failfirst/Operator" "IMP" "Lcom/example/failfirst/failfirst/Operator;" (.ref w_IMP)) (E_IMP : Exa Z h0 w_IMP "com/example/failfirst/failfirst/Operator") (S_COMPARISON : Sta Z h0 "com/example/failfirst/failfirst/Operator$Kind" "COMPARISON" "Lcom/example/failfirst/failfirst/Operator$Kind;" (.ref w_COMPARISON)) (F_kind : Fld Z h0 wx "com/example/failfirst/failfirst/Operator" "kind" "Lcom/example/failfirst/failfirst/Operator$Kind;" (.ref wk)) (E_wx : Exa Z h0 wx "com/example/failfirst/failfirst/Operator") (hj0 : ¬ ((p1 &&& (2147483647 : Int32)) % (22 : Int32)) < 0) (hj1 : ((p1 &&& (2147483647 : Int32)) % (22 : Int32)) < (22 : Int32)) (hlt : (((p1 &&& (2147483647 : Int32)) % (22 : Int32))).toNatClampNeg < (22 : Int32).toNatClampNeg) (hsel : ([.ref w_NEG, .ref w_ABS, .ref w_ADD, .ref w_SUB, .ref w_MUL, .ref w_DIV, .ref w_MOD, .ref w_DIST, .ref w_MIN, .ref w_MAX, .ref w_LT, .ref w_LE, .ref w_GE, .ref w_GT, .ref w_EQ, .ref w_NE, .ref w_NOT, .ref w_AND, .ref w_OR, .ref w_XOR, .ref w_IFF, .ref w_IMP] : List Value).getD (((p1 &&& (2147483647 : Int32)) % (22 : Int32))).toNatClampNeg .null = .ref wx) (hkd : ¬ (wk = w_COMPARISON)) (ha170 : ¬ (wx = w_LT)) (ha177 : ¬ (wx = w_LE)) (ha184 : ¬ (wx = w_GE)) (ha191 : ¬ (wx = w_GT)) (ha198 : ¬ (wx = w_EQ)) (ha205 : ¬ (wx = w_NE)) (hk221 : (0 : Int32) = (0 : Int32)) :
    MetFree l x (head1 (Jvm.Cond.code x code maxLocals ret :: ws) room_1) (fun a U => a = #[(.int p1)] ∧ Z.Warmed39 U.vm ∧ U.heap = h0) (fun _ _ _ _ _ => True) (fun _ U o U' => ∃ v L, o = .returned v ∧ Q0 Z p1 h0 n0 v U'.heap L ∧ FrameEnd U o U' L room_1.cells room_1.slots) := by
  refine MetFree.of_bodySF (plainFor_of_name pn_0) hisR ?_
  intro p e s m args below meth c s₁ Bd hml0 hP hK
  obtain ⟨rfl, hZ, hh⟩ := hP
  have hx := Bd.exec
  have hby := Bd.bytes
  have hml : c.maxLocals = 5 := hml0
  have hown : s.vm.findClass "com/example/failfirst/failfirst/OperatorChainsPinLaw" = some m.cls := findClass_of_methodNamed Bd.named
  have hnm := (name_of_methodNamed Bd.named Bd.method).1
  have X0 : Stand p l e room_1 s m #[(.int p1)] below meth c s₁ [] 0 0 := Stand.of_body Bd
  have e0 : s₁.heap = h0 := by rw [← hh, Bd.state]; rfl
  have N0 := Fr.nil n0
  have pre0 : ∀ t, Steps p.tables e below (s₁.setTop (mkF m 0 #[.val (.int p1), .unset, .unset, .unset, .unset] [])) t → Steps p.tables e below (s₁.setTop (entryFrame m #[(.int p1)] maxLocals)) t := fun t k => castTop (ef_0 m p1) k
  obtain ⟨T2, h2, k2, X2, e2, E2, A2, O2, st2⟩ := newR X0 hx hZ hown (hw _ (List.mem_of_getElem? (i := 0) rfl)) (hw _ (List.mem_of_getElem? (i := 1) rfl)) e0 (g := (mkF m 2 #[.val (.int p1), .unset, .unset, .unset, .unset] [(.int (22 : Int32))])) rfl (hb hby at_2) rfl (by decide) (cap := 22) (by decide) (by decide) (by decide) (by decide)
  obtain ⟨b2, g2⟩ : ∃ z, z = h0.size := ⟨_, rfl⟩
  rw [← g2] at A2 st2
  have V_b2 : Arv Z h2 b2 k2 (.object "com/example/failfirst/failfirst/Operator") (22 : Int32) [.null, .null, .null, .null, .null, .null, .null, .null, .null, .null, .null, .null, .null, .null, .null, .null, .null, .null, .null, .null, .null, .null] .null := (Arv.new A2 (by decide)).pad (pad_rep [] .null 22)
  have g_b2 : n0 ≤ b2 := Nat.le_trans Z0 (Nat.le_of_eq g2.symm)
  have sz_b2 : h0.size ≤ b2 := (Nat.le_trans (Keep.refl h0 []).1 (Nat.le_of_eq g2.symm))
  have K2 : Keep h0 h2 [] := (Keep.refl h0 []).ext E2
  obtain ⟨T4, X4, e4, st4⟩ := getS2 X2 hx hZ hown (host := "") (Or.inl (hw _ (List.mem_of_getElem? (i := 2) rfl))) Via.refl e2 (S_NEG.ext E2) (g := (mkF m 7 #[.val (.int p1), .unset, .unset, .unset, .unset] [(.int (0 : Int32)), (.ref b2), (.ref b2)])) rfl (hb hby at_7)
  obtain ⟨cl_b2_10, Ar_b2, q_b2, S_b2, N_b2, H_b2, G_b2⟩ := V_b2
  have hin10 : ¬ ((0 : Int32) < 0 ∨ cl_b2_10.slots.size ≤ ((0 : Int32)).toNatClampNeg) := inb_of S_b2 ⟨by decide, by decide⟩
  have Sto10 : Sto Z h2 b2 (.ref w_NEG) := Sto.ofV Ar_b2 q_b2 O2 (Ins.self (E_NEG.ext E2))
  obtain ⟨T5, h5, X5, e5, W5, st5⟩ := stR X4 hx hZ e4 Ar_b2 (j := (0 : Int32)) hin10 rfl Sto10 (g := (mkF m 10 #[.val (.int p1), .unset, .unset, .unset, .unset] [(.ref w_NEG), (.int (0 : Int32)), (.ref b2), (.ref b2)])) rfl rfl (hb hby at_10)
  have V_b2_5 : Arv Z h5 b2 k2 (.object "com/example/failfirst/failfirst/Operator") (22 : Int32) [(.ref w_NEG), .null, .null, .null, .null, .null, .null, .null, .null, .null, .null, .null, .null, .null, .null, .null, .null, .null, .null, .null, .null, .null] .null := Arv.set Ar_b2 q_b2 S_b2 N_b2 H_b2 G_b2 rfl W5 0 rfl (Nat.le_of_ble_eq_true rfl)
  have K5 : Keep h0 h5 [] := K2.wr W5 (Or.inr sz_b2)
  have N5 := Fr.snoc X5 N0 g_b2
  obtain ⟨T7, X7, e7, st7⟩ := getS2 X5 hx hZ hown (host := "") (Or.inl (hw _ (List.mem_of_getElem? (i := 6) rfl))) Via.refl e5 ((S_ABS.ext E2).wr W5) (g := (mkF m 13 #[.val (.int p1), .unset, .unset, .unset, .unset] [(.int (1 : Int32)), (.ref b2), (.ref b2)])) rfl (hb hby at_13)
  obtain ⟨cl_b2_16, Ar_b2, q_b2, S_b2, N_b2, H_b2, G_b2⟩ := V_b2_5
  have hin16 : ¬ ((1 : Int32) < 0 ∨ cl_b2_16.slots.size ≤ ((1 : Int32)).toNatClampNeg) := inb_of S_b2 ⟨by decide, by decide⟩
  have Sto16 : Sto Z h5 b2 (.ref w_ABS) := Sto.ofV Ar_b2 q_b2 O2 (Ins.self ((E_ABS.ext E2).wr W5))
  obtain ⟨T8, h8, X8, e8, W8, st8⟩ := stR X7 hx hZ e7 Ar_b2 (j := (1 : Int32)) hin16 rfl Sto16 (g := (mkF m 16 #[.val (.int p1), .unset, .unset, .unset, .unset] [(.ref w_ABS), (.int (1 : Int32)), (.ref b2), (.ref b2)])) rfl rfl (hb hby at_16)
  have V_b2_8 : Arv Z h8 b2 k2 (.object "com/example/failfirst/failfirst/Operator") (22 : Int32) [(.ref w_NEG), (.ref w_ABS), .null, .null, .null, .null, .null, .null, .null, .null, .null, .null, .null, .null, .null, .null, .null, .null, .null, .null, .null, .null] .null := Arv.set Ar_b2 q_b2 S_b2 N_b2 H_b2 G_b2 rfl W8 1 rfl (Nat.le_of_ble_eq_true rfl)
  have K8 : Keep h0 h8 [] := K5.wr W8 (Or.inr sz_b2)
  have N8 := Fr.snoc X8 N5 g_b2
  obtain ⟨T10, X10, e10, st10⟩ := getS2 X8 hx hZ hown (host := "") (Or.inl (hw _ (List.mem_of_getElem? (i := 8) rfl))) Via.refl e8 (((S_ADD.ext E2).wr W5).wr W8) (g := (mkF m 19 #[.val (.int p1), .unset, .unset, .unset, .unset] [(.int (2 : Int32)), (.ref b2), (.ref b2)])) rfl (hb hby at_19)
  obtain ⟨cl_b2_22, Ar_b2, q_b2, S_b2, N_b2, H_b2, G_b2⟩ := V_b2_8
  have hin22 : ¬ ((2 : Int32) < 0 ∨ cl_b2_22.slots.size ≤ ((2 : Int32)).toNatClampNeg) := inb_of S_b2 ⟨by decide, by decide⟩
  have Sto22 : Sto Z h8 b2 (.ref w_ADD) := Sto.ofV Ar_b2 q_b2 O2 (Ins.self (((E_ADD.ext E2).wr W5).wr W8))
  obtain ⟨T11, h11, X11, e11, W11, st11⟩ := stR X10 hx hZ e10 Ar_b2 (j := (2 : Int32)) hin22 rfl Sto22 (g := (mkF m 22 #[.val (.int p1), .unset, .unset, .unset, .unset] [(.ref w_ADD), (.int (2 : Int32)), (.ref b2), (.ref b2)])) rfl rfl (hb hby at_22)
  have V_b2_11 : Arv Z h11 b2 k2 (.object "com/example/failfirst/failfirst/Operator") (22 : Int32) [(.ref w_NEG), (.ref w_ABS), (.ref w_ADD), .null, .null, .null, .null, .null, .null, .null, .null, .null, .null, .null, .null, .null, .null, .null, .null, .null, .null, .null] .null := Arv.set Ar_b2 q_b2 S_b2 N_b2 H_b2 G_b2 rfl W11 2 rfl (Nat.le_of_ble_eq_true rfl)
  have K11 : Keep h0 h11 [] := K8.wr W11 (Or.inr sz_b2)
  have N11 := Fr.snoc X11 N8 g_b2
  obtain ⟨T13, X13, e13, st13⟩ := getS2 X11 hx hZ hown (host := "") (Or.inl (hw _ (List.mem_of_getElem? (i := 10) rfl))) Via.refl e11 ((((S_SUB.ext E2).wr W5).wr W8).wr W11) (g := (mkF m 25 #[.val (.int p1), .unset, .unset, .unset, .unset] [(.int (3 : Int32)), (.ref b2), (.ref b2)])) rfl (hb hby at_25)
  obtain ⟨cl_b2_28, Ar_b2, q_b2, S_b2, N_b2, H_b2, G_b2⟩ := V_b2_11
  have hin28 : ¬ ((3 : Int32) < 0 ∨ cl_b2_28.slots.size ≤ ((3 : Int32)).toNatClampNeg) := inb_of S_b2 ⟨by decide, by decide⟩
  have Sto28 : Sto Z h11 b2 (.ref w_SUB) := Sto.ofV Ar_b2 q_b2 O2 (Ins.self ((((E_SUB.ext E2).wr W5).wr W8).wr W11))
  obtain ⟨T14, h14, X14, e14, W14, st14⟩ := stR X13 hx hZ e13 Ar_b2 (j := (3 : Int32)) hin28 rfl Sto28 (g := (mkF m 28 #[.val (.int p1), .unset, .unset, .unset, .unset] [(.ref w_SUB), (.int (3 : Int32)), (.ref b2), (.ref b2)])) rfl rfl (hb hby at_28)
  have V_b2_14 : Arv Z h14 b2 k2 (.object "com/example/failfirst/failfirst/Operator") (22 : Int32) [(.ref w_NEG), (.ref w_ABS), (.ref w_ADD), (.ref w_SUB), .null, .null, .null, .null, .null, .null, .null, .null, .null, .null, .null, .null, .null, .null, .null, .null, .null, .null] .null := Arv.set Ar_b2 q_b2 S_b2 N_b2 H_b2 G_b2 rfl W14 3 rfl (Nat.le_of_ble_eq_true rfl)
  have K14 : Keep h0 h14 [] := K11.wr W14 (Or.inr sz_b2)
  have N14 := Fr.snoc X14 N11 g_b2
  obtain ⟨T16, X16, e16, st16⟩ := getS2 X14 hx hZ hown (host := "") (Or.inl (hw _ (List.mem_of_getElem? (i := 12) rfl))) Via.refl e14 (((((S_MUL.ext E2).wr W5).wr W8).wr W11).wr W14) (g := (mkF m 31 #[.val (.int p1), .unset, .unset, .unset, .unset] [(.int (4 : Int32)), (.ref b2), (.ref b2)])) rfl (hb hby at_31)
  obtain ⟨cl_b2_34, Ar_b2, q_b2, S_b2, N_b2, H_b2, G_b2⟩ := V_b2_14
  have hin34 : ¬ ((4 : Int32) < 0 ∨ cl_b2_34.slots.size ≤ ((4 : Int32)).toNatClampNeg) := inb_of S_b2 ⟨by decide, by decide⟩
  have Sto34 : Sto Z h14 b2 (.ref w_MUL) := Sto.ofV Ar_b2 q_b2 O2 (Ins.self (((((E_MUL.ext E2).wr W5).wr W8).wr W11).wr W14))
  obtain ⟨T17, h17, X17, e17, W17, st17⟩ := stR X16 hx hZ e16 Ar_b2 (j := (4 : Int32)) hin34 rfl Sto34 (g := (mkF m 34 #[.val (.int p1), .unset, .unset, .unset, .unset] [(.ref w_MUL), (.int (4 : Int32)), (.ref b2), (.ref b2)])) rfl rfl (hb hby at_34)
  have V_b2_17 : Arv Z h17 b2 k2 (.object "com/example/failfirst/failfirst/Operator") (22 : Int32) [(.ref w_NEG), (.ref w_ABS), (.ref w_ADD), (.ref w_SUB), (.ref w_MUL), .null, .null, .null, .null, .null, .null, .null, .null, .null, .null, .null, .null, .null, .null, .null, .null, .null] .null := Arv.set Ar_b2 q_b2 S_b2 N_b2 H_b2 G_b2 rfl W17 4 rfl (Nat.le_of_ble_eq_true rfl)
  have K17 : Keep h0 h17 [] := K14.wr W17 (Or.inr sz_b2)
  have N17 := Fr.snoc X17 N14 g_b2
  obtain ⟨T19, X19, e19, st19⟩ := getS2 X17 hx hZ hown (host := "") (Or.inl (hw _ (List.mem_of_getElem? (i := 14) rfl))) Via.refl e17 ((((((S_DIV.ext E2).wr W5).wr W8).wr W11).wr W14).wr W17) (g := (mkF m 37 #[.val (.int p1), .unset, .unset, .unset, .unset] [(.int (5 : Int32)), (.ref b2), (.ref b2)])) rfl (hb hby at_37)
  obtain ⟨cl_b2_40, Ar_b2, q_b2, S_b2, N_b2, H_b2, G_b2⟩ := V_b2_17
  have hin40 : ¬ ((5 : Int32) < 0 ∨ cl_b2_40.slots.size ≤ ((5 : Int32)).toNatClampNeg) := inb_of S_b2 ⟨by decide, by decide⟩
  have Sto40 : Sto Z h17 b2 (.ref w_DIV) := Sto.ofV Ar_b2 q_b2 O2 (Ins.self ((((((E_DIV.ext E2).wr W5).wr W8).wr W11).wr W14).wr W17))
  obtain ⟨T20, h20, X20, e20, W20, st20⟩ := stR X19 hx hZ e19 Ar_b2 (j := (5 : Int32)) hin40 rfl Sto40 (g := (mkF m 40 #[.val (.int p1), .unset, .unset, .unset, .unset] [(.ref w_DIV), (.int (5 : Int32)), (.ref b2), (.ref b2)])) rfl rfl (hb hby at_40)
  have V_b2_20 : Arv Z h20 b2 k2 (.object "com/example/failfirst/failfirst/Operator") (22 : Int32) [(.ref w_NEG), (.ref w_ABS), (.ref w_ADD), (.ref w_SUB), (.ref w_MUL), (.ref w_DIV), .null, .null, .null, .null, .null, .null, .null, .null, .null, .null, .null, .null, .null, .null, .null, .null] .null := Arv.set Ar_b2 q_b2 S_b2 N_b2 H_b2 G_b2 rfl W20 5 rfl (Nat.le_of_ble_eq_true rfl)
  have K20 : Keep h0 h20 [] := K17.wr W20 (Or.inr sz_b2)
  have N20 := Fr.snoc X20 N17 g_b2
  obtain ⟨T22, X22, e22, st22⟩ := getS2 X20 hx hZ hown (host := "") (Or.inl (hw _ (List.mem_of_getElem? (i := 16) rfl))) Via.refl e20 (((((((S_MOD.ext E2).wr W5).wr W8).wr W11).wr W14).wr W17).wr W20) (g := (mkF m 44 #[.val (.int p1), .unset, .unset, .unset, .unset] [(.int (6 : Int32)), (.ref b2), (.ref b2)])) rfl (hb hby at_44)
  obtain ⟨cl_b2_47, Ar_b2, q_b2, S_b2, N_b2, H_b2, G_b2⟩ := V_b2_20
  have hin47 : ¬ ((6 : Int32) < 0 ∨ cl_b2_47.slots.size ≤ ((6 : Int32)).toNatClampNeg) := inb_of S_b2 ⟨by decide, by decide⟩
  have Sto47 : Sto Z h20 b2 (.ref w_MOD) := Sto.ofV Ar_b2 q_b2 O2 (Ins.self (((((((E_MOD.ext E2).wr W5).wr W8).wr W11).wr W14).wr W17).wr W20))
  obtain ⟨T23, h23, X23, e23, W23, st23⟩ := stR X22 hx hZ e22 Ar_b2 (j := (6 : Int32)) hin47 rfl Sto47 (g := (mkF m 47 #[.val (.int p1), .unset, .unset, .unset, .unset] [(.ref w_MOD), (.int (6 : Int32)), (.ref b2), (.ref b2)])) rfl rfl (hb hby at_47)
  have V_b2_23 : Arv Z h23 b2 k2 (.object "com/example/failfirst/failfirst/Operator") (22 : Int32) [(.ref w_NEG), (.ref w_ABS), (.ref w_ADD), (.ref w_SUB), (.ref w_MUL), (.ref w_DIV), (.ref w_MOD), .null, .null, .null, .null, .null, .null, .null, .null, .null, .null, .null, .null, .null, .null, .null] .null := Arv.set Ar_b2 q_b2 S_b2 N_b2 H_b2 G_b2 rfl W23 6 rfl (Nat.le_of_ble_eq_true rfl)
  have K23 : Keep h0 h23 [] := K20.wr W23 (Or.inr sz_b2)
  have N23 := Fr.snoc X23 N20 g_b2
  obtain ⟨T25, X25, e25, st25⟩ := getS2 X23 hx hZ hown (host := "") (Or.inl (hw _ (List.mem_of_getElem? (i := 18) rfl))) Via.refl e23 ((((((((S_DIST.ext E2).wr W5).wr W8).wr W11).wr W14).wr W17).wr W20).wr W23) (g := (mkF m 51 #[.val (.int p1), .unset, .unset, .unset, .unset] [(.int (7 : Int32)), (.ref b2), (.ref b2)])) rfl (hb hby at_51)
  obtain ⟨cl_b2_54, Ar_b2, q_b2, S_b2, N_b2, H_b2, G_b2⟩ := V_b2_23
  have hin54 : ¬ ((7 : Int32) < 0 ∨ cl_b2_54.slots.size ≤ ((7 : Int32)).toNatClampNeg) := inb_of S_b2 ⟨by decide, by decide⟩
  have Sto54 : Sto Z h23 b2 (.ref w_DIST) := Sto.ofV Ar_b2 q_b2 O2 (Ins.self ((((((((E_DIST.ext E2).wr W5).wr W8).wr W11).wr W14).wr W17).wr W20).wr W23))
  obtain ⟨T26, h26, X26, e26, W26, st26⟩ := stR X25 hx hZ e25 Ar_b2 (j := (7 : Int32)) hin54 rfl Sto54 (g := (mkF m 54 #[.val (.int p1), .unset, .unset, .unset, .unset] [(.ref w_DIST), (.int (7 : Int32)), (.ref b2), (.ref b2)])) rfl rfl (hb hby at_54)
  have V_b2_26 : Arv Z h26 b2 k2 (.object "com/example/failfirst/failfirst/Operator") (22 : Int32) [(.ref w_NEG), (.ref w_ABS), (.ref w_ADD), (.ref w_SUB), (.ref w_MUL), (.ref w_DIV), (.ref w_MOD), (.ref w_DIST), .null, .null, .null, .null, .null, .null, .null, .null, .null, .null, .null, .null, .null, .null] .null := Arv.set Ar_b2 q_b2 S_b2 N_b2 H_b2 G_b2 rfl W26 7 rfl (Nat.le_of_ble_eq_true rfl)
  have K26 : Keep h0 h26 [] := K23.wr W26 (Or.inr sz_b2)
  have N26 := Fr.snoc X26 N23 g_b2
  obtain ⟨T28, X28, e28, st28⟩ := getS2 X26 hx hZ hown (host := "") (Or.inl (hw _ (List.mem_of_getElem? (i := 20) rfl))) Via.refl e26 (((((((((S_MIN.ext E2).wr W5).wr W8).wr W11).wr W14).wr W17).wr W20).wr W23).wr W26) (g := (mkF m 58 #[.val (.int p1), .unset, .unset, .unset, .unset] [(.int (8 : Int32)), (.ref b2), (.ref b2)])) rfl (hb hby at_58)
  obtain ⟨cl_b2_61, Ar_b2, q_b2, S_b2, N_b2, H_b2, G_b2⟩ := V_b2_26
  have hin61 : ¬ ((8 : Int32) < 0 ∨ cl_b2_61.slots.size ≤ ((8 : Int32)).toNatClampNeg) := inb_of S_b2 ⟨by decide, by decide⟩
  have Sto61 : Sto Z h26 b2 (.ref w_MIN) := Sto.ofV Ar_b2 q_b2 O2 (Ins.self (((((((((E_MIN.ext E2).wr W5).wr W8).wr W11).wr W14).wr W17).wr W20).wr W23).wr W26))
  obtain ⟨T29, h29, X29, e29, W29, st29⟩ := stR X28 hx hZ e28 Ar_b2 (j := (8 : Int32)) hin61 rfl Sto61 (g := (mkF m 61 #[.val (.int p1), .unset, .unset, .unset, .unset] [(.ref w_MIN), (.int (8 : Int32)), (.ref b2), (.ref b2)])) rfl rfl (hb hby at_61)
  have V_b2_29 : Arv Z h29 b2 k2 (.object "com/example/failfirst/failfirst/Operator") (22 : Int32) [(.ref w_NEG), (.ref w_ABS), (.ref w_ADD), (.ref w_SUB), (.ref w_MUL), (.ref w_DIV), (.ref w_MOD), (.ref w_DIST), (.ref w_MIN), .null, .null, .null, .null, .null, .null, .null, .null, .null, .null, .null, .null, .null] .null := Arv.set Ar_b2 q_b2 S_b2 N_b2 H_b2 G_b2 rfl W29 8 rfl (Nat.le_of_ble_eq_true rfl)
  have K29 : Keep h0 h29 [] := K26.wr W29 (Or.inr sz_b2)
  have N29 := Fr.snoc X29 N26 g_b2
  obtain ⟨T31, X31, e31, st31⟩ := getS2 X29 hx hZ hown (host := "") (Or.inl (hw _ (List.mem_of_getElem? (i := 22) rfl))) Via.refl e29 ((((((((((S_MAX.ext E2).wr W5).wr W8).wr W11).wr W14).wr W17).wr W20).wr W23).wr W26).wr W29) (g := (mkF m 65 #[.val (.int p1), .unset, .unset, .unset, .unset] [(.int (9 : Int32)), (.ref b2), (.ref b2)])) rfl (hb hby at_65)
  obtain ⟨cl_b2_68, Ar_b2, q_b2, S_b2, N_b2, H_b2, G_b2⟩ := V_b2_29
  have hin68 : ¬ ((9 : Int32) < 0 ∨ cl_b2_68.slots.size ≤ ((9 : Int32)).toNatClampNeg) := inb_of S_b2 ⟨by decide, by decide⟩
  have Sto68 : Sto Z h29 b2 (.ref w_MAX) := Sto.ofV Ar_b2 q_b2 O2 (Ins.self ((((((((((E_MAX.ext E2).wr W5).wr W8).wr W11).wr W14).wr W17).wr W20).wr W23).wr W26).wr W29))
  obtain ⟨T32, h32, X32, e32, W32, st32⟩ := stR X31 hx hZ e31 Ar_b2 (j := (9 : Int32)) hin68 rfl Sto68 (g := (mkF m 68 #[.val (.int p1), .unset, .unset, .unset, .unset] [(.ref w_MAX), (.int (9 : Int32)), (.ref b2), (.ref b2)])) rfl rfl (hb hby at_68)
  have V_b2_32 : Arv Z h32 b2 k2 (.object "com/example/failfirst/failfirst/Operator") (22 : Int32) [(.ref w_NEG), (.ref w_ABS), (.ref w_ADD), (.ref w_SUB), (.ref w_MUL), (.ref w_DIV), (.ref w_MOD), (.ref w_DIST), (.ref w_MIN), (.ref w_MAX), .null, .null, .null, .null, .null, .null, .null, .null, .null, .null, .null, .null] .null := Arv.set Ar_b2 q_b2 S_b2 N_b2 H_b2 G_b2 rfl W32 9 rfl (Nat.le_of_ble_eq_true rfl)
  have K32 : Keep h0 h32 [] := K29.wr W32 (Or.inr sz_b2)
  have N32 := Fr.snoc X32 N29 g_b2
  obtain ⟨T34, X34, e34, st34⟩ := getS2 X32 hx hZ hown (host := "") (Or.inl (hw _ (List.mem_of_getElem? (i := 24) rfl))) Via.refl e32 (((((((((((S_LT.ext E2).wr W5).wr W8).wr W11).wr W14).wr W17).wr W20).wr W23).wr W26).wr W29).wr W32) (g := (mkF m 72 #[.val (.int p1), .unset, .unset, .unset, .unset] [(.int (10 : Int32)), (.ref b2), (.ref b2)])) rfl (hb hby at_72)
  obtain ⟨cl_b2_75, Ar_b2, q_b2, S_b2, N_b2, H_b2, G_b2⟩ := V_b2_32
  have hin75 : ¬ ((10 : Int32) < 0 ∨ cl_b2_75.slots.size ≤ ((10 : Int32)).toNatClampNeg) := inb_of S_b2 ⟨by decide, by decide⟩
  have Sto75 : Sto Z h32 b2 (.ref w_LT) := Sto.ofV Ar_b2 q_b2 O2 (Ins.self (((((((((((E_LT.ext E2).wr W5).wr W8).wr W11).wr W14).wr W17).wr W20).wr W23).wr W26).wr W29).wr W32))
  obtain ⟨T35, h35, X35, e35, W35, st35⟩ := stR X34 hx hZ e34 Ar_b2 (j := (10 : Int32)) hin75 rfl Sto75 (g := (mkF m 75 #[.val (.int p1), .unset, .unset, .unset, .unset] [(.ref w_LT), (.int (10 : Int32)), (.ref b2), (.ref b2)])) rfl rfl (hb hby at_75)
  have V_b2_35 : Arv Z h35 b2 k2 (.object "com/example/failfirst/failfirst/Operator") (22 : Int32) [(.ref w_NEG), (.ref w_ABS), (.ref w_ADD), (.ref w_SUB), (.ref w_MUL), (.ref w_DIV), (.ref w_MOD), (.ref w_DIST), (.ref w_MIN), (.ref w_MAX), (.ref w_LT), .null, .null, .null, .null, .null, .null, .null, .null, .null, .null, .null] .null := Arv.set Ar_b2 q_b2 S_b2 N_b2 H_b2 G_b2 rfl W35 10 rfl (Nat.le_of_ble_eq_true rfl)
  have K35 : Keep h0 h35 [] := K32.wr W35 (Or.inr sz_b2)
  have N35 := Fr.snoc X35 N32 g_b2
  obtain ⟨T37, X37, e37, st37⟩ := getS2 X35 hx hZ hown (host := "") (Or.inl (hw _ (List.mem_of_getElem? (i := 26) rfl))) Via.refl e35 ((((((((((((S_LE.ext E2).wr W5).wr W8).wr W11).wr W14).wr W17).wr W20).wr W23).wr W26).wr W29).wr W32).wr W35) (g := (mkF m 79 #[.val (.int p1), .unset, .unset, .unset, .unset] [(.int (11 : Int32)), (.ref b2), (.ref b2)])) rfl (hb hby at_79)
  obtain ⟨cl_b2_82, Ar_b2, q_b2, S_b2, N_b2, H_b2, G_b2⟩ := V_b2_35
  have hin82 : ¬ ((11 : Int32) < 0 ∨ cl_b2_82.slots.size ≤ ((11 : Int32)).toNatClampNeg) := inb_of S_b2 ⟨by decide, by decide⟩
  have Sto82 : Sto Z h35 b2 (.ref w_LE) := Sto.ofV Ar_b2 q_b2 O2 (Ins.self ((((((((((((E_LE.ext E2).wr W5).wr W8).wr W11).wr W14).wr W17).wr W20).wr W23).wr W26).wr W29).wr W32).wr W35))
  obtain ⟨T38, h38, X38, e38, W38, st38⟩ := stR X37 hx hZ e37 Ar_b2 (j := (11 : Int32)) hin82 rfl Sto82 (g := (mkF m 82 #[.val (.int p1), .unset, .unset, .unset, .unset] [(.ref w_LE), (.int (11 : Int32)), (.ref b2), (.ref b2)])) rfl rfl (hb hby at_82)
  have V_b2_38 : Arv Z h38 b2 k2 (.object "com/example/failfirst/failfirst/Operator") (22 : Int32) [(.ref w_NEG), (.ref w_ABS), (.ref w_ADD), (.ref w_SUB), (.ref w_MUL), (.ref w_DIV), (.ref w_MOD), (.ref w_DIST), (.ref w_MIN), (.ref w_MAX), (.ref w_LT), (.ref w_LE), .null, .null, .null, .null, .null, .null, .null, .null, .null, .null] .null := Arv.set Ar_b2 q_b2 S_b2 N_b2 H_b2 G_b2 rfl W38 11 rfl (Nat.le_of_ble_eq_true rfl)
  have K38 : Keep h0 h38 [] := K35.wr W38 (Or.inr sz_b2)
  have N38 := Fr.snoc X38 N35 g_b2
  obtain ⟨T40, X40, e40, st40⟩ := getS2 X38 hx hZ hown (host := "") (Or.inl (hw _ (List.mem_of_getElem? (i := 28) rfl))) Via.refl e38 (((((((((((((S_GE.ext E2).wr W5).wr W8).wr W11).wr W14).wr W17).wr W20).wr W23).wr W26).wr W29).wr W32).wr W35).wr W38) (g := (mkF m 86 #[.val (.int p1), .unset, .unset, .unset, .unset] [(.int (12 : Int32)), (.ref b2), (.ref b2)])) rfl (hb hby at_86)
  obtain ⟨cl_b2_89, Ar_b2, q_b2, S_b2, N_b2, H_b2, G_b2⟩ := V_b2_38
  have hin89 : ¬ ((12 : Int32) < 0 ∨ cl_b2_89.slots.size ≤ ((12 : Int32)).toNatClampNeg) := inb_of S_b2 ⟨by decide, by decide⟩
  have Sto89 : Sto Z h38 b2 (.ref w_GE) := Sto.ofV Ar_b2 q_b2 O2 (Ins.self (((((((((((((E_GE.ext E2).wr W5).wr W8).wr W11).wr W14).wr W17).wr W20).wr W23).wr W26).wr W29).wr W32).wr W35).wr W38))
  obtain ⟨T41, h41, X41, e41, W41, st41⟩ := stR X40 hx hZ e40 Ar_b2 (j := (12 : Int32)) hin89 rfl Sto89 (g := (mkF m 89 #[.val (.int p1), .unset, .unset, .unset, .unset] [(.ref w_GE), (.int (12 : Int32)), (.ref b2), (.ref b2)])) rfl rfl (hb hby at_89)
  have V_b2_41 : Arv Z h41 b2 k2 (.object "com/example/failfirst/failfirst/Operator") (22 : Int32) [(.ref w_NEG), (.ref w_ABS), (.ref w_ADD), (.ref w_SUB), (.ref w_MUL), (.ref w_DIV), (.ref w_MOD), (.ref w_DIST), (.ref w_MIN), (.ref w_MAX), (.ref w_LT), (.ref w_LE), (.ref w_GE), .null, .null, .null, .null, .null, .null, .null, .null, .null] .null := Arv.set Ar_b2 q_b2 S_b2 N_b2 H_b2 G_b2 rfl W41 12 rfl (Nat.le_of_ble_eq_true rfl)
  have K41 : Keep h0 h41 [] := K38.wr W41 (Or.inr sz_b2)
  have N41 := Fr.snoc X41 N38 g_b2
  obtain ⟨T43, X43, e43, st43⟩ := getS2 X41 hx hZ hown (host := "") (Or.inl (hw _ (List.mem_of_getElem? (i := 30) rfl))) Via.refl e41 ((((((((((((((S_GT.ext E2).wr W5).wr W8).wr W11).wr W14).wr W17).wr W20).wr W23).wr W26).wr W29).wr W32).wr W35).wr W38).wr W41) (g := (mkF m 93 #[.val (.int p1), .unset, .unset, .unset, .unset] [(.int (13 : Int32)), (.ref b2), (.ref b2)])) rfl (hb hby at_93)
  obtain ⟨cl_b2_96, Ar_b2, q_b2, S_b2, N_b2, H_b2, G_b2⟩ := V_b2_41
  have hin96 : ¬ ((13 : Int32) < 0 ∨ cl_b2_96.slots.size ≤ ((13 : Int32)).toNatClampNeg) := inb_of S_b2 ⟨by decide, by decide⟩
  have Sto96 : Sto Z h41 b2 (.ref w_GT) := Sto.ofV Ar_b2 q_b2 O2 (Ins.self ((((((((((((((E_GT.ext E2).wr W5).wr W8).wr W11).wr W14).wr W17).wr W20).wr W23).wr W26).wr W29).wr W32).wr W35).wr W38).wr W41))
  obtain ⟨T44, h44, X44, e44, W44, st44⟩ := stR X43 hx hZ e43 Ar_b2 (j := (13 : Int32)) hin96 rfl Sto96 (g := (mkF m 96 #[.val (.int p1), .unset, .unset, .unset, .unset] [(.ref w_GT), (.int (13 : Int32)), (.ref b2), (.ref b2)])) rfl rfl (hb hby at_96)
  have V_b2_44 : Arv Z h44 b2 k2 (.object "com/example/failfirst/failfirst/Operator") (22 : Int32) [(.ref w_NEG), (.ref w_ABS), (.ref w_ADD), (.ref w_SUB), (.ref w_MUL), (.ref w_DIV), (.ref w_MOD), (.ref w_DIST), (.ref w_MIN), (.ref w_MAX), (.ref w_LT), (.ref w_LE), (.ref w_GE), (.ref w_GT), .null, .null, .null, .null, .null, .null, .null, .null] .null := Arv.set Ar_b2 q_b2 S_b2 N_b2 H_b2 G_b2 rfl W44 13 rfl (Nat.le_of_ble_eq_true rfl)
  have K44 : Keep h0 h44 [] := K41.wr W44 (Or.inr sz_b2)
  have N44 := Fr.snoc X44 N41 g_b2
  obtain ⟨T46, X46, e46, st46⟩ := getS2 X44 hx hZ hown (host := "") (Or.inl (hw _ (List.mem_of_getElem? (i := 32) rfl))) Via.refl e44 (((((((((((((((S_EQ.ext E2).wr W5).wr W8).wr W11).wr W14).wr W17).wr W20).wr W23).wr W26).wr W29).wr W32).wr W35).wr W38).wr W41).wr W44) (g := (mkF m 100 #[.val (.int p1), .unset, .unset, .unset, .unset] [(.int (14 : Int32)), (.ref b2), (.ref b2)])) rfl (hb hby at_100)
  obtain ⟨cl_b2_103, Ar_b2, q_b2, S_b2, N_b2, H_b2, G_b2⟩ := V_b2_44
  have hin103 : ¬ ((14 : Int32) < 0 ∨ cl_b2_103.slots.size ≤ ((14 : Int32)).toNatClampNeg) := inb_of S_b2 ⟨by decide, by decide⟩
  have Sto103 : Sto Z h44 b2 (.ref w_EQ) := Sto.ofV Ar_b2 q_b2 O2 (Ins.self (((((((((((((((E_EQ.ext E2).wr W5).wr W8).wr W11).wr W14).wr W17).wr W20).wr W23).wr W26).wr W29).wr W32).wr W35).wr W38).wr W41).wr W44))
  obtain ⟨T47, h47, X47, e47, W47, st47⟩ := stR X46 hx hZ e46 Ar_b2 (j := (14 : Int32)) hin103 rfl Sto103 (g := (mkF m 103 #[.val (.int p1), .unset, .unset, .unset, .unset] [(.ref w_EQ), (.int (14 : Int32)), (.ref b2), (.ref b2)])) rfl rfl (hb hby at_103)
  have V_b2_47 : Arv Z h47 b2 k2 (.object "com/example/failfirst/failfirst/Operator") (22 : Int32) [(.ref w_NEG), (.ref w_ABS), (.ref w_ADD), (.ref w_SUB), (.ref w_MUL), (.ref w_DIV), (.ref w_MOD), (.ref w_DIST), (.ref w_MIN), (.ref w_MAX), (.ref w_LT), (.ref w_LE), (.ref w_GE), (.ref w_GT), (.ref w_EQ), .null, .null, .null, .null, .null, .null, .null] .null := Arv.set Ar_b2 q_b2 S_b2 N_b2 H_b2 G_b2 rfl W47 14 rfl (Nat.le_of_ble_eq_true rfl)
  have K47 : Keep h0 h47 [] := K44.wr W47 (Or.inr sz_b2)
  have N47 := Fr.snoc X47 N44 g_b2
  obtain ⟨T49, X49, e49, st49⟩ := getS2 X47 hx hZ hown (host := "") (Or.inl (hw _ (List.mem_of_getElem? (i := 34) rfl))) Via.refl e47 ((((((((((((((((S_NE.ext E2).wr W5).wr W8).wr W11).wr W14).wr W17).wr W20).wr W23).wr W26).wr W29).wr W32).wr W35).wr W38).wr W41).wr W44).wr W47) (g := (mkF m 107 #[.val (.int p1), .unset, .unset, .unset, .unset] [(.int (15 : Int32)), (.ref b2), (.ref b2)])) rfl (hb hby at_107)
  obtain ⟨cl_b2_110, Ar_b2, q_b2, S_b2, N_b2, H_b2, G_b2⟩ := V_b2_47
  have hin110 : ¬ ((15 : Int32) < 0 ∨ cl_b2_110.slots.size ≤ ((15 : Int32)).toNatClampNeg) := inb_of S_b2 ⟨by decide, by decide⟩
  have Sto110 : Sto Z h47 b2 (.ref w_NE) := Sto.ofV Ar_b2 q_b2 O2 (Ins.self ((((((((((((((((E_NE.ext E2).wr W5).wr W8).wr W11).wr W14).wr W17).wr W20).wr W23).wr W26).wr W29).wr W32).wr W35).wr W38).wr W41).wr W44).wr W47))
  obtain ⟨T50, h50, X50, e50, W50, st50⟩ := stR X49 hx hZ e49 Ar_b2 (j := (15 : Int32)) hin110 rfl Sto110 (g := (mkF m 110 #[.val (.int p1), .unset, .unset, .unset, .unset] [(.ref w_NE), (.int (15 : Int32)), (.ref b2), (.ref b2)])) rfl rfl (hb hby at_110)
  have V_b2_50 : Arv Z h50 b2 k2 (.object "com/example/failfirst/failfirst/Operator") (22 : Int32) [(.ref w_NEG), (.ref w_ABS), (.ref w_ADD), (.ref w_SUB), (.ref w_MUL), (.ref w_DIV), (.ref w_MOD), (.ref w_DIST), (.ref w_MIN), (.ref w_MAX), (.ref w_LT), (.ref w_LE), (.ref w_GE), (.ref w_GT), (.ref w_EQ), (.ref w_NE), .null, .null, .null, .null, .null, .null] .null := Arv.set Ar_b2 q_b2 S_b2 N_b2 H_b2 G_b2 rfl W50 15 rfl (Nat.le_of_ble_eq_true rfl)
  have K50 : Keep h0 h50 [] := K47.wr W50 (Or.inr sz_b2)
  have N50 := Fr.snoc X50 N47 g_b2
  obtain ⟨T52, X52, e52, st52⟩ := getS2 X50 hx hZ hown (host := "") (Or.inl (hw _ (List.mem_of_getElem? (i := 36) rfl))) Via.refl e50 (((((((((((((((((S_NOT.ext E2).wr W5).wr W8).wr W11).wr W14).wr W17).wr W20).wr W23).wr W26).wr W29).wr W32).wr W35).wr W38).wr W41).wr W44).wr W47).wr W50) (g := (mkF m 114 #[.val (.int p1), .unset, .unset, .unset, .unset] [(.int (16 : Int32)), (.ref b2), (.ref b2)])) rfl (hb hby at_114)
  obtain ⟨cl_b2_117, Ar_b2, q_b2, S_b2, N_b2, H_b2, G_b2⟩ := V_b2_50
  have hin117 : ¬ ((16 : Int32) < 0 ∨ cl_b2_117.slots.size ≤ ((16 : Int32)).toNatClampNeg) := inb_of S_b2 ⟨by decide, by decide⟩
  have Sto117 : Sto Z h50 b2 (.ref w_NOT) := Sto.ofV Ar_b2 q_b2 O2 (Ins.self (((((((((((((((((E_NOT.ext E2).wr W5).wr W8).wr W11).wr W14).wr W17).wr W20).wr W23).wr W26).wr W29).wr W32).wr W35).wr W38).wr W41).wr W44).wr W47).wr W50))
  obtain ⟨T53, h53, X53, e53, W53, st53⟩ := stR X52 hx hZ e52 Ar_b2 (j := (16 : Int32)) hin117 rfl Sto117 (g := (mkF m 117 #[.val (.int p1), .unset, .unset, .unset, .unset] [(.ref w_NOT), (.int (16 : Int32)), (.ref b2), (.ref b2)])) rfl rfl (hb hby at_117)
  have V_b2_53 : Arv Z h53 b2 k2 (.object "com/example/failfirst/failfirst/Operator") (22 : Int32) [(.ref w_NEG), (.ref w_ABS), (.ref w_ADD), (.ref w_SUB), (.ref w_MUL), (.ref w_DIV), (.ref w_MOD), (.ref w_DIST), (.ref w_MIN), (.ref w_MAX), (.ref w_LT), (.ref w_LE), (.ref w_GE), (.ref w_GT), (.ref w_EQ), (.ref w_NE), (.ref w_NOT), .null, .null, .null, .null, .null] .null := Arv.set Ar_b2 q_b2 S_b2 N_b2 H_b2 G_b2 rfl W53 16 rfl (Nat.le_of_ble_eq_true rfl)
  have K53 : Keep h0 h53 [] := K50.wr W53 (Or.inr sz_b2)
  have N53 := Fr.snoc X53 N50 g_b2
  obtain ⟨T55, X55, e55, st55⟩ := getS2 X53 hx hZ hown (host := "") (Or.inl (hw _ (List.mem_of_getElem? (i := 38) rfl))) Via.refl e53 ((((((((((((((((((S_AND.ext E2).wr W5).wr W8).wr W11).wr W14).wr W17).wr W20).wr W23).wr W26).wr W29).wr W32).wr W35).wr W38).wr W41).wr W44).wr W47).wr W50).wr W53) (g := (mkF m 121 #[.val (.int p1), .unset, .unset, .unset, .unset] [(.int (17 : Int32)), (.ref b2), (.ref b2)])) rfl (hb hby at_121)
  obtain ⟨cl_b2_124, Ar_b2, q_b2, S_b2, N_b2, H_b2, G_b2⟩ := V_b2_53
  have hin124 : ¬ ((17 : Int32) < 0 ∨ cl_b2_124.slots.size ≤ ((17 : Int32)).toNatClampNeg) := inb_of S_b2 ⟨by decide, by decide⟩
  have Sto124 : Sto Z h53 b2 (.ref w_AND) := Sto.ofV Ar_b2 q_b2 O2 (Ins.self ((((((((((((((((((E_AND.ext E2).wr W5).wr W8).wr W11).wr W14).wr W17).wr W20).wr W23).wr W26).wr W29).wr W32).wr W35).wr W38).wr W41).wr W44).wr W47).wr W50).wr W53))
  obtain ⟨T56, h56, X56, e56, W56, st56⟩ := stR X55 hx hZ e55 Ar_b2 (j := (17 : Int32)) hin124 rfl Sto124 (g := (mkF m 124 #[.val (.int p1), .unset, .unset, .unset, .unset] [(.ref w_AND), (.int (17 : Int32)), (.ref b2), (.ref b2)])) rfl rfl (hb hby at_124)
  have V_b2_56 : Arv Z h56 b2 k2 (.object "com/example/failfirst/failfirst/Operator") (22 : Int32) [(.ref w_NEG), (.ref w_ABS), (.ref w_ADD), (.ref w_SUB), (.ref w_MUL), (.ref w_DIV), (.ref w_MOD), (.ref w_DIST), (.ref w_MIN), (.ref w_MAX), (.ref w_LT), (.ref w_LE), (.ref w_GE), (.ref w_GT), (.ref w_EQ), (.ref w_NE), (.ref w_NOT), (.ref w_AND), .null, .null, .null, .null] .null := Arv.set Ar_b2 q_b2 S_b2 N_b2 H_b2 G_b2 rfl W56 17 rfl (Nat.le_of_ble_eq_true rfl)
  have K56 : Keep h0 h56 [] := K53.wr W56 (Or.inr sz_b2)
  have N56 := Fr.snoc X56 N53 g_b2
  obtain ⟨T58, X58, e58, st58⟩ := getS2 X56 hx hZ hown (host := "") (Or.inl (hw _ (List.mem_of_getElem? (i := 40) rfl))) Via.refl e56 (((((((((((((((((((S_OR.ext E2).wr W5).wr W8).wr W11).wr W14).wr W17).wr W20).wr W23).wr W26).wr W29).wr W32).wr W35).wr W38).wr W41).wr W44).wr W47).wr W50).wr W53).wr W56) (g := (mkF m 128 #[.val (.int p1), .unset, .unset, .unset, .unset] [(.int (18 : Int32)), (.ref b2), (.ref b2)])) rfl (hb hby at_128)
  obtain ⟨cl_b2_131, Ar_b2, q_b2, S_b2, N_b2, H_b2, G_b2⟩ := V_b2_56
  have hin131 : ¬ ((18 : Int32) < 0 ∨ cl_b2_131.slots.size ≤ ((18 : Int32)).toNatClampNeg) := inb_of S_b2 ⟨by decide, by decide⟩
  have Sto131 : Sto Z h56 b2 (.ref w_OR) := Sto.ofV Ar_b2 q_b2 O2 (Ins.self (((((((((((((((((((E_OR.ext E2).wr W5).wr W8).wr W11).wr W14).wr W17).wr W20).wr W23).wr W26).wr W29).wr W32).wr W35).wr W38).wr W41).wr W44).wr W47).wr W50).wr W53).wr W56))
  obtain ⟨T59, h59, X59, e59, W59, st59⟩ := stR X58 hx hZ e58 Ar_b2 (j := (18 : Int32)) hin131 rfl Sto131 (g := (mkF m 131 #[.val (.int p1), .unset, .unset, .unset, .unset] [(.ref w_OR), (.int (18 : Int32)), (.ref b2), (.ref b2)])) rfl rfl (hb hby at_131)
  have V_b2_59 : Arv Z h59 b2 k2 (.object "com/example/failfirst/failfirst/Operator") (22 : Int32) [(.ref w_NEG), (.ref w_ABS), (.ref w_ADD), (.ref w_SUB), (.ref w_MUL), (.ref w_DIV), (.ref w_MOD), (.ref w_DIST), (.ref w_MIN), (.ref w_MAX), (.ref w_LT), (.ref w_LE), (.ref w_GE), (.ref w_GT), (.ref w_EQ), (.ref w_NE), (.ref w_NOT), (.ref w_AND), (.ref w_OR), .null, .null, .null] .null := Arv.set Ar_b2 q_b2 S_b2 N_b2 H_b2 G_b2 rfl W59 18 rfl (Nat.le_of_ble_eq_true rfl)
  have K59 : Keep h0 h59 [] := K56.wr W59 (Or.inr sz_b2)
  have N59 := Fr.snoc X59 N56 g_b2
  obtain ⟨T61, X61, e61, st61⟩ := getS2 X59 hx hZ hown (host := "") (Or.inl (hw _ (List.mem_of_getElem? (i := 42) rfl))) Via.refl e59 ((((((((((((((((((((S_XOR.ext E2).wr W5).wr W8).wr W11).wr W14).wr W17).wr W20).wr W23).wr W26).wr W29).wr W32).wr W35).wr W38).wr W41).wr W44).wr W47).wr W50).wr W53).wr W56).wr W59) (g := (mkF m 135 #[.val (.int p1), .unset, .unset, .unset, .unset] [(.int (19 : Int32)), (.ref b2), (.ref b2)])) rfl (hb hby at_135)
  obtain ⟨cl_b2_138, Ar_b2, q_b2, S_b2, N_b2, H_b2, G_b2⟩ := V_b2_59
  have hin138 : ¬ ((19 : Int32) < 0 ∨ cl_b2_138.slots.size ≤ ((19 : Int32)).toNatClampNeg) := inb_of S_b2 ⟨by decide, by decide⟩
  have Sto138 : Sto Z h59 b2 (.ref w_XOR) := Sto.ofV Ar_b2 q_b2 O2 (Ins.self ((((((((((((((((((((E_XOR.ext E2).wr W5).wr W8).wr W11).wr W14).wr W17).wr W20).wr W23).wr W26).wr W29).wr W32).wr W35).wr W38).wr W41).wr W44).wr W47).wr W50).wr W53).wr W56).wr W59))
  obtain ⟨T62, h62, X62, e62, W62, st62⟩ := stR X61 hx hZ e61 Ar_b2 (j := (19 : Int32)) hin138 rfl Sto138 (g := (mkF m 138 #[.val (.int p1), .unset, .unset, .unset, .unset] [(.ref w_XOR), (.int (19 : Int32)), (.ref b2), (.ref b2)])) rfl rfl (hb hby at_138)
  have V_b2_62 : Arv Z h62 b2 k2 (.object "com/example/failfirst/failfirst/Operator") (22 : Int32) [(.ref w_NEG), (.ref w_ABS), (.ref w_ADD), (.ref w_SUB), (.ref w_MUL), (.ref w_DIV), (.ref w_MOD), (.ref w_DIST), (.ref w_MIN), (.ref w_MAX), (.ref w_LT), (.ref w_LE), (.ref w_GE), (.ref w_GT), (.ref w_EQ), (.ref w_NE), (.ref w_NOT), (.ref w_AND), (.ref w_OR), (.ref w_XOR), .null, .null] .null := Arv.set Ar_b2 q_b2 S_b2 N_b2 H_b2 G_b2 rfl W62 19 rfl (Nat.le_of_ble_eq_true rfl)
  have K62 : Keep h0 h62 [] := K59.wr W62 (Or.inr sz_b2)
  have N62 := Fr.snoc X62 N59 g_b2
  obtain ⟨T64, X64, e64, st64⟩ := getS2 X62 hx hZ hown (host := "") (Or.inl (hw _ (List.mem_of_getElem? (i := 44) rfl))) Via.refl e62 (((((((((((((((((((((S_IFF.ext E2).wr W5).wr W8).wr W11).wr W14).wr W17).wr W20).wr W23).wr W26).wr W29).wr W32).wr W35).wr W38).wr W41).wr W44).wr W47).wr W50).wr W53).wr W56).wr W59).wr W62) (g := (mkF m 142 #[.val (.int p1), .unset, .unset, .unset, .unset] [(.int (20 : Int32)), (.ref b2), (.ref b2)])) rfl (hb hby at_142)
  obtain ⟨cl_b2_145, Ar_b2, q_b2, S_b2, N_b2, H_b2, G_b2⟩ := V_b2_62
  have hin145 : ¬ ((20 : Int32) < 0 ∨ cl_b2_145.slots.size ≤ ((20 : Int32)).toNatClampNeg) := inb_of S_b2 ⟨by decide, by decide⟩
  have Sto145 : Sto Z h62 b2 (.ref w_IFF) := Sto.ofV Ar_b2 q_b2 O2 (Ins.self (((((((((((((((((((((E_IFF.ext E2).wr W5).wr W8).wr W11).wr W14).wr W17).wr W20).wr W23).wr W26).wr W29).wr W32).wr W35).wr W38).wr W41).wr W44).wr W47).wr W50).wr W53).wr W56).wr W59).wr W62))
  obtain ⟨T65, h65, X65, e65, W65, st65⟩ := stR X64 hx hZ e64 Ar_b2 (j := (20 : Int32)) hin145 rfl Sto145 (g := (mkF m 145 #[.val (.int p1), .unset, .unset, .unset, .unset] [(.ref w_IFF), (.int (20 : Int32)), (.ref b2), (.ref b2)])) rfl rfl (hb hby at_145)
  have V_b2_65 : Arv Z h65 b2 k2 (.object "com/example/failfirst/failfirst/Operator") (22 : Int32) [(.ref w_NEG), (.ref w_ABS), (.ref w_ADD), (.ref w_SUB), (.ref w_MUL), (.ref w_DIV), (.ref w_MOD), (.ref w_DIST), (.ref w_MIN), (.ref w_MAX), (.ref w_LT), (.ref w_LE), (.ref w_GE), (.ref w_GT), (.ref w_EQ), (.ref w_NE), (.ref w_NOT), (.ref w_AND), (.ref w_OR), (.ref w_XOR), (.ref w_IFF), .null] .null := Arv.set Ar_b2 q_b2 S_b2 N_b2 H_b2 G_b2 rfl W65 20 rfl (Nat.le_of_ble_eq_true rfl)
  have K65 : Keep h0 h65 [] := K62.wr W65 (Or.inr sz_b2)
  have N65 := Fr.snoc X65 N62 g_b2
  obtain ⟨T67, X67, e67, st67⟩ := getS2 X65 hx hZ hown (host := "") (Or.inl (hw _ (List.mem_of_getElem? (i := 46) rfl))) Via.refl e65 ((((((((((((((((((((((S_IMP.ext E2).wr W5).wr W8).wr W11).wr W14).wr W17).wr W20).wr W23).wr W26).wr W29).wr W32).wr W35).wr W38).wr W41).wr W44).wr W47).wr W50).wr W53).wr W56).wr W59).wr W62).wr W65) (g := (mkF m 149 #[.val (.int p1), .unset, .unset, .unset, .unset] [(.int (21 : Int32)), (.ref b2), (.ref b2)])) rfl (hb hby at_149)
  obtain ⟨cl_b2_152, Ar_b2, q_b2, S_b2, N_b2, H_b2, G_b2⟩ := V_b2_65
  have hin152 : ¬ ((21 : Int32) < 0 ∨ cl_b2_152.slots.size ≤ ((21 : Int32)).toNatClampNeg) := inb_of S_b2 ⟨by decide, by decide⟩
  have Sto152 : Sto Z h65 b2 (.ref w_IMP) := Sto.ofV Ar_b2 q_b2 O2 (Ins.self ((((((((((((((((((((((E_IMP.ext E2).wr W5).wr W8).wr W11).wr W14).wr W17).wr W20).wr W23).wr W26).wr W29).wr W32).wr W35).wr W38).wr W41).wr W44).wr W47).wr W50).wr W53).wr W56).wr W59).wr W62).wr W65))
  obtain ⟨T68, h68, X68, e68, W68, st68⟩ := stR X67 hx hZ e67 Ar_b2 (j := (21 : Int32)) hin152 rfl Sto152 (g := (mkF m 152 #[.val (.int p1), .unset, .unset, .unset, .unset] [(.ref w_IMP), (.int (21 : Int32)), (.ref b2), (.ref b2)])) rfl rfl (hb hby at_152)
  have V_b2_68 : Arv Z h68 b2 k2 (.object "com/example/failfirst/failfirst/Operator") (22 : Int32) [(.ref w_NEG), (.ref w_ABS), (.ref w_ADD), (.ref w_SUB), (.ref w_MUL), (.ref w_DIV), (.ref w_MOD), (.ref w_DIST), (.ref w_MIN), (.ref w_MAX), (.ref w_LT), (.ref w_LE), (.ref w_GE), (.ref w_GT), (.ref w_EQ), (.ref w_NE), (.ref w_NOT), (.ref w_AND), (.ref w_OR), (.ref w_XOR), (.ref w_IFF), (.ref w_IMP)] .null := Arv.set Ar_b2 q_b2 S_b2 N_b2 H_b2 G_b2 rfl W68 21 rfl (Nat.le_of_ble_eq_true rfl)
  have K68 : Keep h0 h68 [] := K65.wr W68 (Or.inr sz_b2)
  have N68 := Fr.snoc X68 N65 g_b2
  obtain ⟨cl_b2_164, Ar_b2_164, q_b2_164, S_b2_164, N_b2_164, H_b2_164, G_b2_164⟩ := V_b2_68
  have hin164 : ¬ (((p1 &&& (2147483647 : Int32)) % (22 : Int32)) < 0 ∨ cl_b2_164.slots.size ≤ (((p1 &&& (2147483647 : Int32)) % (22 : Int32))).toNatClampNeg) := inb_of S_b2_164 ⟨hj0, hj1⟩
  have hat164 : cl_b2_164.slots[(((p1 &&& (2147483647 : Int32)) % (22 : Int32))).toNatClampNeg]? = some (.ref wx) := (H_b2_164 _ (by rw [S_b2_164]; exact hlt)).trans (congrArg some hsel)
  obtain ⟨T69, X69, e69, st69⟩ := getS2 X68 hx hZ hown (host := "") (Or.inl (hw _ (List.mem_of_getElem? (i := 24) rfl))) Via.refl e68 (((((((((((((((((((((((S_LT.ext E2).wr W5).wr W8).wr W11).wr W14).wr W17).wr W20).wr W23).wr W26).wr W29).wr W32).wr W35).wr W38).wr W41).wr W44).wr W47).wr W50).wr W53).wr W56).wr W59).wr W62).wr W65).wr W68) (g := (mkF m 167 #[.val (.int p1), .val (.ref b2), .val (.int ((p1 &&& (2147483647 : Int32)) % (22 : Int32))), .val (.ref wx), .unset] [(.ref wx)])) rfl (hb hby at_167)
  obtain ⟨T70, X70, e70, st70⟩ := getS2 X69 hx hZ hown (host := "") (Or.inl (hw _ (List.mem_of_getElem? (i := 26) rfl))) Via.refl e69 (((((((((((((((((((((((S_LE.ext E2).wr W5).wr W8).wr W11).wr W14).wr W17).wr W20).wr W23).wr W26).wr W29).wr W32).wr W35).wr W38).wr W41).wr W44).wr W47).wr W50).wr W53).wr W56).wr W59).wr W62).wr W65).wr W68) (g := (mkF m 174 #[.val (.int p1), .val (.ref b2), .val (.int ((p1 &&& (2147483647 : Int32)) % (22 : Int32))), .val (.ref wx), .unset] [(.ref wx)])) rfl (hb hby at_174)
  obtain ⟨T71, X71, e71, st71⟩ := getS2 X70 hx hZ hown (host := "") (Or.inl (hw _ (List.mem_of_getElem? (i := 28) rfl))) Via.refl e70 (((((((((((((((((((((((S_GE.ext E2).wr W5).wr W8).wr W11).wr W14).wr W17).wr W20).wr W23).wr W26).wr W29).wr W32).wr W35).wr W38).wr W41).wr W44).wr W47).wr W50).wr W53).wr W56).wr W59).wr W62).wr W65).wr W68) (g := (mkF m 181 #[.val (.int p1), .val (.ref b2), .val (.int ((p1 &&& (2147483647 : Int32)) % (22 : Int32))), .val (.ref wx), .unset] [(.ref wx)])) rfl (hb hby at_181)
  obtain ⟨T72, X72, e72, st72⟩ := getS2 X71 hx hZ hown (host := "") (Or.inl (hw _ (List.mem_of_getElem? (i := 30) rfl))) Via.refl e71 (((((((((((((((((((((((S_GT.ext E2).wr W5).wr W8).wr W11).wr W14).wr W17).wr W20).wr W23).wr W26).wr W29).wr W32).wr W35).wr W38).wr W41).wr W44).wr W47).wr W50).wr W53).wr W56).wr W59).wr W62).wr W65).wr W68) (g := (mkF m 188 #[.val (.int p1), .val (.ref b2), .val (.int ((p1 &&& (2147483647 : Int32)) % (22 : Int32))), .val (.ref wx), .unset] [(.ref wx)])) rfl (hb hby at_188)
  obtain ⟨T73, X73, e73, st73⟩ := getS2 X72 hx hZ hown (host := "") (Or.inl (hw _ (List.mem_of_getElem? (i := 32) rfl))) Via.refl e72 (((((((((((((((((((((((S_EQ.ext E2).wr W5).wr W8).wr W11).wr W14).wr W17).wr W20).wr W23).wr W26).wr W29).wr W32).wr W35).wr W38).wr W41).wr W44).wr W47).wr W50).wr W53).wr W56).wr W59).wr W62).wr W65).wr W68) (g := (mkF m 195 #[.val (.int p1), .val (.ref b2), .val (.int ((p1 &&& (2147483647 : Int32)) % (22 : Int32))), .val (.ref wx), .unset] [(.ref wx)])) rfl (hb hby at_195)
  obtain ⟨T74, X74, e74, st74⟩ := getS2 X73 hx hZ hown (host := "") (Or.inl (hw _ (List.mem_of_getElem? (i := 34) rfl))) Via.refl e73 (((((((((((((((((((((((S_NE.ext E2).wr W5).wr W8).wr W11).wr W14).wr W17).wr W20).wr W23).wr W26).wr W29).wr W32).wr W35).wr W38).wr W41).wr W44).wr W47).wr W50).wr W53).wr W56).wr W59).wr W62).wr W65).wr W68) (g := (mkF m 202 #[.val (.int p1), .val (.ref b2), .val (.int ((p1 &&& (2147483647 : Int32)) % (22 : Int32))), .val (.ref wx), .unset] [(.ref wx)])) rfl (hb hby at_202)
  obtain ⟨LL, X74, N68⟩ : ∃ LL, Stand p l e room_1 s m #[(.int p1)] below meth c T74 LL (0 + 1) (0 + 22) ∧ Fr n0 LL := ⟨_, X74, N68⟩
  obtain ⟨cq75, kq75, q75a, q75b, q75c⟩ := isOf hZ e74 (((((((((((((((((((((((E_wx.ext E2).wr W5).wr W8).wr W11).wr W14).wr W17).wr W20).wr W23).wr W26).wr W29).wr W32).wr W35).wr W38).wr W41).wr W44).wr W47).wr W50).wr W53).wr W56).wr W59).wr W62).wr W65).wr W68)
  obtain ⟨_, _, ⟨T75, L75, k75, n75⟩, -, X75, ⟨Lc75, hQ75, l75, y75, z75⟩, st75⟩ := X74.virtualBack hx (y := (⟨"com/example/failfirst/failfirst/Operator", "chains", "()Z"⟩ : MethodName)) (z := (⟨"com/example/failfirst/failfirst/Operator", "chains", "()Z"⟩ : MethodName)) hown (mvT hZ (hw _ (List.mem_of_getElem? (i := 49) rfl))) (mvT hZ (hw _ (List.mem_of_getElem? (i := 50) rfl))) (notFace_of_selects (args := #[]) (mvT hZ (hw _ (List.mem_of_getElem? (i := 52) rfl)))) (mvT hZ (hw _ (List.mem_of_getElem? (i := 52) rfl))) (mvT hZ (hw _ (List.mem_of_getElem? (i := 51) rfl))) (by decide) (backOf (W := 0) (rm1_t l Z a0 hw [] wx wk w_COMPARISON h68 n0 (Nat.le_trans Z0 K68.1) (F_kind.keep K68 List.not_mem_nil) (((((((((((((((((((((((S_COMPARISON.ext E2).wr W5).wr W8).wr W11).wr W14).wr W17).wr W20).wr W23).wr W26).wr W29).wr W32).wr W35).wr W38).wr W41).wr W44).wr W47).wr W50).wr W53).wr W56).wr W59).wr W62).wr W65).wr W68) hkd) hZ (hw _ (List.mem_of_getElem? (i := 53) rfl)) (hw _ (List.mem_of_getElem? (i := 3) rfl)) (by decide) (by decide)) q75a q75c (g := (mkF m 216 #[.val (.int p1), .val (.ref b2), .val (.int ((p1 &&& (2147483647 : Int32)) % (22 : Int32))), .val (.ref wx), .val (.int (0 : Int32))] [(.ref wx)])) rfl (by rw [hml]; rfl) (Steps.refl _) (argsL := []) (rest := []) (lenOf pd_0_0 rfl) rfl (by show 2 * 0 + _ ≤ _; exact Nat.le_of_eq rfl) (hb hby at_216) (fun _ _ => ⟨rfl, e74, (by decide : 1 + 0 ≤ _), (by decide : 22 + 0 ≤ _)⟩)
  dsimp only [Pt.U, Pt.locs, Pt.cells, Pt.slots] at X75 l75 y75 z75 st75 hQ75
  subst l75 y75 z75
  obtain ⟨rfl, N75q, e75q⟩ := hQ75
  have N75 := Fr.app N68 N75q
  obtain ⟨fs, hr, hrun, hended, hW, hsame⟩ := X75.leave (v := some (.int (1 : Int32))) (fun h => by rw [Bd.returns] at h; cases h) Bd.notSynchronized
  refine ⟨_, _, pre0 _ ?_, hrun, hended, _, _, rfl, ?_, ⟨_, rfl⟩, hW, hsame.mono (by decide) (by decide)⟩
  · show Steps p.tables e below (s₁.setTop (mkF m 0 #[.val (.int p1), .unset, .unset, .unset, .unset] [])) _
    refine XS.bipush X0.here hx rfl (hb hby at_0) ?_
    show Steps p.tables e below (s₁.setTop (mkF m 2 #[.val (.int p1), .unset, .unset, .unset, .unset] [(.int (22 : Int32))])) _
    refine st2 _ ?_
    show Steps p.tables e below (T2.setTop (mkF m 5 #[.val (.int p1), .unset, .unset, .unset, .unset] [(.ref b2)])) _
    refine XS.dup X2.here hx rfl (hb hby at_5) rfl rfl ?_
    show Steps p.tables e below (T2.setTop (mkF m 6 #[.val (.int p1), .unset, .unset, .unset, .unset] [(.ref b2), (.ref b2)])) _
    refine XS.iconst X2.here hx rfl (hb hby at_6) ?_
    show Steps p.tables e below (T2.setTop (mkF m 7 #[.val (.int p1), .unset, .unset, .unset, .unset] [(.int (0 : Int32)), (.ref b2), (.ref b2)])) _
    refine st4 _ ?_
    show Steps p.tables e below (T4.setTop (mkF m 10 #[.val (.int p1), .unset, .unset, .unset, .unset] [(.ref w_NEG), (.int (0 : Int32)), (.ref b2), (.ref b2)])) _
    refine st5 _ ?_
    show Steps p.tables e below (T5.setTop (mkF m 11 #[.val (.int p1), .unset, .unset, .unset, .unset] [(.ref b2)])) _
    refine XS.dup X5.here hx rfl (hb hby at_11) rfl rfl ?_
    show Steps p.tables e below (T5.setTop (mkF m 12 #[.val (.int p1), .unset, .unset, .unset, .unset] [(.ref b2), (.ref b2)])) _
    refine XS.iconst X5.here hx rfl (hb hby at_12) ?_
    show Steps p.tables e below (T5.setTop (mkF m 13 #[.val (.int p1), .unset, .unset, .unset, .unset] [(.int (1 : Int32)), (.ref b2), (.ref b2)])) _
    refine st7 _ ?_
    show Steps p.tables e below (T7.setTop (mkF m 16 #[.val (.int p1), .unset, .unset, .unset, .unset] [(.ref w_ABS), (.int (1 : Int32)), (.ref b2), (.ref b2)])) _
    refine st8 _ ?_
    show Steps p.tables e below (T8.setTop (mkF m 17 #[.val (.int p1), .unset, .unset, .unset, .unset] [(.ref b2)])) _
    refine XS.dup X8.here hx rfl (hb hby at_17) rfl rfl ?_
    show Steps p.tables e below (T8.setTop (mkF m 18 #[.val (.int p1), .unset, .unset, .unset, .unset] [(.ref b2), (.ref b2)])) _
    refine XS.iconst X8.here hx rfl (hb hby at_18) ?_
    show Steps p.tables e below (T8.setTop (mkF m 19 #[.val (.int p1), .unset, .unset, .unset, .unset] [(.int (2 : Int32)), (.ref b2), (.ref b2)])) _
    refine st10 _ ?_
    show Steps p.tables e below (T10.setTop (mkF m 22 #[.val (.int p1), .unset, .unset, .unset, .unset] [(.ref w_ADD), (.int (2 : Int32)), (.ref b2), (.ref b2)])) _
    refine st11 _ ?_
    show Steps p.tables e below (T11.setTop (mkF m 23 #[.val (.int p1), .unset, .unset, .unset, .unset] [(.ref b2)])) _
    refine XS.dup X11.here hx rfl (hb hby at_23) rfl rfl ?_
    show Steps p.tables e below (T11.setTop (mkF m 24 #[.val (.int p1), .unset, .unset, .unset, .unset] [(.ref b2), (.ref b2)])) _
    refine XS.iconst X11.here hx rfl (hb hby at_24) ?_
    show Steps p.tables e below (T11.setTop (mkF m 25 #[.val (.int p1), .unset, .unset, .unset, .unset] [(.int (3 : Int32)), (.ref b2), (.ref b2)])) _
    refine st13 _ ?_
    show Steps p.tables e below (T13.setTop (mkF m 28 #[.val (.int p1), .unset, .unset, .unset, .unset] [(.ref w_SUB), (.int (3 : Int32)), (.ref b2), (.ref b2)])) _
    refine st14 _ ?_
    show Steps p.tables e below (T14.setTop (mkF m 29 #[.val (.int p1), .unset, .unset, .unset, .unset] [(.ref b2)])) _
    refine XS.dup X14.here hx rfl (hb hby at_29) rfl rfl ?_
    show Steps p.tables e below (T14.setTop (mkF m 30 #[.val (.int p1), .unset, .unset, .unset, .unset] [(.ref b2), (.ref b2)])) _
    refine XS.iconst X14.here hx rfl (hb hby at_30) ?_
    show Steps p.tables e below (T14.setTop (mkF m 31 #[.val (.int p1), .unset, .unset, .unset, .unset] [(.int (4 : Int32)), (.ref b2), (.ref b2)])) _
    refine st16 _ ?_
    show Steps p.tables e below (T16.setTop (mkF m 34 #[.val (.int p1), .unset, .unset, .unset, .unset] [(.ref w_MUL), (.int (4 : Int32)), (.ref b2), (.ref b2)])) _
    refine st17 _ ?_
    show Steps p.tables e below (T17.setTop (mkF m 35 #[.val (.int p1), .unset, .unset, .unset, .unset] [(.ref b2)])) _
    refine XS.dup X17.here hx rfl (hb hby at_35) rfl rfl ?_
    show Steps p.tables e below (T17.setTop (mkF m 36 #[.val (.int p1), .unset, .unset, .unset, .unset] [(.ref b2), (.ref b2)])) _
    refine XS.iconst X17.here hx rfl (hb hby at_36) ?_
    show Steps p.tables e below (T17.setTop (mkF m 37 #[.val (.int p1), .unset, .unset, .unset, .unset] [(.int (5 : Int32)), (.ref b2), (.ref b2)])) _
    refine st19 _ ?_
    show Steps p.tables e below (T19.setTop (mkF m 40 #[.val (.int p1), .unset, .unset, .unset, .unset] [(.ref w_DIV), (.int (5 : Int32)), (.ref b2), (.ref b2)])) _
    refine st20 _ ?_
    show Steps p.tables e below (T20.setTop (mkF m 41 #[.val (.int p1), .unset, .unset, .unset, .unset] [(.ref b2)])) _
    refine XS.dup X20.here hx rfl (hb hby at_41) rfl rfl ?_
    show Steps p.tables e below (T20.setTop (mkF m 42 #[.val (.int p1), .unset, .unset, .unset, .unset] [(.ref b2), (.ref b2)])) _
    refine XS.bipush X20.here hx rfl (hb hby at_42) ?_
    show Steps p.tables e below (T20.setTop (mkF m 44 #[.val (.int p1), .unset, .unset, .unset, .unset] [(.int (6 : Int32)), (.ref b2), (.ref b2)])) _
    refine st22 _ ?_
    show Steps p.tables e below (T22.setTop (mkF m 47 #[.val (.int p1), .unset, .unset, .unset, .unset] [(.ref w_MOD), (.int (6 : Int32)), (.ref b2), (.ref b2)])) _
    refine st23 _ ?_
    show Steps p.tables e below (T23.setTop (mkF m 48 #[.val (.int p1), .unset, .unset, .unset, .unset] [(.ref b2)])) _
    refine XS.dup X23.here hx rfl (hb hby at_48) rfl rfl ?_
    show Steps p.tables e below (T23.setTop (mkF m 49 #[.val (.int p1), .unset, .unset, .unset, .unset] [(.ref b2), (.ref b2)])) _
    refine XS.bipush X23.here hx rfl (hb hby at_49) ?_
    show Steps p.tables e below (T23.setTop (mkF m 51 #[.val (.int p1), .unset, .unset, .unset, .unset] [(.int (7 : Int32)), (.ref b2), (.ref b2)])) _
    refine st25 _ ?_
    show Steps p.tables e below (T25.setTop (mkF m 54 #[.val (.int p1), .unset, .unset, .unset, .unset] [(.ref w_DIST), (.int (7 : Int32)), (.ref b2), (.ref b2)])) _
    refine st26 _ ?_
    show Steps p.tables e below (T26.setTop (mkF m 55 #[.val (.int p1), .unset, .unset, .unset, .unset] [(.ref b2)])) _
    refine XS.dup X26.here hx rfl (hb hby at_55) rfl rfl ?_
    show Steps p.tables e below (T26.setTop (mkF m 56 #[.val (.int p1), .unset, .unset, .unset, .unset] [(.ref b2), (.ref b2)])) _
    refine XS.bipush X26.here hx rfl (hb hby at_56) ?_
    show Steps p.tables e below (T26.setTop (mkF m 58 #[.val (.int p1), .unset, .unset, .unset, .unset] [(.int (8 : Int32)), (.ref b2), (.ref b2)])) _
    refine st28 _ ?_
    show Steps p.tables e below (T28.setTop (mkF m 61 #[.val (.int p1), .unset, .unset, .unset, .unset] [(.ref w_MIN), (.int (8 : Int32)), (.ref b2), (.ref b2)])) _
    refine st29 _ ?_
    show Steps p.tables e below (T29.setTop (mkF m 62 #[.val (.int p1), .unset, .unset, .unset, .unset] [(.ref b2)])) _
    refine XS.dup X29.here hx rfl (hb hby at_62) rfl rfl ?_
    show Steps p.tables e below (T29.setTop (mkF m 63 #[.val (.int p1), .unset, .unset, .unset, .unset] [(.ref b2), (.ref b2)])) _
    refine XS.bipush X29.here hx rfl (hb hby at_63) ?_
    show Steps p.tables e below (T29.setTop (mkF m 65 #[.val (.int p1), .unset, .unset, .unset, .unset] [(.int (9 : Int32)), (.ref b2), (.ref b2)])) _
    refine st31 _ ?_
    show Steps p.tables e below (T31.setTop (mkF m 68 #[.val (.int p1), .unset, .unset, .unset, .unset] [(.ref w_MAX), (.int (9 : Int32)), (.ref b2), (.ref b2)])) _
    refine st32 _ ?_
    show Steps p.tables e below (T32.setTop (mkF m 69 #[.val (.int p1), .unset, .unset, .unset, .unset] [(.ref b2)])) _
    refine XS.dup X32.here hx rfl (hb hby at_69) rfl rfl ?_
    show Steps p.tables e below (T32.setTop (mkF m 70 #[.val (.int p1), .unset, .unset, .unset, .unset] [(.ref b2), (.ref b2)])) _
    refine XS.bipush X32.here hx rfl (hb hby at_70) ?_
    show Steps p.tables e below (T32.setTop (mkF m 72 #[.val (.int p1), .unset, .unset, .unset, .unset] [(.int (10 : Int32)), (.ref b2), (.ref b2)])) _
    refine st34 _ ?_
    show Steps p.tables e below (T34.setTop (mkF m 75 #[.val (.int p1), .unset, .unset, .unset, .unset] [(.ref w_LT), (.int (10 : Int32)), (.ref b2), (.ref b2)])) _
    refine st35 _ ?_
    show Steps p.tables e below (T35.setTop (mkF m 76 #[.val (.int p1), .unset, .unset, .unset, .unset] [(.ref b2)])) _
    refine XS.dup X35.here hx rfl (hb hby at_76) rfl rfl ?_
    show Steps p.tables e below (T35.setTop (mkF m 77 #[.val (.int p1), .unset, .unset, .unset, .unset] [(.ref b2), (.ref b2)])) _
    refine XS.bipush X35.here hx rfl (hb hby at_77) ?_
    show Steps p.tables e below (T35.setTop (mkF m 79 #[.val (.int p1), .unset, .unset, .unset, .unset] [(.int (11 : Int32)), (.ref b2), (.ref b2)])) _
    refine st37 _ ?_
    show Steps p.tables e below (T37.setTop (mkF m 82 #[.val (.int p1), .unset, .unset, .unset, .unset] [(.ref w_LE), (.int (11 : Int32)), (.ref b2), (.ref b2)])) _
    refine st38 _ ?_
    show Steps p.tables e below (T38.setTop (mkF m 83 #[.val (.int p1), .unset, .unset, .unset, .unset] [(.ref b2)])) _
    refine XS.dup X38.here hx rfl (hb hby at_83) rfl rfl ?_
    show Steps p.tables e below (T38.setTop (mkF m 84 #[.val (.int p1), .unset, .unset, .unset, .unset] [(.ref b2), (.ref b2)])) _
    refine XS.bipush X38.here hx rfl (hb hby at_84) ?_
    show Steps p.tables e below (T38.setTop (mkF m 86 #[.val (.int p1), .unset, .unset, .unset, .unset] [(.int (12 : Int32)), (.ref b2), (.ref b2)])) _
    refine st40 _ ?_
    show Steps p.tables e below (T40.setTop (mkF m 89 #[.val (.int p1), .unset, .unset, .unset, .unset] [(.ref w_GE), (.int (12 : Int32)), (.ref b2), (.ref b2)])) _
    refine st41 _ ?_
    show Steps p.tables e below (T41.setTop (mkF m 90 #[.val (.int p1), .unset, .unset, .unset, .unset] [(.ref b2)])) _
    refine XS.dup X41.here hx rfl (hb hby at_90) rfl rfl ?_
    show Steps p.tables e below (T41.setTop (mkF m 91 #[.val (.int p1), .unset, .unset, .unset, .unset] [(.ref b2), (.ref b2)])) _
    refine XS.bipush X41.here hx rfl (hb hby at_91) ?_
    show Steps p.tables e below (T41.setTop (mkF m 93 #[.val (.int p1), .unset, .unset, .unset, .unset] [(.int (13 : Int32)), (.ref b2), (.ref b2)])) _
    refine st43 _ ?_
    show Steps p.tables e below (T43.setTop (mkF m 96 #[.val (.int p1), .unset, .unset, .unset, .unset] [(.ref w_GT), (.int (13 : Int32)), (.ref b2), (.ref b2)])) _
    refine st44 _ ?_
    show Steps p.tables e below (T44.setTop (mkF m 97 #[.val (.int p1), .unset, .unset, .unset, .unset] [(.ref b2)])) _
    refine XS.dup X44.here hx rfl (hb hby at_97) rfl rfl ?_
    show Steps p.tables e below (T44.setTop (mkF m 98 #[.val (.int p1), .unset, .unset, .unset, .unset] [(.ref b2), (.ref b2)])) _
    refine XS.bipush X44.here hx rfl (hb hby at_98) ?_
    show Steps p.tables e below (T44.setTop (mkF m 100 #[.val (.int p1), .unset, .unset, .unset, .unset] [(.int (14 : Int32)), (.ref b2), (.ref b2)])) _
    refine st46 _ ?_
    show Steps p.tables e below (T46.setTop (mkF m 103 #[.val (.int p1), .unset, .unset, .unset, .unset] [(.ref w_EQ), (.int (14 : Int32)), (.ref b2), (.ref b2)])) _
    refine st47 _ ?_
    show Steps p.tables e below (T47.setTop (mkF m 104 #[.val (.int p1), .unset, .unset, .unset, .unset] [(.ref b2)])) _
    refine XS.dup X47.here hx rfl (hb hby at_104) rfl rfl ?_
    show Steps p.tables e below (T47.setTop (mkF m 105 #[.val (.int p1), .unset, .unset, .unset, .unset] [(.ref b2), (.ref b2)])) _
    refine XS.bipush X47.here hx rfl (hb hby at_105) ?_
    show Steps p.tables e below (T47.setTop (mkF m 107 #[.val (.int p1), .unset, .unset, .unset, .unset] [(.int (15 : Int32)), (.ref b2), (.ref b2)])) _
    refine st49 _ ?_
    show Steps p.tables e below (T49.setTop (mkF m 110 #[.val (.int p1), .unset, .unset, .unset, .unset] [(.ref w_NE), (.int (15 : Int32)), (.ref b2), (.ref b2)])) _
    refine st50 _ ?_
    show Steps p.tables e below (T50.setTop (mkF m 111 #[.val (.int p1), .unset, .unset, .unset, .unset] [(.ref b2)])) _
    refine XS.dup X50.here hx rfl (hb hby at_111) rfl rfl ?_
    show Steps p.tables e below (T50.setTop (mkF m 112 #[.val (.int p1), .unset, .unset, .unset, .unset] [(.ref b2), (.ref b2)])) _
    refine XS.bipush X50.here hx rfl (hb hby at_112) ?_
    show Steps p.tables e below (T50.setTop (mkF m 114 #[.val (.int p1), .unset, .unset, .unset, .unset] [(.int (16 : Int32)), (.ref b2), (.ref b2)])) _
    refine st52 _ ?_
    show Steps p.tables e below (T52.setTop (mkF m 117 #[.val (.int p1), .unset, .unset, .unset, .unset] [(.ref w_NOT), (.int (16 : Int32)), (.ref b2), (.ref b2)])) _
    refine st53 _ ?_
    show Steps p.tables e below (T53.setTop (mkF m 118 #[.val (.int p1), .unset, .unset, .unset, .unset] [(.ref b2)])) _
    refine XS.dup X53.here hx rfl (hb hby at_118) rfl rfl ?_
    show Steps p.tables e below (T53.setTop (mkF m 119 #[.val (.int p1), .unset, .unset, .unset, .unset] [(.ref b2), (.ref b2)])) _
    refine XS.bipush X53.here hx rfl (hb hby at_119) ?_
    show Steps p.tables e below (T53.setTop (mkF m 121 #[.val (.int p1), .unset, .unset, .unset, .unset] [(.int (17 : Int32)), (.ref b2), (.ref b2)])) _
    refine st55 _ ?_
    show Steps p.tables e below (T55.setTop (mkF m 124 #[.val (.int p1), .unset, .unset, .unset, .unset] [(.ref w_AND), (.int (17 : Int32)), (.ref b2), (.ref b2)])) _
    refine st56 _ ?_
    show Steps p.tables e below (T56.setTop (mkF m 125 #[.val (.int p1), .unset, .unset, .unset, .unset] [(.ref b2)])) _
    refine XS.dup X56.here hx rfl (hb hby at_125) rfl rfl ?_
    show Steps p.tables e below (T56.setTop (mkF m 126 #[.val (.int p1), .unset, .unset, .unset, .unset] [(.ref b2), (.ref b2)])) _
    refine XS.bipush X56.here hx rfl (hb hby at_126) ?_
    show Steps p.tables e below (T56.setTop (mkF m 128 #[.val (.int p1), .unset, .unset, .unset, .unset] [(.int (18 : Int32)), (.ref b2), (.ref b2)])) _
    refine st58 _ ?_
    show Steps p.tables e below (T58.setTop (mkF m 131 #[.val (.int p1), .unset, .unset, .unset, .unset] [(.ref w_OR), (.int (18 : Int32)), (.ref b2), (.ref b2)])) _
    refine st59 _ ?_
    show Steps p.tables e below (T59.setTop (mkF m 132 #[.val (.int p1), .unset, .unset, .unset, .unset] [(.ref b2)])) _
    refine XS.dup X59.here hx rfl (hb hby at_132) rfl rfl ?_
    show Steps p.tables e below (T59.setTop (mkF m 133 #[.val (.int p1), .unset, .unset, .unset, .unset] [(.ref b2), (.ref b2)])) _
    refine XS.bipush X59.here hx rfl (hb hby at_133) ?_
    show Steps p.tables e below (T59.setTop (mkF m 135 #[.val (.int p1), .unset, .unset, .unset, .unset] [(.int (19 : Int32)), (.ref b2), (.ref b2)])) _
    refine st61 _ ?_
    show Steps p.tables e below (T61.setTop (mkF m 138 #[.val (.int p1), .unset, .unset, .unset, .unset] [(.ref w_XOR), (.int (19 : Int32)), (.ref b2), (.ref b2)])) _
    refine st62 _ ?_
    show Steps p.tables e below (T62.setTop (mkF m 139 #[.val (.int p1), .unset, .unset, .unset, .unset] [(.ref b2)])) _
    refine XS.dup X62.here hx rfl (hb hby at_139) rfl rfl ?_
    show Steps p.tables e below (T62.setTop (mkF m 140 #[.val (.int p1), .unset, .unset, .unset, .unset] [(.ref b2), (.ref b2)])) _
    refine XS.bipush X62.here hx rfl (hb hby at_140) ?_
    show Steps p.tables e below (T62.setTop (mkF m 142 #[.val (.int p1), .unset, .unset, .unset, .unset] [(.int (20 : Int32)), (.ref b2), (.ref b2)])) _
    refine st64 _ ?_
    show Steps p.tables e below (T64.setTop (mkF m 145 #[.val (.int p1), .unset, .unset, .unset, .unset] [(.ref w_IFF), (.int (20 : Int32)), (.ref b2), (.ref b2)])) _
    refine st65 _ ?_
    show Steps p.tables e below (T65.setTop (mkF m 146 #[.val (.int p1), .unset, .unset, .unset, .unset] [(.ref b2)])) _
    refine XS.dup X65.here hx rfl (hb hby at_146) rfl rfl ?_
    show Steps p.tables e below (T65.setTop (mkF m 147 #[.val (.int p1), .unset, .unset, .unset, .unset] [(.ref b2), (.ref b2)])) _
    refine XS.bipush X65.here hx rfl (hb hby at_147) ?_
    show Steps p.tables e below (T65.setTop (mkF m 149 #[.val (.int p1), .unset, .unset, .unset, .unset] [(.int (21 : Int32)), (.ref b2), (.ref b2)])) _
    refine st67 _ ?_
    show Steps p.tables e below (T67.setTop (mkF m 152 #[.val (.int p1), .unset, .unset, .unset, .unset] [(.ref w_IMP), (.int (21 : Int32)), (.ref b2), (.ref b2)])) _
    refine st68 _ ?_
    show Steps p.tables e below (T68.setTop (mkF m 153 #[.val (.int p1), .unset, .unset, .unset, .unset] [(.ref b2)])) _
    refine XS.astoreN X68.here hx rfl (hb hby at_153) rfl rfl (l' := #[.val (.int p1), .val (.ref b2), .unset, .unset, .unset]) rfl ?_
    show Steps p.tables e below (T68.setTop (mkF m 154 #[.val (.int p1), .val (.ref b2), .unset, .unset, .unset] [])) _
    refine XS.iloadN X68.here hx rfl (hb hby at_154) rfl ?_
    show Steps p.tables e below (T68.setTop (mkF m 155 #[.val (.int p1), .val (.ref b2), .unset, .unset, .unset] [(.int p1)])) _
    refine X68.ldcInt hx hown (mvT hZ (hw _ (List.mem_of_getElem? (i := 48) rfl))) (g := (mkF m 155 #[.val (.int p1), .val (.ref b2), .unset, .unset, .unset] [(.int p1)])) rfl (hb hby at_155) _ ?_
    show Steps p.tables e below (T68.setTop (mkF m 157 #[.val (.int p1), .val (.ref b2), .unset, .unset, .unset] [(.int (2147483647 : Int32)), (.int p1)])) _
    refine XS.iand X68.here hx rfl (hb hby at_157) rfl ?_
    show Steps p.tables e below (T68.setTop (mkF m 158 #[.val (.int p1), .val (.ref b2), .unset, .unset, .unset] [(.int (p1 &&& (2147483647 : Int32)))])) _
    refine XS.bipush X68.here hx rfl (hb hby at_158) ?_
    show Steps p.tables e below (T68.setTop (mkF m 160 #[.val (.int p1), .val (.ref b2), .unset, .unset, .unset] [(.int (22 : Int32)), (.int (p1 &&& (2147483647 : Int32)))])) _
    refine iremM X68 hx rfl (hb hby at_160) rfl (by decide) ?_
    show Steps p.tables e below (T68.setTop (mkF m 161 #[.val (.int p1), .val (.ref b2), .unset, .unset, .unset] [(.int ((p1 &&& (2147483647 : Int32)) % (22 : Int32)))])) _
    refine XS.istoreN X68.here hx rfl (hb hby at_161) rfl (l' := #[.val (.int p1), .val (.ref b2), .val (.int ((p1 &&& (2147483647 : Int32)) % (22 : Int32))), .unset, .unset]) rfl ?_
    show Steps p.tables e below (T68.setTop (mkF m 162 #[.val (.int p1), .val (.ref b2), .val (.int ((p1 &&& (2147483647 : Int32)) % (22 : Int32))), .unset, .unset] [])) _
    refine XS.aloadN X68.here hx rfl (hb hby at_162) rfl rfl ?_
    show Steps p.tables e below (T68.setTop (mkF m 163 #[.val (.int p1), .val (.ref b2), .val (.int ((p1 &&& (2147483647 : Int32)) % (22 : Int32))), .unset, .unset] [(.ref b2)])) _
    refine XS.iloadN X68.here hx rfl (hb hby at_163) rfl ?_
    show Steps p.tables e below (T68.setTop (mkF m 164 #[.val (.int p1), .val (.ref b2), .val (.int ((p1 &&& (2147483647 : Int32)) % (22 : Int32))), .unset, .unset] [(.int ((p1 &&& (2147483647 : Int32)) % (22 : Int32))), (.ref b2)])) _
    refine X68.aaload hx (j := ((p1 &&& (2147483647 : Int32)) % (22 : Int32))) (v := (.ref wx)) (by rw [e68]; exact Ar_b2_164.1) (State.isArrayOf_alike hZ.alike Ar_b2_164.2.1) rfl Ar_b2_164.2.2 hin164 hat164 (g := (mkF m 164 #[.val (.int p1), .val (.ref b2), .val (.int ((p1 &&& (2147483647 : Int32)) % (22 : Int32))), .unset, .unset] [(.int ((p1 &&& (2147483647 : Int32)) % (22 : Int32))), (.ref b2)])) rfl rfl (hb hby at_164) _ ?_
    show Steps p.tables e below (T68.setTop (mkF m 165 #[.val (.int p1), .val (.ref b2), .val (.int ((p1 &&& (2147483647 : Int32)) % (22 : Int32))), .unset, .unset] [(.ref wx)])) _
    refine XS.astoreN X68.here hx rfl (hb hby at_165) rfl rfl (l' := #[.val (.int p1), .val (.ref b2), .val (.int ((p1 &&& (2147483647 : Int32)) % (22 : Int32))), .val (.ref wx), .unset]) rfl ?_
    show Steps p.tables e below (T68.setTop (mkF m 166 #[.val (.int p1), .val (.ref b2), .val (.int ((p1 &&& (2147483647 : Int32)) % (22 : Int32))), .val (.ref wx), .unset] [])) _
    refine XS.aloadN X68.here hx rfl (hb hby at_166) rfl rfl ?_
    show Steps p.tables e below (T68.setTop (mkF m 167 #[.val (.int p1), .val (.ref b2), .val (.int ((p1 &&& (2147483647 : Int32)) % (22 : Int32))), .val (.ref wx), .unset] [(.ref wx)])) _
    refine st69 _ ?_
    show Steps p.tables e below (T69.setTop (mkF m 170 #[.val (.int p1), .val (.ref b2), .val (.int ((p1 &&& (2147483647 : Int32)) % (22 : Int32))), .val (.ref wx), .unset] [(.ref w_LT), (.ref wx)])) _
    refine Jvm.RoadKit.acmp (g := (mkF m 170 #[.val (.int p1), .val (.ref b2), .val (.int ((p1 &&& (2147483647 : Int32)) % (22 : Int32))), .val (.ref wx), .unset] [(.ref w_LT), (.ref wx)])) X69 hx rfl rfl rfl (pc0 := 170) (pc' := 173) (same := false) rfl (hb hby at_170) rfl (decide_eq_false fun q => ha170 (Value.ref.inj q)) (by decide) (by decide) ?_
    show Steps p.tables e below (T69.setTop (mkF m 173 #[.val (.int p1), .val (.ref b2), .val (.int ((p1 &&& (2147483647 : Int32)) % (22 : Int32))), .val (.ref wx), .unset] [])) _
    refine XS.aloadN X69.here hx rfl (hb hby at_173) rfl rfl ?_
    show Steps p.tables e below (T69.setTop (mkF m 174 #[.val (.int p1), .val (.ref b2), .val (.int ((p1 &&& (2147483647 : Int32)) % (22 : Int32))), .val (.ref wx), .unset] [(.ref wx)])) _
    refine st70 _ ?_
    show Steps p.tables e below (T70.setTop (mkF m 177 #[.val (.int p1), .val (.ref b2), .val (.int ((p1 &&& (2147483647 : Int32)) % (22 : Int32))), .val (.ref wx), .unset] [(.ref w_LE), (.ref wx)])) _
    refine Jvm.RoadKit.acmp (g := (mkF m 177 #[.val (.int p1), .val (.ref b2), .val (.int ((p1 &&& (2147483647 : Int32)) % (22 : Int32))), .val (.ref wx), .unset] [(.ref w_LE), (.ref wx)])) X70 hx rfl rfl rfl (pc0 := 177) (pc' := 180) (same := false) rfl (hb hby at_177) rfl (decide_eq_false fun q => ha177 (Value.ref.inj q)) (by decide) (by decide) ?_
    show Steps p.tables e below (T70.setTop (mkF m 180 #[.val (.int p1), .val (.ref b2), .val (.int ((p1 &&& (2147483647 : Int32)) % (22 : Int32))), .val (.ref wx), .unset] [])) _
    refine XS.aloadN X70.here hx rfl (hb hby at_180) rfl rfl ?_
    show Steps p.tables e below (T70.setTop (mkF m 181 #[.val (.int p1), .val (.ref b2), .val (.int ((p1 &&& (2147483647 : Int32)) % (22 : Int32))), .val (.ref wx), .unset] [(.ref wx)])) _
    refine st71 _ ?_
    show Steps p.tables e below (T71.setTop (mkF m 184 #[.val (.int p1), .val (.ref b2), .val (.int ((p1 &&& (2147483647 : Int32)) % (22 : Int32))), .val (.ref wx), .unset] [(.ref w_GE), (.ref wx)])) _
    refine Jvm.RoadKit.acmp (g := (mkF m 184 #[.val (.int p1), .val (.ref b2), .val (.int ((p1 &&& (2147483647 : Int32)) % (22 : Int32))), .val (.ref wx), .unset] [(.ref w_GE), (.ref wx)])) X71 hx rfl rfl rfl (pc0 := 184) (pc' := 187) (same := false) rfl (hb hby at_184) rfl (decide_eq_false fun q => ha184 (Value.ref.inj q)) (by decide) (by decide) ?_
    show Steps p.tables e below (T71.setTop (mkF m 187 #[.val (.int p1), .val (.ref b2), .val (.int ((p1 &&& (2147483647 : Int32)) % (22 : Int32))), .val (.ref wx), .unset] [])) _
    refine XS.aloadN X71.here hx rfl (hb hby at_187) rfl rfl ?_
    show Steps p.tables e below (T71.setTop (mkF m 188 #[.val (.int p1), .val (.ref b2), .val (.int ((p1 &&& (2147483647 : Int32)) % (22 : Int32))), .val (.ref wx), .unset] [(.ref wx)])) _
    refine st72 _ ?_
    show Steps p.tables e below (T72.setTop (mkF m 191 #[.val (.int p1), .val (.ref b2), .val (.int ((p1 &&& (2147483647 : Int32)) % (22 : Int32))), .val (.ref wx), .unset] [(.ref w_GT), (.ref wx)])) _
    refine Jvm.RoadKit.acmp (g := (mkF m 191 #[.val (.int p1), .val (.ref b2), .val (.int ((p1 &&& (2147483647 : Int32)) % (22 : Int32))), .val (.ref wx), .unset] [(.ref w_GT), (.ref wx)])) X72 hx rfl rfl rfl (pc0 := 191) (pc' := 194) (same := false) rfl (hb hby at_191) rfl (decide_eq_false fun q => ha191 (Value.ref.inj q)) (by decide) (by decide) ?_
    show Steps p.tables e below (T72.setTop (mkF m 194 #[.val (.int p1), .val (.ref b2), .val (.int ((p1 &&& (2147483647 : Int32)) % (22 : Int32))), .val (.ref wx), .unset] [])) _
    refine XS.aloadN X72.here hx rfl (hb hby at_194) rfl rfl ?_
    show Steps p.tables e below (T72.setTop (mkF m 195 #[.val (.int p1), .val (.ref b2), .val (.int ((p1 &&& (2147483647 : Int32)) % (22 : Int32))), .val (.ref wx), .unset] [(.ref wx)])) _
    refine st73 _ ?_
    show Steps p.tables e below (T73.setTop (mkF m 198 #[.val (.int p1), .val (.ref b2), .val (.int ((p1 &&& (2147483647 : Int32)) % (22 : Int32))), .val (.ref wx), .unset] [(.ref w_EQ), (.ref wx)])) _
    refine Jvm.RoadKit.acmp (g := (mkF m 198 #[.val (.int p1), .val (.ref b2), .val (.int ((p1 &&& (2147483647 : Int32)) % (22 : Int32))), .val (.ref wx), .unset] [(.ref w_EQ), (.ref wx)])) X73 hx rfl rfl rfl (pc0 := 198) (pc' := 201) (same := false) rfl (hb hby at_198) rfl (decide_eq_false fun q => ha198 (Value.ref.inj q)) (by decide) (by decide) ?_
    show Steps p.tables e below (T73.setTop (mkF m 201 #[.val (.int p1), .val (.ref b2), .val (.int ((p1 &&& (2147483647 : Int32)) % (22 : Int32))), .val (.ref wx), .unset] [])) _
    refine XS.aloadN X73.here hx rfl (hb hby at_201) rfl rfl ?_
    show Steps p.tables e below (T73.setTop (mkF m 202 #[.val (.int p1), .val (.ref b2), .val (.int ((p1 &&& (2147483647 : Int32)) % (22 : Int32))), .val (.ref wx), .unset] [(.ref wx)])) _
    refine st74 _ ?_
    show Steps p.tables e below (T74.setTop (mkF m 205 #[.val (.int p1), .val (.ref b2), .val (.int ((p1 &&& (2147483647 : Int32)) % (22 : Int32))), .val (.ref wx), .unset] [(.ref w_NE), (.ref wx)])) _
    refine Jvm.RoadKit.acmp (g := (mkF m 205 #[.val (.int p1), .val (.ref b2), .val (.int ((p1 &&& (2147483647 : Int32)) % (22 : Int32))), .val (.ref wx), .unset] [(.ref w_NE), (.ref wx)])) X74 hx rfl rfl rfl (pc0 := 205) (pc' := 212) (same := false) rfl (hb hby at_205) rfl (decide_eq_false fun q => ha205 (Value.ref.inj q)) (by decide) (by decide) ?_
    show Steps p.tables e below (T74.setTop (mkF m 212 #[.val (.int p1), .val (.ref b2), .val (.int ((p1 &&& (2147483647 : Int32)) % (22 : Int32))), .val (.ref wx), .unset] [])) _
    refine XS.iconst X74.here hx rfl (hb hby at_212) ?_
    show Steps p.tables e below (T74.setTop (mkF m 213 #[.val (.int p1), .val (.ref b2), .val (.int ((p1 &&& (2147483647 : Int32)) % (22 : Int32))), .val (.ref wx), .unset] [(.int (0 : Int32))])) _
    refine XS.istore X74.here hx rfl (hb hby at_213) rfl (l' := #[.val (.int p1), .val (.ref b2), .val (.int ((p1 &&& (2147483647 : Int32)) % (22 : Int32))), .val (.ref wx), .val (.int (0 : Int32))]) rfl ?_
    show Steps p.tables e below (T74.setTop (mkF m 215 #[.val (.int p1), .val (.ref b2), .val (.int ((p1 &&& (2147483647 : Int32)) % (22 : Int32))), .val (.ref wx), .val (.int (0 : Int32))] [])) _
    refine XS.aloadN X74.here hx rfl (hb hby at_215) rfl rfl ?_
    show Steps p.tables e below (T74.setTop (mkF m 216 #[.val (.int p1), .val (.ref b2), .val (.int ((p1 &&& (2147483647 : Int32)) % (22 : Int32))), .val (.ref wx), .val (.int (0 : Int32))] [(.ref wx)])) _
    refine st75.trans ?_
    show Steps p.tables e below (T75.setTop (mkF m 219 #[.val (.int p1), .val (.ref b2), .val (.int ((p1 &&& (2147483647 : Int32)) % (22 : Int32))), .val (.ref wx), .val (.int (0 : Int32))] [(.int (0 : Int32))])) _
    refine XS.iload X75.here hx rfl (hb hby at_219) rfl ?_
    show Steps p.tables e below (T75.setTop (mkF m 221 #[.val (.int p1), .val (.ref b2), .val (.int ((p1 &&& (2147483647 : Int32)) % (22 : Int32))), .val (.ref wx), .val (.int (0 : Int32))] [(.int (0 : Int32)), (.int (0 : Int32))])) _
    refine XS.icmpNo X75.here hx rfl (hb hby at_221) rfl (teq hk221).2 ?_
    show Steps p.tables e below (T75.setTop (mkF m 224 #[.val (.int p1), .val (.ref b2), .val (.int ((p1 &&& (2147483647 : Int32)) % (22 : Int32))), .val (.ref wx), .val (.int (0 : Int32))] [])) _
    refine XS.iconst X75.here hx rfl (hb hby at_224) ?_
    show Steps p.tables e below (T75.setTop (mkF m 225 #[.val (.int p1), .val (.ref b2), .val (.int ((p1 &&& (2147483647 : Int32)) % (22 : Int32))), .val (.ref wx), .val (.int (0 : Int32))] [(.int (1 : Int32))])) _
    refine XS.goto X75.here hx rfl (pc0 := 225) (pc' := 229) rfl (hb hby at_225) (by decide) (by decide) ?_
    show Steps p.tables e below (T75.setTop (mkF m 229 #[.val (.int p1), .val (.ref b2), .val (.int ((p1 &&& (2147483647 : Int32)) % (22 : Int32))), .val (.ref wx), .val (.int (0 : Int32))] [(.int (1 : Int32))])) _
    exact retN X75 hx (t := .boolean) Bd.returns (by simp) (hb hby at_229) hr
  · show Q0 Z p1 h0 n0 _ T75.heap _
    exact ⟨rfl, N75⟩
theorem rm0 (l : Launch) (Z : State) (a0 : Array Value) (hw : ∀ d ∈ tables_1, d.before a0 Z = true) (ws : List Jvm.Cond) (p1 : Int32) (w_NEG : Addr) (w_ABS : Addr) (w_ADD : Addr) (w_SUB : Addr) (w_MUL : Addr) (w_DIV : Addr) (w_MOD : Addr) (w_DIST : Addr) (w_MIN : Addr) (w_MAX : Addr) (w_LT : Addr) (w_LE : Addr) (w_GE : Addr) (w_GT : Addr) (w_EQ : Addr) (w_NE : Addr) (w_NOT : Addr) (w_AND : Addr) (w_OR : Addr) (w_XOR : Addr) (w_IFF : Addr) (w_IMP : Addr) (w_ARITHMETIC : Addr) (w_COMPARISON : Addr) (w_LOGICAL : Addr) (h0 : Heap) (n0 : Nat) (Z0 : n0 ≤ h0.size) (S_NEG : Sta Z h0 "com/example/failfirst/failfirst/Operator" "NEG" "Lcom/example/failfirst/failfirst/Operator;" (.ref w_NEG)) (E_NEG : Exa Z h0 w_NEG "com/example/failfirst/failfirst/Operator") (S_ABS : Sta Z h0 "com/example/failfirst/failfirst/Operator" "ABS" "Lcom/example/failfirst/failfirst/Operator;" (.ref w_ABS)) (E_ABS : Exa Z h0 w_ABS "com/example/failfirst/failfirst/Operator") (S_ADD : Sta Z h0 "com/example/failfirst/failfirst/Operator" "ADD" "Lcom/example/failfirst/failfirst/Operator;" (.ref w_ADD)) (E_ADD : Exa Z h0 w_ADD "com/example/failfirst/failfirst/Operator") (S_SUB : Sta Z h0 "com/example/failfirst/failfirst/Operator" "SUB" "Lcom/example/failfirst/failfirst/Operator;" (.ref w_SUB)) (E_SUB : Exa Z h0 w_SUB "com/example/failfirst/failfirst/Operator") (S_MUL : Sta Z h0 "com/example/failfirst/failfirst/Operator" "MUL" "Lcom/example/failfirst/failfirst/Operator;" (.ref w_MUL)) (E_MUL : Exa Z h0 w_MUL "com/example/failfirst/failfirst/Operator") (S_DIV : Sta Z h0 "com/example/failfirst/failfirst/Operator" "DIV" "Lcom/example/failfirst/failfirst/Operator;" (.ref w_DIV)) (E_DIV : Exa Z h0 w_DIV "com/example/failfirst/failfirst/Operator") (S_MOD : Sta Z h0 "com/example/failfirst/failfirst/Operator" "MOD" "Lcom/example/failfirst/failfirst/Operator;" (.ref w_MOD)) (E_MOD : Exa Z h0 w_MOD "com/example/failfirst/failfirst/Operator") (S_DIST : Sta Z h0 "com/example/failfirst/failfirst/Operator" "DIST" "Lcom/example/failfirst/failfirst/Operator;" (.ref w_DIST)) (E_DIST : Exa Z h0 w_DIST "com/example/failfirst/failfirst/Operator") (S_MIN : Sta Z h0 "com/example/failfirst/failfirst/Operator" "MIN" "Lcom/example/failfirst/failfirst/Operator;" (.ref w_MIN)) (E_MIN : Exa Z h0 w_MIN "com/example/failfirst/failfirst/Operator") (S_MAX : Sta Z h0 "com/example/failfirst/failfirst/Operator" "MAX" "Lcom/example/failfirst/failfirst/Operator;" (.ref w_MAX)) (E_MAX : Exa Z h0 w_MAX "com/example/failfirst/failfirst/Operator") (S_LT : Sta Z h0 "com/example/failfirst/failfirst/Operator" "LT" "Lcom/example/failfirst/failfirst/Operator;" (.ref w_LT)) (E_LT : Exa Z h0 w_LT "com/example/failfirst/failfirst/Operator") (S_LE : Sta Z h0 "com/example/failfirst/failfirst/Operator" "LE" "Lcom/example/failfirst/failfirst/Operator;" (.ref w_LE)) (E_LE : Exa Z h0 w_LE "com/example/failfirst/failfirst/Operator") (S_GE : Sta Z h0 "com/example/failfirst/failfirst/Operator" "GE" "Lcom/example/failfirst/failfirst/Operator;" (.ref w_GE)) (E_GE : Exa Z h0 w_GE "com/example/failfirst/failfirst/Operator") (S_GT : Sta Z h0 "com/example/failfirst/failfirst/Operator" "GT" "Lcom/example/failfirst/failfirst/Operator;" (.ref w_GT)) (E_GT : Exa Z h0 w_GT "com/example/failfirst/failfirst/Operator") (S_EQ : Sta Z h0 "com/example/failfirst/failfirst/Operator" "EQ" "Lcom/example/failfirst/failfirst/Operator;" (.ref w_EQ)) (E_EQ : Exa Z h0 w_EQ "com/example/failfirst/failfirst/Operator") (S_NE : Sta Z h0 "com/example/failfirst/failfirst/Operator" "NE" "Lcom/example/failfirst/failfirst/Operator;" (.ref w_NE)) (E_NE : Exa Z h0 w_NE "com/example/failfirst/failfirst/Operator") (S_NOT : Sta Z h0 "com/example/failfirst/failfirst/Operator" "NOT" "Lcom/example/failfirst/failfirst/Operator;" (.ref w_NOT)) (E_NOT : Exa Z h0 w_NOT "com/example/failfirst/failfirst/Operator") (S_AND : Sta Z h0 "com/example/failfirst/failfirst/Operator" "AND" "Lcom/example/failfirst/failfirst/Operator;" (.ref w_AND)) (E_AND : Exa Z h0 w_AND "com/example/failfirst/failfirst/Operator") (S_OR : Sta Z h0 "com/example/failfirst/failfirst/Operator" "OR" "Lcom/example/failfirst/failfirst/Operator;" (.ref w_OR)) (E_OR : Exa Z h0 w_OR "com/example/failfirst/failfirst/Operator") (S_XOR : Sta Z h0 "com/example/failfirst/failfirst/Operator" "XOR" "Lcom/example/failfirst/failfirst/Operator;" (.ref w_XOR)) (E_XOR : Exa Z h0 w_XOR "com/example/failfirst/failfirst/Operator") (S_IFF : Sta Z h0 "com/example/failfirst/failfirst/Operator" "IFF" "Lcom/example/failfirst/failfirst/Operator;" (.ref w_IFF)) (E_IFF : Exa Z h0 w_IFF "com/example/failfirst/failfirst/Operator") (S_IMP : Sta Z h0 "com/example/failfirst/failfirst/Operator" "IMP" "Lcom/example/failfirst/failfirst/Operator;" (.ref w_IMP)) (E_IMP : Exa Z h0 w_IMP "com/example/failfirst/failfirst/Operator") (F_NEG_ordinal : Fld Z h0 w_NEG "java/lang/Enum" "ordinal" "I" (.int (0 : Int32))) (F_ABS_ordinal : Fld Z h0 w_ABS "java/lang/Enum" "ordinal" "I" (.int (1 : Int32))) (F_ADD_ordinal : Fld Z h0 w_ADD "java/lang/Enum" "ordinal" "I" (.int (2 : Int32))) (F_SUB_ordinal : Fld Z h0 w_SUB "java/lang/Enum" "ordinal" "I" (.int (3 : Int32))) (F_MUL_ordinal : Fld Z h0 w_MUL "java/lang/Enum" "ordinal" "I" (.int (4 : Int32))) (F_DIV_ordinal : Fld Z h0 w_DIV "java/lang/Enum" "ordinal" "I" (.int (5 : Int32))) (F_MOD_ordinal : Fld Z h0 w_MOD "java/lang/Enum" "ordinal" "I" (.int (6 : Int32))) (F_DIST_ordinal : Fld Z h0 w_DIST "java/lang/Enum" "ordinal" "I" (.int (7 : Int32))) (F_MIN_ordinal : Fld Z h0 w_MIN "java/lang/Enum" "ordinal" "I" (.int (8 : Int32))) (F_MAX_ordinal : Fld Z h0 w_MAX "java/lang/Enum" "ordinal" "I" (.int (9 : Int32))) (F_LT_ordinal : Fld Z h0 w_LT "java/lang/Enum" "ordinal" "I" (.int (10 : Int32))) (F_LE_ordinal : Fld Z h0 w_LE "java/lang/Enum" "ordinal" "I" (.int (11 : Int32))) (F_GE_ordinal : Fld Z h0 w_GE "java/lang/Enum" "ordinal" "I" (.int (12 : Int32))) (F_GT_ordinal : Fld Z h0 w_GT "java/lang/Enum" "ordinal" "I" (.int (13 : Int32))) (F_EQ_ordinal : Fld Z h0 w_EQ "java/lang/Enum" "ordinal" "I" (.int (14 : Int32))) (F_NE_ordinal : Fld Z h0 w_NE "java/lang/Enum" "ordinal" "I" (.int (15 : Int32))) (F_NOT_ordinal : Fld Z h0 w_NOT "java/lang/Enum" "ordinal" "I" (.int (16 : Int32))) (F_AND_ordinal : Fld Z h0 w_AND "java/lang/Enum" "ordinal" "I" (.int (17 : Int32))) (F_OR_ordinal : Fld Z h0 w_OR "java/lang/Enum" "ordinal" "I" (.int (18 : Int32))) (F_XOR_ordinal : Fld Z h0 w_XOR "java/lang/Enum" "ordinal" "I" (.int (19 : Int32))) (F_IFF_ordinal : Fld Z h0 w_IFF "java/lang/Enum" "ordinal" "I" (.int (20 : Int32))) (F_IMP_ordinal : Fld Z h0 w_IMP "java/lang/Enum" "ordinal" "I" (.int (21 : Int32))) (F_NEG_kind : Fld Z h0 w_NEG "com/example/failfirst/failfirst/Operator" "kind" "Lcom/example/failfirst/failfirst/Operator$Kind;" (.ref w_ARITHMETIC)) (F_ABS_kind : Fld Z h0 w_ABS "com/example/failfirst/failfirst/Operator" "kind" "Lcom/example/failfirst/failfirst/Operator$Kind;" (.ref w_ARITHMETIC)) (F_ADD_kind : Fld Z h0 w_ADD "com/example/failfirst/failfirst/Operator" "kind" "Lcom/example/failfirst/failfirst/Operator$Kind;" (.ref w_ARITHMETIC)) (F_SUB_kind : Fld Z h0 w_SUB "com/example/failfirst/failfirst/Operator" "kind" "Lcom/example/failfirst/failfirst/Operator$Kind;" (.ref w_ARITHMETIC)) (F_MUL_kind : Fld Z h0 w_MUL "com/example/failfirst/failfirst/Operator" "kind" "Lcom/example/failfirst/failfirst/Operator$Kind;" (.ref w_ARITHMETIC)) (F_DIV_kind : Fld Z h0 w_DIV "com/example/failfirst/failfirst/Operator" "kind" "Lcom/example/failfirst/failfirst/Operator$Kind;" (.ref w_ARITHMETIC)) (F_MOD_kind : Fld Z h0 w_MOD "com/example/failfirst/failfirst/Operator" "kind" "Lcom/example/failfirst/failfirst/Operator$Kind;" (.ref w_ARITHMETIC)) (F_DIST_kind : Fld Z h0 w_DIST "com/example/failfirst/failfirst/Operator" "kind" "Lcom/example/failfirst/failfirst/Operator$Kind;" (.ref w_ARITHMETIC)) (F_MIN_kind : Fld Z h0 w_MIN "com/example/failfirst/failfirst/Operator" "kind" "Lcom/example/failfirst/failfirst/Operator$Kind;" (.ref w_ARITHMETIC)) (F_MAX_kind : Fld Z h0 w_MAX "com/example/failfirst/failfirst/Operator" "kind" "Lcom/example/failfirst/failfirst/Operator$Kind;" (.ref w_ARITHMETIC)) (F_LT_kind : Fld Z h0 w_LT "com/example/failfirst/failfirst/Operator" "kind" "Lcom/example/failfirst/failfirst/Operator$Kind;" (.ref w_COMPARISON)) (F_LE_kind : Fld Z h0 w_LE "com/example/failfirst/failfirst/Operator" "kind" "Lcom/example/failfirst/failfirst/Operator$Kind;" (.ref w_COMPARISON)) (F_GE_kind : Fld Z h0 w_GE "com/example/failfirst/failfirst/Operator" "kind" "Lcom/example/failfirst/failfirst/Operator$Kind;" (.ref w_COMPARISON)) (F_GT_kind : Fld Z h0 w_GT "com/example/failfirst/failfirst/Operator" "kind" "Lcom/example/failfirst/failfirst/Operator$Kind;" (.ref w_COMPARISON)) (F_EQ_kind : Fld Z h0 w_EQ "com/example/failfirst/failfirst/Operator" "kind" "Lcom/example/failfirst/failfirst/Operator$Kind;" (.ref w_COMPARISON)) (F_NE_kind : Fld Z h0 w_NE "com/example/failfirst/failfirst/Operator" "kind" "Lcom/example/failfirst/failfirst/Operator$Kind;" (.ref w_COMPARISON)) (F_NOT_kind : Fld Z h0 w_NOT "com/example/failfirst/failfirst/Operator" "kind" "Lcom/example/failfirst/failfirst/Operator$Kind;" (.ref w_LOGICAL)) (F_AND_kind : Fld Z h0 w_AND "com/example/failfirst/failfirst/Operator" "kind" "Lcom/example/failfirst/failfirst/Operator$Kind;" (.ref w_LOGICAL)) (F_OR_kind : Fld Z h0 w_OR "com/example/failfirst/failfirst/Operator" "kind" "Lcom/example/failfirst/failfirst/Operator$Kind;" (.ref w_LOGICAL)) (F_XOR_kind : Fld Z h0 w_XOR "com/example/failfirst/failfirst/Operator" "kind" "Lcom/example/failfirst/failfirst/Operator$Kind;" (.ref w_LOGICAL)) (F_IFF_kind : Fld Z h0 w_IFF "com/example/failfirst/failfirst/Operator" "kind" "Lcom/example/failfirst/failfirst/Operator$Kind;" (.ref w_LOGICAL)) (F_IMP_kind : Fld Z h0 w_IMP "com/example/failfirst/failfirst/Operator" "kind" "Lcom/example/failfirst/failfirst/Operator$Kind;" (.ref w_LOGICAL)) (S_COMPARISON : Sta Z h0 "com/example/failfirst/failfirst/Operator$Kind" "COMPARISON" "Lcom/example/failfirst/failfirst/Operator$Kind;" (.ref w_COMPARISON)) (nk_ARITHMETIC : ¬ w_ARITHMETIC = w_COMPARISON) (nk_LOGICAL : ¬ w_LOGICAL = w_COMPARISON) :
    MetFree l x (head1 (Jvm.Cond.code x code maxLocals ret :: ws) room_1) (fun a U => a = #[(.int p1)] ∧ Z.Warmed39 U.vm ∧ U.heap = h0) (fun _ _ _ _ _ => True) (fun _ U o U' => ∃ v L, o = .returned v ∧ Q0 Z p1 h0 n0 v U'.heap L ∧ FrameEnd U o U' L room_1.cells room_1.slots) := by
  have e1 : (p1 &&& (2147483647 : Int32)).toInt = p1.toInt % 2 ^ 31 := Jvm.Kit.i32_mask p1 2147483647 (k := 31) (by decide) (by decide)
  have e0 : 0 ≤ (p1 &&& (2147483647 : Int32)).toInt := by rw [e1]; omega
  have e2 : (((p1 &&& (2147483647 : Int32)) % (22 : Int32))).toInt = (p1 &&& (2147483647 : Int32)).toInt % (22 : Int32).toInt := Jvm.Kit.i32_rem_nonneg e0
  have k22 : (22 : Int32).toInt = 22 := by decide
  rw [k22] at e2
  have k0 : (0 : Int32).toInt = 0 := by decide
  have hj0 : ¬ ((p1 &&& (2147483647 : Int32)) % (22 : Int32)) < 0 := by rw [Int32.lt_iff_toInt_lt, k0]; omega
  have hj1 : ((p1 &&& (2147483647 : Int32)) % (22 : Int32)) < (22 : Int32) := by rw [Int32.lt_iff_toInt_lt, k22]; omega
  have hlt : (((p1 &&& (2147483647 : Int32)) % (22 : Int32))).toNatClampNeg < (22 : Int32).toNatClampNeg := by
    show (((p1 &&& (2147483647 : Int32)) % (22 : Int32))).toInt.toNat < 22
    omega
  have hn : (((p1 &&& (2147483647 : Int32)) % (22 : Int32))).toNatClampNeg < 22 := hlt
  have own_go : ∀ k, (((p1 &&& (2147483647 : Int32)) % (22 : Int32))).toNatClampNeg = k → k < 22 →
    MetFree l x (head1 (Jvm.Cond.code x code maxLocals ret :: ws) room_1) (fun a U => a = #[(.int p1)] ∧ Z.Warmed39 U.vm ∧ U.heap = h0) (fun _ _ _ _ _ => True) (fun _ U o U' => ∃ v L, o = .returned v ∧ Q0 Z p1 h0 n0 v U'.heap L ∧ FrameEnd U o U' L room_1.cells room_1.slots) := by
    intro k hk hk2
    match k, hk2 with
    | 0, _ => exact rm0_none l Z a0 hw ws p1 w_NEG w_ABS w_ADD w_SUB w_MUL w_DIV w_MOD w_DIST w_MIN w_MAX w_LT w_LE w_GE w_GT w_EQ w_NE w_NOT w_AND w_OR w_XOR w_IFF w_IMP w_NEG w_ARITHMETIC w_COMPARISON h0 n0 Z0 S_NEG E_NEG S_ABS E_ABS S_ADD E_ADD S_SUB E_SUB S_MUL E_MUL S_DIV E_DIV S_MOD E_MOD S_DIST E_DIST S_MIN E_MIN S_MAX E_MAX S_LT E_LT S_LE E_LE S_GE E_GE S_GT E_GT S_EQ E_EQ S_NE E_NE S_NOT E_NOT S_AND E_AND S_OR E_OR S_XOR E_XOR S_IFF E_IFF S_IMP E_IMP S_COMPARISON F_NEG_kind E_NEG hj0 hj1 hlt (by rw [hk]; rfl)  (hkd := nk_ARITHMETIC) (ha170 := F_NEG_ordinal.ne F_LT_ordinal (by simp)) (ha177 := F_NEG_ordinal.ne F_LE_ordinal (by simp)) (ha184 := F_NEG_ordinal.ne F_GE_ordinal (by simp)) (ha191 := F_NEG_ordinal.ne F_GT_ordinal (by simp)) (ha198 := F_NEG_ordinal.ne F_EQ_ordinal (by simp)) (ha205 := F_NEG_ordinal.ne F_NE_ordinal (by simp)) (hk221 := rfl)
    | 1, _ => exact rm0_none l Z a0 hw ws p1 w_NEG w_ABS w_ADD w_SUB w_MUL w_DIV w_MOD w_DIST w_MIN w_MAX w_LT w_LE w_GE w_GT w_EQ w_NE w_NOT w_AND w_OR w_XOR w_IFF w_IMP w_ABS w_ARITHMETIC w_COMPARISON h0 n0 Z0 S_NEG E_NEG S_ABS E_ABS S_ADD E_ADD S_SUB E_SUB S_MUL E_MUL S_DIV E_DIV S_MOD E_MOD S_DIST E_DIST S_MIN E_MIN S_MAX E_MAX S_LT E_LT S_LE E_LE S_GE E_GE S_GT E_GT S_EQ E_EQ S_NE E_NE S_NOT E_NOT S_AND E_AND S_OR E_OR S_XOR E_XOR S_IFF E_IFF S_IMP E_IMP S_COMPARISON F_ABS_kind E_ABS hj0 hj1 hlt (by rw [hk]; rfl)  (hkd := nk_ARITHMETIC) (ha170 := F_ABS_ordinal.ne F_LT_ordinal (by simp)) (ha177 := F_ABS_ordinal.ne F_LE_ordinal (by simp)) (ha184 := F_ABS_ordinal.ne F_GE_ordinal (by simp)) (ha191 := F_ABS_ordinal.ne F_GT_ordinal (by simp)) (ha198 := F_ABS_ordinal.ne F_EQ_ordinal (by simp)) (ha205 := F_ABS_ordinal.ne F_NE_ordinal (by simp)) (hk221 := rfl)
    | 2, _ => exact rm0_none l Z a0 hw ws p1 w_NEG w_ABS w_ADD w_SUB w_MUL w_DIV w_MOD w_DIST w_MIN w_MAX w_LT w_LE w_GE w_GT w_EQ w_NE w_NOT w_AND w_OR w_XOR w_IFF w_IMP w_ADD w_ARITHMETIC w_COMPARISON h0 n0 Z0 S_NEG E_NEG S_ABS E_ABS S_ADD E_ADD S_SUB E_SUB S_MUL E_MUL S_DIV E_DIV S_MOD E_MOD S_DIST E_DIST S_MIN E_MIN S_MAX E_MAX S_LT E_LT S_LE E_LE S_GE E_GE S_GT E_GT S_EQ E_EQ S_NE E_NE S_NOT E_NOT S_AND E_AND S_OR E_OR S_XOR E_XOR S_IFF E_IFF S_IMP E_IMP S_COMPARISON F_ADD_kind E_ADD hj0 hj1 hlt (by rw [hk]; rfl)  (hkd := nk_ARITHMETIC) (ha170 := F_ADD_ordinal.ne F_LT_ordinal (by simp)) (ha177 := F_ADD_ordinal.ne F_LE_ordinal (by simp)) (ha184 := F_ADD_ordinal.ne F_GE_ordinal (by simp)) (ha191 := F_ADD_ordinal.ne F_GT_ordinal (by simp)) (ha198 := F_ADD_ordinal.ne F_EQ_ordinal (by simp)) (ha205 := F_ADD_ordinal.ne F_NE_ordinal (by simp)) (hk221 := rfl)
    | 3, _ => exact rm0_none l Z a0 hw ws p1 w_NEG w_ABS w_ADD w_SUB w_MUL w_DIV w_MOD w_DIST w_MIN w_MAX w_LT w_LE w_GE w_GT w_EQ w_NE w_NOT w_AND w_OR w_XOR w_IFF w_IMP w_SUB w_ARITHMETIC w_COMPARISON h0 n0 Z0 S_NEG E_NEG S_ABS E_ABS S_ADD E_ADD S_SUB E_SUB S_MUL E_MUL S_DIV E_DIV S_MOD E_MOD S_DIST E_DIST S_MIN E_MIN S_MAX E_MAX S_LT E_LT S_LE E_LE S_GE E_GE S_GT E_GT S_EQ E_EQ S_NE E_NE S_NOT E_NOT S_AND E_AND S_OR E_OR S_XOR E_XOR S_IFF E_IFF S_IMP E_IMP S_COMPARISON F_SUB_kind E_SUB hj0 hj1 hlt (by rw [hk]; rfl)  (hkd := nk_ARITHMETIC) (ha170 := F_SUB_ordinal.ne F_LT_ordinal (by simp)) (ha177 := F_SUB_ordinal.ne F_LE_ordinal (by simp)) (ha184 := F_SUB_ordinal.ne F_GE_ordinal (by simp)) (ha191 := F_SUB_ordinal.ne F_GT_ordinal (by simp)) (ha198 := F_SUB_ordinal.ne F_EQ_ordinal (by simp)) (ha205 := F_SUB_ordinal.ne F_NE_ordinal (by simp)) (hk221 := rfl)
    | 4, _ => exact rm0_none l Z a0 hw ws p1 w_NEG w_ABS w_ADD w_SUB w_MUL w_DIV w_MOD w_DIST w_MIN w_MAX w_LT w_LE w_GE w_GT w_EQ w_NE w_NOT w_AND w_OR w_XOR w_IFF w_IMP w_MUL w_ARITHMETIC w_COMPARISON h0 n0 Z0 S_NEG E_NEG S_ABS E_ABS S_ADD E_ADD S_SUB E_SUB S_MUL E_MUL S_DIV E_DIV S_MOD E_MOD S_DIST E_DIST S_MIN E_MIN S_MAX E_MAX S_LT E_LT S_LE E_LE S_GE E_GE S_GT E_GT S_EQ E_EQ S_NE E_NE S_NOT E_NOT S_AND E_AND S_OR E_OR S_XOR E_XOR S_IFF E_IFF S_IMP E_IMP S_COMPARISON F_MUL_kind E_MUL hj0 hj1 hlt (by rw [hk]; rfl)  (hkd := nk_ARITHMETIC) (ha170 := F_MUL_ordinal.ne F_LT_ordinal (by simp)) (ha177 := F_MUL_ordinal.ne F_LE_ordinal (by simp)) (ha184 := F_MUL_ordinal.ne F_GE_ordinal (by simp)) (ha191 := F_MUL_ordinal.ne F_GT_ordinal (by simp)) (ha198 := F_MUL_ordinal.ne F_EQ_ordinal (by simp)) (ha205 := F_MUL_ordinal.ne F_NE_ordinal (by simp)) (hk221 := rfl)
    | 5, _ => exact rm0_none l Z a0 hw ws p1 w_NEG w_ABS w_ADD w_SUB w_MUL w_DIV w_MOD w_DIST w_MIN w_MAX w_LT w_LE w_GE w_GT w_EQ w_NE w_NOT w_AND w_OR w_XOR w_IFF w_IMP w_DIV w_ARITHMETIC w_COMPARISON h0 n0 Z0 S_NEG E_NEG S_ABS E_ABS S_ADD E_ADD S_SUB E_SUB S_MUL E_MUL S_DIV E_DIV S_MOD E_MOD S_DIST E_DIST S_MIN E_MIN S_MAX E_MAX S_LT E_LT S_LE E_LE S_GE E_GE S_GT E_GT S_EQ E_EQ S_NE E_NE S_NOT E_NOT S_AND E_AND S_OR E_OR S_XOR E_XOR S_IFF E_IFF S_IMP E_IMP S_COMPARISON F_DIV_kind E_DIV hj0 hj1 hlt (by rw [hk]; rfl)  (hkd := nk_ARITHMETIC) (ha170 := F_DIV_ordinal.ne F_LT_ordinal (by simp)) (ha177 := F_DIV_ordinal.ne F_LE_ordinal (by simp)) (ha184 := F_DIV_ordinal.ne F_GE_ordinal (by simp)) (ha191 := F_DIV_ordinal.ne F_GT_ordinal (by simp)) (ha198 := F_DIV_ordinal.ne F_EQ_ordinal (by simp)) (ha205 := F_DIV_ordinal.ne F_NE_ordinal (by simp)) (hk221 := rfl)
    | 6, _ => exact rm0_none l Z a0 hw ws p1 w_NEG w_ABS w_ADD w_SUB w_MUL w_DIV w_MOD w_DIST w_MIN w_MAX w_LT w_LE w_GE w_GT w_EQ w_NE w_NOT w_AND w_OR w_XOR w_IFF w_IMP w_MOD w_ARITHMETIC w_COMPARISON h0 n0 Z0 S_NEG E_NEG S_ABS E_ABS S_ADD E_ADD S_SUB E_SUB S_MUL E_MUL S_DIV E_DIV S_MOD E_MOD S_DIST E_DIST S_MIN E_MIN S_MAX E_MAX S_LT E_LT S_LE E_LE S_GE E_GE S_GT E_GT S_EQ E_EQ S_NE E_NE S_NOT E_NOT S_AND E_AND S_OR E_OR S_XOR E_XOR S_IFF E_IFF S_IMP E_IMP S_COMPARISON F_MOD_kind E_MOD hj0 hj1 hlt (by rw [hk]; rfl)  (hkd := nk_ARITHMETIC) (ha170 := F_MOD_ordinal.ne F_LT_ordinal (by simp)) (ha177 := F_MOD_ordinal.ne F_LE_ordinal (by simp)) (ha184 := F_MOD_ordinal.ne F_GE_ordinal (by simp)) (ha191 := F_MOD_ordinal.ne F_GT_ordinal (by simp)) (ha198 := F_MOD_ordinal.ne F_EQ_ordinal (by simp)) (ha205 := F_MOD_ordinal.ne F_NE_ordinal (by simp)) (hk221 := rfl)
    | 7, _ => exact rm0_none l Z a0 hw ws p1 w_NEG w_ABS w_ADD w_SUB w_MUL w_DIV w_MOD w_DIST w_MIN w_MAX w_LT w_LE w_GE w_GT w_EQ w_NE w_NOT w_AND w_OR w_XOR w_IFF w_IMP w_DIST w_ARITHMETIC w_COMPARISON h0 n0 Z0 S_NEG E_NEG S_ABS E_ABS S_ADD E_ADD S_SUB E_SUB S_MUL E_MUL S_DIV E_DIV S_MOD E_MOD S_DIST E_DIST S_MIN E_MIN S_MAX E_MAX S_LT E_LT S_LE E_LE S_GE E_GE S_GT E_GT S_EQ E_EQ S_NE E_NE S_NOT E_NOT S_AND E_AND S_OR E_OR S_XOR E_XOR S_IFF E_IFF S_IMP E_IMP S_COMPARISON F_DIST_kind E_DIST hj0 hj1 hlt (by rw [hk]; rfl)  (hkd := nk_ARITHMETIC) (ha170 := F_DIST_ordinal.ne F_LT_ordinal (by simp)) (ha177 := F_DIST_ordinal.ne F_LE_ordinal (by simp)) (ha184 := F_DIST_ordinal.ne F_GE_ordinal (by simp)) (ha191 := F_DIST_ordinal.ne F_GT_ordinal (by simp)) (ha198 := F_DIST_ordinal.ne F_EQ_ordinal (by simp)) (ha205 := F_DIST_ordinal.ne F_NE_ordinal (by simp)) (hk221 := rfl)
    | 8, _ => exact rm0_none l Z a0 hw ws p1 w_NEG w_ABS w_ADD w_SUB w_MUL w_DIV w_MOD w_DIST w_MIN w_MAX w_LT w_LE w_GE w_GT w_EQ w_NE w_NOT w_AND w_OR w_XOR w_IFF w_IMP w_MIN w_ARITHMETIC w_COMPARISON h0 n0 Z0 S_NEG E_NEG S_ABS E_ABS S_ADD E_ADD S_SUB E_SUB S_MUL E_MUL S_DIV E_DIV S_MOD E_MOD S_DIST E_DIST S_MIN E_MIN S_MAX E_MAX S_LT E_LT S_LE E_LE S_GE E_GE S_GT E_GT S_EQ E_EQ S_NE E_NE S_NOT E_NOT S_AND E_AND S_OR E_OR S_XOR E_XOR S_IFF E_IFF S_IMP E_IMP S_COMPARISON F_MIN_kind E_MIN hj0 hj1 hlt (by rw [hk]; rfl)  (hkd := nk_ARITHMETIC) (ha170 := F_MIN_ordinal.ne F_LT_ordinal (by simp)) (ha177 := F_MIN_ordinal.ne F_LE_ordinal (by simp)) (ha184 := F_MIN_ordinal.ne F_GE_ordinal (by simp)) (ha191 := F_MIN_ordinal.ne F_GT_ordinal (by simp)) (ha198 := F_MIN_ordinal.ne F_EQ_ordinal (by simp)) (ha205 := F_MIN_ordinal.ne F_NE_ordinal (by simp)) (hk221 := rfl)
    | 9, _ => exact rm0_none l Z a0 hw ws p1 w_NEG w_ABS w_ADD w_SUB w_MUL w_DIV w_MOD w_DIST w_MIN w_MAX w_LT w_LE w_GE w_GT w_EQ w_NE w_NOT w_AND w_OR w_XOR w_IFF w_IMP w_MAX w_ARITHMETIC w_COMPARISON h0 n0 Z0 S_NEG E_NEG S_ABS E_ABS S_ADD E_ADD S_SUB E_SUB S_MUL E_MUL S_DIV E_DIV S_MOD E_MOD S_DIST E_DIST S_MIN E_MIN S_MAX E_MAX S_LT E_LT S_LE E_LE S_GE E_GE S_GT E_GT S_EQ E_EQ S_NE E_NE S_NOT E_NOT S_AND E_AND S_OR E_OR S_XOR E_XOR S_IFF E_IFF S_IMP E_IMP S_COMPARISON F_MAX_kind E_MAX hj0 hj1 hlt (by rw [hk]; rfl)  (hkd := nk_ARITHMETIC) (ha170 := F_MAX_ordinal.ne F_LT_ordinal (by simp)) (ha177 := F_MAX_ordinal.ne F_LE_ordinal (by simp)) (ha184 := F_MAX_ordinal.ne F_GE_ordinal (by simp)) (ha191 := F_MAX_ordinal.ne F_GT_ordinal (by simp)) (ha198 := F_MAX_ordinal.ne F_EQ_ordinal (by simp)) (ha205 := F_MAX_ordinal.ne F_NE_ordinal (by simp)) (hk221 := rfl)
    | 10, _ => exact rm0_LT l Z a0 hw ws p1 w_NEG w_ABS w_ADD w_SUB w_MUL w_DIV w_MOD w_DIST w_MIN w_MAX w_LT w_LE w_GE w_GT w_EQ w_NE w_NOT w_AND w_OR w_XOR w_IFF w_IMP w_LT w_COMPARISON w_COMPARISON h0 n0 Z0 S_NEG E_NEG S_ABS E_ABS S_ADD E_ADD S_SUB E_SUB S_MUL E_MUL S_DIV E_DIV S_MOD E_MOD S_DIST E_DIST S_MIN E_MIN S_MAX E_MAX S_LT E_LT S_LE E_LE S_GE E_GE S_GT E_GT S_EQ E_EQ S_NE E_NE S_NOT E_NOT S_AND E_AND S_OR E_OR S_XOR E_XOR S_IFF E_IFF S_IMP E_IMP S_COMPARISON F_LT_kind E_LT hj0 hj1 hlt (by rw [hk]; rfl)  (hkd := rfl) (ha170 := rfl) (hk221 := rfl)
    | 11, _ => exact rm0_LE l Z a0 hw ws p1 w_NEG w_ABS w_ADD w_SUB w_MUL w_DIV w_MOD w_DIST w_MIN w_MAX w_LT w_LE w_GE w_GT w_EQ w_NE w_NOT w_AND w_OR w_XOR w_IFF w_IMP w_LE w_COMPARISON w_COMPARISON h0 n0 Z0 S_NEG E_NEG S_ABS E_ABS S_ADD E_ADD S_SUB E_SUB S_MUL E_MUL S_DIV E_DIV S_MOD E_MOD S_DIST E_DIST S_MIN E_MIN S_MAX E_MAX S_LT E_LT S_LE E_LE S_GE E_GE S_GT E_GT S_EQ E_EQ S_NE E_NE S_NOT E_NOT S_AND E_AND S_OR E_OR S_XOR E_XOR S_IFF E_IFF S_IMP E_IMP S_COMPARISON F_LE_kind E_LE hj0 hj1 hlt (by rw [hk]; rfl)  (hkd := rfl) (ha170 := F_LE_ordinal.ne F_LT_ordinal (by simp)) (ha177 := rfl) (hk221 := rfl)
    | 12, _ => exact rm0_GE l Z a0 hw ws p1 w_NEG w_ABS w_ADD w_SUB w_MUL w_DIV w_MOD w_DIST w_MIN w_MAX w_LT w_LE w_GE w_GT w_EQ w_NE w_NOT w_AND w_OR w_XOR w_IFF w_IMP w_GE w_COMPARISON w_COMPARISON h0 n0 Z0 S_NEG E_NEG S_ABS E_ABS S_ADD E_ADD S_SUB E_SUB S_MUL E_MUL S_DIV E_DIV S_MOD E_MOD S_DIST E_DIST S_MIN E_MIN S_MAX E_MAX S_LT E_LT S_LE E_LE S_GE E_GE S_GT E_GT S_EQ E_EQ S_NE E_NE S_NOT E_NOT S_AND E_AND S_OR E_OR S_XOR E_XOR S_IFF E_IFF S_IMP E_IMP S_COMPARISON F_GE_kind E_GE hj0 hj1 hlt (by rw [hk]; rfl)  (hkd := rfl) (ha170 := F_GE_ordinal.ne F_LT_ordinal (by simp)) (ha177 := F_GE_ordinal.ne F_LE_ordinal (by simp)) (ha184 := rfl) (hk221 := rfl)
    | 13, _ => exact rm0_GT l Z a0 hw ws p1 w_NEG w_ABS w_ADD w_SUB w_MUL w_DIV w_MOD w_DIST w_MIN w_MAX w_LT w_LE w_GE w_GT w_EQ w_NE w_NOT w_AND w_OR w_XOR w_IFF w_IMP w_GT w_COMPARISON w_COMPARISON h0 n0 Z0 S_NEG E_NEG S_ABS E_ABS S_ADD E_ADD S_SUB E_SUB S_MUL E_MUL S_DIV E_DIV S_MOD E_MOD S_DIST E_DIST S_MIN E_MIN S_MAX E_MAX S_LT E_LT S_LE E_LE S_GE E_GE S_GT E_GT S_EQ E_EQ S_NE E_NE S_NOT E_NOT S_AND E_AND S_OR E_OR S_XOR E_XOR S_IFF E_IFF S_IMP E_IMP S_COMPARISON F_GT_kind E_GT hj0 hj1 hlt (by rw [hk]; rfl)  (hkd := rfl) (ha170 := F_GT_ordinal.ne F_LT_ordinal (by simp)) (ha177 := F_GT_ordinal.ne F_LE_ordinal (by simp)) (ha184 := F_GT_ordinal.ne F_GE_ordinal (by simp)) (ha191 := rfl) (hk221 := rfl)
    | 14, _ => exact rm0_EQ l Z a0 hw ws p1 w_NEG w_ABS w_ADD w_SUB w_MUL w_DIV w_MOD w_DIST w_MIN w_MAX w_LT w_LE w_GE w_GT w_EQ w_NE w_NOT w_AND w_OR w_XOR w_IFF w_IMP w_EQ w_COMPARISON w_COMPARISON h0 n0 Z0 S_NEG E_NEG S_ABS E_ABS S_ADD E_ADD S_SUB E_SUB S_MUL E_MUL S_DIV E_DIV S_MOD E_MOD S_DIST E_DIST S_MIN E_MIN S_MAX E_MAX S_LT E_LT S_LE E_LE S_GE E_GE S_GT E_GT S_EQ E_EQ S_NE E_NE S_NOT E_NOT S_AND E_AND S_OR E_OR S_XOR E_XOR S_IFF E_IFF S_IMP E_IMP S_COMPARISON F_EQ_kind E_EQ hj0 hj1 hlt (by rw [hk]; rfl)  (hkd := rfl) (ha170 := F_EQ_ordinal.ne F_LT_ordinal (by simp)) (ha177 := F_EQ_ordinal.ne F_LE_ordinal (by simp)) (ha184 := F_EQ_ordinal.ne F_GE_ordinal (by simp)) (ha191 := F_EQ_ordinal.ne F_GT_ordinal (by simp)) (ha198 := rfl) (hk221 := rfl)
    | 15, _ => exact rm0_NE l Z a0 hw ws p1 w_NEG w_ABS w_ADD w_SUB w_MUL w_DIV w_MOD w_DIST w_MIN w_MAX w_LT w_LE w_GE w_GT w_EQ w_NE w_NOT w_AND w_OR w_XOR w_IFF w_IMP w_NE w_COMPARISON w_COMPARISON h0 n0 Z0 S_NEG E_NEG S_ABS E_ABS S_ADD E_ADD S_SUB E_SUB S_MUL E_MUL S_DIV E_DIV S_MOD E_MOD S_DIST E_DIST S_MIN E_MIN S_MAX E_MAX S_LT E_LT S_LE E_LE S_GE E_GE S_GT E_GT S_EQ E_EQ S_NE E_NE S_NOT E_NOT S_AND E_AND S_OR E_OR S_XOR E_XOR S_IFF E_IFF S_IMP E_IMP S_COMPARISON F_NE_kind E_NE hj0 hj1 hlt (by rw [hk]; rfl)  (hkd := rfl) (ha170 := F_NE_ordinal.ne F_LT_ordinal (by simp)) (ha177 := F_NE_ordinal.ne F_LE_ordinal (by simp)) (ha184 := F_NE_ordinal.ne F_GE_ordinal (by simp)) (ha191 := F_NE_ordinal.ne F_GT_ordinal (by simp)) (ha198 := F_NE_ordinal.ne F_EQ_ordinal (by simp)) (ha205 := rfl) (hk221 := rfl)
    | 16, _ => exact rm0_none l Z a0 hw ws p1 w_NEG w_ABS w_ADD w_SUB w_MUL w_DIV w_MOD w_DIST w_MIN w_MAX w_LT w_LE w_GE w_GT w_EQ w_NE w_NOT w_AND w_OR w_XOR w_IFF w_IMP w_NOT w_LOGICAL w_COMPARISON h0 n0 Z0 S_NEG E_NEG S_ABS E_ABS S_ADD E_ADD S_SUB E_SUB S_MUL E_MUL S_DIV E_DIV S_MOD E_MOD S_DIST E_DIST S_MIN E_MIN S_MAX E_MAX S_LT E_LT S_LE E_LE S_GE E_GE S_GT E_GT S_EQ E_EQ S_NE E_NE S_NOT E_NOT S_AND E_AND S_OR E_OR S_XOR E_XOR S_IFF E_IFF S_IMP E_IMP S_COMPARISON F_NOT_kind E_NOT hj0 hj1 hlt (by rw [hk]; rfl)  (hkd := nk_LOGICAL) (ha170 := F_NOT_ordinal.ne F_LT_ordinal (by simp)) (ha177 := F_NOT_ordinal.ne F_LE_ordinal (by simp)) (ha184 := F_NOT_ordinal.ne F_GE_ordinal (by simp)) (ha191 := F_NOT_ordinal.ne F_GT_ordinal (by simp)) (ha198 := F_NOT_ordinal.ne F_EQ_ordinal (by simp)) (ha205 := F_NOT_ordinal.ne F_NE_ordinal (by simp)) (hk221 := rfl)
    | 17, _ => exact rm0_none l Z a0 hw ws p1 w_NEG w_ABS w_ADD w_SUB w_MUL w_DIV w_MOD w_DIST w_MIN w_MAX w_LT w_LE w_GE w_GT w_EQ w_NE w_NOT w_AND w_OR w_XOR w_IFF w_IMP w_AND w_LOGICAL w_COMPARISON h0 n0 Z0 S_NEG E_NEG S_ABS E_ABS S_ADD E_ADD S_SUB E_SUB S_MUL E_MUL S_DIV E_DIV S_MOD E_MOD S_DIST E_DIST S_MIN E_MIN S_MAX E_MAX S_LT E_LT S_LE E_LE S_GE E_GE S_GT E_GT S_EQ E_EQ S_NE E_NE S_NOT E_NOT S_AND E_AND S_OR E_OR S_XOR E_XOR S_IFF E_IFF S_IMP E_IMP S_COMPARISON F_AND_kind E_AND hj0 hj1 hlt (by rw [hk]; rfl)  (hkd := nk_LOGICAL) (ha170 := F_AND_ordinal.ne F_LT_ordinal (by simp)) (ha177 := F_AND_ordinal.ne F_LE_ordinal (by simp)) (ha184 := F_AND_ordinal.ne F_GE_ordinal (by simp)) (ha191 := F_AND_ordinal.ne F_GT_ordinal (by simp)) (ha198 := F_AND_ordinal.ne F_EQ_ordinal (by simp)) (ha205 := F_AND_ordinal.ne F_NE_ordinal (by simp)) (hk221 := rfl)
    | 18, _ => exact rm0_none l Z a0 hw ws p1 w_NEG w_ABS w_ADD w_SUB w_MUL w_DIV w_MOD w_DIST w_MIN w_MAX w_LT w_LE w_GE w_GT w_EQ w_NE w_NOT w_AND w_OR w_XOR w_IFF w_IMP w_OR w_LOGICAL w_COMPARISON h0 n0 Z0 S_NEG E_NEG S_ABS E_ABS S_ADD E_ADD S_SUB E_SUB S_MUL E_MUL S_DIV E_DIV S_MOD E_MOD S_DIST E_DIST S_MIN E_MIN S_MAX E_MAX S_LT E_LT S_LE E_LE S_GE E_GE S_GT E_GT S_EQ E_EQ S_NE E_NE S_NOT E_NOT S_AND E_AND S_OR E_OR S_XOR E_XOR S_IFF E_IFF S_IMP E_IMP S_COMPARISON F_OR_kind E_OR hj0 hj1 hlt (by rw [hk]; rfl)  (hkd := nk_LOGICAL) (ha170 := F_OR_ordinal.ne F_LT_ordinal (by simp)) (ha177 := F_OR_ordinal.ne F_LE_ordinal (by simp)) (ha184 := F_OR_ordinal.ne F_GE_ordinal (by simp)) (ha191 := F_OR_ordinal.ne F_GT_ordinal (by simp)) (ha198 := F_OR_ordinal.ne F_EQ_ordinal (by simp)) (ha205 := F_OR_ordinal.ne F_NE_ordinal (by simp)) (hk221 := rfl)
    | 19, _ => exact rm0_none l Z a0 hw ws p1 w_NEG w_ABS w_ADD w_SUB w_MUL w_DIV w_MOD w_DIST w_MIN w_MAX w_LT w_LE w_GE w_GT w_EQ w_NE w_NOT w_AND w_OR w_XOR w_IFF w_IMP w_XOR w_LOGICAL w_COMPARISON h0 n0 Z0 S_NEG E_NEG S_ABS E_ABS S_ADD E_ADD S_SUB E_SUB S_MUL E_MUL S_DIV E_DIV S_MOD E_MOD S_DIST E_DIST S_MIN E_MIN S_MAX E_MAX S_LT E_LT S_LE E_LE S_GE E_GE S_GT E_GT S_EQ E_EQ S_NE E_NE S_NOT E_NOT S_AND E_AND S_OR E_OR S_XOR E_XOR S_IFF E_IFF S_IMP E_IMP S_COMPARISON F_XOR_kind E_XOR hj0 hj1 hlt (by rw [hk]; rfl)  (hkd := nk_LOGICAL) (ha170 := F_XOR_ordinal.ne F_LT_ordinal (by simp)) (ha177 := F_XOR_ordinal.ne F_LE_ordinal (by simp)) (ha184 := F_XOR_ordinal.ne F_GE_ordinal (by simp)) (ha191 := F_XOR_ordinal.ne F_GT_ordinal (by simp)) (ha198 := F_XOR_ordinal.ne F_EQ_ordinal (by simp)) (ha205 := F_XOR_ordinal.ne F_NE_ordinal (by simp)) (hk221 := rfl)
    | 20, _ => exact rm0_none l Z a0 hw ws p1 w_NEG w_ABS w_ADD w_SUB w_MUL w_DIV w_MOD w_DIST w_MIN w_MAX w_LT w_LE w_GE w_GT w_EQ w_NE w_NOT w_AND w_OR w_XOR w_IFF w_IMP w_IFF w_LOGICAL w_COMPARISON h0 n0 Z0 S_NEG E_NEG S_ABS E_ABS S_ADD E_ADD S_SUB E_SUB S_MUL E_MUL S_DIV E_DIV S_MOD E_MOD S_DIST E_DIST S_MIN E_MIN S_MAX E_MAX S_LT E_LT S_LE E_LE S_GE E_GE S_GT E_GT S_EQ E_EQ S_NE E_NE S_NOT E_NOT S_AND E_AND S_OR E_OR S_XOR E_XOR S_IFF E_IFF S_IMP E_IMP S_COMPARISON F_IFF_kind E_IFF hj0 hj1 hlt (by rw [hk]; rfl)  (hkd := nk_LOGICAL) (ha170 := F_IFF_ordinal.ne F_LT_ordinal (by simp)) (ha177 := F_IFF_ordinal.ne F_LE_ordinal (by simp)) (ha184 := F_IFF_ordinal.ne F_GE_ordinal (by simp)) (ha191 := F_IFF_ordinal.ne F_GT_ordinal (by simp)) (ha198 := F_IFF_ordinal.ne F_EQ_ordinal (by simp)) (ha205 := F_IFF_ordinal.ne F_NE_ordinal (by simp)) (hk221 := rfl)
    | 21, _ => exact rm0_none l Z a0 hw ws p1 w_NEG w_ABS w_ADD w_SUB w_MUL w_DIV w_MOD w_DIST w_MIN w_MAX w_LT w_LE w_GE w_GT w_EQ w_NE w_NOT w_AND w_OR w_XOR w_IFF w_IMP w_IMP w_LOGICAL w_COMPARISON h0 n0 Z0 S_NEG E_NEG S_ABS E_ABS S_ADD E_ADD S_SUB E_SUB S_MUL E_MUL S_DIV E_DIV S_MOD E_MOD S_DIST E_DIST S_MIN E_MIN S_MAX E_MAX S_LT E_LT S_LE E_LE S_GE E_GE S_GT E_GT S_EQ E_EQ S_NE E_NE S_NOT E_NOT S_AND E_AND S_OR E_OR S_XOR E_XOR S_IFF E_IFF S_IMP E_IMP S_COMPARISON F_IMP_kind E_IMP hj0 hj1 hlt (by rw [hk]; rfl)  (hkd := nk_LOGICAL) (ha170 := F_IMP_ordinal.ne F_LT_ordinal (by simp)) (ha177 := F_IMP_ordinal.ne F_LE_ordinal (by simp)) (ha184 := F_IMP_ordinal.ne F_GE_ordinal (by simp)) (ha191 := F_IMP_ordinal.ne F_GT_ordinal (by simp)) (ha198 := F_IMP_ordinal.ne F_EQ_ordinal (by simp)) (ha205 := F_IMP_ordinal.ne F_NE_ordinal (by simp)) (hk221 := rfl)
    | k + 22, hk3 => exact absurd hk3 (by omega)
  exact own_go _ rfl hn
theorem own_fe {Z : State} {args : Array Value} {t : Term} {a : Addr} {C n d : String} {k : Int32} (ev : t.eval args Z none [] Z = some (.ref a)) (h : (Jvm.Cond.eq (.field t C n d) (.int k)).value args Z none Z [] = some true) : Fld Z Z.heap a C n d (.int k) := by
  obtain ⟨x, y, ex, ey, kin, -⟩ := cmp_v (Or.inl h)
  have hy : y = .int k := by rw [Term.int_eval] at ey; exact (Option.some.inj ey).symm
  subst hy
  have hx : x = .int k := by
    cases x <;> simp [Kin, Value.isRef] at kin
    rename_i z
    simp only [Cond.value, ex, ey] at h
    have q : z = k := by simpa using h
    rw [q]
  rw [fld_at ev, hx] at ex
  exact Fld.start ex
theorem own_fr {Z : State} {args : Array Value} {t u : Term} {a b : Addr} {C n d : String} (ev : t.eval args Z none [] Z = some (.ref a)) (eu : u.eval args Z none [] Z = some (.ref b)) (h : (Jvm.Cond.eq (.field t C n d) u).value args Z none Z [] = some true) : Fld Z Z.heap a C n d (.ref b) := by
  obtain ⟨x, y, ex, ey, kin, -⟩ := cmp_v (Or.inl h)
  have hy : y = .ref b := by rw [eu] at ey; exact (Option.some.inj ey).symm
  subst hy
  have hx : x = .ref b := by
    have q := gotT (eq_R ex eu (by cases x <;> simp [Kin, Value.isRef] at kin ⊢) rfl) h
    exact q
  rw [fld_at ev, hx] at ex
  exact Fld.start ex
set_option maxRecDepth 65536 in
set_option maxHeartbeats 40000000 in
theorem comes_1 {Post : Tables → Env → Array Value → State → Outcome → State → Prop} (hpost : ∀ tb e args s v u, (limb_1_1.after args s (.returned v) u = true ∧ limb_1_2.after args s (.returned v) u = true ∧ True) → FrameEnd s (.returned v) u (Jvm.fieldLocs frame_1_writes args s ++ Jvm.arrayLocs frame_1_arrays args s ++ Jvm.staticLocs frame_1_statics s) 16 128 → Post tb e args s (.returned v) u) :
    ArmFor flags0 classFile x code maxLocals ret World_1 tables_1 room_1 Calls_1 rest_1 Pre_1 Post := by
  intro l hfl _ _ p e ha hc hk s m args below hf hA hF happ hP
  obtain ⟨hcalls, hrest, hpre⟩ := hP
  obtain ⟨-, -, -, hnamed, -, -, -, hat⟩ := (Spec.applies_iff hf).mp happ
  obtain ⟨hg, hn⟩ := and_e (Cond.before_iff.mp (show (Jvm.Cond.and given_1 narrow_1).before args s = true from hpre))
  obtain ⟨g76, g77⟩ := and_e hg
  obtain ⟨w0, rfl⟩ : ∃ w0 : Value, args = #[w0] := by
    have hs : args.size = 1 := by simpa [Cond.value, given_1] using g76
    obtain ⟨L⟩ := args
    match L, hs with
    | [w0], _ => exact ⟨w0, rfl⟩
  have hw := fun d (hd : d ∈ tables_1) => atoms_spec (ws := Jvm.Cond.code x code maxLocals ret :: tables_1) hat d (List.mem_cons_of_mem _ hd)
  have hfit : Fit s := fun {y c} hc i hi => by
    obtain ⟨ha, rfl⟩ := Array.getElem?_eq_some_iff.mp hc
    have q := List.all_eq_true.mp ((Array.all_eq_true_iff_forall_mem.mp hF) _ (Array.getElem_mem ha)) i (List.mem_range.mpr hi)
    simpa [Array.getElem?_eq_getElem hi] using q
  obtain ⟨i0, ei0⟩ := is_v g77
  obtain rfl : w0 = (.int i0) := Option.some.inj ei0
  obtain ⟨c_0, r_0⟩ := and_e hn
  obtain ⟨c_1, r_1⟩ := and_e r_0
  obtain ⟨c_2, r_2⟩ := and_e r_1
  obtain ⟨c_3, r_3⟩ := and_e r_2
  obtain ⟨c_4, r_4⟩ := and_e r_3
  obtain ⟨c_5, r_5⟩ := and_e r_4
  obtain ⟨c_6, r_6⟩ := and_e r_5
  obtain ⟨c_7, r_7⟩ := and_e r_6
  obtain ⟨c_8, r_8⟩ := and_e r_7
  obtain ⟨c_9, r_9⟩ := and_e r_8
  obtain ⟨c_10, r_10⟩ := and_e r_9
  obtain ⟨c_11, r_11⟩ := and_e r_10
  obtain ⟨c_12, r_12⟩ := and_e r_11
  obtain ⟨c_13, r_13⟩ := and_e r_12
  obtain ⟨c_14, r_14⟩ := and_e r_13
  obtain ⟨c_15, r_15⟩ := and_e r_14
  obtain ⟨c_16, r_16⟩ := and_e r_15
  obtain ⟨c_17, r_17⟩ := and_e r_16
  obtain ⟨c_18, r_18⟩ := and_e r_17
  obtain ⟨c_19, r_19⟩ := and_e r_18
  obtain ⟨c_20, r_20⟩ := and_e r_19
  obtain ⟨c_21, r_21⟩ := and_e r_20
  obtain ⟨c_22, r_22⟩ := and_e r_21
  obtain ⟨c_23, r_23⟩ := and_e r_22
  obtain ⟨c_24, r_24⟩ := and_e r_23
  obtain ⟨c_25, r_25⟩ := and_e r_24
  obtain ⟨c_26, r_26⟩ := and_e r_25
  obtain ⟨c_27, r_27⟩ := and_e r_26
  obtain ⟨c_28, r_28⟩ := and_e r_27
  obtain ⟨c_29, r_29⟩ := and_e r_28
  obtain ⟨c_30, r_30⟩ := and_e r_29
  obtain ⟨c_31, r_31⟩ := and_e r_30
  obtain ⟨c_32, r_32⟩ := and_e r_31
  obtain ⟨c_33, r_33⟩ := and_e r_32
  obtain ⟨c_34, r_34⟩ := and_e r_33
  obtain ⟨c_35, r_35⟩ := and_e r_34
  obtain ⟨c_36, r_36⟩ := and_e r_35
  obtain ⟨c_37, r_37⟩ := and_e r_36
  obtain ⟨c_38, r_38⟩ := and_e r_37
  obtain ⟨c_39, r_39⟩ := and_e r_38
  obtain ⟨c_40, r_40⟩ := and_e r_39
  obtain ⟨c_41, r_41⟩ := and_e r_40
  obtain ⟨c_42, r_42⟩ := and_e r_41
  obtain ⟨c_43, r_43⟩ := and_e r_42
  obtain ⟨c_44, r_44⟩ := and_e r_43
  obtain ⟨c_45, r_45⟩ := and_e r_44
  obtain ⟨c_46, r_46⟩ := and_e r_45
  obtain ⟨c_47, r_47⟩ := and_e r_46
  obtain ⟨c_48, r_48⟩ := and_e r_47
  obtain ⟨c_49, r_49⟩ := and_e r_48
  obtain ⟨c_50, r_50⟩ := and_e r_49
  obtain ⟨c_51, r_51⟩ := and_e r_50
  obtain ⟨c_52, r_52⟩ := and_e r_51
  obtain ⟨c_53, r_53⟩ := and_e r_52
  obtain ⟨c_54, r_54⟩ := and_e r_53
  obtain ⟨c_55, r_55⟩ := and_e r_54
  obtain ⟨c_56, r_56⟩ := and_e r_55
  obtain ⟨c_57, r_57⟩ := and_e r_56
  obtain ⟨c_58, r_58⟩ := and_e r_57
  obtain ⟨c_59, r_59⟩ := and_e r_58
  obtain ⟨c_60, r_60⟩ := and_e r_59
  obtain ⟨c_61, r_61⟩ := and_e r_60
  obtain ⟨c_62, r_62⟩ := and_e r_61
  obtain ⟨c_63, r_63⟩ := and_e r_62
  obtain ⟨c_64, r_64⟩ := and_e r_63
  obtain ⟨c_65, r_65⟩ := and_e r_64
  obtain ⟨c_66, r_66⟩ := and_e r_65
  obtain ⟨c_67, r_67⟩ := and_e r_66
  obtain ⟨c_68, r_68⟩ := and_e r_67
  obtain ⟨c_69, r_69⟩ := and_e r_68
  obtain ⟨c_70, r_70⟩ := and_e r_69
  obtain ⟨w_NEG, v_NEG⟩ := exa_v c_0
  have S_NEG := Sta.start v_NEG (Or.inr ⟨(hw _ (List.mem_of_getElem? (i := 3) rfl)), (hw _ (List.mem_of_getElem? (i := 4) rfl))⟩)
  have E_NEG := Exa.start v_NEG c_0
  obtain ⟨w_ABS, v_ABS⟩ := exa_v c_1
  have S_ABS := Sta.start v_ABS (Or.inr ⟨(hw _ (List.mem_of_getElem? (i := 3) rfl)), (hw _ (List.mem_of_getElem? (i := 7) rfl))⟩)
  have E_ABS := Exa.start v_ABS c_1
  obtain ⟨w_ADD, v_ADD⟩ := exa_v c_2
  have S_ADD := Sta.start v_ADD (Or.inr ⟨(hw _ (List.mem_of_getElem? (i := 3) rfl)), (hw _ (List.mem_of_getElem? (i := 9) rfl))⟩)
  have E_ADD := Exa.start v_ADD c_2
  obtain ⟨w_SUB, v_SUB⟩ := exa_v c_3
  have S_SUB := Sta.start v_SUB (Or.inr ⟨(hw _ (List.mem_of_getElem? (i := 3) rfl)), (hw _ (List.mem_of_getElem? (i := 11) rfl))⟩)
  have E_SUB := Exa.start v_SUB c_3
  obtain ⟨w_MUL, v_MUL⟩ := exa_v c_4
  have S_MUL := Sta.start v_MUL (Or.inr ⟨(hw _ (List.mem_of_getElem? (i := 3) rfl)), (hw _ (List.mem_of_getElem? (i := 13) rfl))⟩)
  have E_MUL := Exa.start v_MUL c_4
  obtain ⟨w_DIV, v_DIV⟩ := exa_v c_5
  have S_DIV := Sta.start v_DIV (Or.inr ⟨(hw _ (List.mem_of_getElem? (i := 3) rfl)), (hw _ (List.mem_of_getElem? (i := 15) rfl))⟩)
  have E_DIV := Exa.start v_DIV c_5
  obtain ⟨w_MOD, v_MOD⟩ := exa_v c_6
  have S_MOD := Sta.start v_MOD (Or.inr ⟨(hw _ (List.mem_of_getElem? (i := 3) rfl)), (hw _ (List.mem_of_getElem? (i := 17) rfl))⟩)
  have E_MOD := Exa.start v_MOD c_6
  obtain ⟨w_DIST, v_DIST⟩ := exa_v c_7
  have S_DIST := Sta.start v_DIST (Or.inr ⟨(hw _ (List.mem_of_getElem? (i := 3) rfl)), (hw _ (List.mem_of_getElem? (i := 19) rfl))⟩)
  have E_DIST := Exa.start v_DIST c_7
  obtain ⟨w_MIN, v_MIN⟩ := exa_v c_8
  have S_MIN := Sta.start v_MIN (Or.inr ⟨(hw _ (List.mem_of_getElem? (i := 3) rfl)), (hw _ (List.mem_of_getElem? (i := 21) rfl))⟩)
  have E_MIN := Exa.start v_MIN c_8
  obtain ⟨w_MAX, v_MAX⟩ := exa_v c_9
  have S_MAX := Sta.start v_MAX (Or.inr ⟨(hw _ (List.mem_of_getElem? (i := 3) rfl)), (hw _ (List.mem_of_getElem? (i := 23) rfl))⟩)
  have E_MAX := Exa.start v_MAX c_9
  obtain ⟨w_LT, v_LT⟩ := exa_v c_10
  have S_LT := Sta.start v_LT (Or.inr ⟨(hw _ (List.mem_of_getElem? (i := 3) rfl)), (hw _ (List.mem_of_getElem? (i := 25) rfl))⟩)
  have E_LT := Exa.start v_LT c_10
  obtain ⟨w_LE, v_LE⟩ := exa_v c_11
  have S_LE := Sta.start v_LE (Or.inr ⟨(hw _ (List.mem_of_getElem? (i := 3) rfl)), (hw _ (List.mem_of_getElem? (i := 27) rfl))⟩)
  have E_LE := Exa.start v_LE c_11
  obtain ⟨w_GE, v_GE⟩ := exa_v c_12
  have S_GE := Sta.start v_GE (Or.inr ⟨(hw _ (List.mem_of_getElem? (i := 3) rfl)), (hw _ (List.mem_of_getElem? (i := 29) rfl))⟩)
  have E_GE := Exa.start v_GE c_12
  obtain ⟨w_GT, v_GT⟩ := exa_v c_13
  have S_GT := Sta.start v_GT (Or.inr ⟨(hw _ (List.mem_of_getElem? (i := 3) rfl)), (hw _ (List.mem_of_getElem? (i := 31) rfl))⟩)
  have E_GT := Exa.start v_GT c_13
  obtain ⟨w_EQ, v_EQ⟩ := exa_v c_14
  have S_EQ := Sta.start v_EQ (Or.inr ⟨(hw _ (List.mem_of_getElem? (i := 3) rfl)), (hw _ (List.mem_of_getElem? (i := 33) rfl))⟩)
  have E_EQ := Exa.start v_EQ c_14
  obtain ⟨w_NE, v_NE⟩ := exa_v c_15
  have S_NE := Sta.start v_NE (Or.inr ⟨(hw _ (List.mem_of_getElem? (i := 3) rfl)), (hw _ (List.mem_of_getElem? (i := 35) rfl))⟩)
  have E_NE := Exa.start v_NE c_15
  obtain ⟨w_NOT, v_NOT⟩ := exa_v c_16
  have S_NOT := Sta.start v_NOT (Or.inr ⟨(hw _ (List.mem_of_getElem? (i := 3) rfl)), (hw _ (List.mem_of_getElem? (i := 37) rfl))⟩)
  have E_NOT := Exa.start v_NOT c_16
  obtain ⟨w_AND, v_AND⟩ := exa_v c_17
  have S_AND := Sta.start v_AND (Or.inr ⟨(hw _ (List.mem_of_getElem? (i := 3) rfl)), (hw _ (List.mem_of_getElem? (i := 39) rfl))⟩)
  have E_AND := Exa.start v_AND c_17
  obtain ⟨w_OR, v_OR⟩ := exa_v c_18
  have S_OR := Sta.start v_OR (Or.inr ⟨(hw _ (List.mem_of_getElem? (i := 3) rfl)), (hw _ (List.mem_of_getElem? (i := 41) rfl))⟩)
  have E_OR := Exa.start v_OR c_18
  obtain ⟨w_XOR, v_XOR⟩ := exa_v c_19
  have S_XOR := Sta.start v_XOR (Or.inr ⟨(hw _ (List.mem_of_getElem? (i := 3) rfl)), (hw _ (List.mem_of_getElem? (i := 43) rfl))⟩)
  have E_XOR := Exa.start v_XOR c_19
  obtain ⟨w_IFF, v_IFF⟩ := exa_v c_20
  have S_IFF := Sta.start v_IFF (Or.inr ⟨(hw _ (List.mem_of_getElem? (i := 3) rfl)), (hw _ (List.mem_of_getElem? (i := 45) rfl))⟩)
  have E_IFF := Exa.start v_IFF c_20
  obtain ⟨w_IMP, v_IMP⟩ := exa_v c_21
  have S_IMP := Sta.start v_IMP (Or.inr ⟨(hw _ (List.mem_of_getElem? (i := 3) rfl)), (hw _ (List.mem_of_getElem? (i := 47) rfl))⟩)
  have E_IMP := Exa.start v_IMP c_21
  obtain ⟨w_ARITHMETIC, v_ARITHMETIC⟩ := exa_v c_29
  have S_ARITHMETIC := Sta.start v_ARITHMETIC (Or.inr ⟨(hw _ (List.mem_of_getElem? (i := 56) rfl)), (hw _ (List.mem_of_getElem? (i := 57) rfl))⟩)
  have E_ARITHMETIC := Exa.start v_ARITHMETIC c_29
  obtain ⟨w_COMPARISON, v_COMPARISON⟩ := exa_v c_31
  have S_COMPARISON := Sta.start v_COMPARISON (Or.inr ⟨(hw _ (List.mem_of_getElem? (i := 56) rfl)), (hw _ (List.mem_of_getElem? (i := 59) rfl))⟩)
  have E_COMPARISON := Exa.start v_COMPARISON c_31
  obtain ⟨w_LOGICAL, v_LOGICAL⟩ := exa_v c_51
  have S_LOGICAL := Sta.start v_LOGICAL (Or.inr ⟨(hw _ (List.mem_of_getElem? (i := 56) rfl)), (hw _ (List.mem_of_getElem? (i := 60) rfl))⟩)
  have E_LOGICAL := Exa.start v_LOGICAL c_51
  have F_NEG_ordinal := own_fe v_NEG c_22
  have F_LT_ordinal := own_fe v_LT c_23
  have F_LE_ordinal := own_fe v_LE c_24
  have F_GE_ordinal := own_fe v_GE c_25
  have F_GT_ordinal := own_fe v_GT c_26
  have F_EQ_ordinal := own_fe v_EQ c_27
  have F_NE_ordinal := own_fe v_NE c_28
  have F_NEG_kind := own_fr v_NEG v_ARITHMETIC c_30
  have F_ARITHMETIC_ordinal := own_fe v_ARITHMETIC c_32
  have F_COMPARISON_ordinal := own_fe v_COMPARISON c_33
  have F_SUB_ordinal := own_fe v_SUB c_34
  have F_SUB_kind := own_fr v_SUB v_ARITHMETIC c_35
  have F_DIST_ordinal := own_fe v_DIST c_36
  have F_DIST_kind := own_fr v_DIST v_ARITHMETIC c_37
  have F_MIN_ordinal := own_fe v_MIN c_38
  have F_MIN_kind := own_fr v_MIN v_ARITHMETIC c_39
  have F_ADD_ordinal := own_fe v_ADD c_40
  have F_ADD_kind := own_fr v_ADD v_ARITHMETIC c_41
  have F_LE_kind := own_fr v_LE v_COMPARISON c_42
  have F_LT_kind := own_fr v_LT v_COMPARISON c_43
  have F_ABS_ordinal := own_fe v_ABS c_44
  have F_ABS_kind := own_fr v_ABS v_ARITHMETIC c_45
  have F_MAX_ordinal := own_fe v_MAX c_46
  have F_MAX_kind := own_fr v_MAX v_ARITHMETIC c_47
  have F_DIV_ordinal := own_fe v_DIV c_48
  have F_DIV_kind := own_fr v_DIV v_ARITHMETIC c_49
  have F_NOT_ordinal := own_fe v_NOT c_50
  have F_NOT_kind := own_fr v_NOT v_LOGICAL c_52
  have F_LOGICAL_ordinal := own_fe v_LOGICAL c_53
  have F_MOD_ordinal := own_fe v_MOD c_54
  have F_MOD_kind := own_fr v_MOD v_ARITHMETIC c_55
  have F_XOR_ordinal := own_fe v_XOR c_56
  have F_XOR_kind := own_fr v_XOR v_LOGICAL c_57
  have F_OR_ordinal := own_fe v_OR c_58
  have F_OR_kind := own_fr v_OR v_LOGICAL c_59
  have F_NE_kind := own_fr v_NE v_COMPARISON c_60
  have F_MUL_ordinal := own_fe v_MUL c_61
  have F_MUL_kind := own_fr v_MUL v_ARITHMETIC c_62
  have F_IMP_ordinal := own_fe v_IMP c_63
  have F_IMP_kind := own_fr v_IMP v_LOGICAL c_64
  have F_EQ_kind := own_fr v_EQ v_COMPARISON c_65
  have F_GE_kind := own_fr v_GE v_COMPARISON c_66
  have F_GT_kind := own_fr v_GT v_COMPARISON c_67
  have F_AND_ordinal := own_fe v_AND c_68
  have F_AND_kind := own_fr v_AND v_LOGICAL c_69
  have F_IFF_ordinal := own_fe v_IFF c_70
  have F_IFF_kind := own_fr v_IFF v_LOGICAL r_70
  obtain ⟨n, o, h1, h2, h3, _, L, rfl, ⟨rfl, N⟩, hq⟩ := rm0 l s _ hw tables_1 i0 w_NEG w_ABS w_ADD w_SUB w_MUL w_DIV w_MOD w_DIST w_MIN w_MAX w_LT w_LE w_GE w_GT w_EQ w_NE w_NOT w_AND w_OR w_XOR w_IFF w_IMP w_ARITHMETIC w_COMPARISON w_LOGICAL s.heap s.heap.size (Nat.le_refl _) S_NEG E_NEG S_ABS E_ABS S_ADD E_ADD S_SUB E_SUB S_MUL E_MUL S_DIV E_DIV S_MOD E_MOD S_DIST E_DIST S_MIN E_MIN S_MAX E_MAX S_LT E_LT S_LE E_LE S_GE E_GE S_GT E_GT S_EQ E_EQ S_NE E_NE S_NOT E_NOT S_AND E_AND S_OR E_OR S_XOR E_XOR S_IFF E_IFF S_IMP E_IMP F_NEG_ordinal F_ABS_ordinal F_ADD_ordinal F_SUB_ordinal F_MUL_ordinal F_DIV_ordinal F_MOD_ordinal F_DIST_ordinal F_MIN_ordinal F_MAX_ordinal F_LT_ordinal F_LE_ordinal F_GE_ordinal F_GT_ordinal F_EQ_ordinal F_NE_ordinal F_NOT_ordinal F_AND_ordinal F_OR_ordinal F_XOR_ordinal F_IFF_ordinal F_IMP_ordinal F_NEG_kind F_ABS_kind F_ADD_kind F_SUB_kind F_MUL_kind F_DIV_kind F_MOD_kind F_DIST_kind F_MIN_kind F_MAX_kind F_LT_kind F_LE_kind F_GE_kind F_GT_kind F_EQ_kind F_NE_kind F_NOT_kind F_AND_kind F_OR_kind F_XOR_kind F_IFF_kind F_IMP_kind S_COMPARISON (F_ARITHMETIC_ordinal.ne F_COMPARISON_ordinal (by simp)) (F_LOGICAL_ordinal.ne F_COMPARISON_ordinal (by simp)) p e ha hc hk s m _ below hf ((Spec.applies_iff_loose hf).mp happ).1 ⟨rfl, State.Warmed39.refl s, rfl⟩ trivial
  refine ⟨n, _, h1, h2, h3, hpost _ _ _ _ _ _ ⟨Cond.after_iff.mpr rfl, Cond.after_iff.mpr (eq_i res_at (Term.int_eval (1)) rfl), trivial⟩ ⟨hq.1, hq.2.1, (hq.2.2.sift fun y hy => Or.inr (N y hy)).mono (by decide) (by decide)⟩⟩
theorem main_1_1 : Claimed_1_1 := comes_1 fun _ _ _ _ _ _ h hF => ⟨h.1, hF⟩
theorem main_1_2 : Claimed_1_2 := comes_1 fun _ _ _ _ _ _ h hF => ⟨h.2.1, hF⟩

end Jvm.Pilot.@@N@@
namespace Jvm.Pilot.@@N@@
open Jvm Jvm.ClassFile Sem Op Lib Jvm.Free Jvm.Stand Jvm.Pilot.@@N@@.Jvm.D
/-! MADE BY PROGRAM (witnessworld.py) out of the Statement's table words and the real class files: 14 classes; the members and pool entries that the words name. The judged class is class 1, her method 1. -/
namespace start1
open Jvm.ClassFile
def u (s : String) : CpInfo := .utf8 (stringToUtf16 s)
/-- a pool by its gaps: so many unusable entries, then the entry; so many at the end -/
def gap : Nat → List CpInfo → List CpInfo
  | 0, r => r
  | n + 1, r => .unusable :: gap n r
def poolList (es : List (Nat × CpInfo)) (last : Nat) : List CpInfo := es.foldr (fun e r => gap e.1 (e.2 :: r)) (gap last [])
def pool (es : List (Nat × CpInfo)) (last : Nat) : Array CpInfo := ⟨poolList es last⟩
def fileOf (pool : Array CpInfo) (this : Nat) (attrs : Array Attribute := #[]) (ms : Array MethodInfo := #[]) (fl : Nat := 33) (sup : Nat := 0) (ifs : Array Nat := #[]) (fds : Array FieldInfo := #[]) : ClassFile where
  minorVersion := 0
  majorVersion := 65
  constantPool := pool
  accessFlags := fl
  thisClass := this
  superClass := sup
  interfaces := ifs
  fields := fds
  methods := ms
  attributes := attrs
def plain (name : String) (sup : Option ClassId) : Class where
  name := name
  kind := .ordinary
  loader := none
  accessFlags := 33
  super := sup
  interfaces := #[]
  cf := none
  fields := #[]
  methods := #[]
  instanceTypes := #[]
  staticTypes := #[]
  resolved := #[]
  callSites := []
  init := .initialized
  statics := none
  mirror := none

def pool0 : Array CpInfo := pool [(5, u "<init>"), (0, u "()V"), (1, .class_ 10), (1, u "java/lang/Object")] 113

def k0m0 : Method := { name := "<init>", desc := "()V", sig := { parameters := [], returnType := none }, accessFlags := 1, code := none }
/-- java/lang/Object -/
def k0 : Class := { plain "java/lang/Object" none with
  accessFlags := 33
  interfaces := #[]
  cf := some (fileOf pool0 8 #[] #[{ accessFlags := 1, nameIndex := 5, descriptorIndex := 6, attributes := #[] }] 33 0 #[] #[])
  fields := #[]
  methods := #[k0m0]
  instanceTypes := #[]
  staticTypes := #[]
  resolved := Array.replicate 124 none
  statics := none }

def pool1 : Array CpInfo := pool [(2, .class_ 4), (1, u "java/lang/Object"), (0, u "<init>"), (0, u "()V"), (0, .class_ 8), (0, u "com/example/failfirst/failfirst/Operator"), (0, .fieldref 7 10), (0, .nameAndType 11 12), (0, u "NEG"), (0, u "Lcom/example/failfirst/failfirst/Operator;"), (0, .fieldref 7 14), (0, .nameAndType 15 12), (0, u "ABS"), (0, .fieldref 7 17), (0, .nameAndType 18 12), (0, u "ADD"), (0, .fieldref 7 20), (0, .nameAndType 21 12), (0, u "SUB"), (0, .fieldref 7 23), (0, .nameAndType 24 12), (0, u "MUL"), (0, .fieldref 7 26), (0, .nameAndType 27 12), (0, u "DIV"), (0, .fieldref 7 29), (0, .nameAndType 30 12), (0, u "MOD"), (0, .fieldref 7 32), (0, .nameAndType 33 12), (0, u "DIST"), (0, .fieldref 7 35), (0, .nameAndType 36 12), (0, u "MIN"), (0, .fieldref 7 38), (0, .nameAndType 39 12), (0, u "MAX"), (0, .fieldref 7 41), (0, .nameAndType 42 12), (0, u "LT"), (0, .fieldref 7 44), (0, .nameAndType 45 12), (0, u "LE"), (0, .fieldref 7 47), (0, .nameAndType 48 12), (0, u "GE"), (0, .fieldref 7 50), (0, .nameAndType 51 12), (0, u "GT"), (0, .fieldref 7 53), (0, .nameAndType 54 12), (0, u "EQ"), (0, .fieldref 7 56), (0, .nameAndType 57 12), (0, u "NE"), (0, .fieldref 7 59), (0, .nameAndType 60 12), (0, u "NOT"), (0, .fieldref 7 62), (0, .nameAndType 63 12), (0, u "AND"), (0, .fieldref 7 65), (0, .nameAndType 66 12), (0, u "OR"), (0, .fieldref 7 68), (0, .nameAndType 69 12), (0, u "XOR"), (0, .fieldref 7 71), (0, .nameAndType 72 12), (0, u "IFF"), (0, .fieldref 7 74), (0, .nameAndType 75 12), (0, u "IMP"), (0, .integer 2147483647), (0, .methodref 7 78), (0, .nameAndType 79 80), (0, u "chains"), (0, u "()Z"), (0, .class_ 82), (0, u "com/example/failfirst/failfirst/OperatorChainsPinLaw"), (2, u "law"), (0, u "(I)Z")] 5

def k1m0 : Method := { name := "<init>", desc := "()V", sig := { parameters := [], returnType := none }, accessFlags := 1, code := none }
def k1c1 : Code := { maxStack := 4, maxLocals := 5, code := code, exceptionTable := #[], attributes := #[] }
def k1m1 : Method := { name := "law", desc := "(I)Z", sig := { parameters := [.int], returnType := some .boolean }, accessFlags := 9, code := some k1c1 }
/-- com/example/failfirst/failfirst/OperatorChainsPinLaw -/
def k1 : Class := { plain "com/example/failfirst/failfirst/OperatorChainsPinLaw" (some 0) with
  accessFlags := 49
  interfaces := #[]
  cf := some (fileOf pool1 81 #[] #[{ accessFlags := 1, nameIndex := 5, descriptorIndex := 6, attributes := #[] }, { accessFlags := 9, nameIndex := 85, descriptorIndex := 86, attributes := #[] }] 49 2 #[] #[])
  fields := #[]
  methods := #[k1m0, k1m1]
  instanceTypes := #[]
  staticTypes := #[]
  resolved := Array.replicate 92 none
  statics := none }

def pool2 : Array CpInfo := pool [(1, .class_ 2), (0, u "java/lang/constant/Constable"), (0, .class_ 4), (0, u "java/lang/Object")] 6

/-- java/lang/constant/Constable -/
def k2 : Class := { plain "java/lang/constant/Constable" (some 0) with
  accessFlags := 1537
  interfaces := #[]
  cf := some (fileOf pool2 1 #[] #[] 1537 3 #[] #[])
  fields := #[]
  methods := #[]
  instanceTypes := #[]
  staticTypes := #[]
  resolved := Array.replicate 11 none
  statics := none }

def pool3 : Array CpInfo := pool [(1, .class_ 2), (0, u "java/lang/Comparable"), (0, .class_ 4), (0, u "java/lang/Object")] 7

/-- java/lang/Comparable -/
def k3 : Class := { plain "java/lang/Comparable" (some 0) with
  accessFlags := 1537
  interfaces := #[]
  cf := some (fileOf pool3 1 #[] #[] 1537 3 #[] #[])
  fields := #[]
  methods := #[]
  instanceTypes := #[]
  staticTypes := #[]
  resolved := Array.replicate 12 none
  statics := none }

def pool4 : Array CpInfo := pool [(1, .class_ 2), (0, u "java/io/Serializable"), (0, .class_ 4), (0, u "java/lang/Object")] 2

/-- java/io/Serializable -/
def k4 : Class := { plain "java/io/Serializable" (some 0) with
  accessFlags := 1537
  interfaces := #[]
  cf := some (fileOf pool4 1 #[] #[] 1537 3 #[] #[])
  fields := #[]
  methods := #[]
  instanceTypes := #[]
  staticTypes := #[]
  resolved := Array.replicate 7 none
  statics := none }

def pool5 : Array CpInfo := pool [(2, .class_ 4), (1, u "java/lang/Enum"), (0, u "name"), (0, u "Ljava/lang/String;"), (2, u "ordinal"), (0, u "I"), (1, .class_ 14), (1, u "java/lang/Object"), (4, u "hash"), (86, .class_ 108), (1, u "java/lang/Enum$EnumDesc"), (2, .class_ 112), (0, u "java/lang/constant/Constable"), (0, .class_ 114), (0, u "java/lang/Comparable"), (0, .class_ 116), (0, u "java/io/Serializable")] 87

/-- java/lang/Enum -/
def k5 : Class := { plain "java/lang/Enum" (some 0) with
  accessFlags := 1057
  interfaces := #[2, 3, 4]
  cf := some (fileOf pool5 2 #[.nestMembers #[106]] #[] 1057 12 #[111, 113, 115] #[{ accessFlags := 18, nameIndex := 5, descriptorIndex := 6, attributes := #[] }, { accessFlags := 18, nameIndex := 9, descriptorIndex := 10, attributes := #[] }, { accessFlags := 2, nameIndex := 19, descriptorIndex := 10, attributes := #[] }])
  fields := #[{ name := "name", type := (.object "java/lang/String"), accessFlags := 18, slot := 0, constantValue := 0 }, { name := "ordinal", type := .int, accessFlags := 18, slot := 1, constantValue := 0 }, { name := "hash", type := .int, accessFlags := 2, slot := 2, constantValue := 0 }]
  methods := #[]
  instanceTypes := #[(.object "java/lang/String"), .int, .int]
  staticTypes := #[]
  resolved := Array.replicate 204 none
  statics := none }

def pool6 : Array CpInfo := pool [(1, .class_ 2), (0, u "com/example/failfirst/failfirst/Operator"), (2, u "NEG"), (0, u "Lcom/example/failfirst/failfirst/Operator;"), (2, u "ABS"), (2, u "ADD"), (2, u "SUB"), (2, u "MUL"), (2, u "DIV"), (2, u "MOD"), (2, u "DIST"), (2, u "MIN"), (2, u "MAX"), (2, u "LT"), (2, u "LE"), (2, u "GE"), (2, u "GT"), (2, u "EQ"), (2, u "NE"), (2, u "NOT"), (2, u "AND"), (2, u "OR"), (2, u "XOR"), (2, u "IFF"), (2, u "IMP"), (2, u "$VALUES"), (0, u "[Lcom/example/failfirst/failfirst/Operator;"), (6, .class_ 82), (1, u "java/lang/Enum"), (8, u "marks"), (0, u "Ljava/lang/String;"), (0, .fieldref 1 94), (0, .nameAndType 95 96), (0, u "kind"), (0, u "Lcom/example/failfirst/failfirst/Operator$Kind;"), (2, u "minOperands"), (0, u "I"), (2, u "maxOperands"), (2, u "unary"), (0, u "Ljava/util/function/LongUnaryOperator;"), (2, u "binary"), (0, u "Ljava/util/function/LongBinaryOperator;"), (2, u "BY_NAME"), (0, u "Ljava/util/Map;"), (18, .class_ 136), (1, u "com/example/failfirst/failfirst/Operator$Kind"), (1, .fieldref 134 139), (0, .nameAndType 140 96), (0, u "COMPARISON"), (12, .class_ 155), (1, u "com/example/failfirst/failfirst/Operator$UndefinedValue"), (164, u "()Z"), (0, u "chains")] 114

def k6c0 : Code := { maxStack := 2, maxLocals := 1, code := prog_29_method_9_code, exceptionTable := #[], attributes := #[] }
def k6m0 : Method := { name := "chains", desc := "()Z", sig := { parameters := [], returnType := some .boolean }, accessFlags := 0, code := some k6c0 }
/-- com/example/failfirst/failfirst/Operator -/
def k6 : Class := { plain "com/example/failfirst/failfirst/Operator" (some 5) with
  accessFlags := 16432
  interfaces := #[]
  cf := some (fileOf pool6 1 #[.nestMembers #[153, 134]] #[{ accessFlags := 0, nameIndex := 321, descriptorIndex := 320, attributes := #[] }] 16432 80 #[] #[{ accessFlags := 16409, nameIndex := 5, descriptorIndex := 6, attributes := #[] }, { accessFlags := 16409, nameIndex := 9, descriptorIndex := 6, attributes := #[] }, { accessFlags := 16409, nameIndex := 12, descriptorIndex := 6, attributes := #[] }, { accessFlags := 16409, nameIndex := 15, descriptorIndex := 6, attributes := #[] }, { accessFlags := 16409, nameIndex := 18, descriptorIndex := 6, attributes := #[] }, { accessFlags := 16409, nameIndex := 21, descriptorIndex := 6, attributes := #[] }, { accessFlags := 16409, nameIndex := 24, descriptorIndex := 6, attributes := #[] }, { accessFlags := 16409, nameIndex := 27, descriptorIndex := 6, attributes := #[] }, { accessFlags := 16409, nameIndex := 30, descriptorIndex := 6, attributes := #[] }, { accessFlags := 16409, nameIndex := 33, descriptorIndex := 6, attributes := #[] }, { accessFlags := 16409, nameIndex := 36, descriptorIndex := 6, attributes := #[] }, { accessFlags := 16409, nameIndex := 39, descriptorIndex := 6, attributes := #[] }, { accessFlags := 16409, nameIndex := 42, descriptorIndex := 6, attributes := #[] }, { accessFlags := 16409, nameIndex := 45, descriptorIndex := 6, attributes := #[] }, { accessFlags := 16409, nameIndex := 48, descriptorIndex := 6, attributes := #[] }, { accessFlags := 16409, nameIndex := 51, descriptorIndex := 6, attributes := #[] }, { accessFlags := 16409, nameIndex := 54, descriptorIndex := 6, attributes := #[] }, { accessFlags := 16409, nameIndex := 57, descriptorIndex := 6, attributes := #[] }, { accessFlags := 16409, nameIndex := 60, descriptorIndex := 6, attributes := #[] }, { accessFlags := 16409, nameIndex := 63, descriptorIndex := 6, attributes := #[] }, { accessFlags := 16409, nameIndex := 66, descriptorIndex := 6, attributes := #[] }, { accessFlags := 16409, nameIndex := 69, descriptorIndex := 6, attributes := #[] }, { accessFlags := 26, nameIndex := 114, descriptorIndex := 115, attributes := #[] }, { accessFlags := 18, nameIndex := 91, descriptorIndex := 92, attributes := #[] }, { accessFlags := 18, nameIndex := 95, descriptorIndex := 96, attributes := #[] }, { accessFlags := 18, nameIndex := 99, descriptorIndex := 100, attributes := #[] }, { accessFlags := 18, nameIndex := 103, descriptorIndex := 100, attributes := #[] }, { accessFlags := 18, nameIndex := 106, descriptorIndex := 107, attributes := #[] }, { accessFlags := 18, nameIndex := 110, descriptorIndex := 111, attributes := #[] }, { accessFlags := 4122, nameIndex := 72, descriptorIndex := 73, attributes := #[] }])
  fields := #[{ name := "NEG", type := (.object "com/example/failfirst/failfirst/Operator"), accessFlags := 16409, slot := 0, constantValue := 0 }, { name := "ABS", type := (.object "com/example/failfirst/failfirst/Operator"), accessFlags := 16409, slot := 1, constantValue := 0 }, { name := "ADD", type := (.object "com/example/failfirst/failfirst/Operator"), accessFlags := 16409, slot := 2, constantValue := 0 }, { name := "SUB", type := (.object "com/example/failfirst/failfirst/Operator"), accessFlags := 16409, slot := 3, constantValue := 0 }, { name := "MUL", type := (.object "com/example/failfirst/failfirst/Operator"), accessFlags := 16409, slot := 4, constantValue := 0 }, { name := "DIV", type := (.object "com/example/failfirst/failfirst/Operator"), accessFlags := 16409, slot := 5, constantValue := 0 }, { name := "MOD", type := (.object "com/example/failfirst/failfirst/Operator"), accessFlags := 16409, slot := 6, constantValue := 0 }, { name := "DIST", type := (.object "com/example/failfirst/failfirst/Operator"), accessFlags := 16409, slot := 7, constantValue := 0 }, { name := "MIN", type := (.object "com/example/failfirst/failfirst/Operator"), accessFlags := 16409, slot := 8, constantValue := 0 }, { name := "MAX", type := (.object "com/example/failfirst/failfirst/Operator"), accessFlags := 16409, slot := 9, constantValue := 0 }, { name := "LT", type := (.object "com/example/failfirst/failfirst/Operator"), accessFlags := 16409, slot := 10, constantValue := 0 }, { name := "LE", type := (.object "com/example/failfirst/failfirst/Operator"), accessFlags := 16409, slot := 11, constantValue := 0 }, { name := "GE", type := (.object "com/example/failfirst/failfirst/Operator"), accessFlags := 16409, slot := 12, constantValue := 0 }, { name := "GT", type := (.object "com/example/failfirst/failfirst/Operator"), accessFlags := 16409, slot := 13, constantValue := 0 }, { name := "EQ", type := (.object "com/example/failfirst/failfirst/Operator"), accessFlags := 16409, slot := 14, constantValue := 0 }, { name := "NE", type := (.object "com/example/failfirst/failfirst/Operator"), accessFlags := 16409, slot := 15, constantValue := 0 }, { name := "NOT", type := (.object "com/example/failfirst/failfirst/Operator"), accessFlags := 16409, slot := 16, constantValue := 0 }, { name := "AND", type := (.object "com/example/failfirst/failfirst/Operator"), accessFlags := 16409, slot := 17, constantValue := 0 }, { name := "OR", type := (.object "com/example/failfirst/failfirst/Operator"), accessFlags := 16409, slot := 18, constantValue := 0 }, { name := "XOR", type := (.object "com/example/failfirst/failfirst/Operator"), accessFlags := 16409, slot := 19, constantValue := 0 }, { name := "IFF", type := (.object "com/example/failfirst/failfirst/Operator"), accessFlags := 16409, slot := 20, constantValue := 0 }, { name := "IMP", type := (.object "com/example/failfirst/failfirst/Operator"), accessFlags := 16409, slot := 21, constantValue := 0 }, { name := "BY_NAME", type := (.object "java/util/Map"), accessFlags := 26, slot := 22, constantValue := 0 }, { name := "marks", type := (.object "java/lang/String"), accessFlags := 18, slot := 3, constantValue := 0 }, { name := "kind", type := (.object "com/example/failfirst/failfirst/Operator$Kind"), accessFlags := 18, slot := 4, constantValue := 0 }, { name := "minOperands", type := .int, accessFlags := 18, slot := 5, constantValue := 0 }, { name := "maxOperands", type := .int, accessFlags := 18, slot := 6, constantValue := 0 }, { name := "unary", type := (.object "java/util/function/LongUnaryOperator"), accessFlags := 18, slot := 7, constantValue := 0 }, { name := "binary", type := (.object "java/util/function/LongBinaryOperator"), accessFlags := 18, slot := 8, constantValue := 0 }, { name := "$VALUES", type := (.array (.object "com/example/failfirst/failfirst/Operator")), accessFlags := 4122, slot := 23, constantValue := 0 }]
  methods := #[k6m0]
  instanceTypes := #[(.object "java/lang/String"), .int, .int, (.object "java/lang/String"), (.object "com/example/failfirst/failfirst/Operator$Kind"), .int, .int, (.object "java/util/function/LongUnaryOperator"), (.object "java/util/function/LongBinaryOperator")]
  staticTypes := #[(.object "com/example/failfirst/failfirst/Operator"), (.object "com/example/failfirst/failfirst/Operator"), (.object "com/example/failfirst/failfirst/Operator"), (.object "com/example/failfirst/failfirst/Operator"), (.object "com/example/failfirst/failfirst/Operator"), (.object "com/example/failfirst/failfirst/Operator"), (.object "com/example/failfirst/failfirst/Operator"), (.object "com/example/failfirst/failfirst/Operator"), (.object "com/example/failfirst/failfirst/Operator"), (.object "com/example/failfirst/failfirst/Operator"), (.object "com/example/failfirst/failfirst/Operator"), (.object "com/example/failfirst/failfirst/Operator"), (.object "com/example/failfirst/failfirst/Operator"), (.object "com/example/failfirst/failfirst/Operator"), (.object "com/example/failfirst/failfirst/Operator"), (.object "com/example/failfirst/failfirst/Operator"), (.object "com/example/failfirst/failfirst/Operator"), (.object "com/example/failfirst/failfirst/Operator"), (.object "com/example/failfirst/failfirst/Operator"), (.object "com/example/failfirst/failfirst/Operator"), (.object "com/example/failfirst/failfirst/Operator"), (.object "com/example/failfirst/failfirst/Operator"), (.object "java/util/Map"), (.array (.object "com/example/failfirst/failfirst/Operator"))]
  resolved := Array.replicate 436 none
  statics := some 0 }

def pool7 : Array CpInfo := pool [(1, .class_ 2), (0, u "com/example/failfirst/failfirst/Operator$Kind"), (2, u "ARITHMETIC"), (0, u "Lcom/example/failfirst/failfirst/Operator$Kind;"), (2, u "COMPARISON"), (2, u "LOGICAL"), (2, u "$VALUES"), (0, u "[Lcom/example/failfirst/failfirst/Operator$Kind;"), (6, .class_ 25), (1, u "java/lang/Enum"), (26, .class_ 53), (0, u "com/example/failfirst/failfirst/Operator")] 2

/-- com/example/failfirst/failfirst/Operator$Kind -/
def k7 : Class := { plain "com/example/failfirst/failfirst/Operator$Kind" (some 5) with
  accessFlags := 16432
  interfaces := #[]
  cf := some (fileOf pool7 1 #[.nestHost 52] #[] 16432 23 #[] #[{ accessFlags := 16409, nameIndex := 5, descriptorIndex := 6, attributes := #[] }, { accessFlags := 16409, nameIndex := 9, descriptorIndex := 6, attributes := #[] }, { accessFlags := 16409, nameIndex := 12, descriptorIndex := 6, attributes := #[] }, { accessFlags := 4122, nameIndex := 15, descriptorIndex := 16, attributes := #[] }])
  fields := #[{ name := "ARITHMETIC", type := (.object "com/example/failfirst/failfirst/Operator$Kind"), accessFlags := 16409, slot := 0, constantValue := 0 }, { name := "COMPARISON", type := (.object "com/example/failfirst/failfirst/Operator$Kind"), accessFlags := 16409, slot := 1, constantValue := 0 }, { name := "LOGICAL", type := (.object "com/example/failfirst/failfirst/Operator$Kind"), accessFlags := 16409, slot := 2, constantValue := 0 }, { name := "$VALUES", type := (.array (.object "com/example/failfirst/failfirst/Operator$Kind")), accessFlags := 4122, slot := 3, constantValue := 0 }]
  methods := #[]
  instanceTypes := #[(.object "java/lang/String"), .int, .int]
  staticTypes := #[(.object "com/example/failfirst/failfirst/Operator$Kind"), (.object "com/example/failfirst/failfirst/Operator$Kind"), (.object "com/example/failfirst/failfirst/Operator$Kind"), (.array (.object "com/example/failfirst/failfirst/Operator$Kind"))]
  resolved := Array.replicate 56 none
  statics := some 1 }

def pool8 : Array CpInfo := pool [(1, u "java/lang/Cloneable"), (0, .class_ 1), (0, u "java/lang/Object"), (0, .class_ 3)] 3

/-- java/lang/Cloneable -/
def k8 : Class := { plain "java/lang/Cloneable" (some 0) with
  accessFlags := 1537
  interfaces := #[]
  cf := some (fileOf pool8 2 #[] #[] 1537 4 #[] #[])
  fields := #[]
  methods := #[]
  instanceTypes := #[]
  staticTypes := #[]
  resolved := Array.replicate 8 none
  statics := none }

/-- the primitive byte -/
def k9 : Class := { plain "byte" none with kind := .primitive 'B', accessFlags := 0x411 }
/-- [B -/
def k10 : Class := { plain "[B" (some 0) with kind := .array 9 .byte, interfaces := #[8, 4], accessFlags := 1041 }

/-- the primitive int -/
def k11 : Class := { plain "int" none with kind := .primitive 'I', accessFlags := 0x411 }
/-- [I -/
def k12 : Class := { plain "[I" (some 0) with kind := .array 11 .int, interfaces := #[8, 4], accessFlags := 1041 }

/-- [Lcom/example/failfirst/failfirst/Operator; -/
def k13 : Class := { plain "[Lcom/example/failfirst/failfirst/Operator;" (some 0) with kind := .array 6 (.object "com/example/failfirst/failfirst/Operator"), interfaces := #[8, 4], accessFlags := 1041 }

def heap : Heap := #[{ cls := 6, slots := #[.ref 2, .ref 3, .ref 4, .ref 5, .ref 6, .ref 7, .ref 8, .ref 9, .ref 10, .ref 11, .ref 12, .ref 13, .ref 14, .ref 15, .ref 16, .ref 17, .ref 18, .ref 19, .ref 20, .ref 21, .ref 22, .ref 23, .null, .null], vm := .statics 6 },
  { cls := 7, slots := #[.ref 24, .ref 25, .ref 26, .null], vm := .statics 7 },
  { cls := 6, slots := #[.null, .int 0, .int 0, .null, .ref 24, .int 0, .int 0, .null, .null], vm := .none },
  { cls := 6, slots := #[.null, .int 1, .int 0, .null, .ref 24, .int 0, .int 0, .null, .null], vm := .none },
  { cls := 6, slots := #[.null, .int 2, .int 0, .null, .ref 24, .int 0, .int 0, .null, .null], vm := .none },
  { cls := 6, slots := #[.null, .int 3, .int 0, .null, .ref 24, .int 0, .int 0, .null, .null], vm := .none },
  { cls := 6, slots := #[.null, .int 4, .int 0, .null, .ref 24, .int 0, .int 0, .null, .null], vm := .none },
  { cls := 6, slots := #[.null, .int 5, .int 0, .null, .ref 24, .int 0, .int 0, .null, .null], vm := .none },
  { cls := 6, slots := #[.null, .int 6, .int 0, .null, .ref 24, .int 0, .int 0, .null, .null], vm := .none },
  { cls := 6, slots := #[.null, .int 7, .int 0, .null, .ref 24, .int 0, .int 0, .null, .null], vm := .none },
  { cls := 6, slots := #[.null, .int 8, .int 0, .null, .ref 24, .int 0, .int 0, .null, .null], vm := .none },
  { cls := 6, slots := #[.null, .int 9, .int 0, .null, .ref 24, .int 0, .int 0, .null, .null], vm := .none },
  { cls := 6, slots := #[.null, .int 10, .int 0, .null, .ref 25, .int 0, .int 0, .null, .null], vm := .none },
  { cls := 6, slots := #[.null, .int 11, .int 0, .null, .ref 25, .int 0, .int 0, .null, .null], vm := .none },
  { cls := 6, slots := #[.null, .int 12, .int 0, .null, .ref 25, .int 0, .int 0, .null, .null], vm := .none },
  { cls := 6, slots := #[.null, .int 13, .int 0, .null, .ref 25, .int 0, .int 0, .null, .null], vm := .none },
  { cls := 6, slots := #[.null, .int 14, .int 0, .null, .ref 25, .int 0, .int 0, .null, .null], vm := .none },
  { cls := 6, slots := #[.null, .int 15, .int 0, .null, .ref 25, .int 0, .int 0, .null, .null], vm := .none },
  { cls := 6, slots := #[.null, .int 16, .int 0, .null, .ref 26, .int 0, .int 0, .null, .null], vm := .none },
  { cls := 6, slots := #[.null, .int 17, .int 0, .null, .ref 26, .int 0, .int 0, .null, .null], vm := .none },
  { cls := 6, slots := #[.null, .int 18, .int 0, .null, .ref 26, .int 0, .int 0, .null, .null], vm := .none },
  { cls := 6, slots := #[.null, .int 19, .int 0, .null, .ref 26, .int 0, .int 0, .null, .null], vm := .none },
  { cls := 6, slots := #[.null, .int 20, .int 0, .null, .ref 26, .int 0, .int 0, .null, .null], vm := .none },
  { cls := 6, slots := #[.null, .int 21, .int 0, .null, .ref 26, .int 0, .int 0, .null, .null], vm := .none },
  { cls := 7, slots := #[.null, .int 0, .int 0], vm := .none },
  { cls := 7, slots := #[.null, .int 1, .int 0], vm := .none },
  { cls := 7, slots := #[.null, .int 2, .int 0], vm := .none }]
def classes : Array Class := #[k0, k1, k2, k3, k4, k5, k6, k7, k8, k9, k10, k11, k12, k13]
def interned : List (Array UInt16 × Addr) := []
def slotsUsed : Nat := 235
def theMethod : MethodId := ⟨1, 1⟩
def args0 : Array Value := #[.int 10]
def aboutOver (below : List Frame) : State where
  vm := { classes := classes, interned := interned.toArray }
  heap := heap
  slotsUsed := slotsUsed
  threads := #[{ frames := .invoking theMethod args0 :: below }]
def below0 : List Frame := [.native { method := ⟨0, 0⟩, args := #[] }]
def about1 : State := aboutOver below0
def p0 : Program := .bare "" "" ""
def e0 : Env := launch0.env 0 0 0
theorem w_frames : about1.frames = Frame.invoking theMethod args0 :: below0 := rfl
set_option maxRecDepth 65536 in
theorem w_args : argsFit about1.vm theMethod args0 = true := by decide +kernel
set_option maxRecDepth 65536 in
theorem w_heap : heapFits about1 = true := by decide +kernel
set_option maxRecDepth 65536 in
theorem w_runnable : about1.curStatus? = some .runnable := by decide +kernel
set_option maxRecDepth 65536 in
theorem w_alone : about1.alone = true := by decide +kernel
set_option maxRecDepth 65536 in
theorem w_named : about1.methodNamed? x = some theMethod := by decide +kernel
set_option maxRecDepth 65536 in
theorem w_hears : about1.hears theMethod below0 = true := by decide +kernel
set_option maxRecDepth 65536 in
theorem w_ripe : about1.ripe theMethod args0 below0 = true := by decide +kernel
theorem w_running : about1.status = .running := rfl
set_option maxRecDepth 65536 in
theorem w_room : about1.hasRoom e0.platform room_1 = true :=
  launch0.hasRoom_least _ room_1 (by decide +kernel) (by decide +kernel) (by decide +kernel) (by decide +kernel) (by decide +kernel) (by decide +kernel)
theorem allAtoms_all (ts : List Jvm.Cond) (a : Array Jvm.Value) (st : Jvm.State) : (allAtoms ts).before a st = ts.all (fun c => c.before a st) := by
  induction ts with
  | nil => rfl
  | cons c t ih =>
    show (Jvm.Cond.and c (allAtoms t)).before a st = _
    rw [Jvm.Cond.before_and, ih, List.all_cons]
def words1 : List Jvm.Cond := Jvm.Cond.code x code maxLocals ret :: tables_1
/-- a 'code' word, met by the world's own term for the bytes: nothing is compared byte by byte -/
theorem code_word {y : MethodName} {bytes : ByteArray} {mx : Nat} {rt : Option FieldType} {a : Array Value} {s : State} {m : MethodId} {meth : Method} {c : Code} (h1 : s.methodNamed? y = some m) (h2 : s.vm.method? m = some meth) (h3 : meth.code = some c) (h4 : c.code = bytes)
    (h5 : (c.maxLocals == mx && c.exceptionTable.isEmpty && decide (c.maxStack ≤ mostOperands) && decide (meth.sig.returnType = rt) && !meth.locks && decide (parseMethodDescriptor y.desc = some meth.sig)) = true) : (Jvm.Cond.code y bytes mx rt).before a s = true := by
  simp only [Bool.and_eq_true, beq_iff_eq, Bool.not_eq_true', decide_eq_true_eq] at h5
  obtain ⟨⟨⟨⟨⟨g1, g2⟩, g3⟩, g4⟩, g5⟩, g6⟩ := h5
  simp [Cond.before, Cond.holds, Cond.value, h1, h2, h3, h4, g1, g2, g3, g4, g5, g6]
def isCode : Jvm.Cond → Bool
  | .code _ _ _ _ => true
  | _ => false
theorem all_split {L : List Jvm.Cond} {P : Jvm.Cond → Bool} (h1 : L.all (fun c => isCode c || P c) = true) (h2 : ∀ c ∈ L.filter isCode, P c = true) : L.all P = true := by
  refine List.all_eq_true.mpr fun c hc => ?_
  have h := List.all_eq_true.mp h1 c hc
  rcases Bool.eq_false_or_eq_true (isCode c) with hi | hi
  · exact h2 c (List.mem_filter.mpr ⟨hc, hi⟩)
  · simpa [hi] using h
set_option maxRecDepth 65536 in
theorem w_c0 : (Jvm.Cond.code x code maxLocals ret).before args0 about1 = true := code_word (m := ⟨1, 1⟩) (meth := k1m1) (c := k1c1) (by decide +kernel) rfl rfl rfl (by decide +kernel)
set_option maxRecDepth 65536 in
theorem w_c1 : (Jvm.Cond.code ({ cls := "com/example/failfirst/failfirst/Operator", name := "chains", desc := "()Z" } : Jvm.MethodName) prog_29_method_9_code (1 : Nat) (Option.some Jvm.ClassFile.FieldType.boolean)).before args0 about1 = true := code_word (m := ⟨6, 0⟩) (meth := k6m0) (c := k6c0) (by decide +kernel) rfl rfl rfl (by decide +kernel)
def codes1 : List Jvm.Cond := [Jvm.Cond.code x code maxLocals ret, Jvm.Cond.code ({ cls := "com/example/failfirst/failfirst/Operator", name := "chains", desc := "()Z" } : Jvm.MethodName) prog_29_method_9_code (1 : Nat) (Option.some Jvm.ClassFile.FieldType.boolean)]
set_option maxRecDepth 65536 in
theorem codes_eq : words1.filter isCode = codes1 := rfl
theorem w_codes : ∀ c ∈ words1.filter isCode, c.before args0 about1 = true := by
  rw [codes_eq]
  intro c hc
  simp only [codes1, List.mem_cons, List.not_mem_nil, or_false] at hc
  rcases hc with rfl | rfl
  · exact w_c0
  · exact w_c1
set_option maxRecDepth 65536 in
theorem w_t1 : (words1.take 24).all (fun c => isCode c || c.before args0 about1) = true := by decide +kernel
set_option maxRecDepth 65536 in
theorem w_t2 : ((words1.drop 24).take 24).all (fun c => isCode c || c.before args0 about1) = true := by decide +kernel
set_option maxRecDepth 65536 in
theorem w_t3 : ((words1.drop 24).drop 24).all (fun c => isCode c || c.before args0 about1) = true := by decide +kernel
theorem w_tables : (allAtoms (Jvm.Cond.code x code maxLocals ret :: tables_1)).before args0 about1 = true := by
  rw [allAtoms_all]
  show words1.all (fun c => c.before args0 about1) = true
  refine all_split ?_ w_codes
  rw [← List.take_append_drop 24 words1, List.all_append, w_t1, ← List.take_append_drop 24 (words1.drop 24), List.all_append, w_t2, w_t3]
  rfl
set_option maxRecDepth 65536 in
theorem w_case : (Jvm.Cond.and given_1 narrow_1).before args0 about1 = true := by decide +kernel
theorem w_applies : (headSpec (Jvm.Cond.code x code maxLocals ret :: tables_1) room_1).applies x e0.platform about1 = true :=
  (Spec.applies_iff w_frames).mpr ⟨w_running, w_runnable, w_alone, w_named, w_hears, w_ripe, w_room, w_tables⟩
theorem atStart : AtStart classFile x code maxLocals ret World_1 tables_1 room_1 Calls_1 rest_1 Pre_1 launch0 p0 e0 about1 theMethod args0 below0 :=
  ⟨lists_1, trivial, launch0.admits_env _ _ _, launch0.least_env, fairChoices_fair.cas, fairChoices_fair.clock, w_frames, w_args, w_heap, w_applies, trivial, trivial, w_case⟩
end start1
theorem witness_1 : WitnessClaimed_1 := ⟨start1.p0, start1.e0, start1.about1, start1.theMethod, start1.args0, start1.below0, start1.atStart⟩
end Jvm.Pilot.@@N@@
