import JvmDerived
import JvmDerived.Pilot.@@N@@Statement
import JvmDerived.Pilot.@@N@@Code
set_option linter.unusedVariables false
set_option linter.unusedSimpArgs false
namespace Jvm.RoadKit
open Sem ClassFile Op Lib Jvm.Stand Jvm.Free Jvm.LawKit
section New
variable {p : Program} {l : Launch} {e : Env} {R : Room} {s : State} {m : MethodId} {args : Array Value} {below : List Frame} {meth : Method} {c : Code} {T : State} {locs : List Loc} {cells slots : Nat}
theorem retI (X : Stand p l e R s m args below meth c T locs cells slots) (hx : p.tables.exec = Jvm.exec) {pc : Nat} {Ls : Array Slot} {z : Int32} {rest : List Value} (hret : meth.sig.returnType = some .int) (hd : decode c.code pc = .ok (.ireturn, 1)) {fs : List Frame}
    (hl : ∀ (f : JFrame) (acts : List Action), f.method = m → f.locked = none → f.entered = [] → (doReturn e (T.setTop f) acts (some (.int z))).1 = T.setFrames fs) : Steps p.tables e below (T.setTop (mkF m pc Ls (.int z :: rest))) (T.setFrames fs) := by
  have hm' : T.vm.method? m = some meth := X.method'
  have hn : narrow .int (.int z) = .int z := rfl
  show Steps p.tables e below (T.setTop { method := m, pc := pc, locals := Ls, stack := _ :: rest, locked := none }) _
  jvm_step X.here [X.here.top, hx, hd, hm', hret, hn]
  first | (intro acts; rw [hl _ acts rfl rfl rfl]) | rw [hl _ _ rfl rfl rfl]
  exact Steps.refl _
end New
end Jvm.RoadKit
namespace Jvm.Pilot.@@N@@
open Jvm Jvm.ClassFile Sem Op Lib Jvm.Free Jvm.Stand Jvm.LawKit Jvm.RoadKit Bundle Jvm.Pilot.@@N@@.Jvm.D
theorem d1_0 : decode method_2_code 0 = .ok (.iload_n 0, 1) := by decide +kernel
theorem d1_1 : decode method_2_code 1 = .ok (.ifCond .ne 7, 3) := by decide +kernel
theorem d1_4 : decode method_2_code 4 = .ok (.getstatic 7, 3) := by decide +kernel
theorem d1_7 : decode method_2_code 7 = .ok (.areturn, 1) := by decide +kernel
theorem pn_1 : plainName "com/example/tallylock/tallylock/jdbc/ColumnTypeIsSignedPinLaw" = true := by first | (simp [plainName, overriddenIn]; done) | decide +kernel
theorem ef_1 (m : MethodId) (x0 : Int32) : entryFrame m #[(.int x0)] 1 = mkF m 0 #[.val (.int x0)] [] := by first | (simp [entryFrame, mkF, argsToLocals, Value.category]; done) | rfl
def Q1_f (Z : State) (p1 : Int32) (w2 : Addr) (h0 : Heap) (n0 : Nat) (v : Option Value) (h : Heap) (L : List Loc) : Prop := v = some (.ref w2) ∧ Fr n0 L ∧ h = h0
set_option maxRecDepth 65536 in
set_option maxHeartbeats 40000000 in
theorem rm1_f (l : Launch) (Z : State) (a0 : Array Value) (hw : ∀ d ∈ tables_1, d.before a0 Z = true) (ws : List Jvm.Cond) (p1 : Int32) (w2 : Addr) (h0 : Heap) (n0 : Nat) (Z0 : n0 ≤ h0.size) (S_INT : Sta Z h0 "com/example/tallylock/tallylock/jdbc/ColumnType" "INT" "Lcom/example/tallylock/tallylock/jdbc/ColumnType;" (.ref w2)) (hc1 : p1 = (0 : Int32)) :
    MetFree l (⟨"com/example/tallylock/tallylock/jdbc/ColumnTypeIsSignedPinLaw", "pick", "(I)Lcom/example/tallylock/tallylock/jdbc/ColumnType;"⟩ : MethodName) (head1 (Jvm.Cond.code (⟨"com/example/tallylock/tallylock/jdbc/ColumnTypeIsSignedPinLaw", "pick", "(I)Lcom/example/tallylock/tallylock/jdbc/ColumnType;"⟩ : MethodName) method_2_code 1 (some (.object "com/example/tallylock/tallylock/jdbc/ColumnType")) :: ws) ({ frames := 0, cells := 0, slots := 0, locals := 0 } : Room)) (fun a U => a = #[(.int p1)] ∧ Z.Warmed39 U.vm ∧ U.heap = h0) (fun _ _ _ _ _ => True) (fun _ U o U' => ∃ v L, o = .returned v ∧ Q1_f Z p1 w2 h0 n0 v U'.heap L ∧ FrameEnd U o U' L ({ frames := 0, cells := 0, slots := 0, locals := 0 } : Room).cells ({ frames := 0, cells := 0, slots := 0, locals := 0 } : Room).slots) := by
  refine MetFree.of_bodySF (plainFor_of_name pn_1) hisR ?_
  intro p e s m args below meth c s₁ Bd hml0 hP hK
  obtain ⟨rfl, hZ, hh⟩ := hP
  have hx := Bd.exec
  have hby := Bd.bytes
  have hml : c.maxLocals = 1 := hml0
  have hown : s.vm.findClass "com/example/tallylock/tallylock/jdbc/ColumnTypeIsSignedPinLaw" = some m.cls := findClass_of_methodNamed Bd.named
  have hnm := (name_of_methodNamed Bd.named Bd.method).1
  have X0 : Stand p l e ({ frames := 0, cells := 0, slots := 0, locals := 0 } : Room) s m #[(.int p1)] below meth c s₁ [] 0 0 := Stand.of_body Bd
  have e0 : s₁.heap = h0 := by rw [← hh, Bd.state]; rfl
  have N0 := Fr.nil n0
  have pre0 : ∀ t, Steps p.tables e below (s₁.setTop (mkF m 0 #[.val (.int p1)] [])) t → Steps p.tables e below (s₁.setTop (entryFrame m #[(.int p1)] 1)) t := fun t k => castTop (ef_1 m p1) k
  obtain ⟨T3, X3, e3, st3⟩ := getS2 X0 hx hZ hown (host := "") (Or.inl (hw _ (List.mem_of_getElem? (i := 4) rfl))) Via.refl e0 S_INT (g := (mkF m 4 #[.val (.int p1)] [])) rfl (hb hby d1_4)
  obtain ⟨fs, hr, hrun, hended, hW, hsame⟩ := X3.leave (v := some (.ref w2)) (fun h => by rw [Bd.returns] at h; cases h) Bd.notSynchronized
  refine ⟨_, _, pre0 _ ?_, hrun, hended, _, _, rfl, ?_, ⟨_, rfl⟩, hW, hsame.mono (by decide) (by decide)⟩
  · show Steps p.tables e below (s₁.setTop (mkF m 0 #[.val (.int p1)] [])) _
    refine XS.iloadN X0.here hx rfl (hb hby d1_0) rfl ?_
    show Steps p.tables e below (s₁.setTop (mkF m 1 #[.val (.int p1)] [(.int p1)])) _
    refine XS.ifNo X0.here hx rfl (hb hby d1_1) rfl ((if0 _ _).trans (teq hc1).2) ?_
    show Steps p.tables e below (s₁.setTop (mkF m 4 #[.val (.int p1)] [])) _
    refine st3 _ ?_
    show Steps p.tables e below (T3.setTop (mkF m 7 #[.val (.int p1)] [(.ref w2)])) _
    jvm_step X3.here [X3.here.top, hx, (hb hby d1_7), X3.method', Bd.returns, Value.isRef, FieldType.isReference]
    first | (intro acts; rw [hr _ acts rfl rfl rfl]) | rw [hr _ _ rfl rfl rfl]
    exact Steps.refl _
  · show Q1_f Z p1 w2 h0 n0 _ T3.heap _
    rw [e3]
    exact ⟨rfl, N0, rfl⟩

theorem d1_8 : decode method_2_code 8 = .ok (.iload_n 0, 1) := by decide +kernel
theorem d1_9 : decode method_2_code 9 = .ok (.iconst 1, 1) := by decide +kernel
theorem d1_10 : decode method_2_code 10 = .ok (.if_icmp .ne 7, 3) := by decide +kernel
theorem d1_13 : decode method_2_code 13 = .ok (.getstatic 13, 3) := by decide +kernel
theorem d1_16 : decode method_2_code 16 = .ok (.areturn, 1) := by decide +kernel
def Q1_tf (Z : State) (p1 : Int32) (w2 : Addr) (h0 : Heap) (n0 : Nat) (v : Option Value) (h : Heap) (L : List Loc) : Prop := v = some (.ref w2) ∧ Fr n0 L ∧ h = h0
set_option maxRecDepth 65536 in
set_option maxHeartbeats 40000000 in
theorem rm1_tf (l : Launch) (Z : State) (a0 : Array Value) (hw : ∀ d ∈ tables_1, d.before a0 Z = true) (ws : List Jvm.Cond) (p1 : Int32) (w2 : Addr) (h0 : Heap) (n0 : Nat) (Z0 : n0 ≤ h0.size) (S_TEXT : Sta Z h0 "com/example/tallylock/tallylock/jdbc/ColumnType" "TEXT" "Lcom/example/tallylock/tallylock/jdbc/ColumnType;" (.ref w2)) (hc1 : ¬ (p1 = (0 : Int32))) (hc10 : p1 = (1 : Int32)) :
    MetFree l (⟨"com/example/tallylock/tallylock/jdbc/ColumnTypeIsSignedPinLaw", "pick", "(I)Lcom/example/tallylock/tallylock/jdbc/ColumnType;"⟩ : MethodName) (head1 (Jvm.Cond.code (⟨"com/example/tallylock/tallylock/jdbc/ColumnTypeIsSignedPinLaw", "pick", "(I)Lcom/example/tallylock/tallylock/jdbc/ColumnType;"⟩ : MethodName) method_2_code 1 (some (.object "com/example/tallylock/tallylock/jdbc/ColumnType")) :: ws) ({ frames := 0, cells := 0, slots := 0, locals := 0 } : Room)) (fun a U => a = #[(.int p1)] ∧ Z.Warmed39 U.vm ∧ U.heap = h0) (fun _ _ _ _ _ => True) (fun _ U o U' => ∃ v L, o = .returned v ∧ Q1_tf Z p1 w2 h0 n0 v U'.heap L ∧ FrameEnd U o U' L ({ frames := 0, cells := 0, slots := 0, locals := 0 } : Room).cells ({ frames := 0, cells := 0, slots := 0, locals := 0 } : Room).slots) := by
  refine MetFree.of_bodySF (plainFor_of_name pn_1) hisR ?_
  intro p e s m args below meth c s₁ Bd hml0 hP hK
  obtain ⟨rfl, hZ, hh⟩ := hP
  have hx := Bd.exec
  have hby := Bd.bytes
  have hml : c.maxLocals = 1 := hml0
  have hown : s.vm.findClass "com/example/tallylock/tallylock/jdbc/ColumnTypeIsSignedPinLaw" = some m.cls := findClass_of_methodNamed Bd.named
  have hnm := (name_of_methodNamed Bd.named Bd.method).1
  have X0 : Stand p l e ({ frames := 0, cells := 0, slots := 0, locals := 0 } : Room) s m #[(.int p1)] below meth c s₁ [] 0 0 := Stand.of_body Bd
  have e0 : s₁.heap = h0 := by rw [← hh, Bd.state]; rfl
  have N0 := Fr.nil n0
  have pre0 : ∀ t, Steps p.tables e below (s₁.setTop (mkF m 0 #[.val (.int p1)] [])) t → Steps p.tables e below (s₁.setTop (entryFrame m #[(.int p1)] 1)) t := fun t k => castTop (ef_1 m p1) k
  obtain ⟨T3, X3, e3, st3⟩ := getS2 X0 hx hZ hown (host := "") (Or.inl (hw _ (List.mem_of_getElem? (i := 39) rfl))) Via.refl e0 S_TEXT (g := (mkF m 13 #[.val (.int p1)] [])) rfl (hb hby d1_13)
  obtain ⟨fs, hr, hrun, hended, hW, hsame⟩ := X3.leave (v := some (.ref w2)) (fun h => by rw [Bd.returns] at h; cases h) Bd.notSynchronized
  refine ⟨_, _, pre0 _ ?_, hrun, hended, _, _, rfl, ?_, ⟨_, rfl⟩, hW, hsame.mono (by decide) (by decide)⟩
  · show Steps p.tables e below (s₁.setTop (mkF m 0 #[.val (.int p1)] [])) _
    refine XS.iloadN X0.here hx rfl (hb hby d1_0) rfl ?_
    show Steps p.tables e below (s₁.setTop (mkF m 1 #[.val (.int p1)] [(.int p1)])) _
    refine XS.ifYes X0.here hx rfl (pc0 := 1) (pc' := 8) rfl (hb hby d1_1) rfl ((if0 _ _).trans (feq hc1).2) (by decide) (by decide) ?_
    show Steps p.tables e below (s₁.setTop (mkF m 8 #[.val (.int p1)] [])) _
    refine XS.iloadN X0.here hx rfl (hb hby d1_8) rfl ?_
    show Steps p.tables e below (s₁.setTop (mkF m 9 #[.val (.int p1)] [(.int p1)])) _
    refine XS.iconst X0.here hx rfl (hb hby d1_9) ?_
    show Steps p.tables e below (s₁.setTop (mkF m 10 #[.val (.int p1)] [(.int (1 : Int32)), (.int p1)])) _
    refine XS.icmpNo X0.here hx rfl (hb hby d1_10) rfl (teq hc10).2 ?_
    show Steps p.tables e below (s₁.setTop (mkF m 13 #[.val (.int p1)] [])) _
    refine st3 _ ?_
    show Steps p.tables e below (T3.setTop (mkF m 16 #[.val (.int p1)] [(.ref w2)])) _
    jvm_step X3.here [X3.here.top, hx, (hb hby d1_16), X3.method', Bd.returns, Value.isRef, FieldType.isReference]
    first | (intro acts; rw [hr _ acts rfl rfl rfl]) | rw [hr _ _ rfl rfl rfl]
    exact Steps.refl _
  · show Q1_tf Z p1 w2 h0 n0 _ T3.heap _
    rw [e3]
    exact ⟨rfl, N0, rfl⟩

theorem d1_17 : decode method_2_code 17 = .ok (.iload_n 0, 1) := by decide +kernel
theorem d1_18 : decode method_2_code 18 = .ok (.iconst 2, 1) := by decide +kernel
theorem d1_19 : decode method_2_code 19 = .ok (.if_icmp .ne 7, 3) := by decide +kernel
theorem d1_22 : decode method_2_code 22 = .ok (.getstatic 16, 3) := by decide +kernel
theorem d1_25 : decode method_2_code 25 = .ok (.areturn, 1) := by decide +kernel
def Q1_ttf (Z : State) (p1 : Int32) (w2 : Addr) (h0 : Heap) (n0 : Nat) (v : Option Value) (h : Heap) (L : List Loc) : Prop := v = some (.ref w2) ∧ Fr n0 L ∧ h = h0
set_option maxRecDepth 65536 in
set_option maxHeartbeats 40000000 in
theorem rm1_ttf (l : Launch) (Z : State) (a0 : Array Value) (hw : ∀ d ∈ tables_1, d.before a0 Z = true) (ws : List Jvm.Cond) (p1 : Int32) (w2 : Addr) (h0 : Heap) (n0 : Nat) (Z0 : n0 ≤ h0.size) (S_DATE : Sta Z h0 "com/example/tallylock/tallylock/jdbc/ColumnType" "DATE" "Lcom/example/tallylock/tallylock/jdbc/ColumnType;" (.ref w2)) (hc1 : ¬ (p1 = (0 : Int32))) (hc10 : ¬ (p1 = (1 : Int32))) (hc19 : p1 = (2 : Int32)) :
    MetFree l (⟨"com/example/tallylock/tallylock/jdbc/ColumnTypeIsSignedPinLaw", "pick", "(I)Lcom/example/tallylock/tallylock/jdbc/ColumnType;"⟩ : MethodName) (head1 (Jvm.Cond.code (⟨"com/example/tallylock/tallylock/jdbc/ColumnTypeIsSignedPinLaw", "pick", "(I)Lcom/example/tallylock/tallylock/jdbc/ColumnType;"⟩ : MethodName) method_2_code 1 (some (.object "com/example/tallylock/tallylock/jdbc/ColumnType")) :: ws) ({ frames := 0, cells := 0, slots := 0, locals := 0 } : Room)) (fun a U => a = #[(.int p1)] ∧ Z.Warmed39 U.vm ∧ U.heap = h0) (fun _ _ _ _ _ => True) (fun _ U o U' => ∃ v L, o = .returned v ∧ Q1_ttf Z p1 w2 h0 n0 v U'.heap L ∧ FrameEnd U o U' L ({ frames := 0, cells := 0, slots := 0, locals := 0 } : Room).cells ({ frames := 0, cells := 0, slots := 0, locals := 0 } : Room).slots) := by
  refine MetFree.of_bodySF (plainFor_of_name pn_1) hisR ?_
  intro p e s m args below meth c s₁ Bd hml0 hP hK
  obtain ⟨rfl, hZ, hh⟩ := hP
  have hx := Bd.exec
  have hby := Bd.bytes
  have hml : c.maxLocals = 1 := hml0
  have hown : s.vm.findClass "com/example/tallylock/tallylock/jdbc/ColumnTypeIsSignedPinLaw" = some m.cls := findClass_of_methodNamed Bd.named
  have hnm := (name_of_methodNamed Bd.named Bd.method).1
  have X0 : Stand p l e ({ frames := 0, cells := 0, slots := 0, locals := 0 } : Room) s m #[(.int p1)] below meth c s₁ [] 0 0 := Stand.of_body Bd
  have e0 : s₁.heap = h0 := by rw [← hh, Bd.state]; rfl
  have N0 := Fr.nil n0
  have pre0 : ∀ t, Steps p.tables e below (s₁.setTop (mkF m 0 #[.val (.int p1)] [])) t → Steps p.tables e below (s₁.setTop (entryFrame m #[(.int p1)] 1)) t := fun t k => castTop (ef_1 m p1) k
  obtain ⟨T3, X3, e3, st3⟩ := getS2 X0 hx hZ hown (host := "") (Or.inl (hw _ (List.mem_of_getElem? (i := 37) rfl))) Via.refl e0 S_DATE (g := (mkF m 22 #[.val (.int p1)] [])) rfl (hb hby d1_22)
  obtain ⟨fs, hr, hrun, hended, hW, hsame⟩ := X3.leave (v := some (.ref w2)) (fun h => by rw [Bd.returns] at h; cases h) Bd.notSynchronized
  refine ⟨_, _, pre0 _ ?_, hrun, hended, _, _, rfl, ?_, ⟨_, rfl⟩, hW, hsame.mono (by decide) (by decide)⟩
  · show Steps p.tables e below (s₁.setTop (mkF m 0 #[.val (.int p1)] [])) _
    refine XS.iloadN X0.here hx rfl (hb hby d1_0) rfl ?_
    show Steps p.tables e below (s₁.setTop (mkF m 1 #[.val (.int p1)] [(.int p1)])) _
    refine XS.ifYes X0.here hx rfl (pc0 := 1) (pc' := 8) rfl (hb hby d1_1) rfl ((if0 _ _).trans (feq hc1).2) (by decide) (by decide) ?_
    show Steps p.tables e below (s₁.setTop (mkF m 8 #[.val (.int p1)] [])) _
    refine XS.iloadN X0.here hx rfl (hb hby d1_8) rfl ?_
    show Steps p.tables e below (s₁.setTop (mkF m 9 #[.val (.int p1)] [(.int p1)])) _
    refine XS.iconst X0.here hx rfl (hb hby d1_9) ?_
    show Steps p.tables e below (s₁.setTop (mkF m 10 #[.val (.int p1)] [(.int (1 : Int32)), (.int p1)])) _
    refine XS.icmpYes X0.here hx rfl (pc0 := 10) (pc' := 17) rfl (hb hby d1_10) rfl (feq hc10).2 (by decide) (by decide) ?_
    show Steps p.tables e below (s₁.setTop (mkF m 17 #[.val (.int p1)] [])) _
    refine XS.iloadN X0.here hx rfl (hb hby d1_17) rfl ?_
    show Steps p.tables e below (s₁.setTop (mkF m 18 #[.val (.int p1)] [(.int p1)])) _
    refine XS.iconst X0.here hx rfl (hb hby d1_18) ?_
    show Steps p.tables e below (s₁.setTop (mkF m 19 #[.val (.int p1)] [(.int (2 : Int32)), (.int p1)])) _
    refine XS.icmpNo X0.here hx rfl (hb hby d1_19) rfl (teq hc19).2 ?_
    show Steps p.tables e below (s₁.setTop (mkF m 22 #[.val (.int p1)] [])) _
    refine st3 _ ?_
    show Steps p.tables e below (T3.setTop (mkF m 25 #[.val (.int p1)] [(.ref w2)])) _
    jvm_step X3.here [X3.here.top, hx, (hb hby d1_25), X3.method', Bd.returns, Value.isRef, FieldType.isReference]
    first | (intro acts; rw [hr _ acts rfl rfl rfl]) | rw [hr _ _ rfl rfl rfl]
    exact Steps.refl _
  · show Q1_ttf Z p1 w2 h0 n0 _ T3.heap _
    rw [e3]
    exact ⟨rfl, N0, rfl⟩

theorem d1_26 : decode method_2_code 26 = .ok (.getstatic 19, 3) := by decide +kernel
theorem d1_29 : decode method_2_code 29 = .ok (.areturn, 1) := by decide +kernel
def Q1_ttt (Z : State) (p1 : Int32) (w2 : Addr) (h0 : Heap) (n0 : Nat) (v : Option Value) (h : Heap) (L : List Loc) : Prop := v = some (.ref w2) ∧ Fr n0 L ∧ h = h0
set_option maxRecDepth 65536 in
set_option maxHeartbeats 40000000 in
theorem rm1_ttt (l : Launch) (Z : State) (a0 : Array Value) (hw : ∀ d ∈ tables_1, d.before a0 Z = true) (ws : List Jvm.Cond) (p1 : Int32) (w2 : Addr) (h0 : Heap) (n0 : Nat) (Z0 : n0 ≤ h0.size) (S_AVERAGE : Sta Z h0 "com/example/tallylock/tallylock/jdbc/ColumnType" "AVERAGE" "Lcom/example/tallylock/tallylock/jdbc/ColumnType;" (.ref w2)) (hc1 : ¬ (p1 = (0 : Int32))) (hc10 : ¬ (p1 = (1 : Int32))) (hc19 : ¬ (p1 = (2 : Int32))) :
    MetFree l (⟨"com/example/tallylock/tallylock/jdbc/ColumnTypeIsSignedPinLaw", "pick", "(I)Lcom/example/tallylock/tallylock/jdbc/ColumnType;"⟩ : MethodName) (head1 (Jvm.Cond.code (⟨"com/example/tallylock/tallylock/jdbc/ColumnTypeIsSignedPinLaw", "pick", "(I)Lcom/example/tallylock/tallylock/jdbc/ColumnType;"⟩ : MethodName) method_2_code 1 (some (.object "com/example/tallylock/tallylock/jdbc/ColumnType")) :: ws) ({ frames := 0, cells := 0, slots := 0, locals := 0 } : Room)) (fun a U => a = #[(.int p1)] ∧ Z.Warmed39 U.vm ∧ U.heap = h0) (fun _ _ _ _ _ => True) (fun _ U o U' => ∃ v L, o = .returned v ∧ Q1_ttt Z p1 w2 h0 n0 v U'.heap L ∧ FrameEnd U o U' L ({ frames := 0, cells := 0, slots := 0, locals := 0 } : Room).cells ({ frames := 0, cells := 0, slots := 0, locals := 0 } : Room).slots) := by
  refine MetFree.of_bodySF (plainFor_of_name pn_1) hisR ?_
  intro p e s m args below meth c s₁ Bd hml0 hP hK
  obtain ⟨rfl, hZ, hh⟩ := hP
  have hx := Bd.exec
  have hby := Bd.bytes
  have hml : c.maxLocals = 1 := hml0
  have hown : s.vm.findClass "com/example/tallylock/tallylock/jdbc/ColumnTypeIsSignedPinLaw" = some m.cls := findClass_of_methodNamed Bd.named
  have hnm := (name_of_methodNamed Bd.named Bd.method).1
  have X0 : Stand p l e ({ frames := 0, cells := 0, slots := 0, locals := 0 } : Room) s m #[(.int p1)] below meth c s₁ [] 0 0 := Stand.of_body Bd
  have e0 : s₁.heap = h0 := by rw [← hh, Bd.state]; rfl
  have N0 := Fr.nil n0
  have pre0 : ∀ t, Steps p.tables e below (s₁.setTop (mkF m 0 #[.val (.int p1)] [])) t → Steps p.tables e below (s₁.setTop (entryFrame m #[(.int p1)] 1)) t := fun t k => castTop (ef_1 m p1) k
  obtain ⟨T3, X3, e3, st3⟩ := getS2 X0 hx hZ hown (host := "") (Or.inl (hw _ (List.mem_of_getElem? (i := 34) rfl))) Via.refl e0 S_AVERAGE (g := (mkF m 26 #[.val (.int p1)] [])) rfl (hb hby d1_26)
  obtain ⟨fs, hr, hrun, hended, hW, hsame⟩ := X3.leave (v := some (.ref w2)) (fun h => by rw [Bd.returns] at h; cases h) Bd.notSynchronized
  refine ⟨_, _, pre0 _ ?_, hrun, hended, _, _, rfl, ?_, ⟨_, rfl⟩, hW, hsame.mono (by decide) (by decide)⟩
  · show Steps p.tables e below (s₁.setTop (mkF m 0 #[.val (.int p1)] [])) _
    refine XS.iloadN X0.here hx rfl (hb hby d1_0) rfl ?_
    show Steps p.tables e below (s₁.setTop (mkF m 1 #[.val (.int p1)] [(.int p1)])) _
    refine XS.ifYes X0.here hx rfl (pc0 := 1) (pc' := 8) rfl (hb hby d1_1) rfl ((if0 _ _).trans (feq hc1).2) (by decide) (by decide) ?_
    show Steps p.tables e below (s₁.setTop (mkF m 8 #[.val (.int p1)] [])) _
    refine XS.iloadN X0.here hx rfl (hb hby d1_8) rfl ?_
    show Steps p.tables e below (s₁.setTop (mkF m 9 #[.val (.int p1)] [(.int p1)])) _
    refine XS.iconst X0.here hx rfl (hb hby d1_9) ?_
    show Steps p.tables e below (s₁.setTop (mkF m 10 #[.val (.int p1)] [(.int (1 : Int32)), (.int p1)])) _
    refine XS.icmpYes X0.here hx rfl (pc0 := 10) (pc' := 17) rfl (hb hby d1_10) rfl (feq hc10).2 (by decide) (by decide) ?_
    show Steps p.tables e below (s₁.setTop (mkF m 17 #[.val (.int p1)] [])) _
    refine XS.iloadN X0.here hx rfl (hb hby d1_17) rfl ?_
    show Steps p.tables e below (s₁.setTop (mkF m 18 #[.val (.int p1)] [(.int p1)])) _
    refine XS.iconst X0.here hx rfl (hb hby d1_18) ?_
    show Steps p.tables e below (s₁.setTop (mkF m 19 #[.val (.int p1)] [(.int (2 : Int32)), (.int p1)])) _
    refine XS.icmpYes X0.here hx rfl (pc0 := 19) (pc' := 26) rfl (hb hby d1_19) rfl (feq hc19).2 (by decide) (by decide) ?_
    show Steps p.tables e below (s₁.setTop (mkF m 26 #[.val (.int p1)] [])) _
    refine st3 _ ?_
    show Steps p.tables e below (T3.setTop (mkF m 29 #[.val (.int p1)] [(.ref w2)])) _
    jvm_step X3.here [X3.here.top, hx, (hb hby d1_29), X3.method', Bd.returns, Value.isRef, FieldType.isReference]
    first | (intro acts; rw [hr _ acts rfl rfl rfl]) | rw [hr _ _ rfl rfl rfl]
    exact Steps.refl _
  · show Q1_ttt Z p1 w2 h0 n0 _ T3.heap _
    rw [e3]
    exact ⟨rfl, N0, rfl⟩

theorem d2_0 : decode prog_72_method_11_code 0 = .ok (.aload_n 0, 1) := by decide +kernel
theorem d2_1 : decode prog_72_method_11_code 1 = .ok (.getstatic 3, 3) := by decide +kernel
theorem d2_4 : decode prog_72_method_11_code 4 = .ok (.if_acmp .eq 10, 3) := by decide +kernel
theorem d2_14 : decode prog_72_method_11_code 14 = .ok (.iconst 1, 1) := by decide +kernel
theorem d2_15 : decode prog_72_method_11_code 15 = .ok (.goto 4, 3) := by decide +kernel
theorem d2_19 : decode prog_72_method_11_code 19 = .ok (.ireturn, 1) := by decide +kernel
theorem pn_2 : plainName "com/example/tallylock/tallylock/jdbc/ColumnType" = true := by first | (simp [plainName, overriddenIn]; done) | decide +kernel
theorem ef_2 (m : MethodId) (x0 : Addr) : entryFrame m #[(.ref x0)] 1 = mkF m 0 #[.val (.ref x0)] [] := by first | (simp [entryFrame, mkF, argsToLocals, Value.category]; done) | rfl
def Q2_t (Z : State) (a1 : Addr) (w2 : Addr) (h0 : Heap) (n0 : Nat) (v : Option Value) (h : Heap) (L : List Loc) : Prop := v = some (.int (1 : Int32)) ∧ Fr n0 L ∧ h = h0
set_option maxRecDepth 65536 in
set_option maxHeartbeats 40000000 in
theorem rm2_t (l : Launch) (Z : State) (a0 : Array Value) (hw : ∀ d ∈ tables_1, d.before a0 Z = true) (ws : List Jvm.Cond) (a1 : Addr) (w2 : Addr) (h0 : Heap) (n0 : Nat) (Z0 : n0 ≤ h0.size) (S_INT : Sta Z h0 "com/example/tallylock/tallylock/jdbc/ColumnType" "INT" "Lcom/example/tallylock/tallylock/jdbc/ColumnType;" (.ref w2)) (ha4 : a1 = w2) :
    MetFree l (⟨"com/example/tallylock/tallylock/jdbc/ColumnType", "isSigned", "()Z"⟩ : MethodName) (head1 (Jvm.Cond.code (⟨"com/example/tallylock/tallylock/jdbc/ColumnType", "isSigned", "()Z"⟩ : MethodName) prog_72_method_11_code 1 (some .boolean) :: ws) ({ frames := 0, cells := 0, slots := 0, locals := 0 } : Room)) (fun a U => a = #[(.ref a1)] ∧ Z.Warmed39 U.vm ∧ U.heap = h0) (fun _ _ _ _ _ => True) (fun _ U o U' => ∃ v L, o = .returned v ∧ Q2_t Z a1 w2 h0 n0 v U'.heap L ∧ FrameEnd U o U' L ({ frames := 0, cells := 0, slots := 0, locals := 0 } : Room).cells ({ frames := 0, cells := 0, slots := 0, locals := 0 } : Room).slots) := by
  refine MetFree.of_bodySF (plainFor_of_name pn_2) hisR ?_
  intro p e s m args below meth c s₁ Bd hml0 hP hK
  obtain ⟨rfl, hZ, hh⟩ := hP
  have hx := Bd.exec
  have hby := Bd.bytes
  have hml : c.maxLocals = 1 := hml0
  have hown : s.vm.findClass "com/example/tallylock/tallylock/jdbc/ColumnType" = some m.cls := findClass_of_methodNamed Bd.named
  have hnm := (name_of_methodNamed Bd.named Bd.method).1
  have X0 : Stand p l e ({ frames := 0, cells := 0, slots := 0, locals := 0 } : Room) s m #[(.ref a1)] below meth c s₁ [] 0 0 := Stand.of_body Bd
  have e0 : s₁.heap = h0 := by rw [← hh, Bd.state]; rfl
  have N0 := Fr.nil n0
  have pre0 : ∀ t, Steps p.tables e below (s₁.setTop (mkF m 0 #[.val (.ref a1)] [])) t → Steps p.tables e below (s₁.setTop (entryFrame m #[(.ref a1)] 1)) t := fun t k => castTop (ef_2 m a1) k
  obtain ⟨T3, X3, e3, st3⟩ := getS2 X0 hx hZ hown (host := "") (Or.inl (hw _ (List.mem_of_getElem? (i := 12) rfl))) Via.refl e0 S_INT (g := (mkF m 1 #[.val (.ref a1)] [(.ref a1)])) rfl (hb hby d2_1)
  obtain ⟨fs, hr, hrun, hended, hW, hsame⟩ := X3.leave (v := some (.int (1 : Int32))) (fun h => by rw [Bd.returns] at h; cases h) Bd.notSynchronized
  refine ⟨_, _, pre0 _ ?_, hrun, hended, _, _, rfl, ?_, ⟨_, rfl⟩, hW, hsame.mono (by decide) (by decide)⟩
  · show Steps p.tables e below (s₁.setTop (mkF m 0 #[.val (.ref a1)] [])) _
    refine XS.aloadN X0.here hx rfl (hb hby d2_0) rfl rfl ?_
    show Steps p.tables e below (s₁.setTop (mkF m 1 #[.val (.ref a1)] [(.ref a1)])) _
    refine st3 _ ?_
    show Steps p.tables e below (T3.setTop (mkF m 4 #[.val (.ref a1)] [(.ref w2), (.ref a1)])) _
    refine Jvm.RoadKit.acmp (g := (mkF m 4 #[.val (.ref a1)] [(.ref w2), (.ref a1)])) X3 hx rfl rfl rfl (pc0 := 4) (pc' := 14) (same := true) rfl (hb hby d2_4) rfl (decide_eq_true (congrArg Value.ref ha4)) (by decide) (by decide) ?_
    show Steps p.tables e below (T3.setTop (mkF m 14 #[.val (.ref a1)] [])) _
    refine XS.iconst X3.here hx rfl (hb hby d2_14) ?_
    show Steps p.tables e below (T3.setTop (mkF m 15 #[.val (.ref a1)] [(.int (1 : Int32))])) _
    refine XS.goto X3.here hx rfl (pc0 := 15) (pc' := 19) rfl (hb hby d2_15) (by decide) (by decide) ?_
    show Steps p.tables e below (T3.setTop (mkF m 19 #[.val (.ref a1)] [(.int (1 : Int32))])) _
    exact retN X3 hx (t := .boolean) Bd.returns (by simp) (hb hby d2_19) hr
  · show Q2_t Z a1 w2 h0 n0 _ T3.heap _
    rw [e3]
    exact ⟨rfl, N0, rfl⟩

theorem d2_7 : decode prog_72_method_11_code 7 = .ok (.aload_n 0, 1) := by decide +kernel
theorem d2_8 : decode prog_72_method_11_code 8 = .ok (.getstatic 13, 3) := by decide +kernel
theorem d2_11 : decode prog_72_method_11_code 11 = .ok (.if_acmp .ne 7, 3) := by decide +kernel
theorem d2_18 : decode prog_72_method_11_code 18 = .ok (.iconst 0, 1) := by decide +kernel
def Q2_ft (Z : State) (a1 : Addr) (w2 : Addr) (w4 : Addr) (h0 : Heap) (n0 : Nat) (v : Option Value) (h : Heap) (L : List Loc) : Prop := v = some (.int (0 : Int32)) ∧ Fr n0 L ∧ h = h0
set_option maxRecDepth 65536 in
set_option maxHeartbeats 40000000 in
theorem rm2_ft (l : Launch) (Z : State) (a0 : Array Value) (hw : ∀ d ∈ tables_1, d.before a0 Z = true) (ws : List Jvm.Cond) (a1 : Addr) (w2 : Addr) (w4 : Addr) (h0 : Heap) (n0 : Nat) (Z0 : n0 ≤ h0.size) (S_INT : Sta Z h0 "com/example/tallylock/tallylock/jdbc/ColumnType" "INT" "Lcom/example/tallylock/tallylock/jdbc/ColumnType;" (.ref w2)) (S_AVERAGE : Sta Z h0 "com/example/tallylock/tallylock/jdbc/ColumnType" "AVERAGE" "Lcom/example/tallylock/tallylock/jdbc/ColumnType;" (.ref w4)) (ha4 : ¬ (a1 = w2)) (ha11 : ¬ (a1 = w4)) :
    MetFree l (⟨"com/example/tallylock/tallylock/jdbc/ColumnType", "isSigned", "()Z"⟩ : MethodName) (head1 (Jvm.Cond.code (⟨"com/example/tallylock/tallylock/jdbc/ColumnType", "isSigned", "()Z"⟩ : MethodName) prog_72_method_11_code 1 (some .boolean) :: ws) ({ frames := 0, cells := 0, slots := 0, locals := 0 } : Room)) (fun a U => a = #[(.ref a1)] ∧ Z.Warmed39 U.vm ∧ U.heap = h0) (fun _ _ _ _ _ => True) (fun _ U o U' => ∃ v L, o = .returned v ∧ Q2_ft Z a1 w2 w4 h0 n0 v U'.heap L ∧ FrameEnd U o U' L ({ frames := 0, cells := 0, slots := 0, locals := 0 } : Room).cells ({ frames := 0, cells := 0, slots := 0, locals := 0 } : Room).slots) := by
  refine MetFree.of_bodySF (plainFor_of_name pn_2) hisR ?_
  intro p e s m args below meth c s₁ Bd hml0 hP hK
  obtain ⟨rfl, hZ, hh⟩ := hP
  have hx := Bd.exec
  have hby := Bd.bytes
  have hml : c.maxLocals = 1 := hml0
  have hown : s.vm.findClass "com/example/tallylock/tallylock/jdbc/ColumnType" = some m.cls := findClass_of_methodNamed Bd.named
  have hnm := (name_of_methodNamed Bd.named Bd.method).1
  have X0 : Stand p l e ({ frames := 0, cells := 0, slots := 0, locals := 0 } : Room) s m #[(.ref a1)] below meth c s₁ [] 0 0 := Stand.of_body Bd
  have e0 : s₁.heap = h0 := by rw [← hh, Bd.state]; rfl
  have N0 := Fr.nil n0
  have pre0 : ∀ t, Steps p.tables e below (s₁.setTop (mkF m 0 #[.val (.ref a1)] [])) t → Steps p.tables e below (s₁.setTop (entryFrame m #[(.ref a1)] 1)) t := fun t k => castTop (ef_2 m a1) k
  obtain ⟨T3, X3, e3, st3⟩ := getS2 X0 hx hZ hown (host := "") (Or.inl (hw _ (List.mem_of_getElem? (i := 12) rfl))) Via.refl e0 S_INT (g := (mkF m 1 #[.val (.ref a1)] [(.ref a1)])) rfl (hb hby d2_1)
  obtain ⟨T5, X5, e5, st5⟩ := getS2 X3 hx hZ hown (host := "") (Or.inl (hw _ (List.mem_of_getElem? (i := 36) rfl))) Via.refl e3 S_AVERAGE (g := (mkF m 8 #[.val (.ref a1)] [(.ref a1)])) rfl (hb hby d2_8)
  obtain ⟨fs, hr, hrun, hended, hW, hsame⟩ := X5.leave (v := some (.int (0 : Int32))) (fun h => by rw [Bd.returns] at h; cases h) Bd.notSynchronized
  refine ⟨_, _, pre0 _ ?_, hrun, hended, _, _, rfl, ?_, ⟨_, rfl⟩, hW, hsame.mono (by decide) (by decide)⟩
  · show Steps p.tables e below (s₁.setTop (mkF m 0 #[.val (.ref a1)] [])) _
    refine XS.aloadN X0.here hx rfl (hb hby d2_0) rfl rfl ?_
    show Steps p.tables e below (s₁.setTop (mkF m 1 #[.val (.ref a1)] [(.ref a1)])) _
    refine st3 _ ?_
    show Steps p.tables e below (T3.setTop (mkF m 4 #[.val (.ref a1)] [(.ref w2), (.ref a1)])) _
    refine Jvm.RoadKit.acmp (g := (mkF m 4 #[.val (.ref a1)] [(.ref w2), (.ref a1)])) X3 hx rfl rfl rfl (pc0 := 4) (pc' := 7) (same := false) rfl (hb hby d2_4) rfl (decide_eq_false fun q => ha4 (Value.ref.inj q)) (by decide) (by decide) ?_
    show Steps p.tables e below (T3.setTop (mkF m 7 #[.val (.ref a1)] [])) _
    refine XS.aloadN X3.here hx rfl (hb hby d2_7) rfl rfl ?_
    show Steps p.tables e below (T3.setTop (mkF m 8 #[.val (.ref a1)] [(.ref a1)])) _
    refine st5 _ ?_
    show Steps p.tables e below (T5.setTop (mkF m 11 #[.val (.ref a1)] [(.ref w4), (.ref a1)])) _
    refine Jvm.RoadKit.acmp (g := (mkF m 11 #[.val (.ref a1)] [(.ref w4), (.ref a1)])) X5 hx rfl rfl rfl (pc0 := 11) (pc' := 18) (same := false) rfl (hb hby d2_11) rfl (decide_eq_false fun q => ha11 (Value.ref.inj q)) (by decide) (by decide) ?_
    show Steps p.tables e below (T5.setTop (mkF m 18 #[.val (.ref a1)] [])) _
    refine XS.iconst X5.here hx rfl (hb hby d2_18) ?_
    show Steps p.tables e below (T5.setTop (mkF m 19 #[.val (.ref a1)] [(.int (0 : Int32))])) _
    exact retN X5 hx (t := .boolean) Bd.returns (by simp) (hb hby d2_19) hr
  · show Q2_ft Z a1 w2 w4 h0 n0 _ T5.heap _
    rw [e5]
    exact ⟨rfl, N0, rfl⟩


def Q2_ff (Z : State) (a1 : Addr) (w2 : Addr) (w4 : Addr) (h0 : Heap) (n0 : Nat) (v : Option Value) (h : Heap) (L : List Loc) : Prop := v = some (.int (1 : Int32)) ∧ Fr n0 L ∧ h = h0
set_option maxRecDepth 65536 in
set_option maxHeartbeats 40000000 in
theorem rm2_ff (l : Launch) (Z : State) (a0 : Array Value) (hw : ∀ d ∈ tables_1, d.before a0 Z = true) (ws : List Jvm.Cond) (a1 : Addr) (w2 : Addr) (w4 : Addr) (h0 : Heap) (n0 : Nat) (Z0 : n0 ≤ h0.size) (S_INT : Sta Z h0 "com/example/tallylock/tallylock/jdbc/ColumnType" "INT" "Lcom/example/tallylock/tallylock/jdbc/ColumnType;" (.ref w2)) (S_AVERAGE : Sta Z h0 "com/example/tallylock/tallylock/jdbc/ColumnType" "AVERAGE" "Lcom/example/tallylock/tallylock/jdbc/ColumnType;" (.ref w4)) (ha4 : ¬ (a1 = w2)) (ha11 : a1 = w4) :
    MetFree l (⟨"com/example/tallylock/tallylock/jdbc/ColumnType", "isSigned", "()Z"⟩ : MethodName) (head1 (Jvm.Cond.code (⟨"com/example/tallylock/tallylock/jdbc/ColumnType", "isSigned", "()Z"⟩ : MethodName) prog_72_method_11_code 1 (some .boolean) :: ws) ({ frames := 0, cells := 0, slots := 0, locals := 0 } : Room)) (fun a U => a = #[(.ref a1)] ∧ Z.Warmed39 U.vm ∧ U.heap = h0) (fun _ _ _ _ _ => True) (fun _ U o U' => ∃ v L, o = .returned v ∧ Q2_ff Z a1 w2 w4 h0 n0 v U'.heap L ∧ FrameEnd U o U' L ({ frames := 0, cells := 0, slots := 0, locals := 0 } : Room).cells ({ frames := 0, cells := 0, slots := 0, locals := 0 } : Room).slots) := by
  refine MetFree.of_bodySF (plainFor_of_name pn_2) hisR ?_
  intro p e s m args below meth c s₁ Bd hml0 hP hK
  obtain ⟨rfl, hZ, hh⟩ := hP
  have hx := Bd.exec
  have hby := Bd.bytes
  have hml : c.maxLocals = 1 := hml0
  have hown : s.vm.findClass "com/example/tallylock/tallylock/jdbc/ColumnType" = some m.cls := findClass_of_methodNamed Bd.named
  have hnm := (name_of_methodNamed Bd.named Bd.method).1
  have X0 : Stand p l e ({ frames := 0, cells := 0, slots := 0, locals := 0 } : Room) s m #[(.ref a1)] below meth c s₁ [] 0 0 := Stand.of_body Bd
  have e0 : s₁.heap = h0 := by rw [← hh, Bd.state]; rfl
  have N0 := Fr.nil n0
  have pre0 : ∀ t, Steps p.tables e below (s₁.setTop (mkF m 0 #[.val (.ref a1)] [])) t → Steps p.tables e below (s₁.setTop (entryFrame m #[(.ref a1)] 1)) t := fun t k => castTop (ef_2 m a1) k
  obtain ⟨T3, X3, e3, st3⟩ := getS2 X0 hx hZ hown (host := "") (Or.inl (hw _ (List.mem_of_getElem? (i := 12) rfl))) Via.refl e0 S_INT (g := (mkF m 1 #[.val (.ref a1)] [(.ref a1)])) rfl (hb hby d2_1)
  obtain ⟨T5, X5, e5, st5⟩ := getS2 X3 hx hZ hown (host := "") (Or.inl (hw _ (List.mem_of_getElem? (i := 36) rfl))) Via.refl e3 S_AVERAGE (g := (mkF m 8 #[.val (.ref a1)] [(.ref a1)])) rfl (hb hby d2_8)
  obtain ⟨fs, hr, hrun, hended, hW, hsame⟩ := X5.leave (v := some (.int (1 : Int32))) (fun h => by rw [Bd.returns] at h; cases h) Bd.notSynchronized
  refine ⟨_, _, pre0 _ ?_, hrun, hended, _, _, rfl, ?_, ⟨_, rfl⟩, hW, hsame.mono (by decide) (by decide)⟩
  · show Steps p.tables e below (s₁.setTop (mkF m 0 #[.val (.ref a1)] [])) _
    refine XS.aloadN X0.here hx rfl (hb hby d2_0) rfl rfl ?_
    show Steps p.tables e below (s₁.setTop (mkF m 1 #[.val (.ref a1)] [(.ref a1)])) _
    refine st3 _ ?_
    show Steps p.tables e below (T3.setTop (mkF m 4 #[.val (.ref a1)] [(.ref w2), (.ref a1)])) _
    refine Jvm.RoadKit.acmp (g := (mkF m 4 #[.val (.ref a1)] [(.ref w2), (.ref a1)])) X3 hx rfl rfl rfl (pc0 := 4) (pc' := 7) (same := false) rfl (hb hby d2_4) rfl (decide_eq_false fun q => ha4 (Value.ref.inj q)) (by decide) (by decide) ?_
    show Steps p.tables e below (T3.setTop (mkF m 7 #[.val (.ref a1)] [])) _
    refine XS.aloadN X3.here hx rfl (hb hby d2_7) rfl rfl ?_
    show Steps p.tables e below (T3.setTop (mkF m 8 #[.val (.ref a1)] [(.ref a1)])) _
    refine st5 _ ?_
    show Steps p.tables e below (T5.setTop (mkF m 11 #[.val (.ref a1)] [(.ref w4), (.ref a1)])) _
    refine Jvm.RoadKit.acmp (g := (mkF m 11 #[.val (.ref a1)] [(.ref w4), (.ref a1)])) X5 hx rfl rfl rfl (pc0 := 11) (pc' := 14) (same := true) rfl (hb hby d2_11) rfl (decide_eq_true (congrArg Value.ref ha11)) (by decide) (by decide) ?_
    show Steps p.tables e below (T5.setTop (mkF m 14 #[.val (.ref a1)] [])) _
    refine XS.iconst X5.here hx rfl (hb hby d2_14) ?_
    show Steps p.tables e below (T5.setTop (mkF m 15 #[.val (.ref a1)] [(.int (1 : Int32))])) _
    refine XS.goto X5.here hx rfl (pc0 := 15) (pc' := 19) rfl (hb hby d2_15) (by decide) (by decide) ?_
    show Steps p.tables e below (T5.setTop (mkF m 19 #[.val (.ref a1)] [(.int (1 : Int32))])) _
    exact retN X5 hx (t := .boolean) Bd.returns (by simp) (hb hby d2_19) hr
  · show Q2_ff Z a1 w2 w4 h0 n0 _ T5.heap _
    rw [e5]
    exact ⟨rfl, N0, rfl⟩

theorem d3_0 : decode prog_72_method_10_code 0 = .ok (.aload_n 0, 1) := by decide +kernel
theorem d3_1 : decode prog_72_method_10_code 1 = .ok (.getfield 53, 3) := by decide +kernel
theorem d3_4 : decode prog_72_method_10_code 4 = .ok (.ireturn, 1) := by decide +kernel
theorem pn_3 : plainName "com/example/tallylock/tallylock/jdbc/ColumnType" = true := by first | (simp [plainName, overriddenIn]; done) | decide +kernel
theorem ef_3 (m : MethodId) (x0 : Addr) : entryFrame m #[(.ref x0)] 1 = mkF m 0 #[.val (.ref x0)] [] := by first | (simp [entryFrame, mkF, argsToLocals, Value.category]; done) | rfl
def Q3_x (Z : State) (a1 : Addr) (w2 : Int32) (h0 : Heap) (n0 : Nat) (v : Option Value) (h : Heap) (L : List Loc) : Prop := v = some (.int w2) ∧ Fr n0 L ∧ h = h0
set_option maxRecDepth 65536 in
set_option maxHeartbeats 40000000 in
theorem rm3_x (l : Launch) (Z : State) (a0 : Array Value) (hw : ∀ d ∈ tables_1, d.before a0 Z = true) (ws : List Jvm.Cond) (a1 : Addr) (w2 : Int32) (h0 : Heap) (n0 : Nat) (Z0 : n0 ≤ h0.size) (F_displaySize_a1 : Fld Z h0 a1 "com/example/tallylock/tallylock/jdbc/ColumnType" "displaySize" "I" (.int w2)) :
    MetFree l (⟨"com/example/tallylock/tallylock/jdbc/ColumnType", "displaySize", "()I"⟩ : MethodName) (head1 (Jvm.Cond.code (⟨"com/example/tallylock/tallylock/jdbc/ColumnType", "displaySize", "()I"⟩ : MethodName) prog_72_method_10_code 1 (some .int) :: ws) ({ frames := 0, cells := 0, slots := 0, locals := 0 } : Room)) (fun a U => a = #[(.ref a1)] ∧ Z.Warmed39 U.vm ∧ U.heap = h0) (fun _ _ _ _ _ => True) (fun _ U o U' => ∃ v L, o = .returned v ∧ Q3_x Z a1 w2 h0 n0 v U'.heap L ∧ FrameEnd U o U' L ({ frames := 0, cells := 0, slots := 0, locals := 0 } : Room).cells ({ frames := 0, cells := 0, slots := 0, locals := 0 } : Room).slots) := by
  refine MetFree.of_bodySF (plainFor_of_name pn_3) hisR ?_
  intro p e s m args below meth c s₁ Bd hml0 hP hK
  obtain ⟨rfl, hZ, hh⟩ := hP
  have hx := Bd.exec
  have hby := Bd.bytes
  have hml : c.maxLocals = 1 := hml0
  have hown : s.vm.findClass "com/example/tallylock/tallylock/jdbc/ColumnType" = some m.cls := findClass_of_methodNamed Bd.named
  have hnm := (name_of_methodNamed Bd.named Bd.method).1
  have X0 : Stand p l e ({ frames := 0, cells := 0, slots := 0, locals := 0 } : Room) s m #[(.ref a1)] below meth c s₁ [] 0 0 := Stand.of_body Bd
  have e0 : s₁.heap = h0 := by rw [← hh, Bd.state]; rfl
  have N0 := Fr.nil n0
  have pre0 : ∀ t, Steps p.tables e below (s₁.setTop (mkF m 0 #[.val (.ref a1)] [])) t → Steps p.tables e below (s₁.setTop (entryFrame m #[(.ref a1)] 1)) t := fun t k => castTop (ef_3 m a1) k
  obtain ⟨T3, X3, e3, st3⟩ := getF X0 hx hZ hown (host := "") (Or.inl (hw _ (List.mem_of_getElem? (i := 18) rfl))) Via.refl e0 F_displaySize_a1 (g := (mkF m 1 #[.val (.ref a1)] [(.ref a1)])) rfl rfl (hb hby d3_1)
  obtain ⟨fs, hr, hrun, hended, hW, hsame⟩ := X3.leave (v := some (.int w2)) (fun h => by rw [Bd.returns] at h; cases h) Bd.notSynchronized
  refine ⟨_, _, pre0 _ ?_, hrun, hended, _, _, rfl, ?_, ⟨_, rfl⟩, hW, hsame.mono (by decide) (by decide)⟩
  · show Steps p.tables e below (s₁.setTop (mkF m 0 #[.val (.ref a1)] [])) _
    refine XS.aloadN X0.here hx rfl (hb hby d3_0) rfl rfl ?_
    show Steps p.tables e below (s₁.setTop (mkF m 1 #[.val (.ref a1)] [(.ref a1)])) _
    refine st3 _ ?_
    show Steps p.tables e below (T3.setTop (mkF m 4 #[.val (.ref a1)] [(.int w2)])) _
    exact retI X3 hx Bd.returns (hb hby d3_4) hr
  · show Q3_x Z a1 w2 h0 n0 _ T3.heap _
    rw [e3]
    exact ⟨rfl, N0, rfl⟩

theorem d4_0 : decode prog_72_method_8_code 0 = .ok (.aload_n 0, 1) := by decide +kernel
theorem d4_1 : decode prog_72_method_8_code 1 = .ok (.getfield 47, 3) := by decide +kernel
theorem d4_4 : decode prog_72_method_8_code 4 = .ok (.ireturn, 1) := by decide +kernel
theorem pn_4 : plainName "com/example/tallylock/tallylock/jdbc/ColumnType" = true := by first | (simp [plainName, overriddenIn]; done) | decide +kernel
theorem ef_4 (m : MethodId) (x0 : Addr) : entryFrame m #[(.ref x0)] 1 = mkF m 0 #[.val (.ref x0)] [] := by first | (simp [entryFrame, mkF, argsToLocals, Value.category]; done) | rfl
def Q4_x (Z : State) (a1 : Addr) (w2 : Int32) (h0 : Heap) (n0 : Nat) (v : Option Value) (h : Heap) (L : List Loc) : Prop := v = some (.int w2) ∧ Fr n0 L ∧ h = h0
set_option maxRecDepth 65536 in
set_option maxHeartbeats 40000000 in
theorem rm4_x (l : Launch) (Z : State) (a0 : Array Value) (hw : ∀ d ∈ tables_1, d.before a0 Z = true) (ws : List Jvm.Cond) (a1 : Addr) (w2 : Int32) (h0 : Heap) (n0 : Nat) (Z0 : n0 ≤ h0.size) (F_precision_a1 : Fld Z h0 a1 "com/example/tallylock/tallylock/jdbc/ColumnType" "precision" "I" (.int w2)) :
    MetFree l (⟨"com/example/tallylock/tallylock/jdbc/ColumnType", "precision", "()I"⟩ : MethodName) (head1 (Jvm.Cond.code (⟨"com/example/tallylock/tallylock/jdbc/ColumnType", "precision", "()I"⟩ : MethodName) prog_72_method_8_code 1 (some .int) :: ws) ({ frames := 0, cells := 0, slots := 0, locals := 0 } : Room)) (fun a U => a = #[(.ref a1)] ∧ Z.Warmed39 U.vm ∧ U.heap = h0) (fun _ _ _ _ _ => True) (fun _ U o U' => ∃ v L, o = .returned v ∧ Q4_x Z a1 w2 h0 n0 v U'.heap L ∧ FrameEnd U o U' L ({ frames := 0, cells := 0, slots := 0, locals := 0 } : Room).cells ({ frames := 0, cells := 0, slots := 0, locals := 0 } : Room).slots) := by
  refine MetFree.of_bodySF (plainFor_of_name pn_4) hisR ?_
  intro p e s m args below meth c s₁ Bd hml0 hP hK
  obtain ⟨rfl, hZ, hh⟩ := hP
  have hx := Bd.exec
  have hby := Bd.bytes
  have hml : c.maxLocals = 1 := hml0
  have hown : s.vm.findClass "com/example/tallylock/tallylock/jdbc/ColumnType" = some m.cls := findClass_of_methodNamed Bd.named
  have hnm := (name_of_methodNamed Bd.named Bd.method).1
  have X0 : Stand p l e ({ frames := 0, cells := 0, slots := 0, locals := 0 } : Room) s m #[(.ref a1)] below meth c s₁ [] 0 0 := Stand.of_body Bd
  have e0 : s₁.heap = h0 := by rw [← hh, Bd.state]; rfl
  have N0 := Fr.nil n0
  have pre0 : ∀ t, Steps p.tables e below (s₁.setTop (mkF m 0 #[.val (.ref a1)] [])) t → Steps p.tables e below (s₁.setTop (entryFrame m #[(.ref a1)] 1)) t := fun t k => castTop (ef_4 m a1) k
  obtain ⟨T3, X3, e3, st3⟩ := getF X0 hx hZ hown (host := "") (Or.inl (hw _ (List.mem_of_getElem? (i := 25) rfl))) Via.refl e0 F_precision_a1 (g := (mkF m 1 #[.val (.ref a1)] [(.ref a1)])) rfl rfl (hb hby d4_1)
  obtain ⟨fs, hr, hrun, hended, hW, hsame⟩ := X3.leave (v := some (.int w2)) (fun h => by rw [Bd.returns] at h; cases h) Bd.notSynchronized
  refine ⟨_, _, pre0 _ ?_, hrun, hended, _, _, rfl, ?_, ⟨_, rfl⟩, hW, hsame.mono (by decide) (by decide)⟩
  · show Steps p.tables e below (s₁.setTop (mkF m 0 #[.val (.ref a1)] [])) _
    refine XS.aloadN X0.here hx rfl (hb hby d4_0) rfl rfl ?_
    show Steps p.tables e below (s₁.setTop (mkF m 1 #[.val (.ref a1)] [(.ref a1)])) _
    refine st3 _ ?_
    show Steps p.tables e below (T3.setTop (mkF m 4 #[.val (.ref a1)] [(.int w2)])) _
    exact retI X3 hx Bd.returns (hb hby d4_4) hr
  · show Q4_x Z a1 w2 h0 n0 _ T3.heap _
    rw [e3]
    exact ⟨rfl, N0, rfl⟩

theorem d5_0 : decode prog_72_method_5_code 0 = .ok (.aload_n 0, 1) := by decide +kernel
theorem d5_1 : decode prog_72_method_5_code 1 = .ok (.getfield 35, 3) := by decide +kernel
theorem d5_4 : decode prog_72_method_5_code 4 = .ok (.ireturn, 1) := by decide +kernel
theorem pn_5 : plainName "com/example/tallylock/tallylock/jdbc/ColumnType" = true := by first | (simp [plainName, overriddenIn]; done) | decide +kernel
theorem ef_5 (m : MethodId) (x0 : Addr) : entryFrame m #[(.ref x0)] 1 = mkF m 0 #[.val (.ref x0)] [] := by first | (simp [entryFrame, mkF, argsToLocals, Value.category]; done) | rfl
def Q5_x (Z : State) (a1 : Addr) (w2 : Int32) (h0 : Heap) (n0 : Nat) (v : Option Value) (h : Heap) (L : List Loc) : Prop := v = some (.int w2) ∧ Fr n0 L ∧ h = h0
set_option maxRecDepth 65536 in
set_option maxHeartbeats 40000000 in
theorem rm5_x (l : Launch) (Z : State) (a0 : Array Value) (hw : ∀ d ∈ tables_1, d.before a0 Z = true) (ws : List Jvm.Cond) (a1 : Addr) (w2 : Int32) (h0 : Heap) (n0 : Nat) (Z0 : n0 ≤ h0.size) (F_code_a1 : Fld Z h0 a1 "com/example/tallylock/tallylock/jdbc/ColumnType" "code" "I" (.int w2)) :
    MetFree l (⟨"com/example/tallylock/tallylock/jdbc/ColumnType", "code", "()I"⟩ : MethodName) (head1 (Jvm.Cond.code (⟨"com/example/tallylock/tallylock/jdbc/ColumnType", "code", "()I"⟩ : MethodName) prog_72_method_5_code 1 (some .int) :: ws) ({ frames := 0, cells := 0, slots := 0, locals := 0 } : Room)) (fun a U => a = #[(.ref a1)] ∧ Z.Warmed39 U.vm ∧ U.heap = h0) (fun _ _ _ _ _ => True) (fun _ U o U' => ∃ v L, o = .returned v ∧ Q5_x Z a1 w2 h0 n0 v U'.heap L ∧ FrameEnd U o U' L ({ frames := 0, cells := 0, slots := 0, locals := 0 } : Room).cells ({ frames := 0, cells := 0, slots := 0, locals := 0 } : Room).slots) := by
  refine MetFree.of_bodySF (plainFor_of_name pn_5) hisR ?_
  intro p e s m args below meth c s₁ Bd hml0 hP hK
  obtain ⟨rfl, hZ, hh⟩ := hP
  have hx := Bd.exec
  have hby := Bd.bytes
  have hml : c.maxLocals = 1 := hml0
  have hown : s.vm.findClass "com/example/tallylock/tallylock/jdbc/ColumnType" = some m.cls := findClass_of_methodNamed Bd.named
  have hnm := (name_of_methodNamed Bd.named Bd.method).1
  have X0 : Stand p l e ({ frames := 0, cells := 0, slots := 0, locals := 0 } : Room) s m #[(.ref a1)] below meth c s₁ [] 0 0 := Stand.of_body Bd
  have e0 : s₁.heap = h0 := by rw [← hh, Bd.state]; rfl
  have N0 := Fr.nil n0
  have pre0 : ∀ t, Steps p.tables e below (s₁.setTop (mkF m 0 #[.val (.ref a1)] [])) t → Steps p.tables e below (s₁.setTop (entryFrame m #[(.ref a1)] 1)) t := fun t k => castTop (ef_5 m a1) k
  obtain ⟨T3, X3, e3, st3⟩ := getF X0 hx hZ hown (host := "") (Or.inl (hw _ (List.mem_of_getElem? (i := 32) rfl))) Via.refl e0 F_code_a1 (g := (mkF m 1 #[.val (.ref a1)] [(.ref a1)])) rfl rfl (hb hby d5_1)
  obtain ⟨fs, hr, hrun, hended, hW, hsame⟩ := X3.leave (v := some (.int w2)) (fun h => by rw [Bd.returns] at h; cases h) Bd.notSynchronized
  refine ⟨_, _, pre0 _ ?_, hrun, hended, _, _, rfl, ?_, ⟨_, rfl⟩, hW, hsame.mono (by decide) (by decide)⟩
  · show Steps p.tables e below (s₁.setTop (mkF m 0 #[.val (.ref a1)] [])) _
    refine XS.aloadN X0.here hx rfl (hb hby d5_0) rfl rfl ?_
    show Steps p.tables e below (s₁.setTop (mkF m 1 #[.val (.ref a1)] [(.ref a1)])) _
    refine st3 _ ?_
    show Steps p.tables e below (T3.setTop (mkF m 4 #[.val (.ref a1)] [(.int w2)])) _
    exact retI X3 hx Bd.returns (hb hby d5_4) hr
  · show Q5_x Z a1 w2 h0 n0 _ T3.heap _
    rw [e3]
    exact ⟨rfl, N0, rfl⟩

theorem pn_0 : plainName "com/example/tallylock/tallylock/jdbc/ColumnTypeIsSignedPinLaw" = true := by first | (simp [plainName, overriddenIn]; done) | decide +kernel
theorem pd_0_0 : parseMethodDescriptor "(I)Lcom/example/tallylock/tallylock/jdbc/ColumnType;" = some ⟨[.int], some (.object "com/example/tallylock/tallylock/jdbc/ColumnType")⟩ := by decide +kernel
theorem pd_0_1 : parseMethodDescriptor "()Z" = some ⟨[], some .boolean⟩ := by decide +kernel
theorem pd_0_2 : parseMethodDescriptor "()I" = some ⟨[], some .int⟩ := by decide +kernel
theorem ef_0 (m : MethodId) (x0 : Int32) : entryFrame m #[(.int x0)] maxLocals = mkF m 0 #[.val (.int x0), .unset, .unset, .unset, .unset, .unset] [] := by first | (simp [entryFrame, mkF, argsToLocals, Value.category, maxLocals]; done) | rfl
def Q0 (Z : State) (p1 : Int32) (h0 : Heap) (n0 : Nat) (v : Option Value) (h : Heap) (L : List Loc) : Prop := v = some (.int (1 : Int32)) ∧ Fr n0 L
set_option maxRecDepth 65536 in
set_option maxHeartbeats 40000000 in
theorem rm0_INT (l : Launch) (Z : State) (a0 : Array Value) (hw : ∀ d ∈ tables_1, d.before a0 Z = true) (ws : List Jvm.Cond) (p1 : Int32) (w_INT : Addr) (w_TEXT : Addr) (w_DATE : Addr) (w_AVERAGE : Addr) (h0 : Heap) (n0 : Nat) (Z0 : n0 ≤ h0.size) (S_INT : Sta Z h0 "com/example/tallylock/tallylock/jdbc/ColumnType" "INT" "Lcom/example/tallylock/tallylock/jdbc/ColumnType;" (.ref w_INT)) (E_INT : Exa Z h0 w_INT "com/example/tallylock/tallylock/jdbc/ColumnType") (S_TEXT : Sta Z h0 "com/example/tallylock/tallylock/jdbc/ColumnType" "TEXT" "Lcom/example/tallylock/tallylock/jdbc/ColumnType;" (.ref w_TEXT)) (E_TEXT : Exa Z h0 w_TEXT "com/example/tallylock/tallylock/jdbc/ColumnType") (S_DATE : Sta Z h0 "com/example/tallylock/tallylock/jdbc/ColumnType" "DATE" "Lcom/example/tallylock/tallylock/jdbc/ColumnType;" (.ref w_DATE)) (E_DATE : Exa Z h0 w_DATE "com/example/tallylock/tallylock/jdbc/ColumnType") (S_AVERAGE : Sta Z h0 "com/example/tallylock/tallylock/jdbc/ColumnType" "AVERAGE" "Lcom/example/tallylock/tallylock/jdbc/ColumnType;" (.ref w_AVERAGE)) (E_AVERAGE : Exa Z h0 w_AVERAGE "com/example/tallylock/tallylock/jdbc/ColumnType") (F_INT_displaySize : Fld Z h0 w_INT "com/example/tallylock/tallylock/jdbc/ColumnType" "displaySize" "I" (.int (20 : Int32))) (F_INT_precision : Fld Z h0 w_INT "com/example/tallylock/tallylock/jdbc/ColumnType" "precision" "I" (.int (19 : Int32))) (F_INT_code : Fld Z h0 w_INT "com/example/tallylock/tallylock/jdbc/ColumnType" "code" "I" (.int (-5 : Int32))) (F_TEXT_displaySize : Fld Z h0 w_TEXT "com/example/tallylock/tallylock/jdbc/ColumnType" "displaySize" "I" (.int (2147483647 : Int32))) (F_TEXT_precision : Fld Z h0 w_TEXT "com/example/tallylock/tallylock/jdbc/ColumnType" "precision" "I" (.int (2147483647 : Int32))) (F_TEXT_code : Fld Z h0 w_TEXT "com/example/tallylock/tallylock/jdbc/ColumnType" "code" "I" (.int (12 : Int32))) (F_DATE_displaySize : Fld Z h0 w_DATE "com/example/tallylock/tallylock/jdbc/ColumnType" "displaySize" "I" (.int (10 : Int32))) (F_DATE_precision : Fld Z h0 w_DATE "com/example/tallylock/tallylock/jdbc/ColumnType" "precision" "I" (.int (10 : Int32))) (F_DATE_code : Fld Z h0 w_DATE "com/example/tallylock/tallylock/jdbc/ColumnType" "code" "I" (.int (91 : Int32))) (F_AVERAGE_displaySize : Fld Z h0 w_AVERAGE "com/example/tallylock/tallylock/jdbc/ColumnType" "displaySize" "I" (.int (23 : Int32))) (F_AVERAGE_precision : Fld Z h0 w_AVERAGE "com/example/tallylock/tallylock/jdbc/ColumnType" "precision" "I" (.int (21 : Int32))) (F_AVERAGE_code : Fld Z h0 w_AVERAGE "com/example/tallylock/tallylock/jdbc/ColumnType" "code" "I" (.int (3 : Int32))) (ne1 : ¬ w_TEXT = w_INT) (ne2 : ¬ w_TEXT = w_AVERAGE) (ne3 : ¬ w_DATE = w_INT) (ne4 : ¬ w_DATE = w_AVERAGE) (ne5 : ¬ w_AVERAGE = w_INT) (hp : (p1 &&& (3 : Int32)) = (0 : Int32)) (hk20 : (19 : Int32) < (20 : Int32)) (hk39 : (-5 : Int32) = (-5 : Int32)) (hk57 : (1 : Int32) = (1 : Int32)) (hk63 : (1 : Int32) = (1 : Int32)) :
    MetFree l x (head1 (Jvm.Cond.code x code maxLocals ret :: ws) room_1) (fun a U => a = #[(.int p1)] ∧ Z.Warmed39 U.vm ∧ U.heap = h0) (fun _ _ _ _ _ => True) (fun _ U o U' => ∃ v L, o = .returned v ∧ Q0 Z p1 h0 n0 v U'.heap L ∧ FrameEnd U o U' L room_1.cells room_1.slots) := by
  refine MetFree.of_bodySF (plainFor_of_name pn_0) hisR ?_
  intro p e s m args below meth c s₁ Bd hml0 hP hK
  obtain ⟨rfl, hZ, hh⟩ := hP
  have hx := Bd.exec
  have hby := Bd.bytes
  have hml : c.maxLocals = 6 := hml0
  have hown : s.vm.findClass "com/example/tallylock/tallylock/jdbc/ColumnTypeIsSignedPinLaw" = some m.cls := findClass_of_methodNamed Bd.named
  have hnm := (name_of_methodNamed Bd.named Bd.method).1
  have X0 : Stand p l e room_1 s m #[(.int p1)] below meth c s₁ [] 0 0 := Stand.of_body Bd
  have e0 : s₁.heap = h0 := by rw [← hh, Bd.state]; rfl
  have N0 := Fr.nil n0
  have pre0 : ∀ t, Steps p.tables e below (s₁.setTop (mkF m 0 #[.val (.int p1), .unset, .unset, .unset, .unset, .unset] [])) t → Steps p.tables e below (s₁.setTop (entryFrame m #[(.int p1)] maxLocals)) t := fun t k => castTop (ef_0 m p1) k
  obtain ⟨_, _, ⟨T2, L2, k2, n2⟩, -, X2, ⟨Lc2, hQ2, l2, y2, z2⟩, st2⟩ := Jvm.LawKit.callS X0 hx (y := (⟨"com/example/tallylock/tallylock/jdbc/ColumnTypeIsSignedPinLaw", "pick", "(I)Lcom/example/tallylock/tallylock/jdbc/ColumnType;"⟩ : MethodName)) hown (mvT hZ (hw _ (List.mem_of_getElem? (i := 0) rfl))) (mvT hZ (hw _ (List.mem_of_getElem? (i := 1) rfl))) (mvT hZ (hw _ (List.mem_of_getElem? (i := 2) rfl))) (mvT hZ (hw _ (List.mem_of_getElem? (i := 3) rfl))) (by decide) (backOf (W := 0) (rm1_f l Z a0 hw [] (p1 &&& (3 : Int32)) w_INT h0 n0 Z0 S_INT hp) hZ (hw _ (List.mem_of_getElem? (i := 3) rfl)) (hw _ (List.mem_of_getElem? (i := 2) rfl)) (by decide) (by decide)) (g := (mkF m 3 #[.val (.int p1), .unset, .unset, .unset, .unset, .unset] [(.int (p1 &&& (3 : Int32)))])) rfl (by rw [hml]; rfl) (argsL := [(.int (p1 &&& (3 : Int32)))]) (rest := []) (lenOf pd_0_0 rfl) rfl (by show 2 * 0 + _ ≤ _; exact Nat.le_of_eq rfl) (hb hby at_3) (fun _ _ => ⟨rfl, e0, (by decide : 0 + 0 ≤ _), (by decide : 0 + 0 ≤ _)⟩)
  dsimp only [Pt.U, Pt.locs, Pt.cells, Pt.slots] at X2 l2 y2 z2 st2 hQ2
  subst l2 y2 z2
  obtain ⟨rfl, N2q, e2q⟩ := hQ2
  have N2 := Fr.app N0 N2q
  have Z2 : n0 ≤ T2.heap.size := by rw [e2q]; exact Z0
  have Kq2 : Keep h0 T2.heap [] := by rw [e2q]; exact Keep.refl _ _
  have eh2 : T2.heap = h0 := e2q
  obtain ⟨cq3, kq3, q3a, q3b, q3c⟩ := isOf hZ rfl (E_INT.keep Kq2)
  obtain ⟨_, _, ⟨T3, L3, k3, n3⟩, -, X3, ⟨Lc3, hQ3, l3, y3, z3⟩, st3⟩ := X2.virtualBack hx (y := (⟨"com/example/tallylock/tallylock/jdbc/ColumnType", "isSigned", "()Z"⟩ : MethodName)) (z := (⟨"com/example/tallylock/tallylock/jdbc/ColumnType", "isSigned", "()Z"⟩ : MethodName)) hown (mvT hZ (hw _ (List.mem_of_getElem? (i := 7) rfl))) (mvT hZ (hw _ (List.mem_of_getElem? (i := 8) rfl))) (notFace_of_selects (args := #[]) (mvT hZ (hw _ (List.mem_of_getElem? (i := 10) rfl)))) (mvT hZ (hw _ (List.mem_of_getElem? (i := 10) rfl))) (mvT hZ (hw _ (List.mem_of_getElem? (i := 9) rfl))) (by decide) (backOf (W := 0) (rm2_t l Z a0 hw [] w_INT w_INT T2.heap n0 Z2 (by rw [eh2]; exact S_INT) rfl) hZ (hw _ (List.mem_of_getElem? (i := 11) rfl)) (hw _ (List.mem_of_getElem? (i := 5) rfl)) (by decide) (by decide)) q3a q3c (g := (mkF m 8 #[.val (.int p1), .val (.ref w_INT), .unset, .unset, .unset, .unset] [(.ref w_INT)])) rfl (by rw [hml]; rfl) (Steps.refl _) (argsL := []) (rest := []) (lenOf pd_0_1 rfl) rfl (by show 2 * 0 + _ ≤ _; exact Nat.le_of_eq rfl) (hb hby at_8) (fun _ _ => ⟨rfl, rfl, (by decide : 0 + 0 ≤ _), (by decide : 0 + 0 ≤ _)⟩)
  dsimp only [Pt.U, Pt.locs, Pt.cells, Pt.slots] at X3 l3 y3 z3 st3 hQ3
  subst l3 y3 z3
  obtain ⟨rfl, N3q, e3q⟩ := hQ3
  have N3 := Fr.app N2 N3q
  have Z3 : n0 ≤ T3.heap.size := by rw [e3q]; exact Z2
  have Kq3 : Keep T2.heap T3.heap [] := by rw [e3q]; exact Keep.refl _ _
  have eh3 : T3.heap = h0 := e3q.trans eh2
  obtain ⟨cq4, kq4, q4a, q4b, q4c⟩ := isOf hZ rfl ((E_INT.keep Kq2).keep Kq3)
  obtain ⟨_, _, ⟨T4, L4, k4, n4⟩, -, X4, ⟨Lc4, hQ4, l4, y4, z4⟩, st4⟩ := X3.virtualBack hx (y := (⟨"com/example/tallylock/tallylock/jdbc/ColumnType", "displaySize", "()I"⟩ : MethodName)) (z := (⟨"com/example/tallylock/tallylock/jdbc/ColumnType", "displaySize", "()I"⟩ : MethodName)) hown (mvT hZ (hw _ (List.mem_of_getElem? (i := 13) rfl))) (mvT hZ (hw _ (List.mem_of_getElem? (i := 14) rfl))) (notFace_of_selects (args := #[]) (mvT hZ (hw _ (List.mem_of_getElem? (i := 16) rfl)))) (mvT hZ (hw _ (List.mem_of_getElem? (i := 16) rfl))) (mvT hZ (hw _ (List.mem_of_getElem? (i := 15) rfl))) (by decide) (backOf (W := 0) (rm3_x l Z a0 hw [] w_INT (20 : Int32) T3.heap n0 Z3 (by rw [eh3]; exact F_INT_displaySize)) hZ (hw _ (List.mem_of_getElem? (i := 17) rfl)) (hw _ (List.mem_of_getElem? (i := 5) rfl)) (by decide) (by decide)) q4a q4c (g := (mkF m 13 #[.val (.int p1), .val (.ref w_INT), .val (.int (1 : Int32)), .unset, .unset, .unset] [(.ref w_INT)])) rfl (by rw [hml]; rfl) (Steps.refl _) (argsL := []) (rest := []) (lenOf pd_0_2 rfl) rfl (by show 2 * 0 + _ ≤ _; exact Nat.le_of_eq rfl) (hb hby at_13) (fun _ _ => ⟨rfl, rfl, (by decide : 0 + 0 ≤ _), (by decide : 0 + 0 ≤ _)⟩)
  dsimp only [Pt.U, Pt.locs, Pt.cells, Pt.slots] at X4 l4 y4 z4 st4 hQ4
  subst l4 y4 z4
  obtain ⟨rfl, N4q, e4q⟩ := hQ4
  have N4 := Fr.app N3 N4q
  have Z4 : n0 ≤ T4.heap.size := by rw [e4q]; exact Z3
  have Kq4 : Keep T3.heap T4.heap [] := by rw [e4q]; exact Keep.refl _ _
  have eh4 : T4.heap = h0 := e4q.trans eh3
  obtain ⟨cq5, kq5, q5a, q5b, q5c⟩ := isOf hZ rfl (((E_INT.keep Kq2).keep Kq3).keep Kq4)
  obtain ⟨_, _, ⟨T5, L5, k5, n5⟩, -, X5, ⟨Lc5, hQ5, l5, y5, z5⟩, st5⟩ := X4.virtualBack hx (y := (⟨"com/example/tallylock/tallylock/jdbc/ColumnType", "precision", "()I"⟩ : MethodName)) (z := (⟨"com/example/tallylock/tallylock/jdbc/ColumnType", "precision", "()I"⟩ : MethodName)) hown (mvT hZ (hw _ (List.mem_of_getElem? (i := 20) rfl))) (mvT hZ (hw _ (List.mem_of_getElem? (i := 21) rfl))) (notFace_of_selects (args := #[]) (mvT hZ (hw _ (List.mem_of_getElem? (i := 23) rfl)))) (mvT hZ (hw _ (List.mem_of_getElem? (i := 23) rfl))) (mvT hZ (hw _ (List.mem_of_getElem? (i := 22) rfl))) (by decide) (backOf (W := 1) (rm4_x l Z a0 hw [] w_INT (19 : Int32) T4.heap n0 Z4 (by rw [eh4]; exact F_INT_precision)) hZ (hw _ (List.mem_of_getElem? (i := 24) rfl)) (hw _ (List.mem_of_getElem? (i := 5) rfl)) (by decide) (by decide)) q5a q5c (g := (mkF m 17 #[.val (.int p1), .val (.ref w_INT), .val (.int (1 : Int32)), .unset, .unset, .unset] [(.ref w_INT), (.int (20 : Int32))])) rfl (by rw [hml]; rfl) (Steps.refl _) (argsL := []) (rest := [(.int (20 : Int32))]) (lenOf pd_0_2 rfl) rfl (by show 2 * 0 + _ ≤ _; exact Nat.le_of_eq rfl) (hb hby at_17) (fun _ _ => ⟨rfl, rfl, (by decide : 0 + 0 ≤ _), (by decide : 0 + 0 ≤ _)⟩)
  dsimp only [Pt.U, Pt.locs, Pt.cells, Pt.slots] at X5 l5 y5 z5 st5 hQ5
  subst l5 y5 z5
  obtain ⟨rfl, N5q, e5q⟩ := hQ5
  have N5 := Fr.app N4 N5q
  have Z5 : n0 ≤ T5.heap.size := by rw [e5q]; exact Z4
  have Kq5 : Keep T4.heap T5.heap [] := by rw [e5q]; exact Keep.refl _ _
  have eh5 : T5.heap = h0 := e5q.trans eh4
  obtain ⟨cq6, kq6, q6a, q6b, q6c⟩ := isOf hZ rfl ((((E_INT.keep Kq2).keep Kq3).keep Kq4).keep Kq5)
  obtain ⟨_, _, ⟨T6, L6, k6, n6⟩, -, X6, ⟨Lc6, hQ6, l6, y6, z6⟩, st6⟩ := X5.virtualBack hx (y := (⟨"com/example/tallylock/tallylock/jdbc/ColumnType", "code", "()I"⟩ : MethodName)) (z := (⟨"com/example/tallylock/tallylock/jdbc/ColumnType", "code", "()I"⟩ : MethodName)) hown (mvT hZ (hw _ (List.mem_of_getElem? (i := 27) rfl))) (mvT hZ (hw _ (List.mem_of_getElem? (i := 28) rfl))) (notFace_of_selects (args := #[]) (mvT hZ (hw _ (List.mem_of_getElem? (i := 30) rfl)))) (mvT hZ (hw _ (List.mem_of_getElem? (i := 30) rfl))) (mvT hZ (hw _ (List.mem_of_getElem? (i := 29) rfl))) (by decide) (backOf (W := 0) (rm5_x l Z a0 hw [] w_INT (-5 : Int32) T5.heap n0 Z5 (by rw [eh5]; exact F_INT_code)) hZ (hw _ (List.mem_of_getElem? (i := 31) rfl)) (hw _ (List.mem_of_getElem? (i := 5) rfl)) (by decide) (by decide)) q6a q6c (g := (mkF m 30 #[.val (.int p1), .val (.ref w_INT), .val (.int (1 : Int32)), .val (.int (1 : Int32)), .unset, .unset] [(.ref w_INT)])) rfl (by rw [hml]; rfl) (Steps.refl _) (argsL := []) (rest := []) (lenOf pd_0_2 rfl) rfl (by show 2 * 0 + _ ≤ _; exact Nat.le_of_eq rfl) (hb hby at_30) (fun _ _ => ⟨rfl, rfl, (by decide : 0 + 0 ≤ _), (by decide : 0 + 0 ≤ _)⟩)
  dsimp only [Pt.U, Pt.locs, Pt.cells, Pt.slots] at X6 l6 y6 z6 st6 hQ6
  subst l6 y6 z6
  obtain ⟨rfl, N6q, e6q⟩ := hQ6
  have N6 := Fr.app N5 N6q
  have Z6 : n0 ≤ T6.heap.size := by rw [e6q]; exact Z5
  have Kq6 : Keep T5.heap T6.heap [] := by rw [e6q]; exact Keep.refl _ _
  have eh6 : T6.heap = h0 := e6q.trans eh5
  obtain ⟨fs, hr, hrun, hended, hW, hsame⟩ := X6.leave (v := some (.int (1 : Int32))) (fun h => by rw [Bd.returns] at h; cases h) Bd.notSynchronized
  refine ⟨_, _, pre0 _ ?_, hrun, hended, _, _, rfl, ?_, ⟨_, rfl⟩, hW, hsame.mono (by decide) (by decide)⟩
  · show Steps p.tables e below (s₁.setTop (mkF m 0 #[.val (.int p1), .unset, .unset, .unset, .unset, .unset] [])) _
    refine XS.iloadN X0.here hx rfl (hb hby at_0) rfl ?_
    show Steps p.tables e below (s₁.setTop (mkF m 1 #[.val (.int p1), .unset, .unset, .unset, .unset, .unset] [(.int p1)])) _
    refine XS.iconst X0.here hx rfl (hb hby at_1) ?_
    show Steps p.tables e below (s₁.setTop (mkF m 2 #[.val (.int p1), .unset, .unset, .unset, .unset, .unset] [(.int (3 : Int32)), (.int p1)])) _
    refine XS.iand X0.here hx rfl (hb hby at_2) rfl ?_
    show Steps p.tables e below (s₁.setTop (mkF m 3 #[.val (.int p1), .unset, .unset, .unset, .unset, .unset] [(.int (p1 &&& (3 : Int32)))])) _
    refine st2 _ ?_
    show Steps p.tables e below (T2.setTop (mkF m 6 #[.val (.int p1), .unset, .unset, .unset, .unset, .unset] [(.ref w_INT)])) _
    refine XS.astoreN X2.here hx rfl (hb hby at_6) rfl rfl (l' := #[.val (.int p1), .val (.ref w_INT), .unset, .unset, .unset, .unset]) rfl ?_
    show Steps p.tables e below (T2.setTop (mkF m 7 #[.val (.int p1), .val (.ref w_INT), .unset, .unset, .unset, .unset] [])) _
    refine XS.aloadN X2.here hx rfl (hb hby at_7) rfl rfl ?_
    show Steps p.tables e below (T2.setTop (mkF m 8 #[.val (.int p1), .val (.ref w_INT), .unset, .unset, .unset, .unset] [(.ref w_INT)])) _
    refine st3.trans ?_
    show Steps p.tables e below (T3.setTop (mkF m 11 #[.val (.int p1), .val (.ref w_INT), .unset, .unset, .unset, .unset] [(.int (1 : Int32))])) _
    refine XS.istoreN X3.here hx rfl (hb hby at_11) rfl (l' := #[.val (.int p1), .val (.ref w_INT), .val (.int (1 : Int32)), .unset, .unset, .unset]) rfl ?_
    show Steps p.tables e below (T3.setTop (mkF m 12 #[.val (.int p1), .val (.ref w_INT), .val (.int (1 : Int32)), .unset, .unset, .unset] [])) _
    refine XS.aloadN X3.here hx rfl (hb hby at_12) rfl rfl ?_
    show Steps p.tables e below (T3.setTop (mkF m 13 #[.val (.int p1), .val (.ref w_INT), .val (.int (1 : Int32)), .unset, .unset, .unset] [(.ref w_INT)])) _
    refine st4.trans ?_
    show Steps p.tables e below (T4.setTop (mkF m 16 #[.val (.int p1), .val (.ref w_INT), .val (.int (1 : Int32)), .unset, .unset, .unset] [(.int (20 : Int32))])) _
    refine XS.aloadN X4.here hx rfl (hb hby at_16) rfl rfl ?_
    show Steps p.tables e below (T4.setTop (mkF m 17 #[.val (.int p1), .val (.ref w_INT), .val (.int (1 : Int32)), .unset, .unset, .unset] [(.ref w_INT), (.int (20 : Int32))])) _
    refine st5.trans ?_
    show Steps p.tables e below (T5.setTop (mkF m 20 #[.val (.int p1), .val (.ref w_INT), .val (.int (1 : Int32)), .unset, .unset, .unset] [(.int (19 : Int32)), (.int (20 : Int32))])) _
    refine XS.icmpNo X5.here hx rfl (hb hby at_20) rfl (tlt hk20).2.2.2 ?_
    show Steps p.tables e below (T5.setTop (mkF m 23 #[.val (.int p1), .val (.ref w_INT), .val (.int (1 : Int32)), .unset, .unset, .unset] [])) _
    refine XS.iconst X5.here hx rfl (hb hby at_23) ?_
    show Steps p.tables e below (T5.setTop (mkF m 24 #[.val (.int p1), .val (.ref w_INT), .val (.int (1 : Int32)), .unset, .unset, .unset] [(.int (1 : Int32))])) _
    refine XS.goto X5.here hx rfl (pc0 := 24) (pc' := 28) rfl (hb hby at_24) (by decide) (by decide) ?_
    show Steps p.tables e below (T5.setTop (mkF m 28 #[.val (.int p1), .val (.ref w_INT), .val (.int (1 : Int32)), .unset, .unset, .unset] [(.int (1 : Int32))])) _
    refine XS.istoreN X5.here hx rfl (hb hby at_28) rfl (l' := #[.val (.int p1), .val (.ref w_INT), .val (.int (1 : Int32)), .val (.int (1 : Int32)), .unset, .unset]) rfl ?_
    show Steps p.tables e below (T5.setTop (mkF m 29 #[.val (.int p1), .val (.ref w_INT), .val (.int (1 : Int32)), .val (.int (1 : Int32)), .unset, .unset] [])) _
    refine XS.aloadN X5.here hx rfl (hb hby at_29) rfl rfl ?_
    show Steps p.tables e below (T5.setTop (mkF m 30 #[.val (.int p1), .val (.ref w_INT), .val (.int (1 : Int32)), .val (.int (1 : Int32)), .unset, .unset] [(.ref w_INT)])) _
    refine st6.trans ?_
    show Steps p.tables e below (T6.setTop (mkF m 33 #[.val (.int p1), .val (.ref w_INT), .val (.int (1 : Int32)), .val (.int (1 : Int32)), .unset, .unset] [(.int (-5 : Int32))])) _
    refine XS.istore X6.here hx rfl (hb hby at_33) rfl (l' := #[.val (.int p1), .val (.ref w_INT), .val (.int (1 : Int32)), .val (.int (1 : Int32)), .val (.int (-5 : Int32)), .unset]) rfl ?_
    show Steps p.tables e below (T6.setTop (mkF m 35 #[.val (.int p1), .val (.ref w_INT), .val (.int (1 : Int32)), .val (.int (1 : Int32)), .val (.int (-5 : Int32)), .unset] [])) _
    refine XS.iload X6.here hx rfl (hb hby at_35) rfl ?_
    show Steps p.tables e below (T6.setTop (mkF m 37 #[.val (.int p1), .val (.ref w_INT), .val (.int (1 : Int32)), .val (.int (1 : Int32)), .val (.int (-5 : Int32)), .unset] [(.int (-5 : Int32))])) _
    refine XS.bipush X6.here hx rfl (hb hby at_37) ?_
    show Steps p.tables e below (T6.setTop (mkF m 39 #[.val (.int p1), .val (.ref w_INT), .val (.int (1 : Int32)), .val (.int (1 : Int32)), .val (.int (-5 : Int32)), .unset] [(.int (-5 : Int32)), (.int (-5 : Int32))])) _
    refine XS.icmpYes X6.here hx rfl (pc0 := 39) (pc' := 48) rfl (hb hby at_39) rfl (teq hk39).1 (by decide) (by decide) ?_
    show Steps p.tables e below (T6.setTop (mkF m 48 #[.val (.int p1), .val (.ref w_INT), .val (.int (1 : Int32)), .val (.int (1 : Int32)), .val (.int (-5 : Int32)), .unset] [])) _
    refine XS.iconst X6.here hx rfl (hb hby at_48) ?_
    show Steps p.tables e below (T6.setTop (mkF m 49 #[.val (.int p1), .val (.ref w_INT), .val (.int (1 : Int32)), .val (.int (1 : Int32)), .val (.int (-5 : Int32)), .unset] [(.int (1 : Int32))])) _
    refine XS.goto X6.here hx rfl (pc0 := 49) (pc' := 53) rfl (hb hby at_49) (by decide) (by decide) ?_
    show Steps p.tables e below (T6.setTop (mkF m 53 #[.val (.int p1), .val (.ref w_INT), .val (.int (1 : Int32)), .val (.int (1 : Int32)), .val (.int (-5 : Int32)), .unset] [(.int (1 : Int32))])) _
    refine XS.istore X6.here hx rfl (hb hby at_53) rfl (l' := #[.val (.int p1), .val (.ref w_INT), .val (.int (1 : Int32)), .val (.int (1 : Int32)), .val (.int (-5 : Int32)), .val (.int (1 : Int32))]) rfl ?_
    show Steps p.tables e below (T6.setTop (mkF m 55 #[.val (.int p1), .val (.ref w_INT), .val (.int (1 : Int32)), .val (.int (1 : Int32)), .val (.int (-5 : Int32)), .val (.int (1 : Int32))] [])) _
    refine XS.iloadN X6.here hx rfl (hb hby at_55) rfl ?_
    show Steps p.tables e below (T6.setTop (mkF m 56 #[.val (.int p1), .val (.ref w_INT), .val (.int (1 : Int32)), .val (.int (1 : Int32)), .val (.int (-5 : Int32)), .val (.int (1 : Int32))] [(.int (1 : Int32))])) _
    refine XS.iloadN X6.here hx rfl (hb hby at_56) rfl ?_
    show Steps p.tables e below (T6.setTop (mkF m 57 #[.val (.int p1), .val (.ref w_INT), .val (.int (1 : Int32)), .val (.int (1 : Int32)), .val (.int (-5 : Int32)), .val (.int (1 : Int32))] [(.int (1 : Int32)), (.int (1 : Int32))])) _
    refine XS.icmpNo X6.here hx rfl (hb hby at_57) rfl (teq hk57).2 ?_
    show Steps p.tables e below (T6.setTop (mkF m 60 #[.val (.int p1), .val (.ref w_INT), .val (.int (1 : Int32)), .val (.int (1 : Int32)), .val (.int (-5 : Int32)), .val (.int (1 : Int32))] [])) _
    refine XS.iloadN X6.here hx rfl (hb hby at_60) rfl ?_
    show Steps p.tables e below (T6.setTop (mkF m 61 #[.val (.int p1), .val (.ref w_INT), .val (.int (1 : Int32)), .val (.int (1 : Int32)), .val (.int (-5 : Int32)), .val (.int (1 : Int32))] [(.int (1 : Int32))])) _
    refine XS.iload X6.here hx rfl (hb hby at_61) rfl ?_
    show Steps p.tables e below (T6.setTop (mkF m 63 #[.val (.int p1), .val (.ref w_INT), .val (.int (1 : Int32)), .val (.int (1 : Int32)), .val (.int (-5 : Int32)), .val (.int (1 : Int32))] [(.int (1 : Int32)), (.int (1 : Int32))])) _
    refine XS.icmpNo X6.here hx rfl (hb hby at_63) rfl (teq hk63).2 ?_
    show Steps p.tables e below (T6.setTop (mkF m 66 #[.val (.int p1), .val (.ref w_INT), .val (.int (1 : Int32)), .val (.int (1 : Int32)), .val (.int (-5 : Int32)), .val (.int (1 : Int32))] [])) _
    refine XS.iconst X6.here hx rfl (hb hby at_66) ?_
    show Steps p.tables e below (T6.setTop (mkF m 67 #[.val (.int p1), .val (.ref w_INT), .val (.int (1 : Int32)), .val (.int (1 : Int32)), .val (.int (-5 : Int32)), .val (.int (1 : Int32))] [(.int (1 : Int32))])) _
    refine XS.goto X6.here hx rfl (pc0 := 67) (pc' := 71) rfl (hb hby at_67) (by decide) (by decide) ?_
    show Steps p.tables e below (T6.setTop (mkF m 71 #[.val (.int p1), .val (.ref w_INT), .val (.int (1 : Int32)), .val (.int (1 : Int32)), .val (.int (-5 : Int32)), .val (.int (1 : Int32))] [(.int (1 : Int32))])) _
    exact retN X6 hx (t := .boolean) Bd.returns (by simp) (hb hby at_71) hr
  · show Q0 Z p1 h0 n0 _ T6.heap _
    exact ⟨rfl, N6⟩
set_option maxRecDepth 65536 in
set_option maxHeartbeats 40000000 in
theorem rm0_TEXT (l : Launch) (Z : State) (a0 : Array Value) (hw : ∀ d ∈ tables_1, d.before a0 Z = true) (ws : List Jvm.Cond) (p1 : Int32) (w_INT : Addr) (w_TEXT : Addr) (w_DATE : Addr) (w_AVERAGE : Addr) (h0 : Heap) (n0 : Nat) (Z0 : n0 ≤ h0.size) (S_INT : Sta Z h0 "com/example/tallylock/tallylock/jdbc/ColumnType" "INT" "Lcom/example/tallylock/tallylock/jdbc/ColumnType;" (.ref w_INT)) (E_INT : Exa Z h0 w_INT "com/example/tallylock/tallylock/jdbc/ColumnType") (S_TEXT : Sta Z h0 "com/example/tallylock/tallylock/jdbc/ColumnType" "TEXT" "Lcom/example/tallylock/tallylock/jdbc/ColumnType;" (.ref w_TEXT)) (E_TEXT : Exa Z h0 w_TEXT "com/example/tallylock/tallylock/jdbc/ColumnType") (S_DATE : Sta Z h0 "com/example/tallylock/tallylock/jdbc/ColumnType" "DATE" "Lcom/example/tallylock/tallylock/jdbc/ColumnType;" (.ref w_DATE)) (E_DATE : Exa Z h0 w_DATE "com/example/tallylock/tallylock/jdbc/ColumnType") (S_AVERAGE : Sta Z h0 "com/example/tallylock/tallylock/jdbc/ColumnType" "AVERAGE" "Lcom/example/tallylock/tallylock/jdbc/ColumnType;" (.ref w_AVERAGE)) (E_AVERAGE : Exa Z h0 w_AVERAGE "com/example/tallylock/tallylock/jdbc/ColumnType") (F_INT_displaySize : Fld Z h0 w_INT "com/example/tallylock/tallylock/jdbc/ColumnType" "displaySize" "I" (.int (20 : Int32))) (F_INT_precision : Fld Z h0 w_INT "com/example/tallylock/tallylock/jdbc/ColumnType" "precision" "I" (.int (19 : Int32))) (F_INT_code : Fld Z h0 w_INT "com/example/tallylock/tallylock/jdbc/ColumnType" "code" "I" (.int (-5 : Int32))) (F_TEXT_displaySize : Fld Z h0 w_TEXT "com/example/tallylock/tallylock/jdbc/ColumnType" "displaySize" "I" (.int (2147483647 : Int32))) (F_TEXT_precision : Fld Z h0 w_TEXT "com/example/tallylock/tallylock/jdbc/ColumnType" "precision" "I" (.int (2147483647 : Int32))) (F_TEXT_code : Fld Z h0 w_TEXT "com/example/tallylock/tallylock/jdbc/ColumnType" "code" "I" (.int (12 : Int32))) (F_DATE_displaySize : Fld Z h0 w_DATE "com/example/tallylock/tallylock/jdbc/ColumnType" "displaySize" "I" (.int (10 : Int32))) (F_DATE_precision : Fld Z h0 w_DATE "com/example/tallylock/tallylock/jdbc/ColumnType" "precision" "I" (.int (10 : Int32))) (F_DATE_code : Fld Z h0 w_DATE "com/example/tallylock/tallylock/jdbc/ColumnType" "code" "I" (.int (91 : Int32))) (F_AVERAGE_displaySize : Fld Z h0 w_AVERAGE "com/example/tallylock/tallylock/jdbc/ColumnType" "displaySize" "I" (.int (23 : Int32))) (F_AVERAGE_precision : Fld Z h0 w_AVERAGE "com/example/tallylock/tallylock/jdbc/ColumnType" "precision" "I" (.int (21 : Int32))) (F_AVERAGE_code : Fld Z h0 w_AVERAGE "com/example/tallylock/tallylock/jdbc/ColumnType" "code" "I" (.int (3 : Int32))) (ne1 : ¬ w_TEXT = w_INT) (ne2 : ¬ w_TEXT = w_AVERAGE) (ne3 : ¬ w_DATE = w_INT) (ne4 : ¬ w_DATE = w_AVERAGE) (ne5 : ¬ w_AVERAGE = w_INT) (hp0 : ¬ (p1 &&& (3 : Int32)) = (0 : Int32)) (hp : (p1 &&& (3 : Int32)) = (1 : Int32)) (hk20 : ¬ ((2147483647 : Int32) < (2147483647 : Int32))) (hk39 : ¬ ((12 : Int32) = (-5 : Int32))) (hk45 : ¬ ((12 : Int32) = (3 : Int32))) (hk57 : (0 : Int32) = (0 : Int32)) (hk63 : (0 : Int32) = (0 : Int32)) :
    MetFree l x (head1 (Jvm.Cond.code x code maxLocals ret :: ws) room_1) (fun a U => a = #[(.int p1)] ∧ Z.Warmed39 U.vm ∧ U.heap = h0) (fun _ _ _ _ _ => True) (fun _ U o U' => ∃ v L, o = .returned v ∧ Q0 Z p1 h0 n0 v U'.heap L ∧ FrameEnd U o U' L room_1.cells room_1.slots) := by
  refine MetFree.of_bodySF (plainFor_of_name pn_0) hisR ?_
  intro p e s m args below meth c s₁ Bd hml0 hP hK
  obtain ⟨rfl, hZ, hh⟩ := hP
  have hx := Bd.exec
  have hby := Bd.bytes
  have hml : c.maxLocals = 6 := hml0
  have hown : s.vm.findClass "com/example/tallylock/tallylock/jdbc/ColumnTypeIsSignedPinLaw" = some m.cls := findClass_of_methodNamed Bd.named
  have hnm := (name_of_methodNamed Bd.named Bd.method).1
  have X0 : Stand p l e room_1 s m #[(.int p1)] below meth c s₁ [] 0 0 := Stand.of_body Bd
  have e0 : s₁.heap = h0 := by rw [← hh, Bd.state]; rfl
  have N0 := Fr.nil n0
  have pre0 : ∀ t, Steps p.tables e below (s₁.setTop (mkF m 0 #[.val (.int p1), .unset, .unset, .unset, .unset, .unset] [])) t → Steps p.tables e below (s₁.setTop (entryFrame m #[(.int p1)] maxLocals)) t := fun t k => castTop (ef_0 m p1) k
  obtain ⟨_, _, ⟨T2, L2, k2, n2⟩, -, X2, ⟨Lc2, hQ2, l2, y2, z2⟩, st2⟩ := Jvm.LawKit.callS X0 hx (y := (⟨"com/example/tallylock/tallylock/jdbc/ColumnTypeIsSignedPinLaw", "pick", "(I)Lcom/example/tallylock/tallylock/jdbc/ColumnType;"⟩ : MethodName)) hown (mvT hZ (hw _ (List.mem_of_getElem? (i := 0) rfl))) (mvT hZ (hw _ (List.mem_of_getElem? (i := 1) rfl))) (mvT hZ (hw _ (List.mem_of_getElem? (i := 2) rfl))) (mvT hZ (hw _ (List.mem_of_getElem? (i := 3) rfl))) (by decide) (backOf (W := 0) (rm1_tf l Z a0 hw [] (p1 &&& (3 : Int32)) w_TEXT h0 n0 Z0 S_TEXT hp0 hp) hZ (hw _ (List.mem_of_getElem? (i := 3) rfl)) (hw _ (List.mem_of_getElem? (i := 2) rfl)) (by decide) (by decide)) (g := (mkF m 3 #[.val (.int p1), .unset, .unset, .unset, .unset, .unset] [(.int (p1 &&& (3 : Int32)))])) rfl (by rw [hml]; rfl) (argsL := [(.int (p1 &&& (3 : Int32)))]) (rest := []) (lenOf pd_0_0 rfl) rfl (by show 2 * 0 + _ ≤ _; exact Nat.le_of_eq rfl) (hb hby at_3) (fun _ _ => ⟨rfl, e0, (by decide : 0 + 0 ≤ _), (by decide : 0 + 0 ≤ _)⟩)
  dsimp only [Pt.U, Pt.locs, Pt.cells, Pt.slots] at X2 l2 y2 z2 st2 hQ2
  subst l2 y2 z2
  obtain ⟨rfl, N2q, e2q⟩ := hQ2
  have N2 := Fr.app N0 N2q
  have Z2 : n0 ≤ T2.heap.size := by rw [e2q]; exact Z0
  have Kq2 : Keep h0 T2.heap [] := by rw [e2q]; exact Keep.refl _ _
  have eh2 : T2.heap = h0 := e2q
  obtain ⟨cq3, kq3, q3a, q3b, q3c⟩ := isOf hZ rfl (E_TEXT.keep Kq2)
  obtain ⟨_, _, ⟨T3, L3, k3, n3⟩, -, X3, ⟨Lc3, hQ3, l3, y3, z3⟩, st3⟩ := X2.virtualBack hx (y := (⟨"com/example/tallylock/tallylock/jdbc/ColumnType", "isSigned", "()Z"⟩ : MethodName)) (z := (⟨"com/example/tallylock/tallylock/jdbc/ColumnType", "isSigned", "()Z"⟩ : MethodName)) hown (mvT hZ (hw _ (List.mem_of_getElem? (i := 7) rfl))) (mvT hZ (hw _ (List.mem_of_getElem? (i := 8) rfl))) (notFace_of_selects (args := #[]) (mvT hZ (hw _ (List.mem_of_getElem? (i := 10) rfl)))) (mvT hZ (hw _ (List.mem_of_getElem? (i := 10) rfl))) (mvT hZ (hw _ (List.mem_of_getElem? (i := 9) rfl))) (by decide) (backOf (W := 0) (rm2_ft l Z a0 hw [] w_TEXT w_INT w_AVERAGE T2.heap n0 Z2 (by rw [eh2]; exact S_INT) (by rw [eh2]; exact S_AVERAGE) ne1 ne2) hZ (hw _ (List.mem_of_getElem? (i := 11) rfl)) (hw _ (List.mem_of_getElem? (i := 5) rfl)) (by decide) (by decide)) q3a q3c (g := (mkF m 8 #[.val (.int p1), .val (.ref w_TEXT), .unset, .unset, .unset, .unset] [(.ref w_TEXT)])) rfl (by rw [hml]; rfl) (Steps.refl _) (argsL := []) (rest := []) (lenOf pd_0_1 rfl) rfl (by show 2 * 0 + _ ≤ _; exact Nat.le_of_eq rfl) (hb hby at_8) (fun _ _ => ⟨rfl, rfl, (by decide : 0 + 0 ≤ _), (by decide : 0 + 0 ≤ _)⟩)
  dsimp only [Pt.U, Pt.locs, Pt.cells, Pt.slots] at X3 l3 y3 z3 st3 hQ3
  subst l3 y3 z3
  obtain ⟨rfl, N3q, e3q⟩ := hQ3
  have N3 := Fr.app N2 N3q
  have Z3 : n0 ≤ T3.heap.size := by rw [e3q]; exact Z2
  have Kq3 : Keep T2.heap T3.heap [] := by rw [e3q]; exact Keep.refl _ _
  have eh3 : T3.heap = h0 := e3q.trans eh2
  obtain ⟨cq4, kq4, q4a, q4b, q4c⟩ := isOf hZ rfl ((E_TEXT.keep Kq2).keep Kq3)
  obtain ⟨_, _, ⟨T4, L4, k4, n4⟩, -, X4, ⟨Lc4, hQ4, l4, y4, z4⟩, st4⟩ := X3.virtualBack hx (y := (⟨"com/example/tallylock/tallylock/jdbc/ColumnType", "displaySize", "()I"⟩ : MethodName)) (z := (⟨"com/example/tallylock/tallylock/jdbc/ColumnType", "displaySize", "()I"⟩ : MethodName)) hown (mvT hZ (hw _ (List.mem_of_getElem? (i := 13) rfl))) (mvT hZ (hw _ (List.mem_of_getElem? (i := 14) rfl))) (notFace_of_selects (args := #[]) (mvT hZ (hw _ (List.mem_of_getElem? (i := 16) rfl)))) (mvT hZ (hw _ (List.mem_of_getElem? (i := 16) rfl))) (mvT hZ (hw _ (List.mem_of_getElem? (i := 15) rfl))) (by decide) (backOf (W := 0) (rm3_x l Z a0 hw [] w_TEXT (2147483647 : Int32) T3.heap n0 Z3 (by rw [eh3]; exact F_TEXT_displaySize)) hZ (hw _ (List.mem_of_getElem? (i := 17) rfl)) (hw _ (List.mem_of_getElem? (i := 5) rfl)) (by decide) (by decide)) q4a q4c (g := (mkF m 13 #[.val (.int p1), .val (.ref w_TEXT), .val (.int (0 : Int32)), .unset, .unset, .unset] [(.ref w_TEXT)])) rfl (by rw [hml]; rfl) (Steps.refl _) (argsL := []) (rest := []) (lenOf pd_0_2 rfl) rfl (by show 2 * 0 + _ ≤ _; exact Nat.le_of_eq rfl) (hb hby at_13) (fun _ _ => ⟨rfl, rfl, (by decide : 0 + 0 ≤ _), (by decide : 0 + 0 ≤ _)⟩)
  dsimp only [Pt.U, Pt.locs, Pt.cells, Pt.slots] at X4 l4 y4 z4 st4 hQ4
  subst l4 y4 z4
  obtain ⟨rfl, N4q, e4q⟩ := hQ4
  have N4 := Fr.app N3 N4q
  have Z4 : n0 ≤ T4.heap.size := by rw [e4q]; exact Z3
  have Kq4 : Keep T3.heap T4.heap [] := by rw [e4q]; exact Keep.refl _ _
  have eh4 : T4.heap = h0 := e4q.trans eh3
  obtain ⟨cq5, kq5, q5a, q5b, q5c⟩ := isOf hZ rfl (((E_TEXT.keep Kq2).keep Kq3).keep Kq4)
  obtain ⟨_, _, ⟨T5, L5, k5, n5⟩, -, X5, ⟨Lc5, hQ5, l5, y5, z5⟩, st5⟩ := X4.virtualBack hx (y := (⟨"com/example/tallylock/tallylock/jdbc/ColumnType", "precision", "()I"⟩ : MethodName)) (z := (⟨"com/example/tallylock/tallylock/jdbc/ColumnType", "precision", "()I"⟩ : MethodName)) hown (mvT hZ (hw _ (List.mem_of_getElem? (i := 20) rfl))) (mvT hZ (hw _ (List.mem_of_getElem? (i := 21) rfl))) (notFace_of_selects (args := #[]) (mvT hZ (hw _ (List.mem_of_getElem? (i := 23) rfl)))) (mvT hZ (hw _ (List.mem_of_getElem? (i := 23) rfl))) (mvT hZ (hw _ (List.mem_of_getElem? (i := 22) rfl))) (by decide) (backOf (W := 1) (rm4_x l Z a0 hw [] w_TEXT (2147483647 : Int32) T4.heap n0 Z4 (by rw [eh4]; exact F_TEXT_precision)) hZ (hw _ (List.mem_of_getElem? (i := 24) rfl)) (hw _ (List.mem_of_getElem? (i := 5) rfl)) (by decide) (by decide)) q5a q5c (g := (mkF m 17 #[.val (.int p1), .val (.ref w_TEXT), .val (.int (0 : Int32)), .unset, .unset, .unset] [(.ref w_TEXT), (.int (2147483647 : Int32))])) rfl (by rw [hml]; rfl) (Steps.refl _) (argsL := []) (rest := [(.int (2147483647 : Int32))]) (lenOf pd_0_2 rfl) rfl (by show 2 * 0 + _ ≤ _; exact Nat.le_of_eq rfl) (hb hby at_17) (fun _ _ => ⟨rfl, rfl, (by decide : 0 + 0 ≤ _), (by decide : 0 + 0 ≤ _)⟩)
  dsimp only [Pt.U, Pt.locs, Pt.cells, Pt.slots] at X5 l5 y5 z5 st5 hQ5
  subst l5 y5 z5
  obtain ⟨rfl, N5q, e5q⟩ := hQ5
  have N5 := Fr.app N4 N5q
  have Z5 : n0 ≤ T5.heap.size := by rw [e5q]; exact Z4
  have Kq5 : Keep T4.heap T5.heap [] := by rw [e5q]; exact Keep.refl _ _
  have eh5 : T5.heap = h0 := e5q.trans eh4
  obtain ⟨cq6, kq6, q6a, q6b, q6c⟩ := isOf hZ rfl ((((E_TEXT.keep Kq2).keep Kq3).keep Kq4).keep Kq5)
  obtain ⟨_, _, ⟨T6, L6, k6, n6⟩, -, X6, ⟨Lc6, hQ6, l6, y6, z6⟩, st6⟩ := X5.virtualBack hx (y := (⟨"com/example/tallylock/tallylock/jdbc/ColumnType", "code", "()I"⟩ : MethodName)) (z := (⟨"com/example/tallylock/tallylock/jdbc/ColumnType", "code", "()I"⟩ : MethodName)) hown (mvT hZ (hw _ (List.mem_of_getElem? (i := 27) rfl))) (mvT hZ (hw _ (List.mem_of_getElem? (i := 28) rfl))) (notFace_of_selects (args := #[]) (mvT hZ (hw _ (List.mem_of_getElem? (i := 30) rfl)))) (mvT hZ (hw _ (List.mem_of_getElem? (i := 30) rfl))) (mvT hZ (hw _ (List.mem_of_getElem? (i := 29) rfl))) (by decide) (backOf (W := 0) (rm5_x l Z a0 hw [] w_TEXT (12 : Int32) T5.heap n0 Z5 (by rw [eh5]; exact F_TEXT_code)) hZ (hw _ (List.mem_of_getElem? (i := 31) rfl)) (hw _ (List.mem_of_getElem? (i := 5) rfl)) (by decide) (by decide)) q6a q6c (g := (mkF m 30 #[.val (.int p1), .val (.ref w_TEXT), .val (.int (0 : Int32)), .val (.int (0 : Int32)), .unset, .unset] [(.ref w_TEXT)])) rfl (by rw [hml]; rfl) (Steps.refl _) (argsL := []) (rest := []) (lenOf pd_0_2 rfl) rfl (by show 2 * 0 + _ ≤ _; exact Nat.le_of_eq rfl) (hb hby at_30) (fun _ _ => ⟨rfl, rfl, (by decide : 0 + 0 ≤ _), (by decide : 0 + 0 ≤ _)⟩)
  dsimp only [Pt.U, Pt.locs, Pt.cells, Pt.slots] at X6 l6 y6 z6 st6 hQ6
  subst l6 y6 z6
  obtain ⟨rfl, N6q, e6q⟩ := hQ6
  have N6 := Fr.app N5 N6q
  have Z6 : n0 ≤ T6.heap.size := by rw [e6q]; exact Z5
  have Kq6 : Keep T5.heap T6.heap [] := by rw [e6q]; exact Keep.refl _ _
  have eh6 : T6.heap = h0 := e6q.trans eh5
  obtain ⟨fs, hr, hrun, hended, hW, hsame⟩ := X6.leave (v := some (.int (1 : Int32))) (fun h => by rw [Bd.returns] at h; cases h) Bd.notSynchronized
  refine ⟨_, _, pre0 _ ?_, hrun, hended, _, _, rfl, ?_, ⟨_, rfl⟩, hW, hsame.mono (by decide) (by decide)⟩
  · show Steps p.tables e below (s₁.setTop (mkF m 0 #[.val (.int p1), .unset, .unset, .unset, .unset, .unset] [])) _
    refine XS.iloadN X0.here hx rfl (hb hby at_0) rfl ?_
    show Steps p.tables e below (s₁.setTop (mkF m 1 #[.val (.int p1), .unset, .unset, .unset, .unset, .unset] [(.int p1)])) _
    refine XS.iconst X0.here hx rfl (hb hby at_1) ?_
    show Steps p.tables e below (s₁.setTop (mkF m 2 #[.val (.int p1), .unset, .unset, .unset, .unset, .unset] [(.int (3 : Int32)), (.int p1)])) _
    refine XS.iand X0.here hx rfl (hb hby at_2) rfl ?_
    show Steps p.tables e below (s₁.setTop (mkF m 3 #[.val (.int p1), .unset, .unset, .unset, .unset, .unset] [(.int (p1 &&& (3 : Int32)))])) _
    refine st2 _ ?_
    show Steps p.tables e below (T2.setTop (mkF m 6 #[.val (.int p1), .unset, .unset, .unset, .unset, .unset] [(.ref w_TEXT)])) _
    refine XS.astoreN X2.here hx rfl (hb hby at_6) rfl rfl (l' := #[.val (.int p1), .val (.ref w_TEXT), .unset, .unset, .unset, .unset]) rfl ?_
    show Steps p.tables e below (T2.setTop (mkF m 7 #[.val (.int p1), .val (.ref w_TEXT), .unset, .unset, .unset, .unset] [])) _
    refine XS.aloadN X2.here hx rfl (hb hby at_7) rfl rfl ?_
    show Steps p.tables e below (T2.setTop (mkF m 8 #[.val (.int p1), .val (.ref w_TEXT), .unset, .unset, .unset, .unset] [(.ref w_TEXT)])) _
    refine st3.trans ?_
    show Steps p.tables e below (T3.setTop (mkF m 11 #[.val (.int p1), .val (.ref w_TEXT), .unset, .unset, .unset, .unset] [(.int (0 : Int32))])) _
    refine XS.istoreN X3.here hx rfl (hb hby at_11) rfl (l' := #[.val (.int p1), .val (.ref w_TEXT), .val (.int (0 : Int32)), .unset, .unset, .unset]) rfl ?_
    show Steps p.tables e below (T3.setTop (mkF m 12 #[.val (.int p1), .val (.ref w_TEXT), .val (.int (0 : Int32)), .unset, .unset, .unset] [])) _
    refine XS.aloadN X3.here hx rfl (hb hby at_12) rfl rfl ?_
    show Steps p.tables e below (T3.setTop (mkF m 13 #[.val (.int p1), .val (.ref w_TEXT), .val (.int (0 : Int32)), .unset, .unset, .unset] [(.ref w_TEXT)])) _
    refine st4.trans ?_
    show Steps p.tables e below (T4.setTop (mkF m 16 #[.val (.int p1), .val (.ref w_TEXT), .val (.int (0 : Int32)), .unset, .unset, .unset] [(.int (2147483647 : Int32))])) _
    refine XS.aloadN X4.here hx rfl (hb hby at_16) rfl rfl ?_
    show Steps p.tables e below (T4.setTop (mkF m 17 #[.val (.int p1), .val (.ref w_TEXT), .val (.int (0 : Int32)), .unset, .unset, .unset] [(.ref w_TEXT), (.int (2147483647 : Int32))])) _
    refine st5.trans ?_
    show Steps p.tables e below (T5.setTop (mkF m 20 #[.val (.int p1), .val (.ref w_TEXT), .val (.int (0 : Int32)), .unset, .unset, .unset] [(.int (2147483647 : Int32)), (.int (2147483647 : Int32))])) _
    refine XS.icmpYes X5.here hx rfl (pc0 := 20) (pc' := 27) rfl (hb hby at_20) rfl (flt hk20).2.2.2 (by decide) (by decide) ?_
    show Steps p.tables e below (T5.setTop (mkF m 27 #[.val (.int p1), .val (.ref w_TEXT), .val (.int (0 : Int32)), .unset, .unset, .unset] [])) _
    refine XS.iconst X5.here hx rfl (hb hby at_27) ?_
    show Steps p.tables e below (T5.setTop (mkF m 28 #[.val (.int p1), .val (.ref w_TEXT), .val (.int (0 : Int32)), .unset, .unset, .unset] [(.int (0 : Int32))])) _
    refine XS.istoreN X5.here hx rfl (hb hby at_28) rfl (l' := #[.val (.int p1), .val (.ref w_TEXT), .val (.int (0 : Int32)), .val (.int (0 : Int32)), .unset, .unset]) rfl ?_
    show Steps p.tables e below (T5.setTop (mkF m 29 #[.val (.int p1), .val (.ref w_TEXT), .val (.int (0 : Int32)), .val (.int (0 : Int32)), .unset, .unset] [])) _
    refine XS.aloadN X5.here hx rfl (hb hby at_29) rfl rfl ?_
    show Steps p.tables e below (T5.setTop (mkF m 30 #[.val (.int p1), .val (.ref w_TEXT), .val (.int (0 : Int32)), .val (.int (0 : Int32)), .unset, .unset] [(.ref w_TEXT)])) _
    refine st6.trans ?_
    show Steps p.tables e below (T6.setTop (mkF m 33 #[.val (.int p1), .val (.ref w_TEXT), .val (.int (0 : Int32)), .val (.int (0 : Int32)), .unset, .unset] [(.int (12 : Int32))])) _
    refine XS.istore X6.here hx rfl (hb hby at_33) rfl (l' := #[.val (.int p1), .val (.ref w_TEXT), .val (.int (0 : Int32)), .val (.int (0 : Int32)), .val (.int (12 : Int32)), .unset]) rfl ?_
    show Steps p.tables e below (T6.setTop (mkF m 35 #[.val (.int p1), .val (.ref w_TEXT), .val (.int (0 : Int32)), .val (.int (0 : Int32)), .val (.int (12 : Int32)), .unset] [])) _
    refine XS.iload X6.here hx rfl (hb hby at_35) rfl ?_
    show Steps p.tables e below (T6.setTop (mkF m 37 #[.val (.int p1), .val (.ref w_TEXT), .val (.int (0 : Int32)), .val (.int (0 : Int32)), .val (.int (12 : Int32)), .unset] [(.int (12 : Int32))])) _
    refine XS.bipush X6.here hx rfl (hb hby at_37) ?_
    show Steps p.tables e below (T6.setTop (mkF m 39 #[.val (.int p1), .val (.ref w_TEXT), .val (.int (0 : Int32)), .val (.int (0 : Int32)), .val (.int (12 : Int32)), .unset] [(.int (-5 : Int32)), (.int (12 : Int32))])) _
    refine XS.icmpNo X6.here hx rfl (hb hby at_39) rfl (feq hk39).1 ?_
    show Steps p.tables e below (T6.setTop (mkF m 42 #[.val (.int p1), .val (.ref w_TEXT), .val (.int (0 : Int32)), .val (.int (0 : Int32)), .val (.int (12 : Int32)), .unset] [])) _
    refine XS.iload X6.here hx rfl (hb hby at_42) rfl ?_
    show Steps p.tables e below (T6.setTop (mkF m 44 #[.val (.int p1), .val (.ref w_TEXT), .val (.int (0 : Int32)), .val (.int (0 : Int32)), .val (.int (12 : Int32)), .unset] [(.int (12 : Int32))])) _
    refine XS.iconst X6.here hx rfl (hb hby at_44) ?_
    show Steps p.tables e below (T6.setTop (mkF m 45 #[.val (.int p1), .val (.ref w_TEXT), .val (.int (0 : Int32)), .val (.int (0 : Int32)), .val (.int (12 : Int32)), .unset] [(.int (3 : Int32)), (.int (12 : Int32))])) _
    refine XS.icmpYes X6.here hx rfl (pc0 := 45) (pc' := 52) rfl (hb hby at_45) rfl (feq hk45).2 (by decide) (by decide) ?_
    show Steps p.tables e below (T6.setTop (mkF m 52 #[.val (.int p1), .val (.ref w_TEXT), .val (.int (0 : Int32)), .val (.int (0 : Int32)), .val (.int (12 : Int32)), .unset] [])) _
    refine XS.iconst X6.here hx rfl (hb hby at_52) ?_
    show Steps p.tables e below (T6.setTop (mkF m 53 #[.val (.int p1), .val (.ref w_TEXT), .val (.int (0 : Int32)), .val (.int (0 : Int32)), .val (.int (12 : Int32)), .unset] [(.int (0 : Int32))])) _
    refine XS.istore X6.here hx rfl (hb hby at_53) rfl (l' := #[.val (.int p1), .val (.ref w_TEXT), .val (.int (0 : Int32)), .val (.int (0 : Int32)), .val (.int (12 : Int32)), .val (.int (0 : Int32))]) rfl ?_
    show Steps p.tables e below (T6.setTop (mkF m 55 #[.val (.int p1), .val (.ref w_TEXT), .val (.int (0 : Int32)), .val (.int (0 : Int32)), .val (.int (12 : Int32)), .val (.int (0 : Int32))] [])) _
    refine XS.iloadN X6.here hx rfl (hb hby at_55) rfl ?_
    show Steps p.tables e below (T6.setTop (mkF m 56 #[.val (.int p1), .val (.ref w_TEXT), .val (.int (0 : Int32)), .val (.int (0 : Int32)), .val (.int (12 : Int32)), .val (.int (0 : Int32))] [(.int (0 : Int32))])) _
    refine XS.iloadN X6.here hx rfl (hb hby at_56) rfl ?_
    show Steps p.tables e below (T6.setTop (mkF m 57 #[.val (.int p1), .val (.ref w_TEXT), .val (.int (0 : Int32)), .val (.int (0 : Int32)), .val (.int (12 : Int32)), .val (.int (0 : Int32))] [(.int (0 : Int32)), (.int (0 : Int32))])) _
    refine XS.icmpNo X6.here hx rfl (hb hby at_57) rfl (teq hk57).2 ?_
    show Steps p.tables e below (T6.setTop (mkF m 60 #[.val (.int p1), .val (.ref w_TEXT), .val (.int (0 : Int32)), .val (.int (0 : Int32)), .val (.int (12 : Int32)), .val (.int (0 : Int32))] [])) _
    refine XS.iloadN X6.here hx rfl (hb hby at_60) rfl ?_
    show Steps p.tables e below (T6.setTop (mkF m 61 #[.val (.int p1), .val (.ref w_TEXT), .val (.int (0 : Int32)), .val (.int (0 : Int32)), .val (.int (12 : Int32)), .val (.int (0 : Int32))] [(.int (0 : Int32))])) _
    refine XS.iload X6.here hx rfl (hb hby at_61) rfl ?_
    show Steps p.tables e below (T6.setTop (mkF m 63 #[.val (.int p1), .val (.ref w_TEXT), .val (.int (0 : Int32)), .val (.int (0 : Int32)), .val (.int (12 : Int32)), .val (.int (0 : Int32))] [(.int (0 : Int32)), (.int (0 : Int32))])) _
    refine XS.icmpNo X6.here hx rfl (hb hby at_63) rfl (teq hk63).2 ?_
    show Steps p.tables e below (T6.setTop (mkF m 66 #[.val (.int p1), .val (.ref w_TEXT), .val (.int (0 : Int32)), .val (.int (0 : Int32)), .val (.int (12 : Int32)), .val (.int (0 : Int32))] [])) _
    refine XS.iconst X6.here hx rfl (hb hby at_66) ?_
    show Steps p.tables e below (T6.setTop (mkF m 67 #[.val (.int p1), .val (.ref w_TEXT), .val (.int (0 : Int32)), .val (.int (0 : Int32)), .val (.int (12 : Int32)), .val (.int (0 : Int32))] [(.int (1 : Int32))])) _
    refine XS.goto X6.here hx rfl (pc0 := 67) (pc' := 71) rfl (hb hby at_67) (by decide) (by decide) ?_
    show Steps p.tables e below (T6.setTop (mkF m 71 #[.val (.int p1), .val (.ref w_TEXT), .val (.int (0 : Int32)), .val (.int (0 : Int32)), .val (.int (12 : Int32)), .val (.int (0 : Int32))] [(.int (1 : Int32))])) _
    exact retN X6 hx (t := .boolean) Bd.returns (by simp) (hb hby at_71) hr
  · show Q0 Z p1 h0 n0 _ T6.heap _
    exact ⟨rfl, N6⟩
set_option maxRecDepth 65536 in
set_option maxHeartbeats 40000000 in
theorem rm0_DATE (l : Launch) (Z : State) (a0 : Array Value) (hw : ∀ d ∈ tables_1, d.before a0 Z = true) (ws : List Jvm.Cond) (p1 : Int32) (w_INT : Addr) (w_TEXT : Addr) (w_DATE : Addr) (w_AVERAGE : Addr) (h0 : Heap) (n0 : Nat) (Z0 : n0 ≤ h0.size) (S_INT : Sta Z h0 "com/example/tallylock/tallylock/jdbc/ColumnType" "INT" "Lcom/example/tallylock/tallylock/jdbc/ColumnType;" (.ref w_INT)) (E_INT : Exa Z h0 w_INT "com/example/tallylock/tallylock/jdbc/ColumnType") (S_TEXT : Sta Z h0 "com/example/tallylock/tallylock/jdbc/ColumnType" "TEXT" "Lcom/example/tallylock/tallylock/jdbc/ColumnType;" (.ref w_TEXT)) (E_TEXT : Exa Z h0 w_TEXT "com/example/tallylock/tallylock/jdbc/ColumnType") (S_DATE : Sta Z h0 "com/example/tallylock/tallylock/jdbc/ColumnType" "DATE" "Lcom/example/tallylock/tallylock/jdbc/ColumnType;" (.ref w_DATE)) (E_DATE : Exa Z h0 w_DATE "com/example/tallylock/tallylock/jdbc/ColumnType") (S_AVERAGE : Sta Z h0 "com/example/tallylock/tallylock/jdbc/ColumnType" "AVERAGE" "Lcom/example/tallylock/tallylock/jdbc/ColumnType;" (.ref w_AVERAGE)) (E_AVERAGE : Exa Z h0 w_AVERAGE "com/example/tallylock/tallylock/jdbc/ColumnType") (F_INT_displaySize : Fld Z h0 w_INT "com/example/tallylock/tallylock/jdbc/ColumnType" "displaySize" "I" (.int (20 : Int32))) (F_INT_precision : Fld Z h0 w_INT "com/example/tallylock/tallylock/jdbc/ColumnType" "precision" "I" (.int (19 : Int32))) (F_INT_code : Fld Z h0 w_INT "com/example/tallylock/tallylock/jdbc/ColumnType" "code" "I" (.int (-5 : Int32))) (F_TEXT_displaySize : Fld Z h0 w_TEXT "com/example/tallylock/tallylock/jdbc/ColumnType" "displaySize" "I" (.int (2147483647 : Int32))) (F_TEXT_precision : Fld Z h0 w_TEXT "com/example/tallylock/tallylock/jdbc/ColumnType" "precision" "I" (.int (2147483647 : Int32))) (F_TEXT_code : Fld Z h0 w_TEXT "com/example/tallylock/tallylock/jdbc/ColumnType" "code" "I" (.int (12 : Int32))) (F_DATE_displaySize : Fld Z h0 w_DATE "com/example/tallylock/tallylock/jdbc/ColumnType" "displaySize" "I" (.int (10 : Int32))) (F_DATE_precision : Fld Z h0 w_DATE "com/example/tallylock/tallylock/jdbc/ColumnType" "precision" "I" (.int (10 : Int32))) (F_DATE_code : Fld Z h0 w_DATE "com/example/tallylock/tallylock/jdbc/ColumnType" "code" "I" (.int (91 : Int32))) (F_AVERAGE_displaySize : Fld Z h0 w_AVERAGE "com/example/tallylock/tallylock/jdbc/ColumnType" "displaySize" "I" (.int (23 : Int32))) (F_AVERAGE_precision : Fld Z h0 w_AVERAGE "com/example/tallylock/tallylock/jdbc/ColumnType" "precision" "I" (.int (21 : Int32))) (F_AVERAGE_code : Fld Z h0 w_AVERAGE "com/example/tallylock/tallylock/jdbc/ColumnType" "code" "I" (.int (3 : Int32))) (ne1 : ¬ w_TEXT = w_INT) (ne2 : ¬ w_TEXT = w_AVERAGE) (ne3 : ¬ w_DATE = w_INT) (ne4 : ¬ w_DATE = w_AVERAGE) (ne5 : ¬ w_AVERAGE = w_INT) (hp0 : ¬ (p1 &&& (3 : Int32)) = (0 : Int32)) (hp1 : ¬ (p1 &&& (3 : Int32)) = (1 : Int32)) (hp : (p1 &&& (3 : Int32)) = (2 : Int32)) (hk20 : ¬ ((10 : Int32) < (10 : Int32))) (hk39 : ¬ ((91 : Int32) = (-5 : Int32))) (hk45 : ¬ ((91 : Int32) = (3 : Int32))) (hk57 : (0 : Int32) = (0 : Int32)) (hk63 : (0 : Int32) = (0 : Int32)) :
    MetFree l x (head1 (Jvm.Cond.code x code maxLocals ret :: ws) room_1) (fun a U => a = #[(.int p1)] ∧ Z.Warmed39 U.vm ∧ U.heap = h0) (fun _ _ _ _ _ => True) (fun _ U o U' => ∃ v L, o = .returned v ∧ Q0 Z p1 h0 n0 v U'.heap L ∧ FrameEnd U o U' L room_1.cells room_1.slots) := by
  refine MetFree.of_bodySF (plainFor_of_name pn_0) hisR ?_
  intro p e s m args below meth c s₁ Bd hml0 hP hK
  obtain ⟨rfl, hZ, hh⟩ := hP
  have hx := Bd.exec
  have hby := Bd.bytes
  have hml : c.maxLocals = 6 := hml0
  have hown : s.vm.findClass "com/example/tallylock/tallylock/jdbc/ColumnTypeIsSignedPinLaw" = some m.cls := findClass_of_methodNamed Bd.named
  have hnm := (name_of_methodNamed Bd.named Bd.method).1
  have X0 : Stand p l e room_1 s m #[(.int p1)] below meth c s₁ [] 0 0 := Stand.of_body Bd
  have e0 : s₁.heap = h0 := by rw [← hh, Bd.state]; rfl
  have N0 := Fr.nil n0
  have pre0 : ∀ t, Steps p.tables e below (s₁.setTop (mkF m 0 #[.val (.int p1), .unset, .unset, .unset, .unset, .unset] [])) t → Steps p.tables e below (s₁.setTop (entryFrame m #[(.int p1)] maxLocals)) t := fun t k => castTop (ef_0 m p1) k
  obtain ⟨_, _, ⟨T2, L2, k2, n2⟩, -, X2, ⟨Lc2, hQ2, l2, y2, z2⟩, st2⟩ := Jvm.LawKit.callS X0 hx (y := (⟨"com/example/tallylock/tallylock/jdbc/ColumnTypeIsSignedPinLaw", "pick", "(I)Lcom/example/tallylock/tallylock/jdbc/ColumnType;"⟩ : MethodName)) hown (mvT hZ (hw _ (List.mem_of_getElem? (i := 0) rfl))) (mvT hZ (hw _ (List.mem_of_getElem? (i := 1) rfl))) (mvT hZ (hw _ (List.mem_of_getElem? (i := 2) rfl))) (mvT hZ (hw _ (List.mem_of_getElem? (i := 3) rfl))) (by decide) (backOf (W := 0) (rm1_ttf l Z a0 hw [] (p1 &&& (3 : Int32)) w_DATE h0 n0 Z0 S_DATE hp0 hp1 hp) hZ (hw _ (List.mem_of_getElem? (i := 3) rfl)) (hw _ (List.mem_of_getElem? (i := 2) rfl)) (by decide) (by decide)) (g := (mkF m 3 #[.val (.int p1), .unset, .unset, .unset, .unset, .unset] [(.int (p1 &&& (3 : Int32)))])) rfl (by rw [hml]; rfl) (argsL := [(.int (p1 &&& (3 : Int32)))]) (rest := []) (lenOf pd_0_0 rfl) rfl (by show 2 * 0 + _ ≤ _; exact Nat.le_of_eq rfl) (hb hby at_3) (fun _ _ => ⟨rfl, e0, (by decide : 0 + 0 ≤ _), (by decide : 0 + 0 ≤ _)⟩)
  dsimp only [Pt.U, Pt.locs, Pt.cells, Pt.slots] at X2 l2 y2 z2 st2 hQ2
  subst l2 y2 z2
  obtain ⟨rfl, N2q, e2q⟩ := hQ2
  have N2 := Fr.app N0 N2q
  have Z2 : n0 ≤ T2.heap.size := by rw [e2q]; exact Z0
  have Kq2 : Keep h0 T2.heap [] := by rw [e2q]; exact Keep.refl _ _
  have eh2 : T2.heap = h0 := e2q
  obtain ⟨cq3, kq3, q3a, q3b, q3c⟩ := isOf hZ rfl (E_DATE.keep Kq2)
  obtain ⟨_, _, ⟨T3, L3, k3, n3⟩, -, X3, ⟨Lc3, hQ3, l3, y3, z3⟩, st3⟩ := X2.virtualBack hx (y := (⟨"com/example/tallylock/tallylock/jdbc/ColumnType", "isSigned", "()Z"⟩ : MethodName)) (z := (⟨"com/example/tallylock/tallylock/jdbc/ColumnType", "isSigned", "()Z"⟩ : MethodName)) hown (mvT hZ (hw _ (List.mem_of_getElem? (i := 7) rfl))) (mvT hZ (hw _ (List.mem_of_getElem? (i := 8) rfl))) (notFace_of_selects (args := #[]) (mvT hZ (hw _ (List.mem_of_getElem? (i := 10) rfl)))) (mvT hZ (hw _ (List.mem_of_getElem? (i := 10) rfl))) (mvT hZ (hw _ (List.mem_of_getElem? (i := 9) rfl))) (by decide) (backOf (W := 0) (rm2_ft l Z a0 hw [] w_DATE w_INT w_AVERAGE T2.heap n0 Z2 (by rw [eh2]; exact S_INT) (by rw [eh2]; exact S_AVERAGE) ne3 ne4) hZ (hw _ (List.mem_of_getElem? (i := 11) rfl)) (hw _ (List.mem_of_getElem? (i := 5) rfl)) (by decide) (by decide)) q3a q3c (g := (mkF m 8 #[.val (.int p1), .val (.ref w_DATE), .unset, .unset, .unset, .unset] [(.ref w_DATE)])) rfl (by rw [hml]; rfl) (Steps.refl _) (argsL := []) (rest := []) (lenOf pd_0_1 rfl) rfl (by show 2 * 0 + _ ≤ _; exact Nat.le_of_eq rfl) (hb hby at_8) (fun _ _ => ⟨rfl, rfl, (by decide : 0 + 0 ≤ _), (by decide : 0 + 0 ≤ _)⟩)
  dsimp only [Pt.U, Pt.locs, Pt.cells, Pt.slots] at X3 l3 y3 z3 st3 hQ3
  subst l3 y3 z3
  obtain ⟨rfl, N3q, e3q⟩ := hQ3
  have N3 := Fr.app N2 N3q
  have Z3 : n0 ≤ T3.heap.size := by rw [e3q]; exact Z2
  have Kq3 : Keep T2.heap T3.heap [] := by rw [e3q]; exact Keep.refl _ _
  have eh3 : T3.heap = h0 := e3q.trans eh2
  obtain ⟨cq4, kq4, q4a, q4b, q4c⟩ := isOf hZ rfl ((E_DATE.keep Kq2).keep Kq3)
  obtain ⟨_, _, ⟨T4, L4, k4, n4⟩, -, X4, ⟨Lc4, hQ4, l4, y4, z4⟩, st4⟩ := X3.virtualBack hx (y := (⟨"com/example/tallylock/tallylock/jdbc/ColumnType", "displaySize", "()I"⟩ : MethodName)) (z := (⟨"com/example/tallylock/tallylock/jdbc/ColumnType", "displaySize", "()I"⟩ : MethodName)) hown (mvT hZ (hw _ (List.mem_of_getElem? (i := 13) rfl))) (mvT hZ (hw _ (List.mem_of_getElem? (i := 14) rfl))) (notFace_of_selects (args := #[]) (mvT hZ (hw _ (List.mem_of_getElem? (i := 16) rfl)))) (mvT hZ (hw _ (List.mem_of_getElem? (i := 16) rfl))) (mvT hZ (hw _ (List.mem_of_getElem? (i := 15) rfl))) (by decide) (backOf (W := 0) (rm3_x l Z a0 hw [] w_DATE (10 : Int32) T3.heap n0 Z3 (by rw [eh3]; exact F_DATE_displaySize)) hZ (hw _ (List.mem_of_getElem? (i := 17) rfl)) (hw _ (List.mem_of_getElem? (i := 5) rfl)) (by decide) (by decide)) q4a q4c (g := (mkF m 13 #[.val (.int p1), .val (.ref w_DATE), .val (.int (0 : Int32)), .unset, .unset, .unset] [(.ref w_DATE)])) rfl (by rw [hml]; rfl) (Steps.refl _) (argsL := []) (rest := []) (lenOf pd_0_2 rfl) rfl (by show 2 * 0 + _ ≤ _; exact Nat.le_of_eq rfl) (hb hby at_13) (fun _ _ => ⟨rfl, rfl, (by decide : 0 + 0 ≤ _), (by decide : 0 + 0 ≤ _)⟩)
  dsimp only [Pt.U, Pt.locs, Pt.cells, Pt.slots] at X4 l4 y4 z4 st4 hQ4
  subst l4 y4 z4
  obtain ⟨rfl, N4q, e4q⟩ := hQ4
  have N4 := Fr.app N3 N4q
  have Z4 : n0 ≤ T4.heap.size := by rw [e4q]; exact Z3
  have Kq4 : Keep T3.heap T4.heap [] := by rw [e4q]; exact Keep.refl _ _
  have eh4 : T4.heap = h0 := e4q.trans eh3
  obtain ⟨cq5, kq5, q5a, q5b, q5c⟩ := isOf hZ rfl (((E_DATE.keep Kq2).keep Kq3).keep Kq4)
  obtain ⟨_, _, ⟨T5, L5, k5, n5⟩, -, X5, ⟨Lc5, hQ5, l5, y5, z5⟩, st5⟩ := X4.virtualBack hx (y := (⟨"com/example/tallylock/tallylock/jdbc/ColumnType", "precision", "()I"⟩ : MethodName)) (z := (⟨"com/example/tallylock/tallylock/jdbc/ColumnType", "precision", "()I"⟩ : MethodName)) hown (mvT hZ (hw _ (List.mem_of_getElem? (i := 20) rfl))) (mvT hZ (hw _ (List.mem_of_getElem? (i := 21) rfl))) (notFace_of_selects (args := #[]) (mvT hZ (hw _ (List.mem_of_getElem? (i := 23) rfl)))) (mvT hZ (hw _ (List.mem_of_getElem? (i := 23) rfl))) (mvT hZ (hw _ (List.mem_of_getElem? (i := 22) rfl))) (by decide) (backOf (W := 1) (rm4_x l Z a0 hw [] w_DATE (10 : Int32) T4.heap n0 Z4 (by rw [eh4]; exact F_DATE_precision)) hZ (hw _ (List.mem_of_getElem? (i := 24) rfl)) (hw _ (List.mem_of_getElem? (i := 5) rfl)) (by decide) (by decide)) q5a q5c (g := (mkF m 17 #[.val (.int p1), .val (.ref w_DATE), .val (.int (0 : Int32)), .unset, .unset, .unset] [(.ref w_DATE), (.int (10 : Int32))])) rfl (by rw [hml]; rfl) (Steps.refl _) (argsL := []) (rest := [(.int (10 : Int32))]) (lenOf pd_0_2 rfl) rfl (by show 2 * 0 + _ ≤ _; exact Nat.le_of_eq rfl) (hb hby at_17) (fun _ _ => ⟨rfl, rfl, (by decide : 0 + 0 ≤ _), (by decide : 0 + 0 ≤ _)⟩)
  dsimp only [Pt.U, Pt.locs, Pt.cells, Pt.slots] at X5 l5 y5 z5 st5 hQ5
  subst l5 y5 z5
  obtain ⟨rfl, N5q, e5q⟩ := hQ5
  have N5 := Fr.app N4 N5q
  have Z5 : n0 ≤ T5.heap.size := by rw [e5q]; exact Z4
  have Kq5 : Keep T4.heap T5.heap [] := by rw [e5q]; exact Keep.refl _ _
  have eh5 : T5.heap = h0 := e5q.trans eh4
  obtain ⟨cq6, kq6, q6a, q6b, q6c⟩ := isOf hZ rfl ((((E_DATE.keep Kq2).keep Kq3).keep Kq4).keep Kq5)
  obtain ⟨_, _, ⟨T6, L6, k6, n6⟩, -, X6, ⟨Lc6, hQ6, l6, y6, z6⟩, st6⟩ := X5.virtualBack hx (y := (⟨"com/example/tallylock/tallylock/jdbc/ColumnType", "code", "()I"⟩ : MethodName)) (z := (⟨"com/example/tallylock/tallylock/jdbc/ColumnType", "code", "()I"⟩ : MethodName)) hown (mvT hZ (hw _ (List.mem_of_getElem? (i := 27) rfl))) (mvT hZ (hw _ (List.mem_of_getElem? (i := 28) rfl))) (notFace_of_selects (args := #[]) (mvT hZ (hw _ (List.mem_of_getElem? (i := 30) rfl)))) (mvT hZ (hw _ (List.mem_of_getElem? (i := 30) rfl))) (mvT hZ (hw _ (List.mem_of_getElem? (i := 29) rfl))) (by decide) (backOf (W := 0) (rm5_x l Z a0 hw [] w_DATE (91 : Int32) T5.heap n0 Z5 (by rw [eh5]; exact F_DATE_code)) hZ (hw _ (List.mem_of_getElem? (i := 31) rfl)) (hw _ (List.mem_of_getElem? (i := 5) rfl)) (by decide) (by decide)) q6a q6c (g := (mkF m 30 #[.val (.int p1), .val (.ref w_DATE), .val (.int (0 : Int32)), .val (.int (0 : Int32)), .unset, .unset] [(.ref w_DATE)])) rfl (by rw [hml]; rfl) (Steps.refl _) (argsL := []) (rest := []) (lenOf pd_0_2 rfl) rfl (by show 2 * 0 + _ ≤ _; exact Nat.le_of_eq rfl) (hb hby at_30) (fun _ _ => ⟨rfl, rfl, (by decide : 0 + 0 ≤ _), (by decide : 0 + 0 ≤ _)⟩)
  dsimp only [Pt.U, Pt.locs, Pt.cells, Pt.slots] at X6 l6 y6 z6 st6 hQ6
  subst l6 y6 z6
  obtain ⟨rfl, N6q, e6q⟩ := hQ6
  have N6 := Fr.app N5 N6q
  have Z6 : n0 ≤ T6.heap.size := by rw [e6q]; exact Z5
  have Kq6 : Keep T5.heap T6.heap [] := by rw [e6q]; exact Keep.refl _ _
  have eh6 : T6.heap = h0 := e6q.trans eh5
  obtain ⟨fs, hr, hrun, hended, hW, hsame⟩ := X6.leave (v := some (.int (1 : Int32))) (fun h => by rw [Bd.returns] at h; cases h) Bd.notSynchronized
  refine ⟨_, _, pre0 _ ?_, hrun, hended, _, _, rfl, ?_, ⟨_, rfl⟩, hW, hsame.mono (by decide) (by decide)⟩
  · show Steps p.tables e below (s₁.setTop (mkF m 0 #[.val (.int p1), .unset, .unset, .unset, .unset, .unset] [])) _
    refine XS.iloadN X0.here hx rfl (hb hby at_0) rfl ?_
    show Steps p.tables e below (s₁.setTop (mkF m 1 #[.val (.int p1), .unset, .unset, .unset, .unset, .unset] [(.int p1)])) _
    refine XS.iconst X0.here hx rfl (hb hby at_1) ?_
    show Steps p.tables e below (s₁.setTop (mkF m 2 #[.val (.int p1), .unset, .unset, .unset, .unset, .unset] [(.int (3 : Int32)), (.int p1)])) _
    refine XS.iand X0.here hx rfl (hb hby at_2) rfl ?_
    show Steps p.tables e below (s₁.setTop (mkF m 3 #[.val (.int p1), .unset, .unset, .unset, .unset, .unset] [(.int (p1 &&& (3 : Int32)))])) _
    refine st2 _ ?_
    show Steps p.tables e below (T2.setTop (mkF m 6 #[.val (.int p1), .unset, .unset, .unset, .unset, .unset] [(.ref w_DATE)])) _
    refine XS.astoreN X2.here hx rfl (hb hby at_6) rfl rfl (l' := #[.val (.int p1), .val (.ref w_DATE), .unset, .unset, .unset, .unset]) rfl ?_
    show Steps p.tables e below (T2.setTop (mkF m 7 #[.val (.int p1), .val (.ref w_DATE), .unset, .unset, .unset, .unset] [])) _
    refine XS.aloadN X2.here hx rfl (hb hby at_7) rfl rfl ?_
    show Steps p.tables e below (T2.setTop (mkF m 8 #[.val (.int p1), .val (.ref w_DATE), .unset, .unset, .unset, .unset] [(.ref w_DATE)])) _
    refine st3.trans ?_
    show Steps p.tables e below (T3.setTop (mkF m 11 #[.val (.int p1), .val (.ref w_DATE), .unset, .unset, .unset, .unset] [(.int (0 : Int32))])) _
    refine XS.istoreN X3.here hx rfl (hb hby at_11) rfl (l' := #[.val (.int p1), .val (.ref w_DATE), .val (.int (0 : Int32)), .unset, .unset, .unset]) rfl ?_
    show Steps p.tables e below (T3.setTop (mkF m 12 #[.val (.int p1), .val (.ref w_DATE), .val (.int (0 : Int32)), .unset, .unset, .unset] [])) _
    refine XS.aloadN X3.here hx rfl (hb hby at_12) rfl rfl ?_
    show Steps p.tables e below (T3.setTop (mkF m 13 #[.val (.int p1), .val (.ref w_DATE), .val (.int (0 : Int32)), .unset, .unset, .unset] [(.ref w_DATE)])) _
    refine st4.trans ?_
    show Steps p.tables e below (T4.setTop (mkF m 16 #[.val (.int p1), .val (.ref w_DATE), .val (.int (0 : Int32)), .unset, .unset, .unset] [(.int (10 : Int32))])) _
    refine XS.aloadN X4.here hx rfl (hb hby at_16) rfl rfl ?_
    show Steps p.tables e below (T4.setTop (mkF m 17 #[.val (.int p1), .val (.ref w_DATE), .val (.int (0 : Int32)), .unset, .unset, .unset] [(.ref w_DATE), (.int (10 : Int32))])) _
    refine st5.trans ?_
    show Steps p.tables e below (T5.setTop (mkF m 20 #[.val (.int p1), .val (.ref w_DATE), .val (.int (0 : Int32)), .unset, .unset, .unset] [(.int (10 : Int32)), (.int (10 : Int32))])) _
    refine XS.icmpYes X5.here hx rfl (pc0 := 20) (pc' := 27) rfl (hb hby at_20) rfl (flt hk20).2.2.2 (by decide) (by decide) ?_
    show Steps p.tables e below (T5.setTop (mkF m 27 #[.val (.int p1), .val (.ref w_DATE), .val (.int (0 : Int32)), .unset, .unset, .unset] [])) _
    refine XS.iconst X5.here hx rfl (hb hby at_27) ?_
    show Steps p.tables e below (T5.setTop (mkF m 28 #[.val (.int p1), .val (.ref w_DATE), .val (.int (0 : Int32)), .unset, .unset, .unset] [(.int (0 : Int32))])) _
    refine XS.istoreN X5.here hx rfl (hb hby at_28) rfl (l' := #[.val (.int p1), .val (.ref w_DATE), .val (.int (0 : Int32)), .val (.int (0 : Int32)), .unset, .unset]) rfl ?_
    show Steps p.tables e below (T5.setTop (mkF m 29 #[.val (.int p1), .val (.ref w_DATE), .val (.int (0 : Int32)), .val (.int (0 : Int32)), .unset, .unset] [])) _
    refine XS.aloadN X5.here hx rfl (hb hby at_29) rfl rfl ?_
    show Steps p.tables e below (T5.setTop (mkF m 30 #[.val (.int p1), .val (.ref w_DATE), .val (.int (0 : Int32)), .val (.int (0 : Int32)), .unset, .unset] [(.ref w_DATE)])) _
    refine st6.trans ?_
    show Steps p.tables e below (T6.setTop (mkF m 33 #[.val (.int p1), .val (.ref w_DATE), .val (.int (0 : Int32)), .val (.int (0 : Int32)), .unset, .unset] [(.int (91 : Int32))])) _
    refine XS.istore X6.here hx rfl (hb hby at_33) rfl (l' := #[.val (.int p1), .val (.ref w_DATE), .val (.int (0 : Int32)), .val (.int (0 : Int32)), .val (.int (91 : Int32)), .unset]) rfl ?_
    show Steps p.tables e below (T6.setTop (mkF m 35 #[.val (.int p1), .val (.ref w_DATE), .val (.int (0 : Int32)), .val (.int (0 : Int32)), .val (.int (91 : Int32)), .unset] [])) _
    refine XS.iload X6.here hx rfl (hb hby at_35) rfl ?_
    show Steps p.tables e below (T6.setTop (mkF m 37 #[.val (.int p1), .val (.ref w_DATE), .val (.int (0 : Int32)), .val (.int (0 : Int32)), .val (.int (91 : Int32)), .unset] [(.int (91 : Int32))])) _
    refine XS.bipush X6.here hx rfl (hb hby at_37) ?_
    show Steps p.tables e below (T6.setTop (mkF m 39 #[.val (.int p1), .val (.ref w_DATE), .val (.int (0 : Int32)), .val (.int (0 : Int32)), .val (.int (91 : Int32)), .unset] [(.int (-5 : Int32)), (.int (91 : Int32))])) _
    refine XS.icmpNo X6.here hx rfl (hb hby at_39) rfl (feq hk39).1 ?_
    show Steps p.tables e below (T6.setTop (mkF m 42 #[.val (.int p1), .val (.ref w_DATE), .val (.int (0 : Int32)), .val (.int (0 : Int32)), .val (.int (91 : Int32)), .unset] [])) _
    refine XS.iload X6.here hx rfl (hb hby at_42) rfl ?_
    show Steps p.tables e below (T6.setTop (mkF m 44 #[.val (.int p1), .val (.ref w_DATE), .val (.int (0 : Int32)), .val (.int (0 : Int32)), .val (.int (91 : Int32)), .unset] [(.int (91 : Int32))])) _
    refine XS.iconst X6.here hx rfl (hb hby at_44) ?_
    show Steps p.tables e below (T6.setTop (mkF m 45 #[.val (.int p1), .val (.ref w_DATE), .val (.int (0 : Int32)), .val (.int (0 : Int32)), .val (.int (91 : Int32)), .unset] [(.int (3 : Int32)), (.int (91 : Int32))])) _
    refine XS.icmpYes X6.here hx rfl (pc0 := 45) (pc' := 52) rfl (hb hby at_45) rfl (feq hk45).2 (by decide) (by decide) ?_
    show Steps p.tables e below (T6.setTop (mkF m 52 #[.val (.int p1), .val (.ref w_DATE), .val (.int (0 : Int32)), .val (.int (0 : Int32)), .val (.int (91 : Int32)), .unset] [])) _
    refine XS.iconst X6.here hx rfl (hb hby at_52) ?_
    show Steps p.tables e below (T6.setTop (mkF m 53 #[.val (.int p1), .val (.ref w_DATE), .val (.int (0 : Int32)), .val (.int (0 : Int32)), .val (.int (91 : Int32)), .unset] [(.int (0 : Int32))])) _
    refine XS.istore X6.here hx rfl (hb hby at_53) rfl (l' := #[.val (.int p1), .val (.ref w_DATE), .val (.int (0 : Int32)), .val (.int (0 : Int32)), .val (.int (91 : Int32)), .val (.int (0 : Int32))]) rfl ?_
    show Steps p.tables e below (T6.setTop (mkF m 55 #[.val (.int p1), .val (.ref w_DATE), .val (.int (0 : Int32)), .val (.int (0 : Int32)), .val (.int (91 : Int32)), .val (.int (0 : Int32))] [])) _
    refine XS.iloadN X6.here hx rfl (hb hby at_55) rfl ?_
    show Steps p.tables e below (T6.setTop (mkF m 56 #[.val (.int p1), .val (.ref w_DATE), .val (.int (0 : Int32)), .val (.int (0 : Int32)), .val (.int (91 : Int32)), .val (.int (0 : Int32))] [(.int (0 : Int32))])) _
    refine XS.iloadN X6.here hx rfl (hb hby at_56) rfl ?_
    show Steps p.tables e below (T6.setTop (mkF m 57 #[.val (.int p1), .val (.ref w_DATE), .val (.int (0 : Int32)), .val (.int (0 : Int32)), .val (.int (91 : Int32)), .val (.int (0 : Int32))] [(.int (0 : Int32)), (.int (0 : Int32))])) _
    refine XS.icmpNo X6.here hx rfl (hb hby at_57) rfl (teq hk57).2 ?_
    show Steps p.tables e below (T6.setTop (mkF m 60 #[.val (.int p1), .val (.ref w_DATE), .val (.int (0 : Int32)), .val (.int (0 : Int32)), .val (.int (91 : Int32)), .val (.int (0 : Int32))] [])) _
    refine XS.iloadN X6.here hx rfl (hb hby at_60) rfl ?_
    show Steps p.tables e below (T6.setTop (mkF m 61 #[.val (.int p1), .val (.ref w_DATE), .val (.int (0 : Int32)), .val (.int (0 : Int32)), .val (.int (91 : Int32)), .val (.int (0 : Int32))] [(.int (0 : Int32))])) _
    refine XS.iload X6.here hx rfl (hb hby at_61) rfl ?_
    show Steps p.tables e below (T6.setTop (mkF m 63 #[.val (.int p1), .val (.ref w_DATE), .val (.int (0 : Int32)), .val (.int (0 : Int32)), .val (.int (91 : Int32)), .val (.int (0 : Int32))] [(.int (0 : Int32)), (.int (0 : Int32))])) _
    refine XS.icmpNo X6.here hx rfl (hb hby at_63) rfl (teq hk63).2 ?_
    show Steps p.tables e below (T6.setTop (mkF m 66 #[.val (.int p1), .val (.ref w_DATE), .val (.int (0 : Int32)), .val (.int (0 : Int32)), .val (.int (91 : Int32)), .val (.int (0 : Int32))] [])) _
    refine XS.iconst X6.here hx rfl (hb hby at_66) ?_
    show Steps p.tables e below (T6.setTop (mkF m 67 #[.val (.int p1), .val (.ref w_DATE), .val (.int (0 : Int32)), .val (.int (0 : Int32)), .val (.int (91 : Int32)), .val (.int (0 : Int32))] [(.int (1 : Int32))])) _
    refine XS.goto X6.here hx rfl (pc0 := 67) (pc' := 71) rfl (hb hby at_67) (by decide) (by decide) ?_
    show Steps p.tables e below (T6.setTop (mkF m 71 #[.val (.int p1), .val (.ref w_DATE), .val (.int (0 : Int32)), .val (.int (0 : Int32)), .val (.int (91 : Int32)), .val (.int (0 : Int32))] [(.int (1 : Int32))])) _
    exact retN X6 hx (t := .boolean) Bd.returns (by simp) (hb hby at_71) hr
  · show Q0 Z p1 h0 n0 _ T6.heap _
    exact ⟨rfl, N6⟩
set_option maxRecDepth 65536 in
set_option maxHeartbeats 40000000 in
theorem rm0_AVERAGE (l : Launch) (Z : State) (a0 : Array Value) (hw : ∀ d ∈ tables_1, d.before a0 Z = true) (ws : List Jvm.Cond) (p1 : Int32) (w_INT : Addr) (w_TEXT : Addr) (w_DATE : Addr) (w_AVERAGE : Addr) (h0 : Heap) (n0 : Nat) (Z0 : n0 ≤ h0.size) (S_INT : Sta Z h0 "com/example/tallylock/tallylock/jdbc/ColumnType" "INT" "Lcom/example/tallylock/tallylock/jdbc/ColumnType;" (.ref w_INT)) (E_INT : Exa Z h0 w_INT "com/example/tallylock/tallylock/jdbc/ColumnType") (S_TEXT : Sta Z h0 "com/example/tallylock/tallylock/jdbc/ColumnType" "TEXT" "Lcom/example/tallylock/tallylock/jdbc/ColumnType;" (.ref w_TEXT)) (E_TEXT : Exa Z h0 w_TEXT "com/example/tallylock/tallylock/jdbc/ColumnType") (S_DATE : Sta Z h0 "com/example/tallylock/tallylock/jdbc/ColumnType" "DATE" "Lcom/example/tallylock/tallylock/jdbc/ColumnType;" (.ref w_DATE)) (E_DATE : Exa Z h0 w_DATE "com/example/tallylock/tallylock/jdbc/ColumnType") (S_AVERAGE : Sta Z h0 "com/example/tallylock/tallylock/jdbc/ColumnType" "AVERAGE" "Lcom/example/tallylock/tallylock/jdbc/ColumnType;" (.ref w_AVERAGE)) (E_AVERAGE : Exa Z h0 w_AVERAGE "com/example/tallylock/tallylock/jdbc/ColumnType") (F_INT_displaySize : Fld Z h0 w_INT "com/example/tallylock/tallylock/jdbc/ColumnType" "displaySize" "I" (.int (20 : Int32))) (F_INT_precision : Fld Z h0 w_INT "com/example/tallylock/tallylock/jdbc/ColumnType" "precision" "I" (.int (19 : Int32))) (F_INT_code : Fld Z h0 w_INT "com/example/tallylock/tallylock/jdbc/ColumnType" "code" "I" (.int (-5 : Int32))) (F_TEXT_displaySize : Fld Z h0 w_TEXT "com/example/tallylock/tallylock/jdbc/ColumnType" "displaySize" "I" (.int (2147483647 : Int32))) (F_TEXT_precision : Fld Z h0 w_TEXT "com/example/tallylock/tallylock/jdbc/ColumnType" "precision" "I" (.int (2147483647 : Int32))) (F_TEXT_code : Fld Z h0 w_TEXT "com/example/tallylock/tallylock/jdbc/ColumnType" "code" "I" (.int (12 : Int32))) (F_DATE_displaySize : Fld Z h0 w_DATE "com/example/tallylock/tallylock/jdbc/ColumnType" "displaySize" "I" (.int (10 : Int32))) (F_DATE_precision : Fld Z h0 w_DATE "com/example/tallylock/tallylock/jdbc/ColumnType" "precision" "I" (.int (10 : Int32))) (F_DATE_code : Fld Z h0 w_DATE "com/example/tallylock/tallylock/jdbc/ColumnType" "code" "I" (.int (91 : Int32))) (F_AVERAGE_displaySize : Fld Z h0 w_AVERAGE "com/example/tallylock/tallylock/jdbc/ColumnType" "displaySize" "I" (.int (23 : Int32))) (F_AVERAGE_precision : Fld Z h0 w_AVERAGE "com/example/tallylock/tallylock/jdbc/ColumnType" "precision" "I" (.int (21 : Int32))) (F_AVERAGE_code : Fld Z h0 w_AVERAGE "com/example/tallylock/tallylock/jdbc/ColumnType" "code" "I" (.int (3 : Int32))) (ne1 : ¬ w_TEXT = w_INT) (ne2 : ¬ w_TEXT = w_AVERAGE) (ne3 : ¬ w_DATE = w_INT) (ne4 : ¬ w_DATE = w_AVERAGE) (ne5 : ¬ w_AVERAGE = w_INT) (hp0 : ¬ (p1 &&& (3 : Int32)) = (0 : Int32)) (hp1 : ¬ (p1 &&& (3 : Int32)) = (1 : Int32)) (hp2 : ¬ (p1 &&& (3 : Int32)) = (2 : Int32)) (hk20 : (21 : Int32) < (23 : Int32)) (hk39 : ¬ ((3 : Int32) = (-5 : Int32))) (hk45 : (3 : Int32) = (3 : Int32)) (hk57 : (1 : Int32) = (1 : Int32)) (hk63 : (1 : Int32) = (1 : Int32)) :
    MetFree l x (head1 (Jvm.Cond.code x code maxLocals ret :: ws) room_1) (fun a U => a = #[(.int p1)] ∧ Z.Warmed39 U.vm ∧ U.heap = h0) (fun _ _ _ _ _ => True) (fun _ U o U' => ∃ v L, o = .returned v ∧ Q0 Z p1 h0 n0 v U'.heap L ∧ FrameEnd U o U' L room_1.cells room_1.slots) := by
  refine MetFree.of_bodySF (plainFor_of_name pn_0) hisR ?_
  intro p e s m args below meth c s₁ Bd hml0 hP hK
  obtain ⟨rfl, hZ, hh⟩ := hP
  have hx := Bd.exec
  have hby := Bd.bytes
  have hml : c.maxLocals = 6 := hml0
  have hown : s.vm.findClass "com/example/tallylock/tallylock/jdbc/ColumnTypeIsSignedPinLaw" = some m.cls := findClass_of_methodNamed Bd.named
  have hnm := (name_of_methodNamed Bd.named Bd.method).1
  have X0 : Stand p l e room_1 s m #[(.int p1)] below meth c s₁ [] 0 0 := Stand.of_body Bd
  have e0 : s₁.heap = h0 := by rw [← hh, Bd.state]; rfl
  have N0 := Fr.nil n0
  have pre0 : ∀ t, Steps p.tables e below (s₁.setTop (mkF m 0 #[.val (.int p1), .unset, .unset, .unset, .unset, .unset] [])) t → Steps p.tables e below (s₁.setTop (entryFrame m #[(.int p1)] maxLocals)) t := fun t k => castTop (ef_0 m p1) k
  obtain ⟨_, _, ⟨T2, L2, k2, n2⟩, -, X2, ⟨Lc2, hQ2, l2, y2, z2⟩, st2⟩ := Jvm.LawKit.callS X0 hx (y := (⟨"com/example/tallylock/tallylock/jdbc/ColumnTypeIsSignedPinLaw", "pick", "(I)Lcom/example/tallylock/tallylock/jdbc/ColumnType;"⟩ : MethodName)) hown (mvT hZ (hw _ (List.mem_of_getElem? (i := 0) rfl))) (mvT hZ (hw _ (List.mem_of_getElem? (i := 1) rfl))) (mvT hZ (hw _ (List.mem_of_getElem? (i := 2) rfl))) (mvT hZ (hw _ (List.mem_of_getElem? (i := 3) rfl))) (by decide) (backOf (W := 0) (rm1_ttt l Z a0 hw [] (p1 &&& (3 : Int32)) w_AVERAGE h0 n0 Z0 S_AVERAGE hp0 hp1 hp2) hZ (hw _ (List.mem_of_getElem? (i := 3) rfl)) (hw _ (List.mem_of_getElem? (i := 2) rfl)) (by decide) (by decide)) (g := (mkF m 3 #[.val (.int p1), .unset, .unset, .unset, .unset, .unset] [(.int (p1 &&& (3 : Int32)))])) rfl (by rw [hml]; rfl) (argsL := [(.int (p1 &&& (3 : Int32)))]) (rest := []) (lenOf pd_0_0 rfl) rfl (by show 2 * 0 + _ ≤ _; exact Nat.le_of_eq rfl) (hb hby at_3) (fun _ _ => ⟨rfl, e0, (by decide : 0 + 0 ≤ _), (by decide : 0 + 0 ≤ _)⟩)
  dsimp only [Pt.U, Pt.locs, Pt.cells, Pt.slots] at X2 l2 y2 z2 st2 hQ2
  subst l2 y2 z2
  obtain ⟨rfl, N2q, e2q⟩ := hQ2
  have N2 := Fr.app N0 N2q
  have Z2 : n0 ≤ T2.heap.size := by rw [e2q]; exact Z0
  have Kq2 : Keep h0 T2.heap [] := by rw [e2q]; exact Keep.refl _ _
  have eh2 : T2.heap = h0 := e2q
  obtain ⟨cq3, kq3, q3a, q3b, q3c⟩ := isOf hZ rfl (E_AVERAGE.keep Kq2)
  obtain ⟨_, _, ⟨T3, L3, k3, n3⟩, -, X3, ⟨Lc3, hQ3, l3, y3, z3⟩, st3⟩ := X2.virtualBack hx (y := (⟨"com/example/tallylock/tallylock/jdbc/ColumnType", "isSigned", "()Z"⟩ : MethodName)) (z := (⟨"com/example/tallylock/tallylock/jdbc/ColumnType", "isSigned", "()Z"⟩ : MethodName)) hown (mvT hZ (hw _ (List.mem_of_getElem? (i := 7) rfl))) (mvT hZ (hw _ (List.mem_of_getElem? (i := 8) rfl))) (notFace_of_selects (args := #[]) (mvT hZ (hw _ (List.mem_of_getElem? (i := 10) rfl)))) (mvT hZ (hw _ (List.mem_of_getElem? (i := 10) rfl))) (mvT hZ (hw _ (List.mem_of_getElem? (i := 9) rfl))) (by decide) (backOf (W := 0) (rm2_ff l Z a0 hw [] w_AVERAGE w_INT w_AVERAGE T2.heap n0 Z2 (by rw [eh2]; exact S_INT) (by rw [eh2]; exact S_AVERAGE) ne5 rfl) hZ (hw _ (List.mem_of_getElem? (i := 11) rfl)) (hw _ (List.mem_of_getElem? (i := 5) rfl)) (by decide) (by decide)) q3a q3c (g := (mkF m 8 #[.val (.int p1), .val (.ref w_AVERAGE), .unset, .unset, .unset, .unset] [(.ref w_AVERAGE)])) rfl (by rw [hml]; rfl) (Steps.refl _) (argsL := []) (rest := []) (lenOf pd_0_1 rfl) rfl (by show 2 * 0 + _ ≤ _; exact Nat.le_of_eq rfl) (hb hby at_8) (fun _ _ => ⟨rfl, rfl, (by decide : 0 + 0 ≤ _), (by decide : 0 + 0 ≤ _)⟩)
  dsimp only [Pt.U, Pt.locs, Pt.cells, Pt.slots] at X3 l3 y3 z3 st3 hQ3
  subst l3 y3 z3
  obtain ⟨rfl, N3q, e3q⟩ := hQ3
  have N3 := Fr.app N2 N3q
  have Z3 : n0 ≤ T3.heap.size := by rw [e3q]; exact Z2
  have Kq3 : Keep T2.heap T3.heap [] := by rw [e3q]; exact Keep.refl _ _
  have eh3 : T3.heap = h0 := e3q.trans eh2
  obtain ⟨cq4, kq4, q4a, q4b, q4c⟩ := isOf hZ rfl ((E_AVERAGE.keep Kq2).keep Kq3)
  obtain ⟨_, _, ⟨T4, L4, k4, n4⟩, -, X4, ⟨Lc4, hQ4, l4, y4, z4⟩, st4⟩ := X3.virtualBack hx (y := (⟨"com/example/tallylock/tallylock/jdbc/ColumnType", "displaySize", "()I"⟩ : MethodName)) (z := (⟨"com/example/tallylock/tallylock/jdbc/ColumnType", "displaySize", "()I"⟩ : MethodName)) hown (mvT hZ (hw _ (List.mem_of_getElem? (i := 13) rfl))) (mvT hZ (hw _ (List.mem_of_getElem? (i := 14) rfl))) (notFace_of_selects (args := #[]) (mvT hZ (hw _ (List.mem_of_getElem? (i := 16) rfl)))) (mvT hZ (hw _ (List.mem_of_getElem? (i := 16) rfl))) (mvT hZ (hw _ (List.mem_of_getElem? (i := 15) rfl))) (by decide) (backOf (W := 0) (rm3_x l Z a0 hw [] w_AVERAGE (23 : Int32) T3.heap n0 Z3 (by rw [eh3]; exact F_AVERAGE_displaySize)) hZ (hw _ (List.mem_of_getElem? (i := 17) rfl)) (hw _ (List.mem_of_getElem? (i := 5) rfl)) (by decide) (by decide)) q4a q4c (g := (mkF m 13 #[.val (.int p1), .val (.ref w_AVERAGE), .val (.int (1 : Int32)), .unset, .unset, .unset] [(.ref w_AVERAGE)])) rfl (by rw [hml]; rfl) (Steps.refl _) (argsL := []) (rest := []) (lenOf pd_0_2 rfl) rfl (by show 2 * 0 + _ ≤ _; exact Nat.le_of_eq rfl) (hb hby at_13) (fun _ _ => ⟨rfl, rfl, (by decide : 0 + 0 ≤ _), (by decide : 0 + 0 ≤ _)⟩)
  dsimp only [Pt.U, Pt.locs, Pt.cells, Pt.slots] at X4 l4 y4 z4 st4 hQ4
  subst l4 y4 z4
  obtain ⟨rfl, N4q, e4q⟩ := hQ4
  have N4 := Fr.app N3 N4q
  have Z4 : n0 ≤ T4.heap.size := by rw [e4q]; exact Z3
  have Kq4 : Keep T3.heap T4.heap [] := by rw [e4q]; exact Keep.refl _ _
  have eh4 : T4.heap = h0 := e4q.trans eh3
  obtain ⟨cq5, kq5, q5a, q5b, q5c⟩ := isOf hZ rfl (((E_AVERAGE.keep Kq2).keep Kq3).keep Kq4)
  obtain ⟨_, _, ⟨T5, L5, k5, n5⟩, -, X5, ⟨Lc5, hQ5, l5, y5, z5⟩, st5⟩ := X4.virtualBack hx (y := (⟨"com/example/tallylock/tallylock/jdbc/ColumnType", "precision", "()I"⟩ : MethodName)) (z := (⟨"com/example/tallylock/tallylock/jdbc/ColumnType", "precision", "()I"⟩ : MethodName)) hown (mvT hZ (hw _ (List.mem_of_getElem? (i := 20) rfl))) (mvT hZ (hw _ (List.mem_of_getElem? (i := 21) rfl))) (notFace_of_selects (args := #[]) (mvT hZ (hw _ (List.mem_of_getElem? (i := 23) rfl)))) (mvT hZ (hw _ (List.mem_of_getElem? (i := 23) rfl))) (mvT hZ (hw _ (List.mem_of_getElem? (i := 22) rfl))) (by decide) (backOf (W := 1) (rm4_x l Z a0 hw [] w_AVERAGE (21 : Int32) T4.heap n0 Z4 (by rw [eh4]; exact F_AVERAGE_precision)) hZ (hw _ (List.mem_of_getElem? (i := 24) rfl)) (hw _ (List.mem_of_getElem? (i := 5) rfl)) (by decide) (by decide)) q5a q5c (g := (mkF m 17 #[.val (.int p1), .val (.ref w_AVERAGE), .val (.int (1 : Int32)), .unset, .unset, .unset] [(.ref w_AVERAGE), (.int (23 : Int32))])) rfl (by rw [hml]; rfl) (Steps.refl _) (argsL := []) (rest := [(.int (23 : Int32))]) (lenOf pd_0_2 rfl) rfl (by show 2 * 0 + _ ≤ _; exact Nat.le_of_eq rfl) (hb hby at_17) (fun _ _ => ⟨rfl, rfl, (by decide : 0 + 0 ≤ _), (by decide : 0 + 0 ≤ _)⟩)
  dsimp only [Pt.U, Pt.locs, Pt.cells, Pt.slots] at X5 l5 y5 z5 st5 hQ5
  subst l5 y5 z5
  obtain ⟨rfl, N5q, e5q⟩ := hQ5
  have N5 := Fr.app N4 N5q
  have Z5 : n0 ≤ T5.heap.size := by rw [e5q]; exact Z4
  have Kq5 : Keep T4.heap T5.heap [] := by rw [e5q]; exact Keep.refl _ _
  have eh5 : T5.heap = h0 := e5q.trans eh4
  obtain ⟨cq6, kq6, q6a, q6b, q6c⟩ := isOf hZ rfl ((((E_AVERAGE.keep Kq2).keep Kq3).keep Kq4).keep Kq5)
  obtain ⟨_, _, ⟨T6, L6, k6, n6⟩, -, X6, ⟨Lc6, hQ6, l6, y6, z6⟩, st6⟩ := X5.virtualBack hx (y := (⟨"com/example/tallylock/tallylock/jdbc/ColumnType", "code", "()I"⟩ : MethodName)) (z := (⟨"com/example/tallylock/tallylock/jdbc/ColumnType", "code", "()I"⟩ : MethodName)) hown (mvT hZ (hw _ (List.mem_of_getElem? (i := 27) rfl))) (mvT hZ (hw _ (List.mem_of_getElem? (i := 28) rfl))) (notFace_of_selects (args := #[]) (mvT hZ (hw _ (List.mem_of_getElem? (i := 30) rfl)))) (mvT hZ (hw _ (List.mem_of_getElem? (i := 30) rfl))) (mvT hZ (hw _ (List.mem_of_getElem? (i := 29) rfl))) (by decide) (backOf (W := 0) (rm5_x l Z a0 hw [] w_AVERAGE (3 : Int32) T5.heap n0 Z5 (by rw [eh5]; exact F_AVERAGE_code)) hZ (hw _ (List.mem_of_getElem? (i := 31) rfl)) (hw _ (List.mem_of_getElem? (i := 5) rfl)) (by decide) (by decide)) q6a q6c (g := (mkF m 30 #[.val (.int p1), .val (.ref w_AVERAGE), .val (.int (1 : Int32)), .val (.int (1 : Int32)), .unset, .unset] [(.ref w_AVERAGE)])) rfl (by rw [hml]; rfl) (Steps.refl _) (argsL := []) (rest := []) (lenOf pd_0_2 rfl) rfl (by show 2 * 0 + _ ≤ _; exact Nat.le_of_eq rfl) (hb hby at_30) (fun _ _ => ⟨rfl, rfl, (by decide : 0 + 0 ≤ _), (by decide : 0 + 0 ≤ _)⟩)
  dsimp only [Pt.U, Pt.locs, Pt.cells, Pt.slots] at X6 l6 y6 z6 st6 hQ6
  subst l6 y6 z6
  obtain ⟨rfl, N6q, e6q⟩ := hQ6
  have N6 := Fr.app N5 N6q
  have Z6 : n0 ≤ T6.heap.size := by rw [e6q]; exact Z5
  have Kq6 : Keep T5.heap T6.heap [] := by rw [e6q]; exact Keep.refl _ _
  have eh6 : T6.heap = h0 := e6q.trans eh5
  obtain ⟨fs, hr, hrun, hended, hW, hsame⟩ := X6.leave (v := some (.int (1 : Int32))) (fun h => by rw [Bd.returns] at h; cases h) Bd.notSynchronized
  refine ⟨_, _, pre0 _ ?_, hrun, hended, _, _, rfl, ?_, ⟨_, rfl⟩, hW, hsame.mono (by decide) (by decide)⟩
  · show Steps p.tables e below (s₁.setTop (mkF m 0 #[.val (.int p1), .unset, .unset, .unset, .unset, .unset] [])) _
    refine XS.iloadN X0.here hx rfl (hb hby at_0) rfl ?_
    show Steps p.tables e below (s₁.setTop (mkF m 1 #[.val (.int p1), .unset, .unset, .unset, .unset, .unset] [(.int p1)])) _
    refine XS.iconst X0.here hx rfl (hb hby at_1) ?_
    show Steps p.tables e below (s₁.setTop (mkF m 2 #[.val (.int p1), .unset, .unset, .unset, .unset, .unset] [(.int (3 : Int32)), (.int p1)])) _
    refine XS.iand X0.here hx rfl (hb hby at_2) rfl ?_
    show Steps p.tables e below (s₁.setTop (mkF m 3 #[.val (.int p1), .unset, .unset, .unset, .unset, .unset] [(.int (p1 &&& (3 : Int32)))])) _
    refine st2 _ ?_
    show Steps p.tables e below (T2.setTop (mkF m 6 #[.val (.int p1), .unset, .unset, .unset, .unset, .unset] [(.ref w_AVERAGE)])) _
    refine XS.astoreN X2.here hx rfl (hb hby at_6) rfl rfl (l' := #[.val (.int p1), .val (.ref w_AVERAGE), .unset, .unset, .unset, .unset]) rfl ?_
    show Steps p.tables e below (T2.setTop (mkF m 7 #[.val (.int p1), .val (.ref w_AVERAGE), .unset, .unset, .unset, .unset] [])) _
    refine XS.aloadN X2.here hx rfl (hb hby at_7) rfl rfl ?_
    show Steps p.tables e below (T2.setTop (mkF m 8 #[.val (.int p1), .val (.ref w_AVERAGE), .unset, .unset, .unset, .unset] [(.ref w_AVERAGE)])) _
    refine st3.trans ?_
    show Steps p.tables e below (T3.setTop (mkF m 11 #[.val (.int p1), .val (.ref w_AVERAGE), .unset, .unset, .unset, .unset] [(.int (1 : Int32))])) _
    refine XS.istoreN X3.here hx rfl (hb hby at_11) rfl (l' := #[.val (.int p1), .val (.ref w_AVERAGE), .val (.int (1 : Int32)), .unset, .unset, .unset]) rfl ?_
    show Steps p.tables e below (T3.setTop (mkF m 12 #[.val (.int p1), .val (.ref w_AVERAGE), .val (.int (1 : Int32)), .unset, .unset, .unset] [])) _
    refine XS.aloadN X3.here hx rfl (hb hby at_12) rfl rfl ?_
    show Steps p.tables e below (T3.setTop (mkF m 13 #[.val (.int p1), .val (.ref w_AVERAGE), .val (.int (1 : Int32)), .unset, .unset, .unset] [(.ref w_AVERAGE)])) _
    refine st4.trans ?_
    show Steps p.tables e below (T4.setTop (mkF m 16 #[.val (.int p1), .val (.ref w_AVERAGE), .val (.int (1 : Int32)), .unset, .unset, .unset] [(.int (23 : Int32))])) _
    refine XS.aloadN X4.here hx rfl (hb hby at_16) rfl rfl ?_
    show Steps p.tables e below (T4.setTop (mkF m 17 #[.val (.int p1), .val (.ref w_AVERAGE), .val (.int (1 : Int32)), .unset, .unset, .unset] [(.ref w_AVERAGE), (.int (23 : Int32))])) _
    refine st5.trans ?_
    show Steps p.tables e below (T5.setTop (mkF m 20 #[.val (.int p1), .val (.ref w_AVERAGE), .val (.int (1 : Int32)), .unset, .unset, .unset] [(.int (21 : Int32)), (.int (23 : Int32))])) _
    refine XS.icmpNo X5.here hx rfl (hb hby at_20) rfl (tlt hk20).2.2.2 ?_
    show Steps p.tables e below (T5.setTop (mkF m 23 #[.val (.int p1), .val (.ref w_AVERAGE), .val (.int (1 : Int32)), .unset, .unset, .unset] [])) _
    refine XS.iconst X5.here hx rfl (hb hby at_23) ?_
    show Steps p.tables e below (T5.setTop (mkF m 24 #[.val (.int p1), .val (.ref w_AVERAGE), .val (.int (1 : Int32)), .unset, .unset, .unset] [(.int (1 : Int32))])) _
    refine XS.goto X5.here hx rfl (pc0 := 24) (pc' := 28) rfl (hb hby at_24) (by decide) (by decide) ?_
    show Steps p.tables e below (T5.setTop (mkF m 28 #[.val (.int p1), .val (.ref w_AVERAGE), .val (.int (1 : Int32)), .unset, .unset, .unset] [(.int (1 : Int32))])) _
    refine XS.istoreN X5.here hx rfl (hb hby at_28) rfl (l' := #[.val (.int p1), .val (.ref w_AVERAGE), .val (.int (1 : Int32)), .val (.int (1 : Int32)), .unset, .unset]) rfl ?_
    show Steps p.tables e below (T5.setTop (mkF m 29 #[.val (.int p1), .val (.ref w_AVERAGE), .val (.int (1 : Int32)), .val (.int (1 : Int32)), .unset, .unset] [])) _
    refine XS.aloadN X5.here hx rfl (hb hby at_29) rfl rfl ?_
    show Steps p.tables e below (T5.setTop (mkF m 30 #[.val (.int p1), .val (.ref w_AVERAGE), .val (.int (1 : Int32)), .val (.int (1 : Int32)), .unset, .unset] [(.ref w_AVERAGE)])) _
    refine st6.trans ?_
    show Steps p.tables e below (T6.setTop (mkF m 33 #[.val (.int p1), .val (.ref w_AVERAGE), .val (.int (1 : Int32)), .val (.int (1 : Int32)), .unset, .unset] [(.int (3 : Int32))])) _
    refine XS.istore X6.here hx rfl (hb hby at_33) rfl (l' := #[.val (.int p1), .val (.ref w_AVERAGE), .val (.int (1 : Int32)), .val (.int (1 : Int32)), .val (.int (3 : Int32)), .unset]) rfl ?_
    show Steps p.tables e below (T6.setTop (mkF m 35 #[.val (.int p1), .val (.ref w_AVERAGE), .val (.int (1 : Int32)), .val (.int (1 : Int32)), .val (.int (3 : Int32)), .unset] [])) _
    refine XS.iload X6.here hx rfl (hb hby at_35) rfl ?_
    show Steps p.tables e below (T6.setTop (mkF m 37 #[.val (.int p1), .val (.ref w_AVERAGE), .val (.int (1 : Int32)), .val (.int (1 : Int32)), .val (.int (3 : Int32)), .unset] [(.int (3 : Int32))])) _
    refine XS.bipush X6.here hx rfl (hb hby at_37) ?_
    show Steps p.tables e below (T6.setTop (mkF m 39 #[.val (.int p1), .val (.ref w_AVERAGE), .val (.int (1 : Int32)), .val (.int (1 : Int32)), .val (.int (3 : Int32)), .unset] [(.int (-5 : Int32)), (.int (3 : Int32))])) _
    refine XS.icmpNo X6.here hx rfl (hb hby at_39) rfl (feq hk39).1 ?_
    show Steps p.tables e below (T6.setTop (mkF m 42 #[.val (.int p1), .val (.ref w_AVERAGE), .val (.int (1 : Int32)), .val (.int (1 : Int32)), .val (.int (3 : Int32)), .unset] [])) _
    refine XS.iload X6.here hx rfl (hb hby at_42) rfl ?_
    show Steps p.tables e below (T6.setTop (mkF m 44 #[.val (.int p1), .val (.ref w_AVERAGE), .val (.int (1 : Int32)), .val (.int (1 : Int32)), .val (.int (3 : Int32)), .unset] [(.int (3 : Int32))])) _
    refine XS.iconst X6.here hx rfl (hb hby at_44) ?_
    show Steps p.tables e below (T6.setTop (mkF m 45 #[.val (.int p1), .val (.ref w_AVERAGE), .val (.int (1 : Int32)), .val (.int (1 : Int32)), .val (.int (3 : Int32)), .unset] [(.int (3 : Int32)), (.int (3 : Int32))])) _
    refine XS.icmpNo X6.here hx rfl (hb hby at_45) rfl (teq hk45).2 ?_
    show Steps p.tables e below (T6.setTop (mkF m 48 #[.val (.int p1), .val (.ref w_AVERAGE), .val (.int (1 : Int32)), .val (.int (1 : Int32)), .val (.int (3 : Int32)), .unset] [])) _
    refine XS.iconst X6.here hx rfl (hb hby at_48) ?_
    show Steps p.tables e below (T6.setTop (mkF m 49 #[.val (.int p1), .val (.ref w_AVERAGE), .val (.int (1 : Int32)), .val (.int (1 : Int32)), .val (.int (3 : Int32)), .unset] [(.int (1 : Int32))])) _
    refine XS.goto X6.here hx rfl (pc0 := 49) (pc' := 53) rfl (hb hby at_49) (by decide) (by decide) ?_
    show Steps p.tables e below (T6.setTop (mkF m 53 #[.val (.int p1), .val (.ref w_AVERAGE), .val (.int (1 : Int32)), .val (.int (1 : Int32)), .val (.int (3 : Int32)), .unset] [(.int (1 : Int32))])) _
    refine XS.istore X6.here hx rfl (hb hby at_53) rfl (l' := #[.val (.int p1), .val (.ref w_AVERAGE), .val (.int (1 : Int32)), .val (.int (1 : Int32)), .val (.int (3 : Int32)), .val (.int (1 : Int32))]) rfl ?_
    show Steps p.tables e below (T6.setTop (mkF m 55 #[.val (.int p1), .val (.ref w_AVERAGE), .val (.int (1 : Int32)), .val (.int (1 : Int32)), .val (.int (3 : Int32)), .val (.int (1 : Int32))] [])) _
    refine XS.iloadN X6.here hx rfl (hb hby at_55) rfl ?_
    show Steps p.tables e below (T6.setTop (mkF m 56 #[.val (.int p1), .val (.ref w_AVERAGE), .val (.int (1 : Int32)), .val (.int (1 : Int32)), .val (.int (3 : Int32)), .val (.int (1 : Int32))] [(.int (1 : Int32))])) _
    refine XS.iloadN X6.here hx rfl (hb hby at_56) rfl ?_
    show Steps p.tables e below (T6.setTop (mkF m 57 #[.val (.int p1), .val (.ref w_AVERAGE), .val (.int (1 : Int32)), .val (.int (1 : Int32)), .val (.int (3 : Int32)), .val (.int (1 : Int32))] [(.int (1 : Int32)), (.int (1 : Int32))])) _
    refine XS.icmpNo X6.here hx rfl (hb hby at_57) rfl (teq hk57).2 ?_
    show Steps p.tables e below (T6.setTop (mkF m 60 #[.val (.int p1), .val (.ref w_AVERAGE), .val (.int (1 : Int32)), .val (.int (1 : Int32)), .val (.int (3 : Int32)), .val (.int (1 : Int32))] [])) _
    refine XS.iloadN X6.here hx rfl (hb hby at_60) rfl ?_
    show Steps p.tables e below (T6.setTop (mkF m 61 #[.val (.int p1), .val (.ref w_AVERAGE), .val (.int (1 : Int32)), .val (.int (1 : Int32)), .val (.int (3 : Int32)), .val (.int (1 : Int32))] [(.int (1 : Int32))])) _
    refine XS.iload X6.here hx rfl (hb hby at_61) rfl ?_
    show Steps p.tables e below (T6.setTop (mkF m 63 #[.val (.int p1), .val (.ref w_AVERAGE), .val (.int (1 : Int32)), .val (.int (1 : Int32)), .val (.int (3 : Int32)), .val (.int (1 : Int32))] [(.int (1 : Int32)), (.int (1 : Int32))])) _
    refine XS.icmpNo X6.here hx rfl (hb hby at_63) rfl (teq hk63).2 ?_
    show Steps p.tables e below (T6.setTop (mkF m 66 #[.val (.int p1), .val (.ref w_AVERAGE), .val (.int (1 : Int32)), .val (.int (1 : Int32)), .val (.int (3 : Int32)), .val (.int (1 : Int32))] [])) _
    refine XS.iconst X6.here hx rfl (hb hby at_66) ?_
    show Steps p.tables e below (T6.setTop (mkF m 67 #[.val (.int p1), .val (.ref w_AVERAGE), .val (.int (1 : Int32)), .val (.int (1 : Int32)), .val (.int (3 : Int32)), .val (.int (1 : Int32))] [(.int (1 : Int32))])) _
    refine XS.goto X6.here hx rfl (pc0 := 67) (pc' := 71) rfl (hb hby at_67) (by decide) (by decide) ?_
    show Steps p.tables e below (T6.setTop (mkF m 71 #[.val (.int p1), .val (.ref w_AVERAGE), .val (.int (1 : Int32)), .val (.int (1 : Int32)), .val (.int (3 : Int32)), .val (.int (1 : Int32))] [(.int (1 : Int32))])) _
    exact retN X6 hx (t := .boolean) Bd.returns (by simp) (hb hby at_71) hr
  · show Q0 Z p1 h0 n0 _ T6.heap _
    exact ⟨rfl, N6⟩
theorem rm0 (l : Launch) (Z : State) (a0 : Array Value) (hw : ∀ d ∈ tables_1, d.before a0 Z = true) (ws : List Jvm.Cond) (p1 : Int32) (w_INT : Addr) (w_TEXT : Addr) (w_DATE : Addr) (w_AVERAGE : Addr) (h0 : Heap) (n0 : Nat) (Z0 : n0 ≤ h0.size) (S_INT : Sta Z h0 "com/example/tallylock/tallylock/jdbc/ColumnType" "INT" "Lcom/example/tallylock/tallylock/jdbc/ColumnType;" (.ref w_INT)) (E_INT : Exa Z h0 w_INT "com/example/tallylock/tallylock/jdbc/ColumnType") (S_TEXT : Sta Z h0 "com/example/tallylock/tallylock/jdbc/ColumnType" "TEXT" "Lcom/example/tallylock/tallylock/jdbc/ColumnType;" (.ref w_TEXT)) (E_TEXT : Exa Z h0 w_TEXT "com/example/tallylock/tallylock/jdbc/ColumnType") (S_DATE : Sta Z h0 "com/example/tallylock/tallylock/jdbc/ColumnType" "DATE" "Lcom/example/tallylock/tallylock/jdbc/ColumnType;" (.ref w_DATE)) (E_DATE : Exa Z h0 w_DATE "com/example/tallylock/tallylock/jdbc/ColumnType") (S_AVERAGE : Sta Z h0 "com/example/tallylock/tallylock/jdbc/ColumnType" "AVERAGE" "Lcom/example/tallylock/tallylock/jdbc/ColumnType;" (.ref w_AVERAGE)) (E_AVERAGE : Exa Z h0 w_AVERAGE "com/example/tallylock/tallylock/jdbc/ColumnType") (F_INT_displaySize : Fld Z h0 w_INT "com/example/tallylock/tallylock/jdbc/ColumnType" "displaySize" "I" (.int (20 : Int32))) (F_INT_precision : Fld Z h0 w_INT "com/example/tallylock/tallylock/jdbc/ColumnType" "precision" "I" (.int (19 : Int32))) (F_INT_code : Fld Z h0 w_INT "com/example/tallylock/tallylock/jdbc/ColumnType" "code" "I" (.int (-5 : Int32))) (F_TEXT_displaySize : Fld Z h0 w_TEXT "com/example/tallylock/tallylock/jdbc/ColumnType" "displaySize" "I" (.int (2147483647 : Int32))) (F_TEXT_precision : Fld Z h0 w_TEXT "com/example/tallylock/tallylock/jdbc/ColumnType" "precision" "I" (.int (2147483647 : Int32))) (F_TEXT_code : Fld Z h0 w_TEXT "com/example/tallylock/tallylock/jdbc/ColumnType" "code" "I" (.int (12 : Int32))) (F_DATE_displaySize : Fld Z h0 w_DATE "com/example/tallylock/tallylock/jdbc/ColumnType" "displaySize" "I" (.int (10 : Int32))) (F_DATE_precision : Fld Z h0 w_DATE "com/example/tallylock/tallylock/jdbc/ColumnType" "precision" "I" (.int (10 : Int32))) (F_DATE_code : Fld Z h0 w_DATE "com/example/tallylock/tallylock/jdbc/ColumnType" "code" "I" (.int (91 : Int32))) (F_AVERAGE_displaySize : Fld Z h0 w_AVERAGE "com/example/tallylock/tallylock/jdbc/ColumnType" "displaySize" "I" (.int (23 : Int32))) (F_AVERAGE_precision : Fld Z h0 w_AVERAGE "com/example/tallylock/tallylock/jdbc/ColumnType" "precision" "I" (.int (21 : Int32))) (F_AVERAGE_code : Fld Z h0 w_AVERAGE "com/example/tallylock/tallylock/jdbc/ColumnType" "code" "I" (.int (3 : Int32))) (ne1 : ¬ w_TEXT = w_INT) (ne2 : ¬ w_TEXT = w_AVERAGE) (ne3 : ¬ w_DATE = w_INT) (ne4 : ¬ w_DATE = w_AVERAGE) (ne5 : ¬ w_AVERAGE = w_INT) :
    MetFree l x (head1 (Jvm.Cond.code x code maxLocals ret :: ws) room_1) (fun a U => a = #[(.int p1)] ∧ Z.Warmed39 U.vm ∧ U.heap = h0) (fun _ _ _ _ _ => True) (fun _ U o U' => ∃ v L, o = .returned v ∧ Q0 Z p1 h0 n0 v U'.heap L ∧ FrameEnd U o U' L room_1.cells room_1.slots) := by
  by_cases a : (p1 &&& (3 : Int32)) = (0 : Int32)
  · exact rm0_INT l Z a0 hw ws p1 w_INT w_TEXT w_DATE w_AVERAGE h0 n0 Z0 S_INT E_INT S_TEXT E_TEXT S_DATE E_DATE S_AVERAGE E_AVERAGE F_INT_displaySize F_INT_precision F_INT_code F_TEXT_displaySize F_TEXT_precision F_TEXT_code F_DATE_displaySize F_DATE_precision F_DATE_code F_AVERAGE_displaySize F_AVERAGE_precision F_AVERAGE_code ne1 ne2 ne3 ne4 ne5 a (hk20 := by decide) (hk39 := by decide) (hk57 := by decide) (hk63 := by decide)
  by_cases b : (p1 &&& (3 : Int32)) = (1 : Int32)
  · exact rm0_TEXT l Z a0 hw ws p1 w_INT w_TEXT w_DATE w_AVERAGE h0 n0 Z0 S_INT E_INT S_TEXT E_TEXT S_DATE E_DATE S_AVERAGE E_AVERAGE F_INT_displaySize F_INT_precision F_INT_code F_TEXT_displaySize F_TEXT_precision F_TEXT_code F_DATE_displaySize F_DATE_precision F_DATE_code F_AVERAGE_displaySize F_AVERAGE_precision F_AVERAGE_code ne1 ne2 ne3 ne4 ne5 a b (hk20 := by decide) (hk39 := by decide) (hk45 := by decide) (hk57 := by decide) (hk63 := by decide)
  by_cases d : (p1 &&& (3 : Int32)) = (2 : Int32)
  · exact rm0_DATE l Z a0 hw ws p1 w_INT w_TEXT w_DATE w_AVERAGE h0 n0 Z0 S_INT E_INT S_TEXT E_TEXT S_DATE E_DATE S_AVERAGE E_AVERAGE F_INT_displaySize F_INT_precision F_INT_code F_TEXT_displaySize F_TEXT_precision F_TEXT_code F_DATE_displaySize F_DATE_precision F_DATE_code F_AVERAGE_displaySize F_AVERAGE_precision F_AVERAGE_code ne1 ne2 ne3 ne4 ne5 a b d (hk20 := by decide) (hk39 := by decide) (hk45 := by decide) (hk57 := by decide) (hk63 := by decide)
  exact rm0_AVERAGE l Z a0 hw ws p1 w_INT w_TEXT w_DATE w_AVERAGE h0 n0 Z0 S_INT E_INT S_TEXT E_TEXT S_DATE E_DATE S_AVERAGE E_AVERAGE F_INT_displaySize F_INT_precision F_INT_code F_TEXT_displaySize F_TEXT_precision F_TEXT_code F_DATE_displaySize F_DATE_precision F_DATE_code F_AVERAGE_displaySize F_AVERAGE_precision F_AVERAGE_code ne1 ne2 ne3 ne4 ne5 a b d (hk20 := by decide) (hk39 := by decide) (hk45 := by decide) (hk57 := by decide) (hk63 := by decide)
theorem own_fe {Z : State} {args : Array Value} {t : Term} {a : Addr} {C n d : String} {k : Int32} (ev : t.eval args Z none [] Z = some (.ref a)) (h : (Jvm.Cond.eq (.field t C n d) (.int k)).value args Z none Z [] = some true) : Fld Z Z.heap a C n d (.int k) := by
  obtain ⟨x, y, ex, ey, kin, -⟩ := cmp_v (Or.inl h)
  have hy : y = .int k := by rw [Term.int_eval] at ey; exact (Option.some.inj ey).symm
  subst hy
  have hx : x = .int k := by
    cases x <;> simp [Kin, Value.isRef] at kin
    rename_i z
    simp only [Cond.value, ex, ey] at h
    have q : z = k := by simpa using h
    rw [q]
  rw [fld_at ev, hx] at ex
  exact Fld.start ex
theorem own_fr {Z : State} {args : Array Value} {t u : Term} {a b : Addr} {C n d : String} (ev : t.eval args Z none [] Z = some (.ref a)) (eu : u.eval args Z none [] Z = some (.ref b)) (h : (Jvm.Cond.eq (.field t C n d) u).value args Z none Z [] = some true) : Fld Z Z.heap a C n d (.ref b) := by
  obtain ⟨x, y, ex, ey, kin, -⟩ := cmp_v (Or.inl h)
  have hy : y = .ref b := by rw [eu] at ey; exact (Option.some.inj ey).symm
  subst hy
  have hx : x = .ref b := by
    have q := gotT (eq_R ex eu (by cases x <;> simp [Kin, Value.isRef] at kin ⊢) rfl) h
    exact q
  rw [fld_at ev, hx] at ex
  exact Fld.start ex
set_option maxRecDepth 65536 in
set_option maxHeartbeats 40000000 in
theorem comes_1 {Post : Tables → Env → Array Value → State → Outcome → State → Prop} (hpost : ∀ tb e args s v u, (limb_1_1.after args s (.returned v) u = true ∧ limb_1_2.after args s (.returned v) u = true ∧ True) → FrameEnd s (.returned v) u (Jvm.fieldLocs frame_1_writes args s ++ Jvm.arrayLocs frame_1_arrays args s ++ Jvm.staticLocs frame_1_statics s) 0 0 → Post tb e args s (.returned v) u) :
    ArmFor flags0 classFile x code maxLocals ret World_1 tables_1 room_1 Calls_1 rest_1 Pre_1 Post := by
  intro l hfl _ _ p e ha hc hk s m args below hf hA hF happ hP
  obtain ⟨hcalls, hrest, hpre⟩ := hP
  obtain ⟨-, -, -, hnamed, -, -, -, hat⟩ := (Spec.applies_iff hf).mp happ
  obtain ⟨hg, hn⟩ := and_e (Cond.before_iff.mp (show (Jvm.Cond.and given_1 narrow_1).before args s = true from hpre))
  obtain ⟨g7, g8⟩ := and_e hg
  obtain ⟨w0, rfl⟩ : ∃ w0 : Value, args = #[w0] := by
    have hs : args.size = 1 := by simpa [Cond.value, given_1] using g7
    obtain ⟨L⟩ := args
    match L, hs with
    | [w0], _ => exact ⟨w0, rfl⟩
  have hw := fun d (hd : d ∈ tables_1) => atoms_spec (ws := Jvm.Cond.code x code maxLocals ret :: tables_1) hat d (List.mem_cons_of_mem _ hd)
  have hfit : Fit s := fun {y c} hc i hi => by
    obtain ⟨ha, rfl⟩ := Array.getElem?_eq_some_iff.mp hc
    have q := List.all_eq_true.mp ((Array.all_eq_true_iff_forall_mem.mp hF) _ (Array.getElem_mem ha)) i (List.mem_range.mpr hi)
    simpa [Array.getElem?_eq_getElem hi] using q
  obtain ⟨i0, ei0⟩ := is_v g8
  obtain rfl : w0 = (.int i0) := Option.some.inj ei0
  obtain ⟨c_0, r_0⟩ := and_e hn
  obtain ⟨c_1, r_1⟩ := and_e r_0
  obtain ⟨c_2, r_2⟩ := and_e r_1
  obtain ⟨c_3, r_3⟩ := and_e r_2
  obtain ⟨c_4, r_4⟩ := and_e r_3
  obtain ⟨c_5, r_5⟩ := and_e r_4
  obtain ⟨c_6, r_6⟩ := and_e r_5
  obtain ⟨c_7, r_7⟩ := and_e r_6
  obtain ⟨c_8, r_8⟩ := and_e r_7
  obtain ⟨c_9, r_9⟩ := and_e r_8
  obtain ⟨c_10, r_10⟩ := and_e r_9
  obtain ⟨c_11, r_11⟩ := and_e r_10
  obtain ⟨c_12, r_12⟩ := and_e r_11
  obtain ⟨c_13, r_13⟩ := and_e r_12
  obtain ⟨c_14, r_14⟩ := and_e r_13
  obtain ⟨c_15, r_15⟩ := and_e r_14
  obtain ⟨c_16, r_16⟩ := and_e r_15
  obtain ⟨c_17, r_17⟩ := and_e r_16
  obtain ⟨c_18, r_18⟩ := and_e r_17
  obtain ⟨w_INT, v_INT⟩ := exa_v c_0
  have S_INT := Sta.start v_INT (Or.inr ⟨(hw _ (List.mem_of_getElem? (i := 5) rfl)), (hw _ (List.mem_of_getElem? (i := 6) rfl))⟩)
  have E_INT := Exa.start v_INT c_0
  obtain ⟨w_AVERAGE, v_AVERAGE⟩ := exa_v c_4
  have S_AVERAGE := Sta.start v_AVERAGE (Or.inr ⟨(hw _ (List.mem_of_getElem? (i := 5) rfl)), (hw _ (List.mem_of_getElem? (i := 35) rfl))⟩)
  have E_AVERAGE := Exa.start v_AVERAGE c_4
  obtain ⟨w_DATE, v_DATE⟩ := exa_v c_10
  have S_DATE := Sta.start v_DATE (Or.inr ⟨(hw _ (List.mem_of_getElem? (i := 5) rfl)), (hw _ (List.mem_of_getElem? (i := 38) rfl))⟩)
  have E_DATE := Exa.start v_DATE c_10
  obtain ⟨w_TEXT, v_TEXT⟩ := exa_v c_15
  have S_TEXT := Sta.start v_TEXT (Or.inr ⟨(hw _ (List.mem_of_getElem? (i := 5) rfl)), (hw _ (List.mem_of_getElem? (i := 40) rfl))⟩)
  have E_TEXT := Exa.start v_TEXT c_15
  have F_INT_displaySize := own_fe v_INT c_1
  have F_INT_precision := own_fe v_INT c_2
  have F_INT_code := own_fe v_INT c_3
  have F_AVERAGE_ordinal := own_fe v_AVERAGE c_5
  have F_INT_ordinal := own_fe v_INT c_6
  have F_AVERAGE_displaySize := own_fe v_AVERAGE c_7
  have F_AVERAGE_precision := own_fe v_AVERAGE c_8
  have F_AVERAGE_code := own_fe v_AVERAGE c_9
  have F_DATE_ordinal := own_fe v_DATE c_11
  have F_DATE_displaySize := own_fe v_DATE c_12
  have F_DATE_precision := own_fe v_DATE c_13
  have F_DATE_code := own_fe v_DATE c_14
  have F_TEXT_ordinal := own_fe v_TEXT c_16
  have F_TEXT_displaySize := own_fe v_TEXT c_17
  have F_TEXT_precision := own_fe v_TEXT c_18
  have F_TEXT_code := own_fe v_TEXT r_18
  obtain ⟨n, o, h1, h2, h3, _, L, rfl, ⟨rfl, N⟩, hq⟩ := rm0 l s _ hw tables_1 i0 w_INT w_TEXT w_DATE w_AVERAGE s.heap s.heap.size (Nat.le_refl _) S_INT E_INT S_TEXT E_TEXT S_DATE E_DATE S_AVERAGE E_AVERAGE F_INT_displaySize F_INT_precision F_INT_code F_TEXT_displaySize F_TEXT_precision F_TEXT_code F_DATE_displaySize F_DATE_precision F_DATE_code F_AVERAGE_displaySize F_AVERAGE_precision F_AVERAGE_code (F_TEXT_ordinal.ne F_INT_ordinal (by simp)) (F_TEXT_ordinal.ne F_AVERAGE_ordinal (by simp)) (F_DATE_ordinal.ne F_INT_ordinal (by simp)) (F_DATE_ordinal.ne F_AVERAGE_ordinal (by simp)) (F_AVERAGE_ordinal.ne F_INT_ordinal (by simp)) p e ha hc hk s m _ below hf ((Spec.applies_iff_loose hf).mp happ).1 ⟨rfl, State.Warmed39.refl s, rfl⟩ trivial
  refine ⟨n, _, h1, h2, h3, hpost _ _ _ _ _ _ ⟨Cond.after_iff.mpr rfl, Cond.after_iff.mpr (eq_i res_at (Term.int_eval (1)) rfl), trivial⟩ ⟨hq.1, hq.2.1, (hq.2.2.sift fun y hy => Or.inr (N y hy)).mono (by decide) (by decide)⟩⟩
theorem main_1_1 : Claimed_1_1 := comes_1 fun _ _ _ _ _ _ h hF => ⟨h.1, hF⟩
theorem main_1_2 : Claimed_1_2 := comes_1 fun _ _ _ _ _ _ h hF => ⟨h.2.1, hF⟩

end Jvm.Pilot.@@N@@
namespace Jvm.Pilot.@@N@@
open Jvm Jvm.ClassFile Sem Op Lib Jvm.Free Jvm.Stand Jvm.Pilot.@@N@@.Jvm.D
/-! MADE BY PROGRAM (witnessworld.py) out of the Statement's table words and the real class files: 12 classes; the members and pool entries that the words name. The judged class is class 1, her method 2. -/
namespace start1
open Jvm.ClassFile
def u (s : String) : CpInfo := .utf8 (stringToUtf16 s)
/-- a pool by its gaps: so many unusable entries, then the entry; so many at the end -/
def gap : Nat → List CpInfo → List CpInfo
  | 0, r => r
  | n + 1, r => .unusable :: gap n r
def poolList (es : List (Nat × CpInfo)) (last : Nat) : List CpInfo := es.foldr (fun e r => gap e.1 (e.2 :: r)) (gap last [])
def pool (es : List (Nat × CpInfo)) (last : Nat) : Array CpInfo := ⟨poolList es last⟩
def fileOf (pool : Array CpInfo) (this : Nat) (attrs : Array Attribute := #[]) (ms : Array MethodInfo := #[]) (fl : Nat := 33) (sup : Nat := 0) (ifs : Array Nat := #[]) (fds : Array FieldInfo := #[]) : ClassFile where
  minorVersion := 0
  majorVersion := 65
  constantPool := pool
  accessFlags := fl
  thisClass := this
  superClass := sup
  interfaces := ifs
  fields := fds
  methods := ms
  attributes := attrs
def plain (name : String) (sup : Option ClassId) : Class where
  name := name
  kind := .ordinary
  loader := none
  accessFlags := 33
  super := sup
  interfaces := #[]
  cf := none
  fields := #[]
  methods := #[]
  instanceTypes := #[]
  staticTypes := #[]
  resolved := #[]
  callSites := []
  init := .initialized
  statics := none
  mirror := none

def pool0 : Array CpInfo := pool [(5, u "<init>"), (0, u "()V"), (1, .class_ 10), (1, u "java/lang/Object")] 113

def k0m0 : Method := { name := "<init>", desc := "()V", sig := { parameters := [], returnType := none }, accessFlags := 1, code := none }
/-- java/lang/Object -/
def k0 : Class := { plain "java/lang/Object" none with
  accessFlags := 33
  interfaces := #[]
  cf := some (fileOf pool0 8 #[] #[{ accessFlags := 1, nameIndex := 5, descriptorIndex := 6, attributes := #[] }] 33 0 #[] #[])
  fields := #[]
  methods := #[k0m0]
  instanceTypes := #[]
  staticTypes := #[]
  resolved := Array.replicate 124 none
  statics := none }

def pool1 : Array CpInfo := pool [(2, .class_ 4), (1, u "java/lang/Object"), (0, u "<init>"), (0, u "()V"), (0, .fieldref 8 9), (0, .class_ 10), (0, .nameAndType 11 12), (0, u "com/example/tallylock/tallylock/jdbc/ColumnType"), (0, u "INT"), (0, u "Lcom/example/tallylock/tallylock/jdbc/ColumnType;"), (0, .fieldref 8 14), (0, .nameAndType 15 12), (0, u "TEXT"), (0, .fieldref 8 17), (0, .nameAndType 18 12), (0, u "DATE"), (0, .fieldref 8 20), (0, .nameAndType 21 12), (0, u "AVERAGE"), (0, .methodref 23 24), (0, .class_ 25), (0, .nameAndType 26 27), (0, u "com/example/tallylock/tallylock/jdbc/ColumnTypeIsSignedPinLaw"), (0, u "pick"), (0, u "(I)Lcom/example/tallylock/tallylock/jdbc/ColumnType;"), (0, .methodref 8 29), (0, .nameAndType 30 31), (0, u "isSigned"), (0, u "()Z"), (0, .methodref 8 33), (0, .nameAndType 34 35), (0, u "displaySize"), (0, u "()I"), (0, .methodref 8 37), (0, .nameAndType 38 35), (0, u "precision"), (0, .methodref 8 40), (0, .nameAndType 41 35), (0, u "code"), (3, u "law"), (0, u "(I)Z")] 2

def k1m0 : Method := { name := "<init>", desc := "()V", sig := { parameters := [], returnType := none }, accessFlags := 2, code := none }
def k1c1 : Code := { maxStack := 2, maxLocals := 1, code := method_2_code, exceptionTable := #[], attributes := #[] }
def k1m1 : Method := { name := "pick", desc := "(I)Lcom/example/tallylock/tallylock/jdbc/ColumnType;", sig := { parameters := [.int], returnType := some (.object "com/example/tallylock/tallylock/jdbc/ColumnType") }, accessFlags := 10, code := some k1c1 }
def k1c2 : Code := { maxStack := 2, maxLocals := 6, code := code, exceptionTable := #[], attributes := #[] }
def k1m2 : Method := { name := "law", desc := "(I)Z", sig := { parameters := [.int], returnType := some .boolean }, accessFlags := 9, code := some k1c2 }
/-- com/example/tallylock/tallylock/jdbc/ColumnTypeIsSignedPinLaw -/
def k1 : Class := { plain "com/example/tallylock/tallylock/jdbc/ColumnTypeIsSignedPinLaw" (some 0) with
  accessFlags := 49
  interfaces := #[]
  cf := some (fileOf pool1 23 #[] #[{ accessFlags := 2, nameIndex := 5, descriptorIndex := 6, attributes := #[] }, { accessFlags := 10, nameIndex := 26, descriptorIndex := 27, attributes := #[] }, { accessFlags := 9, nameIndex := 45, descriptorIndex := 46, attributes := #[] }] 49 2 #[] #[])
  fields := #[]
  methods := #[k1m0, k1m1, k1m2]
  instanceTypes := #[]
  staticTypes := #[]
  resolved := Array.replicate 49 none
  statics := none }

def pool2 : Array CpInfo := pool [(1, .class_ 2), (0, u "java/lang/constant/Constable"), (0, .class_ 4), (0, u "java/lang/Object")] 6

/-- java/lang/constant/Constable -/
def k2 : Class := { plain "java/lang/constant/Constable" (some 0) with
  accessFlags := 1537
  interfaces := #[]
  cf := some (fileOf pool2 1 #[] #[] 1537 3 #[] #[])
  fields := #[]
  methods := #[]
  instanceTypes := #[]
  staticTypes := #[]
  resolved := Array.replicate 11 none
  statics := none }

def pool3 : Array CpInfo := pool [(1, .class_ 2), (0, u "java/lang/Comparable"), (0, .class_ 4), (0, u "java/lang/Object")] 7

/-- java/lang/Comparable -/
def k3 : Class := { plain "java/lang/Comparable" (some 0) with
  accessFlags := 1537
  interfaces := #[]
  cf := some (fileOf pool3 1 #[] #[] 1537 3 #[] #[])
  fields := #[]
  methods := #[]
  instanceTypes := #[]
  staticTypes := #[]
  resolved := Array.replicate 12 none
  statics := none }

def pool4 : Array CpInfo := pool [(1, .class_ 2), (0, u "java/io/Serializable"), (0, .class_ 4), (0, u "java/lang/Object")] 2

/-- java/io/Serializable -/
def k4 : Class := { plain "java/io/Serializable" (some 0) with
  accessFlags := 1537
  interfaces := #[]
  cf := some (fileOf pool4 1 #[] #[] 1537 3 #[] #[])
  fields := #[]
  methods := #[]
  instanceTypes := #[]
  staticTypes := #[]
  resolved := Array.replicate 7 none
  statics := none }

def pool5 : Array CpInfo := pool [(2, .class_ 4), (1, u "java/lang/Enum"), (0, u "name"), (0, u "Ljava/lang/String;"), (2, u "ordinal"), (0, u "I"), (1, .class_ 14), (1, u "java/lang/Object"), (4, u "hash"), (86, .class_ 108), (1, u "java/lang/Enum$EnumDesc"), (2, .class_ 112), (0, u "java/lang/constant/Constable"), (0, .class_ 114), (0, u "java/lang/Comparable"), (0, .class_ 116), (0, u "java/io/Serializable")] 87

/-- java/lang/Enum -/
def k5 : Class := { plain "java/lang/Enum" (some 0) with
  accessFlags := 1057
  interfaces := #[2, 3, 4]
  cf := some (fileOf pool5 2 #[.nestMembers #[106]] #[] 1057 12 #[111, 113, 115] #[{ accessFlags := 18, nameIndex := 5, descriptorIndex := 6, attributes := #[] }, { accessFlags := 18, nameIndex := 9, descriptorIndex := 10, attributes := #[] }, { accessFlags := 2, nameIndex := 19, descriptorIndex := 10, attributes := #[] }])
  fields := #[{ name := "name", type := (.object "java/lang/String"), accessFlags := 18, slot := 0, constantValue := 0 }, { name := "ordinal", type := .int, accessFlags := 18, slot := 1, constantValue := 0 }, { name := "hash", type := .int, accessFlags := 2, slot := 2, constantValue := 0 }]
  methods := #[]
  instanceTypes := #[(.object "java/lang/String"), .int, .int]
  staticTypes := #[]
  resolved := Array.replicate 204 none
  statics := none }

def pool6 : Array CpInfo := pool [(1, .class_ 2), (0, u "com/example/tallylock/tallylock/jdbc/ColumnType"), (0, .fieldref 1 4), (0, .nameAndType 5 6), (0, u "INT"), (0, u "Lcom/example/tallylock/tallylock/jdbc/ColumnType;"), (2, u "TEXT"), (2, u "DATE"), (0, .fieldref 1 14), (0, .nameAndType 15 6), (0, u "AVERAGE"), (2, u "$VALUES"), (0, u "[Lcom/example/tallylock/tallylock/jdbc/ColumnType;"), (6, .class_ 28), (1, u "java/lang/Enum"), (6, .fieldref 1 36), (0, .nameAndType 37 38), (0, u "code"), (0, u "I"), (2, u "typeName"), (0, u "Ljava/lang/String;"), (2, u "valueClass"), (0, u "Ljava/lang/Class;"), (0, .fieldref 1 48), (0, .nameAndType 49 38), (0, u "precision"), (2, u "scale"), (0, .fieldref 1 54), (0, .nameAndType 55 38), (0, u "displaySize"), (1, .class_ 59), (1, u "com/example/tallylock/tallylock/jdbc/ColumnType$1"), (7, u "()I"), (45, u "isSigned"), (0, u "()Z")] 7

def k6c0 : Code := { maxStack := 1, maxLocals := 1, code := prog_72_method_5_code, exceptionTable := #[], attributes := #[] }
def k6m0 : Method := { name := "code", desc := "()I", sig := { parameters := [], returnType := some .int }, accessFlags := 0, code := some k6c0 }
def k6c1 : Code := { maxStack := 1, maxLocals := 1, code := prog_72_method_8_code, exceptionTable := #[], attributes := #[] }
def k6m1 : Method := { name := "precision", desc := "()I", sig := { parameters := [], returnType := some .int }, accessFlags := 0, code := some k6c1 }
def k6c2 : Code := { maxStack := 1, maxLocals := 1, code := prog_72_method_10_code, exceptionTable := #[], attributes := #[] }
def k6m2 : Method := { name := "displaySize", desc := "()I", sig := { parameters := [], returnType := some .int }, accessFlags := 0, code := some k6c2 }
def k6c3 : Code := { maxStack := 2, maxLocals := 1, code := prog_72_method_11_code, exceptionTable := #[], attributes := #[] }
def k6m3 : Method := { name := "isSigned", desc := "()Z", sig := { parameters := [], returnType := some .boolean }, accessFlags := 0, code := some k6c3 }
/-- com/example/tallylock/tallylock/jdbc/ColumnType -/
def k6 : Class := { plain "com/example/tallylock/tallylock/jdbc/ColumnType" (some 5) with
  accessFlags := 16432
  interfaces := #[]
  cf := some (fileOf pool6 1 #[.nestMembers #[57]] #[{ accessFlags := 0, nameIndex := 37, descriptorIndex := 67, attributes := #[] }, { accessFlags := 0, nameIndex := 49, descriptorIndex := 67, attributes := #[] }, { accessFlags := 0, nameIndex := 55, descriptorIndex := 67, attributes := #[] }, { accessFlags := 0, nameIndex := 113, descriptorIndex := 114, attributes := #[] }] 16432 26 #[] #[{ accessFlags := 16409, nameIndex := 5, descriptorIndex := 6, attributes := #[] }, { accessFlags := 16409, nameIndex := 9, descriptorIndex := 6, attributes := #[] }, { accessFlags := 16409, nameIndex := 12, descriptorIndex := 6, attributes := #[] }, { accessFlags := 16409, nameIndex := 15, descriptorIndex := 6, attributes := #[] }, { accessFlags := 18, nameIndex := 37, descriptorIndex := 38, attributes := #[] }, { accessFlags := 18, nameIndex := 41, descriptorIndex := 42, attributes := #[] }, { accessFlags := 18, nameIndex := 45, descriptorIndex := 46, attributes := #[] }, { accessFlags := 18, nameIndex := 49, descriptorIndex := 38, attributes := #[] }, { accessFlags := 18, nameIndex := 52, descriptorIndex := 38, attributes := #[] }, { accessFlags := 18, nameIndex := 55, descriptorIndex := 38, attributes := #[] }, { accessFlags := 4122, nameIndex := 18, descriptorIndex := 19, attributes := #[] }])
  fields := #[{ name := "INT", type := (.object "com/example/tallylock/tallylock/jdbc/ColumnType"), accessFlags := 16409, slot := 0, constantValue := 0 }, { name := "TEXT", type := (.object "com/example/tallylock/tallylock/jdbc/ColumnType"), accessFlags := 16409, slot := 1, constantValue := 0 }, { name := "DATE", type := (.object "com/example/tallylock/tallylock/jdbc/ColumnType"), accessFlags := 16409, slot := 2, constantValue := 0 }, { name := "AVERAGE", type := (.object "com/example/tallylock/tallylock/jdbc/ColumnType"), accessFlags := 16409, slot := 3, constantValue := 0 }, { name := "code", type := .int, accessFlags := 18, slot := 3, constantValue := 0 }, { name := "typeName", type := (.object "java/lang/String"), accessFlags := 18, slot := 4, constantValue := 0 }, { name := "valueClass", type := (.object "java/lang/Class"), accessFlags := 18, slot := 5, constantValue := 0 }, { name := "precision", type := .int, accessFlags := 18, slot := 6, constantValue := 0 }, { name := "scale", type := .int, accessFlags := 18, slot := 7, constantValue := 0 }, { name := "displaySize", type := .int, accessFlags := 18, slot := 8, constantValue := 0 }, { name := "$VALUES", type := (.array (.object "com/example/tallylock/tallylock/jdbc/ColumnType")), accessFlags := 4122, slot := 4, constantValue := 0 }]
  methods := #[k6m0, k6m1, k6m2, k6m3]
  instanceTypes := #[(.object "java/lang/String"), .int, .int, .int, (.object "java/lang/String"), (.object "java/lang/Class"), .int, .int, .int]
  staticTypes := #[(.object "com/example/tallylock/tallylock/jdbc/ColumnType"), (.object "com/example/tallylock/tallylock/jdbc/ColumnType"), (.object "com/example/tallylock/tallylock/jdbc/ColumnType"), (.object "com/example/tallylock/tallylock/jdbc/ColumnType"), (.array (.object "com/example/tallylock/tallylock/jdbc/ColumnType"))]
  resolved := Array.replicate 122 none
  statics := some 0 }

def pool7 : Array CpInfo := pool [(1, u "java/lang/Cloneable"), (0, .class_ 1), (0, u "java/lang/Object"), (0, .class_ 3)] 3

/-- java/lang/Cloneable -/
def k7 : Class := { plain "java/lang/Cloneable" (some 0) with
  accessFlags := 1537
  interfaces := #[]
  cf := some (fileOf pool7 2 #[] #[] 1537 4 #[] #[])
  fields := #[]
  methods := #[]
  instanceTypes := #[]
  staticTypes := #[]
  resolved := Array.replicate 8 none
  statics := none }

/-- the primitive byte -/
def k8 : Class := { plain "byte" none with kind := .primitive 'B', accessFlags := 0x411 }
/-- [B -/
def k9 : Class := { plain "[B" (some 0) with kind := .array 8 .byte, interfaces := #[7, 4], accessFlags := 1041 }

/-- the primitive int -/
def k10 : Class := { plain "int" none with kind := .primitive 'I', accessFlags := 0x411 }
/-- [I -/
def k11 : Class := { plain "[I" (some 0) with kind := .array 10 .int, interfaces := #[7, 4], accessFlags := 1041 }

def heap : Heap := #[{ cls := 6, slots := #[.ref 1, .ref 4, .ref 3, .ref 2, .null], vm := .statics 6 },
  { cls := 6, slots := #[.null, .int 0, .int 0, .int (-5), .null, .null, .int 19, .int 0, .int 20], vm := .none },
  { cls := 6, slots := #[.null, .int 3, .int 0, .int 3, .null, .null, .int 21, .int 0, .int 23], vm := .none },
  { cls := 6, slots := #[.null, .int 2, .int 0, .int 91, .null, .null, .int 10, .int 0, .int 10], vm := .none },
  { cls := 6, slots := #[.null, .int 1, .int 0, .int 12, .null, .null, .int 2147483647, .int 0, .int 2147483647], vm := .none }]
def classes : Array Class := #[k0, k1, k2, k3, k4, k5, k6, k7, k8, k9, k10, k11]
def interned : List (Array UInt16 × Addr) := []
def slotsUsed : Nat := 41
def theMethod : MethodId := ⟨1, 2⟩
def args0 : Array Value := #[.int 1]
def aboutOver (below : List Frame) : State where
  vm := { classes := classes, interned := interned.toArray }
  heap := heap
  slotsUsed := slotsUsed
  threads := #[{ frames := .invoking theMethod args0 :: below }]
def below0 : List Frame := [.native { method := ⟨0, 0⟩, args := #[] }]
def about1 : State := aboutOver below0
def p0 : Program := .bare "" "" ""
def e0 : Env := launch0.env 0 0 0
theorem w_frames : about1.frames = Frame.invoking theMethod args0 :: below0 := rfl
set_option maxRecDepth 65536 in
theorem w_args : argsFit about1.vm theMethod args0 = true := by decide +kernel
set_option maxRecDepth 65536 in
theorem w_heap : heapFits about1 = true := by decide +kernel
set_option maxRecDepth 65536 in
theorem w_runnable : about1.curStatus? = some .runnable := by decide +kernel
set_option maxRecDepth 65536 in
theorem w_alone : about1.alone = true := by decide +kernel
set_option maxRecDepth 65536 in
theorem w_named : about1.methodNamed? x = some theMethod := by decide +kernel
set_option maxRecDepth 65536 in
theorem w_hears : about1.hears theMethod below0 = true := by decide +kernel
set_option maxRecDepth 65536 in
theorem w_ripe : about1.ripe theMethod args0 below0 = true := by decide +kernel
theorem w_running : about1.status = .running := rfl
set_option maxRecDepth 65536 in
theorem w_room : about1.hasRoom e0.platform room_1 = true :=
  launch0.hasRoom_least _ room_1 (by decide +kernel) (by decide +kernel) (by decide +kernel) (by decide +kernel) (by decide +kernel) (by decide +kernel)
theorem allAtoms_all (ts : List Jvm.Cond) (a : Array Jvm.Value) (st : Jvm.State) : (allAtoms ts).before a st = ts.all (fun c => c.before a st) := by
  induction ts with
  | nil => rfl
  | cons c t ih =>
    show (Jvm.Cond.and c (allAtoms t)).before a st = _
    rw [Jvm.Cond.before_and, ih, List.all_cons]
def words1 : List Jvm.Cond := Jvm.Cond.code x code maxLocals ret :: tables_1
/-- a 'code' word, met by the world's own term for the bytes: nothing is compared byte by byte -/
theorem code_word {y : MethodName} {bytes : ByteArray} {mx : Nat} {rt : Option FieldType} {a : Array Value} {s : State} {m : MethodId} {meth : Method} {c : Code} (h1 : s.methodNamed? y = some m) (h2 : s.vm.method? m = some meth) (h3 : meth.code = some c) (h4 : c.code = bytes)
    (h5 : (c.maxLocals == mx && c.exceptionTable.isEmpty && decide (c.maxStack ≤ mostOperands) && decide (meth.sig.returnType = rt) && !meth.locks && decide (parseMethodDescriptor y.desc = some meth.sig)) = true) : (Jvm.Cond.code y bytes mx rt).before a s = true := by
  simp only [Bool.and_eq_true, beq_iff_eq, Bool.not_eq_true', decide_eq_true_eq] at h5
  obtain ⟨⟨⟨⟨⟨g1, g2⟩, g3⟩, g4⟩, g5⟩, g6⟩ := h5
  simp [Cond.before, Cond.holds, Cond.value, h1, h2, h3, h4, g1, g2, g3, g4, g5, g6]
def isCode : Jvm.Cond → Bool
  | .code _ _ _ _ => true
  | _ => false
theorem all_split {L : List Jvm.Cond} {P : Jvm.Cond → Bool} (h1 : L.all (fun c => isCode c || P c) = true) (h2 : ∀ c ∈ L.filter isCode, P c = true) : L.all P = true := by
  refine List.all_eq_true.mpr fun c hc => ?_
  have h := List.all_eq_true.mp h1 c hc
  rcases Bool.eq_false_or_eq_true (isCode c) with hi | hi
  · exact h2 c (List.mem_filter.mpr ⟨hc, hi⟩)
  · simpa [hi] using h
set_option maxRecDepth 65536 in
theorem w_c0 : (Jvm.Cond.code x code maxLocals ret).before args0 about1 = true := code_word (m := ⟨1, 2⟩) (meth := k1m2) (c := k1c2) (by decide +kernel) rfl rfl rfl (by decide +kernel)
set_option maxRecDepth 65536 in
theorem w_c1 : (Jvm.Cond.code ({ cls := "com/example/tallylock/tallylock/jdbc/ColumnTypeIsSignedPinLaw", name := "pick", desc := "(I)Lcom/example/tallylock/tallylock/jdbc/ColumnType;" } : Jvm.MethodName) method_2_code (1 : Nat) (Option.some (Jvm.ClassFile.FieldType.object "com/example/tallylock/tallylock/jdbc/ColumnType"))).before args0 about1 = true := code_word (m := ⟨1, 1⟩) (meth := k1m1) (c := k1c1) (by decide +kernel) rfl rfl rfl (by decide +kernel)
set_option maxRecDepth 65536 in
theorem w_c2 : (Jvm.Cond.code ({ cls := "com/example/tallylock/tallylock/jdbc/ColumnType", name := "isSigned", desc := "()Z" } : Jvm.MethodName) prog_72_method_11_code (1 : Nat) (Option.some Jvm.ClassFile.FieldType.boolean)).before args0 about1 = true := code_word (m := ⟨6, 3⟩) (meth := k6m3) (c := k6c3) (by decide +kernel) rfl rfl rfl (by decide +kernel)
set_option maxRecDepth 65536 in
theorem w_c3 : (Jvm.Cond.code ({ cls := "com/example/tallylock/tallylock/jdbc/ColumnType", name := "displaySize", desc := "()I" } : Jvm.MethodName) prog_72_method_10_code (1 : Nat) (Option.some Jvm.ClassFile.FieldType.int)).before args0 about1 = true := code_word (m := ⟨6, 2⟩) (meth := k6m2) (c := k6c2) (by decide +kernel) rfl rfl rfl (by decide +kernel)
set_option maxRecDepth 65536 in
theorem w_c4 : (Jvm.Cond.code ({ cls := "com/example/tallylock/tallylock/jdbc/ColumnType", name := "precision", desc := "()I" } : Jvm.MethodName) prog_72_method_8_code (1 : Nat) (Option.some Jvm.ClassFile.FieldType.int)).before args0 about1 = true := code_word (m := ⟨6, 1⟩) (meth := k6m1) (c := k6c1) (by decide +kernel) rfl rfl rfl (by decide +kernel)
set_option maxRecDepth 65536 in
theorem w_c5 : (Jvm.Cond.code ({ cls := "com/example/tallylock/tallylock/jdbc/ColumnType", name := "code", desc := "()I" } : Jvm.MethodName) prog_72_method_5_code (1 : Nat) (Option.some Jvm.ClassFile.FieldType.int)).before args0 about1 = true := code_word (m := ⟨6, 0⟩) (meth := k6m0) (c := k6c0) (by decide +kernel) rfl rfl rfl (by decide +kernel)
def codes1 : List Jvm.Cond := [Jvm.Cond.code x code maxLocals ret, Jvm.Cond.code ({ cls := "com/example/tallylock/tallylock/jdbc/ColumnTypeIsSignedPinLaw", name := "pick", desc := "(I)Lcom/example/tallylock/tallylock/jdbc/ColumnType;" } : Jvm.MethodName) method_2_code (1 : Nat) (Option.some (Jvm.ClassFile.FieldType.object "com/example/tallylock/tallylock/jdbc/ColumnType")), Jvm.Cond.code ({ cls := "com/example/tallylock/tallylock/jdbc/ColumnType", name := "isSigned", desc := "()Z" } : Jvm.MethodName) prog_72_method_11_code (1 : Nat) (Option.some Jvm.ClassFile.FieldType.boolean), Jvm.Cond.code ({ cls := "com/example/tallylock/tallylock/jdbc/ColumnType", name := "displaySize", desc := "()I" } : Jvm.MethodName) prog_72_method_10_code (1 : Nat) (Option.some Jvm.ClassFile.FieldType.int), Jvm.Cond.code ({ cls := "com/example/tallylock/tallylock/jdbc/ColumnType", name := "precision", desc := "()I" } : Jvm.MethodName) prog_72_method_8_code (1 : Nat) (Option.some Jvm.ClassFile.FieldType.int), Jvm.Cond.code ({ cls := "com/example/tallylock/tallylock/jdbc/ColumnType", name := "code", desc := "()I" } : Jvm.MethodName) prog_72_method_5_code (1 : Nat) (Option.some Jvm.ClassFile.FieldType.int)]
set_option maxRecDepth 65536 in
theorem codes_eq : words1.filter isCode = codes1 := rfl
theorem w_codes : ∀ c ∈ words1.filter isCode, c.before args0 about1 = true := by
  rw [codes_eq]
  intro c hc
  simp only [codes1, List.mem_cons, List.not_mem_nil, or_false] at hc
  rcases hc with rfl | rfl | rfl | rfl | rfl | rfl
  · exact w_c0
  · exact w_c1
  · exact w_c2
  · exact w_c3
  · exact w_c4
  · exact w_c5
set_option maxRecDepth 65536 in
theorem w_t1 : (words1.take 24).all (fun c => isCode c || c.before args0 about1) = true := by decide +kernel
set_option maxRecDepth 65536 in
theorem w_t2 : (words1.drop 24).all (fun c => isCode c || c.before args0 about1) = true := by decide +kernel
theorem w_tables : (allAtoms (Jvm.Cond.code x code maxLocals ret :: tables_1)).before args0 about1 = true := by
  rw [allAtoms_all]
  show words1.all (fun c => c.before args0 about1) = true
  refine all_split ?_ w_codes
  rw [← List.take_append_drop 24 words1, List.all_append, w_t1, w_t2]
  rfl
set_option maxRecDepth 65536 in
theorem w_case : (Jvm.Cond.and given_1 narrow_1).before args0 about1 = true := by decide +kernel
theorem w_applies : (headSpec (Jvm.Cond.code x code maxLocals ret :: tables_1) room_1).applies x e0.platform about1 = true :=
  (Spec.applies_iff w_frames).mpr ⟨w_running, w_runnable, w_alone, w_named, w_hears, w_ripe, w_room, w_tables⟩
theorem atStart : AtStart classFile x code maxLocals ret World_1 tables_1 room_1 Calls_1 rest_1 Pre_1 launch0 p0 e0 about1 theMethod args0 below0 :=
  ⟨lists_1, trivial, launch0.admits_env _ _ _, launch0.least_env, fairChoices_fair.cas, fairChoices_fair.clock, w_frames, w_args, w_heap, w_applies, trivial, trivial, w_case⟩
end start1
theorem witness_1 : WitnessClaimed_1 := ⟨start1.p0, start1.e0, start1.about1, start1.theMethod, start1.args0, start1.below0, start1.atStart⟩
end Jvm.Pilot.@@N@@
