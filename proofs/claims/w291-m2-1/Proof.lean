import JvmDerived
import JvmDerived.Pilot.@@N@@Statement
import JvmDerived.Pilot.@@N@@Code
set_option linter.unusedVariables false
set_option linter.unusedSimpArgs false
@@BLOCK:NumsL.lean.txt@@
namespace Jvm.RoadKit
open Sem ClassFile Op Lib Jvm.Stand Jvm.Free Jvm.LawKit
section New
variable {p : Program} {l : Launch} {e : Env} {R : Room} {s : State} {m : MethodId} {args : Array Value} {below : List Frame} {meth : Method} {c : Code} {T : State} {locs : List Loc} {cells slots : Nat}
theorem retI (X : Stand p l e R s m args below meth c T locs cells slots) (hx : p.tables.exec = Jvm.exec) {pc : Nat} {Ls : Array Slot} {z : Int32} {rest : List Value} (hret : meth.sig.returnType = some .int) (hd : decode c.code pc = .ok (.ireturn, 1)) {fs : List Frame}
    (hl : ∀ (f : JFrame) (acts : List Action), f.method = m → f.locked = none → f.entered = [] → (doReturn e (T.setTop f) acts (some (.int z))).1 = T.setFrames fs) : Steps p.tables e below (T.setTop (mkF m pc Ls (.int z :: rest))) (T.setFrames fs) := by
  have hm' : T.vm.method? m = some meth := X.method'
  have hn : narrow .int (.int z) = .int z := rfl
  show Steps p.tables e below (T.setTop { method := m, pc := pc, locals := Ls, stack := _ :: rest, locked := none }) _
  jvm_step X.here [X.here.top, hx, hd, hm', hret, hn]
  first | (intro acts; rw [hl _ acts rfl rfl rfl]) | rw [hl _ _ rfl rfl rfl]
  exact Steps.refl _
end New
end Jvm.RoadKit
namespace Jvm.Pilot.@@N@@
open Jvm Jvm.ClassFile Sem Op Lib Jvm.Free Jvm.Stand Jvm.LawKit Jvm.RoadKit Bundle Jvm.Pilot.@@N@@.Jvm.D
theorem d1_0 : decode method_2_code 0 = .ok (.iload_n 0, 1) := by decide +kernel
theorem d1_1 : decode method_2_code 1 = .ok (.ifCond .ne 7, 3) := by decide +kernel
theorem d1_4 : decode method_2_code 4 = .ok (.getstatic 7, 3) := by decide +kernel
theorem d1_7 : decode method_2_code 7 = .ok (.areturn, 1) := by decide +kernel
theorem pn_1 : plainName "com/example/barts/barts/ServerAssignsDeadlinesPinLaw" = true := by first | (simp [plainName, overriddenIn]; done) | decide +kernel
theorem ef_1 (m : MethodId) (x0 : Int32) : entryFrame m #[(.int x0)] 1 = mkF m 0 #[.val (.int x0)] [] := by first | (simp [entryFrame, mkF, argsToLocals, Value.category]; done) | rfl
def Q1_k0 (Z : State) (p1 : Int32) (w2 : Addr) (h0 : Heap) (n0 : Nat) (v : Option Value) (h : Heap) (L : List Loc) : Prop := v = some (.ref w2) ∧ Fr n0 L ∧ h = h0
set_option maxRecDepth 65536 in
set_option maxHeartbeats 40000000 in
theorem rm1_k0 (l : Launch) (Z : State) (a0 : Array Value) (hw : ∀ d ∈ tables_1, d.before a0 Z = true) (ws : List Jvm.Cond) (p1 : Int32) (w2 : Addr) (h0 : Heap) (n0 : Nat) (Z0 : n0 ≤ h0.size) (S_BG : Sta Z h0 "com/example/barts/barts/Server" "BG" "Lcom/example/barts/barts/Server;" (.ref w2)) (hc1 : p1 = (0 : Int32)) :
    MetFree l (⟨"com/example/barts/barts/ServerAssignsDeadlinesPinLaw", "pick", "(I)Lcom/example/barts/barts/Server;"⟩ : MethodName) (head1 (Jvm.Cond.code (⟨"com/example/barts/barts/ServerAssignsDeadlinesPinLaw", "pick", "(I)Lcom/example/barts/barts/Server;"⟩ : MethodName) method_2_code 1 (some (.object "com/example/barts/barts/Server")) :: ws) ({ frames := 0, cells := 0, slots := 0, locals := 0 } : Room)) (fun a U => a = #[(.int p1)] ∧ Z.Warmed39 U.vm ∧ U.heap = h0) (fun _ _ _ _ _ => True) (fun _ U o U' => ∃ v L, o = .returned v ∧ Q1_k0 Z p1 w2 h0 n0 v U'.heap L ∧ FrameEnd U o U' L ({ frames := 0, cells := 0, slots := 0, locals := 0 } : Room).cells ({ frames := 0, cells := 0, slots := 0, locals := 0 } : Room).slots) := by
  refine MetFree.of_bodySF (plainFor_of_name pn_1) hisR ?_
  intro p e s m args below meth c s₁ Bd hml0 hP hK
  obtain ⟨rfl, hZ, hh⟩ := hP
  have hx := Bd.exec
  have hby := Bd.bytes
  have hml : c.maxLocals = 1 := hml0
  have hown : s.vm.findClass "com/example/barts/barts/ServerAssignsDeadlinesPinLaw" = some m.cls := findClass_of_methodNamed Bd.named
  have hnm := (name_of_methodNamed Bd.named Bd.method).1
  have X0 : Stand p l e ({ frames := 0, cells := 0, slots := 0, locals := 0 } : Room) s m #[(.int p1)] below meth c s₁ [] 0 0 := Stand.of_body Bd
  have e0 : s₁.heap = h0 := by rw [← hh, Bd.state]; rfl
  have N0 := Fr.nil n0
  have pre0 : ∀ t, Steps p.tables e below (s₁.setTop (mkF m 0 #[.val (.int p1)] [])) t → Steps p.tables e below (s₁.setTop (entryFrame m #[(.int p1)] 1)) t := fun t k => castTop (ef_1 m p1) k
  obtain ⟨T3, X3, e3, st3⟩ := getS2 X0 hx hZ hown (host := "") (Or.inl (hw _ (List.mem_of_getElem? (i := 4) rfl))) Via.refl e0 S_BG (g := (mkF m 4 #[.val (.int p1)] [])) rfl (hb hby d1_4)
  obtain ⟨fs, hr, hrun, hended, hW, hsame⟩ := X3.leave (v := some (.ref w2)) (fun h => by rw [Bd.returns] at h; cases h) Bd.notSynchronized
  refine ⟨_, _, pre0 _ ?_, hrun, hended, _, _, rfl, ?_, ⟨_, rfl⟩, hW, hsame.mono (by decide) (by decide)⟩
  · show Steps p.tables e below (s₁.setTop (mkF m 0 #[.val (.int p1)] [])) _
    refine XS.iloadN X0.here hx rfl (hb hby d1_0) rfl ?_
    show Steps p.tables e below (s₁.setTop (mkF m 1 #[.val (.int p1)] [(.int p1)])) _
    refine XS.ifNo X0.here hx rfl (hb hby d1_1) rfl ((if0 _ _).trans (teq hc1).2) ?_
    show Steps p.tables e below (s₁.setTop (mkF m 4 #[.val (.int p1)] [])) _
    refine st3 _ ?_
    show Steps p.tables e below (T3.setTop (mkF m 7 #[.val (.int p1)] [(.ref w2)])) _
    jvm_step X3.here [X3.here.top, hx, (hb hby d1_7), X3.method', Bd.returns, Value.isRef, FieldType.isReference]
    first | (intro acts; rw [hr _ acts rfl rfl rfl]) | rw [hr _ _ rfl rfl rfl]
    exact Steps.refl _
  · show Q1_k0 Z p1 w2 h0 n0 _ T3.heap _
    rw [e3]
    exact ⟨rfl, N0, rfl⟩

theorem d1_8 : decode method_2_code 8 = .ok (.iload_n 0, 1) := by decide +kernel
theorem d1_9 : decode method_2_code 9 = .ok (.iconst 1, 1) := by decide +kernel
theorem d1_10 : decode method_2_code 10 = .ok (.if_icmp .ne 7, 3) := by decide +kernel
theorem d1_13 : decode method_2_code 13 = .ok (.getstatic 13, 3) := by decide +kernel
theorem d1_16 : decode method_2_code 16 = .ok (.areturn, 1) := by decide +kernel
def Q1_k1 (Z : State) (p1 : Int32) (w2 : Addr) (h0 : Heap) (n0 : Nat) (v : Option Value) (h : Heap) (L : List Loc) : Prop := v = some (.ref w2) ∧ Fr n0 L ∧ h = h0
set_option maxRecDepth 65536 in
set_option maxHeartbeats 40000000 in
theorem rm1_k1 (l : Launch) (Z : State) (a0 : Array Value) (hw : ∀ d ∈ tables_1, d.before a0 Z = true) (ws : List Jvm.Cond) (p1 : Int32) (w2 : Addr) (h0 : Heap) (n0 : Nat) (Z0 : n0 ≤ h0.size) (S_BES : Sta Z h0 "com/example/barts/barts/Server" "BES" "Lcom/example/barts/barts/Server;" (.ref w2)) (hc1 : ¬ (p1 = (0 : Int32))) (hc10 : p1 = (1 : Int32)) :
    MetFree l (⟨"com/example/barts/barts/ServerAssignsDeadlinesPinLaw", "pick", "(I)Lcom/example/barts/barts/Server;"⟩ : MethodName) (head1 (Jvm.Cond.code (⟨"com/example/barts/barts/ServerAssignsDeadlinesPinLaw", "pick", "(I)Lcom/example/barts/barts/Server;"⟩ : MethodName) method_2_code 1 (some (.object "com/example/barts/barts/Server")) :: ws) ({ frames := 0, cells := 0, slots := 0, locals := 0 } : Room)) (fun a U => a = #[(.int p1)] ∧ Z.Warmed39 U.vm ∧ U.heap = h0) (fun _ _ _ _ _ => True) (fun _ U o U' => ∃ v L, o = .returned v ∧ Q1_k1 Z p1 w2 h0 n0 v U'.heap L ∧ FrameEnd U o U' L ({ frames := 0, cells := 0, slots := 0, locals := 0 } : Room).cells ({ frames := 0, cells := 0, slots := 0, locals := 0 } : Room).slots) := by
  refine MetFree.of_bodySF (plainFor_of_name pn_1) hisR ?_
  intro p e s m args below meth c s₁ Bd hml0 hP hK
  obtain ⟨rfl, hZ, hh⟩ := hP
  have hx := Bd.exec
  have hby := Bd.bytes
  have hml : c.maxLocals = 1 := hml0
  have hown : s.vm.findClass "com/example/barts/barts/ServerAssignsDeadlinesPinLaw" = some m.cls := findClass_of_methodNamed Bd.named
  have hnm := (name_of_methodNamed Bd.named Bd.method).1
  have X0 : Stand p l e ({ frames := 0, cells := 0, slots := 0, locals := 0 } : Room) s m #[(.int p1)] below meth c s₁ [] 0 0 := Stand.of_body Bd
  have e0 : s₁.heap = h0 := by rw [← hh, Bd.state]; rfl
  have N0 := Fr.nil n0
  have pre0 : ∀ t, Steps p.tables e below (s₁.setTop (mkF m 0 #[.val (.int p1)] [])) t → Steps p.tables e below (s₁.setTop (entryFrame m #[(.int p1)] 1)) t := fun t k => castTop (ef_1 m p1) k
  obtain ⟨T3, X3, e3, st3⟩ := getS2 X0 hx hZ hown (host := "") (Or.inl (hw _ (List.mem_of_getElem? (i := 43) rfl))) Via.refl e0 S_BES (g := (mkF m 13 #[.val (.int p1)] [])) rfl (hb hby d1_13)
  obtain ⟨fs, hr, hrun, hended, hW, hsame⟩ := X3.leave (v := some (.ref w2)) (fun h => by rw [Bd.returns] at h; cases h) Bd.notSynchronized
  refine ⟨_, _, pre0 _ ?_, hrun, hended, _, _, rfl, ?_, ⟨_, rfl⟩, hW, hsame.mono (by decide) (by decide)⟩
  · show Steps p.tables e below (s₁.setTop (mkF m 0 #[.val (.int p1)] [])) _
    refine XS.iloadN X0.here hx rfl (hb hby d1_0) rfl ?_
    show Steps p.tables e below (s₁.setTop (mkF m 1 #[.val (.int p1)] [(.int p1)])) _
    refine XS.ifYes X0.here hx rfl (pc0 := 1) (pc' := 8) rfl (hb hby d1_1) rfl ((if0 _ _).trans (feq hc1).2) (by decide) (by decide) ?_
    show Steps p.tables e below (s₁.setTop (mkF m 8 #[.val (.int p1)] [])) _
    refine XS.iloadN X0.here hx rfl (hb hby d1_8) rfl ?_
    show Steps p.tables e below (s₁.setTop (mkF m 9 #[.val (.int p1)] [(.int p1)])) _
    refine XS.iconst X0.here hx rfl (hb hby d1_9) ?_
    show Steps p.tables e below (s₁.setTop (mkF m 10 #[.val (.int p1)] [(.int (1 : Int32)), (.int p1)])) _
    refine XS.icmpNo X0.here hx rfl (hb hby d1_10) rfl (teq hc10).2 ?_
    show Steps p.tables e below (s₁.setTop (mkF m 13 #[.val (.int p1)] [])) _
    refine st3 _ ?_
    show Steps p.tables e below (T3.setTop (mkF m 16 #[.val (.int p1)] [(.ref w2)])) _
    jvm_step X3.here [X3.here.top, hx, (hb hby d1_16), X3.method', Bd.returns, Value.isRef, FieldType.isReference]
    first | (intro acts; rw [hr _ acts rfl rfl rfl]) | rw [hr _ _ rfl rfl rfl]
    exact Steps.refl _
  · show Q1_k1 Z p1 w2 h0 n0 _ T3.heap _
    rw [e3]
    exact ⟨rfl, N0, rfl⟩

theorem d1_17 : decode method_2_code 17 = .ok (.iload_n 0, 1) := by decide +kernel
theorem d1_18 : decode method_2_code 18 = .ok (.iconst 2, 1) := by decide +kernel
theorem d1_19 : decode method_2_code 19 = .ok (.if_icmp .ne 7, 3) := by decide +kernel
theorem d1_22 : decode method_2_code 22 = .ok (.getstatic 16, 3) := by decide +kernel
theorem d1_25 : decode method_2_code 25 = .ok (.areturn, 1) := by decide +kernel
def Q1_k2 (Z : State) (p1 : Int32) (w2 : Addr) (h0 : Heap) (n0 : Nat) (v : Option Value) (h : Heap) (L : List Loc) : Prop := v = some (.ref w2) ∧ Fr n0 L ∧ h = h0
set_option maxRecDepth 65536 in
set_option maxHeartbeats 40000000 in
theorem rm1_k2 (l : Launch) (Z : State) (a0 : Array Value) (hw : ∀ d ∈ tables_1, d.before a0 Z = true) (ws : List Jvm.Cond) (p1 : Int32) (w2 : Addr) (h0 : Heap) (n0 : Nat) (Z0 : n0 ≤ h0.size) (S_BEP : Sta Z h0 "com/example/barts/barts/Server" "BEP" "Lcom/example/barts/barts/Server;" (.ref w2)) (hc1 : ¬ (p1 = (0 : Int32))) (hc10 : ¬ (p1 = (1 : Int32))) (hc19 : p1 = (2 : Int32)) :
    MetFree l (⟨"com/example/barts/barts/ServerAssignsDeadlinesPinLaw", "pick", "(I)Lcom/example/barts/barts/Server;"⟩ : MethodName) (head1 (Jvm.Cond.code (⟨"com/example/barts/barts/ServerAssignsDeadlinesPinLaw", "pick", "(I)Lcom/example/barts/barts/Server;"⟩ : MethodName) method_2_code 1 (some (.object "com/example/barts/barts/Server")) :: ws) ({ frames := 0, cells := 0, slots := 0, locals := 0 } : Room)) (fun a U => a = #[(.int p1)] ∧ Z.Warmed39 U.vm ∧ U.heap = h0) (fun _ _ _ _ _ => True) (fun _ U o U' => ∃ v L, o = .returned v ∧ Q1_k2 Z p1 w2 h0 n0 v U'.heap L ∧ FrameEnd U o U' L ({ frames := 0, cells := 0, slots := 0, locals := 0 } : Room).cells ({ frames := 0, cells := 0, slots := 0, locals := 0 } : Room).slots) := by
  refine MetFree.of_bodySF (plainFor_of_name pn_1) hisR ?_
  intro p e s m args below meth c s₁ Bd hml0 hP hK
  obtain ⟨rfl, hZ, hh⟩ := hP
  have hx := Bd.exec
  have hby := Bd.bytes
  have hml : c.maxLocals = 1 := hml0
  have hown : s.vm.findClass "com/example/barts/barts/ServerAssignsDeadlinesPinLaw" = some m.cls := findClass_of_methodNamed Bd.named
  have hnm := (name_of_methodNamed Bd.named Bd.method).1
  have X0 : Stand p l e ({ frames := 0, cells := 0, slots := 0, locals := 0 } : Room) s m #[(.int p1)] below meth c s₁ [] 0 0 := Stand.of_body Bd
  have e0 : s₁.heap = h0 := by rw [← hh, Bd.state]; rfl
  have N0 := Fr.nil n0
  have pre0 : ∀ t, Steps p.tables e below (s₁.setTop (mkF m 0 #[.val (.int p1)] [])) t → Steps p.tables e below (s₁.setTop (entryFrame m #[(.int p1)] 1)) t := fun t k => castTop (ef_1 m p1) k
  obtain ⟨T3, X3, e3, st3⟩ := getS2 X0 hx hZ hown (host := "") (Or.inl (hw _ (List.mem_of_getElem? (i := 41) rfl))) Via.refl e0 S_BEP (g := (mkF m 22 #[.val (.int p1)] [])) rfl (hb hby d1_22)
  obtain ⟨fs, hr, hrun, hended, hW, hsame⟩ := X3.leave (v := some (.ref w2)) (fun h => by rw [Bd.returns] at h; cases h) Bd.notSynchronized
  refine ⟨_, _, pre0 _ ?_, hrun, hended, _, _, rfl, ?_, ⟨_, rfl⟩, hW, hsame.mono (by decide) (by decide)⟩
  · show Steps p.tables e below (s₁.setTop (mkF m 0 #[.val (.int p1)] [])) _
    refine XS.iloadN X0.here hx rfl (hb hby d1_0) rfl ?_
    show Steps p.tables e below (s₁.setTop (mkF m 1 #[.val (.int p1)] [(.int p1)])) _
    refine XS.ifYes X0.here hx rfl (pc0 := 1) (pc' := 8) rfl (hb hby d1_1) rfl ((if0 _ _).trans (feq hc1).2) (by decide) (by decide) ?_
    show Steps p.tables e below (s₁.setTop (mkF m 8 #[.val (.int p1)] [])) _
    refine XS.iloadN X0.here hx rfl (hb hby d1_8) rfl ?_
    show Steps p.tables e below (s₁.setTop (mkF m 9 #[.val (.int p1)] [(.int p1)])) _
    refine XS.iconst X0.here hx rfl (hb hby d1_9) ?_
    show Steps p.tables e below (s₁.setTop (mkF m 10 #[.val (.int p1)] [(.int (1 : Int32)), (.int p1)])) _
    refine XS.icmpYes X0.here hx rfl (pc0 := 10) (pc' := 17) rfl (hb hby d1_10) rfl (feq hc10).2 (by decide) (by decide) ?_
    show Steps p.tables e below (s₁.setTop (mkF m 17 #[.val (.int p1)] [])) _
    refine XS.iloadN X0.here hx rfl (hb hby d1_17) rfl ?_
    show Steps p.tables e below (s₁.setTop (mkF m 18 #[.val (.int p1)] [(.int p1)])) _
    refine XS.iconst X0.here hx rfl (hb hby d1_18) ?_
    show Steps p.tables e below (s₁.setTop (mkF m 19 #[.val (.int p1)] [(.int (2 : Int32)), (.int p1)])) _
    refine XS.icmpNo X0.here hx rfl (hb hby d1_19) rfl (teq hc19).2 ?_
    show Steps p.tables e below (s₁.setTop (mkF m 22 #[.val (.int p1)] [])) _
    refine st3 _ ?_
    show Steps p.tables e below (T3.setTop (mkF m 25 #[.val (.int p1)] [(.ref w2)])) _
    jvm_step X3.here [X3.here.top, hx, (hb hby d1_25), X3.method', Bd.returns, Value.isRef, FieldType.isReference]
    first | (intro acts; rw [hr _ acts rfl rfl rfl]) | rw [hr _ _ rfl rfl rfl]
    exact Steps.refl _
  · show Q1_k2 Z p1 w2 h0 n0 _ T3.heap _
    rw [e3]
    exact ⟨rfl, N0, rfl⟩

theorem d1_26 : decode method_2_code 26 = .ok (.iload_n 0, 1) := by decide +kernel
theorem d1_27 : decode method_2_code 27 = .ok (.iconst 3, 1) := by decide +kernel
theorem d1_28 : decode method_2_code 28 = .ok (.if_icmp .ne 7, 3) := by decide +kernel
theorem d1_31 : decode method_2_code 31 = .ok (.getstatic 19, 3) := by decide +kernel
theorem d1_34 : decode method_2_code 34 = .ok (.areturn, 1) := by decide +kernel
def Q1_k3 (Z : State) (p1 : Int32) (w2 : Addr) (h0 : Heap) (n0 : Nat) (v : Option Value) (h : Heap) (L : List Loc) : Prop := v = some (.ref w2) ∧ Fr n0 L ∧ h = h0
set_option maxRecDepth 65536 in
set_option maxHeartbeats 40000000 in
theorem rm1_k3 (l : Launch) (Z : State) (a0 : Array Value) (hw : ∀ d ∈ tables_1, d.before a0 Z = true) (ws : List Jvm.Cond) (p1 : Int32) (w2 : Addr) (h0 : Heap) (n0 : Nat) (Z0 : n0 ≤ h0.size) (S_SSP : Sta Z h0 "com/example/barts/barts/Server" "SSP" "Lcom/example/barts/barts/Server;" (.ref w2)) (hc1 : ¬ (p1 = (0 : Int32))) (hc10 : ¬ (p1 = (1 : Int32))) (hc19 : ¬ (p1 = (2 : Int32))) (hc28 : p1 = (3 : Int32)) :
    MetFree l (⟨"com/example/barts/barts/ServerAssignsDeadlinesPinLaw", "pick", "(I)Lcom/example/barts/barts/Server;"⟩ : MethodName) (head1 (Jvm.Cond.code (⟨"com/example/barts/barts/ServerAssignsDeadlinesPinLaw", "pick", "(I)Lcom/example/barts/barts/Server;"⟩ : MethodName) method_2_code 1 (some (.object "com/example/barts/barts/Server")) :: ws) ({ frames := 0, cells := 0, slots := 0, locals := 0 } : Room)) (fun a U => a = #[(.int p1)] ∧ Z.Warmed39 U.vm ∧ U.heap = h0) (fun _ _ _ _ _ => True) (fun _ U o U' => ∃ v L, o = .returned v ∧ Q1_k3 Z p1 w2 h0 n0 v U'.heap L ∧ FrameEnd U o U' L ({ frames := 0, cells := 0, slots := 0, locals := 0 } : Room).cells ({ frames := 0, cells := 0, slots := 0, locals := 0 } : Room).slots) := by
  refine MetFree.of_bodySF (plainFor_of_name pn_1) hisR ?_
  intro p e s m args below meth c s₁ Bd hml0 hP hK
  obtain ⟨rfl, hZ, hh⟩ := hP
  have hx := Bd.exec
  have hby := Bd.bytes
  have hml : c.maxLocals = 1 := hml0
  have hown : s.vm.findClass "com/example/barts/barts/ServerAssignsDeadlinesPinLaw" = some m.cls := findClass_of_methodNamed Bd.named
  have hnm := (name_of_methodNamed Bd.named Bd.method).1
  have X0 : Stand p l e ({ frames := 0, cells := 0, slots := 0, locals := 0 } : Room) s m #[(.int p1)] below meth c s₁ [] 0 0 := Stand.of_body Bd
  have e0 : s₁.heap = h0 := by rw [← hh, Bd.state]; rfl
  have N0 := Fr.nil n0
  have pre0 : ∀ t, Steps p.tables e below (s₁.setTop (mkF m 0 #[.val (.int p1)] [])) t → Steps p.tables e below (s₁.setTop (entryFrame m #[(.int p1)] 1)) t := fun t k => castTop (ef_1 m p1) k
  obtain ⟨T3, X3, e3, st3⟩ := getS2 X0 hx hZ hown (host := "") (Or.inl (hw _ (List.mem_of_getElem? (i := 30) rfl))) Via.refl e0 S_SSP (g := (mkF m 31 #[.val (.int p1)] [])) rfl (hb hby d1_31)
  obtain ⟨fs, hr, hrun, hended, hW, hsame⟩ := X3.leave (v := some (.ref w2)) (fun h => by rw [Bd.returns] at h; cases h) Bd.notSynchronized
  refine ⟨_, _, pre0 _ ?_, hrun, hended, _, _, rfl, ?_, ⟨_, rfl⟩, hW, hsame.mono (by decide) (by decide)⟩
  · show Steps p.tables e below (s₁.setTop (mkF m 0 #[.val (.int p1)] [])) _
    refine XS.iloadN X0.here hx rfl (hb hby d1_0) rfl ?_
    show Steps p.tables e below (s₁.setTop (mkF m 1 #[.val (.int p1)] [(.int p1)])) _
    refine XS.ifYes X0.here hx rfl (pc0 := 1) (pc' := 8) rfl (hb hby d1_1) rfl ((if0 _ _).trans (feq hc1).2) (by decide) (by decide) ?_
    show Steps p.tables e below (s₁.setTop (mkF m 8 #[.val (.int p1)] [])) _
    refine XS.iloadN X0.here hx rfl (hb hby d1_8) rfl ?_
    show Steps p.tables e below (s₁.setTop (mkF m 9 #[.val (.int p1)] [(.int p1)])) _
    refine XS.iconst X0.here hx rfl (hb hby d1_9) ?_
    show Steps p.tables e below (s₁.setTop (mkF m 10 #[.val (.int p1)] [(.int (1 : Int32)), (.int p1)])) _
    refine XS.icmpYes X0.here hx rfl (pc0 := 10) (pc' := 17) rfl (hb hby d1_10) rfl (feq hc10).2 (by decide) (by decide) ?_
    show Steps p.tables e below (s₁.setTop (mkF m 17 #[.val (.int p1)] [])) _
    refine XS.iloadN X0.here hx rfl (hb hby d1_17) rfl ?_
    show Steps p.tables e below (s₁.setTop (mkF m 18 #[.val (.int p1)] [(.int p1)])) _
    refine XS.iconst X0.here hx rfl (hb hby d1_18) ?_
    show Steps p.tables e below (s₁.setTop (mkF m 19 #[.val (.int p1)] [(.int (2 : Int32)), (.int p1)])) _
    refine XS.icmpYes X0.here hx rfl (pc0 := 19) (pc' := 26) rfl (hb hby d1_19) rfl (feq hc19).2 (by decide) (by decide) ?_
    show Steps p.tables e below (s₁.setTop (mkF m 26 #[.val (.int p1)] [])) _
    refine XS.iloadN X0.here hx rfl (hb hby d1_26) rfl ?_
    show Steps p.tables e below (s₁.setTop (mkF m 27 #[.val (.int p1)] [(.int p1)])) _
    refine XS.iconst X0.here hx rfl (hb hby d1_27) ?_
    show Steps p.tables e below (s₁.setTop (mkF m 28 #[.val (.int p1)] [(.int (3 : Int32)), (.int p1)])) _
    refine XS.icmpNo X0.here hx rfl (hb hby d1_28) rfl (teq hc28).2 ?_
    show Steps p.tables e below (s₁.setTop (mkF m 31 #[.val (.int p1)] [])) _
    refine st3 _ ?_
    show Steps p.tables e below (T3.setTop (mkF m 34 #[.val (.int p1)] [(.ref w2)])) _
    jvm_step X3.here [X3.here.top, hx, (hb hby d1_34), X3.method', Bd.returns, Value.isRef, FieldType.isReference]
    first | (intro acts; rw [hr _ acts rfl rfl rfl]) | rw [hr _ _ rfl rfl rfl]
    exact Steps.refl _
  · show Q1_k3 Z p1 w2 h0 n0 _ T3.heap _
    rw [e3]
    exact ⟨rfl, N0, rfl⟩

theorem d1_35 : decode method_2_code 35 = .ok (.iload_n 0, 1) := by decide +kernel
theorem d1_36 : decode method_2_code 36 = .ok (.iconst 4, 1) := by decide +kernel
theorem d1_37 : decode method_2_code 37 = .ok (.if_icmp .ne 7, 3) := by decide +kernel
theorem d1_40 : decode method_2_code 40 = .ok (.getstatic 22, 3) := by decide +kernel
theorem d1_43 : decode method_2_code 43 = .ok (.areturn, 1) := by decide +kernel
def Q1_k4 (Z : State) (p1 : Int32) (w2 : Addr) (h0 : Heap) (n0 : Nat) (v : Option Value) (h : Heap) (L : List Loc) : Prop := v = some (.ref w2) ∧ Fr n0 L ∧ h = h0
set_option maxRecDepth 65536 in
set_option maxHeartbeats 40000000 in
theorem rm1_k4 (l : Launch) (Z : State) (a0 : Array Value) (hw : ∀ d ∈ tables_1, d.before a0 Z = true) (ws : List Jvm.Cond) (p1 : Int32) (w2 : Addr) (h0 : Heap) (n0 : Nat) (Z0 : n0 ≤ h0.size) (S_TBS : Sta Z h0 "com/example/barts/barts/Server" "TBS" "Lcom/example/barts/barts/Server;" (.ref w2)) (hc1 : ¬ (p1 = (0 : Int32))) (hc10 : ¬ (p1 = (1 : Int32))) (hc19 : ¬ (p1 = (2 : Int32))) (hc28 : ¬ (p1 = (3 : Int32))) (hc37 : p1 = (4 : Int32)) :
    MetFree l (⟨"com/example/barts/barts/ServerAssignsDeadlinesPinLaw", "pick", "(I)Lcom/example/barts/barts/Server;"⟩ : MethodName) (head1 (Jvm.Cond.code (⟨"com/example/barts/barts/ServerAssignsDeadlinesPinLaw", "pick", "(I)Lcom/example/barts/barts/Server;"⟩ : MethodName) method_2_code 1 (some (.object "com/example/barts/barts/Server")) :: ws) ({ frames := 0, cells := 0, slots := 0, locals := 0 } : Room)) (fun a U => a = #[(.int p1)] ∧ Z.Warmed39 U.vm ∧ U.heap = h0) (fun _ _ _ _ _ => True) (fun _ U o U' => ∃ v L, o = .returned v ∧ Q1_k4 Z p1 w2 h0 n0 v U'.heap L ∧ FrameEnd U o U' L ({ frames := 0, cells := 0, slots := 0, locals := 0 } : Room).cells ({ frames := 0, cells := 0, slots := 0, locals := 0 } : Room).slots) := by
  refine MetFree.of_bodySF (plainFor_of_name pn_1) hisR ?_
  intro p e s m args below meth c s₁ Bd hml0 hP hK
  obtain ⟨rfl, hZ, hh⟩ := hP
  have hx := Bd.exec
  have hby := Bd.bytes
  have hml : c.maxLocals = 1 := hml0
  have hown : s.vm.findClass "com/example/barts/barts/ServerAssignsDeadlinesPinLaw" = some m.cls := findClass_of_methodNamed Bd.named
  have hnm := (name_of_methodNamed Bd.named Bd.method).1
  have X0 : Stand p l e ({ frames := 0, cells := 0, slots := 0, locals := 0 } : Room) s m #[(.int p1)] below meth c s₁ [] 0 0 := Stand.of_body Bd
  have e0 : s₁.heap = h0 := by rw [← hh, Bd.state]; rfl
  have N0 := Fr.nil n0
  have pre0 : ∀ t, Steps p.tables e below (s₁.setTop (mkF m 0 #[.val (.int p1)] [])) t → Steps p.tables e below (s₁.setTop (entryFrame m #[(.int p1)] 1)) t := fun t k => castTop (ef_1 m p1) k
  obtain ⟨T3, X3, e3, st3⟩ := getS2 X0 hx hZ hown (host := "") (Or.inl (hw _ (List.mem_of_getElem? (i := 45) rfl))) Via.refl e0 S_TBS (g := (mkF m 40 #[.val (.int p1)] [])) rfl (hb hby d1_40)
  obtain ⟨fs, hr, hrun, hended, hW, hsame⟩ := X3.leave (v := some (.ref w2)) (fun h => by rw [Bd.returns] at h; cases h) Bd.notSynchronized
  refine ⟨_, _, pre0 _ ?_, hrun, hended, _, _, rfl, ?_, ⟨_, rfl⟩, hW, hsame.mono (by decide) (by decide)⟩
  · show Steps p.tables e below (s₁.setTop (mkF m 0 #[.val (.int p1)] [])) _
    refine XS.iloadN X0.here hx rfl (hb hby d1_0) rfl ?_
    show Steps p.tables e below (s₁.setTop (mkF m 1 #[.val (.int p1)] [(.int p1)])) _
    refine XS.ifYes X0.here hx rfl (pc0 := 1) (pc' := 8) rfl (hb hby d1_1) rfl ((if0 _ _).trans (feq hc1).2) (by decide) (by decide) ?_
    show Steps p.tables e below (s₁.setTop (mkF m 8 #[.val (.int p1)] [])) _
    refine XS.iloadN X0.here hx rfl (hb hby d1_8) rfl ?_
    show Steps p.tables e below (s₁.setTop (mkF m 9 #[.val (.int p1)] [(.int p1)])) _
    refine XS.iconst X0.here hx rfl (hb hby d1_9) ?_
    show Steps p.tables e below (s₁.setTop (mkF m 10 #[.val (.int p1)] [(.int (1 : Int32)), (.int p1)])) _
    refine XS.icmpYes X0.here hx rfl (pc0 := 10) (pc' := 17) rfl (hb hby d1_10) rfl (feq hc10).2 (by decide) (by decide) ?_
    show Steps p.tables e below (s₁.setTop (mkF m 17 #[.val (.int p1)] [])) _
    refine XS.iloadN X0.here hx rfl (hb hby d1_17) rfl ?_
    show Steps p.tables e below (s₁.setTop (mkF m 18 #[.val (.int p1)] [(.int p1)])) _
    refine XS.iconst X0.here hx rfl (hb hby d1_18) ?_
    show Steps p.tables e below (s₁.setTop (mkF m 19 #[.val (.int p1)] [(.int (2 : Int32)), (.int p1)])) _
    refine XS.icmpYes X0.here hx rfl (pc0 := 19) (pc' := 26) rfl (hb hby d1_19) rfl (feq hc19).2 (by decide) (by decide) ?_
    show Steps p.tables e below (s₁.setTop (mkF m 26 #[.val (.int p1)] [])) _
    refine XS.iloadN X0.here hx rfl (hb hby d1_26) rfl ?_
    show Steps p.tables e below (s₁.setTop (mkF m 27 #[.val (.int p1)] [(.int p1)])) _
    refine XS.iconst X0.here hx rfl (hb hby d1_27) ?_
    show Steps p.tables e below (s₁.setTop (mkF m 28 #[.val (.int p1)] [(.int (3 : Int32)), (.int p1)])) _
    refine XS.icmpYes X0.here hx rfl (pc0 := 28) (pc' := 35) rfl (hb hby d1_28) rfl (feq hc28).2 (by decide) (by decide) ?_
    show Steps p.tables e below (s₁.setTop (mkF m 35 #[.val (.int p1)] [])) _
    refine XS.iloadN X0.here hx rfl (hb hby d1_35) rfl ?_
    show Steps p.tables e below (s₁.setTop (mkF m 36 #[.val (.int p1)] [(.int p1)])) _
    refine XS.iconst X0.here hx rfl (hb hby d1_36) ?_
    show Steps p.tables e below (s₁.setTop (mkF m 37 #[.val (.int p1)] [(.int (4 : Int32)), (.int p1)])) _
    refine XS.icmpNo X0.here hx rfl (hb hby d1_37) rfl (teq hc37).2 ?_
    show Steps p.tables e below (s₁.setTop (mkF m 40 #[.val (.int p1)] [])) _
    refine st3 _ ?_
    show Steps p.tables e below (T3.setTop (mkF m 43 #[.val (.int p1)] [(.ref w2)])) _
    jvm_step X3.here [X3.here.top, hx, (hb hby d1_43), X3.method', Bd.returns, Value.isRef, FieldType.isReference]
    first | (intro acts; rw [hr _ acts rfl rfl rfl]) | rw [hr _ _ rfl rfl rfl]
    exact Steps.refl _
  · show Q1_k4 Z p1 w2 h0 n0 _ T3.heap _
    rw [e3]
    exact ⟨rfl, N0, rfl⟩

theorem d1_44 : decode method_2_code 44 = .ok (.iload_n 0, 1) := by decide +kernel
theorem d1_45 : decode method_2_code 45 = .ok (.iconst 5, 1) := by decide +kernel
theorem d1_46 : decode method_2_code 46 = .ok (.if_icmp .ne 7, 3) := by decide +kernel
theorem d1_49 : decode method_2_code 49 = .ok (.getstatic 25, 3) := by decide +kernel
theorem d1_52 : decode method_2_code 52 = .ok (.areturn, 1) := by decide +kernel
def Q1_k5 (Z : State) (p1 : Int32) (w2 : Addr) (h0 : Heap) (n0 : Nat) (v : Option Value) (h : Heap) (L : List Loc) : Prop := v = some (.ref w2) ∧ Fr n0 L ∧ h = h0
set_option maxRecDepth 65536 in
set_option maxHeartbeats 40000000 in
theorem rm1_k5 (l : Launch) (Z : State) (a0 : Array Value) (hw : ∀ d ∈ tables_1, d.before a0 Z = true) (ws : List Jvm.Cond) (p1 : Int32) (w2 : Addr) (h0 : Heap) (n0 : Nat) (Z0 : n0 ≤ h0.size) (S_TBSTAR : Sta Z h0 "com/example/barts/barts/Server" "TBSTAR" "Lcom/example/barts/barts/Server;" (.ref w2)) (hc1 : ¬ (p1 = (0 : Int32))) (hc10 : ¬ (p1 = (1 : Int32))) (hc19 : ¬ (p1 = (2 : Int32))) (hc28 : ¬ (p1 = (3 : Int32))) (hc37 : ¬ (p1 = (4 : Int32))) (hc46 : p1 = (5 : Int32)) :
    MetFree l (⟨"com/example/barts/barts/ServerAssignsDeadlinesPinLaw", "pick", "(I)Lcom/example/barts/barts/Server;"⟩ : MethodName) (head1 (Jvm.Cond.code (⟨"com/example/barts/barts/ServerAssignsDeadlinesPinLaw", "pick", "(I)Lcom/example/barts/barts/Server;"⟩ : MethodName) method_2_code 1 (some (.object "com/example/barts/barts/Server")) :: ws) ({ frames := 0, cells := 0, slots := 0, locals := 0 } : Room)) (fun a U => a = #[(.int p1)] ∧ Z.Warmed39 U.vm ∧ U.heap = h0) (fun _ _ _ _ _ => True) (fun _ U o U' => ∃ v L, o = .returned v ∧ Q1_k5 Z p1 w2 h0 n0 v U'.heap L ∧ FrameEnd U o U' L ({ frames := 0, cells := 0, slots := 0, locals := 0 } : Room).cells ({ frames := 0, cells := 0, slots := 0, locals := 0 } : Room).slots) := by
  refine MetFree.of_bodySF (plainFor_of_name pn_1) hisR ?_
  intro p e s m args below meth c s₁ Bd hml0 hP hK
  obtain ⟨rfl, hZ, hh⟩ := hP
  have hx := Bd.exec
  have hby := Bd.bytes
  have hml : c.maxLocals = 1 := hml0
  have hown : s.vm.findClass "com/example/barts/barts/ServerAssignsDeadlinesPinLaw" = some m.cls := findClass_of_methodNamed Bd.named
  have hnm := (name_of_methodNamed Bd.named Bd.method).1
  have X0 : Stand p l e ({ frames := 0, cells := 0, slots := 0, locals := 0 } : Room) s m #[(.int p1)] below meth c s₁ [] 0 0 := Stand.of_body Bd
  have e0 : s₁.heap = h0 := by rw [← hh, Bd.state]; rfl
  have N0 := Fr.nil n0
  have pre0 : ∀ t, Steps p.tables e below (s₁.setTop (mkF m 0 #[.val (.int p1)] [])) t → Steps p.tables e below (s₁.setTop (entryFrame m #[(.int p1)] 1)) t := fun t k => castTop (ef_1 m p1) k
  obtain ⟨T3, X3, e3, st3⟩ := getS2 X0 hx hZ hown (host := "") (Or.inl (hw _ (List.mem_of_getElem? (i := 46) rfl))) Via.refl e0 S_TBSTAR (g := (mkF m 49 #[.val (.int p1)] [])) rfl (hb hby d1_49)
  obtain ⟨fs, hr, hrun, hended, hW, hsame⟩ := X3.leave (v := some (.ref w2)) (fun h => by rw [Bd.returns] at h; cases h) Bd.notSynchronized
  refine ⟨_, _, pre0 _ ?_, hrun, hended, _, _, rfl, ?_, ⟨_, rfl⟩, hW, hsame.mono (by decide) (by decide)⟩
  · show Steps p.tables e below (s₁.setTop (mkF m 0 #[.val (.int p1)] [])) _
    refine XS.iloadN X0.here hx rfl (hb hby d1_0) rfl ?_
    show Steps p.tables e below (s₁.setTop (mkF m 1 #[.val (.int p1)] [(.int p1)])) _
    refine XS.ifYes X0.here hx rfl (pc0 := 1) (pc' := 8) rfl (hb hby d1_1) rfl ((if0 _ _).trans (feq hc1).2) (by decide) (by decide) ?_
    show Steps p.tables e below (s₁.setTop (mkF m 8 #[.val (.int p1)] [])) _
    refine XS.iloadN X0.here hx rfl (hb hby d1_8) rfl ?_
    show Steps p.tables e below (s₁.setTop (mkF m 9 #[.val (.int p1)] [(.int p1)])) _
    refine XS.iconst X0.here hx rfl (hb hby d1_9) ?_
    show Steps p.tables e below (s₁.setTop (mkF m 10 #[.val (.int p1)] [(.int (1 : Int32)), (.int p1)])) _
    refine XS.icmpYes X0.here hx rfl (pc0 := 10) (pc' := 17) rfl (hb hby d1_10) rfl (feq hc10).2 (by decide) (by decide) ?_
    show Steps p.tables e below (s₁.setTop (mkF m 17 #[.val (.int p1)] [])) _
    refine XS.iloadN X0.here hx rfl (hb hby d1_17) rfl ?_
    show Steps p.tables e below (s₁.setTop (mkF m 18 #[.val (.int p1)] [(.int p1)])) _
    refine XS.iconst X0.here hx rfl (hb hby d1_18) ?_
    show Steps p.tables e below (s₁.setTop (mkF m 19 #[.val (.int p1)] [(.int (2 : Int32)), (.int p1)])) _
    refine XS.icmpYes X0.here hx rfl (pc0 := 19) (pc' := 26) rfl (hb hby d1_19) rfl (feq hc19).2 (by decide) (by decide) ?_
    show Steps p.tables e below (s₁.setTop (mkF m 26 #[.val (.int p1)] [])) _
    refine XS.iloadN X0.here hx rfl (hb hby d1_26) rfl ?_
    show Steps p.tables e below (s₁.setTop (mkF m 27 #[.val (.int p1)] [(.int p1)])) _
    refine XS.iconst X0.here hx rfl (hb hby d1_27) ?_
    show Steps p.tables e below (s₁.setTop (mkF m 28 #[.val (.int p1)] [(.int (3 : Int32)), (.int p1)])) _
    refine XS.icmpYes X0.here hx rfl (pc0 := 28) (pc' := 35) rfl (hb hby d1_28) rfl (feq hc28).2 (by decide) (by decide) ?_
    show Steps p.tables e below (s₁.setTop (mkF m 35 #[.val (.int p1)] [])) _
    refine XS.iloadN X0.here hx rfl (hb hby d1_35) rfl ?_
    show Steps p.tables e below (s₁.setTop (mkF m 36 #[.val (.int p1)] [(.int p1)])) _
    refine XS.iconst X0.here hx rfl (hb hby d1_36) ?_
    show Steps p.tables e below (s₁.setTop (mkF m 37 #[.val (.int p1)] [(.int (4 : Int32)), (.int p1)])) _
    refine XS.icmpYes X0.here hx rfl (pc0 := 37) (pc' := 44) rfl (hb hby d1_37) rfl (feq hc37).2 (by decide) (by decide) ?_
    show Steps p.tables e below (s₁.setTop (mkF m 44 #[.val (.int p1)] [])) _
    refine XS.iloadN X0.here hx rfl (hb hby d1_44) rfl ?_
    show Steps p.tables e below (s₁.setTop (mkF m 45 #[.val (.int p1)] [(.int p1)])) _
    refine XS.iconst X0.here hx rfl (hb hby d1_45) ?_
    show Steps p.tables e below (s₁.setTop (mkF m 46 #[.val (.int p1)] [(.int (5 : Int32)), (.int p1)])) _
    refine XS.icmpNo X0.here hx rfl (hb hby d1_46) rfl (teq hc46).2 ?_
    show Steps p.tables e below (s₁.setTop (mkF m 49 #[.val (.int p1)] [])) _
    refine st3 _ ?_
    show Steps p.tables e below (T3.setTop (mkF m 52 #[.val (.int p1)] [(.ref w2)])) _
    jvm_step X3.here [X3.here.top, hx, (hb hby d1_52), X3.method', Bd.returns, Value.isRef, FieldType.isReference]
    first | (intro acts; rw [hr _ acts rfl rfl rfl]) | rw [hr _ _ rfl rfl rfl]
    exact Steps.refl _
  · show Q1_k5 Z p1 w2 h0 n0 _ T3.heap _
    rw [e3]
    exact ⟨rfl, N0, rfl⟩

theorem d1_53 : decode method_2_code 53 = .ok (.iload_n 0, 1) := by decide +kernel
theorem d1_54 : decode method_2_code 54 = .ok (.bipush 6, 2) := by decide +kernel
theorem d1_56 : decode method_2_code 56 = .ok (.if_icmp .ne 7, 3) := by decide +kernel
theorem d1_59 : decode method_2_code 59 = .ok (.getstatic 28, 3) := by decide +kernel
theorem d1_62 : decode method_2_code 62 = .ok (.areturn, 1) := by decide +kernel
def Q1_k6 (Z : State) (p1 : Int32) (w2 : Addr) (h0 : Heap) (n0 : Nat) (v : Option Value) (h : Heap) (L : List Loc) : Prop := v = some (.ref w2) ∧ Fr n0 L ∧ h = h0
set_option maxRecDepth 65536 in
set_option maxHeartbeats 40000000 in
theorem rm1_k6 (l : Launch) (Z : State) (a0 : Array Value) (hw : ∀ d ∈ tables_1, d.before a0 Z = true) (ws : List Jvm.Cond) (p1 : Int32) (w2 : Addr) (h0 : Heap) (n0 : Nat) (Z0 : n0 ≤ h0.size) (S_TBH : Sta Z h0 "com/example/barts/barts/Server" "TBH" "Lcom/example/barts/barts/Server;" (.ref w2)) (hc1 : ¬ (p1 = (0 : Int32))) (hc10 : ¬ (p1 = (1 : Int32))) (hc19 : ¬ (p1 = (2 : Int32))) (hc28 : ¬ (p1 = (3 : Int32))) (hc37 : ¬ (p1 = (4 : Int32))) (hc46 : ¬ (p1 = (5 : Int32))) (hc56 : p1 = (6 : Int32)) :
    MetFree l (⟨"com/example/barts/barts/ServerAssignsDeadlinesPinLaw", "pick", "(I)Lcom/example/barts/barts/Server;"⟩ : MethodName) (head1 (Jvm.Cond.code (⟨"com/example/barts/barts/ServerAssignsDeadlinesPinLaw", "pick", "(I)Lcom/example/barts/barts/Server;"⟩ : MethodName) method_2_code 1 (some (.object "com/example/barts/barts/Server")) :: ws) ({ frames := 0, cells := 0, slots := 0, locals := 0 } : Room)) (fun a U => a = #[(.int p1)] ∧ Z.Warmed39 U.vm ∧ U.heap = h0) (fun _ _ _ _ _ => True) (fun _ U o U' => ∃ v L, o = .returned v ∧ Q1_k6 Z p1 w2 h0 n0 v U'.heap L ∧ FrameEnd U o U' L ({ frames := 0, cells := 0, slots := 0, locals := 0 } : Room).cells ({ frames := 0, cells := 0, slots := 0, locals := 0 } : Room).slots) := by
  refine MetFree.of_bodySF (plainFor_of_name pn_1) hisR ?_
  intro p e s m args below meth c s₁ Bd hml0 hP hK
  obtain ⟨rfl, hZ, hh⟩ := hP
  have hx := Bd.exec
  have hby := Bd.bytes
  have hml : c.maxLocals = 1 := hml0
  have hown : s.vm.findClass "com/example/barts/barts/ServerAssignsDeadlinesPinLaw" = some m.cls := findClass_of_methodNamed Bd.named
  have hnm := (name_of_methodNamed Bd.named Bd.method).1
  have X0 : Stand p l e ({ frames := 0, cells := 0, slots := 0, locals := 0 } : Room) s m #[(.int p1)] below meth c s₁ [] 0 0 := Stand.of_body Bd
  have e0 : s₁.heap = h0 := by rw [← hh, Bd.state]; rfl
  have N0 := Fr.nil n0
  have pre0 : ∀ t, Steps p.tables e below (s₁.setTop (mkF m 0 #[.val (.int p1)] [])) t → Steps p.tables e below (s₁.setTop (entryFrame m #[(.int p1)] 1)) t := fun t k => castTop (ef_1 m p1) k
  obtain ⟨T3, X3, e3, st3⟩ := getS2 X0 hx hZ hown (host := "") (Or.inl (hw _ (List.mem_of_getElem? (i := 32) rfl))) Via.refl e0 S_TBH (g := (mkF m 59 #[.val (.int p1)] [])) rfl (hb hby d1_59)
  obtain ⟨fs, hr, hrun, hended, hW, hsame⟩ := X3.leave (v := some (.ref w2)) (fun h => by rw [Bd.returns] at h; cases h) Bd.notSynchronized
  refine ⟨_, _, pre0 _ ?_, hrun, hended, _, _, rfl, ?_, ⟨_, rfl⟩, hW, hsame.mono (by decide) (by decide)⟩
  · show Steps p.tables e below (s₁.setTop (mkF m 0 #[.val (.int p1)] [])) _
    refine XS.iloadN X0.here hx rfl (hb hby d1_0) rfl ?_
    show Steps p.tables e below (s₁.setTop (mkF m 1 #[.val (.int p1)] [(.int p1)])) _
    refine XS.ifYes X0.here hx rfl (pc0 := 1) (pc' := 8) rfl (hb hby d1_1) rfl ((if0 _ _).trans (feq hc1).2) (by decide) (by decide) ?_
    show Steps p.tables e below (s₁.setTop (mkF m 8 #[.val (.int p1)] [])) _
    refine XS.iloadN X0.here hx rfl (hb hby d1_8) rfl ?_
    show Steps p.tables e below (s₁.setTop (mkF m 9 #[.val (.int p1)] [(.int p1)])) _
    refine XS.iconst X0.here hx rfl (hb hby d1_9) ?_
    show Steps p.tables e below (s₁.setTop (mkF m 10 #[.val (.int p1)] [(.int (1 : Int32)), (.int p1)])) _
    refine XS.icmpYes X0.here hx rfl (pc0 := 10) (pc' := 17) rfl (hb hby d1_10) rfl (feq hc10).2 (by decide) (by decide) ?_
    show Steps p.tables e below (s₁.setTop (mkF m 17 #[.val (.int p1)] [])) _
    refine XS.iloadN X0.here hx rfl (hb hby d1_17) rfl ?_
    show Steps p.tables e below (s₁.setTop (mkF m 18 #[.val (.int p1)] [(.int p1)])) _
    refine XS.iconst X0.here hx rfl (hb hby d1_18) ?_
    show Steps p.tables e below (s₁.setTop (mkF m 19 #[.val (.int p1)] [(.int (2 : Int32)), (.int p1)])) _
    refine XS.icmpYes X0.here hx rfl (pc0 := 19) (pc' := 26) rfl (hb hby d1_19) rfl (feq hc19).2 (by decide) (by decide) ?_
    show Steps p.tables e below (s₁.setTop (mkF m 26 #[.val (.int p1)] [])) _
    refine XS.iloadN X0.here hx rfl (hb hby d1_26) rfl ?_
    show Steps p.tables e below (s₁.setTop (mkF m 27 #[.val (.int p1)] [(.int p1)])) _
    refine XS.iconst X0.here hx rfl (hb hby d1_27) ?_
    show Steps p.tables e below (s₁.setTop (mkF m 28 #[.val (.int p1)] [(.int (3 : Int32)), (.int p1)])) _
    refine XS.icmpYes X0.here hx rfl (pc0 := 28) (pc' := 35) rfl (hb hby d1_28) rfl (feq hc28).2 (by decide) (by decide) ?_
    show Steps p.tables e below (s₁.setTop (mkF m 35 #[.val (.int p1)] [])) _
    refine XS.iloadN X0.here hx rfl (hb hby d1_35) rfl ?_
    show Steps p.tables e below (s₁.setTop (mkF m 36 #[.val (.int p1)] [(.int p1)])) _
    refine XS.iconst X0.here hx rfl (hb hby d1_36) ?_
    show Steps p.tables e below (s₁.setTop (mkF m 37 #[.val (.int p1)] [(.int (4 : Int32)), (.int p1)])) _
    refine XS.icmpYes X0.here hx rfl (pc0 := 37) (pc' := 44) rfl (hb hby d1_37) rfl (feq hc37).2 (by decide) (by decide) ?_
    show Steps p.tables e below (s₁.setTop (mkF m 44 #[.val (.int p1)] [])) _
    refine XS.iloadN X0.here hx rfl (hb hby d1_44) rfl ?_
    show Steps p.tables e below (s₁.setTop (mkF m 45 #[.val (.int p1)] [(.int p1)])) _
    refine XS.iconst X0.here hx rfl (hb hby d1_45) ?_
    show Steps p.tables e below (s₁.setTop (mkF m 46 #[.val (.int p1)] [(.int (5 : Int32)), (.int p1)])) _
    refine XS.icmpYes X0.here hx rfl (pc0 := 46) (pc' := 53) rfl (hb hby d1_46) rfl (feq hc46).2 (by decide) (by decide) ?_
    show Steps p.tables e below (s₁.setTop (mkF m 53 #[.val (.int p1)] [])) _
    refine XS.iloadN X0.here hx rfl (hb hby d1_53) rfl ?_
    show Steps p.tables e below (s₁.setTop (mkF m 54 #[.val (.int p1)] [(.int p1)])) _
    refine XS.bipush X0.here hx rfl (hb hby d1_54) ?_
    show Steps p.tables e below (s₁.setTop (mkF m 56 #[.val (.int p1)] [(.int (6 : Int32)), (.int p1)])) _
    refine XS.icmpNo X0.here hx rfl (hb hby d1_56) rfl (teq hc56).2 ?_
    show Steps p.tables e below (s₁.setTop (mkF m 59 #[.val (.int p1)] [])) _
    refine st3 _ ?_
    show Steps p.tables e below (T3.setTop (mkF m 62 #[.val (.int p1)] [(.ref w2)])) _
    jvm_step X3.here [X3.here.top, hx, (hb hby d1_62), X3.method', Bd.returns, Value.isRef, FieldType.isReference]
    first | (intro acts; rw [hr _ acts rfl rfl rfl]) | rw [hr _ _ rfl rfl rfl]
    exact Steps.refl _
  · show Q1_k6 Z p1 w2 h0 n0 _ T3.heap _
    rw [e3]
    exact ⟨rfl, N0, rfl⟩

theorem d1_63 : decode method_2_code 63 = .ok (.getstatic 31, 3) := by decide +kernel
theorem d1_66 : decode method_2_code 66 = .ok (.areturn, 1) := by decide +kernel
def Q1_k7 (Z : State) (p1 : Int32) (w2 : Addr) (h0 : Heap) (n0 : Nat) (v : Option Value) (h : Heap) (L : List Loc) : Prop := v = some (.ref w2) ∧ Fr n0 L ∧ h = h0
set_option maxRecDepth 65536 in
set_option maxHeartbeats 40000000 in
theorem rm1_k7 (l : Launch) (Z : State) (a0 : Array Value) (hw : ∀ d ∈ tables_1, d.before a0 Z = true) (ws : List Jvm.Cond) (p1 : Int32) (w2 : Addr) (h0 : Heap) (n0 : Nat) (Z0 : n0 ≤ h0.size) (S_TBSTARH : Sta Z h0 "com/example/barts/barts/Server" "TBSTARH" "Lcom/example/barts/barts/Server;" (.ref w2)) (hc1 : ¬ (p1 = (0 : Int32))) (hc10 : ¬ (p1 = (1 : Int32))) (hc19 : ¬ (p1 = (2 : Int32))) (hc28 : ¬ (p1 = (3 : Int32))) (hc37 : ¬ (p1 = (4 : Int32))) (hc46 : ¬ (p1 = (5 : Int32))) (hc56 : ¬ (p1 = (6 : Int32))) :
    MetFree l (⟨"com/example/barts/barts/ServerAssignsDeadlinesPinLaw", "pick", "(I)Lcom/example/barts/barts/Server;"⟩ : MethodName) (head1 (Jvm.Cond.code (⟨"com/example/barts/barts/ServerAssignsDeadlinesPinLaw", "pick", "(I)Lcom/example/barts/barts/Server;"⟩ : MethodName) method_2_code 1 (some (.object "com/example/barts/barts/Server")) :: ws) ({ frames := 0, cells := 0, slots := 0, locals := 0 } : Room)) (fun a U => a = #[(.int p1)] ∧ Z.Warmed39 U.vm ∧ U.heap = h0) (fun _ _ _ _ _ => True) (fun _ U o U' => ∃ v L, o = .returned v ∧ Q1_k7 Z p1 w2 h0 n0 v U'.heap L ∧ FrameEnd U o U' L ({ frames := 0, cells := 0, slots := 0, locals := 0 } : Room).cells ({ frames := 0, cells := 0, slots := 0, locals := 0 } : Room).slots) := by
  refine MetFree.of_bodySF (plainFor_of_name pn_1) hisR ?_
  intro p e s m args below meth c s₁ Bd hml0 hP hK
  obtain ⟨rfl, hZ, hh⟩ := hP
  have hx := Bd.exec
  have hby := Bd.bytes
  have hml : c.maxLocals = 1 := hml0
  have hown : s.vm.findClass "com/example/barts/barts/ServerAssignsDeadlinesPinLaw" = some m.cls := findClass_of_methodNamed Bd.named
  have hnm := (name_of_methodNamed Bd.named Bd.method).1
  have X0 : Stand p l e ({ frames := 0, cells := 0, slots := 0, locals := 0 } : Room) s m #[(.int p1)] below meth c s₁ [] 0 0 := Stand.of_body Bd
  have e0 : s₁.heap = h0 := by rw [← hh, Bd.state]; rfl
  have N0 := Fr.nil n0
  have pre0 : ∀ t, Steps p.tables e below (s₁.setTop (mkF m 0 #[.val (.int p1)] [])) t → Steps p.tables e below (s₁.setTop (entryFrame m #[(.int p1)] 1)) t := fun t k => castTop (ef_1 m p1) k
  obtain ⟨T3, X3, e3, st3⟩ := getS2 X0 hx hZ hown (host := "") (Or.inl (hw _ (List.mem_of_getElem? (i := 40) rfl))) Via.refl e0 S_TBSTARH (g := (mkF m 63 #[.val (.int p1)] [])) rfl (hb hby d1_63)
  obtain ⟨fs, hr, hrun, hended, hW, hsame⟩ := X3.leave (v := some (.ref w2)) (fun h => by rw [Bd.returns] at h; cases h) Bd.notSynchronized
  refine ⟨_, _, pre0 _ ?_, hrun, hended, _, _, rfl, ?_, ⟨_, rfl⟩, hW, hsame.mono (by decide) (by decide)⟩
  · show Steps p.tables e below (s₁.setTop (mkF m 0 #[.val (.int p1)] [])) _
    refine XS.iloadN X0.here hx rfl (hb hby d1_0) rfl ?_
    show Steps p.tables e below (s₁.setTop (mkF m 1 #[.val (.int p1)] [(.int p1)])) _
    refine XS.ifYes X0.here hx rfl (pc0 := 1) (pc' := 8) rfl (hb hby d1_1) rfl ((if0 _ _).trans (feq hc1).2) (by decide) (by decide) ?_
    show Steps p.tables e below (s₁.setTop (mkF m 8 #[.val (.int p1)] [])) _
    refine XS.iloadN X0.here hx rfl (hb hby d1_8) rfl ?_
    show Steps p.tables e below (s₁.setTop (mkF m 9 #[.val (.int p1)] [(.int p1)])) _
    refine XS.iconst X0.here hx rfl (hb hby d1_9) ?_
    show Steps p.tables e below (s₁.setTop (mkF m 10 #[.val (.int p1)] [(.int (1 : Int32)), (.int p1)])) _
    refine XS.icmpYes X0.here hx rfl (pc0 := 10) (pc' := 17) rfl (hb hby d1_10) rfl (feq hc10).2 (by decide) (by decide) ?_
    show Steps p.tables e below (s₁.setTop (mkF m 17 #[.val (.int p1)] [])) _
    refine XS.iloadN X0.here hx rfl (hb hby d1_17) rfl ?_
    show Steps p.tables e below (s₁.setTop (mkF m 18 #[.val (.int p1)] [(.int p1)])) _
    refine XS.iconst X0.here hx rfl (hb hby d1_18) ?_
    show Steps p.tables e below (s₁.setTop (mkF m 19 #[.val (.int p1)] [(.int (2 : Int32)), (.int p1)])) _
    refine XS.icmpYes X0.here hx rfl (pc0 := 19) (pc' := 26) rfl (hb hby d1_19) rfl (feq hc19).2 (by decide) (by decide) ?_
    show Steps p.tables e below (s₁.setTop (mkF m 26 #[.val (.int p1)] [])) _
    refine XS.iloadN X0.here hx rfl (hb hby d1_26) rfl ?_
    show Steps p.tables e below (s₁.setTop (mkF m 27 #[.val (.int p1)] [(.int p1)])) _
    refine XS.iconst X0.here hx rfl (hb hby d1_27) ?_
    show Steps p.tables e below (s₁.setTop (mkF m 28 #[.val (.int p1)] [(.int (3 : Int32)), (.int p1)])) _
    refine XS.icmpYes X0.here hx rfl (pc0 := 28) (pc' := 35) rfl (hb hby d1_28) rfl (feq hc28).2 (by decide) (by decide) ?_
    show Steps p.tables e below (s₁.setTop (mkF m 35 #[.val (.int p1)] [])) _
    refine XS.iloadN X0.here hx rfl (hb hby d1_35) rfl ?_
    show Steps p.tables e below (s₁.setTop (mkF m 36 #[.val (.int p1)] [(.int p1)])) _
    refine XS.iconst X0.here hx rfl (hb hby d1_36) ?_
    show Steps p.tables e below (s₁.setTop (mkF m 37 #[.val (.int p1)] [(.int (4 : Int32)), (.int p1)])) _
    refine XS.icmpYes X0.here hx rfl (pc0 := 37) (pc' := 44) rfl (hb hby d1_37) rfl (feq hc37).2 (by decide) (by decide) ?_
    show Steps p.tables e below (s₁.setTop (mkF m 44 #[.val (.int p1)] [])) _
    refine XS.iloadN X0.here hx rfl (hb hby d1_44) rfl ?_
    show Steps p.tables e below (s₁.setTop (mkF m 45 #[.val (.int p1)] [(.int p1)])) _
    refine XS.iconst X0.here hx rfl (hb hby d1_45) ?_
    show Steps p.tables e below (s₁.setTop (mkF m 46 #[.val (.int p1)] [(.int (5 : Int32)), (.int p1)])) _
    refine XS.icmpYes X0.here hx rfl (pc0 := 46) (pc' := 53) rfl (hb hby d1_46) rfl (feq hc46).2 (by decide) (by decide) ?_
    show Steps p.tables e below (s₁.setTop (mkF m 53 #[.val (.int p1)] [])) _
    refine XS.iloadN X0.here hx rfl (hb hby d1_53) rfl ?_
    show Steps p.tables e below (s₁.setTop (mkF m 54 #[.val (.int p1)] [(.int p1)])) _
    refine XS.bipush X0.here hx rfl (hb hby d1_54) ?_
    show Steps p.tables e below (s₁.setTop (mkF m 56 #[.val (.int p1)] [(.int (6 : Int32)), (.int p1)])) _
    refine XS.icmpYes X0.here hx rfl (pc0 := 56) (pc' := 63) rfl (hb hby d1_56) rfl (feq hc56).2 (by decide) (by decide) ?_
    show Steps p.tables e below (s₁.setTop (mkF m 63 #[.val (.int p1)] [])) _
    refine st3 _ ?_
    show Steps p.tables e below (T3.setTop (mkF m 66 #[.val (.int p1)] [(.ref w2)])) _
    jvm_step X3.here [X3.here.top, hx, (hb hby d1_66), X3.method', Bd.returns, Value.isRef, FieldType.isReference]
    first | (intro acts; rw [hr _ acts rfl rfl rfl]) | rw [hr _ _ rfl rfl rfl]
    exact Steps.refl _
  · show Q1_k7 Z p1 w2 h0 n0 _ T3.heap _
    rw [e3]
    exact ⟨rfl, N0, rfl⟩

theorem d2_0 : decode prog_29_method_6_code 0 = .ok (.aload_n 0, 1) := by decide +kernel
theorem d2_1 : decode prog_29_method_6_code 1 = .ok (.getstatic 16, 3) := by decide +kernel
theorem d2_4 : decode prog_29_method_6_code 4 = .ok (.if_acmp .eq 24, 3) := by decide +kernel
theorem d2_28 : decode prog_29_method_6_code 28 = .ok (.iconst 1, 1) := by decide +kernel
theorem d2_29 : decode prog_29_method_6_code 29 = .ok (.goto 4, 3) := by decide +kernel
theorem d2_33 : decode prog_29_method_6_code 33 = .ok (.ireturn, 1) := by decide +kernel
theorem pn_2 : plainName "com/example/barts/barts/Server" = true := by first | (simp [plainName, overriddenIn]; done) | decide +kernel
theorem ef_2 (m : MethodId) (x0 : Addr) : entryFrame m #[(.ref x0)] 1 = mkF m 0 #[.val (.ref x0)] [] := by first | (simp [entryFrame, mkF, argsToLocals, Value.category]; done) | rfl
def Q2_t (Z : State) (a1 : Addr) (w2 : Addr) (h0 : Heap) (n0 : Nat) (v : Option Value) (h : Heap) (L : List Loc) : Prop := v = some (.int (1 : Int32)) ∧ Fr n0 L ∧ h = h0
set_option maxRecDepth 65536 in
set_option maxHeartbeats 40000000 in
theorem rm2_t (l : Launch) (Z : State) (a0 : Array Value) (hw : ∀ d ∈ tables_1, d.before a0 Z = true) (ws : List Jvm.Cond) (a1 : Addr) (w2 : Addr) (h0 : Heap) (n0 : Nat) (Z0 : n0 ≤ h0.size) (S_TBS : Sta Z h0 "com/example/barts/barts/Server" "TBS" "Lcom/example/barts/barts/Server;" (.ref w2)) (ha4 : a1 = w2) :
    MetFree l (⟨"com/example/barts/barts/Server", "assignsDeadlines", "()Z"⟩ : MethodName) (head1 (Jvm.Cond.code (⟨"com/example/barts/barts/Server", "assignsDeadlines", "()Z"⟩ : MethodName) prog_29_method_6_code 1 (some .boolean) :: ws) ({ frames := 0, cells := 0, slots := 0, locals := 0 } : Room)) (fun a U => a = #[(.ref a1)] ∧ Z.Warmed39 U.vm ∧ U.heap = h0) (fun _ _ _ _ _ => True) (fun _ U o U' => ∃ v L, o = .returned v ∧ Q2_t Z a1 w2 h0 n0 v U'.heap L ∧ FrameEnd U o U' L ({ frames := 0, cells := 0, slots := 0, locals := 0 } : Room).cells ({ frames := 0, cells := 0, slots := 0, locals := 0 } : Room).slots) := by
  refine MetFree.of_bodySF (plainFor_of_name pn_2) hisR ?_
  intro p e s m args below meth c s₁ Bd hml0 hP hK
  obtain ⟨rfl, hZ, hh⟩ := hP
  have hx := Bd.exec
  have hby := Bd.bytes
  have hml : c.maxLocals = 1 := hml0
  have hown : s.vm.findClass "com/example/barts/barts/Server" = some m.cls := findClass_of_methodNamed Bd.named
  have hnm := (name_of_methodNamed Bd.named Bd.method).1
  have X0 : Stand p l e ({ frames := 0, cells := 0, slots := 0, locals := 0 } : Room) s m #[(.ref a1)] below meth c s₁ [] 0 0 := Stand.of_body Bd
  have e0 : s₁.heap = h0 := by rw [← hh, Bd.state]; rfl
  have N0 := Fr.nil n0
  have pre0 : ∀ t, Steps p.tables e below (s₁.setTop (mkF m 0 #[.val (.ref a1)] [])) t → Steps p.tables e below (s₁.setTop (entryFrame m #[(.ref a1)] 1)) t := fun t k => castTop (ef_2 m a1) k
  obtain ⟨T3, X3, e3, st3⟩ := getS2 X0 hx hZ hown (host := "") (Or.inl (hw _ (List.mem_of_getElem? (i := 12) rfl))) Via.refl e0 S_TBS (g := (mkF m 1 #[.val (.ref a1)] [(.ref a1)])) rfl (hb hby d2_1)
  obtain ⟨fs, hr, hrun, hended, hW, hsame⟩ := X3.leave (v := some (.int (1 : Int32))) (fun h => by rw [Bd.returns] at h; cases h) Bd.notSynchronized
  refine ⟨_, _, pre0 _ ?_, hrun, hended, _, _, rfl, ?_, ⟨_, rfl⟩, hW, hsame.mono (by decide) (by decide)⟩
  · show Steps p.tables e below (s₁.setTop (mkF m 0 #[.val (.ref a1)] [])) _
    refine XS.aloadN X0.here hx rfl (hb hby d2_0) rfl rfl ?_
    show Steps p.tables e below (s₁.setTop (mkF m 1 #[.val (.ref a1)] [(.ref a1)])) _
    refine st3 _ ?_
    show Steps p.tables e below (T3.setTop (mkF m 4 #[.val (.ref a1)] [(.ref w2), (.ref a1)])) _
    refine Jvm.RoadKit.acmp (g := (mkF m 4 #[.val (.ref a1)] [(.ref w2), (.ref a1)])) X3 hx rfl rfl rfl (pc0 := 4) (pc' := 28) (same := true) rfl (hb hby d2_4) rfl (decide_eq_true (congrArg Value.ref ha4)) (by decide) (by decide) ?_
    show Steps p.tables e below (T3.setTop (mkF m 28 #[.val (.ref a1)] [])) _
    refine XS.iconst X3.here hx rfl (hb hby d2_28) ?_
    show Steps p.tables e below (T3.setTop (mkF m 29 #[.val (.ref a1)] [(.int (1 : Int32))])) _
    refine XS.goto X3.here hx rfl (pc0 := 29) (pc' := 33) rfl (hb hby d2_29) (by decide) (by decide) ?_
    show Steps p.tables e below (T3.setTop (mkF m 33 #[.val (.ref a1)] [(.int (1 : Int32))])) _
    exact retN X3 hx (t := .boolean) Bd.returns (by simp) (hb hby d2_33) hr
  · show Q2_t Z a1 w2 h0 n0 _ T3.heap _
    rw [e3]
    exact ⟨rfl, N0, rfl⟩

theorem d2_7 : decode prog_29_method_6_code 7 = .ok (.aload_n 0, 1) := by decide +kernel
theorem d2_8 : decode prog_29_method_6_code 8 = .ok (.getstatic 19, 3) := by decide +kernel
theorem d2_11 : decode prog_29_method_6_code 11 = .ok (.if_acmp .eq 17, 3) := by decide +kernel
def Q2_ft (Z : State) (a1 : Addr) (w2 : Addr) (w4 : Addr) (h0 : Heap) (n0 : Nat) (v : Option Value) (h : Heap) (L : List Loc) : Prop := v = some (.int (1 : Int32)) ∧ Fr n0 L ∧ h = h0
set_option maxRecDepth 65536 in
set_option maxHeartbeats 40000000 in
theorem rm2_ft (l : Launch) (Z : State) (a0 : Array Value) (hw : ∀ d ∈ tables_1, d.before a0 Z = true) (ws : List Jvm.Cond) (a1 : Addr) (w2 : Addr) (w4 : Addr) (h0 : Heap) (n0 : Nat) (Z0 : n0 ≤ h0.size) (S_TBS : Sta Z h0 "com/example/barts/barts/Server" "TBS" "Lcom/example/barts/barts/Server;" (.ref w2)) (S_TBSTAR : Sta Z h0 "com/example/barts/barts/Server" "TBSTAR" "Lcom/example/barts/barts/Server;" (.ref w4)) (ha4 : ¬ (a1 = w2)) (ha11 : a1 = w4) :
    MetFree l (⟨"com/example/barts/barts/Server", "assignsDeadlines", "()Z"⟩ : MethodName) (head1 (Jvm.Cond.code (⟨"com/example/barts/barts/Server", "assignsDeadlines", "()Z"⟩ : MethodName) prog_29_method_6_code 1 (some .boolean) :: ws) ({ frames := 0, cells := 0, slots := 0, locals := 0 } : Room)) (fun a U => a = #[(.ref a1)] ∧ Z.Warmed39 U.vm ∧ U.heap = h0) (fun _ _ _ _ _ => True) (fun _ U o U' => ∃ v L, o = .returned v ∧ Q2_ft Z a1 w2 w4 h0 n0 v U'.heap L ∧ FrameEnd U o U' L ({ frames := 0, cells := 0, slots := 0, locals := 0 } : Room).cells ({ frames := 0, cells := 0, slots := 0, locals := 0 } : Room).slots) := by
  refine MetFree.of_bodySF (plainFor_of_name pn_2) hisR ?_
  intro p e s m args below meth c s₁ Bd hml0 hP hK
  obtain ⟨rfl, hZ, hh⟩ := hP
  have hx := Bd.exec
  have hby := Bd.bytes
  have hml : c.maxLocals = 1 := hml0
  have hown : s.vm.findClass "com/example/barts/barts/Server" = some m.cls := findClass_of_methodNamed Bd.named
  have hnm := (name_of_methodNamed Bd.named Bd.method).1
  have X0 : Stand p l e ({ frames := 0, cells := 0, slots := 0, locals := 0 } : Room) s m #[(.ref a1)] below meth c s₁ [] 0 0 := Stand.of_body Bd
  have e0 : s₁.heap = h0 := by rw [← hh, Bd.state]; rfl
  have N0 := Fr.nil n0
  have pre0 : ∀ t, Steps p.tables e below (s₁.setTop (mkF m 0 #[.val (.ref a1)] [])) t → Steps p.tables e below (s₁.setTop (entryFrame m #[(.ref a1)] 1)) t := fun t k => castTop (ef_2 m a1) k
  obtain ⟨T3, X3, e3, st3⟩ := getS2 X0 hx hZ hown (host := "") (Or.inl (hw _ (List.mem_of_getElem? (i := 12) rfl))) Via.refl e0 S_TBS (g := (mkF m 1 #[.val (.ref a1)] [(.ref a1)])) rfl (hb hby d2_1)
  obtain ⟨T5, X5, e5, st5⟩ := getS2 X3 hx hZ hown (host := "") (Or.inl (hw _ (List.mem_of_getElem? (i := 14) rfl))) Via.refl e3 S_TBSTAR (g := (mkF m 8 #[.val (.ref a1)] [(.ref a1)])) rfl (hb hby d2_8)
  obtain ⟨fs, hr, hrun, hended, hW, hsame⟩ := X5.leave (v := some (.int (1 : Int32))) (fun h => by rw [Bd.returns] at h; cases h) Bd.notSynchronized
  refine ⟨_, _, pre0 _ ?_, hrun, hended, _, _, rfl, ?_, ⟨_, rfl⟩, hW, hsame.mono (by decide) (by decide)⟩
  · show Steps p.tables e below (s₁.setTop (mkF m 0 #[.val (.ref a1)] [])) _
    refine XS.aloadN X0.here hx rfl (hb hby d2_0) rfl rfl ?_
    show Steps p.tables e below (s₁.setTop (mkF m 1 #[.val (.ref a1)] [(.ref a1)])) _
    refine st3 _ ?_
    show Steps p.tables e below (T3.setTop (mkF m 4 #[.val (.ref a1)] [(.ref w2), (.ref a1)])) _
    refine Jvm.RoadKit.acmp (g := (mkF m 4 #[.val (.ref a1)] [(.ref w2), (.ref a1)])) X3 hx rfl rfl rfl (pc0 := 4) (pc' := 7) (same := false) rfl (hb hby d2_4) rfl (decide_eq_false fun q => ha4 (Value.ref.inj q)) (by decide) (by decide) ?_
    show Steps p.tables e below (T3.setTop (mkF m 7 #[.val (.ref a1)] [])) _
    refine XS.aloadN X3.here hx rfl (hb hby d2_7) rfl rfl ?_
    show Steps p.tables e below (T3.setTop (mkF m 8 #[.val (.ref a1)] [(.ref a1)])) _
    refine st5 _ ?_
    show Steps p.tables e below (T5.setTop (mkF m 11 #[.val (.ref a1)] [(.ref w4), (.ref a1)])) _
    refine Jvm.RoadKit.acmp (g := (mkF m 11 #[.val (.ref a1)] [(.ref w4), (.ref a1)])) X5 hx rfl rfl rfl (pc0 := 11) (pc' := 28) (same := true) rfl (hb hby d2_11) rfl (decide_eq_true (congrArg Value.ref ha11)) (by decide) (by decide) ?_
    show Steps p.tables e below (T5.setTop (mkF m 28 #[.val (.ref a1)] [])) _
    refine XS.iconst X5.here hx rfl (hb hby d2_28) ?_
    show Steps p.tables e below (T5.setTop (mkF m 29 #[.val (.ref a1)] [(.int (1 : Int32))])) _
    refine XS.goto X5.here hx rfl (pc0 := 29) (pc' := 33) rfl (hb hby d2_29) (by decide) (by decide) ?_
    show Steps p.tables e below (T5.setTop (mkF m 33 #[.val (.ref a1)] [(.int (1 : Int32))])) _
    exact retN X5 hx (t := .boolean) Bd.returns (by simp) (hb hby d2_33) hr
  · show Q2_ft Z a1 w2 w4 h0 n0 _ T5.heap _
    rw [e5]
    exact ⟨rfl, N0, rfl⟩

theorem d2_14 : decode prog_29_method_6_code 14 = .ok (.aload_n 0, 1) := by decide +kernel
theorem d2_15 : decode prog_29_method_6_code 15 = .ok (.getstatic 22, 3) := by decide +kernel
theorem d2_18 : decode prog_29_method_6_code 18 = .ok (.if_acmp .eq 10, 3) := by decide +kernel
def Q2_fft (Z : State) (a1 : Addr) (w2 : Addr) (w4 : Addr) (w6 : Addr) (h0 : Heap) (n0 : Nat) (v : Option Value) (h : Heap) (L : List Loc) : Prop := v = some (.int (1 : Int32)) ∧ Fr n0 L ∧ h = h0
set_option maxRecDepth 65536 in
set_option maxHeartbeats 40000000 in
theorem rm2_fft (l : Launch) (Z : State) (a0 : Array Value) (hw : ∀ d ∈ tables_1, d.before a0 Z = true) (ws : List Jvm.Cond) (a1 : Addr) (w2 : Addr) (w4 : Addr) (w6 : Addr) (h0 : Heap) (n0 : Nat) (Z0 : n0 ≤ h0.size) (S_TBS : Sta Z h0 "com/example/barts/barts/Server" "TBS" "Lcom/example/barts/barts/Server;" (.ref w2)) (S_TBSTAR : Sta Z h0 "com/example/barts/barts/Server" "TBSTAR" "Lcom/example/barts/barts/Server;" (.ref w4)) (S_TBH : Sta Z h0 "com/example/barts/barts/Server" "TBH" "Lcom/example/barts/barts/Server;" (.ref w6)) (ha4 : ¬ (a1 = w2)) (ha11 : ¬ (a1 = w4)) (ha18 : a1 = w6) :
    MetFree l (⟨"com/example/barts/barts/Server", "assignsDeadlines", "()Z"⟩ : MethodName) (head1 (Jvm.Cond.code (⟨"com/example/barts/barts/Server", "assignsDeadlines", "()Z"⟩ : MethodName) prog_29_method_6_code 1 (some .boolean) :: ws) ({ frames := 0, cells := 0, slots := 0, locals := 0 } : Room)) (fun a U => a = #[(.ref a1)] ∧ Z.Warmed39 U.vm ∧ U.heap = h0) (fun _ _ _ _ _ => True) (fun _ U o U' => ∃ v L, o = .returned v ∧ Q2_fft Z a1 w2 w4 w6 h0 n0 v U'.heap L ∧ FrameEnd U o U' L ({ frames := 0, cells := 0, slots := 0, locals := 0 } : Room).cells ({ frames := 0, cells := 0, slots := 0, locals := 0 } : Room).slots) := by
  refine MetFree.of_bodySF (plainFor_of_name pn_2) hisR ?_
  intro p e s m args below meth c s₁ Bd hml0 hP hK
  obtain ⟨rfl, hZ, hh⟩ := hP
  have hx := Bd.exec
  have hby := Bd.bytes
  have hml : c.maxLocals = 1 := hml0
  have hown : s.vm.findClass "com/example/barts/barts/Server" = some m.cls := findClass_of_methodNamed Bd.named
  have hnm := (name_of_methodNamed Bd.named Bd.method).1
  have X0 : Stand p l e ({ frames := 0, cells := 0, slots := 0, locals := 0 } : Room) s m #[(.ref a1)] below meth c s₁ [] 0 0 := Stand.of_body Bd
  have e0 : s₁.heap = h0 := by rw [← hh, Bd.state]; rfl
  have N0 := Fr.nil n0
  have pre0 : ∀ t, Steps p.tables e below (s₁.setTop (mkF m 0 #[.val (.ref a1)] [])) t → Steps p.tables e below (s₁.setTop (entryFrame m #[(.ref a1)] 1)) t := fun t k => castTop (ef_2 m a1) k
  obtain ⟨T3, X3, e3, st3⟩ := getS2 X0 hx hZ hown (host := "") (Or.inl (hw _ (List.mem_of_getElem? (i := 12) rfl))) Via.refl e0 S_TBS (g := (mkF m 1 #[.val (.ref a1)] [(.ref a1)])) rfl (hb hby d2_1)
  obtain ⟨T5, X5, e5, st5⟩ := getS2 X3 hx hZ hown (host := "") (Or.inl (hw _ (List.mem_of_getElem? (i := 14) rfl))) Via.refl e3 S_TBSTAR (g := (mkF m 8 #[.val (.ref a1)] [(.ref a1)])) rfl (hb hby d2_8)
  obtain ⟨T7, X7, e7, st7⟩ := getS2 X5 hx hZ hown (host := "") (Or.inl (hw _ (List.mem_of_getElem? (i := 16) rfl))) Via.refl e5 S_TBH (g := (mkF m 15 #[.val (.ref a1)] [(.ref a1)])) rfl (hb hby d2_15)
  obtain ⟨fs, hr, hrun, hended, hW, hsame⟩ := X7.leave (v := some (.int (1 : Int32))) (fun h => by rw [Bd.returns] at h; cases h) Bd.notSynchronized
  refine ⟨_, _, pre0 _ ?_, hrun, hended, _, _, rfl, ?_, ⟨_, rfl⟩, hW, hsame.mono (by decide) (by decide)⟩
  · show Steps p.tables e below (s₁.setTop (mkF m 0 #[.val (.ref a1)] [])) _
    refine XS.aloadN X0.here hx rfl (hb hby d2_0) rfl rfl ?_
    show Steps p.tables e below (s₁.setTop (mkF m 1 #[.val (.ref a1)] [(.ref a1)])) _
    refine st3 _ ?_
    show Steps p.tables e below (T3.setTop (mkF m 4 #[.val (.ref a1)] [(.ref w2), (.ref a1)])) _
    refine Jvm.RoadKit.acmp (g := (mkF m 4 #[.val (.ref a1)] [(.ref w2), (.ref a1)])) X3 hx rfl rfl rfl (pc0 := 4) (pc' := 7) (same := false) rfl (hb hby d2_4) rfl (decide_eq_false fun q => ha4 (Value.ref.inj q)) (by decide) (by decide) ?_
    show Steps p.tables e below (T3.setTop (mkF m 7 #[.val (.ref a1)] [])) _
    refine XS.aloadN X3.here hx rfl (hb hby d2_7) rfl rfl ?_
    show Steps p.tables e below (T3.setTop (mkF m 8 #[.val (.ref a1)] [(.ref a1)])) _
    refine st5 _ ?_
    show Steps p.tables e below (T5.setTop (mkF m 11 #[.val (.ref a1)] [(.ref w4), (.ref a1)])) _
    refine Jvm.RoadKit.acmp (g := (mkF m 11 #[.val (.ref a1)] [(.ref w4), (.ref a1)])) X5 hx rfl rfl rfl (pc0 := 11) (pc' := 14) (same := false) rfl (hb hby d2_11) rfl (decide_eq_false fun q => ha11 (Value.ref.inj q)) (by decide) (by decide) ?_
    show Steps p.tables e below (T5.setTop (mkF m 14 #[.val (.ref a1)] [])) _
    refine XS.aloadN X5.here hx rfl (hb hby d2_14) rfl rfl ?_
    show Steps p.tables e below (T5.setTop (mkF m 15 #[.val (.ref a1)] [(.ref a1)])) _
    refine st7 _ ?_
    show Steps p.tables e below (T7.setTop (mkF m 18 #[.val (.ref a1)] [(.ref w6), (.ref a1)])) _
    refine Jvm.RoadKit.acmp (g := (mkF m 18 #[.val (.ref a1)] [(.ref w6), (.ref a1)])) X7 hx rfl rfl rfl (pc0 := 18) (pc' := 28) (same := true) rfl (hb hby d2_18) rfl (decide_eq_true (congrArg Value.ref ha18)) (by decide) (by decide) ?_
    show Steps p.tables e below (T7.setTop (mkF m 28 #[.val (.ref a1)] [])) _
    refine XS.iconst X7.here hx rfl (hb hby d2_28) ?_
    show Steps p.tables e below (T7.setTop (mkF m 29 #[.val (.ref a1)] [(.int (1 : Int32))])) _
    refine XS.goto X7.here hx rfl (pc0 := 29) (pc' := 33) rfl (hb hby d2_29) (by decide) (by decide) ?_
    show Steps p.tables e below (T7.setTop (mkF m 33 #[.val (.ref a1)] [(.int (1 : Int32))])) _
    exact retN X7 hx (t := .boolean) Bd.returns (by simp) (hb hby d2_33) hr
  · show Q2_fft Z a1 w2 w4 w6 h0 n0 _ T7.heap _
    rw [e7]
    exact ⟨rfl, N0, rfl⟩

theorem d2_21 : decode prog_29_method_6_code 21 = .ok (.aload_n 0, 1) := by decide +kernel
theorem d2_22 : decode prog_29_method_6_code 22 = .ok (.getstatic 25, 3) := by decide +kernel
theorem d2_25 : decode prog_29_method_6_code 25 = .ok (.if_acmp .ne 7, 3) := by decide +kernel
def Q2_ffff (Z : State) (a1 : Addr) (w2 : Addr) (w4 : Addr) (w6 : Addr) (w8 : Addr) (h0 : Heap) (n0 : Nat) (v : Option Value) (h : Heap) (L : List Loc) : Prop := v = some (.int (1 : Int32)) ∧ Fr n0 L ∧ h = h0
set_option maxRecDepth 65536 in
set_option maxHeartbeats 40000000 in
theorem rm2_ffff (l : Launch) (Z : State) (a0 : Array Value) (hw : ∀ d ∈ tables_1, d.before a0 Z = true) (ws : List Jvm.Cond) (a1 : Addr) (w2 : Addr) (w4 : Addr) (w6 : Addr) (w8 : Addr) (h0 : Heap) (n0 : Nat) (Z0 : n0 ≤ h0.size) (S_TBS : Sta Z h0 "com/example/barts/barts/Server" "TBS" "Lcom/example/barts/barts/Server;" (.ref w2)) (S_TBSTAR : Sta Z h0 "com/example/barts/barts/Server" "TBSTAR" "Lcom/example/barts/barts/Server;" (.ref w4)) (S_TBH : Sta Z h0 "com/example/barts/barts/Server" "TBH" "Lcom/example/barts/barts/Server;" (.ref w6)) (S_TBSTARH : Sta Z h0 "com/example/barts/barts/Server" "TBSTARH" "Lcom/example/barts/barts/Server;" (.ref w8)) (ha4 : ¬ (a1 = w2)) (ha11 : ¬ (a1 = w4)) (ha18 : ¬ (a1 = w6)) (ha25 : a1 = w8) :
    MetFree l (⟨"com/example/barts/barts/Server", "assignsDeadlines", "()Z"⟩ : MethodName) (head1 (Jvm.Cond.code (⟨"com/example/barts/barts/Server", "assignsDeadlines", "()Z"⟩ : MethodName) prog_29_method_6_code 1 (some .boolean) :: ws) ({ frames := 0, cells := 0, slots := 0, locals := 0 } : Room)) (fun a U => a = #[(.ref a1)] ∧ Z.Warmed39 U.vm ∧ U.heap = h0) (fun _ _ _ _ _ => True) (fun _ U o U' => ∃ v L, o = .returned v ∧ Q2_ffff Z a1 w2 w4 w6 w8 h0 n0 v U'.heap L ∧ FrameEnd U o U' L ({ frames := 0, cells := 0, slots := 0, locals := 0 } : Room).cells ({ frames := 0, cells := 0, slots := 0, locals := 0 } : Room).slots) := by
  refine MetFree.of_bodySF (plainFor_of_name pn_2) hisR ?_
  intro p e s m args below meth c s₁ Bd hml0 hP hK
  obtain ⟨rfl, hZ, hh⟩ := hP
  have hx := Bd.exec
  have hby := Bd.bytes
  have hml : c.maxLocals = 1 := hml0
  have hown : s.vm.findClass "com/example/barts/barts/Server" = some m.cls := findClass_of_methodNamed Bd.named
  have hnm := (name_of_methodNamed Bd.named Bd.method).1
  have X0 : Stand p l e ({ frames := 0, cells := 0, slots := 0, locals := 0 } : Room) s m #[(.ref a1)] below meth c s₁ [] 0 0 := Stand.of_body Bd
  have e0 : s₁.heap = h0 := by rw [← hh, Bd.state]; rfl
  have N0 := Fr.nil n0
  have pre0 : ∀ t, Steps p.tables e below (s₁.setTop (mkF m 0 #[.val (.ref a1)] [])) t → Steps p.tables e below (s₁.setTop (entryFrame m #[(.ref a1)] 1)) t := fun t k => castTop (ef_2 m a1) k
  obtain ⟨T3, X3, e3, st3⟩ := getS2 X0 hx hZ hown (host := "") (Or.inl (hw _ (List.mem_of_getElem? (i := 12) rfl))) Via.refl e0 S_TBS (g := (mkF m 1 #[.val (.ref a1)] [(.ref a1)])) rfl (hb hby d2_1)
  obtain ⟨T5, X5, e5, st5⟩ := getS2 X3 hx hZ hown (host := "") (Or.inl (hw _ (List.mem_of_getElem? (i := 14) rfl))) Via.refl e3 S_TBSTAR (g := (mkF m 8 #[.val (.ref a1)] [(.ref a1)])) rfl (hb hby d2_8)
  obtain ⟨T7, X7, e7, st7⟩ := getS2 X5 hx hZ hown (host := "") (Or.inl (hw _ (List.mem_of_getElem? (i := 16) rfl))) Via.refl e5 S_TBH (g := (mkF m 15 #[.val (.ref a1)] [(.ref a1)])) rfl (hb hby d2_15)
  obtain ⟨T9, X9, e9, st9⟩ := getS2 X7 hx hZ hown (host := "") (Or.inl (hw _ (List.mem_of_getElem? (i := 18) rfl))) Via.refl e7 S_TBSTARH (g := (mkF m 22 #[.val (.ref a1)] [(.ref a1)])) rfl (hb hby d2_22)
  obtain ⟨fs, hr, hrun, hended, hW, hsame⟩ := X9.leave (v := some (.int (1 : Int32))) (fun h => by rw [Bd.returns] at h; cases h) Bd.notSynchronized
  refine ⟨_, _, pre0 _ ?_, hrun, hended, _, _, rfl, ?_, ⟨_, rfl⟩, hW, hsame.mono (by decide) (by decide)⟩
  · show Steps p.tables e below (s₁.setTop (mkF m 0 #[.val (.ref a1)] [])) _
    refine XS.aloadN X0.here hx rfl (hb hby d2_0) rfl rfl ?_
    show Steps p.tables e below (s₁.setTop (mkF m 1 #[.val (.ref a1)] [(.ref a1)])) _
    refine st3 _ ?_
    show Steps p.tables e below (T3.setTop (mkF m 4 #[.val (.ref a1)] [(.ref w2), (.ref a1)])) _
    refine Jvm.RoadKit.acmp (g := (mkF m 4 #[.val (.ref a1)] [(.ref w2), (.ref a1)])) X3 hx rfl rfl rfl (pc0 := 4) (pc' := 7) (same := false) rfl (hb hby d2_4) rfl (decide_eq_false fun q => ha4 (Value.ref.inj q)) (by decide) (by decide) ?_
    show Steps p.tables e below (T3.setTop (mkF m 7 #[.val (.ref a1)] [])) _
    refine XS.aloadN X3.here hx rfl (hb hby d2_7) rfl rfl ?_
    show Steps p.tables e below (T3.setTop (mkF m 8 #[.val (.ref a1)] [(.ref a1)])) _
    refine st5 _ ?_
    show Steps p.tables e below (T5.setTop (mkF m 11 #[.val (.ref a1)] [(.ref w4), (.ref a1)])) _
    refine Jvm.RoadKit.acmp (g := (mkF m 11 #[.val (.ref a1)] [(.ref w4), (.ref a1)])) X5 hx rfl rfl rfl (pc0 := 11) (pc' := 14) (same := false) rfl (hb hby d2_11) rfl (decide_eq_false fun q => ha11 (Value.ref.inj q)) (by decide) (by decide) ?_
    show Steps p.tables e below (T5.setTop (mkF m 14 #[.val (.ref a1)] [])) _
    refine XS.aloadN X5.here hx rfl (hb hby d2_14) rfl rfl ?_
    show Steps p.tables e below (T5.setTop (mkF m 15 #[.val (.ref a1)] [(.ref a1)])) _
    refine st7 _ ?_
    show Steps p.tables e below (T7.setTop (mkF m 18 #[.val (.ref a1)] [(.ref w6), (.ref a1)])) _
    refine Jvm.RoadKit.acmp (g := (mkF m 18 #[.val (.ref a1)] [(.ref w6), (.ref a1)])) X7 hx rfl rfl rfl (pc0 := 18) (pc' := 21) (same := false) rfl (hb hby d2_18) rfl (decide_eq_false fun q => ha18 (Value.ref.inj q)) (by decide) (by decide) ?_
    show Steps p.tables e below (T7.setTop (mkF m 21 #[.val (.ref a1)] [])) _
    refine XS.aloadN X7.here hx rfl (hb hby d2_21) rfl rfl ?_
    show Steps p.tables e below (T7.setTop (mkF m 22 #[.val (.ref a1)] [(.ref a1)])) _
    refine st9 _ ?_
    show Steps p.tables e below (T9.setTop (mkF m 25 #[.val (.ref a1)] [(.ref w8), (.ref a1)])) _
    refine Jvm.RoadKit.acmp (g := (mkF m 25 #[.val (.ref a1)] [(.ref w8), (.ref a1)])) X9 hx rfl rfl rfl (pc0 := 25) (pc' := 28) (same := true) rfl (hb hby d2_25) rfl (decide_eq_true (congrArg Value.ref ha25)) (by decide) (by decide) ?_
    show Steps p.tables e below (T9.setTop (mkF m 28 #[.val (.ref a1)] [])) _
    refine XS.iconst X9.here hx rfl (hb hby d2_28) ?_
    show Steps p.tables e below (T9.setTop (mkF m 29 #[.val (.ref a1)] [(.int (1 : Int32))])) _
    refine XS.goto X9.here hx rfl (pc0 := 29) (pc' := 33) rfl (hb hby d2_29) (by decide) (by decide) ?_
    show Steps p.tables e below (T9.setTop (mkF m 33 #[.val (.ref a1)] [(.int (1 : Int32))])) _
    exact retN X9 hx (t := .boolean) Bd.returns (by simp) (hb hby d2_33) hr
  · show Q2_ffff Z a1 w2 w4 w6 w8 h0 n0 _ T9.heap _
    rw [e9]
    exact ⟨rfl, N0, rfl⟩

theorem d2_32 : decode prog_29_method_6_code 32 = .ok (.iconst 0, 1) := by decide +kernel
def Q2_ffft (Z : State) (a1 : Addr) (w2 : Addr) (w4 : Addr) (w6 : Addr) (w8 : Addr) (h0 : Heap) (n0 : Nat) (v : Option Value) (h : Heap) (L : List Loc) : Prop := v = some (.int (0 : Int32)) ∧ Fr n0 L ∧ h = h0
set_option maxRecDepth 65536 in
set_option maxHeartbeats 40000000 in
theorem rm2_ffft (l : Launch) (Z : State) (a0 : Array Value) (hw : ∀ d ∈ tables_1, d.before a0 Z = true) (ws : List Jvm.Cond) (a1 : Addr) (w2 : Addr) (w4 : Addr) (w6 : Addr) (w8 : Addr) (h0 : Heap) (n0 : Nat) (Z0 : n0 ≤ h0.size) (S_TBS : Sta Z h0 "com/example/barts/barts/Server" "TBS" "Lcom/example/barts/barts/Server;" (.ref w2)) (S_TBSTAR : Sta Z h0 "com/example/barts/barts/Server" "TBSTAR" "Lcom/example/barts/barts/Server;" (.ref w4)) (S_TBH : Sta Z h0 "com/example/barts/barts/Server" "TBH" "Lcom/example/barts/barts/Server;" (.ref w6)) (S_TBSTARH : Sta Z h0 "com/example/barts/barts/Server" "TBSTARH" "Lcom/example/barts/barts/Server;" (.ref w8)) (ha4 : ¬ (a1 = w2)) (ha11 : ¬ (a1 = w4)) (ha18 : ¬ (a1 = w6)) (ha25 : ¬ (a1 = w8)) :
    MetFree l (⟨"com/example/barts/barts/Server", "assignsDeadlines", "()Z"⟩ : MethodName) (head1 (Jvm.Cond.code (⟨"com/example/barts/barts/Server", "assignsDeadlines", "()Z"⟩ : MethodName) prog_29_method_6_code 1 (some .boolean) :: ws) ({ frames := 0, cells := 0, slots := 0, locals := 0 } : Room)) (fun a U => a = #[(.ref a1)] ∧ Z.Warmed39 U.vm ∧ U.heap = h0) (fun _ _ _ _ _ => True) (fun _ U o U' => ∃ v L, o = .returned v ∧ Q2_ffft Z a1 w2 w4 w6 w8 h0 n0 v U'.heap L ∧ FrameEnd U o U' L ({ frames := 0, cells := 0, slots := 0, locals := 0 } : Room).cells ({ frames := 0, cells := 0, slots := 0, locals := 0 } : Room).slots) := by
  refine MetFree.of_bodySF (plainFor_of_name pn_2) hisR ?_
  intro p e s m args below meth c s₁ Bd hml0 hP hK
  obtain ⟨rfl, hZ, hh⟩ := hP
  have hx := Bd.exec
  have hby := Bd.bytes
  have hml : c.maxLocals = 1 := hml0
  have hown : s.vm.findClass "com/example/barts/barts/Server" = some m.cls := findClass_of_methodNamed Bd.named
  have hnm := (name_of_methodNamed Bd.named Bd.method).1
  have X0 : Stand p l e ({ frames := 0, cells := 0, slots := 0, locals := 0 } : Room) s m #[(.ref a1)] below meth c s₁ [] 0 0 := Stand.of_body Bd
  have e0 : s₁.heap = h0 := by rw [← hh, Bd.state]; rfl
  have N0 := Fr.nil n0
  have pre0 : ∀ t, Steps p.tables e below (s₁.setTop (mkF m 0 #[.val (.ref a1)] [])) t → Steps p.tables e below (s₁.setTop (entryFrame m #[(.ref a1)] 1)) t := fun t k => castTop (ef_2 m a1) k
  obtain ⟨T3, X3, e3, st3⟩ := getS2 X0 hx hZ hown (host := "") (Or.inl (hw _ (List.mem_of_getElem? (i := 12) rfl))) Via.refl e0 S_TBS (g := (mkF m 1 #[.val (.ref a1)] [(.ref a1)])) rfl (hb hby d2_1)
  obtain ⟨T5, X5, e5, st5⟩ := getS2 X3 hx hZ hown (host := "") (Or.inl (hw _ (List.mem_of_getElem? (i := 14) rfl))) Via.refl e3 S_TBSTAR (g := (mkF m 8 #[.val (.ref a1)] [(.ref a1)])) rfl (hb hby d2_8)
  obtain ⟨T7, X7, e7, st7⟩ := getS2 X5 hx hZ hown (host := "") (Or.inl (hw _ (List.mem_of_getElem? (i := 16) rfl))) Via.refl e5 S_TBH (g := (mkF m 15 #[.val (.ref a1)] [(.ref a1)])) rfl (hb hby d2_15)
  obtain ⟨T9, X9, e9, st9⟩ := getS2 X7 hx hZ hown (host := "") (Or.inl (hw _ (List.mem_of_getElem? (i := 18) rfl))) Via.refl e7 S_TBSTARH (g := (mkF m 22 #[.val (.ref a1)] [(.ref a1)])) rfl (hb hby d2_22)
  obtain ⟨fs, hr, hrun, hended, hW, hsame⟩ := X9.leave (v := some (.int (0 : Int32))) (fun h => by rw [Bd.returns] at h; cases h) Bd.notSynchronized
  refine ⟨_, _, pre0 _ ?_, hrun, hended, _, _, rfl, ?_, ⟨_, rfl⟩, hW, hsame.mono (by decide) (by decide)⟩
  · show Steps p.tables e below (s₁.setTop (mkF m 0 #[.val (.ref a1)] [])) _
    refine XS.aloadN X0.here hx rfl (hb hby d2_0) rfl rfl ?_
    show Steps p.tables e below (s₁.setTop (mkF m 1 #[.val (.ref a1)] [(.ref a1)])) _
    refine st3 _ ?_
    show Steps p.tables e below (T3.setTop (mkF m 4 #[.val (.ref a1)] [(.ref w2), (.ref a1)])) _
    refine Jvm.RoadKit.acmp (g := (mkF m 4 #[.val (.ref a1)] [(.ref w2), (.ref a1)])) X3 hx rfl rfl rfl (pc0 := 4) (pc' := 7) (same := false) rfl (hb hby d2_4) rfl (decide_eq_false fun q => ha4 (Value.ref.inj q)) (by decide) (by decide) ?_
    show Steps p.tables e below (T3.setTop (mkF m 7 #[.val (.ref a1)] [])) _
    refine XS.aloadN X3.here hx rfl (hb hby d2_7) rfl rfl ?_
    show Steps p.tables e below (T3.setTop (mkF m 8 #[.val (.ref a1)] [(.ref a1)])) _
    refine st5 _ ?_
    show Steps p.tables e below (T5.setTop (mkF m 11 #[.val (.ref a1)] [(.ref w4), (.ref a1)])) _
    refine Jvm.RoadKit.acmp (g := (mkF m 11 #[.val (.ref a1)] [(.ref w4), (.ref a1)])) X5 hx rfl rfl rfl (pc0 := 11) (pc' := 14) (same := false) rfl (hb hby d2_11) rfl (decide_eq_false fun q => ha11 (Value.ref.inj q)) (by decide) (by decide) ?_
    show Steps p.tables e below (T5.setTop (mkF m 14 #[.val (.ref a1)] [])) _
    refine XS.aloadN X5.here hx rfl (hb hby d2_14) rfl rfl ?_
    show Steps p.tables e below (T5.setTop (mkF m 15 #[.val (.ref a1)] [(.ref a1)])) _
    refine st7 _ ?_
    show Steps p.tables e below (T7.setTop (mkF m 18 #[.val (.ref a1)] [(.ref w6), (.ref a1)])) _
    refine Jvm.RoadKit.acmp (g := (mkF m 18 #[.val (.ref a1)] [(.ref w6), (.ref a1)])) X7 hx rfl rfl rfl (pc0 := 18) (pc' := 21) (same := false) rfl (hb hby d2_18) rfl (decide_eq_false fun q => ha18 (Value.ref.inj q)) (by decide) (by decide) ?_
    show Steps p.tables e below (T7.setTop (mkF m 21 #[.val (.ref a1)] [])) _
    refine XS.aloadN X7.here hx rfl (hb hby d2_21) rfl rfl ?_
    show Steps p.tables e below (T7.setTop (mkF m 22 #[.val (.ref a1)] [(.ref a1)])) _
    refine st9 _ ?_
    show Steps p.tables e below (T9.setTop (mkF m 25 #[.val (.ref a1)] [(.ref w8), (.ref a1)])) _
    refine Jvm.RoadKit.acmp (g := (mkF m 25 #[.val (.ref a1)] [(.ref w8), (.ref a1)])) X9 hx rfl rfl rfl (pc0 := 25) (pc' := 32) (same := false) rfl (hb hby d2_25) rfl (decide_eq_false fun q => ha25 (Value.ref.inj q)) (by decide) (by decide) ?_
    show Steps p.tables e below (T9.setTop (mkF m 32 #[.val (.ref a1)] [])) _
    refine XS.iconst X9.here hx rfl (hb hby d2_32) ?_
    show Steps p.tables e below (T9.setTop (mkF m 33 #[.val (.ref a1)] [(.int (0 : Int32))])) _
    exact retN X9 hx (t := .boolean) Bd.returns (by simp) (hb hby d2_33) hr
  · show Q2_ffft Z a1 w2 w4 w6 w8 h0 n0 _ T9.heap _
    rw [e9]
    exact ⟨rfl, N0, rfl⟩

theorem d3_0 : decode prog_29_method_7_code 0 = .ok (.aload_n 0, 1) := by decide +kernel
theorem d3_1 : decode prog_29_method_7_code 1 = .ok (.getstatic 19, 3) := by decide +kernel
theorem d3_4 : decode prog_29_method_7_code 4 = .ok (.if_acmp .eq 10, 3) := by decide +kernel
theorem d3_14 : decode prog_29_method_7_code 14 = .ok (.iconst 1, 1) := by decide +kernel
theorem d3_15 : decode prog_29_method_7_code 15 = .ok (.goto 4, 3) := by decide +kernel
theorem d3_19 : decode prog_29_method_7_code 19 = .ok (.ireturn, 1) := by decide +kernel
theorem pn_3 : plainName "com/example/barts/barts/Server" = true := by first | (simp [plainName, overriddenIn]; done) | decide +kernel
theorem ef_3 (m : MethodId) (x0 : Addr) : entryFrame m #[(.ref x0)] 1 = mkF m 0 #[.val (.ref x0)] [] := by first | (simp [entryFrame, mkF, argsToLocals, Value.category]; done) | rfl
def Q3_t (Z : State) (a1 : Addr) (w2 : Addr) (h0 : Heap) (n0 : Nat) (v : Option Value) (h : Heap) (L : List Loc) : Prop := v = some (.int (1 : Int32)) ∧ Fr n0 L ∧ h = h0
set_option maxRecDepth 65536 in
set_option maxHeartbeats 40000000 in
theorem rm3_t (l : Launch) (Z : State) (a0 : Array Value) (hw : ∀ d ∈ tables_1, d.before a0 Z = true) (ws : List Jvm.Cond) (a1 : Addr) (w2 : Addr) (h0 : Heap) (n0 : Nat) (Z0 : n0 ≤ h0.size) (S_TBSTAR : Sta Z h0 "com/example/barts/barts/Server" "TBSTAR" "Lcom/example/barts/barts/Server;" (.ref w2)) (ha4 : a1 = w2) :
    MetFree l (⟨"com/example/barts/barts/Server", "shortensDeadlines", "()Z"⟩ : MethodName) (head1 (Jvm.Cond.code (⟨"com/example/barts/barts/Server", "shortensDeadlines", "()Z"⟩ : MethodName) prog_29_method_7_code 1 (some .boolean) :: ws) ({ frames := 0, cells := 0, slots := 0, locals := 0 } : Room)) (fun a U => a = #[(.ref a1)] ∧ Z.Warmed39 U.vm ∧ U.heap = h0) (fun _ _ _ _ _ => True) (fun _ U o U' => ∃ v L, o = .returned v ∧ Q3_t Z a1 w2 h0 n0 v U'.heap L ∧ FrameEnd U o U' L ({ frames := 0, cells := 0, slots := 0, locals := 0 } : Room).cells ({ frames := 0, cells := 0, slots := 0, locals := 0 } : Room).slots) := by
  refine MetFree.of_bodySF (plainFor_of_name pn_3) hisR ?_
  intro p e s m args below meth c s₁ Bd hml0 hP hK
  obtain ⟨rfl, hZ, hh⟩ := hP
  have hx := Bd.exec
  have hby := Bd.bytes
  have hml : c.maxLocals = 1 := hml0
  have hown : s.vm.findClass "com/example/barts/barts/Server" = some m.cls := findClass_of_methodNamed Bd.named
  have hnm := (name_of_methodNamed Bd.named Bd.method).1
  have X0 : Stand p l e ({ frames := 0, cells := 0, slots := 0, locals := 0 } : Room) s m #[(.ref a1)] below meth c s₁ [] 0 0 := Stand.of_body Bd
  have e0 : s₁.heap = h0 := by rw [← hh, Bd.state]; rfl
  have N0 := Fr.nil n0
  have pre0 : ∀ t, Steps p.tables e below (s₁.setTop (mkF m 0 #[.val (.ref a1)] [])) t → Steps p.tables e below (s₁.setTop (entryFrame m #[(.ref a1)] 1)) t := fun t k => castTop (ef_3 m a1) k
  obtain ⟨T3, X3, e3, st3⟩ := getS2 X0 hx hZ hown (host := "") (Or.inl (hw _ (List.mem_of_getElem? (i := 14) rfl))) Via.refl e0 S_TBSTAR (g := (mkF m 1 #[.val (.ref a1)] [(.ref a1)])) rfl (hb hby d3_1)
  obtain ⟨fs, hr, hrun, hended, hW, hsame⟩ := X3.leave (v := some (.int (1 : Int32))) (fun h => by rw [Bd.returns] at h; cases h) Bd.notSynchronized
  refine ⟨_, _, pre0 _ ?_, hrun, hended, _, _, rfl, ?_, ⟨_, rfl⟩, hW, hsame.mono (by decide) (by decide)⟩
  · show Steps p.tables e below (s₁.setTop (mkF m 0 #[.val (.ref a1)] [])) _
    refine XS.aloadN X0.here hx rfl (hb hby d3_0) rfl rfl ?_
    show Steps p.tables e below (s₁.setTop (mkF m 1 #[.val (.ref a1)] [(.ref a1)])) _
    refine st3 _ ?_
    show Steps p.tables e below (T3.setTop (mkF m 4 #[.val (.ref a1)] [(.ref w2), (.ref a1)])) _
    refine Jvm.RoadKit.acmp (g := (mkF m 4 #[.val (.ref a1)] [(.ref w2), (.ref a1)])) X3 hx rfl rfl rfl (pc0 := 4) (pc' := 14) (same := true) rfl (hb hby d3_4) rfl (decide_eq_true (congrArg Value.ref ha4)) (by decide) (by decide) ?_
    show Steps p.tables e below (T3.setTop (mkF m 14 #[.val (.ref a1)] [])) _
    refine XS.iconst X3.here hx rfl (hb hby d3_14) ?_
    show Steps p.tables e below (T3.setTop (mkF m 15 #[.val (.ref a1)] [(.int (1 : Int32))])) _
    refine XS.goto X3.here hx rfl (pc0 := 15) (pc' := 19) rfl (hb hby d3_15) (by decide) (by decide) ?_
    show Steps p.tables e below (T3.setTop (mkF m 19 #[.val (.ref a1)] [(.int (1 : Int32))])) _
    exact retN X3 hx (t := .boolean) Bd.returns (by simp) (hb hby d3_19) hr
  · show Q3_t Z a1 w2 h0 n0 _ T3.heap _
    rw [e3]
    exact ⟨rfl, N0, rfl⟩

theorem d3_7 : decode prog_29_method_7_code 7 = .ok (.aload_n 0, 1) := by decide +kernel
theorem d3_8 : decode prog_29_method_7_code 8 = .ok (.getstatic 25, 3) := by decide +kernel
theorem d3_11 : decode prog_29_method_7_code 11 = .ok (.if_acmp .ne 7, 3) := by decide +kernel
def Q3_ff (Z : State) (a1 : Addr) (w2 : Addr) (w4 : Addr) (h0 : Heap) (n0 : Nat) (v : Option Value) (h : Heap) (L : List Loc) : Prop := v = some (.int (1 : Int32)) ∧ Fr n0 L ∧ h = h0
set_option maxRecDepth 65536 in
set_option maxHeartbeats 40000000 in
theorem rm3_ff (l : Launch) (Z : State) (a0 : Array Value) (hw : ∀ d ∈ tables_1, d.before a0 Z = true) (ws : List Jvm.Cond) (a1 : Addr) (w2 : Addr) (w4 : Addr) (h0 : Heap) (n0 : Nat) (Z0 : n0 ≤ h0.size) (S_TBSTAR : Sta Z h0 "com/example/barts/barts/Server" "TBSTAR" "Lcom/example/barts/barts/Server;" (.ref w2)) (S_TBSTARH : Sta Z h0 "com/example/barts/barts/Server" "TBSTARH" "Lcom/example/barts/barts/Server;" (.ref w4)) (ha4 : ¬ (a1 = w2)) (ha11 : a1 = w4) :
    MetFree l (⟨"com/example/barts/barts/Server", "shortensDeadlines", "()Z"⟩ : MethodName) (head1 (Jvm.Cond.code (⟨"com/example/barts/barts/Server", "shortensDeadlines", "()Z"⟩ : MethodName) prog_29_method_7_code 1 (some .boolean) :: ws) ({ frames := 0, cells := 0, slots := 0, locals := 0 } : Room)) (fun a U => a = #[(.ref a1)] ∧ Z.Warmed39 U.vm ∧ U.heap = h0) (fun _ _ _ _ _ => True) (fun _ U o U' => ∃ v L, o = .returned v ∧ Q3_ff Z a1 w2 w4 h0 n0 v U'.heap L ∧ FrameEnd U o U' L ({ frames := 0, cells := 0, slots := 0, locals := 0 } : Room).cells ({ frames := 0, cells := 0, slots := 0, locals := 0 } : Room).slots) := by
  refine MetFree.of_bodySF (plainFor_of_name pn_3) hisR ?_
  intro p e s m args below meth c s₁ Bd hml0 hP hK
  obtain ⟨rfl, hZ, hh⟩ := hP
  have hx := Bd.exec
  have hby := Bd.bytes
  have hml : c.maxLocals = 1 := hml0
  have hown : s.vm.findClass "com/example/barts/barts/Server" = some m.cls := findClass_of_methodNamed Bd.named
  have hnm := (name_of_methodNamed Bd.named Bd.method).1
  have X0 : Stand p l e ({ frames := 0, cells := 0, slots := 0, locals := 0 } : Room) s m #[(.ref a1)] below meth c s₁ [] 0 0 := Stand.of_body Bd
  have e0 : s₁.heap = h0 := by rw [← hh, Bd.state]; rfl
  have N0 := Fr.nil n0
  have pre0 : ∀ t, Steps p.tables e below (s₁.setTop (mkF m 0 #[.val (.ref a1)] [])) t → Steps p.tables e below (s₁.setTop (entryFrame m #[(.ref a1)] 1)) t := fun t k => castTop (ef_3 m a1) k
  obtain ⟨T3, X3, e3, st3⟩ := getS2 X0 hx hZ hown (host := "") (Or.inl (hw _ (List.mem_of_getElem? (i := 14) rfl))) Via.refl e0 S_TBSTAR (g := (mkF m 1 #[.val (.ref a1)] [(.ref a1)])) rfl (hb hby d3_1)
  obtain ⟨T5, X5, e5, st5⟩ := getS2 X3 hx hZ hown (host := "") (Or.inl (hw _ (List.mem_of_getElem? (i := 18) rfl))) Via.refl e3 S_TBSTARH (g := (mkF m 8 #[.val (.ref a1)] [(.ref a1)])) rfl (hb hby d3_8)
  obtain ⟨fs, hr, hrun, hended, hW, hsame⟩ := X5.leave (v := some (.int (1 : Int32))) (fun h => by rw [Bd.returns] at h; cases h) Bd.notSynchronized
  refine ⟨_, _, pre0 _ ?_, hrun, hended, _, _, rfl, ?_, ⟨_, rfl⟩, hW, hsame.mono (by decide) (by decide)⟩
  · show Steps p.tables e below (s₁.setTop (mkF m 0 #[.val (.ref a1)] [])) _
    refine XS.aloadN X0.here hx rfl (hb hby d3_0) rfl rfl ?_
    show Steps p.tables e below (s₁.setTop (mkF m 1 #[.val (.ref a1)] [(.ref a1)])) _
    refine st3 _ ?_
    show Steps p.tables e below (T3.setTop (mkF m 4 #[.val (.ref a1)] [(.ref w2), (.ref a1)])) _
    refine Jvm.RoadKit.acmp (g := (mkF m 4 #[.val (.ref a1)] [(.ref w2), (.ref a1)])) X3 hx rfl rfl rfl (pc0 := 4) (pc' := 7) (same := false) rfl (hb hby d3_4) rfl (decide_eq_false fun q => ha4 (Value.ref.inj q)) (by decide) (by decide) ?_
    show Steps p.tables e below (T3.setTop (mkF m 7 #[.val (.ref a1)] [])) _
    refine XS.aloadN X3.here hx rfl (hb hby d3_7) rfl rfl ?_
    show Steps p.tables e below (T3.setTop (mkF m 8 #[.val (.ref a1)] [(.ref a1)])) _
    refine st5 _ ?_
    show Steps p.tables e below (T5.setTop (mkF m 11 #[.val (.ref a1)] [(.ref w4), (.ref a1)])) _
    refine Jvm.RoadKit.acmp (g := (mkF m 11 #[.val (.ref a1)] [(.ref w4), (.ref a1)])) X5 hx rfl rfl rfl (pc0 := 11) (pc' := 14) (same := true) rfl (hb hby d3_11) rfl (decide_eq_true (congrArg Value.ref ha11)) (by decide) (by decide) ?_
    show Steps p.tables e below (T5.setTop (mkF m 14 #[.val (.ref a1)] [])) _
    refine XS.iconst X5.here hx rfl (hb hby d3_14) ?_
    show Steps p.tables e below (T5.setTop (mkF m 15 #[.val (.ref a1)] [(.int (1 : Int32))])) _
    refine XS.goto X5.here hx rfl (pc0 := 15) (pc' := 19) rfl (hb hby d3_15) (by decide) (by decide) ?_
    show Steps p.tables e below (T5.setTop (mkF m 19 #[.val (.ref a1)] [(.int (1 : Int32))])) _
    exact retN X5 hx (t := .boolean) Bd.returns (by simp) (hb hby d3_19) hr
  · show Q3_ff Z a1 w2 w4 h0 n0 _ T5.heap _
    rw [e5]
    exact ⟨rfl, N0, rfl⟩

theorem d3_18 : decode prog_29_method_7_code 18 = .ok (.iconst 0, 1) := by decide +kernel
def Q3_ft (Z : State) (a1 : Addr) (w2 : Addr) (w4 : Addr) (h0 : Heap) (n0 : Nat) (v : Option Value) (h : Heap) (L : List Loc) : Prop := v = some (.int (0 : Int32)) ∧ Fr n0 L ∧ h = h0
set_option maxRecDepth 65536 in
set_option maxHeartbeats 40000000 in
theorem rm3_ft (l : Launch) (Z : State) (a0 : Array Value) (hw : ∀ d ∈ tables_1, d.before a0 Z = true) (ws : List Jvm.Cond) (a1 : Addr) (w2 : Addr) (w4 : Addr) (h0 : Heap) (n0 : Nat) (Z0 : n0 ≤ h0.size) (S_TBSTAR : Sta Z h0 "com/example/barts/barts/Server" "TBSTAR" "Lcom/example/barts/barts/Server;" (.ref w2)) (S_TBSTARH : Sta Z h0 "com/example/barts/barts/Server" "TBSTARH" "Lcom/example/barts/barts/Server;" (.ref w4)) (ha4 : ¬ (a1 = w2)) (ha11 : ¬ (a1 = w4)) :
    MetFree l (⟨"com/example/barts/barts/Server", "shortensDeadlines", "()Z"⟩ : MethodName) (head1 (Jvm.Cond.code (⟨"com/example/barts/barts/Server", "shortensDeadlines", "()Z"⟩ : MethodName) prog_29_method_7_code 1 (some .boolean) :: ws) ({ frames := 0, cells := 0, slots := 0, locals := 0 } : Room)) (fun a U => a = #[(.ref a1)] ∧ Z.Warmed39 U.vm ∧ U.heap = h0) (fun _ _ _ _ _ => True) (fun _ U o U' => ∃ v L, o = .returned v ∧ Q3_ft Z a1 w2 w4 h0 n0 v U'.heap L ∧ FrameEnd U o U' L ({ frames := 0, cells := 0, slots := 0, locals := 0 } : Room).cells ({ frames := 0, cells := 0, slots := 0, locals := 0 } : Room).slots) := by
  refine MetFree.of_bodySF (plainFor_of_name pn_3) hisR ?_
  intro p e s m args below meth c s₁ Bd hml0 hP hK
  obtain ⟨rfl, hZ, hh⟩ := hP
  have hx := Bd.exec
  have hby := Bd.bytes
  have hml : c.maxLocals = 1 := hml0
  have hown : s.vm.findClass "com/example/barts/barts/Server" = some m.cls := findClass_of_methodNamed Bd.named
  have hnm := (name_of_methodNamed Bd.named Bd.method).1
  have X0 : Stand p l e ({ frames := 0, cells := 0, slots := 0, locals := 0 } : Room) s m #[(.ref a1)] below meth c s₁ [] 0 0 := Stand.of_body Bd
  have e0 : s₁.heap = h0 := by rw [← hh, Bd.state]; rfl
  have N0 := Fr.nil n0
  have pre0 : ∀ t, Steps p.tables e below (s₁.setTop (mkF m 0 #[.val (.ref a1)] [])) t → Steps p.tables e below (s₁.setTop (entryFrame m #[(.ref a1)] 1)) t := fun t k => castTop (ef_3 m a1) k
  obtain ⟨T3, X3, e3, st3⟩ := getS2 X0 hx hZ hown (host := "") (Or.inl (hw _ (List.mem_of_getElem? (i := 14) rfl))) Via.refl e0 S_TBSTAR (g := (mkF m 1 #[.val (.ref a1)] [(.ref a1)])) rfl (hb hby d3_1)
  obtain ⟨T5, X5, e5, st5⟩ := getS2 X3 hx hZ hown (host := "") (Or.inl (hw _ (List.mem_of_getElem? (i := 18) rfl))) Via.refl e3 S_TBSTARH (g := (mkF m 8 #[.val (.ref a1)] [(.ref a1)])) rfl (hb hby d3_8)
  obtain ⟨fs, hr, hrun, hended, hW, hsame⟩ := X5.leave (v := some (.int (0 : Int32))) (fun h => by rw [Bd.returns] at h; cases h) Bd.notSynchronized
  refine ⟨_, _, pre0 _ ?_, hrun, hended, _, _, rfl, ?_, ⟨_, rfl⟩, hW, hsame.mono (by decide) (by decide)⟩
  · show Steps p.tables e below (s₁.setTop (mkF m 0 #[.val (.ref a1)] [])) _
    refine XS.aloadN X0.here hx rfl (hb hby d3_0) rfl rfl ?_
    show Steps p.tables e below (s₁.setTop (mkF m 1 #[.val (.ref a1)] [(.ref a1)])) _
    refine st3 _ ?_
    show Steps p.tables e below (T3.setTop (mkF m 4 #[.val (.ref a1)] [(.ref w2), (.ref a1)])) _
    refine Jvm.RoadKit.acmp (g := (mkF m 4 #[.val (.ref a1)] [(.ref w2), (.ref a1)])) X3 hx rfl rfl rfl (pc0 := 4) (pc' := 7) (same := false) rfl (hb hby d3_4) rfl (decide_eq_false fun q => ha4 (Value.ref.inj q)) (by decide) (by decide) ?_
    show Steps p.tables e below (T3.setTop (mkF m 7 #[.val (.ref a1)] [])) _
    refine XS.aloadN X3.here hx rfl (hb hby d3_7) rfl rfl ?_
    show Steps p.tables e below (T3.setTop (mkF m 8 #[.val (.ref a1)] [(.ref a1)])) _
    refine st5 _ ?_
    show Steps p.tables e below (T5.setTop (mkF m 11 #[.val (.ref a1)] [(.ref w4), (.ref a1)])) _
    refine Jvm.RoadKit.acmp (g := (mkF m 11 #[.val (.ref a1)] [(.ref w4), (.ref a1)])) X5 hx rfl rfl rfl (pc0 := 11) (pc' := 18) (same := false) rfl (hb hby d3_11) rfl (decide_eq_false fun q => ha11 (Value.ref.inj q)) (by decide) (by decide) ?_
    show Steps p.tables e below (T5.setTop (mkF m 18 #[.val (.ref a1)] [])) _
    refine XS.iconst X5.here hx rfl (hb hby d3_18) ?_
    show Steps p.tables e below (T5.setTop (mkF m 19 #[.val (.ref a1)] [(.int (0 : Int32))])) _
    exact retN X5 hx (t := .boolean) Bd.returns (by simp) (hb hby d3_19) hr
  · show Q3_ft Z a1 w2 w4 h0 n0 _ T5.heap _
    rw [e5]
    exact ⟨rfl, N0, rfl⟩

theorem d4_0 : decode prog_29_method_8_code 0 = .ok (.aload_n 0, 1) := by decide +kernel
theorem d4_1 : decode prog_29_method_8_code 1 = .ok (.getstatic 22, 3) := by decide +kernel
theorem d4_4 : decode prog_29_method_8_code 4 = .ok (.if_acmp .eq 10, 3) := by decide +kernel
theorem d4_14 : decode prog_29_method_8_code 14 = .ok (.iconst 1, 1) := by decide +kernel
theorem d4_15 : decode prog_29_method_8_code 15 = .ok (.goto 4, 3) := by decide +kernel
theorem d4_19 : decode prog_29_method_8_code 19 = .ok (.ireturn, 1) := by decide +kernel
theorem pn_4 : plainName "com/example/barts/barts/Server" = true := by first | (simp [plainName, overriddenIn]; done) | decide +kernel
theorem ef_4 (m : MethodId) (x0 : Addr) : entryFrame m #[(.ref x0)] 1 = mkF m 0 #[.val (.ref x0)] [] := by first | (simp [entryFrame, mkF, argsToLocals, Value.category]; done) | rfl
def Q4_t (Z : State) (a1 : Addr) (w2 : Addr) (h0 : Heap) (n0 : Nat) (v : Option Value) (h : Heap) (L : List Loc) : Prop := v = some (.int (1 : Int32)) ∧ Fr n0 L ∧ h = h0
set_option maxRecDepth 65536 in
set_option maxHeartbeats 40000000 in
theorem rm4_t (l : Launch) (Z : State) (a0 : Array Value) (hw : ∀ d ∈ tables_1, d.before a0 Z = true) (ws : List Jvm.Cond) (a1 : Addr) (w2 : Addr) (h0 : Heap) (n0 : Nat) (Z0 : n0 ≤ h0.size) (S_TBH : Sta Z h0 "com/example/barts/barts/Server" "TBH" "Lcom/example/barts/barts/Server;" (.ref w2)) (ha4 : a1 = w2) :
    MetFree l (⟨"com/example/barts/barts/Server", "weighsEnergy", "()Z"⟩ : MethodName) (head1 (Jvm.Cond.code (⟨"com/example/barts/barts/Server", "weighsEnergy", "()Z"⟩ : MethodName) prog_29_method_8_code 1 (some .boolean) :: ws) ({ frames := 0, cells := 0, slots := 0, locals := 0 } : Room)) (fun a U => a = #[(.ref a1)] ∧ Z.Warmed39 U.vm ∧ U.heap = h0) (fun _ _ _ _ _ => True) (fun _ U o U' => ∃ v L, o = .returned v ∧ Q4_t Z a1 w2 h0 n0 v U'.heap L ∧ FrameEnd U o U' L ({ frames := 0, cells := 0, slots := 0, locals := 0 } : Room).cells ({ frames := 0, cells := 0, slots := 0, locals := 0 } : Room).slots) := by
  refine MetFree.of_bodySF (plainFor_of_name pn_4) hisR ?_
  intro p e s m args below meth c s₁ Bd hml0 hP hK
  obtain ⟨rfl, hZ, hh⟩ := hP
  have hx := Bd.exec
  have hby := Bd.bytes
  have hml : c.maxLocals = 1 := hml0
  have hown : s.vm.findClass "com/example/barts/barts/Server" = some m.cls := findClass_of_methodNamed Bd.named
  have hnm := (name_of_methodNamed Bd.named Bd.method).1
  have X0 : Stand p l e ({ frames := 0, cells := 0, slots := 0, locals := 0 } : Room) s m #[(.ref a1)] below meth c s₁ [] 0 0 := Stand.of_body Bd
  have e0 : s₁.heap = h0 := by rw [← hh, Bd.state]; rfl
  have N0 := Fr.nil n0
  have pre0 : ∀ t, Steps p.tables e below (s₁.setTop (mkF m 0 #[.val (.ref a1)] [])) t → Steps p.tables e below (s₁.setTop (entryFrame m #[(.ref a1)] 1)) t := fun t k => castTop (ef_4 m a1) k
  obtain ⟨T3, X3, e3, st3⟩ := getS2 X0 hx hZ hown (host := "") (Or.inl (hw _ (List.mem_of_getElem? (i := 16) rfl))) Via.refl e0 S_TBH (g := (mkF m 1 #[.val (.ref a1)] [(.ref a1)])) rfl (hb hby d4_1)
  obtain ⟨fs, hr, hrun, hended, hW, hsame⟩ := X3.leave (v := some (.int (1 : Int32))) (fun h => by rw [Bd.returns] at h; cases h) Bd.notSynchronized
  refine ⟨_, _, pre0 _ ?_, hrun, hended, _, _, rfl, ?_, ⟨_, rfl⟩, hW, hsame.mono (by decide) (by decide)⟩
  · show Steps p.tables e below (s₁.setTop (mkF m 0 #[.val (.ref a1)] [])) _
    refine XS.aloadN X0.here hx rfl (hb hby d4_0) rfl rfl ?_
    show Steps p.tables e below (s₁.setTop (mkF m 1 #[.val (.ref a1)] [(.ref a1)])) _
    refine st3 _ ?_
    show Steps p.tables e below (T3.setTop (mkF m 4 #[.val (.ref a1)] [(.ref w2), (.ref a1)])) _
    refine Jvm.RoadKit.acmp (g := (mkF m 4 #[.val (.ref a1)] [(.ref w2), (.ref a1)])) X3 hx rfl rfl rfl (pc0 := 4) (pc' := 14) (same := true) rfl (hb hby d4_4) rfl (decide_eq_true (congrArg Value.ref ha4)) (by decide) (by decide) ?_
    show Steps p.tables e below (T3.setTop (mkF m 14 #[.val (.ref a1)] [])) _
    refine XS.iconst X3.here hx rfl (hb hby d4_14) ?_
    show Steps p.tables e below (T3.setTop (mkF m 15 #[.val (.ref a1)] [(.int (1 : Int32))])) _
    refine XS.goto X3.here hx rfl (pc0 := 15) (pc' := 19) rfl (hb hby d4_15) (by decide) (by decide) ?_
    show Steps p.tables e below (T3.setTop (mkF m 19 #[.val (.ref a1)] [(.int (1 : Int32))])) _
    exact retN X3 hx (t := .boolean) Bd.returns (by simp) (hb hby d4_19) hr
  · show Q4_t Z a1 w2 h0 n0 _ T3.heap _
    rw [e3]
    exact ⟨rfl, N0, rfl⟩

theorem d4_7 : decode prog_29_method_8_code 7 = .ok (.aload_n 0, 1) := by decide +kernel
theorem d4_8 : decode prog_29_method_8_code 8 = .ok (.getstatic 25, 3) := by decide +kernel
theorem d4_11 : decode prog_29_method_8_code 11 = .ok (.if_acmp .ne 7, 3) := by decide +kernel
def Q4_ff (Z : State) (a1 : Addr) (w2 : Addr) (w4 : Addr) (h0 : Heap) (n0 : Nat) (v : Option Value) (h : Heap) (L : List Loc) : Prop := v = some (.int (1 : Int32)) ∧ Fr n0 L ∧ h = h0
set_option maxRecDepth 65536 in
set_option maxHeartbeats 40000000 in
theorem rm4_ff (l : Launch) (Z : State) (a0 : Array Value) (hw : ∀ d ∈ tables_1, d.before a0 Z = true) (ws : List Jvm.Cond) (a1 : Addr) (w2 : Addr) (w4 : Addr) (h0 : Heap) (n0 : Nat) (Z0 : n0 ≤ h0.size) (S_TBH : Sta Z h0 "com/example/barts/barts/Server" "TBH" "Lcom/example/barts/barts/Server;" (.ref w2)) (S_TBSTARH : Sta Z h0 "com/example/barts/barts/Server" "TBSTARH" "Lcom/example/barts/barts/Server;" (.ref w4)) (ha4 : ¬ (a1 = w2)) (ha11 : a1 = w4) :
    MetFree l (⟨"com/example/barts/barts/Server", "weighsEnergy", "()Z"⟩ : MethodName) (head1 (Jvm.Cond.code (⟨"com/example/barts/barts/Server", "weighsEnergy", "()Z"⟩ : MethodName) prog_29_method_8_code 1 (some .boolean) :: ws) ({ frames := 0, cells := 0, slots := 0, locals := 0 } : Room)) (fun a U => a = #[(.ref a1)] ∧ Z.Warmed39 U.vm ∧ U.heap = h0) (fun _ _ _ _ _ => True) (fun _ U o U' => ∃ v L, o = .returned v ∧ Q4_ff Z a1 w2 w4 h0 n0 v U'.heap L ∧ FrameEnd U o U' L ({ frames := 0, cells := 0, slots := 0, locals := 0 } : Room).cells ({ frames := 0, cells := 0, slots := 0, locals := 0 } : Room).slots) := by
  refine MetFree.of_bodySF (plainFor_of_name pn_4) hisR ?_
  intro p e s m args below meth c s₁ Bd hml0 hP hK
  obtain ⟨rfl, hZ, hh⟩ := hP
  have hx := Bd.exec
  have hby := Bd.bytes
  have hml : c.maxLocals = 1 := hml0
  have hown : s.vm.findClass "com/example/barts/barts/Server" = some m.cls := findClass_of_methodNamed Bd.named
  have hnm := (name_of_methodNamed Bd.named Bd.method).1
  have X0 : Stand p l e ({ frames := 0, cells := 0, slots := 0, locals := 0 } : Room) s m #[(.ref a1)] below meth c s₁ [] 0 0 := Stand.of_body Bd
  have e0 : s₁.heap = h0 := by rw [← hh, Bd.state]; rfl
  have N0 := Fr.nil n0
  have pre0 : ∀ t, Steps p.tables e below (s₁.setTop (mkF m 0 #[.val (.ref a1)] [])) t → Steps p.tables e below (s₁.setTop (entryFrame m #[(.ref a1)] 1)) t := fun t k => castTop (ef_4 m a1) k
  obtain ⟨T3, X3, e3, st3⟩ := getS2 X0 hx hZ hown (host := "") (Or.inl (hw _ (List.mem_of_getElem? (i := 16) rfl))) Via.refl e0 S_TBH (g := (mkF m 1 #[.val (.ref a1)] [(.ref a1)])) rfl (hb hby d4_1)
  obtain ⟨T5, X5, e5, st5⟩ := getS2 X3 hx hZ hown (host := "") (Or.inl (hw _ (List.mem_of_getElem? (i := 18) rfl))) Via.refl e3 S_TBSTARH (g := (mkF m 8 #[.val (.ref a1)] [(.ref a1)])) rfl (hb hby d4_8)
  obtain ⟨fs, hr, hrun, hended, hW, hsame⟩ := X5.leave (v := some (.int (1 : Int32))) (fun h => by rw [Bd.returns] at h; cases h) Bd.notSynchronized
  refine ⟨_, _, pre0 _ ?_, hrun, hended, _, _, rfl, ?_, ⟨_, rfl⟩, hW, hsame.mono (by decide) (by decide)⟩
  · show Steps p.tables e below (s₁.setTop (mkF m 0 #[.val (.ref a1)] [])) _
    refine XS.aloadN X0.here hx rfl (hb hby d4_0) rfl rfl ?_
    show Steps p.tables e below (s₁.setTop (mkF m 1 #[.val (.ref a1)] [(.ref a1)])) _
    refine st3 _ ?_
    show Steps p.tables e below (T3.setTop (mkF m 4 #[.val (.ref a1)] [(.ref w2), (.ref a1)])) _
    refine Jvm.RoadKit.acmp (g := (mkF m 4 #[.val (.ref a1)] [(.ref w2), (.ref a1)])) X3 hx rfl rfl rfl (pc0 := 4) (pc' := 7) (same := false) rfl (hb hby d4_4) rfl (decide_eq_false fun q => ha4 (Value.ref.inj q)) (by decide) (by decide) ?_
    show Steps p.tables e below (T3.setTop (mkF m 7 #[.val (.ref a1)] [])) _
    refine XS.aloadN X3.here hx rfl (hb hby d4_7) rfl rfl ?_
    show Steps p.tables e below (T3.setTop (mkF m 8 #[.val (.ref a1)] [(.ref a1)])) _
    refine st5 _ ?_
    show Steps p.tables e below (T5.setTop (mkF m 11 #[.val (.ref a1)] [(.ref w4), (.ref a1)])) _
    refine Jvm.RoadKit.acmp (g := (mkF m 11 #[.val (.ref a1)] [(.ref w4), (.ref a1)])) X5 hx rfl rfl rfl (pc0 := 11) (pc' := 14) (same := true) rfl (hb hby d4_11) rfl (decide_eq_true (congrArg Value.ref ha11)) (by decide) (by decide) ?_
    show Steps p.tables e below (T5.setTop (mkF m 14 #[.val (.ref a1)] [])) _
    refine XS.iconst X5.here hx rfl (hb hby d4_14) ?_
    show Steps p.tables e below (T5.setTop (mkF m 15 #[.val (.ref a1)] [(.int (1 : Int32))])) _
    refine XS.goto X5.here hx rfl (pc0 := 15) (pc' := 19) rfl (hb hby d4_15) (by decide) (by decide) ?_
    show Steps p.tables e below (T5.setTop (mkF m 19 #[.val (.ref a1)] [(.int (1 : Int32))])) _
    exact retN X5 hx (t := .boolean) Bd.returns (by simp) (hb hby d4_19) hr
  · show Q4_ff Z a1 w2 w4 h0 n0 _ T5.heap _
    rw [e5]
    exact ⟨rfl, N0, rfl⟩

theorem d4_18 : decode prog_29_method_8_code 18 = .ok (.iconst 0, 1) := by decide +kernel
def Q4_ft (Z : State) (a1 : Addr) (w2 : Addr) (w4 : Addr) (h0 : Heap) (n0 : Nat) (v : Option Value) (h : Heap) (L : List Loc) : Prop := v = some (.int (0 : Int32)) ∧ Fr n0 L ∧ h = h0
set_option maxRecDepth 65536 in
set_option maxHeartbeats 40000000 in
theorem rm4_ft (l : Launch) (Z : State) (a0 : Array Value) (hw : ∀ d ∈ tables_1, d.before a0 Z = true) (ws : List Jvm.Cond) (a1 : Addr) (w2 : Addr) (w4 : Addr) (h0 : Heap) (n0 : Nat) (Z0 : n0 ≤ h0.size) (S_TBH : Sta Z h0 "com/example/barts/barts/Server" "TBH" "Lcom/example/barts/barts/Server;" (.ref w2)) (S_TBSTARH : Sta Z h0 "com/example/barts/barts/Server" "TBSTARH" "Lcom/example/barts/barts/Server;" (.ref w4)) (ha4 : ¬ (a1 = w2)) (ha11 : ¬ (a1 = w4)) :
    MetFree l (⟨"com/example/barts/barts/Server", "weighsEnergy", "()Z"⟩ : MethodName) (head1 (Jvm.Cond.code (⟨"com/example/barts/barts/Server", "weighsEnergy", "()Z"⟩ : MethodName) prog_29_method_8_code 1 (some .boolean) :: ws) ({ frames := 0, cells := 0, slots := 0, locals := 0 } : Room)) (fun a U => a = #[(.ref a1)] ∧ Z.Warmed39 U.vm ∧ U.heap = h0) (fun _ _ _ _ _ => True) (fun _ U o U' => ∃ v L, o = .returned v ∧ Q4_ft Z a1 w2 w4 h0 n0 v U'.heap L ∧ FrameEnd U o U' L ({ frames := 0, cells := 0, slots := 0, locals := 0 } : Room).cells ({ frames := 0, cells := 0, slots := 0, locals := 0 } : Room).slots) := by
  refine MetFree.of_bodySF (plainFor_of_name pn_4) hisR ?_
  intro p e s m args below meth c s₁ Bd hml0 hP hK
  obtain ⟨rfl, hZ, hh⟩ := hP
  have hx := Bd.exec
  have hby := Bd.bytes
  have hml : c.maxLocals = 1 := hml0
  have hown : s.vm.findClass "com/example/barts/barts/Server" = some m.cls := findClass_of_methodNamed Bd.named
  have hnm := (name_of_methodNamed Bd.named Bd.method).1
  have X0 : Stand p l e ({ frames := 0, cells := 0, slots := 0, locals := 0 } : Room) s m #[(.ref a1)] below meth c s₁ [] 0 0 := Stand.of_body Bd
  have e0 : s₁.heap = h0 := by rw [← hh, Bd.state]; rfl
  have N0 := Fr.nil n0
  have pre0 : ∀ t, Steps p.tables e below (s₁.setTop (mkF m 0 #[.val (.ref a1)] [])) t → Steps p.tables e below (s₁.setTop (entryFrame m #[(.ref a1)] 1)) t := fun t k => castTop (ef_4 m a1) k
  obtain ⟨T3, X3, e3, st3⟩ := getS2 X0 hx hZ hown (host := "") (Or.inl (hw _ (List.mem_of_getElem? (i := 16) rfl))) Via.refl e0 S_TBH (g := (mkF m 1 #[.val (.ref a1)] [(.ref a1)])) rfl (hb hby d4_1)
  obtain ⟨T5, X5, e5, st5⟩ := getS2 X3 hx hZ hown (host := "") (Or.inl (hw _ (List.mem_of_getElem? (i := 18) rfl))) Via.refl e3 S_TBSTARH (g := (mkF m 8 #[.val (.ref a1)] [(.ref a1)])) rfl (hb hby d4_8)
  obtain ⟨fs, hr, hrun, hended, hW, hsame⟩ := X5.leave (v := some (.int (0 : Int32))) (fun h => by rw [Bd.returns] at h; cases h) Bd.notSynchronized
  refine ⟨_, _, pre0 _ ?_, hrun, hended, _, _, rfl, ?_, ⟨_, rfl⟩, hW, hsame.mono (by decide) (by decide)⟩
  · show Steps p.tables e below (s₁.setTop (mkF m 0 #[.val (.ref a1)] [])) _
    refine XS.aloadN X0.here hx rfl (hb hby d4_0) rfl rfl ?_
    show Steps p.tables e below (s₁.setTop (mkF m 1 #[.val (.ref a1)] [(.ref a1)])) _
    refine st3 _ ?_
    show Steps p.tables e below (T3.setTop (mkF m 4 #[.val (.ref a1)] [(.ref w2), (.ref a1)])) _
    refine Jvm.RoadKit.acmp (g := (mkF m 4 #[.val (.ref a1)] [(.ref w2), (.ref a1)])) X3 hx rfl rfl rfl (pc0 := 4) (pc' := 7) (same := false) rfl (hb hby d4_4) rfl (decide_eq_false fun q => ha4 (Value.ref.inj q)) (by decide) (by decide) ?_
    show Steps p.tables e below (T3.setTop (mkF m 7 #[.val (.ref a1)] [])) _
    refine XS.aloadN X3.here hx rfl (hb hby d4_7) rfl rfl ?_
    show Steps p.tables e below (T3.setTop (mkF m 8 #[.val (.ref a1)] [(.ref a1)])) _
    refine st5 _ ?_
    show Steps p.tables e below (T5.setTop (mkF m 11 #[.val (.ref a1)] [(.ref w4), (.ref a1)])) _
    refine Jvm.RoadKit.acmp (g := (mkF m 11 #[.val (.ref a1)] [(.ref w4), (.ref a1)])) X5 hx rfl rfl rfl (pc0 := 11) (pc' := 18) (same := false) rfl (hb hby d4_11) rfl (decide_eq_false fun q => ha11 (Value.ref.inj q)) (by decide) (by decide) ?_
    show Steps p.tables e below (T5.setTop (mkF m 18 #[.val (.ref a1)] [])) _
    refine XS.iconst X5.here hx rfl (hb hby d4_18) ?_
    show Steps p.tables e below (T5.setTop (mkF m 19 #[.val (.ref a1)] [(.int (0 : Int32))])) _
    exact retN X5 hx (t := .boolean) Bd.returns (by simp) (hb hby d4_19) hr
  · show Q4_ft Z a1 w2 w4 h0 n0 _ T5.heap _
    rw [e5]
    exact ⟨rfl, N0, rfl⟩

theorem d5_0 : decode prog_29_method_5_code 0 = .ok (.aload_n 0, 1) := by decide +kernel
theorem d5_1 : decode prog_29_method_5_code 1 = .ok (.getfield 51, 3) := by decide +kernel
theorem d5_4 : decode prog_29_method_5_code 4 = .ok (.ireturn, 1) := by decide +kernel
theorem pn_5 : plainName "com/example/barts/barts/Server" = true := by first | (simp [plainName, overriddenIn]; done) | decide +kernel
theorem ef_5 (m : MethodId) (x0 : Addr) : entryFrame m #[(.ref x0)] 1 = mkF m 0 #[.val (.ref x0)] [] := by first | (simp [entryFrame, mkF, argsToLocals, Value.category]; done) | rfl
def Q5_x (Z : State) (a1 : Addr) (h0 : Heap) (n0 : Nat) (v : Option Value) (h : Heap) (L : List Loc) : Prop := v = some (.int (0 : Int32)) ∧ Fr n0 L ∧ h = h0
set_option maxRecDepth 65536 in
set_option maxHeartbeats 40000000 in
theorem rm5_x (l : Launch) (Z : State) (a0 : Array Value) (hw : ∀ d ∈ tables_1, d.before a0 Z = true) (ws : List Jvm.Cond) (a1 : Addr) (h0 : Heap) (n0 : Nat) (Z0 : n0 ≤ h0.size) (F_background_a1 : Fld Z h0 a1 "com/example/barts/barts/Server" "background" "Z" (.int (0 : Int32))) :
    MetFree l (⟨"com/example/barts/barts/Server", "isBackground", "()Z"⟩ : MethodName) (head1 (Jvm.Cond.code (⟨"com/example/barts/barts/Server", "isBackground", "()Z"⟩ : MethodName) prog_29_method_5_code 1 (some .boolean) :: ws) ({ frames := 0, cells := 0, slots := 0, locals := 0 } : Room)) (fun a U => a = #[(.ref a1)] ∧ Z.Warmed39 U.vm ∧ U.heap = h0) (fun _ _ _ _ _ => True) (fun _ U o U' => ∃ v L, o = .returned v ∧ Q5_x Z a1 h0 n0 v U'.heap L ∧ FrameEnd U o U' L ({ frames := 0, cells := 0, slots := 0, locals := 0 } : Room).cells ({ frames := 0, cells := 0, slots := 0, locals := 0 } : Room).slots) := by
  refine MetFree.of_bodySF (plainFor_of_name pn_5) hisR ?_
  intro p e s m args below meth c s₁ Bd hml0 hP hK
  obtain ⟨rfl, hZ, hh⟩ := hP
  have hx := Bd.exec
  have hby := Bd.bytes
  have hml : c.maxLocals = 1 := hml0
  have hown : s.vm.findClass "com/example/barts/barts/Server" = some m.cls := findClass_of_methodNamed Bd.named
  have hnm := (name_of_methodNamed Bd.named Bd.method).1
  have X0 : Stand p l e ({ frames := 0, cells := 0, slots := 0, locals := 0 } : Room) s m #[(.ref a1)] below meth c s₁ [] 0 0 := Stand.of_body Bd
  have e0 : s₁.heap = h0 := by rw [← hh, Bd.state]; rfl
  have N0 := Fr.nil n0
  have pre0 : ∀ t, Steps p.tables e below (s₁.setTop (mkF m 0 #[.val (.ref a1)] [])) t → Steps p.tables e below (s₁.setTop (entryFrame m #[(.ref a1)] 1)) t := fun t k => castTop (ef_5 m a1) k
  obtain ⟨T3, X3, e3, st3⟩ := getF X0 hx hZ hown (host := "") (Or.inl (hw _ (List.mem_of_getElem? (i := 38) rfl))) Via.refl e0 F_background_a1 (g := (mkF m 1 #[.val (.ref a1)] [(.ref a1)])) rfl rfl (hb hby d5_1)
  obtain ⟨fs, hr, hrun, hended, hW, hsame⟩ := X3.leave (v := some (.int (0 : Int32))) (fun h => by rw [Bd.returns] at h; cases h) Bd.notSynchronized
  refine ⟨_, _, pre0 _ ?_, hrun, hended, _, _, rfl, ?_, ⟨_, rfl⟩, hW, hsame.mono (by decide) (by decide)⟩
  · show Steps p.tables e below (s₁.setTop (mkF m 0 #[.val (.ref a1)] [])) _
    refine XS.aloadN X0.here hx rfl (hb hby d5_0) rfl rfl ?_
    show Steps p.tables e below (s₁.setTop (mkF m 1 #[.val (.ref a1)] [(.ref a1)])) _
    refine st3 _ ?_
    show Steps p.tables e below (T3.setTop (mkF m 4 #[.val (.ref a1)] [(.int (0 : Int32))])) _
    exact retN X3 hx (t := .boolean) Bd.returns (by simp) (hb hby d5_4) hr
  · show Q5_x Z a1 h0 n0 _ T3.heap _
    rw [e3]
    exact ⟨rfl, N0, rfl⟩

theorem pn_0 : plainName "com/example/barts/barts/ServerAssignsDeadlinesPinLaw" = true := by first | (simp [plainName, overriddenIn]; done) | decide +kernel
theorem pd_0_0 : parseMethodDescriptor "(I)Lcom/example/barts/barts/Server;" = some ⟨[.int], some (.object "com/example/barts/barts/Server")⟩ := by decide +kernel
theorem pd_0_1 : parseMethodDescriptor "()Z" = some ⟨[], some .boolean⟩ := by decide +kernel
theorem ef_0 (m : MethodId) (x0 : Int32) : entryFrame m #[(.int x0)] maxLocals = mkF m 0 #[.val (.int x0), .unset, .unset, .unset, .unset] [] := by first | (simp [entryFrame, mkF, argsToLocals, Value.category, maxLocals]; done) | rfl
def Q0 (Z : State) (p1 : Int32) (h0 : Heap) (n0 : Nat) (v : Option Value) (h : Heap) (L : List Loc) : Prop := v = some (.int (1 : Int32)) ∧ Fr n0 L
set_option maxRecDepth 65536 in
set_option maxHeartbeats 40000000 in
theorem rm0_BG (l : Launch) (Z : State) (a0 : Array Value) (hw : ∀ d ∈ tables_1, d.before a0 Z = true) (ws : List Jvm.Cond) (p1 : Int32) (w_BG : Addr) (w_BES : Addr) (w_BEP : Addr) (w_SSP : Addr) (w_TBS : Addr) (w_TBSTAR : Addr) (w_TBH : Addr) (w_TBSTARH : Addr) (h0 : Heap) (n0 : Nat) (Z0 : n0 ≤ h0.size) (S_BG : Sta Z h0 "com/example/barts/barts/Server" "BG" "Lcom/example/barts/barts/Server;" (.ref w_BG)) (E_BG : Exa Z h0 w_BG "com/example/barts/barts/Server") (S_BES : Sta Z h0 "com/example/barts/barts/Server" "BES" "Lcom/example/barts/barts/Server;" (.ref w_BES)) (E_BES : Exa Z h0 w_BES "com/example/barts/barts/Server") (S_BEP : Sta Z h0 "com/example/barts/barts/Server" "BEP" "Lcom/example/barts/barts/Server;" (.ref w_BEP)) (E_BEP : Exa Z h0 w_BEP "com/example/barts/barts/Server") (S_SSP : Sta Z h0 "com/example/barts/barts/Server" "SSP" "Lcom/example/barts/barts/Server;" (.ref w_SSP)) (E_SSP : Exa Z h0 w_SSP "com/example/barts/barts/Server") (S_TBS : Sta Z h0 "com/example/barts/barts/Server" "TBS" "Lcom/example/barts/barts/Server;" (.ref w_TBS)) (E_TBS : Exa Z h0 w_TBS "com/example/barts/barts/Server") (S_TBSTAR : Sta Z h0 "com/example/barts/barts/Server" "TBSTAR" "Lcom/example/barts/barts/Server;" (.ref w_TBSTAR)) (E_TBSTAR : Exa Z h0 w_TBSTAR "com/example/barts/barts/Server") (S_TBH : Sta Z h0 "com/example/barts/barts/Server" "TBH" "Lcom/example/barts/barts/Server;" (.ref w_TBH)) (E_TBH : Exa Z h0 w_TBH "com/example/barts/barts/Server") (S_TBSTARH : Sta Z h0 "com/example/barts/barts/Server" "TBSTARH" "Lcom/example/barts/barts/Server;" (.ref w_TBSTARH)) (E_TBSTARH : Exa Z h0 w_TBSTARH "com/example/barts/barts/Server") (F_TBS_background : Fld Z h0 w_TBS "com/example/barts/barts/Server" "background" "Z" (.int (0 : Int32))) (F_TBSTAR_background : Fld Z h0 w_TBSTAR "com/example/barts/barts/Server" "background" "Z" (.int (0 : Int32))) (F_TBH_background : Fld Z h0 w_TBH "com/example/barts/barts/Server" "background" "Z" (.int (0 : Int32))) (F_TBSTARH_background : Fld Z h0 w_TBSTARH "com/example/barts/barts/Server" "background" "Z" (.int (0 : Int32))) (ne_BG_TBS : ¬ w_BG = w_TBS) (ne_BG_TBSTAR : ¬ w_BG = w_TBSTAR) (ne_BG_TBH : ¬ w_BG = w_TBH) (ne_BG_TBSTARH : ¬ w_BG = w_TBSTARH) (ne_BES_TBS : ¬ w_BES = w_TBS) (ne_BES_TBSTAR : ¬ w_BES = w_TBSTAR) (ne_BES_TBH : ¬ w_BES = w_TBH) (ne_BES_TBSTARH : ¬ w_BES = w_TBSTARH) (ne_BEP_TBS : ¬ w_BEP = w_TBS) (ne_BEP_TBSTAR : ¬ w_BEP = w_TBSTAR) (ne_BEP_TBH : ¬ w_BEP = w_TBH) (ne_BEP_TBSTARH : ¬ w_BEP = w_TBSTARH) (ne_SSP_TBS : ¬ w_SSP = w_TBS) (ne_SSP_TBSTAR : ¬ w_SSP = w_TBSTAR) (ne_SSP_TBH : ¬ w_SSP = w_TBH) (ne_SSP_TBSTARH : ¬ w_SSP = w_TBSTARH) (ne_TBS_TBSTAR : ¬ w_TBS = w_TBSTAR) (ne_TBS_TBH : ¬ w_TBS = w_TBH) (ne_TBS_TBSTARH : ¬ w_TBS = w_TBSTARH) (ne_TBSTAR_TBS : ¬ w_TBSTAR = w_TBS) (ne_TBSTAR_TBH : ¬ w_TBSTAR = w_TBH) (ne_TBSTAR_TBSTARH : ¬ w_TBSTAR = w_TBSTARH) (ne_TBH_TBS : ¬ w_TBH = w_TBS) (ne_TBH_TBSTAR : ¬ w_TBH = w_TBSTAR) (ne_TBH_TBSTARH : ¬ w_TBH = w_TBSTARH) (ne_TBSTARH_TBS : ¬ w_TBSTARH = w_TBS) (ne_TBSTARH_TBSTAR : ¬ w_TBSTARH = w_TBSTAR) (ne_TBSTARH_TBH : ¬ w_TBSTARH = w_TBH) (hp : (p1 &&& (7 : Int32)) = (0 : Int32)) (hc17 : (p1 &&& (7 : Int32)) < (4 : Int32)) (hk30 : (0 : Int32) = (0 : Int32)) (hk36 : (0 : Int32) = (0 : Int32)) (hk52 : (0 : Int32) = (0 : Int32)) (hk65 : (0 : Int32) = (0 : Int32)) :
    MetFree l x (head1 (Jvm.Cond.code x code maxLocals ret :: ws) room_1) (fun a U => a = #[(.int p1)] ∧ Z.Warmed39 U.vm ∧ U.heap = h0) (fun _ _ _ _ _ => True) (fun _ U o U' => ∃ v L, o = .returned v ∧ Q0 Z p1 h0 n0 v U'.heap L ∧ FrameEnd U o U' L room_1.cells room_1.slots) := by
  refine MetFree.of_bodySF (plainFor_of_name pn_0) hisR ?_
  intro p e s m args below meth c s₁ Bd hml0 hP hK
  obtain ⟨rfl, hZ, hh⟩ := hP
  have hx := Bd.exec
  have hby := Bd.bytes
  have hml : c.maxLocals = 5 := hml0
  have hown : s.vm.findClass "com/example/barts/barts/ServerAssignsDeadlinesPinLaw" = some m.cls := findClass_of_methodNamed Bd.named
  have hnm := (name_of_methodNamed Bd.named Bd.method).1
  have X0 : Stand p l e room_1 s m #[(.int p1)] below meth c s₁ [] 0 0 := Stand.of_body Bd
  have e0 : s₁.heap = h0 := by rw [← hh, Bd.state]; rfl
  have N0 := Fr.nil n0
  have pre0 : ∀ t, Steps p.tables e below (s₁.setTop (mkF m 0 #[.val (.int p1), .unset, .unset, .unset, .unset] [])) t → Steps p.tables e below (s₁.setTop (entryFrame m #[(.int p1)] maxLocals)) t := fun t k => castTop (ef_0 m p1) k
  obtain ⟨_, _, ⟨T2, L2, k2, n2⟩, -, X2, ⟨Lc2, hQ2, l2, y2, z2⟩, st2⟩ := Jvm.LawKit.callS X0 hx (y := (⟨"com/example/barts/barts/ServerAssignsDeadlinesPinLaw", "pick", "(I)Lcom/example/barts/barts/Server;"⟩ : MethodName)) hown (mvT hZ (hw _ (List.mem_of_getElem? (i := 0) rfl))) (mvT hZ (hw _ (List.mem_of_getElem? (i := 1) rfl))) (mvT hZ (hw _ (List.mem_of_getElem? (i := 2) rfl))) (mvT hZ (hw _ (List.mem_of_getElem? (i := 3) rfl))) (by decide) (backOf (W := 0) (rm1_k0 l Z a0 hw [] (p1 &&& (7 : Int32)) w_BG h0 n0 Z0 S_BG hp) hZ (hw _ (List.mem_of_getElem? (i := 3) rfl)) (hw _ (List.mem_of_getElem? (i := 2) rfl)) (by decide) (by decide)) (g := (mkF m 6 #[.val (.int p1), .val (.int (p1 &&& (7 : Int32))), .unset, .unset, .unset] [(.int (p1 &&& (7 : Int32)))])) rfl (by rw [hml]; rfl) (argsL := [(.int (p1 &&& (7 : Int32)))]) (rest := []) (lenOf pd_0_0 rfl) rfl (by show 2 * 0 + _ ≤ _; exact Nat.le_of_eq rfl) (hb hby at_6) (fun _ _ => ⟨rfl, e0, (by decide : 0 + 0 ≤ _), (by decide : 0 + 0 ≤ _)⟩)
  dsimp only [Pt.U, Pt.locs, Pt.cells, Pt.slots] at X2 l2 y2 z2 st2 hQ2
  subst l2 y2 z2
  obtain ⟨rfl, N2q, e2q⟩ := hQ2
  have N2 := Fr.app N0 N2q
  have Z2 : n0 ≤ T2.heap.size := by rw [e2q]; exact Z0
  have Kq2 : Keep h0 T2.heap [] := by rw [e2q]; exact Keep.refl _ _
  have eh2 : T2.heap = h0 := e2q
  obtain ⟨cq3, kq3, q3a, q3b, q3c⟩ := isOf hZ rfl (E_BG.keep Kq2)
  obtain ⟨_, _, ⟨T3, L3, k3, n3⟩, -, X3, ⟨Lc3, hQ3, l3, y3, z3⟩, st3⟩ := X2.virtualBack hx (y := (⟨"com/example/barts/barts/Server", "assignsDeadlines", "()Z"⟩ : MethodName)) (z := (⟨"com/example/barts/barts/Server", "assignsDeadlines", "()Z"⟩ : MethodName)) hown (mvT hZ (hw _ (List.mem_of_getElem? (i := 7) rfl))) (mvT hZ (hw _ (List.mem_of_getElem? (i := 8) rfl))) (notFace_of_selects (args := #[]) (mvT hZ (hw _ (List.mem_of_getElem? (i := 10) rfl)))) (mvT hZ (hw _ (List.mem_of_getElem? (i := 10) rfl))) (mvT hZ (hw _ (List.mem_of_getElem? (i := 9) rfl))) (by decide) (backOf (W := 0) (rm2_ffft l Z a0 hw [] w_BG w_TBS w_TBSTAR w_TBH w_TBSTARH T2.heap n0 Z2 (by rw [eh2]; exact S_TBS) (by rw [eh2]; exact S_TBSTAR) (by rw [eh2]; exact S_TBH) (by rw [eh2]; exact S_TBSTARH) ne_BG_TBS ne_BG_TBSTAR ne_BG_TBH ne_BG_TBSTARH) hZ (hw _ (List.mem_of_getElem? (i := 11) rfl)) (hw _ (List.mem_of_getElem? (i := 5) rfl)) (by decide) (by decide)) q3a q3c (g := (mkF m 11 #[.val (.int p1), .val (.int (p1 &&& (7 : Int32))), .val (.ref w_BG), .unset, .unset] [(.ref w_BG)])) rfl (by rw [hml]; rfl) (Steps.refl _) (argsL := []) (rest := []) (lenOf pd_0_1 rfl) rfl (by show 2 * 0 + _ ≤ _; exact Nat.le_of_eq rfl) (hb hby at_11) (fun _ _ => ⟨rfl, rfl, (by decide : 0 + 0 ≤ _), (by decide : 0 + 0 ≤ _)⟩)
  dsimp only [Pt.U, Pt.locs, Pt.cells, Pt.slots] at X3 l3 y3 z3 st3 hQ3
  subst l3 y3 z3
  obtain ⟨rfl, N3q, e3q⟩ := hQ3
  have N3 := Fr.app N2 N3q
  have Z3 : n0 ≤ T3.heap.size := by rw [e3q]; exact Z2
  have Kq3 : Keep T2.heap T3.heap [] := by rw [e3q]; exact Keep.refl _ _
  have eh3 : T3.heap = h0 := e3q.trans eh2
  obtain ⟨cq4, kq4, q4a, q4b, q4c⟩ := isOf hZ rfl ((E_BG.keep Kq2).keep Kq3)
  obtain ⟨_, _, ⟨T4, L4, k4, n4⟩, -, X4, ⟨Lc4, hQ4, l4, y4, z4⟩, st4⟩ := X3.virtualBack hx (y := (⟨"com/example/barts/barts/Server", "shortensDeadlines", "()Z"⟩ : MethodName)) (z := (⟨"com/example/barts/barts/Server", "shortensDeadlines", "()Z"⟩ : MethodName)) hown (mvT hZ (hw _ (List.mem_of_getElem? (i := 20) rfl))) (mvT hZ (hw _ (List.mem_of_getElem? (i := 21) rfl))) (notFace_of_selects (args := #[]) (mvT hZ (hw _ (List.mem_of_getElem? (i := 23) rfl)))) (mvT hZ (hw _ (List.mem_of_getElem? (i := 23) rfl))) (mvT hZ (hw _ (List.mem_of_getElem? (i := 22) rfl))) (by decide) (backOf (W := 0) (rm3_ft l Z a0 hw [] w_BG w_TBSTAR w_TBSTARH T3.heap n0 Z3 (by rw [eh3]; exact S_TBSTAR) (by rw [eh3]; exact S_TBSTARH) ne_BG_TBSTAR ne_BG_TBSTARH) hZ (hw _ (List.mem_of_getElem? (i := 24) rfl)) (hw _ (List.mem_of_getElem? (i := 5) rfl)) (by decide) (by decide)) q4a q4c (g := (mkF m 49 #[.val (.int p1), .val (.int (p1 &&& (7 : Int32))), .val (.ref w_BG), .val (.int (0 : Int32)), .val (.int (0 : Int32))] [(.ref w_BG)])) rfl (by rw [hml]; rfl) (Steps.refl _) (argsL := []) (rest := []) (lenOf pd_0_1 rfl) rfl (by show 2 * 0 + _ ≤ _; exact Nat.le_of_eq rfl) (hb hby at_49) (fun _ _ => ⟨rfl, rfl, (by decide : 0 + 0 ≤ _), (by decide : 0 + 0 ≤ _)⟩)
  dsimp only [Pt.U, Pt.locs, Pt.cells, Pt.slots] at X4 l4 y4 z4 st4 hQ4
  subst l4 y4 z4
  obtain ⟨rfl, N4q, e4q⟩ := hQ4
  have N4 := Fr.app N3 N4q
  have Z4 : n0 ≤ T4.heap.size := by rw [e4q]; exact Z3
  have Kq4 : Keep T3.heap T4.heap [] := by rw [e4q]; exact Keep.refl _ _
  have eh4 : T4.heap = h0 := e4q.trans eh3
  obtain ⟨cq5, kq5, q5a, q5b, q5c⟩ := isOf hZ rfl (((E_BG.keep Kq2).keep Kq3).keep Kq4)
  obtain ⟨_, _, ⟨T5, L5, k5, n5⟩, -, X5, ⟨Lc5, hQ5, l5, y5, z5⟩, st5⟩ := X4.virtualBack hx (y := (⟨"com/example/barts/barts/Server", "weighsEnergy", "()Z"⟩ : MethodName)) (z := (⟨"com/example/barts/barts/Server", "weighsEnergy", "()Z"⟩ : MethodName)) hown (mvT hZ (hw _ (List.mem_of_getElem? (i := 25) rfl))) (mvT hZ (hw _ (List.mem_of_getElem? (i := 26) rfl))) (notFace_of_selects (args := #[]) (mvT hZ (hw _ (List.mem_of_getElem? (i := 28) rfl)))) (mvT hZ (hw _ (List.mem_of_getElem? (i := 28) rfl))) (mvT hZ (hw _ (List.mem_of_getElem? (i := 27) rfl))) (by decide) (backOf (W := 0) (rm4_ft l Z a0 hw [] w_BG w_TBH w_TBSTARH T4.heap n0 Z4 (by rw [eh4]; exact S_TBH) (by rw [eh4]; exact S_TBSTARH) ne_BG_TBH ne_BG_TBSTARH) hZ (hw _ (List.mem_of_getElem? (i := 29) rfl)) (hw _ (List.mem_of_getElem? (i := 5) rfl)) (by decide) (by decide)) q5a q5c (g := (mkF m 62 #[.val (.int p1), .val (.int (p1 &&& (7 : Int32))), .val (.ref w_BG), .val (.int (0 : Int32)), .val (.int (0 : Int32))] [(.ref w_BG)])) rfl (by rw [hml]; rfl) (Steps.refl _) (argsL := []) (rest := []) (lenOf pd_0_1 rfl) rfl (by show 2 * 0 + _ ≤ _; exact Nat.le_of_eq rfl) (hb hby at_62) (fun _ _ => ⟨rfl, rfl, (by decide : 0 + 0 ≤ _), (by decide : 0 + 0 ≤ _)⟩)
  dsimp only [Pt.U, Pt.locs, Pt.cells, Pt.slots] at X5 l5 y5 z5 st5 hQ5
  subst l5 y5 z5
  obtain ⟨rfl, N5q, e5q⟩ := hQ5
  have N5 := Fr.app N4 N5q
  have Z5 : n0 ≤ T5.heap.size := by rw [e5q]; exact Z4
  have Kq5 : Keep T4.heap T5.heap [] := by rw [e5q]; exact Keep.refl _ _
  have eh5 : T5.heap = h0 := e5q.trans eh4
  obtain ⟨fs, hr, hrun, hended, hW, hsame⟩ := X5.leave (v := some (.int (1 : Int32))) (fun h => by rw [Bd.returns] at h; cases h) Bd.notSynchronized
  refine ⟨_, _, pre0 _ ?_, hrun, hended, _, _, rfl, ?_, ⟨_, rfl⟩, hW, hsame.mono (by decide) (by decide)⟩
  · show Steps p.tables e below (s₁.setTop (mkF m 0 #[.val (.int p1), .unset, .unset, .unset, .unset] [])) _
    refine XS.iloadN X0.here hx rfl (hb hby at_0) rfl ?_
    show Steps p.tables e below (s₁.setTop (mkF m 1 #[.val (.int p1), .unset, .unset, .unset, .unset] [(.int p1)])) _
    refine XS.bipush X0.here hx rfl (hb hby at_1) ?_
    show Steps p.tables e below (s₁.setTop (mkF m 3 #[.val (.int p1), .unset, .unset, .unset, .unset] [(.int (7 : Int32)), (.int p1)])) _
    refine XS.iand X0.here hx rfl (hb hby at_3) rfl ?_
    show Steps p.tables e below (s₁.setTop (mkF m 4 #[.val (.int p1), .unset, .unset, .unset, .unset] [(.int (p1 &&& (7 : Int32)))])) _
    refine XS.istoreN X0.here hx rfl (hb hby at_4) rfl (l' := #[.val (.int p1), .val (.int (p1 &&& (7 : Int32))), .unset, .unset, .unset]) rfl ?_
    show Steps p.tables e below (s₁.setTop (mkF m 5 #[.val (.int p1), .val (.int (p1 &&& (7 : Int32))), .unset, .unset, .unset] [])) _
    refine XS.iloadN X0.here hx rfl (hb hby at_5) rfl ?_
    show Steps p.tables e below (s₁.setTop (mkF m 6 #[.val (.int p1), .val (.int (p1 &&& (7 : Int32))), .unset, .unset, .unset] [(.int (p1 &&& (7 : Int32)))])) _
    refine st2 _ ?_
    show Steps p.tables e below (T2.setTop (mkF m 9 #[.val (.int p1), .val (.int (p1 &&& (7 : Int32))), .unset, .unset, .unset] [(.ref w_BG)])) _
    refine XS.astoreN X2.here hx rfl (hb hby at_9) rfl rfl (l' := #[.val (.int p1), .val (.int (p1 &&& (7 : Int32))), .val (.ref w_BG), .unset, .unset]) rfl ?_
    show Steps p.tables e below (T2.setTop (mkF m 10 #[.val (.int p1), .val (.int (p1 &&& (7 : Int32))), .val (.ref w_BG), .unset, .unset] [])) _
    refine XS.aloadN X2.here hx rfl (hb hby at_10) rfl rfl ?_
    show Steps p.tables e below (T2.setTop (mkF m 11 #[.val (.int p1), .val (.int (p1 &&& (7 : Int32))), .val (.ref w_BG), .unset, .unset] [(.ref w_BG)])) _
    refine st3.trans ?_
    show Steps p.tables e below (T3.setTop (mkF m 14 #[.val (.int p1), .val (.int (p1 &&& (7 : Int32))), .val (.ref w_BG), .unset, .unset] [(.int (0 : Int32))])) _
    refine XS.istoreN X3.here hx rfl (hb hby at_14) rfl (l' := #[.val (.int p1), .val (.int (p1 &&& (7 : Int32))), .val (.ref w_BG), .val (.int (0 : Int32)), .unset]) rfl ?_
    show Steps p.tables e below (T3.setTop (mkF m 15 #[.val (.int p1), .val (.int (p1 &&& (7 : Int32))), .val (.ref w_BG), .val (.int (0 : Int32)), .unset] [])) _
    refine XS.iloadN X3.here hx rfl (hb hby at_15) rfl ?_
    show Steps p.tables e below (T3.setTop (mkF m 16 #[.val (.int p1), .val (.int (p1 &&& (7 : Int32))), .val (.ref w_BG), .val (.int (0 : Int32)), .unset] [(.int (p1 &&& (7 : Int32)))])) _
    refine XS.iconst X3.here hx rfl (hb hby at_16) ?_
    show Steps p.tables e below (T3.setTop (mkF m 17 #[.val (.int p1), .val (.int (p1 &&& (7 : Int32))), .val (.ref w_BG), .val (.int (0 : Int32)), .unset] [(.int (4 : Int32)), (.int (p1 &&& (7 : Int32)))])) _
    refine XS.icmpYes X3.here hx rfl (pc0 := 17) (pc' := 24) rfl (hb hby at_17) rfl (tlt hc17).1 (by decide) (by decide) ?_
    show Steps p.tables e below (T3.setTop (mkF m 24 #[.val (.int p1), .val (.int (p1 &&& (7 : Int32))), .val (.ref w_BG), .val (.int (0 : Int32)), .unset] [])) _
    refine XS.iconst X3.here hx rfl (hb hby at_24) ?_
    show Steps p.tables e below (T3.setTop (mkF m 25 #[.val (.int p1), .val (.int (p1 &&& (7 : Int32))), .val (.ref w_BG), .val (.int (0 : Int32)), .unset] [(.int (0 : Int32))])) _
    refine XS.istore X3.here hx rfl (hb hby at_25) rfl (l' := #[.val (.int p1), .val (.int (p1 &&& (7 : Int32))), .val (.ref w_BG), .val (.int (0 : Int32)), .val (.int (0 : Int32))]) rfl ?_
    show Steps p.tables e below (T3.setTop (mkF m 27 #[.val (.int p1), .val (.int (p1 &&& (7 : Int32))), .val (.ref w_BG), .val (.int (0 : Int32)), .val (.int (0 : Int32))] [])) _
    refine XS.iloadN X3.here hx rfl (hb hby at_27) rfl ?_
    show Steps p.tables e below (T3.setTop (mkF m 28 #[.val (.int p1), .val (.int (p1 &&& (7 : Int32))), .val (.ref w_BG), .val (.int (0 : Int32)), .val (.int (0 : Int32))] [(.int (0 : Int32))])) _
    refine XS.iload X3.here hx rfl (hb hby at_28) rfl ?_
    show Steps p.tables e below (T3.setTop (mkF m 30 #[.val (.int p1), .val (.int (p1 &&& (7 : Int32))), .val (.ref w_BG), .val (.int (0 : Int32)), .val (.int (0 : Int32))] [(.int (0 : Int32)), (.int (0 : Int32))])) _
    refine XS.icmpYes X3.here hx rfl (pc0 := 30) (pc' := 35) rfl (hb hby at_30) rfl (teq hk30).1 (by decide) (by decide) ?_
    show Steps p.tables e below (T3.setTop (mkF m 35 #[.val (.int p1), .val (.int (p1 &&& (7 : Int32))), .val (.ref w_BG), .val (.int (0 : Int32)), .val (.int (0 : Int32))] [])) _
    refine XS.iloadN X3.here hx rfl (hb hby at_35) rfl ?_
    show Steps p.tables e below (T3.setTop (mkF m 36 #[.val (.int p1), .val (.int (p1 &&& (7 : Int32))), .val (.ref w_BG), .val (.int (0 : Int32)), .val (.int (0 : Int32))] [(.int (0 : Int32))])) _
    refine XS.ifYes X3.here hx rfl (pc0 := 36) (pc' := 48) rfl (hb hby at_36) rfl ((if0 _ _).trans (teq hk36).1) (by decide) (by decide) ?_
    show Steps p.tables e below (T3.setTop (mkF m 48 #[.val (.int p1), .val (.int (p1 &&& (7 : Int32))), .val (.ref w_BG), .val (.int (0 : Int32)), .val (.int (0 : Int32))] [])) _
    refine XS.aloadN X3.here hx rfl (hb hby at_48) rfl rfl ?_
    show Steps p.tables e below (T3.setTop (mkF m 49 #[.val (.int p1), .val (.int (p1 &&& (7 : Int32))), .val (.ref w_BG), .val (.int (0 : Int32)), .val (.int (0 : Int32))] [(.ref w_BG)])) _
    refine st4.trans ?_
    show Steps p.tables e below (T4.setTop (mkF m 52 #[.val (.int p1), .val (.int (p1 &&& (7 : Int32))), .val (.ref w_BG), .val (.int (0 : Int32)), .val (.int (0 : Int32))] [(.int (0 : Int32))])) _
    refine XS.ifYes X4.here hx rfl (pc0 := 52) (pc' := 61) rfl (hb hby at_52) rfl ((if0 _ _).trans (teq hk52).1) (by decide) (by decide) ?_
    show Steps p.tables e below (T4.setTop (mkF m 61 #[.val (.int p1), .val (.int (p1 &&& (7 : Int32))), .val (.ref w_BG), .val (.int (0 : Int32)), .val (.int (0 : Int32))] [])) _
    refine XS.aloadN X4.here hx rfl (hb hby at_61) rfl rfl ?_
    show Steps p.tables e below (T4.setTop (mkF m 62 #[.val (.int p1), .val (.int (p1 &&& (7 : Int32))), .val (.ref w_BG), .val (.int (0 : Int32)), .val (.int (0 : Int32))] [(.ref w_BG)])) _
    refine st5.trans ?_
    show Steps p.tables e below (T5.setTop (mkF m 65 #[.val (.int p1), .val (.int (p1 &&& (7 : Int32))), .val (.ref w_BG), .val (.int (0 : Int32)), .val (.int (0 : Int32))] [(.int (0 : Int32))])) _
    refine XS.ifYes X5.here hx rfl (pc0 := 65) (pc' := 74) rfl (hb hby at_65) rfl ((if0 _ _).trans (teq hk65).1) (by decide) (by decide) ?_
    show Steps p.tables e below (T5.setTop (mkF m 74 #[.val (.int p1), .val (.int (p1 &&& (7 : Int32))), .val (.ref w_BG), .val (.int (0 : Int32)), .val (.int (0 : Int32))] [])) _
    refine XS.iconst X5.here hx rfl (hb hby at_74) ?_
    show Steps p.tables e below (T5.setTop (mkF m 75 #[.val (.int p1), .val (.int (p1 &&& (7 : Int32))), .val (.ref w_BG), .val (.int (0 : Int32)), .val (.int (0 : Int32))] [(.int (1 : Int32))])) _
    exact retN X5 hx (t := .boolean) Bd.returns (by simp) (hb hby at_75) hr
  · show Q0 Z p1 h0 n0 _ T5.heap _
    exact ⟨rfl, N5⟩
set_option maxRecDepth 65536 in
set_option maxHeartbeats 40000000 in
theorem rm0_BES (l : Launch) (Z : State) (a0 : Array Value) (hw : ∀ d ∈ tables_1, d.before a0 Z = true) (ws : List Jvm.Cond) (p1 : Int32) (w_BG : Addr) (w_BES : Addr) (w_BEP : Addr) (w_SSP : Addr) (w_TBS : Addr) (w_TBSTAR : Addr) (w_TBH : Addr) (w_TBSTARH : Addr) (h0 : Heap) (n0 : Nat) (Z0 : n0 ≤ h0.size) (S_BG : Sta Z h0 "com/example/barts/barts/Server" "BG" "Lcom/example/barts/barts/Server;" (.ref w_BG)) (E_BG : Exa Z h0 w_BG "com/example/barts/barts/Server") (S_BES : Sta Z h0 "com/example/barts/barts/Server" "BES" "Lcom/example/barts/barts/Server;" (.ref w_BES)) (E_BES : Exa Z h0 w_BES "com/example/barts/barts/Server") (S_BEP : Sta Z h0 "com/example/barts/barts/Server" "BEP" "Lcom/example/barts/barts/Server;" (.ref w_BEP)) (E_BEP : Exa Z h0 w_BEP "com/example/barts/barts/Server") (S_SSP : Sta Z h0 "com/example/barts/barts/Server" "SSP" "Lcom/example/barts/barts/Server;" (.ref w_SSP)) (E_SSP : Exa Z h0 w_SSP "com/example/barts/barts/Server") (S_TBS : Sta Z h0 "com/example/barts/barts/Server" "TBS" "Lcom/example/barts/barts/Server;" (.ref w_TBS)) (E_TBS : Exa Z h0 w_TBS "com/example/barts/barts/Server") (S_TBSTAR : Sta Z h0 "com/example/barts/barts/Server" "TBSTAR" "Lcom/example/barts/barts/Server;" (.ref w_TBSTAR)) (E_TBSTAR : Exa Z h0 w_TBSTAR "com/example/barts/barts/Server") (S_TBH : Sta Z h0 "com/example/barts/barts/Server" "TBH" "Lcom/example/barts/barts/Server;" (.ref w_TBH)) (E_TBH : Exa Z h0 w_TBH "com/example/barts/barts/Server") (S_TBSTARH : Sta Z h0 "com/example/barts/barts/Server" "TBSTARH" "Lcom/example/barts/barts/Server;" (.ref w_TBSTARH)) (E_TBSTARH : Exa Z h0 w_TBSTARH "com/example/barts/barts/Server") (F_TBS_background : Fld Z h0 w_TBS "com/example/barts/barts/Server" "background" "Z" (.int (0 : Int32))) (F_TBSTAR_background : Fld Z h0 w_TBSTAR "com/example/barts/barts/Server" "background" "Z" (.int (0 : Int32))) (F_TBH_background : Fld Z h0 w_TBH "com/example/barts/barts/Server" "background" "Z" (.int (0 : Int32))) (F_TBSTARH_background : Fld Z h0 w_TBSTARH "com/example/barts/barts/Server" "background" "Z" (.int (0 : Int32))) (ne_BG_TBS : ¬ w_BG = w_TBS) (ne_BG_TBSTAR : ¬ w_BG = w_TBSTAR) (ne_BG_TBH : ¬ w_BG = w_TBH) (ne_BG_TBSTARH : ¬ w_BG = w_TBSTARH) (ne_BES_TBS : ¬ w_BES = w_TBS) (ne_BES_TBSTAR : ¬ w_BES = w_TBSTAR) (ne_BES_TBH : ¬ w_BES = w_TBH) (ne_BES_TBSTARH : ¬ w_BES = w_TBSTARH) (ne_BEP_TBS : ¬ w_BEP = w_TBS) (ne_BEP_TBSTAR : ¬ w_BEP = w_TBSTAR) (ne_BEP_TBH : ¬ w_BEP = w_TBH) (ne_BEP_TBSTARH : ¬ w_BEP = w_TBSTARH) (ne_SSP_TBS : ¬ w_SSP = w_TBS) (ne_SSP_TBSTAR : ¬ w_SSP = w_TBSTAR) (ne_SSP_TBH : ¬ w_SSP = w_TBH) (ne_SSP_TBSTARH : ¬ w_SSP = w_TBSTARH) (ne_TBS_TBSTAR : ¬ w_TBS = w_TBSTAR) (ne_TBS_TBH : ¬ w_TBS = w_TBH) (ne_TBS_TBSTARH : ¬ w_TBS = w_TBSTARH) (ne_TBSTAR_TBS : ¬ w_TBSTAR = w_TBS) (ne_TBSTAR_TBH : ¬ w_TBSTAR = w_TBH) (ne_TBSTAR_TBSTARH : ¬ w_TBSTAR = w_TBSTARH) (ne_TBH_TBS : ¬ w_TBH = w_TBS) (ne_TBH_TBSTAR : ¬ w_TBH = w_TBSTAR) (ne_TBH_TBSTARH : ¬ w_TBH = w_TBSTARH) (ne_TBSTARH_TBS : ¬ w_TBSTARH = w_TBS) (ne_TBSTARH_TBSTAR : ¬ w_TBSTARH = w_TBSTAR) (ne_TBSTARH_TBH : ¬ w_TBSTARH = w_TBH) (hp0 : ¬ (p1 &&& (7 : Int32)) = (0 : Int32)) (hp : (p1 &&& (7 : Int32)) = (1 : Int32)) (hc17 : (p1 &&& (7 : Int32)) < (4 : Int32)) (hk30 : (0 : Int32) = (0 : Int32)) (hk36 : (0 : Int32) = (0 : Int32)) (hk52 : (0 : Int32) = (0 : Int32)) (hk65 : (0 : Int32) = (0 : Int32)) :
    MetFree l x (head1 (Jvm.Cond.code x code maxLocals ret :: ws) room_1) (fun a U => a = #[(.int p1)] ∧ Z.Warmed39 U.vm ∧ U.heap = h0) (fun _ _ _ _ _ => True) (fun _ U o U' => ∃ v L, o = .returned v ∧ Q0 Z p1 h0 n0 v U'.heap L ∧ FrameEnd U o U' L room_1.cells room_1.slots) := by
  refine MetFree.of_bodySF (plainFor_of_name pn_0) hisR ?_
  intro p e s m args below meth c s₁ Bd hml0 hP hK
  obtain ⟨rfl, hZ, hh⟩ := hP
  have hx := Bd.exec
  have hby := Bd.bytes
  have hml : c.maxLocals = 5 := hml0
  have hown : s.vm.findClass "com/example/barts/barts/ServerAssignsDeadlinesPinLaw" = some m.cls := findClass_of_methodNamed Bd.named
  have hnm := (name_of_methodNamed Bd.named Bd.method).1
  have X0 : Stand p l e room_1 s m #[(.int p1)] below meth c s₁ [] 0 0 := Stand.of_body Bd
  have e0 : s₁.heap = h0 := by rw [← hh, Bd.state]; rfl
  have N0 := Fr.nil n0
  have pre0 : ∀ t, Steps p.tables e below (s₁.setTop (mkF m 0 #[.val (.int p1), .unset, .unset, .unset, .unset] [])) t → Steps p.tables e below (s₁.setTop (entryFrame m #[(.int p1)] maxLocals)) t := fun t k => castTop (ef_0 m p1) k
  obtain ⟨_, _, ⟨T2, L2, k2, n2⟩, -, X2, ⟨Lc2, hQ2, l2, y2, z2⟩, st2⟩ := Jvm.LawKit.callS X0 hx (y := (⟨"com/example/barts/barts/ServerAssignsDeadlinesPinLaw", "pick", "(I)Lcom/example/barts/barts/Server;"⟩ : MethodName)) hown (mvT hZ (hw _ (List.mem_of_getElem? (i := 0) rfl))) (mvT hZ (hw _ (List.mem_of_getElem? (i := 1) rfl))) (mvT hZ (hw _ (List.mem_of_getElem? (i := 2) rfl))) (mvT hZ (hw _ (List.mem_of_getElem? (i := 3) rfl))) (by decide) (backOf (W := 0) (rm1_k1 l Z a0 hw [] (p1 &&& (7 : Int32)) w_BES h0 n0 Z0 S_BES hp0 hp) hZ (hw _ (List.mem_of_getElem? (i := 3) rfl)) (hw _ (List.mem_of_getElem? (i := 2) rfl)) (by decide) (by decide)) (g := (mkF m 6 #[.val (.int p1), .val (.int (p1 &&& (7 : Int32))), .unset, .unset, .unset] [(.int (p1 &&& (7 : Int32)))])) rfl (by rw [hml]; rfl) (argsL := [(.int (p1 &&& (7 : Int32)))]) (rest := []) (lenOf pd_0_0 rfl) rfl (by show 2 * 0 + _ ≤ _; exact Nat.le_of_eq rfl) (hb hby at_6) (fun _ _ => ⟨rfl, e0, (by decide : 0 + 0 ≤ _), (by decide : 0 + 0 ≤ _)⟩)
  dsimp only [Pt.U, Pt.locs, Pt.cells, Pt.slots] at X2 l2 y2 z2 st2 hQ2
  subst l2 y2 z2
  obtain ⟨rfl, N2q, e2q⟩ := hQ2
  have N2 := Fr.app N0 N2q
  have Z2 : n0 ≤ T2.heap.size := by rw [e2q]; exact Z0
  have Kq2 : Keep h0 T2.heap [] := by rw [e2q]; exact Keep.refl _ _
  have eh2 : T2.heap = h0 := e2q
  obtain ⟨cq3, kq3, q3a, q3b, q3c⟩ := isOf hZ rfl (E_BES.keep Kq2)
  obtain ⟨_, _, ⟨T3, L3, k3, n3⟩, -, X3, ⟨Lc3, hQ3, l3, y3, z3⟩, st3⟩ := X2.virtualBack hx (y := (⟨"com/example/barts/barts/Server", "assignsDeadlines", "()Z"⟩ : MethodName)) (z := (⟨"com/example/barts/barts/Server", "assignsDeadlines", "()Z"⟩ : MethodName)) hown (mvT hZ (hw _ (List.mem_of_getElem? (i := 7) rfl))) (mvT hZ (hw _ (List.mem_of_getElem? (i := 8) rfl))) (notFace_of_selects (args := #[]) (mvT hZ (hw _ (List.mem_of_getElem? (i := 10) rfl)))) (mvT hZ (hw _ (List.mem_of_getElem? (i := 10) rfl))) (mvT hZ (hw _ (List.mem_of_getElem? (i := 9) rfl))) (by decide) (backOf (W := 0) (rm2_ffft l Z a0 hw [] w_BES w_TBS w_TBSTAR w_TBH w_TBSTARH T2.heap n0 Z2 (by rw [eh2]; exact S_TBS) (by rw [eh2]; exact S_TBSTAR) (by rw [eh2]; exact S_TBH) (by rw [eh2]; exact S_TBSTARH) ne_BES_TBS ne_BES_TBSTAR ne_BES_TBH ne_BES_TBSTARH) hZ (hw _ (List.mem_of_getElem? (i := 11) rfl)) (hw _ (List.mem_of_getElem? (i := 5) rfl)) (by decide) (by decide)) q3a q3c (g := (mkF m 11 #[.val (.int p1), .val (.int (p1 &&& (7 : Int32))), .val (.ref w_BES), .unset, .unset] [(.ref w_BES)])) rfl (by rw [hml]; rfl) (Steps.refl _) (argsL := []) (rest := []) (lenOf pd_0_1 rfl) rfl (by show 2 * 0 + _ ≤ _; exact Nat.le_of_eq rfl) (hb hby at_11) (fun _ _ => ⟨rfl, rfl, (by decide : 0 + 0 ≤ _), (by decide : 0 + 0 ≤ _)⟩)
  dsimp only [Pt.U, Pt.locs, Pt.cells, Pt.slots] at X3 l3 y3 z3 st3 hQ3
  subst l3 y3 z3
  obtain ⟨rfl, N3q, e3q⟩ := hQ3
  have N3 := Fr.app N2 N3q
  have Z3 : n0 ≤ T3.heap.size := by rw [e3q]; exact Z2
  have Kq3 : Keep T2.heap T3.heap [] := by rw [e3q]; exact Keep.refl _ _
  have eh3 : T3.heap = h0 := e3q.trans eh2
  obtain ⟨cq4, kq4, q4a, q4b, q4c⟩ := isOf hZ rfl ((E_BES.keep Kq2).keep Kq3)
  obtain ⟨_, _, ⟨T4, L4, k4, n4⟩, -, X4, ⟨Lc4, hQ4, l4, y4, z4⟩, st4⟩ := X3.virtualBack hx (y := (⟨"com/example/barts/barts/Server", "shortensDeadlines", "()Z"⟩ : MethodName)) (z := (⟨"com/example/barts/barts/Server", "shortensDeadlines", "()Z"⟩ : MethodName)) hown (mvT hZ (hw _ (List.mem_of_getElem? (i := 20) rfl))) (mvT hZ (hw _ (List.mem_of_getElem? (i := 21) rfl))) (notFace_of_selects (args := #[]) (mvT hZ (hw _ (List.mem_of_getElem? (i := 23) rfl)))) (mvT hZ (hw _ (List.mem_of_getElem? (i := 23) rfl))) (mvT hZ (hw _ (List.mem_of_getElem? (i := 22) rfl))) (by decide) (backOf (W := 0) (rm3_ft l Z a0 hw [] w_BES w_TBSTAR w_TBSTARH T3.heap n0 Z3 (by rw [eh3]; exact S_TBSTAR) (by rw [eh3]; exact S_TBSTARH) ne_BES_TBSTAR ne_BES_TBSTARH) hZ (hw _ (List.mem_of_getElem? (i := 24) rfl)) (hw _ (List.mem_of_getElem? (i := 5) rfl)) (by decide) (by decide)) q4a q4c (g := (mkF m 49 #[.val (.int p1), .val (.int (p1 &&& (7 : Int32))), .val (.ref w_BES), .val (.int (0 : Int32)), .val (.int (0 : Int32))] [(.ref w_BES)])) rfl (by rw [hml]; rfl) (Steps.refl _) (argsL := []) (rest := []) (lenOf pd_0_1 rfl) rfl (by show 2 * 0 + _ ≤ _; exact Nat.le_of_eq rfl) (hb hby at_49) (fun _ _ => ⟨rfl, rfl, (by decide : 0 + 0 ≤ _), (by decide : 0 + 0 ≤ _)⟩)
  dsimp only [Pt.U, Pt.locs, Pt.cells, Pt.slots] at X4 l4 y4 z4 st4 hQ4
  subst l4 y4 z4
  obtain ⟨rfl, N4q, e4q⟩ := hQ4
  have N4 := Fr.app N3 N4q
  have Z4 : n0 ≤ T4.heap.size := by rw [e4q]; exact Z3
  have Kq4 : Keep T3.heap T4.heap [] := by rw [e4q]; exact Keep.refl _ _
  have eh4 : T4.heap = h0 := e4q.trans eh3
  obtain ⟨cq5, kq5, q5a, q5b, q5c⟩ := isOf hZ rfl (((E_BES.keep Kq2).keep Kq3).keep Kq4)
  obtain ⟨_, _, ⟨T5, L5, k5, n5⟩, -, X5, ⟨Lc5, hQ5, l5, y5, z5⟩, st5⟩ := X4.virtualBack hx (y := (⟨"com/example/barts/barts/Server", "weighsEnergy", "()Z"⟩ : MethodName)) (z := (⟨"com/example/barts/barts/Server", "weighsEnergy", "()Z"⟩ : MethodName)) hown (mvT hZ (hw _ (List.mem_of_getElem? (i := 25) rfl))) (mvT hZ (hw _ (List.mem_of_getElem? (i := 26) rfl))) (notFace_of_selects (args := #[]) (mvT hZ (hw _ (List.mem_of_getElem? (i := 28) rfl)))) (mvT hZ (hw _ (List.mem_of_getElem? (i := 28) rfl))) (mvT hZ (hw _ (List.mem_of_getElem? (i := 27) rfl))) (by decide) (backOf (W := 0) (rm4_ft l Z a0 hw [] w_BES w_TBH w_TBSTARH T4.heap n0 Z4 (by rw [eh4]; exact S_TBH) (by rw [eh4]; exact S_TBSTARH) ne_BES_TBH ne_BES_TBSTARH) hZ (hw _ (List.mem_of_getElem? (i := 29) rfl)) (hw _ (List.mem_of_getElem? (i := 5) rfl)) (by decide) (by decide)) q5a q5c (g := (mkF m 62 #[.val (.int p1), .val (.int (p1 &&& (7 : Int32))), .val (.ref w_BES), .val (.int (0 : Int32)), .val (.int (0 : Int32))] [(.ref w_BES)])) rfl (by rw [hml]; rfl) (Steps.refl _) (argsL := []) (rest := []) (lenOf pd_0_1 rfl) rfl (by show 2 * 0 + _ ≤ _; exact Nat.le_of_eq rfl) (hb hby at_62) (fun _ _ => ⟨rfl, rfl, (by decide : 0 + 0 ≤ _), (by decide : 0 + 0 ≤ _)⟩)
  dsimp only [Pt.U, Pt.locs, Pt.cells, Pt.slots] at X5 l5 y5 z5 st5 hQ5
  subst l5 y5 z5
  obtain ⟨rfl, N5q, e5q⟩ := hQ5
  have N5 := Fr.app N4 N5q
  have Z5 : n0 ≤ T5.heap.size := by rw [e5q]; exact Z4
  have Kq5 : Keep T4.heap T5.heap [] := by rw [e5q]; exact Keep.refl _ _
  have eh5 : T5.heap = h0 := e5q.trans eh4
  obtain ⟨fs, hr, hrun, hended, hW, hsame⟩ := X5.leave (v := some (.int (1 : Int32))) (fun h => by rw [Bd.returns] at h; cases h) Bd.notSynchronized
  refine ⟨_, _, pre0 _ ?_, hrun, hended, _, _, rfl, ?_, ⟨_, rfl⟩, hW, hsame.mono (by decide) (by decide)⟩
  · show Steps p.tables e below (s₁.setTop (mkF m 0 #[.val (.int p1), .unset, .unset, .unset, .unset] [])) _
    refine XS.iloadN X0.here hx rfl (hb hby at_0) rfl ?_
    show Steps p.tables e below (s₁.setTop (mkF m 1 #[.val (.int p1), .unset, .unset, .unset, .unset] [(.int p1)])) _
    refine XS.bipush X0.here hx rfl (hb hby at_1) ?_
    show Steps p.tables e below (s₁.setTop (mkF m 3 #[.val (.int p1), .unset, .unset, .unset, .unset] [(.int (7 : Int32)), (.int p1)])) _
    refine XS.iand X0.here hx rfl (hb hby at_3) rfl ?_
    show Steps p.tables e below (s₁.setTop (mkF m 4 #[.val (.int p1), .unset, .unset, .unset, .unset] [(.int (p1 &&& (7 : Int32)))])) _
    refine XS.istoreN X0.here hx rfl (hb hby at_4) rfl (l' := #[.val (.int p1), .val (.int (p1 &&& (7 : Int32))), .unset, .unset, .unset]) rfl ?_
    show Steps p.tables e below (s₁.setTop (mkF m 5 #[.val (.int p1), .val (.int (p1 &&& (7 : Int32))), .unset, .unset, .unset] [])) _
    refine XS.iloadN X0.here hx rfl (hb hby at_5) rfl ?_
    show Steps p.tables e below (s₁.setTop (mkF m 6 #[.val (.int p1), .val (.int (p1 &&& (7 : Int32))), .unset, .unset, .unset] [(.int (p1 &&& (7 : Int32)))])) _
    refine st2 _ ?_
    show Steps p.tables e below (T2.setTop (mkF m 9 #[.val (.int p1), .val (.int (p1 &&& (7 : Int32))), .unset, .unset, .unset] [(.ref w_BES)])) _
    refine XS.astoreN X2.here hx rfl (hb hby at_9) rfl rfl (l' := #[.val (.int p1), .val (.int (p1 &&& (7 : Int32))), .val (.ref w_BES), .unset, .unset]) rfl ?_
    show Steps p.tables e below (T2.setTop (mkF m 10 #[.val (.int p1), .val (.int (p1 &&& (7 : Int32))), .val (.ref w_BES), .unset, .unset] [])) _
    refine XS.aloadN X2.here hx rfl (hb hby at_10) rfl rfl ?_
    show Steps p.tables e below (T2.setTop (mkF m 11 #[.val (.int p1), .val (.int (p1 &&& (7 : Int32))), .val (.ref w_BES), .unset, .unset] [(.ref w_BES)])) _
    refine st3.trans ?_
    show Steps p.tables e below (T3.setTop (mkF m 14 #[.val (.int p1), .val (.int (p1 &&& (7 : Int32))), .val (.ref w_BES), .unset, .unset] [(.int (0 : Int32))])) _
    refine XS.istoreN X3.here hx rfl (hb hby at_14) rfl (l' := #[.val (.int p1), .val (.int (p1 &&& (7 : Int32))), .val (.ref w_BES), .val (.int (0 : Int32)), .unset]) rfl ?_
    show Steps p.tables e below (T3.setTop (mkF m 15 #[.val (.int p1), .val (.int (p1 &&& (7 : Int32))), .val (.ref w_BES), .val (.int (0 : Int32)), .unset] [])) _
    refine XS.iloadN X3.here hx rfl (hb hby at_15) rfl ?_
    show Steps p.tables e below (T3.setTop (mkF m 16 #[.val (.int p1), .val (.int (p1 &&& (7 : Int32))), .val (.ref w_BES), .val (.int (0 : Int32)), .unset] [(.int (p1 &&& (7 : Int32)))])) _
    refine XS.iconst X3.here hx rfl (hb hby at_16) ?_
    show Steps p.tables e below (T3.setTop (mkF m 17 #[.val (.int p1), .val (.int (p1 &&& (7 : Int32))), .val (.ref w_BES), .val (.int (0 : Int32)), .unset] [(.int (4 : Int32)), (.int (p1 &&& (7 : Int32)))])) _
    refine XS.icmpYes X3.here hx rfl (pc0 := 17) (pc' := 24) rfl (hb hby at_17) rfl (tlt hc17).1 (by decide) (by decide) ?_
    show Steps p.tables e below (T3.setTop (mkF m 24 #[.val (.int p1), .val (.int (p1 &&& (7 : Int32))), .val (.ref w_BES), .val (.int (0 : Int32)), .unset] [])) _
    refine XS.iconst X3.here hx rfl (hb hby at_24) ?_
    show Steps p.tables e below (T3.setTop (mkF m 25 #[.val (.int p1), .val (.int (p1 &&& (7 : Int32))), .val (.ref w_BES), .val (.int (0 : Int32)), .unset] [(.int (0 : Int32))])) _
    refine XS.istore X3.here hx rfl (hb hby at_25) rfl (l' := #[.val (.int p1), .val (.int (p1 &&& (7 : Int32))), .val (.ref w_BES), .val (.int (0 : Int32)), .val (.int (0 : Int32))]) rfl ?_
    show Steps p.tables e below (T3.setTop (mkF m 27 #[.val (.int p1), .val (.int (p1 &&& (7 : Int32))), .val (.ref w_BES), .val (.int (0 : Int32)), .val (.int (0 : Int32))] [])) _
    refine XS.iloadN X3.here hx rfl (hb hby at_27) rfl ?_
    show Steps p.tables e below (T3.setTop (mkF m 28 #[.val (.int p1), .val (.int (p1 &&& (7 : Int32))), .val (.ref w_BES), .val (.int (0 : Int32)), .val (.int (0 : Int32))] [(.int (0 : Int32))])) _
    refine XS.iload X3.here hx rfl (hb hby at_28) rfl ?_
    show Steps p.tables e below (T3.setTop (mkF m 30 #[.val (.int p1), .val (.int (p1 &&& (7 : Int32))), .val (.ref w_BES), .val (.int (0 : Int32)), .val (.int (0 : Int32))] [(.int (0 : Int32)), (.int (0 : Int32))])) _
    refine XS.icmpYes X3.here hx rfl (pc0 := 30) (pc' := 35) rfl (hb hby at_30) rfl (teq hk30).1 (by decide) (by decide) ?_
    show Steps p.tables e below (T3.setTop (mkF m 35 #[.val (.int p1), .val (.int (p1 &&& (7 : Int32))), .val (.ref w_BES), .val (.int (0 : Int32)), .val (.int (0 : Int32))] [])) _
    refine XS.iloadN X3.here hx rfl (hb hby at_35) rfl ?_
    show Steps p.tables e below (T3.setTop (mkF m 36 #[.val (.int p1), .val (.int (p1 &&& (7 : Int32))), .val (.ref w_BES), .val (.int (0 : Int32)), .val (.int (0 : Int32))] [(.int (0 : Int32))])) _
    refine XS.ifYes X3.here hx rfl (pc0 := 36) (pc' := 48) rfl (hb hby at_36) rfl ((if0 _ _).trans (teq hk36).1) (by decide) (by decide) ?_
    show Steps p.tables e below (T3.setTop (mkF m 48 #[.val (.int p1), .val (.int (p1 &&& (7 : Int32))), .val (.ref w_BES), .val (.int (0 : Int32)), .val (.int (0 : Int32))] [])) _
    refine XS.aloadN X3.here hx rfl (hb hby at_48) rfl rfl ?_
    show Steps p.tables e below (T3.setTop (mkF m 49 #[.val (.int p1), .val (.int (p1 &&& (7 : Int32))), .val (.ref w_BES), .val (.int (0 : Int32)), .val (.int (0 : Int32))] [(.ref w_BES)])) _
    refine st4.trans ?_
    show Steps p.tables e below (T4.setTop (mkF m 52 #[.val (.int p1), .val (.int (p1 &&& (7 : Int32))), .val (.ref w_BES), .val (.int (0 : Int32)), .val (.int (0 : Int32))] [(.int (0 : Int32))])) _
    refine XS.ifYes X4.here hx rfl (pc0 := 52) (pc' := 61) rfl (hb hby at_52) rfl ((if0 _ _).trans (teq hk52).1) (by decide) (by decide) ?_
    show Steps p.tables e below (T4.setTop (mkF m 61 #[.val (.int p1), .val (.int (p1 &&& (7 : Int32))), .val (.ref w_BES), .val (.int (0 : Int32)), .val (.int (0 : Int32))] [])) _
    refine XS.aloadN X4.here hx rfl (hb hby at_61) rfl rfl ?_
    show Steps p.tables e below (T4.setTop (mkF m 62 #[.val (.int p1), .val (.int (p1 &&& (7 : Int32))), .val (.ref w_BES), .val (.int (0 : Int32)), .val (.int (0 : Int32))] [(.ref w_BES)])) _
    refine st5.trans ?_
    show Steps p.tables e below (T5.setTop (mkF m 65 #[.val (.int p1), .val (.int (p1 &&& (7 : Int32))), .val (.ref w_BES), .val (.int (0 : Int32)), .val (.int (0 : Int32))] [(.int (0 : Int32))])) _
    refine XS.ifYes X5.here hx rfl (pc0 := 65) (pc' := 74) rfl (hb hby at_65) rfl ((if0 _ _).trans (teq hk65).1) (by decide) (by decide) ?_
    show Steps p.tables e below (T5.setTop (mkF m 74 #[.val (.int p1), .val (.int (p1 &&& (7 : Int32))), .val (.ref w_BES), .val (.int (0 : Int32)), .val (.int (0 : Int32))] [])) _
    refine XS.iconst X5.here hx rfl (hb hby at_74) ?_
    show Steps p.tables e below (T5.setTop (mkF m 75 #[.val (.int p1), .val (.int (p1 &&& (7 : Int32))), .val (.ref w_BES), .val (.int (0 : Int32)), .val (.int (0 : Int32))] [(.int (1 : Int32))])) _
    exact retN X5 hx (t := .boolean) Bd.returns (by simp) (hb hby at_75) hr
  · show Q0 Z p1 h0 n0 _ T5.heap _
    exact ⟨rfl, N5⟩
set_option maxRecDepth 65536 in
set_option maxHeartbeats 40000000 in
theorem rm0_BEP (l : Launch) (Z : State) (a0 : Array Value) (hw : ∀ d ∈ tables_1, d.before a0 Z = true) (ws : List Jvm.Cond) (p1 : Int32) (w_BG : Addr) (w_BES : Addr) (w_BEP : Addr) (w_SSP : Addr) (w_TBS : Addr) (w_TBSTAR : Addr) (w_TBH : Addr) (w_TBSTARH : Addr) (h0 : Heap) (n0 : Nat) (Z0 : n0 ≤ h0.size) (S_BG : Sta Z h0 "com/example/barts/barts/Server" "BG" "Lcom/example/barts/barts/Server;" (.ref w_BG)) (E_BG : Exa Z h0 w_BG "com/example/barts/barts/Server") (S_BES : Sta Z h0 "com/example/barts/barts/Server" "BES" "Lcom/example/barts/barts/Server;" (.ref w_BES)) (E_BES : Exa Z h0 w_BES "com/example/barts/barts/Server") (S_BEP : Sta Z h0 "com/example/barts/barts/Server" "BEP" "Lcom/example/barts/barts/Server;" (.ref w_BEP)) (E_BEP : Exa Z h0 w_BEP "com/example/barts/barts/Server") (S_SSP : Sta Z h0 "com/example/barts/barts/Server" "SSP" "Lcom/example/barts/barts/Server;" (.ref w_SSP)) (E_SSP : Exa Z h0 w_SSP "com/example/barts/barts/Server") (S_TBS : Sta Z h0 "com/example/barts/barts/Server" "TBS" "Lcom/example/barts/barts/Server;" (.ref w_TBS)) (E_TBS : Exa Z h0 w_TBS "com/example/barts/barts/Server") (S_TBSTAR : Sta Z h0 "com/example/barts/barts/Server" "TBSTAR" "Lcom/example/barts/barts/Server;" (.ref w_TBSTAR)) (E_TBSTAR : Exa Z h0 w_TBSTAR "com/example/barts/barts/Server") (S_TBH : Sta Z h0 "com/example/barts/barts/Server" "TBH" "Lcom/example/barts/barts/Server;" (.ref w_TBH)) (E_TBH : Exa Z h0 w_TBH "com/example/barts/barts/Server") (S_TBSTARH : Sta Z h0 "com/example/barts/barts/Server" "TBSTARH" "Lcom/example/barts/barts/Server;" (.ref w_TBSTARH)) (E_TBSTARH : Exa Z h0 w_TBSTARH "com/example/barts/barts/Server") (F_TBS_background : Fld Z h0 w_TBS "com/example/barts/barts/Server" "background" "Z" (.int (0 : Int32))) (F_TBSTAR_background : Fld Z h0 w_TBSTAR "com/example/barts/barts/Server" "background" "Z" (.int (0 : Int32))) (F_TBH_background : Fld Z h0 w_TBH "com/example/barts/barts/Server" "background" "Z" (.int (0 : Int32))) (F_TBSTARH_background : Fld Z h0 w_TBSTARH "com/example/barts/barts/Server" "background" "Z" (.int (0 : Int32))) (ne_BG_TBS : ¬ w_BG = w_TBS) (ne_BG_TBSTAR : ¬ w_BG = w_TBSTAR) (ne_BG_TBH : ¬ w_BG = w_TBH) (ne_BG_TBSTARH : ¬ w_BG = w_TBSTARH) (ne_BES_TBS : ¬ w_BES = w_TBS) (ne_BES_TBSTAR : ¬ w_BES = w_TBSTAR) (ne_BES_TBH : ¬ w_BES = w_TBH) (ne_BES_TBSTARH : ¬ w_BES = w_TBSTARH) (ne_BEP_TBS : ¬ w_BEP = w_TBS) (ne_BEP_TBSTAR : ¬ w_BEP = w_TBSTAR) (ne_BEP_TBH : ¬ w_BEP = w_TBH) (ne_BEP_TBSTARH : ¬ w_BEP = w_TBSTARH) (ne_SSP_TBS : ¬ w_SSP = w_TBS) (ne_SSP_TBSTAR : ¬ w_SSP = w_TBSTAR) (ne_SSP_TBH : ¬ w_SSP = w_TBH) (ne_SSP_TBSTARH : ¬ w_SSP = w_TBSTARH) (ne_TBS_TBSTAR : ¬ w_TBS = w_TBSTAR) (ne_TBS_TBH : ¬ w_TBS = w_TBH) (ne_TBS_TBSTARH : ¬ w_TBS = w_TBSTARH) (ne_TBSTAR_TBS : ¬ w_TBSTAR = w_TBS) (ne_TBSTAR_TBH : ¬ w_TBSTAR = w_TBH) (ne_TBSTAR_TBSTARH : ¬ w_TBSTAR = w_TBSTARH) (ne_TBH_TBS : ¬ w_TBH = w_TBS) (ne_TBH_TBSTAR : ¬ w_TBH = w_TBSTAR) (ne_TBH_TBSTARH : ¬ w_TBH = w_TBSTARH) (ne_TBSTARH_TBS : ¬ w_TBSTARH = w_TBS) (ne_TBSTARH_TBSTAR : ¬ w_TBSTARH = w_TBSTAR) (ne_TBSTARH_TBH : ¬ w_TBSTARH = w_TBH) (hp0 : ¬ (p1 &&& (7 : Int32)) = (0 : Int32)) (hp1 : ¬ (p1 &&& (7 : Int32)) = (1 : Int32)) (hp : (p1 &&& (7 : Int32)) = (2 : Int32)) (hc17 : (p1 &&& (7 : Int32)) < (4 : Int32)) (hk30 : (0 : Int32) = (0 : Int32)) (hk36 : (0 : Int32) = (0 : Int32)) (hk52 : (0 : Int32) = (0 : Int32)) (hk65 : (0 : Int32) = (0 : Int32)) :
    MetFree l x (head1 (Jvm.Cond.code x code maxLocals ret :: ws) room_1) (fun a U => a = #[(.int p1)] ∧ Z.Warmed39 U.vm ∧ U.heap = h0) (fun _ _ _ _ _ => True) (fun _ U o U' => ∃ v L, o = .returned v ∧ Q0 Z p1 h0 n0 v U'.heap L ∧ FrameEnd U o U' L room_1.cells room_1.slots) := by
  refine MetFree.of_bodySF (plainFor_of_name pn_0) hisR ?_
  intro p e s m args below meth c s₁ Bd hml0 hP hK
  obtain ⟨rfl, hZ, hh⟩ := hP
  have hx := Bd.exec
  have hby := Bd.bytes
  have hml : c.maxLocals = 5 := hml0
  have hown : s.vm.findClass "com/example/barts/barts/ServerAssignsDeadlinesPinLaw" = some m.cls := findClass_of_methodNamed Bd.named
  have hnm := (name_of_methodNamed Bd.named Bd.method).1
  have X0 : Stand p l e room_1 s m #[(.int p1)] below meth c s₁ [] 0 0 := Stand.of_body Bd
  have e0 : s₁.heap = h0 := by rw [← hh, Bd.state]; rfl
  have N0 := Fr.nil n0
  have pre0 : ∀ t, Steps p.tables e below (s₁.setTop (mkF m 0 #[.val (.int p1), .unset, .unset, .unset, .unset] [])) t → Steps p.tables e below (s₁.setTop (entryFrame m #[(.int p1)] maxLocals)) t := fun t k => castTop (ef_0 m p1) k
  obtain ⟨_, _, ⟨T2, L2, k2, n2⟩, -, X2, ⟨Lc2, hQ2, l2, y2, z2⟩, st2⟩ := Jvm.LawKit.callS X0 hx (y := (⟨"com/example/barts/barts/ServerAssignsDeadlinesPinLaw", "pick", "(I)Lcom/example/barts/barts/Server;"⟩ : MethodName)) hown (mvT hZ (hw _ (List.mem_of_getElem? (i := 0) rfl))) (mvT hZ (hw _ (List.mem_of_getElem? (i := 1) rfl))) (mvT hZ (hw _ (List.mem_of_getElem? (i := 2) rfl))) (mvT hZ (hw _ (List.mem_of_getElem? (i := 3) rfl))) (by decide) (backOf (W := 0) (rm1_k2 l Z a0 hw [] (p1 &&& (7 : Int32)) w_BEP h0 n0 Z0 S_BEP hp0 hp1 hp) hZ (hw _ (List.mem_of_getElem? (i := 3) rfl)) (hw _ (List.mem_of_getElem? (i := 2) rfl)) (by decide) (by decide)) (g := (mkF m 6 #[.val (.int p1), .val (.int (p1 &&& (7 : Int32))), .unset, .unset, .unset] [(.int (p1 &&& (7 : Int32)))])) rfl (by rw [hml]; rfl) (argsL := [(.int (p1 &&& (7 : Int32)))]) (rest := []) (lenOf pd_0_0 rfl) rfl (by show 2 * 0 + _ ≤ _; exact Nat.le_of_eq rfl) (hb hby at_6) (fun _ _ => ⟨rfl, e0, (by decide : 0 + 0 ≤ _), (by decide : 0 + 0 ≤ _)⟩)
  dsimp only [Pt.U, Pt.locs, Pt.cells, Pt.slots] at X2 l2 y2 z2 st2 hQ2
  subst l2 y2 z2
  obtain ⟨rfl, N2q, e2q⟩ := hQ2
  have N2 := Fr.app N0 N2q
  have Z2 : n0 ≤ T2.heap.size := by rw [e2q]; exact Z0
  have Kq2 : Keep h0 T2.heap [] := by rw [e2q]; exact Keep.refl _ _
  have eh2 : T2.heap = h0 := e2q
  obtain ⟨cq3, kq3, q3a, q3b, q3c⟩ := isOf hZ rfl (E_BEP.keep Kq2)
  obtain ⟨_, _, ⟨T3, L3, k3, n3⟩, -, X3, ⟨Lc3, hQ3, l3, y3, z3⟩, st3⟩ := X2.virtualBack hx (y := (⟨"com/example/barts/barts/Server", "assignsDeadlines", "()Z"⟩ : MethodName)) (z := (⟨"com/example/barts/barts/Server", "assignsDeadlines", "()Z"⟩ : MethodName)) hown (mvT hZ (hw _ (List.mem_of_getElem? (i := 7) rfl))) (mvT hZ (hw _ (List.mem_of_getElem? (i := 8) rfl))) (notFace_of_selects (args := #[]) (mvT hZ (hw _ (List.mem_of_getElem? (i := 10) rfl)))) (mvT hZ (hw _ (List.mem_of_getElem? (i := 10) rfl))) (mvT hZ (hw _ (List.mem_of_getElem? (i := 9) rfl))) (by decide) (backOf (W := 0) (rm2_ffft l Z a0 hw [] w_BEP w_TBS w_TBSTAR w_TBH w_TBSTARH T2.heap n0 Z2 (by rw [eh2]; exact S_TBS) (by rw [eh2]; exact S_TBSTAR) (by rw [eh2]; exact S_TBH) (by rw [eh2]; exact S_TBSTARH) ne_BEP_TBS ne_BEP_TBSTAR ne_BEP_TBH ne_BEP_TBSTARH) hZ (hw _ (List.mem_of_getElem? (i := 11) rfl)) (hw _ (List.mem_of_getElem? (i := 5) rfl)) (by decide) (by decide)) q3a q3c (g := (mkF m 11 #[.val (.int p1), .val (.int (p1 &&& (7 : Int32))), .val (.ref w_BEP), .unset, .unset] [(.ref w_BEP)])) rfl (by rw [hml]; rfl) (Steps.refl _) (argsL := []) (rest := []) (lenOf pd_0_1 rfl) rfl (by show 2 * 0 + _ ≤ _; exact Nat.le_of_eq rfl) (hb hby at_11) (fun _ _ => ⟨rfl, rfl, (by decide : 0 + 0 ≤ _), (by decide : 0 + 0 ≤ _)⟩)
  dsimp only [Pt.U, Pt.locs, Pt.cells, Pt.slots] at X3 l3 y3 z3 st3 hQ3
  subst l3 y3 z3
  obtain ⟨rfl, N3q, e3q⟩ := hQ3
  have N3 := Fr.app N2 N3q
  have Z3 : n0 ≤ T3.heap.size := by rw [e3q]; exact Z2
  have Kq3 : Keep T2.heap T3.heap [] := by rw [e3q]; exact Keep.refl _ _
  have eh3 : T3.heap = h0 := e3q.trans eh2
  obtain ⟨cq4, kq4, q4a, q4b, q4c⟩ := isOf hZ rfl ((E_BEP.keep Kq2).keep Kq3)
  obtain ⟨_, _, ⟨T4, L4, k4, n4⟩, -, X4, ⟨Lc4, hQ4, l4, y4, z4⟩, st4⟩ := X3.virtualBack hx (y := (⟨"com/example/barts/barts/Server", "shortensDeadlines", "()Z"⟩ : MethodName)) (z := (⟨"com/example/barts/barts/Server", "shortensDeadlines", "()Z"⟩ : MethodName)) hown (mvT hZ (hw _ (List.mem_of_getElem? (i := 20) rfl))) (mvT hZ (hw _ (List.mem_of_getElem? (i := 21) rfl))) (notFace_of_selects (args := #[]) (mvT hZ (hw _ (List.mem_of_getElem? (i := 23) rfl)))) (mvT hZ (hw _ (List.mem_of_getElem? (i := 23) rfl))) (mvT hZ (hw _ (List.mem_of_getElem? (i := 22) rfl))) (by decide) (backOf (W := 0) (rm3_ft l Z a0 hw [] w_BEP w_TBSTAR w_TBSTARH T3.heap n0 Z3 (by rw [eh3]; exact S_TBSTAR) (by rw [eh3]; exact S_TBSTARH) ne_BEP_TBSTAR ne_BEP_TBSTARH) hZ (hw _ (List.mem_of_getElem? (i := 24) rfl)) (hw _ (List.mem_of_getElem? (i := 5) rfl)) (by decide) (by decide)) q4a q4c (g := (mkF m 49 #[.val (.int p1), .val (.int (p1 &&& (7 : Int32))), .val (.ref w_BEP), .val (.int (0 : Int32)), .val (.int (0 : Int32))] [(.ref w_BEP)])) rfl (by rw [hml]; rfl) (Steps.refl _) (argsL := []) (rest := []) (lenOf pd_0_1 rfl) rfl (by show 2 * 0 + _ ≤ _; exact Nat.le_of_eq rfl) (hb hby at_49) (fun _ _ => ⟨rfl, rfl, (by decide : 0 + 0 ≤ _), (by decide : 0 + 0 ≤ _)⟩)
  dsimp only [Pt.U, Pt.locs, Pt.cells, Pt.slots] at X4 l4 y4 z4 st4 hQ4
  subst l4 y4 z4
  obtain ⟨rfl, N4q, e4q⟩ := hQ4
  have N4 := Fr.app N3 N4q
  have Z4 : n0 ≤ T4.heap.size := by rw [e4q]; exact Z3
  have Kq4 : Keep T3.heap T4.heap [] := by rw [e4q]; exact Keep.refl _ _
  have eh4 : T4.heap = h0 := e4q.trans eh3
  obtain ⟨cq5, kq5, q5a, q5b, q5c⟩ := isOf hZ rfl (((E_BEP.keep Kq2).keep Kq3).keep Kq4)
  obtain ⟨_, _, ⟨T5, L5, k5, n5⟩, -, X5, ⟨Lc5, hQ5, l5, y5, z5⟩, st5⟩ := X4.virtualBack hx (y := (⟨"com/example/barts/barts/Server", "weighsEnergy", "()Z"⟩ : MethodName)) (z := (⟨"com/example/barts/barts/Server", "weighsEnergy", "()Z"⟩ : MethodName)) hown (mvT hZ (hw _ (List.mem_of_getElem? (i := 25) rfl))) (mvT hZ (hw _ (List.mem_of_getElem? (i := 26) rfl))) (notFace_of_selects (args := #[]) (mvT hZ (hw _ (List.mem_of_getElem? (i := 28) rfl)))) (mvT hZ (hw _ (List.mem_of_getElem? (i := 28) rfl))) (mvT hZ (hw _ (List.mem_of_getElem? (i := 27) rfl))) (by decide) (backOf (W := 0) (rm4_ft l Z a0 hw [] w_BEP w_TBH w_TBSTARH T4.heap n0 Z4 (by rw [eh4]; exact S_TBH) (by rw [eh4]; exact S_TBSTARH) ne_BEP_TBH ne_BEP_TBSTARH) hZ (hw _ (List.mem_of_getElem? (i := 29) rfl)) (hw _ (List.mem_of_getElem? (i := 5) rfl)) (by decide) (by decide)) q5a q5c (g := (mkF m 62 #[.val (.int p1), .val (.int (p1 &&& (7 : Int32))), .val (.ref w_BEP), .val (.int (0 : Int32)), .val (.int (0 : Int32))] [(.ref w_BEP)])) rfl (by rw [hml]; rfl) (Steps.refl _) (argsL := []) (rest := []) (lenOf pd_0_1 rfl) rfl (by show 2 * 0 + _ ≤ _; exact Nat.le_of_eq rfl) (hb hby at_62) (fun _ _ => ⟨rfl, rfl, (by decide : 0 + 0 ≤ _), (by decide : 0 + 0 ≤ _)⟩)
  dsimp only [Pt.U, Pt.locs, Pt.cells, Pt.slots] at X5 l5 y5 z5 st5 hQ5
  subst l5 y5 z5
  obtain ⟨rfl, N5q, e5q⟩ := hQ5
  have N5 := Fr.app N4 N5q
  have Z5 : n0 ≤ T5.heap.size := by rw [e5q]; exact Z4
  have Kq5 : Keep T4.heap T5.heap [] := by rw [e5q]; exact Keep.refl _ _
  have eh5 : T5.heap = h0 := e5q.trans eh4
  obtain ⟨fs, hr, hrun, hended, hW, hsame⟩ := X5.leave (v := some (.int (1 : Int32))) (fun h => by rw [Bd.returns] at h; cases h) Bd.notSynchronized
  refine ⟨_, _, pre0 _ ?_, hrun, hended, _, _, rfl, ?_, ⟨_, rfl⟩, hW, hsame.mono (by decide) (by decide)⟩
  · show Steps p.tables e below (s₁.setTop (mkF m 0 #[.val (.int p1), .unset, .unset, .unset, .unset] [])) _
    refine XS.iloadN X0.here hx rfl (hb hby at_0) rfl ?_
    show Steps p.tables e below (s₁.setTop (mkF m 1 #[.val (.int p1), .unset, .unset, .unset, .unset] [(.int p1)])) _
    refine XS.bipush X0.here hx rfl (hb hby at_1) ?_
    show Steps p.tables e below (s₁.setTop (mkF m 3 #[.val (.int p1), .unset, .unset, .unset, .unset] [(.int (7 : Int32)), (.int p1)])) _
    refine XS.iand X0.here hx rfl (hb hby at_3) rfl ?_
    show Steps p.tables e below (s₁.setTop (mkF m 4 #[.val (.int p1), .unset, .unset, .unset, .unset] [(.int (p1 &&& (7 : Int32)))])) _
    refine XS.istoreN X0.here hx rfl (hb hby at_4) rfl (l' := #[.val (.int p1), .val (.int (p1 &&& (7 : Int32))), .unset, .unset, .unset]) rfl ?_
    show Steps p.tables e below (s₁.setTop (mkF m 5 #[.val (.int p1), .val (.int (p1 &&& (7 : Int32))), .unset, .unset, .unset] [])) _
    refine XS.iloadN X0.here hx rfl (hb hby at_5) rfl ?_
    show Steps p.tables e below (s₁.setTop (mkF m 6 #[.val (.int p1), .val (.int (p1 &&& (7 : Int32))), .unset, .unset, .unset] [(.int (p1 &&& (7 : Int32)))])) _
    refine st2 _ ?_
    show Steps p.tables e below (T2.setTop (mkF m 9 #[.val (.int p1), .val (.int (p1 &&& (7 : Int32))), .unset, .unset, .unset] [(.ref w_BEP)])) _
    refine XS.astoreN X2.here hx rfl (hb hby at_9) rfl rfl (l' := #[.val (.int p1), .val (.int (p1 &&& (7 : Int32))), .val (.ref w_BEP), .unset, .unset]) rfl ?_
    show Steps p.tables e below (T2.setTop (mkF m 10 #[.val (.int p1), .val (.int (p1 &&& (7 : Int32))), .val (.ref w_BEP), .unset, .unset] [])) _
    refine XS.aloadN X2.here hx rfl (hb hby at_10) rfl rfl ?_
    show Steps p.tables e below (T2.setTop (mkF m 11 #[.val (.int p1), .val (.int (p1 &&& (7 : Int32))), .val (.ref w_BEP), .unset, .unset] [(.ref w_BEP)])) _
    refine st3.trans ?_
    show Steps p.tables e below (T3.setTop (mkF m 14 #[.val (.int p1), .val (.int (p1 &&& (7 : Int32))), .val (.ref w_BEP), .unset, .unset] [(.int (0 : Int32))])) _
    refine XS.istoreN X3.here hx rfl (hb hby at_14) rfl (l' := #[.val (.int p1), .val (.int (p1 &&& (7 : Int32))), .val (.ref w_BEP), .val (.int (0 : Int32)), .unset]) rfl ?_
    show Steps p.tables e below (T3.setTop (mkF m 15 #[.val (.int p1), .val (.int (p1 &&& (7 : Int32))), .val (.ref w_BEP), .val (.int (0 : Int32)), .unset] [])) _
    refine XS.iloadN X3.here hx rfl (hb hby at_15) rfl ?_
    show Steps p.tables e below (T3.setTop (mkF m 16 #[.val (.int p1), .val (.int (p1 &&& (7 : Int32))), .val (.ref w_BEP), .val (.int (0 : Int32)), .unset] [(.int (p1 &&& (7 : Int32)))])) _
    refine XS.iconst X3.here hx rfl (hb hby at_16) ?_
    show Steps p.tables e below (T3.setTop (mkF m 17 #[.val (.int p1), .val (.int (p1 &&& (7 : Int32))), .val (.ref w_BEP), .val (.int (0 : Int32)), .unset] [(.int (4 : Int32)), (.int (p1 &&& (7 : Int32)))])) _
    refine XS.icmpYes X3.here hx rfl (pc0 := 17) (pc' := 24) rfl (hb hby at_17) rfl (tlt hc17).1 (by decide) (by decide) ?_
    show Steps p.tables e below (T3.setTop (mkF m 24 #[.val (.int p1), .val (.int (p1 &&& (7 : Int32))), .val (.ref w_BEP), .val (.int (0 : Int32)), .unset] [])) _
    refine XS.iconst X3.here hx rfl (hb hby at_24) ?_
    show Steps p.tables e below (T3.setTop (mkF m 25 #[.val (.int p1), .val (.int (p1 &&& (7 : Int32))), .val (.ref w_BEP), .val (.int (0 : Int32)), .unset] [(.int (0 : Int32))])) _
    refine XS.istore X3.here hx rfl (hb hby at_25) rfl (l' := #[.val (.int p1), .val (.int (p1 &&& (7 : Int32))), .val (.ref w_BEP), .val (.int (0 : Int32)), .val (.int (0 : Int32))]) rfl ?_
    show Steps p.tables e below (T3.setTop (mkF m 27 #[.val (.int p1), .val (.int (p1 &&& (7 : Int32))), .val (.ref w_BEP), .val (.int (0 : Int32)), .val (.int (0 : Int32))] [])) _
    refine XS.iloadN X3.here hx rfl (hb hby at_27) rfl ?_
    show Steps p.tables e below (T3.setTop (mkF m 28 #[.val (.int p1), .val (.int (p1 &&& (7 : Int32))), .val (.ref w_BEP), .val (.int (0 : Int32)), .val (.int (0 : Int32))] [(.int (0 : Int32))])) _
    refine XS.iload X3.here hx rfl (hb hby at_28) rfl ?_
    show Steps p.tables e below (T3.setTop (mkF m 30 #[.val (.int p1), .val (.int (p1 &&& (7 : Int32))), .val (.ref w_BEP), .val (.int (0 : Int32)), .val (.int (0 : Int32))] [(.int (0 : Int32)), (.int (0 : Int32))])) _
    refine XS.icmpYes X3.here hx rfl (pc0 := 30) (pc' := 35) rfl (hb hby at_30) rfl (teq hk30).1 (by decide) (by decide) ?_
    show Steps p.tables e below (T3.setTop (mkF m 35 #[.val (.int p1), .val (.int (p1 &&& (7 : Int32))), .val (.ref w_BEP), .val (.int (0 : Int32)), .val (.int (0 : Int32))] [])) _
    refine XS.iloadN X3.here hx rfl (hb hby at_35) rfl ?_
    show Steps p.tables e below (T3.setTop (mkF m 36 #[.val (.int p1), .val (.int (p1 &&& (7 : Int32))), .val (.ref w_BEP), .val (.int (0 : Int32)), .val (.int (0 : Int32))] [(.int (0 : Int32))])) _
    refine XS.ifYes X3.here hx rfl (pc0 := 36) (pc' := 48) rfl (hb hby at_36) rfl ((if0 _ _).trans (teq hk36).1) (by decide) (by decide) ?_
    show Steps p.tables e below (T3.setTop (mkF m 48 #[.val (.int p1), .val (.int (p1 &&& (7 : Int32))), .val (.ref w_BEP), .val (.int (0 : Int32)), .val (.int (0 : Int32))] [])) _
    refine XS.aloadN X3.here hx rfl (hb hby at_48) rfl rfl ?_
    show Steps p.tables e below (T3.setTop (mkF m 49 #[.val (.int p1), .val (.int (p1 &&& (7 : Int32))), .val (.ref w_BEP), .val (.int (0 : Int32)), .val (.int (0 : Int32))] [(.ref w_BEP)])) _
    refine st4.trans ?_
    show Steps p.tables e below (T4.setTop (mkF m 52 #[.val (.int p1), .val (.int (p1 &&& (7 : Int32))), .val (.ref w_BEP), .val (.int (0 : Int32)), .val (.int (0 : Int32))] [(.int (0 : Int32))])) _
    refine XS.ifYes X4.here hx rfl (pc0 := 52) (pc' := 61) rfl (hb hby at_52) rfl ((if0 _ _).trans (teq hk52).1) (by decide) (by decide) ?_
    show Steps p.tables e below (T4.setTop (mkF m 61 #[.val (.int p1), .val (.int (p1 &&& (7 : Int32))), .val (.ref w_BEP), .val (.int (0 : Int32)), .val (.int (0 : Int32))] [])) _
    refine XS.aloadN X4.here hx rfl (hb hby at_61) rfl rfl ?_
    show Steps p.tables e below (T4.setTop (mkF m 62 #[.val (.int p1), .val (.int (p1 &&& (7 : Int32))), .val (.ref w_BEP), .val (.int (0 : Int32)), .val (.int (0 : Int32))] [(.ref w_BEP)])) _
    refine st5.trans ?_
    show Steps p.tables e below (T5.setTop (mkF m 65 #[.val (.int p1), .val (.int (p1 &&& (7 : Int32))), .val (.ref w_BEP), .val (.int (0 : Int32)), .val (.int (0 : Int32))] [(.int (0 : Int32))])) _
    refine XS.ifYes X5.here hx rfl (pc0 := 65) (pc' := 74) rfl (hb hby at_65) rfl ((if0 _ _).trans (teq hk65).1) (by decide) (by decide) ?_
    show Steps p.tables e below (T5.setTop (mkF m 74 #[.val (.int p1), .val (.int (p1 &&& (7 : Int32))), .val (.ref w_BEP), .val (.int (0 : Int32)), .val (.int (0 : Int32))] [])) _
    refine XS.iconst X5.here hx rfl (hb hby at_74) ?_
    show Steps p.tables e below (T5.setTop (mkF m 75 #[.val (.int p1), .val (.int (p1 &&& (7 : Int32))), .val (.ref w_BEP), .val (.int (0 : Int32)), .val (.int (0 : Int32))] [(.int (1 : Int32))])) _
    exact retN X5 hx (t := .boolean) Bd.returns (by simp) (hb hby at_75) hr
  · show Q0 Z p1 h0 n0 _ T5.heap _
    exact ⟨rfl, N5⟩
set_option maxRecDepth 65536 in
set_option maxHeartbeats 40000000 in
theorem rm0_SSP (l : Launch) (Z : State) (a0 : Array Value) (hw : ∀ d ∈ tables_1, d.before a0 Z = true) (ws : List Jvm.Cond) (p1 : Int32) (w_BG : Addr) (w_BES : Addr) (w_BEP : Addr) (w_SSP : Addr) (w_TBS : Addr) (w_TBSTAR : Addr) (w_TBH : Addr) (w_TBSTARH : Addr) (h0 : Heap) (n0 : Nat) (Z0 : n0 ≤ h0.size) (S_BG : Sta Z h0 "com/example/barts/barts/Server" "BG" "Lcom/example/barts/barts/Server;" (.ref w_BG)) (E_BG : Exa Z h0 w_BG "com/example/barts/barts/Server") (S_BES : Sta Z h0 "com/example/barts/barts/Server" "BES" "Lcom/example/barts/barts/Server;" (.ref w_BES)) (E_BES : Exa Z h0 w_BES "com/example/barts/barts/Server") (S_BEP : Sta Z h0 "com/example/barts/barts/Server" "BEP" "Lcom/example/barts/barts/Server;" (.ref w_BEP)) (E_BEP : Exa Z h0 w_BEP "com/example/barts/barts/Server") (S_SSP : Sta Z h0 "com/example/barts/barts/Server" "SSP" "Lcom/example/barts/barts/Server;" (.ref w_SSP)) (E_SSP : Exa Z h0 w_SSP "com/example/barts/barts/Server") (S_TBS : Sta Z h0 "com/example/barts/barts/Server" "TBS" "Lcom/example/barts/barts/Server;" (.ref w_TBS)) (E_TBS : Exa Z h0 w_TBS "com/example/barts/barts/Server") (S_TBSTAR : Sta Z h0 "com/example/barts/barts/Server" "TBSTAR" "Lcom/example/barts/barts/Server;" (.ref w_TBSTAR)) (E_TBSTAR : Exa Z h0 w_TBSTAR "com/example/barts/barts/Server") (S_TBH : Sta Z h0 "com/example/barts/barts/Server" "TBH" "Lcom/example/barts/barts/Server;" (.ref w_TBH)) (E_TBH : Exa Z h0 w_TBH "com/example/barts/barts/Server") (S_TBSTARH : Sta Z h0 "com/example/barts/barts/Server" "TBSTARH" "Lcom/example/barts/barts/Server;" (.ref w_TBSTARH)) (E_TBSTARH : Exa Z h0 w_TBSTARH "com/example/barts/barts/Server") (F_TBS_background : Fld Z h0 w_TBS "com/example/barts/barts/Server" "background" "Z" (.int (0 : Int32))) (F_TBSTAR_background : Fld Z h0 w_TBSTAR "com/example/barts/barts/Server" "background" "Z" (.int (0 : Int32))) (F_TBH_background : Fld Z h0 w_TBH "com/example/barts/barts/Server" "background" "Z" (.int (0 : Int32))) (F_TBSTARH_background : Fld Z h0 w_TBSTARH "com/example/barts/barts/Server" "background" "Z" (.int (0 : Int32))) (ne_BG_TBS : ¬ w_BG = w_TBS) (ne_BG_TBSTAR : ¬ w_BG = w_TBSTAR) (ne_BG_TBH : ¬ w_BG = w_TBH) (ne_BG_TBSTARH : ¬ w_BG = w_TBSTARH) (ne_BES_TBS : ¬ w_BES = w_TBS) (ne_BES_TBSTAR : ¬ w_BES = w_TBSTAR) (ne_BES_TBH : ¬ w_BES = w_TBH) (ne_BES_TBSTARH : ¬ w_BES = w_TBSTARH) (ne_BEP_TBS : ¬ w_BEP = w_TBS) (ne_BEP_TBSTAR : ¬ w_BEP = w_TBSTAR) (ne_BEP_TBH : ¬ w_BEP = w_TBH) (ne_BEP_TBSTARH : ¬ w_BEP = w_TBSTARH) (ne_SSP_TBS : ¬ w_SSP = w_TBS) (ne_SSP_TBSTAR : ¬ w_SSP = w_TBSTAR) (ne_SSP_TBH : ¬ w_SSP = w_TBH) (ne_SSP_TBSTARH : ¬ w_SSP = w_TBSTARH) (ne_TBS_TBSTAR : ¬ w_TBS = w_TBSTAR) (ne_TBS_TBH : ¬ w_TBS = w_TBH) (ne_TBS_TBSTARH : ¬ w_TBS = w_TBSTARH) (ne_TBSTAR_TBS : ¬ w_TBSTAR = w_TBS) (ne_TBSTAR_TBH : ¬ w_TBSTAR = w_TBH) (ne_TBSTAR_TBSTARH : ¬ w_TBSTAR = w_TBSTARH) (ne_TBH_TBS : ¬ w_TBH = w_TBS) (ne_TBH_TBSTAR : ¬ w_TBH = w_TBSTAR) (ne_TBH_TBSTARH : ¬ w_TBH = w_TBSTARH) (ne_TBSTARH_TBS : ¬ w_TBSTARH = w_TBS) (ne_TBSTARH_TBSTAR : ¬ w_TBSTARH = w_TBSTAR) (ne_TBSTARH_TBH : ¬ w_TBSTARH = w_TBH) (hp0 : ¬ (p1 &&& (7 : Int32)) = (0 : Int32)) (hp1 : ¬ (p1 &&& (7 : Int32)) = (1 : Int32)) (hp2 : ¬ (p1 &&& (7 : Int32)) = (2 : Int32)) (hp : (p1 &&& (7 : Int32)) = (3 : Int32)) (hc17 : (p1 &&& (7 : Int32)) < (4 : Int32)) (hk30 : (0 : Int32) = (0 : Int32)) (hk36 : (0 : Int32) = (0 : Int32)) (hk52 : (0 : Int32) = (0 : Int32)) (hk65 : (0 : Int32) = (0 : Int32)) :
    MetFree l x (head1 (Jvm.Cond.code x code maxLocals ret :: ws) room_1) (fun a U => a = #[(.int p1)] ∧ Z.Warmed39 U.vm ∧ U.heap = h0) (fun _ _ _ _ _ => True) (fun _ U o U' => ∃ v L, o = .returned v ∧ Q0 Z p1 h0 n0 v U'.heap L ∧ FrameEnd U o U' L room_1.cells room_1.slots) := by
  refine MetFree.of_bodySF (plainFor_of_name pn_0) hisR ?_
  intro p e s m args below meth c s₁ Bd hml0 hP hK
  obtain ⟨rfl, hZ, hh⟩ := hP
  have hx := Bd.exec
  have hby := Bd.bytes
  have hml : c.maxLocals = 5 := hml0
  have hown : s.vm.findClass "com/example/barts/barts/ServerAssignsDeadlinesPinLaw" = some m.cls := findClass_of_methodNamed Bd.named
  have hnm := (name_of_methodNamed Bd.named Bd.method).1
  have X0 : Stand p l e room_1 s m #[(.int p1)] below meth c s₁ [] 0 0 := Stand.of_body Bd
  have e0 : s₁.heap = h0 := by rw [← hh, Bd.state]; rfl
  have N0 := Fr.nil n0
  have pre0 : ∀ t, Steps p.tables e below (s₁.setTop (mkF m 0 #[.val (.int p1), .unset, .unset, .unset, .unset] [])) t → Steps p.tables e below (s₁.setTop (entryFrame m #[(.int p1)] maxLocals)) t := fun t k => castTop (ef_0 m p1) k
  obtain ⟨_, _, ⟨T2, L2, k2, n2⟩, -, X2, ⟨Lc2, hQ2, l2, y2, z2⟩, st2⟩ := Jvm.LawKit.callS X0 hx (y := (⟨"com/example/barts/barts/ServerAssignsDeadlinesPinLaw", "pick", "(I)Lcom/example/barts/barts/Server;"⟩ : MethodName)) hown (mvT hZ (hw _ (List.mem_of_getElem? (i := 0) rfl))) (mvT hZ (hw _ (List.mem_of_getElem? (i := 1) rfl))) (mvT hZ (hw _ (List.mem_of_getElem? (i := 2) rfl))) (mvT hZ (hw _ (List.mem_of_getElem? (i := 3) rfl))) (by decide) (backOf (W := 0) (rm1_k3 l Z a0 hw [] (p1 &&& (7 : Int32)) w_SSP h0 n0 Z0 S_SSP hp0 hp1 hp2 hp) hZ (hw _ (List.mem_of_getElem? (i := 3) rfl)) (hw _ (List.mem_of_getElem? (i := 2) rfl)) (by decide) (by decide)) (g := (mkF m 6 #[.val (.int p1), .val (.int (p1 &&& (7 : Int32))), .unset, .unset, .unset] [(.int (p1 &&& (7 : Int32)))])) rfl (by rw [hml]; rfl) (argsL := [(.int (p1 &&& (7 : Int32)))]) (rest := []) (lenOf pd_0_0 rfl) rfl (by show 2 * 0 + _ ≤ _; exact Nat.le_of_eq rfl) (hb hby at_6) (fun _ _ => ⟨rfl, e0, (by decide : 0 + 0 ≤ _), (by decide : 0 + 0 ≤ _)⟩)
  dsimp only [Pt.U, Pt.locs, Pt.cells, Pt.slots] at X2 l2 y2 z2 st2 hQ2
  subst l2 y2 z2
  obtain ⟨rfl, N2q, e2q⟩ := hQ2
  have N2 := Fr.app N0 N2q
  have Z2 : n0 ≤ T2.heap.size := by rw [e2q]; exact Z0
  have Kq2 : Keep h0 T2.heap [] := by rw [e2q]; exact Keep.refl _ _
  have eh2 : T2.heap = h0 := e2q
  obtain ⟨cq3, kq3, q3a, q3b, q3c⟩ := isOf hZ rfl (E_SSP.keep Kq2)
  obtain ⟨_, _, ⟨T3, L3, k3, n3⟩, -, X3, ⟨Lc3, hQ3, l3, y3, z3⟩, st3⟩ := X2.virtualBack hx (y := (⟨"com/example/barts/barts/Server", "assignsDeadlines", "()Z"⟩ : MethodName)) (z := (⟨"com/example/barts/barts/Server", "assignsDeadlines", "()Z"⟩ : MethodName)) hown (mvT hZ (hw _ (List.mem_of_getElem? (i := 7) rfl))) (mvT hZ (hw _ (List.mem_of_getElem? (i := 8) rfl))) (notFace_of_selects (args := #[]) (mvT hZ (hw _ (List.mem_of_getElem? (i := 10) rfl)))) (mvT hZ (hw _ (List.mem_of_getElem? (i := 10) rfl))) (mvT hZ (hw _ (List.mem_of_getElem? (i := 9) rfl))) (by decide) (backOf (W := 0) (rm2_ffft l Z a0 hw [] w_SSP w_TBS w_TBSTAR w_TBH w_TBSTARH T2.heap n0 Z2 (by rw [eh2]; exact S_TBS) (by rw [eh2]; exact S_TBSTAR) (by rw [eh2]; exact S_TBH) (by rw [eh2]; exact S_TBSTARH) ne_SSP_TBS ne_SSP_TBSTAR ne_SSP_TBH ne_SSP_TBSTARH) hZ (hw _ (List.mem_of_getElem? (i := 11) rfl)) (hw _ (List.mem_of_getElem? (i := 5) rfl)) (by decide) (by decide)) q3a q3c (g := (mkF m 11 #[.val (.int p1), .val (.int (p1 &&& (7 : Int32))), .val (.ref w_SSP), .unset, .unset] [(.ref w_SSP)])) rfl (by rw [hml]; rfl) (Steps.refl _) (argsL := []) (rest := []) (lenOf pd_0_1 rfl) rfl (by show 2 * 0 + _ ≤ _; exact Nat.le_of_eq rfl) (hb hby at_11) (fun _ _ => ⟨rfl, rfl, (by decide : 0 + 0 ≤ _), (by decide : 0 + 0 ≤ _)⟩)
  dsimp only [Pt.U, Pt.locs, Pt.cells, Pt.slots] at X3 l3 y3 z3 st3 hQ3
  subst l3 y3 z3
  obtain ⟨rfl, N3q, e3q⟩ := hQ3
  have N3 := Fr.app N2 N3q
  have Z3 : n0 ≤ T3.heap.size := by rw [e3q]; exact Z2
  have Kq3 : Keep T2.heap T3.heap [] := by rw [e3q]; exact Keep.refl _ _
  have eh3 : T3.heap = h0 := e3q.trans eh2
  obtain ⟨cq4, kq4, q4a, q4b, q4c⟩ := isOf hZ rfl ((E_SSP.keep Kq2).keep Kq3)
  obtain ⟨_, _, ⟨T4, L4, k4, n4⟩, -, X4, ⟨Lc4, hQ4, l4, y4, z4⟩, st4⟩ := X3.virtualBack hx (y := (⟨"com/example/barts/barts/Server", "shortensDeadlines", "()Z"⟩ : MethodName)) (z := (⟨"com/example/barts/barts/Server", "shortensDeadlines", "()Z"⟩ : MethodName)) hown (mvT hZ (hw _ (List.mem_of_getElem? (i := 20) rfl))) (mvT hZ (hw _ (List.mem_of_getElem? (i := 21) rfl))) (notFace_of_selects (args := #[]) (mvT hZ (hw _ (List.mem_of_getElem? (i := 23) rfl)))) (mvT hZ (hw _ (List.mem_of_getElem? (i := 23) rfl))) (mvT hZ (hw _ (List.mem_of_getElem? (i := 22) rfl))) (by decide) (backOf (W := 0) (rm3_ft l Z a0 hw [] w_SSP w_TBSTAR w_TBSTARH T3.heap n0 Z3 (by rw [eh3]; exact S_TBSTAR) (by rw [eh3]; exact S_TBSTARH) ne_SSP_TBSTAR ne_SSP_TBSTARH) hZ (hw _ (List.mem_of_getElem? (i := 24) rfl)) (hw _ (List.mem_of_getElem? (i := 5) rfl)) (by decide) (by decide)) q4a q4c (g := (mkF m 49 #[.val (.int p1), .val (.int (p1 &&& (7 : Int32))), .val (.ref w_SSP), .val (.int (0 : Int32)), .val (.int (0 : Int32))] [(.ref w_SSP)])) rfl (by rw [hml]; rfl) (Steps.refl _) (argsL := []) (rest := []) (lenOf pd_0_1 rfl) rfl (by show 2 * 0 + _ ≤ _; exact Nat.le_of_eq rfl) (hb hby at_49) (fun _ _ => ⟨rfl, rfl, (by decide : 0 + 0 ≤ _), (by decide : 0 + 0 ≤ _)⟩)
  dsimp only [Pt.U, Pt.locs, Pt.cells, Pt.slots] at X4 l4 y4 z4 st4 hQ4
  subst l4 y4 z4
  obtain ⟨rfl, N4q, e4q⟩ := hQ4
  have N4 := Fr.app N3 N4q
  have Z4 : n0 ≤ T4.heap.size := by rw [e4q]; exact Z3
  have Kq4 : Keep T3.heap T4.heap [] := by rw [e4q]; exact Keep.refl _ _
  have eh4 : T4.heap = h0 := e4q.trans eh3
  obtain ⟨cq5, kq5, q5a, q5b, q5c⟩ := isOf hZ rfl (((E_SSP.keep Kq2).keep Kq3).keep Kq4)
  obtain ⟨_, _, ⟨T5, L5, k5, n5⟩, -, X5, ⟨Lc5, hQ5, l5, y5, z5⟩, st5⟩ := X4.virtualBack hx (y := (⟨"com/example/barts/barts/Server", "weighsEnergy", "()Z"⟩ : MethodName)) (z := (⟨"com/example/barts/barts/Server", "weighsEnergy", "()Z"⟩ : MethodName)) hown (mvT hZ (hw _ (List.mem_of_getElem? (i := 25) rfl))) (mvT hZ (hw _ (List.mem_of_getElem? (i := 26) rfl))) (notFace_of_selects (args := #[]) (mvT hZ (hw _ (List.mem_of_getElem? (i := 28) rfl)))) (mvT hZ (hw _ (List.mem_of_getElem? (i := 28) rfl))) (mvT hZ (hw _ (List.mem_of_getElem? (i := 27) rfl))) (by decide) (backOf (W := 0) (rm4_ft l Z a0 hw [] w_SSP w_TBH w_TBSTARH T4.heap n0 Z4 (by rw [eh4]; exact S_TBH) (by rw [eh4]; exact S_TBSTARH) ne_SSP_TBH ne_SSP_TBSTARH) hZ (hw _ (List.mem_of_getElem? (i := 29) rfl)) (hw _ (List.mem_of_getElem? (i := 5) rfl)) (by decide) (by decide)) q5a q5c (g := (mkF m 62 #[.val (.int p1), .val (.int (p1 &&& (7 : Int32))), .val (.ref w_SSP), .val (.int (0 : Int32)), .val (.int (0 : Int32))] [(.ref w_SSP)])) rfl (by rw [hml]; rfl) (Steps.refl _) (argsL := []) (rest := []) (lenOf pd_0_1 rfl) rfl (by show 2 * 0 + _ ≤ _; exact Nat.le_of_eq rfl) (hb hby at_62) (fun _ _ => ⟨rfl, rfl, (by decide : 0 + 0 ≤ _), (by decide : 0 + 0 ≤ _)⟩)
  dsimp only [Pt.U, Pt.locs, Pt.cells, Pt.slots] at X5 l5 y5 z5 st5 hQ5
  subst l5 y5 z5
  obtain ⟨rfl, N5q, e5q⟩ := hQ5
  have N5 := Fr.app N4 N5q
  have Z5 : n0 ≤ T5.heap.size := by rw [e5q]; exact Z4
  have Kq5 : Keep T4.heap T5.heap [] := by rw [e5q]; exact Keep.refl _ _
  have eh5 : T5.heap = h0 := e5q.trans eh4
  obtain ⟨fs, hr, hrun, hended, hW, hsame⟩ := X5.leave (v := some (.int (1 : Int32))) (fun h => by rw [Bd.returns] at h; cases h) Bd.notSynchronized
  refine ⟨_, _, pre0 _ ?_, hrun, hended, _, _, rfl, ?_, ⟨_, rfl⟩, hW, hsame.mono (by decide) (by decide)⟩
  · show Steps p.tables e below (s₁.setTop (mkF m 0 #[.val (.int p1), .unset, .unset, .unset, .unset] [])) _
    refine XS.iloadN X0.here hx rfl (hb hby at_0) rfl ?_
    show Steps p.tables e below (s₁.setTop (mkF m 1 #[.val (.int p1), .unset, .unset, .unset, .unset] [(.int p1)])) _
    refine XS.bipush X0.here hx rfl (hb hby at_1) ?_
    show Steps p.tables e below (s₁.setTop (mkF m 3 #[.val (.int p1), .unset, .unset, .unset, .unset] [(.int (7 : Int32)), (.int p1)])) _
    refine XS.iand X0.here hx rfl (hb hby at_3) rfl ?_
    show Steps p.tables e below (s₁.setTop (mkF m 4 #[.val (.int p1), .unset, .unset, .unset, .unset] [(.int (p1 &&& (7 : Int32)))])) _
    refine XS.istoreN X0.here hx rfl (hb hby at_4) rfl (l' := #[.val (.int p1), .val (.int (p1 &&& (7 : Int32))), .unset, .unset, .unset]) rfl ?_
    show Steps p.tables e below (s₁.setTop (mkF m 5 #[.val (.int p1), .val (.int (p1 &&& (7 : Int32))), .unset, .unset, .unset] [])) _
    refine XS.iloadN X0.here hx rfl (hb hby at_5) rfl ?_
    show Steps p.tables e below (s₁.setTop (mkF m 6 #[.val (.int p1), .val (.int (p1 &&& (7 : Int32))), .unset, .unset, .unset] [(.int (p1 &&& (7 : Int32)))])) _
    refine st2 _ ?_
    show Steps p.tables e below (T2.setTop (mkF m 9 #[.val (.int p1), .val (.int (p1 &&& (7 : Int32))), .unset, .unset, .unset] [(.ref w_SSP)])) _
    refine XS.astoreN X2.here hx rfl (hb hby at_9) rfl rfl (l' := #[.val (.int p1), .val (.int (p1 &&& (7 : Int32))), .val (.ref w_SSP), .unset, .unset]) rfl ?_
    show Steps p.tables e below (T2.setTop (mkF m 10 #[.val (.int p1), .val (.int (p1 &&& (7 : Int32))), .val (.ref w_SSP), .unset, .unset] [])) _
    refine XS.aloadN X2.here hx rfl (hb hby at_10) rfl rfl ?_
    show Steps p.tables e below (T2.setTop (mkF m 11 #[.val (.int p1), .val (.int (p1 &&& (7 : Int32))), .val (.ref w_SSP), .unset, .unset] [(.ref w_SSP)])) _
    refine st3.trans ?_
    show Steps p.tables e below (T3.setTop (mkF m 14 #[.val (.int p1), .val (.int (p1 &&& (7 : Int32))), .val (.ref w_SSP), .unset, .unset] [(.int (0 : Int32))])) _
    refine XS.istoreN X3.here hx rfl (hb hby at_14) rfl (l' := #[.val (.int p1), .val (.int (p1 &&& (7 : Int32))), .val (.ref w_SSP), .val (.int (0 : Int32)), .unset]) rfl ?_
    show Steps p.tables e below (T3.setTop (mkF m 15 #[.val (.int p1), .val (.int (p1 &&& (7 : Int32))), .val (.ref w_SSP), .val (.int (0 : Int32)), .unset] [])) _
    refine XS.iloadN X3.here hx rfl (hb hby at_15) rfl ?_
    show Steps p.tables e below (T3.setTop (mkF m 16 #[.val (.int p1), .val (.int (p1 &&& (7 : Int32))), .val (.ref w_SSP), .val (.int (0 : Int32)), .unset] [(.int (p1 &&& (7 : Int32)))])) _
    refine XS.iconst X3.here hx rfl (hb hby at_16) ?_
    show Steps p.tables e below (T3.setTop (mkF m 17 #[.val (.int p1), .val (.int (p1 &&& (7 : Int32))), .val (.ref w_SSP), .val (.int (0 : Int32)), .unset] [(.int (4 : Int32)), (.int (p1 &&& (7 : Int32)))])) _
    refine XS.icmpYes X3.here hx rfl (pc0 := 17) (pc' := 24) rfl (hb hby at_17) rfl (tlt hc17).1 (by decide) (by decide) ?_
    show Steps p.tables e below (T3.setTop (mkF m 24 #[.val (.int p1), .val (.int (p1 &&& (7 : Int32))), .val (.ref w_SSP), .val (.int (0 : Int32)), .unset] [])) _
    refine XS.iconst X3.here hx rfl (hb hby at_24) ?_
    show Steps p.tables e below (T3.setTop (mkF m 25 #[.val (.int p1), .val (.int (p1 &&& (7 : Int32))), .val (.ref w_SSP), .val (.int (0 : Int32)), .unset] [(.int (0 : Int32))])) _
    refine XS.istore X3.here hx rfl (hb hby at_25) rfl (l' := #[.val (.int p1), .val (.int (p1 &&& (7 : Int32))), .val (.ref w_SSP), .val (.int (0 : Int32)), .val (.int (0 : Int32))]) rfl ?_
    show Steps p.tables e below (T3.setTop (mkF m 27 #[.val (.int p1), .val (.int (p1 &&& (7 : Int32))), .val (.ref w_SSP), .val (.int (0 : Int32)), .val (.int (0 : Int32))] [])) _
    refine XS.iloadN X3.here hx rfl (hb hby at_27) rfl ?_
    show Steps p.tables e below (T3.setTop (mkF m 28 #[.val (.int p1), .val (.int (p1 &&& (7 : Int32))), .val (.ref w_SSP), .val (.int (0 : Int32)), .val (.int (0 : Int32))] [(.int (0 : Int32))])) _
    refine XS.iload X3.here hx rfl (hb hby at_28) rfl ?_
    show Steps p.tables e below (T3.setTop (mkF m 30 #[.val (.int p1), .val (.int (p1 &&& (7 : Int32))), .val (.ref w_SSP), .val (.int (0 : Int32)), .val (.int (0 : Int32))] [(.int (0 : Int32)), (.int (0 : Int32))])) _
    refine XS.icmpYes X3.here hx rfl (pc0 := 30) (pc' := 35) rfl (hb hby at_30) rfl (teq hk30).1 (by decide) (by decide) ?_
    show Steps p.tables e below (T3.setTop (mkF m 35 #[.val (.int p1), .val (.int (p1 &&& (7 : Int32))), .val (.ref w_SSP), .val (.int (0 : Int32)), .val (.int (0 : Int32))] [])) _
    refine XS.iloadN X3.here hx rfl (hb hby at_35) rfl ?_
    show Steps p.tables e below (T3.setTop (mkF m 36 #[.val (.int p1), .val (.int (p1 &&& (7 : Int32))), .val (.ref w_SSP), .val (.int (0 : Int32)), .val (.int (0 : Int32))] [(.int (0 : Int32))])) _
    refine XS.ifYes X3.here hx rfl (pc0 := 36) (pc' := 48) rfl (hb hby at_36) rfl ((if0 _ _).trans (teq hk36).1) (by decide) (by decide) ?_
    show Steps p.tables e below (T3.setTop (mkF m 48 #[.val (.int p1), .val (.int (p1 &&& (7 : Int32))), .val (.ref w_SSP), .val (.int (0 : Int32)), .val (.int (0 : Int32))] [])) _
    refine XS.aloadN X3.here hx rfl (hb hby at_48) rfl rfl ?_
    show Steps p.tables e below (T3.setTop (mkF m 49 #[.val (.int p1), .val (.int (p1 &&& (7 : Int32))), .val (.ref w_SSP), .val (.int (0 : Int32)), .val (.int (0 : Int32))] [(.ref w_SSP)])) _
    refine st4.trans ?_
    show Steps p.tables e below (T4.setTop (mkF m 52 #[.val (.int p1), .val (.int (p1 &&& (7 : Int32))), .val (.ref w_SSP), .val (.int (0 : Int32)), .val (.int (0 : Int32))] [(.int (0 : Int32))])) _
    refine XS.ifYes X4.here hx rfl (pc0 := 52) (pc' := 61) rfl (hb hby at_52) rfl ((if0 _ _).trans (teq hk52).1) (by decide) (by decide) ?_
    show Steps p.tables e below (T4.setTop (mkF m 61 #[.val (.int p1), .val (.int (p1 &&& (7 : Int32))), .val (.ref w_SSP), .val (.int (0 : Int32)), .val (.int (0 : Int32))] [])) _
    refine XS.aloadN X4.here hx rfl (hb hby at_61) rfl rfl ?_
    show Steps p.tables e below (T4.setTop (mkF m 62 #[.val (.int p1), .val (.int (p1 &&& (7 : Int32))), .val (.ref w_SSP), .val (.int (0 : Int32)), .val (.int (0 : Int32))] [(.ref w_SSP)])) _
    refine st5.trans ?_
    show Steps p.tables e below (T5.setTop (mkF m 65 #[.val (.int p1), .val (.int (p1 &&& (7 : Int32))), .val (.ref w_SSP), .val (.int (0 : Int32)), .val (.int (0 : Int32))] [(.int (0 : Int32))])) _
    refine XS.ifYes X5.here hx rfl (pc0 := 65) (pc' := 74) rfl (hb hby at_65) rfl ((if0 _ _).trans (teq hk65).1) (by decide) (by decide) ?_
    show Steps p.tables e below (T5.setTop (mkF m 74 #[.val (.int p1), .val (.int (p1 &&& (7 : Int32))), .val (.ref w_SSP), .val (.int (0 : Int32)), .val (.int (0 : Int32))] [])) _
    refine XS.iconst X5.here hx rfl (hb hby at_74) ?_
    show Steps p.tables e below (T5.setTop (mkF m 75 #[.val (.int p1), .val (.int (p1 &&& (7 : Int32))), .val (.ref w_SSP), .val (.int (0 : Int32)), .val (.int (0 : Int32))] [(.int (1 : Int32))])) _
    exact retN X5 hx (t := .boolean) Bd.returns (by simp) (hb hby at_75) hr
  · show Q0 Z p1 h0 n0 _ T5.heap _
    exact ⟨rfl, N5⟩
set_option maxRecDepth 65536 in
set_option maxHeartbeats 40000000 in
theorem rm0_TBS (l : Launch) (Z : State) (a0 : Array Value) (hw : ∀ d ∈ tables_1, d.before a0 Z = true) (ws : List Jvm.Cond) (p1 : Int32) (w_BG : Addr) (w_BES : Addr) (w_BEP : Addr) (w_SSP : Addr) (w_TBS : Addr) (w_TBSTAR : Addr) (w_TBH : Addr) (w_TBSTARH : Addr) (h0 : Heap) (n0 : Nat) (Z0 : n0 ≤ h0.size) (S_BG : Sta Z h0 "com/example/barts/barts/Server" "BG" "Lcom/example/barts/barts/Server;" (.ref w_BG)) (E_BG : Exa Z h0 w_BG "com/example/barts/barts/Server") (S_BES : Sta Z h0 "com/example/barts/barts/Server" "BES" "Lcom/example/barts/barts/Server;" (.ref w_BES)) (E_BES : Exa Z h0 w_BES "com/example/barts/barts/Server") (S_BEP : Sta Z h0 "com/example/barts/barts/Server" "BEP" "Lcom/example/barts/barts/Server;" (.ref w_BEP)) (E_BEP : Exa Z h0 w_BEP "com/example/barts/barts/Server") (S_SSP : Sta Z h0 "com/example/barts/barts/Server" "SSP" "Lcom/example/barts/barts/Server;" (.ref w_SSP)) (E_SSP : Exa Z h0 w_SSP "com/example/barts/barts/Server") (S_TBS : Sta Z h0 "com/example/barts/barts/Server" "TBS" "Lcom/example/barts/barts/Server;" (.ref w_TBS)) (E_TBS : Exa Z h0 w_TBS "com/example/barts/barts/Server") (S_TBSTAR : Sta Z h0 "com/example/barts/barts/Server" "TBSTAR" "Lcom/example/barts/barts/Server;" (.ref w_TBSTAR)) (E_TBSTAR : Exa Z h0 w_TBSTAR "com/example/barts/barts/Server") (S_TBH : Sta Z h0 "com/example/barts/barts/Server" "TBH" "Lcom/example/barts/barts/Server;" (.ref w_TBH)) (E_TBH : Exa Z h0 w_TBH "com/example/barts/barts/Server") (S_TBSTARH : Sta Z h0 "com/example/barts/barts/Server" "TBSTARH" "Lcom/example/barts/barts/Server;" (.ref w_TBSTARH)) (E_TBSTARH : Exa Z h0 w_TBSTARH "com/example/barts/barts/Server") (F_TBS_background : Fld Z h0 w_TBS "com/example/barts/barts/Server" "background" "Z" (.int (0 : Int32))) (F_TBSTAR_background : Fld Z h0 w_TBSTAR "com/example/barts/barts/Server" "background" "Z" (.int (0 : Int32))) (F_TBH_background : Fld Z h0 w_TBH "com/example/barts/barts/Server" "background" "Z" (.int (0 : Int32))) (F_TBSTARH_background : Fld Z h0 w_TBSTARH "com/example/barts/barts/Server" "background" "Z" (.int (0 : Int32))) (ne_BG_TBS : ¬ w_BG = w_TBS) (ne_BG_TBSTAR : ¬ w_BG = w_TBSTAR) (ne_BG_TBH : ¬ w_BG = w_TBH) (ne_BG_TBSTARH : ¬ w_BG = w_TBSTARH) (ne_BES_TBS : ¬ w_BES = w_TBS) (ne_BES_TBSTAR : ¬ w_BES = w_TBSTAR) (ne_BES_TBH : ¬ w_BES = w_TBH) (ne_BES_TBSTARH : ¬ w_BES = w_TBSTARH) (ne_BEP_TBS : ¬ w_BEP = w_TBS) (ne_BEP_TBSTAR : ¬ w_BEP = w_TBSTAR) (ne_BEP_TBH : ¬ w_BEP = w_TBH) (ne_BEP_TBSTARH : ¬ w_BEP = w_TBSTARH) (ne_SSP_TBS : ¬ w_SSP = w_TBS) (ne_SSP_TBSTAR : ¬ w_SSP = w_TBSTAR) (ne_SSP_TBH : ¬ w_SSP = w_TBH) (ne_SSP_TBSTARH : ¬ w_SSP = w_TBSTARH) (ne_TBS_TBSTAR : ¬ w_TBS = w_TBSTAR) (ne_TBS_TBH : ¬ w_TBS = w_TBH) (ne_TBS_TBSTARH : ¬ w_TBS = w_TBSTARH) (ne_TBSTAR_TBS : ¬ w_TBSTAR = w_TBS) (ne_TBSTAR_TBH : ¬ w_TBSTAR = w_TBH) (ne_TBSTAR_TBSTARH : ¬ w_TBSTAR = w_TBSTARH) (ne_TBH_TBS : ¬ w_TBH = w_TBS) (ne_TBH_TBSTAR : ¬ w_TBH = w_TBSTAR) (ne_TBH_TBSTARH : ¬ w_TBH = w_TBSTARH) (ne_TBSTARH_TBS : ¬ w_TBSTARH = w_TBS) (ne_TBSTARH_TBSTAR : ¬ w_TBSTARH = w_TBSTAR) (ne_TBSTARH_TBH : ¬ w_TBSTARH = w_TBH) (hp0 : ¬ (p1 &&& (7 : Int32)) = (0 : Int32)) (hp1 : ¬ (p1 &&& (7 : Int32)) = (1 : Int32)) (hp2 : ¬ (p1 &&& (7 : Int32)) = (2 : Int32)) (hp3 : ¬ (p1 &&& (7 : Int32)) = (3 : Int32)) (hp : (p1 &&& (7 : Int32)) = (4 : Int32)) (hc17 : ¬ ((p1 &&& (7 : Int32)) < (4 : Int32))) (hk30 : (1 : Int32) = (1 : Int32)) (hk36 : ¬ ((1 : Int32) = (0 : Int32))) (hk43 : (0 : Int32) = (0 : Int32)) (hk52 : (0 : Int32) = (0 : Int32)) (hk65 : (0 : Int32) = (0 : Int32)) :
    MetFree l x (head1 (Jvm.Cond.code x code maxLocals ret :: ws) room_1) (fun a U => a = #[(.int p1)] ∧ Z.Warmed39 U.vm ∧ U.heap = h0) (fun _ _ _ _ _ => True) (fun _ U o U' => ∃ v L, o = .returned v ∧ Q0 Z p1 h0 n0 v U'.heap L ∧ FrameEnd U o U' L room_1.cells room_1.slots) := by
  refine MetFree.of_bodySF (plainFor_of_name pn_0) hisR ?_
  intro p e s m args below meth c s₁ Bd hml0 hP hK
  obtain ⟨rfl, hZ, hh⟩ := hP
  have hx := Bd.exec
  have hby := Bd.bytes
  have hml : c.maxLocals = 5 := hml0
  have hown : s.vm.findClass "com/example/barts/barts/ServerAssignsDeadlinesPinLaw" = some m.cls := findClass_of_methodNamed Bd.named
  have hnm := (name_of_methodNamed Bd.named Bd.method).1
  have X0 : Stand p l e room_1 s m #[(.int p1)] below meth c s₁ [] 0 0 := Stand.of_body Bd
  have e0 : s₁.heap = h0 := by rw [← hh, Bd.state]; rfl
  have N0 := Fr.nil n0
  have pre0 : ∀ t, Steps p.tables e below (s₁.setTop (mkF m 0 #[.val (.int p1), .unset, .unset, .unset, .unset] [])) t → Steps p.tables e below (s₁.setTop (entryFrame m #[(.int p1)] maxLocals)) t := fun t k => castTop (ef_0 m p1) k
  obtain ⟨_, _, ⟨T2, L2, k2, n2⟩, -, X2, ⟨Lc2, hQ2, l2, y2, z2⟩, st2⟩ := Jvm.LawKit.callS X0 hx (y := (⟨"com/example/barts/barts/ServerAssignsDeadlinesPinLaw", "pick", "(I)Lcom/example/barts/barts/Server;"⟩ : MethodName)) hown (mvT hZ (hw _ (List.mem_of_getElem? (i := 0) rfl))) (mvT hZ (hw _ (List.mem_of_getElem? (i := 1) rfl))) (mvT hZ (hw _ (List.mem_of_getElem? (i := 2) rfl))) (mvT hZ (hw _ (List.mem_of_getElem? (i := 3) rfl))) (by decide) (backOf (W := 0) (rm1_k4 l Z a0 hw [] (p1 &&& (7 : Int32)) w_TBS h0 n0 Z0 S_TBS hp0 hp1 hp2 hp3 hp) hZ (hw _ (List.mem_of_getElem? (i := 3) rfl)) (hw _ (List.mem_of_getElem? (i := 2) rfl)) (by decide) (by decide)) (g := (mkF m 6 #[.val (.int p1), .val (.int (p1 &&& (7 : Int32))), .unset, .unset, .unset] [(.int (p1 &&& (7 : Int32)))])) rfl (by rw [hml]; rfl) (argsL := [(.int (p1 &&& (7 : Int32)))]) (rest := []) (lenOf pd_0_0 rfl) rfl (by show 2 * 0 + _ ≤ _; exact Nat.le_of_eq rfl) (hb hby at_6) (fun _ _ => ⟨rfl, e0, (by decide : 0 + 0 ≤ _), (by decide : 0 + 0 ≤ _)⟩)
  dsimp only [Pt.U, Pt.locs, Pt.cells, Pt.slots] at X2 l2 y2 z2 st2 hQ2
  subst l2 y2 z2
  obtain ⟨rfl, N2q, e2q⟩ := hQ2
  have N2 := Fr.app N0 N2q
  have Z2 : n0 ≤ T2.heap.size := by rw [e2q]; exact Z0
  have Kq2 : Keep h0 T2.heap [] := by rw [e2q]; exact Keep.refl _ _
  have eh2 : T2.heap = h0 := e2q
  obtain ⟨cq3, kq3, q3a, q3b, q3c⟩ := isOf hZ rfl (E_TBS.keep Kq2)
  obtain ⟨_, _, ⟨T3, L3, k3, n3⟩, -, X3, ⟨Lc3, hQ3, l3, y3, z3⟩, st3⟩ := X2.virtualBack hx (y := (⟨"com/example/barts/barts/Server", "assignsDeadlines", "()Z"⟩ : MethodName)) (z := (⟨"com/example/barts/barts/Server", "assignsDeadlines", "()Z"⟩ : MethodName)) hown (mvT hZ (hw _ (List.mem_of_getElem? (i := 7) rfl))) (mvT hZ (hw _ (List.mem_of_getElem? (i := 8) rfl))) (notFace_of_selects (args := #[]) (mvT hZ (hw _ (List.mem_of_getElem? (i := 10) rfl)))) (mvT hZ (hw _ (List.mem_of_getElem? (i := 10) rfl))) (mvT hZ (hw _ (List.mem_of_getElem? (i := 9) rfl))) (by decide) (backOf (W := 0) (rm2_t l Z a0 hw [] w_TBS w_TBS T2.heap n0 Z2 (by rw [eh2]; exact S_TBS) rfl) hZ (hw _ (List.mem_of_getElem? (i := 11) rfl)) (hw _ (List.mem_of_getElem? (i := 5) rfl)) (by decide) (by decide)) q3a q3c (g := (mkF m 11 #[.val (.int p1), .val (.int (p1 &&& (7 : Int32))), .val (.ref w_TBS), .unset, .unset] [(.ref w_TBS)])) rfl (by rw [hml]; rfl) (Steps.refl _) (argsL := []) (rest := []) (lenOf pd_0_1 rfl) rfl (by show 2 * 0 + _ ≤ _; exact Nat.le_of_eq rfl) (hb hby at_11) (fun _ _ => ⟨rfl, rfl, (by decide : 0 + 0 ≤ _), (by decide : 0 + 0 ≤ _)⟩)
  dsimp only [Pt.U, Pt.locs, Pt.cells, Pt.slots] at X3 l3 y3 z3 st3 hQ3
  subst l3 y3 z3
  obtain ⟨rfl, N3q, e3q⟩ := hQ3
  have N3 := Fr.app N2 N3q
  have Z3 : n0 ≤ T3.heap.size := by rw [e3q]; exact Z2
  have Kq3 : Keep T2.heap T3.heap [] := by rw [e3q]; exact Keep.refl _ _
  have eh3 : T3.heap = h0 := e3q.trans eh2
  obtain ⟨cq4, kq4, q4a, q4b, q4c⟩ := isOf hZ rfl ((E_TBS.keep Kq2).keep Kq3)
  obtain ⟨_, _, ⟨T4, L4, k4, n4⟩, -, X4, ⟨Lc4, hQ4, l4, y4, z4⟩, st4⟩ := X3.virtualBack hx (y := (⟨"com/example/barts/barts/Server", "isBackground", "()Z"⟩ : MethodName)) (z := (⟨"com/example/barts/barts/Server", "isBackground", "()Z"⟩ : MethodName)) hown (mvT hZ (hw _ (List.mem_of_getElem? (i := 33) rfl))) (mvT hZ (hw _ (List.mem_of_getElem? (i := 34) rfl))) (notFace_of_selects (args := #[]) (mvT hZ (hw _ (List.mem_of_getElem? (i := 36) rfl)))) (mvT hZ (hw _ (List.mem_of_getElem? (i := 36) rfl))) (mvT hZ (hw _ (List.mem_of_getElem? (i := 35) rfl))) (by decide) (backOf (W := 0) (rm5_x l Z a0 hw [] w_TBS  T3.heap n0 Z3 (by rw [eh3]; exact F_TBS_background)) hZ (hw _ (List.mem_of_getElem? (i := 37) rfl)) (hw _ (List.mem_of_getElem? (i := 5) rfl)) (by decide) (by decide)) q4a q4c (g := (mkF m 40 #[.val (.int p1), .val (.int (p1 &&& (7 : Int32))), .val (.ref w_TBS), .val (.int (1 : Int32)), .val (.int (1 : Int32))] [(.ref w_TBS)])) rfl (by rw [hml]; rfl) (Steps.refl _) (argsL := []) (rest := []) (lenOf pd_0_1 rfl) rfl (by show 2 * 0 + _ ≤ _; exact Nat.le_of_eq rfl) (hb hby at_40) (fun _ _ => ⟨rfl, rfl, (by decide : 0 + 0 ≤ _), (by decide : 0 + 0 ≤ _)⟩)
  dsimp only [Pt.U, Pt.locs, Pt.cells, Pt.slots] at X4 l4 y4 z4 st4 hQ4
  subst l4 y4 z4
  obtain ⟨rfl, N4q, e4q⟩ := hQ4
  have N4 := Fr.app N3 N4q
  have Z4 : n0 ≤ T4.heap.size := by rw [e4q]; exact Z3
  have Kq4 : Keep T3.heap T4.heap [] := by rw [e4q]; exact Keep.refl _ _
  have eh4 : T4.heap = h0 := e4q.trans eh3
  obtain ⟨cq5, kq5, q5a, q5b, q5c⟩ := isOf hZ rfl (((E_TBS.keep Kq2).keep Kq3).keep Kq4)
  obtain ⟨_, _, ⟨T5, L5, k5, n5⟩, -, X5, ⟨Lc5, hQ5, l5, y5, z5⟩, st5⟩ := X4.virtualBack hx (y := (⟨"com/example/barts/barts/Server", "shortensDeadlines", "()Z"⟩ : MethodName)) (z := (⟨"com/example/barts/barts/Server", "shortensDeadlines", "()Z"⟩ : MethodName)) hown (mvT hZ (hw _ (List.mem_of_getElem? (i := 20) rfl))) (mvT hZ (hw _ (List.mem_of_getElem? (i := 21) rfl))) (notFace_of_selects (args := #[]) (mvT hZ (hw _ (List.mem_of_getElem? (i := 23) rfl)))) (mvT hZ (hw _ (List.mem_of_getElem? (i := 23) rfl))) (mvT hZ (hw _ (List.mem_of_getElem? (i := 22) rfl))) (by decide) (backOf (W := 0) (rm3_ft l Z a0 hw [] w_TBS w_TBSTAR w_TBSTARH T4.heap n0 Z4 (by rw [eh4]; exact S_TBSTAR) (by rw [eh4]; exact S_TBSTARH) ne_TBS_TBSTAR ne_TBS_TBSTARH) hZ (hw _ (List.mem_of_getElem? (i := 24) rfl)) (hw _ (List.mem_of_getElem? (i := 5) rfl)) (by decide) (by decide)) q5a q5c (g := (mkF m 49 #[.val (.int p1), .val (.int (p1 &&& (7 : Int32))), .val (.ref w_TBS), .val (.int (1 : Int32)), .val (.int (1 : Int32))] [(.ref w_TBS)])) rfl (by rw [hml]; rfl) (Steps.refl _) (argsL := []) (rest := []) (lenOf pd_0_1 rfl) rfl (by show 2 * 0 + _ ≤ _; exact Nat.le_of_eq rfl) (hb hby at_49) (fun _ _ => ⟨rfl, rfl, (by decide : 0 + 0 ≤ _), (by decide : 0 + 0 ≤ _)⟩)
  dsimp only [Pt.U, Pt.locs, Pt.cells, Pt.slots] at X5 l5 y5 z5 st5 hQ5
  subst l5 y5 z5
  obtain ⟨rfl, N5q, e5q⟩ := hQ5
  have N5 := Fr.app N4 N5q
  have Z5 : n0 ≤ T5.heap.size := by rw [e5q]; exact Z4
  have Kq5 : Keep T4.heap T5.heap [] := by rw [e5q]; exact Keep.refl _ _
  have eh5 : T5.heap = h0 := e5q.trans eh4
  obtain ⟨cq6, kq6, q6a, q6b, q6c⟩ := isOf hZ rfl ((((E_TBS.keep Kq2).keep Kq3).keep Kq4).keep Kq5)
  obtain ⟨_, _, ⟨T6, L6, k6, n6⟩, -, X6, ⟨Lc6, hQ6, l6, y6, z6⟩, st6⟩ := X5.virtualBack hx (y := (⟨"com/example/barts/barts/Server", "weighsEnergy", "()Z"⟩ : MethodName)) (z := (⟨"com/example/barts/barts/Server", "weighsEnergy", "()Z"⟩ : MethodName)) hown (mvT hZ (hw _ (List.mem_of_getElem? (i := 25) rfl))) (mvT hZ (hw _ (List.mem_of_getElem? (i := 26) rfl))) (notFace_of_selects (args := #[]) (mvT hZ (hw _ (List.mem_of_getElem? (i := 28) rfl)))) (mvT hZ (hw _ (List.mem_of_getElem? (i := 28) rfl))) (mvT hZ (hw _ (List.mem_of_getElem? (i := 27) rfl))) (by decide) (backOf (W := 0) (rm4_ft l Z a0 hw [] w_TBS w_TBH w_TBSTARH T5.heap n0 Z5 (by rw [eh5]; exact S_TBH) (by rw [eh5]; exact S_TBSTARH) ne_TBS_TBH ne_TBS_TBSTARH) hZ (hw _ (List.mem_of_getElem? (i := 29) rfl)) (hw _ (List.mem_of_getElem? (i := 5) rfl)) (by decide) (by decide)) q6a q6c (g := (mkF m 62 #[.val (.int p1), .val (.int (p1 &&& (7 : Int32))), .val (.ref w_TBS), .val (.int (1 : Int32)), .val (.int (1 : Int32))] [(.ref w_TBS)])) rfl (by rw [hml]; rfl) (Steps.refl _) (argsL := []) (rest := []) (lenOf pd_0_1 rfl) rfl (by show 2 * 0 + _ ≤ _; exact Nat.le_of_eq rfl) (hb hby at_62) (fun _ _ => ⟨rfl, rfl, (by decide : 0 + 0 ≤ _), (by decide : 0 + 0 ≤ _)⟩)
  dsimp only [Pt.U, Pt.locs, Pt.cells, Pt.slots] at X6 l6 y6 z6 st6 hQ6
  subst l6 y6 z6
  obtain ⟨rfl, N6q, e6q⟩ := hQ6
  have N6 := Fr.app N5 N6q
  have Z6 : n0 ≤ T6.heap.size := by rw [e6q]; exact Z5
  have Kq6 : Keep T5.heap T6.heap [] := by rw [e6q]; exact Keep.refl _ _
  have eh6 : T6.heap = h0 := e6q.trans eh5
  obtain ⟨fs, hr, hrun, hended, hW, hsame⟩ := X6.leave (v := some (.int (1 : Int32))) (fun h => by rw [Bd.returns] at h; cases h) Bd.notSynchronized
  refine ⟨_, _, pre0 _ ?_, hrun, hended, _, _, rfl, ?_, ⟨_, rfl⟩, hW, hsame.mono (by decide) (by decide)⟩
  · show Steps p.tables e below (s₁.setTop (mkF m 0 #[.val (.int p1), .unset, .unset, .unset, .unset] [])) _
    refine XS.iloadN X0.here hx rfl (hb hby at_0) rfl ?_
    show Steps p.tables e below (s₁.setTop (mkF m 1 #[.val (.int p1), .unset, .unset, .unset, .unset] [(.int p1)])) _
    refine XS.bipush X0.here hx rfl (hb hby at_1) ?_
    show Steps p.tables e below (s₁.setTop (mkF m 3 #[.val (.int p1), .unset, .unset, .unset, .unset] [(.int (7 : Int32)), (.int p1)])) _
    refine XS.iand X0.here hx rfl (hb hby at_3) rfl ?_
    show Steps p.tables e below (s₁.setTop (mkF m 4 #[.val (.int p1), .unset, .unset, .unset, .unset] [(.int (p1 &&& (7 : Int32)))])) _
    refine XS.istoreN X0.here hx rfl (hb hby at_4) rfl (l' := #[.val (.int p1), .val (.int (p1 &&& (7 : Int32))), .unset, .unset, .unset]) rfl ?_
    show Steps p.tables e below (s₁.setTop (mkF m 5 #[.val (.int p1), .val (.int (p1 &&& (7 : Int32))), .unset, .unset, .unset] [])) _
    refine XS.iloadN X0.here hx rfl (hb hby at_5) rfl ?_
    show Steps p.tables e below (s₁.setTop (mkF m 6 #[.val (.int p1), .val (.int (p1 &&& (7 : Int32))), .unset, .unset, .unset] [(.int (p1 &&& (7 : Int32)))])) _
    refine st2 _ ?_
    show Steps p.tables e below (T2.setTop (mkF m 9 #[.val (.int p1), .val (.int (p1 &&& (7 : Int32))), .unset, .unset, .unset] [(.ref w_TBS)])) _
    refine XS.astoreN X2.here hx rfl (hb hby at_9) rfl rfl (l' := #[.val (.int p1), .val (.int (p1 &&& (7 : Int32))), .val (.ref w_TBS), .unset, .unset]) rfl ?_
    show Steps p.tables e below (T2.setTop (mkF m 10 #[.val (.int p1), .val (.int (p1 &&& (7 : Int32))), .val (.ref w_TBS), .unset, .unset] [])) _
    refine XS.aloadN X2.here hx rfl (hb hby at_10) rfl rfl ?_
    show Steps p.tables e below (T2.setTop (mkF m 11 #[.val (.int p1), .val (.int (p1 &&& (7 : Int32))), .val (.ref w_TBS), .unset, .unset] [(.ref w_TBS)])) _
    refine st3.trans ?_
    show Steps p.tables e below (T3.setTop (mkF m 14 #[.val (.int p1), .val (.int (p1 &&& (7 : Int32))), .val (.ref w_TBS), .unset, .unset] [(.int (1 : Int32))])) _
    refine XS.istoreN X3.here hx rfl (hb hby at_14) rfl (l' := #[.val (.int p1), .val (.int (p1 &&& (7 : Int32))), .val (.ref w_TBS), .val (.int (1 : Int32)), .unset]) rfl ?_
    show Steps p.tables e below (T3.setTop (mkF m 15 #[.val (.int p1), .val (.int (p1 &&& (7 : Int32))), .val (.ref w_TBS), .val (.int (1 : Int32)), .unset] [])) _
    refine XS.iloadN X3.here hx rfl (hb hby at_15) rfl ?_
    show Steps p.tables e below (T3.setTop (mkF m 16 #[.val (.int p1), .val (.int (p1 &&& (7 : Int32))), .val (.ref w_TBS), .val (.int (1 : Int32)), .unset] [(.int (p1 &&& (7 : Int32)))])) _
    refine XS.iconst X3.here hx rfl (hb hby at_16) ?_
    show Steps p.tables e below (T3.setTop (mkF m 17 #[.val (.int p1), .val (.int (p1 &&& (7 : Int32))), .val (.ref w_TBS), .val (.int (1 : Int32)), .unset] [(.int (4 : Int32)), (.int (p1 &&& (7 : Int32)))])) _
    refine XS.icmpNo X3.here hx rfl (hb hby at_17) rfl (flt hc17).1 ?_
    show Steps p.tables e below (T3.setTop (mkF m 20 #[.val (.int p1), .val (.int (p1 &&& (7 : Int32))), .val (.ref w_TBS), .val (.int (1 : Int32)), .unset] [])) _
    refine XS.iconst X3.here hx rfl (hb hby at_20) ?_
    show Steps p.tables e below (T3.setTop (mkF m 21 #[.val (.int p1), .val (.int (p1 &&& (7 : Int32))), .val (.ref w_TBS), .val (.int (1 : Int32)), .unset] [(.int (1 : Int32))])) _
    refine XS.goto X3.here hx rfl (pc0 := 21) (pc' := 25) rfl (hb hby at_21) (by decide) (by decide) ?_
    show Steps p.tables e below (T3.setTop (mkF m 25 #[.val (.int p1), .val (.int (p1 &&& (7 : Int32))), .val (.ref w_TBS), .val (.int (1 : Int32)), .unset] [(.int (1 : Int32))])) _
    refine XS.istore X3.here hx rfl (hb hby at_25) rfl (l' := #[.val (.int p1), .val (.int (p1 &&& (7 : Int32))), .val (.ref w_TBS), .val (.int (1 : Int32)), .val (.int (1 : Int32))]) rfl ?_
    show Steps p.tables e below (T3.setTop (mkF m 27 #[.val (.int p1), .val (.int (p1 &&& (7 : Int32))), .val (.ref w_TBS), .val (.int (1 : Int32)), .val (.int (1 : Int32))] [])) _
    refine XS.iloadN X3.here hx rfl (hb hby at_27) rfl ?_
    show Steps p.tables e below (T3.setTop (mkF m 28 #[.val (.int p1), .val (.int (p1 &&& (7 : Int32))), .val (.ref w_TBS), .val (.int (1 : Int32)), .val (.int (1 : Int32))] [(.int (1 : Int32))])) _
    refine XS.iload X3.here hx rfl (hb hby at_28) rfl ?_
    show Steps p.tables e below (T3.setTop (mkF m 30 #[.val (.int p1), .val (.int (p1 &&& (7 : Int32))), .val (.ref w_TBS), .val (.int (1 : Int32)), .val (.int (1 : Int32))] [(.int (1 : Int32)), (.int (1 : Int32))])) _
    refine XS.icmpYes X3.here hx rfl (pc0 := 30) (pc' := 35) rfl (hb hby at_30) rfl (teq hk30).1 (by decide) (by decide) ?_
    show Steps p.tables e below (T3.setTop (mkF m 35 #[.val (.int p1), .val (.int (p1 &&& (7 : Int32))), .val (.ref w_TBS), .val (.int (1 : Int32)), .val (.int (1 : Int32))] [])) _
    refine XS.iloadN X3.here hx rfl (hb hby at_35) rfl ?_
    show Steps p.tables e below (T3.setTop (mkF m 36 #[.val (.int p1), .val (.int (p1 &&& (7 : Int32))), .val (.ref w_TBS), .val (.int (1 : Int32)), .val (.int (1 : Int32))] [(.int (1 : Int32))])) _
    refine XS.ifNo X3.here hx rfl (hb hby at_36) rfl ((if0 _ _).trans (feq hk36).1) ?_
    show Steps p.tables e below (T3.setTop (mkF m 39 #[.val (.int p1), .val (.int (p1 &&& (7 : Int32))), .val (.ref w_TBS), .val (.int (1 : Int32)), .val (.int (1 : Int32))] [])) _
    refine XS.aloadN X3.here hx rfl (hb hby at_39) rfl rfl ?_
    show Steps p.tables e below (T3.setTop (mkF m 40 #[.val (.int p1), .val (.int (p1 &&& (7 : Int32))), .val (.ref w_TBS), .val (.int (1 : Int32)), .val (.int (1 : Int32))] [(.ref w_TBS)])) _
    refine st4.trans ?_
    show Steps p.tables e below (T4.setTop (mkF m 43 #[.val (.int p1), .val (.int (p1 &&& (7 : Int32))), .val (.ref w_TBS), .val (.int (1 : Int32)), .val (.int (1 : Int32))] [(.int (0 : Int32))])) _
    refine XS.ifYes X4.here hx rfl (pc0 := 43) (pc' := 48) rfl (hb hby at_43) rfl ((if0 _ _).trans (teq hk43).1) (by decide) (by decide) ?_
    show Steps p.tables e below (T4.setTop (mkF m 48 #[.val (.int p1), .val (.int (p1 &&& (7 : Int32))), .val (.ref w_TBS), .val (.int (1 : Int32)), .val (.int (1 : Int32))] [])) _
    refine XS.aloadN X4.here hx rfl (hb hby at_48) rfl rfl ?_
    show Steps p.tables e below (T4.setTop (mkF m 49 #[.val (.int p1), .val (.int (p1 &&& (7 : Int32))), .val (.ref w_TBS), .val (.int (1 : Int32)), .val (.int (1 : Int32))] [(.ref w_TBS)])) _
    refine st5.trans ?_
    show Steps p.tables e below (T5.setTop (mkF m 52 #[.val (.int p1), .val (.int (p1 &&& (7 : Int32))), .val (.ref w_TBS), .val (.int (1 : Int32)), .val (.int (1 : Int32))] [(.int (0 : Int32))])) _
    refine XS.ifYes X5.here hx rfl (pc0 := 52) (pc' := 61) rfl (hb hby at_52) rfl ((if0 _ _).trans (teq hk52).1) (by decide) (by decide) ?_
    show Steps p.tables e below (T5.setTop (mkF m 61 #[.val (.int p1), .val (.int (p1 &&& (7 : Int32))), .val (.ref w_TBS), .val (.int (1 : Int32)), .val (.int (1 : Int32))] [])) _
    refine XS.aloadN X5.here hx rfl (hb hby at_61) rfl rfl ?_
    show Steps p.tables e below (T5.setTop (mkF m 62 #[.val (.int p1), .val (.int (p1 &&& (7 : Int32))), .val (.ref w_TBS), .val (.int (1 : Int32)), .val (.int (1 : Int32))] [(.ref w_TBS)])) _
    refine st6.trans ?_
    show Steps p.tables e below (T6.setTop (mkF m 65 #[.val (.int p1), .val (.int (p1 &&& (7 : Int32))), .val (.ref w_TBS), .val (.int (1 : Int32)), .val (.int (1 : Int32))] [(.int (0 : Int32))])) _
    refine XS.ifYes X6.here hx rfl (pc0 := 65) (pc' := 74) rfl (hb hby at_65) rfl ((if0 _ _).trans (teq hk65).1) (by decide) (by decide) ?_
    show Steps p.tables e below (T6.setTop (mkF m 74 #[.val (.int p1), .val (.int (p1 &&& (7 : Int32))), .val (.ref w_TBS), .val (.int (1 : Int32)), .val (.int (1 : Int32))] [])) _
    refine XS.iconst X6.here hx rfl (hb hby at_74) ?_
    show Steps p.tables e below (T6.setTop (mkF m 75 #[.val (.int p1), .val (.int (p1 &&& (7 : Int32))), .val (.ref w_TBS), .val (.int (1 : Int32)), .val (.int (1 : Int32))] [(.int (1 : Int32))])) _
    exact retN X6 hx (t := .boolean) Bd.returns (by simp) (hb hby at_75) hr
  · show Q0 Z p1 h0 n0 _ T6.heap _
    exact ⟨rfl, N6⟩
set_option maxRecDepth 65536 in
set_option maxHeartbeats 40000000 in
theorem rm0_TBSTAR (l : Launch) (Z : State) (a0 : Array Value) (hw : ∀ d ∈ tables_1, d.before a0 Z = true) (ws : List Jvm.Cond) (p1 : Int32) (w_BG : Addr) (w_BES : Addr) (w_BEP : Addr) (w_SSP : Addr) (w_TBS : Addr) (w_TBSTAR : Addr) (w_TBH : Addr) (w_TBSTARH : Addr) (h0 : Heap) (n0 : Nat) (Z0 : n0 ≤ h0.size) (S_BG : Sta Z h0 "com/example/barts/barts/Server" "BG" "Lcom/example/barts/barts/Server;" (.ref w_BG)) (E_BG : Exa Z h0 w_BG "com/example/barts/barts/Server") (S_BES : Sta Z h0 "com/example/barts/barts/Server" "BES" "Lcom/example/barts/barts/Server;" (.ref w_BES)) (E_BES : Exa Z h0 w_BES "com/example/barts/barts/Server") (S_BEP : Sta Z h0 "com/example/barts/barts/Server" "BEP" "Lcom/example/barts/barts/Server;" (.ref w_BEP)) (E_BEP : Exa Z h0 w_BEP "com/example/barts/barts/Server") (S_SSP : Sta Z h0 "com/example/barts/barts/Server" "SSP" "Lcom/example/barts/barts/Server;" (.ref w_SSP)) (E_SSP : Exa Z h0 w_SSP "com/example/barts/barts/Server") (S_TBS : Sta Z h0 "com/example/barts/barts/Server" "TBS" "Lcom/example/barts/barts/Server;" (.ref w_TBS)) (E_TBS : Exa Z h0 w_TBS "com/example/barts/barts/Server") (S_TBSTAR : Sta Z h0 "com/example/barts/barts/Server" "TBSTAR" "Lcom/example/barts/barts/Server;" (.ref w_TBSTAR)) (E_TBSTAR : Exa Z h0 w_TBSTAR "com/example/barts/barts/Server") (S_TBH : Sta Z h0 "com/example/barts/barts/Server" "TBH" "Lcom/example/barts/barts/Server;" (.ref w_TBH)) (E_TBH : Exa Z h0 w_TBH "com/example/barts/barts/Server") (S_TBSTARH : Sta Z h0 "com/example/barts/barts/Server" "TBSTARH" "Lcom/example/barts/barts/Server;" (.ref w_TBSTARH)) (E_TBSTARH : Exa Z h0 w_TBSTARH "com/example/barts/barts/Server") (F_TBS_background : Fld Z h0 w_TBS "com/example/barts/barts/Server" "background" "Z" (.int (0 : Int32))) (F_TBSTAR_background : Fld Z h0 w_TBSTAR "com/example/barts/barts/Server" "background" "Z" (.int (0 : Int32))) (F_TBH_background : Fld Z h0 w_TBH "com/example/barts/barts/Server" "background" "Z" (.int (0 : Int32))) (F_TBSTARH_background : Fld Z h0 w_TBSTARH "com/example/barts/barts/Server" "background" "Z" (.int (0 : Int32))) (ne_BG_TBS : ¬ w_BG = w_TBS) (ne_BG_TBSTAR : ¬ w_BG = w_TBSTAR) (ne_BG_TBH : ¬ w_BG = w_TBH) (ne_BG_TBSTARH : ¬ w_BG = w_TBSTARH) (ne_BES_TBS : ¬ w_BES = w_TBS) (ne_BES_TBSTAR : ¬ w_BES = w_TBSTAR) (ne_BES_TBH : ¬ w_BES = w_TBH) (ne_BES_TBSTARH : ¬ w_BES = w_TBSTARH) (ne_BEP_TBS : ¬ w_BEP = w_TBS) (ne_BEP_TBSTAR : ¬ w_BEP = w_TBSTAR) (ne_BEP_TBH : ¬ w_BEP = w_TBH) (ne_BEP_TBSTARH : ¬ w_BEP = w_TBSTARH) (ne_SSP_TBS : ¬ w_SSP = w_TBS) (ne_SSP_TBSTAR : ¬ w_SSP = w_TBSTAR) (ne_SSP_TBH : ¬ w_SSP = w_TBH) (ne_SSP_TBSTARH : ¬ w_SSP = w_TBSTARH) (ne_TBS_TBSTAR : ¬ w_TBS = w_TBSTAR) (ne_TBS_TBH : ¬ w_TBS = w_TBH) (ne_TBS_TBSTARH : ¬ w_TBS = w_TBSTARH) (ne_TBSTAR_TBS : ¬ w_TBSTAR = w_TBS) (ne_TBSTAR_TBH : ¬ w_TBSTAR = w_TBH) (ne_TBSTAR_TBSTARH : ¬ w_TBSTAR = w_TBSTARH) (ne_TBH_TBS : ¬ w_TBH = w_TBS) (ne_TBH_TBSTAR : ¬ w_TBH = w_TBSTAR) (ne_TBH_TBSTARH : ¬ w_TBH = w_TBSTARH) (ne_TBSTARH_TBS : ¬ w_TBSTARH = w_TBS) (ne_TBSTARH_TBSTAR : ¬ w_TBSTARH = w_TBSTAR) (ne_TBSTARH_TBH : ¬ w_TBSTARH = w_TBH) (hp0 : ¬ (p1 &&& (7 : Int32)) = (0 : Int32)) (hp1 : ¬ (p1 &&& (7 : Int32)) = (1 : Int32)) (hp2 : ¬ (p1 &&& (7 : Int32)) = (2 : Int32)) (hp3 : ¬ (p1 &&& (7 : Int32)) = (3 : Int32)) (hp4 : ¬ (p1 &&& (7 : Int32)) = (4 : Int32)) (hp : (p1 &&& (7 : Int32)) = (5 : Int32)) (hc17 : ¬ ((p1 &&& (7 : Int32)) < (4 : Int32))) (hk30 : (1 : Int32) = (1 : Int32)) (hk36 : ¬ ((1 : Int32) = (0 : Int32))) (hk43 : (0 : Int32) = (0 : Int32)) (hk52 : ¬ ((1 : Int32) = (0 : Int32))) (hk56 : ¬ ((1 : Int32) = (0 : Int32))) (hk65 : (0 : Int32) = (0 : Int32)) :
    MetFree l x (head1 (Jvm.Cond.code x code maxLocals ret :: ws) room_1) (fun a U => a = #[(.int p1)] ∧ Z.Warmed39 U.vm ∧ U.heap = h0) (fun _ _ _ _ _ => True) (fun _ U o U' => ∃ v L, o = .returned v ∧ Q0 Z p1 h0 n0 v U'.heap L ∧ FrameEnd U o U' L room_1.cells room_1.slots) := by
  refine MetFree.of_bodySF (plainFor_of_name pn_0) hisR ?_
  intro p e s m args below meth c s₁ Bd hml0 hP hK
  obtain ⟨rfl, hZ, hh⟩ := hP
  have hx := Bd.exec
  have hby := Bd.bytes
  have hml : c.maxLocals = 5 := hml0
  have hown : s.vm.findClass "com/example/barts/barts/ServerAssignsDeadlinesPinLaw" = some m.cls := findClass_of_methodNamed Bd.named
  have hnm := (name_of_methodNamed Bd.named Bd.method).1
  have X0 : Stand p l e room_1 s m #[(.int p1)] below meth c s₁ [] 0 0 := Stand.of_body Bd
  have e0 : s₁.heap = h0 := by rw [← hh, Bd.state]; rfl
  have N0 := Fr.nil n0
  have pre0 : ∀ t, Steps p.tables e below (s₁.setTop (mkF m 0 #[.val (.int p1), .unset, .unset, .unset, .unset] [])) t → Steps p.tables e below (s₁.setTop (entryFrame m #[(.int p1)] maxLocals)) t := fun t k => castTop (ef_0 m p1) k
  obtain ⟨_, _, ⟨T2, L2, k2, n2⟩, -, X2, ⟨Lc2, hQ2, l2, y2, z2⟩, st2⟩ := Jvm.LawKit.callS X0 hx (y := (⟨"com/example/barts/barts/ServerAssignsDeadlinesPinLaw", "pick", "(I)Lcom/example/barts/barts/Server;"⟩ : MethodName)) hown (mvT hZ (hw _ (List.mem_of_getElem? (i := 0) rfl))) (mvT hZ (hw _ (List.mem_of_getElem? (i := 1) rfl))) (mvT hZ (hw _ (List.mem_of_getElem? (i := 2) rfl))) (mvT hZ (hw _ (List.mem_of_getElem? (i := 3) rfl))) (by decide) (backOf (W := 0) (rm1_k5 l Z a0 hw [] (p1 &&& (7 : Int32)) w_TBSTAR h0 n0 Z0 S_TBSTAR hp0 hp1 hp2 hp3 hp4 hp) hZ (hw _ (List.mem_of_getElem? (i := 3) rfl)) (hw _ (List.mem_of_getElem? (i := 2) rfl)) (by decide) (by decide)) (g := (mkF m 6 #[.val (.int p1), .val (.int (p1 &&& (7 : Int32))), .unset, .unset, .unset] [(.int (p1 &&& (7 : Int32)))])) rfl (by rw [hml]; rfl) (argsL := [(.int (p1 &&& (7 : Int32)))]) (rest := []) (lenOf pd_0_0 rfl) rfl (by show 2 * 0 + _ ≤ _; exact Nat.le_of_eq rfl) (hb hby at_6) (fun _ _ => ⟨rfl, e0, (by decide : 0 + 0 ≤ _), (by decide : 0 + 0 ≤ _)⟩)
  dsimp only [Pt.U, Pt.locs, Pt.cells, Pt.slots] at X2 l2 y2 z2 st2 hQ2
  subst l2 y2 z2
  obtain ⟨rfl, N2q, e2q⟩ := hQ2
  have N2 := Fr.app N0 N2q
  have Z2 : n0 ≤ T2.heap.size := by rw [e2q]; exact Z0
  have Kq2 : Keep h0 T2.heap [] := by rw [e2q]; exact Keep.refl _ _
  have eh2 : T2.heap = h0 := e2q
  obtain ⟨cq3, kq3, q3a, q3b, q3c⟩ := isOf hZ rfl (E_TBSTAR.keep Kq2)
  obtain ⟨_, _, ⟨T3, L3, k3, n3⟩, -, X3, ⟨Lc3, hQ3, l3, y3, z3⟩, st3⟩ := X2.virtualBack hx (y := (⟨"com/example/barts/barts/Server", "assignsDeadlines", "()Z"⟩ : MethodName)) (z := (⟨"com/example/barts/barts/Server", "assignsDeadlines", "()Z"⟩ : MethodName)) hown (mvT hZ (hw _ (List.mem_of_getElem? (i := 7) rfl))) (mvT hZ (hw _ (List.mem_of_getElem? (i := 8) rfl))) (notFace_of_selects (args := #[]) (mvT hZ (hw _ (List.mem_of_getElem? (i := 10) rfl)))) (mvT hZ (hw _ (List.mem_of_getElem? (i := 10) rfl))) (mvT hZ (hw _ (List.mem_of_getElem? (i := 9) rfl))) (by decide) (backOf (W := 0) (rm2_ft l Z a0 hw [] w_TBSTAR w_TBS w_TBSTAR T2.heap n0 Z2 (by rw [eh2]; exact S_TBS) (by rw [eh2]; exact S_TBSTAR) ne_TBSTAR_TBS rfl) hZ (hw _ (List.mem_of_getElem? (i := 11) rfl)) (hw _ (List.mem_of_getElem? (i := 5) rfl)) (by decide) (by decide)) q3a q3c (g := (mkF m 11 #[.val (.int p1), .val (.int (p1 &&& (7 : Int32))), .val (.ref w_TBSTAR), .unset, .unset] [(.ref w_TBSTAR)])) rfl (by rw [hml]; rfl) (Steps.refl _) (argsL := []) (rest := []) (lenOf pd_0_1 rfl) rfl (by show 2 * 0 + _ ≤ _; exact Nat.le_of_eq rfl) (hb hby at_11) (fun _ _ => ⟨rfl, rfl, (by decide : 0 + 0 ≤ _), (by decide : 0 + 0 ≤ _)⟩)
  dsimp only [Pt.U, Pt.locs, Pt.cells, Pt.slots] at X3 l3 y3 z3 st3 hQ3
  subst l3 y3 z3
  obtain ⟨rfl, N3q, e3q⟩ := hQ3
  have N3 := Fr.app N2 N3q
  have Z3 : n0 ≤ T3.heap.size := by rw [e3q]; exact Z2
  have Kq3 : Keep T2.heap T3.heap [] := by rw [e3q]; exact Keep.refl _ _
  have eh3 : T3.heap = h0 := e3q.trans eh2
  obtain ⟨cq4, kq4, q4a, q4b, q4c⟩ := isOf hZ rfl ((E_TBSTAR.keep Kq2).keep Kq3)
  obtain ⟨_, _, ⟨T4, L4, k4, n4⟩, -, X4, ⟨Lc4, hQ4, l4, y4, z4⟩, st4⟩ := X3.virtualBack hx (y := (⟨"com/example/barts/barts/Server", "isBackground", "()Z"⟩ : MethodName)) (z := (⟨"com/example/barts/barts/Server", "isBackground", "()Z"⟩ : MethodName)) hown (mvT hZ (hw _ (List.mem_of_getElem? (i := 33) rfl))) (mvT hZ (hw _ (List.mem_of_getElem? (i := 34) rfl))) (notFace_of_selects (args := #[]) (mvT hZ (hw _ (List.mem_of_getElem? (i := 36) rfl)))) (mvT hZ (hw _ (List.mem_of_getElem? (i := 36) rfl))) (mvT hZ (hw _ (List.mem_of_getElem? (i := 35) rfl))) (by decide) (backOf (W := 0) (rm5_x l Z a0 hw [] w_TBSTAR  T3.heap n0 Z3 (by rw [eh3]; exact F_TBSTAR_background)) hZ (hw _ (List.mem_of_getElem? (i := 37) rfl)) (hw _ (List.mem_of_getElem? (i := 5) rfl)) (by decide) (by decide)) q4a q4c (g := (mkF m 40 #[.val (.int p1), .val (.int (p1 &&& (7 : Int32))), .val (.ref w_TBSTAR), .val (.int (1 : Int32)), .val (.int (1 : Int32))] [(.ref w_TBSTAR)])) rfl (by rw [hml]; rfl) (Steps.refl _) (argsL := []) (rest := []) (lenOf pd_0_1 rfl) rfl (by show 2 * 0 + _ ≤ _; exact Nat.le_of_eq rfl) (hb hby at_40) (fun _ _ => ⟨rfl, rfl, (by decide : 0 + 0 ≤ _), (by decide : 0 + 0 ≤ _)⟩)
  dsimp only [Pt.U, Pt.locs, Pt.cells, Pt.slots] at X4 l4 y4 z4 st4 hQ4
  subst l4 y4 z4
  obtain ⟨rfl, N4q, e4q⟩ := hQ4
  have N4 := Fr.app N3 N4q
  have Z4 : n0 ≤ T4.heap.size := by rw [e4q]; exact Z3
  have Kq4 : Keep T3.heap T4.heap [] := by rw [e4q]; exact Keep.refl _ _
  have eh4 : T4.heap = h0 := e4q.trans eh3
  obtain ⟨cq5, kq5, q5a, q5b, q5c⟩ := isOf hZ rfl (((E_TBSTAR.keep Kq2).keep Kq3).keep Kq4)
  obtain ⟨_, _, ⟨T5, L5, k5, n5⟩, -, X5, ⟨Lc5, hQ5, l5, y5, z5⟩, st5⟩ := X4.virtualBack hx (y := (⟨"com/example/barts/barts/Server", "shortensDeadlines", "()Z"⟩ : MethodName)) (z := (⟨"com/example/barts/barts/Server", "shortensDeadlines", "()Z"⟩ : MethodName)) hown (mvT hZ (hw _ (List.mem_of_getElem? (i := 20) rfl))) (mvT hZ (hw _ (List.mem_of_getElem? (i := 21) rfl))) (notFace_of_selects (args := #[]) (mvT hZ (hw _ (List.mem_of_getElem? (i := 23) rfl)))) (mvT hZ (hw _ (List.mem_of_getElem? (i := 23) rfl))) (mvT hZ (hw _ (List.mem_of_getElem? (i := 22) rfl))) (by decide) (backOf (W := 0) (rm3_t l Z a0 hw [] w_TBSTAR w_TBSTAR T4.heap n0 Z4 (by rw [eh4]; exact S_TBSTAR) rfl) hZ (hw _ (List.mem_of_getElem? (i := 24) rfl)) (hw _ (List.mem_of_getElem? (i := 5) rfl)) (by decide) (by decide)) q5a q5c (g := (mkF m 49 #[.val (.int p1), .val (.int (p1 &&& (7 : Int32))), .val (.ref w_TBSTAR), .val (.int (1 : Int32)), .val (.int (1 : Int32))] [(.ref w_TBSTAR)])) rfl (by rw [hml]; rfl) (Steps.refl _) (argsL := []) (rest := []) (lenOf pd_0_1 rfl) rfl (by show 2 * 0 + _ ≤ _; exact Nat.le_of_eq rfl) (hb hby at_49) (fun _ _ => ⟨rfl, rfl, (by decide : 0 + 0 ≤ _), (by decide : 0 + 0 ≤ _)⟩)
  dsimp only [Pt.U, Pt.locs, Pt.cells, Pt.slots] at X5 l5 y5 z5 st5 hQ5
  subst l5 y5 z5
  obtain ⟨rfl, N5q, e5q⟩ := hQ5
  have N5 := Fr.app N4 N5q
  have Z5 : n0 ≤ T5.heap.size := by rw [e5q]; exact Z4
  have Kq5 : Keep T4.heap T5.heap [] := by rw [e5q]; exact Keep.refl _ _
  have eh5 : T5.heap = h0 := e5q.trans eh4
  obtain ⟨cq6, kq6, q6a, q6b, q6c⟩ := isOf hZ rfl ((((E_TBSTAR.keep Kq2).keep Kq3).keep Kq4).keep Kq5)
  obtain ⟨_, _, ⟨T6, L6, k6, n6⟩, -, X6, ⟨Lc6, hQ6, l6, y6, z6⟩, st6⟩ := X5.virtualBack hx (y := (⟨"com/example/barts/barts/Server", "weighsEnergy", "()Z"⟩ : MethodName)) (z := (⟨"com/example/barts/barts/Server", "weighsEnergy", "()Z"⟩ : MethodName)) hown (mvT hZ (hw _ (List.mem_of_getElem? (i := 25) rfl))) (mvT hZ (hw _ (List.mem_of_getElem? (i := 26) rfl))) (notFace_of_selects (args := #[]) (mvT hZ (hw _ (List.mem_of_getElem? (i := 28) rfl)))) (mvT hZ (hw _ (List.mem_of_getElem? (i := 28) rfl))) (mvT hZ (hw _ (List.mem_of_getElem? (i := 27) rfl))) (by decide) (backOf (W := 0) (rm4_ft l Z a0 hw [] w_TBSTAR w_TBH w_TBSTARH T5.heap n0 Z5 (by rw [eh5]; exact S_TBH) (by rw [eh5]; exact S_TBSTARH) ne_TBSTAR_TBH ne_TBSTAR_TBSTARH) hZ (hw _ (List.mem_of_getElem? (i := 29) rfl)) (hw _ (List.mem_of_getElem? (i := 5) rfl)) (by decide) (by decide)) q6a q6c (g := (mkF m 62 #[.val (.int p1), .val (.int (p1 &&& (7 : Int32))), .val (.ref w_TBSTAR), .val (.int (1 : Int32)), .val (.int (1 : Int32))] [(.ref w_TBSTAR)])) rfl (by rw [hml]; rfl) (Steps.refl _) (argsL := []) (rest := []) (lenOf pd_0_1 rfl) rfl (by show 2 * 0 + _ ≤ _; exact Nat.le_of_eq rfl) (hb hby at_62) (fun _ _ => ⟨rfl, rfl, (by decide : 0 + 0 ≤ _), (by decide : 0 + 0 ≤ _)⟩)
  dsimp only [Pt.U, Pt.locs, Pt.cells, Pt.slots] at X6 l6 y6 z6 st6 hQ6
  subst l6 y6 z6
  obtain ⟨rfl, N6q, e6q⟩ := hQ6
  have N6 := Fr.app N5 N6q
  have Z6 : n0 ≤ T6.heap.size := by rw [e6q]; exact Z5
  have Kq6 : Keep T5.heap T6.heap [] := by rw [e6q]; exact Keep.refl _ _
  have eh6 : T6.heap = h0 := e6q.trans eh5
  obtain ⟨fs, hr, hrun, hended, hW, hsame⟩ := X6.leave (v := some (.int (1 : Int32))) (fun h => by rw [Bd.returns] at h; cases h) Bd.notSynchronized
  refine ⟨_, _, pre0 _ ?_, hrun, hended, _, _, rfl, ?_, ⟨_, rfl⟩, hW, hsame.mono (by decide) (by decide)⟩
  · show Steps p.tables e below (s₁.setTop (mkF m 0 #[.val (.int p1), .unset, .unset, .unset, .unset] [])) _
    refine XS.iloadN X0.here hx rfl (hb hby at_0) rfl ?_
    show Steps p.tables e below (s₁.setTop (mkF m 1 #[.val (.int p1), .unset, .unset, .unset, .unset] [(.int p1)])) _
    refine XS.bipush X0.here hx rfl (hb hby at_1) ?_
    show Steps p.tables e below (s₁.setTop (mkF m 3 #[.val (.int p1), .unset, .unset, .unset, .unset] [(.int (7 : Int32)), (.int p1)])) _
    refine XS.iand X0.here hx rfl (hb hby at_3) rfl ?_
    show Steps p.tables e below (s₁.setTop (mkF m 4 #[.val (.int p1), .unset, .unset, .unset, .unset] [(.int (p1 &&& (7 : Int32)))])) _
    refine XS.istoreN X0.here hx rfl (hb hby at_4) rfl (l' := #[.val (.int p1), .val (.int (p1 &&& (7 : Int32))), .unset, .unset, .unset]) rfl ?_
    show Steps p.tables e below (s₁.setTop (mkF m 5 #[.val (.int p1), .val (.int (p1 &&& (7 : Int32))), .unset, .unset, .unset] [])) _
    refine XS.iloadN X0.here hx rfl (hb hby at_5) rfl ?_
    show Steps p.tables e below (s₁.setTop (mkF m 6 #[.val (.int p1), .val (.int (p1 &&& (7 : Int32))), .unset, .unset, .unset] [(.int (p1 &&& (7 : Int32)))])) _
    refine st2 _ ?_
    show Steps p.tables e below (T2.setTop (mkF m 9 #[.val (.int p1), .val (.int (p1 &&& (7 : Int32))), .unset, .unset, .unset] [(.ref w_TBSTAR)])) _
    refine XS.astoreN X2.here hx rfl (hb hby at_9) rfl rfl (l' := #[.val (.int p1), .val (.int (p1 &&& (7 : Int32))), .val (.ref w_TBSTAR), .unset, .unset]) rfl ?_
    show Steps p.tables e below (T2.setTop (mkF m 10 #[.val (.int p1), .val (.int (p1 &&& (7 : Int32))), .val (.ref w_TBSTAR), .unset, .unset] [])) _
    refine XS.aloadN X2.here hx rfl (hb hby at_10) rfl rfl ?_
    show Steps p.tables e below (T2.setTop (mkF m 11 #[.val (.int p1), .val (.int (p1 &&& (7 : Int32))), .val (.ref w_TBSTAR), .unset, .unset] [(.ref w_TBSTAR)])) _
    refine st3.trans ?_
    show Steps p.tables e below (T3.setTop (mkF m 14 #[.val (.int p1), .val (.int (p1 &&& (7 : Int32))), .val (.ref w_TBSTAR), .unset, .unset] [(.int (1 : Int32))])) _
    refine XS.istoreN X3.here hx rfl (hb hby at_14) rfl (l' := #[.val (.int p1), .val (.int (p1 &&& (7 : Int32))), .val (.ref w_TBSTAR), .val (.int (1 : Int32)), .unset]) rfl ?_
    show Steps p.tables e below (T3.setTop (mkF m 15 #[.val (.int p1), .val (.int (p1 &&& (7 : Int32))), .val (.ref w_TBSTAR), .val (.int (1 : Int32)), .unset] [])) _
    refine XS.iloadN X3.here hx rfl (hb hby at_15) rfl ?_
    show Steps p.tables e below (T3.setTop (mkF m 16 #[.val (.int p1), .val (.int (p1 &&& (7 : Int32))), .val (.ref w_TBSTAR), .val (.int (1 : Int32)), .unset] [(.int (p1 &&& (7 : Int32)))])) _
    refine XS.iconst X3.here hx rfl (hb hby at_16) ?_
    show Steps p.tables e below (T3.setTop (mkF m 17 #[.val (.int p1), .val (.int (p1 &&& (7 : Int32))), .val (.ref w_TBSTAR), .val (.int (1 : Int32)), .unset] [(.int (4 : Int32)), (.int (p1 &&& (7 : Int32)))])) _
    refine XS.icmpNo X3.here hx rfl (hb hby at_17) rfl (flt hc17).1 ?_
    show Steps p.tables e below (T3.setTop (mkF m 20 #[.val (.int p1), .val (.int (p1 &&& (7 : Int32))), .val (.ref w_TBSTAR), .val (.int (1 : Int32)), .unset] [])) _
    refine XS.iconst X3.here hx rfl (hb hby at_20) ?_
    show Steps p.tables e below (T3.setTop (mkF m 21 #[.val (.int p1), .val (.int (p1 &&& (7 : Int32))), .val (.ref w_TBSTAR), .val (.int (1 : Int32)), .unset] [(.int (1 : Int32))])) _
    refine XS.goto X3.here hx rfl (pc0 := 21) (pc' := 25) rfl (hb hby at_21) (by decide) (by decide) ?_
    show Steps p.tables e below (T3.setTop (mkF m 25 #[.val (.int p1), .val (.int (p1 &&& (7 : Int32))), .val (.ref w_TBSTAR), .val (.int (1 : Int32)), .unset] [(.int (1 : Int32))])) _
    refine XS.istore X3.here hx rfl (hb hby at_25) rfl (l' := #[.val (.int p1), .val (.int (p1 &&& (7 : Int32))), .val (.ref w_TBSTAR), .val (.int (1 : Int32)), .val (.int (1 : Int32))]) rfl ?_
    show Steps p.tables e below (T3.setTop (mkF m 27 #[.val (.int p1), .val (.int (p1 &&& (7 : Int32))), .val (.ref w_TBSTAR), .val (.int (1 : Int32)), .val (.int (1 : Int32))] [])) _
    refine XS.iloadN X3.here hx rfl (hb hby at_27) rfl ?_
    show Steps p.tables e below (T3.setTop (mkF m 28 #[.val (.int p1), .val (.int (p1 &&& (7 : Int32))), .val (.ref w_TBSTAR), .val (.int (1 : Int32)), .val (.int (1 : Int32))] [(.int (1 : Int32))])) _
    refine XS.iload X3.here hx rfl (hb hby at_28) rfl ?_
    show Steps p.tables e below (T3.setTop (mkF m 30 #[.val (.int p1), .val (.int (p1 &&& (7 : Int32))), .val (.ref w_TBSTAR), .val (.int (1 : Int32)), .val (.int (1 : Int32))] [(.int (1 : Int32)), (.int (1 : Int32))])) _
    refine XS.icmpYes X3.here hx rfl (pc0 := 30) (pc' := 35) rfl (hb hby at_30) rfl (teq hk30).1 (by decide) (by decide) ?_
    show Steps p.tables e below (T3.setTop (mkF m 35 #[.val (.int p1), .val (.int (p1 &&& (7 : Int32))), .val (.ref w_TBSTAR), .val (.int (1 : Int32)), .val (.int (1 : Int32))] [])) _
    refine XS.iloadN X3.here hx rfl (hb hby at_35) rfl ?_
    show Steps p.tables e below (T3.setTop (mkF m 36 #[.val (.int p1), .val (.int (p1 &&& (7 : Int32))), .val (.ref w_TBSTAR), .val (.int (1 : Int32)), .val (.int (1 : Int32))] [(.int (1 : Int32))])) _
    refine XS.ifNo X3.here hx rfl (hb hby at_36) rfl ((if0 _ _).trans (feq hk36).1) ?_
    show Steps p.tables e below (T3.setTop (mkF m 39 #[.val (.int p1), .val (.int (p1 &&& (7 : Int32))), .val (.ref w_TBSTAR), .val (.int (1 : Int32)), .val (.int (1 : Int32))] [])) _
    refine XS.aloadN X3.here hx rfl (hb hby at_39) rfl rfl ?_
    show Steps p.tables e below (T3.setTop (mkF m 40 #[.val (.int p1), .val (.int (p1 &&& (7 : Int32))), .val (.ref w_TBSTAR), .val (.int (1 : Int32)), .val (.int (1 : Int32))] [(.ref w_TBSTAR)])) _
    refine st4.trans ?_
    show Steps p.tables e below (T4.setTop (mkF m 43 #[.val (.int p1), .val (.int (p1 &&& (7 : Int32))), .val (.ref w_TBSTAR), .val (.int (1 : Int32)), .val (.int (1 : Int32))] [(.int (0 : Int32))])) _
    refine XS.ifYes X4.here hx rfl (pc0 := 43) (pc' := 48) rfl (hb hby at_43) rfl ((if0 _ _).trans (teq hk43).1) (by decide) (by decide) ?_
    show Steps p.tables e below (T4.setTop (mkF m 48 #[.val (.int p1), .val (.int (p1 &&& (7 : Int32))), .val (.ref w_TBSTAR), .val (.int (1 : Int32)), .val (.int (1 : Int32))] [])) _
    refine XS.aloadN X4.here hx rfl (hb hby at_48) rfl rfl ?_
    show Steps p.tables e below (T4.setTop (mkF m 49 #[.val (.int p1), .val (.int (p1 &&& (7 : Int32))), .val (.ref w_TBSTAR), .val (.int (1 : Int32)), .val (.int (1 : Int32))] [(.ref w_TBSTAR)])) _
    refine st5.trans ?_
    show Steps p.tables e below (T5.setTop (mkF m 52 #[.val (.int p1), .val (.int (p1 &&& (7 : Int32))), .val (.ref w_TBSTAR), .val (.int (1 : Int32)), .val (.int (1 : Int32))] [(.int (1 : Int32))])) _
    refine XS.ifNo X5.here hx rfl (hb hby at_52) rfl ((if0 _ _).trans (feq hk52).1) ?_
    show Steps p.tables e below (T5.setTop (mkF m 55 #[.val (.int p1), .val (.int (p1 &&& (7 : Int32))), .val (.ref w_TBSTAR), .val (.int (1 : Int32)), .val (.int (1 : Int32))] [])) _
    refine XS.iloadN X5.here hx rfl (hb hby at_55) rfl ?_
    show Steps p.tables e below (T5.setTop (mkF m 56 #[.val (.int p1), .val (.int (p1 &&& (7 : Int32))), .val (.ref w_TBSTAR), .val (.int (1 : Int32)), .val (.int (1 : Int32))] [(.int (1 : Int32))])) _
    refine XS.ifYes X5.here hx rfl (pc0 := 56) (pc' := 61) rfl (hb hby at_56) rfl ((if0 _ _).trans (feq hk56).2) (by decide) (by decide) ?_
    show Steps p.tables e below (T5.setTop (mkF m 61 #[.val (.int p1), .val (.int (p1 &&& (7 : Int32))), .val (.ref w_TBSTAR), .val (.int (1 : Int32)), .val (.int (1 : Int32))] [])) _
    refine XS.aloadN X5.here hx rfl (hb hby at_61) rfl rfl ?_
    show Steps p.tables e below (T5.setTop (mkF m 62 #[.val (.int p1), .val (.int (p1 &&& (7 : Int32))), .val (.ref w_TBSTAR), .val (.int (1 : Int32)), .val (.int (1 : Int32))] [(.ref w_TBSTAR)])) _
    refine st6.trans ?_
    show Steps p.tables e below (T6.setTop (mkF m 65 #[.val (.int p1), .val (.int (p1 &&& (7 : Int32))), .val (.ref w_TBSTAR), .val (.int (1 : Int32)), .val (.int (1 : Int32))] [(.int (0 : Int32))])) _
    refine XS.ifYes X6.here hx rfl (pc0 := 65) (pc' := 74) rfl (hb hby at_65) rfl ((if0 _ _).trans (teq hk65).1) (by decide) (by decide) ?_
    show Steps p.tables e below (T6.setTop (mkF m 74 #[.val (.int p1), .val (.int (p1 &&& (7 : Int32))), .val (.ref w_TBSTAR), .val (.int (1 : Int32)), .val (.int (1 : Int32))] [])) _
    refine XS.iconst X6.here hx rfl (hb hby at_74) ?_
    show Steps p.tables e below (T6.setTop (mkF m 75 #[.val (.int p1), .val (.int (p1 &&& (7 : Int32))), .val (.ref w_TBSTAR), .val (.int (1 : Int32)), .val (.int (1 : Int32))] [(.int (1 : Int32))])) _
    exact retN X6 hx (t := .boolean) Bd.returns (by simp) (hb hby at_75) hr
  · show Q0 Z p1 h0 n0 _ T6.heap _
    exact ⟨rfl, N6⟩
set_option maxRecDepth 65536 in
set_option maxHeartbeats 40000000 in
theorem rm0_TBH (l : Launch) (Z : State) (a0 : Array Value) (hw : ∀ d ∈ tables_1, d.before a0 Z = true) (ws : List Jvm.Cond) (p1 : Int32) (w_BG : Addr) (w_BES : Addr) (w_BEP : Addr) (w_SSP : Addr) (w_TBS : Addr) (w_TBSTAR : Addr) (w_TBH : Addr) (w_TBSTARH : Addr) (h0 : Heap) (n0 : Nat) (Z0 : n0 ≤ h0.size) (S_BG : Sta Z h0 "com/example/barts/barts/Server" "BG" "Lcom/example/barts/barts/Server;" (.ref w_BG)) (E_BG : Exa Z h0 w_BG "com/example/barts/barts/Server") (S_BES : Sta Z h0 "com/example/barts/barts/Server" "BES" "Lcom/example/barts/barts/Server;" (.ref w_BES)) (E_BES : Exa Z h0 w_BES "com/example/barts/barts/Server") (S_BEP : Sta Z h0 "com/example/barts/barts/Server" "BEP" "Lcom/example/barts/barts/Server;" (.ref w_BEP)) (E_BEP : Exa Z h0 w_BEP "com/example/barts/barts/Server") (S_SSP : Sta Z h0 "com/example/barts/barts/Server" "SSP" "Lcom/example/barts/barts/Server;" (.ref w_SSP)) (E_SSP : Exa Z h0 w_SSP "com/example/barts/barts/Server") (S_TBS : Sta Z h0 "com/example/barts/barts/Server" "TBS" "Lcom/example/barts/barts/Server;" (.ref w_TBS)) (E_TBS : Exa Z h0 w_TBS "com/example/barts/barts/Server") (S_TBSTAR : Sta Z h0 "com/example/barts/barts/Server" "TBSTAR" "Lcom/example/barts/barts/Server;" (.ref w_TBSTAR)) (E_TBSTAR : Exa Z h0 w_TBSTAR "com/example/barts/barts/Server") (S_TBH : Sta Z h0 "com/example/barts/barts/Server" "TBH" "Lcom/example/barts/barts/Server;" (.ref w_TBH)) (E_TBH : Exa Z h0 w_TBH "com/example/barts/barts/Server") (S_TBSTARH : Sta Z h0 "com/example/barts/barts/Server" "TBSTARH" "Lcom/example/barts/barts/Server;" (.ref w_TBSTARH)) (E_TBSTARH : Exa Z h0 w_TBSTARH "com/example/barts/barts/Server") (F_TBS_background : Fld Z h0 w_TBS "com/example/barts/barts/Server" "background" "Z" (.int (0 : Int32))) (F_TBSTAR_background : Fld Z h0 w_TBSTAR "com/example/barts/barts/Server" "background" "Z" (.int (0 : Int32))) (F_TBH_background : Fld Z h0 w_TBH "com/example/barts/barts/Server" "background" "Z" (.int (0 : Int32))) (F_TBSTARH_background : Fld Z h0 w_TBSTARH "com/example/barts/barts/Server" "background" "Z" (.int (0 : Int32))) (ne_BG_TBS : ¬ w_BG = w_TBS) (ne_BG_TBSTAR : ¬ w_BG = w_TBSTAR) (ne_BG_TBH : ¬ w_BG = w_TBH) (ne_BG_TBSTARH : ¬ w_BG = w_TBSTARH) (ne_BES_TBS : ¬ w_BES = w_TBS) (ne_BES_TBSTAR : ¬ w_BES = w_TBSTAR) (ne_BES_TBH : ¬ w_BES = w_TBH) (ne_BES_TBSTARH : ¬ w_BES = w_TBSTARH) (ne_BEP_TBS : ¬ w_BEP = w_TBS) (ne_BEP_TBSTAR : ¬ w_BEP = w_TBSTAR) (ne_BEP_TBH : ¬ w_BEP = w_TBH) (ne_BEP_TBSTARH : ¬ w_BEP = w_TBSTARH) (ne_SSP_TBS : ¬ w_SSP = w_TBS) (ne_SSP_TBSTAR : ¬ w_SSP = w_TBSTAR) (ne_SSP_TBH : ¬ w_SSP = w_TBH) (ne_SSP_TBSTARH : ¬ w_SSP = w_TBSTARH) (ne_TBS_TBSTAR : ¬ w_TBS = w_TBSTAR) (ne_TBS_TBH : ¬ w_TBS = w_TBH) (ne_TBS_TBSTARH : ¬ w_TBS = w_TBSTARH) (ne_TBSTAR_TBS : ¬ w_TBSTAR = w_TBS) (ne_TBSTAR_TBH : ¬ w_TBSTAR = w_TBH) (ne_TBSTAR_TBSTARH : ¬ w_TBSTAR = w_TBSTARH) (ne_TBH_TBS : ¬ w_TBH = w_TBS) (ne_TBH_TBSTAR : ¬ w_TBH = w_TBSTAR) (ne_TBH_TBSTARH : ¬ w_TBH = w_TBSTARH) (ne_TBSTARH_TBS : ¬ w_TBSTARH = w_TBS) (ne_TBSTARH_TBSTAR : ¬ w_TBSTARH = w_TBSTAR) (ne_TBSTARH_TBH : ¬ w_TBSTARH = w_TBH) (hp0 : ¬ (p1 &&& (7 : Int32)) = (0 : Int32)) (hp1 : ¬ (p1 &&& (7 : Int32)) = (1 : Int32)) (hp2 : ¬ (p1 &&& (7 : Int32)) = (2 : Int32)) (hp3 : ¬ (p1 &&& (7 : Int32)) = (3 : Int32)) (hp4 : ¬ (p1 &&& (7 : Int32)) = (4 : Int32)) (hp5 : ¬ (p1 &&& (7 : Int32)) = (5 : Int32)) (hp : (p1 &&& (7 : Int32)) = (6 : Int32)) (hc17 : ¬ ((p1 &&& (7 : Int32)) < (4 : Int32))) (hk30 : (1 : Int32) = (1 : Int32)) (hk36 : ¬ ((1 : Int32) = (0 : Int32))) (hk43 : (0 : Int32) = (0 : Int32)) (hk52 : (0 : Int32) = (0 : Int32)) (hk65 : ¬ ((1 : Int32) = (0 : Int32))) (hk69 : ¬ ((1 : Int32) = (0 : Int32))) :
    MetFree l x (head1 (Jvm.Cond.code x code maxLocals ret :: ws) room_1) (fun a U => a = #[(.int p1)] ∧ Z.Warmed39 U.vm ∧ U.heap = h0) (fun _ _ _ _ _ => True) (fun _ U o U' => ∃ v L, o = .returned v ∧ Q0 Z p1 h0 n0 v U'.heap L ∧ FrameEnd U o U' L room_1.cells room_1.slots) := by
  refine MetFree.of_bodySF (plainFor_of_name pn_0) hisR ?_
  intro p e s m args below meth c s₁ Bd hml0 hP hK
  obtain ⟨rfl, hZ, hh⟩ := hP
  have hx := Bd.exec
  have hby := Bd.bytes
  have hml : c.maxLocals = 5 := hml0
  have hown : s.vm.findClass "com/example/barts/barts/ServerAssignsDeadlinesPinLaw" = some m.cls := findClass_of_methodNamed Bd.named
  have hnm := (name_of_methodNamed Bd.named Bd.method).1
  have X0 : Stand p l e room_1 s m #[(.int p1)] below meth c s₁ [] 0 0 := Stand.of_body Bd
  have e0 : s₁.heap = h0 := by rw [← hh, Bd.state]; rfl
  have N0 := Fr.nil n0
  have pre0 : ∀ t, Steps p.tables e below (s₁.setTop (mkF m 0 #[.val (.int p1), .unset, .unset, .unset, .unset] [])) t → Steps p.tables e below (s₁.setTop (entryFrame m #[(.int p1)] maxLocals)) t := fun t k => castTop (ef_0 m p1) k
  obtain ⟨_, _, ⟨T2, L2, k2, n2⟩, -, X2, ⟨Lc2, hQ2, l2, y2, z2⟩, st2⟩ := Jvm.LawKit.callS X0 hx (y := (⟨"com/example/barts/barts/ServerAssignsDeadlinesPinLaw", "pick", "(I)Lcom/example/barts/barts/Server;"⟩ : MethodName)) hown (mvT hZ (hw _ (List.mem_of_getElem? (i := 0) rfl))) (mvT hZ (hw _ (List.mem_of_getElem? (i := 1) rfl))) (mvT hZ (hw _ (List.mem_of_getElem? (i := 2) rfl))) (mvT hZ (hw _ (List.mem_of_getElem? (i := 3) rfl))) (by decide) (backOf (W := 0) (rm1_k6 l Z a0 hw [] (p1 &&& (7 : Int32)) w_TBH h0 n0 Z0 S_TBH hp0 hp1 hp2 hp3 hp4 hp5 hp) hZ (hw _ (List.mem_of_getElem? (i := 3) rfl)) (hw _ (List.mem_of_getElem? (i := 2) rfl)) (by decide) (by decide)) (g := (mkF m 6 #[.val (.int p1), .val (.int (p1 &&& (7 : Int32))), .unset, .unset, .unset] [(.int (p1 &&& (7 : Int32)))])) rfl (by rw [hml]; rfl) (argsL := [(.int (p1 &&& (7 : Int32)))]) (rest := []) (lenOf pd_0_0 rfl) rfl (by show 2 * 0 + _ ≤ _; exact Nat.le_of_eq rfl) (hb hby at_6) (fun _ _ => ⟨rfl, e0, (by decide : 0 + 0 ≤ _), (by decide : 0 + 0 ≤ _)⟩)
  dsimp only [Pt.U, Pt.locs, Pt.cells, Pt.slots] at X2 l2 y2 z2 st2 hQ2
  subst l2 y2 z2
  obtain ⟨rfl, N2q, e2q⟩ := hQ2
  have N2 := Fr.app N0 N2q
  have Z2 : n0 ≤ T2.heap.size := by rw [e2q]; exact Z0
  have Kq2 : Keep h0 T2.heap [] := by rw [e2q]; exact Keep.refl _ _
  have eh2 : T2.heap = h0 := e2q
  obtain ⟨cq3, kq3, q3a, q3b, q3c⟩ := isOf hZ rfl (E_TBH.keep Kq2)
  obtain ⟨_, _, ⟨T3, L3, k3, n3⟩, -, X3, ⟨Lc3, hQ3, l3, y3, z3⟩, st3⟩ := X2.virtualBack hx (y := (⟨"com/example/barts/barts/Server", "assignsDeadlines", "()Z"⟩ : MethodName)) (z := (⟨"com/example/barts/barts/Server", "assignsDeadlines", "()Z"⟩ : MethodName)) hown (mvT hZ (hw _ (List.mem_of_getElem? (i := 7) rfl))) (mvT hZ (hw _ (List.mem_of_getElem? (i := 8) rfl))) (notFace_of_selects (args := #[]) (mvT hZ (hw _ (List.mem_of_getElem? (i := 10) rfl)))) (mvT hZ (hw _ (List.mem_of_getElem? (i := 10) rfl))) (mvT hZ (hw _ (List.mem_of_getElem? (i := 9) rfl))) (by decide) (backOf (W := 0) (rm2_fft l Z a0 hw [] w_TBH w_TBS w_TBSTAR w_TBH T2.heap n0 Z2 (by rw [eh2]; exact S_TBS) (by rw [eh2]; exact S_TBSTAR) (by rw [eh2]; exact S_TBH) ne_TBH_TBS ne_TBH_TBSTAR rfl) hZ (hw _ (List.mem_of_getElem? (i := 11) rfl)) (hw _ (List.mem_of_getElem? (i := 5) rfl)) (by decide) (by decide)) q3a q3c (g := (mkF m 11 #[.val (.int p1), .val (.int (p1 &&& (7 : Int32))), .val (.ref w_TBH), .unset, .unset] [(.ref w_TBH)])) rfl (by rw [hml]; rfl) (Steps.refl _) (argsL := []) (rest := []) (lenOf pd_0_1 rfl) rfl (by show 2 * 0 + _ ≤ _; exact Nat.le_of_eq rfl) (hb hby at_11) (fun _ _ => ⟨rfl, rfl, (by decide : 0 + 0 ≤ _), (by decide : 0 + 0 ≤ _)⟩)
  dsimp only [Pt.U, Pt.locs, Pt.cells, Pt.slots] at X3 l3 y3 z3 st3 hQ3
  subst l3 y3 z3
  obtain ⟨rfl, N3q, e3q⟩ := hQ3
  have N3 := Fr.app N2 N3q
  have Z3 : n0 ≤ T3.heap.size := by rw [e3q]; exact Z2
  have Kq3 : Keep T2.heap T3.heap [] := by rw [e3q]; exact Keep.refl _ _
  have eh3 : T3.heap = h0 := e3q.trans eh2
  obtain ⟨cq4, kq4, q4a, q4b, q4c⟩ := isOf hZ rfl ((E_TBH.keep Kq2).keep Kq3)
  obtain ⟨_, _, ⟨T4, L4, k4, n4⟩, -, X4, ⟨Lc4, hQ4, l4, y4, z4⟩, st4⟩ := X3.virtualBack hx (y := (⟨"com/example/barts/barts/Server", "isBackground", "()Z"⟩ : MethodName)) (z := (⟨"com/example/barts/barts/Server", "isBackground", "()Z"⟩ : MethodName)) hown (mvT hZ (hw _ (List.mem_of_getElem? (i := 33) rfl))) (mvT hZ (hw _ (List.mem_of_getElem? (i := 34) rfl))) (notFace_of_selects (args := #[]) (mvT hZ (hw _ (List.mem_of_getElem? (i := 36) rfl)))) (mvT hZ (hw _ (List.mem_of_getElem? (i := 36) rfl))) (mvT hZ (hw _ (List.mem_of_getElem? (i := 35) rfl))) (by decide) (backOf (W := 0) (rm5_x l Z a0 hw [] w_TBH  T3.heap n0 Z3 (by rw [eh3]; exact F_TBH_background)) hZ (hw _ (List.mem_of_getElem? (i := 37) rfl)) (hw _ (List.mem_of_getElem? (i := 5) rfl)) (by decide) (by decide)) q4a q4c (g := (mkF m 40 #[.val (.int p1), .val (.int (p1 &&& (7 : Int32))), .val (.ref w_TBH), .val (.int (1 : Int32)), .val (.int (1 : Int32))] [(.ref w_TBH)])) rfl (by rw [hml]; rfl) (Steps.refl _) (argsL := []) (rest := []) (lenOf pd_0_1 rfl) rfl (by show 2 * 0 + _ ≤ _; exact Nat.le_of_eq rfl) (hb hby at_40) (fun _ _ => ⟨rfl, rfl, (by decide : 0 + 0 ≤ _), (by decide : 0 + 0 ≤ _)⟩)
  dsimp only [Pt.U, Pt.locs, Pt.cells, Pt.slots] at X4 l4 y4 z4 st4 hQ4
  subst l4 y4 z4
  obtain ⟨rfl, N4q, e4q⟩ := hQ4
  have N4 := Fr.app N3 N4q
  have Z4 : n0 ≤ T4.heap.size := by rw [e4q]; exact Z3
  have Kq4 : Keep T3.heap T4.heap [] := by rw [e4q]; exact Keep.refl _ _
  have eh4 : T4.heap = h0 := e4q.trans eh3
  obtain ⟨cq5, kq5, q5a, q5b, q5c⟩ := isOf hZ rfl (((E_TBH.keep Kq2).keep Kq3).keep Kq4)
  obtain ⟨_, _, ⟨T5, L5, k5, n5⟩, -, X5, ⟨Lc5, hQ5, l5, y5, z5⟩, st5⟩ := X4.virtualBack hx (y := (⟨"com/example/barts/barts/Server", "shortensDeadlines", "()Z"⟩ : MethodName)) (z := (⟨"com/example/barts/barts/Server", "shortensDeadlines", "()Z"⟩ : MethodName)) hown (mvT hZ (hw _ (List.mem_of_getElem? (i := 20) rfl))) (mvT hZ (hw _ (List.mem_of_getElem? (i := 21) rfl))) (notFace_of_selects (args := #[]) (mvT hZ (hw _ (List.mem_of_getElem? (i := 23) rfl)))) (mvT hZ (hw _ (List.mem_of_getElem? (i := 23) rfl))) (mvT hZ (hw _ (List.mem_of_getElem? (i := 22) rfl))) (by decide) (backOf (W := 0) (rm3_ft l Z a0 hw [] w_TBH w_TBSTAR w_TBSTARH T4.heap n0 Z4 (by rw [eh4]; exact S_TBSTAR) (by rw [eh4]; exact S_TBSTARH) ne_TBH_TBSTAR ne_TBH_TBSTARH) hZ (hw _ (List.mem_of_getElem? (i := 24) rfl)) (hw _ (List.mem_of_getElem? (i := 5) rfl)) (by decide) (by decide)) q5a q5c (g := (mkF m 49 #[.val (.int p1), .val (.int (p1 &&& (7 : Int32))), .val (.ref w_TBH), .val (.int (1 : Int32)), .val (.int (1 : Int32))] [(.ref w_TBH)])) rfl (by rw [hml]; rfl) (Steps.refl _) (argsL := []) (rest := []) (lenOf pd_0_1 rfl) rfl (by show 2 * 0 + _ ≤ _; exact Nat.le_of_eq rfl) (hb hby at_49) (fun _ _ => ⟨rfl, rfl, (by decide : 0 + 0 ≤ _), (by decide : 0 + 0 ≤ _)⟩)
  dsimp only [Pt.U, Pt.locs, Pt.cells, Pt.slots] at X5 l5 y5 z5 st5 hQ5
  subst l5 y5 z5
  obtain ⟨rfl, N5q, e5q⟩ := hQ5
  have N5 := Fr.app N4 N5q
  have Z5 : n0 ≤ T5.heap.size := by rw [e5q]; exact Z4
  have Kq5 : Keep T4.heap T5.heap [] := by rw [e5q]; exact Keep.refl _ _
  have eh5 : T5.heap = h0 := e5q.trans eh4
  obtain ⟨cq6, kq6, q6a, q6b, q6c⟩ := isOf hZ rfl ((((E_TBH.keep Kq2).keep Kq3).keep Kq4).keep Kq5)
  obtain ⟨_, _, ⟨T6, L6, k6, n6⟩, -, X6, ⟨Lc6, hQ6, l6, y6, z6⟩, st6⟩ := X5.virtualBack hx (y := (⟨"com/example/barts/barts/Server", "weighsEnergy", "()Z"⟩ : MethodName)) (z := (⟨"com/example/barts/barts/Server", "weighsEnergy", "()Z"⟩ : MethodName)) hown (mvT hZ (hw _ (List.mem_of_getElem? (i := 25) rfl))) (mvT hZ (hw _ (List.mem_of_getElem? (i := 26) rfl))) (notFace_of_selects (args := #[]) (mvT hZ (hw _ (List.mem_of_getElem? (i := 28) rfl)))) (mvT hZ (hw _ (List.mem_of_getElem? (i := 28) rfl))) (mvT hZ (hw _ (List.mem_of_getElem? (i := 27) rfl))) (by decide) (backOf (W := 0) (rm4_t l Z a0 hw [] w_TBH w_TBH T5.heap n0 Z5 (by rw [eh5]; exact S_TBH) rfl) hZ (hw _ (List.mem_of_getElem? (i := 29) rfl)) (hw _ (List.mem_of_getElem? (i := 5) rfl)) (by decide) (by decide)) q6a q6c (g := (mkF m 62 #[.val (.int p1), .val (.int (p1 &&& (7 : Int32))), .val (.ref w_TBH), .val (.int (1 : Int32)), .val (.int (1 : Int32))] [(.ref w_TBH)])) rfl (by rw [hml]; rfl) (Steps.refl _) (argsL := []) (rest := []) (lenOf pd_0_1 rfl) rfl (by show 2 * 0 + _ ≤ _; exact Nat.le_of_eq rfl) (hb hby at_62) (fun _ _ => ⟨rfl, rfl, (by decide : 0 + 0 ≤ _), (by decide : 0 + 0 ≤ _)⟩)
  dsimp only [Pt.U, Pt.locs, Pt.cells, Pt.slots] at X6 l6 y6 z6 st6 hQ6
  subst l6 y6 z6
  obtain ⟨rfl, N6q, e6q⟩ := hQ6
  have N6 := Fr.app N5 N6q
  have Z6 : n0 ≤ T6.heap.size := by rw [e6q]; exact Z5
  have Kq6 : Keep T5.heap T6.heap [] := by rw [e6q]; exact Keep.refl _ _
  have eh6 : T6.heap = h0 := e6q.trans eh5
  obtain ⟨fs, hr, hrun, hended, hW, hsame⟩ := X6.leave (v := some (.int (1 : Int32))) (fun h => by rw [Bd.returns] at h; cases h) Bd.notSynchronized
  refine ⟨_, _, pre0 _ ?_, hrun, hended, _, _, rfl, ?_, ⟨_, rfl⟩, hW, hsame.mono (by decide) (by decide)⟩
  · show Steps p.tables e below (s₁.setTop (mkF m 0 #[.val (.int p1), .unset, .unset, .unset, .unset] [])) _
    refine XS.iloadN X0.here hx rfl (hb hby at_0) rfl ?_
    show Steps p.tables e below (s₁.setTop (mkF m 1 #[.val (.int p1), .unset, .unset, .unset, .unset] [(.int p1)])) _
    refine XS.bipush X0.here hx rfl (hb hby at_1) ?_
    show Steps p.tables e below (s₁.setTop (mkF m 3 #[.val (.int p1), .unset, .unset, .unset, .unset] [(.int (7 : Int32)), (.int p1)])) _
    refine XS.iand X0.here hx rfl (hb hby at_3) rfl ?_
    show Steps p.tables e below (s₁.setTop (mkF m 4 #[.val (.int p1), .unset, .unset, .unset, .unset] [(.int (p1 &&& (7 : Int32)))])) _
    refine XS.istoreN X0.here hx rfl (hb hby at_4) rfl (l' := #[.val (.int p1), .val (.int (p1 &&& (7 : Int32))), .unset, .unset, .unset]) rfl ?_
    show Steps p.tables e below (s₁.setTop (mkF m 5 #[.val (.int p1), .val (.int (p1 &&& (7 : Int32))), .unset, .unset, .unset] [])) _
    refine XS.iloadN X0.here hx rfl (hb hby at_5) rfl ?_
    show Steps p.tables e below (s₁.setTop (mkF m 6 #[.val (.int p1), .val (.int (p1 &&& (7 : Int32))), .unset, .unset, .unset] [(.int (p1 &&& (7 : Int32)))])) _
    refine st2 _ ?_
    show Steps p.tables e below (T2.setTop (mkF m 9 #[.val (.int p1), .val (.int (p1 &&& (7 : Int32))), .unset, .unset, .unset] [(.ref w_TBH)])) _
    refine XS.astoreN X2.here hx rfl (hb hby at_9) rfl rfl (l' := #[.val (.int p1), .val (.int (p1 &&& (7 : Int32))), .val (.ref w_TBH), .unset, .unset]) rfl ?_
    show Steps p.tables e below (T2.setTop (mkF m 10 #[.val (.int p1), .val (.int (p1 &&& (7 : Int32))), .val (.ref w_TBH), .unset, .unset] [])) _
    refine XS.aloadN X2.here hx rfl (hb hby at_10) rfl rfl ?_
    show Steps p.tables e below (T2.setTop (mkF m 11 #[.val (.int p1), .val (.int (p1 &&& (7 : Int32))), .val (.ref w_TBH), .unset, .unset] [(.ref w_TBH)])) _
    refine st3.trans ?_
    show Steps p.tables e below (T3.setTop (mkF m 14 #[.val (.int p1), .val (.int (p1 &&& (7 : Int32))), .val (.ref w_TBH), .unset, .unset] [(.int (1 : Int32))])) _
    refine XS.istoreN X3.here hx rfl (hb hby at_14) rfl (l' := #[.val (.int p1), .val (.int (p1 &&& (7 : Int32))), .val (.ref w_TBH), .val (.int (1 : Int32)), .unset]) rfl ?_
    show Steps p.tables e below (T3.setTop (mkF m 15 #[.val (.int p1), .val (.int (p1 &&& (7 : Int32))), .val (.ref w_TBH), .val (.int (1 : Int32)), .unset] [])) _
    refine XS.iloadN X3.here hx rfl (hb hby at_15) rfl ?_
    show Steps p.tables e below (T3.setTop (mkF m 16 #[.val (.int p1), .val (.int (p1 &&& (7 : Int32))), .val (.ref w_TBH), .val (.int (1 : Int32)), .unset] [(.int (p1 &&& (7 : Int32)))])) _
    refine XS.iconst X3.here hx rfl (hb hby at_16) ?_
    show Steps p.tables e below (T3.setTop (mkF m 17 #[.val (.int p1), .val (.int (p1 &&& (7 : Int32))), .val (.ref w_TBH), .val (.int (1 : Int32)), .unset] [(.int (4 : Int32)), (.int (p1 &&& (7 : Int32)))])) _
    refine XS.icmpNo X3.here hx rfl (hb hby at_17) rfl (flt hc17).1 ?_
    show Steps p.tables e below (T3.setTop (mkF m 20 #[.val (.int p1), .val (.int (p1 &&& (7 : Int32))), .val (.ref w_TBH), .val (.int (1 : Int32)), .unset] [])) _
    refine XS.iconst X3.here hx rfl (hb hby at_20) ?_
    show Steps p.tables e below (T3.setTop (mkF m 21 #[.val (.int p1), .val (.int (p1 &&& (7 : Int32))), .val (.ref w_TBH), .val (.int (1 : Int32)), .unset] [(.int (1 : Int32))])) _
    refine XS.goto X3.here hx rfl (pc0 := 21) (pc' := 25) rfl (hb hby at_21) (by decide) (by decide) ?_
    show Steps p.tables e below (T3.setTop (mkF m 25 #[.val (.int p1), .val (.int (p1 &&& (7 : Int32))), .val (.ref w_TBH), .val (.int (1 : Int32)), .unset] [(.int (1 : Int32))])) _
    refine XS.istore X3.here hx rfl (hb hby at_25) rfl (l' := #[.val (.int p1), .val (.int (p1 &&& (7 : Int32))), .val (.ref w_TBH), .val (.int (1 : Int32)), .val (.int (1 : Int32))]) rfl ?_
    show Steps p.tables e below (T3.setTop (mkF m 27 #[.val (.int p1), .val (.int (p1 &&& (7 : Int32))), .val (.ref w_TBH), .val (.int (1 : Int32)), .val (.int (1 : Int32))] [])) _
    refine XS.iloadN X3.here hx rfl (hb hby at_27) rfl ?_
    show Steps p.tables e below (T3.setTop (mkF m 28 #[.val (.int p1), .val (.int (p1 &&& (7 : Int32))), .val (.ref w_TBH), .val (.int (1 : Int32)), .val (.int (1 : Int32))] [(.int (1 : Int32))])) _
    refine XS.iload X3.here hx rfl (hb hby at_28) rfl ?_
    show Steps p.tables e below (T3.setTop (mkF m 30 #[.val (.int p1), .val (.int (p1 &&& (7 : Int32))), .val (.ref w_TBH), .val (.int (1 : Int32)), .val (.int (1 : Int32))] [(.int (1 : Int32)), (.int (1 : Int32))])) _
    refine XS.icmpYes X3.here hx rfl (pc0 := 30) (pc' := 35) rfl (hb hby at_30) rfl (teq hk30).1 (by decide) (by decide) ?_
    show Steps p.tables e below (T3.setTop (mkF m 35 #[.val (.int p1), .val (.int (p1 &&& (7 : Int32))), .val (.ref w_TBH), .val (.int (1 : Int32)), .val (.int (1 : Int32))] [])) _
    refine XS.iloadN X3.here hx rfl (hb hby at_35) rfl ?_
    show Steps p.tables e below (T3.setTop (mkF m 36 #[.val (.int p1), .val (.int (p1 &&& (7 : Int32))), .val (.ref w_TBH), .val (.int (1 : Int32)), .val (.int (1 : Int32))] [(.int (1 : Int32))])) _
    refine XS.ifNo X3.here hx rfl (hb hby at_36) rfl ((if0 _ _).trans (feq hk36).1) ?_
    show Steps p.tables e below (T3.setTop (mkF m 39 #[.val (.int p1), .val (.int (p1 &&& (7 : Int32))), .val (.ref w_TBH), .val (.int (1 : Int32)), .val (.int (1 : Int32))] [])) _
    refine XS.aloadN X3.here hx rfl (hb hby at_39) rfl rfl ?_
    show Steps p.tables e below (T3.setTop (mkF m 40 #[.val (.int p1), .val (.int (p1 &&& (7 : Int32))), .val (.ref w_TBH), .val (.int (1 : Int32)), .val (.int (1 : Int32))] [(.ref w_TBH)])) _
    refine st4.trans ?_
    show Steps p.tables e below (T4.setTop (mkF m 43 #[.val (.int p1), .val (.int (p1 &&& (7 : Int32))), .val (.ref w_TBH), .val (.int (1 : Int32)), .val (.int (1 : Int32))] [(.int (0 : Int32))])) _
    refine XS.ifYes X4.here hx rfl (pc0 := 43) (pc' := 48) rfl (hb hby at_43) rfl ((if0 _ _).trans (teq hk43).1) (by decide) (by decide) ?_
    show Steps p.tables e below (T4.setTop (mkF m 48 #[.val (.int p1), .val (.int (p1 &&& (7 : Int32))), .val (.ref w_TBH), .val (.int (1 : Int32)), .val (.int (1 : Int32))] [])) _
    refine XS.aloadN X4.here hx rfl (hb hby at_48) rfl rfl ?_
    show Steps p.tables e below (T4.setTop (mkF m 49 #[.val (.int p1), .val (.int (p1 &&& (7 : Int32))), .val (.ref w_TBH), .val (.int (1 : Int32)), .val (.int (1 : Int32))] [(.ref w_TBH)])) _
    refine st5.trans ?_
    show Steps p.tables e below (T5.setTop (mkF m 52 #[.val (.int p1), .val (.int (p1 &&& (7 : Int32))), .val (.ref w_TBH), .val (.int (1 : Int32)), .val (.int (1 : Int32))] [(.int (0 : Int32))])) _
    refine XS.ifYes X5.here hx rfl (pc0 := 52) (pc' := 61) rfl (hb hby at_52) rfl ((if0 _ _).trans (teq hk52).1) (by decide) (by decide) ?_
    show Steps p.tables e below (T5.setTop (mkF m 61 #[.val (.int p1), .val (.int (p1 &&& (7 : Int32))), .val (.ref w_TBH), .val (.int (1 : Int32)), .val (.int (1 : Int32))] [])) _
    refine XS.aloadN X5.here hx rfl (hb hby at_61) rfl rfl ?_
    show Steps p.tables e below (T5.setTop (mkF m 62 #[.val (.int p1), .val (.int (p1 &&& (7 : Int32))), .val (.ref w_TBH), .val (.int (1 : Int32)), .val (.int (1 : Int32))] [(.ref w_TBH)])) _
    refine st6.trans ?_
    show Steps p.tables e below (T6.setTop (mkF m 65 #[.val (.int p1), .val (.int (p1 &&& (7 : Int32))), .val (.ref w_TBH), .val (.int (1 : Int32)), .val (.int (1 : Int32))] [(.int (1 : Int32))])) _
    refine XS.ifNo X6.here hx rfl (hb hby at_65) rfl ((if0 _ _).trans (feq hk65).1) ?_
    show Steps p.tables e below (T6.setTop (mkF m 68 #[.val (.int p1), .val (.int (p1 &&& (7 : Int32))), .val (.ref w_TBH), .val (.int (1 : Int32)), .val (.int (1 : Int32))] [])) _
    refine XS.iloadN X6.here hx rfl (hb hby at_68) rfl ?_
    show Steps p.tables e below (T6.setTop (mkF m 69 #[.val (.int p1), .val (.int (p1 &&& (7 : Int32))), .val (.ref w_TBH), .val (.int (1 : Int32)), .val (.int (1 : Int32))] [(.int (1 : Int32))])) _
    refine XS.ifYes X6.here hx rfl (pc0 := 69) (pc' := 74) rfl (hb hby at_69) rfl ((if0 _ _).trans (feq hk69).2) (by decide) (by decide) ?_
    show Steps p.tables e below (T6.setTop (mkF m 74 #[.val (.int p1), .val (.int (p1 &&& (7 : Int32))), .val (.ref w_TBH), .val (.int (1 : Int32)), .val (.int (1 : Int32))] [])) _
    refine XS.iconst X6.here hx rfl (hb hby at_74) ?_
    show Steps p.tables e below (T6.setTop (mkF m 75 #[.val (.int p1), .val (.int (p1 &&& (7 : Int32))), .val (.ref w_TBH), .val (.int (1 : Int32)), .val (.int (1 : Int32))] [(.int (1 : Int32))])) _
    exact retN X6 hx (t := .boolean) Bd.returns (by simp) (hb hby at_75) hr
  · show Q0 Z p1 h0 n0 _ T6.heap _
    exact ⟨rfl, N6⟩
set_option maxRecDepth 65536 in
set_option maxHeartbeats 40000000 in
theorem rm0_TBSTARH (l : Launch) (Z : State) (a0 : Array Value) (hw : ∀ d ∈ tables_1, d.before a0 Z = true) (ws : List Jvm.Cond) (p1 : Int32) (w_BG : Addr) (w_BES : Addr) (w_BEP : Addr) (w_SSP : Addr) (w_TBS : Addr) (w_TBSTAR : Addr) (w_TBH : Addr) (w_TBSTARH : Addr) (h0 : Heap) (n0 : Nat) (Z0 : n0 ≤ h0.size) (S_BG : Sta Z h0 "com/example/barts/barts/Server" "BG" "Lcom/example/barts/barts/Server;" (.ref w_BG)) (E_BG : Exa Z h0 w_BG "com/example/barts/barts/Server") (S_BES : Sta Z h0 "com/example/barts/barts/Server" "BES" "Lcom/example/barts/barts/Server;" (.ref w_BES)) (E_BES : Exa Z h0 w_BES "com/example/barts/barts/Server") (S_BEP : Sta Z h0 "com/example/barts/barts/Server" "BEP" "Lcom/example/barts/barts/Server;" (.ref w_BEP)) (E_BEP : Exa Z h0 w_BEP "com/example/barts/barts/Server") (S_SSP : Sta Z h0 "com/example/barts/barts/Server" "SSP" "Lcom/example/barts/barts/Server;" (.ref w_SSP)) (E_SSP : Exa Z h0 w_SSP "com/example/barts/barts/Server") (S_TBS : Sta Z h0 "com/example/barts/barts/Server" "TBS" "Lcom/example/barts/barts/Server;" (.ref w_TBS)) (E_TBS : Exa Z h0 w_TBS "com/example/barts/barts/Server") (S_TBSTAR : Sta Z h0 "com/example/barts/barts/Server" "TBSTAR" "Lcom/example/barts/barts/Server;" (.ref w_TBSTAR)) (E_TBSTAR : Exa Z h0 w_TBSTAR "com/example/barts/barts/Server") (S_TBH : Sta Z h0 "com/example/barts/barts/Server" "TBH" "Lcom/example/barts/barts/Server;" (.ref w_TBH)) (E_TBH : Exa Z h0 w_TBH "com/example/barts/barts/Server") (S_TBSTARH : Sta Z h0 "com/example/barts/barts/Server" "TBSTARH" "Lcom/example/barts/barts/Server;" (.ref w_TBSTARH)) (E_TBSTARH : Exa Z h0 w_TBSTARH "com/example/barts/barts/Server") (F_TBS_background : Fld Z h0 w_TBS "com/example/barts/barts/Server" "background" "Z" (.int (0 : Int32))) (F_TBSTAR_background : Fld Z h0 w_TBSTAR "com/example/barts/barts/Server" "background" "Z" (.int (0 : Int32))) (F_TBH_background : Fld Z h0 w_TBH "com/example/barts/barts/Server" "background" "Z" (.int (0 : Int32))) (F_TBSTARH_background : Fld Z h0 w_TBSTARH "com/example/barts/barts/Server" "background" "Z" (.int (0 : Int32))) (ne_BG_TBS : ¬ w_BG = w_TBS) (ne_BG_TBSTAR : ¬ w_BG = w_TBSTAR) (ne_BG_TBH : ¬ w_BG = w_TBH) (ne_BG_TBSTARH : ¬ w_BG = w_TBSTARH) (ne_BES_TBS : ¬ w_BES = w_TBS) (ne_BES_TBSTAR : ¬ w_BES = w_TBSTAR) (ne_BES_TBH : ¬ w_BES = w_TBH) (ne_BES_TBSTARH : ¬ w_BES = w_TBSTARH) (ne_BEP_TBS : ¬ w_BEP = w_TBS) (ne_BEP_TBSTAR : ¬ w_BEP = w_TBSTAR) (ne_BEP_TBH : ¬ w_BEP = w_TBH) (ne_BEP_TBSTARH : ¬ w_BEP = w_TBSTARH) (ne_SSP_TBS : ¬ w_SSP = w_TBS) (ne_SSP_TBSTAR : ¬ w_SSP = w_TBSTAR) (ne_SSP_TBH : ¬ w_SSP = w_TBH) (ne_SSP_TBSTARH : ¬ w_SSP = w_TBSTARH) (ne_TBS_TBSTAR : ¬ w_TBS = w_TBSTAR) (ne_TBS_TBH : ¬ w_TBS = w_TBH) (ne_TBS_TBSTARH : ¬ w_TBS = w_TBSTARH) (ne_TBSTAR_TBS : ¬ w_TBSTAR = w_TBS) (ne_TBSTAR_TBH : ¬ w_TBSTAR = w_TBH) (ne_TBSTAR_TBSTARH : ¬ w_TBSTAR = w_TBSTARH) (ne_TBH_TBS : ¬ w_TBH = w_TBS) (ne_TBH_TBSTAR : ¬ w_TBH = w_TBSTAR) (ne_TBH_TBSTARH : ¬ w_TBH = w_TBSTARH) (ne_TBSTARH_TBS : ¬ w_TBSTARH = w_TBS) (ne_TBSTARH_TBSTAR : ¬ w_TBSTARH = w_TBSTAR) (ne_TBSTARH_TBH : ¬ w_TBSTARH = w_TBH) (hp0 : ¬ (p1 &&& (7 : Int32)) = (0 : Int32)) (hp1 : ¬ (p1 &&& (7 : Int32)) = (1 : Int32)) (hp2 : ¬ (p1 &&& (7 : Int32)) = (2 : Int32)) (hp3 : ¬ (p1 &&& (7 : Int32)) = (3 : Int32)) (hp4 : ¬ (p1 &&& (7 : Int32)) = (4 : Int32)) (hp5 : ¬ (p1 &&& (7 : Int32)) = (5 : Int32)) (hp6 : ¬ (p1 &&& (7 : Int32)) = (6 : Int32)) (hc17 : ¬ ((p1 &&& (7 : Int32)) < (4 : Int32))) (hk30 : (1 : Int32) = (1 : Int32)) (hk36 : ¬ ((1 : Int32) = (0 : Int32))) (hk43 : (0 : Int32) = (0 : Int32)) (hk52 : ¬ ((1 : Int32) = (0 : Int32))) (hk56 : ¬ ((1 : Int32) = (0 : Int32))) (hk65 : ¬ ((1 : Int32) = (0 : Int32))) (hk69 : ¬ ((1 : Int32) = (0 : Int32))) :
    MetFree l x (head1 (Jvm.Cond.code x code maxLocals ret :: ws) room_1) (fun a U => a = #[(.int p1)] ∧ Z.Warmed39 U.vm ∧ U.heap = h0) (fun _ _ _ _ _ => True) (fun _ U o U' => ∃ v L, o = .returned v ∧ Q0 Z p1 h0 n0 v U'.heap L ∧ FrameEnd U o U' L room_1.cells room_1.slots) := by
  refine MetFree.of_bodySF (plainFor_of_name pn_0) hisR ?_
  intro p e s m args below meth c s₁ Bd hml0 hP hK
  obtain ⟨rfl, hZ, hh⟩ := hP
  have hx := Bd.exec
  have hby := Bd.bytes
  have hml : c.maxLocals = 5 := hml0
  have hown : s.vm.findClass "com/example/barts/barts/ServerAssignsDeadlinesPinLaw" = some m.cls := findClass_of_methodNamed Bd.named
  have hnm := (name_of_methodNamed Bd.named Bd.method).1
  have X0 : Stand p l e room_1 s m #[(.int p1)] below meth c s₁ [] 0 0 := Stand.of_body Bd
  have e0 : s₁.heap = h0 := by rw [← hh, Bd.state]; rfl
  have N0 := Fr.nil n0
  have pre0 : ∀ t, Steps p.tables e below (s₁.setTop (mkF m 0 #[.val (.int p1), .unset, .unset, .unset, .unset] [])) t → Steps p.tables e below (s₁.setTop (entryFrame m #[(.int p1)] maxLocals)) t := fun t k => castTop (ef_0 m p1) k
  obtain ⟨_, _, ⟨T2, L2, k2, n2⟩, -, X2, ⟨Lc2, hQ2, l2, y2, z2⟩, st2⟩ := Jvm.LawKit.callS X0 hx (y := (⟨"com/example/barts/barts/ServerAssignsDeadlinesPinLaw", "pick", "(I)Lcom/example/barts/barts/Server;"⟩ : MethodName)) hown (mvT hZ (hw _ (List.mem_of_getElem? (i := 0) rfl))) (mvT hZ (hw _ (List.mem_of_getElem? (i := 1) rfl))) (mvT hZ (hw _ (List.mem_of_getElem? (i := 2) rfl))) (mvT hZ (hw _ (List.mem_of_getElem? (i := 3) rfl))) (by decide) (backOf (W := 0) (rm1_k7 l Z a0 hw [] (p1 &&& (7 : Int32)) w_TBSTARH h0 n0 Z0 S_TBSTARH hp0 hp1 hp2 hp3 hp4 hp5 hp6) hZ (hw _ (List.mem_of_getElem? (i := 3) rfl)) (hw _ (List.mem_of_getElem? (i := 2) rfl)) (by decide) (by decide)) (g := (mkF m 6 #[.val (.int p1), .val (.int (p1 &&& (7 : Int32))), .unset, .unset, .unset] [(.int (p1 &&& (7 : Int32)))])) rfl (by rw [hml]; rfl) (argsL := [(.int (p1 &&& (7 : Int32)))]) (rest := []) (lenOf pd_0_0 rfl) rfl (by show 2 * 0 + _ ≤ _; exact Nat.le_of_eq rfl) (hb hby at_6) (fun _ _ => ⟨rfl, e0, (by decide : 0 + 0 ≤ _), (by decide : 0 + 0 ≤ _)⟩)
  dsimp only [Pt.U, Pt.locs, Pt.cells, Pt.slots] at X2 l2 y2 z2 st2 hQ2
  subst l2 y2 z2
  obtain ⟨rfl, N2q, e2q⟩ := hQ2
  have N2 := Fr.app N0 N2q
  have Z2 : n0 ≤ T2.heap.size := by rw [e2q]; exact Z0
  have Kq2 : Keep h0 T2.heap [] := by rw [e2q]; exact Keep.refl _ _
  have eh2 : T2.heap = h0 := e2q
  obtain ⟨cq3, kq3, q3a, q3b, q3c⟩ := isOf hZ rfl (E_TBSTARH.keep Kq2)
  obtain ⟨_, _, ⟨T3, L3, k3, n3⟩, -, X3, ⟨Lc3, hQ3, l3, y3, z3⟩, st3⟩ := X2.virtualBack hx (y := (⟨"com/example/barts/barts/Server", "assignsDeadlines", "()Z"⟩ : MethodName)) (z := (⟨"com/example/barts/barts/Server", "assignsDeadlines", "()Z"⟩ : MethodName)) hown (mvT hZ (hw _ (List.mem_of_getElem? (i := 7) rfl))) (mvT hZ (hw _ (List.mem_of_getElem? (i := 8) rfl))) (notFace_of_selects (args := #[]) (mvT hZ (hw _ (List.mem_of_getElem? (i := 10) rfl)))) (mvT hZ (hw _ (List.mem_of_getElem? (i := 10) rfl))) (mvT hZ (hw _ (List.mem_of_getElem? (i := 9) rfl))) (by decide) (backOf (W := 0) (rm2_ffff l Z a0 hw [] w_TBSTARH w_TBS w_TBSTAR w_TBH w_TBSTARH T2.heap n0 Z2 (by rw [eh2]; exact S_TBS) (by rw [eh2]; exact S_TBSTAR) (by rw [eh2]; exact S_TBH) (by rw [eh2]; exact S_TBSTARH) ne_TBSTARH_TBS ne_TBSTARH_TBSTAR ne_TBSTARH_TBH rfl) hZ (hw _ (List.mem_of_getElem? (i := 11) rfl)) (hw _ (List.mem_of_getElem? (i := 5) rfl)) (by decide) (by decide)) q3a q3c (g := (mkF m 11 #[.val (.int p1), .val (.int (p1 &&& (7 : Int32))), .val (.ref w_TBSTARH), .unset, .unset] [(.ref w_TBSTARH)])) rfl (by rw [hml]; rfl) (Steps.refl _) (argsL := []) (rest := []) (lenOf pd_0_1 rfl) rfl (by show 2 * 0 + _ ≤ _; exact Nat.le_of_eq rfl) (hb hby at_11) (fun _ _ => ⟨rfl, rfl, (by decide : 0 + 0 ≤ _), (by decide : 0 + 0 ≤ _)⟩)
  dsimp only [Pt.U, Pt.locs, Pt.cells, Pt.slots] at X3 l3 y3 z3 st3 hQ3
  subst l3 y3 z3
  obtain ⟨rfl, N3q, e3q⟩ := hQ3
  have N3 := Fr.app N2 N3q
  have Z3 : n0 ≤ T3.heap.size := by rw [e3q]; exact Z2
  have Kq3 : Keep T2.heap T3.heap [] := by rw [e3q]; exact Keep.refl _ _
  have eh3 : T3.heap = h0 := e3q.trans eh2
  obtain ⟨cq4, kq4, q4a, q4b, q4c⟩ := isOf hZ rfl ((E_TBSTARH.keep Kq2).keep Kq3)
  obtain ⟨_, _, ⟨T4, L4, k4, n4⟩, -, X4, ⟨Lc4, hQ4, l4, y4, z4⟩, st4⟩ := X3.virtualBack hx (y := (⟨"com/example/barts/barts/Server", "isBackground", "()Z"⟩ : MethodName)) (z := (⟨"com/example/barts/barts/Server", "isBackground", "()Z"⟩ : MethodName)) hown (mvT hZ (hw _ (List.mem_of_getElem? (i := 33) rfl))) (mvT hZ (hw _ (List.mem_of_getElem? (i := 34) rfl))) (notFace_of_selects (args := #[]) (mvT hZ (hw _ (List.mem_of_getElem? (i := 36) rfl)))) (mvT hZ (hw _ (List.mem_of_getElem? (i := 36) rfl))) (mvT hZ (hw _ (List.mem_of_getElem? (i := 35) rfl))) (by decide) (backOf (W := 0) (rm5_x l Z a0 hw [] w_TBSTARH  T3.heap n0 Z3 (by rw [eh3]; exact F_TBSTARH_background)) hZ (hw _ (List.mem_of_getElem? (i := 37) rfl)) (hw _ (List.mem_of_getElem? (i := 5) rfl)) (by decide) (by decide)) q4a q4c (g := (mkF m 40 #[.val (.int p1), .val (.int (p1 &&& (7 : Int32))), .val (.ref w_TBSTARH), .val (.int (1 : Int32)), .val (.int (1 : Int32))] [(.ref w_TBSTARH)])) rfl (by rw [hml]; rfl) (Steps.refl _) (argsL := []) (rest := []) (lenOf pd_0_1 rfl) rfl (by show 2 * 0 + _ ≤ _; exact Nat.le_of_eq rfl) (hb hby at_40) (fun _ _ => ⟨rfl, rfl, (by decide : 0 + 0 ≤ _), (by decide : 0 + 0 ≤ _)⟩)
  dsimp only [Pt.U, Pt.locs, Pt.cells, Pt.slots] at X4 l4 y4 z4 st4 hQ4
  subst l4 y4 z4
  obtain ⟨rfl, N4q, e4q⟩ := hQ4
  have N4 := Fr.app N3 N4q
  have Z4 : n0 ≤ T4.heap.size := by rw [e4q]; exact Z3
  have Kq4 : Keep T3.heap T4.heap [] := by rw [e4q]; exact Keep.refl _ _
  have eh4 : T4.heap = h0 := e4q.trans eh3
  obtain ⟨cq5, kq5, q5a, q5b, q5c⟩ := isOf hZ rfl (((E_TBSTARH.keep Kq2).keep Kq3).keep Kq4)
  obtain ⟨_, _, ⟨T5, L5, k5, n5⟩, -, X5, ⟨Lc5, hQ5, l5, y5, z5⟩, st5⟩ := X4.virtualBack hx (y := (⟨"com/example/barts/barts/Server", "shortensDeadlines", "()Z"⟩ : MethodName)) (z := (⟨"com/example/barts/barts/Server", "shortensDeadlines", "()Z"⟩ : MethodName)) hown (mvT hZ (hw _ (List.mem_of_getElem? (i := 20) rfl))) (mvT hZ (hw _ (List.mem_of_getElem? (i := 21) rfl))) (notFace_of_selects (args := #[]) (mvT hZ (hw _ (List.mem_of_getElem? (i := 23) rfl)))) (mvT hZ (hw _ (List.mem_of_getElem? (i := 23) rfl))) (mvT hZ (hw _ (List.mem_of_getElem? (i := 22) rfl))) (by decide) (backOf (W := 0) (rm3_ff l Z a0 hw [] w_TBSTARH w_TBSTAR w_TBSTARH T4.heap n0 Z4 (by rw [eh4]; exact S_TBSTAR) (by rw [eh4]; exact S_TBSTARH) ne_TBSTARH_TBSTAR rfl) hZ (hw _ (List.mem_of_getElem? (i := 24) rfl)) (hw _ (List.mem_of_getElem? (i := 5) rfl)) (by decide) (by decide)) q5a q5c (g := (mkF m 49 #[.val (.int p1), .val (.int (p1 &&& (7 : Int32))), .val (.ref w_TBSTARH), .val (.int (1 : Int32)), .val (.int (1 : Int32))] [(.ref w_TBSTARH)])) rfl (by rw [hml]; rfl) (Steps.refl _) (argsL := []) (rest := []) (lenOf pd_0_1 rfl) rfl (by show 2 * 0 + _ ≤ _; exact Nat.le_of_eq rfl) (hb hby at_49) (fun _ _ => ⟨rfl, rfl, (by decide : 0 + 0 ≤ _), (by decide : 0 + 0 ≤ _)⟩)
  dsimp only [Pt.U, Pt.locs, Pt.cells, Pt.slots] at X5 l5 y5 z5 st5 hQ5
  subst l5 y5 z5
  obtain ⟨rfl, N5q, e5q⟩ := hQ5
  have N5 := Fr.app N4 N5q
  have Z5 : n0 ≤ T5.heap.size := by rw [e5q]; exact Z4
  have Kq5 : Keep T4.heap T5.heap [] := by rw [e5q]; exact Keep.refl _ _
  have eh5 : T5.heap = h0 := e5q.trans eh4
  obtain ⟨cq6, kq6, q6a, q6b, q6c⟩ := isOf hZ rfl ((((E_TBSTARH.keep Kq2).keep Kq3).keep Kq4).keep Kq5)
  obtain ⟨_, _, ⟨T6, L6, k6, n6⟩, -, X6, ⟨Lc6, hQ6, l6, y6, z6⟩, st6⟩ := X5.virtualBack hx (y := (⟨"com/example/barts/barts/Server", "weighsEnergy", "()Z"⟩ : MethodName)) (z := (⟨"com/example/barts/barts/Server", "weighsEnergy", "()Z"⟩ : MethodName)) hown (mvT hZ (hw _ (List.mem_of_getElem? (i := 25) rfl))) (mvT hZ (hw _ (List.mem_of_getElem? (i := 26) rfl))) (notFace_of_selects (args := #[]) (mvT hZ (hw _ (List.mem_of_getElem? (i := 28) rfl)))) (mvT hZ (hw _ (List.mem_of_getElem? (i := 28) rfl))) (mvT hZ (hw _ (List.mem_of_getElem? (i := 27) rfl))) (by decide) (backOf (W := 0) (rm4_ff l Z a0 hw [] w_TBSTARH w_TBH w_TBSTARH T5.heap n0 Z5 (by rw [eh5]; exact S_TBH) (by rw [eh5]; exact S_TBSTARH) ne_TBSTARH_TBH rfl) hZ (hw _ (List.mem_of_getElem? (i := 29) rfl)) (hw _ (List.mem_of_getElem? (i := 5) rfl)) (by decide) (by decide)) q6a q6c (g := (mkF m 62 #[.val (.int p1), .val (.int (p1 &&& (7 : Int32))), .val (.ref w_TBSTARH), .val (.int (1 : Int32)), .val (.int (1 : Int32))] [(.ref w_TBSTARH)])) rfl (by rw [hml]; rfl) (Steps.refl _) (argsL := []) (rest := []) (lenOf pd_0_1 rfl) rfl (by show 2 * 0 + _ ≤ _; exact Nat.le_of_eq rfl) (hb hby at_62) (fun _ _ => ⟨rfl, rfl, (by decide : 0 + 0 ≤ _), (by decide : 0 + 0 ≤ _)⟩)
  dsimp only [Pt.U, Pt.locs, Pt.cells, Pt.slots] at X6 l6 y6 z6 st6 hQ6
  subst l6 y6 z6
  obtain ⟨rfl, N6q, e6q⟩ := hQ6
  have N6 := Fr.app N5 N6q
  have Z6 : n0 ≤ T6.heap.size := by rw [e6q]; exact Z5
  have Kq6 : Keep T5.heap T6.heap [] := by rw [e6q]; exact Keep.refl _ _
  have eh6 : T6.heap = h0 := e6q.trans eh5
  obtain ⟨fs, hr, hrun, hended, hW, hsame⟩ := X6.leave (v := some (.int (1 : Int32))) (fun h => by rw [Bd.returns] at h; cases h) Bd.notSynchronized
  refine ⟨_, _, pre0 _ ?_, hrun, hended, _, _, rfl, ?_, ⟨_, rfl⟩, hW, hsame.mono (by decide) (by decide)⟩
  · show Steps p.tables e below (s₁.setTop (mkF m 0 #[.val (.int p1), .unset, .unset, .unset, .unset] [])) _
    refine XS.iloadN X0.here hx rfl (hb hby at_0) rfl ?_
    show Steps p.tables e below (s₁.setTop (mkF m 1 #[.val (.int p1), .unset, .unset, .unset, .unset] [(.int p1)])) _
    refine XS.bipush X0.here hx rfl (hb hby at_1) ?_
    show Steps p.tables e below (s₁.setTop (mkF m 3 #[.val (.int p1), .unset, .unset, .unset, .unset] [(.int (7 : Int32)), (.int p1)])) _
    refine XS.iand X0.here hx rfl (hb hby at_3) rfl ?_
    show Steps p.tables e below (s₁.setTop (mkF m 4 #[.val (.int p1), .unset, .unset, .unset, .unset] [(.int (p1 &&& (7 : Int32)))])) _
    refine XS.istoreN X0.here hx rfl (hb hby at_4) rfl (l' := #[.val (.int p1), .val (.int (p1 &&& (7 : Int32))), .unset, .unset, .unset]) rfl ?_
    show Steps p.tables e below (s₁.setTop (mkF m 5 #[.val (.int p1), .val (.int (p1 &&& (7 : Int32))), .unset, .unset, .unset] [])) _
    refine XS.iloadN X0.here hx rfl (hb hby at_5) rfl ?_
    show Steps p.tables e below (s₁.setTop (mkF m 6 #[.val (.int p1), .val (.int (p1 &&& (7 : Int32))), .unset, .unset, .unset] [(.int (p1 &&& (7 : Int32)))])) _
    refine st2 _ ?_
    show Steps p.tables e below (T2.setTop (mkF m 9 #[.val (.int p1), .val (.int (p1 &&& (7 : Int32))), .unset, .unset, .unset] [(.ref w_TBSTARH)])) _
    refine XS.astoreN X2.here hx rfl (hb hby at_9) rfl rfl (l' := #[.val (.int p1), .val (.int (p1 &&& (7 : Int32))), .val (.ref w_TBSTARH), .unset, .unset]) rfl ?_
    show Steps p.tables e below (T2.setTop (mkF m 10 #[.val (.int p1), .val (.int (p1 &&& (7 : Int32))), .val (.ref w_TBSTARH), .unset, .unset] [])) _
    refine XS.aloadN X2.here hx rfl (hb hby at_10) rfl rfl ?_
    show Steps p.tables e below (T2.setTop (mkF m 11 #[.val (.int p1), .val (.int (p1 &&& (7 : Int32))), .val (.ref w_TBSTARH), .unset, .unset] [(.ref w_TBSTARH)])) _
    refine st3.trans ?_
    show Steps p.tables e below (T3.setTop (mkF m 14 #[.val (.int p1), .val (.int (p1 &&& (7 : Int32))), .val (.ref w_TBSTARH), .unset, .unset] [(.int (1 : Int32))])) _
    refine XS.istoreN X3.here hx rfl (hb hby at_14) rfl (l' := #[.val (.int p1), .val (.int (p1 &&& (7 : Int32))), .val (.ref w_TBSTARH), .val (.int (1 : Int32)), .unset]) rfl ?_
    show Steps p.tables e below (T3.setTop (mkF m 15 #[.val (.int p1), .val (.int (p1 &&& (7 : Int32))), .val (.ref w_TBSTARH), .val (.int (1 : Int32)), .unset] [])) _
    refine XS.iloadN X3.here hx rfl (hb hby at_15) rfl ?_
    show Steps p.tables e below (T3.setTop (mkF m 16 #[.val (.int p1), .val (.int (p1 &&& (7 : Int32))), .val (.ref w_TBSTARH), .val (.int (1 : Int32)), .unset] [(.int (p1 &&& (7 : Int32)))])) _
    refine XS.iconst X3.here hx rfl (hb hby at_16) ?_
    show Steps p.tables e below (T3.setTop (mkF m 17 #[.val (.int p1), .val (.int (p1 &&& (7 : Int32))), .val (.ref w_TBSTARH), .val (.int (1 : Int32)), .unset] [(.int (4 : Int32)), (.int (p1 &&& (7 : Int32)))])) _
    refine XS.icmpNo X3.here hx rfl (hb hby at_17) rfl (flt hc17).1 ?_
    show Steps p.tables e below (T3.setTop (mkF m 20 #[.val (.int p1), .val (.int (p1 &&& (7 : Int32))), .val (.ref w_TBSTARH), .val (.int (1 : Int32)), .unset] [])) _
    refine XS.iconst X3.here hx rfl (hb hby at_20) ?_
    show Steps p.tables e below (T3.setTop (mkF m 21 #[.val (.int p1), .val (.int (p1 &&& (7 : Int32))), .val (.ref w_TBSTARH), .val (.int (1 : Int32)), .unset] [(.int (1 : Int32))])) _
    refine XS.goto X3.here hx rfl (pc0 := 21) (pc' := 25) rfl (hb hby at_21) (by decide) (by decide) ?_
    show Steps p.tables e below (T3.setTop (mkF m 25 #[.val (.int p1), .val (.int (p1 &&& (7 : Int32))), .val (.ref w_TBSTARH), .val (.int (1 : Int32)), .unset] [(.int (1 : Int32))])) _
    refine XS.istore X3.here hx rfl (hb hby at_25) rfl (l' := #[.val (.int p1), .val (.int (p1 &&& (7 : Int32))), .val (.ref w_TBSTARH), .val (.int (1 : Int32)), .val (.int (1 : Int32))]) rfl ?_
    show Steps p.tables e below (T3.setTop (mkF m 27 #[.val (.int p1), .val (.int (p1 &&& (7 : Int32))), .val (.ref w_TBSTARH), .val (.int (1 : Int32)), .val (.int (1 : Int32))] [])) _
    refine XS.iloadN X3.here hx rfl (hb hby at_27) rfl ?_
    show Steps p.tables e below (T3.setTop (mkF m 28 #[.val (.int p1), .val (.int (p1 &&& (7 : Int32))), .val (.ref w_TBSTARH), .val (.int (1 : Int32)), .val (.int (1 : Int32))] [(.int (1 : Int32))])) _
    refine XS.iload X3.here hx rfl (hb hby at_28) rfl ?_
    show Steps p.tables e below (T3.setTop (mkF m 30 #[.val (.int p1), .val (.int (p1 &&& (7 : Int32))), .val (.ref w_TBSTARH), .val (.int (1 : Int32)), .val (.int (1 : Int32))] [(.int (1 : Int32)), (.int (1 : Int32))])) _
    refine XS.icmpYes X3.here hx rfl (pc0 := 30) (pc' := 35) rfl (hb hby at_30) rfl (teq hk30).1 (by decide) (by decide) ?_
    show Steps p.tables e below (T3.setTop (mkF m 35 #[.val (.int p1), .val (.int (p1 &&& (7 : Int32))), .val (.ref w_TBSTARH), .val (.int (1 : Int32)), .val (.int (1 : Int32))] [])) _
    refine XS.iloadN X3.here hx rfl (hb hby at_35) rfl ?_
    show Steps p.tables e below (T3.setTop (mkF m 36 #[.val (.int p1), .val (.int (p1 &&& (7 : Int32))), .val (.ref w_TBSTARH), .val (.int (1 : Int32)), .val (.int (1 : Int32))] [(.int (1 : Int32))])) _
    refine XS.ifNo X3.here hx rfl (hb hby at_36) rfl ((if0 _ _).trans (feq hk36).1) ?_
    show Steps p.tables e below (T3.setTop (mkF m 39 #[.val (.int p1), .val (.int (p1 &&& (7 : Int32))), .val (.ref w_TBSTARH), .val (.int (1 : Int32)), .val (.int (1 : Int32))] [])) _
    refine XS.aloadN X3.here hx rfl (hb hby at_39) rfl rfl ?_
    show Steps p.tables e below (T3.setTop (mkF m 40 #[.val (.int p1), .val (.int (p1 &&& (7 : Int32))), .val (.ref w_TBSTARH), .val (.int (1 : Int32)), .val (.int (1 : Int32))] [(.ref w_TBSTARH)])) _
    refine st4.trans ?_
    show Steps p.tables e below (T4.setTop (mkF m 43 #[.val (.int p1), .val (.int (p1 &&& (7 : Int32))), .val (.ref w_TBSTARH), .val (.int (1 : Int32)), .val (.int (1 : Int32))] [(.int (0 : Int32))])) _
    refine XS.ifYes X4.here hx rfl (pc0 := 43) (pc' := 48) rfl (hb hby at_43) rfl ((if0 _ _).trans (teq hk43).1) (by decide) (by decide) ?_
    show Steps p.tables e below (T4.setTop (mkF m 48 #[.val (.int p1), .val (.int (p1 &&& (7 : Int32))), .val (.ref w_TBSTARH), .val (.int (1 : Int32)), .val (.int (1 : Int32))] [])) _
    refine XS.aloadN X4.here hx rfl (hb hby at_48) rfl rfl ?_
    show Steps p.tables e below (T4.setTop (mkF m 49 #[.val (.int p1), .val (.int (p1 &&& (7 : Int32))), .val (.ref w_TBSTARH), .val (.int (1 : Int32)), .val (.int (1 : Int32))] [(.ref w_TBSTARH)])) _
    refine st5.trans ?_
    show Steps p.tables e below (T5.setTop (mkF m 52 #[.val (.int p1), .val (.int (p1 &&& (7 : Int32))), .val (.ref w_TBSTARH), .val (.int (1 : Int32)), .val (.int (1 : Int32))] [(.int (1 : Int32))])) _
    refine XS.ifNo X5.here hx rfl (hb hby at_52) rfl ((if0 _ _).trans (feq hk52).1) ?_
    show Steps p.tables e below (T5.setTop (mkF m 55 #[.val (.int p1), .val (.int (p1 &&& (7 : Int32))), .val (.ref w_TBSTARH), .val (.int (1 : Int32)), .val (.int (1 : Int32))] [])) _
    refine XS.iloadN X5.here hx rfl (hb hby at_55) rfl ?_
    show Steps p.tables e below (T5.setTop (mkF m 56 #[.val (.int p1), .val (.int (p1 &&& (7 : Int32))), .val (.ref w_TBSTARH), .val (.int (1 : Int32)), .val (.int (1 : Int32))] [(.int (1 : Int32))])) _
    refine XS.ifYes X5.here hx rfl (pc0 := 56) (pc' := 61) rfl (hb hby at_56) rfl ((if0 _ _).trans (feq hk56).2) (by decide) (by decide) ?_
    show Steps p.tables e below (T5.setTop (mkF m 61 #[.val (.int p1), .val (.int (p1 &&& (7 : Int32))), .val (.ref w_TBSTARH), .val (.int (1 : Int32)), .val (.int (1 : Int32))] [])) _
    refine XS.aloadN X5.here hx rfl (hb hby at_61) rfl rfl ?_
    show Steps p.tables e below (T5.setTop (mkF m 62 #[.val (.int p1), .val (.int (p1 &&& (7 : Int32))), .val (.ref w_TBSTARH), .val (.int (1 : Int32)), .val (.int (1 : Int32))] [(.ref w_TBSTARH)])) _
    refine st6.trans ?_
    show Steps p.tables e below (T6.setTop (mkF m 65 #[.val (.int p1), .val (.int (p1 &&& (7 : Int32))), .val (.ref w_TBSTARH), .val (.int (1 : Int32)), .val (.int (1 : Int32))] [(.int (1 : Int32))])) _
    refine XS.ifNo X6.here hx rfl (hb hby at_65) rfl ((if0 _ _).trans (feq hk65).1) ?_
    show Steps p.tables e below (T6.setTop (mkF m 68 #[.val (.int p1), .val (.int (p1 &&& (7 : Int32))), .val (.ref w_TBSTARH), .val (.int (1 : Int32)), .val (.int (1 : Int32))] [])) _
    refine XS.iloadN X6.here hx rfl (hb hby at_68) rfl ?_
    show Steps p.tables e below (T6.setTop (mkF m 69 #[.val (.int p1), .val (.int (p1 &&& (7 : Int32))), .val (.ref w_TBSTARH), .val (.int (1 : Int32)), .val (.int (1 : Int32))] [(.int (1 : Int32))])) _
    refine XS.ifYes X6.here hx rfl (pc0 := 69) (pc' := 74) rfl (hb hby at_69) rfl ((if0 _ _).trans (feq hk69).2) (by decide) (by decide) ?_
    show Steps p.tables e below (T6.setTop (mkF m 74 #[.val (.int p1), .val (.int (p1 &&& (7 : Int32))), .val (.ref w_TBSTARH), .val (.int (1 : Int32)), .val (.int (1 : Int32))] [])) _
    refine XS.iconst X6.here hx rfl (hb hby at_74) ?_
    show Steps p.tables e below (T6.setTop (mkF m 75 #[.val (.int p1), .val (.int (p1 &&& (7 : Int32))), .val (.ref w_TBSTARH), .val (.int (1 : Int32)), .val (.int (1 : Int32))] [(.int (1 : Int32))])) _
    exact retN X6 hx (t := .boolean) Bd.returns (by simp) (hb hby at_75) hr
  · show Q0 Z p1 h0 n0 _ T6.heap _
    exact ⟨rfl, N6⟩
theorem own_m7 (p : Int32) (h0 : ¬ (p &&& (7 : Int32)) = 0) (h1 : ¬ (p &&& (7 : Int32)) = 1) (h2 : ¬ (p &&& (7 : Int32)) = 2) (h3 : ¬ (p &&& (7 : Int32)) = 3) : ¬ (p &&& (7 : Int32)) < (4 : Int32) := by
  have e : (p &&& 7).toInt = p.toInt % 2 ^ 3 := Jvm.Kit.i32_mask p 7 (k := 3) (by decide) (by decide)
  have k0 : (0 : Int32).toInt = 0 := by decide
  have k1 : (1 : Int32).toInt = 1 := by decide
  have k2 : (2 : Int32).toInt = 2 := by decide
  have k3 : (3 : Int32).toInt = 3 := by decide
  have k4 : (4 : Int32).toInt = 4 := by decide
  simp only [Int32.lt_iff_toInt_lt, ← Int32.toInt_inj, k0, k1, k2, k3, k4] at *
  omega
theorem rm0 (l : Launch) (Z : State) (a0 : Array Value) (hw : ∀ d ∈ tables_1, d.before a0 Z = true) (ws : List Jvm.Cond) (p1 : Int32) (w_BG : Addr) (w_BES : Addr) (w_BEP : Addr) (w_SSP : Addr) (w_TBS : Addr) (w_TBSTAR : Addr) (w_TBH : Addr) (w_TBSTARH : Addr) (h0 : Heap) (n0 : Nat) (Z0 : n0 ≤ h0.size) (S_BG : Sta Z h0 "com/example/barts/barts/Server" "BG" "Lcom/example/barts/barts/Server;" (.ref w_BG)) (E_BG : Exa Z h0 w_BG "com/example/barts/barts/Server") (S_BES : Sta Z h0 "com/example/barts/barts/Server" "BES" "Lcom/example/barts/barts/Server;" (.ref w_BES)) (E_BES : Exa Z h0 w_BES "com/example/barts/barts/Server") (S_BEP : Sta Z h0 "com/example/barts/barts/Server" "BEP" "Lcom/example/barts/barts/Server;" (.ref w_BEP)) (E_BEP : Exa Z h0 w_BEP "com/example/barts/barts/Server") (S_SSP : Sta Z h0 "com/example/barts/barts/Server" "SSP" "Lcom/example/barts/barts/Server;" (.ref w_SSP)) (E_SSP : Exa Z h0 w_SSP "com/example/barts/barts/Server") (S_TBS : Sta Z h0 "com/example/barts/barts/Server" "TBS" "Lcom/example/barts/barts/Server;" (.ref w_TBS)) (E_TBS : Exa Z h0 w_TBS "com/example/barts/barts/Server") (S_TBSTAR : Sta Z h0 "com/example/barts/barts/Server" "TBSTAR" "Lcom/example/barts/barts/Server;" (.ref w_TBSTAR)) (E_TBSTAR : Exa Z h0 w_TBSTAR "com/example/barts/barts/Server") (S_TBH : Sta Z h0 "com/example/barts/barts/Server" "TBH" "Lcom/example/barts/barts/Server;" (.ref w_TBH)) (E_TBH : Exa Z h0 w_TBH "com/example/barts/barts/Server") (S_TBSTARH : Sta Z h0 "com/example/barts/barts/Server" "TBSTARH" "Lcom/example/barts/barts/Server;" (.ref w_TBSTARH)) (E_TBSTARH : Exa Z h0 w_TBSTARH "com/example/barts/barts/Server") (F_TBS_background : Fld Z h0 w_TBS "com/example/barts/barts/Server" "background" "Z" (.int (0 : Int32))) (F_TBSTAR_background : Fld Z h0 w_TBSTAR "com/example/barts/barts/Server" "background" "Z" (.int (0 : Int32))) (F_TBH_background : Fld Z h0 w_TBH "com/example/barts/barts/Server" "background" "Z" (.int (0 : Int32))) (F_TBSTARH_background : Fld Z h0 w_TBSTARH "com/example/barts/barts/Server" "background" "Z" (.int (0 : Int32))) (ne_BG_TBS : ¬ w_BG = w_TBS) (ne_BG_TBSTAR : ¬ w_BG = w_TBSTAR) (ne_BG_TBH : ¬ w_BG = w_TBH) (ne_BG_TBSTARH : ¬ w_BG = w_TBSTARH) (ne_BES_TBS : ¬ w_BES = w_TBS) (ne_BES_TBSTAR : ¬ w_BES = w_TBSTAR) (ne_BES_TBH : ¬ w_BES = w_TBH) (ne_BES_TBSTARH : ¬ w_BES = w_TBSTARH) (ne_BEP_TBS : ¬ w_BEP = w_TBS) (ne_BEP_TBSTAR : ¬ w_BEP = w_TBSTAR) (ne_BEP_TBH : ¬ w_BEP = w_TBH) (ne_BEP_TBSTARH : ¬ w_BEP = w_TBSTARH) (ne_SSP_TBS : ¬ w_SSP = w_TBS) (ne_SSP_TBSTAR : ¬ w_SSP = w_TBSTAR) (ne_SSP_TBH : ¬ w_SSP = w_TBH) (ne_SSP_TBSTARH : ¬ w_SSP = w_TBSTARH) (ne_TBS_TBSTAR : ¬ w_TBS = w_TBSTAR) (ne_TBS_TBH : ¬ w_TBS = w_TBH) (ne_TBS_TBSTARH : ¬ w_TBS = w_TBSTARH) (ne_TBSTAR_TBS : ¬ w_TBSTAR = w_TBS) (ne_TBSTAR_TBH : ¬ w_TBSTAR = w_TBH) (ne_TBSTAR_TBSTARH : ¬ w_TBSTAR = w_TBSTARH) (ne_TBH_TBS : ¬ w_TBH = w_TBS) (ne_TBH_TBSTAR : ¬ w_TBH = w_TBSTAR) (ne_TBH_TBSTARH : ¬ w_TBH = w_TBSTARH) (ne_TBSTARH_TBS : ¬ w_TBSTARH = w_TBS) (ne_TBSTARH_TBSTAR : ¬ w_TBSTARH = w_TBSTAR) (ne_TBSTARH_TBH : ¬ w_TBSTARH = w_TBH) :
    MetFree l x (head1 (Jvm.Cond.code x code maxLocals ret :: ws) room_1) (fun a U => a = #[(.int p1)] ∧ Z.Warmed39 U.vm ∧ U.heap = h0) (fun _ _ _ _ _ => True) (fun _ U o U' => ∃ v L, o = .returned v ∧ Q0 Z p1 h0 n0 v U'.heap L ∧ FrameEnd U o U' L room_1.cells room_1.slots) := by
  by_cases b0 : (p1 &&& (7 : Int32)) = (0 : Int32)
  · exact rm0_BG l Z a0 hw ws p1 w_BG w_BES w_BEP w_SSP w_TBS w_TBSTAR w_TBH w_TBSTARH h0 n0 Z0 S_BG E_BG S_BES E_BES S_BEP E_BEP S_SSP E_SSP S_TBS E_TBS S_TBSTAR E_TBSTAR S_TBH E_TBH S_TBSTARH E_TBSTARH F_TBS_background F_TBSTAR_background F_TBH_background F_TBSTARH_background ne_BG_TBS ne_BG_TBSTAR ne_BG_TBH ne_BG_TBSTARH ne_BES_TBS ne_BES_TBSTAR ne_BES_TBH ne_BES_TBSTARH ne_BEP_TBS ne_BEP_TBSTAR ne_BEP_TBH ne_BEP_TBSTARH ne_SSP_TBS ne_SSP_TBSTAR ne_SSP_TBH ne_SSP_TBSTARH ne_TBS_TBSTAR ne_TBS_TBH ne_TBS_TBSTARH ne_TBSTAR_TBS ne_TBSTAR_TBH ne_TBSTAR_TBSTARH ne_TBH_TBS ne_TBH_TBSTAR ne_TBH_TBSTARH ne_TBSTARH_TBS ne_TBSTARH_TBSTAR ne_TBSTARH_TBH  b0 (hc17 := by rw [b0]; decide) (hk30 := by decide) (hk36 := by decide) (hk52 := by decide) (hk65 := by decide)
  have na0 := b0
  by_cases b1 : (p1 &&& (7 : Int32)) = (1 : Int32)
  · exact rm0_BES l Z a0 hw ws p1 w_BG w_BES w_BEP w_SSP w_TBS w_TBSTAR w_TBH w_TBSTARH h0 n0 Z0 S_BG E_BG S_BES E_BES S_BEP E_BEP S_SSP E_SSP S_TBS E_TBS S_TBSTAR E_TBSTAR S_TBH E_TBH S_TBSTARH E_TBSTARH F_TBS_background F_TBSTAR_background F_TBH_background F_TBSTARH_background ne_BG_TBS ne_BG_TBSTAR ne_BG_TBH ne_BG_TBSTARH ne_BES_TBS ne_BES_TBSTAR ne_BES_TBH ne_BES_TBSTARH ne_BEP_TBS ne_BEP_TBSTAR ne_BEP_TBH ne_BEP_TBSTARH ne_SSP_TBS ne_SSP_TBSTAR ne_SSP_TBH ne_SSP_TBSTARH ne_TBS_TBSTAR ne_TBS_TBH ne_TBS_TBSTARH ne_TBSTAR_TBS ne_TBSTAR_TBH ne_TBSTAR_TBSTARH ne_TBH_TBS ne_TBH_TBSTAR ne_TBH_TBSTARH ne_TBSTARH_TBS ne_TBSTARH_TBSTAR ne_TBSTARH_TBH na0 b1 (hc17 := by rw [b1]; decide) (hk30 := by decide) (hk36 := by decide) (hk52 := by decide) (hk65 := by decide)
  have na1 := b1
  by_cases b2 : (p1 &&& (7 : Int32)) = (2 : Int32)
  · exact rm0_BEP l Z a0 hw ws p1 w_BG w_BES w_BEP w_SSP w_TBS w_TBSTAR w_TBH w_TBSTARH h0 n0 Z0 S_BG E_BG S_BES E_BES S_BEP E_BEP S_SSP E_SSP S_TBS E_TBS S_TBSTAR E_TBSTAR S_TBH E_TBH S_TBSTARH E_TBSTARH F_TBS_background F_TBSTAR_background F_TBH_background F_TBSTARH_background ne_BG_TBS ne_BG_TBSTAR ne_BG_TBH ne_BG_TBSTARH ne_BES_TBS ne_BES_TBSTAR ne_BES_TBH ne_BES_TBSTARH ne_BEP_TBS ne_BEP_TBSTAR ne_BEP_TBH ne_BEP_TBSTARH ne_SSP_TBS ne_SSP_TBSTAR ne_SSP_TBH ne_SSP_TBSTARH ne_TBS_TBSTAR ne_TBS_TBH ne_TBS_TBSTARH ne_TBSTAR_TBS ne_TBSTAR_TBH ne_TBSTAR_TBSTARH ne_TBH_TBS ne_TBH_TBSTAR ne_TBH_TBSTARH ne_TBSTARH_TBS ne_TBSTARH_TBSTAR ne_TBSTARH_TBH na0 na1 b2 (hc17 := by rw [b2]; decide) (hk30 := by decide) (hk36 := by decide) (hk52 := by decide) (hk65 := by decide)
  have na2 := b2
  by_cases b3 : (p1 &&& (7 : Int32)) = (3 : Int32)
  · exact rm0_SSP l Z a0 hw ws p1 w_BG w_BES w_BEP w_SSP w_TBS w_TBSTAR w_TBH w_TBSTARH h0 n0 Z0 S_BG E_BG S_BES E_BES S_BEP E_BEP S_SSP E_SSP S_TBS E_TBS S_TBSTAR E_TBSTAR S_TBH E_TBH S_TBSTARH E_TBSTARH F_TBS_background F_TBSTAR_background F_TBH_background F_TBSTARH_background ne_BG_TBS ne_BG_TBSTAR ne_BG_TBH ne_BG_TBSTARH ne_BES_TBS ne_BES_TBSTAR ne_BES_TBH ne_BES_TBSTARH ne_BEP_TBS ne_BEP_TBSTAR ne_BEP_TBH ne_BEP_TBSTARH ne_SSP_TBS ne_SSP_TBSTAR ne_SSP_TBH ne_SSP_TBSTARH ne_TBS_TBSTAR ne_TBS_TBH ne_TBS_TBSTARH ne_TBSTAR_TBS ne_TBSTAR_TBH ne_TBSTAR_TBSTARH ne_TBH_TBS ne_TBH_TBSTAR ne_TBH_TBSTARH ne_TBSTARH_TBS ne_TBSTARH_TBSTAR ne_TBSTARH_TBH na0 na1 na2 b3 (hc17 := by rw [b3]; decide) (hk30 := by decide) (hk36 := by decide) (hk52 := by decide) (hk65 := by decide)
  have na3 := b3
  by_cases b4 : (p1 &&& (7 : Int32)) = (4 : Int32)
  · exact rm0_TBS l Z a0 hw ws p1 w_BG w_BES w_BEP w_SSP w_TBS w_TBSTAR w_TBH w_TBSTARH h0 n0 Z0 S_BG E_BG S_BES E_BES S_BEP E_BEP S_SSP E_SSP S_TBS E_TBS S_TBSTAR E_TBSTAR S_TBH E_TBH S_TBSTARH E_TBSTARH F_TBS_background F_TBSTAR_background F_TBH_background F_TBSTARH_background ne_BG_TBS ne_BG_TBSTAR ne_BG_TBH ne_BG_TBSTARH ne_BES_TBS ne_BES_TBSTAR ne_BES_TBH ne_BES_TBSTARH ne_BEP_TBS ne_BEP_TBSTAR ne_BEP_TBH ne_BEP_TBSTARH ne_SSP_TBS ne_SSP_TBSTAR ne_SSP_TBH ne_SSP_TBSTARH ne_TBS_TBSTAR ne_TBS_TBH ne_TBS_TBSTARH ne_TBSTAR_TBS ne_TBSTAR_TBH ne_TBSTAR_TBSTARH ne_TBH_TBS ne_TBH_TBSTAR ne_TBH_TBSTARH ne_TBSTARH_TBS ne_TBSTARH_TBSTAR ne_TBSTARH_TBH na0 na1 na2 na3 b4 (hc17 := by rw [b4]; decide) (hk30 := by decide) (hk36 := by decide) (hk43 := by decide) (hk52 := by decide) (hk65 := by decide)
  have na4 := b4
  by_cases b5 : (p1 &&& (7 : Int32)) = (5 : Int32)
  · exact rm0_TBSTAR l Z a0 hw ws p1 w_BG w_BES w_BEP w_SSP w_TBS w_TBSTAR w_TBH w_TBSTARH h0 n0 Z0 S_BG E_BG S_BES E_BES S_BEP E_BEP S_SSP E_SSP S_TBS E_TBS S_TBSTAR E_TBSTAR S_TBH E_TBH S_TBSTARH E_TBSTARH F_TBS_background F_TBSTAR_background F_TBH_background F_TBSTARH_background ne_BG_TBS ne_BG_TBSTAR ne_BG_TBH ne_BG_TBSTARH ne_BES_TBS ne_BES_TBSTAR ne_BES_TBH ne_BES_TBSTARH ne_BEP_TBS ne_BEP_TBSTAR ne_BEP_TBH ne_BEP_TBSTARH ne_SSP_TBS ne_SSP_TBSTAR ne_SSP_TBH ne_SSP_TBSTARH ne_TBS_TBSTAR ne_TBS_TBH ne_TBS_TBSTARH ne_TBSTAR_TBS ne_TBSTAR_TBH ne_TBSTAR_TBSTARH ne_TBH_TBS ne_TBH_TBSTAR ne_TBH_TBSTARH ne_TBSTARH_TBS ne_TBSTARH_TBSTAR ne_TBSTARH_TBH na0 na1 na2 na3 na4 b5 (hc17 := by rw [b5]; decide) (hk30 := by decide) (hk36 := by decide) (hk43 := by decide) (hk52 := by decide) (hk56 := by decide) (hk65 := by decide)
  have na5 := b5
  by_cases b6 : (p1 &&& (7 : Int32)) = (6 : Int32)
  · exact rm0_TBH l Z a0 hw ws p1 w_BG w_BES w_BEP w_SSP w_TBS w_TBSTAR w_TBH w_TBSTARH h0 n0 Z0 S_BG E_BG S_BES E_BES S_BEP E_BEP S_SSP E_SSP S_TBS E_TBS S_TBSTAR E_TBSTAR S_TBH E_TBH S_TBSTARH E_TBSTARH F_TBS_background F_TBSTAR_background F_TBH_background F_TBSTARH_background ne_BG_TBS ne_BG_TBSTAR ne_BG_TBH ne_BG_TBSTARH ne_BES_TBS ne_BES_TBSTAR ne_BES_TBH ne_BES_TBSTARH ne_BEP_TBS ne_BEP_TBSTAR ne_BEP_TBH ne_BEP_TBSTARH ne_SSP_TBS ne_SSP_TBSTAR ne_SSP_TBH ne_SSP_TBSTARH ne_TBS_TBSTAR ne_TBS_TBH ne_TBS_TBSTARH ne_TBSTAR_TBS ne_TBSTAR_TBH ne_TBSTAR_TBSTARH ne_TBH_TBS ne_TBH_TBSTAR ne_TBH_TBSTARH ne_TBSTARH_TBS ne_TBSTARH_TBSTAR ne_TBSTARH_TBH na0 na1 na2 na3 na4 na5 b6 (hc17 := by rw [b6]; decide) (hk30 := by decide) (hk36 := by decide) (hk43 := by decide) (hk52 := by decide) (hk65 := by decide) (hk69 := by decide)
  have na6 := b6
  exact rm0_TBSTARH l Z a0 hw ws p1 w_BG w_BES w_BEP w_SSP w_TBS w_TBSTAR w_TBH w_TBSTARH h0 n0 Z0 S_BG E_BG S_BES E_BES S_BEP E_BEP S_SSP E_SSP S_TBS E_TBS S_TBSTAR E_TBSTAR S_TBH E_TBH S_TBSTARH E_TBSTARH F_TBS_background F_TBSTAR_background F_TBH_background F_TBSTARH_background ne_BG_TBS ne_BG_TBSTAR ne_BG_TBH ne_BG_TBSTARH ne_BES_TBS ne_BES_TBSTAR ne_BES_TBH ne_BES_TBSTARH ne_BEP_TBS ne_BEP_TBSTAR ne_BEP_TBH ne_BEP_TBSTARH ne_SSP_TBS ne_SSP_TBSTAR ne_SSP_TBH ne_SSP_TBSTARH ne_TBS_TBSTAR ne_TBS_TBH ne_TBS_TBSTARH ne_TBSTAR_TBS ne_TBSTAR_TBH ne_TBSTAR_TBSTARH ne_TBH_TBS ne_TBH_TBSTAR ne_TBH_TBSTARH ne_TBSTARH_TBS ne_TBSTARH_TBSTAR ne_TBSTARH_TBH na0 na1 na2 na3 na4 na5 na6 (hc17 := own_m7 _ na0 na1 na2 na3) (hk30 := by decide) (hk36 := by decide) (hk43 := by decide) (hk52 := by decide) (hk56 := by decide) (hk65 := by decide) (hk69 := by decide)
theorem own_fe {Z : State} {args : Array Value} {t : Term} {a : Addr} {C n d : String} {k : Int32} (ev : t.eval args Z none [] Z = some (.ref a)) (h : (Jvm.Cond.eq (.field t C n d) (.int k)).value args Z none Z [] = some true) : Fld Z Z.heap a C n d (.int k) := by
  obtain ⟨x, y, ex, ey, kin, -⟩ := cmp_v (Or.inl h)
  have hy : y = .int k := by rw [Term.int_eval] at ey; exact (Option.some.inj ey).symm
  subst hy
  have hx : x = .int k := by
    cases x <;> simp [Kin, Value.isRef] at kin
    rename_i z
    simp only [Cond.value, ex, ey] at h
    have q : z = k := by simpa using h
    rw [q]
  rw [fld_at ev, hx] at ex
  exact Fld.start ex
theorem own_fr {Z : State} {args : Array Value} {t u : Term} {a b : Addr} {C n d : String} (ev : t.eval args Z none [] Z = some (.ref a)) (eu : u.eval args Z none [] Z = some (.ref b)) (h : (Jvm.Cond.eq (.field t C n d) u).value args Z none Z [] = some true) : Fld Z Z.heap a C n d (.ref b) := by
  obtain ⟨x, y, ex, ey, kin, -⟩ := cmp_v (Or.inl h)
  have hy : y = .ref b := by rw [eu] at ey; exact (Option.some.inj ey).symm
  subst hy
  have hx : x = .ref b := by
    have q := gotT (eq_R ex eu (by cases x <;> simp [Kin, Value.isRef] at kin ⊢) rfl) h
    exact q
  rw [fld_at ev, hx] at ex
  exact Fld.start ex
set_option maxRecDepth 65536 in
set_option maxHeartbeats 40000000 in
theorem comes_1 {Post : Tables → Env → Array Value → State → Outcome → State → Prop} (hpost : ∀ tb e args s v u, (limb_1_1.after args s (.returned v) u = true ∧ limb_1_2.after args s (.returned v) u = true ∧ True) → FrameEnd s (.returned v) u (Jvm.fieldLocs frame_1_writes args s ++ Jvm.arrayLocs frame_1_arrays args s ++ Jvm.staticLocs frame_1_statics s) 0 0 → Post tb e args s (.returned v) u) :
    ArmFor flags0 classFile x code maxLocals ret World_1 tables_1 room_1 Calls_1 rest_1 Pre_1 Post := by
  intro l hfl _ _ p e ha hc hk s m args below hf hA hF happ hP
  obtain ⟨hcalls, hrest, hpre⟩ := hP
  obtain ⟨-, -, -, hnamed, -, -, -, hat⟩ := (Spec.applies_iff hf).mp happ
  obtain ⟨hg, hn⟩ := and_e (Cond.before_iff.mp (show (Jvm.Cond.and given_1 narrow_1).before args s = true from hpre))
  obtain ⟨g7, g8⟩ := and_e hg
  obtain ⟨w0, rfl⟩ : ∃ w0 : Value, args = #[w0] := by
    have hs : args.size = 1 := by simpa [Cond.value, given_1] using g7
    obtain ⟨L⟩ := args
    match L, hs with
    | [w0], _ => exact ⟨w0, rfl⟩
  have hw := fun d (hd : d ∈ tables_1) => atoms_spec (ws := Jvm.Cond.code x code maxLocals ret :: tables_1) hat d (List.mem_cons_of_mem _ hd)
  have hfit : Fit s := fun {y c} hc i hi => by
    obtain ⟨ha, rfl⟩ := Array.getElem?_eq_some_iff.mp hc
    have q := List.all_eq_true.mp ((Array.all_eq_true_iff_forall_mem.mp hF) _ (Array.getElem_mem ha)) i (List.mem_range.mpr hi)
    simpa [Array.getElem?_eq_getElem hi] using q
  obtain ⟨i0, ei0⟩ := is_v g8
  obtain rfl : w0 = (.int i0) := Option.some.inj ei0
  obtain ⟨c_0, r_0⟩ := and_e hn
  obtain ⟨c_1, r_1⟩ := and_e r_0
  obtain ⟨c_2, r_2⟩ := and_e r_1
  obtain ⟨c_3, r_3⟩ := and_e r_2
  obtain ⟨c_4, r_4⟩ := and_e r_3
  obtain ⟨c_5, r_5⟩ := and_e r_4
  obtain ⟨c_6, r_6⟩ := and_e r_5
  obtain ⟨c_7, r_7⟩ := and_e r_6
  obtain ⟨c_8, r_8⟩ := and_e r_7
  obtain ⟨c_9, r_9⟩ := and_e r_8
  obtain ⟨c_10, r_10⟩ := and_e r_9
  obtain ⟨c_11, r_11⟩ := and_e r_10
  obtain ⟨c_12, r_12⟩ := and_e r_11
  obtain ⟨c_13, r_13⟩ := and_e r_12
  obtain ⟨c_14, r_14⟩ := and_e r_13
  obtain ⟨c_15, r_15⟩ := and_e r_14
  obtain ⟨c_16, r_16⟩ := and_e r_15
  obtain ⟨c_17, r_17⟩ := and_e r_16
  obtain ⟨c_18, r_18⟩ := and_e r_17
  obtain ⟨c_19, r_19⟩ := and_e r_18
  obtain ⟨c_20, r_20⟩ := and_e r_19
  obtain ⟨c_21, r_21⟩ := and_e r_20
  obtain ⟨c_22, r_22⟩ := and_e r_21
  obtain ⟨w_BG, v_BG⟩ := exa_v c_0
  have S_BG := Sta.start v_BG (Or.inr ⟨(hw _ (List.mem_of_getElem? (i := 5) rfl)), (hw _ (List.mem_of_getElem? (i := 6) rfl))⟩)
  have E_BG := Exa.start v_BG c_0
  obtain ⟨w_TBS, v_TBS⟩ := exa_v c_1
  have S_TBS := Sta.start v_TBS (Or.inr ⟨(hw _ (List.mem_of_getElem? (i := 5) rfl)), (hw _ (List.mem_of_getElem? (i := 13) rfl))⟩)
  have E_TBS := Exa.start v_TBS c_1
  obtain ⟨w_TBSTAR, v_TBSTAR⟩ := exa_v c_4
  have S_TBSTAR := Sta.start v_TBSTAR (Or.inr ⟨(hw _ (List.mem_of_getElem? (i := 5) rfl)), (hw _ (List.mem_of_getElem? (i := 15) rfl))⟩)
  have E_TBSTAR := Exa.start v_TBSTAR c_4
  obtain ⟨w_TBH, v_TBH⟩ := exa_v c_6
  have S_TBH := Sta.start v_TBH (Or.inr ⟨(hw _ (List.mem_of_getElem? (i := 5) rfl)), (hw _ (List.mem_of_getElem? (i := 17) rfl))⟩)
  have E_TBH := Exa.start v_TBH c_6
  obtain ⟨w_TBSTARH, v_TBSTARH⟩ := exa_v c_8
  have S_TBSTARH := Sta.start v_TBSTARH (Or.inr ⟨(hw _ (List.mem_of_getElem? (i := 5) rfl)), (hw _ (List.mem_of_getElem? (i := 19) rfl))⟩)
  have E_TBSTARH := Exa.start v_TBSTARH c_8
  obtain ⟨w_SSP, v_SSP⟩ := exa_v c_10
  have S_SSP := Sta.start v_SSP (Or.inr ⟨(hw _ (List.mem_of_getElem? (i := 5) rfl)), (hw _ (List.mem_of_getElem? (i := 31) rfl))⟩)
  have E_SSP := Exa.start v_SSP c_10
  obtain ⟨w_BEP, v_BEP⟩ := exa_v c_14
  have S_BEP := Sta.start v_BEP (Or.inr ⟨(hw _ (List.mem_of_getElem? (i := 5) rfl)), (hw _ (List.mem_of_getElem? (i := 42) rfl))⟩)
  have E_BEP := Exa.start v_BEP c_14
  obtain ⟨w_BES, v_BES⟩ := exa_v c_16
  have S_BES := Sta.start v_BES (Or.inr ⟨(hw _ (List.mem_of_getElem? (i := 5) rfl)), (hw _ (List.mem_of_getElem? (i := 44) rfl))⟩)
  have E_BES := Exa.start v_BES c_16
  have F_BG_ordinal := own_fe v_BG c_2
  have F_TBS_ordinal := own_fe v_TBS c_3
  have F_TBSTAR_ordinal := own_fe v_TBSTAR c_5
  have F_TBH_ordinal := own_fe v_TBH c_7
  have F_TBSTARH_ordinal := own_fe v_TBSTARH c_9
  have F_SSP_ordinal := own_fe v_SSP c_11
  have F_TBH_background := own_fe v_TBH c_12
  have F_TBSTARH_background := own_fe v_TBSTARH c_13
  have F_BEP_ordinal := own_fe v_BEP c_15
  have F_BES_ordinal := own_fe v_BES c_17
  have F_TBS_background := own_fe v_TBS c_18
  have F_TBSTAR_background := own_fe v_TBSTAR c_19
  have F_BG_background := own_fe v_BG c_20
  have F_SSP_background := own_fe v_SSP c_21
  have F_BEP_background := own_fe v_BEP c_22
  have F_BES_background := own_fe v_BES r_22
  obtain ⟨n, o, h1, h2, h3, _, L, rfl, ⟨rfl, N⟩, hq⟩ := rm0 l s _ hw tables_1 i0 w_BG w_BES w_BEP w_SSP w_TBS w_TBSTAR w_TBH w_TBSTARH s.heap s.heap.size (Nat.le_refl _) S_BG E_BG S_BES E_BES S_BEP E_BEP S_SSP E_SSP S_TBS E_TBS S_TBSTAR E_TBSTAR S_TBH E_TBH S_TBSTARH E_TBSTARH F_TBS_background F_TBSTAR_background F_TBH_background F_TBSTARH_background (F_BG_ordinal.ne F_TBS_ordinal (by simp)) (F_BG_ordinal.ne F_TBSTAR_ordinal (by simp)) (F_BG_ordinal.ne F_TBH_ordinal (by simp)) (F_BG_ordinal.ne F_TBSTARH_ordinal (by simp)) (F_BES_ordinal.ne F_TBS_ordinal (by simp)) (F_BES_ordinal.ne F_TBSTAR_ordinal (by simp)) (F_BES_ordinal.ne F_TBH_ordinal (by simp)) (F_BES_ordinal.ne F_TBSTARH_ordinal (by simp)) (F_BEP_ordinal.ne F_TBS_ordinal (by simp)) (F_BEP_ordinal.ne F_TBSTAR_ordinal (by simp)) (F_BEP_ordinal.ne F_TBH_ordinal (by simp)) (F_BEP_ordinal.ne F_TBSTARH_ordinal (by simp)) (F_SSP_ordinal.ne F_TBS_ordinal (by simp)) (F_SSP_ordinal.ne F_TBSTAR_ordinal (by simp)) (F_SSP_ordinal.ne F_TBH_ordinal (by simp)) (F_SSP_ordinal.ne F_TBSTARH_ordinal (by simp)) (F_TBS_ordinal.ne F_TBSTAR_ordinal (by simp)) (F_TBS_ordinal.ne F_TBH_ordinal (by simp)) (F_TBS_ordinal.ne F_TBSTARH_ordinal (by simp)) (F_TBSTAR_ordinal.ne F_TBS_ordinal (by simp)) (F_TBSTAR_ordinal.ne F_TBH_ordinal (by simp)) (F_TBSTAR_ordinal.ne F_TBSTARH_ordinal (by simp)) (F_TBH_ordinal.ne F_TBS_ordinal (by simp)) (F_TBH_ordinal.ne F_TBSTAR_ordinal (by simp)) (F_TBH_ordinal.ne F_TBSTARH_ordinal (by simp)) (F_TBSTARH_ordinal.ne F_TBS_ordinal (by simp)) (F_TBSTARH_ordinal.ne F_TBSTAR_ordinal (by simp)) (F_TBSTARH_ordinal.ne F_TBH_ordinal (by simp)) p e ha hc hk s m _ below hf ((Spec.applies_iff_loose hf).mp happ).1 ⟨rfl, State.Warmed39.refl s, rfl⟩ trivial
  refine ⟨n, _, h1, h2, h3, hpost _ _ _ _ _ _ ⟨Cond.after_iff.mpr rfl, Cond.after_iff.mpr (eq_i res_at (Term.int_eval (1)) rfl), trivial⟩ ⟨hq.1, hq.2.1, (hq.2.2.sift fun y hy => Or.inr (N y hy)).mono (by decide) (by decide)⟩⟩
theorem main_1_1 : Claimed_1_1 := comes_1 fun _ _ _ _ _ _ h hF => ⟨h.1, hF⟩
theorem main_1_2 : Claimed_1_2 := comes_1 fun _ _ _ _ _ _ h hF => ⟨h.2.1, hF⟩

end Jvm.Pilot.@@N@@
namespace Jvm.Pilot.@@N@@
open Jvm Jvm.ClassFile Sem Op Lib Jvm.Free Jvm.Stand Jvm.Pilot.@@N@@.Jvm.D
/-! MADE BY PROGRAM (witnessworld.py) out of the Statement's table words and the real class files: 13 classes; the members and pool entries that the words name. The judged class is class 1, her method 2. -/
namespace start1
open Jvm.ClassFile
def u (s : String) : CpInfo := .utf8 (stringToUtf16 s)
/-- a pool by its gaps: so many unusable entries, then the entry; so many at the end -/
def gap : Nat → List CpInfo → List CpInfo
  | 0, r => r
  | n + 1, r => .unusable :: gap n r
def poolList (es : List (Nat × CpInfo)) (last : Nat) : List CpInfo := es.foldr (fun e r => gap e.1 (e.2 :: r)) (gap last [])
def pool (es : List (Nat × CpInfo)) (last : Nat) : Array CpInfo := ⟨poolList es last⟩
def fileOf (pool : Array CpInfo) (this : Nat) (attrs : Array Attribute := #[]) (ms : Array MethodInfo := #[]) (fl : Nat := 33) (sup : Nat := 0) (ifs : Array Nat := #[]) (fds : Array FieldInfo := #[]) : ClassFile where
  minorVersion := 0
  majorVersion := 65
  constantPool := pool
  accessFlags := fl
  thisClass := this
  superClass := sup
  interfaces := ifs
  fields := fds
  methods := ms
  attributes := attrs
def plain (name : String) (sup : Option ClassId) : Class where
  name := name
  kind := .ordinary
  loader := none
  accessFlags := 33
  super := sup
  interfaces := #[]
  cf := none
  fields := #[]
  methods := #[]
  instanceTypes := #[]
  staticTypes := #[]
  resolved := #[]
  callSites := []
  init := .initialized
  statics := none
  mirror := none

def pool0 : Array CpInfo := pool [(5, u "<init>"), (0, u "()V"), (1, .class_ 10), (1, u "java/lang/Object")] 113

def k0m0 : Method := { name := "<init>", desc := "()V", sig := { parameters := [], returnType := none }, accessFlags := 1, code := none }
/-- java/lang/Object -/
def k0 : Class := { plain "java/lang/Object" none with
  accessFlags := 33
  interfaces := #[]
  cf := some (fileOf pool0 8 #[] #[{ accessFlags := 1, nameIndex := 5, descriptorIndex := 6, attributes := #[] }] 33 0 #[] #[])
  fields := #[]
  methods := #[k0m0]
  instanceTypes := #[]
  staticTypes := #[]
  resolved := Array.replicate 124 none
  statics := none }

def pool1 : Array CpInfo := pool [(2, .class_ 4), (1, u "java/lang/Object"), (0, u "<init>"), (0, u "()V"), (0, .fieldref 8 9), (0, .class_ 10), (0, .nameAndType 11 12), (0, u "com/example/barts/barts/Server"), (0, u "BG"), (0, u "Lcom/example/barts/barts/Server;"), (0, .fieldref 8 14), (0, .nameAndType 15 12), (0, u "BES"), (0, .fieldref 8 17), (0, .nameAndType 18 12), (0, u "BEP"), (0, .fieldref 8 20), (0, .nameAndType 21 12), (0, u "SSP"), (0, .fieldref 8 23), (0, .nameAndType 24 12), (0, u "TBS"), (0, .fieldref 8 26), (0, .nameAndType 27 12), (0, u "TBSTAR"), (0, .fieldref 8 29), (0, .nameAndType 30 12), (0, u "TBH"), (0, .fieldref 8 32), (0, .nameAndType 33 12), (0, u "TBSTARH"), (0, .methodref 35 36), (0, .class_ 37), (0, .nameAndType 38 39), (0, u "com/example/barts/barts/ServerAssignsDeadlinesPinLaw"), (0, u "pick"), (0, u "(I)Lcom/example/barts/barts/Server;"), (0, .methodref 8 41), (0, .nameAndType 42 43), (0, u "assignsDeadlines"), (0, u "()Z"), (0, .methodref 8 45), (0, .nameAndType 46 43), (0, u "isBackground"), (0, .methodref 8 48), (0, .nameAndType 49 43), (0, u "shortensDeadlines"), (0, .methodref 8 51), (0, .nameAndType 52 43), (0, u "weighsEnergy"), (3, u "law"), (0, u "(I)Z")] 2

def k1m0 : Method := { name := "<init>", desc := "()V", sig := { parameters := [], returnType := none }, accessFlags := 1, code := none }
def k1c1 : Code := { maxStack := 2, maxLocals := 1, code := method_2_code, exceptionTable := #[], attributes := #[] }
def k1m1 : Method := { name := "pick", desc := "(I)Lcom/example/barts/barts/Server;", sig := { parameters := [.int], returnType := some (.object "com/example/barts/barts/Server") }, accessFlags := 10, code := some k1c1 }
def k1c2 : Code := { maxStack := 2, maxLocals := 5, code := code, exceptionTable := #[], attributes := #[] }
def k1m2 : Method := { name := "law", desc := "(I)Z", sig := { parameters := [.int], returnType := some .boolean }, accessFlags := 9, code := some k1c2 }
/-- com/example/barts/barts/ServerAssignsDeadlinesPinLaw -/
def k1 : Class := { plain "com/example/barts/barts/ServerAssignsDeadlinesPinLaw" (some 0) with
  accessFlags := 49
  interfaces := #[]
  cf := some (fileOf pool1 35 #[] #[{ accessFlags := 1, nameIndex := 5, descriptorIndex := 6, attributes := #[] }, { accessFlags := 10, nameIndex := 38, descriptorIndex := 39, attributes := #[] }, { accessFlags := 9, nameIndex := 56, descriptorIndex := 57, attributes := #[] }] 49 2 #[] #[])
  fields := #[]
  methods := #[k1m0, k1m1, k1m2]
  instanceTypes := #[]
  staticTypes := #[]
  resolved := Array.replicate 60 none
  statics := none }

def pool2 : Array CpInfo := pool [(1, .class_ 2), (0, u "java/lang/constant/Constable"), (0, .class_ 4), (0, u "java/lang/Object")] 6

/-- java/lang/constant/Constable -/
def k2 : Class := { plain "java/lang/constant/Constable" (some 0) with
  accessFlags := 1537
  interfaces := #[]
  cf := some (fileOf pool2 1 #[] #[] 1537 3 #[] #[])
  fields := #[]
  methods := #[]
  instanceTypes := #[]
  staticTypes := #[]
  resolved := Array.replicate 11 none
  statics := none }

def pool3 : Array CpInfo := pool [(1, .class_ 2), (0, u "java/lang/Comparable"), (0, .class_ 4), (0, u "java/lang/Object")] 7

/-- java/lang/Comparable -/
def k3 : Class := { plain "java/lang/Comparable" (some 0) with
  accessFlags := 1537
  interfaces := #[]
  cf := some (fileOf pool3 1 #[] #[] 1537 3 #[] #[])
  fields := #[]
  methods := #[]
  instanceTypes := #[]
  staticTypes := #[]
  resolved := Array.replicate 12 none
  statics := none }

def pool4 : Array CpInfo := pool [(1, .class_ 2), (0, u "java/io/Serializable"), (0, .class_ 4), (0, u "java/lang/Object")] 2

/-- java/io/Serializable -/
def k4 : Class := { plain "java/io/Serializable" (some 0) with
  accessFlags := 1537
  interfaces := #[]
  cf := some (fileOf pool4 1 #[] #[] 1537 3 #[] #[])
  fields := #[]
  methods := #[]
  instanceTypes := #[]
  staticTypes := #[]
  resolved := Array.replicate 7 none
  statics := none }

def pool5 : Array CpInfo := pool [(2, .class_ 4), (1, u "java/lang/Enum"), (0, u "name"), (0, u "Ljava/lang/String;"), (2, u "ordinal"), (0, u "I"), (1, .class_ 14), (1, u "java/lang/Object"), (4, u "hash"), (86, .class_ 108), (1, u "java/lang/Enum$EnumDesc"), (2, .class_ 112), (0, u "java/lang/constant/Constable"), (0, .class_ 114), (0, u "java/lang/Comparable"), (0, .class_ 116), (0, u "java/io/Serializable")] 87

/-- java/lang/Enum -/
def k5 : Class := { plain "java/lang/Enum" (some 0) with
  accessFlags := 1057
  interfaces := #[2, 3, 4]
  cf := some (fileOf pool5 2 #[.nestMembers #[106]] #[] 1057 12 #[111, 113, 115] #[{ accessFlags := 18, nameIndex := 5, descriptorIndex := 6, attributes := #[] }, { accessFlags := 18, nameIndex := 9, descriptorIndex := 10, attributes := #[] }, { accessFlags := 2, nameIndex := 19, descriptorIndex := 10, attributes := #[] }])
  fields := #[{ name := "name", type := (.object "java/lang/String"), accessFlags := 18, slot := 0, constantValue := 0 }, { name := "ordinal", type := .int, accessFlags := 18, slot := 1, constantValue := 0 }, { name := "hash", type := .int, accessFlags := 2, slot := 2, constantValue := 0 }]
  methods := #[]
  instanceTypes := #[(.object "java/lang/String"), .int, .int]
  staticTypes := #[]
  resolved := Array.replicate 204 none
  statics := none }

def pool6 : Array CpInfo := pool [(40, .class_ 42), (1, u "com/example/barts/barts/Labelled"), (6, .class_ 50), (0, u "java/lang/Object")] 37

/-- com/example/barts/barts/Labelled -/
def k6 : Class := { plain "com/example/barts/barts/Labelled" (some 0) with
  accessFlags := 1536
  interfaces := #[]
  cf := some (fileOf pool6 40 #[] #[] 1536 49 #[] #[])
  fields := #[]
  methods := #[]
  instanceTypes := #[]
  staticTypes := #[]
  resolved := Array.replicate 88 none
  statics := none }

def pool7 : Array CpInfo := pool [(1, .class_ 2), (0, u "com/example/barts/barts/Server"), (2, u "BG"), (0, u "Lcom/example/barts/barts/Server;"), (2, u "BES"), (2, u "BEP"), (2, u "SSP"), (0, .fieldref 1 17), (0, .nameAndType 18 6), (0, u "TBS"), (0, .fieldref 1 20), (0, .nameAndType 21 6), (0, u "TBSTAR"), (0, .fieldref 1 23), (0, .nameAndType 24 6), (0, u "TBH"), (0, .fieldref 1 26), (0, .nameAndType 27 6), (0, u "TBSTARH"), (2, u "$VALUES"), (0, u "[Lcom/example/barts/barts/Server;"), (6, .class_ 40), (1, u "java/lang/Enum"), (8, u "label"), (0, u "Ljava/lang/String;"), (0, .fieldref 1 52), (0, .nameAndType 53 54), (0, u "background"), (0, u "Z"), (2, u "needsStore"), (31, .class_ 90), (0, u "com/example/barts/barts/Labelled"), (9, u "isBackground"), (0, u "()Z"), (0, u "assignsDeadlines"), (1, u "shortensDeadlines"), (0, u "weighsEnergy")] 5

def k7c0 : Code := { maxStack := 1, maxLocals := 1, code := prog_29_method_5_code, exceptionTable := #[], attributes := #[] }
def k7m0 : Method := { name := "isBackground", desc := "()Z", sig := { parameters := [], returnType := some .boolean }, accessFlags := 0, code := some k7c0 }
def k7c1 : Code := { maxStack := 2, maxLocals := 1, code := prog_29_method_6_code, exceptionTable := #[], attributes := #[] }
def k7m1 : Method := { name := "assignsDeadlines", desc := "()Z", sig := { parameters := [], returnType := some .boolean }, accessFlags := 0, code := some k7c1 }
def k7c2 : Code := { maxStack := 2, maxLocals := 1, code := prog_29_method_7_code, exceptionTable := #[], attributes := #[] }
def k7m2 : Method := { name := "shortensDeadlines", desc := "()Z", sig := { parameters := [], returnType := some .boolean }, accessFlags := 0, code := some k7c2 }
def k7c3 : Code := { maxStack := 2, maxLocals := 1, code := prog_29_method_8_code, exceptionTable := #[], attributes := #[] }
def k7m3 : Method := { name := "weighsEnergy", desc := "()Z", sig := { parameters := [], returnType := some .boolean }, accessFlags := 0, code := some k7c3 }
/-- com/example/barts/barts/Server -/
def k7 : Class := { plain "com/example/barts/barts/Server" (some 5) with
  accessFlags := 16432
  interfaces := #[6]
  cf := some (fileOf pool7 1 #[] #[{ accessFlags := 0, nameIndex := 100, descriptorIndex := 101, attributes := #[] }, { accessFlags := 0, nameIndex := 102, descriptorIndex := 101, attributes := #[] }, { accessFlags := 0, nameIndex := 104, descriptorIndex := 101, attributes := #[] }, { accessFlags := 0, nameIndex := 105, descriptorIndex := 101, attributes := #[] }] 16432 38 #[89] #[{ accessFlags := 16409, nameIndex := 5, descriptorIndex := 6, attributes := #[] }, { accessFlags := 16409, nameIndex := 9, descriptorIndex := 6, attributes := #[] }, { accessFlags := 16409, nameIndex := 12, descriptorIndex := 6, attributes := #[] }, { accessFlags := 16409, nameIndex := 15, descriptorIndex := 6, attributes := #[] }, { accessFlags := 16409, nameIndex := 18, descriptorIndex := 6, attributes := #[] }, { accessFlags := 16409, nameIndex := 21, descriptorIndex := 6, attributes := #[] }, { accessFlags := 16409, nameIndex := 24, descriptorIndex := 6, attributes := #[] }, { accessFlags := 16409, nameIndex := 27, descriptorIndex := 6, attributes := #[] }, { accessFlags := 18, nameIndex := 49, descriptorIndex := 50, attributes := #[] }, { accessFlags := 18, nameIndex := 53, descriptorIndex := 54, attributes := #[] }, { accessFlags := 18, nameIndex := 57, descriptorIndex := 54, attributes := #[] }, { accessFlags := 4122, nameIndex := 30, descriptorIndex := 31, attributes := #[] }])
  fields := #[{ name := "BG", type := (.object "com/example/barts/barts/Server"), accessFlags := 16409, slot := 0, constantValue := 0 }, { name := "BES", type := (.object "com/example/barts/barts/Server"), accessFlags := 16409, slot := 1, constantValue := 0 }, { name := "BEP", type := (.object "com/example/barts/barts/Server"), accessFlags := 16409, slot := 2, constantValue := 0 }, { name := "SSP", type := (.object "com/example/barts/barts/Server"), accessFlags := 16409, slot := 3, constantValue := 0 }, { name := "TBS", type := (.object "com/example/barts/barts/Server"), accessFlags := 16409, slot := 4, constantValue := 0 }, { name := "TBSTAR", type := (.object "com/example/barts/barts/Server"), accessFlags := 16409, slot := 5, constantValue := 0 }, { name := "TBH", type := (.object "com/example/barts/barts/Server"), accessFlags := 16409, slot := 6, constantValue := 0 }, { name := "TBSTARH", type := (.object "com/example/barts/barts/Server"), accessFlags := 16409, slot := 7, constantValue := 0 }, { name := "label", type := (.object "java/lang/String"), accessFlags := 18, slot := 3, constantValue := 0 }, { name := "background", type := .boolean, accessFlags := 18, slot := 4, constantValue := 0 }, { name := "needsStore", type := .boolean, accessFlags := 18, slot := 5, constantValue := 0 }, { name := "$VALUES", type := (.array (.object "com/example/barts/barts/Server")), accessFlags := 4122, slot := 8, constantValue := 0 }]
  methods := #[k7m0, k7m1, k7m2, k7m3]
  instanceTypes := #[(.object "java/lang/String"), .int, .int, (.object "java/lang/String"), .boolean, .boolean]
  staticTypes := #[(.object "com/example/barts/barts/Server"), (.object "com/example/barts/barts/Server"), (.object "com/example/barts/barts/Server"), (.object "com/example/barts/barts/Server"), (.object "com/example/barts/barts/Server"), (.object "com/example/barts/barts/Server"), (.object "com/example/barts/barts/Server"), (.object "com/example/barts/barts/Server"), (.array (.object "com/example/barts/barts/Server"))]
  resolved := Array.replicate 111 none
  statics := some 0 }

def pool8 : Array CpInfo := pool [(1, u "java/lang/Cloneable"), (0, .class_ 1), (0, u "java/lang/Object"), (0, .class_ 3)] 3

/-- java/lang/Cloneable -/
def k8 : Class := { plain "java/lang/Cloneable" (some 0) with
  accessFlags := 1537
  interfaces := #[]
  cf := some (fileOf pool8 2 #[] #[] 1537 4 #[] #[])
  fields := #[]
  methods := #[]
  instanceTypes := #[]
  staticTypes := #[]
  resolved := Array.replicate 8 none
  statics := none }

/-- the primitive byte -/
def k9 : Class := { plain "byte" none with kind := .primitive 'B', accessFlags := 0x411 }
/-- [B -/
def k10 : Class := { plain "[B" (some 0) with kind := .array 9 .byte, interfaces := #[8, 4], accessFlags := 1041 }

/-- the primitive int -/
def k11 : Class := { plain "int" none with kind := .primitive 'I', accessFlags := 0x411 }
/-- [I -/
def k12 : Class := { plain "[I" (some 0) with kind := .array 11 .int, interfaces := #[8, 4], accessFlags := 1041 }

def heap : Heap := #[{ cls := 7, slots := #[.ref 1, .ref 8, .ref 7, .ref 6, .ref 2, .ref 3, .ref 4, .ref 5, .null], vm := .statics 7 },
  { cls := 7, slots := #[.null, .int 0, .int 0, .null, .int 1, .int 0], vm := .none },
  { cls := 7, slots := #[.null, .int 4, .int 0, .null, .int 0, .int 0], vm := .none },
  { cls := 7, slots := #[.null, .int 5, .int 0, .null, .int 0, .int 0], vm := .none },
  { cls := 7, slots := #[.null, .int 6, .int 0, .null, .int 0, .int 0], vm := .none },
  { cls := 7, slots := #[.null, .int 7, .int 0, .null, .int 0, .int 0], vm := .none },
  { cls := 7, slots := #[.null, .int 3, .int 0, .null, .int 0, .int 0], vm := .none },
  { cls := 7, slots := #[.null, .int 2, .int 0, .null, .int 1, .int 0], vm := .none },
  { cls := 7, slots := #[.null, .int 1, .int 0, .null, .int 1, .int 0], vm := .none }]
def classes : Array Class := #[k0, k1, k2, k3, k4, k5, k6, k7, k8, k9, k10, k11, k12]
def interned : List (Array UInt16 × Addr) := []
def slotsUsed : Nat := 57
def theMethod : MethodId := ⟨1, 2⟩
def args0 : Array Value := #[.int 4]
def aboutOver (below : List Frame) : State where
  vm := { classes := classes, interned := interned.toArray }
  heap := heap
  slotsUsed := slotsUsed
  threads := #[{ frames := .invoking theMethod args0 :: below }]
def below0 : List Frame := [.native { method := ⟨0, 0⟩, args := #[] }]
def about1 : State := aboutOver below0
def p0 : Program := .bare "" "" ""
def e0 : Env := launch0.env 0 0 0
theorem w_frames : about1.frames = Frame.invoking theMethod args0 :: below0 := rfl
set_option maxRecDepth 65536 in
theorem w_args : argsFit about1.vm theMethod args0 = true := by decide +kernel
set_option maxRecDepth 65536 in
theorem w_heap : heapFits about1 = true := by decide +kernel
set_option maxRecDepth 65536 in
theorem w_runnable : about1.curStatus? = some .runnable := by decide +kernel
set_option maxRecDepth 65536 in
theorem w_alone : about1.alone = true := by decide +kernel
set_option maxRecDepth 65536 in
theorem w_named : about1.methodNamed? x = some theMethod := by decide +kernel
set_option maxRecDepth 65536 in
theorem w_hears : about1.hears theMethod below0 = true := by decide +kernel
set_option maxRecDepth 65536 in
theorem w_ripe : about1.ripe theMethod args0 below0 = true := by decide +kernel
theorem w_running : about1.status = .running := rfl
set_option maxRecDepth 65536 in
theorem w_room : about1.hasRoom e0.platform room_1 = true :=
  launch0.hasRoom_least _ room_1 (by decide +kernel) (by decide +kernel) (by decide +kernel) (by decide +kernel) (by decide +kernel) (by decide +kernel)
theorem allAtoms_all (ts : List Jvm.Cond) (a : Array Jvm.Value) (st : Jvm.State) : (allAtoms ts).before a st = ts.all (fun c => c.before a st) := by
  induction ts with
  | nil => rfl
  | cons c t ih =>
    show (Jvm.Cond.and c (allAtoms t)).before a st = _
    rw [Jvm.Cond.before_and, ih, List.all_cons]
def words1 : List Jvm.Cond := Jvm.Cond.code x code maxLocals ret :: tables_1
/-- a 'code' word, met by the world's own term for the bytes: nothing is compared byte by byte -/
theorem code_word {y : MethodName} {bytes : ByteArray} {mx : Nat} {rt : Option FieldType} {a : Array Value} {s : State} {m : MethodId} {meth : Method} {c : Code} (h1 : s.methodNamed? y = some m) (h2 : s.vm.method? m = some meth) (h3 : meth.code = some c) (h4 : c.code = bytes)
    (h5 : (c.maxLocals == mx && c.exceptionTable.isEmpty && decide (c.maxStack ≤ mostOperands) && decide (meth.sig.returnType = rt) && !meth.locks && decide (parseMethodDescriptor y.desc = some meth.sig)) = true) : (Jvm.Cond.code y bytes mx rt).before a s = true := by
  simp only [Bool.and_eq_true, beq_iff_eq, Bool.not_eq_true', decide_eq_true_eq] at h5
  obtain ⟨⟨⟨⟨⟨g1, g2⟩, g3⟩, g4⟩, g5⟩, g6⟩ := h5
  simp [Cond.before, Cond.holds, Cond.value, h1, h2, h3, h4, g1, g2, g3, g4, g5, g6]
def isCode : Jvm.Cond → Bool
  | .code _ _ _ _ => true
  | _ => false
theorem all_split {L : List Jvm.Cond} {P : Jvm.Cond → Bool} (h1 : L.all (fun c => isCode c || P c) = true) (h2 : ∀ c ∈ L.filter isCode, P c = true) : L.all P = true := by
  refine List.all_eq_true.mpr fun c hc => ?_
  have h := List.all_eq_true.mp h1 c hc
  rcases Bool.eq_false_or_eq_true (isCode c) with hi | hi
  · exact h2 c (List.mem_filter.mpr ⟨hc, hi⟩)
  · simpa [hi] using h
set_option maxRecDepth 65536 in
theorem w_c0 : (Jvm.Cond.code x code maxLocals ret).before args0 about1 = true := code_word (m := ⟨1, 2⟩) (meth := k1m2) (c := k1c2) (by decide +kernel) rfl rfl rfl (by decide +kernel)
set_option maxRecDepth 65536 in
theorem w_c1 : (Jvm.Cond.code ({ cls := "com/example/barts/barts/ServerAssignsDeadlinesPinLaw", name := "pick", desc := "(I)Lcom/example/barts/barts/Server;" } : Jvm.MethodName) method_2_code (1 : Nat) (Option.some (Jvm.ClassFile.FieldType.object "com/example/barts/barts/Server"))).before args0 about1 = true := code_word (m := ⟨1, 1⟩) (meth := k1m1) (c := k1c1) (by decide +kernel) rfl rfl rfl (by decide +kernel)
set_option maxRecDepth 65536 in
theorem w_c2 : (Jvm.Cond.code ({ cls := "com/example/barts/barts/Server", name := "assignsDeadlines", desc := "()Z" } : Jvm.MethodName) prog_29_method_6_code (1 : Nat) (Option.some Jvm.ClassFile.FieldType.boolean)).before args0 about1 = true := code_word (m := ⟨7, 1⟩) (meth := k7m1) (c := k7c1) (by decide +kernel) rfl rfl rfl (by decide +kernel)
set_option maxRecDepth 65536 in
theorem w_c3 : (Jvm.Cond.code ({ cls := "com/example/barts/barts/Server", name := "shortensDeadlines", desc := "()Z" } : Jvm.MethodName) prog_29_method_7_code (1 : Nat) (Option.some Jvm.ClassFile.FieldType.boolean)).before args0 about1 = true := code_word (m := ⟨7, 2⟩) (meth := k7m2) (c := k7c2) (by decide +kernel) rfl rfl rfl (by decide +kernel)
set_option maxRecDepth 65536 in
theorem w_c4 : (Jvm.Cond.code ({ cls := "com/example/barts/barts/Server", name := "weighsEnergy", desc := "()Z" } : Jvm.MethodName) prog_29_method_8_code (1 : Nat) (Option.some Jvm.ClassFile.FieldType.boolean)).before args0 about1 = true := code_word (m := ⟨7, 3⟩) (meth := k7m3) (c := k7c3) (by decide +kernel) rfl rfl rfl (by decide +kernel)
set_option maxRecDepth 65536 in
theorem w_c5 : (Jvm.Cond.code ({ cls := "com/example/barts/barts/Server", name := "isBackground", desc := "()Z" } : Jvm.MethodName) prog_29_method_5_code (1 : Nat) (Option.some Jvm.ClassFile.FieldType.boolean)).before args0 about1 = true := code_word (m := ⟨7, 0⟩) (meth := k7m0) (c := k7c0) (by decide +kernel) rfl rfl rfl (by decide +kernel)
def codes1 : List Jvm.Cond := [Jvm.Cond.code x code maxLocals ret, Jvm.Cond.code ({ cls := "com/example/barts/barts/ServerAssignsDeadlinesPinLaw", name := "pick", desc := "(I)Lcom/example/barts/barts/Server;" } : Jvm.MethodName) method_2_code (1 : Nat) (Option.some (Jvm.ClassFile.FieldType.object "com/example/barts/barts/Server")), Jvm.Cond.code ({ cls := "com/example/barts/barts/Server", name := "assignsDeadlines", desc := "()Z" } : Jvm.MethodName) prog_29_method_6_code (1 : Nat) (Option.some Jvm.ClassFile.FieldType.boolean), Jvm.Cond.code ({ cls := "com/example/barts/barts/Server", name := "shortensDeadlines", desc := "()Z" } : Jvm.MethodName) prog_29_method_7_code (1 : Nat) (Option.some Jvm.ClassFile.FieldType.boolean), Jvm.Cond.code ({ cls := "com/example/barts/barts/Server", name := "weighsEnergy", desc := "()Z" } : Jvm.MethodName) prog_29_method_8_code (1 : Nat) (Option.some Jvm.ClassFile.FieldType.boolean), Jvm.Cond.code ({ cls := "com/example/barts/barts/Server", name := "isBackground", desc := "()Z" } : Jvm.MethodName) prog_29_method_5_code (1 : Nat) (Option.some Jvm.ClassFile.FieldType.boolean)]
set_option maxRecDepth 65536 in
theorem codes_eq : words1.filter isCode = codes1 := rfl
theorem w_codes : ∀ c ∈ words1.filter isCode, c.before args0 about1 = true := by
  rw [codes_eq]
  intro c hc
  simp only [codes1, List.mem_cons, List.not_mem_nil, or_false] at hc
  rcases hc with rfl | rfl | rfl | rfl | rfl | rfl
  · exact w_c0
  · exact w_c1
  · exact w_c2
  · exact w_c3
  · exact w_c4
  · exact w_c5
set_option maxRecDepth 65536 in
theorem w_t1 : (words1.take 24).all (fun c => isCode c || c.before args0 about1) = true := by decide +kernel
set_option maxRecDepth 65536 in
theorem w_t2 : (words1.drop 24).all (fun c => isCode c || c.before args0 about1) = true := by decide +kernel
theorem w_tables : (allAtoms (Jvm.Cond.code x code maxLocals ret :: tables_1)).before args0 about1 = true := by
  rw [allAtoms_all]
  show words1.all (fun c => c.before args0 about1) = true
  refine all_split ?_ w_codes
  rw [← List.take_append_drop 24 words1, List.all_append, w_t1, w_t2]
  rfl
set_option maxRecDepth 65536 in
theorem w_case : (Jvm.Cond.and given_1 narrow_1).before args0 about1 = true := by decide +kernel
theorem w_applies : (headSpec (Jvm.Cond.code x code maxLocals ret :: tables_1) room_1).applies x e0.platform about1 = true :=
  (Spec.applies_iff w_frames).mpr ⟨w_running, w_runnable, w_alone, w_named, w_hears, w_ripe, w_room, w_tables⟩
theorem atStart : AtStart classFile x code maxLocals ret World_1 tables_1 room_1 Calls_1 rest_1 Pre_1 launch0 p0 e0 about1 theMethod args0 below0 :=
  ⟨lists_1, trivial, launch0.admits_env _ _ _, launch0.least_env, fairChoices_fair.cas, fairChoices_fair.clock, w_frames, w_args, w_heap, w_applies, trivial, trivial, w_case⟩
end start1
theorem witness_1 : WitnessClaimed_1 := ⟨start1.p0, start1.e0, start1.about1, start1.theMethod, start1.args0, start1.below0, start1.atStart⟩
end Jvm.Pilot.@@N@@
