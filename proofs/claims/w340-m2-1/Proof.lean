import JvmDerived
import JvmDerived.Pilot.@@N@@Statement
import JvmDerived.Pilot.@@N@@Code
set_option linter.unusedVariables false
set_option linter.unusedSimpArgs false
namespace Jvm.RoadKit
open Sem ClassFile Op Lib Jvm.Stand Jvm.Free Jvm.LawKit
section New
variable {p : Program} {l : Launch} {e : Env} {R : Room} {s : State} {m : MethodId} {args : Array Value} {below : List Frame} {meth : Method} {c : Code} {T : State} {locs : List Loc} {cells slots : Nat}
theorem retI (X : Stand p l e R s m args below meth c T locs cells slots) (hx : p.tables.exec = Jvm.exec) {pc : Nat} {Ls : Array Slot} {z : Int32} {rest : List Value} (hret : meth.sig.returnType = some .int) (hd : decode c.code pc = .ok (.ireturn, 1)) {fs : List Frame}
    (hl : ∀ (f : JFrame) (acts : List Action), f.method = m → f.locked = none → f.entered = [] → (doReturn e (T.setTop f) acts (some (.int z))).1 = T.setFrames fs) : Steps p.tables e below (T.setTop (mkF m pc Ls (.int z :: rest))) (T.setFrames fs) := by
  have hm' : T.vm.method? m = some meth := X.method'
  have hn : narrow .int (.int z) = .int z := rfl
  show Steps p.tables e below (T.setTop { method := m, pc := pc, locals := Ls, stack := _ :: rest, locked := none }) _
  jvm_step X.here [X.here.top, hx, hd, hm', hret, hn]
  first | (intro acts; rw [hl _ acts rfl rfl rfl]) | rw [hl _ _ rfl rfl rfl]
  exact Steps.refl _
end New
end Jvm.RoadKit
namespace Jvm.Pilot.@@N@@
open Jvm Jvm.ClassFile Sem Op Lib Jvm.Free Jvm.Stand Jvm.LawKit Jvm.RoadKit Bundle Jvm.Pilot.@@N@@.Jvm.D
theorem d1_0 : decode prog_48_method_4_code 0 = .ok (.lload 4, 2) := by decide +kernel
theorem d1_2 : decode prog_48_method_4_code 2 = .ok (.lload_n 0, 1) := by decide +kernel
theorem d1_3 : decode prog_48_method_4_code 3 = .ok (.lsub, 1) := by decide +kernel
theorem d1_4 : decode prog_48_method_4_code 4 = .ok (.lload 10, 2) := by decide +kernel
theorem d1_6 : decode prog_48_method_4_code 6 = .ok (.lload_n 2, 1) := by decide +kernel
theorem d1_7 : decode prog_48_method_4_code 7 = .ok (.lsub, 1) := by decide +kernel
theorem d1_8 : decode prog_48_method_4_code 8 = .ok (.lmul, 1) := by decide +kernel
theorem d1_9 : decode prog_48_method_4_code 9 = .ok (.lload 6, 2) := by decide +kernel
theorem d1_11 : decode prog_48_method_4_code 11 = .ok (.lload_n 2, 1) := by decide +kernel
theorem d1_12 : decode prog_48_method_4_code 12 = .ok (.lsub, 1) := by decide +kernel
theorem d1_13 : decode prog_48_method_4_code 13 = .ok (.lload 8, 2) := by decide +kernel
theorem d1_15 : decode prog_48_method_4_code 15 = .ok (.lload_n 0, 1) := by decide +kernel
theorem d1_16 : decode prog_48_method_4_code 16 = .ok (.lsub, 1) := by decide +kernel
theorem d1_17 : decode prog_48_method_4_code 17 = .ok (.lmul, 1) := by decide +kernel
theorem d1_18 : decode prog_48_method_4_code 18 = .ok (.lsub, 1) := by decide +kernel
theorem d1_19 : decode prog_48_method_4_code 19 = .ok (.lreturn, 1) := by decide +kernel
theorem pn_1 : plainName "com/example/edgeconomy/edgeconomy/layouts/Lattice" = true := by first | (simp [plainName, overriddenIn]; done) | decide +kernel
theorem ef_1 (m : MethodId) (p1 : Int64) (p2 : Int64) (p3 : Int64) (p4 : Int64) (p5 : Int64) (p6 : Int64) : entryFrame m #[(.long p1), (.long p2), (.long p3), (.long p4), (.long p5), (.long p6)] 12 = mkF m 0 #[.val (.long p1), .second, .val (.long p2), .second, .val (.long p3), .second, .val (.long p4), .second, .val (.long p5), .second, .val (.long p6), .second] [] := by first | (simp [entryFrame, mkF, argsToLocals, Value.category]; done) | rfl
def F1_0 (p1 : Int64) (p2 : Int64) (p3 : Int64) (p4 : Int64) (p5 : Int64) (p6 : Int64) : Int64 := (((p3 - p1) * (p6 - p2)) - ((p4 - p2) * (p5 - p1)))
def Q1 (Z : State) (p1 : Int64) (p2 : Int64) (p3 : Int64) (p4 : Int64) (p5 : Int64) (p6 : Int64) (h0 : Heap) (n0 : Nat) (v : Option Value) (h : Heap) (L : List Loc) : Prop := v = some (.long (F1_0 p1 p2 p3 p4 p5 p6)) ∧ Fr n0 L ∧ h = h0
set_option maxRecDepth 65536 in
set_option maxHeartbeats 40000000 in
theorem rm1 (l : Launch) (Z : State) (a0 : Array Value) (hw : ∀ d ∈ tables_1, d.before a0 Z = true) (ws : List Jvm.Cond) (p1 : Int64) (p2 : Int64) (p3 : Int64) (p4 : Int64) (p5 : Int64) (p6 : Int64) (h0 : Heap) (n0 : Nat) (Z0 : n0 ≤ h0.size) :
    MetFree l (⟨"com/example/edgeconomy/edgeconomy/layouts/Lattice", "turn", "(JJJJJJ)J"⟩ : MethodName) (head1 (Jvm.Cond.code (⟨"com/example/edgeconomy/edgeconomy/layouts/Lattice", "turn", "(JJJJJJ)J"⟩ : MethodName) prog_48_method_4_code 12 (some .long) :: ws) ({ frames := 0, cells := 0, slots := 0, locals := 0 } : Room)) (fun a U => a = #[(.long p1), (.long p2), (.long p3), (.long p4), (.long p5), (.long p6)] ∧ Z.Warmed39 U.vm ∧ U.heap = h0) (fun _ _ _ _ _ => True) (fun _ U o U' => ∃ v L, o = .returned v ∧ Q1 Z p1 p2 p3 p4 p5 p6 h0 n0 v U'.heap L ∧ FrameEnd U o U' L ({ frames := 0, cells := 0, slots := 0, locals := 0 } : Room).cells ({ frames := 0, cells := 0, slots := 0, locals := 0 } : Room).slots) := by
  refine MetFree.of_bodySF (plainFor_of_name pn_1) hisR ?_
  intro p e s m args below meth c s₁ Bd hml0 hP hK
  obtain ⟨rfl, hZ, hh⟩ := hP
  have hx := Bd.exec
  have hby := Bd.bytes
  have hml : c.maxLocals = 12 := hml0
  have hown : s.vm.findClass "com/example/edgeconomy/edgeconomy/layouts/Lattice" = some m.cls := findClass_of_methodNamed Bd.named
  have hnm := (name_of_methodNamed Bd.named Bd.method).1
  have X0 : Stand p l e ({ frames := 0, cells := 0, slots := 0, locals := 0 } : Room) s m #[(.long p1), (.long p2), (.long p3), (.long p4), (.long p5), (.long p6)] below meth c s₁ [] 0 0 := Stand.of_body Bd
  have e0 : s₁.heap = h0 := by rw [← hh, Bd.state]; rfl
  have N0 := Fr.nil n0
  have pre0 : ∀ t, Steps p.tables e below (s₁.setTop (mkF m 0 #[.val (.long p1), .second, .val (.long p2), .second, .val (.long p3), .second, .val (.long p4), .second, .val (.long p5), .second, .val (.long p6), .second] [])) t → Steps p.tables e below (s₁.setTop (entryFrame m #[(.long p1), (.long p2), (.long p3), (.long p4), (.long p5), (.long p6)] 12)) t := fun t k => castTop (ef_1 m p1 p2 p3 p4 p5 p6) k
  obtain ⟨fs, hr, hrun, hended, hW, hsame⟩ := X0.leave (v := some (.long (F1_0 p1 p2 p3 p4 p5 p6))) (fun h => by rw [Bd.returns] at h; cases h)
  refine ⟨_, _, pre0 _ ?_, hrun, hended, _, _, rfl, ?_, ⟨_, rfl⟩, hW, hsame.mono (by decide) (by decide)⟩
  · have j0 : ∀ (hF : F1_0 p1 p2 p3 p4 p5 p6 = F1_0 p1 p2 p3 p4 p5 p6), Steps p.tables e below (s₁.setTop (mkF m 0 #[.val (.long p1), .second, .val (.long p2), .second, .val (.long p3), .second, .val (.long p4), .second, .val (.long p5), .second, .val (.long p6), .second] [])) (s₁.setFrames fs) := by
      intro hF
      show Steps p.tables e below (s₁.setTop (mkF m 0 #[.val (.long p1), .second, .val (.long p2), .second, .val (.long p3), .second, .val (.long p4), .second, .val (.long p5), .second, .val (.long p6), .second] [])) _
      refine XS.lload X0.here hx rfl (hb hby d1_0) rfl ?_
      show Steps p.tables e below (s₁.setTop (mkF m 2 #[.val (.long p1), .second, .val (.long p2), .second, .val (.long p3), .second, .val (.long p4), .second, .val (.long p5), .second, .val (.long p6), .second] [(.long p3)])) _
      refine XS.lloadN X0.here hx rfl (hb hby d1_2) rfl ?_
      show Steps p.tables e below (s₁.setTop (mkF m 3 #[.val (.long p1), .second, .val (.long p2), .second, .val (.long p3), .second, .val (.long p4), .second, .val (.long p5), .second, .val (.long p6), .second] [(.long p1), (.long p3)])) _
      refine XS.lsub X0.here hx rfl (hb hby d1_3) rfl ?_
      show Steps p.tables e below (s₁.setTop (mkF m 4 #[.val (.long p1), .second, .val (.long p2), .second, .val (.long p3), .second, .val (.long p4), .second, .val (.long p5), .second, .val (.long p6), .second] [(.long (p3 - p1))])) _
      refine XS.lload X0.here hx rfl (hb hby d1_4) rfl ?_
      show Steps p.tables e below (s₁.setTop (mkF m 6 #[.val (.long p1), .second, .val (.long p2), .second, .val (.long p3), .second, .val (.long p4), .second, .val (.long p5), .second, .val (.long p6), .second] [(.long p6), (.long (p3 - p1))])) _
      refine XS.lloadN X0.here hx rfl (hb hby d1_6) rfl ?_
      show Steps p.tables e below (s₁.setTop (mkF m 7 #[.val (.long p1), .second, .val (.long p2), .second, .val (.long p3), .second, .val (.long p4), .second, .val (.long p5), .second, .val (.long p6), .second] [(.long p2), (.long p6), (.long (p3 - p1))])) _
      refine XS.lsub X0.here hx rfl (hb hby d1_7) rfl ?_
      show Steps p.tables e below (s₁.setTop (mkF m 8 #[.val (.long p1), .second, .val (.long p2), .second, .val (.long p3), .second, .val (.long p4), .second, .val (.long p5), .second, .val (.long p6), .second] [(.long (p6 - p2)), (.long (p3 - p1))])) _
      refine XS.lmul X0.here hx rfl (hb hby d1_8) rfl ?_
      show Steps p.tables e below (s₁.setTop (mkF m 9 #[.val (.long p1), .second, .val (.long p2), .second, .val (.long p3), .second, .val (.long p4), .second, .val (.long p5), .second, .val (.long p6), .second] [(.long ((p3 - p1) * (p6 - p2)))])) _
      refine XS.lload X0.here hx rfl (hb hby d1_9) rfl ?_
      show Steps p.tables e below (s₁.setTop (mkF m 11 #[.val (.long p1), .second, .val (.long p2), .second, .val (.long p3), .second, .val (.long p4), .second, .val (.long p5), .second, .val (.long p6), .second] [(.long p4), (.long ((p3 - p1) * (p6 - p2)))])) _
      refine XS.lloadN X0.here hx rfl (hb hby d1_11) rfl ?_
      show Steps p.tables e below (s₁.setTop (mkF m 12 #[.val (.long p1), .second, .val (.long p2), .second, .val (.long p3), .second, .val (.long p4), .second, .val (.long p5), .second, .val (.long p6), .second] [(.long p2), (.long p4), (.long ((p3 - p1) * (p6 - p2)))])) _
      refine XS.lsub X0.here hx rfl (hb hby d1_12) rfl ?_
      show Steps p.tables e below (s₁.setTop (mkF m 13 #[.val (.long p1), .second, .val (.long p2), .second, .val (.long p3), .second, .val (.long p4), .second, .val (.long p5), .second, .val (.long p6), .second] [(.long (p4 - p2)), (.long ((p3 - p1) * (p6 - p2)))])) _
      refine XS.lload X0.here hx rfl (hb hby d1_13) rfl ?_
      show Steps p.tables e below (s₁.setTop (mkF m 15 #[.val (.long p1), .second, .val (.long p2), .second, .val (.long p3), .second, .val (.long p4), .second, .val (.long p5), .second, .val (.long p6), .second] [(.long p5), (.long (p4 - p2)), (.long ((p3 - p1) * (p6 - p2)))])) _
      refine XS.lloadN X0.here hx rfl (hb hby d1_15) rfl ?_
      show Steps p.tables e below (s₁.setTop (mkF m 16 #[.val (.long p1), .second, .val (.long p2), .second, .val (.long p3), .second, .val (.long p4), .second, .val (.long p5), .second, .val (.long p6), .second] [(.long p1), (.long p5), (.long (p4 - p2)), (.long ((p3 - p1) * (p6 - p2)))])) _
      refine XS.lsub X0.here hx rfl (hb hby d1_16) rfl ?_
      show Steps p.tables e below (s₁.setTop (mkF m 17 #[.val (.long p1), .second, .val (.long p2), .second, .val (.long p3), .second, .val (.long p4), .second, .val (.long p5), .second, .val (.long p6), .second] [(.long (p5 - p1)), (.long (p4 - p2)), (.long ((p3 - p1) * (p6 - p2)))])) _
      refine XS.lmul X0.here hx rfl (hb hby d1_17) rfl ?_
      show Steps p.tables e below (s₁.setTop (mkF m 18 #[.val (.long p1), .second, .val (.long p2), .second, .val (.long p3), .second, .val (.long p4), .second, .val (.long p5), .second, .val (.long p6), .second] [(.long ((p4 - p2) * (p5 - p1))), (.long ((p3 - p1) * (p6 - p2)))])) _
      refine XS.lsub X0.here hx rfl (hb hby d1_18) rfl ?_
      show Steps p.tables e below (s₁.setTop (mkF m 19 #[.val (.long p1), .second, .val (.long p2), .second, .val (.long p3), .second, .val (.long p4), .second, .val (.long p5), .second, .val (.long p6), .second] [(.long (((p3 - p1) * (p6 - p2)) - ((p4 - p2) * (p5 - p1))))])) _
      have hv := (hF.trans (by rw [F1_0] : _ = (((p3 - p1) * (p6 - p2)) - ((p4 - p2) * (p5 - p1)))))
      rw [hv] at hr
      jvm_step X0.here [X0.here.top, hx, (hb hby d1_19), X0.method', Bd.returns, narrow]
      first | (intro acts; rw [hr _ acts rfl rfl rfl]) | rw [hr _ _ rfl rfl rfl]
      exact Steps.refl _
    exact j0 rfl
  · show Q1 Z p1 p2 p3 p4 p5 p6 h0 n0 _ s₁.heap _
    rw [e0]
    exact ⟨rfl, N0, rfl⟩
theorem d2_0 : decode method_2_code 0 = .ok (.lload_n 0, 1) := by decide +kernel
theorem d2_1 : decode method_2_code 1 = .ok (.lload 6, 2) := by decide +kernel
theorem d2_3 : decode method_2_code 3 = .ok (.lmul, 1) := by decide +kernel
theorem d2_4 : decode method_2_code 4 = .ok (.lload 4, 2) := by decide +kernel
theorem d2_6 : decode method_2_code 6 = .ok (.lload_n 2, 1) := by decide +kernel
theorem d2_7 : decode method_2_code 7 = .ok (.lmul, 1) := by decide +kernel
theorem d2_8 : decode method_2_code 8 = .ok (.lsub, 1) := by decide +kernel
theorem d2_9 : decode method_2_code 9 = .ok (.lstore 12, 2) := by decide +kernel
theorem d2_11 : decode method_2_code 11 = .ok (.lload 4, 2) := by decide +kernel
theorem d2_13 : decode method_2_code 13 = .ok (.lload 10, 2) := by decide +kernel
theorem d2_15 : decode method_2_code 15 = .ok (.lmul, 1) := by decide +kernel
theorem d2_16 : decode method_2_code 16 = .ok (.lload 8, 2) := by decide +kernel
theorem d2_18 : decode method_2_code 18 = .ok (.lload 6, 2) := by decide +kernel
theorem d2_20 : decode method_2_code 20 = .ok (.lmul, 1) := by decide +kernel
theorem d2_21 : decode method_2_code 21 = .ok (.lsub, 1) := by decide +kernel
theorem d2_22 : decode method_2_code 22 = .ok (.lstore 14, 2) := by decide +kernel
theorem d2_24 : decode method_2_code 24 = .ok (.lload 8, 2) := by decide +kernel
theorem d2_26 : decode method_2_code 26 = .ok (.lload_n 2, 1) := by decide +kernel
theorem d2_27 : decode method_2_code 27 = .ok (.lmul, 1) := by decide +kernel
theorem d2_28 : decode method_2_code 28 = .ok (.lload_n 0, 1) := by decide +kernel
theorem d2_29 : decode method_2_code 29 = .ok (.lload 10, 2) := by decide +kernel
theorem d2_31 : decode method_2_code 31 = .ok (.lmul, 1) := by decide +kernel
theorem d2_32 : decode method_2_code 32 = .ok (.lsub, 1) := by decide +kernel
theorem d2_33 : decode method_2_code 33 = .ok (.lstore 16, 2) := by decide +kernel
theorem d2_35 : decode method_2_code 35 = .ok (.lload 12, 2) := by decide +kernel
theorem d2_37 : decode method_2_code 37 = .ok (.lload 14, 2) := by decide +kernel
theorem d2_39 : decode method_2_code 39 = .ok (.ladd, 1) := by decide +kernel
theorem d2_40 : decode method_2_code 40 = .ok (.lload 16, 2) := by decide +kernel
theorem d2_42 : decode method_2_code 42 = .ok (.ladd, 1) := by decide +kernel
theorem d2_43 : decode method_2_code 43 = .ok (.lreturn, 1) := by decide +kernel
theorem pn_2 : plainName "com/example/edgeconomy/edgeconomy/layouts/LatticeTurnPinLaw" = true := by first | (simp [plainName, overriddenIn]; done) | decide +kernel
theorem ef_2 (m : MethodId) (p1 : Int64) (p2 : Int64) (p3 : Int64) (p4 : Int64) (p5 : Int64) (p6 : Int64) : entryFrame m #[(.long p1), (.long p2), (.long p3), (.long p4), (.long p5), (.long p6)] 18 = mkF m 0 #[.val (.long p1), .second, .val (.long p2), .second, .val (.long p3), .second, .val (.long p4), .second, .val (.long p5), .second, .val (.long p6), .second, .unset, .unset, .unset, .unset, .unset, .unset] [] := by first | (simp [entryFrame, mkF, argsToLocals, Value.category]; done) | rfl
def F2_0 (p1 : Int64) (p2 : Int64) (p3 : Int64) (p4 : Int64) (p5 : Int64) (p6 : Int64) : Int64 := ((((p1 * p4) - (p3 * p2)) + ((p3 * p6) - (p5 * p4))) + ((p5 * p2) - (p1 * p6)))
def Q2 (Z : State) (p1 : Int64) (p2 : Int64) (p3 : Int64) (p4 : Int64) (p5 : Int64) (p6 : Int64) (h0 : Heap) (n0 : Nat) (v : Option Value) (h : Heap) (L : List Loc) : Prop := v = some (.long (F2_0 p1 p2 p3 p4 p5 p6)) ∧ Fr n0 L ∧ h = h0
set_option maxRecDepth 65536 in
set_option maxHeartbeats 40000000 in
theorem rm2 (l : Launch) (Z : State) (a0 : Array Value) (hw : ∀ d ∈ tables_1, d.before a0 Z = true) (ws : List Jvm.Cond) (p1 : Int64) (p2 : Int64) (p3 : Int64) (p4 : Int64) (p5 : Int64) (p6 : Int64) (h0 : Heap) (n0 : Nat) (Z0 : n0 ≤ h0.size) :
    MetFree l (⟨"com/example/edgeconomy/edgeconomy/layouts/LatticeTurnPinLaw", "shoelace", "(JJJJJJ)J"⟩ : MethodName) (head1 (Jvm.Cond.code (⟨"com/example/edgeconomy/edgeconomy/layouts/LatticeTurnPinLaw", "shoelace", "(JJJJJJ)J"⟩ : MethodName) method_2_code 18 (some .long) :: ws) ({ frames := 0, cells := 0, slots := 0, locals := 0 } : Room)) (fun a U => a = #[(.long p1), (.long p2), (.long p3), (.long p4), (.long p5), (.long p6)] ∧ Z.Warmed39 U.vm ∧ U.heap = h0) (fun _ _ _ _ _ => True) (fun _ U o U' => ∃ v L, o = .returned v ∧ Q2 Z p1 p2 p3 p4 p5 p6 h0 n0 v U'.heap L ∧ FrameEnd U o U' L ({ frames := 0, cells := 0, slots := 0, locals := 0 } : Room).cells ({ frames := 0, cells := 0, slots := 0, locals := 0 } : Room).slots) := by
  refine MetFree.of_bodySF (plainFor_of_name pn_2) hisR ?_
  intro p e s m args below meth c s₁ Bd hml0 hP hK
  obtain ⟨rfl, hZ, hh⟩ := hP
  have hx := Bd.exec
  have hby := Bd.bytes
  have hml : c.maxLocals = 18 := hml0
  have hown : s.vm.findClass "com/example/edgeconomy/edgeconomy/layouts/LatticeTurnPinLaw" = some m.cls := findClass_of_methodNamed Bd.named
  have hnm := (name_of_methodNamed Bd.named Bd.method).1
  have X0 : Stand p l e ({ frames := 0, cells := 0, slots := 0, locals := 0 } : Room) s m #[(.long p1), (.long p2), (.long p3), (.long p4), (.long p5), (.long p6)] below meth c s₁ [] 0 0 := Stand.of_body Bd
  have e0 : s₁.heap = h0 := by rw [← hh, Bd.state]; rfl
  have N0 := Fr.nil n0
  have pre0 : ∀ t, Steps p.tables e below (s₁.setTop (mkF m 0 #[.val (.long p1), .second, .val (.long p2), .second, .val (.long p3), .second, .val (.long p4), .second, .val (.long p5), .second, .val (.long p6), .second, .unset, .unset, .unset, .unset, .unset, .unset] [])) t → Steps p.tables e below (s₁.setTop (entryFrame m #[(.long p1), (.long p2), (.long p3), (.long p4), (.long p5), (.long p6)] 18)) t := fun t k => castTop (ef_2 m p1 p2 p3 p4 p5 p6) k
  obtain ⟨fs, hr, hrun, hended, hW, hsame⟩ := X0.leave (v := some (.long (F2_0 p1 p2 p3 p4 p5 p6))) (fun h => by rw [Bd.returns] at h; cases h)
  refine ⟨_, _, pre0 _ ?_, hrun, hended, _, _, rfl, ?_, ⟨_, rfl⟩, hW, hsame.mono (by decide) (by decide)⟩
  · have j0 : ∀ (hF : F2_0 p1 p2 p3 p4 p5 p6 = F2_0 p1 p2 p3 p4 p5 p6), Steps p.tables e below (s₁.setTop (mkF m 0 #[.val (.long p1), .second, .val (.long p2), .second, .val (.long p3), .second, .val (.long p4), .second, .val (.long p5), .second, .val (.long p6), .second, .unset, .unset, .unset, .unset, .unset, .unset] [])) (s₁.setFrames fs) := by
      intro hF
      show Steps p.tables e below (s₁.setTop (mkF m 0 #[.val (.long p1), .second, .val (.long p2), .second, .val (.long p3), .second, .val (.long p4), .second, .val (.long p5), .second, .val (.long p6), .second, .unset, .unset, .unset, .unset, .unset, .unset] [])) _
      refine XS.lloadN X0.here hx rfl (hb hby d2_0) rfl ?_
      show Steps p.tables e below (s₁.setTop (mkF m 1 #[.val (.long p1), .second, .val (.long p2), .second, .val (.long p3), .second, .val (.long p4), .second, .val (.long p5), .second, .val (.long p6), .second, .unset, .unset, .unset, .unset, .unset, .unset] [(.long p1)])) _
      refine XS.lload X0.here hx rfl (hb hby d2_1) rfl ?_
      show Steps p.tables e below (s₁.setTop (mkF m 3 #[.val (.long p1), .second, .val (.long p2), .second, .val (.long p3), .second, .val (.long p4), .second, .val (.long p5), .second, .val (.long p6), .second, .unset, .unset, .unset, .unset, .unset, .unset] [(.long p4), (.long p1)])) _
      refine XS.lmul X0.here hx rfl (hb hby d2_3) rfl ?_
      show Steps p.tables e below (s₁.setTop (mkF m 4 #[.val (.long p1), .second, .val (.long p2), .second, .val (.long p3), .second, .val (.long p4), .second, .val (.long p5), .second, .val (.long p6), .second, .unset, .unset, .unset, .unset, .unset, .unset] [(.long (p1 * p4))])) _
      refine XS.lload X0.here hx rfl (hb hby d2_4) rfl ?_
      show Steps p.tables e below (s₁.setTop (mkF m 6 #[.val (.long p1), .second, .val (.long p2), .second, .val (.long p3), .second, .val (.long p4), .second, .val (.long p5), .second, .val (.long p6), .second, .unset, .unset, .unset, .unset, .unset, .unset] [(.long p3), (.long (p1 * p4))])) _
      refine XS.lloadN X0.here hx rfl (hb hby d2_6) rfl ?_
      show Steps p.tables e below (s₁.setTop (mkF m 7 #[.val (.long p1), .second, .val (.long p2), .second, .val (.long p3), .second, .val (.long p4), .second, .val (.long p5), .second, .val (.long p6), .second, .unset, .unset, .unset, .unset, .unset, .unset] [(.long p2), (.long p3), (.long (p1 * p4))])) _
      refine XS.lmul X0.here hx rfl (hb hby d2_7) rfl ?_
      show Steps p.tables e below (s₁.setTop (mkF m 8 #[.val (.long p1), .second, .val (.long p2), .second, .val (.long p3), .second, .val (.long p4), .second, .val (.long p5), .second, .val (.long p6), .second, .unset, .unset, .unset, .unset, .unset, .unset] [(.long (p3 * p2)), (.long (p1 * p4))])) _
      refine XS.lsub X0.here hx rfl (hb hby d2_8) rfl ?_
      show Steps p.tables e below (s₁.setTop (mkF m 9 #[.val (.long p1), .second, .val (.long p2), .second, .val (.long p3), .second, .val (.long p4), .second, .val (.long p5), .second, .val (.long p6), .second, .unset, .unset, .unset, .unset, .unset, .unset] [(.long ((p1 * p4) - (p3 * p2)))])) _
      refine XS.lstore X0.here hx rfl (hb hby d2_9) rfl (l' := #[.val (.long p1), .second, .val (.long p2), .second, .val (.long p3), .second, .val (.long p4), .second, .val (.long p5), .second, .val (.long p6), .second, .val (.long ((p1 * p4) - (p3 * p2))), .second, .unset, .unset, .unset, .unset]) rfl ?_
      show Steps p.tables e below (s₁.setTop (mkF m 11 #[.val (.long p1), .second, .val (.long p2), .second, .val (.long p3), .second, .val (.long p4), .second, .val (.long p5), .second, .val (.long p6), .second, .val (.long ((p1 * p4) - (p3 * p2))), .second, .unset, .unset, .unset, .unset] [])) _
      refine XS.lload X0.here hx rfl (hb hby d2_11) rfl ?_
      show Steps p.tables e below (s₁.setTop (mkF m 13 #[.val (.long p1), .second, .val (.long p2), .second, .val (.long p3), .second, .val (.long p4), .second, .val (.long p5), .second, .val (.long p6), .second, .val (.long ((p1 * p4) - (p3 * p2))), .second, .unset, .unset, .unset, .unset] [(.long p3)])) _
      refine XS.lload X0.here hx rfl (hb hby d2_13) rfl ?_
      show Steps p.tables e below (s₁.setTop (mkF m 15 #[.val (.long p1), .second, .val (.long p2), .second, .val (.long p3), .second, .val (.long p4), .second, .val (.long p5), .second, .val (.long p6), .second, .val (.long ((p1 * p4) - (p3 * p2))), .second, .unset, .unset, .unset, .unset] [(.long p6), (.long p3)])) _
      refine XS.lmul X0.here hx rfl (hb hby d2_15) rfl ?_
      show Steps p.tables e below (s₁.setTop (mkF m 16 #[.val (.long p1), .second, .val (.long p2), .second, .val (.long p3), .second, .val (.long p4), .second, .val (.long p5), .second, .val (.long p6), .second, .val (.long ((p1 * p4) - (p3 * p2))), .second, .unset, .unset, .unset, .unset] [(.long (p3 * p6))])) _
      refine XS.lload X0.here hx rfl (hb hby d2_16) rfl ?_
      show Steps p.tables e below (s₁.setTop (mkF m 18 #[.val (.long p1), .second, .val (.long p2), .second, .val (.long p3), .second, .val (.long p4), .second, .val (.long p5), .second, .val (.long p6), .second, .val (.long ((p1 * p4) - (p3 * p2))), .second, .unset, .unset, .unset, .unset] [(.long p5), (.long (p3 * p6))])) _
      refine XS.lload X0.here hx rfl (hb hby d2_18) rfl ?_
      show Steps p.tables e below (s₁.setTop (mkF m 20 #[.val (.long p1), .second, .val (.long p2), .second, .val (.long p3), .second, .val (.long p4), .second, .val (.long p5), .second, .val (.long p6), .second, .val (.long ((p1 * p4) - (p3 * p2))), .second, .unset, .unset, .unset, .unset] [(.long p4), (.long p5), (.long (p3 * p6))])) _
      refine XS.lmul X0.here hx rfl (hb hby d2_20) rfl ?_
      show Steps p.tables e below (s₁.setTop (mkF m 21 #[.val (.long p1), .second, .val (.long p2), .second, .val (.long p3), .second, .val (.long p4), .second, .val (.long p5), .second, .val (.long p6), .second, .val (.long ((p1 * p4) - (p3 * p2))), .second, .unset, .unset, .unset, .unset] [(.long (p5 * p4)), (.long (p3 * p6))])) _
      refine XS.lsub X0.here hx rfl (hb hby d2_21) rfl ?_
      show Steps p.tables e below (s₁.setTop (mkF m 22 #[.val (.long p1), .second, .val (.long p2), .second, .val (.long p3), .second, .val (.long p4), .second, .val (.long p5), .second, .val (.long p6), .second, .val (.long ((p1 * p4) - (p3 * p2))), .second, .unset, .unset, .unset, .unset] [(.long ((p3 * p6) - (p5 * p4)))])) _
      refine XS.lstore X0.here hx rfl (hb hby d2_22) rfl (l' := #[.val (.long p1), .second, .val (.long p2), .second, .val (.long p3), .second, .val (.long p4), .second, .val (.long p5), .second, .val (.long p6), .second, .val (.long ((p1 * p4) - (p3 * p2))), .second, .val (.long ((p3 * p6) - (p5 * p4))), .second, .unset, .unset]) rfl ?_
      show Steps p.tables e below (s₁.setTop (mkF m 24 #[.val (.long p1), .second, .val (.long p2), .second, .val (.long p3), .second, .val (.long p4), .second, .val (.long p5), .second, .val (.long p6), .second, .val (.long ((p1 * p4) - (p3 * p2))), .second, .val (.long ((p3 * p6) - (p5 * p4))), .second, .unset, .unset] [])) _
      refine XS.lload X0.here hx rfl (hb hby d2_24) rfl ?_
      show Steps p.tables e below (s₁.setTop (mkF m 26 #[.val (.long p1), .second, .val (.long p2), .second, .val (.long p3), .second, .val (.long p4), .second, .val (.long p5), .second, .val (.long p6), .second, .val (.long ((p1 * p4) - (p3 * p2))), .second, .val (.long ((p3 * p6) - (p5 * p4))), .second, .unset, .unset] [(.long p5)])) _
      refine XS.lloadN X0.here hx rfl (hb hby d2_26) rfl ?_
      show Steps p.tables e below (s₁.setTop (mkF m 27 #[.val (.long p1), .second, .val (.long p2), .second, .val (.long p3), .second, .val (.long p4), .second, .val (.long p5), .second, .val (.long p6), .second, .val (.long ((p1 * p4) - (p3 * p2))), .second, .val (.long ((p3 * p6) - (p5 * p4))), .second, .unset, .unset] [(.long p2), (.long p5)])) _
      refine XS.lmul X0.here hx rfl (hb hby d2_27) rfl ?_
      show Steps p.tables e below (s₁.setTop (mkF m 28 #[.val (.long p1), .second, .val (.long p2), .second, .val (.long p3), .second, .val (.long p4), .second, .val (.long p5), .second, .val (.long p6), .second, .val (.long ((p1 * p4) - (p3 * p2))), .second, .val (.long ((p3 * p6) - (p5 * p4))), .second, .unset, .unset] [(.long (p5 * p2))])) _
      refine XS.lloadN X0.here hx rfl (hb hby d2_28) rfl ?_
      show Steps p.tables e below (s₁.setTop (mkF m 29 #[.val (.long p1), .second, .val (.long p2), .second, .val (.long p3), .second, .val (.long p4), .second, .val (.long p5), .second, .val (.long p6), .second, .val (.long ((p1 * p4) - (p3 * p2))), .second, .val (.long ((p3 * p6) - (p5 * p4))), .second, .unset, .unset] [(.long p1), (.long (p5 * p2))])) _
      refine XS.lload X0.here hx rfl (hb hby d2_29) rfl ?_
      show Steps p.tables e below (s₁.setTop (mkF m 31 #[.val (.long p1), .second, .val (.long p2), .second, .val (.long p3), .second, .val (.long p4), .second, .val (.long p5), .second, .val (.long p6), .second, .val (.long ((p1 * p4) - (p3 * p2))), .second, .val (.long ((p3 * p6) - (p5 * p4))), .second, .unset, .unset] [(.long p6), (.long p1), (.long (p5 * p2))])) _
      refine XS.lmul X0.here hx rfl (hb hby d2_31) rfl ?_
      show Steps p.tables e below (s₁.setTop (mkF m 32 #[.val (.long p1), .second, .val (.long p2), .second, .val (.long p3), .second, .val (.long p4), .second, .val (.long p5), .second, .val (.long p6), .second, .val (.long ((p1 * p4) - (p3 * p2))), .second, .val (.long ((p3 * p6) - (p5 * p4))), .second, .unset, .unset] [(.long (p1 * p6)), (.long (p5 * p2))])) _
      refine XS.lsub X0.here hx rfl (hb hby d2_32) rfl ?_
      show Steps p.tables e below (s₁.setTop (mkF m 33 #[.val (.long p1), .second, .val (.long p2), .second, .val (.long p3), .second, .val (.long p4), .second, .val (.long p5), .second, .val (.long p6), .second, .val (.long ((p1 * p4) - (p3 * p2))), .second, .val (.long ((p3 * p6) - (p5 * p4))), .second, .unset, .unset] [(.long ((p5 * p2) - (p1 * p6)))])) _
      refine XS.lstore X0.here hx rfl (hb hby d2_33) rfl (l' := #[.val (.long p1), .second, .val (.long p2), .second, .val (.long p3), .second, .val (.long p4), .second, .val (.long p5), .second, .val (.long p6), .second, .val (.long ((p1 * p4) - (p3 * p2))), .second, .val (.long ((p3 * p6) - (p5 * p4))), .second, .val (.long ((p5 * p2) - (p1 * p6))), .second]) rfl ?_
      show Steps p.tables e below (s₁.setTop (mkF m 35 #[.val (.long p1), .second, .val (.long p2), .second, .val (.long p3), .second, .val (.long p4), .second, .val (.long p5), .second, .val (.long p6), .second, .val (.long ((p1 * p4) - (p3 * p2))), .second, .val (.long ((p3 * p6) - (p5 * p4))), .second, .val (.long ((p5 * p2) - (p1 * p6))), .second] [])) _
      refine XS.lload X0.here hx rfl (hb hby d2_35) rfl ?_
      show Steps p.tables e below (s₁.setTop (mkF m 37 #[.val (.long p1), .second, .val (.long p2), .second, .val (.long p3), .second, .val (.long p4), .second, .val (.long p5), .second, .val (.long p6), .second, .val (.long ((p1 * p4) - (p3 * p2))), .second, .val (.long ((p3 * p6) - (p5 * p4))), .second, .val (.long ((p5 * p2) - (p1 * p6))), .second] [(.long ((p1 * p4) - (p3 * p2)))])) _
      refine XS.lload X0.here hx rfl (hb hby d2_37) rfl ?_
      show Steps p.tables e below (s₁.setTop (mkF m 39 #[.val (.long p1), .second, .val (.long p2), .second, .val (.long p3), .second, .val (.long p4), .second, .val (.long p5), .second, .val (.long p6), .second, .val (.long ((p1 * p4) - (p3 * p2))), .second, .val (.long ((p3 * p6) - (p5 * p4))), .second, .val (.long ((p5 * p2) - (p1 * p6))), .second] [(.long ((p3 * p6) - (p5 * p4))), (.long ((p1 * p4) - (p3 * p2)))])) _
      refine XS.ladd X0.here hx rfl (hb hby d2_39) rfl ?_
      show Steps p.tables e below (s₁.setTop (mkF m 40 #[.val (.long p1), .second, .val (.long p2), .second, .val (.long p3), .second, .val (.long p4), .second, .val (.long p5), .second, .val (.long p6), .second, .val (.long ((p1 * p4) - (p3 * p2))), .second, .val (.long ((p3 * p6) - (p5 * p4))), .second, .val (.long ((p5 * p2) - (p1 * p6))), .second] [(.long (((p1 * p4) - (p3 * p2)) + ((p3 * p6) - (p5 * p4))))])) _
      refine XS.lload X0.here hx rfl (hb hby d2_40) rfl ?_
      show Steps p.tables e below (s₁.setTop (mkF m 42 #[.val (.long p1), .second, .val (.long p2), .second, .val (.long p3), .second, .val (.long p4), .second, .val (.long p5), .second, .val (.long p6), .second, .val (.long ((p1 * p4) - (p3 * p2))), .second, .val (.long ((p3 * p6) - (p5 * p4))), .second, .val (.long ((p5 * p2) - (p1 * p6))), .second] [(.long ((p5 * p2) - (p1 * p6))), (.long (((p1 * p4) - (p3 * p2)) + ((p3 * p6) - (p5 * p4))))])) _
      refine XS.ladd X0.here hx rfl (hb hby d2_42) rfl ?_
      show Steps p.tables e below (s₁.setTop (mkF m 43 #[.val (.long p1), .second, .val (.long p2), .second, .val (.long p3), .second, .val (.long p4), .second, .val (.long p5), .second, .val (.long p6), .second, .val (.long ((p1 * p4) - (p3 * p2))), .second, .val (.long ((p3 * p6) - (p5 * p4))), .second, .val (.long ((p5 * p2) - (p1 * p6))), .second] [(.long ((((p1 * p4) - (p3 * p2)) + ((p3 * p6) - (p5 * p4))) + ((p5 * p2) - (p1 * p6))))])) _
      have hv := (hF.trans (by rw [F2_0] : _ = ((((p1 * p4) - (p3 * p2)) + ((p3 * p6) - (p5 * p4))) + ((p5 * p2) - (p1 * p6)))))
      rw [hv] at hr
      jvm_step X0.here [X0.here.top, hx, (hb hby d2_43), X0.method', Bd.returns, narrow]
      first | (intro acts; rw [hr _ acts rfl rfl rfl]) | rw [hr _ _ rfl rfl rfl]
      exact Steps.refl _
    exact j0 rfl
  · show Q2 Z p1 p2 p3 p4 p5 p6 h0 n0 _ s₁.heap _
    rw [e0]
    exact ⟨rfl, N0, rfl⟩
theorem own_turn (a b c d e f : Int64) : F1_0 a b c d e f = F2_0 a b c d e f := by
  show (c - a) * (f - b) - (d - b) * (e - a) = a * d - c * b + (c * f - e * d) + (e * b - a * f)
  grind
theorem pn_0 : plainName "com/example/edgeconomy/edgeconomy/layouts/LatticeTurnPinLaw" = true := by first | (simp [plainName, overriddenIn]; done) | decide +kernel
theorem pd_0_0 : parseMethodDescriptor "(JJJJJJ)J" = some ⟨[.long, .long, .long, .long, .long, .long], some .long⟩ := by decide +kernel
theorem ef_0 (m : MethodId) (x0 : Int64) (x1 : Int64) (x2 : Int64) (x3 : Int64) (x4 : Int64) (x5 : Int64) : entryFrame m #[(.long x0), (.long x1), (.long x2), (.long x3), (.long x4), (.long x5)] maxLocals = mkF m 0 #[.val (.long x0), .second, .val (.long x1), .second, .val (.long x2), .second, .val (.long x3), .second, .val (.long x4), .second, .val (.long x5), .second, .unset, .unset] [] := by first | (simp [entryFrame, mkF, argsToLocals, Value.category, maxLocals]; done) | rfl
def Q0 (Z : State) (q1 : Int64) (q2 : Int64) (q3 : Int64) (q4 : Int64) (q5 : Int64) (q6 : Int64) (h0 : Heap) (n0 : Nat) (v : Option Value) (h : Heap) (L : List Loc) : Prop := v = some (.int (1 : Int32)) ∧ Fr n0 L
set_option maxRecDepth 65536 in
set_option maxHeartbeats 40000000 in
theorem rm0 (l : Launch) (Z : State) (a0 : Array Value) (hw : ∀ d ∈ tables_1, d.before a0 Z = true) (ws : List Jvm.Cond) (q1 : Int64) (q2 : Int64) (q3 : Int64) (q4 : Int64) (q5 : Int64) (q6 : Int64) (h0 : Heap) (n0 : Nat) (Z0 : n0 ≤ h0.size) :
    MetFree l x (head1 (Jvm.Cond.code x code maxLocals ret :: ws) room_1) (fun a U => a = #[(.long q1), (.long q2), (.long q3), (.long q4), (.long q5), (.long q6)] ∧ Z.Warmed39 U.vm ∧ U.heap = h0) (fun _ _ _ _ _ => True) (fun _ U o U' => ∃ v L, o = .returned v ∧ Q0 Z q1 q2 q3 q4 q5 q6 h0 n0 v U'.heap L ∧ FrameEnd U o U' L room_1.cells room_1.slots) := by
  refine MetFree.of_bodySF (plainFor_of_name pn_0) hisR ?_
  intro p e s m args below meth c s₁ Bd hml0 hP hK
  obtain ⟨rfl, hZ, hh⟩ := hP
  have hx := Bd.exec
  have hby := Bd.bytes
  have hml : c.maxLocals = 14 := hml0
  have hown : s.vm.findClass "com/example/edgeconomy/edgeconomy/layouts/LatticeTurnPinLaw" = some m.cls := findClass_of_methodNamed Bd.named
  have hnm := (name_of_methodNamed Bd.named Bd.method).1
  have X0 : Stand p l e room_1 s m #[(.long q1), (.long q2), (.long q3), (.long q4), (.long q5), (.long q6)] below meth c s₁ [] 0 0 := Stand.of_body Bd
  have e0 : s₁.heap = h0 := by rw [← hh, Bd.state]; rfl
  have N0 := Fr.nil n0
  have pre0 : ∀ t, Steps p.tables e below (s₁.setTop (mkF m 0 #[.val (.long q1), .second, .val (.long q2), .second, .val (.long q3), .second, .val (.long q4), .second, .val (.long q5), .second, .val (.long q6), .second, .unset, .unset] [])) t → Steps p.tables e below (s₁.setTop (entryFrame m #[(.long q1), (.long q2), (.long q3), (.long q4), (.long q5), (.long q6)] maxLocals)) t := fun t k => castTop (ef_0 m q1 q2 q3 q4 q5 q6) k
  obtain ⟨_, _, ⟨T7, L7, k7, n7⟩, -, X7, ⟨Lc7, hQ7, l7, y7, z7⟩, st7⟩ := Jvm.LawKit.callS X0 hx (y := (⟨"com/example/edgeconomy/edgeconomy/layouts/Lattice", "turn", "(JJJJJJ)J"⟩ : MethodName)) hown (mvT hZ (hw _ (List.mem_of_getElem? (i := 0) rfl))) (mvT hZ (hw _ (List.mem_of_getElem? (i := 1) rfl))) (mvT hZ (hw _ (List.mem_of_getElem? (i := 2) rfl))) (mvT hZ (hw _ (List.mem_of_getElem? (i := 3) rfl))) (by decide) (backOf (W := 0) (rm1 l Z a0 hw [] q1 q2 q3 q4 q5 q6  h0 n0 Z0) hZ (hw _ (List.mem_of_getElem? (i := 3) rfl)) (hw _ (List.mem_of_getElem? (i := 2) rfl)) (by decide) (by decide)) (g := (mkF m 10 #[.val (.long q1), .second, .val (.long q2), .second, .val (.long q3), .second, .val (.long q4), .second, .val (.long q5), .second, .val (.long q6), .second, .unset, .unset] [(.long q6), (.long q5), (.long q4), (.long q3), (.long q2), (.long q1)])) rfl (by rw [hml]; rfl) (argsL := [(.long q1), (.long q2), (.long q3), (.long q4), (.long q5), (.long q6)]) (rest := []) (lenOf pd_0_0 rfl) rfl (by show 2 * 0 + _ ≤ _; exact Nat.le_of_eq rfl) (hb hby at_10) (fun _ _ => ⟨rfl, e0, (by decide : 0 + 0 ≤ _), (by decide : 0 + 0 ≤ _)⟩)
  dsimp only [Pt.U, Pt.locs, Pt.cells, Pt.slots] at X7 l7 y7 z7 st7 hQ7
  subst l7 y7 z7
  obtain ⟨rfl, N7q, e7q⟩ := hQ7
  have N7 := Fr.app N0 N7q
  have Z7 : n0 ≤ T7.heap.size := by rw [e7q]; exact Z0
  obtain ⟨_, _, ⟨T8, L8, k8, n8⟩, -, X8, ⟨Lc8, hQ8, l8, y8, z8⟩, st8⟩ := Jvm.LawKit.callS X7 hx (y := (⟨"com/example/edgeconomy/edgeconomy/layouts/LatticeTurnPinLaw", "shoelace", "(JJJJJJ)J"⟩ : MethodName)) hown (mvT hZ (hw _ (List.mem_of_getElem? (i := 4) rfl))) (mvT hZ (hw _ (List.mem_of_getElem? (i := 5) rfl))) (mvT hZ (hw _ (List.mem_of_getElem? (i := 6) rfl))) (mvT hZ (hw _ (List.mem_of_getElem? (i := 7) rfl))) (by decide) (backOf (W := 2) (rm2 l Z a0 hw [] q1 q2 q3 q4 q5 q6  T7.heap n0 Z7) hZ (hw _ (List.mem_of_getElem? (i := 7) rfl)) (hw _ (List.mem_of_getElem? (i := 6) rfl)) (by decide) (by decide)) (g := (mkF m 27 #[.val (.long q1), .second, .val (.long q2), .second, .val (.long q3), .second, .val (.long q4), .second, .val (.long q5), .second, .val (.long q6), .second, .val (.long (F1_0 q1 q2 q3 q4 q5 q6)), .second] [(.long q6), (.long q5), (.long q4), (.long q3), (.long q2), (.long q1), (.long (F1_0 q1 q2 q3 q4 q5 q6))])) rfl (by rw [hml]; rfl) (argsL := [(.long q1), (.long q2), (.long q3), (.long q4), (.long q5), (.long q6)]) (rest := [(.long (F1_0 q1 q2 q3 q4 q5 q6))]) (lenOf pd_0_0 rfl) rfl (by show 2 * 0 + _ ≤ _; exact Nat.le_of_eq rfl) (hb hby at_27) (fun _ _ => ⟨rfl, rfl, (by decide : 0 + 0 ≤ _), (by decide : 0 + 0 ≤ _)⟩)
  dsimp only [Pt.U, Pt.locs, Pt.cells, Pt.slots] at X8 l8 y8 z8 st8 hQ8
  subst l8 y8 z8
  obtain ⟨rfl, N8q, e8q⟩ := hQ8
  have N8 := Fr.app N7 N8q
  have Z8 : n0 ≤ T8.heap.size := by rw [e8q]; exact Z7
  obtain ⟨fs, hr, hrun, hended, hW, hsame⟩ := X8.leave (v := some (.int (1 : Int32))) (fun h => by rw [Bd.returns] at h; cases h)
  refine ⟨_, _, pre0 _ ?_, hrun, hended, _, _, rfl, ?_, ⟨_, rfl⟩, hW, hsame.mono (by decide) (by decide)⟩
  · show Steps p.tables e below (s₁.setTop (mkF m 0 #[.val (.long q1), .second, .val (.long q2), .second, .val (.long q3), .second, .val (.long q4), .second, .val (.long q5), .second, .val (.long q6), .second, .unset, .unset] [])) _
    refine XS.lloadN X0.here hx rfl (hb hby at_0) rfl ?_
    show Steps p.tables e below (s₁.setTop (mkF m 1 #[.val (.long q1), .second, .val (.long q2), .second, .val (.long q3), .second, .val (.long q4), .second, .val (.long q5), .second, .val (.long q6), .second, .unset, .unset] [(.long q1)])) _
    refine XS.lloadN X0.here hx rfl (hb hby at_1) rfl ?_
    show Steps p.tables e below (s₁.setTop (mkF m 2 #[.val (.long q1), .second, .val (.long q2), .second, .val (.long q3), .second, .val (.long q4), .second, .val (.long q5), .second, .val (.long q6), .second, .unset, .unset] [(.long q2), (.long q1)])) _
    refine XS.lload X0.here hx rfl (hb hby at_2) rfl ?_
    show Steps p.tables e below (s₁.setTop (mkF m 4 #[.val (.long q1), .second, .val (.long q2), .second, .val (.long q3), .second, .val (.long q4), .second, .val (.long q5), .second, .val (.long q6), .second, .unset, .unset] [(.long q3), (.long q2), (.long q1)])) _
    refine XS.lload X0.here hx rfl (hb hby at_4) rfl ?_
    show Steps p.tables e below (s₁.setTop (mkF m 6 #[.val (.long q1), .second, .val (.long q2), .second, .val (.long q3), .second, .val (.long q4), .second, .val (.long q5), .second, .val (.long q6), .second, .unset, .unset] [(.long q4), (.long q3), (.long q2), (.long q1)])) _
    refine XS.lload X0.here hx rfl (hb hby at_6) rfl ?_
    show Steps p.tables e below (s₁.setTop (mkF m 8 #[.val (.long q1), .second, .val (.long q2), .second, .val (.long q3), .second, .val (.long q4), .second, .val (.long q5), .second, .val (.long q6), .second, .unset, .unset] [(.long q5), (.long q4), (.long q3), (.long q2), (.long q1)])) _
    refine XS.lload X0.here hx rfl (hb hby at_8) rfl ?_
    show Steps p.tables e below (s₁.setTop (mkF m 10 #[.val (.long q1), .second, .val (.long q2), .second, .val (.long q3), .second, .val (.long q4), .second, .val (.long q5), .second, .val (.long q6), .second, .unset, .unset] [(.long q6), (.long q5), (.long q4), (.long q3), (.long q2), (.long q1)])) _
    refine st7 _ ?_
    show Steps p.tables e below (T7.setTop (mkF m 13 #[.val (.long q1), .second, .val (.long q2), .second, .val (.long q3), .second, .val (.long q4), .second, .val (.long q5), .second, .val (.long q6), .second, .unset, .unset] [(.long (F1_0 q1 q2 q3 q4 q5 q6))])) _
    refine XS.lstore X7.here hx rfl (hb hby at_13) rfl (l' := #[.val (.long q1), .second, .val (.long q2), .second, .val (.long q3), .second, .val (.long q4), .second, .val (.long q5), .second, .val (.long q6), .second, .val (.long (F1_0 q1 q2 q3 q4 q5 q6)), .second]) rfl ?_
    show Steps p.tables e below (T7.setTop (mkF m 15 #[.val (.long q1), .second, .val (.long q2), .second, .val (.long q3), .second, .val (.long q4), .second, .val (.long q5), .second, .val (.long q6), .second, .val (.long (F1_0 q1 q2 q3 q4 q5 q6)), .second] [])) _
    refine XS.lload X7.here hx rfl (hb hby at_15) rfl ?_
    show Steps p.tables e below (T7.setTop (mkF m 17 #[.val (.long q1), .second, .val (.long q2), .second, .val (.long q3), .second, .val (.long q4), .second, .val (.long q5), .second, .val (.long q6), .second, .val (.long (F1_0 q1 q2 q3 q4 q5 q6)), .second] [(.long (F1_0 q1 q2 q3 q4 q5 q6))])) _
    refine XS.lloadN X7.here hx rfl (hb hby at_17) rfl ?_
    show Steps p.tables e below (T7.setTop (mkF m 18 #[.val (.long q1), .second, .val (.long q2), .second, .val (.long q3), .second, .val (.long q4), .second, .val (.long q5), .second, .val (.long q6), .second, .val (.long (F1_0 q1 q2 q3 q4 q5 q6)), .second] [(.long q1), (.long (F1_0 q1 q2 q3 q4 q5 q6))])) _
    refine XS.lloadN X7.here hx rfl (hb hby at_18) rfl ?_
    show Steps p.tables e below (T7.setTop (mkF m 19 #[.val (.long q1), .second, .val (.long q2), .second, .val (.long q3), .second, .val (.long q4), .second, .val (.long q5), .second, .val (.long q6), .second, .val (.long (F1_0 q1 q2 q3 q4 q5 q6)), .second] [(.long q2), (.long q1), (.long (F1_0 q1 q2 q3 q4 q5 q6))])) _
    refine XS.lload X7.here hx rfl (hb hby at_19) rfl ?_
    show Steps p.tables e below (T7.setTop (mkF m 21 #[.val (.long q1), .second, .val (.long q2), .second, .val (.long q3), .second, .val (.long q4), .second, .val (.long q5), .second, .val (.long q6), .second, .val (.long (F1_0 q1 q2 q3 q4 q5 q6)), .second] [(.long q3), (.long q2), (.long q1), (.long (F1_0 q1 q2 q3 q4 q5 q6))])) _
    refine XS.lload X7.here hx rfl (hb hby at_21) rfl ?_
    show Steps p.tables e below (T7.setTop (mkF m 23 #[.val (.long q1), .second, .val (.long q2), .second, .val (.long q3), .second, .val (.long q4), .second, .val (.long q5), .second, .val (.long q6), .second, .val (.long (F1_0 q1 q2 q3 q4 q5 q6)), .second] [(.long q4), (.long q3), (.long q2), (.long q1), (.long (F1_0 q1 q2 q3 q4 q5 q6))])) _
    refine XS.lload X7.here hx rfl (hb hby at_23) rfl ?_
    show Steps p.tables e below (T7.setTop (mkF m 25 #[.val (.long q1), .second, .val (.long q2), .second, .val (.long q3), .second, .val (.long q4), .second, .val (.long q5), .second, .val (.long q6), .second, .val (.long (F1_0 q1 q2 q3 q4 q5 q6)), .second] [(.long q5), (.long q4), (.long q3), (.long q2), (.long q1), (.long (F1_0 q1 q2 q3 q4 q5 q6))])) _
    refine XS.lload X7.here hx rfl (hb hby at_25) rfl ?_
    show Steps p.tables e below (T7.setTop (mkF m 27 #[.val (.long q1), .second, .val (.long q2), .second, .val (.long q3), .second, .val (.long q4), .second, .val (.long q5), .second, .val (.long q6), .second, .val (.long (F1_0 q1 q2 q3 q4 q5 q6)), .second] [(.long q6), (.long q5), (.long q4), (.long q3), (.long q2), (.long q1), (.long (F1_0 q1 q2 q3 q4 q5 q6))])) _
    refine st8 _ ?_
    show Steps p.tables e below (T8.setTop (mkF m 30 #[.val (.long q1), .second, .val (.long q2), .second, .val (.long q3), .second, .val (.long q4), .second, .val (.long q5), .second, .val (.long q6), .second, .val (.long (F1_0 q1 q2 q3 q4 q5 q6)), .second] [(.long (F2_0 q1 q2 q3 q4 q5 q6)), (.long (F1_0 q1 q2 q3 q4 q5 q6))])) _
    refine XS.lcmp X8.here hx rfl (hb hby at_30) rfl ?_
    show Steps p.tables e below (T8.setTop (mkF m 31 #[.val (.long q1), .second, .val (.long q2), .second, .val (.long q3), .second, .val (.long q4), .second, .val (.long q5), .second, .val (.long q6), .second, .val (.long (F1_0 q1 q2 q3 q4 q5 q6)), .second] [(.int (lcmpW (F1_0 q1 q2 q3 q4 q5 q6) (F2_0 q1 q2 q3 q4 q5 q6)))])) _
    refine XS.ifNo X8.here hx rfl (hb hby at_31) rfl ((if0 _ _).trans (teq ((lw_eq _ _).mpr (own_turn q1 q2 q3 q4 q5 q6))).2) ?_
    show Steps p.tables e below (T8.setTop (mkF m 34 #[.val (.long q1), .second, .val (.long q2), .second, .val (.long q3), .second, .val (.long q4), .second, .val (.long q5), .second, .val (.long q6), .second, .val (.long (F1_0 q1 q2 q3 q4 q5 q6)), .second] [])) _
    refine XS.iconst X8.here hx rfl (hb hby at_34) ?_
    show Steps p.tables e below (T8.setTop (mkF m 35 #[.val (.long q1), .second, .val (.long q2), .second, .val (.long q3), .second, .val (.long q4), .second, .val (.long q5), .second, .val (.long q6), .second, .val (.long (F1_0 q1 q2 q3 q4 q5 q6)), .second] [(.int (1 : Int32))])) _
    refine XS.goto X8.here hx rfl (pc0 := 35) (pc' := 39) rfl (hb hby at_35) (by decide) (by decide) ?_
    show Steps p.tables e below (T8.setTop (mkF m 39 #[.val (.long q1), .second, .val (.long q2), .second, .val (.long q3), .second, .val (.long q4), .second, .val (.long q5), .second, .val (.long q6), .second, .val (.long (F1_0 q1 q2 q3 q4 q5 q6)), .second] [(.int (1 : Int32))])) _
    exact retN X8 hx (t := .boolean) Bd.returns (by simp) (hb hby at_39) hr
  · show Q0 Z q1 q2 q3 q4 q5 q6 h0 n0 _ T8.heap _
    exact ⟨rfl, N8⟩
set_option maxRecDepth 65536 in
set_option maxHeartbeats 40000000 in
theorem comes_1 {Post : Tables → Env → Array Value → State → Outcome → State → Prop} (hpost : ∀ tb e args s v u, (limb_1_1.after args s (.returned v) u = true ∧ limb_1_2.after args s (.returned v) u = true ∧ True) → FrameEnd s (.returned v) u (Jvm.fieldLocs frame_1_writes args s ++ Jvm.arrayLocs frame_1_arrays args s ++ Jvm.staticLocs frame_1_statics s) 0 0 → Post tb e args s (.returned v) u) :
    ArmFor flags0 classFile x code maxLocals ret World_1 tables_1 room_1 Calls_1 rest_1 Pre_1 Post := by
  intro l hfl _ _ p e ha hc hk s m args below hf hA hF happ hP
  obtain ⟨hcalls, hrest, hpre⟩ := hP
  obtain ⟨-, -, -, hnamed, -, -, -, hat⟩ := (Spec.applies_iff hf).mp happ
  obtain ⟨hg, hn⟩ := and_e (Cond.before_iff.mp (show (Jvm.Cond.and given_1 narrow_1).before args s = true from hpre))
  obtain ⟨g9, g10⟩ := and_e hg
  obtain ⟨g11, g12⟩ := and_e g10
  obtain ⟨g13, g14⟩ := and_e g12
  obtain ⟨g15, g16⟩ := and_e g14
  obtain ⟨g17, g18⟩ := and_e g16
  obtain ⟨g19, g20⟩ := and_e g18
  obtain ⟨w0, w1, w2, w3, w4, w5, rfl⟩ : ∃ w0 w1 w2 w3 w4 w5 : Value, args = #[w0, w1, w2, w3, w4, w5] := by
    have hs : args.size = 6 := by simpa [Cond.value, given_1] using g9
    obtain ⟨L⟩ := args
    match L, hs with
    | [w0, w1, w2, w3, w4, w5], _ => exact ⟨w0, w1, w2, w3, w4, w5, rfl⟩
  have hw := fun d (hd : d ∈ tables_1) => atoms_spec (ws := Jvm.Cond.code x code maxLocals ret :: tables_1) hat d (List.mem_cons_of_mem _ hd)
  have hfit : Fit s := fun {y c} hc i hi => by
    obtain ⟨ha, rfl⟩ := Array.getElem?_eq_some_iff.mp hc
    have q := List.all_eq_true.mp ((Array.all_eq_true_iff_forall_mem.mp hF) _ (Array.getElem_mem ha)) i (List.mem_range.mpr hi)
    simpa [Array.getElem?_eq_getElem hi] using q
  obtain ⟨i0, ei0⟩ := isL_v g11
  obtain rfl : w0 = (.long i0) := Option.some.inj ei0
  obtain ⟨i1, ei1⟩ := isL_v g13
  obtain rfl : w1 = (.long i1) := Option.some.inj ei1
  obtain ⟨i2, ei2⟩ := isL_v g15
  obtain rfl : w2 = (.long i2) := Option.some.inj ei2
  obtain ⟨i3, ei3⟩ := isL_v g17
  obtain rfl : w3 = (.long i3) := Option.some.inj ei3
  obtain ⟨i4, ei4⟩ := isL_v g19
  obtain rfl : w4 = (.long i4) := Option.some.inj ei4
  obtain ⟨i5, ei5⟩ := isL_v g20
  obtain rfl : w5 = (.long i5) := Option.some.inj ei5
  obtain ⟨n, o, h1, h2, h3, _, L, rfl, ⟨rfl, N⟩, hq⟩ := rm0 l s _ hw tables_1 i0 i1 i2 i3 i4 i5 s.heap s.heap.size (Nat.le_refl _) p e ha hc hk s m _ below hf ((Spec.applies_iff_loose hf).mp happ).1 ⟨rfl, State.Warmed39.refl s, rfl⟩ trivial
  refine ⟨n, _, h1, h2, h3, hpost _ _ _ _ _ _ ⟨Cond.after_iff.mpr rfl, Cond.after_iff.mpr (eq_i res_at (Term.int_eval (1)) rfl), trivial⟩ ⟨hq.1, hq.2.1, (hq.2.2.sift fun y hy => Or.inr (N y hy)).mono (by decide) (by decide)⟩⟩
theorem main_1_1 : Claimed_1_1 := comes_1 fun _ _ _ _ _ _ h hF => ⟨h.1, hF⟩
theorem main_1_2 : Claimed_1_2 := comes_1 fun _ _ _ _ _ _ h hF => ⟨h.2.1, hF⟩

end Jvm.Pilot.@@N@@
namespace Jvm.Pilot.@@N@@
open Jvm Jvm.ClassFile Sem Op Lib Jvm.Free Jvm.Stand Jvm.Pilot.@@N@@.Jvm.D
/-! MADE BY PROGRAM (witnessworld.py) out of the Statement's table words and the real class files: 9 classes; the members and pool entries that the words name. The judged class is class 1, her method 2. -/
namespace start1
open Jvm.ClassFile
def u (s : String) : CpInfo := .utf8 (stringToUtf16 s)
/-- a pool by its gaps: so many unusable entries, then the entry; so many at the end -/
def gap : Nat → List CpInfo → List CpInfo
  | 0, r => r
  | n + 1, r => .unusable :: gap n r
def poolList (es : List (Nat × CpInfo)) (last : Nat) : List CpInfo := es.foldr (fun e r => gap e.1 (e.2 :: r)) (gap last [])
def pool (es : List (Nat × CpInfo)) (last : Nat) : Array CpInfo := ⟨poolList es last⟩
def fileOf (pool : Array CpInfo) (this : Nat) (attrs : Array Attribute := #[]) (ms : Array MethodInfo := #[]) (fl : Nat := 33) (sup : Nat := 0) (ifs : Array Nat := #[]) (fds : Array FieldInfo := #[]) : ClassFile where
  minorVersion := 0
  majorVersion := 65
  constantPool := pool
  accessFlags := fl
  thisClass := this
  superClass := sup
  interfaces := ifs
  fields := fds
  methods := ms
  attributes := attrs
def plain (name : String) (sup : Option ClassId) : Class where
  name := name
  kind := .ordinary
  loader := none
  accessFlags := 33
  super := sup
  interfaces := #[]
  cf := none
  fields := #[]
  methods := #[]
  instanceTypes := #[]
  staticTypes := #[]
  resolved := #[]
  callSites := []
  init := .initialized
  statics := none
  mirror := none

def pool0 : Array CpInfo := pool [(5, u "<init>"), (0, u "()V"), (1, .class_ 10), (1, u "java/lang/Object")] 113

def k0m0 : Method := { name := "<init>", desc := "()V", sig := { parameters := [], returnType := none }, accessFlags := 1, code := none }
/-- java/lang/Object -/
def k0 : Class := { plain "java/lang/Object" none with
  accessFlags := 33
  interfaces := #[]
  cf := some (fileOf pool0 8 #[] #[{ accessFlags := 1, nameIndex := 5, descriptorIndex := 6, attributes := #[] }] 33 0 #[] #[])
  fields := #[]
  methods := #[k0m0]
  instanceTypes := #[]
  staticTypes := #[]
  resolved := Array.replicate 124 none
  statics := none }

def pool1 : Array CpInfo := pool [(2, .class_ 4), (1, u "java/lang/Object"), (0, u "<init>"), (0, u "()V"), (0, .methodref 8 9), (0, .class_ 10), (0, .nameAndType 11 12), (0, u "com/example/edgeconomy/edgeconomy/layouts/Lattice"), (0, u "turn"), (0, u "(JJJJJJ)J"), (0, .methodref 14 15), (0, .class_ 16), (0, .nameAndType 17 12), (0, u "com/example/edgeconomy/edgeconomy/layouts/LatticeTurnPinLaw"), (0, u "shoelace"), (2, u "law"), (0, u "(JJJJJJ)Z")] 3

def k1m0 : Method := { name := "<init>", desc := "()V", sig := { parameters := [], returnType := none }, accessFlags := 2, code := none }
def k1c1 : Code := { maxStack := 6, maxLocals := 18, code := method_2_code, exceptionTable := #[], attributes := #[] }
def k1m1 : Method := { name := "shoelace", desc := "(JJJJJJ)J", sig := { parameters := [.long, .long, .long, .long, .long, .long], returnType := some .long }, accessFlags := 10, code := some k1c1 }
def k1c2 : Code := { maxStack := 14, maxLocals := 14, code := code, exceptionTable := #[], attributes := #[] }
def k1m2 : Method := { name := "law", desc := "(JJJJJJ)Z", sig := { parameters := [.long, .long, .long, .long, .long, .long], returnType := some .boolean }, accessFlags := 9, code := some k1c2 }
/-- com/example/edgeconomy/edgeconomy/layouts/LatticeTurnPinLaw -/
def k1 : Class := { plain "com/example/edgeconomy/edgeconomy/layouts/LatticeTurnPinLaw" (some 0) with
  accessFlags := 49
  interfaces := #[]
  cf := some (fileOf pool1 14 #[] #[{ accessFlags := 2, nameIndex := 5, descriptorIndex := 6, attributes := #[] }, { accessFlags := 10, nameIndex := 17, descriptorIndex := 12, attributes := #[] }, { accessFlags := 9, nameIndex := 20, descriptorIndex := 21, attributes := #[] }] 49 2 #[] #[])
  fields := #[]
  methods := #[k1m0, k1m1, k1m2]
  instanceTypes := #[]
  staticTypes := #[]
  resolved := Array.replicate 25 none
  statics := none }

def pool2 : Array CpInfo := pool [(2, .class_ 4), (1, u "java/lang/Object"), (0, u "<init>"), (0, u "()V"), (7, .class_ 16), (1, u "com/example/edgeconomy/edgeconomy/layouts/Lattice"), (7, u "turn"), (0, u "(JJJJJJ)J")] 2

def k2m0 : Method := { name := "<init>", desc := "()V", sig := { parameters := [], returnType := none }, accessFlags := 2, code := none }
def k2c1 : Code := { maxStack := 8, maxLocals := 12, code := prog_48_method_4_code, exceptionTable := #[], attributes := #[] }
def k2m1 : Method := { name := "turn", desc := "(JJJJJJ)J", sig := { parameters := [.long, .long, .long, .long, .long, .long], returnType := some .long }, accessFlags := 8, code := some k2c1 }
/-- com/example/edgeconomy/edgeconomy/layouts/Lattice -/
def k2 : Class := { plain "com/example/edgeconomy/edgeconomy/layouts/Lattice" (some 0) with
  accessFlags := 32
  interfaces := #[]
  cf := some (fileOf pool2 14 #[] #[{ accessFlags := 2, nameIndex := 5, descriptorIndex := 6, attributes := #[] }, { accessFlags := 8, nameIndex := 24, descriptorIndex := 25, attributes := #[] }] 32 2 #[] #[])
  fields := #[]
  methods := #[k2m0, k2m1]
  instanceTypes := #[]
  staticTypes := #[]
  resolved := Array.replicate 28 none
  statics := none }

def pool3 : Array CpInfo := pool [(1, u "java/lang/Cloneable"), (0, .class_ 1), (0, u "java/lang/Object"), (0, .class_ 3)] 3

/-- java/lang/Cloneable -/
def k3 : Class := { plain "java/lang/Cloneable" (some 0) with
  accessFlags := 1537
  interfaces := #[]
  cf := some (fileOf pool3 2 #[] #[] 1537 4 #[] #[])
  fields := #[]
  methods := #[]
  instanceTypes := #[]
  staticTypes := #[]
  resolved := Array.replicate 8 none
  statics := none }

def pool4 : Array CpInfo := pool [(1, u "java/io/Serializable"), (0, .class_ 1), (0, u "java/lang/Object"), (0, .class_ 3)] 3

/-- java/io/Serializable -/
def k4 : Class := { plain "java/io/Serializable" (some 0) with
  accessFlags := 1537
  interfaces := #[]
  cf := some (fileOf pool4 2 #[] #[] 1537 4 #[] #[])
  fields := #[]
  methods := #[]
  instanceTypes := #[]
  staticTypes := #[]
  resolved := Array.replicate 8 none
  statics := none }

/-- the primitive byte -/
def k5 : Class := { plain "byte" none with kind := .primitive 'B', accessFlags := 0x411 }
/-- [B -/
def k6 : Class := { plain "[B" (some 0) with kind := .array 5 .byte, interfaces := #[3, 4], accessFlags := 1041 }

/-- the primitive int -/
def k7 : Class := { plain "int" none with kind := .primitive 'I', accessFlags := 0x411 }
/-- [I -/
def k8 : Class := { plain "[I" (some 0) with kind := .array 7 .int, interfaces := #[3, 4], accessFlags := 1041 }

def heap : Heap := #[]
def classes : Array Class := #[k0, k1, k2, k3, k4, k5, k6, k7, k8]
def interned : List (Array UInt16 × Addr) := []
def slotsUsed : Nat := 0
def theMethod : MethodId := ⟨1, 2⟩
def args0 : Array Value := #[.long 5, .long 3, .long 2, .long 7, .long 1, .long 4]
def aboutOver (below : List Frame) : State where
  vm := { classes := classes, interned := interned.toArray }
  heap := heap
  slotsUsed := slotsUsed
  threads := #[{ frames := .invoking theMethod args0 :: below }]
def below0 : List Frame := [.native { method := ⟨0, 0⟩, args := #[] }]
def about1 : State := aboutOver below0
def p0 : Program := .bare "" "" ""
def e0 : Env := launch0.env 0 0 0
theorem w_frames : about1.frames = Frame.invoking theMethod args0 :: below0 := rfl
set_option maxRecDepth 65536 in
theorem w_args : argsFit about1.vm theMethod args0 = true := by decide +kernel
set_option maxRecDepth 65536 in
theorem w_heap : heapFits about1 = true := by decide +kernel
set_option maxRecDepth 65536 in
theorem w_runnable : about1.curStatus? = some .runnable := by decide +kernel
set_option maxRecDepth 65536 in
theorem w_alone : about1.alone = true := by decide +kernel
set_option maxRecDepth 65536 in
theorem w_named : about1.methodNamed? x = some theMethod := by decide +kernel
set_option maxRecDepth 65536 in
theorem w_hears : about1.hears theMethod below0 = true := by decide +kernel
set_option maxRecDepth 65536 in
theorem w_ripe : about1.ripe theMethod args0 below0 = true := by decide +kernel
theorem w_running : about1.status = .running := rfl
set_option maxRecDepth 65536 in
theorem w_room : about1.hasRoom e0.platform room_1 = true :=
  launch0.hasRoom_least _ room_1 (by decide +kernel) (by decide +kernel) (by decide +kernel) (by decide +kernel) (by decide +kernel) (by decide +kernel)
theorem allAtoms_all (ts : List Jvm.Cond) (a : Array Jvm.Value) (st : Jvm.State) : (allAtoms ts).before a st = ts.all (fun c => c.before a st) := by
  induction ts with
  | nil => rfl
  | cons c t ih =>
    show (Jvm.Cond.and c (allAtoms t)).before a st = _
    rw [Jvm.Cond.before_and, ih, List.all_cons]
def words1 : List Jvm.Cond := Jvm.Cond.code x code maxLocals ret :: tables_1
/-- a 'code' word, met by the world's own term for the bytes: nothing is compared byte by byte -/
theorem code_word {y : MethodName} {bytes : ByteArray} {mx : Nat} {rt : Option FieldType} {a : Array Value} {s : State} {m : MethodId} {meth : Method} {c : Code} (h1 : s.methodNamed? y = some m) (h2 : s.vm.method? m = some meth) (h3 : meth.code = some c) (h4 : c.code = bytes)
    (h5 : (c.maxLocals == mx && c.exceptionTable.isEmpty && decide (c.maxStack ≤ mostOperands) && decide (meth.sig.returnType = rt) && !meth.locks && decide (parseMethodDescriptor y.desc = some meth.sig)) = true) : (Jvm.Cond.code y bytes mx rt).before a s = true := by
  simp only [Bool.and_eq_true, beq_iff_eq, Bool.not_eq_true', decide_eq_true_eq] at h5
  obtain ⟨⟨⟨⟨⟨g1, g2⟩, g3⟩, g4⟩, g5⟩, g6⟩ := h5
  simp [Cond.before, Cond.holds, Cond.value, h1, h2, h3, h4, g1, g2, g3, g4, g5, g6]
def isCode : Jvm.Cond → Bool
  | .code _ _ _ _ => true
  | _ => false
theorem all_split {L : List Jvm.Cond} {P : Jvm.Cond → Bool} (h1 : L.all (fun c => isCode c || P c) = true) (h2 : ∀ c ∈ L.filter isCode, P c = true) : L.all P = true := by
  refine List.all_eq_true.mpr fun c hc => ?_
  have h := List.all_eq_true.mp h1 c hc
  rcases Bool.eq_false_or_eq_true (isCode c) with hi | hi
  · exact h2 c (List.mem_filter.mpr ⟨hc, hi⟩)
  · simpa [hi] using h
set_option maxRecDepth 65536 in
theorem w_c0 : (Jvm.Cond.code x code maxLocals ret).before args0 about1 = true := code_word (m := ⟨1, 2⟩) (meth := k1m2) (c := k1c2) (by decide +kernel) rfl rfl rfl (by decide +kernel)
set_option maxRecDepth 65536 in
theorem w_c1 : (Jvm.Cond.code ({ cls := "com/example/edgeconomy/edgeconomy/layouts/Lattice", name := "turn", desc := "(JJJJJJ)J" } : Jvm.MethodName) prog_48_method_4_code (12 : Nat) (Option.some Jvm.ClassFile.FieldType.long)).before args0 about1 = true := code_word (m := ⟨2, 1⟩) (meth := k2m1) (c := k2c1) (by decide +kernel) rfl rfl rfl (by decide +kernel)
set_option maxRecDepth 65536 in
theorem w_c2 : (Jvm.Cond.code ({ cls := "com/example/edgeconomy/edgeconomy/layouts/LatticeTurnPinLaw", name := "shoelace", desc := "(JJJJJJ)J" } : Jvm.MethodName) method_2_code (18 : Nat) (Option.some Jvm.ClassFile.FieldType.long)).before args0 about1 = true := code_word (m := ⟨1, 1⟩) (meth := k1m1) (c := k1c1) (by decide +kernel) rfl rfl rfl (by decide +kernel)
def codes1 : List Jvm.Cond := [Jvm.Cond.code x code maxLocals ret, Jvm.Cond.code ({ cls := "com/example/edgeconomy/edgeconomy/layouts/Lattice", name := "turn", desc := "(JJJJJJ)J" } : Jvm.MethodName) prog_48_method_4_code (12 : Nat) (Option.some Jvm.ClassFile.FieldType.long), Jvm.Cond.code ({ cls := "com/example/edgeconomy/edgeconomy/layouts/LatticeTurnPinLaw", name := "shoelace", desc := "(JJJJJJ)J" } : Jvm.MethodName) method_2_code (18 : Nat) (Option.some Jvm.ClassFile.FieldType.long)]
set_option maxRecDepth 65536 in
theorem codes_eq : words1.filter isCode = codes1 := rfl
theorem w_codes : ∀ c ∈ words1.filter isCode, c.before args0 about1 = true := by
  rw [codes_eq]
  intro c hc
  simp only [codes1, List.mem_cons, List.not_mem_nil, or_false] at hc
  rcases hc with rfl | rfl | rfl
  · exact w_c0
  · exact w_c1
  · exact w_c2
set_option maxRecDepth 65536 in
theorem w_t1 : words1.all (fun c => isCode c || c.before args0 about1) = true := by decide +kernel
theorem w_tables : (allAtoms (Jvm.Cond.code x code maxLocals ret :: tables_1)).before args0 about1 = true := by
  rw [allAtoms_all]
  show words1.all (fun c => c.before args0 about1) = true
  refine all_split ?_ w_codes
  rw [w_t1]
set_option maxRecDepth 65536 in
theorem w_case : (Jvm.Cond.and given_1 narrow_1).before args0 about1 = true := by decide +kernel
theorem w_applies : (headSpec (Jvm.Cond.code x code maxLocals ret :: tables_1) room_1).applies x e0.platform about1 = true :=
  (Spec.applies_iff w_frames).mpr ⟨w_running, w_runnable, w_alone, w_named, w_hears, w_ripe, w_room, w_tables⟩
theorem atStart : AtStart classFile x code maxLocals ret World_1 tables_1 room_1 Calls_1 rest_1 Pre_1 launch0 p0 e0 about1 theMethod args0 below0 :=
  ⟨lists_1, trivial, launch0.admits_env _ _ _, launch0.least_env, fairChoices_fair.cas, fairChoices_fair.clock, w_frames, w_args, w_heap, w_applies, trivial, trivial, w_case⟩
end start1
theorem witness_1 : WitnessClaimed_1 := ⟨start1.p0, start1.e0, start1.about1, start1.theMethod, start1.args0, start1.below0, start1.atStart⟩
end Jvm.Pilot.@@N@@
