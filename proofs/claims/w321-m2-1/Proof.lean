import JvmDerived
import JvmDerived.Pilot.@@N@@Statement
import JvmDerived.Pilot.@@N@@Code
set_option linter.unusedVariables false
set_option linter.unusedSimpArgs false
@@BLOCK:NumsL.lean.txt@@
namespace Jvm.RoadKit
open Sem ClassFile Op Lib Jvm.Stand Jvm.Free Jvm.LawKit
section New
variable {p : Program} {l : Launch} {e : Env} {R : Room} {s : State} {m : MethodId} {args : Array Value} {below : List Frame} {meth : Method} {c : Code} {T : State} {locs : List Loc} {cells slots : Nat}
theorem retI (X : Stand p l e R s m args below meth c T locs cells slots) (hx : p.tables.exec = Jvm.exec) {pc : Nat} {Ls : Array Slot} {z : Int32} {rest : List Value} (hret : meth.sig.returnType = some .int) (hd : decode c.code pc = .ok (.ireturn, 1)) {fs : List Frame}
    (hl : ∀ (f : JFrame) (acts : List Action), f.method = m → f.locked = none → f.entered = [] → (doReturn e (T.setTop f) acts (some (.int z))).1 = T.setFrames fs) : Steps p.tables e below (T.setTop (mkF m pc Ls (.int z :: rest))) (T.setFrames fs) := by
  have hm' : T.vm.method? m = some meth := X.method'
  have hn : narrow .int (.int z) = .int z := rfl
  show Steps p.tables e below (T.setTop { method := m, pc := pc, locals := Ls, stack := _ :: rest, locked := none }) _
  jvm_step X.here [X.here.top, hx, hd, hm', hret, hn]
  first | (intro acts; rw [hl _ acts rfl rfl rfl]) | rw [hl _ _ rfl rfl rfl]
  exact Steps.refl _
end New
end Jvm.RoadKit
namespace Jvm.Pilot.@@N@@
open Jvm Jvm.ClassFile Sem Op Lib Jvm.Free Jvm.Stand Jvm.LawKit Jvm.RoadKit Bundle Jvm.Pilot.@@N@@.Jvm.D
theorem d2_0 : decode method_2_code 0 = .ok (.iload_n 0, 1) := by decide +kernel
theorem d2_1 : decode method_2_code 1 = .ok (.bipush 10, 2) := by decide +kernel
theorem d2_3 : decode method_2_code 3 = .ok (.if_icmp .ge 8, 3) := by decide +kernel
theorem d2_6 : decode method_2_code 6 = .ok (.bipush 48, 2) := by decide +kernel
theorem d2_8 : decode method_2_code 8 = .ok (.iload_n 0, 1) := by decide +kernel
theorem d2_9 : decode method_2_code 9 = .ok (.iadd, 1) := by decide +kernel
theorem d2_10 : decode method_2_code 10 = .ok (.ireturn, 1) := by decide +kernel
theorem d2_11 : decode method_2_code 11 = .ok (.bipush 65, 2) := by decide +kernel
theorem d2_13 : decode method_2_code 13 = .ok (.iload_n 0, 1) := by decide +kernel
theorem d2_14 : decode method_2_code 14 = .ok (.bipush 10, 2) := by decide +kernel
theorem d2_16 : decode method_2_code 16 = .ok (.isub, 1) := by decide +kernel
theorem d2_17 : decode method_2_code 17 = .ok (.iadd, 1) := by decide +kernel
theorem d2_18 : decode method_2_code 18 = .ok (.ireturn, 1) := by decide +kernel
theorem pn_2 : plainName "com/example/presplit/presplit/escape/BinaryEscapeDecodePinLaw" = true := by first | (simp [plainName, overriddenIn]; done) | decide +kernel
theorem ef_2 (m : MethodId) (p1 : Int32) : entryFrame m #[(.int p1)] 1 = mkF m 0 #[.val (.int p1)] [] := by first | (simp [entryFrame, mkF, argsToLocals, Value.category]; done) | rfl
def F2_0 (p1 : Int32) : Int32 := (if p1 < (10 : Int32) then ((48 : Int32) + p1) else ((65 : Int32) + (p1 - (10 : Int32))))
def Q2 (Z : State) (p1 : Int32) (h0 : Heap) (n0 : Nat) (v : Option Value) (h : Heap) (L : List Loc) : Prop := v = some (.int (F2_0 p1)) ∧ Fr n0 L ∧ h = h0
set_option maxRecDepth 65536 in
set_option maxHeartbeats 40000000 in
theorem rm2 (l : Launch) (Z : State) (a0 : Array Value) (hw : ∀ d ∈ tables_1, d.before a0 Z = true) (ws : List Jvm.Cond) (p1 : Int32) (h0 : Heap) (n0 : Nat) (Z0 : n0 ≤ h0.size) :
    MetFree l (⟨"com/example/presplit/presplit/escape/BinaryEscapeDecodePinLaw", "hex", "(I)I"⟩ : MethodName) (head1 (Jvm.Cond.code (⟨"com/example/presplit/presplit/escape/BinaryEscapeDecodePinLaw", "hex", "(I)I"⟩ : MethodName) method_2_code 1 (some .int) :: ws) ({ frames := 0, cells := 0, slots := 0, locals := 0 } : Room)) (fun a U => a = #[(.int p1)] ∧ Z.Warmed39 U.vm ∧ U.heap = h0) (fun _ _ _ _ _ => True) (fun _ U o U' => ∃ v L, o = .returned v ∧ Q2 Z p1 h0 n0 v U'.heap L ∧ FrameEnd U o U' L ({ frames := 0, cells := 0, slots := 0, locals := 0 } : Room).cells ({ frames := 0, cells := 0, slots := 0, locals := 0 } : Room).slots) := by
  refine MetFree.of_bodySF (plainFor_of_name pn_2) hisR ?_
  intro p e s m args below meth c s₁ Bd hml0 hP hK
  obtain ⟨rfl, hZ, hh⟩ := hP
  have hx := Bd.exec
  have hby := Bd.bytes
  have hml : c.maxLocals = 1 := hml0
  have hown : s.vm.findClass "com/example/presplit/presplit/escape/BinaryEscapeDecodePinLaw" = some m.cls := findClass_of_methodNamed Bd.named
  have hnm := (name_of_methodNamed Bd.named Bd.method).1
  have X0 : Stand p l e ({ frames := 0, cells := 0, slots := 0, locals := 0 } : Room) s m #[(.int p1)] below meth c s₁ [] 0 0 := Stand.of_body Bd
  have e0 : s₁.heap = h0 := by rw [← hh, Bd.state]; rfl
  have N0 := Fr.nil n0
  have pre0 : ∀ t, Steps p.tables e below (s₁.setTop (mkF m 0 #[.val (.int p1)] [])) t → Steps p.tables e below (s₁.setTop (entryFrame m #[(.int p1)] 1)) t := fun t k => castTop (ef_2 m p1) k
  obtain ⟨fs, hr, hrun, hended, hW, hsame⟩ := X0.leave (v := some (.int (F2_0 p1))) (fun h => by rw [Bd.returns] at h; cases h) Bd.notSynchronized
  refine ⟨_, _, pre0 _ ?_, hrun, hended, _, _, rfl, ?_, ⟨_, rfl⟩, hW, hsame.mono (by decide) (by decide)⟩
  · have j0 : ∀ (hF : F2_0 p1 = F2_0 p1), Steps p.tables e below (s₁.setTop (mkF m 0 #[.val (.int p1)] [])) (s₁.setFrames fs) := by
      intro hF
      show Steps p.tables e below (s₁.setTop (mkF m 0 #[.val (.int p1)] [])) _
      refine XS.iloadN X0.here hx rfl (hb hby d2_0) rfl ?_
      show Steps p.tables e below (s₁.setTop (mkF m 1 #[.val (.int p1)] [(.int p1)])) _
      refine XS.bipush X0.here hx rfl (hb hby d2_1) ?_
      show Steps p.tables e below (s₁.setTop (mkF m 3 #[.val (.int p1)] [(.int (10 : Int32)), (.int p1)])) _
      by_cases hc3 : p1 < (10 : Int32)
      · refine XS.icmpNo X0.here hx rfl (hb hby d2_3) rfl (tlt hc3).2.1 ?_
        show Steps p.tables e below (s₁.setTop (mkF m 6 #[.val (.int p1)] [])) _
        refine XS.bipush X0.here hx rfl (hb hby d2_6) ?_
        show Steps p.tables e below (s₁.setTop (mkF m 8 #[.val (.int p1)] [(.int (48 : Int32))])) _
        refine XS.iloadN X0.here hx rfl (hb hby d2_8) rfl ?_
        show Steps p.tables e below (s₁.setTop (mkF m 9 #[.val (.int p1)] [(.int p1), (.int (48 : Int32))])) _
        refine XS.iadd X0.here hx rfl (hb hby d2_9) rfl ?_
        show Steps p.tables e below (s₁.setTop (mkF m 10 #[.val (.int p1)] [(.int ((48 : Int32) + p1))])) _
        have hv := (hF.trans (by rw [F2_0, if_pos hc3] : _ = ((48 : Int32) + p1)))
        rw [hv] at hr
        exact retI X0 hx Bd.returns (hb hby d2_10) hr
      · refine XS.icmpYes X0.here hx rfl (pc0 := 3) (pc' := 11) rfl (hb hby d2_3) rfl (flt hc3).2.1 (by decide) (by decide) ?_
        show Steps p.tables e below (s₁.setTop (mkF m 11 #[.val (.int p1)] [])) _
        refine XS.bipush X0.here hx rfl (hb hby d2_11) ?_
        show Steps p.tables e below (s₁.setTop (mkF m 13 #[.val (.int p1)] [(.int (65 : Int32))])) _
        refine XS.iloadN X0.here hx rfl (hb hby d2_13) rfl ?_
        show Steps p.tables e below (s₁.setTop (mkF m 14 #[.val (.int p1)] [(.int p1), (.int (65 : Int32))])) _
        refine XS.bipush X0.here hx rfl (hb hby d2_14) ?_
        show Steps p.tables e below (s₁.setTop (mkF m 16 #[.val (.int p1)] [(.int (10 : Int32)), (.int p1), (.int (65 : Int32))])) _
        refine XS.isub X0.here hx rfl (hb hby d2_16) rfl ?_
        show Steps p.tables e below (s₁.setTop (mkF m 17 #[.val (.int p1)] [(.int (p1 - (10 : Int32))), (.int (65 : Int32))])) _
        refine XS.iadd X0.here hx rfl (hb hby d2_17) rfl ?_
        show Steps p.tables e below (s₁.setTop (mkF m 18 #[.val (.int p1)] [(.int ((65 : Int32) + (p1 - (10 : Int32))))])) _
        have hv := (hF.trans (by rw [F2_0, if_neg hc3] : _ = ((65 : Int32) + (p1 - (10 : Int32)))))
        rw [hv] at hr
        exact retI X0 hx Bd.returns (hb hby d2_18) hr
    exact j0 rfl
  · show Q2 Z p1 h0 n0 _ s₁.heap _
    rw [e0]
    exact ⟨rfl, N0, rfl⟩
theorem d5_0 : decode prog_1_method_5_code 0 = .ok (.iload_n 0, 1) := by decide +kernel
theorem d5_1 : decode prog_1_method_5_code 1 = .ok (.bipush 48, 2) := by decide +kernel
theorem d5_3 : decode prog_1_method_5_code 3 = .ok (.if_icmp .lt 14, 3) := by decide +kernel
theorem d5_6 : decode prog_1_method_5_code 6 = .ok (.iload_n 0, 1) := by decide +kernel
theorem d5_7 : decode prog_1_method_5_code 7 = .ok (.bipush 57, 2) := by decide +kernel
theorem d5_9 : decode prog_1_method_5_code 9 = .ok (.if_icmp .gt 8, 3) := by decide +kernel
theorem d5_12 : decode prog_1_method_5_code 12 = .ok (.iload_n 0, 1) := by decide +kernel
theorem d5_13 : decode prog_1_method_5_code 13 = .ok (.bipush 48, 2) := by decide +kernel
theorem d5_15 : decode prog_1_method_5_code 15 = .ok (.isub, 1) := by decide +kernel
theorem d5_16 : decode prog_1_method_5_code 16 = .ok (.ireturn, 1) := by decide +kernel
theorem d5_17 : decode prog_1_method_5_code 17 = .ok (.iload_n 0, 1) := by decide +kernel
theorem d5_18 : decode prog_1_method_5_code 18 = .ok (.bipush 65, 2) := by decide +kernel
theorem d5_20 : decode prog_1_method_5_code 20 = .ok (.if_icmp .lt 17, 3) := by decide +kernel
theorem d5_23 : decode prog_1_method_5_code 23 = .ok (.iload_n 0, 1) := by decide +kernel
theorem d5_24 : decode prog_1_method_5_code 24 = .ok (.bipush 70, 2) := by decide +kernel
theorem d5_26 : decode prog_1_method_5_code 26 = .ok (.if_icmp .gt 11, 3) := by decide +kernel
theorem d5_29 : decode prog_1_method_5_code 29 = .ok (.iload_n 0, 1) := by decide +kernel
theorem d5_30 : decode prog_1_method_5_code 30 = .ok (.bipush 65, 2) := by decide +kernel
theorem d5_32 : decode prog_1_method_5_code 32 = .ok (.isub, 1) := by decide +kernel
theorem d5_33 : decode prog_1_method_5_code 33 = .ok (.bipush 10, 2) := by decide +kernel
theorem d5_35 : decode prog_1_method_5_code 35 = .ok (.iadd, 1) := by decide +kernel
theorem d5_36 : decode prog_1_method_5_code 36 = .ok (.ireturn, 1) := by decide +kernel
theorem d5_37 : decode prog_1_method_5_code 37 = .ok (.iconst (-1), 1) := by decide +kernel
theorem d5_38 : decode prog_1_method_5_code 38 = .ok (.ireturn, 1) := by decide +kernel
theorem pn_5 : plainName "com/example/presplit/presplit/escape/BinaryEscape" = true := by first | (simp [plainName, overriddenIn]; done) | decide +kernel
theorem ef_5 (m : MethodId) (p1 : Int32) : entryFrame m #[(.int p1)] 1 = mkF m 0 #[.val (.int p1)] [] := by first | (simp [entryFrame, mkF, argsToLocals, Value.category]; done) | rfl
def F5_37 (p1 : Int32) : Int32 := (-1 : Int32)
def F5_17 (p1 : Int32) : Int32 := (if p1 < (65 : Int32) then (F5_37 p1) else (if (70 : Int32) < p1 then (F5_37 p1) else ((p1 - (65 : Int32)) + (10 : Int32))))
def F5_0 (p1 : Int32) : Int32 := (if p1 < (48 : Int32) then (F5_17 p1) else (if (57 : Int32) < p1 then (F5_17 p1) else (p1 - (48 : Int32))))
def Q5 (Z : State) (p1 : Int32) (h0 : Heap) (n0 : Nat) (v : Option Value) (h : Heap) (L : List Loc) : Prop := v = some (.int (F5_0 p1)) ∧ Fr n0 L ∧ h = h0
set_option maxRecDepth 65536 in
set_option maxHeartbeats 40000000 in
theorem rm5 (l : Launch) (Z : State) (a0 : Array Value) (hw : ∀ d ∈ tables_1, d.before a0 Z = true) (ws : List Jvm.Cond) (p1 : Int32) (h0 : Heap) (n0 : Nat) (Z0 : n0 ≤ h0.size) :
    MetFree l (⟨"com/example/presplit/presplit/escape/BinaryEscape", "hexDigitValue", "(B)I"⟩ : MethodName) (head1 (Jvm.Cond.code (⟨"com/example/presplit/presplit/escape/BinaryEscape", "hexDigitValue", "(B)I"⟩ : MethodName) prog_1_method_5_code 1 (some .int) :: ws) ({ frames := 0, cells := 0, slots := 0, locals := 0 } : Room)) (fun a U => a = #[(.int p1)] ∧ Z.Warmed39 U.vm ∧ U.heap = h0) (fun _ _ _ _ _ => True) (fun _ U o U' => ∃ v L, o = .returned v ∧ Q5 Z p1 h0 n0 v U'.heap L ∧ FrameEnd U o U' L ({ frames := 0, cells := 0, slots := 0, locals := 0 } : Room).cells ({ frames := 0, cells := 0, slots := 0, locals := 0 } : Room).slots) := by
  refine MetFree.of_bodySF (plainFor_of_name pn_5) hisR ?_
  intro p e s m args below meth c s₁ Bd hml0 hP hK
  obtain ⟨rfl, hZ, hh⟩ := hP
  have hx := Bd.exec
  have hby := Bd.bytes
  have hml : c.maxLocals = 1 := hml0
  have hown : s.vm.findClass "com/example/presplit/presplit/escape/BinaryEscape" = some m.cls := findClass_of_methodNamed Bd.named
  have hnm := (name_of_methodNamed Bd.named Bd.method).1
  have X0 : Stand p l e ({ frames := 0, cells := 0, slots := 0, locals := 0 } : Room) s m #[(.int p1)] below meth c s₁ [] 0 0 := Stand.of_body Bd
  have e0 : s₁.heap = h0 := by rw [← hh, Bd.state]; rfl
  have N0 := Fr.nil n0
  have pre0 : ∀ t, Steps p.tables e below (s₁.setTop (mkF m 0 #[.val (.int p1)] [])) t → Steps p.tables e below (s₁.setTop (entryFrame m #[(.int p1)] 1)) t := fun t k => castTop (ef_5 m p1) k
  obtain ⟨fs, hr, hrun, hended, hW, hsame⟩ := X0.leave (v := some (.int (F5_0 p1))) (fun h => by rw [Bd.returns] at h; cases h) Bd.notSynchronized
  refine ⟨_, _, pre0 _ ?_, hrun, hended, _, _, rfl, ?_, ⟨_, rfl⟩, hW, hsame.mono (by decide) (by decide)⟩
  · have j37 : ∀ (hF : F5_0 p1 = F5_37 p1), Steps p.tables e below (s₁.setTop (mkF m 37 #[.val (.int p1)] [])) (s₁.setFrames fs) := by
      intro hF
      show Steps p.tables e below (s₁.setTop (mkF m 37 #[.val (.int p1)] [])) _
      refine XS.iconst X0.here hx rfl (hb hby d5_37) ?_
      show Steps p.tables e below (s₁.setTop (mkF m 38 #[.val (.int p1)] [(.int (-1 : Int32))])) _
      have hv := (hF.trans (by rw [F5_37] : _ = (-1 : Int32)))
      rw [hv] at hr
      exact retI X0 hx Bd.returns (hb hby d5_38) hr
    have j17 : ∀ (hF : F5_0 p1 = F5_17 p1), Steps p.tables e below (s₁.setTop (mkF m 17 #[.val (.int p1)] [])) (s₁.setFrames fs) := by
      intro hF
      show Steps p.tables e below (s₁.setTop (mkF m 17 #[.val (.int p1)] [])) _
      refine XS.iloadN X0.here hx rfl (hb hby d5_17) rfl ?_
      show Steps p.tables e below (s₁.setTop (mkF m 18 #[.val (.int p1)] [(.int p1)])) _
      refine XS.bipush X0.here hx rfl (hb hby d5_18) ?_
      show Steps p.tables e below (s₁.setTop (mkF m 20 #[.val (.int p1)] [(.int (65 : Int32)), (.int p1)])) _
      by_cases hc20 : p1 < (65 : Int32)
      · refine XS.icmpYes X0.here hx rfl (pc0 := 20) (pc' := 37) rfl (hb hby d5_20) rfl (tlt hc20).1 (by decide) (by decide) ?_
        exact j37 (hF.trans (by rw [F5_17, if_pos hc20]))
      · refine XS.icmpNo X0.here hx rfl (hb hby d5_20) rfl (flt hc20).1 ?_
        show Steps p.tables e below (s₁.setTop (mkF m 23 #[.val (.int p1)] [])) _
        refine XS.iloadN X0.here hx rfl (hb hby d5_23) rfl ?_
        show Steps p.tables e below (s₁.setTop (mkF m 24 #[.val (.int p1)] [(.int p1)])) _
        refine XS.bipush X0.here hx rfl (hb hby d5_24) ?_
        show Steps p.tables e below (s₁.setTop (mkF m 26 #[.val (.int p1)] [(.int (70 : Int32)), (.int p1)])) _
        by_cases hc26 : (70 : Int32) < p1
        · refine XS.icmpYes X0.here hx rfl (pc0 := 26) (pc' := 37) rfl (hb hby d5_26) rfl (tlt hc26).2.2.1 (by decide) (by decide) ?_
          exact j37 (hF.trans (by rw [F5_17, if_neg hc20, if_pos hc26]))
        · refine XS.icmpNo X0.here hx rfl (hb hby d5_26) rfl (flt hc26).2.2.1 ?_
          show Steps p.tables e below (s₁.setTop (mkF m 29 #[.val (.int p1)] [])) _
          refine XS.iloadN X0.here hx rfl (hb hby d5_29) rfl ?_
          show Steps p.tables e below (s₁.setTop (mkF m 30 #[.val (.int p1)] [(.int p1)])) _
          refine XS.bipush X0.here hx rfl (hb hby d5_30) ?_
          show Steps p.tables e below (s₁.setTop (mkF m 32 #[.val (.int p1)] [(.int (65 : Int32)), (.int p1)])) _
          refine XS.isub X0.here hx rfl (hb hby d5_32) rfl ?_
          show Steps p.tables e below (s₁.setTop (mkF m 33 #[.val (.int p1)] [(.int (p1 - (65 : Int32)))])) _
          refine XS.bipush X0.here hx rfl (hb hby d5_33) ?_
          show Steps p.tables e below (s₁.setTop (mkF m 35 #[.val (.int p1)] [(.int (10 : Int32)), (.int (p1 - (65 : Int32)))])) _
          refine XS.iadd X0.here hx rfl (hb hby d5_35) rfl ?_
          show Steps p.tables e below (s₁.setTop (mkF m 36 #[.val (.int p1)] [(.int ((p1 - (65 : Int32)) + (10 : Int32)))])) _
          have hv := (hF.trans (by rw [F5_17, if_neg hc20, if_neg hc26] : _ = ((p1 - (65 : Int32)) + (10 : Int32))))
          rw [hv] at hr
          exact retI X0 hx Bd.returns (hb hby d5_36) hr
    have j0 : ∀ (hF : F5_0 p1 = F5_0 p1), Steps p.tables e below (s₁.setTop (mkF m 0 #[.val (.int p1)] [])) (s₁.setFrames fs) := by
      intro hF
      show Steps p.tables e below (s₁.setTop (mkF m 0 #[.val (.int p1)] [])) _
      refine XS.iloadN X0.here hx rfl (hb hby d5_0) rfl ?_
      show Steps p.tables e below (s₁.setTop (mkF m 1 #[.val (.int p1)] [(.int p1)])) _
      refine XS.bipush X0.here hx rfl (hb hby d5_1) ?_
      show Steps p.tables e below (s₁.setTop (mkF m 3 #[.val (.int p1)] [(.int (48 : Int32)), (.int p1)])) _
      by_cases hc3 : p1 < (48 : Int32)
      · refine XS.icmpYes X0.here hx rfl (pc0 := 3) (pc' := 17) rfl (hb hby d5_3) rfl (tlt hc3).1 (by decide) (by decide) ?_
        exact j17 (hF.trans (by rw [F5_0, if_pos hc3]))
      · refine XS.icmpNo X0.here hx rfl (hb hby d5_3) rfl (flt hc3).1 ?_
        show Steps p.tables e below (s₁.setTop (mkF m 6 #[.val (.int p1)] [])) _
        refine XS.iloadN X0.here hx rfl (hb hby d5_6) rfl ?_
        show Steps p.tables e below (s₁.setTop (mkF m 7 #[.val (.int p1)] [(.int p1)])) _
        refine XS.bipush X0.here hx rfl (hb hby d5_7) ?_
        show Steps p.tables e below (s₁.setTop (mkF m 9 #[.val (.int p1)] [(.int (57 : Int32)), (.int p1)])) _
        by_cases hc9 : (57 : Int32) < p1
        · refine XS.icmpYes X0.here hx rfl (pc0 := 9) (pc' := 17) rfl (hb hby d5_9) rfl (tlt hc9).2.2.1 (by decide) (by decide) ?_
          exact j17 (hF.trans (by rw [F5_0, if_neg hc3, if_pos hc9]))
        · refine XS.icmpNo X0.here hx rfl (hb hby d5_9) rfl (flt hc9).2.2.1 ?_
          show Steps p.tables e below (s₁.setTop (mkF m 12 #[.val (.int p1)] [])) _
          refine XS.iloadN X0.here hx rfl (hb hby d5_12) rfl ?_
          show Steps p.tables e below (s₁.setTop (mkF m 13 #[.val (.int p1)] [(.int p1)])) _
          refine XS.bipush X0.here hx rfl (hb hby d5_13) ?_
          show Steps p.tables e below (s₁.setTop (mkF m 15 #[.val (.int p1)] [(.int (48 : Int32)), (.int p1)])) _
          refine XS.isub X0.here hx rfl (hb hby d5_15) rfl ?_
          show Steps p.tables e below (s₁.setTop (mkF m 16 #[.val (.int p1)] [(.int (p1 - (48 : Int32)))])) _
          have hv := (hF.trans (by rw [F5_0, if_neg hc3, if_neg hc9] : _ = (p1 - (48 : Int32))))
          rw [hv] at hr
          exact retI X0 hx Bd.returns (hb hby d5_16) hr
    exact j0 rfl
  · show Q5 Z p1 h0 n0 _ s₁.heap _
    rw [e0]
    exact ⟨rfl, N0, rfl⟩
theorem d7_0 : decode jdk_29_method_69_code 0 = .ok (.iload_n 0, 1) := by decide +kernel
theorem d7_1 : decode jdk_29_method_69_code 1 = .ok (.iload_n 1, 1) := by decide +kernel
theorem d7_2 : decode jdk_29_method_69_code 2 = .ok (.if_icmp .gt 7, 3) := by decide +kernel
theorem d7_5 : decode jdk_29_method_69_code 5 = .ok (.iload_n 0, 1) := by decide +kernel
theorem d7_6 : decode jdk_29_method_69_code 6 = .ok (.goto 4, 3) := by decide +kernel
theorem d7_9 : decode jdk_29_method_69_code 9 = .ok (.iload_n 1, 1) := by decide +kernel
theorem d7_10 : decode jdk_29_method_69_code 10 = .ok (.ireturn, 1) := by decide +kernel
theorem ef_7 (m : MethodId) (p1 : Int32) (p2 : Int32) : entryFrame m #[(.int p1), (.int p2)] 2 = mkF m 0 #[.val (.int p1), .val (.int p2)] [] := by first | (simp [entryFrame, mkF, argsToLocals, Value.category]; done) | rfl
def F7_0 (p1 : Int32) (p2 : Int32) : Int32 := (if p2 < p1 then p2 else p1)
def Q7 (Z : State) (p1 : Int32) (p2 : Int32) (h0 : Heap) (n0 : Nat) (v : Option Value) (h : Heap) (L : List Loc) : Prop := v = some (.int (F7_0 p1 p2)) ∧ Fr n0 L ∧ h = h0
set_option maxRecDepth 65536 in
set_option maxHeartbeats 40000000 in
theorem rm7 (l : Launch) (Z : State) (a0 : Array Value) (hw : ∀ d ∈ tables_1, d.before a0 Z = true) (ws : List Jvm.Cond) (p1 : Int32) (p2 : Int32) (h0 : Heap) (n0 : Nat) (Z0 : n0 ≤ h0.size) :
    MetFree l (⟨"java/lang/Math", "min", "(II)I"⟩ : MethodName) (head1 (Jvm.Cond.code (⟨"java/lang/Math", "min", "(II)I"⟩ : MethodName) jdk_29_method_69_code 2 (some .int) :: ws) ({ frames := 0, cells := 0, slots := 0, locals := 0 } : Room)) (fun a U => a = #[(.int p1), (.int p2)] ∧ Z.Warmed39 U.vm ∧ U.heap = h0) (fun _ _ _ _ _ => True) (fun _ U o U' => ∃ v L, o = .returned v ∧ Q7 Z p1 p2 h0 n0 v U'.heap L ∧ FrameEnd U o U' L ({ frames := 0, cells := 0, slots := 0, locals := 0 } : Room).cells ({ frames := 0, cells := 0, slots := 0, locals := 0 } : Room).slots) := by
  refine MetFree.of_bodySF (Jvm.Free.JP.mathPlain rfl (by decide +kernel)) hisR ?_
  intro p e s m args below meth c s₁ Bd hml0 hP hK
  obtain ⟨rfl, hZ, hh⟩ := hP
  have hx := Bd.exec
  have hby := Bd.bytes
  have hml : c.maxLocals = 2 := hml0
  have hown : s.vm.findClass "java/lang/Math" = some m.cls := findClass_of_methodNamed Bd.named
  have hnm := (name_of_methodNamed Bd.named Bd.method).1
  have X0 : Stand p l e ({ frames := 0, cells := 0, slots := 0, locals := 0 } : Room) s m #[(.int p1), (.int p2)] below meth c s₁ [] 0 0 := Stand.of_body Bd
  have e0 : s₁.heap = h0 := by rw [← hh, Bd.state]; rfl
  have N0 := Fr.nil n0
  have pre0 : ∀ t, Steps p.tables e below (s₁.setTop (mkF m 0 #[.val (.int p1), .val (.int p2)] [])) t → Steps p.tables e below (s₁.setTop (entryFrame m #[(.int p1), (.int p2)] 2)) t := fun t k => castTop (ef_7 m p1 p2) k
  obtain ⟨fs, hr, hrun, hended, hW, hsame⟩ := X0.leave (v := some (.int (F7_0 p1 p2))) (fun h => by rw [Bd.returns] at h; cases h) Bd.notSynchronized
  refine ⟨_, _, pre0 _ ?_, hrun, hended, _, _, rfl, ?_, ⟨_, rfl⟩, hW, hsame.mono (by decide) (by decide)⟩
  · have j0 : ∀ (hF : F7_0 p1 p2 = F7_0 p1 p2), Steps p.tables e below (s₁.setTop (mkF m 0 #[.val (.int p1), .val (.int p2)] [])) (s₁.setFrames fs) := by
      intro hF
      show Steps p.tables e below (s₁.setTop (mkF m 0 #[.val (.int p1), .val (.int p2)] [])) _
      refine XS.iloadN X0.here hx rfl (hb hby d7_0) rfl ?_
      show Steps p.tables e below (s₁.setTop (mkF m 1 #[.val (.int p1), .val (.int p2)] [(.int p1)])) _
      refine XS.iloadN X0.here hx rfl (hb hby d7_1) rfl ?_
      show Steps p.tables e below (s₁.setTop (mkF m 2 #[.val (.int p1), .val (.int p2)] [(.int p2), (.int p1)])) _
      by_cases hc2 : p2 < p1
      · refine XS.icmpYes X0.here hx rfl (pc0 := 2) (pc' := 9) rfl (hb hby d7_2) rfl (tlt hc2).2.2.1 (by decide) (by decide) ?_
        show Steps p.tables e below (s₁.setTop (mkF m 9 #[.val (.int p1), .val (.int p2)] [])) _
        refine XS.iloadN X0.here hx rfl (hb hby d7_9) rfl ?_
        show Steps p.tables e below (s₁.setTop (mkF m 10 #[.val (.int p1), .val (.int p2)] [(.int p2)])) _
        have hv := (hF.trans (by rw [F7_0, if_pos hc2] : _ = p2))
        rw [hv] at hr
        exact retI X0 hx Bd.returns (hb hby d7_10) hr
      · refine XS.icmpNo X0.here hx rfl (hb hby d7_2) rfl (flt hc2).2.2.1 ?_
        show Steps p.tables e below (s₁.setTop (mkF m 5 #[.val (.int p1), .val (.int p2)] [])) _
        refine XS.iloadN X0.here hx rfl (hb hby d7_5) rfl ?_
        show Steps p.tables e below (s₁.setTop (mkF m 6 #[.val (.int p1), .val (.int p2)] [(.int p1)])) _
        refine XS.goto X0.here hx rfl (pc0 := 6) (pc' := 10) rfl (hb hby d7_6) (by decide) (by decide) ?_
        show Steps p.tables e below (s₁.setTop (mkF m 10 #[.val (.int p1), .val (.int p2)] [(.int p1)])) _
        have hv := (hF.trans (by rw [F7_0, if_neg hc2] : _ = p1))
        rw [hv] at hr
        exact retI X0 hx Bd.returns (hb hby d7_10) hr
    exact j0 rfl
  · show Q7 Z p1 p2 h0 n0 _ s₁.heap _
    rw [e0]
    exact ⟨rfl, N0, rfl⟩
theorem d1_0 : decode method_3_code 0 = .ok (.iload_n 3, 1) := by decide +kernel
theorem d1_1 : decode method_3_code 1 = .ok (.ifCond .eq 44, 3) := by decide +kernel
theorem d1_45 : decode method_3_code 45 = .ok (.aload_n 0, 1) := by decide +kernel
theorem d1_46 : decode method_3_code 46 = .ok (.iload_n 1, 1) := by decide +kernel
theorem d1_47 : decode method_3_code 47 = .ok (.iload_n 2, 1) := by decide +kernel
theorem d1_48 : decode method_3_code 48 = .ok (.i2b, 1) := by decide +kernel
theorem d1_49 : decode method_3_code 49 = .ok (.bastore, 1) := by decide +kernel
theorem d1_50 : decode method_3_code 50 = .ok (.iload_n 1, 1) := by decide +kernel
theorem d1_51 : decode method_3_code 51 = .ok (.iconst 1, 1) := by decide +kernel
theorem d1_52 : decode method_3_code 52 = .ok (.iadd, 1) := by decide +kernel
theorem d1_53 : decode method_3_code 53 = .ok (.ireturn, 1) := by decide +kernel
theorem pn_1 : plainName "com/example/presplit/presplit/escape/BinaryEscapeDecodePinLaw" = true := by first | (simp [plainName, overriddenIn]; done) | decide +kernel
theorem ef_1 (m : MethodId) (x0 : Addr) (x1 : Int32) (x2 : Int32) (x3 : Int32) : entryFrame m #[(.ref x0), (.int x1), (.int x2), (.int x3)] 4 = mkF m 0 #[.val (.ref x0), .val (.int x1), .val (.int x2), .val (.int x3)] [] := by first | (simp [entryFrame, mkF, argsToLocals, Value.category]; done) | rfl
def Q_rm1_2_0_0 (Z : State) (a1 : Addr) (k1 : ClassId) (u0 : Value) (u1 : Value) (p3 : Int32) (h0 : Heap) (n0 : Nat) (v : Option Value) (h : Heap) (L : List Loc) : Prop := v = some (.int ((0 : Int32) + (1 : Int32))) ∧ Fr n0 L ∧ Keep h0 h [a1] ∧ Arv Z h a1 k1 .byte (2 : Int32) [(.int (nar .byte (p3.toInt8.toInt32))), u1] (.int (0 : Int32))
set_option maxRecDepth 65536 in
set_option maxHeartbeats 40000000 in
theorem rm1_2_0_0 (l : Launch) (Z : State) (a0 : Array Value) (hw : ∀ d ∈ tables_1, d.before a0 Z = true) (ws : List Jvm.Cond) (a1 : Addr) (k1 : ClassId) (u0 : Value) (u1 : Value) (p3 : Int32) (h0 : Heap) (n0 : Nat) (Z0 : n0 ≤ h0.size) (V_a1 : Arv Z h0 a1 k1 .byte (2 : Int32) [u0, u1] (.int (0 : Int32))) (ge_a1 : n0 ≤ a1) :
    MetFree l (⟨"com/example/presplit/presplit/escape/BinaryEscapeDecodePinLaw", "put", "([BIIZ)I"⟩ : MethodName) (head1 (Jvm.Cond.code (⟨"com/example/presplit/presplit/escape/BinaryEscapeDecodePinLaw", "put", "([BIIZ)I"⟩ : MethodName) method_3_code 4 (some .int) :: ws) ({ frames := 1, cells := 0, slots := 0, locals := 30 } : Room)) (fun a U => a = #[(.ref a1), (.int (0 : Int32)), (.int p3), (.int (0 : Int32))] ∧ Z.Warmed39 U.vm ∧ U.heap = h0) (fun _ _ _ _ _ => True) (fun _ U o U' => ∃ v L, o = .returned v ∧ Q_rm1_2_0_0 Z a1 k1 u0 u1 p3 h0 n0 v U'.heap L ∧ FrameEnd U o U' L ({ frames := 1, cells := 0, slots := 0, locals := 30 } : Room).cells ({ frames := 1, cells := 0, slots := 0, locals := 30 } : Room).slots) := by
  refine MetFree.of_bodySF (plainFor_of_name pn_1) hisR ?_
  intro p e s m args below meth c s₁ Bd hml0 hP hK
  obtain ⟨rfl, hZ, hh⟩ := hP
  have hx := Bd.exec
  have hby := Bd.bytes
  have hml : c.maxLocals = 4 := hml0
  have hown : s.vm.findClass "com/example/presplit/presplit/escape/BinaryEscapeDecodePinLaw" = some m.cls := findClass_of_methodNamed Bd.named
  have hnm := (name_of_methodNamed Bd.named Bd.method).1
  have X0 : Stand p l e ({ frames := 1, cells := 0, slots := 0, locals := 30 } : Room) s m #[(.ref a1), (.int (0 : Int32)), (.int p3), (.int (0 : Int32))] below meth c s₁ [] 0 0 := Stand.of_body Bd
  have e0 : s₁.heap = h0 := by rw [← hh, Bd.state]; rfl
  have N0 := Fr.nil n0
  have pre0 : ∀ t, Steps p.tables e below (s₁.setTop (mkF m 0 #[.val (.ref a1), .val (.int (0 : Int32)), .val (.int p3), .val (.int (0 : Int32))] [])) t → Steps p.tables e below (s₁.setTop (entryFrame m #[(.ref a1), (.int (0 : Int32)), (.int p3), (.int (0 : Int32))] 4)) t := fun t k => castTop (ef_1 m a1 (0 : Int32) p3 (0 : Int32)) k
  have K0 : Keep h0 h0 [a1] := Keep.refl _ _
  obtain ⟨cl_q1, Ar_q1, qk_q1, S_q1, Nn_q1, H_q1, G_q1⟩ := id V_a1
  have hin_q1 : ¬ ((0 : Int32) < 0 ∨ cl_q1.slots.size ≤ ((0 : Int32)).toNatClampNeg) := inb_of S_q1 ⟨by decide, by decide⟩
  obtain ⟨T_q1, h_q1, X_q1, e_q1, W_q1, st_q1⟩ := stB X0 hx hZ e0 Ar_q1 (j := (0 : Int32)) hin_q1 (g := (mkF m 49 #[.val (.ref a1), .val (.int (0 : Int32)), .val (.int p3), .val (.int (0 : Int32))] [(.int (p3.toInt8.toInt32)), (.int (0 : Int32)), (.ref a1)])) rfl rfl (hb hby d1_49)
  have V_a1__q1 : Arv Z h_q1 a1 k1 .byte (2 : Int32) [(.int (nar .byte (p3.toInt8.toInt32))), u1] (.int (0 : Int32)) := Arv.set Ar_q1 qk_q1 S_q1 Nn_q1 H_q1 G_q1 (fits_nar_byte _) W_q1 0 rfl (Nat.le_of_ble_eq_true rfl)
  have K_q1 : Keep h0 h_q1 [a1] := K0.wr W_q1 (Or.inl (List.mem_of_getElem? (i := 0) rfl))
  have N_q1 := Fr.snoc X_q1 N0 ge_a1
  obtain ⟨fs, hr, hrun, hended, hW, hsame⟩ := X_q1.leave (v := some (.int ((0 : Int32) + (1 : Int32)))) (fun h => by rw [Bd.returns] at h; cases h) Bd.notSynchronized
  refine ⟨_, _, pre0 _ ?_, hrun, hended, _, _, rfl, ?_, ⟨_, rfl⟩, hW, hsame.mono (by decide) (by decide)⟩
  · show Steps p.tables e below (s₁.setTop (mkF m 0 #[.val (.ref a1), .val (.int (0 : Int32)), .val (.int p3), .val (.int (0 : Int32))] [])) _
    refine XS.iloadN X0.here hx rfl (hb hby d1_0) rfl ?_
    show Steps p.tables e below (s₁.setTop (mkF m 1 #[.val (.ref a1), .val (.int (0 : Int32)), .val (.int p3), .val (.int (0 : Int32))] [(.int (0 : Int32))])) _
    refine XS.ifYes X0.here hx rfl (pc0 := 1) (pc' := 45) rfl (hb hby d1_1) rfl ((if0 _ _).trans (teq (by decide : (0 : Int32) = (0 : Int32))).1) (by decide) (by decide) ?_
    show Steps p.tables e below (s₁.setTop (mkF m 45 #[.val (.ref a1), .val (.int (0 : Int32)), .val (.int p3), .val (.int (0 : Int32))] [])) _
    refine XS.aloadN X0.here hx rfl (hb hby d1_45) rfl rfl ?_
    show Steps p.tables e below (s₁.setTop (mkF m 46 #[.val (.ref a1), .val (.int (0 : Int32)), .val (.int p3), .val (.int (0 : Int32))] [(.ref a1)])) _
    refine XS.iloadN X0.here hx rfl (hb hby d1_46) rfl ?_
    show Steps p.tables e below (s₁.setTop (mkF m 47 #[.val (.ref a1), .val (.int (0 : Int32)), .val (.int p3), .val (.int (0 : Int32))] [(.int (0 : Int32)), (.ref a1)])) _
    refine XS.iloadN X0.here hx rfl (hb hby d1_47) rfl ?_
    show Steps p.tables e below (s₁.setTop (mkF m 48 #[.val (.ref a1), .val (.int (0 : Int32)), .val (.int p3), .val (.int (0 : Int32))] [(.int p3), (.int (0 : Int32)), (.ref a1)])) _
    refine XS.i2b X0.here hx rfl (hb hby d1_48) rfl ?_
    show Steps p.tables e below (s₁.setTop (mkF m 49 #[.val (.ref a1), .val (.int (0 : Int32)), .val (.int p3), .val (.int (0 : Int32))] [(.int (p3.toInt8.toInt32)), (.int (0 : Int32)), (.ref a1)])) _
    refine st_q1 _ ?_
    show Steps p.tables e below (T_q1.setTop (mkF m 50 #[.val (.ref a1), .val (.int (0 : Int32)), .val (.int p3), .val (.int (0 : Int32))] [])) _
    refine XS.iloadN X_q1.here hx rfl (hb hby d1_50) rfl ?_
    show Steps p.tables e below (T_q1.setTop (mkF m 51 #[.val (.ref a1), .val (.int (0 : Int32)), .val (.int p3), .val (.int (0 : Int32))] [(.int (0 : Int32))])) _
    refine XS.iconst X_q1.here hx rfl (hb hby d1_51) ?_
    show Steps p.tables e below (T_q1.setTop (mkF m 52 #[.val (.ref a1), .val (.int (0 : Int32)), .val (.int p3), .val (.int (0 : Int32))] [(.int (1 : Int32)), (.int (0 : Int32))])) _
    refine XS.iadd X_q1.here hx rfl (hb hby d1_52) rfl ?_
    show Steps p.tables e below (T_q1.setTop (mkF m 53 #[.val (.ref a1), .val (.int (0 : Int32)), .val (.int p3), .val (.int (0 : Int32))] [(.int ((0 : Int32) + (1 : Int32)))])) _
    exact retI X_q1 hx Bd.returns (hb hby d1_53) hr
  · show Q_rm1_2_0_0 Z a1 k1 u0 u1 p3 h0 n0 _ T_q1.heap _
    rw [e_q1]
    exact ⟨rfl, N_q1, K_q1, V_a1__q1⟩
def Q_rm1_2_1_0 (Z : State) (a1 : Addr) (k1 : ClassId) (u0 : Value) (u1 : Value) (p3 : Int32) (h0 : Heap) (n0 : Nat) (v : Option Value) (h : Heap) (L : List Loc) : Prop := v = some (.int ((1 : Int32) + (1 : Int32))) ∧ Fr n0 L ∧ Keep h0 h [a1] ∧ Arv Z h a1 k1 .byte (2 : Int32) [u0, (.int (nar .byte (p3.toInt8.toInt32)))] (.int (0 : Int32))
set_option maxRecDepth 65536 in
set_option maxHeartbeats 40000000 in
theorem rm1_2_1_0 (l : Launch) (Z : State) (a0 : Array Value) (hw : ∀ d ∈ tables_1, d.before a0 Z = true) (ws : List Jvm.Cond) (a1 : Addr) (k1 : ClassId) (u0 : Value) (u1 : Value) (p3 : Int32) (h0 : Heap) (n0 : Nat) (Z0 : n0 ≤ h0.size) (V_a1 : Arv Z h0 a1 k1 .byte (2 : Int32) [u0, u1] (.int (0 : Int32))) (ge_a1 : n0 ≤ a1) :
    MetFree l (⟨"com/example/presplit/presplit/escape/BinaryEscapeDecodePinLaw", "put", "([BIIZ)I"⟩ : MethodName) (head1 (Jvm.Cond.code (⟨"com/example/presplit/presplit/escape/BinaryEscapeDecodePinLaw", "put", "([BIIZ)I"⟩ : MethodName) method_3_code 4 (some .int) :: ws) ({ frames := 1, cells := 0, slots := 0, locals := 30 } : Room)) (fun a U => a = #[(.ref a1), (.int (1 : Int32)), (.int p3), (.int (0 : Int32))] ∧ Z.Warmed39 U.vm ∧ U.heap = h0) (fun _ _ _ _ _ => True) (fun _ U o U' => ∃ v L, o = .returned v ∧ Q_rm1_2_1_0 Z a1 k1 u0 u1 p3 h0 n0 v U'.heap L ∧ FrameEnd U o U' L ({ frames := 1, cells := 0, slots := 0, locals := 30 } : Room).cells ({ frames := 1, cells := 0, slots := 0, locals := 30 } : Room).slots) := by
  refine MetFree.of_bodySF (plainFor_of_name pn_1) hisR ?_
  intro p e s m args below meth c s₁ Bd hml0 hP hK
  obtain ⟨rfl, hZ, hh⟩ := hP
  have hx := Bd.exec
  have hby := Bd.bytes
  have hml : c.maxLocals = 4 := hml0
  have hown : s.vm.findClass "com/example/presplit/presplit/escape/BinaryEscapeDecodePinLaw" = some m.cls := findClass_of_methodNamed Bd.named
  have hnm := (name_of_methodNamed Bd.named Bd.method).1
  have X0 : Stand p l e ({ frames := 1, cells := 0, slots := 0, locals := 30 } : Room) s m #[(.ref a1), (.int (1 : Int32)), (.int p3), (.int (0 : Int32))] below meth c s₁ [] 0 0 := Stand.of_body Bd
  have e0 : s₁.heap = h0 := by rw [← hh, Bd.state]; rfl
  have N0 := Fr.nil n0
  have pre0 : ∀ t, Steps p.tables e below (s₁.setTop (mkF m 0 #[.val (.ref a1), .val (.int (1 : Int32)), .val (.int p3), .val (.int (0 : Int32))] [])) t → Steps p.tables e below (s₁.setTop (entryFrame m #[(.ref a1), (.int (1 : Int32)), (.int p3), (.int (0 : Int32))] 4)) t := fun t k => castTop (ef_1 m a1 (1 : Int32) p3 (0 : Int32)) k
  have K0 : Keep h0 h0 [a1] := Keep.refl _ _
  obtain ⟨cl_q1, Ar_q1, qk_q1, S_q1, Nn_q1, H_q1, G_q1⟩ := id V_a1
  have hin_q1 : ¬ ((1 : Int32) < 0 ∨ cl_q1.slots.size ≤ ((1 : Int32)).toNatClampNeg) := inb_of S_q1 ⟨by decide, by decide⟩
  obtain ⟨T_q1, h_q1, X_q1, e_q1, W_q1, st_q1⟩ := stB X0 hx hZ e0 Ar_q1 (j := (1 : Int32)) hin_q1 (g := (mkF m 49 #[.val (.ref a1), .val (.int (1 : Int32)), .val (.int p3), .val (.int (0 : Int32))] [(.int (p3.toInt8.toInt32)), (.int (1 : Int32)), (.ref a1)])) rfl rfl (hb hby d1_49)
  have V_a1__q1 : Arv Z h_q1 a1 k1 .byte (2 : Int32) [u0, (.int (nar .byte (p3.toInt8.toInt32)))] (.int (0 : Int32)) := Arv.set Ar_q1 qk_q1 S_q1 Nn_q1 H_q1 G_q1 (fits_nar_byte _) W_q1 1 rfl (Nat.le_of_ble_eq_true rfl)
  have K_q1 : Keep h0 h_q1 [a1] := K0.wr W_q1 (Or.inl (List.mem_of_getElem? (i := 0) rfl))
  have N_q1 := Fr.snoc X_q1 N0 ge_a1
  obtain ⟨fs, hr, hrun, hended, hW, hsame⟩ := X_q1.leave (v := some (.int ((1 : Int32) + (1 : Int32)))) (fun h => by rw [Bd.returns] at h; cases h) Bd.notSynchronized
  refine ⟨_, _, pre0 _ ?_, hrun, hended, _, _, rfl, ?_, ⟨_, rfl⟩, hW, hsame.mono (by decide) (by decide)⟩
  · show Steps p.tables e below (s₁.setTop (mkF m 0 #[.val (.ref a1), .val (.int (1 : Int32)), .val (.int p3), .val (.int (0 : Int32))] [])) _
    refine XS.iloadN X0.here hx rfl (hb hby d1_0) rfl ?_
    show Steps p.tables e below (s₁.setTop (mkF m 1 #[.val (.ref a1), .val (.int (1 : Int32)), .val (.int p3), .val (.int (0 : Int32))] [(.int (0 : Int32))])) _
    refine XS.ifYes X0.here hx rfl (pc0 := 1) (pc' := 45) rfl (hb hby d1_1) rfl ((if0 _ _).trans (teq (by decide : (0 : Int32) = (0 : Int32))).1) (by decide) (by decide) ?_
    show Steps p.tables e below (s₁.setTop (mkF m 45 #[.val (.ref a1), .val (.int (1 : Int32)), .val (.int p3), .val (.int (0 : Int32))] [])) _
    refine XS.aloadN X0.here hx rfl (hb hby d1_45) rfl rfl ?_
    show Steps p.tables e below (s₁.setTop (mkF m 46 #[.val (.ref a1), .val (.int (1 : Int32)), .val (.int p3), .val (.int (0 : Int32))] [(.ref a1)])) _
    refine XS.iloadN X0.here hx rfl (hb hby d1_46) rfl ?_
    show Steps p.tables e below (s₁.setTop (mkF m 47 #[.val (.ref a1), .val (.int (1 : Int32)), .val (.int p3), .val (.int (0 : Int32))] [(.int (1 : Int32)), (.ref a1)])) _
    refine XS.iloadN X0.here hx rfl (hb hby d1_47) rfl ?_
    show Steps p.tables e below (s₁.setTop (mkF m 48 #[.val (.ref a1), .val (.int (1 : Int32)), .val (.int p3), .val (.int (0 : Int32))] [(.int p3), (.int (1 : Int32)), (.ref a1)])) _
    refine XS.i2b X0.here hx rfl (hb hby d1_48) rfl ?_
    show Steps p.tables e below (s₁.setTop (mkF m 49 #[.val (.ref a1), .val (.int (1 : Int32)), .val (.int p3), .val (.int (0 : Int32))] [(.int (p3.toInt8.toInt32)), (.int (1 : Int32)), (.ref a1)])) _
    refine st_q1 _ ?_
    show Steps p.tables e below (T_q1.setTop (mkF m 50 #[.val (.ref a1), .val (.int (1 : Int32)), .val (.int p3), .val (.int (0 : Int32))] [])) _
    refine XS.iloadN X_q1.here hx rfl (hb hby d1_50) rfl ?_
    show Steps p.tables e below (T_q1.setTop (mkF m 51 #[.val (.ref a1), .val (.int (1 : Int32)), .val (.int p3), .val (.int (0 : Int32))] [(.int (1 : Int32))])) _
    refine XS.iconst X_q1.here hx rfl (hb hby d1_51) ?_
    show Steps p.tables e below (T_q1.setTop (mkF m 52 #[.val (.ref a1), .val (.int (1 : Int32)), .val (.int p3), .val (.int (0 : Int32))] [(.int (1 : Int32)), (.int (1 : Int32))])) _
    refine XS.iadd X_q1.here hx rfl (hb hby d1_52) rfl ?_
    show Steps p.tables e below (T_q1.setTop (mkF m 53 #[.val (.ref a1), .val (.int (1 : Int32)), .val (.int p3), .val (.int (0 : Int32))] [(.int ((1 : Int32) + (1 : Int32)))])) _
    exact retI X_q1 hx Bd.returns (hb hby d1_53) hr
  · show Q_rm1_2_1_0 Z a1 k1 u0 u1 p3 h0 n0 _ T_q1.heap _
    rw [e_q1]
    exact ⟨rfl, N_q1, K_q1, V_a1__q1⟩
theorem d1_4 : decode method_3_code 4 = .ok (.aload_n 0, 1) := by decide +kernel
theorem d1_5 : decode method_3_code 5 = .ok (.iload_n 1, 1) := by decide +kernel
theorem d1_6 : decode method_3_code 6 = .ok (.bipush 92, 2) := by decide +kernel
theorem d1_8 : decode method_3_code 8 = .ok (.bastore, 1) := by decide +kernel
theorem d1_9 : decode method_3_code 9 = .ok (.aload_n 0, 1) := by decide +kernel
theorem d1_10 : decode method_3_code 10 = .ok (.iload_n 1, 1) := by decide +kernel
theorem d1_11 : decode method_3_code 11 = .ok (.iconst 1, 1) := by decide +kernel
theorem d1_12 : decode method_3_code 12 = .ok (.iadd, 1) := by decide +kernel
theorem d1_13 : decode method_3_code 13 = .ok (.bipush 120, 2) := by decide +kernel
theorem d1_15 : decode method_3_code 15 = .ok (.bastore, 1) := by decide +kernel
theorem d1_16 : decode method_3_code 16 = .ok (.aload_n 0, 1) := by decide +kernel
theorem d1_17 : decode method_3_code 17 = .ok (.iload_n 1, 1) := by decide +kernel
theorem d1_18 : decode method_3_code 18 = .ok (.iconst 2, 1) := by decide +kernel
theorem d1_19 : decode method_3_code 19 = .ok (.iadd, 1) := by decide +kernel
theorem d1_20 : decode method_3_code 20 = .ok (.iload_n 2, 1) := by decide +kernel
theorem d1_21 : decode method_3_code 21 = .ok (.iconst 4, 1) := by decide +kernel
theorem d1_22 : decode method_3_code 22 = .ok (.iushr, 1) := by decide +kernel
theorem d1_23 : decode method_3_code 23 = .ok (.invokestatic 7, 3) := by decide +kernel
theorem d1_26 : decode method_3_code 26 = .ok (.i2b, 1) := by decide +kernel
theorem d1_27 : decode method_3_code 27 = .ok (.bastore, 1) := by decide +kernel
theorem d1_28 : decode method_3_code 28 = .ok (.aload_n 0, 1) := by decide +kernel
theorem d1_29 : decode method_3_code 29 = .ok (.iload_n 1, 1) := by decide +kernel
theorem d1_30 : decode method_3_code 30 = .ok (.iconst 3, 1) := by decide +kernel
theorem d1_31 : decode method_3_code 31 = .ok (.iadd, 1) := by decide +kernel
theorem d1_32 : decode method_3_code 32 = .ok (.iload_n 2, 1) := by decide +kernel
theorem d1_33 : decode method_3_code 33 = .ok (.bipush 15, 2) := by decide +kernel
theorem d1_35 : decode method_3_code 35 = .ok (.iand, 1) := by decide +kernel
theorem d1_36 : decode method_3_code 36 = .ok (.invokestatic 7, 3) := by decide +kernel
theorem d1_39 : decode method_3_code 39 = .ok (.i2b, 1) := by decide +kernel
theorem d1_40 : decode method_3_code 40 = .ok (.bastore, 1) := by decide +kernel
theorem d1_41 : decode method_3_code 41 = .ok (.iload_n 1, 1) := by decide +kernel
theorem d1_42 : decode method_3_code 42 = .ok (.iconst 4, 1) := by decide +kernel
theorem d1_43 : decode method_3_code 43 = .ok (.iadd, 1) := by decide +kernel
theorem d1_44 : decode method_3_code 44 = .ok (.ireturn, 1) := by decide +kernel
theorem pd__I_I : parseMethodDescriptor "(I)I" = some ⟨[.int], some .int⟩ := by decide +kernel
def Q_rm1_5_0_1 (Z : State) (a1 : Addr) (k1 : ClassId) (u0 : Value) (u1 : Value) (u2 : Value) (u3 : Value) (u4 : Value) (p3 : Int32) (h0 : Heap) (n0 : Nat) (v : Option Value) (h : Heap) (L : List Loc) : Prop := v = some (.int ((0 : Int32) + (4 : Int32))) ∧ Fr n0 L ∧ Keep h0 h [a1] ∧ Arv Z h a1 k1 .byte (5 : Int32) [(.int (nar .byte (92 : Int32))), (.int (nar .byte (120 : Int32))), (.int (nar .byte ((F2_0 ((p3.toUInt32 >>> ((4 : Int32) &&& 31).toUInt32).toInt32)).toInt8.toInt32))), (.int (nar .byte ((F2_0 (p3 &&& (15 : Int32))).toInt8.toInt32))), u4] (.int (0 : Int32))
set_option maxRecDepth 65536 in
set_option maxHeartbeats 40000000 in
theorem rm1_5_0_1 (l : Launch) (Z : State) (a0 : Array Value) (hw : ∀ d ∈ tables_1, d.before a0 Z = true) (ws : List Jvm.Cond) (a1 : Addr) (k1 : ClassId) (u0 : Value) (u1 : Value) (u2 : Value) (u3 : Value) (u4 : Value) (p3 : Int32) (h0 : Heap) (n0 : Nat) (Z0 : n0 ≤ h0.size) (V_a1 : Arv Z h0 a1 k1 .byte (5 : Int32) [u0, u1, u2, u3, u4] (.int (0 : Int32))) (ge_a1 : n0 ≤ a1) :
    MetFree l (⟨"com/example/presplit/presplit/escape/BinaryEscapeDecodePinLaw", "put", "([BIIZ)I"⟩ : MethodName) (head1 (Jvm.Cond.code (⟨"com/example/presplit/presplit/escape/BinaryEscapeDecodePinLaw", "put", "([BIIZ)I"⟩ : MethodName) method_3_code 4 (some .int) :: ws) ({ frames := 1, cells := 0, slots := 0, locals := 30 } : Room)) (fun a U => a = #[(.ref a1), (.int (0 : Int32)), (.int p3), (.int (1 : Int32))] ∧ Z.Warmed39 U.vm ∧ U.heap = h0) (fun _ _ _ _ _ => True) (fun _ U o U' => ∃ v L, o = .returned v ∧ Q_rm1_5_0_1 Z a1 k1 u0 u1 u2 u3 u4 p3 h0 n0 v U'.heap L ∧ FrameEnd U o U' L ({ frames := 1, cells := 0, slots := 0, locals := 30 } : Room).cells ({ frames := 1, cells := 0, slots := 0, locals := 30 } : Room).slots) := by
  refine MetFree.of_bodySF (plainFor_of_name pn_1) hisR ?_
  intro p e s m args below meth c s₁ Bd hml0 hP hK
  obtain ⟨rfl, hZ, hh⟩ := hP
  have hx := Bd.exec
  have hby := Bd.bytes
  have hml : c.maxLocals = 4 := hml0
  have hown : s.vm.findClass "com/example/presplit/presplit/escape/BinaryEscapeDecodePinLaw" = some m.cls := findClass_of_methodNamed Bd.named
  have hnm := (name_of_methodNamed Bd.named Bd.method).1
  have X0 : Stand p l e ({ frames := 1, cells := 0, slots := 0, locals := 30 } : Room) s m #[(.ref a1), (.int (0 : Int32)), (.int p3), (.int (1 : Int32))] below meth c s₁ [] 0 0 := Stand.of_body Bd
  have e0 : s₁.heap = h0 := by rw [← hh, Bd.state]; rfl
  have N0 := Fr.nil n0
  have pre0 : ∀ t, Steps p.tables e below (s₁.setTop (mkF m 0 #[.val (.ref a1), .val (.int (0 : Int32)), .val (.int p3), .val (.int (1 : Int32))] [])) t → Steps p.tables e below (s₁.setTop (entryFrame m #[(.ref a1), (.int (0 : Int32)), (.int p3), (.int (1 : Int32))] 4)) t := fun t k => castTop (ef_1 m a1 (0 : Int32) p3 (1 : Int32)) k
  have K0 : Keep h0 h0 [a1] := Keep.refl _ _
  obtain ⟨cl_q1, Ar_q1, qk_q1, S_q1, Nn_q1, H_q1, G_q1⟩ := id V_a1
  have hin_q1 : ¬ ((0 : Int32) < 0 ∨ cl_q1.slots.size ≤ ((0 : Int32)).toNatClampNeg) := inb_of S_q1 ⟨by decide, by decide⟩
  obtain ⟨T_q1, h_q1, X_q1, e_q1, W_q1, st_q1⟩ := stB X0 hx hZ e0 Ar_q1 (j := (0 : Int32)) hin_q1 (g := (mkF m 8 #[.val (.ref a1), .val (.int (0 : Int32)), .val (.int p3), .val (.int (1 : Int32))] [(.int (92 : Int32)), (.int (0 : Int32)), (.ref a1)])) rfl rfl (hb hby d1_8)
  have V_a1__q1 : Arv Z h_q1 a1 k1 .byte (5 : Int32) [(.int (nar .byte (92 : Int32))), u1, u2, u3, u4] (.int (0 : Int32)) := Arv.set Ar_q1 qk_q1 S_q1 Nn_q1 H_q1 G_q1 (fits_nar_byte _) W_q1 0 rfl (Nat.le_of_ble_eq_true rfl)
  have K_q1 : Keep h0 h_q1 [a1] := K0.wr W_q1 (Or.inl (List.mem_of_getElem? (i := 0) rfl))
  have N_q1 := Fr.snoc X_q1 N0 ge_a1
  obtain ⟨cl_q2, Ar_q2, qk_q2, S_q2, Nn_q2, H_q2, G_q2⟩ := id V_a1__q1
  have hin_q2 : ¬ (((0 : Int32) + (1 : Int32)) < 0 ∨ cl_q2.slots.size ≤ (((0 : Int32) + (1 : Int32))).toNatClampNeg) := inb_of S_q2 ⟨by decide, by decide⟩
  obtain ⟨T_q2, h_q2, X_q2, e_q2, W_q2, st_q2⟩ := stB X_q1 hx hZ e_q1 Ar_q2 (j := ((0 : Int32) + (1 : Int32))) hin_q2 (g := (mkF m 15 #[.val (.ref a1), .val (.int (0 : Int32)), .val (.int p3), .val (.int (1 : Int32))] [(.int (120 : Int32)), (.int ((0 : Int32) + (1 : Int32))), (.ref a1)])) rfl rfl (hb hby d1_15)
  have V_a1__q2 : Arv Z h_q2 a1 k1 .byte (5 : Int32) [(.int (nar .byte (92 : Int32))), (.int (nar .byte (120 : Int32))), u2, u3, u4] (.int (0 : Int32)) := Arv.set Ar_q2 qk_q2 S_q2 Nn_q2 H_q2 G_q2 (fits_nar_byte _) W_q2 1 rfl (Nat.le_of_ble_eq_true rfl)
  have K_q2 : Keep h0 h_q2 [a1] := K_q1.wr W_q2 (Or.inl (List.mem_of_getElem? (i := 0) rfl))
  have N_q2 := Fr.snoc X_q2 N_q1 ge_a1
  obtain ⟨_, _, ⟨T_q3, L_q3, k_q3, n_q3⟩, -, X_q3, ⟨Lc_q3, hQ_q3, l_q3, y_q3, z_q3⟩, st_q3⟩ := Jvm.LawKit.callS X_q2 hx (y := (⟨"com/example/presplit/presplit/escape/BinaryEscapeDecodePinLaw", "hex", "(I)I"⟩ : MethodName)) hown (mvT hZ (hw _ (List.mem_of_getElem? (i := 5) rfl))) (mvT hZ (hw _ (List.mem_of_getElem? (i := 6) rfl))) (mvT hZ (hw _ (List.mem_of_getElem? (i := 3) rfl))) (mvT hZ (hw _ (List.mem_of_getElem? (i := 7) rfl))) (by decide) (backOf (W := 2) (rm2 l Z a0 hw [] ((p3.toUInt32 >>> ((4 : Int32) &&& 31).toUInt32).toInt32) h_q2 n0 (Nat.le_trans Z0 K_q2.1)) hZ (hw _ (List.mem_of_getElem? (i := 7) rfl)) (hw _ (List.mem_of_getElem? (i := 3) rfl)) (by decide) (by decide)) (g := (mkF m 23 #[.val (.ref a1), .val (.int (0 : Int32)), .val (.int p3), .val (.int (1 : Int32))] [(.int ((p3.toUInt32 >>> ((4 : Int32) &&& 31).toUInt32).toInt32)), (.int ((0 : Int32) + (2 : Int32))), (.ref a1)])) rfl (by rw [hml]; rfl) (argsL := [(.int ((p3.toUInt32 >>> ((4 : Int32) &&& 31).toUInt32).toInt32))]) (rest := [(.int ((0 : Int32) + (2 : Int32))), (.ref a1)]) (lenOf pd__I_I rfl) rfl (by show 2 * 0 + _ ≤ _; exact Nat.le_of_eq rfl) (hb hby d1_23) (fun _ _ => ⟨rfl, e_q2, (by decide : 0 + 0 ≤ _), (by decide : 0 + 0 ≤ _)⟩)
  dsimp only [Pt.U, Pt.locs, Pt.cells, Pt.slots] at X_q3 l_q3 y_q3 z_q3 st_q3 hQ_q3
  subst l_q3 y_q3 z_q3
  obtain ⟨rfl, Nq_q3, eq_q3⟩ := hQ_q3
  have Kq_q3 : Keep h_q2 T_q3.heap [] := by rw [eq_q3]; exact Keep.refl _ _
  have N_q3 := Fr.app N_q2 Nq_q3
  have V_a1__q3 := V_a1__q2.keep Kq_q3 List.not_mem_nil
  have K_q3 : Keep h0 T_q3.heap [a1] := K_q2.trans Kq_q3 (fun x hx => nomatch hx)
  obtain ⟨cl_q4, Ar_q4, qk_q4, S_q4, Nn_q4, H_q4, G_q4⟩ := id V_a1__q3
  have hin_q4 : ¬ (((0 : Int32) + (2 : Int32)) < 0 ∨ cl_q4.slots.size ≤ (((0 : Int32) + (2 : Int32))).toNatClampNeg) := inb_of S_q4 ⟨by decide, by decide⟩
  obtain ⟨T_q4, h_q4, X_q4, e_q4, W_q4, st_q4⟩ := stB X_q3 hx hZ rfl Ar_q4 (j := ((0 : Int32) + (2 : Int32))) hin_q4 (g := (mkF m 27 #[.val (.ref a1), .val (.int (0 : Int32)), .val (.int p3), .val (.int (1 : Int32))] [(.int ((F2_0 ((p3.toUInt32 >>> ((4 : Int32) &&& 31).toUInt32).toInt32)).toInt8.toInt32)), (.int ((0 : Int32) + (2 : Int32))), (.ref a1)])) rfl rfl (hb hby d1_27)
  have V_a1__q4 : Arv Z h_q4 a1 k1 .byte (5 : Int32) [(.int (nar .byte (92 : Int32))), (.int (nar .byte (120 : Int32))), (.int (nar .byte ((F2_0 ((p3.toUInt32 >>> ((4 : Int32) &&& 31).toUInt32).toInt32)).toInt8.toInt32))), u3, u4] (.int (0 : Int32)) := Arv.set Ar_q4 qk_q4 S_q4 Nn_q4 H_q4 G_q4 (fits_nar_byte _) W_q4 2 rfl (Nat.le_of_ble_eq_true rfl)
  have K_q4 : Keep h0 h_q4 [a1] := K_q3.wr W_q4 (Or.inl (List.mem_of_getElem? (i := 0) rfl))
  have N_q4 := Fr.snoc X_q4 N_q3 ge_a1
  obtain ⟨_, _, ⟨T_q5, L_q5, k_q5, n_q5⟩, -, X_q5, ⟨Lc_q5, hQ_q5, l_q5, y_q5, z_q5⟩, st_q5⟩ := Jvm.LawKit.callS X_q4 hx (y := (⟨"com/example/presplit/presplit/escape/BinaryEscapeDecodePinLaw", "hex", "(I)I"⟩ : MethodName)) hown (mvT hZ (hw _ (List.mem_of_getElem? (i := 5) rfl))) (mvT hZ (hw _ (List.mem_of_getElem? (i := 6) rfl))) (mvT hZ (hw _ (List.mem_of_getElem? (i := 3) rfl))) (mvT hZ (hw _ (List.mem_of_getElem? (i := 7) rfl))) (by decide) (backOf (W := 2) (rm2 l Z a0 hw [] (p3 &&& (15 : Int32)) h_q4 n0 (Nat.le_trans Z0 K_q4.1)) hZ (hw _ (List.mem_of_getElem? (i := 7) rfl)) (hw _ (List.mem_of_getElem? (i := 3) rfl)) (by decide) (by decide)) (g := (mkF m 36 #[.val (.ref a1), .val (.int (0 : Int32)), .val (.int p3), .val (.int (1 : Int32))] [(.int (p3 &&& (15 : Int32))), (.int ((0 : Int32) + (3 : Int32))), (.ref a1)])) rfl (by rw [hml]; rfl) (argsL := [(.int (p3 &&& (15 : Int32)))]) (rest := [(.int ((0 : Int32) + (3 : Int32))), (.ref a1)]) (lenOf pd__I_I rfl) rfl (by show 2 * 0 + _ ≤ _; exact Nat.le_of_eq rfl) (hb hby d1_36) (fun _ _ => ⟨rfl, e_q4, (by decide : 0 + 0 ≤ _), (by decide : 0 + 0 ≤ _)⟩)
  dsimp only [Pt.U, Pt.locs, Pt.cells, Pt.slots] at X_q5 l_q5 y_q5 z_q5 st_q5 hQ_q5
  subst l_q5 y_q5 z_q5
  obtain ⟨rfl, Nq_q5, eq_q5⟩ := hQ_q5
  have Kq_q5 : Keep h_q4 T_q5.heap [] := by rw [eq_q5]; exact Keep.refl _ _
  have N_q5 := Fr.app N_q4 Nq_q5
  have V_a1__q5 := V_a1__q4.keep Kq_q5 List.not_mem_nil
  have K_q5 : Keep h0 T_q5.heap [a1] := K_q4.trans Kq_q5 (fun x hx => nomatch hx)
  obtain ⟨cl_q6, Ar_q6, qk_q6, S_q6, Nn_q6, H_q6, G_q6⟩ := id V_a1__q5
  have hin_q6 : ¬ (((0 : Int32) + (3 : Int32)) < 0 ∨ cl_q6.slots.size ≤ (((0 : Int32) + (3 : Int32))).toNatClampNeg) := inb_of S_q6 ⟨by decide, by decide⟩
  obtain ⟨T_q6, h_q6, X_q6, e_q6, W_q6, st_q6⟩ := stB X_q5 hx hZ rfl Ar_q6 (j := ((0 : Int32) + (3 : Int32))) hin_q6 (g := (mkF m 40 #[.val (.ref a1), .val (.int (0 : Int32)), .val (.int p3), .val (.int (1 : Int32))] [(.int ((F2_0 (p3 &&& (15 : Int32))).toInt8.toInt32)), (.int ((0 : Int32) + (3 : Int32))), (.ref a1)])) rfl rfl (hb hby d1_40)
  have V_a1__q6 : Arv Z h_q6 a1 k1 .byte (5 : Int32) [(.int (nar .byte (92 : Int32))), (.int (nar .byte (120 : Int32))), (.int (nar .byte ((F2_0 ((p3.toUInt32 >>> ((4 : Int32) &&& 31).toUInt32).toInt32)).toInt8.toInt32))), (.int (nar .byte ((F2_0 (p3 &&& (15 : Int32))).toInt8.toInt32))), u4] (.int (0 : Int32)) := Arv.set Ar_q6 qk_q6 S_q6 Nn_q6 H_q6 G_q6 (fits_nar_byte _) W_q6 3 rfl (Nat.le_of_ble_eq_true rfl)
  have K_q6 : Keep h0 h_q6 [a1] := K_q5.wr W_q6 (Or.inl (List.mem_of_getElem? (i := 0) rfl))
  have N_q6 := Fr.snoc X_q6 N_q5 ge_a1
  obtain ⟨fs, hr, hrun, hended, hW, hsame⟩ := X_q6.leave (v := some (.int ((0 : Int32) + (4 : Int32)))) (fun h => by rw [Bd.returns] at h; cases h) Bd.notSynchronized
  refine ⟨_, _, pre0 _ ?_, hrun, hended, _, _, rfl, ?_, ⟨_, rfl⟩, hW, hsame.mono (by decide) (by decide)⟩
  · show Steps p.tables e below (s₁.setTop (mkF m 0 #[.val (.ref a1), .val (.int (0 : Int32)), .val (.int p3), .val (.int (1 : Int32))] [])) _
    refine XS.iloadN X0.here hx rfl (hb hby d1_0) rfl ?_
    show Steps p.tables e below (s₁.setTop (mkF m 1 #[.val (.ref a1), .val (.int (0 : Int32)), .val (.int p3), .val (.int (1 : Int32))] [(.int (1 : Int32))])) _
    refine XS.ifNo X0.here hx rfl (hb hby d1_1) rfl ((if0 _ _).trans (feq (by decide : ¬ ((1 : Int32) = (0 : Int32)))).1) ?_
    show Steps p.tables e below (s₁.setTop (mkF m 4 #[.val (.ref a1), .val (.int (0 : Int32)), .val (.int p3), .val (.int (1 : Int32))] [])) _
    refine XS.aloadN X0.here hx rfl (hb hby d1_4) rfl rfl ?_
    show Steps p.tables e below (s₁.setTop (mkF m 5 #[.val (.ref a1), .val (.int (0 : Int32)), .val (.int p3), .val (.int (1 : Int32))] [(.ref a1)])) _
    refine XS.iloadN X0.here hx rfl (hb hby d1_5) rfl ?_
    show Steps p.tables e below (s₁.setTop (mkF m 6 #[.val (.ref a1), .val (.int (0 : Int32)), .val (.int p3), .val (.int (1 : Int32))] [(.int (0 : Int32)), (.ref a1)])) _
    refine XS.bipush X0.here hx rfl (hb hby d1_6) ?_
    show Steps p.tables e below (s₁.setTop (mkF m 8 #[.val (.ref a1), .val (.int (0 : Int32)), .val (.int p3), .val (.int (1 : Int32))] [(.int (92 : Int32)), (.int (0 : Int32)), (.ref a1)])) _
    refine st_q1 _ ?_
    show Steps p.tables e below (T_q1.setTop (mkF m 9 #[.val (.ref a1), .val (.int (0 : Int32)), .val (.int p3), .val (.int (1 : Int32))] [])) _
    refine XS.aloadN X_q1.here hx rfl (hb hby d1_9) rfl rfl ?_
    show Steps p.tables e below (T_q1.setTop (mkF m 10 #[.val (.ref a1), .val (.int (0 : Int32)), .val (.int p3), .val (.int (1 : Int32))] [(.ref a1)])) _
    refine XS.iloadN X_q1.here hx rfl (hb hby d1_10) rfl ?_
    show Steps p.tables e below (T_q1.setTop (mkF m 11 #[.val (.ref a1), .val (.int (0 : Int32)), .val (.int p3), .val (.int (1 : Int32))] [(.int (0 : Int32)), (.ref a1)])) _
    refine XS.iconst X_q1.here hx rfl (hb hby d1_11) ?_
    show Steps p.tables e below (T_q1.setTop (mkF m 12 #[.val (.ref a1), .val (.int (0 : Int32)), .val (.int p3), .val (.int (1 : Int32))] [(.int (1 : Int32)), (.int (0 : Int32)), (.ref a1)])) _
    refine XS.iadd X_q1.here hx rfl (hb hby d1_12) rfl ?_
    show Steps p.tables e below (T_q1.setTop (mkF m 13 #[.val (.ref a1), .val (.int (0 : Int32)), .val (.int p3), .val (.int (1 : Int32))] [(.int ((0 : Int32) + (1 : Int32))), (.ref a1)])) _
    refine XS.bipush X_q1.here hx rfl (hb hby d1_13) ?_
    show Steps p.tables e below (T_q1.setTop (mkF m 15 #[.val (.ref a1), .val (.int (0 : Int32)), .val (.int p3), .val (.int (1 : Int32))] [(.int (120 : Int32)), (.int ((0 : Int32) + (1 : Int32))), (.ref a1)])) _
    refine st_q2 _ ?_
    show Steps p.tables e below (T_q2.setTop (mkF m 16 #[.val (.ref a1), .val (.int (0 : Int32)), .val (.int p3), .val (.int (1 : Int32))] [])) _
    refine XS.aloadN X_q2.here hx rfl (hb hby d1_16) rfl rfl ?_
    show Steps p.tables e below (T_q2.setTop (mkF m 17 #[.val (.ref a1), .val (.int (0 : Int32)), .val (.int p3), .val (.int (1 : Int32))] [(.ref a1)])) _
    refine XS.iloadN X_q2.here hx rfl (hb hby d1_17) rfl ?_
    show Steps p.tables e below (T_q2.setTop (mkF m 18 #[.val (.ref a1), .val (.int (0 : Int32)), .val (.int p3), .val (.int (1 : Int32))] [(.int (0 : Int32)), (.ref a1)])) _
    refine XS.iconst X_q2.here hx rfl (hb hby d1_18) ?_
    show Steps p.tables e below (T_q2.setTop (mkF m 19 #[.val (.ref a1), .val (.int (0 : Int32)), .val (.int p3), .val (.int (1 : Int32))] [(.int (2 : Int32)), (.int (0 : Int32)), (.ref a1)])) _
    refine XS.iadd X_q2.here hx rfl (hb hby d1_19) rfl ?_
    show Steps p.tables e below (T_q2.setTop (mkF m 20 #[.val (.ref a1), .val (.int (0 : Int32)), .val (.int p3), .val (.int (1 : Int32))] [(.int ((0 : Int32) + (2 : Int32))), (.ref a1)])) _
    refine XS.iloadN X_q2.here hx rfl (hb hby d1_20) rfl ?_
    show Steps p.tables e below (T_q2.setTop (mkF m 21 #[.val (.ref a1), .val (.int (0 : Int32)), .val (.int p3), .val (.int (1 : Int32))] [(.int p3), (.int ((0 : Int32) + (2 : Int32))), (.ref a1)])) _
    refine XS.iconst X_q2.here hx rfl (hb hby d1_21) ?_
    show Steps p.tables e below (T_q2.setTop (mkF m 22 #[.val (.ref a1), .val (.int (0 : Int32)), .val (.int p3), .val (.int (1 : Int32))] [(.int (4 : Int32)), (.int p3), (.int ((0 : Int32) + (2 : Int32))), (.ref a1)])) _
    refine XS.iushr X_q2.here hx rfl (hb hby d1_22) rfl ?_
    show Steps p.tables e below (T_q2.setTop (mkF m 23 #[.val (.ref a1), .val (.int (0 : Int32)), .val (.int p3), .val (.int (1 : Int32))] [(.int ((p3.toUInt32 >>> ((4 : Int32) &&& 31).toUInt32).toInt32)), (.int ((0 : Int32) + (2 : Int32))), (.ref a1)])) _
    refine st_q3 _ ?_
    show Steps p.tables e below (T_q3.setTop (mkF m 26 #[.val (.ref a1), .val (.int (0 : Int32)), .val (.int p3), .val (.int (1 : Int32))] [(.int (F2_0 ((p3.toUInt32 >>> ((4 : Int32) &&& 31).toUInt32).toInt32))), (.int ((0 : Int32) + (2 : Int32))), (.ref a1)])) _
    refine XS.i2b X_q3.here hx rfl (hb hby d1_26) rfl ?_
    show Steps p.tables e below (T_q3.setTop (mkF m 27 #[.val (.ref a1), .val (.int (0 : Int32)), .val (.int p3), .val (.int (1 : Int32))] [(.int ((F2_0 ((p3.toUInt32 >>> ((4 : Int32) &&& 31).toUInt32).toInt32)).toInt8.toInt32)), (.int ((0 : Int32) + (2 : Int32))), (.ref a1)])) _
    refine st_q4 _ ?_
    show Steps p.tables e below (T_q4.setTop (mkF m 28 #[.val (.ref a1), .val (.int (0 : Int32)), .val (.int p3), .val (.int (1 : Int32))] [])) _
    refine XS.aloadN X_q4.here hx rfl (hb hby d1_28) rfl rfl ?_
    show Steps p.tables e below (T_q4.setTop (mkF m 29 #[.val (.ref a1), .val (.int (0 : Int32)), .val (.int p3), .val (.int (1 : Int32))] [(.ref a1)])) _
    refine XS.iloadN X_q4.here hx rfl (hb hby d1_29) rfl ?_
    show Steps p.tables e below (T_q4.setTop (mkF m 30 #[.val (.ref a1), .val (.int (0 : Int32)), .val (.int p3), .val (.int (1 : Int32))] [(.int (0 : Int32)), (.ref a1)])) _
    refine XS.iconst X_q4.here hx rfl (hb hby d1_30) ?_
    show Steps p.tables e below (T_q4.setTop (mkF m 31 #[.val (.ref a1), .val (.int (0 : Int32)), .val (.int p3), .val (.int (1 : Int32))] [(.int (3 : Int32)), (.int (0 : Int32)), (.ref a1)])) _
    refine XS.iadd X_q4.here hx rfl (hb hby d1_31) rfl ?_
    show Steps p.tables e below (T_q4.setTop (mkF m 32 #[.val (.ref a1), .val (.int (0 : Int32)), .val (.int p3), .val (.int (1 : Int32))] [(.int ((0 : Int32) + (3 : Int32))), (.ref a1)])) _
    refine XS.iloadN X_q4.here hx rfl (hb hby d1_32) rfl ?_
    show Steps p.tables e below (T_q4.setTop (mkF m 33 #[.val (.ref a1), .val (.int (0 : Int32)), .val (.int p3), .val (.int (1 : Int32))] [(.int p3), (.int ((0 : Int32) + (3 : Int32))), (.ref a1)])) _
    refine XS.bipush X_q4.here hx rfl (hb hby d1_33) ?_
    show Steps p.tables e below (T_q4.setTop (mkF m 35 #[.val (.ref a1), .val (.int (0 : Int32)), .val (.int p3), .val (.int (1 : Int32))] [(.int (15 : Int32)), (.int p3), (.int ((0 : Int32) + (3 : Int32))), (.ref a1)])) _
    refine XS.iand X_q4.here hx rfl (hb hby d1_35) rfl ?_
    show Steps p.tables e below (T_q4.setTop (mkF m 36 #[.val (.ref a1), .val (.int (0 : Int32)), .val (.int p3), .val (.int (1 : Int32))] [(.int (p3 &&& (15 : Int32))), (.int ((0 : Int32) + (3 : Int32))), (.ref a1)])) _
    refine st_q5 _ ?_
    show Steps p.tables e below (T_q5.setTop (mkF m 39 #[.val (.ref a1), .val (.int (0 : Int32)), .val (.int p3), .val (.int (1 : Int32))] [(.int (F2_0 (p3 &&& (15 : Int32)))), (.int ((0 : Int32) + (3 : Int32))), (.ref a1)])) _
    refine XS.i2b X_q5.here hx rfl (hb hby d1_39) rfl ?_
    show Steps p.tables e below (T_q5.setTop (mkF m 40 #[.val (.ref a1), .val (.int (0 : Int32)), .val (.int p3), .val (.int (1 : Int32))] [(.int ((F2_0 (p3 &&& (15 : Int32))).toInt8.toInt32)), (.int ((0 : Int32) + (3 : Int32))), (.ref a1)])) _
    refine st_q6 _ ?_
    show Steps p.tables e below (T_q6.setTop (mkF m 41 #[.val (.ref a1), .val (.int (0 : Int32)), .val (.int p3), .val (.int (1 : Int32))] [])) _
    refine XS.iloadN X_q6.here hx rfl (hb hby d1_41) rfl ?_
    show Steps p.tables e below (T_q6.setTop (mkF m 42 #[.val (.ref a1), .val (.int (0 : Int32)), .val (.int p3), .val (.int (1 : Int32))] [(.int (0 : Int32))])) _
    refine XS.iconst X_q6.here hx rfl (hb hby d1_42) ?_
    show Steps p.tables e below (T_q6.setTop (mkF m 43 #[.val (.ref a1), .val (.int (0 : Int32)), .val (.int p3), .val (.int (1 : Int32))] [(.int (4 : Int32)), (.int (0 : Int32))])) _
    refine XS.iadd X_q6.here hx rfl (hb hby d1_43) rfl ?_
    show Steps p.tables e below (T_q6.setTop (mkF m 44 #[.val (.ref a1), .val (.int (0 : Int32)), .val (.int p3), .val (.int (1 : Int32))] [(.int ((0 : Int32) + (4 : Int32)))])) _
    exact retI X_q6 hx Bd.returns (hb hby d1_44) hr
  · show Q_rm1_5_0_1 Z a1 k1 u0 u1 u2 u3 u4 p3 h0 n0 _ T_q6.heap _
    rw [e_q6]
    exact ⟨rfl, N_q6, K_q6, V_a1__q6⟩
def Q_rm1_5_4_0 (Z : State) (a1 : Addr) (k1 : ClassId) (u0 : Value) (u1 : Value) (u2 : Value) (u3 : Value) (u4 : Value) (p3 : Int32) (h0 : Heap) (n0 : Nat) (v : Option Value) (h : Heap) (L : List Loc) : Prop := v = some (.int ((4 : Int32) + (1 : Int32))) ∧ Fr n0 L ∧ Keep h0 h [a1] ∧ Arv Z h a1 k1 .byte (5 : Int32) [u0, u1, u2, u3, (.int (nar .byte (p3.toInt8.toInt32)))] (.int (0 : Int32))
set_option maxRecDepth 65536 in
set_option maxHeartbeats 40000000 in
theorem rm1_5_4_0 (l : Launch) (Z : State) (a0 : Array Value) (hw : ∀ d ∈ tables_1, d.before a0 Z = true) (ws : List Jvm.Cond) (a1 : Addr) (k1 : ClassId) (u0 : Value) (u1 : Value) (u2 : Value) (u3 : Value) (u4 : Value) (p3 : Int32) (h0 : Heap) (n0 : Nat) (Z0 : n0 ≤ h0.size) (V_a1 : Arv Z h0 a1 k1 .byte (5 : Int32) [u0, u1, u2, u3, u4] (.int (0 : Int32))) (ge_a1 : n0 ≤ a1) :
    MetFree l (⟨"com/example/presplit/presplit/escape/BinaryEscapeDecodePinLaw", "put", "([BIIZ)I"⟩ : MethodName) (head1 (Jvm.Cond.code (⟨"com/example/presplit/presplit/escape/BinaryEscapeDecodePinLaw", "put", "([BIIZ)I"⟩ : MethodName) method_3_code 4 (some .int) :: ws) ({ frames := 1, cells := 0, slots := 0, locals := 30 } : Room)) (fun a U => a = #[(.ref a1), (.int (4 : Int32)), (.int p3), (.int (0 : Int32))] ∧ Z.Warmed39 U.vm ∧ U.heap = h0) (fun _ _ _ _ _ => True) (fun _ U o U' => ∃ v L, o = .returned v ∧ Q_rm1_5_4_0 Z a1 k1 u0 u1 u2 u3 u4 p3 h0 n0 v U'.heap L ∧ FrameEnd U o U' L ({ frames := 1, cells := 0, slots := 0, locals := 30 } : Room).cells ({ frames := 1, cells := 0, slots := 0, locals := 30 } : Room).slots) := by
  refine MetFree.of_bodySF (plainFor_of_name pn_1) hisR ?_
  intro p e s m args below meth c s₁ Bd hml0 hP hK
  obtain ⟨rfl, hZ, hh⟩ := hP
  have hx := Bd.exec
  have hby := Bd.bytes
  have hml : c.maxLocals = 4 := hml0
  have hown : s.vm.findClass "com/example/presplit/presplit/escape/BinaryEscapeDecodePinLaw" = some m.cls := findClass_of_methodNamed Bd.named
  have hnm := (name_of_methodNamed Bd.named Bd.method).1
  have X0 : Stand p l e ({ frames := 1, cells := 0, slots := 0, locals := 30 } : Room) s m #[(.ref a1), (.int (4 : Int32)), (.int p3), (.int (0 : Int32))] below meth c s₁ [] 0 0 := Stand.of_body Bd
  have e0 : s₁.heap = h0 := by rw [← hh, Bd.state]; rfl
  have N0 := Fr.nil n0
  have pre0 : ∀ t, Steps p.tables e below (s₁.setTop (mkF m 0 #[.val (.ref a1), .val (.int (4 : Int32)), .val (.int p3), .val (.int (0 : Int32))] [])) t → Steps p.tables e below (s₁.setTop (entryFrame m #[(.ref a1), (.int (4 : Int32)), (.int p3), (.int (0 : Int32))] 4)) t := fun t k => castTop (ef_1 m a1 (4 : Int32) p3 (0 : Int32)) k
  have K0 : Keep h0 h0 [a1] := Keep.refl _ _
  obtain ⟨cl_q1, Ar_q1, qk_q1, S_q1, Nn_q1, H_q1, G_q1⟩ := id V_a1
  have hin_q1 : ¬ ((4 : Int32) < 0 ∨ cl_q1.slots.size ≤ ((4 : Int32)).toNatClampNeg) := inb_of S_q1 ⟨by decide, by decide⟩
  obtain ⟨T_q1, h_q1, X_q1, e_q1, W_q1, st_q1⟩ := stB X0 hx hZ e0 Ar_q1 (j := (4 : Int32)) hin_q1 (g := (mkF m 49 #[.val (.ref a1), .val (.int (4 : Int32)), .val (.int p3), .val (.int (0 : Int32))] [(.int (p3.toInt8.toInt32)), (.int (4 : Int32)), (.ref a1)])) rfl rfl (hb hby d1_49)
  have V_a1__q1 : Arv Z h_q1 a1 k1 .byte (5 : Int32) [u0, u1, u2, u3, (.int (nar .byte (p3.toInt8.toInt32)))] (.int (0 : Int32)) := Arv.set Ar_q1 qk_q1 S_q1 Nn_q1 H_q1 G_q1 (fits_nar_byte _) W_q1 4 rfl (Nat.le_of_ble_eq_true rfl)
  have K_q1 : Keep h0 h_q1 [a1] := K0.wr W_q1 (Or.inl (List.mem_of_getElem? (i := 0) rfl))
  have N_q1 := Fr.snoc X_q1 N0 ge_a1
  obtain ⟨fs, hr, hrun, hended, hW, hsame⟩ := X_q1.leave (v := some (.int ((4 : Int32) + (1 : Int32)))) (fun h => by rw [Bd.returns] at h; cases h) Bd.notSynchronized
  refine ⟨_, _, pre0 _ ?_, hrun, hended, _, _, rfl, ?_, ⟨_, rfl⟩, hW, hsame.mono (by decide) (by decide)⟩
  · show Steps p.tables e below (s₁.setTop (mkF m 0 #[.val (.ref a1), .val (.int (4 : Int32)), .val (.int p3), .val (.int (0 : Int32))] [])) _
    refine XS.iloadN X0.here hx rfl (hb hby d1_0) rfl ?_
    show Steps p.tables e below (s₁.setTop (mkF m 1 #[.val (.ref a1), .val (.int (4 : Int32)), .val (.int p3), .val (.int (0 : Int32))] [(.int (0 : Int32))])) _
    refine XS.ifYes X0.here hx rfl (pc0 := 1) (pc' := 45) rfl (hb hby d1_1) rfl ((if0 _ _).trans (teq (by decide : (0 : Int32) = (0 : Int32))).1) (by decide) (by decide) ?_
    show Steps p.tables e below (s₁.setTop (mkF m 45 #[.val (.ref a1), .val (.int (4 : Int32)), .val (.int p3), .val (.int (0 : Int32))] [])) _
    refine XS.aloadN X0.here hx rfl (hb hby d1_45) rfl rfl ?_
    show Steps p.tables e below (s₁.setTop (mkF m 46 #[.val (.ref a1), .val (.int (4 : Int32)), .val (.int p3), .val (.int (0 : Int32))] [(.ref a1)])) _
    refine XS.iloadN X0.here hx rfl (hb hby d1_46) rfl ?_
    show Steps p.tables e below (s₁.setTop (mkF m 47 #[.val (.ref a1), .val (.int (4 : Int32)), .val (.int p3), .val (.int (0 : Int32))] [(.int (4 : Int32)), (.ref a1)])) _
    refine XS.iloadN X0.here hx rfl (hb hby d1_47) rfl ?_
    show Steps p.tables e below (s₁.setTop (mkF m 48 #[.val (.ref a1), .val (.int (4 : Int32)), .val (.int p3), .val (.int (0 : Int32))] [(.int p3), (.int (4 : Int32)), (.ref a1)])) _
    refine XS.i2b X0.here hx rfl (hb hby d1_48) rfl ?_
    show Steps p.tables e below (s₁.setTop (mkF m 49 #[.val (.ref a1), .val (.int (4 : Int32)), .val (.int p3), .val (.int (0 : Int32))] [(.int (p3.toInt8.toInt32)), (.int (4 : Int32)), (.ref a1)])) _
    refine st_q1 _ ?_
    show Steps p.tables e below (T_q1.setTop (mkF m 50 #[.val (.ref a1), .val (.int (4 : Int32)), .val (.int p3), .val (.int (0 : Int32))] [])) _
    refine XS.iloadN X_q1.here hx rfl (hb hby d1_50) rfl ?_
    show Steps p.tables e below (T_q1.setTop (mkF m 51 #[.val (.ref a1), .val (.int (4 : Int32)), .val (.int p3), .val (.int (0 : Int32))] [(.int (4 : Int32))])) _
    refine XS.iconst X_q1.here hx rfl (hb hby d1_51) ?_
    show Steps p.tables e below (T_q1.setTop (mkF m 52 #[.val (.ref a1), .val (.int (4 : Int32)), .val (.int p3), .val (.int (0 : Int32))] [(.int (1 : Int32)), (.int (4 : Int32))])) _
    refine XS.iadd X_q1.here hx rfl (hb hby d1_52) rfl ?_
    show Steps p.tables e below (T_q1.setTop (mkF m 53 #[.val (.ref a1), .val (.int (4 : Int32)), .val (.int p3), .val (.int (0 : Int32))] [(.int ((4 : Int32) + (1 : Int32)))])) _
    exact retI X_q1 hx Bd.returns (hb hby d1_53) hr
  · show Q_rm1_5_4_0 Z a1 k1 u0 u1 u2 u3 u4 p3 h0 n0 _ T_q1.heap _
    rw [e_q1]
    exact ⟨rfl, N_q1, K_q1, V_a1__q1⟩
def Q_rm1_5_0_0 (Z : State) (a1 : Addr) (k1 : ClassId) (u0 : Value) (u1 : Value) (u2 : Value) (u3 : Value) (u4 : Value) (p3 : Int32) (h0 : Heap) (n0 : Nat) (v : Option Value) (h : Heap) (L : List Loc) : Prop := v = some (.int ((0 : Int32) + (1 : Int32))) ∧ Fr n0 L ∧ Keep h0 h [a1] ∧ Arv Z h a1 k1 .byte (5 : Int32) [(.int (nar .byte (p3.toInt8.toInt32))), u1, u2, u3, u4] (.int (0 : Int32))
set_option maxRecDepth 65536 in
set_option maxHeartbeats 40000000 in
theorem rm1_5_0_0 (l : Launch) (Z : State) (a0 : Array Value) (hw : ∀ d ∈ tables_1, d.before a0 Z = true) (ws : List Jvm.Cond) (a1 : Addr) (k1 : ClassId) (u0 : Value) (u1 : Value) (u2 : Value) (u3 : Value) (u4 : Value) (p3 : Int32) (h0 : Heap) (n0 : Nat) (Z0 : n0 ≤ h0.size) (V_a1 : Arv Z h0 a1 k1 .byte (5 : Int32) [u0, u1, u2, u3, u4] (.int (0 : Int32))) (ge_a1 : n0 ≤ a1) :
    MetFree l (⟨"com/example/presplit/presplit/escape/BinaryEscapeDecodePinLaw", "put", "([BIIZ)I"⟩ : MethodName) (head1 (Jvm.Cond.code (⟨"com/example/presplit/presplit/escape/BinaryEscapeDecodePinLaw", "put", "([BIIZ)I"⟩ : MethodName) method_3_code 4 (some .int) :: ws) ({ frames := 1, cells := 0, slots := 0, locals := 30 } : Room)) (fun a U => a = #[(.ref a1), (.int (0 : Int32)), (.int p3), (.int (0 : Int32))] ∧ Z.Warmed39 U.vm ∧ U.heap = h0) (fun _ _ _ _ _ => True) (fun _ U o U' => ∃ v L, o = .returned v ∧ Q_rm1_5_0_0 Z a1 k1 u0 u1 u2 u3 u4 p3 h0 n0 v U'.heap L ∧ FrameEnd U o U' L ({ frames := 1, cells := 0, slots := 0, locals := 30 } : Room).cells ({ frames := 1, cells := 0, slots := 0, locals := 30 } : Room).slots) := by
  refine MetFree.of_bodySF (plainFor_of_name pn_1) hisR ?_
  intro p e s m args below meth c s₁ Bd hml0 hP hK
  obtain ⟨rfl, hZ, hh⟩ := hP
  have hx := Bd.exec
  have hby := Bd.bytes
  have hml : c.maxLocals = 4 := hml0
  have hown : s.vm.findClass "com/example/presplit/presplit/escape/BinaryEscapeDecodePinLaw" = some m.cls := findClass_of_methodNamed Bd.named
  have hnm := (name_of_methodNamed Bd.named Bd.method).1
  have X0 : Stand p l e ({ frames := 1, cells := 0, slots := 0, locals := 30 } : Room) s m #[(.ref a1), (.int (0 : Int32)), (.int p3), (.int (0 : Int32))] below meth c s₁ [] 0 0 := Stand.of_body Bd
  have e0 : s₁.heap = h0 := by rw [← hh, Bd.state]; rfl
  have N0 := Fr.nil n0
  have pre0 : ∀ t, Steps p.tables e below (s₁.setTop (mkF m 0 #[.val (.ref a1), .val (.int (0 : Int32)), .val (.int p3), .val (.int (0 : Int32))] [])) t → Steps p.tables e below (s₁.setTop (entryFrame m #[(.ref a1), (.int (0 : Int32)), (.int p3), (.int (0 : Int32))] 4)) t := fun t k => castTop (ef_1 m a1 (0 : Int32) p3 (0 : Int32)) k
  have K0 : Keep h0 h0 [a1] := Keep.refl _ _
  obtain ⟨cl_q1, Ar_q1, qk_q1, S_q1, Nn_q1, H_q1, G_q1⟩ := id V_a1
  have hin_q1 : ¬ ((0 : Int32) < 0 ∨ cl_q1.slots.size ≤ ((0 : Int32)).toNatClampNeg) := inb_of S_q1 ⟨by decide, by decide⟩
  obtain ⟨T_q1, h_q1, X_q1, e_q1, W_q1, st_q1⟩ := stB X0 hx hZ e0 Ar_q1 (j := (0 : Int32)) hin_q1 (g := (mkF m 49 #[.val (.ref a1), .val (.int (0 : Int32)), .val (.int p3), .val (.int (0 : Int32))] [(.int (p3.toInt8.toInt32)), (.int (0 : Int32)), (.ref a1)])) rfl rfl (hb hby d1_49)
  have V_a1__q1 : Arv Z h_q1 a1 k1 .byte (5 : Int32) [(.int (nar .byte (p3.toInt8.toInt32))), u1, u2, u3, u4] (.int (0 : Int32)) := Arv.set Ar_q1 qk_q1 S_q1 Nn_q1 H_q1 G_q1 (fits_nar_byte _) W_q1 0 rfl (Nat.le_of_ble_eq_true rfl)
  have K_q1 : Keep h0 h_q1 [a1] := K0.wr W_q1 (Or.inl (List.mem_of_getElem? (i := 0) rfl))
  have N_q1 := Fr.snoc X_q1 N0 ge_a1
  obtain ⟨fs, hr, hrun, hended, hW, hsame⟩ := X_q1.leave (v := some (.int ((0 : Int32) + (1 : Int32)))) (fun h => by rw [Bd.returns] at h; cases h) Bd.notSynchronized
  refine ⟨_, _, pre0 _ ?_, hrun, hended, _, _, rfl, ?_, ⟨_, rfl⟩, hW, hsame.mono (by decide) (by decide)⟩
  · show Steps p.tables e below (s₁.setTop (mkF m 0 #[.val (.ref a1), .val (.int (0 : Int32)), .val (.int p3), .val (.int (0 : Int32))] [])) _
    refine XS.iloadN X0.here hx rfl (hb hby d1_0) rfl ?_
    show Steps p.tables e below (s₁.setTop (mkF m 1 #[.val (.ref a1), .val (.int (0 : Int32)), .val (.int p3), .val (.int (0 : Int32))] [(.int (0 : Int32))])) _
    refine XS.ifYes X0.here hx rfl (pc0 := 1) (pc' := 45) rfl (hb hby d1_1) rfl ((if0 _ _).trans (teq (by decide : (0 : Int32) = (0 : Int32))).1) (by decide) (by decide) ?_
    show Steps p.tables e below (s₁.setTop (mkF m 45 #[.val (.ref a1), .val (.int (0 : Int32)), .val (.int p3), .val (.int (0 : Int32))] [])) _
    refine XS.aloadN X0.here hx rfl (hb hby d1_45) rfl rfl ?_
    show Steps p.tables e below (s₁.setTop (mkF m 46 #[.val (.ref a1), .val (.int (0 : Int32)), .val (.int p3), .val (.int (0 : Int32))] [(.ref a1)])) _
    refine XS.iloadN X0.here hx rfl (hb hby d1_46) rfl ?_
    show Steps p.tables e below (s₁.setTop (mkF m 47 #[.val (.ref a1), .val (.int (0 : Int32)), .val (.int p3), .val (.int (0 : Int32))] [(.int (0 : Int32)), (.ref a1)])) _
    refine XS.iloadN X0.here hx rfl (hb hby d1_47) rfl ?_
    show Steps p.tables e below (s₁.setTop (mkF m 48 #[.val (.ref a1), .val (.int (0 : Int32)), .val (.int p3), .val (.int (0 : Int32))] [(.int p3), (.int (0 : Int32)), (.ref a1)])) _
    refine XS.i2b X0.here hx rfl (hb hby d1_48) rfl ?_
    show Steps p.tables e below (s₁.setTop (mkF m 49 #[.val (.ref a1), .val (.int (0 : Int32)), .val (.int p3), .val (.int (0 : Int32))] [(.int (p3.toInt8.toInt32)), (.int (0 : Int32)), (.ref a1)])) _
    refine st_q1 _ ?_
    show Steps p.tables e below (T_q1.setTop (mkF m 50 #[.val (.ref a1), .val (.int (0 : Int32)), .val (.int p3), .val (.int (0 : Int32))] [])) _
    refine XS.iloadN X_q1.here hx rfl (hb hby d1_50) rfl ?_
    show Steps p.tables e below (T_q1.setTop (mkF m 51 #[.val (.ref a1), .val (.int (0 : Int32)), .val (.int p3), .val (.int (0 : Int32))] [(.int (0 : Int32))])) _
    refine XS.iconst X_q1.here hx rfl (hb hby d1_51) ?_
    show Steps p.tables e below (T_q1.setTop (mkF m 52 #[.val (.ref a1), .val (.int (0 : Int32)), .val (.int p3), .val (.int (0 : Int32))] [(.int (1 : Int32)), (.int (0 : Int32))])) _
    refine XS.iadd X_q1.here hx rfl (hb hby d1_52) rfl ?_
    show Steps p.tables e below (T_q1.setTop (mkF m 53 #[.val (.ref a1), .val (.int (0 : Int32)), .val (.int p3), .val (.int (0 : Int32))] [(.int ((0 : Int32) + (1 : Int32)))])) _
    exact retI X_q1 hx Bd.returns (hb hby d1_53) hr
  · show Q_rm1_5_0_0 Z a1 k1 u0 u1 u2 u3 u4 p3 h0 n0 _ T_q1.heap _
    rw [e_q1]
    exact ⟨rfl, N_q1, K_q1, V_a1__q1⟩
def Q_rm1_5_1_1 (Z : State) (a1 : Addr) (k1 : ClassId) (u0 : Value) (u1 : Value) (u2 : Value) (u3 : Value) (u4 : Value) (p3 : Int32) (h0 : Heap) (n0 : Nat) (v : Option Value) (h : Heap) (L : List Loc) : Prop := v = some (.int ((1 : Int32) + (4 : Int32))) ∧ Fr n0 L ∧ Keep h0 h [a1] ∧ Arv Z h a1 k1 .byte (5 : Int32) [u0, (.int (nar .byte (92 : Int32))), (.int (nar .byte (120 : Int32))), (.int (nar .byte ((F2_0 ((p3.toUInt32 >>> ((4 : Int32) &&& 31).toUInt32).toInt32)).toInt8.toInt32))), (.int (nar .byte ((F2_0 (p3 &&& (15 : Int32))).toInt8.toInt32)))] (.int (0 : Int32))
set_option maxRecDepth 65536 in
set_option maxHeartbeats 40000000 in
theorem rm1_5_1_1 (l : Launch) (Z : State) (a0 : Array Value) (hw : ∀ d ∈ tables_1, d.before a0 Z = true) (ws : List Jvm.Cond) (a1 : Addr) (k1 : ClassId) (u0 : Value) (u1 : Value) (u2 : Value) (u3 : Value) (u4 : Value) (p3 : Int32) (h0 : Heap) (n0 : Nat) (Z0 : n0 ≤ h0.size) (V_a1 : Arv Z h0 a1 k1 .byte (5 : Int32) [u0, u1, u2, u3, u4] (.int (0 : Int32))) (ge_a1 : n0 ≤ a1) :
    MetFree l (⟨"com/example/presplit/presplit/escape/BinaryEscapeDecodePinLaw", "put", "([BIIZ)I"⟩ : MethodName) (head1 (Jvm.Cond.code (⟨"com/example/presplit/presplit/escape/BinaryEscapeDecodePinLaw", "put", "([BIIZ)I"⟩ : MethodName) method_3_code 4 (some .int) :: ws) ({ frames := 1, cells := 0, slots := 0, locals := 30 } : Room)) (fun a U => a = #[(.ref a1), (.int (1 : Int32)), (.int p3), (.int (1 : Int32))] ∧ Z.Warmed39 U.vm ∧ U.heap = h0) (fun _ _ _ _ _ => True) (fun _ U o U' => ∃ v L, o = .returned v ∧ Q_rm1_5_1_1 Z a1 k1 u0 u1 u2 u3 u4 p3 h0 n0 v U'.heap L ∧ FrameEnd U o U' L ({ frames := 1, cells := 0, slots := 0, locals := 30 } : Room).cells ({ frames := 1, cells := 0, slots := 0, locals := 30 } : Room).slots) := by
  refine MetFree.of_bodySF (plainFor_of_name pn_1) hisR ?_
  intro p e s m args below meth c s₁ Bd hml0 hP hK
  obtain ⟨rfl, hZ, hh⟩ := hP
  have hx := Bd.exec
  have hby := Bd.bytes
  have hml : c.maxLocals = 4 := hml0
  have hown : s.vm.findClass "com/example/presplit/presplit/escape/BinaryEscapeDecodePinLaw" = some m.cls := findClass_of_methodNamed Bd.named
  have hnm := (name_of_methodNamed Bd.named Bd.method).1
  have X0 : Stand p l e ({ frames := 1, cells := 0, slots := 0, locals := 30 } : Room) s m #[(.ref a1), (.int (1 : Int32)), (.int p3), (.int (1 : Int32))] below meth c s₁ [] 0 0 := Stand.of_body Bd
  have e0 : s₁.heap = h0 := by rw [← hh, Bd.state]; rfl
  have N0 := Fr.nil n0
  have pre0 : ∀ t, Steps p.tables e below (s₁.setTop (mkF m 0 #[.val (.ref a1), .val (.int (1 : Int32)), .val (.int p3), .val (.int (1 : Int32))] [])) t → Steps p.tables e below (s₁.setTop (entryFrame m #[(.ref a1), (.int (1 : Int32)), (.int p3), (.int (1 : Int32))] 4)) t := fun t k => castTop (ef_1 m a1 (1 : Int32) p3 (1 : Int32)) k
  have K0 : Keep h0 h0 [a1] := Keep.refl _ _
  obtain ⟨cl_q1, Ar_q1, qk_q1, S_q1, Nn_q1, H_q1, G_q1⟩ := id V_a1
  have hin_q1 : ¬ ((1 : Int32) < 0 ∨ cl_q1.slots.size ≤ ((1 : Int32)).toNatClampNeg) := inb_of S_q1 ⟨by decide, by decide⟩
  obtain ⟨T_q1, h_q1, X_q1, e_q1, W_q1, st_q1⟩ := stB X0 hx hZ e0 Ar_q1 (j := (1 : Int32)) hin_q1 (g := (mkF m 8 #[.val (.ref a1), .val (.int (1 : Int32)), .val (.int p3), .val (.int (1 : Int32))] [(.int (92 : Int32)), (.int (1 : Int32)), (.ref a1)])) rfl rfl (hb hby d1_8)
  have V_a1__q1 : Arv Z h_q1 a1 k1 .byte (5 : Int32) [u0, (.int (nar .byte (92 : Int32))), u2, u3, u4] (.int (0 : Int32)) := Arv.set Ar_q1 qk_q1 S_q1 Nn_q1 H_q1 G_q1 (fits_nar_byte _) W_q1 1 rfl (Nat.le_of_ble_eq_true rfl)
  have K_q1 : Keep h0 h_q1 [a1] := K0.wr W_q1 (Or.inl (List.mem_of_getElem? (i := 0) rfl))
  have N_q1 := Fr.snoc X_q1 N0 ge_a1
  obtain ⟨cl_q2, Ar_q2, qk_q2, S_q2, Nn_q2, H_q2, G_q2⟩ := id V_a1__q1
  have hin_q2 : ¬ (((1 : Int32) + (1 : Int32)) < 0 ∨ cl_q2.slots.size ≤ (((1 : Int32) + (1 : Int32))).toNatClampNeg) := inb_of S_q2 ⟨by decide, by decide⟩
  obtain ⟨T_q2, h_q2, X_q2, e_q2, W_q2, st_q2⟩ := stB X_q1 hx hZ e_q1 Ar_q2 (j := ((1 : Int32) + (1 : Int32))) hin_q2 (g := (mkF m 15 #[.val (.ref a1), .val (.int (1 : Int32)), .val (.int p3), .val (.int (1 : Int32))] [(.int (120 : Int32)), (.int ((1 : Int32) + (1 : Int32))), (.ref a1)])) rfl rfl (hb hby d1_15)
  have V_a1__q2 : Arv Z h_q2 a1 k1 .byte (5 : Int32) [u0, (.int (nar .byte (92 : Int32))), (.int (nar .byte (120 : Int32))), u3, u4] (.int (0 : Int32)) := Arv.set Ar_q2 qk_q2 S_q2 Nn_q2 H_q2 G_q2 (fits_nar_byte _) W_q2 2 rfl (Nat.le_of_ble_eq_true rfl)
  have K_q2 : Keep h0 h_q2 [a1] := K_q1.wr W_q2 (Or.inl (List.mem_of_getElem? (i := 0) rfl))
  have N_q2 := Fr.snoc X_q2 N_q1 ge_a1
  obtain ⟨_, _, ⟨T_q3, L_q3, k_q3, n_q3⟩, -, X_q3, ⟨Lc_q3, hQ_q3, l_q3, y_q3, z_q3⟩, st_q3⟩ := Jvm.LawKit.callS X_q2 hx (y := (⟨"com/example/presplit/presplit/escape/BinaryEscapeDecodePinLaw", "hex", "(I)I"⟩ : MethodName)) hown (mvT hZ (hw _ (List.mem_of_getElem? (i := 5) rfl))) (mvT hZ (hw _ (List.mem_of_getElem? (i := 6) rfl))) (mvT hZ (hw _ (List.mem_of_getElem? (i := 3) rfl))) (mvT hZ (hw _ (List.mem_of_getElem? (i := 7) rfl))) (by decide) (backOf (W := 2) (rm2 l Z a0 hw [] ((p3.toUInt32 >>> ((4 : Int32) &&& 31).toUInt32).toInt32) h_q2 n0 (Nat.le_trans Z0 K_q2.1)) hZ (hw _ (List.mem_of_getElem? (i := 7) rfl)) (hw _ (List.mem_of_getElem? (i := 3) rfl)) (by decide) (by decide)) (g := (mkF m 23 #[.val (.ref a1), .val (.int (1 : Int32)), .val (.int p3), .val (.int (1 : Int32))] [(.int ((p3.toUInt32 >>> ((4 : Int32) &&& 31).toUInt32).toInt32)), (.int ((1 : Int32) + (2 : Int32))), (.ref a1)])) rfl (by rw [hml]; rfl) (argsL := [(.int ((p3.toUInt32 >>> ((4 : Int32) &&& 31).toUInt32).toInt32))]) (rest := [(.int ((1 : Int32) + (2 : Int32))), (.ref a1)]) (lenOf pd__I_I rfl) rfl (by show 2 * 0 + _ ≤ _; exact Nat.le_of_eq rfl) (hb hby d1_23) (fun _ _ => ⟨rfl, e_q2, (by decide : 0 + 0 ≤ _), (by decide : 0 + 0 ≤ _)⟩)
  dsimp only [Pt.U, Pt.locs, Pt.cells, Pt.slots] at X_q3 l_q3 y_q3 z_q3 st_q3 hQ_q3
  subst l_q3 y_q3 z_q3
  obtain ⟨rfl, Nq_q3, eq_q3⟩ := hQ_q3
  have Kq_q3 : Keep h_q2 T_q3.heap [] := by rw [eq_q3]; exact Keep.refl _ _
  have N_q3 := Fr.app N_q2 Nq_q3
  have V_a1__q3 := V_a1__q2.keep Kq_q3 List.not_mem_nil
  have K_q3 : Keep h0 T_q3.heap [a1] := K_q2.trans Kq_q3 (fun x hx => nomatch hx)
  obtain ⟨cl_q4, Ar_q4, qk_q4, S_q4, Nn_q4, H_q4, G_q4⟩ := id V_a1__q3
  have hin_q4 : ¬ (((1 : Int32) + (2 : Int32)) < 0 ∨ cl_q4.slots.size ≤ (((1 : Int32) + (2 : Int32))).toNatClampNeg) := inb_of S_q4 ⟨by decide, by decide⟩
  obtain ⟨T_q4, h_q4, X_q4, e_q4, W_q4, st_q4⟩ := stB X_q3 hx hZ rfl Ar_q4 (j := ((1 : Int32) + (2 : Int32))) hin_q4 (g := (mkF m 27 #[.val (.ref a1), .val (.int (1 : Int32)), .val (.int p3), .val (.int (1 : Int32))] [(.int ((F2_0 ((p3.toUInt32 >>> ((4 : Int32) &&& 31).toUInt32).toInt32)).toInt8.toInt32)), (.int ((1 : Int32) + (2 : Int32))), (.ref a1)])) rfl rfl (hb hby d1_27)
  have V_a1__q4 : Arv Z h_q4 a1 k1 .byte (5 : Int32) [u0, (.int (nar .byte (92 : Int32))), (.int (nar .byte (120 : Int32))), (.int (nar .byte ((F2_0 ((p3.toUInt32 >>> ((4 : Int32) &&& 31).toUInt32).toInt32)).toInt8.toInt32))), u4] (.int (0 : Int32)) := Arv.set Ar_q4 qk_q4 S_q4 Nn_q4 H_q4 G_q4 (fits_nar_byte _) W_q4 3 rfl (Nat.le_of_ble_eq_true rfl)
  have K_q4 : Keep h0 h_q4 [a1] := K_q3.wr W_q4 (Or.inl (List.mem_of_getElem? (i := 0) rfl))
  have N_q4 := Fr.snoc X_q4 N_q3 ge_a1
  obtain ⟨_, _, ⟨T_q5, L_q5, k_q5, n_q5⟩, -, X_q5, ⟨Lc_q5, hQ_q5, l_q5, y_q5, z_q5⟩, st_q5⟩ := Jvm.LawKit.callS X_q4 hx (y := (⟨"com/example/presplit/presplit/escape/BinaryEscapeDecodePinLaw", "hex", "(I)I"⟩ : MethodName)) hown (mvT hZ (hw _ (List.mem_of_getElem? (i := 5) rfl))) (mvT hZ (hw _ (List.mem_of_getElem? (i := 6) rfl))) (mvT hZ (hw _ (List.mem_of_getElem? (i := 3) rfl))) (mvT hZ (hw _ (List.mem_of_getElem? (i := 7) rfl))) (by decide) (backOf (W := 2) (rm2 l Z a0 hw [] (p3 &&& (15 : Int32)) h_q4 n0 (Nat.le_trans Z0 K_q4.1)) hZ (hw _ (List.mem_of_getElem? (i := 7) rfl)) (hw _ (List.mem_of_getElem? (i := 3) rfl)) (by decide) (by decide)) (g := (mkF m 36 #[.val (.ref a1), .val (.int (1 : Int32)), .val (.int p3), .val (.int (1 : Int32))] [(.int (p3 &&& (15 : Int32))), (.int ((1 : Int32) + (3 : Int32))), (.ref a1)])) rfl (by rw [hml]; rfl) (argsL := [(.int (p3 &&& (15 : Int32)))]) (rest := [(.int ((1 : Int32) + (3 : Int32))), (.ref a1)]) (lenOf pd__I_I rfl) rfl (by show 2 * 0 + _ ≤ _; exact Nat.le_of_eq rfl) (hb hby d1_36) (fun _ _ => ⟨rfl, e_q4, (by decide : 0 + 0 ≤ _), (by decide : 0 + 0 ≤ _)⟩)
  dsimp only [Pt.U, Pt.locs, Pt.cells, Pt.slots] at X_q5 l_q5 y_q5 z_q5 st_q5 hQ_q5
  subst l_q5 y_q5 z_q5
  obtain ⟨rfl, Nq_q5, eq_q5⟩ := hQ_q5
  have Kq_q5 : Keep h_q4 T_q5.heap [] := by rw [eq_q5]; exact Keep.refl _ _
  have N_q5 := Fr.app N_q4 Nq_q5
  have V_a1__q5 := V_a1__q4.keep Kq_q5 List.not_mem_nil
  have K_q5 : Keep h0 T_q5.heap [a1] := K_q4.trans Kq_q5 (fun x hx => nomatch hx)
  obtain ⟨cl_q6, Ar_q6, qk_q6, S_q6, Nn_q6, H_q6, G_q6⟩ := id V_a1__q5
  have hin_q6 : ¬ (((1 : Int32) + (3 : Int32)) < 0 ∨ cl_q6.slots.size ≤ (((1 : Int32) + (3 : Int32))).toNatClampNeg) := inb_of S_q6 ⟨by decide, by decide⟩
  obtain ⟨T_q6, h_q6, X_q6, e_q6, W_q6, st_q6⟩ := stB X_q5 hx hZ rfl Ar_q6 (j := ((1 : Int32) + (3 : Int32))) hin_q6 (g := (mkF m 40 #[.val (.ref a1), .val (.int (1 : Int32)), .val (.int p3), .val (.int (1 : Int32))] [(.int ((F2_0 (p3 &&& (15 : Int32))).toInt8.toInt32)), (.int ((1 : Int32) + (3 : Int32))), (.ref a1)])) rfl rfl (hb hby d1_40)
  have V_a1__q6 : Arv Z h_q6 a1 k1 .byte (5 : Int32) [u0, (.int (nar .byte (92 : Int32))), (.int (nar .byte (120 : Int32))), (.int (nar .byte ((F2_0 ((p3.toUInt32 >>> ((4 : Int32) &&& 31).toUInt32).toInt32)).toInt8.toInt32))), (.int (nar .byte ((F2_0 (p3 &&& (15 : Int32))).toInt8.toInt32)))] (.int (0 : Int32)) := Arv.set Ar_q6 qk_q6 S_q6 Nn_q6 H_q6 G_q6 (fits_nar_byte _) W_q6 4 rfl (Nat.le_of_ble_eq_true rfl)
  have K_q6 : Keep h0 h_q6 [a1] := K_q5.wr W_q6 (Or.inl (List.mem_of_getElem? (i := 0) rfl))
  have N_q6 := Fr.snoc X_q6 N_q5 ge_a1
  obtain ⟨fs, hr, hrun, hended, hW, hsame⟩ := X_q6.leave (v := some (.int ((1 : Int32) + (4 : Int32)))) (fun h => by rw [Bd.returns] at h; cases h) Bd.notSynchronized
  refine ⟨_, _, pre0 _ ?_, hrun, hended, _, _, rfl, ?_, ⟨_, rfl⟩, hW, hsame.mono (by decide) (by decide)⟩
  · show Steps p.tables e below (s₁.setTop (mkF m 0 #[.val (.ref a1), .val (.int (1 : Int32)), .val (.int p3), .val (.int (1 : Int32))] [])) _
    refine XS.iloadN X0.here hx rfl (hb hby d1_0) rfl ?_
    show Steps p.tables e below (s₁.setTop (mkF m 1 #[.val (.ref a1), .val (.int (1 : Int32)), .val (.int p3), .val (.int (1 : Int32))] [(.int (1 : Int32))])) _
    refine XS.ifNo X0.here hx rfl (hb hby d1_1) rfl ((if0 _ _).trans (feq (by decide : ¬ ((1 : Int32) = (0 : Int32)))).1) ?_
    show Steps p.tables e below (s₁.setTop (mkF m 4 #[.val (.ref a1), .val (.int (1 : Int32)), .val (.int p3), .val (.int (1 : Int32))] [])) _
    refine XS.aloadN X0.here hx rfl (hb hby d1_4) rfl rfl ?_
    show Steps p.tables e below (s₁.setTop (mkF m 5 #[.val (.ref a1), .val (.int (1 : Int32)), .val (.int p3), .val (.int (1 : Int32))] [(.ref a1)])) _
    refine XS.iloadN X0.here hx rfl (hb hby d1_5) rfl ?_
    show Steps p.tables e below (s₁.setTop (mkF m 6 #[.val (.ref a1), .val (.int (1 : Int32)), .val (.int p3), .val (.int (1 : Int32))] [(.int (1 : Int32)), (.ref a1)])) _
    refine XS.bipush X0.here hx rfl (hb hby d1_6) ?_
    show Steps p.tables e below (s₁.setTop (mkF m 8 #[.val (.ref a1), .val (.int (1 : Int32)), .val (.int p3), .val (.int (1 : Int32))] [(.int (92 : Int32)), (.int (1 : Int32)), (.ref a1)])) _
    refine st_q1 _ ?_
    show Steps p.tables e below (T_q1.setTop (mkF m 9 #[.val (.ref a1), .val (.int (1 : Int32)), .val (.int p3), .val (.int (1 : Int32))] [])) _
    refine XS.aloadN X_q1.here hx rfl (hb hby d1_9) rfl rfl ?_
    show Steps p.tables e below (T_q1.setTop (mkF m 10 #[.val (.ref a1), .val (.int (1 : Int32)), .val (.int p3), .val (.int (1 : Int32))] [(.ref a1)])) _
    refine XS.iloadN X_q1.here hx rfl (hb hby d1_10) rfl ?_
    show Steps p.tables e below (T_q1.setTop (mkF m 11 #[.val (.ref a1), .val (.int (1 : Int32)), .val (.int p3), .val (.int (1 : Int32))] [(.int (1 : Int32)), (.ref a1)])) _
    refine XS.iconst X_q1.here hx rfl (hb hby d1_11) ?_
    show Steps p.tables e below (T_q1.setTop (mkF m 12 #[.val (.ref a1), .val (.int (1 : Int32)), .val (.int p3), .val (.int (1 : Int32))] [(.int (1 : Int32)), (.int (1 : Int32)), (.ref a1)])) _
    refine XS.iadd X_q1.here hx rfl (hb hby d1_12) rfl ?_
    show Steps p.tables e below (T_q1.setTop (mkF m 13 #[.val (.ref a1), .val (.int (1 : Int32)), .val (.int p3), .val (.int (1 : Int32))] [(.int ((1 : Int32) + (1 : Int32))), (.ref a1)])) _
    refine XS.bipush X_q1.here hx rfl (hb hby d1_13) ?_
    show Steps p.tables e below (T_q1.setTop (mkF m 15 #[.val (.ref a1), .val (.int (1 : Int32)), .val (.int p3), .val (.int (1 : Int32))] [(.int (120 : Int32)), (.int ((1 : Int32) + (1 : Int32))), (.ref a1)])) _
    refine st_q2 _ ?_
    show Steps p.tables e below (T_q2.setTop (mkF m 16 #[.val (.ref a1), .val (.int (1 : Int32)), .val (.int p3), .val (.int (1 : Int32))] [])) _
    refine XS.aloadN X_q2.here hx rfl (hb hby d1_16) rfl rfl ?_
    show Steps p.tables e below (T_q2.setTop (mkF m 17 #[.val (.ref a1), .val (.int (1 : Int32)), .val (.int p3), .val (.int (1 : Int32))] [(.ref a1)])) _
    refine XS.iloadN X_q2.here hx rfl (hb hby d1_17) rfl ?_
    show Steps p.tables e below (T_q2.setTop (mkF m 18 #[.val (.ref a1), .val (.int (1 : Int32)), .val (.int p3), .val (.int (1 : Int32))] [(.int (1 : Int32)), (.ref a1)])) _
    refine XS.iconst X_q2.here hx rfl (hb hby d1_18) ?_
    show Steps p.tables e below (T_q2.setTop (mkF m 19 #[.val (.ref a1), .val (.int (1 : Int32)), .val (.int p3), .val (.int (1 : Int32))] [(.int (2 : Int32)), (.int (1 : Int32)), (.ref a1)])) _
    refine XS.iadd X_q2.here hx rfl (hb hby d1_19) rfl ?_
    show Steps p.tables e below (T_q2.setTop (mkF m 20 #[.val (.ref a1), .val (.int (1 : Int32)), .val (.int p3), .val (.int (1 : Int32))] [(.int ((1 : Int32) + (2 : Int32))), (.ref a1)])) _
    refine XS.iloadN X_q2.here hx rfl (hb hby d1_20) rfl ?_
    show Steps p.tables e below (T_q2.setTop (mkF m 21 #[.val (.ref a1), .val (.int (1 : Int32)), .val (.int p3), .val (.int (1 : Int32))] [(.int p3), (.int ((1 : Int32) + (2 : Int32))), (.ref a1)])) _
    refine XS.iconst X_q2.here hx rfl (hb hby d1_21) ?_
    show Steps p.tables e below (T_q2.setTop (mkF m 22 #[.val (.ref a1), .val (.int (1 : Int32)), .val (.int p3), .val (.int (1 : Int32))] [(.int (4 : Int32)), (.int p3), (.int ((1 : Int32) + (2 : Int32))), (.ref a1)])) _
    refine XS.iushr X_q2.here hx rfl (hb hby d1_22) rfl ?_
    show Steps p.tables e below (T_q2.setTop (mkF m 23 #[.val (.ref a1), .val (.int (1 : Int32)), .val (.int p3), .val (.int (1 : Int32))] [(.int ((p3.toUInt32 >>> ((4 : Int32) &&& 31).toUInt32).toInt32)), (.int ((1 : Int32) + (2 : Int32))), (.ref a1)])) _
    refine st_q3 _ ?_
    show Steps p.tables e below (T_q3.setTop (mkF m 26 #[.val (.ref a1), .val (.int (1 : Int32)), .val (.int p3), .val (.int (1 : Int32))] [(.int (F2_0 ((p3.toUInt32 >>> ((4 : Int32) &&& 31).toUInt32).toInt32))), (.int ((1 : Int32) + (2 : Int32))), (.ref a1)])) _
    refine XS.i2b X_q3.here hx rfl (hb hby d1_26) rfl ?_
    show Steps p.tables e below (T_q3.setTop (mkF m 27 #[.val (.ref a1), .val (.int (1 : Int32)), .val (.int p3), .val (.int (1 : Int32))] [(.int ((F2_0 ((p3.toUInt32 >>> ((4 : Int32) &&& 31).toUInt32).toInt32)).toInt8.toInt32)), (.int ((1 : Int32) + (2 : Int32))), (.ref a1)])) _
    refine st_q4 _ ?_
    show Steps p.tables e below (T_q4.setTop (mkF m 28 #[.val (.ref a1), .val (.int (1 : Int32)), .val (.int p3), .val (.int (1 : Int32))] [])) _
    refine XS.aloadN X_q4.here hx rfl (hb hby d1_28) rfl rfl ?_
    show Steps p.tables e below (T_q4.setTop (mkF m 29 #[.val (.ref a1), .val (.int (1 : Int32)), .val (.int p3), .val (.int (1 : Int32))] [(.ref a1)])) _
    refine XS.iloadN X_q4.here hx rfl (hb hby d1_29) rfl ?_
    show Steps p.tables e below (T_q4.setTop (mkF m 30 #[.val (.ref a1), .val (.int (1 : Int32)), .val (.int p3), .val (.int (1 : Int32))] [(.int (1 : Int32)), (.ref a1)])) _
    refine XS.iconst X_q4.here hx rfl (hb hby d1_30) ?_
    show Steps p.tables e below (T_q4.setTop (mkF m 31 #[.val (.ref a1), .val (.int (1 : Int32)), .val (.int p3), .val (.int (1 : Int32))] [(.int (3 : Int32)), (.int (1 : Int32)), (.ref a1)])) _
    refine XS.iadd X_q4.here hx rfl (hb hby d1_31) rfl ?_
    show Steps p.tables e below (T_q4.setTop (mkF m 32 #[.val (.ref a1), .val (.int (1 : Int32)), .val (.int p3), .val (.int (1 : Int32))] [(.int ((1 : Int32) + (3 : Int32))), (.ref a1)])) _
    refine XS.iloadN X_q4.here hx rfl (hb hby d1_32) rfl ?_
    show Steps p.tables e below (T_q4.setTop (mkF m 33 #[.val (.ref a1), .val (.int (1 : Int32)), .val (.int p3), .val (.int (1 : Int32))] [(.int p3), (.int ((1 : Int32) + (3 : Int32))), (.ref a1)])) _
    refine XS.bipush X_q4.here hx rfl (hb hby d1_33) ?_
    show Steps p.tables e below (T_q4.setTop (mkF m 35 #[.val (.ref a1), .val (.int (1 : Int32)), .val (.int p3), .val (.int (1 : Int32))] [(.int (15 : Int32)), (.int p3), (.int ((1 : Int32) + (3 : Int32))), (.ref a1)])) _
    refine XS.iand X_q4.here hx rfl (hb hby d1_35) rfl ?_
    show Steps p.tables e below (T_q4.setTop (mkF m 36 #[.val (.ref a1), .val (.int (1 : Int32)), .val (.int p3), .val (.int (1 : Int32))] [(.int (p3 &&& (15 : Int32))), (.int ((1 : Int32) + (3 : Int32))), (.ref a1)])) _
    refine st_q5 _ ?_
    show Steps p.tables e below (T_q5.setTop (mkF m 39 #[.val (.ref a1), .val (.int (1 : Int32)), .val (.int p3), .val (.int (1 : Int32))] [(.int (F2_0 (p3 &&& (15 : Int32)))), (.int ((1 : Int32) + (3 : Int32))), (.ref a1)])) _
    refine XS.i2b X_q5.here hx rfl (hb hby d1_39) rfl ?_
    show Steps p.tables e below (T_q5.setTop (mkF m 40 #[.val (.ref a1), .val (.int (1 : Int32)), .val (.int p3), .val (.int (1 : Int32))] [(.int ((F2_0 (p3 &&& (15 : Int32))).toInt8.toInt32)), (.int ((1 : Int32) + (3 : Int32))), (.ref a1)])) _
    refine st_q6 _ ?_
    show Steps p.tables e below (T_q6.setTop (mkF m 41 #[.val (.ref a1), .val (.int (1 : Int32)), .val (.int p3), .val (.int (1 : Int32))] [])) _
    refine XS.iloadN X_q6.here hx rfl (hb hby d1_41) rfl ?_
    show Steps p.tables e below (T_q6.setTop (mkF m 42 #[.val (.ref a1), .val (.int (1 : Int32)), .val (.int p3), .val (.int (1 : Int32))] [(.int (1 : Int32))])) _
    refine XS.iconst X_q6.here hx rfl (hb hby d1_42) ?_
    show Steps p.tables e below (T_q6.setTop (mkF m 43 #[.val (.ref a1), .val (.int (1 : Int32)), .val (.int p3), .val (.int (1 : Int32))] [(.int (4 : Int32)), (.int (1 : Int32))])) _
    refine XS.iadd X_q6.here hx rfl (hb hby d1_43) rfl ?_
    show Steps p.tables e below (T_q6.setTop (mkF m 44 #[.val (.ref a1), .val (.int (1 : Int32)), .val (.int p3), .val (.int (1 : Int32))] [(.int ((1 : Int32) + (4 : Int32)))])) _
    exact retI X_q6 hx Bd.returns (hb hby d1_44) hr
  · show Q_rm1_5_1_1 Z a1 k1 u0 u1 u2 u3 u4 p3 h0 n0 _ T_q6.heap _
    rw [e_q6]
    exact ⟨rfl, N_q6, K_q6, V_a1__q6⟩
def Q_rm1_8_0_1 (Z : State) (a1 : Addr) (k1 : ClassId) (u0 : Value) (u1 : Value) (u2 : Value) (u3 : Value) (u4 : Value) (u5 : Value) (u6 : Value) (u7 : Value) (p3 : Int32) (h0 : Heap) (n0 : Nat) (v : Option Value) (h : Heap) (L : List Loc) : Prop := v = some (.int ((0 : Int32) + (4 : Int32))) ∧ Fr n0 L ∧ Keep h0 h [a1] ∧ Arv Z h a1 k1 .byte (8 : Int32) [(.int (nar .byte (92 : Int32))), (.int (nar .byte (120 : Int32))), (.int (nar .byte ((F2_0 ((p3.toUInt32 >>> ((4 : Int32) &&& 31).toUInt32).toInt32)).toInt8.toInt32))), (.int (nar .byte ((F2_0 (p3 &&& (15 : Int32))).toInt8.toInt32))), u4, u5, u6, u7] (.int (0 : Int32))
set_option maxRecDepth 65536 in
set_option maxHeartbeats 40000000 in
theorem rm1_8_0_1 (l : Launch) (Z : State) (a0 : Array Value) (hw : ∀ d ∈ tables_1, d.before a0 Z = true) (ws : List Jvm.Cond) (a1 : Addr) (k1 : ClassId) (u0 : Value) (u1 : Value) (u2 : Value) (u3 : Value) (u4 : Value) (u5 : Value) (u6 : Value) (u7 : Value) (p3 : Int32) (h0 : Heap) (n0 : Nat) (Z0 : n0 ≤ h0.size) (V_a1 : Arv Z h0 a1 k1 .byte (8 : Int32) [u0, u1, u2, u3, u4, u5, u6, u7] (.int (0 : Int32))) (ge_a1 : n0 ≤ a1) :
    MetFree l (⟨"com/example/presplit/presplit/escape/BinaryEscapeDecodePinLaw", "put", "([BIIZ)I"⟩ : MethodName) (head1 (Jvm.Cond.code (⟨"com/example/presplit/presplit/escape/BinaryEscapeDecodePinLaw", "put", "([BIIZ)I"⟩ : MethodName) method_3_code 4 (some .int) :: ws) ({ frames := 1, cells := 0, slots := 0, locals := 30 } : Room)) (fun a U => a = #[(.ref a1), (.int (0 : Int32)), (.int p3), (.int (1 : Int32))] ∧ Z.Warmed39 U.vm ∧ U.heap = h0) (fun _ _ _ _ _ => True) (fun _ U o U' => ∃ v L, o = .returned v ∧ Q_rm1_8_0_1 Z a1 k1 u0 u1 u2 u3 u4 u5 u6 u7 p3 h0 n0 v U'.heap L ∧ FrameEnd U o U' L ({ frames := 1, cells := 0, slots := 0, locals := 30 } : Room).cells ({ frames := 1, cells := 0, slots := 0, locals := 30 } : Room).slots) := by
  refine MetFree.of_bodySF (plainFor_of_name pn_1) hisR ?_
  intro p e s m args below meth c s₁ Bd hml0 hP hK
  obtain ⟨rfl, hZ, hh⟩ := hP
  have hx := Bd.exec
  have hby := Bd.bytes
  have hml : c.maxLocals = 4 := hml0
  have hown : s.vm.findClass "com/example/presplit/presplit/escape/BinaryEscapeDecodePinLaw" = some m.cls := findClass_of_methodNamed Bd.named
  have hnm := (name_of_methodNamed Bd.named Bd.method).1
  have X0 : Stand p l e ({ frames := 1, cells := 0, slots := 0, locals := 30 } : Room) s m #[(.ref a1), (.int (0 : Int32)), (.int p3), (.int (1 : Int32))] below meth c s₁ [] 0 0 := Stand.of_body Bd
  have e0 : s₁.heap = h0 := by rw [← hh, Bd.state]; rfl
  have N0 := Fr.nil n0
  have pre0 : ∀ t, Steps p.tables e below (s₁.setTop (mkF m 0 #[.val (.ref a1), .val (.int (0 : Int32)), .val (.int p3), .val (.int (1 : Int32))] [])) t → Steps p.tables e below (s₁.setTop (entryFrame m #[(.ref a1), (.int (0 : Int32)), (.int p3), (.int (1 : Int32))] 4)) t := fun t k => castTop (ef_1 m a1 (0 : Int32) p3 (1 : Int32)) k
  have K0 : Keep h0 h0 [a1] := Keep.refl _ _
  obtain ⟨cl_q1, Ar_q1, qk_q1, S_q1, Nn_q1, H_q1, G_q1⟩ := id V_a1
  have hin_q1 : ¬ ((0 : Int32) < 0 ∨ cl_q1.slots.size ≤ ((0 : Int32)).toNatClampNeg) := inb_of S_q1 ⟨by decide, by decide⟩
  obtain ⟨T_q1, h_q1, X_q1, e_q1, W_q1, st_q1⟩ := stB X0 hx hZ e0 Ar_q1 (j := (0 : Int32)) hin_q1 (g := (mkF m 8 #[.val (.ref a1), .val (.int (0 : Int32)), .val (.int p3), .val (.int (1 : Int32))] [(.int (92 : Int32)), (.int (0 : Int32)), (.ref a1)])) rfl rfl (hb hby d1_8)
  have V_a1__q1 : Arv Z h_q1 a1 k1 .byte (8 : Int32) [(.int (nar .byte (92 : Int32))), u1, u2, u3, u4, u5, u6, u7] (.int (0 : Int32)) := Arv.set Ar_q1 qk_q1 S_q1 Nn_q1 H_q1 G_q1 (fits_nar_byte _) W_q1 0 rfl (Nat.le_of_ble_eq_true rfl)
  have K_q1 : Keep h0 h_q1 [a1] := K0.wr W_q1 (Or.inl (List.mem_of_getElem? (i := 0) rfl))
  have N_q1 := Fr.snoc X_q1 N0 ge_a1
  obtain ⟨cl_q2, Ar_q2, qk_q2, S_q2, Nn_q2, H_q2, G_q2⟩ := id V_a1__q1
  have hin_q2 : ¬ (((0 : Int32) + (1 : Int32)) < 0 ∨ cl_q2.slots.size ≤ (((0 : Int32) + (1 : Int32))).toNatClampNeg) := inb_of S_q2 ⟨by decide, by decide⟩
  obtain ⟨T_q2, h_q2, X_q2, e_q2, W_q2, st_q2⟩ := stB X_q1 hx hZ e_q1 Ar_q2 (j := ((0 : Int32) + (1 : Int32))) hin_q2 (g := (mkF m 15 #[.val (.ref a1), .val (.int (0 : Int32)), .val (.int p3), .val (.int (1 : Int32))] [(.int (120 : Int32)), (.int ((0 : Int32) + (1 : Int32))), (.ref a1)])) rfl rfl (hb hby d1_15)
  have V_a1__q2 : Arv Z h_q2 a1 k1 .byte (8 : Int32) [(.int (nar .byte (92 : Int32))), (.int (nar .byte (120 : Int32))), u2, u3, u4, u5, u6, u7] (.int (0 : Int32)) := Arv.set Ar_q2 qk_q2 S_q2 Nn_q2 H_q2 G_q2 (fits_nar_byte _) W_q2 1 rfl (Nat.le_of_ble_eq_true rfl)
  have K_q2 : Keep h0 h_q2 [a1] := K_q1.wr W_q2 (Or.inl (List.mem_of_getElem? (i := 0) rfl))
  have N_q2 := Fr.snoc X_q2 N_q1 ge_a1
  obtain ⟨_, _, ⟨T_q3, L_q3, k_q3, n_q3⟩, -, X_q3, ⟨Lc_q3, hQ_q3, l_q3, y_q3, z_q3⟩, st_q3⟩ := Jvm.LawKit.callS X_q2 hx (y := (⟨"com/example/presplit/presplit/escape/BinaryEscapeDecodePinLaw", "hex", "(I)I"⟩ : MethodName)) hown (mvT hZ (hw _ (List.mem_of_getElem? (i := 5) rfl))) (mvT hZ (hw _ (List.mem_of_getElem? (i := 6) rfl))) (mvT hZ (hw _ (List.mem_of_getElem? (i := 3) rfl))) (mvT hZ (hw _ (List.mem_of_getElem? (i := 7) rfl))) (by decide) (backOf (W := 2) (rm2 l Z a0 hw [] ((p3.toUInt32 >>> ((4 : Int32) &&& 31).toUInt32).toInt32) h_q2 n0 (Nat.le_trans Z0 K_q2.1)) hZ (hw _ (List.mem_of_getElem? (i := 7) rfl)) (hw _ (List.mem_of_getElem? (i := 3) rfl)) (by decide) (by decide)) (g := (mkF m 23 #[.val (.ref a1), .val (.int (0 : Int32)), .val (.int p3), .val (.int (1 : Int32))] [(.int ((p3.toUInt32 >>> ((4 : Int32) &&& 31).toUInt32).toInt32)), (.int ((0 : Int32) + (2 : Int32))), (.ref a1)])) rfl (by rw [hml]; rfl) (argsL := [(.int ((p3.toUInt32 >>> ((4 : Int32) &&& 31).toUInt32).toInt32))]) (rest := [(.int ((0 : Int32) + (2 : Int32))), (.ref a1)]) (lenOf pd__I_I rfl) rfl (by show 2 * 0 + _ ≤ _; exact Nat.le_of_eq rfl) (hb hby d1_23) (fun _ _ => ⟨rfl, e_q2, (by decide : 0 + 0 ≤ _), (by decide : 0 + 0 ≤ _)⟩)
  dsimp only [Pt.U, Pt.locs, Pt.cells, Pt.slots] at X_q3 l_q3 y_q3 z_q3 st_q3 hQ_q3
  subst l_q3 y_q3 z_q3
  obtain ⟨rfl, Nq_q3, eq_q3⟩ := hQ_q3
  have Kq_q3 : Keep h_q2 T_q3.heap [] := by rw [eq_q3]; exact Keep.refl _ _
  have N_q3 := Fr.app N_q2 Nq_q3
  have V_a1__q3 := V_a1__q2.keep Kq_q3 List.not_mem_nil
  have K_q3 : Keep h0 T_q3.heap [a1] := K_q2.trans Kq_q3 (fun x hx => nomatch hx)
  obtain ⟨cl_q4, Ar_q4, qk_q4, S_q4, Nn_q4, H_q4, G_q4⟩ := id V_a1__q3
  have hin_q4 : ¬ (((0 : Int32) + (2 : Int32)) < 0 ∨ cl_q4.slots.size ≤ (((0 : Int32) + (2 : Int32))).toNatClampNeg) := inb_of S_q4 ⟨by decide, by decide⟩
  obtain ⟨T_q4, h_q4, X_q4, e_q4, W_q4, st_q4⟩ := stB X_q3 hx hZ rfl Ar_q4 (j := ((0 : Int32) + (2 : Int32))) hin_q4 (g := (mkF m 27 #[.val (.ref a1), .val (.int (0 : Int32)), .val (.int p3), .val (.int (1 : Int32))] [(.int ((F2_0 ((p3.toUInt32 >>> ((4 : Int32) &&& 31).toUInt32).toInt32)).toInt8.toInt32)), (.int ((0 : Int32) + (2 : Int32))), (.ref a1)])) rfl rfl (hb hby d1_27)
  have V_a1__q4 : Arv Z h_q4 a1 k1 .byte (8 : Int32) [(.int (nar .byte (92 : Int32))), (.int (nar .byte (120 : Int32))), (.int (nar .byte ((F2_0 ((p3.toUInt32 >>> ((4 : Int32) &&& 31).toUInt32).toInt32)).toInt8.toInt32))), u3, u4, u5, u6, u7] (.int (0 : Int32)) := Arv.set Ar_q4 qk_q4 S_q4 Nn_q4 H_q4 G_q4 (fits_nar_byte _) W_q4 2 rfl (Nat.le_of_ble_eq_true rfl)
  have K_q4 : Keep h0 h_q4 [a1] := K_q3.wr W_q4 (Or.inl (List.mem_of_getElem? (i := 0) rfl))
  have N_q4 := Fr.snoc X_q4 N_q3 ge_a1
  obtain ⟨_, _, ⟨T_q5, L_q5, k_q5, n_q5⟩, -, X_q5, ⟨Lc_q5, hQ_q5, l_q5, y_q5, z_q5⟩, st_q5⟩ := Jvm.LawKit.callS X_q4 hx (y := (⟨"com/example/presplit/presplit/escape/BinaryEscapeDecodePinLaw", "hex", "(I)I"⟩ : MethodName)) hown (mvT hZ (hw _ (List.mem_of_getElem? (i := 5) rfl))) (mvT hZ (hw _ (List.mem_of_getElem? (i := 6) rfl))) (mvT hZ (hw _ (List.mem_of_getElem? (i := 3) rfl))) (mvT hZ (hw _ (List.mem_of_getElem? (i := 7) rfl))) (by decide) (backOf (W := 2) (rm2 l Z a0 hw [] (p3 &&& (15 : Int32)) h_q4 n0 (Nat.le_trans Z0 K_q4.1)) hZ (hw _ (List.mem_of_getElem? (i := 7) rfl)) (hw _ (List.mem_of_getElem? (i := 3) rfl)) (by decide) (by decide)) (g := (mkF m 36 #[.val (.ref a1), .val (.int (0 : Int32)), .val (.int p3), .val (.int (1 : Int32))] [(.int (p3 &&& (15 : Int32))), (.int ((0 : Int32) + (3 : Int32))), (.ref a1)])) rfl (by rw [hml]; rfl) (argsL := [(.int (p3 &&& (15 : Int32)))]) (rest := [(.int ((0 : Int32) + (3 : Int32))), (.ref a1)]) (lenOf pd__I_I rfl) rfl (by show 2 * 0 + _ ≤ _; exact Nat.le_of_eq rfl) (hb hby d1_36) (fun _ _ => ⟨rfl, e_q4, (by decide : 0 + 0 ≤ _), (by decide : 0 + 0 ≤ _)⟩)
  dsimp only [Pt.U, Pt.locs, Pt.cells, Pt.slots] at X_q5 l_q5 y_q5 z_q5 st_q5 hQ_q5
  subst l_q5 y_q5 z_q5
  obtain ⟨rfl, Nq_q5, eq_q5⟩ := hQ_q5
  have Kq_q5 : Keep h_q4 T_q5.heap [] := by rw [eq_q5]; exact Keep.refl _ _
  have N_q5 := Fr.app N_q4 Nq_q5
  have V_a1__q5 := V_a1__q4.keep Kq_q5 List.not_mem_nil
  have K_q5 : Keep h0 T_q5.heap [a1] := K_q4.trans Kq_q5 (fun x hx => nomatch hx)
  obtain ⟨cl_q6, Ar_q6, qk_q6, S_q6, Nn_q6, H_q6, G_q6⟩ := id V_a1__q5
  have hin_q6 : ¬ (((0 : Int32) + (3 : Int32)) < 0 ∨ cl_q6.slots.size ≤ (((0 : Int32) + (3 : Int32))).toNatClampNeg) := inb_of S_q6 ⟨by decide, by decide⟩
  obtain ⟨T_q6, h_q6, X_q6, e_q6, W_q6, st_q6⟩ := stB X_q5 hx hZ rfl Ar_q6 (j := ((0 : Int32) + (3 : Int32))) hin_q6 (g := (mkF m 40 #[.val (.ref a1), .val (.int (0 : Int32)), .val (.int p3), .val (.int (1 : Int32))] [(.int ((F2_0 (p3 &&& (15 : Int32))).toInt8.toInt32)), (.int ((0 : Int32) + (3 : Int32))), (.ref a1)])) rfl rfl (hb hby d1_40)
  have V_a1__q6 : Arv Z h_q6 a1 k1 .byte (8 : Int32) [(.int (nar .byte (92 : Int32))), (.int (nar .byte (120 : Int32))), (.int (nar .byte ((F2_0 ((p3.toUInt32 >>> ((4 : Int32) &&& 31).toUInt32).toInt32)).toInt8.toInt32))), (.int (nar .byte ((F2_0 (p3 &&& (15 : Int32))).toInt8.toInt32))), u4, u5, u6, u7] (.int (0 : Int32)) := Arv.set Ar_q6 qk_q6 S_q6 Nn_q6 H_q6 G_q6 (fits_nar_byte _) W_q6 3 rfl (Nat.le_of_ble_eq_true rfl)
  have K_q6 : Keep h0 h_q6 [a1] := K_q5.wr W_q6 (Or.inl (List.mem_of_getElem? (i := 0) rfl))
  have N_q6 := Fr.snoc X_q6 N_q5 ge_a1
  obtain ⟨fs, hr, hrun, hended, hW, hsame⟩ := X_q6.leave (v := some (.int ((0 : Int32) + (4 : Int32)))) (fun h => by rw [Bd.returns] at h; cases h) Bd.notSynchronized
  refine ⟨_, _, pre0 _ ?_, hrun, hended, _, _, rfl, ?_, ⟨_, rfl⟩, hW, hsame.mono (by decide) (by decide)⟩
  · show Steps p.tables e below (s₁.setTop (mkF m 0 #[.val (.ref a1), .val (.int (0 : Int32)), .val (.int p3), .val (.int (1 : Int32))] [])) _
    refine XS.iloadN X0.here hx rfl (hb hby d1_0) rfl ?_
    show Steps p.tables e below (s₁.setTop (mkF m 1 #[.val (.ref a1), .val (.int (0 : Int32)), .val (.int p3), .val (.int (1 : Int32))] [(.int (1 : Int32))])) _
    refine XS.ifNo X0.here hx rfl (hb hby d1_1) rfl ((if0 _ _).trans (feq (by decide : ¬ ((1 : Int32) = (0 : Int32)))).1) ?_
    show Steps p.tables e below (s₁.setTop (mkF m 4 #[.val (.ref a1), .val (.int (0 : Int32)), .val (.int p3), .val (.int (1 : Int32))] [])) _
    refine XS.aloadN X0.here hx rfl (hb hby d1_4) rfl rfl ?_
    show Steps p.tables e below (s₁.setTop (mkF m 5 #[.val (.ref a1), .val (.int (0 : Int32)), .val (.int p3), .val (.int (1 : Int32))] [(.ref a1)])) _
    refine XS.iloadN X0.here hx rfl (hb hby d1_5) rfl ?_
    show Steps p.tables e below (s₁.setTop (mkF m 6 #[.val (.ref a1), .val (.int (0 : Int32)), .val (.int p3), .val (.int (1 : Int32))] [(.int (0 : Int32)), (.ref a1)])) _
    refine XS.bipush X0.here hx rfl (hb hby d1_6) ?_
    show Steps p.tables e below (s₁.setTop (mkF m 8 #[.val (.ref a1), .val (.int (0 : Int32)), .val (.int p3), .val (.int (1 : Int32))] [(.int (92 : Int32)), (.int (0 : Int32)), (.ref a1)])) _
    refine st_q1 _ ?_
    show Steps p.tables e below (T_q1.setTop (mkF m 9 #[.val (.ref a1), .val (.int (0 : Int32)), .val (.int p3), .val (.int (1 : Int32))] [])) _
    refine XS.aloadN X_q1.here hx rfl (hb hby d1_9) rfl rfl ?_
    show Steps p.tables e below (T_q1.setTop (mkF m 10 #[.val (.ref a1), .val (.int (0 : Int32)), .val (.int p3), .val (.int (1 : Int32))] [(.ref a1)])) _
    refine XS.iloadN X_q1.here hx rfl (hb hby d1_10) rfl ?_
    show Steps p.tables e below (T_q1.setTop (mkF m 11 #[.val (.ref a1), .val (.int (0 : Int32)), .val (.int p3), .val (.int (1 : Int32))] [(.int (0 : Int32)), (.ref a1)])) _
    refine XS.iconst X_q1.here hx rfl (hb hby d1_11) ?_
    show Steps p.tables e below (T_q1.setTop (mkF m 12 #[.val (.ref a1), .val (.int (0 : Int32)), .val (.int p3), .val (.int (1 : Int32))] [(.int (1 : Int32)), (.int (0 : Int32)), (.ref a1)])) _
    refine XS.iadd X_q1.here hx rfl (hb hby d1_12) rfl ?_
    show Steps p.tables e below (T_q1.setTop (mkF m 13 #[.val (.ref a1), .val (.int (0 : Int32)), .val (.int p3), .val (.int (1 : Int32))] [(.int ((0 : Int32) + (1 : Int32))), (.ref a1)])) _
    refine XS.bipush X_q1.here hx rfl (hb hby d1_13) ?_
    show Steps p.tables e below (T_q1.setTop (mkF m 15 #[.val (.ref a1), .val (.int (0 : Int32)), .val (.int p3), .val (.int (1 : Int32))] [(.int (120 : Int32)), (.int ((0 : Int32) + (1 : Int32))), (.ref a1)])) _
    refine st_q2 _ ?_
    show Steps p.tables e below (T_q2.setTop (mkF m 16 #[.val (.ref a1), .val (.int (0 : Int32)), .val (.int p3), .val (.int (1 : Int32))] [])) _
    refine XS.aloadN X_q2.here hx rfl (hb hby d1_16) rfl rfl ?_
    show Steps p.tables e below (T_q2.setTop (mkF m 17 #[.val (.ref a1), .val (.int (0 : Int32)), .val (.int p3), .val (.int (1 : Int32))] [(.ref a1)])) _
    refine XS.iloadN X_q2.here hx rfl (hb hby d1_17) rfl ?_
    show Steps p.tables e below (T_q2.setTop (mkF m 18 #[.val (.ref a1), .val (.int (0 : Int32)), .val (.int p3), .val (.int (1 : Int32))] [(.int (0 : Int32)), (.ref a1)])) _
    refine XS.iconst X_q2.here hx rfl (hb hby d1_18) ?_
    show Steps p.tables e below (T_q2.setTop (mkF m 19 #[.val (.ref a1), .val (.int (0 : Int32)), .val (.int p3), .val (.int (1 : Int32))] [(.int (2 : Int32)), (.int (0 : Int32)), (.ref a1)])) _
    refine XS.iadd X_q2.here hx rfl (hb hby d1_19) rfl ?_
    show Steps p.tables e below (T_q2.setTop (mkF m 20 #[.val (.ref a1), .val (.int (0 : Int32)), .val (.int p3), .val (.int (1 : Int32))] [(.int ((0 : Int32) + (2 : Int32))), (.ref a1)])) _
    refine XS.iloadN X_q2.here hx rfl (hb hby d1_20) rfl ?_
    show Steps p.tables e below (T_q2.setTop (mkF m 21 #[.val (.ref a1), .val (.int (0 : Int32)), .val (.int p3), .val (.int (1 : Int32))] [(.int p3), (.int ((0 : Int32) + (2 : Int32))), (.ref a1)])) _
    refine XS.iconst X_q2.here hx rfl (hb hby d1_21) ?_
    show Steps p.tables e below (T_q2.setTop (mkF m 22 #[.val (.ref a1), .val (.int (0 : Int32)), .val (.int p3), .val (.int (1 : Int32))] [(.int (4 : Int32)), (.int p3), (.int ((0 : Int32) + (2 : Int32))), (.ref a1)])) _
    refine XS.iushr X_q2.here hx rfl (hb hby d1_22) rfl ?_
    show Steps p.tables e below (T_q2.setTop (mkF m 23 #[.val (.ref a1), .val (.int (0 : Int32)), .val (.int p3), .val (.int (1 : Int32))] [(.int ((p3.toUInt32 >>> ((4 : Int32) &&& 31).toUInt32).toInt32)), (.int ((0 : Int32) + (2 : Int32))), (.ref a1)])) _
    refine st_q3 _ ?_
    show Steps p.tables e below (T_q3.setTop (mkF m 26 #[.val (.ref a1), .val (.int (0 : Int32)), .val (.int p3), .val (.int (1 : Int32))] [(.int (F2_0 ((p3.toUInt32 >>> ((4 : Int32) &&& 31).toUInt32).toInt32))), (.int ((0 : Int32) + (2 : Int32))), (.ref a1)])) _
    refine XS.i2b X_q3.here hx rfl (hb hby d1_26) rfl ?_
    show Steps p.tables e below (T_q3.setTop (mkF m 27 #[.val (.ref a1), .val (.int (0 : Int32)), .val (.int p3), .val (.int (1 : Int32))] [(.int ((F2_0 ((p3.toUInt32 >>> ((4 : Int32) &&& 31).toUInt32).toInt32)).toInt8.toInt32)), (.int ((0 : Int32) + (2 : Int32))), (.ref a1)])) _
    refine st_q4 _ ?_
    show Steps p.tables e below (T_q4.setTop (mkF m 28 #[.val (.ref a1), .val (.int (0 : Int32)), .val (.int p3), .val (.int (1 : Int32))] [])) _
    refine XS.aloadN X_q4.here hx rfl (hb hby d1_28) rfl rfl ?_
    show Steps p.tables e below (T_q4.setTop (mkF m 29 #[.val (.ref a1), .val (.int (0 : Int32)), .val (.int p3), .val (.int (1 : Int32))] [(.ref a1)])) _
    refine XS.iloadN X_q4.here hx rfl (hb hby d1_29) rfl ?_
    show Steps p.tables e below (T_q4.setTop (mkF m 30 #[.val (.ref a1), .val (.int (0 : Int32)), .val (.int p3), .val (.int (1 : Int32))] [(.int (0 : Int32)), (.ref a1)])) _
    refine XS.iconst X_q4.here hx rfl (hb hby d1_30) ?_
    show Steps p.tables e below (T_q4.setTop (mkF m 31 #[.val (.ref a1), .val (.int (0 : Int32)), .val (.int p3), .val (.int (1 : Int32))] [(.int (3 : Int32)), (.int (0 : Int32)), (.ref a1)])) _
    refine XS.iadd X_q4.here hx rfl (hb hby d1_31) rfl ?_
    show Steps p.tables e below (T_q4.setTop (mkF m 32 #[.val (.ref a1), .val (.int (0 : Int32)), .val (.int p3), .val (.int (1 : Int32))] [(.int ((0 : Int32) + (3 : Int32))), (.ref a1)])) _
    refine XS.iloadN X_q4.here hx rfl (hb hby d1_32) rfl ?_
    show Steps p.tables e below (T_q4.setTop (mkF m 33 #[.val (.ref a1), .val (.int (0 : Int32)), .val (.int p3), .val (.int (1 : Int32))] [(.int p3), (.int ((0 : Int32) + (3 : Int32))), (.ref a1)])) _
    refine XS.bipush X_q4.here hx rfl (hb hby d1_33) ?_
    show Steps p.tables e below (T_q4.setTop (mkF m 35 #[.val (.ref a1), .val (.int (0 : Int32)), .val (.int p3), .val (.int (1 : Int32))] [(.int (15 : Int32)), (.int p3), (.int ((0 : Int32) + (3 : Int32))), (.ref a1)])) _
    refine XS.iand X_q4.here hx rfl (hb hby d1_35) rfl ?_
    show Steps p.tables e below (T_q4.setTop (mkF m 36 #[.val (.ref a1), .val (.int (0 : Int32)), .val (.int p3), .val (.int (1 : Int32))] [(.int (p3 &&& (15 : Int32))), (.int ((0 : Int32) + (3 : Int32))), (.ref a1)])) _
    refine st_q5 _ ?_
    show Steps p.tables e below (T_q5.setTop (mkF m 39 #[.val (.ref a1), .val (.int (0 : Int32)), .val (.int p3), .val (.int (1 : Int32))] [(.int (F2_0 (p3 &&& (15 : Int32)))), (.int ((0 : Int32) + (3 : Int32))), (.ref a1)])) _
    refine XS.i2b X_q5.here hx rfl (hb hby d1_39) rfl ?_
    show Steps p.tables e below (T_q5.setTop (mkF m 40 #[.val (.ref a1), .val (.int (0 : Int32)), .val (.int p3), .val (.int (1 : Int32))] [(.int ((F2_0 (p3 &&& (15 : Int32))).toInt8.toInt32)), (.int ((0 : Int32) + (3 : Int32))), (.ref a1)])) _
    refine st_q6 _ ?_
    show Steps p.tables e below (T_q6.setTop (mkF m 41 #[.val (.ref a1), .val (.int (0 : Int32)), .val (.int p3), .val (.int (1 : Int32))] [])) _
    refine XS.iloadN X_q6.here hx rfl (hb hby d1_41) rfl ?_
    show Steps p.tables e below (T_q6.setTop (mkF m 42 #[.val (.ref a1), .val (.int (0 : Int32)), .val (.int p3), .val (.int (1 : Int32))] [(.int (0 : Int32))])) _
    refine XS.iconst X_q6.here hx rfl (hb hby d1_42) ?_
    show Steps p.tables e below (T_q6.setTop (mkF m 43 #[.val (.ref a1), .val (.int (0 : Int32)), .val (.int p3), .val (.int (1 : Int32))] [(.int (4 : Int32)), (.int (0 : Int32))])) _
    refine XS.iadd X_q6.here hx rfl (hb hby d1_43) rfl ?_
    show Steps p.tables e below (T_q6.setTop (mkF m 44 #[.val (.ref a1), .val (.int (0 : Int32)), .val (.int p3), .val (.int (1 : Int32))] [(.int ((0 : Int32) + (4 : Int32)))])) _
    exact retI X_q6 hx Bd.returns (hb hby d1_44) hr
  · show Q_rm1_8_0_1 Z a1 k1 u0 u1 u2 u3 u4 u5 u6 u7 p3 h0 n0 _ T_q6.heap _
    rw [e_q6]
    exact ⟨rfl, N_q6, K_q6, V_a1__q6⟩
def Q_rm1_8_4_1 (Z : State) (a1 : Addr) (k1 : ClassId) (u0 : Value) (u1 : Value) (u2 : Value) (u3 : Value) (u4 : Value) (u5 : Value) (u6 : Value) (u7 : Value) (p3 : Int32) (h0 : Heap) (n0 : Nat) (v : Option Value) (h : Heap) (L : List Loc) : Prop := v = some (.int ((4 : Int32) + (4 : Int32))) ∧ Fr n0 L ∧ Keep h0 h [a1] ∧ Arv Z h a1 k1 .byte (8 : Int32) [u0, u1, u2, u3, (.int (nar .byte (92 : Int32))), (.int (nar .byte (120 : Int32))), (.int (nar .byte ((F2_0 ((p3.toUInt32 >>> ((4 : Int32) &&& 31).toUInt32).toInt32)).toInt8.toInt32))), (.int (nar .byte ((F2_0 (p3 &&& (15 : Int32))).toInt8.toInt32)))] (.int (0 : Int32))
set_option maxRecDepth 65536 in
set_option maxHeartbeats 40000000 in
theorem rm1_8_4_1 (l : Launch) (Z : State) (a0 : Array Value) (hw : ∀ d ∈ tables_1, d.before a0 Z = true) (ws : List Jvm.Cond) (a1 : Addr) (k1 : ClassId) (u0 : Value) (u1 : Value) (u2 : Value) (u3 : Value) (u4 : Value) (u5 : Value) (u6 : Value) (u7 : Value) (p3 : Int32) (h0 : Heap) (n0 : Nat) (Z0 : n0 ≤ h0.size) (V_a1 : Arv Z h0 a1 k1 .byte (8 : Int32) [u0, u1, u2, u3, u4, u5, u6, u7] (.int (0 : Int32))) (ge_a1 : n0 ≤ a1) :
    MetFree l (⟨"com/example/presplit/presplit/escape/BinaryEscapeDecodePinLaw", "put", "([BIIZ)I"⟩ : MethodName) (head1 (Jvm.Cond.code (⟨"com/example/presplit/presplit/escape/BinaryEscapeDecodePinLaw", "put", "([BIIZ)I"⟩ : MethodName) method_3_code 4 (some .int) :: ws) ({ frames := 1, cells := 0, slots := 0, locals := 30 } : Room)) (fun a U => a = #[(.ref a1), (.int (4 : Int32)), (.int p3), (.int (1 : Int32))] ∧ Z.Warmed39 U.vm ∧ U.heap = h0) (fun _ _ _ _ _ => True) (fun _ U o U' => ∃ v L, o = .returned v ∧ Q_rm1_8_4_1 Z a1 k1 u0 u1 u2 u3 u4 u5 u6 u7 p3 h0 n0 v U'.heap L ∧ FrameEnd U o U' L ({ frames := 1, cells := 0, slots := 0, locals := 30 } : Room).cells ({ frames := 1, cells := 0, slots := 0, locals := 30 } : Room).slots) := by
  refine MetFree.of_bodySF (plainFor_of_name pn_1) hisR ?_
  intro p e s m args below meth c s₁ Bd hml0 hP hK
  obtain ⟨rfl, hZ, hh⟩ := hP
  have hx := Bd.exec
  have hby := Bd.bytes
  have hml : c.maxLocals = 4 := hml0
  have hown : s.vm.findClass "com/example/presplit/presplit/escape/BinaryEscapeDecodePinLaw" = some m.cls := findClass_of_methodNamed Bd.named
  have hnm := (name_of_methodNamed Bd.named Bd.method).1
  have X0 : Stand p l e ({ frames := 1, cells := 0, slots := 0, locals := 30 } : Room) s m #[(.ref a1), (.int (4 : Int32)), (.int p3), (.int (1 : Int32))] below meth c s₁ [] 0 0 := Stand.of_body Bd
  have e0 : s₁.heap = h0 := by rw [← hh, Bd.state]; rfl
  have N0 := Fr.nil n0
  have pre0 : ∀ t, Steps p.tables e below (s₁.setTop (mkF m 0 #[.val (.ref a1), .val (.int (4 : Int32)), .val (.int p3), .val (.int (1 : Int32))] [])) t → Steps p.tables e below (s₁.setTop (entryFrame m #[(.ref a1), (.int (4 : Int32)), (.int p3), (.int (1 : Int32))] 4)) t := fun t k => castTop (ef_1 m a1 (4 : Int32) p3 (1 : Int32)) k
  have K0 : Keep h0 h0 [a1] := Keep.refl _ _
  obtain ⟨cl_q1, Ar_q1, qk_q1, S_q1, Nn_q1, H_q1, G_q1⟩ := id V_a1
  have hin_q1 : ¬ ((4 : Int32) < 0 ∨ cl_q1.slots.size ≤ ((4 : Int32)).toNatClampNeg) := inb_of S_q1 ⟨by decide, by decide⟩
  obtain ⟨T_q1, h_q1, X_q1, e_q1, W_q1, st_q1⟩ := stB X0 hx hZ e0 Ar_q1 (j := (4 : Int32)) hin_q1 (g := (mkF m 8 #[.val (.ref a1), .val (.int (4 : Int32)), .val (.int p3), .val (.int (1 : Int32))] [(.int (92 : Int32)), (.int (4 : Int32)), (.ref a1)])) rfl rfl (hb hby d1_8)
  have V_a1__q1 : Arv Z h_q1 a1 k1 .byte (8 : Int32) [u0, u1, u2, u3, (.int (nar .byte (92 : Int32))), u5, u6, u7] (.int (0 : Int32)) := Arv.set Ar_q1 qk_q1 S_q1 Nn_q1 H_q1 G_q1 (fits_nar_byte _) W_q1 4 rfl (Nat.le_of_ble_eq_true rfl)
  have K_q1 : Keep h0 h_q1 [a1] := K0.wr W_q1 (Or.inl (List.mem_of_getElem? (i := 0) rfl))
  have N_q1 := Fr.snoc X_q1 N0 ge_a1
  obtain ⟨cl_q2, Ar_q2, qk_q2, S_q2, Nn_q2, H_q2, G_q2⟩ := id V_a1__q1
  have hin_q2 : ¬ (((4 : Int32) + (1 : Int32)) < 0 ∨ cl_q2.slots.size ≤ (((4 : Int32) + (1 : Int32))).toNatClampNeg) := inb_of S_q2 ⟨by decide, by decide⟩
  obtain ⟨T_q2, h_q2, X_q2, e_q2, W_q2, st_q2⟩ := stB X_q1 hx hZ e_q1 Ar_q2 (j := ((4 : Int32) + (1 : Int32))) hin_q2 (g := (mkF m 15 #[.val (.ref a1), .val (.int (4 : Int32)), .val (.int p3), .val (.int (1 : Int32))] [(.int (120 : Int32)), (.int ((4 : Int32) + (1 : Int32))), (.ref a1)])) rfl rfl (hb hby d1_15)
  have V_a1__q2 : Arv Z h_q2 a1 k1 .byte (8 : Int32) [u0, u1, u2, u3, (.int (nar .byte (92 : Int32))), (.int (nar .byte (120 : Int32))), u6, u7] (.int (0 : Int32)) := Arv.set Ar_q2 qk_q2 S_q2 Nn_q2 H_q2 G_q2 (fits_nar_byte _) W_q2 5 rfl (Nat.le_of_ble_eq_true rfl)
  have K_q2 : Keep h0 h_q2 [a1] := K_q1.wr W_q2 (Or.inl (List.mem_of_getElem? (i := 0) rfl))
  have N_q2 := Fr.snoc X_q2 N_q1 ge_a1
  obtain ⟨_, _, ⟨T_q3, L_q3, k_q3, n_q3⟩, -, X_q3, ⟨Lc_q3, hQ_q3, l_q3, y_q3, z_q3⟩, st_q3⟩ := Jvm.LawKit.callS X_q2 hx (y := (⟨"com/example/presplit/presplit/escape/BinaryEscapeDecodePinLaw", "hex", "(I)I"⟩ : MethodName)) hown (mvT hZ (hw _ (List.mem_of_getElem? (i := 5) rfl))) (mvT hZ (hw _ (List.mem_of_getElem? (i := 6) rfl))) (mvT hZ (hw _ (List.mem_of_getElem? (i := 3) rfl))) (mvT hZ (hw _ (List.mem_of_getElem? (i := 7) rfl))) (by decide) (backOf (W := 2) (rm2 l Z a0 hw [] ((p3.toUInt32 >>> ((4 : Int32) &&& 31).toUInt32).toInt32) h_q2 n0 (Nat.le_trans Z0 K_q2.1)) hZ (hw _ (List.mem_of_getElem? (i := 7) rfl)) (hw _ (List.mem_of_getElem? (i := 3) rfl)) (by decide) (by decide)) (g := (mkF m 23 #[.val (.ref a1), .val (.int (4 : Int32)), .val (.int p3), .val (.int (1 : Int32))] [(.int ((p3.toUInt32 >>> ((4 : Int32) &&& 31).toUInt32).toInt32)), (.int ((4 : Int32) + (2 : Int32))), (.ref a1)])) rfl (by rw [hml]; rfl) (argsL := [(.int ((p3.toUInt32 >>> ((4 : Int32) &&& 31).toUInt32).toInt32))]) (rest := [(.int ((4 : Int32) + (2 : Int32))), (.ref a1)]) (lenOf pd__I_I rfl) rfl (by show 2 * 0 + _ ≤ _; exact Nat.le_of_eq rfl) (hb hby d1_23) (fun _ _ => ⟨rfl, e_q2, (by decide : 0 + 0 ≤ _), (by decide : 0 + 0 ≤ _)⟩)
  dsimp only [Pt.U, Pt.locs, Pt.cells, Pt.slots] at X_q3 l_q3 y_q3 z_q3 st_q3 hQ_q3
  subst l_q3 y_q3 z_q3
  obtain ⟨rfl, Nq_q3, eq_q3⟩ := hQ_q3
  have Kq_q3 : Keep h_q2 T_q3.heap [] := by rw [eq_q3]; exact Keep.refl _ _
  have N_q3 := Fr.app N_q2 Nq_q3
  have V_a1__q3 := V_a1__q2.keep Kq_q3 List.not_mem_nil
  have K_q3 : Keep h0 T_q3.heap [a1] := K_q2.trans Kq_q3 (fun x hx => nomatch hx)
  obtain ⟨cl_q4, Ar_q4, qk_q4, S_q4, Nn_q4, H_q4, G_q4⟩ := id V_a1__q3
  have hin_q4 : ¬ (((4 : Int32) + (2 : Int32)) < 0 ∨ cl_q4.slots.size ≤ (((4 : Int32) + (2 : Int32))).toNatClampNeg) := inb_of S_q4 ⟨by decide, by decide⟩
  obtain ⟨T_q4, h_q4, X_q4, e_q4, W_q4, st_q4⟩ := stB X_q3 hx hZ rfl Ar_q4 (j := ((4 : Int32) + (2 : Int32))) hin_q4 (g := (mkF m 27 #[.val (.ref a1), .val (.int (4 : Int32)), .val (.int p3), .val (.int (1 : Int32))] [(.int ((F2_0 ((p3.toUInt32 >>> ((4 : Int32) &&& 31).toUInt32).toInt32)).toInt8.toInt32)), (.int ((4 : Int32) + (2 : Int32))), (.ref a1)])) rfl rfl (hb hby d1_27)
  have V_a1__q4 : Arv Z h_q4 a1 k1 .byte (8 : Int32) [u0, u1, u2, u3, (.int (nar .byte (92 : Int32))), (.int (nar .byte (120 : Int32))), (.int (nar .byte ((F2_0 ((p3.toUInt32 >>> ((4 : Int32) &&& 31).toUInt32).toInt32)).toInt8.toInt32))), u7] (.int (0 : Int32)) := Arv.set Ar_q4 qk_q4 S_q4 Nn_q4 H_q4 G_q4 (fits_nar_byte _) W_q4 6 rfl (Nat.le_of_ble_eq_true rfl)
  have K_q4 : Keep h0 h_q4 [a1] := K_q3.wr W_q4 (Or.inl (List.mem_of_getElem? (i := 0) rfl))
  have N_q4 := Fr.snoc X_q4 N_q3 ge_a1
  obtain ⟨_, _, ⟨T_q5, L_q5, k_q5, n_q5⟩, -, X_q5, ⟨Lc_q5, hQ_q5, l_q5, y_q5, z_q5⟩, st_q5⟩ := Jvm.LawKit.callS X_q4 hx (y := (⟨"com/example/presplit/presplit/escape/BinaryEscapeDecodePinLaw", "hex", "(I)I"⟩ : MethodName)) hown (mvT hZ (hw _ (List.mem_of_getElem? (i := 5) rfl))) (mvT hZ (hw _ (List.mem_of_getElem? (i := 6) rfl))) (mvT hZ (hw _ (List.mem_of_getElem? (i := 3) rfl))) (mvT hZ (hw _ (List.mem_of_getElem? (i := 7) rfl))) (by decide) (backOf (W := 2) (rm2 l Z a0 hw [] (p3 &&& (15 : Int32)) h_q4 n0 (Nat.le_trans Z0 K_q4.1)) hZ (hw _ (List.mem_of_getElem? (i := 7) rfl)) (hw _ (List.mem_of_getElem? (i := 3) rfl)) (by decide) (by decide)) (g := (mkF m 36 #[.val (.ref a1), .val (.int (4 : Int32)), .val (.int p3), .val (.int (1 : Int32))] [(.int (p3 &&& (15 : Int32))), (.int ((4 : Int32) + (3 : Int32))), (.ref a1)])) rfl (by rw [hml]; rfl) (argsL := [(.int (p3 &&& (15 : Int32)))]) (rest := [(.int ((4 : Int32) + (3 : Int32))), (.ref a1)]) (lenOf pd__I_I rfl) rfl (by show 2 * 0 + _ ≤ _; exact Nat.le_of_eq rfl) (hb hby d1_36) (fun _ _ => ⟨rfl, e_q4, (by decide : 0 + 0 ≤ _), (by decide : 0 + 0 ≤ _)⟩)
  dsimp only [Pt.U, Pt.locs, Pt.cells, Pt.slots] at X_q5 l_q5 y_q5 z_q5 st_q5 hQ_q5
  subst l_q5 y_q5 z_q5
  obtain ⟨rfl, Nq_q5, eq_q5⟩ := hQ_q5
  have Kq_q5 : Keep h_q4 T_q5.heap [] := by rw [eq_q5]; exact Keep.refl _ _
  have N_q5 := Fr.app N_q4 Nq_q5
  have V_a1__q5 := V_a1__q4.keep Kq_q5 List.not_mem_nil
  have K_q5 : Keep h0 T_q5.heap [a1] := K_q4.trans Kq_q5 (fun x hx => nomatch hx)
  obtain ⟨cl_q6, Ar_q6, qk_q6, S_q6, Nn_q6, H_q6, G_q6⟩ := id V_a1__q5
  have hin_q6 : ¬ (((4 : Int32) + (3 : Int32)) < 0 ∨ cl_q6.slots.size ≤ (((4 : Int32) + (3 : Int32))).toNatClampNeg) := inb_of S_q6 ⟨by decide, by decide⟩
  obtain ⟨T_q6, h_q6, X_q6, e_q6, W_q6, st_q6⟩ := stB X_q5 hx hZ rfl Ar_q6 (j := ((4 : Int32) + (3 : Int32))) hin_q6 (g := (mkF m 40 #[.val (.ref a1), .val (.int (4 : Int32)), .val (.int p3), .val (.int (1 : Int32))] [(.int ((F2_0 (p3 &&& (15 : Int32))).toInt8.toInt32)), (.int ((4 : Int32) + (3 : Int32))), (.ref a1)])) rfl rfl (hb hby d1_40)
  have V_a1__q6 : Arv Z h_q6 a1 k1 .byte (8 : Int32) [u0, u1, u2, u3, (.int (nar .byte (92 : Int32))), (.int (nar .byte (120 : Int32))), (.int (nar .byte ((F2_0 ((p3.toUInt32 >>> ((4 : Int32) &&& 31).toUInt32).toInt32)).toInt8.toInt32))), (.int (nar .byte ((F2_0 (p3 &&& (15 : Int32))).toInt8.toInt32)))] (.int (0 : Int32)) := Arv.set Ar_q6 qk_q6 S_q6 Nn_q6 H_q6 G_q6 (fits_nar_byte _) W_q6 7 rfl (Nat.le_of_ble_eq_true rfl)
  have K_q6 : Keep h0 h_q6 [a1] := K_q5.wr W_q6 (Or.inl (List.mem_of_getElem? (i := 0) rfl))
  have N_q6 := Fr.snoc X_q6 N_q5 ge_a1
  obtain ⟨fs, hr, hrun, hended, hW, hsame⟩ := X_q6.leave (v := some (.int ((4 : Int32) + (4 : Int32)))) (fun h => by rw [Bd.returns] at h; cases h) Bd.notSynchronized
  refine ⟨_, _, pre0 _ ?_, hrun, hended, _, _, rfl, ?_, ⟨_, rfl⟩, hW, hsame.mono (by decide) (by decide)⟩
  · show Steps p.tables e below (s₁.setTop (mkF m 0 #[.val (.ref a1), .val (.int (4 : Int32)), .val (.int p3), .val (.int (1 : Int32))] [])) _
    refine XS.iloadN X0.here hx rfl (hb hby d1_0) rfl ?_
    show Steps p.tables e below (s₁.setTop (mkF m 1 #[.val (.ref a1), .val (.int (4 : Int32)), .val (.int p3), .val (.int (1 : Int32))] [(.int (1 : Int32))])) _
    refine XS.ifNo X0.here hx rfl (hb hby d1_1) rfl ((if0 _ _).trans (feq (by decide : ¬ ((1 : Int32) = (0 : Int32)))).1) ?_
    show Steps p.tables e below (s₁.setTop (mkF m 4 #[.val (.ref a1), .val (.int (4 : Int32)), .val (.int p3), .val (.int (1 : Int32))] [])) _
    refine XS.aloadN X0.here hx rfl (hb hby d1_4) rfl rfl ?_
    show Steps p.tables e below (s₁.setTop (mkF m 5 #[.val (.ref a1), .val (.int (4 : Int32)), .val (.int p3), .val (.int (1 : Int32))] [(.ref a1)])) _
    refine XS.iloadN X0.here hx rfl (hb hby d1_5) rfl ?_
    show Steps p.tables e below (s₁.setTop (mkF m 6 #[.val (.ref a1), .val (.int (4 : Int32)), .val (.int p3), .val (.int (1 : Int32))] [(.int (4 : Int32)), (.ref a1)])) _
    refine XS.bipush X0.here hx rfl (hb hby d1_6) ?_
    show Steps p.tables e below (s₁.setTop (mkF m 8 #[.val (.ref a1), .val (.int (4 : Int32)), .val (.int p3), .val (.int (1 : Int32))] [(.int (92 : Int32)), (.int (4 : Int32)), (.ref a1)])) _
    refine st_q1 _ ?_
    show Steps p.tables e below (T_q1.setTop (mkF m 9 #[.val (.ref a1), .val (.int (4 : Int32)), .val (.int p3), .val (.int (1 : Int32))] [])) _
    refine XS.aloadN X_q1.here hx rfl (hb hby d1_9) rfl rfl ?_
    show Steps p.tables e below (T_q1.setTop (mkF m 10 #[.val (.ref a1), .val (.int (4 : Int32)), .val (.int p3), .val (.int (1 : Int32))] [(.ref a1)])) _
    refine XS.iloadN X_q1.here hx rfl (hb hby d1_10) rfl ?_
    show Steps p.tables e below (T_q1.setTop (mkF m 11 #[.val (.ref a1), .val (.int (4 : Int32)), .val (.int p3), .val (.int (1 : Int32))] [(.int (4 : Int32)), (.ref a1)])) _
    refine XS.iconst X_q1.here hx rfl (hb hby d1_11) ?_
    show Steps p.tables e below (T_q1.setTop (mkF m 12 #[.val (.ref a1), .val (.int (4 : Int32)), .val (.int p3), .val (.int (1 : Int32))] [(.int (1 : Int32)), (.int (4 : Int32)), (.ref a1)])) _
    refine XS.iadd X_q1.here hx rfl (hb hby d1_12) rfl ?_
    show Steps p.tables e below (T_q1.setTop (mkF m 13 #[.val (.ref a1), .val (.int (4 : Int32)), .val (.int p3), .val (.int (1 : Int32))] [(.int ((4 : Int32) + (1 : Int32))), (.ref a1)])) _
    refine XS.bipush X_q1.here hx rfl (hb hby d1_13) ?_
    show Steps p.tables e below (T_q1.setTop (mkF m 15 #[.val (.ref a1), .val (.int (4 : Int32)), .val (.int p3), .val (.int (1 : Int32))] [(.int (120 : Int32)), (.int ((4 : Int32) + (1 : Int32))), (.ref a1)])) _
    refine st_q2 _ ?_
    show Steps p.tables e below (T_q2.setTop (mkF m 16 #[.val (.ref a1), .val (.int (4 : Int32)), .val (.int p3), .val (.int (1 : Int32))] [])) _
    refine XS.aloadN X_q2.here hx rfl (hb hby d1_16) rfl rfl ?_
    show Steps p.tables e below (T_q2.setTop (mkF m 17 #[.val (.ref a1), .val (.int (4 : Int32)), .val (.int p3), .val (.int (1 : Int32))] [(.ref a1)])) _
    refine XS.iloadN X_q2.here hx rfl (hb hby d1_17) rfl ?_
    show Steps p.tables e below (T_q2.setTop (mkF m 18 #[.val (.ref a1), .val (.int (4 : Int32)), .val (.int p3), .val (.int (1 : Int32))] [(.int (4 : Int32)), (.ref a1)])) _
    refine XS.iconst X_q2.here hx rfl (hb hby d1_18) ?_
    show Steps p.tables e below (T_q2.setTop (mkF m 19 #[.val (.ref a1), .val (.int (4 : Int32)), .val (.int p3), .val (.int (1 : Int32))] [(.int (2 : Int32)), (.int (4 : Int32)), (.ref a1)])) _
    refine XS.iadd X_q2.here hx rfl (hb hby d1_19) rfl ?_
    show Steps p.tables e below (T_q2.setTop (mkF m 20 #[.val (.ref a1), .val (.int (4 : Int32)), .val (.int p3), .val (.int (1 : Int32))] [(.int ((4 : Int32) + (2 : Int32))), (.ref a1)])) _
    refine XS.iloadN X_q2.here hx rfl (hb hby d1_20) rfl ?_
    show Steps p.tables e below (T_q2.setTop (mkF m 21 #[.val (.ref a1), .val (.int (4 : Int32)), .val (.int p3), .val (.int (1 : Int32))] [(.int p3), (.int ((4 : Int32) + (2 : Int32))), (.ref a1)])) _
    refine XS.iconst X_q2.here hx rfl (hb hby d1_21) ?_
    show Steps p.tables e below (T_q2.setTop (mkF m 22 #[.val (.ref a1), .val (.int (4 : Int32)), .val (.int p3), .val (.int (1 : Int32))] [(.int (4 : Int32)), (.int p3), (.int ((4 : Int32) + (2 : Int32))), (.ref a1)])) _
    refine XS.iushr X_q2.here hx rfl (hb hby d1_22) rfl ?_
    show Steps p.tables e below (T_q2.setTop (mkF m 23 #[.val (.ref a1), .val (.int (4 : Int32)), .val (.int p3), .val (.int (1 : Int32))] [(.int ((p3.toUInt32 >>> ((4 : Int32) &&& 31).toUInt32).toInt32)), (.int ((4 : Int32) + (2 : Int32))), (.ref a1)])) _
    refine st_q3 _ ?_
    show Steps p.tables e below (T_q3.setTop (mkF m 26 #[.val (.ref a1), .val (.int (4 : Int32)), .val (.int p3), .val (.int (1 : Int32))] [(.int (F2_0 ((p3.toUInt32 >>> ((4 : Int32) &&& 31).toUInt32).toInt32))), (.int ((4 : Int32) + (2 : Int32))), (.ref a1)])) _
    refine XS.i2b X_q3.here hx rfl (hb hby d1_26) rfl ?_
    show Steps p.tables e below (T_q3.setTop (mkF m 27 #[.val (.ref a1), .val (.int (4 : Int32)), .val (.int p3), .val (.int (1 : Int32))] [(.int ((F2_0 ((p3.toUInt32 >>> ((4 : Int32) &&& 31).toUInt32).toInt32)).toInt8.toInt32)), (.int ((4 : Int32) + (2 : Int32))), (.ref a1)])) _
    refine st_q4 _ ?_
    show Steps p.tables e below (T_q4.setTop (mkF m 28 #[.val (.ref a1), .val (.int (4 : Int32)), .val (.int p3), .val (.int (1 : Int32))] [])) _
    refine XS.aloadN X_q4.here hx rfl (hb hby d1_28) rfl rfl ?_
    show Steps p.tables e below (T_q4.setTop (mkF m 29 #[.val (.ref a1), .val (.int (4 : Int32)), .val (.int p3), .val (.int (1 : Int32))] [(.ref a1)])) _
    refine XS.iloadN X_q4.here hx rfl (hb hby d1_29) rfl ?_
    show Steps p.tables e below (T_q4.setTop (mkF m 30 #[.val (.ref a1), .val (.int (4 : Int32)), .val (.int p3), .val (.int (1 : Int32))] [(.int (4 : Int32)), (.ref a1)])) _
    refine XS.iconst X_q4.here hx rfl (hb hby d1_30) ?_
    show Steps p.tables e below (T_q4.setTop (mkF m 31 #[.val (.ref a1), .val (.int (4 : Int32)), .val (.int p3), .val (.int (1 : Int32))] [(.int (3 : Int32)), (.int (4 : Int32)), (.ref a1)])) _
    refine XS.iadd X_q4.here hx rfl (hb hby d1_31) rfl ?_
    show Steps p.tables e below (T_q4.setTop (mkF m 32 #[.val (.ref a1), .val (.int (4 : Int32)), .val (.int p3), .val (.int (1 : Int32))] [(.int ((4 : Int32) + (3 : Int32))), (.ref a1)])) _
    refine XS.iloadN X_q4.here hx rfl (hb hby d1_32) rfl ?_
    show Steps p.tables e below (T_q4.setTop (mkF m 33 #[.val (.ref a1), .val (.int (4 : Int32)), .val (.int p3), .val (.int (1 : Int32))] [(.int p3), (.int ((4 : Int32) + (3 : Int32))), (.ref a1)])) _
    refine XS.bipush X_q4.here hx rfl (hb hby d1_33) ?_
    show Steps p.tables e below (T_q4.setTop (mkF m 35 #[.val (.ref a1), .val (.int (4 : Int32)), .val (.int p3), .val (.int (1 : Int32))] [(.int (15 : Int32)), (.int p3), (.int ((4 : Int32) + (3 : Int32))), (.ref a1)])) _
    refine XS.iand X_q4.here hx rfl (hb hby d1_35) rfl ?_
    show Steps p.tables e below (T_q4.setTop (mkF m 36 #[.val (.ref a1), .val (.int (4 : Int32)), .val (.int p3), .val (.int (1 : Int32))] [(.int (p3 &&& (15 : Int32))), (.int ((4 : Int32) + (3 : Int32))), (.ref a1)])) _
    refine st_q5 _ ?_
    show Steps p.tables e below (T_q5.setTop (mkF m 39 #[.val (.ref a1), .val (.int (4 : Int32)), .val (.int p3), .val (.int (1 : Int32))] [(.int (F2_0 (p3 &&& (15 : Int32)))), (.int ((4 : Int32) + (3 : Int32))), (.ref a1)])) _
    refine XS.i2b X_q5.here hx rfl (hb hby d1_39) rfl ?_
    show Steps p.tables e below (T_q5.setTop (mkF m 40 #[.val (.ref a1), .val (.int (4 : Int32)), .val (.int p3), .val (.int (1 : Int32))] [(.int ((F2_0 (p3 &&& (15 : Int32))).toInt8.toInt32)), (.int ((4 : Int32) + (3 : Int32))), (.ref a1)])) _
    refine st_q6 _ ?_
    show Steps p.tables e below (T_q6.setTop (mkF m 41 #[.val (.ref a1), .val (.int (4 : Int32)), .val (.int p3), .val (.int (1 : Int32))] [])) _
    refine XS.iloadN X_q6.here hx rfl (hb hby d1_41) rfl ?_
    show Steps p.tables e below (T_q6.setTop (mkF m 42 #[.val (.ref a1), .val (.int (4 : Int32)), .val (.int p3), .val (.int (1 : Int32))] [(.int (4 : Int32))])) _
    refine XS.iconst X_q6.here hx rfl (hb hby d1_42) ?_
    show Steps p.tables e below (T_q6.setTop (mkF m 43 #[.val (.ref a1), .val (.int (4 : Int32)), .val (.int p3), .val (.int (1 : Int32))] [(.int (4 : Int32)), (.int (4 : Int32))])) _
    refine XS.iadd X_q6.here hx rfl (hb hby d1_43) rfl ?_
    show Steps p.tables e below (T_q6.setTop (mkF m 44 #[.val (.ref a1), .val (.int (4 : Int32)), .val (.int p3), .val (.int (1 : Int32))] [(.int ((4 : Int32) + (4 : Int32)))])) _
    exact retI X_q6 hx Bd.returns (hb hby d1_44) hr
  · show Q_rm1_8_4_1 Z a1 k1 u0 u1 u2 u3 u4 u5 u6 u7 p3 h0 n0 _ T_q6.heap _
    rw [e_q6]
    exact ⟨rfl, N_q6, K_q6, V_a1__q6⟩
theorem d4_0 : decode prog_1_method_4_code 0 = .ok (.iload_n 1, 1) := by decide +kernel
theorem d4_1 : decode prog_1_method_4_code 1 = .ok (.iconst 4, 1) := by decide +kernel
theorem d4_2 : decode prog_1_method_4_code 2 = .ok (.iadd, 1) := by decide +kernel
theorem d4_3 : decode prog_1_method_4_code 3 = .ok (.aload_n 0, 1) := by decide +kernel
theorem d4_4 : decode prog_1_method_4_code 4 = .ok (.arraylength, 1) := by decide +kernel
theorem d4_5 : decode prog_1_method_4_code 5 = .ok (.if_icmp .gt 46, 3) := by decide +kernel
theorem d4_8 : decode prog_1_method_4_code 8 = .ok (.aload_n 0, 1) := by decide +kernel
theorem d4_9 : decode prog_1_method_4_code 9 = .ok (.iload_n 1, 1) := by decide +kernel
theorem d4_10 : decode prog_1_method_4_code 10 = .ok (.iconst 1, 1) := by decide +kernel
theorem d4_11 : decode prog_1_method_4_code 11 = .ok (.iadd, 1) := by decide +kernel
theorem d4_12 : decode prog_1_method_4_code 12 = .ok (.baload, 1) := by decide +kernel
theorem d4_13 : decode prog_1_method_4_code 13 = .ok (.bipush 120, 2) := by decide +kernel
theorem d4_15 : decode prog_1_method_4_code 15 = .ok (.if_icmp .ne 36, 3) := by decide +kernel
theorem d4_18 : decode prog_1_method_4_code 18 = .ok (.aload_n 0, 1) := by decide +kernel
theorem d4_19 : decode prog_1_method_4_code 19 = .ok (.iload_n 1, 1) := by decide +kernel
theorem d4_20 : decode prog_1_method_4_code 20 = .ok (.iconst 2, 1) := by decide +kernel
theorem d4_21 : decode prog_1_method_4_code 21 = .ok (.iadd, 1) := by decide +kernel
theorem d4_22 : decode prog_1_method_4_code 22 = .ok (.baload, 1) := by decide +kernel
theorem d4_23 : decode prog_1_method_4_code 23 = .ok (.invokestatic 36, 3) := by decide +kernel
theorem d4_26 : decode prog_1_method_4_code 26 = .ok (.istore_n 2, 1) := by decide +kernel
theorem d4_27 : decode prog_1_method_4_code 27 = .ok (.aload_n 0, 1) := by decide +kernel
theorem d4_28 : decode prog_1_method_4_code 28 = .ok (.iload_n 1, 1) := by decide +kernel
theorem d4_29 : decode prog_1_method_4_code 29 = .ok (.iconst 3, 1) := by decide +kernel
theorem d4_30 : decode prog_1_method_4_code 30 = .ok (.iadd, 1) := by decide +kernel
theorem d4_31 : decode prog_1_method_4_code 31 = .ok (.baload, 1) := by decide +kernel
theorem d4_32 : decode prog_1_method_4_code 32 = .ok (.invokestatic 36, 3) := by decide +kernel
theorem d4_35 : decode prog_1_method_4_code 35 = .ok (.istore_n 3, 1) := by decide +kernel
theorem d4_36 : decode prog_1_method_4_code 36 = .ok (.iload_n 2, 1) := by decide +kernel
theorem d4_37 : decode prog_1_method_4_code 37 = .ok (.ifCond .lt 14, 3) := by decide +kernel
theorem d4_40 : decode prog_1_method_4_code 40 = .ok (.iload_n 3, 1) := by decide +kernel
theorem d4_41 : decode prog_1_method_4_code 41 = .ok (.ifCond .lt 10, 3) := by decide +kernel
theorem d4_44 : decode prog_1_method_4_code 44 = .ok (.iload_n 2, 1) := by decide +kernel
theorem d4_45 : decode prog_1_method_4_code 45 = .ok (.iconst 4, 1) := by decide +kernel
theorem d4_46 : decode prog_1_method_4_code 46 = .ok (.ishl, 1) := by decide +kernel
theorem d4_47 : decode prog_1_method_4_code 47 = .ok (.iload_n 3, 1) := by decide +kernel
theorem d4_48 : decode prog_1_method_4_code 48 = .ok (.ior, 1) := by decide +kernel
theorem d4_49 : decode prog_1_method_4_code 49 = .ok (.i2b, 1) := by decide +kernel
theorem d4_50 : decode prog_1_method_4_code 50 = .ok (.ireturn, 1) := by decide +kernel
theorem pn_4 : plainName "com/example/presplit/presplit/escape/BinaryEscape" = true := by first | (simp [plainName, overriddenIn]; done) | decide +kernel
theorem pd__B_I : parseMethodDescriptor "(B)I" = some ⟨[.byte], some .int⟩ := by decide +kernel
theorem ef_4 (m : MethodId) (x0 : Addr) (x1 : Int32) : entryFrame m #[(.ref x0), (.int x1)] 4 = mkF m 0 #[.val (.ref x0), .val (.int x1), .unset, .unset] [] := by first | (simp [entryFrame, mkF, argsToLocals, Value.category]; done) | rfl
def Q_rm4_5_0 (Z : State) (a1 : Addr) (k1 : ClassId) (u4 : Value) (x : Int32) (y : Int32) (h0 : Heap) (n0 : Nat) (v : Option Value) (h : Heap) (L : List Loc) : Prop := v = some (.int (nar .byte ((((F5_0 x) <<< ((4 : Int32) &&& 31)) ||| (F5_0 y)).toInt8.toInt32))) ∧ Fr n0 L ∧ h = h0
set_option maxRecDepth 65536 in
set_option maxHeartbeats 40000000 in
theorem rm4_5_0 (l : Launch) (Z : State) (a0 : Array Value) (hw : ∀ d ∈ tables_1, d.before a0 Z = true) (ws : List Jvm.Cond) (a1 : Addr) (k1 : ClassId) (u4 : Value) (x : Int32) (y : Int32) (h0 : Heap) (n0 : Nat) (Z0 : n0 ≤ h0.size) (V_a1 : Arv Z h0 a1 k1 .byte (5 : Int32) [(.int (92 : Int32)), (.int (120 : Int32)), (.int x), (.int y), u4] (.int (0 : Int32))) (hc_q7 : ¬ ((F5_0 x) < (0 : Int32))) (hc_q8 : ¬ ((F5_0 y) < (0 : Int32))) :
    MetFree l (⟨"com/example/presplit/presplit/escape/BinaryEscape", "escapedByte", "([BI)B"⟩ : MethodName) (head1 (Jvm.Cond.code (⟨"com/example/presplit/presplit/escape/BinaryEscape", "escapedByte", "([BI)B"⟩ : MethodName) prog_1_method_4_code 4 (some .byte) :: ws) ({ frames := 1, cells := 0, slots := 0, locals := 30 } : Room)) (fun a U => a = #[(.ref a1), (.int (0 : Int32))] ∧ Z.Warmed39 U.vm ∧ U.heap = h0) (fun _ _ _ _ _ => True) (fun _ U o U' => ∃ v L, o = .returned v ∧ Q_rm4_5_0 Z a1 k1 u4 x y h0 n0 v U'.heap L ∧ FrameEnd U o U' L ({ frames := 1, cells := 0, slots := 0, locals := 30 } : Room).cells ({ frames := 1, cells := 0, slots := 0, locals := 30 } : Room).slots) := by
  refine MetFree.of_bodySF (plainFor_of_name pn_4) hisR ?_
  intro p e s m args below meth c s₁ Bd hml0 hP hK
  obtain ⟨rfl, hZ, hh⟩ := hP
  have hx := Bd.exec
  have hby := Bd.bytes
  have hml : c.maxLocals = 4 := hml0
  have hown : s.vm.findClass "com/example/presplit/presplit/escape/BinaryEscape" = some m.cls := findClass_of_methodNamed Bd.named
  have hnm := (name_of_methodNamed Bd.named Bd.method).1
  have X0 : Stand p l e ({ frames := 1, cells := 0, slots := 0, locals := 30 } : Room) s m #[(.ref a1), (.int (0 : Int32))] below meth c s₁ [] 0 0 := Stand.of_body Bd
  have e0 : s₁.heap = h0 := by rw [← hh, Bd.state]; rfl
  have N0 := Fr.nil n0
  have pre0 : ∀ t, Steps p.tables e below (s₁.setTop (mkF m 0 #[.val (.ref a1), .val (.int (0 : Int32)), .unset, .unset] [])) t → Steps p.tables e below (s₁.setTop (entryFrame m #[(.ref a1), (.int (0 : Int32))] 4)) t := fun t k => castTop (ef_4 m a1 (0 : Int32)) k
  have K0 : Keep h0 h0 [] := Keep.refl _ _
  obtain ⟨cl_q1, Ar_q1, qk_q1, S_q1, Nn_q1, H_q1, G_q1⟩ := id V_a1
  obtain ⟨cl_q2, Ar_q2, qk_q2, S_q2, Nn_q2, H_q2, G_q2⟩ := id V_a1
  have hin_q2 : ¬ (((0 : Int32) + (1 : Int32)) < 0 ∨ cl_q2.slots.size ≤ (((0 : Int32) + (1 : Int32))).toNatClampNeg) := inb_of S_q2 ⟨by decide, by decide⟩
  have hat_q2 : cl_q2.slots[(((0 : Int32) + (1 : Int32))).toNatClampNeg]? = some (.int (120 : Int32)) := H_q2 1 (Nat.lt_of_not_le fun q => hin_q2 (Or.inr q))
  obtain ⟨cl_q3, Ar_q3, qk_q3, S_q3, Nn_q3, H_q3, G_q3⟩ := id V_a1
  have hin_q3 : ¬ (((0 : Int32) + (2 : Int32)) < 0 ∨ cl_q3.slots.size ≤ (((0 : Int32) + (2 : Int32))).toNatClampNeg) := inb_of S_q3 ⟨by decide, by decide⟩
  have hat_q3 : cl_q3.slots[(((0 : Int32) + (2 : Int32))).toNatClampNeg]? = some (.int x) := H_q3 2 (Nat.lt_of_not_le fun q => hin_q3 (Or.inr q))
  obtain ⟨_, _, ⟨T_q4, L_q4, k_q4, n_q4⟩, -, X_q4, ⟨Lc_q4, hQ_q4, l_q4, y_q4, z_q4⟩, st_q4⟩ := Jvm.LawKit.callS X0 hx (y := (⟨"com/example/presplit/presplit/escape/BinaryEscape", "hexDigitValue", "(B)I"⟩ : MethodName)) hown (mvT hZ (hw _ (List.mem_of_getElem? (i := 15) rfl))) (mvT hZ (hw _ (List.mem_of_getElem? (i := 16) rfl))) (mvT hZ (hw _ (List.mem_of_getElem? (i := 10) rfl))) (mvT hZ (hw _ (List.mem_of_getElem? (i := 17) rfl))) (by decide) (backOf (W := 0) (rm5 l Z a0 hw [] x h0 n0 (Nat.le_trans Z0 K0.1)) hZ (hw _ (List.mem_of_getElem? (i := 17) rfl)) (hw _ (List.mem_of_getElem? (i := 10) rfl)) (by decide) (by decide)) (g := (mkF m 23 #[.val (.ref a1), .val (.int (0 : Int32)), .unset, .unset] [(.int x)])) rfl (by rw [hml]; rfl) (argsL := [(.int x)]) (rest := []) (lenOf pd__B_I rfl) rfl (by show 2 * 0 + _ ≤ _; exact Nat.le_of_eq rfl) (hb hby d4_23) (fun _ _ => ⟨rfl, e0, (by decide : 0 + 0 ≤ _), (by decide : 0 + 0 ≤ _)⟩)
  dsimp only [Pt.U, Pt.locs, Pt.cells, Pt.slots] at X_q4 l_q4 y_q4 z_q4 st_q4 hQ_q4
  subst l_q4 y_q4 z_q4
  obtain ⟨rfl, Nq_q4, eq_q4⟩ := hQ_q4
  have Kq_q4 : Keep h0 T_q4.heap [] := by rw [eq_q4]; exact Keep.refl _ _
  have N_q4 := Fr.app N0 Nq_q4
  have V_a1__q4 := V_a1.keep Kq_q4 List.not_mem_nil
  have K_q4 : Keep h0 T_q4.heap [] := K0.trans Kq_q4 (fun x hx => nomatch hx)
  obtain ⟨cl_q5, Ar_q5, qk_q5, S_q5, Nn_q5, H_q5, G_q5⟩ := id V_a1__q4
  have hin_q5 : ¬ (((0 : Int32) + (3 : Int32)) < 0 ∨ cl_q5.slots.size ≤ (((0 : Int32) + (3 : Int32))).toNatClampNeg) := inb_of S_q5 ⟨by decide, by decide⟩
  have hat_q5 : cl_q5.slots[(((0 : Int32) + (3 : Int32))).toNatClampNeg]? = some (.int y) := H_q5 3 (Nat.lt_of_not_le fun q => hin_q5 (Or.inr q))
  obtain ⟨_, _, ⟨T_q6, L_q6, k_q6, n_q6⟩, -, X_q6, ⟨Lc_q6, hQ_q6, l_q6, y_q6, z_q6⟩, st_q6⟩ := Jvm.LawKit.callS X_q4 hx (y := (⟨"com/example/presplit/presplit/escape/BinaryEscape", "hexDigitValue", "(B)I"⟩ : MethodName)) hown (mvT hZ (hw _ (List.mem_of_getElem? (i := 15) rfl))) (mvT hZ (hw _ (List.mem_of_getElem? (i := 16) rfl))) (mvT hZ (hw _ (List.mem_of_getElem? (i := 10) rfl))) (mvT hZ (hw _ (List.mem_of_getElem? (i := 17) rfl))) (by decide) (backOf (W := 0) (rm5 l Z a0 hw [] y T_q4.heap n0 (Nat.le_trans Z0 K_q4.1)) hZ (hw _ (List.mem_of_getElem? (i := 17) rfl)) (hw _ (List.mem_of_getElem? (i := 10) rfl)) (by decide) (by decide)) (g := (mkF m 32 #[.val (.ref a1), .val (.int (0 : Int32)), .val (.int (F5_0 x)), .unset] [(.int y)])) rfl (by rw [hml]; rfl) (argsL := [(.int y)]) (rest := []) (lenOf pd__B_I rfl) rfl (by show 2 * 0 + _ ≤ _; exact Nat.le_of_eq rfl) (hb hby d4_32) (fun _ _ => ⟨rfl, rfl, (by decide : 0 + 0 ≤ _), (by decide : 0 + 0 ≤ _)⟩)
  dsimp only [Pt.U, Pt.locs, Pt.cells, Pt.slots] at X_q6 l_q6 y_q6 z_q6 st_q6 hQ_q6
  subst l_q6 y_q6 z_q6
  obtain ⟨rfl, Nq_q6, eq_q6⟩ := hQ_q6
  have Kq_q6 : Keep T_q4.heap T_q6.heap [] := by rw [eq_q6]; exact Keep.refl _ _
  have N_q6 := Fr.app N_q4 Nq_q6
  have V_a1__q6 := V_a1__q4.keep Kq_q6 List.not_mem_nil
  have K_q6 : Keep h0 T_q6.heap [] := K_q4.trans Kq_q6 (fun x hx => nomatch hx)
  obtain ⟨fs, hr, hrun, hended, hW, hsame⟩ := X_q6.leave (v := some (.int (nar .byte ((((F5_0 x) <<< ((4 : Int32) &&& 31)) ||| (F5_0 y)).toInt8.toInt32)))) (fun h => by rw [Bd.returns] at h; cases h) Bd.notSynchronized
  refine ⟨_, _, pre0 _ ?_, hrun, hended, _, _, rfl, ?_, ⟨_, rfl⟩, hW, hsame.mono (by decide) (by decide)⟩
  · show Steps p.tables e below (s₁.setTop (mkF m 0 #[.val (.ref a1), .val (.int (0 : Int32)), .unset, .unset] [])) _
    refine XS.iloadN X0.here hx rfl (hb hby d4_0) rfl ?_
    show Steps p.tables e below (s₁.setTop (mkF m 1 #[.val (.ref a1), .val (.int (0 : Int32)), .unset, .unset] [(.int (0 : Int32))])) _
    refine XS.iconst X0.here hx rfl (hb hby d4_1) ?_
    show Steps p.tables e below (s₁.setTop (mkF m 2 #[.val (.ref a1), .val (.int (0 : Int32)), .unset, .unset] [(.int (4 : Int32)), (.int (0 : Int32))])) _
    refine XS.iadd X0.here hx rfl (hb hby d4_2) rfl ?_
    show Steps p.tables e below (s₁.setTop (mkF m 3 #[.val (.ref a1), .val (.int (0 : Int32)), .unset, .unset] [(.int ((0 : Int32) + (4 : Int32)))])) _
    refine XS.aloadN X0.here hx rfl (hb hby d4_3) rfl rfl ?_
    show Steps p.tables e below (s₁.setTop (mkF m 4 #[.val (.ref a1), .val (.int (0 : Int32)), .unset, .unset] [(.ref a1), (.int ((0 : Int32) + (4 : Int32)))])) _
    refine X0.arraylength hx (by rw [e0]; exact Ar_q1.1) (State.isArrayOf_alike hZ.alike Ar_q1.2.1) (g := (mkF m 4 #[.val (.ref a1), .val (.int (0 : Int32)), .unset, .unset] [(.ref a1), (.int ((0 : Int32) + (4 : Int32)))])) rfl rfl (hb hby d4_4) _ ?_
    rw [len_of S_q1 Nn_q1]
    show Steps p.tables e below (s₁.setTop (mkF m 5 #[.val (.ref a1), .val (.int (0 : Int32)), .unset, .unset] [(.int (5 : Int32)), (.int ((0 : Int32) + (4 : Int32)))])) _
    refine XS.icmpNo X0.here hx rfl (hb hby d4_5) rfl (flt (by decide : ¬ ((5 : Int32) < ((0 : Int32) + (4 : Int32))))).2.2.1 ?_
    show Steps p.tables e below (s₁.setTop (mkF m 8 #[.val (.ref a1), .val (.int (0 : Int32)), .unset, .unset] [])) _
    refine XS.aloadN X0.here hx rfl (hb hby d4_8) rfl rfl ?_
    show Steps p.tables e below (s₁.setTop (mkF m 9 #[.val (.ref a1), .val (.int (0 : Int32)), .unset, .unset] [(.ref a1)])) _
    refine XS.iloadN X0.here hx rfl (hb hby d4_9) rfl ?_
    show Steps p.tables e below (s₁.setTop (mkF m 10 #[.val (.ref a1), .val (.int (0 : Int32)), .unset, .unset] [(.int (0 : Int32)), (.ref a1)])) _
    refine XS.iconst X0.here hx rfl (hb hby d4_10) ?_
    show Steps p.tables e below (s₁.setTop (mkF m 11 #[.val (.ref a1), .val (.int (0 : Int32)), .unset, .unset] [(.int (1 : Int32)), (.int (0 : Int32)), (.ref a1)])) _
    refine XS.iadd X0.here hx rfl (hb hby d4_11) rfl ?_
    show Steps p.tables e below (s₁.setTop (mkF m 12 #[.val (.ref a1), .val (.int (0 : Int32)), .unset, .unset] [(.int ((0 : Int32) + (1 : Int32))), (.ref a1)])) _
    refine X0.baloadBytes hx (j := ((0 : Int32) + (1 : Int32))) (v := (.int (120 : Int32))) (by rw [e0]; exact Ar_q2.1) (State.isArrayOf_alike hZ.alike Ar_q2.2.1) Ar_q2.2.2 hin_q2 hat_q2 (g := (mkF m 12 #[.val (.ref a1), .val (.int (0 : Int32)), .unset, .unset] [(.int ((0 : Int32) + (1 : Int32))), (.ref a1)])) rfl rfl (hb hby d4_12) _ ?_
    show Steps p.tables e below (s₁.setTop (mkF m 13 #[.val (.ref a1), .val (.int (0 : Int32)), .unset, .unset] [(.int (120 : Int32))])) _
    refine XS.bipush X0.here hx rfl (hb hby d4_13) ?_
    show Steps p.tables e below (s₁.setTop (mkF m 15 #[.val (.ref a1), .val (.int (0 : Int32)), .unset, .unset] [(.int (120 : Int32)), (.int (120 : Int32))])) _
    refine XS.icmpNo X0.here hx rfl (hb hby d4_15) rfl (teq (by decide : (120 : Int32) = (120 : Int32))).2 ?_
    show Steps p.tables e below (s₁.setTop (mkF m 18 #[.val (.ref a1), .val (.int (0 : Int32)), .unset, .unset] [])) _
    refine XS.aloadN X0.here hx rfl (hb hby d4_18) rfl rfl ?_
    show Steps p.tables e below (s₁.setTop (mkF m 19 #[.val (.ref a1), .val (.int (0 : Int32)), .unset, .unset] [(.ref a1)])) _
    refine XS.iloadN X0.here hx rfl (hb hby d4_19) rfl ?_
    show Steps p.tables e below (s₁.setTop (mkF m 20 #[.val (.ref a1), .val (.int (0 : Int32)), .unset, .unset] [(.int (0 : Int32)), (.ref a1)])) _
    refine XS.iconst X0.here hx rfl (hb hby d4_20) ?_
    show Steps p.tables e below (s₁.setTop (mkF m 21 #[.val (.ref a1), .val (.int (0 : Int32)), .unset, .unset] [(.int (2 : Int32)), (.int (0 : Int32)), (.ref a1)])) _
    refine XS.iadd X0.here hx rfl (hb hby d4_21) rfl ?_
    show Steps p.tables e below (s₁.setTop (mkF m 22 #[.val (.ref a1), .val (.int (0 : Int32)), .unset, .unset] [(.int ((0 : Int32) + (2 : Int32))), (.ref a1)])) _
    refine X0.baloadBytes hx (j := ((0 : Int32) + (2 : Int32))) (v := (.int x)) (by rw [e0]; exact Ar_q3.1) (State.isArrayOf_alike hZ.alike Ar_q3.2.1) Ar_q3.2.2 hin_q3 hat_q3 (g := (mkF m 22 #[.val (.ref a1), .val (.int (0 : Int32)), .unset, .unset] [(.int ((0 : Int32) + (2 : Int32))), (.ref a1)])) rfl rfl (hb hby d4_22) _ ?_
    show Steps p.tables e below (s₁.setTop (mkF m 23 #[.val (.ref a1), .val (.int (0 : Int32)), .unset, .unset] [(.int x)])) _
    refine st_q4 _ ?_
    show Steps p.tables e below (T_q4.setTop (mkF m 26 #[.val (.ref a1), .val (.int (0 : Int32)), .unset, .unset] [(.int (F5_0 x))])) _
    refine XS.istoreN X_q4.here hx rfl (hb hby d4_26) rfl (l' := #[.val (.ref a1), .val (.int (0 : Int32)), .val (.int (F5_0 x)), .unset]) rfl ?_
    show Steps p.tables e below (T_q4.setTop (mkF m 27 #[.val (.ref a1), .val (.int (0 : Int32)), .val (.int (F5_0 x)), .unset] [])) _
    refine XS.aloadN X_q4.here hx rfl (hb hby d4_27) rfl rfl ?_
    show Steps p.tables e below (T_q4.setTop (mkF m 28 #[.val (.ref a1), .val (.int (0 : Int32)), .val (.int (F5_0 x)), .unset] [(.ref a1)])) _
    refine XS.iloadN X_q4.here hx rfl (hb hby d4_28) rfl ?_
    show Steps p.tables e below (T_q4.setTop (mkF m 29 #[.val (.ref a1), .val (.int (0 : Int32)), .val (.int (F5_0 x)), .unset] [(.int (0 : Int32)), (.ref a1)])) _
    refine XS.iconst X_q4.here hx rfl (hb hby d4_29) ?_
    show Steps p.tables e below (T_q4.setTop (mkF m 30 #[.val (.ref a1), .val (.int (0 : Int32)), .val (.int (F5_0 x)), .unset] [(.int (3 : Int32)), (.int (0 : Int32)), (.ref a1)])) _
    refine XS.iadd X_q4.here hx rfl (hb hby d4_30) rfl ?_
    show Steps p.tables e below (T_q4.setTop (mkF m 31 #[.val (.ref a1), .val (.int (0 : Int32)), .val (.int (F5_0 x)), .unset] [(.int ((0 : Int32) + (3 : Int32))), (.ref a1)])) _
    refine X_q4.baloadBytes hx (j := ((0 : Int32) + (3 : Int32))) (v := (.int y)) (by exact Ar_q5.1) (State.isArrayOf_alike hZ.alike Ar_q5.2.1) Ar_q5.2.2 hin_q5 hat_q5 (g := (mkF m 31 #[.val (.ref a1), .val (.int (0 : Int32)), .val (.int (F5_0 x)), .unset] [(.int ((0 : Int32) + (3 : Int32))), (.ref a1)])) rfl rfl (hb hby d4_31) _ ?_
    show Steps p.tables e below (T_q4.setTop (mkF m 32 #[.val (.ref a1), .val (.int (0 : Int32)), .val (.int (F5_0 x)), .unset] [(.int y)])) _
    refine st_q6 _ ?_
    show Steps p.tables e below (T_q6.setTop (mkF m 35 #[.val (.ref a1), .val (.int (0 : Int32)), .val (.int (F5_0 x)), .unset] [(.int (F5_0 y))])) _
    refine XS.istoreN X_q6.here hx rfl (hb hby d4_35) rfl (l' := #[.val (.ref a1), .val (.int (0 : Int32)), .val (.int (F5_0 x)), .val (.int (F5_0 y))]) rfl ?_
    show Steps p.tables e below (T_q6.setTop (mkF m 36 #[.val (.ref a1), .val (.int (0 : Int32)), .val (.int (F5_0 x)), .val (.int (F5_0 y))] [])) _
    refine XS.iloadN X_q6.here hx rfl (hb hby d4_36) rfl ?_
    show Steps p.tables e below (T_q6.setTop (mkF m 37 #[.val (.ref a1), .val (.int (0 : Int32)), .val (.int (F5_0 x)), .val (.int (F5_0 y))] [(.int (F5_0 x))])) _
    refine XS.ifNo X_q6.here hx rfl (hb hby d4_37) rfl ((if0 _ _).trans (flt hc_q7).1) ?_
    show Steps p.tables e below (T_q6.setTop (mkF m 40 #[.val (.ref a1), .val (.int (0 : Int32)), .val (.int (F5_0 x)), .val (.int (F5_0 y))] [])) _
    refine XS.iloadN X_q6.here hx rfl (hb hby d4_40) rfl ?_
    show Steps p.tables e below (T_q6.setTop (mkF m 41 #[.val (.ref a1), .val (.int (0 : Int32)), .val (.int (F5_0 x)), .val (.int (F5_0 y))] [(.int (F5_0 y))])) _
    refine XS.ifNo X_q6.here hx rfl (hb hby d4_41) rfl ((if0 _ _).trans (flt hc_q8).1) ?_
    show Steps p.tables e below (T_q6.setTop (mkF m 44 #[.val (.ref a1), .val (.int (0 : Int32)), .val (.int (F5_0 x)), .val (.int (F5_0 y))] [])) _
    refine XS.iloadN X_q6.here hx rfl (hb hby d4_44) rfl ?_
    show Steps p.tables e below (T_q6.setTop (mkF m 45 #[.val (.ref a1), .val (.int (0 : Int32)), .val (.int (F5_0 x)), .val (.int (F5_0 y))] [(.int (F5_0 x))])) _
    refine XS.iconst X_q6.here hx rfl (hb hby d4_45) ?_
    show Steps p.tables e below (T_q6.setTop (mkF m 46 #[.val (.ref a1), .val (.int (0 : Int32)), .val (.int (F5_0 x)), .val (.int (F5_0 y))] [(.int (4 : Int32)), (.int (F5_0 x))])) _
    refine XS.ishl X_q6.here hx rfl (hb hby d4_46) rfl ?_
    show Steps p.tables e below (T_q6.setTop (mkF m 47 #[.val (.ref a1), .val (.int (0 : Int32)), .val (.int (F5_0 x)), .val (.int (F5_0 y))] [(.int ((F5_0 x) <<< ((4 : Int32) &&& 31)))])) _
    refine XS.iloadN X_q6.here hx rfl (hb hby d4_47) rfl ?_
    show Steps p.tables e below (T_q6.setTop (mkF m 48 #[.val (.ref a1), .val (.int (0 : Int32)), .val (.int (F5_0 x)), .val (.int (F5_0 y))] [(.int (F5_0 y)), (.int ((F5_0 x) <<< ((4 : Int32) &&& 31)))])) _
    refine XS.ior X_q6.here hx rfl (hb hby d4_48) rfl ?_
    show Steps p.tables e below (T_q6.setTop (mkF m 49 #[.val (.ref a1), .val (.int (0 : Int32)), .val (.int (F5_0 x)), .val (.int (F5_0 y))] [(.int (((F5_0 x) <<< ((4 : Int32) &&& 31)) ||| (F5_0 y)))])) _
    refine XS.i2b X_q6.here hx rfl (hb hby d4_49) rfl ?_
    show Steps p.tables e below (T_q6.setTop (mkF m 50 #[.val (.ref a1), .val (.int (0 : Int32)), .val (.int (F5_0 x)), .val (.int (F5_0 y))] [(.int ((((F5_0 x) <<< ((4 : Int32) &&& 31)) ||| (F5_0 y)).toInt8.toInt32))])) _
    exact retN X_q6 hx (t := .byte) Bd.returns (by simp) (hb hby d4_50) hr
  · show Q_rm4_5_0 Z a1 k1 u4 x y h0 n0 _ T_q6.heap _
    exact ⟨rfl, N_q6, by rw [eq_q6, eq_q4]⟩
def Q_rm4_5_1 (Z : State) (a1 : Addr) (k1 : ClassId) (u0 : Value) (x : Int32) (y : Int32) (h0 : Heap) (n0 : Nat) (v : Option Value) (h : Heap) (L : List Loc) : Prop := v = some (.int (nar .byte ((((F5_0 x) <<< ((4 : Int32) &&& 31)) ||| (F5_0 y)).toInt8.toInt32))) ∧ Fr n0 L ∧ h = h0
set_option maxRecDepth 65536 in
set_option maxHeartbeats 40000000 in
theorem rm4_5_1 (l : Launch) (Z : State) (a0 : Array Value) (hw : ∀ d ∈ tables_1, d.before a0 Z = true) (ws : List Jvm.Cond) (a1 : Addr) (k1 : ClassId) (u0 : Value) (x : Int32) (y : Int32) (h0 : Heap) (n0 : Nat) (Z0 : n0 ≤ h0.size) (V_a1 : Arv Z h0 a1 k1 .byte (5 : Int32) [u0, (.int (92 : Int32)), (.int (120 : Int32)), (.int x), (.int y)] (.int (0 : Int32))) (hc_q7 : ¬ ((F5_0 x) < (0 : Int32))) (hc_q8 : ¬ ((F5_0 y) < (0 : Int32))) :
    MetFree l (⟨"com/example/presplit/presplit/escape/BinaryEscape", "escapedByte", "([BI)B"⟩ : MethodName) (head1 (Jvm.Cond.code (⟨"com/example/presplit/presplit/escape/BinaryEscape", "escapedByte", "([BI)B"⟩ : MethodName) prog_1_method_4_code 4 (some .byte) :: ws) ({ frames := 1, cells := 0, slots := 0, locals := 30 } : Room)) (fun a U => a = #[(.ref a1), (.int (1 : Int32))] ∧ Z.Warmed39 U.vm ∧ U.heap = h0) (fun _ _ _ _ _ => True) (fun _ U o U' => ∃ v L, o = .returned v ∧ Q_rm4_5_1 Z a1 k1 u0 x y h0 n0 v U'.heap L ∧ FrameEnd U o U' L ({ frames := 1, cells := 0, slots := 0, locals := 30 } : Room).cells ({ frames := 1, cells := 0, slots := 0, locals := 30 } : Room).slots) := by
  refine MetFree.of_bodySF (plainFor_of_name pn_4) hisR ?_
  intro p e s m args below meth c s₁ Bd hml0 hP hK
  obtain ⟨rfl, hZ, hh⟩ := hP
  have hx := Bd.exec
  have hby := Bd.bytes
  have hml : c.maxLocals = 4 := hml0
  have hown : s.vm.findClass "com/example/presplit/presplit/escape/BinaryEscape" = some m.cls := findClass_of_methodNamed Bd.named
  have hnm := (name_of_methodNamed Bd.named Bd.method).1
  have X0 : Stand p l e ({ frames := 1, cells := 0, slots := 0, locals := 30 } : Room) s m #[(.ref a1), (.int (1 : Int32))] below meth c s₁ [] 0 0 := Stand.of_body Bd
  have e0 : s₁.heap = h0 := by rw [← hh, Bd.state]; rfl
  have N0 := Fr.nil n0
  have pre0 : ∀ t, Steps p.tables e below (s₁.setTop (mkF m 0 #[.val (.ref a1), .val (.int (1 : Int32)), .unset, .unset] [])) t → Steps p.tables e below (s₁.setTop (entryFrame m #[(.ref a1), (.int (1 : Int32))] 4)) t := fun t k => castTop (ef_4 m a1 (1 : Int32)) k
  have K0 : Keep h0 h0 [] := Keep.refl _ _
  obtain ⟨cl_q1, Ar_q1, qk_q1, S_q1, Nn_q1, H_q1, G_q1⟩ := id V_a1
  obtain ⟨cl_q2, Ar_q2, qk_q2, S_q2, Nn_q2, H_q2, G_q2⟩ := id V_a1
  have hin_q2 : ¬ (((1 : Int32) + (1 : Int32)) < 0 ∨ cl_q2.slots.size ≤ (((1 : Int32) + (1 : Int32))).toNatClampNeg) := inb_of S_q2 ⟨by decide, by decide⟩
  have hat_q2 : cl_q2.slots[(((1 : Int32) + (1 : Int32))).toNatClampNeg]? = some (.int (120 : Int32)) := H_q2 2 (Nat.lt_of_not_le fun q => hin_q2 (Or.inr q))
  obtain ⟨cl_q3, Ar_q3, qk_q3, S_q3, Nn_q3, H_q3, G_q3⟩ := id V_a1
  have hin_q3 : ¬ (((1 : Int32) + (2 : Int32)) < 0 ∨ cl_q3.slots.size ≤ (((1 : Int32) + (2 : Int32))).toNatClampNeg) := inb_of S_q3 ⟨by decide, by decide⟩
  have hat_q3 : cl_q3.slots[(((1 : Int32) + (2 : Int32))).toNatClampNeg]? = some (.int x) := H_q3 3 (Nat.lt_of_not_le fun q => hin_q3 (Or.inr q))
  obtain ⟨_, _, ⟨T_q4, L_q4, k_q4, n_q4⟩, -, X_q4, ⟨Lc_q4, hQ_q4, l_q4, y_q4, z_q4⟩, st_q4⟩ := Jvm.LawKit.callS X0 hx (y := (⟨"com/example/presplit/presplit/escape/BinaryEscape", "hexDigitValue", "(B)I"⟩ : MethodName)) hown (mvT hZ (hw _ (List.mem_of_getElem? (i := 15) rfl))) (mvT hZ (hw _ (List.mem_of_getElem? (i := 16) rfl))) (mvT hZ (hw _ (List.mem_of_getElem? (i := 10) rfl))) (mvT hZ (hw _ (List.mem_of_getElem? (i := 17) rfl))) (by decide) (backOf (W := 0) (rm5 l Z a0 hw [] x h0 n0 (Nat.le_trans Z0 K0.1)) hZ (hw _ (List.mem_of_getElem? (i := 17) rfl)) (hw _ (List.mem_of_getElem? (i := 10) rfl)) (by decide) (by decide)) (g := (mkF m 23 #[.val (.ref a1), .val (.int (1 : Int32)), .unset, .unset] [(.int x)])) rfl (by rw [hml]; rfl) (argsL := [(.int x)]) (rest := []) (lenOf pd__B_I rfl) rfl (by show 2 * 0 + _ ≤ _; exact Nat.le_of_eq rfl) (hb hby d4_23) (fun _ _ => ⟨rfl, e0, (by decide : 0 + 0 ≤ _), (by decide : 0 + 0 ≤ _)⟩)
  dsimp only [Pt.U, Pt.locs, Pt.cells, Pt.slots] at X_q4 l_q4 y_q4 z_q4 st_q4 hQ_q4
  subst l_q4 y_q4 z_q4
  obtain ⟨rfl, Nq_q4, eq_q4⟩ := hQ_q4
  have Kq_q4 : Keep h0 T_q4.heap [] := by rw [eq_q4]; exact Keep.refl _ _
  have N_q4 := Fr.app N0 Nq_q4
  have V_a1__q4 := V_a1.keep Kq_q4 List.not_mem_nil
  have K_q4 : Keep h0 T_q4.heap [] := K0.trans Kq_q4 (fun x hx => nomatch hx)
  obtain ⟨cl_q5, Ar_q5, qk_q5, S_q5, Nn_q5, H_q5, G_q5⟩ := id V_a1__q4
  have hin_q5 : ¬ (((1 : Int32) + (3 : Int32)) < 0 ∨ cl_q5.slots.size ≤ (((1 : Int32) + (3 : Int32))).toNatClampNeg) := inb_of S_q5 ⟨by decide, by decide⟩
  have hat_q5 : cl_q5.slots[(((1 : Int32) + (3 : Int32))).toNatClampNeg]? = some (.int y) := H_q5 4 (Nat.lt_of_not_le fun q => hin_q5 (Or.inr q))
  obtain ⟨_, _, ⟨T_q6, L_q6, k_q6, n_q6⟩, -, X_q6, ⟨Lc_q6, hQ_q6, l_q6, y_q6, z_q6⟩, st_q6⟩ := Jvm.LawKit.callS X_q4 hx (y := (⟨"com/example/presplit/presplit/escape/BinaryEscape", "hexDigitValue", "(B)I"⟩ : MethodName)) hown (mvT hZ (hw _ (List.mem_of_getElem? (i := 15) rfl))) (mvT hZ (hw _ (List.mem_of_getElem? (i := 16) rfl))) (mvT hZ (hw _ (List.mem_of_getElem? (i := 10) rfl))) (mvT hZ (hw _ (List.mem_of_getElem? (i := 17) rfl))) (by decide) (backOf (W := 0) (rm5 l Z a0 hw [] y T_q4.heap n0 (Nat.le_trans Z0 K_q4.1)) hZ (hw _ (List.mem_of_getElem? (i := 17) rfl)) (hw _ (List.mem_of_getElem? (i := 10) rfl)) (by decide) (by decide)) (g := (mkF m 32 #[.val (.ref a1), .val (.int (1 : Int32)), .val (.int (F5_0 x)), .unset] [(.int y)])) rfl (by rw [hml]; rfl) (argsL := [(.int y)]) (rest := []) (lenOf pd__B_I rfl) rfl (by show 2 * 0 + _ ≤ _; exact Nat.le_of_eq rfl) (hb hby d4_32) (fun _ _ => ⟨rfl, rfl, (by decide : 0 + 0 ≤ _), (by decide : 0 + 0 ≤ _)⟩)
  dsimp only [Pt.U, Pt.locs, Pt.cells, Pt.slots] at X_q6 l_q6 y_q6 z_q6 st_q6 hQ_q6
  subst l_q6 y_q6 z_q6
  obtain ⟨rfl, Nq_q6, eq_q6⟩ := hQ_q6
  have Kq_q6 : Keep T_q4.heap T_q6.heap [] := by rw [eq_q6]; exact Keep.refl _ _
  have N_q6 := Fr.app N_q4 Nq_q6
  have V_a1__q6 := V_a1__q4.keep Kq_q6 List.not_mem_nil
  have K_q6 : Keep h0 T_q6.heap [] := K_q4.trans Kq_q6 (fun x hx => nomatch hx)
  obtain ⟨fs, hr, hrun, hended, hW, hsame⟩ := X_q6.leave (v := some (.int (nar .byte ((((F5_0 x) <<< ((4 : Int32) &&& 31)) ||| (F5_0 y)).toInt8.toInt32)))) (fun h => by rw [Bd.returns] at h; cases h) Bd.notSynchronized
  refine ⟨_, _, pre0 _ ?_, hrun, hended, _, _, rfl, ?_, ⟨_, rfl⟩, hW, hsame.mono (by decide) (by decide)⟩
  · show Steps p.tables e below (s₁.setTop (mkF m 0 #[.val (.ref a1), .val (.int (1 : Int32)), .unset, .unset] [])) _
    refine XS.iloadN X0.here hx rfl (hb hby d4_0) rfl ?_
    show Steps p.tables e below (s₁.setTop (mkF m 1 #[.val (.ref a1), .val (.int (1 : Int32)), .unset, .unset] [(.int (1 : Int32))])) _
    refine XS.iconst X0.here hx rfl (hb hby d4_1) ?_
    show Steps p.tables e below (s₁.setTop (mkF m 2 #[.val (.ref a1), .val (.int (1 : Int32)), .unset, .unset] [(.int (4 : Int32)), (.int (1 : Int32))])) _
    refine XS.iadd X0.here hx rfl (hb hby d4_2) rfl ?_
    show Steps p.tables e below (s₁.setTop (mkF m 3 #[.val (.ref a1), .val (.int (1 : Int32)), .unset, .unset] [(.int ((1 : Int32) + (4 : Int32)))])) _
    refine XS.aloadN X0.here hx rfl (hb hby d4_3) rfl rfl ?_
    show Steps p.tables e below (s₁.setTop (mkF m 4 #[.val (.ref a1), .val (.int (1 : Int32)), .unset, .unset] [(.ref a1), (.int ((1 : Int32) + (4 : Int32)))])) _
    refine X0.arraylength hx (by rw [e0]; exact Ar_q1.1) (State.isArrayOf_alike hZ.alike Ar_q1.2.1) (g := (mkF m 4 #[.val (.ref a1), .val (.int (1 : Int32)), .unset, .unset] [(.ref a1), (.int ((1 : Int32) + (4 : Int32)))])) rfl rfl (hb hby d4_4) _ ?_
    rw [len_of S_q1 Nn_q1]
    show Steps p.tables e below (s₁.setTop (mkF m 5 #[.val (.ref a1), .val (.int (1 : Int32)), .unset, .unset] [(.int (5 : Int32)), (.int ((1 : Int32) + (4 : Int32)))])) _
    refine XS.icmpNo X0.here hx rfl (hb hby d4_5) rfl (flt (by decide : ¬ ((5 : Int32) < ((1 : Int32) + (4 : Int32))))).2.2.1 ?_
    show Steps p.tables e below (s₁.setTop (mkF m 8 #[.val (.ref a1), .val (.int (1 : Int32)), .unset, .unset] [])) _
    refine XS.aloadN X0.here hx rfl (hb hby d4_8) rfl rfl ?_
    show Steps p.tables e below (s₁.setTop (mkF m 9 #[.val (.ref a1), .val (.int (1 : Int32)), .unset, .unset] [(.ref a1)])) _
    refine XS.iloadN X0.here hx rfl (hb hby d4_9) rfl ?_
    show Steps p.tables e below (s₁.setTop (mkF m 10 #[.val (.ref a1), .val (.int (1 : Int32)), .unset, .unset] [(.int (1 : Int32)), (.ref a1)])) _
    refine XS.iconst X0.here hx rfl (hb hby d4_10) ?_
    show Steps p.tables e below (s₁.setTop (mkF m 11 #[.val (.ref a1), .val (.int (1 : Int32)), .unset, .unset] [(.int (1 : Int32)), (.int (1 : Int32)), (.ref a1)])) _
    refine XS.iadd X0.here hx rfl (hb hby d4_11) rfl ?_
    show Steps p.tables e below (s₁.setTop (mkF m 12 #[.val (.ref a1), .val (.int (1 : Int32)), .unset, .unset] [(.int ((1 : Int32) + (1 : Int32))), (.ref a1)])) _
    refine X0.baloadBytes hx (j := ((1 : Int32) + (1 : Int32))) (v := (.int (120 : Int32))) (by rw [e0]; exact Ar_q2.1) (State.isArrayOf_alike hZ.alike Ar_q2.2.1) Ar_q2.2.2 hin_q2 hat_q2 (g := (mkF m 12 #[.val (.ref a1), .val (.int (1 : Int32)), .unset, .unset] [(.int ((1 : Int32) + (1 : Int32))), (.ref a1)])) rfl rfl (hb hby d4_12) _ ?_
    show Steps p.tables e below (s₁.setTop (mkF m 13 #[.val (.ref a1), .val (.int (1 : Int32)), .unset, .unset] [(.int (120 : Int32))])) _
    refine XS.bipush X0.here hx rfl (hb hby d4_13) ?_
    show Steps p.tables e below (s₁.setTop (mkF m 15 #[.val (.ref a1), .val (.int (1 : Int32)), .unset, .unset] [(.int (120 : Int32)), (.int (120 : Int32))])) _
    refine XS.icmpNo X0.here hx rfl (hb hby d4_15) rfl (teq (by decide : (120 : Int32) = (120 : Int32))).2 ?_
    show Steps p.tables e below (s₁.setTop (mkF m 18 #[.val (.ref a1), .val (.int (1 : Int32)), .unset, .unset] [])) _
    refine XS.aloadN X0.here hx rfl (hb hby d4_18) rfl rfl ?_
    show Steps p.tables e below (s₁.setTop (mkF m 19 #[.val (.ref a1), .val (.int (1 : Int32)), .unset, .unset] [(.ref a1)])) _
    refine XS.iloadN X0.here hx rfl (hb hby d4_19) rfl ?_
    show Steps p.tables e below (s₁.setTop (mkF m 20 #[.val (.ref a1), .val (.int (1 : Int32)), .unset, .unset] [(.int (1 : Int32)), (.ref a1)])) _
    refine XS.iconst X0.here hx rfl (hb hby d4_20) ?_
    show Steps p.tables e below (s₁.setTop (mkF m 21 #[.val (.ref a1), .val (.int (1 : Int32)), .unset, .unset] [(.int (2 : Int32)), (.int (1 : Int32)), (.ref a1)])) _
    refine XS.iadd X0.here hx rfl (hb hby d4_21) rfl ?_
    show Steps p.tables e below (s₁.setTop (mkF m 22 #[.val (.ref a1), .val (.int (1 : Int32)), .unset, .unset] [(.int ((1 : Int32) + (2 : Int32))), (.ref a1)])) _
    refine X0.baloadBytes hx (j := ((1 : Int32) + (2 : Int32))) (v := (.int x)) (by rw [e0]; exact Ar_q3.1) (State.isArrayOf_alike hZ.alike Ar_q3.2.1) Ar_q3.2.2 hin_q3 hat_q3 (g := (mkF m 22 #[.val (.ref a1), .val (.int (1 : Int32)), .unset, .unset] [(.int ((1 : Int32) + (2 : Int32))), (.ref a1)])) rfl rfl (hb hby d4_22) _ ?_
    show Steps p.tables e below (s₁.setTop (mkF m 23 #[.val (.ref a1), .val (.int (1 : Int32)), .unset, .unset] [(.int x)])) _
    refine st_q4 _ ?_
    show Steps p.tables e below (T_q4.setTop (mkF m 26 #[.val (.ref a1), .val (.int (1 : Int32)), .unset, .unset] [(.int (F5_0 x))])) _
    refine XS.istoreN X_q4.here hx rfl (hb hby d4_26) rfl (l' := #[.val (.ref a1), .val (.int (1 : Int32)), .val (.int (F5_0 x)), .unset]) rfl ?_
    show Steps p.tables e below (T_q4.setTop (mkF m 27 #[.val (.ref a1), .val (.int (1 : Int32)), .val (.int (F5_0 x)), .unset] [])) _
    refine XS.aloadN X_q4.here hx rfl (hb hby d4_27) rfl rfl ?_
    show Steps p.tables e below (T_q4.setTop (mkF m 28 #[.val (.ref a1), .val (.int (1 : Int32)), .val (.int (F5_0 x)), .unset] [(.ref a1)])) _
    refine XS.iloadN X_q4.here hx rfl (hb hby d4_28) rfl ?_
    show Steps p.tables e below (T_q4.setTop (mkF m 29 #[.val (.ref a1), .val (.int (1 : Int32)), .val (.int (F5_0 x)), .unset] [(.int (1 : Int32)), (.ref a1)])) _
    refine XS.iconst X_q4.here hx rfl (hb hby d4_29) ?_
    show Steps p.tables e below (T_q4.setTop (mkF m 30 #[.val (.ref a1), .val (.int (1 : Int32)), .val (.int (F5_0 x)), .unset] [(.int (3 : Int32)), (.int (1 : Int32)), (.ref a1)])) _
    refine XS.iadd X_q4.here hx rfl (hb hby d4_30) rfl ?_
    show Steps p.tables e below (T_q4.setTop (mkF m 31 #[.val (.ref a1), .val (.int (1 : Int32)), .val (.int (F5_0 x)), .unset] [(.int ((1 : Int32) + (3 : Int32))), (.ref a1)])) _
    refine X_q4.baloadBytes hx (j := ((1 : Int32) + (3 : Int32))) (v := (.int y)) (by exact Ar_q5.1) (State.isArrayOf_alike hZ.alike Ar_q5.2.1) Ar_q5.2.2 hin_q5 hat_q5 (g := (mkF m 31 #[.val (.ref a1), .val (.int (1 : Int32)), .val (.int (F5_0 x)), .unset] [(.int ((1 : Int32) + (3 : Int32))), (.ref a1)])) rfl rfl (hb hby d4_31) _ ?_
    show Steps p.tables e below (T_q4.setTop (mkF m 32 #[.val (.ref a1), .val (.int (1 : Int32)), .val (.int (F5_0 x)), .unset] [(.int y)])) _
    refine st_q6 _ ?_
    show Steps p.tables e below (T_q6.setTop (mkF m 35 #[.val (.ref a1), .val (.int (1 : Int32)), .val (.int (F5_0 x)), .unset] [(.int (F5_0 y))])) _
    refine XS.istoreN X_q6.here hx rfl (hb hby d4_35) rfl (l' := #[.val (.ref a1), .val (.int (1 : Int32)), .val (.int (F5_0 x)), .val (.int (F5_0 y))]) rfl ?_
    show Steps p.tables e below (T_q6.setTop (mkF m 36 #[.val (.ref a1), .val (.int (1 : Int32)), .val (.int (F5_0 x)), .val (.int (F5_0 y))] [])) _
    refine XS.iloadN X_q6.here hx rfl (hb hby d4_36) rfl ?_
    show Steps p.tables e below (T_q6.setTop (mkF m 37 #[.val (.ref a1), .val (.int (1 : Int32)), .val (.int (F5_0 x)), .val (.int (F5_0 y))] [(.int (F5_0 x))])) _
    refine XS.ifNo X_q6.here hx rfl (hb hby d4_37) rfl ((if0 _ _).trans (flt hc_q7).1) ?_
    show Steps p.tables e below (T_q6.setTop (mkF m 40 #[.val (.ref a1), .val (.int (1 : Int32)), .val (.int (F5_0 x)), .val (.int (F5_0 y))] [])) _
    refine XS.iloadN X_q6.here hx rfl (hb hby d4_40) rfl ?_
    show Steps p.tables e below (T_q6.setTop (mkF m 41 #[.val (.ref a1), .val (.int (1 : Int32)), .val (.int (F5_0 x)), .val (.int (F5_0 y))] [(.int (F5_0 y))])) _
    refine XS.ifNo X_q6.here hx rfl (hb hby d4_41) rfl ((if0 _ _).trans (flt hc_q8).1) ?_
    show Steps p.tables e below (T_q6.setTop (mkF m 44 #[.val (.ref a1), .val (.int (1 : Int32)), .val (.int (F5_0 x)), .val (.int (F5_0 y))] [])) _
    refine XS.iloadN X_q6.here hx rfl (hb hby d4_44) rfl ?_
    show Steps p.tables e below (T_q6.setTop (mkF m 45 #[.val (.ref a1), .val (.int (1 : Int32)), .val (.int (F5_0 x)), .val (.int (F5_0 y))] [(.int (F5_0 x))])) _
    refine XS.iconst X_q6.here hx rfl (hb hby d4_45) ?_
    show Steps p.tables e below (T_q6.setTop (mkF m 46 #[.val (.ref a1), .val (.int (1 : Int32)), .val (.int (F5_0 x)), .val (.int (F5_0 y))] [(.int (4 : Int32)), (.int (F5_0 x))])) _
    refine XS.ishl X_q6.here hx rfl (hb hby d4_46) rfl ?_
    show Steps p.tables e below (T_q6.setTop (mkF m 47 #[.val (.ref a1), .val (.int (1 : Int32)), .val (.int (F5_0 x)), .val (.int (F5_0 y))] [(.int ((F5_0 x) <<< ((4 : Int32) &&& 31)))])) _
    refine XS.iloadN X_q6.here hx rfl (hb hby d4_47) rfl ?_
    show Steps p.tables e below (T_q6.setTop (mkF m 48 #[.val (.ref a1), .val (.int (1 : Int32)), .val (.int (F5_0 x)), .val (.int (F5_0 y))] [(.int (F5_0 y)), (.int ((F5_0 x) <<< ((4 : Int32) &&& 31)))])) _
    refine XS.ior X_q6.here hx rfl (hb hby d4_48) rfl ?_
    show Steps p.tables e below (T_q6.setTop (mkF m 49 #[.val (.ref a1), .val (.int (1 : Int32)), .val (.int (F5_0 x)), .val (.int (F5_0 y))] [(.int (((F5_0 x) <<< ((4 : Int32) &&& 31)) ||| (F5_0 y)))])) _
    refine XS.i2b X_q6.here hx rfl (hb hby d4_49) rfl ?_
    show Steps p.tables e below (T_q6.setTop (mkF m 50 #[.val (.ref a1), .val (.int (1 : Int32)), .val (.int (F5_0 x)), .val (.int (F5_0 y))] [(.int ((((F5_0 x) <<< ((4 : Int32) &&& 31)) ||| (F5_0 y)).toInt8.toInt32))])) _
    exact retN X_q6 hx (t := .byte) Bd.returns (by simp) (hb hby d4_50) hr
  · show Q_rm4_5_1 Z a1 k1 u0 x y h0 n0 _ T_q6.heap _
    exact ⟨rfl, N_q6, by rw [eq_q6, eq_q4]⟩
def Q_rm4_8_0 (Z : State) (a1 : Addr) (k1 : ClassId) (u4 : Value) (u5 : Value) (u6 : Value) (u7 : Value) (x : Int32) (y : Int32) (h0 : Heap) (n0 : Nat) (v : Option Value) (h : Heap) (L : List Loc) : Prop := v = some (.int (nar .byte ((((F5_0 x) <<< ((4 : Int32) &&& 31)) ||| (F5_0 y)).toInt8.toInt32))) ∧ Fr n0 L ∧ h = h0
set_option maxRecDepth 65536 in
set_option maxHeartbeats 40000000 in
theorem rm4_8_0 (l : Launch) (Z : State) (a0 : Array Value) (hw : ∀ d ∈ tables_1, d.before a0 Z = true) (ws : List Jvm.Cond) (a1 : Addr) (k1 : ClassId) (u4 : Value) (u5 : Value) (u6 : Value) (u7 : Value) (x : Int32) (y : Int32) (h0 : Heap) (n0 : Nat) (Z0 : n0 ≤ h0.size) (V_a1 : Arv Z h0 a1 k1 .byte (8 : Int32) [(.int (92 : Int32)), (.int (120 : Int32)), (.int x), (.int y), u4, u5, u6, u7] (.int (0 : Int32))) (hc_q7 : ¬ ((F5_0 x) < (0 : Int32))) (hc_q8 : ¬ ((F5_0 y) < (0 : Int32))) :
    MetFree l (⟨"com/example/presplit/presplit/escape/BinaryEscape", "escapedByte", "([BI)B"⟩ : MethodName) (head1 (Jvm.Cond.code (⟨"com/example/presplit/presplit/escape/BinaryEscape", "escapedByte", "([BI)B"⟩ : MethodName) prog_1_method_4_code 4 (some .byte) :: ws) ({ frames := 1, cells := 0, slots := 0, locals := 30 } : Room)) (fun a U => a = #[(.ref a1), (.int (0 : Int32))] ∧ Z.Warmed39 U.vm ∧ U.heap = h0) (fun _ _ _ _ _ => True) (fun _ U o U' => ∃ v L, o = .returned v ∧ Q_rm4_8_0 Z a1 k1 u4 u5 u6 u7 x y h0 n0 v U'.heap L ∧ FrameEnd U o U' L ({ frames := 1, cells := 0, slots := 0, locals := 30 } : Room).cells ({ frames := 1, cells := 0, slots := 0, locals := 30 } : Room).slots) := by
  refine MetFree.of_bodySF (plainFor_of_name pn_4) hisR ?_
  intro p e s m args below meth c s₁ Bd hml0 hP hK
  obtain ⟨rfl, hZ, hh⟩ := hP
  have hx := Bd.exec
  have hby := Bd.bytes
  have hml : c.maxLocals = 4 := hml0
  have hown : s.vm.findClass "com/example/presplit/presplit/escape/BinaryEscape" = some m.cls := findClass_of_methodNamed Bd.named
  have hnm := (name_of_methodNamed Bd.named Bd.method).1
  have X0 : Stand p l e ({ frames := 1, cells := 0, slots := 0, locals := 30 } : Room) s m #[(.ref a1), (.int (0 : Int32))] below meth c s₁ [] 0 0 := Stand.of_body Bd
  have e0 : s₁.heap = h0 := by rw [← hh, Bd.state]; rfl
  have N0 := Fr.nil n0
  have pre0 : ∀ t, Steps p.tables e below (s₁.setTop (mkF m 0 #[.val (.ref a1), .val (.int (0 : Int32)), .unset, .unset] [])) t → Steps p.tables e below (s₁.setTop (entryFrame m #[(.ref a1), (.int (0 : Int32))] 4)) t := fun t k => castTop (ef_4 m a1 (0 : Int32)) k
  have K0 : Keep h0 h0 [] := Keep.refl _ _
  obtain ⟨cl_q1, Ar_q1, qk_q1, S_q1, Nn_q1, H_q1, G_q1⟩ := id V_a1
  obtain ⟨cl_q2, Ar_q2, qk_q2, S_q2, Nn_q2, H_q2, G_q2⟩ := id V_a1
  have hin_q2 : ¬ (((0 : Int32) + (1 : Int32)) < 0 ∨ cl_q2.slots.size ≤ (((0 : Int32) + (1 : Int32))).toNatClampNeg) := inb_of S_q2 ⟨by decide, by decide⟩
  have hat_q2 : cl_q2.slots[(((0 : Int32) + (1 : Int32))).toNatClampNeg]? = some (.int (120 : Int32)) := H_q2 1 (Nat.lt_of_not_le fun q => hin_q2 (Or.inr q))
  obtain ⟨cl_q3, Ar_q3, qk_q3, S_q3, Nn_q3, H_q3, G_q3⟩ := id V_a1
  have hin_q3 : ¬ (((0 : Int32) + (2 : Int32)) < 0 ∨ cl_q3.slots.size ≤ (((0 : Int32) + (2 : Int32))).toNatClampNeg) := inb_of S_q3 ⟨by decide, by decide⟩
  have hat_q3 : cl_q3.slots[(((0 : Int32) + (2 : Int32))).toNatClampNeg]? = some (.int x) := H_q3 2 (Nat.lt_of_not_le fun q => hin_q3 (Or.inr q))
  obtain ⟨_, _, ⟨T_q4, L_q4, k_q4, n_q4⟩, -, X_q4, ⟨Lc_q4, hQ_q4, l_q4, y_q4, z_q4⟩, st_q4⟩ := Jvm.LawKit.callS X0 hx (y := (⟨"com/example/presplit/presplit/escape/BinaryEscape", "hexDigitValue", "(B)I"⟩ : MethodName)) hown (mvT hZ (hw _ (List.mem_of_getElem? (i := 15) rfl))) (mvT hZ (hw _ (List.mem_of_getElem? (i := 16) rfl))) (mvT hZ (hw _ (List.mem_of_getElem? (i := 10) rfl))) (mvT hZ (hw _ (List.mem_of_getElem? (i := 17) rfl))) (by decide) (backOf (W := 0) (rm5 l Z a0 hw [] x h0 n0 (Nat.le_trans Z0 K0.1)) hZ (hw _ (List.mem_of_getElem? (i := 17) rfl)) (hw _ (List.mem_of_getElem? (i := 10) rfl)) (by decide) (by decide)) (g := (mkF m 23 #[.val (.ref a1), .val (.int (0 : Int32)), .unset, .unset] [(.int x)])) rfl (by rw [hml]; rfl) (argsL := [(.int x)]) (rest := []) (lenOf pd__B_I rfl) rfl (by show 2 * 0 + _ ≤ _; exact Nat.le_of_eq rfl) (hb hby d4_23) (fun _ _ => ⟨rfl, e0, (by decide : 0 + 0 ≤ _), (by decide : 0 + 0 ≤ _)⟩)
  dsimp only [Pt.U, Pt.locs, Pt.cells, Pt.slots] at X_q4 l_q4 y_q4 z_q4 st_q4 hQ_q4
  subst l_q4 y_q4 z_q4
  obtain ⟨rfl, Nq_q4, eq_q4⟩ := hQ_q4
  have Kq_q4 : Keep h0 T_q4.heap [] := by rw [eq_q4]; exact Keep.refl _ _
  have N_q4 := Fr.app N0 Nq_q4
  have V_a1__q4 := V_a1.keep Kq_q4 List.not_mem_nil
  have K_q4 : Keep h0 T_q4.heap [] := K0.trans Kq_q4 (fun x hx => nomatch hx)
  obtain ⟨cl_q5, Ar_q5, qk_q5, S_q5, Nn_q5, H_q5, G_q5⟩ := id V_a1__q4
  have hin_q5 : ¬ (((0 : Int32) + (3 : Int32)) < 0 ∨ cl_q5.slots.size ≤ (((0 : Int32) + (3 : Int32))).toNatClampNeg) := inb_of S_q5 ⟨by decide, by decide⟩
  have hat_q5 : cl_q5.slots[(((0 : Int32) + (3 : Int32))).toNatClampNeg]? = some (.int y) := H_q5 3 (Nat.lt_of_not_le fun q => hin_q5 (Or.inr q))
  obtain ⟨_, _, ⟨T_q6, L_q6, k_q6, n_q6⟩, -, X_q6, ⟨Lc_q6, hQ_q6, l_q6, y_q6, z_q6⟩, st_q6⟩ := Jvm.LawKit.callS X_q4 hx (y := (⟨"com/example/presplit/presplit/escape/BinaryEscape", "hexDigitValue", "(B)I"⟩ : MethodName)) hown (mvT hZ (hw _ (List.mem_of_getElem? (i := 15) rfl))) (mvT hZ (hw _ (List.mem_of_getElem? (i := 16) rfl))) (mvT hZ (hw _ (List.mem_of_getElem? (i := 10) rfl))) (mvT hZ (hw _ (List.mem_of_getElem? (i := 17) rfl))) (by decide) (backOf (W := 0) (rm5 l Z a0 hw [] y T_q4.heap n0 (Nat.le_trans Z0 K_q4.1)) hZ (hw _ (List.mem_of_getElem? (i := 17) rfl)) (hw _ (List.mem_of_getElem? (i := 10) rfl)) (by decide) (by decide)) (g := (mkF m 32 #[.val (.ref a1), .val (.int (0 : Int32)), .val (.int (F5_0 x)), .unset] [(.int y)])) rfl (by rw [hml]; rfl) (argsL := [(.int y)]) (rest := []) (lenOf pd__B_I rfl) rfl (by show 2 * 0 + _ ≤ _; exact Nat.le_of_eq rfl) (hb hby d4_32) (fun _ _ => ⟨rfl, rfl, (by decide : 0 + 0 ≤ _), (by decide : 0 + 0 ≤ _)⟩)
  dsimp only [Pt.U, Pt.locs, Pt.cells, Pt.slots] at X_q6 l_q6 y_q6 z_q6 st_q6 hQ_q6
  subst l_q6 y_q6 z_q6
  obtain ⟨rfl, Nq_q6, eq_q6⟩ := hQ_q6
  have Kq_q6 : Keep T_q4.heap T_q6.heap [] := by rw [eq_q6]; exact Keep.refl _ _
  have N_q6 := Fr.app N_q4 Nq_q6
  have V_a1__q6 := V_a1__q4.keep Kq_q6 List.not_mem_nil
  have K_q6 : Keep h0 T_q6.heap [] := K_q4.trans Kq_q6 (fun x hx => nomatch hx)
  obtain ⟨fs, hr, hrun, hended, hW, hsame⟩ := X_q6.leave (v := some (.int (nar .byte ((((F5_0 x) <<< ((4 : Int32) &&& 31)) ||| (F5_0 y)).toInt8.toInt32)))) (fun h => by rw [Bd.returns] at h; cases h) Bd.notSynchronized
  refine ⟨_, _, pre0 _ ?_, hrun, hended, _, _, rfl, ?_, ⟨_, rfl⟩, hW, hsame.mono (by decide) (by decide)⟩
  · show Steps p.tables e below (s₁.setTop (mkF m 0 #[.val (.ref a1), .val (.int (0 : Int32)), .unset, .unset] [])) _
    refine XS.iloadN X0.here hx rfl (hb hby d4_0) rfl ?_
    show Steps p.tables e below (s₁.setTop (mkF m 1 #[.val (.ref a1), .val (.int (0 : Int32)), .unset, .unset] [(.int (0 : Int32))])) _
    refine XS.iconst X0.here hx rfl (hb hby d4_1) ?_
    show Steps p.tables e below (s₁.setTop (mkF m 2 #[.val (.ref a1), .val (.int (0 : Int32)), .unset, .unset] [(.int (4 : Int32)), (.int (0 : Int32))])) _
    refine XS.iadd X0.here hx rfl (hb hby d4_2) rfl ?_
    show Steps p.tables e below (s₁.setTop (mkF m 3 #[.val (.ref a1), .val (.int (0 : Int32)), .unset, .unset] [(.int ((0 : Int32) + (4 : Int32)))])) _
    refine XS.aloadN X0.here hx rfl (hb hby d4_3) rfl rfl ?_
    show Steps p.tables e below (s₁.setTop (mkF m 4 #[.val (.ref a1), .val (.int (0 : Int32)), .unset, .unset] [(.ref a1), (.int ((0 : Int32) + (4 : Int32)))])) _
    refine X0.arraylength hx (by rw [e0]; exact Ar_q1.1) (State.isArrayOf_alike hZ.alike Ar_q1.2.1) (g := (mkF m 4 #[.val (.ref a1), .val (.int (0 : Int32)), .unset, .unset] [(.ref a1), (.int ((0 : Int32) + (4 : Int32)))])) rfl rfl (hb hby d4_4) _ ?_
    rw [len_of S_q1 Nn_q1]
    show Steps p.tables e below (s₁.setTop (mkF m 5 #[.val (.ref a1), .val (.int (0 : Int32)), .unset, .unset] [(.int (8 : Int32)), (.int ((0 : Int32) + (4 : Int32)))])) _
    refine XS.icmpNo X0.here hx rfl (hb hby d4_5) rfl (flt (by decide : ¬ ((8 : Int32) < ((0 : Int32) + (4 : Int32))))).2.2.1 ?_
    show Steps p.tables e below (s₁.setTop (mkF m 8 #[.val (.ref a1), .val (.int (0 : Int32)), .unset, .unset] [])) _
    refine XS.aloadN X0.here hx rfl (hb hby d4_8) rfl rfl ?_
    show Steps p.tables e below (s₁.setTop (mkF m 9 #[.val (.ref a1), .val (.int (0 : Int32)), .unset, .unset] [(.ref a1)])) _
    refine XS.iloadN X0.here hx rfl (hb hby d4_9) rfl ?_
    show Steps p.tables e below (s₁.setTop (mkF m 10 #[.val (.ref a1), .val (.int (0 : Int32)), .unset, .unset] [(.int (0 : Int32)), (.ref a1)])) _
    refine XS.iconst X0.here hx rfl (hb hby d4_10) ?_
    show Steps p.tables e below (s₁.setTop (mkF m 11 #[.val (.ref a1), .val (.int (0 : Int32)), .unset, .unset] [(.int (1 : Int32)), (.int (0 : Int32)), (.ref a1)])) _
    refine XS.iadd X0.here hx rfl (hb hby d4_11) rfl ?_
    show Steps p.tables e below (s₁.setTop (mkF m 12 #[.val (.ref a1), .val (.int (0 : Int32)), .unset, .unset] [(.int ((0 : Int32) + (1 : Int32))), (.ref a1)])) _
    refine X0.baloadBytes hx (j := ((0 : Int32) + (1 : Int32))) (v := (.int (120 : Int32))) (by rw [e0]; exact Ar_q2.1) (State.isArrayOf_alike hZ.alike Ar_q2.2.1) Ar_q2.2.2 hin_q2 hat_q2 (g := (mkF m 12 #[.val (.ref a1), .val (.int (0 : Int32)), .unset, .unset] [(.int ((0 : Int32) + (1 : Int32))), (.ref a1)])) rfl rfl (hb hby d4_12) _ ?_
    show Steps p.tables e below (s₁.setTop (mkF m 13 #[.val (.ref a1), .val (.int (0 : Int32)), .unset, .unset] [(.int (120 : Int32))])) _
    refine XS.bipush X0.here hx rfl (hb hby d4_13) ?_
    show Steps p.tables e below (s₁.setTop (mkF m 15 #[.val (.ref a1), .val (.int (0 : Int32)), .unset, .unset] [(.int (120 : Int32)), (.int (120 : Int32))])) _
    refine XS.icmpNo X0.here hx rfl (hb hby d4_15) rfl (teq (by decide : (120 : Int32) = (120 : Int32))).2 ?_
    show Steps p.tables e below (s₁.setTop (mkF m 18 #[.val (.ref a1), .val (.int (0 : Int32)), .unset, .unset] [])) _
    refine XS.aloadN X0.here hx rfl (hb hby d4_18) rfl rfl ?_
    show Steps p.tables e below (s₁.setTop (mkF m 19 #[.val (.ref a1), .val (.int (0 : Int32)), .unset, .unset] [(.ref a1)])) _
    refine XS.iloadN X0.here hx rfl (hb hby d4_19) rfl ?_
    show Steps p.tables e below (s₁.setTop (mkF m 20 #[.val (.ref a1), .val (.int (0 : Int32)), .unset, .unset] [(.int (0 : Int32)), (.ref a1)])) _
    refine XS.iconst X0.here hx rfl (hb hby d4_20) ?_
    show Steps p.tables e below (s₁.setTop (mkF m 21 #[.val (.ref a1), .val (.int (0 : Int32)), .unset, .unset] [(.int (2 : Int32)), (.int (0 : Int32)), (.ref a1)])) _
    refine XS.iadd X0.here hx rfl (hb hby d4_21) rfl ?_
    show Steps p.tables e below (s₁.setTop (mkF m 22 #[.val (.ref a1), .val (.int (0 : Int32)), .unset, .unset] [(.int ((0 : Int32) + (2 : Int32))), (.ref a1)])) _
    refine X0.baloadBytes hx (j := ((0 : Int32) + (2 : Int32))) (v := (.int x)) (by rw [e0]; exact Ar_q3.1) (State.isArrayOf_alike hZ.alike Ar_q3.2.1) Ar_q3.2.2 hin_q3 hat_q3 (g := (mkF m 22 #[.val (.ref a1), .val (.int (0 : Int32)), .unset, .unset] [(.int ((0 : Int32) + (2 : Int32))), (.ref a1)])) rfl rfl (hb hby d4_22) _ ?_
    show Steps p.tables e below (s₁.setTop (mkF m 23 #[.val (.ref a1), .val (.int (0 : Int32)), .unset, .unset] [(.int x)])) _
    refine st_q4 _ ?_
    show Steps p.tables e below (T_q4.setTop (mkF m 26 #[.val (.ref a1), .val (.int (0 : Int32)), .unset, .unset] [(.int (F5_0 x))])) _
    refine XS.istoreN X_q4.here hx rfl (hb hby d4_26) rfl (l' := #[.val (.ref a1), .val (.int (0 : Int32)), .val (.int (F5_0 x)), .unset]) rfl ?_
    show Steps p.tables e below (T_q4.setTop (mkF m 27 #[.val (.ref a1), .val (.int (0 : Int32)), .val (.int (F5_0 x)), .unset] [])) _
    refine XS.aloadN X_q4.here hx rfl (hb hby d4_27) rfl rfl ?_
    show Steps p.tables e below (T_q4.setTop (mkF m 28 #[.val (.ref a1), .val (.int (0 : Int32)), .val (.int (F5_0 x)), .unset] [(.ref a1)])) _
    refine XS.iloadN X_q4.here hx rfl (hb hby d4_28) rfl ?_
    show Steps p.tables e below (T_q4.setTop (mkF m 29 #[.val (.ref a1), .val (.int (0 : Int32)), .val (.int (F5_0 x)), .unset] [(.int (0 : Int32)), (.ref a1)])) _
    refine XS.iconst X_q4.here hx rfl (hb hby d4_29) ?_
    show Steps p.tables e below (T_q4.setTop (mkF m 30 #[.val (.ref a1), .val (.int (0 : Int32)), .val (.int (F5_0 x)), .unset] [(.int (3 : Int32)), (.int (0 : Int32)), (.ref a1)])) _
    refine XS.iadd X_q4.here hx rfl (hb hby d4_30) rfl ?_
    show Steps p.tables e below (T_q4.setTop (mkF m 31 #[.val (.ref a1), .val (.int (0 : Int32)), .val (.int (F5_0 x)), .unset] [(.int ((0 : Int32) + (3 : Int32))), (.ref a1)])) _
    refine X_q4.baloadBytes hx (j := ((0 : Int32) + (3 : Int32))) (v := (.int y)) (by exact Ar_q5.1) (State.isArrayOf_alike hZ.alike Ar_q5.2.1) Ar_q5.2.2 hin_q5 hat_q5 (g := (mkF m 31 #[.val (.ref a1), .val (.int (0 : Int32)), .val (.int (F5_0 x)), .unset] [(.int ((0 : Int32) + (3 : Int32))), (.ref a1)])) rfl rfl (hb hby d4_31) _ ?_
    show Steps p.tables e below (T_q4.setTop (mkF m 32 #[.val (.ref a1), .val (.int (0 : Int32)), .val (.int (F5_0 x)), .unset] [(.int y)])) _
    refine st_q6 _ ?_
    show Steps p.tables e below (T_q6.setTop (mkF m 35 #[.val (.ref a1), .val (.int (0 : Int32)), .val (.int (F5_0 x)), .unset] [(.int (F5_0 y))])) _
    refine XS.istoreN X_q6.here hx rfl (hb hby d4_35) rfl (l' := #[.val (.ref a1), .val (.int (0 : Int32)), .val (.int (F5_0 x)), .val (.int (F5_0 y))]) rfl ?_
    show Steps p.tables e below (T_q6.setTop (mkF m 36 #[.val (.ref a1), .val (.int (0 : Int32)), .val (.int (F5_0 x)), .val (.int (F5_0 y))] [])) _
    refine XS.iloadN X_q6.here hx rfl (hb hby d4_36) rfl ?_
    show Steps p.tables e below (T_q6.setTop (mkF m 37 #[.val (.ref a1), .val (.int (0 : Int32)), .val (.int (F5_0 x)), .val (.int (F5_0 y))] [(.int (F5_0 x))])) _
    refine XS.ifNo X_q6.here hx rfl (hb hby d4_37) rfl ((if0 _ _).trans (flt hc_q7).1) ?_
    show Steps p.tables e below (T_q6.setTop (mkF m 40 #[.val (.ref a1), .val (.int (0 : Int32)), .val (.int (F5_0 x)), .val (.int (F5_0 y))] [])) _
    refine XS.iloadN X_q6.here hx rfl (hb hby d4_40) rfl ?_
    show Steps p.tables e below (T_q6.setTop (mkF m 41 #[.val (.ref a1), .val (.int (0 : Int32)), .val (.int (F5_0 x)), .val (.int (F5_0 y))] [(.int (F5_0 y))])) _
    refine XS.ifNo X_q6.here hx rfl (hb hby d4_41) rfl ((if0 _ _).trans (flt hc_q8).1) ?_
    show Steps p.tables e below (T_q6.setTop (mkF m 44 #[.val (.ref a1), .val (.int (0 : Int32)), .val (.int (F5_0 x)), .val (.int (F5_0 y))] [])) _
    refine XS.iloadN X_q6.here hx rfl (hb hby d4_44) rfl ?_
    show Steps p.tables e below (T_q6.setTop (mkF m 45 #[.val (.ref a1), .val (.int (0 : Int32)), .val (.int (F5_0 x)), .val (.int (F5_0 y))] [(.int (F5_0 x))])) _
    refine XS.iconst X_q6.here hx rfl (hb hby d4_45) ?_
    show Steps p.tables e below (T_q6.setTop (mkF m 46 #[.val (.ref a1), .val (.int (0 : Int32)), .val (.int (F5_0 x)), .val (.int (F5_0 y))] [(.int (4 : Int32)), (.int (F5_0 x))])) _
    refine XS.ishl X_q6.here hx rfl (hb hby d4_46) rfl ?_
    show Steps p.tables e below (T_q6.setTop (mkF m 47 #[.val (.ref a1), .val (.int (0 : Int32)), .val (.int (F5_0 x)), .val (.int (F5_0 y))] [(.int ((F5_0 x) <<< ((4 : Int32) &&& 31)))])) _
    refine XS.iloadN X_q6.here hx rfl (hb hby d4_47) rfl ?_
    show Steps p.tables e below (T_q6.setTop (mkF m 48 #[.val (.ref a1), .val (.int (0 : Int32)), .val (.int (F5_0 x)), .val (.int (F5_0 y))] [(.int (F5_0 y)), (.int ((F5_0 x) <<< ((4 : Int32) &&& 31)))])) _
    refine XS.ior X_q6.here hx rfl (hb hby d4_48) rfl ?_
    show Steps p.tables e below (T_q6.setTop (mkF m 49 #[.val (.ref a1), .val (.int (0 : Int32)), .val (.int (F5_0 x)), .val (.int (F5_0 y))] [(.int (((F5_0 x) <<< ((4 : Int32) &&& 31)) ||| (F5_0 y)))])) _
    refine XS.i2b X_q6.here hx rfl (hb hby d4_49) rfl ?_
    show Steps p.tables e below (T_q6.setTop (mkF m 50 #[.val (.ref a1), .val (.int (0 : Int32)), .val (.int (F5_0 x)), .val (.int (F5_0 y))] [(.int ((((F5_0 x) <<< ((4 : Int32) &&& 31)) ||| (F5_0 y)).toInt8.toInt32))])) _
    exact retN X_q6 hx (t := .byte) Bd.returns (by simp) (hb hby d4_50) hr
  · show Q_rm4_8_0 Z a1 k1 u4 u5 u6 u7 x y h0 n0 _ T_q6.heap _
    exact ⟨rfl, N_q6, by rw [eq_q6, eq_q4]⟩
def Q_rm4_8_4 (Z : State) (a1 : Addr) (k1 : ClassId) (u0 : Value) (u1 : Value) (u2 : Value) (u3 : Value) (x : Int32) (y : Int32) (h0 : Heap) (n0 : Nat) (v : Option Value) (h : Heap) (L : List Loc) : Prop := v = some (.int (nar .byte ((((F5_0 x) <<< ((4 : Int32) &&& 31)) ||| (F5_0 y)).toInt8.toInt32))) ∧ Fr n0 L ∧ h = h0
set_option maxRecDepth 65536 in
set_option maxHeartbeats 40000000 in
theorem rm4_8_4 (l : Launch) (Z : State) (a0 : Array Value) (hw : ∀ d ∈ tables_1, d.before a0 Z = true) (ws : List Jvm.Cond) (a1 : Addr) (k1 : ClassId) (u0 : Value) (u1 : Value) (u2 : Value) (u3 : Value) (x : Int32) (y : Int32) (h0 : Heap) (n0 : Nat) (Z0 : n0 ≤ h0.size) (V_a1 : Arv Z h0 a1 k1 .byte (8 : Int32) [u0, u1, u2, u3, (.int (92 : Int32)), (.int (120 : Int32)), (.int x), (.int y)] (.int (0 : Int32))) (hc_q7 : ¬ ((F5_0 x) < (0 : Int32))) (hc_q8 : ¬ ((F5_0 y) < (0 : Int32))) :
    MetFree l (⟨"com/example/presplit/presplit/escape/BinaryEscape", "escapedByte", "([BI)B"⟩ : MethodName) (head1 (Jvm.Cond.code (⟨"com/example/presplit/presplit/escape/BinaryEscape", "escapedByte", "([BI)B"⟩ : MethodName) prog_1_method_4_code 4 (some .byte) :: ws) ({ frames := 1, cells := 0, slots := 0, locals := 30 } : Room)) (fun a U => a = #[(.ref a1), (.int (4 : Int32))] ∧ Z.Warmed39 U.vm ∧ U.heap = h0) (fun _ _ _ _ _ => True) (fun _ U o U' => ∃ v L, o = .returned v ∧ Q_rm4_8_4 Z a1 k1 u0 u1 u2 u3 x y h0 n0 v U'.heap L ∧ FrameEnd U o U' L ({ frames := 1, cells := 0, slots := 0, locals := 30 } : Room).cells ({ frames := 1, cells := 0, slots := 0, locals := 30 } : Room).slots) := by
  refine MetFree.of_bodySF (plainFor_of_name pn_4) hisR ?_
  intro p e s m args below meth c s₁ Bd hml0 hP hK
  obtain ⟨rfl, hZ, hh⟩ := hP
  have hx := Bd.exec
  have hby := Bd.bytes
  have hml : c.maxLocals = 4 := hml0
  have hown : s.vm.findClass "com/example/presplit/presplit/escape/BinaryEscape" = some m.cls := findClass_of_methodNamed Bd.named
  have hnm := (name_of_methodNamed Bd.named Bd.method).1
  have X0 : Stand p l e ({ frames := 1, cells := 0, slots := 0, locals := 30 } : Room) s m #[(.ref a1), (.int (4 : Int32))] below meth c s₁ [] 0 0 := Stand.of_body Bd
  have e0 : s₁.heap = h0 := by rw [← hh, Bd.state]; rfl
  have N0 := Fr.nil n0
  have pre0 : ∀ t, Steps p.tables e below (s₁.setTop (mkF m 0 #[.val (.ref a1), .val (.int (4 : Int32)), .unset, .unset] [])) t → Steps p.tables e below (s₁.setTop (entryFrame m #[(.ref a1), (.int (4 : Int32))] 4)) t := fun t k => castTop (ef_4 m a1 (4 : Int32)) k
  have K0 : Keep h0 h0 [] := Keep.refl _ _
  obtain ⟨cl_q1, Ar_q1, qk_q1, S_q1, Nn_q1, H_q1, G_q1⟩ := id V_a1
  obtain ⟨cl_q2, Ar_q2, qk_q2, S_q2, Nn_q2, H_q2, G_q2⟩ := id V_a1
  have hin_q2 : ¬ (((4 : Int32) + (1 : Int32)) < 0 ∨ cl_q2.slots.size ≤ (((4 : Int32) + (1 : Int32))).toNatClampNeg) := inb_of S_q2 ⟨by decide, by decide⟩
  have hat_q2 : cl_q2.slots[(((4 : Int32) + (1 : Int32))).toNatClampNeg]? = some (.int (120 : Int32)) := H_q2 5 (Nat.lt_of_not_le fun q => hin_q2 (Or.inr q))
  obtain ⟨cl_q3, Ar_q3, qk_q3, S_q3, Nn_q3, H_q3, G_q3⟩ := id V_a1
  have hin_q3 : ¬ (((4 : Int32) + (2 : Int32)) < 0 ∨ cl_q3.slots.size ≤ (((4 : Int32) + (2 : Int32))).toNatClampNeg) := inb_of S_q3 ⟨by decide, by decide⟩
  have hat_q3 : cl_q3.slots[(((4 : Int32) + (2 : Int32))).toNatClampNeg]? = some (.int x) := H_q3 6 (Nat.lt_of_not_le fun q => hin_q3 (Or.inr q))
  obtain ⟨_, _, ⟨T_q4, L_q4, k_q4, n_q4⟩, -, X_q4, ⟨Lc_q4, hQ_q4, l_q4, y_q4, z_q4⟩, st_q4⟩ := Jvm.LawKit.callS X0 hx (y := (⟨"com/example/presplit/presplit/escape/BinaryEscape", "hexDigitValue", "(B)I"⟩ : MethodName)) hown (mvT hZ (hw _ (List.mem_of_getElem? (i := 15) rfl))) (mvT hZ (hw _ (List.mem_of_getElem? (i := 16) rfl))) (mvT hZ (hw _ (List.mem_of_getElem? (i := 10) rfl))) (mvT hZ (hw _ (List.mem_of_getElem? (i := 17) rfl))) (by decide) (backOf (W := 0) (rm5 l Z a0 hw [] x h0 n0 (Nat.le_trans Z0 K0.1)) hZ (hw _ (List.mem_of_getElem? (i := 17) rfl)) (hw _ (List.mem_of_getElem? (i := 10) rfl)) (by decide) (by decide)) (g := (mkF m 23 #[.val (.ref a1), .val (.int (4 : Int32)), .unset, .unset] [(.int x)])) rfl (by rw [hml]; rfl) (argsL := [(.int x)]) (rest := []) (lenOf pd__B_I rfl) rfl (by show 2 * 0 + _ ≤ _; exact Nat.le_of_eq rfl) (hb hby d4_23) (fun _ _ => ⟨rfl, e0, (by decide : 0 + 0 ≤ _), (by decide : 0 + 0 ≤ _)⟩)
  dsimp only [Pt.U, Pt.locs, Pt.cells, Pt.slots] at X_q4 l_q4 y_q4 z_q4 st_q4 hQ_q4
  subst l_q4 y_q4 z_q4
  obtain ⟨rfl, Nq_q4, eq_q4⟩ := hQ_q4
  have Kq_q4 : Keep h0 T_q4.heap [] := by rw [eq_q4]; exact Keep.refl _ _
  have N_q4 := Fr.app N0 Nq_q4
  have V_a1__q4 := V_a1.keep Kq_q4 List.not_mem_nil
  have K_q4 : Keep h0 T_q4.heap [] := K0.trans Kq_q4 (fun x hx => nomatch hx)
  obtain ⟨cl_q5, Ar_q5, qk_q5, S_q5, Nn_q5, H_q5, G_q5⟩ := id V_a1__q4
  have hin_q5 : ¬ (((4 : Int32) + (3 : Int32)) < 0 ∨ cl_q5.slots.size ≤ (((4 : Int32) + (3 : Int32))).toNatClampNeg) := inb_of S_q5 ⟨by decide, by decide⟩
  have hat_q5 : cl_q5.slots[(((4 : Int32) + (3 : Int32))).toNatClampNeg]? = some (.int y) := H_q5 7 (Nat.lt_of_not_le fun q => hin_q5 (Or.inr q))
  obtain ⟨_, _, ⟨T_q6, L_q6, k_q6, n_q6⟩, -, X_q6, ⟨Lc_q6, hQ_q6, l_q6, y_q6, z_q6⟩, st_q6⟩ := Jvm.LawKit.callS X_q4 hx (y := (⟨"com/example/presplit/presplit/escape/BinaryEscape", "hexDigitValue", "(B)I"⟩ : MethodName)) hown (mvT hZ (hw _ (List.mem_of_getElem? (i := 15) rfl))) (mvT hZ (hw _ (List.mem_of_getElem? (i := 16) rfl))) (mvT hZ (hw _ (List.mem_of_getElem? (i := 10) rfl))) (mvT hZ (hw _ (List.mem_of_getElem? (i := 17) rfl))) (by decide) (backOf (W := 0) (rm5 l Z a0 hw [] y T_q4.heap n0 (Nat.le_trans Z0 K_q4.1)) hZ (hw _ (List.mem_of_getElem? (i := 17) rfl)) (hw _ (List.mem_of_getElem? (i := 10) rfl)) (by decide) (by decide)) (g := (mkF m 32 #[.val (.ref a1), .val (.int (4 : Int32)), .val (.int (F5_0 x)), .unset] [(.int y)])) rfl (by rw [hml]; rfl) (argsL := [(.int y)]) (rest := []) (lenOf pd__B_I rfl) rfl (by show 2 * 0 + _ ≤ _; exact Nat.le_of_eq rfl) (hb hby d4_32) (fun _ _ => ⟨rfl, rfl, (by decide : 0 + 0 ≤ _), (by decide : 0 + 0 ≤ _)⟩)
  dsimp only [Pt.U, Pt.locs, Pt.cells, Pt.slots] at X_q6 l_q6 y_q6 z_q6 st_q6 hQ_q6
  subst l_q6 y_q6 z_q6
  obtain ⟨rfl, Nq_q6, eq_q6⟩ := hQ_q6
  have Kq_q6 : Keep T_q4.heap T_q6.heap [] := by rw [eq_q6]; exact Keep.refl _ _
  have N_q6 := Fr.app N_q4 Nq_q6
  have V_a1__q6 := V_a1__q4.keep Kq_q6 List.not_mem_nil
  have K_q6 : Keep h0 T_q6.heap [] := K_q4.trans Kq_q6 (fun x hx => nomatch hx)
  obtain ⟨fs, hr, hrun, hended, hW, hsame⟩ := X_q6.leave (v := some (.int (nar .byte ((((F5_0 x) <<< ((4 : Int32) &&& 31)) ||| (F5_0 y)).toInt8.toInt32)))) (fun h => by rw [Bd.returns] at h; cases h) Bd.notSynchronized
  refine ⟨_, _, pre0 _ ?_, hrun, hended, _, _, rfl, ?_, ⟨_, rfl⟩, hW, hsame.mono (by decide) (by decide)⟩
  · show Steps p.tables e below (s₁.setTop (mkF m 0 #[.val (.ref a1), .val (.int (4 : Int32)), .unset, .unset] [])) _
    refine XS.iloadN X0.here hx rfl (hb hby d4_0) rfl ?_
    show Steps p.tables e below (s₁.setTop (mkF m 1 #[.val (.ref a1), .val (.int (4 : Int32)), .unset, .unset] [(.int (4 : Int32))])) _
    refine XS.iconst X0.here hx rfl (hb hby d4_1) ?_
    show Steps p.tables e below (s₁.setTop (mkF m 2 #[.val (.ref a1), .val (.int (4 : Int32)), .unset, .unset] [(.int (4 : Int32)), (.int (4 : Int32))])) _
    refine XS.iadd X0.here hx rfl (hb hby d4_2) rfl ?_
    show Steps p.tables e below (s₁.setTop (mkF m 3 #[.val (.ref a1), .val (.int (4 : Int32)), .unset, .unset] [(.int ((4 : Int32) + (4 : Int32)))])) _
    refine XS.aloadN X0.here hx rfl (hb hby d4_3) rfl rfl ?_
    show Steps p.tables e below (s₁.setTop (mkF m 4 #[.val (.ref a1), .val (.int (4 : Int32)), .unset, .unset] [(.ref a1), (.int ((4 : Int32) + (4 : Int32)))])) _
    refine X0.arraylength hx (by rw [e0]; exact Ar_q1.1) (State.isArrayOf_alike hZ.alike Ar_q1.2.1) (g := (mkF m 4 #[.val (.ref a1), .val (.int (4 : Int32)), .unset, .unset] [(.ref a1), (.int ((4 : Int32) + (4 : Int32)))])) rfl rfl (hb hby d4_4) _ ?_
    rw [len_of S_q1 Nn_q1]
    show Steps p.tables e below (s₁.setTop (mkF m 5 #[.val (.ref a1), .val (.int (4 : Int32)), .unset, .unset] [(.int (8 : Int32)), (.int ((4 : Int32) + (4 : Int32)))])) _
    refine XS.icmpNo X0.here hx rfl (hb hby d4_5) rfl (flt (by decide : ¬ ((8 : Int32) < ((4 : Int32) + (4 : Int32))))).2.2.1 ?_
    show Steps p.tables e below (s₁.setTop (mkF m 8 #[.val (.ref a1), .val (.int (4 : Int32)), .unset, .unset] [])) _
    refine XS.aloadN X0.here hx rfl (hb hby d4_8) rfl rfl ?_
    show Steps p.tables e below (s₁.setTop (mkF m 9 #[.val (.ref a1), .val (.int (4 : Int32)), .unset, .unset] [(.ref a1)])) _
    refine XS.iloadN X0.here hx rfl (hb hby d4_9) rfl ?_
    show Steps p.tables e below (s₁.setTop (mkF m 10 #[.val (.ref a1), .val (.int (4 : Int32)), .unset, .unset] [(.int (4 : Int32)), (.ref a1)])) _
    refine XS.iconst X0.here hx rfl (hb hby d4_10) ?_
    show Steps p.tables e below (s₁.setTop (mkF m 11 #[.val (.ref a1), .val (.int (4 : Int32)), .unset, .unset] [(.int (1 : Int32)), (.int (4 : Int32)), (.ref a1)])) _
    refine XS.iadd X0.here hx rfl (hb hby d4_11) rfl ?_
    show Steps p.tables e below (s₁.setTop (mkF m 12 #[.val (.ref a1), .val (.int (4 : Int32)), .unset, .unset] [(.int ((4 : Int32) + (1 : Int32))), (.ref a1)])) _
    refine X0.baloadBytes hx (j := ((4 : Int32) + (1 : Int32))) (v := (.int (120 : Int32))) (by rw [e0]; exact Ar_q2.1) (State.isArrayOf_alike hZ.alike Ar_q2.2.1) Ar_q2.2.2 hin_q2 hat_q2 (g := (mkF m 12 #[.val (.ref a1), .val (.int (4 : Int32)), .unset, .unset] [(.int ((4 : Int32) + (1 : Int32))), (.ref a1)])) rfl rfl (hb hby d4_12) _ ?_
    show Steps p.tables e below (s₁.setTop (mkF m 13 #[.val (.ref a1), .val (.int (4 : Int32)), .unset, .unset] [(.int (120 : Int32))])) _
    refine XS.bipush X0.here hx rfl (hb hby d4_13) ?_
    show Steps p.tables e below (s₁.setTop (mkF m 15 #[.val (.ref a1), .val (.int (4 : Int32)), .unset, .unset] [(.int (120 : Int32)), (.int (120 : Int32))])) _
    refine XS.icmpNo X0.here hx rfl (hb hby d4_15) rfl (teq (by decide : (120 : Int32) = (120 : Int32))).2 ?_
    show Steps p.tables e below (s₁.setTop (mkF m 18 #[.val (.ref a1), .val (.int (4 : Int32)), .unset, .unset] [])) _
    refine XS.aloadN X0.here hx rfl (hb hby d4_18) rfl rfl ?_
    show Steps p.tables e below (s₁.setTop (mkF m 19 #[.val (.ref a1), .val (.int (4 : Int32)), .unset, .unset] [(.ref a1)])) _
    refine XS.iloadN X0.here hx rfl (hb hby d4_19) rfl ?_
    show Steps p.tables e below (s₁.setTop (mkF m 20 #[.val (.ref a1), .val (.int (4 : Int32)), .unset, .unset] [(.int (4 : Int32)), (.ref a1)])) _
    refine XS.iconst X0.here hx rfl (hb hby d4_20) ?_
    show Steps p.tables e below (s₁.setTop (mkF m 21 #[.val (.ref a1), .val (.int (4 : Int32)), .unset, .unset] [(.int (2 : Int32)), (.int (4 : Int32)), (.ref a1)])) _
    refine XS.iadd X0.here hx rfl (hb hby d4_21) rfl ?_
    show Steps p.tables e below (s₁.setTop (mkF m 22 #[.val (.ref a1), .val (.int (4 : Int32)), .unset, .unset] [(.int ((4 : Int32) + (2 : Int32))), (.ref a1)])) _
    refine X0.baloadBytes hx (j := ((4 : Int32) + (2 : Int32))) (v := (.int x)) (by rw [e0]; exact Ar_q3.1) (State.isArrayOf_alike hZ.alike Ar_q3.2.1) Ar_q3.2.2 hin_q3 hat_q3 (g := (mkF m 22 #[.val (.ref a1), .val (.int (4 : Int32)), .unset, .unset] [(.int ((4 : Int32) + (2 : Int32))), (.ref a1)])) rfl rfl (hb hby d4_22) _ ?_
    show Steps p.tables e below (s₁.setTop (mkF m 23 #[.val (.ref a1), .val (.int (4 : Int32)), .unset, .unset] [(.int x)])) _
    refine st_q4 _ ?_
    show Steps p.tables e below (T_q4.setTop (mkF m 26 #[.val (.ref a1), .val (.int (4 : Int32)), .unset, .unset] [(.int (F5_0 x))])) _
    refine XS.istoreN X_q4.here hx rfl (hb hby d4_26) rfl (l' := #[.val (.ref a1), .val (.int (4 : Int32)), .val (.int (F5_0 x)), .unset]) rfl ?_
    show Steps p.tables e below (T_q4.setTop (mkF m 27 #[.val (.ref a1), .val (.int (4 : Int32)), .val (.int (F5_0 x)), .unset] [])) _
    refine XS.aloadN X_q4.here hx rfl (hb hby d4_27) rfl rfl ?_
    show Steps p.tables e below (T_q4.setTop (mkF m 28 #[.val (.ref a1), .val (.int (4 : Int32)), .val (.int (F5_0 x)), .unset] [(.ref a1)])) _
    refine XS.iloadN X_q4.here hx rfl (hb hby d4_28) rfl ?_
    show Steps p.tables e below (T_q4.setTop (mkF m 29 #[.val (.ref a1), .val (.int (4 : Int32)), .val (.int (F5_0 x)), .unset] [(.int (4 : Int32)), (.ref a1)])) _
    refine XS.iconst X_q4.here hx rfl (hb hby d4_29) ?_
    show Steps p.tables e below (T_q4.setTop (mkF m 30 #[.val (.ref a1), .val (.int (4 : Int32)), .val (.int (F5_0 x)), .unset] [(.int (3 : Int32)), (.int (4 : Int32)), (.ref a1)])) _
    refine XS.iadd X_q4.here hx rfl (hb hby d4_30) rfl ?_
    show Steps p.tables e below (T_q4.setTop (mkF m 31 #[.val (.ref a1), .val (.int (4 : Int32)), .val (.int (F5_0 x)), .unset] [(.int ((4 : Int32) + (3 : Int32))), (.ref a1)])) _
    refine X_q4.baloadBytes hx (j := ((4 : Int32) + (3 : Int32))) (v := (.int y)) (by exact Ar_q5.1) (State.isArrayOf_alike hZ.alike Ar_q5.2.1) Ar_q5.2.2 hin_q5 hat_q5 (g := (mkF m 31 #[.val (.ref a1), .val (.int (4 : Int32)), .val (.int (F5_0 x)), .unset] [(.int ((4 : Int32) + (3 : Int32))), (.ref a1)])) rfl rfl (hb hby d4_31) _ ?_
    show Steps p.tables e below (T_q4.setTop (mkF m 32 #[.val (.ref a1), .val (.int (4 : Int32)), .val (.int (F5_0 x)), .unset] [(.int y)])) _
    refine st_q6 _ ?_
    show Steps p.tables e below (T_q6.setTop (mkF m 35 #[.val (.ref a1), .val (.int (4 : Int32)), .val (.int (F5_0 x)), .unset] [(.int (F5_0 y))])) _
    refine XS.istoreN X_q6.here hx rfl (hb hby d4_35) rfl (l' := #[.val (.ref a1), .val (.int (4 : Int32)), .val (.int (F5_0 x)), .val (.int (F5_0 y))]) rfl ?_
    show Steps p.tables e below (T_q6.setTop (mkF m 36 #[.val (.ref a1), .val (.int (4 : Int32)), .val (.int (F5_0 x)), .val (.int (F5_0 y))] [])) _
    refine XS.iloadN X_q6.here hx rfl (hb hby d4_36) rfl ?_
    show Steps p.tables e below (T_q6.setTop (mkF m 37 #[.val (.ref a1), .val (.int (4 : Int32)), .val (.int (F5_0 x)), .val (.int (F5_0 y))] [(.int (F5_0 x))])) _
    refine XS.ifNo X_q6.here hx rfl (hb hby d4_37) rfl ((if0 _ _).trans (flt hc_q7).1) ?_
    show Steps p.tables e below (T_q6.setTop (mkF m 40 #[.val (.ref a1), .val (.int (4 : Int32)), .val (.int (F5_0 x)), .val (.int (F5_0 y))] [])) _
    refine XS.iloadN X_q6.here hx rfl (hb hby d4_40) rfl ?_
    show Steps p.tables e below (T_q6.setTop (mkF m 41 #[.val (.ref a1), .val (.int (4 : Int32)), .val (.int (F5_0 x)), .val (.int (F5_0 y))] [(.int (F5_0 y))])) _
    refine XS.ifNo X_q6.here hx rfl (hb hby d4_41) rfl ((if0 _ _).trans (flt hc_q8).1) ?_
    show Steps p.tables e below (T_q6.setTop (mkF m 44 #[.val (.ref a1), .val (.int (4 : Int32)), .val (.int (F5_0 x)), .val (.int (F5_0 y))] [])) _
    refine XS.iloadN X_q6.here hx rfl (hb hby d4_44) rfl ?_
    show Steps p.tables e below (T_q6.setTop (mkF m 45 #[.val (.ref a1), .val (.int (4 : Int32)), .val (.int (F5_0 x)), .val (.int (F5_0 y))] [(.int (F5_0 x))])) _
    refine XS.iconst X_q6.here hx rfl (hb hby d4_45) ?_
    show Steps p.tables e below (T_q6.setTop (mkF m 46 #[.val (.ref a1), .val (.int (4 : Int32)), .val (.int (F5_0 x)), .val (.int (F5_0 y))] [(.int (4 : Int32)), (.int (F5_0 x))])) _
    refine XS.ishl X_q6.here hx rfl (hb hby d4_46) rfl ?_
    show Steps p.tables e below (T_q6.setTop (mkF m 47 #[.val (.ref a1), .val (.int (4 : Int32)), .val (.int (F5_0 x)), .val (.int (F5_0 y))] [(.int ((F5_0 x) <<< ((4 : Int32) &&& 31)))])) _
    refine XS.iloadN X_q6.here hx rfl (hb hby d4_47) rfl ?_
    show Steps p.tables e below (T_q6.setTop (mkF m 48 #[.val (.ref a1), .val (.int (4 : Int32)), .val (.int (F5_0 x)), .val (.int (F5_0 y))] [(.int (F5_0 y)), (.int ((F5_0 x) <<< ((4 : Int32) &&& 31)))])) _
    refine XS.ior X_q6.here hx rfl (hb hby d4_48) rfl ?_
    show Steps p.tables e below (T_q6.setTop (mkF m 49 #[.val (.ref a1), .val (.int (4 : Int32)), .val (.int (F5_0 x)), .val (.int (F5_0 y))] [(.int (((F5_0 x) <<< ((4 : Int32) &&& 31)) ||| (F5_0 y)))])) _
    refine XS.i2b X_q6.here hx rfl (hb hby d4_49) rfl ?_
    show Steps p.tables e below (T_q6.setTop (mkF m 50 #[.val (.ref a1), .val (.int (4 : Int32)), .val (.int (F5_0 x)), .val (.int (F5_0 y))] [(.int ((((F5_0 x) <<< ((4 : Int32) &&& 31)) ||| (F5_0 y)).toInt8.toInt32))])) _
    exact retN X_q6 hx (t := .byte) Bd.returns (by simp) (hb hby d4_50) hr
  · show Q_rm4_8_4 Z a1 k1 u0 u1 u2 u3 x y h0 n0 _ T_q6.heap _
    exact ⟨rfl, N_q6, by rw [eq_q6, eq_q4]⟩
theorem d6_0 : decode jdk_65_method_121_code 0 = .ok (.iload_n 1, 1) := by decide +kernel
theorem d6_1 : decode jdk_65_method_121_code 1 = .ok (.aload_n 0, 1) := by decide +kernel
theorem d6_2 : decode jdk_65_method_121_code 2 = .ok (.arraylength, 1) := by decide +kernel
theorem d6_3 : decode jdk_65_method_121_code 3 = .ok (.if_icmp .ne 11, 3) := by decide +kernel
theorem d6_6 : decode jdk_65_method_121_code 6 = .ok (.aload_n 0, 1) := by decide +kernel
theorem d6_7 : decode jdk_65_method_121_code 7 = .ok (.invokevirtual 310, 3) := by decide +kernel
theorem d6_10 : decode jdk_65_method_121_code 10 = .ok (.checkcast 311, 3) := by decide +kernel
theorem d6_13 : decode jdk_65_method_121_code 13 = .ok (.areturn, 1) := by decide +kernel
theorem pn_6 : plainName "java/util/Arrays" = true := by first | (simp [plainName, overriddenIn]; done) | decide +kernel
theorem ef_6 (m : MethodId) (x0 : Addr) (x1 : Int32) : entryFrame m #[(.ref x0), (.int x1)] 3 = mkF m 0 #[.val (.ref x0), .val (.int x1), .unset] [] := by first | (simp [entryFrame, mkF, argsToLocals, Value.category]; done) | rfl
def Q_rm6_2 (Z : State) (a1 : Addr) (k1 : ClassId) (u0 : Value) (u1 : Value) (h0 : Heap) (n0 : Nat) (v : Option Value) (h : Heap) (L : List Loc) : Prop := ∃ (r : Addr) (k : ClassId), v = some (.ref r) ∧ Fr n0 L ∧ Keep h0 h [] ∧ n0 ≤ r ∧ h0.size ≤ r ∧ Arv Z h r k .byte (2 : Int32) [u0, u1] (.int (0 : Int32))
set_option maxRecDepth 65536 in
set_option maxHeartbeats 40000000 in
theorem rm6_2 (l : Launch) (Z : State) (a0 : Array Value) (hw : ∀ d ∈ tables_1, d.before a0 Z = true) (ws : List Jvm.Cond) (a1 : Addr) (k1 : ClassId) (u0 : Value) (u1 : Value) (h0 : Heap) (n0 : Nat) (Z0 : n0 ≤ h0.size) (V_a1 : Arv Z h0 a1 k1 .byte (2 : Int32) [u0, u1] (.int (0 : Int32))) (EX_a1 : Exa Z h0 a1 "[B") :
    MetFree l (⟨"java/util/Arrays", "copyOf", "([BI)[B"⟩ : MethodName) (head1 (Jvm.Cond.code (⟨"java/util/Arrays", "copyOf", "([BI)[B"⟩ : MethodName) jdk_65_method_121_code 3 (some (.array .byte)) :: ws) ({ frames := 2, cells := 1, slots := 2, locals := 60 } : Room)) (fun a U => a = #[(.ref a1), (.int (2 : Int32))] ∧ Z.Warmed39 U.vm ∧ U.heap = h0) (fun _ _ _ _ _ => True) (fun _ U o U' => ∃ v L, o = .returned v ∧ Q_rm6_2 Z a1 k1 u0 u1 h0 n0 v U'.heap L ∧ FrameEnd U o U' L ({ frames := 2, cells := 1, slots := 2, locals := 60 } : Room).cells ({ frames := 2, cells := 1, slots := 2, locals := 60 } : Room).slots) := by
  refine MetFree.of_bodySF (plainFor_of_name pn_6) hisR ?_
  intro p e s m args below meth c s₁ Bd hml0 hP hK
  obtain ⟨rfl, hZ, hh⟩ := hP
  have hx := Bd.exec
  have hby := Bd.bytes
  have hml : c.maxLocals = 3 := hml0
  have hown : s.vm.findClass "java/util/Arrays" = some m.cls := findClass_of_methodNamed Bd.named
  have hnm := (name_of_methodNamed Bd.named Bd.method).1
  have X0 : Stand p l e ({ frames := 2, cells := 1, slots := 2, locals := 60 } : Room) s m #[(.ref a1), (.int (2 : Int32))] below meth c s₁ [] 0 0 := Stand.of_body Bd
  have e0 : s₁.heap = h0 := by rw [← hh, Bd.state]; rfl
  have N0 := Fr.nil n0
  have pre0 : ∀ t, Steps p.tables e below (s₁.setTop (mkF m 0 #[.val (.ref a1), .val (.int (2 : Int32)), .unset] [])) t → Steps p.tables e below (s₁.setTop (entryFrame m #[(.ref a1), (.int (2 : Int32))] 3)) t := fun t k => castTop (ef_6 m a1 (2 : Int32)) k
  have K0 : Keep h0 h0 [] := Keep.refl _ _
  obtain ⟨cl_q1, Ar_q1, qk_q1, S_q1, Nn_q1, H_q1, G_q1⟩ := id V_a1
  obtain ⟨T_q2, h_q2, X_q2, e_q2, E_q2, A_q2, EX_q2, st_q2⟩ := cloneH X0 hx hZ hown (hw _ (List.mem_of_getElem? (i := 30) rfl)) (hw _ (List.mem_of_getElem? (i := 31) rfl)) (hw _ (List.mem_of_getElem? (i := 35) rfl)) (hw _ (List.mem_of_getElem? (i := 33) rfl)) (hw _ (List.mem_of_getElem? (i := 34) rfl)) (hw _ (List.mem_of_getElem? (i := 36) rfl)) e0 V_a1.arh EX_a1 (g := (mkF m 7 #[.val (.ref a1), .val (.int (2 : Int32)), .unset] [(.ref a1)])) rfl (by rw [hml]; rfl) rfl (hb hby d6_7) (by decide) (W := 0) (cap := 2) (by show 2 * 0 + _ ≤ _; exact Nat.le_of_eq rfl) (by decide) (by decide) (by decide) (by decide)
  obtain ⟨b_q2, g_q2⟩ : ∃ z, z = h0.size := ⟨_, rfl⟩
  rw [← g_q2] at A_q2 EX_q2 st_q2
  have ne_a1_b_q2 : a1 ≠ b_q2 := Nat.ne_of_lt (Nat.lt_of_lt_of_le V_a1.lt (Nat.le_of_eq g_q2.symm))
  have ge_b_q2 : n0 ≤ b_q2 := Nat.le_trans (Nat.le_trans Z0 K0.1) (Nat.le_of_eq g_q2.symm)
  have sz_b_q2 : h0.size ≤ b_q2 := Nat.le_trans K0.1 (Nat.le_of_eq g_q2.symm)
  have K_q2 : Keep h0 h_q2 [] := K0.ext E_q2
  have V_a1__q2 := V_a1.ext E_q2
  have EX_a1__q2 := EX_a1.ext E_q2
  have V_b_q2 : Arv Z h_q2 b_q2 k1 .byte (2 : Int32) [u0, u1] (.int (0 : Int32)) := A_q2
  obtain ⟨T_q3, X_q3, e_q3, st_q3⟩ := castY X_q2 hx hZ hown (hw _ (List.mem_of_getElem? (i := 37) rfl)) e_q2 (Ins.self EX_q2) (g := (mkF m 10 #[.val (.ref a1), .val (.int (2 : Int32)), .unset] [(.ref b_q2)])) rfl rfl (hb hby d6_10)
  obtain ⟨fs, hr, hrun, hended, hW, hsame⟩ := X_q3.leave (v := some (.ref b_q2)) (fun h => by rw [Bd.returns] at h; cases h) Bd.notSynchronized
  refine ⟨_, _, pre0 _ ?_, hrun, hended, _, _, rfl, ?_, ⟨_, rfl⟩, hW, hsame.mono (by decide) (by decide)⟩
  · show Steps p.tables e below (s₁.setTop (mkF m 0 #[.val (.ref a1), .val (.int (2 : Int32)), .unset] [])) _
    refine XS.iloadN X0.here hx rfl (hb hby d6_0) rfl ?_
    show Steps p.tables e below (s₁.setTop (mkF m 1 #[.val (.ref a1), .val (.int (2 : Int32)), .unset] [(.int (2 : Int32))])) _
    refine XS.aloadN X0.here hx rfl (hb hby d6_1) rfl rfl ?_
    show Steps p.tables e below (s₁.setTop (mkF m 2 #[.val (.ref a1), .val (.int (2 : Int32)), .unset] [(.ref a1), (.int (2 : Int32))])) _
    refine X0.arraylength hx (by rw [e0]; exact Ar_q1.1) (State.isArrayOf_alike hZ.alike Ar_q1.2.1) (g := (mkF m 2 #[.val (.ref a1), .val (.int (2 : Int32)), .unset] [(.ref a1), (.int (2 : Int32))])) rfl rfl (hb hby d6_2) _ ?_
    rw [len_of S_q1 Nn_q1]
    show Steps p.tables e below (s₁.setTop (mkF m 3 #[.val (.ref a1), .val (.int (2 : Int32)), .unset] [(.int (2 : Int32)), (.int (2 : Int32))])) _
    refine XS.icmpNo X0.here hx rfl (hb hby d6_3) rfl (teq (by decide : (2 : Int32) = (2 : Int32))).2 ?_
    show Steps p.tables e below (s₁.setTop (mkF m 6 #[.val (.ref a1), .val (.int (2 : Int32)), .unset] [])) _
    refine XS.aloadN X0.here hx rfl (hb hby d6_6) rfl rfl ?_
    show Steps p.tables e below (s₁.setTop (mkF m 7 #[.val (.ref a1), .val (.int (2 : Int32)), .unset] [(.ref a1)])) _
    refine st_q2 _ ?_
    show Steps p.tables e below (T_q2.setTop (mkF m 10 #[.val (.ref a1), .val (.int (2 : Int32)), .unset] [(.ref b_q2)])) _
    refine st_q3 _ ?_
    show Steps p.tables e below (T_q3.setTop (mkF m 13 #[.val (.ref a1), .val (.int (2 : Int32)), .unset] [(.ref b_q2)])) _
    jvm_step X_q3.here [X_q3.here.top, hx, (hb hby d6_13), X_q3.method', Bd.returns, Value.isRef, FieldType.isReference]
    first | (intro acts; rw [hr _ acts rfl rfl rfl]) | rw [hr _ _ rfl rfl rfl]
    exact Steps.refl _
  · show Q_rm6_2 Z a1 k1 u0 u1 h0 n0 _ T_q3.heap _
    rw [e_q3]
    exact ⟨b_q2, k1, rfl, N0, K_q2, ge_b_q2, sz_b_q2, V_b_q2⟩
theorem d6_14 : decode jdk_65_method_121_code 14 = .ok (.iload_n 1, 1) := by decide +kernel
theorem d6_15 : decode jdk_65_method_121_code 15 = .ok (.newarray .byte, 2) := by decide +kernel
theorem d6_17 : decode jdk_65_method_121_code 17 = .ok (.astore_n 2, 1) := by decide +kernel
theorem d6_18 : decode jdk_65_method_121_code 18 = .ok (.aload_n 0, 1) := by decide +kernel
theorem d6_19 : decode jdk_65_method_121_code 19 = .ok (.iconst 0, 1) := by decide +kernel
theorem d6_20 : decode jdk_65_method_121_code 20 = .ok (.aload_n 2, 1) := by decide +kernel
theorem d6_21 : decode jdk_65_method_121_code 21 = .ok (.iconst 0, 1) := by decide +kernel
theorem d6_22 : decode jdk_65_method_121_code 22 = .ok (.aload_n 0, 1) := by decide +kernel
theorem d6_23 : decode jdk_65_method_121_code 23 = .ok (.arraylength, 1) := by decide +kernel
theorem d6_24 : decode jdk_65_method_121_code 24 = .ok (.iload_n 1, 1) := by decide +kernel
theorem d6_25 : decode jdk_65_method_121_code 25 = .ok (.invokestatic 304, 3) := by decide +kernel
theorem d6_28 : decode jdk_65_method_121_code 28 = .ok (.invokestatic 150, 3) := by decide +kernel
theorem d6_31 : decode jdk_65_method_121_code 31 = .ok (.aload_n 2, 1) := by decide +kernel
theorem d6_32 : decode jdk_65_method_121_code 32 = .ok (.areturn, 1) := by decide +kernel
theorem pd__II_I : parseMethodDescriptor "(II)I" = some ⟨[.int, .int], some .int⟩ := by decide +kernel
def Q_rm6_5 (Z : State) (a1 : Addr) (k1 : ClassId) (u0 : Value) (u1 : Value) (h0 : Heap) (n0 : Nat) (v : Option Value) (h : Heap) (L : List Loc) : Prop := ∃ (r : Addr) (k : ClassId), v = some (.ref r) ∧ Fr n0 L ∧ Keep h0 h [] ∧ n0 ≤ r ∧ h0.size ≤ r ∧ Arv Z h r k .byte (2 : Int32) [u0, u1] (.int (0 : Int32))
set_option maxRecDepth 65536 in
set_option maxHeartbeats 40000000 in
theorem rm6_5 (l : Launch) (Z : State) (a0 : Array Value) (hw : ∀ d ∈ tables_1, d.before a0 Z = true) (ws : List Jvm.Cond) (a1 : Addr) (k1 : ClassId) (u0 : Value) (u1 : Value) (h0 : Heap) (n0 : Nat) (Z0 : n0 ≤ h0.size) (V_a1 : Arv Z h0 a1 k1 .byte (5 : Int32) [u0, u1] (.int (0 : Int32))) (EX_a1 : Exa Z h0 a1 "[B") :
    MetFree l (⟨"java/util/Arrays", "copyOf", "([BI)[B"⟩ : MethodName) (head1 (Jvm.Cond.code (⟨"java/util/Arrays", "copyOf", "([BI)[B"⟩ : MethodName) jdk_65_method_121_code 3 (some (.array .byte)) :: ws) ({ frames := 2, cells := 1, slots := 2, locals := 60 } : Room)) (fun a U => a = #[(.ref a1), (.int (2 : Int32))] ∧ Z.Warmed39 U.vm ∧ U.heap = h0) (fun _ _ _ _ _ => True) (fun _ U o U' => ∃ v L, o = .returned v ∧ Q_rm6_5 Z a1 k1 u0 u1 h0 n0 v U'.heap L ∧ FrameEnd U o U' L ({ frames := 2, cells := 1, slots := 2, locals := 60 } : Room).cells ({ frames := 2, cells := 1, slots := 2, locals := 60 } : Room).slots) := by
  refine MetFree.of_bodySF (plainFor_of_name pn_6) hisR ?_
  intro p e s m args below meth c s₁ Bd hml0 hP hK
  obtain ⟨rfl, hZ, hh⟩ := hP
  have hx := Bd.exec
  have hby := Bd.bytes
  have hml : c.maxLocals = 3 := hml0
  have hown : s.vm.findClass "java/util/Arrays" = some m.cls := findClass_of_methodNamed Bd.named
  have hnm := (name_of_methodNamed Bd.named Bd.method).1
  have X0 : Stand p l e ({ frames := 2, cells := 1, slots := 2, locals := 60 } : Room) s m #[(.ref a1), (.int (2 : Int32))] below meth c s₁ [] 0 0 := Stand.of_body Bd
  have e0 : s₁.heap = h0 := by rw [← hh, Bd.state]; rfl
  have N0 := Fr.nil n0
  have pre0 : ∀ t, Steps p.tables e below (s₁.setTop (mkF m 0 #[.val (.ref a1), .val (.int (2 : Int32)), .unset] [])) t → Steps p.tables e below (s₁.setTop (entryFrame m #[(.ref a1), (.int (2 : Int32))] 3)) t := fun t k => castTop (ef_6 m a1 (2 : Int32)) k
  have K0 : Keep h0 h0 [] := Keep.refl _ _
  obtain ⟨cl_q1, Ar_q1, qk_q1, S_q1, Nn_q1, H_q1, G_q1⟩ := id V_a1
  obtain ⟨T_q2, h_q2, k_q2, X_q2, e_q2, E_q2, A_q2, EX_q2, st_q2⟩ := newPE X0 hx hZ (hw _ (List.mem_of_getElem? (i := 0) rfl)) e0 (g := (mkF m 15 #[.val (.ref a1), .val (.int (2 : Int32)), .unset] [(.int (2 : Int32))])) rfl (hb hby d6_15) rfl (by decide) (cap := 2) (by decide) (by decide) (by decide) (by decide) (ad := "[B") (by decide)
  obtain ⟨b_q2, g_q2⟩ : ∃ z, z = h0.size := ⟨_, rfl⟩
  rw [← g_q2] at A_q2 EX_q2 st_q2
  have ne_a1_b_q2 : a1 ≠ b_q2 := Nat.ne_of_lt (Nat.lt_of_lt_of_le V_a1.lt (Nat.le_of_eq g_q2.symm))
  have ge_b_q2 : n0 ≤ b_q2 := Nat.le_trans (Nat.le_trans Z0 K0.1) (Nat.le_of_eq g_q2.symm)
  have sz_b_q2 : h0.size ≤ b_q2 := Nat.le_trans K0.1 (Nat.le_of_eq g_q2.symm)
  have K_q2 : Keep h0 h_q2 [] := K0.ext E_q2
  have V_a1__q2 := V_a1.ext E_q2
  have EX_a1__q2 := EX_a1.ext E_q2
  have V_b_q2 : Arv Z h_q2 b_q2 k_q2 .byte (2 : Int32) [(.int (0 : Int32)), (.int (0 : Int32))] (.int (0 : Int32)) := (Arv.new A_q2 (by decide)).pad (pad_rep [] (.int (0 : Int32)) 2)
  obtain ⟨cl_q3, Ar_q3, qk_q3, S_q3, Nn_q3, H_q3, G_q3⟩ := id V_a1__q2
  obtain ⟨_, _, ⟨T_q4, L_q4, k_q4, n_q4⟩, -, X_q4, ⟨Lc_q4, hQ_q4, l_q4, y_q4, z_q4⟩, st_q4⟩ := Jvm.LawKit.callS X_q2 hx (y := (⟨"java/lang/Math", "min", "(II)I"⟩ : MethodName)) hown (mvT hZ (hw _ (List.mem_of_getElem? (i := 22) rfl))) (mvT hZ (hw _ (List.mem_of_getElem? (i := 23) rfl))) (mvT hZ (hw _ (List.mem_of_getElem? (i := 24) rfl))) (mvT hZ (hw _ (List.mem_of_getElem? (i := 25) rfl))) (by decide) (backOf (W := 4) (rm7 l Z a0 hw [] (5 : Int32) (2 : Int32) h_q2 n0 (Nat.le_trans Z0 K_q2.1)) hZ (hw _ (List.mem_of_getElem? (i := 25) rfl)) (hw _ (List.mem_of_getElem? (i := 24) rfl)) (by decide) (by decide)) (g := (mkF m 25 #[.val (.ref a1), .val (.int (2 : Int32)), .val (.ref b_q2)] [(.int (2 : Int32)), (.int (5 : Int32)), (.int (0 : Int32)), (.ref b_q2), (.int (0 : Int32)), (.ref a1)])) rfl (by rw [hml]; rfl) (argsL := [(.int (5 : Int32)), (.int (2 : Int32))]) (rest := [(.int (0 : Int32)), (.ref b_q2), (.int (0 : Int32)), (.ref a1)]) (lenOf pd__II_I rfl) rfl (by show 2 * 0 + _ ≤ _; exact Nat.le_of_eq rfl) (hb hby d6_25) (fun _ _ => ⟨rfl, e_q2, (by decide : 1 + 0 ≤ _), (by decide : 2 + 0 ≤ _)⟩)
  dsimp only [Pt.U, Pt.locs, Pt.cells, Pt.slots] at X_q4 l_q4 y_q4 z_q4 st_q4 hQ_q4
  subst l_q4 y_q4 z_q4
  obtain ⟨rfl, Nq_q4, eq_q4⟩ := hQ_q4
  have Kq_q4 : Keep h_q2 T_q4.heap [] := by rw [eq_q4]; exact Keep.refl _ _
  have N_q4 := Fr.app N0 Nq_q4
  have V_a1__q4 := V_a1__q2.keep Kq_q4 List.not_mem_nil
  have EX_a1__q4 := EX_a1__q2.keep Kq_q4
  have V_b_q2__q4 := V_b_q2.keep Kq_q4 List.not_mem_nil
  have EX_q2__q4 := EX_q2.keep Kq_q4
  have K_q4 : Keep h0 T_q4.heap [] := K_q2.trans Kq_q4 (fun x hx => nomatch hx)
  obtain ⟨T_q5, h_q5, L_q5, X_q5, e_q5, N_q5, Kq_q5, V_q5, st_q5⟩ := cpA X_q4 hx hZ hown (hw _ (List.mem_of_getElem? (i := 26) rfl)) (hw _ (List.mem_of_getElem? (i := 29) rfl)) (hw _ (List.mem_of_getElem? (i := 27) rfl)) (hw _ (List.mem_of_getElem? (i := 28) rfl)) rfl V_a1__q4 V_b_q2__q4 (us := [u0, u1]) (Or.inl ⟨rfl, rfl⟩) (by decide) (by decide) (by decide) (by decide) (by decide) rfl (Nat.le_of_ble_eq_true rfl) N_q4 ge_b_q2 (g := (mkF m 28 #[.val (.ref a1), .val (.int (2 : Int32)), .val (.ref b_q2)] [(.int (F7_0 (5 : Int32) (2 : Int32))), (.int (0 : Int32)), (.ref b_q2), (.int (0 : Int32)), (.ref a1)])) rfl (by rw [hml]; rfl) rfl (hb hby d6_28) (by decide) (W := 0) (by show 2 * 0 + _ ≤ _; exact Nat.le_of_eq rfl) (by decide)
  have V_a1__q5 := V_a1__q4.keep Kq_q5 (fun q => ne_a1_b_q2 (List.mem_singleton.mp q))
  have EX_a1__q5 := EX_a1__q4.keep Kq_q5
  have EX_q2__q5 := EX_q2__q4.keep Kq_q5
  have V_b_q2__q5 : Arv Z h_q5 b_q2 k_q2 .byte (2 : Int32) [u0, u1] (.int (0 : Int32)) := V_q5
  have K_q5 : Keep h0 h_q5 [] := K_q4.trans Kq_q5 (fun x hx => Or.inr (by cases List.mem_singleton.mp hx; exact sz_b_q2))
  obtain ⟨fs, hr, hrun, hended, hW, hsame⟩ := X_q5.leave (v := some (.ref b_q2)) (fun h => by rw [Bd.returns] at h; cases h) Bd.notSynchronized
  refine ⟨_, _, pre0 _ ?_, hrun, hended, _, _, rfl, ?_, ⟨_, rfl⟩, hW, hsame.mono (by decide) (by decide)⟩
  · show Steps p.tables e below (s₁.setTop (mkF m 0 #[.val (.ref a1), .val (.int (2 : Int32)), .unset] [])) _
    refine XS.iloadN X0.here hx rfl (hb hby d6_0) rfl ?_
    show Steps p.tables e below (s₁.setTop (mkF m 1 #[.val (.ref a1), .val (.int (2 : Int32)), .unset] [(.int (2 : Int32))])) _
    refine XS.aloadN X0.here hx rfl (hb hby d6_1) rfl rfl ?_
    show Steps p.tables e below (s₁.setTop (mkF m 2 #[.val (.ref a1), .val (.int (2 : Int32)), .unset] [(.ref a1), (.int (2 : Int32))])) _
    refine X0.arraylength hx (by rw [e0]; exact Ar_q1.1) (State.isArrayOf_alike hZ.alike Ar_q1.2.1) (g := (mkF m 2 #[.val (.ref a1), .val (.int (2 : Int32)), .unset] [(.ref a1), (.int (2 : Int32))])) rfl rfl (hb hby d6_2) _ ?_
    rw [len_of S_q1 Nn_q1]
    show Steps p.tables e below (s₁.setTop (mkF m 3 #[.val (.ref a1), .val (.int (2 : Int32)), .unset] [(.int (5 : Int32)), (.int (2 : Int32))])) _
    refine XS.icmpYes X0.here hx rfl (pc0 := 3) (pc' := 14) rfl (hb hby d6_3) rfl (feq (by decide : ¬ ((2 : Int32) = (5 : Int32)))).2 (by decide) (by decide) ?_
    show Steps p.tables e below (s₁.setTop (mkF m 14 #[.val (.ref a1), .val (.int (2 : Int32)), .unset] [])) _
    refine XS.iloadN X0.here hx rfl (hb hby d6_14) rfl ?_
    show Steps p.tables e below (s₁.setTop (mkF m 15 #[.val (.ref a1), .val (.int (2 : Int32)), .unset] [(.int (2 : Int32))])) _
    refine st_q2 _ ?_
    show Steps p.tables e below (T_q2.setTop (mkF m 17 #[.val (.ref a1), .val (.int (2 : Int32)), .unset] [(.ref b_q2)])) _
    refine XS.astoreN X_q2.here hx rfl (hb hby d6_17) rfl rfl (l' := #[.val (.ref a1), .val (.int (2 : Int32)), .val (.ref b_q2)]) rfl ?_
    show Steps p.tables e below (T_q2.setTop (mkF m 18 #[.val (.ref a1), .val (.int (2 : Int32)), .val (.ref b_q2)] [])) _
    refine XS.aloadN X_q2.here hx rfl (hb hby d6_18) rfl rfl ?_
    show Steps p.tables e below (T_q2.setTop (mkF m 19 #[.val (.ref a1), .val (.int (2 : Int32)), .val (.ref b_q2)] [(.ref a1)])) _
    refine XS.iconst X_q2.here hx rfl (hb hby d6_19) ?_
    show Steps p.tables e below (T_q2.setTop (mkF m 20 #[.val (.ref a1), .val (.int (2 : Int32)), .val (.ref b_q2)] [(.int (0 : Int32)), (.ref a1)])) _
    refine XS.aloadN X_q2.here hx rfl (hb hby d6_20) rfl rfl ?_
    show Steps p.tables e below (T_q2.setTop (mkF m 21 #[.val (.ref a1), .val (.int (2 : Int32)), .val (.ref b_q2)] [(.ref b_q2), (.int (0 : Int32)), (.ref a1)])) _
    refine XS.iconst X_q2.here hx rfl (hb hby d6_21) ?_
    show Steps p.tables e below (T_q2.setTop (mkF m 22 #[.val (.ref a1), .val (.int (2 : Int32)), .val (.ref b_q2)] [(.int (0 : Int32)), (.ref b_q2), (.int (0 : Int32)), (.ref a1)])) _
    refine XS.aloadN X_q2.here hx rfl (hb hby d6_22) rfl rfl ?_
    show Steps p.tables e below (T_q2.setTop (mkF m 23 #[.val (.ref a1), .val (.int (2 : Int32)), .val (.ref b_q2)] [(.ref a1), (.int (0 : Int32)), (.ref b_q2), (.int (0 : Int32)), (.ref a1)])) _
    refine X_q2.arraylength hx (by rw [e_q2]; exact Ar_q3.1) (State.isArrayOf_alike hZ.alike Ar_q3.2.1) (g := (mkF m 23 #[.val (.ref a1), .val (.int (2 : Int32)), .val (.ref b_q2)] [(.ref a1), (.int (0 : Int32)), (.ref b_q2), (.int (0 : Int32)), (.ref a1)])) rfl rfl (hb hby d6_23) _ ?_
    rw [len_of S_q3 Nn_q3]
    show Steps p.tables e below (T_q2.setTop (mkF m 24 #[.val (.ref a1), .val (.int (2 : Int32)), .val (.ref b_q2)] [(.int (5 : Int32)), (.int (0 : Int32)), (.ref b_q2), (.int (0 : Int32)), (.ref a1)])) _
    refine XS.iloadN X_q2.here hx rfl (hb hby d6_24) rfl ?_
    show Steps p.tables e below (T_q2.setTop (mkF m 25 #[.val (.ref a1), .val (.int (2 : Int32)), .val (.ref b_q2)] [(.int (2 : Int32)), (.int (5 : Int32)), (.int (0 : Int32)), (.ref b_q2), (.int (0 : Int32)), (.ref a1)])) _
    refine st_q4 _ ?_
    show Steps p.tables e below (T_q4.setTop (mkF m 28 #[.val (.ref a1), .val (.int (2 : Int32)), .val (.ref b_q2)] [(.int (F7_0 (5 : Int32) (2 : Int32))), (.int (0 : Int32)), (.ref b_q2), (.int (0 : Int32)), (.ref a1)])) _
    refine st_q5 _ ?_
    show Steps p.tables e below (T_q5.setTop (mkF m 31 #[.val (.ref a1), .val (.int (2 : Int32)), .val (.ref b_q2)] [])) _
    refine XS.aloadN X_q5.here hx rfl (hb hby d6_31) rfl rfl ?_
    show Steps p.tables e below (T_q5.setTop (mkF m 32 #[.val (.ref a1), .val (.int (2 : Int32)), .val (.ref b_q2)] [(.ref b_q2)])) _
    jvm_step X_q5.here [X_q5.here.top, hx, (hb hby d6_32), X_q5.method', Bd.returns, Value.isRef, FieldType.isReference]
    first | (intro acts; rw [hr _ acts rfl rfl rfl]) | rw [hr _ _ rfl rfl rfl]
    exact Steps.refl _
  · show Q_rm6_5 Z a1 k1 u0 u1 h0 n0 _ T_q5.heap _
    rw [e_q5]
    exact ⟨b_q2, k_q2, rfl, N_q5, K_q5, ge_b_q2, sz_b_q2, V_b_q2__q5⟩
def Q_rm6_8 (Z : State) (a1 : Addr) (k1 : ClassId) (u0 : Value) (u1 : Value) (h0 : Heap) (n0 : Nat) (v : Option Value) (h : Heap) (L : List Loc) : Prop := ∃ (r : Addr) (k : ClassId), v = some (.ref r) ∧ Fr n0 L ∧ Keep h0 h [] ∧ n0 ≤ r ∧ h0.size ≤ r ∧ Arv Z h r k .byte (2 : Int32) [u0, u1] (.int (0 : Int32))
set_option maxRecDepth 65536 in
set_option maxHeartbeats 40000000 in
theorem rm6_8 (l : Launch) (Z : State) (a0 : Array Value) (hw : ∀ d ∈ tables_1, d.before a0 Z = true) (ws : List Jvm.Cond) (a1 : Addr) (k1 : ClassId) (u0 : Value) (u1 : Value) (h0 : Heap) (n0 : Nat) (Z0 : n0 ≤ h0.size) (V_a1 : Arv Z h0 a1 k1 .byte (8 : Int32) [u0, u1] (.int (0 : Int32))) (EX_a1 : Exa Z h0 a1 "[B") :
    MetFree l (⟨"java/util/Arrays", "copyOf", "([BI)[B"⟩ : MethodName) (head1 (Jvm.Cond.code (⟨"java/util/Arrays", "copyOf", "([BI)[B"⟩ : MethodName) jdk_65_method_121_code 3 (some (.array .byte)) :: ws) ({ frames := 2, cells := 1, slots := 2, locals := 60 } : Room)) (fun a U => a = #[(.ref a1), (.int (2 : Int32))] ∧ Z.Warmed39 U.vm ∧ U.heap = h0) (fun _ _ _ _ _ => True) (fun _ U o U' => ∃ v L, o = .returned v ∧ Q_rm6_8 Z a1 k1 u0 u1 h0 n0 v U'.heap L ∧ FrameEnd U o U' L ({ frames := 2, cells := 1, slots := 2, locals := 60 } : Room).cells ({ frames := 2, cells := 1, slots := 2, locals := 60 } : Room).slots) := by
  refine MetFree.of_bodySF (plainFor_of_name pn_6) hisR ?_
  intro p e s m args below meth c s₁ Bd hml0 hP hK
  obtain ⟨rfl, hZ, hh⟩ := hP
  have hx := Bd.exec
  have hby := Bd.bytes
  have hml : c.maxLocals = 3 := hml0
  have hown : s.vm.findClass "java/util/Arrays" = some m.cls := findClass_of_methodNamed Bd.named
  have hnm := (name_of_methodNamed Bd.named Bd.method).1
  have X0 : Stand p l e ({ frames := 2, cells := 1, slots := 2, locals := 60 } : Room) s m #[(.ref a1), (.int (2 : Int32))] below meth c s₁ [] 0 0 := Stand.of_body Bd
  have e0 : s₁.heap = h0 := by rw [← hh, Bd.state]; rfl
  have N0 := Fr.nil n0
  have pre0 : ∀ t, Steps p.tables e below (s₁.setTop (mkF m 0 #[.val (.ref a1), .val (.int (2 : Int32)), .unset] [])) t → Steps p.tables e below (s₁.setTop (entryFrame m #[(.ref a1), (.int (2 : Int32))] 3)) t := fun t k => castTop (ef_6 m a1 (2 : Int32)) k
  have K0 : Keep h0 h0 [] := Keep.refl _ _
  obtain ⟨cl_q1, Ar_q1, qk_q1, S_q1, Nn_q1, H_q1, G_q1⟩ := id V_a1
  obtain ⟨T_q2, h_q2, k_q2, X_q2, e_q2, E_q2, A_q2, EX_q2, st_q2⟩ := newPE X0 hx hZ (hw _ (List.mem_of_getElem? (i := 0) rfl)) e0 (g := (mkF m 15 #[.val (.ref a1), .val (.int (2 : Int32)), .unset] [(.int (2 : Int32))])) rfl (hb hby d6_15) rfl (by decide) (cap := 2) (by decide) (by decide) (by decide) (by decide) (ad := "[B") (by decide)
  obtain ⟨b_q2, g_q2⟩ : ∃ z, z = h0.size := ⟨_, rfl⟩
  rw [← g_q2] at A_q2 EX_q2 st_q2
  have ne_a1_b_q2 : a1 ≠ b_q2 := Nat.ne_of_lt (Nat.lt_of_lt_of_le V_a1.lt (Nat.le_of_eq g_q2.symm))
  have ge_b_q2 : n0 ≤ b_q2 := Nat.le_trans (Nat.le_trans Z0 K0.1) (Nat.le_of_eq g_q2.symm)
  have sz_b_q2 : h0.size ≤ b_q2 := Nat.le_trans K0.1 (Nat.le_of_eq g_q2.symm)
  have K_q2 : Keep h0 h_q2 [] := K0.ext E_q2
  have V_a1__q2 := V_a1.ext E_q2
  have EX_a1__q2 := EX_a1.ext E_q2
  have V_b_q2 : Arv Z h_q2 b_q2 k_q2 .byte (2 : Int32) [(.int (0 : Int32)), (.int (0 : Int32))] (.int (0 : Int32)) := (Arv.new A_q2 (by decide)).pad (pad_rep [] (.int (0 : Int32)) 2)
  obtain ⟨cl_q3, Ar_q3, qk_q3, S_q3, Nn_q3, H_q3, G_q3⟩ := id V_a1__q2
  obtain ⟨_, _, ⟨T_q4, L_q4, k_q4, n_q4⟩, -, X_q4, ⟨Lc_q4, hQ_q4, l_q4, y_q4, z_q4⟩, st_q4⟩ := Jvm.LawKit.callS X_q2 hx (y := (⟨"java/lang/Math", "min", "(II)I"⟩ : MethodName)) hown (mvT hZ (hw _ (List.mem_of_getElem? (i := 22) rfl))) (mvT hZ (hw _ (List.mem_of_getElem? (i := 23) rfl))) (mvT hZ (hw _ (List.mem_of_getElem? (i := 24) rfl))) (mvT hZ (hw _ (List.mem_of_getElem? (i := 25) rfl))) (by decide) (backOf (W := 4) (rm7 l Z a0 hw [] (8 : Int32) (2 : Int32) h_q2 n0 (Nat.le_trans Z0 K_q2.1)) hZ (hw _ (List.mem_of_getElem? (i := 25) rfl)) (hw _ (List.mem_of_getElem? (i := 24) rfl)) (by decide) (by decide)) (g := (mkF m 25 #[.val (.ref a1), .val (.int (2 : Int32)), .val (.ref b_q2)] [(.int (2 : Int32)), (.int (8 : Int32)), (.int (0 : Int32)), (.ref b_q2), (.int (0 : Int32)), (.ref a1)])) rfl (by rw [hml]; rfl) (argsL := [(.int (8 : Int32)), (.int (2 : Int32))]) (rest := [(.int (0 : Int32)), (.ref b_q2), (.int (0 : Int32)), (.ref a1)]) (lenOf pd__II_I rfl) rfl (by show 2 * 0 + _ ≤ _; exact Nat.le_of_eq rfl) (hb hby d6_25) (fun _ _ => ⟨rfl, e_q2, (by decide : 1 + 0 ≤ _), (by decide : 2 + 0 ≤ _)⟩)
  dsimp only [Pt.U, Pt.locs, Pt.cells, Pt.slots] at X_q4 l_q4 y_q4 z_q4 st_q4 hQ_q4
  subst l_q4 y_q4 z_q4
  obtain ⟨rfl, Nq_q4, eq_q4⟩ := hQ_q4
  have Kq_q4 : Keep h_q2 T_q4.heap [] := by rw [eq_q4]; exact Keep.refl _ _
  have N_q4 := Fr.app N0 Nq_q4
  have V_a1__q4 := V_a1__q2.keep Kq_q4 List.not_mem_nil
  have EX_a1__q4 := EX_a1__q2.keep Kq_q4
  have V_b_q2__q4 := V_b_q2.keep Kq_q4 List.not_mem_nil
  have EX_q2__q4 := EX_q2.keep Kq_q4
  have K_q4 : Keep h0 T_q4.heap [] := K_q2.trans Kq_q4 (fun x hx => nomatch hx)
  obtain ⟨T_q5, h_q5, L_q5, X_q5, e_q5, N_q5, Kq_q5, V_q5, st_q5⟩ := cpA X_q4 hx hZ hown (hw _ (List.mem_of_getElem? (i := 26) rfl)) (hw _ (List.mem_of_getElem? (i := 29) rfl)) (hw _ (List.mem_of_getElem? (i := 27) rfl)) (hw _ (List.mem_of_getElem? (i := 28) rfl)) rfl V_a1__q4 V_b_q2__q4 (us := [u0, u1]) (Or.inl ⟨rfl, rfl⟩) (by decide) (by decide) (by decide) (by decide) (by decide) rfl (Nat.le_of_ble_eq_true rfl) N_q4 ge_b_q2 (g := (mkF m 28 #[.val (.ref a1), .val (.int (2 : Int32)), .val (.ref b_q2)] [(.int (F7_0 (8 : Int32) (2 : Int32))), (.int (0 : Int32)), (.ref b_q2), (.int (0 : Int32)), (.ref a1)])) rfl (by rw [hml]; rfl) rfl (hb hby d6_28) (by decide) (W := 0) (by show 2 * 0 + _ ≤ _; exact Nat.le_of_eq rfl) (by decide)
  have V_a1__q5 := V_a1__q4.keep Kq_q5 (fun q => ne_a1_b_q2 (List.mem_singleton.mp q))
  have EX_a1__q5 := EX_a1__q4.keep Kq_q5
  have EX_q2__q5 := EX_q2__q4.keep Kq_q5
  have V_b_q2__q5 : Arv Z h_q5 b_q2 k_q2 .byte (2 : Int32) [u0, u1] (.int (0 : Int32)) := V_q5
  have K_q5 : Keep h0 h_q5 [] := K_q4.trans Kq_q5 (fun x hx => Or.inr (by cases List.mem_singleton.mp hx; exact sz_b_q2))
  obtain ⟨fs, hr, hrun, hended, hW, hsame⟩ := X_q5.leave (v := some (.ref b_q2)) (fun h => by rw [Bd.returns] at h; cases h) Bd.notSynchronized
  refine ⟨_, _, pre0 _ ?_, hrun, hended, _, _, rfl, ?_, ⟨_, rfl⟩, hW, hsame.mono (by decide) (by decide)⟩
  · show Steps p.tables e below (s₁.setTop (mkF m 0 #[.val (.ref a1), .val (.int (2 : Int32)), .unset] [])) _
    refine XS.iloadN X0.here hx rfl (hb hby d6_0) rfl ?_
    show Steps p.tables e below (s₁.setTop (mkF m 1 #[.val (.ref a1), .val (.int (2 : Int32)), .unset] [(.int (2 : Int32))])) _
    refine XS.aloadN X0.here hx rfl (hb hby d6_1) rfl rfl ?_
    show Steps p.tables e below (s₁.setTop (mkF m 2 #[.val (.ref a1), .val (.int (2 : Int32)), .unset] [(.ref a1), (.int (2 : Int32))])) _
    refine X0.arraylength hx (by rw [e0]; exact Ar_q1.1) (State.isArrayOf_alike hZ.alike Ar_q1.2.1) (g := (mkF m 2 #[.val (.ref a1), .val (.int (2 : Int32)), .unset] [(.ref a1), (.int (2 : Int32))])) rfl rfl (hb hby d6_2) _ ?_
    rw [len_of S_q1 Nn_q1]
    show Steps p.tables e below (s₁.setTop (mkF m 3 #[.val (.ref a1), .val (.int (2 : Int32)), .unset] [(.int (8 : Int32)), (.int (2 : Int32))])) _
    refine XS.icmpYes X0.here hx rfl (pc0 := 3) (pc' := 14) rfl (hb hby d6_3) rfl (feq (by decide : ¬ ((2 : Int32) = (8 : Int32)))).2 (by decide) (by decide) ?_
    show Steps p.tables e below (s₁.setTop (mkF m 14 #[.val (.ref a1), .val (.int (2 : Int32)), .unset] [])) _
    refine XS.iloadN X0.here hx rfl (hb hby d6_14) rfl ?_
    show Steps p.tables e below (s₁.setTop (mkF m 15 #[.val (.ref a1), .val (.int (2 : Int32)), .unset] [(.int (2 : Int32))])) _
    refine st_q2 _ ?_
    show Steps p.tables e below (T_q2.setTop (mkF m 17 #[.val (.ref a1), .val (.int (2 : Int32)), .unset] [(.ref b_q2)])) _
    refine XS.astoreN X_q2.here hx rfl (hb hby d6_17) rfl rfl (l' := #[.val (.ref a1), .val (.int (2 : Int32)), .val (.ref b_q2)]) rfl ?_
    show Steps p.tables e below (T_q2.setTop (mkF m 18 #[.val (.ref a1), .val (.int (2 : Int32)), .val (.ref b_q2)] [])) _
    refine XS.aloadN X_q2.here hx rfl (hb hby d6_18) rfl rfl ?_
    show Steps p.tables e below (T_q2.setTop (mkF m 19 #[.val (.ref a1), .val (.int (2 : Int32)), .val (.ref b_q2)] [(.ref a1)])) _
    refine XS.iconst X_q2.here hx rfl (hb hby d6_19) ?_
    show Steps p.tables e below (T_q2.setTop (mkF m 20 #[.val (.ref a1), .val (.int (2 : Int32)), .val (.ref b_q2)] [(.int (0 : Int32)), (.ref a1)])) _
    refine XS.aloadN X_q2.here hx rfl (hb hby d6_20) rfl rfl ?_
    show Steps p.tables e below (T_q2.setTop (mkF m 21 #[.val (.ref a1), .val (.int (2 : Int32)), .val (.ref b_q2)] [(.ref b_q2), (.int (0 : Int32)), (.ref a1)])) _
    refine XS.iconst X_q2.here hx rfl (hb hby d6_21) ?_
    show Steps p.tables e below (T_q2.setTop (mkF m 22 #[.val (.ref a1), .val (.int (2 : Int32)), .val (.ref b_q2)] [(.int (0 : Int32)), (.ref b_q2), (.int (0 : Int32)), (.ref a1)])) _
    refine XS.aloadN X_q2.here hx rfl (hb hby d6_22) rfl rfl ?_
    show Steps p.tables e below (T_q2.setTop (mkF m 23 #[.val (.ref a1), .val (.int (2 : Int32)), .val (.ref b_q2)] [(.ref a1), (.int (0 : Int32)), (.ref b_q2), (.int (0 : Int32)), (.ref a1)])) _
    refine X_q2.arraylength hx (by rw [e_q2]; exact Ar_q3.1) (State.isArrayOf_alike hZ.alike Ar_q3.2.1) (g := (mkF m 23 #[.val (.ref a1), .val (.int (2 : Int32)), .val (.ref b_q2)] [(.ref a1), (.int (0 : Int32)), (.ref b_q2), (.int (0 : Int32)), (.ref a1)])) rfl rfl (hb hby d6_23) _ ?_
    rw [len_of S_q3 Nn_q3]
    show Steps p.tables e below (T_q2.setTop (mkF m 24 #[.val (.ref a1), .val (.int (2 : Int32)), .val (.ref b_q2)] [(.int (8 : Int32)), (.int (0 : Int32)), (.ref b_q2), (.int (0 : Int32)), (.ref a1)])) _
    refine XS.iloadN X_q2.here hx rfl (hb hby d6_24) rfl ?_
    show Steps p.tables e below (T_q2.setTop (mkF m 25 #[.val (.ref a1), .val (.int (2 : Int32)), .val (.ref b_q2)] [(.int (2 : Int32)), (.int (8 : Int32)), (.int (0 : Int32)), (.ref b_q2), (.int (0 : Int32)), (.ref a1)])) _
    refine st_q4 _ ?_
    show Steps p.tables e below (T_q4.setTop (mkF m 28 #[.val (.ref a1), .val (.int (2 : Int32)), .val (.ref b_q2)] [(.int (F7_0 (8 : Int32) (2 : Int32))), (.int (0 : Int32)), (.ref b_q2), (.int (0 : Int32)), (.ref a1)])) _
    refine st_q5 _ ?_
    show Steps p.tables e below (T_q5.setTop (mkF m 31 #[.val (.ref a1), .val (.int (2 : Int32)), .val (.ref b_q2)] [])) _
    refine XS.aloadN X_q5.here hx rfl (hb hby d6_31) rfl rfl ?_
    show Steps p.tables e below (T_q5.setTop (mkF m 32 #[.val (.ref a1), .val (.int (2 : Int32)), .val (.ref b_q2)] [(.ref b_q2)])) _
    jvm_step X_q5.here [X_q5.here.top, hx, (hb hby d6_32), X_q5.method', Bd.returns, Value.isRef, FieldType.isReference]
    first | (intro acts; rw [hr _ acts rfl rfl rfl]) | rw [hr _ _ rfl rfl rfl]
    exact Steps.refl _
  · show Q_rm6_8 Z a1 k1 u0 u1 h0 n0 _ T_q5.heap _
    rw [e_q5]
    exact ⟨b_q2, k_q2, rfl, N_q5, K_q5, ge_b_q2, sz_b_q2, V_b_q2__q5⟩
theorem d3_0 : decode prog_1_method_3_code 0 = .ok (.aload_n 0, 1) := by decide +kernel
theorem d3_1 : decode prog_1_method_3_code 1 = .ok (.arraylength, 1) := by decide +kernel
theorem d3_2 : decode prog_1_method_3_code 2 = .ok (.newarray .byte, 2) := by decide +kernel
theorem d3_4 : decode prog_1_method_3_code 4 = .ok (.astore_n 1, 1) := by decide +kernel
theorem d3_5 : decode prog_1_method_3_code 5 = .ok (.iconst 0, 1) := by decide +kernel
theorem d3_6 : decode prog_1_method_3_code 6 = .ok (.istore_n 2, 1) := by decide +kernel
theorem d3_7 : decode prog_1_method_3_code 7 = .ok (.iconst 0, 1) := by decide +kernel
theorem d3_8 : decode prog_1_method_3_code 8 = .ok (.istore_n 3, 1) := by decide +kernel
theorem d3_9 : decode prog_1_method_3_code 9 = .ok (.iload_n 3, 1) := by decide +kernel
theorem d3_10 : decode prog_1_method_3_code 10 = .ok (.aload_n 0, 1) := by decide +kernel
theorem d3_11 : decode prog_1_method_3_code 11 = .ok (.arraylength, 1) := by decide +kernel
theorem d3_12 : decode prog_1_method_3_code 12 = .ok (.if_icmp .ge 40, 3) := by decide +kernel
theorem d3_15 : decode prog_1_method_3_code 15 = .ok (.aload_n 0, 1) := by decide +kernel
theorem d3_16 : decode prog_1_method_3_code 16 = .ok (.iload_n 3, 1) := by decide +kernel
theorem d3_17 : decode prog_1_method_3_code 17 = .ok (.baload, 1) := by decide +kernel
theorem d3_18 : decode prog_1_method_3_code 18 = .ok (.bipush 92, 2) := by decide +kernel
theorem d3_20 : decode prog_1_method_3_code 20 = .ok (.if_icmp .ne 17, 3) := by decide +kernel
theorem d3_37 : decode prog_1_method_3_code 37 = .ok (.aload_n 1, 1) := by decide +kernel
theorem d3_38 : decode prog_1_method_3_code 38 = .ok (.iload_n 2, 1) := by decide +kernel
theorem d3_39 : decode prog_1_method_3_code 39 = .ok (.aload_n 0, 1) := by decide +kernel
theorem d3_40 : decode prog_1_method_3_code 40 = .ok (.iload_n 3, 1) := by decide +kernel
theorem d3_41 : decode prog_1_method_3_code 41 = .ok (.baload, 1) := by decide +kernel
theorem d3_42 : decode prog_1_method_3_code 42 = .ok (.bastore, 1) := by decide +kernel
theorem d3_43 : decode prog_1_method_3_code 43 = .ok (.iinc 3 1, 3) := by decide +kernel
theorem d3_46 : decode prog_1_method_3_code 46 = .ok (.iinc 2 1, 3) := by decide +kernel
theorem d3_49 : decode prog_1_method_3_code 49 = .ok (.goto (-40), 3) := by decide +kernel
theorem d3_52 : decode prog_1_method_3_code 52 = .ok (.aload_n 1, 1) := by decide +kernel
theorem d3_53 : decode prog_1_method_3_code 53 = .ok (.iload_n 2, 1) := by decide +kernel
theorem d3_54 : decode prog_1_method_3_code 54 = .ok (.invokestatic 30, 3) := by decide +kernel
theorem d3_57 : decode prog_1_method_3_code 57 = .ok (.areturn, 1) := by decide +kernel
theorem pn_3 : plainName "com/example/presplit/presplit/escape/BinaryEscape" = true := by first | (simp [plainName, overriddenIn]; done) | decide +kernel
theorem pd___BI__B : parseMethodDescriptor "([BI)[B" = some ⟨[(.array .byte), .int], some (.array .byte)⟩ := by decide +kernel
theorem ef_3 (m : MethodId) (x0 : Addr) : entryFrame m #[(.ref x0)] 4 = mkF m 0 #[.val (.ref x0), .unset, .unset, .unset] [] := by first | (simp [entryFrame, mkF, argsToLocals, Value.category]; done) | rfl
def Q_rm3_00 (Z : State) (a1 : Addr) (k1 : ClassId) (y0 : Int32) (y1 : Int32) (h0 : Heap) (n0 : Nat) (v : Option Value) (h : Heap) (L : List Loc) : Prop := ∃ (r : Addr) (k : ClassId), v = some (.ref r) ∧ Fr n0 L ∧ Keep h0 h [] ∧ Arv Z h r k .byte (2 : Int32) [(.int (nar .byte y0)), (.int (nar .byte y1))] (.int (0 : Int32))
set_option maxRecDepth 65536 in
set_option maxHeartbeats 40000000 in
theorem rm3_00 (l : Launch) (Z : State) (a0 : Array Value) (hw : ∀ d ∈ tables_1, d.before a0 Z = true) (ws : List Jvm.Cond) (a1 : Addr) (k1 : ClassId) (y0 : Int32) (y1 : Int32) (h0 : Heap) (n0 : Nat) (Z0 : n0 ≤ h0.size) (V_a1 : Arv Z h0 a1 k1 .byte (2 : Int32) [(.int y0), (.int y1)] (.int (0 : Int32))) (hc_q5 : ¬ (y0 = (92 : Int32))) (hc_q10 : ¬ (y1 = (92 : Int32))) :
    MetFree l (⟨"com/example/presplit/presplit/escape/BinaryEscape", "decode", "([B)[B"⟩ : MethodName) (head1 (Jvm.Cond.code (⟨"com/example/presplit/presplit/escape/BinaryEscape", "decode", "([B)[B"⟩ : MethodName) prog_1_method_3_code 4 (some (.array .byte)) :: ws) ({ frames := 3, cells := 2, slots := 4, locals := 100 } : Room)) (fun a U => a = #[(.ref a1)] ∧ Z.Warmed39 U.vm ∧ U.heap = h0) (fun _ _ _ _ _ => True) (fun _ U o U' => ∃ v L, o = .returned v ∧ Q_rm3_00 Z a1 k1 y0 y1 h0 n0 v U'.heap L ∧ FrameEnd U o U' L ({ frames := 3, cells := 2, slots := 4, locals := 100 } : Room).cells ({ frames := 3, cells := 2, slots := 4, locals := 100 } : Room).slots) := by
  refine MetFree.of_bodySF (plainFor_of_name pn_3) hisR ?_
  intro p e s m args below meth c s₁ Bd hml0 hP hK
  obtain ⟨rfl, hZ, hh⟩ := hP
  have hx := Bd.exec
  have hby := Bd.bytes
  have hml : c.maxLocals = 4 := hml0
  have hown : s.vm.findClass "com/example/presplit/presplit/escape/BinaryEscape" = some m.cls := findClass_of_methodNamed Bd.named
  have hnm := (name_of_methodNamed Bd.named Bd.method).1
  have X0 : Stand p l e ({ frames := 3, cells := 2, slots := 4, locals := 100 } : Room) s m #[(.ref a1)] below meth c s₁ [] 0 0 := Stand.of_body Bd
  have e0 : s₁.heap = h0 := by rw [← hh, Bd.state]; rfl
  have N0 := Fr.nil n0
  have pre0 : ∀ t, Steps p.tables e below (s₁.setTop (mkF m 0 #[.val (.ref a1), .unset, .unset, .unset] [])) t → Steps p.tables e below (s₁.setTop (entryFrame m #[(.ref a1)] 4)) t := fun t k => castTop (ef_3 m a1) k
  have K0 : Keep h0 h0 [] := Keep.refl _ _
  obtain ⟨cl_q1, Ar_q1, qk_q1, S_q1, Nn_q1, H_q1, G_q1⟩ := id V_a1
  obtain ⟨T_q2, h_q2, k_q2, X_q2, e_q2, E_q2, A_q2, EX_q2, st_q2⟩ := newPE X0 hx hZ (hw _ (List.mem_of_getElem? (i := 0) rfl)) e0 (g := (mkF m 2 #[.val (.ref a1), .unset, .unset, .unset] [(.int (2 : Int32))])) rfl (hb hby d3_2) rfl (by decide) (cap := 2) (by decide) (by decide) (by decide) (by decide) (ad := "[B") (by decide)
  obtain ⟨b_q2, g_q2⟩ : ∃ z, z = h0.size := ⟨_, rfl⟩
  rw [← g_q2] at A_q2 EX_q2 st_q2
  have ne_a1_b_q2 : a1 ≠ b_q2 := Nat.ne_of_lt (Nat.lt_of_lt_of_le V_a1.lt (Nat.le_of_eq g_q2.symm))
  have ge_b_q2 : n0 ≤ b_q2 := Nat.le_trans (Nat.le_trans Z0 K0.1) (Nat.le_of_eq g_q2.symm)
  have sz_b_q2 : h0.size ≤ b_q2 := Nat.le_trans K0.1 (Nat.le_of_eq g_q2.symm)
  have K_q2 : Keep h0 h_q2 [] := K0.ext E_q2
  have V_a1__q2 := V_a1.ext E_q2
  have V_b_q2 : Arv Z h_q2 b_q2 k_q2 .byte (2 : Int32) [(.int (0 : Int32)), (.int (0 : Int32))] (.int (0 : Int32)) := (Arv.new A_q2 (by decide)).pad (pad_rep [] (.int (0 : Int32)) 2)
  obtain ⟨cl_q3, Ar_q3, qk_q3, S_q3, Nn_q3, H_q3, G_q3⟩ := id V_a1__q2
  obtain ⟨cl_q4, Ar_q4, qk_q4, S_q4, Nn_q4, H_q4, G_q4⟩ := id V_a1__q2
  have hin_q4 : ¬ ((0 : Int32) < 0 ∨ cl_q4.slots.size ≤ ((0 : Int32)).toNatClampNeg) := inb_of S_q4 ⟨by decide, by decide⟩
  have hat_q4 : cl_q4.slots[((0 : Int32)).toNatClampNeg]? = some (.int y0) := H_q4 0 (Nat.lt_of_not_le fun q => hin_q4 (Or.inr q))
  obtain ⟨cl_q6, Ar_q6, qk_q6, S_q6, Nn_q6, H_q6, G_q6⟩ := id V_a1__q2
  have hin_q6 : ¬ ((0 : Int32) < 0 ∨ cl_q6.slots.size ≤ ((0 : Int32)).toNatClampNeg) := inb_of S_q6 ⟨by decide, by decide⟩
  have hat_q6 : cl_q6.slots[((0 : Int32)).toNatClampNeg]? = some (.int y0) := H_q6 0 (Nat.lt_of_not_le fun q => hin_q6 (Or.inr q))
  obtain ⟨cl_q7, Ar_q7, qk_q7, S_q7, Nn_q7, H_q7, G_q7⟩ := id V_b_q2
  have hin_q7 : ¬ ((0 : Int32) < 0 ∨ cl_q7.slots.size ≤ ((0 : Int32)).toNatClampNeg) := inb_of S_q7 ⟨by decide, by decide⟩
  obtain ⟨T_q7, h_q7, X_q7, e_q7, W_q7, st_q7⟩ := stB X_q2 hx hZ e_q2 Ar_q7 (j := (0 : Int32)) hin_q7 (g := (mkF m 42 #[.val (.ref a1), .val (.ref b_q2), .val (.int (0 : Int32)), .val (.int (0 : Int32))] [(.int y0), (.int (0 : Int32)), (.ref b_q2)])) rfl rfl (hb hby d3_42)
  have V_a1__q7 := V_a1__q2.other W_q7 ne_a1_b_q2
  have EX_q2__q7 := EX_q2.wr W_q7
  have V_b_q2__q7 : Arv Z h_q7 b_q2 k_q2 .byte (2 : Int32) [(.int (nar .byte y0)), (.int (0 : Int32))] (.int (0 : Int32)) := Arv.set Ar_q7 qk_q7 S_q7 Nn_q7 H_q7 G_q7 (fits_nar_byte _) W_q7 0 rfl (Nat.le_of_ble_eq_true rfl)
  have K_q7 : Keep h0 h_q7 [] := K_q2.wr W_q7 (Or.inr sz_b_q2)
  have N_q7 := Fr.snoc X_q7 N0 ge_b_q2
  obtain ⟨cl_q8, Ar_q8, qk_q8, S_q8, Nn_q8, H_q8, G_q8⟩ := id V_a1__q7
  obtain ⟨cl_q9, Ar_q9, qk_q9, S_q9, Nn_q9, H_q9, G_q9⟩ := id V_a1__q7
  have hin_q9 : ¬ (((0 : Int32) + (1 : Int32)) < 0 ∨ cl_q9.slots.size ≤ (((0 : Int32) + (1 : Int32))).toNatClampNeg) := inb_of S_q9 ⟨by decide, by decide⟩
  have hat_q9 : cl_q9.slots[(((0 : Int32) + (1 : Int32))).toNatClampNeg]? = some (.int y1) := H_q9 1 (Nat.lt_of_not_le fun q => hin_q9 (Or.inr q))
  obtain ⟨cl_q11, Ar_q11, qk_q11, S_q11, Nn_q11, H_q11, G_q11⟩ := id V_a1__q7
  have hin_q11 : ¬ (((0 : Int32) + (1 : Int32)) < 0 ∨ cl_q11.slots.size ≤ (((0 : Int32) + (1 : Int32))).toNatClampNeg) := inb_of S_q11 ⟨by decide, by decide⟩
  have hat_q11 : cl_q11.slots[(((0 : Int32) + (1 : Int32))).toNatClampNeg]? = some (.int y1) := H_q11 1 (Nat.lt_of_not_le fun q => hin_q11 (Or.inr q))
  obtain ⟨cl_q12, Ar_q12, qk_q12, S_q12, Nn_q12, H_q12, G_q12⟩ := id V_b_q2__q7
  have hin_q12 : ¬ (((0 : Int32) + (1 : Int32)) < 0 ∨ cl_q12.slots.size ≤ (((0 : Int32) + (1 : Int32))).toNatClampNeg) := inb_of S_q12 ⟨by decide, by decide⟩
  obtain ⟨T_q12, h_q12, X_q12, e_q12, W_q12, st_q12⟩ := stB X_q7 hx hZ e_q7 Ar_q12 (j := ((0 : Int32) + (1 : Int32))) hin_q12 (g := (mkF m 42 #[.val (.ref a1), .val (.ref b_q2), .val (.int ((0 : Int32) + (1 : Int32))), .val (.int ((0 : Int32) + (1 : Int32)))] [(.int y1), (.int ((0 : Int32) + (1 : Int32))), (.ref b_q2)])) rfl rfl (hb hby d3_42)
  have V_a1__q12 := V_a1__q7.other W_q12 ne_a1_b_q2
  have EX_q2__q12 := EX_q2__q7.wr W_q12
  have V_b_q2__q12 : Arv Z h_q12 b_q2 k_q2 .byte (2 : Int32) [(.int (nar .byte y0)), (.int (nar .byte y1))] (.int (0 : Int32)) := Arv.set Ar_q12 qk_q12 S_q12 Nn_q12 H_q12 G_q12 (fits_nar_byte _) W_q12 1 rfl (Nat.le_of_ble_eq_true rfl)
  have K_q12 : Keep h0 h_q12 [] := K_q7.wr W_q12 (Or.inr sz_b_q2)
  have N_q12 := Fr.snoc X_q12 N_q7 ge_b_q2
  obtain ⟨cl_q13, Ar_q13, qk_q13, S_q13, Nn_q13, H_q13, G_q13⟩ := id V_a1__q12
  obtain ⟨_, _, ⟨T_q14, L_q14, k_q14, n_q14⟩, -, X_q14, ⟨Lc_q14, hQ_q14, l_q14, y_q14, z_q14⟩, st_q14⟩ := Jvm.LawKit.callS X_q12 hx (y := (⟨"java/util/Arrays", "copyOf", "([BI)[B"⟩ : MethodName)) hown (mvT hZ (hw _ (List.mem_of_getElem? (i := 18) rfl))) (mvT hZ (hw _ (List.mem_of_getElem? (i := 19) rfl))) (mvT hZ (hw _ (List.mem_of_getElem? (i := 20) rfl))) (mvT hZ (hw _ (List.mem_of_getElem? (i := 21) rfl))) (by decide) (backOf (W := 0) (rm6_2 l Z a0 hw [] b_q2 k_q2 (.int (nar .byte y0)) (.int (nar .byte y1)) h_q12 n0 (Nat.le_trans Z0 K_q12.1) V_b_q2__q12 EX_q2__q12) hZ (hw _ (List.mem_of_getElem? (i := 21) rfl)) (hw _ (List.mem_of_getElem? (i := 20) rfl)) (by decide) (by decide)) (g := (mkF m 54 #[.val (.ref a1), .val (.ref b_q2), .val (.int (((0 : Int32) + (1 : Int32)) + (1 : Int32))), .val (.int (((0 : Int32) + (1 : Int32)) + (1 : Int32)))] [(.int (((0 : Int32) + (1 : Int32)) + (1 : Int32))), (.ref b_q2)])) rfl (by rw [hml]; rfl) (argsL := [(.ref b_q2), (.int (((0 : Int32) + (1 : Int32)) + (1 : Int32)))]) (rest := []) (lenOf pd___BI__B rfl) rfl (by show 2 * 0 + _ ≤ _; exact Nat.le_of_eq rfl) (hb hby d3_54) (fun _ _ => ⟨rfl, e_q12, (by decide : 1 + 1 ≤ _), (by decide : 2 + 2 ≤ _)⟩)
  dsimp only [Pt.U, Pt.locs, Pt.cells, Pt.slots] at X_q14 l_q14 y_q14 z_q14 st_q14 hQ_q14
  subst l_q14 y_q14 z_q14
  obtain ⟨r_q14, kr_q14, rfl, Nq_q14, Kq_q14, ger_q14, szr_q14, Vr_q14⟩ := hQ_q14
  have N_q14 := Fr.app N_q12 Nq_q14
  have V_a1__q14 := V_a1__q12.keep Kq_q14 List.not_mem_nil
  have V_b_q2__q14 := V_b_q2__q12.keep Kq_q14 List.not_mem_nil
  have EX_q2__q14 := EX_q2__q12.keep Kq_q14
  have K_q14 : Keep h0 T_q14.heap [] := K_q12.trans Kq_q14 (fun x hx => nomatch hx)
  obtain ⟨fs, hr, hrun, hended, hW, hsame⟩ := X_q14.leave (v := some (.ref r_q14)) (fun h => by rw [Bd.returns] at h; cases h) Bd.notSynchronized
  refine ⟨_, _, pre0 _ ?_, hrun, hended, _, _, rfl, ?_, ⟨_, rfl⟩, hW, hsame.mono (by decide) (by decide)⟩
  · show Steps p.tables e below (s₁.setTop (mkF m 0 #[.val (.ref a1), .unset, .unset, .unset] [])) _
    refine XS.aloadN X0.here hx rfl (hb hby d3_0) rfl rfl ?_
    show Steps p.tables e below (s₁.setTop (mkF m 1 #[.val (.ref a1), .unset, .unset, .unset] [(.ref a1)])) _
    refine X0.arraylength hx (by rw [e0]; exact Ar_q1.1) (State.isArrayOf_alike hZ.alike Ar_q1.2.1) (g := (mkF m 1 #[.val (.ref a1), .unset, .unset, .unset] [(.ref a1)])) rfl rfl (hb hby d3_1) _ ?_
    rw [len_of S_q1 Nn_q1]
    show Steps p.tables e below (s₁.setTop (mkF m 2 #[.val (.ref a1), .unset, .unset, .unset] [(.int (2 : Int32))])) _
    refine st_q2 _ ?_
    show Steps p.tables e below (T_q2.setTop (mkF m 4 #[.val (.ref a1), .unset, .unset, .unset] [(.ref b_q2)])) _
    refine XS.astoreN X_q2.here hx rfl (hb hby d3_4) rfl rfl (l' := #[.val (.ref a1), .val (.ref b_q2), .unset, .unset]) rfl ?_
    show Steps p.tables e below (T_q2.setTop (mkF m 5 #[.val (.ref a1), .val (.ref b_q2), .unset, .unset] [])) _
    refine XS.iconst X_q2.here hx rfl (hb hby d3_5) ?_
    show Steps p.tables e below (T_q2.setTop (mkF m 6 #[.val (.ref a1), .val (.ref b_q2), .unset, .unset] [(.int (0 : Int32))])) _
    refine XS.istoreN X_q2.here hx rfl (hb hby d3_6) rfl (l' := #[.val (.ref a1), .val (.ref b_q2), .val (.int (0 : Int32)), .unset]) rfl ?_
    show Steps p.tables e below (T_q2.setTop (mkF m 7 #[.val (.ref a1), .val (.ref b_q2), .val (.int (0 : Int32)), .unset] [])) _
    refine XS.iconst X_q2.here hx rfl (hb hby d3_7) ?_
    show Steps p.tables e below (T_q2.setTop (mkF m 8 #[.val (.ref a1), .val (.ref b_q2), .val (.int (0 : Int32)), .unset] [(.int (0 : Int32))])) _
    refine XS.istoreN X_q2.here hx rfl (hb hby d3_8) rfl (l' := #[.val (.ref a1), .val (.ref b_q2), .val (.int (0 : Int32)), .val (.int (0 : Int32))]) rfl ?_
    show Steps p.tables e below (T_q2.setTop (mkF m 9 #[.val (.ref a1), .val (.ref b_q2), .val (.int (0 : Int32)), .val (.int (0 : Int32))] [])) _
    refine XS.iloadN X_q2.here hx rfl (hb hby d3_9) rfl ?_
    show Steps p.tables e below (T_q2.setTop (mkF m 10 #[.val (.ref a1), .val (.ref b_q2), .val (.int (0 : Int32)), .val (.int (0 : Int32))] [(.int (0 : Int32))])) _
    refine XS.aloadN X_q2.here hx rfl (hb hby d3_10) rfl rfl ?_
    show Steps p.tables e below (T_q2.setTop (mkF m 11 #[.val (.ref a1), .val (.ref b_q2), .val (.int (0 : Int32)), .val (.int (0 : Int32))] [(.ref a1), (.int (0 : Int32))])) _
    refine X_q2.arraylength hx (by rw [e_q2]; exact Ar_q3.1) (State.isArrayOf_alike hZ.alike Ar_q3.2.1) (g := (mkF m 11 #[.val (.ref a1), .val (.ref b_q2), .val (.int (0 : Int32)), .val (.int (0 : Int32))] [(.ref a1), (.int (0 : Int32))])) rfl rfl (hb hby d3_11) _ ?_
    rw [len_of S_q3 Nn_q3]
    show Steps p.tables e below (T_q2.setTop (mkF m 12 #[.val (.ref a1), .val (.ref b_q2), .val (.int (0 : Int32)), .val (.int (0 : Int32))] [(.int (2 : Int32)), (.int (0 : Int32))])) _
    refine XS.icmpNo X_q2.here hx rfl (hb hby d3_12) rfl (tlt (by decide : (0 : Int32) < (2 : Int32))).2.1 ?_
    show Steps p.tables e below (T_q2.setTop (mkF m 15 #[.val (.ref a1), .val (.ref b_q2), .val (.int (0 : Int32)), .val (.int (0 : Int32))] [])) _
    refine XS.aloadN X_q2.here hx rfl (hb hby d3_15) rfl rfl ?_
    show Steps p.tables e below (T_q2.setTop (mkF m 16 #[.val (.ref a1), .val (.ref b_q2), .val (.int (0 : Int32)), .val (.int (0 : Int32))] [(.ref a1)])) _
    refine XS.iloadN X_q2.here hx rfl (hb hby d3_16) rfl ?_
    show Steps p.tables e below (T_q2.setTop (mkF m 17 #[.val (.ref a1), .val (.ref b_q2), .val (.int (0 : Int32)), .val (.int (0 : Int32))] [(.int (0 : Int32)), (.ref a1)])) _
    refine X_q2.baloadBytes hx (j := (0 : Int32)) (v := (.int y0)) (by rw [e_q2]; exact Ar_q4.1) (State.isArrayOf_alike hZ.alike Ar_q4.2.1) Ar_q4.2.2 hin_q4 hat_q4 (g := (mkF m 17 #[.val (.ref a1), .val (.ref b_q2), .val (.int (0 : Int32)), .val (.int (0 : Int32))] [(.int (0 : Int32)), (.ref a1)])) rfl rfl (hb hby d3_17) _ ?_
    show Steps p.tables e below (T_q2.setTop (mkF m 18 #[.val (.ref a1), .val (.ref b_q2), .val (.int (0 : Int32)), .val (.int (0 : Int32))] [(.int y0)])) _
    refine XS.bipush X_q2.here hx rfl (hb hby d3_18) ?_
    show Steps p.tables e below (T_q2.setTop (mkF m 20 #[.val (.ref a1), .val (.ref b_q2), .val (.int (0 : Int32)), .val (.int (0 : Int32))] [(.int (92 : Int32)), (.int y0)])) _
    refine XS.icmpYes X_q2.here hx rfl (pc0 := 20) (pc' := 37) rfl (hb hby d3_20) rfl (feq hc_q5).2 (by decide) (by decide) ?_
    show Steps p.tables e below (T_q2.setTop (mkF m 37 #[.val (.ref a1), .val (.ref b_q2), .val (.int (0 : Int32)), .val (.int (0 : Int32))] [])) _
    refine XS.aloadN X_q2.here hx rfl (hb hby d3_37) rfl rfl ?_
    show Steps p.tables e below (T_q2.setTop (mkF m 38 #[.val (.ref a1), .val (.ref b_q2), .val (.int (0 : Int32)), .val (.int (0 : Int32))] [(.ref b_q2)])) _
    refine XS.iloadN X_q2.here hx rfl (hb hby d3_38) rfl ?_
    show Steps p.tables e below (T_q2.setTop (mkF m 39 #[.val (.ref a1), .val (.ref b_q2), .val (.int (0 : Int32)), .val (.int (0 : Int32))] [(.int (0 : Int32)), (.ref b_q2)])) _
    refine XS.aloadN X_q2.here hx rfl (hb hby d3_39) rfl rfl ?_
    show Steps p.tables e below (T_q2.setTop (mkF m 40 #[.val (.ref a1), .val (.ref b_q2), .val (.int (0 : Int32)), .val (.int (0 : Int32))] [(.ref a1), (.int (0 : Int32)), (.ref b_q2)])) _
    refine XS.iloadN X_q2.here hx rfl (hb hby d3_40) rfl ?_
    show Steps p.tables e below (T_q2.setTop (mkF m 41 #[.val (.ref a1), .val (.ref b_q2), .val (.int (0 : Int32)), .val (.int (0 : Int32))] [(.int (0 : Int32)), (.ref a1), (.int (0 : Int32)), (.ref b_q2)])) _
    refine X_q2.baloadBytes hx (j := (0 : Int32)) (v := (.int y0)) (by rw [e_q2]; exact Ar_q6.1) (State.isArrayOf_alike hZ.alike Ar_q6.2.1) Ar_q6.2.2 hin_q6 hat_q6 (g := (mkF m 41 #[.val (.ref a1), .val (.ref b_q2), .val (.int (0 : Int32)), .val (.int (0 : Int32))] [(.int (0 : Int32)), (.ref a1), (.int (0 : Int32)), (.ref b_q2)])) rfl rfl (hb hby d3_41) _ ?_
    show Steps p.tables e below (T_q2.setTop (mkF m 42 #[.val (.ref a1), .val (.ref b_q2), .val (.int (0 : Int32)), .val (.int (0 : Int32))] [(.int y0), (.int (0 : Int32)), (.ref b_q2)])) _
    refine st_q7 _ ?_
    show Steps p.tables e below (T_q7.setTop (mkF m 43 #[.val (.ref a1), .val (.ref b_q2), .val (.int (0 : Int32)), .val (.int (0 : Int32))] [])) _
    refine XS.iinc X_q7.here hx rfl (hb hby d3_43) rfl (l' := #[.val (.ref a1), .val (.ref b_q2), .val (.int (0 : Int32)), .val (.int ((0 : Int32) + (1 : Int32)))]) rfl ?_
    show Steps p.tables e below (T_q7.setTop (mkF m 46 #[.val (.ref a1), .val (.ref b_q2), .val (.int (0 : Int32)), .val (.int ((0 : Int32) + (1 : Int32)))] [])) _
    refine XS.iinc X_q7.here hx rfl (hb hby d3_46) rfl (l' := #[.val (.ref a1), .val (.ref b_q2), .val (.int ((0 : Int32) + (1 : Int32))), .val (.int ((0 : Int32) + (1 : Int32)))]) rfl ?_
    show Steps p.tables e below (T_q7.setTop (mkF m 49 #[.val (.ref a1), .val (.ref b_q2), .val (.int ((0 : Int32) + (1 : Int32))), .val (.int ((0 : Int32) + (1 : Int32)))] [])) _
    refine XS.goto X_q7.here hx rfl (pc0 := 49) (pc' := 9) rfl (hb hby d3_49) (by decide) (by decide) ?_
    show Steps p.tables e below (T_q7.setTop (mkF m 9 #[.val (.ref a1), .val (.ref b_q2), .val (.int ((0 : Int32) + (1 : Int32))), .val (.int ((0 : Int32) + (1 : Int32)))] [])) _
    refine XS.iloadN X_q7.here hx rfl (hb hby d3_9) rfl ?_
    show Steps p.tables e below (T_q7.setTop (mkF m 10 #[.val (.ref a1), .val (.ref b_q2), .val (.int ((0 : Int32) + (1 : Int32))), .val (.int ((0 : Int32) + (1 : Int32)))] [(.int ((0 : Int32) + (1 : Int32)))])) _
    refine XS.aloadN X_q7.here hx rfl (hb hby d3_10) rfl rfl ?_
    show Steps p.tables e below (T_q7.setTop (mkF m 11 #[.val (.ref a1), .val (.ref b_q2), .val (.int ((0 : Int32) + (1 : Int32))), .val (.int ((0 : Int32) + (1 : Int32)))] [(.ref a1), (.int ((0 : Int32) + (1 : Int32)))])) _
    refine X_q7.arraylength hx (by rw [e_q7]; exact Ar_q8.1) (State.isArrayOf_alike hZ.alike Ar_q8.2.1) (g := (mkF m 11 #[.val (.ref a1), .val (.ref b_q2), .val (.int ((0 : Int32) + (1 : Int32))), .val (.int ((0 : Int32) + (1 : Int32)))] [(.ref a1), (.int ((0 : Int32) + (1 : Int32)))])) rfl rfl (hb hby d3_11) _ ?_
    rw [len_of S_q8 Nn_q8]
    show Steps p.tables e below (T_q7.setTop (mkF m 12 #[.val (.ref a1), .val (.ref b_q2), .val (.int ((0 : Int32) + (1 : Int32))), .val (.int ((0 : Int32) + (1 : Int32)))] [(.int (2 : Int32)), (.int ((0 : Int32) + (1 : Int32)))])) _
    refine XS.icmpNo X_q7.here hx rfl (hb hby d3_12) rfl (tlt (by decide : ((0 : Int32) + (1 : Int32)) < (2 : Int32))).2.1 ?_
    show Steps p.tables e below (T_q7.setTop (mkF m 15 #[.val (.ref a1), .val (.ref b_q2), .val (.int ((0 : Int32) + (1 : Int32))), .val (.int ((0 : Int32) + (1 : Int32)))] [])) _
    refine XS.aloadN X_q7.here hx rfl (hb hby d3_15) rfl rfl ?_
    show Steps p.tables e below (T_q7.setTop (mkF m 16 #[.val (.ref a1), .val (.ref b_q2), .val (.int ((0 : Int32) + (1 : Int32))), .val (.int ((0 : Int32) + (1 : Int32)))] [(.ref a1)])) _
    refine XS.iloadN X_q7.here hx rfl (hb hby d3_16) rfl ?_
    show Steps p.tables e below (T_q7.setTop (mkF m 17 #[.val (.ref a1), .val (.ref b_q2), .val (.int ((0 : Int32) + (1 : Int32))), .val (.int ((0 : Int32) + (1 : Int32)))] [(.int ((0 : Int32) + (1 : Int32))), (.ref a1)])) _
    refine X_q7.baloadBytes hx (j := ((0 : Int32) + (1 : Int32))) (v := (.int y1)) (by rw [e_q7]; exact Ar_q9.1) (State.isArrayOf_alike hZ.alike Ar_q9.2.1) Ar_q9.2.2 hin_q9 hat_q9 (g := (mkF m 17 #[.val (.ref a1), .val (.ref b_q2), .val (.int ((0 : Int32) + (1 : Int32))), .val (.int ((0 : Int32) + (1 : Int32)))] [(.int ((0 : Int32) + (1 : Int32))), (.ref a1)])) rfl rfl (hb hby d3_17) _ ?_
    show Steps p.tables e below (T_q7.setTop (mkF m 18 #[.val (.ref a1), .val (.ref b_q2), .val (.int ((0 : Int32) + (1 : Int32))), .val (.int ((0 : Int32) + (1 : Int32)))] [(.int y1)])) _
    refine XS.bipush X_q7.here hx rfl (hb hby d3_18) ?_
    show Steps p.tables e below (T_q7.setTop (mkF m 20 #[.val (.ref a1), .val (.ref b_q2), .val (.int ((0 : Int32) + (1 : Int32))), .val (.int ((0 : Int32) + (1 : Int32)))] [(.int (92 : Int32)), (.int y1)])) _
    refine XS.icmpYes X_q7.here hx rfl (pc0 := 20) (pc' := 37) rfl (hb hby d3_20) rfl (feq hc_q10).2 (by decide) (by decide) ?_
    show Steps p.tables e below (T_q7.setTop (mkF m 37 #[.val (.ref a1), .val (.ref b_q2), .val (.int ((0 : Int32) + (1 : Int32))), .val (.int ((0 : Int32) + (1 : Int32)))] [])) _
    refine XS.aloadN X_q7.here hx rfl (hb hby d3_37) rfl rfl ?_
    show Steps p.tables e below (T_q7.setTop (mkF m 38 #[.val (.ref a1), .val (.ref b_q2), .val (.int ((0 : Int32) + (1 : Int32))), .val (.int ((0 : Int32) + (1 : Int32)))] [(.ref b_q2)])) _
    refine XS.iloadN X_q7.here hx rfl (hb hby d3_38) rfl ?_
    show Steps p.tables e below (T_q7.setTop (mkF m 39 #[.val (.ref a1), .val (.ref b_q2), .val (.int ((0 : Int32) + (1 : Int32))), .val (.int ((0 : Int32) + (1 : Int32)))] [(.int ((0 : Int32) + (1 : Int32))), (.ref b_q2)])) _
    refine XS.aloadN X_q7.here hx rfl (hb hby d3_39) rfl rfl ?_
    show Steps p.tables e below (T_q7.setTop (mkF m 40 #[.val (.ref a1), .val (.ref b_q2), .val (.int ((0 : Int32) + (1 : Int32))), .val (.int ((0 : Int32) + (1 : Int32)))] [(.ref a1), (.int ((0 : Int32) + (1 : Int32))), (.ref b_q2)])) _
    refine XS.iloadN X_q7.here hx rfl (hb hby d3_40) rfl ?_
    show Steps p.tables e below (T_q7.setTop (mkF m 41 #[.val (.ref a1), .val (.ref b_q2), .val (.int ((0 : Int32) + (1 : Int32))), .val (.int ((0 : Int32) + (1 : Int32)))] [(.int ((0 : Int32) + (1 : Int32))), (.ref a1), (.int ((0 : Int32) + (1 : Int32))), (.ref b_q2)])) _
    refine X_q7.baloadBytes hx (j := ((0 : Int32) + (1 : Int32))) (v := (.int y1)) (by rw [e_q7]; exact Ar_q11.1) (State.isArrayOf_alike hZ.alike Ar_q11.2.1) Ar_q11.2.2 hin_q11 hat_q11 (g := (mkF m 41 #[.val (.ref a1), .val (.ref b_q2), .val (.int ((0 : Int32) + (1 : Int32))), .val (.int ((0 : Int32) + (1 : Int32)))] [(.int ((0 : Int32) + (1 : Int32))), (.ref a1), (.int ((0 : Int32) + (1 : Int32))), (.ref b_q2)])) rfl rfl (hb hby d3_41) _ ?_
    show Steps p.tables e below (T_q7.setTop (mkF m 42 #[.val (.ref a1), .val (.ref b_q2), .val (.int ((0 : Int32) + (1 : Int32))), .val (.int ((0 : Int32) + (1 : Int32)))] [(.int y1), (.int ((0 : Int32) + (1 : Int32))), (.ref b_q2)])) _
    refine st_q12 _ ?_
    show Steps p.tables e below (T_q12.setTop (mkF m 43 #[.val (.ref a1), .val (.ref b_q2), .val (.int ((0 : Int32) + (1 : Int32))), .val (.int ((0 : Int32) + (1 : Int32)))] [])) _
    refine XS.iinc X_q12.here hx rfl (hb hby d3_43) rfl (l' := #[.val (.ref a1), .val (.ref b_q2), .val (.int ((0 : Int32) + (1 : Int32))), .val (.int (((0 : Int32) + (1 : Int32)) + (1 : Int32)))]) rfl ?_
    show Steps p.tables e below (T_q12.setTop (mkF m 46 #[.val (.ref a1), .val (.ref b_q2), .val (.int ((0 : Int32) + (1 : Int32))), .val (.int (((0 : Int32) + (1 : Int32)) + (1 : Int32)))] [])) _
    refine XS.iinc X_q12.here hx rfl (hb hby d3_46) rfl (l' := #[.val (.ref a1), .val (.ref b_q2), .val (.int (((0 : Int32) + (1 : Int32)) + (1 : Int32))), .val (.int (((0 : Int32) + (1 : Int32)) + (1 : Int32)))]) rfl ?_
    show Steps p.tables e below (T_q12.setTop (mkF m 49 #[.val (.ref a1), .val (.ref b_q2), .val (.int (((0 : Int32) + (1 : Int32)) + (1 : Int32))), .val (.int (((0 : Int32) + (1 : Int32)) + (1 : Int32)))] [])) _
    refine XS.goto X_q12.here hx rfl (pc0 := 49) (pc' := 9) rfl (hb hby d3_49) (by decide) (by decide) ?_
    show Steps p.tables e below (T_q12.setTop (mkF m 9 #[.val (.ref a1), .val (.ref b_q2), .val (.int (((0 : Int32) + (1 : Int32)) + (1 : Int32))), .val (.int (((0 : Int32) + (1 : Int32)) + (1 : Int32)))] [])) _
    refine XS.iloadN X_q12.here hx rfl (hb hby d3_9) rfl ?_
    show Steps p.tables e below (T_q12.setTop (mkF m 10 #[.val (.ref a1), .val (.ref b_q2), .val (.int (((0 : Int32) + (1 : Int32)) + (1 : Int32))), .val (.int (((0 : Int32) + (1 : Int32)) + (1 : Int32)))] [(.int (((0 : Int32) + (1 : Int32)) + (1 : Int32)))])) _
    refine XS.aloadN X_q12.here hx rfl (hb hby d3_10) rfl rfl ?_
    show Steps p.tables e below (T_q12.setTop (mkF m 11 #[.val (.ref a1), .val (.ref b_q2), .val (.int (((0 : Int32) + (1 : Int32)) + (1 : Int32))), .val (.int (((0 : Int32) + (1 : Int32)) + (1 : Int32)))] [(.ref a1), (.int (((0 : Int32) + (1 : Int32)) + (1 : Int32)))])) _
    refine X_q12.arraylength hx (by rw [e_q12]; exact Ar_q13.1) (State.isArrayOf_alike hZ.alike Ar_q13.2.1) (g := (mkF m 11 #[.val (.ref a1), .val (.ref b_q2), .val (.int (((0 : Int32) + (1 : Int32)) + (1 : Int32))), .val (.int (((0 : Int32) + (1 : Int32)) + (1 : Int32)))] [(.ref a1), (.int (((0 : Int32) + (1 : Int32)) + (1 : Int32)))])) rfl rfl (hb hby d3_11) _ ?_
    rw [len_of S_q13 Nn_q13]
    show Steps p.tables e below (T_q12.setTop (mkF m 12 #[.val (.ref a1), .val (.ref b_q2), .val (.int (((0 : Int32) + (1 : Int32)) + (1 : Int32))), .val (.int (((0 : Int32) + (1 : Int32)) + (1 : Int32)))] [(.int (2 : Int32)), (.int (((0 : Int32) + (1 : Int32)) + (1 : Int32)))])) _
    refine XS.icmpYes X_q12.here hx rfl (pc0 := 12) (pc' := 52) rfl (hb hby d3_12) rfl (flt (by decide : ¬ ((((0 : Int32) + (1 : Int32)) + (1 : Int32)) < (2 : Int32)))).2.1 (by decide) (by decide) ?_
    show Steps p.tables e below (T_q12.setTop (mkF m 52 #[.val (.ref a1), .val (.ref b_q2), .val (.int (((0 : Int32) + (1 : Int32)) + (1 : Int32))), .val (.int (((0 : Int32) + (1 : Int32)) + (1 : Int32)))] [])) _
    refine XS.aloadN X_q12.here hx rfl (hb hby d3_52) rfl rfl ?_
    show Steps p.tables e below (T_q12.setTop (mkF m 53 #[.val (.ref a1), .val (.ref b_q2), .val (.int (((0 : Int32) + (1 : Int32)) + (1 : Int32))), .val (.int (((0 : Int32) + (1 : Int32)) + (1 : Int32)))] [(.ref b_q2)])) _
    refine XS.iloadN X_q12.here hx rfl (hb hby d3_53) rfl ?_
    show Steps p.tables e below (T_q12.setTop (mkF m 54 #[.val (.ref a1), .val (.ref b_q2), .val (.int (((0 : Int32) + (1 : Int32)) + (1 : Int32))), .val (.int (((0 : Int32) + (1 : Int32)) + (1 : Int32)))] [(.int (((0 : Int32) + (1 : Int32)) + (1 : Int32))), (.ref b_q2)])) _
    refine st_q14 _ ?_
    show Steps p.tables e below (T_q14.setTop (mkF m 57 #[.val (.ref a1), .val (.ref b_q2), .val (.int (((0 : Int32) + (1 : Int32)) + (1 : Int32))), .val (.int (((0 : Int32) + (1 : Int32)) + (1 : Int32)))] [(.ref r_q14)])) _
    jvm_step X_q14.here [X_q14.here.top, hx, (hb hby d3_57), X_q14.method', Bd.returns, Value.isRef, FieldType.isReference]
    first | (intro acts; rw [hr _ acts rfl rfl rfl]) | rw [hr _ _ rfl rfl rfl]
    exact Steps.refl _
  · show Q_rm3_00 Z a1 k1 y0 y1 h0 n0 _ T_q14.heap _
    exact ⟨r_q14, kr_q14, rfl, N_q14, K_q14, Vr_q14⟩
theorem d3_23 : decode prog_1_method_3_code 23 = .ok (.aload_n 1, 1) := by decide +kernel
theorem d3_24 : decode prog_1_method_3_code 24 = .ok (.iload_n 2, 1) := by decide +kernel
theorem d3_25 : decode prog_1_method_3_code 25 = .ok (.aload_n 0, 1) := by decide +kernel
theorem d3_26 : decode prog_1_method_3_code 26 = .ok (.iload_n 3, 1) := by decide +kernel
theorem d3_27 : decode prog_1_method_3_code 27 = .ok (.invokestatic 26, 3) := by decide +kernel
theorem d3_30 : decode prog_1_method_3_code 30 = .ok (.bastore, 1) := by decide +kernel
theorem d3_31 : decode prog_1_method_3_code 31 = .ok (.iinc 3 4, 3) := by decide +kernel
theorem d3_34 : decode prog_1_method_3_code 34 = .ok (.goto 12, 3) := by decide +kernel
theorem pd___BI_B : parseMethodDescriptor "([BI)B" = some ⟨[(.array .byte), .int], some .byte⟩ := by decide +kernel
def Q_rm3_10 (Z : State) (a1 : Addr) (k1 : ClassId) (x0 : Int32) (y0 : Int32) (y1 : Int32) (h0 : Heap) (n0 : Nat) (v : Option Value) (h : Heap) (L : List Loc) : Prop := ∃ (r : Addr) (k : ClassId), v = some (.ref r) ∧ Fr n0 L ∧ Keep h0 h [] ∧ Arv Z h r k .byte (2 : Int32) [(.int (nar .byte (nar .byte ((((F5_0 x0) <<< ((4 : Int32) &&& 31)) ||| (F5_0 y0)).toInt8.toInt32)))), (.int (nar .byte y1))] (.int (0 : Int32))
set_option maxRecDepth 65536 in
set_option maxHeartbeats 40000000 in
theorem rm3_10 (l : Launch) (Z : State) (a0 : Array Value) (hw : ∀ d ∈ tables_1, d.before a0 Z = true) (ws : List Jvm.Cond) (a1 : Addr) (k1 : ClassId) (x0 : Int32) (y0 : Int32) (y1 : Int32) (h0 : Heap) (n0 : Nat) (Z0 : n0 ≤ h0.size) (V_a1 : Arv Z h0 a1 k1 .byte (5 : Int32) [(.int (92 : Int32)), (.int (120 : Int32)), (.int x0), (.int y0), (.int y1)] (.int (0 : Int32))) (he_q5_hc_q7 : ¬ ((F5_0 x0) < (0 : Int32))) (he_q5_hc_q8 : ¬ ((F5_0 y0) < (0 : Int32))) (hc_q9 : ¬ (y1 = (92 : Int32))) :
    MetFree l (⟨"com/example/presplit/presplit/escape/BinaryEscape", "decode", "([B)[B"⟩ : MethodName) (head1 (Jvm.Cond.code (⟨"com/example/presplit/presplit/escape/BinaryEscape", "decode", "([B)[B"⟩ : MethodName) prog_1_method_3_code 4 (some (.array .byte)) :: ws) ({ frames := 3, cells := 2, slots := 7, locals := 100 } : Room)) (fun a U => a = #[(.ref a1)] ∧ Z.Warmed39 U.vm ∧ U.heap = h0) (fun _ _ _ _ _ => True) (fun _ U o U' => ∃ v L, o = .returned v ∧ Q_rm3_10 Z a1 k1 x0 y0 y1 h0 n0 v U'.heap L ∧ FrameEnd U o U' L ({ frames := 3, cells := 2, slots := 7, locals := 100 } : Room).cells ({ frames := 3, cells := 2, slots := 7, locals := 100 } : Room).slots) := by
  refine MetFree.of_bodySF (plainFor_of_name pn_3) hisR ?_
  intro p e s m args below meth c s₁ Bd hml0 hP hK
  obtain ⟨rfl, hZ, hh⟩ := hP
  have hx := Bd.exec
  have hby := Bd.bytes
  have hml : c.maxLocals = 4 := hml0
  have hown : s.vm.findClass "com/example/presplit/presplit/escape/BinaryEscape" = some m.cls := findClass_of_methodNamed Bd.named
  have hnm := (name_of_methodNamed Bd.named Bd.method).1
  have X0 : Stand p l e ({ frames := 3, cells := 2, slots := 7, locals := 100 } : Room) s m #[(.ref a1)] below meth c s₁ [] 0 0 := Stand.of_body Bd
  have e0 : s₁.heap = h0 := by rw [← hh, Bd.state]; rfl
  have N0 := Fr.nil n0
  have pre0 : ∀ t, Steps p.tables e below (s₁.setTop (mkF m 0 #[.val (.ref a1), .unset, .unset, .unset] [])) t → Steps p.tables e below (s₁.setTop (entryFrame m #[(.ref a1)] 4)) t := fun t k => castTop (ef_3 m a1) k
  have K0 : Keep h0 h0 [] := Keep.refl _ _
  obtain ⟨cl_q1, Ar_q1, qk_q1, S_q1, Nn_q1, H_q1, G_q1⟩ := id V_a1
  obtain ⟨T_q2, h_q2, k_q2, X_q2, e_q2, E_q2, A_q2, EX_q2, st_q2⟩ := newPE X0 hx hZ (hw _ (List.mem_of_getElem? (i := 0) rfl)) e0 (g := (mkF m 2 #[.val (.ref a1), .unset, .unset, .unset] [(.int (5 : Int32))])) rfl (hb hby d3_2) rfl (by decide) (cap := 5) (by decide) (by decide) (by decide) (by decide) (ad := "[B") (by decide)
  obtain ⟨b_q2, g_q2⟩ : ∃ z, z = h0.size := ⟨_, rfl⟩
  rw [← g_q2] at A_q2 EX_q2 st_q2
  have ne_a1_b_q2 : a1 ≠ b_q2 := Nat.ne_of_lt (Nat.lt_of_lt_of_le V_a1.lt (Nat.le_of_eq g_q2.symm))
  have ge_b_q2 : n0 ≤ b_q2 := Nat.le_trans (Nat.le_trans Z0 K0.1) (Nat.le_of_eq g_q2.symm)
  have sz_b_q2 : h0.size ≤ b_q2 := Nat.le_trans K0.1 (Nat.le_of_eq g_q2.symm)
  have K_q2 : Keep h0 h_q2 [] := K0.ext E_q2
  have V_a1__q2 := V_a1.ext E_q2
  have V_b_q2 : Arv Z h_q2 b_q2 k_q2 .byte (5 : Int32) [(.int (0 : Int32)), (.int (0 : Int32))] (.int (0 : Int32)) := (Arv.new A_q2 (by decide)).pad (pad_rep [] (.int (0 : Int32)) 2)
  obtain ⟨cl_q3, Ar_q3, qk_q3, S_q3, Nn_q3, H_q3, G_q3⟩ := id V_a1__q2
  obtain ⟨cl_q4, Ar_q4, qk_q4, S_q4, Nn_q4, H_q4, G_q4⟩ := id V_a1__q2
  have hin_q4 : ¬ ((0 : Int32) < 0 ∨ cl_q4.slots.size ≤ ((0 : Int32)).toNatClampNeg) := inb_of S_q4 ⟨by decide, by decide⟩
  have hat_q4 : cl_q4.slots[((0 : Int32)).toNatClampNeg]? = some (.int (92 : Int32)) := H_q4 0 (Nat.lt_of_not_le fun q => hin_q4 (Or.inr q))
  obtain ⟨_, _, ⟨T_q5, L_q5, k_q5, n_q5⟩, -, X_q5, ⟨Lc_q5, hQ_q5, l_q5, y_q5, z_q5⟩, st_q5⟩ := Jvm.LawKit.callS X_q2 hx (y := (⟨"com/example/presplit/presplit/escape/BinaryEscape", "escapedByte", "([BI)B"⟩ : MethodName)) hown (mvT hZ (hw _ (List.mem_of_getElem? (i := 12) rfl))) (mvT hZ (hw _ (List.mem_of_getElem? (i := 13) rfl))) (mvT hZ (hw _ (List.mem_of_getElem? (i := 10) rfl))) (mvT hZ (hw _ (List.mem_of_getElem? (i := 14) rfl))) (by decide) (backOf (W := 2) (rm4_5_0 l Z a0 hw [] a1 k1 (.int y1) x0 y0 h_q2 n0 (Nat.le_trans Z0 K_q2.1) V_a1__q2 he_q5_hc_q7 he_q5_hc_q8) hZ (hw _ (List.mem_of_getElem? (i := 14) rfl)) (hw _ (List.mem_of_getElem? (i := 10) rfl)) (by decide) (by decide)) (g := (mkF m 27 #[.val (.ref a1), .val (.ref b_q2), .val (.int (0 : Int32)), .val (.int (0 : Int32))] [(.int (0 : Int32)), (.ref a1), (.int (0 : Int32)), (.ref b_q2)])) rfl (by rw [hml]; rfl) (argsL := [(.ref a1), (.int (0 : Int32))]) (rest := [(.int (0 : Int32)), (.ref b_q2)]) (lenOf pd___BI_B rfl) rfl (by show 2 * 0 + _ ≤ _; exact Nat.le_of_eq rfl) (hb hby d3_27) (fun _ _ => ⟨rfl, e_q2, (by decide : 1 + 0 ≤ _), (by decide : 5 + 0 ≤ _)⟩)
  dsimp only [Pt.U, Pt.locs, Pt.cells, Pt.slots] at X_q5 l_q5 y_q5 z_q5 st_q5 hQ_q5
  subst l_q5 y_q5 z_q5
  obtain ⟨rfl, Nq_q5, eq_q5⟩ := hQ_q5
  have Kq_q5 : Keep h_q2 T_q5.heap [] := by rw [eq_q5]; exact Keep.refl _ _
  have N_q5 := Fr.app N0 Nq_q5
  have V_a1__q5 := V_a1__q2.keep Kq_q5 List.not_mem_nil
  have V_b_q2__q5 := V_b_q2.keep Kq_q5 List.not_mem_nil
  have EX_q2__q5 := EX_q2.keep Kq_q5
  have K_q5 : Keep h0 T_q5.heap [] := K_q2.trans Kq_q5 (fun x hx => nomatch hx)
  obtain ⟨cl_q6, Ar_q6, qk_q6, S_q6, Nn_q6, H_q6, G_q6⟩ := id V_b_q2__q5
  have hin_q6 : ¬ ((0 : Int32) < 0 ∨ cl_q6.slots.size ≤ ((0 : Int32)).toNatClampNeg) := inb_of S_q6 ⟨by decide, by decide⟩
  obtain ⟨T_q6, h_q6, X_q6, e_q6, W_q6, st_q6⟩ := stB X_q5 hx hZ rfl Ar_q6 (j := (0 : Int32)) hin_q6 (g := (mkF m 30 #[.val (.ref a1), .val (.ref b_q2), .val (.int (0 : Int32)), .val (.int (0 : Int32))] [(.int (nar .byte ((((F5_0 x0) <<< ((4 : Int32) &&& 31)) ||| (F5_0 y0)).toInt8.toInt32))), (.int (0 : Int32)), (.ref b_q2)])) rfl rfl (hb hby d3_30)
  have V_a1__q6 := V_a1__q5.other W_q6 ne_a1_b_q2
  have EX_q2__q6 := EX_q2__q5.wr W_q6
  have V_b_q2__q6 : Arv Z h_q6 b_q2 k_q2 .byte (5 : Int32) [(.int (nar .byte (nar .byte ((((F5_0 x0) <<< ((4 : Int32) &&& 31)) ||| (F5_0 y0)).toInt8.toInt32)))), (.int (0 : Int32))] (.int (0 : Int32)) := Arv.set Ar_q6 qk_q6 S_q6 Nn_q6 H_q6 G_q6 (fits_nar_byte _) W_q6 0 rfl (Nat.le_of_ble_eq_true rfl)
  have K_q6 : Keep h0 h_q6 [] := K_q5.wr W_q6 (Or.inr sz_b_q2)
  have N_q6 := Fr.snoc X_q6 N_q5 ge_b_q2
  obtain ⟨cl_q7, Ar_q7, qk_q7, S_q7, Nn_q7, H_q7, G_q7⟩ := id V_a1__q6
  obtain ⟨cl_q8, Ar_q8, qk_q8, S_q8, Nn_q8, H_q8, G_q8⟩ := id V_a1__q6
  have hin_q8 : ¬ (((0 : Int32) + (4 : Int32)) < 0 ∨ cl_q8.slots.size ≤ (((0 : Int32) + (4 : Int32))).toNatClampNeg) := inb_of S_q8 ⟨by decide, by decide⟩
  have hat_q8 : cl_q8.slots[(((0 : Int32) + (4 : Int32))).toNatClampNeg]? = some (.int y1) := H_q8 4 (Nat.lt_of_not_le fun q => hin_q8 (Or.inr q))
  obtain ⟨cl_q10, Ar_q10, qk_q10, S_q10, Nn_q10, H_q10, G_q10⟩ := id V_a1__q6
  have hin_q10 : ¬ (((0 : Int32) + (4 : Int32)) < 0 ∨ cl_q10.slots.size ≤ (((0 : Int32) + (4 : Int32))).toNatClampNeg) := inb_of S_q10 ⟨by decide, by decide⟩
  have hat_q10 : cl_q10.slots[(((0 : Int32) + (4 : Int32))).toNatClampNeg]? = some (.int y1) := H_q10 4 (Nat.lt_of_not_le fun q => hin_q10 (Or.inr q))
  obtain ⟨cl_q11, Ar_q11, qk_q11, S_q11, Nn_q11, H_q11, G_q11⟩ := id V_b_q2__q6
  have hin_q11 : ¬ (((0 : Int32) + (1 : Int32)) < 0 ∨ cl_q11.slots.size ≤ (((0 : Int32) + (1 : Int32))).toNatClampNeg) := inb_of S_q11 ⟨by decide, by decide⟩
  obtain ⟨T_q11, h_q11, X_q11, e_q11, W_q11, st_q11⟩ := stB X_q6 hx hZ e_q6 Ar_q11 (j := ((0 : Int32) + (1 : Int32))) hin_q11 (g := (mkF m 42 #[.val (.ref a1), .val (.ref b_q2), .val (.int ((0 : Int32) + (1 : Int32))), .val (.int ((0 : Int32) + (4 : Int32)))] [(.int y1), (.int ((0 : Int32) + (1 : Int32))), (.ref b_q2)])) rfl rfl (hb hby d3_42)
  have V_a1__q11 := V_a1__q6.other W_q11 ne_a1_b_q2
  have EX_q2__q11 := EX_q2__q6.wr W_q11
  have V_b_q2__q11 : Arv Z h_q11 b_q2 k_q2 .byte (5 : Int32) [(.int (nar .byte (nar .byte ((((F5_0 x0) <<< ((4 : Int32) &&& 31)) ||| (F5_0 y0)).toInt8.toInt32)))), (.int (nar .byte y1))] (.int (0 : Int32)) := Arv.set Ar_q11 qk_q11 S_q11 Nn_q11 H_q11 G_q11 (fits_nar_byte _) W_q11 1 rfl (Nat.le_of_ble_eq_true rfl)
  have K_q11 : Keep h0 h_q11 [] := K_q6.wr W_q11 (Or.inr sz_b_q2)
  have N_q11 := Fr.snoc X_q11 N_q6 ge_b_q2
  obtain ⟨cl_q12, Ar_q12, qk_q12, S_q12, Nn_q12, H_q12, G_q12⟩ := id V_a1__q11
  obtain ⟨_, _, ⟨T_q13, L_q13, k_q13, n_q13⟩, -, X_q13, ⟨Lc_q13, hQ_q13, l_q13, y_q13, z_q13⟩, st_q13⟩ := Jvm.LawKit.callS X_q11 hx (y := (⟨"java/util/Arrays", "copyOf", "([BI)[B"⟩ : MethodName)) hown (mvT hZ (hw _ (List.mem_of_getElem? (i := 18) rfl))) (mvT hZ (hw _ (List.mem_of_getElem? (i := 19) rfl))) (mvT hZ (hw _ (List.mem_of_getElem? (i := 20) rfl))) (mvT hZ (hw _ (List.mem_of_getElem? (i := 21) rfl))) (by decide) (backOf (W := 0) (rm6_5 l Z a0 hw [] b_q2 k_q2 (.int (nar .byte (nar .byte ((((F5_0 x0) <<< ((4 : Int32) &&& 31)) ||| (F5_0 y0)).toInt8.toInt32)))) (.int (nar .byte y1)) h_q11 n0 (Nat.le_trans Z0 K_q11.1) V_b_q2__q11 EX_q2__q11) hZ (hw _ (List.mem_of_getElem? (i := 21) rfl)) (hw _ (List.mem_of_getElem? (i := 20) rfl)) (by decide) (by decide)) (g := (mkF m 54 #[.val (.ref a1), .val (.ref b_q2), .val (.int (((0 : Int32) + (1 : Int32)) + (1 : Int32))), .val (.int (((0 : Int32) + (4 : Int32)) + (1 : Int32)))] [(.int (((0 : Int32) + (1 : Int32)) + (1 : Int32))), (.ref b_q2)])) rfl (by rw [hml]; rfl) (argsL := [(.ref b_q2), (.int (((0 : Int32) + (1 : Int32)) + (1 : Int32)))]) (rest := []) (lenOf pd___BI__B rfl) rfl (by show 2 * 0 + _ ≤ _; exact Nat.le_of_eq rfl) (hb hby d3_54) (fun _ _ => ⟨rfl, e_q11, (by decide : 1 + 1 ≤ _), (by decide : 5 + 2 ≤ _)⟩)
  dsimp only [Pt.U, Pt.locs, Pt.cells, Pt.slots] at X_q13 l_q13 y_q13 z_q13 st_q13 hQ_q13
  subst l_q13 y_q13 z_q13
  obtain ⟨r_q13, kr_q13, rfl, Nq_q13, Kq_q13, ger_q13, szr_q13, Vr_q13⟩ := hQ_q13
  have N_q13 := Fr.app N_q11 Nq_q13
  have V_a1__q13 := V_a1__q11.keep Kq_q13 List.not_mem_nil
  have V_b_q2__q13 := V_b_q2__q11.keep Kq_q13 List.not_mem_nil
  have EX_q2__q13 := EX_q2__q11.keep Kq_q13
  have K_q13 : Keep h0 T_q13.heap [] := K_q11.trans Kq_q13 (fun x hx => nomatch hx)
  obtain ⟨fs, hr, hrun, hended, hW, hsame⟩ := X_q13.leave (v := some (.ref r_q13)) (fun h => by rw [Bd.returns] at h; cases h) Bd.notSynchronized
  refine ⟨_, _, pre0 _ ?_, hrun, hended, _, _, rfl, ?_, ⟨_, rfl⟩, hW, hsame.mono (by decide) (by decide)⟩
  · show Steps p.tables e below (s₁.setTop (mkF m 0 #[.val (.ref a1), .unset, .unset, .unset] [])) _
    refine XS.aloadN X0.here hx rfl (hb hby d3_0) rfl rfl ?_
    show Steps p.tables e below (s₁.setTop (mkF m 1 #[.val (.ref a1), .unset, .unset, .unset] [(.ref a1)])) _
    refine X0.arraylength hx (by rw [e0]; exact Ar_q1.1) (State.isArrayOf_alike hZ.alike Ar_q1.2.1) (g := (mkF m 1 #[.val (.ref a1), .unset, .unset, .unset] [(.ref a1)])) rfl rfl (hb hby d3_1) _ ?_
    rw [len_of S_q1 Nn_q1]
    show Steps p.tables e below (s₁.setTop (mkF m 2 #[.val (.ref a1), .unset, .unset, .unset] [(.int (5 : Int32))])) _
    refine st_q2 _ ?_
    show Steps p.tables e below (T_q2.setTop (mkF m 4 #[.val (.ref a1), .unset, .unset, .unset] [(.ref b_q2)])) _
    refine XS.astoreN X_q2.here hx rfl (hb hby d3_4) rfl rfl (l' := #[.val (.ref a1), .val (.ref b_q2), .unset, .unset]) rfl ?_
    show Steps p.tables e below (T_q2.setTop (mkF m 5 #[.val (.ref a1), .val (.ref b_q2), .unset, .unset] [])) _
    refine XS.iconst X_q2.here hx rfl (hb hby d3_5) ?_
    show Steps p.tables e below (T_q2.setTop (mkF m 6 #[.val (.ref a1), .val (.ref b_q2), .unset, .unset] [(.int (0 : Int32))])) _
    refine XS.istoreN X_q2.here hx rfl (hb hby d3_6) rfl (l' := #[.val (.ref a1), .val (.ref b_q2), .val (.int (0 : Int32)), .unset]) rfl ?_
    show Steps p.tables e below (T_q2.setTop (mkF m 7 #[.val (.ref a1), .val (.ref b_q2), .val (.int (0 : Int32)), .unset] [])) _
    refine XS.iconst X_q2.here hx rfl (hb hby d3_7) ?_
    show Steps p.tables e below (T_q2.setTop (mkF m 8 #[.val (.ref a1), .val (.ref b_q2), .val (.int (0 : Int32)), .unset] [(.int (0 : Int32))])) _
    refine XS.istoreN X_q2.here hx rfl (hb hby d3_8) rfl (l' := #[.val (.ref a1), .val (.ref b_q2), .val (.int (0 : Int32)), .val (.int (0 : Int32))]) rfl ?_
    show Steps p.tables e below (T_q2.setTop (mkF m 9 #[.val (.ref a1), .val (.ref b_q2), .val (.int (0 : Int32)), .val (.int (0 : Int32))] [])) _
    refine XS.iloadN X_q2.here hx rfl (hb hby d3_9) rfl ?_
    show Steps p.tables e below (T_q2.setTop (mkF m 10 #[.val (.ref a1), .val (.ref b_q2), .val (.int (0 : Int32)), .val (.int (0 : Int32))] [(.int (0 : Int32))])) _
    refine XS.aloadN X_q2.here hx rfl (hb hby d3_10) rfl rfl ?_
    show Steps p.tables e below (T_q2.setTop (mkF m 11 #[.val (.ref a1), .val (.ref b_q2), .val (.int (0 : Int32)), .val (.int (0 : Int32))] [(.ref a1), (.int (0 : Int32))])) _
    refine X_q2.arraylength hx (by rw [e_q2]; exact Ar_q3.1) (State.isArrayOf_alike hZ.alike Ar_q3.2.1) (g := (mkF m 11 #[.val (.ref a1), .val (.ref b_q2), .val (.int (0 : Int32)), .val (.int (0 : Int32))] [(.ref a1), (.int (0 : Int32))])) rfl rfl (hb hby d3_11) _ ?_
    rw [len_of S_q3 Nn_q3]
    show Steps p.tables e below (T_q2.setTop (mkF m 12 #[.val (.ref a1), .val (.ref b_q2), .val (.int (0 : Int32)), .val (.int (0 : Int32))] [(.int (5 : Int32)), (.int (0 : Int32))])) _
    refine XS.icmpNo X_q2.here hx rfl (hb hby d3_12) rfl (tlt (by decide : (0 : Int32) < (5 : Int32))).2.1 ?_
    show Steps p.tables e below (T_q2.setTop (mkF m 15 #[.val (.ref a1), .val (.ref b_q2), .val (.int (0 : Int32)), .val (.int (0 : Int32))] [])) _
    refine XS.aloadN X_q2.here hx rfl (hb hby d3_15) rfl rfl ?_
    show Steps p.tables e below (T_q2.setTop (mkF m 16 #[.val (.ref a1), .val (.ref b_q2), .val (.int (0 : Int32)), .val (.int (0 : Int32))] [(.ref a1)])) _
    refine XS.iloadN X_q2.here hx rfl (hb hby d3_16) rfl ?_
    show Steps p.tables e below (T_q2.setTop (mkF m 17 #[.val (.ref a1), .val (.ref b_q2), .val (.int (0 : Int32)), .val (.int (0 : Int32))] [(.int (0 : Int32)), (.ref a1)])) _
    refine X_q2.baloadBytes hx (j := (0 : Int32)) (v := (.int (92 : Int32))) (by rw [e_q2]; exact Ar_q4.1) (State.isArrayOf_alike hZ.alike Ar_q4.2.1) Ar_q4.2.2 hin_q4 hat_q4 (g := (mkF m 17 #[.val (.ref a1), .val (.ref b_q2), .val (.int (0 : Int32)), .val (.int (0 : Int32))] [(.int (0 : Int32)), (.ref a1)])) rfl rfl (hb hby d3_17) _ ?_
    show Steps p.tables e below (T_q2.setTop (mkF m 18 #[.val (.ref a1), .val (.ref b_q2), .val (.int (0 : Int32)), .val (.int (0 : Int32))] [(.int (92 : Int32))])) _
    refine XS.bipush X_q2.here hx rfl (hb hby d3_18) ?_
    show Steps p.tables e below (T_q2.setTop (mkF m 20 #[.val (.ref a1), .val (.ref b_q2), .val (.int (0 : Int32)), .val (.int (0 : Int32))] [(.int (92 : Int32)), (.int (92 : Int32))])) _
    refine XS.icmpNo X_q2.here hx rfl (hb hby d3_20) rfl (teq (by decide : (92 : Int32) = (92 : Int32))).2 ?_
    show Steps p.tables e below (T_q2.setTop (mkF m 23 #[.val (.ref a1), .val (.ref b_q2), .val (.int (0 : Int32)), .val (.int (0 : Int32))] [])) _
    refine XS.aloadN X_q2.here hx rfl (hb hby d3_23) rfl rfl ?_
    show Steps p.tables e below (T_q2.setTop (mkF m 24 #[.val (.ref a1), .val (.ref b_q2), .val (.int (0 : Int32)), .val (.int (0 : Int32))] [(.ref b_q2)])) _
    refine XS.iloadN X_q2.here hx rfl (hb hby d3_24) rfl ?_
    show Steps p.tables e below (T_q2.setTop (mkF m 25 #[.val (.ref a1), .val (.ref b_q2), .val (.int (0 : Int32)), .val (.int (0 : Int32))] [(.int (0 : Int32)), (.ref b_q2)])) _
    refine XS.aloadN X_q2.here hx rfl (hb hby d3_25) rfl rfl ?_
    show Steps p.tables e below (T_q2.setTop (mkF m 26 #[.val (.ref a1), .val (.ref b_q2), .val (.int (0 : Int32)), .val (.int (0 : Int32))] [(.ref a1), (.int (0 : Int32)), (.ref b_q2)])) _
    refine XS.iloadN X_q2.here hx rfl (hb hby d3_26) rfl ?_
    show Steps p.tables e below (T_q2.setTop (mkF m 27 #[.val (.ref a1), .val (.ref b_q2), .val (.int (0 : Int32)), .val (.int (0 : Int32))] [(.int (0 : Int32)), (.ref a1), (.int (0 : Int32)), (.ref b_q2)])) _
    refine st_q5 _ ?_
    show Steps p.tables e below (T_q5.setTop (mkF m 30 #[.val (.ref a1), .val (.ref b_q2), .val (.int (0 : Int32)), .val (.int (0 : Int32))] [(.int (nar .byte ((((F5_0 x0) <<< ((4 : Int32) &&& 31)) ||| (F5_0 y0)).toInt8.toInt32))), (.int (0 : Int32)), (.ref b_q2)])) _
    refine st_q6 _ ?_
    show Steps p.tables e below (T_q6.setTop (mkF m 31 #[.val (.ref a1), .val (.ref b_q2), .val (.int (0 : Int32)), .val (.int (0 : Int32))] [])) _
    refine XS.iinc X_q6.here hx rfl (hb hby d3_31) rfl (l' := #[.val (.ref a1), .val (.ref b_q2), .val (.int (0 : Int32)), .val (.int ((0 : Int32) + (4 : Int32)))]) rfl ?_
    show Steps p.tables e below (T_q6.setTop (mkF m 34 #[.val (.ref a1), .val (.ref b_q2), .val (.int (0 : Int32)), .val (.int ((0 : Int32) + (4 : Int32)))] [])) _
    refine XS.goto X_q6.here hx rfl (pc0 := 34) (pc' := 46) rfl (hb hby d3_34) (by decide) (by decide) ?_
    show Steps p.tables e below (T_q6.setTop (mkF m 46 #[.val (.ref a1), .val (.ref b_q2), .val (.int (0 : Int32)), .val (.int ((0 : Int32) + (4 : Int32)))] [])) _
    refine XS.iinc X_q6.here hx rfl (hb hby d3_46) rfl (l' := #[.val (.ref a1), .val (.ref b_q2), .val (.int ((0 : Int32) + (1 : Int32))), .val (.int ((0 : Int32) + (4 : Int32)))]) rfl ?_
    show Steps p.tables e below (T_q6.setTop (mkF m 49 #[.val (.ref a1), .val (.ref b_q2), .val (.int ((0 : Int32) + (1 : Int32))), .val (.int ((0 : Int32) + (4 : Int32)))] [])) _
    refine XS.goto X_q6.here hx rfl (pc0 := 49) (pc' := 9) rfl (hb hby d3_49) (by decide) (by decide) ?_
    show Steps p.tables e below (T_q6.setTop (mkF m 9 #[.val (.ref a1), .val (.ref b_q2), .val (.int ((0 : Int32) + (1 : Int32))), .val (.int ((0 : Int32) + (4 : Int32)))] [])) _
    refine XS.iloadN X_q6.here hx rfl (hb hby d3_9) rfl ?_
    show Steps p.tables e below (T_q6.setTop (mkF m 10 #[.val (.ref a1), .val (.ref b_q2), .val (.int ((0 : Int32) + (1 : Int32))), .val (.int ((0 : Int32) + (4 : Int32)))] [(.int ((0 : Int32) + (4 : Int32)))])) _
    refine XS.aloadN X_q6.here hx rfl (hb hby d3_10) rfl rfl ?_
    show Steps p.tables e below (T_q6.setTop (mkF m 11 #[.val (.ref a1), .val (.ref b_q2), .val (.int ((0 : Int32) + (1 : Int32))), .val (.int ((0 : Int32) + (4 : Int32)))] [(.ref a1), (.int ((0 : Int32) + (4 : Int32)))])) _
    refine X_q6.arraylength hx (by rw [e_q6]; exact Ar_q7.1) (State.isArrayOf_alike hZ.alike Ar_q7.2.1) (g := (mkF m 11 #[.val (.ref a1), .val (.ref b_q2), .val (.int ((0 : Int32) + (1 : Int32))), .val (.int ((0 : Int32) + (4 : Int32)))] [(.ref a1), (.int ((0 : Int32) + (4 : Int32)))])) rfl rfl (hb hby d3_11) _ ?_
    rw [len_of S_q7 Nn_q7]
    show Steps p.tables e below (T_q6.setTop (mkF m 12 #[.val (.ref a1), .val (.ref b_q2), .val (.int ((0 : Int32) + (1 : Int32))), .val (.int ((0 : Int32) + (4 : Int32)))] [(.int (5 : Int32)), (.int ((0 : Int32) + (4 : Int32)))])) _
    refine XS.icmpNo X_q6.here hx rfl (hb hby d3_12) rfl (tlt (by decide : ((0 : Int32) + (4 : Int32)) < (5 : Int32))).2.1 ?_
    show Steps p.tables e below (T_q6.setTop (mkF m 15 #[.val (.ref a1), .val (.ref b_q2), .val (.int ((0 : Int32) + (1 : Int32))), .val (.int ((0 : Int32) + (4 : Int32)))] [])) _
    refine XS.aloadN X_q6.here hx rfl (hb hby d3_15) rfl rfl ?_
    show Steps p.tables e below (T_q6.setTop (mkF m 16 #[.val (.ref a1), .val (.ref b_q2), .val (.int ((0 : Int32) + (1 : Int32))), .val (.int ((0 : Int32) + (4 : Int32)))] [(.ref a1)])) _
    refine XS.iloadN X_q6.here hx rfl (hb hby d3_16) rfl ?_
    show Steps p.tables e below (T_q6.setTop (mkF m 17 #[.val (.ref a1), .val (.ref b_q2), .val (.int ((0 : Int32) + (1 : Int32))), .val (.int ((0 : Int32) + (4 : Int32)))] [(.int ((0 : Int32) + (4 : Int32))), (.ref a1)])) _
    refine X_q6.baloadBytes hx (j := ((0 : Int32) + (4 : Int32))) (v := (.int y1)) (by rw [e_q6]; exact Ar_q8.1) (State.isArrayOf_alike hZ.alike Ar_q8.2.1) Ar_q8.2.2 hin_q8 hat_q8 (g := (mkF m 17 #[.val (.ref a1), .val (.ref b_q2), .val (.int ((0 : Int32) + (1 : Int32))), .val (.int ((0 : Int32) + (4 : Int32)))] [(.int ((0 : Int32) + (4 : Int32))), (.ref a1)])) rfl rfl (hb hby d3_17) _ ?_
    show Steps p.tables e below (T_q6.setTop (mkF m 18 #[.val (.ref a1), .val (.ref b_q2), .val (.int ((0 : Int32) + (1 : Int32))), .val (.int ((0 : Int32) + (4 : Int32)))] [(.int y1)])) _
    refine XS.bipush X_q6.here hx rfl (hb hby d3_18) ?_
    show Steps p.tables e below (T_q6.setTop (mkF m 20 #[.val (.ref a1), .val (.ref b_q2), .val (.int ((0 : Int32) + (1 : Int32))), .val (.int ((0 : Int32) + (4 : Int32)))] [(.int (92 : Int32)), (.int y1)])) _
    refine XS.icmpYes X_q6.here hx rfl (pc0 := 20) (pc' := 37) rfl (hb hby d3_20) rfl (feq hc_q9).2 (by decide) (by decide) ?_
    show Steps p.tables e below (T_q6.setTop (mkF m 37 #[.val (.ref a1), .val (.ref b_q2), .val (.int ((0 : Int32) + (1 : Int32))), .val (.int ((0 : Int32) + (4 : Int32)))] [])) _
    refine XS.aloadN X_q6.here hx rfl (hb hby d3_37) rfl rfl ?_
    show Steps p.tables e below (T_q6.setTop (mkF m 38 #[.val (.ref a1), .val (.ref b_q2), .val (.int ((0 : Int32) + (1 : Int32))), .val (.int ((0 : Int32) + (4 : Int32)))] [(.ref b_q2)])) _
    refine XS.iloadN X_q6.here hx rfl (hb hby d3_38) rfl ?_
    show Steps p.tables e below (T_q6.setTop (mkF m 39 #[.val (.ref a1), .val (.ref b_q2), .val (.int ((0 : Int32) + (1 : Int32))), .val (.int ((0 : Int32) + (4 : Int32)))] [(.int ((0 : Int32) + (1 : Int32))), (.ref b_q2)])) _
    refine XS.aloadN X_q6.here hx rfl (hb hby d3_39) rfl rfl ?_
    show Steps p.tables e below (T_q6.setTop (mkF m 40 #[.val (.ref a1), .val (.ref b_q2), .val (.int ((0 : Int32) + (1 : Int32))), .val (.int ((0 : Int32) + (4 : Int32)))] [(.ref a1), (.int ((0 : Int32) + (1 : Int32))), (.ref b_q2)])) _
    refine XS.iloadN X_q6.here hx rfl (hb hby d3_40) rfl ?_
    show Steps p.tables e below (T_q6.setTop (mkF m 41 #[.val (.ref a1), .val (.ref b_q2), .val (.int ((0 : Int32) + (1 : Int32))), .val (.int ((0 : Int32) + (4 : Int32)))] [(.int ((0 : Int32) + (4 : Int32))), (.ref a1), (.int ((0 : Int32) + (1 : Int32))), (.ref b_q2)])) _
    refine X_q6.baloadBytes hx (j := ((0 : Int32) + (4 : Int32))) (v := (.int y1)) (by rw [e_q6]; exact Ar_q10.1) (State.isArrayOf_alike hZ.alike Ar_q10.2.1) Ar_q10.2.2 hin_q10 hat_q10 (g := (mkF m 41 #[.val (.ref a1), .val (.ref b_q2), .val (.int ((0 : Int32) + (1 : Int32))), .val (.int ((0 : Int32) + (4 : Int32)))] [(.int ((0 : Int32) + (4 : Int32))), (.ref a1), (.int ((0 : Int32) + (1 : Int32))), (.ref b_q2)])) rfl rfl (hb hby d3_41) _ ?_
    show Steps p.tables e below (T_q6.setTop (mkF m 42 #[.val (.ref a1), .val (.ref b_q2), .val (.int ((0 : Int32) + (1 : Int32))), .val (.int ((0 : Int32) + (4 : Int32)))] [(.int y1), (.int ((0 : Int32) + (1 : Int32))), (.ref b_q2)])) _
    refine st_q11 _ ?_
    show Steps p.tables e below (T_q11.setTop (mkF m 43 #[.val (.ref a1), .val (.ref b_q2), .val (.int ((0 : Int32) + (1 : Int32))), .val (.int ((0 : Int32) + (4 : Int32)))] [])) _
    refine XS.iinc X_q11.here hx rfl (hb hby d3_43) rfl (l' := #[.val (.ref a1), .val (.ref b_q2), .val (.int ((0 : Int32) + (1 : Int32))), .val (.int (((0 : Int32) + (4 : Int32)) + (1 : Int32)))]) rfl ?_
    show Steps p.tables e below (T_q11.setTop (mkF m 46 #[.val (.ref a1), .val (.ref b_q2), .val (.int ((0 : Int32) + (1 : Int32))), .val (.int (((0 : Int32) + (4 : Int32)) + (1 : Int32)))] [])) _
    refine XS.iinc X_q11.here hx rfl (hb hby d3_46) rfl (l' := #[.val (.ref a1), .val (.ref b_q2), .val (.int (((0 : Int32) + (1 : Int32)) + (1 : Int32))), .val (.int (((0 : Int32) + (4 : Int32)) + (1 : Int32)))]) rfl ?_
    show Steps p.tables e below (T_q11.setTop (mkF m 49 #[.val (.ref a1), .val (.ref b_q2), .val (.int (((0 : Int32) + (1 : Int32)) + (1 : Int32))), .val (.int (((0 : Int32) + (4 : Int32)) + (1 : Int32)))] [])) _
    refine XS.goto X_q11.here hx rfl (pc0 := 49) (pc' := 9) rfl (hb hby d3_49) (by decide) (by decide) ?_
    show Steps p.tables e below (T_q11.setTop (mkF m 9 #[.val (.ref a1), .val (.ref b_q2), .val (.int (((0 : Int32) + (1 : Int32)) + (1 : Int32))), .val (.int (((0 : Int32) + (4 : Int32)) + (1 : Int32)))] [])) _
    refine XS.iloadN X_q11.here hx rfl (hb hby d3_9) rfl ?_
    show Steps p.tables e below (T_q11.setTop (mkF m 10 #[.val (.ref a1), .val (.ref b_q2), .val (.int (((0 : Int32) + (1 : Int32)) + (1 : Int32))), .val (.int (((0 : Int32) + (4 : Int32)) + (1 : Int32)))] [(.int (((0 : Int32) + (4 : Int32)) + (1 : Int32)))])) _
    refine XS.aloadN X_q11.here hx rfl (hb hby d3_10) rfl rfl ?_
    show Steps p.tables e below (T_q11.setTop (mkF m 11 #[.val (.ref a1), .val (.ref b_q2), .val (.int (((0 : Int32) + (1 : Int32)) + (1 : Int32))), .val (.int (((0 : Int32) + (4 : Int32)) + (1 : Int32)))] [(.ref a1), (.int (((0 : Int32) + (4 : Int32)) + (1 : Int32)))])) _
    refine X_q11.arraylength hx (by rw [e_q11]; exact Ar_q12.1) (State.isArrayOf_alike hZ.alike Ar_q12.2.1) (g := (mkF m 11 #[.val (.ref a1), .val (.ref b_q2), .val (.int (((0 : Int32) + (1 : Int32)) + (1 : Int32))), .val (.int (((0 : Int32) + (4 : Int32)) + (1 : Int32)))] [(.ref a1), (.int (((0 : Int32) + (4 : Int32)) + (1 : Int32)))])) rfl rfl (hb hby d3_11) _ ?_
    rw [len_of S_q12 Nn_q12]
    show Steps p.tables e below (T_q11.setTop (mkF m 12 #[.val (.ref a1), .val (.ref b_q2), .val (.int (((0 : Int32) + (1 : Int32)) + (1 : Int32))), .val (.int (((0 : Int32) + (4 : Int32)) + (1 : Int32)))] [(.int (5 : Int32)), (.int (((0 : Int32) + (4 : Int32)) + (1 : Int32)))])) _
    refine XS.icmpYes X_q11.here hx rfl (pc0 := 12) (pc' := 52) rfl (hb hby d3_12) rfl (flt (by decide : ¬ ((((0 : Int32) + (4 : Int32)) + (1 : Int32)) < (5 : Int32)))).2.1 (by decide) (by decide) ?_
    show Steps p.tables e below (T_q11.setTop (mkF m 52 #[.val (.ref a1), .val (.ref b_q2), .val (.int (((0 : Int32) + (1 : Int32)) + (1 : Int32))), .val (.int (((0 : Int32) + (4 : Int32)) + (1 : Int32)))] [])) _
    refine XS.aloadN X_q11.here hx rfl (hb hby d3_52) rfl rfl ?_
    show Steps p.tables e below (T_q11.setTop (mkF m 53 #[.val (.ref a1), .val (.ref b_q2), .val (.int (((0 : Int32) + (1 : Int32)) + (1 : Int32))), .val (.int (((0 : Int32) + (4 : Int32)) + (1 : Int32)))] [(.ref b_q2)])) _
    refine XS.iloadN X_q11.here hx rfl (hb hby d3_53) rfl ?_
    show Steps p.tables e below (T_q11.setTop (mkF m 54 #[.val (.ref a1), .val (.ref b_q2), .val (.int (((0 : Int32) + (1 : Int32)) + (1 : Int32))), .val (.int (((0 : Int32) + (4 : Int32)) + (1 : Int32)))] [(.int (((0 : Int32) + (1 : Int32)) + (1 : Int32))), (.ref b_q2)])) _
    refine st_q13 _ ?_
    show Steps p.tables e below (T_q13.setTop (mkF m 57 #[.val (.ref a1), .val (.ref b_q2), .val (.int (((0 : Int32) + (1 : Int32)) + (1 : Int32))), .val (.int (((0 : Int32) + (4 : Int32)) + (1 : Int32)))] [(.ref r_q13)])) _
    jvm_step X_q13.here [X_q13.here.top, hx, (hb hby d3_57), X_q13.method', Bd.returns, Value.isRef, FieldType.isReference]
    first | (intro acts; rw [hr _ acts rfl rfl rfl]) | rw [hr _ _ rfl rfl rfl]
    exact Steps.refl _
  · show Q_rm3_10 Z a1 k1 x0 y0 y1 h0 n0 _ T_q13.heap _
    exact ⟨r_q13, kr_q13, rfl, N_q13, K_q13, Vr_q13⟩
def Q_rm3_01 (Z : State) (a1 : Addr) (k1 : ClassId) (y0 : Int32) (x1 : Int32) (y1 : Int32) (h0 : Heap) (n0 : Nat) (v : Option Value) (h : Heap) (L : List Loc) : Prop := ∃ (r : Addr) (k : ClassId), v = some (.ref r) ∧ Fr n0 L ∧ Keep h0 h [] ∧ Arv Z h r k .byte (2 : Int32) [(.int (nar .byte y0)), (.int (nar .byte (nar .byte ((((F5_0 x1) <<< ((4 : Int32) &&& 31)) ||| (F5_0 y1)).toInt8.toInt32))))] (.int (0 : Int32))
set_option maxRecDepth 65536 in
set_option maxHeartbeats 40000000 in
theorem rm3_01 (l : Launch) (Z : State) (a0 : Array Value) (hw : ∀ d ∈ tables_1, d.before a0 Z = true) (ws : List Jvm.Cond) (a1 : Addr) (k1 : ClassId) (y0 : Int32) (x1 : Int32) (y1 : Int32) (h0 : Heap) (n0 : Nat) (Z0 : n0 ≤ h0.size) (V_a1 : Arv Z h0 a1 k1 .byte (5 : Int32) [(.int y0), (.int (92 : Int32)), (.int (120 : Int32)), (.int x1), (.int y1)] (.int (0 : Int32))) (hc_q5 : ¬ (y0 = (92 : Int32))) (he_q10_hc_q7 : ¬ ((F5_0 x1) < (0 : Int32))) (he_q10_hc_q8 : ¬ ((F5_0 y1) < (0 : Int32))) :
    MetFree l (⟨"com/example/presplit/presplit/escape/BinaryEscape", "decode", "([B)[B"⟩ : MethodName) (head1 (Jvm.Cond.code (⟨"com/example/presplit/presplit/escape/BinaryEscape", "decode", "([B)[B"⟩ : MethodName) prog_1_method_3_code 4 (some (.array .byte)) :: ws) ({ frames := 3, cells := 2, slots := 7, locals := 100 } : Room)) (fun a U => a = #[(.ref a1)] ∧ Z.Warmed39 U.vm ∧ U.heap = h0) (fun _ _ _ _ _ => True) (fun _ U o U' => ∃ v L, o = .returned v ∧ Q_rm3_01 Z a1 k1 y0 x1 y1 h0 n0 v U'.heap L ∧ FrameEnd U o U' L ({ frames := 3, cells := 2, slots := 7, locals := 100 } : Room).cells ({ frames := 3, cells := 2, slots := 7, locals := 100 } : Room).slots) := by
  refine MetFree.of_bodySF (plainFor_of_name pn_3) hisR ?_
  intro p e s m args below meth c s₁ Bd hml0 hP hK
  obtain ⟨rfl, hZ, hh⟩ := hP
  have hx := Bd.exec
  have hby := Bd.bytes
  have hml : c.maxLocals = 4 := hml0
  have hown : s.vm.findClass "com/example/presplit/presplit/escape/BinaryEscape" = some m.cls := findClass_of_methodNamed Bd.named
  have hnm := (name_of_methodNamed Bd.named Bd.method).1
  have X0 : Stand p l e ({ frames := 3, cells := 2, slots := 7, locals := 100 } : Room) s m #[(.ref a1)] below meth c s₁ [] 0 0 := Stand.of_body Bd
  have e0 : s₁.heap = h0 := by rw [← hh, Bd.state]; rfl
  have N0 := Fr.nil n0
  have pre0 : ∀ t, Steps p.tables e below (s₁.setTop (mkF m 0 #[.val (.ref a1), .unset, .unset, .unset] [])) t → Steps p.tables e below (s₁.setTop (entryFrame m #[(.ref a1)] 4)) t := fun t k => castTop (ef_3 m a1) k
  have K0 : Keep h0 h0 [] := Keep.refl _ _
  obtain ⟨cl_q1, Ar_q1, qk_q1, S_q1, Nn_q1, H_q1, G_q1⟩ := id V_a1
  obtain ⟨T_q2, h_q2, k_q2, X_q2, e_q2, E_q2, A_q2, EX_q2, st_q2⟩ := newPE X0 hx hZ (hw _ (List.mem_of_getElem? (i := 0) rfl)) e0 (g := (mkF m 2 #[.val (.ref a1), .unset, .unset, .unset] [(.int (5 : Int32))])) rfl (hb hby d3_2) rfl (by decide) (cap := 5) (by decide) (by decide) (by decide) (by decide) (ad := "[B") (by decide)
  obtain ⟨b_q2, g_q2⟩ : ∃ z, z = h0.size := ⟨_, rfl⟩
  rw [← g_q2] at A_q2 EX_q2 st_q2
  have ne_a1_b_q2 : a1 ≠ b_q2 := Nat.ne_of_lt (Nat.lt_of_lt_of_le V_a1.lt (Nat.le_of_eq g_q2.symm))
  have ge_b_q2 : n0 ≤ b_q2 := Nat.le_trans (Nat.le_trans Z0 K0.1) (Nat.le_of_eq g_q2.symm)
  have sz_b_q2 : h0.size ≤ b_q2 := Nat.le_trans K0.1 (Nat.le_of_eq g_q2.symm)
  have K_q2 : Keep h0 h_q2 [] := K0.ext E_q2
  have V_a1__q2 := V_a1.ext E_q2
  have V_b_q2 : Arv Z h_q2 b_q2 k_q2 .byte (5 : Int32) [(.int (0 : Int32)), (.int (0 : Int32))] (.int (0 : Int32)) := (Arv.new A_q2 (by decide)).pad (pad_rep [] (.int (0 : Int32)) 2)
  obtain ⟨cl_q3, Ar_q3, qk_q3, S_q3, Nn_q3, H_q3, G_q3⟩ := id V_a1__q2
  obtain ⟨cl_q4, Ar_q4, qk_q4, S_q4, Nn_q4, H_q4, G_q4⟩ := id V_a1__q2
  have hin_q4 : ¬ ((0 : Int32) < 0 ∨ cl_q4.slots.size ≤ ((0 : Int32)).toNatClampNeg) := inb_of S_q4 ⟨by decide, by decide⟩
  have hat_q4 : cl_q4.slots[((0 : Int32)).toNatClampNeg]? = some (.int y0) := H_q4 0 (Nat.lt_of_not_le fun q => hin_q4 (Or.inr q))
  obtain ⟨cl_q6, Ar_q6, qk_q6, S_q6, Nn_q6, H_q6, G_q6⟩ := id V_a1__q2
  have hin_q6 : ¬ ((0 : Int32) < 0 ∨ cl_q6.slots.size ≤ ((0 : Int32)).toNatClampNeg) := inb_of S_q6 ⟨by decide, by decide⟩
  have hat_q6 : cl_q6.slots[((0 : Int32)).toNatClampNeg]? = some (.int y0) := H_q6 0 (Nat.lt_of_not_le fun q => hin_q6 (Or.inr q))
  obtain ⟨cl_q7, Ar_q7, qk_q7, S_q7, Nn_q7, H_q7, G_q7⟩ := id V_b_q2
  have hin_q7 : ¬ ((0 : Int32) < 0 ∨ cl_q7.slots.size ≤ ((0 : Int32)).toNatClampNeg) := inb_of S_q7 ⟨by decide, by decide⟩
  obtain ⟨T_q7, h_q7, X_q7, e_q7, W_q7, st_q7⟩ := stB X_q2 hx hZ e_q2 Ar_q7 (j := (0 : Int32)) hin_q7 (g := (mkF m 42 #[.val (.ref a1), .val (.ref b_q2), .val (.int (0 : Int32)), .val (.int (0 : Int32))] [(.int y0), (.int (0 : Int32)), (.ref b_q2)])) rfl rfl (hb hby d3_42)
  have V_a1__q7 := V_a1__q2.other W_q7 ne_a1_b_q2
  have EX_q2__q7 := EX_q2.wr W_q7
  have V_b_q2__q7 : Arv Z h_q7 b_q2 k_q2 .byte (5 : Int32) [(.int (nar .byte y0)), (.int (0 : Int32))] (.int (0 : Int32)) := Arv.set Ar_q7 qk_q7 S_q7 Nn_q7 H_q7 G_q7 (fits_nar_byte _) W_q7 0 rfl (Nat.le_of_ble_eq_true rfl)
  have K_q7 : Keep h0 h_q7 [] := K_q2.wr W_q7 (Or.inr sz_b_q2)
  have N_q7 := Fr.snoc X_q7 N0 ge_b_q2
  obtain ⟨cl_q8, Ar_q8, qk_q8, S_q8, Nn_q8, H_q8, G_q8⟩ := id V_a1__q7
  obtain ⟨cl_q9, Ar_q9, qk_q9, S_q9, Nn_q9, H_q9, G_q9⟩ := id V_a1__q7
  have hin_q9 : ¬ (((0 : Int32) + (1 : Int32)) < 0 ∨ cl_q9.slots.size ≤ (((0 : Int32) + (1 : Int32))).toNatClampNeg) := inb_of S_q9 ⟨by decide, by decide⟩
  have hat_q9 : cl_q9.slots[(((0 : Int32) + (1 : Int32))).toNatClampNeg]? = some (.int (92 : Int32)) := H_q9 1 (Nat.lt_of_not_le fun q => hin_q9 (Or.inr q))
  obtain ⟨_, _, ⟨T_q10, L_q10, k_q10, n_q10⟩, -, X_q10, ⟨Lc_q10, hQ_q10, l_q10, y_q10, z_q10⟩, st_q10⟩ := Jvm.LawKit.callS X_q7 hx (y := (⟨"com/example/presplit/presplit/escape/BinaryEscape", "escapedByte", "([BI)B"⟩ : MethodName)) hown (mvT hZ (hw _ (List.mem_of_getElem? (i := 12) rfl))) (mvT hZ (hw _ (List.mem_of_getElem? (i := 13) rfl))) (mvT hZ (hw _ (List.mem_of_getElem? (i := 10) rfl))) (mvT hZ (hw _ (List.mem_of_getElem? (i := 14) rfl))) (by decide) (backOf (W := 2) (rm4_5_1 l Z a0 hw [] a1 k1 (.int y0) x1 y1 h_q7 n0 (Nat.le_trans Z0 K_q7.1) V_a1__q7 he_q10_hc_q7 he_q10_hc_q8) hZ (hw _ (List.mem_of_getElem? (i := 14) rfl)) (hw _ (List.mem_of_getElem? (i := 10) rfl)) (by decide) (by decide)) (g := (mkF m 27 #[.val (.ref a1), .val (.ref b_q2), .val (.int ((0 : Int32) + (1 : Int32))), .val (.int ((0 : Int32) + (1 : Int32)))] [(.int ((0 : Int32) + (1 : Int32))), (.ref a1), (.int ((0 : Int32) + (1 : Int32))), (.ref b_q2)])) rfl (by rw [hml]; rfl) (argsL := [(.ref a1), (.int ((0 : Int32) + (1 : Int32)))]) (rest := [(.int ((0 : Int32) + (1 : Int32))), (.ref b_q2)]) (lenOf pd___BI_B rfl) rfl (by show 2 * 0 + _ ≤ _; exact Nat.le_of_eq rfl) (hb hby d3_27) (fun _ _ => ⟨rfl, e_q7, (by decide : 1 + 0 ≤ _), (by decide : 5 + 0 ≤ _)⟩)
  dsimp only [Pt.U, Pt.locs, Pt.cells, Pt.slots] at X_q10 l_q10 y_q10 z_q10 st_q10 hQ_q10
  subst l_q10 y_q10 z_q10
  obtain ⟨rfl, Nq_q10, eq_q10⟩ := hQ_q10
  have Kq_q10 : Keep h_q7 T_q10.heap [] := by rw [eq_q10]; exact Keep.refl _ _
  have N_q10 := Fr.app N_q7 Nq_q10
  have V_a1__q10 := V_a1__q7.keep Kq_q10 List.not_mem_nil
  have V_b_q2__q10 := V_b_q2__q7.keep Kq_q10 List.not_mem_nil
  have EX_q2__q10 := EX_q2__q7.keep Kq_q10
  have K_q10 : Keep h0 T_q10.heap [] := K_q7.trans Kq_q10 (fun x hx => nomatch hx)
  obtain ⟨cl_q11, Ar_q11, qk_q11, S_q11, Nn_q11, H_q11, G_q11⟩ := id V_b_q2__q10
  have hin_q11 : ¬ (((0 : Int32) + (1 : Int32)) < 0 ∨ cl_q11.slots.size ≤ (((0 : Int32) + (1 : Int32))).toNatClampNeg) := inb_of S_q11 ⟨by decide, by decide⟩
  obtain ⟨T_q11, h_q11, X_q11, e_q11, W_q11, st_q11⟩ := stB X_q10 hx hZ rfl Ar_q11 (j := ((0 : Int32) + (1 : Int32))) hin_q11 (g := (mkF m 30 #[.val (.ref a1), .val (.ref b_q2), .val (.int ((0 : Int32) + (1 : Int32))), .val (.int ((0 : Int32) + (1 : Int32)))] [(.int (nar .byte ((((F5_0 x1) <<< ((4 : Int32) &&& 31)) ||| (F5_0 y1)).toInt8.toInt32))), (.int ((0 : Int32) + (1 : Int32))), (.ref b_q2)])) rfl rfl (hb hby d3_30)
  have V_a1__q11 := V_a1__q10.other W_q11 ne_a1_b_q2
  have EX_q2__q11 := EX_q2__q10.wr W_q11
  have V_b_q2__q11 : Arv Z h_q11 b_q2 k_q2 .byte (5 : Int32) [(.int (nar .byte y0)), (.int (nar .byte (nar .byte ((((F5_0 x1) <<< ((4 : Int32) &&& 31)) ||| (F5_0 y1)).toInt8.toInt32))))] (.int (0 : Int32)) := Arv.set Ar_q11 qk_q11 S_q11 Nn_q11 H_q11 G_q11 (fits_nar_byte _) W_q11 1 rfl (Nat.le_of_ble_eq_true rfl)
  have K_q11 : Keep h0 h_q11 [] := K_q10.wr W_q11 (Or.inr sz_b_q2)
  have N_q11 := Fr.snoc X_q11 N_q10 ge_b_q2
  obtain ⟨cl_q12, Ar_q12, qk_q12, S_q12, Nn_q12, H_q12, G_q12⟩ := id V_a1__q11
  obtain ⟨_, _, ⟨T_q13, L_q13, k_q13, n_q13⟩, -, X_q13, ⟨Lc_q13, hQ_q13, l_q13, y_q13, z_q13⟩, st_q13⟩ := Jvm.LawKit.callS X_q11 hx (y := (⟨"java/util/Arrays", "copyOf", "([BI)[B"⟩ : MethodName)) hown (mvT hZ (hw _ (List.mem_of_getElem? (i := 18) rfl))) (mvT hZ (hw _ (List.mem_of_getElem? (i := 19) rfl))) (mvT hZ (hw _ (List.mem_of_getElem? (i := 20) rfl))) (mvT hZ (hw _ (List.mem_of_getElem? (i := 21) rfl))) (by decide) (backOf (W := 0) (rm6_5 l Z a0 hw [] b_q2 k_q2 (.int (nar .byte y0)) (.int (nar .byte (nar .byte ((((F5_0 x1) <<< ((4 : Int32) &&& 31)) ||| (F5_0 y1)).toInt8.toInt32)))) h_q11 n0 (Nat.le_trans Z0 K_q11.1) V_b_q2__q11 EX_q2__q11) hZ (hw _ (List.mem_of_getElem? (i := 21) rfl)) (hw _ (List.mem_of_getElem? (i := 20) rfl)) (by decide) (by decide)) (g := (mkF m 54 #[.val (.ref a1), .val (.ref b_q2), .val (.int (((0 : Int32) + (1 : Int32)) + (1 : Int32))), .val (.int (((0 : Int32) + (1 : Int32)) + (4 : Int32)))] [(.int (((0 : Int32) + (1 : Int32)) + (1 : Int32))), (.ref b_q2)])) rfl (by rw [hml]; rfl) (argsL := [(.ref b_q2), (.int (((0 : Int32) + (1 : Int32)) + (1 : Int32)))]) (rest := []) (lenOf pd___BI__B rfl) rfl (by show 2 * 0 + _ ≤ _; exact Nat.le_of_eq rfl) (hb hby d3_54) (fun _ _ => ⟨rfl, e_q11, (by decide : 1 + 1 ≤ _), (by decide : 5 + 2 ≤ _)⟩)
  dsimp only [Pt.U, Pt.locs, Pt.cells, Pt.slots] at X_q13 l_q13 y_q13 z_q13 st_q13 hQ_q13
  subst l_q13 y_q13 z_q13
  obtain ⟨r_q13, kr_q13, rfl, Nq_q13, Kq_q13, ger_q13, szr_q13, Vr_q13⟩ := hQ_q13
  have N_q13 := Fr.app N_q11 Nq_q13
  have V_a1__q13 := V_a1__q11.keep Kq_q13 List.not_mem_nil
  have V_b_q2__q13 := V_b_q2__q11.keep Kq_q13 List.not_mem_nil
  have EX_q2__q13 := EX_q2__q11.keep Kq_q13
  have K_q13 : Keep h0 T_q13.heap [] := K_q11.trans Kq_q13 (fun x hx => nomatch hx)
  obtain ⟨fs, hr, hrun, hended, hW, hsame⟩ := X_q13.leave (v := some (.ref r_q13)) (fun h => by rw [Bd.returns] at h; cases h) Bd.notSynchronized
  refine ⟨_, _, pre0 _ ?_, hrun, hended, _, _, rfl, ?_, ⟨_, rfl⟩, hW, hsame.mono (by decide) (by decide)⟩
  · show Steps p.tables e below (s₁.setTop (mkF m 0 #[.val (.ref a1), .unset, .unset, .unset] [])) _
    refine XS.aloadN X0.here hx rfl (hb hby d3_0) rfl rfl ?_
    show Steps p.tables e below (s₁.setTop (mkF m 1 #[.val (.ref a1), .unset, .unset, .unset] [(.ref a1)])) _
    refine X0.arraylength hx (by rw [e0]; exact Ar_q1.1) (State.isArrayOf_alike hZ.alike Ar_q1.2.1) (g := (mkF m 1 #[.val (.ref a1), .unset, .unset, .unset] [(.ref a1)])) rfl rfl (hb hby d3_1) _ ?_
    rw [len_of S_q1 Nn_q1]
    show Steps p.tables e below (s₁.setTop (mkF m 2 #[.val (.ref a1), .unset, .unset, .unset] [(.int (5 : Int32))])) _
    refine st_q2 _ ?_
    show Steps p.tables e below (T_q2.setTop (mkF m 4 #[.val (.ref a1), .unset, .unset, .unset] [(.ref b_q2)])) _
    refine XS.astoreN X_q2.here hx rfl (hb hby d3_4) rfl rfl (l' := #[.val (.ref a1), .val (.ref b_q2), .unset, .unset]) rfl ?_
    show Steps p.tables e below (T_q2.setTop (mkF m 5 #[.val (.ref a1), .val (.ref b_q2), .unset, .unset] [])) _
    refine XS.iconst X_q2.here hx rfl (hb hby d3_5) ?_
    show Steps p.tables e below (T_q2.setTop (mkF m 6 #[.val (.ref a1), .val (.ref b_q2), .unset, .unset] [(.int (0 : Int32))])) _
    refine XS.istoreN X_q2.here hx rfl (hb hby d3_6) rfl (l' := #[.val (.ref a1), .val (.ref b_q2), .val (.int (0 : Int32)), .unset]) rfl ?_
    show Steps p.tables e below (T_q2.setTop (mkF m 7 #[.val (.ref a1), .val (.ref b_q2), .val (.int (0 : Int32)), .unset] [])) _
    refine XS.iconst X_q2.here hx rfl (hb hby d3_7) ?_
    show Steps p.tables e below (T_q2.setTop (mkF m 8 #[.val (.ref a1), .val (.ref b_q2), .val (.int (0 : Int32)), .unset] [(.int (0 : Int32))])) _
    refine XS.istoreN X_q2.here hx rfl (hb hby d3_8) rfl (l' := #[.val (.ref a1), .val (.ref b_q2), .val (.int (0 : Int32)), .val (.int (0 : Int32))]) rfl ?_
    show Steps p.tables e below (T_q2.setTop (mkF m 9 #[.val (.ref a1), .val (.ref b_q2), .val (.int (0 : Int32)), .val (.int (0 : Int32))] [])) _
    refine XS.iloadN X_q2.here hx rfl (hb hby d3_9) rfl ?_
    show Steps p.tables e below (T_q2.setTop (mkF m 10 #[.val (.ref a1), .val (.ref b_q2), .val (.int (0 : Int32)), .val (.int (0 : Int32))] [(.int (0 : Int32))])) _
    refine XS.aloadN X_q2.here hx rfl (hb hby d3_10) rfl rfl ?_
    show Steps p.tables e below (T_q2.setTop (mkF m 11 #[.val (.ref a1), .val (.ref b_q2), .val (.int (0 : Int32)), .val (.int (0 : Int32))] [(.ref a1), (.int (0 : Int32))])) _
    refine X_q2.arraylength hx (by rw [e_q2]; exact Ar_q3.1) (State.isArrayOf_alike hZ.alike Ar_q3.2.1) (g := (mkF m 11 #[.val (.ref a1), .val (.ref b_q2), .val (.int (0 : Int32)), .val (.int (0 : Int32))] [(.ref a1), (.int (0 : Int32))])) rfl rfl (hb hby d3_11) _ ?_
    rw [len_of S_q3 Nn_q3]
    show Steps p.tables e below (T_q2.setTop (mkF m 12 #[.val (.ref a1), .val (.ref b_q2), .val (.int (0 : Int32)), .val (.int (0 : Int32))] [(.int (5 : Int32)), (.int (0 : Int32))])) _
    refine XS.icmpNo X_q2.here hx rfl (hb hby d3_12) rfl (tlt (by decide : (0 : Int32) < (5 : Int32))).2.1 ?_
    show Steps p.tables e below (T_q2.setTop (mkF m 15 #[.val (.ref a1), .val (.ref b_q2), .val (.int (0 : Int32)), .val (.int (0 : Int32))] [])) _
    refine XS.aloadN X_q2.here hx rfl (hb hby d3_15) rfl rfl ?_
    show Steps p.tables e below (T_q2.setTop (mkF m 16 #[.val (.ref a1), .val (.ref b_q2), .val (.int (0 : Int32)), .val (.int (0 : Int32))] [(.ref a1)])) _
    refine XS.iloadN X_q2.here hx rfl (hb hby d3_16) rfl ?_
    show Steps p.tables e below (T_q2.setTop (mkF m 17 #[.val (.ref a1), .val (.ref b_q2), .val (.int (0 : Int32)), .val (.int (0 : Int32))] [(.int (0 : Int32)), (.ref a1)])) _
    refine X_q2.baloadBytes hx (j := (0 : Int32)) (v := (.int y0)) (by rw [e_q2]; exact Ar_q4.1) (State.isArrayOf_alike hZ.alike Ar_q4.2.1) Ar_q4.2.2 hin_q4 hat_q4 (g := (mkF m 17 #[.val (.ref a1), .val (.ref b_q2), .val (.int (0 : Int32)), .val (.int (0 : Int32))] [(.int (0 : Int32)), (.ref a1)])) rfl rfl (hb hby d3_17) _ ?_
    show Steps p.tables e below (T_q2.setTop (mkF m 18 #[.val (.ref a1), .val (.ref b_q2), .val (.int (0 : Int32)), .val (.int (0 : Int32))] [(.int y0)])) _
    refine XS.bipush X_q2.here hx rfl (hb hby d3_18) ?_
    show Steps p.tables e below (T_q2.setTop (mkF m 20 #[.val (.ref a1), .val (.ref b_q2), .val (.int (0 : Int32)), .val (.int (0 : Int32))] [(.int (92 : Int32)), (.int y0)])) _
    refine XS.icmpYes X_q2.here hx rfl (pc0 := 20) (pc' := 37) rfl (hb hby d3_20) rfl (feq hc_q5).2 (by decide) (by decide) ?_
    show Steps p.tables e below (T_q2.setTop (mkF m 37 #[.val (.ref a1), .val (.ref b_q2), .val (.int (0 : Int32)), .val (.int (0 : Int32))] [])) _
    refine XS.aloadN X_q2.here hx rfl (hb hby d3_37) rfl rfl ?_
    show Steps p.tables e below (T_q2.setTop (mkF m 38 #[.val (.ref a1), .val (.ref b_q2), .val (.int (0 : Int32)), .val (.int (0 : Int32))] [(.ref b_q2)])) _
    refine XS.iloadN X_q2.here hx rfl (hb hby d3_38) rfl ?_
    show Steps p.tables e below (T_q2.setTop (mkF m 39 #[.val (.ref a1), .val (.ref b_q2), .val (.int (0 : Int32)), .val (.int (0 : Int32))] [(.int (0 : Int32)), (.ref b_q2)])) _
    refine XS.aloadN X_q2.here hx rfl (hb hby d3_39) rfl rfl ?_
    show Steps p.tables e below (T_q2.setTop (mkF m 40 #[.val (.ref a1), .val (.ref b_q2), .val (.int (0 : Int32)), .val (.int (0 : Int32))] [(.ref a1), (.int (0 : Int32)), (.ref b_q2)])) _
    refine XS.iloadN X_q2.here hx rfl (hb hby d3_40) rfl ?_
    show Steps p.tables e below (T_q2.setTop (mkF m 41 #[.val (.ref a1), .val (.ref b_q2), .val (.int (0 : Int32)), .val (.int (0 : Int32))] [(.int (0 : Int32)), (.ref a1), (.int (0 : Int32)), (.ref b_q2)])) _
    refine X_q2.baloadBytes hx (j := (0 : Int32)) (v := (.int y0)) (by rw [e_q2]; exact Ar_q6.1) (State.isArrayOf_alike hZ.alike Ar_q6.2.1) Ar_q6.2.2 hin_q6 hat_q6 (g := (mkF m 41 #[.val (.ref a1), .val (.ref b_q2), .val (.int (0 : Int32)), .val (.int (0 : Int32))] [(.int (0 : Int32)), (.ref a1), (.int (0 : Int32)), (.ref b_q2)])) rfl rfl (hb hby d3_41) _ ?_
    show Steps p.tables e below (T_q2.setTop (mkF m 42 #[.val (.ref a1), .val (.ref b_q2), .val (.int (0 : Int32)), .val (.int (0 : Int32))] [(.int y0), (.int (0 : Int32)), (.ref b_q2)])) _
    refine st_q7 _ ?_
    show Steps p.tables e below (T_q7.setTop (mkF m 43 #[.val (.ref a1), .val (.ref b_q2), .val (.int (0 : Int32)), .val (.int (0 : Int32))] [])) _
    refine XS.iinc X_q7.here hx rfl (hb hby d3_43) rfl (l' := #[.val (.ref a1), .val (.ref b_q2), .val (.int (0 : Int32)), .val (.int ((0 : Int32) + (1 : Int32)))]) rfl ?_
    show Steps p.tables e below (T_q7.setTop (mkF m 46 #[.val (.ref a1), .val (.ref b_q2), .val (.int (0 : Int32)), .val (.int ((0 : Int32) + (1 : Int32)))] [])) _
    refine XS.iinc X_q7.here hx rfl (hb hby d3_46) rfl (l' := #[.val (.ref a1), .val (.ref b_q2), .val (.int ((0 : Int32) + (1 : Int32))), .val (.int ((0 : Int32) + (1 : Int32)))]) rfl ?_
    show Steps p.tables e below (T_q7.setTop (mkF m 49 #[.val (.ref a1), .val (.ref b_q2), .val (.int ((0 : Int32) + (1 : Int32))), .val (.int ((0 : Int32) + (1 : Int32)))] [])) _
    refine XS.goto X_q7.here hx rfl (pc0 := 49) (pc' := 9) rfl (hb hby d3_49) (by decide) (by decide) ?_
    show Steps p.tables e below (T_q7.setTop (mkF m 9 #[.val (.ref a1), .val (.ref b_q2), .val (.int ((0 : Int32) + (1 : Int32))), .val (.int ((0 : Int32) + (1 : Int32)))] [])) _
    refine XS.iloadN X_q7.here hx rfl (hb hby d3_9) rfl ?_
    show Steps p.tables e below (T_q7.setTop (mkF m 10 #[.val (.ref a1), .val (.ref b_q2), .val (.int ((0 : Int32) + (1 : Int32))), .val (.int ((0 : Int32) + (1 : Int32)))] [(.int ((0 : Int32) + (1 : Int32)))])) _
    refine XS.aloadN X_q7.here hx rfl (hb hby d3_10) rfl rfl ?_
    show Steps p.tables e below (T_q7.setTop (mkF m 11 #[.val (.ref a1), .val (.ref b_q2), .val (.int ((0 : Int32) + (1 : Int32))), .val (.int ((0 : Int32) + (1 : Int32)))] [(.ref a1), (.int ((0 : Int32) + (1 : Int32)))])) _
    refine X_q7.arraylength hx (by rw [e_q7]; exact Ar_q8.1) (State.isArrayOf_alike hZ.alike Ar_q8.2.1) (g := (mkF m 11 #[.val (.ref a1), .val (.ref b_q2), .val (.int ((0 : Int32) + (1 : Int32))), .val (.int ((0 : Int32) + (1 : Int32)))] [(.ref a1), (.int ((0 : Int32) + (1 : Int32)))])) rfl rfl (hb hby d3_11) _ ?_
    rw [len_of S_q8 Nn_q8]
    show Steps p.tables e below (T_q7.setTop (mkF m 12 #[.val (.ref a1), .val (.ref b_q2), .val (.int ((0 : Int32) + (1 : Int32))), .val (.int ((0 : Int32) + (1 : Int32)))] [(.int (5 : Int32)), (.int ((0 : Int32) + (1 : Int32)))])) _
    refine XS.icmpNo X_q7.here hx rfl (hb hby d3_12) rfl (tlt (by decide : ((0 : Int32) + (1 : Int32)) < (5 : Int32))).2.1 ?_
    show Steps p.tables e below (T_q7.setTop (mkF m 15 #[.val (.ref a1), .val (.ref b_q2), .val (.int ((0 : Int32) + (1 : Int32))), .val (.int ((0 : Int32) + (1 : Int32)))] [])) _
    refine XS.aloadN X_q7.here hx rfl (hb hby d3_15) rfl rfl ?_
    show Steps p.tables e below (T_q7.setTop (mkF m 16 #[.val (.ref a1), .val (.ref b_q2), .val (.int ((0 : Int32) + (1 : Int32))), .val (.int ((0 : Int32) + (1 : Int32)))] [(.ref a1)])) _
    refine XS.iloadN X_q7.here hx rfl (hb hby d3_16) rfl ?_
    show Steps p.tables e below (T_q7.setTop (mkF m 17 #[.val (.ref a1), .val (.ref b_q2), .val (.int ((0 : Int32) + (1 : Int32))), .val (.int ((0 : Int32) + (1 : Int32)))] [(.int ((0 : Int32) + (1 : Int32))), (.ref a1)])) _
    refine X_q7.baloadBytes hx (j := ((0 : Int32) + (1 : Int32))) (v := (.int (92 : Int32))) (by rw [e_q7]; exact Ar_q9.1) (State.isArrayOf_alike hZ.alike Ar_q9.2.1) Ar_q9.2.2 hin_q9 hat_q9 (g := (mkF m 17 #[.val (.ref a1), .val (.ref b_q2), .val (.int ((0 : Int32) + (1 : Int32))), .val (.int ((0 : Int32) + (1 : Int32)))] [(.int ((0 : Int32) + (1 : Int32))), (.ref a1)])) rfl rfl (hb hby d3_17) _ ?_
    show Steps p.tables e below (T_q7.setTop (mkF m 18 #[.val (.ref a1), .val (.ref b_q2), .val (.int ((0 : Int32) + (1 : Int32))), .val (.int ((0 : Int32) + (1 : Int32)))] [(.int (92 : Int32))])) _
    refine XS.bipush X_q7.here hx rfl (hb hby d3_18) ?_
    show Steps p.tables e below (T_q7.setTop (mkF m 20 #[.val (.ref a1), .val (.ref b_q2), .val (.int ((0 : Int32) + (1 : Int32))), .val (.int ((0 : Int32) + (1 : Int32)))] [(.int (92 : Int32)), (.int (92 : Int32))])) _
    refine XS.icmpNo X_q7.here hx rfl (hb hby d3_20) rfl (teq (by decide : (92 : Int32) = (92 : Int32))).2 ?_
    show Steps p.tables e below (T_q7.setTop (mkF m 23 #[.val (.ref a1), .val (.ref b_q2), .val (.int ((0 : Int32) + (1 : Int32))), .val (.int ((0 : Int32) + (1 : Int32)))] [])) _
    refine XS.aloadN X_q7.here hx rfl (hb hby d3_23) rfl rfl ?_
    show Steps p.tables e below (T_q7.setTop (mkF m 24 #[.val (.ref a1), .val (.ref b_q2), .val (.int ((0 : Int32) + (1 : Int32))), .val (.int ((0 : Int32) + (1 : Int32)))] [(.ref b_q2)])) _
    refine XS.iloadN X_q7.here hx rfl (hb hby d3_24) rfl ?_
    show Steps p.tables e below (T_q7.setTop (mkF m 25 #[.val (.ref a1), .val (.ref b_q2), .val (.int ((0 : Int32) + (1 : Int32))), .val (.int ((0 : Int32) + (1 : Int32)))] [(.int ((0 : Int32) + (1 : Int32))), (.ref b_q2)])) _
    refine XS.aloadN X_q7.here hx rfl (hb hby d3_25) rfl rfl ?_
    show Steps p.tables e below (T_q7.setTop (mkF m 26 #[.val (.ref a1), .val (.ref b_q2), .val (.int ((0 : Int32) + (1 : Int32))), .val (.int ((0 : Int32) + (1 : Int32)))] [(.ref a1), (.int ((0 : Int32) + (1 : Int32))), (.ref b_q2)])) _
    refine XS.iloadN X_q7.here hx rfl (hb hby d3_26) rfl ?_
    show Steps p.tables e below (T_q7.setTop (mkF m 27 #[.val (.ref a1), .val (.ref b_q2), .val (.int ((0 : Int32) + (1 : Int32))), .val (.int ((0 : Int32) + (1 : Int32)))] [(.int ((0 : Int32) + (1 : Int32))), (.ref a1), (.int ((0 : Int32) + (1 : Int32))), (.ref b_q2)])) _
    refine st_q10 _ ?_
    show Steps p.tables e below (T_q10.setTop (mkF m 30 #[.val (.ref a1), .val (.ref b_q2), .val (.int ((0 : Int32) + (1 : Int32))), .val (.int ((0 : Int32) + (1 : Int32)))] [(.int (nar .byte ((((F5_0 x1) <<< ((4 : Int32) &&& 31)) ||| (F5_0 y1)).toInt8.toInt32))), (.int ((0 : Int32) + (1 : Int32))), (.ref b_q2)])) _
    refine st_q11 _ ?_
    show Steps p.tables e below (T_q11.setTop (mkF m 31 #[.val (.ref a1), .val (.ref b_q2), .val (.int ((0 : Int32) + (1 : Int32))), .val (.int ((0 : Int32) + (1 : Int32)))] [])) _
    refine XS.iinc X_q11.here hx rfl (hb hby d3_31) rfl (l' := #[.val (.ref a1), .val (.ref b_q2), .val (.int ((0 : Int32) + (1 : Int32))), .val (.int (((0 : Int32) + (1 : Int32)) + (4 : Int32)))]) rfl ?_
    show Steps p.tables e below (T_q11.setTop (mkF m 34 #[.val (.ref a1), .val (.ref b_q2), .val (.int ((0 : Int32) + (1 : Int32))), .val (.int (((0 : Int32) + (1 : Int32)) + (4 : Int32)))] [])) _
    refine XS.goto X_q11.here hx rfl (pc0 := 34) (pc' := 46) rfl (hb hby d3_34) (by decide) (by decide) ?_
    show Steps p.tables e below (T_q11.setTop (mkF m 46 #[.val (.ref a1), .val (.ref b_q2), .val (.int ((0 : Int32) + (1 : Int32))), .val (.int (((0 : Int32) + (1 : Int32)) + (4 : Int32)))] [])) _
    refine XS.iinc X_q11.here hx rfl (hb hby d3_46) rfl (l' := #[.val (.ref a1), .val (.ref b_q2), .val (.int (((0 : Int32) + (1 : Int32)) + (1 : Int32))), .val (.int (((0 : Int32) + (1 : Int32)) + (4 : Int32)))]) rfl ?_
    show Steps p.tables e below (T_q11.setTop (mkF m 49 #[.val (.ref a1), .val (.ref b_q2), .val (.int (((0 : Int32) + (1 : Int32)) + (1 : Int32))), .val (.int (((0 : Int32) + (1 : Int32)) + (4 : Int32)))] [])) _
    refine XS.goto X_q11.here hx rfl (pc0 := 49) (pc' := 9) rfl (hb hby d3_49) (by decide) (by decide) ?_
    show Steps p.tables e below (T_q11.setTop (mkF m 9 #[.val (.ref a1), .val (.ref b_q2), .val (.int (((0 : Int32) + (1 : Int32)) + (1 : Int32))), .val (.int (((0 : Int32) + (1 : Int32)) + (4 : Int32)))] [])) _
    refine XS.iloadN X_q11.here hx rfl (hb hby d3_9) rfl ?_
    show Steps p.tables e below (T_q11.setTop (mkF m 10 #[.val (.ref a1), .val (.ref b_q2), .val (.int (((0 : Int32) + (1 : Int32)) + (1 : Int32))), .val (.int (((0 : Int32) + (1 : Int32)) + (4 : Int32)))] [(.int (((0 : Int32) + (1 : Int32)) + (4 : Int32)))])) _
    refine XS.aloadN X_q11.here hx rfl (hb hby d3_10) rfl rfl ?_
    show Steps p.tables e below (T_q11.setTop (mkF m 11 #[.val (.ref a1), .val (.ref b_q2), .val (.int (((0 : Int32) + (1 : Int32)) + (1 : Int32))), .val (.int (((0 : Int32) + (1 : Int32)) + (4 : Int32)))] [(.ref a1), (.int (((0 : Int32) + (1 : Int32)) + (4 : Int32)))])) _
    refine X_q11.arraylength hx (by rw [e_q11]; exact Ar_q12.1) (State.isArrayOf_alike hZ.alike Ar_q12.2.1) (g := (mkF m 11 #[.val (.ref a1), .val (.ref b_q2), .val (.int (((0 : Int32) + (1 : Int32)) + (1 : Int32))), .val (.int (((0 : Int32) + (1 : Int32)) + (4 : Int32)))] [(.ref a1), (.int (((0 : Int32) + (1 : Int32)) + (4 : Int32)))])) rfl rfl (hb hby d3_11) _ ?_
    rw [len_of S_q12 Nn_q12]
    show Steps p.tables e below (T_q11.setTop (mkF m 12 #[.val (.ref a1), .val (.ref b_q2), .val (.int (((0 : Int32) + (1 : Int32)) + (1 : Int32))), .val (.int (((0 : Int32) + (1 : Int32)) + (4 : Int32)))] [(.int (5 : Int32)), (.int (((0 : Int32) + (1 : Int32)) + (4 : Int32)))])) _
    refine XS.icmpYes X_q11.here hx rfl (pc0 := 12) (pc' := 52) rfl (hb hby d3_12) rfl (flt (by decide : ¬ ((((0 : Int32) + (1 : Int32)) + (4 : Int32)) < (5 : Int32)))).2.1 (by decide) (by decide) ?_
    show Steps p.tables e below (T_q11.setTop (mkF m 52 #[.val (.ref a1), .val (.ref b_q2), .val (.int (((0 : Int32) + (1 : Int32)) + (1 : Int32))), .val (.int (((0 : Int32) + (1 : Int32)) + (4 : Int32)))] [])) _
    refine XS.aloadN X_q11.here hx rfl (hb hby d3_52) rfl rfl ?_
    show Steps p.tables e below (T_q11.setTop (mkF m 53 #[.val (.ref a1), .val (.ref b_q2), .val (.int (((0 : Int32) + (1 : Int32)) + (1 : Int32))), .val (.int (((0 : Int32) + (1 : Int32)) + (4 : Int32)))] [(.ref b_q2)])) _
    refine XS.iloadN X_q11.here hx rfl (hb hby d3_53) rfl ?_
    show Steps p.tables e below (T_q11.setTop (mkF m 54 #[.val (.ref a1), .val (.ref b_q2), .val (.int (((0 : Int32) + (1 : Int32)) + (1 : Int32))), .val (.int (((0 : Int32) + (1 : Int32)) + (4 : Int32)))] [(.int (((0 : Int32) + (1 : Int32)) + (1 : Int32))), (.ref b_q2)])) _
    refine st_q13 _ ?_
    show Steps p.tables e below (T_q13.setTop (mkF m 57 #[.val (.ref a1), .val (.ref b_q2), .val (.int (((0 : Int32) + (1 : Int32)) + (1 : Int32))), .val (.int (((0 : Int32) + (1 : Int32)) + (4 : Int32)))] [(.ref r_q13)])) _
    jvm_step X_q13.here [X_q13.here.top, hx, (hb hby d3_57), X_q13.method', Bd.returns, Value.isRef, FieldType.isReference]
    first | (intro acts; rw [hr _ acts rfl rfl rfl]) | rw [hr _ _ rfl rfl rfl]
    exact Steps.refl _
  · show Q_rm3_01 Z a1 k1 y0 x1 y1 h0 n0 _ T_q13.heap _
    exact ⟨r_q13, kr_q13, rfl, N_q13, K_q13, Vr_q13⟩
def Q_rm3_11 (Z : State) (a1 : Addr) (k1 : ClassId) (x0 : Int32) (y0 : Int32) (x1 : Int32) (y1 : Int32) (h0 : Heap) (n0 : Nat) (v : Option Value) (h : Heap) (L : List Loc) : Prop := ∃ (r : Addr) (k : ClassId), v = some (.ref r) ∧ Fr n0 L ∧ Keep h0 h [] ∧ Arv Z h r k .byte (2 : Int32) [(.int (nar .byte (nar .byte ((((F5_0 x0) <<< ((4 : Int32) &&& 31)) ||| (F5_0 y0)).toInt8.toInt32)))), (.int (nar .byte (nar .byte ((((F5_0 x1) <<< ((4 : Int32) &&& 31)) ||| (F5_0 y1)).toInt8.toInt32))))] (.int (0 : Int32))
set_option maxRecDepth 65536 in
set_option maxHeartbeats 40000000 in
theorem rm3_11 (l : Launch) (Z : State) (a0 : Array Value) (hw : ∀ d ∈ tables_1, d.before a0 Z = true) (ws : List Jvm.Cond) (a1 : Addr) (k1 : ClassId) (x0 : Int32) (y0 : Int32) (x1 : Int32) (y1 : Int32) (h0 : Heap) (n0 : Nat) (Z0 : n0 ≤ h0.size) (V_a1 : Arv Z h0 a1 k1 .byte (8 : Int32) [(.int (92 : Int32)), (.int (120 : Int32)), (.int x0), (.int y0), (.int (92 : Int32)), (.int (120 : Int32)), (.int x1), (.int y1)] (.int (0 : Int32))) (he_q5_hc_q7 : ¬ ((F5_0 x0) < (0 : Int32))) (he_q5_hc_q8 : ¬ ((F5_0 y0) < (0 : Int32))) (he_q9_hc_q7 : ¬ ((F5_0 x1) < (0 : Int32))) (he_q9_hc_q8 : ¬ ((F5_0 y1) < (0 : Int32))) :
    MetFree l (⟨"com/example/presplit/presplit/escape/BinaryEscape", "decode", "([B)[B"⟩ : MethodName) (head1 (Jvm.Cond.code (⟨"com/example/presplit/presplit/escape/BinaryEscape", "decode", "([B)[B"⟩ : MethodName) prog_1_method_3_code 4 (some (.array .byte)) :: ws) ({ frames := 3, cells := 2, slots := 10, locals := 100 } : Room)) (fun a U => a = #[(.ref a1)] ∧ Z.Warmed39 U.vm ∧ U.heap = h0) (fun _ _ _ _ _ => True) (fun _ U o U' => ∃ v L, o = .returned v ∧ Q_rm3_11 Z a1 k1 x0 y0 x1 y1 h0 n0 v U'.heap L ∧ FrameEnd U o U' L ({ frames := 3, cells := 2, slots := 10, locals := 100 } : Room).cells ({ frames := 3, cells := 2, slots := 10, locals := 100 } : Room).slots) := by
  refine MetFree.of_bodySF (plainFor_of_name pn_3) hisR ?_
  intro p e s m args below meth c s₁ Bd hml0 hP hK
  obtain ⟨rfl, hZ, hh⟩ := hP
  have hx := Bd.exec
  have hby := Bd.bytes
  have hml : c.maxLocals = 4 := hml0
  have hown : s.vm.findClass "com/example/presplit/presplit/escape/BinaryEscape" = some m.cls := findClass_of_methodNamed Bd.named
  have hnm := (name_of_methodNamed Bd.named Bd.method).1
  have X0 : Stand p l e ({ frames := 3, cells := 2, slots := 10, locals := 100 } : Room) s m #[(.ref a1)] below meth c s₁ [] 0 0 := Stand.of_body Bd
  have e0 : s₁.heap = h0 := by rw [← hh, Bd.state]; rfl
  have N0 := Fr.nil n0
  have pre0 : ∀ t, Steps p.tables e below (s₁.setTop (mkF m 0 #[.val (.ref a1), .unset, .unset, .unset] [])) t → Steps p.tables e below (s₁.setTop (entryFrame m #[(.ref a1)] 4)) t := fun t k => castTop (ef_3 m a1) k
  have K0 : Keep h0 h0 [] := Keep.refl _ _
  obtain ⟨cl_q1, Ar_q1, qk_q1, S_q1, Nn_q1, H_q1, G_q1⟩ := id V_a1
  obtain ⟨T_q2, h_q2, k_q2, X_q2, e_q2, E_q2, A_q2, EX_q2, st_q2⟩ := newPE X0 hx hZ (hw _ (List.mem_of_getElem? (i := 0) rfl)) e0 (g := (mkF m 2 #[.val (.ref a1), .unset, .unset, .unset] [(.int (8 : Int32))])) rfl (hb hby d3_2) rfl (by decide) (cap := 8) (by decide) (by decide) (by decide) (by decide) (ad := "[B") (by decide)
  obtain ⟨b_q2, g_q2⟩ : ∃ z, z = h0.size := ⟨_, rfl⟩
  rw [← g_q2] at A_q2 EX_q2 st_q2
  have ne_a1_b_q2 : a1 ≠ b_q2 := Nat.ne_of_lt (Nat.lt_of_lt_of_le V_a1.lt (Nat.le_of_eq g_q2.symm))
  have ge_b_q2 : n0 ≤ b_q2 := Nat.le_trans (Nat.le_trans Z0 K0.1) (Nat.le_of_eq g_q2.symm)
  have sz_b_q2 : h0.size ≤ b_q2 := Nat.le_trans K0.1 (Nat.le_of_eq g_q2.symm)
  have K_q2 : Keep h0 h_q2 [] := K0.ext E_q2
  have V_a1__q2 := V_a1.ext E_q2
  have V_b_q2 : Arv Z h_q2 b_q2 k_q2 .byte (8 : Int32) [(.int (0 : Int32)), (.int (0 : Int32))] (.int (0 : Int32)) := (Arv.new A_q2 (by decide)).pad (pad_rep [] (.int (0 : Int32)) 2)
  obtain ⟨cl_q3, Ar_q3, qk_q3, S_q3, Nn_q3, H_q3, G_q3⟩ := id V_a1__q2
  obtain ⟨cl_q4, Ar_q4, qk_q4, S_q4, Nn_q4, H_q4, G_q4⟩ := id V_a1__q2
  have hin_q4 : ¬ ((0 : Int32) < 0 ∨ cl_q4.slots.size ≤ ((0 : Int32)).toNatClampNeg) := inb_of S_q4 ⟨by decide, by decide⟩
  have hat_q4 : cl_q4.slots[((0 : Int32)).toNatClampNeg]? = some (.int (92 : Int32)) := H_q4 0 (Nat.lt_of_not_le fun q => hin_q4 (Or.inr q))
  obtain ⟨_, _, ⟨T_q5, L_q5, k_q5, n_q5⟩, -, X_q5, ⟨Lc_q5, hQ_q5, l_q5, y_q5, z_q5⟩, st_q5⟩ := Jvm.LawKit.callS X_q2 hx (y := (⟨"com/example/presplit/presplit/escape/BinaryEscape", "escapedByte", "([BI)B"⟩ : MethodName)) hown (mvT hZ (hw _ (List.mem_of_getElem? (i := 12) rfl))) (mvT hZ (hw _ (List.mem_of_getElem? (i := 13) rfl))) (mvT hZ (hw _ (List.mem_of_getElem? (i := 10) rfl))) (mvT hZ (hw _ (List.mem_of_getElem? (i := 14) rfl))) (by decide) (backOf (W := 2) (rm4_8_0 l Z a0 hw [] a1 k1 (.int (92 : Int32)) (.int (120 : Int32)) (.int x1) (.int y1) x0 y0 h_q2 n0 (Nat.le_trans Z0 K_q2.1) V_a1__q2 he_q5_hc_q7 he_q5_hc_q8) hZ (hw _ (List.mem_of_getElem? (i := 14) rfl)) (hw _ (List.mem_of_getElem? (i := 10) rfl)) (by decide) (by decide)) (g := (mkF m 27 #[.val (.ref a1), .val (.ref b_q2), .val (.int (0 : Int32)), .val (.int (0 : Int32))] [(.int (0 : Int32)), (.ref a1), (.int (0 : Int32)), (.ref b_q2)])) rfl (by rw [hml]; rfl) (argsL := [(.ref a1), (.int (0 : Int32))]) (rest := [(.int (0 : Int32)), (.ref b_q2)]) (lenOf pd___BI_B rfl) rfl (by show 2 * 0 + _ ≤ _; exact Nat.le_of_eq rfl) (hb hby d3_27) (fun _ _ => ⟨rfl, e_q2, (by decide : 1 + 0 ≤ _), (by decide : 8 + 0 ≤ _)⟩)
  dsimp only [Pt.U, Pt.locs, Pt.cells, Pt.slots] at X_q5 l_q5 y_q5 z_q5 st_q5 hQ_q5
  subst l_q5 y_q5 z_q5
  obtain ⟨rfl, Nq_q5, eq_q5⟩ := hQ_q5
  have Kq_q5 : Keep h_q2 T_q5.heap [] := by rw [eq_q5]; exact Keep.refl _ _
  have N_q5 := Fr.app N0 Nq_q5
  have V_a1__q5 := V_a1__q2.keep Kq_q5 List.not_mem_nil
  have V_b_q2__q5 := V_b_q2.keep Kq_q5 List.not_mem_nil
  have EX_q2__q5 := EX_q2.keep Kq_q5
  have K_q5 : Keep h0 T_q5.heap [] := K_q2.trans Kq_q5 (fun x hx => nomatch hx)
  obtain ⟨cl_q6, Ar_q6, qk_q6, S_q6, Nn_q6, H_q6, G_q6⟩ := id V_b_q2__q5
  have hin_q6 : ¬ ((0 : Int32) < 0 ∨ cl_q6.slots.size ≤ ((0 : Int32)).toNatClampNeg) := inb_of S_q6 ⟨by decide, by decide⟩
  obtain ⟨T_q6, h_q6, X_q6, e_q6, W_q6, st_q6⟩ := stB X_q5 hx hZ rfl Ar_q6 (j := (0 : Int32)) hin_q6 (g := (mkF m 30 #[.val (.ref a1), .val (.ref b_q2), .val (.int (0 : Int32)), .val (.int (0 : Int32))] [(.int (nar .byte ((((F5_0 x0) <<< ((4 : Int32) &&& 31)) ||| (F5_0 y0)).toInt8.toInt32))), (.int (0 : Int32)), (.ref b_q2)])) rfl rfl (hb hby d3_30)
  have V_a1__q6 := V_a1__q5.other W_q6 ne_a1_b_q2
  have EX_q2__q6 := EX_q2__q5.wr W_q6
  have V_b_q2__q6 : Arv Z h_q6 b_q2 k_q2 .byte (8 : Int32) [(.int (nar .byte (nar .byte ((((F5_0 x0) <<< ((4 : Int32) &&& 31)) ||| (F5_0 y0)).toInt8.toInt32)))), (.int (0 : Int32))] (.int (0 : Int32)) := Arv.set Ar_q6 qk_q6 S_q6 Nn_q6 H_q6 G_q6 (fits_nar_byte _) W_q6 0 rfl (Nat.le_of_ble_eq_true rfl)
  have K_q6 : Keep h0 h_q6 [] := K_q5.wr W_q6 (Or.inr sz_b_q2)
  have N_q6 := Fr.snoc X_q6 N_q5 ge_b_q2
  obtain ⟨cl_q7, Ar_q7, qk_q7, S_q7, Nn_q7, H_q7, G_q7⟩ := id V_a1__q6
  obtain ⟨cl_q8, Ar_q8, qk_q8, S_q8, Nn_q8, H_q8, G_q8⟩ := id V_a1__q6
  have hin_q8 : ¬ (((0 : Int32) + (4 : Int32)) < 0 ∨ cl_q8.slots.size ≤ (((0 : Int32) + (4 : Int32))).toNatClampNeg) := inb_of S_q8 ⟨by decide, by decide⟩
  have hat_q8 : cl_q8.slots[(((0 : Int32) + (4 : Int32))).toNatClampNeg]? = some (.int (92 : Int32)) := H_q8 4 (Nat.lt_of_not_le fun q => hin_q8 (Or.inr q))
  obtain ⟨_, _, ⟨T_q9, L_q9, k_q9, n_q9⟩, -, X_q9, ⟨Lc_q9, hQ_q9, l_q9, y_q9, z_q9⟩, st_q9⟩ := Jvm.LawKit.callS X_q6 hx (y := (⟨"com/example/presplit/presplit/escape/BinaryEscape", "escapedByte", "([BI)B"⟩ : MethodName)) hown (mvT hZ (hw _ (List.mem_of_getElem? (i := 12) rfl))) (mvT hZ (hw _ (List.mem_of_getElem? (i := 13) rfl))) (mvT hZ (hw _ (List.mem_of_getElem? (i := 10) rfl))) (mvT hZ (hw _ (List.mem_of_getElem? (i := 14) rfl))) (by decide) (backOf (W := 2) (rm4_8_4 l Z a0 hw [] a1 k1 (.int (92 : Int32)) (.int (120 : Int32)) (.int x0) (.int y0) x1 y1 h_q6 n0 (Nat.le_trans Z0 K_q6.1) V_a1__q6 he_q9_hc_q7 he_q9_hc_q8) hZ (hw _ (List.mem_of_getElem? (i := 14) rfl)) (hw _ (List.mem_of_getElem? (i := 10) rfl)) (by decide) (by decide)) (g := (mkF m 27 #[.val (.ref a1), .val (.ref b_q2), .val (.int ((0 : Int32) + (1 : Int32))), .val (.int ((0 : Int32) + (4 : Int32)))] [(.int ((0 : Int32) + (4 : Int32))), (.ref a1), (.int ((0 : Int32) + (1 : Int32))), (.ref b_q2)])) rfl (by rw [hml]; rfl) (argsL := [(.ref a1), (.int ((0 : Int32) + (4 : Int32)))]) (rest := [(.int ((0 : Int32) + (1 : Int32))), (.ref b_q2)]) (lenOf pd___BI_B rfl) rfl (by show 2 * 0 + _ ≤ _; exact Nat.le_of_eq rfl) (hb hby d3_27) (fun _ _ => ⟨rfl, e_q6, (by decide : 1 + 0 ≤ _), (by decide : 8 + 0 ≤ _)⟩)
  dsimp only [Pt.U, Pt.locs, Pt.cells, Pt.slots] at X_q9 l_q9 y_q9 z_q9 st_q9 hQ_q9
  subst l_q9 y_q9 z_q9
  obtain ⟨rfl, Nq_q9, eq_q9⟩ := hQ_q9
  have Kq_q9 : Keep h_q6 T_q9.heap [] := by rw [eq_q9]; exact Keep.refl _ _
  have N_q9 := Fr.app N_q6 Nq_q9
  have V_a1__q9 := V_a1__q6.keep Kq_q9 List.not_mem_nil
  have V_b_q2__q9 := V_b_q2__q6.keep Kq_q9 List.not_mem_nil
  have EX_q2__q9 := EX_q2__q6.keep Kq_q9
  have K_q9 : Keep h0 T_q9.heap [] := K_q6.trans Kq_q9 (fun x hx => nomatch hx)
  obtain ⟨cl_q10, Ar_q10, qk_q10, S_q10, Nn_q10, H_q10, G_q10⟩ := id V_b_q2__q9
  have hin_q10 : ¬ (((0 : Int32) + (1 : Int32)) < 0 ∨ cl_q10.slots.size ≤ (((0 : Int32) + (1 : Int32))).toNatClampNeg) := inb_of S_q10 ⟨by decide, by decide⟩
  obtain ⟨T_q10, h_q10, X_q10, e_q10, W_q10, st_q10⟩ := stB X_q9 hx hZ rfl Ar_q10 (j := ((0 : Int32) + (1 : Int32))) hin_q10 (g := (mkF m 30 #[.val (.ref a1), .val (.ref b_q2), .val (.int ((0 : Int32) + (1 : Int32))), .val (.int ((0 : Int32) + (4 : Int32)))] [(.int (nar .byte ((((F5_0 x1) <<< ((4 : Int32) &&& 31)) ||| (F5_0 y1)).toInt8.toInt32))), (.int ((0 : Int32) + (1 : Int32))), (.ref b_q2)])) rfl rfl (hb hby d3_30)
  have V_a1__q10 := V_a1__q9.other W_q10 ne_a1_b_q2
  have EX_q2__q10 := EX_q2__q9.wr W_q10
  have V_b_q2__q10 : Arv Z h_q10 b_q2 k_q2 .byte (8 : Int32) [(.int (nar .byte (nar .byte ((((F5_0 x0) <<< ((4 : Int32) &&& 31)) ||| (F5_0 y0)).toInt8.toInt32)))), (.int (nar .byte (nar .byte ((((F5_0 x1) <<< ((4 : Int32) &&& 31)) ||| (F5_0 y1)).toInt8.toInt32))))] (.int (0 : Int32)) := Arv.set Ar_q10 qk_q10 S_q10 Nn_q10 H_q10 G_q10 (fits_nar_byte _) W_q10 1 rfl (Nat.le_of_ble_eq_true rfl)
  have K_q10 : Keep h0 h_q10 [] := K_q9.wr W_q10 (Or.inr sz_b_q2)
  have N_q10 := Fr.snoc X_q10 N_q9 ge_b_q2
  obtain ⟨cl_q11, Ar_q11, qk_q11, S_q11, Nn_q11, H_q11, G_q11⟩ := id V_a1__q10
  obtain ⟨_, _, ⟨T_q12, L_q12, k_q12, n_q12⟩, -, X_q12, ⟨Lc_q12, hQ_q12, l_q12, y_q12, z_q12⟩, st_q12⟩ := Jvm.LawKit.callS X_q10 hx (y := (⟨"java/util/Arrays", "copyOf", "([BI)[B"⟩ : MethodName)) hown (mvT hZ (hw _ (List.mem_of_getElem? (i := 18) rfl))) (mvT hZ (hw _ (List.mem_of_getElem? (i := 19) rfl))) (mvT hZ (hw _ (List.mem_of_getElem? (i := 20) rfl))) (mvT hZ (hw _ (List.mem_of_getElem? (i := 21) rfl))) (by decide) (backOf (W := 0) (rm6_8 l Z a0 hw [] b_q2 k_q2 (.int (nar .byte (nar .byte ((((F5_0 x0) <<< ((4 : Int32) &&& 31)) ||| (F5_0 y0)).toInt8.toInt32)))) (.int (nar .byte (nar .byte ((((F5_0 x1) <<< ((4 : Int32) &&& 31)) ||| (F5_0 y1)).toInt8.toInt32)))) h_q10 n0 (Nat.le_trans Z0 K_q10.1) V_b_q2__q10 EX_q2__q10) hZ (hw _ (List.mem_of_getElem? (i := 21) rfl)) (hw _ (List.mem_of_getElem? (i := 20) rfl)) (by decide) (by decide)) (g := (mkF m 54 #[.val (.ref a1), .val (.ref b_q2), .val (.int (((0 : Int32) + (1 : Int32)) + (1 : Int32))), .val (.int (((0 : Int32) + (4 : Int32)) + (4 : Int32)))] [(.int (((0 : Int32) + (1 : Int32)) + (1 : Int32))), (.ref b_q2)])) rfl (by rw [hml]; rfl) (argsL := [(.ref b_q2), (.int (((0 : Int32) + (1 : Int32)) + (1 : Int32)))]) (rest := []) (lenOf pd___BI__B rfl) rfl (by show 2 * 0 + _ ≤ _; exact Nat.le_of_eq rfl) (hb hby d3_54) (fun _ _ => ⟨rfl, e_q10, (by decide : 1 + 1 ≤ _), (by decide : 8 + 2 ≤ _)⟩)
  dsimp only [Pt.U, Pt.locs, Pt.cells, Pt.slots] at X_q12 l_q12 y_q12 z_q12 st_q12 hQ_q12
  subst l_q12 y_q12 z_q12
  obtain ⟨r_q12, kr_q12, rfl, Nq_q12, Kq_q12, ger_q12, szr_q12, Vr_q12⟩ := hQ_q12
  have N_q12 := Fr.app N_q10 Nq_q12
  have V_a1__q12 := V_a1__q10.keep Kq_q12 List.not_mem_nil
  have V_b_q2__q12 := V_b_q2__q10.keep Kq_q12 List.not_mem_nil
  have EX_q2__q12 := EX_q2__q10.keep Kq_q12
  have K_q12 : Keep h0 T_q12.heap [] := K_q10.trans Kq_q12 (fun x hx => nomatch hx)
  obtain ⟨fs, hr, hrun, hended, hW, hsame⟩ := X_q12.leave (v := some (.ref r_q12)) (fun h => by rw [Bd.returns] at h; cases h) Bd.notSynchronized
  refine ⟨_, _, pre0 _ ?_, hrun, hended, _, _, rfl, ?_, ⟨_, rfl⟩, hW, hsame.mono (by decide) (by decide)⟩
  · show Steps p.tables e below (s₁.setTop (mkF m 0 #[.val (.ref a1), .unset, .unset, .unset] [])) _
    refine XS.aloadN X0.here hx rfl (hb hby d3_0) rfl rfl ?_
    show Steps p.tables e below (s₁.setTop (mkF m 1 #[.val (.ref a1), .unset, .unset, .unset] [(.ref a1)])) _
    refine X0.arraylength hx (by rw [e0]; exact Ar_q1.1) (State.isArrayOf_alike hZ.alike Ar_q1.2.1) (g := (mkF m 1 #[.val (.ref a1), .unset, .unset, .unset] [(.ref a1)])) rfl rfl (hb hby d3_1) _ ?_
    rw [len_of S_q1 Nn_q1]
    show Steps p.tables e below (s₁.setTop (mkF m 2 #[.val (.ref a1), .unset, .unset, .unset] [(.int (8 : Int32))])) _
    refine st_q2 _ ?_
    show Steps p.tables e below (T_q2.setTop (mkF m 4 #[.val (.ref a1), .unset, .unset, .unset] [(.ref b_q2)])) _
    refine XS.astoreN X_q2.here hx rfl (hb hby d3_4) rfl rfl (l' := #[.val (.ref a1), .val (.ref b_q2), .unset, .unset]) rfl ?_
    show Steps p.tables e below (T_q2.setTop (mkF m 5 #[.val (.ref a1), .val (.ref b_q2), .unset, .unset] [])) _
    refine XS.iconst X_q2.here hx rfl (hb hby d3_5) ?_
    show Steps p.tables e below (T_q2.setTop (mkF m 6 #[.val (.ref a1), .val (.ref b_q2), .unset, .unset] [(.int (0 : Int32))])) _
    refine XS.istoreN X_q2.here hx rfl (hb hby d3_6) rfl (l' := #[.val (.ref a1), .val (.ref b_q2), .val (.int (0 : Int32)), .unset]) rfl ?_
    show Steps p.tables e below (T_q2.setTop (mkF m 7 #[.val (.ref a1), .val (.ref b_q2), .val (.int (0 : Int32)), .unset] [])) _
    refine XS.iconst X_q2.here hx rfl (hb hby d3_7) ?_
    show Steps p.tables e below (T_q2.setTop (mkF m 8 #[.val (.ref a1), .val (.ref b_q2), .val (.int (0 : Int32)), .unset] [(.int (0 : Int32))])) _
    refine XS.istoreN X_q2.here hx rfl (hb hby d3_8) rfl (l' := #[.val (.ref a1), .val (.ref b_q2), .val (.int (0 : Int32)), .val (.int (0 : Int32))]) rfl ?_
    show Steps p.tables e below (T_q2.setTop (mkF m 9 #[.val (.ref a1), .val (.ref b_q2), .val (.int (0 : Int32)), .val (.int (0 : Int32))] [])) _
    refine XS.iloadN X_q2.here hx rfl (hb hby d3_9) rfl ?_
    show Steps p.tables e below (T_q2.setTop (mkF m 10 #[.val (.ref a1), .val (.ref b_q2), .val (.int (0 : Int32)), .val (.int (0 : Int32))] [(.int (0 : Int32))])) _
    refine XS.aloadN X_q2.here hx rfl (hb hby d3_10) rfl rfl ?_
    show Steps p.tables e below (T_q2.setTop (mkF m 11 #[.val (.ref a1), .val (.ref b_q2), .val (.int (0 : Int32)), .val (.int (0 : Int32))] [(.ref a1), (.int (0 : Int32))])) _
    refine X_q2.arraylength hx (by rw [e_q2]; exact Ar_q3.1) (State.isArrayOf_alike hZ.alike Ar_q3.2.1) (g := (mkF m 11 #[.val (.ref a1), .val (.ref b_q2), .val (.int (0 : Int32)), .val (.int (0 : Int32))] [(.ref a1), (.int (0 : Int32))])) rfl rfl (hb hby d3_11) _ ?_
    rw [len_of S_q3 Nn_q3]
    show Steps p.tables e below (T_q2.setTop (mkF m 12 #[.val (.ref a1), .val (.ref b_q2), .val (.int (0 : Int32)), .val (.int (0 : Int32))] [(.int (8 : Int32)), (.int (0 : Int32))])) _
    refine XS.icmpNo X_q2.here hx rfl (hb hby d3_12) rfl (tlt (by decide : (0 : Int32) < (8 : Int32))).2.1 ?_
    show Steps p.tables e below (T_q2.setTop (mkF m 15 #[.val (.ref a1), .val (.ref b_q2), .val (.int (0 : Int32)), .val (.int (0 : Int32))] [])) _
    refine XS.aloadN X_q2.here hx rfl (hb hby d3_15) rfl rfl ?_
    show Steps p.tables e below (T_q2.setTop (mkF m 16 #[.val (.ref a1), .val (.ref b_q2), .val (.int (0 : Int32)), .val (.int (0 : Int32))] [(.ref a1)])) _
    refine XS.iloadN X_q2.here hx rfl (hb hby d3_16) rfl ?_
    show Steps p.tables e below (T_q2.setTop (mkF m 17 #[.val (.ref a1), .val (.ref b_q2), .val (.int (0 : Int32)), .val (.int (0 : Int32))] [(.int (0 : Int32)), (.ref a1)])) _
    refine X_q2.baloadBytes hx (j := (0 : Int32)) (v := (.int (92 : Int32))) (by rw [e_q2]; exact Ar_q4.1) (State.isArrayOf_alike hZ.alike Ar_q4.2.1) Ar_q4.2.2 hin_q4 hat_q4 (g := (mkF m 17 #[.val (.ref a1), .val (.ref b_q2), .val (.int (0 : Int32)), .val (.int (0 : Int32))] [(.int (0 : Int32)), (.ref a1)])) rfl rfl (hb hby d3_17) _ ?_
    show Steps p.tables e below (T_q2.setTop (mkF m 18 #[.val (.ref a1), .val (.ref b_q2), .val (.int (0 : Int32)), .val (.int (0 : Int32))] [(.int (92 : Int32))])) _
    refine XS.bipush X_q2.here hx rfl (hb hby d3_18) ?_
    show Steps p.tables e below (T_q2.setTop (mkF m 20 #[.val (.ref a1), .val (.ref b_q2), .val (.int (0 : Int32)), .val (.int (0 : Int32))] [(.int (92 : Int32)), (.int (92 : Int32))])) _
    refine XS.icmpNo X_q2.here hx rfl (hb hby d3_20) rfl (teq (by decide : (92 : Int32) = (92 : Int32))).2 ?_
    show Steps p.tables e below (T_q2.setTop (mkF m 23 #[.val (.ref a1), .val (.ref b_q2), .val (.int (0 : Int32)), .val (.int (0 : Int32))] [])) _
    refine XS.aloadN X_q2.here hx rfl (hb hby d3_23) rfl rfl ?_
    show Steps p.tables e below (T_q2.setTop (mkF m 24 #[.val (.ref a1), .val (.ref b_q2), .val (.int (0 : Int32)), .val (.int (0 : Int32))] [(.ref b_q2)])) _
    refine XS.iloadN X_q2.here hx rfl (hb hby d3_24) rfl ?_
    show Steps p.tables e below (T_q2.setTop (mkF m 25 #[.val (.ref a1), .val (.ref b_q2), .val (.int (0 : Int32)), .val (.int (0 : Int32))] [(.int (0 : Int32)), (.ref b_q2)])) _
    refine XS.aloadN X_q2.here hx rfl (hb hby d3_25) rfl rfl ?_
    show Steps p.tables e below (T_q2.setTop (mkF m 26 #[.val (.ref a1), .val (.ref b_q2), .val (.int (0 : Int32)), .val (.int (0 : Int32))] [(.ref a1), (.int (0 : Int32)), (.ref b_q2)])) _
    refine XS.iloadN X_q2.here hx rfl (hb hby d3_26) rfl ?_
    show Steps p.tables e below (T_q2.setTop (mkF m 27 #[.val (.ref a1), .val (.ref b_q2), .val (.int (0 : Int32)), .val (.int (0 : Int32))] [(.int (0 : Int32)), (.ref a1), (.int (0 : Int32)), (.ref b_q2)])) _
    refine st_q5 _ ?_
    show Steps p.tables e below (T_q5.setTop (mkF m 30 #[.val (.ref a1), .val (.ref b_q2), .val (.int (0 : Int32)), .val (.int (0 : Int32))] [(.int (nar .byte ((((F5_0 x0) <<< ((4 : Int32) &&& 31)) ||| (F5_0 y0)).toInt8.toInt32))), (.int (0 : Int32)), (.ref b_q2)])) _
    refine st_q6 _ ?_
    show Steps p.tables e below (T_q6.setTop (mkF m 31 #[.val (.ref a1), .val (.ref b_q2), .val (.int (0 : Int32)), .val (.int (0 : Int32))] [])) _
    refine XS.iinc X_q6.here hx rfl (hb hby d3_31) rfl (l' := #[.val (.ref a1), .val (.ref b_q2), .val (.int (0 : Int32)), .val (.int ((0 : Int32) + (4 : Int32)))]) rfl ?_
    show Steps p.tables e below (T_q6.setTop (mkF m 34 #[.val (.ref a1), .val (.ref b_q2), .val (.int (0 : Int32)), .val (.int ((0 : Int32) + (4 : Int32)))] [])) _
    refine XS.goto X_q6.here hx rfl (pc0 := 34) (pc' := 46) rfl (hb hby d3_34) (by decide) (by decide) ?_
    show Steps p.tables e below (T_q6.setTop (mkF m 46 #[.val (.ref a1), .val (.ref b_q2), .val (.int (0 : Int32)), .val (.int ((0 : Int32) + (4 : Int32)))] [])) _
    refine XS.iinc X_q6.here hx rfl (hb hby d3_46) rfl (l' := #[.val (.ref a1), .val (.ref b_q2), .val (.int ((0 : Int32) + (1 : Int32))), .val (.int ((0 : Int32) + (4 : Int32)))]) rfl ?_
    show Steps p.tables e below (T_q6.setTop (mkF m 49 #[.val (.ref a1), .val (.ref b_q2), .val (.int ((0 : Int32) + (1 : Int32))), .val (.int ((0 : Int32) + (4 : Int32)))] [])) _
    refine XS.goto X_q6.here hx rfl (pc0 := 49) (pc' := 9) rfl (hb hby d3_49) (by decide) (by decide) ?_
    show Steps p.tables e below (T_q6.setTop (mkF m 9 #[.val (.ref a1), .val (.ref b_q2), .val (.int ((0 : Int32) + (1 : Int32))), .val (.int ((0 : Int32) + (4 : Int32)))] [])) _
    refine XS.iloadN X_q6.here hx rfl (hb hby d3_9) rfl ?_
    show Steps p.tables e below (T_q6.setTop (mkF m 10 #[.val (.ref a1), .val (.ref b_q2), .val (.int ((0 : Int32) + (1 : Int32))), .val (.int ((0 : Int32) + (4 : Int32)))] [(.int ((0 : Int32) + (4 : Int32)))])) _
    refine XS.aloadN X_q6.here hx rfl (hb hby d3_10) rfl rfl ?_
    show Steps p.tables e below (T_q6.setTop (mkF m 11 #[.val (.ref a1), .val (.ref b_q2), .val (.int ((0 : Int32) + (1 : Int32))), .val (.int ((0 : Int32) + (4 : Int32)))] [(.ref a1), (.int ((0 : Int32) + (4 : Int32)))])) _
    refine X_q6.arraylength hx (by rw [e_q6]; exact Ar_q7.1) (State.isArrayOf_alike hZ.alike Ar_q7.2.1) (g := (mkF m 11 #[.val (.ref a1), .val (.ref b_q2), .val (.int ((0 : Int32) + (1 : Int32))), .val (.int ((0 : Int32) + (4 : Int32)))] [(.ref a1), (.int ((0 : Int32) + (4 : Int32)))])) rfl rfl (hb hby d3_11) _ ?_
    rw [len_of S_q7 Nn_q7]
    show Steps p.tables e below (T_q6.setTop (mkF m 12 #[.val (.ref a1), .val (.ref b_q2), .val (.int ((0 : Int32) + (1 : Int32))), .val (.int ((0 : Int32) + (4 : Int32)))] [(.int (8 : Int32)), (.int ((0 : Int32) + (4 : Int32)))])) _
    refine XS.icmpNo X_q6.here hx rfl (hb hby d3_12) rfl (tlt (by decide : ((0 : Int32) + (4 : Int32)) < (8 : Int32))).2.1 ?_
    show Steps p.tables e below (T_q6.setTop (mkF m 15 #[.val (.ref a1), .val (.ref b_q2), .val (.int ((0 : Int32) + (1 : Int32))), .val (.int ((0 : Int32) + (4 : Int32)))] [])) _
    refine XS.aloadN X_q6.here hx rfl (hb hby d3_15) rfl rfl ?_
    show Steps p.tables e below (T_q6.setTop (mkF m 16 #[.val (.ref a1), .val (.ref b_q2), .val (.int ((0 : Int32) + (1 : Int32))), .val (.int ((0 : Int32) + (4 : Int32)))] [(.ref a1)])) _
    refine XS.iloadN X_q6.here hx rfl (hb hby d3_16) rfl ?_
    show Steps p.tables e below (T_q6.setTop (mkF m 17 #[.val (.ref a1), .val (.ref b_q2), .val (.int ((0 : Int32) + (1 : Int32))), .val (.int ((0 : Int32) + (4 : Int32)))] [(.int ((0 : Int32) + (4 : Int32))), (.ref a1)])) _
    refine X_q6.baloadBytes hx (j := ((0 : Int32) + (4 : Int32))) (v := (.int (92 : Int32))) (by rw [e_q6]; exact Ar_q8.1) (State.isArrayOf_alike hZ.alike Ar_q8.2.1) Ar_q8.2.2 hin_q8 hat_q8 (g := (mkF m 17 #[.val (.ref a1), .val (.ref b_q2), .val (.int ((0 : Int32) + (1 : Int32))), .val (.int ((0 : Int32) + (4 : Int32)))] [(.int ((0 : Int32) + (4 : Int32))), (.ref a1)])) rfl rfl (hb hby d3_17) _ ?_
    show Steps p.tables e below (T_q6.setTop (mkF m 18 #[.val (.ref a1), .val (.ref b_q2), .val (.int ((0 : Int32) + (1 : Int32))), .val (.int ((0 : Int32) + (4 : Int32)))] [(.int (92 : Int32))])) _
    refine XS.bipush X_q6.here hx rfl (hb hby d3_18) ?_
    show Steps p.tables e below (T_q6.setTop (mkF m 20 #[.val (.ref a1), .val (.ref b_q2), .val (.int ((0 : Int32) + (1 : Int32))), .val (.int ((0 : Int32) + (4 : Int32)))] [(.int (92 : Int32)), (.int (92 : Int32))])) _
    refine XS.icmpNo X_q6.here hx rfl (hb hby d3_20) rfl (teq (by decide : (92 : Int32) = (92 : Int32))).2 ?_
    show Steps p.tables e below (T_q6.setTop (mkF m 23 #[.val (.ref a1), .val (.ref b_q2), .val (.int ((0 : Int32) + (1 : Int32))), .val (.int ((0 : Int32) + (4 : Int32)))] [])) _
    refine XS.aloadN X_q6.here hx rfl (hb hby d3_23) rfl rfl ?_
    show Steps p.tables e below (T_q6.setTop (mkF m 24 #[.val (.ref a1), .val (.ref b_q2), .val (.int ((0 : Int32) + (1 : Int32))), .val (.int ((0 : Int32) + (4 : Int32)))] [(.ref b_q2)])) _
    refine XS.iloadN X_q6.here hx rfl (hb hby d3_24) rfl ?_
    show Steps p.tables e below (T_q6.setTop (mkF m 25 #[.val (.ref a1), .val (.ref b_q2), .val (.int ((0 : Int32) + (1 : Int32))), .val (.int ((0 : Int32) + (4 : Int32)))] [(.int ((0 : Int32) + (1 : Int32))), (.ref b_q2)])) _
    refine XS.aloadN X_q6.here hx rfl (hb hby d3_25) rfl rfl ?_
    show Steps p.tables e below (T_q6.setTop (mkF m 26 #[.val (.ref a1), .val (.ref b_q2), .val (.int ((0 : Int32) + (1 : Int32))), .val (.int ((0 : Int32) + (4 : Int32)))] [(.ref a1), (.int ((0 : Int32) + (1 : Int32))), (.ref b_q2)])) _
    refine XS.iloadN X_q6.here hx rfl (hb hby d3_26) rfl ?_
    show Steps p.tables e below (T_q6.setTop (mkF m 27 #[.val (.ref a1), .val (.ref b_q2), .val (.int ((0 : Int32) + (1 : Int32))), .val (.int ((0 : Int32) + (4 : Int32)))] [(.int ((0 : Int32) + (4 : Int32))), (.ref a1), (.int ((0 : Int32) + (1 : Int32))), (.ref b_q2)])) _
    refine st_q9 _ ?_
    show Steps p.tables e below (T_q9.setTop (mkF m 30 #[.val (.ref a1), .val (.ref b_q2), .val (.int ((0 : Int32) + (1 : Int32))), .val (.int ((0 : Int32) + (4 : Int32)))] [(.int (nar .byte ((((F5_0 x1) <<< ((4 : Int32) &&& 31)) ||| (F5_0 y1)).toInt8.toInt32))), (.int ((0 : Int32) + (1 : Int32))), (.ref b_q2)])) _
    refine st_q10 _ ?_
    show Steps p.tables e below (T_q10.setTop (mkF m 31 #[.val (.ref a1), .val (.ref b_q2), .val (.int ((0 : Int32) + (1 : Int32))), .val (.int ((0 : Int32) + (4 : Int32)))] [])) _
    refine XS.iinc X_q10.here hx rfl (hb hby d3_31) rfl (l' := #[.val (.ref a1), .val (.ref b_q2), .val (.int ((0 : Int32) + (1 : Int32))), .val (.int (((0 : Int32) + (4 : Int32)) + (4 : Int32)))]) rfl ?_
    show Steps p.tables e below (T_q10.setTop (mkF m 34 #[.val (.ref a1), .val (.ref b_q2), .val (.int ((0 : Int32) + (1 : Int32))), .val (.int (((0 : Int32) + (4 : Int32)) + (4 : Int32)))] [])) _
    refine XS.goto X_q10.here hx rfl (pc0 := 34) (pc' := 46) rfl (hb hby d3_34) (by decide) (by decide) ?_
    show Steps p.tables e below (T_q10.setTop (mkF m 46 #[.val (.ref a1), .val (.ref b_q2), .val (.int ((0 : Int32) + (1 : Int32))), .val (.int (((0 : Int32) + (4 : Int32)) + (4 : Int32)))] [])) _
    refine XS.iinc X_q10.here hx rfl (hb hby d3_46) rfl (l' := #[.val (.ref a1), .val (.ref b_q2), .val (.int (((0 : Int32) + (1 : Int32)) + (1 : Int32))), .val (.int (((0 : Int32) + (4 : Int32)) + (4 : Int32)))]) rfl ?_
    show Steps p.tables e below (T_q10.setTop (mkF m 49 #[.val (.ref a1), .val (.ref b_q2), .val (.int (((0 : Int32) + (1 : Int32)) + (1 : Int32))), .val (.int (((0 : Int32) + (4 : Int32)) + (4 : Int32)))] [])) _
    refine XS.goto X_q10.here hx rfl (pc0 := 49) (pc' := 9) rfl (hb hby d3_49) (by decide) (by decide) ?_
    show Steps p.tables e below (T_q10.setTop (mkF m 9 #[.val (.ref a1), .val (.ref b_q2), .val (.int (((0 : Int32) + (1 : Int32)) + (1 : Int32))), .val (.int (((0 : Int32) + (4 : Int32)) + (4 : Int32)))] [])) _
    refine XS.iloadN X_q10.here hx rfl (hb hby d3_9) rfl ?_
    show Steps p.tables e below (T_q10.setTop (mkF m 10 #[.val (.ref a1), .val (.ref b_q2), .val (.int (((0 : Int32) + (1 : Int32)) + (1 : Int32))), .val (.int (((0 : Int32) + (4 : Int32)) + (4 : Int32)))] [(.int (((0 : Int32) + (4 : Int32)) + (4 : Int32)))])) _
    refine XS.aloadN X_q10.here hx rfl (hb hby d3_10) rfl rfl ?_
    show Steps p.tables e below (T_q10.setTop (mkF m 11 #[.val (.ref a1), .val (.ref b_q2), .val (.int (((0 : Int32) + (1 : Int32)) + (1 : Int32))), .val (.int (((0 : Int32) + (4 : Int32)) + (4 : Int32)))] [(.ref a1), (.int (((0 : Int32) + (4 : Int32)) + (4 : Int32)))])) _
    refine X_q10.arraylength hx (by rw [e_q10]; exact Ar_q11.1) (State.isArrayOf_alike hZ.alike Ar_q11.2.1) (g := (mkF m 11 #[.val (.ref a1), .val (.ref b_q2), .val (.int (((0 : Int32) + (1 : Int32)) + (1 : Int32))), .val (.int (((0 : Int32) + (4 : Int32)) + (4 : Int32)))] [(.ref a1), (.int (((0 : Int32) + (4 : Int32)) + (4 : Int32)))])) rfl rfl (hb hby d3_11) _ ?_
    rw [len_of S_q11 Nn_q11]
    show Steps p.tables e below (T_q10.setTop (mkF m 12 #[.val (.ref a1), .val (.ref b_q2), .val (.int (((0 : Int32) + (1 : Int32)) + (1 : Int32))), .val (.int (((0 : Int32) + (4 : Int32)) + (4 : Int32)))] [(.int (8 : Int32)), (.int (((0 : Int32) + (4 : Int32)) + (4 : Int32)))])) _
    refine XS.icmpYes X_q10.here hx rfl (pc0 := 12) (pc' := 52) rfl (hb hby d3_12) rfl (flt (by decide : ¬ ((((0 : Int32) + (4 : Int32)) + (4 : Int32)) < (8 : Int32)))).2.1 (by decide) (by decide) ?_
    show Steps p.tables e below (T_q10.setTop (mkF m 52 #[.val (.ref a1), .val (.ref b_q2), .val (.int (((0 : Int32) + (1 : Int32)) + (1 : Int32))), .val (.int (((0 : Int32) + (4 : Int32)) + (4 : Int32)))] [])) _
    refine XS.aloadN X_q10.here hx rfl (hb hby d3_52) rfl rfl ?_
    show Steps p.tables e below (T_q10.setTop (mkF m 53 #[.val (.ref a1), .val (.ref b_q2), .val (.int (((0 : Int32) + (1 : Int32)) + (1 : Int32))), .val (.int (((0 : Int32) + (4 : Int32)) + (4 : Int32)))] [(.ref b_q2)])) _
    refine XS.iloadN X_q10.here hx rfl (hb hby d3_53) rfl ?_
    show Steps p.tables e below (T_q10.setTop (mkF m 54 #[.val (.ref a1), .val (.ref b_q2), .val (.int (((0 : Int32) + (1 : Int32)) + (1 : Int32))), .val (.int (((0 : Int32) + (4 : Int32)) + (4 : Int32)))] [(.int (((0 : Int32) + (1 : Int32)) + (1 : Int32))), (.ref b_q2)])) _
    refine st_q12 _ ?_
    show Steps p.tables e below (T_q12.setTop (mkF m 57 #[.val (.ref a1), .val (.ref b_q2), .val (.int (((0 : Int32) + (1 : Int32)) + (1 : Int32))), .val (.int (((0 : Int32) + (4 : Int32)) + (4 : Int32)))] [(.ref r_q12)])) _
    jvm_step X_q12.here [X_q12.here.top, hx, (hb hby d3_57), X_q12.method', Bd.returns, Value.isRef, FieldType.isReference]
    first | (intro acts; rw [hr _ acts rfl rfl rfl]) | rw [hr _ _ rfl rfl rfl]
    exact Steps.refl _
  · show Q_rm3_11 Z a1 k1 x0 y0 x1 y1 h0 n0 _ T_q12.heap _
    exact ⟨r_q12, kr_q12, rfl, N_q12, K_q12, Vr_q12⟩
theorem pn_0 : plainName "com/example/presplit/presplit/escape/BinaryEscapeDecodePinLaw" = true := by first | (simp [plainName, overriddenIn]; done) | decide +kernel
theorem pd___BIIZ_I : parseMethodDescriptor "([BIIZ)I" = some ⟨[(.array .byte), .int, .int, .boolean], some .int⟩ := by decide +kernel
theorem pd___B__B : parseMethodDescriptor "([B)[B" = some ⟨[(.array .byte)], some (.array .byte)⟩ := by decide +kernel
theorem ef_0 (m : MethodId) (x0 : Int32) (x1 : Int32) (x2 : Int32) : entryFrame m #[(.int x0), (.int x1), (.int x2)] maxLocals = mkF m 0 #[.val (.int x0), .val (.int x1), .val (.int x2), .unset, .unset, .unset, .unset, .unset, .unset, .unset, .unset] [] := by first | (simp [entryFrame, mkF, argsToLocals, Value.category, maxLocals]; done) | rfl
def Q_law (Z : State) (p1 : Int32) (p2 : Int32) (p3 : Int32) (h0 : Heap) (n0 : Nat) (v : Option Value) (h : Heap) (L : List Loc) : Prop := v = some (.int (1 : Int32)) ∧ Fr n0 L
set_option maxRecDepth 65536 in
set_option maxHeartbeats 40000000 in
theorem rm0_t_t (l : Launch) (Z : State) (a0 : Array Value) (hw : ∀ d ∈ tables_1, d.before a0 Z = true) (ws : List Jvm.Cond) (p1 : Int32) (p2 : Int32) (p3 : Int32) (h0 : Heap) (n0 : Nat) (Z0 : n0 ≤ h0.size) (hc_q1 : ¬ ((p3 &&& (1 : Int32)) = (0 : Int32))) (hc_q2 : ¬ ((p3 &&& (2 : Int32)) = (0 : Int32))) (hd_he_q5_hc_q7 : ¬ ((F5_0 (nar .byte ((F2_0 (((p1 &&& (255 : Int32)).toUInt32 >>> ((4 : Int32) &&& 31).toUInt32).toInt32)).toInt8.toInt32))) < (0 : Int32))) (hd_he_q5_hc_q8 : ¬ ((F5_0 (nar .byte ((F2_0 ((p1 &&& (255 : Int32)) &&& (15 : Int32))).toInt8.toInt32))) < (0 : Int32))) (hd_he_q9_hc_q7 : ¬ ((F5_0 (nar .byte ((F2_0 (((p2 &&& (255 : Int32)).toUInt32 >>> ((4 : Int32) &&& 31).toUInt32).toInt32)).toInt8.toInt32))) < (0 : Int32))) (hd_he_q9_hc_q8 : ¬ ((F5_0 (nar .byte ((F2_0 ((p2 &&& (255 : Int32)) &&& (15 : Int32))).toInt8.toInt32))) < (0 : Int32))) (hc_q9 : (nar .byte (nar .byte ((((F5_0 (nar .byte ((F2_0 (((p1 &&& (255 : Int32)).toUInt32 >>> ((4 : Int32) &&& 31).toUInt32).toInt32)).toInt8.toInt32))) <<< ((4 : Int32) &&& 31)) ||| (F5_0 (nar .byte ((F2_0 ((p1 &&& (255 : Int32)) &&& (15 : Int32))).toInt8.toInt32)))).toInt8.toInt32))) = ((p1 &&& (255 : Int32)).toInt8.toInt32)) (hc_q11 : (nar .byte (nar .byte ((((F5_0 (nar .byte ((F2_0 (((p2 &&& (255 : Int32)).toUInt32 >>> ((4 : Int32) &&& 31).toUInt32).toInt32)).toInt8.toInt32))) <<< ((4 : Int32) &&& 31)) ||| (F5_0 (nar .byte ((F2_0 ((p2 &&& (255 : Int32)) &&& (15 : Int32))).toInt8.toInt32)))).toInt8.toInt32))) = ((p2 &&& (255 : Int32)).toInt8.toInt32)) :
    MetFree l x (head1 (Jvm.Cond.code x code maxLocals ret :: ws) room_1) (fun a U => a = #[(.int p1), (.int p2), (.int p3)] ∧ Z.Warmed39 U.vm ∧ U.heap = h0) (fun _ _ _ _ _ => True) (fun _ U o U' => ∃ v L, o = .returned v ∧ Q_law Z p1 p2 p3 h0 n0 v U'.heap L ∧ FrameEnd U o U' L room_1.cells room_1.slots) := by
  refine MetFree.of_bodySF (plainFor_of_name pn_0) hisR ?_
  intro p e s m args below meth c s₁ Bd hml0 hP hK
  obtain ⟨rfl, hZ, hh⟩ := hP
  have hx := Bd.exec
  have hby := Bd.bytes
  have hml : c.maxLocals = 11 := hml0
  have hown : s.vm.findClass "com/example/presplit/presplit/escape/BinaryEscapeDecodePinLaw" = some m.cls := findClass_of_methodNamed Bd.named
  have hnm := (name_of_methodNamed Bd.named Bd.method).1
  have X0 : Stand p l e room_1 s m #[(.int p1), (.int p2), (.int p3)] below meth c s₁ [] 0 0 := Stand.of_body Bd
  have e0 : s₁.heap = h0 := by rw [← hh, Bd.state]; rfl
  have N0 := Fr.nil n0
  have pre0 : ∀ t, Steps p.tables e below (s₁.setTop (mkF m 0 #[.val (.int p1), .val (.int p2), .val (.int p3), .unset, .unset, .unset, .unset, .unset, .unset, .unset, .unset] [])) t → Steps p.tables e below (s₁.setTop (entryFrame m #[(.int p1), (.int p2), (.int p3)] maxLocals)) t := fun t k => castTop (ef_0 m p1 p2 p3) k
  have K0 : Keep h0 h0 [] := Keep.refl _ _
  obtain ⟨T_q3, h_q3, k_q3, X_q3, e_q3, E_q3, A_q3, EX_q3, st_q3⟩ := newPE X0 hx hZ (hw _ (List.mem_of_getElem? (i := 0) rfl)) e0 (g := (mkF m 101 #[.val (.int p1), .val (.int p2), .val (.int p3), .val (.int (p1 &&& (255 : Int32))), .val (.int (p2 &&& (255 : Int32))), .val (.int (1 : Int32)), .val (.int (1 : Int32)), .val (.int ((4 : Int32) + (4 : Int32))), .unset, .unset, .unset] [(.int (8 : Int32))])) rfl (hb hby at_101) rfl (by decide) (cap := 8) (by decide) (by decide) (by decide) (by decide) (ad := "[B") (by decide)
  obtain ⟨b_q3, g_q3⟩ : ∃ z, z = h0.size := ⟨_, rfl⟩
  rw [← g_q3] at A_q3 EX_q3 st_q3
  have ge_b_q3 : n0 ≤ b_q3 := Nat.le_trans (Nat.le_trans Z0 K0.1) (Nat.le_of_eq g_q3.symm)
  have sz_b_q3 : h0.size ≤ b_q3 := Nat.le_trans K0.1 (Nat.le_of_eq g_q3.symm)
  have K_q3 : Keep h0 h_q3 [] := K0.ext E_q3
  have V_b_q3 : Arv Z h_q3 b_q3 k_q3 .byte (8 : Int32) [(.int (0 : Int32)), (.int (0 : Int32)), (.int (0 : Int32)), (.int (0 : Int32)), (.int (0 : Int32)), (.int (0 : Int32)), (.int (0 : Int32)), (.int (0 : Int32))] (.int (0 : Int32)) := (Arv.new A_q3 (by decide)).pad (pad_rep [] (.int (0 : Int32)) 8)
  obtain ⟨_, _, ⟨T_q4, L_q4, k_q4, n_q4⟩, -, X_q4, ⟨Lc_q4, hQ_q4, l_q4, y_q4, z_q4⟩, st_q4⟩ := Jvm.LawKit.callS X_q3 hx (y := (⟨"com/example/presplit/presplit/escape/BinaryEscapeDecodePinLaw", "put", "([BIIZ)I"⟩ : MethodName)) hown (mvT hZ (hw _ (List.mem_of_getElem? (i := 1) rfl))) (mvT hZ (hw _ (List.mem_of_getElem? (i := 2) rfl))) (mvT hZ (hw _ (List.mem_of_getElem? (i := 3) rfl))) (mvT hZ (hw _ (List.mem_of_getElem? (i := 4) rfl))) (by decide) (backOf (W := 0) (rm1_8_0_1 l Z a0 hw [] b_q3 k_q3 (.int (0 : Int32)) (.int (0 : Int32)) (.int (0 : Int32)) (.int (0 : Int32)) (.int (0 : Int32)) (.int (0 : Int32)) (.int (0 : Int32)) (.int (0 : Int32)) (p1 &&& (255 : Int32)) h_q3 n0 (Nat.le_trans Z0 K_q3.1) V_b_q3 ge_b_q3) hZ (hw _ (List.mem_of_getElem? (i := 4) rfl)) (hw _ (List.mem_of_getElem? (i := 3) rfl)) (by decide) (by decide)) (g := (mkF m 111 #[.val (.int p1), .val (.int p2), .val (.int p3), .val (.int (p1 &&& (255 : Int32))), .val (.int (p2 &&& (255 : Int32))), .val (.int (1 : Int32)), .val (.int (1 : Int32)), .val (.int ((4 : Int32) + (4 : Int32))), .val (.ref b_q3), .unset, .unset] [(.int (1 : Int32)), (.int (p1 &&& (255 : Int32))), (.int (0 : Int32)), (.ref b_q3)])) rfl (by rw [hml]; rfl) (argsL := [(.ref b_q3), (.int (0 : Int32)), (.int (p1 &&& (255 : Int32))), (.int (1 : Int32))]) (rest := []) (lenOf pd___BIIZ_I rfl) rfl (by show 2 * 0 + _ ≤ _; exact Nat.le_of_eq rfl) (hb hby at_111) (fun _ _ => ⟨rfl, e_q3, (by decide : 1 + 0 ≤ _), (by decide : 8 + 0 ≤ _)⟩)
  dsimp only [Pt.U, Pt.locs, Pt.cells, Pt.slots] at X_q4 l_q4 y_q4 z_q4 st_q4 hQ_q4
  subst l_q4 y_q4 z_q4
  obtain ⟨rfl, Nq_q4, Kq_q4, Vq_q4⟩ := hQ_q4
  have N_q4 := Fr.app N0 Nq_q4
  have EX_q3__q4 := EX_q3.keep Kq_q4
  have K_q4 : Keep h0 T_q4.heap [] := K_q3.trans Kq_q4 (fun x hx => Or.inr (by cases List.mem_singleton.mp hx; exact sz_b_q3))
  obtain ⟨_, _, ⟨T_q5, L_q5, k_q5, n_q5⟩, -, X_q5, ⟨Lc_q5, hQ_q5, l_q5, y_q5, z_q5⟩, st_q5⟩ := Jvm.LawKit.callS X_q4 hx (y := (⟨"com/example/presplit/presplit/escape/BinaryEscapeDecodePinLaw", "put", "([BIIZ)I"⟩ : MethodName)) hown (mvT hZ (hw _ (List.mem_of_getElem? (i := 1) rfl))) (mvT hZ (hw _ (List.mem_of_getElem? (i := 2) rfl))) (mvT hZ (hw _ (List.mem_of_getElem? (i := 3) rfl))) (mvT hZ (hw _ (List.mem_of_getElem? (i := 4) rfl))) (by decide) (backOf (W := 0) (rm1_8_4_1 l Z a0 hw [] b_q3 k_q3 (.int (nar .byte (92 : Int32))) (.int (nar .byte (120 : Int32))) (.int (nar .byte ((F2_0 (((p1 &&& (255 : Int32)).toUInt32 >>> ((4 : Int32) &&& 31).toUInt32).toInt32)).toInt8.toInt32))) (.int (nar .byte ((F2_0 ((p1 &&& (255 : Int32)) &&& (15 : Int32))).toInt8.toInt32))) (.int (0 : Int32)) (.int (0 : Int32)) (.int (0 : Int32)) (.int (0 : Int32)) (p2 &&& (255 : Int32)) T_q4.heap n0 (Nat.le_trans Z0 K_q4.1) Vq_q4 ge_b_q3) hZ (hw _ (List.mem_of_getElem? (i := 4) rfl)) (hw _ (List.mem_of_getElem? (i := 3) rfl)) (by decide) (by decide)) (g := (mkF m 124 #[.val (.int p1), .val (.int p2), .val (.int p3), .val (.int (p1 &&& (255 : Int32))), .val (.int (p2 &&& (255 : Int32))), .val (.int (1 : Int32)), .val (.int (1 : Int32)), .val (.int ((4 : Int32) + (4 : Int32))), .val (.ref b_q3), .val (.int ((0 : Int32) + (4 : Int32))), .unset] [(.int (1 : Int32)), (.int (p2 &&& (255 : Int32))), (.int ((0 : Int32) + (4 : Int32))), (.ref b_q3)])) rfl (by rw [hml]; rfl) (argsL := [(.ref b_q3), (.int ((0 : Int32) + (4 : Int32))), (.int (p2 &&& (255 : Int32))), (.int (1 : Int32))]) (rest := []) (lenOf pd___BIIZ_I rfl) rfl (by show 2 * 0 + _ ≤ _; exact Nat.le_of_eq rfl) (hb hby at_124) (fun _ _ => ⟨rfl, rfl, (by decide : 1 + 0 ≤ _), (by decide : 8 + 0 ≤ _)⟩)
  dsimp only [Pt.U, Pt.locs, Pt.cells, Pt.slots] at X_q5 l_q5 y_q5 z_q5 st_q5 hQ_q5
  subst l_q5 y_q5 z_q5
  obtain ⟨rfl, Nq_q5, Kq_q5, Vq_q5⟩ := hQ_q5
  have N_q5 := Fr.app N_q4 Nq_q5
  have EX_q3__q5 := EX_q3__q4.keep Kq_q5
  have K_q5 : Keep h0 T_q5.heap [] := K_q4.trans Kq_q5 (fun x hx => Or.inr (by cases List.mem_singleton.mp hx; exact sz_b_q3))
  have VD_q6 : Arv Z T_q5.heap b_q3 k_q3 .byte (8 : Int32) [(.int (92 : Int32)), (.int (120 : Int32)), (.int (nar .byte ((F2_0 (((p1 &&& (255 : Int32)).toUInt32 >>> ((4 : Int32) &&& 31).toUInt32).toInt32)).toInt8.toInt32))), (.int (nar .byte ((F2_0 ((p1 &&& (255 : Int32)) &&& (15 : Int32))).toInt8.toInt32))), (.int (92 : Int32)), (.int (120 : Int32)), (.int (nar .byte ((F2_0 (((p2 &&& (255 : Int32)).toUInt32 >>> ((4 : Int32) &&& 31).toUInt32).toInt32)).toInt8.toInt32))), (.int (nar .byte ((F2_0 ((p2 &&& (255 : Int32)) &&& (15 : Int32))).toInt8.toInt32)))] (.int (0 : Int32)) := Vq_q5
  obtain ⟨_, _, ⟨T_q6, L_q6, k_q6, n_q6⟩, -, X_q6, ⟨Lc_q6, hQ_q6, l_q6, y_q6, z_q6⟩, st_q6⟩ := Jvm.LawKit.callS X_q5 hx (y := (⟨"com/example/presplit/presplit/escape/BinaryEscape", "decode", "([B)[B"⟩ : MethodName)) hown (mvT hZ (hw _ (List.mem_of_getElem? (i := 8) rfl))) (mvT hZ (hw _ (List.mem_of_getElem? (i := 9) rfl))) (mvT hZ (hw _ (List.mem_of_getElem? (i := 10) rfl))) (mvT hZ (hw _ (List.mem_of_getElem? (i := 11) rfl))) (by decide) (backOf (W := 0) (rm3_11 l Z a0 hw [] b_q3 k_q3 (nar .byte ((F2_0 (((p1 &&& (255 : Int32)).toUInt32 >>> ((4 : Int32) &&& 31).toUInt32).toInt32)).toInt8.toInt32)) (nar .byte ((F2_0 ((p1 &&& (255 : Int32)) &&& (15 : Int32))).toInt8.toInt32)) (nar .byte ((F2_0 (((p2 &&& (255 : Int32)).toUInt32 >>> ((4 : Int32) &&& 31).toUInt32).toInt32)).toInt8.toInt32)) (nar .byte ((F2_0 ((p2 &&& (255 : Int32)) &&& (15 : Int32))).toInt8.toInt32)) T_q5.heap n0 (Nat.le_trans Z0 K_q5.1) VD_q6 hd_he_q5_hc_q7 hd_he_q5_hc_q8 hd_he_q9_hc_q7 hd_he_q9_hc_q8) hZ (hw _ (List.mem_of_getElem? (i := 11) rfl)) (hw _ (List.mem_of_getElem? (i := 10) rfl)) (by decide) (by decide)) (g := (mkF m 130 #[.val (.int p1), .val (.int p2), .val (.int p3), .val (.int (p1 &&& (255 : Int32))), .val (.int (p2 &&& (255 : Int32))), .val (.int (1 : Int32)), .val (.int (1 : Int32)), .val (.int ((4 : Int32) + (4 : Int32))), .val (.ref b_q3), .val (.int ((0 : Int32) + (4 : Int32))), .unset] [(.ref b_q3)])) rfl (by rw [hml]; rfl) (argsL := [(.ref b_q3)]) (rest := []) (lenOf pd___B__B rfl) rfl (by show 2 * 0 + _ ≤ _; exact Nat.le_of_eq rfl) (hb hby at_130) (fun _ _ => ⟨rfl, rfl, (by decide : 1 + 2 ≤ _), (by decide : 8 + 10 ≤ _)⟩)
  dsimp only [Pt.U, Pt.locs, Pt.cells, Pt.slots] at X_q6 l_q6 y_q6 z_q6 st_q6 hQ_q6
  subst l_q6 y_q6 z_q6
  obtain ⟨r_q6, kr_q6, rfl, Nq_q6, Kq_q6, Vr_q6⟩ := hQ_q6
  have N_q6 := Fr.app N_q5 Nq_q6
  have EX_q3__q6 := EX_q3__q5.keep Kq_q6
  have Vq_q5__q6 := Vq_q5.keep Kq_q6 List.not_mem_nil
  have K_q6 : Keep h0 T_q6.heap [] := K_q5.trans Kq_q6 (fun x hx => nomatch hx)
  obtain ⟨cl_q7, Ar_q7, qk_q7, S_q7, Nn_q7, H_q7, G_q7⟩ := id Vr_q6
  obtain ⟨cl_q8, Ar_q8, qk_q8, S_q8, Nn_q8, H_q8, G_q8⟩ := id Vr_q6
  have hin_q8 : ¬ ((0 : Int32) < 0 ∨ cl_q8.slots.size ≤ ((0 : Int32)).toNatClampNeg) := inb_of S_q8 ⟨by decide, by decide⟩
  have hat_q8 : cl_q8.slots[((0 : Int32)).toNatClampNeg]? = some (.int (nar .byte (nar .byte ((((F5_0 (nar .byte ((F2_0 (((p1 &&& (255 : Int32)).toUInt32 >>> ((4 : Int32) &&& 31).toUInt32).toInt32)).toInt8.toInt32))) <<< ((4 : Int32) &&& 31)) ||| (F5_0 (nar .byte ((F2_0 ((p1 &&& (255 : Int32)) &&& (15 : Int32))).toInt8.toInt32)))).toInt8.toInt32)))) := H_q8 0 (Nat.lt_of_not_le fun q => hin_q8 (Or.inr q))
  obtain ⟨cl_q10, Ar_q10, qk_q10, S_q10, Nn_q10, H_q10, G_q10⟩ := id Vr_q6
  have hin_q10 : ¬ ((1 : Int32) < 0 ∨ cl_q10.slots.size ≤ ((1 : Int32)).toNatClampNeg) := inb_of S_q10 ⟨by decide, by decide⟩
  have hat_q10 : cl_q10.slots[((1 : Int32)).toNatClampNeg]? = some (.int (nar .byte (nar .byte ((((F5_0 (nar .byte ((F2_0 (((p2 &&& (255 : Int32)).toUInt32 >>> ((4 : Int32) &&& 31).toUInt32).toInt32)).toInt8.toInt32))) <<< ((4 : Int32) &&& 31)) ||| (F5_0 (nar .byte ((F2_0 ((p2 &&& (255 : Int32)) &&& (15 : Int32))).toInt8.toInt32)))).toInt8.toInt32)))) := H_q10 1 (Nat.lt_of_not_le fun q => hin_q10 (Or.inr q))
  obtain ⟨fs, hr, hrun, hended, hW, hsame⟩ := X_q6.leave (v := some (.int (1 : Int32))) (fun h => by rw [Bd.returns] at h; cases h) Bd.notSynchronized
  refine ⟨_, _, pre0 _ ?_, hrun, hended, _, _, rfl, ?_, ⟨_, rfl⟩, hW, hsame.mono (by decide) (by decide)⟩
  · show Steps p.tables e below (s₁.setTop (mkF m 0 #[.val (.int p1), .val (.int p2), .val (.int p3), .unset, .unset, .unset, .unset, .unset, .unset, .unset, .unset] [])) _
    refine XS.iloadN X0.here hx rfl (hb hby at_0) rfl ?_
    show Steps p.tables e below (s₁.setTop (mkF m 1 #[.val (.int p1), .val (.int p2), .val (.int p3), .unset, .unset, .unset, .unset, .unset, .unset, .unset, .unset] [(.int p1)])) _
    refine XS.sipush X0.here hx rfl (hb hby at_1) ?_
    show Steps p.tables e below (s₁.setTop (mkF m 4 #[.val (.int p1), .val (.int p2), .val (.int p3), .unset, .unset, .unset, .unset, .unset, .unset, .unset, .unset] [(.int (255 : Int32)), (.int p1)])) _
    refine XS.iand X0.here hx rfl (hb hby at_4) rfl ?_
    show Steps p.tables e below (s₁.setTop (mkF m 5 #[.val (.int p1), .val (.int p2), .val (.int p3), .unset, .unset, .unset, .unset, .unset, .unset, .unset, .unset] [(.int (p1 &&& (255 : Int32)))])) _
    refine XS.istoreN X0.here hx rfl (hb hby at_5) rfl (l' := #[.val (.int p1), .val (.int p2), .val (.int p3), .val (.int (p1 &&& (255 : Int32))), .unset, .unset, .unset, .unset, .unset, .unset, .unset]) rfl ?_
    show Steps p.tables e below (s₁.setTop (mkF m 6 #[.val (.int p1), .val (.int p2), .val (.int p3), .val (.int (p1 &&& (255 : Int32))), .unset, .unset, .unset, .unset, .unset, .unset, .unset] [])) _
    refine XS.iloadN X0.here hx rfl (hb hby at_6) rfl ?_
    show Steps p.tables e below (s₁.setTop (mkF m 7 #[.val (.int p1), .val (.int p2), .val (.int p3), .val (.int (p1 &&& (255 : Int32))), .unset, .unset, .unset, .unset, .unset, .unset, .unset] [(.int p2)])) _
    refine XS.sipush X0.here hx rfl (hb hby at_7) ?_
    show Steps p.tables e below (s₁.setTop (mkF m 10 #[.val (.int p1), .val (.int p2), .val (.int p3), .val (.int (p1 &&& (255 : Int32))), .unset, .unset, .unset, .unset, .unset, .unset, .unset] [(.int (255 : Int32)), (.int p2)])) _
    refine XS.iand X0.here hx rfl (hb hby at_10) rfl ?_
    show Steps p.tables e below (s₁.setTop (mkF m 11 #[.val (.int p1), .val (.int p2), .val (.int p3), .val (.int (p1 &&& (255 : Int32))), .unset, .unset, .unset, .unset, .unset, .unset, .unset] [(.int (p2 &&& (255 : Int32)))])) _
    refine XS.istore X0.here hx rfl (hb hby at_11) rfl (l' := #[.val (.int p1), .val (.int p2), .val (.int p3), .val (.int (p1 &&& (255 : Int32))), .val (.int (p2 &&& (255 : Int32))), .unset, .unset, .unset, .unset, .unset, .unset]) rfl ?_
    show Steps p.tables e below (s₁.setTop (mkF m 13 #[.val (.int p1), .val (.int p2), .val (.int p3), .val (.int (p1 &&& (255 : Int32))), .val (.int (p2 &&& (255 : Int32))), .unset, .unset, .unset, .unset, .unset, .unset] [])) _
    refine XS.iloadN X0.here hx rfl (hb hby at_13) rfl ?_
    show Steps p.tables e below (s₁.setTop (mkF m 14 #[.val (.int p1), .val (.int p2), .val (.int p3), .val (.int (p1 &&& (255 : Int32))), .val (.int (p2 &&& (255 : Int32))), .unset, .unset, .unset, .unset, .unset, .unset] [(.int p3)])) _
    refine XS.iconst X0.here hx rfl (hb hby at_14) ?_
    show Steps p.tables e below (s₁.setTop (mkF m 15 #[.val (.int p1), .val (.int p2), .val (.int p3), .val (.int (p1 &&& (255 : Int32))), .val (.int (p2 &&& (255 : Int32))), .unset, .unset, .unset, .unset, .unset, .unset] [(.int (1 : Int32)), (.int p3)])) _
    refine XS.iand X0.here hx rfl (hb hby at_15) rfl ?_
    show Steps p.tables e below (s₁.setTop (mkF m 16 #[.val (.int p1), .val (.int p2), .val (.int p3), .val (.int (p1 &&& (255 : Int32))), .val (.int (p2 &&& (255 : Int32))), .unset, .unset, .unset, .unset, .unset, .unset] [(.int (p3 &&& (1 : Int32)))])) _
    refine XS.ifYes X0.here hx rfl (pc0 := 16) (pc' := 25) rfl (hb hby at_16) rfl ((if0 _ _).trans (feq hc_q1).2) (by decide) (by decide) ?_
    show Steps p.tables e below (s₁.setTop (mkF m 25 #[.val (.int p1), .val (.int p2), .val (.int p3), .val (.int (p1 &&& (255 : Int32))), .val (.int (p2 &&& (255 : Int32))), .unset, .unset, .unset, .unset, .unset, .unset] [])) _
    refine XS.iconst X0.here hx rfl (hb hby at_25) ?_
    show Steps p.tables e below (s₁.setTop (mkF m 26 #[.val (.int p1), .val (.int p2), .val (.int p3), .val (.int (p1 &&& (255 : Int32))), .val (.int (p2 &&& (255 : Int32))), .unset, .unset, .unset, .unset, .unset, .unset] [(.int (1 : Int32))])) _
    refine XS.goto X0.here hx rfl (pc0 := 26) (pc' := 30) rfl (hb hby at_26) (by decide) (by decide) ?_
    show Steps p.tables e below (s₁.setTop (mkF m 30 #[.val (.int p1), .val (.int p2), .val (.int p3), .val (.int (p1 &&& (255 : Int32))), .val (.int (p2 &&& (255 : Int32))), .unset, .unset, .unset, .unset, .unset, .unset] [(.int (1 : Int32))])) _
    refine XS.istore X0.here hx rfl (hb hby at_30) rfl (l' := #[.val (.int p1), .val (.int p2), .val (.int p3), .val (.int (p1 &&& (255 : Int32))), .val (.int (p2 &&& (255 : Int32))), .val (.int (1 : Int32)), .unset, .unset, .unset, .unset, .unset]) rfl ?_
    show Steps p.tables e below (s₁.setTop (mkF m 32 #[.val (.int p1), .val (.int p2), .val (.int p3), .val (.int (p1 &&& (255 : Int32))), .val (.int (p2 &&& (255 : Int32))), .val (.int (1 : Int32)), .unset, .unset, .unset, .unset, .unset] [])) _
    refine XS.iloadN X0.here hx rfl (hb hby at_32) rfl ?_
    show Steps p.tables e below (s₁.setTop (mkF m 33 #[.val (.int p1), .val (.int p2), .val (.int p3), .val (.int (p1 &&& (255 : Int32))), .val (.int (p2 &&& (255 : Int32))), .val (.int (1 : Int32)), .unset, .unset, .unset, .unset, .unset] [(.int p3)])) _
    refine XS.iconst X0.here hx rfl (hb hby at_33) ?_
    show Steps p.tables e below (s₁.setTop (mkF m 34 #[.val (.int p1), .val (.int p2), .val (.int p3), .val (.int (p1 &&& (255 : Int32))), .val (.int (p2 &&& (255 : Int32))), .val (.int (1 : Int32)), .unset, .unset, .unset, .unset, .unset] [(.int (2 : Int32)), (.int p3)])) _
    refine XS.iand X0.here hx rfl (hb hby at_34) rfl ?_
    show Steps p.tables e below (s₁.setTop (mkF m 35 #[.val (.int p1), .val (.int p2), .val (.int p3), .val (.int (p1 &&& (255 : Int32))), .val (.int (p2 &&& (255 : Int32))), .val (.int (1 : Int32)), .unset, .unset, .unset, .unset, .unset] [(.int (p3 &&& (2 : Int32)))])) _
    refine XS.ifYes X0.here hx rfl (pc0 := 35) (pc' := 45) rfl (hb hby at_35) rfl ((if0 _ _).trans (feq hc_q2).2) (by decide) (by decide) ?_
    show Steps p.tables e below (s₁.setTop (mkF m 45 #[.val (.int p1), .val (.int p2), .val (.int p3), .val (.int (p1 &&& (255 : Int32))), .val (.int (p2 &&& (255 : Int32))), .val (.int (1 : Int32)), .unset, .unset, .unset, .unset, .unset] [])) _
    refine XS.iconst X0.here hx rfl (hb hby at_45) ?_
    show Steps p.tables e below (s₁.setTop (mkF m 46 #[.val (.int p1), .val (.int p2), .val (.int p3), .val (.int (p1 &&& (255 : Int32))), .val (.int (p2 &&& (255 : Int32))), .val (.int (1 : Int32)), .unset, .unset, .unset, .unset, .unset] [(.int (1 : Int32))])) _
    refine XS.goto X0.here hx rfl (pc0 := 46) (pc' := 50) rfl (hb hby at_46) (by decide) (by decide) ?_
    show Steps p.tables e below (s₁.setTop (mkF m 50 #[.val (.int p1), .val (.int p2), .val (.int p3), .val (.int (p1 &&& (255 : Int32))), .val (.int (p2 &&& (255 : Int32))), .val (.int (1 : Int32)), .unset, .unset, .unset, .unset, .unset] [(.int (1 : Int32))])) _
    refine XS.istore X0.here hx rfl (hb hby at_50) rfl (l' := #[.val (.int p1), .val (.int p2), .val (.int p3), .val (.int (p1 &&& (255 : Int32))), .val (.int (p2 &&& (255 : Int32))), .val (.int (1 : Int32)), .val (.int (1 : Int32)), .unset, .unset, .unset, .unset]) rfl ?_
    show Steps p.tables e below (s₁.setTop (mkF m 52 #[.val (.int p1), .val (.int p2), .val (.int p3), .val (.int (p1 &&& (255 : Int32))), .val (.int (p2 &&& (255 : Int32))), .val (.int (1 : Int32)), .val (.int (1 : Int32)), .unset, .unset, .unset, .unset] [])) _
    refine XS.iload X0.here hx rfl (hb hby at_52) rfl ?_
    show Steps p.tables e below (s₁.setTop (mkF m 54 #[.val (.int p1), .val (.int p2), .val (.int p3), .val (.int (p1 &&& (255 : Int32))), .val (.int (p2 &&& (255 : Int32))), .val (.int (1 : Int32)), .val (.int (1 : Int32)), .unset, .unset, .unset, .unset] [(.int (1 : Int32))])) _
    refine XS.ifNo X0.here hx rfl (hb hby at_54) rfl ((if0 _ _).trans (feq (by decide : ¬ ((1 : Int32) = (0 : Int32)))).1) ?_
    show Steps p.tables e below (s₁.setTop (mkF m 57 #[.val (.int p1), .val (.int p2), .val (.int p3), .val (.int (p1 &&& (255 : Int32))), .val (.int (p2 &&& (255 : Int32))), .val (.int (1 : Int32)), .val (.int (1 : Int32)), .unset, .unset, .unset, .unset] [])) _
    refine XS.iconst X0.here hx rfl (hb hby at_57) ?_
    show Steps p.tables e below (s₁.setTop (mkF m 58 #[.val (.int p1), .val (.int p2), .val (.int p3), .val (.int (p1 &&& (255 : Int32))), .val (.int (p2 &&& (255 : Int32))), .val (.int (1 : Int32)), .val (.int (1 : Int32)), .unset, .unset, .unset, .unset] [(.int (4 : Int32))])) _
    refine XS.goto X0.here hx rfl (pc0 := 58) (pc' := 62) rfl (hb hby at_58) (by decide) (by decide) ?_
    show Steps p.tables e below (s₁.setTop (mkF m 62 #[.val (.int p1), .val (.int p2), .val (.int p3), .val (.int (p1 &&& (255 : Int32))), .val (.int (p2 &&& (255 : Int32))), .val (.int (1 : Int32)), .val (.int (1 : Int32)), .unset, .unset, .unset, .unset] [(.int (4 : Int32))])) _
    refine XS.iload X0.here hx rfl (hb hby at_62) rfl ?_
    show Steps p.tables e below (s₁.setTop (mkF m 64 #[.val (.int p1), .val (.int p2), .val (.int p3), .val (.int (p1 &&& (255 : Int32))), .val (.int (p2 &&& (255 : Int32))), .val (.int (1 : Int32)), .val (.int (1 : Int32)), .unset, .unset, .unset, .unset] [(.int (1 : Int32)), (.int (4 : Int32))])) _
    refine XS.ifNo X0.here hx rfl (hb hby at_64) rfl ((if0 _ _).trans (feq (by decide : ¬ ((1 : Int32) = (0 : Int32)))).1) ?_
    show Steps p.tables e below (s₁.setTop (mkF m 67 #[.val (.int p1), .val (.int p2), .val (.int p3), .val (.int (p1 &&& (255 : Int32))), .val (.int (p2 &&& (255 : Int32))), .val (.int (1 : Int32)), .val (.int (1 : Int32)), .unset, .unset, .unset, .unset] [(.int (4 : Int32))])) _
    refine XS.iconst X0.here hx rfl (hb hby at_67) ?_
    show Steps p.tables e below (s₁.setTop (mkF m 68 #[.val (.int p1), .val (.int p2), .val (.int p3), .val (.int (p1 &&& (255 : Int32))), .val (.int (p2 &&& (255 : Int32))), .val (.int (1 : Int32)), .val (.int (1 : Int32)), .unset, .unset, .unset, .unset] [(.int (4 : Int32)), (.int (4 : Int32))])) _
    refine XS.goto X0.here hx rfl (pc0 := 68) (pc' := 72) rfl (hb hby at_68) (by decide) (by decide) ?_
    show Steps p.tables e below (s₁.setTop (mkF m 72 #[.val (.int p1), .val (.int p2), .val (.int p3), .val (.int (p1 &&& (255 : Int32))), .val (.int (p2 &&& (255 : Int32))), .val (.int (1 : Int32)), .val (.int (1 : Int32)), .unset, .unset, .unset, .unset] [(.int (4 : Int32)), (.int (4 : Int32))])) _
    refine XS.iadd X0.here hx rfl (hb hby at_72) rfl ?_
    show Steps p.tables e below (s₁.setTop (mkF m 73 #[.val (.int p1), .val (.int p2), .val (.int p3), .val (.int (p1 &&& (255 : Int32))), .val (.int (p2 &&& (255 : Int32))), .val (.int (1 : Int32)), .val (.int (1 : Int32)), .unset, .unset, .unset, .unset] [(.int ((4 : Int32) + (4 : Int32)))])) _
    refine XS.istore X0.here hx rfl (hb hby at_73) rfl (l' := #[.val (.int p1), .val (.int p2), .val (.int p3), .val (.int (p1 &&& (255 : Int32))), .val (.int (p2 &&& (255 : Int32))), .val (.int (1 : Int32)), .val (.int (1 : Int32)), .val (.int ((4 : Int32) + (4 : Int32))), .unset, .unset, .unset]) rfl ?_
    show Steps p.tables e below (s₁.setTop (mkF m 75 #[.val (.int p1), .val (.int p2), .val (.int p3), .val (.int (p1 &&& (255 : Int32))), .val (.int (p2 &&& (255 : Int32))), .val (.int (1 : Int32)), .val (.int (1 : Int32)), .val (.int ((4 : Int32) + (4 : Int32))), .unset, .unset, .unset] [])) _
    refine XS.iload X0.here hx rfl (hb hby at_75) rfl ?_
    show Steps p.tables e below (s₁.setTop (mkF m 77 #[.val (.int p1), .val (.int p2), .val (.int p3), .val (.int (p1 &&& (255 : Int32))), .val (.int (p2 &&& (255 : Int32))), .val (.int (1 : Int32)), .val (.int (1 : Int32)), .val (.int ((4 : Int32) + (4 : Int32))), .unset, .unset, .unset] [(.int ((4 : Int32) + (4 : Int32)))])) _
    refine XS.iconst X0.here hx rfl (hb hby at_77) ?_
    show Steps p.tables e below (s₁.setTop (mkF m 78 #[.val (.int p1), .val (.int p2), .val (.int p3), .val (.int (p1 &&& (255 : Int32))), .val (.int (p2 &&& (255 : Int32))), .val (.int (1 : Int32)), .val (.int (1 : Int32)), .val (.int ((4 : Int32) + (4 : Int32))), .unset, .unset, .unset] [(.int (2 : Int32)), (.int ((4 : Int32) + (4 : Int32)))])) _
    refine XS.icmpYes X0.here hx rfl (pc0 := 78) (pc' := 87) rfl (hb hby at_78) rfl (feq (by decide : ¬ (((4 : Int32) + (4 : Int32)) = (2 : Int32)))).2 (by decide) (by decide) ?_
    show Steps p.tables e below (s₁.setTop (mkF m 87 #[.val (.int p1), .val (.int p2), .val (.int p3), .val (.int (p1 &&& (255 : Int32))), .val (.int (p2 &&& (255 : Int32))), .val (.int (1 : Int32)), .val (.int (1 : Int32)), .val (.int ((4 : Int32) + (4 : Int32))), .unset, .unset, .unset] [])) _
    refine XS.iload X0.here hx rfl (hb hby at_87) rfl ?_
    show Steps p.tables e below (s₁.setTop (mkF m 89 #[.val (.int p1), .val (.int p2), .val (.int p3), .val (.int (p1 &&& (255 : Int32))), .val (.int (p2 &&& (255 : Int32))), .val (.int (1 : Int32)), .val (.int (1 : Int32)), .val (.int ((4 : Int32) + (4 : Int32))), .unset, .unset, .unset] [(.int ((4 : Int32) + (4 : Int32)))])) _
    refine XS.iconst X0.here hx rfl (hb hby at_89) ?_
    show Steps p.tables e below (s₁.setTop (mkF m 90 #[.val (.int p1), .val (.int p2), .val (.int p3), .val (.int (p1 &&& (255 : Int32))), .val (.int (p2 &&& (255 : Int32))), .val (.int (1 : Int32)), .val (.int (1 : Int32)), .val (.int ((4 : Int32) + (4 : Int32))), .unset, .unset, .unset] [(.int (5 : Int32)), (.int ((4 : Int32) + (4 : Int32)))])) _
    refine XS.icmpYes X0.here hx rfl (pc0 := 90) (pc' := 99) rfl (hb hby at_90) rfl (feq (by decide : ¬ (((4 : Int32) + (4 : Int32)) = (5 : Int32)))).2 (by decide) (by decide) ?_
    show Steps p.tables e below (s₁.setTop (mkF m 99 #[.val (.int p1), .val (.int p2), .val (.int p3), .val (.int (p1 &&& (255 : Int32))), .val (.int (p2 &&& (255 : Int32))), .val (.int (1 : Int32)), .val (.int (1 : Int32)), .val (.int ((4 : Int32) + (4 : Int32))), .unset, .unset, .unset] [])) _
    refine XS.bipush X0.here hx rfl (hb hby at_99) ?_
    show Steps p.tables e below (s₁.setTop (mkF m 101 #[.val (.int p1), .val (.int p2), .val (.int p3), .val (.int (p1 &&& (255 : Int32))), .val (.int (p2 &&& (255 : Int32))), .val (.int (1 : Int32)), .val (.int (1 : Int32)), .val (.int ((4 : Int32) + (4 : Int32))), .unset, .unset, .unset] [(.int (8 : Int32))])) _
    refine st_q3 _ ?_
    show Steps p.tables e below (T_q3.setTop (mkF m 103 #[.val (.int p1), .val (.int p2), .val (.int p3), .val (.int (p1 &&& (255 : Int32))), .val (.int (p2 &&& (255 : Int32))), .val (.int (1 : Int32)), .val (.int (1 : Int32)), .val (.int ((4 : Int32) + (4 : Int32))), .unset, .unset, .unset] [(.ref b_q3)])) _
    refine XS.astore X_q3.here hx rfl (hb hby at_103) rfl rfl (l' := #[.val (.int p1), .val (.int p2), .val (.int p3), .val (.int (p1 &&& (255 : Int32))), .val (.int (p2 &&& (255 : Int32))), .val (.int (1 : Int32)), .val (.int (1 : Int32)), .val (.int ((4 : Int32) + (4 : Int32))), .val (.ref b_q3), .unset, .unset]) rfl ?_
    show Steps p.tables e below (T_q3.setTop (mkF m 105 #[.val (.int p1), .val (.int p2), .val (.int p3), .val (.int (p1 &&& (255 : Int32))), .val (.int (p2 &&& (255 : Int32))), .val (.int (1 : Int32)), .val (.int (1 : Int32)), .val (.int ((4 : Int32) + (4 : Int32))), .val (.ref b_q3), .unset, .unset] [])) _
    refine XS.aload X_q3.here hx rfl (hb hby at_105) rfl rfl ?_
    show Steps p.tables e below (T_q3.setTop (mkF m 107 #[.val (.int p1), .val (.int p2), .val (.int p3), .val (.int (p1 &&& (255 : Int32))), .val (.int (p2 &&& (255 : Int32))), .val (.int (1 : Int32)), .val (.int (1 : Int32)), .val (.int ((4 : Int32) + (4 : Int32))), .val (.ref b_q3), .unset, .unset] [(.ref b_q3)])) _
    refine XS.iconst X_q3.here hx rfl (hb hby at_107) ?_
    show Steps p.tables e below (T_q3.setTop (mkF m 108 #[.val (.int p1), .val (.int p2), .val (.int p3), .val (.int (p1 &&& (255 : Int32))), .val (.int (p2 &&& (255 : Int32))), .val (.int (1 : Int32)), .val (.int (1 : Int32)), .val (.int ((4 : Int32) + (4 : Int32))), .val (.ref b_q3), .unset, .unset] [(.int (0 : Int32)), (.ref b_q3)])) _
    refine XS.iloadN X_q3.here hx rfl (hb hby at_108) rfl ?_
    show Steps p.tables e below (T_q3.setTop (mkF m 109 #[.val (.int p1), .val (.int p2), .val (.int p3), .val (.int (p1 &&& (255 : Int32))), .val (.int (p2 &&& (255 : Int32))), .val (.int (1 : Int32)), .val (.int (1 : Int32)), .val (.int ((4 : Int32) + (4 : Int32))), .val (.ref b_q3), .unset, .unset] [(.int (p1 &&& (255 : Int32))), (.int (0 : Int32)), (.ref b_q3)])) _
    refine XS.iload X_q3.here hx rfl (hb hby at_109) rfl ?_
    show Steps p.tables e below (T_q3.setTop (mkF m 111 #[.val (.int p1), .val (.int p2), .val (.int p3), .val (.int (p1 &&& (255 : Int32))), .val (.int (p2 &&& (255 : Int32))), .val (.int (1 : Int32)), .val (.int (1 : Int32)), .val (.int ((4 : Int32) + (4 : Int32))), .val (.ref b_q3), .unset, .unset] [(.int (1 : Int32)), (.int (p1 &&& (255 : Int32))), (.int (0 : Int32)), (.ref b_q3)])) _
    refine st_q4 _ ?_
    show Steps p.tables e below (T_q4.setTop (mkF m 114 #[.val (.int p1), .val (.int p2), .val (.int p3), .val (.int (p1 &&& (255 : Int32))), .val (.int (p2 &&& (255 : Int32))), .val (.int (1 : Int32)), .val (.int (1 : Int32)), .val (.int ((4 : Int32) + (4 : Int32))), .val (.ref b_q3), .unset, .unset] [(.int ((0 : Int32) + (4 : Int32)))])) _
    refine XS.istore X_q4.here hx rfl (hb hby at_114) rfl (l' := #[.val (.int p1), .val (.int p2), .val (.int p3), .val (.int (p1 &&& (255 : Int32))), .val (.int (p2 &&& (255 : Int32))), .val (.int (1 : Int32)), .val (.int (1 : Int32)), .val (.int ((4 : Int32) + (4 : Int32))), .val (.ref b_q3), .val (.int ((0 : Int32) + (4 : Int32))), .unset]) rfl ?_
    show Steps p.tables e below (T_q4.setTop (mkF m 116 #[.val (.int p1), .val (.int p2), .val (.int p3), .val (.int (p1 &&& (255 : Int32))), .val (.int (p2 &&& (255 : Int32))), .val (.int (1 : Int32)), .val (.int (1 : Int32)), .val (.int ((4 : Int32) + (4 : Int32))), .val (.ref b_q3), .val (.int ((0 : Int32) + (4 : Int32))), .unset] [])) _
    refine XS.aload X_q4.here hx rfl (hb hby at_116) rfl rfl ?_
    show Steps p.tables e below (T_q4.setTop (mkF m 118 #[.val (.int p1), .val (.int p2), .val (.int p3), .val (.int (p1 &&& (255 : Int32))), .val (.int (p2 &&& (255 : Int32))), .val (.int (1 : Int32)), .val (.int (1 : Int32)), .val (.int ((4 : Int32) + (4 : Int32))), .val (.ref b_q3), .val (.int ((0 : Int32) + (4 : Int32))), .unset] [(.ref b_q3)])) _
    refine XS.iload X_q4.here hx rfl (hb hby at_118) rfl ?_
    show Steps p.tables e below (T_q4.setTop (mkF m 120 #[.val (.int p1), .val (.int p2), .val (.int p3), .val (.int (p1 &&& (255 : Int32))), .val (.int (p2 &&& (255 : Int32))), .val (.int (1 : Int32)), .val (.int (1 : Int32)), .val (.int ((4 : Int32) + (4 : Int32))), .val (.ref b_q3), .val (.int ((0 : Int32) + (4 : Int32))), .unset] [(.int ((0 : Int32) + (4 : Int32))), (.ref b_q3)])) _
    refine XS.iload X_q4.here hx rfl (hb hby at_120) rfl ?_
    show Steps p.tables e below (T_q4.setTop (mkF m 122 #[.val (.int p1), .val (.int p2), .val (.int p3), .val (.int (p1 &&& (255 : Int32))), .val (.int (p2 &&& (255 : Int32))), .val (.int (1 : Int32)), .val (.int (1 : Int32)), .val (.int ((4 : Int32) + (4 : Int32))), .val (.ref b_q3), .val (.int ((0 : Int32) + (4 : Int32))), .unset] [(.int (p2 &&& (255 : Int32))), (.int ((0 : Int32) + (4 : Int32))), (.ref b_q3)])) _
    refine XS.iload X_q4.here hx rfl (hb hby at_122) rfl ?_
    show Steps p.tables e below (T_q4.setTop (mkF m 124 #[.val (.int p1), .val (.int p2), .val (.int p3), .val (.int (p1 &&& (255 : Int32))), .val (.int (p2 &&& (255 : Int32))), .val (.int (1 : Int32)), .val (.int (1 : Int32)), .val (.int ((4 : Int32) + (4 : Int32))), .val (.ref b_q3), .val (.int ((0 : Int32) + (4 : Int32))), .unset] [(.int (1 : Int32)), (.int (p2 &&& (255 : Int32))), (.int ((0 : Int32) + (4 : Int32))), (.ref b_q3)])) _
    refine st_q5 _ ?_
    show Steps p.tables e below (T_q5.setTop (mkF m 127 #[.val (.int p1), .val (.int p2), .val (.int p3), .val (.int (p1 &&& (255 : Int32))), .val (.int (p2 &&& (255 : Int32))), .val (.int (1 : Int32)), .val (.int (1 : Int32)), .val (.int ((4 : Int32) + (4 : Int32))), .val (.ref b_q3), .val (.int ((0 : Int32) + (4 : Int32))), .unset] [(.int ((4 : Int32) + (4 : Int32)))])) _
    refine XS.pop X_q5.here hx rfl (hb hby at_127) rfl rfl ?_
    show Steps p.tables e below (T_q5.setTop (mkF m 128 #[.val (.int p1), .val (.int p2), .val (.int p3), .val (.int (p1 &&& (255 : Int32))), .val (.int (p2 &&& (255 : Int32))), .val (.int (1 : Int32)), .val (.int (1 : Int32)), .val (.int ((4 : Int32) + (4 : Int32))), .val (.ref b_q3), .val (.int ((0 : Int32) + (4 : Int32))), .unset] [])) _
    refine XS.aload X_q5.here hx rfl (hb hby at_128) rfl rfl ?_
    show Steps p.tables e below (T_q5.setTop (mkF m 130 #[.val (.int p1), .val (.int p2), .val (.int p3), .val (.int (p1 &&& (255 : Int32))), .val (.int (p2 &&& (255 : Int32))), .val (.int (1 : Int32)), .val (.int (1 : Int32)), .val (.int ((4 : Int32) + (4 : Int32))), .val (.ref b_q3), .val (.int ((0 : Int32) + (4 : Int32))), .unset] [(.ref b_q3)])) _
    refine st_q6 _ ?_
    show Steps p.tables e below (T_q6.setTop (mkF m 133 #[.val (.int p1), .val (.int p2), .val (.int p3), .val (.int (p1 &&& (255 : Int32))), .val (.int (p2 &&& (255 : Int32))), .val (.int (1 : Int32)), .val (.int (1 : Int32)), .val (.int ((4 : Int32) + (4 : Int32))), .val (.ref b_q3), .val (.int ((0 : Int32) + (4 : Int32))), .unset] [(.ref r_q6)])) _
    refine XS.astore X_q6.here hx rfl (hb hby at_133) rfl rfl (l' := #[.val (.int p1), .val (.int p2), .val (.int p3), .val (.int (p1 &&& (255 : Int32))), .val (.int (p2 &&& (255 : Int32))), .val (.int (1 : Int32)), .val (.int (1 : Int32)), .val (.int ((4 : Int32) + (4 : Int32))), .val (.ref b_q3), .val (.int ((0 : Int32) + (4 : Int32))), .val (.ref r_q6)]) rfl ?_
    show Steps p.tables e below (T_q6.setTop (mkF m 135 #[.val (.int p1), .val (.int p2), .val (.int p3), .val (.int (p1 &&& (255 : Int32))), .val (.int (p2 &&& (255 : Int32))), .val (.int (1 : Int32)), .val (.int (1 : Int32)), .val (.int ((4 : Int32) + (4 : Int32))), .val (.ref b_q3), .val (.int ((0 : Int32) + (4 : Int32))), .val (.ref r_q6)] [])) _
    refine XS.aload X_q6.here hx rfl (hb hby at_135) rfl rfl ?_
    show Steps p.tables e below (T_q6.setTop (mkF m 137 #[.val (.int p1), .val (.int p2), .val (.int p3), .val (.int (p1 &&& (255 : Int32))), .val (.int (p2 &&& (255 : Int32))), .val (.int (1 : Int32)), .val (.int (1 : Int32)), .val (.int ((4 : Int32) + (4 : Int32))), .val (.ref b_q3), .val (.int ((0 : Int32) + (4 : Int32))), .val (.ref r_q6)] [(.ref r_q6)])) _
    refine X_q6.arraylength hx (by exact Ar_q7.1) (State.isArrayOf_alike hZ.alike Ar_q7.2.1) (g := (mkF m 137 #[.val (.int p1), .val (.int p2), .val (.int p3), .val (.int (p1 &&& (255 : Int32))), .val (.int (p2 &&& (255 : Int32))), .val (.int (1 : Int32)), .val (.int (1 : Int32)), .val (.int ((4 : Int32) + (4 : Int32))), .val (.ref b_q3), .val (.int ((0 : Int32) + (4 : Int32))), .val (.ref r_q6)] [(.ref r_q6)])) rfl rfl (hb hby at_137) _ ?_
    rw [len_of S_q7 Nn_q7]
    show Steps p.tables e below (T_q6.setTop (mkF m 138 #[.val (.int p1), .val (.int p2), .val (.int p3), .val (.int (p1 &&& (255 : Int32))), .val (.int (p2 &&& (255 : Int32))), .val (.int (1 : Int32)), .val (.int (1 : Int32)), .val (.int ((4 : Int32) + (4 : Int32))), .val (.ref b_q3), .val (.int ((0 : Int32) + (4 : Int32))), .val (.ref r_q6)] [(.int (2 : Int32))])) _
    refine XS.iconst X_q6.here hx rfl (hb hby at_138) ?_
    show Steps p.tables e below (T_q6.setTop (mkF m 139 #[.val (.int p1), .val (.int p2), .val (.int p3), .val (.int (p1 &&& (255 : Int32))), .val (.int (p2 &&& (255 : Int32))), .val (.int (1 : Int32)), .val (.int (1 : Int32)), .val (.int ((4 : Int32) + (4 : Int32))), .val (.ref b_q3), .val (.int ((0 : Int32) + (4 : Int32))), .val (.ref r_q6)] [(.int (2 : Int32)), (.int (2 : Int32))])) _
    refine XS.icmpNo X_q6.here hx rfl (hb hby at_139) rfl (teq (by decide : (2 : Int32) = (2 : Int32))).2 ?_
    show Steps p.tables e below (T_q6.setTop (mkF m 142 #[.val (.int p1), .val (.int p2), .val (.int p3), .val (.int (p1 &&& (255 : Int32))), .val (.int (p2 &&& (255 : Int32))), .val (.int (1 : Int32)), .val (.int (1 : Int32)), .val (.int ((4 : Int32) + (4 : Int32))), .val (.ref b_q3), .val (.int ((0 : Int32) + (4 : Int32))), .val (.ref r_q6)] [])) _
    refine XS.aload X_q6.here hx rfl (hb hby at_142) rfl rfl ?_
    show Steps p.tables e below (T_q6.setTop (mkF m 144 #[.val (.int p1), .val (.int p2), .val (.int p3), .val (.int (p1 &&& (255 : Int32))), .val (.int (p2 &&& (255 : Int32))), .val (.int (1 : Int32)), .val (.int (1 : Int32)), .val (.int ((4 : Int32) + (4 : Int32))), .val (.ref b_q3), .val (.int ((0 : Int32) + (4 : Int32))), .val (.ref r_q6)] [(.ref r_q6)])) _
    refine XS.iconst X_q6.here hx rfl (hb hby at_144) ?_
    show Steps p.tables e below (T_q6.setTop (mkF m 145 #[.val (.int p1), .val (.int p2), .val (.int p3), .val (.int (p1 &&& (255 : Int32))), .val (.int (p2 &&& (255 : Int32))), .val (.int (1 : Int32)), .val (.int (1 : Int32)), .val (.int ((4 : Int32) + (4 : Int32))), .val (.ref b_q3), .val (.int ((0 : Int32) + (4 : Int32))), .val (.ref r_q6)] [(.int (0 : Int32)), (.ref r_q6)])) _
    refine X_q6.baloadBytes hx (j := (0 : Int32)) (v := (.int (nar .byte (nar .byte ((((F5_0 (nar .byte ((F2_0 (((p1 &&& (255 : Int32)).toUInt32 >>> ((4 : Int32) &&& 31).toUInt32).toInt32)).toInt8.toInt32))) <<< ((4 : Int32) &&& 31)) ||| (F5_0 (nar .byte ((F2_0 ((p1 &&& (255 : Int32)) &&& (15 : Int32))).toInt8.toInt32)))).toInt8.toInt32))))) (by exact Ar_q8.1) (State.isArrayOf_alike hZ.alike Ar_q8.2.1) Ar_q8.2.2 hin_q8 hat_q8 (g := (mkF m 145 #[.val (.int p1), .val (.int p2), .val (.int p3), .val (.int (p1 &&& (255 : Int32))), .val (.int (p2 &&& (255 : Int32))), .val (.int (1 : Int32)), .val (.int (1 : Int32)), .val (.int ((4 : Int32) + (4 : Int32))), .val (.ref b_q3), .val (.int ((0 : Int32) + (4 : Int32))), .val (.ref r_q6)] [(.int (0 : Int32)), (.ref r_q6)])) rfl rfl (hb hby at_145) _ ?_
    show Steps p.tables e below (T_q6.setTop (mkF m 146 #[.val (.int p1), .val (.int p2), .val (.int p3), .val (.int (p1 &&& (255 : Int32))), .val (.int (p2 &&& (255 : Int32))), .val (.int (1 : Int32)), .val (.int (1 : Int32)), .val (.int ((4 : Int32) + (4 : Int32))), .val (.ref b_q3), .val (.int ((0 : Int32) + (4 : Int32))), .val (.ref r_q6)] [(.int (nar .byte (nar .byte ((((F5_0 (nar .byte ((F2_0 (((p1 &&& (255 : Int32)).toUInt32 >>> ((4 : Int32) &&& 31).toUInt32).toInt32)).toInt8.toInt32))) <<< ((4 : Int32) &&& 31)) ||| (F5_0 (nar .byte ((F2_0 ((p1 &&& (255 : Int32)) &&& (15 : Int32))).toInt8.toInt32)))).toInt8.toInt32))))])) _
    refine XS.iloadN X_q6.here hx rfl (hb hby at_146) rfl ?_
    show Steps p.tables e below (T_q6.setTop (mkF m 147 #[.val (.int p1), .val (.int p2), .val (.int p3), .val (.int (p1 &&& (255 : Int32))), .val (.int (p2 &&& (255 : Int32))), .val (.int (1 : Int32)), .val (.int (1 : Int32)), .val (.int ((4 : Int32) + (4 : Int32))), .val (.ref b_q3), .val (.int ((0 : Int32) + (4 : Int32))), .val (.ref r_q6)] [(.int (p1 &&& (255 : Int32))), (.int (nar .byte (nar .byte ((((F5_0 (nar .byte ((F2_0 (((p1 &&& (255 : Int32)).toUInt32 >>> ((4 : Int32) &&& 31).toUInt32).toInt32)).toInt8.toInt32))) <<< ((4 : Int32) &&& 31)) ||| (F5_0 (nar .byte ((F2_0 ((p1 &&& (255 : Int32)) &&& (15 : Int32))).toInt8.toInt32)))).toInt8.toInt32))))])) _
    refine XS.i2b X_q6.here hx rfl (hb hby at_147) rfl ?_
    show Steps p.tables e below (T_q6.setTop (mkF m 148 #[.val (.int p1), .val (.int p2), .val (.int p3), .val (.int (p1 &&& (255 : Int32))), .val (.int (p2 &&& (255 : Int32))), .val (.int (1 : Int32)), .val (.int (1 : Int32)), .val (.int ((4 : Int32) + (4 : Int32))), .val (.ref b_q3), .val (.int ((0 : Int32) + (4 : Int32))), .val (.ref r_q6)] [(.int ((p1 &&& (255 : Int32)).toInt8.toInt32)), (.int (nar .byte (nar .byte ((((F5_0 (nar .byte ((F2_0 (((p1 &&& (255 : Int32)).toUInt32 >>> ((4 : Int32) &&& 31).toUInt32).toInt32)).toInt8.toInt32))) <<< ((4 : Int32) &&& 31)) ||| (F5_0 (nar .byte ((F2_0 ((p1 &&& (255 : Int32)) &&& (15 : Int32))).toInt8.toInt32)))).toInt8.toInt32))))])) _
    refine XS.icmpNo X_q6.here hx rfl (hb hby at_148) rfl (teq hc_q9).2 ?_
    show Steps p.tables e below (T_q6.setTop (mkF m 151 #[.val (.int p1), .val (.int p2), .val (.int p3), .val (.int (p1 &&& (255 : Int32))), .val (.int (p2 &&& (255 : Int32))), .val (.int (1 : Int32)), .val (.int (1 : Int32)), .val (.int ((4 : Int32) + (4 : Int32))), .val (.ref b_q3), .val (.int ((0 : Int32) + (4 : Int32))), .val (.ref r_q6)] [])) _
    refine XS.aload X_q6.here hx rfl (hb hby at_151) rfl rfl ?_
    show Steps p.tables e below (T_q6.setTop (mkF m 153 #[.val (.int p1), .val (.int p2), .val (.int p3), .val (.int (p1 &&& (255 : Int32))), .val (.int (p2 &&& (255 : Int32))), .val (.int (1 : Int32)), .val (.int (1 : Int32)), .val (.int ((4 : Int32) + (4 : Int32))), .val (.ref b_q3), .val (.int ((0 : Int32) + (4 : Int32))), .val (.ref r_q6)] [(.ref r_q6)])) _
    refine XS.iconst X_q6.here hx rfl (hb hby at_153) ?_
    show Steps p.tables e below (T_q6.setTop (mkF m 154 #[.val (.int p1), .val (.int p2), .val (.int p3), .val (.int (p1 &&& (255 : Int32))), .val (.int (p2 &&& (255 : Int32))), .val (.int (1 : Int32)), .val (.int (1 : Int32)), .val (.int ((4 : Int32) + (4 : Int32))), .val (.ref b_q3), .val (.int ((0 : Int32) + (4 : Int32))), .val (.ref r_q6)] [(.int (1 : Int32)), (.ref r_q6)])) _
    refine X_q6.baloadBytes hx (j := (1 : Int32)) (v := (.int (nar .byte (nar .byte ((((F5_0 (nar .byte ((F2_0 (((p2 &&& (255 : Int32)).toUInt32 >>> ((4 : Int32) &&& 31).toUInt32).toInt32)).toInt8.toInt32))) <<< ((4 : Int32) &&& 31)) ||| (F5_0 (nar .byte ((F2_0 ((p2 &&& (255 : Int32)) &&& (15 : Int32))).toInt8.toInt32)))).toInt8.toInt32))))) (by exact Ar_q10.1) (State.isArrayOf_alike hZ.alike Ar_q10.2.1) Ar_q10.2.2 hin_q10 hat_q10 (g := (mkF m 154 #[.val (.int p1), .val (.int p2), .val (.int p3), .val (.int (p1 &&& (255 : Int32))), .val (.int (p2 &&& (255 : Int32))), .val (.int (1 : Int32)), .val (.int (1 : Int32)), .val (.int ((4 : Int32) + (4 : Int32))), .val (.ref b_q3), .val (.int ((0 : Int32) + (4 : Int32))), .val (.ref r_q6)] [(.int (1 : Int32)), (.ref r_q6)])) rfl rfl (hb hby at_154) _ ?_
    show Steps p.tables e below (T_q6.setTop (mkF m 155 #[.val (.int p1), .val (.int p2), .val (.int p3), .val (.int (p1 &&& (255 : Int32))), .val (.int (p2 &&& (255 : Int32))), .val (.int (1 : Int32)), .val (.int (1 : Int32)), .val (.int ((4 : Int32) + (4 : Int32))), .val (.ref b_q3), .val (.int ((0 : Int32) + (4 : Int32))), .val (.ref r_q6)] [(.int (nar .byte (nar .byte ((((F5_0 (nar .byte ((F2_0 (((p2 &&& (255 : Int32)).toUInt32 >>> ((4 : Int32) &&& 31).toUInt32).toInt32)).toInt8.toInt32))) <<< ((4 : Int32) &&& 31)) ||| (F5_0 (nar .byte ((F2_0 ((p2 &&& (255 : Int32)) &&& (15 : Int32))).toInt8.toInt32)))).toInt8.toInt32))))])) _
    refine XS.iload X_q6.here hx rfl (hb hby at_155) rfl ?_
    show Steps p.tables e below (T_q6.setTop (mkF m 157 #[.val (.int p1), .val (.int p2), .val (.int p3), .val (.int (p1 &&& (255 : Int32))), .val (.int (p2 &&& (255 : Int32))), .val (.int (1 : Int32)), .val (.int (1 : Int32)), .val (.int ((4 : Int32) + (4 : Int32))), .val (.ref b_q3), .val (.int ((0 : Int32) + (4 : Int32))), .val (.ref r_q6)] [(.int (p2 &&& (255 : Int32))), (.int (nar .byte (nar .byte ((((F5_0 (nar .byte ((F2_0 (((p2 &&& (255 : Int32)).toUInt32 >>> ((4 : Int32) &&& 31).toUInt32).toInt32)).toInt8.toInt32))) <<< ((4 : Int32) &&& 31)) ||| (F5_0 (nar .byte ((F2_0 ((p2 &&& (255 : Int32)) &&& (15 : Int32))).toInt8.toInt32)))).toInt8.toInt32))))])) _
    refine XS.i2b X_q6.here hx rfl (hb hby at_157) rfl ?_
    show Steps p.tables e below (T_q6.setTop (mkF m 158 #[.val (.int p1), .val (.int p2), .val (.int p3), .val (.int (p1 &&& (255 : Int32))), .val (.int (p2 &&& (255 : Int32))), .val (.int (1 : Int32)), .val (.int (1 : Int32)), .val (.int ((4 : Int32) + (4 : Int32))), .val (.ref b_q3), .val (.int ((0 : Int32) + (4 : Int32))), .val (.ref r_q6)] [(.int ((p2 &&& (255 : Int32)).toInt8.toInt32)), (.int (nar .byte (nar .byte ((((F5_0 (nar .byte ((F2_0 (((p2 &&& (255 : Int32)).toUInt32 >>> ((4 : Int32) &&& 31).toUInt32).toInt32)).toInt8.toInt32))) <<< ((4 : Int32) &&& 31)) ||| (F5_0 (nar .byte ((F2_0 ((p2 &&& (255 : Int32)) &&& (15 : Int32))).toInt8.toInt32)))).toInt8.toInt32))))])) _
    refine XS.icmpNo X_q6.here hx rfl (hb hby at_158) rfl (teq hc_q11).2 ?_
    show Steps p.tables e below (T_q6.setTop (mkF m 161 #[.val (.int p1), .val (.int p2), .val (.int p3), .val (.int (p1 &&& (255 : Int32))), .val (.int (p2 &&& (255 : Int32))), .val (.int (1 : Int32)), .val (.int (1 : Int32)), .val (.int ((4 : Int32) + (4 : Int32))), .val (.ref b_q3), .val (.int ((0 : Int32) + (4 : Int32))), .val (.ref r_q6)] [])) _
    refine XS.iconst X_q6.here hx rfl (hb hby at_161) ?_
    show Steps p.tables e below (T_q6.setTop (mkF m 162 #[.val (.int p1), .val (.int p2), .val (.int p3), .val (.int (p1 &&& (255 : Int32))), .val (.int (p2 &&& (255 : Int32))), .val (.int (1 : Int32)), .val (.int (1 : Int32)), .val (.int ((4 : Int32) + (4 : Int32))), .val (.ref b_q3), .val (.int ((0 : Int32) + (4 : Int32))), .val (.ref r_q6)] [(.int (1 : Int32))])) _
    refine XS.goto X_q6.here hx rfl (pc0 := 162) (pc' := 166) rfl (hb hby at_162) (by decide) (by decide) ?_
    show Steps p.tables e below (T_q6.setTop (mkF m 166 #[.val (.int p1), .val (.int p2), .val (.int p3), .val (.int (p1 &&& (255 : Int32))), .val (.int (p2 &&& (255 : Int32))), .val (.int (1 : Int32)), .val (.int (1 : Int32)), .val (.int ((4 : Int32) + (4 : Int32))), .val (.ref b_q3), .val (.int ((0 : Int32) + (4 : Int32))), .val (.ref r_q6)] [(.int (1 : Int32))])) _
    exact retN X_q6 hx (t := .boolean) Bd.returns (by simp) (hb hby at_166) hr
  · show Q_law Z p1 p2 p3 h0 n0 _ T_q6.heap _
    exact ⟨rfl, N_q6⟩
set_option maxRecDepth 65536 in
set_option maxHeartbeats 40000000 in
theorem rm0_t_ff (l : Launch) (Z : State) (a0 : Array Value) (hw : ∀ d ∈ tables_1, d.before a0 Z = true) (ws : List Jvm.Cond) (p1 : Int32) (p2 : Int32) (p3 : Int32) (h0 : Heap) (n0 : Nat) (Z0 : n0 ≤ h0.size) (hc_q1 : ¬ ((p3 &&& (1 : Int32)) = (0 : Int32))) (hc_q2 : (p3 &&& (2 : Int32)) = (0 : Int32)) (hc_q3 : (p2 &&& (255 : Int32)) = (92 : Int32)) (hd_he_q5_hc_q7 : ¬ ((F5_0 (nar .byte ((F2_0 (((p1 &&& (255 : Int32)).toUInt32 >>> ((4 : Int32) &&& 31).toUInt32).toInt32)).toInt8.toInt32))) < (0 : Int32))) (hd_he_q5_hc_q8 : ¬ ((F5_0 (nar .byte ((F2_0 ((p1 &&& (255 : Int32)) &&& (15 : Int32))).toInt8.toInt32))) < (0 : Int32))) (hd_he_q9_hc_q7 : ¬ ((F5_0 (nar .byte ((F2_0 (((p2 &&& (255 : Int32)).toUInt32 >>> ((4 : Int32) &&& 31).toUInt32).toInt32)).toInt8.toInt32))) < (0 : Int32))) (hd_he_q9_hc_q8 : ¬ ((F5_0 (nar .byte ((F2_0 ((p2 &&& (255 : Int32)) &&& (15 : Int32))).toInt8.toInt32))) < (0 : Int32))) (hc_q10 : (nar .byte (nar .byte ((((F5_0 (nar .byte ((F2_0 (((p1 &&& (255 : Int32)).toUInt32 >>> ((4 : Int32) &&& 31).toUInt32).toInt32)).toInt8.toInt32))) <<< ((4 : Int32) &&& 31)) ||| (F5_0 (nar .byte ((F2_0 ((p1 &&& (255 : Int32)) &&& (15 : Int32))).toInt8.toInt32)))).toInt8.toInt32))) = ((p1 &&& (255 : Int32)).toInt8.toInt32)) (hc_q12 : (nar .byte (nar .byte ((((F5_0 (nar .byte ((F2_0 (((p2 &&& (255 : Int32)).toUInt32 >>> ((4 : Int32) &&& 31).toUInt32).toInt32)).toInt8.toInt32))) <<< ((4 : Int32) &&& 31)) ||| (F5_0 (nar .byte ((F2_0 ((p2 &&& (255 : Int32)) &&& (15 : Int32))).toInt8.toInt32)))).toInt8.toInt32))) = ((p2 &&& (255 : Int32)).toInt8.toInt32)) :
    MetFree l x (head1 (Jvm.Cond.code x code maxLocals ret :: ws) room_1) (fun a U => a = #[(.int p1), (.int p2), (.int p3)] ∧ Z.Warmed39 U.vm ∧ U.heap = h0) (fun _ _ _ _ _ => True) (fun _ U o U' => ∃ v L, o = .returned v ∧ Q_law Z p1 p2 p3 h0 n0 v U'.heap L ∧ FrameEnd U o U' L room_1.cells room_1.slots) := by
  refine MetFree.of_bodySF (plainFor_of_name pn_0) hisR ?_
  intro p e s m args below meth c s₁ Bd hml0 hP hK
  obtain ⟨rfl, hZ, hh⟩ := hP
  have hx := Bd.exec
  have hby := Bd.bytes
  have hml : c.maxLocals = 11 := hml0
  have hown : s.vm.findClass "com/example/presplit/presplit/escape/BinaryEscapeDecodePinLaw" = some m.cls := findClass_of_methodNamed Bd.named
  have hnm := (name_of_methodNamed Bd.named Bd.method).1
  have X0 : Stand p l e room_1 s m #[(.int p1), (.int p2), (.int p3)] below meth c s₁ [] 0 0 := Stand.of_body Bd
  have e0 : s₁.heap = h0 := by rw [← hh, Bd.state]; rfl
  have N0 := Fr.nil n0
  have pre0 : ∀ t, Steps p.tables e below (s₁.setTop (mkF m 0 #[.val (.int p1), .val (.int p2), .val (.int p3), .unset, .unset, .unset, .unset, .unset, .unset, .unset, .unset] [])) t → Steps p.tables e below (s₁.setTop (entryFrame m #[(.int p1), (.int p2), (.int p3)] maxLocals)) t := fun t k => castTop (ef_0 m p1 p2 p3) k
  have K0 : Keep h0 h0 [] := Keep.refl _ _
  obtain ⟨T_q4, h_q4, k_q4, X_q4, e_q4, E_q4, A_q4, EX_q4, st_q4⟩ := newPE X0 hx hZ (hw _ (List.mem_of_getElem? (i := 0) rfl)) e0 (g := (mkF m 101 #[.val (.int p1), .val (.int p2), .val (.int p3), .val (.int (p1 &&& (255 : Int32))), .val (.int (p2 &&& (255 : Int32))), .val (.int (1 : Int32)), .val (.int (1 : Int32)), .val (.int ((4 : Int32) + (4 : Int32))), .unset, .unset, .unset] [(.int (8 : Int32))])) rfl (hb hby at_101) rfl (by decide) (cap := 8) (by decide) (by decide) (by decide) (by decide) (ad := "[B") (by decide)
  obtain ⟨b_q4, g_q4⟩ : ∃ z, z = h0.size := ⟨_, rfl⟩
  rw [← g_q4] at A_q4 EX_q4 st_q4
  have ge_b_q4 : n0 ≤ b_q4 := Nat.le_trans (Nat.le_trans Z0 K0.1) (Nat.le_of_eq g_q4.symm)
  have sz_b_q4 : h0.size ≤ b_q4 := Nat.le_trans K0.1 (Nat.le_of_eq g_q4.symm)
  have K_q4 : Keep h0 h_q4 [] := K0.ext E_q4
  have V_b_q4 : Arv Z h_q4 b_q4 k_q4 .byte (8 : Int32) [(.int (0 : Int32)), (.int (0 : Int32)), (.int (0 : Int32)), (.int (0 : Int32)), (.int (0 : Int32)), (.int (0 : Int32)), (.int (0 : Int32)), (.int (0 : Int32))] (.int (0 : Int32)) := (Arv.new A_q4 (by decide)).pad (pad_rep [] (.int (0 : Int32)) 8)
  obtain ⟨_, _, ⟨T_q5, L_q5, k_q5, n_q5⟩, -, X_q5, ⟨Lc_q5, hQ_q5, l_q5, y_q5, z_q5⟩, st_q5⟩ := Jvm.LawKit.callS X_q4 hx (y := (⟨"com/example/presplit/presplit/escape/BinaryEscapeDecodePinLaw", "put", "([BIIZ)I"⟩ : MethodName)) hown (mvT hZ (hw _ (List.mem_of_getElem? (i := 1) rfl))) (mvT hZ (hw _ (List.mem_of_getElem? (i := 2) rfl))) (mvT hZ (hw _ (List.mem_of_getElem? (i := 3) rfl))) (mvT hZ (hw _ (List.mem_of_getElem? (i := 4) rfl))) (by decide) (backOf (W := 0) (rm1_8_0_1 l Z a0 hw [] b_q4 k_q4 (.int (0 : Int32)) (.int (0 : Int32)) (.int (0 : Int32)) (.int (0 : Int32)) (.int (0 : Int32)) (.int (0 : Int32)) (.int (0 : Int32)) (.int (0 : Int32)) (p1 &&& (255 : Int32)) h_q4 n0 (Nat.le_trans Z0 K_q4.1) V_b_q4 ge_b_q4) hZ (hw _ (List.mem_of_getElem? (i := 4) rfl)) (hw _ (List.mem_of_getElem? (i := 3) rfl)) (by decide) (by decide)) (g := (mkF m 111 #[.val (.int p1), .val (.int p2), .val (.int p3), .val (.int (p1 &&& (255 : Int32))), .val (.int (p2 &&& (255 : Int32))), .val (.int (1 : Int32)), .val (.int (1 : Int32)), .val (.int ((4 : Int32) + (4 : Int32))), .val (.ref b_q4), .unset, .unset] [(.int (1 : Int32)), (.int (p1 &&& (255 : Int32))), (.int (0 : Int32)), (.ref b_q4)])) rfl (by rw [hml]; rfl) (argsL := [(.ref b_q4), (.int (0 : Int32)), (.int (p1 &&& (255 : Int32))), (.int (1 : Int32))]) (rest := []) (lenOf pd___BIIZ_I rfl) rfl (by show 2 * 0 + _ ≤ _; exact Nat.le_of_eq rfl) (hb hby at_111) (fun _ _ => ⟨rfl, e_q4, (by decide : 1 + 0 ≤ _), (by decide : 8 + 0 ≤ _)⟩)
  dsimp only [Pt.U, Pt.locs, Pt.cells, Pt.slots] at X_q5 l_q5 y_q5 z_q5 st_q5 hQ_q5
  subst l_q5 y_q5 z_q5
  obtain ⟨rfl, Nq_q5, Kq_q5, Vq_q5⟩ := hQ_q5
  have N_q5 := Fr.app N0 Nq_q5
  have EX_q4__q5 := EX_q4.keep Kq_q5
  have K_q5 : Keep h0 T_q5.heap [] := K_q4.trans Kq_q5 (fun x hx => Or.inr (by cases List.mem_singleton.mp hx; exact sz_b_q4))
  obtain ⟨_, _, ⟨T_q6, L_q6, k_q6, n_q6⟩, -, X_q6, ⟨Lc_q6, hQ_q6, l_q6, y_q6, z_q6⟩, st_q6⟩ := Jvm.LawKit.callS X_q5 hx (y := (⟨"com/example/presplit/presplit/escape/BinaryEscapeDecodePinLaw", "put", "([BIIZ)I"⟩ : MethodName)) hown (mvT hZ (hw _ (List.mem_of_getElem? (i := 1) rfl))) (mvT hZ (hw _ (List.mem_of_getElem? (i := 2) rfl))) (mvT hZ (hw _ (List.mem_of_getElem? (i := 3) rfl))) (mvT hZ (hw _ (List.mem_of_getElem? (i := 4) rfl))) (by decide) (backOf (W := 0) (rm1_8_4_1 l Z a0 hw [] b_q4 k_q4 (.int (nar .byte (92 : Int32))) (.int (nar .byte (120 : Int32))) (.int (nar .byte ((F2_0 (((p1 &&& (255 : Int32)).toUInt32 >>> ((4 : Int32) &&& 31).toUInt32).toInt32)).toInt8.toInt32))) (.int (nar .byte ((F2_0 ((p1 &&& (255 : Int32)) &&& (15 : Int32))).toInt8.toInt32))) (.int (0 : Int32)) (.int (0 : Int32)) (.int (0 : Int32)) (.int (0 : Int32)) (p2 &&& (255 : Int32)) T_q5.heap n0 (Nat.le_trans Z0 K_q5.1) Vq_q5 ge_b_q4) hZ (hw _ (List.mem_of_getElem? (i := 4) rfl)) (hw _ (List.mem_of_getElem? (i := 3) rfl)) (by decide) (by decide)) (g := (mkF m 124 #[.val (.int p1), .val (.int p2), .val (.int p3), .val (.int (p1 &&& (255 : Int32))), .val (.int (p2 &&& (255 : Int32))), .val (.int (1 : Int32)), .val (.int (1 : Int32)), .val (.int ((4 : Int32) + (4 : Int32))), .val (.ref b_q4), .val (.int ((0 : Int32) + (4 : Int32))), .unset] [(.int (1 : Int32)), (.int (p2 &&& (255 : Int32))), (.int ((0 : Int32) + (4 : Int32))), (.ref b_q4)])) rfl (by rw [hml]; rfl) (argsL := [(.ref b_q4), (.int ((0 : Int32) + (4 : Int32))), (.int (p2 &&& (255 : Int32))), (.int (1 : Int32))]) (rest := []) (lenOf pd___BIIZ_I rfl) rfl (by show 2 * 0 + _ ≤ _; exact Nat.le_of_eq rfl) (hb hby at_124) (fun _ _ => ⟨rfl, rfl, (by decide : 1 + 0 ≤ _), (by decide : 8 + 0 ≤ _)⟩)
  dsimp only [Pt.U, Pt.locs, Pt.cells, Pt.slots] at X_q6 l_q6 y_q6 z_q6 st_q6 hQ_q6
  subst l_q6 y_q6 z_q6
  obtain ⟨rfl, Nq_q6, Kq_q6, Vq_q6⟩ := hQ_q6
  have N_q6 := Fr.app N_q5 Nq_q6
  have EX_q4__q6 := EX_q4__q5.keep Kq_q6
  have K_q6 : Keep h0 T_q6.heap [] := K_q5.trans Kq_q6 (fun x hx => Or.inr (by cases List.mem_singleton.mp hx; exact sz_b_q4))
  have VD_q7 : Arv Z T_q6.heap b_q4 k_q4 .byte (8 : Int32) [(.int (92 : Int32)), (.int (120 : Int32)), (.int (nar .byte ((F2_0 (((p1 &&& (255 : Int32)).toUInt32 >>> ((4 : Int32) &&& 31).toUInt32).toInt32)).toInt8.toInt32))), (.int (nar .byte ((F2_0 ((p1 &&& (255 : Int32)) &&& (15 : Int32))).toInt8.toInt32))), (.int (92 : Int32)), (.int (120 : Int32)), (.int (nar .byte ((F2_0 (((p2 &&& (255 : Int32)).toUInt32 >>> ((4 : Int32) &&& 31).toUInt32).toInt32)).toInt8.toInt32))), (.int (nar .byte ((F2_0 ((p2 &&& (255 : Int32)) &&& (15 : Int32))).toInt8.toInt32)))] (.int (0 : Int32)) := Vq_q6
  obtain ⟨_, _, ⟨T_q7, L_q7, k_q7, n_q7⟩, -, X_q7, ⟨Lc_q7, hQ_q7, l_q7, y_q7, z_q7⟩, st_q7⟩ := Jvm.LawKit.callS X_q6 hx (y := (⟨"com/example/presplit/presplit/escape/BinaryEscape", "decode", "([B)[B"⟩ : MethodName)) hown (mvT hZ (hw _ (List.mem_of_getElem? (i := 8) rfl))) (mvT hZ (hw _ (List.mem_of_getElem? (i := 9) rfl))) (mvT hZ (hw _ (List.mem_of_getElem? (i := 10) rfl))) (mvT hZ (hw _ (List.mem_of_getElem? (i := 11) rfl))) (by decide) (backOf (W := 0) (rm3_11 l Z a0 hw [] b_q4 k_q4 (nar .byte ((F2_0 (((p1 &&& (255 : Int32)).toUInt32 >>> ((4 : Int32) &&& 31).toUInt32).toInt32)).toInt8.toInt32)) (nar .byte ((F2_0 ((p1 &&& (255 : Int32)) &&& (15 : Int32))).toInt8.toInt32)) (nar .byte ((F2_0 (((p2 &&& (255 : Int32)).toUInt32 >>> ((4 : Int32) &&& 31).toUInt32).toInt32)).toInt8.toInt32)) (nar .byte ((F2_0 ((p2 &&& (255 : Int32)) &&& (15 : Int32))).toInt8.toInt32)) T_q6.heap n0 (Nat.le_trans Z0 K_q6.1) VD_q7 hd_he_q5_hc_q7 hd_he_q5_hc_q8 hd_he_q9_hc_q7 hd_he_q9_hc_q8) hZ (hw _ (List.mem_of_getElem? (i := 11) rfl)) (hw _ (List.mem_of_getElem? (i := 10) rfl)) (by decide) (by decide)) (g := (mkF m 130 #[.val (.int p1), .val (.int p2), .val (.int p3), .val (.int (p1 &&& (255 : Int32))), .val (.int (p2 &&& (255 : Int32))), .val (.int (1 : Int32)), .val (.int (1 : Int32)), .val (.int ((4 : Int32) + (4 : Int32))), .val (.ref b_q4), .val (.int ((0 : Int32) + (4 : Int32))), .unset] [(.ref b_q4)])) rfl (by rw [hml]; rfl) (argsL := [(.ref b_q4)]) (rest := []) (lenOf pd___B__B rfl) rfl (by show 2 * 0 + _ ≤ _; exact Nat.le_of_eq rfl) (hb hby at_130) (fun _ _ => ⟨rfl, rfl, (by decide : 1 + 2 ≤ _), (by decide : 8 + 10 ≤ _)⟩)
  dsimp only [Pt.U, Pt.locs, Pt.cells, Pt.slots] at X_q7 l_q7 y_q7 z_q7 st_q7 hQ_q7
  subst l_q7 y_q7 z_q7
  obtain ⟨r_q7, kr_q7, rfl, Nq_q7, Kq_q7, Vr_q7⟩ := hQ_q7
  have N_q7 := Fr.app N_q6 Nq_q7
  have EX_q4__q7 := EX_q4__q6.keep Kq_q7
  have Vq_q6__q7 := Vq_q6.keep Kq_q7 List.not_mem_nil
  have K_q7 : Keep h0 T_q7.heap [] := K_q6.trans Kq_q7 (fun x hx => nomatch hx)
  obtain ⟨cl_q8, Ar_q8, qk_q8, S_q8, Nn_q8, H_q8, G_q8⟩ := id Vr_q7
  obtain ⟨cl_q9, Ar_q9, qk_q9, S_q9, Nn_q9, H_q9, G_q9⟩ := id Vr_q7
  have hin_q9 : ¬ ((0 : Int32) < 0 ∨ cl_q9.slots.size ≤ ((0 : Int32)).toNatClampNeg) := inb_of S_q9 ⟨by decide, by decide⟩
  have hat_q9 : cl_q9.slots[((0 : Int32)).toNatClampNeg]? = some (.int (nar .byte (nar .byte ((((F5_0 (nar .byte ((F2_0 (((p1 &&& (255 : Int32)).toUInt32 >>> ((4 : Int32) &&& 31).toUInt32).toInt32)).toInt8.toInt32))) <<< ((4 : Int32) &&& 31)) ||| (F5_0 (nar .byte ((F2_0 ((p1 &&& (255 : Int32)) &&& (15 : Int32))).toInt8.toInt32)))).toInt8.toInt32)))) := H_q9 0 (Nat.lt_of_not_le fun q => hin_q9 (Or.inr q))
  obtain ⟨cl_q11, Ar_q11, qk_q11, S_q11, Nn_q11, H_q11, G_q11⟩ := id Vr_q7
  have hin_q11 : ¬ ((1 : Int32) < 0 ∨ cl_q11.slots.size ≤ ((1 : Int32)).toNatClampNeg) := inb_of S_q11 ⟨by decide, by decide⟩
  have hat_q11 : cl_q11.slots[((1 : Int32)).toNatClampNeg]? = some (.int (nar .byte (nar .byte ((((F5_0 (nar .byte ((F2_0 (((p2 &&& (255 : Int32)).toUInt32 >>> ((4 : Int32) &&& 31).toUInt32).toInt32)).toInt8.toInt32))) <<< ((4 : Int32) &&& 31)) ||| (F5_0 (nar .byte ((F2_0 ((p2 &&& (255 : Int32)) &&& (15 : Int32))).toInt8.toInt32)))).toInt8.toInt32)))) := H_q11 1 (Nat.lt_of_not_le fun q => hin_q11 (Or.inr q))
  obtain ⟨fs, hr, hrun, hended, hW, hsame⟩ := X_q7.leave (v := some (.int (1 : Int32))) (fun h => by rw [Bd.returns] at h; cases h) Bd.notSynchronized
  refine ⟨_, _, pre0 _ ?_, hrun, hended, _, _, rfl, ?_, ⟨_, rfl⟩, hW, hsame.mono (by decide) (by decide)⟩
  · show Steps p.tables e below (s₁.setTop (mkF m 0 #[.val (.int p1), .val (.int p2), .val (.int p3), .unset, .unset, .unset, .unset, .unset, .unset, .unset, .unset] [])) _
    refine XS.iloadN X0.here hx rfl (hb hby at_0) rfl ?_
    show Steps p.tables e below (s₁.setTop (mkF m 1 #[.val (.int p1), .val (.int p2), .val (.int p3), .unset, .unset, .unset, .unset, .unset, .unset, .unset, .unset] [(.int p1)])) _
    refine XS.sipush X0.here hx rfl (hb hby at_1) ?_
    show Steps p.tables e below (s₁.setTop (mkF m 4 #[.val (.int p1), .val (.int p2), .val (.int p3), .unset, .unset, .unset, .unset, .unset, .unset, .unset, .unset] [(.int (255 : Int32)), (.int p1)])) _
    refine XS.iand X0.here hx rfl (hb hby at_4) rfl ?_
    show Steps p.tables e below (s₁.setTop (mkF m 5 #[.val (.int p1), .val (.int p2), .val (.int p3), .unset, .unset, .unset, .unset, .unset, .unset, .unset, .unset] [(.int (p1 &&& (255 : Int32)))])) _
    refine XS.istoreN X0.here hx rfl (hb hby at_5) rfl (l' := #[.val (.int p1), .val (.int p2), .val (.int p3), .val (.int (p1 &&& (255 : Int32))), .unset, .unset, .unset, .unset, .unset, .unset, .unset]) rfl ?_
    show Steps p.tables e below (s₁.setTop (mkF m 6 #[.val (.int p1), .val (.int p2), .val (.int p3), .val (.int (p1 &&& (255 : Int32))), .unset, .unset, .unset, .unset, .unset, .unset, .unset] [])) _
    refine XS.iloadN X0.here hx rfl (hb hby at_6) rfl ?_
    show Steps p.tables e below (s₁.setTop (mkF m 7 #[.val (.int p1), .val (.int p2), .val (.int p3), .val (.int (p1 &&& (255 : Int32))), .unset, .unset, .unset, .unset, .unset, .unset, .unset] [(.int p2)])) _
    refine XS.sipush X0.here hx rfl (hb hby at_7) ?_
    show Steps p.tables e below (s₁.setTop (mkF m 10 #[.val (.int p1), .val (.int p2), .val (.int p3), .val (.int (p1 &&& (255 : Int32))), .unset, .unset, .unset, .unset, .unset, .unset, .unset] [(.int (255 : Int32)), (.int p2)])) _
    refine XS.iand X0.here hx rfl (hb hby at_10) rfl ?_
    show Steps p.tables e below (s₁.setTop (mkF m 11 #[.val (.int p1), .val (.int p2), .val (.int p3), .val (.int (p1 &&& (255 : Int32))), .unset, .unset, .unset, .unset, .unset, .unset, .unset] [(.int (p2 &&& (255 : Int32)))])) _
    refine XS.istore X0.here hx rfl (hb hby at_11) rfl (l' := #[.val (.int p1), .val (.int p2), .val (.int p3), .val (.int (p1 &&& (255 : Int32))), .val (.int (p2 &&& (255 : Int32))), .unset, .unset, .unset, .unset, .unset, .unset]) rfl ?_
    show Steps p.tables e below (s₁.setTop (mkF m 13 #[.val (.int p1), .val (.int p2), .val (.int p3), .val (.int (p1 &&& (255 : Int32))), .val (.int (p2 &&& (255 : Int32))), .unset, .unset, .unset, .unset, .unset, .unset] [])) _
    refine XS.iloadN X0.here hx rfl (hb hby at_13) rfl ?_
    show Steps p.tables e below (s₁.setTop (mkF m 14 #[.val (.int p1), .val (.int p2), .val (.int p3), .val (.int (p1 &&& (255 : Int32))), .val (.int (p2 &&& (255 : Int32))), .unset, .unset, .unset, .unset, .unset, .unset] [(.int p3)])) _
    refine XS.iconst X0.here hx rfl (hb hby at_14) ?_
    show Steps p.tables e below (s₁.setTop (mkF m 15 #[.val (.int p1), .val (.int p2), .val (.int p3), .val (.int (p1 &&& (255 : Int32))), .val (.int (p2 &&& (255 : Int32))), .unset, .unset, .unset, .unset, .unset, .unset] [(.int (1 : Int32)), (.int p3)])) _
    refine XS.iand X0.here hx rfl (hb hby at_15) rfl ?_
    show Steps p.tables e below (s₁.setTop (mkF m 16 #[.val (.int p1), .val (.int p2), .val (.int p3), .val (.int (p1 &&& (255 : Int32))), .val (.int (p2 &&& (255 : Int32))), .unset, .unset, .unset, .unset, .unset, .unset] [(.int (p3 &&& (1 : Int32)))])) _
    refine XS.ifYes X0.here hx rfl (pc0 := 16) (pc' := 25) rfl (hb hby at_16) rfl ((if0 _ _).trans (feq hc_q1).2) (by decide) (by decide) ?_
    show Steps p.tables e below (s₁.setTop (mkF m 25 #[.val (.int p1), .val (.int p2), .val (.int p3), .val (.int (p1 &&& (255 : Int32))), .val (.int (p2 &&& (255 : Int32))), .unset, .unset, .unset, .unset, .unset, .unset] [])) _
    refine XS.iconst X0.here hx rfl (hb hby at_25) ?_
    show Steps p.tables e below (s₁.setTop (mkF m 26 #[.val (.int p1), .val (.int p2), .val (.int p3), .val (.int (p1 &&& (255 : Int32))), .val (.int (p2 &&& (255 : Int32))), .unset, .unset, .unset, .unset, .unset, .unset] [(.int (1 : Int32))])) _
    refine XS.goto X0.here hx rfl (pc0 := 26) (pc' := 30) rfl (hb hby at_26) (by decide) (by decide) ?_
    show Steps p.tables e below (s₁.setTop (mkF m 30 #[.val (.int p1), .val (.int p2), .val (.int p3), .val (.int (p1 &&& (255 : Int32))), .val (.int (p2 &&& (255 : Int32))), .unset, .unset, .unset, .unset, .unset, .unset] [(.int (1 : Int32))])) _
    refine XS.istore X0.here hx rfl (hb hby at_30) rfl (l' := #[.val (.int p1), .val (.int p2), .val (.int p3), .val (.int (p1 &&& (255 : Int32))), .val (.int (p2 &&& (255 : Int32))), .val (.int (1 : Int32)), .unset, .unset, .unset, .unset, .unset]) rfl ?_
    show Steps p.tables e below (s₁.setTop (mkF m 32 #[.val (.int p1), .val (.int p2), .val (.int p3), .val (.int (p1 &&& (255 : Int32))), .val (.int (p2 &&& (255 : Int32))), .val (.int (1 : Int32)), .unset, .unset, .unset, .unset, .unset] [])) _
    refine XS.iloadN X0.here hx rfl (hb hby at_32) rfl ?_
    show Steps p.tables e below (s₁.setTop (mkF m 33 #[.val (.int p1), .val (.int p2), .val (.int p3), .val (.int (p1 &&& (255 : Int32))), .val (.int (p2 &&& (255 : Int32))), .val (.int (1 : Int32)), .unset, .unset, .unset, .unset, .unset] [(.int p3)])) _
    refine XS.iconst X0.here hx rfl (hb hby at_33) ?_
    show Steps p.tables e below (s₁.setTop (mkF m 34 #[.val (.int p1), .val (.int p2), .val (.int p3), .val (.int (p1 &&& (255 : Int32))), .val (.int (p2 &&& (255 : Int32))), .val (.int (1 : Int32)), .unset, .unset, .unset, .unset, .unset] [(.int (2 : Int32)), (.int p3)])) _
    refine XS.iand X0.here hx rfl (hb hby at_34) rfl ?_
    show Steps p.tables e below (s₁.setTop (mkF m 35 #[.val (.int p1), .val (.int p2), .val (.int p3), .val (.int (p1 &&& (255 : Int32))), .val (.int (p2 &&& (255 : Int32))), .val (.int (1 : Int32)), .unset, .unset, .unset, .unset, .unset] [(.int (p3 &&& (2 : Int32)))])) _
    refine XS.ifNo X0.here hx rfl (hb hby at_35) rfl ((if0 _ _).trans (teq hc_q2).2) ?_
    show Steps p.tables e below (s₁.setTop (mkF m 38 #[.val (.int p1), .val (.int p2), .val (.int p3), .val (.int (p1 &&& (255 : Int32))), .val (.int (p2 &&& (255 : Int32))), .val (.int (1 : Int32)), .unset, .unset, .unset, .unset, .unset] [])) _
    refine XS.iload X0.here hx rfl (hb hby at_38) rfl ?_
    show Steps p.tables e below (s₁.setTop (mkF m 40 #[.val (.int p1), .val (.int p2), .val (.int p3), .val (.int (p1 &&& (255 : Int32))), .val (.int (p2 &&& (255 : Int32))), .val (.int (1 : Int32)), .unset, .unset, .unset, .unset, .unset] [(.int (p2 &&& (255 : Int32)))])) _
    refine XS.bipush X0.here hx rfl (hb hby at_40) ?_
    show Steps p.tables e below (s₁.setTop (mkF m 42 #[.val (.int p1), .val (.int p2), .val (.int p3), .val (.int (p1 &&& (255 : Int32))), .val (.int (p2 &&& (255 : Int32))), .val (.int (1 : Int32)), .unset, .unset, .unset, .unset, .unset] [(.int (92 : Int32)), (.int (p2 &&& (255 : Int32)))])) _
    refine XS.icmpNo X0.here hx rfl (hb hby at_42) rfl (teq hc_q3).2 ?_
    show Steps p.tables e below (s₁.setTop (mkF m 45 #[.val (.int p1), .val (.int p2), .val (.int p3), .val (.int (p1 &&& (255 : Int32))), .val (.int (p2 &&& (255 : Int32))), .val (.int (1 : Int32)), .unset, .unset, .unset, .unset, .unset] [])) _
    refine XS.iconst X0.here hx rfl (hb hby at_45) ?_
    show Steps p.tables e below (s₁.setTop (mkF m 46 #[.val (.int p1), .val (.int p2), .val (.int p3), .val (.int (p1 &&& (255 : Int32))), .val (.int (p2 &&& (255 : Int32))), .val (.int (1 : Int32)), .unset, .unset, .unset, .unset, .unset] [(.int (1 : Int32))])) _
    refine XS.goto X0.here hx rfl (pc0 := 46) (pc' := 50) rfl (hb hby at_46) (by decide) (by decide) ?_
    show Steps p.tables e below (s₁.setTop (mkF m 50 #[.val (.int p1), .val (.int p2), .val (.int p3), .val (.int (p1 &&& (255 : Int32))), .val (.int (p2 &&& (255 : Int32))), .val (.int (1 : Int32)), .unset, .unset, .unset, .unset, .unset] [(.int (1 : Int32))])) _
    refine XS.istore X0.here hx rfl (hb hby at_50) rfl (l' := #[.val (.int p1), .val (.int p2), .val (.int p3), .val (.int (p1 &&& (255 : Int32))), .val (.int (p2 &&& (255 : Int32))), .val (.int (1 : Int32)), .val (.int (1 : Int32)), .unset, .unset, .unset, .unset]) rfl ?_
    show Steps p.tables e below (s₁.setTop (mkF m 52 #[.val (.int p1), .val (.int p2), .val (.int p3), .val (.int (p1 &&& (255 : Int32))), .val (.int (p2 &&& (255 : Int32))), .val (.int (1 : Int32)), .val (.int (1 : Int32)), .unset, .unset, .unset, .unset] [])) _
    refine XS.iload X0.here hx rfl (hb hby at_52) rfl ?_
    show Steps p.tables e below (s₁.setTop (mkF m 54 #[.val (.int p1), .val (.int p2), .val (.int p3), .val (.int (p1 &&& (255 : Int32))), .val (.int (p2 &&& (255 : Int32))), .val (.int (1 : Int32)), .val (.int (1 : Int32)), .unset, .unset, .unset, .unset] [(.int (1 : Int32))])) _
    refine XS.ifNo X0.here hx rfl (hb hby at_54) rfl ((if0 _ _).trans (feq (by decide : ¬ ((1 : Int32) = (0 : Int32)))).1) ?_
    show Steps p.tables e below (s₁.setTop (mkF m 57 #[.val (.int p1), .val (.int p2), .val (.int p3), .val (.int (p1 &&& (255 : Int32))), .val (.int (p2 &&& (255 : Int32))), .val (.int (1 : Int32)), .val (.int (1 : Int32)), .unset, .unset, .unset, .unset] [])) _
    refine XS.iconst X0.here hx rfl (hb hby at_57) ?_
    show Steps p.tables e below (s₁.setTop (mkF m 58 #[.val (.int p1), .val (.int p2), .val (.int p3), .val (.int (p1 &&& (255 : Int32))), .val (.int (p2 &&& (255 : Int32))), .val (.int (1 : Int32)), .val (.int (1 : Int32)), .unset, .unset, .unset, .unset] [(.int (4 : Int32))])) _
    refine XS.goto X0.here hx rfl (pc0 := 58) (pc' := 62) rfl (hb hby at_58) (by decide) (by decide) ?_
    show Steps p.tables e below (s₁.setTop (mkF m 62 #[.val (.int p1), .val (.int p2), .val (.int p3), .val (.int (p1 &&& (255 : Int32))), .val (.int (p2 &&& (255 : Int32))), .val (.int (1 : Int32)), .val (.int (1 : Int32)), .unset, .unset, .unset, .unset] [(.int (4 : Int32))])) _
    refine XS.iload X0.here hx rfl (hb hby at_62) rfl ?_
    show Steps p.tables e below (s₁.setTop (mkF m 64 #[.val (.int p1), .val (.int p2), .val (.int p3), .val (.int (p1 &&& (255 : Int32))), .val (.int (p2 &&& (255 : Int32))), .val (.int (1 : Int32)), .val (.int (1 : Int32)), .unset, .unset, .unset, .unset] [(.int (1 : Int32)), (.int (4 : Int32))])) _
    refine XS.ifNo X0.here hx rfl (hb hby at_64) rfl ((if0 _ _).trans (feq (by decide : ¬ ((1 : Int32) = (0 : Int32)))).1) ?_
    show Steps p.tables e below (s₁.setTop (mkF m 67 #[.val (.int p1), .val (.int p2), .val (.int p3), .val (.int (p1 &&& (255 : Int32))), .val (.int (p2 &&& (255 : Int32))), .val (.int (1 : Int32)), .val (.int (1 : Int32)), .unset, .unset, .unset, .unset] [(.int (4 : Int32))])) _
    refine XS.iconst X0.here hx rfl (hb hby at_67) ?_
    show Steps p.tables e below (s₁.setTop (mkF m 68 #[.val (.int p1), .val (.int p2), .val (.int p3), .val (.int (p1 &&& (255 : Int32))), .val (.int (p2 &&& (255 : Int32))), .val (.int (1 : Int32)), .val (.int (1 : Int32)), .unset, .unset, .unset, .unset] [(.int (4 : Int32)), (.int (4 : Int32))])) _
    refine XS.goto X0.here hx rfl (pc0 := 68) (pc' := 72) rfl (hb hby at_68) (by decide) (by decide) ?_
    show Steps p.tables e below (s₁.setTop (mkF m 72 #[.val (.int p1), .val (.int p2), .val (.int p3), .val (.int (p1 &&& (255 : Int32))), .val (.int (p2 &&& (255 : Int32))), .val (.int (1 : Int32)), .val (.int (1 : Int32)), .unset, .unset, .unset, .unset] [(.int (4 : Int32)), (.int (4 : Int32))])) _
    refine XS.iadd X0.here hx rfl (hb hby at_72) rfl ?_
    show Steps p.tables e below (s₁.setTop (mkF m 73 #[.val (.int p1), .val (.int p2), .val (.int p3), .val (.int (p1 &&& (255 : Int32))), .val (.int (p2 &&& (255 : Int32))), .val (.int (1 : Int32)), .val (.int (1 : Int32)), .unset, .unset, .unset, .unset] [(.int ((4 : Int32) + (4 : Int32)))])) _
    refine XS.istore X0.here hx rfl (hb hby at_73) rfl (l' := #[.val (.int p1), .val (.int p2), .val (.int p3), .val (.int (p1 &&& (255 : Int32))), .val (.int (p2 &&& (255 : Int32))), .val (.int (1 : Int32)), .val (.int (1 : Int32)), .val (.int ((4 : Int32) + (4 : Int32))), .unset, .unset, .unset]) rfl ?_
    show Steps p.tables e below (s₁.setTop (mkF m 75 #[.val (.int p1), .val (.int p2), .val (.int p3), .val (.int (p1 &&& (255 : Int32))), .val (.int (p2 &&& (255 : Int32))), .val (.int (1 : Int32)), .val (.int (1 : Int32)), .val (.int ((4 : Int32) + (4 : Int32))), .unset, .unset, .unset] [])) _
    refine XS.iload X0.here hx rfl (hb hby at_75) rfl ?_
    show Steps p.tables e below (s₁.setTop (mkF m 77 #[.val (.int p1), .val (.int p2), .val (.int p3), .val (.int (p1 &&& (255 : Int32))), .val (.int (p2 &&& (255 : Int32))), .val (.int (1 : Int32)), .val (.int (1 : Int32)), .val (.int ((4 : Int32) + (4 : Int32))), .unset, .unset, .unset] [(.int ((4 : Int32) + (4 : Int32)))])) _
    refine XS.iconst X0.here hx rfl (hb hby at_77) ?_
    show Steps p.tables e below (s₁.setTop (mkF m 78 #[.val (.int p1), .val (.int p2), .val (.int p3), .val (.int (p1 &&& (255 : Int32))), .val (.int (p2 &&& (255 : Int32))), .val (.int (1 : Int32)), .val (.int (1 : Int32)), .val (.int ((4 : Int32) + (4 : Int32))), .unset, .unset, .unset] [(.int (2 : Int32)), (.int ((4 : Int32) + (4 : Int32)))])) _
    refine XS.icmpYes X0.here hx rfl (pc0 := 78) (pc' := 87) rfl (hb hby at_78) rfl (feq (by decide : ¬ (((4 : Int32) + (4 : Int32)) = (2 : Int32)))).2 (by decide) (by decide) ?_
    show Steps p.tables e below (s₁.setTop (mkF m 87 #[.val (.int p1), .val (.int p2), .val (.int p3), .val (.int (p1 &&& (255 : Int32))), .val (.int (p2 &&& (255 : Int32))), .val (.int (1 : Int32)), .val (.int (1 : Int32)), .val (.int ((4 : Int32) + (4 : Int32))), .unset, .unset, .unset] [])) _
    refine XS.iload X0.here hx rfl (hb hby at_87) rfl ?_
    show Steps p.tables e below (s₁.setTop (mkF m 89 #[.val (.int p1), .val (.int p2), .val (.int p3), .val (.int (p1 &&& (255 : Int32))), .val (.int (p2 &&& (255 : Int32))), .val (.int (1 : Int32)), .val (.int (1 : Int32)), .val (.int ((4 : Int32) + (4 : Int32))), .unset, .unset, .unset] [(.int ((4 : Int32) + (4 : Int32)))])) _
    refine XS.iconst X0.here hx rfl (hb hby at_89) ?_
    show Steps p.tables e below (s₁.setTop (mkF m 90 #[.val (.int p1), .val (.int p2), .val (.int p3), .val (.int (p1 &&& (255 : Int32))), .val (.int (p2 &&& (255 : Int32))), .val (.int (1 : Int32)), .val (.int (1 : Int32)), .val (.int ((4 : Int32) + (4 : Int32))), .unset, .unset, .unset] [(.int (5 : Int32)), (.int ((4 : Int32) + (4 : Int32)))])) _
    refine XS.icmpYes X0.here hx rfl (pc0 := 90) (pc' := 99) rfl (hb hby at_90) rfl (feq (by decide : ¬ (((4 : Int32) + (4 : Int32)) = (5 : Int32)))).2 (by decide) (by decide) ?_
    show Steps p.tables e below (s₁.setTop (mkF m 99 #[.val (.int p1), .val (.int p2), .val (.int p3), .val (.int (p1 &&& (255 : Int32))), .val (.int (p2 &&& (255 : Int32))), .val (.int (1 : Int32)), .val (.int (1 : Int32)), .val (.int ((4 : Int32) + (4 : Int32))), .unset, .unset, .unset] [])) _
    refine XS.bipush X0.here hx rfl (hb hby at_99) ?_
    show Steps p.tables e below (s₁.setTop (mkF m 101 #[.val (.int p1), .val (.int p2), .val (.int p3), .val (.int (p1 &&& (255 : Int32))), .val (.int (p2 &&& (255 : Int32))), .val (.int (1 : Int32)), .val (.int (1 : Int32)), .val (.int ((4 : Int32) + (4 : Int32))), .unset, .unset, .unset] [(.int (8 : Int32))])) _
    refine st_q4 _ ?_
    show Steps p.tables e below (T_q4.setTop (mkF m 103 #[.val (.int p1), .val (.int p2), .val (.int p3), .val (.int (p1 &&& (255 : Int32))), .val (.int (p2 &&& (255 : Int32))), .val (.int (1 : Int32)), .val (.int (1 : Int32)), .val (.int ((4 : Int32) + (4 : Int32))), .unset, .unset, .unset] [(.ref b_q4)])) _
    refine XS.astore X_q4.here hx rfl (hb hby at_103) rfl rfl (l' := #[.val (.int p1), .val (.int p2), .val (.int p3), .val (.int (p1 &&& (255 : Int32))), .val (.int (p2 &&& (255 : Int32))), .val (.int (1 : Int32)), .val (.int (1 : Int32)), .val (.int ((4 : Int32) + (4 : Int32))), .val (.ref b_q4), .unset, .unset]) rfl ?_
    show Steps p.tables e below (T_q4.setTop (mkF m 105 #[.val (.int p1), .val (.int p2), .val (.int p3), .val (.int (p1 &&& (255 : Int32))), .val (.int (p2 &&& (255 : Int32))), .val (.int (1 : Int32)), .val (.int (1 : Int32)), .val (.int ((4 : Int32) + (4 : Int32))), .val (.ref b_q4), .unset, .unset] [])) _
    refine XS.aload X_q4.here hx rfl (hb hby at_105) rfl rfl ?_
    show Steps p.tables e below (T_q4.setTop (mkF m 107 #[.val (.int p1), .val (.int p2), .val (.int p3), .val (.int (p1 &&& (255 : Int32))), .val (.int (p2 &&& (255 : Int32))), .val (.int (1 : Int32)), .val (.int (1 : Int32)), .val (.int ((4 : Int32) + (4 : Int32))), .val (.ref b_q4), .unset, .unset] [(.ref b_q4)])) _
    refine XS.iconst X_q4.here hx rfl (hb hby at_107) ?_
    show Steps p.tables e below (T_q4.setTop (mkF m 108 #[.val (.int p1), .val (.int p2), .val (.int p3), .val (.int (p1 &&& (255 : Int32))), .val (.int (p2 &&& (255 : Int32))), .val (.int (1 : Int32)), .val (.int (1 : Int32)), .val (.int ((4 : Int32) + (4 : Int32))), .val (.ref b_q4), .unset, .unset] [(.int (0 : Int32)), (.ref b_q4)])) _
    refine XS.iloadN X_q4.here hx rfl (hb hby at_108) rfl ?_
    show Steps p.tables e below (T_q4.setTop (mkF m 109 #[.val (.int p1), .val (.int p2), .val (.int p3), .val (.int (p1 &&& (255 : Int32))), .val (.int (p2 &&& (255 : Int32))), .val (.int (1 : Int32)), .val (.int (1 : Int32)), .val (.int ((4 : Int32) + (4 : Int32))), .val (.ref b_q4), .unset, .unset] [(.int (p1 &&& (255 : Int32))), (.int (0 : Int32)), (.ref b_q4)])) _
    refine XS.iload X_q4.here hx rfl (hb hby at_109) rfl ?_
    show Steps p.tables e below (T_q4.setTop (mkF m 111 #[.val (.int p1), .val (.int p2), .val (.int p3), .val (.int (p1 &&& (255 : Int32))), .val (.int (p2 &&& (255 : Int32))), .val (.int (1 : Int32)), .val (.int (1 : Int32)), .val (.int ((4 : Int32) + (4 : Int32))), .val (.ref b_q4), .unset, .unset] [(.int (1 : Int32)), (.int (p1 &&& (255 : Int32))), (.int (0 : Int32)), (.ref b_q4)])) _
    refine st_q5 _ ?_
    show Steps p.tables e below (T_q5.setTop (mkF m 114 #[.val (.int p1), .val (.int p2), .val (.int p3), .val (.int (p1 &&& (255 : Int32))), .val (.int (p2 &&& (255 : Int32))), .val (.int (1 : Int32)), .val (.int (1 : Int32)), .val (.int ((4 : Int32) + (4 : Int32))), .val (.ref b_q4), .unset, .unset] [(.int ((0 : Int32) + (4 : Int32)))])) _
    refine XS.istore X_q5.here hx rfl (hb hby at_114) rfl (l' := #[.val (.int p1), .val (.int p2), .val (.int p3), .val (.int (p1 &&& (255 : Int32))), .val (.int (p2 &&& (255 : Int32))), .val (.int (1 : Int32)), .val (.int (1 : Int32)), .val (.int ((4 : Int32) + (4 : Int32))), .val (.ref b_q4), .val (.int ((0 : Int32) + (4 : Int32))), .unset]) rfl ?_
    show Steps p.tables e below (T_q5.setTop (mkF m 116 #[.val (.int p1), .val (.int p2), .val (.int p3), .val (.int (p1 &&& (255 : Int32))), .val (.int (p2 &&& (255 : Int32))), .val (.int (1 : Int32)), .val (.int (1 : Int32)), .val (.int ((4 : Int32) + (4 : Int32))), .val (.ref b_q4), .val (.int ((0 : Int32) + (4 : Int32))), .unset] [])) _
    refine XS.aload X_q5.here hx rfl (hb hby at_116) rfl rfl ?_
    show Steps p.tables e below (T_q5.setTop (mkF m 118 #[.val (.int p1), .val (.int p2), .val (.int p3), .val (.int (p1 &&& (255 : Int32))), .val (.int (p2 &&& (255 : Int32))), .val (.int (1 : Int32)), .val (.int (1 : Int32)), .val (.int ((4 : Int32) + (4 : Int32))), .val (.ref b_q4), .val (.int ((0 : Int32) + (4 : Int32))), .unset] [(.ref b_q4)])) _
    refine XS.iload X_q5.here hx rfl (hb hby at_118) rfl ?_
    show Steps p.tables e below (T_q5.setTop (mkF m 120 #[.val (.int p1), .val (.int p2), .val (.int p3), .val (.int (p1 &&& (255 : Int32))), .val (.int (p2 &&& (255 : Int32))), .val (.int (1 : Int32)), .val (.int (1 : Int32)), .val (.int ((4 : Int32) + (4 : Int32))), .val (.ref b_q4), .val (.int ((0 : Int32) + (4 : Int32))), .unset] [(.int ((0 : Int32) + (4 : Int32))), (.ref b_q4)])) _
    refine XS.iload X_q5.here hx rfl (hb hby at_120) rfl ?_
    show Steps p.tables e below (T_q5.setTop (mkF m 122 #[.val (.int p1), .val (.int p2), .val (.int p3), .val (.int (p1 &&& (255 : Int32))), .val (.int (p2 &&& (255 : Int32))), .val (.int (1 : Int32)), .val (.int (1 : Int32)), .val (.int ((4 : Int32) + (4 : Int32))), .val (.ref b_q4), .val (.int ((0 : Int32) + (4 : Int32))), .unset] [(.int (p2 &&& (255 : Int32))), (.int ((0 : Int32) + (4 : Int32))), (.ref b_q4)])) _
    refine XS.iload X_q5.here hx rfl (hb hby at_122) rfl ?_
    show Steps p.tables e below (T_q5.setTop (mkF m 124 #[.val (.int p1), .val (.int p2), .val (.int p3), .val (.int (p1 &&& (255 : Int32))), .val (.int (p2 &&& (255 : Int32))), .val (.int (1 : Int32)), .val (.int (1 : Int32)), .val (.int ((4 : Int32) + (4 : Int32))), .val (.ref b_q4), .val (.int ((0 : Int32) + (4 : Int32))), .unset] [(.int (1 : Int32)), (.int (p2 &&& (255 : Int32))), (.int ((0 : Int32) + (4 : Int32))), (.ref b_q4)])) _
    refine st_q6 _ ?_
    show Steps p.tables e below (T_q6.setTop (mkF m 127 #[.val (.int p1), .val (.int p2), .val (.int p3), .val (.int (p1 &&& (255 : Int32))), .val (.int (p2 &&& (255 : Int32))), .val (.int (1 : Int32)), .val (.int (1 : Int32)), .val (.int ((4 : Int32) + (4 : Int32))), .val (.ref b_q4), .val (.int ((0 : Int32) + (4 : Int32))), .unset] [(.int ((4 : Int32) + (4 : Int32)))])) _
    refine XS.pop X_q6.here hx rfl (hb hby at_127) rfl rfl ?_
    show Steps p.tables e below (T_q6.setTop (mkF m 128 #[.val (.int p1), .val (.int p2), .val (.int p3), .val (.int (p1 &&& (255 : Int32))), .val (.int (p2 &&& (255 : Int32))), .val (.int (1 : Int32)), .val (.int (1 : Int32)), .val (.int ((4 : Int32) + (4 : Int32))), .val (.ref b_q4), .val (.int ((0 : Int32) + (4 : Int32))), .unset] [])) _
    refine XS.aload X_q6.here hx rfl (hb hby at_128) rfl rfl ?_
    show Steps p.tables e below (T_q6.setTop (mkF m 130 #[.val (.int p1), .val (.int p2), .val (.int p3), .val (.int (p1 &&& (255 : Int32))), .val (.int (p2 &&& (255 : Int32))), .val (.int (1 : Int32)), .val (.int (1 : Int32)), .val (.int ((4 : Int32) + (4 : Int32))), .val (.ref b_q4), .val (.int ((0 : Int32) + (4 : Int32))), .unset] [(.ref b_q4)])) _
    refine st_q7 _ ?_
    show Steps p.tables e below (T_q7.setTop (mkF m 133 #[.val (.int p1), .val (.int p2), .val (.int p3), .val (.int (p1 &&& (255 : Int32))), .val (.int (p2 &&& (255 : Int32))), .val (.int (1 : Int32)), .val (.int (1 : Int32)), .val (.int ((4 : Int32) + (4 : Int32))), .val (.ref b_q4), .val (.int ((0 : Int32) + (4 : Int32))), .unset] [(.ref r_q7)])) _
    refine XS.astore X_q7.here hx rfl (hb hby at_133) rfl rfl (l' := #[.val (.int p1), .val (.int p2), .val (.int p3), .val (.int (p1 &&& (255 : Int32))), .val (.int (p2 &&& (255 : Int32))), .val (.int (1 : Int32)), .val (.int (1 : Int32)), .val (.int ((4 : Int32) + (4 : Int32))), .val (.ref b_q4), .val (.int ((0 : Int32) + (4 : Int32))), .val (.ref r_q7)]) rfl ?_
    show Steps p.tables e below (T_q7.setTop (mkF m 135 #[.val (.int p1), .val (.int p2), .val (.int p3), .val (.int (p1 &&& (255 : Int32))), .val (.int (p2 &&& (255 : Int32))), .val (.int (1 : Int32)), .val (.int (1 : Int32)), .val (.int ((4 : Int32) + (4 : Int32))), .val (.ref b_q4), .val (.int ((0 : Int32) + (4 : Int32))), .val (.ref r_q7)] [])) _
    refine XS.aload X_q7.here hx rfl (hb hby at_135) rfl rfl ?_
    show Steps p.tables e below (T_q7.setTop (mkF m 137 #[.val (.int p1), .val (.int p2), .val (.int p3), .val (.int (p1 &&& (255 : Int32))), .val (.int (p2 &&& (255 : Int32))), .val (.int (1 : Int32)), .val (.int (1 : Int32)), .val (.int ((4 : Int32) + (4 : Int32))), .val (.ref b_q4), .val (.int ((0 : Int32) + (4 : Int32))), .val (.ref r_q7)] [(.ref r_q7)])) _
    refine X_q7.arraylength hx (by exact Ar_q8.1) (State.isArrayOf_alike hZ.alike Ar_q8.2.1) (g := (mkF m 137 #[.val (.int p1), .val (.int p2), .val (.int p3), .val (.int (p1 &&& (255 : Int32))), .val (.int (p2 &&& (255 : Int32))), .val (.int (1 : Int32)), .val (.int (1 : Int32)), .val (.int ((4 : Int32) + (4 : Int32))), .val (.ref b_q4), .val (.int ((0 : Int32) + (4 : Int32))), .val (.ref r_q7)] [(.ref r_q7)])) rfl rfl (hb hby at_137) _ ?_
    rw [len_of S_q8 Nn_q8]
    show Steps p.tables e below (T_q7.setTop (mkF m 138 #[.val (.int p1), .val (.int p2), .val (.int p3), .val (.int (p1 &&& (255 : Int32))), .val (.int (p2 &&& (255 : Int32))), .val (.int (1 : Int32)), .val (.int (1 : Int32)), .val (.int ((4 : Int32) + (4 : Int32))), .val (.ref b_q4), .val (.int ((0 : Int32) + (4 : Int32))), .val (.ref r_q7)] [(.int (2 : Int32))])) _
    refine XS.iconst X_q7.here hx rfl (hb hby at_138) ?_
    show Steps p.tables e below (T_q7.setTop (mkF m 139 #[.val (.int p1), .val (.int p2), .val (.int p3), .val (.int (p1 &&& (255 : Int32))), .val (.int (p2 &&& (255 : Int32))), .val (.int (1 : Int32)), .val (.int (1 : Int32)), .val (.int ((4 : Int32) + (4 : Int32))), .val (.ref b_q4), .val (.int ((0 : Int32) + (4 : Int32))), .val (.ref r_q7)] [(.int (2 : Int32)), (.int (2 : Int32))])) _
    refine XS.icmpNo X_q7.here hx rfl (hb hby at_139) rfl (teq (by decide : (2 : Int32) = (2 : Int32))).2 ?_
    show Steps p.tables e below (T_q7.setTop (mkF m 142 #[.val (.int p1), .val (.int p2), .val (.int p3), .val (.int (p1 &&& (255 : Int32))), .val (.int (p2 &&& (255 : Int32))), .val (.int (1 : Int32)), .val (.int (1 : Int32)), .val (.int ((4 : Int32) + (4 : Int32))), .val (.ref b_q4), .val (.int ((0 : Int32) + (4 : Int32))), .val (.ref r_q7)] [])) _
    refine XS.aload X_q7.here hx rfl (hb hby at_142) rfl rfl ?_
    show Steps p.tables e below (T_q7.setTop (mkF m 144 #[.val (.int p1), .val (.int p2), .val (.int p3), .val (.int (p1 &&& (255 : Int32))), .val (.int (p2 &&& (255 : Int32))), .val (.int (1 : Int32)), .val (.int (1 : Int32)), .val (.int ((4 : Int32) + (4 : Int32))), .val (.ref b_q4), .val (.int ((0 : Int32) + (4 : Int32))), .val (.ref r_q7)] [(.ref r_q7)])) _
    refine XS.iconst X_q7.here hx rfl (hb hby at_144) ?_
    show Steps p.tables e below (T_q7.setTop (mkF m 145 #[.val (.int p1), .val (.int p2), .val (.int p3), .val (.int (p1 &&& (255 : Int32))), .val (.int (p2 &&& (255 : Int32))), .val (.int (1 : Int32)), .val (.int (1 : Int32)), .val (.int ((4 : Int32) + (4 : Int32))), .val (.ref b_q4), .val (.int ((0 : Int32) + (4 : Int32))), .val (.ref r_q7)] [(.int (0 : Int32)), (.ref r_q7)])) _
    refine X_q7.baloadBytes hx (j := (0 : Int32)) (v := (.int (nar .byte (nar .byte ((((F5_0 (nar .byte ((F2_0 (((p1 &&& (255 : Int32)).toUInt32 >>> ((4 : Int32) &&& 31).toUInt32).toInt32)).toInt8.toInt32))) <<< ((4 : Int32) &&& 31)) ||| (F5_0 (nar .byte ((F2_0 ((p1 &&& (255 : Int32)) &&& (15 : Int32))).toInt8.toInt32)))).toInt8.toInt32))))) (by exact Ar_q9.1) (State.isArrayOf_alike hZ.alike Ar_q9.2.1) Ar_q9.2.2 hin_q9 hat_q9 (g := (mkF m 145 #[.val (.int p1), .val (.int p2), .val (.int p3), .val (.int (p1 &&& (255 : Int32))), .val (.int (p2 &&& (255 : Int32))), .val (.int (1 : Int32)), .val (.int (1 : Int32)), .val (.int ((4 : Int32) + (4 : Int32))), .val (.ref b_q4), .val (.int ((0 : Int32) + (4 : Int32))), .val (.ref r_q7)] [(.int (0 : Int32)), (.ref r_q7)])) rfl rfl (hb hby at_145) _ ?_
    show Steps p.tables e below (T_q7.setTop (mkF m 146 #[.val (.int p1), .val (.int p2), .val (.int p3), .val (.int (p1 &&& (255 : Int32))), .val (.int (p2 &&& (255 : Int32))), .val (.int (1 : Int32)), .val (.int (1 : Int32)), .val (.int ((4 : Int32) + (4 : Int32))), .val (.ref b_q4), .val (.int ((0 : Int32) + (4 : Int32))), .val (.ref r_q7)] [(.int (nar .byte (nar .byte ((((F5_0 (nar .byte ((F2_0 (((p1 &&& (255 : Int32)).toUInt32 >>> ((4 : Int32) &&& 31).toUInt32).toInt32)).toInt8.toInt32))) <<< ((4 : Int32) &&& 31)) ||| (F5_0 (nar .byte ((F2_0 ((p1 &&& (255 : Int32)) &&& (15 : Int32))).toInt8.toInt32)))).toInt8.toInt32))))])) _
    refine XS.iloadN X_q7.here hx rfl (hb hby at_146) rfl ?_
    show Steps p.tables e below (T_q7.setTop (mkF m 147 #[.val (.int p1), .val (.int p2), .val (.int p3), .val (.int (p1 &&& (255 : Int32))), .val (.int (p2 &&& (255 : Int32))), .val (.int (1 : Int32)), .val (.int (1 : Int32)), .val (.int ((4 : Int32) + (4 : Int32))), .val (.ref b_q4), .val (.int ((0 : Int32) + (4 : Int32))), .val (.ref r_q7)] [(.int (p1 &&& (255 : Int32))), (.int (nar .byte (nar .byte ((((F5_0 (nar .byte ((F2_0 (((p1 &&& (255 : Int32)).toUInt32 >>> ((4 : Int32) &&& 31).toUInt32).toInt32)).toInt8.toInt32))) <<< ((4 : Int32) &&& 31)) ||| (F5_0 (nar .byte ((F2_0 ((p1 &&& (255 : Int32)) &&& (15 : Int32))).toInt8.toInt32)))).toInt8.toInt32))))])) _
    refine XS.i2b X_q7.here hx rfl (hb hby at_147) rfl ?_
    show Steps p.tables e below (T_q7.setTop (mkF m 148 #[.val (.int p1), .val (.int p2), .val (.int p3), .val (.int (p1 &&& (255 : Int32))), .val (.int (p2 &&& (255 : Int32))), .val (.int (1 : Int32)), .val (.int (1 : Int32)), .val (.int ((4 : Int32) + (4 : Int32))), .val (.ref b_q4), .val (.int ((0 : Int32) + (4 : Int32))), .val (.ref r_q7)] [(.int ((p1 &&& (255 : Int32)).toInt8.toInt32)), (.int (nar .byte (nar .byte ((((F5_0 (nar .byte ((F2_0 (((p1 &&& (255 : Int32)).toUInt32 >>> ((4 : Int32) &&& 31).toUInt32).toInt32)).toInt8.toInt32))) <<< ((4 : Int32) &&& 31)) ||| (F5_0 (nar .byte ((F2_0 ((p1 &&& (255 : Int32)) &&& (15 : Int32))).toInt8.toInt32)))).toInt8.toInt32))))])) _
    refine XS.icmpNo X_q7.here hx rfl (hb hby at_148) rfl (teq hc_q10).2 ?_
    show Steps p.tables e below (T_q7.setTop (mkF m 151 #[.val (.int p1), .val (.int p2), .val (.int p3), .val (.int (p1 &&& (255 : Int32))), .val (.int (p2 &&& (255 : Int32))), .val (.int (1 : Int32)), .val (.int (1 : Int32)), .val (.int ((4 : Int32) + (4 : Int32))), .val (.ref b_q4), .val (.int ((0 : Int32) + (4 : Int32))), .val (.ref r_q7)] [])) _
    refine XS.aload X_q7.here hx rfl (hb hby at_151) rfl rfl ?_
    show Steps p.tables e below (T_q7.setTop (mkF m 153 #[.val (.int p1), .val (.int p2), .val (.int p3), .val (.int (p1 &&& (255 : Int32))), .val (.int (p2 &&& (255 : Int32))), .val (.int (1 : Int32)), .val (.int (1 : Int32)), .val (.int ((4 : Int32) + (4 : Int32))), .val (.ref b_q4), .val (.int ((0 : Int32) + (4 : Int32))), .val (.ref r_q7)] [(.ref r_q7)])) _
    refine XS.iconst X_q7.here hx rfl (hb hby at_153) ?_
    show Steps p.tables e below (T_q7.setTop (mkF m 154 #[.val (.int p1), .val (.int p2), .val (.int p3), .val (.int (p1 &&& (255 : Int32))), .val (.int (p2 &&& (255 : Int32))), .val (.int (1 : Int32)), .val (.int (1 : Int32)), .val (.int ((4 : Int32) + (4 : Int32))), .val (.ref b_q4), .val (.int ((0 : Int32) + (4 : Int32))), .val (.ref r_q7)] [(.int (1 : Int32)), (.ref r_q7)])) _
    refine X_q7.baloadBytes hx (j := (1 : Int32)) (v := (.int (nar .byte (nar .byte ((((F5_0 (nar .byte ((F2_0 (((p2 &&& (255 : Int32)).toUInt32 >>> ((4 : Int32) &&& 31).toUInt32).toInt32)).toInt8.toInt32))) <<< ((4 : Int32) &&& 31)) ||| (F5_0 (nar .byte ((F2_0 ((p2 &&& (255 : Int32)) &&& (15 : Int32))).toInt8.toInt32)))).toInt8.toInt32))))) (by exact Ar_q11.1) (State.isArrayOf_alike hZ.alike Ar_q11.2.1) Ar_q11.2.2 hin_q11 hat_q11 (g := (mkF m 154 #[.val (.int p1), .val (.int p2), .val (.int p3), .val (.int (p1 &&& (255 : Int32))), .val (.int (p2 &&& (255 : Int32))), .val (.int (1 : Int32)), .val (.int (1 : Int32)), .val (.int ((4 : Int32) + (4 : Int32))), .val (.ref b_q4), .val (.int ((0 : Int32) + (4 : Int32))), .val (.ref r_q7)] [(.int (1 : Int32)), (.ref r_q7)])) rfl rfl (hb hby at_154) _ ?_
    show Steps p.tables e below (T_q7.setTop (mkF m 155 #[.val (.int p1), .val (.int p2), .val (.int p3), .val (.int (p1 &&& (255 : Int32))), .val (.int (p2 &&& (255 : Int32))), .val (.int (1 : Int32)), .val (.int (1 : Int32)), .val (.int ((4 : Int32) + (4 : Int32))), .val (.ref b_q4), .val (.int ((0 : Int32) + (4 : Int32))), .val (.ref r_q7)] [(.int (nar .byte (nar .byte ((((F5_0 (nar .byte ((F2_0 (((p2 &&& (255 : Int32)).toUInt32 >>> ((4 : Int32) &&& 31).toUInt32).toInt32)).toInt8.toInt32))) <<< ((4 : Int32) &&& 31)) ||| (F5_0 (nar .byte ((F2_0 ((p2 &&& (255 : Int32)) &&& (15 : Int32))).toInt8.toInt32)))).toInt8.toInt32))))])) _
    refine XS.iload X_q7.here hx rfl (hb hby at_155) rfl ?_
    show Steps p.tables e below (T_q7.setTop (mkF m 157 #[.val (.int p1), .val (.int p2), .val (.int p3), .val (.int (p1 &&& (255 : Int32))), .val (.int (p2 &&& (255 : Int32))), .val (.int (1 : Int32)), .val (.int (1 : Int32)), .val (.int ((4 : Int32) + (4 : Int32))), .val (.ref b_q4), .val (.int ((0 : Int32) + (4 : Int32))), .val (.ref r_q7)] [(.int (p2 &&& (255 : Int32))), (.int (nar .byte (nar .byte ((((F5_0 (nar .byte ((F2_0 (((p2 &&& (255 : Int32)).toUInt32 >>> ((4 : Int32) &&& 31).toUInt32).toInt32)).toInt8.toInt32))) <<< ((4 : Int32) &&& 31)) ||| (F5_0 (nar .byte ((F2_0 ((p2 &&& (255 : Int32)) &&& (15 : Int32))).toInt8.toInt32)))).toInt8.toInt32))))])) _
    refine XS.i2b X_q7.here hx rfl (hb hby at_157) rfl ?_
    show Steps p.tables e below (T_q7.setTop (mkF m 158 #[.val (.int p1), .val (.int p2), .val (.int p3), .val (.int (p1 &&& (255 : Int32))), .val (.int (p2 &&& (255 : Int32))), .val (.int (1 : Int32)), .val (.int (1 : Int32)), .val (.int ((4 : Int32) + (4 : Int32))), .val (.ref b_q4), .val (.int ((0 : Int32) + (4 : Int32))), .val (.ref r_q7)] [(.int ((p2 &&& (255 : Int32)).toInt8.toInt32)), (.int (nar .byte (nar .byte ((((F5_0 (nar .byte ((F2_0 (((p2 &&& (255 : Int32)).toUInt32 >>> ((4 : Int32) &&& 31).toUInt32).toInt32)).toInt8.toInt32))) <<< ((4 : Int32) &&& 31)) ||| (F5_0 (nar .byte ((F2_0 ((p2 &&& (255 : Int32)) &&& (15 : Int32))).toInt8.toInt32)))).toInt8.toInt32))))])) _
    refine XS.icmpNo X_q7.here hx rfl (hb hby at_158) rfl (teq hc_q12).2 ?_
    show Steps p.tables e below (T_q7.setTop (mkF m 161 #[.val (.int p1), .val (.int p2), .val (.int p3), .val (.int (p1 &&& (255 : Int32))), .val (.int (p2 &&& (255 : Int32))), .val (.int (1 : Int32)), .val (.int (1 : Int32)), .val (.int ((4 : Int32) + (4 : Int32))), .val (.ref b_q4), .val (.int ((0 : Int32) + (4 : Int32))), .val (.ref r_q7)] [])) _
    refine XS.iconst X_q7.here hx rfl (hb hby at_161) ?_
    show Steps p.tables e below (T_q7.setTop (mkF m 162 #[.val (.int p1), .val (.int p2), .val (.int p3), .val (.int (p1 &&& (255 : Int32))), .val (.int (p2 &&& (255 : Int32))), .val (.int (1 : Int32)), .val (.int (1 : Int32)), .val (.int ((4 : Int32) + (4 : Int32))), .val (.ref b_q4), .val (.int ((0 : Int32) + (4 : Int32))), .val (.ref r_q7)] [(.int (1 : Int32))])) _
    refine XS.goto X_q7.here hx rfl (pc0 := 162) (pc' := 166) rfl (hb hby at_162) (by decide) (by decide) ?_
    show Steps p.tables e below (T_q7.setTop (mkF m 166 #[.val (.int p1), .val (.int p2), .val (.int p3), .val (.int (p1 &&& (255 : Int32))), .val (.int (p2 &&& (255 : Int32))), .val (.int (1 : Int32)), .val (.int (1 : Int32)), .val (.int ((4 : Int32) + (4 : Int32))), .val (.ref b_q4), .val (.int ((0 : Int32) + (4 : Int32))), .val (.ref r_q7)] [(.int (1 : Int32))])) _
    exact retN X_q7 hx (t := .boolean) Bd.returns (by simp) (hb hby at_166) hr
  · show Q_law Z p1 p2 p3 h0 n0 _ T_q7.heap _
    exact ⟨rfl, N_q7⟩
set_option maxRecDepth 65536 in
set_option maxHeartbeats 40000000 in
theorem rm0_t_ft (l : Launch) (Z : State) (a0 : Array Value) (hw : ∀ d ∈ tables_1, d.before a0 Z = true) (ws : List Jvm.Cond) (p1 : Int32) (p2 : Int32) (p3 : Int32) (h0 : Heap) (n0 : Nat) (Z0 : n0 ≤ h0.size) (hc_q1 : ¬ ((p3 &&& (1 : Int32)) = (0 : Int32))) (hc_q2 : (p3 &&& (2 : Int32)) = (0 : Int32)) (hc_q3 : ¬ ((p2 &&& (255 : Int32)) = (92 : Int32))) (hd_he_q5_hc_q7 : ¬ ((F5_0 (nar .byte ((F2_0 (((p1 &&& (255 : Int32)).toUInt32 >>> ((4 : Int32) &&& 31).toUInt32).toInt32)).toInt8.toInt32))) < (0 : Int32))) (hd_he_q5_hc_q8 : ¬ ((F5_0 (nar .byte ((F2_0 ((p1 &&& (255 : Int32)) &&& (15 : Int32))).toInt8.toInt32))) < (0 : Int32))) (hd_hc_q9 : ¬ ((nar .byte ((p2 &&& (255 : Int32)).toInt8.toInt32)) = (92 : Int32))) (hc_q10 : (nar .byte (nar .byte ((((F5_0 (nar .byte ((F2_0 (((p1 &&& (255 : Int32)).toUInt32 >>> ((4 : Int32) &&& 31).toUInt32).toInt32)).toInt8.toInt32))) <<< ((4 : Int32) &&& 31)) ||| (F5_0 (nar .byte ((F2_0 ((p1 &&& (255 : Int32)) &&& (15 : Int32))).toInt8.toInt32)))).toInt8.toInt32))) = ((p1 &&& (255 : Int32)).toInt8.toInt32)) (hc_q12 : (nar .byte (nar .byte ((p2 &&& (255 : Int32)).toInt8.toInt32))) = ((p2 &&& (255 : Int32)).toInt8.toInt32)) :
    MetFree l x (head1 (Jvm.Cond.code x code maxLocals ret :: ws) room_1) (fun a U => a = #[(.int p1), (.int p2), (.int p3)] ∧ Z.Warmed39 U.vm ∧ U.heap = h0) (fun _ _ _ _ _ => True) (fun _ U o U' => ∃ v L, o = .returned v ∧ Q_law Z p1 p2 p3 h0 n0 v U'.heap L ∧ FrameEnd U o U' L room_1.cells room_1.slots) := by
  refine MetFree.of_bodySF (plainFor_of_name pn_0) hisR ?_
  intro p e s m args below meth c s₁ Bd hml0 hP hK
  obtain ⟨rfl, hZ, hh⟩ := hP
  have hx := Bd.exec
  have hby := Bd.bytes
  have hml : c.maxLocals = 11 := hml0
  have hown : s.vm.findClass "com/example/presplit/presplit/escape/BinaryEscapeDecodePinLaw" = some m.cls := findClass_of_methodNamed Bd.named
  have hnm := (name_of_methodNamed Bd.named Bd.method).1
  have X0 : Stand p l e room_1 s m #[(.int p1), (.int p2), (.int p3)] below meth c s₁ [] 0 0 := Stand.of_body Bd
  have e0 : s₁.heap = h0 := by rw [← hh, Bd.state]; rfl
  have N0 := Fr.nil n0
  have pre0 : ∀ t, Steps p.tables e below (s₁.setTop (mkF m 0 #[.val (.int p1), .val (.int p2), .val (.int p3), .unset, .unset, .unset, .unset, .unset, .unset, .unset, .unset] [])) t → Steps p.tables e below (s₁.setTop (entryFrame m #[(.int p1), (.int p2), (.int p3)] maxLocals)) t := fun t k => castTop (ef_0 m p1 p2 p3) k
  have K0 : Keep h0 h0 [] := Keep.refl _ _
  obtain ⟨T_q4, h_q4, k_q4, X_q4, e_q4, E_q4, A_q4, EX_q4, st_q4⟩ := newPE X0 hx hZ (hw _ (List.mem_of_getElem? (i := 0) rfl)) e0 (g := (mkF m 94 #[.val (.int p1), .val (.int p2), .val (.int p3), .val (.int (p1 &&& (255 : Int32))), .val (.int (p2 &&& (255 : Int32))), .val (.int (1 : Int32)), .val (.int (0 : Int32)), .val (.int ((4 : Int32) + (1 : Int32))), .unset, .unset, .unset] [(.int (5 : Int32))])) rfl (hb hby at_94) rfl (by decide) (cap := 5) (by decide) (by decide) (by decide) (by decide) (ad := "[B") (by decide)
  obtain ⟨b_q4, g_q4⟩ : ∃ z, z = h0.size := ⟨_, rfl⟩
  rw [← g_q4] at A_q4 EX_q4 st_q4
  have ge_b_q4 : n0 ≤ b_q4 := Nat.le_trans (Nat.le_trans Z0 K0.1) (Nat.le_of_eq g_q4.symm)
  have sz_b_q4 : h0.size ≤ b_q4 := Nat.le_trans K0.1 (Nat.le_of_eq g_q4.symm)
  have K_q4 : Keep h0 h_q4 [] := K0.ext E_q4
  have V_b_q4 : Arv Z h_q4 b_q4 k_q4 .byte (5 : Int32) [(.int (0 : Int32)), (.int (0 : Int32)), (.int (0 : Int32)), (.int (0 : Int32)), (.int (0 : Int32))] (.int (0 : Int32)) := (Arv.new A_q4 (by decide)).pad (pad_rep [] (.int (0 : Int32)) 5)
  obtain ⟨_, _, ⟨T_q5, L_q5, k_q5, n_q5⟩, -, X_q5, ⟨Lc_q5, hQ_q5, l_q5, y_q5, z_q5⟩, st_q5⟩ := Jvm.LawKit.callS X_q4 hx (y := (⟨"com/example/presplit/presplit/escape/BinaryEscapeDecodePinLaw", "put", "([BIIZ)I"⟩ : MethodName)) hown (mvT hZ (hw _ (List.mem_of_getElem? (i := 1) rfl))) (mvT hZ (hw _ (List.mem_of_getElem? (i := 2) rfl))) (mvT hZ (hw _ (List.mem_of_getElem? (i := 3) rfl))) (mvT hZ (hw _ (List.mem_of_getElem? (i := 4) rfl))) (by decide) (backOf (W := 0) (rm1_5_0_1 l Z a0 hw [] b_q4 k_q4 (.int (0 : Int32)) (.int (0 : Int32)) (.int (0 : Int32)) (.int (0 : Int32)) (.int (0 : Int32)) (p1 &&& (255 : Int32)) h_q4 n0 (Nat.le_trans Z0 K_q4.1) V_b_q4 ge_b_q4) hZ (hw _ (List.mem_of_getElem? (i := 4) rfl)) (hw _ (List.mem_of_getElem? (i := 3) rfl)) (by decide) (by decide)) (g := (mkF m 111 #[.val (.int p1), .val (.int p2), .val (.int p3), .val (.int (p1 &&& (255 : Int32))), .val (.int (p2 &&& (255 : Int32))), .val (.int (1 : Int32)), .val (.int (0 : Int32)), .val (.int ((4 : Int32) + (1 : Int32))), .val (.ref b_q4), .unset, .unset] [(.int (1 : Int32)), (.int (p1 &&& (255 : Int32))), (.int (0 : Int32)), (.ref b_q4)])) rfl (by rw [hml]; rfl) (argsL := [(.ref b_q4), (.int (0 : Int32)), (.int (p1 &&& (255 : Int32))), (.int (1 : Int32))]) (rest := []) (lenOf pd___BIIZ_I rfl) rfl (by show 2 * 0 + _ ≤ _; exact Nat.le_of_eq rfl) (hb hby at_111) (fun _ _ => ⟨rfl, e_q4, (by decide : 1 + 0 ≤ _), (by decide : 5 + 0 ≤ _)⟩)
  dsimp only [Pt.U, Pt.locs, Pt.cells, Pt.slots] at X_q5 l_q5 y_q5 z_q5 st_q5 hQ_q5
  subst l_q5 y_q5 z_q5
  obtain ⟨rfl, Nq_q5, Kq_q5, Vq_q5⟩ := hQ_q5
  have N_q5 := Fr.app N0 Nq_q5
  have EX_q4__q5 := EX_q4.keep Kq_q5
  have K_q5 : Keep h0 T_q5.heap [] := K_q4.trans Kq_q5 (fun x hx => Or.inr (by cases List.mem_singleton.mp hx; exact sz_b_q4))
  obtain ⟨_, _, ⟨T_q6, L_q6, k_q6, n_q6⟩, -, X_q6, ⟨Lc_q6, hQ_q6, l_q6, y_q6, z_q6⟩, st_q6⟩ := Jvm.LawKit.callS X_q5 hx (y := (⟨"com/example/presplit/presplit/escape/BinaryEscapeDecodePinLaw", "put", "([BIIZ)I"⟩ : MethodName)) hown (mvT hZ (hw _ (List.mem_of_getElem? (i := 1) rfl))) (mvT hZ (hw _ (List.mem_of_getElem? (i := 2) rfl))) (mvT hZ (hw _ (List.mem_of_getElem? (i := 3) rfl))) (mvT hZ (hw _ (List.mem_of_getElem? (i := 4) rfl))) (by decide) (backOf (W := 0) (rm1_5_4_0 l Z a0 hw [] b_q4 k_q4 (.int (nar .byte (92 : Int32))) (.int (nar .byte (120 : Int32))) (.int (nar .byte ((F2_0 (((p1 &&& (255 : Int32)).toUInt32 >>> ((4 : Int32) &&& 31).toUInt32).toInt32)).toInt8.toInt32))) (.int (nar .byte ((F2_0 ((p1 &&& (255 : Int32)) &&& (15 : Int32))).toInt8.toInt32))) (.int (0 : Int32)) (p2 &&& (255 : Int32)) T_q5.heap n0 (Nat.le_trans Z0 K_q5.1) Vq_q5 ge_b_q4) hZ (hw _ (List.mem_of_getElem? (i := 4) rfl)) (hw _ (List.mem_of_getElem? (i := 3) rfl)) (by decide) (by decide)) (g := (mkF m 124 #[.val (.int p1), .val (.int p2), .val (.int p3), .val (.int (p1 &&& (255 : Int32))), .val (.int (p2 &&& (255 : Int32))), .val (.int (1 : Int32)), .val (.int (0 : Int32)), .val (.int ((4 : Int32) + (1 : Int32))), .val (.ref b_q4), .val (.int ((0 : Int32) + (4 : Int32))), .unset] [(.int (0 : Int32)), (.int (p2 &&& (255 : Int32))), (.int ((0 : Int32) + (4 : Int32))), (.ref b_q4)])) rfl (by rw [hml]; rfl) (argsL := [(.ref b_q4), (.int ((0 : Int32) + (4 : Int32))), (.int (p2 &&& (255 : Int32))), (.int (0 : Int32))]) (rest := []) (lenOf pd___BIIZ_I rfl) rfl (by show 2 * 0 + _ ≤ _; exact Nat.le_of_eq rfl) (hb hby at_124) (fun _ _ => ⟨rfl, rfl, (by decide : 1 + 0 ≤ _), (by decide : 5 + 0 ≤ _)⟩)
  dsimp only [Pt.U, Pt.locs, Pt.cells, Pt.slots] at X_q6 l_q6 y_q6 z_q6 st_q6 hQ_q6
  subst l_q6 y_q6 z_q6
  obtain ⟨rfl, Nq_q6, Kq_q6, Vq_q6⟩ := hQ_q6
  have N_q6 := Fr.app N_q5 Nq_q6
  have EX_q4__q6 := EX_q4__q5.keep Kq_q6
  have K_q6 : Keep h0 T_q6.heap [] := K_q5.trans Kq_q6 (fun x hx => Or.inr (by cases List.mem_singleton.mp hx; exact sz_b_q4))
  have VD_q7 : Arv Z T_q6.heap b_q4 k_q4 .byte (5 : Int32) [(.int (92 : Int32)), (.int (120 : Int32)), (.int (nar .byte ((F2_0 (((p1 &&& (255 : Int32)).toUInt32 >>> ((4 : Int32) &&& 31).toUInt32).toInt32)).toInt8.toInt32))), (.int (nar .byte ((F2_0 ((p1 &&& (255 : Int32)) &&& (15 : Int32))).toInt8.toInt32))), (.int (nar .byte ((p2 &&& (255 : Int32)).toInt8.toInt32)))] (.int (0 : Int32)) := Vq_q6
  obtain ⟨_, _, ⟨T_q7, L_q7, k_q7, n_q7⟩, -, X_q7, ⟨Lc_q7, hQ_q7, l_q7, y_q7, z_q7⟩, st_q7⟩ := Jvm.LawKit.callS X_q6 hx (y := (⟨"com/example/presplit/presplit/escape/BinaryEscape", "decode", "([B)[B"⟩ : MethodName)) hown (mvT hZ (hw _ (List.mem_of_getElem? (i := 8) rfl))) (mvT hZ (hw _ (List.mem_of_getElem? (i := 9) rfl))) (mvT hZ (hw _ (List.mem_of_getElem? (i := 10) rfl))) (mvT hZ (hw _ (List.mem_of_getElem? (i := 11) rfl))) (by decide) (backOf (W := 0) (rm3_10 l Z a0 hw [] b_q4 k_q4 (nar .byte ((F2_0 (((p1 &&& (255 : Int32)).toUInt32 >>> ((4 : Int32) &&& 31).toUInt32).toInt32)).toInt8.toInt32)) (nar .byte ((F2_0 ((p1 &&& (255 : Int32)) &&& (15 : Int32))).toInt8.toInt32)) (nar .byte ((p2 &&& (255 : Int32)).toInt8.toInt32)) T_q6.heap n0 (Nat.le_trans Z0 K_q6.1) VD_q7 hd_he_q5_hc_q7 hd_he_q5_hc_q8 hd_hc_q9) hZ (hw _ (List.mem_of_getElem? (i := 11) rfl)) (hw _ (List.mem_of_getElem? (i := 10) rfl)) (by decide) (by decide)) (g := (mkF m 130 #[.val (.int p1), .val (.int p2), .val (.int p3), .val (.int (p1 &&& (255 : Int32))), .val (.int (p2 &&& (255 : Int32))), .val (.int (1 : Int32)), .val (.int (0 : Int32)), .val (.int ((4 : Int32) + (1 : Int32))), .val (.ref b_q4), .val (.int ((0 : Int32) + (4 : Int32))), .unset] [(.ref b_q4)])) rfl (by rw [hml]; rfl) (argsL := [(.ref b_q4)]) (rest := []) (lenOf pd___B__B rfl) rfl (by show 2 * 0 + _ ≤ _; exact Nat.le_of_eq rfl) (hb hby at_130) (fun _ _ => ⟨rfl, rfl, (by decide : 1 + 2 ≤ _), (by decide : 5 + 7 ≤ _)⟩)
  dsimp only [Pt.U, Pt.locs, Pt.cells, Pt.slots] at X_q7 l_q7 y_q7 z_q7 st_q7 hQ_q7
  subst l_q7 y_q7 z_q7
  obtain ⟨r_q7, kr_q7, rfl, Nq_q7, Kq_q7, Vr_q7⟩ := hQ_q7
  have N_q7 := Fr.app N_q6 Nq_q7
  have EX_q4__q7 := EX_q4__q6.keep Kq_q7
  have Vq_q6__q7 := Vq_q6.keep Kq_q7 List.not_mem_nil
  have K_q7 : Keep h0 T_q7.heap [] := K_q6.trans Kq_q7 (fun x hx => nomatch hx)
  obtain ⟨cl_q8, Ar_q8, qk_q8, S_q8, Nn_q8, H_q8, G_q8⟩ := id Vr_q7
  obtain ⟨cl_q9, Ar_q9, qk_q9, S_q9, Nn_q9, H_q9, G_q9⟩ := id Vr_q7
  have hin_q9 : ¬ ((0 : Int32) < 0 ∨ cl_q9.slots.size ≤ ((0 : Int32)).toNatClampNeg) := inb_of S_q9 ⟨by decide, by decide⟩
  have hat_q9 : cl_q9.slots[((0 : Int32)).toNatClampNeg]? = some (.int (nar .byte (nar .byte ((((F5_0 (nar .byte ((F2_0 (((p1 &&& (255 : Int32)).toUInt32 >>> ((4 : Int32) &&& 31).toUInt32).toInt32)).toInt8.toInt32))) <<< ((4 : Int32) &&& 31)) ||| (F5_0 (nar .byte ((F2_0 ((p1 &&& (255 : Int32)) &&& (15 : Int32))).toInt8.toInt32)))).toInt8.toInt32)))) := H_q9 0 (Nat.lt_of_not_le fun q => hin_q9 (Or.inr q))
  obtain ⟨cl_q11, Ar_q11, qk_q11, S_q11, Nn_q11, H_q11, G_q11⟩ := id Vr_q7
  have hin_q11 : ¬ ((1 : Int32) < 0 ∨ cl_q11.slots.size ≤ ((1 : Int32)).toNatClampNeg) := inb_of S_q11 ⟨by decide, by decide⟩
  have hat_q11 : cl_q11.slots[((1 : Int32)).toNatClampNeg]? = some (.int (nar .byte (nar .byte ((p2 &&& (255 : Int32)).toInt8.toInt32)))) := H_q11 1 (Nat.lt_of_not_le fun q => hin_q11 (Or.inr q))
  obtain ⟨fs, hr, hrun, hended, hW, hsame⟩ := X_q7.leave (v := some (.int (1 : Int32))) (fun h => by rw [Bd.returns] at h; cases h) Bd.notSynchronized
  refine ⟨_, _, pre0 _ ?_, hrun, hended, _, _, rfl, ?_, ⟨_, rfl⟩, hW, hsame.mono (by decide) (by decide)⟩
  · show Steps p.tables e below (s₁.setTop (mkF m 0 #[.val (.int p1), .val (.int p2), .val (.int p3), .unset, .unset, .unset, .unset, .unset, .unset, .unset, .unset] [])) _
    refine XS.iloadN X0.here hx rfl (hb hby at_0) rfl ?_
    show Steps p.tables e below (s₁.setTop (mkF m 1 #[.val (.int p1), .val (.int p2), .val (.int p3), .unset, .unset, .unset, .unset, .unset, .unset, .unset, .unset] [(.int p1)])) _
    refine XS.sipush X0.here hx rfl (hb hby at_1) ?_
    show Steps p.tables e below (s₁.setTop (mkF m 4 #[.val (.int p1), .val (.int p2), .val (.int p3), .unset, .unset, .unset, .unset, .unset, .unset, .unset, .unset] [(.int (255 : Int32)), (.int p1)])) _
    refine XS.iand X0.here hx rfl (hb hby at_4) rfl ?_
    show Steps p.tables e below (s₁.setTop (mkF m 5 #[.val (.int p1), .val (.int p2), .val (.int p3), .unset, .unset, .unset, .unset, .unset, .unset, .unset, .unset] [(.int (p1 &&& (255 : Int32)))])) _
    refine XS.istoreN X0.here hx rfl (hb hby at_5) rfl (l' := #[.val (.int p1), .val (.int p2), .val (.int p3), .val (.int (p1 &&& (255 : Int32))), .unset, .unset, .unset, .unset, .unset, .unset, .unset]) rfl ?_
    show Steps p.tables e below (s₁.setTop (mkF m 6 #[.val (.int p1), .val (.int p2), .val (.int p3), .val (.int (p1 &&& (255 : Int32))), .unset, .unset, .unset, .unset, .unset, .unset, .unset] [])) _
    refine XS.iloadN X0.here hx rfl (hb hby at_6) rfl ?_
    show Steps p.tables e below (s₁.setTop (mkF m 7 #[.val (.int p1), .val (.int p2), .val (.int p3), .val (.int (p1 &&& (255 : Int32))), .unset, .unset, .unset, .unset, .unset, .unset, .unset] [(.int p2)])) _
    refine XS.sipush X0.here hx rfl (hb hby at_7) ?_
    show Steps p.tables e below (s₁.setTop (mkF m 10 #[.val (.int p1), .val (.int p2), .val (.int p3), .val (.int (p1 &&& (255 : Int32))), .unset, .unset, .unset, .unset, .unset, .unset, .unset] [(.int (255 : Int32)), (.int p2)])) _
    refine XS.iand X0.here hx rfl (hb hby at_10) rfl ?_
    show Steps p.tables e below (s₁.setTop (mkF m 11 #[.val (.int p1), .val (.int p2), .val (.int p3), .val (.int (p1 &&& (255 : Int32))), .unset, .unset, .unset, .unset, .unset, .unset, .unset] [(.int (p2 &&& (255 : Int32)))])) _
    refine XS.istore X0.here hx rfl (hb hby at_11) rfl (l' := #[.val (.int p1), .val (.int p2), .val (.int p3), .val (.int (p1 &&& (255 : Int32))), .val (.int (p2 &&& (255 : Int32))), .unset, .unset, .unset, .unset, .unset, .unset]) rfl ?_
    show Steps p.tables e below (s₁.setTop (mkF m 13 #[.val (.int p1), .val (.int p2), .val (.int p3), .val (.int (p1 &&& (255 : Int32))), .val (.int (p2 &&& (255 : Int32))), .unset, .unset, .unset, .unset, .unset, .unset] [])) _
    refine XS.iloadN X0.here hx rfl (hb hby at_13) rfl ?_
    show Steps p.tables e below (s₁.setTop (mkF m 14 #[.val (.int p1), .val (.int p2), .val (.int p3), .val (.int (p1 &&& (255 : Int32))), .val (.int (p2 &&& (255 : Int32))), .unset, .unset, .unset, .unset, .unset, .unset] [(.int p3)])) _
    refine XS.iconst X0.here hx rfl (hb hby at_14) ?_
    show Steps p.tables e below (s₁.setTop (mkF m 15 #[.val (.int p1), .val (.int p2), .val (.int p3), .val (.int (p1 &&& (255 : Int32))), .val (.int (p2 &&& (255 : Int32))), .unset, .unset, .unset, .unset, .unset, .unset] [(.int (1 : Int32)), (.int p3)])) _
    refine XS.iand X0.here hx rfl (hb hby at_15) rfl ?_
    show Steps p.tables e below (s₁.setTop (mkF m 16 #[.val (.int p1), .val (.int p2), .val (.int p3), .val (.int (p1 &&& (255 : Int32))), .val (.int (p2 &&& (255 : Int32))), .unset, .unset, .unset, .unset, .unset, .unset] [(.int (p3 &&& (1 : Int32)))])) _
    refine XS.ifYes X0.here hx rfl (pc0 := 16) (pc' := 25) rfl (hb hby at_16) rfl ((if0 _ _).trans (feq hc_q1).2) (by decide) (by decide) ?_
    show Steps p.tables e below (s₁.setTop (mkF m 25 #[.val (.int p1), .val (.int p2), .val (.int p3), .val (.int (p1 &&& (255 : Int32))), .val (.int (p2 &&& (255 : Int32))), .unset, .unset, .unset, .unset, .unset, .unset] [])) _
    refine XS.iconst X0.here hx rfl (hb hby at_25) ?_
    show Steps p.tables e below (s₁.setTop (mkF m 26 #[.val (.int p1), .val (.int p2), .val (.int p3), .val (.int (p1 &&& (255 : Int32))), .val (.int (p2 &&& (255 : Int32))), .unset, .unset, .unset, .unset, .unset, .unset] [(.int (1 : Int32))])) _
    refine XS.goto X0.here hx rfl (pc0 := 26) (pc' := 30) rfl (hb hby at_26) (by decide) (by decide) ?_
    show Steps p.tables e below (s₁.setTop (mkF m 30 #[.val (.int p1), .val (.int p2), .val (.int p3), .val (.int (p1 &&& (255 : Int32))), .val (.int (p2 &&& (255 : Int32))), .unset, .unset, .unset, .unset, .unset, .unset] [(.int (1 : Int32))])) _
    refine XS.istore X0.here hx rfl (hb hby at_30) rfl (l' := #[.val (.int p1), .val (.int p2), .val (.int p3), .val (.int (p1 &&& (255 : Int32))), .val (.int (p2 &&& (255 : Int32))), .val (.int (1 : Int32)), .unset, .unset, .unset, .unset, .unset]) rfl ?_
    show Steps p.tables e below (s₁.setTop (mkF m 32 #[.val (.int p1), .val (.int p2), .val (.int p3), .val (.int (p1 &&& (255 : Int32))), .val (.int (p2 &&& (255 : Int32))), .val (.int (1 : Int32)), .unset, .unset, .unset, .unset, .unset] [])) _
    refine XS.iloadN X0.here hx rfl (hb hby at_32) rfl ?_
    show Steps p.tables e below (s₁.setTop (mkF m 33 #[.val (.int p1), .val (.int p2), .val (.int p3), .val (.int (p1 &&& (255 : Int32))), .val (.int (p2 &&& (255 : Int32))), .val (.int (1 : Int32)), .unset, .unset, .unset, .unset, .unset] [(.int p3)])) _
    refine XS.iconst X0.here hx rfl (hb hby at_33) ?_
    show Steps p.tables e below (s₁.setTop (mkF m 34 #[.val (.int p1), .val (.int p2), .val (.int p3), .val (.int (p1 &&& (255 : Int32))), .val (.int (p2 &&& (255 : Int32))), .val (.int (1 : Int32)), .unset, .unset, .unset, .unset, .unset] [(.int (2 : Int32)), (.int p3)])) _
    refine XS.iand X0.here hx rfl (hb hby at_34) rfl ?_
    show Steps p.tables e below (s₁.setTop (mkF m 35 #[.val (.int p1), .val (.int p2), .val (.int p3), .val (.int (p1 &&& (255 : Int32))), .val (.int (p2 &&& (255 : Int32))), .val (.int (1 : Int32)), .unset, .unset, .unset, .unset, .unset] [(.int (p3 &&& (2 : Int32)))])) _
    refine XS.ifNo X0.here hx rfl (hb hby at_35) rfl ((if0 _ _).trans (teq hc_q2).2) ?_
    show Steps p.tables e below (s₁.setTop (mkF m 38 #[.val (.int p1), .val (.int p2), .val (.int p3), .val (.int (p1 &&& (255 : Int32))), .val (.int (p2 &&& (255 : Int32))), .val (.int (1 : Int32)), .unset, .unset, .unset, .unset, .unset] [])) _
    refine XS.iload X0.here hx rfl (hb hby at_38) rfl ?_
    show Steps p.tables e below (s₁.setTop (mkF m 40 #[.val (.int p1), .val (.int p2), .val (.int p3), .val (.int (p1 &&& (255 : Int32))), .val (.int (p2 &&& (255 : Int32))), .val (.int (1 : Int32)), .unset, .unset, .unset, .unset, .unset] [(.int (p2 &&& (255 : Int32)))])) _
    refine XS.bipush X0.here hx rfl (hb hby at_40) ?_
    show Steps p.tables e below (s₁.setTop (mkF m 42 #[.val (.int p1), .val (.int p2), .val (.int p3), .val (.int (p1 &&& (255 : Int32))), .val (.int (p2 &&& (255 : Int32))), .val (.int (1 : Int32)), .unset, .unset, .unset, .unset, .unset] [(.int (92 : Int32)), (.int (p2 &&& (255 : Int32)))])) _
    refine XS.icmpYes X0.here hx rfl (pc0 := 42) (pc' := 49) rfl (hb hby at_42) rfl (feq hc_q3).2 (by decide) (by decide) ?_
    show Steps p.tables e below (s₁.setTop (mkF m 49 #[.val (.int p1), .val (.int p2), .val (.int p3), .val (.int (p1 &&& (255 : Int32))), .val (.int (p2 &&& (255 : Int32))), .val (.int (1 : Int32)), .unset, .unset, .unset, .unset, .unset] [])) _
    refine XS.iconst X0.here hx rfl (hb hby at_49) ?_
    show Steps p.tables e below (s₁.setTop (mkF m 50 #[.val (.int p1), .val (.int p2), .val (.int p3), .val (.int (p1 &&& (255 : Int32))), .val (.int (p2 &&& (255 : Int32))), .val (.int (1 : Int32)), .unset, .unset, .unset, .unset, .unset] [(.int (0 : Int32))])) _
    refine XS.istore X0.here hx rfl (hb hby at_50) rfl (l' := #[.val (.int p1), .val (.int p2), .val (.int p3), .val (.int (p1 &&& (255 : Int32))), .val (.int (p2 &&& (255 : Int32))), .val (.int (1 : Int32)), .val (.int (0 : Int32)), .unset, .unset, .unset, .unset]) rfl ?_
    show Steps p.tables e below (s₁.setTop (mkF m 52 #[.val (.int p1), .val (.int p2), .val (.int p3), .val (.int (p1 &&& (255 : Int32))), .val (.int (p2 &&& (255 : Int32))), .val (.int (1 : Int32)), .val (.int (0 : Int32)), .unset, .unset, .unset, .unset] [])) _
    refine XS.iload X0.here hx rfl (hb hby at_52) rfl ?_
    show Steps p.tables e below (s₁.setTop (mkF m 54 #[.val (.int p1), .val (.int p2), .val (.int p3), .val (.int (p1 &&& (255 : Int32))), .val (.int (p2 &&& (255 : Int32))), .val (.int (1 : Int32)), .val (.int (0 : Int32)), .unset, .unset, .unset, .unset] [(.int (1 : Int32))])) _
    refine XS.ifNo X0.here hx rfl (hb hby at_54) rfl ((if0 _ _).trans (feq (by decide : ¬ ((1 : Int32) = (0 : Int32)))).1) ?_
    show Steps p.tables e below (s₁.setTop (mkF m 57 #[.val (.int p1), .val (.int p2), .val (.int p3), .val (.int (p1 &&& (255 : Int32))), .val (.int (p2 &&& (255 : Int32))), .val (.int (1 : Int32)), .val (.int (0 : Int32)), .unset, .unset, .unset, .unset] [])) _
    refine XS.iconst X0.here hx rfl (hb hby at_57) ?_
    show Steps p.tables e below (s₁.setTop (mkF m 58 #[.val (.int p1), .val (.int p2), .val (.int p3), .val (.int (p1 &&& (255 : Int32))), .val (.int (p2 &&& (255 : Int32))), .val (.int (1 : Int32)), .val (.int (0 : Int32)), .unset, .unset, .unset, .unset] [(.int (4 : Int32))])) _
    refine XS.goto X0.here hx rfl (pc0 := 58) (pc' := 62) rfl (hb hby at_58) (by decide) (by decide) ?_
    show Steps p.tables e below (s₁.setTop (mkF m 62 #[.val (.int p1), .val (.int p2), .val (.int p3), .val (.int (p1 &&& (255 : Int32))), .val (.int (p2 &&& (255 : Int32))), .val (.int (1 : Int32)), .val (.int (0 : Int32)), .unset, .unset, .unset, .unset] [(.int (4 : Int32))])) _
    refine XS.iload X0.here hx rfl (hb hby at_62) rfl ?_
    show Steps p.tables e below (s₁.setTop (mkF m 64 #[.val (.int p1), .val (.int p2), .val (.int p3), .val (.int (p1 &&& (255 : Int32))), .val (.int (p2 &&& (255 : Int32))), .val (.int (1 : Int32)), .val (.int (0 : Int32)), .unset, .unset, .unset, .unset] [(.int (0 : Int32)), (.int (4 : Int32))])) _
    refine XS.ifYes X0.here hx rfl (pc0 := 64) (pc' := 71) rfl (hb hby at_64) rfl ((if0 _ _).trans (teq (by decide : (0 : Int32) = (0 : Int32))).1) (by decide) (by decide) ?_
    show Steps p.tables e below (s₁.setTop (mkF m 71 #[.val (.int p1), .val (.int p2), .val (.int p3), .val (.int (p1 &&& (255 : Int32))), .val (.int (p2 &&& (255 : Int32))), .val (.int (1 : Int32)), .val (.int (0 : Int32)), .unset, .unset, .unset, .unset] [(.int (4 : Int32))])) _
    refine XS.iconst X0.here hx rfl (hb hby at_71) ?_
    show Steps p.tables e below (s₁.setTop (mkF m 72 #[.val (.int p1), .val (.int p2), .val (.int p3), .val (.int (p1 &&& (255 : Int32))), .val (.int (p2 &&& (255 : Int32))), .val (.int (1 : Int32)), .val (.int (0 : Int32)), .unset, .unset, .unset, .unset] [(.int (1 : Int32)), (.int (4 : Int32))])) _
    refine XS.iadd X0.here hx rfl (hb hby at_72) rfl ?_
    show Steps p.tables e below (s₁.setTop (mkF m 73 #[.val (.int p1), .val (.int p2), .val (.int p3), .val (.int (p1 &&& (255 : Int32))), .val (.int (p2 &&& (255 : Int32))), .val (.int (1 : Int32)), .val (.int (0 : Int32)), .unset, .unset, .unset, .unset] [(.int ((4 : Int32) + (1 : Int32)))])) _
    refine XS.istore X0.here hx rfl (hb hby at_73) rfl (l' := #[.val (.int p1), .val (.int p2), .val (.int p3), .val (.int (p1 &&& (255 : Int32))), .val (.int (p2 &&& (255 : Int32))), .val (.int (1 : Int32)), .val (.int (0 : Int32)), .val (.int ((4 : Int32) + (1 : Int32))), .unset, .unset, .unset]) rfl ?_
    show Steps p.tables e below (s₁.setTop (mkF m 75 #[.val (.int p1), .val (.int p2), .val (.int p3), .val (.int (p1 &&& (255 : Int32))), .val (.int (p2 &&& (255 : Int32))), .val (.int (1 : Int32)), .val (.int (0 : Int32)), .val (.int ((4 : Int32) + (1 : Int32))), .unset, .unset, .unset] [])) _
    refine XS.iload X0.here hx rfl (hb hby at_75) rfl ?_
    show Steps p.tables e below (s₁.setTop (mkF m 77 #[.val (.int p1), .val (.int p2), .val (.int p3), .val (.int (p1 &&& (255 : Int32))), .val (.int (p2 &&& (255 : Int32))), .val (.int (1 : Int32)), .val (.int (0 : Int32)), .val (.int ((4 : Int32) + (1 : Int32))), .unset, .unset, .unset] [(.int ((4 : Int32) + (1 : Int32)))])) _
    refine XS.iconst X0.here hx rfl (hb hby at_77) ?_
    show Steps p.tables e below (s₁.setTop (mkF m 78 #[.val (.int p1), .val (.int p2), .val (.int p3), .val (.int (p1 &&& (255 : Int32))), .val (.int (p2 &&& (255 : Int32))), .val (.int (1 : Int32)), .val (.int (0 : Int32)), .val (.int ((4 : Int32) + (1 : Int32))), .unset, .unset, .unset] [(.int (2 : Int32)), (.int ((4 : Int32) + (1 : Int32)))])) _
    refine XS.icmpYes X0.here hx rfl (pc0 := 78) (pc' := 87) rfl (hb hby at_78) rfl (feq (by decide : ¬ (((4 : Int32) + (1 : Int32)) = (2 : Int32)))).2 (by decide) (by decide) ?_
    show Steps p.tables e below (s₁.setTop (mkF m 87 #[.val (.int p1), .val (.int p2), .val (.int p3), .val (.int (p1 &&& (255 : Int32))), .val (.int (p2 &&& (255 : Int32))), .val (.int (1 : Int32)), .val (.int (0 : Int32)), .val (.int ((4 : Int32) + (1 : Int32))), .unset, .unset, .unset] [])) _
    refine XS.iload X0.here hx rfl (hb hby at_87) rfl ?_
    show Steps p.tables e below (s₁.setTop (mkF m 89 #[.val (.int p1), .val (.int p2), .val (.int p3), .val (.int (p1 &&& (255 : Int32))), .val (.int (p2 &&& (255 : Int32))), .val (.int (1 : Int32)), .val (.int (0 : Int32)), .val (.int ((4 : Int32) + (1 : Int32))), .unset, .unset, .unset] [(.int ((4 : Int32) + (1 : Int32)))])) _
    refine XS.iconst X0.here hx rfl (hb hby at_89) ?_
    show Steps p.tables e below (s₁.setTop (mkF m 90 #[.val (.int p1), .val (.int p2), .val (.int p3), .val (.int (p1 &&& (255 : Int32))), .val (.int (p2 &&& (255 : Int32))), .val (.int (1 : Int32)), .val (.int (0 : Int32)), .val (.int ((4 : Int32) + (1 : Int32))), .unset, .unset, .unset] [(.int (5 : Int32)), (.int ((4 : Int32) + (1 : Int32)))])) _
    refine XS.icmpNo X0.here hx rfl (hb hby at_90) rfl (teq (by decide : ((4 : Int32) + (1 : Int32)) = (5 : Int32))).2 ?_
    show Steps p.tables e below (s₁.setTop (mkF m 93 #[.val (.int p1), .val (.int p2), .val (.int p3), .val (.int (p1 &&& (255 : Int32))), .val (.int (p2 &&& (255 : Int32))), .val (.int (1 : Int32)), .val (.int (0 : Int32)), .val (.int ((4 : Int32) + (1 : Int32))), .unset, .unset, .unset] [])) _
    refine XS.iconst X0.here hx rfl (hb hby at_93) ?_
    show Steps p.tables e below (s₁.setTop (mkF m 94 #[.val (.int p1), .val (.int p2), .val (.int p3), .val (.int (p1 &&& (255 : Int32))), .val (.int (p2 &&& (255 : Int32))), .val (.int (1 : Int32)), .val (.int (0 : Int32)), .val (.int ((4 : Int32) + (1 : Int32))), .unset, .unset, .unset] [(.int (5 : Int32))])) _
    refine st_q4 _ ?_
    show Steps p.tables e below (T_q4.setTop (mkF m 96 #[.val (.int p1), .val (.int p2), .val (.int p3), .val (.int (p1 &&& (255 : Int32))), .val (.int (p2 &&& (255 : Int32))), .val (.int (1 : Int32)), .val (.int (0 : Int32)), .val (.int ((4 : Int32) + (1 : Int32))), .unset, .unset, .unset] [(.ref b_q4)])) _
    refine XS.goto X_q4.here hx rfl (pc0 := 96) (pc' := 103) rfl (hb hby at_96) (by decide) (by decide) ?_
    show Steps p.tables e below (T_q4.setTop (mkF m 103 #[.val (.int p1), .val (.int p2), .val (.int p3), .val (.int (p1 &&& (255 : Int32))), .val (.int (p2 &&& (255 : Int32))), .val (.int (1 : Int32)), .val (.int (0 : Int32)), .val (.int ((4 : Int32) + (1 : Int32))), .unset, .unset, .unset] [(.ref b_q4)])) _
    refine XS.astore X_q4.here hx rfl (hb hby at_103) rfl rfl (l' := #[.val (.int p1), .val (.int p2), .val (.int p3), .val (.int (p1 &&& (255 : Int32))), .val (.int (p2 &&& (255 : Int32))), .val (.int (1 : Int32)), .val (.int (0 : Int32)), .val (.int ((4 : Int32) + (1 : Int32))), .val (.ref b_q4), .unset, .unset]) rfl ?_
    show Steps p.tables e below (T_q4.setTop (mkF m 105 #[.val (.int p1), .val (.int p2), .val (.int p3), .val (.int (p1 &&& (255 : Int32))), .val (.int (p2 &&& (255 : Int32))), .val (.int (1 : Int32)), .val (.int (0 : Int32)), .val (.int ((4 : Int32) + (1 : Int32))), .val (.ref b_q4), .unset, .unset] [])) _
    refine XS.aload X_q4.here hx rfl (hb hby at_105) rfl rfl ?_
    show Steps p.tables e below (T_q4.setTop (mkF m 107 #[.val (.int p1), .val (.int p2), .val (.int p3), .val (.int (p1 &&& (255 : Int32))), .val (.int (p2 &&& (255 : Int32))), .val (.int (1 : Int32)), .val (.int (0 : Int32)), .val (.int ((4 : Int32) + (1 : Int32))), .val (.ref b_q4), .unset, .unset] [(.ref b_q4)])) _
    refine XS.iconst X_q4.here hx rfl (hb hby at_107) ?_
    show Steps p.tables e below (T_q4.setTop (mkF m 108 #[.val (.int p1), .val (.int p2), .val (.int p3), .val (.int (p1 &&& (255 : Int32))), .val (.int (p2 &&& (255 : Int32))), .val (.int (1 : Int32)), .val (.int (0 : Int32)), .val (.int ((4 : Int32) + (1 : Int32))), .val (.ref b_q4), .unset, .unset] [(.int (0 : Int32)), (.ref b_q4)])) _
    refine XS.iloadN X_q4.here hx rfl (hb hby at_108) rfl ?_
    show Steps p.tables e below (T_q4.setTop (mkF m 109 #[.val (.int p1), .val (.int p2), .val (.int p3), .val (.int (p1 &&& (255 : Int32))), .val (.int (p2 &&& (255 : Int32))), .val (.int (1 : Int32)), .val (.int (0 : Int32)), .val (.int ((4 : Int32) + (1 : Int32))), .val (.ref b_q4), .unset, .unset] [(.int (p1 &&& (255 : Int32))), (.int (0 : Int32)), (.ref b_q4)])) _
    refine XS.iload X_q4.here hx rfl (hb hby at_109) rfl ?_
    show Steps p.tables e below (T_q4.setTop (mkF m 111 #[.val (.int p1), .val (.int p2), .val (.int p3), .val (.int (p1 &&& (255 : Int32))), .val (.int (p2 &&& (255 : Int32))), .val (.int (1 : Int32)), .val (.int (0 : Int32)), .val (.int ((4 : Int32) + (1 : Int32))), .val (.ref b_q4), .unset, .unset] [(.int (1 : Int32)), (.int (p1 &&& (255 : Int32))), (.int (0 : Int32)), (.ref b_q4)])) _
    refine st_q5 _ ?_
    show Steps p.tables e below (T_q5.setTop (mkF m 114 #[.val (.int p1), .val (.int p2), .val (.int p3), .val (.int (p1 &&& (255 : Int32))), .val (.int (p2 &&& (255 : Int32))), .val (.int (1 : Int32)), .val (.int (0 : Int32)), .val (.int ((4 : Int32) + (1 : Int32))), .val (.ref b_q4), .unset, .unset] [(.int ((0 : Int32) + (4 : Int32)))])) _
    refine XS.istore X_q5.here hx rfl (hb hby at_114) rfl (l' := #[.val (.int p1), .val (.int p2), .val (.int p3), .val (.int (p1 &&& (255 : Int32))), .val (.int (p2 &&& (255 : Int32))), .val (.int (1 : Int32)), .val (.int (0 : Int32)), .val (.int ((4 : Int32) + (1 : Int32))), .val (.ref b_q4), .val (.int ((0 : Int32) + (4 : Int32))), .unset]) rfl ?_
    show Steps p.tables e below (T_q5.setTop (mkF m 116 #[.val (.int p1), .val (.int p2), .val (.int p3), .val (.int (p1 &&& (255 : Int32))), .val (.int (p2 &&& (255 : Int32))), .val (.int (1 : Int32)), .val (.int (0 : Int32)), .val (.int ((4 : Int32) + (1 : Int32))), .val (.ref b_q4), .val (.int ((0 : Int32) + (4 : Int32))), .unset] [])) _
    refine XS.aload X_q5.here hx rfl (hb hby at_116) rfl rfl ?_
    show Steps p.tables e below (T_q5.setTop (mkF m 118 #[.val (.int p1), .val (.int p2), .val (.int p3), .val (.int (p1 &&& (255 : Int32))), .val (.int (p2 &&& (255 : Int32))), .val (.int (1 : Int32)), .val (.int (0 : Int32)), .val (.int ((4 : Int32) + (1 : Int32))), .val (.ref b_q4), .val (.int ((0 : Int32) + (4 : Int32))), .unset] [(.ref b_q4)])) _
    refine XS.iload X_q5.here hx rfl (hb hby at_118) rfl ?_
    show Steps p.tables e below (T_q5.setTop (mkF m 120 #[.val (.int p1), .val (.int p2), .val (.int p3), .val (.int (p1 &&& (255 : Int32))), .val (.int (p2 &&& (255 : Int32))), .val (.int (1 : Int32)), .val (.int (0 : Int32)), .val (.int ((4 : Int32) + (1 : Int32))), .val (.ref b_q4), .val (.int ((0 : Int32) + (4 : Int32))), .unset] [(.int ((0 : Int32) + (4 : Int32))), (.ref b_q4)])) _
    refine XS.iload X_q5.here hx rfl (hb hby at_120) rfl ?_
    show Steps p.tables e below (T_q5.setTop (mkF m 122 #[.val (.int p1), .val (.int p2), .val (.int p3), .val (.int (p1 &&& (255 : Int32))), .val (.int (p2 &&& (255 : Int32))), .val (.int (1 : Int32)), .val (.int (0 : Int32)), .val (.int ((4 : Int32) + (1 : Int32))), .val (.ref b_q4), .val (.int ((0 : Int32) + (4 : Int32))), .unset] [(.int (p2 &&& (255 : Int32))), (.int ((0 : Int32) + (4 : Int32))), (.ref b_q4)])) _
    refine XS.iload X_q5.here hx rfl (hb hby at_122) rfl ?_
    show Steps p.tables e below (T_q5.setTop (mkF m 124 #[.val (.int p1), .val (.int p2), .val (.int p3), .val (.int (p1 &&& (255 : Int32))), .val (.int (p2 &&& (255 : Int32))), .val (.int (1 : Int32)), .val (.int (0 : Int32)), .val (.int ((4 : Int32) + (1 : Int32))), .val (.ref b_q4), .val (.int ((0 : Int32) + (4 : Int32))), .unset] [(.int (0 : Int32)), (.int (p2 &&& (255 : Int32))), (.int ((0 : Int32) + (4 : Int32))), (.ref b_q4)])) _
    refine st_q6 _ ?_
    show Steps p.tables e below (T_q6.setTop (mkF m 127 #[.val (.int p1), .val (.int p2), .val (.int p3), .val (.int (p1 &&& (255 : Int32))), .val (.int (p2 &&& (255 : Int32))), .val (.int (1 : Int32)), .val (.int (0 : Int32)), .val (.int ((4 : Int32) + (1 : Int32))), .val (.ref b_q4), .val (.int ((0 : Int32) + (4 : Int32))), .unset] [(.int ((4 : Int32) + (1 : Int32)))])) _
    refine XS.pop X_q6.here hx rfl (hb hby at_127) rfl rfl ?_
    show Steps p.tables e below (T_q6.setTop (mkF m 128 #[.val (.int p1), .val (.int p2), .val (.int p3), .val (.int (p1 &&& (255 : Int32))), .val (.int (p2 &&& (255 : Int32))), .val (.int (1 : Int32)), .val (.int (0 : Int32)), .val (.int ((4 : Int32) + (1 : Int32))), .val (.ref b_q4), .val (.int ((0 : Int32) + (4 : Int32))), .unset] [])) _
    refine XS.aload X_q6.here hx rfl (hb hby at_128) rfl rfl ?_
    show Steps p.tables e below (T_q6.setTop (mkF m 130 #[.val (.int p1), .val (.int p2), .val (.int p3), .val (.int (p1 &&& (255 : Int32))), .val (.int (p2 &&& (255 : Int32))), .val (.int (1 : Int32)), .val (.int (0 : Int32)), .val (.int ((4 : Int32) + (1 : Int32))), .val (.ref b_q4), .val (.int ((0 : Int32) + (4 : Int32))), .unset] [(.ref b_q4)])) _
    refine st_q7 _ ?_
    show Steps p.tables e below (T_q7.setTop (mkF m 133 #[.val (.int p1), .val (.int p2), .val (.int p3), .val (.int (p1 &&& (255 : Int32))), .val (.int (p2 &&& (255 : Int32))), .val (.int (1 : Int32)), .val (.int (0 : Int32)), .val (.int ((4 : Int32) + (1 : Int32))), .val (.ref b_q4), .val (.int ((0 : Int32) + (4 : Int32))), .unset] [(.ref r_q7)])) _
    refine XS.astore X_q7.here hx rfl (hb hby at_133) rfl rfl (l' := #[.val (.int p1), .val (.int p2), .val (.int p3), .val (.int (p1 &&& (255 : Int32))), .val (.int (p2 &&& (255 : Int32))), .val (.int (1 : Int32)), .val (.int (0 : Int32)), .val (.int ((4 : Int32) + (1 : Int32))), .val (.ref b_q4), .val (.int ((0 : Int32) + (4 : Int32))), .val (.ref r_q7)]) rfl ?_
    show Steps p.tables e below (T_q7.setTop (mkF m 135 #[.val (.int p1), .val (.int p2), .val (.int p3), .val (.int (p1 &&& (255 : Int32))), .val (.int (p2 &&& (255 : Int32))), .val (.int (1 : Int32)), .val (.int (0 : Int32)), .val (.int ((4 : Int32) + (1 : Int32))), .val (.ref b_q4), .val (.int ((0 : Int32) + (4 : Int32))), .val (.ref r_q7)] [])) _
    refine XS.aload X_q7.here hx rfl (hb hby at_135) rfl rfl ?_
    show Steps p.tables e below (T_q7.setTop (mkF m 137 #[.val (.int p1), .val (.int p2), .val (.int p3), .val (.int (p1 &&& (255 : Int32))), .val (.int (p2 &&& (255 : Int32))), .val (.int (1 : Int32)), .val (.int (0 : Int32)), .val (.int ((4 : Int32) + (1 : Int32))), .val (.ref b_q4), .val (.int ((0 : Int32) + (4 : Int32))), .val (.ref r_q7)] [(.ref r_q7)])) _
    refine X_q7.arraylength hx (by exact Ar_q8.1) (State.isArrayOf_alike hZ.alike Ar_q8.2.1) (g := (mkF m 137 #[.val (.int p1), .val (.int p2), .val (.int p3), .val (.int (p1 &&& (255 : Int32))), .val (.int (p2 &&& (255 : Int32))), .val (.int (1 : Int32)), .val (.int (0 : Int32)), .val (.int ((4 : Int32) + (1 : Int32))), .val (.ref b_q4), .val (.int ((0 : Int32) + (4 : Int32))), .val (.ref r_q7)] [(.ref r_q7)])) rfl rfl (hb hby at_137) _ ?_
    rw [len_of S_q8 Nn_q8]
    show Steps p.tables e below (T_q7.setTop (mkF m 138 #[.val (.int p1), .val (.int p2), .val (.int p3), .val (.int (p1 &&& (255 : Int32))), .val (.int (p2 &&& (255 : Int32))), .val (.int (1 : Int32)), .val (.int (0 : Int32)), .val (.int ((4 : Int32) + (1 : Int32))), .val (.ref b_q4), .val (.int ((0 : Int32) + (4 : Int32))), .val (.ref r_q7)] [(.int (2 : Int32))])) _
    refine XS.iconst X_q7.here hx rfl (hb hby at_138) ?_
    show Steps p.tables e below (T_q7.setTop (mkF m 139 #[.val (.int p1), .val (.int p2), .val (.int p3), .val (.int (p1 &&& (255 : Int32))), .val (.int (p2 &&& (255 : Int32))), .val (.int (1 : Int32)), .val (.int (0 : Int32)), .val (.int ((4 : Int32) + (1 : Int32))), .val (.ref b_q4), .val (.int ((0 : Int32) + (4 : Int32))), .val (.ref r_q7)] [(.int (2 : Int32)), (.int (2 : Int32))])) _
    refine XS.icmpNo X_q7.here hx rfl (hb hby at_139) rfl (teq (by decide : (2 : Int32) = (2 : Int32))).2 ?_
    show Steps p.tables e below (T_q7.setTop (mkF m 142 #[.val (.int p1), .val (.int p2), .val (.int p3), .val (.int (p1 &&& (255 : Int32))), .val (.int (p2 &&& (255 : Int32))), .val (.int (1 : Int32)), .val (.int (0 : Int32)), .val (.int ((4 : Int32) + (1 : Int32))), .val (.ref b_q4), .val (.int ((0 : Int32) + (4 : Int32))), .val (.ref r_q7)] [])) _
    refine XS.aload X_q7.here hx rfl (hb hby at_142) rfl rfl ?_
    show Steps p.tables e below (T_q7.setTop (mkF m 144 #[.val (.int p1), .val (.int p2), .val (.int p3), .val (.int (p1 &&& (255 : Int32))), .val (.int (p2 &&& (255 : Int32))), .val (.int (1 : Int32)), .val (.int (0 : Int32)), .val (.int ((4 : Int32) + (1 : Int32))), .val (.ref b_q4), .val (.int ((0 : Int32) + (4 : Int32))), .val (.ref r_q7)] [(.ref r_q7)])) _
    refine XS.iconst X_q7.here hx rfl (hb hby at_144) ?_
    show Steps p.tables e below (T_q7.setTop (mkF m 145 #[.val (.int p1), .val (.int p2), .val (.int p3), .val (.int (p1 &&& (255 : Int32))), .val (.int (p2 &&& (255 : Int32))), .val (.int (1 : Int32)), .val (.int (0 : Int32)), .val (.int ((4 : Int32) + (1 : Int32))), .val (.ref b_q4), .val (.int ((0 : Int32) + (4 : Int32))), .val (.ref r_q7)] [(.int (0 : Int32)), (.ref r_q7)])) _
    refine X_q7.baloadBytes hx (j := (0 : Int32)) (v := (.int (nar .byte (nar .byte ((((F5_0 (nar .byte ((F2_0 (((p1 &&& (255 : Int32)).toUInt32 >>> ((4 : Int32) &&& 31).toUInt32).toInt32)).toInt8.toInt32))) <<< ((4 : Int32) &&& 31)) ||| (F5_0 (nar .byte ((F2_0 ((p1 &&& (255 : Int32)) &&& (15 : Int32))).toInt8.toInt32)))).toInt8.toInt32))))) (by exact Ar_q9.1) (State.isArrayOf_alike hZ.alike Ar_q9.2.1) Ar_q9.2.2 hin_q9 hat_q9 (g := (mkF m 145 #[.val (.int p1), .val (.int p2), .val (.int p3), .val (.int (p1 &&& (255 : Int32))), .val (.int (p2 &&& (255 : Int32))), .val (.int (1 : Int32)), .val (.int (0 : Int32)), .val (.int ((4 : Int32) + (1 : Int32))), .val (.ref b_q4), .val (.int ((0 : Int32) + (4 : Int32))), .val (.ref r_q7)] [(.int (0 : Int32)), (.ref r_q7)])) rfl rfl (hb hby at_145) _ ?_
    show Steps p.tables e below (T_q7.setTop (mkF m 146 #[.val (.int p1), .val (.int p2), .val (.int p3), .val (.int (p1 &&& (255 : Int32))), .val (.int (p2 &&& (255 : Int32))), .val (.int (1 : Int32)), .val (.int (0 : Int32)), .val (.int ((4 : Int32) + (1 : Int32))), .val (.ref b_q4), .val (.int ((0 : Int32) + (4 : Int32))), .val (.ref r_q7)] [(.int (nar .byte (nar .byte ((((F5_0 (nar .byte ((F2_0 (((p1 &&& (255 : Int32)).toUInt32 >>> ((4 : Int32) &&& 31).toUInt32).toInt32)).toInt8.toInt32))) <<< ((4 : Int32) &&& 31)) ||| (F5_0 (nar .byte ((F2_0 ((p1 &&& (255 : Int32)) &&& (15 : Int32))).toInt8.toInt32)))).toInt8.toInt32))))])) _
    refine XS.iloadN X_q7.here hx rfl (hb hby at_146) rfl ?_
    show Steps p.tables e below (T_q7.setTop (mkF m 147 #[.val (.int p1), .val (.int p2), .val (.int p3), .val (.int (p1 &&& (255 : Int32))), .val (.int (p2 &&& (255 : Int32))), .val (.int (1 : Int32)), .val (.int (0 : Int32)), .val (.int ((4 : Int32) + (1 : Int32))), .val (.ref b_q4), .val (.int ((0 : Int32) + (4 : Int32))), .val (.ref r_q7)] [(.int (p1 &&& (255 : Int32))), (.int (nar .byte (nar .byte ((((F5_0 (nar .byte ((F2_0 (((p1 &&& (255 : Int32)).toUInt32 >>> ((4 : Int32) &&& 31).toUInt32).toInt32)).toInt8.toInt32))) <<< ((4 : Int32) &&& 31)) ||| (F5_0 (nar .byte ((F2_0 ((p1 &&& (255 : Int32)) &&& (15 : Int32))).toInt8.toInt32)))).toInt8.toInt32))))])) _
    refine XS.i2b X_q7.here hx rfl (hb hby at_147) rfl ?_
    show Steps p.tables e below (T_q7.setTop (mkF m 148 #[.val (.int p1), .val (.int p2), .val (.int p3), .val (.int (p1 &&& (255 : Int32))), .val (.int (p2 &&& (255 : Int32))), .val (.int (1 : Int32)), .val (.int (0 : Int32)), .val (.int ((4 : Int32) + (1 : Int32))), .val (.ref b_q4), .val (.int ((0 : Int32) + (4 : Int32))), .val (.ref r_q7)] [(.int ((p1 &&& (255 : Int32)).toInt8.toInt32)), (.int (nar .byte (nar .byte ((((F5_0 (nar .byte ((F2_0 (((p1 &&& (255 : Int32)).toUInt32 >>> ((4 : Int32) &&& 31).toUInt32).toInt32)).toInt8.toInt32))) <<< ((4 : Int32) &&& 31)) ||| (F5_0 (nar .byte ((F2_0 ((p1 &&& (255 : Int32)) &&& (15 : Int32))).toInt8.toInt32)))).toInt8.toInt32))))])) _
    refine XS.icmpNo X_q7.here hx rfl (hb hby at_148) rfl (teq hc_q10).2 ?_
    show Steps p.tables e below (T_q7.setTop (mkF m 151 #[.val (.int p1), .val (.int p2), .val (.int p3), .val (.int (p1 &&& (255 : Int32))), .val (.int (p2 &&& (255 : Int32))), .val (.int (1 : Int32)), .val (.int (0 : Int32)), .val (.int ((4 : Int32) + (1 : Int32))), .val (.ref b_q4), .val (.int ((0 : Int32) + (4 : Int32))), .val (.ref r_q7)] [])) _
    refine XS.aload X_q7.here hx rfl (hb hby at_151) rfl rfl ?_
    show Steps p.tables e below (T_q7.setTop (mkF m 153 #[.val (.int p1), .val (.int p2), .val (.int p3), .val (.int (p1 &&& (255 : Int32))), .val (.int (p2 &&& (255 : Int32))), .val (.int (1 : Int32)), .val (.int (0 : Int32)), .val (.int ((4 : Int32) + (1 : Int32))), .val (.ref b_q4), .val (.int ((0 : Int32) + (4 : Int32))), .val (.ref r_q7)] [(.ref r_q7)])) _
    refine XS.iconst X_q7.here hx rfl (hb hby at_153) ?_
    show Steps p.tables e below (T_q7.setTop (mkF m 154 #[.val (.int p1), .val (.int p2), .val (.int p3), .val (.int (p1 &&& (255 : Int32))), .val (.int (p2 &&& (255 : Int32))), .val (.int (1 : Int32)), .val (.int (0 : Int32)), .val (.int ((4 : Int32) + (1 : Int32))), .val (.ref b_q4), .val (.int ((0 : Int32) + (4 : Int32))), .val (.ref r_q7)] [(.int (1 : Int32)), (.ref r_q7)])) _
    refine X_q7.baloadBytes hx (j := (1 : Int32)) (v := (.int (nar .byte (nar .byte ((p2 &&& (255 : Int32)).toInt8.toInt32))))) (by exact Ar_q11.1) (State.isArrayOf_alike hZ.alike Ar_q11.2.1) Ar_q11.2.2 hin_q11 hat_q11 (g := (mkF m 154 #[.val (.int p1), .val (.int p2), .val (.int p3), .val (.int (p1 &&& (255 : Int32))), .val (.int (p2 &&& (255 : Int32))), .val (.int (1 : Int32)), .val (.int (0 : Int32)), .val (.int ((4 : Int32) + (1 : Int32))), .val (.ref b_q4), .val (.int ((0 : Int32) + (4 : Int32))), .val (.ref r_q7)] [(.int (1 : Int32)), (.ref r_q7)])) rfl rfl (hb hby at_154) _ ?_
    show Steps p.tables e below (T_q7.setTop (mkF m 155 #[.val (.int p1), .val (.int p2), .val (.int p3), .val (.int (p1 &&& (255 : Int32))), .val (.int (p2 &&& (255 : Int32))), .val (.int (1 : Int32)), .val (.int (0 : Int32)), .val (.int ((4 : Int32) + (1 : Int32))), .val (.ref b_q4), .val (.int ((0 : Int32) + (4 : Int32))), .val (.ref r_q7)] [(.int (nar .byte (nar .byte ((p2 &&& (255 : Int32)).toInt8.toInt32))))])) _
    refine XS.iload X_q7.here hx rfl (hb hby at_155) rfl ?_
    show Steps p.tables e below (T_q7.setTop (mkF m 157 #[.val (.int p1), .val (.int p2), .val (.int p3), .val (.int (p1 &&& (255 : Int32))), .val (.int (p2 &&& (255 : Int32))), .val (.int (1 : Int32)), .val (.int (0 : Int32)), .val (.int ((4 : Int32) + (1 : Int32))), .val (.ref b_q4), .val (.int ((0 : Int32) + (4 : Int32))), .val (.ref r_q7)] [(.int (p2 &&& (255 : Int32))), (.int (nar .byte (nar .byte ((p2 &&& (255 : Int32)).toInt8.toInt32))))])) _
    refine XS.i2b X_q7.here hx rfl (hb hby at_157) rfl ?_
    show Steps p.tables e below (T_q7.setTop (mkF m 158 #[.val (.int p1), .val (.int p2), .val (.int p3), .val (.int (p1 &&& (255 : Int32))), .val (.int (p2 &&& (255 : Int32))), .val (.int (1 : Int32)), .val (.int (0 : Int32)), .val (.int ((4 : Int32) + (1 : Int32))), .val (.ref b_q4), .val (.int ((0 : Int32) + (4 : Int32))), .val (.ref r_q7)] [(.int ((p2 &&& (255 : Int32)).toInt8.toInt32)), (.int (nar .byte (nar .byte ((p2 &&& (255 : Int32)).toInt8.toInt32))))])) _
    refine XS.icmpNo X_q7.here hx rfl (hb hby at_158) rfl (teq hc_q12).2 ?_
    show Steps p.tables e below (T_q7.setTop (mkF m 161 #[.val (.int p1), .val (.int p2), .val (.int p3), .val (.int (p1 &&& (255 : Int32))), .val (.int (p2 &&& (255 : Int32))), .val (.int (1 : Int32)), .val (.int (0 : Int32)), .val (.int ((4 : Int32) + (1 : Int32))), .val (.ref b_q4), .val (.int ((0 : Int32) + (4 : Int32))), .val (.ref r_q7)] [])) _
    refine XS.iconst X_q7.here hx rfl (hb hby at_161) ?_
    show Steps p.tables e below (T_q7.setTop (mkF m 162 #[.val (.int p1), .val (.int p2), .val (.int p3), .val (.int (p1 &&& (255 : Int32))), .val (.int (p2 &&& (255 : Int32))), .val (.int (1 : Int32)), .val (.int (0 : Int32)), .val (.int ((4 : Int32) + (1 : Int32))), .val (.ref b_q4), .val (.int ((0 : Int32) + (4 : Int32))), .val (.ref r_q7)] [(.int (1 : Int32))])) _
    refine XS.goto X_q7.here hx rfl (pc0 := 162) (pc' := 166) rfl (hb hby at_162) (by decide) (by decide) ?_
    show Steps p.tables e below (T_q7.setTop (mkF m 166 #[.val (.int p1), .val (.int p2), .val (.int p3), .val (.int (p1 &&& (255 : Int32))), .val (.int (p2 &&& (255 : Int32))), .val (.int (1 : Int32)), .val (.int (0 : Int32)), .val (.int ((4 : Int32) + (1 : Int32))), .val (.ref b_q4), .val (.int ((0 : Int32) + (4 : Int32))), .val (.ref r_q7)] [(.int (1 : Int32))])) _
    exact retN X_q7 hx (t := .boolean) Bd.returns (by simp) (hb hby at_166) hr
  · show Q_law Z p1 p2 p3 h0 n0 _ T_q7.heap _
    exact ⟨rfl, N_q7⟩
set_option maxRecDepth 65536 in
set_option maxHeartbeats 40000000 in
theorem rm0_ff_t (l : Launch) (Z : State) (a0 : Array Value) (hw : ∀ d ∈ tables_1, d.before a0 Z = true) (ws : List Jvm.Cond) (p1 : Int32) (p2 : Int32) (p3 : Int32) (h0 : Heap) (n0 : Nat) (Z0 : n0 ≤ h0.size) (hc_q1 : (p3 &&& (1 : Int32)) = (0 : Int32)) (hc_q2 : (p1 &&& (255 : Int32)) = (92 : Int32)) (hc_q3 : ¬ ((p3 &&& (2 : Int32)) = (0 : Int32))) (hd_he_q5_hc_q7 : ¬ ((F5_0 (nar .byte ((F2_0 (((p1 &&& (255 : Int32)).toUInt32 >>> ((4 : Int32) &&& 31).toUInt32).toInt32)).toInt8.toInt32))) < (0 : Int32))) (hd_he_q5_hc_q8 : ¬ ((F5_0 (nar .byte ((F2_0 ((p1 &&& (255 : Int32)) &&& (15 : Int32))).toInt8.toInt32))) < (0 : Int32))) (hd_he_q9_hc_q7 : ¬ ((F5_0 (nar .byte ((F2_0 (((p2 &&& (255 : Int32)).toUInt32 >>> ((4 : Int32) &&& 31).toUInt32).toInt32)).toInt8.toInt32))) < (0 : Int32))) (hd_he_q9_hc_q8 : ¬ ((F5_0 (nar .byte ((F2_0 ((p2 &&& (255 : Int32)) &&& (15 : Int32))).toInt8.toInt32))) < (0 : Int32))) (hc_q10 : (nar .byte (nar .byte ((((F5_0 (nar .byte ((F2_0 (((p1 &&& (255 : Int32)).toUInt32 >>> ((4 : Int32) &&& 31).toUInt32).toInt32)).toInt8.toInt32))) <<< ((4 : Int32) &&& 31)) ||| (F5_0 (nar .byte ((F2_0 ((p1 &&& (255 : Int32)) &&& (15 : Int32))).toInt8.toInt32)))).toInt8.toInt32))) = ((p1 &&& (255 : Int32)).toInt8.toInt32)) (hc_q12 : (nar .byte (nar .byte ((((F5_0 (nar .byte ((F2_0 (((p2 &&& (255 : Int32)).toUInt32 >>> ((4 : Int32) &&& 31).toUInt32).toInt32)).toInt8.toInt32))) <<< ((4 : Int32) &&& 31)) ||| (F5_0 (nar .byte ((F2_0 ((p2 &&& (255 : Int32)) &&& (15 : Int32))).toInt8.toInt32)))).toInt8.toInt32))) = ((p2 &&& (255 : Int32)).toInt8.toInt32)) :
    MetFree l x (head1 (Jvm.Cond.code x code maxLocals ret :: ws) room_1) (fun a U => a = #[(.int p1), (.int p2), (.int p3)] ∧ Z.Warmed39 U.vm ∧ U.heap = h0) (fun _ _ _ _ _ => True) (fun _ U o U' => ∃ v L, o = .returned v ∧ Q_law Z p1 p2 p3 h0 n0 v U'.heap L ∧ FrameEnd U o U' L room_1.cells room_1.slots) := by
  refine MetFree.of_bodySF (plainFor_of_name pn_0) hisR ?_
  intro p e s m args below meth c s₁ Bd hml0 hP hK
  obtain ⟨rfl, hZ, hh⟩ := hP
  have hx := Bd.exec
  have hby := Bd.bytes
  have hml : c.maxLocals = 11 := hml0
  have hown : s.vm.findClass "com/example/presplit/presplit/escape/BinaryEscapeDecodePinLaw" = some m.cls := findClass_of_methodNamed Bd.named
  have hnm := (name_of_methodNamed Bd.named Bd.method).1
  have X0 : Stand p l e room_1 s m #[(.int p1), (.int p2), (.int p3)] below meth c s₁ [] 0 0 := Stand.of_body Bd
  have e0 : s₁.heap = h0 := by rw [← hh, Bd.state]; rfl
  have N0 := Fr.nil n0
  have pre0 : ∀ t, Steps p.tables e below (s₁.setTop (mkF m 0 #[.val (.int p1), .val (.int p2), .val (.int p3), .unset, .unset, .unset, .unset, .unset, .unset, .unset, .unset] [])) t → Steps p.tables e below (s₁.setTop (entryFrame m #[(.int p1), (.int p2), (.int p3)] maxLocals)) t := fun t k => castTop (ef_0 m p1 p2 p3) k
  have K0 : Keep h0 h0 [] := Keep.refl _ _
  obtain ⟨T_q4, h_q4, k_q4, X_q4, e_q4, E_q4, A_q4, EX_q4, st_q4⟩ := newPE X0 hx hZ (hw _ (List.mem_of_getElem? (i := 0) rfl)) e0 (g := (mkF m 101 #[.val (.int p1), .val (.int p2), .val (.int p3), .val (.int (p1 &&& (255 : Int32))), .val (.int (p2 &&& (255 : Int32))), .val (.int (1 : Int32)), .val (.int (1 : Int32)), .val (.int ((4 : Int32) + (4 : Int32))), .unset, .unset, .unset] [(.int (8 : Int32))])) rfl (hb hby at_101) rfl (by decide) (cap := 8) (by decide) (by decide) (by decide) (by decide) (ad := "[B") (by decide)
  obtain ⟨b_q4, g_q4⟩ : ∃ z, z = h0.size := ⟨_, rfl⟩
  rw [← g_q4] at A_q4 EX_q4 st_q4
  have ge_b_q4 : n0 ≤ b_q4 := Nat.le_trans (Nat.le_trans Z0 K0.1) (Nat.le_of_eq g_q4.symm)
  have sz_b_q4 : h0.size ≤ b_q4 := Nat.le_trans K0.1 (Nat.le_of_eq g_q4.symm)
  have K_q4 : Keep h0 h_q4 [] := K0.ext E_q4
  have V_b_q4 : Arv Z h_q4 b_q4 k_q4 .byte (8 : Int32) [(.int (0 : Int32)), (.int (0 : Int32)), (.int (0 : Int32)), (.int (0 : Int32)), (.int (0 : Int32)), (.int (0 : Int32)), (.int (0 : Int32)), (.int (0 : Int32))] (.int (0 : Int32)) := (Arv.new A_q4 (by decide)).pad (pad_rep [] (.int (0 : Int32)) 8)
  obtain ⟨_, _, ⟨T_q5, L_q5, k_q5, n_q5⟩, -, X_q5, ⟨Lc_q5, hQ_q5, l_q5, y_q5, z_q5⟩, st_q5⟩ := Jvm.LawKit.callS X_q4 hx (y := (⟨"com/example/presplit/presplit/escape/BinaryEscapeDecodePinLaw", "put", "([BIIZ)I"⟩ : MethodName)) hown (mvT hZ (hw _ (List.mem_of_getElem? (i := 1) rfl))) (mvT hZ (hw _ (List.mem_of_getElem? (i := 2) rfl))) (mvT hZ (hw _ (List.mem_of_getElem? (i := 3) rfl))) (mvT hZ (hw _ (List.mem_of_getElem? (i := 4) rfl))) (by decide) (backOf (W := 0) (rm1_8_0_1 l Z a0 hw [] b_q4 k_q4 (.int (0 : Int32)) (.int (0 : Int32)) (.int (0 : Int32)) (.int (0 : Int32)) (.int (0 : Int32)) (.int (0 : Int32)) (.int (0 : Int32)) (.int (0 : Int32)) (p1 &&& (255 : Int32)) h_q4 n0 (Nat.le_trans Z0 K_q4.1) V_b_q4 ge_b_q4) hZ (hw _ (List.mem_of_getElem? (i := 4) rfl)) (hw _ (List.mem_of_getElem? (i := 3) rfl)) (by decide) (by decide)) (g := (mkF m 111 #[.val (.int p1), .val (.int p2), .val (.int p3), .val (.int (p1 &&& (255 : Int32))), .val (.int (p2 &&& (255 : Int32))), .val (.int (1 : Int32)), .val (.int (1 : Int32)), .val (.int ((4 : Int32) + (4 : Int32))), .val (.ref b_q4), .unset, .unset] [(.int (1 : Int32)), (.int (p1 &&& (255 : Int32))), (.int (0 : Int32)), (.ref b_q4)])) rfl (by rw [hml]; rfl) (argsL := [(.ref b_q4), (.int (0 : Int32)), (.int (p1 &&& (255 : Int32))), (.int (1 : Int32))]) (rest := []) (lenOf pd___BIIZ_I rfl) rfl (by show 2 * 0 + _ ≤ _; exact Nat.le_of_eq rfl) (hb hby at_111) (fun _ _ => ⟨rfl, e_q4, (by decide : 1 + 0 ≤ _), (by decide : 8 + 0 ≤ _)⟩)
  dsimp only [Pt.U, Pt.locs, Pt.cells, Pt.slots] at X_q5 l_q5 y_q5 z_q5 st_q5 hQ_q5
  subst l_q5 y_q5 z_q5
  obtain ⟨rfl, Nq_q5, Kq_q5, Vq_q5⟩ := hQ_q5
  have N_q5 := Fr.app N0 Nq_q5
  have EX_q4__q5 := EX_q4.keep Kq_q5
  have K_q5 : Keep h0 T_q5.heap [] := K_q4.trans Kq_q5 (fun x hx => Or.inr (by cases List.mem_singleton.mp hx; exact sz_b_q4))
  obtain ⟨_, _, ⟨T_q6, L_q6, k_q6, n_q6⟩, -, X_q6, ⟨Lc_q6, hQ_q6, l_q6, y_q6, z_q6⟩, st_q6⟩ := Jvm.LawKit.callS X_q5 hx (y := (⟨"com/example/presplit/presplit/escape/BinaryEscapeDecodePinLaw", "put", "([BIIZ)I"⟩ : MethodName)) hown (mvT hZ (hw _ (List.mem_of_getElem? (i := 1) rfl))) (mvT hZ (hw _ (List.mem_of_getElem? (i := 2) rfl))) (mvT hZ (hw _ (List.mem_of_getElem? (i := 3) rfl))) (mvT hZ (hw _ (List.mem_of_getElem? (i := 4) rfl))) (by decide) (backOf (W := 0) (rm1_8_4_1 l Z a0 hw [] b_q4 k_q4 (.int (nar .byte (92 : Int32))) (.int (nar .byte (120 : Int32))) (.int (nar .byte ((F2_0 (((p1 &&& (255 : Int32)).toUInt32 >>> ((4 : Int32) &&& 31).toUInt32).toInt32)).toInt8.toInt32))) (.int (nar .byte ((F2_0 ((p1 &&& (255 : Int32)) &&& (15 : Int32))).toInt8.toInt32))) (.int (0 : Int32)) (.int (0 : Int32)) (.int (0 : Int32)) (.int (0 : Int32)) (p2 &&& (255 : Int32)) T_q5.heap n0 (Nat.le_trans Z0 K_q5.1) Vq_q5 ge_b_q4) hZ (hw _ (List.mem_of_getElem? (i := 4) rfl)) (hw _ (List.mem_of_getElem? (i := 3) rfl)) (by decide) (by decide)) (g := (mkF m 124 #[.val (.int p1), .val (.int p2), .val (.int p3), .val (.int (p1 &&& (255 : Int32))), .val (.int (p2 &&& (255 : Int32))), .val (.int (1 : Int32)), .val (.int (1 : Int32)), .val (.int ((4 : Int32) + (4 : Int32))), .val (.ref b_q4), .val (.int ((0 : Int32) + (4 : Int32))), .unset] [(.int (1 : Int32)), (.int (p2 &&& (255 : Int32))), (.int ((0 : Int32) + (4 : Int32))), (.ref b_q4)])) rfl (by rw [hml]; rfl) (argsL := [(.ref b_q4), (.int ((0 : Int32) + (4 : Int32))), (.int (p2 &&& (255 : Int32))), (.int (1 : Int32))]) (rest := []) (lenOf pd___BIIZ_I rfl) rfl (by show 2 * 0 + _ ≤ _; exact Nat.le_of_eq rfl) (hb hby at_124) (fun _ _ => ⟨rfl, rfl, (by decide : 1 + 0 ≤ _), (by decide : 8 + 0 ≤ _)⟩)
  dsimp only [Pt.U, Pt.locs, Pt.cells, Pt.slots] at X_q6 l_q6 y_q6 z_q6 st_q6 hQ_q6
  subst l_q6 y_q6 z_q6
  obtain ⟨rfl, Nq_q6, Kq_q6, Vq_q6⟩ := hQ_q6
  have N_q6 := Fr.app N_q5 Nq_q6
  have EX_q4__q6 := EX_q4__q5.keep Kq_q6
  have K_q6 : Keep h0 T_q6.heap [] := K_q5.trans Kq_q6 (fun x hx => Or.inr (by cases List.mem_singleton.mp hx; exact sz_b_q4))
  have VD_q7 : Arv Z T_q6.heap b_q4 k_q4 .byte (8 : Int32) [(.int (92 : Int32)), (.int (120 : Int32)), (.int (nar .byte ((F2_0 (((p1 &&& (255 : Int32)).toUInt32 >>> ((4 : Int32) &&& 31).toUInt32).toInt32)).toInt8.toInt32))), (.int (nar .byte ((F2_0 ((p1 &&& (255 : Int32)) &&& (15 : Int32))).toInt8.toInt32))), (.int (92 : Int32)), (.int (120 : Int32)), (.int (nar .byte ((F2_0 (((p2 &&& (255 : Int32)).toUInt32 >>> ((4 : Int32) &&& 31).toUInt32).toInt32)).toInt8.toInt32))), (.int (nar .byte ((F2_0 ((p2 &&& (255 : Int32)) &&& (15 : Int32))).toInt8.toInt32)))] (.int (0 : Int32)) := Vq_q6
  obtain ⟨_, _, ⟨T_q7, L_q7, k_q7, n_q7⟩, -, X_q7, ⟨Lc_q7, hQ_q7, l_q7, y_q7, z_q7⟩, st_q7⟩ := Jvm.LawKit.callS X_q6 hx (y := (⟨"com/example/presplit/presplit/escape/BinaryEscape", "decode", "([B)[B"⟩ : MethodName)) hown (mvT hZ (hw _ (List.mem_of_getElem? (i := 8) rfl))) (mvT hZ (hw _ (List.mem_of_getElem? (i := 9) rfl))) (mvT hZ (hw _ (List.mem_of_getElem? (i := 10) rfl))) (mvT hZ (hw _ (List.mem_of_getElem? (i := 11) rfl))) (by decide) (backOf (W := 0) (rm3_11 l Z a0 hw [] b_q4 k_q4 (nar .byte ((F2_0 (((p1 &&& (255 : Int32)).toUInt32 >>> ((4 : Int32) &&& 31).toUInt32).toInt32)).toInt8.toInt32)) (nar .byte ((F2_0 ((p1 &&& (255 : Int32)) &&& (15 : Int32))).toInt8.toInt32)) (nar .byte ((F2_0 (((p2 &&& (255 : Int32)).toUInt32 >>> ((4 : Int32) &&& 31).toUInt32).toInt32)).toInt8.toInt32)) (nar .byte ((F2_0 ((p2 &&& (255 : Int32)) &&& (15 : Int32))).toInt8.toInt32)) T_q6.heap n0 (Nat.le_trans Z0 K_q6.1) VD_q7 hd_he_q5_hc_q7 hd_he_q5_hc_q8 hd_he_q9_hc_q7 hd_he_q9_hc_q8) hZ (hw _ (List.mem_of_getElem? (i := 11) rfl)) (hw _ (List.mem_of_getElem? (i := 10) rfl)) (by decide) (by decide)) (g := (mkF m 130 #[.val (.int p1), .val (.int p2), .val (.int p3), .val (.int (p1 &&& (255 : Int32))), .val (.int (p2 &&& (255 : Int32))), .val (.int (1 : Int32)), .val (.int (1 : Int32)), .val (.int ((4 : Int32) + (4 : Int32))), .val (.ref b_q4), .val (.int ((0 : Int32) + (4 : Int32))), .unset] [(.ref b_q4)])) rfl (by rw [hml]; rfl) (argsL := [(.ref b_q4)]) (rest := []) (lenOf pd___B__B rfl) rfl (by show 2 * 0 + _ ≤ _; exact Nat.le_of_eq rfl) (hb hby at_130) (fun _ _ => ⟨rfl, rfl, (by decide : 1 + 2 ≤ _), (by decide : 8 + 10 ≤ _)⟩)
  dsimp only [Pt.U, Pt.locs, Pt.cells, Pt.slots] at X_q7 l_q7 y_q7 z_q7 st_q7 hQ_q7
  subst l_q7 y_q7 z_q7
  obtain ⟨r_q7, kr_q7, rfl, Nq_q7, Kq_q7, Vr_q7⟩ := hQ_q7
  have N_q7 := Fr.app N_q6 Nq_q7
  have EX_q4__q7 := EX_q4__q6.keep Kq_q7
  have Vq_q6__q7 := Vq_q6.keep Kq_q7 List.not_mem_nil
  have K_q7 : Keep h0 T_q7.heap [] := K_q6.trans Kq_q7 (fun x hx => nomatch hx)
  obtain ⟨cl_q8, Ar_q8, qk_q8, S_q8, Nn_q8, H_q8, G_q8⟩ := id Vr_q7
  obtain ⟨cl_q9, Ar_q9, qk_q9, S_q9, Nn_q9, H_q9, G_q9⟩ := id Vr_q7
  have hin_q9 : ¬ ((0 : Int32) < 0 ∨ cl_q9.slots.size ≤ ((0 : Int32)).toNatClampNeg) := inb_of S_q9 ⟨by decide, by decide⟩
  have hat_q9 : cl_q9.slots[((0 : Int32)).toNatClampNeg]? = some (.int (nar .byte (nar .byte ((((F5_0 (nar .byte ((F2_0 (((p1 &&& (255 : Int32)).toUInt32 >>> ((4 : Int32) &&& 31).toUInt32).toInt32)).toInt8.toInt32))) <<< ((4 : Int32) &&& 31)) ||| (F5_0 (nar .byte ((F2_0 ((p1 &&& (255 : Int32)) &&& (15 : Int32))).toInt8.toInt32)))).toInt8.toInt32)))) := H_q9 0 (Nat.lt_of_not_le fun q => hin_q9 (Or.inr q))
  obtain ⟨cl_q11, Ar_q11, qk_q11, S_q11, Nn_q11, H_q11, G_q11⟩ := id Vr_q7
  have hin_q11 : ¬ ((1 : Int32) < 0 ∨ cl_q11.slots.size ≤ ((1 : Int32)).toNatClampNeg) := inb_of S_q11 ⟨by decide, by decide⟩
  have hat_q11 : cl_q11.slots[((1 : Int32)).toNatClampNeg]? = some (.int (nar .byte (nar .byte ((((F5_0 (nar .byte ((F2_0 (((p2 &&& (255 : Int32)).toUInt32 >>> ((4 : Int32) &&& 31).toUInt32).toInt32)).toInt8.toInt32))) <<< ((4 : Int32) &&& 31)) ||| (F5_0 (nar .byte ((F2_0 ((p2 &&& (255 : Int32)) &&& (15 : Int32))).toInt8.toInt32)))).toInt8.toInt32)))) := H_q11 1 (Nat.lt_of_not_le fun q => hin_q11 (Or.inr q))
  obtain ⟨fs, hr, hrun, hended, hW, hsame⟩ := X_q7.leave (v := some (.int (1 : Int32))) (fun h => by rw [Bd.returns] at h; cases h) Bd.notSynchronized
  refine ⟨_, _, pre0 _ ?_, hrun, hended, _, _, rfl, ?_, ⟨_, rfl⟩, hW, hsame.mono (by decide) (by decide)⟩
  · show Steps p.tables e below (s₁.setTop (mkF m 0 #[.val (.int p1), .val (.int p2), .val (.int p3), .unset, .unset, .unset, .unset, .unset, .unset, .unset, .unset] [])) _
    refine XS.iloadN X0.here hx rfl (hb hby at_0) rfl ?_
    show Steps p.tables e below (s₁.setTop (mkF m 1 #[.val (.int p1), .val (.int p2), .val (.int p3), .unset, .unset, .unset, .unset, .unset, .unset, .unset, .unset] [(.int p1)])) _
    refine XS.sipush X0.here hx rfl (hb hby at_1) ?_
    show Steps p.tables e below (s₁.setTop (mkF m 4 #[.val (.int p1), .val (.int p2), .val (.int p3), .unset, .unset, .unset, .unset, .unset, .unset, .unset, .unset] [(.int (255 : Int32)), (.int p1)])) _
    refine XS.iand X0.here hx rfl (hb hby at_4) rfl ?_
    show Steps p.tables e below (s₁.setTop (mkF m 5 #[.val (.int p1), .val (.int p2), .val (.int p3), .unset, .unset, .unset, .unset, .unset, .unset, .unset, .unset] [(.int (p1 &&& (255 : Int32)))])) _
    refine XS.istoreN X0.here hx rfl (hb hby at_5) rfl (l' := #[.val (.int p1), .val (.int p2), .val (.int p3), .val (.int (p1 &&& (255 : Int32))), .unset, .unset, .unset, .unset, .unset, .unset, .unset]) rfl ?_
    show Steps p.tables e below (s₁.setTop (mkF m 6 #[.val (.int p1), .val (.int p2), .val (.int p3), .val (.int (p1 &&& (255 : Int32))), .unset, .unset, .unset, .unset, .unset, .unset, .unset] [])) _
    refine XS.iloadN X0.here hx rfl (hb hby at_6) rfl ?_
    show Steps p.tables e below (s₁.setTop (mkF m 7 #[.val (.int p1), .val (.int p2), .val (.int p3), .val (.int (p1 &&& (255 : Int32))), .unset, .unset, .unset, .unset, .unset, .unset, .unset] [(.int p2)])) _
    refine XS.sipush X0.here hx rfl (hb hby at_7) ?_
    show Steps p.tables e below (s₁.setTop (mkF m 10 #[.val (.int p1), .val (.int p2), .val (.int p3), .val (.int (p1 &&& (255 : Int32))), .unset, .unset, .unset, .unset, .unset, .unset, .unset] [(.int (255 : Int32)), (.int p2)])) _
    refine XS.iand X0.here hx rfl (hb hby at_10) rfl ?_
    show Steps p.tables e below (s₁.setTop (mkF m 11 #[.val (.int p1), .val (.int p2), .val (.int p3), .val (.int (p1 &&& (255 : Int32))), .unset, .unset, .unset, .unset, .unset, .unset, .unset] [(.int (p2 &&& (255 : Int32)))])) _
    refine XS.istore X0.here hx rfl (hb hby at_11) rfl (l' := #[.val (.int p1), .val (.int p2), .val (.int p3), .val (.int (p1 &&& (255 : Int32))), .val (.int (p2 &&& (255 : Int32))), .unset, .unset, .unset, .unset, .unset, .unset]) rfl ?_
    show Steps p.tables e below (s₁.setTop (mkF m 13 #[.val (.int p1), .val (.int p2), .val (.int p3), .val (.int (p1 &&& (255 : Int32))), .val (.int (p2 &&& (255 : Int32))), .unset, .unset, .unset, .unset, .unset, .unset] [])) _
    refine XS.iloadN X0.here hx rfl (hb hby at_13) rfl ?_
    show Steps p.tables e below (s₁.setTop (mkF m 14 #[.val (.int p1), .val (.int p2), .val (.int p3), .val (.int (p1 &&& (255 : Int32))), .val (.int (p2 &&& (255 : Int32))), .unset, .unset, .unset, .unset, .unset, .unset] [(.int p3)])) _
    refine XS.iconst X0.here hx rfl (hb hby at_14) ?_
    show Steps p.tables e below (s₁.setTop (mkF m 15 #[.val (.int p1), .val (.int p2), .val (.int p3), .val (.int (p1 &&& (255 : Int32))), .val (.int (p2 &&& (255 : Int32))), .unset, .unset, .unset, .unset, .unset, .unset] [(.int (1 : Int32)), (.int p3)])) _
    refine XS.iand X0.here hx rfl (hb hby at_15) rfl ?_
    show Steps p.tables e below (s₁.setTop (mkF m 16 #[.val (.int p1), .val (.int p2), .val (.int p3), .val (.int (p1 &&& (255 : Int32))), .val (.int (p2 &&& (255 : Int32))), .unset, .unset, .unset, .unset, .unset, .unset] [(.int (p3 &&& (1 : Int32)))])) _
    refine XS.ifNo X0.here hx rfl (hb hby at_16) rfl ((if0 _ _).trans (teq hc_q1).2) ?_
    show Steps p.tables e below (s₁.setTop (mkF m 19 #[.val (.int p1), .val (.int p2), .val (.int p3), .val (.int (p1 &&& (255 : Int32))), .val (.int (p2 &&& (255 : Int32))), .unset, .unset, .unset, .unset, .unset, .unset] [])) _
    refine XS.iloadN X0.here hx rfl (hb hby at_19) rfl ?_
    show Steps p.tables e below (s₁.setTop (mkF m 20 #[.val (.int p1), .val (.int p2), .val (.int p3), .val (.int (p1 &&& (255 : Int32))), .val (.int (p2 &&& (255 : Int32))), .unset, .unset, .unset, .unset, .unset, .unset] [(.int (p1 &&& (255 : Int32)))])) _
    refine XS.bipush X0.here hx rfl (hb hby at_20) ?_
    show Steps p.tables e below (s₁.setTop (mkF m 22 #[.val (.int p1), .val (.int p2), .val (.int p3), .val (.int (p1 &&& (255 : Int32))), .val (.int (p2 &&& (255 : Int32))), .unset, .unset, .unset, .unset, .unset, .unset] [(.int (92 : Int32)), (.int (p1 &&& (255 : Int32)))])) _
    refine XS.icmpNo X0.here hx rfl (hb hby at_22) rfl (teq hc_q2).2 ?_
    show Steps p.tables e below (s₁.setTop (mkF m 25 #[.val (.int p1), .val (.int p2), .val (.int p3), .val (.int (p1 &&& (255 : Int32))), .val (.int (p2 &&& (255 : Int32))), .unset, .unset, .unset, .unset, .unset, .unset] [])) _
    refine XS.iconst X0.here hx rfl (hb hby at_25) ?_
    show Steps p.tables e below (s₁.setTop (mkF m 26 #[.val (.int p1), .val (.int p2), .val (.int p3), .val (.int (p1 &&& (255 : Int32))), .val (.int (p2 &&& (255 : Int32))), .unset, .unset, .unset, .unset, .unset, .unset] [(.int (1 : Int32))])) _
    refine XS.goto X0.here hx rfl (pc0 := 26) (pc' := 30) rfl (hb hby at_26) (by decide) (by decide) ?_
    show Steps p.tables e below (s₁.setTop (mkF m 30 #[.val (.int p1), .val (.int p2), .val (.int p3), .val (.int (p1 &&& (255 : Int32))), .val (.int (p2 &&& (255 : Int32))), .unset, .unset, .unset, .unset, .unset, .unset] [(.int (1 : Int32))])) _
    refine XS.istore X0.here hx rfl (hb hby at_30) rfl (l' := #[.val (.int p1), .val (.int p2), .val (.int p3), .val (.int (p1 &&& (255 : Int32))), .val (.int (p2 &&& (255 : Int32))), .val (.int (1 : Int32)), .unset, .unset, .unset, .unset, .unset]) rfl ?_
    show Steps p.tables e below (s₁.setTop (mkF m 32 #[.val (.int p1), .val (.int p2), .val (.int p3), .val (.int (p1 &&& (255 : Int32))), .val (.int (p2 &&& (255 : Int32))), .val (.int (1 : Int32)), .unset, .unset, .unset, .unset, .unset] [])) _
    refine XS.iloadN X0.here hx rfl (hb hby at_32) rfl ?_
    show Steps p.tables e below (s₁.setTop (mkF m 33 #[.val (.int p1), .val (.int p2), .val (.int p3), .val (.int (p1 &&& (255 : Int32))), .val (.int (p2 &&& (255 : Int32))), .val (.int (1 : Int32)), .unset, .unset, .unset, .unset, .unset] [(.int p3)])) _
    refine XS.iconst X0.here hx rfl (hb hby at_33) ?_
    show Steps p.tables e below (s₁.setTop (mkF m 34 #[.val (.int p1), .val (.int p2), .val (.int p3), .val (.int (p1 &&& (255 : Int32))), .val (.int (p2 &&& (255 : Int32))), .val (.int (1 : Int32)), .unset, .unset, .unset, .unset, .unset] [(.int (2 : Int32)), (.int p3)])) _
    refine XS.iand X0.here hx rfl (hb hby at_34) rfl ?_
    show Steps p.tables e below (s₁.setTop (mkF m 35 #[.val (.int p1), .val (.int p2), .val (.int p3), .val (.int (p1 &&& (255 : Int32))), .val (.int (p2 &&& (255 : Int32))), .val (.int (1 : Int32)), .unset, .unset, .unset, .unset, .unset] [(.int (p3 &&& (2 : Int32)))])) _
    refine XS.ifYes X0.here hx rfl (pc0 := 35) (pc' := 45) rfl (hb hby at_35) rfl ((if0 _ _).trans (feq hc_q3).2) (by decide) (by decide) ?_
    show Steps p.tables e below (s₁.setTop (mkF m 45 #[.val (.int p1), .val (.int p2), .val (.int p3), .val (.int (p1 &&& (255 : Int32))), .val (.int (p2 &&& (255 : Int32))), .val (.int (1 : Int32)), .unset, .unset, .unset, .unset, .unset] [])) _
    refine XS.iconst X0.here hx rfl (hb hby at_45) ?_
    show Steps p.tables e below (s₁.setTop (mkF m 46 #[.val (.int p1), .val (.int p2), .val (.int p3), .val (.int (p1 &&& (255 : Int32))), .val (.int (p2 &&& (255 : Int32))), .val (.int (1 : Int32)), .unset, .unset, .unset, .unset, .unset] [(.int (1 : Int32))])) _
    refine XS.goto X0.here hx rfl (pc0 := 46) (pc' := 50) rfl (hb hby at_46) (by decide) (by decide) ?_
    show Steps p.tables e below (s₁.setTop (mkF m 50 #[.val (.int p1), .val (.int p2), .val (.int p3), .val (.int (p1 &&& (255 : Int32))), .val (.int (p2 &&& (255 : Int32))), .val (.int (1 : Int32)), .unset, .unset, .unset, .unset, .unset] [(.int (1 : Int32))])) _
    refine XS.istore X0.here hx rfl (hb hby at_50) rfl (l' := #[.val (.int p1), .val (.int p2), .val (.int p3), .val (.int (p1 &&& (255 : Int32))), .val (.int (p2 &&& (255 : Int32))), .val (.int (1 : Int32)), .val (.int (1 : Int32)), .unset, .unset, .unset, .unset]) rfl ?_
    show Steps p.tables e below (s₁.setTop (mkF m 52 #[.val (.int p1), .val (.int p2), .val (.int p3), .val (.int (p1 &&& (255 : Int32))), .val (.int (p2 &&& (255 : Int32))), .val (.int (1 : Int32)), .val (.int (1 : Int32)), .unset, .unset, .unset, .unset] [])) _
    refine XS.iload X0.here hx rfl (hb hby at_52) rfl ?_
    show Steps p.tables e below (s₁.setTop (mkF m 54 #[.val (.int p1), .val (.int p2), .val (.int p3), .val (.int (p1 &&& (255 : Int32))), .val (.int (p2 &&& (255 : Int32))), .val (.int (1 : Int32)), .val (.int (1 : Int32)), .unset, .unset, .unset, .unset] [(.int (1 : Int32))])) _
    refine XS.ifNo X0.here hx rfl (hb hby at_54) rfl ((if0 _ _).trans (feq (by decide : ¬ ((1 : Int32) = (0 : Int32)))).1) ?_
    show Steps p.tables e below (s₁.setTop (mkF m 57 #[.val (.int p1), .val (.int p2), .val (.int p3), .val (.int (p1 &&& (255 : Int32))), .val (.int (p2 &&& (255 : Int32))), .val (.int (1 : Int32)), .val (.int (1 : Int32)), .unset, .unset, .unset, .unset] [])) _
    refine XS.iconst X0.here hx rfl (hb hby at_57) ?_
    show Steps p.tables e below (s₁.setTop (mkF m 58 #[.val (.int p1), .val (.int p2), .val (.int p3), .val (.int (p1 &&& (255 : Int32))), .val (.int (p2 &&& (255 : Int32))), .val (.int (1 : Int32)), .val (.int (1 : Int32)), .unset, .unset, .unset, .unset] [(.int (4 : Int32))])) _
    refine XS.goto X0.here hx rfl (pc0 := 58) (pc' := 62) rfl (hb hby at_58) (by decide) (by decide) ?_
    show Steps p.tables e below (s₁.setTop (mkF m 62 #[.val (.int p1), .val (.int p2), .val (.int p3), .val (.int (p1 &&& (255 : Int32))), .val (.int (p2 &&& (255 : Int32))), .val (.int (1 : Int32)), .val (.int (1 : Int32)), .unset, .unset, .unset, .unset] [(.int (4 : Int32))])) _
    refine XS.iload X0.here hx rfl (hb hby at_62) rfl ?_
    show Steps p.tables e below (s₁.setTop (mkF m 64 #[.val (.int p1), .val (.int p2), .val (.int p3), .val (.int (p1 &&& (255 : Int32))), .val (.int (p2 &&& (255 : Int32))), .val (.int (1 : Int32)), .val (.int (1 : Int32)), .unset, .unset, .unset, .unset] [(.int (1 : Int32)), (.int (4 : Int32))])) _
    refine XS.ifNo X0.here hx rfl (hb hby at_64) rfl ((if0 _ _).trans (feq (by decide : ¬ ((1 : Int32) = (0 : Int32)))).1) ?_
    show Steps p.tables e below (s₁.setTop (mkF m 67 #[.val (.int p1), .val (.int p2), .val (.int p3), .val (.int (p1 &&& (255 : Int32))), .val (.int (p2 &&& (255 : Int32))), .val (.int (1 : Int32)), .val (.int (1 : Int32)), .unset, .unset, .unset, .unset] [(.int (4 : Int32))])) _
    refine XS.iconst X0.here hx rfl (hb hby at_67) ?_
    show Steps p.tables e below (s₁.setTop (mkF m 68 #[.val (.int p1), .val (.int p2), .val (.int p3), .val (.int (p1 &&& (255 : Int32))), .val (.int (p2 &&& (255 : Int32))), .val (.int (1 : Int32)), .val (.int (1 : Int32)), .unset, .unset, .unset, .unset] [(.int (4 : Int32)), (.int (4 : Int32))])) _
    refine XS.goto X0.here hx rfl (pc0 := 68) (pc' := 72) rfl (hb hby at_68) (by decide) (by decide) ?_
    show Steps p.tables e below (s₁.setTop (mkF m 72 #[.val (.int p1), .val (.int p2), .val (.int p3), .val (.int (p1 &&& (255 : Int32))), .val (.int (p2 &&& (255 : Int32))), .val (.int (1 : Int32)), .val (.int (1 : Int32)), .unset, .unset, .unset, .unset] [(.int (4 : Int32)), (.int (4 : Int32))])) _
    refine XS.iadd X0.here hx rfl (hb hby at_72) rfl ?_
    show Steps p.tables e below (s₁.setTop (mkF m 73 #[.val (.int p1), .val (.int p2), .val (.int p3), .val (.int (p1 &&& (255 : Int32))), .val (.int (p2 &&& (255 : Int32))), .val (.int (1 : Int32)), .val (.int (1 : Int32)), .unset, .unset, .unset, .unset] [(.int ((4 : Int32) + (4 : Int32)))])) _
    refine XS.istore X0.here hx rfl (hb hby at_73) rfl (l' := #[.val (.int p1), .val (.int p2), .val (.int p3), .val (.int (p1 &&& (255 : Int32))), .val (.int (p2 &&& (255 : Int32))), .val (.int (1 : Int32)), .val (.int (1 : Int32)), .val (.int ((4 : Int32) + (4 : Int32))), .unset, .unset, .unset]) rfl ?_
    show Steps p.tables e below (s₁.setTop (mkF m 75 #[.val (.int p1), .val (.int p2), .val (.int p3), .val (.int (p1 &&& (255 : Int32))), .val (.int (p2 &&& (255 : Int32))), .val (.int (1 : Int32)), .val (.int (1 : Int32)), .val (.int ((4 : Int32) + (4 : Int32))), .unset, .unset, .unset] [])) _
    refine XS.iload X0.here hx rfl (hb hby at_75) rfl ?_
    show Steps p.tables e below (s₁.setTop (mkF m 77 #[.val (.int p1), .val (.int p2), .val (.int p3), .val (.int (p1 &&& (255 : Int32))), .val (.int (p2 &&& (255 : Int32))), .val (.int (1 : Int32)), .val (.int (1 : Int32)), .val (.int ((4 : Int32) + (4 : Int32))), .unset, .unset, .unset] [(.int ((4 : Int32) + (4 : Int32)))])) _
    refine XS.iconst X0.here hx rfl (hb hby at_77) ?_
    show Steps p.tables e below (s₁.setTop (mkF m 78 #[.val (.int p1), .val (.int p2), .val (.int p3), .val (.int (p1 &&& (255 : Int32))), .val (.int (p2 &&& (255 : Int32))), .val (.int (1 : Int32)), .val (.int (1 : Int32)), .val (.int ((4 : Int32) + (4 : Int32))), .unset, .unset, .unset] [(.int (2 : Int32)), (.int ((4 : Int32) + (4 : Int32)))])) _
    refine XS.icmpYes X0.here hx rfl (pc0 := 78) (pc' := 87) rfl (hb hby at_78) rfl (feq (by decide : ¬ (((4 : Int32) + (4 : Int32)) = (2 : Int32)))).2 (by decide) (by decide) ?_
    show Steps p.tables e below (s₁.setTop (mkF m 87 #[.val (.int p1), .val (.int p2), .val (.int p3), .val (.int (p1 &&& (255 : Int32))), .val (.int (p2 &&& (255 : Int32))), .val (.int (1 : Int32)), .val (.int (1 : Int32)), .val (.int ((4 : Int32) + (4 : Int32))), .unset, .unset, .unset] [])) _
    refine XS.iload X0.here hx rfl (hb hby at_87) rfl ?_
    show Steps p.tables e below (s₁.setTop (mkF m 89 #[.val (.int p1), .val (.int p2), .val (.int p3), .val (.int (p1 &&& (255 : Int32))), .val (.int (p2 &&& (255 : Int32))), .val (.int (1 : Int32)), .val (.int (1 : Int32)), .val (.int ((4 : Int32) + (4 : Int32))), .unset, .unset, .unset] [(.int ((4 : Int32) + (4 : Int32)))])) _
    refine XS.iconst X0.here hx rfl (hb hby at_89) ?_
    show Steps p.tables e below (s₁.setTop (mkF m 90 #[.val (.int p1), .val (.int p2), .val (.int p3), .val (.int (p1 &&& (255 : Int32))), .val (.int (p2 &&& (255 : Int32))), .val (.int (1 : Int32)), .val (.int (1 : Int32)), .val (.int ((4 : Int32) + (4 : Int32))), .unset, .unset, .unset] [(.int (5 : Int32)), (.int ((4 : Int32) + (4 : Int32)))])) _
    refine XS.icmpYes X0.here hx rfl (pc0 := 90) (pc' := 99) rfl (hb hby at_90) rfl (feq (by decide : ¬ (((4 : Int32) + (4 : Int32)) = (5 : Int32)))).2 (by decide) (by decide) ?_
    show Steps p.tables e below (s₁.setTop (mkF m 99 #[.val (.int p1), .val (.int p2), .val (.int p3), .val (.int (p1 &&& (255 : Int32))), .val (.int (p2 &&& (255 : Int32))), .val (.int (1 : Int32)), .val (.int (1 : Int32)), .val (.int ((4 : Int32) + (4 : Int32))), .unset, .unset, .unset] [])) _
    refine XS.bipush X0.here hx rfl (hb hby at_99) ?_
    show Steps p.tables e below (s₁.setTop (mkF m 101 #[.val (.int p1), .val (.int p2), .val (.int p3), .val (.int (p1 &&& (255 : Int32))), .val (.int (p2 &&& (255 : Int32))), .val (.int (1 : Int32)), .val (.int (1 : Int32)), .val (.int ((4 : Int32) + (4 : Int32))), .unset, .unset, .unset] [(.int (8 : Int32))])) _
    refine st_q4 _ ?_
    show Steps p.tables e below (T_q4.setTop (mkF m 103 #[.val (.int p1), .val (.int p2), .val (.int p3), .val (.int (p1 &&& (255 : Int32))), .val (.int (p2 &&& (255 : Int32))), .val (.int (1 : Int32)), .val (.int (1 : Int32)), .val (.int ((4 : Int32) + (4 : Int32))), .unset, .unset, .unset] [(.ref b_q4)])) _
    refine XS.astore X_q4.here hx rfl (hb hby at_103) rfl rfl (l' := #[.val (.int p1), .val (.int p2), .val (.int p3), .val (.int (p1 &&& (255 : Int32))), .val (.int (p2 &&& (255 : Int32))), .val (.int (1 : Int32)), .val (.int (1 : Int32)), .val (.int ((4 : Int32) + (4 : Int32))), .val (.ref b_q4), .unset, .unset]) rfl ?_
    show Steps p.tables e below (T_q4.setTop (mkF m 105 #[.val (.int p1), .val (.int p2), .val (.int p3), .val (.int (p1 &&& (255 : Int32))), .val (.int (p2 &&& (255 : Int32))), .val (.int (1 : Int32)), .val (.int (1 : Int32)), .val (.int ((4 : Int32) + (4 : Int32))), .val (.ref b_q4), .unset, .unset] [])) _
    refine XS.aload X_q4.here hx rfl (hb hby at_105) rfl rfl ?_
    show Steps p.tables e below (T_q4.setTop (mkF m 107 #[.val (.int p1), .val (.int p2), .val (.int p3), .val (.int (p1 &&& (255 : Int32))), .val (.int (p2 &&& (255 : Int32))), .val (.int (1 : Int32)), .val (.int (1 : Int32)), .val (.int ((4 : Int32) + (4 : Int32))), .val (.ref b_q4), .unset, .unset] [(.ref b_q4)])) _
    refine XS.iconst X_q4.here hx rfl (hb hby at_107) ?_
    show Steps p.tables e below (T_q4.setTop (mkF m 108 #[.val (.int p1), .val (.int p2), .val (.int p3), .val (.int (p1 &&& (255 : Int32))), .val (.int (p2 &&& (255 : Int32))), .val (.int (1 : Int32)), .val (.int (1 : Int32)), .val (.int ((4 : Int32) + (4 : Int32))), .val (.ref b_q4), .unset, .unset] [(.int (0 : Int32)), (.ref b_q4)])) _
    refine XS.iloadN X_q4.here hx rfl (hb hby at_108) rfl ?_
    show Steps p.tables e below (T_q4.setTop (mkF m 109 #[.val (.int p1), .val (.int p2), .val (.int p3), .val (.int (p1 &&& (255 : Int32))), .val (.int (p2 &&& (255 : Int32))), .val (.int (1 : Int32)), .val (.int (1 : Int32)), .val (.int ((4 : Int32) + (4 : Int32))), .val (.ref b_q4), .unset, .unset] [(.int (p1 &&& (255 : Int32))), (.int (0 : Int32)), (.ref b_q4)])) _
    refine XS.iload X_q4.here hx rfl (hb hby at_109) rfl ?_
    show Steps p.tables e below (T_q4.setTop (mkF m 111 #[.val (.int p1), .val (.int p2), .val (.int p3), .val (.int (p1 &&& (255 : Int32))), .val (.int (p2 &&& (255 : Int32))), .val (.int (1 : Int32)), .val (.int (1 : Int32)), .val (.int ((4 : Int32) + (4 : Int32))), .val (.ref b_q4), .unset, .unset] [(.int (1 : Int32)), (.int (p1 &&& (255 : Int32))), (.int (0 : Int32)), (.ref b_q4)])) _
    refine st_q5 _ ?_
    show Steps p.tables e below (T_q5.setTop (mkF m 114 #[.val (.int p1), .val (.int p2), .val (.int p3), .val (.int (p1 &&& (255 : Int32))), .val (.int (p2 &&& (255 : Int32))), .val (.int (1 : Int32)), .val (.int (1 : Int32)), .val (.int ((4 : Int32) + (4 : Int32))), .val (.ref b_q4), .unset, .unset] [(.int ((0 : Int32) + (4 : Int32)))])) _
    refine XS.istore X_q5.here hx rfl (hb hby at_114) rfl (l' := #[.val (.int p1), .val (.int p2), .val (.int p3), .val (.int (p1 &&& (255 : Int32))), .val (.int (p2 &&& (255 : Int32))), .val (.int (1 : Int32)), .val (.int (1 : Int32)), .val (.int ((4 : Int32) + (4 : Int32))), .val (.ref b_q4), .val (.int ((0 : Int32) + (4 : Int32))), .unset]) rfl ?_
    show Steps p.tables e below (T_q5.setTop (mkF m 116 #[.val (.int p1), .val (.int p2), .val (.int p3), .val (.int (p1 &&& (255 : Int32))), .val (.int (p2 &&& (255 : Int32))), .val (.int (1 : Int32)), .val (.int (1 : Int32)), .val (.int ((4 : Int32) + (4 : Int32))), .val (.ref b_q4), .val (.int ((0 : Int32) + (4 : Int32))), .unset] [])) _
    refine XS.aload X_q5.here hx rfl (hb hby at_116) rfl rfl ?_
    show Steps p.tables e below (T_q5.setTop (mkF m 118 #[.val (.int p1), .val (.int p2), .val (.int p3), .val (.int (p1 &&& (255 : Int32))), .val (.int (p2 &&& (255 : Int32))), .val (.int (1 : Int32)), .val (.int (1 : Int32)), .val (.int ((4 : Int32) + (4 : Int32))), .val (.ref b_q4), .val (.int ((0 : Int32) + (4 : Int32))), .unset] [(.ref b_q4)])) _
    refine XS.iload X_q5.here hx rfl (hb hby at_118) rfl ?_
    show Steps p.tables e below (T_q5.setTop (mkF m 120 #[.val (.int p1), .val (.int p2), .val (.int p3), .val (.int (p1 &&& (255 : Int32))), .val (.int (p2 &&& (255 : Int32))), .val (.int (1 : Int32)), .val (.int (1 : Int32)), .val (.int ((4 : Int32) + (4 : Int32))), .val (.ref b_q4), .val (.int ((0 : Int32) + (4 : Int32))), .unset] [(.int ((0 : Int32) + (4 : Int32))), (.ref b_q4)])) _
    refine XS.iload X_q5.here hx rfl (hb hby at_120) rfl ?_
    show Steps p.tables e below (T_q5.setTop (mkF m 122 #[.val (.int p1), .val (.int p2), .val (.int p3), .val (.int (p1 &&& (255 : Int32))), .val (.int (p2 &&& (255 : Int32))), .val (.int (1 : Int32)), .val (.int (1 : Int32)), .val (.int ((4 : Int32) + (4 : Int32))), .val (.ref b_q4), .val (.int ((0 : Int32) + (4 : Int32))), .unset] [(.int (p2 &&& (255 : Int32))), (.int ((0 : Int32) + (4 : Int32))), (.ref b_q4)])) _
    refine XS.iload X_q5.here hx rfl (hb hby at_122) rfl ?_
    show Steps p.tables e below (T_q5.setTop (mkF m 124 #[.val (.int p1), .val (.int p2), .val (.int p3), .val (.int (p1 &&& (255 : Int32))), .val (.int (p2 &&& (255 : Int32))), .val (.int (1 : Int32)), .val (.int (1 : Int32)), .val (.int ((4 : Int32) + (4 : Int32))), .val (.ref b_q4), .val (.int ((0 : Int32) + (4 : Int32))), .unset] [(.int (1 : Int32)), (.int (p2 &&& (255 : Int32))), (.int ((0 : Int32) + (4 : Int32))), (.ref b_q4)])) _
    refine st_q6 _ ?_
    show Steps p.tables e below (T_q6.setTop (mkF m 127 #[.val (.int p1), .val (.int p2), .val (.int p3), .val (.int (p1 &&& (255 : Int32))), .val (.int (p2 &&& (255 : Int32))), .val (.int (1 : Int32)), .val (.int (1 : Int32)), .val (.int ((4 : Int32) + (4 : Int32))), .val (.ref b_q4), .val (.int ((0 : Int32) + (4 : Int32))), .unset] [(.int ((4 : Int32) + (4 : Int32)))])) _
    refine XS.pop X_q6.here hx rfl (hb hby at_127) rfl rfl ?_
    show Steps p.tables e below (T_q6.setTop (mkF m 128 #[.val (.int p1), .val (.int p2), .val (.int p3), .val (.int (p1 &&& (255 : Int32))), .val (.int (p2 &&& (255 : Int32))), .val (.int (1 : Int32)), .val (.int (1 : Int32)), .val (.int ((4 : Int32) + (4 : Int32))), .val (.ref b_q4), .val (.int ((0 : Int32) + (4 : Int32))), .unset] [])) _
    refine XS.aload X_q6.here hx rfl (hb hby at_128) rfl rfl ?_
    show Steps p.tables e below (T_q6.setTop (mkF m 130 #[.val (.int p1), .val (.int p2), .val (.int p3), .val (.int (p1 &&& (255 : Int32))), .val (.int (p2 &&& (255 : Int32))), .val (.int (1 : Int32)), .val (.int (1 : Int32)), .val (.int ((4 : Int32) + (4 : Int32))), .val (.ref b_q4), .val (.int ((0 : Int32) + (4 : Int32))), .unset] [(.ref b_q4)])) _
    refine st_q7 _ ?_
    show Steps p.tables e below (T_q7.setTop (mkF m 133 #[.val (.int p1), .val (.int p2), .val (.int p3), .val (.int (p1 &&& (255 : Int32))), .val (.int (p2 &&& (255 : Int32))), .val (.int (1 : Int32)), .val (.int (1 : Int32)), .val (.int ((4 : Int32) + (4 : Int32))), .val (.ref b_q4), .val (.int ((0 : Int32) + (4 : Int32))), .unset] [(.ref r_q7)])) _
    refine XS.astore X_q7.here hx rfl (hb hby at_133) rfl rfl (l' := #[.val (.int p1), .val (.int p2), .val (.int p3), .val (.int (p1 &&& (255 : Int32))), .val (.int (p2 &&& (255 : Int32))), .val (.int (1 : Int32)), .val (.int (1 : Int32)), .val (.int ((4 : Int32) + (4 : Int32))), .val (.ref b_q4), .val (.int ((0 : Int32) + (4 : Int32))), .val (.ref r_q7)]) rfl ?_
    show Steps p.tables e below (T_q7.setTop (mkF m 135 #[.val (.int p1), .val (.int p2), .val (.int p3), .val (.int (p1 &&& (255 : Int32))), .val (.int (p2 &&& (255 : Int32))), .val (.int (1 : Int32)), .val (.int (1 : Int32)), .val (.int ((4 : Int32) + (4 : Int32))), .val (.ref b_q4), .val (.int ((0 : Int32) + (4 : Int32))), .val (.ref r_q7)] [])) _
    refine XS.aload X_q7.here hx rfl (hb hby at_135) rfl rfl ?_
    show Steps p.tables e below (T_q7.setTop (mkF m 137 #[.val (.int p1), .val (.int p2), .val (.int p3), .val (.int (p1 &&& (255 : Int32))), .val (.int (p2 &&& (255 : Int32))), .val (.int (1 : Int32)), .val (.int (1 : Int32)), .val (.int ((4 : Int32) + (4 : Int32))), .val (.ref b_q4), .val (.int ((0 : Int32) + (4 : Int32))), .val (.ref r_q7)] [(.ref r_q7)])) _
    refine X_q7.arraylength hx (by exact Ar_q8.1) (State.isArrayOf_alike hZ.alike Ar_q8.2.1) (g := (mkF m 137 #[.val (.int p1), .val (.int p2), .val (.int p3), .val (.int (p1 &&& (255 : Int32))), .val (.int (p2 &&& (255 : Int32))), .val (.int (1 : Int32)), .val (.int (1 : Int32)), .val (.int ((4 : Int32) + (4 : Int32))), .val (.ref b_q4), .val (.int ((0 : Int32) + (4 : Int32))), .val (.ref r_q7)] [(.ref r_q7)])) rfl rfl (hb hby at_137) _ ?_
    rw [len_of S_q8 Nn_q8]
    show Steps p.tables e below (T_q7.setTop (mkF m 138 #[.val (.int p1), .val (.int p2), .val (.int p3), .val (.int (p1 &&& (255 : Int32))), .val (.int (p2 &&& (255 : Int32))), .val (.int (1 : Int32)), .val (.int (1 : Int32)), .val (.int ((4 : Int32) + (4 : Int32))), .val (.ref b_q4), .val (.int ((0 : Int32) + (4 : Int32))), .val (.ref r_q7)] [(.int (2 : Int32))])) _
    refine XS.iconst X_q7.here hx rfl (hb hby at_138) ?_
    show Steps p.tables e below (T_q7.setTop (mkF m 139 #[.val (.int p1), .val (.int p2), .val (.int p3), .val (.int (p1 &&& (255 : Int32))), .val (.int (p2 &&& (255 : Int32))), .val (.int (1 : Int32)), .val (.int (1 : Int32)), .val (.int ((4 : Int32) + (4 : Int32))), .val (.ref b_q4), .val (.int ((0 : Int32) + (4 : Int32))), .val (.ref r_q7)] [(.int (2 : Int32)), (.int (2 : Int32))])) _
    refine XS.icmpNo X_q7.here hx rfl (hb hby at_139) rfl (teq (by decide : (2 : Int32) = (2 : Int32))).2 ?_
    show Steps p.tables e below (T_q7.setTop (mkF m 142 #[.val (.int p1), .val (.int p2), .val (.int p3), .val (.int (p1 &&& (255 : Int32))), .val (.int (p2 &&& (255 : Int32))), .val (.int (1 : Int32)), .val (.int (1 : Int32)), .val (.int ((4 : Int32) + (4 : Int32))), .val (.ref b_q4), .val (.int ((0 : Int32) + (4 : Int32))), .val (.ref r_q7)] [])) _
    refine XS.aload X_q7.here hx rfl (hb hby at_142) rfl rfl ?_
    show Steps p.tables e below (T_q7.setTop (mkF m 144 #[.val (.int p1), .val (.int p2), .val (.int p3), .val (.int (p1 &&& (255 : Int32))), .val (.int (p2 &&& (255 : Int32))), .val (.int (1 : Int32)), .val (.int (1 : Int32)), .val (.int ((4 : Int32) + (4 : Int32))), .val (.ref b_q4), .val (.int ((0 : Int32) + (4 : Int32))), .val (.ref r_q7)] [(.ref r_q7)])) _
    refine XS.iconst X_q7.here hx rfl (hb hby at_144) ?_
    show Steps p.tables e below (T_q7.setTop (mkF m 145 #[.val (.int p1), .val (.int p2), .val (.int p3), .val (.int (p1 &&& (255 : Int32))), .val (.int (p2 &&& (255 : Int32))), .val (.int (1 : Int32)), .val (.int (1 : Int32)), .val (.int ((4 : Int32) + (4 : Int32))), .val (.ref b_q4), .val (.int ((0 : Int32) + (4 : Int32))), .val (.ref r_q7)] [(.int (0 : Int32)), (.ref r_q7)])) _
    refine X_q7.baloadBytes hx (j := (0 : Int32)) (v := (.int (nar .byte (nar .byte ((((F5_0 (nar .byte ((F2_0 (((p1 &&& (255 : Int32)).toUInt32 >>> ((4 : Int32) &&& 31).toUInt32).toInt32)).toInt8.toInt32))) <<< ((4 : Int32) &&& 31)) ||| (F5_0 (nar .byte ((F2_0 ((p1 &&& (255 : Int32)) &&& (15 : Int32))).toInt8.toInt32)))).toInt8.toInt32))))) (by exact Ar_q9.1) (State.isArrayOf_alike hZ.alike Ar_q9.2.1) Ar_q9.2.2 hin_q9 hat_q9 (g := (mkF m 145 #[.val (.int p1), .val (.int p2), .val (.int p3), .val (.int (p1 &&& (255 : Int32))), .val (.int (p2 &&& (255 : Int32))), .val (.int (1 : Int32)), .val (.int (1 : Int32)), .val (.int ((4 : Int32) + (4 : Int32))), .val (.ref b_q4), .val (.int ((0 : Int32) + (4 : Int32))), .val (.ref r_q7)] [(.int (0 : Int32)), (.ref r_q7)])) rfl rfl (hb hby at_145) _ ?_
    show Steps p.tables e below (T_q7.setTop (mkF m 146 #[.val (.int p1), .val (.int p2), .val (.int p3), .val (.int (p1 &&& (255 : Int32))), .val (.int (p2 &&& (255 : Int32))), .val (.int (1 : Int32)), .val (.int (1 : Int32)), .val (.int ((4 : Int32) + (4 : Int32))), .val (.ref b_q4), .val (.int ((0 : Int32) + (4 : Int32))), .val (.ref r_q7)] [(.int (nar .byte (nar .byte ((((F5_0 (nar .byte ((F2_0 (((p1 &&& (255 : Int32)).toUInt32 >>> ((4 : Int32) &&& 31).toUInt32).toInt32)).toInt8.toInt32))) <<< ((4 : Int32) &&& 31)) ||| (F5_0 (nar .byte ((F2_0 ((p1 &&& (255 : Int32)) &&& (15 : Int32))).toInt8.toInt32)))).toInt8.toInt32))))])) _
    refine XS.iloadN X_q7.here hx rfl (hb hby at_146) rfl ?_
    show Steps p.tables e below (T_q7.setTop (mkF m 147 #[.val (.int p1), .val (.int p2), .val (.int p3), .val (.int (p1 &&& (255 : Int32))), .val (.int (p2 &&& (255 : Int32))), .val (.int (1 : Int32)), .val (.int (1 : Int32)), .val (.int ((4 : Int32) + (4 : Int32))), .val (.ref b_q4), .val (.int ((0 : Int32) + (4 : Int32))), .val (.ref r_q7)] [(.int (p1 &&& (255 : Int32))), (.int (nar .byte (nar .byte ((((F5_0 (nar .byte ((F2_0 (((p1 &&& (255 : Int32)).toUInt32 >>> ((4 : Int32) &&& 31).toUInt32).toInt32)).toInt8.toInt32))) <<< ((4 : Int32) &&& 31)) ||| (F5_0 (nar .byte ((F2_0 ((p1 &&& (255 : Int32)) &&& (15 : Int32))).toInt8.toInt32)))).toInt8.toInt32))))])) _
    refine XS.i2b X_q7.here hx rfl (hb hby at_147) rfl ?_
    show Steps p.tables e below (T_q7.setTop (mkF m 148 #[.val (.int p1), .val (.int p2), .val (.int p3), .val (.int (p1 &&& (255 : Int32))), .val (.int (p2 &&& (255 : Int32))), .val (.int (1 : Int32)), .val (.int (1 : Int32)), .val (.int ((4 : Int32) + (4 : Int32))), .val (.ref b_q4), .val (.int ((0 : Int32) + (4 : Int32))), .val (.ref r_q7)] [(.int ((p1 &&& (255 : Int32)).toInt8.toInt32)), (.int (nar .byte (nar .byte ((((F5_0 (nar .byte ((F2_0 (((p1 &&& (255 : Int32)).toUInt32 >>> ((4 : Int32) &&& 31).toUInt32).toInt32)).toInt8.toInt32))) <<< ((4 : Int32) &&& 31)) ||| (F5_0 (nar .byte ((F2_0 ((p1 &&& (255 : Int32)) &&& (15 : Int32))).toInt8.toInt32)))).toInt8.toInt32))))])) _
    refine XS.icmpNo X_q7.here hx rfl (hb hby at_148) rfl (teq hc_q10).2 ?_
    show Steps p.tables e below (T_q7.setTop (mkF m 151 #[.val (.int p1), .val (.int p2), .val (.int p3), .val (.int (p1 &&& (255 : Int32))), .val (.int (p2 &&& (255 : Int32))), .val (.int (1 : Int32)), .val (.int (1 : Int32)), .val (.int ((4 : Int32) + (4 : Int32))), .val (.ref b_q4), .val (.int ((0 : Int32) + (4 : Int32))), .val (.ref r_q7)] [])) _
    refine XS.aload X_q7.here hx rfl (hb hby at_151) rfl rfl ?_
    show Steps p.tables e below (T_q7.setTop (mkF m 153 #[.val (.int p1), .val (.int p2), .val (.int p3), .val (.int (p1 &&& (255 : Int32))), .val (.int (p2 &&& (255 : Int32))), .val (.int (1 : Int32)), .val (.int (1 : Int32)), .val (.int ((4 : Int32) + (4 : Int32))), .val (.ref b_q4), .val (.int ((0 : Int32) + (4 : Int32))), .val (.ref r_q7)] [(.ref r_q7)])) _
    refine XS.iconst X_q7.here hx rfl (hb hby at_153) ?_
    show Steps p.tables e below (T_q7.setTop (mkF m 154 #[.val (.int p1), .val (.int p2), .val (.int p3), .val (.int (p1 &&& (255 : Int32))), .val (.int (p2 &&& (255 : Int32))), .val (.int (1 : Int32)), .val (.int (1 : Int32)), .val (.int ((4 : Int32) + (4 : Int32))), .val (.ref b_q4), .val (.int ((0 : Int32) + (4 : Int32))), .val (.ref r_q7)] [(.int (1 : Int32)), (.ref r_q7)])) _
    refine X_q7.baloadBytes hx (j := (1 : Int32)) (v := (.int (nar .byte (nar .byte ((((F5_0 (nar .byte ((F2_0 (((p2 &&& (255 : Int32)).toUInt32 >>> ((4 : Int32) &&& 31).toUInt32).toInt32)).toInt8.toInt32))) <<< ((4 : Int32) &&& 31)) ||| (F5_0 (nar .byte ((F2_0 ((p2 &&& (255 : Int32)) &&& (15 : Int32))).toInt8.toInt32)))).toInt8.toInt32))))) (by exact Ar_q11.1) (State.isArrayOf_alike hZ.alike Ar_q11.2.1) Ar_q11.2.2 hin_q11 hat_q11 (g := (mkF m 154 #[.val (.int p1), .val (.int p2), .val (.int p3), .val (.int (p1 &&& (255 : Int32))), .val (.int (p2 &&& (255 : Int32))), .val (.int (1 : Int32)), .val (.int (1 : Int32)), .val (.int ((4 : Int32) + (4 : Int32))), .val (.ref b_q4), .val (.int ((0 : Int32) + (4 : Int32))), .val (.ref r_q7)] [(.int (1 : Int32)), (.ref r_q7)])) rfl rfl (hb hby at_154) _ ?_
    show Steps p.tables e below (T_q7.setTop (mkF m 155 #[.val (.int p1), .val (.int p2), .val (.int p3), .val (.int (p1 &&& (255 : Int32))), .val (.int (p2 &&& (255 : Int32))), .val (.int (1 : Int32)), .val (.int (1 : Int32)), .val (.int ((4 : Int32) + (4 : Int32))), .val (.ref b_q4), .val (.int ((0 : Int32) + (4 : Int32))), .val (.ref r_q7)] [(.int (nar .byte (nar .byte ((((F5_0 (nar .byte ((F2_0 (((p2 &&& (255 : Int32)).toUInt32 >>> ((4 : Int32) &&& 31).toUInt32).toInt32)).toInt8.toInt32))) <<< ((4 : Int32) &&& 31)) ||| (F5_0 (nar .byte ((F2_0 ((p2 &&& (255 : Int32)) &&& (15 : Int32))).toInt8.toInt32)))).toInt8.toInt32))))])) _
    refine XS.iload X_q7.here hx rfl (hb hby at_155) rfl ?_
    show Steps p.tables e below (T_q7.setTop (mkF m 157 #[.val (.int p1), .val (.int p2), .val (.int p3), .val (.int (p1 &&& (255 : Int32))), .val (.int (p2 &&& (255 : Int32))), .val (.int (1 : Int32)), .val (.int (1 : Int32)), .val (.int ((4 : Int32) + (4 : Int32))), .val (.ref b_q4), .val (.int ((0 : Int32) + (4 : Int32))), .val (.ref r_q7)] [(.int (p2 &&& (255 : Int32))), (.int (nar .byte (nar .byte ((((F5_0 (nar .byte ((F2_0 (((p2 &&& (255 : Int32)).toUInt32 >>> ((4 : Int32) &&& 31).toUInt32).toInt32)).toInt8.toInt32))) <<< ((4 : Int32) &&& 31)) ||| (F5_0 (nar .byte ((F2_0 ((p2 &&& (255 : Int32)) &&& (15 : Int32))).toInt8.toInt32)))).toInt8.toInt32))))])) _
    refine XS.i2b X_q7.here hx rfl (hb hby at_157) rfl ?_
    show Steps p.tables e below (T_q7.setTop (mkF m 158 #[.val (.int p1), .val (.int p2), .val (.int p3), .val (.int (p1 &&& (255 : Int32))), .val (.int (p2 &&& (255 : Int32))), .val (.int (1 : Int32)), .val (.int (1 : Int32)), .val (.int ((4 : Int32) + (4 : Int32))), .val (.ref b_q4), .val (.int ((0 : Int32) + (4 : Int32))), .val (.ref r_q7)] [(.int ((p2 &&& (255 : Int32)).toInt8.toInt32)), (.int (nar .byte (nar .byte ((((F5_0 (nar .byte ((F2_0 (((p2 &&& (255 : Int32)).toUInt32 >>> ((4 : Int32) &&& 31).toUInt32).toInt32)).toInt8.toInt32))) <<< ((4 : Int32) &&& 31)) ||| (F5_0 (nar .byte ((F2_0 ((p2 &&& (255 : Int32)) &&& (15 : Int32))).toInt8.toInt32)))).toInt8.toInt32))))])) _
    refine XS.icmpNo X_q7.here hx rfl (hb hby at_158) rfl (teq hc_q12).2 ?_
    show Steps p.tables e below (T_q7.setTop (mkF m 161 #[.val (.int p1), .val (.int p2), .val (.int p3), .val (.int (p1 &&& (255 : Int32))), .val (.int (p2 &&& (255 : Int32))), .val (.int (1 : Int32)), .val (.int (1 : Int32)), .val (.int ((4 : Int32) + (4 : Int32))), .val (.ref b_q4), .val (.int ((0 : Int32) + (4 : Int32))), .val (.ref r_q7)] [])) _
    refine XS.iconst X_q7.here hx rfl (hb hby at_161) ?_
    show Steps p.tables e below (T_q7.setTop (mkF m 162 #[.val (.int p1), .val (.int p2), .val (.int p3), .val (.int (p1 &&& (255 : Int32))), .val (.int (p2 &&& (255 : Int32))), .val (.int (1 : Int32)), .val (.int (1 : Int32)), .val (.int ((4 : Int32) + (4 : Int32))), .val (.ref b_q4), .val (.int ((0 : Int32) + (4 : Int32))), .val (.ref r_q7)] [(.int (1 : Int32))])) _
    refine XS.goto X_q7.here hx rfl (pc0 := 162) (pc' := 166) rfl (hb hby at_162) (by decide) (by decide) ?_
    show Steps p.tables e below (T_q7.setTop (mkF m 166 #[.val (.int p1), .val (.int p2), .val (.int p3), .val (.int (p1 &&& (255 : Int32))), .val (.int (p2 &&& (255 : Int32))), .val (.int (1 : Int32)), .val (.int (1 : Int32)), .val (.int ((4 : Int32) + (4 : Int32))), .val (.ref b_q4), .val (.int ((0 : Int32) + (4 : Int32))), .val (.ref r_q7)] [(.int (1 : Int32))])) _
    exact retN X_q7 hx (t := .boolean) Bd.returns (by simp) (hb hby at_166) hr
  · show Q_law Z p1 p2 p3 h0 n0 _ T_q7.heap _
    exact ⟨rfl, N_q7⟩
set_option maxRecDepth 65536 in
set_option maxHeartbeats 40000000 in
theorem rm0_ff_ff (l : Launch) (Z : State) (a0 : Array Value) (hw : ∀ d ∈ tables_1, d.before a0 Z = true) (ws : List Jvm.Cond) (p1 : Int32) (p2 : Int32) (p3 : Int32) (h0 : Heap) (n0 : Nat) (Z0 : n0 ≤ h0.size) (hc_q1 : (p3 &&& (1 : Int32)) = (0 : Int32)) (hc_q2 : (p1 &&& (255 : Int32)) = (92 : Int32)) (hc_q3 : (p3 &&& (2 : Int32)) = (0 : Int32)) (hc_q4 : (p2 &&& (255 : Int32)) = (92 : Int32)) (hd_he_q5_hc_q7 : ¬ ((F5_0 (nar .byte ((F2_0 (((p1 &&& (255 : Int32)).toUInt32 >>> ((4 : Int32) &&& 31).toUInt32).toInt32)).toInt8.toInt32))) < (0 : Int32))) (hd_he_q5_hc_q8 : ¬ ((F5_0 (nar .byte ((F2_0 ((p1 &&& (255 : Int32)) &&& (15 : Int32))).toInt8.toInt32))) < (0 : Int32))) (hd_he_q9_hc_q7 : ¬ ((F5_0 (nar .byte ((F2_0 (((p2 &&& (255 : Int32)).toUInt32 >>> ((4 : Int32) &&& 31).toUInt32).toInt32)).toInt8.toInt32))) < (0 : Int32))) (hd_he_q9_hc_q8 : ¬ ((F5_0 (nar .byte ((F2_0 ((p2 &&& (255 : Int32)) &&& (15 : Int32))).toInt8.toInt32))) < (0 : Int32))) (hc_q11 : (nar .byte (nar .byte ((((F5_0 (nar .byte ((F2_0 (((p1 &&& (255 : Int32)).toUInt32 >>> ((4 : Int32) &&& 31).toUInt32).toInt32)).toInt8.toInt32))) <<< ((4 : Int32) &&& 31)) ||| (F5_0 (nar .byte ((F2_0 ((p1 &&& (255 : Int32)) &&& (15 : Int32))).toInt8.toInt32)))).toInt8.toInt32))) = ((p1 &&& (255 : Int32)).toInt8.toInt32)) (hc_q13 : (nar .byte (nar .byte ((((F5_0 (nar .byte ((F2_0 (((p2 &&& (255 : Int32)).toUInt32 >>> ((4 : Int32) &&& 31).toUInt32).toInt32)).toInt8.toInt32))) <<< ((4 : Int32) &&& 31)) ||| (F5_0 (nar .byte ((F2_0 ((p2 &&& (255 : Int32)) &&& (15 : Int32))).toInt8.toInt32)))).toInt8.toInt32))) = ((p2 &&& (255 : Int32)).toInt8.toInt32)) :
    MetFree l x (head1 (Jvm.Cond.code x code maxLocals ret :: ws) room_1) (fun a U => a = #[(.int p1), (.int p2), (.int p3)] ∧ Z.Warmed39 U.vm ∧ U.heap = h0) (fun _ _ _ _ _ => True) (fun _ U o U' => ∃ v L, o = .returned v ∧ Q_law Z p1 p2 p3 h0 n0 v U'.heap L ∧ FrameEnd U o U' L room_1.cells room_1.slots) := by
  refine MetFree.of_bodySF (plainFor_of_name pn_0) hisR ?_
  intro p e s m args below meth c s₁ Bd hml0 hP hK
  obtain ⟨rfl, hZ, hh⟩ := hP
  have hx := Bd.exec
  have hby := Bd.bytes
  have hml : c.maxLocals = 11 := hml0
  have hown : s.vm.findClass "com/example/presplit/presplit/escape/BinaryEscapeDecodePinLaw" = some m.cls := findClass_of_methodNamed Bd.named
  have hnm := (name_of_methodNamed Bd.named Bd.method).1
  have X0 : Stand p l e room_1 s m #[(.int p1), (.int p2), (.int p3)] below meth c s₁ [] 0 0 := Stand.of_body Bd
  have e0 : s₁.heap = h0 := by rw [← hh, Bd.state]; rfl
  have N0 := Fr.nil n0
  have pre0 : ∀ t, Steps p.tables e below (s₁.setTop (mkF m 0 #[.val (.int p1), .val (.int p2), .val (.int p3), .unset, .unset, .unset, .unset, .unset, .unset, .unset, .unset] [])) t → Steps p.tables e below (s₁.setTop (entryFrame m #[(.int p1), (.int p2), (.int p3)] maxLocals)) t := fun t k => castTop (ef_0 m p1 p2 p3) k
  have K0 : Keep h0 h0 [] := Keep.refl _ _
  obtain ⟨T_q5, h_q5, k_q5, X_q5, e_q5, E_q5, A_q5, EX_q5, st_q5⟩ := newPE X0 hx hZ (hw _ (List.mem_of_getElem? (i := 0) rfl)) e0 (g := (mkF m 101 #[.val (.int p1), .val (.int p2), .val (.int p3), .val (.int (p1 &&& (255 : Int32))), .val (.int (p2 &&& (255 : Int32))), .val (.int (1 : Int32)), .val (.int (1 : Int32)), .val (.int ((4 : Int32) + (4 : Int32))), .unset, .unset, .unset] [(.int (8 : Int32))])) rfl (hb hby at_101) rfl (by decide) (cap := 8) (by decide) (by decide) (by decide) (by decide) (ad := "[B") (by decide)
  obtain ⟨b_q5, g_q5⟩ : ∃ z, z = h0.size := ⟨_, rfl⟩
  rw [← g_q5] at A_q5 EX_q5 st_q5
  have ge_b_q5 : n0 ≤ b_q5 := Nat.le_trans (Nat.le_trans Z0 K0.1) (Nat.le_of_eq g_q5.symm)
  have sz_b_q5 : h0.size ≤ b_q5 := Nat.le_trans K0.1 (Nat.le_of_eq g_q5.symm)
  have K_q5 : Keep h0 h_q5 [] := K0.ext E_q5
  have V_b_q5 : Arv Z h_q5 b_q5 k_q5 .byte (8 : Int32) [(.int (0 : Int32)), (.int (0 : Int32)), (.int (0 : Int32)), (.int (0 : Int32)), (.int (0 : Int32)), (.int (0 : Int32)), (.int (0 : Int32)), (.int (0 : Int32))] (.int (0 : Int32)) := (Arv.new A_q5 (by decide)).pad (pad_rep [] (.int (0 : Int32)) 8)
  obtain ⟨_, _, ⟨T_q6, L_q6, k_q6, n_q6⟩, -, X_q6, ⟨Lc_q6, hQ_q6, l_q6, y_q6, z_q6⟩, st_q6⟩ := Jvm.LawKit.callS X_q5 hx (y := (⟨"com/example/presplit/presplit/escape/BinaryEscapeDecodePinLaw", "put", "([BIIZ)I"⟩ : MethodName)) hown (mvT hZ (hw _ (List.mem_of_getElem? (i := 1) rfl))) (mvT hZ (hw _ (List.mem_of_getElem? (i := 2) rfl))) (mvT hZ (hw _ (List.mem_of_getElem? (i := 3) rfl))) (mvT hZ (hw _ (List.mem_of_getElem? (i := 4) rfl))) (by decide) (backOf (W := 0) (rm1_8_0_1 l Z a0 hw [] b_q5 k_q5 (.int (0 : Int32)) (.int (0 : Int32)) (.int (0 : Int32)) (.int (0 : Int32)) (.int (0 : Int32)) (.int (0 : Int32)) (.int (0 : Int32)) (.int (0 : Int32)) (p1 &&& (255 : Int32)) h_q5 n0 (Nat.le_trans Z0 K_q5.1) V_b_q5 ge_b_q5) hZ (hw _ (List.mem_of_getElem? (i := 4) rfl)) (hw _ (List.mem_of_getElem? (i := 3) rfl)) (by decide) (by decide)) (g := (mkF m 111 #[.val (.int p1), .val (.int p2), .val (.int p3), .val (.int (p1 &&& (255 : Int32))), .val (.int (p2 &&& (255 : Int32))), .val (.int (1 : Int32)), .val (.int (1 : Int32)), .val (.int ((4 : Int32) + (4 : Int32))), .val (.ref b_q5), .unset, .unset] [(.int (1 : Int32)), (.int (p1 &&& (255 : Int32))), (.int (0 : Int32)), (.ref b_q5)])) rfl (by rw [hml]; rfl) (argsL := [(.ref b_q5), (.int (0 : Int32)), (.int (p1 &&& (255 : Int32))), (.int (1 : Int32))]) (rest := []) (lenOf pd___BIIZ_I rfl) rfl (by show 2 * 0 + _ ≤ _; exact Nat.le_of_eq rfl) (hb hby at_111) (fun _ _ => ⟨rfl, e_q5, (by decide : 1 + 0 ≤ _), (by decide : 8 + 0 ≤ _)⟩)
  dsimp only [Pt.U, Pt.locs, Pt.cells, Pt.slots] at X_q6 l_q6 y_q6 z_q6 st_q6 hQ_q6
  subst l_q6 y_q6 z_q6
  obtain ⟨rfl, Nq_q6, Kq_q6, Vq_q6⟩ := hQ_q6
  have N_q6 := Fr.app N0 Nq_q6
  have EX_q5__q6 := EX_q5.keep Kq_q6
  have K_q6 : Keep h0 T_q6.heap [] := K_q5.trans Kq_q6 (fun x hx => Or.inr (by cases List.mem_singleton.mp hx; exact sz_b_q5))
  obtain ⟨_, _, ⟨T_q7, L_q7, k_q7, n_q7⟩, -, X_q7, ⟨Lc_q7, hQ_q7, l_q7, y_q7, z_q7⟩, st_q7⟩ := Jvm.LawKit.callS X_q6 hx (y := (⟨"com/example/presplit/presplit/escape/BinaryEscapeDecodePinLaw", "put", "([BIIZ)I"⟩ : MethodName)) hown (mvT hZ (hw _ (List.mem_of_getElem? (i := 1) rfl))) (mvT hZ (hw _ (List.mem_of_getElem? (i := 2) rfl))) (mvT hZ (hw _ (List.mem_of_getElem? (i := 3) rfl))) (mvT hZ (hw _ (List.mem_of_getElem? (i := 4) rfl))) (by decide) (backOf (W := 0) (rm1_8_4_1 l Z a0 hw [] b_q5 k_q5 (.int (nar .byte (92 : Int32))) (.int (nar .byte (120 : Int32))) (.int (nar .byte ((F2_0 (((p1 &&& (255 : Int32)).toUInt32 >>> ((4 : Int32) &&& 31).toUInt32).toInt32)).toInt8.toInt32))) (.int (nar .byte ((F2_0 ((p1 &&& (255 : Int32)) &&& (15 : Int32))).toInt8.toInt32))) (.int (0 : Int32)) (.int (0 : Int32)) (.int (0 : Int32)) (.int (0 : Int32)) (p2 &&& (255 : Int32)) T_q6.heap n0 (Nat.le_trans Z0 K_q6.1) Vq_q6 ge_b_q5) hZ (hw _ (List.mem_of_getElem? (i := 4) rfl)) (hw _ (List.mem_of_getElem? (i := 3) rfl)) (by decide) (by decide)) (g := (mkF m 124 #[.val (.int p1), .val (.int p2), .val (.int p3), .val (.int (p1 &&& (255 : Int32))), .val (.int (p2 &&& (255 : Int32))), .val (.int (1 : Int32)), .val (.int (1 : Int32)), .val (.int ((4 : Int32) + (4 : Int32))), .val (.ref b_q5), .val (.int ((0 : Int32) + (4 : Int32))), .unset] [(.int (1 : Int32)), (.int (p2 &&& (255 : Int32))), (.int ((0 : Int32) + (4 : Int32))), (.ref b_q5)])) rfl (by rw [hml]; rfl) (argsL := [(.ref b_q5), (.int ((0 : Int32) + (4 : Int32))), (.int (p2 &&& (255 : Int32))), (.int (1 : Int32))]) (rest := []) (lenOf pd___BIIZ_I rfl) rfl (by show 2 * 0 + _ ≤ _; exact Nat.le_of_eq rfl) (hb hby at_124) (fun _ _ => ⟨rfl, rfl, (by decide : 1 + 0 ≤ _), (by decide : 8 + 0 ≤ _)⟩)
  dsimp only [Pt.U, Pt.locs, Pt.cells, Pt.slots] at X_q7 l_q7 y_q7 z_q7 st_q7 hQ_q7
  subst l_q7 y_q7 z_q7
  obtain ⟨rfl, Nq_q7, Kq_q7, Vq_q7⟩ := hQ_q7
  have N_q7 := Fr.app N_q6 Nq_q7
  have EX_q5__q7 := EX_q5__q6.keep Kq_q7
  have K_q7 : Keep h0 T_q7.heap [] := K_q6.trans Kq_q7 (fun x hx => Or.inr (by cases List.mem_singleton.mp hx; exact sz_b_q5))
  have VD_q8 : Arv Z T_q7.heap b_q5 k_q5 .byte (8 : Int32) [(.int (92 : Int32)), (.int (120 : Int32)), (.int (nar .byte ((F2_0 (((p1 &&& (255 : Int32)).toUInt32 >>> ((4 : Int32) &&& 31).toUInt32).toInt32)).toInt8.toInt32))), (.int (nar .byte ((F2_0 ((p1 &&& (255 : Int32)) &&& (15 : Int32))).toInt8.toInt32))), (.int (92 : Int32)), (.int (120 : Int32)), (.int (nar .byte ((F2_0 (((p2 &&& (255 : Int32)).toUInt32 >>> ((4 : Int32) &&& 31).toUInt32).toInt32)).toInt8.toInt32))), (.int (nar .byte ((F2_0 ((p2 &&& (255 : Int32)) &&& (15 : Int32))).toInt8.toInt32)))] (.int (0 : Int32)) := Vq_q7
  obtain ⟨_, _, ⟨T_q8, L_q8, k_q8, n_q8⟩, -, X_q8, ⟨Lc_q8, hQ_q8, l_q8, y_q8, z_q8⟩, st_q8⟩ := Jvm.LawKit.callS X_q7 hx (y := (⟨"com/example/presplit/presplit/escape/BinaryEscape", "decode", "([B)[B"⟩ : MethodName)) hown (mvT hZ (hw _ (List.mem_of_getElem? (i := 8) rfl))) (mvT hZ (hw _ (List.mem_of_getElem? (i := 9) rfl))) (mvT hZ (hw _ (List.mem_of_getElem? (i := 10) rfl))) (mvT hZ (hw _ (List.mem_of_getElem? (i := 11) rfl))) (by decide) (backOf (W := 0) (rm3_11 l Z a0 hw [] b_q5 k_q5 (nar .byte ((F2_0 (((p1 &&& (255 : Int32)).toUInt32 >>> ((4 : Int32) &&& 31).toUInt32).toInt32)).toInt8.toInt32)) (nar .byte ((F2_0 ((p1 &&& (255 : Int32)) &&& (15 : Int32))).toInt8.toInt32)) (nar .byte ((F2_0 (((p2 &&& (255 : Int32)).toUInt32 >>> ((4 : Int32) &&& 31).toUInt32).toInt32)).toInt8.toInt32)) (nar .byte ((F2_0 ((p2 &&& (255 : Int32)) &&& (15 : Int32))).toInt8.toInt32)) T_q7.heap n0 (Nat.le_trans Z0 K_q7.1) VD_q8 hd_he_q5_hc_q7 hd_he_q5_hc_q8 hd_he_q9_hc_q7 hd_he_q9_hc_q8) hZ (hw _ (List.mem_of_getElem? (i := 11) rfl)) (hw _ (List.mem_of_getElem? (i := 10) rfl)) (by decide) (by decide)) (g := (mkF m 130 #[.val (.int p1), .val (.int p2), .val (.int p3), .val (.int (p1 &&& (255 : Int32))), .val (.int (p2 &&& (255 : Int32))), .val (.int (1 : Int32)), .val (.int (1 : Int32)), .val (.int ((4 : Int32) + (4 : Int32))), .val (.ref b_q5), .val (.int ((0 : Int32) + (4 : Int32))), .unset] [(.ref b_q5)])) rfl (by rw [hml]; rfl) (argsL := [(.ref b_q5)]) (rest := []) (lenOf pd___B__B rfl) rfl (by show 2 * 0 + _ ≤ _; exact Nat.le_of_eq rfl) (hb hby at_130) (fun _ _ => ⟨rfl, rfl, (by decide : 1 + 2 ≤ _), (by decide : 8 + 10 ≤ _)⟩)
  dsimp only [Pt.U, Pt.locs, Pt.cells, Pt.slots] at X_q8 l_q8 y_q8 z_q8 st_q8 hQ_q8
  subst l_q8 y_q8 z_q8
  obtain ⟨r_q8, kr_q8, rfl, Nq_q8, Kq_q8, Vr_q8⟩ := hQ_q8
  have N_q8 := Fr.app N_q7 Nq_q8
  have EX_q5__q8 := EX_q5__q7.keep Kq_q8
  have Vq_q7__q8 := Vq_q7.keep Kq_q8 List.not_mem_nil
  have K_q8 : Keep h0 T_q8.heap [] := K_q7.trans Kq_q8 (fun x hx => nomatch hx)
  obtain ⟨cl_q9, Ar_q9, qk_q9, S_q9, Nn_q9, H_q9, G_q9⟩ := id Vr_q8
  obtain ⟨cl_q10, Ar_q10, qk_q10, S_q10, Nn_q10, H_q10, G_q10⟩ := id Vr_q8
  have hin_q10 : ¬ ((0 : Int32) < 0 ∨ cl_q10.slots.size ≤ ((0 : Int32)).toNatClampNeg) := inb_of S_q10 ⟨by decide, by decide⟩
  have hat_q10 : cl_q10.slots[((0 : Int32)).toNatClampNeg]? = some (.int (nar .byte (nar .byte ((((F5_0 (nar .byte ((F2_0 (((p1 &&& (255 : Int32)).toUInt32 >>> ((4 : Int32) &&& 31).toUInt32).toInt32)).toInt8.toInt32))) <<< ((4 : Int32) &&& 31)) ||| (F5_0 (nar .byte ((F2_0 ((p1 &&& (255 : Int32)) &&& (15 : Int32))).toInt8.toInt32)))).toInt8.toInt32)))) := H_q10 0 (Nat.lt_of_not_le fun q => hin_q10 (Or.inr q))
  obtain ⟨cl_q12, Ar_q12, qk_q12, S_q12, Nn_q12, H_q12, G_q12⟩ := id Vr_q8
  have hin_q12 : ¬ ((1 : Int32) < 0 ∨ cl_q12.slots.size ≤ ((1 : Int32)).toNatClampNeg) := inb_of S_q12 ⟨by decide, by decide⟩
  have hat_q12 : cl_q12.slots[((1 : Int32)).toNatClampNeg]? = some (.int (nar .byte (nar .byte ((((F5_0 (nar .byte ((F2_0 (((p2 &&& (255 : Int32)).toUInt32 >>> ((4 : Int32) &&& 31).toUInt32).toInt32)).toInt8.toInt32))) <<< ((4 : Int32) &&& 31)) ||| (F5_0 (nar .byte ((F2_0 ((p2 &&& (255 : Int32)) &&& (15 : Int32))).toInt8.toInt32)))).toInt8.toInt32)))) := H_q12 1 (Nat.lt_of_not_le fun q => hin_q12 (Or.inr q))
  obtain ⟨fs, hr, hrun, hended, hW, hsame⟩ := X_q8.leave (v := some (.int (1 : Int32))) (fun h => by rw [Bd.returns] at h; cases h) Bd.notSynchronized
  refine ⟨_, _, pre0 _ ?_, hrun, hended, _, _, rfl, ?_, ⟨_, rfl⟩, hW, hsame.mono (by decide) (by decide)⟩
  · show Steps p.tables e below (s₁.setTop (mkF m 0 #[.val (.int p1), .val (.int p2), .val (.int p3), .unset, .unset, .unset, .unset, .unset, .unset, .unset, .unset] [])) _
    refine XS.iloadN X0.here hx rfl (hb hby at_0) rfl ?_
    show Steps p.tables e below (s₁.setTop (mkF m 1 #[.val (.int p1), .val (.int p2), .val (.int p3), .unset, .unset, .unset, .unset, .unset, .unset, .unset, .unset] [(.int p1)])) _
    refine XS.sipush X0.here hx rfl (hb hby at_1) ?_
    show Steps p.tables e below (s₁.setTop (mkF m 4 #[.val (.int p1), .val (.int p2), .val (.int p3), .unset, .unset, .unset, .unset, .unset, .unset, .unset, .unset] [(.int (255 : Int32)), (.int p1)])) _
    refine XS.iand X0.here hx rfl (hb hby at_4) rfl ?_
    show Steps p.tables e below (s₁.setTop (mkF m 5 #[.val (.int p1), .val (.int p2), .val (.int p3), .unset, .unset, .unset, .unset, .unset, .unset, .unset, .unset] [(.int (p1 &&& (255 : Int32)))])) _
    refine XS.istoreN X0.here hx rfl (hb hby at_5) rfl (l' := #[.val (.int p1), .val (.int p2), .val (.int p3), .val (.int (p1 &&& (255 : Int32))), .unset, .unset, .unset, .unset, .unset, .unset, .unset]) rfl ?_
    show Steps p.tables e below (s₁.setTop (mkF m 6 #[.val (.int p1), .val (.int p2), .val (.int p3), .val (.int (p1 &&& (255 : Int32))), .unset, .unset, .unset, .unset, .unset, .unset, .unset] [])) _
    refine XS.iloadN X0.here hx rfl (hb hby at_6) rfl ?_
    show Steps p.tables e below (s₁.setTop (mkF m 7 #[.val (.int p1), .val (.int p2), .val (.int p3), .val (.int (p1 &&& (255 : Int32))), .unset, .unset, .unset, .unset, .unset, .unset, .unset] [(.int p2)])) _
    refine XS.sipush X0.here hx rfl (hb hby at_7) ?_
    show Steps p.tables e below (s₁.setTop (mkF m 10 #[.val (.int p1), .val (.int p2), .val (.int p3), .val (.int (p1 &&& (255 : Int32))), .unset, .unset, .unset, .unset, .unset, .unset, .unset] [(.int (255 : Int32)), (.int p2)])) _
    refine XS.iand X0.here hx rfl (hb hby at_10) rfl ?_
    show Steps p.tables e below (s₁.setTop (mkF m 11 #[.val (.int p1), .val (.int p2), .val (.int p3), .val (.int (p1 &&& (255 : Int32))), .unset, .unset, .unset, .unset, .unset, .unset, .unset] [(.int (p2 &&& (255 : Int32)))])) _
    refine XS.istore X0.here hx rfl (hb hby at_11) rfl (l' := #[.val (.int p1), .val (.int p2), .val (.int p3), .val (.int (p1 &&& (255 : Int32))), .val (.int (p2 &&& (255 : Int32))), .unset, .unset, .unset, .unset, .unset, .unset]) rfl ?_
    show Steps p.tables e below (s₁.setTop (mkF m 13 #[.val (.int p1), .val (.int p2), .val (.int p3), .val (.int (p1 &&& (255 : Int32))), .val (.int (p2 &&& (255 : Int32))), .unset, .unset, .unset, .unset, .unset, .unset] [])) _
    refine XS.iloadN X0.here hx rfl (hb hby at_13) rfl ?_
    show Steps p.tables e below (s₁.setTop (mkF m 14 #[.val (.int p1), .val (.int p2), .val (.int p3), .val (.int (p1 &&& (255 : Int32))), .val (.int (p2 &&& (255 : Int32))), .unset, .unset, .unset, .unset, .unset, .unset] [(.int p3)])) _
    refine XS.iconst X0.here hx rfl (hb hby at_14) ?_
    show Steps p.tables e below (s₁.setTop (mkF m 15 #[.val (.int p1), .val (.int p2), .val (.int p3), .val (.int (p1 &&& (255 : Int32))), .val (.int (p2 &&& (255 : Int32))), .unset, .unset, .unset, .unset, .unset, .unset] [(.int (1 : Int32)), (.int p3)])) _
    refine XS.iand X0.here hx rfl (hb hby at_15) rfl ?_
    show Steps p.tables e below (s₁.setTop (mkF m 16 #[.val (.int p1), .val (.int p2), .val (.int p3), .val (.int (p1 &&& (255 : Int32))), .val (.int (p2 &&& (255 : Int32))), .unset, .unset, .unset, .unset, .unset, .unset] [(.int (p3 &&& (1 : Int32)))])) _
    refine XS.ifNo X0.here hx rfl (hb hby at_16) rfl ((if0 _ _).trans (teq hc_q1).2) ?_
    show Steps p.tables e below (s₁.setTop (mkF m 19 #[.val (.int p1), .val (.int p2), .val (.int p3), .val (.int (p1 &&& (255 : Int32))), .val (.int (p2 &&& (255 : Int32))), .unset, .unset, .unset, .unset, .unset, .unset] [])) _
    refine XS.iloadN X0.here hx rfl (hb hby at_19) rfl ?_
    show Steps p.tables e below (s₁.setTop (mkF m 20 #[.val (.int p1), .val (.int p2), .val (.int p3), .val (.int (p1 &&& (255 : Int32))), .val (.int (p2 &&& (255 : Int32))), .unset, .unset, .unset, .unset, .unset, .unset] [(.int (p1 &&& (255 : Int32)))])) _
    refine XS.bipush X0.here hx rfl (hb hby at_20) ?_
    show Steps p.tables e below (s₁.setTop (mkF m 22 #[.val (.int p1), .val (.int p2), .val (.int p3), .val (.int (p1 &&& (255 : Int32))), .val (.int (p2 &&& (255 : Int32))), .unset, .unset, .unset, .unset, .unset, .unset] [(.int (92 : Int32)), (.int (p1 &&& (255 : Int32)))])) _
    refine XS.icmpNo X0.here hx rfl (hb hby at_22) rfl (teq hc_q2).2 ?_
    show Steps p.tables e below (s₁.setTop (mkF m 25 #[.val (.int p1), .val (.int p2), .val (.int p3), .val (.int (p1 &&& (255 : Int32))), .val (.int (p2 &&& (255 : Int32))), .unset, .unset, .unset, .unset, .unset, .unset] [])) _
    refine XS.iconst X0.here hx rfl (hb hby at_25) ?_
    show Steps p.tables e below (s₁.setTop (mkF m 26 #[.val (.int p1), .val (.int p2), .val (.int p3), .val (.int (p1 &&& (255 : Int32))), .val (.int (p2 &&& (255 : Int32))), .unset, .unset, .unset, .unset, .unset, .unset] [(.int (1 : Int32))])) _
    refine XS.goto X0.here hx rfl (pc0 := 26) (pc' := 30) rfl (hb hby at_26) (by decide) (by decide) ?_
    show Steps p.tables e below (s₁.setTop (mkF m 30 #[.val (.int p1), .val (.int p2), .val (.int p3), .val (.int (p1 &&& (255 : Int32))), .val (.int (p2 &&& (255 : Int32))), .unset, .unset, .unset, .unset, .unset, .unset] [(.int (1 : Int32))])) _
    refine XS.istore X0.here hx rfl (hb hby at_30) rfl (l' := #[.val (.int p1), .val (.int p2), .val (.int p3), .val (.int (p1 &&& (255 : Int32))), .val (.int (p2 &&& (255 : Int32))), .val (.int (1 : Int32)), .unset, .unset, .unset, .unset, .unset]) rfl ?_
    show Steps p.tables e below (s₁.setTop (mkF m 32 #[.val (.int p1), .val (.int p2), .val (.int p3), .val (.int (p1 &&& (255 : Int32))), .val (.int (p2 &&& (255 : Int32))), .val (.int (1 : Int32)), .unset, .unset, .unset, .unset, .unset] [])) _
    refine XS.iloadN X0.here hx rfl (hb hby at_32) rfl ?_
    show Steps p.tables e below (s₁.setTop (mkF m 33 #[.val (.int p1), .val (.int p2), .val (.int p3), .val (.int (p1 &&& (255 : Int32))), .val (.int (p2 &&& (255 : Int32))), .val (.int (1 : Int32)), .unset, .unset, .unset, .unset, .unset] [(.int p3)])) _
    refine XS.iconst X0.here hx rfl (hb hby at_33) ?_
    show Steps p.tables e below (s₁.setTop (mkF m 34 #[.val (.int p1), .val (.int p2), .val (.int p3), .val (.int (p1 &&& (255 : Int32))), .val (.int (p2 &&& (255 : Int32))), .val (.int (1 : Int32)), .unset, .unset, .unset, .unset, .unset] [(.int (2 : Int32)), (.int p3)])) _
    refine XS.iand X0.here hx rfl (hb hby at_34) rfl ?_
    show Steps p.tables e below (s₁.setTop (mkF m 35 #[.val (.int p1), .val (.int p2), .val (.int p3), .val (.int (p1 &&& (255 : Int32))), .val (.int (p2 &&& (255 : Int32))), .val (.int (1 : Int32)), .unset, .unset, .unset, .unset, .unset] [(.int (p3 &&& (2 : Int32)))])) _
    refine XS.ifNo X0.here hx rfl (hb hby at_35) rfl ((if0 _ _).trans (teq hc_q3).2) ?_
    show Steps p.tables e below (s₁.setTop (mkF m 38 #[.val (.int p1), .val (.int p2), .val (.int p3), .val (.int (p1 &&& (255 : Int32))), .val (.int (p2 &&& (255 : Int32))), .val (.int (1 : Int32)), .unset, .unset, .unset, .unset, .unset] [])) _
    refine XS.iload X0.here hx rfl (hb hby at_38) rfl ?_
    show Steps p.tables e below (s₁.setTop (mkF m 40 #[.val (.int p1), .val (.int p2), .val (.int p3), .val (.int (p1 &&& (255 : Int32))), .val (.int (p2 &&& (255 : Int32))), .val (.int (1 : Int32)), .unset, .unset, .unset, .unset, .unset] [(.int (p2 &&& (255 : Int32)))])) _
    refine XS.bipush X0.here hx rfl (hb hby at_40) ?_
    show Steps p.tables e below (s₁.setTop (mkF m 42 #[.val (.int p1), .val (.int p2), .val (.int p3), .val (.int (p1 &&& (255 : Int32))), .val (.int (p2 &&& (255 : Int32))), .val (.int (1 : Int32)), .unset, .unset, .unset, .unset, .unset] [(.int (92 : Int32)), (.int (p2 &&& (255 : Int32)))])) _
    refine XS.icmpNo X0.here hx rfl (hb hby at_42) rfl (teq hc_q4).2 ?_
    show Steps p.tables e below (s₁.setTop (mkF m 45 #[.val (.int p1), .val (.int p2), .val (.int p3), .val (.int (p1 &&& (255 : Int32))), .val (.int (p2 &&& (255 : Int32))), .val (.int (1 : Int32)), .unset, .unset, .unset, .unset, .unset] [])) _
    refine XS.iconst X0.here hx rfl (hb hby at_45) ?_
    show Steps p.tables e below (s₁.setTop (mkF m 46 #[.val (.int p1), .val (.int p2), .val (.int p3), .val (.int (p1 &&& (255 : Int32))), .val (.int (p2 &&& (255 : Int32))), .val (.int (1 : Int32)), .unset, .unset, .unset, .unset, .unset] [(.int (1 : Int32))])) _
    refine XS.goto X0.here hx rfl (pc0 := 46) (pc' := 50) rfl (hb hby at_46) (by decide) (by decide) ?_
    show Steps p.tables e below (s₁.setTop (mkF m 50 #[.val (.int p1), .val (.int p2), .val (.int p3), .val (.int (p1 &&& (255 : Int32))), .val (.int (p2 &&& (255 : Int32))), .val (.int (1 : Int32)), .unset, .unset, .unset, .unset, .unset] [(.int (1 : Int32))])) _
    refine XS.istore X0.here hx rfl (hb hby at_50) rfl (l' := #[.val (.int p1), .val (.int p2), .val (.int p3), .val (.int (p1 &&& (255 : Int32))), .val (.int (p2 &&& (255 : Int32))), .val (.int (1 : Int32)), .val (.int (1 : Int32)), .unset, .unset, .unset, .unset]) rfl ?_
    show Steps p.tables e below (s₁.setTop (mkF m 52 #[.val (.int p1), .val (.int p2), .val (.int p3), .val (.int (p1 &&& (255 : Int32))), .val (.int (p2 &&& (255 : Int32))), .val (.int (1 : Int32)), .val (.int (1 : Int32)), .unset, .unset, .unset, .unset] [])) _
    refine XS.iload X0.here hx rfl (hb hby at_52) rfl ?_
    show Steps p.tables e below (s₁.setTop (mkF m 54 #[.val (.int p1), .val (.int p2), .val (.int p3), .val (.int (p1 &&& (255 : Int32))), .val (.int (p2 &&& (255 : Int32))), .val (.int (1 : Int32)), .val (.int (1 : Int32)), .unset, .unset, .unset, .unset] [(.int (1 : Int32))])) _
    refine XS.ifNo X0.here hx rfl (hb hby at_54) rfl ((if0 _ _).trans (feq (by decide : ¬ ((1 : Int32) = (0 : Int32)))).1) ?_
    show Steps p.tables e below (s₁.setTop (mkF m 57 #[.val (.int p1), .val (.int p2), .val (.int p3), .val (.int (p1 &&& (255 : Int32))), .val (.int (p2 &&& (255 : Int32))), .val (.int (1 : Int32)), .val (.int (1 : Int32)), .unset, .unset, .unset, .unset] [])) _
    refine XS.iconst X0.here hx rfl (hb hby at_57) ?_
    show Steps p.tables e below (s₁.setTop (mkF m 58 #[.val (.int p1), .val (.int p2), .val (.int p3), .val (.int (p1 &&& (255 : Int32))), .val (.int (p2 &&& (255 : Int32))), .val (.int (1 : Int32)), .val (.int (1 : Int32)), .unset, .unset, .unset, .unset] [(.int (4 : Int32))])) _
    refine XS.goto X0.here hx rfl (pc0 := 58) (pc' := 62) rfl (hb hby at_58) (by decide) (by decide) ?_
    show Steps p.tables e below (s₁.setTop (mkF m 62 #[.val (.int p1), .val (.int p2), .val (.int p3), .val (.int (p1 &&& (255 : Int32))), .val (.int (p2 &&& (255 : Int32))), .val (.int (1 : Int32)), .val (.int (1 : Int32)), .unset, .unset, .unset, .unset] [(.int (4 : Int32))])) _
    refine XS.iload X0.here hx rfl (hb hby at_62) rfl ?_
    show Steps p.tables e below (s₁.setTop (mkF m 64 #[.val (.int p1), .val (.int p2), .val (.int p3), .val (.int (p1 &&& (255 : Int32))), .val (.int (p2 &&& (255 : Int32))), .val (.int (1 : Int32)), .val (.int (1 : Int32)), .unset, .unset, .unset, .unset] [(.int (1 : Int32)), (.int (4 : Int32))])) _
    refine XS.ifNo X0.here hx rfl (hb hby at_64) rfl ((if0 _ _).trans (feq (by decide : ¬ ((1 : Int32) = (0 : Int32)))).1) ?_
    show Steps p.tables e below (s₁.setTop (mkF m 67 #[.val (.int p1), .val (.int p2), .val (.int p3), .val (.int (p1 &&& (255 : Int32))), .val (.int (p2 &&& (255 : Int32))), .val (.int (1 : Int32)), .val (.int (1 : Int32)), .unset, .unset, .unset, .unset] [(.int (4 : Int32))])) _
    refine XS.iconst X0.here hx rfl (hb hby at_67) ?_
    show Steps p.tables e below (s₁.setTop (mkF m 68 #[.val (.int p1), .val (.int p2), .val (.int p3), .val (.int (p1 &&& (255 : Int32))), .val (.int (p2 &&& (255 : Int32))), .val (.int (1 : Int32)), .val (.int (1 : Int32)), .unset, .unset, .unset, .unset] [(.int (4 : Int32)), (.int (4 : Int32))])) _
    refine XS.goto X0.here hx rfl (pc0 := 68) (pc' := 72) rfl (hb hby at_68) (by decide) (by decide) ?_
    show Steps p.tables e below (s₁.setTop (mkF m 72 #[.val (.int p1), .val (.int p2), .val (.int p3), .val (.int (p1 &&& (255 : Int32))), .val (.int (p2 &&& (255 : Int32))), .val (.int (1 : Int32)), .val (.int (1 : Int32)), .unset, .unset, .unset, .unset] [(.int (4 : Int32)), (.int (4 : Int32))])) _
    refine XS.iadd X0.here hx rfl (hb hby at_72) rfl ?_
    show Steps p.tables e below (s₁.setTop (mkF m 73 #[.val (.int p1), .val (.int p2), .val (.int p3), .val (.int (p1 &&& (255 : Int32))), .val (.int (p2 &&& (255 : Int32))), .val (.int (1 : Int32)), .val (.int (1 : Int32)), .unset, .unset, .unset, .unset] [(.int ((4 : Int32) + (4 : Int32)))])) _
    refine XS.istore X0.here hx rfl (hb hby at_73) rfl (l' := #[.val (.int p1), .val (.int p2), .val (.int p3), .val (.int (p1 &&& (255 : Int32))), .val (.int (p2 &&& (255 : Int32))), .val (.int (1 : Int32)), .val (.int (1 : Int32)), .val (.int ((4 : Int32) + (4 : Int32))), .unset, .unset, .unset]) rfl ?_
    show Steps p.tables e below (s₁.setTop (mkF m 75 #[.val (.int p1), .val (.int p2), .val (.int p3), .val (.int (p1 &&& (255 : Int32))), .val (.int (p2 &&& (255 : Int32))), .val (.int (1 : Int32)), .val (.int (1 : Int32)), .val (.int ((4 : Int32) + (4 : Int32))), .unset, .unset, .unset] [])) _
    refine XS.iload X0.here hx rfl (hb hby at_75) rfl ?_
    show Steps p.tables e below (s₁.setTop (mkF m 77 #[.val (.int p1), .val (.int p2), .val (.int p3), .val (.int (p1 &&& (255 : Int32))), .val (.int (p2 &&& (255 : Int32))), .val (.int (1 : Int32)), .val (.int (1 : Int32)), .val (.int ((4 : Int32) + (4 : Int32))), .unset, .unset, .unset] [(.int ((4 : Int32) + (4 : Int32)))])) _
    refine XS.iconst X0.here hx rfl (hb hby at_77) ?_
    show Steps p.tables e below (s₁.setTop (mkF m 78 #[.val (.int p1), .val (.int p2), .val (.int p3), .val (.int (p1 &&& (255 : Int32))), .val (.int (p2 &&& (255 : Int32))), .val (.int (1 : Int32)), .val (.int (1 : Int32)), .val (.int ((4 : Int32) + (4 : Int32))), .unset, .unset, .unset] [(.int (2 : Int32)), (.int ((4 : Int32) + (4 : Int32)))])) _
    refine XS.icmpYes X0.here hx rfl (pc0 := 78) (pc' := 87) rfl (hb hby at_78) rfl (feq (by decide : ¬ (((4 : Int32) + (4 : Int32)) = (2 : Int32)))).2 (by decide) (by decide) ?_
    show Steps p.tables e below (s₁.setTop (mkF m 87 #[.val (.int p1), .val (.int p2), .val (.int p3), .val (.int (p1 &&& (255 : Int32))), .val (.int (p2 &&& (255 : Int32))), .val (.int (1 : Int32)), .val (.int (1 : Int32)), .val (.int ((4 : Int32) + (4 : Int32))), .unset, .unset, .unset] [])) _
    refine XS.iload X0.here hx rfl (hb hby at_87) rfl ?_
    show Steps p.tables e below (s₁.setTop (mkF m 89 #[.val (.int p1), .val (.int p2), .val (.int p3), .val (.int (p1 &&& (255 : Int32))), .val (.int (p2 &&& (255 : Int32))), .val (.int (1 : Int32)), .val (.int (1 : Int32)), .val (.int ((4 : Int32) + (4 : Int32))), .unset, .unset, .unset] [(.int ((4 : Int32) + (4 : Int32)))])) _
    refine XS.iconst X0.here hx rfl (hb hby at_89) ?_
    show Steps p.tables e below (s₁.setTop (mkF m 90 #[.val (.int p1), .val (.int p2), .val (.int p3), .val (.int (p1 &&& (255 : Int32))), .val (.int (p2 &&& (255 : Int32))), .val (.int (1 : Int32)), .val (.int (1 : Int32)), .val (.int ((4 : Int32) + (4 : Int32))), .unset, .unset, .unset] [(.int (5 : Int32)), (.int ((4 : Int32) + (4 : Int32)))])) _
    refine XS.icmpYes X0.here hx rfl (pc0 := 90) (pc' := 99) rfl (hb hby at_90) rfl (feq (by decide : ¬ (((4 : Int32) + (4 : Int32)) = (5 : Int32)))).2 (by decide) (by decide) ?_
    show Steps p.tables e below (s₁.setTop (mkF m 99 #[.val (.int p1), .val (.int p2), .val (.int p3), .val (.int (p1 &&& (255 : Int32))), .val (.int (p2 &&& (255 : Int32))), .val (.int (1 : Int32)), .val (.int (1 : Int32)), .val (.int ((4 : Int32) + (4 : Int32))), .unset, .unset, .unset] [])) _
    refine XS.bipush X0.here hx rfl (hb hby at_99) ?_
    show Steps p.tables e below (s₁.setTop (mkF m 101 #[.val (.int p1), .val (.int p2), .val (.int p3), .val (.int (p1 &&& (255 : Int32))), .val (.int (p2 &&& (255 : Int32))), .val (.int (1 : Int32)), .val (.int (1 : Int32)), .val (.int ((4 : Int32) + (4 : Int32))), .unset, .unset, .unset] [(.int (8 : Int32))])) _
    refine st_q5 _ ?_
    show Steps p.tables e below (T_q5.setTop (mkF m 103 #[.val (.int p1), .val (.int p2), .val (.int p3), .val (.int (p1 &&& (255 : Int32))), .val (.int (p2 &&& (255 : Int32))), .val (.int (1 : Int32)), .val (.int (1 : Int32)), .val (.int ((4 : Int32) + (4 : Int32))), .unset, .unset, .unset] [(.ref b_q5)])) _
    refine XS.astore X_q5.here hx rfl (hb hby at_103) rfl rfl (l' := #[.val (.int p1), .val (.int p2), .val (.int p3), .val (.int (p1 &&& (255 : Int32))), .val (.int (p2 &&& (255 : Int32))), .val (.int (1 : Int32)), .val (.int (1 : Int32)), .val (.int ((4 : Int32) + (4 : Int32))), .val (.ref b_q5), .unset, .unset]) rfl ?_
    show Steps p.tables e below (T_q5.setTop (mkF m 105 #[.val (.int p1), .val (.int p2), .val (.int p3), .val (.int (p1 &&& (255 : Int32))), .val (.int (p2 &&& (255 : Int32))), .val (.int (1 : Int32)), .val (.int (1 : Int32)), .val (.int ((4 : Int32) + (4 : Int32))), .val (.ref b_q5), .unset, .unset] [])) _
    refine XS.aload X_q5.here hx rfl (hb hby at_105) rfl rfl ?_
    show Steps p.tables e below (T_q5.setTop (mkF m 107 #[.val (.int p1), .val (.int p2), .val (.int p3), .val (.int (p1 &&& (255 : Int32))), .val (.int (p2 &&& (255 : Int32))), .val (.int (1 : Int32)), .val (.int (1 : Int32)), .val (.int ((4 : Int32) + (4 : Int32))), .val (.ref b_q5), .unset, .unset] [(.ref b_q5)])) _
    refine XS.iconst X_q5.here hx rfl (hb hby at_107) ?_
    show Steps p.tables e below (T_q5.setTop (mkF m 108 #[.val (.int p1), .val (.int p2), .val (.int p3), .val (.int (p1 &&& (255 : Int32))), .val (.int (p2 &&& (255 : Int32))), .val (.int (1 : Int32)), .val (.int (1 : Int32)), .val (.int ((4 : Int32) + (4 : Int32))), .val (.ref b_q5), .unset, .unset] [(.int (0 : Int32)), (.ref b_q5)])) _
    refine XS.iloadN X_q5.here hx rfl (hb hby at_108) rfl ?_
    show Steps p.tables e below (T_q5.setTop (mkF m 109 #[.val (.int p1), .val (.int p2), .val (.int p3), .val (.int (p1 &&& (255 : Int32))), .val (.int (p2 &&& (255 : Int32))), .val (.int (1 : Int32)), .val (.int (1 : Int32)), .val (.int ((4 : Int32) + (4 : Int32))), .val (.ref b_q5), .unset, .unset] [(.int (p1 &&& (255 : Int32))), (.int (0 : Int32)), (.ref b_q5)])) _
    refine XS.iload X_q5.here hx rfl (hb hby at_109) rfl ?_
    show Steps p.tables e below (T_q5.setTop (mkF m 111 #[.val (.int p1), .val (.int p2), .val (.int p3), .val (.int (p1 &&& (255 : Int32))), .val (.int (p2 &&& (255 : Int32))), .val (.int (1 : Int32)), .val (.int (1 : Int32)), .val (.int ((4 : Int32) + (4 : Int32))), .val (.ref b_q5), .unset, .unset] [(.int (1 : Int32)), (.int (p1 &&& (255 : Int32))), (.int (0 : Int32)), (.ref b_q5)])) _
    refine st_q6 _ ?_
    show Steps p.tables e below (T_q6.setTop (mkF m 114 #[.val (.int p1), .val (.int p2), .val (.int p3), .val (.int (p1 &&& (255 : Int32))), .val (.int (p2 &&& (255 : Int32))), .val (.int (1 : Int32)), .val (.int (1 : Int32)), .val (.int ((4 : Int32) + (4 : Int32))), .val (.ref b_q5), .unset, .unset] [(.int ((0 : Int32) + (4 : Int32)))])) _
    refine XS.istore X_q6.here hx rfl (hb hby at_114) rfl (l' := #[.val (.int p1), .val (.int p2), .val (.int p3), .val (.int (p1 &&& (255 : Int32))), .val (.int (p2 &&& (255 : Int32))), .val (.int (1 : Int32)), .val (.int (1 : Int32)), .val (.int ((4 : Int32) + (4 : Int32))), .val (.ref b_q5), .val (.int ((0 : Int32) + (4 : Int32))), .unset]) rfl ?_
    show Steps p.tables e below (T_q6.setTop (mkF m 116 #[.val (.int p1), .val (.int p2), .val (.int p3), .val (.int (p1 &&& (255 : Int32))), .val (.int (p2 &&& (255 : Int32))), .val (.int (1 : Int32)), .val (.int (1 : Int32)), .val (.int ((4 : Int32) + (4 : Int32))), .val (.ref b_q5), .val (.int ((0 : Int32) + (4 : Int32))), .unset] [])) _
    refine XS.aload X_q6.here hx rfl (hb hby at_116) rfl rfl ?_
    show Steps p.tables e below (T_q6.setTop (mkF m 118 #[.val (.int p1), .val (.int p2), .val (.int p3), .val (.int (p1 &&& (255 : Int32))), .val (.int (p2 &&& (255 : Int32))), .val (.int (1 : Int32)), .val (.int (1 : Int32)), .val (.int ((4 : Int32) + (4 : Int32))), .val (.ref b_q5), .val (.int ((0 : Int32) + (4 : Int32))), .unset] [(.ref b_q5)])) _
    refine XS.iload X_q6.here hx rfl (hb hby at_118) rfl ?_
    show Steps p.tables e below (T_q6.setTop (mkF m 120 #[.val (.int p1), .val (.int p2), .val (.int p3), .val (.int (p1 &&& (255 : Int32))), .val (.int (p2 &&& (255 : Int32))), .val (.int (1 : Int32)), .val (.int (1 : Int32)), .val (.int ((4 : Int32) + (4 : Int32))), .val (.ref b_q5), .val (.int ((0 : Int32) + (4 : Int32))), .unset] [(.int ((0 : Int32) + (4 : Int32))), (.ref b_q5)])) _
    refine XS.iload X_q6.here hx rfl (hb hby at_120) rfl ?_
    show Steps p.tables e below (T_q6.setTop (mkF m 122 #[.val (.int p1), .val (.int p2), .val (.int p3), .val (.int (p1 &&& (255 : Int32))), .val (.int (p2 &&& (255 : Int32))), .val (.int (1 : Int32)), .val (.int (1 : Int32)), .val (.int ((4 : Int32) + (4 : Int32))), .val (.ref b_q5), .val (.int ((0 : Int32) + (4 : Int32))), .unset] [(.int (p2 &&& (255 : Int32))), (.int ((0 : Int32) + (4 : Int32))), (.ref b_q5)])) _
    refine XS.iload X_q6.here hx rfl (hb hby at_122) rfl ?_
    show Steps p.tables e below (T_q6.setTop (mkF m 124 #[.val (.int p1), .val (.int p2), .val (.int p3), .val (.int (p1 &&& (255 : Int32))), .val (.int (p2 &&& (255 : Int32))), .val (.int (1 : Int32)), .val (.int (1 : Int32)), .val (.int ((4 : Int32) + (4 : Int32))), .val (.ref b_q5), .val (.int ((0 : Int32) + (4 : Int32))), .unset] [(.int (1 : Int32)), (.int (p2 &&& (255 : Int32))), (.int ((0 : Int32) + (4 : Int32))), (.ref b_q5)])) _
    refine st_q7 _ ?_
    show Steps p.tables e below (T_q7.setTop (mkF m 127 #[.val (.int p1), .val (.int p2), .val (.int p3), .val (.int (p1 &&& (255 : Int32))), .val (.int (p2 &&& (255 : Int32))), .val (.int (1 : Int32)), .val (.int (1 : Int32)), .val (.int ((4 : Int32) + (4 : Int32))), .val (.ref b_q5), .val (.int ((0 : Int32) + (4 : Int32))), .unset] [(.int ((4 : Int32) + (4 : Int32)))])) _
    refine XS.pop X_q7.here hx rfl (hb hby at_127) rfl rfl ?_
    show Steps p.tables e below (T_q7.setTop (mkF m 128 #[.val (.int p1), .val (.int p2), .val (.int p3), .val (.int (p1 &&& (255 : Int32))), .val (.int (p2 &&& (255 : Int32))), .val (.int (1 : Int32)), .val (.int (1 : Int32)), .val (.int ((4 : Int32) + (4 : Int32))), .val (.ref b_q5), .val (.int ((0 : Int32) + (4 : Int32))), .unset] [])) _
    refine XS.aload X_q7.here hx rfl (hb hby at_128) rfl rfl ?_
    show Steps p.tables e below (T_q7.setTop (mkF m 130 #[.val (.int p1), .val (.int p2), .val (.int p3), .val (.int (p1 &&& (255 : Int32))), .val (.int (p2 &&& (255 : Int32))), .val (.int (1 : Int32)), .val (.int (1 : Int32)), .val (.int ((4 : Int32) + (4 : Int32))), .val (.ref b_q5), .val (.int ((0 : Int32) + (4 : Int32))), .unset] [(.ref b_q5)])) _
    refine st_q8 _ ?_
    show Steps p.tables e below (T_q8.setTop (mkF m 133 #[.val (.int p1), .val (.int p2), .val (.int p3), .val (.int (p1 &&& (255 : Int32))), .val (.int (p2 &&& (255 : Int32))), .val (.int (1 : Int32)), .val (.int (1 : Int32)), .val (.int ((4 : Int32) + (4 : Int32))), .val (.ref b_q5), .val (.int ((0 : Int32) + (4 : Int32))), .unset] [(.ref r_q8)])) _
    refine XS.astore X_q8.here hx rfl (hb hby at_133) rfl rfl (l' := #[.val (.int p1), .val (.int p2), .val (.int p3), .val (.int (p1 &&& (255 : Int32))), .val (.int (p2 &&& (255 : Int32))), .val (.int (1 : Int32)), .val (.int (1 : Int32)), .val (.int ((4 : Int32) + (4 : Int32))), .val (.ref b_q5), .val (.int ((0 : Int32) + (4 : Int32))), .val (.ref r_q8)]) rfl ?_
    show Steps p.tables e below (T_q8.setTop (mkF m 135 #[.val (.int p1), .val (.int p2), .val (.int p3), .val (.int (p1 &&& (255 : Int32))), .val (.int (p2 &&& (255 : Int32))), .val (.int (1 : Int32)), .val (.int (1 : Int32)), .val (.int ((4 : Int32) + (4 : Int32))), .val (.ref b_q5), .val (.int ((0 : Int32) + (4 : Int32))), .val (.ref r_q8)] [])) _
    refine XS.aload X_q8.here hx rfl (hb hby at_135) rfl rfl ?_
    show Steps p.tables e below (T_q8.setTop (mkF m 137 #[.val (.int p1), .val (.int p2), .val (.int p3), .val (.int (p1 &&& (255 : Int32))), .val (.int (p2 &&& (255 : Int32))), .val (.int (1 : Int32)), .val (.int (1 : Int32)), .val (.int ((4 : Int32) + (4 : Int32))), .val (.ref b_q5), .val (.int ((0 : Int32) + (4 : Int32))), .val (.ref r_q8)] [(.ref r_q8)])) _
    refine X_q8.arraylength hx (by exact Ar_q9.1) (State.isArrayOf_alike hZ.alike Ar_q9.2.1) (g := (mkF m 137 #[.val (.int p1), .val (.int p2), .val (.int p3), .val (.int (p1 &&& (255 : Int32))), .val (.int (p2 &&& (255 : Int32))), .val (.int (1 : Int32)), .val (.int (1 : Int32)), .val (.int ((4 : Int32) + (4 : Int32))), .val (.ref b_q5), .val (.int ((0 : Int32) + (4 : Int32))), .val (.ref r_q8)] [(.ref r_q8)])) rfl rfl (hb hby at_137) _ ?_
    rw [len_of S_q9 Nn_q9]
    show Steps p.tables e below (T_q8.setTop (mkF m 138 #[.val (.int p1), .val (.int p2), .val (.int p3), .val (.int (p1 &&& (255 : Int32))), .val (.int (p2 &&& (255 : Int32))), .val (.int (1 : Int32)), .val (.int (1 : Int32)), .val (.int ((4 : Int32) + (4 : Int32))), .val (.ref b_q5), .val (.int ((0 : Int32) + (4 : Int32))), .val (.ref r_q8)] [(.int (2 : Int32))])) _
    refine XS.iconst X_q8.here hx rfl (hb hby at_138) ?_
    show Steps p.tables e below (T_q8.setTop (mkF m 139 #[.val (.int p1), .val (.int p2), .val (.int p3), .val (.int (p1 &&& (255 : Int32))), .val (.int (p2 &&& (255 : Int32))), .val (.int (1 : Int32)), .val (.int (1 : Int32)), .val (.int ((4 : Int32) + (4 : Int32))), .val (.ref b_q5), .val (.int ((0 : Int32) + (4 : Int32))), .val (.ref r_q8)] [(.int (2 : Int32)), (.int (2 : Int32))])) _
    refine XS.icmpNo X_q8.here hx rfl (hb hby at_139) rfl (teq (by decide : (2 : Int32) = (2 : Int32))).2 ?_
    show Steps p.tables e below (T_q8.setTop (mkF m 142 #[.val (.int p1), .val (.int p2), .val (.int p3), .val (.int (p1 &&& (255 : Int32))), .val (.int (p2 &&& (255 : Int32))), .val (.int (1 : Int32)), .val (.int (1 : Int32)), .val (.int ((4 : Int32) + (4 : Int32))), .val (.ref b_q5), .val (.int ((0 : Int32) + (4 : Int32))), .val (.ref r_q8)] [])) _
    refine XS.aload X_q8.here hx rfl (hb hby at_142) rfl rfl ?_
    show Steps p.tables e below (T_q8.setTop (mkF m 144 #[.val (.int p1), .val (.int p2), .val (.int p3), .val (.int (p1 &&& (255 : Int32))), .val (.int (p2 &&& (255 : Int32))), .val (.int (1 : Int32)), .val (.int (1 : Int32)), .val (.int ((4 : Int32) + (4 : Int32))), .val (.ref b_q5), .val (.int ((0 : Int32) + (4 : Int32))), .val (.ref r_q8)] [(.ref r_q8)])) _
    refine XS.iconst X_q8.here hx rfl (hb hby at_144) ?_
    show Steps p.tables e below (T_q8.setTop (mkF m 145 #[.val (.int p1), .val (.int p2), .val (.int p3), .val (.int (p1 &&& (255 : Int32))), .val (.int (p2 &&& (255 : Int32))), .val (.int (1 : Int32)), .val (.int (1 : Int32)), .val (.int ((4 : Int32) + (4 : Int32))), .val (.ref b_q5), .val (.int ((0 : Int32) + (4 : Int32))), .val (.ref r_q8)] [(.int (0 : Int32)), (.ref r_q8)])) _
    refine X_q8.baloadBytes hx (j := (0 : Int32)) (v := (.int (nar .byte (nar .byte ((((F5_0 (nar .byte ((F2_0 (((p1 &&& (255 : Int32)).toUInt32 >>> ((4 : Int32) &&& 31).toUInt32).toInt32)).toInt8.toInt32))) <<< ((4 : Int32) &&& 31)) ||| (F5_0 (nar .byte ((F2_0 ((p1 &&& (255 : Int32)) &&& (15 : Int32))).toInt8.toInt32)))).toInt8.toInt32))))) (by exact Ar_q10.1) (State.isArrayOf_alike hZ.alike Ar_q10.2.1) Ar_q10.2.2 hin_q10 hat_q10 (g := (mkF m 145 #[.val (.int p1), .val (.int p2), .val (.int p3), .val (.int (p1 &&& (255 : Int32))), .val (.int (p2 &&& (255 : Int32))), .val (.int (1 : Int32)), .val (.int (1 : Int32)), .val (.int ((4 : Int32) + (4 : Int32))), .val (.ref b_q5), .val (.int ((0 : Int32) + (4 : Int32))), .val (.ref r_q8)] [(.int (0 : Int32)), (.ref r_q8)])) rfl rfl (hb hby at_145) _ ?_
    show Steps p.tables e below (T_q8.setTop (mkF m 146 #[.val (.int p1), .val (.int p2), .val (.int p3), .val (.int (p1 &&& (255 : Int32))), .val (.int (p2 &&& (255 : Int32))), .val (.int (1 : Int32)), .val (.int (1 : Int32)), .val (.int ((4 : Int32) + (4 : Int32))), .val (.ref b_q5), .val (.int ((0 : Int32) + (4 : Int32))), .val (.ref r_q8)] [(.int (nar .byte (nar .byte ((((F5_0 (nar .byte ((F2_0 (((p1 &&& (255 : Int32)).toUInt32 >>> ((4 : Int32) &&& 31).toUInt32).toInt32)).toInt8.toInt32))) <<< ((4 : Int32) &&& 31)) ||| (F5_0 (nar .byte ((F2_0 ((p1 &&& (255 : Int32)) &&& (15 : Int32))).toInt8.toInt32)))).toInt8.toInt32))))])) _
    refine XS.iloadN X_q8.here hx rfl (hb hby at_146) rfl ?_
    show Steps p.tables e below (T_q8.setTop (mkF m 147 #[.val (.int p1), .val (.int p2), .val (.int p3), .val (.int (p1 &&& (255 : Int32))), .val (.int (p2 &&& (255 : Int32))), .val (.int (1 : Int32)), .val (.int (1 : Int32)), .val (.int ((4 : Int32) + (4 : Int32))), .val (.ref b_q5), .val (.int ((0 : Int32) + (4 : Int32))), .val (.ref r_q8)] [(.int (p1 &&& (255 : Int32))), (.int (nar .byte (nar .byte ((((F5_0 (nar .byte ((F2_0 (((p1 &&& (255 : Int32)).toUInt32 >>> ((4 : Int32) &&& 31).toUInt32).toInt32)).toInt8.toInt32))) <<< ((4 : Int32) &&& 31)) ||| (F5_0 (nar .byte ((F2_0 ((p1 &&& (255 : Int32)) &&& (15 : Int32))).toInt8.toInt32)))).toInt8.toInt32))))])) _
    refine XS.i2b X_q8.here hx rfl (hb hby at_147) rfl ?_
    show Steps p.tables e below (T_q8.setTop (mkF m 148 #[.val (.int p1), .val (.int p2), .val (.int p3), .val (.int (p1 &&& (255 : Int32))), .val (.int (p2 &&& (255 : Int32))), .val (.int (1 : Int32)), .val (.int (1 : Int32)), .val (.int ((4 : Int32) + (4 : Int32))), .val (.ref b_q5), .val (.int ((0 : Int32) + (4 : Int32))), .val (.ref r_q8)] [(.int ((p1 &&& (255 : Int32)).toInt8.toInt32)), (.int (nar .byte (nar .byte ((((F5_0 (nar .byte ((F2_0 (((p1 &&& (255 : Int32)).toUInt32 >>> ((4 : Int32) &&& 31).toUInt32).toInt32)).toInt8.toInt32))) <<< ((4 : Int32) &&& 31)) ||| (F5_0 (nar .byte ((F2_0 ((p1 &&& (255 : Int32)) &&& (15 : Int32))).toInt8.toInt32)))).toInt8.toInt32))))])) _
    refine XS.icmpNo X_q8.here hx rfl (hb hby at_148) rfl (teq hc_q11).2 ?_
    show Steps p.tables e below (T_q8.setTop (mkF m 151 #[.val (.int p1), .val (.int p2), .val (.int p3), .val (.int (p1 &&& (255 : Int32))), .val (.int (p2 &&& (255 : Int32))), .val (.int (1 : Int32)), .val (.int (1 : Int32)), .val (.int ((4 : Int32) + (4 : Int32))), .val (.ref b_q5), .val (.int ((0 : Int32) + (4 : Int32))), .val (.ref r_q8)] [])) _
    refine XS.aload X_q8.here hx rfl (hb hby at_151) rfl rfl ?_
    show Steps p.tables e below (T_q8.setTop (mkF m 153 #[.val (.int p1), .val (.int p2), .val (.int p3), .val (.int (p1 &&& (255 : Int32))), .val (.int (p2 &&& (255 : Int32))), .val (.int (1 : Int32)), .val (.int (1 : Int32)), .val (.int ((4 : Int32) + (4 : Int32))), .val (.ref b_q5), .val (.int ((0 : Int32) + (4 : Int32))), .val (.ref r_q8)] [(.ref r_q8)])) _
    refine XS.iconst X_q8.here hx rfl (hb hby at_153) ?_
    show Steps p.tables e below (T_q8.setTop (mkF m 154 #[.val (.int p1), .val (.int p2), .val (.int p3), .val (.int (p1 &&& (255 : Int32))), .val (.int (p2 &&& (255 : Int32))), .val (.int (1 : Int32)), .val (.int (1 : Int32)), .val (.int ((4 : Int32) + (4 : Int32))), .val (.ref b_q5), .val (.int ((0 : Int32) + (4 : Int32))), .val (.ref r_q8)] [(.int (1 : Int32)), (.ref r_q8)])) _
    refine X_q8.baloadBytes hx (j := (1 : Int32)) (v := (.int (nar .byte (nar .byte ((((F5_0 (nar .byte ((F2_0 (((p2 &&& (255 : Int32)).toUInt32 >>> ((4 : Int32) &&& 31).toUInt32).toInt32)).toInt8.toInt32))) <<< ((4 : Int32) &&& 31)) ||| (F5_0 (nar .byte ((F2_0 ((p2 &&& (255 : Int32)) &&& (15 : Int32))).toInt8.toInt32)))).toInt8.toInt32))))) (by exact Ar_q12.1) (State.isArrayOf_alike hZ.alike Ar_q12.2.1) Ar_q12.2.2 hin_q12 hat_q12 (g := (mkF m 154 #[.val (.int p1), .val (.int p2), .val (.int p3), .val (.int (p1 &&& (255 : Int32))), .val (.int (p2 &&& (255 : Int32))), .val (.int (1 : Int32)), .val (.int (1 : Int32)), .val (.int ((4 : Int32) + (4 : Int32))), .val (.ref b_q5), .val (.int ((0 : Int32) + (4 : Int32))), .val (.ref r_q8)] [(.int (1 : Int32)), (.ref r_q8)])) rfl rfl (hb hby at_154) _ ?_
    show Steps p.tables e below (T_q8.setTop (mkF m 155 #[.val (.int p1), .val (.int p2), .val (.int p3), .val (.int (p1 &&& (255 : Int32))), .val (.int (p2 &&& (255 : Int32))), .val (.int (1 : Int32)), .val (.int (1 : Int32)), .val (.int ((4 : Int32) + (4 : Int32))), .val (.ref b_q5), .val (.int ((0 : Int32) + (4 : Int32))), .val (.ref r_q8)] [(.int (nar .byte (nar .byte ((((F5_0 (nar .byte ((F2_0 (((p2 &&& (255 : Int32)).toUInt32 >>> ((4 : Int32) &&& 31).toUInt32).toInt32)).toInt8.toInt32))) <<< ((4 : Int32) &&& 31)) ||| (F5_0 (nar .byte ((F2_0 ((p2 &&& (255 : Int32)) &&& (15 : Int32))).toInt8.toInt32)))).toInt8.toInt32))))])) _
    refine XS.iload X_q8.here hx rfl (hb hby at_155) rfl ?_
    show Steps p.tables e below (T_q8.setTop (mkF m 157 #[.val (.int p1), .val (.int p2), .val (.int p3), .val (.int (p1 &&& (255 : Int32))), .val (.int (p2 &&& (255 : Int32))), .val (.int (1 : Int32)), .val (.int (1 : Int32)), .val (.int ((4 : Int32) + (4 : Int32))), .val (.ref b_q5), .val (.int ((0 : Int32) + (4 : Int32))), .val (.ref r_q8)] [(.int (p2 &&& (255 : Int32))), (.int (nar .byte (nar .byte ((((F5_0 (nar .byte ((F2_0 (((p2 &&& (255 : Int32)).toUInt32 >>> ((4 : Int32) &&& 31).toUInt32).toInt32)).toInt8.toInt32))) <<< ((4 : Int32) &&& 31)) ||| (F5_0 (nar .byte ((F2_0 ((p2 &&& (255 : Int32)) &&& (15 : Int32))).toInt8.toInt32)))).toInt8.toInt32))))])) _
    refine XS.i2b X_q8.here hx rfl (hb hby at_157) rfl ?_
    show Steps p.tables e below (T_q8.setTop (mkF m 158 #[.val (.int p1), .val (.int p2), .val (.int p3), .val (.int (p1 &&& (255 : Int32))), .val (.int (p2 &&& (255 : Int32))), .val (.int (1 : Int32)), .val (.int (1 : Int32)), .val (.int ((4 : Int32) + (4 : Int32))), .val (.ref b_q5), .val (.int ((0 : Int32) + (4 : Int32))), .val (.ref r_q8)] [(.int ((p2 &&& (255 : Int32)).toInt8.toInt32)), (.int (nar .byte (nar .byte ((((F5_0 (nar .byte ((F2_0 (((p2 &&& (255 : Int32)).toUInt32 >>> ((4 : Int32) &&& 31).toUInt32).toInt32)).toInt8.toInt32))) <<< ((4 : Int32) &&& 31)) ||| (F5_0 (nar .byte ((F2_0 ((p2 &&& (255 : Int32)) &&& (15 : Int32))).toInt8.toInt32)))).toInt8.toInt32))))])) _
    refine XS.icmpNo X_q8.here hx rfl (hb hby at_158) rfl (teq hc_q13).2 ?_
    show Steps p.tables e below (T_q8.setTop (mkF m 161 #[.val (.int p1), .val (.int p2), .val (.int p3), .val (.int (p1 &&& (255 : Int32))), .val (.int (p2 &&& (255 : Int32))), .val (.int (1 : Int32)), .val (.int (1 : Int32)), .val (.int ((4 : Int32) + (4 : Int32))), .val (.ref b_q5), .val (.int ((0 : Int32) + (4 : Int32))), .val (.ref r_q8)] [])) _
    refine XS.iconst X_q8.here hx rfl (hb hby at_161) ?_
    show Steps p.tables e below (T_q8.setTop (mkF m 162 #[.val (.int p1), .val (.int p2), .val (.int p3), .val (.int (p1 &&& (255 : Int32))), .val (.int (p2 &&& (255 : Int32))), .val (.int (1 : Int32)), .val (.int (1 : Int32)), .val (.int ((4 : Int32) + (4 : Int32))), .val (.ref b_q5), .val (.int ((0 : Int32) + (4 : Int32))), .val (.ref r_q8)] [(.int (1 : Int32))])) _
    refine XS.goto X_q8.here hx rfl (pc0 := 162) (pc' := 166) rfl (hb hby at_162) (by decide) (by decide) ?_
    show Steps p.tables e below (T_q8.setTop (mkF m 166 #[.val (.int p1), .val (.int p2), .val (.int p3), .val (.int (p1 &&& (255 : Int32))), .val (.int (p2 &&& (255 : Int32))), .val (.int (1 : Int32)), .val (.int (1 : Int32)), .val (.int ((4 : Int32) + (4 : Int32))), .val (.ref b_q5), .val (.int ((0 : Int32) + (4 : Int32))), .val (.ref r_q8)] [(.int (1 : Int32))])) _
    exact retN X_q8 hx (t := .boolean) Bd.returns (by simp) (hb hby at_166) hr
  · show Q_law Z p1 p2 p3 h0 n0 _ T_q8.heap _
    exact ⟨rfl, N_q8⟩
set_option maxRecDepth 65536 in
set_option maxHeartbeats 40000000 in
theorem rm0_ff_ft (l : Launch) (Z : State) (a0 : Array Value) (hw : ∀ d ∈ tables_1, d.before a0 Z = true) (ws : List Jvm.Cond) (p1 : Int32) (p2 : Int32) (p3 : Int32) (h0 : Heap) (n0 : Nat) (Z0 : n0 ≤ h0.size) (hc_q1 : (p3 &&& (1 : Int32)) = (0 : Int32)) (hc_q2 : (p1 &&& (255 : Int32)) = (92 : Int32)) (hc_q3 : (p3 &&& (2 : Int32)) = (0 : Int32)) (hc_q4 : ¬ ((p2 &&& (255 : Int32)) = (92 : Int32))) (hd_he_q5_hc_q7 : ¬ ((F5_0 (nar .byte ((F2_0 (((p1 &&& (255 : Int32)).toUInt32 >>> ((4 : Int32) &&& 31).toUInt32).toInt32)).toInt8.toInt32))) < (0 : Int32))) (hd_he_q5_hc_q8 : ¬ ((F5_0 (nar .byte ((F2_0 ((p1 &&& (255 : Int32)) &&& (15 : Int32))).toInt8.toInt32))) < (0 : Int32))) (hd_hc_q9 : ¬ ((nar .byte ((p2 &&& (255 : Int32)).toInt8.toInt32)) = (92 : Int32))) (hc_q11 : (nar .byte (nar .byte ((((F5_0 (nar .byte ((F2_0 (((p1 &&& (255 : Int32)).toUInt32 >>> ((4 : Int32) &&& 31).toUInt32).toInt32)).toInt8.toInt32))) <<< ((4 : Int32) &&& 31)) ||| (F5_0 (nar .byte ((F2_0 ((p1 &&& (255 : Int32)) &&& (15 : Int32))).toInt8.toInt32)))).toInt8.toInt32))) = ((p1 &&& (255 : Int32)).toInt8.toInt32)) (hc_q13 : (nar .byte (nar .byte ((p2 &&& (255 : Int32)).toInt8.toInt32))) = ((p2 &&& (255 : Int32)).toInt8.toInt32)) :
    MetFree l x (head1 (Jvm.Cond.code x code maxLocals ret :: ws) room_1) (fun a U => a = #[(.int p1), (.int p2), (.int p3)] ∧ Z.Warmed39 U.vm ∧ U.heap = h0) (fun _ _ _ _ _ => True) (fun _ U o U' => ∃ v L, o = .returned v ∧ Q_law Z p1 p2 p3 h0 n0 v U'.heap L ∧ FrameEnd U o U' L room_1.cells room_1.slots) := by
  refine MetFree.of_bodySF (plainFor_of_name pn_0) hisR ?_
  intro p e s m args below meth c s₁ Bd hml0 hP hK
  obtain ⟨rfl, hZ, hh⟩ := hP
  have hx := Bd.exec
  have hby := Bd.bytes
  have hml : c.maxLocals = 11 := hml0
  have hown : s.vm.findClass "com/example/presplit/presplit/escape/BinaryEscapeDecodePinLaw" = some m.cls := findClass_of_methodNamed Bd.named
  have hnm := (name_of_methodNamed Bd.named Bd.method).1
  have X0 : Stand p l e room_1 s m #[(.int p1), (.int p2), (.int p3)] below meth c s₁ [] 0 0 := Stand.of_body Bd
  have e0 : s₁.heap = h0 := by rw [← hh, Bd.state]; rfl
  have N0 := Fr.nil n0
  have pre0 : ∀ t, Steps p.tables e below (s₁.setTop (mkF m 0 #[.val (.int p1), .val (.int p2), .val (.int p3), .unset, .unset, .unset, .unset, .unset, .unset, .unset, .unset] [])) t → Steps p.tables e below (s₁.setTop (entryFrame m #[(.int p1), (.int p2), (.int p3)] maxLocals)) t := fun t k => castTop (ef_0 m p1 p2 p3) k
  have K0 : Keep h0 h0 [] := Keep.refl _ _
  obtain ⟨T_q5, h_q5, k_q5, X_q5, e_q5, E_q5, A_q5, EX_q5, st_q5⟩ := newPE X0 hx hZ (hw _ (List.mem_of_getElem? (i := 0) rfl)) e0 (g := (mkF m 94 #[.val (.int p1), .val (.int p2), .val (.int p3), .val (.int (p1 &&& (255 : Int32))), .val (.int (p2 &&& (255 : Int32))), .val (.int (1 : Int32)), .val (.int (0 : Int32)), .val (.int ((4 : Int32) + (1 : Int32))), .unset, .unset, .unset] [(.int (5 : Int32))])) rfl (hb hby at_94) rfl (by decide) (cap := 5) (by decide) (by decide) (by decide) (by decide) (ad := "[B") (by decide)
  obtain ⟨b_q5, g_q5⟩ : ∃ z, z = h0.size := ⟨_, rfl⟩
  rw [← g_q5] at A_q5 EX_q5 st_q5
  have ge_b_q5 : n0 ≤ b_q5 := Nat.le_trans (Nat.le_trans Z0 K0.1) (Nat.le_of_eq g_q5.symm)
  have sz_b_q5 : h0.size ≤ b_q5 := Nat.le_trans K0.1 (Nat.le_of_eq g_q5.symm)
  have K_q5 : Keep h0 h_q5 [] := K0.ext E_q5
  have V_b_q5 : Arv Z h_q5 b_q5 k_q5 .byte (5 : Int32) [(.int (0 : Int32)), (.int (0 : Int32)), (.int (0 : Int32)), (.int (0 : Int32)), (.int (0 : Int32))] (.int (0 : Int32)) := (Arv.new A_q5 (by decide)).pad (pad_rep [] (.int (0 : Int32)) 5)
  obtain ⟨_, _, ⟨T_q6, L_q6, k_q6, n_q6⟩, -, X_q6, ⟨Lc_q6, hQ_q6, l_q6, y_q6, z_q6⟩, st_q6⟩ := Jvm.LawKit.callS X_q5 hx (y := (⟨"com/example/presplit/presplit/escape/BinaryEscapeDecodePinLaw", "put", "([BIIZ)I"⟩ : MethodName)) hown (mvT hZ (hw _ (List.mem_of_getElem? (i := 1) rfl))) (mvT hZ (hw _ (List.mem_of_getElem? (i := 2) rfl))) (mvT hZ (hw _ (List.mem_of_getElem? (i := 3) rfl))) (mvT hZ (hw _ (List.mem_of_getElem? (i := 4) rfl))) (by decide) (backOf (W := 0) (rm1_5_0_1 l Z a0 hw [] b_q5 k_q5 (.int (0 : Int32)) (.int (0 : Int32)) (.int (0 : Int32)) (.int (0 : Int32)) (.int (0 : Int32)) (p1 &&& (255 : Int32)) h_q5 n0 (Nat.le_trans Z0 K_q5.1) V_b_q5 ge_b_q5) hZ (hw _ (List.mem_of_getElem? (i := 4) rfl)) (hw _ (List.mem_of_getElem? (i := 3) rfl)) (by decide) (by decide)) (g := (mkF m 111 #[.val (.int p1), .val (.int p2), .val (.int p3), .val (.int (p1 &&& (255 : Int32))), .val (.int (p2 &&& (255 : Int32))), .val (.int (1 : Int32)), .val (.int (0 : Int32)), .val (.int ((4 : Int32) + (1 : Int32))), .val (.ref b_q5), .unset, .unset] [(.int (1 : Int32)), (.int (p1 &&& (255 : Int32))), (.int (0 : Int32)), (.ref b_q5)])) rfl (by rw [hml]; rfl) (argsL := [(.ref b_q5), (.int (0 : Int32)), (.int (p1 &&& (255 : Int32))), (.int (1 : Int32))]) (rest := []) (lenOf pd___BIIZ_I rfl) rfl (by show 2 * 0 + _ ≤ _; exact Nat.le_of_eq rfl) (hb hby at_111) (fun _ _ => ⟨rfl, e_q5, (by decide : 1 + 0 ≤ _), (by decide : 5 + 0 ≤ _)⟩)
  dsimp only [Pt.U, Pt.locs, Pt.cells, Pt.slots] at X_q6 l_q6 y_q6 z_q6 st_q6 hQ_q6
  subst l_q6 y_q6 z_q6
  obtain ⟨rfl, Nq_q6, Kq_q6, Vq_q6⟩ := hQ_q6
  have N_q6 := Fr.app N0 Nq_q6
  have EX_q5__q6 := EX_q5.keep Kq_q6
  have K_q6 : Keep h0 T_q6.heap [] := K_q5.trans Kq_q6 (fun x hx => Or.inr (by cases List.mem_singleton.mp hx; exact sz_b_q5))
  obtain ⟨_, _, ⟨T_q7, L_q7, k_q7, n_q7⟩, -, X_q7, ⟨Lc_q7, hQ_q7, l_q7, y_q7, z_q7⟩, st_q7⟩ := Jvm.LawKit.callS X_q6 hx (y := (⟨"com/example/presplit/presplit/escape/BinaryEscapeDecodePinLaw", "put", "([BIIZ)I"⟩ : MethodName)) hown (mvT hZ (hw _ (List.mem_of_getElem? (i := 1) rfl))) (mvT hZ (hw _ (List.mem_of_getElem? (i := 2) rfl))) (mvT hZ (hw _ (List.mem_of_getElem? (i := 3) rfl))) (mvT hZ (hw _ (List.mem_of_getElem? (i := 4) rfl))) (by decide) (backOf (W := 0) (rm1_5_4_0 l Z a0 hw [] b_q5 k_q5 (.int (nar .byte (92 : Int32))) (.int (nar .byte (120 : Int32))) (.int (nar .byte ((F2_0 (((p1 &&& (255 : Int32)).toUInt32 >>> ((4 : Int32) &&& 31).toUInt32).toInt32)).toInt8.toInt32))) (.int (nar .byte ((F2_0 ((p1 &&& (255 : Int32)) &&& (15 : Int32))).toInt8.toInt32))) (.int (0 : Int32)) (p2 &&& (255 : Int32)) T_q6.heap n0 (Nat.le_trans Z0 K_q6.1) Vq_q6 ge_b_q5) hZ (hw _ (List.mem_of_getElem? (i := 4) rfl)) (hw _ (List.mem_of_getElem? (i := 3) rfl)) (by decide) (by decide)) (g := (mkF m 124 #[.val (.int p1), .val (.int p2), .val (.int p3), .val (.int (p1 &&& (255 : Int32))), .val (.int (p2 &&& (255 : Int32))), .val (.int (1 : Int32)), .val (.int (0 : Int32)), .val (.int ((4 : Int32) + (1 : Int32))), .val (.ref b_q5), .val (.int ((0 : Int32) + (4 : Int32))), .unset] [(.int (0 : Int32)), (.int (p2 &&& (255 : Int32))), (.int ((0 : Int32) + (4 : Int32))), (.ref b_q5)])) rfl (by rw [hml]; rfl) (argsL := [(.ref b_q5), (.int ((0 : Int32) + (4 : Int32))), (.int (p2 &&& (255 : Int32))), (.int (0 : Int32))]) (rest := []) (lenOf pd___BIIZ_I rfl) rfl (by show 2 * 0 + _ ≤ _; exact Nat.le_of_eq rfl) (hb hby at_124) (fun _ _ => ⟨rfl, rfl, (by decide : 1 + 0 ≤ _), (by decide : 5 + 0 ≤ _)⟩)
  dsimp only [Pt.U, Pt.locs, Pt.cells, Pt.slots] at X_q7 l_q7 y_q7 z_q7 st_q7 hQ_q7
  subst l_q7 y_q7 z_q7
  obtain ⟨rfl, Nq_q7, Kq_q7, Vq_q7⟩ := hQ_q7
  have N_q7 := Fr.app N_q6 Nq_q7
  have EX_q5__q7 := EX_q5__q6.keep Kq_q7
  have K_q7 : Keep h0 T_q7.heap [] := K_q6.trans Kq_q7 (fun x hx => Or.inr (by cases List.mem_singleton.mp hx; exact sz_b_q5))
  have VD_q8 : Arv Z T_q7.heap b_q5 k_q5 .byte (5 : Int32) [(.int (92 : Int32)), (.int (120 : Int32)), (.int (nar .byte ((F2_0 (((p1 &&& (255 : Int32)).toUInt32 >>> ((4 : Int32) &&& 31).toUInt32).toInt32)).toInt8.toInt32))), (.int (nar .byte ((F2_0 ((p1 &&& (255 : Int32)) &&& (15 : Int32))).toInt8.toInt32))), (.int (nar .byte ((p2 &&& (255 : Int32)).toInt8.toInt32)))] (.int (0 : Int32)) := Vq_q7
  obtain ⟨_, _, ⟨T_q8, L_q8, k_q8, n_q8⟩, -, X_q8, ⟨Lc_q8, hQ_q8, l_q8, y_q8, z_q8⟩, st_q8⟩ := Jvm.LawKit.callS X_q7 hx (y := (⟨"com/example/presplit/presplit/escape/BinaryEscape", "decode", "([B)[B"⟩ : MethodName)) hown (mvT hZ (hw _ (List.mem_of_getElem? (i := 8) rfl))) (mvT hZ (hw _ (List.mem_of_getElem? (i := 9) rfl))) (mvT hZ (hw _ (List.mem_of_getElem? (i := 10) rfl))) (mvT hZ (hw _ (List.mem_of_getElem? (i := 11) rfl))) (by decide) (backOf (W := 0) (rm3_10 l Z a0 hw [] b_q5 k_q5 (nar .byte ((F2_0 (((p1 &&& (255 : Int32)).toUInt32 >>> ((4 : Int32) &&& 31).toUInt32).toInt32)).toInt8.toInt32)) (nar .byte ((F2_0 ((p1 &&& (255 : Int32)) &&& (15 : Int32))).toInt8.toInt32)) (nar .byte ((p2 &&& (255 : Int32)).toInt8.toInt32)) T_q7.heap n0 (Nat.le_trans Z0 K_q7.1) VD_q8 hd_he_q5_hc_q7 hd_he_q5_hc_q8 hd_hc_q9) hZ (hw _ (List.mem_of_getElem? (i := 11) rfl)) (hw _ (List.mem_of_getElem? (i := 10) rfl)) (by decide) (by decide)) (g := (mkF m 130 #[.val (.int p1), .val (.int p2), .val (.int p3), .val (.int (p1 &&& (255 : Int32))), .val (.int (p2 &&& (255 : Int32))), .val (.int (1 : Int32)), .val (.int (0 : Int32)), .val (.int ((4 : Int32) + (1 : Int32))), .val (.ref b_q5), .val (.int ((0 : Int32) + (4 : Int32))), .unset] [(.ref b_q5)])) rfl (by rw [hml]; rfl) (argsL := [(.ref b_q5)]) (rest := []) (lenOf pd___B__B rfl) rfl (by show 2 * 0 + _ ≤ _; exact Nat.le_of_eq rfl) (hb hby at_130) (fun _ _ => ⟨rfl, rfl, (by decide : 1 + 2 ≤ _), (by decide : 5 + 7 ≤ _)⟩)
  dsimp only [Pt.U, Pt.locs, Pt.cells, Pt.slots] at X_q8 l_q8 y_q8 z_q8 st_q8 hQ_q8
  subst l_q8 y_q8 z_q8
  obtain ⟨r_q8, kr_q8, rfl, Nq_q8, Kq_q8, Vr_q8⟩ := hQ_q8
  have N_q8 := Fr.app N_q7 Nq_q8
  have EX_q5__q8 := EX_q5__q7.keep Kq_q8
  have Vq_q7__q8 := Vq_q7.keep Kq_q8 List.not_mem_nil
  have K_q8 : Keep h0 T_q8.heap [] := K_q7.trans Kq_q8 (fun x hx => nomatch hx)
  obtain ⟨cl_q9, Ar_q9, qk_q9, S_q9, Nn_q9, H_q9, G_q9⟩ := id Vr_q8
  obtain ⟨cl_q10, Ar_q10, qk_q10, S_q10, Nn_q10, H_q10, G_q10⟩ := id Vr_q8
  have hin_q10 : ¬ ((0 : Int32) < 0 ∨ cl_q10.slots.size ≤ ((0 : Int32)).toNatClampNeg) := inb_of S_q10 ⟨by decide, by decide⟩
  have hat_q10 : cl_q10.slots[((0 : Int32)).toNatClampNeg]? = some (.int (nar .byte (nar .byte ((((F5_0 (nar .byte ((F2_0 (((p1 &&& (255 : Int32)).toUInt32 >>> ((4 : Int32) &&& 31).toUInt32).toInt32)).toInt8.toInt32))) <<< ((4 : Int32) &&& 31)) ||| (F5_0 (nar .byte ((F2_0 ((p1 &&& (255 : Int32)) &&& (15 : Int32))).toInt8.toInt32)))).toInt8.toInt32)))) := H_q10 0 (Nat.lt_of_not_le fun q => hin_q10 (Or.inr q))
  obtain ⟨cl_q12, Ar_q12, qk_q12, S_q12, Nn_q12, H_q12, G_q12⟩ := id Vr_q8
  have hin_q12 : ¬ ((1 : Int32) < 0 ∨ cl_q12.slots.size ≤ ((1 : Int32)).toNatClampNeg) := inb_of S_q12 ⟨by decide, by decide⟩
  have hat_q12 : cl_q12.slots[((1 : Int32)).toNatClampNeg]? = some (.int (nar .byte (nar .byte ((p2 &&& (255 : Int32)).toInt8.toInt32)))) := H_q12 1 (Nat.lt_of_not_le fun q => hin_q12 (Or.inr q))
  obtain ⟨fs, hr, hrun, hended, hW, hsame⟩ := X_q8.leave (v := some (.int (1 : Int32))) (fun h => by rw [Bd.returns] at h; cases h) Bd.notSynchronized
  refine ⟨_, _, pre0 _ ?_, hrun, hended, _, _, rfl, ?_, ⟨_, rfl⟩, hW, hsame.mono (by decide) (by decide)⟩
  · show Steps p.tables e below (s₁.setTop (mkF m 0 #[.val (.int p1), .val (.int p2), .val (.int p3), .unset, .unset, .unset, .unset, .unset, .unset, .unset, .unset] [])) _
    refine XS.iloadN X0.here hx rfl (hb hby at_0) rfl ?_
    show Steps p.tables e below (s₁.setTop (mkF m 1 #[.val (.int p1), .val (.int p2), .val (.int p3), .unset, .unset, .unset, .unset, .unset, .unset, .unset, .unset] [(.int p1)])) _
    refine XS.sipush X0.here hx rfl (hb hby at_1) ?_
    show Steps p.tables e below (s₁.setTop (mkF m 4 #[.val (.int p1), .val (.int p2), .val (.int p3), .unset, .unset, .unset, .unset, .unset, .unset, .unset, .unset] [(.int (255 : Int32)), (.int p1)])) _
    refine XS.iand X0.here hx rfl (hb hby at_4) rfl ?_
    show Steps p.tables e below (s₁.setTop (mkF m 5 #[.val (.int p1), .val (.int p2), .val (.int p3), .unset, .unset, .unset, .unset, .unset, .unset, .unset, .unset] [(.int (p1 &&& (255 : Int32)))])) _
    refine XS.istoreN X0.here hx rfl (hb hby at_5) rfl (l' := #[.val (.int p1), .val (.int p2), .val (.int p3), .val (.int (p1 &&& (255 : Int32))), .unset, .unset, .unset, .unset, .unset, .unset, .unset]) rfl ?_
    show Steps p.tables e below (s₁.setTop (mkF m 6 #[.val (.int p1), .val (.int p2), .val (.int p3), .val (.int (p1 &&& (255 : Int32))), .unset, .unset, .unset, .unset, .unset, .unset, .unset] [])) _
    refine XS.iloadN X0.here hx rfl (hb hby at_6) rfl ?_
    show Steps p.tables e below (s₁.setTop (mkF m 7 #[.val (.int p1), .val (.int p2), .val (.int p3), .val (.int (p1 &&& (255 : Int32))), .unset, .unset, .unset, .unset, .unset, .unset, .unset] [(.int p2)])) _
    refine XS.sipush X0.here hx rfl (hb hby at_7) ?_
    show Steps p.tables e below (s₁.setTop (mkF m 10 #[.val (.int p1), .val (.int p2), .val (.int p3), .val (.int (p1 &&& (255 : Int32))), .unset, .unset, .unset, .unset, .unset, .unset, .unset] [(.int (255 : Int32)), (.int p2)])) _
    refine XS.iand X0.here hx rfl (hb hby at_10) rfl ?_
    show Steps p.tables e below (s₁.setTop (mkF m 11 #[.val (.int p1), .val (.int p2), .val (.int p3), .val (.int (p1 &&& (255 : Int32))), .unset, .unset, .unset, .unset, .unset, .unset, .unset] [(.int (p2 &&& (255 : Int32)))])) _
    refine XS.istore X0.here hx rfl (hb hby at_11) rfl (l' := #[.val (.int p1), .val (.int p2), .val (.int p3), .val (.int (p1 &&& (255 : Int32))), .val (.int (p2 &&& (255 : Int32))), .unset, .unset, .unset, .unset, .unset, .unset]) rfl ?_
    show Steps p.tables e below (s₁.setTop (mkF m 13 #[.val (.int p1), .val (.int p2), .val (.int p3), .val (.int (p1 &&& (255 : Int32))), .val (.int (p2 &&& (255 : Int32))), .unset, .unset, .unset, .unset, .unset, .unset] [])) _
    refine XS.iloadN X0.here hx rfl (hb hby at_13) rfl ?_
    show Steps p.tables e below (s₁.setTop (mkF m 14 #[.val (.int p1), .val (.int p2), .val (.int p3), .val (.int (p1 &&& (255 : Int32))), .val (.int (p2 &&& (255 : Int32))), .unset, .unset, .unset, .unset, .unset, .unset] [(.int p3)])) _
    refine XS.iconst X0.here hx rfl (hb hby at_14) ?_
    show Steps p.tables e below (s₁.setTop (mkF m 15 #[.val (.int p1), .val (.int p2), .val (.int p3), .val (.int (p1 &&& (255 : Int32))), .val (.int (p2 &&& (255 : Int32))), .unset, .unset, .unset, .unset, .unset, .unset] [(.int (1 : Int32)), (.int p3)])) _
    refine XS.iand X0.here hx rfl (hb hby at_15) rfl ?_
    show Steps p.tables e below (s₁.setTop (mkF m 16 #[.val (.int p1), .val (.int p2), .val (.int p3), .val (.int (p1 &&& (255 : Int32))), .val (.int (p2 &&& (255 : Int32))), .unset, .unset, .unset, .unset, .unset, .unset] [(.int (p3 &&& (1 : Int32)))])) _
    refine XS.ifNo X0.here hx rfl (hb hby at_16) rfl ((if0 _ _).trans (teq hc_q1).2) ?_
    show Steps p.tables e below (s₁.setTop (mkF m 19 #[.val (.int p1), .val (.int p2), .val (.int p3), .val (.int (p1 &&& (255 : Int32))), .val (.int (p2 &&& (255 : Int32))), .unset, .unset, .unset, .unset, .unset, .unset] [])) _
    refine XS.iloadN X0.here hx rfl (hb hby at_19) rfl ?_
    show Steps p.tables e below (s₁.setTop (mkF m 20 #[.val (.int p1), .val (.int p2), .val (.int p3), .val (.int (p1 &&& (255 : Int32))), .val (.int (p2 &&& (255 : Int32))), .unset, .unset, .unset, .unset, .unset, .unset] [(.int (p1 &&& (255 : Int32)))])) _
    refine XS.bipush X0.here hx rfl (hb hby at_20) ?_
    show Steps p.tables e below (s₁.setTop (mkF m 22 #[.val (.int p1), .val (.int p2), .val (.int p3), .val (.int (p1 &&& (255 : Int32))), .val (.int (p2 &&& (255 : Int32))), .unset, .unset, .unset, .unset, .unset, .unset] [(.int (92 : Int32)), (.int (p1 &&& (255 : Int32)))])) _
    refine XS.icmpNo X0.here hx rfl (hb hby at_22) rfl (teq hc_q2).2 ?_
    show Steps p.tables e below (s₁.setTop (mkF m 25 #[.val (.int p1), .val (.int p2), .val (.int p3), .val (.int (p1 &&& (255 : Int32))), .val (.int (p2 &&& (255 : Int32))), .unset, .unset, .unset, .unset, .unset, .unset] [])) _
    refine XS.iconst X0.here hx rfl (hb hby at_25) ?_
    show Steps p.tables e below (s₁.setTop (mkF m 26 #[.val (.int p1), .val (.int p2), .val (.int p3), .val (.int (p1 &&& (255 : Int32))), .val (.int (p2 &&& (255 : Int32))), .unset, .unset, .unset, .unset, .unset, .unset] [(.int (1 : Int32))])) _
    refine XS.goto X0.here hx rfl (pc0 := 26) (pc' := 30) rfl (hb hby at_26) (by decide) (by decide) ?_
    show Steps p.tables e below (s₁.setTop (mkF m 30 #[.val (.int p1), .val (.int p2), .val (.int p3), .val (.int (p1 &&& (255 : Int32))), .val (.int (p2 &&& (255 : Int32))), .unset, .unset, .unset, .unset, .unset, .unset] [(.int (1 : Int32))])) _
    refine XS.istore X0.here hx rfl (hb hby at_30) rfl (l' := #[.val (.int p1), .val (.int p2), .val (.int p3), .val (.int (p1 &&& (255 : Int32))), .val (.int (p2 &&& (255 : Int32))), .val (.int (1 : Int32)), .unset, .unset, .unset, .unset, .unset]) rfl ?_
    show Steps p.tables e below (s₁.setTop (mkF m 32 #[.val (.int p1), .val (.int p2), .val (.int p3), .val (.int (p1 &&& (255 : Int32))), .val (.int (p2 &&& (255 : Int32))), .val (.int (1 : Int32)), .unset, .unset, .unset, .unset, .unset] [])) _
    refine XS.iloadN X0.here hx rfl (hb hby at_32) rfl ?_
    show Steps p.tables e below (s₁.setTop (mkF m 33 #[.val (.int p1), .val (.int p2), .val (.int p3), .val (.int (p1 &&& (255 : Int32))), .val (.int (p2 &&& (255 : Int32))), .val (.int (1 : Int32)), .unset, .unset, .unset, .unset, .unset] [(.int p3)])) _
    refine XS.iconst X0.here hx rfl (hb hby at_33) ?_
    show Steps p.tables e below (s₁.setTop (mkF m 34 #[.val (.int p1), .val (.int p2), .val (.int p3), .val (.int (p1 &&& (255 : Int32))), .val (.int (p2 &&& (255 : Int32))), .val (.int (1 : Int32)), .unset, .unset, .unset, .unset, .unset] [(.int (2 : Int32)), (.int p3)])) _
    refine XS.iand X0.here hx rfl (hb hby at_34) rfl ?_
    show Steps p.tables e below (s₁.setTop (mkF m 35 #[.val (.int p1), .val (.int p2), .val (.int p3), .val (.int (p1 &&& (255 : Int32))), .val (.int (p2 &&& (255 : Int32))), .val (.int (1 : Int32)), .unset, .unset, .unset, .unset, .unset] [(.int (p3 &&& (2 : Int32)))])) _
    refine XS.ifNo X0.here hx rfl (hb hby at_35) rfl ((if0 _ _).trans (teq hc_q3).2) ?_
    show Steps p.tables e below (s₁.setTop (mkF m 38 #[.val (.int p1), .val (.int p2), .val (.int p3), .val (.int (p1 &&& (255 : Int32))), .val (.int (p2 &&& (255 : Int32))), .val (.int (1 : Int32)), .unset, .unset, .unset, .unset, .unset] [])) _
    refine XS.iload X0.here hx rfl (hb hby at_38) rfl ?_
    show Steps p.tables e below (s₁.setTop (mkF m 40 #[.val (.int p1), .val (.int p2), .val (.int p3), .val (.int (p1 &&& (255 : Int32))), .val (.int (p2 &&& (255 : Int32))), .val (.int (1 : Int32)), .unset, .unset, .unset, .unset, .unset] [(.int (p2 &&& (255 : Int32)))])) _
    refine XS.bipush X0.here hx rfl (hb hby at_40) ?_
    show Steps p.tables e below (s₁.setTop (mkF m 42 #[.val (.int p1), .val (.int p2), .val (.int p3), .val (.int (p1 &&& (255 : Int32))), .val (.int (p2 &&& (255 : Int32))), .val (.int (1 : Int32)), .unset, .unset, .unset, .unset, .unset] [(.int (92 : Int32)), (.int (p2 &&& (255 : Int32)))])) _
    refine XS.icmpYes X0.here hx rfl (pc0 := 42) (pc' := 49) rfl (hb hby at_42) rfl (feq hc_q4).2 (by decide) (by decide) ?_
    show Steps p.tables e below (s₁.setTop (mkF m 49 #[.val (.int p1), .val (.int p2), .val (.int p3), .val (.int (p1 &&& (255 : Int32))), .val (.int (p2 &&& (255 : Int32))), .val (.int (1 : Int32)), .unset, .unset, .unset, .unset, .unset] [])) _
    refine XS.iconst X0.here hx rfl (hb hby at_49) ?_
    show Steps p.tables e below (s₁.setTop (mkF m 50 #[.val (.int p1), .val (.int p2), .val (.int p3), .val (.int (p1 &&& (255 : Int32))), .val (.int (p2 &&& (255 : Int32))), .val (.int (1 : Int32)), .unset, .unset, .unset, .unset, .unset] [(.int (0 : Int32))])) _
    refine XS.istore X0.here hx rfl (hb hby at_50) rfl (l' := #[.val (.int p1), .val (.int p2), .val (.int p3), .val (.int (p1 &&& (255 : Int32))), .val (.int (p2 &&& (255 : Int32))), .val (.int (1 : Int32)), .val (.int (0 : Int32)), .unset, .unset, .unset, .unset]) rfl ?_
    show Steps p.tables e below (s₁.setTop (mkF m 52 #[.val (.int p1), .val (.int p2), .val (.int p3), .val (.int (p1 &&& (255 : Int32))), .val (.int (p2 &&& (255 : Int32))), .val (.int (1 : Int32)), .val (.int (0 : Int32)), .unset, .unset, .unset, .unset] [])) _
    refine XS.iload X0.here hx rfl (hb hby at_52) rfl ?_
    show Steps p.tables e below (s₁.setTop (mkF m 54 #[.val (.int p1), .val (.int p2), .val (.int p3), .val (.int (p1 &&& (255 : Int32))), .val (.int (p2 &&& (255 : Int32))), .val (.int (1 : Int32)), .val (.int (0 : Int32)), .unset, .unset, .unset, .unset] [(.int (1 : Int32))])) _
    refine XS.ifNo X0.here hx rfl (hb hby at_54) rfl ((if0 _ _).trans (feq (by decide : ¬ ((1 : Int32) = (0 : Int32)))).1) ?_
    show Steps p.tables e below (s₁.setTop (mkF m 57 #[.val (.int p1), .val (.int p2), .val (.int p3), .val (.int (p1 &&& (255 : Int32))), .val (.int (p2 &&& (255 : Int32))), .val (.int (1 : Int32)), .val (.int (0 : Int32)), .unset, .unset, .unset, .unset] [])) _
    refine XS.iconst X0.here hx rfl (hb hby at_57) ?_
    show Steps p.tables e below (s₁.setTop (mkF m 58 #[.val (.int p1), .val (.int p2), .val (.int p3), .val (.int (p1 &&& (255 : Int32))), .val (.int (p2 &&& (255 : Int32))), .val (.int (1 : Int32)), .val (.int (0 : Int32)), .unset, .unset, .unset, .unset] [(.int (4 : Int32))])) _
    refine XS.goto X0.here hx rfl (pc0 := 58) (pc' := 62) rfl (hb hby at_58) (by decide) (by decide) ?_
    show Steps p.tables e below (s₁.setTop (mkF m 62 #[.val (.int p1), .val (.int p2), .val (.int p3), .val (.int (p1 &&& (255 : Int32))), .val (.int (p2 &&& (255 : Int32))), .val (.int (1 : Int32)), .val (.int (0 : Int32)), .unset, .unset, .unset, .unset] [(.int (4 : Int32))])) _
    refine XS.iload X0.here hx rfl (hb hby at_62) rfl ?_
    show Steps p.tables e below (s₁.setTop (mkF m 64 #[.val (.int p1), .val (.int p2), .val (.int p3), .val (.int (p1 &&& (255 : Int32))), .val (.int (p2 &&& (255 : Int32))), .val (.int (1 : Int32)), .val (.int (0 : Int32)), .unset, .unset, .unset, .unset] [(.int (0 : Int32)), (.int (4 : Int32))])) _
    refine XS.ifYes X0.here hx rfl (pc0 := 64) (pc' := 71) rfl (hb hby at_64) rfl ((if0 _ _).trans (teq (by decide : (0 : Int32) = (0 : Int32))).1) (by decide) (by decide) ?_
    show Steps p.tables e below (s₁.setTop (mkF m 71 #[.val (.int p1), .val (.int p2), .val (.int p3), .val (.int (p1 &&& (255 : Int32))), .val (.int (p2 &&& (255 : Int32))), .val (.int (1 : Int32)), .val (.int (0 : Int32)), .unset, .unset, .unset, .unset] [(.int (4 : Int32))])) _
    refine XS.iconst X0.here hx rfl (hb hby at_71) ?_
    show Steps p.tables e below (s₁.setTop (mkF m 72 #[.val (.int p1), .val (.int p2), .val (.int p3), .val (.int (p1 &&& (255 : Int32))), .val (.int (p2 &&& (255 : Int32))), .val (.int (1 : Int32)), .val (.int (0 : Int32)), .unset, .unset, .unset, .unset] [(.int (1 : Int32)), (.int (4 : Int32))])) _
    refine XS.iadd X0.here hx rfl (hb hby at_72) rfl ?_
    show Steps p.tables e below (s₁.setTop (mkF m 73 #[.val (.int p1), .val (.int p2), .val (.int p3), .val (.int (p1 &&& (255 : Int32))), .val (.int (p2 &&& (255 : Int32))), .val (.int (1 : Int32)), .val (.int (0 : Int32)), .unset, .unset, .unset, .unset] [(.int ((4 : Int32) + (1 : Int32)))])) _
    refine XS.istore X0.here hx rfl (hb hby at_73) rfl (l' := #[.val (.int p1), .val (.int p2), .val (.int p3), .val (.int (p1 &&& (255 : Int32))), .val (.int (p2 &&& (255 : Int32))), .val (.int (1 : Int32)), .val (.int (0 : Int32)), .val (.int ((4 : Int32) + (1 : Int32))), .unset, .unset, .unset]) rfl ?_
    show Steps p.tables e below (s₁.setTop (mkF m 75 #[.val (.int p1), .val (.int p2), .val (.int p3), .val (.int (p1 &&& (255 : Int32))), .val (.int (p2 &&& (255 : Int32))), .val (.int (1 : Int32)), .val (.int (0 : Int32)), .val (.int ((4 : Int32) + (1 : Int32))), .unset, .unset, .unset] [])) _
    refine XS.iload X0.here hx rfl (hb hby at_75) rfl ?_
    show Steps p.tables e below (s₁.setTop (mkF m 77 #[.val (.int p1), .val (.int p2), .val (.int p3), .val (.int (p1 &&& (255 : Int32))), .val (.int (p2 &&& (255 : Int32))), .val (.int (1 : Int32)), .val (.int (0 : Int32)), .val (.int ((4 : Int32) + (1 : Int32))), .unset, .unset, .unset] [(.int ((4 : Int32) + (1 : Int32)))])) _
    refine XS.iconst X0.here hx rfl (hb hby at_77) ?_
    show Steps p.tables e below (s₁.setTop (mkF m 78 #[.val (.int p1), .val (.int p2), .val (.int p3), .val (.int (p1 &&& (255 : Int32))), .val (.int (p2 &&& (255 : Int32))), .val (.int (1 : Int32)), .val (.int (0 : Int32)), .val (.int ((4 : Int32) + (1 : Int32))), .unset, .unset, .unset] [(.int (2 : Int32)), (.int ((4 : Int32) + (1 : Int32)))])) _
    refine XS.icmpYes X0.here hx rfl (pc0 := 78) (pc' := 87) rfl (hb hby at_78) rfl (feq (by decide : ¬ (((4 : Int32) + (1 : Int32)) = (2 : Int32)))).2 (by decide) (by decide) ?_
    show Steps p.tables e below (s₁.setTop (mkF m 87 #[.val (.int p1), .val (.int p2), .val (.int p3), .val (.int (p1 &&& (255 : Int32))), .val (.int (p2 &&& (255 : Int32))), .val (.int (1 : Int32)), .val (.int (0 : Int32)), .val (.int ((4 : Int32) + (1 : Int32))), .unset, .unset, .unset] [])) _
    refine XS.iload X0.here hx rfl (hb hby at_87) rfl ?_
    show Steps p.tables e below (s₁.setTop (mkF m 89 #[.val (.int p1), .val (.int p2), .val (.int p3), .val (.int (p1 &&& (255 : Int32))), .val (.int (p2 &&& (255 : Int32))), .val (.int (1 : Int32)), .val (.int (0 : Int32)), .val (.int ((4 : Int32) + (1 : Int32))), .unset, .unset, .unset] [(.int ((4 : Int32) + (1 : Int32)))])) _
    refine XS.iconst X0.here hx rfl (hb hby at_89) ?_
    show Steps p.tables e below (s₁.setTop (mkF m 90 #[.val (.int p1), .val (.int p2), .val (.int p3), .val (.int (p1 &&& (255 : Int32))), .val (.int (p2 &&& (255 : Int32))), .val (.int (1 : Int32)), .val (.int (0 : Int32)), .val (.int ((4 : Int32) + (1 : Int32))), .unset, .unset, .unset] [(.int (5 : Int32)), (.int ((4 : Int32) + (1 : Int32)))])) _
    refine XS.icmpNo X0.here hx rfl (hb hby at_90) rfl (teq (by decide : ((4 : Int32) + (1 : Int32)) = (5 : Int32))).2 ?_
    show Steps p.tables e below (s₁.setTop (mkF m 93 #[.val (.int p1), .val (.int p2), .val (.int p3), .val (.int (p1 &&& (255 : Int32))), .val (.int (p2 &&& (255 : Int32))), .val (.int (1 : Int32)), .val (.int (0 : Int32)), .val (.int ((4 : Int32) + (1 : Int32))), .unset, .unset, .unset] [])) _
    refine XS.iconst X0.here hx rfl (hb hby at_93) ?_
    show Steps p.tables e below (s₁.setTop (mkF m 94 #[.val (.int p1), .val (.int p2), .val (.int p3), .val (.int (p1 &&& (255 : Int32))), .val (.int (p2 &&& (255 : Int32))), .val (.int (1 : Int32)), .val (.int (0 : Int32)), .val (.int ((4 : Int32) + (1 : Int32))), .unset, .unset, .unset] [(.int (5 : Int32))])) _
    refine st_q5 _ ?_
    show Steps p.tables e below (T_q5.setTop (mkF m 96 #[.val (.int p1), .val (.int p2), .val (.int p3), .val (.int (p1 &&& (255 : Int32))), .val (.int (p2 &&& (255 : Int32))), .val (.int (1 : Int32)), .val (.int (0 : Int32)), .val (.int ((4 : Int32) + (1 : Int32))), .unset, .unset, .unset] [(.ref b_q5)])) _
    refine XS.goto X_q5.here hx rfl (pc0 := 96) (pc' := 103) rfl (hb hby at_96) (by decide) (by decide) ?_
    show Steps p.tables e below (T_q5.setTop (mkF m 103 #[.val (.int p1), .val (.int p2), .val (.int p3), .val (.int (p1 &&& (255 : Int32))), .val (.int (p2 &&& (255 : Int32))), .val (.int (1 : Int32)), .val (.int (0 : Int32)), .val (.int ((4 : Int32) + (1 : Int32))), .unset, .unset, .unset] [(.ref b_q5)])) _
    refine XS.astore X_q5.here hx rfl (hb hby at_103) rfl rfl (l' := #[.val (.int p1), .val (.int p2), .val (.int p3), .val (.int (p1 &&& (255 : Int32))), .val (.int (p2 &&& (255 : Int32))), .val (.int (1 : Int32)), .val (.int (0 : Int32)), .val (.int ((4 : Int32) + (1 : Int32))), .val (.ref b_q5), .unset, .unset]) rfl ?_
    show Steps p.tables e below (T_q5.setTop (mkF m 105 #[.val (.int p1), .val (.int p2), .val (.int p3), .val (.int (p1 &&& (255 : Int32))), .val (.int (p2 &&& (255 : Int32))), .val (.int (1 : Int32)), .val (.int (0 : Int32)), .val (.int ((4 : Int32) + (1 : Int32))), .val (.ref b_q5), .unset, .unset] [])) _
    refine XS.aload X_q5.here hx rfl (hb hby at_105) rfl rfl ?_
    show Steps p.tables e below (T_q5.setTop (mkF m 107 #[.val (.int p1), .val (.int p2), .val (.int p3), .val (.int (p1 &&& (255 : Int32))), .val (.int (p2 &&& (255 : Int32))), .val (.int (1 : Int32)), .val (.int (0 : Int32)), .val (.int ((4 : Int32) + (1 : Int32))), .val (.ref b_q5), .unset, .unset] [(.ref b_q5)])) _
    refine XS.iconst X_q5.here hx rfl (hb hby at_107) ?_
    show Steps p.tables e below (T_q5.setTop (mkF m 108 #[.val (.int p1), .val (.int p2), .val (.int p3), .val (.int (p1 &&& (255 : Int32))), .val (.int (p2 &&& (255 : Int32))), .val (.int (1 : Int32)), .val (.int (0 : Int32)), .val (.int ((4 : Int32) + (1 : Int32))), .val (.ref b_q5), .unset, .unset] [(.int (0 : Int32)), (.ref b_q5)])) _
    refine XS.iloadN X_q5.here hx rfl (hb hby at_108) rfl ?_
    show Steps p.tables e below (T_q5.setTop (mkF m 109 #[.val (.int p1), .val (.int p2), .val (.int p3), .val (.int (p1 &&& (255 : Int32))), .val (.int (p2 &&& (255 : Int32))), .val (.int (1 : Int32)), .val (.int (0 : Int32)), .val (.int ((4 : Int32) + (1 : Int32))), .val (.ref b_q5), .unset, .unset] [(.int (p1 &&& (255 : Int32))), (.int (0 : Int32)), (.ref b_q5)])) _
    refine XS.iload X_q5.here hx rfl (hb hby at_109) rfl ?_
    show Steps p.tables e below (T_q5.setTop (mkF m 111 #[.val (.int p1), .val (.int p2), .val (.int p3), .val (.int (p1 &&& (255 : Int32))), .val (.int (p2 &&& (255 : Int32))), .val (.int (1 : Int32)), .val (.int (0 : Int32)), .val (.int ((4 : Int32) + (1 : Int32))), .val (.ref b_q5), .unset, .unset] [(.int (1 : Int32)), (.int (p1 &&& (255 : Int32))), (.int (0 : Int32)), (.ref b_q5)])) _
    refine st_q6 _ ?_
    show Steps p.tables e below (T_q6.setTop (mkF m 114 #[.val (.int p1), .val (.int p2), .val (.int p3), .val (.int (p1 &&& (255 : Int32))), .val (.int (p2 &&& (255 : Int32))), .val (.int (1 : Int32)), .val (.int (0 : Int32)), .val (.int ((4 : Int32) + (1 : Int32))), .val (.ref b_q5), .unset, .unset] [(.int ((0 : Int32) + (4 : Int32)))])) _
    refine XS.istore X_q6.here hx rfl (hb hby at_114) rfl (l' := #[.val (.int p1), .val (.int p2), .val (.int p3), .val (.int (p1 &&& (255 : Int32))), .val (.int (p2 &&& (255 : Int32))), .val (.int (1 : Int32)), .val (.int (0 : Int32)), .val (.int ((4 : Int32) + (1 : Int32))), .val (.ref b_q5), .val (.int ((0 : Int32) + (4 : Int32))), .unset]) rfl ?_
    show Steps p.tables e below (T_q6.setTop (mkF m 116 #[.val (.int p1), .val (.int p2), .val (.int p3), .val (.int (p1 &&& (255 : Int32))), .val (.int (p2 &&& (255 : Int32))), .val (.int (1 : Int32)), .val (.int (0 : Int32)), .val (.int ((4 : Int32) + (1 : Int32))), .val (.ref b_q5), .val (.int ((0 : Int32) + (4 : Int32))), .unset] [])) _
    refine XS.aload X_q6.here hx rfl (hb hby at_116) rfl rfl ?_
    show Steps p.tables e below (T_q6.setTop (mkF m 118 #[.val (.int p1), .val (.int p2), .val (.int p3), .val (.int (p1 &&& (255 : Int32))), .val (.int (p2 &&& (255 : Int32))), .val (.int (1 : Int32)), .val (.int (0 : Int32)), .val (.int ((4 : Int32) + (1 : Int32))), .val (.ref b_q5), .val (.int ((0 : Int32) + (4 : Int32))), .unset] [(.ref b_q5)])) _
    refine XS.iload X_q6.here hx rfl (hb hby at_118) rfl ?_
    show Steps p.tables e below (T_q6.setTop (mkF m 120 #[.val (.int p1), .val (.int p2), .val (.int p3), .val (.int (p1 &&& (255 : Int32))), .val (.int (p2 &&& (255 : Int32))), .val (.int (1 : Int32)), .val (.int (0 : Int32)), .val (.int ((4 : Int32) + (1 : Int32))), .val (.ref b_q5), .val (.int ((0 : Int32) + (4 : Int32))), .unset] [(.int ((0 : Int32) + (4 : Int32))), (.ref b_q5)])) _
    refine XS.iload X_q6.here hx rfl (hb hby at_120) rfl ?_
    show Steps p.tables e below (T_q6.setTop (mkF m 122 #[.val (.int p1), .val (.int p2), .val (.int p3), .val (.int (p1 &&& (255 : Int32))), .val (.int (p2 &&& (255 : Int32))), .val (.int (1 : Int32)), .val (.int (0 : Int32)), .val (.int ((4 : Int32) + (1 : Int32))), .val (.ref b_q5), .val (.int ((0 : Int32) + (4 : Int32))), .unset] [(.int (p2 &&& (255 : Int32))), (.int ((0 : Int32) + (4 : Int32))), (.ref b_q5)])) _
    refine XS.iload X_q6.here hx rfl (hb hby at_122) rfl ?_
    show Steps p.tables e below (T_q6.setTop (mkF m 124 #[.val (.int p1), .val (.int p2), .val (.int p3), .val (.int (p1 &&& (255 : Int32))), .val (.int (p2 &&& (255 : Int32))), .val (.int (1 : Int32)), .val (.int (0 : Int32)), .val (.int ((4 : Int32) + (1 : Int32))), .val (.ref b_q5), .val (.int ((0 : Int32) + (4 : Int32))), .unset] [(.int (0 : Int32)), (.int (p2 &&& (255 : Int32))), (.int ((0 : Int32) + (4 : Int32))), (.ref b_q5)])) _
    refine st_q7 _ ?_
    show Steps p.tables e below (T_q7.setTop (mkF m 127 #[.val (.int p1), .val (.int p2), .val (.int p3), .val (.int (p1 &&& (255 : Int32))), .val (.int (p2 &&& (255 : Int32))), .val (.int (1 : Int32)), .val (.int (0 : Int32)), .val (.int ((4 : Int32) + (1 : Int32))), .val (.ref b_q5), .val (.int ((0 : Int32) + (4 : Int32))), .unset] [(.int ((4 : Int32) + (1 : Int32)))])) _
    refine XS.pop X_q7.here hx rfl (hb hby at_127) rfl rfl ?_
    show Steps p.tables e below (T_q7.setTop (mkF m 128 #[.val (.int p1), .val (.int p2), .val (.int p3), .val (.int (p1 &&& (255 : Int32))), .val (.int (p2 &&& (255 : Int32))), .val (.int (1 : Int32)), .val (.int (0 : Int32)), .val (.int ((4 : Int32) + (1 : Int32))), .val (.ref b_q5), .val (.int ((0 : Int32) + (4 : Int32))), .unset] [])) _
    refine XS.aload X_q7.here hx rfl (hb hby at_128) rfl rfl ?_
    show Steps p.tables e below (T_q7.setTop (mkF m 130 #[.val (.int p1), .val (.int p2), .val (.int p3), .val (.int (p1 &&& (255 : Int32))), .val (.int (p2 &&& (255 : Int32))), .val (.int (1 : Int32)), .val (.int (0 : Int32)), .val (.int ((4 : Int32) + (1 : Int32))), .val (.ref b_q5), .val (.int ((0 : Int32) + (4 : Int32))), .unset] [(.ref b_q5)])) _
    refine st_q8 _ ?_
    show Steps p.tables e below (T_q8.setTop (mkF m 133 #[.val (.int p1), .val (.int p2), .val (.int p3), .val (.int (p1 &&& (255 : Int32))), .val (.int (p2 &&& (255 : Int32))), .val (.int (1 : Int32)), .val (.int (0 : Int32)), .val (.int ((4 : Int32) + (1 : Int32))), .val (.ref b_q5), .val (.int ((0 : Int32) + (4 : Int32))), .unset] [(.ref r_q8)])) _
    refine XS.astore X_q8.here hx rfl (hb hby at_133) rfl rfl (l' := #[.val (.int p1), .val (.int p2), .val (.int p3), .val (.int (p1 &&& (255 : Int32))), .val (.int (p2 &&& (255 : Int32))), .val (.int (1 : Int32)), .val (.int (0 : Int32)), .val (.int ((4 : Int32) + (1 : Int32))), .val (.ref b_q5), .val (.int ((0 : Int32) + (4 : Int32))), .val (.ref r_q8)]) rfl ?_
    show Steps p.tables e below (T_q8.setTop (mkF m 135 #[.val (.int p1), .val (.int p2), .val (.int p3), .val (.int (p1 &&& (255 : Int32))), .val (.int (p2 &&& (255 : Int32))), .val (.int (1 : Int32)), .val (.int (0 : Int32)), .val (.int ((4 : Int32) + (1 : Int32))), .val (.ref b_q5), .val (.int ((0 : Int32) + (4 : Int32))), .val (.ref r_q8)] [])) _
    refine XS.aload X_q8.here hx rfl (hb hby at_135) rfl rfl ?_
    show Steps p.tables e below (T_q8.setTop (mkF m 137 #[.val (.int p1), .val (.int p2), .val (.int p3), .val (.int (p1 &&& (255 : Int32))), .val (.int (p2 &&& (255 : Int32))), .val (.int (1 : Int32)), .val (.int (0 : Int32)), .val (.int ((4 : Int32) + (1 : Int32))), .val (.ref b_q5), .val (.int ((0 : Int32) + (4 : Int32))), .val (.ref r_q8)] [(.ref r_q8)])) _
    refine X_q8.arraylength hx (by exact Ar_q9.1) (State.isArrayOf_alike hZ.alike Ar_q9.2.1) (g := (mkF m 137 #[.val (.int p1), .val (.int p2), .val (.int p3), .val (.int (p1 &&& (255 : Int32))), .val (.int (p2 &&& (255 : Int32))), .val (.int (1 : Int32)), .val (.int (0 : Int32)), .val (.int ((4 : Int32) + (1 : Int32))), .val (.ref b_q5), .val (.int ((0 : Int32) + (4 : Int32))), .val (.ref r_q8)] [(.ref r_q8)])) rfl rfl (hb hby at_137) _ ?_
    rw [len_of S_q9 Nn_q9]
    show Steps p.tables e below (T_q8.setTop (mkF m 138 #[.val (.int p1), .val (.int p2), .val (.int p3), .val (.int (p1 &&& (255 : Int32))), .val (.int (p2 &&& (255 : Int32))), .val (.int (1 : Int32)), .val (.int (0 : Int32)), .val (.int ((4 : Int32) + (1 : Int32))), .val (.ref b_q5), .val (.int ((0 : Int32) + (4 : Int32))), .val (.ref r_q8)] [(.int (2 : Int32))])) _
    refine XS.iconst X_q8.here hx rfl (hb hby at_138) ?_
    show Steps p.tables e below (T_q8.setTop (mkF m 139 #[.val (.int p1), .val (.int p2), .val (.int p3), .val (.int (p1 &&& (255 : Int32))), .val (.int (p2 &&& (255 : Int32))), .val (.int (1 : Int32)), .val (.int (0 : Int32)), .val (.int ((4 : Int32) + (1 : Int32))), .val (.ref b_q5), .val (.int ((0 : Int32) + (4 : Int32))), .val (.ref r_q8)] [(.int (2 : Int32)), (.int (2 : Int32))])) _
    refine XS.icmpNo X_q8.here hx rfl (hb hby at_139) rfl (teq (by decide : (2 : Int32) = (2 : Int32))).2 ?_
    show Steps p.tables e below (T_q8.setTop (mkF m 142 #[.val (.int p1), .val (.int p2), .val (.int p3), .val (.int (p1 &&& (255 : Int32))), .val (.int (p2 &&& (255 : Int32))), .val (.int (1 : Int32)), .val (.int (0 : Int32)), .val (.int ((4 : Int32) + (1 : Int32))), .val (.ref b_q5), .val (.int ((0 : Int32) + (4 : Int32))), .val (.ref r_q8)] [])) _
    refine XS.aload X_q8.here hx rfl (hb hby at_142) rfl rfl ?_
    show Steps p.tables e below (T_q8.setTop (mkF m 144 #[.val (.int p1), .val (.int p2), .val (.int p3), .val (.int (p1 &&& (255 : Int32))), .val (.int (p2 &&& (255 : Int32))), .val (.int (1 : Int32)), .val (.int (0 : Int32)), .val (.int ((4 : Int32) + (1 : Int32))), .val (.ref b_q5), .val (.int ((0 : Int32) + (4 : Int32))), .val (.ref r_q8)] [(.ref r_q8)])) _
    refine XS.iconst X_q8.here hx rfl (hb hby at_144) ?_
    show Steps p.tables e below (T_q8.setTop (mkF m 145 #[.val (.int p1), .val (.int p2), .val (.int p3), .val (.int (p1 &&& (255 : Int32))), .val (.int (p2 &&& (255 : Int32))), .val (.int (1 : Int32)), .val (.int (0 : Int32)), .val (.int ((4 : Int32) + (1 : Int32))), .val (.ref b_q5), .val (.int ((0 : Int32) + (4 : Int32))), .val (.ref r_q8)] [(.int (0 : Int32)), (.ref r_q8)])) _
    refine X_q8.baloadBytes hx (j := (0 : Int32)) (v := (.int (nar .byte (nar .byte ((((F5_0 (nar .byte ((F2_0 (((p1 &&& (255 : Int32)).toUInt32 >>> ((4 : Int32) &&& 31).toUInt32).toInt32)).toInt8.toInt32))) <<< ((4 : Int32) &&& 31)) ||| (F5_0 (nar .byte ((F2_0 ((p1 &&& (255 : Int32)) &&& (15 : Int32))).toInt8.toInt32)))).toInt8.toInt32))))) (by exact Ar_q10.1) (State.isArrayOf_alike hZ.alike Ar_q10.2.1) Ar_q10.2.2 hin_q10 hat_q10 (g := (mkF m 145 #[.val (.int p1), .val (.int p2), .val (.int p3), .val (.int (p1 &&& (255 : Int32))), .val (.int (p2 &&& (255 : Int32))), .val (.int (1 : Int32)), .val (.int (0 : Int32)), .val (.int ((4 : Int32) + (1 : Int32))), .val (.ref b_q5), .val (.int ((0 : Int32) + (4 : Int32))), .val (.ref r_q8)] [(.int (0 : Int32)), (.ref r_q8)])) rfl rfl (hb hby at_145) _ ?_
    show Steps p.tables e below (T_q8.setTop (mkF m 146 #[.val (.int p1), .val (.int p2), .val (.int p3), .val (.int (p1 &&& (255 : Int32))), .val (.int (p2 &&& (255 : Int32))), .val (.int (1 : Int32)), .val (.int (0 : Int32)), .val (.int ((4 : Int32) + (1 : Int32))), .val (.ref b_q5), .val (.int ((0 : Int32) + (4 : Int32))), .val (.ref r_q8)] [(.int (nar .byte (nar .byte ((((F5_0 (nar .byte ((F2_0 (((p1 &&& (255 : Int32)).toUInt32 >>> ((4 : Int32) &&& 31).toUInt32).toInt32)).toInt8.toInt32))) <<< ((4 : Int32) &&& 31)) ||| (F5_0 (nar .byte ((F2_0 ((p1 &&& (255 : Int32)) &&& (15 : Int32))).toInt8.toInt32)))).toInt8.toInt32))))])) _
    refine XS.iloadN X_q8.here hx rfl (hb hby at_146) rfl ?_
    show Steps p.tables e below (T_q8.setTop (mkF m 147 #[.val (.int p1), .val (.int p2), .val (.int p3), .val (.int (p1 &&& (255 : Int32))), .val (.int (p2 &&& (255 : Int32))), .val (.int (1 : Int32)), .val (.int (0 : Int32)), .val (.int ((4 : Int32) + (1 : Int32))), .val (.ref b_q5), .val (.int ((0 : Int32) + (4 : Int32))), .val (.ref r_q8)] [(.int (p1 &&& (255 : Int32))), (.int (nar .byte (nar .byte ((((F5_0 (nar .byte ((F2_0 (((p1 &&& (255 : Int32)).toUInt32 >>> ((4 : Int32) &&& 31).toUInt32).toInt32)).toInt8.toInt32))) <<< ((4 : Int32) &&& 31)) ||| (F5_0 (nar .byte ((F2_0 ((p1 &&& (255 : Int32)) &&& (15 : Int32))).toInt8.toInt32)))).toInt8.toInt32))))])) _
    refine XS.i2b X_q8.here hx rfl (hb hby at_147) rfl ?_
    show Steps p.tables e below (T_q8.setTop (mkF m 148 #[.val (.int p1), .val (.int p2), .val (.int p3), .val (.int (p1 &&& (255 : Int32))), .val (.int (p2 &&& (255 : Int32))), .val (.int (1 : Int32)), .val (.int (0 : Int32)), .val (.int ((4 : Int32) + (1 : Int32))), .val (.ref b_q5), .val (.int ((0 : Int32) + (4 : Int32))), .val (.ref r_q8)] [(.int ((p1 &&& (255 : Int32)).toInt8.toInt32)), (.int (nar .byte (nar .byte ((((F5_0 (nar .byte ((F2_0 (((p1 &&& (255 : Int32)).toUInt32 >>> ((4 : Int32) &&& 31).toUInt32).toInt32)).toInt8.toInt32))) <<< ((4 : Int32) &&& 31)) ||| (F5_0 (nar .byte ((F2_0 ((p1 &&& (255 : Int32)) &&& (15 : Int32))).toInt8.toInt32)))).toInt8.toInt32))))])) _
    refine XS.icmpNo X_q8.here hx rfl (hb hby at_148) rfl (teq hc_q11).2 ?_
    show Steps p.tables e below (T_q8.setTop (mkF m 151 #[.val (.int p1), .val (.int p2), .val (.int p3), .val (.int (p1 &&& (255 : Int32))), .val (.int (p2 &&& (255 : Int32))), .val (.int (1 : Int32)), .val (.int (0 : Int32)), .val (.int ((4 : Int32) + (1 : Int32))), .val (.ref b_q5), .val (.int ((0 : Int32) + (4 : Int32))), .val (.ref r_q8)] [])) _
    refine XS.aload X_q8.here hx rfl (hb hby at_151) rfl rfl ?_
    show Steps p.tables e below (T_q8.setTop (mkF m 153 #[.val (.int p1), .val (.int p2), .val (.int p3), .val (.int (p1 &&& (255 : Int32))), .val (.int (p2 &&& (255 : Int32))), .val (.int (1 : Int32)), .val (.int (0 : Int32)), .val (.int ((4 : Int32) + (1 : Int32))), .val (.ref b_q5), .val (.int ((0 : Int32) + (4 : Int32))), .val (.ref r_q8)] [(.ref r_q8)])) _
    refine XS.iconst X_q8.here hx rfl (hb hby at_153) ?_
    show Steps p.tables e below (T_q8.setTop (mkF m 154 #[.val (.int p1), .val (.int p2), .val (.int p3), .val (.int (p1 &&& (255 : Int32))), .val (.int (p2 &&& (255 : Int32))), .val (.int (1 : Int32)), .val (.int (0 : Int32)), .val (.int ((4 : Int32) + (1 : Int32))), .val (.ref b_q5), .val (.int ((0 : Int32) + (4 : Int32))), .val (.ref r_q8)] [(.int (1 : Int32)), (.ref r_q8)])) _
    refine X_q8.baloadBytes hx (j := (1 : Int32)) (v := (.int (nar .byte (nar .byte ((p2 &&& (255 : Int32)).toInt8.toInt32))))) (by exact Ar_q12.1) (State.isArrayOf_alike hZ.alike Ar_q12.2.1) Ar_q12.2.2 hin_q12 hat_q12 (g := (mkF m 154 #[.val (.int p1), .val (.int p2), .val (.int p3), .val (.int (p1 &&& (255 : Int32))), .val (.int (p2 &&& (255 : Int32))), .val (.int (1 : Int32)), .val (.int (0 : Int32)), .val (.int ((4 : Int32) + (1 : Int32))), .val (.ref b_q5), .val (.int ((0 : Int32) + (4 : Int32))), .val (.ref r_q8)] [(.int (1 : Int32)), (.ref r_q8)])) rfl rfl (hb hby at_154) _ ?_
    show Steps p.tables e below (T_q8.setTop (mkF m 155 #[.val (.int p1), .val (.int p2), .val (.int p3), .val (.int (p1 &&& (255 : Int32))), .val (.int (p2 &&& (255 : Int32))), .val (.int (1 : Int32)), .val (.int (0 : Int32)), .val (.int ((4 : Int32) + (1 : Int32))), .val (.ref b_q5), .val (.int ((0 : Int32) + (4 : Int32))), .val (.ref r_q8)] [(.int (nar .byte (nar .byte ((p2 &&& (255 : Int32)).toInt8.toInt32))))])) _
    refine XS.iload X_q8.here hx rfl (hb hby at_155) rfl ?_
    show Steps p.tables e below (T_q8.setTop (mkF m 157 #[.val (.int p1), .val (.int p2), .val (.int p3), .val (.int (p1 &&& (255 : Int32))), .val (.int (p2 &&& (255 : Int32))), .val (.int (1 : Int32)), .val (.int (0 : Int32)), .val (.int ((4 : Int32) + (1 : Int32))), .val (.ref b_q5), .val (.int ((0 : Int32) + (4 : Int32))), .val (.ref r_q8)] [(.int (p2 &&& (255 : Int32))), (.int (nar .byte (nar .byte ((p2 &&& (255 : Int32)).toInt8.toInt32))))])) _
    refine XS.i2b X_q8.here hx rfl (hb hby at_157) rfl ?_
    show Steps p.tables e below (T_q8.setTop (mkF m 158 #[.val (.int p1), .val (.int p2), .val (.int p3), .val (.int (p1 &&& (255 : Int32))), .val (.int (p2 &&& (255 : Int32))), .val (.int (1 : Int32)), .val (.int (0 : Int32)), .val (.int ((4 : Int32) + (1 : Int32))), .val (.ref b_q5), .val (.int ((0 : Int32) + (4 : Int32))), .val (.ref r_q8)] [(.int ((p2 &&& (255 : Int32)).toInt8.toInt32)), (.int (nar .byte (nar .byte ((p2 &&& (255 : Int32)).toInt8.toInt32))))])) _
    refine XS.icmpNo X_q8.here hx rfl (hb hby at_158) rfl (teq hc_q13).2 ?_
    show Steps p.tables e below (T_q8.setTop (mkF m 161 #[.val (.int p1), .val (.int p2), .val (.int p3), .val (.int (p1 &&& (255 : Int32))), .val (.int (p2 &&& (255 : Int32))), .val (.int (1 : Int32)), .val (.int (0 : Int32)), .val (.int ((4 : Int32) + (1 : Int32))), .val (.ref b_q5), .val (.int ((0 : Int32) + (4 : Int32))), .val (.ref r_q8)] [])) _
    refine XS.iconst X_q8.here hx rfl (hb hby at_161) ?_
    show Steps p.tables e below (T_q8.setTop (mkF m 162 #[.val (.int p1), .val (.int p2), .val (.int p3), .val (.int (p1 &&& (255 : Int32))), .val (.int (p2 &&& (255 : Int32))), .val (.int (1 : Int32)), .val (.int (0 : Int32)), .val (.int ((4 : Int32) + (1 : Int32))), .val (.ref b_q5), .val (.int ((0 : Int32) + (4 : Int32))), .val (.ref r_q8)] [(.int (1 : Int32))])) _
    refine XS.goto X_q8.here hx rfl (pc0 := 162) (pc' := 166) rfl (hb hby at_162) (by decide) (by decide) ?_
    show Steps p.tables e below (T_q8.setTop (mkF m 166 #[.val (.int p1), .val (.int p2), .val (.int p3), .val (.int (p1 &&& (255 : Int32))), .val (.int (p2 &&& (255 : Int32))), .val (.int (1 : Int32)), .val (.int (0 : Int32)), .val (.int ((4 : Int32) + (1 : Int32))), .val (.ref b_q5), .val (.int ((0 : Int32) + (4 : Int32))), .val (.ref r_q8)] [(.int (1 : Int32))])) _
    exact retN X_q8 hx (t := .boolean) Bd.returns (by simp) (hb hby at_166) hr
  · show Q_law Z p1 p2 p3 h0 n0 _ T_q8.heap _
    exact ⟨rfl, N_q8⟩
set_option maxRecDepth 65536 in
set_option maxHeartbeats 40000000 in
theorem rm0_ft_t (l : Launch) (Z : State) (a0 : Array Value) (hw : ∀ d ∈ tables_1, d.before a0 Z = true) (ws : List Jvm.Cond) (p1 : Int32) (p2 : Int32) (p3 : Int32) (h0 : Heap) (n0 : Nat) (Z0 : n0 ≤ h0.size) (hc_q1 : (p3 &&& (1 : Int32)) = (0 : Int32)) (hc_q2 : ¬ ((p1 &&& (255 : Int32)) = (92 : Int32))) (hc_q3 : ¬ ((p3 &&& (2 : Int32)) = (0 : Int32))) (hd_hc_q5 : ¬ ((nar .byte ((p1 &&& (255 : Int32)).toInt8.toInt32)) = (92 : Int32))) (hd_he_q10_hc_q7 : ¬ ((F5_0 (nar .byte ((F2_0 (((p2 &&& (255 : Int32)).toUInt32 >>> ((4 : Int32) &&& 31).toUInt32).toInt32)).toInt8.toInt32))) < (0 : Int32))) (hd_he_q10_hc_q8 : ¬ ((F5_0 (nar .byte ((F2_0 ((p2 &&& (255 : Int32)) &&& (15 : Int32))).toInt8.toInt32))) < (0 : Int32))) (hc_q10 : (nar .byte (nar .byte ((p1 &&& (255 : Int32)).toInt8.toInt32))) = ((p1 &&& (255 : Int32)).toInt8.toInt32)) (hc_q12 : (nar .byte (nar .byte ((((F5_0 (nar .byte ((F2_0 (((p2 &&& (255 : Int32)).toUInt32 >>> ((4 : Int32) &&& 31).toUInt32).toInt32)).toInt8.toInt32))) <<< ((4 : Int32) &&& 31)) ||| (F5_0 (nar .byte ((F2_0 ((p2 &&& (255 : Int32)) &&& (15 : Int32))).toInt8.toInt32)))).toInt8.toInt32))) = ((p2 &&& (255 : Int32)).toInt8.toInt32)) :
    MetFree l x (head1 (Jvm.Cond.code x code maxLocals ret :: ws) room_1) (fun a U => a = #[(.int p1), (.int p2), (.int p3)] ∧ Z.Warmed39 U.vm ∧ U.heap = h0) (fun _ _ _ _ _ => True) (fun _ U o U' => ∃ v L, o = .returned v ∧ Q_law Z p1 p2 p3 h0 n0 v U'.heap L ∧ FrameEnd U o U' L room_1.cells room_1.slots) := by
  refine MetFree.of_bodySF (plainFor_of_name pn_0) hisR ?_
  intro p e s m args below meth c s₁ Bd hml0 hP hK
  obtain ⟨rfl, hZ, hh⟩ := hP
  have hx := Bd.exec
  have hby := Bd.bytes
  have hml : c.maxLocals = 11 := hml0
  have hown : s.vm.findClass "com/example/presplit/presplit/escape/BinaryEscapeDecodePinLaw" = some m.cls := findClass_of_methodNamed Bd.named
  have hnm := (name_of_methodNamed Bd.named Bd.method).1
  have X0 : Stand p l e room_1 s m #[(.int p1), (.int p2), (.int p3)] below meth c s₁ [] 0 0 := Stand.of_body Bd
  have e0 : s₁.heap = h0 := by rw [← hh, Bd.state]; rfl
  have N0 := Fr.nil n0
  have pre0 : ∀ t, Steps p.tables e below (s₁.setTop (mkF m 0 #[.val (.int p1), .val (.int p2), .val (.int p3), .unset, .unset, .unset, .unset, .unset, .unset, .unset, .unset] [])) t → Steps p.tables e below (s₁.setTop (entryFrame m #[(.int p1), (.int p2), (.int p3)] maxLocals)) t := fun t k => castTop (ef_0 m p1 p2 p3) k
  have K0 : Keep h0 h0 [] := Keep.refl _ _
  obtain ⟨T_q4, h_q4, k_q4, X_q4, e_q4, E_q4, A_q4, EX_q4, st_q4⟩ := newPE X0 hx hZ (hw _ (List.mem_of_getElem? (i := 0) rfl)) e0 (g := (mkF m 94 #[.val (.int p1), .val (.int p2), .val (.int p3), .val (.int (p1 &&& (255 : Int32))), .val (.int (p2 &&& (255 : Int32))), .val (.int (0 : Int32)), .val (.int (1 : Int32)), .val (.int ((1 : Int32) + (4 : Int32))), .unset, .unset, .unset] [(.int (5 : Int32))])) rfl (hb hby at_94) rfl (by decide) (cap := 5) (by decide) (by decide) (by decide) (by decide) (ad := "[B") (by decide)
  obtain ⟨b_q4, g_q4⟩ : ∃ z, z = h0.size := ⟨_, rfl⟩
  rw [← g_q4] at A_q4 EX_q4 st_q4
  have ge_b_q4 : n0 ≤ b_q4 := Nat.le_trans (Nat.le_trans Z0 K0.1) (Nat.le_of_eq g_q4.symm)
  have sz_b_q4 : h0.size ≤ b_q4 := Nat.le_trans K0.1 (Nat.le_of_eq g_q4.symm)
  have K_q4 : Keep h0 h_q4 [] := K0.ext E_q4
  have V_b_q4 : Arv Z h_q4 b_q4 k_q4 .byte (5 : Int32) [(.int (0 : Int32)), (.int (0 : Int32)), (.int (0 : Int32)), (.int (0 : Int32)), (.int (0 : Int32))] (.int (0 : Int32)) := (Arv.new A_q4 (by decide)).pad (pad_rep [] (.int (0 : Int32)) 5)
  obtain ⟨_, _, ⟨T_q5, L_q5, k_q5, n_q5⟩, -, X_q5, ⟨Lc_q5, hQ_q5, l_q5, y_q5, z_q5⟩, st_q5⟩ := Jvm.LawKit.callS X_q4 hx (y := (⟨"com/example/presplit/presplit/escape/BinaryEscapeDecodePinLaw", "put", "([BIIZ)I"⟩ : MethodName)) hown (mvT hZ (hw _ (List.mem_of_getElem? (i := 1) rfl))) (mvT hZ (hw _ (List.mem_of_getElem? (i := 2) rfl))) (mvT hZ (hw _ (List.mem_of_getElem? (i := 3) rfl))) (mvT hZ (hw _ (List.mem_of_getElem? (i := 4) rfl))) (by decide) (backOf (W := 0) (rm1_5_0_0 l Z a0 hw [] b_q4 k_q4 (.int (0 : Int32)) (.int (0 : Int32)) (.int (0 : Int32)) (.int (0 : Int32)) (.int (0 : Int32)) (p1 &&& (255 : Int32)) h_q4 n0 (Nat.le_trans Z0 K_q4.1) V_b_q4 ge_b_q4) hZ (hw _ (List.mem_of_getElem? (i := 4) rfl)) (hw _ (List.mem_of_getElem? (i := 3) rfl)) (by decide) (by decide)) (g := (mkF m 111 #[.val (.int p1), .val (.int p2), .val (.int p3), .val (.int (p1 &&& (255 : Int32))), .val (.int (p2 &&& (255 : Int32))), .val (.int (0 : Int32)), .val (.int (1 : Int32)), .val (.int ((1 : Int32) + (4 : Int32))), .val (.ref b_q4), .unset, .unset] [(.int (0 : Int32)), (.int (p1 &&& (255 : Int32))), (.int (0 : Int32)), (.ref b_q4)])) rfl (by rw [hml]; rfl) (argsL := [(.ref b_q4), (.int (0 : Int32)), (.int (p1 &&& (255 : Int32))), (.int (0 : Int32))]) (rest := []) (lenOf pd___BIIZ_I rfl) rfl (by show 2 * 0 + _ ≤ _; exact Nat.le_of_eq rfl) (hb hby at_111) (fun _ _ => ⟨rfl, e_q4, (by decide : 1 + 0 ≤ _), (by decide : 5 + 0 ≤ _)⟩)
  dsimp only [Pt.U, Pt.locs, Pt.cells, Pt.slots] at X_q5 l_q5 y_q5 z_q5 st_q5 hQ_q5
  subst l_q5 y_q5 z_q5
  obtain ⟨rfl, Nq_q5, Kq_q5, Vq_q5⟩ := hQ_q5
  have N_q5 := Fr.app N0 Nq_q5
  have EX_q4__q5 := EX_q4.keep Kq_q5
  have K_q5 : Keep h0 T_q5.heap [] := K_q4.trans Kq_q5 (fun x hx => Or.inr (by cases List.mem_singleton.mp hx; exact sz_b_q4))
  obtain ⟨_, _, ⟨T_q6, L_q6, k_q6, n_q6⟩, -, X_q6, ⟨Lc_q6, hQ_q6, l_q6, y_q6, z_q6⟩, st_q6⟩ := Jvm.LawKit.callS X_q5 hx (y := (⟨"com/example/presplit/presplit/escape/BinaryEscapeDecodePinLaw", "put", "([BIIZ)I"⟩ : MethodName)) hown (mvT hZ (hw _ (List.mem_of_getElem? (i := 1) rfl))) (mvT hZ (hw _ (List.mem_of_getElem? (i := 2) rfl))) (mvT hZ (hw _ (List.mem_of_getElem? (i := 3) rfl))) (mvT hZ (hw _ (List.mem_of_getElem? (i := 4) rfl))) (by decide) (backOf (W := 0) (rm1_5_1_1 l Z a0 hw [] b_q4 k_q4 (.int (nar .byte ((p1 &&& (255 : Int32)).toInt8.toInt32))) (.int (0 : Int32)) (.int (0 : Int32)) (.int (0 : Int32)) (.int (0 : Int32)) (p2 &&& (255 : Int32)) T_q5.heap n0 (Nat.le_trans Z0 K_q5.1) Vq_q5 ge_b_q4) hZ (hw _ (List.mem_of_getElem? (i := 4) rfl)) (hw _ (List.mem_of_getElem? (i := 3) rfl)) (by decide) (by decide)) (g := (mkF m 124 #[.val (.int p1), .val (.int p2), .val (.int p3), .val (.int (p1 &&& (255 : Int32))), .val (.int (p2 &&& (255 : Int32))), .val (.int (0 : Int32)), .val (.int (1 : Int32)), .val (.int ((1 : Int32) + (4 : Int32))), .val (.ref b_q4), .val (.int ((0 : Int32) + (1 : Int32))), .unset] [(.int (1 : Int32)), (.int (p2 &&& (255 : Int32))), (.int ((0 : Int32) + (1 : Int32))), (.ref b_q4)])) rfl (by rw [hml]; rfl) (argsL := [(.ref b_q4), (.int ((0 : Int32) + (1 : Int32))), (.int (p2 &&& (255 : Int32))), (.int (1 : Int32))]) (rest := []) (lenOf pd___BIIZ_I rfl) rfl (by show 2 * 0 + _ ≤ _; exact Nat.le_of_eq rfl) (hb hby at_124) (fun _ _ => ⟨rfl, rfl, (by decide : 1 + 0 ≤ _), (by decide : 5 + 0 ≤ _)⟩)
  dsimp only [Pt.U, Pt.locs, Pt.cells, Pt.slots] at X_q6 l_q6 y_q6 z_q6 st_q6 hQ_q6
  subst l_q6 y_q6 z_q6
  obtain ⟨rfl, Nq_q6, Kq_q6, Vq_q6⟩ := hQ_q6
  have N_q6 := Fr.app N_q5 Nq_q6
  have EX_q4__q6 := EX_q4__q5.keep Kq_q6
  have K_q6 : Keep h0 T_q6.heap [] := K_q5.trans Kq_q6 (fun x hx => Or.inr (by cases List.mem_singleton.mp hx; exact sz_b_q4))
  have VD_q7 : Arv Z T_q6.heap b_q4 k_q4 .byte (5 : Int32) [(.int (nar .byte ((p1 &&& (255 : Int32)).toInt8.toInt32))), (.int (92 : Int32)), (.int (120 : Int32)), (.int (nar .byte ((F2_0 (((p2 &&& (255 : Int32)).toUInt32 >>> ((4 : Int32) &&& 31).toUInt32).toInt32)).toInt8.toInt32))), (.int (nar .byte ((F2_0 ((p2 &&& (255 : Int32)) &&& (15 : Int32))).toInt8.toInt32)))] (.int (0 : Int32)) := Vq_q6
  obtain ⟨_, _, ⟨T_q7, L_q7, k_q7, n_q7⟩, -, X_q7, ⟨Lc_q7, hQ_q7, l_q7, y_q7, z_q7⟩, st_q7⟩ := Jvm.LawKit.callS X_q6 hx (y := (⟨"com/example/presplit/presplit/escape/BinaryEscape", "decode", "([B)[B"⟩ : MethodName)) hown (mvT hZ (hw _ (List.mem_of_getElem? (i := 8) rfl))) (mvT hZ (hw _ (List.mem_of_getElem? (i := 9) rfl))) (mvT hZ (hw _ (List.mem_of_getElem? (i := 10) rfl))) (mvT hZ (hw _ (List.mem_of_getElem? (i := 11) rfl))) (by decide) (backOf (W := 0) (rm3_01 l Z a0 hw [] b_q4 k_q4 (nar .byte ((p1 &&& (255 : Int32)).toInt8.toInt32)) (nar .byte ((F2_0 (((p2 &&& (255 : Int32)).toUInt32 >>> ((4 : Int32) &&& 31).toUInt32).toInt32)).toInt8.toInt32)) (nar .byte ((F2_0 ((p2 &&& (255 : Int32)) &&& (15 : Int32))).toInt8.toInt32)) T_q6.heap n0 (Nat.le_trans Z0 K_q6.1) VD_q7 hd_hc_q5 hd_he_q10_hc_q7 hd_he_q10_hc_q8) hZ (hw _ (List.mem_of_getElem? (i := 11) rfl)) (hw _ (List.mem_of_getElem? (i := 10) rfl)) (by decide) (by decide)) (g := (mkF m 130 #[.val (.int p1), .val (.int p2), .val (.int p3), .val (.int (p1 &&& (255 : Int32))), .val (.int (p2 &&& (255 : Int32))), .val (.int (0 : Int32)), .val (.int (1 : Int32)), .val (.int ((1 : Int32) + (4 : Int32))), .val (.ref b_q4), .val (.int ((0 : Int32) + (1 : Int32))), .unset] [(.ref b_q4)])) rfl (by rw [hml]; rfl) (argsL := [(.ref b_q4)]) (rest := []) (lenOf pd___B__B rfl) rfl (by show 2 * 0 + _ ≤ _; exact Nat.le_of_eq rfl) (hb hby at_130) (fun _ _ => ⟨rfl, rfl, (by decide : 1 + 2 ≤ _), (by decide : 5 + 7 ≤ _)⟩)
  dsimp only [Pt.U, Pt.locs, Pt.cells, Pt.slots] at X_q7 l_q7 y_q7 z_q7 st_q7 hQ_q7
  subst l_q7 y_q7 z_q7
  obtain ⟨r_q7, kr_q7, rfl, Nq_q7, Kq_q7, Vr_q7⟩ := hQ_q7
  have N_q7 := Fr.app N_q6 Nq_q7
  have EX_q4__q7 := EX_q4__q6.keep Kq_q7
  have Vq_q6__q7 := Vq_q6.keep Kq_q7 List.not_mem_nil
  have K_q7 : Keep h0 T_q7.heap [] := K_q6.trans Kq_q7 (fun x hx => nomatch hx)
  obtain ⟨cl_q8, Ar_q8, qk_q8, S_q8, Nn_q8, H_q8, G_q8⟩ := id Vr_q7
  obtain ⟨cl_q9, Ar_q9, qk_q9, S_q9, Nn_q9, H_q9, G_q9⟩ := id Vr_q7
  have hin_q9 : ¬ ((0 : Int32) < 0 ∨ cl_q9.slots.size ≤ ((0 : Int32)).toNatClampNeg) := inb_of S_q9 ⟨by decide, by decide⟩
  have hat_q9 : cl_q9.slots[((0 : Int32)).toNatClampNeg]? = some (.int (nar .byte (nar .byte ((p1 &&& (255 : Int32)).toInt8.toInt32)))) := H_q9 0 (Nat.lt_of_not_le fun q => hin_q9 (Or.inr q))
  obtain ⟨cl_q11, Ar_q11, qk_q11, S_q11, Nn_q11, H_q11, G_q11⟩ := id Vr_q7
  have hin_q11 : ¬ ((1 : Int32) < 0 ∨ cl_q11.slots.size ≤ ((1 : Int32)).toNatClampNeg) := inb_of S_q11 ⟨by decide, by decide⟩
  have hat_q11 : cl_q11.slots[((1 : Int32)).toNatClampNeg]? = some (.int (nar .byte (nar .byte ((((F5_0 (nar .byte ((F2_0 (((p2 &&& (255 : Int32)).toUInt32 >>> ((4 : Int32) &&& 31).toUInt32).toInt32)).toInt8.toInt32))) <<< ((4 : Int32) &&& 31)) ||| (F5_0 (nar .byte ((F2_0 ((p2 &&& (255 : Int32)) &&& (15 : Int32))).toInt8.toInt32)))).toInt8.toInt32)))) := H_q11 1 (Nat.lt_of_not_le fun q => hin_q11 (Or.inr q))
  obtain ⟨fs, hr, hrun, hended, hW, hsame⟩ := X_q7.leave (v := some (.int (1 : Int32))) (fun h => by rw [Bd.returns] at h; cases h) Bd.notSynchronized
  refine ⟨_, _, pre0 _ ?_, hrun, hended, _, _, rfl, ?_, ⟨_, rfl⟩, hW, hsame.mono (by decide) (by decide)⟩
  · show Steps p.tables e below (s₁.setTop (mkF m 0 #[.val (.int p1), .val (.int p2), .val (.int p3), .unset, .unset, .unset, .unset, .unset, .unset, .unset, .unset] [])) _
    refine XS.iloadN X0.here hx rfl (hb hby at_0) rfl ?_
    show Steps p.tables e below (s₁.setTop (mkF m 1 #[.val (.int p1), .val (.int p2), .val (.int p3), .unset, .unset, .unset, .unset, .unset, .unset, .unset, .unset] [(.int p1)])) _
    refine XS.sipush X0.here hx rfl (hb hby at_1) ?_
    show Steps p.tables e below (s₁.setTop (mkF m 4 #[.val (.int p1), .val (.int p2), .val (.int p3), .unset, .unset, .unset, .unset, .unset, .unset, .unset, .unset] [(.int (255 : Int32)), (.int p1)])) _
    refine XS.iand X0.here hx rfl (hb hby at_4) rfl ?_
    show Steps p.tables e below (s₁.setTop (mkF m 5 #[.val (.int p1), .val (.int p2), .val (.int p3), .unset, .unset, .unset, .unset, .unset, .unset, .unset, .unset] [(.int (p1 &&& (255 : Int32)))])) _
    refine XS.istoreN X0.here hx rfl (hb hby at_5) rfl (l' := #[.val (.int p1), .val (.int p2), .val (.int p3), .val (.int (p1 &&& (255 : Int32))), .unset, .unset, .unset, .unset, .unset, .unset, .unset]) rfl ?_
    show Steps p.tables e below (s₁.setTop (mkF m 6 #[.val (.int p1), .val (.int p2), .val (.int p3), .val (.int (p1 &&& (255 : Int32))), .unset, .unset, .unset, .unset, .unset, .unset, .unset] [])) _
    refine XS.iloadN X0.here hx rfl (hb hby at_6) rfl ?_
    show Steps p.tables e below (s₁.setTop (mkF m 7 #[.val (.int p1), .val (.int p2), .val (.int p3), .val (.int (p1 &&& (255 : Int32))), .unset, .unset, .unset, .unset, .unset, .unset, .unset] [(.int p2)])) _
    refine XS.sipush X0.here hx rfl (hb hby at_7) ?_
    show Steps p.tables e below (s₁.setTop (mkF m 10 #[.val (.int p1), .val (.int p2), .val (.int p3), .val (.int (p1 &&& (255 : Int32))), .unset, .unset, .unset, .unset, .unset, .unset, .unset] [(.int (255 : Int32)), (.int p2)])) _
    refine XS.iand X0.here hx rfl (hb hby at_10) rfl ?_
    show Steps p.tables e below (s₁.setTop (mkF m 11 #[.val (.int p1), .val (.int p2), .val (.int p3), .val (.int (p1 &&& (255 : Int32))), .unset, .unset, .unset, .unset, .unset, .unset, .unset] [(.int (p2 &&& (255 : Int32)))])) _
    refine XS.istore X0.here hx rfl (hb hby at_11) rfl (l' := #[.val (.int p1), .val (.int p2), .val (.int p3), .val (.int (p1 &&& (255 : Int32))), .val (.int (p2 &&& (255 : Int32))), .unset, .unset, .unset, .unset, .unset, .unset]) rfl ?_
    show Steps p.tables e below (s₁.setTop (mkF m 13 #[.val (.int p1), .val (.int p2), .val (.int p3), .val (.int (p1 &&& (255 : Int32))), .val (.int (p2 &&& (255 : Int32))), .unset, .unset, .unset, .unset, .unset, .unset] [])) _
    refine XS.iloadN X0.here hx rfl (hb hby at_13) rfl ?_
    show Steps p.tables e below (s₁.setTop (mkF m 14 #[.val (.int p1), .val (.int p2), .val (.int p3), .val (.int (p1 &&& (255 : Int32))), .val (.int (p2 &&& (255 : Int32))), .unset, .unset, .unset, .unset, .unset, .unset] [(.int p3)])) _
    refine XS.iconst X0.here hx rfl (hb hby at_14) ?_
    show Steps p.tables e below (s₁.setTop (mkF m 15 #[.val (.int p1), .val (.int p2), .val (.int p3), .val (.int (p1 &&& (255 : Int32))), .val (.int (p2 &&& (255 : Int32))), .unset, .unset, .unset, .unset, .unset, .unset] [(.int (1 : Int32)), (.int p3)])) _
    refine XS.iand X0.here hx rfl (hb hby at_15) rfl ?_
    show Steps p.tables e below (s₁.setTop (mkF m 16 #[.val (.int p1), .val (.int p2), .val (.int p3), .val (.int (p1 &&& (255 : Int32))), .val (.int (p2 &&& (255 : Int32))), .unset, .unset, .unset, .unset, .unset, .unset] [(.int (p3 &&& (1 : Int32)))])) _
    refine XS.ifNo X0.here hx rfl (hb hby at_16) rfl ((if0 _ _).trans (teq hc_q1).2) ?_
    show Steps p.tables e below (s₁.setTop (mkF m 19 #[.val (.int p1), .val (.int p2), .val (.int p3), .val (.int (p1 &&& (255 : Int32))), .val (.int (p2 &&& (255 : Int32))), .unset, .unset, .unset, .unset, .unset, .unset] [])) _
    refine XS.iloadN X0.here hx rfl (hb hby at_19) rfl ?_
    show Steps p.tables e below (s₁.setTop (mkF m 20 #[.val (.int p1), .val (.int p2), .val (.int p3), .val (.int (p1 &&& (255 : Int32))), .val (.int (p2 &&& (255 : Int32))), .unset, .unset, .unset, .unset, .unset, .unset] [(.int (p1 &&& (255 : Int32)))])) _
    refine XS.bipush X0.here hx rfl (hb hby at_20) ?_
    show Steps p.tables e below (s₁.setTop (mkF m 22 #[.val (.int p1), .val (.int p2), .val (.int p3), .val (.int (p1 &&& (255 : Int32))), .val (.int (p2 &&& (255 : Int32))), .unset, .unset, .unset, .unset, .unset, .unset] [(.int (92 : Int32)), (.int (p1 &&& (255 : Int32)))])) _
    refine XS.icmpYes X0.here hx rfl (pc0 := 22) (pc' := 29) rfl (hb hby at_22) rfl (feq hc_q2).2 (by decide) (by decide) ?_
    show Steps p.tables e below (s₁.setTop (mkF m 29 #[.val (.int p1), .val (.int p2), .val (.int p3), .val (.int (p1 &&& (255 : Int32))), .val (.int (p2 &&& (255 : Int32))), .unset, .unset, .unset, .unset, .unset, .unset] [])) _
    refine XS.iconst X0.here hx rfl (hb hby at_29) ?_
    show Steps p.tables e below (s₁.setTop (mkF m 30 #[.val (.int p1), .val (.int p2), .val (.int p3), .val (.int (p1 &&& (255 : Int32))), .val (.int (p2 &&& (255 : Int32))), .unset, .unset, .unset, .unset, .unset, .unset] [(.int (0 : Int32))])) _
    refine XS.istore X0.here hx rfl (hb hby at_30) rfl (l' := #[.val (.int p1), .val (.int p2), .val (.int p3), .val (.int (p1 &&& (255 : Int32))), .val (.int (p2 &&& (255 : Int32))), .val (.int (0 : Int32)), .unset, .unset, .unset, .unset, .unset]) rfl ?_
    show Steps p.tables e below (s₁.setTop (mkF m 32 #[.val (.int p1), .val (.int p2), .val (.int p3), .val (.int (p1 &&& (255 : Int32))), .val (.int (p2 &&& (255 : Int32))), .val (.int (0 : Int32)), .unset, .unset, .unset, .unset, .unset] [])) _
    refine XS.iloadN X0.here hx rfl (hb hby at_32) rfl ?_
    show Steps p.tables e below (s₁.setTop (mkF m 33 #[.val (.int p1), .val (.int p2), .val (.int p3), .val (.int (p1 &&& (255 : Int32))), .val (.int (p2 &&& (255 : Int32))), .val (.int (0 : Int32)), .unset, .unset, .unset, .unset, .unset] [(.int p3)])) _
    refine XS.iconst X0.here hx rfl (hb hby at_33) ?_
    show Steps p.tables e below (s₁.setTop (mkF m 34 #[.val (.int p1), .val (.int p2), .val (.int p3), .val (.int (p1 &&& (255 : Int32))), .val (.int (p2 &&& (255 : Int32))), .val (.int (0 : Int32)), .unset, .unset, .unset, .unset, .unset] [(.int (2 : Int32)), (.int p3)])) _
    refine XS.iand X0.here hx rfl (hb hby at_34) rfl ?_
    show Steps p.tables e below (s₁.setTop (mkF m 35 #[.val (.int p1), .val (.int p2), .val (.int p3), .val (.int (p1 &&& (255 : Int32))), .val (.int (p2 &&& (255 : Int32))), .val (.int (0 : Int32)), .unset, .unset, .unset, .unset, .unset] [(.int (p3 &&& (2 : Int32)))])) _
    refine XS.ifYes X0.here hx rfl (pc0 := 35) (pc' := 45) rfl (hb hby at_35) rfl ((if0 _ _).trans (feq hc_q3).2) (by decide) (by decide) ?_
    show Steps p.tables e below (s₁.setTop (mkF m 45 #[.val (.int p1), .val (.int p2), .val (.int p3), .val (.int (p1 &&& (255 : Int32))), .val (.int (p2 &&& (255 : Int32))), .val (.int (0 : Int32)), .unset, .unset, .unset, .unset, .unset] [])) _
    refine XS.iconst X0.here hx rfl (hb hby at_45) ?_
    show Steps p.tables e below (s₁.setTop (mkF m 46 #[.val (.int p1), .val (.int p2), .val (.int p3), .val (.int (p1 &&& (255 : Int32))), .val (.int (p2 &&& (255 : Int32))), .val (.int (0 : Int32)), .unset, .unset, .unset, .unset, .unset] [(.int (1 : Int32))])) _
    refine XS.goto X0.here hx rfl (pc0 := 46) (pc' := 50) rfl (hb hby at_46) (by decide) (by decide) ?_
    show Steps p.tables e below (s₁.setTop (mkF m 50 #[.val (.int p1), .val (.int p2), .val (.int p3), .val (.int (p1 &&& (255 : Int32))), .val (.int (p2 &&& (255 : Int32))), .val (.int (0 : Int32)), .unset, .unset, .unset, .unset, .unset] [(.int (1 : Int32))])) _
    refine XS.istore X0.here hx rfl (hb hby at_50) rfl (l' := #[.val (.int p1), .val (.int p2), .val (.int p3), .val (.int (p1 &&& (255 : Int32))), .val (.int (p2 &&& (255 : Int32))), .val (.int (0 : Int32)), .val (.int (1 : Int32)), .unset, .unset, .unset, .unset]) rfl ?_
    show Steps p.tables e below (s₁.setTop (mkF m 52 #[.val (.int p1), .val (.int p2), .val (.int p3), .val (.int (p1 &&& (255 : Int32))), .val (.int (p2 &&& (255 : Int32))), .val (.int (0 : Int32)), .val (.int (1 : Int32)), .unset, .unset, .unset, .unset] [])) _
    refine XS.iload X0.here hx rfl (hb hby at_52) rfl ?_
    show Steps p.tables e below (s₁.setTop (mkF m 54 #[.val (.int p1), .val (.int p2), .val (.int p3), .val (.int (p1 &&& (255 : Int32))), .val (.int (p2 &&& (255 : Int32))), .val (.int (0 : Int32)), .val (.int (1 : Int32)), .unset, .unset, .unset, .unset] [(.int (0 : Int32))])) _
    refine XS.ifYes X0.here hx rfl (pc0 := 54) (pc' := 61) rfl (hb hby at_54) rfl ((if0 _ _).trans (teq (by decide : (0 : Int32) = (0 : Int32))).1) (by decide) (by decide) ?_
    show Steps p.tables e below (s₁.setTop (mkF m 61 #[.val (.int p1), .val (.int p2), .val (.int p3), .val (.int (p1 &&& (255 : Int32))), .val (.int (p2 &&& (255 : Int32))), .val (.int (0 : Int32)), .val (.int (1 : Int32)), .unset, .unset, .unset, .unset] [])) _
    refine XS.iconst X0.here hx rfl (hb hby at_61) ?_
    show Steps p.tables e below (s₁.setTop (mkF m 62 #[.val (.int p1), .val (.int p2), .val (.int p3), .val (.int (p1 &&& (255 : Int32))), .val (.int (p2 &&& (255 : Int32))), .val (.int (0 : Int32)), .val (.int (1 : Int32)), .unset, .unset, .unset, .unset] [(.int (1 : Int32))])) _
    refine XS.iload X0.here hx rfl (hb hby at_62) rfl ?_
    show Steps p.tables e below (s₁.setTop (mkF m 64 #[.val (.int p1), .val (.int p2), .val (.int p3), .val (.int (p1 &&& (255 : Int32))), .val (.int (p2 &&& (255 : Int32))), .val (.int (0 : Int32)), .val (.int (1 : Int32)), .unset, .unset, .unset, .unset] [(.int (1 : Int32)), (.int (1 : Int32))])) _
    refine XS.ifNo X0.here hx rfl (hb hby at_64) rfl ((if0 _ _).trans (feq (by decide : ¬ ((1 : Int32) = (0 : Int32)))).1) ?_
    show Steps p.tables e below (s₁.setTop (mkF m 67 #[.val (.int p1), .val (.int p2), .val (.int p3), .val (.int (p1 &&& (255 : Int32))), .val (.int (p2 &&& (255 : Int32))), .val (.int (0 : Int32)), .val (.int (1 : Int32)), .unset, .unset, .unset, .unset] [(.int (1 : Int32))])) _
    refine XS.iconst X0.here hx rfl (hb hby at_67) ?_
    show Steps p.tables e below (s₁.setTop (mkF m 68 #[.val (.int p1), .val (.int p2), .val (.int p3), .val (.int (p1 &&& (255 : Int32))), .val (.int (p2 &&& (255 : Int32))), .val (.int (0 : Int32)), .val (.int (1 : Int32)), .unset, .unset, .unset, .unset] [(.int (4 : Int32)), (.int (1 : Int32))])) _
    refine XS.goto X0.here hx rfl (pc0 := 68) (pc' := 72) rfl (hb hby at_68) (by decide) (by decide) ?_
    show Steps p.tables e below (s₁.setTop (mkF m 72 #[.val (.int p1), .val (.int p2), .val (.int p3), .val (.int (p1 &&& (255 : Int32))), .val (.int (p2 &&& (255 : Int32))), .val (.int (0 : Int32)), .val (.int (1 : Int32)), .unset, .unset, .unset, .unset] [(.int (4 : Int32)), (.int (1 : Int32))])) _
    refine XS.iadd X0.here hx rfl (hb hby at_72) rfl ?_
    show Steps p.tables e below (s₁.setTop (mkF m 73 #[.val (.int p1), .val (.int p2), .val (.int p3), .val (.int (p1 &&& (255 : Int32))), .val (.int (p2 &&& (255 : Int32))), .val (.int (0 : Int32)), .val (.int (1 : Int32)), .unset, .unset, .unset, .unset] [(.int ((1 : Int32) + (4 : Int32)))])) _
    refine XS.istore X0.here hx rfl (hb hby at_73) rfl (l' := #[.val (.int p1), .val (.int p2), .val (.int p3), .val (.int (p1 &&& (255 : Int32))), .val (.int (p2 &&& (255 : Int32))), .val (.int (0 : Int32)), .val (.int (1 : Int32)), .val (.int ((1 : Int32) + (4 : Int32))), .unset, .unset, .unset]) rfl ?_
    show Steps p.tables e below (s₁.setTop (mkF m 75 #[.val (.int p1), .val (.int p2), .val (.int p3), .val (.int (p1 &&& (255 : Int32))), .val (.int (p2 &&& (255 : Int32))), .val (.int (0 : Int32)), .val (.int (1 : Int32)), .val (.int ((1 : Int32) + (4 : Int32))), .unset, .unset, .unset] [])) _
    refine XS.iload X0.here hx rfl (hb hby at_75) rfl ?_
    show Steps p.tables e below (s₁.setTop (mkF m 77 #[.val (.int p1), .val (.int p2), .val (.int p3), .val (.int (p1 &&& (255 : Int32))), .val (.int (p2 &&& (255 : Int32))), .val (.int (0 : Int32)), .val (.int (1 : Int32)), .val (.int ((1 : Int32) + (4 : Int32))), .unset, .unset, .unset] [(.int ((1 : Int32) + (4 : Int32)))])) _
    refine XS.iconst X0.here hx rfl (hb hby at_77) ?_
    show Steps p.tables e below (s₁.setTop (mkF m 78 #[.val (.int p1), .val (.int p2), .val (.int p3), .val (.int (p1 &&& (255 : Int32))), .val (.int (p2 &&& (255 : Int32))), .val (.int (0 : Int32)), .val (.int (1 : Int32)), .val (.int ((1 : Int32) + (4 : Int32))), .unset, .unset, .unset] [(.int (2 : Int32)), (.int ((1 : Int32) + (4 : Int32)))])) _
    refine XS.icmpYes X0.here hx rfl (pc0 := 78) (pc' := 87) rfl (hb hby at_78) rfl (feq (by decide : ¬ (((1 : Int32) + (4 : Int32)) = (2 : Int32)))).2 (by decide) (by decide) ?_
    show Steps p.tables e below (s₁.setTop (mkF m 87 #[.val (.int p1), .val (.int p2), .val (.int p3), .val (.int (p1 &&& (255 : Int32))), .val (.int (p2 &&& (255 : Int32))), .val (.int (0 : Int32)), .val (.int (1 : Int32)), .val (.int ((1 : Int32) + (4 : Int32))), .unset, .unset, .unset] [])) _
    refine XS.iload X0.here hx rfl (hb hby at_87) rfl ?_
    show Steps p.tables e below (s₁.setTop (mkF m 89 #[.val (.int p1), .val (.int p2), .val (.int p3), .val (.int (p1 &&& (255 : Int32))), .val (.int (p2 &&& (255 : Int32))), .val (.int (0 : Int32)), .val (.int (1 : Int32)), .val (.int ((1 : Int32) + (4 : Int32))), .unset, .unset, .unset] [(.int ((1 : Int32) + (4 : Int32)))])) _
    refine XS.iconst X0.here hx rfl (hb hby at_89) ?_
    show Steps p.tables e below (s₁.setTop (mkF m 90 #[.val (.int p1), .val (.int p2), .val (.int p3), .val (.int (p1 &&& (255 : Int32))), .val (.int (p2 &&& (255 : Int32))), .val (.int (0 : Int32)), .val (.int (1 : Int32)), .val (.int ((1 : Int32) + (4 : Int32))), .unset, .unset, .unset] [(.int (5 : Int32)), (.int ((1 : Int32) + (4 : Int32)))])) _
    refine XS.icmpNo X0.here hx rfl (hb hby at_90) rfl (teq (by decide : ((1 : Int32) + (4 : Int32)) = (5 : Int32))).2 ?_
    show Steps p.tables e below (s₁.setTop (mkF m 93 #[.val (.int p1), .val (.int p2), .val (.int p3), .val (.int (p1 &&& (255 : Int32))), .val (.int (p2 &&& (255 : Int32))), .val (.int (0 : Int32)), .val (.int (1 : Int32)), .val (.int ((1 : Int32) + (4 : Int32))), .unset, .unset, .unset] [])) _
    refine XS.iconst X0.here hx rfl (hb hby at_93) ?_
    show Steps p.tables e below (s₁.setTop (mkF m 94 #[.val (.int p1), .val (.int p2), .val (.int p3), .val (.int (p1 &&& (255 : Int32))), .val (.int (p2 &&& (255 : Int32))), .val (.int (0 : Int32)), .val (.int (1 : Int32)), .val (.int ((1 : Int32) + (4 : Int32))), .unset, .unset, .unset] [(.int (5 : Int32))])) _
    refine st_q4 _ ?_
    show Steps p.tables e below (T_q4.setTop (mkF m 96 #[.val (.int p1), .val (.int p2), .val (.int p3), .val (.int (p1 &&& (255 : Int32))), .val (.int (p2 &&& (255 : Int32))), .val (.int (0 : Int32)), .val (.int (1 : Int32)), .val (.int ((1 : Int32) + (4 : Int32))), .unset, .unset, .unset] [(.ref b_q4)])) _
    refine XS.goto X_q4.here hx rfl (pc0 := 96) (pc' := 103) rfl (hb hby at_96) (by decide) (by decide) ?_
    show Steps p.tables e below (T_q4.setTop (mkF m 103 #[.val (.int p1), .val (.int p2), .val (.int p3), .val (.int (p1 &&& (255 : Int32))), .val (.int (p2 &&& (255 : Int32))), .val (.int (0 : Int32)), .val (.int (1 : Int32)), .val (.int ((1 : Int32) + (4 : Int32))), .unset, .unset, .unset] [(.ref b_q4)])) _
    refine XS.astore X_q4.here hx rfl (hb hby at_103) rfl rfl (l' := #[.val (.int p1), .val (.int p2), .val (.int p3), .val (.int (p1 &&& (255 : Int32))), .val (.int (p2 &&& (255 : Int32))), .val (.int (0 : Int32)), .val (.int (1 : Int32)), .val (.int ((1 : Int32) + (4 : Int32))), .val (.ref b_q4), .unset, .unset]) rfl ?_
    show Steps p.tables e below (T_q4.setTop (mkF m 105 #[.val (.int p1), .val (.int p2), .val (.int p3), .val (.int (p1 &&& (255 : Int32))), .val (.int (p2 &&& (255 : Int32))), .val (.int (0 : Int32)), .val (.int (1 : Int32)), .val (.int ((1 : Int32) + (4 : Int32))), .val (.ref b_q4), .unset, .unset] [])) _
    refine XS.aload X_q4.here hx rfl (hb hby at_105) rfl rfl ?_
    show Steps p.tables e below (T_q4.setTop (mkF m 107 #[.val (.int p1), .val (.int p2), .val (.int p3), .val (.int (p1 &&& (255 : Int32))), .val (.int (p2 &&& (255 : Int32))), .val (.int (0 : Int32)), .val (.int (1 : Int32)), .val (.int ((1 : Int32) + (4 : Int32))), .val (.ref b_q4), .unset, .unset] [(.ref b_q4)])) _
    refine XS.iconst X_q4.here hx rfl (hb hby at_107) ?_
    show Steps p.tables e below (T_q4.setTop (mkF m 108 #[.val (.int p1), .val (.int p2), .val (.int p3), .val (.int (p1 &&& (255 : Int32))), .val (.int (p2 &&& (255 : Int32))), .val (.int (0 : Int32)), .val (.int (1 : Int32)), .val (.int ((1 : Int32) + (4 : Int32))), .val (.ref b_q4), .unset, .unset] [(.int (0 : Int32)), (.ref b_q4)])) _
    refine XS.iloadN X_q4.here hx rfl (hb hby at_108) rfl ?_
    show Steps p.tables e below (T_q4.setTop (mkF m 109 #[.val (.int p1), .val (.int p2), .val (.int p3), .val (.int (p1 &&& (255 : Int32))), .val (.int (p2 &&& (255 : Int32))), .val (.int (0 : Int32)), .val (.int (1 : Int32)), .val (.int ((1 : Int32) + (4 : Int32))), .val (.ref b_q4), .unset, .unset] [(.int (p1 &&& (255 : Int32))), (.int (0 : Int32)), (.ref b_q4)])) _
    refine XS.iload X_q4.here hx rfl (hb hby at_109) rfl ?_
    show Steps p.tables e below (T_q4.setTop (mkF m 111 #[.val (.int p1), .val (.int p2), .val (.int p3), .val (.int (p1 &&& (255 : Int32))), .val (.int (p2 &&& (255 : Int32))), .val (.int (0 : Int32)), .val (.int (1 : Int32)), .val (.int ((1 : Int32) + (4 : Int32))), .val (.ref b_q4), .unset, .unset] [(.int (0 : Int32)), (.int (p1 &&& (255 : Int32))), (.int (0 : Int32)), (.ref b_q4)])) _
    refine st_q5 _ ?_
    show Steps p.tables e below (T_q5.setTop (mkF m 114 #[.val (.int p1), .val (.int p2), .val (.int p3), .val (.int (p1 &&& (255 : Int32))), .val (.int (p2 &&& (255 : Int32))), .val (.int (0 : Int32)), .val (.int (1 : Int32)), .val (.int ((1 : Int32) + (4 : Int32))), .val (.ref b_q4), .unset, .unset] [(.int ((0 : Int32) + (1 : Int32)))])) _
    refine XS.istore X_q5.here hx rfl (hb hby at_114) rfl (l' := #[.val (.int p1), .val (.int p2), .val (.int p3), .val (.int (p1 &&& (255 : Int32))), .val (.int (p2 &&& (255 : Int32))), .val (.int (0 : Int32)), .val (.int (1 : Int32)), .val (.int ((1 : Int32) + (4 : Int32))), .val (.ref b_q4), .val (.int ((0 : Int32) + (1 : Int32))), .unset]) rfl ?_
    show Steps p.tables e below (T_q5.setTop (mkF m 116 #[.val (.int p1), .val (.int p2), .val (.int p3), .val (.int (p1 &&& (255 : Int32))), .val (.int (p2 &&& (255 : Int32))), .val (.int (0 : Int32)), .val (.int (1 : Int32)), .val (.int ((1 : Int32) + (4 : Int32))), .val (.ref b_q4), .val (.int ((0 : Int32) + (1 : Int32))), .unset] [])) _
    refine XS.aload X_q5.here hx rfl (hb hby at_116) rfl rfl ?_
    show Steps p.tables e below (T_q5.setTop (mkF m 118 #[.val (.int p1), .val (.int p2), .val (.int p3), .val (.int (p1 &&& (255 : Int32))), .val (.int (p2 &&& (255 : Int32))), .val (.int (0 : Int32)), .val (.int (1 : Int32)), .val (.int ((1 : Int32) + (4 : Int32))), .val (.ref b_q4), .val (.int ((0 : Int32) + (1 : Int32))), .unset] [(.ref b_q4)])) _
    refine XS.iload X_q5.here hx rfl (hb hby at_118) rfl ?_
    show Steps p.tables e below (T_q5.setTop (mkF m 120 #[.val (.int p1), .val (.int p2), .val (.int p3), .val (.int (p1 &&& (255 : Int32))), .val (.int (p2 &&& (255 : Int32))), .val (.int (0 : Int32)), .val (.int (1 : Int32)), .val (.int ((1 : Int32) + (4 : Int32))), .val (.ref b_q4), .val (.int ((0 : Int32) + (1 : Int32))), .unset] [(.int ((0 : Int32) + (1 : Int32))), (.ref b_q4)])) _
    refine XS.iload X_q5.here hx rfl (hb hby at_120) rfl ?_
    show Steps p.tables e below (T_q5.setTop (mkF m 122 #[.val (.int p1), .val (.int p2), .val (.int p3), .val (.int (p1 &&& (255 : Int32))), .val (.int (p2 &&& (255 : Int32))), .val (.int (0 : Int32)), .val (.int (1 : Int32)), .val (.int ((1 : Int32) + (4 : Int32))), .val (.ref b_q4), .val (.int ((0 : Int32) + (1 : Int32))), .unset] [(.int (p2 &&& (255 : Int32))), (.int ((0 : Int32) + (1 : Int32))), (.ref b_q4)])) _
    refine XS.iload X_q5.here hx rfl (hb hby at_122) rfl ?_
    show Steps p.tables e below (T_q5.setTop (mkF m 124 #[.val (.int p1), .val (.int p2), .val (.int p3), .val (.int (p1 &&& (255 : Int32))), .val (.int (p2 &&& (255 : Int32))), .val (.int (0 : Int32)), .val (.int (1 : Int32)), .val (.int ((1 : Int32) + (4 : Int32))), .val (.ref b_q4), .val (.int ((0 : Int32) + (1 : Int32))), .unset] [(.int (1 : Int32)), (.int (p2 &&& (255 : Int32))), (.int ((0 : Int32) + (1 : Int32))), (.ref b_q4)])) _
    refine st_q6 _ ?_
    show Steps p.tables e below (T_q6.setTop (mkF m 127 #[.val (.int p1), .val (.int p2), .val (.int p3), .val (.int (p1 &&& (255 : Int32))), .val (.int (p2 &&& (255 : Int32))), .val (.int (0 : Int32)), .val (.int (1 : Int32)), .val (.int ((1 : Int32) + (4 : Int32))), .val (.ref b_q4), .val (.int ((0 : Int32) + (1 : Int32))), .unset] [(.int ((1 : Int32) + (4 : Int32)))])) _
    refine XS.pop X_q6.here hx rfl (hb hby at_127) rfl rfl ?_
    show Steps p.tables e below (T_q6.setTop (mkF m 128 #[.val (.int p1), .val (.int p2), .val (.int p3), .val (.int (p1 &&& (255 : Int32))), .val (.int (p2 &&& (255 : Int32))), .val (.int (0 : Int32)), .val (.int (1 : Int32)), .val (.int ((1 : Int32) + (4 : Int32))), .val (.ref b_q4), .val (.int ((0 : Int32) + (1 : Int32))), .unset] [])) _
    refine XS.aload X_q6.here hx rfl (hb hby at_128) rfl rfl ?_
    show Steps p.tables e below (T_q6.setTop (mkF m 130 #[.val (.int p1), .val (.int p2), .val (.int p3), .val (.int (p1 &&& (255 : Int32))), .val (.int (p2 &&& (255 : Int32))), .val (.int (0 : Int32)), .val (.int (1 : Int32)), .val (.int ((1 : Int32) + (4 : Int32))), .val (.ref b_q4), .val (.int ((0 : Int32) + (1 : Int32))), .unset] [(.ref b_q4)])) _
    refine st_q7 _ ?_
    show Steps p.tables e below (T_q7.setTop (mkF m 133 #[.val (.int p1), .val (.int p2), .val (.int p3), .val (.int (p1 &&& (255 : Int32))), .val (.int (p2 &&& (255 : Int32))), .val (.int (0 : Int32)), .val (.int (1 : Int32)), .val (.int ((1 : Int32) + (4 : Int32))), .val (.ref b_q4), .val (.int ((0 : Int32) + (1 : Int32))), .unset] [(.ref r_q7)])) _
    refine XS.astore X_q7.here hx rfl (hb hby at_133) rfl rfl (l' := #[.val (.int p1), .val (.int p2), .val (.int p3), .val (.int (p1 &&& (255 : Int32))), .val (.int (p2 &&& (255 : Int32))), .val (.int (0 : Int32)), .val (.int (1 : Int32)), .val (.int ((1 : Int32) + (4 : Int32))), .val (.ref b_q4), .val (.int ((0 : Int32) + (1 : Int32))), .val (.ref r_q7)]) rfl ?_
    show Steps p.tables e below (T_q7.setTop (mkF m 135 #[.val (.int p1), .val (.int p2), .val (.int p3), .val (.int (p1 &&& (255 : Int32))), .val (.int (p2 &&& (255 : Int32))), .val (.int (0 : Int32)), .val (.int (1 : Int32)), .val (.int ((1 : Int32) + (4 : Int32))), .val (.ref b_q4), .val (.int ((0 : Int32) + (1 : Int32))), .val (.ref r_q7)] [])) _
    refine XS.aload X_q7.here hx rfl (hb hby at_135) rfl rfl ?_
    show Steps p.tables e below (T_q7.setTop (mkF m 137 #[.val (.int p1), .val (.int p2), .val (.int p3), .val (.int (p1 &&& (255 : Int32))), .val (.int (p2 &&& (255 : Int32))), .val (.int (0 : Int32)), .val (.int (1 : Int32)), .val (.int ((1 : Int32) + (4 : Int32))), .val (.ref b_q4), .val (.int ((0 : Int32) + (1 : Int32))), .val (.ref r_q7)] [(.ref r_q7)])) _
    refine X_q7.arraylength hx (by exact Ar_q8.1) (State.isArrayOf_alike hZ.alike Ar_q8.2.1) (g := (mkF m 137 #[.val (.int p1), .val (.int p2), .val (.int p3), .val (.int (p1 &&& (255 : Int32))), .val (.int (p2 &&& (255 : Int32))), .val (.int (0 : Int32)), .val (.int (1 : Int32)), .val (.int ((1 : Int32) + (4 : Int32))), .val (.ref b_q4), .val (.int ((0 : Int32) + (1 : Int32))), .val (.ref r_q7)] [(.ref r_q7)])) rfl rfl (hb hby at_137) _ ?_
    rw [len_of S_q8 Nn_q8]
    show Steps p.tables e below (T_q7.setTop (mkF m 138 #[.val (.int p1), .val (.int p2), .val (.int p3), .val (.int (p1 &&& (255 : Int32))), .val (.int (p2 &&& (255 : Int32))), .val (.int (0 : Int32)), .val (.int (1 : Int32)), .val (.int ((1 : Int32) + (4 : Int32))), .val (.ref b_q4), .val (.int ((0 : Int32) + (1 : Int32))), .val (.ref r_q7)] [(.int (2 : Int32))])) _
    refine XS.iconst X_q7.here hx rfl (hb hby at_138) ?_
    show Steps p.tables e below (T_q7.setTop (mkF m 139 #[.val (.int p1), .val (.int p2), .val (.int p3), .val (.int (p1 &&& (255 : Int32))), .val (.int (p2 &&& (255 : Int32))), .val (.int (0 : Int32)), .val (.int (1 : Int32)), .val (.int ((1 : Int32) + (4 : Int32))), .val (.ref b_q4), .val (.int ((0 : Int32) + (1 : Int32))), .val (.ref r_q7)] [(.int (2 : Int32)), (.int (2 : Int32))])) _
    refine XS.icmpNo X_q7.here hx rfl (hb hby at_139) rfl (teq (by decide : (2 : Int32) = (2 : Int32))).2 ?_
    show Steps p.tables e below (T_q7.setTop (mkF m 142 #[.val (.int p1), .val (.int p2), .val (.int p3), .val (.int (p1 &&& (255 : Int32))), .val (.int (p2 &&& (255 : Int32))), .val (.int (0 : Int32)), .val (.int (1 : Int32)), .val (.int ((1 : Int32) + (4 : Int32))), .val (.ref b_q4), .val (.int ((0 : Int32) + (1 : Int32))), .val (.ref r_q7)] [])) _
    refine XS.aload X_q7.here hx rfl (hb hby at_142) rfl rfl ?_
    show Steps p.tables e below (T_q7.setTop (mkF m 144 #[.val (.int p1), .val (.int p2), .val (.int p3), .val (.int (p1 &&& (255 : Int32))), .val (.int (p2 &&& (255 : Int32))), .val (.int (0 : Int32)), .val (.int (1 : Int32)), .val (.int ((1 : Int32) + (4 : Int32))), .val (.ref b_q4), .val (.int ((0 : Int32) + (1 : Int32))), .val (.ref r_q7)] [(.ref r_q7)])) _
    refine XS.iconst X_q7.here hx rfl (hb hby at_144) ?_
    show Steps p.tables e below (T_q7.setTop (mkF m 145 #[.val (.int p1), .val (.int p2), .val (.int p3), .val (.int (p1 &&& (255 : Int32))), .val (.int (p2 &&& (255 : Int32))), .val (.int (0 : Int32)), .val (.int (1 : Int32)), .val (.int ((1 : Int32) + (4 : Int32))), .val (.ref b_q4), .val (.int ((0 : Int32) + (1 : Int32))), .val (.ref r_q7)] [(.int (0 : Int32)), (.ref r_q7)])) _
    refine X_q7.baloadBytes hx (j := (0 : Int32)) (v := (.int (nar .byte (nar .byte ((p1 &&& (255 : Int32)).toInt8.toInt32))))) (by exact Ar_q9.1) (State.isArrayOf_alike hZ.alike Ar_q9.2.1) Ar_q9.2.2 hin_q9 hat_q9 (g := (mkF m 145 #[.val (.int p1), .val (.int p2), .val (.int p3), .val (.int (p1 &&& (255 : Int32))), .val (.int (p2 &&& (255 : Int32))), .val (.int (0 : Int32)), .val (.int (1 : Int32)), .val (.int ((1 : Int32) + (4 : Int32))), .val (.ref b_q4), .val (.int ((0 : Int32) + (1 : Int32))), .val (.ref r_q7)] [(.int (0 : Int32)), (.ref r_q7)])) rfl rfl (hb hby at_145) _ ?_
    show Steps p.tables e below (T_q7.setTop (mkF m 146 #[.val (.int p1), .val (.int p2), .val (.int p3), .val (.int (p1 &&& (255 : Int32))), .val (.int (p2 &&& (255 : Int32))), .val (.int (0 : Int32)), .val (.int (1 : Int32)), .val (.int ((1 : Int32) + (4 : Int32))), .val (.ref b_q4), .val (.int ((0 : Int32) + (1 : Int32))), .val (.ref r_q7)] [(.int (nar .byte (nar .byte ((p1 &&& (255 : Int32)).toInt8.toInt32))))])) _
    refine XS.iloadN X_q7.here hx rfl (hb hby at_146) rfl ?_
    show Steps p.tables e below (T_q7.setTop (mkF m 147 #[.val (.int p1), .val (.int p2), .val (.int p3), .val (.int (p1 &&& (255 : Int32))), .val (.int (p2 &&& (255 : Int32))), .val (.int (0 : Int32)), .val (.int (1 : Int32)), .val (.int ((1 : Int32) + (4 : Int32))), .val (.ref b_q4), .val (.int ((0 : Int32) + (1 : Int32))), .val (.ref r_q7)] [(.int (p1 &&& (255 : Int32))), (.int (nar .byte (nar .byte ((p1 &&& (255 : Int32)).toInt8.toInt32))))])) _
    refine XS.i2b X_q7.here hx rfl (hb hby at_147) rfl ?_
    show Steps p.tables e below (T_q7.setTop (mkF m 148 #[.val (.int p1), .val (.int p2), .val (.int p3), .val (.int (p1 &&& (255 : Int32))), .val (.int (p2 &&& (255 : Int32))), .val (.int (0 : Int32)), .val (.int (1 : Int32)), .val (.int ((1 : Int32) + (4 : Int32))), .val (.ref b_q4), .val (.int ((0 : Int32) + (1 : Int32))), .val (.ref r_q7)] [(.int ((p1 &&& (255 : Int32)).toInt8.toInt32)), (.int (nar .byte (nar .byte ((p1 &&& (255 : Int32)).toInt8.toInt32))))])) _
    refine XS.icmpNo X_q7.here hx rfl (hb hby at_148) rfl (teq hc_q10).2 ?_
    show Steps p.tables e below (T_q7.setTop (mkF m 151 #[.val (.int p1), .val (.int p2), .val (.int p3), .val (.int (p1 &&& (255 : Int32))), .val (.int (p2 &&& (255 : Int32))), .val (.int (0 : Int32)), .val (.int (1 : Int32)), .val (.int ((1 : Int32) + (4 : Int32))), .val (.ref b_q4), .val (.int ((0 : Int32) + (1 : Int32))), .val (.ref r_q7)] [])) _
    refine XS.aload X_q7.here hx rfl (hb hby at_151) rfl rfl ?_
    show Steps p.tables e below (T_q7.setTop (mkF m 153 #[.val (.int p1), .val (.int p2), .val (.int p3), .val (.int (p1 &&& (255 : Int32))), .val (.int (p2 &&& (255 : Int32))), .val (.int (0 : Int32)), .val (.int (1 : Int32)), .val (.int ((1 : Int32) + (4 : Int32))), .val (.ref b_q4), .val (.int ((0 : Int32) + (1 : Int32))), .val (.ref r_q7)] [(.ref r_q7)])) _
    refine XS.iconst X_q7.here hx rfl (hb hby at_153) ?_
    show Steps p.tables e below (T_q7.setTop (mkF m 154 #[.val (.int p1), .val (.int p2), .val (.int p3), .val (.int (p1 &&& (255 : Int32))), .val (.int (p2 &&& (255 : Int32))), .val (.int (0 : Int32)), .val (.int (1 : Int32)), .val (.int ((1 : Int32) + (4 : Int32))), .val (.ref b_q4), .val (.int ((0 : Int32) + (1 : Int32))), .val (.ref r_q7)] [(.int (1 : Int32)), (.ref r_q7)])) _
    refine X_q7.baloadBytes hx (j := (1 : Int32)) (v := (.int (nar .byte (nar .byte ((((F5_0 (nar .byte ((F2_0 (((p2 &&& (255 : Int32)).toUInt32 >>> ((4 : Int32) &&& 31).toUInt32).toInt32)).toInt8.toInt32))) <<< ((4 : Int32) &&& 31)) ||| (F5_0 (nar .byte ((F2_0 ((p2 &&& (255 : Int32)) &&& (15 : Int32))).toInt8.toInt32)))).toInt8.toInt32))))) (by exact Ar_q11.1) (State.isArrayOf_alike hZ.alike Ar_q11.2.1) Ar_q11.2.2 hin_q11 hat_q11 (g := (mkF m 154 #[.val (.int p1), .val (.int p2), .val (.int p3), .val (.int (p1 &&& (255 : Int32))), .val (.int (p2 &&& (255 : Int32))), .val (.int (0 : Int32)), .val (.int (1 : Int32)), .val (.int ((1 : Int32) + (4 : Int32))), .val (.ref b_q4), .val (.int ((0 : Int32) + (1 : Int32))), .val (.ref r_q7)] [(.int (1 : Int32)), (.ref r_q7)])) rfl rfl (hb hby at_154) _ ?_
    show Steps p.tables e below (T_q7.setTop (mkF m 155 #[.val (.int p1), .val (.int p2), .val (.int p3), .val (.int (p1 &&& (255 : Int32))), .val (.int (p2 &&& (255 : Int32))), .val (.int (0 : Int32)), .val (.int (1 : Int32)), .val (.int ((1 : Int32) + (4 : Int32))), .val (.ref b_q4), .val (.int ((0 : Int32) + (1 : Int32))), .val (.ref r_q7)] [(.int (nar .byte (nar .byte ((((F5_0 (nar .byte ((F2_0 (((p2 &&& (255 : Int32)).toUInt32 >>> ((4 : Int32) &&& 31).toUInt32).toInt32)).toInt8.toInt32))) <<< ((4 : Int32) &&& 31)) ||| (F5_0 (nar .byte ((F2_0 ((p2 &&& (255 : Int32)) &&& (15 : Int32))).toInt8.toInt32)))).toInt8.toInt32))))])) _
    refine XS.iload X_q7.here hx rfl (hb hby at_155) rfl ?_
    show Steps p.tables e below (T_q7.setTop (mkF m 157 #[.val (.int p1), .val (.int p2), .val (.int p3), .val (.int (p1 &&& (255 : Int32))), .val (.int (p2 &&& (255 : Int32))), .val (.int (0 : Int32)), .val (.int (1 : Int32)), .val (.int ((1 : Int32) + (4 : Int32))), .val (.ref b_q4), .val (.int ((0 : Int32) + (1 : Int32))), .val (.ref r_q7)] [(.int (p2 &&& (255 : Int32))), (.int (nar .byte (nar .byte ((((F5_0 (nar .byte ((F2_0 (((p2 &&& (255 : Int32)).toUInt32 >>> ((4 : Int32) &&& 31).toUInt32).toInt32)).toInt8.toInt32))) <<< ((4 : Int32) &&& 31)) ||| (F5_0 (nar .byte ((F2_0 ((p2 &&& (255 : Int32)) &&& (15 : Int32))).toInt8.toInt32)))).toInt8.toInt32))))])) _
    refine XS.i2b X_q7.here hx rfl (hb hby at_157) rfl ?_
    show Steps p.tables e below (T_q7.setTop (mkF m 158 #[.val (.int p1), .val (.int p2), .val (.int p3), .val (.int (p1 &&& (255 : Int32))), .val (.int (p2 &&& (255 : Int32))), .val (.int (0 : Int32)), .val (.int (1 : Int32)), .val (.int ((1 : Int32) + (4 : Int32))), .val (.ref b_q4), .val (.int ((0 : Int32) + (1 : Int32))), .val (.ref r_q7)] [(.int ((p2 &&& (255 : Int32)).toInt8.toInt32)), (.int (nar .byte (nar .byte ((((F5_0 (nar .byte ((F2_0 (((p2 &&& (255 : Int32)).toUInt32 >>> ((4 : Int32) &&& 31).toUInt32).toInt32)).toInt8.toInt32))) <<< ((4 : Int32) &&& 31)) ||| (F5_0 (nar .byte ((F2_0 ((p2 &&& (255 : Int32)) &&& (15 : Int32))).toInt8.toInt32)))).toInt8.toInt32))))])) _
    refine XS.icmpNo X_q7.here hx rfl (hb hby at_158) rfl (teq hc_q12).2 ?_
    show Steps p.tables e below (T_q7.setTop (mkF m 161 #[.val (.int p1), .val (.int p2), .val (.int p3), .val (.int (p1 &&& (255 : Int32))), .val (.int (p2 &&& (255 : Int32))), .val (.int (0 : Int32)), .val (.int (1 : Int32)), .val (.int ((1 : Int32) + (4 : Int32))), .val (.ref b_q4), .val (.int ((0 : Int32) + (1 : Int32))), .val (.ref r_q7)] [])) _
    refine XS.iconst X_q7.here hx rfl (hb hby at_161) ?_
    show Steps p.tables e below (T_q7.setTop (mkF m 162 #[.val (.int p1), .val (.int p2), .val (.int p3), .val (.int (p1 &&& (255 : Int32))), .val (.int (p2 &&& (255 : Int32))), .val (.int (0 : Int32)), .val (.int (1 : Int32)), .val (.int ((1 : Int32) + (4 : Int32))), .val (.ref b_q4), .val (.int ((0 : Int32) + (1 : Int32))), .val (.ref r_q7)] [(.int (1 : Int32))])) _
    refine XS.goto X_q7.here hx rfl (pc0 := 162) (pc' := 166) rfl (hb hby at_162) (by decide) (by decide) ?_
    show Steps p.tables e below (T_q7.setTop (mkF m 166 #[.val (.int p1), .val (.int p2), .val (.int p3), .val (.int (p1 &&& (255 : Int32))), .val (.int (p2 &&& (255 : Int32))), .val (.int (0 : Int32)), .val (.int (1 : Int32)), .val (.int ((1 : Int32) + (4 : Int32))), .val (.ref b_q4), .val (.int ((0 : Int32) + (1 : Int32))), .val (.ref r_q7)] [(.int (1 : Int32))])) _
    exact retN X_q7 hx (t := .boolean) Bd.returns (by simp) (hb hby at_166) hr
  · show Q_law Z p1 p2 p3 h0 n0 _ T_q7.heap _
    exact ⟨rfl, N_q7⟩
set_option maxRecDepth 65536 in
set_option maxHeartbeats 40000000 in
theorem rm0_ft_ff (l : Launch) (Z : State) (a0 : Array Value) (hw : ∀ d ∈ tables_1, d.before a0 Z = true) (ws : List Jvm.Cond) (p1 : Int32) (p2 : Int32) (p3 : Int32) (h0 : Heap) (n0 : Nat) (Z0 : n0 ≤ h0.size) (hc_q1 : (p3 &&& (1 : Int32)) = (0 : Int32)) (hc_q2 : ¬ ((p1 &&& (255 : Int32)) = (92 : Int32))) (hc_q3 : (p3 &&& (2 : Int32)) = (0 : Int32)) (hc_q4 : (p2 &&& (255 : Int32)) = (92 : Int32)) (hd_hc_q5 : ¬ ((nar .byte ((p1 &&& (255 : Int32)).toInt8.toInt32)) = (92 : Int32))) (hd_he_q10_hc_q7 : ¬ ((F5_0 (nar .byte ((F2_0 (((p2 &&& (255 : Int32)).toUInt32 >>> ((4 : Int32) &&& 31).toUInt32).toInt32)).toInt8.toInt32))) < (0 : Int32))) (hd_he_q10_hc_q8 : ¬ ((F5_0 (nar .byte ((F2_0 ((p2 &&& (255 : Int32)) &&& (15 : Int32))).toInt8.toInt32))) < (0 : Int32))) (hc_q11 : (nar .byte (nar .byte ((p1 &&& (255 : Int32)).toInt8.toInt32))) = ((p1 &&& (255 : Int32)).toInt8.toInt32)) (hc_q13 : (nar .byte (nar .byte ((((F5_0 (nar .byte ((F2_0 (((p2 &&& (255 : Int32)).toUInt32 >>> ((4 : Int32) &&& 31).toUInt32).toInt32)).toInt8.toInt32))) <<< ((4 : Int32) &&& 31)) ||| (F5_0 (nar .byte ((F2_0 ((p2 &&& (255 : Int32)) &&& (15 : Int32))).toInt8.toInt32)))).toInt8.toInt32))) = ((p2 &&& (255 : Int32)).toInt8.toInt32)) :
    MetFree l x (head1 (Jvm.Cond.code x code maxLocals ret :: ws) room_1) (fun a U => a = #[(.int p1), (.int p2), (.int p3)] ∧ Z.Warmed39 U.vm ∧ U.heap = h0) (fun _ _ _ _ _ => True) (fun _ U o U' => ∃ v L, o = .returned v ∧ Q_law Z p1 p2 p3 h0 n0 v U'.heap L ∧ FrameEnd U o U' L room_1.cells room_1.slots) := by
  refine MetFree.of_bodySF (plainFor_of_name pn_0) hisR ?_
  intro p e s m args below meth c s₁ Bd hml0 hP hK
  obtain ⟨rfl, hZ, hh⟩ := hP
  have hx := Bd.exec
  have hby := Bd.bytes
  have hml : c.maxLocals = 11 := hml0
  have hown : s.vm.findClass "com/example/presplit/presplit/escape/BinaryEscapeDecodePinLaw" = some m.cls := findClass_of_methodNamed Bd.named
  have hnm := (name_of_methodNamed Bd.named Bd.method).1
  have X0 : Stand p l e room_1 s m #[(.int p1), (.int p2), (.int p3)] below meth c s₁ [] 0 0 := Stand.of_body Bd
  have e0 : s₁.heap = h0 := by rw [← hh, Bd.state]; rfl
  have N0 := Fr.nil n0
  have pre0 : ∀ t, Steps p.tables e below (s₁.setTop (mkF m 0 #[.val (.int p1), .val (.int p2), .val (.int p3), .unset, .unset, .unset, .unset, .unset, .unset, .unset, .unset] [])) t → Steps p.tables e below (s₁.setTop (entryFrame m #[(.int p1), (.int p2), (.int p3)] maxLocals)) t := fun t k => castTop (ef_0 m p1 p2 p3) k
  have K0 : Keep h0 h0 [] := Keep.refl _ _
  obtain ⟨T_q5, h_q5, k_q5, X_q5, e_q5, E_q5, A_q5, EX_q5, st_q5⟩ := newPE X0 hx hZ (hw _ (List.mem_of_getElem? (i := 0) rfl)) e0 (g := (mkF m 94 #[.val (.int p1), .val (.int p2), .val (.int p3), .val (.int (p1 &&& (255 : Int32))), .val (.int (p2 &&& (255 : Int32))), .val (.int (0 : Int32)), .val (.int (1 : Int32)), .val (.int ((1 : Int32) + (4 : Int32))), .unset, .unset, .unset] [(.int (5 : Int32))])) rfl (hb hby at_94) rfl (by decide) (cap := 5) (by decide) (by decide) (by decide) (by decide) (ad := "[B") (by decide)
  obtain ⟨b_q5, g_q5⟩ : ∃ z, z = h0.size := ⟨_, rfl⟩
  rw [← g_q5] at A_q5 EX_q5 st_q5
  have ge_b_q5 : n0 ≤ b_q5 := Nat.le_trans (Nat.le_trans Z0 K0.1) (Nat.le_of_eq g_q5.symm)
  have sz_b_q5 : h0.size ≤ b_q5 := Nat.le_trans K0.1 (Nat.le_of_eq g_q5.symm)
  have K_q5 : Keep h0 h_q5 [] := K0.ext E_q5
  have V_b_q5 : Arv Z h_q5 b_q5 k_q5 .byte (5 : Int32) [(.int (0 : Int32)), (.int (0 : Int32)), (.int (0 : Int32)), (.int (0 : Int32)), (.int (0 : Int32))] (.int (0 : Int32)) := (Arv.new A_q5 (by decide)).pad (pad_rep [] (.int (0 : Int32)) 5)
  obtain ⟨_, _, ⟨T_q6, L_q6, k_q6, n_q6⟩, -, X_q6, ⟨Lc_q6, hQ_q6, l_q6, y_q6, z_q6⟩, st_q6⟩ := Jvm.LawKit.callS X_q5 hx (y := (⟨"com/example/presplit/presplit/escape/BinaryEscapeDecodePinLaw", "put", "([BIIZ)I"⟩ : MethodName)) hown (mvT hZ (hw _ (List.mem_of_getElem? (i := 1) rfl))) (mvT hZ (hw _ (List.mem_of_getElem? (i := 2) rfl))) (mvT hZ (hw _ (List.mem_of_getElem? (i := 3) rfl))) (mvT hZ (hw _ (List.mem_of_getElem? (i := 4) rfl))) (by decide) (backOf (W := 0) (rm1_5_0_0 l Z a0 hw [] b_q5 k_q5 (.int (0 : Int32)) (.int (0 : Int32)) (.int (0 : Int32)) (.int (0 : Int32)) (.int (0 : Int32)) (p1 &&& (255 : Int32)) h_q5 n0 (Nat.le_trans Z0 K_q5.1) V_b_q5 ge_b_q5) hZ (hw _ (List.mem_of_getElem? (i := 4) rfl)) (hw _ (List.mem_of_getElem? (i := 3) rfl)) (by decide) (by decide)) (g := (mkF m 111 #[.val (.int p1), .val (.int p2), .val (.int p3), .val (.int (p1 &&& (255 : Int32))), .val (.int (p2 &&& (255 : Int32))), .val (.int (0 : Int32)), .val (.int (1 : Int32)), .val (.int ((1 : Int32) + (4 : Int32))), .val (.ref b_q5), .unset, .unset] [(.int (0 : Int32)), (.int (p1 &&& (255 : Int32))), (.int (0 : Int32)), (.ref b_q5)])) rfl (by rw [hml]; rfl) (argsL := [(.ref b_q5), (.int (0 : Int32)), (.int (p1 &&& (255 : Int32))), (.int (0 : Int32))]) (rest := []) (lenOf pd___BIIZ_I rfl) rfl (by show 2 * 0 + _ ≤ _; exact Nat.le_of_eq rfl) (hb hby at_111) (fun _ _ => ⟨rfl, e_q5, (by decide : 1 + 0 ≤ _), (by decide : 5 + 0 ≤ _)⟩)
  dsimp only [Pt.U, Pt.locs, Pt.cells, Pt.slots] at X_q6 l_q6 y_q6 z_q6 st_q6 hQ_q6
  subst l_q6 y_q6 z_q6
  obtain ⟨rfl, Nq_q6, Kq_q6, Vq_q6⟩ := hQ_q6
  have N_q6 := Fr.app N0 Nq_q6
  have EX_q5__q6 := EX_q5.keep Kq_q6
  have K_q6 : Keep h0 T_q6.heap [] := K_q5.trans Kq_q6 (fun x hx => Or.inr (by cases List.mem_singleton.mp hx; exact sz_b_q5))
  obtain ⟨_, _, ⟨T_q7, L_q7, k_q7, n_q7⟩, -, X_q7, ⟨Lc_q7, hQ_q7, l_q7, y_q7, z_q7⟩, st_q7⟩ := Jvm.LawKit.callS X_q6 hx (y := (⟨"com/example/presplit/presplit/escape/BinaryEscapeDecodePinLaw", "put", "([BIIZ)I"⟩ : MethodName)) hown (mvT hZ (hw _ (List.mem_of_getElem? (i := 1) rfl))) (mvT hZ (hw _ (List.mem_of_getElem? (i := 2) rfl))) (mvT hZ (hw _ (List.mem_of_getElem? (i := 3) rfl))) (mvT hZ (hw _ (List.mem_of_getElem? (i := 4) rfl))) (by decide) (backOf (W := 0) (rm1_5_1_1 l Z a0 hw [] b_q5 k_q5 (.int (nar .byte ((p1 &&& (255 : Int32)).toInt8.toInt32))) (.int (0 : Int32)) (.int (0 : Int32)) (.int (0 : Int32)) (.int (0 : Int32)) (p2 &&& (255 : Int32)) T_q6.heap n0 (Nat.le_trans Z0 K_q6.1) Vq_q6 ge_b_q5) hZ (hw _ (List.mem_of_getElem? (i := 4) rfl)) (hw _ (List.mem_of_getElem? (i := 3) rfl)) (by decide) (by decide)) (g := (mkF m 124 #[.val (.int p1), .val (.int p2), .val (.int p3), .val (.int (p1 &&& (255 : Int32))), .val (.int (p2 &&& (255 : Int32))), .val (.int (0 : Int32)), .val (.int (1 : Int32)), .val (.int ((1 : Int32) + (4 : Int32))), .val (.ref b_q5), .val (.int ((0 : Int32) + (1 : Int32))), .unset] [(.int (1 : Int32)), (.int (p2 &&& (255 : Int32))), (.int ((0 : Int32) + (1 : Int32))), (.ref b_q5)])) rfl (by rw [hml]; rfl) (argsL := [(.ref b_q5), (.int ((0 : Int32) + (1 : Int32))), (.int (p2 &&& (255 : Int32))), (.int (1 : Int32))]) (rest := []) (lenOf pd___BIIZ_I rfl) rfl (by show 2 * 0 + _ ≤ _; exact Nat.le_of_eq rfl) (hb hby at_124) (fun _ _ => ⟨rfl, rfl, (by decide : 1 + 0 ≤ _), (by decide : 5 + 0 ≤ _)⟩)
  dsimp only [Pt.U, Pt.locs, Pt.cells, Pt.slots] at X_q7 l_q7 y_q7 z_q7 st_q7 hQ_q7
  subst l_q7 y_q7 z_q7
  obtain ⟨rfl, Nq_q7, Kq_q7, Vq_q7⟩ := hQ_q7
  have N_q7 := Fr.app N_q6 Nq_q7
  have EX_q5__q7 := EX_q5__q6.keep Kq_q7
  have K_q7 : Keep h0 T_q7.heap [] := K_q6.trans Kq_q7 (fun x hx => Or.inr (by cases List.mem_singleton.mp hx; exact sz_b_q5))
  have VD_q8 : Arv Z T_q7.heap b_q5 k_q5 .byte (5 : Int32) [(.int (nar .byte ((p1 &&& (255 : Int32)).toInt8.toInt32))), (.int (92 : Int32)), (.int (120 : Int32)), (.int (nar .byte ((F2_0 (((p2 &&& (255 : Int32)).toUInt32 >>> ((4 : Int32) &&& 31).toUInt32).toInt32)).toInt8.toInt32))), (.int (nar .byte ((F2_0 ((p2 &&& (255 : Int32)) &&& (15 : Int32))).toInt8.toInt32)))] (.int (0 : Int32)) := Vq_q7
  obtain ⟨_, _, ⟨T_q8, L_q8, k_q8, n_q8⟩, -, X_q8, ⟨Lc_q8, hQ_q8, l_q8, y_q8, z_q8⟩, st_q8⟩ := Jvm.LawKit.callS X_q7 hx (y := (⟨"com/example/presplit/presplit/escape/BinaryEscape", "decode", "([B)[B"⟩ : MethodName)) hown (mvT hZ (hw _ (List.mem_of_getElem? (i := 8) rfl))) (mvT hZ (hw _ (List.mem_of_getElem? (i := 9) rfl))) (mvT hZ (hw _ (List.mem_of_getElem? (i := 10) rfl))) (mvT hZ (hw _ (List.mem_of_getElem? (i := 11) rfl))) (by decide) (backOf (W := 0) (rm3_01 l Z a0 hw [] b_q5 k_q5 (nar .byte ((p1 &&& (255 : Int32)).toInt8.toInt32)) (nar .byte ((F2_0 (((p2 &&& (255 : Int32)).toUInt32 >>> ((4 : Int32) &&& 31).toUInt32).toInt32)).toInt8.toInt32)) (nar .byte ((F2_0 ((p2 &&& (255 : Int32)) &&& (15 : Int32))).toInt8.toInt32)) T_q7.heap n0 (Nat.le_trans Z0 K_q7.1) VD_q8 hd_hc_q5 hd_he_q10_hc_q7 hd_he_q10_hc_q8) hZ (hw _ (List.mem_of_getElem? (i := 11) rfl)) (hw _ (List.mem_of_getElem? (i := 10) rfl)) (by decide) (by decide)) (g := (mkF m 130 #[.val (.int p1), .val (.int p2), .val (.int p3), .val (.int (p1 &&& (255 : Int32))), .val (.int (p2 &&& (255 : Int32))), .val (.int (0 : Int32)), .val (.int (1 : Int32)), .val (.int ((1 : Int32) + (4 : Int32))), .val (.ref b_q5), .val (.int ((0 : Int32) + (1 : Int32))), .unset] [(.ref b_q5)])) rfl (by rw [hml]; rfl) (argsL := [(.ref b_q5)]) (rest := []) (lenOf pd___B__B rfl) rfl (by show 2 * 0 + _ ≤ _; exact Nat.le_of_eq rfl) (hb hby at_130) (fun _ _ => ⟨rfl, rfl, (by decide : 1 + 2 ≤ _), (by decide : 5 + 7 ≤ _)⟩)
  dsimp only [Pt.U, Pt.locs, Pt.cells, Pt.slots] at X_q8 l_q8 y_q8 z_q8 st_q8 hQ_q8
  subst l_q8 y_q8 z_q8
  obtain ⟨r_q8, kr_q8, rfl, Nq_q8, Kq_q8, Vr_q8⟩ := hQ_q8
  have N_q8 := Fr.app N_q7 Nq_q8
  have EX_q5__q8 := EX_q5__q7.keep Kq_q8
  have Vq_q7__q8 := Vq_q7.keep Kq_q8 List.not_mem_nil
  have K_q8 : Keep h0 T_q8.heap [] := K_q7.trans Kq_q8 (fun x hx => nomatch hx)
  obtain ⟨cl_q9, Ar_q9, qk_q9, S_q9, Nn_q9, H_q9, G_q9⟩ := id Vr_q8
  obtain ⟨cl_q10, Ar_q10, qk_q10, S_q10, Nn_q10, H_q10, G_q10⟩ := id Vr_q8
  have hin_q10 : ¬ ((0 : Int32) < 0 ∨ cl_q10.slots.size ≤ ((0 : Int32)).toNatClampNeg) := inb_of S_q10 ⟨by decide, by decide⟩
  have hat_q10 : cl_q10.slots[((0 : Int32)).toNatClampNeg]? = some (.int (nar .byte (nar .byte ((p1 &&& (255 : Int32)).toInt8.toInt32)))) := H_q10 0 (Nat.lt_of_not_le fun q => hin_q10 (Or.inr q))
  obtain ⟨cl_q12, Ar_q12, qk_q12, S_q12, Nn_q12, H_q12, G_q12⟩ := id Vr_q8
  have hin_q12 : ¬ ((1 : Int32) < 0 ∨ cl_q12.slots.size ≤ ((1 : Int32)).toNatClampNeg) := inb_of S_q12 ⟨by decide, by decide⟩
  have hat_q12 : cl_q12.slots[((1 : Int32)).toNatClampNeg]? = some (.int (nar .byte (nar .byte ((((F5_0 (nar .byte ((F2_0 (((p2 &&& (255 : Int32)).toUInt32 >>> ((4 : Int32) &&& 31).toUInt32).toInt32)).toInt8.toInt32))) <<< ((4 : Int32) &&& 31)) ||| (F5_0 (nar .byte ((F2_0 ((p2 &&& (255 : Int32)) &&& (15 : Int32))).toInt8.toInt32)))).toInt8.toInt32)))) := H_q12 1 (Nat.lt_of_not_le fun q => hin_q12 (Or.inr q))
  obtain ⟨fs, hr, hrun, hended, hW, hsame⟩ := X_q8.leave (v := some (.int (1 : Int32))) (fun h => by rw [Bd.returns] at h; cases h) Bd.notSynchronized
  refine ⟨_, _, pre0 _ ?_, hrun, hended, _, _, rfl, ?_, ⟨_, rfl⟩, hW, hsame.mono (by decide) (by decide)⟩
  · show Steps p.tables e below (s₁.setTop (mkF m 0 #[.val (.int p1), .val (.int p2), .val (.int p3), .unset, .unset, .unset, .unset, .unset, .unset, .unset, .unset] [])) _
    refine XS.iloadN X0.here hx rfl (hb hby at_0) rfl ?_
    show Steps p.tables e below (s₁.setTop (mkF m 1 #[.val (.int p1), .val (.int p2), .val (.int p3), .unset, .unset, .unset, .unset, .unset, .unset, .unset, .unset] [(.int p1)])) _
    refine XS.sipush X0.here hx rfl (hb hby at_1) ?_
    show Steps p.tables e below (s₁.setTop (mkF m 4 #[.val (.int p1), .val (.int p2), .val (.int p3), .unset, .unset, .unset, .unset, .unset, .unset, .unset, .unset] [(.int (255 : Int32)), (.int p1)])) _
    refine XS.iand X0.here hx rfl (hb hby at_4) rfl ?_
    show Steps p.tables e below (s₁.setTop (mkF m 5 #[.val (.int p1), .val (.int p2), .val (.int p3), .unset, .unset, .unset, .unset, .unset, .unset, .unset, .unset] [(.int (p1 &&& (255 : Int32)))])) _
    refine XS.istoreN X0.here hx rfl (hb hby at_5) rfl (l' := #[.val (.int p1), .val (.int p2), .val (.int p3), .val (.int (p1 &&& (255 : Int32))), .unset, .unset, .unset, .unset, .unset, .unset, .unset]) rfl ?_
    show Steps p.tables e below (s₁.setTop (mkF m 6 #[.val (.int p1), .val (.int p2), .val (.int p3), .val (.int (p1 &&& (255 : Int32))), .unset, .unset, .unset, .unset, .unset, .unset, .unset] [])) _
    refine XS.iloadN X0.here hx rfl (hb hby at_6) rfl ?_
    show Steps p.tables e below (s₁.setTop (mkF m 7 #[.val (.int p1), .val (.int p2), .val (.int p3), .val (.int (p1 &&& (255 : Int32))), .unset, .unset, .unset, .unset, .unset, .unset, .unset] [(.int p2)])) _
    refine XS.sipush X0.here hx rfl (hb hby at_7) ?_
    show Steps p.tables e below (s₁.setTop (mkF m 10 #[.val (.int p1), .val (.int p2), .val (.int p3), .val (.int (p1 &&& (255 : Int32))), .unset, .unset, .unset, .unset, .unset, .unset, .unset] [(.int (255 : Int32)), (.int p2)])) _
    refine XS.iand X0.here hx rfl (hb hby at_10) rfl ?_
    show Steps p.tables e below (s₁.setTop (mkF m 11 #[.val (.int p1), .val (.int p2), .val (.int p3), .val (.int (p1 &&& (255 : Int32))), .unset, .unset, .unset, .unset, .unset, .unset, .unset] [(.int (p2 &&& (255 : Int32)))])) _
    refine XS.istore X0.here hx rfl (hb hby at_11) rfl (l' := #[.val (.int p1), .val (.int p2), .val (.int p3), .val (.int (p1 &&& (255 : Int32))), .val (.int (p2 &&& (255 : Int32))), .unset, .unset, .unset, .unset, .unset, .unset]) rfl ?_
    show Steps p.tables e below (s₁.setTop (mkF m 13 #[.val (.int p1), .val (.int p2), .val (.int p3), .val (.int (p1 &&& (255 : Int32))), .val (.int (p2 &&& (255 : Int32))), .unset, .unset, .unset, .unset, .unset, .unset] [])) _
    refine XS.iloadN X0.here hx rfl (hb hby at_13) rfl ?_
    show Steps p.tables e below (s₁.setTop (mkF m 14 #[.val (.int p1), .val (.int p2), .val (.int p3), .val (.int (p1 &&& (255 : Int32))), .val (.int (p2 &&& (255 : Int32))), .unset, .unset, .unset, .unset, .unset, .unset] [(.int p3)])) _
    refine XS.iconst X0.here hx rfl (hb hby at_14) ?_
    show Steps p.tables e below (s₁.setTop (mkF m 15 #[.val (.int p1), .val (.int p2), .val (.int p3), .val (.int (p1 &&& (255 : Int32))), .val (.int (p2 &&& (255 : Int32))), .unset, .unset, .unset, .unset, .unset, .unset] [(.int (1 : Int32)), (.int p3)])) _
    refine XS.iand X0.here hx rfl (hb hby at_15) rfl ?_
    show Steps p.tables e below (s₁.setTop (mkF m 16 #[.val (.int p1), .val (.int p2), .val (.int p3), .val (.int (p1 &&& (255 : Int32))), .val (.int (p2 &&& (255 : Int32))), .unset, .unset, .unset, .unset, .unset, .unset] [(.int (p3 &&& (1 : Int32)))])) _
    refine XS.ifNo X0.here hx rfl (hb hby at_16) rfl ((if0 _ _).trans (teq hc_q1).2) ?_
    show Steps p.tables e below (s₁.setTop (mkF m 19 #[.val (.int p1), .val (.int p2), .val (.int p3), .val (.int (p1 &&& (255 : Int32))), .val (.int (p2 &&& (255 : Int32))), .unset, .unset, .unset, .unset, .unset, .unset] [])) _
    refine XS.iloadN X0.here hx rfl (hb hby at_19) rfl ?_
    show Steps p.tables e below (s₁.setTop (mkF m 20 #[.val (.int p1), .val (.int p2), .val (.int p3), .val (.int (p1 &&& (255 : Int32))), .val (.int (p2 &&& (255 : Int32))), .unset, .unset, .unset, .unset, .unset, .unset] [(.int (p1 &&& (255 : Int32)))])) _
    refine XS.bipush X0.here hx rfl (hb hby at_20) ?_
    show Steps p.tables e below (s₁.setTop (mkF m 22 #[.val (.int p1), .val (.int p2), .val (.int p3), .val (.int (p1 &&& (255 : Int32))), .val (.int (p2 &&& (255 : Int32))), .unset, .unset, .unset, .unset, .unset, .unset] [(.int (92 : Int32)), (.int (p1 &&& (255 : Int32)))])) _
    refine XS.icmpYes X0.here hx rfl (pc0 := 22) (pc' := 29) rfl (hb hby at_22) rfl (feq hc_q2).2 (by decide) (by decide) ?_
    show Steps p.tables e below (s₁.setTop (mkF m 29 #[.val (.int p1), .val (.int p2), .val (.int p3), .val (.int (p1 &&& (255 : Int32))), .val (.int (p2 &&& (255 : Int32))), .unset, .unset, .unset, .unset, .unset, .unset] [])) _
    refine XS.iconst X0.here hx rfl (hb hby at_29) ?_
    show Steps p.tables e below (s₁.setTop (mkF m 30 #[.val (.int p1), .val (.int p2), .val (.int p3), .val (.int (p1 &&& (255 : Int32))), .val (.int (p2 &&& (255 : Int32))), .unset, .unset, .unset, .unset, .unset, .unset] [(.int (0 : Int32))])) _
    refine XS.istore X0.here hx rfl (hb hby at_30) rfl (l' := #[.val (.int p1), .val (.int p2), .val (.int p3), .val (.int (p1 &&& (255 : Int32))), .val (.int (p2 &&& (255 : Int32))), .val (.int (0 : Int32)), .unset, .unset, .unset, .unset, .unset]) rfl ?_
    show Steps p.tables e below (s₁.setTop (mkF m 32 #[.val (.int p1), .val (.int p2), .val (.int p3), .val (.int (p1 &&& (255 : Int32))), .val (.int (p2 &&& (255 : Int32))), .val (.int (0 : Int32)), .unset, .unset, .unset, .unset, .unset] [])) _
    refine XS.iloadN X0.here hx rfl (hb hby at_32) rfl ?_
    show Steps p.tables e below (s₁.setTop (mkF m 33 #[.val (.int p1), .val (.int p2), .val (.int p3), .val (.int (p1 &&& (255 : Int32))), .val (.int (p2 &&& (255 : Int32))), .val (.int (0 : Int32)), .unset, .unset, .unset, .unset, .unset] [(.int p3)])) _
    refine XS.iconst X0.here hx rfl (hb hby at_33) ?_
    show Steps p.tables e below (s₁.setTop (mkF m 34 #[.val (.int p1), .val (.int p2), .val (.int p3), .val (.int (p1 &&& (255 : Int32))), .val (.int (p2 &&& (255 : Int32))), .val (.int (0 : Int32)), .unset, .unset, .unset, .unset, .unset] [(.int (2 : Int32)), (.int p3)])) _
    refine XS.iand X0.here hx rfl (hb hby at_34) rfl ?_
    show Steps p.tables e below (s₁.setTop (mkF m 35 #[.val (.int p1), .val (.int p2), .val (.int p3), .val (.int (p1 &&& (255 : Int32))), .val (.int (p2 &&& (255 : Int32))), .val (.int (0 : Int32)), .unset, .unset, .unset, .unset, .unset] [(.int (p3 &&& (2 : Int32)))])) _
    refine XS.ifNo X0.here hx rfl (hb hby at_35) rfl ((if0 _ _).trans (teq hc_q3).2) ?_
    show Steps p.tables e below (s₁.setTop (mkF m 38 #[.val (.int p1), .val (.int p2), .val (.int p3), .val (.int (p1 &&& (255 : Int32))), .val (.int (p2 &&& (255 : Int32))), .val (.int (0 : Int32)), .unset, .unset, .unset, .unset, .unset] [])) _
    refine XS.iload X0.here hx rfl (hb hby at_38) rfl ?_
    show Steps p.tables e below (s₁.setTop (mkF m 40 #[.val (.int p1), .val (.int p2), .val (.int p3), .val (.int (p1 &&& (255 : Int32))), .val (.int (p2 &&& (255 : Int32))), .val (.int (0 : Int32)), .unset, .unset, .unset, .unset, .unset] [(.int (p2 &&& (255 : Int32)))])) _
    refine XS.bipush X0.here hx rfl (hb hby at_40) ?_
    show Steps p.tables e below (s₁.setTop (mkF m 42 #[.val (.int p1), .val (.int p2), .val (.int p3), .val (.int (p1 &&& (255 : Int32))), .val (.int (p2 &&& (255 : Int32))), .val (.int (0 : Int32)), .unset, .unset, .unset, .unset, .unset] [(.int (92 : Int32)), (.int (p2 &&& (255 : Int32)))])) _
    refine XS.icmpNo X0.here hx rfl (hb hby at_42) rfl (teq hc_q4).2 ?_
    show Steps p.tables e below (s₁.setTop (mkF m 45 #[.val (.int p1), .val (.int p2), .val (.int p3), .val (.int (p1 &&& (255 : Int32))), .val (.int (p2 &&& (255 : Int32))), .val (.int (0 : Int32)), .unset, .unset, .unset, .unset, .unset] [])) _
    refine XS.iconst X0.here hx rfl (hb hby at_45) ?_
    show Steps p.tables e below (s₁.setTop (mkF m 46 #[.val (.int p1), .val (.int p2), .val (.int p3), .val (.int (p1 &&& (255 : Int32))), .val (.int (p2 &&& (255 : Int32))), .val (.int (0 : Int32)), .unset, .unset, .unset, .unset, .unset] [(.int (1 : Int32))])) _
    refine XS.goto X0.here hx rfl (pc0 := 46) (pc' := 50) rfl (hb hby at_46) (by decide) (by decide) ?_
    show Steps p.tables e below (s₁.setTop (mkF m 50 #[.val (.int p1), .val (.int p2), .val (.int p3), .val (.int (p1 &&& (255 : Int32))), .val (.int (p2 &&& (255 : Int32))), .val (.int (0 : Int32)), .unset, .unset, .unset, .unset, .unset] [(.int (1 : Int32))])) _
    refine XS.istore X0.here hx rfl (hb hby at_50) rfl (l' := #[.val (.int p1), .val (.int p2), .val (.int p3), .val (.int (p1 &&& (255 : Int32))), .val (.int (p2 &&& (255 : Int32))), .val (.int (0 : Int32)), .val (.int (1 : Int32)), .unset, .unset, .unset, .unset]) rfl ?_
    show Steps p.tables e below (s₁.setTop (mkF m 52 #[.val (.int p1), .val (.int p2), .val (.int p3), .val (.int (p1 &&& (255 : Int32))), .val (.int (p2 &&& (255 : Int32))), .val (.int (0 : Int32)), .val (.int (1 : Int32)), .unset, .unset, .unset, .unset] [])) _
    refine XS.iload X0.here hx rfl (hb hby at_52) rfl ?_
    show Steps p.tables e below (s₁.setTop (mkF m 54 #[.val (.int p1), .val (.int p2), .val (.int p3), .val (.int (p1 &&& (255 : Int32))), .val (.int (p2 &&& (255 : Int32))), .val (.int (0 : Int32)), .val (.int (1 : Int32)), .unset, .unset, .unset, .unset] [(.int (0 : Int32))])) _
    refine XS.ifYes X0.here hx rfl (pc0 := 54) (pc' := 61) rfl (hb hby at_54) rfl ((if0 _ _).trans (teq (by decide : (0 : Int32) = (0 : Int32))).1) (by decide) (by decide) ?_
    show Steps p.tables e below (s₁.setTop (mkF m 61 #[.val (.int p1), .val (.int p2), .val (.int p3), .val (.int (p1 &&& (255 : Int32))), .val (.int (p2 &&& (255 : Int32))), .val (.int (0 : Int32)), .val (.int (1 : Int32)), .unset, .unset, .unset, .unset] [])) _
    refine XS.iconst X0.here hx rfl (hb hby at_61) ?_
    show Steps p.tables e below (s₁.setTop (mkF m 62 #[.val (.int p1), .val (.int p2), .val (.int p3), .val (.int (p1 &&& (255 : Int32))), .val (.int (p2 &&& (255 : Int32))), .val (.int (0 : Int32)), .val (.int (1 : Int32)), .unset, .unset, .unset, .unset] [(.int (1 : Int32))])) _
    refine XS.iload X0.here hx rfl (hb hby at_62) rfl ?_
    show Steps p.tables e below (s₁.setTop (mkF m 64 #[.val (.int p1), .val (.int p2), .val (.int p3), .val (.int (p1 &&& (255 : Int32))), .val (.int (p2 &&& (255 : Int32))), .val (.int (0 : Int32)), .val (.int (1 : Int32)), .unset, .unset, .unset, .unset] [(.int (1 : Int32)), (.int (1 : Int32))])) _
    refine XS.ifNo X0.here hx rfl (hb hby at_64) rfl ((if0 _ _).trans (feq (by decide : ¬ ((1 : Int32) = (0 : Int32)))).1) ?_
    show Steps p.tables e below (s₁.setTop (mkF m 67 #[.val (.int p1), .val (.int p2), .val (.int p3), .val (.int (p1 &&& (255 : Int32))), .val (.int (p2 &&& (255 : Int32))), .val (.int (0 : Int32)), .val (.int (1 : Int32)), .unset, .unset, .unset, .unset] [(.int (1 : Int32))])) _
    refine XS.iconst X0.here hx rfl (hb hby at_67) ?_
    show Steps p.tables e below (s₁.setTop (mkF m 68 #[.val (.int p1), .val (.int p2), .val (.int p3), .val (.int (p1 &&& (255 : Int32))), .val (.int (p2 &&& (255 : Int32))), .val (.int (0 : Int32)), .val (.int (1 : Int32)), .unset, .unset, .unset, .unset] [(.int (4 : Int32)), (.int (1 : Int32))])) _
    refine XS.goto X0.here hx rfl (pc0 := 68) (pc' := 72) rfl (hb hby at_68) (by decide) (by decide) ?_
    show Steps p.tables e below (s₁.setTop (mkF m 72 #[.val (.int p1), .val (.int p2), .val (.int p3), .val (.int (p1 &&& (255 : Int32))), .val (.int (p2 &&& (255 : Int32))), .val (.int (0 : Int32)), .val (.int (1 : Int32)), .unset, .unset, .unset, .unset] [(.int (4 : Int32)), (.int (1 : Int32))])) _
    refine XS.iadd X0.here hx rfl (hb hby at_72) rfl ?_
    show Steps p.tables e below (s₁.setTop (mkF m 73 #[.val (.int p1), .val (.int p2), .val (.int p3), .val (.int (p1 &&& (255 : Int32))), .val (.int (p2 &&& (255 : Int32))), .val (.int (0 : Int32)), .val (.int (1 : Int32)), .unset, .unset, .unset, .unset] [(.int ((1 : Int32) + (4 : Int32)))])) _
    refine XS.istore X0.here hx rfl (hb hby at_73) rfl (l' := #[.val (.int p1), .val (.int p2), .val (.int p3), .val (.int (p1 &&& (255 : Int32))), .val (.int (p2 &&& (255 : Int32))), .val (.int (0 : Int32)), .val (.int (1 : Int32)), .val (.int ((1 : Int32) + (4 : Int32))), .unset, .unset, .unset]) rfl ?_
    show Steps p.tables e below (s₁.setTop (mkF m 75 #[.val (.int p1), .val (.int p2), .val (.int p3), .val (.int (p1 &&& (255 : Int32))), .val (.int (p2 &&& (255 : Int32))), .val (.int (0 : Int32)), .val (.int (1 : Int32)), .val (.int ((1 : Int32) + (4 : Int32))), .unset, .unset, .unset] [])) _
    refine XS.iload X0.here hx rfl (hb hby at_75) rfl ?_
    show Steps p.tables e below (s₁.setTop (mkF m 77 #[.val (.int p1), .val (.int p2), .val (.int p3), .val (.int (p1 &&& (255 : Int32))), .val (.int (p2 &&& (255 : Int32))), .val (.int (0 : Int32)), .val (.int (1 : Int32)), .val (.int ((1 : Int32) + (4 : Int32))), .unset, .unset, .unset] [(.int ((1 : Int32) + (4 : Int32)))])) _
    refine XS.iconst X0.here hx rfl (hb hby at_77) ?_
    show Steps p.tables e below (s₁.setTop (mkF m 78 #[.val (.int p1), .val (.int p2), .val (.int p3), .val (.int (p1 &&& (255 : Int32))), .val (.int (p2 &&& (255 : Int32))), .val (.int (0 : Int32)), .val (.int (1 : Int32)), .val (.int ((1 : Int32) + (4 : Int32))), .unset, .unset, .unset] [(.int (2 : Int32)), (.int ((1 : Int32) + (4 : Int32)))])) _
    refine XS.icmpYes X0.here hx rfl (pc0 := 78) (pc' := 87) rfl (hb hby at_78) rfl (feq (by decide : ¬ (((1 : Int32) + (4 : Int32)) = (2 : Int32)))).2 (by decide) (by decide) ?_
    show Steps p.tables e below (s₁.setTop (mkF m 87 #[.val (.int p1), .val (.int p2), .val (.int p3), .val (.int (p1 &&& (255 : Int32))), .val (.int (p2 &&& (255 : Int32))), .val (.int (0 : Int32)), .val (.int (1 : Int32)), .val (.int ((1 : Int32) + (4 : Int32))), .unset, .unset, .unset] [])) _
    refine XS.iload X0.here hx rfl (hb hby at_87) rfl ?_
    show Steps p.tables e below (s₁.setTop (mkF m 89 #[.val (.int p1), .val (.int p2), .val (.int p3), .val (.int (p1 &&& (255 : Int32))), .val (.int (p2 &&& (255 : Int32))), .val (.int (0 : Int32)), .val (.int (1 : Int32)), .val (.int ((1 : Int32) + (4 : Int32))), .unset, .unset, .unset] [(.int ((1 : Int32) + (4 : Int32)))])) _
    refine XS.iconst X0.here hx rfl (hb hby at_89) ?_
    show Steps p.tables e below (s₁.setTop (mkF m 90 #[.val (.int p1), .val (.int p2), .val (.int p3), .val (.int (p1 &&& (255 : Int32))), .val (.int (p2 &&& (255 : Int32))), .val (.int (0 : Int32)), .val (.int (1 : Int32)), .val (.int ((1 : Int32) + (4 : Int32))), .unset, .unset, .unset] [(.int (5 : Int32)), (.int ((1 : Int32) + (4 : Int32)))])) _
    refine XS.icmpNo X0.here hx rfl (hb hby at_90) rfl (teq (by decide : ((1 : Int32) + (4 : Int32)) = (5 : Int32))).2 ?_
    show Steps p.tables e below (s₁.setTop (mkF m 93 #[.val (.int p1), .val (.int p2), .val (.int p3), .val (.int (p1 &&& (255 : Int32))), .val (.int (p2 &&& (255 : Int32))), .val (.int (0 : Int32)), .val (.int (1 : Int32)), .val (.int ((1 : Int32) + (4 : Int32))), .unset, .unset, .unset] [])) _
    refine XS.iconst X0.here hx rfl (hb hby at_93) ?_
    show Steps p.tables e below (s₁.setTop (mkF m 94 #[.val (.int p1), .val (.int p2), .val (.int p3), .val (.int (p1 &&& (255 : Int32))), .val (.int (p2 &&& (255 : Int32))), .val (.int (0 : Int32)), .val (.int (1 : Int32)), .val (.int ((1 : Int32) + (4 : Int32))), .unset, .unset, .unset] [(.int (5 : Int32))])) _
    refine st_q5 _ ?_
    show Steps p.tables e below (T_q5.setTop (mkF m 96 #[.val (.int p1), .val (.int p2), .val (.int p3), .val (.int (p1 &&& (255 : Int32))), .val (.int (p2 &&& (255 : Int32))), .val (.int (0 : Int32)), .val (.int (1 : Int32)), .val (.int ((1 : Int32) + (4 : Int32))), .unset, .unset, .unset] [(.ref b_q5)])) _
    refine XS.goto X_q5.here hx rfl (pc0 := 96) (pc' := 103) rfl (hb hby at_96) (by decide) (by decide) ?_
    show Steps p.tables e below (T_q5.setTop (mkF m 103 #[.val (.int p1), .val (.int p2), .val (.int p3), .val (.int (p1 &&& (255 : Int32))), .val (.int (p2 &&& (255 : Int32))), .val (.int (0 : Int32)), .val (.int (1 : Int32)), .val (.int ((1 : Int32) + (4 : Int32))), .unset, .unset, .unset] [(.ref b_q5)])) _
    refine XS.astore X_q5.here hx rfl (hb hby at_103) rfl rfl (l' := #[.val (.int p1), .val (.int p2), .val (.int p3), .val (.int (p1 &&& (255 : Int32))), .val (.int (p2 &&& (255 : Int32))), .val (.int (0 : Int32)), .val (.int (1 : Int32)), .val (.int ((1 : Int32) + (4 : Int32))), .val (.ref b_q5), .unset, .unset]) rfl ?_
    show Steps p.tables e below (T_q5.setTop (mkF m 105 #[.val (.int p1), .val (.int p2), .val (.int p3), .val (.int (p1 &&& (255 : Int32))), .val (.int (p2 &&& (255 : Int32))), .val (.int (0 : Int32)), .val (.int (1 : Int32)), .val (.int ((1 : Int32) + (4 : Int32))), .val (.ref b_q5), .unset, .unset] [])) _
    refine XS.aload X_q5.here hx rfl (hb hby at_105) rfl rfl ?_
    show Steps p.tables e below (T_q5.setTop (mkF m 107 #[.val (.int p1), .val (.int p2), .val (.int p3), .val (.int (p1 &&& (255 : Int32))), .val (.int (p2 &&& (255 : Int32))), .val (.int (0 : Int32)), .val (.int (1 : Int32)), .val (.int ((1 : Int32) + (4 : Int32))), .val (.ref b_q5), .unset, .unset] [(.ref b_q5)])) _
    refine XS.iconst X_q5.here hx rfl (hb hby at_107) ?_
    show Steps p.tables e below (T_q5.setTop (mkF m 108 #[.val (.int p1), .val (.int p2), .val (.int p3), .val (.int (p1 &&& (255 : Int32))), .val (.int (p2 &&& (255 : Int32))), .val (.int (0 : Int32)), .val (.int (1 : Int32)), .val (.int ((1 : Int32) + (4 : Int32))), .val (.ref b_q5), .unset, .unset] [(.int (0 : Int32)), (.ref b_q5)])) _
    refine XS.iloadN X_q5.here hx rfl (hb hby at_108) rfl ?_
    show Steps p.tables e below (T_q5.setTop (mkF m 109 #[.val (.int p1), .val (.int p2), .val (.int p3), .val (.int (p1 &&& (255 : Int32))), .val (.int (p2 &&& (255 : Int32))), .val (.int (0 : Int32)), .val (.int (1 : Int32)), .val (.int ((1 : Int32) + (4 : Int32))), .val (.ref b_q5), .unset, .unset] [(.int (p1 &&& (255 : Int32))), (.int (0 : Int32)), (.ref b_q5)])) _
    refine XS.iload X_q5.here hx rfl (hb hby at_109) rfl ?_
    show Steps p.tables e below (T_q5.setTop (mkF m 111 #[.val (.int p1), .val (.int p2), .val (.int p3), .val (.int (p1 &&& (255 : Int32))), .val (.int (p2 &&& (255 : Int32))), .val (.int (0 : Int32)), .val (.int (1 : Int32)), .val (.int ((1 : Int32) + (4 : Int32))), .val (.ref b_q5), .unset, .unset] [(.int (0 : Int32)), (.int (p1 &&& (255 : Int32))), (.int (0 : Int32)), (.ref b_q5)])) _
    refine st_q6 _ ?_
    show Steps p.tables e below (T_q6.setTop (mkF m 114 #[.val (.int p1), .val (.int p2), .val (.int p3), .val (.int (p1 &&& (255 : Int32))), .val (.int (p2 &&& (255 : Int32))), .val (.int (0 : Int32)), .val (.int (1 : Int32)), .val (.int ((1 : Int32) + (4 : Int32))), .val (.ref b_q5), .unset, .unset] [(.int ((0 : Int32) + (1 : Int32)))])) _
    refine XS.istore X_q6.here hx rfl (hb hby at_114) rfl (l' := #[.val (.int p1), .val (.int p2), .val (.int p3), .val (.int (p1 &&& (255 : Int32))), .val (.int (p2 &&& (255 : Int32))), .val (.int (0 : Int32)), .val (.int (1 : Int32)), .val (.int ((1 : Int32) + (4 : Int32))), .val (.ref b_q5), .val (.int ((0 : Int32) + (1 : Int32))), .unset]) rfl ?_
    show Steps p.tables e below (T_q6.setTop (mkF m 116 #[.val (.int p1), .val (.int p2), .val (.int p3), .val (.int (p1 &&& (255 : Int32))), .val (.int (p2 &&& (255 : Int32))), .val (.int (0 : Int32)), .val (.int (1 : Int32)), .val (.int ((1 : Int32) + (4 : Int32))), .val (.ref b_q5), .val (.int ((0 : Int32) + (1 : Int32))), .unset] [])) _
    refine XS.aload X_q6.here hx rfl (hb hby at_116) rfl rfl ?_
    show Steps p.tables e below (T_q6.setTop (mkF m 118 #[.val (.int p1), .val (.int p2), .val (.int p3), .val (.int (p1 &&& (255 : Int32))), .val (.int (p2 &&& (255 : Int32))), .val (.int (0 : Int32)), .val (.int (1 : Int32)), .val (.int ((1 : Int32) + (4 : Int32))), .val (.ref b_q5), .val (.int ((0 : Int32) + (1 : Int32))), .unset] [(.ref b_q5)])) _
    refine XS.iload X_q6.here hx rfl (hb hby at_118) rfl ?_
    show Steps p.tables e below (T_q6.setTop (mkF m 120 #[.val (.int p1), .val (.int p2), .val (.int p3), .val (.int (p1 &&& (255 : Int32))), .val (.int (p2 &&& (255 : Int32))), .val (.int (0 : Int32)), .val (.int (1 : Int32)), .val (.int ((1 : Int32) + (4 : Int32))), .val (.ref b_q5), .val (.int ((0 : Int32) + (1 : Int32))), .unset] [(.int ((0 : Int32) + (1 : Int32))), (.ref b_q5)])) _
    refine XS.iload X_q6.here hx rfl (hb hby at_120) rfl ?_
    show Steps p.tables e below (T_q6.setTop (mkF m 122 #[.val (.int p1), .val (.int p2), .val (.int p3), .val (.int (p1 &&& (255 : Int32))), .val (.int (p2 &&& (255 : Int32))), .val (.int (0 : Int32)), .val (.int (1 : Int32)), .val (.int ((1 : Int32) + (4 : Int32))), .val (.ref b_q5), .val (.int ((0 : Int32) + (1 : Int32))), .unset] [(.int (p2 &&& (255 : Int32))), (.int ((0 : Int32) + (1 : Int32))), (.ref b_q5)])) _
    refine XS.iload X_q6.here hx rfl (hb hby at_122) rfl ?_
    show Steps p.tables e below (T_q6.setTop (mkF m 124 #[.val (.int p1), .val (.int p2), .val (.int p3), .val (.int (p1 &&& (255 : Int32))), .val (.int (p2 &&& (255 : Int32))), .val (.int (0 : Int32)), .val (.int (1 : Int32)), .val (.int ((1 : Int32) + (4 : Int32))), .val (.ref b_q5), .val (.int ((0 : Int32) + (1 : Int32))), .unset] [(.int (1 : Int32)), (.int (p2 &&& (255 : Int32))), (.int ((0 : Int32) + (1 : Int32))), (.ref b_q5)])) _
    refine st_q7 _ ?_
    show Steps p.tables e below (T_q7.setTop (mkF m 127 #[.val (.int p1), .val (.int p2), .val (.int p3), .val (.int (p1 &&& (255 : Int32))), .val (.int (p2 &&& (255 : Int32))), .val (.int (0 : Int32)), .val (.int (1 : Int32)), .val (.int ((1 : Int32) + (4 : Int32))), .val (.ref b_q5), .val (.int ((0 : Int32) + (1 : Int32))), .unset] [(.int ((1 : Int32) + (4 : Int32)))])) _
    refine XS.pop X_q7.here hx rfl (hb hby at_127) rfl rfl ?_
    show Steps p.tables e below (T_q7.setTop (mkF m 128 #[.val (.int p1), .val (.int p2), .val (.int p3), .val (.int (p1 &&& (255 : Int32))), .val (.int (p2 &&& (255 : Int32))), .val (.int (0 : Int32)), .val (.int (1 : Int32)), .val (.int ((1 : Int32) + (4 : Int32))), .val (.ref b_q5), .val (.int ((0 : Int32) + (1 : Int32))), .unset] [])) _
    refine XS.aload X_q7.here hx rfl (hb hby at_128) rfl rfl ?_
    show Steps p.tables e below (T_q7.setTop (mkF m 130 #[.val (.int p1), .val (.int p2), .val (.int p3), .val (.int (p1 &&& (255 : Int32))), .val (.int (p2 &&& (255 : Int32))), .val (.int (0 : Int32)), .val (.int (1 : Int32)), .val (.int ((1 : Int32) + (4 : Int32))), .val (.ref b_q5), .val (.int ((0 : Int32) + (1 : Int32))), .unset] [(.ref b_q5)])) _
    refine st_q8 _ ?_
    show Steps p.tables e below (T_q8.setTop (mkF m 133 #[.val (.int p1), .val (.int p2), .val (.int p3), .val (.int (p1 &&& (255 : Int32))), .val (.int (p2 &&& (255 : Int32))), .val (.int (0 : Int32)), .val (.int (1 : Int32)), .val (.int ((1 : Int32) + (4 : Int32))), .val (.ref b_q5), .val (.int ((0 : Int32) + (1 : Int32))), .unset] [(.ref r_q8)])) _
    refine XS.astore X_q8.here hx rfl (hb hby at_133) rfl rfl (l' := #[.val (.int p1), .val (.int p2), .val (.int p3), .val (.int (p1 &&& (255 : Int32))), .val (.int (p2 &&& (255 : Int32))), .val (.int (0 : Int32)), .val (.int (1 : Int32)), .val (.int ((1 : Int32) + (4 : Int32))), .val (.ref b_q5), .val (.int ((0 : Int32) + (1 : Int32))), .val (.ref r_q8)]) rfl ?_
    show Steps p.tables e below (T_q8.setTop (mkF m 135 #[.val (.int p1), .val (.int p2), .val (.int p3), .val (.int (p1 &&& (255 : Int32))), .val (.int (p2 &&& (255 : Int32))), .val (.int (0 : Int32)), .val (.int (1 : Int32)), .val (.int ((1 : Int32) + (4 : Int32))), .val (.ref b_q5), .val (.int ((0 : Int32) + (1 : Int32))), .val (.ref r_q8)] [])) _
    refine XS.aload X_q8.here hx rfl (hb hby at_135) rfl rfl ?_
    show Steps p.tables e below (T_q8.setTop (mkF m 137 #[.val (.int p1), .val (.int p2), .val (.int p3), .val (.int (p1 &&& (255 : Int32))), .val (.int (p2 &&& (255 : Int32))), .val (.int (0 : Int32)), .val (.int (1 : Int32)), .val (.int ((1 : Int32) + (4 : Int32))), .val (.ref b_q5), .val (.int ((0 : Int32) + (1 : Int32))), .val (.ref r_q8)] [(.ref r_q8)])) _
    refine X_q8.arraylength hx (by exact Ar_q9.1) (State.isArrayOf_alike hZ.alike Ar_q9.2.1) (g := (mkF m 137 #[.val (.int p1), .val (.int p2), .val (.int p3), .val (.int (p1 &&& (255 : Int32))), .val (.int (p2 &&& (255 : Int32))), .val (.int (0 : Int32)), .val (.int (1 : Int32)), .val (.int ((1 : Int32) + (4 : Int32))), .val (.ref b_q5), .val (.int ((0 : Int32) + (1 : Int32))), .val (.ref r_q8)] [(.ref r_q8)])) rfl rfl (hb hby at_137) _ ?_
    rw [len_of S_q9 Nn_q9]
    show Steps p.tables e below (T_q8.setTop (mkF m 138 #[.val (.int p1), .val (.int p2), .val (.int p3), .val (.int (p1 &&& (255 : Int32))), .val (.int (p2 &&& (255 : Int32))), .val (.int (0 : Int32)), .val (.int (1 : Int32)), .val (.int ((1 : Int32) + (4 : Int32))), .val (.ref b_q5), .val (.int ((0 : Int32) + (1 : Int32))), .val (.ref r_q8)] [(.int (2 : Int32))])) _
    refine XS.iconst X_q8.here hx rfl (hb hby at_138) ?_
    show Steps p.tables e below (T_q8.setTop (mkF m 139 #[.val (.int p1), .val (.int p2), .val (.int p3), .val (.int (p1 &&& (255 : Int32))), .val (.int (p2 &&& (255 : Int32))), .val (.int (0 : Int32)), .val (.int (1 : Int32)), .val (.int ((1 : Int32) + (4 : Int32))), .val (.ref b_q5), .val (.int ((0 : Int32) + (1 : Int32))), .val (.ref r_q8)] [(.int (2 : Int32)), (.int (2 : Int32))])) _
    refine XS.icmpNo X_q8.here hx rfl (hb hby at_139) rfl (teq (by decide : (2 : Int32) = (2 : Int32))).2 ?_
    show Steps p.tables e below (T_q8.setTop (mkF m 142 #[.val (.int p1), .val (.int p2), .val (.int p3), .val (.int (p1 &&& (255 : Int32))), .val (.int (p2 &&& (255 : Int32))), .val (.int (0 : Int32)), .val (.int (1 : Int32)), .val (.int ((1 : Int32) + (4 : Int32))), .val (.ref b_q5), .val (.int ((0 : Int32) + (1 : Int32))), .val (.ref r_q8)] [])) _
    refine XS.aload X_q8.here hx rfl (hb hby at_142) rfl rfl ?_
    show Steps p.tables e below (T_q8.setTop (mkF m 144 #[.val (.int p1), .val (.int p2), .val (.int p3), .val (.int (p1 &&& (255 : Int32))), .val (.int (p2 &&& (255 : Int32))), .val (.int (0 : Int32)), .val (.int (1 : Int32)), .val (.int ((1 : Int32) + (4 : Int32))), .val (.ref b_q5), .val (.int ((0 : Int32) + (1 : Int32))), .val (.ref r_q8)] [(.ref r_q8)])) _
    refine XS.iconst X_q8.here hx rfl (hb hby at_144) ?_
    show Steps p.tables e below (T_q8.setTop (mkF m 145 #[.val (.int p1), .val (.int p2), .val (.int p3), .val (.int (p1 &&& (255 : Int32))), .val (.int (p2 &&& (255 : Int32))), .val (.int (0 : Int32)), .val (.int (1 : Int32)), .val (.int ((1 : Int32) + (4 : Int32))), .val (.ref b_q5), .val (.int ((0 : Int32) + (1 : Int32))), .val (.ref r_q8)] [(.int (0 : Int32)), (.ref r_q8)])) _
    refine X_q8.baloadBytes hx (j := (0 : Int32)) (v := (.int (nar .byte (nar .byte ((p1 &&& (255 : Int32)).toInt8.toInt32))))) (by exact Ar_q10.1) (State.isArrayOf_alike hZ.alike Ar_q10.2.1) Ar_q10.2.2 hin_q10 hat_q10 (g := (mkF m 145 #[.val (.int p1), .val (.int p2), .val (.int p3), .val (.int (p1 &&& (255 : Int32))), .val (.int (p2 &&& (255 : Int32))), .val (.int (0 : Int32)), .val (.int (1 : Int32)), .val (.int ((1 : Int32) + (4 : Int32))), .val (.ref b_q5), .val (.int ((0 : Int32) + (1 : Int32))), .val (.ref r_q8)] [(.int (0 : Int32)), (.ref r_q8)])) rfl rfl (hb hby at_145) _ ?_
    show Steps p.tables e below (T_q8.setTop (mkF m 146 #[.val (.int p1), .val (.int p2), .val (.int p3), .val (.int (p1 &&& (255 : Int32))), .val (.int (p2 &&& (255 : Int32))), .val (.int (0 : Int32)), .val (.int (1 : Int32)), .val (.int ((1 : Int32) + (4 : Int32))), .val (.ref b_q5), .val (.int ((0 : Int32) + (1 : Int32))), .val (.ref r_q8)] [(.int (nar .byte (nar .byte ((p1 &&& (255 : Int32)).toInt8.toInt32))))])) _
    refine XS.iloadN X_q8.here hx rfl (hb hby at_146) rfl ?_
    show Steps p.tables e below (T_q8.setTop (mkF m 147 #[.val (.int p1), .val (.int p2), .val (.int p3), .val (.int (p1 &&& (255 : Int32))), .val (.int (p2 &&& (255 : Int32))), .val (.int (0 : Int32)), .val (.int (1 : Int32)), .val (.int ((1 : Int32) + (4 : Int32))), .val (.ref b_q5), .val (.int ((0 : Int32) + (1 : Int32))), .val (.ref r_q8)] [(.int (p1 &&& (255 : Int32))), (.int (nar .byte (nar .byte ((p1 &&& (255 : Int32)).toInt8.toInt32))))])) _
    refine XS.i2b X_q8.here hx rfl (hb hby at_147) rfl ?_
    show Steps p.tables e below (T_q8.setTop (mkF m 148 #[.val (.int p1), .val (.int p2), .val (.int p3), .val (.int (p1 &&& (255 : Int32))), .val (.int (p2 &&& (255 : Int32))), .val (.int (0 : Int32)), .val (.int (1 : Int32)), .val (.int ((1 : Int32) + (4 : Int32))), .val (.ref b_q5), .val (.int ((0 : Int32) + (1 : Int32))), .val (.ref r_q8)] [(.int ((p1 &&& (255 : Int32)).toInt8.toInt32)), (.int (nar .byte (nar .byte ((p1 &&& (255 : Int32)).toInt8.toInt32))))])) _
    refine XS.icmpNo X_q8.here hx rfl (hb hby at_148) rfl (teq hc_q11).2 ?_
    show Steps p.tables e below (T_q8.setTop (mkF m 151 #[.val (.int p1), .val (.int p2), .val (.int p3), .val (.int (p1 &&& (255 : Int32))), .val (.int (p2 &&& (255 : Int32))), .val (.int (0 : Int32)), .val (.int (1 : Int32)), .val (.int ((1 : Int32) + (4 : Int32))), .val (.ref b_q5), .val (.int ((0 : Int32) + (1 : Int32))), .val (.ref r_q8)] [])) _
    refine XS.aload X_q8.here hx rfl (hb hby at_151) rfl rfl ?_
    show Steps p.tables e below (T_q8.setTop (mkF m 153 #[.val (.int p1), .val (.int p2), .val (.int p3), .val (.int (p1 &&& (255 : Int32))), .val (.int (p2 &&& (255 : Int32))), .val (.int (0 : Int32)), .val (.int (1 : Int32)), .val (.int ((1 : Int32) + (4 : Int32))), .val (.ref b_q5), .val (.int ((0 : Int32) + (1 : Int32))), .val (.ref r_q8)] [(.ref r_q8)])) _
    refine XS.iconst X_q8.here hx rfl (hb hby at_153) ?_
    show Steps p.tables e below (T_q8.setTop (mkF m 154 #[.val (.int p1), .val (.int p2), .val (.int p3), .val (.int (p1 &&& (255 : Int32))), .val (.int (p2 &&& (255 : Int32))), .val (.int (0 : Int32)), .val (.int (1 : Int32)), .val (.int ((1 : Int32) + (4 : Int32))), .val (.ref b_q5), .val (.int ((0 : Int32) + (1 : Int32))), .val (.ref r_q8)] [(.int (1 : Int32)), (.ref r_q8)])) _
    refine X_q8.baloadBytes hx (j := (1 : Int32)) (v := (.int (nar .byte (nar .byte ((((F5_0 (nar .byte ((F2_0 (((p2 &&& (255 : Int32)).toUInt32 >>> ((4 : Int32) &&& 31).toUInt32).toInt32)).toInt8.toInt32))) <<< ((4 : Int32) &&& 31)) ||| (F5_0 (nar .byte ((F2_0 ((p2 &&& (255 : Int32)) &&& (15 : Int32))).toInt8.toInt32)))).toInt8.toInt32))))) (by exact Ar_q12.1) (State.isArrayOf_alike hZ.alike Ar_q12.2.1) Ar_q12.2.2 hin_q12 hat_q12 (g := (mkF m 154 #[.val (.int p1), .val (.int p2), .val (.int p3), .val (.int (p1 &&& (255 : Int32))), .val (.int (p2 &&& (255 : Int32))), .val (.int (0 : Int32)), .val (.int (1 : Int32)), .val (.int ((1 : Int32) + (4 : Int32))), .val (.ref b_q5), .val (.int ((0 : Int32) + (1 : Int32))), .val (.ref r_q8)] [(.int (1 : Int32)), (.ref r_q8)])) rfl rfl (hb hby at_154) _ ?_
    show Steps p.tables e below (T_q8.setTop (mkF m 155 #[.val (.int p1), .val (.int p2), .val (.int p3), .val (.int (p1 &&& (255 : Int32))), .val (.int (p2 &&& (255 : Int32))), .val (.int (0 : Int32)), .val (.int (1 : Int32)), .val (.int ((1 : Int32) + (4 : Int32))), .val (.ref b_q5), .val (.int ((0 : Int32) + (1 : Int32))), .val (.ref r_q8)] [(.int (nar .byte (nar .byte ((((F5_0 (nar .byte ((F2_0 (((p2 &&& (255 : Int32)).toUInt32 >>> ((4 : Int32) &&& 31).toUInt32).toInt32)).toInt8.toInt32))) <<< ((4 : Int32) &&& 31)) ||| (F5_0 (nar .byte ((F2_0 ((p2 &&& (255 : Int32)) &&& (15 : Int32))).toInt8.toInt32)))).toInt8.toInt32))))])) _
    refine XS.iload X_q8.here hx rfl (hb hby at_155) rfl ?_
    show Steps p.tables e below (T_q8.setTop (mkF m 157 #[.val (.int p1), .val (.int p2), .val (.int p3), .val (.int (p1 &&& (255 : Int32))), .val (.int (p2 &&& (255 : Int32))), .val (.int (0 : Int32)), .val (.int (1 : Int32)), .val (.int ((1 : Int32) + (4 : Int32))), .val (.ref b_q5), .val (.int ((0 : Int32) + (1 : Int32))), .val (.ref r_q8)] [(.int (p2 &&& (255 : Int32))), (.int (nar .byte (nar .byte ((((F5_0 (nar .byte ((F2_0 (((p2 &&& (255 : Int32)).toUInt32 >>> ((4 : Int32) &&& 31).toUInt32).toInt32)).toInt8.toInt32))) <<< ((4 : Int32) &&& 31)) ||| (F5_0 (nar .byte ((F2_0 ((p2 &&& (255 : Int32)) &&& (15 : Int32))).toInt8.toInt32)))).toInt8.toInt32))))])) _
    refine XS.i2b X_q8.here hx rfl (hb hby at_157) rfl ?_
    show Steps p.tables e below (T_q8.setTop (mkF m 158 #[.val (.int p1), .val (.int p2), .val (.int p3), .val (.int (p1 &&& (255 : Int32))), .val (.int (p2 &&& (255 : Int32))), .val (.int (0 : Int32)), .val (.int (1 : Int32)), .val (.int ((1 : Int32) + (4 : Int32))), .val (.ref b_q5), .val (.int ((0 : Int32) + (1 : Int32))), .val (.ref r_q8)] [(.int ((p2 &&& (255 : Int32)).toInt8.toInt32)), (.int (nar .byte (nar .byte ((((F5_0 (nar .byte ((F2_0 (((p2 &&& (255 : Int32)).toUInt32 >>> ((4 : Int32) &&& 31).toUInt32).toInt32)).toInt8.toInt32))) <<< ((4 : Int32) &&& 31)) ||| (F5_0 (nar .byte ((F2_0 ((p2 &&& (255 : Int32)) &&& (15 : Int32))).toInt8.toInt32)))).toInt8.toInt32))))])) _
    refine XS.icmpNo X_q8.here hx rfl (hb hby at_158) rfl (teq hc_q13).2 ?_
    show Steps p.tables e below (T_q8.setTop (mkF m 161 #[.val (.int p1), .val (.int p2), .val (.int p3), .val (.int (p1 &&& (255 : Int32))), .val (.int (p2 &&& (255 : Int32))), .val (.int (0 : Int32)), .val (.int (1 : Int32)), .val (.int ((1 : Int32) + (4 : Int32))), .val (.ref b_q5), .val (.int ((0 : Int32) + (1 : Int32))), .val (.ref r_q8)] [])) _
    refine XS.iconst X_q8.here hx rfl (hb hby at_161) ?_
    show Steps p.tables e below (T_q8.setTop (mkF m 162 #[.val (.int p1), .val (.int p2), .val (.int p3), .val (.int (p1 &&& (255 : Int32))), .val (.int (p2 &&& (255 : Int32))), .val (.int (0 : Int32)), .val (.int (1 : Int32)), .val (.int ((1 : Int32) + (4 : Int32))), .val (.ref b_q5), .val (.int ((0 : Int32) + (1 : Int32))), .val (.ref r_q8)] [(.int (1 : Int32))])) _
    refine XS.goto X_q8.here hx rfl (pc0 := 162) (pc' := 166) rfl (hb hby at_162) (by decide) (by decide) ?_
    show Steps p.tables e below (T_q8.setTop (mkF m 166 #[.val (.int p1), .val (.int p2), .val (.int p3), .val (.int (p1 &&& (255 : Int32))), .val (.int (p2 &&& (255 : Int32))), .val (.int (0 : Int32)), .val (.int (1 : Int32)), .val (.int ((1 : Int32) + (4 : Int32))), .val (.ref b_q5), .val (.int ((0 : Int32) + (1 : Int32))), .val (.ref r_q8)] [(.int (1 : Int32))])) _
    exact retN X_q8 hx (t := .boolean) Bd.returns (by simp) (hb hby at_166) hr
  · show Q_law Z p1 p2 p3 h0 n0 _ T_q8.heap _
    exact ⟨rfl, N_q8⟩
set_option maxRecDepth 65536 in
set_option maxHeartbeats 40000000 in
theorem rm0_ft_ft (l : Launch) (Z : State) (a0 : Array Value) (hw : ∀ d ∈ tables_1, d.before a0 Z = true) (ws : List Jvm.Cond) (p1 : Int32) (p2 : Int32) (p3 : Int32) (h0 : Heap) (n0 : Nat) (Z0 : n0 ≤ h0.size) (hc_q1 : (p3 &&& (1 : Int32)) = (0 : Int32)) (hc_q2 : ¬ ((p1 &&& (255 : Int32)) = (92 : Int32))) (hc_q3 : (p3 &&& (2 : Int32)) = (0 : Int32)) (hc_q4 : ¬ ((p2 &&& (255 : Int32)) = (92 : Int32))) (hd_hc_q5 : ¬ ((nar .byte ((p1 &&& (255 : Int32)).toInt8.toInt32)) = (92 : Int32))) (hd_hc_q10 : ¬ ((nar .byte ((p2 &&& (255 : Int32)).toInt8.toInt32)) = (92 : Int32))) (hc_q11 : (nar .byte (nar .byte ((p1 &&& (255 : Int32)).toInt8.toInt32))) = ((p1 &&& (255 : Int32)).toInt8.toInt32)) (hc_q13 : (nar .byte (nar .byte ((p2 &&& (255 : Int32)).toInt8.toInt32))) = ((p2 &&& (255 : Int32)).toInt8.toInt32)) :
    MetFree l x (head1 (Jvm.Cond.code x code maxLocals ret :: ws) room_1) (fun a U => a = #[(.int p1), (.int p2), (.int p3)] ∧ Z.Warmed39 U.vm ∧ U.heap = h0) (fun _ _ _ _ _ => True) (fun _ U o U' => ∃ v L, o = .returned v ∧ Q_law Z p1 p2 p3 h0 n0 v U'.heap L ∧ FrameEnd U o U' L room_1.cells room_1.slots) := by
  refine MetFree.of_bodySF (plainFor_of_name pn_0) hisR ?_
  intro p e s m args below meth c s₁ Bd hml0 hP hK
  obtain ⟨rfl, hZ, hh⟩ := hP
  have hx := Bd.exec
  have hby := Bd.bytes
  have hml : c.maxLocals = 11 := hml0
  have hown : s.vm.findClass "com/example/presplit/presplit/escape/BinaryEscapeDecodePinLaw" = some m.cls := findClass_of_methodNamed Bd.named
  have hnm := (name_of_methodNamed Bd.named Bd.method).1
  have X0 : Stand p l e room_1 s m #[(.int p1), (.int p2), (.int p3)] below meth c s₁ [] 0 0 := Stand.of_body Bd
  have e0 : s₁.heap = h0 := by rw [← hh, Bd.state]; rfl
  have N0 := Fr.nil n0
  have pre0 : ∀ t, Steps p.tables e below (s₁.setTop (mkF m 0 #[.val (.int p1), .val (.int p2), .val (.int p3), .unset, .unset, .unset, .unset, .unset, .unset, .unset, .unset] [])) t → Steps p.tables e below (s₁.setTop (entryFrame m #[(.int p1), (.int p2), (.int p3)] maxLocals)) t := fun t k => castTop (ef_0 m p1 p2 p3) k
  have K0 : Keep h0 h0 [] := Keep.refl _ _
  obtain ⟨T_q5, h_q5, k_q5, X_q5, e_q5, E_q5, A_q5, EX_q5, st_q5⟩ := newPE X0 hx hZ (hw _ (List.mem_of_getElem? (i := 0) rfl)) e0 (g := (mkF m 82 #[.val (.int p1), .val (.int p2), .val (.int p3), .val (.int (p1 &&& (255 : Int32))), .val (.int (p2 &&& (255 : Int32))), .val (.int (0 : Int32)), .val (.int (0 : Int32)), .val (.int ((1 : Int32) + (1 : Int32))), .unset, .unset, .unset] [(.int (2 : Int32))])) rfl (hb hby at_82) rfl (by decide) (cap := 2) (by decide) (by decide) (by decide) (by decide) (ad := "[B") (by decide)
  obtain ⟨b_q5, g_q5⟩ : ∃ z, z = h0.size := ⟨_, rfl⟩
  rw [← g_q5] at A_q5 EX_q5 st_q5
  have ge_b_q5 : n0 ≤ b_q5 := Nat.le_trans (Nat.le_trans Z0 K0.1) (Nat.le_of_eq g_q5.symm)
  have sz_b_q5 : h0.size ≤ b_q5 := Nat.le_trans K0.1 (Nat.le_of_eq g_q5.symm)
  have K_q5 : Keep h0 h_q5 [] := K0.ext E_q5
  have V_b_q5 : Arv Z h_q5 b_q5 k_q5 .byte (2 : Int32) [(.int (0 : Int32)), (.int (0 : Int32))] (.int (0 : Int32)) := (Arv.new A_q5 (by decide)).pad (pad_rep [] (.int (0 : Int32)) 2)
  obtain ⟨_, _, ⟨T_q6, L_q6, k_q6, n_q6⟩, -, X_q6, ⟨Lc_q6, hQ_q6, l_q6, y_q6, z_q6⟩, st_q6⟩ := Jvm.LawKit.callS X_q5 hx (y := (⟨"com/example/presplit/presplit/escape/BinaryEscapeDecodePinLaw", "put", "([BIIZ)I"⟩ : MethodName)) hown (mvT hZ (hw _ (List.mem_of_getElem? (i := 1) rfl))) (mvT hZ (hw _ (List.mem_of_getElem? (i := 2) rfl))) (mvT hZ (hw _ (List.mem_of_getElem? (i := 3) rfl))) (mvT hZ (hw _ (List.mem_of_getElem? (i := 4) rfl))) (by decide) (backOf (W := 0) (rm1_2_0_0 l Z a0 hw [] b_q5 k_q5 (.int (0 : Int32)) (.int (0 : Int32)) (p1 &&& (255 : Int32)) h_q5 n0 (Nat.le_trans Z0 K_q5.1) V_b_q5 ge_b_q5) hZ (hw _ (List.mem_of_getElem? (i := 4) rfl)) (hw _ (List.mem_of_getElem? (i := 3) rfl)) (by decide) (by decide)) (g := (mkF m 111 #[.val (.int p1), .val (.int p2), .val (.int p3), .val (.int (p1 &&& (255 : Int32))), .val (.int (p2 &&& (255 : Int32))), .val (.int (0 : Int32)), .val (.int (0 : Int32)), .val (.int ((1 : Int32) + (1 : Int32))), .val (.ref b_q5), .unset, .unset] [(.int (0 : Int32)), (.int (p1 &&& (255 : Int32))), (.int (0 : Int32)), (.ref b_q5)])) rfl (by rw [hml]; rfl) (argsL := [(.ref b_q5), (.int (0 : Int32)), (.int (p1 &&& (255 : Int32))), (.int (0 : Int32))]) (rest := []) (lenOf pd___BIIZ_I rfl) rfl (by show 2 * 0 + _ ≤ _; exact Nat.le_of_eq rfl) (hb hby at_111) (fun _ _ => ⟨rfl, e_q5, (by decide : 1 + 0 ≤ _), (by decide : 2 + 0 ≤ _)⟩)
  dsimp only [Pt.U, Pt.locs, Pt.cells, Pt.slots] at X_q6 l_q6 y_q6 z_q6 st_q6 hQ_q6
  subst l_q6 y_q6 z_q6
  obtain ⟨rfl, Nq_q6, Kq_q6, Vq_q6⟩ := hQ_q6
  have N_q6 := Fr.app N0 Nq_q6
  have EX_q5__q6 := EX_q5.keep Kq_q6
  have K_q6 : Keep h0 T_q6.heap [] := K_q5.trans Kq_q6 (fun x hx => Or.inr (by cases List.mem_singleton.mp hx; exact sz_b_q5))
  obtain ⟨_, _, ⟨T_q7, L_q7, k_q7, n_q7⟩, -, X_q7, ⟨Lc_q7, hQ_q7, l_q7, y_q7, z_q7⟩, st_q7⟩ := Jvm.LawKit.callS X_q6 hx (y := (⟨"com/example/presplit/presplit/escape/BinaryEscapeDecodePinLaw", "put", "([BIIZ)I"⟩ : MethodName)) hown (mvT hZ (hw _ (List.mem_of_getElem? (i := 1) rfl))) (mvT hZ (hw _ (List.mem_of_getElem? (i := 2) rfl))) (mvT hZ (hw _ (List.mem_of_getElem? (i := 3) rfl))) (mvT hZ (hw _ (List.mem_of_getElem? (i := 4) rfl))) (by decide) (backOf (W := 0) (rm1_2_1_0 l Z a0 hw [] b_q5 k_q5 (.int (nar .byte ((p1 &&& (255 : Int32)).toInt8.toInt32))) (.int (0 : Int32)) (p2 &&& (255 : Int32)) T_q6.heap n0 (Nat.le_trans Z0 K_q6.1) Vq_q6 ge_b_q5) hZ (hw _ (List.mem_of_getElem? (i := 4) rfl)) (hw _ (List.mem_of_getElem? (i := 3) rfl)) (by decide) (by decide)) (g := (mkF m 124 #[.val (.int p1), .val (.int p2), .val (.int p3), .val (.int (p1 &&& (255 : Int32))), .val (.int (p2 &&& (255 : Int32))), .val (.int (0 : Int32)), .val (.int (0 : Int32)), .val (.int ((1 : Int32) + (1 : Int32))), .val (.ref b_q5), .val (.int ((0 : Int32) + (1 : Int32))), .unset] [(.int (0 : Int32)), (.int (p2 &&& (255 : Int32))), (.int ((0 : Int32) + (1 : Int32))), (.ref b_q5)])) rfl (by rw [hml]; rfl) (argsL := [(.ref b_q5), (.int ((0 : Int32) + (1 : Int32))), (.int (p2 &&& (255 : Int32))), (.int (0 : Int32))]) (rest := []) (lenOf pd___BIIZ_I rfl) rfl (by show 2 * 0 + _ ≤ _; exact Nat.le_of_eq rfl) (hb hby at_124) (fun _ _ => ⟨rfl, rfl, (by decide : 1 + 0 ≤ _), (by decide : 2 + 0 ≤ _)⟩)
  dsimp only [Pt.U, Pt.locs, Pt.cells, Pt.slots] at X_q7 l_q7 y_q7 z_q7 st_q7 hQ_q7
  subst l_q7 y_q7 z_q7
  obtain ⟨rfl, Nq_q7, Kq_q7, Vq_q7⟩ := hQ_q7
  have N_q7 := Fr.app N_q6 Nq_q7
  have EX_q5__q7 := EX_q5__q6.keep Kq_q7
  have K_q7 : Keep h0 T_q7.heap [] := K_q6.trans Kq_q7 (fun x hx => Or.inr (by cases List.mem_singleton.mp hx; exact sz_b_q5))
  have VD_q8 : Arv Z T_q7.heap b_q5 k_q5 .byte (2 : Int32) [(.int (nar .byte ((p1 &&& (255 : Int32)).toInt8.toInt32))), (.int (nar .byte ((p2 &&& (255 : Int32)).toInt8.toInt32)))] (.int (0 : Int32)) := Vq_q7
  obtain ⟨_, _, ⟨T_q8, L_q8, k_q8, n_q8⟩, -, X_q8, ⟨Lc_q8, hQ_q8, l_q8, y_q8, z_q8⟩, st_q8⟩ := Jvm.LawKit.callS X_q7 hx (y := (⟨"com/example/presplit/presplit/escape/BinaryEscape", "decode", "([B)[B"⟩ : MethodName)) hown (mvT hZ (hw _ (List.mem_of_getElem? (i := 8) rfl))) (mvT hZ (hw _ (List.mem_of_getElem? (i := 9) rfl))) (mvT hZ (hw _ (List.mem_of_getElem? (i := 10) rfl))) (mvT hZ (hw _ (List.mem_of_getElem? (i := 11) rfl))) (by decide) (backOf (W := 0) (rm3_00 l Z a0 hw [] b_q5 k_q5 (nar .byte ((p1 &&& (255 : Int32)).toInt8.toInt32)) (nar .byte ((p2 &&& (255 : Int32)).toInt8.toInt32)) T_q7.heap n0 (Nat.le_trans Z0 K_q7.1) VD_q8 hd_hc_q5 hd_hc_q10) hZ (hw _ (List.mem_of_getElem? (i := 11) rfl)) (hw _ (List.mem_of_getElem? (i := 10) rfl)) (by decide) (by decide)) (g := (mkF m 130 #[.val (.int p1), .val (.int p2), .val (.int p3), .val (.int (p1 &&& (255 : Int32))), .val (.int (p2 &&& (255 : Int32))), .val (.int (0 : Int32)), .val (.int (0 : Int32)), .val (.int ((1 : Int32) + (1 : Int32))), .val (.ref b_q5), .val (.int ((0 : Int32) + (1 : Int32))), .unset] [(.ref b_q5)])) rfl (by rw [hml]; rfl) (argsL := [(.ref b_q5)]) (rest := []) (lenOf pd___B__B rfl) rfl (by show 2 * 0 + _ ≤ _; exact Nat.le_of_eq rfl) (hb hby at_130) (fun _ _ => ⟨rfl, rfl, (by decide : 1 + 2 ≤ _), (by decide : 2 + 4 ≤ _)⟩)
  dsimp only [Pt.U, Pt.locs, Pt.cells, Pt.slots] at X_q8 l_q8 y_q8 z_q8 st_q8 hQ_q8
  subst l_q8 y_q8 z_q8
  obtain ⟨r_q8, kr_q8, rfl, Nq_q8, Kq_q8, Vr_q8⟩ := hQ_q8
  have N_q8 := Fr.app N_q7 Nq_q8
  have EX_q5__q8 := EX_q5__q7.keep Kq_q8
  have Vq_q7__q8 := Vq_q7.keep Kq_q8 List.not_mem_nil
  have K_q8 : Keep h0 T_q8.heap [] := K_q7.trans Kq_q8 (fun x hx => nomatch hx)
  obtain ⟨cl_q9, Ar_q9, qk_q9, S_q9, Nn_q9, H_q9, G_q9⟩ := id Vr_q8
  obtain ⟨cl_q10, Ar_q10, qk_q10, S_q10, Nn_q10, H_q10, G_q10⟩ := id Vr_q8
  have hin_q10 : ¬ ((0 : Int32) < 0 ∨ cl_q10.slots.size ≤ ((0 : Int32)).toNatClampNeg) := inb_of S_q10 ⟨by decide, by decide⟩
  have hat_q10 : cl_q10.slots[((0 : Int32)).toNatClampNeg]? = some (.int (nar .byte (nar .byte ((p1 &&& (255 : Int32)).toInt8.toInt32)))) := H_q10 0 (Nat.lt_of_not_le fun q => hin_q10 (Or.inr q))
  obtain ⟨cl_q12, Ar_q12, qk_q12, S_q12, Nn_q12, H_q12, G_q12⟩ := id Vr_q8
  have hin_q12 : ¬ ((1 : Int32) < 0 ∨ cl_q12.slots.size ≤ ((1 : Int32)).toNatClampNeg) := inb_of S_q12 ⟨by decide, by decide⟩
  have hat_q12 : cl_q12.slots[((1 : Int32)).toNatClampNeg]? = some (.int (nar .byte (nar .byte ((p2 &&& (255 : Int32)).toInt8.toInt32)))) := H_q12 1 (Nat.lt_of_not_le fun q => hin_q12 (Or.inr q))
  obtain ⟨fs, hr, hrun, hended, hW, hsame⟩ := X_q8.leave (v := some (.int (1 : Int32))) (fun h => by rw [Bd.returns] at h; cases h) Bd.notSynchronized
  refine ⟨_, _, pre0 _ ?_, hrun, hended, _, _, rfl, ?_, ⟨_, rfl⟩, hW, hsame.mono (by decide) (by decide)⟩
  · show Steps p.tables e below (s₁.setTop (mkF m 0 #[.val (.int p1), .val (.int p2), .val (.int p3), .unset, .unset, .unset, .unset, .unset, .unset, .unset, .unset] [])) _
    refine XS.iloadN X0.here hx rfl (hb hby at_0) rfl ?_
    show Steps p.tables e below (s₁.setTop (mkF m 1 #[.val (.int p1), .val (.int p2), .val (.int p3), .unset, .unset, .unset, .unset, .unset, .unset, .unset, .unset] [(.int p1)])) _
    refine XS.sipush X0.here hx rfl (hb hby at_1) ?_
    show Steps p.tables e below (s₁.setTop (mkF m 4 #[.val (.int p1), .val (.int p2), .val (.int p3), .unset, .unset, .unset, .unset, .unset, .unset, .unset, .unset] [(.int (255 : Int32)), (.int p1)])) _
    refine XS.iand X0.here hx rfl (hb hby at_4) rfl ?_
    show Steps p.tables e below (s₁.setTop (mkF m 5 #[.val (.int p1), .val (.int p2), .val (.int p3), .unset, .unset, .unset, .unset, .unset, .unset, .unset, .unset] [(.int (p1 &&& (255 : Int32)))])) _
    refine XS.istoreN X0.here hx rfl (hb hby at_5) rfl (l' := #[.val (.int p1), .val (.int p2), .val (.int p3), .val (.int (p1 &&& (255 : Int32))), .unset, .unset, .unset, .unset, .unset, .unset, .unset]) rfl ?_
    show Steps p.tables e below (s₁.setTop (mkF m 6 #[.val (.int p1), .val (.int p2), .val (.int p3), .val (.int (p1 &&& (255 : Int32))), .unset, .unset, .unset, .unset, .unset, .unset, .unset] [])) _
    refine XS.iloadN X0.here hx rfl (hb hby at_6) rfl ?_
    show Steps p.tables e below (s₁.setTop (mkF m 7 #[.val (.int p1), .val (.int p2), .val (.int p3), .val (.int (p1 &&& (255 : Int32))), .unset, .unset, .unset, .unset, .unset, .unset, .unset] [(.int p2)])) _
    refine XS.sipush X0.here hx rfl (hb hby at_7) ?_
    show Steps p.tables e below (s₁.setTop (mkF m 10 #[.val (.int p1), .val (.int p2), .val (.int p3), .val (.int (p1 &&& (255 : Int32))), .unset, .unset, .unset, .unset, .unset, .unset, .unset] [(.int (255 : Int32)), (.int p2)])) _
    refine XS.iand X0.here hx rfl (hb hby at_10) rfl ?_
    show Steps p.tables e below (s₁.setTop (mkF m 11 #[.val (.int p1), .val (.int p2), .val (.int p3), .val (.int (p1 &&& (255 : Int32))), .unset, .unset, .unset, .unset, .unset, .unset, .unset] [(.int (p2 &&& (255 : Int32)))])) _
    refine XS.istore X0.here hx rfl (hb hby at_11) rfl (l' := #[.val (.int p1), .val (.int p2), .val (.int p3), .val (.int (p1 &&& (255 : Int32))), .val (.int (p2 &&& (255 : Int32))), .unset, .unset, .unset, .unset, .unset, .unset]) rfl ?_
    show Steps p.tables e below (s₁.setTop (mkF m 13 #[.val (.int p1), .val (.int p2), .val (.int p3), .val (.int (p1 &&& (255 : Int32))), .val (.int (p2 &&& (255 : Int32))), .unset, .unset, .unset, .unset, .unset, .unset] [])) _
    refine XS.iloadN X0.here hx rfl (hb hby at_13) rfl ?_
    show Steps p.tables e below (s₁.setTop (mkF m 14 #[.val (.int p1), .val (.int p2), .val (.int p3), .val (.int (p1 &&& (255 : Int32))), .val (.int (p2 &&& (255 : Int32))), .unset, .unset, .unset, .unset, .unset, .unset] [(.int p3)])) _
    refine XS.iconst X0.here hx rfl (hb hby at_14) ?_
    show Steps p.tables e below (s₁.setTop (mkF m 15 #[.val (.int p1), .val (.int p2), .val (.int p3), .val (.int (p1 &&& (255 : Int32))), .val (.int (p2 &&& (255 : Int32))), .unset, .unset, .unset, .unset, .unset, .unset] [(.int (1 : Int32)), (.int p3)])) _
    refine XS.iand X0.here hx rfl (hb hby at_15) rfl ?_
    show Steps p.tables e below (s₁.setTop (mkF m 16 #[.val (.int p1), .val (.int p2), .val (.int p3), .val (.int (p1 &&& (255 : Int32))), .val (.int (p2 &&& (255 : Int32))), .unset, .unset, .unset, .unset, .unset, .unset] [(.int (p3 &&& (1 : Int32)))])) _
    refine XS.ifNo X0.here hx rfl (hb hby at_16) rfl ((if0 _ _).trans (teq hc_q1).2) ?_
    show Steps p.tables e below (s₁.setTop (mkF m 19 #[.val (.int p1), .val (.int p2), .val (.int p3), .val (.int (p1 &&& (255 : Int32))), .val (.int (p2 &&& (255 : Int32))), .unset, .unset, .unset, .unset, .unset, .unset] [])) _
    refine XS.iloadN X0.here hx rfl (hb hby at_19) rfl ?_
    show Steps p.tables e below (s₁.setTop (mkF m 20 #[.val (.int p1), .val (.int p2), .val (.int p3), .val (.int (p1 &&& (255 : Int32))), .val (.int (p2 &&& (255 : Int32))), .unset, .unset, .unset, .unset, .unset, .unset] [(.int (p1 &&& (255 : Int32)))])) _
    refine XS.bipush X0.here hx rfl (hb hby at_20) ?_
    show Steps p.tables e below (s₁.setTop (mkF m 22 #[.val (.int p1), .val (.int p2), .val (.int p3), .val (.int (p1 &&& (255 : Int32))), .val (.int (p2 &&& (255 : Int32))), .unset, .unset, .unset, .unset, .unset, .unset] [(.int (92 : Int32)), (.int (p1 &&& (255 : Int32)))])) _
    refine XS.icmpYes X0.here hx rfl (pc0 := 22) (pc' := 29) rfl (hb hby at_22) rfl (feq hc_q2).2 (by decide) (by decide) ?_
    show Steps p.tables e below (s₁.setTop (mkF m 29 #[.val (.int p1), .val (.int p2), .val (.int p3), .val (.int (p1 &&& (255 : Int32))), .val (.int (p2 &&& (255 : Int32))), .unset, .unset, .unset, .unset, .unset, .unset] [])) _
    refine XS.iconst X0.here hx rfl (hb hby at_29) ?_
    show Steps p.tables e below (s₁.setTop (mkF m 30 #[.val (.int p1), .val (.int p2), .val (.int p3), .val (.int (p1 &&& (255 : Int32))), .val (.int (p2 &&& (255 : Int32))), .unset, .unset, .unset, .unset, .unset, .unset] [(.int (0 : Int32))])) _
    refine XS.istore X0.here hx rfl (hb hby at_30) rfl (l' := #[.val (.int p1), .val (.int p2), .val (.int p3), .val (.int (p1 &&& (255 : Int32))), .val (.int (p2 &&& (255 : Int32))), .val (.int (0 : Int32)), .unset, .unset, .unset, .unset, .unset]) rfl ?_
    show Steps p.tables e below (s₁.setTop (mkF m 32 #[.val (.int p1), .val (.int p2), .val (.int p3), .val (.int (p1 &&& (255 : Int32))), .val (.int (p2 &&& (255 : Int32))), .val (.int (0 : Int32)), .unset, .unset, .unset, .unset, .unset] [])) _
    refine XS.iloadN X0.here hx rfl (hb hby at_32) rfl ?_
    show Steps p.tables e below (s₁.setTop (mkF m 33 #[.val (.int p1), .val (.int p2), .val (.int p3), .val (.int (p1 &&& (255 : Int32))), .val (.int (p2 &&& (255 : Int32))), .val (.int (0 : Int32)), .unset, .unset, .unset, .unset, .unset] [(.int p3)])) _
    refine XS.iconst X0.here hx rfl (hb hby at_33) ?_
    show Steps p.tables e below (s₁.setTop (mkF m 34 #[.val (.int p1), .val (.int p2), .val (.int p3), .val (.int (p1 &&& (255 : Int32))), .val (.int (p2 &&& (255 : Int32))), .val (.int (0 : Int32)), .unset, .unset, .unset, .unset, .unset] [(.int (2 : Int32)), (.int p3)])) _
    refine XS.iand X0.here hx rfl (hb hby at_34) rfl ?_
    show Steps p.tables e below (s₁.setTop (mkF m 35 #[.val (.int p1), .val (.int p2), .val (.int p3), .val (.int (p1 &&& (255 : Int32))), .val (.int (p2 &&& (255 : Int32))), .val (.int (0 : Int32)), .unset, .unset, .unset, .unset, .unset] [(.int (p3 &&& (2 : Int32)))])) _
    refine XS.ifNo X0.here hx rfl (hb hby at_35) rfl ((if0 _ _).trans (teq hc_q3).2) ?_
    show Steps p.tables e below (s₁.setTop (mkF m 38 #[.val (.int p1), .val (.int p2), .val (.int p3), .val (.int (p1 &&& (255 : Int32))), .val (.int (p2 &&& (255 : Int32))), .val (.int (0 : Int32)), .unset, .unset, .unset, .unset, .unset] [])) _
    refine XS.iload X0.here hx rfl (hb hby at_38) rfl ?_
    show Steps p.tables e below (s₁.setTop (mkF m 40 #[.val (.int p1), .val (.int p2), .val (.int p3), .val (.int (p1 &&& (255 : Int32))), .val (.int (p2 &&& (255 : Int32))), .val (.int (0 : Int32)), .unset, .unset, .unset, .unset, .unset] [(.int (p2 &&& (255 : Int32)))])) _
    refine XS.bipush X0.here hx rfl (hb hby at_40) ?_
    show Steps p.tables e below (s₁.setTop (mkF m 42 #[.val (.int p1), .val (.int p2), .val (.int p3), .val (.int (p1 &&& (255 : Int32))), .val (.int (p2 &&& (255 : Int32))), .val (.int (0 : Int32)), .unset, .unset, .unset, .unset, .unset] [(.int (92 : Int32)), (.int (p2 &&& (255 : Int32)))])) _
    refine XS.icmpYes X0.here hx rfl (pc0 := 42) (pc' := 49) rfl (hb hby at_42) rfl (feq hc_q4).2 (by decide) (by decide) ?_
    show Steps p.tables e below (s₁.setTop (mkF m 49 #[.val (.int p1), .val (.int p2), .val (.int p3), .val (.int (p1 &&& (255 : Int32))), .val (.int (p2 &&& (255 : Int32))), .val (.int (0 : Int32)), .unset, .unset, .unset, .unset, .unset] [])) _
    refine XS.iconst X0.here hx rfl (hb hby at_49) ?_
    show Steps p.tables e below (s₁.setTop (mkF m 50 #[.val (.int p1), .val (.int p2), .val (.int p3), .val (.int (p1 &&& (255 : Int32))), .val (.int (p2 &&& (255 : Int32))), .val (.int (0 : Int32)), .unset, .unset, .unset, .unset, .unset] [(.int (0 : Int32))])) _
    refine XS.istore X0.here hx rfl (hb hby at_50) rfl (l' := #[.val (.int p1), .val (.int p2), .val (.int p3), .val (.int (p1 &&& (255 : Int32))), .val (.int (p2 &&& (255 : Int32))), .val (.int (0 : Int32)), .val (.int (0 : Int32)), .unset, .unset, .unset, .unset]) rfl ?_
    show Steps p.tables e below (s₁.setTop (mkF m 52 #[.val (.int p1), .val (.int p2), .val (.int p3), .val (.int (p1 &&& (255 : Int32))), .val (.int (p2 &&& (255 : Int32))), .val (.int (0 : Int32)), .val (.int (0 : Int32)), .unset, .unset, .unset, .unset] [])) _
    refine XS.iload X0.here hx rfl (hb hby at_52) rfl ?_
    show Steps p.tables e below (s₁.setTop (mkF m 54 #[.val (.int p1), .val (.int p2), .val (.int p3), .val (.int (p1 &&& (255 : Int32))), .val (.int (p2 &&& (255 : Int32))), .val (.int (0 : Int32)), .val (.int (0 : Int32)), .unset, .unset, .unset, .unset] [(.int (0 : Int32))])) _
    refine XS.ifYes X0.here hx rfl (pc0 := 54) (pc' := 61) rfl (hb hby at_54) rfl ((if0 _ _).trans (teq (by decide : (0 : Int32) = (0 : Int32))).1) (by decide) (by decide) ?_
    show Steps p.tables e below (s₁.setTop (mkF m 61 #[.val (.int p1), .val (.int p2), .val (.int p3), .val (.int (p1 &&& (255 : Int32))), .val (.int (p2 &&& (255 : Int32))), .val (.int (0 : Int32)), .val (.int (0 : Int32)), .unset, .unset, .unset, .unset] [])) _
    refine XS.iconst X0.here hx rfl (hb hby at_61) ?_
    show Steps p.tables e below (s₁.setTop (mkF m 62 #[.val (.int p1), .val (.int p2), .val (.int p3), .val (.int (p1 &&& (255 : Int32))), .val (.int (p2 &&& (255 : Int32))), .val (.int (0 : Int32)), .val (.int (0 : Int32)), .unset, .unset, .unset, .unset] [(.int (1 : Int32))])) _
    refine XS.iload X0.here hx rfl (hb hby at_62) rfl ?_
    show Steps p.tables e below (s₁.setTop (mkF m 64 #[.val (.int p1), .val (.int p2), .val (.int p3), .val (.int (p1 &&& (255 : Int32))), .val (.int (p2 &&& (255 : Int32))), .val (.int (0 : Int32)), .val (.int (0 : Int32)), .unset, .unset, .unset, .unset] [(.int (0 : Int32)), (.int (1 : Int32))])) _
    refine XS.ifYes X0.here hx rfl (pc0 := 64) (pc' := 71) rfl (hb hby at_64) rfl ((if0 _ _).trans (teq (by decide : (0 : Int32) = (0 : Int32))).1) (by decide) (by decide) ?_
    show Steps p.tables e below (s₁.setTop (mkF m 71 #[.val (.int p1), .val (.int p2), .val (.int p3), .val (.int (p1 &&& (255 : Int32))), .val (.int (p2 &&& (255 : Int32))), .val (.int (0 : Int32)), .val (.int (0 : Int32)), .unset, .unset, .unset, .unset] [(.int (1 : Int32))])) _
    refine XS.iconst X0.here hx rfl (hb hby at_71) ?_
    show Steps p.tables e below (s₁.setTop (mkF m 72 #[.val (.int p1), .val (.int p2), .val (.int p3), .val (.int (p1 &&& (255 : Int32))), .val (.int (p2 &&& (255 : Int32))), .val (.int (0 : Int32)), .val (.int (0 : Int32)), .unset, .unset, .unset, .unset] [(.int (1 : Int32)), (.int (1 : Int32))])) _
    refine XS.iadd X0.here hx rfl (hb hby at_72) rfl ?_
    show Steps p.tables e below (s₁.setTop (mkF m 73 #[.val (.int p1), .val (.int p2), .val (.int p3), .val (.int (p1 &&& (255 : Int32))), .val (.int (p2 &&& (255 : Int32))), .val (.int (0 : Int32)), .val (.int (0 : Int32)), .unset, .unset, .unset, .unset] [(.int ((1 : Int32) + (1 : Int32)))])) _
    refine XS.istore X0.here hx rfl (hb hby at_73) rfl (l' := #[.val (.int p1), .val (.int p2), .val (.int p3), .val (.int (p1 &&& (255 : Int32))), .val (.int (p2 &&& (255 : Int32))), .val (.int (0 : Int32)), .val (.int (0 : Int32)), .val (.int ((1 : Int32) + (1 : Int32))), .unset, .unset, .unset]) rfl ?_
    show Steps p.tables e below (s₁.setTop (mkF m 75 #[.val (.int p1), .val (.int p2), .val (.int p3), .val (.int (p1 &&& (255 : Int32))), .val (.int (p2 &&& (255 : Int32))), .val (.int (0 : Int32)), .val (.int (0 : Int32)), .val (.int ((1 : Int32) + (1 : Int32))), .unset, .unset, .unset] [])) _
    refine XS.iload X0.here hx rfl (hb hby at_75) rfl ?_
    show Steps p.tables e below (s₁.setTop (mkF m 77 #[.val (.int p1), .val (.int p2), .val (.int p3), .val (.int (p1 &&& (255 : Int32))), .val (.int (p2 &&& (255 : Int32))), .val (.int (0 : Int32)), .val (.int (0 : Int32)), .val (.int ((1 : Int32) + (1 : Int32))), .unset, .unset, .unset] [(.int ((1 : Int32) + (1 : Int32)))])) _
    refine XS.iconst X0.here hx rfl (hb hby at_77) ?_
    show Steps p.tables e below (s₁.setTop (mkF m 78 #[.val (.int p1), .val (.int p2), .val (.int p3), .val (.int (p1 &&& (255 : Int32))), .val (.int (p2 &&& (255 : Int32))), .val (.int (0 : Int32)), .val (.int (0 : Int32)), .val (.int ((1 : Int32) + (1 : Int32))), .unset, .unset, .unset] [(.int (2 : Int32)), (.int ((1 : Int32) + (1 : Int32)))])) _
    refine XS.icmpNo X0.here hx rfl (hb hby at_78) rfl (teq (by decide : ((1 : Int32) + (1 : Int32)) = (2 : Int32))).2 ?_
    show Steps p.tables e below (s₁.setTop (mkF m 81 #[.val (.int p1), .val (.int p2), .val (.int p3), .val (.int (p1 &&& (255 : Int32))), .val (.int (p2 &&& (255 : Int32))), .val (.int (0 : Int32)), .val (.int (0 : Int32)), .val (.int ((1 : Int32) + (1 : Int32))), .unset, .unset, .unset] [])) _
    refine XS.iconst X0.here hx rfl (hb hby at_81) ?_
    show Steps p.tables e below (s₁.setTop (mkF m 82 #[.val (.int p1), .val (.int p2), .val (.int p3), .val (.int (p1 &&& (255 : Int32))), .val (.int (p2 &&& (255 : Int32))), .val (.int (0 : Int32)), .val (.int (0 : Int32)), .val (.int ((1 : Int32) + (1 : Int32))), .unset, .unset, .unset] [(.int (2 : Int32))])) _
    refine st_q5 _ ?_
    show Steps p.tables e below (T_q5.setTop (mkF m 84 #[.val (.int p1), .val (.int p2), .val (.int p3), .val (.int (p1 &&& (255 : Int32))), .val (.int (p2 &&& (255 : Int32))), .val (.int (0 : Int32)), .val (.int (0 : Int32)), .val (.int ((1 : Int32) + (1 : Int32))), .unset, .unset, .unset] [(.ref b_q5)])) _
    refine XS.goto X_q5.here hx rfl (pc0 := 84) (pc' := 103) rfl (hb hby at_84) (by decide) (by decide) ?_
    show Steps p.tables e below (T_q5.setTop (mkF m 103 #[.val (.int p1), .val (.int p2), .val (.int p3), .val (.int (p1 &&& (255 : Int32))), .val (.int (p2 &&& (255 : Int32))), .val (.int (0 : Int32)), .val (.int (0 : Int32)), .val (.int ((1 : Int32) + (1 : Int32))), .unset, .unset, .unset] [(.ref b_q5)])) _
    refine XS.astore X_q5.here hx rfl (hb hby at_103) rfl rfl (l' := #[.val (.int p1), .val (.int p2), .val (.int p3), .val (.int (p1 &&& (255 : Int32))), .val (.int (p2 &&& (255 : Int32))), .val (.int (0 : Int32)), .val (.int (0 : Int32)), .val (.int ((1 : Int32) + (1 : Int32))), .val (.ref b_q5), .unset, .unset]) rfl ?_
    show Steps p.tables e below (T_q5.setTop (mkF m 105 #[.val (.int p1), .val (.int p2), .val (.int p3), .val (.int (p1 &&& (255 : Int32))), .val (.int (p2 &&& (255 : Int32))), .val (.int (0 : Int32)), .val (.int (0 : Int32)), .val (.int ((1 : Int32) + (1 : Int32))), .val (.ref b_q5), .unset, .unset] [])) _
    refine XS.aload X_q5.here hx rfl (hb hby at_105) rfl rfl ?_
    show Steps p.tables e below (T_q5.setTop (mkF m 107 #[.val (.int p1), .val (.int p2), .val (.int p3), .val (.int (p1 &&& (255 : Int32))), .val (.int (p2 &&& (255 : Int32))), .val (.int (0 : Int32)), .val (.int (0 : Int32)), .val (.int ((1 : Int32) + (1 : Int32))), .val (.ref b_q5), .unset, .unset] [(.ref b_q5)])) _
    refine XS.iconst X_q5.here hx rfl (hb hby at_107) ?_
    show Steps p.tables e below (T_q5.setTop (mkF m 108 #[.val (.int p1), .val (.int p2), .val (.int p3), .val (.int (p1 &&& (255 : Int32))), .val (.int (p2 &&& (255 : Int32))), .val (.int (0 : Int32)), .val (.int (0 : Int32)), .val (.int ((1 : Int32) + (1 : Int32))), .val (.ref b_q5), .unset, .unset] [(.int (0 : Int32)), (.ref b_q5)])) _
    refine XS.iloadN X_q5.here hx rfl (hb hby at_108) rfl ?_
    show Steps p.tables e below (T_q5.setTop (mkF m 109 #[.val (.int p1), .val (.int p2), .val (.int p3), .val (.int (p1 &&& (255 : Int32))), .val (.int (p2 &&& (255 : Int32))), .val (.int (0 : Int32)), .val (.int (0 : Int32)), .val (.int ((1 : Int32) + (1 : Int32))), .val (.ref b_q5), .unset, .unset] [(.int (p1 &&& (255 : Int32))), (.int (0 : Int32)), (.ref b_q5)])) _
    refine XS.iload X_q5.here hx rfl (hb hby at_109) rfl ?_
    show Steps p.tables e below (T_q5.setTop (mkF m 111 #[.val (.int p1), .val (.int p2), .val (.int p3), .val (.int (p1 &&& (255 : Int32))), .val (.int (p2 &&& (255 : Int32))), .val (.int (0 : Int32)), .val (.int (0 : Int32)), .val (.int ((1 : Int32) + (1 : Int32))), .val (.ref b_q5), .unset, .unset] [(.int (0 : Int32)), (.int (p1 &&& (255 : Int32))), (.int (0 : Int32)), (.ref b_q5)])) _
    refine st_q6 _ ?_
    show Steps p.tables e below (T_q6.setTop (mkF m 114 #[.val (.int p1), .val (.int p2), .val (.int p3), .val (.int (p1 &&& (255 : Int32))), .val (.int (p2 &&& (255 : Int32))), .val (.int (0 : Int32)), .val (.int (0 : Int32)), .val (.int ((1 : Int32) + (1 : Int32))), .val (.ref b_q5), .unset, .unset] [(.int ((0 : Int32) + (1 : Int32)))])) _
    refine XS.istore X_q6.here hx rfl (hb hby at_114) rfl (l' := #[.val (.int p1), .val (.int p2), .val (.int p3), .val (.int (p1 &&& (255 : Int32))), .val (.int (p2 &&& (255 : Int32))), .val (.int (0 : Int32)), .val (.int (0 : Int32)), .val (.int ((1 : Int32) + (1 : Int32))), .val (.ref b_q5), .val (.int ((0 : Int32) + (1 : Int32))), .unset]) rfl ?_
    show Steps p.tables e below (T_q6.setTop (mkF m 116 #[.val (.int p1), .val (.int p2), .val (.int p3), .val (.int (p1 &&& (255 : Int32))), .val (.int (p2 &&& (255 : Int32))), .val (.int (0 : Int32)), .val (.int (0 : Int32)), .val (.int ((1 : Int32) + (1 : Int32))), .val (.ref b_q5), .val (.int ((0 : Int32) + (1 : Int32))), .unset] [])) _
    refine XS.aload X_q6.here hx rfl (hb hby at_116) rfl rfl ?_
    show Steps p.tables e below (T_q6.setTop (mkF m 118 #[.val (.int p1), .val (.int p2), .val (.int p3), .val (.int (p1 &&& (255 : Int32))), .val (.int (p2 &&& (255 : Int32))), .val (.int (0 : Int32)), .val (.int (0 : Int32)), .val (.int ((1 : Int32) + (1 : Int32))), .val (.ref b_q5), .val (.int ((0 : Int32) + (1 : Int32))), .unset] [(.ref b_q5)])) _
    refine XS.iload X_q6.here hx rfl (hb hby at_118) rfl ?_
    show Steps p.tables e below (T_q6.setTop (mkF m 120 #[.val (.int p1), .val (.int p2), .val (.int p3), .val (.int (p1 &&& (255 : Int32))), .val (.int (p2 &&& (255 : Int32))), .val (.int (0 : Int32)), .val (.int (0 : Int32)), .val (.int ((1 : Int32) + (1 : Int32))), .val (.ref b_q5), .val (.int ((0 : Int32) + (1 : Int32))), .unset] [(.int ((0 : Int32) + (1 : Int32))), (.ref b_q5)])) _
    refine XS.iload X_q6.here hx rfl (hb hby at_120) rfl ?_
    show Steps p.tables e below (T_q6.setTop (mkF m 122 #[.val (.int p1), .val (.int p2), .val (.int p3), .val (.int (p1 &&& (255 : Int32))), .val (.int (p2 &&& (255 : Int32))), .val (.int (0 : Int32)), .val (.int (0 : Int32)), .val (.int ((1 : Int32) + (1 : Int32))), .val (.ref b_q5), .val (.int ((0 : Int32) + (1 : Int32))), .unset] [(.int (p2 &&& (255 : Int32))), (.int ((0 : Int32) + (1 : Int32))), (.ref b_q5)])) _
    refine XS.iload X_q6.here hx rfl (hb hby at_122) rfl ?_
    show Steps p.tables e below (T_q6.setTop (mkF m 124 #[.val (.int p1), .val (.int p2), .val (.int p3), .val (.int (p1 &&& (255 : Int32))), .val (.int (p2 &&& (255 : Int32))), .val (.int (0 : Int32)), .val (.int (0 : Int32)), .val (.int ((1 : Int32) + (1 : Int32))), .val (.ref b_q5), .val (.int ((0 : Int32) + (1 : Int32))), .unset] [(.int (0 : Int32)), (.int (p2 &&& (255 : Int32))), (.int ((0 : Int32) + (1 : Int32))), (.ref b_q5)])) _
    refine st_q7 _ ?_
    show Steps p.tables e below (T_q7.setTop (mkF m 127 #[.val (.int p1), .val (.int p2), .val (.int p3), .val (.int (p1 &&& (255 : Int32))), .val (.int (p2 &&& (255 : Int32))), .val (.int (0 : Int32)), .val (.int (0 : Int32)), .val (.int ((1 : Int32) + (1 : Int32))), .val (.ref b_q5), .val (.int ((0 : Int32) + (1 : Int32))), .unset] [(.int ((1 : Int32) + (1 : Int32)))])) _
    refine XS.pop X_q7.here hx rfl (hb hby at_127) rfl rfl ?_
    show Steps p.tables e below (T_q7.setTop (mkF m 128 #[.val (.int p1), .val (.int p2), .val (.int p3), .val (.int (p1 &&& (255 : Int32))), .val (.int (p2 &&& (255 : Int32))), .val (.int (0 : Int32)), .val (.int (0 : Int32)), .val (.int ((1 : Int32) + (1 : Int32))), .val (.ref b_q5), .val (.int ((0 : Int32) + (1 : Int32))), .unset] [])) _
    refine XS.aload X_q7.here hx rfl (hb hby at_128) rfl rfl ?_
    show Steps p.tables e below (T_q7.setTop (mkF m 130 #[.val (.int p1), .val (.int p2), .val (.int p3), .val (.int (p1 &&& (255 : Int32))), .val (.int (p2 &&& (255 : Int32))), .val (.int (0 : Int32)), .val (.int (0 : Int32)), .val (.int ((1 : Int32) + (1 : Int32))), .val (.ref b_q5), .val (.int ((0 : Int32) + (1 : Int32))), .unset] [(.ref b_q5)])) _
    refine st_q8 _ ?_
    show Steps p.tables e below (T_q8.setTop (mkF m 133 #[.val (.int p1), .val (.int p2), .val (.int p3), .val (.int (p1 &&& (255 : Int32))), .val (.int (p2 &&& (255 : Int32))), .val (.int (0 : Int32)), .val (.int (0 : Int32)), .val (.int ((1 : Int32) + (1 : Int32))), .val (.ref b_q5), .val (.int ((0 : Int32) + (1 : Int32))), .unset] [(.ref r_q8)])) _
    refine XS.astore X_q8.here hx rfl (hb hby at_133) rfl rfl (l' := #[.val (.int p1), .val (.int p2), .val (.int p3), .val (.int (p1 &&& (255 : Int32))), .val (.int (p2 &&& (255 : Int32))), .val (.int (0 : Int32)), .val (.int (0 : Int32)), .val (.int ((1 : Int32) + (1 : Int32))), .val (.ref b_q5), .val (.int ((0 : Int32) + (1 : Int32))), .val (.ref r_q8)]) rfl ?_
    show Steps p.tables e below (T_q8.setTop (mkF m 135 #[.val (.int p1), .val (.int p2), .val (.int p3), .val (.int (p1 &&& (255 : Int32))), .val (.int (p2 &&& (255 : Int32))), .val (.int (0 : Int32)), .val (.int (0 : Int32)), .val (.int ((1 : Int32) + (1 : Int32))), .val (.ref b_q5), .val (.int ((0 : Int32) + (1 : Int32))), .val (.ref r_q8)] [])) _
    refine XS.aload X_q8.here hx rfl (hb hby at_135) rfl rfl ?_
    show Steps p.tables e below (T_q8.setTop (mkF m 137 #[.val (.int p1), .val (.int p2), .val (.int p3), .val (.int (p1 &&& (255 : Int32))), .val (.int (p2 &&& (255 : Int32))), .val (.int (0 : Int32)), .val (.int (0 : Int32)), .val (.int ((1 : Int32) + (1 : Int32))), .val (.ref b_q5), .val (.int ((0 : Int32) + (1 : Int32))), .val (.ref r_q8)] [(.ref r_q8)])) _
    refine X_q8.arraylength hx (by exact Ar_q9.1) (State.isArrayOf_alike hZ.alike Ar_q9.2.1) (g := (mkF m 137 #[.val (.int p1), .val (.int p2), .val (.int p3), .val (.int (p1 &&& (255 : Int32))), .val (.int (p2 &&& (255 : Int32))), .val (.int (0 : Int32)), .val (.int (0 : Int32)), .val (.int ((1 : Int32) + (1 : Int32))), .val (.ref b_q5), .val (.int ((0 : Int32) + (1 : Int32))), .val (.ref r_q8)] [(.ref r_q8)])) rfl rfl (hb hby at_137) _ ?_
    rw [len_of S_q9 Nn_q9]
    show Steps p.tables e below (T_q8.setTop (mkF m 138 #[.val (.int p1), .val (.int p2), .val (.int p3), .val (.int (p1 &&& (255 : Int32))), .val (.int (p2 &&& (255 : Int32))), .val (.int (0 : Int32)), .val (.int (0 : Int32)), .val (.int ((1 : Int32) + (1 : Int32))), .val (.ref b_q5), .val (.int ((0 : Int32) + (1 : Int32))), .val (.ref r_q8)] [(.int (2 : Int32))])) _
    refine XS.iconst X_q8.here hx rfl (hb hby at_138) ?_
    show Steps p.tables e below (T_q8.setTop (mkF m 139 #[.val (.int p1), .val (.int p2), .val (.int p3), .val (.int (p1 &&& (255 : Int32))), .val (.int (p2 &&& (255 : Int32))), .val (.int (0 : Int32)), .val (.int (0 : Int32)), .val (.int ((1 : Int32) + (1 : Int32))), .val (.ref b_q5), .val (.int ((0 : Int32) + (1 : Int32))), .val (.ref r_q8)] [(.int (2 : Int32)), (.int (2 : Int32))])) _
    refine XS.icmpNo X_q8.here hx rfl (hb hby at_139) rfl (teq (by decide : (2 : Int32) = (2 : Int32))).2 ?_
    show Steps p.tables e below (T_q8.setTop (mkF m 142 #[.val (.int p1), .val (.int p2), .val (.int p3), .val (.int (p1 &&& (255 : Int32))), .val (.int (p2 &&& (255 : Int32))), .val (.int (0 : Int32)), .val (.int (0 : Int32)), .val (.int ((1 : Int32) + (1 : Int32))), .val (.ref b_q5), .val (.int ((0 : Int32) + (1 : Int32))), .val (.ref r_q8)] [])) _
    refine XS.aload X_q8.here hx rfl (hb hby at_142) rfl rfl ?_
    show Steps p.tables e below (T_q8.setTop (mkF m 144 #[.val (.int p1), .val (.int p2), .val (.int p3), .val (.int (p1 &&& (255 : Int32))), .val (.int (p2 &&& (255 : Int32))), .val (.int (0 : Int32)), .val (.int (0 : Int32)), .val (.int ((1 : Int32) + (1 : Int32))), .val (.ref b_q5), .val (.int ((0 : Int32) + (1 : Int32))), .val (.ref r_q8)] [(.ref r_q8)])) _
    refine XS.iconst X_q8.here hx rfl (hb hby at_144) ?_
    show Steps p.tables e below (T_q8.setTop (mkF m 145 #[.val (.int p1), .val (.int p2), .val (.int p3), .val (.int (p1 &&& (255 : Int32))), .val (.int (p2 &&& (255 : Int32))), .val (.int (0 : Int32)), .val (.int (0 : Int32)), .val (.int ((1 : Int32) + (1 : Int32))), .val (.ref b_q5), .val (.int ((0 : Int32) + (1 : Int32))), .val (.ref r_q8)] [(.int (0 : Int32)), (.ref r_q8)])) _
    refine X_q8.baloadBytes hx (j := (0 : Int32)) (v := (.int (nar .byte (nar .byte ((p1 &&& (255 : Int32)).toInt8.toInt32))))) (by exact Ar_q10.1) (State.isArrayOf_alike hZ.alike Ar_q10.2.1) Ar_q10.2.2 hin_q10 hat_q10 (g := (mkF m 145 #[.val (.int p1), .val (.int p2), .val (.int p3), .val (.int (p1 &&& (255 : Int32))), .val (.int (p2 &&& (255 : Int32))), .val (.int (0 : Int32)), .val (.int (0 : Int32)), .val (.int ((1 : Int32) + (1 : Int32))), .val (.ref b_q5), .val (.int ((0 : Int32) + (1 : Int32))), .val (.ref r_q8)] [(.int (0 : Int32)), (.ref r_q8)])) rfl rfl (hb hby at_145) _ ?_
    show Steps p.tables e below (T_q8.setTop (mkF m 146 #[.val (.int p1), .val (.int p2), .val (.int p3), .val (.int (p1 &&& (255 : Int32))), .val (.int (p2 &&& (255 : Int32))), .val (.int (0 : Int32)), .val (.int (0 : Int32)), .val (.int ((1 : Int32) + (1 : Int32))), .val (.ref b_q5), .val (.int ((0 : Int32) + (1 : Int32))), .val (.ref r_q8)] [(.int (nar .byte (nar .byte ((p1 &&& (255 : Int32)).toInt8.toInt32))))])) _
    refine XS.iloadN X_q8.here hx rfl (hb hby at_146) rfl ?_
    show Steps p.tables e below (T_q8.setTop (mkF m 147 #[.val (.int p1), .val (.int p2), .val (.int p3), .val (.int (p1 &&& (255 : Int32))), .val (.int (p2 &&& (255 : Int32))), .val (.int (0 : Int32)), .val (.int (0 : Int32)), .val (.int ((1 : Int32) + (1 : Int32))), .val (.ref b_q5), .val (.int ((0 : Int32) + (1 : Int32))), .val (.ref r_q8)] [(.int (p1 &&& (255 : Int32))), (.int (nar .byte (nar .byte ((p1 &&& (255 : Int32)).toInt8.toInt32))))])) _
    refine XS.i2b X_q8.here hx rfl (hb hby at_147) rfl ?_
    show Steps p.tables e below (T_q8.setTop (mkF m 148 #[.val (.int p1), .val (.int p2), .val (.int p3), .val (.int (p1 &&& (255 : Int32))), .val (.int (p2 &&& (255 : Int32))), .val (.int (0 : Int32)), .val (.int (0 : Int32)), .val (.int ((1 : Int32) + (1 : Int32))), .val (.ref b_q5), .val (.int ((0 : Int32) + (1 : Int32))), .val (.ref r_q8)] [(.int ((p1 &&& (255 : Int32)).toInt8.toInt32)), (.int (nar .byte (nar .byte ((p1 &&& (255 : Int32)).toInt8.toInt32))))])) _
    refine XS.icmpNo X_q8.here hx rfl (hb hby at_148) rfl (teq hc_q11).2 ?_
    show Steps p.tables e below (T_q8.setTop (mkF m 151 #[.val (.int p1), .val (.int p2), .val (.int p3), .val (.int (p1 &&& (255 : Int32))), .val (.int (p2 &&& (255 : Int32))), .val (.int (0 : Int32)), .val (.int (0 : Int32)), .val (.int ((1 : Int32) + (1 : Int32))), .val (.ref b_q5), .val (.int ((0 : Int32) + (1 : Int32))), .val (.ref r_q8)] [])) _
    refine XS.aload X_q8.here hx rfl (hb hby at_151) rfl rfl ?_
    show Steps p.tables e below (T_q8.setTop (mkF m 153 #[.val (.int p1), .val (.int p2), .val (.int p3), .val (.int (p1 &&& (255 : Int32))), .val (.int (p2 &&& (255 : Int32))), .val (.int (0 : Int32)), .val (.int (0 : Int32)), .val (.int ((1 : Int32) + (1 : Int32))), .val (.ref b_q5), .val (.int ((0 : Int32) + (1 : Int32))), .val (.ref r_q8)] [(.ref r_q8)])) _
    refine XS.iconst X_q8.here hx rfl (hb hby at_153) ?_
    show Steps p.tables e below (T_q8.setTop (mkF m 154 #[.val (.int p1), .val (.int p2), .val (.int p3), .val (.int (p1 &&& (255 : Int32))), .val (.int (p2 &&& (255 : Int32))), .val (.int (0 : Int32)), .val (.int (0 : Int32)), .val (.int ((1 : Int32) + (1 : Int32))), .val (.ref b_q5), .val (.int ((0 : Int32) + (1 : Int32))), .val (.ref r_q8)] [(.int (1 : Int32)), (.ref r_q8)])) _
    refine X_q8.baloadBytes hx (j := (1 : Int32)) (v := (.int (nar .byte (nar .byte ((p2 &&& (255 : Int32)).toInt8.toInt32))))) (by exact Ar_q12.1) (State.isArrayOf_alike hZ.alike Ar_q12.2.1) Ar_q12.2.2 hin_q12 hat_q12 (g := (mkF m 154 #[.val (.int p1), .val (.int p2), .val (.int p3), .val (.int (p1 &&& (255 : Int32))), .val (.int (p2 &&& (255 : Int32))), .val (.int (0 : Int32)), .val (.int (0 : Int32)), .val (.int ((1 : Int32) + (1 : Int32))), .val (.ref b_q5), .val (.int ((0 : Int32) + (1 : Int32))), .val (.ref r_q8)] [(.int (1 : Int32)), (.ref r_q8)])) rfl rfl (hb hby at_154) _ ?_
    show Steps p.tables e below (T_q8.setTop (mkF m 155 #[.val (.int p1), .val (.int p2), .val (.int p3), .val (.int (p1 &&& (255 : Int32))), .val (.int (p2 &&& (255 : Int32))), .val (.int (0 : Int32)), .val (.int (0 : Int32)), .val (.int ((1 : Int32) + (1 : Int32))), .val (.ref b_q5), .val (.int ((0 : Int32) + (1 : Int32))), .val (.ref r_q8)] [(.int (nar .byte (nar .byte ((p2 &&& (255 : Int32)).toInt8.toInt32))))])) _
    refine XS.iload X_q8.here hx rfl (hb hby at_155) rfl ?_
    show Steps p.tables e below (T_q8.setTop (mkF m 157 #[.val (.int p1), .val (.int p2), .val (.int p3), .val (.int (p1 &&& (255 : Int32))), .val (.int (p2 &&& (255 : Int32))), .val (.int (0 : Int32)), .val (.int (0 : Int32)), .val (.int ((1 : Int32) + (1 : Int32))), .val (.ref b_q5), .val (.int ((0 : Int32) + (1 : Int32))), .val (.ref r_q8)] [(.int (p2 &&& (255 : Int32))), (.int (nar .byte (nar .byte ((p2 &&& (255 : Int32)).toInt8.toInt32))))])) _
    refine XS.i2b X_q8.here hx rfl (hb hby at_157) rfl ?_
    show Steps p.tables e below (T_q8.setTop (mkF m 158 #[.val (.int p1), .val (.int p2), .val (.int p3), .val (.int (p1 &&& (255 : Int32))), .val (.int (p2 &&& (255 : Int32))), .val (.int (0 : Int32)), .val (.int (0 : Int32)), .val (.int ((1 : Int32) + (1 : Int32))), .val (.ref b_q5), .val (.int ((0 : Int32) + (1 : Int32))), .val (.ref r_q8)] [(.int ((p2 &&& (255 : Int32)).toInt8.toInt32)), (.int (nar .byte (nar .byte ((p2 &&& (255 : Int32)).toInt8.toInt32))))])) _
    refine XS.icmpNo X_q8.here hx rfl (hb hby at_158) rfl (teq hc_q13).2 ?_
    show Steps p.tables e below (T_q8.setTop (mkF m 161 #[.val (.int p1), .val (.int p2), .val (.int p3), .val (.int (p1 &&& (255 : Int32))), .val (.int (p2 &&& (255 : Int32))), .val (.int (0 : Int32)), .val (.int (0 : Int32)), .val (.int ((1 : Int32) + (1 : Int32))), .val (.ref b_q5), .val (.int ((0 : Int32) + (1 : Int32))), .val (.ref r_q8)] [])) _
    refine XS.iconst X_q8.here hx rfl (hb hby at_161) ?_
    show Steps p.tables e below (T_q8.setTop (mkF m 162 #[.val (.int p1), .val (.int p2), .val (.int p3), .val (.int (p1 &&& (255 : Int32))), .val (.int (p2 &&& (255 : Int32))), .val (.int (0 : Int32)), .val (.int (0 : Int32)), .val (.int ((1 : Int32) + (1 : Int32))), .val (.ref b_q5), .val (.int ((0 : Int32) + (1 : Int32))), .val (.ref r_q8)] [(.int (1 : Int32))])) _
    refine XS.goto X_q8.here hx rfl (pc0 := 162) (pc' := 166) rfl (hb hby at_162) (by decide) (by decide) ?_
    show Steps p.tables e below (T_q8.setTop (mkF m 166 #[.val (.int p1), .val (.int p2), .val (.int p3), .val (.int (p1 &&& (255 : Int32))), .val (.int (p2 &&& (255 : Int32))), .val (.int (0 : Int32)), .val (.int (0 : Int32)), .val (.int ((1 : Int32) + (1 : Int32))), .val (.ref b_q5), .val (.int ((0 : Int32) + (1 : Int32))), .val (.ref r_q8)] [(.int (1 : Int32))])) _
    exact retN X_q8 hx (t := .boolean) Bd.returns (by simp) (hb hby at_166) hr
  · show Q_law Z p1 p2 p3 h0 n0 _ T_q8.heap _
    exact ⟨rfl, N_q8⟩
theorem own_byte (P : Int32 → Prop) (h : ∀ n : Fin 256, P (Int32.ofNat n.val)) (p : Int32) : P (p &&& (255 : Int32)) := by
  have e : (p &&& (255 : Int32)).toInt = p.toInt % 2 ^ 8 := Jvm.Kit.i32_mask p 255 (k := 8) (by decide) (by decide)
  have hn : (p &&& (255 : Int32)).toInt.toNat < 256 := by omega
  have hk : (p &&& (255 : Int32)) = Int32.ofNat (p &&& (255 : Int32)).toInt.toNat := by
    apply Int32.toInt_inj.mp
    rw [Int32.toInt_ofNat_of_lt (by omega)]
    omega
  rw [hk]
  exact h ⟨_, hn⟩
theorem own_A1 (p : Int32) : ¬ ((F5_0 (nar .byte ((F2_0 (((p &&& (255 : Int32)).toUInt32 >>> ((4 : Int32) &&& 31).toUInt32).toInt32)).toInt8.toInt32))) < (0 : Int32)) :=
  own_byte (fun a => ¬ ((F5_0 (nar .byte ((F2_0 ((a.toUInt32 >>> ((4 : Int32) &&& 31).toUInt32).toInt32)).toInt8.toInt32))) < (0 : Int32))) (by decide +kernel) p
theorem own_A2 (p : Int32) : ¬ ((F5_0 (nar .byte ((F2_0 ((p &&& (255 : Int32)) &&& (15 : Int32))).toInt8.toInt32))) < (0 : Int32)) :=
  own_byte (fun a => ¬ ((F5_0 (nar .byte ((F2_0 (a &&& (15 : Int32))).toInt8.toInt32))) < (0 : Int32))) (by decide +kernel) p
theorem own_A3 (p : Int32) : (nar .byte (nar .byte ((((F5_0 (nar .byte ((F2_0 (((p &&& (255 : Int32)).toUInt32 >>> ((4 : Int32) &&& 31).toUInt32).toInt32)).toInt8.toInt32))) <<< ((4 : Int32) &&& 31)) ||| (F5_0 (nar .byte ((F2_0 ((p &&& (255 : Int32)) &&& (15 : Int32))).toInt8.toInt32)))).toInt8.toInt32))) = ((p &&& (255 : Int32)).toInt8.toInt32) :=
  own_byte (fun a => (nar .byte (nar .byte ((((F5_0 (nar .byte ((F2_0 ((a.toUInt32 >>> ((4 : Int32) &&& 31).toUInt32).toInt32)).toInt8.toInt32))) <<< ((4 : Int32) &&& 31)) ||| (F5_0 (nar .byte ((F2_0 (a &&& (15 : Int32))).toInt8.toInt32)))).toInt8.toInt32))) = (a.toInt8.toInt32)) (by decide +kernel) p
theorem own_A4 (p : Int32) (h : ¬ ((p &&& (255 : Int32)) = (92 : Int32))) : ¬ ((nar .byte ((p &&& (255 : Int32)).toInt8.toInt32)) = (92 : Int32)) :=
  own_byte (fun a => ¬ (a = (92 : Int32)) → ¬ ((nar .byte (a.toInt8.toInt32)) = (92 : Int32))) (by decide +kernel) p h
theorem own_A5 (p : Int32) : (nar .byte (nar .byte ((p &&& (255 : Int32)).toInt8.toInt32))) = ((p &&& (255 : Int32)).toInt8.toInt32) :=
  own_byte (fun a => (nar .byte (nar .byte (a.toInt8.toInt32))) = (a.toInt8.toInt32)) (by decide +kernel) p
theorem rm0 (l : Launch) (Z : State) (a0 : Array Value) (hw : ∀ d ∈ tables_1, d.before a0 Z = true) (ws : List Jvm.Cond) (p1 : Int32) (p2 : Int32) (p3 : Int32) (h0 : Heap) (n0 : Nat) (Z0 : n0 ≤ h0.size) :
    MetFree l x (head1 (Jvm.Cond.code x code maxLocals ret :: ws) room_1) (fun a U => a = #[(.int p1), (.int p2), (.int p3)] ∧ Z.Warmed39 U.vm ∧ U.heap = h0) (fun _ _ _ _ _ => True) (fun _ U o U' => ∃ v L, o = .returned v ∧ Q_law Z p1 p2 p3 h0 n0 v U'.heap L ∧ FrameEnd U o U' L room_1.cells room_1.slots) := by
  by_cases a1 : (p3 &&& (1 : Int32)) = (0 : Int32)
  · by_cases b1 : (p1 &&& (255 : Int32)) = (92 : Int32)
    · by_cases a2 : (p3 &&& (2 : Int32)) = (0 : Int32)
      · by_cases b2 : (p2 &&& (255 : Int32)) = (92 : Int32)
        · exact rm0_ff_ff l Z a0 hw ws p1 p2 p3 h0 n0 Z0 (a1) (b1) (a2) (b2) (own_A1 p1) (own_A2 p1) (own_A1 p2) (own_A2 p2) (own_A3 p1) (own_A3 p2)
        · exact rm0_ff_ft l Z a0 hw ws p1 p2 p3 h0 n0 Z0 (a1) (b1) (a2) (b2) (own_A1 p1) (own_A2 p1) (own_A4 p2 b2) (own_A3 p1) (own_A5 p2)
      · exact rm0_ff_t l Z a0 hw ws p1 p2 p3 h0 n0 Z0 (a1) (b1) (a2) (own_A1 p1) (own_A2 p1) (own_A1 p2) (own_A2 p2) (own_A3 p1) (own_A3 p2)
    · by_cases a2 : (p3 &&& (2 : Int32)) = (0 : Int32)
      · by_cases b2 : (p2 &&& (255 : Int32)) = (92 : Int32)
        · exact rm0_ft_ff l Z a0 hw ws p1 p2 p3 h0 n0 Z0 (a1) (b1) (a2) (b2) (own_A4 p1 b1) (own_A1 p2) (own_A2 p2) (own_A5 p1) (own_A3 p2)
        · exact rm0_ft_ft l Z a0 hw ws p1 p2 p3 h0 n0 Z0 (a1) (b1) (a2) (b2) (own_A4 p1 b1) (own_A4 p2 b2) (own_A5 p1) (own_A5 p2)
      · exact rm0_ft_t l Z a0 hw ws p1 p2 p3 h0 n0 Z0 (a1) (b1) (a2) (own_A4 p1 b1) (own_A1 p2) (own_A2 p2) (own_A5 p1) (own_A3 p2)
  · by_cases a2 : (p3 &&& (2 : Int32)) = (0 : Int32)
    · by_cases b2 : (p2 &&& (255 : Int32)) = (92 : Int32)
      · exact rm0_t_ff l Z a0 hw ws p1 p2 p3 h0 n0 Z0 (a1) (a2) (b2) (own_A1 p1) (own_A2 p1) (own_A1 p2) (own_A2 p2) (own_A3 p1) (own_A3 p2)
      · exact rm0_t_ft l Z a0 hw ws p1 p2 p3 h0 n0 Z0 (a1) (a2) (b2) (own_A1 p1) (own_A2 p1) (own_A4 p2 b2) (own_A3 p1) (own_A5 p2)
    · exact rm0_t_t l Z a0 hw ws p1 p2 p3 h0 n0 Z0 (a1) (a2) (own_A1 p1) (own_A2 p1) (own_A1 p2) (own_A2 p2) (own_A3 p1) (own_A3 p2)
set_option maxRecDepth 65536 in
set_option maxHeartbeats 40000000 in
theorem comes_1 {Post : Tables → Env → Array Value → State → Outcome → State → Prop} (hpost : ∀ tb e args s v u, (limb_1_1.after args s (.returned v) u = true ∧ limb_1_2.after args s (.returned v) u = true ∧ True) → FrameEnd s (.returned v) u (Jvm.fieldLocs frame_1_writes args s ++ Jvm.arrayLocs frame_1_arrays args s ++ Jvm.staticLocs frame_1_statics s) 16 128 → Post tb e args s (.returned v) u) :
    ArmFor flags0 classFile x code maxLocals ret World_1 tables_1 room_1 Calls_1 rest_1 Pre_1 Post := by
  intro l hfl _ _ p e ha hc hk s m args below hf hA hF happ hP
  obtain ⟨hcalls, hrest, hpre⟩ := hP
  obtain ⟨-, -, -, hnamed, -, -, -, hat⟩ := (Spec.applies_iff hf).mp happ
  obtain ⟨hg, hn⟩ := and_e (Cond.before_iff.mp (show (Jvm.Cond.and given_1 narrow_1).before args s = true from hpre))
  obtain ⟨ga0, gb0⟩ := and_e hg
  obtain ⟨ga1, gb1⟩ := and_e gb0
  obtain ⟨ga2, gb2⟩ := and_e gb1
  obtain ⟨w0, w1, w2, rfl⟩ : ∃ w0 w1 w2 : Value, args = #[w0, w1, w2] := by
    have hs : args.size = 3 := by simpa [Cond.value, given_1] using ga0
    obtain ⟨L⟩ := args
    match L, hs with
    | [w0, w1, w2], _ => exact ⟨w0, w1, w2, rfl⟩
  have hw := fun d (hd : d ∈ tables_1) => atoms_spec (ws := Jvm.Cond.code x code maxLocals ret :: tables_1) hat d (List.mem_cons_of_mem _ hd)
  obtain ⟨i0, ei0⟩ := is_v ga1
  obtain rfl : w0 = (.int i0) := Option.some.inj ei0
  obtain ⟨i1, ei1⟩ := is_v ga2
  obtain rfl : w1 = (.int i1) := Option.some.inj ei1
  obtain ⟨i2, ei2⟩ := is_v gb2
  obtain rfl : w2 = (.int i2) := Option.some.inj ei2
  obtain ⟨n, o, h1, h2, h3, _, L, rfl, ⟨rfl, N⟩, hq⟩ := rm0 l s _ hw tables_1 i0 i1 i2  s.heap s.heap.size (Nat.le_refl _)  p e ha hc hk s m _ below hf ((Spec.applies_iff_loose hf).mp happ).1 ⟨rfl, State.Warmed39.refl s, rfl⟩ trivial
  refine ⟨n, _, h1, h2, h3, hpost _ _ _ _ _ _ ⟨Cond.after_iff.mpr rfl, Cond.after_iff.mpr (eq_i res_at (Term.int_eval (1)) rfl), trivial⟩ ⟨hq.1, hq.2.1, (hq.2.2.sift fun y hy => Or.inr (N y hy)).mono (by decide) (by decide)⟩⟩
theorem main_1_1 : Claimed_1_1 := comes_1 fun _ _ _ _ _ _ h hF => ⟨h.1, hF⟩
theorem main_1_2 : Claimed_1_2 := comes_1 fun _ _ _ _ _ _ h hF => ⟨h.2.1, hF⟩
end Jvm.Pilot.@@N@@
namespace Jvm.Pilot.@@N@@
open Jvm Jvm.ClassFile Sem Op Lib Jvm.Free Jvm.Stand Jvm.Pilot.@@N@@.Jvm.D
/-! MADE BY PROGRAM (witnessworld.py) out of the Statement's table words and the real class files: 12 classes; the members and pool entries that the words name. The judged class is class 1, her method 3. -/
namespace start1
open Jvm.ClassFile
def u (s : String) : CpInfo := .utf8 (stringToUtf16 s)
/-- a pool by its gaps: so many unusable entries, then the entry; so many at the end -/
def gap : Nat → List CpInfo → List CpInfo
  | 0, r => r
  | n + 1, r => .unusable :: gap n r
def poolList (es : List (Nat × CpInfo)) (last : Nat) : List CpInfo := es.foldr (fun e r => gap e.1 (e.2 :: r)) (gap last [])
def pool (es : List (Nat × CpInfo)) (last : Nat) : Array CpInfo := ⟨poolList es last⟩
def fileOf (pool : Array CpInfo) (this : Nat) (attrs : Array Attribute := #[]) (ms : Array MethodInfo := #[]) (fl : Nat := 33) (sup : Nat := 0) (ifs : Array Nat := #[]) (fds : Array FieldInfo := #[]) : ClassFile where
  minorVersion := 0
  majorVersion := 65
  constantPool := pool
  accessFlags := fl
  thisClass := this
  superClass := sup
  interfaces := ifs
  fields := fds
  methods := ms
  attributes := attrs
def plain (name : String) (sup : Option ClassId) : Class where
  name := name
  kind := .ordinary
  loader := none
  accessFlags := 33
  super := sup
  interfaces := #[]
  cf := none
  fields := #[]
  methods := #[]
  instanceTypes := #[]
  staticTypes := #[]
  resolved := #[]
  callSites := []
  init := .initialized
  statics := none
  mirror := none

def pool0 : Array CpInfo := pool [(5, u "<init>"), (0, u "()V"), (1, .class_ 10), (1, u "java/lang/Object"), (85, u "clone"), (0, u "()Ljava/lang/Object;")] 26

def k0m0 : Method := { name := "<init>", desc := "()V", sig := { parameters := [], returnType := none }, accessFlags := 1, code := none }
def k0m1 : Method := { name := "clone", desc := "()Ljava/lang/Object;", sig := { parameters := [], returnType := some (.object "java/lang/Object") }, accessFlags := 260, code := none }
/-- java/lang/Object -/
def k0 : Class := { plain "java/lang/Object" none with
  accessFlags := 33
  interfaces := #[]
  cf := some (fileOf pool0 8 #[] #[{ accessFlags := 1, nameIndex := 5, descriptorIndex := 6, attributes := #[] }, { accessFlags := 260, nameIndex := 96, descriptorIndex := 97, attributes := #[] }] 33 0 #[] #[])
  fields := #[]
  methods := #[k0m0, k0m1]
  instanceTypes := #[]
  staticTypes := #[]
  resolved := Array.replicate 124 none
  statics := none }

def pool1 : Array CpInfo := pool [(2, .class_ 4), (1, u "java/lang/Object"), (0, u "<init>"), (0, u "()V"), (0, .methodref 8 9), (0, .class_ 10), (0, .nameAndType 11 12), (0, u "com/example/presplit/presplit/escape/BinaryEscapeDecodePinLaw"), (0, u "hex"), (0, u "(I)I"), (0, .methodref 8 14), (0, .nameAndType 15 16), (0, u "put"), (0, u "([BIIZ)I"), (0, .methodref 18 19), (0, .class_ 20), (0, .nameAndType 21 22), (0, u "com/example/presplit/presplit/escape/BinaryEscape"), (0, u "decode"), (0, u "([B)[B"), (3, u "law"), (0, u "(III)Z")] 7

def k1m0 : Method := { name := "<init>", desc := "()V", sig := { parameters := [], returnType := none }, accessFlags := 2, code := none }
def k1c1 : Code := { maxStack := 3, maxLocals := 1, code := method_2_code, exceptionTable := #[], attributes := #[] }
def k1m1 : Method := { name := "hex", desc := "(I)I", sig := { parameters := [.int], returnType := some .int }, accessFlags := 10, code := some k1c1 }
def k1c2 : Code := { maxStack := 4, maxLocals := 4, code := method_3_code, exceptionTable := #[], attributes := #[] }
def k1m2 : Method := { name := "put", desc := "([BIIZ)I", sig := { parameters := [(.array .byte), .int, .int, .boolean], returnType := some .int }, accessFlags := 10, code := some k1c2 }
def k1c3 : Code := { maxStack := 4, maxLocals := 11, code := code, exceptionTable := #[], attributes := #[] }
def k1m3 : Method := { name := "law", desc := "(III)Z", sig := { parameters := [.int, .int, .int], returnType := some .boolean }, accessFlags := 9, code := some k1c3 }
/-- com/example/presplit/presplit/escape/BinaryEscapeDecodePinLaw -/
def k1 : Class := { plain "com/example/presplit/presplit/escape/BinaryEscapeDecodePinLaw" (some 0) with
  accessFlags := 49
  interfaces := #[]
  cf := some (fileOf pool1 8 #[] #[{ accessFlags := 2, nameIndex := 5, descriptorIndex := 6, attributes := #[] }, { accessFlags := 10, nameIndex := 11, descriptorIndex := 12, attributes := #[] }, { accessFlags := 10, nameIndex := 15, descriptorIndex := 16, attributes := #[] }, { accessFlags := 9, nameIndex := 26, descriptorIndex := 27, attributes := #[] }] 49 2 #[] #[])
  fields := #[]
  methods := #[k1m0, k1m1, k1m2, k1m3]
  instanceTypes := #[]
  staticTypes := #[]
  resolved := Array.replicate 35 none
  statics := none }

def pool2 : Array CpInfo := pool [(2, .class_ 4), (1, u "java/lang/Object"), (0, u "<init>"), (0, u "()V"), (10, .class_ 19), (1, u "com/example/presplit/presplit/escape/BinaryEscape"), (0, u "HEX_DIGITS"), (0, u "[C"), (4, .methodref 17 27), (0, .nameAndType 28 29), (0, u "escapedByte"), (0, u "([BI)B"), (0, .methodref 31 32), (0, .class_ 33), (0, .nameAndType 34 35), (0, u "java/util/Arrays"), (0, u "copyOf"), (0, u "([BI)[B"), (0, .methodref 17 37), (0, .nameAndType 38 39), (0, u "hexDigitValue"), (0, u "(B)I"), (15, u "ESCAPE_LENGTH"), (0, u "I"), (2, u "MALFORMED"), (0, u "Ljava/lang/String;"), (7, u "decode"), (0, u "([B)[B")] 4

def k2m0 : Method := { name := "<init>", desc := "()V", sig := { parameters := [], returnType := none }, accessFlags := 2, code := none }
def k2c1 : Code := { maxStack := 4, maxLocals := 4, code := prog_1_method_3_code, exceptionTable := #[], attributes := #[] }
def k2m1 : Method := { name := "decode", desc := "([B)[B", sig := { parameters := [(.array .byte)], returnType := some (.array .byte) }, accessFlags := 9, code := some k2c1 }
def k2c2 : Code := { maxStack := 4, maxLocals := 4, code := prog_1_method_4_code, exceptionTable := #[], attributes := #[] }
def k2m2 : Method := { name := "escapedByte", desc := "([BI)B", sig := { parameters := [(.array .byte), .int], returnType := some .byte }, accessFlags := 10, code := some k2c2 }
def k2c3 : Code := { maxStack := 2, maxLocals := 1, code := prog_1_method_5_code, exceptionTable := #[], attributes := #[] }
def k2m3 : Method := { name := "hexDigitValue", desc := "(B)I", sig := { parameters := [.byte], returnType := some .int }, accessFlags := 10, code := some k2c3 }
/-- com/example/presplit/presplit/escape/BinaryEscape -/
def k2 : Class := { plain "com/example/presplit/presplit/escape/BinaryEscape" (some 0) with
  accessFlags := 49
  interfaces := #[]
  cf := some (fileOf pool2 17 #[] #[{ accessFlags := 2, nameIndex := 5, descriptorIndex := 6, attributes := #[] }, { accessFlags := 9, nameIndex := 68, descriptorIndex := 69, attributes := #[] }, { accessFlags := 10, nameIndex := 28, descriptorIndex := 29, attributes := #[] }, { accessFlags := 10, nameIndex := 38, descriptorIndex := 39, attributes := #[] }] 49 2 #[] #[{ accessFlags := 26, nameIndex := 20, descriptorIndex := 21, attributes := #[] }, { accessFlags := 26, nameIndex := 55, descriptorIndex := 56, attributes := #[] }, { accessFlags := 26, nameIndex := 59, descriptorIndex := 60, attributes := #[] }])
  fields := #[{ name := "HEX_DIGITS", type := (.array .char), accessFlags := 26, slot := 0, constantValue := 0 }, { name := "ESCAPE_LENGTH", type := .int, accessFlags := 26, slot := 1, constantValue := 0 }, { name := "MALFORMED", type := (.object "java/lang/String"), accessFlags := 26, slot := 2, constantValue := 0 }]
  methods := #[k2m0, k2m1, k2m2, k2m3]
  instanceTypes := #[]
  staticTypes := #[(.array .char), .int, (.object "java/lang/String")]
  resolved := Array.replicate 74 none
  statics := none }

def pool3 : Array CpInfo := pool [(2, .class_ 4), (1, u "java/lang/Object"), (0, u "<init>"), (0, u "()V"), (7, .class_ 16), (1, u "java/util/Arrays"), (57, .class_ 76), (1, u "java/util/Arrays$NaturalOrder"), (32, u "()Ljava/lang/Object;"), (3, .class_ 115), (1, u "java/util/Arrays$LegacyMergeSort"), (1, u "Z"), (10, .nameAndType 129 109), (0, u "clone"), (20, .methodref 151 152), (0, .class_ 153), (0, .nameAndType 154 155), (0, u "java/lang/System"), (0, u "arraycopy"), (0, u "(Ljava/lang/Object;ILjava/lang/Object;II)V"), (146, u "copyOf"), (1, .methodref 305 306), (0, .class_ 307), (0, .nameAndType 308 309), (0, u "java/lang/Math"), (0, u "min"), (0, u "(II)I"), (0, .methodref 311 128), (0, .class_ 312), (0, u "[B"), (62, .class_ 376), (0, u "java/util/Arrays$ArrayList"), (68, u "$assertionsDisabled"), (269, u "MIN_ARRAY_SORT_GRAN"), (0, u "I"), (2, u "INSERTIONSORT_THRESHOLD"), (149, u "([BI)[B"), (105, .class_ 976), (0, u "java/util/Arrays$ArrayItr")] 52

def k3m0 : Method := { name := "<init>", desc := "()V", sig := { parameters := [], returnType := none }, accessFlags := 2, code := none }
def k3c1 : Code := { maxStack := 6, maxLocals := 3, code := jdk_65_method_121_code, exceptionTable := #[], attributes := #[] }
def k3m1 : Method := { name := "copyOf", desc := "([BI)[B", sig := { parameters := [(.array .byte), .int], returnType := some (.array .byte) }, accessFlags := 9, code := some k3c1 }
/-- java/util/Arrays -/
def k3 : Class := { plain "java/util/Arrays" (some 0) with
  accessFlags := 49
  interfaces := #[]
  cf := some (fileOf pool3 14 #[.nestMembers #[975, 375, 113, 74]] #[{ accessFlags := 2, nameIndex := 5, descriptorIndex := 6, attributes := #[] }, { accessFlags := 9, nameIndex := 302, descriptorIndex := 869, attributes := #[] }] 49 2 #[] #[{ accessFlags := 26, nameIndex := 715, descriptorIndex := 716, attributes := #[] }, { accessFlags := 26, nameIndex := 719, descriptorIndex := 716, attributes := #[] }, { accessFlags := 4120, nameIndex := 445, descriptorIndex := 117, attributes := #[] }])
  fields := #[{ name := "MIN_ARRAY_SORT_GRAN", type := .int, accessFlags := 26, slot := 0, constantValue := 0 }, { name := "INSERTIONSORT_THRESHOLD", type := .int, accessFlags := 26, slot := 1, constantValue := 0 }, { name := "$assertionsDisabled", type := .boolean, accessFlags := 4120, slot := 2, constantValue := 0 }]
  methods := #[k3m0, k3m1]
  instanceTypes := #[]
  staticTypes := #[.int, .int, .boolean]
  resolved := Array.replicate 1029 none
  statics := none }

def pool4 : Array CpInfo := pool [(1, .class_ 2), (0, u "java/lang/Math"), (1, .class_ 6), (1, u "java/lang/Object"), (0, u "<init>"), (0, u "()V"), (89, .class_ 100), (1, u "java/lang/Math$RandomNumberGeneratorHolder"), (71, u "negativeZeroFloatBits"), (0, u "J"), (2, u "negativeZeroDoubleBits"), (24, u "min"), (43, u "$assertionsDisabled"), (0, u "Z"), (88, u "(II)I"), (2, u "twoToTheDoubleScaleDown"), (0, u "D"), (4, u "twoToTheDoubleScaleUp"), (9, u "E"), (3, u "PI"), (2, u "TAU"), (2, u "DEGREES_TO_RADIANS"), (0, u "RADIANS_TO_DEGREES")] 94

def k4m0 : Method := { name := "<init>", desc := "()V", sig := { parameters := [], returnType := none }, accessFlags := 2, code := none }
def k4c1 : Code := { maxStack := 2, maxLocals := 2, code := jdk_29_method_69_code, exceptionTable := #[], attributes := #[] }
def k4m1 : Method := { name := "min", desc := "(II)I", sig := { parameters := [.int, .int], returnType := some .int }, accessFlags := 9, code := some k4c1 }
/-- java/lang/Math -/
def k4 : Class := { plain "java/lang/Math" (some 0) with
  accessFlags := 49
  interfaces := #[]
  cf := some (fileOf pool4 1 #[.nestMembers #[98]] #[{ accessFlags := 2, nameIndex := 7, descriptorIndex := 8, attributes := #[] }, { accessFlags := 9, nameIndex := 201, descriptorIndex := 335, attributes := #[] }] 49 4 #[] #[{ accessFlags := 25, nameIndex := 354, descriptorIndex := 339, attributes := #[] }, { accessFlags := 25, nameIndex := 358, descriptorIndex := 339, attributes := #[] }, { accessFlags := 25, nameIndex := 361, descriptorIndex := 339, attributes := #[] }, { accessFlags := 26, nameIndex := 364, descriptorIndex := 339, attributes := #[] }, { accessFlags := 26, nameIndex := 365, descriptorIndex := 339, attributes := #[] }, { accessFlags := 26, nameIndex := 172, descriptorIndex := 173, attributes := #[] }, { accessFlags := 26, nameIndex := 176, descriptorIndex := 173, attributes := #[] }, { accessFlags := 8, nameIndex := 344, descriptorIndex := 339, attributes := #[] }, { accessFlags := 8, nameIndex := 338, descriptorIndex := 339, attributes := #[] }, { accessFlags := 4120, nameIndex := 245, descriptorIndex := 246, attributes := #[] }])
  fields := #[{ name := "E", type := .double, accessFlags := 25, slot := 0, constantValue := 0 }, { name := "PI", type := .double, accessFlags := 25, slot := 1, constantValue := 0 }, { name := "TAU", type := .double, accessFlags := 25, slot := 2, constantValue := 0 }, { name := "DEGREES_TO_RADIANS", type := .double, accessFlags := 26, slot := 3, constantValue := 0 }, { name := "RADIANS_TO_DEGREES", type := .double, accessFlags := 26, slot := 4, constantValue := 0 }, { name := "negativeZeroFloatBits", type := .long, accessFlags := 26, slot := 5, constantValue := 0 }, { name := "negativeZeroDoubleBits", type := .long, accessFlags := 26, slot := 6, constantValue := 0 }, { name := "twoToTheDoubleScaleUp", type := .double, accessFlags := 8, slot := 7, constantValue := 0 }, { name := "twoToTheDoubleScaleDown", type := .double, accessFlags := 8, slot := 8, constantValue := 0 }, { name := "$assertionsDisabled", type := .boolean, accessFlags := 4120, slot := 9, constantValue := 0 }]
  methods := #[k4m0, k4m1]
  instanceTypes := #[]
  staticTypes := #[.double, .double, .double, .double, .double, .long, .long, .double, .double, .boolean]
  resolved := Array.replicate 460 none
  statics := none }

def pool5 : Array CpInfo := pool [(2, .class_ 4), (1, u "java/lang/Object"), (0, u "<init>"), (0, u "()V"), (1, .class_ 10), (1, u "java/lang/System"), (0, u "allowSecurityManager"), (0, u "I"), (16, u "cons"), (0, u "Ljava/io/Console;"), (77, .class_ 110), (1, u "java/lang/System$CallersHolder"), (43, u "initialErrStream"), (0, u "Ljava/io/PrintStream;"), (19, u "security"), (0, u "Ljava/lang/SecurityManager;"), (31, .class_ 209), (0, u "java/lang/System$1"), (7, u "props"), (0, u "Ljava/util/Properties;"), (2, u "lineSeparator"), (0, u "Ljava/lang/String;"), (96, .class_ 321), (1, u "java/lang/System$LoggerFinder"), (5, .class_ 328), (0, u "java/lang/System$Logger"), (67, u "err"), (2, u "out"), (91, u "notSupportedJnuEncoding"), (15, u "in"), (17, u "initialIn"), (0, u "Ljava/io/InputStream;"), (35, u "bootLayer"), (0, u "Ljava/lang/ModuleLayer;"), (99, .class_ 664), (0, u "java/lang/System$2"), (9, u "NEVER"), (2, u "MAYBE"), (49, u "arraycopy"), (0, u "(Ljava/lang/Object;ILjava/lang/Object;II)V"), (72, .class_ 802), (0, u "java/lang/System$Logger$Level")] 31

def k5m0 : Method := { name := "<init>", desc := "()V", sig := { parameters := [], returnType := none }, accessFlags := 2, code := none }
def k5m1 : Method := { name := "arraycopy", desc := "(Ljava/lang/Object;ILjava/lang/Object;II)V", sig := { parameters := [(.object "java/lang/Object"), .int, (.object "java/lang/Object"), .int, .int], returnType := none }, accessFlags := 265, code := none }
/-- java/lang/System -/
def k5 : Class := { plain "java/lang/System" (some 0) with
  accessFlags := 49
  interfaces := #[]
  cf := some (fileOf pool5 8 #[.nestMembers #[319, 327, 801, 108, 663, 208]] #[{ accessFlags := 2, nameIndex := 5, descriptorIndex := 6, attributes := #[] }, { accessFlags := 265, nameIndex := 727, descriptorIndex := 728, attributes := #[] }] 49 2 #[] #[{ accessFlags := 25, nameIndex := 507, descriptorIndex := 526, attributes := #[] }, { accessFlags := 25, nameIndex := 399, descriptorIndex := 155, attributes := #[] }, { accessFlags := 25, nameIndex := 396, descriptorIndex := 155, attributes := #[] }, { accessFlags := 10, nameIndex := 525, descriptorIndex := 526, attributes := #[] }, { accessFlags := 26, nameIndex := 674, descriptorIndex := 12, attributes := #[] }, { accessFlags := 26, nameIndex := 677, descriptorIndex := 12, attributes := #[] }, { accessFlags := 10, nameIndex := 11, descriptorIndex := 12, attributes := #[] }, { accessFlags := 74, nameIndex := 175, descriptorIndex := 176, attributes := #[] }, { accessFlags := 10, nameIndex := 491, descriptorIndex := 222, attributes := #[] }, { accessFlags := 74, nameIndex := 29, descriptorIndex := 30, attributes := #[] }, { accessFlags := 74, nameIndex := 154, descriptorIndex := 155, attributes := #[] }, { accessFlags := 10, nameIndex := 217, descriptorIndex := 218, attributes := #[] }, { accessFlags := 10, nameIndex := 221, descriptorIndex := 222, attributes := #[] }, { accessFlags := 8, nameIndex := 562, descriptorIndex := 563, attributes := #[] }])
  fields := #[{ name := "in", type := (.object "java/io/InputStream"), accessFlags := 25, slot := 0, constantValue := 0 }, { name := "out", type := (.object "java/io/PrintStream"), accessFlags := 25, slot := 1, constantValue := 0 }, { name := "err", type := (.object "java/io/PrintStream"), accessFlags := 25, slot := 2, constantValue := 0 }, { name := "initialIn", type := (.object "java/io/InputStream"), accessFlags := 10, slot := 3, constantValue := 0 }, { name := "NEVER", type := .int, accessFlags := 26, slot := 4, constantValue := 0 }, { name := "MAYBE", type := .int, accessFlags := 26, slot := 5, constantValue := 0 }, { name := "allowSecurityManager", type := .int, accessFlags := 10, slot := 6, constantValue := 0 }, { name := "security", type := (.object "java/lang/SecurityManager"), accessFlags := 74, slot := 7, constantValue := 0 }, { name := "notSupportedJnuEncoding", type := (.object "java/lang/String"), accessFlags := 10, slot := 8, constantValue := 0 }, { name := "cons", type := (.object "java/io/Console"), accessFlags := 74, slot := 9, constantValue := 0 }, { name := "initialErrStream", type := (.object "java/io/PrintStream"), accessFlags := 74, slot := 10, constantValue := 0 }, { name := "props", type := (.object "java/util/Properties"), accessFlags := 10, slot := 11, constantValue := 0 }, { name := "lineSeparator", type := (.object "java/lang/String"), accessFlags := 10, slot := 12, constantValue := 0 }, { name := "bootLayer", type := (.object "java/lang/ModuleLayer"), accessFlags := 8, slot := 13, constantValue := 0 }]
  methods := #[k5m0, k5m1]
  instanceTypes := #[]
  staticTypes := #[(.object "java/io/InputStream"), (.object "java/io/PrintStream"), (.object "java/io/PrintStream"), (.object "java/io/InputStream"), .int, .int, .int, (.object "java/lang/SecurityManager"), (.object "java/lang/String"), (.object "java/io/Console"), (.object "java/io/PrintStream"), (.object "java/util/Properties"), (.object "java/lang/String"), (.object "java/lang/ModuleLayer")]
  resolved := Array.replicate 834 none
  statics := none }

def pool6 : Array CpInfo := pool [(1, .class_ 2), (0, u "java/lang/Cloneable"), (0, .class_ 4), (0, u "java/lang/Object")] 2

/-- java/lang/Cloneable -/
def k6 : Class := { plain "java/lang/Cloneable" (some 0) with
  accessFlags := 1537
  interfaces := #[]
  cf := some (fileOf pool6 1 #[] #[] 1537 3 #[] #[])
  fields := #[]
  methods := #[]
  instanceTypes := #[]
  staticTypes := #[]
  resolved := Array.replicate 7 none
  statics := none }

def pool7 : Array CpInfo := pool [(1, u "java/io/Serializable"), (0, .class_ 1), (0, u "java/lang/Object"), (0, .class_ 3)] 3

/-- java/io/Serializable -/
def k7 : Class := { plain "java/io/Serializable" (some 0) with
  accessFlags := 1537
  interfaces := #[]
  cf := some (fileOf pool7 2 #[] #[] 1537 4 #[] #[])
  fields := #[]
  methods := #[]
  instanceTypes := #[]
  staticTypes := #[]
  resolved := Array.replicate 8 none
  statics := none }

/-- the primitive byte -/
def k8 : Class := { plain "byte" none with kind := .primitive 'B', accessFlags := 0x411 }
/-- [B -/
def k9 : Class := { plain "[B" (some 0) with kind := .array 8 .byte, interfaces := #[6, 7], accessFlags := 1041 }

/-- the primitive int -/
def k10 : Class := { plain "int" none with kind := .primitive 'I', accessFlags := 0x411 }
/-- [I -/
def k11 : Class := { plain "[I" (some 0) with kind := .array 10 .int, interfaces := #[6, 7], accessFlags := 1041 }

def heap : Heap := #[]
def classes : Array Class := #[k0, k1, k2, k3, k4, k5, k6, k7, k8, k9, k10, k11]
def interned : List (Array UInt16 × Addr) := []
def slotsUsed : Nat := 0
def theMethod : MethodId := ⟨1, 3⟩
def args0 : Array Value := #[.int 65, .int 92, .int 1]
def aboutOver (below : List Frame) : State where
  vm := { classes := classes, interned := interned.toArray }
  heap := heap
  slotsUsed := slotsUsed
  threads := #[{ frames := .invoking theMethod args0 :: below }]
def below0 : List Frame := [.native { method := ⟨0, 0⟩, args := #[] }]
def about1 : State := aboutOver below0
def p0 : Program := .bare "" "" ""
def e0 : Env := launch0.env 0 0 0
theorem w_frames : about1.frames = Frame.invoking theMethod args0 :: below0 := rfl
set_option maxRecDepth 65536 in
theorem w_args : argsFit about1.vm theMethod args0 = true := by decide +kernel
set_option maxRecDepth 65536 in
theorem w_heap : heapFits about1 = true := by decide +kernel
set_option maxRecDepth 65536 in
theorem w_runnable : about1.curStatus? = some .runnable := by decide +kernel
set_option maxRecDepth 65536 in
theorem w_alone : about1.alone = true := by decide +kernel
set_option maxRecDepth 65536 in
theorem w_named : about1.methodNamed? x = some theMethod := by decide +kernel
set_option maxRecDepth 65536 in
theorem w_hears : about1.hears theMethod below0 = true := by decide +kernel
set_option maxRecDepth 65536 in
theorem w_ripe : about1.ripe theMethod args0 below0 = true := by decide +kernel
theorem w_running : about1.status = .running := rfl
set_option maxRecDepth 65536 in
theorem w_room : about1.hasRoom e0.platform room_1 = true :=
  launch0.hasRoom_least _ room_1 (by decide +kernel) (by decide +kernel) (by decide +kernel) (by decide +kernel) (by decide +kernel) (by decide +kernel)
theorem allAtoms_all (ts : List Jvm.Cond) (a : Array Jvm.Value) (st : Jvm.State) : (allAtoms ts).before a st = ts.all (fun c => c.before a st) := by
  induction ts with
  | nil => rfl
  | cons c t ih =>
    show (Jvm.Cond.and c (allAtoms t)).before a st = _
    rw [Jvm.Cond.before_and, ih, List.all_cons]
def words1 : List Jvm.Cond := Jvm.Cond.code x code maxLocals ret :: tables_1
/-- a 'code' word, met by the world's own term for the bytes: nothing is compared byte by byte -/
theorem code_word {y : MethodName} {bytes : ByteArray} {mx : Nat} {rt : Option FieldType} {a : Array Value} {s : State} {m : MethodId} {meth : Method} {c : Code} (h1 : s.methodNamed? y = some m) (h2 : s.vm.method? m = some meth) (h3 : meth.code = some c) (h4 : c.code = bytes)
    (h5 : (c.maxLocals == mx && c.exceptionTable.isEmpty && decide (c.maxStack ≤ mostOperands) && decide (meth.sig.returnType = rt) && !meth.locks && decide (parseMethodDescriptor y.desc = some meth.sig)) = true) : (Jvm.Cond.code y bytes mx rt).before a s = true := by
  simp only [Bool.and_eq_true, beq_iff_eq, Bool.not_eq_true', decide_eq_true_eq] at h5
  obtain ⟨⟨⟨⟨⟨g1, g2⟩, g3⟩, g4⟩, g5⟩, g6⟩ := h5
  simp [Cond.before, Cond.holds, Cond.value, h1, h2, h3, h4, g1, g2, g3, g4, g5, g6]
def isCode : Jvm.Cond → Bool
  | .code _ _ _ _ => true
  | _ => false
theorem all_split {L : List Jvm.Cond} {P : Jvm.Cond → Bool} (h1 : L.all (fun c => isCode c || P c) = true) (h2 : ∀ c ∈ L.filter isCode, P c = true) : L.all P = true := by
  refine List.all_eq_true.mpr fun c hc => ?_
  have h := List.all_eq_true.mp h1 c hc
  rcases Bool.eq_false_or_eq_true (isCode c) with hi | hi
  · exact h2 c (List.mem_filter.mpr ⟨hc, hi⟩)
  · simpa [hi] using h
set_option maxRecDepth 65536 in
theorem w_c0 : (Jvm.Cond.code x code maxLocals ret).before args0 about1 = true := code_word (m := ⟨1, 3⟩) (meth := k1m3) (c := k1c3) (by decide +kernel) rfl rfl rfl (by decide +kernel)
set_option maxRecDepth 65536 in
theorem w_c1 : (Jvm.Cond.code ({ cls := "com/example/presplit/presplit/escape/BinaryEscapeDecodePinLaw", name := "put", desc := "([BIIZ)I" } : Jvm.MethodName) method_3_code (4 : Nat) (Option.some Jvm.ClassFile.FieldType.int)).before args0 about1 = true := code_word (m := ⟨1, 2⟩) (meth := k1m2) (c := k1c2) (by decide +kernel) rfl rfl rfl (by decide +kernel)
set_option maxRecDepth 65536 in
theorem w_c2 : (Jvm.Cond.code ({ cls := "com/example/presplit/presplit/escape/BinaryEscapeDecodePinLaw", name := "hex", desc := "(I)I" } : Jvm.MethodName) method_2_code (1 : Nat) (Option.some Jvm.ClassFile.FieldType.int)).before args0 about1 = true := code_word (m := ⟨1, 1⟩) (meth := k1m1) (c := k1c1) (by decide +kernel) rfl rfl rfl (by decide +kernel)
set_option maxRecDepth 65536 in
theorem w_c3 : (Jvm.Cond.code ({ cls := "com/example/presplit/presplit/escape/BinaryEscape", name := "decode", desc := "([B)[B" } : Jvm.MethodName) prog_1_method_3_code (4 : Nat) (Option.some (Jvm.ClassFile.FieldType.array Jvm.ClassFile.FieldType.byte))).before args0 about1 = true := code_word (m := ⟨2, 1⟩) (meth := k2m1) (c := k2c1) (by decide +kernel) rfl rfl rfl (by decide +kernel)
set_option maxRecDepth 65536 in
theorem w_c4 : (Jvm.Cond.code ({ cls := "com/example/presplit/presplit/escape/BinaryEscape", name := "escapedByte", desc := "([BI)B" } : Jvm.MethodName) prog_1_method_4_code (4 : Nat) (Option.some Jvm.ClassFile.FieldType.byte)).before args0 about1 = true := code_word (m := ⟨2, 2⟩) (meth := k2m2) (c := k2c2) (by decide +kernel) rfl rfl rfl (by decide +kernel)
set_option maxRecDepth 65536 in
theorem w_c5 : (Jvm.Cond.code ({ cls := "com/example/presplit/presplit/escape/BinaryEscape", name := "hexDigitValue", desc := "(B)I" } : Jvm.MethodName) prog_1_method_5_code (1 : Nat) (Option.some Jvm.ClassFile.FieldType.int)).before args0 about1 = true := code_word (m := ⟨2, 3⟩) (meth := k2m3) (c := k2c3) (by decide +kernel) rfl rfl rfl (by decide +kernel)
set_option maxRecDepth 65536 in
theorem w_c6 : (Jvm.Cond.code ({ cls := "java/util/Arrays", name := "copyOf", desc := "([BI)[B" } : Jvm.MethodName) jdk_65_method_121_code (3 : Nat) (Option.some (Jvm.ClassFile.FieldType.array Jvm.ClassFile.FieldType.byte))).before args0 about1 = true := code_word (m := ⟨3, 1⟩) (meth := k3m1) (c := k3c1) (by decide +kernel) rfl rfl rfl (by decide +kernel)
set_option maxRecDepth 65536 in
theorem w_c7 : (Jvm.Cond.code ({ cls := "java/lang/Math", name := "min", desc := "(II)I" } : Jvm.MethodName) jdk_29_method_69_code (2 : Nat) (Option.some Jvm.ClassFile.FieldType.int)).before args0 about1 = true := code_word (m := ⟨4, 1⟩) (meth := k4m1) (c := k4c1) (by decide +kernel) rfl rfl rfl (by decide +kernel)
def codes1 : List Jvm.Cond := [Jvm.Cond.code x code maxLocals ret, Jvm.Cond.code ({ cls := "com/example/presplit/presplit/escape/BinaryEscapeDecodePinLaw", name := "put", desc := "([BIIZ)I" } : Jvm.MethodName) method_3_code (4 : Nat) (Option.some Jvm.ClassFile.FieldType.int), Jvm.Cond.code ({ cls := "com/example/presplit/presplit/escape/BinaryEscapeDecodePinLaw", name := "hex", desc := "(I)I" } : Jvm.MethodName) method_2_code (1 : Nat) (Option.some Jvm.ClassFile.FieldType.int), Jvm.Cond.code ({ cls := "com/example/presplit/presplit/escape/BinaryEscape", name := "decode", desc := "([B)[B" } : Jvm.MethodName) prog_1_method_3_code (4 : Nat) (Option.some (Jvm.ClassFile.FieldType.array Jvm.ClassFile.FieldType.byte)), Jvm.Cond.code ({ cls := "com/example/presplit/presplit/escape/BinaryEscape", name := "escapedByte", desc := "([BI)B" } : Jvm.MethodName) prog_1_method_4_code (4 : Nat) (Option.some Jvm.ClassFile.FieldType.byte), Jvm.Cond.code ({ cls := "com/example/presplit/presplit/escape/BinaryEscape", name := "hexDigitValue", desc := "(B)I" } : Jvm.MethodName) prog_1_method_5_code (1 : Nat) (Option.some Jvm.ClassFile.FieldType.int), Jvm.Cond.code ({ cls := "java/util/Arrays", name := "copyOf", desc := "([BI)[B" } : Jvm.MethodName) jdk_65_method_121_code (3 : Nat) (Option.some (Jvm.ClassFile.FieldType.array Jvm.ClassFile.FieldType.byte)), Jvm.Cond.code ({ cls := "java/lang/Math", name := "min", desc := "(II)I" } : Jvm.MethodName) jdk_29_method_69_code (2 : Nat) (Option.some Jvm.ClassFile.FieldType.int)]
set_option maxRecDepth 65536 in
theorem codes_eq : words1.filter isCode = codes1 := rfl
theorem w_codes : ∀ c ∈ words1.filter isCode, c.before args0 about1 = true := by
  rw [codes_eq]
  intro c hc
  simp only [codes1, List.mem_cons, List.not_mem_nil, or_false] at hc
  rcases hc with rfl | rfl | rfl | rfl | rfl | rfl | rfl | rfl
  · exact w_c0
  · exact w_c1
  · exact w_c2
  · exact w_c3
  · exact w_c4
  · exact w_c5
  · exact w_c6
  · exact w_c7
set_option maxRecDepth 65536 in
theorem w_t1 : (words1.take 24).all (fun c => isCode c || c.before args0 about1) = true := by decide +kernel
set_option maxRecDepth 65536 in
theorem w_t2 : (words1.drop 24).all (fun c => isCode c || c.before args0 about1) = true := by decide +kernel
theorem w_tables : (allAtoms (Jvm.Cond.code x code maxLocals ret :: tables_1)).before args0 about1 = true := by
  rw [allAtoms_all]
  show words1.all (fun c => c.before args0 about1) = true
  refine all_split ?_ w_codes
  rw [← List.take_append_drop 24 words1, List.all_append, w_t1, w_t2]
  rfl
set_option maxRecDepth 65536 in
theorem w_case : (Jvm.Cond.and given_1 narrow_1).before args0 about1 = true := by decide +kernel
theorem w_applies : (headSpec (Jvm.Cond.code x code maxLocals ret :: tables_1) room_1).applies x e0.platform about1 = true :=
  (Spec.applies_iff w_frames).mpr ⟨w_running, w_runnable, w_alone, w_named, w_hears, w_ripe, w_room, w_tables⟩
theorem atStart : AtStart classFile x code maxLocals ret World_1 tables_1 room_1 Calls_1 rest_1 Pre_1 launch0 p0 e0 about1 theMethod args0 below0 :=
  ⟨lists_1, trivial, launch0.admits_env _ _ _, launch0.least_env, fairChoices_fair.cas, fairChoices_fair.clock, w_frames, w_args, w_heap, w_applies, trivial, trivial, w_case⟩
end start1
theorem witness_1 : WitnessClaimed_1 := ⟨start1.p0, start1.e0, start1.about1, start1.theMethod, start1.args0, start1.below0, start1.atStart⟩
end Jvm.Pilot.@@N@@
