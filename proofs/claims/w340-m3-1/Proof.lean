import JvmDerived
import JvmDerived.Pilot.@@N@@Statement
import JvmDerived.Pilot.@@N@@Code
set_option linter.unusedVariables false
set_option linter.unusedSimpArgs false
@@BLOCK:NumsL.lean.txt@@
namespace Jvm.RoadKit
open Sem ClassFile Op Lib Jvm.Stand Jvm.Free Jvm.LawKit
section New
variable {p : Program} {l : Launch} {e : Env} {R : Room} {s : State} {m : MethodId} {args : Array Value} {below : List Frame} {meth : Method} {c : Code} {T : State} {locs : List Loc} {cells slots : Nat}
theorem retI (X : Stand p l e R s m args below meth c T locs cells slots) (hx : p.tables.exec = Jvm.exec) {pc : Nat} {Ls : Array Slot} {z : Int32} {rest : List Value} (hret : meth.sig.returnType = some .int) (hd : decode c.code pc = .ok (.ireturn, 1)) {fs : List Frame}
    (hl : ∀ (f : JFrame) (acts : List Action), f.method = m → f.locked = none → f.entered = [] → (doReturn e (T.setTop f) acts (some (.int z))).1 = T.setFrames fs) : Steps p.tables e below (T.setTop (mkF m pc Ls (.int z :: rest))) (T.setFrames fs) := by
  have hm' : T.vm.method? m = some meth := X.method'
  have hn : narrow .int (.int z) = .int z := rfl
  show Steps p.tables e below (T.setTop { method := m, pc := pc, locals := Ls, stack := _ :: rest, locked := none }) _
  jvm_step X.here [X.here.top, hx, hd, hm', hret, hn]
  first | (intro acts; rw [hl _ acts rfl rfl rfl]) | rw [hl _ _ rfl rfl rfl]
  exact Steps.refl _
end New
end Jvm.RoadKit
namespace Jvm.Pilot.@@N@@
open Jvm Jvm.ClassFile Sem Op Lib Jvm.Free Jvm.Stand Jvm.LawKit Jvm.RoadKit Bundle Jvm.Pilot.@@N@@.Jvm.D
def G1 (u1 u2 u3 u4 u5 u6 : UInt64) : UInt64 := (FP.dsub (FP.dmul (FP.dsub u3 u1) (FP.dsub u6 u2)) (FP.dmul (FP.dsub u4 u2) (FP.dsub u5 u1)))
theorem d1_0 : decode prog_73_method_7_code 0 = .ok (.dload 4, 2) := by decide +kernel
theorem d1_2 : decode prog_73_method_7_code 2 = .ok (.dload_n 0, 1) := by decide +kernel
theorem d1_3 : decode prog_73_method_7_code 3 = .ok (.dsub, 1) := by decide +kernel
theorem d1_4 : decode prog_73_method_7_code 4 = .ok (.dload 10, 2) := by decide +kernel
theorem d1_6 : decode prog_73_method_7_code 6 = .ok (.dload_n 2, 1) := by decide +kernel
theorem d1_7 : decode prog_73_method_7_code 7 = .ok (.dsub, 1) := by decide +kernel
theorem d1_8 : decode prog_73_method_7_code 8 = .ok (.dmul, 1) := by decide +kernel
theorem d1_9 : decode prog_73_method_7_code 9 = .ok (.dload 6, 2) := by decide +kernel
theorem d1_11 : decode prog_73_method_7_code 11 = .ok (.dload_n 2, 1) := by decide +kernel
theorem d1_12 : decode prog_73_method_7_code 12 = .ok (.dsub, 1) := by decide +kernel
theorem d1_13 : decode prog_73_method_7_code 13 = .ok (.dload 8, 2) := by decide +kernel
theorem d1_15 : decode prog_73_method_7_code 15 = .ok (.dload_n 0, 1) := by decide +kernel
theorem d1_16 : decode prog_73_method_7_code 16 = .ok (.dsub, 1) := by decide +kernel
theorem d1_17 : decode prog_73_method_7_code 17 = .ok (.dmul, 1) := by decide +kernel
theorem d1_18 : decode prog_73_method_7_code 18 = .ok (.dsub, 1) := by decide +kernel
theorem d1_19 : decode prog_73_method_7_code 19 = .ok (.dreturn, 1) := by decide +kernel
theorem pn_1 : plainName "com/example/edgeconomy/edgeconomy/layouts/TriangleEnergy" = true := by first | (simp [plainName, overriddenIn]; done) | decide +kernel
theorem ef_1 (m : MethodId) (x0 : UInt64) (x1 : UInt64) (x2 : UInt64) (x3 : UInt64) (x4 : UInt64) (x5 : UInt64) : entryFrame m #[(.double x0), (.double x1), (.double x2), (.double x3), (.double x4), (.double x5)] 12 = mkF m 0 #[.val (.double x0), .second, .val (.double x1), .second, .val (.double x2), .second, .val (.double x3), .second, .val (.double x4), .second, .val (.double x5), .second] [] := by first | (simp [entryFrame, mkF, argsToLocals, Value.category]; done) | rfl
def Q_rm1 (Z : State) (u1 : UInt64) (u2 : UInt64) (u3 : UInt64) (u4 : UInt64) (u5 : UInt64) (u6 : UInt64) (h0 : Heap) (n0 : Nat) (v : Option Value) (h : Heap) (L : List Loc) : Prop := v = some (.double (G1 u1 u2 u3 u4 u5 u6)) ∧ Fr n0 L ∧ h = h0
set_option maxRecDepth 65536 in
set_option maxHeartbeats 40000000 in
theorem rm1 (l : Launch) (Z : State) (a0 : Array Value) (hw : ∀ d ∈ tables_1, d.before a0 Z = true) (ws : List Jvm.Cond) (u1 : UInt64) (u2 : UInt64) (u3 : UInt64) (u4 : UInt64) (u5 : UInt64) (u6 : UInt64) (h0 : Heap) (n0 : Nat) (Z0 : n0 ≤ h0.size) (hn_q1 : Jvm.Free.Fl.NoNaN64 (FP.dsub u3 u1)) (hn_q2 : Jvm.Free.Fl.NoNaN64 (FP.dsub u6 u2)) (hn_q3 : Jvm.Free.Fl.NoNaN64 (FP.dmul (FP.dsub u3 u1) (FP.dsub u6 u2))) (hn_q4 : Jvm.Free.Fl.NoNaN64 (FP.dsub u4 u2)) (hn_q5 : Jvm.Free.Fl.NoNaN64 (FP.dsub u5 u1)) (hn_q6 : Jvm.Free.Fl.NoNaN64 (FP.dmul (FP.dsub u4 u2) (FP.dsub u5 u1))) (hn_q7 : Jvm.Free.Fl.NoNaN64 (FP.dsub (FP.dmul (FP.dsub u3 u1) (FP.dsub u6 u2)) (FP.dmul (FP.dsub u4 u2) (FP.dsub u5 u1)))) :
    MetFree l (⟨"com/example/edgeconomy/edgeconomy/layouts/TriangleEnergy", "turn", "(DDDDDD)D"⟩ : MethodName) (head1 (Jvm.Cond.code (⟨"com/example/edgeconomy/edgeconomy/layouts/TriangleEnergy", "turn", "(DDDDDD)D"⟩ : MethodName) prog_73_method_7_code 12 (some .double) :: ws) ({ frames := 0, cells := 0, slots := 0, locals := 0 } : Room)) (fun a U => a = #[(.double u1), (.double u2), (.double u3), (.double u4), (.double u5), (.double u6)] ∧ Z.Warmed39 U.vm ∧ U.heap = h0) (fun _ _ _ _ _ => True) (fun _ U o U' => ∃ v L, o = .returned v ∧ Q_rm1 Z u1 u2 u3 u4 u5 u6 h0 n0 v U'.heap L ∧ FrameEnd U o U' L ({ frames := 0, cells := 0, slots := 0, locals := 0 } : Room).cells ({ frames := 0, cells := 0, slots := 0, locals := 0 } : Room).slots) := by
  refine MetFree.of_bodySF (plainFor_of_name pn_1) hisR ?_
  intro p e s m args below meth c s₁ Bd hml0 hP hK
  obtain ⟨rfl, hZ, hh⟩ := hP
  have hx := Bd.exec
  have hby := Bd.bytes
  have hml : c.maxLocals = 12 := hml0
  have hown : s.vm.findClass "com/example/edgeconomy/edgeconomy/layouts/TriangleEnergy" = some m.cls := findClass_of_methodNamed Bd.named
  have hnm := (name_of_methodNamed Bd.named Bd.method).1
  have X0 : Stand p l e ({ frames := 0, cells := 0, slots := 0, locals := 0 } : Room) s m #[(.double u1), (.double u2), (.double u3), (.double u4), (.double u5), (.double u6)] below meth c s₁ [] 0 0 := Stand.of_body Bd
  have e0 : s₁.heap = h0 := by rw [← hh, Bd.state]; rfl
  have N0 := Fr.nil n0
  have pre0 : ∀ t, Steps p.tables e below (s₁.setTop (mkF m 0 #[.val (.double u1), .second, .val (.double u2), .second, .val (.double u3), .second, .val (.double u4), .second, .val (.double u5), .second, .val (.double u6), .second] [])) t → Steps p.tables e below (s₁.setTop (entryFrame m #[(.double u1), (.double u2), (.double u3), (.double u4), (.double u5), (.double u6)] 12)) t := fun t k => castTop (ef_1 m u1 u2 u3 u4 u5 u6) k
  have K0 : Keep h0 h0 [] := Keep.refl _ _
  obtain ⟨fs, hr, hrun, hended, hW, hsame⟩ := X0.leave (v := some (.double (G1 u1 u2 u3 u4 u5 u6))) (fun h => by rw [Bd.returns] at h; cases h) Bd.notSynchronized
  refine ⟨_, _, pre0 _ ?_, hrun, hended, _, _, rfl, ?_, ⟨_, rfl⟩, hW, hsame.mono (by decide) (by decide)⟩
  · show Steps p.tables e below (s₁.setTop (mkF m 0 #[.val (.double u1), .second, .val (.double u2), .second, .val (.double u3), .second, .val (.double u4), .second, .val (.double u5), .second, .val (.double u6), .second] [])) _
    refine XS.dload X0.here hx rfl (hb hby d1_0) rfl ?_
    show Steps p.tables e below (s₁.setTop (mkF m 2 #[.val (.double u1), .second, .val (.double u2), .second, .val (.double u3), .second, .val (.double u4), .second, .val (.double u5), .second, .val (.double u6), .second] [(.double u3)])) _
    refine XS.dloadN X0.here hx rfl (hb hby d1_2) rfl ?_
    show Steps p.tables e below (s₁.setTop (mkF m 3 #[.val (.double u1), .second, .val (.double u2), .second, .val (.double u3), .second, .val (.double u4), .second, .val (.double u5), .second, .val (.double u6), .second] [(.double u1), (.double u3)])) _
    refine XS.dsubS X0.here hx rfl (hb hby d1_3) rfl hn_q1 rfl ?_
    show Steps p.tables e below (s₁.setTop (mkF m 4 #[.val (.double u1), .second, .val (.double u2), .second, .val (.double u3), .second, .val (.double u4), .second, .val (.double u5), .second, .val (.double u6), .second] [(.double (FP.dsub u3 u1))])) _
    refine XS.dload X0.here hx rfl (hb hby d1_4) rfl ?_
    show Steps p.tables e below (s₁.setTop (mkF m 6 #[.val (.double u1), .second, .val (.double u2), .second, .val (.double u3), .second, .val (.double u4), .second, .val (.double u5), .second, .val (.double u6), .second] [(.double u6), (.double (FP.dsub u3 u1))])) _
    refine XS.dloadN X0.here hx rfl (hb hby d1_6) rfl ?_
    show Steps p.tables e below (s₁.setTop (mkF m 7 #[.val (.double u1), .second, .val (.double u2), .second, .val (.double u3), .second, .val (.double u4), .second, .val (.double u5), .second, .val (.double u6), .second] [(.double u2), (.double u6), (.double (FP.dsub u3 u1))])) _
    refine XS.dsubS X0.here hx rfl (hb hby d1_7) rfl hn_q2 rfl ?_
    show Steps p.tables e below (s₁.setTop (mkF m 8 #[.val (.double u1), .second, .val (.double u2), .second, .val (.double u3), .second, .val (.double u4), .second, .val (.double u5), .second, .val (.double u6), .second] [(.double (FP.dsub u6 u2)), (.double (FP.dsub u3 u1))])) _
    refine XS.dmulS X0.here hx rfl (hb hby d1_8) rfl hn_q3 rfl ?_
    show Steps p.tables e below (s₁.setTop (mkF m 9 #[.val (.double u1), .second, .val (.double u2), .second, .val (.double u3), .second, .val (.double u4), .second, .val (.double u5), .second, .val (.double u6), .second] [(.double (FP.dmul (FP.dsub u3 u1) (FP.dsub u6 u2)))])) _
    refine XS.dload X0.here hx rfl (hb hby d1_9) rfl ?_
    show Steps p.tables e below (s₁.setTop (mkF m 11 #[.val (.double u1), .second, .val (.double u2), .second, .val (.double u3), .second, .val (.double u4), .second, .val (.double u5), .second, .val (.double u6), .second] [(.double u4), (.double (FP.dmul (FP.dsub u3 u1) (FP.dsub u6 u2)))])) _
    refine XS.dloadN X0.here hx rfl (hb hby d1_11) rfl ?_
    show Steps p.tables e below (s₁.setTop (mkF m 12 #[.val (.double u1), .second, .val (.double u2), .second, .val (.double u3), .second, .val (.double u4), .second, .val (.double u5), .second, .val (.double u6), .second] [(.double u2), (.double u4), (.double (FP.dmul (FP.dsub u3 u1) (FP.dsub u6 u2)))])) _
    refine XS.dsubS X0.here hx rfl (hb hby d1_12) rfl hn_q4 rfl ?_
    show Steps p.tables e below (s₁.setTop (mkF m 13 #[.val (.double u1), .second, .val (.double u2), .second, .val (.double u3), .second, .val (.double u4), .second, .val (.double u5), .second, .val (.double u6), .second] [(.double (FP.dsub u4 u2)), (.double (FP.dmul (FP.dsub u3 u1) (FP.dsub u6 u2)))])) _
    refine XS.dload X0.here hx rfl (hb hby d1_13) rfl ?_
    show Steps p.tables e below (s₁.setTop (mkF m 15 #[.val (.double u1), .second, .val (.double u2), .second, .val (.double u3), .second, .val (.double u4), .second, .val (.double u5), .second, .val (.double u6), .second] [(.double u5), (.double (FP.dsub u4 u2)), (.double (FP.dmul (FP.dsub u3 u1) (FP.dsub u6 u2)))])) _
    refine XS.dloadN X0.here hx rfl (hb hby d1_15) rfl ?_
    show Steps p.tables e below (s₁.setTop (mkF m 16 #[.val (.double u1), .second, .val (.double u2), .second, .val (.double u3), .second, .val (.double u4), .second, .val (.double u5), .second, .val (.double u6), .second] [(.double u1), (.double u5), (.double (FP.dsub u4 u2)), (.double (FP.dmul (FP.dsub u3 u1) (FP.dsub u6 u2)))])) _
    refine XS.dsubS X0.here hx rfl (hb hby d1_16) rfl hn_q5 rfl ?_
    show Steps p.tables e below (s₁.setTop (mkF m 17 #[.val (.double u1), .second, .val (.double u2), .second, .val (.double u3), .second, .val (.double u4), .second, .val (.double u5), .second, .val (.double u6), .second] [(.double (FP.dsub u5 u1)), (.double (FP.dsub u4 u2)), (.double (FP.dmul (FP.dsub u3 u1) (FP.dsub u6 u2)))])) _
    refine XS.dmulS X0.here hx rfl (hb hby d1_17) rfl hn_q6 rfl ?_
    show Steps p.tables e below (s₁.setTop (mkF m 18 #[.val (.double u1), .second, .val (.double u2), .second, .val (.double u3), .second, .val (.double u4), .second, .val (.double u5), .second, .val (.double u6), .second] [(.double (FP.dmul (FP.dsub u4 u2) (FP.dsub u5 u1))), (.double (FP.dmul (FP.dsub u3 u1) (FP.dsub u6 u2)))])) _
    refine XS.dsubS X0.here hx rfl (hb hby d1_18) rfl hn_q7 rfl ?_
    show Steps p.tables e below (s₁.setTop (mkF m 19 #[.val (.double u1), .second, .val (.double u2), .second, .val (.double u3), .second, .val (.double u4), .second, .val (.double u5), .second, .val (.double u6), .second] [(.double (FP.dsub (FP.dmul (FP.dsub u3 u1) (FP.dsub u6 u2)) (FP.dmul (FP.dsub u4 u2) (FP.dsub u5 u1))))])) _
    show Steps p.tables e below (s₁.setTop (mkF m 19 #[.val (.double u1), .second, .val (.double u2), .second, .val (.double u3), .second, .val (.double u4), .second, .val (.double u5), .second, .val (.double u6), .second] [(.double (G1 u1 u2 u3 u4 u5 u6))])) _
    jvm_step X0.here [X0.here.top, hx, (hb hby d1_19), X0.method', Bd.returns, narrow]
    first | (intro acts; rw [hr _ acts rfl rfl rfl]) | rw [hr _ _ rfl rfl rfl]
    exact Steps.refl _
  · show Q_rm1 Z u1 u2 u3 u4 u5 u6 h0 n0 _ s₁.heap _
    rw [e0]
    exact ⟨rfl, N0, rfl⟩
theorem pn_0 : plainName "com/example/edgeconomy/edgeconomy/layouts/TriangleEnergyTurnPinLaw" = true := by first | (simp [plainName, overriddenIn]; done) | decide +kernel
theorem pd__DDDDDD_D : parseMethodDescriptor "(DDDDDD)D" = some ⟨[.double, .double, .double, .double, .double, .double], some .double⟩ := by decide +kernel
theorem ef_0 (m : MethodId) (x0 : Int32) (x1 : Int32) (x2 : Int32) (x3 : Int32) (x4 : Int32) (x5 : Int32) : entryFrame m #[(.int x0), (.int x1), (.int x2), (.int x3), (.int x4), (.int x5)] maxLocals = mkF m 0 #[.val (.int x0), .val (.int x1), .val (.int x2), .val (.int x3), .val (.int x4), .val (.int x5), .unset, .unset, .unset, .unset, .unset, .unset, .unset, .unset, .unset, .unset, .unset, .unset, .unset, .unset, .unset, .unset] [] := by first | (simp [entryFrame, mkF, argsToLocals, Value.category, maxLocals]; done) | rfl
def Q_law (Z : State) (p1 : Int32) (p2 : Int32) (p3 : Int32) (p4 : Int32) (p5 : Int32) (p6 : Int32) (h0 : Heap) (n0 : Nat) (v : Option Value) (h : Heap) (L : List Loc) : Prop := v = some (.int (1 : Int32)) ∧ Fr n0 L
set_option maxRecDepth 65536 in
set_option maxHeartbeats 40000000 in
theorem rm0_f (l : Launch) (Z : State) (a0 : Array Value) (hw : ∀ d ∈ tables_1, d.before a0 Z = true) (ws : List Jvm.Cond) (p1 : Int32) (p2 : Int32) (p3 : Int32) (p4 : Int32) (p5 : Int32) (p6 : Int32) (h0 : Heap) (n0 : Nat) (Z0 : n0 ≤ h0.size) (ht_hn_q1 : Jvm.Free.Fl.NoNaN64 (FP.dsub (FP.l2d ((p3 >>> ((11 : Int32) &&& 31)).toInt64)) (FP.l2d ((p1 >>> ((11 : Int32) &&& 31)).toInt64)))) (ht_hn_q2 : Jvm.Free.Fl.NoNaN64 (FP.dsub (FP.l2d ((p6 >>> ((11 : Int32) &&& 31)).toInt64)) (FP.l2d ((p2 >>> ((11 : Int32) &&& 31)).toInt64)))) (ht_hn_q3 : Jvm.Free.Fl.NoNaN64 (FP.dmul (FP.dsub (FP.l2d ((p3 >>> ((11 : Int32) &&& 31)).toInt64)) (FP.l2d ((p1 >>> ((11 : Int32) &&& 31)).toInt64))) (FP.dsub (FP.l2d ((p6 >>> ((11 : Int32) &&& 31)).toInt64)) (FP.l2d ((p2 >>> ((11 : Int32) &&& 31)).toInt64))))) (ht_hn_q4 : Jvm.Free.Fl.NoNaN64 (FP.dsub (FP.l2d ((p4 >>> ((11 : Int32) &&& 31)).toInt64)) (FP.l2d ((p2 >>> ((11 : Int32) &&& 31)).toInt64)))) (ht_hn_q5 : Jvm.Free.Fl.NoNaN64 (FP.dsub (FP.l2d ((p5 >>> ((11 : Int32) &&& 31)).toInt64)) (FP.l2d ((p1 >>> ((11 : Int32) &&& 31)).toInt64)))) (ht_hn_q6 : Jvm.Free.Fl.NoNaN64 (FP.dmul (FP.dsub (FP.l2d ((p4 >>> ((11 : Int32) &&& 31)).toInt64)) (FP.l2d ((p2 >>> ((11 : Int32) &&& 31)).toInt64))) (FP.dsub (FP.l2d ((p5 >>> ((11 : Int32) &&& 31)).toInt64)) (FP.l2d ((p1 >>> ((11 : Int32) &&& 31)).toInt64))))) (ht_hn_q7 : Jvm.Free.Fl.NoNaN64 (FP.dsub (FP.dmul (FP.dsub (FP.l2d ((p3 >>> ((11 : Int32) &&& 31)).toInt64)) (FP.l2d ((p1 >>> ((11 : Int32) &&& 31)).toInt64))) (FP.dsub (FP.l2d ((p6 >>> ((11 : Int32) &&& 31)).toInt64)) (FP.l2d ((p2 >>> ((11 : Int32) &&& 31)).toInt64)))) (FP.dmul (FP.dsub (FP.l2d ((p4 >>> ((11 : Int32) &&& 31)).toInt64)) (FP.l2d ((p2 >>> ((11 : Int32) &&& 31)).toInt64))) (FP.dsub (FP.l2d ((p5 >>> ((11 : Int32) &&& 31)).toInt64)) (FP.l2d ((p1 >>> ((11 : Int32) &&& 31)).toInt64)))))) (hc_q2 : (cmpValue (FP.dcmp (G1 (FP.l2d ((p1 >>> ((11 : Int32) &&& 31)).toInt64)) (FP.l2d ((p2 >>> ((11 : Int32) &&& 31)).toInt64)) (FP.l2d ((p3 >>> ((11 : Int32) &&& 31)).toInt64)) (FP.l2d ((p4 >>> ((11 : Int32) &&& 31)).toInt64)) (FP.l2d ((p5 >>> ((11 : Int32) &&& 31)).toInt64)) (FP.l2d ((p6 >>> ((11 : Int32) &&& 31)).toInt64))) (FP.l2d ((((((((p1 >>> ((11 : Int32) &&& 31)).toInt64) * ((p4 >>> ((11 : Int32) &&& 31)).toInt64)) - (((p2 >>> ((11 : Int32) &&& 31)).toInt64) * ((p3 >>> ((11 : Int32) &&& 31)).toInt64))) + (((p3 >>> ((11 : Int32) &&& 31)).toInt64) * ((p6 >>> ((11 : Int32) &&& 31)).toInt64))) - (((p4 >>> ((11 : Int32) &&& 31)).toInt64) * ((p5 >>> ((11 : Int32) &&& 31)).toInt64))) + (((p5 >>> ((11 : Int32) &&& 31)).toInt64) * ((p2 >>> ((11 : Int32) &&& 31)).toInt64))) - (((p6 >>> ((11 : Int32) &&& 31)).toInt64) * ((p1 >>> ((11 : Int32) &&& 31)).toInt64))))) .l) = (0 : Int32)) :
    MetFree l x (head1 (Jvm.Cond.code x code maxLocals ret :: ws) room_1) (fun a U => a = #[(.int p1), (.int p2), (.int p3), (.int p4), (.int p5), (.int p6)] ∧ Z.Warmed39 U.vm ∧ U.heap = h0) (fun _ _ _ _ _ => True) (fun _ U o U' => ∃ v L, o = .returned v ∧ Q_law Z p1 p2 p3 p4 p5 p6 h0 n0 v U'.heap L ∧ FrameEnd U o U' L room_1.cells room_1.slots) := by
  refine MetFree.of_bodySF (plainFor_of_name pn_0) hisR ?_
  intro p e s m args below meth c s₁ Bd hml0 hP hK
  obtain ⟨rfl, hZ, hh⟩ := hP
  have hx := Bd.exec
  have hby := Bd.bytes
  have hml : c.maxLocals = 22 := hml0
  have hown : s.vm.findClass "com/example/edgeconomy/edgeconomy/layouts/TriangleEnergyTurnPinLaw" = some m.cls := findClass_of_methodNamed Bd.named
  have hnm := (name_of_methodNamed Bd.named Bd.method).1
  have X0 : Stand p l e room_1 s m #[(.int p1), (.int p2), (.int p3), (.int p4), (.int p5), (.int p6)] below meth c s₁ [] 0 0 := Stand.of_body Bd
  have e0 : s₁.heap = h0 := by rw [← hh, Bd.state]; rfl
  have N0 := Fr.nil n0
  have pre0 : ∀ t, Steps p.tables e below (s₁.setTop (mkF m 0 #[.val (.int p1), .val (.int p2), .val (.int p3), .val (.int p4), .val (.int p5), .val (.int p6), .unset, .unset, .unset, .unset, .unset, .unset, .unset, .unset, .unset, .unset, .unset, .unset, .unset, .unset, .unset, .unset] [])) t → Steps p.tables e below (s₁.setTop (entryFrame m #[(.int p1), (.int p2), (.int p3), (.int p4), (.int p5), (.int p6)] maxLocals)) t := fun t k => castTop (ef_0 m p1 p2 p3 p4 p5 p6) k
  have K0 : Keep h0 h0 [] := Keep.refl _ _
  obtain ⟨_, _, ⟨T_q1, L_q1, k_q1, n_q1⟩, -, X_q1, ⟨Lc_q1, hQ_q1, l_q1, y_q1, z_q1⟩, st_q1⟩ := Jvm.LawKit.callS X0 hx (y := (⟨"com/example/edgeconomy/edgeconomy/layouts/TriangleEnergy", "turn", "(DDDDDD)D"⟩ : MethodName)) hown (mvT hZ (hw _ (List.mem_of_getElem? (i := 0) rfl))) (mvT hZ (hw _ (List.mem_of_getElem? (i := 1) rfl))) (mvT hZ (hw _ (List.mem_of_getElem? (i := 2) rfl))) (mvT hZ (hw _ (List.mem_of_getElem? (i := 3) rfl))) (by decide) (backOf (W := 0) (rm1 l Z a0 hw [] (FP.l2d ((p1 >>> ((11 : Int32) &&& 31)).toInt64)) (FP.l2d ((p2 >>> ((11 : Int32) &&& 31)).toInt64)) (FP.l2d ((p3 >>> ((11 : Int32) &&& 31)).toInt64)) (FP.l2d ((p4 >>> ((11 : Int32) &&& 31)).toInt64)) (FP.l2d ((p5 >>> ((11 : Int32) &&& 31)).toInt64)) (FP.l2d ((p6 >>> ((11 : Int32) &&& 31)).toInt64)) h0 n0 (Nat.le_trans Z0 K0.1) ht_hn_q1 ht_hn_q2 ht_hn_q3 ht_hn_q4 ht_hn_q5 ht_hn_q6 ht_hn_q7) hZ (hw _ (List.mem_of_getElem? (i := 3) rfl)) (hw _ (List.mem_of_getElem? (i := 2) rfl)) (by decide) (by decide)) (g := (mkF m 62 #[.val (.int p1), .val (.int p2), .val (.int p3), .val (.int p4), .val (.int p5), .val (.int p6), .val (.long ((p1 >>> ((11 : Int32) &&& 31)).toInt64)), .second, .val (.long ((p2 >>> ((11 : Int32) &&& 31)).toInt64)), .second, .val (.long ((p3 >>> ((11 : Int32) &&& 31)).toInt64)), .second, .val (.long ((p4 >>> ((11 : Int32) &&& 31)).toInt64)), .second, .val (.long ((p5 >>> ((11 : Int32) &&& 31)).toInt64)), .second, .val (.long ((p6 >>> ((11 : Int32) &&& 31)).toInt64)), .second, .unset, .unset, .unset, .unset] [(.double (FP.l2d ((p6 >>> ((11 : Int32) &&& 31)).toInt64))), (.double (FP.l2d ((p5 >>> ((11 : Int32) &&& 31)).toInt64))), (.double (FP.l2d ((p4 >>> ((11 : Int32) &&& 31)).toInt64))), (.double (FP.l2d ((p3 >>> ((11 : Int32) &&& 31)).toInt64))), (.double (FP.l2d ((p2 >>> ((11 : Int32) &&& 31)).toInt64))), (.double (FP.l2d ((p1 >>> ((11 : Int32) &&& 31)).toInt64)))])) rfl (by rw [hml]; rfl) (argsL := [(.double (FP.l2d ((p1 >>> ((11 : Int32) &&& 31)).toInt64))), (.double (FP.l2d ((p2 >>> ((11 : Int32) &&& 31)).toInt64))), (.double (FP.l2d ((p3 >>> ((11 : Int32) &&& 31)).toInt64))), (.double (FP.l2d ((p4 >>> ((11 : Int32) &&& 31)).toInt64))), (.double (FP.l2d ((p5 >>> ((11 : Int32) &&& 31)).toInt64))), (.double (FP.l2d ((p6 >>> ((11 : Int32) &&& 31)).toInt64)))]) (rest := []) (lenOf pd__DDDDDD_D rfl) rfl (by show 2 * 0 + _ ≤ _; exact Nat.le_of_eq rfl) (hb hby at_62) (fun _ _ => ⟨rfl, e0, (by decide : 0 + 0 ≤ _), (by decide : 0 + 0 ≤ _)⟩)
  dsimp only [Pt.U, Pt.locs, Pt.cells, Pt.slots] at X_q1 l_q1 y_q1 z_q1 st_q1 hQ_q1
  subst l_q1 y_q1 z_q1
  obtain ⟨rfl, Nq_q1, eq_q1⟩ := hQ_q1
  have Kq_q1 : Keep h0 T_q1.heap [] := by rw [eq_q1]; exact Keep.refl _ _
  have N_q1 := Fr.app N0 Nq_q1
  have K_q1 : Keep h0 T_q1.heap [] := K0.trans Kq_q1 (fun x hx => nomatch hx)
  obtain ⟨fs, hr, hrun, hended, hW, hsame⟩ := X_q1.leave (v := some (.int (1 : Int32))) (fun h => by rw [Bd.returns] at h; cases h) Bd.notSynchronized
  refine ⟨_, _, pre0 _ ?_, hrun, hended, _, _, rfl, ?_, ⟨_, rfl⟩, hW, hsame.mono (by decide) (by decide)⟩
  · show Steps p.tables e below (s₁.setTop (mkF m 0 #[.val (.int p1), .val (.int p2), .val (.int p3), .val (.int p4), .val (.int p5), .val (.int p6), .unset, .unset, .unset, .unset, .unset, .unset, .unset, .unset, .unset, .unset, .unset, .unset, .unset, .unset, .unset, .unset] [])) _
    refine XS.iloadN X0.here hx rfl (hb hby at_0) rfl ?_
    show Steps p.tables e below (s₁.setTop (mkF m 1 #[.val (.int p1), .val (.int p2), .val (.int p3), .val (.int p4), .val (.int p5), .val (.int p6), .unset, .unset, .unset, .unset, .unset, .unset, .unset, .unset, .unset, .unset, .unset, .unset, .unset, .unset, .unset, .unset] [(.int p1)])) _
    refine XS.bipush X0.here hx rfl (hb hby at_1) ?_
    show Steps p.tables e below (s₁.setTop (mkF m 3 #[.val (.int p1), .val (.int p2), .val (.int p3), .val (.int p4), .val (.int p5), .val (.int p6), .unset, .unset, .unset, .unset, .unset, .unset, .unset, .unset, .unset, .unset, .unset, .unset, .unset, .unset, .unset, .unset] [(.int (11 : Int32)), (.int p1)])) _
    refine XS.ishr X0.here hx rfl (hb hby at_3) rfl ?_
    show Steps p.tables e below (s₁.setTop (mkF m 4 #[.val (.int p1), .val (.int p2), .val (.int p3), .val (.int p4), .val (.int p5), .val (.int p6), .unset, .unset, .unset, .unset, .unset, .unset, .unset, .unset, .unset, .unset, .unset, .unset, .unset, .unset, .unset, .unset] [(.int (p1 >>> ((11 : Int32) &&& 31)))])) _
    refine XS.i2l X0.here hx rfl (hb hby at_4) rfl ?_
    show Steps p.tables e below (s₁.setTop (mkF m 5 #[.val (.int p1), .val (.int p2), .val (.int p3), .val (.int p4), .val (.int p5), .val (.int p6), .unset, .unset, .unset, .unset, .unset, .unset, .unset, .unset, .unset, .unset, .unset, .unset, .unset, .unset, .unset, .unset] [(.long ((p1 >>> ((11 : Int32) &&& 31)).toInt64))])) _
    refine XS.lstore X0.here hx rfl (hb hby at_5) rfl (l' := #[.val (.int p1), .val (.int p2), .val (.int p3), .val (.int p4), .val (.int p5), .val (.int p6), .val (.long ((p1 >>> ((11 : Int32) &&& 31)).toInt64)), .second, .unset, .unset, .unset, .unset, .unset, .unset, .unset, .unset, .unset, .unset, .unset, .unset, .unset, .unset]) rfl ?_
    show Steps p.tables e below (s₁.setTop (mkF m 7 #[.val (.int p1), .val (.int p2), .val (.int p3), .val (.int p4), .val (.int p5), .val (.int p6), .val (.long ((p1 >>> ((11 : Int32) &&& 31)).toInt64)), .second, .unset, .unset, .unset, .unset, .unset, .unset, .unset, .unset, .unset, .unset, .unset, .unset, .unset, .unset] [])) _
    refine XS.iloadN X0.here hx rfl (hb hby at_7) rfl ?_
    show Steps p.tables e below (s₁.setTop (mkF m 8 #[.val (.int p1), .val (.int p2), .val (.int p3), .val (.int p4), .val (.int p5), .val (.int p6), .val (.long ((p1 >>> ((11 : Int32) &&& 31)).toInt64)), .second, .unset, .unset, .unset, .unset, .unset, .unset, .unset, .unset, .unset, .unset, .unset, .unset, .unset, .unset] [(.int p2)])) _
    refine XS.bipush X0.here hx rfl (hb hby at_8) ?_
    show Steps p.tables e below (s₁.setTop (mkF m 10 #[.val (.int p1), .val (.int p2), .val (.int p3), .val (.int p4), .val (.int p5), .val (.int p6), .val (.long ((p1 >>> ((11 : Int32) &&& 31)).toInt64)), .second, .unset, .unset, .unset, .unset, .unset, .unset, .unset, .unset, .unset, .unset, .unset, .unset, .unset, .unset] [(.int (11 : Int32)), (.int p2)])) _
    refine XS.ishr X0.here hx rfl (hb hby at_10) rfl ?_
    show Steps p.tables e below (s₁.setTop (mkF m 11 #[.val (.int p1), .val (.int p2), .val (.int p3), .val (.int p4), .val (.int p5), .val (.int p6), .val (.long ((p1 >>> ((11 : Int32) &&& 31)).toInt64)), .second, .unset, .unset, .unset, .unset, .unset, .unset, .unset, .unset, .unset, .unset, .unset, .unset, .unset, .unset] [(.int (p2 >>> ((11 : Int32) &&& 31)))])) _
    refine XS.i2l X0.here hx rfl (hb hby at_11) rfl ?_
    show Steps p.tables e below (s₁.setTop (mkF m 12 #[.val (.int p1), .val (.int p2), .val (.int p3), .val (.int p4), .val (.int p5), .val (.int p6), .val (.long ((p1 >>> ((11 : Int32) &&& 31)).toInt64)), .second, .unset, .unset, .unset, .unset, .unset, .unset, .unset, .unset, .unset, .unset, .unset, .unset, .unset, .unset] [(.long ((p2 >>> ((11 : Int32) &&& 31)).toInt64))])) _
    refine XS.lstore X0.here hx rfl (hb hby at_12) rfl (l' := #[.val (.int p1), .val (.int p2), .val (.int p3), .val (.int p4), .val (.int p5), .val (.int p6), .val (.long ((p1 >>> ((11 : Int32) &&& 31)).toInt64)), .second, .val (.long ((p2 >>> ((11 : Int32) &&& 31)).toInt64)), .second, .unset, .unset, .unset, .unset, .unset, .unset, .unset, .unset, .unset, .unset, .unset, .unset]) rfl ?_
    show Steps p.tables e below (s₁.setTop (mkF m 14 #[.val (.int p1), .val (.int p2), .val (.int p3), .val (.int p4), .val (.int p5), .val (.int p6), .val (.long ((p1 >>> ((11 : Int32) &&& 31)).toInt64)), .second, .val (.long ((p2 >>> ((11 : Int32) &&& 31)).toInt64)), .second, .unset, .unset, .unset, .unset, .unset, .unset, .unset, .unset, .unset, .unset, .unset, .unset] [])) _
    refine XS.iloadN X0.here hx rfl (hb hby at_14) rfl ?_
    show Steps p.tables e below (s₁.setTop (mkF m 15 #[.val (.int p1), .val (.int p2), .val (.int p3), .val (.int p4), .val (.int p5), .val (.int p6), .val (.long ((p1 >>> ((11 : Int32) &&& 31)).toInt64)), .second, .val (.long ((p2 >>> ((11 : Int32) &&& 31)).toInt64)), .second, .unset, .unset, .unset, .unset, .unset, .unset, .unset, .unset, .unset, .unset, .unset, .unset] [(.int p3)])) _
    refine XS.bipush X0.here hx rfl (hb hby at_15) ?_
    show Steps p.tables e below (s₁.setTop (mkF m 17 #[.val (.int p1), .val (.int p2), .val (.int p3), .val (.int p4), .val (.int p5), .val (.int p6), .val (.long ((p1 >>> ((11 : Int32) &&& 31)).toInt64)), .second, .val (.long ((p2 >>> ((11 : Int32) &&& 31)).toInt64)), .second, .unset, .unset, .unset, .unset, .unset, .unset, .unset, .unset, .unset, .unset, .unset, .unset] [(.int (11 : Int32)), (.int p3)])) _
    refine XS.ishr X0.here hx rfl (hb hby at_17) rfl ?_
    show Steps p.tables e below (s₁.setTop (mkF m 18 #[.val (.int p1), .val (.int p2), .val (.int p3), .val (.int p4), .val (.int p5), .val (.int p6), .val (.long ((p1 >>> ((11 : Int32) &&& 31)).toInt64)), .second, .val (.long ((p2 >>> ((11 : Int32) &&& 31)).toInt64)), .second, .unset, .unset, .unset, .unset, .unset, .unset, .unset, .unset, .unset, .unset, .unset, .unset] [(.int (p3 >>> ((11 : Int32) &&& 31)))])) _
    refine XS.i2l X0.here hx rfl (hb hby at_18) rfl ?_
    show Steps p.tables e below (s₁.setTop (mkF m 19 #[.val (.int p1), .val (.int p2), .val (.int p3), .val (.int p4), .val (.int p5), .val (.int p6), .val (.long ((p1 >>> ((11 : Int32) &&& 31)).toInt64)), .second, .val (.long ((p2 >>> ((11 : Int32) &&& 31)).toInt64)), .second, .unset, .unset, .unset, .unset, .unset, .unset, .unset, .unset, .unset, .unset, .unset, .unset] [(.long ((p3 >>> ((11 : Int32) &&& 31)).toInt64))])) _
    refine XS.lstore X0.here hx rfl (hb hby at_19) rfl (l' := #[.val (.int p1), .val (.int p2), .val (.int p3), .val (.int p4), .val (.int p5), .val (.int p6), .val (.long ((p1 >>> ((11 : Int32) &&& 31)).toInt64)), .second, .val (.long ((p2 >>> ((11 : Int32) &&& 31)).toInt64)), .second, .val (.long ((p3 >>> ((11 : Int32) &&& 31)).toInt64)), .second, .unset, .unset, .unset, .unset, .unset, .unset, .unset, .unset, .unset, .unset]) rfl ?_
    show Steps p.tables e below (s₁.setTop (mkF m 21 #[.val (.int p1), .val (.int p2), .val (.int p3), .val (.int p4), .val (.int p5), .val (.int p6), .val (.long ((p1 >>> ((11 : Int32) &&& 31)).toInt64)), .second, .val (.long ((p2 >>> ((11 : Int32) &&& 31)).toInt64)), .second, .val (.long ((p3 >>> ((11 : Int32) &&& 31)).toInt64)), .second, .unset, .unset, .unset, .unset, .unset, .unset, .unset, .unset, .unset, .unset] [])) _
    refine XS.iloadN X0.here hx rfl (hb hby at_21) rfl ?_
    show Steps p.tables e below (s₁.setTop (mkF m 22 #[.val (.int p1), .val (.int p2), .val (.int p3), .val (.int p4), .val (.int p5), .val (.int p6), .val (.long ((p1 >>> ((11 : Int32) &&& 31)).toInt64)), .second, .val (.long ((p2 >>> ((11 : Int32) &&& 31)).toInt64)), .second, .val (.long ((p3 >>> ((11 : Int32) &&& 31)).toInt64)), .second, .unset, .unset, .unset, .unset, .unset, .unset, .unset, .unset, .unset, .unset] [(.int p4)])) _
    refine XS.bipush X0.here hx rfl (hb hby at_22) ?_
    show Steps p.tables e below (s₁.setTop (mkF m 24 #[.val (.int p1), .val (.int p2), .val (.int p3), .val (.int p4), .val (.int p5), .val (.int p6), .val (.long ((p1 >>> ((11 : Int32) &&& 31)).toInt64)), .second, .val (.long ((p2 >>> ((11 : Int32) &&& 31)).toInt64)), .second, .val (.long ((p3 >>> ((11 : Int32) &&& 31)).toInt64)), .second, .unset, .unset, .unset, .unset, .unset, .unset, .unset, .unset, .unset, .unset] [(.int (11 : Int32)), (.int p4)])) _
    refine XS.ishr X0.here hx rfl (hb hby at_24) rfl ?_
    show Steps p.tables e below (s₁.setTop (mkF m 25 #[.val (.int p1), .val (.int p2), .val (.int p3), .val (.int p4), .val (.int p5), .val (.int p6), .val (.long ((p1 >>> ((11 : Int32) &&& 31)).toInt64)), .second, .val (.long ((p2 >>> ((11 : Int32) &&& 31)).toInt64)), .second, .val (.long ((p3 >>> ((11 : Int32) &&& 31)).toInt64)), .second, .unset, .unset, .unset, .unset, .unset, .unset, .unset, .unset, .unset, .unset] [(.int (p4 >>> ((11 : Int32) &&& 31)))])) _
    refine XS.i2l X0.here hx rfl (hb hby at_25) rfl ?_
    show Steps p.tables e below (s₁.setTop (mkF m 26 #[.val (.int p1), .val (.int p2), .val (.int p3), .val (.int p4), .val (.int p5), .val (.int p6), .val (.long ((p1 >>> ((11 : Int32) &&& 31)).toInt64)), .second, .val (.long ((p2 >>> ((11 : Int32) &&& 31)).toInt64)), .second, .val (.long ((p3 >>> ((11 : Int32) &&& 31)).toInt64)), .second, .unset, .unset, .unset, .unset, .unset, .unset, .unset, .unset, .unset, .unset] [(.long ((p4 >>> ((11 : Int32) &&& 31)).toInt64))])) _
    refine XS.lstore X0.here hx rfl (hb hby at_26) rfl (l' := #[.val (.int p1), .val (.int p2), .val (.int p3), .val (.int p4), .val (.int p5), .val (.int p6), .val (.long ((p1 >>> ((11 : Int32) &&& 31)).toInt64)), .second, .val (.long ((p2 >>> ((11 : Int32) &&& 31)).toInt64)), .second, .val (.long ((p3 >>> ((11 : Int32) &&& 31)).toInt64)), .second, .val (.long ((p4 >>> ((11 : Int32) &&& 31)).toInt64)), .second, .unset, .unset, .unset, .unset, .unset, .unset, .unset, .unset]) rfl ?_
    show Steps p.tables e below (s₁.setTop (mkF m 28 #[.val (.int p1), .val (.int p2), .val (.int p3), .val (.int p4), .val (.int p5), .val (.int p6), .val (.long ((p1 >>> ((11 : Int32) &&& 31)).toInt64)), .second, .val (.long ((p2 >>> ((11 : Int32) &&& 31)).toInt64)), .second, .val (.long ((p3 >>> ((11 : Int32) &&& 31)).toInt64)), .second, .val (.long ((p4 >>> ((11 : Int32) &&& 31)).toInt64)), .second, .unset, .unset, .unset, .unset, .unset, .unset, .unset, .unset] [])) _
    refine XS.iload X0.here hx rfl (hb hby at_28) rfl ?_
    show Steps p.tables e below (s₁.setTop (mkF m 30 #[.val (.int p1), .val (.int p2), .val (.int p3), .val (.int p4), .val (.int p5), .val (.int p6), .val (.long ((p1 >>> ((11 : Int32) &&& 31)).toInt64)), .second, .val (.long ((p2 >>> ((11 : Int32) &&& 31)).toInt64)), .second, .val (.long ((p3 >>> ((11 : Int32) &&& 31)).toInt64)), .second, .val (.long ((p4 >>> ((11 : Int32) &&& 31)).toInt64)), .second, .unset, .unset, .unset, .unset, .unset, .unset, .unset, .unset] [(.int p5)])) _
    refine XS.bipush X0.here hx rfl (hb hby at_30) ?_
    show Steps p.tables e below (s₁.setTop (mkF m 32 #[.val (.int p1), .val (.int p2), .val (.int p3), .val (.int p4), .val (.int p5), .val (.int p6), .val (.long ((p1 >>> ((11 : Int32) &&& 31)).toInt64)), .second, .val (.long ((p2 >>> ((11 : Int32) &&& 31)).toInt64)), .second, .val (.long ((p3 >>> ((11 : Int32) &&& 31)).toInt64)), .second, .val (.long ((p4 >>> ((11 : Int32) &&& 31)).toInt64)), .second, .unset, .unset, .unset, .unset, .unset, .unset, .unset, .unset] [(.int (11 : Int32)), (.int p5)])) _
    refine XS.ishr X0.here hx rfl (hb hby at_32) rfl ?_
    show Steps p.tables e below (s₁.setTop (mkF m 33 #[.val (.int p1), .val (.int p2), .val (.int p3), .val (.int p4), .val (.int p5), .val (.int p6), .val (.long ((p1 >>> ((11 : Int32) &&& 31)).toInt64)), .second, .val (.long ((p2 >>> ((11 : Int32) &&& 31)).toInt64)), .second, .val (.long ((p3 >>> ((11 : Int32) &&& 31)).toInt64)), .second, .val (.long ((p4 >>> ((11 : Int32) &&& 31)).toInt64)), .second, .unset, .unset, .unset, .unset, .unset, .unset, .unset, .unset] [(.int (p5 >>> ((11 : Int32) &&& 31)))])) _
    refine XS.i2l X0.here hx rfl (hb hby at_33) rfl ?_
    show Steps p.tables e below (s₁.setTop (mkF m 34 #[.val (.int p1), .val (.int p2), .val (.int p3), .val (.int p4), .val (.int p5), .val (.int p6), .val (.long ((p1 >>> ((11 : Int32) &&& 31)).toInt64)), .second, .val (.long ((p2 >>> ((11 : Int32) &&& 31)).toInt64)), .second, .val (.long ((p3 >>> ((11 : Int32) &&& 31)).toInt64)), .second, .val (.long ((p4 >>> ((11 : Int32) &&& 31)).toInt64)), .second, .unset, .unset, .unset, .unset, .unset, .unset, .unset, .unset] [(.long ((p5 >>> ((11 : Int32) &&& 31)).toInt64))])) _
    refine XS.lstore X0.here hx rfl (hb hby at_34) rfl (l' := #[.val (.int p1), .val (.int p2), .val (.int p3), .val (.int p4), .val (.int p5), .val (.int p6), .val (.long ((p1 >>> ((11 : Int32) &&& 31)).toInt64)), .second, .val (.long ((p2 >>> ((11 : Int32) &&& 31)).toInt64)), .second, .val (.long ((p3 >>> ((11 : Int32) &&& 31)).toInt64)), .second, .val (.long ((p4 >>> ((11 : Int32) &&& 31)).toInt64)), .second, .val (.long ((p5 >>> ((11 : Int32) &&& 31)).toInt64)), .second, .unset, .unset, .unset, .unset, .unset, .unset]) rfl ?_
    show Steps p.tables e below (s₁.setTop (mkF m 36 #[.val (.int p1), .val (.int p2), .val (.int p3), .val (.int p4), .val (.int p5), .val (.int p6), .val (.long ((p1 >>> ((11 : Int32) &&& 31)).toInt64)), .second, .val (.long ((p2 >>> ((11 : Int32) &&& 31)).toInt64)), .second, .val (.long ((p3 >>> ((11 : Int32) &&& 31)).toInt64)), .second, .val (.long ((p4 >>> ((11 : Int32) &&& 31)).toInt64)), .second, .val (.long ((p5 >>> ((11 : Int32) &&& 31)).toInt64)), .second, .unset, .unset, .unset, .unset, .unset, .unset] [])) _
    refine XS.iload X0.here hx rfl (hb hby at_36) rfl ?_
    show Steps p.tables e below (s₁.setTop (mkF m 38 #[.val (.int p1), .val (.int p2), .val (.int p3), .val (.int p4), .val (.int p5), .val (.int p6), .val (.long ((p1 >>> ((11 : Int32) &&& 31)).toInt64)), .second, .val (.long ((p2 >>> ((11 : Int32) &&& 31)).toInt64)), .second, .val (.long ((p3 >>> ((11 : Int32) &&& 31)).toInt64)), .second, .val (.long ((p4 >>> ((11 : Int32) &&& 31)).toInt64)), .second, .val (.long ((p5 >>> ((11 : Int32) &&& 31)).toInt64)), .second, .unset, .unset, .unset, .unset, .unset, .unset] [(.int p6)])) _
    refine XS.bipush X0.here hx rfl (hb hby at_38) ?_
    show Steps p.tables e below (s₁.setTop (mkF m 40 #[.val (.int p1), .val (.int p2), .val (.int p3), .val (.int p4), .val (.int p5), .val (.int p6), .val (.long ((p1 >>> ((11 : Int32) &&& 31)).toInt64)), .second, .val (.long ((p2 >>> ((11 : Int32) &&& 31)).toInt64)), .second, .val (.long ((p3 >>> ((11 : Int32) &&& 31)).toInt64)), .second, .val (.long ((p4 >>> ((11 : Int32) &&& 31)).toInt64)), .second, .val (.long ((p5 >>> ((11 : Int32) &&& 31)).toInt64)), .second, .unset, .unset, .unset, .unset, .unset, .unset] [(.int (11 : Int32)), (.int p6)])) _
    refine XS.ishr X0.here hx rfl (hb hby at_40) rfl ?_
    show Steps p.tables e below (s₁.setTop (mkF m 41 #[.val (.int p1), .val (.int p2), .val (.int p3), .val (.int p4), .val (.int p5), .val (.int p6), .val (.long ((p1 >>> ((11 : Int32) &&& 31)).toInt64)), .second, .val (.long ((p2 >>> ((11 : Int32) &&& 31)).toInt64)), .second, .val (.long ((p3 >>> ((11 : Int32) &&& 31)).toInt64)), .second, .val (.long ((p4 >>> ((11 : Int32) &&& 31)).toInt64)), .second, .val (.long ((p5 >>> ((11 : Int32) &&& 31)).toInt64)), .second, .unset, .unset, .unset, .unset, .unset, .unset] [(.int (p6 >>> ((11 : Int32) &&& 31)))])) _
    refine XS.i2l X0.here hx rfl (hb hby at_41) rfl ?_
    show Steps p.tables e below (s₁.setTop (mkF m 42 #[.val (.int p1), .val (.int p2), .val (.int p3), .val (.int p4), .val (.int p5), .val (.int p6), .val (.long ((p1 >>> ((11 : Int32) &&& 31)).toInt64)), .second, .val (.long ((p2 >>> ((11 : Int32) &&& 31)).toInt64)), .second, .val (.long ((p3 >>> ((11 : Int32) &&& 31)).toInt64)), .second, .val (.long ((p4 >>> ((11 : Int32) &&& 31)).toInt64)), .second, .val (.long ((p5 >>> ((11 : Int32) &&& 31)).toInt64)), .second, .unset, .unset, .unset, .unset, .unset, .unset] [(.long ((p6 >>> ((11 : Int32) &&& 31)).toInt64))])) _
    refine XS.lstore X0.here hx rfl (hb hby at_42) rfl (l' := #[.val (.int p1), .val (.int p2), .val (.int p3), .val (.int p4), .val (.int p5), .val (.int p6), .val (.long ((p1 >>> ((11 : Int32) &&& 31)).toInt64)), .second, .val (.long ((p2 >>> ((11 : Int32) &&& 31)).toInt64)), .second, .val (.long ((p3 >>> ((11 : Int32) &&& 31)).toInt64)), .second, .val (.long ((p4 >>> ((11 : Int32) &&& 31)).toInt64)), .second, .val (.long ((p5 >>> ((11 : Int32) &&& 31)).toInt64)), .second, .val (.long ((p6 >>> ((11 : Int32) &&& 31)).toInt64)), .second, .unset, .unset, .unset, .unset]) rfl ?_
    show Steps p.tables e below (s₁.setTop (mkF m 44 #[.val (.int p1), .val (.int p2), .val (.int p3), .val (.int p4), .val (.int p5), .val (.int p6), .val (.long ((p1 >>> ((11 : Int32) &&& 31)).toInt64)), .second, .val (.long ((p2 >>> ((11 : Int32) &&& 31)).toInt64)), .second, .val (.long ((p3 >>> ((11 : Int32) &&& 31)).toInt64)), .second, .val (.long ((p4 >>> ((11 : Int32) &&& 31)).toInt64)), .second, .val (.long ((p5 >>> ((11 : Int32) &&& 31)).toInt64)), .second, .val (.long ((p6 >>> ((11 : Int32) &&& 31)).toInt64)), .second, .unset, .unset, .unset, .unset] [])) _
    refine XS.lload X0.here hx rfl (hb hby at_44) rfl ?_
    show Steps p.tables e below (s₁.setTop (mkF m 46 #[.val (.int p1), .val (.int p2), .val (.int p3), .val (.int p4), .val (.int p5), .val (.int p6), .val (.long ((p1 >>> ((11 : Int32) &&& 31)).toInt64)), .second, .val (.long ((p2 >>> ((11 : Int32) &&& 31)).toInt64)), .second, .val (.long ((p3 >>> ((11 : Int32) &&& 31)).toInt64)), .second, .val (.long ((p4 >>> ((11 : Int32) &&& 31)).toInt64)), .second, .val (.long ((p5 >>> ((11 : Int32) &&& 31)).toInt64)), .second, .val (.long ((p6 >>> ((11 : Int32) &&& 31)).toInt64)), .second, .unset, .unset, .unset, .unset] [(.long ((p1 >>> ((11 : Int32) &&& 31)).toInt64))])) _
    refine XS.l2dS X0.here hx rfl (hb hby at_46) rfl rfl ?_
    show Steps p.tables e below (s₁.setTop (mkF m 47 #[.val (.int p1), .val (.int p2), .val (.int p3), .val (.int p4), .val (.int p5), .val (.int p6), .val (.long ((p1 >>> ((11 : Int32) &&& 31)).toInt64)), .second, .val (.long ((p2 >>> ((11 : Int32) &&& 31)).toInt64)), .second, .val (.long ((p3 >>> ((11 : Int32) &&& 31)).toInt64)), .second, .val (.long ((p4 >>> ((11 : Int32) &&& 31)).toInt64)), .second, .val (.long ((p5 >>> ((11 : Int32) &&& 31)).toInt64)), .second, .val (.long ((p6 >>> ((11 : Int32) &&& 31)).toInt64)), .second, .unset, .unset, .unset, .unset] [(.double (FP.l2d ((p1 >>> ((11 : Int32) &&& 31)).toInt64)))])) _
    refine XS.lload X0.here hx rfl (hb hby at_47) rfl ?_
    show Steps p.tables e below (s₁.setTop (mkF m 49 #[.val (.int p1), .val (.int p2), .val (.int p3), .val (.int p4), .val (.int p5), .val (.int p6), .val (.long ((p1 >>> ((11 : Int32) &&& 31)).toInt64)), .second, .val (.long ((p2 >>> ((11 : Int32) &&& 31)).toInt64)), .second, .val (.long ((p3 >>> ((11 : Int32) &&& 31)).toInt64)), .second, .val (.long ((p4 >>> ((11 : Int32) &&& 31)).toInt64)), .second, .val (.long ((p5 >>> ((11 : Int32) &&& 31)).toInt64)), .second, .val (.long ((p6 >>> ((11 : Int32) &&& 31)).toInt64)), .second, .unset, .unset, .unset, .unset] [(.long ((p2 >>> ((11 : Int32) &&& 31)).toInt64)), (.double (FP.l2d ((p1 >>> ((11 : Int32) &&& 31)).toInt64)))])) _
    refine XS.l2dS X0.here hx rfl (hb hby at_49) rfl rfl ?_
    show Steps p.tables e below (s₁.setTop (mkF m 50 #[.val (.int p1), .val (.int p2), .val (.int p3), .val (.int p4), .val (.int p5), .val (.int p6), .val (.long ((p1 >>> ((11 : Int32) &&& 31)).toInt64)), .second, .val (.long ((p2 >>> ((11 : Int32) &&& 31)).toInt64)), .second, .val (.long ((p3 >>> ((11 : Int32) &&& 31)).toInt64)), .second, .val (.long ((p4 >>> ((11 : Int32) &&& 31)).toInt64)), .second, .val (.long ((p5 >>> ((11 : Int32) &&& 31)).toInt64)), .second, .val (.long ((p6 >>> ((11 : Int32) &&& 31)).toInt64)), .second, .unset, .unset, .unset, .unset] [(.double (FP.l2d ((p2 >>> ((11 : Int32) &&& 31)).toInt64))), (.double (FP.l2d ((p1 >>> ((11 : Int32) &&& 31)).toInt64)))])) _
    refine XS.lload X0.here hx rfl (hb hby at_50) rfl ?_
    show Steps p.tables e below (s₁.setTop (mkF m 52 #[.val (.int p1), .val (.int p2), .val (.int p3), .val (.int p4), .val (.int p5), .val (.int p6), .val (.long ((p1 >>> ((11 : Int32) &&& 31)).toInt64)), .second, .val (.long ((p2 >>> ((11 : Int32) &&& 31)).toInt64)), .second, .val (.long ((p3 >>> ((11 : Int32) &&& 31)).toInt64)), .second, .val (.long ((p4 >>> ((11 : Int32) &&& 31)).toInt64)), .second, .val (.long ((p5 >>> ((11 : Int32) &&& 31)).toInt64)), .second, .val (.long ((p6 >>> ((11 : Int32) &&& 31)).toInt64)), .second, .unset, .unset, .unset, .unset] [(.long ((p3 >>> ((11 : Int32) &&& 31)).toInt64)), (.double (FP.l2d ((p2 >>> ((11 : Int32) &&& 31)).toInt64))), (.double (FP.l2d ((p1 >>> ((11 : Int32) &&& 31)).toInt64)))])) _
    refine XS.l2dS X0.here hx rfl (hb hby at_52) rfl rfl ?_
    show Steps p.tables e below (s₁.setTop (mkF m 53 #[.val (.int p1), .val (.int p2), .val (.int p3), .val (.int p4), .val (.int p5), .val (.int p6), .val (.long ((p1 >>> ((11 : Int32) &&& 31)).toInt64)), .second, .val (.long ((p2 >>> ((11 : Int32) &&& 31)).toInt64)), .second, .val (.long ((p3 >>> ((11 : Int32) &&& 31)).toInt64)), .second, .val (.long ((p4 >>> ((11 : Int32) &&& 31)).toInt64)), .second, .val (.long ((p5 >>> ((11 : Int32) &&& 31)).toInt64)), .second, .val (.long ((p6 >>> ((11 : Int32) &&& 31)).toInt64)), .second, .unset, .unset, .unset, .unset] [(.double (FP.l2d ((p3 >>> ((11 : Int32) &&& 31)).toInt64))), (.double (FP.l2d ((p2 >>> ((11 : Int32) &&& 31)).toInt64))), (.double (FP.l2d ((p1 >>> ((11 : Int32) &&& 31)).toInt64)))])) _
    refine XS.lload X0.here hx rfl (hb hby at_53) rfl ?_
    show Steps p.tables e below (s₁.setTop (mkF m 55 #[.val (.int p1), .val (.int p2), .val (.int p3), .val (.int p4), .val (.int p5), .val (.int p6), .val (.long ((p1 >>> ((11 : Int32) &&& 31)).toInt64)), .second, .val (.long ((p2 >>> ((11 : Int32) &&& 31)).toInt64)), .second, .val (.long ((p3 >>> ((11 : Int32) &&& 31)).toInt64)), .second, .val (.long ((p4 >>> ((11 : Int32) &&& 31)).toInt64)), .second, .val (.long ((p5 >>> ((11 : Int32) &&& 31)).toInt64)), .second, .val (.long ((p6 >>> ((11 : Int32) &&& 31)).toInt64)), .second, .unset, .unset, .unset, .unset] [(.long ((p4 >>> ((11 : Int32) &&& 31)).toInt64)), (.double (FP.l2d ((p3 >>> ((11 : Int32) &&& 31)).toInt64))), (.double (FP.l2d ((p2 >>> ((11 : Int32) &&& 31)).toInt64))), (.double (FP.l2d ((p1 >>> ((11 : Int32) &&& 31)).toInt64)))])) _
    refine XS.l2dS X0.here hx rfl (hb hby at_55) rfl rfl ?_
    show Steps p.tables e below (s₁.setTop (mkF m 56 #[.val (.int p1), .val (.int p2), .val (.int p3), .val (.int p4), .val (.int p5), .val (.int p6), .val (.long ((p1 >>> ((11 : Int32) &&& 31)).toInt64)), .second, .val (.long ((p2 >>> ((11 : Int32) &&& 31)).toInt64)), .second, .val (.long ((p3 >>> ((11 : Int32) &&& 31)).toInt64)), .second, .val (.long ((p4 >>> ((11 : Int32) &&& 31)).toInt64)), .second, .val (.long ((p5 >>> ((11 : Int32) &&& 31)).toInt64)), .second, .val (.long ((p6 >>> ((11 : Int32) &&& 31)).toInt64)), .second, .unset, .unset, .unset, .unset] [(.double (FP.l2d ((p4 >>> ((11 : Int32) &&& 31)).toInt64))), (.double (FP.l2d ((p3 >>> ((11 : Int32) &&& 31)).toInt64))), (.double (FP.l2d ((p2 >>> ((11 : Int32) &&& 31)).toInt64))), (.double (FP.l2d ((p1 >>> ((11 : Int32) &&& 31)).toInt64)))])) _
    refine XS.lload X0.here hx rfl (hb hby at_56) rfl ?_
    show Steps p.tables e below (s₁.setTop (mkF m 58 #[.val (.int p1), .val (.int p2), .val (.int p3), .val (.int p4), .val (.int p5), .val (.int p6), .val (.long ((p1 >>> ((11 : Int32) &&& 31)).toInt64)), .second, .val (.long ((p2 >>> ((11 : Int32) &&& 31)).toInt64)), .second, .val (.long ((p3 >>> ((11 : Int32) &&& 31)).toInt64)), .second, .val (.long ((p4 >>> ((11 : Int32) &&& 31)).toInt64)), .second, .val (.long ((p5 >>> ((11 : Int32) &&& 31)).toInt64)), .second, .val (.long ((p6 >>> ((11 : Int32) &&& 31)).toInt64)), .second, .unset, .unset, .unset, .unset] [(.long ((p5 >>> ((11 : Int32) &&& 31)).toInt64)), (.double (FP.l2d ((p4 >>> ((11 : Int32) &&& 31)).toInt64))), (.double (FP.l2d ((p3 >>> ((11 : Int32) &&& 31)).toInt64))), (.double (FP.l2d ((p2 >>> ((11 : Int32) &&& 31)).toInt64))), (.double (FP.l2d ((p1 >>> ((11 : Int32) &&& 31)).toInt64)))])) _
    refine XS.l2dS X0.here hx rfl (hb hby at_58) rfl rfl ?_
    show Steps p.tables e below (s₁.setTop (mkF m 59 #[.val (.int p1), .val (.int p2), .val (.int p3), .val (.int p4), .val (.int p5), .val (.int p6), .val (.long ((p1 >>> ((11 : Int32) &&& 31)).toInt64)), .second, .val (.long ((p2 >>> ((11 : Int32) &&& 31)).toInt64)), .second, .val (.long ((p3 >>> ((11 : Int32) &&& 31)).toInt64)), .second, .val (.long ((p4 >>> ((11 : Int32) &&& 31)).toInt64)), .second, .val (.long ((p5 >>> ((11 : Int32) &&& 31)).toInt64)), .second, .val (.long ((p6 >>> ((11 : Int32) &&& 31)).toInt64)), .second, .unset, .unset, .unset, .unset] [(.double (FP.l2d ((p5 >>> ((11 : Int32) &&& 31)).toInt64))), (.double (FP.l2d ((p4 >>> ((11 : Int32) &&& 31)).toInt64))), (.double (FP.l2d ((p3 >>> ((11 : Int32) &&& 31)).toInt64))), (.double (FP.l2d ((p2 >>> ((11 : Int32) &&& 31)).toInt64))), (.double (FP.l2d ((p1 >>> ((11 : Int32) &&& 31)).toInt64)))])) _
    refine XS.lload X0.here hx rfl (hb hby at_59) rfl ?_
    show Steps p.tables e below (s₁.setTop (mkF m 61 #[.val (.int p1), .val (.int p2), .val (.int p3), .val (.int p4), .val (.int p5), .val (.int p6), .val (.long ((p1 >>> ((11 : Int32) &&& 31)).toInt64)), .second, .val (.long ((p2 >>> ((11 : Int32) &&& 31)).toInt64)), .second, .val (.long ((p3 >>> ((11 : Int32) &&& 31)).toInt64)), .second, .val (.long ((p4 >>> ((11 : Int32) &&& 31)).toInt64)), .second, .val (.long ((p5 >>> ((11 : Int32) &&& 31)).toInt64)), .second, .val (.long ((p6 >>> ((11 : Int32) &&& 31)).toInt64)), .second, .unset, .unset, .unset, .unset] [(.long ((p6 >>> ((11 : Int32) &&& 31)).toInt64)), (.double (FP.l2d ((p5 >>> ((11 : Int32) &&& 31)).toInt64))), (.double (FP.l2d ((p4 >>> ((11 : Int32) &&& 31)).toInt64))), (.double (FP.l2d ((p3 >>> ((11 : Int32) &&& 31)).toInt64))), (.double (FP.l2d ((p2 >>> ((11 : Int32) &&& 31)).toInt64))), (.double (FP.l2d ((p1 >>> ((11 : Int32) &&& 31)).toInt64)))])) _
    refine XS.l2dS X0.here hx rfl (hb hby at_61) rfl rfl ?_
    show Steps p.tables e below (s₁.setTop (mkF m 62 #[.val (.int p1), .val (.int p2), .val (.int p3), .val (.int p4), .val (.int p5), .val (.int p6), .val (.long ((p1 >>> ((11 : Int32) &&& 31)).toInt64)), .second, .val (.long ((p2 >>> ((11 : Int32) &&& 31)).toInt64)), .second, .val (.long ((p3 >>> ((11 : Int32) &&& 31)).toInt64)), .second, .val (.long ((p4 >>> ((11 : Int32) &&& 31)).toInt64)), .second, .val (.long ((p5 >>> ((11 : Int32) &&& 31)).toInt64)), .second, .val (.long ((p6 >>> ((11 : Int32) &&& 31)).toInt64)), .second, .unset, .unset, .unset, .unset] [(.double (FP.l2d ((p6 >>> ((11 : Int32) &&& 31)).toInt64))), (.double (FP.l2d ((p5 >>> ((11 : Int32) &&& 31)).toInt64))), (.double (FP.l2d ((p4 >>> ((11 : Int32) &&& 31)).toInt64))), (.double (FP.l2d ((p3 >>> ((11 : Int32) &&& 31)).toInt64))), (.double (FP.l2d ((p2 >>> ((11 : Int32) &&& 31)).toInt64))), (.double (FP.l2d ((p1 >>> ((11 : Int32) &&& 31)).toInt64)))])) _
    refine st_q1 _ ?_
    show Steps p.tables e below (T_q1.setTop (mkF m 65 #[.val (.int p1), .val (.int p2), .val (.int p3), .val (.int p4), .val (.int p5), .val (.int p6), .val (.long ((p1 >>> ((11 : Int32) &&& 31)).toInt64)), .second, .val (.long ((p2 >>> ((11 : Int32) &&& 31)).toInt64)), .second, .val (.long ((p3 >>> ((11 : Int32) &&& 31)).toInt64)), .second, .val (.long ((p4 >>> ((11 : Int32) &&& 31)).toInt64)), .second, .val (.long ((p5 >>> ((11 : Int32) &&& 31)).toInt64)), .second, .val (.long ((p6 >>> ((11 : Int32) &&& 31)).toInt64)), .second, .unset, .unset, .unset, .unset] [(.double (G1 (FP.l2d ((p1 >>> ((11 : Int32) &&& 31)).toInt64)) (FP.l2d ((p2 >>> ((11 : Int32) &&& 31)).toInt64)) (FP.l2d ((p3 >>> ((11 : Int32) &&& 31)).toInt64)) (FP.l2d ((p4 >>> ((11 : Int32) &&& 31)).toInt64)) (FP.l2d ((p5 >>> ((11 : Int32) &&& 31)).toInt64)) (FP.l2d ((p6 >>> ((11 : Int32) &&& 31)).toInt64))))])) _
    refine XS.dstore X_q1.here hx rfl (hb hby at_65) rfl (l' := #[.val (.int p1), .val (.int p2), .val (.int p3), .val (.int p4), .val (.int p5), .val (.int p6), .val (.long ((p1 >>> ((11 : Int32) &&& 31)).toInt64)), .second, .val (.long ((p2 >>> ((11 : Int32) &&& 31)).toInt64)), .second, .val (.long ((p3 >>> ((11 : Int32) &&& 31)).toInt64)), .second, .val (.long ((p4 >>> ((11 : Int32) &&& 31)).toInt64)), .second, .val (.long ((p5 >>> ((11 : Int32) &&& 31)).toInt64)), .second, .val (.long ((p6 >>> ((11 : Int32) &&& 31)).toInt64)), .second, .val (.double (G1 (FP.l2d ((p1 >>> ((11 : Int32) &&& 31)).toInt64)) (FP.l2d ((p2 >>> ((11 : Int32) &&& 31)).toInt64)) (FP.l2d ((p3 >>> ((11 : Int32) &&& 31)).toInt64)) (FP.l2d ((p4 >>> ((11 : Int32) &&& 31)).toInt64)) (FP.l2d ((p5 >>> ((11 : Int32) &&& 31)).toInt64)) (FP.l2d ((p6 >>> ((11 : Int32) &&& 31)).toInt64)))), .second, .unset, .unset]) rfl ?_
    show Steps p.tables e below (T_q1.setTop (mkF m 67 #[.val (.int p1), .val (.int p2), .val (.int p3), .val (.int p4), .val (.int p5), .val (.int p6), .val (.long ((p1 >>> ((11 : Int32) &&& 31)).toInt64)), .second, .val (.long ((p2 >>> ((11 : Int32) &&& 31)).toInt64)), .second, .val (.long ((p3 >>> ((11 : Int32) &&& 31)).toInt64)), .second, .val (.long ((p4 >>> ((11 : Int32) &&& 31)).toInt64)), .second, .val (.long ((p5 >>> ((11 : Int32) &&& 31)).toInt64)), .second, .val (.long ((p6 >>> ((11 : Int32) &&& 31)).toInt64)), .second, .val (.double (G1 (FP.l2d ((p1 >>> ((11 : Int32) &&& 31)).toInt64)) (FP.l2d ((p2 >>> ((11 : Int32) &&& 31)).toInt64)) (FP.l2d ((p3 >>> ((11 : Int32) &&& 31)).toInt64)) (FP.l2d ((p4 >>> ((11 : Int32) &&& 31)).toInt64)) (FP.l2d ((p5 >>> ((11 : Int32) &&& 31)).toInt64)) (FP.l2d ((p6 >>> ((11 : Int32) &&& 31)).toInt64)))), .second, .unset, .unset] [])) _
    refine XS.lload X_q1.here hx rfl (hb hby at_67) rfl ?_
    show Steps p.tables e below (T_q1.setTop (mkF m 69 #[.val (.int p1), .val (.int p2), .val (.int p3), .val (.int p4), .val (.int p5), .val (.int p6), .val (.long ((p1 >>> ((11 : Int32) &&& 31)).toInt64)), .second, .val (.long ((p2 >>> ((11 : Int32) &&& 31)).toInt64)), .second, .val (.long ((p3 >>> ((11 : Int32) &&& 31)).toInt64)), .second, .val (.long ((p4 >>> ((11 : Int32) &&& 31)).toInt64)), .second, .val (.long ((p5 >>> ((11 : Int32) &&& 31)).toInt64)), .second, .val (.long ((p6 >>> ((11 : Int32) &&& 31)).toInt64)), .second, .val (.double (G1 (FP.l2d ((p1 >>> ((11 : Int32) &&& 31)).toInt64)) (FP.l2d ((p2 >>> ((11 : Int32) &&& 31)).toInt64)) (FP.l2d ((p3 >>> ((11 : Int32) &&& 31)).toInt64)) (FP.l2d ((p4 >>> ((11 : Int32) &&& 31)).toInt64)) (FP.l2d ((p5 >>> ((11 : Int32) &&& 31)).toInt64)) (FP.l2d ((p6 >>> ((11 : Int32) &&& 31)).toInt64)))), .second, .unset, .unset] [(.long ((p1 >>> ((11 : Int32) &&& 31)).toInt64))])) _
    refine XS.lload X_q1.here hx rfl (hb hby at_69) rfl ?_
    show Steps p.tables e below (T_q1.setTop (mkF m 71 #[.val (.int p1), .val (.int p2), .val (.int p3), .val (.int p4), .val (.int p5), .val (.int p6), .val (.long ((p1 >>> ((11 : Int32) &&& 31)).toInt64)), .second, .val (.long ((p2 >>> ((11 : Int32) &&& 31)).toInt64)), .second, .val (.long ((p3 >>> ((11 : Int32) &&& 31)).toInt64)), .second, .val (.long ((p4 >>> ((11 : Int32) &&& 31)).toInt64)), .second, .val (.long ((p5 >>> ((11 : Int32) &&& 31)).toInt64)), .second, .val (.long ((p6 >>> ((11 : Int32) &&& 31)).toInt64)), .second, .val (.double (G1 (FP.l2d ((p1 >>> ((11 : Int32) &&& 31)).toInt64)) (FP.l2d ((p2 >>> ((11 : Int32) &&& 31)).toInt64)) (FP.l2d ((p3 >>> ((11 : Int32) &&& 31)).toInt64)) (FP.l2d ((p4 >>> ((11 : Int32) &&& 31)).toInt64)) (FP.l2d ((p5 >>> ((11 : Int32) &&& 31)).toInt64)) (FP.l2d ((p6 >>> ((11 : Int32) &&& 31)).toInt64)))), .second, .unset, .unset] [(.long ((p4 >>> ((11 : Int32) &&& 31)).toInt64)), (.long ((p1 >>> ((11 : Int32) &&& 31)).toInt64))])) _
    refine XS.lmul X_q1.here hx rfl (hb hby at_71) rfl ?_
    show Steps p.tables e below (T_q1.setTop (mkF m 72 #[.val (.int p1), .val (.int p2), .val (.int p3), .val (.int p4), .val (.int p5), .val (.int p6), .val (.long ((p1 >>> ((11 : Int32) &&& 31)).toInt64)), .second, .val (.long ((p2 >>> ((11 : Int32) &&& 31)).toInt64)), .second, .val (.long ((p3 >>> ((11 : Int32) &&& 31)).toInt64)), .second, .val (.long ((p4 >>> ((11 : Int32) &&& 31)).toInt64)), .second, .val (.long ((p5 >>> ((11 : Int32) &&& 31)).toInt64)), .second, .val (.long ((p6 >>> ((11 : Int32) &&& 31)).toInt64)), .second, .val (.double (G1 (FP.l2d ((p1 >>> ((11 : Int32) &&& 31)).toInt64)) (FP.l2d ((p2 >>> ((11 : Int32) &&& 31)).toInt64)) (FP.l2d ((p3 >>> ((11 : Int32) &&& 31)).toInt64)) (FP.l2d ((p4 >>> ((11 : Int32) &&& 31)).toInt64)) (FP.l2d ((p5 >>> ((11 : Int32) &&& 31)).toInt64)) (FP.l2d ((p6 >>> ((11 : Int32) &&& 31)).toInt64)))), .second, .unset, .unset] [(.long (((p1 >>> ((11 : Int32) &&& 31)).toInt64) * ((p4 >>> ((11 : Int32) &&& 31)).toInt64)))])) _
    refine XS.lload X_q1.here hx rfl (hb hby at_72) rfl ?_
    show Steps p.tables e below (T_q1.setTop (mkF m 74 #[.val (.int p1), .val (.int p2), .val (.int p3), .val (.int p4), .val (.int p5), .val (.int p6), .val (.long ((p1 >>> ((11 : Int32) &&& 31)).toInt64)), .second, .val (.long ((p2 >>> ((11 : Int32) &&& 31)).toInt64)), .second, .val (.long ((p3 >>> ((11 : Int32) &&& 31)).toInt64)), .second, .val (.long ((p4 >>> ((11 : Int32) &&& 31)).toInt64)), .second, .val (.long ((p5 >>> ((11 : Int32) &&& 31)).toInt64)), .second, .val (.long ((p6 >>> ((11 : Int32) &&& 31)).toInt64)), .second, .val (.double (G1 (FP.l2d ((p1 >>> ((11 : Int32) &&& 31)).toInt64)) (FP.l2d ((p2 >>> ((11 : Int32) &&& 31)).toInt64)) (FP.l2d ((p3 >>> ((11 : Int32) &&& 31)).toInt64)) (FP.l2d ((p4 >>> ((11 : Int32) &&& 31)).toInt64)) (FP.l2d ((p5 >>> ((11 : Int32) &&& 31)).toInt64)) (FP.l2d ((p6 >>> ((11 : Int32) &&& 31)).toInt64)))), .second, .unset, .unset] [(.long ((p2 >>> ((11 : Int32) &&& 31)).toInt64)), (.long (((p1 >>> ((11 : Int32) &&& 31)).toInt64) * ((p4 >>> ((11 : Int32) &&& 31)).toInt64)))])) _
    refine XS.lload X_q1.here hx rfl (hb hby at_74) rfl ?_
    show Steps p.tables e below (T_q1.setTop (mkF m 76 #[.val (.int p1), .val (.int p2), .val (.int p3), .val (.int p4), .val (.int p5), .val (.int p6), .val (.long ((p1 >>> ((11 : Int32) &&& 31)).toInt64)), .second, .val (.long ((p2 >>> ((11 : Int32) &&& 31)).toInt64)), .second, .val (.long ((p3 >>> ((11 : Int32) &&& 31)).toInt64)), .second, .val (.long ((p4 >>> ((11 : Int32) &&& 31)).toInt64)), .second, .val (.long ((p5 >>> ((11 : Int32) &&& 31)).toInt64)), .second, .val (.long ((p6 >>> ((11 : Int32) &&& 31)).toInt64)), .second, .val (.double (G1 (FP.l2d ((p1 >>> ((11 : Int32) &&& 31)).toInt64)) (FP.l2d ((p2 >>> ((11 : Int32) &&& 31)).toInt64)) (FP.l2d ((p3 >>> ((11 : Int32) &&& 31)).toInt64)) (FP.l2d ((p4 >>> ((11 : Int32) &&& 31)).toInt64)) (FP.l2d ((p5 >>> ((11 : Int32) &&& 31)).toInt64)) (FP.l2d ((p6 >>> ((11 : Int32) &&& 31)).toInt64)))), .second, .unset, .unset] [(.long ((p3 >>> ((11 : Int32) &&& 31)).toInt64)), (.long ((p2 >>> ((11 : Int32) &&& 31)).toInt64)), (.long (((p1 >>> ((11 : Int32) &&& 31)).toInt64) * ((p4 >>> ((11 : Int32) &&& 31)).toInt64)))])) _
    refine XS.lmul X_q1.here hx rfl (hb hby at_76) rfl ?_
    show Steps p.tables e below (T_q1.setTop (mkF m 77 #[.val (.int p1), .val (.int p2), .val (.int p3), .val (.int p4), .val (.int p5), .val (.int p6), .val (.long ((p1 >>> ((11 : Int32) &&& 31)).toInt64)), .second, .val (.long ((p2 >>> ((11 : Int32) &&& 31)).toInt64)), .second, .val (.long ((p3 >>> ((11 : Int32) &&& 31)).toInt64)), .second, .val (.long ((p4 >>> ((11 : Int32) &&& 31)).toInt64)), .second, .val (.long ((p5 >>> ((11 : Int32) &&& 31)).toInt64)), .second, .val (.long ((p6 >>> ((11 : Int32) &&& 31)).toInt64)), .second, .val (.double (G1 (FP.l2d ((p1 >>> ((11 : Int32) &&& 31)).toInt64)) (FP.l2d ((p2 >>> ((11 : Int32) &&& 31)).toInt64)) (FP.l2d ((p3 >>> ((11 : Int32) &&& 31)).toInt64)) (FP.l2d ((p4 >>> ((11 : Int32) &&& 31)).toInt64)) (FP.l2d ((p5 >>> ((11 : Int32) &&& 31)).toInt64)) (FP.l2d ((p6 >>> ((11 : Int32) &&& 31)).toInt64)))), .second, .unset, .unset] [(.long (((p2 >>> ((11 : Int32) &&& 31)).toInt64) * ((p3 >>> ((11 : Int32) &&& 31)).toInt64))), (.long (((p1 >>> ((11 : Int32) &&& 31)).toInt64) * ((p4 >>> ((11 : Int32) &&& 31)).toInt64)))])) _
    refine XS.lsub X_q1.here hx rfl (hb hby at_77) rfl ?_
    show Steps p.tables e below (T_q1.setTop (mkF m 78 #[.val (.int p1), .val (.int p2), .val (.int p3), .val (.int p4), .val (.int p5), .val (.int p6), .val (.long ((p1 >>> ((11 : Int32) &&& 31)).toInt64)), .second, .val (.long ((p2 >>> ((11 : Int32) &&& 31)).toInt64)), .second, .val (.long ((p3 >>> ((11 : Int32) &&& 31)).toInt64)), .second, .val (.long ((p4 >>> ((11 : Int32) &&& 31)).toInt64)), .second, .val (.long ((p5 >>> ((11 : Int32) &&& 31)).toInt64)), .second, .val (.long ((p6 >>> ((11 : Int32) &&& 31)).toInt64)), .second, .val (.double (G1 (FP.l2d ((p1 >>> ((11 : Int32) &&& 31)).toInt64)) (FP.l2d ((p2 >>> ((11 : Int32) &&& 31)).toInt64)) (FP.l2d ((p3 >>> ((11 : Int32) &&& 31)).toInt64)) (FP.l2d ((p4 >>> ((11 : Int32) &&& 31)).toInt64)) (FP.l2d ((p5 >>> ((11 : Int32) &&& 31)).toInt64)) (FP.l2d ((p6 >>> ((11 : Int32) &&& 31)).toInt64)))), .second, .unset, .unset] [(.long ((((p1 >>> ((11 : Int32) &&& 31)).toInt64) * ((p4 >>> ((11 : Int32) &&& 31)).toInt64)) - (((p2 >>> ((11 : Int32) &&& 31)).toInt64) * ((p3 >>> ((11 : Int32) &&& 31)).toInt64))))])) _
    refine XS.lload X_q1.here hx rfl (hb hby at_78) rfl ?_
    show Steps p.tables e below (T_q1.setTop (mkF m 80 #[.val (.int p1), .val (.int p2), .val (.int p3), .val (.int p4), .val (.int p5), .val (.int p6), .val (.long ((p1 >>> ((11 : Int32) &&& 31)).toInt64)), .second, .val (.long ((p2 >>> ((11 : Int32) &&& 31)).toInt64)), .second, .val (.long ((p3 >>> ((11 : Int32) &&& 31)).toInt64)), .second, .val (.long ((p4 >>> ((11 : Int32) &&& 31)).toInt64)), .second, .val (.long ((p5 >>> ((11 : Int32) &&& 31)).toInt64)), .second, .val (.long ((p6 >>> ((11 : Int32) &&& 31)).toInt64)), .second, .val (.double (G1 (FP.l2d ((p1 >>> ((11 : Int32) &&& 31)).toInt64)) (FP.l2d ((p2 >>> ((11 : Int32) &&& 31)).toInt64)) (FP.l2d ((p3 >>> ((11 : Int32) &&& 31)).toInt64)) (FP.l2d ((p4 >>> ((11 : Int32) &&& 31)).toInt64)) (FP.l2d ((p5 >>> ((11 : Int32) &&& 31)).toInt64)) (FP.l2d ((p6 >>> ((11 : Int32) &&& 31)).toInt64)))), .second, .unset, .unset] [(.long ((p3 >>> ((11 : Int32) &&& 31)).toInt64)), (.long ((((p1 >>> ((11 : Int32) &&& 31)).toInt64) * ((p4 >>> ((11 : Int32) &&& 31)).toInt64)) - (((p2 >>> ((11 : Int32) &&& 31)).toInt64) * ((p3 >>> ((11 : Int32) &&& 31)).toInt64))))])) _
    refine XS.lload X_q1.here hx rfl (hb hby at_80) rfl ?_
    show Steps p.tables e below (T_q1.setTop (mkF m 82 #[.val (.int p1), .val (.int p2), .val (.int p3), .val (.int p4), .val (.int p5), .val (.int p6), .val (.long ((p1 >>> ((11 : Int32) &&& 31)).toInt64)), .second, .val (.long ((p2 >>> ((11 : Int32) &&& 31)).toInt64)), .second, .val (.long ((p3 >>> ((11 : Int32) &&& 31)).toInt64)), .second, .val (.long ((p4 >>> ((11 : Int32) &&& 31)).toInt64)), .second, .val (.long ((p5 >>> ((11 : Int32) &&& 31)).toInt64)), .second, .val (.long ((p6 >>> ((11 : Int32) &&& 31)).toInt64)), .second, .val (.double (G1 (FP.l2d ((p1 >>> ((11 : Int32) &&& 31)).toInt64)) (FP.l2d ((p2 >>> ((11 : Int32) &&& 31)).toInt64)) (FP.l2d ((p3 >>> ((11 : Int32) &&& 31)).toInt64)) (FP.l2d ((p4 >>> ((11 : Int32) &&& 31)).toInt64)) (FP.l2d ((p5 >>> ((11 : Int32) &&& 31)).toInt64)) (FP.l2d ((p6 >>> ((11 : Int32) &&& 31)).toInt64)))), .second, .unset, .unset] [(.long ((p6 >>> ((11 : Int32) &&& 31)).toInt64)), (.long ((p3 >>> ((11 : Int32) &&& 31)).toInt64)), (.long ((((p1 >>> ((11 : Int32) &&& 31)).toInt64) * ((p4 >>> ((11 : Int32) &&& 31)).toInt64)) - (((p2 >>> ((11 : Int32) &&& 31)).toInt64) * ((p3 >>> ((11 : Int32) &&& 31)).toInt64))))])) _
    refine XS.lmul X_q1.here hx rfl (hb hby at_82) rfl ?_
    show Steps p.tables e below (T_q1.setTop (mkF m 83 #[.val (.int p1), .val (.int p2), .val (.int p3), .val (.int p4), .val (.int p5), .val (.int p6), .val (.long ((p1 >>> ((11 : Int32) &&& 31)).toInt64)), .second, .val (.long ((p2 >>> ((11 : Int32) &&& 31)).toInt64)), .second, .val (.long ((p3 >>> ((11 : Int32) &&& 31)).toInt64)), .second, .val (.long ((p4 >>> ((11 : Int32) &&& 31)).toInt64)), .second, .val (.long ((p5 >>> ((11 : Int32) &&& 31)).toInt64)), .second, .val (.long ((p6 >>> ((11 : Int32) &&& 31)).toInt64)), .second, .val (.double (G1 (FP.l2d ((p1 >>> ((11 : Int32) &&& 31)).toInt64)) (FP.l2d ((p2 >>> ((11 : Int32) &&& 31)).toInt64)) (FP.l2d ((p3 >>> ((11 : Int32) &&& 31)).toInt64)) (FP.l2d ((p4 >>> ((11 : Int32) &&& 31)).toInt64)) (FP.l2d ((p5 >>> ((11 : Int32) &&& 31)).toInt64)) (FP.l2d ((p6 >>> ((11 : Int32) &&& 31)).toInt64)))), .second, .unset, .unset] [(.long (((p3 >>> ((11 : Int32) &&& 31)).toInt64) * ((p6 >>> ((11 : Int32) &&& 31)).toInt64))), (.long ((((p1 >>> ((11 : Int32) &&& 31)).toInt64) * ((p4 >>> ((11 : Int32) &&& 31)).toInt64)) - (((p2 >>> ((11 : Int32) &&& 31)).toInt64) * ((p3 >>> ((11 : Int32) &&& 31)).toInt64))))])) _
    refine XS.ladd X_q1.here hx rfl (hb hby at_83) rfl ?_
    show Steps p.tables e below (T_q1.setTop (mkF m 84 #[.val (.int p1), .val (.int p2), .val (.int p3), .val (.int p4), .val (.int p5), .val (.int p6), .val (.long ((p1 >>> ((11 : Int32) &&& 31)).toInt64)), .second, .val (.long ((p2 >>> ((11 : Int32) &&& 31)).toInt64)), .second, .val (.long ((p3 >>> ((11 : Int32) &&& 31)).toInt64)), .second, .val (.long ((p4 >>> ((11 : Int32) &&& 31)).toInt64)), .second, .val (.long ((p5 >>> ((11 : Int32) &&& 31)).toInt64)), .second, .val (.long ((p6 >>> ((11 : Int32) &&& 31)).toInt64)), .second, .val (.double (G1 (FP.l2d ((p1 >>> ((11 : Int32) &&& 31)).toInt64)) (FP.l2d ((p2 >>> ((11 : Int32) &&& 31)).toInt64)) (FP.l2d ((p3 >>> ((11 : Int32) &&& 31)).toInt64)) (FP.l2d ((p4 >>> ((11 : Int32) &&& 31)).toInt64)) (FP.l2d ((p5 >>> ((11 : Int32) &&& 31)).toInt64)) (FP.l2d ((p6 >>> ((11 : Int32) &&& 31)).toInt64)))), .second, .unset, .unset] [(.long (((((p1 >>> ((11 : Int32) &&& 31)).toInt64) * ((p4 >>> ((11 : Int32) &&& 31)).toInt64)) - (((p2 >>> ((11 : Int32) &&& 31)).toInt64) * ((p3 >>> ((11 : Int32) &&& 31)).toInt64))) + (((p3 >>> ((11 : Int32) &&& 31)).toInt64) * ((p6 >>> ((11 : Int32) &&& 31)).toInt64))))])) _
    refine XS.lload X_q1.here hx rfl (hb hby at_84) rfl ?_
    show Steps p.tables e below (T_q1.setTop (mkF m 86 #[.val (.int p1), .val (.int p2), .val (.int p3), .val (.int p4), .val (.int p5), .val (.int p6), .val (.long ((p1 >>> ((11 : Int32) &&& 31)).toInt64)), .second, .val (.long ((p2 >>> ((11 : Int32) &&& 31)).toInt64)), .second, .val (.long ((p3 >>> ((11 : Int32) &&& 31)).toInt64)), .second, .val (.long ((p4 >>> ((11 : Int32) &&& 31)).toInt64)), .second, .val (.long ((p5 >>> ((11 : Int32) &&& 31)).toInt64)), .second, .val (.long ((p6 >>> ((11 : Int32) &&& 31)).toInt64)), .second, .val (.double (G1 (FP.l2d ((p1 >>> ((11 : Int32) &&& 31)).toInt64)) (FP.l2d ((p2 >>> ((11 : Int32) &&& 31)).toInt64)) (FP.l2d ((p3 >>> ((11 : Int32) &&& 31)).toInt64)) (FP.l2d ((p4 >>> ((11 : Int32) &&& 31)).toInt64)) (FP.l2d ((p5 >>> ((11 : Int32) &&& 31)).toInt64)) (FP.l2d ((p6 >>> ((11 : Int32) &&& 31)).toInt64)))), .second, .unset, .unset] [(.long ((p4 >>> ((11 : Int32) &&& 31)).toInt64)), (.long (((((p1 >>> ((11 : Int32) &&& 31)).toInt64) * ((p4 >>> ((11 : Int32) &&& 31)).toInt64)) - (((p2 >>> ((11 : Int32) &&& 31)).toInt64) * ((p3 >>> ((11 : Int32) &&& 31)).toInt64))) + (((p3 >>> ((11 : Int32) &&& 31)).toInt64) * ((p6 >>> ((11 : Int32) &&& 31)).toInt64))))])) _
    refine XS.lload X_q1.here hx rfl (hb hby at_86) rfl ?_
    show Steps p.tables e below (T_q1.setTop (mkF m 88 #[.val (.int p1), .val (.int p2), .val (.int p3), .val (.int p4), .val (.int p5), .val (.int p6), .val (.long ((p1 >>> ((11 : Int32) &&& 31)).toInt64)), .second, .val (.long ((p2 >>> ((11 : Int32) &&& 31)).toInt64)), .second, .val (.long ((p3 >>> ((11 : Int32) &&& 31)).toInt64)), .second, .val (.long ((p4 >>> ((11 : Int32) &&& 31)).toInt64)), .second, .val (.long ((p5 >>> ((11 : Int32) &&& 31)).toInt64)), .second, .val (.long ((p6 >>> ((11 : Int32) &&& 31)).toInt64)), .second, .val (.double (G1 (FP.l2d ((p1 >>> ((11 : Int32) &&& 31)).toInt64)) (FP.l2d ((p2 >>> ((11 : Int32) &&& 31)).toInt64)) (FP.l2d ((p3 >>> ((11 : Int32) &&& 31)).toInt64)) (FP.l2d ((p4 >>> ((11 : Int32) &&& 31)).toInt64)) (FP.l2d ((p5 >>> ((11 : Int32) &&& 31)).toInt64)) (FP.l2d ((p6 >>> ((11 : Int32) &&& 31)).toInt64)))), .second, .unset, .unset] [(.long ((p5 >>> ((11 : Int32) &&& 31)).toInt64)), (.long ((p4 >>> ((11 : Int32) &&& 31)).toInt64)), (.long (((((p1 >>> ((11 : Int32) &&& 31)).toInt64) * ((p4 >>> ((11 : Int32) &&& 31)).toInt64)) - (((p2 >>> ((11 : Int32) &&& 31)).toInt64) * ((p3 >>> ((11 : Int32) &&& 31)).toInt64))) + (((p3 >>> ((11 : Int32) &&& 31)).toInt64) * ((p6 >>> ((11 : Int32) &&& 31)).toInt64))))])) _
    refine XS.lmul X_q1.here hx rfl (hb hby at_88) rfl ?_
    show Steps p.tables e below (T_q1.setTop (mkF m 89 #[.val (.int p1), .val (.int p2), .val (.int p3), .val (.int p4), .val (.int p5), .val (.int p6), .val (.long ((p1 >>> ((11 : Int32) &&& 31)).toInt64)), .second, .val (.long ((p2 >>> ((11 : Int32) &&& 31)).toInt64)), .second, .val (.long ((p3 >>> ((11 : Int32) &&& 31)).toInt64)), .second, .val (.long ((p4 >>> ((11 : Int32) &&& 31)).toInt64)), .second, .val (.long ((p5 >>> ((11 : Int32) &&& 31)).toInt64)), .second, .val (.long ((p6 >>> ((11 : Int32) &&& 31)).toInt64)), .second, .val (.double (G1 (FP.l2d ((p1 >>> ((11 : Int32) &&& 31)).toInt64)) (FP.l2d ((p2 >>> ((11 : Int32) &&& 31)).toInt64)) (FP.l2d ((p3 >>> ((11 : Int32) &&& 31)).toInt64)) (FP.l2d ((p4 >>> ((11 : Int32) &&& 31)).toInt64)) (FP.l2d ((p5 >>> ((11 : Int32) &&& 31)).toInt64)) (FP.l2d ((p6 >>> ((11 : Int32) &&& 31)).toInt64)))), .second, .unset, .unset] [(.long (((p4 >>> ((11 : Int32) &&& 31)).toInt64) * ((p5 >>> ((11 : Int32) &&& 31)).toInt64))), (.long (((((p1 >>> ((11 : Int32) &&& 31)).toInt64) * ((p4 >>> ((11 : Int32) &&& 31)).toInt64)) - (((p2 >>> ((11 : Int32) &&& 31)).toInt64) * ((p3 >>> ((11 : Int32) &&& 31)).toInt64))) + (((p3 >>> ((11 : Int32) &&& 31)).toInt64) * ((p6 >>> ((11 : Int32) &&& 31)).toInt64))))])) _
    refine XS.lsub X_q1.here hx rfl (hb hby at_89) rfl ?_
    show Steps p.tables e below (T_q1.setTop (mkF m 90 #[.val (.int p1), .val (.int p2), .val (.int p3), .val (.int p4), .val (.int p5), .val (.int p6), .val (.long ((p1 >>> ((11 : Int32) &&& 31)).toInt64)), .second, .val (.long ((p2 >>> ((11 : Int32) &&& 31)).toInt64)), .second, .val (.long ((p3 >>> ((11 : Int32) &&& 31)).toInt64)), .second, .val (.long ((p4 >>> ((11 : Int32) &&& 31)).toInt64)), .second, .val (.long ((p5 >>> ((11 : Int32) &&& 31)).toInt64)), .second, .val (.long ((p6 >>> ((11 : Int32) &&& 31)).toInt64)), .second, .val (.double (G1 (FP.l2d ((p1 >>> ((11 : Int32) &&& 31)).toInt64)) (FP.l2d ((p2 >>> ((11 : Int32) &&& 31)).toInt64)) (FP.l2d ((p3 >>> ((11 : Int32) &&& 31)).toInt64)) (FP.l2d ((p4 >>> ((11 : Int32) &&& 31)).toInt64)) (FP.l2d ((p5 >>> ((11 : Int32) &&& 31)).toInt64)) (FP.l2d ((p6 >>> ((11 : Int32) &&& 31)).toInt64)))), .second, .unset, .unset] [(.long ((((((p1 >>> ((11 : Int32) &&& 31)).toInt64) * ((p4 >>> ((11 : Int32) &&& 31)).toInt64)) - (((p2 >>> ((11 : Int32) &&& 31)).toInt64) * ((p3 >>> ((11 : Int32) &&& 31)).toInt64))) + (((p3 >>> ((11 : Int32) &&& 31)).toInt64) * ((p6 >>> ((11 : Int32) &&& 31)).toInt64))) - (((p4 >>> ((11 : Int32) &&& 31)).toInt64) * ((p5 >>> ((11 : Int32) &&& 31)).toInt64))))])) _
    refine XS.lload X_q1.here hx rfl (hb hby at_90) rfl ?_
    show Steps p.tables e below (T_q1.setTop (mkF m 92 #[.val (.int p1), .val (.int p2), .val (.int p3), .val (.int p4), .val (.int p5), .val (.int p6), .val (.long ((p1 >>> ((11 : Int32) &&& 31)).toInt64)), .second, .val (.long ((p2 >>> ((11 : Int32) &&& 31)).toInt64)), .second, .val (.long ((p3 >>> ((11 : Int32) &&& 31)).toInt64)), .second, .val (.long ((p4 >>> ((11 : Int32) &&& 31)).toInt64)), .second, .val (.long ((p5 >>> ((11 : Int32) &&& 31)).toInt64)), .second, .val (.long ((p6 >>> ((11 : Int32) &&& 31)).toInt64)), .second, .val (.double (G1 (FP.l2d ((p1 >>> ((11 : Int32) &&& 31)).toInt64)) (FP.l2d ((p2 >>> ((11 : Int32) &&& 31)).toInt64)) (FP.l2d ((p3 >>> ((11 : Int32) &&& 31)).toInt64)) (FP.l2d ((p4 >>> ((11 : Int32) &&& 31)).toInt64)) (FP.l2d ((p5 >>> ((11 : Int32) &&& 31)).toInt64)) (FP.l2d ((p6 >>> ((11 : Int32) &&& 31)).toInt64)))), .second, .unset, .unset] [(.long ((p5 >>> ((11 : Int32) &&& 31)).toInt64)), (.long ((((((p1 >>> ((11 : Int32) &&& 31)).toInt64) * ((p4 >>> ((11 : Int32) &&& 31)).toInt64)) - (((p2 >>> ((11 : Int32) &&& 31)).toInt64) * ((p3 >>> ((11 : Int32) &&& 31)).toInt64))) + (((p3 >>> ((11 : Int32) &&& 31)).toInt64) * ((p6 >>> ((11 : Int32) &&& 31)).toInt64))) - (((p4 >>> ((11 : Int32) &&& 31)).toInt64) * ((p5 >>> ((11 : Int32) &&& 31)).toInt64))))])) _
    refine XS.lload X_q1.here hx rfl (hb hby at_92) rfl ?_
    show Steps p.tables e below (T_q1.setTop (mkF m 94 #[.val (.int p1), .val (.int p2), .val (.int p3), .val (.int p4), .val (.int p5), .val (.int p6), .val (.long ((p1 >>> ((11 : Int32) &&& 31)).toInt64)), .second, .val (.long ((p2 >>> ((11 : Int32) &&& 31)).toInt64)), .second, .val (.long ((p3 >>> ((11 : Int32) &&& 31)).toInt64)), .second, .val (.long ((p4 >>> ((11 : Int32) &&& 31)).toInt64)), .second, .val (.long ((p5 >>> ((11 : Int32) &&& 31)).toInt64)), .second, .val (.long ((p6 >>> ((11 : Int32) &&& 31)).toInt64)), .second, .val (.double (G1 (FP.l2d ((p1 >>> ((11 : Int32) &&& 31)).toInt64)) (FP.l2d ((p2 >>> ((11 : Int32) &&& 31)).toInt64)) (FP.l2d ((p3 >>> ((11 : Int32) &&& 31)).toInt64)) (FP.l2d ((p4 >>> ((11 : Int32) &&& 31)).toInt64)) (FP.l2d ((p5 >>> ((11 : Int32) &&& 31)).toInt64)) (FP.l2d ((p6 >>> ((11 : Int32) &&& 31)).toInt64)))), .second, .unset, .unset] [(.long ((p2 >>> ((11 : Int32) &&& 31)).toInt64)), (.long ((p5 >>> ((11 : Int32) &&& 31)).toInt64)), (.long ((((((p1 >>> ((11 : Int32) &&& 31)).toInt64) * ((p4 >>> ((11 : Int32) &&& 31)).toInt64)) - (((p2 >>> ((11 : Int32) &&& 31)).toInt64) * ((p3 >>> ((11 : Int32) &&& 31)).toInt64))) + (((p3 >>> ((11 : Int32) &&& 31)).toInt64) * ((p6 >>> ((11 : Int32) &&& 31)).toInt64))) - (((p4 >>> ((11 : Int32) &&& 31)).toInt64) * ((p5 >>> ((11 : Int32) &&& 31)).toInt64))))])) _
    refine XS.lmul X_q1.here hx rfl (hb hby at_94) rfl ?_
    show Steps p.tables e below (T_q1.setTop (mkF m 95 #[.val (.int p1), .val (.int p2), .val (.int p3), .val (.int p4), .val (.int p5), .val (.int p6), .val (.long ((p1 >>> ((11 : Int32) &&& 31)).toInt64)), .second, .val (.long ((p2 >>> ((11 : Int32) &&& 31)).toInt64)), .second, .val (.long ((p3 >>> ((11 : Int32) &&& 31)).toInt64)), .second, .val (.long ((p4 >>> ((11 : Int32) &&& 31)).toInt64)), .second, .val (.long ((p5 >>> ((11 : Int32) &&& 31)).toInt64)), .second, .val (.long ((p6 >>> ((11 : Int32) &&& 31)).toInt64)), .second, .val (.double (G1 (FP.l2d ((p1 >>> ((11 : Int32) &&& 31)).toInt64)) (FP.l2d ((p2 >>> ((11 : Int32) &&& 31)).toInt64)) (FP.l2d ((p3 >>> ((11 : Int32) &&& 31)).toInt64)) (FP.l2d ((p4 >>> ((11 : Int32) &&& 31)).toInt64)) (FP.l2d ((p5 >>> ((11 : Int32) &&& 31)).toInt64)) (FP.l2d ((p6 >>> ((11 : Int32) &&& 31)).toInt64)))), .second, .unset, .unset] [(.long (((p5 >>> ((11 : Int32) &&& 31)).toInt64) * ((p2 >>> ((11 : Int32) &&& 31)).toInt64))), (.long ((((((p1 >>> ((11 : Int32) &&& 31)).toInt64) * ((p4 >>> ((11 : Int32) &&& 31)).toInt64)) - (((p2 >>> ((11 : Int32) &&& 31)).toInt64) * ((p3 >>> ((11 : Int32) &&& 31)).toInt64))) + (((p3 >>> ((11 : Int32) &&& 31)).toInt64) * ((p6 >>> ((11 : Int32) &&& 31)).toInt64))) - (((p4 >>> ((11 : Int32) &&& 31)).toInt64) * ((p5 >>> ((11 : Int32) &&& 31)).toInt64))))])) _
    refine XS.ladd X_q1.here hx rfl (hb hby at_95) rfl ?_
    show Steps p.tables e below (T_q1.setTop (mkF m 96 #[.val (.int p1), .val (.int p2), .val (.int p3), .val (.int p4), .val (.int p5), .val (.int p6), .val (.long ((p1 >>> ((11 : Int32) &&& 31)).toInt64)), .second, .val (.long ((p2 >>> ((11 : Int32) &&& 31)).toInt64)), .second, .val (.long ((p3 >>> ((11 : Int32) &&& 31)).toInt64)), .second, .val (.long ((p4 >>> ((11 : Int32) &&& 31)).toInt64)), .second, .val (.long ((p5 >>> ((11 : Int32) &&& 31)).toInt64)), .second, .val (.long ((p6 >>> ((11 : Int32) &&& 31)).toInt64)), .second, .val (.double (G1 (FP.l2d ((p1 >>> ((11 : Int32) &&& 31)).toInt64)) (FP.l2d ((p2 >>> ((11 : Int32) &&& 31)).toInt64)) (FP.l2d ((p3 >>> ((11 : Int32) &&& 31)).toInt64)) (FP.l2d ((p4 >>> ((11 : Int32) &&& 31)).toInt64)) (FP.l2d ((p5 >>> ((11 : Int32) &&& 31)).toInt64)) (FP.l2d ((p6 >>> ((11 : Int32) &&& 31)).toInt64)))), .second, .unset, .unset] [(.long (((((((p1 >>> ((11 : Int32) &&& 31)).toInt64) * ((p4 >>> ((11 : Int32) &&& 31)).toInt64)) - (((p2 >>> ((11 : Int32) &&& 31)).toInt64) * ((p3 >>> ((11 : Int32) &&& 31)).toInt64))) + (((p3 >>> ((11 : Int32) &&& 31)).toInt64) * ((p6 >>> ((11 : Int32) &&& 31)).toInt64))) - (((p4 >>> ((11 : Int32) &&& 31)).toInt64) * ((p5 >>> ((11 : Int32) &&& 31)).toInt64))) + (((p5 >>> ((11 : Int32) &&& 31)).toInt64) * ((p2 >>> ((11 : Int32) &&& 31)).toInt64))))])) _
    refine XS.lload X_q1.here hx rfl (hb hby at_96) rfl ?_
    show Steps p.tables e below (T_q1.setTop (mkF m 98 #[.val (.int p1), .val (.int p2), .val (.int p3), .val (.int p4), .val (.int p5), .val (.int p6), .val (.long ((p1 >>> ((11 : Int32) &&& 31)).toInt64)), .second, .val (.long ((p2 >>> ((11 : Int32) &&& 31)).toInt64)), .second, .val (.long ((p3 >>> ((11 : Int32) &&& 31)).toInt64)), .second, .val (.long ((p4 >>> ((11 : Int32) &&& 31)).toInt64)), .second, .val (.long ((p5 >>> ((11 : Int32) &&& 31)).toInt64)), .second, .val (.long ((p6 >>> ((11 : Int32) &&& 31)).toInt64)), .second, .val (.double (G1 (FP.l2d ((p1 >>> ((11 : Int32) &&& 31)).toInt64)) (FP.l2d ((p2 >>> ((11 : Int32) &&& 31)).toInt64)) (FP.l2d ((p3 >>> ((11 : Int32) &&& 31)).toInt64)) (FP.l2d ((p4 >>> ((11 : Int32) &&& 31)).toInt64)) (FP.l2d ((p5 >>> ((11 : Int32) &&& 31)).toInt64)) (FP.l2d ((p6 >>> ((11 : Int32) &&& 31)).toInt64)))), .second, .unset, .unset] [(.long ((p6 >>> ((11 : Int32) &&& 31)).toInt64)), (.long (((((((p1 >>> ((11 : Int32) &&& 31)).toInt64) * ((p4 >>> ((11 : Int32) &&& 31)).toInt64)) - (((p2 >>> ((11 : Int32) &&& 31)).toInt64) * ((p3 >>> ((11 : Int32) &&& 31)).toInt64))) + (((p3 >>> ((11 : Int32) &&& 31)).toInt64) * ((p6 >>> ((11 : Int32) &&& 31)).toInt64))) - (((p4 >>> ((11 : Int32) &&& 31)).toInt64) * ((p5 >>> ((11 : Int32) &&& 31)).toInt64))) + (((p5 >>> ((11 : Int32) &&& 31)).toInt64) * ((p2 >>> ((11 : Int32) &&& 31)).toInt64))))])) _
    refine XS.lload X_q1.here hx rfl (hb hby at_98) rfl ?_
    show Steps p.tables e below (T_q1.setTop (mkF m 100 #[.val (.int p1), .val (.int p2), .val (.int p3), .val (.int p4), .val (.int p5), .val (.int p6), .val (.long ((p1 >>> ((11 : Int32) &&& 31)).toInt64)), .second, .val (.long ((p2 >>> ((11 : Int32) &&& 31)).toInt64)), .second, .val (.long ((p3 >>> ((11 : Int32) &&& 31)).toInt64)), .second, .val (.long ((p4 >>> ((11 : Int32) &&& 31)).toInt64)), .second, .val (.long ((p5 >>> ((11 : Int32) &&& 31)).toInt64)), .second, .val (.long ((p6 >>> ((11 : Int32) &&& 31)).toInt64)), .second, .val (.double (G1 (FP.l2d ((p1 >>> ((11 : Int32) &&& 31)).toInt64)) (FP.l2d ((p2 >>> ((11 : Int32) &&& 31)).toInt64)) (FP.l2d ((p3 >>> ((11 : Int32) &&& 31)).toInt64)) (FP.l2d ((p4 >>> ((11 : Int32) &&& 31)).toInt64)) (FP.l2d ((p5 >>> ((11 : Int32) &&& 31)).toInt64)) (FP.l2d ((p6 >>> ((11 : Int32) &&& 31)).toInt64)))), .second, .unset, .unset] [(.long ((p1 >>> ((11 : Int32) &&& 31)).toInt64)), (.long ((p6 >>> ((11 : Int32) &&& 31)).toInt64)), (.long (((((((p1 >>> ((11 : Int32) &&& 31)).toInt64) * ((p4 >>> ((11 : Int32) &&& 31)).toInt64)) - (((p2 >>> ((11 : Int32) &&& 31)).toInt64) * ((p3 >>> ((11 : Int32) &&& 31)).toInt64))) + (((p3 >>> ((11 : Int32) &&& 31)).toInt64) * ((p6 >>> ((11 : Int32) &&& 31)).toInt64))) - (((p4 >>> ((11 : Int32) &&& 31)).toInt64) * ((p5 >>> ((11 : Int32) &&& 31)).toInt64))) + (((p5 >>> ((11 : Int32) &&& 31)).toInt64) * ((p2 >>> ((11 : Int32) &&& 31)).toInt64))))])) _
    refine XS.lmul X_q1.here hx rfl (hb hby at_100) rfl ?_
    show Steps p.tables e below (T_q1.setTop (mkF m 101 #[.val (.int p1), .val (.int p2), .val (.int p3), .val (.int p4), .val (.int p5), .val (.int p6), .val (.long ((p1 >>> ((11 : Int32) &&& 31)).toInt64)), .second, .val (.long ((p2 >>> ((11 : Int32) &&& 31)).toInt64)), .second, .val (.long ((p3 >>> ((11 : Int32) &&& 31)).toInt64)), .second, .val (.long ((p4 >>> ((11 : Int32) &&& 31)).toInt64)), .second, .val (.long ((p5 >>> ((11 : Int32) &&& 31)).toInt64)), .second, .val (.long ((p6 >>> ((11 : Int32) &&& 31)).toInt64)), .second, .val (.double (G1 (FP.l2d ((p1 >>> ((11 : Int32) &&& 31)).toInt64)) (FP.l2d ((p2 >>> ((11 : Int32) &&& 31)).toInt64)) (FP.l2d ((p3 >>> ((11 : Int32) &&& 31)).toInt64)) (FP.l2d ((p4 >>> ((11 : Int32) &&& 31)).toInt64)) (FP.l2d ((p5 >>> ((11 : Int32) &&& 31)).toInt64)) (FP.l2d ((p6 >>> ((11 : Int32) &&& 31)).toInt64)))), .second, .unset, .unset] [(.long (((p6 >>> ((11 : Int32) &&& 31)).toInt64) * ((p1 >>> ((11 : Int32) &&& 31)).toInt64))), (.long (((((((p1 >>> ((11 : Int32) &&& 31)).toInt64) * ((p4 >>> ((11 : Int32) &&& 31)).toInt64)) - (((p2 >>> ((11 : Int32) &&& 31)).toInt64) * ((p3 >>> ((11 : Int32) &&& 31)).toInt64))) + (((p3 >>> ((11 : Int32) &&& 31)).toInt64) * ((p6 >>> ((11 : Int32) &&& 31)).toInt64))) - (((p4 >>> ((11 : Int32) &&& 31)).toInt64) * ((p5 >>> ((11 : Int32) &&& 31)).toInt64))) + (((p5 >>> ((11 : Int32) &&& 31)).toInt64) * ((p2 >>> ((11 : Int32) &&& 31)).toInt64))))])) _
    refine XS.lsub X_q1.here hx rfl (hb hby at_101) rfl ?_
    show Steps p.tables e below (T_q1.setTop (mkF m 102 #[.val (.int p1), .val (.int p2), .val (.int p3), .val (.int p4), .val (.int p5), .val (.int p6), .val (.long ((p1 >>> ((11 : Int32) &&& 31)).toInt64)), .second, .val (.long ((p2 >>> ((11 : Int32) &&& 31)).toInt64)), .second, .val (.long ((p3 >>> ((11 : Int32) &&& 31)).toInt64)), .second, .val (.long ((p4 >>> ((11 : Int32) &&& 31)).toInt64)), .second, .val (.long ((p5 >>> ((11 : Int32) &&& 31)).toInt64)), .second, .val (.long ((p6 >>> ((11 : Int32) &&& 31)).toInt64)), .second, .val (.double (G1 (FP.l2d ((p1 >>> ((11 : Int32) &&& 31)).toInt64)) (FP.l2d ((p2 >>> ((11 : Int32) &&& 31)).toInt64)) (FP.l2d ((p3 >>> ((11 : Int32) &&& 31)).toInt64)) (FP.l2d ((p4 >>> ((11 : Int32) &&& 31)).toInt64)) (FP.l2d ((p5 >>> ((11 : Int32) &&& 31)).toInt64)) (FP.l2d ((p6 >>> ((11 : Int32) &&& 31)).toInt64)))), .second, .unset, .unset] [(.long ((((((((p1 >>> ((11 : Int32) &&& 31)).toInt64) * ((p4 >>> ((11 : Int32) &&& 31)).toInt64)) - (((p2 >>> ((11 : Int32) &&& 31)).toInt64) * ((p3 >>> ((11 : Int32) &&& 31)).toInt64))) + (((p3 >>> ((11 : Int32) &&& 31)).toInt64) * ((p6 >>> ((11 : Int32) &&& 31)).toInt64))) - (((p4 >>> ((11 : Int32) &&& 31)).toInt64) * ((p5 >>> ((11 : Int32) &&& 31)).toInt64))) + (((p5 >>> ((11 : Int32) &&& 31)).toInt64) * ((p2 >>> ((11 : Int32) &&& 31)).toInt64))) - (((p6 >>> ((11 : Int32) &&& 31)).toInt64) * ((p1 >>> ((11 : Int32) &&& 31)).toInt64))))])) _
    refine XS.lstore X_q1.here hx rfl (hb hby at_102) rfl (l' := #[.val (.int p1), .val (.int p2), .val (.int p3), .val (.int p4), .val (.int p5), .val (.int p6), .val (.long ((p1 >>> ((11 : Int32) &&& 31)).toInt64)), .second, .val (.long ((p2 >>> ((11 : Int32) &&& 31)).toInt64)), .second, .val (.long ((p3 >>> ((11 : Int32) &&& 31)).toInt64)), .second, .val (.long ((p4 >>> ((11 : Int32) &&& 31)).toInt64)), .second, .val (.long ((p5 >>> ((11 : Int32) &&& 31)).toInt64)), .second, .val (.long ((p6 >>> ((11 : Int32) &&& 31)).toInt64)), .second, .val (.double (G1 (FP.l2d ((p1 >>> ((11 : Int32) &&& 31)).toInt64)) (FP.l2d ((p2 >>> ((11 : Int32) &&& 31)).toInt64)) (FP.l2d ((p3 >>> ((11 : Int32) &&& 31)).toInt64)) (FP.l2d ((p4 >>> ((11 : Int32) &&& 31)).toInt64)) (FP.l2d ((p5 >>> ((11 : Int32) &&& 31)).toInt64)) (FP.l2d ((p6 >>> ((11 : Int32) &&& 31)).toInt64)))), .second, .val (.long ((((((((p1 >>> ((11 : Int32) &&& 31)).toInt64) * ((p4 >>> ((11 : Int32) &&& 31)).toInt64)) - (((p2 >>> ((11 : Int32) &&& 31)).toInt64) * ((p3 >>> ((11 : Int32) &&& 31)).toInt64))) + (((p3 >>> ((11 : Int32) &&& 31)).toInt64) * ((p6 >>> ((11 : Int32) &&& 31)).toInt64))) - (((p4 >>> ((11 : Int32) &&& 31)).toInt64) * ((p5 >>> ((11 : Int32) &&& 31)).toInt64))) + (((p5 >>> ((11 : Int32) &&& 31)).toInt64) * ((p2 >>> ((11 : Int32) &&& 31)).toInt64))) - (((p6 >>> ((11 : Int32) &&& 31)).toInt64) * ((p1 >>> ((11 : Int32) &&& 31)).toInt64)))), .second]) rfl ?_
    show Steps p.tables e below (T_q1.setTop (mkF m 104 #[.val (.int p1), .val (.int p2), .val (.int p3), .val (.int p4), .val (.int p5), .val (.int p6), .val (.long ((p1 >>> ((11 : Int32) &&& 31)).toInt64)), .second, .val (.long ((p2 >>> ((11 : Int32) &&& 31)).toInt64)), .second, .val (.long ((p3 >>> ((11 : Int32) &&& 31)).toInt64)), .second, .val (.long ((p4 >>> ((11 : Int32) &&& 31)).toInt64)), .second, .val (.long ((p5 >>> ((11 : Int32) &&& 31)).toInt64)), .second, .val (.long ((p6 >>> ((11 : Int32) &&& 31)).toInt64)), .second, .val (.double (G1 (FP.l2d ((p1 >>> ((11 : Int32) &&& 31)).toInt64)) (FP.l2d ((p2 >>> ((11 : Int32) &&& 31)).toInt64)) (FP.l2d ((p3 >>> ((11 : Int32) &&& 31)).toInt64)) (FP.l2d ((p4 >>> ((11 : Int32) &&& 31)).toInt64)) (FP.l2d ((p5 >>> ((11 : Int32) &&& 31)).toInt64)) (FP.l2d ((p6 >>> ((11 : Int32) &&& 31)).toInt64)))), .second, .val (.long ((((((((p1 >>> ((11 : Int32) &&& 31)).toInt64) * ((p4 >>> ((11 : Int32) &&& 31)).toInt64)) - (((p2 >>> ((11 : Int32) &&& 31)).toInt64) * ((p3 >>> ((11 : Int32) &&& 31)).toInt64))) + (((p3 >>> ((11 : Int32) &&& 31)).toInt64) * ((p6 >>> ((11 : Int32) &&& 31)).toInt64))) - (((p4 >>> ((11 : Int32) &&& 31)).toInt64) * ((p5 >>> ((11 : Int32) &&& 31)).toInt64))) + (((p5 >>> ((11 : Int32) &&& 31)).toInt64) * ((p2 >>> ((11 : Int32) &&& 31)).toInt64))) - (((p6 >>> ((11 : Int32) &&& 31)).toInt64) * ((p1 >>> ((11 : Int32) &&& 31)).toInt64)))), .second] [])) _
    refine XS.dload X_q1.here hx rfl (hb hby at_104) rfl ?_
    show Steps p.tables e below (T_q1.setTop (mkF m 106 #[.val (.int p1), .val (.int p2), .val (.int p3), .val (.int p4), .val (.int p5), .val (.int p6), .val (.long ((p1 >>> ((11 : Int32) &&& 31)).toInt64)), .second, .val (.long ((p2 >>> ((11 : Int32) &&& 31)).toInt64)), .second, .val (.long ((p3 >>> ((11 : Int32) &&& 31)).toInt64)), .second, .val (.long ((p4 >>> ((11 : Int32) &&& 31)).toInt64)), .second, .val (.long ((p5 >>> ((11 : Int32) &&& 31)).toInt64)), .second, .val (.long ((p6 >>> ((11 : Int32) &&& 31)).toInt64)), .second, .val (.double (G1 (FP.l2d ((p1 >>> ((11 : Int32) &&& 31)).toInt64)) (FP.l2d ((p2 >>> ((11 : Int32) &&& 31)).toInt64)) (FP.l2d ((p3 >>> ((11 : Int32) &&& 31)).toInt64)) (FP.l2d ((p4 >>> ((11 : Int32) &&& 31)).toInt64)) (FP.l2d ((p5 >>> ((11 : Int32) &&& 31)).toInt64)) (FP.l2d ((p6 >>> ((11 : Int32) &&& 31)).toInt64)))), .second, .val (.long ((((((((p1 >>> ((11 : Int32) &&& 31)).toInt64) * ((p4 >>> ((11 : Int32) &&& 31)).toInt64)) - (((p2 >>> ((11 : Int32) &&& 31)).toInt64) * ((p3 >>> ((11 : Int32) &&& 31)).toInt64))) + (((p3 >>> ((11 : Int32) &&& 31)).toInt64) * ((p6 >>> ((11 : Int32) &&& 31)).toInt64))) - (((p4 >>> ((11 : Int32) &&& 31)).toInt64) * ((p5 >>> ((11 : Int32) &&& 31)).toInt64))) + (((p5 >>> ((11 : Int32) &&& 31)).toInt64) * ((p2 >>> ((11 : Int32) &&& 31)).toInt64))) - (((p6 >>> ((11 : Int32) &&& 31)).toInt64) * ((p1 >>> ((11 : Int32) &&& 31)).toInt64)))), .second] [(.double (G1 (FP.l2d ((p1 >>> ((11 : Int32) &&& 31)).toInt64)) (FP.l2d ((p2 >>> ((11 : Int32) &&& 31)).toInt64)) (FP.l2d ((p3 >>> ((11 : Int32) &&& 31)).toInt64)) (FP.l2d ((p4 >>> ((11 : Int32) &&& 31)).toInt64)) (FP.l2d ((p5 >>> ((11 : Int32) &&& 31)).toInt64)) (FP.l2d ((p6 >>> ((11 : Int32) &&& 31)).toInt64))))])) _
    refine XS.lload X_q1.here hx rfl (hb hby at_106) rfl ?_
    show Steps p.tables e below (T_q1.setTop (mkF m 108 #[.val (.int p1), .val (.int p2), .val (.int p3), .val (.int p4), .val (.int p5), .val (.int p6), .val (.long ((p1 >>> ((11 : Int32) &&& 31)).toInt64)), .second, .val (.long ((p2 >>> ((11 : Int32) &&& 31)).toInt64)), .second, .val (.long ((p3 >>> ((11 : Int32) &&& 31)).toInt64)), .second, .val (.long ((p4 >>> ((11 : Int32) &&& 31)).toInt64)), .second, .val (.long ((p5 >>> ((11 : Int32) &&& 31)).toInt64)), .second, .val (.long ((p6 >>> ((11 : Int32) &&& 31)).toInt64)), .second, .val (.double (G1 (FP.l2d ((p1 >>> ((11 : Int32) &&& 31)).toInt64)) (FP.l2d ((p2 >>> ((11 : Int32) &&& 31)).toInt64)) (FP.l2d ((p3 >>> ((11 : Int32) &&& 31)).toInt64)) (FP.l2d ((p4 >>> ((11 : Int32) &&& 31)).toInt64)) (FP.l2d ((p5 >>> ((11 : Int32) &&& 31)).toInt64)) (FP.l2d ((p6 >>> ((11 : Int32) &&& 31)).toInt64)))), .second, .val (.long ((((((((p1 >>> ((11 : Int32) &&& 31)).toInt64) * ((p4 >>> ((11 : Int32) &&& 31)).toInt64)) - (((p2 >>> ((11 : Int32) &&& 31)).toInt64) * ((p3 >>> ((11 : Int32) &&& 31)).toInt64))) + (((p3 >>> ((11 : Int32) &&& 31)).toInt64) * ((p6 >>> ((11 : Int32) &&& 31)).toInt64))) - (((p4 >>> ((11 : Int32) &&& 31)).toInt64) * ((p5 >>> ((11 : Int32) &&& 31)).toInt64))) + (((p5 >>> ((11 : Int32) &&& 31)).toInt64) * ((p2 >>> ((11 : Int32) &&& 31)).toInt64))) - (((p6 >>> ((11 : Int32) &&& 31)).toInt64) * ((p1 >>> ((11 : Int32) &&& 31)).toInt64)))), .second] [(.long ((((((((p1 >>> ((11 : Int32) &&& 31)).toInt64) * ((p4 >>> ((11 : Int32) &&& 31)).toInt64)) - (((p2 >>> ((11 : Int32) &&& 31)).toInt64) * ((p3 >>> ((11 : Int32) &&& 31)).toInt64))) + (((p3 >>> ((11 : Int32) &&& 31)).toInt64) * ((p6 >>> ((11 : Int32) &&& 31)).toInt64))) - (((p4 >>> ((11 : Int32) &&& 31)).toInt64) * ((p5 >>> ((11 : Int32) &&& 31)).toInt64))) + (((p5 >>> ((11 : Int32) &&& 31)).toInt64) * ((p2 >>> ((11 : Int32) &&& 31)).toInt64))) - (((p6 >>> ((11 : Int32) &&& 31)).toInt64) * ((p1 >>> ((11 : Int32) &&& 31)).toInt64)))), (.double (G1 (FP.l2d ((p1 >>> ((11 : Int32) &&& 31)).toInt64)) (FP.l2d ((p2 >>> ((11 : Int32) &&& 31)).toInt64)) (FP.l2d ((p3 >>> ((11 : Int32) &&& 31)).toInt64)) (FP.l2d ((p4 >>> ((11 : Int32) &&& 31)).toInt64)) (FP.l2d ((p5 >>> ((11 : Int32) &&& 31)).toInt64)) (FP.l2d ((p6 >>> ((11 : Int32) &&& 31)).toInt64))))])) _
    refine XS.l2dS X_q1.here hx rfl (hb hby at_108) rfl rfl ?_
    show Steps p.tables e below (T_q1.setTop (mkF m 109 #[.val (.int p1), .val (.int p2), .val (.int p3), .val (.int p4), .val (.int p5), .val (.int p6), .val (.long ((p1 >>> ((11 : Int32) &&& 31)).toInt64)), .second, .val (.long ((p2 >>> ((11 : Int32) &&& 31)).toInt64)), .second, .val (.long ((p3 >>> ((11 : Int32) &&& 31)).toInt64)), .second, .val (.long ((p4 >>> ((11 : Int32) &&& 31)).toInt64)), .second, .val (.long ((p5 >>> ((11 : Int32) &&& 31)).toInt64)), .second, .val (.long ((p6 >>> ((11 : Int32) &&& 31)).toInt64)), .second, .val (.double (G1 (FP.l2d ((p1 >>> ((11 : Int32) &&& 31)).toInt64)) (FP.l2d ((p2 >>> ((11 : Int32) &&& 31)).toInt64)) (FP.l2d ((p3 >>> ((11 : Int32) &&& 31)).toInt64)) (FP.l2d ((p4 >>> ((11 : Int32) &&& 31)).toInt64)) (FP.l2d ((p5 >>> ((11 : Int32) &&& 31)).toInt64)) (FP.l2d ((p6 >>> ((11 : Int32) &&& 31)).toInt64)))), .second, .val (.long ((((((((p1 >>> ((11 : Int32) &&& 31)).toInt64) * ((p4 >>> ((11 : Int32) &&& 31)).toInt64)) - (((p2 >>> ((11 : Int32) &&& 31)).toInt64) * ((p3 >>> ((11 : Int32) &&& 31)).toInt64))) + (((p3 >>> ((11 : Int32) &&& 31)).toInt64) * ((p6 >>> ((11 : Int32) &&& 31)).toInt64))) - (((p4 >>> ((11 : Int32) &&& 31)).toInt64) * ((p5 >>> ((11 : Int32) &&& 31)).toInt64))) + (((p5 >>> ((11 : Int32) &&& 31)).toInt64) * ((p2 >>> ((11 : Int32) &&& 31)).toInt64))) - (((p6 >>> ((11 : Int32) &&& 31)).toInt64) * ((p1 >>> ((11 : Int32) &&& 31)).toInt64)))), .second] [(.double (FP.l2d ((((((((p1 >>> ((11 : Int32) &&& 31)).toInt64) * ((p4 >>> ((11 : Int32) &&& 31)).toInt64)) - (((p2 >>> ((11 : Int32) &&& 31)).toInt64) * ((p3 >>> ((11 : Int32) &&& 31)).toInt64))) + (((p3 >>> ((11 : Int32) &&& 31)).toInt64) * ((p6 >>> ((11 : Int32) &&& 31)).toInt64))) - (((p4 >>> ((11 : Int32) &&& 31)).toInt64) * ((p5 >>> ((11 : Int32) &&& 31)).toInt64))) + (((p5 >>> ((11 : Int32) &&& 31)).toInt64) * ((p2 >>> ((11 : Int32) &&& 31)).toInt64))) - (((p6 >>> ((11 : Int32) &&& 31)).toInt64) * ((p1 >>> ((11 : Int32) &&& 31)).toInt64))))), (.double (G1 (FP.l2d ((p1 >>> ((11 : Int32) &&& 31)).toInt64)) (FP.l2d ((p2 >>> ((11 : Int32) &&& 31)).toInt64)) (FP.l2d ((p3 >>> ((11 : Int32) &&& 31)).toInt64)) (FP.l2d ((p4 >>> ((11 : Int32) &&& 31)).toInt64)) (FP.l2d ((p5 >>> ((11 : Int32) &&& 31)).toInt64)) (FP.l2d ((p6 >>> ((11 : Int32) &&& 31)).toInt64))))])) _
    refine XS.dcmpS X_q1.here hx rfl (hb hby at_109) rfl rfl ?_
    show Steps p.tables e below (T_q1.setTop (mkF m 110 #[.val (.int p1), .val (.int p2), .val (.int p3), .val (.int p4), .val (.int p5), .val (.int p6), .val (.long ((p1 >>> ((11 : Int32) &&& 31)).toInt64)), .second, .val (.long ((p2 >>> ((11 : Int32) &&& 31)).toInt64)), .second, .val (.long ((p3 >>> ((11 : Int32) &&& 31)).toInt64)), .second, .val (.long ((p4 >>> ((11 : Int32) &&& 31)).toInt64)), .second, .val (.long ((p5 >>> ((11 : Int32) &&& 31)).toInt64)), .second, .val (.long ((p6 >>> ((11 : Int32) &&& 31)).toInt64)), .second, .val (.double (G1 (FP.l2d ((p1 >>> ((11 : Int32) &&& 31)).toInt64)) (FP.l2d ((p2 >>> ((11 : Int32) &&& 31)).toInt64)) (FP.l2d ((p3 >>> ((11 : Int32) &&& 31)).toInt64)) (FP.l2d ((p4 >>> ((11 : Int32) &&& 31)).toInt64)) (FP.l2d ((p5 >>> ((11 : Int32) &&& 31)).toInt64)) (FP.l2d ((p6 >>> ((11 : Int32) &&& 31)).toInt64)))), .second, .val (.long ((((((((p1 >>> ((11 : Int32) &&& 31)).toInt64) * ((p4 >>> ((11 : Int32) &&& 31)).toInt64)) - (((p2 >>> ((11 : Int32) &&& 31)).toInt64) * ((p3 >>> ((11 : Int32) &&& 31)).toInt64))) + (((p3 >>> ((11 : Int32) &&& 31)).toInt64) * ((p6 >>> ((11 : Int32) &&& 31)).toInt64))) - (((p4 >>> ((11 : Int32) &&& 31)).toInt64) * ((p5 >>> ((11 : Int32) &&& 31)).toInt64))) + (((p5 >>> ((11 : Int32) &&& 31)).toInt64) * ((p2 >>> ((11 : Int32) &&& 31)).toInt64))) - (((p6 >>> ((11 : Int32) &&& 31)).toInt64) * ((p1 >>> ((11 : Int32) &&& 31)).toInt64)))), .second] [(.int (cmpValue (FP.dcmp (G1 (FP.l2d ((p1 >>> ((11 : Int32) &&& 31)).toInt64)) (FP.l2d ((p2 >>> ((11 : Int32) &&& 31)).toInt64)) (FP.l2d ((p3 >>> ((11 : Int32) &&& 31)).toInt64)) (FP.l2d ((p4 >>> ((11 : Int32) &&& 31)).toInt64)) (FP.l2d ((p5 >>> ((11 : Int32) &&& 31)).toInt64)) (FP.l2d ((p6 >>> ((11 : Int32) &&& 31)).toInt64))) (FP.l2d ((((((((p1 >>> ((11 : Int32) &&& 31)).toInt64) * ((p4 >>> ((11 : Int32) &&& 31)).toInt64)) - (((p2 >>> ((11 : Int32) &&& 31)).toInt64) * ((p3 >>> ((11 : Int32) &&& 31)).toInt64))) + (((p3 >>> ((11 : Int32) &&& 31)).toInt64) * ((p6 >>> ((11 : Int32) &&& 31)).toInt64))) - (((p4 >>> ((11 : Int32) &&& 31)).toInt64) * ((p5 >>> ((11 : Int32) &&& 31)).toInt64))) + (((p5 >>> ((11 : Int32) &&& 31)).toInt64) * ((p2 >>> ((11 : Int32) &&& 31)).toInt64))) - (((p6 >>> ((11 : Int32) &&& 31)).toInt64) * ((p1 >>> ((11 : Int32) &&& 31)).toInt64))))) .l))])) _
    refine XS.ifNo X_q1.here hx rfl (hb hby at_110) rfl ((if0 _ _).trans (teq hc_q2).2) ?_
    show Steps p.tables e below (T_q1.setTop (mkF m 113 #[.val (.int p1), .val (.int p2), .val (.int p3), .val (.int p4), .val (.int p5), .val (.int p6), .val (.long ((p1 >>> ((11 : Int32) &&& 31)).toInt64)), .second, .val (.long ((p2 >>> ((11 : Int32) &&& 31)).toInt64)), .second, .val (.long ((p3 >>> ((11 : Int32) &&& 31)).toInt64)), .second, .val (.long ((p4 >>> ((11 : Int32) &&& 31)).toInt64)), .second, .val (.long ((p5 >>> ((11 : Int32) &&& 31)).toInt64)), .second, .val (.long ((p6 >>> ((11 : Int32) &&& 31)).toInt64)), .second, .val (.double (G1 (FP.l2d ((p1 >>> ((11 : Int32) &&& 31)).toInt64)) (FP.l2d ((p2 >>> ((11 : Int32) &&& 31)).toInt64)) (FP.l2d ((p3 >>> ((11 : Int32) &&& 31)).toInt64)) (FP.l2d ((p4 >>> ((11 : Int32) &&& 31)).toInt64)) (FP.l2d ((p5 >>> ((11 : Int32) &&& 31)).toInt64)) (FP.l2d ((p6 >>> ((11 : Int32) &&& 31)).toInt64)))), .second, .val (.long ((((((((p1 >>> ((11 : Int32) &&& 31)).toInt64) * ((p4 >>> ((11 : Int32) &&& 31)).toInt64)) - (((p2 >>> ((11 : Int32) &&& 31)).toInt64) * ((p3 >>> ((11 : Int32) &&& 31)).toInt64))) + (((p3 >>> ((11 : Int32) &&& 31)).toInt64) * ((p6 >>> ((11 : Int32) &&& 31)).toInt64))) - (((p4 >>> ((11 : Int32) &&& 31)).toInt64) * ((p5 >>> ((11 : Int32) &&& 31)).toInt64))) + (((p5 >>> ((11 : Int32) &&& 31)).toInt64) * ((p2 >>> ((11 : Int32) &&& 31)).toInt64))) - (((p6 >>> ((11 : Int32) &&& 31)).toInt64) * ((p1 >>> ((11 : Int32) &&& 31)).toInt64)))), .second] [])) _
    refine XS.iconst X_q1.here hx rfl (hb hby at_113) ?_
    show Steps p.tables e below (T_q1.setTop (mkF m 114 #[.val (.int p1), .val (.int p2), .val (.int p3), .val (.int p4), .val (.int p5), .val (.int p6), .val (.long ((p1 >>> ((11 : Int32) &&& 31)).toInt64)), .second, .val (.long ((p2 >>> ((11 : Int32) &&& 31)).toInt64)), .second, .val (.long ((p3 >>> ((11 : Int32) &&& 31)).toInt64)), .second, .val (.long ((p4 >>> ((11 : Int32) &&& 31)).toInt64)), .second, .val (.long ((p5 >>> ((11 : Int32) &&& 31)).toInt64)), .second, .val (.long ((p6 >>> ((11 : Int32) &&& 31)).toInt64)), .second, .val (.double (G1 (FP.l2d ((p1 >>> ((11 : Int32) &&& 31)).toInt64)) (FP.l2d ((p2 >>> ((11 : Int32) &&& 31)).toInt64)) (FP.l2d ((p3 >>> ((11 : Int32) &&& 31)).toInt64)) (FP.l2d ((p4 >>> ((11 : Int32) &&& 31)).toInt64)) (FP.l2d ((p5 >>> ((11 : Int32) &&& 31)).toInt64)) (FP.l2d ((p6 >>> ((11 : Int32) &&& 31)).toInt64)))), .second, .val (.long ((((((((p1 >>> ((11 : Int32) &&& 31)).toInt64) * ((p4 >>> ((11 : Int32) &&& 31)).toInt64)) - (((p2 >>> ((11 : Int32) &&& 31)).toInt64) * ((p3 >>> ((11 : Int32) &&& 31)).toInt64))) + (((p3 >>> ((11 : Int32) &&& 31)).toInt64) * ((p6 >>> ((11 : Int32) &&& 31)).toInt64))) - (((p4 >>> ((11 : Int32) &&& 31)).toInt64) * ((p5 >>> ((11 : Int32) &&& 31)).toInt64))) + (((p5 >>> ((11 : Int32) &&& 31)).toInt64) * ((p2 >>> ((11 : Int32) &&& 31)).toInt64))) - (((p6 >>> ((11 : Int32) &&& 31)).toInt64) * ((p1 >>> ((11 : Int32) &&& 31)).toInt64)))), .second] [(.int (1 : Int32))])) _
    refine XS.goto X_q1.here hx rfl (pc0 := 114) (pc' := 118) rfl (hb hby at_114) (by decide) (by decide) ?_
    show Steps p.tables e below (T_q1.setTop (mkF m 118 #[.val (.int p1), .val (.int p2), .val (.int p3), .val (.int p4), .val (.int p5), .val (.int p6), .val (.long ((p1 >>> ((11 : Int32) &&& 31)).toInt64)), .second, .val (.long ((p2 >>> ((11 : Int32) &&& 31)).toInt64)), .second, .val (.long ((p3 >>> ((11 : Int32) &&& 31)).toInt64)), .second, .val (.long ((p4 >>> ((11 : Int32) &&& 31)).toInt64)), .second, .val (.long ((p5 >>> ((11 : Int32) &&& 31)).toInt64)), .second, .val (.long ((p6 >>> ((11 : Int32) &&& 31)).toInt64)), .second, .val (.double (G1 (FP.l2d ((p1 >>> ((11 : Int32) &&& 31)).toInt64)) (FP.l2d ((p2 >>> ((11 : Int32) &&& 31)).toInt64)) (FP.l2d ((p3 >>> ((11 : Int32) &&& 31)).toInt64)) (FP.l2d ((p4 >>> ((11 : Int32) &&& 31)).toInt64)) (FP.l2d ((p5 >>> ((11 : Int32) &&& 31)).toInt64)) (FP.l2d ((p6 >>> ((11 : Int32) &&& 31)).toInt64)))), .second, .val (.long ((((((((p1 >>> ((11 : Int32) &&& 31)).toInt64) * ((p4 >>> ((11 : Int32) &&& 31)).toInt64)) - (((p2 >>> ((11 : Int32) &&& 31)).toInt64) * ((p3 >>> ((11 : Int32) &&& 31)).toInt64))) + (((p3 >>> ((11 : Int32) &&& 31)).toInt64) * ((p6 >>> ((11 : Int32) &&& 31)).toInt64))) - (((p4 >>> ((11 : Int32) &&& 31)).toInt64) * ((p5 >>> ((11 : Int32) &&& 31)).toInt64))) + (((p5 >>> ((11 : Int32) &&& 31)).toInt64) * ((p2 >>> ((11 : Int32) &&& 31)).toInt64))) - (((p6 >>> ((11 : Int32) &&& 31)).toInt64) * ((p1 >>> ((11 : Int32) &&& 31)).toInt64)))), .second] [(.int (1 : Int32))])) _
    exact retN X_q1 hx (t := .boolean) Bd.returns (by simp) (hb hby at_118) hr
  · show Q_law Z p1 p2 p3 p4 p5 p6 h0 n0 _ T_q1.heap _
    exact ⟨rfl, N_q1⟩
theorem own_i (p : Int32) : -1048576 ≤ ((p >>> ((11 : Int32) &&& 31)).toInt64).toInt ∧ ((p >>> ((11 : Int32) &&& 31)).toInt64).toInt < 1048576 := by
  have a := p.le_toInt
  have b := p.toInt_lt
  have e : (p >>> ((11 : Int32) &&& 31)).toInt = p.toInt / 2 ^ 11 := Jvm.Kit.i32_shr p _ (k := 11) (by decide)
  rw [Jvm.Kit.i64_of_i32, e]
  omega
theorem own_nn {i : Int} {a : UInt64} (h : Jvm.FP.Core.DInt i a) : Jvm.Free.Fl.NoNaN64 a := Jvm.Free.Fl.noNaN64_no.mpr ((Jvm.FP.Core.notNaN_iff a).mpr (Jvm.FP.Core.DInt_ne_nan h))
theorem own_l {a : Int64} (h1 : -1048576 ≤ a.toInt) (h2 : a.toInt < 1048576) : Jvm.FP.Core.DInt a.toInt (FP.l2d a) := Jvm.FP.Core.l2d_int (by omega)
theorem own_s {i j : Int} {a b : UInt64} (ha : Jvm.FP.Core.DInt i a) (hb : Jvm.FP.Core.DInt j b) (h : (i - j).natAbs ≤ 2 ^ 53) : Jvm.FP.Core.DInt (i - j) (FP.dsub a b) := Jvm.FP.Core.dsub_int ha hb h
theorem own_m {i j : Int} {a b : UInt64} (ha : Jvm.FP.Core.DInt i a) (hb : Jvm.FP.Core.DInt j b) (h : (i * j).natAbs ≤ 2 ^ 53) : Jvm.FP.Core.DInt (i * j) (FP.dmul a b) := Jvm.FP.Core.dmul_int ha hb h
theorem own_bnd {i j : Int} (a1 : -2097152 ≤ i) (a2 : i ≤ 2097152) (b1 : -2097152 ≤ j) (b2 : j ≤ 2097152) : -4398046511104 ≤ i * j ∧ i * j ≤ 4398046511104 := by
  have h1 : i.natAbs ≤ 2097152 := by omega
  have h2 : j.natAbs ≤ 2097152 := by omega
  have h3 : (i * j).natAbs ≤ 2097152 * 2097152 := by rw [Int.natAbs_mul]; exact Nat.mul_le_mul h1 h2
  omega
theorem own_cmp {i : Int} {a b : UInt64} (ha : Jvm.FP.Core.DInt i a) (hb : Jvm.FP.Core.DInt i b) : cmpValue (FP.dcmp a b) .l = 0 := by
  have h : FP.dcmp a b = some (compare i i) := Jvm.FP.Core.dcmp_int ha hb
  rw [h, show compare i i = .eq from Int.compare_eq_eq.mpr rfl]
  rfl
theorem own_mod (x : Int) : (x.bmod (2 ^ 64) - x) % 18446744073709551616 = 0 := by have := Int.bmod_emod (x := x) (m := 2 ^ 64); omega
theorem own_ref (a b c d e f : Int64) (h1 : -1048576 ≤ a.toInt ∧ a.toInt < 1048576) (h2 : -1048576 ≤ b.toInt ∧ b.toInt < 1048576) (h3 : -1048576 ≤ c.toInt ∧ c.toInt < 1048576) (h4 : -1048576 ≤ d.toInt ∧ d.toInt < 1048576) (h5 : -1048576 ≤ e.toInt ∧ e.toInt < 1048576) (h6 : -1048576 ≤ f.toInt ∧ f.toInt < 1048576) :
    ((((((a * d) - (b * c)) + (c * f)) - (d * e)) + (e * b)) - (f * a)).toInt = (c.toInt - a.toInt) * (f.toInt - b.toInt) - (d.toInt - b.toInt) * (e.toInt - a.toInt) := by
  have k : ∀ x y : Int64, (-1048576 ≤ x.toInt ∧ x.toInt < 1048576) → (-1048576 ≤ y.toInt ∧ y.toInt < 1048576) → (x * y).toInt = x.toInt * y.toInt ∧ -4398046511104 ≤ x.toInt * y.toInt ∧ x.toInt * y.toInt ≤ 4398046511104 := fun x y hx hy => by
    have q := own_bnd (i := x.toInt) (j := y.toInt) (by omega) (by omega) (by omega) (by omega)
    exact ⟨Jvm.Kit.i64_mul (by omega) (by omega), q⟩
  obtain ⟨e1, l1, u1⟩ := k a d h1 h4
  obtain ⟨e2, l2, u2⟩ := k b c h2 h3
  obtain ⟨e3, l3, u3⟩ := k c f h3 h6
  obtain ⟨e4, l4, u4⟩ := k d e h4 h5
  obtain ⟨e5, l5, u5⟩ := k e b h5 h2
  obtain ⟨e6, l6, u6⟩ := k f a h6 h1
  have s1 : ((a * d) - (b * c)).toInt = a.toInt * d.toInt - b.toInt * c.toInt := by rw [Jvm.Kit.i64_sub] <;> rw [e1, e2] <;> omega
  have s2 : (((a * d) - (b * c)) + (c * f)).toInt = a.toInt * d.toInt - b.toInt * c.toInt + c.toInt * f.toInt := by rw [Jvm.Kit.i64_add] <;> rw [s1, e3] <;> omega
  have s3 : ((((a * d) - (b * c)) + (c * f)) - (d * e)).toInt = a.toInt * d.toInt - b.toInt * c.toInt + c.toInt * f.toInt - d.toInt * e.toInt := by rw [Jvm.Kit.i64_sub] <;> rw [s2, e4] <;> omega
  have s4 : (((((a * d) - (b * c)) + (c * f)) - (d * e)) + (e * b)).toInt = a.toInt * d.toInt - b.toInt * c.toInt + c.toInt * f.toInt - d.toInt * e.toInt + e.toInt * b.toInt := by rw [Jvm.Kit.i64_add] <;> rw [s3, e5] <;> omega
  have s5 : ((((((a * d) - (b * c)) + (c * f)) - (d * e)) + (e * b)) - (f * a)).toInt = a.toInt * d.toInt - b.toInt * c.toInt + c.toInt * f.toInt - d.toInt * e.toInt + e.toInt * b.toInt - f.toInt * a.toInt := by rw [Jvm.Kit.i64_sub] <;> rw [s4, e6] <;> omega
  rw [s5]
  grind
theorem rm0 (l : Launch) (Z : State) (a0 : Array Value) (hw : ∀ d ∈ tables_1, d.before a0 Z = true) (ws : List Jvm.Cond) (p1 : Int32) (p2 : Int32) (p3 : Int32) (p4 : Int32) (p5 : Int32) (p6 : Int32) (h0 : Heap) (n0 : Nat) (Z0 : n0 ≤ h0.size) :
    MetFree l x (head1 (Jvm.Cond.code x code maxLocals ret :: ws) room_1) (fun a U => a = #[(.int p1), (.int p2), (.int p3), (.int p4), (.int p5), (.int p6)] ∧ Z.Warmed39 U.vm ∧ U.heap = h0) (fun _ _ _ _ _ => True) (fun _ U o U' => ∃ v L, o = .returned v ∧ Q_law Z p1 p2 p3 p4 p5 p6 h0 n0 v U'.heap L ∧ FrameEnd U o U' L room_1.cells room_1.slots) := by
  have b1 := own_i p1
  have d1 := own_l b1.1 b1.2
  have b2 := own_i p2
  have d2 := own_l b2.1 b2.2
  have b3 := own_i p3
  have d3 := own_l b3.1 b3.2
  have b4 := own_i p4
  have d4 := own_l b4.1 b4.2
  have b5 := own_i p5
  have d5 := own_l b5.1 b5.2
  have b6 := own_i p6
  have d6 := own_l b6.1 b6.2
  have rf := own_ref _ _ _ _ _ _ b1 b2 b3 b4 b5 b6
  have x1 := own_s d3 d1 (by omega)
  have x2 := own_s d6 d2 (by omega)
  have x3 := own_s d4 d2 (by omega)
  have x4 := own_s d5 d1 (by omega)
  have n1 := own_bnd (i := ((p3 >>> ((11 : Int32) &&& 31)).toInt64).toInt - ((p1 >>> ((11 : Int32) &&& 31)).toInt64).toInt) (j := ((p6 >>> ((11 : Int32) &&& 31)).toInt64).toInt - ((p2 >>> ((11 : Int32) &&& 31)).toInt64).toInt) (by omega) (by omega) (by omega) (by omega)
  have n2 := own_bnd (i := ((p4 >>> ((11 : Int32) &&& 31)).toInt64).toInt - ((p2 >>> ((11 : Int32) &&& 31)).toInt64).toInt) (j := ((p5 >>> ((11 : Int32) &&& 31)).toInt64).toInt - ((p1 >>> ((11 : Int32) &&& 31)).toInt64).toInt) (by omega) (by omega) (by omega) (by omega)
  have y1 := own_m x1 x2 (by omega)
  have y2 := own_m x3 x4 (by omega)
  have z := own_s y1 y2 (by omega)
  rw [← rf] at z
  have w : Jvm.FP.Core.DInt _ (FP.l2d ((((((((p1 >>> ((11 : Int32) &&& 31)).toInt64) * ((p4 >>> ((11 : Int32) &&& 31)).toInt64)) - (((p2 >>> ((11 : Int32) &&& 31)).toInt64) * ((p3 >>> ((11 : Int32) &&& 31)).toInt64))) + (((p3 >>> ((11 : Int32) &&& 31)).toInt64) * ((p6 >>> ((11 : Int32) &&& 31)).toInt64))) - (((p4 >>> ((11 : Int32) &&& 31)).toInt64) * ((p5 >>> ((11 : Int32) &&& 31)).toInt64))) + (((p5 >>> ((11 : Int32) &&& 31)).toInt64) * ((p2 >>> ((11 : Int32) &&& 31)).toInt64))) - (((p6 >>> ((11 : Int32) &&& 31)).toInt64) * ((p1 >>> ((11 : Int32) &&& 31)).toInt64)))) := Jvm.FP.Core.l2d_int (by rw [rf]; omega)
  exact rm0_f l Z a0 hw ws p1 p2 p3 p4 p5 p6 h0 n0 Z0 (own_nn x1) (own_nn x2) (own_nn y1) (own_nn x3) (own_nn x4) (own_nn y2) (own_nn z) (own_cmp z w)
set_option maxRecDepth 65536 in
set_option maxHeartbeats 40000000 in
theorem comes_1 {Post : Tables → Env → Array Value → State → Outcome → State → Prop} (hpost : ∀ tb e args s v u, (limb_1_1.after args s (.returned v) u = true ∧ limb_1_2.after args s (.returned v) u = true ∧ True) → FrameEnd s (.returned v) u (Jvm.fieldLocs frame_1_writes args s ++ Jvm.arrayLocs frame_1_arrays args s ++ Jvm.staticLocs frame_1_statics s) 0 0 → Post tb e args s (.returned v) u) :
    ArmFor flags0 classFile x code maxLocals ret World_1 tables_1 room_1 Calls_1 rest_1 Pre_1 Post := by
  intro l hfl _ _ p e ha hc hk s m args below hf hA hF happ hP
  obtain ⟨hcalls, hrest, hpre⟩ := hP
  obtain ⟨-, -, -, hnamed, -, -, -, hat⟩ := (Spec.applies_iff hf).mp happ
  obtain ⟨hg, hn⟩ := and_e (Cond.before_iff.mp (show (Jvm.Cond.and given_1 narrow_1).before args s = true from hpre))
  obtain ⟨ga0, gb0⟩ := and_e hg
  obtain ⟨ga1, gb1⟩ := and_e gb0
  obtain ⟨ga2, gb2⟩ := and_e gb1
  obtain ⟨ga3, gb3⟩ := and_e gb2
  obtain ⟨ga4, gb4⟩ := and_e gb3
  obtain ⟨ga5, gb5⟩ := and_e gb4
  obtain ⟨w0, w1, w2, w3, w4, w5, rfl⟩ : ∃ w0 w1 w2 w3 w4 w5 : Value, args = #[w0, w1, w2, w3, w4, w5] := by
    have hs : args.size = 6 := by simpa [Cond.value, given_1] using ga0
    obtain ⟨L⟩ := args
    match L, hs with
    | [w0, w1, w2, w3, w4, w5], _ => exact ⟨w0, w1, w2, w3, w4, w5, rfl⟩
  have hw := fun d (hd : d ∈ tables_1) => atoms_spec (ws := Jvm.Cond.code x code maxLocals ret :: tables_1) hat d (List.mem_cons_of_mem _ hd)
  obtain ⟨i0, ei0⟩ := is_v ga1
  obtain rfl : w0 = (.int i0) := Option.some.inj ei0
  obtain ⟨i1, ei1⟩ := is_v ga2
  obtain rfl : w1 = (.int i1) := Option.some.inj ei1
  obtain ⟨i2, ei2⟩ := is_v ga3
  obtain rfl : w2 = (.int i2) := Option.some.inj ei2
  obtain ⟨i3, ei3⟩ := is_v ga4
  obtain rfl : w3 = (.int i3) := Option.some.inj ei3
  obtain ⟨i4, ei4⟩ := is_v ga5
  obtain rfl : w4 = (.int i4) := Option.some.inj ei4
  obtain ⟨i5, ei5⟩ := is_v gb5
  obtain rfl : w5 = (.int i5) := Option.some.inj ei5
  obtain ⟨n, o, h1, h2, h3, _, L, rfl, ⟨rfl, N⟩, hq⟩ := rm0 l s _ hw tables_1 i0 i1 i2 i3 i4 i5  s.heap s.heap.size (Nat.le_refl _)  p e ha hc hk s m _ below hf ((Spec.applies_iff_loose hf).mp happ).1 ⟨rfl, State.Warmed39.refl s, rfl⟩ trivial
  refine ⟨n, _, h1, h2, h3, hpost _ _ _ _ _ _ ⟨Cond.after_iff.mpr rfl, Cond.after_iff.mpr (eq_i res_at (Term.int_eval (1)) rfl), trivial⟩ ⟨hq.1, hq.2.1, (hq.2.2.sift fun y hy => Or.inr (N y hy)).mono (by decide) (by decide)⟩⟩
theorem main_1_1 : Claimed_1_1 := comes_1 fun _ _ _ _ _ _ h hF => ⟨h.1, hF⟩
theorem main_1_2 : Claimed_1_2 := comes_1 fun _ _ _ _ _ _ h hF => ⟨h.2.1, hF⟩
end Jvm.Pilot.@@N@@
namespace Jvm.Pilot.@@N@@
open Jvm Jvm.ClassFile Sem Op Lib Jvm.Free Jvm.Stand Jvm.Pilot.@@N@@.Jvm.D
/-! MADE BY PROGRAM (witnessworld.py) out of the Statement's table words and the real class files: 9 classes; the members and pool entries that the words name. The judged class is class 1, her method 1. -/
namespace start1
open Jvm.ClassFile
def u (s : String) : CpInfo := .utf8 (stringToUtf16 s)
/-- a pool by its gaps: so many unusable entries, then the entry; so many at the end -/
def gap : Nat → List CpInfo → List CpInfo
  | 0, r => r
  | n + 1, r => .unusable :: gap n r
def poolList (es : List (Nat × CpInfo)) (last : Nat) : List CpInfo := es.foldr (fun e r => gap e.1 (e.2 :: r)) (gap last [])
def pool (es : List (Nat × CpInfo)) (last : Nat) : Array CpInfo := ⟨poolList es last⟩
def fileOf (pool : Array CpInfo) (this : Nat) (attrs : Array Attribute := #[]) (ms : Array MethodInfo := #[]) (fl : Nat := 33) (sup : Nat := 0) (ifs : Array Nat := #[]) (fds : Array FieldInfo := #[]) : ClassFile where
  minorVersion := 0
  majorVersion := 65
  constantPool := pool
  accessFlags := fl
  thisClass := this
  superClass := sup
  interfaces := ifs
  fields := fds
  methods := ms
  attributes := attrs
def plain (name : String) (sup : Option ClassId) : Class where
  name := name
  kind := .ordinary
  loader := none
  accessFlags := 33
  super := sup
  interfaces := #[]
  cf := none
  fields := #[]
  methods := #[]
  instanceTypes := #[]
  staticTypes := #[]
  resolved := #[]
  callSites := []
  init := .initialized
  statics := none
  mirror := none

def pool0 : Array CpInfo := pool [(5, u "<init>"), (0, u "()V"), (1, .class_ 10), (1, u "java/lang/Object")] 113

def k0m0 : Method := { name := "<init>", desc := "()V", sig := { parameters := [], returnType := none }, accessFlags := 1, code := none }
/-- java/lang/Object -/
def k0 : Class := { plain "java/lang/Object" none with
  accessFlags := 33
  interfaces := #[]
  cf := some (fileOf pool0 8 #[] #[{ accessFlags := 1, nameIndex := 5, descriptorIndex := 6, attributes := #[] }] 33 0 #[] #[])
  fields := #[]
  methods := #[k0m0]
  instanceTypes := #[]
  staticTypes := #[]
  resolved := Array.replicate 124 none
  statics := none }

def pool1 : Array CpInfo := pool [(2, .class_ 4), (1, u "java/lang/Object"), (0, u "<init>"), (0, u "()V"), (0, .methodref 8 9), (0, .class_ 10), (0, .nameAndType 11 12), (0, u "com/example/edgeconomy/edgeconomy/layouts/TriangleEnergy"), (0, u "turn"), (0, u "(DDDDDD)D"), (0, .class_ 14), (0, u "com/example/edgeconomy/edgeconomy/layouts/TriangleEnergyTurnPinLaw"), (2, u "law"), (0, u "(IIIIII)Z")] 3

def k1m0 : Method := { name := "<init>", desc := "()V", sig := { parameters := [], returnType := none }, accessFlags := 1, code := none }
def k1c1 : Code := { maxStack := 12, maxLocals := 22, code := code, exceptionTable := #[], attributes := #[] }
def k1m1 : Method := { name := "law", desc := "(IIIIII)Z", sig := { parameters := [.int, .int, .int, .int, .int, .int], returnType := some .boolean }, accessFlags := 9, code := some k1c1 }
/-- com/example/edgeconomy/edgeconomy/layouts/TriangleEnergyTurnPinLaw -/
def k1 : Class := { plain "com/example/edgeconomy/edgeconomy/layouts/TriangleEnergyTurnPinLaw" (some 0) with
  accessFlags := 49
  interfaces := #[]
  cf := some (fileOf pool1 13 #[] #[{ accessFlags := 1, nameIndex := 5, descriptorIndex := 6, attributes := #[] }, { accessFlags := 9, nameIndex := 17, descriptorIndex := 18, attributes := #[] }] 49 2 #[] #[])
  fields := #[]
  methods := #[k1m0, k1m1]
  instanceTypes := #[]
  staticTypes := #[]
  resolved := Array.replicate 22 none
  statics := none }

def pool2 : Array CpInfo := pool [(2, .class_ 4), (1, u "java/lang/Object"), (3, .class_ 10), (1, u "com/example/edgeconomy/edgeconomy/layouts/TriangleEnergy"), (0, u "areaWeight"), (0, u "D"), (9, u "smallestHeight"), (6, u "turn"), (0, u "(DDDDDD)D"), (17, u "EQUILATERAL")] 21

def k2c0 : Code := { maxStack := 8, maxLocals := 12, code := prog_73_method_7_code, exceptionTable := #[], attributes := #[] }
def k2m0 : Method := { name := "turn", desc := "(DDDDDD)D", sig := { parameters := [.double, .double, .double, .double, .double, .double], returnType := some .double }, accessFlags := 8, code := some k2c0 }
/-- com/example/edgeconomy/edgeconomy/layouts/TriangleEnergy -/
def k2 : Class := { plain "com/example/edgeconomy/edgeconomy/layouts/TriangleEnergy" (some 0) with
  accessFlags := 32
  interfaces := #[]
  cf := some (fileOf pool2 8 #[] #[{ accessFlags := 8, nameIndex := 29, descriptorIndex := 30, attributes := #[] }] 32 2 #[] #[{ accessFlags := 26, nameIndex := 48, descriptorIndex := 12, attributes := #[] }, { accessFlags := 18, nameIndex := 11, descriptorIndex := 12, attributes := #[] }, { accessFlags := 2, nameIndex := 22, descriptorIndex := 12, attributes := #[] }])
  fields := #[{ name := "EQUILATERAL", type := .double, accessFlags := 26, slot := 0, constantValue := 0 }, { name := "areaWeight", type := .double, accessFlags := 18, slot := 0, constantValue := 0 }, { name := "smallestHeight", type := .double, accessFlags := 2, slot := 1, constantValue := 0 }]
  methods := #[k2m0]
  instanceTypes := #[.double, .double]
  staticTypes := #[.double]
  resolved := Array.replicate 70 none
  statics := none }

def pool3 : Array CpInfo := pool [(1, u "java/lang/Cloneable"), (0, .class_ 1), (0, u "java/lang/Object"), (0, .class_ 3)] 3

/-- java/lang/Cloneable -/
def k3 : Class := { plain "java/lang/Cloneable" (some 0) with
  accessFlags := 1537
  interfaces := #[]
  cf := some (fileOf pool3 2 #[] #[] 1537 4 #[] #[])
  fields := #[]
  methods := #[]
  instanceTypes := #[]
  staticTypes := #[]
  resolved := Array.replicate 8 none
  statics := none }

def pool4 : Array CpInfo := pool [(1, u "java/io/Serializable"), (0, .class_ 1), (0, u "java/lang/Object"), (0, .class_ 3)] 3

/-- java/io/Serializable -/
def k4 : Class := { plain "java/io/Serializable" (some 0) with
  accessFlags := 1537
  interfaces := #[]
  cf := some (fileOf pool4 2 #[] #[] 1537 4 #[] #[])
  fields := #[]
  methods := #[]
  instanceTypes := #[]
  staticTypes := #[]
  resolved := Array.replicate 8 none
  statics := none }

/-- the primitive byte -/
def k5 : Class := { plain "byte" none with kind := .primitive 'B', accessFlags := 0x411 }
/-- [B -/
def k6 : Class := { plain "[B" (some 0) with kind := .array 5 .byte, interfaces := #[3, 4], accessFlags := 1041 }

/-- the primitive int -/
def k7 : Class := { plain "int" none with kind := .primitive 'I', accessFlags := 0x411 }
/-- [I -/
def k8 : Class := { plain "[I" (some 0) with kind := .array 7 .int, interfaces := #[3, 4], accessFlags := 1041 }

def heap : Heap := #[]
def classes : Array Class := #[k0, k1, k2, k3, k4, k5, k6, k7, k8]
def interned : List (Array UInt16 × Addr) := []
def slotsUsed : Nat := 0
def theMethod : MethodId := ⟨1, 1⟩
def args0 : Array Value := #[.int 5, .int 3, .int 2000000, .int 7, .int 1, .int (-400000)]
def aboutOver (below : List Frame) : State where
  vm := { classes := classes, interned := interned.toArray }
  heap := heap
  slotsUsed := slotsUsed
  threads := #[{ frames := .invoking theMethod args0 :: below }]
def below0 : List Frame := [.native { method := ⟨0, 0⟩, args := #[] }]
def about1 : State := aboutOver below0
def p0 : Program := .bare "" "" ""
def e0 : Env := launch0.env 0 0 0
theorem w_frames : about1.frames = Frame.invoking theMethod args0 :: below0 := rfl
set_option maxRecDepth 65536 in
theorem w_args : argsFit about1.vm theMethod args0 = true := by decide +kernel
set_option maxRecDepth 65536 in
theorem w_heap : heapFits about1 = true := by decide +kernel
set_option maxRecDepth 65536 in
theorem w_runnable : about1.curStatus? = some .runnable := by decide +kernel
set_option maxRecDepth 65536 in
theorem w_alone : about1.alone = true := by decide +kernel
set_option maxRecDepth 65536 in
theorem w_named : about1.methodNamed? x = some theMethod := by decide +kernel
set_option maxRecDepth 65536 in
theorem w_hears : about1.hears theMethod below0 = true := by decide +kernel
set_option maxRecDepth 65536 in
theorem w_ripe : about1.ripe theMethod args0 below0 = true := by decide +kernel
theorem w_running : about1.status = .running := rfl
set_option maxRecDepth 65536 in
theorem w_room : about1.hasRoom e0.platform room_1 = true :=
  launch0.hasRoom_least _ room_1 (by decide +kernel) (by decide +kernel) (by decide +kernel) (by decide +kernel) (by decide +kernel) (by decide +kernel)
theorem allAtoms_all (ts : List Jvm.Cond) (a : Array Jvm.Value) (st : Jvm.State) : (allAtoms ts).before a st = ts.all (fun c => c.before a st) := by
  induction ts with
  | nil => rfl
  | cons c t ih =>
    show (Jvm.Cond.and c (allAtoms t)).before a st = _
    rw [Jvm.Cond.before_and, ih, List.all_cons]
def words1 : List Jvm.Cond := Jvm.Cond.code x code maxLocals ret :: tables_1
/-- a 'code' word, met by the world's own term for the bytes: nothing is compared byte by byte -/
theorem code_word {y : MethodName} {bytes : ByteArray} {mx : Nat} {rt : Option FieldType} {a : Array Value} {s : State} {m : MethodId} {meth : Method} {c : Code} (h1 : s.methodNamed? y = some m) (h2 : s.vm.method? m = some meth) (h3 : meth.code = some c) (h4 : c.code = bytes)
    (h5 : (c.maxLocals == mx && c.exceptionTable.isEmpty && decide (c.maxStack ≤ mostOperands) && decide (meth.sig.returnType = rt) && !meth.locks && decide (parseMethodDescriptor y.desc = some meth.sig)) = true) : (Jvm.Cond.code y bytes mx rt).before a s = true := by
  simp only [Bool.and_eq_true, beq_iff_eq, Bool.not_eq_true', decide_eq_true_eq] at h5
  obtain ⟨⟨⟨⟨⟨g1, g2⟩, g3⟩, g4⟩, g5⟩, g6⟩ := h5
  simp [Cond.before, Cond.holds, Cond.value, h1, h2, h3, h4, g1, g2, g3, g4, g5, g6]
def isCode : Jvm.Cond → Bool
  | .code _ _ _ _ => true
  | _ => false
theorem all_split {L : List Jvm.Cond} {P : Jvm.Cond → Bool} (h1 : L.all (fun c => isCode c || P c) = true) (h2 : ∀ c ∈ L.filter isCode, P c = true) : L.all P = true := by
  refine List.all_eq_true.mpr fun c hc => ?_
  have h := List.all_eq_true.mp h1 c hc
  rcases Bool.eq_false_or_eq_true (isCode c) with hi | hi
  · exact h2 c (List.mem_filter.mpr ⟨hc, hi⟩)
  · simpa [hi] using h
set_option maxRecDepth 65536 in
theorem w_c0 : (Jvm.Cond.code x code maxLocals ret).before args0 about1 = true := code_word (m := ⟨1, 1⟩) (meth := k1m1) (c := k1c1) (by decide +kernel) rfl rfl rfl (by decide +kernel)
set_option maxRecDepth 65536 in
theorem w_c1 : (Jvm.Cond.code ({ cls := "com/example/edgeconomy/edgeconomy/layouts/TriangleEnergy", name := "turn", desc := "(DDDDDD)D" } : Jvm.MethodName) prog_73_method_7_code (12 : Nat) (Option.some Jvm.ClassFile.FieldType.double)).before args0 about1 = true := code_word (m := ⟨2, 0⟩) (meth := k2m0) (c := k2c0) (by decide +kernel) rfl rfl rfl (by decide +kernel)
def codes1 : List Jvm.Cond := [Jvm.Cond.code x code maxLocals ret, Jvm.Cond.code ({ cls := "com/example/edgeconomy/edgeconomy/layouts/TriangleEnergy", name := "turn", desc := "(DDDDDD)D" } : Jvm.MethodName) prog_73_method_7_code (12 : Nat) (Option.some Jvm.ClassFile.FieldType.double)]
set_option maxRecDepth 65536 in
theorem codes_eq : words1.filter isCode = codes1 := rfl
theorem w_codes : ∀ c ∈ words1.filter isCode, c.before args0 about1 = true := by
  rw [codes_eq]
  intro c hc
  simp only [codes1, List.mem_cons, List.not_mem_nil, or_false] at hc
  rcases hc with rfl | rfl
  · exact w_c0
  · exact w_c1
set_option maxRecDepth 65536 in
theorem w_t1 : words1.all (fun c => isCode c || c.before args0 about1) = true := by decide +kernel
theorem w_tables : (allAtoms (Jvm.Cond.code x code maxLocals ret :: tables_1)).before args0 about1 = true := by
  rw [allAtoms_all]
  show words1.all (fun c => c.before args0 about1) = true
  refine all_split ?_ w_codes
  rw [w_t1]
set_option maxRecDepth 65536 in
theorem w_case : (Jvm.Cond.and given_1 narrow_1).before args0 about1 = true := by decide +kernel
theorem w_applies : (headSpec (Jvm.Cond.code x code maxLocals ret :: tables_1) room_1).applies x e0.platform about1 = true :=
  (Spec.applies_iff w_frames).mpr ⟨w_running, w_runnable, w_alone, w_named, w_hears, w_ripe, w_room, w_tables⟩
theorem atStart : AtStart classFile x code maxLocals ret World_1 tables_1 room_1 Calls_1 rest_1 Pre_1 launch0 p0 e0 about1 theMethod args0 below0 :=
  ⟨lists_1, trivial, launch0.admits_env _ _ _, launch0.least_env, fairChoices_fair.cas, fairChoices_fair.clock, w_frames, w_args, w_heap, w_applies, trivial, trivial, w_case⟩
end start1
theorem witness_1 : WitnessClaimed_1 := ⟨start1.p0, start1.e0, start1.about1, start1.theMethod, start1.args0, start1.below0, start1.atStart⟩
end Jvm.Pilot.@@N@@
