import JvmDerived
import JvmDerived.Pilot.@@N@@Statement
import JvmDerived.Pilot.@@N@@Code
set_option linter.unusedVariables false
set_option linter.unusedSimpArgs false
@@BLOCK:NumsL.lean.txt@@
namespace Jvm.RoadKit
open Sem ClassFile Op Lib Jvm.Stand Jvm.Free Jvm.LawKit
section New
variable {p : Program} {l : Launch} {e : Env} {R : Room} {s : State} {m : MethodId} {args : Array Value} {below : List Frame} {meth : Method} {c : Code} {T : State} {locs : List Loc} {cells slots : Nat}
theorem retI (X : Stand p l e R s m args below meth c T locs cells slots) (hx : p.tables.exec = Jvm.exec) {pc : Nat} {Ls : Array Slot} {z : Int32} {rest : List Value} (hret : meth.sig.returnType = some .int) (hd : decode c.code pc = .ok (.ireturn, 1)) {fs : List Frame}
    (hl : ∀ (f : JFrame) (acts : List Action), f.method = m → f.locked = none → f.entered = [] → (doReturn e (T.setTop f) acts (some (.int z))).1 = T.setFrames fs) : Steps p.tables e below (T.setTop (mkF m pc Ls (.int z :: rest))) (T.setFrames fs) := by
  have hm' : T.vm.method? m = some meth := X.method'
  have hn : narrow .int (.int z) = .int z := rfl
  show Steps p.tables e below (T.setTop { method := m, pc := pc, locals := Ls, stack := _ :: rest, locked := none }) _
  jvm_step X.here [X.here.top, hx, hd, hm', hret, hn]
  first | (intro acts; rw [hl _ acts rfl rfl rfl]) | rw [hl _ _ rfl rfl rfl]
  exact Steps.refl _
end New
end Jvm.RoadKit
namespace Jvm.Pilot.@@N@@
open Jvm Jvm.ClassFile Sem Op Lib Jvm.Free Jvm.Stand Jvm.LawKit Jvm.RoadKit Bundle Jvm.Pilot.@@N@@.Jvm.D
theorem d1_0 : decode prog_23_method_1_code 0 = .ok (.aload_n 0, 1) := by decide +kernel
theorem d1_1 : decode prog_23_method_1_code 1 = .ok (.invokespecial 3, 3) := by decide +kernel
theorem d1_4 : decode prog_23_method_1_code 4 = .ok (.return_, 1) := by decide +kernel
theorem pn_1 : plainName "com/example/failfirst/failfirst/InstanceSize" = true := by first | (simp [plainName, overriddenIn]; done) | decide +kernel
theorem ef_1 (m : MethodId) (x0 : Addr) : entryFrame m #[(.ref x0)] 1 = mkF m 0 #[.val (.ref x0)] [] := by first | (simp [entryFrame, mkF, argsToLocals, Value.category]; done) | rfl
def Q1 (Z : State) (a1 : Addr) (h0 : Heap) (n0 : Nat) (v : Option Value) (h : Heap) (L : List Loc) : Prop := v = none ∧ Fr n0 L ∧ h = h0
set_option maxRecDepth 65536 in
set_option maxHeartbeats 40000000 in
theorem rm1 (l : Launch) (Z : State) (a0 : Array Value) (hw : ∀ d ∈ tables_1, d.before a0 Z = true) (ws : List Jvm.Cond) (a1 : Addr) (h0 : Heap) (n0 : Nat) (Z0 : n0 ≤ h0.size) :
    MetFree l (⟨"com/example/failfirst/failfirst/InstanceSize", "<init>", "()V"⟩ : MethodName) (head1 (Jvm.Cond.code (⟨"com/example/failfirst/failfirst/InstanceSize", "<init>", "()V"⟩ : MethodName) prog_23_method_1_code 1 none :: ws) ({ frames := 1, cells := 0, slots := 0, locals := 12 } : Room)) (fun a U => a = #[(.ref a1)] ∧ Z.Warmed39 U.vm ∧ U.heap = h0) (fun _ _ _ _ _ => True) (fun _ U o U' => ∃ v L, o = .returned v ∧ Q1 Z a1 h0 n0 v U'.heap L ∧ FrameEnd U o U' L ({ frames := 1, cells := 0, slots := 0, locals := 12 } : Room).cells ({ frames := 1, cells := 0, slots := 0, locals := 12 } : Room).slots) := by
  refine MetFree.of_bodySF (plainFor_of_name pn_1) hisR ?_
  intro p e s m args below meth c s₁ Bd hml0 hP hK
  obtain ⟨rfl, hZ, hh⟩ := hP
  have hx := Bd.exec
  have hby := Bd.bytes
  have hml : c.maxLocals = 1 := hml0
  have hown : s.vm.findClass "com/example/failfirst/failfirst/InstanceSize" = some m.cls := findClass_of_methodNamed Bd.named
  have hnm := (name_of_methodNamed Bd.named Bd.method).1
  have X0 : Stand p l e ({ frames := 1, cells := 0, slots := 0, locals := 12 } : Room) s m #[(.ref a1)] below meth c s₁ [] 0 0 := Stand.of_body Bd
  have e0 : s₁.heap = h0 := by rw [← hh, Bd.state]; rfl
  have N0 := Fr.nil n0
  have pre0 : ∀ t, Steps p.tables e below (s₁.setTop (mkF m 0 #[.val (.ref a1)] [])) t → Steps p.tables e below (s₁.setTop (entryFrame m #[(.ref a1)] 1)) t := fun t k => castTop (ef_1 m a1) k
  obtain ⟨T2, X2, e2, st2⟩ := initO X0 hx hZ hown (hw _ (List.mem_of_getElem? (i := 8) rfl)) (hw _ (List.mem_of_getElem? (i := 9) rfl)) (hw _ (List.mem_of_getElem? (i := 10) rfl)) e0 (g := (mkF m 1 #[.val (.ref a1)] [(.ref a1)])) rfl (by rw [hml]; rfl) rfl (hb hby d1_1) (by decide) (W := 0) (by show 2 * 0 + _ ≤ _; exact Nat.le_of_eq rfl) (by decide)
  obtain ⟨fs, hr, hrun, hended, hW, hsame⟩ := X2.leave (v := none) (fun _ => rfl) Bd.notSynchronized
  refine ⟨_, _, pre0 _ ?_, hrun, hended, _, _, rfl, ?_, ⟨_, rfl⟩, hW, hsame.mono (by decide) (by decide)⟩
  · show Steps p.tables e below (s₁.setTop (mkF m 0 #[.val (.ref a1)] [])) _
    refine XS.aloadN X0.here hx rfl (hb hby d1_0) rfl rfl ?_
    show Steps p.tables e below (s₁.setTop (mkF m 1 #[.val (.ref a1)] [(.ref a1)])) _
    refine st2 _ ?_
    show Steps p.tables e below (T2.setTop (mkF m 4 #[.val (.ref a1)] [])) _
    exact X2.returnOut hx Bd.returns (hb hby d1_4) hr
  · show Q1 Z a1 h0 n0 _ T2.heap _
    rw [e2]
    exact ⟨rfl, N0, rfl⟩

theorem d3_0 : decode prog_23_method_2_code 0 = .ok (.aload_n 0, 1) := by decide +kernel
theorem d3_1 : decode prog_23_method_2_code 1 = .ok (.getfield 9, 3) := by decide +kernel
theorem d3_4 : decode prog_23_method_2_code 4 = .ok (.i2l, 1) := by decide +kernel
theorem d3_5 : decode prog_23_method_2_code 5 = .ok (.iload_n 1, 1) := by decide +kernel
theorem d3_6 : decode prog_23_method_2_code 6 = .ok (.i2l, 1) := by decide +kernel
theorem d3_7 : decode prog_23_method_2_code 7 = .ok (.ladd, 1) := by decide +kernel
theorem d3_8 : decode prog_23_method_2_code 8 = .ok (.lstore 4, 2) := by decide +kernel
theorem d3_10 : decode prog_23_method_2_code 10 = .ok (.lload 4, 2) := by decide +kernel
theorem d3_12 : decode prog_23_method_2_code 12 = .ok (.ldc2_w 15, 3) := by decide +kernel
theorem d3_15 : decode prog_23_method_2_code 15 = .ok (.lcmp, 1) := by decide +kernel
theorem d3_16 : decode prog_23_method_2_code 16 = .ok (.ifCond .le 18, 3) := by decide +kernel
theorem d3_34 : decode prog_23_method_2_code 34 = .ok (.aload_n 0, 1) := by decide +kernel
theorem d3_35 : decode prog_23_method_2_code 35 = .ok (.getfield 25, 3) := by decide +kernel
theorem d3_38 : decode prog_23_method_2_code 38 = .ok (.iload_n 1, 1) := by decide +kernel
theorem d3_39 : decode prog_23_method_2_code 39 = .ok (.i2l, 1) := by decide +kernel
theorem d3_40 : decode prog_23_method_2_code 40 = .ok (.iload_n 2, 1) := by decide +kernel
theorem d3_41 : decode prog_23_method_2_code 41 = .ok (.i2l, 1) := by decide +kernel
theorem d3_42 : decode prog_23_method_2_code 42 = .ok (.lmul, 1) := by decide +kernel
theorem d3_43 : decode prog_23_method_2_code 43 = .ok (.ladd, 1) := by decide +kernel
theorem d3_44 : decode prog_23_method_2_code 44 = .ok (.lstore 6, 2) := by decide +kernel
theorem d3_46 : decode prog_23_method_2_code 46 = .ok (.lload 6, 2) := by decide +kernel
theorem d3_48 : decode prog_23_method_2_code 48 = .ok (.ldc2_w 29, 3) := by decide +kernel
theorem d3_51 : decode prog_23_method_2_code 51 = .ok (.lcmp, 1) := by decide +kernel
theorem d3_52 : decode prog_23_method_2_code 52 = .ok (.ifCond .le 18, 3) := by decide +kernel
theorem d3_70 : decode prog_23_method_2_code 70 = .ok (.aload_n 0, 1) := by decide +kernel
theorem d3_71 : decode prog_23_method_2_code 71 = .ok (.lload 4, 2) := by decide +kernel
theorem d3_73 : decode prog_23_method_2_code 73 = .ok (.l2i, 1) := by decide +kernel
theorem d3_74 : decode prog_23_method_2_code 74 = .ok (.putfield 9, 3) := by decide +kernel
theorem d3_77 : decode prog_23_method_2_code 77 = .ok (.aload_n 0, 1) := by decide +kernel
theorem d3_78 : decode prog_23_method_2_code 78 = .ok (.lload 6, 2) := by decide +kernel
theorem d3_80 : decode prog_23_method_2_code 80 = .ok (.putfield 25, 3) := by decide +kernel
theorem d3_83 : decode prog_23_method_2_code 83 = .ok (.return_, 1) := by decide +kernel
theorem pn_3 : plainName "com/example/failfirst/failfirst/InstanceSize" = true := by first | (simp [plainName, overriddenIn]; done) | decide +kernel
theorem ef_3 (m : MethodId) (x0 : Addr) (x1 : Int32) (x2 : Int32) (x3 : Addr) : entryFrame m #[(.ref x0), (.int x1), (.int x2), (.ref x3)] 8 = mkF m 0 #[.val (.ref x0), .val (.int x1), .val (.int x2), .val (.ref x3), .unset, .unset, .unset, .unset] [] := by first | (simp [entryFrame, mkF, argsToLocals, Value.category]; done) | rfl
def Q3 (Z : State) (a1 : Addr) (p2 : Int32) (p3 : Int32) (a4 : Addr) (w5 : Int32) (w7 : Int64) (h0 : Heap) (n0 : Nat) (v : Option Value) (h : Heap) (L : List Loc) : Prop := v = none ∧ Fr n0 L ∧ Keep h0 h [a1] ∧ Exa Z h a1 "com/example/failfirst/failfirst/InstanceSize" ∧ Fld Z h a1 "com/example/failfirst/failfirst/InstanceSize" "variables" "I" (.int (((w5.toInt64) + (p2.toInt64)).toInt32)) ∧ Fld Z h a1 "com/example/failfirst/failfirst/InstanceSize" "values" "J" (.long (w7 + ((p2.toInt64) * (p3.toInt64))))
set_option maxRecDepth 65536 in
set_option maxHeartbeats 40000000 in
theorem rm3 (l : Launch) (Z : State) (a0 : Array Value) (hw : ∀ d ∈ tables_1, d.before a0 Z = true) (ws : List Jvm.Cond) (a1 : Addr) (p2 : Int32) (p3 : Int32) (a4 : Addr) (w5 : Int32) (w7 : Int64) (h0 : Heap) (n0 : Nat) (Z0 : n0 ≤ h0.size) (F_variables_a1 : Fld Z h0 a1 "com/example/failfirst/failfirst/InstanceSize" "variables" "I" (.int w5)) (F_values_a1 : Fld Z h0 a1 "com/example/failfirst/failfirst/InstanceSize" "values" "J" (.long w7)) (E_a1 : Exa Z h0 a1 "com/example/failfirst/failfirst/InstanceSize") (g_a1 : n0 ≤ a1) (hc16 : ¬ ((0 : Int32) < (lcmpW ((w5.toInt64) + (p2.toInt64)) (1048576 : Int64)))) (hc52 : ¬ ((0 : Int32) < (lcmpW (w7 + ((p2.toInt64) * (p3.toInt64))) (67108864 : Int64)))) :
    MetFree l (⟨"com/example/failfirst/failfirst/InstanceSize", "addVariables", "(IILjava/lang/String;)V"⟩ : MethodName) (head1 (Jvm.Cond.code (⟨"com/example/failfirst/failfirst/InstanceSize", "addVariables", "(IILjava/lang/String;)V"⟩ : MethodName) prog_23_method_2_code 8 none :: ws) ({ frames := 0, cells := 0, slots := 0, locals := 0 } : Room)) (fun a U => a = #[(.ref a1), (.int p2), (.int p3), (.ref a4)] ∧ Z.Warmed39 U.vm ∧ U.heap = h0) (fun _ _ _ _ _ => True) (fun _ U o U' => ∃ v L, o = .returned v ∧ Q3 Z a1 p2 p3 a4 w5 w7 h0 n0 v U'.heap L ∧ FrameEnd U o U' L ({ frames := 0, cells := 0, slots := 0, locals := 0 } : Room).cells ({ frames := 0, cells := 0, slots := 0, locals := 0 } : Room).slots) := by
  refine MetFree.of_bodySF (plainFor_of_name pn_3) hisR ?_
  intro p e s m args below meth c s₁ Bd hml0 hP hK
  obtain ⟨rfl, hZ, hh⟩ := hP
  have hx := Bd.exec
  have hby := Bd.bytes
  have hml : c.maxLocals = 8 := hml0
  have hown : s.vm.findClass "com/example/failfirst/failfirst/InstanceSize" = some m.cls := findClass_of_methodNamed Bd.named
  have hnm := (name_of_methodNamed Bd.named Bd.method).1
  have X0 : Stand p l e ({ frames := 0, cells := 0, slots := 0, locals := 0 } : Room) s m #[(.ref a1), (.int p2), (.int p3), (.ref a4)] below meth c s₁ [] 0 0 := Stand.of_body Bd
  have e0 : s₁.heap = h0 := by rw [← hh, Bd.state]; rfl
  have N0 := Fr.nil n0
  have pre0 : ∀ t, Steps p.tables e below (s₁.setTop (mkF m 0 #[.val (.ref a1), .val (.int p2), .val (.int p3), .val (.ref a4), .unset, .unset, .unset, .unset] [])) t → Steps p.tables e below (s₁.setTop (entryFrame m #[(.ref a1), (.int p2), (.int p3), (.ref a4)] 8)) t := fun t k => castTop (ef_3 m a1 p2 p3 a4) k
  obtain ⟨T6, X6, e6, st6⟩ := getF X0 hx hZ hown (host := "") (Or.inl (hw _ (List.mem_of_getElem? (i := 24) rfl))) Via.refl e0 F_variables_a1 (g := (mkF m 1 #[.val (.ref a1), .val (.int p2), .val (.int p3), .val (.ref a4), .unset, .unset, .unset, .unset] [(.ref a1)])) rfl rfl (hb hby d3_1)
  obtain ⟨T8, X8, e8, st8⟩ := getF X6 hx hZ hown (host := "") (Or.inl (hw _ (List.mem_of_getElem? (i := 27) rfl))) Via.refl e6 F_values_a1 (g := (mkF m 35 #[.val (.ref a1), .val (.int p2), .val (.int p3), .val (.ref a4), .val (.long ((w5.toInt64) + (p2.toInt64))), .second, .unset, .unset] [(.ref a1)])) rfl rfl (hb hby d3_35)
  obtain ⟨T9, h9, X9, e9, W9, st9⟩ := putF X8 hx hZ hown (host := "") (Or.inl (hw _ (List.mem_of_getElem? (i := 24) rfl))) Via.refl e8 F_variables_a1 E_a1 (Or.inl (hw _ (List.mem_of_getElem? (i := 25) rfl))) (hw _ (List.mem_of_getElem? (i := 3) rfl)) (ty := .int) (by decide) rfl rfl (g := (mkF m 74 #[.val (.ref a1), .val (.int p2), .val (.int p3), .val (.ref a4), .val (.long ((w5.toInt64) + (p2.toInt64))), .second, .val (.long (w7 + ((p2.toInt64) * (p3.toInt64)))), .second] [(.int (((w5.toInt64) + (p2.toInt64)).toInt32)), (.ref a1)])) rfl rfl (hb hby d3_74)
  have Fw9 := F_variables_a1.same W9
  have K9 : Keep h0 h9 [a1] := (Keep.refl h0 [a1]).wr W9 (Or.inl (List.mem_of_getElem? (i := 0) rfl))
  have N9 := Fr.snoc X9 N0 g_a1
  obtain ⟨T10, h10, X10, e10, W10, st10⟩ := putF X9 hx hZ hown (host := "") (Or.inl (hw _ (List.mem_of_getElem? (i := 27) rfl))) Via.refl e9 (F_values_a1.other W9 (Or.inr (slot_ne (Or.inl (hw _ (List.mem_of_getElem? (i := 28) rfl))) (Or.inl (hw _ (List.mem_of_getElem? (i := 25) rfl))) (by decide) (t := .long) (t' := .int) (by decide) (by decide)))) (E_a1.wr W9) (Or.inl (hw _ (List.mem_of_getElem? (i := 28) rfl))) (hw _ (List.mem_of_getElem? (i := 3) rfl)) (ty := .long) (by decide) rfl rfl (g := (mkF m 80 #[.val (.ref a1), .val (.int p2), .val (.int p3), .val (.ref a4), .val (.long ((w5.toInt64) + (p2.toInt64))), .second, .val (.long (w7 + ((p2.toInt64) * (p3.toInt64)))), .second] [(.long (w7 + ((p2.toInt64) * (p3.toInt64)))), (.ref a1)])) rfl rfl (hb hby d3_80)
  have Fw10 := (F_values_a1.other W9 (Or.inr (slot_ne (Or.inl (hw _ (List.mem_of_getElem? (i := 28) rfl))) (Or.inl (hw _ (List.mem_of_getElem? (i := 25) rfl))) (by decide) (t := .long) (t' := .int) (by decide) (by decide)))).same W10
  have K10 : Keep h0 h10 [a1] := K9.wr W10 (Or.inl (List.mem_of_getElem? (i := 0) rfl))
  have N10 := Fr.snoc X10 N9 g_a1
  obtain ⟨fs, hr, hrun, hended, hW, hsame⟩ := X10.leave (v := none) (fun _ => rfl) Bd.notSynchronized
  refine ⟨_, _, pre0 _ ?_, hrun, hended, _, _, rfl, ?_, ⟨_, rfl⟩, hW, hsame.mono (by decide) (by decide)⟩
  · show Steps p.tables e below (s₁.setTop (mkF m 0 #[.val (.ref a1), .val (.int p2), .val (.int p3), .val (.ref a4), .unset, .unset, .unset, .unset] [])) _
    refine XS.aloadN X0.here hx rfl (hb hby d3_0) rfl rfl ?_
    show Steps p.tables e below (s₁.setTop (mkF m 1 #[.val (.ref a1), .val (.int p2), .val (.int p3), .val (.ref a4), .unset, .unset, .unset, .unset] [(.ref a1)])) _
    refine st6 _ ?_
    show Steps p.tables e below (T6.setTop (mkF m 4 #[.val (.ref a1), .val (.int p2), .val (.int p3), .val (.ref a4), .unset, .unset, .unset, .unset] [(.int w5)])) _
    refine XS.i2l X6.here hx rfl (hb hby d3_4) rfl ?_
    show Steps p.tables e below (T6.setTop (mkF m 5 #[.val (.ref a1), .val (.int p2), .val (.int p3), .val (.ref a4), .unset, .unset, .unset, .unset] [(.long (w5.toInt64))])) _
    refine XS.iloadN X6.here hx rfl (hb hby d3_5) rfl ?_
    show Steps p.tables e below (T6.setTop (mkF m 6 #[.val (.ref a1), .val (.int p2), .val (.int p3), .val (.ref a4), .unset, .unset, .unset, .unset] [(.int p2), (.long (w5.toInt64))])) _
    refine XS.i2l X6.here hx rfl (hb hby d3_6) rfl ?_
    show Steps p.tables e below (T6.setTop (mkF m 7 #[.val (.ref a1), .val (.int p2), .val (.int p3), .val (.ref a4), .unset, .unset, .unset, .unset] [(.long (p2.toInt64)), (.long (w5.toInt64))])) _
    refine XS.ladd X6.here hx rfl (hb hby d3_7) rfl ?_
    show Steps p.tables e below (T6.setTop (mkF m 8 #[.val (.ref a1), .val (.int p2), .val (.int p3), .val (.ref a4), .unset, .unset, .unset, .unset] [(.long ((w5.toInt64) + (p2.toInt64)))])) _
    refine XS.lstore X6.here hx rfl (hb hby d3_8) rfl (l' := #[.val (.ref a1), .val (.int p2), .val (.int p3), .val (.ref a4), .val (.long ((w5.toInt64) + (p2.toInt64))), .second, .unset, .unset]) rfl ?_
    show Steps p.tables e below (T6.setTop (mkF m 10 #[.val (.ref a1), .val (.int p2), .val (.int p3), .val (.ref a4), .val (.long ((w5.toInt64) + (p2.toInt64))), .second, .unset, .unset] [])) _
    refine XS.lload X6.here hx rfl (hb hby d3_10) rfl ?_
    show Steps p.tables e below (T6.setTop (mkF m 12 #[.val (.ref a1), .val (.int p2), .val (.int p3), .val (.ref a4), .val (.long ((w5.toInt64) + (p2.toInt64))), .second, .unset, .unset] [(.long ((w5.toInt64) + (p2.toInt64)))])) _
    refine X6.ldc2Long hx hown (mvT hZ (hw _ (List.mem_of_getElem? (i := 26) rfl))) (g := (mkF m 12 #[.val (.ref a1), .val (.int p2), .val (.int p3), .val (.ref a4), .val (.long ((w5.toInt64) + (p2.toInt64))), .second, .unset, .unset] [(.long ((w5.toInt64) + (p2.toInt64)))])) rfl (hb hby d3_12) _ ?_
    show Steps p.tables e below (T6.setTop (mkF m 15 #[.val (.ref a1), .val (.int p2), .val (.int p3), .val (.ref a4), .val (.long ((w5.toInt64) + (p2.toInt64))), .second, .unset, .unset] [(.long (1048576 : Int64)), (.long ((w5.toInt64) + (p2.toInt64)))])) _
    refine XS.lcmp X6.here hx rfl (hb hby d3_15) rfl ?_
    show Steps p.tables e below (T6.setTop (mkF m 16 #[.val (.ref a1), .val (.int p2), .val (.int p3), .val (.ref a4), .val (.long ((w5.toInt64) + (p2.toInt64))), .second, .unset, .unset] [(.int (lcmpW ((w5.toInt64) + (p2.toInt64)) (1048576 : Int64)))])) _
    refine XS.ifYes X6.here hx rfl (pc0 := 16) (pc' := 34) rfl (hb hby d3_16) rfl ((if0 _ _).trans (flt hc16).2.2.2) (by decide) (by decide) ?_
    show Steps p.tables e below (T6.setTop (mkF m 34 #[.val (.ref a1), .val (.int p2), .val (.int p3), .val (.ref a4), .val (.long ((w5.toInt64) + (p2.toInt64))), .second, .unset, .unset] [])) _
    refine XS.aloadN X6.here hx rfl (hb hby d3_34) rfl rfl ?_
    show Steps p.tables e below (T6.setTop (mkF m 35 #[.val (.ref a1), .val (.int p2), .val (.int p3), .val (.ref a4), .val (.long ((w5.toInt64) + (p2.toInt64))), .second, .unset, .unset] [(.ref a1)])) _
    refine st8 _ ?_
    show Steps p.tables e below (T8.setTop (mkF m 38 #[.val (.ref a1), .val (.int p2), .val (.int p3), .val (.ref a4), .val (.long ((w5.toInt64) + (p2.toInt64))), .second, .unset, .unset] [(.long w7)])) _
    refine XS.iloadN X8.here hx rfl (hb hby d3_38) rfl ?_
    show Steps p.tables e below (T8.setTop (mkF m 39 #[.val (.ref a1), .val (.int p2), .val (.int p3), .val (.ref a4), .val (.long ((w5.toInt64) + (p2.toInt64))), .second, .unset, .unset] [(.int p2), (.long w7)])) _
    refine XS.i2l X8.here hx rfl (hb hby d3_39) rfl ?_
    show Steps p.tables e below (T8.setTop (mkF m 40 #[.val (.ref a1), .val (.int p2), .val (.int p3), .val (.ref a4), .val (.long ((w5.toInt64) + (p2.toInt64))), .second, .unset, .unset] [(.long (p2.toInt64)), (.long w7)])) _
    refine XS.iloadN X8.here hx rfl (hb hby d3_40) rfl ?_
    show Steps p.tables e below (T8.setTop (mkF m 41 #[.val (.ref a1), .val (.int p2), .val (.int p3), .val (.ref a4), .val (.long ((w5.toInt64) + (p2.toInt64))), .second, .unset, .unset] [(.int p3), (.long (p2.toInt64)), (.long w7)])) _
    refine XS.i2l X8.here hx rfl (hb hby d3_41) rfl ?_
    show Steps p.tables e below (T8.setTop (mkF m 42 #[.val (.ref a1), .val (.int p2), .val (.int p3), .val (.ref a4), .val (.long ((w5.toInt64) + (p2.toInt64))), .second, .unset, .unset] [(.long (p3.toInt64)), (.long (p2.toInt64)), (.long w7)])) _
    refine XS.lmul X8.here hx rfl (hb hby d3_42) rfl ?_
    show Steps p.tables e below (T8.setTop (mkF m 43 #[.val (.ref a1), .val (.int p2), .val (.int p3), .val (.ref a4), .val (.long ((w5.toInt64) + (p2.toInt64))), .second, .unset, .unset] [(.long ((p2.toInt64) * (p3.toInt64))), (.long w7)])) _
    refine XS.ladd X8.here hx rfl (hb hby d3_43) rfl ?_
    show Steps p.tables e below (T8.setTop (mkF m 44 #[.val (.ref a1), .val (.int p2), .val (.int p3), .val (.ref a4), .val (.long ((w5.toInt64) + (p2.toInt64))), .second, .unset, .unset] [(.long (w7 + ((p2.toInt64) * (p3.toInt64))))])) _
    refine XS.lstore X8.here hx rfl (hb hby d3_44) rfl (l' := #[.val (.ref a1), .val (.int p2), .val (.int p3), .val (.ref a4), .val (.long ((w5.toInt64) + (p2.toInt64))), .second, .val (.long (w7 + ((p2.toInt64) * (p3.toInt64)))), .second]) rfl ?_
    show Steps p.tables e below (T8.setTop (mkF m 46 #[.val (.ref a1), .val (.int p2), .val (.int p3), .val (.ref a4), .val (.long ((w5.toInt64) + (p2.toInt64))), .second, .val (.long (w7 + ((p2.toInt64) * (p3.toInt64)))), .second] [])) _
    refine XS.lload X8.here hx rfl (hb hby d3_46) rfl ?_
    show Steps p.tables e below (T8.setTop (mkF m 48 #[.val (.ref a1), .val (.int p2), .val (.int p3), .val (.ref a4), .val (.long ((w5.toInt64) + (p2.toInt64))), .second, .val (.long (w7 + ((p2.toInt64) * (p3.toInt64)))), .second] [(.long (w7 + ((p2.toInt64) * (p3.toInt64))))])) _
    refine X8.ldc2Long hx hown (mvT hZ (hw _ (List.mem_of_getElem? (i := 29) rfl))) (g := (mkF m 48 #[.val (.ref a1), .val (.int p2), .val (.int p3), .val (.ref a4), .val (.long ((w5.toInt64) + (p2.toInt64))), .second, .val (.long (w7 + ((p2.toInt64) * (p3.toInt64)))), .second] [(.long (w7 + ((p2.toInt64) * (p3.toInt64))))])) rfl (hb hby d3_48) _ ?_
    show Steps p.tables e below (T8.setTop (mkF m 51 #[.val (.ref a1), .val (.int p2), .val (.int p3), .val (.ref a4), .val (.long ((w5.toInt64) + (p2.toInt64))), .second, .val (.long (w7 + ((p2.toInt64) * (p3.toInt64)))), .second] [(.long (67108864 : Int64)), (.long (w7 + ((p2.toInt64) * (p3.toInt64))))])) _
    refine XS.lcmp X8.here hx rfl (hb hby d3_51) rfl ?_
    show Steps p.tables e below (T8.setTop (mkF m 52 #[.val (.ref a1), .val (.int p2), .val (.int p3), .val (.ref a4), .val (.long ((w5.toInt64) + (p2.toInt64))), .second, .val (.long (w7 + ((p2.toInt64) * (p3.toInt64)))), .second] [(.int (lcmpW (w7 + ((p2.toInt64) * (p3.toInt64))) (67108864 : Int64)))])) _
    refine XS.ifYes X8.here hx rfl (pc0 := 52) (pc' := 70) rfl (hb hby d3_52) rfl ((if0 _ _).trans (flt hc52).2.2.2) (by decide) (by decide) ?_
    show Steps p.tables e below (T8.setTop (mkF m 70 #[.val (.ref a1), .val (.int p2), .val (.int p3), .val (.ref a4), .val (.long ((w5.toInt64) + (p2.toInt64))), .second, .val (.long (w7 + ((p2.toInt64) * (p3.toInt64)))), .second] [])) _
    refine XS.aloadN X8.here hx rfl (hb hby d3_70) rfl rfl ?_
    show Steps p.tables e below (T8.setTop (mkF m 71 #[.val (.ref a1), .val (.int p2), .val (.int p3), .val (.ref a4), .val (.long ((w5.toInt64) + (p2.toInt64))), .second, .val (.long (w7 + ((p2.toInt64) * (p3.toInt64)))), .second] [(.ref a1)])) _
    refine XS.lload X8.here hx rfl (hb hby d3_71) rfl ?_
    show Steps p.tables e below (T8.setTop (mkF m 73 #[.val (.ref a1), .val (.int p2), .val (.int p3), .val (.ref a4), .val (.long ((w5.toInt64) + (p2.toInt64))), .second, .val (.long (w7 + ((p2.toInt64) * (p3.toInt64)))), .second] [(.long ((w5.toInt64) + (p2.toInt64))), (.ref a1)])) _
    refine XS.l2i X8.here hx rfl (hb hby d3_73) rfl ?_
    show Steps p.tables e below (T8.setTop (mkF m 74 #[.val (.ref a1), .val (.int p2), .val (.int p3), .val (.ref a4), .val (.long ((w5.toInt64) + (p2.toInt64))), .second, .val (.long (w7 + ((p2.toInt64) * (p3.toInt64)))), .second] [(.int (((w5.toInt64) + (p2.toInt64)).toInt32)), (.ref a1)])) _
    refine st9 _ ?_
    show Steps p.tables e below (T9.setTop (mkF m 77 #[.val (.ref a1), .val (.int p2), .val (.int p3), .val (.ref a4), .val (.long ((w5.toInt64) + (p2.toInt64))), .second, .val (.long (w7 + ((p2.toInt64) * (p3.toInt64)))), .second] [])) _
    refine XS.aloadN X9.here hx rfl (hb hby d3_77) rfl rfl ?_
    show Steps p.tables e below (T9.setTop (mkF m 78 #[.val (.ref a1), .val (.int p2), .val (.int p3), .val (.ref a4), .val (.long ((w5.toInt64) + (p2.toInt64))), .second, .val (.long (w7 + ((p2.toInt64) * (p3.toInt64)))), .second] [(.ref a1)])) _
    refine XS.lload X9.here hx rfl (hb hby d3_78) rfl ?_
    show Steps p.tables e below (T9.setTop (mkF m 80 #[.val (.ref a1), .val (.int p2), .val (.int p3), .val (.ref a4), .val (.long ((w5.toInt64) + (p2.toInt64))), .second, .val (.long (w7 + ((p2.toInt64) * (p3.toInt64)))), .second] [(.long (w7 + ((p2.toInt64) * (p3.toInt64)))), (.ref a1)])) _
    refine st10 _ ?_
    show Steps p.tables e below (T10.setTop (mkF m 83 #[.val (.ref a1), .val (.int p2), .val (.int p3), .val (.ref a4), .val (.long ((w5.toInt64) + (p2.toInt64))), .second, .val (.long (w7 + ((p2.toInt64) * (p3.toInt64)))), .second] [])) _
    exact X10.returnOut hx Bd.returns (hb hby d3_83) hr
  · show Q3 Z a1 p2 p3 a4 w5 w7 h0 n0 _ T10.heap _
    rw [e10]
    exact ⟨rfl, N10, K10, ((E_a1.wr W9).wr W10), (Fw9.other W10 (Or.inr (slot_ne (Or.inl (hw _ (List.mem_of_getElem? (i := 25) rfl))) (Or.inl (hw _ (List.mem_of_getElem? (i := 28) rfl))) (by decide) (t := .int) (t' := .long) (by decide) (by decide)))), Fw10⟩

theorem own_le (X K : Int64) (h : X.toInt ≤ K.toInt) : ¬ ((0 : Int32) < lcmpW X K) := by rw [lw_gt, Int64.lt_iff_toInt_lt]; omega
theorem own_L (w p : Int32) : ((w.toInt64) + (p.toInt64)).toInt = w.toInt + p.toInt := by
  have a1 := w.le_toInt
  have a2 := w.toInt_lt
  have a3 := p.le_toInt
  have a4 := p.toInt_lt
  rw [Jvm.Kit.i64_add] <;> rw [Jvm.Kit.i64_of_i32, Jvm.Kit.i64_of_i32] <;> omega
theorem own_V (w : Int64) (p q : Int32) (h0 : 0 ≤ p.toInt) (h1 : p.toInt ≤ 1048576) (h2 : 0 ≤ q.toInt) (w0 : 0 ≤ w.toInt) (w1 : w.toInt ≤ 67108864) : (w + ((p.toInt64) * (q.toInt64))).toInt = w.toInt + p.toInt * q.toInt := by
  have b := q.toInt_lt
  have c1 : 0 ≤ p.toInt * q.toInt := Int.mul_nonneg h0 h2
  have c2 : p.toInt * q.toInt ≤ 1048576 * q.toInt := Int.mul_le_mul_of_nonneg_right h1 h2
  have e : ((p.toInt64) * (q.toInt64)).toInt = p.toInt * q.toInt := by
    rw [Jvm.Kit.i64_mul] <;> rw [Jvm.Kit.i64_of_i32, Jvm.Kit.i64_of_i32] <;> omega
  rw [Jvm.Kit.i64_add, e] <;> rw [e] <;> omega
theorem own_i (w p : Int32) (h1 : -2 ^ 31 ≤ w.toInt + p.toInt) (h2 : w.toInt + p.toInt < 2 ^ 31) : (((w.toInt64) + (p.toInt64)).toInt32).toInt = w.toInt + p.toInt := by
  rw [Jvm.Kit.i32_of_i64] <;> rw [own_L] <;> assumption
theorem own_z0 : (0 : Int32).toInt = 0 := by decide
theorem own_z1 : (1048576 : Int32).toInt = 1048576 := by decide
theorem own_z2 : (1048576 : Int64).toInt = 1048576 := by decide
theorem own_z3 : (67108864 : Int64).toInt = 67108864 := by decide
theorem own_z4 : (64 : Int32).toInt = 64 := by decide
theorem own_z5 : (0 : Int64).toInt = 0 := by decide
theorem own_msk (b : Int32) : 0 ≤ (b &&& (2147483647 : Int32)).toInt := by
  have h : (b &&& (2147483647 : Int32)).toInt = b.toInt % 2 ^ 31 := Jvm.Kit.i32_mask b 2147483647 (k := 31) (by decide) (by decide)
  omega
theorem own_c1 (a : Int32) : 0 ≤ (a &&& (1048575 : Int32)).toInt ∧ (a &&& (1048575 : Int32)).toInt ≤ 1048575 := by
  have h : (a &&& (1048575 : Int32)).toInt = a.toInt % 2 ^ 20 := Jvm.Kit.i32_mask a 1048575 (k := 20) (by decide) (by decide)
  omega
theorem own_rem (b z : Int32) (n : Int) (hz : z.toInt = n) (hn : 0 < n) (hb : 0 ≤ b.toInt) : 0 ≤ (b % z).toInt ∧ (b % z).toInt < n := by
  have h : (b % z).toInt = b.toInt % z.toInt := Jvm.Kit.i32_rem_nonneg hb
  rw [h, hz]
  exact ⟨Int.emod_nonneg _ (by omega), Int.emod_lt_of_pos _ hn⟩
theorem own_a (c1 : Int32) (c0 : 0 ≤ c1.toInt) (c9 : c1.toInt ≤ 1048575) : ¬ ((0 : Int32) < lcmpW (((0 : Int32).toInt64) + (c1.toInt64)) (1048576 : Int64)) := by
  apply own_le
  rw [own_L, own_z0, own_z2]
  omega
theorem own_v (w p : Int32) (v : Int) (hw : w.toInt + p.toInt = v) (h0 : 0 ≤ v) (h1 : v ≤ 1048576) : (((w.toInt64) + (p.toInt64)).toInt32).toInt = v := by
  rw [own_i _ _ (by omega) (by omega), hw]
theorem own_b (w p : Int32) (v : Int) (hw : w.toInt + p.toInt = v) (h1 : v ≤ 1048576) : ¬ ((0 : Int32) < lcmpW ((w.toInt64) + (p.toInt64)) (1048576 : Int64)) := by
  apply own_le
  rw [own_L, own_z2, hw]
  exact h1
theorem own_d (w : Int64) (p q : Int32) (h0 : 0 ≤ p.toInt) (h1 : p.toInt ≤ 1048576) (h2 : 0 ≤ q.toInt) (w0 : 0 ≤ w.toInt) (w1 : w.toInt ≤ 67108864) (h : w.toInt + p.toInt * q.toInt ≤ 67108864) : ¬ ((0 : Int32) < lcmpW (w + ((p.toInt64) * (q.toInt64))) (67108864 : Int64)) := by
  apply own_le
  rw [own_V _ _ _ h0 h1 h2 w0 w1, own_z3]
  exact h
theorem own_s (c1 : Int32) (c0 : 0 ≤ c1.toInt) (c9 : c1.toInt ≤ 1048575) : ((1048576 : Int32) - c1).toInt = 1048576 - c1.toInt := by
  rw [Jvm.Kit.i32_sub] <;> rw [own_z1] <;> omega
theorem own_pow : ∀ n : Fin 21, (((0 : Int32).toInt64) + (((1 : Int32) <<< ((Int32.ofNat n.val) &&& 31)).toInt64)).toInt ≤ 1048576 ∧ 0 ≤ ((1 : Int32) <<< ((Int32.ofNat n.val) &&& 31)).toInt ∧ ((0 : Int64) + ((((1 : Int32) <<< ((Int32.ofNat n.val) &&& 31)).toInt64) * (((1 : Int32) <<< (((26 : Int32) - (Int32.ofNat n.val)) &&& 31)).toInt64))).toInt = 67108864 := by decide +kernel
theorem own_k (k : Int32) (h0 : 0 ≤ k.toInt) (h1 : k.toInt < 21) : (((0 : Int32).toInt64) + (((1 : Int32) <<< (k &&& 31)).toInt64)).toInt ≤ 1048576 ∧ 0 ≤ ((1 : Int32) <<< (k &&& 31)).toInt ∧ ((0 : Int64) + ((((1 : Int32) <<< (k &&& 31)).toInt64) * (((1 : Int32) <<< (((26 : Int32) - k) &&& 31)).toInt64))).toInt = 67108864 := by
  have hn : k.toInt.toNat < 21 := by omega
  have hk : k = Int32.ofNat k.toInt.toNat := by
    apply Int32.toInt_inj.mp
    rw [Int32.toInt_ofNat_of_lt (by omega)]
    omega
  have q := own_pow ⟨k.toInt.toNat, hn⟩
  dsimp only at q
  rw [← hk] at q
  exact q
theorem own_f1 (c d : Int32) (c0 : 0 ≤ c.toInt) (c9 : c.toInt ≤ 1048575) (d0 : 0 ≤ d.toInt) : ((0 : Int64) + ((c.toInt64) * (d.toInt64))).toInt = c.toInt * d.toInt := by
  rw [own_V (0 : Int64) c d c0 (by omega) d0 (by rw [own_z5]; decide) (by rw [own_z5]; decide), own_z5]
  omega
theorem own_p (c d : Int32) (c0 : 0 ≤ c.toInt) (d0 : 0 ≤ d.toInt) (d9 : d.toInt < 65) : 0 ≤ c.toInt * d.toInt ∧ c.toInt * d.toInt ≤ c.toInt * 64 :=
  ⟨Int.mul_nonneg c0 d0, Int.mul_le_mul_of_nonneg_left (by omega) c0⟩
theorem own_f2 (u : Int64) (m : Int32) (m0 : 0 ≤ m.toInt) (u0 : 0 ≤ u.toInt) (u9 : u.toInt ≤ 67108864) : (u + (((0 : Int32).toInt64) * (m.toInt64))).toInt = u.toInt := by
  rw [own_V u (0 : Int32) m (by rw [own_z0]; decide) (by rw [own_z0]; decide) m0 u0 u9, own_z0]
  omega
theorem own_w (w : Int32) (v : Int) (hw : w.toInt = v) (h0 : 0 ≤ v) (h1 : v ≤ 1048576) : (((w.toInt64) + ((0 : Int32).toInt64)).toInt32).toInt = v :=
  own_v w 0 v (by rw [own_z0]; omega) h0 h1
theorem own_w0 (w : Int32) (v : Int) (hw : w.toInt = v) (h0 : 0 ≤ v) (h1 : v ≤ 1048576) : ((((0 : Int32).toInt64) + (w.toInt64)).toInt32).toInt = v :=
  own_v 0 w v (by rw [own_z0]; omega) h0 h1
theorem own_t1 (c : Int32) (c0 : 0 ≤ c.toInt) (c9 : c.toInt ≤ 1048576) : ¬ ((0 : Int32) < (lcmpW (((0 : Int32).toInt64) + (c.toInt64)) (1048576 : Int64))) :=
  own_b 0 c c.toInt (by rw [own_z0]; omega) c9
theorem own_t2 (c d : Int32) (c0 : 0 ≤ c.toInt) (c9 : c.toInt ≤ 1048575) (d0 : 0 ≤ d.toInt) (d9 : d.toInt < 65) : ¬ ((0 : Int32) < (lcmpW ((0 : Int64) + ((c.toInt64) * (d.toInt64))) (67108864 : Int64))) := by
  obtain ⟨q0, q1⟩ := own_p c d c0 d0 d9
  refine own_le _ _ ?_
  rw [own_f1 c d c0 c9 d0, own_z3]
  omega
theorem own_t3 (c : Int32) (c0 : 0 ≤ c.toInt) (c9 : c.toInt ≤ 1048576) : ¬ ((0 : Int32) < (lcmpW ((((((0 : Int32).toInt64) + (c.toInt64)).toInt32).toInt64) + ((0 : Int32).toInt64)) (1048576 : Int64))) :=
  own_b _ 0 c.toInt (by rw [own_w0 c c.toInt rfl c0 c9, own_z0]; omega) c9
theorem own_t4 (u : Int64) (m : Int32) (m0 : 0 ≤ m.toInt) (u0 : 0 ≤ u.toInt) (u9 : u.toInt ≤ 67108864) : ¬ ((0 : Int32) < (lcmpW (u + (((0 : Int32).toInt64) * (m.toInt64))) (67108864 : Int64))) := by
  refine own_le _ _ ?_
  rw [own_f2 u m m0 u0 u9, own_z3]
  exact u9
theorem own_t5 (c : Int32) (c0 : 0 ≤ c.toInt) (c9 : c.toInt ≤ 1048575) : ¬ ((0 : Int32) < (lcmpW (((((((((0 : Int32).toInt64) + (c.toInt64)).toInt32).toInt64) + ((0 : Int32).toInt64)).toInt32).toInt64) + (((1048576 : Int32) - c).toInt64)) (1048576 : Int64))) :=
  own_b _ _ 1048576 (by rw [own_w _ c.toInt (own_w0 c c.toInt rfl c0 (by omega)) c0 (by omega), own_s c c0 c9]; omega) (by omega)
theorem own_t6 (u : Int64) (c m : Int32) (c0 : 0 ≤ c.toInt) (c9 : c.toInt ≤ 1048575) (m0 : 0 ≤ m.toInt) (u0 : 0 ≤ u.toInt) (u9 : u.toInt ≤ c.toInt * 64) : ¬ ((0 : Int32) < (lcmpW ((u + (((0 : Int32).toInt64) * (m.toInt64))) + ((((1048576 : Int32) - c).toInt64) * ((64 : Int32).toInt64))) (67108864 : Int64))) := by
  have s1 := own_s c c0 c9
  have f2 := own_f2 u m m0 u0 (by omega)
  refine own_d _ _ _ (by rw [s1]; omega) (by rw [s1]; omega) (by rw [own_z4]; decide) (by rw [f2]; omega) (by rw [f2]; omega) ?_
  rw [f2, s1, own_z4]
  omega
theorem pn_0 : plainName "com/example/failfirst/failfirst/InstanceSizeAddVariablesPinLaw" = true := by first | (simp [plainName, overriddenIn]; done) | decide +kernel
theorem pd_0_0 : parseMethodDescriptor "()V" = some ⟨[], none⟩ := by decide +kernel
theorem pd_0_1 : parseMethodDescriptor "(IILjava/lang/String;)V" = some ⟨[.int, .int, (.object "java/lang/String")], none⟩ := by decide +kernel
theorem ef_0 (m : MethodId) (x0 : Int32) (x1 : Int32) (x2 : Int32) (x3 : Int32) : entryFrame m #[(.int x0), (.int x1), (.int x2), (.int x3)] maxLocals = mkF m 0 #[.val (.int x0), .val (.int x1), .val (.int x2), .val (.int x3), .unset, .unset, .unset, .unset, .unset, .unset] [] := by first | (simp [entryFrame, mkF, argsToLocals, Value.category, maxLocals]; done) | rfl
def Q0 (Z : State) (p1 : Int32) (p2 : Int32) (p3 : Int32) (p4 : Int32) (h0 : Heap) (n0 : Nat) (v : Option Value) (h : Heap) (L : List Loc) : Prop := v = some (.int (1 : Int32)) ∧ Fr n0 L
set_option maxRecDepth 65536 in
set_option maxHeartbeats 40000000 in
theorem rm0_x (l : Launch) (Z : State) (a0 : Array Value) (hw : ∀ d ∈ tables_1, d.before a0 Z = true) (ws : List Jvm.Cond) (p1 : Int32) (p2 : Int32) (p3 : Int32) (p4 : Int32) (h0 : Heap) (n0 : Nat) (Z0 : n0 ≤ h0.size) (hl8 : ¬ ((0 : Int32) < (lcmpW (((0 : Int32).toInt64) + ((p1 &&& (1048575 : Int32)).toInt64)) (1048576 : Int64)))) (hu8 : ¬ ((0 : Int32) < (lcmpW ((0 : Int64) + (((p1 &&& (1048575 : Int32)).toInt64) * (((p2 &&& (2147483647 : Int32)) % (65 : Int32)).toInt64))) (67108864 : Int64)))) (hl10 : ¬ ((0 : Int32) < (lcmpW ((((((0 : Int32).toInt64) + ((p1 &&& (1048575 : Int32)).toInt64)).toInt32).toInt64) + ((0 : Int32).toInt64)) (1048576 : Int64)))) (hu10 : ¬ ((0 : Int32) < (lcmpW (((0 : Int64) + (((p1 &&& (1048575 : Int32)).toInt64) * (((p2 &&& (2147483647 : Int32)) % (65 : Int32)).toInt64))) + (((0 : Int32).toInt64) * ((p3 &&& (2147483647 : Int32)).toInt64))) (67108864 : Int64)))) (hl12 : ¬ ((0 : Int32) < (lcmpW (((((((((0 : Int32).toInt64) + ((p1 &&& (1048575 : Int32)).toInt64)).toInt32).toInt64) + ((0 : Int32).toInt64)).toInt32).toInt64) + (((1048576 : Int32) - (p1 &&& (1048575 : Int32))).toInt64)) (1048576 : Int64)))) (hu12 : ¬ ((0 : Int32) < (lcmpW ((((0 : Int64) + (((p1 &&& (1048575 : Int32)).toInt64) * (((p2 &&& (2147483647 : Int32)) % (65 : Int32)).toInt64))) + (((0 : Int32).toInt64) * ((p3 &&& (2147483647 : Int32)).toInt64))) + ((((1048576 : Int32) - (p1 &&& (1048575 : Int32))).toInt64) * ((64 : Int32).toInt64))) (67108864 : Int64)))) (hl16 : ¬ ((0 : Int32) < (lcmpW (((0 : Int32).toInt64) + (((1 : Int32) <<< (((p4 &&& (2147483647 : Int32)) % (21 : Int32)) &&& 31)).toInt64)) (1048576 : Int64)))) (hu16 : ¬ ((0 : Int32) < (lcmpW ((0 : Int64) + ((((1 : Int32) <<< (((p4 &&& (2147483647 : Int32)) % (21 : Int32)) &&& 31)).toInt64) * (((1 : Int32) <<< (((26 : Int32) - ((p4 &&& (2147483647 : Int32)) % (21 : Int32))) &&& 31)).toInt64))) (67108864 : Int64)))) (hl18 : ¬ ((0 : Int32) < (lcmpW ((((((0 : Int32).toInt64) + (((1 : Int32) <<< (((p4 &&& (2147483647 : Int32)) % (21 : Int32)) &&& 31)).toInt64)).toInt32).toInt64) + ((0 : Int32).toInt64)) (1048576 : Int64)))) (hu18 : ¬ ((0 : Int32) < (lcmpW (((0 : Int64) + ((((1 : Int32) <<< (((p4 &&& (2147483647 : Int32)) % (21 : Int32)) &&& 31)).toInt64) * (((1 : Int32) <<< (((26 : Int32) - ((p4 &&& (2147483647 : Int32)) % (21 : Int32))) &&& 31)).toInt64))) + (((0 : Int32).toInt64) * ((p3 &&& (2147483647 : Int32)).toInt64))) (67108864 : Int64)))) :
    MetFree l x (head1 (Jvm.Cond.code x code maxLocals ret :: ws) room_1) (fun a U => a = #[(.int p1), (.int p2), (.int p3), (.int p4)] ∧ Z.Warmed39 U.vm ∧ U.heap = h0) (fun _ _ _ _ _ => True) (fun _ U o U' => ∃ v L, o = .returned v ∧ Q0 Z p1 p2 p3 p4 h0 n0 v U'.heap L ∧ ReturnedEndW U o U' L 24 5248) := by
  refine MetFree.of_bodySF (plainFor_of_name pn_0) hisR ?_
  intro p e s m args below meth c s₁ Bd hml0 hP hK
  obtain ⟨rfl, hZ, hh⟩ := hP
  have hx := Bd.exec
  have hby := Bd.bytes
  have hml : c.maxLocals = 10 := hml0
  have hown : s.vm.findClass "com/example/failfirst/failfirst/InstanceSizeAddVariablesPinLaw" = some m.cls := findClass_of_methodNamed Bd.named
  have hnm := (name_of_methodNamed Bd.named Bd.method).1
  have X0 : Stand p l e room_1 s m #[(.int p1), (.int p2), (.int p3), (.int p4)] below meth c s₁ [] 0 0 := Stand.of_body Bd
  have e0 : s₁.heap = h0 := by rw [← hh, Bd.state]; rfl
  have N0 := Fr.nil n0
  have hS0 : s.Since s.vm 0 := (State.WarmedH.refl s).since 0
  have hstr : ∀ d ∈ Bundle.stringAtoms, d.before a0 Z = true := fun d hd => by
    simp only [Bundle.stringAtoms, List.mem_cons, List.not_mem_nil, or_false] at hd
    rcases hd with rfl | rfl | rfl | rfl | rfl | rfl | rfl
    · exact hw _ (List.mem_of_getElem? (i := 12) rfl)
    · exact hw _ (List.mem_of_getElem? (i := 13) rfl)
    · exact hw _ (List.mem_of_getElem? (i := 14) rfl)
    · exact hw _ (List.mem_of_getElem? (i := 15) rfl)
    · exact hw _ (List.mem_of_getElem? (i := 16) rfl)
    · exact hw _ (List.mem_of_getElem? (i := 17) rfl)
    · exact hw _ (List.mem_of_getElem? (i := 18) rfl)
  have pre0 : ∀ t, Steps p.tables e below (s₁.setTop (mkF m 0 #[.val (.int p1), .val (.int p2), .val (.int p3), .val (.int p4), .unset, .unset, .unset, .unset, .unset, .unset] [])) t → Steps p.tables e below (s₁.setTop (entryFrame m #[(.int p1), (.int p2), (.int p3), (.int p4)] maxLocals)) t := fun t k => castTop (ef_0 m p1 p2 p3 p4) k
  obtain ⟨T5, h5, X5, e5, E5, A5, D5, -, st5⟩ := newO X0 hx hZ hown (hw _ (List.mem_of_getElem? (i := 2) rfl)) (hw _ (List.mem_of_getElem? (i := 3) rfl)) (hw _ (List.mem_of_getElem? (i := 4) rfl)) e0 (g := (mkF m 30 #[.val (.int p1), .val (.int p2), .val (.int p3), .val (.int p4), .val (.int (p1 &&& (1048575 : Int32))), .val (.int ((p2 &&& (2147483647 : Int32)) % (65 : Int32))), .val (.int (p3 &&& (2147483647 : Int32))), .val (.int ((p4 &&& (2147483647 : Int32)) % (21 : Int32))), .unset, .unset] [])) rfl (hb hby at_30) (by decide) (by decide)
  obtain ⟨b5, g5⟩ : ∃ z, z = h0.size := ⟨_, rfl⟩
  rw [← g5] at A5 D5 st5
  have F_variables_b5 : Fld Z h5 b5 "com/example/failfirst/failfirst/InstanceSize" "variables" "I" (.int (0 : Int32)) := D5 (Or.inl (hw _ (List.mem_of_getElem? (i := 25) rfl))) (ty := .int) (by decide)
  have F_values_b5 : Fld Z h5 b5 "com/example/failfirst/failfirst/InstanceSize" "values" "J" (.long (0 : Int64)) := D5 (Or.inl (hw _ (List.mem_of_getElem? (i := 28) rfl))) (ty := .long) (by decide)
  have E_b5 := A5
  have g_b5 : n0 ≤ b5 := Nat.le_trans Z0 (Nat.le_of_eq g5.symm)
  have sz_b5 : h0.size ≤ b5 := (Nat.le_trans (Keep.refl h0 []).1 (Nat.le_of_eq g5.symm))
  have K5 : Keep h0 h5 [] := (Keep.refl h0 []).ext E5
  obtain ⟨_, _, ⟨T6, L6, k6, n6⟩, -, X6, ⟨Lc6, hQ6, l6, y6, z6⟩, st6⟩ := X5.specialBack hx (y := (⟨"com/example/failfirst/failfirst/InstanceSize", "<init>", "()V"⟩ : MethodName)) rfl hown (mvT hZ (hw _ (List.mem_of_getElem? (i := 5) rfl))) (mvT hZ (hw _ (List.mem_of_getElem? (i := 6) rfl))) (mvT hZ (hw _ (List.mem_of_getElem? (i := 7) rfl))) (by decide) (backOf (W := 1) (rm1 l Z a0 hw [] b5  h5 n0 (Nat.le_trans Z0 K5.1)) hZ (hw _ (List.mem_of_getElem? (i := 7) rfl)) (hw _ (List.mem_of_getElem? (i := 4) rfl)) (by decide) (by decide)) (g := (mkF m 34 #[.val (.int p1), .val (.int p2), .val (.int p3), .val (.int p4), .val (.int (p1 &&& (1048575 : Int32))), .val (.int ((p2 &&& (2147483647 : Int32)) % (65 : Int32))), .val (.int (p3 &&& (2147483647 : Int32))), .val (.int ((p4 &&& (2147483647 : Int32)) % (21 : Int32))), .unset, .unset] [(.ref b5), (.ref b5)])) rfl (by rw [hml]; rfl) (Steps.refl _) (a := b5) (argsL := []) (rest := [(.ref b5)]) (lenOf pd_0_0 rfl) rfl (by show 2 * 0 + _ ≤ _; exact Nat.le_of_eq rfl) (hb hby at_34) (fun _ _ => ⟨rfl, e5, (by decide : 1 + 0 ≤ _), (by decide : 3 + 0 ≤ _)⟩)
  dsimp only [Pt.U, Pt.locs, Pt.cells, Pt.slots] at X6 l6 y6 z6 st6 hQ6
  subst l6 y6 z6
  obtain ⟨rfl, N6q, e6q⟩ := hQ6
  have N6 := Fr.app N0 N6q
  have Z6 : n0 ≤ T6.heap.size := by rw [e6q]; exact (Nat.le_trans Z0 K5.1)
  have Kq6 : Keep h5 T6.heap [] := by rw [e6q]; exact Keep.refl _ _
  have Kz6 : Keep h0 T6.heap [] := K5.trans Kq6 (fun x hx => nomatch hx)
  obtain ⟨s7, T7, h7, c7, X7, e7, E7, hS7, hk7, hZ7, hown7, st7⟩ := ldcS (s := s) (vm0 := s.vm) X6 hx hZ hown (hw _ (List.mem_of_getElem? (i := 11) rfl)) hstr rfl hS0 (Nat.zero_le _) (g := (mkF m 45 #[.val (.int p1), .val (.int p2), .val (.int p3), .val (.int p4), .val (.int (p1 &&& (1048575 : Int32))), .val (.int ((p2 &&& (2147483647 : Int32)) % (65 : Int32))), .val (.int (p3 &&& (2147483647 : Int32))), .val (.int ((p4 &&& (2147483647 : Int32)) % (21 : Int32))), .val (.ref b5), .unset] [(.int ((p2 &&& (2147483647 : Int32)) % (65 : Int32))), (.int (p1 &&& (1048575 : Int32))), (.ref b5)])) rfl (hb hby at_45) (n := 4) (by decide) (by decide) (by decide) (by decide)
  have K7 : Keep h0 h7 [] := Kz6.ext E7
  obtain ⟨cq8, kq8, q8a, q8b, q8c⟩ := isOf hZ7 e7 ((E_b5.keep Kq6).ext E7)
  obtain ⟨_, _, ⟨T8, L8, k8, n8⟩, -, X8, ⟨Lc8, hQ8, l8, y8, z8⟩, st8⟩ := X7.virtualBack hx (y := (⟨"com/example/failfirst/failfirst/InstanceSize", "addVariables", "(IILjava/lang/String;)V"⟩ : MethodName)) (z := (⟨"com/example/failfirst/failfirst/InstanceSize", "addVariables", "(IILjava/lang/String;)V"⟩ : MethodName)) hown7 (mvT hZ7 (hw _ (List.mem_of_getElem? (i := 19) rfl))) (mvT hZ7 (hw _ (List.mem_of_getElem? (i := 20) rfl))) (notFace_of_selects (args := #[]) (mvT hZ7 (hw _ (List.mem_of_getElem? (i := 22) rfl)))) (mvT hZ7 (hw _ (List.mem_of_getElem? (i := 22) rfl))) (mvT hZ7 (hw _ (List.mem_of_getElem? (i := 21) rfl))) (by decide) (backOf (W := 0) (rm3 l Z a0 hw [] b5 (p1 &&& (1048575 : Int32)) ((p2 &&& (2147483647 : Int32)) % (65 : Int32)) s7 (0 : Int32) (0 : Int64) h7 n0 (Nat.le_trans Z0 K7.1) ((F_variables_b5.keep Kq6 List.not_mem_nil).ext E7) ((F_values_b5.keep Kq6 List.not_mem_nil).ext E7) ((E_b5.keep Kq6).ext E7) g_b5 hl8 hu8) hZ7 (hw _ (List.mem_of_getElem? (i := 23) rfl)) (hw _ (List.mem_of_getElem? (i := 4) rfl)) (by decide) (by decide)) q8a q8c (g := (mkF m 47 #[.val (.int p1), .val (.int p2), .val (.int p3), .val (.int p4), .val (.int (p1 &&& (1048575 : Int32))), .val (.int ((p2 &&& (2147483647 : Int32)) % (65 : Int32))), .val (.int (p3 &&& (2147483647 : Int32))), .val (.int ((p4 &&& (2147483647 : Int32)) % (21 : Int32))), .val (.ref b5), .unset] [(.ref s7), (.int ((p2 &&& (2147483647 : Int32)) % (65 : Int32))), (.int (p1 &&& (1048575 : Int32))), (.ref b5)])) rfl (by rw [hml]; rfl) (Steps.refl _) (argsL := [(.int (p1 &&& (1048575 : Int32))), (.int ((p2 &&& (2147483647 : Int32)) % (65 : Int32))), (.ref s7)]) (rest := []) (lenOf pd_0_1 rfl) rfl (by show 2 * 0 + _ ≤ _; exact Nat.le_of_eq rfl) (hb hby at_47) (fun _ _ => ⟨rfl, e7, (by decide : 3 + 0 ≤ _), (by decide : 11 + 0 ≤ _)⟩)
  dsimp only [Pt.U, Pt.locs, Pt.cells, Pt.slots] at X8 l8 y8 z8 st8 hQ8
  subst l8 y8 z8
  obtain ⟨rfl, N8q, Kq8, Ex8, Fv8, Fu8⟩ := hQ8
  have N8 := Fr.app N6 N8q
  have Z8 : n0 ≤ T8.heap.size := Nat.le_trans (Nat.le_trans Z0 K7.1) Kq8.1
  have Kz8 : Keep h0 T8.heap [] := K7.trans Kq8 (fun x hx => Or.inr (by cases List.mem_singleton.mp hx; exact sz_b5))
  obtain ⟨s9, T9, h9, c9, X9, e9, E9, hS9, hk9, hZ9, hown9, st9⟩ := ldcS (s := s) (vm0 := T7.vm) X8 hx hZ7 hown7 (hw _ (List.mem_of_getElem? (i := 30) rfl)) hstr rfl hS7 (Nat.le_trans hk7 Kq8.1) (g := (mkF m 55 #[.val (.int p1), .val (.int p2), .val (.int p3), .val (.int p4), .val (.int (p1 &&& (1048575 : Int32))), .val (.int ((p2 &&& (2147483647 : Int32)) % (65 : Int32))), .val (.int (p3 &&& (2147483647 : Int32))), .val (.int ((p4 &&& (2147483647 : Int32)) % (21 : Int32))), .val (.ref b5), .unset] [(.int (p3 &&& (2147483647 : Int32))), (.int (0 : Int32)), (.ref b5)])) rfl (hb hby at_55) (n := 4) (by decide) (by decide) (by decide) (by decide)
  have K9 : Keep h0 h9 [] := Kz8.ext E9
  obtain ⟨cq10, kq10, q10a, q10b, q10c⟩ := isOf hZ9 e9 ((((E_b5.keep Kq6).ext E7).keep Kq8).ext E9)
  obtain ⟨_, _, ⟨T10, L10, k10, n10⟩, -, X10, ⟨Lc10, hQ10, l10, y10, z10⟩, st10⟩ := X9.virtualBack hx (y := (⟨"com/example/failfirst/failfirst/InstanceSize", "addVariables", "(IILjava/lang/String;)V"⟩ : MethodName)) (z := (⟨"com/example/failfirst/failfirst/InstanceSize", "addVariables", "(IILjava/lang/String;)V"⟩ : MethodName)) hown9 (mvT hZ9 (hw _ (List.mem_of_getElem? (i := 19) rfl))) (mvT hZ9 (hw _ (List.mem_of_getElem? (i := 20) rfl))) (notFace_of_selects (args := #[]) (mvT hZ9 (hw _ (List.mem_of_getElem? (i := 22) rfl)))) (mvT hZ9 (hw _ (List.mem_of_getElem? (i := 22) rfl))) (mvT hZ9 (hw _ (List.mem_of_getElem? (i := 21) rfl))) (by decide) (backOf (W := 0) (rm3 l Z a0 hw [] b5 (0 : Int32) (p3 &&& (2147483647 : Int32)) s9 ((((0 : Int32).toInt64) + ((p1 &&& (1048575 : Int32)).toInt64)).toInt32) ((0 : Int64) + (((p1 &&& (1048575 : Int32)).toInt64) * (((p2 &&& (2147483647 : Int32)) % (65 : Int32)).toInt64))) h9 n0 (Nat.le_trans Z0 K9.1) (Fv8.ext E9) (Fu8.ext E9) (Ex8.ext E9) g_b5 hl10 hu10) hZ9 (hw _ (List.mem_of_getElem? (i := 23) rfl)) (hw _ (List.mem_of_getElem? (i := 4) rfl)) (by decide) (by decide)) q10a q10c (g := (mkF m 57 #[.val (.int p1), .val (.int p2), .val (.int p3), .val (.int p4), .val (.int (p1 &&& (1048575 : Int32))), .val (.int ((p2 &&& (2147483647 : Int32)) % (65 : Int32))), .val (.int (p3 &&& (2147483647 : Int32))), .val (.int ((p4 &&& (2147483647 : Int32)) % (21 : Int32))), .val (.ref b5), .unset] [(.ref s9), (.int (p3 &&& (2147483647 : Int32))), (.int (0 : Int32)), (.ref b5)])) rfl (by rw [hml]; rfl) (Steps.refl _) (argsL := [(.int (0 : Int32)), (.int (p3 &&& (2147483647 : Int32))), (.ref s9)]) (rest := []) (lenOf pd_0_1 rfl) rfl (by show 2 * 0 + _ ≤ _; exact Nat.le_of_eq rfl) (hb hby at_57) (fun _ _ => ⟨rfl, e9, (by decide : 5 + 0 ≤ _), (by decide : 19 + 0 ≤ _)⟩)
  dsimp only [Pt.U, Pt.locs, Pt.cells, Pt.slots] at X10 l10 y10 z10 st10 hQ10
  subst l10 y10 z10
  obtain ⟨rfl, N10q, Kq10, Ex10, Fv10, Fu10⟩ := hQ10
  have N10 := Fr.app N8 N10q
  have Z10 : n0 ≤ T10.heap.size := Nat.le_trans (Nat.le_trans Z0 K9.1) Kq10.1
  have Kz10 : Keep h0 T10.heap [] := K9.trans Kq10 (fun x hx => Or.inr (by cases List.mem_singleton.mp hx; exact sz_b5))
  obtain ⟨s11, T11, h11, c11, X11, e11, E11, hS11, hk11, hZ11, hown11, st11⟩ := ldcS (s := s) (vm0 := T9.vm) X10 hx hZ9 hown9 (hw _ (List.mem_of_getElem? (i := 32) rfl)) hstr rfl hS9 (Nat.le_trans hk9 Kq10.1) (g := (mkF m 69 #[.val (.int p1), .val (.int p2), .val (.int p3), .val (.int p4), .val (.int (p1 &&& (1048575 : Int32))), .val (.int ((p2 &&& (2147483647 : Int32)) % (65 : Int32))), .val (.int (p3 &&& (2147483647 : Int32))), .val (.int ((p4 &&& (2147483647 : Int32)) % (21 : Int32))), .val (.ref b5), .unset] [(.int (64 : Int32)), (.int ((1048576 : Int32) - (p1 &&& (1048575 : Int32)))), (.ref b5)])) rfl (hb hby at_69) (n := 4) (by decide) (by decide) (by decide) (by decide)
  have K11 : Keep h0 h11 [] := Kz10.ext E11
  obtain ⟨cq12, kq12, q12a, q12b, q12c⟩ := isOf hZ11 e11 ((((((E_b5.keep Kq6).ext E7).keep Kq8).ext E9).keep Kq10).ext E11)
  obtain ⟨_, _, ⟨T12, L12, k12, n12⟩, -, X12, ⟨Lc12, hQ12, l12, y12, z12⟩, st12⟩ := X11.virtualBack hx (y := (⟨"com/example/failfirst/failfirst/InstanceSize", "addVariables", "(IILjava/lang/String;)V"⟩ : MethodName)) (z := (⟨"com/example/failfirst/failfirst/InstanceSize", "addVariables", "(IILjava/lang/String;)V"⟩ : MethodName)) hown11 (mvT hZ11 (hw _ (List.mem_of_getElem? (i := 19) rfl))) (mvT hZ11 (hw _ (List.mem_of_getElem? (i := 20) rfl))) (notFace_of_selects (args := #[]) (mvT hZ11 (hw _ (List.mem_of_getElem? (i := 22) rfl)))) (mvT hZ11 (hw _ (List.mem_of_getElem? (i := 22) rfl))) (mvT hZ11 (hw _ (List.mem_of_getElem? (i := 21) rfl))) (by decide) (backOf (W := 0) (rm3 l Z a0 hw [] b5 ((1048576 : Int32) - (p1 &&& (1048575 : Int32))) (64 : Int32) s11 (((((((0 : Int32).toInt64) + ((p1 &&& (1048575 : Int32)).toInt64)).toInt32).toInt64) + ((0 : Int32).toInt64)).toInt32) (((0 : Int64) + (((p1 &&& (1048575 : Int32)).toInt64) * (((p2 &&& (2147483647 : Int32)) % (65 : Int32)).toInt64))) + (((0 : Int32).toInt64) * ((p3 &&& (2147483647 : Int32)).toInt64))) h11 n0 (Nat.le_trans Z0 K11.1) (Fv10.ext E11) (Fu10.ext E11) (Ex10.ext E11) g_b5 hl12 hu12) hZ11 (hw _ (List.mem_of_getElem? (i := 23) rfl)) (hw _ (List.mem_of_getElem? (i := 4) rfl)) (by decide) (by decide)) q12a q12c (g := (mkF m 71 #[.val (.int p1), .val (.int p2), .val (.int p3), .val (.int p4), .val (.int (p1 &&& (1048575 : Int32))), .val (.int ((p2 &&& (2147483647 : Int32)) % (65 : Int32))), .val (.int (p3 &&& (2147483647 : Int32))), .val (.int ((p4 &&& (2147483647 : Int32)) % (21 : Int32))), .val (.ref b5), .unset] [(.ref s11), (.int (64 : Int32)), (.int ((1048576 : Int32) - (p1 &&& (1048575 : Int32)))), (.ref b5)])) rfl (by rw [hml]; rfl) (Steps.refl _) (argsL := [(.int ((1048576 : Int32) - (p1 &&& (1048575 : Int32)))), (.int (64 : Int32)), (.ref s11)]) (rest := []) (lenOf pd_0_1 rfl) rfl (by show 2 * 0 + _ ≤ _; exact Nat.le_of_eq rfl) (hb hby at_71) (fun _ _ => ⟨rfl, e11, (by decide : 7 + 0 ≤ _), (by decide : 27 + 0 ≤ _)⟩)
  dsimp only [Pt.U, Pt.locs, Pt.cells, Pt.slots] at X12 l12 y12 z12 st12 hQ12
  subst l12 y12 z12
  obtain ⟨rfl, N12q, Kq12, Ex12, Fv12, Fu12⟩ := hQ12
  have N12 := Fr.app N10 N12q
  have Z12 : n0 ≤ T12.heap.size := Nat.le_trans (Nat.le_trans Z0 K11.1) Kq12.1
  have Kz12 : Keep h0 T12.heap [] := K11.trans Kq12 (fun x hx => Or.inr (by cases List.mem_singleton.mp hx; exact sz_b5))
  obtain ⟨T13, h13, X13, e13, E13, A13, D13, -, st13⟩ := newO X12 hx hZ11 hown11 (hw _ (List.mem_of_getElem? (i := 2) rfl)) (hw _ (List.mem_of_getElem? (i := 3) rfl)) (hw _ (List.mem_of_getElem? (i := 4) rfl)) rfl (g := (mkF m 74 #[.val (.int p1), .val (.int p2), .val (.int p3), .val (.int p4), .val (.int (p1 &&& (1048575 : Int32))), .val (.int ((p2 &&& (2147483647 : Int32)) % (65 : Int32))), .val (.int (p3 &&& (2147483647 : Int32))), .val (.int ((p4 &&& (2147483647 : Int32)) % (21 : Int32))), .val (.ref b5), .unset] [])) rfl (hb hby at_74) (by decide) (by decide)
  obtain ⟨b13, g13⟩ : ∃ z, z = T12.heap.size := ⟨_, rfl⟩
  rw [← g13] at A13 D13 st13
  have F_variables_b13 : Fld Z h13 b13 "com/example/failfirst/failfirst/InstanceSize" "variables" "I" (.int (0 : Int32)) := D13 (Or.inl (hw _ (List.mem_of_getElem? (i := 25) rfl))) (ty := .int) (by decide)
  have F_values_b13 : Fld Z h13 b13 "com/example/failfirst/failfirst/InstanceSize" "values" "J" (.long (0 : Int64)) := D13 (Or.inl (hw _ (List.mem_of_getElem? (i := 28) rfl))) (ty := .long) (by decide)
  have E_b13 := A13
  have g_b13 : n0 ≤ b13 := Nat.le_trans (Nat.le_trans (Nat.le_trans (Nat.le_trans (Nat.le_trans (Nat.le_trans (Nat.le_trans (Nat.le_trans (Nat.le_trans Z0 E5.1) Kq6.1) E7.1) Kq8.1) E9.1) Kq10.1) E11.1) Kq12.1) (Nat.le_of_eq g13.symm)
  have sz_b13 : h0.size ≤ b13 := (Nat.le_trans Kz12.1 (Nat.le_of_eq g13.symm))
  have K13 : Keep h0 h13 [] := Kz12.ext E13
  obtain ⟨_, _, ⟨T14, L14, k14, n14⟩, -, X14, ⟨Lc14, hQ14, l14, y14, z14⟩, st14⟩ := X13.specialBack hx (y := (⟨"com/example/failfirst/failfirst/InstanceSize", "<init>", "()V"⟩ : MethodName)) rfl hown11 (mvT hZ11 (hw _ (List.mem_of_getElem? (i := 5) rfl))) (mvT hZ11 (hw _ (List.mem_of_getElem? (i := 6) rfl))) (mvT hZ11 (hw _ (List.mem_of_getElem? (i := 7) rfl))) (by decide) (backOf (W := 1) (rm1 l Z a0 hw [] b13  h13 n0 (Nat.le_trans Z0 K13.1)) hZ11 (hw _ (List.mem_of_getElem? (i := 7) rfl)) (hw _ (List.mem_of_getElem? (i := 4) rfl)) (by decide) (by decide)) (g := (mkF m 78 #[.val (.int p1), .val (.int p2), .val (.int p3), .val (.int p4), .val (.int (p1 &&& (1048575 : Int32))), .val (.int ((p2 &&& (2147483647 : Int32)) % (65 : Int32))), .val (.int (p3 &&& (2147483647 : Int32))), .val (.int ((p4 &&& (2147483647 : Int32)) % (21 : Int32))), .val (.ref b5), .unset] [(.ref b13), (.ref b13)])) rfl (by rw [hml]; rfl) (Steps.refl _) (a := b13) (argsL := []) (rest := [(.ref b13)]) (lenOf pd_0_0 rfl) rfl (by show 2 * 0 + _ ≤ _; exact Nat.le_of_eq rfl) (hb hby at_78) (fun _ _ => ⟨rfl, e13, (by decide : 8 + 0 ≤ _), (by decide : 30 + 0 ≤ _)⟩)
  dsimp only [Pt.U, Pt.locs, Pt.cells, Pt.slots] at X14 l14 y14 z14 st14 hQ14
  subst l14 y14 z14
  obtain ⟨rfl, N14q, e14q⟩ := hQ14
  have N14 := Fr.app N12 N14q
  have Z14 : n0 ≤ T14.heap.size := by rw [e14q]; exact (Nat.le_trans Z0 K13.1)
  have Kq14 : Keep h13 T14.heap [] := by rw [e14q]; exact Keep.refl _ _
  have Kz14 : Keep h0 T14.heap [] := K13.trans Kq14 (fun x hx => nomatch hx)
  obtain ⟨s15, T15, h15, c15, X15, e15, E15, hS15, hk15, hZ15, hown15, st15⟩ := ldcS (s := s) (vm0 := T11.vm) X14 hx hZ11 hown11 (hw _ (List.mem_of_getElem? (i := 33) rfl)) hstr rfl hS11 (Nat.le_trans (Nat.le_trans (Nat.le_trans hk11 Kq12.1) E13.1) Kq14.1) (g := (mkF m 96 #[.val (.int p1), .val (.int p2), .val (.int p3), .val (.int p4), .val (.int (p1 &&& (1048575 : Int32))), .val (.int ((p2 &&& (2147483647 : Int32)) % (65 : Int32))), .val (.int (p3 &&& (2147483647 : Int32))), .val (.int ((p4 &&& (2147483647 : Int32)) % (21 : Int32))), .val (.ref b5), .val (.ref b13)] [(.int ((1 : Int32) <<< (((26 : Int32) - ((p4 &&& (2147483647 : Int32)) % (21 : Int32))) &&& 31))), (.int ((1 : Int32) <<< (((p4 &&& (2147483647 : Int32)) % (21 : Int32)) &&& 31))), (.ref b13)])) rfl (hb hby at_96) (n := 4) (by decide) (by decide) (by decide) (by decide)
  have K15 : Keep h0 h15 [] := Kz14.ext E15
  obtain ⟨cq16, kq16, q16a, q16b, q16c⟩ := isOf hZ15 e15 ((E_b13.keep Kq14).ext E15)
  obtain ⟨_, _, ⟨T16, L16, k16, n16⟩, -, X16, ⟨Lc16, hQ16, l16, y16, z16⟩, st16⟩ := X15.virtualBack hx (y := (⟨"com/example/failfirst/failfirst/InstanceSize", "addVariables", "(IILjava/lang/String;)V"⟩ : MethodName)) (z := (⟨"com/example/failfirst/failfirst/InstanceSize", "addVariables", "(IILjava/lang/String;)V"⟩ : MethodName)) hown15 (mvT hZ15 (hw _ (List.mem_of_getElem? (i := 19) rfl))) (mvT hZ15 (hw _ (List.mem_of_getElem? (i := 20) rfl))) (notFace_of_selects (args := #[]) (mvT hZ15 (hw _ (List.mem_of_getElem? (i := 22) rfl)))) (mvT hZ15 (hw _ (List.mem_of_getElem? (i := 22) rfl))) (mvT hZ15 (hw _ (List.mem_of_getElem? (i := 21) rfl))) (by decide) (backOf (W := 0) (rm3 l Z a0 hw [] b13 ((1 : Int32) <<< (((p4 &&& (2147483647 : Int32)) % (21 : Int32)) &&& 31)) ((1 : Int32) <<< (((26 : Int32) - ((p4 &&& (2147483647 : Int32)) % (21 : Int32))) &&& 31)) s15 (0 : Int32) (0 : Int64) h15 n0 (Nat.le_trans Z0 K15.1) ((F_variables_b13.keep Kq14 List.not_mem_nil).ext E15) ((F_values_b13.keep Kq14 List.not_mem_nil).ext E15) ((E_b13.keep Kq14).ext E15) g_b13 hl16 hu16) hZ15 (hw _ (List.mem_of_getElem? (i := 23) rfl)) (hw _ (List.mem_of_getElem? (i := 4) rfl)) (by decide) (by decide)) q16a q16c (g := (mkF m 98 #[.val (.int p1), .val (.int p2), .val (.int p3), .val (.int p4), .val (.int (p1 &&& (1048575 : Int32))), .val (.int ((p2 &&& (2147483647 : Int32)) % (65 : Int32))), .val (.int (p3 &&& (2147483647 : Int32))), .val (.int ((p4 &&& (2147483647 : Int32)) % (21 : Int32))), .val (.ref b5), .val (.ref b13)] [(.ref s15), (.int ((1 : Int32) <<< (((26 : Int32) - ((p4 &&& (2147483647 : Int32)) % (21 : Int32))) &&& 31))), (.int ((1 : Int32) <<< (((p4 &&& (2147483647 : Int32)) % (21 : Int32)) &&& 31))), (.ref b13)])) rfl (by rw [hml]; rfl) (Steps.refl _) (argsL := [(.int ((1 : Int32) <<< (((p4 &&& (2147483647 : Int32)) % (21 : Int32)) &&& 31))), (.int ((1 : Int32) <<< (((26 : Int32) - ((p4 &&& (2147483647 : Int32)) % (21 : Int32))) &&& 31))), (.ref s15)]) (rest := []) (lenOf pd_0_1 rfl) rfl (by show 2 * 0 + _ ≤ _; exact Nat.le_of_eq rfl) (hb hby at_98) (fun _ _ => ⟨rfl, e15, (by decide : 10 + 0 ≤ _), (by decide : 38 + 0 ≤ _)⟩)
  dsimp only [Pt.U, Pt.locs, Pt.cells, Pt.slots] at X16 l16 y16 z16 st16 hQ16
  subst l16 y16 z16
  obtain ⟨rfl, N16q, Kq16, Ex16, Fv16, Fu16⟩ := hQ16
  have N16 := Fr.app N14 N16q
  have Z16 : n0 ≤ T16.heap.size := Nat.le_trans (Nat.le_trans Z0 K15.1) Kq16.1
  have Kz16 : Keep h0 T16.heap [] := K15.trans Kq16 (fun x hx => Or.inr (by cases List.mem_singleton.mp hx; exact sz_b13))
  obtain ⟨s17, T17, h17, c17, X17, e17, E17, hS17, hk17, hZ17, hown17, st17⟩ := ldcS (s := s) (vm0 := T15.vm) X16 hx hZ15 hown15 (hw _ (List.mem_of_getElem? (i := 34) rfl)) hstr rfl hS15 (Nat.le_trans hk15 Kq16.1) (g := (mkF m 106 #[.val (.int p1), .val (.int p2), .val (.int p3), .val (.int p4), .val (.int (p1 &&& (1048575 : Int32))), .val (.int ((p2 &&& (2147483647 : Int32)) % (65 : Int32))), .val (.int (p3 &&& (2147483647 : Int32))), .val (.int ((p4 &&& (2147483647 : Int32)) % (21 : Int32))), .val (.ref b5), .val (.ref b13)] [(.int (p3 &&& (2147483647 : Int32))), (.int (0 : Int32)), (.ref b13)])) rfl (hb hby at_106) (n := 4) (by decide) (by decide) (by decide) (by decide)
  have K17 : Keep h0 h17 [] := Kz16.ext E17
  obtain ⟨cq18, kq18, q18a, q18b, q18c⟩ := isOf hZ17 e17 ((((E_b13.keep Kq14).ext E15).keep Kq16).ext E17)
  obtain ⟨_, _, ⟨T18, L18, k18, n18⟩, -, X18, ⟨Lc18, hQ18, l18, y18, z18⟩, st18⟩ := X17.virtualBack hx (y := (⟨"com/example/failfirst/failfirst/InstanceSize", "addVariables", "(IILjava/lang/String;)V"⟩ : MethodName)) (z := (⟨"com/example/failfirst/failfirst/InstanceSize", "addVariables", "(IILjava/lang/String;)V"⟩ : MethodName)) hown17 (mvT hZ17 (hw _ (List.mem_of_getElem? (i := 19) rfl))) (mvT hZ17 (hw _ (List.mem_of_getElem? (i := 20) rfl))) (notFace_of_selects (args := #[]) (mvT hZ17 (hw _ (List.mem_of_getElem? (i := 22) rfl)))) (mvT hZ17 (hw _ (List.mem_of_getElem? (i := 22) rfl))) (mvT hZ17 (hw _ (List.mem_of_getElem? (i := 21) rfl))) (by decide) (backOf (W := 0) (rm3 l Z a0 hw [] b13 (0 : Int32) (p3 &&& (2147483647 : Int32)) s17 ((((0 : Int32).toInt64) + (((1 : Int32) <<< (((p4 &&& (2147483647 : Int32)) % (21 : Int32)) &&& 31)).toInt64)).toInt32) ((0 : Int64) + ((((1 : Int32) <<< (((p4 &&& (2147483647 : Int32)) % (21 : Int32)) &&& 31)).toInt64) * (((1 : Int32) <<< (((26 : Int32) - ((p4 &&& (2147483647 : Int32)) % (21 : Int32))) &&& 31)).toInt64))) h17 n0 (Nat.le_trans Z0 K17.1) (Fv16.ext E17) (Fu16.ext E17) (Ex16.ext E17) g_b13 hl18 hu18) hZ17 (hw _ (List.mem_of_getElem? (i := 23) rfl)) (hw _ (List.mem_of_getElem? (i := 4) rfl)) (by decide) (by decide)) q18a q18c (g := (mkF m 108 #[.val (.int p1), .val (.int p2), .val (.int p3), .val (.int p4), .val (.int (p1 &&& (1048575 : Int32))), .val (.int ((p2 &&& (2147483647 : Int32)) % (65 : Int32))), .val (.int (p3 &&& (2147483647 : Int32))), .val (.int ((p4 &&& (2147483647 : Int32)) % (21 : Int32))), .val (.ref b5), .val (.ref b13)] [(.ref s17), (.int (p3 &&& (2147483647 : Int32))), (.int (0 : Int32)), (.ref b13)])) rfl (by rw [hml]; rfl) (Steps.refl _) (argsL := [(.int (0 : Int32)), (.int (p3 &&& (2147483647 : Int32))), (.ref s17)]) (rest := []) (lenOf pd_0_1 rfl) rfl (by show 2 * 0 + _ ≤ _; exact Nat.le_of_eq rfl) (hb hby at_108) (fun _ _ => ⟨rfl, e17, (by decide : 12 + 0 ≤ _), (by decide : 46 + 0 ≤ _)⟩)
  dsimp only [Pt.U, Pt.locs, Pt.cells, Pt.slots] at X18 l18 y18 z18 st18 hQ18
  subst l18 y18 z18
  obtain ⟨rfl, N18q, Kq18, Ex18, Fv18, Fu18⟩ := hQ18
  have N18 := Fr.app N16 N18q
  have Z18 : n0 ≤ T18.heap.size := Nat.le_trans (Nat.le_trans Z0 K17.1) Kq18.1
  have Kz18 : Keep h0 T18.heap [] := K17.trans Kq18 (fun x hx => Or.inr (by cases List.mem_singleton.mp hx; exact sz_b13))
  obtain ⟨fs, hr, hrun, hended, hEnd⟩ := X18.leaveW hS17 (Nat.le_trans hk17 Kq18.1) (v := some (.int (1 : Int32))) (fun h => by rw [Bd.returns] at h; cases h) Bd.notSynchronized
  refine ⟨_, _, pre0 _ ?_, hrun, hended, _, _, rfl, ?_, hEnd.1, hEnd.2.1, hEnd.2.2.1, hEnd.2.2.2.mono (by decide) (by decide)⟩
  · show Steps p.tables e below (s₁.setTop (mkF m 0 #[.val (.int p1), .val (.int p2), .val (.int p3), .val (.int p4), .unset, .unset, .unset, .unset, .unset, .unset] [])) _
    refine XS.iloadN X0.here hx rfl (hb hby at_0) rfl ?_
    show Steps p.tables e below (s₁.setTop (mkF m 1 #[.val (.int p1), .val (.int p2), .val (.int p3), .val (.int p4), .unset, .unset, .unset, .unset, .unset, .unset] [(.int p1)])) _
    refine X0.ldcInt hx hown (mvT hZ (hw _ (List.mem_of_getElem? (i := 0) rfl))) (g := (mkF m 1 #[.val (.int p1), .val (.int p2), .val (.int p3), .val (.int p4), .unset, .unset, .unset, .unset, .unset, .unset] [(.int p1)])) rfl (hb hby at_1) _ ?_
    show Steps p.tables e below (s₁.setTop (mkF m 3 #[.val (.int p1), .val (.int p2), .val (.int p3), .val (.int p4), .unset, .unset, .unset, .unset, .unset, .unset] [(.int (1048575 : Int32)), (.int p1)])) _
    refine XS.iand X0.here hx rfl (hb hby at_3) rfl ?_
    show Steps p.tables e below (s₁.setTop (mkF m 4 #[.val (.int p1), .val (.int p2), .val (.int p3), .val (.int p4), .unset, .unset, .unset, .unset, .unset, .unset] [(.int (p1 &&& (1048575 : Int32)))])) _
    refine XS.istore X0.here hx rfl (hb hby at_4) rfl (l' := #[.val (.int p1), .val (.int p2), .val (.int p3), .val (.int p4), .val (.int (p1 &&& (1048575 : Int32))), .unset, .unset, .unset, .unset, .unset]) rfl ?_
    show Steps p.tables e below (s₁.setTop (mkF m 6 #[.val (.int p1), .val (.int p2), .val (.int p3), .val (.int p4), .val (.int (p1 &&& (1048575 : Int32))), .unset, .unset, .unset, .unset, .unset] [])) _
    refine XS.iloadN X0.here hx rfl (hb hby at_6) rfl ?_
    show Steps p.tables e below (s₁.setTop (mkF m 7 #[.val (.int p1), .val (.int p2), .val (.int p3), .val (.int p4), .val (.int (p1 &&& (1048575 : Int32))), .unset, .unset, .unset, .unset, .unset] [(.int p2)])) _
    refine X0.ldcInt hx hown (mvT hZ (hw _ (List.mem_of_getElem? (i := 1) rfl))) (g := (mkF m 7 #[.val (.int p1), .val (.int p2), .val (.int p3), .val (.int p4), .val (.int (p1 &&& (1048575 : Int32))), .unset, .unset, .unset, .unset, .unset] [(.int p2)])) rfl (hb hby at_7) _ ?_
    show Steps p.tables e below (s₁.setTop (mkF m 9 #[.val (.int p1), .val (.int p2), .val (.int p3), .val (.int p4), .val (.int (p1 &&& (1048575 : Int32))), .unset, .unset, .unset, .unset, .unset] [(.int (2147483647 : Int32)), (.int p2)])) _
    refine XS.iand X0.here hx rfl (hb hby at_9) rfl ?_
    show Steps p.tables e below (s₁.setTop (mkF m 10 #[.val (.int p1), .val (.int p2), .val (.int p3), .val (.int p4), .val (.int (p1 &&& (1048575 : Int32))), .unset, .unset, .unset, .unset, .unset] [(.int (p2 &&& (2147483647 : Int32)))])) _
    refine XS.bipush X0.here hx rfl (hb hby at_10) ?_
    show Steps p.tables e below (s₁.setTop (mkF m 12 #[.val (.int p1), .val (.int p2), .val (.int p3), .val (.int p4), .val (.int (p1 &&& (1048575 : Int32))), .unset, .unset, .unset, .unset, .unset] [(.int (65 : Int32)), (.int (p2 &&& (2147483647 : Int32)))])) _
    refine iremM X0 hx rfl (hb hby at_12) rfl (by decide) ?_
    show Steps p.tables e below (s₁.setTop (mkF m 13 #[.val (.int p1), .val (.int p2), .val (.int p3), .val (.int p4), .val (.int (p1 &&& (1048575 : Int32))), .unset, .unset, .unset, .unset, .unset] [(.int ((p2 &&& (2147483647 : Int32)) % (65 : Int32)))])) _
    refine XS.istore X0.here hx rfl (hb hby at_13) rfl (l' := #[.val (.int p1), .val (.int p2), .val (.int p3), .val (.int p4), .val (.int (p1 &&& (1048575 : Int32))), .val (.int ((p2 &&& (2147483647 : Int32)) % (65 : Int32))), .unset, .unset, .unset, .unset]) rfl ?_
    show Steps p.tables e below (s₁.setTop (mkF m 15 #[.val (.int p1), .val (.int p2), .val (.int p3), .val (.int p4), .val (.int (p1 &&& (1048575 : Int32))), .val (.int ((p2 &&& (2147483647 : Int32)) % (65 : Int32))), .unset, .unset, .unset, .unset] [])) _
    refine XS.iloadN X0.here hx rfl (hb hby at_15) rfl ?_
    show Steps p.tables e below (s₁.setTop (mkF m 16 #[.val (.int p1), .val (.int p2), .val (.int p3), .val (.int p4), .val (.int (p1 &&& (1048575 : Int32))), .val (.int ((p2 &&& (2147483647 : Int32)) % (65 : Int32))), .unset, .unset, .unset, .unset] [(.int p3)])) _
    refine X0.ldcInt hx hown (mvT hZ (hw _ (List.mem_of_getElem? (i := 1) rfl))) (g := (mkF m 16 #[.val (.int p1), .val (.int p2), .val (.int p3), .val (.int p4), .val (.int (p1 &&& (1048575 : Int32))), .val (.int ((p2 &&& (2147483647 : Int32)) % (65 : Int32))), .unset, .unset, .unset, .unset] [(.int p3)])) rfl (hb hby at_16) _ ?_
    show Steps p.tables e below (s₁.setTop (mkF m 18 #[.val (.int p1), .val (.int p2), .val (.int p3), .val (.int p4), .val (.int (p1 &&& (1048575 : Int32))), .val (.int ((p2 &&& (2147483647 : Int32)) % (65 : Int32))), .unset, .unset, .unset, .unset] [(.int (2147483647 : Int32)), (.int p3)])) _
    refine XS.iand X0.here hx rfl (hb hby at_18) rfl ?_
    show Steps p.tables e below (s₁.setTop (mkF m 19 #[.val (.int p1), .val (.int p2), .val (.int p3), .val (.int p4), .val (.int (p1 &&& (1048575 : Int32))), .val (.int ((p2 &&& (2147483647 : Int32)) % (65 : Int32))), .unset, .unset, .unset, .unset] [(.int (p3 &&& (2147483647 : Int32)))])) _
    refine XS.istore X0.here hx rfl (hb hby at_19) rfl (l' := #[.val (.int p1), .val (.int p2), .val (.int p3), .val (.int p4), .val (.int (p1 &&& (1048575 : Int32))), .val (.int ((p2 &&& (2147483647 : Int32)) % (65 : Int32))), .val (.int (p3 &&& (2147483647 : Int32))), .unset, .unset, .unset]) rfl ?_
    show Steps p.tables e below (s₁.setTop (mkF m 21 #[.val (.int p1), .val (.int p2), .val (.int p3), .val (.int p4), .val (.int (p1 &&& (1048575 : Int32))), .val (.int ((p2 &&& (2147483647 : Int32)) % (65 : Int32))), .val (.int (p3 &&& (2147483647 : Int32))), .unset, .unset, .unset] [])) _
    refine XS.iloadN X0.here hx rfl (hb hby at_21) rfl ?_
    show Steps p.tables e below (s₁.setTop (mkF m 22 #[.val (.int p1), .val (.int p2), .val (.int p3), .val (.int p4), .val (.int (p1 &&& (1048575 : Int32))), .val (.int ((p2 &&& (2147483647 : Int32)) % (65 : Int32))), .val (.int (p3 &&& (2147483647 : Int32))), .unset, .unset, .unset] [(.int p4)])) _
    refine X0.ldcInt hx hown (mvT hZ (hw _ (List.mem_of_getElem? (i := 1) rfl))) (g := (mkF m 22 #[.val (.int p1), .val (.int p2), .val (.int p3), .val (.int p4), .val (.int (p1 &&& (1048575 : Int32))), .val (.int ((p2 &&& (2147483647 : Int32)) % (65 : Int32))), .val (.int (p3 &&& (2147483647 : Int32))), .unset, .unset, .unset] [(.int p4)])) rfl (hb hby at_22) _ ?_
    show Steps p.tables e below (s₁.setTop (mkF m 24 #[.val (.int p1), .val (.int p2), .val (.int p3), .val (.int p4), .val (.int (p1 &&& (1048575 : Int32))), .val (.int ((p2 &&& (2147483647 : Int32)) % (65 : Int32))), .val (.int (p3 &&& (2147483647 : Int32))), .unset, .unset, .unset] [(.int (2147483647 : Int32)), (.int p4)])) _
    refine XS.iand X0.here hx rfl (hb hby at_24) rfl ?_
    show Steps p.tables e below (s₁.setTop (mkF m 25 #[.val (.int p1), .val (.int p2), .val (.int p3), .val (.int p4), .val (.int (p1 &&& (1048575 : Int32))), .val (.int ((p2 &&& (2147483647 : Int32)) % (65 : Int32))), .val (.int (p3 &&& (2147483647 : Int32))), .unset, .unset, .unset] [(.int (p4 &&& (2147483647 : Int32)))])) _
    refine XS.bipush X0.here hx rfl (hb hby at_25) ?_
    show Steps p.tables e below (s₁.setTop (mkF m 27 #[.val (.int p1), .val (.int p2), .val (.int p3), .val (.int p4), .val (.int (p1 &&& (1048575 : Int32))), .val (.int ((p2 &&& (2147483647 : Int32)) % (65 : Int32))), .val (.int (p3 &&& (2147483647 : Int32))), .unset, .unset, .unset] [(.int (21 : Int32)), (.int (p4 &&& (2147483647 : Int32)))])) _
    refine iremM X0 hx rfl (hb hby at_27) rfl (by decide) ?_
    show Steps p.tables e below (s₁.setTop (mkF m 28 #[.val (.int p1), .val (.int p2), .val (.int p3), .val (.int p4), .val (.int (p1 &&& (1048575 : Int32))), .val (.int ((p2 &&& (2147483647 : Int32)) % (65 : Int32))), .val (.int (p3 &&& (2147483647 : Int32))), .unset, .unset, .unset] [(.int ((p4 &&& (2147483647 : Int32)) % (21 : Int32)))])) _
    refine XS.istore X0.here hx rfl (hb hby at_28) rfl (l' := #[.val (.int p1), .val (.int p2), .val (.int p3), .val (.int p4), .val (.int (p1 &&& (1048575 : Int32))), .val (.int ((p2 &&& (2147483647 : Int32)) % (65 : Int32))), .val (.int (p3 &&& (2147483647 : Int32))), .val (.int ((p4 &&& (2147483647 : Int32)) % (21 : Int32))), .unset, .unset]) rfl ?_
    show Steps p.tables e below (s₁.setTop (mkF m 30 #[.val (.int p1), .val (.int p2), .val (.int p3), .val (.int p4), .val (.int (p1 &&& (1048575 : Int32))), .val (.int ((p2 &&& (2147483647 : Int32)) % (65 : Int32))), .val (.int (p3 &&& (2147483647 : Int32))), .val (.int ((p4 &&& (2147483647 : Int32)) % (21 : Int32))), .unset, .unset] [])) _
    refine st5 _ ?_
    show Steps p.tables e below (T5.setTop (mkF m 33 #[.val (.int p1), .val (.int p2), .val (.int p3), .val (.int p4), .val (.int (p1 &&& (1048575 : Int32))), .val (.int ((p2 &&& (2147483647 : Int32)) % (65 : Int32))), .val (.int (p3 &&& (2147483647 : Int32))), .val (.int ((p4 &&& (2147483647 : Int32)) % (21 : Int32))), .unset, .unset] [(.ref b5)])) _
    refine XS.dup X5.here hx rfl (hb hby at_33) rfl rfl ?_
    show Steps p.tables e below (T5.setTop (mkF m 34 #[.val (.int p1), .val (.int p2), .val (.int p3), .val (.int p4), .val (.int (p1 &&& (1048575 : Int32))), .val (.int ((p2 &&& (2147483647 : Int32)) % (65 : Int32))), .val (.int (p3 &&& (2147483647 : Int32))), .val (.int ((p4 &&& (2147483647 : Int32)) % (21 : Int32))), .unset, .unset] [(.ref b5), (.ref b5)])) _
    refine st6.trans ?_
    show Steps p.tables e below (T6.setTop (mkF m 37 #[.val (.int p1), .val (.int p2), .val (.int p3), .val (.int p4), .val (.int (p1 &&& (1048575 : Int32))), .val (.int ((p2 &&& (2147483647 : Int32)) % (65 : Int32))), .val (.int (p3 &&& (2147483647 : Int32))), .val (.int ((p4 &&& (2147483647 : Int32)) % (21 : Int32))), .unset, .unset] [(.ref b5)])) _
    refine XS.astore X6.here hx rfl (hb hby at_37) rfl rfl (l' := #[.val (.int p1), .val (.int p2), .val (.int p3), .val (.int p4), .val (.int (p1 &&& (1048575 : Int32))), .val (.int ((p2 &&& (2147483647 : Int32)) % (65 : Int32))), .val (.int (p3 &&& (2147483647 : Int32))), .val (.int ((p4 &&& (2147483647 : Int32)) % (21 : Int32))), .val (.ref b5), .unset]) rfl ?_
    show Steps p.tables e below (T6.setTop (mkF m 39 #[.val (.int p1), .val (.int p2), .val (.int p3), .val (.int p4), .val (.int (p1 &&& (1048575 : Int32))), .val (.int ((p2 &&& (2147483647 : Int32)) % (65 : Int32))), .val (.int (p3 &&& (2147483647 : Int32))), .val (.int ((p4 &&& (2147483647 : Int32)) % (21 : Int32))), .val (.ref b5), .unset] [])) _
    refine XS.aload X6.here hx rfl (hb hby at_39) rfl rfl ?_
    show Steps p.tables e below (T6.setTop (mkF m 41 #[.val (.int p1), .val (.int p2), .val (.int p3), .val (.int p4), .val (.int (p1 &&& (1048575 : Int32))), .val (.int ((p2 &&& (2147483647 : Int32)) % (65 : Int32))), .val (.int (p3 &&& (2147483647 : Int32))), .val (.int ((p4 &&& (2147483647 : Int32)) % (21 : Int32))), .val (.ref b5), .unset] [(.ref b5)])) _
    refine XS.iload X6.here hx rfl (hb hby at_41) rfl ?_
    show Steps p.tables e below (T6.setTop (mkF m 43 #[.val (.int p1), .val (.int p2), .val (.int p3), .val (.int p4), .val (.int (p1 &&& (1048575 : Int32))), .val (.int ((p2 &&& (2147483647 : Int32)) % (65 : Int32))), .val (.int (p3 &&& (2147483647 : Int32))), .val (.int ((p4 &&& (2147483647 : Int32)) % (21 : Int32))), .val (.ref b5), .unset] [(.int (p1 &&& (1048575 : Int32))), (.ref b5)])) _
    refine XS.iload X6.here hx rfl (hb hby at_43) rfl ?_
    show Steps p.tables e below (T6.setTop (mkF m 45 #[.val (.int p1), .val (.int p2), .val (.int p3), .val (.int p4), .val (.int (p1 &&& (1048575 : Int32))), .val (.int ((p2 &&& (2147483647 : Int32)) % (65 : Int32))), .val (.int (p3 &&& (2147483647 : Int32))), .val (.int ((p4 &&& (2147483647 : Int32)) % (21 : Int32))), .val (.ref b5), .unset] [(.int ((p2 &&& (2147483647 : Int32)) % (65 : Int32))), (.int (p1 &&& (1048575 : Int32))), (.ref b5)])) _
    refine st7 _ ?_
    show Steps p.tables e below (T7.setTop (mkF m 47 #[.val (.int p1), .val (.int p2), .val (.int p3), .val (.int p4), .val (.int (p1 &&& (1048575 : Int32))), .val (.int ((p2 &&& (2147483647 : Int32)) % (65 : Int32))), .val (.int (p3 &&& (2147483647 : Int32))), .val (.int ((p4 &&& (2147483647 : Int32)) % (21 : Int32))), .val (.ref b5), .unset] [(.ref s7), (.int ((p2 &&& (2147483647 : Int32)) % (65 : Int32))), (.int (p1 &&& (1048575 : Int32))), (.ref b5)])) _
    refine st8.trans ?_
    show Steps p.tables e below (T8.setTop (mkF m 50 #[.val (.int p1), .val (.int p2), .val (.int p3), .val (.int p4), .val (.int (p1 &&& (1048575 : Int32))), .val (.int ((p2 &&& (2147483647 : Int32)) % (65 : Int32))), .val (.int (p3 &&& (2147483647 : Int32))), .val (.int ((p4 &&& (2147483647 : Int32)) % (21 : Int32))), .val (.ref b5), .unset] [])) _
    refine XS.aload X8.here hx rfl (hb hby at_50) rfl rfl ?_
    show Steps p.tables e below (T8.setTop (mkF m 52 #[.val (.int p1), .val (.int p2), .val (.int p3), .val (.int p4), .val (.int (p1 &&& (1048575 : Int32))), .val (.int ((p2 &&& (2147483647 : Int32)) % (65 : Int32))), .val (.int (p3 &&& (2147483647 : Int32))), .val (.int ((p4 &&& (2147483647 : Int32)) % (21 : Int32))), .val (.ref b5), .unset] [(.ref b5)])) _
    refine XS.iconst X8.here hx rfl (hb hby at_52) ?_
    show Steps p.tables e below (T8.setTop (mkF m 53 #[.val (.int p1), .val (.int p2), .val (.int p3), .val (.int p4), .val (.int (p1 &&& (1048575 : Int32))), .val (.int ((p2 &&& (2147483647 : Int32)) % (65 : Int32))), .val (.int (p3 &&& (2147483647 : Int32))), .val (.int ((p4 &&& (2147483647 : Int32)) % (21 : Int32))), .val (.ref b5), .unset] [(.int (0 : Int32)), (.ref b5)])) _
    refine XS.iload X8.here hx rfl (hb hby at_53) rfl ?_
    show Steps p.tables e below (T8.setTop (mkF m 55 #[.val (.int p1), .val (.int p2), .val (.int p3), .val (.int p4), .val (.int (p1 &&& (1048575 : Int32))), .val (.int ((p2 &&& (2147483647 : Int32)) % (65 : Int32))), .val (.int (p3 &&& (2147483647 : Int32))), .val (.int ((p4 &&& (2147483647 : Int32)) % (21 : Int32))), .val (.ref b5), .unset] [(.int (p3 &&& (2147483647 : Int32))), (.int (0 : Int32)), (.ref b5)])) _
    refine st9 _ ?_
    show Steps p.tables e below (T9.setTop (mkF m 57 #[.val (.int p1), .val (.int p2), .val (.int p3), .val (.int p4), .val (.int (p1 &&& (1048575 : Int32))), .val (.int ((p2 &&& (2147483647 : Int32)) % (65 : Int32))), .val (.int (p3 &&& (2147483647 : Int32))), .val (.int ((p4 &&& (2147483647 : Int32)) % (21 : Int32))), .val (.ref b5), .unset] [(.ref s9), (.int (p3 &&& (2147483647 : Int32))), (.int (0 : Int32)), (.ref b5)])) _
    refine st10.trans ?_
    show Steps p.tables e below (T10.setTop (mkF m 60 #[.val (.int p1), .val (.int p2), .val (.int p3), .val (.int p4), .val (.int (p1 &&& (1048575 : Int32))), .val (.int ((p2 &&& (2147483647 : Int32)) % (65 : Int32))), .val (.int (p3 &&& (2147483647 : Int32))), .val (.int ((p4 &&& (2147483647 : Int32)) % (21 : Int32))), .val (.ref b5), .unset] [])) _
    refine XS.aload X10.here hx rfl (hb hby at_60) rfl rfl ?_
    show Steps p.tables e below (T10.setTop (mkF m 62 #[.val (.int p1), .val (.int p2), .val (.int p3), .val (.int p4), .val (.int (p1 &&& (1048575 : Int32))), .val (.int ((p2 &&& (2147483647 : Int32)) % (65 : Int32))), .val (.int (p3 &&& (2147483647 : Int32))), .val (.int ((p4 &&& (2147483647 : Int32)) % (21 : Int32))), .val (.ref b5), .unset] [(.ref b5)])) _
    refine X10.ldcInt hx hown9 (mvT hZ9 (hw _ (List.mem_of_getElem? (i := 31) rfl))) (g := (mkF m 62 #[.val (.int p1), .val (.int p2), .val (.int p3), .val (.int p4), .val (.int (p1 &&& (1048575 : Int32))), .val (.int ((p2 &&& (2147483647 : Int32)) % (65 : Int32))), .val (.int (p3 &&& (2147483647 : Int32))), .val (.int ((p4 &&& (2147483647 : Int32)) % (21 : Int32))), .val (.ref b5), .unset] [(.ref b5)])) rfl (hb hby at_62) _ ?_
    show Steps p.tables e below (T10.setTop (mkF m 64 #[.val (.int p1), .val (.int p2), .val (.int p3), .val (.int p4), .val (.int (p1 &&& (1048575 : Int32))), .val (.int ((p2 &&& (2147483647 : Int32)) % (65 : Int32))), .val (.int (p3 &&& (2147483647 : Int32))), .val (.int ((p4 &&& (2147483647 : Int32)) % (21 : Int32))), .val (.ref b5), .unset] [(.int (1048576 : Int32)), (.ref b5)])) _
    refine XS.iload X10.here hx rfl (hb hby at_64) rfl ?_
    show Steps p.tables e below (T10.setTop (mkF m 66 #[.val (.int p1), .val (.int p2), .val (.int p3), .val (.int p4), .val (.int (p1 &&& (1048575 : Int32))), .val (.int ((p2 &&& (2147483647 : Int32)) % (65 : Int32))), .val (.int (p3 &&& (2147483647 : Int32))), .val (.int ((p4 &&& (2147483647 : Int32)) % (21 : Int32))), .val (.ref b5), .unset] [(.int (p1 &&& (1048575 : Int32))), (.int (1048576 : Int32)), (.ref b5)])) _
    refine XS.isub X10.here hx rfl (hb hby at_66) rfl ?_
    show Steps p.tables e below (T10.setTop (mkF m 67 #[.val (.int p1), .val (.int p2), .val (.int p3), .val (.int p4), .val (.int (p1 &&& (1048575 : Int32))), .val (.int ((p2 &&& (2147483647 : Int32)) % (65 : Int32))), .val (.int (p3 &&& (2147483647 : Int32))), .val (.int ((p4 &&& (2147483647 : Int32)) % (21 : Int32))), .val (.ref b5), .unset] [(.int ((1048576 : Int32) - (p1 &&& (1048575 : Int32)))), (.ref b5)])) _
    refine XS.bipush X10.here hx rfl (hb hby at_67) ?_
    show Steps p.tables e below (T10.setTop (mkF m 69 #[.val (.int p1), .val (.int p2), .val (.int p3), .val (.int p4), .val (.int (p1 &&& (1048575 : Int32))), .val (.int ((p2 &&& (2147483647 : Int32)) % (65 : Int32))), .val (.int (p3 &&& (2147483647 : Int32))), .val (.int ((p4 &&& (2147483647 : Int32)) % (21 : Int32))), .val (.ref b5), .unset] [(.int (64 : Int32)), (.int ((1048576 : Int32) - (p1 &&& (1048575 : Int32)))), (.ref b5)])) _
    refine st11 _ ?_
    show Steps p.tables e below (T11.setTop (mkF m 71 #[.val (.int p1), .val (.int p2), .val (.int p3), .val (.int p4), .val (.int (p1 &&& (1048575 : Int32))), .val (.int ((p2 &&& (2147483647 : Int32)) % (65 : Int32))), .val (.int (p3 &&& (2147483647 : Int32))), .val (.int ((p4 &&& (2147483647 : Int32)) % (21 : Int32))), .val (.ref b5), .unset] [(.ref s11), (.int (64 : Int32)), (.int ((1048576 : Int32) - (p1 &&& (1048575 : Int32)))), (.ref b5)])) _
    refine st12.trans ?_
    show Steps p.tables e below (T12.setTop (mkF m 74 #[.val (.int p1), .val (.int p2), .val (.int p3), .val (.int p4), .val (.int (p1 &&& (1048575 : Int32))), .val (.int ((p2 &&& (2147483647 : Int32)) % (65 : Int32))), .val (.int (p3 &&& (2147483647 : Int32))), .val (.int ((p4 &&& (2147483647 : Int32)) % (21 : Int32))), .val (.ref b5), .unset] [])) _
    refine st13 _ ?_
    show Steps p.tables e below (T13.setTop (mkF m 77 #[.val (.int p1), .val (.int p2), .val (.int p3), .val (.int p4), .val (.int (p1 &&& (1048575 : Int32))), .val (.int ((p2 &&& (2147483647 : Int32)) % (65 : Int32))), .val (.int (p3 &&& (2147483647 : Int32))), .val (.int ((p4 &&& (2147483647 : Int32)) % (21 : Int32))), .val (.ref b5), .unset] [(.ref b13)])) _
    refine XS.dup X13.here hx rfl (hb hby at_77) rfl rfl ?_
    show Steps p.tables e below (T13.setTop (mkF m 78 #[.val (.int p1), .val (.int p2), .val (.int p3), .val (.int p4), .val (.int (p1 &&& (1048575 : Int32))), .val (.int ((p2 &&& (2147483647 : Int32)) % (65 : Int32))), .val (.int (p3 &&& (2147483647 : Int32))), .val (.int ((p4 &&& (2147483647 : Int32)) % (21 : Int32))), .val (.ref b5), .unset] [(.ref b13), (.ref b13)])) _
    refine st14.trans ?_
    show Steps p.tables e below (T14.setTop (mkF m 81 #[.val (.int p1), .val (.int p2), .val (.int p3), .val (.int p4), .val (.int (p1 &&& (1048575 : Int32))), .val (.int ((p2 &&& (2147483647 : Int32)) % (65 : Int32))), .val (.int (p3 &&& (2147483647 : Int32))), .val (.int ((p4 &&& (2147483647 : Int32)) % (21 : Int32))), .val (.ref b5), .unset] [(.ref b13)])) _
    refine XS.astore X14.here hx rfl (hb hby at_81) rfl rfl (l' := #[.val (.int p1), .val (.int p2), .val (.int p3), .val (.int p4), .val (.int (p1 &&& (1048575 : Int32))), .val (.int ((p2 &&& (2147483647 : Int32)) % (65 : Int32))), .val (.int (p3 &&& (2147483647 : Int32))), .val (.int ((p4 &&& (2147483647 : Int32)) % (21 : Int32))), .val (.ref b5), .val (.ref b13)]) rfl ?_
    show Steps p.tables e below (T14.setTop (mkF m 83 #[.val (.int p1), .val (.int p2), .val (.int p3), .val (.int p4), .val (.int (p1 &&& (1048575 : Int32))), .val (.int ((p2 &&& (2147483647 : Int32)) % (65 : Int32))), .val (.int (p3 &&& (2147483647 : Int32))), .val (.int ((p4 &&& (2147483647 : Int32)) % (21 : Int32))), .val (.ref b5), .val (.ref b13)] [])) _
    refine XS.aload X14.here hx rfl (hb hby at_83) rfl rfl ?_
    show Steps p.tables e below (T14.setTop (mkF m 85 #[.val (.int p1), .val (.int p2), .val (.int p3), .val (.int p4), .val (.int (p1 &&& (1048575 : Int32))), .val (.int ((p2 &&& (2147483647 : Int32)) % (65 : Int32))), .val (.int (p3 &&& (2147483647 : Int32))), .val (.int ((p4 &&& (2147483647 : Int32)) % (21 : Int32))), .val (.ref b5), .val (.ref b13)] [(.ref b13)])) _
    refine XS.iconst X14.here hx rfl (hb hby at_85) ?_
    show Steps p.tables e below (T14.setTop (mkF m 86 #[.val (.int p1), .val (.int p2), .val (.int p3), .val (.int p4), .val (.int (p1 &&& (1048575 : Int32))), .val (.int ((p2 &&& (2147483647 : Int32)) % (65 : Int32))), .val (.int (p3 &&& (2147483647 : Int32))), .val (.int ((p4 &&& (2147483647 : Int32)) % (21 : Int32))), .val (.ref b5), .val (.ref b13)] [(.int (1 : Int32)), (.ref b13)])) _
    refine XS.iload X14.here hx rfl (hb hby at_86) rfl ?_
    show Steps p.tables e below (T14.setTop (mkF m 88 #[.val (.int p1), .val (.int p2), .val (.int p3), .val (.int p4), .val (.int (p1 &&& (1048575 : Int32))), .val (.int ((p2 &&& (2147483647 : Int32)) % (65 : Int32))), .val (.int (p3 &&& (2147483647 : Int32))), .val (.int ((p4 &&& (2147483647 : Int32)) % (21 : Int32))), .val (.ref b5), .val (.ref b13)] [(.int ((p4 &&& (2147483647 : Int32)) % (21 : Int32))), (.int (1 : Int32)), (.ref b13)])) _
    refine XS.ishl X14.here hx rfl (hb hby at_88) rfl ?_
    show Steps p.tables e below (T14.setTop (mkF m 89 #[.val (.int p1), .val (.int p2), .val (.int p3), .val (.int p4), .val (.int (p1 &&& (1048575 : Int32))), .val (.int ((p2 &&& (2147483647 : Int32)) % (65 : Int32))), .val (.int (p3 &&& (2147483647 : Int32))), .val (.int ((p4 &&& (2147483647 : Int32)) % (21 : Int32))), .val (.ref b5), .val (.ref b13)] [(.int ((1 : Int32) <<< (((p4 &&& (2147483647 : Int32)) % (21 : Int32)) &&& 31))), (.ref b13)])) _
    refine XS.iconst X14.here hx rfl (hb hby at_89) ?_
    show Steps p.tables e below (T14.setTop (mkF m 90 #[.val (.int p1), .val (.int p2), .val (.int p3), .val (.int p4), .val (.int (p1 &&& (1048575 : Int32))), .val (.int ((p2 &&& (2147483647 : Int32)) % (65 : Int32))), .val (.int (p3 &&& (2147483647 : Int32))), .val (.int ((p4 &&& (2147483647 : Int32)) % (21 : Int32))), .val (.ref b5), .val (.ref b13)] [(.int (1 : Int32)), (.int ((1 : Int32) <<< (((p4 &&& (2147483647 : Int32)) % (21 : Int32)) &&& 31))), (.ref b13)])) _
    refine XS.bipush X14.here hx rfl (hb hby at_90) ?_
    show Steps p.tables e below (T14.setTop (mkF m 92 #[.val (.int p1), .val (.int p2), .val (.int p3), .val (.int p4), .val (.int (p1 &&& (1048575 : Int32))), .val (.int ((p2 &&& (2147483647 : Int32)) % (65 : Int32))), .val (.int (p3 &&& (2147483647 : Int32))), .val (.int ((p4 &&& (2147483647 : Int32)) % (21 : Int32))), .val (.ref b5), .val (.ref b13)] [(.int (26 : Int32)), (.int (1 : Int32)), (.int ((1 : Int32) <<< (((p4 &&& (2147483647 : Int32)) % (21 : Int32)) &&& 31))), (.ref b13)])) _
    refine XS.iload X14.here hx rfl (hb hby at_92) rfl ?_
    show Steps p.tables e below (T14.setTop (mkF m 94 #[.val (.int p1), .val (.int p2), .val (.int p3), .val (.int p4), .val (.int (p1 &&& (1048575 : Int32))), .val (.int ((p2 &&& (2147483647 : Int32)) % (65 : Int32))), .val (.int (p3 &&& (2147483647 : Int32))), .val (.int ((p4 &&& (2147483647 : Int32)) % (21 : Int32))), .val (.ref b5), .val (.ref b13)] [(.int ((p4 &&& (2147483647 : Int32)) % (21 : Int32))), (.int (26 : Int32)), (.int (1 : Int32)), (.int ((1 : Int32) <<< (((p4 &&& (2147483647 : Int32)) % (21 : Int32)) &&& 31))), (.ref b13)])) _
    refine XS.isub X14.here hx rfl (hb hby at_94) rfl ?_
    show Steps p.tables e below (T14.setTop (mkF m 95 #[.val (.int p1), .val (.int p2), .val (.int p3), .val (.int p4), .val (.int (p1 &&& (1048575 : Int32))), .val (.int ((p2 &&& (2147483647 : Int32)) % (65 : Int32))), .val (.int (p3 &&& (2147483647 : Int32))), .val (.int ((p4 &&& (2147483647 : Int32)) % (21 : Int32))), .val (.ref b5), .val (.ref b13)] [(.int ((26 : Int32) - ((p4 &&& (2147483647 : Int32)) % (21 : Int32)))), (.int (1 : Int32)), (.int ((1 : Int32) <<< (((p4 &&& (2147483647 : Int32)) % (21 : Int32)) &&& 31))), (.ref b13)])) _
    refine XS.ishl X14.here hx rfl (hb hby at_95) rfl ?_
    show Steps p.tables e below (T14.setTop (mkF m 96 #[.val (.int p1), .val (.int p2), .val (.int p3), .val (.int p4), .val (.int (p1 &&& (1048575 : Int32))), .val (.int ((p2 &&& (2147483647 : Int32)) % (65 : Int32))), .val (.int (p3 &&& (2147483647 : Int32))), .val (.int ((p4 &&& (2147483647 : Int32)) % (21 : Int32))), .val (.ref b5), .val (.ref b13)] [(.int ((1 : Int32) <<< (((26 : Int32) - ((p4 &&& (2147483647 : Int32)) % (21 : Int32))) &&& 31))), (.int ((1 : Int32) <<< (((p4 &&& (2147483647 : Int32)) % (21 : Int32)) &&& 31))), (.ref b13)])) _
    refine st15 _ ?_
    show Steps p.tables e below (T15.setTop (mkF m 98 #[.val (.int p1), .val (.int p2), .val (.int p3), .val (.int p4), .val (.int (p1 &&& (1048575 : Int32))), .val (.int ((p2 &&& (2147483647 : Int32)) % (65 : Int32))), .val (.int (p3 &&& (2147483647 : Int32))), .val (.int ((p4 &&& (2147483647 : Int32)) % (21 : Int32))), .val (.ref b5), .val (.ref b13)] [(.ref s15), (.int ((1 : Int32) <<< (((26 : Int32) - ((p4 &&& (2147483647 : Int32)) % (21 : Int32))) &&& 31))), (.int ((1 : Int32) <<< (((p4 &&& (2147483647 : Int32)) % (21 : Int32)) &&& 31))), (.ref b13)])) _
    refine st16.trans ?_
    show Steps p.tables e below (T16.setTop (mkF m 101 #[.val (.int p1), .val (.int p2), .val (.int p3), .val (.int p4), .val (.int (p1 &&& (1048575 : Int32))), .val (.int ((p2 &&& (2147483647 : Int32)) % (65 : Int32))), .val (.int (p3 &&& (2147483647 : Int32))), .val (.int ((p4 &&& (2147483647 : Int32)) % (21 : Int32))), .val (.ref b5), .val (.ref b13)] [])) _
    refine XS.aload X16.here hx rfl (hb hby at_101) rfl rfl ?_
    show Steps p.tables e below (T16.setTop (mkF m 103 #[.val (.int p1), .val (.int p2), .val (.int p3), .val (.int p4), .val (.int (p1 &&& (1048575 : Int32))), .val (.int ((p2 &&& (2147483647 : Int32)) % (65 : Int32))), .val (.int (p3 &&& (2147483647 : Int32))), .val (.int ((p4 &&& (2147483647 : Int32)) % (21 : Int32))), .val (.ref b5), .val (.ref b13)] [(.ref b13)])) _
    refine XS.iconst X16.here hx rfl (hb hby at_103) ?_
    show Steps p.tables e below (T16.setTop (mkF m 104 #[.val (.int p1), .val (.int p2), .val (.int p3), .val (.int p4), .val (.int (p1 &&& (1048575 : Int32))), .val (.int ((p2 &&& (2147483647 : Int32)) % (65 : Int32))), .val (.int (p3 &&& (2147483647 : Int32))), .val (.int ((p4 &&& (2147483647 : Int32)) % (21 : Int32))), .val (.ref b5), .val (.ref b13)] [(.int (0 : Int32)), (.ref b13)])) _
    refine XS.iload X16.here hx rfl (hb hby at_104) rfl ?_
    show Steps p.tables e below (T16.setTop (mkF m 106 #[.val (.int p1), .val (.int p2), .val (.int p3), .val (.int p4), .val (.int (p1 &&& (1048575 : Int32))), .val (.int ((p2 &&& (2147483647 : Int32)) % (65 : Int32))), .val (.int (p3 &&& (2147483647 : Int32))), .val (.int ((p4 &&& (2147483647 : Int32)) % (21 : Int32))), .val (.ref b5), .val (.ref b13)] [(.int (p3 &&& (2147483647 : Int32))), (.int (0 : Int32)), (.ref b13)])) _
    refine st17 _ ?_
    show Steps p.tables e below (T17.setTop (mkF m 108 #[.val (.int p1), .val (.int p2), .val (.int p3), .val (.int p4), .val (.int (p1 &&& (1048575 : Int32))), .val (.int ((p2 &&& (2147483647 : Int32)) % (65 : Int32))), .val (.int (p3 &&& (2147483647 : Int32))), .val (.int ((p4 &&& (2147483647 : Int32)) % (21 : Int32))), .val (.ref b5), .val (.ref b13)] [(.ref s17), (.int (p3 &&& (2147483647 : Int32))), (.int (0 : Int32)), (.ref b13)])) _
    refine st18.trans ?_
    show Steps p.tables e below (T18.setTop (mkF m 111 #[.val (.int p1), .val (.int p2), .val (.int p3), .val (.int p4), .val (.int (p1 &&& (1048575 : Int32))), .val (.int ((p2 &&& (2147483647 : Int32)) % (65 : Int32))), .val (.int (p3 &&& (2147483647 : Int32))), .val (.int ((p4 &&& (2147483647 : Int32)) % (21 : Int32))), .val (.ref b5), .val (.ref b13)] [])) _
    refine XS.iconst X18.here hx rfl (hb hby at_111) ?_
    show Steps p.tables e below (T18.setTop (mkF m 112 #[.val (.int p1), .val (.int p2), .val (.int p3), .val (.int p4), .val (.int (p1 &&& (1048575 : Int32))), .val (.int ((p2 &&& (2147483647 : Int32)) % (65 : Int32))), .val (.int (p3 &&& (2147483647 : Int32))), .val (.int ((p4 &&& (2147483647 : Int32)) % (21 : Int32))), .val (.ref b5), .val (.ref b13)] [(.int (1 : Int32))])) _
    exact retN X18 hx (t := .boolean) Bd.returns (by simp) (hb hby at_112) hr
  · show Q0 Z p1 p2 p3 p4 h0 n0 _ T18.heap _
    exact ⟨rfl, N18⟩
theorem rm0 (l : Launch) (Z : State) (a0 : Array Value) (hw : ∀ d ∈ tables_1, d.before a0 Z = true) (ws : List Jvm.Cond) (p1 : Int32) (p2 : Int32) (p3 : Int32) (p4 : Int32) (h0 : Heap) (n0 : Nat) (Z0 : n0 ≤ h0.size) :
    MetFree l x (head1 (Jvm.Cond.code x code maxLocals ret :: ws) room_1) (fun a U => a = #[(.int p1), (.int p2), (.int p3), (.int p4)] ∧ Z.Warmed39 U.vm ∧ U.heap = h0) (fun _ _ _ _ _ => True) (fun _ U o U' => ∃ v L, o = .returned v ∧ Q0 Z p1 p2 p3 p4 h0 n0 v U'.heap L ∧ ReturnedEndW U o U' L 24 5248) := by
  obtain ⟨c0, c9⟩ := own_c1 p1
  obtain ⟨d0, d9⟩ := own_rem _ (65 : Int32) 65 (by decide) (by decide) (own_msk p2)
  have m0 := own_msk p3
  obtain ⟨k0, k9⟩ := own_rem _ (21 : Int32) 21 (by decide) (by decide) (own_msk p4)
  obtain ⟨q1, q2, q3⟩ := own_k _ k0 k9
  obtain ⟨q4, q5⟩ := own_p _ _ c0 d0 d9
  have f1 := own_f1 _ _ c0 c9 d0
  have u0 : 0 ≤ ((0 : Int64) + (((p1 &&& (1048575 : Int32)).toInt64) * (((p2 &&& (2147483647 : Int32)) % (65 : Int32)).toInt64))).toInt := by rw [f1]; exact q4
  have u8 : ((0 : Int64) + (((p1 &&& (1048575 : Int32)).toInt64) * (((p2 &&& (2147483647 : Int32)) % (65 : Int32)).toInt64))).toInt ≤ (p1 &&& (1048575 : Int32)).toInt * 64 := by rw [f1]; exact q5
  have u9 : ((0 : Int64) + (((p1 &&& (1048575 : Int32)).toInt64) * (((p2 &&& (2147483647 : Int32)) % (65 : Int32)).toInt64))).toInt ≤ 67108864 := Int.le_trans u8 (Int.le_trans (Int.mul_le_mul_of_nonneg_right c9 (by decide)) (by decide))
  have x1 : ((1 : Int32) <<< (((p4 &&& (2147483647 : Int32)) % (21 : Int32)) &&& 31)).toInt ≤ 1048576 := by rw [own_L, own_z0, Int.zero_add] at q1; exact q1
  exact rm0_x l Z a0 hw ws p1 p2 p3 p4 h0 n0 Z0 (own_t1 _ c0 (Int.le_trans c9 (by decide))) (own_t2 _ _ c0 c9 d0 d9) (own_t3 _ c0 (Int.le_trans c9 (by decide))) (own_t4 _ _ m0 u0 u9) (own_t5 _ c0 c9) (own_t6 _ _ _ c0 c9 m0 u0 u8)
    (own_t1 _ q2 x1) (own_le _ _ (by rw [q3, own_z3]; decide)) (own_t3 _ q2 x1) (own_t4 _ _ m0 (by rw [q3]; decide) (by rw [q3]; decide))
set_option maxRecDepth 65536 in
set_option maxHeartbeats 40000000 in
theorem comes_1 {Post : Tables → Env → Array Value → State → Outcome → State → Prop} (hpost : ∀ tb e args s v u, (limb_1_1.after args s (.returned v) u = true ∧ limb_1_2.after args s (.returned v) u = true ∧ True) → ReturnedEndW s (.returned v) u (Jvm.fieldLocs frame_1_writes args s ++ Jvm.arrayLocs frame_1_arrays args s ++ Jvm.staticLocs frame_1_statics s) 24 5248 → Post tb e args s (.returned v) u) :
    ArmFor flags0 classFile x code maxLocals ret World_1 tables_1 room_1 Calls_1 rest_1 Pre_1 Post := by
  intro l hfl _ _ p e ha hc hk s m args below hf hA hF happ hP
  obtain ⟨hcalls, hrest, hpre⟩ := hP
  obtain ⟨-, -, -, hnamed, -, -, -, hat⟩ := (Spec.applies_iff hf).mp happ
  obtain ⟨hg, hn⟩ := and_e (Cond.before_iff.mp (show (Jvm.Cond.and given_1 narrow_1).before args s = true from hpre))
  obtain ⟨g19, g20⟩ := and_e hg
  obtain ⟨g21, g22⟩ := and_e g20
  obtain ⟨g23, g24⟩ := and_e g22
  obtain ⟨g25, g26⟩ := and_e g24
  obtain ⟨w0, w1, w2, w3, rfl⟩ : ∃ w0 w1 w2 w3 : Value, args = #[w0, w1, w2, w3] := by
    have hs : args.size = 4 := by simpa [Cond.value, given_1] using g19
    obtain ⟨L⟩ := args
    match L, hs with
    | [w0, w1, w2, w3], _ => exact ⟨w0, w1, w2, w3, rfl⟩
  have hw := fun d (hd : d ∈ tables_1) => atoms_spec (ws := Jvm.Cond.code x code maxLocals ret :: tables_1) hat d (List.mem_cons_of_mem _ hd)
  have hfit : Fit s := fun {y c} hc i hi => by
    obtain ⟨ha, rfl⟩ := Array.getElem?_eq_some_iff.mp hc
    have q := List.all_eq_true.mp ((Array.all_eq_true_iff_forall_mem.mp hF) _ (Array.getElem_mem ha)) i (List.mem_range.mpr hi)
    simpa [Array.getElem?_eq_getElem hi] using q
  obtain ⟨i0, ei0⟩ := is_v g21
  obtain rfl : w0 = (.int i0) := Option.some.inj ei0
  obtain ⟨i1, ei1⟩ := is_v g23
  obtain rfl : w1 = (.int i1) := Option.some.inj ei1
  obtain ⟨i2, ei2⟩ := is_v g25
  obtain rfl : w2 = (.int i2) := Option.some.inj ei2
  obtain ⟨i3, ei3⟩ := is_v g26
  obtain rfl : w3 = (.int i3) := Option.some.inj ei3
  obtain ⟨n, o, h1, h2, h3, _, L, rfl, ⟨rfl, N⟩, hq⟩ := rm0 l s _ hw tables_1 i0 i1 i2 i3 s.heap s.heap.size (Nat.le_refl _) p e ha hc hk s m _ below hf ((Spec.applies_iff_loose hf).mp happ).1 ⟨rfl, State.Warmed39.refl s, rfl⟩ trivial
  refine ⟨n, _, h1, h2, h3, hpost _ _ _ _ _ _ ⟨Cond.after_iff.mpr rfl, Cond.after_iff.mpr (eq_i res_at (Term.int_eval (1)) rfl), trivial⟩ ⟨hq.1, hq.2.1, hq.2.2.1, (hq.2.2.2.sift fun y hy => Or.inr (N y hy)).mono (by decide) (by decide)⟩⟩
theorem main_1_1 : Claimed_1_1 := comes_1 fun _ _ _ _ _ _ h hF => ⟨h.1, hF⟩
theorem main_1_2 : Claimed_1_2 := comes_1 fun _ _ _ _ _ _ h hF => ⟨h.2.1, hF⟩

end Jvm.Pilot.@@N@@
namespace Jvm.Pilot.@@N@@
open Jvm Jvm.ClassFile Sem Op Lib Jvm.Free Jvm.Stand Jvm.Pilot.@@N@@.Jvm.D
/-! MADE BY PROGRAM (witnessworld.py) out of the Statement's table words and the real class files: 14 classes; the members and pool entries that the words name. The judged class is class 1, her method 1. -/
namespace start1
open Jvm.ClassFile
def u (s : String) : CpInfo := .utf8 (stringToUtf16 s)
/-- a pool by its gaps: so many unusable entries, then the entry; so many at the end -/
def gap : Nat → List CpInfo → List CpInfo
  | 0, r => r
  | n + 1, r => .unusable :: gap n r
def poolList (es : List (Nat × CpInfo)) (last : Nat) : List CpInfo := es.foldr (fun e r => gap e.1 (e.2 :: r)) (gap last [])
def pool (es : List (Nat × CpInfo)) (last : Nat) : Array CpInfo := ⟨poolList es last⟩
def fileOf (pool : Array CpInfo) (this : Nat) (attrs : Array Attribute := #[]) (ms : Array MethodInfo := #[]) (fl : Nat := 33) (sup : Nat := 0) (ifs : Array Nat := #[]) (fds : Array FieldInfo := #[]) : ClassFile where
  minorVersion := 0
  majorVersion := 65
  constantPool := pool
  accessFlags := fl
  thisClass := this
  superClass := sup
  interfaces := ifs
  fields := fds
  methods := ms
  attributes := attrs
def plain (name : String) (sup : Option ClassId) : Class where
  name := name
  kind := .ordinary
  loader := none
  accessFlags := 33
  super := sup
  interfaces := #[]
  cf := none
  fields := #[]
  methods := #[]
  instanceTypes := #[]
  staticTypes := #[]
  resolved := #[]
  callSites := []
  init := .initialized
  statics := none
  mirror := none

def pool0 : Array CpInfo := pool [(5, u "<init>"), (0, u "()V"), (1, .class_ 10), (1, u "java/lang/Object")] 113

def k0c0 : Code := { maxStack := 0, maxLocals := 1, code := object_method_1_code, exceptionTable := #[], attributes := #[] }
def k0m0 : Method := { name := "<init>", desc := "()V", sig := { parameters := [], returnType := none }, accessFlags := 1, code := some k0c0 }
/-- java/lang/Object -/
def k0 : Class := { plain "java/lang/Object" none with
  accessFlags := 33
  interfaces := #[]
  cf := some (fileOf pool0 8 #[] #[{ accessFlags := 1, nameIndex := 5, descriptorIndex := 6, attributes := #[] }] 33 0 #[] #[])
  fields := #[]
  methods := #[k0m0]
  instanceTypes := #[]
  staticTypes := #[]
  resolved := Array.replicate 124 none
  statics := none }

def pool1 : Array CpInfo := pool [(2, .class_ 4), (0, .nameAndType 5 6), (0, u "java/lang/Object"), (0, u "<init>"), (0, u "()V"), (0, .integer 1048575), (0, .integer 2147483647), (0, .class_ 10), (0, u "com/example/failfirst/failfirst/InstanceSize"), (0, .methodref 9 3), (0, .string 13), (0, u "a"), (0, .methodref 9 15), (0, .nameAndType 16 17), (0, u "addVariables"), (0, u "(IILjava/lang/String;)V"), (0, .string 19), (0, u "b"), (0, .integer 1048576), (0, .string 22), (0, u "c"), (0, .string 24), (0, u "d"), (0, .string 26), (0, u "e"), (0, .class_ 28), (0, u "com/example/failfirst/failfirst/InstanceSizeAddVariablesPinLaw"), (2, u "law"), (0, u "(IIII)Z")] 5

def k1m0 : Method := { name := "<init>", desc := "()V", sig := { parameters := [], returnType := none }, accessFlags := 1, code := none }
def k1c1 : Code := { maxStack := 5, maxLocals := 10, code := code, exceptionTable := #[], attributes := #[] }
def k1m1 : Method := { name := "law", desc := "(IIII)Z", sig := { parameters := [.int, .int, .int, .int], returnType := some .boolean }, accessFlags := 9, code := some k1c1 }
/-- com/example/failfirst/failfirst/InstanceSizeAddVariablesPinLaw -/
def k1 : Class := { plain "com/example/failfirst/failfirst/InstanceSizeAddVariablesPinLaw" (some 0) with
  accessFlags := 49
  interfaces := #[]
  cf := some (fileOf pool1 27 #[] #[{ accessFlags := 1, nameIndex := 5, descriptorIndex := 6, attributes := #[] }, { accessFlags := 9, nameIndex := 31, descriptorIndex := 32, attributes := #[] }] 49 2 #[] #[])
  fields := #[]
  methods := #[k1m0, k1m1]
  instanceTypes := #[]
  staticTypes := #[]
  resolved := Array.replicate 38 none
  statics := none }

def pool2 : Array CpInfo := pool [(3, .methodref 4 5), (0, .class_ 6), (0, .nameAndType 7 8), (0, u "java/lang/Object"), (0, u "<init>"), (0, u "()V"), (0, .fieldref 10 11), (0, .class_ 12), (0, .nameAndType 13 14), (0, u "com/example/failfirst/failfirst/InstanceSize"), (0, u "variables"), (0, u "I"), (0, .long 1048576), (9, .fieldref 10 26), (0, .nameAndType 27 28), (0, u "values"), (0, u "J"), (0, .long 67108864), (4, u "pairs"), (12, u "(IILjava/lang/String;)V"), (8, u "MAX_DOMAIN_SIZE"), (2, u "MAX_VARIABLES"), (1, u "MAX_VALUES"), (0, u "MAX_PAIRS"), (0, u "LEAST_COUNTED"), (3, u "addVariables")] 27

def k2c0 : Code := { maxStack := 1, maxLocals := 1, code := prog_23_method_1_code, exceptionTable := #[], attributes := #[] }
def k2m0 : Method := { name := "<init>", desc := "()V", sig := { parameters := [], returnType := none }, accessFlags := 0, code := some k2c0 }
def k2c1 : Code := { maxStack := 6, maxLocals := 8, code := prog_23_method_2_code, exceptionTable := #[], attributes := #[] }
def k2m1 : Method := { name := "addVariables", desc := "(IILjava/lang/String;)V", sig := { parameters := [.int, .int, (.object "java/lang/String")], returnType := none }, accessFlags := 0, code := some k2c1 }
/-- com/example/failfirst/failfirst/InstanceSize -/
def k2 : Class := { plain "com/example/failfirst/failfirst/InstanceSize" (some 0) with
  accessFlags := 48
  interfaces := #[]
  cf := some (fileOf pool2 10 #[] #[{ accessFlags := 0, nameIndex := 7, descriptorIndex := 8, attributes := #[] }, { accessFlags := 0, nameIndex := 67, descriptorIndex := 47, attributes := #[] }] 48 4 #[] #[{ accessFlags := 24, nameIndex := 56, descriptorIndex := 14, attributes := #[] }, { accessFlags := 24, nameIndex := 59, descriptorIndex := 14, attributes := #[] }, { accessFlags := 24, nameIndex := 61, descriptorIndex := 28, attributes := #[] }, { accessFlags := 24, nameIndex := 62, descriptorIndex := 28, attributes := #[] }, { accessFlags := 26, nameIndex := 63, descriptorIndex := 14, attributes := #[] }, { accessFlags := 2, nameIndex := 13, descriptorIndex := 14, attributes := #[] }, { accessFlags := 2, nameIndex := 27, descriptorIndex := 28, attributes := #[] }, { accessFlags := 2, nameIndex := 34, descriptorIndex := 28, attributes := #[] }])
  fields := #[{ name := "MAX_DOMAIN_SIZE", type := .int, accessFlags := 24, slot := 0, constantValue := 0 }, { name := "MAX_VARIABLES", type := .int, accessFlags := 24, slot := 1, constantValue := 0 }, { name := "MAX_VALUES", type := .long, accessFlags := 24, slot := 2, constantValue := 0 }, { name := "MAX_PAIRS", type := .long, accessFlags := 24, slot := 3, constantValue := 0 }, { name := "LEAST_COUNTED", type := .int, accessFlags := 26, slot := 4, constantValue := 0 }, { name := "variables", type := .int, accessFlags := 2, slot := 0, constantValue := 0 }, { name := "values", type := .long, accessFlags := 2, slot := 1, constantValue := 0 }, { name := "pairs", type := .long, accessFlags := 2, slot := 2, constantValue := 0 }]
  methods := #[k2m0, k2m1]
  instanceTypes := #[.int, .long, .long]
  staticTypes := #[.int, .int, .long, .long, .int]
  resolved := Array.replicate 95 none
  statics := none }

def pool3 : Array CpInfo := pool [(1, .class_ 2), (0, u "java/io/Serializable"), (0, .class_ 4), (0, u "java/lang/Object")] 2

/-- java/io/Serializable -/
def k3 : Class := { plain "java/io/Serializable" (some 0) with
  accessFlags := 1537
  interfaces := #[]
  cf := some (fileOf pool3 1 #[] #[] 1537 3 #[] #[])
  fields := #[]
  methods := #[]
  instanceTypes := #[]
  staticTypes := #[]
  resolved := Array.replicate 7 none
  statics := none }

def pool4 : Array CpInfo := pool [(1, .class_ 2), (0, u "java/lang/Comparable"), (0, .class_ 4), (0, u "java/lang/Object")] 7

/-- java/lang/Comparable -/
def k4 : Class := { plain "java/lang/Comparable" (some 0) with
  accessFlags := 1537
  interfaces := #[]
  cf := some (fileOf pool4 1 #[] #[] 1537 3 #[] #[])
  fields := #[]
  methods := #[]
  instanceTypes := #[]
  staticTypes := #[]
  resolved := Array.replicate 12 none
  statics := none }

def pool5 : Array CpInfo := pool [(2, .class_ 4), (1, u "java/lang/CharSequence"), (42, .class_ 48), (0, u "java/lang/CharSequence$1CodePointIterator"), (10, .class_ 60), (0, u "java/lang/CharSequence$1CharIterator"), (5, .class_ 67), (0, u "java/lang/Object")] 63

/-- java/lang/CharSequence -/
def k5 : Class := { plain "java/lang/CharSequence" (some 0) with
  accessFlags := 1537
  interfaces := #[]
  cf := some (fileOf pool5 2 #[.nestMembers #[47, 59]] #[] 1537 66 #[] #[])
  fields := #[]
  methods := #[]
  instanceTypes := #[]
  staticTypes := #[]
  resolved := Array.replicate 131 none
  statics := none }

def pool6 : Array CpInfo := pool [(1, .class_ 2), (0, u "java/lang/constant/Constable"), (0, .class_ 4), (0, u "java/lang/Object")] 6

/-- java/lang/constant/Constable -/
def k6 : Class := { plain "java/lang/constant/Constable" (some 0) with
  accessFlags := 1537
  interfaces := #[]
  cf := some (fileOf pool6 1 #[] #[] 1537 3 #[] #[])
  fields := #[]
  methods := #[]
  instanceTypes := #[]
  staticTypes := #[]
  resolved := Array.replicate 11 none
  statics := none }

def pool7 : Array CpInfo := pool [(1, .class_ 2), (0, u "java/lang/constant/ConstantDesc"), (0, .class_ 4), (0, u "java/lang/Object")] 32

/-- java/lang/constant/ConstantDesc -/
def k7 : Class := { plain "java/lang/constant/ConstantDesc" (some 0) with
  accessFlags := 1537
  interfaces := #[]
  cf := some (fileOf pool7 1 #[] #[] 1537 3 #[] #[])
  fields := #[]
  methods := #[]
  instanceTypes := #[]
  staticTypes := #[]
  resolved := Array.replicate 37 none
  statics := none }

def pool8 : Array CpInfo := pool [(2, .class_ 4), (1, u "java/lang/Object"), (0, u "<init>"), (0, u "()V"), (3, .class_ 12), (1, u "java/lang/String"), (0, u "value"), (0, u "[B"), (2, u "coder"), (0, u "B"), (2, u "hash"), (0, u "I"), (2, u "hashIsZero"), (0, u "Z"), (13, u "COMPACT_STRINGS"), (534, .class_ 576), (0, u "java/lang/CharSequence"), (22, u "CASE_INSENSITIVE_ORDER"), (0, u "Ljava/util/Comparator;"), (500, u "serialPersistentFields"), (0, u "[Ljava/io/ObjectStreamField;"), (0, .class_ 1104), (0, u "java/lang/String$CaseInsensitiveComparator"), (1, .class_ 1107), (0, u "java/io/Serializable"), (0, .class_ 1109), (0, u "java/lang/Comparable"), (0, .class_ 1111), (0, u "java/lang/constant/Constable"), (0, .class_ 1113), (0, u "java/lang/constant/ConstantDesc"), (2, u "serialVersionUID"), (0, u "J"), (3, u "REPL"), (0, u "C"), (2, u "LATIN1"), (1, u "UTF16")] 323

def k8m0 : Method := { name := "<init>", desc := "()V", sig := { parameters := [], returnType := none }, accessFlags := 1, code := none }
/-- java/lang/String -/
def k8 : Class := { plain "java/lang/String" (some 0) with
  accessFlags := 49
  interfaces := #[3, 4, 5, 6, 7]
  cf := some (fileOf pool8 10 #[.nestMembers #[1103]] #[{ accessFlags := 1, nameIndex := 5, descriptorIndex := 6, attributes := #[] }] 49 2 #[1106, 1108, 575, 1110, 1112] #[{ accessFlags := 18, nameIndex := 13, descriptorIndex := 14, attributes := #[] }, { accessFlags := 18, nameIndex := 17, descriptorIndex := 18, attributes := #[] }, { accessFlags := 2, nameIndex := 21, descriptorIndex := 22, attributes := #[] }, { accessFlags := 2, nameIndex := 25, descriptorIndex := 26, attributes := #[] }, { accessFlags := 26, nameIndex := 1116, descriptorIndex := 1117, attributes := #[] }, { accessFlags := 24, nameIndex := 40, descriptorIndex := 26, attributes := #[] }, { accessFlags := 26, nameIndex := 1101, descriptorIndex := 1102, attributes := #[] }, { accessFlags := 26, nameIndex := 1121, descriptorIndex := 1122, attributes := #[] }, { accessFlags := 25, nameIndex := 599, descriptorIndex := 600, attributes := #[] }, { accessFlags := 24, nameIndex := 1125, descriptorIndex := 18, attributes := #[] }, { accessFlags := 24, nameIndex := 1127, descriptorIndex := 18, attributes := #[] }])
  fields := #[{ name := "value", type := (.array .byte), accessFlags := 18, slot := 0, constantValue := 0 }, { name := "coder", type := .byte, accessFlags := 18, slot := 1, constantValue := 0 }, { name := "hash", type := .int, accessFlags := 2, slot := 2, constantValue := 0 }, { name := "hashIsZero", type := .boolean, accessFlags := 2, slot := 3, constantValue := 0 }, { name := "serialVersionUID", type := .long, accessFlags := 26, slot := 0, constantValue := 0 }, { name := "COMPACT_STRINGS", type := .boolean, accessFlags := 24, slot := 1, constantValue := 0 }, { name := "serialPersistentFields", type := (.array (.object "java/io/ObjectStreamField")), accessFlags := 26, slot := 2, constantValue := 0 }, { name := "REPL", type := .char, accessFlags := 26, slot := 3, constantValue := 0 }, { name := "CASE_INSENSITIVE_ORDER", type := (.object "java/util/Comparator"), accessFlags := 25, slot := 4, constantValue := 0 }, { name := "LATIN1", type := .byte, accessFlags := 24, slot := 5, constantValue := 0 }, { name := "UTF16", type := .byte, accessFlags := 24, slot := 6, constantValue := 0 }]
  methods := #[k8m0]
  instanceTypes := #[(.array .byte), .byte, .int, .boolean]
  staticTypes := #[.long, .boolean, (.array (.object "java/io/ObjectStreamField")), .char, (.object "java/util/Comparator"), .byte, .byte]
  resolved := Array.replicate 1451 none
  statics := none }

def pool9 : Array CpInfo := pool [(1, u "java/lang/Cloneable"), (0, .class_ 1), (0, u "java/lang/Object"), (0, .class_ 3)] 3

/-- java/lang/Cloneable -/
def k9 : Class := { plain "java/lang/Cloneable" (some 0) with
  accessFlags := 1537
  interfaces := #[]
  cf := some (fileOf pool9 2 #[] #[] 1537 4 #[] #[])
  fields := #[]
  methods := #[]
  instanceTypes := #[]
  staticTypes := #[]
  resolved := Array.replicate 8 none
  statics := none }

/-- the primitive byte -/
def k10 : Class := { plain "byte" none with kind := .primitive 'B', accessFlags := 0x411 }
/-- [B -/
def k11 : Class := { plain "[B" (some 0) with kind := .array 10 .byte, interfaces := #[9, 3], accessFlags := 1041 }

/-- the primitive int -/
def k12 : Class := { plain "int" none with kind := .primitive 'I', accessFlags := 0x411 }
/-- [I -/
def k13 : Class := { plain "[I" (some 0) with kind := .array 12 .int, interfaces := #[9, 3], accessFlags := 1041 }

def heap : Heap := #[]
def classes : Array Class := #[k0, k1, k2, k3, k4, k5, k6, k7, k8, k9, k10, k11, k12, k13]
def interned : List (Array UInt16 × Addr) := []
def slotsUsed : Nat := 0
def theMethod : MethodId := ⟨1, 1⟩
def args0 : Array Value := #[.int 5, .int 6, .int 7, .int 8]
def aboutOver (below : List Frame) : State where
  vm := { classes := classes, interned := interned.toArray }
  heap := heap
  slotsUsed := slotsUsed
  threads := #[{ frames := .invoking theMethod args0 :: below }]
def below0 : List Frame := [.native { method := ⟨0, 0⟩, args := #[] }]
def about1 : State := aboutOver below0
def p0 : Program := .bare "" "" ""
def e0 : Env := launch0.env 0 0 0
theorem w_frames : about1.frames = Frame.invoking theMethod args0 :: below0 := rfl
set_option maxRecDepth 65536 in
theorem w_args : argsFit about1.vm theMethod args0 = true := by decide +kernel
set_option maxRecDepth 65536 in
theorem w_heap : heapFits about1 = true := by decide +kernel
set_option maxRecDepth 65536 in
theorem w_runnable : about1.curStatus? = some .runnable := by decide +kernel
set_option maxRecDepth 65536 in
theorem w_alone : about1.alone = true := by decide +kernel
set_option maxRecDepth 65536 in
theorem w_named : about1.methodNamed? x = some theMethod := by decide +kernel
set_option maxRecDepth 65536 in
theorem w_hears : about1.hears theMethod below0 = true := by decide +kernel
set_option maxRecDepth 65536 in
theorem w_ripe : about1.ripe theMethod args0 below0 = true := by decide +kernel
theorem w_running : about1.status = .running := rfl
set_option maxRecDepth 65536 in
theorem w_room : about1.hasRoom e0.platform room_1 = true :=
  launch0.hasRoom_least _ room_1 (by decide +kernel) (by decide +kernel) (by decide +kernel) (by decide +kernel) (by decide +kernel) (by decide +kernel)
theorem allAtoms_all (ts : List Jvm.Cond) (a : Array Jvm.Value) (st : Jvm.State) : (allAtoms ts).before a st = ts.all (fun c => c.before a st) := by
  induction ts with
  | nil => rfl
  | cons c t ih =>
    show (Jvm.Cond.and c (allAtoms t)).before a st = _
    rw [Jvm.Cond.before_and, ih, List.all_cons]
def words1 : List Jvm.Cond := Jvm.Cond.code x code maxLocals ret :: tables_1
/-- a 'code' word, met by the world's own term for the bytes: nothing is compared byte by byte -/
theorem code_word {y : MethodName} {bytes : ByteArray} {mx : Nat} {rt : Option FieldType} {a : Array Value} {s : State} {m : MethodId} {meth : Method} {c : Code} (h1 : s.methodNamed? y = some m) (h2 : s.vm.method? m = some meth) (h3 : meth.code = some c) (h4 : c.code = bytes)
    (h5 : (c.maxLocals == mx && c.exceptionTable.isEmpty && decide (c.maxStack ≤ mostOperands) && decide (meth.sig.returnType = rt) && !meth.locks && decide (parseMethodDescriptor y.desc = some meth.sig)) = true) : (Jvm.Cond.code y bytes mx rt).before a s = true := by
  simp only [Bool.and_eq_true, beq_iff_eq, Bool.not_eq_true', decide_eq_true_eq] at h5
  obtain ⟨⟨⟨⟨⟨g1, g2⟩, g3⟩, g4⟩, g5⟩, g6⟩ := h5
  simp [Cond.before, Cond.holds, Cond.value, h1, h2, h3, h4, g1, g2, g3, g4, g5, g6]
def isCode : Jvm.Cond → Bool
  | .code _ _ _ _ => true
  | _ => false
theorem all_split {L : List Jvm.Cond} {P : Jvm.Cond → Bool} (h1 : L.all (fun c => isCode c || P c) = true) (h2 : ∀ c ∈ L.filter isCode, P c = true) : L.all P = true := by
  refine List.all_eq_true.mpr fun c hc => ?_
  have h := List.all_eq_true.mp h1 c hc
  rcases Bool.eq_false_or_eq_true (isCode c) with hi | hi
  · exact h2 c (List.mem_filter.mpr ⟨hc, hi⟩)
  · simpa [hi] using h
set_option maxRecDepth 65536 in
theorem w_c0 : (Jvm.Cond.code x code maxLocals ret).before args0 about1 = true := code_word (m := ⟨1, 1⟩) (meth := k1m1) (c := k1c1) (by decide +kernel) rfl rfl rfl (by decide +kernel)
set_option maxRecDepth 65536 in
theorem w_c1 : (Jvm.Cond.code ({ cls := "com/example/failfirst/failfirst/InstanceSize", name := "<init>", desc := "()V" } : Jvm.MethodName) prog_23_method_1_code (1 : Nat) (Option.none : Option Jvm.ClassFile.FieldType)).before args0 about1 = true := code_word (m := ⟨2, 0⟩) (meth := k2m0) (c := k2c0) (by decide +kernel) rfl rfl rfl (by decide +kernel)
set_option maxRecDepth 65536 in
theorem w_c2 : (Jvm.Cond.code ({ cls := "java/lang/Object", name := "<init>", desc := "()V" } : Jvm.MethodName) object_method_1_code (1 : Nat) (Option.none : Option Jvm.ClassFile.FieldType)).before args0 about1 = true := code_word (m := ⟨0, 0⟩) (meth := k0m0) (c := k0c0) (by decide +kernel) rfl rfl rfl (by decide +kernel)
set_option maxRecDepth 65536 in
theorem w_c3 : (Jvm.Cond.code ({ cls := "com/example/failfirst/failfirst/InstanceSize", name := "addVariables", desc := "(IILjava/lang/String;)V" } : Jvm.MethodName) prog_23_method_2_code (8 : Nat) (Option.none : Option Jvm.ClassFile.FieldType)).before args0 about1 = true := code_word (m := ⟨2, 1⟩) (meth := k2m1) (c := k2c1) (by decide +kernel) rfl rfl rfl (by decide +kernel)
def codes1 : List Jvm.Cond := [Jvm.Cond.code x code maxLocals ret, Jvm.Cond.code ({ cls := "com/example/failfirst/failfirst/InstanceSize", name := "<init>", desc := "()V" } : Jvm.MethodName) prog_23_method_1_code (1 : Nat) (Option.none : Option Jvm.ClassFile.FieldType), Jvm.Cond.code ({ cls := "java/lang/Object", name := "<init>", desc := "()V" } : Jvm.MethodName) object_method_1_code (1 : Nat) (Option.none : Option Jvm.ClassFile.FieldType), Jvm.Cond.code ({ cls := "com/example/failfirst/failfirst/InstanceSize", name := "addVariables", desc := "(IILjava/lang/String;)V" } : Jvm.MethodName) prog_23_method_2_code (8 : Nat) (Option.none : Option Jvm.ClassFile.FieldType)]
set_option maxRecDepth 65536 in
theorem codes_eq : words1.filter isCode = codes1 := rfl
theorem w_codes : ∀ c ∈ words1.filter isCode, c.before args0 about1 = true := by
  rw [codes_eq]
  intro c hc
  simp only [codes1, List.mem_cons, List.not_mem_nil, or_false] at hc
  rcases hc with rfl | rfl | rfl | rfl
  · exact w_c0
  · exact w_c1
  · exact w_c2
  · exact w_c3
set_option maxRecDepth 65536 in
theorem w_t1 : (words1.take 24).all (fun c => isCode c || c.before args0 about1) = true := by decide +kernel
set_option maxRecDepth 65536 in
theorem w_t2 : (words1.drop 24).all (fun c => isCode c || c.before args0 about1) = true := by decide +kernel
theorem w_tables : (allAtoms (Jvm.Cond.code x code maxLocals ret :: tables_1)).before args0 about1 = true := by
  rw [allAtoms_all]
  show words1.all (fun c => c.before args0 about1) = true
  refine all_split ?_ w_codes
  rw [← List.take_append_drop 24 words1, List.all_append, w_t1, w_t2]
  rfl
set_option maxRecDepth 65536 in
theorem w_case : (Jvm.Cond.and given_1 narrow_1).before args0 about1 = true := by decide +kernel
theorem w_applies : (headSpec (Jvm.Cond.code x code maxLocals ret :: tables_1) room_1).applies x e0.platform about1 = true :=
  (Spec.applies_iff w_frames).mpr ⟨w_running, w_runnable, w_alone, w_named, w_hears, w_ripe, w_room, w_tables⟩
theorem atStart : AtStart classFile x code maxLocals ret World_1 tables_1 room_1 Calls_1 rest_1 Pre_1 launch0 p0 e0 about1 theMethod args0 below0 :=
  ⟨lists_1, trivial, launch0.admits_env _ _ _, launch0.least_env, fairChoices_fair.cas, fairChoices_fair.clock, w_frames, w_args, w_heap, w_applies, trivial, trivial, w_case⟩
end start1
theorem witness_1 : WitnessClaimed_1 := ⟨start1.p0, start1.e0, start1.about1, start1.theMethod, start1.args0, start1.below0, start1.atStart⟩
end Jvm.Pilot.@@N@@
