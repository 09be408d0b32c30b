import JvmDerived
import JvmDerived.Pilot.@@N@@Statement
import JvmDerived.Pilot.@@N@@Code
set_option linter.unusedVariables false
set_option linter.unusedSimpArgs false
namespace Jvm.RoadKit
open Sem ClassFile Op Lib Jvm.Stand Jvm.Free Jvm.LawKit
section New
variable {p : Program} {l : Launch} {e : Env} {R : Room} {s : State} {m : MethodId} {args : Array Value} {below : List Frame} {meth : Method} {c : Code} {T : State} {locs : List Loc} {cells slots : Nat}
theorem retI (X : Stand p l e R s m args below meth c T locs cells slots) (hx : p.tables.exec = Jvm.exec) {pc : Nat} {Ls : Array Slot} {z : Int32} {rest : List Value} (hret : meth.sig.returnType = some .int) (hd : decode c.code pc = .ok (.ireturn, 1)) {fs : List Frame}
    (hl : ∀ (f : JFrame) (acts : List Action), f.method = m → f.locked = none → f.entered = [] → (doReturn e (T.setTop f) acts (some (.int z))).1 = T.setFrames fs) : Steps p.tables e below (T.setTop (mkF m pc Ls (.int z :: rest))) (T.setFrames fs) := by
  have hm' : T.vm.method? m = some meth := X.method'
  have hn : narrow .int (.int z) = .int z := rfl
  show Steps p.tables e below (T.setTop { method := m, pc := pc, locals := Ls, stack := _ :: rest, locked := none }) _
  jvm_step X.here [X.here.top, hx, hd, hm', hret, hn]
  first | (intro acts; rw [hl _ acts rfl rfl rfl]) | rw [hl _ _ rfl rfl rfl]
  exact Steps.refl _
end New
end Jvm.RoadKit
namespace Jvm.Pilot.@@N@@
open Jvm Jvm.ClassFile Sem Op Lib Jvm.Free Jvm.Stand Jvm.LawKit Jvm.RoadKit Bundle Jvm.Pilot.@@N@@.Jvm.D
theorem d1_0 : decode prog_28_method_5_code 0 = .ok (.aload_n 0, 1) := by decide +kernel
theorem d1_1 : decode prog_28_method_5_code 1 = .ok (.getstatic 7, 3) := by decide +kernel
theorem d1_4 : decode prog_28_method_5_code 4 = .ok (.if_acmp .ne 83, 3) := by decide +kernel
theorem d1_7 : decode prog_28_method_5_code 7 = .ok (.iload_n 1, 1) := by decide +kernel
theorem d1_8 : decode prog_28_method_5_code 8 = .ok (.iconst 1, 1) := by decide +kernel
theorem d1_9 : decode prog_28_method_5_code 9 = .ok (.if_icmp .lt 9, 3) := by decide +kernel
theorem d1_12 : decode prog_28_method_5_code 12 = .ok (.iload_n 1, 1) := by decide +kernel
theorem d1_13 : decode prog_28_method_5_code 13 = .ok (.bipush 8, 2) := by decide +kernel
theorem d1_15 : decode prog_28_method_5_code 15 = .ok (.if_icmp .le 68, 3) := by decide +kernel
theorem d1_18 : decode prog_28_method_5_code 18 = .ok (.iload_n 1, 1) := by decide +kernel
theorem d1_19 : decode prog_28_method_5_code 19 = .ok (.bipush 11, 2) := by decide +kernel
theorem d1_21 : decode prog_28_method_5_code 21 = .ok (.if_icmp .eq 62, 3) := by decide +kernel
theorem d1_24 : decode prog_28_method_5_code 24 = .ok (.iload_n 1, 1) := by decide +kernel
theorem d1_25 : decode prog_28_method_5_code 25 = .ok (.bipush 12, 2) := by decide +kernel
theorem d1_27 : decode prog_28_method_5_code 27 = .ok (.if_icmp .eq 56, 3) := by decide +kernel
theorem d1_30 : decode prog_28_method_5_code 30 = .ok (.iload_n 1, 1) := by decide +kernel
theorem d1_31 : decode prog_28_method_5_code 31 = .ok (.bipush 14, 2) := by decide +kernel
theorem d1_33 : decode prog_28_method_5_code 33 = .ok (.if_icmp .lt 9, 3) := by decide +kernel
theorem d1_36 : decode prog_28_method_5_code 36 = .ok (.iload_n 1, 1) := by decide +kernel
theorem d1_37 : decode prog_28_method_5_code 37 = .ok (.bipush 31, 2) := by decide +kernel
theorem d1_39 : decode prog_28_method_5_code 39 = .ok (.if_icmp .le 44, 3) := by decide +kernel
theorem d1_42 : decode prog_28_method_5_code 42 = .ok (.iload_n 1, 1) := by decide +kernel
theorem d1_43 : decode prog_28_method_5_code 43 = .ok (.bipush 127, 2) := by decide +kernel
theorem d1_45 : decode prog_28_method_5_code 45 = .ok (.if_icmp .lt 10, 3) := by decide +kernel
theorem d1_48 : decode prog_28_method_5_code 48 = .ok (.iload_n 1, 1) := by decide +kernel
theorem d1_49 : decode prog_28_method_5_code 49 = .ok (.sipush 132, 3) := by decide +kernel
theorem d1_52 : decode prog_28_method_5_code 52 = .ok (.if_icmp .le 31, 3) := by decide +kernel
theorem d1_55 : decode prog_28_method_5_code 55 = .ok (.iload_n 1, 1) := by decide +kernel
theorem d1_56 : decode prog_28_method_5_code 56 = .ok (.sipush 133, 3) := by decide +kernel
theorem d1_59 : decode prog_28_method_5_code 59 = .ok (.if_icmp .eq 24, 3) := by decide +kernel
theorem d1_62 : decode prog_28_method_5_code 62 = .ok (.iload_n 1, 1) := by decide +kernel
theorem d1_63 : decode prog_28_method_5_code 63 = .ok (.sipush 134, 3) := by decide +kernel
theorem d1_66 : decode prog_28_method_5_code 66 = .ok (.if_icmp .lt 10, 3) := by decide +kernel
theorem d1_69 : decode prog_28_method_5_code 69 = .ok (.iload_n 1, 1) := by decide +kernel
theorem d1_70 : decode prog_28_method_5_code 70 = .ok (.sipush 159, 3) := by decide +kernel
theorem d1_73 : decode prog_28_method_5_code 73 = .ok (.if_icmp .le 10, 3) := by decide +kernel
theorem d1_76 : decode prog_28_method_5_code 76 = .ok (.iload_n 1, 1) := by decide +kernel
theorem d1_77 : decode prog_28_method_5_code 77 = .ok (.sipush 8232, 3) := by decide +kernel
theorem d1_80 : decode prog_28_method_5_code 80 = .ok (.if_icmp .ne 7, 3) := by decide +kernel
theorem d1_83 : decode prog_28_method_5_code 83 = .ok (.iconst 1, 1) := by decide +kernel
theorem d1_84 : decode prog_28_method_5_code 84 = .ok (.goto 4, 3) := by decide +kernel
theorem d1_87 : decode prog_28_method_5_code 87 = .ok (.iconst 0, 1) := by decide +kernel
theorem d1_88 : decode prog_28_method_5_code 88 = .ok (.ireturn, 1) := by decide +kernel
theorem pn_1 : plainName "com/example/nestdb/nestdb/store/XmlVersion" = true := by first | (simp [plainName, overriddenIn]; done) | decide +kernel
theorem ef_1 (m : MethodId) (a1 : Addr) (p2 : Int32) : entryFrame m #[(.ref a1), (.int p2)] 2 = mkF m 0 #[.val (.ref a1), .val (.int p2)] [] := by first | (simp [entryFrame, mkF, argsToLocals, Value.category]; done) | rfl
def F1_87 (a1 : Addr) (p2 : Int32) (w_XML_1_1 : Addr) : Int32 := (0 : Int32)
def F1_83 (a1 : Addr) (p2 : Int32) (w_XML_1_1 : Addr) : Int32 := (1 : Int32)
def F1_76 (a1 : Addr) (p2 : Int32) (w_XML_1_1 : Addr) : Int32 := (if p2 = (8232 : Int32) then (F1_83 a1 p2 w_XML_1_1) else (F1_87 a1 p2 w_XML_1_1))
def F1_55 (a1 : Addr) (p2 : Int32) (w_XML_1_1 : Addr) : Int32 := (if p2 = (133 : Int32) then (F1_83 a1 p2 w_XML_1_1) else (if p2 < (134 : Int32) then (F1_76 a1 p2 w_XML_1_1) else (if (159 : Int32) < p2 then (F1_76 a1 p2 w_XML_1_1) else (F1_83 a1 p2 w_XML_1_1))))
def F1_42 (a1 : Addr) (p2 : Int32) (w_XML_1_1 : Addr) : Int32 := (if p2 < (127 : Int32) then (F1_55 a1 p2 w_XML_1_1) else (if (132 : Int32) < p2 then (F1_55 a1 p2 w_XML_1_1) else (F1_83 a1 p2 w_XML_1_1)))
def F1_18 (a1 : Addr) (p2 : Int32) (w_XML_1_1 : Addr) : Int32 := (if p2 = (11 : Int32) then (F1_83 a1 p2 w_XML_1_1) else (if p2 = (12 : Int32) then (F1_83 a1 p2 w_XML_1_1) else (if p2 < (14 : Int32) then (F1_42 a1 p2 w_XML_1_1) else (if (31 : Int32) < p2 then (F1_42 a1 p2 w_XML_1_1) else (F1_83 a1 p2 w_XML_1_1)))))
def F1_0 (a1 : Addr) (p2 : Int32) (w_XML_1_1 : Addr) : Int32 := (if a1 = w_XML_1_1 then (if p2 < (1 : Int32) then (F1_18 a1 p2 w_XML_1_1) else (if (8 : Int32) < p2 then (F1_18 a1 p2 w_XML_1_1) else (F1_83 a1 p2 w_XML_1_1))) else (F1_87 a1 p2 w_XML_1_1))
def Q1 (Z : State) (a1 : Addr) (p2 : Int32) (w_XML_1_1 : Addr) (h0 : Heap) (n0 : Nat) (v : Option Value) (h : Heap) (L : List Loc) : Prop := v = some (.int (F1_0 a1 p2 w_XML_1_1)) ∧ Fr n0 L ∧ h = h0
set_option maxRecDepth 65536 in
set_option maxHeartbeats 40000000 in
theorem rm1 (l : Launch) (Z : State) (a0 : Array Value) (hw : ∀ d ∈ tables_1, d.before a0 Z = true) (ws : List Jvm.Cond) (a1 : Addr) (p2 : Int32) (w_XML_1_1 : Addr) (h0 : Heap) (n0 : Nat) (Z0 : n0 ≤ h0.size) (S_XML_1_1 : Sta Z h0 "com/example/nestdb/nestdb/store/XmlVersion" "XML_1_1" "Lcom/example/nestdb/nestdb/store/XmlVersion;" (.ref w_XML_1_1)) :
    MetFree l (⟨"com/example/nestdb/nestdb/store/XmlVersion", "onlyAsReference", "(C)Z"⟩ : MethodName) (head1 (Jvm.Cond.code (⟨"com/example/nestdb/nestdb/store/XmlVersion", "onlyAsReference", "(C)Z"⟩ : MethodName) prog_28_method_5_code 2 (some .boolean) :: ws) ({ frames := 0, cells := 0, slots := 0, locals := 0 } : Room)) (fun a U => a = #[(.ref a1), (.int p2)] ∧ Z.Warmed39 U.vm ∧ U.heap = h0) (fun _ _ _ _ _ => True) (fun _ U o U' => ∃ v L, o = .returned v ∧ Q1 Z a1 p2 w_XML_1_1 h0 n0 v U'.heap L ∧ FrameEnd U o U' L ({ frames := 0, cells := 0, slots := 0, locals := 0 } : Room).cells ({ frames := 0, cells := 0, slots := 0, locals := 0 } : Room).slots) := by
  refine MetFree.of_bodySF (plainFor_of_name pn_1) hisR ?_
  intro p e s m args below meth c s₁ Bd hml0 hP hK
  obtain ⟨rfl, hZ, hh⟩ := hP
  have hx := Bd.exec
  have hby := Bd.bytes
  have hml : c.maxLocals = 2 := hml0
  have hown : s.vm.findClass "com/example/nestdb/nestdb/store/XmlVersion" = some m.cls := findClass_of_methodNamed Bd.named
  have hnm := (name_of_methodNamed Bd.named Bd.method).1
  have X0 : Stand p l e ({ frames := 0, cells := 0, slots := 0, locals := 0 } : Room) s m #[(.ref a1), (.int p2)] below meth c s₁ [] 0 0 := Stand.of_body Bd
  have e0 : s₁.heap = h0 := by rw [← hh, Bd.state]; rfl
  have N0 := Fr.nil n0
  have pre0 : ∀ t, Steps p.tables e below (s₁.setTop (mkF m 0 #[.val (.ref a1), .val (.int p2)] [])) t → Steps p.tables e below (s₁.setTop (entryFrame m #[(.ref a1), (.int p2)] 2)) t := fun t k => castTop (ef_1 m a1 p2) k
  obtain ⟨T1_1, X1_1, e1_1, st1_1⟩ := getS2 X0 hx hZ hown (host := "") (Or.inl (hw _ (List.mem_of_getElem? (i := 8) rfl))) Via.refl e0 S_XML_1_1 (g := (mkF m 1 #[.val (.ref a1), .val (.int p2)] [(.ref a1)])) rfl (hb hby d1_1)
  obtain ⟨fs, hr, hrun, hended, hW, hsame⟩ := X1_1.leave (v := some (.int (F1_0 a1 p2 w_XML_1_1))) (fun h => by rw [Bd.returns] at h; cases h) Bd.notSynchronized
  refine ⟨_, _, pre0 _ ?_, hrun, hended, _, _, rfl, ?_, ⟨_, rfl⟩, hW, hsame.mono (by decide) (by decide)⟩
  · have j87 : ∀ (hF : F1_0 a1 p2 w_XML_1_1 = F1_87 a1 p2 w_XML_1_1), Steps p.tables e below (T1_1.setTop (mkF m 87 #[.val (.ref a1), .val (.int p2)] [])) (T1_1.setFrames fs) := by
      intro hF
      show Steps p.tables e below (T1_1.setTop (mkF m 87 #[.val (.ref a1), .val (.int p2)] [])) _
      refine XS.iconst X1_1.here hx rfl (hb hby d1_87) ?_
      show Steps p.tables e below (T1_1.setTop (mkF m 88 #[.val (.ref a1), .val (.int p2)] [(.int (0 : Int32))])) _
      have hv := (hF.trans (by rw [F1_87] : _ = (0 : Int32)))
      rw [hv] at hr
      exact retN X1_1 hx (t := .boolean) Bd.returns (by simp) (hb hby d1_88) hr
    have j83 : ∀ (hF : F1_0 a1 p2 w_XML_1_1 = F1_83 a1 p2 w_XML_1_1), Steps p.tables e below (T1_1.setTop (mkF m 83 #[.val (.ref a1), .val (.int p2)] [])) (T1_1.setFrames fs) := by
      intro hF
      show Steps p.tables e below (T1_1.setTop (mkF m 83 #[.val (.ref a1), .val (.int p2)] [])) _
      refine XS.iconst X1_1.here hx rfl (hb hby d1_83) ?_
      show Steps p.tables e below (T1_1.setTop (mkF m 84 #[.val (.ref a1), .val (.int p2)] [(.int (1 : Int32))])) _
      refine XS.goto X1_1.here hx rfl (pc0 := 84) (pc' := 88) rfl (hb hby d1_84) (by decide) (by decide) ?_
      show Steps p.tables e below (T1_1.setTop (mkF m 88 #[.val (.ref a1), .val (.int p2)] [(.int (1 : Int32))])) _
      have hv := (hF.trans (by rw [F1_83] : _ = (1 : Int32)))
      rw [hv] at hr
      exact retN X1_1 hx (t := .boolean) Bd.returns (by simp) (hb hby d1_88) hr
    have j76 : ∀ (hF : F1_0 a1 p2 w_XML_1_1 = F1_76 a1 p2 w_XML_1_1), Steps p.tables e below (T1_1.setTop (mkF m 76 #[.val (.ref a1), .val (.int p2)] [])) (T1_1.setFrames fs) := by
      intro hF
      show Steps p.tables e below (T1_1.setTop (mkF m 76 #[.val (.ref a1), .val (.int p2)] [])) _
      refine XS.iloadN X1_1.here hx rfl (hb hby d1_76) rfl ?_
      show Steps p.tables e below (T1_1.setTop (mkF m 77 #[.val (.ref a1), .val (.int p2)] [(.int p2)])) _
      refine XS.sipush X1_1.here hx rfl (hb hby d1_77) ?_
      show Steps p.tables e below (T1_1.setTop (mkF m 80 #[.val (.ref a1), .val (.int p2)] [(.int (8232 : Int32)), (.int p2)])) _
      by_cases hc80 : p2 = (8232 : Int32)
      · refine XS.icmpNo X1_1.here hx rfl (hb hby d1_80) rfl (teq hc80).2 ?_
        exact j83 (hF.trans (by rw [F1_76, if_pos hc80]))
      · refine XS.icmpYes X1_1.here hx rfl (pc0 := 80) (pc' := 87) rfl (hb hby d1_80) rfl (feq hc80).2 (by decide) (by decide) ?_
        exact j87 (hF.trans (by rw [F1_76, if_neg hc80]))
    have j55 : ∀ (hF : F1_0 a1 p2 w_XML_1_1 = F1_55 a1 p2 w_XML_1_1), Steps p.tables e below (T1_1.setTop (mkF m 55 #[.val (.ref a1), .val (.int p2)] [])) (T1_1.setFrames fs) := by
      intro hF
      show Steps p.tables e below (T1_1.setTop (mkF m 55 #[.val (.ref a1), .val (.int p2)] [])) _
      refine XS.iloadN X1_1.here hx rfl (hb hby d1_55) rfl ?_
      show Steps p.tables e below (T1_1.setTop (mkF m 56 #[.val (.ref a1), .val (.int p2)] [(.int p2)])) _
      refine XS.sipush X1_1.here hx rfl (hb hby d1_56) ?_
      show Steps p.tables e below (T1_1.setTop (mkF m 59 #[.val (.ref a1), .val (.int p2)] [(.int (133 : Int32)), (.int p2)])) _
      by_cases hc59 : p2 = (133 : Int32)
      · refine XS.icmpYes X1_1.here hx rfl (pc0 := 59) (pc' := 83) rfl (hb hby d1_59) rfl (teq hc59).1 (by decide) (by decide) ?_
        exact j83 (hF.trans (by rw [F1_55, if_pos hc59]))
      · refine XS.icmpNo X1_1.here hx rfl (hb hby d1_59) rfl (feq hc59).1 ?_
        show Steps p.tables e below (T1_1.setTop (mkF m 62 #[.val (.ref a1), .val (.int p2)] [])) _
        refine XS.iloadN X1_1.here hx rfl (hb hby d1_62) rfl ?_
        show Steps p.tables e below (T1_1.setTop (mkF m 63 #[.val (.ref a1), .val (.int p2)] [(.int p2)])) _
        refine XS.sipush X1_1.here hx rfl (hb hby d1_63) ?_
        show Steps p.tables e below (T1_1.setTop (mkF m 66 #[.val (.ref a1), .val (.int p2)] [(.int (134 : Int32)), (.int p2)])) _
        by_cases hc66 : p2 < (134 : Int32)
        · refine XS.icmpYes X1_1.here hx rfl (pc0 := 66) (pc' := 76) rfl (hb hby d1_66) rfl (tlt hc66).1 (by decide) (by decide) ?_
          exact j76 (hF.trans (by rw [F1_55, if_neg hc59, if_pos hc66]))
        · refine XS.icmpNo X1_1.here hx rfl (hb hby d1_66) rfl (flt hc66).1 ?_
          show Steps p.tables e below (T1_1.setTop (mkF m 69 #[.val (.ref a1), .val (.int p2)] [])) _
          refine XS.iloadN X1_1.here hx rfl (hb hby d1_69) rfl ?_
          show Steps p.tables e below (T1_1.setTop (mkF m 70 #[.val (.ref a1), .val (.int p2)] [(.int p2)])) _
          refine XS.sipush X1_1.here hx rfl (hb hby d1_70) ?_
          show Steps p.tables e below (T1_1.setTop (mkF m 73 #[.val (.ref a1), .val (.int p2)] [(.int (159 : Int32)), (.int p2)])) _
          by_cases hc73 : (159 : Int32) < p2
          · refine XS.icmpNo X1_1.here hx rfl (hb hby d1_73) rfl (tlt hc73).2.2.2 ?_
            exact j76 (hF.trans (by rw [F1_55, if_neg hc59, if_neg hc66, if_pos hc73]))
          · refine XS.icmpYes X1_1.here hx rfl (pc0 := 73) (pc' := 83) rfl (hb hby d1_73) rfl (flt hc73).2.2.2 (by decide) (by decide) ?_
            exact j83 (hF.trans (by rw [F1_55, if_neg hc59, if_neg hc66, if_neg hc73]))
    have j42 : ∀ (hF : F1_0 a1 p2 w_XML_1_1 = F1_42 a1 p2 w_XML_1_1), Steps p.tables e below (T1_1.setTop (mkF m 42 #[.val (.ref a1), .val (.int p2)] [])) (T1_1.setFrames fs) := by
      intro hF
      show Steps p.tables e below (T1_1.setTop (mkF m 42 #[.val (.ref a1), .val (.int p2)] [])) _
      refine XS.iloadN X1_1.here hx rfl (hb hby d1_42) rfl ?_
      show Steps p.tables e below (T1_1.setTop (mkF m 43 #[.val (.ref a1), .val (.int p2)] [(.int p2)])) _
      refine XS.bipush X1_1.here hx rfl (hb hby d1_43) ?_
      show Steps p.tables e below (T1_1.setTop (mkF m 45 #[.val (.ref a1), .val (.int p2)] [(.int (127 : Int32)), (.int p2)])) _
      by_cases hc45 : p2 < (127 : Int32)
      · refine XS.icmpYes X1_1.here hx rfl (pc0 := 45) (pc' := 55) rfl (hb hby d1_45) rfl (tlt hc45).1 (by decide) (by decide) ?_
        exact j55 (hF.trans (by rw [F1_42, if_pos hc45]))
      · refine XS.icmpNo X1_1.here hx rfl (hb hby d1_45) rfl (flt hc45).1 ?_
        show Steps p.tables e below (T1_1.setTop (mkF m 48 #[.val (.ref a1), .val (.int p2)] [])) _
        refine XS.iloadN X1_1.here hx rfl (hb hby d1_48) rfl ?_
        show Steps p.tables e below (T1_1.setTop (mkF m 49 #[.val (.ref a1), .val (.int p2)] [(.int p2)])) _
        refine XS.sipush X1_1.here hx rfl (hb hby d1_49) ?_
        show Steps p.tables e below (T1_1.setTop (mkF m 52 #[.val (.ref a1), .val (.int p2)] [(.int (132 : Int32)), (.int p2)])) _
        by_cases hc52 : (132 : Int32) < p2
        · refine XS.icmpNo X1_1.here hx rfl (hb hby d1_52) rfl (tlt hc52).2.2.2 ?_
          exact j55 (hF.trans (by rw [F1_42, if_neg hc45, if_pos hc52]))
        · refine XS.icmpYes X1_1.here hx rfl (pc0 := 52) (pc' := 83) rfl (hb hby d1_52) rfl (flt hc52).2.2.2 (by decide) (by decide) ?_
          exact j83 (hF.trans (by rw [F1_42, if_neg hc45, if_neg hc52]))
    have j18 : ∀ (hF : F1_0 a1 p2 w_XML_1_1 = F1_18 a1 p2 w_XML_1_1), Steps p.tables e below (T1_1.setTop (mkF m 18 #[.val (.ref a1), .val (.int p2)] [])) (T1_1.setFrames fs) := by
      intro hF
      show Steps p.tables e below (T1_1.setTop (mkF m 18 #[.val (.ref a1), .val (.int p2)] [])) _
      refine XS.iloadN X1_1.here hx rfl (hb hby d1_18) rfl ?_
      show Steps p.tables e below (T1_1.setTop (mkF m 19 #[.val (.ref a1), .val (.int p2)] [(.int p2)])) _
      refine XS.bipush X1_1.here hx rfl (hb hby d1_19) ?_
      show Steps p.tables e below (T1_1.setTop (mkF m 21 #[.val (.ref a1), .val (.int p2)] [(.int (11 : Int32)), (.int p2)])) _
      by_cases hc21 : p2 = (11 : Int32)
      · refine XS.icmpYes X1_1.here hx rfl (pc0 := 21) (pc' := 83) rfl (hb hby d1_21) rfl (teq hc21).1 (by decide) (by decide) ?_
        exact j83 (hF.trans (by rw [F1_18, if_pos hc21]))
      · refine XS.icmpNo X1_1.here hx rfl (hb hby d1_21) rfl (feq hc21).1 ?_
        show Steps p.tables e below (T1_1.setTop (mkF m 24 #[.val (.ref a1), .val (.int p2)] [])) _
        refine XS.iloadN X1_1.here hx rfl (hb hby d1_24) rfl ?_
        show Steps p.tables e below (T1_1.setTop (mkF m 25 #[.val (.ref a1), .val (.int p2)] [(.int p2)])) _
        refine XS.bipush X1_1.here hx rfl (hb hby d1_25) ?_
        show Steps p.tables e below (T1_1.setTop (mkF m 27 #[.val (.ref a1), .val (.int p2)] [(.int (12 : Int32)), (.int p2)])) _
        by_cases hc27 : p2 = (12 : Int32)
        · refine XS.icmpYes X1_1.here hx rfl (pc0 := 27) (pc' := 83) rfl (hb hby d1_27) rfl (teq hc27).1 (by decide) (by decide) ?_
          exact j83 (hF.trans (by rw [F1_18, if_neg hc21, if_pos hc27]))
        · refine XS.icmpNo X1_1.here hx rfl (hb hby d1_27) rfl (feq hc27).1 ?_
          show Steps p.tables e below (T1_1.setTop (mkF m 30 #[.val (.ref a1), .val (.int p2)] [])) _
          refine XS.iloadN X1_1.here hx rfl (hb hby d1_30) rfl ?_
          show Steps p.tables e below (T1_1.setTop (mkF m 31 #[.val (.ref a1), .val (.int p2)] [(.int p2)])) _
          refine XS.bipush X1_1.here hx rfl (hb hby d1_31) ?_
          show Steps p.tables e below (T1_1.setTop (mkF m 33 #[.val (.ref a1), .val (.int p2)] [(.int (14 : Int32)), (.int p2)])) _
          by_cases hc33 : p2 < (14 : Int32)
          · refine XS.icmpYes X1_1.here hx rfl (pc0 := 33) (pc' := 42) rfl (hb hby d1_33) rfl (tlt hc33).1 (by decide) (by decide) ?_
            exact j42 (hF.trans (by rw [F1_18, if_neg hc21, if_neg hc27, if_pos hc33]))
          · refine XS.icmpNo X1_1.here hx rfl (hb hby d1_33) rfl (flt hc33).1 ?_
            show Steps p.tables e below (T1_1.setTop (mkF m 36 #[.val (.ref a1), .val (.int p2)] [])) _
            refine XS.iloadN X1_1.here hx rfl (hb hby d1_36) rfl ?_
            show Steps p.tables e below (T1_1.setTop (mkF m 37 #[.val (.ref a1), .val (.int p2)] [(.int p2)])) _
            refine XS.bipush X1_1.here hx rfl (hb hby d1_37) ?_
            show Steps p.tables e below (T1_1.setTop (mkF m 39 #[.val (.ref a1), .val (.int p2)] [(.int (31 : Int32)), (.int p2)])) _
            by_cases hc39 : (31 : Int32) < p2
            · refine XS.icmpNo X1_1.here hx rfl (hb hby d1_39) rfl (tlt hc39).2.2.2 ?_
              exact j42 (hF.trans (by rw [F1_18, if_neg hc21, if_neg hc27, if_neg hc33, if_pos hc39]))
            · refine XS.icmpYes X1_1.here hx rfl (pc0 := 39) (pc' := 83) rfl (hb hby d1_39) rfl (flt hc39).2.2.2 (by decide) (by decide) ?_
              exact j83 (hF.trans (by rw [F1_18, if_neg hc21, if_neg hc27, if_neg hc33, if_neg hc39]))
    have j0 : ∀ (hF : F1_0 a1 p2 w_XML_1_1 = F1_0 a1 p2 w_XML_1_1), Steps p.tables e below (s₁.setTop (mkF m 0 #[.val (.ref a1), .val (.int p2)] [])) (T1_1.setFrames fs) := by
      intro hF
      show Steps p.tables e below (s₁.setTop (mkF m 0 #[.val (.ref a1), .val (.int p2)] [])) _
      refine XS.aloadN X0.here hx rfl (hb hby d1_0) rfl rfl ?_
      show Steps p.tables e below (s₁.setTop (mkF m 1 #[.val (.ref a1), .val (.int p2)] [(.ref a1)])) _
      refine st1_1 _ ?_
      show Steps p.tables e below (T1_1.setTop (mkF m 4 #[.val (.ref a1), .val (.int p2)] [(.ref w_XML_1_1), (.ref a1)])) _
      by_cases hc4 : a1 = w_XML_1_1
      · refine Jvm.RoadKit.acmp (g := (mkF m 4 #[.val (.ref a1), .val (.int p2)] [(.ref w_XML_1_1), (.ref a1)])) X1_1 hx rfl rfl rfl (pc0 := 4) (pc' := 7) (same := true) rfl (hb hby d1_4) rfl (decide_eq_true (congrArg Value.ref hc4)) (by decide) (by decide) ?_
        show Steps p.tables e below (T1_1.setTop (mkF m 7 #[.val (.ref a1), .val (.int p2)] [])) _
        refine XS.iloadN X1_1.here hx rfl (hb hby d1_7) rfl ?_
        show Steps p.tables e below (T1_1.setTop (mkF m 8 #[.val (.ref a1), .val (.int p2)] [(.int p2)])) _
        refine XS.iconst X1_1.here hx rfl (hb hby d1_8) ?_
        show Steps p.tables e below (T1_1.setTop (mkF m 9 #[.val (.ref a1), .val (.int p2)] [(.int (1 : Int32)), (.int p2)])) _
        by_cases hc9 : p2 < (1 : Int32)
        · refine XS.icmpYes X1_1.here hx rfl (pc0 := 9) (pc' := 18) rfl (hb hby d1_9) rfl (tlt hc9).1 (by decide) (by decide) ?_
          exact j18 (hF.trans (by rw [F1_0, if_pos hc4, if_pos hc9]))
        · refine XS.icmpNo X1_1.here hx rfl (hb hby d1_9) rfl (flt hc9).1 ?_
          show Steps p.tables e below (T1_1.setTop (mkF m 12 #[.val (.ref a1), .val (.int p2)] [])) _
          refine XS.iloadN X1_1.here hx rfl (hb hby d1_12) rfl ?_
          show Steps p.tables e below (T1_1.setTop (mkF m 13 #[.val (.ref a1), .val (.int p2)] [(.int p2)])) _
          refine XS.bipush X1_1.here hx rfl (hb hby d1_13) ?_
          show Steps p.tables e below (T1_1.setTop (mkF m 15 #[.val (.ref a1), .val (.int p2)] [(.int (8 : Int32)), (.int p2)])) _
          by_cases hc15 : (8 : Int32) < p2
          · refine XS.icmpNo X1_1.here hx rfl (hb hby d1_15) rfl (tlt hc15).2.2.2 ?_
            exact j18 (hF.trans (by rw [F1_0, if_pos hc4, if_neg hc9, if_pos hc15]))
          · refine XS.icmpYes X1_1.here hx rfl (pc0 := 15) (pc' := 83) rfl (hb hby d1_15) rfl (flt hc15).2.2.2 (by decide) (by decide) ?_
            exact j83 (hF.trans (by rw [F1_0, if_pos hc4, if_neg hc9, if_neg hc15]))
      · refine Jvm.RoadKit.acmp (g := (mkF m 4 #[.val (.ref a1), .val (.int p2)] [(.ref w_XML_1_1), (.ref a1)])) X1_1 hx rfl rfl rfl (pc0 := 4) (pc' := 87) (same := false) rfl (hb hby d1_4) rfl (decide_eq_false fun q => hc4 (Value.ref.inj q)) (by decide) (by decide) ?_
        exact j87 (hF.trans (by rw [F1_0, if_neg hc4]))
    exact j0 rfl
  · show Q1 Z a1 p2 w_XML_1_1 h0 n0 _ T1_1.heap _
    rw [e1_1]
    exact ⟨rfl, N0, rfl⟩
theorem d2_0 : decode method_2_code 0 = .ok (.iload_n 0, 1) := by decide +kernel
theorem d2_1 : decode method_2_code 1 = .ok (.ifCond .ne 5, 3) := by decide +kernel
theorem d2_4 : decode method_2_code 4 = .ok (.iconst 0, 1) := by decide +kernel
theorem d2_5 : decode method_2_code 5 = .ok (.ireturn, 1) := by decide +kernel
theorem d2_6 : decode method_2_code 6 = .ok (.iload_n 1, 1) := by decide +kernel
theorem d2_7 : decode method_2_code 7 = .ok (.iconst 1, 1) := by decide +kernel
theorem d2_8 : decode method_2_code 8 = .ok (.if_icmp .lt 31, 3) := by decide +kernel
theorem d2_11 : decode method_2_code 11 = .ok (.iload_n 1, 1) := by decide +kernel
theorem d2_12 : decode method_2_code 12 = .ok (.bipush 31, 2) := by decide +kernel
theorem d2_14 : decode method_2_code 14 = .ok (.if_icmp .gt 25, 3) := by decide +kernel
theorem d2_17 : decode method_2_code 17 = .ok (.iload_n 1, 1) := by decide +kernel
theorem d2_18 : decode method_2_code 18 = .ok (.bipush 9, 2) := by decide +kernel
theorem d2_20 : decode method_2_code 20 = .ok (.if_icmp .eq 19, 3) := by decide +kernel
theorem d2_23 : decode method_2_code 23 = .ok (.iload_n 1, 1) := by decide +kernel
theorem d2_24 : decode method_2_code 24 = .ok (.bipush 10, 2) := by decide +kernel
theorem d2_26 : decode method_2_code 26 = .ok (.if_icmp .eq 13, 3) := by decide +kernel
theorem d2_29 : decode method_2_code 29 = .ok (.iload_n 1, 1) := by decide +kernel
theorem d2_30 : decode method_2_code 30 = .ok (.bipush 13, 2) := by decide +kernel
theorem d2_32 : decode method_2_code 32 = .ok (.if_icmp .eq 7, 3) := by decide +kernel
theorem d2_35 : decode method_2_code 35 = .ok (.iconst 1, 1) := by decide +kernel
theorem d2_36 : decode method_2_code 36 = .ok (.goto 4, 3) := by decide +kernel
theorem d2_39 : decode method_2_code 39 = .ok (.iconst 0, 1) := by decide +kernel
theorem d2_40 : decode method_2_code 40 = .ok (.istore_n 2, 1) := by decide +kernel
theorem d2_41 : decode method_2_code 41 = .ok (.iload_n 1, 1) := by decide +kernel
theorem d2_42 : decode method_2_code 42 = .ok (.bipush 127, 2) := by decide +kernel
theorem d2_44 : decode method_2_code 44 = .ok (.if_icmp .lt 14, 3) := by decide +kernel
theorem d2_47 : decode method_2_code 47 = .ok (.iload_n 1, 1) := by decide +kernel
theorem d2_48 : decode method_2_code 48 = .ok (.sipush 159, 3) := by decide +kernel
theorem d2_51 : decode method_2_code 51 = .ok (.if_icmp .gt 7, 3) := by decide +kernel
theorem d2_54 : decode method_2_code 54 = .ok (.iconst 1, 1) := by decide +kernel
theorem d2_55 : decode method_2_code 55 = .ok (.goto 4, 3) := by decide +kernel
theorem d2_58 : decode method_2_code 58 = .ok (.iconst 0, 1) := by decide +kernel
theorem d2_59 : decode method_2_code 59 = .ok (.istore_n 3, 1) := by decide +kernel
theorem d2_60 : decode method_2_code 60 = .ok (.iload_n 2, 1) := by decide +kernel
theorem d2_61 : decode method_2_code 61 = .ok (.ifCond .ne 14, 3) := by decide +kernel
theorem d2_64 : decode method_2_code 64 = .ok (.iload_n 3, 1) := by decide +kernel
theorem d2_65 : decode method_2_code 65 = .ok (.ifCond .ne 10, 3) := by decide +kernel
theorem d2_68 : decode method_2_code 68 = .ok (.iload_n 1, 1) := by decide +kernel
theorem d2_69 : decode method_2_code 69 = .ok (.sipush 8232, 3) := by decide +kernel
theorem d2_72 : decode method_2_code 72 = .ok (.if_icmp .ne 7, 3) := by decide +kernel
theorem d2_75 : decode method_2_code 75 = .ok (.iconst 1, 1) := by decide +kernel
theorem d2_76 : decode method_2_code 76 = .ok (.goto 4, 3) := by decide +kernel
theorem d2_79 : decode method_2_code 79 = .ok (.iconst 0, 1) := by decide +kernel
theorem d2_80 : decode method_2_code 80 = .ok (.ireturn, 1) := by decide +kernel
theorem pn_2 : plainName "com/example/nestdb/nestdb/store/XmlVersionOnlyAsReferencePinLaw" = true := by first | (simp [plainName, overriddenIn]; done) | decide +kernel
theorem ef_2 (m : MethodId) (p1 : Int32) (p2 : Int32) : entryFrame m #[(.int p1), (.int p2)] 4 = mkF m 0 #[.val (.int p1), .val (.int p2), .unset, .unset] [] := by first | (simp [entryFrame, mkF, argsToLocals, Value.category]; done) | rfl
def F2_75 (p1 : Int32) (p2 : Int32) (x2 : Int32) (x3 : Int32) : Int32 := (1 : Int32)
def F2_59 (p1 : Int32) (p2 : Int32) (x2 : Int32) (t0 : Int32) : Int32 := (if x2 = (0 : Int32) then (if t0 = (0 : Int32) then (if p2 = (8232 : Int32) then (F2_75 p1 p2 x2 t0) else (0 : Int32)) else (F2_75 p1 p2 x2 t0)) else (F2_75 p1 p2 x2 t0))
def F2_58 (p1 : Int32) (p2 : Int32) (x2 : Int32) : Int32 := (F2_59 p1 p2 x2 (0 : Int32))
def F2_40 (p1 : Int32) (p2 : Int32) (t0 : Int32) : Int32 := (if p2 < (127 : Int32) then (F2_58 p1 p2 t0) else (if (159 : Int32) < p2 then (F2_58 p1 p2 t0) else (F2_59 p1 p2 t0 (1 : Int32))))
def F2_39 (p1 : Int32) (p2 : Int32) : Int32 := (F2_40 p1 p2 (0 : Int32))
def F2_0 (p1 : Int32) (p2 : Int32) : Int32 := (if p1 = (0 : Int32) then (0 : Int32) else (if p2 < (1 : Int32) then (F2_39 p1 p2) else (if (31 : Int32) < p2 then (F2_39 p1 p2) else (if p2 = (9 : Int32) then (F2_39 p1 p2) else (if p2 = (10 : Int32) then (F2_39 p1 p2) else (if p2 = (13 : Int32) then (F2_39 p1 p2) else (F2_40 p1 p2 (1 : Int32))))))))
def Q2 (Z : State) (p1 : Int32) (p2 : Int32) (h0 : Heap) (n0 : Nat) (v : Option Value) (h : Heap) (L : List Loc) : Prop := v = some (.int (F2_0 p1 p2)) ∧ Fr n0 L ∧ h = h0
set_option maxRecDepth 65536 in
set_option maxHeartbeats 40000000 in
theorem rm2 (l : Launch) (Z : State) (a0 : Array Value) (hw : ∀ d ∈ tables_1, d.before a0 Z = true) (ws : List Jvm.Cond) (p1 : Int32) (p2 : Int32) (h0 : Heap) (n0 : Nat) (Z0 : n0 ≤ h0.size) :
    MetFree l (⟨"com/example/nestdb/nestdb/store/XmlVersionOnlyAsReferencePinLaw", "expected", "(ZC)Z"⟩ : MethodName) (head1 (Jvm.Cond.code (⟨"com/example/nestdb/nestdb/store/XmlVersionOnlyAsReferencePinLaw", "expected", "(ZC)Z"⟩ : MethodName) method_2_code 4 (some .boolean) :: ws) ({ frames := 0, cells := 0, slots := 0, locals := 0 } : Room)) (fun a U => a = #[(.int p1), (.int p2)] ∧ Z.Warmed39 U.vm ∧ U.heap = h0) (fun _ _ _ _ _ => True) (fun _ U o U' => ∃ v L, o = .returned v ∧ Q2 Z p1 p2 h0 n0 v U'.heap L ∧ FrameEnd U o U' L ({ frames := 0, cells := 0, slots := 0, locals := 0 } : Room).cells ({ frames := 0, cells := 0, slots := 0, locals := 0 } : Room).slots) := by
  refine MetFree.of_bodySF (plainFor_of_name pn_2) hisR ?_
  intro p e s m args below meth c s₁ Bd hml0 hP hK
  obtain ⟨rfl, hZ, hh⟩ := hP
  have hx := Bd.exec
  have hby := Bd.bytes
  have hml : c.maxLocals = 4 := hml0
  have hown : s.vm.findClass "com/example/nestdb/nestdb/store/XmlVersionOnlyAsReferencePinLaw" = some m.cls := findClass_of_methodNamed Bd.named
  have hnm := (name_of_methodNamed Bd.named Bd.method).1
  have X0 : Stand p l e ({ frames := 0, cells := 0, slots := 0, locals := 0 } : Room) s m #[(.int p1), (.int p2)] below meth c s₁ [] 0 0 := Stand.of_body Bd
  have e0 : s₁.heap = h0 := by rw [← hh, Bd.state]; rfl
  have N0 := Fr.nil n0
  have pre0 : ∀ t, Steps p.tables e below (s₁.setTop (mkF m 0 #[.val (.int p1), .val (.int p2), .unset, .unset] [])) t → Steps p.tables e below (s₁.setTop (entryFrame m #[(.int p1), (.int p2)] 4)) t := fun t k => castTop (ef_2 m p1 p2) k
  obtain ⟨fs, hr, hrun, hended, hW, hsame⟩ := X0.leave (v := some (.int (F2_0 p1 p2))) (fun h => by rw [Bd.returns] at h; cases h) Bd.notSynchronized
  refine ⟨_, _, pre0 _ ?_, hrun, hended, _, _, rfl, ?_, ⟨_, rfl⟩, hW, hsame.mono (by decide) (by decide)⟩
  · have j75 : ∀ (x2 : Int32) (x3 : Int32) (hF : F2_0 p1 p2 = F2_75 p1 p2 x2 x3), Steps p.tables e below (s₁.setTop (mkF m 75 #[.val (.int p1), .val (.int p2), .val (.int x2), .val (.int x3)] [])) (s₁.setFrames fs) := by
      intro x2 x3 hF
      show Steps p.tables e below (s₁.setTop (mkF m 75 #[.val (.int p1), .val (.int p2), .val (.int x2), .val (.int x3)] [])) _
      refine XS.iconst X0.here hx rfl (hb hby d2_75) ?_
      show Steps p.tables e below (s₁.setTop (mkF m 76 #[.val (.int p1), .val (.int p2), .val (.int x2), .val (.int x3)] [(.int (1 : Int32))])) _
      refine XS.goto X0.here hx rfl (pc0 := 76) (pc' := 80) rfl (hb hby d2_76) (by decide) (by decide) ?_
      show Steps p.tables e below (s₁.setTop (mkF m 80 #[.val (.int p1), .val (.int p2), .val (.int x2), .val (.int x3)] [(.int (1 : Int32))])) _
      have hv := (hF.trans (by rw [F2_75] : _ = (1 : Int32)))
      rw [hv] at hr
      exact retN X0 hx (t := .boolean) Bd.returns (by simp) (hb hby d2_80) hr
    have j59 : ∀ (x2 : Int32) (t0 : Int32) (hF : F2_0 p1 p2 = F2_59 p1 p2 x2 t0), Steps p.tables e below (s₁.setTop (mkF m 59 #[.val (.int p1), .val (.int p2), .val (.int x2), .unset] [(.int t0)])) (s₁.setFrames fs) := by
      intro x2 t0 hF
      show Steps p.tables e below (s₁.setTop (mkF m 59 #[.val (.int p1), .val (.int p2), .val (.int x2), .unset] [(.int t0)])) _
      refine XS.istoreN X0.here hx rfl (hb hby d2_59) rfl (l' := #[.val (.int p1), .val (.int p2), .val (.int x2), .val (.int t0)]) rfl ?_
      show Steps p.tables e below (s₁.setTop (mkF m 60 #[.val (.int p1), .val (.int p2), .val (.int x2), .val (.int t0)] [])) _
      refine XS.iloadN X0.here hx rfl (hb hby d2_60) rfl ?_
      show Steps p.tables e below (s₁.setTop (mkF m 61 #[.val (.int p1), .val (.int p2), .val (.int x2), .val (.int t0)] [(.int x2)])) _
      by_cases hc61 : x2 = (0 : Int32)
      · refine XS.ifNo X0.here hx rfl (hb hby d2_61) rfl ((if0 _ _).trans (teq hc61).2) ?_
        show Steps p.tables e below (s₁.setTop (mkF m 64 #[.val (.int p1), .val (.int p2), .val (.int x2), .val (.int t0)] [])) _
        refine XS.iloadN X0.here hx rfl (hb hby d2_64) rfl ?_
        show Steps p.tables e below (s₁.setTop (mkF m 65 #[.val (.int p1), .val (.int p2), .val (.int x2), .val (.int t0)] [(.int t0)])) _
        by_cases hc65 : t0 = (0 : Int32)
        · refine XS.ifNo X0.here hx rfl (hb hby d2_65) rfl ((if0 _ _).trans (teq hc65).2) ?_
          show Steps p.tables e below (s₁.setTop (mkF m 68 #[.val (.int p1), .val (.int p2), .val (.int x2), .val (.int t0)] [])) _
          refine XS.iloadN X0.here hx rfl (hb hby d2_68) rfl ?_
          show Steps p.tables e below (s₁.setTop (mkF m 69 #[.val (.int p1), .val (.int p2), .val (.int x2), .val (.int t0)] [(.int p2)])) _
          refine XS.sipush X0.here hx rfl (hb hby d2_69) ?_
          show Steps p.tables e below (s₁.setTop (mkF m 72 #[.val (.int p1), .val (.int p2), .val (.int x2), .val (.int t0)] [(.int (8232 : Int32)), (.int p2)])) _
          by_cases hc72 : p2 = (8232 : Int32)
          · refine XS.icmpNo X0.here hx rfl (hb hby d2_72) rfl (teq hc72).2 ?_
            exact j75 x2 t0 (hF.trans (by rw [F2_59, if_pos hc61, if_pos hc65, if_pos hc72]))
          · refine XS.icmpYes X0.here hx rfl (pc0 := 72) (pc' := 79) rfl (hb hby d2_72) rfl (feq hc72).2 (by decide) (by decide) ?_
            show Steps p.tables e below (s₁.setTop (mkF m 79 #[.val (.int p1), .val (.int p2), .val (.int x2), .val (.int t0)] [])) _
            refine XS.iconst X0.here hx rfl (hb hby d2_79) ?_
            show Steps p.tables e below (s₁.setTop (mkF m 80 #[.val (.int p1), .val (.int p2), .val (.int x2), .val (.int t0)] [(.int (0 : Int32))])) _
            have hv := (hF.trans (by rw [F2_59, if_pos hc61, if_pos hc65, if_neg hc72] : _ = (0 : Int32)))
            rw [hv] at hr
            exact retN X0 hx (t := .boolean) Bd.returns (by simp) (hb hby d2_80) hr
        · refine XS.ifYes X0.here hx rfl (pc0 := 65) (pc' := 75) rfl (hb hby d2_65) rfl ((if0 _ _).trans (feq hc65).2) (by decide) (by decide) ?_
          exact j75 x2 t0 (hF.trans (by rw [F2_59, if_pos hc61, if_neg hc65]))
      · refine XS.ifYes X0.here hx rfl (pc0 := 61) (pc' := 75) rfl (hb hby d2_61) rfl ((if0 _ _).trans (feq hc61).2) (by decide) (by decide) ?_
        exact j75 x2 t0 (hF.trans (by rw [F2_59, if_neg hc61]))
    have j58 : ∀ (x2 : Int32) (hF : F2_0 p1 p2 = F2_58 p1 p2 x2), Steps p.tables e below (s₁.setTop (mkF m 58 #[.val (.int p1), .val (.int p2), .val (.int x2), .unset] [])) (s₁.setFrames fs) := by
      intro x2 hF
      show Steps p.tables e below (s₁.setTop (mkF m 58 #[.val (.int p1), .val (.int p2), .val (.int x2), .unset] [])) _
      refine XS.iconst X0.here hx rfl (hb hby d2_58) ?_
      exact j59 x2 (0 : Int32) (hF.trans (by rw [F2_58]))
    have j40 : ∀ (t0 : Int32) (hF : F2_0 p1 p2 = F2_40 p1 p2 t0), Steps p.tables e below (s₁.setTop (mkF m 40 #[.val (.int p1), .val (.int p2), .unset, .unset] [(.int t0)])) (s₁.setFrames fs) := by
      intro t0 hF
      show Steps p.tables e below (s₁.setTop (mkF m 40 #[.val (.int p1), .val (.int p2), .unset, .unset] [(.int t0)])) _
      refine XS.istoreN X0.here hx rfl (hb hby d2_40) rfl (l' := #[.val (.int p1), .val (.int p2), .val (.int t0), .unset]) rfl ?_
      show Steps p.tables e below (s₁.setTop (mkF m 41 #[.val (.int p1), .val (.int p2), .val (.int t0), .unset] [])) _
      refine XS.iloadN X0.here hx rfl (hb hby d2_41) rfl ?_
      show Steps p.tables e below (s₁.setTop (mkF m 42 #[.val (.int p1), .val (.int p2), .val (.int t0), .unset] [(.int p2)])) _
      refine XS.bipush X0.here hx rfl (hb hby d2_42) ?_
      show Steps p.tables e below (s₁.setTop (mkF m 44 #[.val (.int p1), .val (.int p2), .val (.int t0), .unset] [(.int (127 : Int32)), (.int p2)])) _
      by_cases hc44 : p2 < (127 : Int32)
      · refine XS.icmpYes X0.here hx rfl (pc0 := 44) (pc' := 58) rfl (hb hby d2_44) rfl (tlt hc44).1 (by decide) (by decide) ?_
        exact j58 t0 (hF.trans (by rw [F2_40, if_pos hc44]))
      · refine XS.icmpNo X0.here hx rfl (hb hby d2_44) rfl (flt hc44).1 ?_
        show Steps p.tables e below (s₁.setTop (mkF m 47 #[.val (.int p1), .val (.int p2), .val (.int t0), .unset] [])) _
        refine XS.iloadN X0.here hx rfl (hb hby d2_47) rfl ?_
        show Steps p.tables e below (s₁.setTop (mkF m 48 #[.val (.int p1), .val (.int p2), .val (.int t0), .unset] [(.int p2)])) _
        refine XS.sipush X0.here hx rfl (hb hby d2_48) ?_
        show Steps p.tables e below (s₁.setTop (mkF m 51 #[.val (.int p1), .val (.int p2), .val (.int t0), .unset] [(.int (159 : Int32)), (.int p2)])) _
        by_cases hc51 : (159 : Int32) < p2
        · refine XS.icmpYes X0.here hx rfl (pc0 := 51) (pc' := 58) rfl (hb hby d2_51) rfl (tlt hc51).2.2.1 (by decide) (by decide) ?_
          exact j58 t0 (hF.trans (by rw [F2_40, if_neg hc44, if_pos hc51]))
        · refine XS.icmpNo X0.here hx rfl (hb hby d2_51) rfl (flt hc51).2.2.1 ?_
          show Steps p.tables e below (s₁.setTop (mkF m 54 #[.val (.int p1), .val (.int p2), .val (.int t0), .unset] [])) _
          refine XS.iconst X0.here hx rfl (hb hby d2_54) ?_
          show Steps p.tables e below (s₁.setTop (mkF m 55 #[.val (.int p1), .val (.int p2), .val (.int t0), .unset] [(.int (1 : Int32))])) _
          refine XS.goto X0.here hx rfl (pc0 := 55) (pc' := 59) rfl (hb hby d2_55) (by decide) (by decide) ?_
          exact j59 t0 (1 : Int32) (hF.trans (by rw [F2_40, if_neg hc44, if_neg hc51]))
    have j39 : ∀ (hF : F2_0 p1 p2 = F2_39 p1 p2), Steps p.tables e below (s₁.setTop (mkF m 39 #[.val (.int p1), .val (.int p2), .unset, .unset] [])) (s₁.setFrames fs) := by
      intro hF
      show Steps p.tables e below (s₁.setTop (mkF m 39 #[.val (.int p1), .val (.int p2), .unset, .unset] [])) _
      refine XS.iconst X0.here hx rfl (hb hby d2_39) ?_
      exact j40 (0 : Int32) (hF.trans (by rw [F2_39]))
    have j0 : ∀ (hF : F2_0 p1 p2 = F2_0 p1 p2), Steps p.tables e below (s₁.setTop (mkF m 0 #[.val (.int p1), .val (.int p2), .unset, .unset] [])) (s₁.setFrames fs) := by
      intro hF
      show Steps p.tables e below (s₁.setTop (mkF m 0 #[.val (.int p1), .val (.int p2), .unset, .unset] [])) _
      refine XS.iloadN X0.here hx rfl (hb hby d2_0) rfl ?_
      show Steps p.tables e below (s₁.setTop (mkF m 1 #[.val (.int p1), .val (.int p2), .unset, .unset] [(.int p1)])) _
      by_cases hc1 : p1 = (0 : Int32)
      · refine XS.ifNo X0.here hx rfl (hb hby d2_1) rfl ((if0 _ _).trans (teq hc1).2) ?_
        show Steps p.tables e below (s₁.setTop (mkF m 4 #[.val (.int p1), .val (.int p2), .unset, .unset] [])) _
        refine XS.iconst X0.here hx rfl (hb hby d2_4) ?_
        show Steps p.tables e below (s₁.setTop (mkF m 5 #[.val (.int p1), .val (.int p2), .unset, .unset] [(.int (0 : Int32))])) _
        have hv := (hF.trans (by rw [F2_0, if_pos hc1] : _ = (0 : Int32)))
        rw [hv] at hr
        exact retN X0 hx (t := .boolean) Bd.returns (by simp) (hb hby d2_5) hr
      · refine XS.ifYes X0.here hx rfl (pc0 := 1) (pc' := 6) rfl (hb hby d2_1) rfl ((if0 _ _).trans (feq hc1).2) (by decide) (by decide) ?_
        show Steps p.tables e below (s₁.setTop (mkF m 6 #[.val (.int p1), .val (.int p2), .unset, .unset] [])) _
        refine XS.iloadN X0.here hx rfl (hb hby d2_6) rfl ?_
        show Steps p.tables e below (s₁.setTop (mkF m 7 #[.val (.int p1), .val (.int p2), .unset, .unset] [(.int p2)])) _
        refine XS.iconst X0.here hx rfl (hb hby d2_7) ?_
        show Steps p.tables e below (s₁.setTop (mkF m 8 #[.val (.int p1), .val (.int p2), .unset, .unset] [(.int (1 : Int32)), (.int p2)])) _
        by_cases hc8 : p2 < (1 : Int32)
        · refine XS.icmpYes X0.here hx rfl (pc0 := 8) (pc' := 39) rfl (hb hby d2_8) rfl (tlt hc8).1 (by decide) (by decide) ?_
          exact j39 (hF.trans (by rw [F2_0, if_neg hc1, if_pos hc8]))
        · refine XS.icmpNo X0.here hx rfl (hb hby d2_8) rfl (flt hc8).1 ?_
          show Steps p.tables e below (s₁.setTop (mkF m 11 #[.val (.int p1), .val (.int p2), .unset, .unset] [])) _
          refine XS.iloadN X0.here hx rfl (hb hby d2_11) rfl ?_
          show Steps p.tables e below (s₁.setTop (mkF m 12 #[.val (.int p1), .val (.int p2), .unset, .unset] [(.int p2)])) _
          refine XS.bipush X0.here hx rfl (hb hby d2_12) ?_
          show Steps p.tables e below (s₁.setTop (mkF m 14 #[.val (.int p1), .val (.int p2), .unset, .unset] [(.int (31 : Int32)), (.int p2)])) _
          by_cases hc14 : (31 : Int32) < p2
          · refine XS.icmpYes X0.here hx rfl (pc0 := 14) (pc' := 39) rfl (hb hby d2_14) rfl (tlt hc14).2.2.1 (by decide) (by decide) ?_
            exact j39 (hF.trans (by rw [F2_0, if_neg hc1, if_neg hc8, if_pos hc14]))
          · refine XS.icmpNo X0.here hx rfl (hb hby d2_14) rfl (flt hc14).2.2.1 ?_
            show Steps p.tables e below (s₁.setTop (mkF m 17 #[.val (.int p1), .val (.int p2), .unset, .unset] [])) _
            refine XS.iloadN X0.here hx rfl (hb hby d2_17) rfl ?_
            show Steps p.tables e below (s₁.setTop (mkF m 18 #[.val (.int p1), .val (.int p2), .unset, .unset] [(.int p2)])) _
            refine XS.bipush X0.here hx rfl (hb hby d2_18) ?_
            show Steps p.tables e below (s₁.setTop (mkF m 20 #[.val (.int p1), .val (.int p2), .unset, .unset] [(.int (9 : Int32)), (.int p2)])) _
            by_cases hc20 : p2 = (9 : Int32)
            · refine XS.icmpYes X0.here hx rfl (pc0 := 20) (pc' := 39) rfl (hb hby d2_20) rfl (teq hc20).1 (by decide) (by decide) ?_
              exact j39 (hF.trans (by rw [F2_0, if_neg hc1, if_neg hc8, if_neg hc14, if_pos hc20]))
            · refine XS.icmpNo X0.here hx rfl (hb hby d2_20) rfl (feq hc20).1 ?_
              show Steps p.tables e below (s₁.setTop (mkF m 23 #[.val (.int p1), .val (.int p2), .unset, .unset] [])) _
              refine XS.iloadN X0.here hx rfl (hb hby d2_23) rfl ?_
              show Steps p.tables e below (s₁.setTop (mkF m 24 #[.val (.int p1), .val (.int p2), .unset, .unset] [(.int p2)])) _
              refine XS.bipush X0.here hx rfl (hb hby d2_24) ?_
              show Steps p.tables e below (s₁.setTop (mkF m 26 #[.val (.int p1), .val (.int p2), .unset, .unset] [(.int (10 : Int32)), (.int p2)])) _
              by_cases hc26 : p2 = (10 : Int32)
              · refine XS.icmpYes X0.here hx rfl (pc0 := 26) (pc' := 39) rfl (hb hby d2_26) rfl (teq hc26).1 (by decide) (by decide) ?_
                exact j39 (hF.trans (by rw [F2_0, if_neg hc1, if_neg hc8, if_neg hc14, if_neg hc20, if_pos hc26]))
              · refine XS.icmpNo X0.here hx rfl (hb hby d2_26) rfl (feq hc26).1 ?_
                show Steps p.tables e below (s₁.setTop (mkF m 29 #[.val (.int p1), .val (.int p2), .unset, .unset] [])) _
                refine XS.iloadN X0.here hx rfl (hb hby d2_29) rfl ?_
                show Steps p.tables e below (s₁.setTop (mkF m 30 #[.val (.int p1), .val (.int p2), .unset, .unset] [(.int p2)])) _
                refine XS.bipush X0.here hx rfl (hb hby d2_30) ?_
                show Steps p.tables e below (s₁.setTop (mkF m 32 #[.val (.int p1), .val (.int p2), .unset, .unset] [(.int (13 : Int32)), (.int p2)])) _
                by_cases hc32 : p2 = (13 : Int32)
                · refine XS.icmpYes X0.here hx rfl (pc0 := 32) (pc' := 39) rfl (hb hby d2_32) rfl (teq hc32).1 (by decide) (by decide) ?_
                  exact j39 (hF.trans (by rw [F2_0, if_neg hc1, if_neg hc8, if_neg hc14, if_neg hc20, if_neg hc26, if_pos hc32]))
                · refine XS.icmpNo X0.here hx rfl (hb hby d2_32) rfl (feq hc32).1 ?_
                  show Steps p.tables e below (s₁.setTop (mkF m 35 #[.val (.int p1), .val (.int p2), .unset, .unset] [])) _
                  refine XS.iconst X0.here hx rfl (hb hby d2_35) ?_
                  show Steps p.tables e below (s₁.setTop (mkF m 36 #[.val (.int p1), .val (.int p2), .unset, .unset] [(.int (1 : Int32))])) _
                  refine XS.goto X0.here hx rfl (pc0 := 36) (pc' := 40) rfl (hb hby d2_36) (by decide) (by decide) ?_
                  exact j40 (1 : Int32) (hF.trans (by rw [F2_0, if_neg hc1, if_neg hc8, if_neg hc14, if_neg hc20, if_neg hc26, if_neg hc32]))
    exact j0 rfl
  · show Q2 Z p1 p2 h0 n0 _ s₁.heap _
    rw [e0]
    exact ⟨rfl, N0, rfl⟩
theorem own_F1_87 (a1 : Addr) (c : Int32) (w_XML_1_1 : Addr) : F1_87 a1 c w_XML_1_1 = 0 := by
  rfl
theorem own_F1_83 (a1 : Addr) (c : Int32) (w_XML_1_1 : Addr) : F1_83 a1 c w_XML_1_1 = 1 := by
  rfl
theorem own_F1_76 (a1 : Addr) (c : Int32) (w_XML_1_1 : Addr) : F1_76 a1 c w_XML_1_1 = if (8232 ≤ c.toInt ∧ c.toInt ≤ 8232) then 1 else 0 := by
  have hb1 := c.le_toInt
  have hb2 := c.toInt_lt
  unfold F1_76
  simp only [own_F1_83, own_F1_87]
  have k8232 : (8232 : Int32).toInt = 8232 := by decide
  repeat' split
  all_goals first | rfl | (exfalso; simp only [Int32.lt_iff_toInt_lt, ← Int32.toInt_inj, k8232] at *; omega)
theorem own_F1_55 (a1 : Addr) (c : Int32) (w_XML_1_1 : Addr) : F1_55 a1 c w_XML_1_1 = if (133 ≤ c.toInt ∧ c.toInt ≤ 159) ∨ (8232 ≤ c.toInt ∧ c.toInt ≤ 8232) then 1 else 0 := by
  have hb1 := c.le_toInt
  have hb2 := c.toInt_lt
  unfold F1_55
  simp only [own_F1_83, own_F1_76]
  have k133 : (133 : Int32).toInt = 133 := by decide
  have k134 : (134 : Int32).toInt = 134 := by decide
  have k159 : (159 : Int32).toInt = 159 := by decide
  repeat' split
  all_goals first | rfl | (exfalso; simp only [Int32.lt_iff_toInt_lt, ← Int32.toInt_inj, k133, k134, k159] at *; omega)
theorem own_F1_42 (a1 : Addr) (c : Int32) (w_XML_1_1 : Addr) : F1_42 a1 c w_XML_1_1 = if (127 ≤ c.toInt ∧ c.toInt ≤ 159) ∨ (8232 ≤ c.toInt ∧ c.toInt ≤ 8232) then 1 else 0 := by
  have hb1 := c.le_toInt
  have hb2 := c.toInt_lt
  unfold F1_42
  simp only [own_F1_55, own_F1_83]
  have k127 : (127 : Int32).toInt = 127 := by decide
  have k132 : (132 : Int32).toInt = 132 := by decide
  repeat' split
  all_goals first | rfl | (exfalso; simp only [Int32.lt_iff_toInt_lt, ← Int32.toInt_inj, k127, k132] at *; omega)
theorem own_F1_18 (a1 : Addr) (c : Int32) (w_XML_1_1 : Addr) : F1_18 a1 c w_XML_1_1 = if (11 ≤ c.toInt ∧ c.toInt ≤ 12) ∨ (14 ≤ c.toInt ∧ c.toInt ≤ 31) ∨ (127 ≤ c.toInt ∧ c.toInt ≤ 159) ∨ (8232 ≤ c.toInt ∧ c.toInt ≤ 8232) then 1 else 0 := by
  have hb1 := c.le_toInt
  have hb2 := c.toInt_lt
  unfold F1_18
  simp only [own_F1_83, own_F1_42]
  have k11 : (11 : Int32).toInt = 11 := by decide
  have k12 : (12 : Int32).toInt = 12 := by decide
  have k14 : (14 : Int32).toInt = 14 := by decide
  have k31 : (31 : Int32).toInt = 31 := by decide
  repeat' split
  all_goals first | rfl | (exfalso; simp only [Int32.lt_iff_toInt_lt, ← Int32.toInt_inj, k11, k12, k14, k31] at *; omega)
theorem own_in (a : Addr) (c : Int32) : F1_0 a c a = if (1 ≤ c.toInt ∧ c.toInt ≤ 8) ∨ (11 ≤ c.toInt ∧ c.toInt ≤ 12) ∨ (14 ≤ c.toInt ∧ c.toInt ≤ 31) ∨ (127 ≤ c.toInt ∧ c.toInt ≤ 159) ∨ c.toInt = 8232 then 1 else 0 := by
  unfold F1_0
  rw [if_pos rfl]
  simp only [own_F1_18, own_F1_83]
  have k1 : (1 : Int32).toInt = 1 := by decide
  have k8 : (8 : Int32).toInt = 8 := by decide
  repeat' split
  all_goals first | rfl | (exfalso; simp only [Int32.lt_iff_toInt_lt, ← Int32.toInt_inj, k1, k8] at *; omega)
theorem own_out (a w : Addr) (c : Int32) (h : ¬ a = w) : F1_0 a c w = 0 := by
  unfold F1_0
  rw [if_neg h, own_F1_87]
theorem own_ex0 (c : Int32) : F2_0 0 c = 0 := by
  unfold F2_0
  rw [if_pos rfl]
theorem own_z1 : ¬ ((1 : Int32) = 0) := by decide
theorem own_591 (q c t : Int32) : F2_59 q c 1 t = 1 := by unfold F2_59 F2_75; rw [if_neg own_z1]
theorem own_590 (q c : Int32) : F2_59 q c 0 1 = 1 := by unfold F2_59 F2_75; rw [if_pos rfl, if_neg own_z1]
theorem own_59z (q c : Int32) : F2_59 q c 0 0 = if c = 8232 then 1 else 0 := by unfold F2_59 F2_75; rw [if_pos rfl, if_pos rfl]
theorem own_401 (q c : Int32) : F2_40 q c 1 = 1 := by
  unfold F2_40 F2_58
  simp only [own_591, ite_self]
theorem own_400 (q c : Int32) : F2_40 q c 0 = if (127 ≤ c.toInt ∧ c.toInt ≤ 159) ∨ c.toInt = 8232 then 1 else 0 := by
  unfold F2_40 F2_58
  simp only [own_590, own_59z]
  have k1 : (127 : Int32).toInt = 127 := by decide
  have k2 : (159 : Int32).toInt = 159 := by decide
  have k3 : (8232 : Int32).toInt = 8232 := by decide
  repeat' split
  all_goals first | rfl | (exfalso; simp only [Int32.lt_iff_toInt_lt, ← Int32.toInt_inj, k1, k2, k3] at *; omega)
theorem own_ex1 (c : Int32) : F2_0 1 c = if (1 ≤ c.toInt ∧ c.toInt ≤ 8) ∨ (11 ≤ c.toInt ∧ c.toInt ≤ 12) ∨ (14 ≤ c.toInt ∧ c.toInt ≤ 31) ∨ (127 ≤ c.toInt ∧ c.toInt ≤ 159) ∨ c.toInt = 8232 then 1 else 0 := by
  unfold F2_0 F2_39
  rw [if_neg own_z1]
  simp only [own_400, own_401]
  have k1 : (1 : Int32).toInt = 1 := by decide
  have k2 : (31 : Int32).toInt = 31 := by decide
  have k3 : (9 : Int32).toInt = 9 := by decide
  have k4 : (10 : Int32).toInt = 10 := by decide
  have k5 : (13 : Int32).toInt = 13 := by decide
  repeat' split
  all_goals first | rfl | (exfalso; simp only [Int32.lt_iff_toInt_lt, ← Int32.toInt_inj, k1, k2, k3, k4, k5] at *; omega)
theorem pn_0 : plainName "com/example/nestdb/nestdb/store/XmlVersionOnlyAsReferencePinLaw" = true := by first | (simp [plainName, overriddenIn]; done) | decide +kernel
theorem pd_0_0 : parseMethodDescriptor "(C)Z" = some ⟨[.char], some .boolean⟩ := by decide +kernel
theorem pd_0_1 : parseMethodDescriptor "(ZC)Z" = some ⟨[.boolean, .char], some .boolean⟩ := by decide +kernel
theorem ef_0 (m : MethodId) (x0 : Int32) (x1 : Int32) : entryFrame m #[(.int x0), (.int x1)] maxLocals = mkF m 0 #[.val (.int x0), .val (.int x1), .unset, .unset, .unset, .unset] [] := by first | (simp [entryFrame, mkF, argsToLocals, Value.category, maxLocals]; done) | rfl
def Q0 (Z : State) (p1 : Int32) (p2 : Int32) (w_XML_1_0 : Addr) (w_XML_1_1 : Addr) (h0 : Heap) (n0 : Nat) (v : Option Value) (h : Heap) (L : List Loc) : Prop := v = some (.int (1 : Int32)) ∧ Fr n0 L
set_option maxRecDepth 65536 in
set_option maxHeartbeats 40000000 in
theorem rm0_fffff (l : Launch) (Z : State) (a0 : Array Value) (hw : ∀ d ∈ tables_1, d.before a0 Z = true) (ws : List Jvm.Cond) (p1 : Int32) (p2 : Int32) (w_XML_1_0 : Addr) (w_XML_1_1 : Addr) (h0 : Heap) (n0 : Nat) (Z0 : n0 ≤ h0.size) (S_XML_1_0 : Sta Z h0 "com/example/nestdb/nestdb/store/XmlVersion" "XML_1_0" "Lcom/example/nestdb/nestdb/store/XmlVersion;" (.ref w_XML_1_0)) (S_XML_1_1 : Sta Z h0 "com/example/nestdb/nestdb/store/XmlVersion" "XML_1_1" "Lcom/example/nestdb/nestdb/store/XmlVersion;" (.ref w_XML_1_1)) (E_w_XML_1_0 : Exa Z h0 w_XML_1_0 "com/example/nestdb/nestdb/store/XmlVersion") (E_w_XML_1_1 : Exa Z h0 w_XML_1_1 "com/example/nestdb/nestdb/store/XmlVersion") (hc3 : ¬ ((p1 &&& (1 : Int32)) = (0 : Int32))) (hc15 : ¬ ((p1 &&& (2 : Int32)) = (0 : Int32))) (hc25 : ¬ ((1 : Int32) = (0 : Int32))) (hc40 : ¬ ((1 : Int32) = (0 : Int32))) (hk69 : (F1_0 w_XML_1_1 ((p2 &&& (255 : Int32)).toUInt32.toUInt16.toUInt32.toInt32) w_XML_1_1) = (F2_0 (1 : Int32) ((p2 &&& (255 : Int32)).toUInt32.toUInt16.toUInt32.toInt32))) :
    MetFree l x (head1 (Jvm.Cond.code x code maxLocals ret :: ws) room_1) (fun a U => a = #[(.int p1), (.int p2)] ∧ Z.Warmed39 U.vm ∧ U.heap = h0) (fun _ _ _ _ _ => True) (fun _ U o U' => ∃ v L, o = .returned v ∧ Q0 Z p1 p2 w_XML_1_0 w_XML_1_1 h0 n0 v U'.heap L ∧ FrameEnd U o U' L room_1.cells room_1.slots) := by
  refine MetFree.of_bodySF (plainFor_of_name pn_0) hisR ?_
  intro p e s m args below meth c s₁ Bd hml0 hP hK
  obtain ⟨rfl, hZ, hh⟩ := hP
  have hx := Bd.exec
  have hby := Bd.bytes
  have hml : c.maxLocals = 6 := hml0
  have hown : s.vm.findClass "com/example/nestdb/nestdb/store/XmlVersionOnlyAsReferencePinLaw" = some m.cls := findClass_of_methodNamed Bd.named
  have hnm := (name_of_methodNamed Bd.named Bd.method).1
  have X0 : Stand p l e room_1 s m #[(.int p1), (.int p2)] below meth c s₁ [] 0 0 := Stand.of_body Bd
  have e0 : s₁.heap = h0 := by rw [← hh, Bd.state]; rfl
  have N0 := Fr.nil n0
  have pre0 : ∀ t, Steps p.tables e below (s₁.setTop (mkF m 0 #[.val (.int p1), .val (.int p2), .unset, .unset, .unset, .unset] [])) t → Steps p.tables e below (s₁.setTop (entryFrame m #[(.int p1), (.int p2)] maxLocals)) t := fun t k => castTop (ef_0 m p1 p2) k
  obtain ⟨T4, X4, e4, st4⟩ := getS2 X0 hx hZ hown (host := "") (Or.inl (hw _ (List.mem_of_getElem? (i := 14) rfl))) Via.refl e0 S_XML_1_1 (g := (mkF m 28 #[.val (.int p1), .val (.int p2), .val (.int (1 : Int32)), .val (.int (1 : Int32)), .unset, .unset] [])) rfl (hb hby at_28)
  obtain ⟨cq5, kq5, q5a, q5b, q5c⟩ := isOf hZ e4 E_w_XML_1_1
  obtain ⟨_, _, ⟨T5, L5, k5, n5⟩, -, X5, ⟨Lc5, hQ5, l5, y5, z5⟩, st5⟩ := X4.virtualBack hx (y := (⟨"com/example/nestdb/nestdb/store/XmlVersion", "onlyAsReference", "(C)Z"⟩ : MethodName)) (z := (⟨"com/example/nestdb/nestdb/store/XmlVersion", "onlyAsReference", "(C)Z"⟩ : MethodName)) hown (mvT hZ (hw _ (List.mem_of_getElem? (i := 3) rfl))) (mvT hZ (hw _ (List.mem_of_getElem? (i := 4) rfl))) (notFace_of_selects (args := #[]) (mvT hZ (hw _ (List.mem_of_getElem? (i := 6) rfl)))) (mvT hZ (hw _ (List.mem_of_getElem? (i := 6) rfl))) (mvT hZ (hw _ (List.mem_of_getElem? (i := 5) rfl))) (by decide) (backOf (W := 0) (rm1 l Z a0 hw [] w_XML_1_1 ((p2 &&& (255 : Int32)).toUInt32.toUInt16.toUInt32.toInt32) w_XML_1_1 h0 n0 Z0 S_XML_1_1) hZ (hw _ (List.mem_of_getElem? (i := 7) rfl)) (hw _ (List.mem_of_getElem? (i := 1) rfl)) (by decide) (by decide)) q5a q5c (g := (mkF m 60 #[.val (.int p1), .val (.int p2), .val (.int (1 : Int32)), .val (.int (1 : Int32)), .val (.ref w_XML_1_1), .val (.int ((p2 &&& (255 : Int32)).toUInt32.toUInt16.toUInt32.toInt32))] [(.int ((p2 &&& (255 : Int32)).toUInt32.toUInt16.toUInt32.toInt32)), (.ref w_XML_1_1)])) rfl (by rw [hml]; rfl) (Steps.refl _) (argsL := [(.int ((p2 &&& (255 : Int32)).toUInt32.toUInt16.toUInt32.toInt32))]) (rest := []) (lenOf pd_0_0 rfl) rfl (by show 2 * 0 + _ ≤ _; exact Nat.le_of_eq rfl) (hb hby at_60) (fun _ _ => ⟨rfl, e4, (by decide : 0 + 0 ≤ _), (by decide : 0 + 0 ≤ _)⟩)
  dsimp only [Pt.U, Pt.locs, Pt.cells, Pt.slots] at X5 l5 y5 z5 st5 hQ5
  subst l5 y5 z5
  obtain ⟨rfl, N5q, e5q⟩ := hQ5
  have N5 := Fr.app N0 N5q
  have Z5 : n0 ≤ T5.heap.size := by rw [e5q]; exact Z0
  have Kq5 : Keep h0 T5.heap [] := by rw [e5q]; exact Keep.refl _ _
  obtain ⟨_, _, ⟨T6, L6, k6, n6⟩, -, X6, ⟨Lc6, hQ6, l6, y6, z6⟩, st6⟩ := Jvm.LawKit.callS X5 hx (y := (⟨"com/example/nestdb/nestdb/store/XmlVersionOnlyAsReferencePinLaw", "expected", "(ZC)Z"⟩ : MethodName)) hown (mvT hZ (hw _ (List.mem_of_getElem? (i := 10) rfl))) (mvT hZ (hw _ (List.mem_of_getElem? (i := 11) rfl))) (mvT hZ (hw _ (List.mem_of_getElem? (i := 12) rfl))) (mvT hZ (hw _ (List.mem_of_getElem? (i := 13) rfl))) (by decide) (backOf (W := 1) (rm2 l Z a0 hw [] (1 : Int32) ((p2 &&& (255 : Int32)).toUInt32.toUInt16.toUInt32.toInt32)  T5.heap n0 Z5) hZ (hw _ (List.mem_of_getElem? (i := 13) rfl)) (hw _ (List.mem_of_getElem? (i := 12) rfl)) (by decide) (by decide)) (g := (mkF m 66 #[.val (.int p1), .val (.int p2), .val (.int (1 : Int32)), .val (.int (1 : Int32)), .val (.ref w_XML_1_1), .val (.int ((p2 &&& (255 : Int32)).toUInt32.toUInt16.toUInt32.toInt32))] [(.int ((p2 &&& (255 : Int32)).toUInt32.toUInt16.toUInt32.toInt32)), (.int (1 : Int32)), (.int (F1_0 w_XML_1_1 ((p2 &&& (255 : Int32)).toUInt32.toUInt16.toUInt32.toInt32) w_XML_1_1))])) rfl (by rw [hml]; rfl) (argsL := [(.int (1 : Int32)), (.int ((p2 &&& (255 : Int32)).toUInt32.toUInt16.toUInt32.toInt32))]) (rest := [(.int (F1_0 w_XML_1_1 ((p2 &&& (255 : Int32)).toUInt32.toUInt16.toUInt32.toInt32) w_XML_1_1))]) (lenOf pd_0_1 rfl) rfl (by show 2 * 0 + _ ≤ _; exact Nat.le_of_eq rfl) (hb hby at_66) (fun _ _ => ⟨rfl, rfl, (by decide : 0 + 0 ≤ _), (by decide : 0 + 0 ≤ _)⟩)
  dsimp only [Pt.U, Pt.locs, Pt.cells, Pt.slots] at X6 l6 y6 z6 st6 hQ6
  subst l6 y6 z6
  obtain ⟨rfl, N6q, e6q⟩ := hQ6
  have N6 := Fr.app N5 N6q
  have Z6 : n0 ≤ T6.heap.size := by rw [e6q]; exact Z5
  have Kq6 : Keep T5.heap T6.heap [] := by rw [e6q]; exact Keep.refl _ _
  obtain ⟨fs, hr, hrun, hended, hW, hsame⟩ := X6.leave (v := some (.int (1 : Int32))) (fun h => by rw [Bd.returns] at h; cases h) Bd.notSynchronized
  refine ⟨_, _, pre0 _ ?_, hrun, hended, _, _, rfl, ?_, ⟨_, rfl⟩, hW, hsame.mono (by decide) (by decide)⟩
  · show Steps p.tables e below (s₁.setTop (mkF m 0 #[.val (.int p1), .val (.int p2), .unset, .unset, .unset, .unset] [])) _
    refine XS.iloadN X0.here hx rfl (hb hby at_0) rfl ?_
    show Steps p.tables e below (s₁.setTop (mkF m 1 #[.val (.int p1), .val (.int p2), .unset, .unset, .unset, .unset] [(.int p1)])) _
    refine XS.iconst X0.here hx rfl (hb hby at_1) ?_
    show Steps p.tables e below (s₁.setTop (mkF m 2 #[.val (.int p1), .val (.int p2), .unset, .unset, .unset, .unset] [(.int (1 : Int32)), (.int p1)])) _
    refine XS.iand X0.here hx rfl (hb hby at_2) rfl ?_
    show Steps p.tables e below (s₁.setTop (mkF m 3 #[.val (.int p1), .val (.int p2), .unset, .unset, .unset, .unset] [(.int (p1 &&& (1 : Int32)))])) _
    refine XS.ifNo X0.here hx rfl (hb hby at_3) rfl ((if0 _ _).trans (feq hc3).1) ?_
    show Steps p.tables e below (s₁.setTop (mkF m 6 #[.val (.int p1), .val (.int p2), .unset, .unset, .unset, .unset] [])) _
    refine XS.iconst X0.here hx rfl (hb hby at_6) ?_
    show Steps p.tables e below (s₁.setTop (mkF m 7 #[.val (.int p1), .val (.int p2), .unset, .unset, .unset, .unset] [(.int (1 : Int32))])) _
    refine XS.goto X0.here hx rfl (pc0 := 7) (pc' := 11) rfl (hb hby at_7) (by decide) (by decide) ?_
    show Steps p.tables e below (s₁.setTop (mkF m 11 #[.val (.int p1), .val (.int p2), .unset, .unset, .unset, .unset] [(.int (1 : Int32))])) _
    refine XS.istoreN X0.here hx rfl (hb hby at_11) rfl (l' := #[.val (.int p1), .val (.int p2), .val (.int (1 : Int32)), .unset, .unset, .unset]) rfl ?_
    show Steps p.tables e below (s₁.setTop (mkF m 12 #[.val (.int p1), .val (.int p2), .val (.int (1 : Int32)), .unset, .unset, .unset] [])) _
    refine XS.iloadN X0.here hx rfl (hb hby at_12) rfl ?_
    show Steps p.tables e below (s₁.setTop (mkF m 13 #[.val (.int p1), .val (.int p2), .val (.int (1 : Int32)), .unset, .unset, .unset] [(.int p1)])) _
    refine XS.iconst X0.here hx rfl (hb hby at_13) ?_
    show Steps p.tables e below (s₁.setTop (mkF m 14 #[.val (.int p1), .val (.int p2), .val (.int (1 : Int32)), .unset, .unset, .unset] [(.int (2 : Int32)), (.int p1)])) _
    refine XS.iand X0.here hx rfl (hb hby at_14) rfl ?_
    show Steps p.tables e below (s₁.setTop (mkF m 15 #[.val (.int p1), .val (.int p2), .val (.int (1 : Int32)), .unset, .unset, .unset] [(.int (p1 &&& (2 : Int32)))])) _
    refine XS.ifNo X0.here hx rfl (hb hby at_15) rfl ((if0 _ _).trans (feq hc15).1) ?_
    show Steps p.tables e below (s₁.setTop (mkF m 18 #[.val (.int p1), .val (.int p2), .val (.int (1 : Int32)), .unset, .unset, .unset] [])) _
    refine XS.iconst X0.here hx rfl (hb hby at_18) ?_
    show Steps p.tables e below (s₁.setTop (mkF m 19 #[.val (.int p1), .val (.int p2), .val (.int (1 : Int32)), .unset, .unset, .unset] [(.int (1 : Int32))])) _
    refine XS.goto X0.here hx rfl (pc0 := 19) (pc' := 23) rfl (hb hby at_19) (by decide) (by decide) ?_
    show Steps p.tables e below (s₁.setTop (mkF m 23 #[.val (.int p1), .val (.int p2), .val (.int (1 : Int32)), .unset, .unset, .unset] [(.int (1 : Int32))])) _
    refine XS.istoreN X0.here hx rfl (hb hby at_23) rfl (l' := #[.val (.int p1), .val (.int p2), .val (.int (1 : Int32)), .val (.int (1 : Int32)), .unset, .unset]) rfl ?_
    show Steps p.tables e below (s₁.setTop (mkF m 24 #[.val (.int p1), .val (.int p2), .val (.int (1 : Int32)), .val (.int (1 : Int32)), .unset, .unset] [])) _
    refine XS.iloadN X0.here hx rfl (hb hby at_24) rfl ?_
    show Steps p.tables e below (s₁.setTop (mkF m 25 #[.val (.int p1), .val (.int p2), .val (.int (1 : Int32)), .val (.int (1 : Int32)), .unset, .unset] [(.int (1 : Int32))])) _
    refine XS.ifNo X0.here hx rfl (hb hby at_25) rfl ((if0 _ _).trans (feq hc25).1) ?_
    show Steps p.tables e below (s₁.setTop (mkF m 28 #[.val (.int p1), .val (.int p2), .val (.int (1 : Int32)), .val (.int (1 : Int32)), .unset, .unset] [])) _
    refine st4 _ ?_
    show Steps p.tables e below (T4.setTop (mkF m 31 #[.val (.int p1), .val (.int p2), .val (.int (1 : Int32)), .val (.int (1 : Int32)), .unset, .unset] [(.ref w_XML_1_1)])) _
    refine XS.goto X4.here hx rfl (pc0 := 31) (pc' := 37) rfl (hb hby at_31) (by decide) (by decide) ?_
    show Steps p.tables e below (T4.setTop (mkF m 37 #[.val (.int p1), .val (.int p2), .val (.int (1 : Int32)), .val (.int (1 : Int32)), .unset, .unset] [(.ref w_XML_1_1)])) _
    refine XS.astore X4.here hx rfl (hb hby at_37) rfl rfl (l' := #[.val (.int p1), .val (.int p2), .val (.int (1 : Int32)), .val (.int (1 : Int32)), .val (.ref w_XML_1_1), .unset]) rfl ?_
    show Steps p.tables e below (T4.setTop (mkF m 39 #[.val (.int p1), .val (.int p2), .val (.int (1 : Int32)), .val (.int (1 : Int32)), .val (.ref w_XML_1_1), .unset] [])) _
    refine XS.iloadN X4.here hx rfl (hb hby at_39) rfl ?_
    show Steps p.tables e below (T4.setTop (mkF m 40 #[.val (.int p1), .val (.int p2), .val (.int (1 : Int32)), .val (.int (1 : Int32)), .val (.ref w_XML_1_1), .unset] [(.int (1 : Int32))])) _
    refine XS.ifNo X4.here hx rfl (hb hby at_40) rfl ((if0 _ _).trans (feq hc40).1) ?_
    show Steps p.tables e below (T4.setTop (mkF m 43 #[.val (.int p1), .val (.int p2), .val (.int (1 : Int32)), .val (.int (1 : Int32)), .val (.ref w_XML_1_1), .unset] [])) _
    refine XS.iloadN X4.here hx rfl (hb hby at_43) rfl ?_
    show Steps p.tables e below (T4.setTop (mkF m 44 #[.val (.int p1), .val (.int p2), .val (.int (1 : Int32)), .val (.int (1 : Int32)), .val (.ref w_XML_1_1), .unset] [(.int p2)])) _
    refine XS.sipush X4.here hx rfl (hb hby at_44) ?_
    show Steps p.tables e below (T4.setTop (mkF m 47 #[.val (.int p1), .val (.int p2), .val (.int (1 : Int32)), .val (.int (1 : Int32)), .val (.ref w_XML_1_1), .unset] [(.int (255 : Int32)), (.int p2)])) _
    refine XS.iand X4.here hx rfl (hb hby at_47) rfl ?_
    show Steps p.tables e below (T4.setTop (mkF m 48 #[.val (.int p1), .val (.int p2), .val (.int (1 : Int32)), .val (.int (1 : Int32)), .val (.ref w_XML_1_1), .unset] [(.int (p2 &&& (255 : Int32)))])) _
    refine XS.i2c X4.here hx rfl (hb hby at_48) rfl ?_
    show Steps p.tables e below (T4.setTop (mkF m 49 #[.val (.int p1), .val (.int p2), .val (.int (1 : Int32)), .val (.int (1 : Int32)), .val (.ref w_XML_1_1), .unset] [(.int ((p2 &&& (255 : Int32)).toUInt32.toUInt16.toUInt32.toInt32))])) _
    refine XS.goto X4.here hx rfl (pc0 := 49) (pc' := 54) rfl (hb hby at_49) (by decide) (by decide) ?_
    show Steps p.tables e below (T4.setTop (mkF m 54 #[.val (.int p1), .val (.int p2), .val (.int (1 : Int32)), .val (.int (1 : Int32)), .val (.ref w_XML_1_1), .unset] [(.int ((p2 &&& (255 : Int32)).toUInt32.toUInt16.toUInt32.toInt32))])) _
    refine XS.istore X4.here hx rfl (hb hby at_54) rfl (l' := #[.val (.int p1), .val (.int p2), .val (.int (1 : Int32)), .val (.int (1 : Int32)), .val (.ref w_XML_1_1), .val (.int ((p2 &&& (255 : Int32)).toUInt32.toUInt16.toUInt32.toInt32))]) rfl ?_
    show Steps p.tables e below (T4.setTop (mkF m 56 #[.val (.int p1), .val (.int p2), .val (.int (1 : Int32)), .val (.int (1 : Int32)), .val (.ref w_XML_1_1), .val (.int ((p2 &&& (255 : Int32)).toUInt32.toUInt16.toUInt32.toInt32))] [])) _
    refine XS.aload X4.here hx rfl (hb hby at_56) rfl rfl ?_
    show Steps p.tables e below (T4.setTop (mkF m 58 #[.val (.int p1), .val (.int p2), .val (.int (1 : Int32)), .val (.int (1 : Int32)), .val (.ref w_XML_1_1), .val (.int ((p2 &&& (255 : Int32)).toUInt32.toUInt16.toUInt32.toInt32))] [(.ref w_XML_1_1)])) _
    refine XS.iload X4.here hx rfl (hb hby at_58) rfl ?_
    show Steps p.tables e below (T4.setTop (mkF m 60 #[.val (.int p1), .val (.int p2), .val (.int (1 : Int32)), .val (.int (1 : Int32)), .val (.ref w_XML_1_1), .val (.int ((p2 &&& (255 : Int32)).toUInt32.toUInt16.toUInt32.toInt32))] [(.int ((p2 &&& (255 : Int32)).toUInt32.toUInt16.toUInt32.toInt32)), (.ref w_XML_1_1)])) _
    refine st5.trans ?_
    show Steps p.tables e below (T5.setTop (mkF m 63 #[.val (.int p1), .val (.int p2), .val (.int (1 : Int32)), .val (.int (1 : Int32)), .val (.ref w_XML_1_1), .val (.int ((p2 &&& (255 : Int32)).toUInt32.toUInt16.toUInt32.toInt32))] [(.int (F1_0 w_XML_1_1 ((p2 &&& (255 : Int32)).toUInt32.toUInt16.toUInt32.toInt32) w_XML_1_1))])) _
    refine XS.iloadN X5.here hx rfl (hb hby at_63) rfl ?_
    show Steps p.tables e below (T5.setTop (mkF m 64 #[.val (.int p1), .val (.int p2), .val (.int (1 : Int32)), .val (.int (1 : Int32)), .val (.ref w_XML_1_1), .val (.int ((p2 &&& (255 : Int32)).toUInt32.toUInt16.toUInt32.toInt32))] [(.int (1 : Int32)), (.int (F1_0 w_XML_1_1 ((p2 &&& (255 : Int32)).toUInt32.toUInt16.toUInt32.toInt32) w_XML_1_1))])) _
    refine XS.iload X5.here hx rfl (hb hby at_64) rfl ?_
    show Steps p.tables e below (T5.setTop (mkF m 66 #[.val (.int p1), .val (.int p2), .val (.int (1 : Int32)), .val (.int (1 : Int32)), .val (.ref w_XML_1_1), .val (.int ((p2 &&& (255 : Int32)).toUInt32.toUInt16.toUInt32.toInt32))] [(.int ((p2 &&& (255 : Int32)).toUInt32.toUInt16.toUInt32.toInt32)), (.int (1 : Int32)), (.int (F1_0 w_XML_1_1 ((p2 &&& (255 : Int32)).toUInt32.toUInt16.toUInt32.toInt32) w_XML_1_1))])) _
    refine st6 _ ?_
    show Steps p.tables e below (T6.setTop (mkF m 69 #[.val (.int p1), .val (.int p2), .val (.int (1 : Int32)), .val (.int (1 : Int32)), .val (.ref w_XML_1_1), .val (.int ((p2 &&& (255 : Int32)).toUInt32.toUInt16.toUInt32.toInt32))] [(.int (F2_0 (1 : Int32) ((p2 &&& (255 : Int32)).toUInt32.toUInt16.toUInt32.toInt32))), (.int (F1_0 w_XML_1_1 ((p2 &&& (255 : Int32)).toUInt32.toUInt16.toUInt32.toInt32) w_XML_1_1))])) _
    refine XS.icmpNo X6.here hx rfl (hb hby at_69) rfl (teq hk69).2 ?_
    show Steps p.tables e below (T6.setTop (mkF m 72 #[.val (.int p1), .val (.int p2), .val (.int (1 : Int32)), .val (.int (1 : Int32)), .val (.ref w_XML_1_1), .val (.int ((p2 &&& (255 : Int32)).toUInt32.toUInt16.toUInt32.toInt32))] [])) _
    refine XS.iconst X6.here hx rfl (hb hby at_72) ?_
    show Steps p.tables e below (T6.setTop (mkF m 73 #[.val (.int p1), .val (.int p2), .val (.int (1 : Int32)), .val (.int (1 : Int32)), .val (.ref w_XML_1_1), .val (.int ((p2 &&& (255 : Int32)).toUInt32.toUInt16.toUInt32.toInt32))] [(.int (1 : Int32))])) _
    refine XS.goto X6.here hx rfl (pc0 := 73) (pc' := 77) rfl (hb hby at_73) (by decide) (by decide) ?_
    show Steps p.tables e below (T6.setTop (mkF m 77 #[.val (.int p1), .val (.int p2), .val (.int (1 : Int32)), .val (.int (1 : Int32)), .val (.ref w_XML_1_1), .val (.int ((p2 &&& (255 : Int32)).toUInt32.toUInt16.toUInt32.toInt32))] [(.int (1 : Int32))])) _
    exact retN X6 hx (t := .boolean) Bd.returns (by simp) (hb hby at_77) hr
  · show Q0 Z p1 p2 w_XML_1_0 w_XML_1_1 h0 n0 _ T6.heap _
    exact ⟨rfl, N6⟩
set_option maxRecDepth 65536 in
set_option maxHeartbeats 40000000 in
theorem rm0_ftftf (l : Launch) (Z : State) (a0 : Array Value) (hw : ∀ d ∈ tables_1, d.before a0 Z = true) (ws : List Jvm.Cond) (p1 : Int32) (p2 : Int32) (w_XML_1_0 : Addr) (w_XML_1_1 : Addr) (h0 : Heap) (n0 : Nat) (Z0 : n0 ≤ h0.size) (S_XML_1_0 : Sta Z h0 "com/example/nestdb/nestdb/store/XmlVersion" "XML_1_0" "Lcom/example/nestdb/nestdb/store/XmlVersion;" (.ref w_XML_1_0)) (S_XML_1_1 : Sta Z h0 "com/example/nestdb/nestdb/store/XmlVersion" "XML_1_1" "Lcom/example/nestdb/nestdb/store/XmlVersion;" (.ref w_XML_1_1)) (E_w_XML_1_0 : Exa Z h0 w_XML_1_0 "com/example/nestdb/nestdb/store/XmlVersion") (E_w_XML_1_1 : Exa Z h0 w_XML_1_1 "com/example/nestdb/nestdb/store/XmlVersion") (hc3 : ¬ ((p1 &&& (1 : Int32)) = (0 : Int32))) (hc15 : (p1 &&& (2 : Int32)) = (0 : Int32)) (hc25 : ¬ ((1 : Int32) = (0 : Int32))) (hk69 : (F1_0 w_XML_1_1 (p2.toUInt32.toUInt16.toUInt32.toInt32) w_XML_1_1) = (F2_0 (1 : Int32) (p2.toUInt32.toUInt16.toUInt32.toInt32))) :
    MetFree l x (head1 (Jvm.Cond.code x code maxLocals ret :: ws) room_1) (fun a U => a = #[(.int p1), (.int p2)] ∧ Z.Warmed39 U.vm ∧ U.heap = h0) (fun _ _ _ _ _ => True) (fun _ U o U' => ∃ v L, o = .returned v ∧ Q0 Z p1 p2 w_XML_1_0 w_XML_1_1 h0 n0 v U'.heap L ∧ FrameEnd U o U' L room_1.cells room_1.slots) := by
  refine MetFree.of_bodySF (plainFor_of_name pn_0) hisR ?_
  intro p e s m args below meth c s₁ Bd hml0 hP hK
  obtain ⟨rfl, hZ, hh⟩ := hP
  have hx := Bd.exec
  have hby := Bd.bytes
  have hml : c.maxLocals = 6 := hml0
  have hown : s.vm.findClass "com/example/nestdb/nestdb/store/XmlVersionOnlyAsReferencePinLaw" = some m.cls := findClass_of_methodNamed Bd.named
  have hnm := (name_of_methodNamed Bd.named Bd.method).1
  have X0 : Stand p l e room_1 s m #[(.int p1), (.int p2)] below meth c s₁ [] 0 0 := Stand.of_body Bd
  have e0 : s₁.heap = h0 := by rw [← hh, Bd.state]; rfl
  have N0 := Fr.nil n0
  have pre0 : ∀ t, Steps p.tables e below (s₁.setTop (mkF m 0 #[.val (.int p1), .val (.int p2), .unset, .unset, .unset, .unset] [])) t → Steps p.tables e below (s₁.setTop (entryFrame m #[(.int p1), (.int p2)] maxLocals)) t := fun t k => castTop (ef_0 m p1 p2) k
  obtain ⟨T4, X4, e4, st4⟩ := getS2 X0 hx hZ hown (host := "") (Or.inl (hw _ (List.mem_of_getElem? (i := 14) rfl))) Via.refl e0 S_XML_1_1 (g := (mkF m 28 #[.val (.int p1), .val (.int p2), .val (.int (1 : Int32)), .val (.int (0 : Int32)), .unset, .unset] [])) rfl (hb hby at_28)
  obtain ⟨cq5, kq5, q5a, q5b, q5c⟩ := isOf hZ e4 E_w_XML_1_1
  obtain ⟨_, _, ⟨T5, L5, k5, n5⟩, -, X5, ⟨Lc5, hQ5, l5, y5, z5⟩, st5⟩ := X4.virtualBack hx (y := (⟨"com/example/nestdb/nestdb/store/XmlVersion", "onlyAsReference", "(C)Z"⟩ : MethodName)) (z := (⟨"com/example/nestdb/nestdb/store/XmlVersion", "onlyAsReference", "(C)Z"⟩ : MethodName)) hown (mvT hZ (hw _ (List.mem_of_getElem? (i := 3) rfl))) (mvT hZ (hw _ (List.mem_of_getElem? (i := 4) rfl))) (notFace_of_selects (args := #[]) (mvT hZ (hw _ (List.mem_of_getElem? (i := 6) rfl)))) (mvT hZ (hw _ (List.mem_of_getElem? (i := 6) rfl))) (mvT hZ (hw _ (List.mem_of_getElem? (i := 5) rfl))) (by decide) (backOf (W := 0) (rm1 l Z a0 hw [] w_XML_1_1 (p2.toUInt32.toUInt16.toUInt32.toInt32) w_XML_1_1 h0 n0 Z0 S_XML_1_1) hZ (hw _ (List.mem_of_getElem? (i := 7) rfl)) (hw _ (List.mem_of_getElem? (i := 1) rfl)) (by decide) (by decide)) q5a q5c (g := (mkF m 60 #[.val (.int p1), .val (.int p2), .val (.int (1 : Int32)), .val (.int (0 : Int32)), .val (.ref w_XML_1_1), .val (.int (p2.toUInt32.toUInt16.toUInt32.toInt32))] [(.int (p2.toUInt32.toUInt16.toUInt32.toInt32)), (.ref w_XML_1_1)])) rfl (by rw [hml]; rfl) (Steps.refl _) (argsL := [(.int (p2.toUInt32.toUInt16.toUInt32.toInt32))]) (rest := []) (lenOf pd_0_0 rfl) rfl (by show 2 * 0 + _ ≤ _; exact Nat.le_of_eq rfl) (hb hby at_60) (fun _ _ => ⟨rfl, e4, (by decide : 0 + 0 ≤ _), (by decide : 0 + 0 ≤ _)⟩)
  dsimp only [Pt.U, Pt.locs, Pt.cells, Pt.slots] at X5 l5 y5 z5 st5 hQ5
  subst l5 y5 z5
  obtain ⟨rfl, N5q, e5q⟩ := hQ5
  have N5 := Fr.app N0 N5q
  have Z5 : n0 ≤ T5.heap.size := by rw [e5q]; exact Z0
  have Kq5 : Keep h0 T5.heap [] := by rw [e5q]; exact Keep.refl _ _
  obtain ⟨_, _, ⟨T6, L6, k6, n6⟩, -, X6, ⟨Lc6, hQ6, l6, y6, z6⟩, st6⟩ := Jvm.LawKit.callS X5 hx (y := (⟨"com/example/nestdb/nestdb/store/XmlVersionOnlyAsReferencePinLaw", "expected", "(ZC)Z"⟩ : MethodName)) hown (mvT hZ (hw _ (List.mem_of_getElem? (i := 10) rfl))) (mvT hZ (hw _ (List.mem_of_getElem? (i := 11) rfl))) (mvT hZ (hw _ (List.mem_of_getElem? (i := 12) rfl))) (mvT hZ (hw _ (List.mem_of_getElem? (i := 13) rfl))) (by decide) (backOf (W := 1) (rm2 l Z a0 hw [] (1 : Int32) (p2.toUInt32.toUInt16.toUInt32.toInt32)  T5.heap n0 Z5) hZ (hw _ (List.mem_of_getElem? (i := 13) rfl)) (hw _ (List.mem_of_getElem? (i := 12) rfl)) (by decide) (by decide)) (g := (mkF m 66 #[.val (.int p1), .val (.int p2), .val (.int (1 : Int32)), .val (.int (0 : Int32)), .val (.ref w_XML_1_1), .val (.int (p2.toUInt32.toUInt16.toUInt32.toInt32))] [(.int (p2.toUInt32.toUInt16.toUInt32.toInt32)), (.int (1 : Int32)), (.int (F1_0 w_XML_1_1 (p2.toUInt32.toUInt16.toUInt32.toInt32) w_XML_1_1))])) rfl (by rw [hml]; rfl) (argsL := [(.int (1 : Int32)), (.int (p2.toUInt32.toUInt16.toUInt32.toInt32))]) (rest := [(.int (F1_0 w_XML_1_1 (p2.toUInt32.toUInt16.toUInt32.toInt32) w_XML_1_1))]) (lenOf pd_0_1 rfl) rfl (by show 2 * 0 + _ ≤ _; exact Nat.le_of_eq rfl) (hb hby at_66) (fun _ _ => ⟨rfl, rfl, (by decide : 0 + 0 ≤ _), (by decide : 0 + 0 ≤ _)⟩)
  dsimp only [Pt.U, Pt.locs, Pt.cells, Pt.slots] at X6 l6 y6 z6 st6 hQ6
  subst l6 y6 z6
  obtain ⟨rfl, N6q, e6q⟩ := hQ6
  have N6 := Fr.app N5 N6q
  have Z6 : n0 ≤ T6.heap.size := by rw [e6q]; exact Z5
  have Kq6 : Keep T5.heap T6.heap [] := by rw [e6q]; exact Keep.refl _ _
  obtain ⟨fs, hr, hrun, hended, hW, hsame⟩ := X6.leave (v := some (.int (1 : Int32))) (fun h => by rw [Bd.returns] at h; cases h) Bd.notSynchronized
  refine ⟨_, _, pre0 _ ?_, hrun, hended, _, _, rfl, ?_, ⟨_, rfl⟩, hW, hsame.mono (by decide) (by decide)⟩
  · show Steps p.tables e below (s₁.setTop (mkF m 0 #[.val (.int p1), .val (.int p2), .unset, .unset, .unset, .unset] [])) _
    refine XS.iloadN X0.here hx rfl (hb hby at_0) rfl ?_
    show Steps p.tables e below (s₁.setTop (mkF m 1 #[.val (.int p1), .val (.int p2), .unset, .unset, .unset, .unset] [(.int p1)])) _
    refine XS.iconst X0.here hx rfl (hb hby at_1) ?_
    show Steps p.tables e below (s₁.setTop (mkF m 2 #[.val (.int p1), .val (.int p2), .unset, .unset, .unset, .unset] [(.int (1 : Int32)), (.int p1)])) _
    refine XS.iand X0.here hx rfl (hb hby at_2) rfl ?_
    show Steps p.tables e below (s₁.setTop (mkF m 3 #[.val (.int p1), .val (.int p2), .unset, .unset, .unset, .unset] [(.int (p1 &&& (1 : Int32)))])) _
    refine XS.ifNo X0.here hx rfl (hb hby at_3) rfl ((if0 _ _).trans (feq hc3).1) ?_
    show Steps p.tables e below (s₁.setTop (mkF m 6 #[.val (.int p1), .val (.int p2), .unset, .unset, .unset, .unset] [])) _
    refine XS.iconst X0.here hx rfl (hb hby at_6) ?_
    show Steps p.tables e below (s₁.setTop (mkF m 7 #[.val (.int p1), .val (.int p2), .unset, .unset, .unset, .unset] [(.int (1 : Int32))])) _
    refine XS.goto X0.here hx rfl (pc0 := 7) (pc' := 11) rfl (hb hby at_7) (by decide) (by decide) ?_
    show Steps p.tables e below (s₁.setTop (mkF m 11 #[.val (.int p1), .val (.int p2), .unset, .unset, .unset, .unset] [(.int (1 : Int32))])) _
    refine XS.istoreN X0.here hx rfl (hb hby at_11) rfl (l' := #[.val (.int p1), .val (.int p2), .val (.int (1 : Int32)), .unset, .unset, .unset]) rfl ?_
    show Steps p.tables e below (s₁.setTop (mkF m 12 #[.val (.int p1), .val (.int p2), .val (.int (1 : Int32)), .unset, .unset, .unset] [])) _
    refine XS.iloadN X0.here hx rfl (hb hby at_12) rfl ?_
    show Steps p.tables e below (s₁.setTop (mkF m 13 #[.val (.int p1), .val (.int p2), .val (.int (1 : Int32)), .unset, .unset, .unset] [(.int p1)])) _
    refine XS.iconst X0.here hx rfl (hb hby at_13) ?_
    show Steps p.tables e below (s₁.setTop (mkF m 14 #[.val (.int p1), .val (.int p2), .val (.int (1 : Int32)), .unset, .unset, .unset] [(.int (2 : Int32)), (.int p1)])) _
    refine XS.iand X0.here hx rfl (hb hby at_14) rfl ?_
    show Steps p.tables e below (s₁.setTop (mkF m 15 #[.val (.int p1), .val (.int p2), .val (.int (1 : Int32)), .unset, .unset, .unset] [(.int (p1 &&& (2 : Int32)))])) _
    refine XS.ifYes X0.here hx rfl (pc0 := 15) (pc' := 22) rfl (hb hby at_15) rfl ((if0 _ _).trans (teq hc15).1) (by decide) (by decide) ?_
    show Steps p.tables e below (s₁.setTop (mkF m 22 #[.val (.int p1), .val (.int p2), .val (.int (1 : Int32)), .unset, .unset, .unset] [])) _
    refine XS.iconst X0.here hx rfl (hb hby at_22) ?_
    show Steps p.tables e below (s₁.setTop (mkF m 23 #[.val (.int p1), .val (.int p2), .val (.int (1 : Int32)), .unset, .unset, .unset] [(.int (0 : Int32))])) _
    refine XS.istoreN X0.here hx rfl (hb hby at_23) rfl (l' := #[.val (.int p1), .val (.int p2), .val (.int (1 : Int32)), .val (.int (0 : Int32)), .unset, .unset]) rfl ?_
    show Steps p.tables e below (s₁.setTop (mkF m 24 #[.val (.int p1), .val (.int p2), .val (.int (1 : Int32)), .val (.int (0 : Int32)), .unset, .unset] [])) _
    refine XS.iloadN X0.here hx rfl (hb hby at_24) rfl ?_
    show Steps p.tables e below (s₁.setTop (mkF m 25 #[.val (.int p1), .val (.int p2), .val (.int (1 : Int32)), .val (.int (0 : Int32)), .unset, .unset] [(.int (1 : Int32))])) _
    refine XS.ifNo X0.here hx rfl (hb hby at_25) rfl ((if0 _ _).trans (feq hc25).1) ?_
    show Steps p.tables e below (s₁.setTop (mkF m 28 #[.val (.int p1), .val (.int p2), .val (.int (1 : Int32)), .val (.int (0 : Int32)), .unset, .unset] [])) _
    refine st4 _ ?_
    show Steps p.tables e below (T4.setTop (mkF m 31 #[.val (.int p1), .val (.int p2), .val (.int (1 : Int32)), .val (.int (0 : Int32)), .unset, .unset] [(.ref w_XML_1_1)])) _
    refine XS.goto X4.here hx rfl (pc0 := 31) (pc' := 37) rfl (hb hby at_31) (by decide) (by decide) ?_
    show Steps p.tables e below (T4.setTop (mkF m 37 #[.val (.int p1), .val (.int p2), .val (.int (1 : Int32)), .val (.int (0 : Int32)), .unset, .unset] [(.ref w_XML_1_1)])) _
    refine XS.astore X4.here hx rfl (hb hby at_37) rfl rfl (l' := #[.val (.int p1), .val (.int p2), .val (.int (1 : Int32)), .val (.int (0 : Int32)), .val (.ref w_XML_1_1), .unset]) rfl ?_
    show Steps p.tables e below (T4.setTop (mkF m 39 #[.val (.int p1), .val (.int p2), .val (.int (1 : Int32)), .val (.int (0 : Int32)), .val (.ref w_XML_1_1), .unset] [])) _
    refine XS.iloadN X4.here hx rfl (hb hby at_39) rfl ?_
    show Steps p.tables e below (T4.setTop (mkF m 40 #[.val (.int p1), .val (.int p2), .val (.int (1 : Int32)), .val (.int (0 : Int32)), .val (.ref w_XML_1_1), .unset] [(.int (0 : Int32))])) _
    refine XS.ifYes X4.here hx rfl (pc0 := 40) (pc' := 52) rfl (hb hby at_40) rfl ((if0 _ _).trans (teq (rfl : (0 : Int32) = (0 : Int32))).1) (by decide) (by decide) ?_
    show Steps p.tables e below (T4.setTop (mkF m 52 #[.val (.int p1), .val (.int p2), .val (.int (1 : Int32)), .val (.int (0 : Int32)), .val (.ref w_XML_1_1), .unset] [])) _
    refine XS.iloadN X4.here hx rfl (hb hby at_52) rfl ?_
    show Steps p.tables e below (T4.setTop (mkF m 53 #[.val (.int p1), .val (.int p2), .val (.int (1 : Int32)), .val (.int (0 : Int32)), .val (.ref w_XML_1_1), .unset] [(.int p2)])) _
    refine XS.i2c X4.here hx rfl (hb hby at_53) rfl ?_
    show Steps p.tables e below (T4.setTop (mkF m 54 #[.val (.int p1), .val (.int p2), .val (.int (1 : Int32)), .val (.int (0 : Int32)), .val (.ref w_XML_1_1), .unset] [(.int (p2.toUInt32.toUInt16.toUInt32.toInt32))])) _
    refine XS.istore X4.here hx rfl (hb hby at_54) rfl (l' := #[.val (.int p1), .val (.int p2), .val (.int (1 : Int32)), .val (.int (0 : Int32)), .val (.ref w_XML_1_1), .val (.int (p2.toUInt32.toUInt16.toUInt32.toInt32))]) rfl ?_
    show Steps p.tables e below (T4.setTop (mkF m 56 #[.val (.int p1), .val (.int p2), .val (.int (1 : Int32)), .val (.int (0 : Int32)), .val (.ref w_XML_1_1), .val (.int (p2.toUInt32.toUInt16.toUInt32.toInt32))] [])) _
    refine XS.aload X4.here hx rfl (hb hby at_56) rfl rfl ?_
    show Steps p.tables e below (T4.setTop (mkF m 58 #[.val (.int p1), .val (.int p2), .val (.int (1 : Int32)), .val (.int (0 : Int32)), .val (.ref w_XML_1_1), .val (.int (p2.toUInt32.toUInt16.toUInt32.toInt32))] [(.ref w_XML_1_1)])) _
    refine XS.iload X4.here hx rfl (hb hby at_58) rfl ?_
    show Steps p.tables e below (T4.setTop (mkF m 60 #[.val (.int p1), .val (.int p2), .val (.int (1 : Int32)), .val (.int (0 : Int32)), .val (.ref w_XML_1_1), .val (.int (p2.toUInt32.toUInt16.toUInt32.toInt32))] [(.int (p2.toUInt32.toUInt16.toUInt32.toInt32)), (.ref w_XML_1_1)])) _
    refine st5.trans ?_
    show Steps p.tables e below (T5.setTop (mkF m 63 #[.val (.int p1), .val (.int p2), .val (.int (1 : Int32)), .val (.int (0 : Int32)), .val (.ref w_XML_1_1), .val (.int (p2.toUInt32.toUInt16.toUInt32.toInt32))] [(.int (F1_0 w_XML_1_1 (p2.toUInt32.toUInt16.toUInt32.toInt32) w_XML_1_1))])) _
    refine XS.iloadN X5.here hx rfl (hb hby at_63) rfl ?_
    show Steps p.tables e below (T5.setTop (mkF m 64 #[.val (.int p1), .val (.int p2), .val (.int (1 : Int32)), .val (.int (0 : Int32)), .val (.ref w_XML_1_1), .val (.int (p2.toUInt32.toUInt16.toUInt32.toInt32))] [(.int (1 : Int32)), (.int (F1_0 w_XML_1_1 (p2.toUInt32.toUInt16.toUInt32.toInt32) w_XML_1_1))])) _
    refine XS.iload X5.here hx rfl (hb hby at_64) rfl ?_
    show Steps p.tables e below (T5.setTop (mkF m 66 #[.val (.int p1), .val (.int p2), .val (.int (1 : Int32)), .val (.int (0 : Int32)), .val (.ref w_XML_1_1), .val (.int (p2.toUInt32.toUInt16.toUInt32.toInt32))] [(.int (p2.toUInt32.toUInt16.toUInt32.toInt32)), (.int (1 : Int32)), (.int (F1_0 w_XML_1_1 (p2.toUInt32.toUInt16.toUInt32.toInt32) w_XML_1_1))])) _
    refine st6 _ ?_
    show Steps p.tables e below (T6.setTop (mkF m 69 #[.val (.int p1), .val (.int p2), .val (.int (1 : Int32)), .val (.int (0 : Int32)), .val (.ref w_XML_1_1), .val (.int (p2.toUInt32.toUInt16.toUInt32.toInt32))] [(.int (F2_0 (1 : Int32) (p2.toUInt32.toUInt16.toUInt32.toInt32))), (.int (F1_0 w_XML_1_1 (p2.toUInt32.toUInt16.toUInt32.toInt32) w_XML_1_1))])) _
    refine XS.icmpNo X6.here hx rfl (hb hby at_69) rfl (teq hk69).2 ?_
    show Steps p.tables e below (T6.setTop (mkF m 72 #[.val (.int p1), .val (.int p2), .val (.int (1 : Int32)), .val (.int (0 : Int32)), .val (.ref w_XML_1_1), .val (.int (p2.toUInt32.toUInt16.toUInt32.toInt32))] [])) _
    refine XS.iconst X6.here hx rfl (hb hby at_72) ?_
    show Steps p.tables e below (T6.setTop (mkF m 73 #[.val (.int p1), .val (.int p2), .val (.int (1 : Int32)), .val (.int (0 : Int32)), .val (.ref w_XML_1_1), .val (.int (p2.toUInt32.toUInt16.toUInt32.toInt32))] [(.int (1 : Int32))])) _
    refine XS.goto X6.here hx rfl (pc0 := 73) (pc' := 77) rfl (hb hby at_73) (by decide) (by decide) ?_
    show Steps p.tables e below (T6.setTop (mkF m 77 #[.val (.int p1), .val (.int p2), .val (.int (1 : Int32)), .val (.int (0 : Int32)), .val (.ref w_XML_1_1), .val (.int (p2.toUInt32.toUInt16.toUInt32.toInt32))] [(.int (1 : Int32))])) _
    exact retN X6 hx (t := .boolean) Bd.returns (by simp) (hb hby at_77) hr
  · show Q0 Z p1 p2 w_XML_1_0 w_XML_1_1 h0 n0 _ T6.heap _
    exact ⟨rfl, N6⟩
set_option maxRecDepth 65536 in
set_option maxHeartbeats 40000000 in
theorem rm0_tftff (l : Launch) (Z : State) (a0 : Array Value) (hw : ∀ d ∈ tables_1, d.before a0 Z = true) (ws : List Jvm.Cond) (p1 : Int32) (p2 : Int32) (w_XML_1_0 : Addr) (w_XML_1_1 : Addr) (h0 : Heap) (n0 : Nat) (Z0 : n0 ≤ h0.size) (S_XML_1_0 : Sta Z h0 "com/example/nestdb/nestdb/store/XmlVersion" "XML_1_0" "Lcom/example/nestdb/nestdb/store/XmlVersion;" (.ref w_XML_1_0)) (S_XML_1_1 : Sta Z h0 "com/example/nestdb/nestdb/store/XmlVersion" "XML_1_1" "Lcom/example/nestdb/nestdb/store/XmlVersion;" (.ref w_XML_1_1)) (E_w_XML_1_0 : Exa Z h0 w_XML_1_0 "com/example/nestdb/nestdb/store/XmlVersion") (E_w_XML_1_1 : Exa Z h0 w_XML_1_1 "com/example/nestdb/nestdb/store/XmlVersion") (hc3 : (p1 &&& (1 : Int32)) = (0 : Int32)) (hc15 : ¬ ((p1 &&& (2 : Int32)) = (0 : Int32))) (hc40 : ¬ ((1 : Int32) = (0 : Int32))) (hk69 : (F1_0 w_XML_1_0 ((p2 &&& (255 : Int32)).toUInt32.toUInt16.toUInt32.toInt32) w_XML_1_1) = (F2_0 (0 : Int32) ((p2 &&& (255 : Int32)).toUInt32.toUInt16.toUInt32.toInt32))) :
    MetFree l x (head1 (Jvm.Cond.code x code maxLocals ret :: ws) room_1) (fun a U => a = #[(.int p1), (.int p2)] ∧ Z.Warmed39 U.vm ∧ U.heap = h0) (fun _ _ _ _ _ => True) (fun _ U o U' => ∃ v L, o = .returned v ∧ Q0 Z p1 p2 w_XML_1_0 w_XML_1_1 h0 n0 v U'.heap L ∧ FrameEnd U o U' L room_1.cells room_1.slots) := by
  refine MetFree.of_bodySF (plainFor_of_name pn_0) hisR ?_
  intro p e s m args below meth c s₁ Bd hml0 hP hK
  obtain ⟨rfl, hZ, hh⟩ := hP
  have hx := Bd.exec
  have hby := Bd.bytes
  have hml : c.maxLocals = 6 := hml0
  have hown : s.vm.findClass "com/example/nestdb/nestdb/store/XmlVersionOnlyAsReferencePinLaw" = some m.cls := findClass_of_methodNamed Bd.named
  have hnm := (name_of_methodNamed Bd.named Bd.method).1
  have X0 : Stand p l e room_1 s m #[(.int p1), (.int p2)] below meth c s₁ [] 0 0 := Stand.of_body Bd
  have e0 : s₁.heap = h0 := by rw [← hh, Bd.state]; rfl
  have N0 := Fr.nil n0
  have pre0 : ∀ t, Steps p.tables e below (s₁.setTop (mkF m 0 #[.val (.int p1), .val (.int p2), .unset, .unset, .unset, .unset] [])) t → Steps p.tables e below (s₁.setTop (entryFrame m #[(.int p1), (.int p2)] maxLocals)) t := fun t k => castTop (ef_0 m p1 p2) k
  obtain ⟨T4, X4, e4, st4⟩ := getS2 X0 hx hZ hown (host := "") (Or.inl (hw _ (List.mem_of_getElem? (i := 0) rfl))) Via.refl e0 S_XML_1_0 (g := (mkF m 34 #[.val (.int p1), .val (.int p2), .val (.int (0 : Int32)), .val (.int (1 : Int32)), .unset, .unset] [])) rfl (hb hby at_34)
  obtain ⟨cq5, kq5, q5a, q5b, q5c⟩ := isOf hZ e4 E_w_XML_1_0
  obtain ⟨_, _, ⟨T5, L5, k5, n5⟩, -, X5, ⟨Lc5, hQ5, l5, y5, z5⟩, st5⟩ := X4.virtualBack hx (y := (⟨"com/example/nestdb/nestdb/store/XmlVersion", "onlyAsReference", "(C)Z"⟩ : MethodName)) (z := (⟨"com/example/nestdb/nestdb/store/XmlVersion", "onlyAsReference", "(C)Z"⟩ : MethodName)) hown (mvT hZ (hw _ (List.mem_of_getElem? (i := 3) rfl))) (mvT hZ (hw _ (List.mem_of_getElem? (i := 4) rfl))) (notFace_of_selects (args := #[]) (mvT hZ (hw _ (List.mem_of_getElem? (i := 6) rfl)))) (mvT hZ (hw _ (List.mem_of_getElem? (i := 6) rfl))) (mvT hZ (hw _ (List.mem_of_getElem? (i := 5) rfl))) (by decide) (backOf (W := 0) (rm1 l Z a0 hw [] w_XML_1_0 ((p2 &&& (255 : Int32)).toUInt32.toUInt16.toUInt32.toInt32) w_XML_1_1 h0 n0 Z0 S_XML_1_1) hZ (hw _ (List.mem_of_getElem? (i := 7) rfl)) (hw _ (List.mem_of_getElem? (i := 1) rfl)) (by decide) (by decide)) q5a q5c (g := (mkF m 60 #[.val (.int p1), .val (.int p2), .val (.int (0 : Int32)), .val (.int (1 : Int32)), .val (.ref w_XML_1_0), .val (.int ((p2 &&& (255 : Int32)).toUInt32.toUInt16.toUInt32.toInt32))] [(.int ((p2 &&& (255 : Int32)).toUInt32.toUInt16.toUInt32.toInt32)), (.ref w_XML_1_0)])) rfl (by rw [hml]; rfl) (Steps.refl _) (argsL := [(.int ((p2 &&& (255 : Int32)).toUInt32.toUInt16.toUInt32.toInt32))]) (rest := []) (lenOf pd_0_0 rfl) rfl (by show 2 * 0 + _ ≤ _; exact Nat.le_of_eq rfl) (hb hby at_60) (fun _ _ => ⟨rfl, e4, (by decide : 0 + 0 ≤ _), (by decide : 0 + 0 ≤ _)⟩)
  dsimp only [Pt.U, Pt.locs, Pt.cells, Pt.slots] at X5 l5 y5 z5 st5 hQ5
  subst l5 y5 z5
  obtain ⟨rfl, N5q, e5q⟩ := hQ5
  have N5 := Fr.app N0 N5q
  have Z5 : n0 ≤ T5.heap.size := by rw [e5q]; exact Z0
  have Kq5 : Keep h0 T5.heap [] := by rw [e5q]; exact Keep.refl _ _
  obtain ⟨_, _, ⟨T6, L6, k6, n6⟩, -, X6, ⟨Lc6, hQ6, l6, y6, z6⟩, st6⟩ := Jvm.LawKit.callS X5 hx (y := (⟨"com/example/nestdb/nestdb/store/XmlVersionOnlyAsReferencePinLaw", "expected", "(ZC)Z"⟩ : MethodName)) hown (mvT hZ (hw _ (List.mem_of_getElem? (i := 10) rfl))) (mvT hZ (hw _ (List.mem_of_getElem? (i := 11) rfl))) (mvT hZ (hw _ (List.mem_of_getElem? (i := 12) rfl))) (mvT hZ (hw _ (List.mem_of_getElem? (i := 13) rfl))) (by decide) (backOf (W := 1) (rm2 l Z a0 hw [] (0 : Int32) ((p2 &&& (255 : Int32)).toUInt32.toUInt16.toUInt32.toInt32)  T5.heap n0 Z5) hZ (hw _ (List.mem_of_getElem? (i := 13) rfl)) (hw _ (List.mem_of_getElem? (i := 12) rfl)) (by decide) (by decide)) (g := (mkF m 66 #[.val (.int p1), .val (.int p2), .val (.int (0 : Int32)), .val (.int (1 : Int32)), .val (.ref w_XML_1_0), .val (.int ((p2 &&& (255 : Int32)).toUInt32.toUInt16.toUInt32.toInt32))] [(.int ((p2 &&& (255 : Int32)).toUInt32.toUInt16.toUInt32.toInt32)), (.int (0 : Int32)), (.int (F1_0 w_XML_1_0 ((p2 &&& (255 : Int32)).toUInt32.toUInt16.toUInt32.toInt32) w_XML_1_1))])) rfl (by rw [hml]; rfl) (argsL := [(.int (0 : Int32)), (.int ((p2 &&& (255 : Int32)).toUInt32.toUInt16.toUInt32.toInt32))]) (rest := [(.int (F1_0 w_XML_1_0 ((p2 &&& (255 : Int32)).toUInt32.toUInt16.toUInt32.toInt32) w_XML_1_1))]) (lenOf pd_0_1 rfl) rfl (by show 2 * 0 + _ ≤ _; exact Nat.le_of_eq rfl) (hb hby at_66) (fun _ _ => ⟨rfl, rfl, (by decide : 0 + 0 ≤ _), (by decide : 0 + 0 ≤ _)⟩)
  dsimp only [Pt.U, Pt.locs, Pt.cells, Pt.slots] at X6 l6 y6 z6 st6 hQ6
  subst l6 y6 z6
  obtain ⟨rfl, N6q, e6q⟩ := hQ6
  have N6 := Fr.app N5 N6q
  have Z6 : n0 ≤ T6.heap.size := by rw [e6q]; exact Z5
  have Kq6 : Keep T5.heap T6.heap [] := by rw [e6q]; exact Keep.refl _ _
  obtain ⟨fs, hr, hrun, hended, hW, hsame⟩ := X6.leave (v := some (.int (1 : Int32))) (fun h => by rw [Bd.returns] at h; cases h) Bd.notSynchronized
  refine ⟨_, _, pre0 _ ?_, hrun, hended, _, _, rfl, ?_, ⟨_, rfl⟩, hW, hsame.mono (by decide) (by decide)⟩
  · show Steps p.tables e below (s₁.setTop (mkF m 0 #[.val (.int p1), .val (.int p2), .unset, .unset, .unset, .unset] [])) _
    refine XS.iloadN X0.here hx rfl (hb hby at_0) rfl ?_
    show Steps p.tables e below (s₁.setTop (mkF m 1 #[.val (.int p1), .val (.int p2), .unset, .unset, .unset, .unset] [(.int p1)])) _
    refine XS.iconst X0.here hx rfl (hb hby at_1) ?_
    show Steps p.tables e below (s₁.setTop (mkF m 2 #[.val (.int p1), .val (.int p2), .unset, .unset, .unset, .unset] [(.int (1 : Int32)), (.int p1)])) _
    refine XS.iand X0.here hx rfl (hb hby at_2) rfl ?_
    show Steps p.tables e below (s₁.setTop (mkF m 3 #[.val (.int p1), .val (.int p2), .unset, .unset, .unset, .unset] [(.int (p1 &&& (1 : Int32)))])) _
    refine XS.ifYes X0.here hx rfl (pc0 := 3) (pc' := 10) rfl (hb hby at_3) rfl ((if0 _ _).trans (teq hc3).1) (by decide) (by decide) ?_
    show Steps p.tables e below (s₁.setTop (mkF m 10 #[.val (.int p1), .val (.int p2), .unset, .unset, .unset, .unset] [])) _
    refine XS.iconst X0.here hx rfl (hb hby at_10) ?_
    show Steps p.tables e below (s₁.setTop (mkF m 11 #[.val (.int p1), .val (.int p2), .unset, .unset, .unset, .unset] [(.int (0 : Int32))])) _
    refine XS.istoreN X0.here hx rfl (hb hby at_11) rfl (l' := #[.val (.int p1), .val (.int p2), .val (.int (0 : Int32)), .unset, .unset, .unset]) rfl ?_
    show Steps p.tables e below (s₁.setTop (mkF m 12 #[.val (.int p1), .val (.int p2), .val (.int (0 : Int32)), .unset, .unset, .unset] [])) _
    refine XS.iloadN X0.here hx rfl (hb hby at_12) rfl ?_
    show Steps p.tables e below (s₁.setTop (mkF m 13 #[.val (.int p1), .val (.int p2), .val (.int (0 : Int32)), .unset, .unset, .unset] [(.int p1)])) _
    refine XS.iconst X0.here hx rfl (hb hby at_13) ?_
    show Steps p.tables e below (s₁.setTop (mkF m 14 #[.val (.int p1), .val (.int p2), .val (.int (0 : Int32)), .unset, .unset, .unset] [(.int (2 : Int32)), (.int p1)])) _
    refine XS.iand X0.here hx rfl (hb hby at_14) rfl ?_
    show Steps p.tables e below (s₁.setTop (mkF m 15 #[.val (.int p1), .val (.int p2), .val (.int (0 : Int32)), .unset, .unset, .unset] [(.int (p1 &&& (2 : Int32)))])) _
    refine XS.ifNo X0.here hx rfl (hb hby at_15) rfl ((if0 _ _).trans (feq hc15).1) ?_
    show Steps p.tables e below (s₁.setTop (mkF m 18 #[.val (.int p1), .val (.int p2), .val (.int (0 : Int32)), .unset, .unset, .unset] [])) _
    refine XS.iconst X0.here hx rfl (hb hby at_18) ?_
    show Steps p.tables e below (s₁.setTop (mkF m 19 #[.val (.int p1), .val (.int p2), .val (.int (0 : Int32)), .unset, .unset, .unset] [(.int (1 : Int32))])) _
    refine XS.goto X0.here hx rfl (pc0 := 19) (pc' := 23) rfl (hb hby at_19) (by decide) (by decide) ?_
    show Steps p.tables e below (s₁.setTop (mkF m 23 #[.val (.int p1), .val (.int p2), .val (.int (0 : Int32)), .unset, .unset, .unset] [(.int (1 : Int32))])) _
    refine XS.istoreN X0.here hx rfl (hb hby at_23) rfl (l' := #[.val (.int p1), .val (.int p2), .val (.int (0 : Int32)), .val (.int (1 : Int32)), .unset, .unset]) rfl ?_
    show Steps p.tables e below (s₁.setTop (mkF m 24 #[.val (.int p1), .val (.int p2), .val (.int (0 : Int32)), .val (.int (1 : Int32)), .unset, .unset] [])) _
    refine XS.iloadN X0.here hx rfl (hb hby at_24) rfl ?_
    show Steps p.tables e below (s₁.setTop (mkF m 25 #[.val (.int p1), .val (.int p2), .val (.int (0 : Int32)), .val (.int (1 : Int32)), .unset, .unset] [(.int (0 : Int32))])) _
    refine XS.ifYes X0.here hx rfl (pc0 := 25) (pc' := 34) rfl (hb hby at_25) rfl ((if0 _ _).trans (teq (rfl : (0 : Int32) = (0 : Int32))).1) (by decide) (by decide) ?_
    show Steps p.tables e below (s₁.setTop (mkF m 34 #[.val (.int p1), .val (.int p2), .val (.int (0 : Int32)), .val (.int (1 : Int32)), .unset, .unset] [])) _
    refine st4 _ ?_
    show Steps p.tables e below (T4.setTop (mkF m 37 #[.val (.int p1), .val (.int p2), .val (.int (0 : Int32)), .val (.int (1 : Int32)), .unset, .unset] [(.ref w_XML_1_0)])) _
    refine XS.astore X4.here hx rfl (hb hby at_37) rfl rfl (l' := #[.val (.int p1), .val (.int p2), .val (.int (0 : Int32)), .val (.int (1 : Int32)), .val (.ref w_XML_1_0), .unset]) rfl ?_
    show Steps p.tables e below (T4.setTop (mkF m 39 #[.val (.int p1), .val (.int p2), .val (.int (0 : Int32)), .val (.int (1 : Int32)), .val (.ref w_XML_1_0), .unset] [])) _
    refine XS.iloadN X4.here hx rfl (hb hby at_39) rfl ?_
    show Steps p.tables e below (T4.setTop (mkF m 40 #[.val (.int p1), .val (.int p2), .val (.int (0 : Int32)), .val (.int (1 : Int32)), .val (.ref w_XML_1_0), .unset] [(.int (1 : Int32))])) _
    refine XS.ifNo X4.here hx rfl (hb hby at_40) rfl ((if0 _ _).trans (feq hc40).1) ?_
    show Steps p.tables e below (T4.setTop (mkF m 43 #[.val (.int p1), .val (.int p2), .val (.int (0 : Int32)), .val (.int (1 : Int32)), .val (.ref w_XML_1_0), .unset] [])) _
    refine XS.iloadN X4.here hx rfl (hb hby at_43) rfl ?_
    show Steps p.tables e below (T4.setTop (mkF m 44 #[.val (.int p1), .val (.int p2), .val (.int (0 : Int32)), .val (.int (1 : Int32)), .val (.ref w_XML_1_0), .unset] [(.int p2)])) _
    refine XS.sipush X4.here hx rfl (hb hby at_44) ?_
    show Steps p.tables e below (T4.setTop (mkF m 47 #[.val (.int p1), .val (.int p2), .val (.int (0 : Int32)), .val (.int (1 : Int32)), .val (.ref w_XML_1_0), .unset] [(.int (255 : Int32)), (.int p2)])) _
    refine XS.iand X4.here hx rfl (hb hby at_47) rfl ?_
    show Steps p.tables e below (T4.setTop (mkF m 48 #[.val (.int p1), .val (.int p2), .val (.int (0 : Int32)), .val (.int (1 : Int32)), .val (.ref w_XML_1_0), .unset] [(.int (p2 &&& (255 : Int32)))])) _
    refine XS.i2c X4.here hx rfl (hb hby at_48) rfl ?_
    show Steps p.tables e below (T4.setTop (mkF m 49 #[.val (.int p1), .val (.int p2), .val (.int (0 : Int32)), .val (.int (1 : Int32)), .val (.ref w_XML_1_0), .unset] [(.int ((p2 &&& (255 : Int32)).toUInt32.toUInt16.toUInt32.toInt32))])) _
    refine XS.goto X4.here hx rfl (pc0 := 49) (pc' := 54) rfl (hb hby at_49) (by decide) (by decide) ?_
    show Steps p.tables e below (T4.setTop (mkF m 54 #[.val (.int p1), .val (.int p2), .val (.int (0 : Int32)), .val (.int (1 : Int32)), .val (.ref w_XML_1_0), .unset] [(.int ((p2 &&& (255 : Int32)).toUInt32.toUInt16.toUInt32.toInt32))])) _
    refine XS.istore X4.here hx rfl (hb hby at_54) rfl (l' := #[.val (.int p1), .val (.int p2), .val (.int (0 : Int32)), .val (.int (1 : Int32)), .val (.ref w_XML_1_0), .val (.int ((p2 &&& (255 : Int32)).toUInt32.toUInt16.toUInt32.toInt32))]) rfl ?_
    show Steps p.tables e below (T4.setTop (mkF m 56 #[.val (.int p1), .val (.int p2), .val (.int (0 : Int32)), .val (.int (1 : Int32)), .val (.ref w_XML_1_0), .val (.int ((p2 &&& (255 : Int32)).toUInt32.toUInt16.toUInt32.toInt32))] [])) _
    refine XS.aload X4.here hx rfl (hb hby at_56) rfl rfl ?_
    show Steps p.tables e below (T4.setTop (mkF m 58 #[.val (.int p1), .val (.int p2), .val (.int (0 : Int32)), .val (.int (1 : Int32)), .val (.ref w_XML_1_0), .val (.int ((p2 &&& (255 : Int32)).toUInt32.toUInt16.toUInt32.toInt32))] [(.ref w_XML_1_0)])) _
    refine XS.iload X4.here hx rfl (hb hby at_58) rfl ?_
    show Steps p.tables e below (T4.setTop (mkF m 60 #[.val (.int p1), .val (.int p2), .val (.int (0 : Int32)), .val (.int (1 : Int32)), .val (.ref w_XML_1_0), .val (.int ((p2 &&& (255 : Int32)).toUInt32.toUInt16.toUInt32.toInt32))] [(.int ((p2 &&& (255 : Int32)).toUInt32.toUInt16.toUInt32.toInt32)), (.ref w_XML_1_0)])) _
    refine st5.trans ?_
    show Steps p.tables e below (T5.setTop (mkF m 63 #[.val (.int p1), .val (.int p2), .val (.int (0 : Int32)), .val (.int (1 : Int32)), .val (.ref w_XML_1_0), .val (.int ((p2 &&& (255 : Int32)).toUInt32.toUInt16.toUInt32.toInt32))] [(.int (F1_0 w_XML_1_0 ((p2 &&& (255 : Int32)).toUInt32.toUInt16.toUInt32.toInt32) w_XML_1_1))])) _
    refine XS.iloadN X5.here hx rfl (hb hby at_63) rfl ?_
    show Steps p.tables e below (T5.setTop (mkF m 64 #[.val (.int p1), .val (.int p2), .val (.int (0 : Int32)), .val (.int (1 : Int32)), .val (.ref w_XML_1_0), .val (.int ((p2 &&& (255 : Int32)).toUInt32.toUInt16.toUInt32.toInt32))] [(.int (0 : Int32)), (.int (F1_0 w_XML_1_0 ((p2 &&& (255 : Int32)).toUInt32.toUInt16.toUInt32.toInt32) w_XML_1_1))])) _
    refine XS.iload X5.here hx rfl (hb hby at_64) rfl ?_
    show Steps p.tables e below (T5.setTop (mkF m 66 #[.val (.int p1), .val (.int p2), .val (.int (0 : Int32)), .val (.int (1 : Int32)), .val (.ref w_XML_1_0), .val (.int ((p2 &&& (255 : Int32)).toUInt32.toUInt16.toUInt32.toInt32))] [(.int ((p2 &&& (255 : Int32)).toUInt32.toUInt16.toUInt32.toInt32)), (.int (0 : Int32)), (.int (F1_0 w_XML_1_0 ((p2 &&& (255 : Int32)).toUInt32.toUInt16.toUInt32.toInt32) w_XML_1_1))])) _
    refine st6 _ ?_
    show Steps p.tables e below (T6.setTop (mkF m 69 #[.val (.int p1), .val (.int p2), .val (.int (0 : Int32)), .val (.int (1 : Int32)), .val (.ref w_XML_1_0), .val (.int ((p2 &&& (255 : Int32)).toUInt32.toUInt16.toUInt32.toInt32))] [(.int (F2_0 (0 : Int32) ((p2 &&& (255 : Int32)).toUInt32.toUInt16.toUInt32.toInt32))), (.int (F1_0 w_XML_1_0 ((p2 &&& (255 : Int32)).toUInt32.toUInt16.toUInt32.toInt32) w_XML_1_1))])) _
    refine XS.icmpNo X6.here hx rfl (hb hby at_69) rfl (teq hk69).2 ?_
    show Steps p.tables e below (T6.setTop (mkF m 72 #[.val (.int p1), .val (.int p2), .val (.int (0 : Int32)), .val (.int (1 : Int32)), .val (.ref w_XML_1_0), .val (.int ((p2 &&& (255 : Int32)).toUInt32.toUInt16.toUInt32.toInt32))] [])) _
    refine XS.iconst X6.here hx rfl (hb hby at_72) ?_
    show Steps p.tables e below (T6.setTop (mkF m 73 #[.val (.int p1), .val (.int p2), .val (.int (0 : Int32)), .val (.int (1 : Int32)), .val (.ref w_XML_1_0), .val (.int ((p2 &&& (255 : Int32)).toUInt32.toUInt16.toUInt32.toInt32))] [(.int (1 : Int32))])) _
    refine XS.goto X6.here hx rfl (pc0 := 73) (pc' := 77) rfl (hb hby at_73) (by decide) (by decide) ?_
    show Steps p.tables e below (T6.setTop (mkF m 77 #[.val (.int p1), .val (.int p2), .val (.int (0 : Int32)), .val (.int (1 : Int32)), .val (.ref w_XML_1_0), .val (.int ((p2 &&& (255 : Int32)).toUInt32.toUInt16.toUInt32.toInt32))] [(.int (1 : Int32))])) _
    exact retN X6 hx (t := .boolean) Bd.returns (by simp) (hb hby at_77) hr
  · show Q0 Z p1 p2 w_XML_1_0 w_XML_1_1 h0 n0 _ T6.heap _
    exact ⟨rfl, N6⟩
set_option maxRecDepth 65536 in
set_option maxHeartbeats 40000000 in
theorem rm0_ttttf (l : Launch) (Z : State) (a0 : Array Value) (hw : ∀ d ∈ tables_1, d.before a0 Z = true) (ws : List Jvm.Cond) (p1 : Int32) (p2 : Int32) (w_XML_1_0 : Addr) (w_XML_1_1 : Addr) (h0 : Heap) (n0 : Nat) (Z0 : n0 ≤ h0.size) (S_XML_1_0 : Sta Z h0 "com/example/nestdb/nestdb/store/XmlVersion" "XML_1_0" "Lcom/example/nestdb/nestdb/store/XmlVersion;" (.ref w_XML_1_0)) (S_XML_1_1 : Sta Z h0 "com/example/nestdb/nestdb/store/XmlVersion" "XML_1_1" "Lcom/example/nestdb/nestdb/store/XmlVersion;" (.ref w_XML_1_1)) (E_w_XML_1_0 : Exa Z h0 w_XML_1_0 "com/example/nestdb/nestdb/store/XmlVersion") (E_w_XML_1_1 : Exa Z h0 w_XML_1_1 "com/example/nestdb/nestdb/store/XmlVersion") (hc3 : (p1 &&& (1 : Int32)) = (0 : Int32)) (hc15 : (p1 &&& (2 : Int32)) = (0 : Int32)) (hk69 : (F1_0 w_XML_1_0 (p2.toUInt32.toUInt16.toUInt32.toInt32) w_XML_1_1) = (F2_0 (0 : Int32) (p2.toUInt32.toUInt16.toUInt32.toInt32))) :
    MetFree l x (head1 (Jvm.Cond.code x code maxLocals ret :: ws) room_1) (fun a U => a = #[(.int p1), (.int p2)] ∧ Z.Warmed39 U.vm ∧ U.heap = h0) (fun _ _ _ _ _ => True) (fun _ U o U' => ∃ v L, o = .returned v ∧ Q0 Z p1 p2 w_XML_1_0 w_XML_1_1 h0 n0 v U'.heap L ∧ FrameEnd U o U' L room_1.cells room_1.slots) := by
  refine MetFree.of_bodySF (plainFor_of_name pn_0) hisR ?_
  intro p e s m args below meth c s₁ Bd hml0 hP hK
  obtain ⟨rfl, hZ, hh⟩ := hP
  have hx := Bd.exec
  have hby := Bd.bytes
  have hml : c.maxLocals = 6 := hml0
  have hown : s.vm.findClass "com/example/nestdb/nestdb/store/XmlVersionOnlyAsReferencePinLaw" = some m.cls := findClass_of_methodNamed Bd.named
  have hnm := (name_of_methodNamed Bd.named Bd.method).1
  have X0 : Stand p l e room_1 s m #[(.int p1), (.int p2)] below meth c s₁ [] 0 0 := Stand.of_body Bd
  have e0 : s₁.heap = h0 := by rw [← hh, Bd.state]; rfl
  have N0 := Fr.nil n0
  have pre0 : ∀ t, Steps p.tables e below (s₁.setTop (mkF m 0 #[.val (.int p1), .val (.int p2), .unset, .unset, .unset, .unset] [])) t → Steps p.tables e below (s₁.setTop (entryFrame m #[(.int p1), (.int p2)] maxLocals)) t := fun t k => castTop (ef_0 m p1 p2) k
  obtain ⟨T4, X4, e4, st4⟩ := getS2 X0 hx hZ hown (host := "") (Or.inl (hw _ (List.mem_of_getElem? (i := 0) rfl))) Via.refl e0 S_XML_1_0 (g := (mkF m 34 #[.val (.int p1), .val (.int p2), .val (.int (0 : Int32)), .val (.int (0 : Int32)), .unset, .unset] [])) rfl (hb hby at_34)
  obtain ⟨cq5, kq5, q5a, q5b, q5c⟩ := isOf hZ e4 E_w_XML_1_0
  obtain ⟨_, _, ⟨T5, L5, k5, n5⟩, -, X5, ⟨Lc5, hQ5, l5, y5, z5⟩, st5⟩ := X4.virtualBack hx (y := (⟨"com/example/nestdb/nestdb/store/XmlVersion", "onlyAsReference", "(C)Z"⟩ : MethodName)) (z := (⟨"com/example/nestdb/nestdb/store/XmlVersion", "onlyAsReference", "(C)Z"⟩ : MethodName)) hown (mvT hZ (hw _ (List.mem_of_getElem? (i := 3) rfl))) (mvT hZ (hw _ (List.mem_of_getElem? (i := 4) rfl))) (notFace_of_selects (args := #[]) (mvT hZ (hw _ (List.mem_of_getElem? (i := 6) rfl)))) (mvT hZ (hw _ (List.mem_of_getElem? (i := 6) rfl))) (mvT hZ (hw _ (List.mem_of_getElem? (i := 5) rfl))) (by decide) (backOf (W := 0) (rm1 l Z a0 hw [] w_XML_1_0 (p2.toUInt32.toUInt16.toUInt32.toInt32) w_XML_1_1 h0 n0 Z0 S_XML_1_1) hZ (hw _ (List.mem_of_getElem? (i := 7) rfl)) (hw _ (List.mem_of_getElem? (i := 1) rfl)) (by decide) (by decide)) q5a q5c (g := (mkF m 60 #[.val (.int p1), .val (.int p2), .val (.int (0 : Int32)), .val (.int (0 : Int32)), .val (.ref w_XML_1_0), .val (.int (p2.toUInt32.toUInt16.toUInt32.toInt32))] [(.int (p2.toUInt32.toUInt16.toUInt32.toInt32)), (.ref w_XML_1_0)])) rfl (by rw [hml]; rfl) (Steps.refl _) (argsL := [(.int (p2.toUInt32.toUInt16.toUInt32.toInt32))]) (rest := []) (lenOf pd_0_0 rfl) rfl (by show 2 * 0 + _ ≤ _; exact Nat.le_of_eq rfl) (hb hby at_60) (fun _ _ => ⟨rfl, e4, (by decide : 0 + 0 ≤ _), (by decide : 0 + 0 ≤ _)⟩)
  dsimp only [Pt.U, Pt.locs, Pt.cells, Pt.slots] at X5 l5 y5 z5 st5 hQ5
  subst l5 y5 z5
  obtain ⟨rfl, N5q, e5q⟩ := hQ5
  have N5 := Fr.app N0 N5q
  have Z5 : n0 ≤ T5.heap.size := by rw [e5q]; exact Z0
  have Kq5 : Keep h0 T5.heap [] := by rw [e5q]; exact Keep.refl _ _
  obtain ⟨_, _, ⟨T6, L6, k6, n6⟩, -, X6, ⟨Lc6, hQ6, l6, y6, z6⟩, st6⟩ := Jvm.LawKit.callS X5 hx (y := (⟨"com/example/nestdb/nestdb/store/XmlVersionOnlyAsReferencePinLaw", "expected", "(ZC)Z"⟩ : MethodName)) hown (mvT hZ (hw _ (List.mem_of_getElem? (i := 10) rfl))) (mvT hZ (hw _ (List.mem_of_getElem? (i := 11) rfl))) (mvT hZ (hw _ (List.mem_of_getElem? (i := 12) rfl))) (mvT hZ (hw _ (List.mem_of_getElem? (i := 13) rfl))) (by decide) (backOf (W := 1) (rm2 l Z a0 hw [] (0 : Int32) (p2.toUInt32.toUInt16.toUInt32.toInt32)  T5.heap n0 Z5) hZ (hw _ (List.mem_of_getElem? (i := 13) rfl)) (hw _ (List.mem_of_getElem? (i := 12) rfl)) (by decide) (by decide)) (g := (mkF m 66 #[.val (.int p1), .val (.int p2), .val (.int (0 : Int32)), .val (.int (0 : Int32)), .val (.ref w_XML_1_0), .val (.int (p2.toUInt32.toUInt16.toUInt32.toInt32))] [(.int (p2.toUInt32.toUInt16.toUInt32.toInt32)), (.int (0 : Int32)), (.int (F1_0 w_XML_1_0 (p2.toUInt32.toUInt16.toUInt32.toInt32) w_XML_1_1))])) rfl (by rw [hml]; rfl) (argsL := [(.int (0 : Int32)), (.int (p2.toUInt32.toUInt16.toUInt32.toInt32))]) (rest := [(.int (F1_0 w_XML_1_0 (p2.toUInt32.toUInt16.toUInt32.toInt32) w_XML_1_1))]) (lenOf pd_0_1 rfl) rfl (by show 2 * 0 + _ ≤ _; exact Nat.le_of_eq rfl) (hb hby at_66) (fun _ _ => ⟨rfl, rfl, (by decide : 0 + 0 ≤ _), (by decide : 0 + 0 ≤ _)⟩)
  dsimp only [Pt.U, Pt.locs, Pt.cells, Pt.slots] at X6 l6 y6 z6 st6 hQ6
  subst l6 y6 z6
  obtain ⟨rfl, N6q, e6q⟩ := hQ6
  have N6 := Fr.app N5 N6q
  have Z6 : n0 ≤ T6.heap.size := by rw [e6q]; exact Z5
  have Kq6 : Keep T5.heap T6.heap [] := by rw [e6q]; exact Keep.refl _ _
  obtain ⟨fs, hr, hrun, hended, hW, hsame⟩ := X6.leave (v := some (.int (1 : Int32))) (fun h => by rw [Bd.returns] at h; cases h) Bd.notSynchronized
  refine ⟨_, _, pre0 _ ?_, hrun, hended, _, _, rfl, ?_, ⟨_, rfl⟩, hW, hsame.mono (by decide) (by decide)⟩
  · show Steps p.tables e below (s₁.setTop (mkF m 0 #[.val (.int p1), .val (.int p2), .unset, .unset, .unset, .unset] [])) _
    refine XS.iloadN X0.here hx rfl (hb hby at_0) rfl ?_
    show Steps p.tables e below (s₁.setTop (mkF m 1 #[.val (.int p1), .val (.int p2), .unset, .unset, .unset, .unset] [(.int p1)])) _
    refine XS.iconst X0.here hx rfl (hb hby at_1) ?_
    show Steps p.tables e below (s₁.setTop (mkF m 2 #[.val (.int p1), .val (.int p2), .unset, .unset, .unset, .unset] [(.int (1 : Int32)), (.int p1)])) _
    refine XS.iand X0.here hx rfl (hb hby at_2) rfl ?_
    show Steps p.tables e below (s₁.setTop (mkF m 3 #[.val (.int p1), .val (.int p2), .unset, .unset, .unset, .unset] [(.int (p1 &&& (1 : Int32)))])) _
    refine XS.ifYes X0.here hx rfl (pc0 := 3) (pc' := 10) rfl (hb hby at_3) rfl ((if0 _ _).trans (teq hc3).1) (by decide) (by decide) ?_
    show Steps p.tables e below (s₁.setTop (mkF m 10 #[.val (.int p1), .val (.int p2), .unset, .unset, .unset, .unset] [])) _
    refine XS.iconst X0.here hx rfl (hb hby at_10) ?_
    show Steps p.tables e below (s₁.setTop (mkF m 11 #[.val (.int p1), .val (.int p2), .unset, .unset, .unset, .unset] [(.int (0 : Int32))])) _
    refine XS.istoreN X0.here hx rfl (hb hby at_11) rfl (l' := #[.val (.int p1), .val (.int p2), .val (.int (0 : Int32)), .unset, .unset, .unset]) rfl ?_
    show Steps p.tables e below (s₁.setTop (mkF m 12 #[.val (.int p1), .val (.int p2), .val (.int (0 : Int32)), .unset, .unset, .unset] [])) _
    refine XS.iloadN X0.here hx rfl (hb hby at_12) rfl ?_
    show Steps p.tables e below (s₁.setTop (mkF m 13 #[.val (.int p1), .val (.int p2), .val (.int (0 : Int32)), .unset, .unset, .unset] [(.int p1)])) _
    refine XS.iconst X0.here hx rfl (hb hby at_13) ?_
    show Steps p.tables e below (s₁.setTop (mkF m 14 #[.val (.int p1), .val (.int p2), .val (.int (0 : Int32)), .unset, .unset, .unset] [(.int (2 : Int32)), (.int p1)])) _
    refine XS.iand X0.here hx rfl (hb hby at_14) rfl ?_
    show Steps p.tables e below (s₁.setTop (mkF m 15 #[.val (.int p1), .val (.int p2), .val (.int (0 : Int32)), .unset, .unset, .unset] [(.int (p1 &&& (2 : Int32)))])) _
    refine XS.ifYes X0.here hx rfl (pc0 := 15) (pc' := 22) rfl (hb hby at_15) rfl ((if0 _ _).trans (teq hc15).1) (by decide) (by decide) ?_
    show Steps p.tables e below (s₁.setTop (mkF m 22 #[.val (.int p1), .val (.int p2), .val (.int (0 : Int32)), .unset, .unset, .unset] [])) _
    refine XS.iconst X0.here hx rfl (hb hby at_22) ?_
    show Steps p.tables e below (s₁.setTop (mkF m 23 #[.val (.int p1), .val (.int p2), .val (.int (0 : Int32)), .unset, .unset, .unset] [(.int (0 : Int32))])) _
    refine XS.istoreN X0.here hx rfl (hb hby at_23) rfl (l' := #[.val (.int p1), .val (.int p2), .val (.int (0 : Int32)), .val (.int (0 : Int32)), .unset, .unset]) rfl ?_
    show Steps p.tables e below (s₁.setTop (mkF m 24 #[.val (.int p1), .val (.int p2), .val (.int (0 : Int32)), .val (.int (0 : Int32)), .unset, .unset] [])) _
    refine XS.iloadN X0.here hx rfl (hb hby at_24) rfl ?_
    show Steps p.tables e below (s₁.setTop (mkF m 25 #[.val (.int p1), .val (.int p2), .val (.int (0 : Int32)), .val (.int (0 : Int32)), .unset, .unset] [(.int (0 : Int32))])) _
    refine XS.ifYes X0.here hx rfl (pc0 := 25) (pc' := 34) rfl (hb hby at_25) rfl ((if0 _ _).trans (teq (rfl : (0 : Int32) = (0 : Int32))).1) (by decide) (by decide) ?_
    show Steps p.tables e below (s₁.setTop (mkF m 34 #[.val (.int p1), .val (.int p2), .val (.int (0 : Int32)), .val (.int (0 : Int32)), .unset, .unset] [])) _
    refine st4 _ ?_
    show Steps p.tables e below (T4.setTop (mkF m 37 #[.val (.int p1), .val (.int p2), .val (.int (0 : Int32)), .val (.int (0 : Int32)), .unset, .unset] [(.ref w_XML_1_0)])) _
    refine XS.astore X4.here hx rfl (hb hby at_37) rfl rfl (l' := #[.val (.int p1), .val (.int p2), .val (.int (0 : Int32)), .val (.int (0 : Int32)), .val (.ref w_XML_1_0), .unset]) rfl ?_
    show Steps p.tables e below (T4.setTop (mkF m 39 #[.val (.int p1), .val (.int p2), .val (.int (0 : Int32)), .val (.int (0 : Int32)), .val (.ref w_XML_1_0), .unset] [])) _
    refine XS.iloadN X4.here hx rfl (hb hby at_39) rfl ?_
    show Steps p.tables e below (T4.setTop (mkF m 40 #[.val (.int p1), .val (.int p2), .val (.int (0 : Int32)), .val (.int (0 : Int32)), .val (.ref w_XML_1_0), .unset] [(.int (0 : Int32))])) _
    refine XS.ifYes X4.here hx rfl (pc0 := 40) (pc' := 52) rfl (hb hby at_40) rfl ((if0 _ _).trans (teq (rfl : (0 : Int32) = (0 : Int32))).1) (by decide) (by decide) ?_
    show Steps p.tables e below (T4.setTop (mkF m 52 #[.val (.int p1), .val (.int p2), .val (.int (0 : Int32)), .val (.int (0 : Int32)), .val (.ref w_XML_1_0), .unset] [])) _
    refine XS.iloadN X4.here hx rfl (hb hby at_52) rfl ?_
    show Steps p.tables e below (T4.setTop (mkF m 53 #[.val (.int p1), .val (.int p2), .val (.int (0 : Int32)), .val (.int (0 : Int32)), .val (.ref w_XML_1_0), .unset] [(.int p2)])) _
    refine XS.i2c X4.here hx rfl (hb hby at_53) rfl ?_
    show Steps p.tables e below (T4.setTop (mkF m 54 #[.val (.int p1), .val (.int p2), .val (.int (0 : Int32)), .val (.int (0 : Int32)), .val (.ref w_XML_1_0), .unset] [(.int (p2.toUInt32.toUInt16.toUInt32.toInt32))])) _
    refine XS.istore X4.here hx rfl (hb hby at_54) rfl (l' := #[.val (.int p1), .val (.int p2), .val (.int (0 : Int32)), .val (.int (0 : Int32)), .val (.ref w_XML_1_0), .val (.int (p2.toUInt32.toUInt16.toUInt32.toInt32))]) rfl ?_
    show Steps p.tables e below (T4.setTop (mkF m 56 #[.val (.int p1), .val (.int p2), .val (.int (0 : Int32)), .val (.int (0 : Int32)), .val (.ref w_XML_1_0), .val (.int (p2.toUInt32.toUInt16.toUInt32.toInt32))] [])) _
    refine XS.aload X4.here hx rfl (hb hby at_56) rfl rfl ?_
    show Steps p.tables e below (T4.setTop (mkF m 58 #[.val (.int p1), .val (.int p2), .val (.int (0 : Int32)), .val (.int (0 : Int32)), .val (.ref w_XML_1_0), .val (.int (p2.toUInt32.toUInt16.toUInt32.toInt32))] [(.ref w_XML_1_0)])) _
    refine XS.iload X4.here hx rfl (hb hby at_58) rfl ?_
    show Steps p.tables e below (T4.setTop (mkF m 60 #[.val (.int p1), .val (.int p2), .val (.int (0 : Int32)), .val (.int (0 : Int32)), .val (.ref w_XML_1_0), .val (.int (p2.toUInt32.toUInt16.toUInt32.toInt32))] [(.int (p2.toUInt32.toUInt16.toUInt32.toInt32)), (.ref w_XML_1_0)])) _
    refine st5.trans ?_
    show Steps p.tables e below (T5.setTop (mkF m 63 #[.val (.int p1), .val (.int p2), .val (.int (0 : Int32)), .val (.int (0 : Int32)), .val (.ref w_XML_1_0), .val (.int (p2.toUInt32.toUInt16.toUInt32.toInt32))] [(.int (F1_0 w_XML_1_0 (p2.toUInt32.toUInt16.toUInt32.toInt32) w_XML_1_1))])) _
    refine XS.iloadN X5.here hx rfl (hb hby at_63) rfl ?_
    show Steps p.tables e below (T5.setTop (mkF m 64 #[.val (.int p1), .val (.int p2), .val (.int (0 : Int32)), .val (.int (0 : Int32)), .val (.ref w_XML_1_0), .val (.int (p2.toUInt32.toUInt16.toUInt32.toInt32))] [(.int (0 : Int32)), (.int (F1_0 w_XML_1_0 (p2.toUInt32.toUInt16.toUInt32.toInt32) w_XML_1_1))])) _
    refine XS.iload X5.here hx rfl (hb hby at_64) rfl ?_
    show Steps p.tables e below (T5.setTop (mkF m 66 #[.val (.int p1), .val (.int p2), .val (.int (0 : Int32)), .val (.int (0 : Int32)), .val (.ref w_XML_1_0), .val (.int (p2.toUInt32.toUInt16.toUInt32.toInt32))] [(.int (p2.toUInt32.toUInt16.toUInt32.toInt32)), (.int (0 : Int32)), (.int (F1_0 w_XML_1_0 (p2.toUInt32.toUInt16.toUInt32.toInt32) w_XML_1_1))])) _
    refine st6 _ ?_
    show Steps p.tables e below (T6.setTop (mkF m 69 #[.val (.int p1), .val (.int p2), .val (.int (0 : Int32)), .val (.int (0 : Int32)), .val (.ref w_XML_1_0), .val (.int (p2.toUInt32.toUInt16.toUInt32.toInt32))] [(.int (F2_0 (0 : Int32) (p2.toUInt32.toUInt16.toUInt32.toInt32))), (.int (F1_0 w_XML_1_0 (p2.toUInt32.toUInt16.toUInt32.toInt32) w_XML_1_1))])) _
    refine XS.icmpNo X6.here hx rfl (hb hby at_69) rfl (teq hk69).2 ?_
    show Steps p.tables e below (T6.setTop (mkF m 72 #[.val (.int p1), .val (.int p2), .val (.int (0 : Int32)), .val (.int (0 : Int32)), .val (.ref w_XML_1_0), .val (.int (p2.toUInt32.toUInt16.toUInt32.toInt32))] [])) _
    refine XS.iconst X6.here hx rfl (hb hby at_72) ?_
    show Steps p.tables e below (T6.setTop (mkF m 73 #[.val (.int p1), .val (.int p2), .val (.int (0 : Int32)), .val (.int (0 : Int32)), .val (.ref w_XML_1_0), .val (.int (p2.toUInt32.toUInt16.toUInt32.toInt32))] [(.int (1 : Int32))])) _
    refine XS.goto X6.here hx rfl (pc0 := 73) (pc' := 77) rfl (hb hby at_73) (by decide) (by decide) ?_
    show Steps p.tables e below (T6.setTop (mkF m 77 #[.val (.int p1), .val (.int p2), .val (.int (0 : Int32)), .val (.int (0 : Int32)), .val (.ref w_XML_1_0), .val (.int (p2.toUInt32.toUInt16.toUInt32.toInt32))] [(.int (1 : Int32))])) _
    exact retN X6 hx (t := .boolean) Bd.returns (by simp) (hb hby at_77) hr
  · show Q0 Z p1 p2 w_XML_1_0 w_XML_1_1 h0 n0 _ T6.heap _
    exact ⟨rfl, N6⟩
theorem rm0 (l : Launch) (Z : State) (a0 : Array Value) (hw : ∀ d ∈ tables_1, d.before a0 Z = true) (ws : List Jvm.Cond) (p1 : Int32) (p2 : Int32) (w_XML_1_0 : Addr) (w_XML_1_1 : Addr) (h0 : Heap) (n0 : Nat) (Z0 : n0 ≤ h0.size) (S_XML_1_0 : Sta Z h0 "com/example/nestdb/nestdb/store/XmlVersion" "XML_1_0" "Lcom/example/nestdb/nestdb/store/XmlVersion;" (.ref w_XML_1_0)) (S_XML_1_1 : Sta Z h0 "com/example/nestdb/nestdb/store/XmlVersion" "XML_1_1" "Lcom/example/nestdb/nestdb/store/XmlVersion;" (.ref w_XML_1_1)) (E_w_XML_1_0 : Exa Z h0 w_XML_1_0 "com/example/nestdb/nestdb/store/XmlVersion") (E_w_XML_1_1 : Exa Z h0 w_XML_1_1 "com/example/nestdb/nestdb/store/XmlVersion") (ne : ¬ w_XML_1_0 = w_XML_1_1) :
    MetFree l x (head1 (Jvm.Cond.code x code maxLocals ret :: ws) room_1) (fun a U => a = #[(.int p1), (.int p2)] ∧ Z.Warmed39 U.vm ∧ U.heap = h0) (fun _ _ _ _ _ => True) (fun _ U o U' => ∃ v L, o = .returned v ∧ Q0 Z p1 p2 w_XML_1_0 w_XML_1_1 h0 n0 v U'.heap L ∧ FrameEnd U o U' L room_1.cells room_1.slots) := by
  have z1 := own_z1
  have yes : ∀ c, F1_0 w_XML_1_1 c w_XML_1_1 = F2_0 1 c := fun c => by rw [own_in, own_ex1]
  have no : ∀ c, F1_0 w_XML_1_0 c w_XML_1_1 = F2_0 0 c := fun c => by rw [own_out _ _ _ ne, own_ex0]
  by_cases a : (p1 &&& (1 : Int32)) = (0 : Int32)
  · by_cases b : (p1 &&& (2 : Int32)) = (0 : Int32)
    · exact rm0_ttttf l Z a0 hw ws p1 p2 w_XML_1_0 w_XML_1_1 h0 n0 Z0 S_XML_1_0 S_XML_1_1 E_w_XML_1_0 E_w_XML_1_1 (hc3 := a) (hc15 := b) (hk69 := no _)
    · exact rm0_tftff l Z a0 hw ws p1 p2 w_XML_1_0 w_XML_1_1 h0 n0 Z0 S_XML_1_0 S_XML_1_1 E_w_XML_1_0 E_w_XML_1_1 (hc3 := a) (hc15 := b) (hc40 := z1) (hk69 := no _)
  · by_cases b : (p1 &&& (2 : Int32)) = (0 : Int32)
    · exact rm0_ftftf l Z a0 hw ws p1 p2 w_XML_1_0 w_XML_1_1 h0 n0 Z0 S_XML_1_0 S_XML_1_1 E_w_XML_1_0 E_w_XML_1_1 (hc3 := a) (hc15 := b) (hc25 := z1) (hk69 := yes _)
    · exact rm0_fffff l Z a0 hw ws p1 p2 w_XML_1_0 w_XML_1_1 h0 n0 Z0 S_XML_1_0 S_XML_1_1 E_w_XML_1_0 E_w_XML_1_1 (hc3 := a) (hc15 := b) (hc25 := z1) (hc40 := z1) (hk69 := yes _)
theorem own_fe {Z : State} {args : Array Value} {t : Term} {a : Addr} {C n d : String} {k : Int32} (ev : t.eval args Z none [] Z = some (.ref a)) (h : (Jvm.Cond.eq (.field t C n d) (.int k)).value args Z none Z [] = some true) : Fld Z Z.heap a C n d (.int k) := by
  obtain ⟨x, y, ex, ey, kin, -⟩ := cmp_v (Or.inl h)
  have hy : y = .int k := by rw [Term.int_eval] at ey; exact (Option.some.inj ey).symm
  subst hy
  have hx : x = .int k := by
    cases x <;> simp [Kin, Value.isRef] at kin
    rename_i z
    simp only [Cond.value, ex, ey] at h
    have q : z = k := by simpa using h
    rw [q]
  rw [fld_at ev, hx] at ex
  exact Fld.start ex
theorem own_fr {Z : State} {args : Array Value} {t u : Term} {a b : Addr} {C n d : String} (ev : t.eval args Z none [] Z = some (.ref a)) (eu : u.eval args Z none [] Z = some (.ref b)) (h : (Jvm.Cond.eq (.field t C n d) u).value args Z none Z [] = some true) : Fld Z Z.heap a C n d (.ref b) := by
  obtain ⟨x, y, ex, ey, kin, -⟩ := cmp_v (Or.inl h)
  have hy : y = .ref b := by rw [eu] at ey; exact (Option.some.inj ey).symm
  subst hy
  have hx : x = .ref b := by
    have q := gotT (eq_R ex eu (by cases x <;> simp [Kin, Value.isRef] at kin ⊢) rfl) h
    exact q
  rw [fld_at ev, hx] at ex
  exact Fld.start ex
set_option maxRecDepth 65536 in
set_option maxHeartbeats 40000000 in
theorem comes_1 {Post : Tables → Env → Array Value → State → Outcome → State → Prop} (hpost : ∀ tb e args s v u, (limb_1_1.after args s (.returned v) u = true ∧ limb_1_2.after args s (.returned v) u = true ∧ True) → FrameEnd s (.returned v) u (Jvm.fieldLocs frame_1_writes args s ++ Jvm.arrayLocs frame_1_arrays args s ++ Jvm.staticLocs frame_1_statics s) 0 0 → Post tb e args s (.returned v) u) :
    ArmFor flags0 classFile x code maxLocals ret World_1 tables_1 room_1 Calls_1 rest_1 Pre_1 Post := by
  intro l hfl _ _ p e ha hc hk s m args below hf hA hF happ hP
  obtain ⟨hcalls, hrest, hpre⟩ := hP
  obtain ⟨-, -, -, hnamed, -, -, -, hat⟩ := (Spec.applies_iff hf).mp happ
  obtain ⟨hg, hn⟩ := and_e (Cond.before_iff.mp (show (Jvm.Cond.and given_1 narrow_1).before args s = true from hpre))
  obtain ⟨g7, g8⟩ := and_e hg
  obtain ⟨g9, g10⟩ := and_e g8
  obtain ⟨w0, w1, rfl⟩ : ∃ w0 w1 : Value, args = #[w0, w1] := by
    have hs : args.size = 2 := by simpa [Cond.value, given_1] using g7
    obtain ⟨L⟩ := args
    match L, hs with
    | [w0, w1], _ => exact ⟨w0, w1, rfl⟩
  have hw := fun d (hd : d ∈ tables_1) => atoms_spec (ws := Jvm.Cond.code x code maxLocals ret :: tables_1) hat d (List.mem_cons_of_mem _ hd)
  have hfit : Fit s := fun {y c} hc i hi => by
    obtain ⟨ha, rfl⟩ := Array.getElem?_eq_some_iff.mp hc
    have q := List.all_eq_true.mp ((Array.all_eq_true_iff_forall_mem.mp hF) _ (Array.getElem_mem ha)) i (List.mem_range.mpr hi)
    simpa [Array.getElem?_eq_getElem hi] using q
  obtain ⟨i0, ei0⟩ := is_v g9
  obtain rfl : w0 = (.int i0) := Option.some.inj ei0
  obtain ⟨i1, ei1⟩ := is_v g10
  obtain rfl : w1 = (.int i1) := Option.some.inj ei1
  obtain ⟨c_0, r_0⟩ := and_e hn
  obtain ⟨c_1, r_1⟩ := and_e r_0
  obtain ⟨c_2, r_2⟩ := and_e r_1
  obtain ⟨w_XML_1_0, v_XML_1_0⟩ := exa_v c_0
  have S_XML_1_0 := Sta.start v_XML_1_0 (Or.inr ⟨(hw _ (List.mem_of_getElem? (i := 1) rfl)), (hw _ (List.mem_of_getElem? (i := 2) rfl))⟩)
  have E_XML_1_0 := Exa.start v_XML_1_0 c_0
  obtain ⟨w_XML_1_1, v_XML_1_1⟩ := exa_v c_1
  have S_XML_1_1 := Sta.start v_XML_1_1 (Or.inr ⟨(hw _ (List.mem_of_getElem? (i := 1) rfl)), (hw _ (List.mem_of_getElem? (i := 9) rfl))⟩)
  have E_XML_1_1 := Exa.start v_XML_1_1 c_1
  have F_XML_1_0_ordinal := own_fe v_XML_1_0 c_2
  have F_XML_1_1_ordinal := own_fe v_XML_1_1 r_2
  obtain ⟨n, o, h1, h2, h3, _, L, rfl, ⟨rfl, N⟩, hq⟩ := rm0 l s _ hw tables_1 i0 i1 w_XML_1_0 w_XML_1_1 s.heap s.heap.size (Nat.le_refl _) S_XML_1_0 S_XML_1_1 E_XML_1_0 E_XML_1_1 (F_XML_1_0_ordinal.ne F_XML_1_1_ordinal (by simp)) p e ha hc hk s m _ below hf ((Spec.applies_iff_loose hf).mp happ).1 ⟨rfl, State.Warmed39.refl s, rfl⟩ trivial
  refine ⟨n, _, h1, h2, h3, hpost _ _ _ _ _ _ ⟨Cond.after_iff.mpr rfl, Cond.after_iff.mpr (eq_i res_at (Term.int_eval (1)) rfl), trivial⟩ ⟨hq.1, hq.2.1, (hq.2.2.sift fun y hy => Or.inr (N y hy)).mono (by decide) (by decide)⟩⟩
theorem main_1_1 : Claimed_1_1 := comes_1 fun _ _ _ _ _ _ h hF => ⟨h.1, hF⟩
theorem main_1_2 : Claimed_1_2 := comes_1 fun _ _ _ _ _ _ h hF => ⟨h.2.1, hF⟩

end Jvm.Pilot.@@N@@
namespace Jvm.Pilot.@@N@@
open Jvm Jvm.ClassFile Sem Op Lib Jvm.Free Jvm.Stand Jvm.Pilot.@@N@@.Jvm.D
/-! MADE BY PROGRAM (witnessworld.py) out of the Statement's table words and the real class files: 12 classes; the members and pool entries that the words name. The judged class is class 1, her method 2. -/
namespace start1
open Jvm.ClassFile
def u (s : String) : CpInfo := .utf8 (stringToUtf16 s)
/-- a pool by its gaps: so many unusable entries, then the entry; so many at the end -/
def gap : Nat → List CpInfo → List CpInfo
  | 0, r => r
  | n + 1, r => .unusable :: gap n r
def poolList (es : List (Nat × CpInfo)) (last : Nat) : List CpInfo := es.foldr (fun e r => gap e.1 (e.2 :: r)) (gap last [])
def pool (es : List (Nat × CpInfo)) (last : Nat) : Array CpInfo := ⟨poolList es last⟩
def fileOf (pool : Array CpInfo) (this : Nat) (attrs : Array Attribute := #[]) (ms : Array MethodInfo := #[]) (fl : Nat := 33) (sup : Nat := 0) (ifs : Array Nat := #[]) (fds : Array FieldInfo := #[]) : ClassFile where
  minorVersion := 0
  majorVersion := 65
  constantPool := pool
  accessFlags := fl
  thisClass := this
  superClass := sup
  interfaces := ifs
  fields := fds
  methods := ms
  attributes := attrs
def plain (name : String) (sup : Option ClassId) : Class where
  name := name
  kind := .ordinary
  loader := none
  accessFlags := 33
  super := sup
  interfaces := #[]
  cf := none
  fields := #[]
  methods := #[]
  instanceTypes := #[]
  staticTypes := #[]
  resolved := #[]
  callSites := []
  init := .initialized
  statics := none
  mirror := none

def pool0 : Array CpInfo := pool [(5, u "<init>"), (0, u "()V"), (1, .class_ 10), (1, u "java/lang/Object")] 113

def k0m0 : Method := { name := "<init>", desc := "()V", sig := { parameters := [], returnType := none }, accessFlags := 1, code := none }
/-- java/lang/Object -/
def k0 : Class := { plain "java/lang/Object" none with
  accessFlags := 33
  interfaces := #[]
  cf := some (fileOf pool0 8 #[] #[{ accessFlags := 1, nameIndex := 5, descriptorIndex := 6, attributes := #[] }] 33 0 #[] #[])
  fields := #[]
  methods := #[k0m0]
  instanceTypes := #[]
  staticTypes := #[]
  resolved := Array.replicate 124 none
  statics := none }

def pool1 : Array CpInfo := pool [(2, .class_ 4), (1, u "java/lang/Object"), (0, u "<init>"), (0, u "()V"), (0, .fieldref 8 9), (0, .class_ 10), (0, .nameAndType 11 12), (0, u "com/example/nestdb/nestdb/store/XmlVersion"), (0, u "XML_1_1"), (0, u "Lcom/example/nestdb/nestdb/store/XmlVersion;"), (0, .fieldref 8 14), (0, .nameAndType 15 12), (0, u "XML_1_0"), (0, .methodref 8 17), (0, .nameAndType 18 19), (0, u "onlyAsReference"), (0, u "(C)Z"), (0, .methodref 21 22), (0, .class_ 23), (0, .nameAndType 24 25), (0, u "com/example/nestdb/nestdb/store/XmlVersionOnlyAsReferencePinLaw"), (0, u "expected"), (0, u "(ZC)Z"), (3, u "law"), (0, u "(II)Z")] 2

def k1m0 : Method := { name := "<init>", desc := "()V", sig := { parameters := [], returnType := none }, accessFlags := 1, code := none }
def k1c1 : Code := { maxStack := 2, maxLocals := 4, code := method_2_code, exceptionTable := #[], attributes := #[] }
def k1m1 : Method := { name := "expected", desc := "(ZC)Z", sig := { parameters := [.boolean, .char], returnType := some .boolean }, accessFlags := 10, code := some k1c1 }
def k1c2 : Code := { maxStack := 3, maxLocals := 6, code := code, exceptionTable := #[], attributes := #[] }
def k1m2 : Method := { name := "law", desc := "(II)Z", sig := { parameters := [.int, .int], returnType := some .boolean }, accessFlags := 9, code := some k1c2 }
/-- com/example/nestdb/nestdb/store/XmlVersionOnlyAsReferencePinLaw -/
def k1 : Class := { plain "com/example/nestdb/nestdb/store/XmlVersionOnlyAsReferencePinLaw" (some 0) with
  accessFlags := 49
  interfaces := #[]
  cf := some (fileOf pool1 21 #[] #[{ accessFlags := 1, nameIndex := 5, descriptorIndex := 6, attributes := #[] }, { accessFlags := 10, nameIndex := 24, descriptorIndex := 25, attributes := #[] }, { accessFlags := 9, nameIndex := 29, descriptorIndex := 30, attributes := #[] }] 49 2 #[] #[])
  fields := #[]
  methods := #[k1m0, k1m1, k1m2]
  instanceTypes := #[]
  staticTypes := #[]
  resolved := Array.replicate 33 none
  statics := none }

def pool2 : Array CpInfo := pool [(1, .class_ 2), (0, u "java/lang/constant/Constable"), (0, .class_ 4), (0, u "java/lang/Object")] 6

/-- java/lang/constant/Constable -/
def k2 : Class := { plain "java/lang/constant/Constable" (some 0) with
  accessFlags := 1537
  interfaces := #[]
  cf := some (fileOf pool2 1 #[] #[] 1537 3 #[] #[])
  fields := #[]
  methods := #[]
  instanceTypes := #[]
  staticTypes := #[]
  resolved := Array.replicate 11 none
  statics := none }

def pool3 : Array CpInfo := pool [(1, .class_ 2), (0, u "java/lang/Comparable"), (0, .class_ 4), (0, u "java/lang/Object")] 7

/-- java/lang/Comparable -/
def k3 : Class := { plain "java/lang/Comparable" (some 0) with
  accessFlags := 1537
  interfaces := #[]
  cf := some (fileOf pool3 1 #[] #[] 1537 3 #[] #[])
  fields := #[]
  methods := #[]
  instanceTypes := #[]
  staticTypes := #[]
  resolved := Array.replicate 12 none
  statics := none }

def pool4 : Array CpInfo := pool [(1, .class_ 2), (0, u "java/io/Serializable"), (0, .class_ 4), (0, u "java/lang/Object")] 2

/-- java/io/Serializable -/
def k4 : Class := { plain "java/io/Serializable" (some 0) with
  accessFlags := 1537
  interfaces := #[]
  cf := some (fileOf pool4 1 #[] #[] 1537 3 #[] #[])
  fields := #[]
  methods := #[]
  instanceTypes := #[]
  staticTypes := #[]
  resolved := Array.replicate 7 none
  statics := none }

def pool5 : Array CpInfo := pool [(2, .class_ 4), (1, u "java/lang/Enum"), (0, u "name"), (0, u "Ljava/lang/String;"), (2, u "ordinal"), (0, u "I"), (1, .class_ 14), (1, u "java/lang/Object"), (4, u "hash"), (86, .class_ 108), (1, u "java/lang/Enum$EnumDesc"), (2, .class_ 112), (0, u "java/lang/constant/Constable"), (0, .class_ 114), (0, u "java/lang/Comparable"), (0, .class_ 116), (0, u "java/io/Serializable")] 87

/-- java/lang/Enum -/
def k5 : Class := { plain "java/lang/Enum" (some 0) with
  accessFlags := 1057
  interfaces := #[2, 3, 4]
  cf := some (fileOf pool5 2 #[.nestMembers #[106]] #[] 1057 12 #[111, 113, 115] #[{ accessFlags := 18, nameIndex := 5, descriptorIndex := 6, attributes := #[] }, { accessFlags := 18, nameIndex := 9, descriptorIndex := 10, attributes := #[] }, { accessFlags := 2, nameIndex := 19, descriptorIndex := 10, attributes := #[] }])
  fields := #[{ name := "name", type := (.object "java/lang/String"), accessFlags := 18, slot := 0, constantValue := 0 }, { name := "ordinal", type := .int, accessFlags := 18, slot := 1, constantValue := 0 }, { name := "hash", type := .int, accessFlags := 2, slot := 2, constantValue := 0 }]
  methods := #[]
  instanceTypes := #[(.object "java/lang/String"), .int, .int]
  staticTypes := #[]
  resolved := Array.replicate 204 none
  statics := none }

def pool6 : Array CpInfo := pool [(1, .class_ 2), (0, u "com/example/nestdb/nestdb/store/XmlVersion"), (2, u "XML_1_0"), (0, u "Lcom/example/nestdb/nestdb/store/XmlVersion;"), (0, .fieldref 1 8), (0, .nameAndType 9 6), (0, u "XML_1_1"), (2, u "$VALUES"), (0, u "[Lcom/example/nestdb/nestdb/store/XmlVersion;"), (6, .class_ 22), (1, u "java/lang/Enum"), (30, u "onlyAsReference"), (0, u "(C)Z")] 4

def k6c0 : Code := { maxStack := 2, maxLocals := 2, code := prog_28_method_5_code, exceptionTable := #[], attributes := #[] }
def k6m0 : Method := { name := "onlyAsReference", desc := "(C)Z", sig := { parameters := [.char], returnType := some .boolean }, accessFlags := 0, code := some k6c0 }
/-- com/example/nestdb/nestdb/store/XmlVersion -/
def k6 : Class := { plain "com/example/nestdb/nestdb/store/XmlVersion" (some 5) with
  accessFlags := 16432
  interfaces := #[]
  cf := some (fileOf pool6 1 #[] #[{ accessFlags := 0, nameIndex := 53, descriptorIndex := 54, attributes := #[] }] 16432 20 #[] #[{ accessFlags := 16409, nameIndex := 5, descriptorIndex := 6, attributes := #[] }, { accessFlags := 16409, nameIndex := 9, descriptorIndex := 6, attributes := #[] }, { accessFlags := 4122, nameIndex := 12, descriptorIndex := 13, attributes := #[] }])
  fields := #[{ name := "XML_1_0", type := (.object "com/example/nestdb/nestdb/store/XmlVersion"), accessFlags := 16409, slot := 0, constantValue := 0 }, { name := "XML_1_1", type := (.object "com/example/nestdb/nestdb/store/XmlVersion"), accessFlags := 16409, slot := 1, constantValue := 0 }, { name := "$VALUES", type := (.array (.object "com/example/nestdb/nestdb/store/XmlVersion")), accessFlags := 4122, slot := 2, constantValue := 0 }]
  methods := #[k6m0]
  instanceTypes := #[(.object "java/lang/String"), .int, .int]
  staticTypes := #[(.object "com/example/nestdb/nestdb/store/XmlVersion"), (.object "com/example/nestdb/nestdb/store/XmlVersion"), (.array (.object "com/example/nestdb/nestdb/store/XmlVersion"))]
  resolved := Array.replicate 59 none
  statics := some 0 }

def pool7 : Array CpInfo := pool [(1, u "java/lang/Cloneable"), (0, .class_ 1), (0, u "java/lang/Object"), (0, .class_ 3)] 3

/-- java/lang/Cloneable -/
def k7 : Class := { plain "java/lang/Cloneable" (some 0) with
  accessFlags := 1537
  interfaces := #[]
  cf := some (fileOf pool7 2 #[] #[] 1537 4 #[] #[])
  fields := #[]
  methods := #[]
  instanceTypes := #[]
  staticTypes := #[]
  resolved := Array.replicate 8 none
  statics := none }

/-- the primitive byte -/
def k8 : Class := { plain "byte" none with kind := .primitive 'B', accessFlags := 0x411 }
/-- [B -/
def k9 : Class := { plain "[B" (some 0) with kind := .array 8 .byte, interfaces := #[7, 4], accessFlags := 1041 }

/-- the primitive int -/
def k10 : Class := { plain "int" none with kind := .primitive 'I', accessFlags := 0x411 }
/-- [I -/
def k11 : Class := { plain "[I" (some 0) with kind := .array 10 .int, interfaces := #[7, 4], accessFlags := 1041 }

def heap : Heap := #[{ cls := 6, slots := #[.ref 1, .ref 2, .null], vm := .statics 6 },
  { cls := 6, slots := #[.null, .int 0, .int 0], vm := .none },
  { cls := 6, slots := #[.null, .int 1, .int 0], vm := .none }]
def classes : Array Class := #[k0, k1, k2, k3, k4, k5, k6, k7, k8, k9, k10, k11]
def interned : List (Array UInt16 × Addr) := []
def slotsUsed : Nat := 9
def theMethod : MethodId := ⟨1, 2⟩
def args0 : Array Value := #[.int 1, .int 5]
def aboutOver (below : List Frame) : State where
  vm := { classes := classes, interned := interned.toArray }
  heap := heap
  slotsUsed := slotsUsed
  threads := #[{ frames := .invoking theMethod args0 :: below }]
def below0 : List Frame := [.native { method := ⟨0, 0⟩, args := #[] }]
def about1 : State := aboutOver below0
def p0 : Program := .bare "" "" ""
def e0 : Env := launch0.env 0 0 0
theorem w_frames : about1.frames = Frame.invoking theMethod args0 :: below0 := rfl
set_option maxRecDepth 65536 in
theorem w_args : argsFit about1.vm theMethod args0 = true := by decide +kernel
set_option maxRecDepth 65536 in
theorem w_heap : heapFits about1 = true := by decide +kernel
set_option maxRecDepth 65536 in
theorem w_runnable : about1.curStatus? = some .runnable := by decide +kernel
set_option maxRecDepth 65536 in
theorem w_alone : about1.alone = true := by decide +kernel
set_option maxRecDepth 65536 in
theorem w_named : about1.methodNamed? x = some theMethod := by decide +kernel
set_option maxRecDepth 65536 in
theorem w_hears : about1.hears theMethod below0 = true := by decide +kernel
set_option maxRecDepth 65536 in
theorem w_ripe : about1.ripe theMethod args0 below0 = true := by decide +kernel
theorem w_running : about1.status = .running := rfl
set_option maxRecDepth 65536 in
theorem w_room : about1.hasRoom e0.platform room_1 = true :=
  launch0.hasRoom_least _ room_1 (by decide +kernel) (by decide +kernel) (by decide +kernel) (by decide +kernel) (by decide +kernel) (by decide +kernel)
theorem allAtoms_all (ts : List Jvm.Cond) (a : Array Jvm.Value) (st : Jvm.State) : (allAtoms ts).before a st = ts.all (fun c => c.before a st) := by
  induction ts with
  | nil => rfl
  | cons c t ih =>
    show (Jvm.Cond.and c (allAtoms t)).before a st = _
    rw [Jvm.Cond.before_and, ih, List.all_cons]
def words1 : List Jvm.Cond := Jvm.Cond.code x code maxLocals ret :: tables_1
/-- a 'code' word, met by the world's own term for the bytes: nothing is compared byte by byte -/
theorem code_word {y : MethodName} {bytes : ByteArray} {mx : Nat} {rt : Option FieldType} {a : Array Value} {s : State} {m : MethodId} {meth : Method} {c : Code} (h1 : s.methodNamed? y = some m) (h2 : s.vm.method? m = some meth) (h3 : meth.code = some c) (h4 : c.code = bytes)
    (h5 : (c.maxLocals == mx && c.exceptionTable.isEmpty && decide (c.maxStack ≤ mostOperands) && decide (meth.sig.returnType = rt) && !meth.locks && decide (parseMethodDescriptor y.desc = some meth.sig)) = true) : (Jvm.Cond.code y bytes mx rt).before a s = true := by
  simp only [Bool.and_eq_true, beq_iff_eq, Bool.not_eq_true', decide_eq_true_eq] at h5
  obtain ⟨⟨⟨⟨⟨g1, g2⟩, g3⟩, g4⟩, g5⟩, g6⟩ := h5
  simp [Cond.before, Cond.holds, Cond.value, h1, h2, h3, h4, g1, g2, g3, g4, g5, g6]
def isCode : Jvm.Cond → Bool
  | .code _ _ _ _ => true
  | _ => false
theorem all_split {L : List Jvm.Cond} {P : Jvm.Cond → Bool} (h1 : L.all (fun c => isCode c || P c) = true) (h2 : ∀ c ∈ L.filter isCode, P c = true) : L.all P = true := by
  refine List.all_eq_true.mpr fun c hc => ?_
  have h := List.all_eq_true.mp h1 c hc
  rcases Bool.eq_false_or_eq_true (isCode c) with hi | hi
  · exact h2 c (List.mem_filter.mpr ⟨hc, hi⟩)
  · simpa [hi] using h
set_option maxRecDepth 65536 in
theorem w_c0 : (Jvm.Cond.code x code maxLocals ret).before args0 about1 = true := code_word (m := ⟨1, 2⟩) (meth := k1m2) (c := k1c2) (by decide +kernel) rfl rfl rfl (by decide +kernel)
set_option maxRecDepth 65536 in
theorem w_c1 : (Jvm.Cond.code ({ cls := "com/example/nestdb/nestdb/store/XmlVersion", name := "onlyAsReference", desc := "(C)Z" } : Jvm.MethodName) prog_28_method_5_code (2 : Nat) (Option.some Jvm.ClassFile.FieldType.boolean)).before args0 about1 = true := code_word (m := ⟨6, 0⟩) (meth := k6m0) (c := k6c0) (by decide +kernel) rfl rfl rfl (by decide +kernel)
set_option maxRecDepth 65536 in
theorem w_c2 : (Jvm.Cond.code ({ cls := "com/example/nestdb/nestdb/store/XmlVersionOnlyAsReferencePinLaw", name := "expected", desc := "(ZC)Z" } : Jvm.MethodName) method_2_code (4 : Nat) (Option.some Jvm.ClassFile.FieldType.boolean)).before args0 about1 = true := code_word (m := ⟨1, 1⟩) (meth := k1m1) (c := k1c1) (by decide +kernel) rfl rfl rfl (by decide +kernel)
def codes1 : List Jvm.Cond := [Jvm.Cond.code x code maxLocals ret, Jvm.Cond.code ({ cls := "com/example/nestdb/nestdb/store/XmlVersion", name := "onlyAsReference", desc := "(C)Z" } : Jvm.MethodName) prog_28_method_5_code (2 : Nat) (Option.some Jvm.ClassFile.FieldType.boolean), Jvm.Cond.code ({ cls := "com/example/nestdb/nestdb/store/XmlVersionOnlyAsReferencePinLaw", name := "expected", desc := "(ZC)Z" } : Jvm.MethodName) method_2_code (4 : Nat) (Option.some Jvm.ClassFile.FieldType.boolean)]
set_option maxRecDepth 65536 in
theorem codes_eq : words1.filter isCode = codes1 := rfl
theorem w_codes : ∀ c ∈ words1.filter isCode, c.before args0 about1 = true := by
  rw [codes_eq]
  intro c hc
  simp only [codes1, List.mem_cons, List.not_mem_nil, or_false] at hc
  rcases hc with rfl | rfl | rfl
  · exact w_c0
  · exact w_c1
  · exact w_c2
set_option maxRecDepth 65536 in
theorem w_t1 : words1.all (fun c => isCode c || c.before args0 about1) = true := by decide +kernel
theorem w_tables : (allAtoms (Jvm.Cond.code x code maxLocals ret :: tables_1)).before args0 about1 = true := by
  rw [allAtoms_all]
  show words1.all (fun c => c.before args0 about1) = true
  refine all_split ?_ w_codes
  rw [w_t1]
set_option maxRecDepth 65536 in
theorem w_case : (Jvm.Cond.and given_1 narrow_1).before args0 about1 = true := by decide +kernel
theorem w_applies : (headSpec (Jvm.Cond.code x code maxLocals ret :: tables_1) room_1).applies x e0.platform about1 = true :=
  (Spec.applies_iff w_frames).mpr ⟨w_running, w_runnable, w_alone, w_named, w_hears, w_ripe, w_room, w_tables⟩
theorem atStart : AtStart classFile x code maxLocals ret World_1 tables_1 room_1 Calls_1 rest_1 Pre_1 launch0 p0 e0 about1 theMethod args0 below0 :=
  ⟨lists_1, trivial, launch0.admits_env _ _ _, launch0.least_env, fairChoices_fair.cas, fairChoices_fair.clock, w_frames, w_args, w_heap, w_applies, trivial, trivial, w_case⟩
end start1
theorem witness_1 : WitnessClaimed_1 := ⟨start1.p0, start1.e0, start1.about1, start1.theMethod, start1.args0, start1.below0, start1.atStart⟩
end Jvm.Pilot.@@N@@
