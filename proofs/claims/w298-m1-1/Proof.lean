import JvmDerived
import JvmDerived.Pilot.@@N@@Statement
import JvmDerived.Pilot.@@N@@Code
set_option linter.unusedVariables false
set_option linter.unusedSimpArgs false
namespace Jvm.RoadKit
open Sem ClassFile Op Lib Jvm.Stand Jvm.Free Jvm.LawKit
section New
variable {p : Program} {l : Launch} {e : Env} {R : Room} {s : State} {m : MethodId} {args : Array Value} {below : List Frame} {meth : Method} {c : Code} {T : State} {locs : List Loc} {cells slots : Nat}
theorem retI (X : Stand p l e R s m args below meth c T locs cells slots) (hx : p.tables.exec = Jvm.exec) {pc : Nat} {Ls : Array Slot} {z : Int32} {rest : List Value} (hret : meth.sig.returnType = some .int) (hd : decode c.code pc = .ok (.ireturn, 1)) {fs : List Frame}
    (hl : ∀ (f : JFrame) (acts : List Action), f.method = m → f.locked = none → f.entered = [] → (doReturn e (T.setTop f) acts (some (.int z))).1 = T.setFrames fs) : Steps p.tables e below (T.setTop (mkF m pc Ls (.int z :: rest))) (T.setFrames fs) := by
  have hm' : T.vm.method? m = some meth := X.method'
  have hn : narrow .int (.int z) = .int z := rfl
  show Steps p.tables e below (T.setTop { method := m, pc := pc, locals := Ls, stack := _ :: rest, locked := none }) _
  jvm_step X.here [X.here.top, hx, hd, hm', hret, hn]
  first | (intro acts; rw [hl _ acts rfl rfl rfl]) | rw [hl _ _ rfl rfl rfl]
  exact Steps.refl _
end New
end Jvm.RoadKit
namespace Jvm.Pilot.@@N@@
open Jvm Jvm.ClassFile Sem Op Lib Jvm.Free Jvm.Stand Jvm.LawKit Jvm.RoadKit Bundle Jvm.Pilot.@@N@@.Jvm.D
theorem d1_0 : decode prog_29_method_4_code 0 = .ok (.iload_n 0, 1) := by decide +kernel
theorem d1_1 : decode prog_29_method_4_code 1 = .ok (.bipush 58, 2) := by decide +kernel
theorem d1_3 : decode prog_29_method_4_code 3 = .ok (.if_icmp .eq 194, 3) := by decide +kernel
theorem d1_6 : decode prog_29_method_4_code 6 = .ok (.iload_n 0, 1) := by decide +kernel
theorem d1_7 : decode prog_29_method_4_code 7 = .ok (.bipush 65, 2) := by decide +kernel
theorem d1_9 : decode prog_29_method_4_code 9 = .ok (.if_icmp .lt 9, 3) := by decide +kernel
theorem d1_12 : decode prog_29_method_4_code 12 = .ok (.iload_n 0, 1) := by decide +kernel
theorem d1_13 : decode prog_29_method_4_code 13 = .ok (.bipush 90, 2) := by decide +kernel
theorem d1_15 : decode prog_29_method_4_code 15 = .ok (.if_icmp .le 182, 3) := by decide +kernel
theorem d1_18 : decode prog_29_method_4_code 18 = .ok (.iload_n 0, 1) := by decide +kernel
theorem d1_19 : decode prog_29_method_4_code 19 = .ok (.bipush 95, 2) := by decide +kernel
theorem d1_21 : decode prog_29_method_4_code 21 = .ok (.if_icmp .eq 176, 3) := by decide +kernel
theorem d1_24 : decode prog_29_method_4_code 24 = .ok (.iload_n 0, 1) := by decide +kernel
theorem d1_25 : decode prog_29_method_4_code 25 = .ok (.bipush 97, 2) := by decide +kernel
theorem d1_27 : decode prog_29_method_4_code 27 = .ok (.if_icmp .lt 9, 3) := by decide +kernel
theorem d1_30 : decode prog_29_method_4_code 30 = .ok (.iload_n 0, 1) := by decide +kernel
theorem d1_31 : decode prog_29_method_4_code 31 = .ok (.bipush 122, 2) := by decide +kernel
theorem d1_33 : decode prog_29_method_4_code 33 = .ok (.if_icmp .le 164, 3) := by decide +kernel
theorem d1_36 : decode prog_29_method_4_code 36 = .ok (.iload_n 0, 1) := by decide +kernel
theorem d1_37 : decode prog_29_method_4_code 37 = .ok (.sipush 192, 3) := by decide +kernel
theorem d1_40 : decode prog_29_method_4_code 40 = .ok (.if_icmp .lt 10, 3) := by decide +kernel
theorem d1_43 : decode prog_29_method_4_code 43 = .ok (.iload_n 0, 1) := by decide +kernel
theorem d1_44 : decode prog_29_method_4_code 44 = .ok (.sipush 214, 3) := by decide +kernel
theorem d1_47 : decode prog_29_method_4_code 47 = .ok (.if_icmp .le 150, 3) := by decide +kernel
theorem d1_50 : decode prog_29_method_4_code 50 = .ok (.iload_n 0, 1) := by decide +kernel
theorem d1_51 : decode prog_29_method_4_code 51 = .ok (.sipush 216, 3) := by decide +kernel
theorem d1_54 : decode prog_29_method_4_code 54 = .ok (.if_icmp .lt 10, 3) := by decide +kernel
theorem d1_57 : decode prog_29_method_4_code 57 = .ok (.iload_n 0, 1) := by decide +kernel
theorem d1_58 : decode prog_29_method_4_code 58 = .ok (.sipush 246, 3) := by decide +kernel
theorem d1_61 : decode prog_29_method_4_code 61 = .ok (.if_icmp .le 136, 3) := by decide +kernel
theorem d1_64 : decode prog_29_method_4_code 64 = .ok (.iload_n 0, 1) := by decide +kernel
theorem d1_65 : decode prog_29_method_4_code 65 = .ok (.sipush 248, 3) := by decide +kernel
theorem d1_68 : decode prog_29_method_4_code 68 = .ok (.if_icmp .lt 10, 3) := by decide +kernel
theorem d1_71 : decode prog_29_method_4_code 71 = .ok (.iload_n 0, 1) := by decide +kernel
theorem d1_72 : decode prog_29_method_4_code 72 = .ok (.sipush 767, 3) := by decide +kernel
theorem d1_75 : decode prog_29_method_4_code 75 = .ok (.if_icmp .le 122, 3) := by decide +kernel
theorem d1_78 : decode prog_29_method_4_code 78 = .ok (.iload_n 0, 1) := by decide +kernel
theorem d1_79 : decode prog_29_method_4_code 79 = .ok (.sipush 880, 3) := by decide +kernel
theorem d1_82 : decode prog_29_method_4_code 82 = .ok (.if_icmp .lt 10, 3) := by decide +kernel
theorem d1_85 : decode prog_29_method_4_code 85 = .ok (.iload_n 0, 1) := by decide +kernel
theorem d1_86 : decode prog_29_method_4_code 86 = .ok (.sipush 893, 3) := by decide +kernel
theorem d1_89 : decode prog_29_method_4_code 89 = .ok (.if_icmp .le 108, 3) := by decide +kernel
theorem d1_92 : decode prog_29_method_4_code 92 = .ok (.iload_n 0, 1) := by decide +kernel
theorem d1_93 : decode prog_29_method_4_code 93 = .ok (.sipush 895, 3) := by decide +kernel
theorem d1_96 : decode prog_29_method_4_code 96 = .ok (.if_icmp .lt 10, 3) := by decide +kernel
theorem d1_99 : decode prog_29_method_4_code 99 = .ok (.iload_n 0, 1) := by decide +kernel
theorem d1_100 : decode prog_29_method_4_code 100 = .ok (.sipush 8191, 3) := by decide +kernel
theorem d1_103 : decode prog_29_method_4_code 103 = .ok (.if_icmp .le 94, 3) := by decide +kernel
theorem d1_106 : decode prog_29_method_4_code 106 = .ok (.iload_n 0, 1) := by decide +kernel
theorem d1_107 : decode prog_29_method_4_code 107 = .ok (.sipush 8204, 3) := by decide +kernel
theorem d1_110 : decode prog_29_method_4_code 110 = .ok (.if_icmp .lt 10, 3) := by decide +kernel
theorem d1_113 : decode prog_29_method_4_code 113 = .ok (.iload_n 0, 1) := by decide +kernel
theorem d1_114 : decode prog_29_method_4_code 114 = .ok (.sipush 8205, 3) := by decide +kernel
theorem d1_117 : decode prog_29_method_4_code 117 = .ok (.if_icmp .le 80, 3) := by decide +kernel
theorem d1_120 : decode prog_29_method_4_code 120 = .ok (.iload_n 0, 1) := by decide +kernel
theorem d1_121 : decode prog_29_method_4_code 121 = .ok (.sipush 8304, 3) := by decide +kernel
theorem d1_124 : decode prog_29_method_4_code 124 = .ok (.if_icmp .lt 10, 3) := by decide +kernel
theorem d1_127 : decode prog_29_method_4_code 127 = .ok (.iload_n 0, 1) := by decide +kernel
theorem d1_128 : decode prog_29_method_4_code 128 = .ok (.sipush 8591, 3) := by decide +kernel
theorem d1_131 : decode prog_29_method_4_code 131 = .ok (.if_icmp .le 66, 3) := by decide +kernel
theorem d1_134 : decode prog_29_method_4_code 134 = .ok (.iload_n 0, 1) := by decide +kernel
theorem d1_135 : decode prog_29_method_4_code 135 = .ok (.sipush 11264, 3) := by decide +kernel
theorem d1_138 : decode prog_29_method_4_code 138 = .ok (.if_icmp .lt 10, 3) := by decide +kernel
theorem d1_141 : decode prog_29_method_4_code 141 = .ok (.iload_n 0, 1) := by decide +kernel
theorem d1_142 : decode prog_29_method_4_code 142 = .ok (.sipush 12271, 3) := by decide +kernel
theorem d1_145 : decode prog_29_method_4_code 145 = .ok (.if_icmp .le 52, 3) := by decide +kernel
theorem d1_148 : decode prog_29_method_4_code 148 = .ok (.iload_n 0, 1) := by decide +kernel
theorem d1_149 : decode prog_29_method_4_code 149 = .ok (.sipush 12289, 3) := by decide +kernel
theorem d1_152 : decode prog_29_method_4_code 152 = .ok (.if_icmp .lt 9, 3) := by decide +kernel
theorem d1_155 : decode prog_29_method_4_code 155 = .ok (.iload_n 0, 1) := by decide +kernel
theorem d1_156 : decode prog_29_method_4_code 156 = .ok (.ldc 7, 2) := by decide +kernel
theorem d1_158 : decode prog_29_method_4_code 158 = .ok (.if_icmp .le 39, 3) := by decide +kernel
theorem d1_161 : decode prog_29_method_4_code 161 = .ok (.iload_n 0, 1) := by decide +kernel
theorem d1_162 : decode prog_29_method_4_code 162 = .ok (.ldc 12, 2) := by decide +kernel
theorem d1_164 : decode prog_29_method_4_code 164 = .ok (.if_icmp .lt 9, 3) := by decide +kernel
theorem d1_167 : decode prog_29_method_4_code 167 = .ok (.iload_n 0, 1) := by decide +kernel
theorem d1_168 : decode prog_29_method_4_code 168 = .ok (.ldc 13, 2) := by decide +kernel
theorem d1_170 : decode prog_29_method_4_code 170 = .ok (.if_icmp .le 27, 3) := by decide +kernel
theorem d1_173 : decode prog_29_method_4_code 173 = .ok (.iload_n 0, 1) := by decide +kernel
theorem d1_174 : decode prog_29_method_4_code 174 = .ok (.ldc 14, 2) := by decide +kernel
theorem d1_176 : decode prog_29_method_4_code 176 = .ok (.if_icmp .lt 9, 3) := by decide +kernel
theorem d1_179 : decode prog_29_method_4_code 179 = .ok (.iload_n 0, 1) := by decide +kernel
theorem d1_180 : decode prog_29_method_4_code 180 = .ok (.ldc 9, 2) := by decide +kernel
theorem d1_182 : decode prog_29_method_4_code 182 = .ok (.if_icmp .le 15, 3) := by decide +kernel
theorem d1_185 : decode prog_29_method_4_code 185 = .ok (.iload_n 0, 1) := by decide +kernel
theorem d1_186 : decode prog_29_method_4_code 186 = .ok (.ldc 10, 2) := by decide +kernel
theorem d1_188 : decode prog_29_method_4_code 188 = .ok (.if_icmp .lt 13, 3) := by decide +kernel
theorem d1_191 : decode prog_29_method_4_code 191 = .ok (.iload_n 0, 1) := by decide +kernel
theorem d1_192 : decode prog_29_method_4_code 192 = .ok (.ldc 15, 2) := by decide +kernel
theorem d1_194 : decode prog_29_method_4_code 194 = .ok (.if_icmp .gt 7, 3) := by decide +kernel
theorem d1_197 : decode prog_29_method_4_code 197 = .ok (.iconst 1, 1) := by decide +kernel
theorem d1_198 : decode prog_29_method_4_code 198 = .ok (.goto 4, 3) := by decide +kernel
theorem d1_201 : decode prog_29_method_4_code 201 = .ok (.iconst 0, 1) := by decide +kernel
theorem d1_202 : decode prog_29_method_4_code 202 = .ok (.ireturn, 1) := by decide +kernel
theorem pn_1 : plainName "com/example/nestdb/nestdb/xml/XmlChars" = true := by first | (simp [plainName, overriddenIn]; done) | decide +kernel
theorem ef_1 (m : MethodId) (p1 : Int32) : entryFrame m #[(.int p1)] 1 = mkF m 0 #[.val (.int p1)] [] := by first | (simp [entryFrame, mkF, argsToLocals, Value.category]; done) | rfl
def F1_201 (p1 : Int32) : Int32 := (0 : Int32)
def F1_197 (p1 : Int32) : Int32 := (1 : Int32)
def F1_185 (p1 : Int32) : Int32 := (if p1 < (65536 : Int32) then (F1_201 p1) else (if (983039 : Int32) < p1 then (F1_201 p1) else (F1_197 p1)))
def F1_173 (p1 : Int32) : Int32 := (if p1 < (65008 : Int32) then (F1_185 p1) else (if (65533 : Int32) < p1 then (F1_185 p1) else (F1_197 p1)))
def F1_161 (p1 : Int32) : Int32 := (if p1 < (63744 : Int32) then (F1_173 p1) else (if (64975 : Int32) < p1 then (F1_173 p1) else (F1_197 p1)))
def F1_148 (p1 : Int32) : Int32 := (if p1 < (12289 : Int32) then (F1_161 p1) else (if (55295 : Int32) < p1 then (F1_161 p1) else (F1_197 p1)))
def F1_134 (p1 : Int32) : Int32 := (if p1 < (11264 : Int32) then (F1_148 p1) else (if (12271 : Int32) < p1 then (F1_148 p1) else (F1_197 p1)))
def F1_120 (p1 : Int32) : Int32 := (if p1 < (8304 : Int32) then (F1_134 p1) else (if (8591 : Int32) < p1 then (F1_134 p1) else (F1_197 p1)))
def F1_106 (p1 : Int32) : Int32 := (if p1 < (8204 : Int32) then (F1_120 p1) else (if (8205 : Int32) < p1 then (F1_120 p1) else (F1_197 p1)))
def F1_92 (p1 : Int32) : Int32 := (if p1 < (895 : Int32) then (F1_106 p1) else (if (8191 : Int32) < p1 then (F1_106 p1) else (F1_197 p1)))
def F1_78 (p1 : Int32) : Int32 := (if p1 < (880 : Int32) then (F1_92 p1) else (if (893 : Int32) < p1 then (F1_92 p1) else (F1_197 p1)))
def F1_64 (p1 : Int32) : Int32 := (if p1 < (248 : Int32) then (F1_78 p1) else (if (767 : Int32) < p1 then (F1_78 p1) else (F1_197 p1)))
def F1_50 (p1 : Int32) : Int32 := (if p1 < (216 : Int32) then (F1_64 p1) else (if (246 : Int32) < p1 then (F1_64 p1) else (F1_197 p1)))
def F1_36 (p1 : Int32) : Int32 := (if p1 < (192 : Int32) then (F1_50 p1) else (if (214 : Int32) < p1 then (F1_50 p1) else (F1_197 p1)))
def F1_18 (p1 : Int32) : Int32 := (if p1 = (95 : Int32) then (F1_197 p1) else (if p1 < (97 : Int32) then (F1_36 p1) else (if (122 : Int32) < p1 then (F1_36 p1) else (F1_197 p1))))
def F1_0 (p1 : Int32) : Int32 := (if p1 = (58 : Int32) then (F1_197 p1) else (if p1 < (65 : Int32) then (F1_18 p1) else (if (90 : Int32) < p1 then (F1_18 p1) else (F1_197 p1))))
def Q1 (Z : State) (p1 : Int32) (h0 : Heap) (n0 : Nat) (v : Option Value) (h : Heap) (L : List Loc) : Prop := v = some (.int (F1_0 p1)) ∧ Fr n0 L ∧ h = h0
set_option maxRecDepth 65536 in
set_option maxHeartbeats 40000000 in
theorem rm1 (l : Launch) (Z : State) (a0 : Array Value) (hw : ∀ d ∈ tables_1, d.before a0 Z = true) (ws : List Jvm.Cond) (p1 : Int32) (h0 : Heap) (n0 : Nat) (Z0 : n0 ≤ h0.size) :
    MetFree l (⟨"com/example/nestdb/nestdb/xml/XmlChars", "isNameStartChar", "(I)Z"⟩ : MethodName) (head1 (Jvm.Cond.code (⟨"com/example/nestdb/nestdb/xml/XmlChars", "isNameStartChar", "(I)Z"⟩ : MethodName) prog_29_method_4_code 1 (some .boolean) :: ws) ({ frames := 0, cells := 0, slots := 0, locals := 0 } : Room)) (fun a U => a = #[(.int p1)] ∧ Z.Warmed39 U.vm ∧ U.heap = h0) (fun _ _ _ _ _ => True) (fun _ U o U' => ∃ v L, o = .returned v ∧ Q1 Z p1 h0 n0 v U'.heap L ∧ FrameEnd U o U' L ({ frames := 0, cells := 0, slots := 0, locals := 0 } : Room).cells ({ frames := 0, cells := 0, slots := 0, locals := 0 } : Room).slots) := by
  refine MetFree.of_bodySF (plainFor_of_name pn_1) hisR ?_
  intro p e s m args below meth c s₁ Bd hml0 hP hK
  obtain ⟨rfl, hZ, hh⟩ := hP
  have hx := Bd.exec
  have hby := Bd.bytes
  have hml : c.maxLocals = 1 := hml0
  have hown : s.vm.findClass "com/example/nestdb/nestdb/xml/XmlChars" = some m.cls := findClass_of_methodNamed Bd.named
  have hnm := (name_of_methodNamed Bd.named Bd.method).1
  have X0 : Stand p l e ({ frames := 0, cells := 0, slots := 0, locals := 0 } : Room) s m #[(.int p1)] below meth c s₁ [] 0 0 := Stand.of_body Bd
  have e0 : s₁.heap = h0 := by rw [← hh, Bd.state]; rfl
  have N0 := Fr.nil n0
  have pre0 : ∀ t, Steps p.tables e below (s₁.setTop (mkF m 0 #[.val (.int p1)] [])) t → Steps p.tables e below (s₁.setTop (entryFrame m #[(.int p1)] 1)) t := fun t k => castTop (ef_1 m p1) k
  obtain ⟨fs, hr, hrun, hended, hW, hsame⟩ := X0.leave (v := some (.int (F1_0 p1))) (fun h => by rw [Bd.returns] at h; cases h) Bd.notSynchronized
  refine ⟨_, _, pre0 _ ?_, hrun, hended, _, _, rfl, ?_, ⟨_, rfl⟩, hW, hsame.mono (by decide) (by decide)⟩
  · have j201 : ∀ (hF : F1_0 p1 = F1_201 p1), Steps p.tables e below (s₁.setTop (mkF m 201 #[.val (.int p1)] [])) (s₁.setFrames fs) := by
      intro hF
      show Steps p.tables e below (s₁.setTop (mkF m 201 #[.val (.int p1)] [])) _
      refine XS.iconst X0.here hx rfl (hb hby d1_201) ?_
      show Steps p.tables e below (s₁.setTop (mkF m 202 #[.val (.int p1)] [(.int (0 : Int32))])) _
      have hv := (hF.trans (by rw [F1_201] : _ = (0 : Int32)))
      rw [hv] at hr
      exact retN X0 hx (t := .boolean) Bd.returns (by simp) (hb hby d1_202) hr
    have j197 : ∀ (hF : F1_0 p1 = F1_197 p1), Steps p.tables e below (s₁.setTop (mkF m 197 #[.val (.int p1)] [])) (s₁.setFrames fs) := by
      intro hF
      show Steps p.tables e below (s₁.setTop (mkF m 197 #[.val (.int p1)] [])) _
      refine XS.iconst X0.here hx rfl (hb hby d1_197) ?_
      show Steps p.tables e below (s₁.setTop (mkF m 198 #[.val (.int p1)] [(.int (1 : Int32))])) _
      refine XS.goto X0.here hx rfl (pc0 := 198) (pc' := 202) rfl (hb hby d1_198) (by decide) (by decide) ?_
      show Steps p.tables e below (s₁.setTop (mkF m 202 #[.val (.int p1)] [(.int (1 : Int32))])) _
      have hv := (hF.trans (by rw [F1_197] : _ = (1 : Int32)))
      rw [hv] at hr
      exact retN X0 hx (t := .boolean) Bd.returns (by simp) (hb hby d1_202) hr
    have j185 : ∀ (hF : F1_0 p1 = F1_185 p1), Steps p.tables e below (s₁.setTop (mkF m 185 #[.val (.int p1)] [])) (s₁.setFrames fs) := by
      intro hF
      show Steps p.tables e below (s₁.setTop (mkF m 185 #[.val (.int p1)] [])) _
      refine XS.iloadN X0.here hx rfl (hb hby d1_185) rfl ?_
      show Steps p.tables e below (s₁.setTop (mkF m 186 #[.val (.int p1)] [(.int p1)])) _
      refine X0.ldcInt hx hown (mvT hZ (hw _ (List.mem_of_getElem? (i := 7) rfl))) (g := (mkF m 186 #[.val (.int p1)] [(.int p1)])) rfl (hb hby d1_186) _ ?_
      show Steps p.tables e below (s₁.setTop (mkF m 188 #[.val (.int p1)] [(.int (65536 : Int32)), (.int p1)])) _
      by_cases hc188 : p1 < (65536 : Int32)
      · refine XS.icmpYes X0.here hx rfl (pc0 := 188) (pc' := 201) rfl (hb hby d1_188) rfl (tlt hc188).1 (by decide) (by decide) ?_
        exact j201 (hF.trans (by rw [F1_185, if_pos hc188]))
      · refine XS.icmpNo X0.here hx rfl (hb hby d1_188) rfl (flt hc188).1 ?_
        show Steps p.tables e below (s₁.setTop (mkF m 191 #[.val (.int p1)] [])) _
        refine XS.iloadN X0.here hx rfl (hb hby d1_191) rfl ?_
        show Steps p.tables e below (s₁.setTop (mkF m 192 #[.val (.int p1)] [(.int p1)])) _
        refine X0.ldcInt hx hown (mvT hZ (hw _ (List.mem_of_getElem? (i := 23) rfl))) (g := (mkF m 192 #[.val (.int p1)] [(.int p1)])) rfl (hb hby d1_192) _ ?_
        show Steps p.tables e below (s₁.setTop (mkF m 194 #[.val (.int p1)] [(.int (983039 : Int32)), (.int p1)])) _
        by_cases hc194 : (983039 : Int32) < p1
        · refine XS.icmpYes X0.here hx rfl (pc0 := 194) (pc' := 201) rfl (hb hby d1_194) rfl (tlt hc194).2.2.1 (by decide) (by decide) ?_
          exact j201 (hF.trans (by rw [F1_185, if_neg hc188, if_pos hc194]))
        · refine XS.icmpNo X0.here hx rfl (hb hby d1_194) rfl (flt hc194).2.2.1 ?_
          exact j197 (hF.trans (by rw [F1_185, if_neg hc188, if_neg hc194]))
    have j173 : ∀ (hF : F1_0 p1 = F1_173 p1), Steps p.tables e below (s₁.setTop (mkF m 173 #[.val (.int p1)] [])) (s₁.setFrames fs) := by
      intro hF
      show Steps p.tables e below (s₁.setTop (mkF m 173 #[.val (.int p1)] [])) _
      refine XS.iloadN X0.here hx rfl (hb hby d1_173) rfl ?_
      show Steps p.tables e below (s₁.setTop (mkF m 174 #[.val (.int p1)] [(.int p1)])) _
      refine X0.ldcInt hx hown (mvT hZ (hw _ (List.mem_of_getElem? (i := 6) rfl))) (g := (mkF m 174 #[.val (.int p1)] [(.int p1)])) rfl (hb hby d1_174) _ ?_
      show Steps p.tables e below (s₁.setTop (mkF m 176 #[.val (.int p1)] [(.int (65008 : Int32)), (.int p1)])) _
      by_cases hc176 : p1 < (65008 : Int32)
      · refine XS.icmpYes X0.here hx rfl (pc0 := 176) (pc' := 185) rfl (hb hby d1_176) rfl (tlt hc176).1 (by decide) (by decide) ?_
        exact j185 (hF.trans (by rw [F1_173, if_pos hc176]))
      · refine XS.icmpNo X0.here hx rfl (hb hby d1_176) rfl (flt hc176).1 ?_
        show Steps p.tables e below (s₁.setTop (mkF m 179 #[.val (.int p1)] [])) _
        refine XS.iloadN X0.here hx rfl (hb hby d1_179) rfl ?_
        show Steps p.tables e below (s₁.setTop (mkF m 180 #[.val (.int p1)] [(.int p1)])) _
        refine X0.ldcInt hx hown (mvT hZ (hw _ (List.mem_of_getElem? (i := 22) rfl))) (g := (mkF m 180 #[.val (.int p1)] [(.int p1)])) rfl (hb hby d1_180) _ ?_
        show Steps p.tables e below (s₁.setTop (mkF m 182 #[.val (.int p1)] [(.int (65533 : Int32)), (.int p1)])) _
        by_cases hc182 : (65533 : Int32) < p1
        · refine XS.icmpNo X0.here hx rfl (hb hby d1_182) rfl (tlt hc182).2.2.2 ?_
          exact j185 (hF.trans (by rw [F1_173, if_neg hc176, if_pos hc182]))
        · refine XS.icmpYes X0.here hx rfl (pc0 := 182) (pc' := 197) rfl (hb hby d1_182) rfl (flt hc182).2.2.2 (by decide) (by decide) ?_
          exact j197 (hF.trans (by rw [F1_173, if_neg hc176, if_neg hc182]))
    have j161 : ∀ (hF : F1_0 p1 = F1_161 p1), Steps p.tables e below (s₁.setTop (mkF m 161 #[.val (.int p1)] [])) (s₁.setFrames fs) := by
      intro hF
      show Steps p.tables e below (s₁.setTop (mkF m 161 #[.val (.int p1)] [])) _
      refine XS.iloadN X0.here hx rfl (hb hby d1_161) rfl ?_
      show Steps p.tables e below (s₁.setTop (mkF m 162 #[.val (.int p1)] [(.int p1)])) _
      refine X0.ldcInt hx hown (mvT hZ (hw _ (List.mem_of_getElem? (i := 5) rfl))) (g := (mkF m 162 #[.val (.int p1)] [(.int p1)])) rfl (hb hby d1_162) _ ?_
      show Steps p.tables e below (s₁.setTop (mkF m 164 #[.val (.int p1)] [(.int (63744 : Int32)), (.int p1)])) _
      by_cases hc164 : p1 < (63744 : Int32)
      · refine XS.icmpYes X0.here hx rfl (pc0 := 164) (pc' := 173) rfl (hb hby d1_164) rfl (tlt hc164).1 (by decide) (by decide) ?_
        exact j173 (hF.trans (by rw [F1_161, if_pos hc164]))
      · refine XS.icmpNo X0.here hx rfl (hb hby d1_164) rfl (flt hc164).1 ?_
        show Steps p.tables e below (s₁.setTop (mkF m 167 #[.val (.int p1)] [])) _
        refine XS.iloadN X0.here hx rfl (hb hby d1_167) rfl ?_
        show Steps p.tables e below (s₁.setTop (mkF m 168 #[.val (.int p1)] [(.int p1)])) _
        refine X0.ldcInt hx hown (mvT hZ (hw _ (List.mem_of_getElem? (i := 21) rfl))) (g := (mkF m 168 #[.val (.int p1)] [(.int p1)])) rfl (hb hby d1_168) _ ?_
        show Steps p.tables e below (s₁.setTop (mkF m 170 #[.val (.int p1)] [(.int (64975 : Int32)), (.int p1)])) _
        by_cases hc170 : (64975 : Int32) < p1
        · refine XS.icmpNo X0.here hx rfl (hb hby d1_170) rfl (tlt hc170).2.2.2 ?_
          exact j173 (hF.trans (by rw [F1_161, if_neg hc164, if_pos hc170]))
        · refine XS.icmpYes X0.here hx rfl (pc0 := 170) (pc' := 197) rfl (hb hby d1_170) rfl (flt hc170).2.2.2 (by decide) (by decide) ?_
          exact j197 (hF.trans (by rw [F1_161, if_neg hc164, if_neg hc170]))
    have j148 : ∀ (hF : F1_0 p1 = F1_148 p1), Steps p.tables e below (s₁.setTop (mkF m 148 #[.val (.int p1)] [])) (s₁.setFrames fs) := by
      intro hF
      show Steps p.tables e below (s₁.setTop (mkF m 148 #[.val (.int p1)] [])) _
      refine XS.iloadN X0.here hx rfl (hb hby d1_148) rfl ?_
      show Steps p.tables e below (s₁.setTop (mkF m 149 #[.val (.int p1)] [(.int p1)])) _
      refine XS.sipush X0.here hx rfl (hb hby d1_149) ?_
      show Steps p.tables e below (s₁.setTop (mkF m 152 #[.val (.int p1)] [(.int (12289 : Int32)), (.int p1)])) _
      by_cases hc152 : p1 < (12289 : Int32)
      · refine XS.icmpYes X0.here hx rfl (pc0 := 152) (pc' := 161) rfl (hb hby d1_152) rfl (tlt hc152).1 (by decide) (by decide) ?_
        exact j161 (hF.trans (by rw [F1_148, if_pos hc152]))
      · refine XS.icmpNo X0.here hx rfl (hb hby d1_152) rfl (flt hc152).1 ?_
        show Steps p.tables e below (s₁.setTop (mkF m 155 #[.val (.int p1)] [])) _
        refine XS.iloadN X0.here hx rfl (hb hby d1_155) rfl ?_
        show Steps p.tables e below (s₁.setTop (mkF m 156 #[.val (.int p1)] [(.int p1)])) _
        refine X0.ldcInt hx hown (mvT hZ (hw _ (List.mem_of_getElem? (i := 20) rfl))) (g := (mkF m 156 #[.val (.int p1)] [(.int p1)])) rfl (hb hby d1_156) _ ?_
        show Steps p.tables e below (s₁.setTop (mkF m 158 #[.val (.int p1)] [(.int (55295 : Int32)), (.int p1)])) _
        by_cases hc158 : (55295 : Int32) < p1
        · refine XS.icmpNo X0.here hx rfl (hb hby d1_158) rfl (tlt hc158).2.2.2 ?_
          exact j161 (hF.trans (by rw [F1_148, if_neg hc152, if_pos hc158]))
        · refine XS.icmpYes X0.here hx rfl (pc0 := 158) (pc' := 197) rfl (hb hby d1_158) rfl (flt hc158).2.2.2 (by decide) (by decide) ?_
          exact j197 (hF.trans (by rw [F1_148, if_neg hc152, if_neg hc158]))
    have j134 : ∀ (hF : F1_0 p1 = F1_134 p1), Steps p.tables e below (s₁.setTop (mkF m 134 #[.val (.int p1)] [])) (s₁.setFrames fs) := by
      intro hF
      show Steps p.tables e below (s₁.setTop (mkF m 134 #[.val (.int p1)] [])) _
      refine XS.iloadN X0.here hx rfl (hb hby d1_134) rfl ?_
      show Steps p.tables e below (s₁.setTop (mkF m 135 #[.val (.int p1)] [(.int p1)])) _
      refine XS.sipush X0.here hx rfl (hb hby d1_135) ?_
      show Steps p.tables e below (s₁.setTop (mkF m 138 #[.val (.int p1)] [(.int (11264 : Int32)), (.int p1)])) _
      by_cases hc138 : p1 < (11264 : Int32)
      · refine XS.icmpYes X0.here hx rfl (pc0 := 138) (pc' := 148) rfl (hb hby d1_138) rfl (tlt hc138).1 (by decide) (by decide) ?_
        exact j148 (hF.trans (by rw [F1_134, if_pos hc138]))
      · refine XS.icmpNo X0.here hx rfl (hb hby d1_138) rfl (flt hc138).1 ?_
        show Steps p.tables e below (s₁.setTop (mkF m 141 #[.val (.int p1)] [])) _
        refine XS.iloadN X0.here hx rfl (hb hby d1_141) rfl ?_
        show Steps p.tables e below (s₁.setTop (mkF m 142 #[.val (.int p1)] [(.int p1)])) _
        refine XS.sipush X0.here hx rfl (hb hby d1_142) ?_
        show Steps p.tables e below (s₁.setTop (mkF m 145 #[.val (.int p1)] [(.int (12271 : Int32)), (.int p1)])) _
        by_cases hc145 : (12271 : Int32) < p1
        · refine XS.icmpNo X0.here hx rfl (hb hby d1_145) rfl (tlt hc145).2.2.2 ?_
          exact j148 (hF.trans (by rw [F1_134, if_neg hc138, if_pos hc145]))
        · refine XS.icmpYes X0.here hx rfl (pc0 := 145) (pc' := 197) rfl (hb hby d1_145) rfl (flt hc145).2.2.2 (by decide) (by decide) ?_
          exact j197 (hF.trans (by rw [F1_134, if_neg hc138, if_neg hc145]))
    have j120 : ∀ (hF : F1_0 p1 = F1_120 p1), Steps p.tables e below (s₁.setTop (mkF m 120 #[.val (.int p1)] [])) (s₁.setFrames fs) := by
      intro hF
      show Steps p.tables e below (s₁.setTop (mkF m 120 #[.val (.int p1)] [])) _
      refine XS.iloadN X0.here hx rfl (hb hby d1_120) rfl ?_
      show Steps p.tables e below (s₁.setTop (mkF m 121 #[.val (.int p1)] [(.int p1)])) _
      refine XS.sipush X0.here hx rfl (hb hby d1_121) ?_
      show Steps p.tables e below (s₁.setTop (mkF m 124 #[.val (.int p1)] [(.int (8304 : Int32)), (.int p1)])) _
      by_cases hc124 : p1 < (8304 : Int32)
      · refine XS.icmpYes X0.here hx rfl (pc0 := 124) (pc' := 134) rfl (hb hby d1_124) rfl (tlt hc124).1 (by decide) (by decide) ?_
        exact j134 (hF.trans (by rw [F1_120, if_pos hc124]))
      · refine XS.icmpNo X0.here hx rfl (hb hby d1_124) rfl (flt hc124).1 ?_
        show Steps p.tables e below (s₁.setTop (mkF m 127 #[.val (.int p1)] [])) _
        refine XS.iloadN X0.here hx rfl (hb hby d1_127) rfl ?_
        show Steps p.tables e below (s₁.setTop (mkF m 128 #[.val (.int p1)] [(.int p1)])) _
        refine XS.sipush X0.here hx rfl (hb hby d1_128) ?_
        show Steps p.tables e below (s₁.setTop (mkF m 131 #[.val (.int p1)] [(.int (8591 : Int32)), (.int p1)])) _
        by_cases hc131 : (8591 : Int32) < p1
        · refine XS.icmpNo X0.here hx rfl (hb hby d1_131) rfl (tlt hc131).2.2.2 ?_
          exact j134 (hF.trans (by rw [F1_120, if_neg hc124, if_pos hc131]))
        · refine XS.icmpYes X0.here hx rfl (pc0 := 131) (pc' := 197) rfl (hb hby d1_131) rfl (flt hc131).2.2.2 (by decide) (by decide) ?_
          exact j197 (hF.trans (by rw [F1_120, if_neg hc124, if_neg hc131]))
    have j106 : ∀ (hF : F1_0 p1 = F1_106 p1), Steps p.tables e below (s₁.setTop (mkF m 106 #[.val (.int p1)] [])) (s₁.setFrames fs) := by
      intro hF
      show Steps p.tables e below (s₁.setTop (mkF m 106 #[.val (.int p1)] [])) _
      refine XS.iloadN X0.here hx rfl (hb hby d1_106) rfl ?_
      show Steps p.tables e below (s₁.setTop (mkF m 107 #[.val (.int p1)] [(.int p1)])) _
      refine XS.sipush X0.here hx rfl (hb hby d1_107) ?_
      show Steps p.tables e below (s₁.setTop (mkF m 110 #[.val (.int p1)] [(.int (8204 : Int32)), (.int p1)])) _
      by_cases hc110 : p1 < (8204 : Int32)
      · refine XS.icmpYes X0.here hx rfl (pc0 := 110) (pc' := 120) rfl (hb hby d1_110) rfl (tlt hc110).1 (by decide) (by decide) ?_
        exact j120 (hF.trans (by rw [F1_106, if_pos hc110]))
      · refine XS.icmpNo X0.here hx rfl (hb hby d1_110) rfl (flt hc110).1 ?_
        show Steps p.tables e below (s₁.setTop (mkF m 113 #[.val (.int p1)] [])) _
        refine XS.iloadN X0.here hx rfl (hb hby d1_113) rfl ?_
        show Steps p.tables e below (s₁.setTop (mkF m 114 #[.val (.int p1)] [(.int p1)])) _
        refine XS.sipush X0.here hx rfl (hb hby d1_114) ?_
        show Steps p.tables e below (s₁.setTop (mkF m 117 #[.val (.int p1)] [(.int (8205 : Int32)), (.int p1)])) _
        by_cases hc117 : (8205 : Int32) < p1
        · refine XS.icmpNo X0.here hx rfl (hb hby d1_117) rfl (tlt hc117).2.2.2 ?_
          exact j120 (hF.trans (by rw [F1_106, if_neg hc110, if_pos hc117]))
        · refine XS.icmpYes X0.here hx rfl (pc0 := 117) (pc' := 197) rfl (hb hby d1_117) rfl (flt hc117).2.2.2 (by decide) (by decide) ?_
          exact j197 (hF.trans (by rw [F1_106, if_neg hc110, if_neg hc117]))
    have j92 : ∀ (hF : F1_0 p1 = F1_92 p1), Steps p.tables e below (s₁.setTop (mkF m 92 #[.val (.int p1)] [])) (s₁.setFrames fs) := by
      intro hF
      show Steps p.tables e below (s₁.setTop (mkF m 92 #[.val (.int p1)] [])) _
      refine XS.iloadN X0.here hx rfl (hb hby d1_92) rfl ?_
      show Steps p.tables e below (s₁.setTop (mkF m 93 #[.val (.int p1)] [(.int p1)])) _
      refine XS.sipush X0.here hx rfl (hb hby d1_93) ?_
      show Steps p.tables e below (s₁.setTop (mkF m 96 #[.val (.int p1)] [(.int (895 : Int32)), (.int p1)])) _
      by_cases hc96 : p1 < (895 : Int32)
      · refine XS.icmpYes X0.here hx rfl (pc0 := 96) (pc' := 106) rfl (hb hby d1_96) rfl (tlt hc96).1 (by decide) (by decide) ?_
        exact j106 (hF.trans (by rw [F1_92, if_pos hc96]))
      · refine XS.icmpNo X0.here hx rfl (hb hby d1_96) rfl (flt hc96).1 ?_
        show Steps p.tables e below (s₁.setTop (mkF m 99 #[.val (.int p1)] [])) _
        refine XS.iloadN X0.here hx rfl (hb hby d1_99) rfl ?_
        show Steps p.tables e below (s₁.setTop (mkF m 100 #[.val (.int p1)] [(.int p1)])) _
        refine XS.sipush X0.here hx rfl (hb hby d1_100) ?_
        show Steps p.tables e below (s₁.setTop (mkF m 103 #[.val (.int p1)] [(.int (8191 : Int32)), (.int p1)])) _
        by_cases hc103 : (8191 : Int32) < p1
        · refine XS.icmpNo X0.here hx rfl (hb hby d1_103) rfl (tlt hc103).2.2.2 ?_
          exact j106 (hF.trans (by rw [F1_92, if_neg hc96, if_pos hc103]))
        · refine XS.icmpYes X0.here hx rfl (pc0 := 103) (pc' := 197) rfl (hb hby d1_103) rfl (flt hc103).2.2.2 (by decide) (by decide) ?_
          exact j197 (hF.trans (by rw [F1_92, if_neg hc96, if_neg hc103]))
    have j78 : ∀ (hF : F1_0 p1 = F1_78 p1), Steps p.tables e below (s₁.setTop (mkF m 78 #[.val (.int p1)] [])) (s₁.setFrames fs) := by
      intro hF
      show Steps p.tables e below (s₁.setTop (mkF m 78 #[.val (.int p1)] [])) _
      refine XS.iloadN X0.here hx rfl (hb hby d1_78) rfl ?_
      show Steps p.tables e below (s₁.setTop (mkF m 79 #[.val (.int p1)] [(.int p1)])) _
      refine XS.sipush X0.here hx rfl (hb hby d1_79) ?_
      show Steps p.tables e below (s₁.setTop (mkF m 82 #[.val (.int p1)] [(.int (880 : Int32)), (.int p1)])) _
      by_cases hc82 : p1 < (880 : Int32)
      · refine XS.icmpYes X0.here hx rfl (pc0 := 82) (pc' := 92) rfl (hb hby d1_82) rfl (tlt hc82).1 (by decide) (by decide) ?_
        exact j92 (hF.trans (by rw [F1_78, if_pos hc82]))
      · refine XS.icmpNo X0.here hx rfl (hb hby d1_82) rfl (flt hc82).1 ?_
        show Steps p.tables e below (s₁.setTop (mkF m 85 #[.val (.int p1)] [])) _
        refine XS.iloadN X0.here hx rfl (hb hby d1_85) rfl ?_
        show Steps p.tables e below (s₁.setTop (mkF m 86 #[.val (.int p1)] [(.int p1)])) _
        refine XS.sipush X0.here hx rfl (hb hby d1_86) ?_
        show Steps p.tables e below (s₁.setTop (mkF m 89 #[.val (.int p1)] [(.int (893 : Int32)), (.int p1)])) _
        by_cases hc89 : (893 : Int32) < p1
        · refine XS.icmpNo X0.here hx rfl (hb hby d1_89) rfl (tlt hc89).2.2.2 ?_
          exact j92 (hF.trans (by rw [F1_78, if_neg hc82, if_pos hc89]))
        · refine XS.icmpYes X0.here hx rfl (pc0 := 89) (pc' := 197) rfl (hb hby d1_89) rfl (flt hc89).2.2.2 (by decide) (by decide) ?_
          exact j197 (hF.trans (by rw [F1_78, if_neg hc82, if_neg hc89]))
    have j64 : ∀ (hF : F1_0 p1 = F1_64 p1), Steps p.tables e below (s₁.setTop (mkF m 64 #[.val (.int p1)] [])) (s₁.setFrames fs) := by
      intro hF
      show Steps p.tables e below (s₁.setTop (mkF m 64 #[.val (.int p1)] [])) _
      refine XS.iloadN X0.here hx rfl (hb hby d1_64) rfl ?_
      show Steps p.tables e below (s₁.setTop (mkF m 65 #[.val (.int p1)] [(.int p1)])) _
      refine XS.sipush X0.here hx rfl (hb hby d1_65) ?_
      show Steps p.tables e below (s₁.setTop (mkF m 68 #[.val (.int p1)] [(.int (248 : Int32)), (.int p1)])) _
      by_cases hc68 : p1 < (248 : Int32)
      · refine XS.icmpYes X0.here hx rfl (pc0 := 68) (pc' := 78) rfl (hb hby d1_68) rfl (tlt hc68).1 (by decide) (by decide) ?_
        exact j78 (hF.trans (by rw [F1_64, if_pos hc68]))
      · refine XS.icmpNo X0.here hx rfl (hb hby d1_68) rfl (flt hc68).1 ?_
        show Steps p.tables e below (s₁.setTop (mkF m 71 #[.val (.int p1)] [])) _
        refine XS.iloadN X0.here hx rfl (hb hby d1_71) rfl ?_
        show Steps p.tables e below (s₁.setTop (mkF m 72 #[.val (.int p1)] [(.int p1)])) _
        refine XS.sipush X0.here hx rfl (hb hby d1_72) ?_
        show Steps p.tables e below (s₁.setTop (mkF m 75 #[.val (.int p1)] [(.int (767 : Int32)), (.int p1)])) _
        by_cases hc75 : (767 : Int32) < p1
        · refine XS.icmpNo X0.here hx rfl (hb hby d1_75) rfl (tlt hc75).2.2.2 ?_
          exact j78 (hF.trans (by rw [F1_64, if_neg hc68, if_pos hc75]))
        · refine XS.icmpYes X0.here hx rfl (pc0 := 75) (pc' := 197) rfl (hb hby d1_75) rfl (flt hc75).2.2.2 (by decide) (by decide) ?_
          exact j197 (hF.trans (by rw [F1_64, if_neg hc68, if_neg hc75]))
    have j50 : ∀ (hF : F1_0 p1 = F1_50 p1), Steps p.tables e below (s₁.setTop (mkF m 50 #[.val (.int p1)] [])) (s₁.setFrames fs) := by
      intro hF
      show Steps p.tables e below (s₁.setTop (mkF m 50 #[.val (.int p1)] [])) _
      refine XS.iloadN X0.here hx rfl (hb hby d1_50) rfl ?_
      show Steps p.tables e below (s₁.setTop (mkF m 51 #[.val (.int p1)] [(.int p1)])) _
      refine XS.sipush X0.here hx rfl (hb hby d1_51) ?_
      show Steps p.tables e below (s₁.setTop (mkF m 54 #[.val (.int p1)] [(.int (216 : Int32)), (.int p1)])) _
      by_cases hc54 : p1 < (216 : Int32)
      · refine XS.icmpYes X0.here hx rfl (pc0 := 54) (pc' := 64) rfl (hb hby d1_54) rfl (tlt hc54).1 (by decide) (by decide) ?_
        exact j64 (hF.trans (by rw [F1_50, if_pos hc54]))
      · refine XS.icmpNo X0.here hx rfl (hb hby d1_54) rfl (flt hc54).1 ?_
        show Steps p.tables e below (s₁.setTop (mkF m 57 #[.val (.int p1)] [])) _
        refine XS.iloadN X0.here hx rfl (hb hby d1_57) rfl ?_
        show Steps p.tables e below (s₁.setTop (mkF m 58 #[.val (.int p1)] [(.int p1)])) _
        refine XS.sipush X0.here hx rfl (hb hby d1_58) ?_
        show Steps p.tables e below (s₁.setTop (mkF m 61 #[.val (.int p1)] [(.int (246 : Int32)), (.int p1)])) _
        by_cases hc61 : (246 : Int32) < p1
        · refine XS.icmpNo X0.here hx rfl (hb hby d1_61) rfl (tlt hc61).2.2.2 ?_
          exact j64 (hF.trans (by rw [F1_50, if_neg hc54, if_pos hc61]))
        · refine XS.icmpYes X0.here hx rfl (pc0 := 61) (pc' := 197) rfl (hb hby d1_61) rfl (flt hc61).2.2.2 (by decide) (by decide) ?_
          exact j197 (hF.trans (by rw [F1_50, if_neg hc54, if_neg hc61]))
    have j36 : ∀ (hF : F1_0 p1 = F1_36 p1), Steps p.tables e below (s₁.setTop (mkF m 36 #[.val (.int p1)] [])) (s₁.setFrames fs) := by
      intro hF
      show Steps p.tables e below (s₁.setTop (mkF m 36 #[.val (.int p1)] [])) _
      refine XS.iloadN X0.here hx rfl (hb hby d1_36) rfl ?_
      show Steps p.tables e below (s₁.setTop (mkF m 37 #[.val (.int p1)] [(.int p1)])) _
      refine XS.sipush X0.here hx rfl (hb hby d1_37) ?_
      show Steps p.tables e below (s₁.setTop (mkF m 40 #[.val (.int p1)] [(.int (192 : Int32)), (.int p1)])) _
      by_cases hc40 : p1 < (192 : Int32)
      · refine XS.icmpYes X0.here hx rfl (pc0 := 40) (pc' := 50) rfl (hb hby d1_40) rfl (tlt hc40).1 (by decide) (by decide) ?_
        exact j50 (hF.trans (by rw [F1_36, if_pos hc40]))
      · refine XS.icmpNo X0.here hx rfl (hb hby d1_40) rfl (flt hc40).1 ?_
        show Steps p.tables e below (s₁.setTop (mkF m 43 #[.val (.int p1)] [])) _
        refine XS.iloadN X0.here hx rfl (hb hby d1_43) rfl ?_
        show Steps p.tables e below (s₁.setTop (mkF m 44 #[.val (.int p1)] [(.int p1)])) _
        refine XS.sipush X0.here hx rfl (hb hby d1_44) ?_
        show Steps p.tables e below (s₁.setTop (mkF m 47 #[.val (.int p1)] [(.int (214 : Int32)), (.int p1)])) _
        by_cases hc47 : (214 : Int32) < p1
        · refine XS.icmpNo X0.here hx rfl (hb hby d1_47) rfl (tlt hc47).2.2.2 ?_
          exact j50 (hF.trans (by rw [F1_36, if_neg hc40, if_pos hc47]))
        · refine XS.icmpYes X0.here hx rfl (pc0 := 47) (pc' := 197) rfl (hb hby d1_47) rfl (flt hc47).2.2.2 (by decide) (by decide) ?_
          exact j197 (hF.trans (by rw [F1_36, if_neg hc40, if_neg hc47]))
    have j18 : ∀ (hF : F1_0 p1 = F1_18 p1), Steps p.tables e below (s₁.setTop (mkF m 18 #[.val (.int p1)] [])) (s₁.setFrames fs) := by
      intro hF
      show Steps p.tables e below (s₁.setTop (mkF m 18 #[.val (.int p1)] [])) _
      refine XS.iloadN X0.here hx rfl (hb hby d1_18) rfl ?_
      show Steps p.tables e below (s₁.setTop (mkF m 19 #[.val (.int p1)] [(.int p1)])) _
      refine XS.bipush X0.here hx rfl (hb hby d1_19) ?_
      show Steps p.tables e below (s₁.setTop (mkF m 21 #[.val (.int p1)] [(.int (95 : Int32)), (.int p1)])) _
      by_cases hc21 : p1 = (95 : Int32)
      · refine XS.icmpYes X0.here hx rfl (pc0 := 21) (pc' := 197) rfl (hb hby d1_21) rfl (teq hc21).1 (by decide) (by decide) ?_
        exact j197 (hF.trans (by rw [F1_18, if_pos hc21]))
      · refine XS.icmpNo X0.here hx rfl (hb hby d1_21) rfl (feq hc21).1 ?_
        show Steps p.tables e below (s₁.setTop (mkF m 24 #[.val (.int p1)] [])) _
        refine XS.iloadN X0.here hx rfl (hb hby d1_24) rfl ?_
        show Steps p.tables e below (s₁.setTop (mkF m 25 #[.val (.int p1)] [(.int p1)])) _
        refine XS.bipush X0.here hx rfl (hb hby d1_25) ?_
        show Steps p.tables e below (s₁.setTop (mkF m 27 #[.val (.int p1)] [(.int (97 : Int32)), (.int p1)])) _
        by_cases hc27 : p1 < (97 : Int32)
        · refine XS.icmpYes X0.here hx rfl (pc0 := 27) (pc' := 36) rfl (hb hby d1_27) rfl (tlt hc27).1 (by decide) (by decide) ?_
          exact j36 (hF.trans (by rw [F1_18, if_neg hc21, if_pos hc27]))
        · refine XS.icmpNo X0.here hx rfl (hb hby d1_27) rfl (flt hc27).1 ?_
          show Steps p.tables e below (s₁.setTop (mkF m 30 #[.val (.int p1)] [])) _
          refine XS.iloadN X0.here hx rfl (hb hby d1_30) rfl ?_
          show Steps p.tables e below (s₁.setTop (mkF m 31 #[.val (.int p1)] [(.int p1)])) _
          refine XS.bipush X0.here hx rfl (hb hby d1_31) ?_
          show Steps p.tables e below (s₁.setTop (mkF m 33 #[.val (.int p1)] [(.int (122 : Int32)), (.int p1)])) _
          by_cases hc33 : (122 : Int32) < p1
          · refine XS.icmpNo X0.here hx rfl (hb hby d1_33) rfl (tlt hc33).2.2.2 ?_
            exact j36 (hF.trans (by rw [F1_18, if_neg hc21, if_neg hc27, if_pos hc33]))
          · refine XS.icmpYes X0.here hx rfl (pc0 := 33) (pc' := 197) rfl (hb hby d1_33) rfl (flt hc33).2.2.2 (by decide) (by decide) ?_
            exact j197 (hF.trans (by rw [F1_18, if_neg hc21, if_neg hc27, if_neg hc33]))
    have j0 : ∀ (hF : F1_0 p1 = F1_0 p1), Steps p.tables e below (s₁.setTop (mkF m 0 #[.val (.int p1)] [])) (s₁.setFrames fs) := by
      intro hF
      show Steps p.tables e below (s₁.setTop (mkF m 0 #[.val (.int p1)] [])) _
      refine XS.iloadN X0.here hx rfl (hb hby d1_0) rfl ?_
      show Steps p.tables e below (s₁.setTop (mkF m 1 #[.val (.int p1)] [(.int p1)])) _
      refine XS.bipush X0.here hx rfl (hb hby d1_1) ?_
      show Steps p.tables e below (s₁.setTop (mkF m 3 #[.val (.int p1)] [(.int (58 : Int32)), (.int p1)])) _
      by_cases hc3 : p1 = (58 : Int32)
      · refine XS.icmpYes X0.here hx rfl (pc0 := 3) (pc' := 197) rfl (hb hby d1_3) rfl (teq hc3).1 (by decide) (by decide) ?_
        exact j197 (hF.trans (by rw [F1_0, if_pos hc3]))
      · refine XS.icmpNo X0.here hx rfl (hb hby d1_3) rfl (feq hc3).1 ?_
        show Steps p.tables e below (s₁.setTop (mkF m 6 #[.val (.int p1)] [])) _
        refine XS.iloadN X0.here hx rfl (hb hby d1_6) rfl ?_
        show Steps p.tables e below (s₁.setTop (mkF m 7 #[.val (.int p1)] [(.int p1)])) _
        refine XS.bipush X0.here hx rfl (hb hby d1_7) ?_
        show Steps p.tables e below (s₁.setTop (mkF m 9 #[.val (.int p1)] [(.int (65 : Int32)), (.int p1)])) _
        by_cases hc9 : p1 < (65 : Int32)
        · refine XS.icmpYes X0.here hx rfl (pc0 := 9) (pc' := 18) rfl (hb hby d1_9) rfl (tlt hc9).1 (by decide) (by decide) ?_
          exact j18 (hF.trans (by rw [F1_0, if_neg hc3, if_pos hc9]))
        · refine XS.icmpNo X0.here hx rfl (hb hby d1_9) rfl (flt hc9).1 ?_
          show Steps p.tables e below (s₁.setTop (mkF m 12 #[.val (.int p1)] [])) _
          refine XS.iloadN X0.here hx rfl (hb hby d1_12) rfl ?_
          show Steps p.tables e below (s₁.setTop (mkF m 13 #[.val (.int p1)] [(.int p1)])) _
          refine XS.bipush X0.here hx rfl (hb hby d1_13) ?_
          show Steps p.tables e below (s₁.setTop (mkF m 15 #[.val (.int p1)] [(.int (90 : Int32)), (.int p1)])) _
          by_cases hc15 : (90 : Int32) < p1
          · refine XS.icmpNo X0.here hx rfl (hb hby d1_15) rfl (tlt hc15).2.2.2 ?_
            exact j18 (hF.trans (by rw [F1_0, if_neg hc3, if_neg hc9, if_pos hc15]))
          · refine XS.icmpYes X0.here hx rfl (pc0 := 15) (pc' := 197) rfl (hb hby d1_15) rfl (flt hc15).2.2.2 (by decide) (by decide) ?_
            exact j197 (hF.trans (by rw [F1_0, if_neg hc3, if_neg hc9, if_neg hc15]))
    exact j0 rfl
  · show Q1 Z p1 h0 n0 _ s₁.heap _
    rw [e0]
    exact ⟨rfl, N0, rfl⟩
theorem d2_0 : decode method_2_code 0 = .ok (.iload_n 0, 1) := by decide +kernel
theorem d2_1 : decode method_2_code 1 = .ok (.bipush 58, 2) := by decide +kernel
theorem d2_3 : decode method_2_code 3 = .ok (.if_icmp .lt 9, 3) := by decide +kernel
theorem d2_6 : decode method_2_code 6 = .ok (.iload_n 0, 1) := by decide +kernel
theorem d2_7 : decode method_2_code 7 = .ok (.ldc 7, 2) := by decide +kernel
theorem d2_9 : decode method_2_code 9 = .ok (.if_icmp .le 5, 3) := by decide +kernel
theorem d2_12 : decode method_2_code 12 = .ok (.iconst 0, 1) := by decide +kernel
theorem d2_13 : decode method_2_code 13 = .ok (.ireturn, 1) := by decide +kernel
theorem d2_14 : decode method_2_code 14 = .ok (.iload_n 0, 1) := by decide +kernel
theorem d2_15 : decode method_2_code 15 = .ok (.bipush 59, 2) := by decide +kernel
theorem d2_17 : decode method_2_code 17 = .ok (.if_icmp .lt 11, 3) := by decide +kernel
theorem d2_20 : decode method_2_code 20 = .ok (.iload_n 0, 1) := by decide +kernel
theorem d2_21 : decode method_2_code 21 = .ok (.bipush 64, 2) := by decide +kernel
theorem d2_23 : decode method_2_code 23 = .ok (.if_icmp .gt 5, 3) := by decide +kernel
theorem d2_26 : decode method_2_code 26 = .ok (.iconst 0, 1) := by decide +kernel
theorem d2_27 : decode method_2_code 27 = .ok (.ireturn, 1) := by decide +kernel
theorem d2_28 : decode method_2_code 28 = .ok (.iload_n 0, 1) := by decide +kernel
theorem d2_29 : decode method_2_code 29 = .ok (.bipush 91, 2) := by decide +kernel
theorem d2_31 : decode method_2_code 31 = .ok (.if_icmp .lt 11, 3) := by decide +kernel
theorem d2_34 : decode method_2_code 34 = .ok (.iload_n 0, 1) := by decide +kernel
theorem d2_35 : decode method_2_code 35 = .ok (.bipush 94, 2) := by decide +kernel
theorem d2_37 : decode method_2_code 37 = .ok (.if_icmp .gt 5, 3) := by decide +kernel
theorem d2_40 : decode method_2_code 40 = .ok (.iconst 0, 1) := by decide +kernel
theorem d2_41 : decode method_2_code 41 = .ok (.ireturn, 1) := by decide +kernel
theorem d2_42 : decode method_2_code 42 = .ok (.iload_n 0, 1) := by decide +kernel
theorem d2_43 : decode method_2_code 43 = .ok (.bipush 96, 2) := by decide +kernel
theorem d2_45 : decode method_2_code 45 = .ok (.if_icmp .ne 5, 3) := by decide +kernel
theorem d2_48 : decode method_2_code 48 = .ok (.iconst 0, 1) := by decide +kernel
theorem d2_49 : decode method_2_code 49 = .ok (.ireturn, 1) := by decide +kernel
theorem d2_50 : decode method_2_code 50 = .ok (.iload_n 0, 1) := by decide +kernel
theorem d2_51 : decode method_2_code 51 = .ok (.bipush 123, 2) := by decide +kernel
theorem d2_53 : decode method_2_code 53 = .ok (.if_icmp .lt 12, 3) := by decide +kernel
theorem d2_56 : decode method_2_code 56 = .ok (.iload_n 0, 1) := by decide +kernel
theorem d2_57 : decode method_2_code 57 = .ok (.sipush 191, 3) := by decide +kernel
theorem d2_60 : decode method_2_code 60 = .ok (.if_icmp .gt 5, 3) := by decide +kernel
theorem d2_63 : decode method_2_code 63 = .ok (.iconst 0, 1) := by decide +kernel
theorem d2_64 : decode method_2_code 64 = .ok (.ireturn, 1) := by decide +kernel
theorem d2_65 : decode method_2_code 65 = .ok (.iload_n 0, 1) := by decide +kernel
theorem d2_66 : decode method_2_code 66 = .ok (.sipush 215, 3) := by decide +kernel
theorem d2_69 : decode method_2_code 69 = .ok (.if_icmp .eq 10, 3) := by decide +kernel
theorem d2_72 : decode method_2_code 72 = .ok (.iload_n 0, 1) := by decide +kernel
theorem d2_73 : decode method_2_code 73 = .ok (.sipush 247, 3) := by decide +kernel
theorem d2_76 : decode method_2_code 76 = .ok (.if_icmp .ne 5, 3) := by decide +kernel
theorem d2_79 : decode method_2_code 79 = .ok (.iconst 0, 1) := by decide +kernel
theorem d2_80 : decode method_2_code 80 = .ok (.ireturn, 1) := by decide +kernel
theorem d2_81 : decode method_2_code 81 = .ok (.iload_n 0, 1) := by decide +kernel
theorem d2_82 : decode method_2_code 82 = .ok (.sipush 768, 3) := by decide +kernel
theorem d2_85 : decode method_2_code 85 = .ok (.if_icmp .lt 12, 3) := by decide +kernel
theorem d2_88 : decode method_2_code 88 = .ok (.iload_n 0, 1) := by decide +kernel
theorem d2_89 : decode method_2_code 89 = .ok (.sipush 879, 3) := by decide +kernel
theorem d2_92 : decode method_2_code 92 = .ok (.if_icmp .gt 5, 3) := by decide +kernel
theorem d2_95 : decode method_2_code 95 = .ok (.iconst 0, 1) := by decide +kernel
theorem d2_96 : decode method_2_code 96 = .ok (.ireturn, 1) := by decide +kernel
theorem d2_97 : decode method_2_code 97 = .ok (.iload_n 0, 1) := by decide +kernel
theorem d2_98 : decode method_2_code 98 = .ok (.sipush 894, 3) := by decide +kernel
theorem d2_101 : decode method_2_code 101 = .ok (.if_icmp .ne 5, 3) := by decide +kernel
theorem d2_104 : decode method_2_code 104 = .ok (.iconst 0, 1) := by decide +kernel
theorem d2_105 : decode method_2_code 105 = .ok (.ireturn, 1) := by decide +kernel
theorem d2_106 : decode method_2_code 106 = .ok (.iload_n 0, 1) := by decide +kernel
theorem d2_107 : decode method_2_code 107 = .ok (.sipush 8192, 3) := by decide +kernel
theorem d2_110 : decode method_2_code 110 = .ok (.if_icmp .lt 12, 3) := by decide +kernel
theorem d2_113 : decode method_2_code 113 = .ok (.iload_n 0, 1) := by decide +kernel
theorem d2_114 : decode method_2_code 114 = .ok (.sipush 8203, 3) := by decide +kernel
theorem d2_117 : decode method_2_code 117 = .ok (.if_icmp .gt 5, 3) := by decide +kernel
theorem d2_120 : decode method_2_code 120 = .ok (.iconst 0, 1) := by decide +kernel
theorem d2_121 : decode method_2_code 121 = .ok (.ireturn, 1) := by decide +kernel
theorem d2_122 : decode method_2_code 122 = .ok (.iload_n 0, 1) := by decide +kernel
theorem d2_123 : decode method_2_code 123 = .ok (.sipush 8206, 3) := by decide +kernel
theorem d2_126 : decode method_2_code 126 = .ok (.if_icmp .lt 12, 3) := by decide +kernel
theorem d2_129 : decode method_2_code 129 = .ok (.iload_n 0, 1) := by decide +kernel
theorem d2_130 : decode method_2_code 130 = .ok (.sipush 8303, 3) := by decide +kernel
theorem d2_133 : decode method_2_code 133 = .ok (.if_icmp .gt 5, 3) := by decide +kernel
theorem d2_136 : decode method_2_code 136 = .ok (.iconst 0, 1) := by decide +kernel
theorem d2_137 : decode method_2_code 137 = .ok (.ireturn, 1) := by decide +kernel
theorem d2_138 : decode method_2_code 138 = .ok (.iload_n 0, 1) := by decide +kernel
theorem d2_139 : decode method_2_code 139 = .ok (.sipush 8592, 3) := by decide +kernel
theorem d2_142 : decode method_2_code 142 = .ok (.if_icmp .lt 12, 3) := by decide +kernel
theorem d2_145 : decode method_2_code 145 = .ok (.iload_n 0, 1) := by decide +kernel
theorem d2_146 : decode method_2_code 146 = .ok (.sipush 11263, 3) := by decide +kernel
theorem d2_149 : decode method_2_code 149 = .ok (.if_icmp .gt 5, 3) := by decide +kernel
theorem d2_152 : decode method_2_code 152 = .ok (.iconst 0, 1) := by decide +kernel
theorem d2_153 : decode method_2_code 153 = .ok (.ireturn, 1) := by decide +kernel
theorem d2_154 : decode method_2_code 154 = .ok (.iload_n 0, 1) := by decide +kernel
theorem d2_155 : decode method_2_code 155 = .ok (.sipush 12272, 3) := by decide +kernel
theorem d2_158 : decode method_2_code 158 = .ok (.if_icmp .lt 12, 3) := by decide +kernel
theorem d2_161 : decode method_2_code 161 = .ok (.iload_n 0, 1) := by decide +kernel
theorem d2_162 : decode method_2_code 162 = .ok (.sipush 12288, 3) := by decide +kernel
theorem d2_165 : decode method_2_code 165 = .ok (.if_icmp .gt 5, 3) := by decide +kernel
theorem d2_168 : decode method_2_code 168 = .ok (.iconst 0, 1) := by decide +kernel
theorem d2_169 : decode method_2_code 169 = .ok (.ireturn, 1) := by decide +kernel
theorem d2_170 : decode method_2_code 170 = .ok (.iload_n 0, 1) := by decide +kernel
theorem d2_171 : decode method_2_code 171 = .ok (.ldc 8, 2) := by decide +kernel
theorem d2_173 : decode method_2_code 173 = .ok (.if_icmp .lt 11, 3) := by decide +kernel
theorem d2_176 : decode method_2_code 176 = .ok (.iload_n 0, 1) := by decide +kernel
theorem d2_177 : decode method_2_code 177 = .ok (.ldc 9, 2) := by decide +kernel
theorem d2_179 : decode method_2_code 179 = .ok (.if_icmp .gt 5, 3) := by decide +kernel
theorem d2_182 : decode method_2_code 182 = .ok (.iconst 0, 1) := by decide +kernel
theorem d2_183 : decode method_2_code 183 = .ok (.ireturn, 1) := by decide +kernel
theorem d2_184 : decode method_2_code 184 = .ok (.iload_n 0, 1) := by decide +kernel
theorem d2_185 : decode method_2_code 185 = .ok (.ldc 10, 2) := by decide +kernel
theorem d2_187 : decode method_2_code 187 = .ok (.if_icmp .lt 11, 3) := by decide +kernel
theorem d2_190 : decode method_2_code 190 = .ok (.iload_n 0, 1) := by decide +kernel
theorem d2_191 : decode method_2_code 191 = .ok (.ldc 11, 2) := by decide +kernel
theorem d2_193 : decode method_2_code 193 = .ok (.if_icmp .gt 5, 3) := by decide +kernel
theorem d2_196 : decode method_2_code 196 = .ok (.iconst 0, 1) := by decide +kernel
theorem d2_197 : decode method_2_code 197 = .ok (.ireturn, 1) := by decide +kernel
theorem d2_198 : decode method_2_code 198 = .ok (.iload_n 0, 1) := by decide +kernel
theorem d2_199 : decode method_2_code 199 = .ok (.ldc 12, 2) := by decide +kernel
theorem d2_201 : decode method_2_code 201 = .ok (.if_icmp .eq 9, 3) := by decide +kernel
theorem d2_204 : decode method_2_code 204 = .ok (.iload_n 0, 1) := by decide +kernel
theorem d2_205 : decode method_2_code 205 = .ok (.ldc 13, 2) := by decide +kernel
theorem d2_207 : decode method_2_code 207 = .ok (.if_icmp .ne 5, 3) := by decide +kernel
theorem d2_210 : decode method_2_code 210 = .ok (.iconst 0, 1) := by decide +kernel
theorem d2_211 : decode method_2_code 211 = .ok (.ireturn, 1) := by decide +kernel
theorem d2_212 : decode method_2_code 212 = .ok (.iconst 1, 1) := by decide +kernel
theorem d2_213 : decode method_2_code 213 = .ok (.ireturn, 1) := by decide +kernel
theorem pn_2 : plainName "com/example/nestdb/nestdb/xml/XmlCharsIsNameStartCharPinLaw" = true := by first | (simp [plainName, overriddenIn]; done) | decide +kernel
theorem ef_2 (m : MethodId) (p1 : Int32) : entryFrame m #[(.int p1)] 1 = mkF m 0 #[.val (.int p1)] [] := by first | (simp [entryFrame, mkF, argsToLocals, Value.category]; done) | rfl
def F2_210 (p1 : Int32) : Int32 := (0 : Int32)
def F2_198 (p1 : Int32) : Int32 := (if p1 = (65534 : Int32) then (F2_210 p1) else (if p1 = (65535 : Int32) then (F2_210 p1) else (1 : Int32)))
def F2_184 (p1 : Int32) : Int32 := (if p1 < (64976 : Int32) then (F2_198 p1) else (if (65007 : Int32) < p1 then (F2_198 p1) else (0 : Int32)))
def F2_170 (p1 : Int32) : Int32 := (if p1 < (55296 : Int32) then (F2_184 p1) else (if (63743 : Int32) < p1 then (F2_184 p1) else (0 : Int32)))
def F2_154 (p1 : Int32) : Int32 := (if p1 < (12272 : Int32) then (F2_170 p1) else (if (12288 : Int32) < p1 then (F2_170 p1) else (0 : Int32)))
def F2_138 (p1 : Int32) : Int32 := (if p1 < (8592 : Int32) then (F2_154 p1) else (if (11263 : Int32) < p1 then (F2_154 p1) else (0 : Int32)))
def F2_122 (p1 : Int32) : Int32 := (if p1 < (8206 : Int32) then (F2_138 p1) else (if (8303 : Int32) < p1 then (F2_138 p1) else (0 : Int32)))
def F2_97 (p1 : Int32) : Int32 := (if p1 = (894 : Int32) then (0 : Int32) else (if p1 < (8192 : Int32) then (F2_122 p1) else (if (8203 : Int32) < p1 then (F2_122 p1) else (0 : Int32))))
def F2_79 (p1 : Int32) : Int32 := (0 : Int32)
def F2_65 (p1 : Int32) : Int32 := (if p1 = (215 : Int32) then (F2_79 p1) else (if p1 = (247 : Int32) then (F2_79 p1) else (if p1 < (768 : Int32) then (F2_97 p1) else (if (879 : Int32) < p1 then (F2_97 p1) else (0 : Int32)))))
def F2_42 (p1 : Int32) : Int32 := (if p1 = (96 : Int32) then (0 : Int32) else (if p1 < (123 : Int32) then (F2_65 p1) else (if (191 : Int32) < p1 then (F2_65 p1) else (0 : Int32))))
def F2_28 (p1 : Int32) : Int32 := (if p1 < (91 : Int32) then (F2_42 p1) else (if (94 : Int32) < p1 then (F2_42 p1) else (0 : Int32)))
def F2_12 (p1 : Int32) : Int32 := (0 : Int32)
def F2_0 (p1 : Int32) : Int32 := (if p1 < (58 : Int32) then (F2_12 p1) else (if (983039 : Int32) < p1 then (F2_12 p1) else (if p1 < (59 : Int32) then (F2_28 p1) else (if (64 : Int32) < p1 then (F2_28 p1) else (0 : Int32)))))
def Q2 (Z : State) (p1 : Int32) (h0 : Heap) (n0 : Nat) (v : Option Value) (h : Heap) (L : List Loc) : Prop := v = some (.int (F2_0 p1)) ∧ Fr n0 L ∧ h = h0
set_option maxRecDepth 65536 in
set_option maxHeartbeats 40000000 in
theorem rm2 (l : Launch) (Z : State) (a0 : Array Value) (hw : ∀ d ∈ tables_1, d.before a0 Z = true) (ws : List Jvm.Cond) (p1 : Int32) (h0 : Heap) (n0 : Nat) (Z0 : n0 ≤ h0.size) :
    MetFree l (⟨"com/example/nestdb/nestdb/xml/XmlCharsIsNameStartCharPinLaw", "ref", "(I)Z"⟩ : MethodName) (head1 (Jvm.Cond.code (⟨"com/example/nestdb/nestdb/xml/XmlCharsIsNameStartCharPinLaw", "ref", "(I)Z"⟩ : MethodName) method_2_code 1 (some .boolean) :: ws) ({ frames := 0, cells := 0, slots := 0, locals := 0 } : Room)) (fun a U => a = #[(.int p1)] ∧ Z.Warmed39 U.vm ∧ U.heap = h0) (fun _ _ _ _ _ => True) (fun _ U o U' => ∃ v L, o = .returned v ∧ Q2 Z p1 h0 n0 v U'.heap L ∧ FrameEnd U o U' L ({ frames := 0, cells := 0, slots := 0, locals := 0 } : Room).cells ({ frames := 0, cells := 0, slots := 0, locals := 0 } : Room).slots) := by
  refine MetFree.of_bodySF (plainFor_of_name pn_2) hisR ?_
  intro p e s m args below meth c s₁ Bd hml0 hP hK
  obtain ⟨rfl, hZ, hh⟩ := hP
  have hx := Bd.exec
  have hby := Bd.bytes
  have hml : c.maxLocals = 1 := hml0
  have hown : s.vm.findClass "com/example/nestdb/nestdb/xml/XmlCharsIsNameStartCharPinLaw" = some m.cls := findClass_of_methodNamed Bd.named
  have hnm := (name_of_methodNamed Bd.named Bd.method).1
  have X0 : Stand p l e ({ frames := 0, cells := 0, slots := 0, locals := 0 } : Room) s m #[(.int p1)] below meth c s₁ [] 0 0 := Stand.of_body Bd
  have e0 : s₁.heap = h0 := by rw [← hh, Bd.state]; rfl
  have N0 := Fr.nil n0
  have pre0 : ∀ t, Steps p.tables e below (s₁.setTop (mkF m 0 #[.val (.int p1)] [])) t → Steps p.tables e below (s₁.setTop (entryFrame m #[(.int p1)] 1)) t := fun t k => castTop (ef_2 m p1) k
  obtain ⟨fs, hr, hrun, hended, hW, hsame⟩ := X0.leave (v := some (.int (F2_0 p1))) (fun h => by rw [Bd.returns] at h; cases h) Bd.notSynchronized
  refine ⟨_, _, pre0 _ ?_, hrun, hended, _, _, rfl, ?_, ⟨_, rfl⟩, hW, hsame.mono (by decide) (by decide)⟩
  · have j210 : ∀ (hF : F2_0 p1 = F2_210 p1), Steps p.tables e below (s₁.setTop (mkF m 210 #[.val (.int p1)] [])) (s₁.setFrames fs) := by
      intro hF
      show Steps p.tables e below (s₁.setTop (mkF m 210 #[.val (.int p1)] [])) _
      refine XS.iconst X0.here hx rfl (hb hby d2_210) ?_
      show Steps p.tables e below (s₁.setTop (mkF m 211 #[.val (.int p1)] [(.int (0 : Int32))])) _
      have hv := (hF.trans (by rw [F2_210] : _ = (0 : Int32)))
      rw [hv] at hr
      exact retN X0 hx (t := .boolean) Bd.returns (by simp) (hb hby d2_211) hr
    have j198 : ∀ (hF : F2_0 p1 = F2_198 p1), Steps p.tables e below (s₁.setTop (mkF m 198 #[.val (.int p1)] [])) (s₁.setFrames fs) := by
      intro hF
      show Steps p.tables e below (s₁.setTop (mkF m 198 #[.val (.int p1)] [])) _
      refine XS.iloadN X0.here hx rfl (hb hby d2_198) rfl ?_
      show Steps p.tables e below (s₁.setTop (mkF m 199 #[.val (.int p1)] [(.int p1)])) _
      refine X0.ldcInt hx hown (mvT hZ (hw _ (List.mem_of_getElem? (i := 15) rfl))) (g := (mkF m 199 #[.val (.int p1)] [(.int p1)])) rfl (hb hby d2_199) _ ?_
      show Steps p.tables e below (s₁.setTop (mkF m 201 #[.val (.int p1)] [(.int (65534 : Int32)), (.int p1)])) _
      by_cases hc201 : p1 = (65534 : Int32)
      · refine XS.icmpYes X0.here hx rfl (pc0 := 201) (pc' := 210) rfl (hb hby d2_201) rfl (teq hc201).1 (by decide) (by decide) ?_
        exact j210 (hF.trans (by rw [F2_198, if_pos hc201]))
      · refine XS.icmpNo X0.here hx rfl (hb hby d2_201) rfl (feq hc201).1 ?_
        show Steps p.tables e below (s₁.setTop (mkF m 204 #[.val (.int p1)] [])) _
        refine XS.iloadN X0.here hx rfl (hb hby d2_204) rfl ?_
        show Steps p.tables e below (s₁.setTop (mkF m 205 #[.val (.int p1)] [(.int p1)])) _
        refine X0.ldcInt hx hown (mvT hZ (hw _ (List.mem_of_getElem? (i := 16) rfl))) (g := (mkF m 205 #[.val (.int p1)] [(.int p1)])) rfl (hb hby d2_205) _ ?_
        show Steps p.tables e below (s₁.setTop (mkF m 207 #[.val (.int p1)] [(.int (65535 : Int32)), (.int p1)])) _
        by_cases hc207 : p1 = (65535 : Int32)
        · refine XS.icmpNo X0.here hx rfl (hb hby d2_207) rfl (teq hc207).2 ?_
          exact j210 (hF.trans (by rw [F2_198, if_neg hc201, if_pos hc207]))
        · refine XS.icmpYes X0.here hx rfl (pc0 := 207) (pc' := 212) rfl (hb hby d2_207) rfl (feq hc207).2 (by decide) (by decide) ?_
          show Steps p.tables e below (s₁.setTop (mkF m 212 #[.val (.int p1)] [])) _
          refine XS.iconst X0.here hx rfl (hb hby d2_212) ?_
          show Steps p.tables e below (s₁.setTop (mkF m 213 #[.val (.int p1)] [(.int (1 : Int32))])) _
          have hv := (hF.trans (by rw [F2_198, if_neg hc201, if_neg hc207] : _ = (1 : Int32)))
          rw [hv] at hr
          exact retN X0 hx (t := .boolean) Bd.returns (by simp) (hb hby d2_213) hr
    have j184 : ∀ (hF : F2_0 p1 = F2_184 p1), Steps p.tables e below (s₁.setTop (mkF m 184 #[.val (.int p1)] [])) (s₁.setFrames fs) := by
      intro hF
      show Steps p.tables e below (s₁.setTop (mkF m 184 #[.val (.int p1)] [])) _
      refine XS.iloadN X0.here hx rfl (hb hby d2_184) rfl ?_
      show Steps p.tables e below (s₁.setTop (mkF m 185 #[.val (.int p1)] [(.int p1)])) _
      refine X0.ldcInt hx hown (mvT hZ (hw _ (List.mem_of_getElem? (i := 14) rfl))) (g := (mkF m 185 #[.val (.int p1)] [(.int p1)])) rfl (hb hby d2_185) _ ?_
      show Steps p.tables e below (s₁.setTop (mkF m 187 #[.val (.int p1)] [(.int (64976 : Int32)), (.int p1)])) _
      by_cases hc187 : p1 < (64976 : Int32)
      · refine XS.icmpYes X0.here hx rfl (pc0 := 187) (pc' := 198) rfl (hb hby d2_187) rfl (tlt hc187).1 (by decide) (by decide) ?_
        exact j198 (hF.trans (by rw [F2_184, if_pos hc187]))
      · refine XS.icmpNo X0.here hx rfl (hb hby d2_187) rfl (flt hc187).1 ?_
        show Steps p.tables e below (s₁.setTop (mkF m 190 #[.val (.int p1)] [])) _
        refine XS.iloadN X0.here hx rfl (hb hby d2_190) rfl ?_
        show Steps p.tables e below (s₁.setTop (mkF m 191 #[.val (.int p1)] [(.int p1)])) _
        refine X0.ldcInt hx hown (mvT hZ (hw _ (List.mem_of_getElem? (i := 25) rfl))) (g := (mkF m 191 #[.val (.int p1)] [(.int p1)])) rfl (hb hby d2_191) _ ?_
        show Steps p.tables e below (s₁.setTop (mkF m 193 #[.val (.int p1)] [(.int (65007 : Int32)), (.int p1)])) _
        by_cases hc193 : (65007 : Int32) < p1
        · refine XS.icmpYes X0.here hx rfl (pc0 := 193) (pc' := 198) rfl (hb hby d2_193) rfl (tlt hc193).2.2.1 (by decide) (by decide) ?_
          exact j198 (hF.trans (by rw [F2_184, if_neg hc187, if_pos hc193]))
        · refine XS.icmpNo X0.here hx rfl (hb hby d2_193) rfl (flt hc193).2.2.1 ?_
          show Steps p.tables e below (s₁.setTop (mkF m 196 #[.val (.int p1)] [])) _
          refine XS.iconst X0.here hx rfl (hb hby d2_196) ?_
          show Steps p.tables e below (s₁.setTop (mkF m 197 #[.val (.int p1)] [(.int (0 : Int32))])) _
          have hv := (hF.trans (by rw [F2_184, if_neg hc187, if_neg hc193] : _ = (0 : Int32)))
          rw [hv] at hr
          exact retN X0 hx (t := .boolean) Bd.returns (by simp) (hb hby d2_197) hr
    have j170 : ∀ (hF : F2_0 p1 = F2_170 p1), Steps p.tables e below (s₁.setTop (mkF m 170 #[.val (.int p1)] [])) (s₁.setFrames fs) := by
      intro hF
      show Steps p.tables e below (s₁.setTop (mkF m 170 #[.val (.int p1)] [])) _
      refine XS.iloadN X0.here hx rfl (hb hby d2_170) rfl ?_
      show Steps p.tables e below (s₁.setTop (mkF m 171 #[.val (.int p1)] [(.int p1)])) _
      refine X0.ldcInt hx hown (mvT hZ (hw _ (List.mem_of_getElem? (i := 13) rfl))) (g := (mkF m 171 #[.val (.int p1)] [(.int p1)])) rfl (hb hby d2_171) _ ?_
      show Steps p.tables e below (s₁.setTop (mkF m 173 #[.val (.int p1)] [(.int (55296 : Int32)), (.int p1)])) _
      by_cases hc173 : p1 < (55296 : Int32)
      · refine XS.icmpYes X0.here hx rfl (pc0 := 173) (pc' := 184) rfl (hb hby d2_173) rfl (tlt hc173).1 (by decide) (by decide) ?_
        exact j184 (hF.trans (by rw [F2_170, if_pos hc173]))
      · refine XS.icmpNo X0.here hx rfl (hb hby d2_173) rfl (flt hc173).1 ?_
        show Steps p.tables e below (s₁.setTop (mkF m 176 #[.val (.int p1)] [])) _
        refine XS.iloadN X0.here hx rfl (hb hby d2_176) rfl ?_
        show Steps p.tables e below (s₁.setTop (mkF m 177 #[.val (.int p1)] [(.int p1)])) _
        refine X0.ldcInt hx hown (mvT hZ (hw _ (List.mem_of_getElem? (i := 24) rfl))) (g := (mkF m 177 #[.val (.int p1)] [(.int p1)])) rfl (hb hby d2_177) _ ?_
        show Steps p.tables e below (s₁.setTop (mkF m 179 #[.val (.int p1)] [(.int (63743 : Int32)), (.int p1)])) _
        by_cases hc179 : (63743 : Int32) < p1
        · refine XS.icmpYes X0.here hx rfl (pc0 := 179) (pc' := 184) rfl (hb hby d2_179) rfl (tlt hc179).2.2.1 (by decide) (by decide) ?_
          exact j184 (hF.trans (by rw [F2_170, if_neg hc173, if_pos hc179]))
        · refine XS.icmpNo X0.here hx rfl (hb hby d2_179) rfl (flt hc179).2.2.1 ?_
          show Steps p.tables e below (s₁.setTop (mkF m 182 #[.val (.int p1)] [])) _
          refine XS.iconst X0.here hx rfl (hb hby d2_182) ?_
          show Steps p.tables e below (s₁.setTop (mkF m 183 #[.val (.int p1)] [(.int (0 : Int32))])) _
          have hv := (hF.trans (by rw [F2_170, if_neg hc173, if_neg hc179] : _ = (0 : Int32)))
          rw [hv] at hr
          exact retN X0 hx (t := .boolean) Bd.returns (by simp) (hb hby d2_183) hr
    have j154 : ∀ (hF : F2_0 p1 = F2_154 p1), Steps p.tables e below (s₁.setTop (mkF m 154 #[.val (.int p1)] [])) (s₁.setFrames fs) := by
      intro hF
      show Steps p.tables e below (s₁.setTop (mkF m 154 #[.val (.int p1)] [])) _
      refine XS.iloadN X0.here hx rfl (hb hby d2_154) rfl ?_
      show Steps p.tables e below (s₁.setTop (mkF m 155 #[.val (.int p1)] [(.int p1)])) _
      refine XS.sipush X0.here hx rfl (hb hby d2_155) ?_
      show Steps p.tables e below (s₁.setTop (mkF m 158 #[.val (.int p1)] [(.int (12272 : Int32)), (.int p1)])) _
      by_cases hc158 : p1 < (12272 : Int32)
      · refine XS.icmpYes X0.here hx rfl (pc0 := 158) (pc' := 170) rfl (hb hby d2_158) rfl (tlt hc158).1 (by decide) (by decide) ?_
        exact j170 (hF.trans (by rw [F2_154, if_pos hc158]))
      · refine XS.icmpNo X0.here hx rfl (hb hby d2_158) rfl (flt hc158).1 ?_
        show Steps p.tables e below (s₁.setTop (mkF m 161 #[.val (.int p1)] [])) _
        refine XS.iloadN X0.here hx rfl (hb hby d2_161) rfl ?_
        show Steps p.tables e below (s₁.setTop (mkF m 162 #[.val (.int p1)] [(.int p1)])) _
        refine XS.sipush X0.here hx rfl (hb hby d2_162) ?_
        show Steps p.tables e below (s₁.setTop (mkF m 165 #[.val (.int p1)] [(.int (12288 : Int32)), (.int p1)])) _
        by_cases hc165 : (12288 : Int32) < p1
        · refine XS.icmpYes X0.here hx rfl (pc0 := 165) (pc' := 170) rfl (hb hby d2_165) rfl (tlt hc165).2.2.1 (by decide) (by decide) ?_
          exact j170 (hF.trans (by rw [F2_154, if_neg hc158, if_pos hc165]))
        · refine XS.icmpNo X0.here hx rfl (hb hby d2_165) rfl (flt hc165).2.2.1 ?_
          show Steps p.tables e below (s₁.setTop (mkF m 168 #[.val (.int p1)] [])) _
          refine XS.iconst X0.here hx rfl (hb hby d2_168) ?_
          show Steps p.tables e below (s₁.setTop (mkF m 169 #[.val (.int p1)] [(.int (0 : Int32))])) _
          have hv := (hF.trans (by rw [F2_154, if_neg hc158, if_neg hc165] : _ = (0 : Int32)))
          rw [hv] at hr
          exact retN X0 hx (t := .boolean) Bd.returns (by simp) (hb hby d2_169) hr
    have j138 : ∀ (hF : F2_0 p1 = F2_138 p1), Steps p.tables e below (s₁.setTop (mkF m 138 #[.val (.int p1)] [])) (s₁.setFrames fs) := by
      intro hF
      show Steps p.tables e below (s₁.setTop (mkF m 138 #[.val (.int p1)] [])) _
      refine XS.iloadN X0.here hx rfl (hb hby d2_138) rfl ?_
      show Steps p.tables e below (s₁.setTop (mkF m 139 #[.val (.int p1)] [(.int p1)])) _
      refine XS.sipush X0.here hx rfl (hb hby d2_139) ?_
      show Steps p.tables e below (s₁.setTop (mkF m 142 #[.val (.int p1)] [(.int (8592 : Int32)), (.int p1)])) _
      by_cases hc142 : p1 < (8592 : Int32)
      · refine XS.icmpYes X0.here hx rfl (pc0 := 142) (pc' := 154) rfl (hb hby d2_142) rfl (tlt hc142).1 (by decide) (by decide) ?_
        exact j154 (hF.trans (by rw [F2_138, if_pos hc142]))
      · refine XS.icmpNo X0.here hx rfl (hb hby d2_142) rfl (flt hc142).1 ?_
        show Steps p.tables e below (s₁.setTop (mkF m 145 #[.val (.int p1)] [])) _
        refine XS.iloadN X0.here hx rfl (hb hby d2_145) rfl ?_
        show Steps p.tables e below (s₁.setTop (mkF m 146 #[.val (.int p1)] [(.int p1)])) _
        refine XS.sipush X0.here hx rfl (hb hby d2_146) ?_
        show Steps p.tables e below (s₁.setTop (mkF m 149 #[.val (.int p1)] [(.int (11263 : Int32)), (.int p1)])) _
        by_cases hc149 : (11263 : Int32) < p1
        · refine XS.icmpYes X0.here hx rfl (pc0 := 149) (pc' := 154) rfl (hb hby d2_149) rfl (tlt hc149).2.2.1 (by decide) (by decide) ?_
          exact j154 (hF.trans (by rw [F2_138, if_neg hc142, if_pos hc149]))
        · refine XS.icmpNo X0.here hx rfl (hb hby d2_149) rfl (flt hc149).2.2.1 ?_
          show Steps p.tables e below (s₁.setTop (mkF m 152 #[.val (.int p1)] [])) _
          refine XS.iconst X0.here hx rfl (hb hby d2_152) ?_
          show Steps p.tables e below (s₁.setTop (mkF m 153 #[.val (.int p1)] [(.int (0 : Int32))])) _
          have hv := (hF.trans (by rw [F2_138, if_neg hc142, if_neg hc149] : _ = (0 : Int32)))
          rw [hv] at hr
          exact retN X0 hx (t := .boolean) Bd.returns (by simp) (hb hby d2_153) hr
    have j122 : ∀ (hF : F2_0 p1 = F2_122 p1), Steps p.tables e below (s₁.setTop (mkF m 122 #[.val (.int p1)] [])) (s₁.setFrames fs) := by
      intro hF
      show Steps p.tables e below (s₁.setTop (mkF m 122 #[.val (.int p1)] [])) _
      refine XS.iloadN X0.here hx rfl (hb hby d2_122) rfl ?_
      show Steps p.tables e below (s₁.setTop (mkF m 123 #[.val (.int p1)] [(.int p1)])) _
      refine XS.sipush X0.here hx rfl (hb hby d2_123) ?_
      show Steps p.tables e below (s₁.setTop (mkF m 126 #[.val (.int p1)] [(.int (8206 : Int32)), (.int p1)])) _
      by_cases hc126 : p1 < (8206 : Int32)
      · refine XS.icmpYes X0.here hx rfl (pc0 := 126) (pc' := 138) rfl (hb hby d2_126) rfl (tlt hc126).1 (by decide) (by decide) ?_
        exact j138 (hF.trans (by rw [F2_122, if_pos hc126]))
      · refine XS.icmpNo X0.here hx rfl (hb hby d2_126) rfl (flt hc126).1 ?_
        show Steps p.tables e below (s₁.setTop (mkF m 129 #[.val (.int p1)] [])) _
        refine XS.iloadN X0.here hx rfl (hb hby d2_129) rfl ?_
        show Steps p.tables e below (s₁.setTop (mkF m 130 #[.val (.int p1)] [(.int p1)])) _
        refine XS.sipush X0.here hx rfl (hb hby d2_130) ?_
        show Steps p.tables e below (s₁.setTop (mkF m 133 #[.val (.int p1)] [(.int (8303 : Int32)), (.int p1)])) _
        by_cases hc133 : (8303 : Int32) < p1
        · refine XS.icmpYes X0.here hx rfl (pc0 := 133) (pc' := 138) rfl (hb hby d2_133) rfl (tlt hc133).2.2.1 (by decide) (by decide) ?_
          exact j138 (hF.trans (by rw [F2_122, if_neg hc126, if_pos hc133]))
        · refine XS.icmpNo X0.here hx rfl (hb hby d2_133) rfl (flt hc133).2.2.1 ?_
          show Steps p.tables e below (s₁.setTop (mkF m 136 #[.val (.int p1)] [])) _
          refine XS.iconst X0.here hx rfl (hb hby d2_136) ?_
          show Steps p.tables e below (s₁.setTop (mkF m 137 #[.val (.int p1)] [(.int (0 : Int32))])) _
          have hv := (hF.trans (by rw [F2_122, if_neg hc126, if_neg hc133] : _ = (0 : Int32)))
          rw [hv] at hr
          exact retN X0 hx (t := .boolean) Bd.returns (by simp) (hb hby d2_137) hr
    have j97 : ∀ (hF : F2_0 p1 = F2_97 p1), Steps p.tables e below (s₁.setTop (mkF m 97 #[.val (.int p1)] [])) (s₁.setFrames fs) := by
      intro hF
      show Steps p.tables e below (s₁.setTop (mkF m 97 #[.val (.int p1)] [])) _
      refine XS.iloadN X0.here hx rfl (hb hby d2_97) rfl ?_
      show Steps p.tables e below (s₁.setTop (mkF m 98 #[.val (.int p1)] [(.int p1)])) _
      refine XS.sipush X0.here hx rfl (hb hby d2_98) ?_
      show Steps p.tables e below (s₁.setTop (mkF m 101 #[.val (.int p1)] [(.int (894 : Int32)), (.int p1)])) _
      by_cases hc101 : p1 = (894 : Int32)
      · refine XS.icmpNo X0.here hx rfl (hb hby d2_101) rfl (teq hc101).2 ?_
        show Steps p.tables e below (s₁.setTop (mkF m 104 #[.val (.int p1)] [])) _
        refine XS.iconst X0.here hx rfl (hb hby d2_104) ?_
        show Steps p.tables e below (s₁.setTop (mkF m 105 #[.val (.int p1)] [(.int (0 : Int32))])) _
        have hv := (hF.trans (by rw [F2_97, if_pos hc101] : _ = (0 : Int32)))
        rw [hv] at hr
        exact retN X0 hx (t := .boolean) Bd.returns (by simp) (hb hby d2_105) hr
      · refine XS.icmpYes X0.here hx rfl (pc0 := 101) (pc' := 106) rfl (hb hby d2_101) rfl (feq hc101).2 (by decide) (by decide) ?_
        show Steps p.tables e below (s₁.setTop (mkF m 106 #[.val (.int p1)] [])) _
        refine XS.iloadN X0.here hx rfl (hb hby d2_106) rfl ?_
        show Steps p.tables e below (s₁.setTop (mkF m 107 #[.val (.int p1)] [(.int p1)])) _
        refine XS.sipush X0.here hx rfl (hb hby d2_107) ?_
        show Steps p.tables e below (s₁.setTop (mkF m 110 #[.val (.int p1)] [(.int (8192 : Int32)), (.int p1)])) _
        by_cases hc110 : p1 < (8192 : Int32)
        · refine XS.icmpYes X0.here hx rfl (pc0 := 110) (pc' := 122) rfl (hb hby d2_110) rfl (tlt hc110).1 (by decide) (by decide) ?_
          exact j122 (hF.trans (by rw [F2_97, if_neg hc101, if_pos hc110]))
        · refine XS.icmpNo X0.here hx rfl (hb hby d2_110) rfl (flt hc110).1 ?_
          show Steps p.tables e below (s₁.setTop (mkF m 113 #[.val (.int p1)] [])) _
          refine XS.iloadN X0.here hx rfl (hb hby d2_113) rfl ?_
          show Steps p.tables e below (s₁.setTop (mkF m 114 #[.val (.int p1)] [(.int p1)])) _
          refine XS.sipush X0.here hx rfl (hb hby d2_114) ?_
          show Steps p.tables e below (s₁.setTop (mkF m 117 #[.val (.int p1)] [(.int (8203 : Int32)), (.int p1)])) _
          by_cases hc117 : (8203 : Int32) < p1
          · refine XS.icmpYes X0.here hx rfl (pc0 := 117) (pc' := 122) rfl (hb hby d2_117) rfl (tlt hc117).2.2.1 (by decide) (by decide) ?_
            exact j122 (hF.trans (by rw [F2_97, if_neg hc101, if_neg hc110, if_pos hc117]))
          · refine XS.icmpNo X0.here hx rfl (hb hby d2_117) rfl (flt hc117).2.2.1 ?_
            show Steps p.tables e below (s₁.setTop (mkF m 120 #[.val (.int p1)] [])) _
            refine XS.iconst X0.here hx rfl (hb hby d2_120) ?_
            show Steps p.tables e below (s₁.setTop (mkF m 121 #[.val (.int p1)] [(.int (0 : Int32))])) _
            have hv := (hF.trans (by rw [F2_97, if_neg hc101, if_neg hc110, if_neg hc117] : _ = (0 : Int32)))
            rw [hv] at hr
            exact retN X0 hx (t := .boolean) Bd.returns (by simp) (hb hby d2_121) hr
    have j79 : ∀ (hF : F2_0 p1 = F2_79 p1), Steps p.tables e below (s₁.setTop (mkF m 79 #[.val (.int p1)] [])) (s₁.setFrames fs) := by
      intro hF
      show Steps p.tables e below (s₁.setTop (mkF m 79 #[.val (.int p1)] [])) _
      refine XS.iconst X0.here hx rfl (hb hby d2_79) ?_
      show Steps p.tables e below (s₁.setTop (mkF m 80 #[.val (.int p1)] [(.int (0 : Int32))])) _
      have hv := (hF.trans (by rw [F2_79] : _ = (0 : Int32)))
      rw [hv] at hr
      exact retN X0 hx (t := .boolean) Bd.returns (by simp) (hb hby d2_80) hr
    have j65 : ∀ (hF : F2_0 p1 = F2_65 p1), Steps p.tables e below (s₁.setTop (mkF m 65 #[.val (.int p1)] [])) (s₁.setFrames fs) := by
      intro hF
      show Steps p.tables e below (s₁.setTop (mkF m 65 #[.val (.int p1)] [])) _
      refine XS.iloadN X0.here hx rfl (hb hby d2_65) rfl ?_
      show Steps p.tables e below (s₁.setTop (mkF m 66 #[.val (.int p1)] [(.int p1)])) _
      refine XS.sipush X0.here hx rfl (hb hby d2_66) ?_
      show Steps p.tables e below (s₁.setTop (mkF m 69 #[.val (.int p1)] [(.int (215 : Int32)), (.int p1)])) _
      by_cases hc69 : p1 = (215 : Int32)
      · refine XS.icmpYes X0.here hx rfl (pc0 := 69) (pc' := 79) rfl (hb hby d2_69) rfl (teq hc69).1 (by decide) (by decide) ?_
        exact j79 (hF.trans (by rw [F2_65, if_pos hc69]))
      · refine XS.icmpNo X0.here hx rfl (hb hby d2_69) rfl (feq hc69).1 ?_
        show Steps p.tables e below (s₁.setTop (mkF m 72 #[.val (.int p1)] [])) _
        refine XS.iloadN X0.here hx rfl (hb hby d2_72) rfl ?_
        show Steps p.tables e below (s₁.setTop (mkF m 73 #[.val (.int p1)] [(.int p1)])) _
        refine XS.sipush X0.here hx rfl (hb hby d2_73) ?_
        show Steps p.tables e below (s₁.setTop (mkF m 76 #[.val (.int p1)] [(.int (247 : Int32)), (.int p1)])) _
        by_cases hc76 : p1 = (247 : Int32)
        · refine XS.icmpNo X0.here hx rfl (hb hby d2_76) rfl (teq hc76).2 ?_
          exact j79 (hF.trans (by rw [F2_65, if_neg hc69, if_pos hc76]))
        · refine XS.icmpYes X0.here hx rfl (pc0 := 76) (pc' := 81) rfl (hb hby d2_76) rfl (feq hc76).2 (by decide) (by decide) ?_
          show Steps p.tables e below (s₁.setTop (mkF m 81 #[.val (.int p1)] [])) _
          refine XS.iloadN X0.here hx rfl (hb hby d2_81) rfl ?_
          show Steps p.tables e below (s₁.setTop (mkF m 82 #[.val (.int p1)] [(.int p1)])) _
          refine XS.sipush X0.here hx rfl (hb hby d2_82) ?_
          show Steps p.tables e below (s₁.setTop (mkF m 85 #[.val (.int p1)] [(.int (768 : Int32)), (.int p1)])) _
          by_cases hc85 : p1 < (768 : Int32)
          · refine XS.icmpYes X0.here hx rfl (pc0 := 85) (pc' := 97) rfl (hb hby d2_85) rfl (tlt hc85).1 (by decide) (by decide) ?_
            exact j97 (hF.trans (by rw [F2_65, if_neg hc69, if_neg hc76, if_pos hc85]))
          · refine XS.icmpNo X0.here hx rfl (hb hby d2_85) rfl (flt hc85).1 ?_
            show Steps p.tables e below (s₁.setTop (mkF m 88 #[.val (.int p1)] [])) _
            refine XS.iloadN X0.here hx rfl (hb hby d2_88) rfl ?_
            show Steps p.tables e below (s₁.setTop (mkF m 89 #[.val (.int p1)] [(.int p1)])) _
            refine XS.sipush X0.here hx rfl (hb hby d2_89) ?_
            show Steps p.tables e below (s₁.setTop (mkF m 92 #[.val (.int p1)] [(.int (879 : Int32)), (.int p1)])) _
            by_cases hc92 : (879 : Int32) < p1
            · refine XS.icmpYes X0.here hx rfl (pc0 := 92) (pc' := 97) rfl (hb hby d2_92) rfl (tlt hc92).2.2.1 (by decide) (by decide) ?_
              exact j97 (hF.trans (by rw [F2_65, if_neg hc69, if_neg hc76, if_neg hc85, if_pos hc92]))
            · refine XS.icmpNo X0.here hx rfl (hb hby d2_92) rfl (flt hc92).2.2.1 ?_
              show Steps p.tables e below (s₁.setTop (mkF m 95 #[.val (.int p1)] [])) _
              refine XS.iconst X0.here hx rfl (hb hby d2_95) ?_
              show Steps p.tables e below (s₁.setTop (mkF m 96 #[.val (.int p1)] [(.int (0 : Int32))])) _
              have hv := (hF.trans (by rw [F2_65, if_neg hc69, if_neg hc76, if_neg hc85, if_neg hc92] : _ = (0 : Int32)))
              rw [hv] at hr
              exact retN X0 hx (t := .boolean) Bd.returns (by simp) (hb hby d2_96) hr
    have j42 : ∀ (hF : F2_0 p1 = F2_42 p1), Steps p.tables e below (s₁.setTop (mkF m 42 #[.val (.int p1)] [])) (s₁.setFrames fs) := by
      intro hF
      show Steps p.tables e below (s₁.setTop (mkF m 42 #[.val (.int p1)] [])) _
      refine XS.iloadN X0.here hx rfl (hb hby d2_42) rfl ?_
      show Steps p.tables e below (s₁.setTop (mkF m 43 #[.val (.int p1)] [(.int p1)])) _
      refine XS.bipush X0.here hx rfl (hb hby d2_43) ?_
      show Steps p.tables e below (s₁.setTop (mkF m 45 #[.val (.int p1)] [(.int (96 : Int32)), (.int p1)])) _
      by_cases hc45 : p1 = (96 : Int32)
      · refine XS.icmpNo X0.here hx rfl (hb hby d2_45) rfl (teq hc45).2 ?_
        show Steps p.tables e below (s₁.setTop (mkF m 48 #[.val (.int p1)] [])) _
        refine XS.iconst X0.here hx rfl (hb hby d2_48) ?_
        show Steps p.tables e below (s₁.setTop (mkF m 49 #[.val (.int p1)] [(.int (0 : Int32))])) _
        have hv := (hF.trans (by rw [F2_42, if_pos hc45] : _ = (0 : Int32)))
        rw [hv] at hr
        exact retN X0 hx (t := .boolean) Bd.returns (by simp) (hb hby d2_49) hr
      · refine XS.icmpYes X0.here hx rfl (pc0 := 45) (pc' := 50) rfl (hb hby d2_45) rfl (feq hc45).2 (by decide) (by decide) ?_
        show Steps p.tables e below (s₁.setTop (mkF m 50 #[.val (.int p1)] [])) _
        refine XS.iloadN X0.here hx rfl (hb hby d2_50) rfl ?_
        show Steps p.tables e below (s₁.setTop (mkF m 51 #[.val (.int p1)] [(.int p1)])) _
        refine XS.bipush X0.here hx rfl (hb hby d2_51) ?_
        show Steps p.tables e below (s₁.setTop (mkF m 53 #[.val (.int p1)] [(.int (123 : Int32)), (.int p1)])) _
        by_cases hc53 : p1 < (123 : Int32)
        · refine XS.icmpYes X0.here hx rfl (pc0 := 53) (pc' := 65) rfl (hb hby d2_53) rfl (tlt hc53).1 (by decide) (by decide) ?_
          exact j65 (hF.trans (by rw [F2_42, if_neg hc45, if_pos hc53]))
        · refine XS.icmpNo X0.here hx rfl (hb hby d2_53) rfl (flt hc53).1 ?_
          show Steps p.tables e below (s₁.setTop (mkF m 56 #[.val (.int p1)] [])) _
          refine XS.iloadN X0.here hx rfl (hb hby d2_56) rfl ?_
          show Steps p.tables e below (s₁.setTop (mkF m 57 #[.val (.int p1)] [(.int p1)])) _
          refine XS.sipush X0.here hx rfl (hb hby d2_57) ?_
          show Steps p.tables e below (s₁.setTop (mkF m 60 #[.val (.int p1)] [(.int (191 : Int32)), (.int p1)])) _
          by_cases hc60 : (191 : Int32) < p1
          · refine XS.icmpYes X0.here hx rfl (pc0 := 60) (pc' := 65) rfl (hb hby d2_60) rfl (tlt hc60).2.2.1 (by decide) (by decide) ?_
            exact j65 (hF.trans (by rw [F2_42, if_neg hc45, if_neg hc53, if_pos hc60]))
          · refine XS.icmpNo X0.here hx rfl (hb hby d2_60) rfl (flt hc60).2.2.1 ?_
            show Steps p.tables e below (s₁.setTop (mkF m 63 #[.val (.int p1)] [])) _
            refine XS.iconst X0.here hx rfl (hb hby d2_63) ?_
            show Steps p.tables e below (s₁.setTop (mkF m 64 #[.val (.int p1)] [(.int (0 : Int32))])) _
            have hv := (hF.trans (by rw [F2_42, if_neg hc45, if_neg hc53, if_neg hc60] : _ = (0 : Int32)))
            rw [hv] at hr
            exact retN X0 hx (t := .boolean) Bd.returns (by simp) (hb hby d2_64) hr
    have j28 : ∀ (hF : F2_0 p1 = F2_28 p1), Steps p.tables e below (s₁.setTop (mkF m 28 #[.val (.int p1)] [])) (s₁.setFrames fs) := by
      intro hF
      show Steps p.tables e below (s₁.setTop (mkF m 28 #[.val (.int p1)] [])) _
      refine XS.iloadN X0.here hx rfl (hb hby d2_28) rfl ?_
      show Steps p.tables e below (s₁.setTop (mkF m 29 #[.val (.int p1)] [(.int p1)])) _
      refine XS.bipush X0.here hx rfl (hb hby d2_29) ?_
      show Steps p.tables e below (s₁.setTop (mkF m 31 #[.val (.int p1)] [(.int (91 : Int32)), (.int p1)])) _
      by_cases hc31 : p1 < (91 : Int32)
      · refine XS.icmpYes X0.here hx rfl (pc0 := 31) (pc' := 42) rfl (hb hby d2_31) rfl (tlt hc31).1 (by decide) (by decide) ?_
        exact j42 (hF.trans (by rw [F2_28, if_pos hc31]))
      · refine XS.icmpNo X0.here hx rfl (hb hby d2_31) rfl (flt hc31).1 ?_
        show Steps p.tables e below (s₁.setTop (mkF m 34 #[.val (.int p1)] [])) _
        refine XS.iloadN X0.here hx rfl (hb hby d2_34) rfl ?_
        show Steps p.tables e below (s₁.setTop (mkF m 35 #[.val (.int p1)] [(.int p1)])) _
        refine XS.bipush X0.here hx rfl (hb hby d2_35) ?_
        show Steps p.tables e below (s₁.setTop (mkF m 37 #[.val (.int p1)] [(.int (94 : Int32)), (.int p1)])) _
        by_cases hc37 : (94 : Int32) < p1
        · refine XS.icmpYes X0.here hx rfl (pc0 := 37) (pc' := 42) rfl (hb hby d2_37) rfl (tlt hc37).2.2.1 (by decide) (by decide) ?_
          exact j42 (hF.trans (by rw [F2_28, if_neg hc31, if_pos hc37]))
        · refine XS.icmpNo X0.here hx rfl (hb hby d2_37) rfl (flt hc37).2.2.1 ?_
          show Steps p.tables e below (s₁.setTop (mkF m 40 #[.val (.int p1)] [])) _
          refine XS.iconst X0.here hx rfl (hb hby d2_40) ?_
          show Steps p.tables e below (s₁.setTop (mkF m 41 #[.val (.int p1)] [(.int (0 : Int32))])) _
          have hv := (hF.trans (by rw [F2_28, if_neg hc31, if_neg hc37] : _ = (0 : Int32)))
          rw [hv] at hr
          exact retN X0 hx (t := .boolean) Bd.returns (by simp) (hb hby d2_41) hr
    have j12 : ∀ (hF : F2_0 p1 = F2_12 p1), Steps p.tables e below (s₁.setTop (mkF m 12 #[.val (.int p1)] [])) (s₁.setFrames fs) := by
      intro hF
      show Steps p.tables e below (s₁.setTop (mkF m 12 #[.val (.int p1)] [])) _
      refine XS.iconst X0.here hx rfl (hb hby d2_12) ?_
      show Steps p.tables e below (s₁.setTop (mkF m 13 #[.val (.int p1)] [(.int (0 : Int32))])) _
      have hv := (hF.trans (by rw [F2_12] : _ = (0 : Int32)))
      rw [hv] at hr
      exact retN X0 hx (t := .boolean) Bd.returns (by simp) (hb hby d2_13) hr
    have j0 : ∀ (hF : F2_0 p1 = F2_0 p1), Steps p.tables e below (s₁.setTop (mkF m 0 #[.val (.int p1)] [])) (s₁.setFrames fs) := by
      intro hF
      show Steps p.tables e below (s₁.setTop (mkF m 0 #[.val (.int p1)] [])) _
      refine XS.iloadN X0.here hx rfl (hb hby d2_0) rfl ?_
      show Steps p.tables e below (s₁.setTop (mkF m 1 #[.val (.int p1)] [(.int p1)])) _
      refine XS.bipush X0.here hx rfl (hb hby d2_1) ?_
      show Steps p.tables e below (s₁.setTop (mkF m 3 #[.val (.int p1)] [(.int (58 : Int32)), (.int p1)])) _
      by_cases hc3 : p1 < (58 : Int32)
      · refine XS.icmpYes X0.here hx rfl (pc0 := 3) (pc' := 12) rfl (hb hby d2_3) rfl (tlt hc3).1 (by decide) (by decide) ?_
        exact j12 (hF.trans (by rw [F2_0, if_pos hc3]))
      · refine XS.icmpNo X0.here hx rfl (hb hby d2_3) rfl (flt hc3).1 ?_
        show Steps p.tables e below (s₁.setTop (mkF m 6 #[.val (.int p1)] [])) _
        refine XS.iloadN X0.here hx rfl (hb hby d2_6) rfl ?_
        show Steps p.tables e below (s₁.setTop (mkF m 7 #[.val (.int p1)] [(.int p1)])) _
        refine X0.ldcInt hx hown (mvT hZ (hw _ (List.mem_of_getElem? (i := 12) rfl))) (g := (mkF m 7 #[.val (.int p1)] [(.int p1)])) rfl (hb hby d2_7) _ ?_
        show Steps p.tables e below (s₁.setTop (mkF m 9 #[.val (.int p1)] [(.int (983039 : Int32)), (.int p1)])) _
        by_cases hc9 : (983039 : Int32) < p1
        · refine XS.icmpNo X0.here hx rfl (hb hby d2_9) rfl (tlt hc9).2.2.2 ?_
          exact j12 (hF.trans (by rw [F2_0, if_neg hc3, if_pos hc9]))
        · refine XS.icmpYes X0.here hx rfl (pc0 := 9) (pc' := 14) rfl (hb hby d2_9) rfl (flt hc9).2.2.2 (by decide) (by decide) ?_
          show Steps p.tables e below (s₁.setTop (mkF m 14 #[.val (.int p1)] [])) _
          refine XS.iloadN X0.here hx rfl (hb hby d2_14) rfl ?_
          show Steps p.tables e below (s₁.setTop (mkF m 15 #[.val (.int p1)] [(.int p1)])) _
          refine XS.bipush X0.here hx rfl (hb hby d2_15) ?_
          show Steps p.tables e below (s₁.setTop (mkF m 17 #[.val (.int p1)] [(.int (59 : Int32)), (.int p1)])) _
          by_cases hc17 : p1 < (59 : Int32)
          · refine XS.icmpYes X0.here hx rfl (pc0 := 17) (pc' := 28) rfl (hb hby d2_17) rfl (tlt hc17).1 (by decide) (by decide) ?_
            exact j28 (hF.trans (by rw [F2_0, if_neg hc3, if_neg hc9, if_pos hc17]))
          · refine XS.icmpNo X0.here hx rfl (hb hby d2_17) rfl (flt hc17).1 ?_
            show Steps p.tables e below (s₁.setTop (mkF m 20 #[.val (.int p1)] [])) _
            refine XS.iloadN X0.here hx rfl (hb hby d2_20) rfl ?_
            show Steps p.tables e below (s₁.setTop (mkF m 21 #[.val (.int p1)] [(.int p1)])) _
            refine XS.bipush X0.here hx rfl (hb hby d2_21) ?_
            show Steps p.tables e below (s₁.setTop (mkF m 23 #[.val (.int p1)] [(.int (64 : Int32)), (.int p1)])) _
            by_cases hc23 : (64 : Int32) < p1
            · refine XS.icmpYes X0.here hx rfl (pc0 := 23) (pc' := 28) rfl (hb hby d2_23) rfl (tlt hc23).2.2.1 (by decide) (by decide) ?_
              exact j28 (hF.trans (by rw [F2_0, if_neg hc3, if_neg hc9, if_neg hc17, if_pos hc23]))
            · refine XS.icmpNo X0.here hx rfl (hb hby d2_23) rfl (flt hc23).2.2.1 ?_
              show Steps p.tables e below (s₁.setTop (mkF m 26 #[.val (.int p1)] [])) _
              refine XS.iconst X0.here hx rfl (hb hby d2_26) ?_
              show Steps p.tables e below (s₁.setTop (mkF m 27 #[.val (.int p1)] [(.int (0 : Int32))])) _
              have hv := (hF.trans (by rw [F2_0, if_neg hc3, if_neg hc9, if_neg hc17, if_neg hc23] : _ = (0 : Int32)))
              rw [hv] at hr
              exact retN X0 hx (t := .boolean) Bd.returns (by simp) (hb hby d2_27) hr
    exact j0 rfl
  · show Q2 Z p1 h0 n0 _ s₁.heap _
    rw [e0]
    exact ⟨rfl, N0, rfl⟩
theorem d3_0 : decode prog_29_method_2_code 0 = .ok (.iload_n 0, 1) := by decide +kernel
theorem d3_1 : decode prog_29_method_2_code 1 = .ok (.bipush 9, 2) := by decide +kernel
theorem d3_3 : decode prog_29_method_2_code 3 = .ok (.if_icmp .eq 51, 3) := by decide +kernel
theorem d3_6 : decode prog_29_method_2_code 6 = .ok (.iload_n 0, 1) := by decide +kernel
theorem d3_7 : decode prog_29_method_2_code 7 = .ok (.bipush 10, 2) := by decide +kernel
theorem d3_9 : decode prog_29_method_2_code 9 = .ok (.if_icmp .eq 45, 3) := by decide +kernel
theorem d3_12 : decode prog_29_method_2_code 12 = .ok (.iload_n 0, 1) := by decide +kernel
theorem d3_13 : decode prog_29_method_2_code 13 = .ok (.bipush 13, 2) := by decide +kernel
theorem d3_15 : decode prog_29_method_2_code 15 = .ok (.if_icmp .eq 39, 3) := by decide +kernel
theorem d3_18 : decode prog_29_method_2_code 18 = .ok (.iload_n 0, 1) := by decide +kernel
theorem d3_19 : decode prog_29_method_2_code 19 = .ok (.bipush 32, 2) := by decide +kernel
theorem d3_21 : decode prog_29_method_2_code 21 = .ok (.if_icmp .lt 9, 3) := by decide +kernel
theorem d3_24 : decode prog_29_method_2_code 24 = .ok (.iload_n 0, 1) := by decide +kernel
theorem d3_25 : decode prog_29_method_2_code 25 = .ok (.ldc 7, 2) := by decide +kernel
theorem d3_27 : decode prog_29_method_2_code 27 = .ok (.if_icmp .le 27, 3) := by decide +kernel
theorem d3_30 : decode prog_29_method_2_code 30 = .ok (.iload_n 0, 1) := by decide +kernel
theorem d3_31 : decode prog_29_method_2_code 31 = .ok (.ldc 8, 2) := by decide +kernel
theorem d3_33 : decode prog_29_method_2_code 33 = .ok (.if_icmp .lt 9, 3) := by decide +kernel
theorem d3_36 : decode prog_29_method_2_code 36 = .ok (.iload_n 0, 1) := by decide +kernel
theorem d3_37 : decode prog_29_method_2_code 37 = .ok (.ldc 9, 2) := by decide +kernel
theorem d3_39 : decode prog_29_method_2_code 39 = .ok (.if_icmp .le 15, 3) := by decide +kernel
theorem d3_42 : decode prog_29_method_2_code 42 = .ok (.iload_n 0, 1) := by decide +kernel
theorem d3_43 : decode prog_29_method_2_code 43 = .ok (.ldc 10, 2) := by decide +kernel
theorem d3_45 : decode prog_29_method_2_code 45 = .ok (.if_icmp .lt 13, 3) := by decide +kernel
theorem d3_48 : decode prog_29_method_2_code 48 = .ok (.iload_n 0, 1) := by decide +kernel
theorem d3_49 : decode prog_29_method_2_code 49 = .ok (.ldc 11, 2) := by decide +kernel
theorem d3_51 : decode prog_29_method_2_code 51 = .ok (.if_icmp .gt 7, 3) := by decide +kernel
theorem d3_54 : decode prog_29_method_2_code 54 = .ok (.iconst 1, 1) := by decide +kernel
theorem d3_55 : decode prog_29_method_2_code 55 = .ok (.goto 4, 3) := by decide +kernel
theorem d3_58 : decode prog_29_method_2_code 58 = .ok (.iconst 0, 1) := by decide +kernel
theorem d3_59 : decode prog_29_method_2_code 59 = .ok (.ireturn, 1) := by decide +kernel
theorem pn_3 : plainName "com/example/nestdb/nestdb/xml/XmlChars" = true := by first | (simp [plainName, overriddenIn]; done) | decide +kernel
theorem ef_3 (m : MethodId) (p1 : Int32) : entryFrame m #[(.int p1)] 1 = mkF m 0 #[.val (.int p1)] [] := by first | (simp [entryFrame, mkF, argsToLocals, Value.category]; done) | rfl
def F3_58 (p1 : Int32) : Int32 := (0 : Int32)
def F3_54 (p1 : Int32) : Int32 := (1 : Int32)
def F3_42 (p1 : Int32) : Int32 := (if p1 < (65536 : Int32) then (F3_58 p1) else (if (1114111 : Int32) < p1 then (F3_58 p1) else (F3_54 p1)))
def F3_30 (p1 : Int32) : Int32 := (if p1 < (57344 : Int32) then (F3_42 p1) else (if (65533 : Int32) < p1 then (F3_42 p1) else (F3_54 p1)))
def F3_0 (p1 : Int32) : Int32 := (if p1 = (9 : Int32) then (F3_54 p1) else (if p1 = (10 : Int32) then (F3_54 p1) else (if p1 = (13 : Int32) then (F3_54 p1) else (if p1 < (32 : Int32) then (F3_30 p1) else (if (55295 : Int32) < p1 then (F3_30 p1) else (F3_54 p1))))))
def Q3 (Z : State) (p1 : Int32) (h0 : Heap) (n0 : Nat) (v : Option Value) (h : Heap) (L : List Loc) : Prop := v = some (.int (F3_0 p1)) ∧ Fr n0 L ∧ h = h0
set_option maxRecDepth 65536 in
set_option maxHeartbeats 40000000 in
theorem rm3 (l : Launch) (Z : State) (a0 : Array Value) (hw : ∀ d ∈ tables_1, d.before a0 Z = true) (ws : List Jvm.Cond) (p1 : Int32) (h0 : Heap) (n0 : Nat) (Z0 : n0 ≤ h0.size) :
    MetFree l (⟨"com/example/nestdb/nestdb/xml/XmlChars", "isChar", "(I)Z"⟩ : MethodName) (head1 (Jvm.Cond.code (⟨"com/example/nestdb/nestdb/xml/XmlChars", "isChar", "(I)Z"⟩ : MethodName) prog_29_method_2_code 1 (some .boolean) :: ws) ({ frames := 0, cells := 0, slots := 0, locals := 0 } : Room)) (fun a U => a = #[(.int p1)] ∧ Z.Warmed39 U.vm ∧ U.heap = h0) (fun _ _ _ _ _ => True) (fun _ U o U' => ∃ v L, o = .returned v ∧ Q3 Z p1 h0 n0 v U'.heap L ∧ FrameEnd U o U' L ({ frames := 0, cells := 0, slots := 0, locals := 0 } : Room).cells ({ frames := 0, cells := 0, slots := 0, locals := 0 } : Room).slots) := by
  refine MetFree.of_bodySF (plainFor_of_name pn_3) hisR ?_
  intro p e s m args below meth c s₁ Bd hml0 hP hK
  obtain ⟨rfl, hZ, hh⟩ := hP
  have hx := Bd.exec
  have hby := Bd.bytes
  have hml : c.maxLocals = 1 := hml0
  have hown : s.vm.findClass "com/example/nestdb/nestdb/xml/XmlChars" = some m.cls := findClass_of_methodNamed Bd.named
  have hnm := (name_of_methodNamed Bd.named Bd.method).1
  have X0 : Stand p l e ({ frames := 0, cells := 0, slots := 0, locals := 0 } : Room) s m #[(.int p1)] below meth c s₁ [] 0 0 := Stand.of_body Bd
  have e0 : s₁.heap = h0 := by rw [← hh, Bd.state]; rfl
  have N0 := Fr.nil n0
  have pre0 : ∀ t, Steps p.tables e below (s₁.setTop (mkF m 0 #[.val (.int p1)] [])) t → Steps p.tables e below (s₁.setTop (entryFrame m #[(.int p1)] 1)) t := fun t k => castTop (ef_3 m p1) k
  obtain ⟨fs, hr, hrun, hended, hW, hsame⟩ := X0.leave (v := some (.int (F3_0 p1))) (fun h => by rw [Bd.returns] at h; cases h) Bd.notSynchronized
  refine ⟨_, _, pre0 _ ?_, hrun, hended, _, _, rfl, ?_, ⟨_, rfl⟩, hW, hsame.mono (by decide) (by decide)⟩
  · have j58 : ∀ (hF : F3_0 p1 = F3_58 p1), Steps p.tables e below (s₁.setTop (mkF m 58 #[.val (.int p1)] [])) (s₁.setFrames fs) := by
      intro hF
      show Steps p.tables e below (s₁.setTop (mkF m 58 #[.val (.int p1)] [])) _
      refine XS.iconst X0.here hx rfl (hb hby d3_58) ?_
      show Steps p.tables e below (s₁.setTop (mkF m 59 #[.val (.int p1)] [(.int (0 : Int32))])) _
      have hv := (hF.trans (by rw [F3_58] : _ = (0 : Int32)))
      rw [hv] at hr
      exact retN X0 hx (t := .boolean) Bd.returns (by simp) (hb hby d3_59) hr
    have j54 : ∀ (hF : F3_0 p1 = F3_54 p1), Steps p.tables e below (s₁.setTop (mkF m 54 #[.val (.int p1)] [])) (s₁.setFrames fs) := by
      intro hF
      show Steps p.tables e below (s₁.setTop (mkF m 54 #[.val (.int p1)] [])) _
      refine XS.iconst X0.here hx rfl (hb hby d3_54) ?_
      show Steps p.tables e below (s₁.setTop (mkF m 55 #[.val (.int p1)] [(.int (1 : Int32))])) _
      refine XS.goto X0.here hx rfl (pc0 := 55) (pc' := 59) rfl (hb hby d3_55) (by decide) (by decide) ?_
      show Steps p.tables e below (s₁.setTop (mkF m 59 #[.val (.int p1)] [(.int (1 : Int32))])) _
      have hv := (hF.trans (by rw [F3_54] : _ = (1 : Int32)))
      rw [hv] at hr
      exact retN X0 hx (t := .boolean) Bd.returns (by simp) (hb hby d3_59) hr
    have j42 : ∀ (hF : F3_0 p1 = F3_42 p1), Steps p.tables e below (s₁.setTop (mkF m 42 #[.val (.int p1)] [])) (s₁.setFrames fs) := by
      intro hF
      show Steps p.tables e below (s₁.setTop (mkF m 42 #[.val (.int p1)] [])) _
      refine XS.iloadN X0.here hx rfl (hb hby d3_42) rfl ?_
      show Steps p.tables e below (s₁.setTop (mkF m 43 #[.val (.int p1)] [(.int p1)])) _
      refine X0.ldcInt hx hown (mvT hZ (hw _ (List.mem_of_getElem? (i := 7) rfl))) (g := (mkF m 43 #[.val (.int p1)] [(.int p1)])) rfl (hb hby d3_43) _ ?_
      show Steps p.tables e below (s₁.setTop (mkF m 45 #[.val (.int p1)] [(.int (65536 : Int32)), (.int p1)])) _
      by_cases hc45 : p1 < (65536 : Int32)
      · refine XS.icmpYes X0.here hx rfl (pc0 := 45) (pc' := 58) rfl (hb hby d3_45) rfl (tlt hc45).1 (by decide) (by decide) ?_
        exact j58 (hF.trans (by rw [F3_42, if_pos hc45]))
      · refine XS.icmpNo X0.here hx rfl (hb hby d3_45) rfl (flt hc45).1 ?_
        show Steps p.tables e below (s₁.setTop (mkF m 48 #[.val (.int p1)] [])) _
        refine XS.iloadN X0.here hx rfl (hb hby d3_48) rfl ?_
        show Steps p.tables e below (s₁.setTop (mkF m 49 #[.val (.int p1)] [(.int p1)])) _
        refine X0.ldcInt hx hown (mvT hZ (hw _ (List.mem_of_getElem? (i := 27) rfl))) (g := (mkF m 49 #[.val (.int p1)] [(.int p1)])) rfl (hb hby d3_49) _ ?_
        show Steps p.tables e below (s₁.setTop (mkF m 51 #[.val (.int p1)] [(.int (1114111 : Int32)), (.int p1)])) _
        by_cases hc51 : (1114111 : Int32) < p1
        · refine XS.icmpYes X0.here hx rfl (pc0 := 51) (pc' := 58) rfl (hb hby d3_51) rfl (tlt hc51).2.2.1 (by decide) (by decide) ?_
          exact j58 (hF.trans (by rw [F3_42, if_neg hc45, if_pos hc51]))
        · refine XS.icmpNo X0.here hx rfl (hb hby d3_51) rfl (flt hc51).2.2.1 ?_
          exact j54 (hF.trans (by rw [F3_42, if_neg hc45, if_neg hc51]))
    have j30 : ∀ (hF : F3_0 p1 = F3_30 p1), Steps p.tables e below (s₁.setTop (mkF m 30 #[.val (.int p1)] [])) (s₁.setFrames fs) := by
      intro hF
      show Steps p.tables e below (s₁.setTop (mkF m 30 #[.val (.int p1)] [])) _
      refine XS.iloadN X0.here hx rfl (hb hby d3_30) rfl ?_
      show Steps p.tables e below (s₁.setTop (mkF m 31 #[.val (.int p1)] [(.int p1)])) _
      refine X0.ldcInt hx hown (mvT hZ (hw _ (List.mem_of_getElem? (i := 26) rfl))) (g := (mkF m 31 #[.val (.int p1)] [(.int p1)])) rfl (hb hby d3_31) _ ?_
      show Steps p.tables e below (s₁.setTop (mkF m 33 #[.val (.int p1)] [(.int (57344 : Int32)), (.int p1)])) _
      by_cases hc33 : p1 < (57344 : Int32)
      · refine XS.icmpYes X0.here hx rfl (pc0 := 33) (pc' := 42) rfl (hb hby d3_33) rfl (tlt hc33).1 (by decide) (by decide) ?_
        exact j42 (hF.trans (by rw [F3_30, if_pos hc33]))
      · refine XS.icmpNo X0.here hx rfl (hb hby d3_33) rfl (flt hc33).1 ?_
        show Steps p.tables e below (s₁.setTop (mkF m 36 #[.val (.int p1)] [])) _
        refine XS.iloadN X0.here hx rfl (hb hby d3_36) rfl ?_
        show Steps p.tables e below (s₁.setTop (mkF m 37 #[.val (.int p1)] [(.int p1)])) _
        refine X0.ldcInt hx hown (mvT hZ (hw _ (List.mem_of_getElem? (i := 22) rfl))) (g := (mkF m 37 #[.val (.int p1)] [(.int p1)])) rfl (hb hby d3_37) _ ?_
        show Steps p.tables e below (s₁.setTop (mkF m 39 #[.val (.int p1)] [(.int (65533 : Int32)), (.int p1)])) _
        by_cases hc39 : (65533 : Int32) < p1
        · refine XS.icmpNo X0.here hx rfl (hb hby d3_39) rfl (tlt hc39).2.2.2 ?_
          exact j42 (hF.trans (by rw [F3_30, if_neg hc33, if_pos hc39]))
        · refine XS.icmpYes X0.here hx rfl (pc0 := 39) (pc' := 54) rfl (hb hby d3_39) rfl (flt hc39).2.2.2 (by decide) (by decide) ?_
          exact j54 (hF.trans (by rw [F3_30, if_neg hc33, if_neg hc39]))
    have j0 : ∀ (hF : F3_0 p1 = F3_0 p1), Steps p.tables e below (s₁.setTop (mkF m 0 #[.val (.int p1)] [])) (s₁.setFrames fs) := by
      intro hF
      show Steps p.tables e below (s₁.setTop (mkF m 0 #[.val (.int p1)] [])) _
      refine XS.iloadN X0.here hx rfl (hb hby d3_0) rfl ?_
      show Steps p.tables e below (s₁.setTop (mkF m 1 #[.val (.int p1)] [(.int p1)])) _
      refine XS.bipush X0.here hx rfl (hb hby d3_1) ?_
      show Steps p.tables e below (s₁.setTop (mkF m 3 #[.val (.int p1)] [(.int (9 : Int32)), (.int p1)])) _
      by_cases hc3 : p1 = (9 : Int32)
      · refine XS.icmpYes X0.here hx rfl (pc0 := 3) (pc' := 54) rfl (hb hby d3_3) rfl (teq hc3).1 (by decide) (by decide) ?_
        exact j54 (hF.trans (by rw [F3_0, if_pos hc3]))
      · refine XS.icmpNo X0.here hx rfl (hb hby d3_3) rfl (feq hc3).1 ?_
        show Steps p.tables e below (s₁.setTop (mkF m 6 #[.val (.int p1)] [])) _
        refine XS.iloadN X0.here hx rfl (hb hby d3_6) rfl ?_
        show Steps p.tables e below (s₁.setTop (mkF m 7 #[.val (.int p1)] [(.int p1)])) _
        refine XS.bipush X0.here hx rfl (hb hby d3_7) ?_
        show Steps p.tables e below (s₁.setTop (mkF m 9 #[.val (.int p1)] [(.int (10 : Int32)), (.int p1)])) _
        by_cases hc9 : p1 = (10 : Int32)
        · refine XS.icmpYes X0.here hx rfl (pc0 := 9) (pc' := 54) rfl (hb hby d3_9) rfl (teq hc9).1 (by decide) (by decide) ?_
          exact j54 (hF.trans (by rw [F3_0, if_neg hc3, if_pos hc9]))
        · refine XS.icmpNo X0.here hx rfl (hb hby d3_9) rfl (feq hc9).1 ?_
          show Steps p.tables e below (s₁.setTop (mkF m 12 #[.val (.int p1)] [])) _
          refine XS.iloadN X0.here hx rfl (hb hby d3_12) rfl ?_
          show Steps p.tables e below (s₁.setTop (mkF m 13 #[.val (.int p1)] [(.int p1)])) _
          refine XS.bipush X0.here hx rfl (hb hby d3_13) ?_
          show Steps p.tables e below (s₁.setTop (mkF m 15 #[.val (.int p1)] [(.int (13 : Int32)), (.int p1)])) _
          by_cases hc15 : p1 = (13 : Int32)
          · refine XS.icmpYes X0.here hx rfl (pc0 := 15) (pc' := 54) rfl (hb hby d3_15) rfl (teq hc15).1 (by decide) (by decide) ?_
            exact j54 (hF.trans (by rw [F3_0, if_neg hc3, if_neg hc9, if_pos hc15]))
          · refine XS.icmpNo X0.here hx rfl (hb hby d3_15) rfl (feq hc15).1 ?_
            show Steps p.tables e below (s₁.setTop (mkF m 18 #[.val (.int p1)] [])) _
            refine XS.iloadN X0.here hx rfl (hb hby d3_18) rfl ?_
            show Steps p.tables e below (s₁.setTop (mkF m 19 #[.val (.int p1)] [(.int p1)])) _
            refine XS.bipush X0.here hx rfl (hb hby d3_19) ?_
            show Steps p.tables e below (s₁.setTop (mkF m 21 #[.val (.int p1)] [(.int (32 : Int32)), (.int p1)])) _
            by_cases hc21 : p1 < (32 : Int32)
            · refine XS.icmpYes X0.here hx rfl (pc0 := 21) (pc' := 30) rfl (hb hby d3_21) rfl (tlt hc21).1 (by decide) (by decide) ?_
              exact j30 (hF.trans (by rw [F3_0, if_neg hc3, if_neg hc9, if_neg hc15, if_pos hc21]))
            · refine XS.icmpNo X0.here hx rfl (hb hby d3_21) rfl (flt hc21).1 ?_
              show Steps p.tables e below (s₁.setTop (mkF m 24 #[.val (.int p1)] [])) _
              refine XS.iloadN X0.here hx rfl (hb hby d3_24) rfl ?_
              show Steps p.tables e below (s₁.setTop (mkF m 25 #[.val (.int p1)] [(.int p1)])) _
              refine X0.ldcInt hx hown (mvT hZ (hw _ (List.mem_of_getElem? (i := 20) rfl))) (g := (mkF m 25 #[.val (.int p1)] [(.int p1)])) rfl (hb hby d3_25) _ ?_
              show Steps p.tables e below (s₁.setTop (mkF m 27 #[.val (.int p1)] [(.int (55295 : Int32)), (.int p1)])) _
              by_cases hc27 : (55295 : Int32) < p1
              · refine XS.icmpNo X0.here hx rfl (hb hby d3_27) rfl (tlt hc27).2.2.2 ?_
                exact j30 (hF.trans (by rw [F3_0, if_neg hc3, if_neg hc9, if_neg hc15, if_neg hc21, if_pos hc27]))
              · refine XS.icmpYes X0.here hx rfl (pc0 := 27) (pc' := 54) rfl (hb hby d3_27) rfl (flt hc27).2.2.2 (by decide) (by decide) ?_
                exact j54 (hF.trans (by rw [F3_0, if_neg hc3, if_neg hc9, if_neg hc15, if_neg hc21, if_neg hc27]))
    exact j0 rfl
  · show Q3 Z p1 h0 n0 _ s₁.heap _
    rw [e0]
    exact ⟨rfl, N0, rfl⟩
theorem own_F1_201 (c : Int32) : F1_201 c = 0 := by
  rfl
theorem own_F1_197 (c : Int32) : F1_197 c = 1 := by
  rfl
theorem own_F1_185 (c : Int32) : F1_185 c = if (65536 ≤ c.toInt ∧ c.toInt ≤ 983039) then 1 else 0 := by
  have hb1 := c.le_toInt
  have hb2 := c.toInt_lt
  unfold F1_185
  simp only [own_F1_201, own_F1_197]
  have k65536 : (65536 : Int32).toInt = 65536 := by decide
  have k983039 : (983039 : Int32).toInt = 983039 := by decide
  repeat' split
  all_goals first | rfl | (exfalso; simp only [Int32.lt_iff_toInt_lt, ← Int32.toInt_inj, k65536, k983039] at *; omega)
theorem own_F1_173 (c : Int32) : F1_173 c = if (65008 ≤ c.toInt ∧ c.toInt ≤ 65533) ∨ (65536 ≤ c.toInt ∧ c.toInt ≤ 983039) then 1 else 0 := by
  have hb1 := c.le_toInt
  have hb2 := c.toInt_lt
  unfold F1_173
  simp only [own_F1_185, own_F1_197]
  have k65008 : (65008 : Int32).toInt = 65008 := by decide
  have k65533 : (65533 : Int32).toInt = 65533 := by decide
  repeat' split
  all_goals first | rfl | (exfalso; simp only [Int32.lt_iff_toInt_lt, ← Int32.toInt_inj, k65008, k65533] at *; omega)
theorem own_F1_161 (c : Int32) : F1_161 c = if (63744 ≤ c.toInt ∧ c.toInt ≤ 64975) ∨ (65008 ≤ c.toInt ∧ c.toInt ≤ 65533) ∨ (65536 ≤ c.toInt ∧ c.toInt ≤ 983039) then 1 else 0 := by
  have hb1 := c.le_toInt
  have hb2 := c.toInt_lt
  unfold F1_161
  simp only [own_F1_173, own_F1_197]
  have k63744 : (63744 : Int32).toInt = 63744 := by decide
  have k64975 : (64975 : Int32).toInt = 64975 := by decide
  repeat' split
  all_goals first | rfl | (exfalso; simp only [Int32.lt_iff_toInt_lt, ← Int32.toInt_inj, k63744, k64975] at *; omega)
theorem own_F1_148 (c : Int32) : F1_148 c = if (12289 ≤ c.toInt ∧ c.toInt ≤ 55295) ∨ (63744 ≤ c.toInt ∧ c.toInt ≤ 64975) ∨ (65008 ≤ c.toInt ∧ c.toInt ≤ 65533) ∨ (65536 ≤ c.toInt ∧ c.toInt ≤ 983039) then 1 else 0 := by
  have hb1 := c.le_toInt
  have hb2 := c.toInt_lt
  unfold F1_148
  simp only [own_F1_161, own_F1_197]
  have k12289 : (12289 : Int32).toInt = 12289 := by decide
  have k55295 : (55295 : Int32).toInt = 55295 := by decide
  repeat' split
  all_goals first | rfl | (exfalso; simp only [Int32.lt_iff_toInt_lt, ← Int32.toInt_inj, k12289, k55295] at *; omega)
theorem own_F1_134 (c : Int32) : F1_134 c = if (11264 ≤ c.toInt ∧ c.toInt ≤ 12271) ∨ (12289 ≤ c.toInt ∧ c.toInt ≤ 55295) ∨ (63744 ≤ c.toInt ∧ c.toInt ≤ 64975) ∨ (65008 ≤ c.toInt ∧ c.toInt ≤ 65533) ∨ (65536 ≤ c.toInt ∧ c.toInt ≤ 983039) then 1 else 0 := by
  have hb1 := c.le_toInt
  have hb2 := c.toInt_lt
  unfold F1_134
  simp only [own_F1_148, own_F1_197]
  have k11264 : (11264 : Int32).toInt = 11264 := by decide
  have k12271 : (12271 : Int32).toInt = 12271 := by decide
  repeat' split
  all_goals first | rfl | (exfalso; simp only [Int32.lt_iff_toInt_lt, ← Int32.toInt_inj, k11264, k12271] at *; omega)
theorem own_F1_120 (c : Int32) : F1_120 c = if (8304 ≤ c.toInt ∧ c.toInt ≤ 8591) ∨ (11264 ≤ c.toInt ∧ c.toInt ≤ 12271) ∨ (12289 ≤ c.toInt ∧ c.toInt ≤ 55295) ∨ (63744 ≤ c.toInt ∧ c.toInt ≤ 64975) ∨ (65008 ≤ c.toInt ∧ c.toInt ≤ 65533) ∨ (65536 ≤ c.toInt ∧ c.toInt ≤ 983039) then 1 else 0 := by
  have hb1 := c.le_toInt
  have hb2 := c.toInt_lt
  unfold F1_120
  simp only [own_F1_134, own_F1_197]
  have k8304 : (8304 : Int32).toInt = 8304 := by decide
  have k8591 : (8591 : Int32).toInt = 8591 := by decide
  repeat' split
  all_goals first | rfl | (exfalso; simp only [Int32.lt_iff_toInt_lt, ← Int32.toInt_inj, k8304, k8591] at *; omega)
theorem own_F1_106 (c : Int32) : F1_106 c = if (8204 ≤ c.toInt ∧ c.toInt ≤ 8205) ∨ (8304 ≤ c.toInt ∧ c.toInt ≤ 8591) ∨ (11264 ≤ c.toInt ∧ c.toInt ≤ 12271) ∨ (12289 ≤ c.toInt ∧ c.toInt ≤ 55295) ∨ (63744 ≤ c.toInt ∧ c.toInt ≤ 64975) ∨ (65008 ≤ c.toInt ∧ c.toInt ≤ 65533) ∨ (65536 ≤ c.toInt ∧ c.toInt ≤ 983039) then 1 else 0 := by
  have hb1 := c.le_toInt
  have hb2 := c.toInt_lt
  unfold F1_106
  simp only [own_F1_120, own_F1_197]
  have k8204 : (8204 : Int32).toInt = 8204 := by decide
  have k8205 : (8205 : Int32).toInt = 8205 := by decide
  repeat' split
  all_goals first | rfl | (exfalso; simp only [Int32.lt_iff_toInt_lt, ← Int32.toInt_inj, k8204, k8205] at *; omega)
theorem own_F1_92 (c : Int32) : F1_92 c = if (895 ≤ c.toInt ∧ c.toInt ≤ 8191) ∨ (8204 ≤ c.toInt ∧ c.toInt ≤ 8205) ∨ (8304 ≤ c.toInt ∧ c.toInt ≤ 8591) ∨ (11264 ≤ c.toInt ∧ c.toInt ≤ 12271) ∨ (12289 ≤ c.toInt ∧ c.toInt ≤ 55295) ∨ (63744 ≤ c.toInt ∧ c.toInt ≤ 64975) ∨ (65008 ≤ c.toInt ∧ c.toInt ≤ 65533) ∨ (65536 ≤ c.toInt ∧ c.toInt ≤ 983039) then 1 else 0 := by
  have hb1 := c.le_toInt
  have hb2 := c.toInt_lt
  unfold F1_92
  simp only [own_F1_106, own_F1_197]
  have k895 : (895 : Int32).toInt = 895 := by decide
  have k8191 : (8191 : Int32).toInt = 8191 := by decide
  repeat' split
  all_goals first | rfl | (exfalso; simp only [Int32.lt_iff_toInt_lt, ← Int32.toInt_inj, k895, k8191] at *; omega)
theorem own_F1_78 (c : Int32) : F1_78 c = if (880 ≤ c.toInt ∧ c.toInt ≤ 893) ∨ (895 ≤ c.toInt ∧ c.toInt ≤ 8191) ∨ (8204 ≤ c.toInt ∧ c.toInt ≤ 8205) ∨ (8304 ≤ c.toInt ∧ c.toInt ≤ 8591) ∨ (11264 ≤ c.toInt ∧ c.toInt ≤ 12271) ∨ (12289 ≤ c.toInt ∧ c.toInt ≤ 55295) ∨ (63744 ≤ c.toInt ∧ c.toInt ≤ 64975) ∨ (65008 ≤ c.toInt ∧ c.toInt ≤ 65533) ∨ (65536 ≤ c.toInt ∧ c.toInt ≤ 983039) then 1 else 0 := by
  have hb1 := c.le_toInt
  have hb2 := c.toInt_lt
  unfold F1_78
  simp only [own_F1_92, own_F1_197]
  have k880 : (880 : Int32).toInt = 880 := by decide
  have k893 : (893 : Int32).toInt = 893 := by decide
  repeat' split
  all_goals first | rfl | (exfalso; simp only [Int32.lt_iff_toInt_lt, ← Int32.toInt_inj, k880, k893] at *; omega)
theorem own_F1_64 (c : Int32) : F1_64 c = if (248 ≤ c.toInt ∧ c.toInt ≤ 767) ∨ (880 ≤ c.toInt ∧ c.toInt ≤ 893) ∨ (895 ≤ c.toInt ∧ c.toInt ≤ 8191) ∨ (8204 ≤ c.toInt ∧ c.toInt ≤ 8205) ∨ (8304 ≤ c.toInt ∧ c.toInt ≤ 8591) ∨ (11264 ≤ c.toInt ∧ c.toInt ≤ 12271) ∨ (12289 ≤ c.toInt ∧ c.toInt ≤ 55295) ∨ (63744 ≤ c.toInt ∧ c.toInt ≤ 64975) ∨ (65008 ≤ c.toInt ∧ c.toInt ≤ 65533) ∨ (65536 ≤ c.toInt ∧ c.toInt ≤ 983039) then 1 else 0 := by
  have hb1 := c.le_toInt
  have hb2 := c.toInt_lt
  unfold F1_64
  simp only [own_F1_78, own_F1_197]
  have k248 : (248 : Int32).toInt = 248 := by decide
  have k767 : (767 : Int32).toInt = 767 := by decide
  repeat' split
  all_goals first | rfl | (exfalso; simp only [Int32.lt_iff_toInt_lt, ← Int32.toInt_inj, k248, k767] at *; omega)
theorem own_F1_50 (c : Int32) : F1_50 c = if (216 ≤ c.toInt ∧ c.toInt ≤ 246) ∨ (248 ≤ c.toInt ∧ c.toInt ≤ 767) ∨ (880 ≤ c.toInt ∧ c.toInt ≤ 893) ∨ (895 ≤ c.toInt ∧ c.toInt ≤ 8191) ∨ (8204 ≤ c.toInt ∧ c.toInt ≤ 8205) ∨ (8304 ≤ c.toInt ∧ c.toInt ≤ 8591) ∨ (11264 ≤ c.toInt ∧ c.toInt ≤ 12271) ∨ (12289 ≤ c.toInt ∧ c.toInt ≤ 55295) ∨ (63744 ≤ c.toInt ∧ c.toInt ≤ 64975) ∨ (65008 ≤ c.toInt ∧ c.toInt ≤ 65533) ∨ (65536 ≤ c.toInt ∧ c.toInt ≤ 983039) then 1 else 0 := by
  have hb1 := c.le_toInt
  have hb2 := c.toInt_lt
  unfold F1_50
  simp only [own_F1_64, own_F1_197]
  have k216 : (216 : Int32).toInt = 216 := by decide
  have k246 : (246 : Int32).toInt = 246 := by decide
  repeat' split
  all_goals first | rfl | (exfalso; simp only [Int32.lt_iff_toInt_lt, ← Int32.toInt_inj, k216, k246] at *; omega)
theorem own_F1_36 (c : Int32) : F1_36 c = if (192 ≤ c.toInt ∧ c.toInt ≤ 214) ∨ (216 ≤ c.toInt ∧ c.toInt ≤ 246) ∨ (248 ≤ c.toInt ∧ c.toInt ≤ 767) ∨ (880 ≤ c.toInt ∧ c.toInt ≤ 893) ∨ (895 ≤ c.toInt ∧ c.toInt ≤ 8191) ∨ (8204 ≤ c.toInt ∧ c.toInt ≤ 8205) ∨ (8304 ≤ c.toInt ∧ c.toInt ≤ 8591) ∨ (11264 ≤ c.toInt ∧ c.toInt ≤ 12271) ∨ (12289 ≤ c.toInt ∧ c.toInt ≤ 55295) ∨ (63744 ≤ c.toInt ∧ c.toInt ≤ 64975) ∨ (65008 ≤ c.toInt ∧ c.toInt ≤ 65533) ∨ (65536 ≤ c.toInt ∧ c.toInt ≤ 983039) then 1 else 0 := by
  have hb1 := c.le_toInt
  have hb2 := c.toInt_lt
  unfold F1_36
  simp only [own_F1_50, own_F1_197]
  have k192 : (192 : Int32).toInt = 192 := by decide
  have k214 : (214 : Int32).toInt = 214 := by decide
  repeat' split
  all_goals first | rfl | (exfalso; simp only [Int32.lt_iff_toInt_lt, ← Int32.toInt_inj, k192, k214] at *; omega)
theorem own_F1_18 (c : Int32) : F1_18 c = if (95 ≤ c.toInt ∧ c.toInt ≤ 95) ∨ (97 ≤ c.toInt ∧ c.toInt ≤ 122) ∨ (192 ≤ c.toInt ∧ c.toInt ≤ 214) ∨ (216 ≤ c.toInt ∧ c.toInt ≤ 246) ∨ (248 ≤ c.toInt ∧ c.toInt ≤ 767) ∨ (880 ≤ c.toInt ∧ c.toInt ≤ 893) ∨ (895 ≤ c.toInt ∧ c.toInt ≤ 8191) ∨ (8204 ≤ c.toInt ∧ c.toInt ≤ 8205) ∨ (8304 ≤ c.toInt ∧ c.toInt ≤ 8591) ∨ (11264 ≤ c.toInt ∧ c.toInt ≤ 12271) ∨ (12289 ≤ c.toInt ∧ c.toInt ≤ 55295) ∨ (63744 ≤ c.toInt ∧ c.toInt ≤ 64975) ∨ (65008 ≤ c.toInt ∧ c.toInt ≤ 65533) ∨ (65536 ≤ c.toInt ∧ c.toInt ≤ 983039) then 1 else 0 := by
  have hb1 := c.le_toInt
  have hb2 := c.toInt_lt
  unfold F1_18
  simp only [own_F1_197, own_F1_36]
  have k95 : (95 : Int32).toInt = 95 := by decide
  have k97 : (97 : Int32).toInt = 97 := by decide
  have k122 : (122 : Int32).toInt = 122 := by decide
  repeat' split
  all_goals first | rfl | (exfalso; simp only [Int32.lt_iff_toInt_lt, ← Int32.toInt_inj, k95, k97, k122] at *; omega)
theorem own_F1_0 (c : Int32) : F1_0 c = if (58 ≤ c.toInt ∧ c.toInt ≤ 58) ∨ (65 ≤ c.toInt ∧ c.toInt ≤ 90) ∨ (95 ≤ c.toInt ∧ c.toInt ≤ 95) ∨ (97 ≤ c.toInt ∧ c.toInt ≤ 122) ∨ (192 ≤ c.toInt ∧ c.toInt ≤ 214) ∨ (216 ≤ c.toInt ∧ c.toInt ≤ 246) ∨ (248 ≤ c.toInt ∧ c.toInt ≤ 767) ∨ (880 ≤ c.toInt ∧ c.toInt ≤ 893) ∨ (895 ≤ c.toInt ∧ c.toInt ≤ 8191) ∨ (8204 ≤ c.toInt ∧ c.toInt ≤ 8205) ∨ (8304 ≤ c.toInt ∧ c.toInt ≤ 8591) ∨ (11264 ≤ c.toInt ∧ c.toInt ≤ 12271) ∨ (12289 ≤ c.toInt ∧ c.toInt ≤ 55295) ∨ (63744 ≤ c.toInt ∧ c.toInt ≤ 64975) ∨ (65008 ≤ c.toInt ∧ c.toInt ≤ 65533) ∨ (65536 ≤ c.toInt ∧ c.toInt ≤ 983039) then 1 else 0 := by
  have hb1 := c.le_toInt
  have hb2 := c.toInt_lt
  unfold F1_0
  simp only [own_F1_197, own_F1_18]
  have k58 : (58 : Int32).toInt = 58 := by decide
  have k65 : (65 : Int32).toInt = 65 := by decide
  have k90 : (90 : Int32).toInt = 90 := by decide
  repeat' split
  all_goals first | rfl | (exfalso; simp only [Int32.lt_iff_toInt_lt, ← Int32.toInt_inj, k58, k65, k90] at *; omega)
theorem own_F2_210 (c : Int32) : F2_210 c = 0 := by
  rfl
theorem own_F2_198 (c : Int32) : F2_198 c = if (-2147483648 ≤ c.toInt ∧ c.toInt ≤ 65533) ∨ (65536 ≤ c.toInt ∧ c.toInt ≤ 2147483647) then 1 else 0 := by
  have hb1 := c.le_toInt
  have hb2 := c.toInt_lt
  unfold F2_198
  simp only [own_F2_210]
  have k65534 : (65534 : Int32).toInt = 65534 := by decide
  have k65535 : (65535 : Int32).toInt = 65535 := by decide
  repeat' split
  all_goals first | rfl | (exfalso; simp only [Int32.lt_iff_toInt_lt, ← Int32.toInt_inj, k65534, k65535] at *; omega)
theorem own_F2_184 (c : Int32) : F2_184 c = if (-2147483648 ≤ c.toInt ∧ c.toInt ≤ 64975) ∨ (65008 ≤ c.toInt ∧ c.toInt ≤ 65533) ∨ (65536 ≤ c.toInt ∧ c.toInt ≤ 2147483647) then 1 else 0 := by
  have hb1 := c.le_toInt
  have hb2 := c.toInt_lt
  unfold F2_184
  simp only [own_F2_198]
  have k64976 : (64976 : Int32).toInt = 64976 := by decide
  have k65007 : (65007 : Int32).toInt = 65007 := by decide
  repeat' split
  all_goals first | rfl | (exfalso; simp only [Int32.lt_iff_toInt_lt, ← Int32.toInt_inj, k64976, k65007] at *; omega)
theorem own_F2_170 (c : Int32) : F2_170 c = if (-2147483648 ≤ c.toInt ∧ c.toInt ≤ 55295) ∨ (63744 ≤ c.toInt ∧ c.toInt ≤ 64975) ∨ (65008 ≤ c.toInt ∧ c.toInt ≤ 65533) ∨ (65536 ≤ c.toInt ∧ c.toInt ≤ 2147483647) then 1 else 0 := by
  have hb1 := c.le_toInt
  have hb2 := c.toInt_lt
  unfold F2_170
  simp only [own_F2_184]
  have k55296 : (55296 : Int32).toInt = 55296 := by decide
  have k63743 : (63743 : Int32).toInt = 63743 := by decide
  repeat' split
  all_goals first | rfl | (exfalso; simp only [Int32.lt_iff_toInt_lt, ← Int32.toInt_inj, k55296, k63743] at *; omega)
theorem own_F2_154 (c : Int32) : F2_154 c = if (-2147483648 ≤ c.toInt ∧ c.toInt ≤ 12271) ∨ (12289 ≤ c.toInt ∧ c.toInt ≤ 55295) ∨ (63744 ≤ c.toInt ∧ c.toInt ≤ 64975) ∨ (65008 ≤ c.toInt ∧ c.toInt ≤ 65533) ∨ (65536 ≤ c.toInt ∧ c.toInt ≤ 2147483647) then 1 else 0 := by
  have hb1 := c.le_toInt
  have hb2 := c.toInt_lt
  unfold F2_154
  simp only [own_F2_170]
  have k12272 : (12272 : Int32).toInt = 12272 := by decide
  have k12288 : (12288 : Int32).toInt = 12288 := by decide
  repeat' split
  all_goals first | rfl | (exfalso; simp only [Int32.lt_iff_toInt_lt, ← Int32.toInt_inj, k12272, k12288] at *; omega)
theorem own_F2_138 (c : Int32) : F2_138 c = if (-2147483648 ≤ c.toInt ∧ c.toInt ≤ 8591) ∨ (11264 ≤ c.toInt ∧ c.toInt ≤ 12271) ∨ (12289 ≤ c.toInt ∧ c.toInt ≤ 55295) ∨ (63744 ≤ c.toInt ∧ c.toInt ≤ 64975) ∨ (65008 ≤ c.toInt ∧ c.toInt ≤ 65533) ∨ (65536 ≤ c.toInt ∧ c.toInt ≤ 2147483647) then 1 else 0 := by
  have hb1 := c.le_toInt
  have hb2 := c.toInt_lt
  unfold F2_138
  simp only [own_F2_154]
  have k8592 : (8592 : Int32).toInt = 8592 := by decide
  have k11263 : (11263 : Int32).toInt = 11263 := by decide
  repeat' split
  all_goals first | rfl | (exfalso; simp only [Int32.lt_iff_toInt_lt, ← Int32.toInt_inj, k8592, k11263] at *; omega)
theorem own_F2_122 (c : Int32) : F2_122 c = if (-2147483648 ≤ c.toInt ∧ c.toInt ≤ 8205) ∨ (8304 ≤ c.toInt ∧ c.toInt ≤ 8591) ∨ (11264 ≤ c.toInt ∧ c.toInt ≤ 12271) ∨ (12289 ≤ c.toInt ∧ c.toInt ≤ 55295) ∨ (63744 ≤ c.toInt ∧ c.toInt ≤ 64975) ∨ (65008 ≤ c.toInt ∧ c.toInt ≤ 65533) ∨ (65536 ≤ c.toInt ∧ c.toInt ≤ 2147483647) then 1 else 0 := by
  have hb1 := c.le_toInt
  have hb2 := c.toInt_lt
  unfold F2_122
  simp only [own_F2_138]
  have k8206 : (8206 : Int32).toInt = 8206 := by decide
  have k8303 : (8303 : Int32).toInt = 8303 := by decide
  repeat' split
  all_goals first | rfl | (exfalso; simp only [Int32.lt_iff_toInt_lt, ← Int32.toInt_inj, k8206, k8303] at *; omega)
theorem own_F2_97 (c : Int32) : F2_97 c = if (-2147483648 ≤ c.toInt ∧ c.toInt ≤ 893) ∨ (895 ≤ c.toInt ∧ c.toInt ≤ 8191) ∨ (8204 ≤ c.toInt ∧ c.toInt ≤ 8205) ∨ (8304 ≤ c.toInt ∧ c.toInt ≤ 8591) ∨ (11264 ≤ c.toInt ∧ c.toInt ≤ 12271) ∨ (12289 ≤ c.toInt ∧ c.toInt ≤ 55295) ∨ (63744 ≤ c.toInt ∧ c.toInt ≤ 64975) ∨ (65008 ≤ c.toInt ∧ c.toInt ≤ 65533) ∨ (65536 ≤ c.toInt ∧ c.toInt ≤ 2147483647) then 1 else 0 := by
  have hb1 := c.le_toInt
  have hb2 := c.toInt_lt
  unfold F2_97
  simp only [own_F2_122]
  have k894 : (894 : Int32).toInt = 894 := by decide
  have k8192 : (8192 : Int32).toInt = 8192 := by decide
  have k8203 : (8203 : Int32).toInt = 8203 := by decide
  repeat' split
  all_goals first | rfl | (exfalso; simp only [Int32.lt_iff_toInt_lt, ← Int32.toInt_inj, k894, k8192, k8203] at *; omega)
theorem own_F2_79 (c : Int32) : F2_79 c = 0 := by
  rfl
theorem own_F2_65 (c : Int32) : F2_65 c = if (-2147483648 ≤ c.toInt ∧ c.toInt ≤ 214) ∨ (216 ≤ c.toInt ∧ c.toInt ≤ 246) ∨ (248 ≤ c.toInt ∧ c.toInt ≤ 767) ∨ (880 ≤ c.toInt ∧ c.toInt ≤ 893) ∨ (895 ≤ c.toInt ∧ c.toInt ≤ 8191) ∨ (8204 ≤ c.toInt ∧ c.toInt ≤ 8205) ∨ (8304 ≤ c.toInt ∧ c.toInt ≤ 8591) ∨ (11264 ≤ c.toInt ∧ c.toInt ≤ 12271) ∨ (12289 ≤ c.toInt ∧ c.toInt ≤ 55295) ∨ (63744 ≤ c.toInt ∧ c.toInt ≤ 64975) ∨ (65008 ≤ c.toInt ∧ c.toInt ≤ 65533) ∨ (65536 ≤ c.toInt ∧ c.toInt ≤ 2147483647) then 1 else 0 := by
  have hb1 := c.le_toInt
  have hb2 := c.toInt_lt
  unfold F2_65
  simp only [own_F2_79, own_F2_97]
  have k215 : (215 : Int32).toInt = 215 := by decide
  have k247 : (247 : Int32).toInt = 247 := by decide
  have k768 : (768 : Int32).toInt = 768 := by decide
  have k879 : (879 : Int32).toInt = 879 := by decide
  repeat' split
  all_goals first | rfl | (exfalso; simp only [Int32.lt_iff_toInt_lt, ← Int32.toInt_inj, k215, k247, k768, k879] at *; omega)
theorem own_F2_42 (c : Int32) : F2_42 c = if (-2147483648 ≤ c.toInt ∧ c.toInt ≤ 95) ∨ (97 ≤ c.toInt ∧ c.toInt ≤ 122) ∨ (192 ≤ c.toInt ∧ c.toInt ≤ 214) ∨ (216 ≤ c.toInt ∧ c.toInt ≤ 246) ∨ (248 ≤ c.toInt ∧ c.toInt ≤ 767) ∨ (880 ≤ c.toInt ∧ c.toInt ≤ 893) ∨ (895 ≤ c.toInt ∧ c.toInt ≤ 8191) ∨ (8204 ≤ c.toInt ∧ c.toInt ≤ 8205) ∨ (8304 ≤ c.toInt ∧ c.toInt ≤ 8591) ∨ (11264 ≤ c.toInt ∧ c.toInt ≤ 12271) ∨ (12289 ≤ c.toInt ∧ c.toInt ≤ 55295) ∨ (63744 ≤ c.toInt ∧ c.toInt ≤ 64975) ∨ (65008 ≤ c.toInt ∧ c.toInt ≤ 65533) ∨ (65536 ≤ c.toInt ∧ c.toInt ≤ 2147483647) then 1 else 0 := by
  have hb1 := c.le_toInt
  have hb2 := c.toInt_lt
  unfold F2_42
  simp only [own_F2_65]
  have k96 : (96 : Int32).toInt = 96 := by decide
  have k123 : (123 : Int32).toInt = 123 := by decide
  have k191 : (191 : Int32).toInt = 191 := by decide
  repeat' split
  all_goals first | rfl | (exfalso; simp only [Int32.lt_iff_toInt_lt, ← Int32.toInt_inj, k96, k123, k191] at *; omega)
theorem own_F2_28 (c : Int32) : F2_28 c = if (-2147483648 ≤ c.toInt ∧ c.toInt ≤ 90) ∨ (95 ≤ c.toInt ∧ c.toInt ≤ 95) ∨ (97 ≤ c.toInt ∧ c.toInt ≤ 122) ∨ (192 ≤ c.toInt ∧ c.toInt ≤ 214) ∨ (216 ≤ c.toInt ∧ c.toInt ≤ 246) ∨ (248 ≤ c.toInt ∧ c.toInt ≤ 767) ∨ (880 ≤ c.toInt ∧ c.toInt ≤ 893) ∨ (895 ≤ c.toInt ∧ c.toInt ≤ 8191) ∨ (8204 ≤ c.toInt ∧ c.toInt ≤ 8205) ∨ (8304 ≤ c.toInt ∧ c.toInt ≤ 8591) ∨ (11264 ≤ c.toInt ∧ c.toInt ≤ 12271) ∨ (12289 ≤ c.toInt ∧ c.toInt ≤ 55295) ∨ (63744 ≤ c.toInt ∧ c.toInt ≤ 64975) ∨ (65008 ≤ c.toInt ∧ c.toInt ≤ 65533) ∨ (65536 ≤ c.toInt ∧ c.toInt ≤ 2147483647) then 1 else 0 := by
  have hb1 := c.le_toInt
  have hb2 := c.toInt_lt
  unfold F2_28
  simp only [own_F2_42]
  have k91 : (91 : Int32).toInt = 91 := by decide
  have k94 : (94 : Int32).toInt = 94 := by decide
  repeat' split
  all_goals first | rfl | (exfalso; simp only [Int32.lt_iff_toInt_lt, ← Int32.toInt_inj, k91, k94] at *; omega)
theorem own_F2_12 (c : Int32) : F2_12 c = 0 := by
  rfl
theorem own_F2_0 (c : Int32) : F2_0 c = if (58 ≤ c.toInt ∧ c.toInt ≤ 58) ∨ (65 ≤ c.toInt ∧ c.toInt ≤ 90) ∨ (95 ≤ c.toInt ∧ c.toInt ≤ 95) ∨ (97 ≤ c.toInt ∧ c.toInt ≤ 122) ∨ (192 ≤ c.toInt ∧ c.toInt ≤ 214) ∨ (216 ≤ c.toInt ∧ c.toInt ≤ 246) ∨ (248 ≤ c.toInt ∧ c.toInt ≤ 767) ∨ (880 ≤ c.toInt ∧ c.toInt ≤ 893) ∨ (895 ≤ c.toInt ∧ c.toInt ≤ 8191) ∨ (8204 ≤ c.toInt ∧ c.toInt ≤ 8205) ∨ (8304 ≤ c.toInt ∧ c.toInt ≤ 8591) ∨ (11264 ≤ c.toInt ∧ c.toInt ≤ 12271) ∨ (12289 ≤ c.toInt ∧ c.toInt ≤ 55295) ∨ (63744 ≤ c.toInt ∧ c.toInt ≤ 64975) ∨ (65008 ≤ c.toInt ∧ c.toInt ≤ 65533) ∨ (65536 ≤ c.toInt ∧ c.toInt ≤ 983039) then 1 else 0 := by
  have hb1 := c.le_toInt
  have hb2 := c.toInt_lt
  unfold F2_0
  simp only [own_F2_12, own_F2_28]
  have k58 : (58 : Int32).toInt = 58 := by decide
  have k59 : (59 : Int32).toInt = 59 := by decide
  have k64 : (64 : Int32).toInt = 64 := by decide
  have k983039 : (983039 : Int32).toInt = 983039 := by decide
  repeat' split
  all_goals first | rfl | (exfalso; simp only [Int32.lt_iff_toInt_lt, ← Int32.toInt_inj, k58, k59, k64, k983039] at *; omega)
theorem own_F3_58 (c : Int32) : F3_58 c = 0 := by
  rfl
theorem own_F3_54 (c : Int32) : F3_54 c = 1 := by
  rfl
theorem own_F3_42 (c : Int32) : F3_42 c = if (65536 ≤ c.toInt ∧ c.toInt ≤ 1114111) then 1 else 0 := by
  have hb1 := c.le_toInt
  have hb2 := c.toInt_lt
  unfold F3_42
  simp only [own_F3_58, own_F3_54]
  have k65536 : (65536 : Int32).toInt = 65536 := by decide
  have k1114111 : (1114111 : Int32).toInt = 1114111 := by decide
  repeat' split
  all_goals first | rfl | (exfalso; simp only [Int32.lt_iff_toInt_lt, ← Int32.toInt_inj, k65536, k1114111] at *; omega)
theorem own_F3_30 (c : Int32) : F3_30 c = if (57344 ≤ c.toInt ∧ c.toInt ≤ 65533) ∨ (65536 ≤ c.toInt ∧ c.toInt ≤ 1114111) then 1 else 0 := by
  have hb1 := c.le_toInt
  have hb2 := c.toInt_lt
  unfold F3_30
  simp only [own_F3_42, own_F3_54]
  have k57344 : (57344 : Int32).toInt = 57344 := by decide
  have k65533 : (65533 : Int32).toInt = 65533 := by decide
  repeat' split
  all_goals first | rfl | (exfalso; simp only [Int32.lt_iff_toInt_lt, ← Int32.toInt_inj, k57344, k65533] at *; omega)
theorem own_F3_0 (c : Int32) : F3_0 c = if (9 ≤ c.toInt ∧ c.toInt ≤ 10) ∨ (13 ≤ c.toInt ∧ c.toInt ≤ 13) ∨ (32 ≤ c.toInt ∧ c.toInt ≤ 55295) ∨ (57344 ≤ c.toInt ∧ c.toInt ≤ 65533) ∨ (65536 ≤ c.toInt ∧ c.toInt ≤ 1114111) then 1 else 0 := by
  have hb1 := c.le_toInt
  have hb2 := c.toInt_lt
  unfold F3_0
  simp only [own_F3_54, own_F3_30]
  have k9 : (9 : Int32).toInt = 9 := by decide
  have k10 : (10 : Int32).toInt = 10 := by decide
  have k13 : (13 : Int32).toInt = 13 := by decide
  have k32 : (32 : Int32).toInt = 32 := by decide
  have k55295 : (55295 : Int32).toInt = 55295 := by decide
  repeat' split
  all_goals first | rfl | (exfalso; simp only [Int32.lt_iff_toInt_lt, ← Int32.toInt_inj, k9, k10, k13, k32, k55295] at *; omega)
theorem pn_0 : plainName "com/example/nestdb/nestdb/xml/XmlCharsIsNameStartCharPinLaw" = true := by first | (simp [plainName, overriddenIn]; done) | decide +kernel
theorem pd_0_0 : parseMethodDescriptor "(I)Z" = some ⟨[.int], some .boolean⟩ := by decide +kernel
theorem ef_0 (m : MethodId) (x0 : Int32) (x1 : Int32) : entryFrame m #[(.int x0), (.int x1)] maxLocals = mkF m 0 #[.val (.int x0), .val (.int x1), .unset, .unset, .unset] [] := by first | (simp [entryFrame, mkF, argsToLocals, Value.category, maxLocals]; done) | rfl
def Q0 (Z : State) (p1 : Int32) (p2 : Int32) (h0 : Heap) (n0 : Nat) (v : Option Value) (h : Heap) (L : List Loc) : Prop := v = some (.int (1 : Int32)) ∧ Fr n0 L
set_option maxRecDepth 65536 in
set_option maxHeartbeats 40000000 in
theorem rm0_ftt (l : Launch) (Z : State) (a0 : Array Value) (hw : ∀ d ∈ tables_1, d.before a0 Z = true) (ws : List Jvm.Cond) (p1 : Int32) (p2 : Int32) (h0 : Heap) (n0 : Nat) (Z0 : n0 ≤ h0.size) (hc5 : (p2 &&& (3 : Int32)) = (0 : Int32)) (hk57 : (F1_0 p1) = (F2_0 p1)) (hk64 : (F1_0 p1) = (0 : Int32)) :
    MetFree l x (head1 (Jvm.Cond.code x code maxLocals ret :: ws) room_1) (fun a U => a = #[(.int p1), (.int p2)] ∧ Z.Warmed39 U.vm ∧ U.heap = h0) (fun _ _ _ _ _ => True) (fun _ U o U' => ∃ v L, o = .returned v ∧ Q0 Z p1 p2 h0 n0 v U'.heap L ∧ FrameEnd U o U' L room_1.cells room_1.slots) := by
  refine MetFree.of_bodySF (plainFor_of_name pn_0) hisR ?_
  intro p e s m args below meth c s₁ Bd hml0 hP hK
  obtain ⟨rfl, hZ, hh⟩ := hP
  have hx := Bd.exec
  have hby := Bd.bytes
  have hml : c.maxLocals = 5 := hml0
  have hown : s.vm.findClass "com/example/nestdb/nestdb/xml/XmlCharsIsNameStartCharPinLaw" = some m.cls := findClass_of_methodNamed Bd.named
  have hnm := (name_of_methodNamed Bd.named Bd.method).1
  have X0 : Stand p l e room_1 s m #[(.int p1), (.int p2)] below meth c s₁ [] 0 0 := Stand.of_body Bd
  have e0 : s₁.heap = h0 := by rw [← hh, Bd.state]; rfl
  have N0 := Fr.nil n0
  have pre0 : ∀ t, Steps p.tables e below (s₁.setTop (mkF m 0 #[.val (.int p1), .val (.int p2), .unset, .unset, .unset] [])) t → Steps p.tables e below (s₁.setTop (entryFrame m #[(.int p1), (.int p2)] maxLocals)) t := fun t k => castTop (ef_0 m p1 p2) k
  obtain ⟨_, _, ⟨T3, L3, k3, n3⟩, -, X3, ⟨Lc3, hQ3, l3, y3, z3⟩, st3⟩ := Jvm.LawKit.callS X0 hx (y := (⟨"com/example/nestdb/nestdb/xml/XmlChars", "isNameStartChar", "(I)Z"⟩ : MethodName)) hown (mvT hZ (hw _ (List.mem_of_getElem? (i := 1) rfl))) (mvT hZ (hw _ (List.mem_of_getElem? (i := 2) rfl))) (mvT hZ (hw _ (List.mem_of_getElem? (i := 3) rfl))) (mvT hZ (hw _ (List.mem_of_getElem? (i := 4) rfl))) (by decide) (backOf (W := 0) (rm1 l Z a0 hw [] p1  h0 n0 Z0) hZ (hw _ (List.mem_of_getElem? (i := 4) rfl)) (hw _ (List.mem_of_getElem? (i := 3) rfl)) (by decide) (by decide)) (g := (mkF m 46 #[.val (.int p1), .val (.int p2), .val (.int (p2 &&& (3 : Int32))), .val (.int p1), .unset] [(.int p1)])) rfl (by rw [hml]; rfl) (argsL := [(.int p1)]) (rest := []) (lenOf pd_0_0 rfl) rfl (by show 2 * 0 + _ ≤ _; exact Nat.le_of_eq rfl) (hb hby at_46) (fun _ _ => ⟨rfl, e0, (by decide : 0 + 0 ≤ _), (by decide : 0 + 0 ≤ _)⟩)
  dsimp only [Pt.U, Pt.locs, Pt.cells, Pt.slots] at X3 l3 y3 z3 st3 hQ3
  subst l3 y3 z3
  obtain ⟨rfl, N3q, e3q⟩ := hQ3
  have N3 := Fr.app N0 N3q
  have Z3 : n0 ≤ T3.heap.size := by rw [e3q]; exact Z0
  have Kq3 : Keep h0 T3.heap [] := by rw [e3q]; exact Keep.refl _ _
  obtain ⟨_, _, ⟨T4, L4, k4, n4⟩, -, X4, ⟨Lc4, hQ4, l4, y4, z4⟩, st4⟩ := Jvm.LawKit.callS X3 hx (y := (⟨"com/example/nestdb/nestdb/xml/XmlCharsIsNameStartCharPinLaw", "ref", "(I)Z"⟩ : MethodName)) hown (mvT hZ (hw _ (List.mem_of_getElem? (i := 8) rfl))) (mvT hZ (hw _ (List.mem_of_getElem? (i := 9) rfl))) (mvT hZ (hw _ (List.mem_of_getElem? (i := 10) rfl))) (mvT hZ (hw _ (List.mem_of_getElem? (i := 11) rfl))) (by decide) (backOf (W := 1) (rm2 l Z a0 hw [] p1  T3.heap n0 Z3) hZ (hw _ (List.mem_of_getElem? (i := 11) rfl)) (hw _ (List.mem_of_getElem? (i := 10) rfl)) (by decide) (by decide)) (g := (mkF m 54 #[.val (.int p1), .val (.int p2), .val (.int (p2 &&& (3 : Int32))), .val (.int p1), .val (.int (F1_0 p1))] [(.int p1), (.int (F1_0 p1))])) rfl (by rw [hml]; rfl) (argsL := [(.int p1)]) (rest := [(.int (F1_0 p1))]) (lenOf pd_0_0 rfl) rfl (by show 2 * 0 + _ ≤ _; exact Nat.le_of_eq rfl) (hb hby at_54) (fun _ _ => ⟨rfl, rfl, (by decide : 0 + 0 ≤ _), (by decide : 0 + 0 ≤ _)⟩)
  dsimp only [Pt.U, Pt.locs, Pt.cells, Pt.slots] at X4 l4 y4 z4 st4 hQ4
  subst l4 y4 z4
  obtain ⟨rfl, N4q, e4q⟩ := hQ4
  have N4 := Fr.app N3 N4q
  have Z4 : n0 ≤ T4.heap.size := by rw [e4q]; exact Z3
  have Kq4 : Keep T3.heap T4.heap [] := by rw [e4q]; exact Keep.refl _ _
  obtain ⟨fs, hr, hrun, hended, hW, hsame⟩ := X4.leave (v := some (.int (1 : Int32))) (fun h => by rw [Bd.returns] at h; cases h) Bd.notSynchronized
  refine ⟨_, _, pre0 _ ?_, hrun, hended, _, _, rfl, ?_, ⟨_, rfl⟩, hW, hsame.mono (by decide) (by decide)⟩
  · show Steps p.tables e below (s₁.setTop (mkF m 0 #[.val (.int p1), .val (.int p2), .unset, .unset, .unset] [])) _
    refine XS.iloadN X0.here hx rfl (hb hby at_0) rfl ?_
    show Steps p.tables e below (s₁.setTop (mkF m 1 #[.val (.int p1), .val (.int p2), .unset, .unset, .unset] [(.int p2)])) _
    refine XS.iconst X0.here hx rfl (hb hby at_1) ?_
    show Steps p.tables e below (s₁.setTop (mkF m 2 #[.val (.int p1), .val (.int p2), .unset, .unset, .unset] [(.int (3 : Int32)), (.int p2)])) _
    refine XS.iand X0.here hx rfl (hb hby at_2) rfl ?_
    show Steps p.tables e below (s₁.setTop (mkF m 3 #[.val (.int p1), .val (.int p2), .unset, .unset, .unset] [(.int (p2 &&& (3 : Int32)))])) _
    refine XS.istoreN X0.here hx rfl (hb hby at_3) rfl (l' := #[.val (.int p1), .val (.int p2), .val (.int (p2 &&& (3 : Int32))), .unset, .unset]) rfl ?_
    show Steps p.tables e below (s₁.setTop (mkF m 4 #[.val (.int p1), .val (.int p2), .val (.int (p2 &&& (3 : Int32))), .unset, .unset] [])) _
    refine XS.iloadN X0.here hx rfl (hb hby at_4) rfl ?_
    show Steps p.tables e below (s₁.setTop (mkF m 5 #[.val (.int p1), .val (.int p2), .val (.int (p2 &&& (3 : Int32))), .unset, .unset] [(.int (p2 &&& (3 : Int32)))])) _
    refine XS.ifNo X0.here hx rfl (hb hby at_5) rfl ((if0 _ _).trans (teq hc5).2) ?_
    show Steps p.tables e below (s₁.setTop (mkF m 8 #[.val (.int p1), .val (.int p2), .val (.int (p2 &&& (3 : Int32))), .unset, .unset] [])) _
    refine XS.iloadN X0.here hx rfl (hb hby at_8) rfl ?_
    show Steps p.tables e below (s₁.setTop (mkF m 9 #[.val (.int p1), .val (.int p2), .val (.int (p2 &&& (3 : Int32))), .unset, .unset] [(.int p1)])) _
    refine XS.istoreN X0.here hx rfl (hb hby at_9) rfl (l' := #[.val (.int p1), .val (.int p2), .val (.int (p2 &&& (3 : Int32))), .val (.int p1), .unset]) rfl ?_
    show Steps p.tables e below (s₁.setTop (mkF m 10 #[.val (.int p1), .val (.int p2), .val (.int (p2 &&& (3 : Int32))), .val (.int p1), .unset] [])) _
    refine XS.goto X0.here hx rfl (pc0 := 10) (pc' := 45) rfl (hb hby at_10) (by decide) (by decide) ?_
    show Steps p.tables e below (s₁.setTop (mkF m 45 #[.val (.int p1), .val (.int p2), .val (.int (p2 &&& (3 : Int32))), .val (.int p1), .unset] [])) _
    refine XS.iloadN X0.here hx rfl (hb hby at_45) rfl ?_
    show Steps p.tables e below (s₁.setTop (mkF m 46 #[.val (.int p1), .val (.int p2), .val (.int (p2 &&& (3 : Int32))), .val (.int p1), .unset] [(.int p1)])) _
    refine st3 _ ?_
    show Steps p.tables e below (T3.setTop (mkF m 49 #[.val (.int p1), .val (.int p2), .val (.int (p2 &&& (3 : Int32))), .val (.int p1), .unset] [(.int (F1_0 p1))])) _
    refine XS.istore X3.here hx rfl (hb hby at_49) rfl (l' := #[.val (.int p1), .val (.int p2), .val (.int (p2 &&& (3 : Int32))), .val (.int p1), .val (.int (F1_0 p1))]) rfl ?_
    show Steps p.tables e below (T3.setTop (mkF m 51 #[.val (.int p1), .val (.int p2), .val (.int (p2 &&& (3 : Int32))), .val (.int p1), .val (.int (F1_0 p1))] [])) _
    refine XS.iload X3.here hx rfl (hb hby at_51) rfl ?_
    show Steps p.tables e below (T3.setTop (mkF m 53 #[.val (.int p1), .val (.int p2), .val (.int (p2 &&& (3 : Int32))), .val (.int p1), .val (.int (F1_0 p1))] [(.int (F1_0 p1))])) _
    refine XS.iloadN X3.here hx rfl (hb hby at_53) rfl ?_
    show Steps p.tables e below (T3.setTop (mkF m 54 #[.val (.int p1), .val (.int p2), .val (.int (p2 &&& (3 : Int32))), .val (.int p1), .val (.int (F1_0 p1))] [(.int p1), (.int (F1_0 p1))])) _
    refine st4 _ ?_
    show Steps p.tables e below (T4.setTop (mkF m 57 #[.val (.int p1), .val (.int p2), .val (.int (p2 &&& (3 : Int32))), .val (.int p1), .val (.int (F1_0 p1))] [(.int (F2_0 p1)), (.int (F1_0 p1))])) _
    refine XS.icmpYes X4.here hx rfl (pc0 := 57) (pc' := 62) rfl (hb hby at_57) rfl (teq hk57).1 (by decide) (by decide) ?_
    show Steps p.tables e below (T4.setTop (mkF m 62 #[.val (.int p1), .val (.int p2), .val (.int (p2 &&& (3 : Int32))), .val (.int p1), .val (.int (F1_0 p1))] [])) _
    refine XS.iload X4.here hx rfl (hb hby at_62) rfl ?_
    show Steps p.tables e below (T4.setTop (mkF m 64 #[.val (.int p1), .val (.int p2), .val (.int (p2 &&& (3 : Int32))), .val (.int p1), .val (.int (F1_0 p1))] [(.int (F1_0 p1))])) _
    refine XS.ifYes X4.here hx rfl (pc0 := 64) (pc' := 76) rfl (hb hby at_64) rfl ((if0 _ _).trans (teq hk64).1) (by decide) (by decide) ?_
    show Steps p.tables e below (T4.setTop (mkF m 76 #[.val (.int p1), .val (.int p2), .val (.int (p2 &&& (3 : Int32))), .val (.int p1), .val (.int (F1_0 p1))] [])) _
    refine XS.iconst X4.here hx rfl (hb hby at_76) ?_
    show Steps p.tables e below (T4.setTop (mkF m 77 #[.val (.int p1), .val (.int p2), .val (.int (p2 &&& (3 : Int32))), .val (.int p1), .val (.int (F1_0 p1))] [(.int (1 : Int32))])) _
    exact retN X4 hx (t := .boolean) Bd.returns (by simp) (hb hby at_77) hr
  · show Q0 Z p1 p2 h0 n0 _ T4.heap _
    exact ⟨rfl, N4⟩
set_option maxRecDepth 65536 in
set_option maxHeartbeats 40000000 in
theorem rm0_ftft (l : Launch) (Z : State) (a0 : Array Value) (hw : ∀ d ∈ tables_1, d.before a0 Z = true) (ws : List Jvm.Cond) (p1 : Int32) (p2 : Int32) (h0 : Heap) (n0 : Nat) (Z0 : n0 ≤ h0.size) (hc5 : (p2 &&& (3 : Int32)) = (0 : Int32)) (hk57 : (F1_0 p1) = (F2_0 p1)) (hk64 : ¬ ((F1_0 p1) = (0 : Int32))) (hk71 : ¬ ((F3_0 p1) = (0 : Int32))) :
    MetFree l x (head1 (Jvm.Cond.code x code maxLocals ret :: ws) room_1) (fun a U => a = #[(.int p1), (.int p2)] ∧ Z.Warmed39 U.vm ∧ U.heap = h0) (fun _ _ _ _ _ => True) (fun _ U o U' => ∃ v L, o = .returned v ∧ Q0 Z p1 p2 h0 n0 v U'.heap L ∧ FrameEnd U o U' L room_1.cells room_1.slots) := by
  refine MetFree.of_bodySF (plainFor_of_name pn_0) hisR ?_
  intro p e s m args below meth c s₁ Bd hml0 hP hK
  obtain ⟨rfl, hZ, hh⟩ := hP
  have hx := Bd.exec
  have hby := Bd.bytes
  have hml : c.maxLocals = 5 := hml0
  have hown : s.vm.findClass "com/example/nestdb/nestdb/xml/XmlCharsIsNameStartCharPinLaw" = some m.cls := findClass_of_methodNamed Bd.named
  have hnm := (name_of_methodNamed Bd.named Bd.method).1
  have X0 : Stand p l e room_1 s m #[(.int p1), (.int p2)] below meth c s₁ [] 0 0 := Stand.of_body Bd
  have e0 : s₁.heap = h0 := by rw [← hh, Bd.state]; rfl
  have N0 := Fr.nil n0
  have pre0 : ∀ t, Steps p.tables e below (s₁.setTop (mkF m 0 #[.val (.int p1), .val (.int p2), .unset, .unset, .unset] [])) t → Steps p.tables e below (s₁.setTop (entryFrame m #[(.int p1), (.int p2)] maxLocals)) t := fun t k => castTop (ef_0 m p1 p2) k
  obtain ⟨_, _, ⟨T3, L3, k3, n3⟩, -, X3, ⟨Lc3, hQ3, l3, y3, z3⟩, st3⟩ := Jvm.LawKit.callS X0 hx (y := (⟨"com/example/nestdb/nestdb/xml/XmlChars", "isNameStartChar", "(I)Z"⟩ : MethodName)) hown (mvT hZ (hw _ (List.mem_of_getElem? (i := 1) rfl))) (mvT hZ (hw _ (List.mem_of_getElem? (i := 2) rfl))) (mvT hZ (hw _ (List.mem_of_getElem? (i := 3) rfl))) (mvT hZ (hw _ (List.mem_of_getElem? (i := 4) rfl))) (by decide) (backOf (W := 0) (rm1 l Z a0 hw [] p1  h0 n0 Z0) hZ (hw _ (List.mem_of_getElem? (i := 4) rfl)) (hw _ (List.mem_of_getElem? (i := 3) rfl)) (by decide) (by decide)) (g := (mkF m 46 #[.val (.int p1), .val (.int p2), .val (.int (p2 &&& (3 : Int32))), .val (.int p1), .unset] [(.int p1)])) rfl (by rw [hml]; rfl) (argsL := [(.int p1)]) (rest := []) (lenOf pd_0_0 rfl) rfl (by show 2 * 0 + _ ≤ _; exact Nat.le_of_eq rfl) (hb hby at_46) (fun _ _ => ⟨rfl, e0, (by decide : 0 + 0 ≤ _), (by decide : 0 + 0 ≤ _)⟩)
  dsimp only [Pt.U, Pt.locs, Pt.cells, Pt.slots] at X3 l3 y3 z3 st3 hQ3
  subst l3 y3 z3
  obtain ⟨rfl, N3q, e3q⟩ := hQ3
  have N3 := Fr.app N0 N3q
  have Z3 : n0 ≤ T3.heap.size := by rw [e3q]; exact Z0
  have Kq3 : Keep h0 T3.heap [] := by rw [e3q]; exact Keep.refl _ _
  obtain ⟨_, _, ⟨T4, L4, k4, n4⟩, -, X4, ⟨Lc4, hQ4, l4, y4, z4⟩, st4⟩ := Jvm.LawKit.callS X3 hx (y := (⟨"com/example/nestdb/nestdb/xml/XmlCharsIsNameStartCharPinLaw", "ref", "(I)Z"⟩ : MethodName)) hown (mvT hZ (hw _ (List.mem_of_getElem? (i := 8) rfl))) (mvT hZ (hw _ (List.mem_of_getElem? (i := 9) rfl))) (mvT hZ (hw _ (List.mem_of_getElem? (i := 10) rfl))) (mvT hZ (hw _ (List.mem_of_getElem? (i := 11) rfl))) (by decide) (backOf (W := 1) (rm2 l Z a0 hw [] p1  T3.heap n0 Z3) hZ (hw _ (List.mem_of_getElem? (i := 11) rfl)) (hw _ (List.mem_of_getElem? (i := 10) rfl)) (by decide) (by decide)) (g := (mkF m 54 #[.val (.int p1), .val (.int p2), .val (.int (p2 &&& (3 : Int32))), .val (.int p1), .val (.int (F1_0 p1))] [(.int p1), (.int (F1_0 p1))])) rfl (by rw [hml]; rfl) (argsL := [(.int p1)]) (rest := [(.int (F1_0 p1))]) (lenOf pd_0_0 rfl) rfl (by show 2 * 0 + _ ≤ _; exact Nat.le_of_eq rfl) (hb hby at_54) (fun _ _ => ⟨rfl, rfl, (by decide : 0 + 0 ≤ _), (by decide : 0 + 0 ≤ _)⟩)
  dsimp only [Pt.U, Pt.locs, Pt.cells, Pt.slots] at X4 l4 y4 z4 st4 hQ4
  subst l4 y4 z4
  obtain ⟨rfl, N4q, e4q⟩ := hQ4
  have N4 := Fr.app N3 N4q
  have Z4 : n0 ≤ T4.heap.size := by rw [e4q]; exact Z3
  have Kq4 : Keep T3.heap T4.heap [] := by rw [e4q]; exact Keep.refl _ _
  obtain ⟨_, _, ⟨T5, L5, k5, n5⟩, -, X5, ⟨Lc5, hQ5, l5, y5, z5⟩, st5⟩ := Jvm.LawKit.callS X4 hx (y := (⟨"com/example/nestdb/nestdb/xml/XmlChars", "isChar", "(I)Z"⟩ : MethodName)) hown (mvT hZ (hw _ (List.mem_of_getElem? (i := 17) rfl))) (mvT hZ (hw _ (List.mem_of_getElem? (i := 18) rfl))) (mvT hZ (hw _ (List.mem_of_getElem? (i := 3) rfl))) (mvT hZ (hw _ (List.mem_of_getElem? (i := 19) rfl))) (by decide) (backOf (W := 0) (rm3 l Z a0 hw [] p1  T4.heap n0 Z4) hZ (hw _ (List.mem_of_getElem? (i := 19) rfl)) (hw _ (List.mem_of_getElem? (i := 3) rfl)) (by decide) (by decide)) (g := (mkF m 68 #[.val (.int p1), .val (.int p2), .val (.int (p2 &&& (3 : Int32))), .val (.int p1), .val (.int (F1_0 p1))] [(.int p1)])) rfl (by rw [hml]; rfl) (argsL := [(.int p1)]) (rest := []) (lenOf pd_0_0 rfl) rfl (by show 2 * 0 + _ ≤ _; exact Nat.le_of_eq rfl) (hb hby at_68) (fun _ _ => ⟨rfl, rfl, (by decide : 0 + 0 ≤ _), (by decide : 0 + 0 ≤ _)⟩)
  dsimp only [Pt.U, Pt.locs, Pt.cells, Pt.slots] at X5 l5 y5 z5 st5 hQ5
  subst l5 y5 z5
  obtain ⟨rfl, N5q, e5q⟩ := hQ5
  have N5 := Fr.app N4 N5q
  have Z5 : n0 ≤ T5.heap.size := by rw [e5q]; exact Z4
  have Kq5 : Keep T4.heap T5.heap [] := by rw [e5q]; exact Keep.refl _ _
  obtain ⟨fs, hr, hrun, hended, hW, hsame⟩ := X5.leave (v := some (.int (1 : Int32))) (fun h => by rw [Bd.returns] at h; cases h) Bd.notSynchronized
  refine ⟨_, _, pre0 _ ?_, hrun, hended, _, _, rfl, ?_, ⟨_, rfl⟩, hW, hsame.mono (by decide) (by decide)⟩
  · show Steps p.tables e below (s₁.setTop (mkF m 0 #[.val (.int p1), .val (.int p2), .unset, .unset, .unset] [])) _
    refine XS.iloadN X0.here hx rfl (hb hby at_0) rfl ?_
    show Steps p.tables e below (s₁.setTop (mkF m 1 #[.val (.int p1), .val (.int p2), .unset, .unset, .unset] [(.int p2)])) _
    refine XS.iconst X0.here hx rfl (hb hby at_1) ?_
    show Steps p.tables e below (s₁.setTop (mkF m 2 #[.val (.int p1), .val (.int p2), .unset, .unset, .unset] [(.int (3 : Int32)), (.int p2)])) _
    refine XS.iand X0.here hx rfl (hb hby at_2) rfl ?_
    show Steps p.tables e below (s₁.setTop (mkF m 3 #[.val (.int p1), .val (.int p2), .unset, .unset, .unset] [(.int (p2 &&& (3 : Int32)))])) _
    refine XS.istoreN X0.here hx rfl (hb hby at_3) rfl (l' := #[.val (.int p1), .val (.int p2), .val (.int (p2 &&& (3 : Int32))), .unset, .unset]) rfl ?_
    show Steps p.tables e below (s₁.setTop (mkF m 4 #[.val (.int p1), .val (.int p2), .val (.int (p2 &&& (3 : Int32))), .unset, .unset] [])) _
    refine XS.iloadN X0.here hx rfl (hb hby at_4) rfl ?_
    show Steps p.tables e below (s₁.setTop (mkF m 5 #[.val (.int p1), .val (.int p2), .val (.int (p2 &&& (3 : Int32))), .unset, .unset] [(.int (p2 &&& (3 : Int32)))])) _
    refine XS.ifNo X0.here hx rfl (hb hby at_5) rfl ((if0 _ _).trans (teq hc5).2) ?_
    show Steps p.tables e below (s₁.setTop (mkF m 8 #[.val (.int p1), .val (.int p2), .val (.int (p2 &&& (3 : Int32))), .unset, .unset] [])) _
    refine XS.iloadN X0.here hx rfl (hb hby at_8) rfl ?_
    show Steps p.tables e below (s₁.setTop (mkF m 9 #[.val (.int p1), .val (.int p2), .val (.int (p2 &&& (3 : Int32))), .unset, .unset] [(.int p1)])) _
    refine XS.istoreN X0.here hx rfl (hb hby at_9) rfl (l' := #[.val (.int p1), .val (.int p2), .val (.int (p2 &&& (3 : Int32))), .val (.int p1), .unset]) rfl ?_
    show Steps p.tables e below (s₁.setTop (mkF m 10 #[.val (.int p1), .val (.int p2), .val (.int (p2 &&& (3 : Int32))), .val (.int p1), .unset] [])) _
    refine XS.goto X0.here hx rfl (pc0 := 10) (pc' := 45) rfl (hb hby at_10) (by decide) (by decide) ?_
    show Steps p.tables e below (s₁.setTop (mkF m 45 #[.val (.int p1), .val (.int p2), .val (.int (p2 &&& (3 : Int32))), .val (.int p1), .unset] [])) _
    refine XS.iloadN X0.here hx rfl (hb hby at_45) rfl ?_
    show Steps p.tables e below (s₁.setTop (mkF m 46 #[.val (.int p1), .val (.int p2), .val (.int (p2 &&& (3 : Int32))), .val (.int p1), .unset] [(.int p1)])) _
    refine st3 _ ?_
    show Steps p.tables e below (T3.setTop (mkF m 49 #[.val (.int p1), .val (.int p2), .val (.int (p2 &&& (3 : Int32))), .val (.int p1), .unset] [(.int (F1_0 p1))])) _
    refine XS.istore X3.here hx rfl (hb hby at_49) rfl (l' := #[.val (.int p1), .val (.int p2), .val (.int (p2 &&& (3 : Int32))), .val (.int p1), .val (.int (F1_0 p1))]) rfl ?_
    show Steps p.tables e below (T3.setTop (mkF m 51 #[.val (.int p1), .val (.int p2), .val (.int (p2 &&& (3 : Int32))), .val (.int p1), .val (.int (F1_0 p1))] [])) _
    refine XS.iload X3.here hx rfl (hb hby at_51) rfl ?_
    show Steps p.tables e below (T3.setTop (mkF m 53 #[.val (.int p1), .val (.int p2), .val (.int (p2 &&& (3 : Int32))), .val (.int p1), .val (.int (F1_0 p1))] [(.int (F1_0 p1))])) _
    refine XS.iloadN X3.here hx rfl (hb hby at_53) rfl ?_
    show Steps p.tables e below (T3.setTop (mkF m 54 #[.val (.int p1), .val (.int p2), .val (.int (p2 &&& (3 : Int32))), .val (.int p1), .val (.int (F1_0 p1))] [(.int p1), (.int (F1_0 p1))])) _
    refine st4 _ ?_
    show Steps p.tables e below (T4.setTop (mkF m 57 #[.val (.int p1), .val (.int p2), .val (.int (p2 &&& (3 : Int32))), .val (.int p1), .val (.int (F1_0 p1))] [(.int (F2_0 p1)), (.int (F1_0 p1))])) _
    refine XS.icmpYes X4.here hx rfl (pc0 := 57) (pc' := 62) rfl (hb hby at_57) rfl (teq hk57).1 (by decide) (by decide) ?_
    show Steps p.tables e below (T4.setTop (mkF m 62 #[.val (.int p1), .val (.int p2), .val (.int (p2 &&& (3 : Int32))), .val (.int p1), .val (.int (F1_0 p1))] [])) _
    refine XS.iload X4.here hx rfl (hb hby at_62) rfl ?_
    show Steps p.tables e below (T4.setTop (mkF m 64 #[.val (.int p1), .val (.int p2), .val (.int (p2 &&& (3 : Int32))), .val (.int p1), .val (.int (F1_0 p1))] [(.int (F1_0 p1))])) _
    refine XS.ifNo X4.here hx rfl (hb hby at_64) rfl ((if0 _ _).trans (feq hk64).1) ?_
    show Steps p.tables e below (T4.setTop (mkF m 67 #[.val (.int p1), .val (.int p2), .val (.int (p2 &&& (3 : Int32))), .val (.int p1), .val (.int (F1_0 p1))] [])) _
    refine XS.iloadN X4.here hx rfl (hb hby at_67) rfl ?_
    show Steps p.tables e below (T4.setTop (mkF m 68 #[.val (.int p1), .val (.int p2), .val (.int (p2 &&& (3 : Int32))), .val (.int p1), .val (.int (F1_0 p1))] [(.int p1)])) _
    refine st5 _ ?_
    show Steps p.tables e below (T5.setTop (mkF m 71 #[.val (.int p1), .val (.int p2), .val (.int (p2 &&& (3 : Int32))), .val (.int p1), .val (.int (F1_0 p1))] [(.int (F3_0 p1))])) _
    refine XS.ifYes X5.here hx rfl (pc0 := 71) (pc' := 76) rfl (hb hby at_71) rfl ((if0 _ _).trans (feq hk71).2) (by decide) (by decide) ?_
    show Steps p.tables e below (T5.setTop (mkF m 76 #[.val (.int p1), .val (.int p2), .val (.int (p2 &&& (3 : Int32))), .val (.int p1), .val (.int (F1_0 p1))] [])) _
    refine XS.iconst X5.here hx rfl (hb hby at_76) ?_
    show Steps p.tables e below (T5.setTop (mkF m 77 #[.val (.int p1), .val (.int p2), .val (.int (p2 &&& (3 : Int32))), .val (.int p1), .val (.int (F1_0 p1))] [(.int (1 : Int32))])) _
    exact retN X5 hx (t := .boolean) Bd.returns (by simp) (hb hby at_77) hr
  · show Q0 Z p1 p2 h0 n0 _ T5.heap _
    exact ⟨rfl, N5⟩
set_option maxRecDepth 65536 in
set_option maxHeartbeats 40000000 in
theorem rm0_tftt (l : Launch) (Z : State) (a0 : Array Value) (hw : ∀ d ∈ tables_1, d.before a0 Z = true) (ws : List Jvm.Cond) (p1 : Int32) (p2 : Int32) (h0 : Heap) (n0 : Nat) (Z0 : n0 ≤ h0.size) (hc5 : ¬ ((p2 &&& (3 : Int32)) = (0 : Int32))) (hc15 : (p2 &&& (3 : Int32)) = (1 : Int32)) (hk57 : (F1_0 (p1 &&& (255 : Int32))) = (F2_0 (p1 &&& (255 : Int32)))) (hk64 : (F1_0 (p1 &&& (255 : Int32))) = (0 : Int32)) :
    MetFree l x (head1 (Jvm.Cond.code x code maxLocals ret :: ws) room_1) (fun a U => a = #[(.int p1), (.int p2)] ∧ Z.Warmed39 U.vm ∧ U.heap = h0) (fun _ _ _ _ _ => True) (fun _ U o U' => ∃ v L, o = .returned v ∧ Q0 Z p1 p2 h0 n0 v U'.heap L ∧ FrameEnd U o U' L room_1.cells room_1.slots) := by
  refine MetFree.of_bodySF (plainFor_of_name pn_0) hisR ?_
  intro p e s m args below meth c s₁ Bd hml0 hP hK
  obtain ⟨rfl, hZ, hh⟩ := hP
  have hx := Bd.exec
  have hby := Bd.bytes
  have hml : c.maxLocals = 5 := hml0
  have hown : s.vm.findClass "com/example/nestdb/nestdb/xml/XmlCharsIsNameStartCharPinLaw" = some m.cls := findClass_of_methodNamed Bd.named
  have hnm := (name_of_methodNamed Bd.named Bd.method).1
  have X0 : Stand p l e room_1 s m #[(.int p1), (.int p2)] below meth c s₁ [] 0 0 := Stand.of_body Bd
  have e0 : s₁.heap = h0 := by rw [← hh, Bd.state]; rfl
  have N0 := Fr.nil n0
  have pre0 : ∀ t, Steps p.tables e below (s₁.setTop (mkF m 0 #[.val (.int p1), .val (.int p2), .unset, .unset, .unset] [])) t → Steps p.tables e below (s₁.setTop (entryFrame m #[(.int p1), (.int p2)] maxLocals)) t := fun t k => castTop (ef_0 m p1 p2) k
  obtain ⟨_, _, ⟨T3, L3, k3, n3⟩, -, X3, ⟨Lc3, hQ3, l3, y3, z3⟩, st3⟩ := Jvm.LawKit.callS X0 hx (y := (⟨"com/example/nestdb/nestdb/xml/XmlChars", "isNameStartChar", "(I)Z"⟩ : MethodName)) hown (mvT hZ (hw _ (List.mem_of_getElem? (i := 1) rfl))) (mvT hZ (hw _ (List.mem_of_getElem? (i := 2) rfl))) (mvT hZ (hw _ (List.mem_of_getElem? (i := 3) rfl))) (mvT hZ (hw _ (List.mem_of_getElem? (i := 4) rfl))) (by decide) (backOf (W := 0) (rm1 l Z a0 hw [] (p1 &&& (255 : Int32))  h0 n0 Z0) hZ (hw _ (List.mem_of_getElem? (i := 4) rfl)) (hw _ (List.mem_of_getElem? (i := 3) rfl)) (by decide) (by decide)) (g := (mkF m 46 #[.val (.int p1), .val (.int p2), .val (.int (p2 &&& (3 : Int32))), .val (.int (p1 &&& (255 : Int32))), .unset] [(.int (p1 &&& (255 : Int32)))])) rfl (by rw [hml]; rfl) (argsL := [(.int (p1 &&& (255 : Int32)))]) (rest := []) (lenOf pd_0_0 rfl) rfl (by show 2 * 0 + _ ≤ _; exact Nat.le_of_eq rfl) (hb hby at_46) (fun _ _ => ⟨rfl, e0, (by decide : 0 + 0 ≤ _), (by decide : 0 + 0 ≤ _)⟩)
  dsimp only [Pt.U, Pt.locs, Pt.cells, Pt.slots] at X3 l3 y3 z3 st3 hQ3
  subst l3 y3 z3
  obtain ⟨rfl, N3q, e3q⟩ := hQ3
  have N3 := Fr.app N0 N3q
  have Z3 : n0 ≤ T3.heap.size := by rw [e3q]; exact Z0
  have Kq3 : Keep h0 T3.heap [] := by rw [e3q]; exact Keep.refl _ _
  obtain ⟨_, _, ⟨T4, L4, k4, n4⟩, -, X4, ⟨Lc4, hQ4, l4, y4, z4⟩, st4⟩ := Jvm.LawKit.callS X3 hx (y := (⟨"com/example/nestdb/nestdb/xml/XmlCharsIsNameStartCharPinLaw", "ref", "(I)Z"⟩ : MethodName)) hown (mvT hZ (hw _ (List.mem_of_getElem? (i := 8) rfl))) (mvT hZ (hw _ (List.mem_of_getElem? (i := 9) rfl))) (mvT hZ (hw _ (List.mem_of_getElem? (i := 10) rfl))) (mvT hZ (hw _ (List.mem_of_getElem? (i := 11) rfl))) (by decide) (backOf (W := 1) (rm2 l Z a0 hw [] (p1 &&& (255 : Int32))  T3.heap n0 Z3) hZ (hw _ (List.mem_of_getElem? (i := 11) rfl)) (hw _ (List.mem_of_getElem? (i := 10) rfl)) (by decide) (by decide)) (g := (mkF m 54 #[.val (.int p1), .val (.int p2), .val (.int (p2 &&& (3 : Int32))), .val (.int (p1 &&& (255 : Int32))), .val (.int (F1_0 (p1 &&& (255 : Int32))))] [(.int (p1 &&& (255 : Int32))), (.int (F1_0 (p1 &&& (255 : Int32))))])) rfl (by rw [hml]; rfl) (argsL := [(.int (p1 &&& (255 : Int32)))]) (rest := [(.int (F1_0 (p1 &&& (255 : Int32))))]) (lenOf pd_0_0 rfl) rfl (by show 2 * 0 + _ ≤ _; exact Nat.le_of_eq rfl) (hb hby at_54) (fun _ _ => ⟨rfl, rfl, (by decide : 0 + 0 ≤ _), (by decide : 0 + 0 ≤ _)⟩)
  dsimp only [Pt.U, Pt.locs, Pt.cells, Pt.slots] at X4 l4 y4 z4 st4 hQ4
  subst l4 y4 z4
  obtain ⟨rfl, N4q, e4q⟩ := hQ4
  have N4 := Fr.app N3 N4q
  have Z4 : n0 ≤ T4.heap.size := by rw [e4q]; exact Z3
  have Kq4 : Keep T3.heap T4.heap [] := by rw [e4q]; exact Keep.refl _ _
  obtain ⟨fs, hr, hrun, hended, hW, hsame⟩ := X4.leave (v := some (.int (1 : Int32))) (fun h => by rw [Bd.returns] at h; cases h) Bd.notSynchronized
  refine ⟨_, _, pre0 _ ?_, hrun, hended, _, _, rfl, ?_, ⟨_, rfl⟩, hW, hsame.mono (by decide) (by decide)⟩
  · show Steps p.tables e below (s₁.setTop (mkF m 0 #[.val (.int p1), .val (.int p2), .unset, .unset, .unset] [])) _
    refine XS.iloadN X0.here hx rfl (hb hby at_0) rfl ?_
    show Steps p.tables e below (s₁.setTop (mkF m 1 #[.val (.int p1), .val (.int p2), .unset, .unset, .unset] [(.int p2)])) _
    refine XS.iconst X0.here hx rfl (hb hby at_1) ?_
    show Steps p.tables e below (s₁.setTop (mkF m 2 #[.val (.int p1), .val (.int p2), .unset, .unset, .unset] [(.int (3 : Int32)), (.int p2)])) _
    refine XS.iand X0.here hx rfl (hb hby at_2) rfl ?_
    show Steps p.tables e below (s₁.setTop (mkF m 3 #[.val (.int p1), .val (.int p2), .unset, .unset, .unset] [(.int (p2 &&& (3 : Int32)))])) _
    refine XS.istoreN X0.here hx rfl (hb hby at_3) rfl (l' := #[.val (.int p1), .val (.int p2), .val (.int (p2 &&& (3 : Int32))), .unset, .unset]) rfl ?_
    show Steps p.tables e below (s₁.setTop (mkF m 4 #[.val (.int p1), .val (.int p2), .val (.int (p2 &&& (3 : Int32))), .unset, .unset] [])) _
    refine XS.iloadN X0.here hx rfl (hb hby at_4) rfl ?_
    show Steps p.tables e below (s₁.setTop (mkF m 5 #[.val (.int p1), .val (.int p2), .val (.int (p2 &&& (3 : Int32))), .unset, .unset] [(.int (p2 &&& (3 : Int32)))])) _
    refine XS.ifYes X0.here hx rfl (pc0 := 5) (pc' := 13) rfl (hb hby at_5) rfl ((if0 _ _).trans (feq hc5).2) (by decide) (by decide) ?_
    show Steps p.tables e below (s₁.setTop (mkF m 13 #[.val (.int p1), .val (.int p2), .val (.int (p2 &&& (3 : Int32))), .unset, .unset] [])) _
    refine XS.iloadN X0.here hx rfl (hb hby at_13) rfl ?_
    show Steps p.tables e below (s₁.setTop (mkF m 14 #[.val (.int p1), .val (.int p2), .val (.int (p2 &&& (3 : Int32))), .unset, .unset] [(.int (p2 &&& (3 : Int32)))])) _
    refine XS.iconst X0.here hx rfl (hb hby at_14) ?_
    show Steps p.tables e below (s₁.setTop (mkF m 15 #[.val (.int p1), .val (.int p2), .val (.int (p2 &&& (3 : Int32))), .unset, .unset] [(.int (1 : Int32)), (.int (p2 &&& (3 : Int32)))])) _
    refine XS.icmpNo X0.here hx rfl (hb hby at_15) rfl (teq hc15).2 ?_
    show Steps p.tables e below (s₁.setTop (mkF m 18 #[.val (.int p1), .val (.int p2), .val (.int (p2 &&& (3 : Int32))), .unset, .unset] [])) _
    refine XS.iloadN X0.here hx rfl (hb hby at_18) rfl ?_
    show Steps p.tables e below (s₁.setTop (mkF m 19 #[.val (.int p1), .val (.int p2), .val (.int (p2 &&& (3 : Int32))), .unset, .unset] [(.int p1)])) _
    refine XS.sipush X0.here hx rfl (hb hby at_19) ?_
    show Steps p.tables e below (s₁.setTop (mkF m 22 #[.val (.int p1), .val (.int p2), .val (.int (p2 &&& (3 : Int32))), .unset, .unset] [(.int (255 : Int32)), (.int p1)])) _
    refine XS.iand X0.here hx rfl (hb hby at_22) rfl ?_
    show Steps p.tables e below (s₁.setTop (mkF m 23 #[.val (.int p1), .val (.int p2), .val (.int (p2 &&& (3 : Int32))), .unset, .unset] [(.int (p1 &&& (255 : Int32)))])) _
    refine XS.istoreN X0.here hx rfl (hb hby at_23) rfl (l' := #[.val (.int p1), .val (.int p2), .val (.int (p2 &&& (3 : Int32))), .val (.int (p1 &&& (255 : Int32))), .unset]) rfl ?_
    show Steps p.tables e below (s₁.setTop (mkF m 24 #[.val (.int p1), .val (.int p2), .val (.int (p2 &&& (3 : Int32))), .val (.int (p1 &&& (255 : Int32))), .unset] [])) _
    refine XS.goto X0.here hx rfl (pc0 := 24) (pc' := 45) rfl (hb hby at_24) (by decide) (by decide) ?_
    show Steps p.tables e below (s₁.setTop (mkF m 45 #[.val (.int p1), .val (.int p2), .val (.int (p2 &&& (3 : Int32))), .val (.int (p1 &&& (255 : Int32))), .unset] [])) _
    refine XS.iloadN X0.here hx rfl (hb hby at_45) rfl ?_
    show Steps p.tables e below (s₁.setTop (mkF m 46 #[.val (.int p1), .val (.int p2), .val (.int (p2 &&& (3 : Int32))), .val (.int (p1 &&& (255 : Int32))), .unset] [(.int (p1 &&& (255 : Int32)))])) _
    refine st3 _ ?_
    show Steps p.tables e below (T3.setTop (mkF m 49 #[.val (.int p1), .val (.int p2), .val (.int (p2 &&& (3 : Int32))), .val (.int (p1 &&& (255 : Int32))), .unset] [(.int (F1_0 (p1 &&& (255 : Int32))))])) _
    refine XS.istore X3.here hx rfl (hb hby at_49) rfl (l' := #[.val (.int p1), .val (.int p2), .val (.int (p2 &&& (3 : Int32))), .val (.int (p1 &&& (255 : Int32))), .val (.int (F1_0 (p1 &&& (255 : Int32))))]) rfl ?_
    show Steps p.tables e below (T3.setTop (mkF m 51 #[.val (.int p1), .val (.int p2), .val (.int (p2 &&& (3 : Int32))), .val (.int (p1 &&& (255 : Int32))), .val (.int (F1_0 (p1 &&& (255 : Int32))))] [])) _
    refine XS.iload X3.here hx rfl (hb hby at_51) rfl ?_
    show Steps p.tables e below (T3.setTop (mkF m 53 #[.val (.int p1), .val (.int p2), .val (.int (p2 &&& (3 : Int32))), .val (.int (p1 &&& (255 : Int32))), .val (.int (F1_0 (p1 &&& (255 : Int32))))] [(.int (F1_0 (p1 &&& (255 : Int32))))])) _
    refine XS.iloadN X3.here hx rfl (hb hby at_53) rfl ?_
    show Steps p.tables e below (T3.setTop (mkF m 54 #[.val (.int p1), .val (.int p2), .val (.int (p2 &&& (3 : Int32))), .val (.int (p1 &&& (255 : Int32))), .val (.int (F1_0 (p1 &&& (255 : Int32))))] [(.int (p1 &&& (255 : Int32))), (.int (F1_0 (p1 &&& (255 : Int32))))])) _
    refine st4 _ ?_
    show Steps p.tables e below (T4.setTop (mkF m 57 #[.val (.int p1), .val (.int p2), .val (.int (p2 &&& (3 : Int32))), .val (.int (p1 &&& (255 : Int32))), .val (.int (F1_0 (p1 &&& (255 : Int32))))] [(.int (F2_0 (p1 &&& (255 : Int32)))), (.int (F1_0 (p1 &&& (255 : Int32))))])) _
    refine XS.icmpYes X4.here hx rfl (pc0 := 57) (pc' := 62) rfl (hb hby at_57) rfl (teq hk57).1 (by decide) (by decide) ?_
    show Steps p.tables e below (T4.setTop (mkF m 62 #[.val (.int p1), .val (.int p2), .val (.int (p2 &&& (3 : Int32))), .val (.int (p1 &&& (255 : Int32))), .val (.int (F1_0 (p1 &&& (255 : Int32))))] [])) _
    refine XS.iload X4.here hx rfl (hb hby at_62) rfl ?_
    show Steps p.tables e below (T4.setTop (mkF m 64 #[.val (.int p1), .val (.int p2), .val (.int (p2 &&& (3 : Int32))), .val (.int (p1 &&& (255 : Int32))), .val (.int (F1_0 (p1 &&& (255 : Int32))))] [(.int (F1_0 (p1 &&& (255 : Int32))))])) _
    refine XS.ifYes X4.here hx rfl (pc0 := 64) (pc' := 76) rfl (hb hby at_64) rfl ((if0 _ _).trans (teq hk64).1) (by decide) (by decide) ?_
    show Steps p.tables e below (T4.setTop (mkF m 76 #[.val (.int p1), .val (.int p2), .val (.int (p2 &&& (3 : Int32))), .val (.int (p1 &&& (255 : Int32))), .val (.int (F1_0 (p1 &&& (255 : Int32))))] [])) _
    refine XS.iconst X4.here hx rfl (hb hby at_76) ?_
    show Steps p.tables e below (T4.setTop (mkF m 77 #[.val (.int p1), .val (.int p2), .val (.int (p2 &&& (3 : Int32))), .val (.int (p1 &&& (255 : Int32))), .val (.int (F1_0 (p1 &&& (255 : Int32))))] [(.int (1 : Int32))])) _
    exact retN X4 hx (t := .boolean) Bd.returns (by simp) (hb hby at_77) hr
  · show Q0 Z p1 p2 h0 n0 _ T4.heap _
    exact ⟨rfl, N4⟩
set_option maxRecDepth 65536 in
set_option maxHeartbeats 40000000 in
theorem rm0_tftft (l : Launch) (Z : State) (a0 : Array Value) (hw : ∀ d ∈ tables_1, d.before a0 Z = true) (ws : List Jvm.Cond) (p1 : Int32) (p2 : Int32) (h0 : Heap) (n0 : Nat) (Z0 : n0 ≤ h0.size) (hc5 : ¬ ((p2 &&& (3 : Int32)) = (0 : Int32))) (hc15 : (p2 &&& (3 : Int32)) = (1 : Int32)) (hk57 : (F1_0 (p1 &&& (255 : Int32))) = (F2_0 (p1 &&& (255 : Int32)))) (hk64 : ¬ ((F1_0 (p1 &&& (255 : Int32))) = (0 : Int32))) (hk71 : ¬ ((F3_0 (p1 &&& (255 : Int32))) = (0 : Int32))) :
    MetFree l x (head1 (Jvm.Cond.code x code maxLocals ret :: ws) room_1) (fun a U => a = #[(.int p1), (.int p2)] ∧ Z.Warmed39 U.vm ∧ U.heap = h0) (fun _ _ _ _ _ => True) (fun _ U o U' => ∃ v L, o = .returned v ∧ Q0 Z p1 p2 h0 n0 v U'.heap L ∧ FrameEnd U o U' L room_1.cells room_1.slots) := by
  refine MetFree.of_bodySF (plainFor_of_name pn_0) hisR ?_
  intro p e s m args below meth c s₁ Bd hml0 hP hK
  obtain ⟨rfl, hZ, hh⟩ := hP
  have hx := Bd.exec
  have hby := Bd.bytes
  have hml : c.maxLocals = 5 := hml0
  have hown : s.vm.findClass "com/example/nestdb/nestdb/xml/XmlCharsIsNameStartCharPinLaw" = some m.cls := findClass_of_methodNamed Bd.named
  have hnm := (name_of_methodNamed Bd.named Bd.method).1
  have X0 : Stand p l e room_1 s m #[(.int p1), (.int p2)] below meth c s₁ [] 0 0 := Stand.of_body Bd
  have e0 : s₁.heap = h0 := by rw [← hh, Bd.state]; rfl
  have N0 := Fr.nil n0
  have pre0 : ∀ t, Steps p.tables e below (s₁.setTop (mkF m 0 #[.val (.int p1), .val (.int p2), .unset, .unset, .unset] [])) t → Steps p.tables e below (s₁.setTop (entryFrame m #[(.int p1), (.int p2)] maxLocals)) t := fun t k => castTop (ef_0 m p1 p2) k
  obtain ⟨_, _, ⟨T3, L3, k3, n3⟩, -, X3, ⟨Lc3, hQ3, l3, y3, z3⟩, st3⟩ := Jvm.LawKit.callS X0 hx (y := (⟨"com/example/nestdb/nestdb/xml/XmlChars", "isNameStartChar", "(I)Z"⟩ : MethodName)) hown (mvT hZ (hw _ (List.mem_of_getElem? (i := 1) rfl))) (mvT hZ (hw _ (List.mem_of_getElem? (i := 2) rfl))) (mvT hZ (hw _ (List.mem_of_getElem? (i := 3) rfl))) (mvT hZ (hw _ (List.mem_of_getElem? (i := 4) rfl))) (by decide) (backOf (W := 0) (rm1 l Z a0 hw [] (p1 &&& (255 : Int32))  h0 n0 Z0) hZ (hw _ (List.mem_of_getElem? (i := 4) rfl)) (hw _ (List.mem_of_getElem? (i := 3) rfl)) (by decide) (by decide)) (g := (mkF m 46 #[.val (.int p1), .val (.int p2), .val (.int (p2 &&& (3 : Int32))), .val (.int (p1 &&& (255 : Int32))), .unset] [(.int (p1 &&& (255 : Int32)))])) rfl (by rw [hml]; rfl) (argsL := [(.int (p1 &&& (255 : Int32)))]) (rest := []) (lenOf pd_0_0 rfl) rfl (by show 2 * 0 + _ ≤ _; exact Nat.le_of_eq rfl) (hb hby at_46) (fun _ _ => ⟨rfl, e0, (by decide : 0 + 0 ≤ _), (by decide : 0 + 0 ≤ _)⟩)
  dsimp only [Pt.U, Pt.locs, Pt.cells, Pt.slots] at X3 l3 y3 z3 st3 hQ3
  subst l3 y3 z3
  obtain ⟨rfl, N3q, e3q⟩ := hQ3
  have N3 := Fr.app N0 N3q
  have Z3 : n0 ≤ T3.heap.size := by rw [e3q]; exact Z0
  have Kq3 : Keep h0 T3.heap [] := by rw [e3q]; exact Keep.refl _ _
  obtain ⟨_, _, ⟨T4, L4, k4, n4⟩, -, X4, ⟨Lc4, hQ4, l4, y4, z4⟩, st4⟩ := Jvm.LawKit.callS X3 hx (y := (⟨"com/example/nestdb/nestdb/xml/XmlCharsIsNameStartCharPinLaw", "ref", "(I)Z"⟩ : MethodName)) hown (mvT hZ (hw _ (List.mem_of_getElem? (i := 8) rfl))) (mvT hZ (hw _ (List.mem_of_getElem? (i := 9) rfl))) (mvT hZ (hw _ (List.mem_of_getElem? (i := 10) rfl))) (mvT hZ (hw _ (List.mem_of_getElem? (i := 11) rfl))) (by decide) (backOf (W := 1) (rm2 l Z a0 hw [] (p1 &&& (255 : Int32))  T3.heap n0 Z3) hZ (hw _ (List.mem_of_getElem? (i := 11) rfl)) (hw _ (List.mem_of_getElem? (i := 10) rfl)) (by decide) (by decide)) (g := (mkF m 54 #[.val (.int p1), .val (.int p2), .val (.int (p2 &&& (3 : Int32))), .val (.int (p1 &&& (255 : Int32))), .val (.int (F1_0 (p1 &&& (255 : Int32))))] [(.int (p1 &&& (255 : Int32))), (.int (F1_0 (p1 &&& (255 : Int32))))])) rfl (by rw [hml]; rfl) (argsL := [(.int (p1 &&& (255 : Int32)))]) (rest := [(.int (F1_0 (p1 &&& (255 : Int32))))]) (lenOf pd_0_0 rfl) rfl (by show 2 * 0 + _ ≤ _; exact Nat.le_of_eq rfl) (hb hby at_54) (fun _ _ => ⟨rfl, rfl, (by decide : 0 + 0 ≤ _), (by decide : 0 + 0 ≤ _)⟩)
  dsimp only [Pt.U, Pt.locs, Pt.cells, Pt.slots] at X4 l4 y4 z4 st4 hQ4
  subst l4 y4 z4
  obtain ⟨rfl, N4q, e4q⟩ := hQ4
  have N4 := Fr.app N3 N4q
  have Z4 : n0 ≤ T4.heap.size := by rw [e4q]; exact Z3
  have Kq4 : Keep T3.heap T4.heap [] := by rw [e4q]; exact Keep.refl _ _
  obtain ⟨_, _, ⟨T5, L5, k5, n5⟩, -, X5, ⟨Lc5, hQ5, l5, y5, z5⟩, st5⟩ := Jvm.LawKit.callS X4 hx (y := (⟨"com/example/nestdb/nestdb/xml/XmlChars", "isChar", "(I)Z"⟩ : MethodName)) hown (mvT hZ (hw _ (List.mem_of_getElem? (i := 17) rfl))) (mvT hZ (hw _ (List.mem_of_getElem? (i := 18) rfl))) (mvT hZ (hw _ (List.mem_of_getElem? (i := 3) rfl))) (mvT hZ (hw _ (List.mem_of_getElem? (i := 19) rfl))) (by decide) (backOf (W := 0) (rm3 l Z a0 hw [] (p1 &&& (255 : Int32))  T4.heap n0 Z4) hZ (hw _ (List.mem_of_getElem? (i := 19) rfl)) (hw _ (List.mem_of_getElem? (i := 3) rfl)) (by decide) (by decide)) (g := (mkF m 68 #[.val (.int p1), .val (.int p2), .val (.int (p2 &&& (3 : Int32))), .val (.int (p1 &&& (255 : Int32))), .val (.int (F1_0 (p1 &&& (255 : Int32))))] [(.int (p1 &&& (255 : Int32)))])) rfl (by rw [hml]; rfl) (argsL := [(.int (p1 &&& (255 : Int32)))]) (rest := []) (lenOf pd_0_0 rfl) rfl (by show 2 * 0 + _ ≤ _; exact Nat.le_of_eq rfl) (hb hby at_68) (fun _ _ => ⟨rfl, rfl, (by decide : 0 + 0 ≤ _), (by decide : 0 + 0 ≤ _)⟩)
  dsimp only [Pt.U, Pt.locs, Pt.cells, Pt.slots] at X5 l5 y5 z5 st5 hQ5
  subst l5 y5 z5
  obtain ⟨rfl, N5q, e5q⟩ := hQ5
  have N5 := Fr.app N4 N5q
  have Z5 : n0 ≤ T5.heap.size := by rw [e5q]; exact Z4
  have Kq5 : Keep T4.heap T5.heap [] := by rw [e5q]; exact Keep.refl _ _
  obtain ⟨fs, hr, hrun, hended, hW, hsame⟩ := X5.leave (v := some (.int (1 : Int32))) (fun h => by rw [Bd.returns] at h; cases h) Bd.notSynchronized
  refine ⟨_, _, pre0 _ ?_, hrun, hended, _, _, rfl, ?_, ⟨_, rfl⟩, hW, hsame.mono (by decide) (by decide)⟩
  · show Steps p.tables e below (s₁.setTop (mkF m 0 #[.val (.int p1), .val (.int p2), .unset, .unset, .unset] [])) _
    refine XS.iloadN X0.here hx rfl (hb hby at_0) rfl ?_
    show Steps p.tables e below (s₁.setTop (mkF m 1 #[.val (.int p1), .val (.int p2), .unset, .unset, .unset] [(.int p2)])) _
    refine XS.iconst X0.here hx rfl (hb hby at_1) ?_
    show Steps p.tables e below (s₁.setTop (mkF m 2 #[.val (.int p1), .val (.int p2), .unset, .unset, .unset] [(.int (3 : Int32)), (.int p2)])) _
    refine XS.iand X0.here hx rfl (hb hby at_2) rfl ?_
    show Steps p.tables e below (s₁.setTop (mkF m 3 #[.val (.int p1), .val (.int p2), .unset, .unset, .unset] [(.int (p2 &&& (3 : Int32)))])) _
    refine XS.istoreN X0.here hx rfl (hb hby at_3) rfl (l' := #[.val (.int p1), .val (.int p2), .val (.int (p2 &&& (3 : Int32))), .unset, .unset]) rfl ?_
    show Steps p.tables e below (s₁.setTop (mkF m 4 #[.val (.int p1), .val (.int p2), .val (.int (p2 &&& (3 : Int32))), .unset, .unset] [])) _
    refine XS.iloadN X0.here hx rfl (hb hby at_4) rfl ?_
    show Steps p.tables e below (s₁.setTop (mkF m 5 #[.val (.int p1), .val (.int p2), .val (.int (p2 &&& (3 : Int32))), .unset, .unset] [(.int (p2 &&& (3 : Int32)))])) _
    refine XS.ifYes X0.here hx rfl (pc0 := 5) (pc' := 13) rfl (hb hby at_5) rfl ((if0 _ _).trans (feq hc5).2) (by decide) (by decide) ?_
    show Steps p.tables e below (s₁.setTop (mkF m 13 #[.val (.int p1), .val (.int p2), .val (.int (p2 &&& (3 : Int32))), .unset, .unset] [])) _
    refine XS.iloadN X0.here hx rfl (hb hby at_13) rfl ?_
    show Steps p.tables e below (s₁.setTop (mkF m 14 #[.val (.int p1), .val (.int p2), .val (.int (p2 &&& (3 : Int32))), .unset, .unset] [(.int (p2 &&& (3 : Int32)))])) _
    refine XS.iconst X0.here hx rfl (hb hby at_14) ?_
    show Steps p.tables e below (s₁.setTop (mkF m 15 #[.val (.int p1), .val (.int p2), .val (.int (p2 &&& (3 : Int32))), .unset, .unset] [(.int (1 : Int32)), (.int (p2 &&& (3 : Int32)))])) _
    refine XS.icmpNo X0.here hx rfl (hb hby at_15) rfl (teq hc15).2 ?_
    show Steps p.tables e below (s₁.setTop (mkF m 18 #[.val (.int p1), .val (.int p2), .val (.int (p2 &&& (3 : Int32))), .unset, .unset] [])) _
    refine XS.iloadN X0.here hx rfl (hb hby at_18) rfl ?_
    show Steps p.tables e below (s₁.setTop (mkF m 19 #[.val (.int p1), .val (.int p2), .val (.int (p2 &&& (3 : Int32))), .unset, .unset] [(.int p1)])) _
    refine XS.sipush X0.here hx rfl (hb hby at_19) ?_
    show Steps p.tables e below (s₁.setTop (mkF m 22 #[.val (.int p1), .val (.int p2), .val (.int (p2 &&& (3 : Int32))), .unset, .unset] [(.int (255 : Int32)), (.int p1)])) _
    refine XS.iand X0.here hx rfl (hb hby at_22) rfl ?_
    show Steps p.tables e below (s₁.setTop (mkF m 23 #[.val (.int p1), .val (.int p2), .val (.int (p2 &&& (3 : Int32))), .unset, .unset] [(.int (p1 &&& (255 : Int32)))])) _
    refine XS.istoreN X0.here hx rfl (hb hby at_23) rfl (l' := #[.val (.int p1), .val (.int p2), .val (.int (p2 &&& (3 : Int32))), .val (.int (p1 &&& (255 : Int32))), .unset]) rfl ?_
    show Steps p.tables e below (s₁.setTop (mkF m 24 #[.val (.int p1), .val (.int p2), .val (.int (p2 &&& (3 : Int32))), .val (.int (p1 &&& (255 : Int32))), .unset] [])) _
    refine XS.goto X0.here hx rfl (pc0 := 24) (pc' := 45) rfl (hb hby at_24) (by decide) (by decide) ?_
    show Steps p.tables e below (s₁.setTop (mkF m 45 #[.val (.int p1), .val (.int p2), .val (.int (p2 &&& (3 : Int32))), .val (.int (p1 &&& (255 : Int32))), .unset] [])) _
    refine XS.iloadN X0.here hx rfl (hb hby at_45) rfl ?_
    show Steps p.tables e below (s₁.setTop (mkF m 46 #[.val (.int p1), .val (.int p2), .val (.int (p2 &&& (3 : Int32))), .val (.int (p1 &&& (255 : Int32))), .unset] [(.int (p1 &&& (255 : Int32)))])) _
    refine st3 _ ?_
    show Steps p.tables e below (T3.setTop (mkF m 49 #[.val (.int p1), .val (.int p2), .val (.int (p2 &&& (3 : Int32))), .val (.int (p1 &&& (255 : Int32))), .unset] [(.int (F1_0 (p1 &&& (255 : Int32))))])) _
    refine XS.istore X3.here hx rfl (hb hby at_49) rfl (l' := #[.val (.int p1), .val (.int p2), .val (.int (p2 &&& (3 : Int32))), .val (.int (p1 &&& (255 : Int32))), .val (.int (F1_0 (p1 &&& (255 : Int32))))]) rfl ?_
    show Steps p.tables e below (T3.setTop (mkF m 51 #[.val (.int p1), .val (.int p2), .val (.int (p2 &&& (3 : Int32))), .val (.int (p1 &&& (255 : Int32))), .val (.int (F1_0 (p1 &&& (255 : Int32))))] [])) _
    refine XS.iload X3.here hx rfl (hb hby at_51) rfl ?_
    show Steps p.tables e below (T3.setTop (mkF m 53 #[.val (.int p1), .val (.int p2), .val (.int (p2 &&& (3 : Int32))), .val (.int (p1 &&& (255 : Int32))), .val (.int (F1_0 (p1 &&& (255 : Int32))))] [(.int (F1_0 (p1 &&& (255 : Int32))))])) _
    refine XS.iloadN X3.here hx rfl (hb hby at_53) rfl ?_
    show Steps p.tables e below (T3.setTop (mkF m 54 #[.val (.int p1), .val (.int p2), .val (.int (p2 &&& (3 : Int32))), .val (.int (p1 &&& (255 : Int32))), .val (.int (F1_0 (p1 &&& (255 : Int32))))] [(.int (p1 &&& (255 : Int32))), (.int (F1_0 (p1 &&& (255 : Int32))))])) _
    refine st4 _ ?_
    show Steps p.tables e below (T4.setTop (mkF m 57 #[.val (.int p1), .val (.int p2), .val (.int (p2 &&& (3 : Int32))), .val (.int (p1 &&& (255 : Int32))), .val (.int (F1_0 (p1 &&& (255 : Int32))))] [(.int (F2_0 (p1 &&& (255 : Int32)))), (.int (F1_0 (p1 &&& (255 : Int32))))])) _
    refine XS.icmpYes X4.here hx rfl (pc0 := 57) (pc' := 62) rfl (hb hby at_57) rfl (teq hk57).1 (by decide) (by decide) ?_
    show Steps p.tables e below (T4.setTop (mkF m 62 #[.val (.int p1), .val (.int p2), .val (.int (p2 &&& (3 : Int32))), .val (.int (p1 &&& (255 : Int32))), .val (.int (F1_0 (p1 &&& (255 : Int32))))] [])) _
    refine XS.iload X4.here hx rfl (hb hby at_62) rfl ?_
    show Steps p.tables e below (T4.setTop (mkF m 64 #[.val (.int p1), .val (.int p2), .val (.int (p2 &&& (3 : Int32))), .val (.int (p1 &&& (255 : Int32))), .val (.int (F1_0 (p1 &&& (255 : Int32))))] [(.int (F1_0 (p1 &&& (255 : Int32))))])) _
    refine XS.ifNo X4.here hx rfl (hb hby at_64) rfl ((if0 _ _).trans (feq hk64).1) ?_
    show Steps p.tables e below (T4.setTop (mkF m 67 #[.val (.int p1), .val (.int p2), .val (.int (p2 &&& (3 : Int32))), .val (.int (p1 &&& (255 : Int32))), .val (.int (F1_0 (p1 &&& (255 : Int32))))] [])) _
    refine XS.iloadN X4.here hx rfl (hb hby at_67) rfl ?_
    show Steps p.tables e below (T4.setTop (mkF m 68 #[.val (.int p1), .val (.int p2), .val (.int (p2 &&& (3 : Int32))), .val (.int (p1 &&& (255 : Int32))), .val (.int (F1_0 (p1 &&& (255 : Int32))))] [(.int (p1 &&& (255 : Int32)))])) _
    refine st5 _ ?_
    show Steps p.tables e below (T5.setTop (mkF m 71 #[.val (.int p1), .val (.int p2), .val (.int (p2 &&& (3 : Int32))), .val (.int (p1 &&& (255 : Int32))), .val (.int (F1_0 (p1 &&& (255 : Int32))))] [(.int (F3_0 (p1 &&& (255 : Int32))))])) _
    refine XS.ifYes X5.here hx rfl (pc0 := 71) (pc' := 76) rfl (hb hby at_71) rfl ((if0 _ _).trans (feq hk71).2) (by decide) (by decide) ?_
    show Steps p.tables e below (T5.setTop (mkF m 76 #[.val (.int p1), .val (.int p2), .val (.int (p2 &&& (3 : Int32))), .val (.int (p1 &&& (255 : Int32))), .val (.int (F1_0 (p1 &&& (255 : Int32))))] [])) _
    refine XS.iconst X5.here hx rfl (hb hby at_76) ?_
    show Steps p.tables e below (T5.setTop (mkF m 77 #[.val (.int p1), .val (.int p2), .val (.int (p2 &&& (3 : Int32))), .val (.int (p1 &&& (255 : Int32))), .val (.int (F1_0 (p1 &&& (255 : Int32))))] [(.int (1 : Int32))])) _
    exact retN X5 hx (t := .boolean) Bd.returns (by simp) (hb hby at_77) hr
  · show Q0 Z p1 p2 h0 n0 _ T5.heap _
    exact ⟨rfl, N5⟩
set_option maxRecDepth 65536 in
set_option maxHeartbeats 40000000 in
theorem rm0_ttftt (l : Launch) (Z : State) (a0 : Array Value) (hw : ∀ d ∈ tables_1, d.before a0 Z = true) (ws : List Jvm.Cond) (p1 : Int32) (p2 : Int32) (h0 : Heap) (n0 : Nat) (Z0 : n0 ≤ h0.size) (hc5 : ¬ ((p2 &&& (3 : Int32)) = (0 : Int32))) (hc15 : ¬ ((p2 &&& (3 : Int32)) = (1 : Int32))) (hc29 : (p2 &&& (3 : Int32)) = (2 : Int32)) (hk57 : (F1_0 (p1 &&& (65535 : Int32))) = (F2_0 (p1 &&& (65535 : Int32)))) (hk64 : (F1_0 (p1 &&& (65535 : Int32))) = (0 : Int32)) :
    MetFree l x (head1 (Jvm.Cond.code x code maxLocals ret :: ws) room_1) (fun a U => a = #[(.int p1), (.int p2)] ∧ Z.Warmed39 U.vm ∧ U.heap = h0) (fun _ _ _ _ _ => True) (fun _ U o U' => ∃ v L, o = .returned v ∧ Q0 Z p1 p2 h0 n0 v U'.heap L ∧ FrameEnd U o U' L room_1.cells room_1.slots) := by
  refine MetFree.of_bodySF (plainFor_of_name pn_0) hisR ?_
  intro p e s m args below meth c s₁ Bd hml0 hP hK
  obtain ⟨rfl, hZ, hh⟩ := hP
  have hx := Bd.exec
  have hby := Bd.bytes
  have hml : c.maxLocals = 5 := hml0
  have hown : s.vm.findClass "com/example/nestdb/nestdb/xml/XmlCharsIsNameStartCharPinLaw" = some m.cls := findClass_of_methodNamed Bd.named
  have hnm := (name_of_methodNamed Bd.named Bd.method).1
  have X0 : Stand p l e room_1 s m #[(.int p1), (.int p2)] below meth c s₁ [] 0 0 := Stand.of_body Bd
  have e0 : s₁.heap = h0 := by rw [← hh, Bd.state]; rfl
  have N0 := Fr.nil n0
  have pre0 : ∀ t, Steps p.tables e below (s₁.setTop (mkF m 0 #[.val (.int p1), .val (.int p2), .unset, .unset, .unset] [])) t → Steps p.tables e below (s₁.setTop (entryFrame m #[(.int p1), (.int p2)] maxLocals)) t := fun t k => castTop (ef_0 m p1 p2) k
  obtain ⟨_, _, ⟨T3, L3, k3, n3⟩, -, X3, ⟨Lc3, hQ3, l3, y3, z3⟩, st3⟩ := Jvm.LawKit.callS X0 hx (y := (⟨"com/example/nestdb/nestdb/xml/XmlChars", "isNameStartChar", "(I)Z"⟩ : MethodName)) hown (mvT hZ (hw _ (List.mem_of_getElem? (i := 1) rfl))) (mvT hZ (hw _ (List.mem_of_getElem? (i := 2) rfl))) (mvT hZ (hw _ (List.mem_of_getElem? (i := 3) rfl))) (mvT hZ (hw _ (List.mem_of_getElem? (i := 4) rfl))) (by decide) (backOf (W := 0) (rm1 l Z a0 hw [] (p1 &&& (65535 : Int32))  h0 n0 Z0) hZ (hw _ (List.mem_of_getElem? (i := 4) rfl)) (hw _ (List.mem_of_getElem? (i := 3) rfl)) (by decide) (by decide)) (g := (mkF m 46 #[.val (.int p1), .val (.int p2), .val (.int (p2 &&& (3 : Int32))), .val (.int (p1 &&& (65535 : Int32))), .unset] [(.int (p1 &&& (65535 : Int32)))])) rfl (by rw [hml]; rfl) (argsL := [(.int (p1 &&& (65535 : Int32)))]) (rest := []) (lenOf pd_0_0 rfl) rfl (by show 2 * 0 + _ ≤ _; exact Nat.le_of_eq rfl) (hb hby at_46) (fun _ _ => ⟨rfl, e0, (by decide : 0 + 0 ≤ _), (by decide : 0 + 0 ≤ _)⟩)
  dsimp only [Pt.U, Pt.locs, Pt.cells, Pt.slots] at X3 l3 y3 z3 st3 hQ3
  subst l3 y3 z3
  obtain ⟨rfl, N3q, e3q⟩ := hQ3
  have N3 := Fr.app N0 N3q
  have Z3 : n0 ≤ T3.heap.size := by rw [e3q]; exact Z0
  have Kq3 : Keep h0 T3.heap [] := by rw [e3q]; exact Keep.refl _ _
  obtain ⟨_, _, ⟨T4, L4, k4, n4⟩, -, X4, ⟨Lc4, hQ4, l4, y4, z4⟩, st4⟩ := Jvm.LawKit.callS X3 hx (y := (⟨"com/example/nestdb/nestdb/xml/XmlCharsIsNameStartCharPinLaw", "ref", "(I)Z"⟩ : MethodName)) hown (mvT hZ (hw _ (List.mem_of_getElem? (i := 8) rfl))) (mvT hZ (hw _ (List.mem_of_getElem? (i := 9) rfl))) (mvT hZ (hw _ (List.mem_of_getElem? (i := 10) rfl))) (mvT hZ (hw _ (List.mem_of_getElem? (i := 11) rfl))) (by decide) (backOf (W := 1) (rm2 l Z a0 hw [] (p1 &&& (65535 : Int32))  T3.heap n0 Z3) hZ (hw _ (List.mem_of_getElem? (i := 11) rfl)) (hw _ (List.mem_of_getElem? (i := 10) rfl)) (by decide) (by decide)) (g := (mkF m 54 #[.val (.int p1), .val (.int p2), .val (.int (p2 &&& (3 : Int32))), .val (.int (p1 &&& (65535 : Int32))), .val (.int (F1_0 (p1 &&& (65535 : Int32))))] [(.int (p1 &&& (65535 : Int32))), (.int (F1_0 (p1 &&& (65535 : Int32))))])) rfl (by rw [hml]; rfl) (argsL := [(.int (p1 &&& (65535 : Int32)))]) (rest := [(.int (F1_0 (p1 &&& (65535 : Int32))))]) (lenOf pd_0_0 rfl) rfl (by show 2 * 0 + _ ≤ _; exact Nat.le_of_eq rfl) (hb hby at_54) (fun _ _ => ⟨rfl, rfl, (by decide : 0 + 0 ≤ _), (by decide : 0 + 0 ≤ _)⟩)
  dsimp only [Pt.U, Pt.locs, Pt.cells, Pt.slots] at X4 l4 y4 z4 st4 hQ4
  subst l4 y4 z4
  obtain ⟨rfl, N4q, e4q⟩ := hQ4
  have N4 := Fr.app N3 N4q
  have Z4 : n0 ≤ T4.heap.size := by rw [e4q]; exact Z3
  have Kq4 : Keep T3.heap T4.heap [] := by rw [e4q]; exact Keep.refl _ _
  obtain ⟨fs, hr, hrun, hended, hW, hsame⟩ := X4.leave (v := some (.int (1 : Int32))) (fun h => by rw [Bd.returns] at h; cases h) Bd.notSynchronized
  refine ⟨_, _, pre0 _ ?_, hrun, hended, _, _, rfl, ?_, ⟨_, rfl⟩, hW, hsame.mono (by decide) (by decide)⟩
  · show Steps p.tables e below (s₁.setTop (mkF m 0 #[.val (.int p1), .val (.int p2), .unset, .unset, .unset] [])) _
    refine XS.iloadN X0.here hx rfl (hb hby at_0) rfl ?_
    show Steps p.tables e below (s₁.setTop (mkF m 1 #[.val (.int p1), .val (.int p2), .unset, .unset, .unset] [(.int p2)])) _
    refine XS.iconst X0.here hx rfl (hb hby at_1) ?_
    show Steps p.tables e below (s₁.setTop (mkF m 2 #[.val (.int p1), .val (.int p2), .unset, .unset, .unset] [(.int (3 : Int32)), (.int p2)])) _
    refine XS.iand X0.here hx rfl (hb hby at_2) rfl ?_
    show Steps p.tables e below (s₁.setTop (mkF m 3 #[.val (.int p1), .val (.int p2), .unset, .unset, .unset] [(.int (p2 &&& (3 : Int32)))])) _
    refine XS.istoreN X0.here hx rfl (hb hby at_3) rfl (l' := #[.val (.int p1), .val (.int p2), .val (.int (p2 &&& (3 : Int32))), .unset, .unset]) rfl ?_
    show Steps p.tables e below (s₁.setTop (mkF m 4 #[.val (.int p1), .val (.int p2), .val (.int (p2 &&& (3 : Int32))), .unset, .unset] [])) _
    refine XS.iloadN X0.here hx rfl (hb hby at_4) rfl ?_
    show Steps p.tables e below (s₁.setTop (mkF m 5 #[.val (.int p1), .val (.int p2), .val (.int (p2 &&& (3 : Int32))), .unset, .unset] [(.int (p2 &&& (3 : Int32)))])) _
    refine XS.ifYes X0.here hx rfl (pc0 := 5) (pc' := 13) rfl (hb hby at_5) rfl ((if0 _ _).trans (feq hc5).2) (by decide) (by decide) ?_
    show Steps p.tables e below (s₁.setTop (mkF m 13 #[.val (.int p1), .val (.int p2), .val (.int (p2 &&& (3 : Int32))), .unset, .unset] [])) _
    refine XS.iloadN X0.here hx rfl (hb hby at_13) rfl ?_
    show Steps p.tables e below (s₁.setTop (mkF m 14 #[.val (.int p1), .val (.int p2), .val (.int (p2 &&& (3 : Int32))), .unset, .unset] [(.int (p2 &&& (3 : Int32)))])) _
    refine XS.iconst X0.here hx rfl (hb hby at_14) ?_
    show Steps p.tables e below (s₁.setTop (mkF m 15 #[.val (.int p1), .val (.int p2), .val (.int (p2 &&& (3 : Int32))), .unset, .unset] [(.int (1 : Int32)), (.int (p2 &&& (3 : Int32)))])) _
    refine XS.icmpYes X0.here hx rfl (pc0 := 15) (pc' := 27) rfl (hb hby at_15) rfl (feq hc15).2 (by decide) (by decide) ?_
    show Steps p.tables e below (s₁.setTop (mkF m 27 #[.val (.int p1), .val (.int p2), .val (.int (p2 &&& (3 : Int32))), .unset, .unset] [])) _
    refine XS.iloadN X0.here hx rfl (hb hby at_27) rfl ?_
    show Steps p.tables e below (s₁.setTop (mkF m 28 #[.val (.int p1), .val (.int p2), .val (.int (p2 &&& (3 : Int32))), .unset, .unset] [(.int (p2 &&& (3 : Int32)))])) _
    refine XS.iconst X0.here hx rfl (hb hby at_28) ?_
    show Steps p.tables e below (s₁.setTop (mkF m 29 #[.val (.int p1), .val (.int p2), .val (.int (p2 &&& (3 : Int32))), .unset, .unset] [(.int (2 : Int32)), (.int (p2 &&& (3 : Int32)))])) _
    refine XS.icmpNo X0.here hx rfl (hb hby at_29) rfl (teq hc29).2 ?_
    show Steps p.tables e below (s₁.setTop (mkF m 32 #[.val (.int p1), .val (.int p2), .val (.int (p2 &&& (3 : Int32))), .unset, .unset] [])) _
    refine XS.iloadN X0.here hx rfl (hb hby at_32) rfl ?_
    show Steps p.tables e below (s₁.setTop (mkF m 33 #[.val (.int p1), .val (.int p2), .val (.int (p2 &&& (3 : Int32))), .unset, .unset] [(.int p1)])) _
    refine X0.ldcInt hx hown (mvT hZ (hw _ (List.mem_of_getElem? (i := 16) rfl))) (g := (mkF m 33 #[.val (.int p1), .val (.int p2), .val (.int (p2 &&& (3 : Int32))), .unset, .unset] [(.int p1)])) rfl (hb hby at_33) _ ?_
    show Steps p.tables e below (s₁.setTop (mkF m 35 #[.val (.int p1), .val (.int p2), .val (.int (p2 &&& (3 : Int32))), .unset, .unset] [(.int (65535 : Int32)), (.int p1)])) _
    refine XS.iand X0.here hx rfl (hb hby at_35) rfl ?_
    show Steps p.tables e below (s₁.setTop (mkF m 36 #[.val (.int p1), .val (.int p2), .val (.int (p2 &&& (3 : Int32))), .unset, .unset] [(.int (p1 &&& (65535 : Int32)))])) _
    refine XS.istoreN X0.here hx rfl (hb hby at_36) rfl (l' := #[.val (.int p1), .val (.int p2), .val (.int (p2 &&& (3 : Int32))), .val (.int (p1 &&& (65535 : Int32))), .unset]) rfl ?_
    show Steps p.tables e below (s₁.setTop (mkF m 37 #[.val (.int p1), .val (.int p2), .val (.int (p2 &&& (3 : Int32))), .val (.int (p1 &&& (65535 : Int32))), .unset] [])) _
    refine XS.goto X0.here hx rfl (pc0 := 37) (pc' := 45) rfl (hb hby at_37) (by decide) (by decide) ?_
    show Steps p.tables e below (s₁.setTop (mkF m 45 #[.val (.int p1), .val (.int p2), .val (.int (p2 &&& (3 : Int32))), .val (.int (p1 &&& (65535 : Int32))), .unset] [])) _
    refine XS.iloadN X0.here hx rfl (hb hby at_45) rfl ?_
    show Steps p.tables e below (s₁.setTop (mkF m 46 #[.val (.int p1), .val (.int p2), .val (.int (p2 &&& (3 : Int32))), .val (.int (p1 &&& (65535 : Int32))), .unset] [(.int (p1 &&& (65535 : Int32)))])) _
    refine st3 _ ?_
    show Steps p.tables e below (T3.setTop (mkF m 49 #[.val (.int p1), .val (.int p2), .val (.int (p2 &&& (3 : Int32))), .val (.int (p1 &&& (65535 : Int32))), .unset] [(.int (F1_0 (p1 &&& (65535 : Int32))))])) _
    refine XS.istore X3.here hx rfl (hb hby at_49) rfl (l' := #[.val (.int p1), .val (.int p2), .val (.int (p2 &&& (3 : Int32))), .val (.int (p1 &&& (65535 : Int32))), .val (.int (F1_0 (p1 &&& (65535 : Int32))))]) rfl ?_
    show Steps p.tables e below (T3.setTop (mkF m 51 #[.val (.int p1), .val (.int p2), .val (.int (p2 &&& (3 : Int32))), .val (.int (p1 &&& (65535 : Int32))), .val (.int (F1_0 (p1 &&& (65535 : Int32))))] [])) _
    refine XS.iload X3.here hx rfl (hb hby at_51) rfl ?_
    show Steps p.tables e below (T3.setTop (mkF m 53 #[.val (.int p1), .val (.int p2), .val (.int (p2 &&& (3 : Int32))), .val (.int (p1 &&& (65535 : Int32))), .val (.int (F1_0 (p1 &&& (65535 : Int32))))] [(.int (F1_0 (p1 &&& (65535 : Int32))))])) _
    refine XS.iloadN X3.here hx rfl (hb hby at_53) rfl ?_
    show Steps p.tables e below (T3.setTop (mkF m 54 #[.val (.int p1), .val (.int p2), .val (.int (p2 &&& (3 : Int32))), .val (.int (p1 &&& (65535 : Int32))), .val (.int (F1_0 (p1 &&& (65535 : Int32))))] [(.int (p1 &&& (65535 : Int32))), (.int (F1_0 (p1 &&& (65535 : Int32))))])) _
    refine st4 _ ?_
    show Steps p.tables e below (T4.setTop (mkF m 57 #[.val (.int p1), .val (.int p2), .val (.int (p2 &&& (3 : Int32))), .val (.int (p1 &&& (65535 : Int32))), .val (.int (F1_0 (p1 &&& (65535 : Int32))))] [(.int (F2_0 (p1 &&& (65535 : Int32)))), (.int (F1_0 (p1 &&& (65535 : Int32))))])) _
    refine XS.icmpYes X4.here hx rfl (pc0 := 57) (pc' := 62) rfl (hb hby at_57) rfl (teq hk57).1 (by decide) (by decide) ?_
    show Steps p.tables e below (T4.setTop (mkF m 62 #[.val (.int p1), .val (.int p2), .val (.int (p2 &&& (3 : Int32))), .val (.int (p1 &&& (65535 : Int32))), .val (.int (F1_0 (p1 &&& (65535 : Int32))))] [])) _
    refine XS.iload X4.here hx rfl (hb hby at_62) rfl ?_
    show Steps p.tables e below (T4.setTop (mkF m 64 #[.val (.int p1), .val (.int p2), .val (.int (p2 &&& (3 : Int32))), .val (.int (p1 &&& (65535 : Int32))), .val (.int (F1_0 (p1 &&& (65535 : Int32))))] [(.int (F1_0 (p1 &&& (65535 : Int32))))])) _
    refine XS.ifYes X4.here hx rfl (pc0 := 64) (pc' := 76) rfl (hb hby at_64) rfl ((if0 _ _).trans (teq hk64).1) (by decide) (by decide) ?_
    show Steps p.tables e below (T4.setTop (mkF m 76 #[.val (.int p1), .val (.int p2), .val (.int (p2 &&& (3 : Int32))), .val (.int (p1 &&& (65535 : Int32))), .val (.int (F1_0 (p1 &&& (65535 : Int32))))] [])) _
    refine XS.iconst X4.here hx rfl (hb hby at_76) ?_
    show Steps p.tables e below (T4.setTop (mkF m 77 #[.val (.int p1), .val (.int p2), .val (.int (p2 &&& (3 : Int32))), .val (.int (p1 &&& (65535 : Int32))), .val (.int (F1_0 (p1 &&& (65535 : Int32))))] [(.int (1 : Int32))])) _
    exact retN X4 hx (t := .boolean) Bd.returns (by simp) (hb hby at_77) hr
  · show Q0 Z p1 p2 h0 n0 _ T4.heap _
    exact ⟨rfl, N4⟩
set_option maxRecDepth 65536 in
set_option maxHeartbeats 40000000 in
theorem rm0_ttftft (l : Launch) (Z : State) (a0 : Array Value) (hw : ∀ d ∈ tables_1, d.before a0 Z = true) (ws : List Jvm.Cond) (p1 : Int32) (p2 : Int32) (h0 : Heap) (n0 : Nat) (Z0 : n0 ≤ h0.size) (hc5 : ¬ ((p2 &&& (3 : Int32)) = (0 : Int32))) (hc15 : ¬ ((p2 &&& (3 : Int32)) = (1 : Int32))) (hc29 : (p2 &&& (3 : Int32)) = (2 : Int32)) (hk57 : (F1_0 (p1 &&& (65535 : Int32))) = (F2_0 (p1 &&& (65535 : Int32)))) (hk64 : ¬ ((F1_0 (p1 &&& (65535 : Int32))) = (0 : Int32))) (hk71 : ¬ ((F3_0 (p1 &&& (65535 : Int32))) = (0 : Int32))) :
    MetFree l x (head1 (Jvm.Cond.code x code maxLocals ret :: ws) room_1) (fun a U => a = #[(.int p1), (.int p2)] ∧ Z.Warmed39 U.vm ∧ U.heap = h0) (fun _ _ _ _ _ => True) (fun _ U o U' => ∃ v L, o = .returned v ∧ Q0 Z p1 p2 h0 n0 v U'.heap L ∧ FrameEnd U o U' L room_1.cells room_1.slots) := by
  refine MetFree.of_bodySF (plainFor_of_name pn_0) hisR ?_
  intro p e s m args below meth c s₁ Bd hml0 hP hK
  obtain ⟨rfl, hZ, hh⟩ := hP
  have hx := Bd.exec
  have hby := Bd.bytes
  have hml : c.maxLocals = 5 := hml0
  have hown : s.vm.findClass "com/example/nestdb/nestdb/xml/XmlCharsIsNameStartCharPinLaw" = some m.cls := findClass_of_methodNamed Bd.named
  have hnm := (name_of_methodNamed Bd.named Bd.method).1
  have X0 : Stand p l e room_1 s m #[(.int p1), (.int p2)] below meth c s₁ [] 0 0 := Stand.of_body Bd
  have e0 : s₁.heap = h0 := by rw [← hh, Bd.state]; rfl
  have N0 := Fr.nil n0
  have pre0 : ∀ t, Steps p.tables e below (s₁.setTop (mkF m 0 #[.val (.int p1), .val (.int p2), .unset, .unset, .unset] [])) t → Steps p.tables e below (s₁.setTop (entryFrame m #[(.int p1), (.int p2)] maxLocals)) t := fun t k => castTop (ef_0 m p1 p2) k
  obtain ⟨_, _, ⟨T3, L3, k3, n3⟩, -, X3, ⟨Lc3, hQ3, l3, y3, z3⟩, st3⟩ := Jvm.LawKit.callS X0 hx (y := (⟨"com/example/nestdb/nestdb/xml/XmlChars", "isNameStartChar", "(I)Z"⟩ : MethodName)) hown (mvT hZ (hw _ (List.mem_of_getElem? (i := 1) rfl))) (mvT hZ (hw _ (List.mem_of_getElem? (i := 2) rfl))) (mvT hZ (hw _ (List.mem_of_getElem? (i := 3) rfl))) (mvT hZ (hw _ (List.mem_of_getElem? (i := 4) rfl))) (by decide) (backOf (W := 0) (rm1 l Z a0 hw [] (p1 &&& (65535 : Int32))  h0 n0 Z0) hZ (hw _ (List.mem_of_getElem? (i := 4) rfl)) (hw _ (List.mem_of_getElem? (i := 3) rfl)) (by decide) (by decide)) (g := (mkF m 46 #[.val (.int p1), .val (.int p2), .val (.int (p2 &&& (3 : Int32))), .val (.int (p1 &&& (65535 : Int32))), .unset] [(.int (p1 &&& (65535 : Int32)))])) rfl (by rw [hml]; rfl) (argsL := [(.int (p1 &&& (65535 : Int32)))]) (rest := []) (lenOf pd_0_0 rfl) rfl (by show 2 * 0 + _ ≤ _; exact Nat.le_of_eq rfl) (hb hby at_46) (fun _ _ => ⟨rfl, e0, (by decide : 0 + 0 ≤ _), (by decide : 0 + 0 ≤ _)⟩)
  dsimp only [Pt.U, Pt.locs, Pt.cells, Pt.slots] at X3 l3 y3 z3 st3 hQ3
  subst l3 y3 z3
  obtain ⟨rfl, N3q, e3q⟩ := hQ3
  have N3 := Fr.app N0 N3q
  have Z3 : n0 ≤ T3.heap.size := by rw [e3q]; exact Z0
  have Kq3 : Keep h0 T3.heap [] := by rw [e3q]; exact Keep.refl _ _
  obtain ⟨_, _, ⟨T4, L4, k4, n4⟩, -, X4, ⟨Lc4, hQ4, l4, y4, z4⟩, st4⟩ := Jvm.LawKit.callS X3 hx (y := (⟨"com/example/nestdb/nestdb/xml/XmlCharsIsNameStartCharPinLaw", "ref", "(I)Z"⟩ : MethodName)) hown (mvT hZ (hw _ (List.mem_of_getElem? (i := 8) rfl))) (mvT hZ (hw _ (List.mem_of_getElem? (i := 9) rfl))) (mvT hZ (hw _ (List.mem_of_getElem? (i := 10) rfl))) (mvT hZ (hw _ (List.mem_of_getElem? (i := 11) rfl))) (by decide) (backOf (W := 1) (rm2 l Z a0 hw [] (p1 &&& (65535 : Int32))  T3.heap n0 Z3) hZ (hw _ (List.mem_of_getElem? (i := 11) rfl)) (hw _ (List.mem_of_getElem? (i := 10) rfl)) (by decide) (by decide)) (g := (mkF m 54 #[.val (.int p1), .val (.int p2), .val (.int (p2 &&& (3 : Int32))), .val (.int (p1 &&& (65535 : Int32))), .val (.int (F1_0 (p1 &&& (65535 : Int32))))] [(.int (p1 &&& (65535 : Int32))), (.int (F1_0 (p1 &&& (65535 : Int32))))])) rfl (by rw [hml]; rfl) (argsL := [(.int (p1 &&& (65535 : Int32)))]) (rest := [(.int (F1_0 (p1 &&& (65535 : Int32))))]) (lenOf pd_0_0 rfl) rfl (by show 2 * 0 + _ ≤ _; exact Nat.le_of_eq rfl) (hb hby at_54) (fun _ _ => ⟨rfl, rfl, (by decide : 0 + 0 ≤ _), (by decide : 0 + 0 ≤ _)⟩)
  dsimp only [Pt.U, Pt.locs, Pt.cells, Pt.slots] at X4 l4 y4 z4 st4 hQ4
  subst l4 y4 z4
  obtain ⟨rfl, N4q, e4q⟩ := hQ4
  have N4 := Fr.app N3 N4q
  have Z4 : n0 ≤ T4.heap.size := by rw [e4q]; exact Z3
  have Kq4 : Keep T3.heap T4.heap [] := by rw [e4q]; exact Keep.refl _ _
  obtain ⟨_, _, ⟨T5, L5, k5, n5⟩, -, X5, ⟨Lc5, hQ5, l5, y5, z5⟩, st5⟩ := Jvm.LawKit.callS X4 hx (y := (⟨"com/example/nestdb/nestdb/xml/XmlChars", "isChar", "(I)Z"⟩ : MethodName)) hown (mvT hZ (hw _ (List.mem_of_getElem? (i := 17) rfl))) (mvT hZ (hw _ (List.mem_of_getElem? (i := 18) rfl))) (mvT hZ (hw _ (List.mem_of_getElem? (i := 3) rfl))) (mvT hZ (hw _ (List.mem_of_getElem? (i := 19) rfl))) (by decide) (backOf (W := 0) (rm3 l Z a0 hw [] (p1 &&& (65535 : Int32))  T4.heap n0 Z4) hZ (hw _ (List.mem_of_getElem? (i := 19) rfl)) (hw _ (List.mem_of_getElem? (i := 3) rfl)) (by decide) (by decide)) (g := (mkF m 68 #[.val (.int p1), .val (.int p2), .val (.int (p2 &&& (3 : Int32))), .val (.int (p1 &&& (65535 : Int32))), .val (.int (F1_0 (p1 &&& (65535 : Int32))))] [(.int (p1 &&& (65535 : Int32)))])) rfl (by rw [hml]; rfl) (argsL := [(.int (p1 &&& (65535 : Int32)))]) (rest := []) (lenOf pd_0_0 rfl) rfl (by show 2 * 0 + _ ≤ _; exact Nat.le_of_eq rfl) (hb hby at_68) (fun _ _ => ⟨rfl, rfl, (by decide : 0 + 0 ≤ _), (by decide : 0 + 0 ≤ _)⟩)
  dsimp only [Pt.U, Pt.locs, Pt.cells, Pt.slots] at X5 l5 y5 z5 st5 hQ5
  subst l5 y5 z5
  obtain ⟨rfl, N5q, e5q⟩ := hQ5
  have N5 := Fr.app N4 N5q
  have Z5 : n0 ≤ T5.heap.size := by rw [e5q]; exact Z4
  have Kq5 : Keep T4.heap T5.heap [] := by rw [e5q]; exact Keep.refl _ _
  obtain ⟨fs, hr, hrun, hended, hW, hsame⟩ := X5.leave (v := some (.int (1 : Int32))) (fun h => by rw [Bd.returns] at h; cases h) Bd.notSynchronized
  refine ⟨_, _, pre0 _ ?_, hrun, hended, _, _, rfl, ?_, ⟨_, rfl⟩, hW, hsame.mono (by decide) (by decide)⟩
  · show Steps p.tables e below (s₁.setTop (mkF m 0 #[.val (.int p1), .val (.int p2), .unset, .unset, .unset] [])) _
    refine XS.iloadN X0.here hx rfl (hb hby at_0) rfl ?_
    show Steps p.tables e below (s₁.setTop (mkF m 1 #[.val (.int p1), .val (.int p2), .unset, .unset, .unset] [(.int p2)])) _
    refine XS.iconst X0.here hx rfl (hb hby at_1) ?_
    show Steps p.tables e below (s₁.setTop (mkF m 2 #[.val (.int p1), .val (.int p2), .unset, .unset, .unset] [(.int (3 : Int32)), (.int p2)])) _
    refine XS.iand X0.here hx rfl (hb hby at_2) rfl ?_
    show Steps p.tables e below (s₁.setTop (mkF m 3 #[.val (.int p1), .val (.int p2), .unset, .unset, .unset] [(.int (p2 &&& (3 : Int32)))])) _
    refine XS.istoreN X0.here hx rfl (hb hby at_3) rfl (l' := #[.val (.int p1), .val (.int p2), .val (.int (p2 &&& (3 : Int32))), .unset, .unset]) rfl ?_
    show Steps p.tables e below (s₁.setTop (mkF m 4 #[.val (.int p1), .val (.int p2), .val (.int (p2 &&& (3 : Int32))), .unset, .unset] [])) _
    refine XS.iloadN X0.here hx rfl (hb hby at_4) rfl ?_
    show Steps p.tables e below (s₁.setTop (mkF m 5 #[.val (.int p1), .val (.int p2), .val (.int (p2 &&& (3 : Int32))), .unset, .unset] [(.int (p2 &&& (3 : Int32)))])) _
    refine XS.ifYes X0.here hx rfl (pc0 := 5) (pc' := 13) rfl (hb hby at_5) rfl ((if0 _ _).trans (feq hc5).2) (by decide) (by decide) ?_
    show Steps p.tables e below (s₁.setTop (mkF m 13 #[.val (.int p1), .val (.int p2), .val (.int (p2 &&& (3 : Int32))), .unset, .unset] [])) _
    refine XS.iloadN X0.here hx rfl (hb hby at_13) rfl ?_
    show Steps p.tables e below (s₁.setTop (mkF m 14 #[.val (.int p1), .val (.int p2), .val (.int (p2 &&& (3 : Int32))), .unset, .unset] [(.int (p2 &&& (3 : Int32)))])) _
    refine XS.iconst X0.here hx rfl (hb hby at_14) ?_
    show Steps p.tables e below (s₁.setTop (mkF m 15 #[.val (.int p1), .val (.int p2), .val (.int (p2 &&& (3 : Int32))), .unset, .unset] [(.int (1 : Int32)), (.int (p2 &&& (3 : Int32)))])) _
    refine XS.icmpYes X0.here hx rfl (pc0 := 15) (pc' := 27) rfl (hb hby at_15) rfl (feq hc15).2 (by decide) (by decide) ?_
    show Steps p.tables e below (s₁.setTop (mkF m 27 #[.val (.int p1), .val (.int p2), .val (.int (p2 &&& (3 : Int32))), .unset, .unset] [])) _
    refine XS.iloadN X0.here hx rfl (hb hby at_27) rfl ?_
    show Steps p.tables e below (s₁.setTop (mkF m 28 #[.val (.int p1), .val (.int p2), .val (.int (p2 &&& (3 : Int32))), .unset, .unset] [(.int (p2 &&& (3 : Int32)))])) _
    refine XS.iconst X0.here hx rfl (hb hby at_28) ?_
    show Steps p.tables e below (s₁.setTop (mkF m 29 #[.val (.int p1), .val (.int p2), .val (.int (p2 &&& (3 : Int32))), .unset, .unset] [(.int (2 : Int32)), (.int (p2 &&& (3 : Int32)))])) _
    refine XS.icmpNo X0.here hx rfl (hb hby at_29) rfl (teq hc29).2 ?_
    show Steps p.tables e below (s₁.setTop (mkF m 32 #[.val (.int p1), .val (.int p2), .val (.int (p2 &&& (3 : Int32))), .unset, .unset] [])) _
    refine XS.iloadN X0.here hx rfl (hb hby at_32) rfl ?_
    show Steps p.tables e below (s₁.setTop (mkF m 33 #[.val (.int p1), .val (.int p2), .val (.int (p2 &&& (3 : Int32))), .unset, .unset] [(.int p1)])) _
    refine X0.ldcInt hx hown (mvT hZ (hw _ (List.mem_of_getElem? (i := 16) rfl))) (g := (mkF m 33 #[.val (.int p1), .val (.int p2), .val (.int (p2 &&& (3 : Int32))), .unset, .unset] [(.int p1)])) rfl (hb hby at_33) _ ?_
    show Steps p.tables e below (s₁.setTop (mkF m 35 #[.val (.int p1), .val (.int p2), .val (.int (p2 &&& (3 : Int32))), .unset, .unset] [(.int (65535 : Int32)), (.int p1)])) _
    refine XS.iand X0.here hx rfl (hb hby at_35) rfl ?_
    show Steps p.tables e below (s₁.setTop (mkF m 36 #[.val (.int p1), .val (.int p2), .val (.int (p2 &&& (3 : Int32))), .unset, .unset] [(.int (p1 &&& (65535 : Int32)))])) _
    refine XS.istoreN X0.here hx rfl (hb hby at_36) rfl (l' := #[.val (.int p1), .val (.int p2), .val (.int (p2 &&& (3 : Int32))), .val (.int (p1 &&& (65535 : Int32))), .unset]) rfl ?_
    show Steps p.tables e below (s₁.setTop (mkF m 37 #[.val (.int p1), .val (.int p2), .val (.int (p2 &&& (3 : Int32))), .val (.int (p1 &&& (65535 : Int32))), .unset] [])) _
    refine XS.goto X0.here hx rfl (pc0 := 37) (pc' := 45) rfl (hb hby at_37) (by decide) (by decide) ?_
    show Steps p.tables e below (s₁.setTop (mkF m 45 #[.val (.int p1), .val (.int p2), .val (.int (p2 &&& (3 : Int32))), .val (.int (p1 &&& (65535 : Int32))), .unset] [])) _
    refine XS.iloadN X0.here hx rfl (hb hby at_45) rfl ?_
    show Steps p.tables e below (s₁.setTop (mkF m 46 #[.val (.int p1), .val (.int p2), .val (.int (p2 &&& (3 : Int32))), .val (.int (p1 &&& (65535 : Int32))), .unset] [(.int (p1 &&& (65535 : Int32)))])) _
    refine st3 _ ?_
    show Steps p.tables e below (T3.setTop (mkF m 49 #[.val (.int p1), .val (.int p2), .val (.int (p2 &&& (3 : Int32))), .val (.int (p1 &&& (65535 : Int32))), .unset] [(.int (F1_0 (p1 &&& (65535 : Int32))))])) _
    refine XS.istore X3.here hx rfl (hb hby at_49) rfl (l' := #[.val (.int p1), .val (.int p2), .val (.int (p2 &&& (3 : Int32))), .val (.int (p1 &&& (65535 : Int32))), .val (.int (F1_0 (p1 &&& (65535 : Int32))))]) rfl ?_
    show Steps p.tables e below (T3.setTop (mkF m 51 #[.val (.int p1), .val (.int p2), .val (.int (p2 &&& (3 : Int32))), .val (.int (p1 &&& (65535 : Int32))), .val (.int (F1_0 (p1 &&& (65535 : Int32))))] [])) _
    refine XS.iload X3.here hx rfl (hb hby at_51) rfl ?_
    show Steps p.tables e below (T3.setTop (mkF m 53 #[.val (.int p1), .val (.int p2), .val (.int (p2 &&& (3 : Int32))), .val (.int (p1 &&& (65535 : Int32))), .val (.int (F1_0 (p1 &&& (65535 : Int32))))] [(.int (F1_0 (p1 &&& (65535 : Int32))))])) _
    refine XS.iloadN X3.here hx rfl (hb hby at_53) rfl ?_
    show Steps p.tables e below (T3.setTop (mkF m 54 #[.val (.int p1), .val (.int p2), .val (.int (p2 &&& (3 : Int32))), .val (.int (p1 &&& (65535 : Int32))), .val (.int (F1_0 (p1 &&& (65535 : Int32))))] [(.int (p1 &&& (65535 : Int32))), (.int (F1_0 (p1 &&& (65535 : Int32))))])) _
    refine st4 _ ?_
    show Steps p.tables e below (T4.setTop (mkF m 57 #[.val (.int p1), .val (.int p2), .val (.int (p2 &&& (3 : Int32))), .val (.int (p1 &&& (65535 : Int32))), .val (.int (F1_0 (p1 &&& (65535 : Int32))))] [(.int (F2_0 (p1 &&& (65535 : Int32)))), (.int (F1_0 (p1 &&& (65535 : Int32))))])) _
    refine XS.icmpYes X4.here hx rfl (pc0 := 57) (pc' := 62) rfl (hb hby at_57) rfl (teq hk57).1 (by decide) (by decide) ?_
    show Steps p.tables e below (T4.setTop (mkF m 62 #[.val (.int p1), .val (.int p2), .val (.int (p2 &&& (3 : Int32))), .val (.int (p1 &&& (65535 : Int32))), .val (.int (F1_0 (p1 &&& (65535 : Int32))))] [])) _
    refine XS.iload X4.here hx rfl (hb hby at_62) rfl ?_
    show Steps p.tables e below (T4.setTop (mkF m 64 #[.val (.int p1), .val (.int p2), .val (.int (p2 &&& (3 : Int32))), .val (.int (p1 &&& (65535 : Int32))), .val (.int (F1_0 (p1 &&& (65535 : Int32))))] [(.int (F1_0 (p1 &&& (65535 : Int32))))])) _
    refine XS.ifNo X4.here hx rfl (hb hby at_64) rfl ((if0 _ _).trans (feq hk64).1) ?_
    show Steps p.tables e below (T4.setTop (mkF m 67 #[.val (.int p1), .val (.int p2), .val (.int (p2 &&& (3 : Int32))), .val (.int (p1 &&& (65535 : Int32))), .val (.int (F1_0 (p1 &&& (65535 : Int32))))] [])) _
    refine XS.iloadN X4.here hx rfl (hb hby at_67) rfl ?_
    show Steps p.tables e below (T4.setTop (mkF m 68 #[.val (.int p1), .val (.int p2), .val (.int (p2 &&& (3 : Int32))), .val (.int (p1 &&& (65535 : Int32))), .val (.int (F1_0 (p1 &&& (65535 : Int32))))] [(.int (p1 &&& (65535 : Int32)))])) _
    refine st5 _ ?_
    show Steps p.tables e below (T5.setTop (mkF m 71 #[.val (.int p1), .val (.int p2), .val (.int (p2 &&& (3 : Int32))), .val (.int (p1 &&& (65535 : Int32))), .val (.int (F1_0 (p1 &&& (65535 : Int32))))] [(.int (F3_0 (p1 &&& (65535 : Int32))))])) _
    refine XS.ifYes X5.here hx rfl (pc0 := 71) (pc' := 76) rfl (hb hby at_71) rfl ((if0 _ _).trans (feq hk71).2) (by decide) (by decide) ?_
    show Steps p.tables e below (T5.setTop (mkF m 76 #[.val (.int p1), .val (.int p2), .val (.int (p2 &&& (3 : Int32))), .val (.int (p1 &&& (65535 : Int32))), .val (.int (F1_0 (p1 &&& (65535 : Int32))))] [])) _
    refine XS.iconst X5.here hx rfl (hb hby at_76) ?_
    show Steps p.tables e below (T5.setTop (mkF m 77 #[.val (.int p1), .val (.int p2), .val (.int (p2 &&& (3 : Int32))), .val (.int (p1 &&& (65535 : Int32))), .val (.int (F1_0 (p1 &&& (65535 : Int32))))] [(.int (1 : Int32))])) _
    exact retN X5 hx (t := .boolean) Bd.returns (by simp) (hb hby at_77) hr
  · show Q0 Z p1 p2 h0 n0 _ T5.heap _
    exact ⟨rfl, N5⟩
set_option maxRecDepth 65536 in
set_option maxHeartbeats 40000000 in
theorem rm0_ttttt (l : Launch) (Z : State) (a0 : Array Value) (hw : ∀ d ∈ tables_1, d.before a0 Z = true) (ws : List Jvm.Cond) (p1 : Int32) (p2 : Int32) (h0 : Heap) (n0 : Nat) (Z0 : n0 ≤ h0.size) (hc5 : ¬ ((p2 &&& (3 : Int32)) = (0 : Int32))) (hc15 : ¬ ((p2 &&& (3 : Int32)) = (1 : Int32))) (hc29 : ¬ ((p2 &&& (3 : Int32)) = (2 : Int32))) (hk57 : (F1_0 (p1 &&& (1048575 : Int32))) = (F2_0 (p1 &&& (1048575 : Int32)))) (hk64 : (F1_0 (p1 &&& (1048575 : Int32))) = (0 : Int32)) :
    MetFree l x (head1 (Jvm.Cond.code x code maxLocals ret :: ws) room_1) (fun a U => a = #[(.int p1), (.int p2)] ∧ Z.Warmed39 U.vm ∧ U.heap = h0) (fun _ _ _ _ _ => True) (fun _ U o U' => ∃ v L, o = .returned v ∧ Q0 Z p1 p2 h0 n0 v U'.heap L ∧ FrameEnd U o U' L room_1.cells room_1.slots) := by
  refine MetFree.of_bodySF (plainFor_of_name pn_0) hisR ?_
  intro p e s m args below meth c s₁ Bd hml0 hP hK
  obtain ⟨rfl, hZ, hh⟩ := hP
  have hx := Bd.exec
  have hby := Bd.bytes
  have hml : c.maxLocals = 5 := hml0
  have hown : s.vm.findClass "com/example/nestdb/nestdb/xml/XmlCharsIsNameStartCharPinLaw" = some m.cls := findClass_of_methodNamed Bd.named
  have hnm := (name_of_methodNamed Bd.named Bd.method).1
  have X0 : Stand p l e room_1 s m #[(.int p1), (.int p2)] below meth c s₁ [] 0 0 := Stand.of_body Bd
  have e0 : s₁.heap = h0 := by rw [← hh, Bd.state]; rfl
  have N0 := Fr.nil n0
  have pre0 : ∀ t, Steps p.tables e below (s₁.setTop (mkF m 0 #[.val (.int p1), .val (.int p2), .unset, .unset, .unset] [])) t → Steps p.tables e below (s₁.setTop (entryFrame m #[(.int p1), (.int p2)] maxLocals)) t := fun t k => castTop (ef_0 m p1 p2) k
  obtain ⟨_, _, ⟨T3, L3, k3, n3⟩, -, X3, ⟨Lc3, hQ3, l3, y3, z3⟩, st3⟩ := Jvm.LawKit.callS X0 hx (y := (⟨"com/example/nestdb/nestdb/xml/XmlChars", "isNameStartChar", "(I)Z"⟩ : MethodName)) hown (mvT hZ (hw _ (List.mem_of_getElem? (i := 1) rfl))) (mvT hZ (hw _ (List.mem_of_getElem? (i := 2) rfl))) (mvT hZ (hw _ (List.mem_of_getElem? (i := 3) rfl))) (mvT hZ (hw _ (List.mem_of_getElem? (i := 4) rfl))) (by decide) (backOf (W := 0) (rm1 l Z a0 hw [] (p1 &&& (1048575 : Int32))  h0 n0 Z0) hZ (hw _ (List.mem_of_getElem? (i := 4) rfl)) (hw _ (List.mem_of_getElem? (i := 3) rfl)) (by decide) (by decide)) (g := (mkF m 46 #[.val (.int p1), .val (.int p2), .val (.int (p2 &&& (3 : Int32))), .val (.int (p1 &&& (1048575 : Int32))), .unset] [(.int (p1 &&& (1048575 : Int32)))])) rfl (by rw [hml]; rfl) (argsL := [(.int (p1 &&& (1048575 : Int32)))]) (rest := []) (lenOf pd_0_0 rfl) rfl (by show 2 * 0 + _ ≤ _; exact Nat.le_of_eq rfl) (hb hby at_46) (fun _ _ => ⟨rfl, e0, (by decide : 0 + 0 ≤ _), (by decide : 0 + 0 ≤ _)⟩)
  dsimp only [Pt.U, Pt.locs, Pt.cells, Pt.slots] at X3 l3 y3 z3 st3 hQ3
  subst l3 y3 z3
  obtain ⟨rfl, N3q, e3q⟩ := hQ3
  have N3 := Fr.app N0 N3q
  have Z3 : n0 ≤ T3.heap.size := by rw [e3q]; exact Z0
  have Kq3 : Keep h0 T3.heap [] := by rw [e3q]; exact Keep.refl _ _
  obtain ⟨_, _, ⟨T4, L4, k4, n4⟩, -, X4, ⟨Lc4, hQ4, l4, y4, z4⟩, st4⟩ := Jvm.LawKit.callS X3 hx (y := (⟨"com/example/nestdb/nestdb/xml/XmlCharsIsNameStartCharPinLaw", "ref", "(I)Z"⟩ : MethodName)) hown (mvT hZ (hw _ (List.mem_of_getElem? (i := 8) rfl))) (mvT hZ (hw _ (List.mem_of_getElem? (i := 9) rfl))) (mvT hZ (hw _ (List.mem_of_getElem? (i := 10) rfl))) (mvT hZ (hw _ (List.mem_of_getElem? (i := 11) rfl))) (by decide) (backOf (W := 1) (rm2 l Z a0 hw [] (p1 &&& (1048575 : Int32))  T3.heap n0 Z3) hZ (hw _ (List.mem_of_getElem? (i := 11) rfl)) (hw _ (List.mem_of_getElem? (i := 10) rfl)) (by decide) (by decide)) (g := (mkF m 54 #[.val (.int p1), .val (.int p2), .val (.int (p2 &&& (3 : Int32))), .val (.int (p1 &&& (1048575 : Int32))), .val (.int (F1_0 (p1 &&& (1048575 : Int32))))] [(.int (p1 &&& (1048575 : Int32))), (.int (F1_0 (p1 &&& (1048575 : Int32))))])) rfl (by rw [hml]; rfl) (argsL := [(.int (p1 &&& (1048575 : Int32)))]) (rest := [(.int (F1_0 (p1 &&& (1048575 : Int32))))]) (lenOf pd_0_0 rfl) rfl (by show 2 * 0 + _ ≤ _; exact Nat.le_of_eq rfl) (hb hby at_54) (fun _ _ => ⟨rfl, rfl, (by decide : 0 + 0 ≤ _), (by decide : 0 + 0 ≤ _)⟩)
  dsimp only [Pt.U, Pt.locs, Pt.cells, Pt.slots] at X4 l4 y4 z4 st4 hQ4
  subst l4 y4 z4
  obtain ⟨rfl, N4q, e4q⟩ := hQ4
  have N4 := Fr.app N3 N4q
  have Z4 : n0 ≤ T4.heap.size := by rw [e4q]; exact Z3
  have Kq4 : Keep T3.heap T4.heap [] := by rw [e4q]; exact Keep.refl _ _
  obtain ⟨fs, hr, hrun, hended, hW, hsame⟩ := X4.leave (v := some (.int (1 : Int32))) (fun h => by rw [Bd.returns] at h; cases h) Bd.notSynchronized
  refine ⟨_, _, pre0 _ ?_, hrun, hended, _, _, rfl, ?_, ⟨_, rfl⟩, hW, hsame.mono (by decide) (by decide)⟩
  · show Steps p.tables e below (s₁.setTop (mkF m 0 #[.val (.int p1), .val (.int p2), .unset, .unset, .unset] [])) _
    refine XS.iloadN X0.here hx rfl (hb hby at_0) rfl ?_
    show Steps p.tables e below (s₁.setTop (mkF m 1 #[.val (.int p1), .val (.int p2), .unset, .unset, .unset] [(.int p2)])) _
    refine XS.iconst X0.here hx rfl (hb hby at_1) ?_
    show Steps p.tables e below (s₁.setTop (mkF m 2 #[.val (.int p1), .val (.int p2), .unset, .unset, .unset] [(.int (3 : Int32)), (.int p2)])) _
    refine XS.iand X0.here hx rfl (hb hby at_2) rfl ?_
    show Steps p.tables e below (s₁.setTop (mkF m 3 #[.val (.int p1), .val (.int p2), .unset, .unset, .unset] [(.int (p2 &&& (3 : Int32)))])) _
    refine XS.istoreN X0.here hx rfl (hb hby at_3) rfl (l' := #[.val (.int p1), .val (.int p2), .val (.int (p2 &&& (3 : Int32))), .unset, .unset]) rfl ?_
    show Steps p.tables e below (s₁.setTop (mkF m 4 #[.val (.int p1), .val (.int p2), .val (.int (p2 &&& (3 : Int32))), .unset, .unset] [])) _
    refine XS.iloadN X0.here hx rfl (hb hby at_4) rfl ?_
    show Steps p.tables e below (s₁.setTop (mkF m 5 #[.val (.int p1), .val (.int p2), .val (.int (p2 &&& (3 : Int32))), .unset, .unset] [(.int (p2 &&& (3 : Int32)))])) _
    refine XS.ifYes X0.here hx rfl (pc0 := 5) (pc' := 13) rfl (hb hby at_5) rfl ((if0 _ _).trans (feq hc5).2) (by decide) (by decide) ?_
    show Steps p.tables e below (s₁.setTop (mkF m 13 #[.val (.int p1), .val (.int p2), .val (.int (p2 &&& (3 : Int32))), .unset, .unset] [])) _
    refine XS.iloadN X0.here hx rfl (hb hby at_13) rfl ?_
    show Steps p.tables e below (s₁.setTop (mkF m 14 #[.val (.int p1), .val (.int p2), .val (.int (p2 &&& (3 : Int32))), .unset, .unset] [(.int (p2 &&& (3 : Int32)))])) _
    refine XS.iconst X0.here hx rfl (hb hby at_14) ?_
    show Steps p.tables e below (s₁.setTop (mkF m 15 #[.val (.int p1), .val (.int p2), .val (.int (p2 &&& (3 : Int32))), .unset, .unset] [(.int (1 : Int32)), (.int (p2 &&& (3 : Int32)))])) _
    refine XS.icmpYes X0.here hx rfl (pc0 := 15) (pc' := 27) rfl (hb hby at_15) rfl (feq hc15).2 (by decide) (by decide) ?_
    show Steps p.tables e below (s₁.setTop (mkF m 27 #[.val (.int p1), .val (.int p2), .val (.int (p2 &&& (3 : Int32))), .unset, .unset] [])) _
    refine XS.iloadN X0.here hx rfl (hb hby at_27) rfl ?_
    show Steps p.tables e below (s₁.setTop (mkF m 28 #[.val (.int p1), .val (.int p2), .val (.int (p2 &&& (3 : Int32))), .unset, .unset] [(.int (p2 &&& (3 : Int32)))])) _
    refine XS.iconst X0.here hx rfl (hb hby at_28) ?_
    show Steps p.tables e below (s₁.setTop (mkF m 29 #[.val (.int p1), .val (.int p2), .val (.int (p2 &&& (3 : Int32))), .unset, .unset] [(.int (2 : Int32)), (.int (p2 &&& (3 : Int32)))])) _
    refine XS.icmpYes X0.here hx rfl (pc0 := 29) (pc' := 40) rfl (hb hby at_29) rfl (feq hc29).2 (by decide) (by decide) ?_
    show Steps p.tables e below (s₁.setTop (mkF m 40 #[.val (.int p1), .val (.int p2), .val (.int (p2 &&& (3 : Int32))), .unset, .unset] [])) _
    refine XS.iloadN X0.here hx rfl (hb hby at_40) rfl ?_
    show Steps p.tables e below (s₁.setTop (mkF m 41 #[.val (.int p1), .val (.int p2), .val (.int (p2 &&& (3 : Int32))), .unset, .unset] [(.int p1)])) _
    refine X0.ldcInt hx hown (mvT hZ (hw _ (List.mem_of_getElem? (i := 0) rfl))) (g := (mkF m 41 #[.val (.int p1), .val (.int p2), .val (.int (p2 &&& (3 : Int32))), .unset, .unset] [(.int p1)])) rfl (hb hby at_41) _ ?_
    show Steps p.tables e below (s₁.setTop (mkF m 43 #[.val (.int p1), .val (.int p2), .val (.int (p2 &&& (3 : Int32))), .unset, .unset] [(.int (1048575 : Int32)), (.int p1)])) _
    refine XS.iand X0.here hx rfl (hb hby at_43) rfl ?_
    show Steps p.tables e below (s₁.setTop (mkF m 44 #[.val (.int p1), .val (.int p2), .val (.int (p2 &&& (3 : Int32))), .unset, .unset] [(.int (p1 &&& (1048575 : Int32)))])) _
    refine XS.istoreN X0.here hx rfl (hb hby at_44) rfl (l' := #[.val (.int p1), .val (.int p2), .val (.int (p2 &&& (3 : Int32))), .val (.int (p1 &&& (1048575 : Int32))), .unset]) rfl ?_
    show Steps p.tables e below (s₁.setTop (mkF m 45 #[.val (.int p1), .val (.int p2), .val (.int (p2 &&& (3 : Int32))), .val (.int (p1 &&& (1048575 : Int32))), .unset] [])) _
    refine XS.iloadN X0.here hx rfl (hb hby at_45) rfl ?_
    show Steps p.tables e below (s₁.setTop (mkF m 46 #[.val (.int p1), .val (.int p2), .val (.int (p2 &&& (3 : Int32))), .val (.int (p1 &&& (1048575 : Int32))), .unset] [(.int (p1 &&& (1048575 : Int32)))])) _
    refine st3 _ ?_
    show Steps p.tables e below (T3.setTop (mkF m 49 #[.val (.int p1), .val (.int p2), .val (.int (p2 &&& (3 : Int32))), .val (.int (p1 &&& (1048575 : Int32))), .unset] [(.int (F1_0 (p1 &&& (1048575 : Int32))))])) _
    refine XS.istore X3.here hx rfl (hb hby at_49) rfl (l' := #[.val (.int p1), .val (.int p2), .val (.int (p2 &&& (3 : Int32))), .val (.int (p1 &&& (1048575 : Int32))), .val (.int (F1_0 (p1 &&& (1048575 : Int32))))]) rfl ?_
    show Steps p.tables e below (T3.setTop (mkF m 51 #[.val (.int p1), .val (.int p2), .val (.int (p2 &&& (3 : Int32))), .val (.int (p1 &&& (1048575 : Int32))), .val (.int (F1_0 (p1 &&& (1048575 : Int32))))] [])) _
    refine XS.iload X3.here hx rfl (hb hby at_51) rfl ?_
    show Steps p.tables e below (T3.setTop (mkF m 53 #[.val (.int p1), .val (.int p2), .val (.int (p2 &&& (3 : Int32))), .val (.int (p1 &&& (1048575 : Int32))), .val (.int (F1_0 (p1 &&& (1048575 : Int32))))] [(.int (F1_0 (p1 &&& (1048575 : Int32))))])) _
    refine XS.iloadN X3.here hx rfl (hb hby at_53) rfl ?_
    show Steps p.tables e below (T3.setTop (mkF m 54 #[.val (.int p1), .val (.int p2), .val (.int (p2 &&& (3 : Int32))), .val (.int (p1 &&& (1048575 : Int32))), .val (.int (F1_0 (p1 &&& (1048575 : Int32))))] [(.int (p1 &&& (1048575 : Int32))), (.int (F1_0 (p1 &&& (1048575 : Int32))))])) _
    refine st4 _ ?_
    show Steps p.tables e below (T4.setTop (mkF m 57 #[.val (.int p1), .val (.int p2), .val (.int (p2 &&& (3 : Int32))), .val (.int (p1 &&& (1048575 : Int32))), .val (.int (F1_0 (p1 &&& (1048575 : Int32))))] [(.int (F2_0 (p1 &&& (1048575 : Int32)))), (.int (F1_0 (p1 &&& (1048575 : Int32))))])) _
    refine XS.icmpYes X4.here hx rfl (pc0 := 57) (pc' := 62) rfl (hb hby at_57) rfl (teq hk57).1 (by decide) (by decide) ?_
    show Steps p.tables e below (T4.setTop (mkF m 62 #[.val (.int p1), .val (.int p2), .val (.int (p2 &&& (3 : Int32))), .val (.int (p1 &&& (1048575 : Int32))), .val (.int (F1_0 (p1 &&& (1048575 : Int32))))] [])) _
    refine XS.iload X4.here hx rfl (hb hby at_62) rfl ?_
    show Steps p.tables e below (T4.setTop (mkF m 64 #[.val (.int p1), .val (.int p2), .val (.int (p2 &&& (3 : Int32))), .val (.int (p1 &&& (1048575 : Int32))), .val (.int (F1_0 (p1 &&& (1048575 : Int32))))] [(.int (F1_0 (p1 &&& (1048575 : Int32))))])) _
    refine XS.ifYes X4.here hx rfl (pc0 := 64) (pc' := 76) rfl (hb hby at_64) rfl ((if0 _ _).trans (teq hk64).1) (by decide) (by decide) ?_
    show Steps p.tables e below (T4.setTop (mkF m 76 #[.val (.int p1), .val (.int p2), .val (.int (p2 &&& (3 : Int32))), .val (.int (p1 &&& (1048575 : Int32))), .val (.int (F1_0 (p1 &&& (1048575 : Int32))))] [])) _
    refine XS.iconst X4.here hx rfl (hb hby at_76) ?_
    show Steps p.tables e below (T4.setTop (mkF m 77 #[.val (.int p1), .val (.int p2), .val (.int (p2 &&& (3 : Int32))), .val (.int (p1 &&& (1048575 : Int32))), .val (.int (F1_0 (p1 &&& (1048575 : Int32))))] [(.int (1 : Int32))])) _
    exact retN X4 hx (t := .boolean) Bd.returns (by simp) (hb hby at_77) hr
  · show Q0 Z p1 p2 h0 n0 _ T4.heap _
    exact ⟨rfl, N4⟩
set_option maxRecDepth 65536 in
set_option maxHeartbeats 40000000 in
theorem rm0_ttttft (l : Launch) (Z : State) (a0 : Array Value) (hw : ∀ d ∈ tables_1, d.before a0 Z = true) (ws : List Jvm.Cond) (p1 : Int32) (p2 : Int32) (h0 : Heap) (n0 : Nat) (Z0 : n0 ≤ h0.size) (hc5 : ¬ ((p2 &&& (3 : Int32)) = (0 : Int32))) (hc15 : ¬ ((p2 &&& (3 : Int32)) = (1 : Int32))) (hc29 : ¬ ((p2 &&& (3 : Int32)) = (2 : Int32))) (hk57 : (F1_0 (p1 &&& (1048575 : Int32))) = (F2_0 (p1 &&& (1048575 : Int32)))) (hk64 : ¬ ((F1_0 (p1 &&& (1048575 : Int32))) = (0 : Int32))) (hk71 : ¬ ((F3_0 (p1 &&& (1048575 : Int32))) = (0 : Int32))) :
    MetFree l x (head1 (Jvm.Cond.code x code maxLocals ret :: ws) room_1) (fun a U => a = #[(.int p1), (.int p2)] ∧ Z.Warmed39 U.vm ∧ U.heap = h0) (fun _ _ _ _ _ => True) (fun _ U o U' => ∃ v L, o = .returned v ∧ Q0 Z p1 p2 h0 n0 v U'.heap L ∧ FrameEnd U o U' L room_1.cells room_1.slots) := by
  refine MetFree.of_bodySF (plainFor_of_name pn_0) hisR ?_
  intro p e s m args below meth c s₁ Bd hml0 hP hK
  obtain ⟨rfl, hZ, hh⟩ := hP
  have hx := Bd.exec
  have hby := Bd.bytes
  have hml : c.maxLocals = 5 := hml0
  have hown : s.vm.findClass "com/example/nestdb/nestdb/xml/XmlCharsIsNameStartCharPinLaw" = some m.cls := findClass_of_methodNamed Bd.named
  have hnm := (name_of_methodNamed Bd.named Bd.method).1
  have X0 : Stand p l e room_1 s m #[(.int p1), (.int p2)] below meth c s₁ [] 0 0 := Stand.of_body Bd
  have e0 : s₁.heap = h0 := by rw [← hh, Bd.state]; rfl
  have N0 := Fr.nil n0
  have pre0 : ∀ t, Steps p.tables e below (s₁.setTop (mkF m 0 #[.val (.int p1), .val (.int p2), .unset, .unset, .unset] [])) t → Steps p.tables e below (s₁.setTop (entryFrame m #[(.int p1), (.int p2)] maxLocals)) t := fun t k => castTop (ef_0 m p1 p2) k
  obtain ⟨_, _, ⟨T3, L3, k3, n3⟩, -, X3, ⟨Lc3, hQ3, l3, y3, z3⟩, st3⟩ := Jvm.LawKit.callS X0 hx (y := (⟨"com/example/nestdb/nestdb/xml/XmlChars", "isNameStartChar", "(I)Z"⟩ : MethodName)) hown (mvT hZ (hw _ (List.mem_of_getElem? (i := 1) rfl))) (mvT hZ (hw _ (List.mem_of_getElem? (i := 2) rfl))) (mvT hZ (hw _ (List.mem_of_getElem? (i := 3) rfl))) (mvT hZ (hw _ (List.mem_of_getElem? (i := 4) rfl))) (by decide) (backOf (W := 0) (rm1 l Z a0 hw [] (p1 &&& (1048575 : Int32))  h0 n0 Z0) hZ (hw _ (List.mem_of_getElem? (i := 4) rfl)) (hw _ (List.mem_of_getElem? (i := 3) rfl)) (by decide) (by decide)) (g := (mkF m 46 #[.val (.int p1), .val (.int p2), .val (.int (p2 &&& (3 : Int32))), .val (.int (p1 &&& (1048575 : Int32))), .unset] [(.int (p1 &&& (1048575 : Int32)))])) rfl (by rw [hml]; rfl) (argsL := [(.int (p1 &&& (1048575 : Int32)))]) (rest := []) (lenOf pd_0_0 rfl) rfl (by show 2 * 0 + _ ≤ _; exact Nat.le_of_eq rfl) (hb hby at_46) (fun _ _ => ⟨rfl, e0, (by decide : 0 + 0 ≤ _), (by decide : 0 + 0 ≤ _)⟩)
  dsimp only [Pt.U, Pt.locs, Pt.cells, Pt.slots] at X3 l3 y3 z3 st3 hQ3
  subst l3 y3 z3
  obtain ⟨rfl, N3q, e3q⟩ := hQ3
  have N3 := Fr.app N0 N3q
  have Z3 : n0 ≤ T3.heap.size := by rw [e3q]; exact Z0
  have Kq3 : Keep h0 T3.heap [] := by rw [e3q]; exact Keep.refl _ _
  obtain ⟨_, _, ⟨T4, L4, k4, n4⟩, -, X4, ⟨Lc4, hQ4, l4, y4, z4⟩, st4⟩ := Jvm.LawKit.callS X3 hx (y := (⟨"com/example/nestdb/nestdb/xml/XmlCharsIsNameStartCharPinLaw", "ref", "(I)Z"⟩ : MethodName)) hown (mvT hZ (hw _ (List.mem_of_getElem? (i := 8) rfl))) (mvT hZ (hw _ (List.mem_of_getElem? (i := 9) rfl))) (mvT hZ (hw _ (List.mem_of_getElem? (i := 10) rfl))) (mvT hZ (hw _ (List.mem_of_getElem? (i := 11) rfl))) (by decide) (backOf (W := 1) (rm2 l Z a0 hw [] (p1 &&& (1048575 : Int32))  T3.heap n0 Z3) hZ (hw _ (List.mem_of_getElem? (i := 11) rfl)) (hw _ (List.mem_of_getElem? (i := 10) rfl)) (by decide) (by decide)) (g := (mkF m 54 #[.val (.int p1), .val (.int p2), .val (.int (p2 &&& (3 : Int32))), .val (.int (p1 &&& (1048575 : Int32))), .val (.int (F1_0 (p1 &&& (1048575 : Int32))))] [(.int (p1 &&& (1048575 : Int32))), (.int (F1_0 (p1 &&& (1048575 : Int32))))])) rfl (by rw [hml]; rfl) (argsL := [(.int (p1 &&& (1048575 : Int32)))]) (rest := [(.int (F1_0 (p1 &&& (1048575 : Int32))))]) (lenOf pd_0_0 rfl) rfl (by show 2 * 0 + _ ≤ _; exact Nat.le_of_eq rfl) (hb hby at_54) (fun _ _ => ⟨rfl, rfl, (by decide : 0 + 0 ≤ _), (by decide : 0 + 0 ≤ _)⟩)
  dsimp only [Pt.U, Pt.locs, Pt.cells, Pt.slots] at X4 l4 y4 z4 st4 hQ4
  subst l4 y4 z4
  obtain ⟨rfl, N4q, e4q⟩ := hQ4
  have N4 := Fr.app N3 N4q
  have Z4 : n0 ≤ T4.heap.size := by rw [e4q]; exact Z3
  have Kq4 : Keep T3.heap T4.heap [] := by rw [e4q]; exact Keep.refl _ _
  obtain ⟨_, _, ⟨T5, L5, k5, n5⟩, -, X5, ⟨Lc5, hQ5, l5, y5, z5⟩, st5⟩ := Jvm.LawKit.callS X4 hx (y := (⟨"com/example/nestdb/nestdb/xml/XmlChars", "isChar", "(I)Z"⟩ : MethodName)) hown (mvT hZ (hw _ (List.mem_of_getElem? (i := 17) rfl))) (mvT hZ (hw _ (List.mem_of_getElem? (i := 18) rfl))) (mvT hZ (hw _ (List.mem_of_getElem? (i := 3) rfl))) (mvT hZ (hw _ (List.mem_of_getElem? (i := 19) rfl))) (by decide) (backOf (W := 0) (rm3 l Z a0 hw [] (p1 &&& (1048575 : Int32))  T4.heap n0 Z4) hZ (hw _ (List.mem_of_getElem? (i := 19) rfl)) (hw _ (List.mem_of_getElem? (i := 3) rfl)) (by decide) (by decide)) (g := (mkF m 68 #[.val (.int p1), .val (.int p2), .val (.int (p2 &&& (3 : Int32))), .val (.int (p1 &&& (1048575 : Int32))), .val (.int (F1_0 (p1 &&& (1048575 : Int32))))] [(.int (p1 &&& (1048575 : Int32)))])) rfl (by rw [hml]; rfl) (argsL := [(.int (p1 &&& (1048575 : Int32)))]) (rest := []) (lenOf pd_0_0 rfl) rfl (by show 2 * 0 + _ ≤ _; exact Nat.le_of_eq rfl) (hb hby at_68) (fun _ _ => ⟨rfl, rfl, (by decide : 0 + 0 ≤ _), (by decide : 0 + 0 ≤ _)⟩)
  dsimp only [Pt.U, Pt.locs, Pt.cells, Pt.slots] at X5 l5 y5 z5 st5 hQ5
  subst l5 y5 z5
  obtain ⟨rfl, N5q, e5q⟩ := hQ5
  have N5 := Fr.app N4 N5q
  have Z5 : n0 ≤ T5.heap.size := by rw [e5q]; exact Z4
  have Kq5 : Keep T4.heap T5.heap [] := by rw [e5q]; exact Keep.refl _ _
  obtain ⟨fs, hr, hrun, hended, hW, hsame⟩ := X5.leave (v := some (.int (1 : Int32))) (fun h => by rw [Bd.returns] at h; cases h) Bd.notSynchronized
  refine ⟨_, _, pre0 _ ?_, hrun, hended, _, _, rfl, ?_, ⟨_, rfl⟩, hW, hsame.mono (by decide) (by decide)⟩
  · show Steps p.tables e below (s₁.setTop (mkF m 0 #[.val (.int p1), .val (.int p2), .unset, .unset, .unset] [])) _
    refine XS.iloadN X0.here hx rfl (hb hby at_0) rfl ?_
    show Steps p.tables e below (s₁.setTop (mkF m 1 #[.val (.int p1), .val (.int p2), .unset, .unset, .unset] [(.int p2)])) _
    refine XS.iconst X0.here hx rfl (hb hby at_1) ?_
    show Steps p.tables e below (s₁.setTop (mkF m 2 #[.val (.int p1), .val (.int p2), .unset, .unset, .unset] [(.int (3 : Int32)), (.int p2)])) _
    refine XS.iand X0.here hx rfl (hb hby at_2) rfl ?_
    show Steps p.tables e below (s₁.setTop (mkF m 3 #[.val (.int p1), .val (.int p2), .unset, .unset, .unset] [(.int (p2 &&& (3 : Int32)))])) _
    refine XS.istoreN X0.here hx rfl (hb hby at_3) rfl (l' := #[.val (.int p1), .val (.int p2), .val (.int (p2 &&& (3 : Int32))), .unset, .unset]) rfl ?_
    show Steps p.tables e below (s₁.setTop (mkF m 4 #[.val (.int p1), .val (.int p2), .val (.int (p2 &&& (3 : Int32))), .unset, .unset] [])) _
    refine XS.iloadN X0.here hx rfl (hb hby at_4) rfl ?_
    show Steps p.tables e below (s₁.setTop (mkF m 5 #[.val (.int p1), .val (.int p2), .val (.int (p2 &&& (3 : Int32))), .unset, .unset] [(.int (p2 &&& (3 : Int32)))])) _
    refine XS.ifYes X0.here hx rfl (pc0 := 5) (pc' := 13) rfl (hb hby at_5) rfl ((if0 _ _).trans (feq hc5).2) (by decide) (by decide) ?_
    show Steps p.tables e below (s₁.setTop (mkF m 13 #[.val (.int p1), .val (.int p2), .val (.int (p2 &&& (3 : Int32))), .unset, .unset] [])) _
    refine XS.iloadN X0.here hx rfl (hb hby at_13) rfl ?_
    show Steps p.tables e below (s₁.setTop (mkF m 14 #[.val (.int p1), .val (.int p2), .val (.int (p2 &&& (3 : Int32))), .unset, .unset] [(.int (p2 &&& (3 : Int32)))])) _
    refine XS.iconst X0.here hx rfl (hb hby at_14) ?_
    show Steps p.tables e below (s₁.setTop (mkF m 15 #[.val (.int p1), .val (.int p2), .val (.int (p2 &&& (3 : Int32))), .unset, .unset] [(.int (1 : Int32)), (.int (p2 &&& (3 : Int32)))])) _
    refine XS.icmpYes X0.here hx rfl (pc0 := 15) (pc' := 27) rfl (hb hby at_15) rfl (feq hc15).2 (by decide) (by decide) ?_
    show Steps p.tables e below (s₁.setTop (mkF m 27 #[.val (.int p1), .val (.int p2), .val (.int (p2 &&& (3 : Int32))), .unset, .unset] [])) _
    refine XS.iloadN X0.here hx rfl (hb hby at_27) rfl ?_
    show Steps p.tables e below (s₁.setTop (mkF m 28 #[.val (.int p1), .val (.int p2), .val (.int (p2 &&& (3 : Int32))), .unset, .unset] [(.int (p2 &&& (3 : Int32)))])) _
    refine XS.iconst X0.here hx rfl (hb hby at_28) ?_
    show Steps p.tables e below (s₁.setTop (mkF m 29 #[.val (.int p1), .val (.int p2), .val (.int (p2 &&& (3 : Int32))), .unset, .unset] [(.int (2 : Int32)), (.int (p2 &&& (3 : Int32)))])) _
    refine XS.icmpYes X0.here hx rfl (pc0 := 29) (pc' := 40) rfl (hb hby at_29) rfl (feq hc29).2 (by decide) (by decide) ?_
    show Steps p.tables e below (s₁.setTop (mkF m 40 #[.val (.int p1), .val (.int p2), .val (.int (p2 &&& (3 : Int32))), .unset, .unset] [])) _
    refine XS.iloadN X0.here hx rfl (hb hby at_40) rfl ?_
    show Steps p.tables e below (s₁.setTop (mkF m 41 #[.val (.int p1), .val (.int p2), .val (.int (p2 &&& (3 : Int32))), .unset, .unset] [(.int p1)])) _
    refine X0.ldcInt hx hown (mvT hZ (hw _ (List.mem_of_getElem? (i := 0) rfl))) (g := (mkF m 41 #[.val (.int p1), .val (.int p2), .val (.int (p2 &&& (3 : Int32))), .unset, .unset] [(.int p1)])) rfl (hb hby at_41) _ ?_
    show Steps p.tables e below (s₁.setTop (mkF m 43 #[.val (.int p1), .val (.int p2), .val (.int (p2 &&& (3 : Int32))), .unset, .unset] [(.int (1048575 : Int32)), (.int p1)])) _
    refine XS.iand X0.here hx rfl (hb hby at_43) rfl ?_
    show Steps p.tables e below (s₁.setTop (mkF m 44 #[.val (.int p1), .val (.int p2), .val (.int (p2 &&& (3 : Int32))), .unset, .unset] [(.int (p1 &&& (1048575 : Int32)))])) _
    refine XS.istoreN X0.here hx rfl (hb hby at_44) rfl (l' := #[.val (.int p1), .val (.int p2), .val (.int (p2 &&& (3 : Int32))), .val (.int (p1 &&& (1048575 : Int32))), .unset]) rfl ?_
    show Steps p.tables e below (s₁.setTop (mkF m 45 #[.val (.int p1), .val (.int p2), .val (.int (p2 &&& (3 : Int32))), .val (.int (p1 &&& (1048575 : Int32))), .unset] [])) _
    refine XS.iloadN X0.here hx rfl (hb hby at_45) rfl ?_
    show Steps p.tables e below (s₁.setTop (mkF m 46 #[.val (.int p1), .val (.int p2), .val (.int (p2 &&& (3 : Int32))), .val (.int (p1 &&& (1048575 : Int32))), .unset] [(.int (p1 &&& (1048575 : Int32)))])) _
    refine st3 _ ?_
    show Steps p.tables e below (T3.setTop (mkF m 49 #[.val (.int p1), .val (.int p2), .val (.int (p2 &&& (3 : Int32))), .val (.int (p1 &&& (1048575 : Int32))), .unset] [(.int (F1_0 (p1 &&& (1048575 : Int32))))])) _
    refine XS.istore X3.here hx rfl (hb hby at_49) rfl (l' := #[.val (.int p1), .val (.int p2), .val (.int (p2 &&& (3 : Int32))), .val (.int (p1 &&& (1048575 : Int32))), .val (.int (F1_0 (p1 &&& (1048575 : Int32))))]) rfl ?_
    show Steps p.tables e below (T3.setTop (mkF m 51 #[.val (.int p1), .val (.int p2), .val (.int (p2 &&& (3 : Int32))), .val (.int (p1 &&& (1048575 : Int32))), .val (.int (F1_0 (p1 &&& (1048575 : Int32))))] [])) _
    refine XS.iload X3.here hx rfl (hb hby at_51) rfl ?_
    show Steps p.tables e below (T3.setTop (mkF m 53 #[.val (.int p1), .val (.int p2), .val (.int (p2 &&& (3 : Int32))), .val (.int (p1 &&& (1048575 : Int32))), .val (.int (F1_0 (p1 &&& (1048575 : Int32))))] [(.int (F1_0 (p1 &&& (1048575 : Int32))))])) _
    refine XS.iloadN X3.here hx rfl (hb hby at_53) rfl ?_
    show Steps p.tables e below (T3.setTop (mkF m 54 #[.val (.int p1), .val (.int p2), .val (.int (p2 &&& (3 : Int32))), .val (.int (p1 &&& (1048575 : Int32))), .val (.int (F1_0 (p1 &&& (1048575 : Int32))))] [(.int (p1 &&& (1048575 : Int32))), (.int (F1_0 (p1 &&& (1048575 : Int32))))])) _
    refine st4 _ ?_
    show Steps p.tables e below (T4.setTop (mkF m 57 #[.val (.int p1), .val (.int p2), .val (.int (p2 &&& (3 : Int32))), .val (.int (p1 &&& (1048575 : Int32))), .val (.int (F1_0 (p1 &&& (1048575 : Int32))))] [(.int (F2_0 (p1 &&& (1048575 : Int32)))), (.int (F1_0 (p1 &&& (1048575 : Int32))))])) _
    refine XS.icmpYes X4.here hx rfl (pc0 := 57) (pc' := 62) rfl (hb hby at_57) rfl (teq hk57).1 (by decide) (by decide) ?_
    show Steps p.tables e below (T4.setTop (mkF m 62 #[.val (.int p1), .val (.int p2), .val (.int (p2 &&& (3 : Int32))), .val (.int (p1 &&& (1048575 : Int32))), .val (.int (F1_0 (p1 &&& (1048575 : Int32))))] [])) _
    refine XS.iload X4.here hx rfl (hb hby at_62) rfl ?_
    show Steps p.tables e below (T4.setTop (mkF m 64 #[.val (.int p1), .val (.int p2), .val (.int (p2 &&& (3 : Int32))), .val (.int (p1 &&& (1048575 : Int32))), .val (.int (F1_0 (p1 &&& (1048575 : Int32))))] [(.int (F1_0 (p1 &&& (1048575 : Int32))))])) _
    refine XS.ifNo X4.here hx rfl (hb hby at_64) rfl ((if0 _ _).trans (feq hk64).1) ?_
    show Steps p.tables e below (T4.setTop (mkF m 67 #[.val (.int p1), .val (.int p2), .val (.int (p2 &&& (3 : Int32))), .val (.int (p1 &&& (1048575 : Int32))), .val (.int (F1_0 (p1 &&& (1048575 : Int32))))] [])) _
    refine XS.iloadN X4.here hx rfl (hb hby at_67) rfl ?_
    show Steps p.tables e below (T4.setTop (mkF m 68 #[.val (.int p1), .val (.int p2), .val (.int (p2 &&& (3 : Int32))), .val (.int (p1 &&& (1048575 : Int32))), .val (.int (F1_0 (p1 &&& (1048575 : Int32))))] [(.int (p1 &&& (1048575 : Int32)))])) _
    refine st5 _ ?_
    show Steps p.tables e below (T5.setTop (mkF m 71 #[.val (.int p1), .val (.int p2), .val (.int (p2 &&& (3 : Int32))), .val (.int (p1 &&& (1048575 : Int32))), .val (.int (F1_0 (p1 &&& (1048575 : Int32))))] [(.int (F3_0 (p1 &&& (1048575 : Int32))))])) _
    refine XS.ifYes X5.here hx rfl (pc0 := 71) (pc' := 76) rfl (hb hby at_71) rfl ((if0 _ _).trans (feq hk71).2) (by decide) (by decide) ?_
    show Steps p.tables e below (T5.setTop (mkF m 76 #[.val (.int p1), .val (.int p2), .val (.int (p2 &&& (3 : Int32))), .val (.int (p1 &&& (1048575 : Int32))), .val (.int (F1_0 (p1 &&& (1048575 : Int32))))] [])) _
    refine XS.iconst X5.here hx rfl (hb hby at_76) ?_
    show Steps p.tables e below (T5.setTop (mkF m 77 #[.val (.int p1), .val (.int p2), .val (.int (p2 &&& (3 : Int32))), .val (.int (p1 &&& (1048575 : Int32))), .val (.int (F1_0 (p1 &&& (1048575 : Int32))))] [(.int (1 : Int32))])) _
    exact retN X5 hx (t := .boolean) Bd.returns (by simp) (hb hby at_77) hr
  · show Q0 Z p1 p2 h0 n0 _ T5.heap _
    exact ⟨rfl, N5⟩
theorem own_same (c : Int32) : F1_0 c = F2_0 c := by
  rw [own_F1_0, own_F2_0]
theorem own_char (c : Int32) (h : ¬ F1_0 c = 0) : ¬ F3_0 c = 0 := by
  rw [own_F1_0] at h
  rw [own_F3_0]
  split at h
  · rw [if_pos (by omega)]; decide
  · exact absurd rfl h
theorem rm0 (l : Launch) (Z : State) (a0 : Array Value) (hw : ∀ d ∈ tables_1, d.before a0 Z = true) (ws : List Jvm.Cond) (p1 : Int32) (p2 : Int32) (h0 : Heap) (n0 : Nat) (Z0 : n0 ≤ h0.size) :
    MetFree l x (head1 (Jvm.Cond.code x code maxLocals ret :: ws) room_1) (fun a U => a = #[(.int p1), (.int p2)] ∧ Z.Warmed39 U.vm ∧ U.heap = h0) (fun _ _ _ _ _ => True) (fun _ U o U' => ∃ v L, o = .returned v ∧ Q0 Z p1 p2 h0 n0 v U'.heap L ∧ FrameEnd U o U' L room_1.cells room_1.slots) := by
  by_cases a : (p2 &&& (3 : Int32)) = (0 : Int32)
  · by_cases z : F1_0 p1 = 0
    · exact rm0_ftt l Z a0 hw ws p1 p2 h0 n0 Z0 (hc5 := a) (hk57 := own_same _) (hk64 := z)
    · exact rm0_ftft l Z a0 hw ws p1 p2 h0 n0 Z0 (hc5 := a) (hk57 := own_same _) (hk64 := z) (hk71 := own_char _ z)
  by_cases b : (p2 &&& (3 : Int32)) = (1 : Int32)
  · by_cases z : F1_0 (p1 &&& (255 : Int32)) = 0
    · exact rm0_tftt l Z a0 hw ws p1 p2 h0 n0 Z0 (hc5 := a) (hc15 := b) (hk57 := own_same _) (hk64 := z)
    · exact rm0_tftft l Z a0 hw ws p1 p2 h0 n0 Z0 (hc5 := a) (hc15 := b) (hk57 := own_same _) (hk64 := z) (hk71 := own_char _ z)
  by_cases d : (p2 &&& (3 : Int32)) = (2 : Int32)
  · by_cases z : F1_0 (p1 &&& (65535 : Int32)) = 0
    · exact rm0_ttftt l Z a0 hw ws p1 p2 h0 n0 Z0 (hc5 := a) (hc15 := b) (hc29 := d) (hk57 := own_same _) (hk64 := z)
    · exact rm0_ttftft l Z a0 hw ws p1 p2 h0 n0 Z0 (hc5 := a) (hc15 := b) (hc29 := d) (hk57 := own_same _) (hk64 := z) (hk71 := own_char _ z)
  by_cases z : F1_0 (p1 &&& (1048575 : Int32)) = 0
  · exact rm0_ttttt l Z a0 hw ws p1 p2 h0 n0 Z0 (hc5 := a) (hc15 := b) (hc29 := d) (hk57 := own_same _) (hk64 := z)
  · exact rm0_ttttft l Z a0 hw ws p1 p2 h0 n0 Z0 (hc5 := a) (hc15 := b) (hc29 := d) (hk57 := own_same _) (hk64 := z) (hk71 := own_char _ z)
set_option maxRecDepth 65536 in
set_option maxHeartbeats 40000000 in
theorem comes_1 {Post : Tables → Env → Array Value → State → Outcome → State → Prop} (hpost : ∀ tb e args s v u, (limb_1_1.after args s (.returned v) u = true ∧ limb_1_2.after args s (.returned v) u = true ∧ True) → FrameEnd s (.returned v) u (Jvm.fieldLocs frame_1_writes args s ++ Jvm.arrayLocs frame_1_arrays args s ++ Jvm.staticLocs frame_1_statics s) 0 0 → Post tb e args s (.returned v) u) :
    ArmFor flags0 classFile x code maxLocals ret World_1 tables_1 room_1 Calls_1 rest_1 Pre_1 Post := by
  intro l hfl _ _ p e ha hc hk s m args below hf hA hF happ hP
  obtain ⟨hcalls, hrest, hpre⟩ := hP
  obtain ⟨-, -, -, hnamed, -, -, -, hat⟩ := (Spec.applies_iff hf).mp happ
  obtain ⟨hg, hn⟩ := and_e (Cond.before_iff.mp (show (Jvm.Cond.and given_1 narrow_1).before args s = true from hpre))
  obtain ⟨g6, g7⟩ := and_e hg
  obtain ⟨g8, g9⟩ := and_e g7
  obtain ⟨w0, w1, rfl⟩ : ∃ w0 w1 : Value, args = #[w0, w1] := by
    have hs : args.size = 2 := by simpa [Cond.value, given_1] using g6
    obtain ⟨L⟩ := args
    match L, hs with
    | [w0, w1], _ => exact ⟨w0, w1, rfl⟩
  have hw := fun d (hd : d ∈ tables_1) => atoms_spec (ws := Jvm.Cond.code x code maxLocals ret :: tables_1) hat d (List.mem_cons_of_mem _ hd)
  have hfit : Fit s := fun {y c} hc i hi => by
    obtain ⟨ha, rfl⟩ := Array.getElem?_eq_some_iff.mp hc
    have q := List.all_eq_true.mp ((Array.all_eq_true_iff_forall_mem.mp hF) _ (Array.getElem_mem ha)) i (List.mem_range.mpr hi)
    simpa [Array.getElem?_eq_getElem hi] using q
  obtain ⟨i0, ei0⟩ := is_v g8
  obtain rfl : w0 = (.int i0) := Option.some.inj ei0
  obtain ⟨i1, ei1⟩ := is_v g9
  obtain rfl : w1 = (.int i1) := Option.some.inj ei1
  obtain ⟨n, o, h1, h2, h3, _, L, rfl, ⟨rfl, N⟩, hq⟩ := rm0 l s _ hw tables_1 i0 i1 s.heap s.heap.size (Nat.le_refl _) p e ha hc hk s m _ below hf ((Spec.applies_iff_loose hf).mp happ).1 ⟨rfl, State.Warmed39.refl s, rfl⟩ trivial
  refine ⟨n, _, h1, h2, h3, hpost _ _ _ _ _ _ ⟨Cond.after_iff.mpr rfl, Cond.after_iff.mpr (eq_i res_at (Term.int_eval (1)) rfl), trivial⟩ ⟨hq.1, hq.2.1, (hq.2.2.sift fun y hy => Or.inr (N y hy)).mono (by decide) (by decide)⟩⟩
theorem main_1_1 : Claimed_1_1 := comes_1 fun _ _ _ _ _ _ h hF => ⟨h.1, hF⟩
theorem main_1_2 : Claimed_1_2 := comes_1 fun _ _ _ _ _ _ h hF => ⟨h.2.1, hF⟩

end Jvm.Pilot.@@N@@
namespace Jvm.Pilot.@@N@@
open Jvm Jvm.ClassFile Sem Op Lib Jvm.Free Jvm.Stand Jvm.Pilot.@@N@@.Jvm.D
/-! MADE BY PROGRAM (witnessworld.py) out of the Statement's table words and the real class files: 9 classes; the members and pool entries that the words name. The judged class is class 1, her method 2. -/
namespace start1
open Jvm.ClassFile
def u (s : String) : CpInfo := .utf8 (stringToUtf16 s)
/-- a pool by its gaps: so many unusable entries, then the entry; so many at the end -/
def gap : Nat → List CpInfo → List CpInfo
  | 0, r => r
  | n + 1, r => .unusable :: gap n r
def poolList (es : List (Nat × CpInfo)) (last : Nat) : List CpInfo := es.foldr (fun e r => gap e.1 (e.2 :: r)) (gap last [])
def pool (es : List (Nat × CpInfo)) (last : Nat) : Array CpInfo := ⟨poolList es last⟩
def fileOf (pool : Array CpInfo) (this : Nat) (attrs : Array Attribute := #[]) (ms : Array MethodInfo := #[]) (fl : Nat := 33) (sup : Nat := 0) (ifs : Array Nat := #[]) (fds : Array FieldInfo := #[]) : ClassFile where
  minorVersion := 0
  majorVersion := 65
  constantPool := pool
  accessFlags := fl
  thisClass := this
  superClass := sup
  interfaces := ifs
  fields := fds
  methods := ms
  attributes := attrs
def plain (name : String) (sup : Option ClassId) : Class where
  name := name
  kind := .ordinary
  loader := none
  accessFlags := 33
  super := sup
  interfaces := #[]
  cf := none
  fields := #[]
  methods := #[]
  instanceTypes := #[]
  staticTypes := #[]
  resolved := #[]
  callSites := []
  init := .initialized
  statics := none
  mirror := none

def pool0 : Array CpInfo := pool [(5, u "<init>"), (0, u "()V"), (1, .class_ 10), (1, u "java/lang/Object")] 113

def k0m0 : Method := { name := "<init>", desc := "()V", sig := { parameters := [], returnType := none }, accessFlags := 1, code := none }
/-- java/lang/Object -/
def k0 : Class := { plain "java/lang/Object" none with
  accessFlags := 33
  interfaces := #[]
  cf := some (fileOf pool0 8 #[] #[{ accessFlags := 1, nameIndex := 5, descriptorIndex := 6, attributes := #[] }] 33 0 #[] #[])
  fields := #[]
  methods := #[k0m0]
  instanceTypes := #[]
  staticTypes := #[]
  resolved := Array.replicate 124 none
  statics := none }

def pool1 : Array CpInfo := pool [(2, .class_ 4), (1, u "java/lang/Object"), (0, u "<init>"), (0, u "()V"), (0, .integer 983039), (0, .integer 55296), (0, .integer 63743), (0, .integer 64976), (0, .integer 65007), (0, .integer 65534), (0, .integer 65535), (0, .integer 1048575), (0, .methodref 16 17), (0, .class_ 18), (0, .nameAndType 19 20), (0, u "com/example/nestdb/nestdb/xml/XmlChars"), (0, u "isNameStartChar"), (0, u "(I)Z"), (0, .methodref 22 23), (0, .class_ 24), (0, .nameAndType 25 20), (0, u "com/example/nestdb/nestdb/xml/XmlCharsIsNameStartCharPinLaw"), (0, u "ref"), (0, .methodref 16 27), (0, .nameAndType 28 20), (0, u "isChar"), (3, u "law"), (0, u "(II)Z")] 2

def k1m0 : Method := { name := "<init>", desc := "()V", sig := { parameters := [], returnType := none }, accessFlags := 2, code := none }
def k1c1 : Code := { maxStack := 2, maxLocals := 1, code := method_2_code, exceptionTable := #[], attributes := #[] }
def k1m1 : Method := { name := "ref", desc := "(I)Z", sig := { parameters := [.int], returnType := some .boolean }, accessFlags := 10, code := some k1c1 }
def k1c2 : Code := { maxStack := 2, maxLocals := 5, code := code, exceptionTable := #[], attributes := #[] }
def k1m2 : Method := { name := "law", desc := "(II)Z", sig := { parameters := [.int, .int], returnType := some .boolean }, accessFlags := 9, code := some k1c2 }
/-- com/example/nestdb/nestdb/xml/XmlCharsIsNameStartCharPinLaw -/
def k1 : Class := { plain "com/example/nestdb/nestdb/xml/XmlCharsIsNameStartCharPinLaw" (some 0) with
  accessFlags := 49
  interfaces := #[]
  cf := some (fileOf pool1 22 #[] #[{ accessFlags := 2, nameIndex := 5, descriptorIndex := 6, attributes := #[] }, { accessFlags := 10, nameIndex := 25, descriptorIndex := 20, attributes := #[] }, { accessFlags := 9, nameIndex := 32, descriptorIndex := 33, attributes := #[] }] 49 2 #[] #[])
  fields := #[]
  methods := #[k1m0, k1m1, k1m2]
  instanceTypes := #[]
  staticTypes := #[]
  resolved := Array.replicate 36 none
  statics := none }

def pool2 : Array CpInfo := pool [(2, .class_ 4), (1, u "java/lang/Object"), (0, u "<init>"), (0, u "()V"), (0, .integer 55295), (0, .integer 57344), (0, .integer 65533), (0, .integer 65536), (0, .integer 1114111), (0, .integer 63744), (0, .integer 64975), (0, .integer 65008), (0, .integer 983039), (1, .class_ 19), (1, u "com/example/nestdb/nestdb/xml/XmlChars"), (0, u "isNameStartChar"), (0, u "(I)Z"), (10, u "isChar")] 6

def k2m0 : Method := { name := "<init>", desc := "()V", sig := { parameters := [], returnType := none }, accessFlags := 2, code := none }
def k2c1 : Code := { maxStack := 2, maxLocals := 1, code := prog_29_method_2_code, exceptionTable := #[], attributes := #[] }
def k2m1 : Method := { name := "isChar", desc := "(I)Z", sig := { parameters := [.int], returnType := some .boolean }, accessFlags := 9, code := some k2c1 }
def k2c2 : Code := { maxStack := 2, maxLocals := 1, code := prog_29_method_4_code, exceptionTable := #[], attributes := #[] }
def k2m2 : Method := { name := "isNameStartChar", desc := "(I)Z", sig := { parameters := [.int], returnType := some .boolean }, accessFlags := 9, code := some k2c2 }
/-- com/example/nestdb/nestdb/xml/XmlChars -/
def k2 : Class := { plain "com/example/nestdb/nestdb/xml/XmlChars" (some 0) with
  accessFlags := 33
  interfaces := #[]
  cf := some (fileOf pool2 17 #[] #[{ accessFlags := 2, nameIndex := 5, descriptorIndex := 6, attributes := #[] }, { accessFlags := 9, nameIndex := 32, descriptorIndex := 21, attributes := #[] }, { accessFlags := 9, nameIndex := 20, descriptorIndex := 21, attributes := #[] }] 33 2 #[] #[])
  fields := #[]
  methods := #[k2m0, k2m1, k2m2]
  instanceTypes := #[]
  staticTypes := #[]
  resolved := Array.replicate 39 none
  statics := none }

def pool3 : Array CpInfo := pool [(1, u "java/lang/Cloneable"), (0, .class_ 1), (0, u "java/lang/Object"), (0, .class_ 3)] 3

/-- java/lang/Cloneable -/
def k3 : Class := { plain "java/lang/Cloneable" (some 0) with
  accessFlags := 1537
  interfaces := #[]
  cf := some (fileOf pool3 2 #[] #[] 1537 4 #[] #[])
  fields := #[]
  methods := #[]
  instanceTypes := #[]
  staticTypes := #[]
  resolved := Array.replicate 8 none
  statics := none }

def pool4 : Array CpInfo := pool [(1, u "java/io/Serializable"), (0, .class_ 1), (0, u "java/lang/Object"), (0, .class_ 3)] 3

/-- java/io/Serializable -/
def k4 : Class := { plain "java/io/Serializable" (some 0) with
  accessFlags := 1537
  interfaces := #[]
  cf := some (fileOf pool4 2 #[] #[] 1537 4 #[] #[])
  fields := #[]
  methods := #[]
  instanceTypes := #[]
  staticTypes := #[]
  resolved := Array.replicate 8 none
  statics := none }

/-- the primitive byte -/
def k5 : Class := { plain "byte" none with kind := .primitive 'B', accessFlags := 0x411 }
/-- [B -/
def k6 : Class := { plain "[B" (some 0) with kind := .array 5 .byte, interfaces := #[3, 4], accessFlags := 1041 }

/-- the primitive int -/
def k7 : Class := { plain "int" none with kind := .primitive 'I', accessFlags := 0x411 }
/-- [I -/
def k8 : Class := { plain "[I" (some 0) with kind := .array 7 .int, interfaces := #[3, 4], accessFlags := 1041 }

def heap : Heap := #[]
def classes : Array Class := #[k0, k1, k2, k3, k4, k5, k6, k7, k8]
def interned : List (Array UInt16 × Addr) := []
def slotsUsed : Nat := 0
def theMethod : MethodId := ⟨1, 2⟩
def args0 : Array Value := #[.int 65, .int 0]
def aboutOver (below : List Frame) : State where
  vm := { classes := classes, interned := interned.toArray }
  heap := heap
  slotsUsed := slotsUsed
  threads := #[{ frames := .invoking theMethod args0 :: below }]
def below0 : List Frame := [.native { method := ⟨0, 0⟩, args := #[] }]
def about1 : State := aboutOver below0
def p0 : Program := .bare "" "" ""
def e0 : Env := launch0.env 0 0 0
theorem w_frames : about1.frames = Frame.invoking theMethod args0 :: below0 := rfl
set_option maxRecDepth 65536 in
theorem w_args : argsFit about1.vm theMethod args0 = true := by decide +kernel
set_option maxRecDepth 65536 in
theorem w_heap : heapFits about1 = true := by decide +kernel
set_option maxRecDepth 65536 in
theorem w_runnable : about1.curStatus? = some .runnable := by decide +kernel
set_option maxRecDepth 65536 in
theorem w_alone : about1.alone = true := by decide +kernel
set_option maxRecDepth 65536 in
theorem w_named : about1.methodNamed? x = some theMethod := by decide +kernel
set_option maxRecDepth 65536 in
theorem w_hears : about1.hears theMethod below0 = true := by decide +kernel
set_option maxRecDepth 65536 in
theorem w_ripe : about1.ripe theMethod args0 below0 = true := by decide +kernel
theorem w_running : about1.status = .running := rfl
set_option maxRecDepth 65536 in
theorem w_room : about1.hasRoom e0.platform room_1 = true :=
  launch0.hasRoom_least _ room_1 (by decide +kernel) (by decide +kernel) (by decide +kernel) (by decide +kernel) (by decide +kernel) (by decide +kernel)
theorem allAtoms_all (ts : List Jvm.Cond) (a : Array Jvm.Value) (st : Jvm.State) : (allAtoms ts).before a st = ts.all (fun c => c.before a st) := by
  induction ts with
  | nil => rfl
  | cons c t ih =>
    show (Jvm.Cond.and c (allAtoms t)).before a st = _
    rw [Jvm.Cond.before_and, ih, List.all_cons]
def words1 : List Jvm.Cond := Jvm.Cond.code x code maxLocals ret :: tables_1
/-- a 'code' word, met by the world's own term for the bytes: nothing is compared byte by byte -/
theorem code_word {y : MethodName} {bytes : ByteArray} {mx : Nat} {rt : Option FieldType} {a : Array Value} {s : State} {m : MethodId} {meth : Method} {c : Code} (h1 : s.methodNamed? y = some m) (h2 : s.vm.method? m = some meth) (h3 : meth.code = some c) (h4 : c.code = bytes)
    (h5 : (c.maxLocals == mx && c.exceptionTable.isEmpty && decide (c.maxStack ≤ mostOperands) && decide (meth.sig.returnType = rt) && !meth.locks && decide (parseMethodDescriptor y.desc = some meth.sig)) = true) : (Jvm.Cond.code y bytes mx rt).before a s = true := by
  simp only [Bool.and_eq_true, beq_iff_eq, Bool.not_eq_true', decide_eq_true_eq] at h5
  obtain ⟨⟨⟨⟨⟨g1, g2⟩, g3⟩, g4⟩, g5⟩, g6⟩ := h5
  simp [Cond.before, Cond.holds, Cond.value, h1, h2, h3, h4, g1, g2, g3, g4, g5, g6]
def isCode : Jvm.Cond → Bool
  | .code _ _ _ _ => true
  | _ => false
theorem all_split {L : List Jvm.Cond} {P : Jvm.Cond → Bool} (h1 : L.all (fun c => isCode c || P c) = true) (h2 : ∀ c ∈ L.filter isCode, P c = true) : L.all P = true := by
  refine List.all_eq_true.mpr fun c hc => ?_
  have h := List.all_eq_true.mp h1 c hc
  rcases Bool.eq_false_or_eq_true (isCode c) with hi | hi
  · exact h2 c (List.mem_filter.mpr ⟨hc, hi⟩)
  · simpa [hi] using h
set_option maxRecDepth 65536 in
theorem w_c0 : (Jvm.Cond.code x code maxLocals ret).before args0 about1 = true := code_word (m := ⟨1, 2⟩) (meth := k1m2) (c := k1c2) (by decide +kernel) rfl rfl rfl (by decide +kernel)
set_option maxRecDepth 65536 in
theorem w_c1 : (Jvm.Cond.code ({ cls := "com/example/nestdb/nestdb/xml/XmlChars", name := "isNameStartChar", desc := "(I)Z" } : Jvm.MethodName) prog_29_method_4_code (1 : Nat) (Option.some Jvm.ClassFile.FieldType.boolean)).before args0 about1 = true := code_word (m := ⟨2, 2⟩) (meth := k2m2) (c := k2c2) (by decide +kernel) rfl rfl rfl (by decide +kernel)
set_option maxRecDepth 65536 in
theorem w_c2 : (Jvm.Cond.code ({ cls := "com/example/nestdb/nestdb/xml/XmlCharsIsNameStartCharPinLaw", name := "ref", desc := "(I)Z" } : Jvm.MethodName) method_2_code (1 : Nat) (Option.some Jvm.ClassFile.FieldType.boolean)).before args0 about1 = true := code_word (m := ⟨1, 1⟩) (meth := k1m1) (c := k1c1) (by decide +kernel) rfl rfl rfl (by decide +kernel)
set_option maxRecDepth 65536 in
theorem w_c3 : (Jvm.Cond.code ({ cls := "com/example/nestdb/nestdb/xml/XmlChars", name := "isChar", desc := "(I)Z" } : Jvm.MethodName) prog_29_method_2_code (1 : Nat) (Option.some Jvm.ClassFile.FieldType.boolean)).before args0 about1 = true := code_word (m := ⟨2, 1⟩) (meth := k2m1) (c := k2c1) (by decide +kernel) rfl rfl rfl (by decide +kernel)
def codes1 : List Jvm.Cond := [Jvm.Cond.code x code maxLocals ret, Jvm.Cond.code ({ cls := "com/example/nestdb/nestdb/xml/XmlChars", name := "isNameStartChar", desc := "(I)Z" } : Jvm.MethodName) prog_29_method_4_code (1 : Nat) (Option.some Jvm.ClassFile.FieldType.boolean), Jvm.Cond.code ({ cls := "com/example/nestdb/nestdb/xml/XmlCharsIsNameStartCharPinLaw", name := "ref", desc := "(I)Z" } : Jvm.MethodName) method_2_code (1 : Nat) (Option.some Jvm.ClassFile.FieldType.boolean), Jvm.Cond.code ({ cls := "com/example/nestdb/nestdb/xml/XmlChars", name := "isChar", desc := "(I)Z" } : Jvm.MethodName) prog_29_method_2_code (1 : Nat) (Option.some Jvm.ClassFile.FieldType.boolean)]
set_option maxRecDepth 65536 in
theorem codes_eq : words1.filter isCode = codes1 := rfl
theorem w_codes : ∀ c ∈ words1.filter isCode, c.before args0 about1 = true := by
  rw [codes_eq]
  intro c hc
  simp only [codes1, List.mem_cons, List.not_mem_nil, or_false] at hc
  rcases hc with rfl | rfl | rfl | rfl
  · exact w_c0
  · exact w_c1
  · exact w_c2
  · exact w_c3
set_option maxRecDepth 65536 in
theorem w_t1 : (words1.take 24).all (fun c => isCode c || c.before args0 about1) = true := by decide +kernel
set_option maxRecDepth 65536 in
theorem w_t2 : (words1.drop 24).all (fun c => isCode c || c.before args0 about1) = true := by decide +kernel
theorem w_tables : (allAtoms (Jvm.Cond.code x code maxLocals ret :: tables_1)).before args0 about1 = true := by
  rw [allAtoms_all]
  show words1.all (fun c => c.before args0 about1) = true
  refine all_split ?_ w_codes
  rw [← List.take_append_drop 24 words1, List.all_append, w_t1, w_t2]
  rfl
set_option maxRecDepth 65536 in
theorem w_case : (Jvm.Cond.and given_1 narrow_1).before args0 about1 = true := by decide +kernel
theorem w_applies : (headSpec (Jvm.Cond.code x code maxLocals ret :: tables_1) room_1).applies x e0.platform about1 = true :=
  (Spec.applies_iff w_frames).mpr ⟨w_running, w_runnable, w_alone, w_named, w_hears, w_ripe, w_room, w_tables⟩
theorem atStart : AtStart classFile x code maxLocals ret World_1 tables_1 room_1 Calls_1 rest_1 Pre_1 launch0 p0 e0 about1 theMethod args0 below0 :=
  ⟨lists_1, trivial, launch0.admits_env _ _ _, launch0.least_env, fairChoices_fair.cas, fairChoices_fair.clock, w_frames, w_args, w_heap, w_applies, trivial, trivial, w_case⟩
end start1
theorem witness_1 : WitnessClaimed_1 := ⟨start1.p0, start1.e0, start1.about1, start1.theMethod, start1.args0, start1.below0, start1.atStart⟩
end Jvm.Pilot.@@N@@
