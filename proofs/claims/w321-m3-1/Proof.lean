import JvmDerived
import JvmDerived.Pilot.@@N@@Statement
import JvmDerived.Pilot.@@N@@Code
set_option linter.unusedVariables false
set_option linter.unusedSimpArgs false
@@BLOCK:NumsL.lean.txt@@
namespace Jvm.RoadKit
open Sem ClassFile Op Lib Jvm.Stand Jvm.Free Jvm.LawKit
section New
variable {p : Program} {l : Launch} {e : Env} {R : Room} {s : State} {m : MethodId} {args : Array Value} {below : List Frame} {meth : Method} {c : Code} {T : State} {locs : List Loc} {cells slots : Nat}
theorem retI (X : Stand p l e R s m args below meth c T locs cells slots) (hx : p.tables.exec = Jvm.exec) {pc : Nat} {Ls : Array Slot} {z : Int32} {rest : List Value} (hret : meth.sig.returnType = some .int) (hd : decode c.code pc = .ok (.ireturn, 1)) {fs : List Frame}
    (hl : ∀ (f : JFrame) (acts : List Action), f.method = m → f.locked = none → f.entered = [] → (doReturn e (T.setTop f) acts (some (.int z))).1 = T.setFrames fs) : Steps p.tables e below (T.setTop (mkF m pc Ls (.int z :: rest))) (T.setFrames fs) := by
  have hm' : T.vm.method? m = some meth := X.method'
  have hn : narrow .int (.int z) = .int z := rfl
  show Steps p.tables e below (T.setTop { method := m, pc := pc, locals := Ls, stack := _ :: rest, locked := none }) _
  jvm_step X.here [X.here.top, hx, hd, hm', hret, hn]
  first | (intro acts; rw [hl _ acts rfl rfl rfl]) | rw [hl _ _ rfl rfl rfl]
  exact Steps.refl _
end New
end Jvm.RoadKit
namespace Jvm.Pilot.@@N@@
open Jvm Jvm.ClassFile Sem Op Lib Jvm.Free Jvm.Stand Jvm.LawKit Jvm.RoadKit Bundle Jvm.Pilot.@@N@@.Jvm.D
theorem own_sta_keep {Z : State} {h h' : Heap} {C n d : String} {v : Value} {ws : List Addr} (F : Sta Z h C n d v) (K : Keep h h' ws) (q : ∀ w ∈ ws, ∃ c : Cell, h[w]? = some c ∧ c.vm.isStatics = false) : Sta Z h' C n d v := by
  obtain ⟨cf, i, k, f, st, cell, h1, h2, h3, h4, h5, h6, h7⟩ := F
  refine ⟨cf, i, k, f, st, cell, h1, h2, h3, h4, K.2.1 st cell h5 (fun hm => ?_), h6, h7⟩
  obtain ⟨c, r1, r2⟩ := q st hm
  rw [h5] at r1
  cases r1
  rw [h6] at r2
  cases r2
theorem own_ns {Z : State} {h : Heap} {a : Addr} {C : String} (E : Exa Z h a C) : ∃ c : Cell, h[a]? = some c ∧ c.vm.isStatics = false := by
  obtain ⟨cell, k, h1, -, -, h4, -⟩ := E
  exact ⟨cell, h1, h4⟩
theorem own_selp {C : String} {y : MethodName} {s : State} {args : Array Value} (hy : y.cls ≠ "java/lang/invoke/MethodHandle" ∧ y.cls ≠ "java/lang/invoke/VarHandle") (hsel : (Cond.selects C y y).before args s = true) (hpriv : (Cond.privateMethod y).before args s = true) (hinst : (Cond.instanceMethod y).before args s = true) : (Cond.selects y.cls y y).before args s = true := by
  obtain ⟨c, r, m, -, -, q3, -, k, hk, hki⟩ := Cond.selects_spec hsel
  exact Jvm.Stand.selects_self_of_private (findClass_of_methodNamed q3) hk hki (Cond.privateMethod_at hpriv) hinst hy
theorem own_same {C : String} {y y' : MethodName} {s : State} {args : Array Value} (hy : y.cls ≠ "java/lang/invoke/MethodHandle" ∧ y.cls ≠ "java/lang/invoke/VarHandle") (hc : y'.cls = y.cls) (hsel : (Cond.selects C y' y').before args s = true) (hinst : (Cond.instanceMethod y).before args s = true) : (Cond.sameMethod y.cls y.cls y.name y.desc).before args s = true := by
  obtain ⟨c, r, m, -, -, q3, -, k, hk, hki⟩ := Cond.selects_spec hsel
  obtain ⟨mk, methM, hnamed, hmethM, -, -⟩ := Cond.instanceMethod_spec hinst
  have hfound : s.methodFound? y.cls y.name y.desc = some mk := State.methodFound?_of_named hnamed hy
  have h1 := findClass_of_methodNamed q3
  rw [hc] at h1
  have hn : s.methodNamed? ⟨y.cls, y.name, y.desc⟩ = some mk := hnamed
  simp only [Cond.before, Cond.holds, Cond.value, h1, hfound, hn, hk]
  simp [hki]
theorem own_len_set {l : List Value} {i n : Nat} {v : Value} (h : l.length = n) : (l.set i v).length = n := by rw [List.length_set]; exact h
theorem own_ltl {j z : Int32} {l : List Value} (e : l.length = z.toNatClampNeg) (h : ¬ j < 0 ∧ j < z) : j.toNatClampNeg < l.length := by
  rw [e]
  have h1 := h.1
  have h2 := h.2
  rw [Int32.lt_iff_toInt_lt] at h1 h2
  have h0 : (0 : Int32).toInt = 0 := by decide
  show j.toInt.toNat < z.toInt.toNat
  omega
theorem own_rep (n : Nat) (d : Value) (i : Nat) : (List.replicate n d).getD i d = ([] : List Value).getD i d := by
  rw [List.getD_eq_getElem?_getD, List.getElem?_replicate]
  split <;> rfl
theorem own_z0 {a b : Nat} (h : a ≤ b) : 0 + a ≤ b := by omega
def own_cp (l : List Value) (a b : Nat) : List Value := ((List.range a).map fun i => l.getD i (.int (0 : Int32))) ++ List.replicate (b - a) (.int (0 : Int32))
theorem own_cp_len (l : List Value) {a b : Nat} (h : a ≤ b) : (own_cp l a b).length = b := by
  unfold own_cp
  rw [List.length_append, List.length_map, List.length_range, List.length_replicate]
  omega
theorem own_cp_eq (l : List Value) (a b : Nat) : (List.replicate b (Value.int (0 : Int32))).take (0 : Int32).toNatClampNeg ++ ((List.range a).map fun i => l.getD (0 + i) (.int (0 : Int32))) ++ (List.replicate b (Value.int (0 : Int32))).drop ((0 : Int32).toNatClampNeg + a) = own_cp l a b := by
  have h0 : (0 : Int32).toNatClampNeg = 0 := by decide
  rw [h0]
  simp [own_cp, List.drop_replicate]
theorem own_le {c t r o k x : Nat} (h : c + t ≤ r) (q : o + k ≤ t) (e : x = c + o) : x + k ≤ r := by omega
theorem own_nf {C : String} {y y' : MethodName} {s : State} {args : Array Value} (hc : y'.cls = y.cls) (hsel : (Cond.selects C y' y').before args s = true) : NotFace s y := fun r0 h0 => by
  obtain ⟨c, r, m, -, -, q3, -, k, hk, hki⟩ := Cond.selects_spec hsel
  have h1 := findClass_of_methodNamed q3
  rw [hc] at h1
  have h2 := findClass_of_methodNamed h0
  have h3 := Option.some.inj (h1.symm.trans h2)
  exact ⟨k, h3 ▸ hk, hki⟩
theorem own_w {a0 : Array Value} {Z : State} (hw : ∀ d ∈ tables_1, d.before a0 Z = true) (i : Nat) {d : Jvm.Cond} (h : tables_1[i]? = some d) : d.before a0 Z = true := hw _ (List.mem_of_getElem? h)
def own_hexN (n : Nat) : Int32 := if n < 10 then Int32.ofNat (48 + n) else Int32.ofNat (55 + n)
def own_hx (j : Int32) : Int32 := own_hexN j.toNatClampNeg
def own_hexL : List Value := (List.range 16).map fun n => .int (own_hexN n)
theorem own_hex_at (j : Int32) (h : j.toNatClampNeg < (16 : Int32).toNatClampNeg) : own_hexL.getD j.toNatClampNeg (.int (0 : Int32)) = .int (own_hx j) := by
  have h' : j.toNatClampNeg < 16 := h
  unfold own_hexL own_hx
  rw [List.getD_eq_getElem?_getD, List.getElem?_map, List.getElem?_range h']
  rfl
theorem d12_0 : decode jdk_29_method_65_code 0 = .ok (.iload_n 0, 1) := by decide +kernel
theorem d12_1 : decode jdk_29_method_65_code 1 = .ok (.iload_n 1, 1) := by decide +kernel
theorem d12_2 : decode jdk_29_method_65_code 2 = .ok (.if_icmp .lt 7, 3) := by decide +kernel
theorem d12_5 : decode jdk_29_method_65_code 5 = .ok (.iload_n 0, 1) := by decide +kernel
theorem d12_6 : decode jdk_29_method_65_code 6 = .ok (.goto 4, 3) := by decide +kernel
theorem d12_9 : decode jdk_29_method_65_code 9 = .ok (.iload_n 1, 1) := by decide +kernel
theorem d12_10 : decode jdk_29_method_65_code 10 = .ok (.ireturn, 1) := by decide +kernel
theorem ef_12 (m : MethodId) (p1 : Int32) (p2 : Int32) : entryFrame m #[(.int p1), (.int p2)] 2 = mkF m 0 #[.val (.int p1), .val (.int p2)] [] := by first | (simp [entryFrame, mkF, argsToLocals, Value.category]; done) | rfl
def F12_0 (p1 : Int32) (p2 : Int32) : Int32 := (if p1 < p2 then p2 else p1)
def Q12 (Z : State) (p1 : Int32) (p2 : Int32) (h0 : Heap) (n0 : Nat) (v : Option Value) (h : Heap) (L : List Loc) : Prop := v = some (.int (F12_0 p1 p2)) ∧ Fr n0 L ∧ h = h0
set_option maxRecDepth 65536 in
set_option maxHeartbeats 40000000 in
theorem rm12 (l : Launch) (Z : State) (a0 : Array Value) (hw : ∀ d ∈ tables_1, d.before a0 Z = true) (ws : List Jvm.Cond) (p1 : Int32) (p2 : Int32) (h0 : Heap) (n0 : Nat) (Z0 : n0 ≤ h0.size) :
    MetFree l (⟨"java/lang/Math", "max", "(II)I"⟩ : MethodName) (head1 (Jvm.Cond.code (⟨"java/lang/Math", "max", "(II)I"⟩ : MethodName) jdk_29_method_65_code 2 (some .int) :: ws) ({ frames := 0, cells := 0, slots := 0, locals := 0 } : Room)) (fun a U => a = #[(.int p1), (.int p2)] ∧ Z.Warmed39 U.vm ∧ U.heap = h0) (fun _ _ _ _ _ => True) (fun _ U o U' => ∃ v L, o = .returned v ∧ Q12 Z p1 p2 h0 n0 v U'.heap L ∧ FrameEnd U o U' L ({ frames := 0, cells := 0, slots := 0, locals := 0 } : Room).cells ({ frames := 0, cells := 0, slots := 0, locals := 0 } : Room).slots) := by
  refine MetFree.of_bodySF (Jvm.Free.JP.mathPlain rfl (by decide +kernel)) hisR ?_
  intro p e s m args below meth c s₁ Bd hml0 hP hK
  obtain ⟨rfl, hZ, hh⟩ := hP
  have hx := Bd.exec
  have hby := Bd.bytes
  have hml : c.maxLocals = 2 := hml0
  have hown : s.vm.findClass "java/lang/Math" = some m.cls := findClass_of_methodNamed Bd.named
  have hnm := (name_of_methodNamed Bd.named Bd.method).1
  have X0 : Stand p l e ({ frames := 0, cells := 0, slots := 0, locals := 0 } : Room) s m #[(.int p1), (.int p2)] below meth c s₁ [] 0 0 := Stand.of_body Bd
  have e0 : s₁.heap = h0 := by rw [← hh, Bd.state]; rfl
  have N0 := Fr.nil n0
  have pre0 : ∀ t, Steps p.tables e below (s₁.setTop (mkF m 0 #[.val (.int p1), .val (.int p2)] [])) t → Steps p.tables e below (s₁.setTop (entryFrame m #[(.int p1), (.int p2)] 2)) t := fun t k => castTop (ef_12 m p1 p2) k
  obtain ⟨fs, hr, hrun, hended, hW, hsame⟩ := X0.leave (v := some (.int (F12_0 p1 p2))) (fun h => by rw [Bd.returns] at h; cases h) Bd.notSynchronized
  refine ⟨_, _, pre0 _ ?_, hrun, hended, _, _, rfl, ?_, ⟨_, rfl⟩, hW, hsame.mono (by decide) (by decide)⟩
  · have j0 : ∀ (hF : F12_0 p1 p2 = F12_0 p1 p2), Steps p.tables e below (s₁.setTop (mkF m 0 #[.val (.int p1), .val (.int p2)] [])) (s₁.setFrames fs) := by
      intro hF
      show Steps p.tables e below (s₁.setTop (mkF m 0 #[.val (.int p1), .val (.int p2)] [])) _
      refine XS.iloadN X0.here hx rfl (hb hby d12_0) rfl ?_
      show Steps p.tables e below (s₁.setTop (mkF m 1 #[.val (.int p1), .val (.int p2)] [(.int p1)])) _
      refine XS.iloadN X0.here hx rfl (hb hby d12_1) rfl ?_
      show Steps p.tables e below (s₁.setTop (mkF m 2 #[.val (.int p1), .val (.int p2)] [(.int p2), (.int p1)])) _
      by_cases hc2 : p1 < p2
      · refine XS.icmpYes X0.here hx rfl (pc0 := 2) (pc' := 9) rfl (hb hby d12_2) rfl (tlt hc2).1 (by decide) (by decide) ?_
        show Steps p.tables e below (s₁.setTop (mkF m 9 #[.val (.int p1), .val (.int p2)] [])) _
        refine XS.iloadN X0.here hx rfl (hb hby d12_9) rfl ?_
        show Steps p.tables e below (s₁.setTop (mkF m 10 #[.val (.int p1), .val (.int p2)] [(.int p2)])) _
        have hv := (hF.trans (by rw [F12_0, if_pos hc2] : _ = p2))
        rw [hv] at hr
        exact retI X0 hx Bd.returns (hb hby d12_10) hr
      · refine XS.icmpNo X0.here hx rfl (hb hby d12_2) rfl (flt hc2).1 ?_
        show Steps p.tables e below (s₁.setTop (mkF m 5 #[.val (.int p1), .val (.int p2)] [])) _
        refine XS.iloadN X0.here hx rfl (hb hby d12_5) rfl ?_
        show Steps p.tables e below (s₁.setTop (mkF m 6 #[.val (.int p1), .val (.int p2)] [(.int p1)])) _
        refine XS.goto X0.here hx rfl (pc0 := 6) (pc' := 10) rfl (hb hby d12_6) (by decide) (by decide) ?_
        show Steps p.tables e below (s₁.setTop (mkF m 10 #[.val (.int p1), .val (.int p2)] [(.int p1)])) _
        have hv := (hF.trans (by rw [F12_0, if_neg hc2] : _ = p1))
        rw [hv] at hr
        exact retI X0 hx Bd.returns (hb hby d12_10) hr
    exact j0 rfl
  · show Q12 Z p1 p2 h0 n0 _ s₁.heap _
    rw [e0]
    exact ⟨rfl, N0, rfl⟩
theorem d14_0 : decode jdk_29_method_69_code 0 = .ok (.iload_n 0, 1) := by decide +kernel
theorem d14_1 : decode jdk_29_method_69_code 1 = .ok (.iload_n 1, 1) := by decide +kernel
theorem d14_2 : decode jdk_29_method_69_code 2 = .ok (.if_icmp .gt 7, 3) := by decide +kernel
theorem d14_5 : decode jdk_29_method_69_code 5 = .ok (.iload_n 0, 1) := by decide +kernel
theorem d14_6 : decode jdk_29_method_69_code 6 = .ok (.goto 4, 3) := by decide +kernel
theorem d14_9 : decode jdk_29_method_69_code 9 = .ok (.iload_n 1, 1) := by decide +kernel
theorem d14_10 : decode jdk_29_method_69_code 10 = .ok (.ireturn, 1) := by decide +kernel
theorem ef_14 (m : MethodId) (p1 : Int32) (p2 : Int32) : entryFrame m #[(.int p1), (.int p2)] 2 = mkF m 0 #[.val (.int p1), .val (.int p2)] [] := by first | (simp [entryFrame, mkF, argsToLocals, Value.category]; done) | rfl
def F14_0 (p1 : Int32) (p2 : Int32) : Int32 := (if p2 < p1 then p2 else p1)
def Q14 (Z : State) (p1 : Int32) (p2 : Int32) (h0 : Heap) (n0 : Nat) (v : Option Value) (h : Heap) (L : List Loc) : Prop := v = some (.int (F14_0 p1 p2)) ∧ Fr n0 L ∧ h = h0
set_option maxRecDepth 65536 in
set_option maxHeartbeats 40000000 in
theorem rm14 (l : Launch) (Z : State) (a0 : Array Value) (hw : ∀ d ∈ tables_1, d.before a0 Z = true) (ws : List Jvm.Cond) (p1 : Int32) (p2 : Int32) (h0 : Heap) (n0 : Nat) (Z0 : n0 ≤ h0.size) :
    MetFree l (⟨"java/lang/Math", "min", "(II)I"⟩ : MethodName) (head1 (Jvm.Cond.code (⟨"java/lang/Math", "min", "(II)I"⟩ : MethodName) jdk_29_method_69_code 2 (some .int) :: ws) ({ frames := 0, cells := 0, slots := 0, locals := 0 } : Room)) (fun a U => a = #[(.int p1), (.int p2)] ∧ Z.Warmed39 U.vm ∧ U.heap = h0) (fun _ _ _ _ _ => True) (fun _ U o U' => ∃ v L, o = .returned v ∧ Q14 Z p1 p2 h0 n0 v U'.heap L ∧ FrameEnd U o U' L ({ frames := 0, cells := 0, slots := 0, locals := 0 } : Room).cells ({ frames := 0, cells := 0, slots := 0, locals := 0 } : Room).slots) := by
  refine MetFree.of_bodySF (Jvm.Free.JP.mathPlain rfl (by decide +kernel)) hisR ?_
  intro p e s m args below meth c s₁ Bd hml0 hP hK
  obtain ⟨rfl, hZ, hh⟩ := hP
  have hx := Bd.exec
  have hby := Bd.bytes
  have hml : c.maxLocals = 2 := hml0
  have hown : s.vm.findClass "java/lang/Math" = some m.cls := findClass_of_methodNamed Bd.named
  have hnm := (name_of_methodNamed Bd.named Bd.method).1
  have X0 : Stand p l e ({ frames := 0, cells := 0, slots := 0, locals := 0 } : Room) s m #[(.int p1), (.int p2)] below meth c s₁ [] 0 0 := Stand.of_body Bd
  have e0 : s₁.heap = h0 := by rw [← hh, Bd.state]; rfl
  have N0 := Fr.nil n0
  have pre0 : ∀ t, Steps p.tables e below (s₁.setTop (mkF m 0 #[.val (.int p1), .val (.int p2)] [])) t → Steps p.tables e below (s₁.setTop (entryFrame m #[(.int p1), (.int p2)] 2)) t := fun t k => castTop (ef_14 m p1 p2) k
  obtain ⟨fs, hr, hrun, hended, hW, hsame⟩ := X0.leave (v := some (.int (F14_0 p1 p2))) (fun h => by rw [Bd.returns] at h; cases h) Bd.notSynchronized
  refine ⟨_, _, pre0 _ ?_, hrun, hended, _, _, rfl, ?_, ⟨_, rfl⟩, hW, hsame.mono (by decide) (by decide)⟩
  · have j0 : ∀ (hF : F14_0 p1 p2 = F14_0 p1 p2), Steps p.tables e below (s₁.setTop (mkF m 0 #[.val (.int p1), .val (.int p2)] [])) (s₁.setFrames fs) := by
      intro hF
      show Steps p.tables e below (s₁.setTop (mkF m 0 #[.val (.int p1), .val (.int p2)] [])) _
      refine XS.iloadN X0.here hx rfl (hb hby d14_0) rfl ?_
      show Steps p.tables e below (s₁.setTop (mkF m 1 #[.val (.int p1), .val (.int p2)] [(.int p1)])) _
      refine XS.iloadN X0.here hx rfl (hb hby d14_1) rfl ?_
      show Steps p.tables e below (s₁.setTop (mkF m 2 #[.val (.int p1), .val (.int p2)] [(.int p2), (.int p1)])) _
      by_cases hc2 : p2 < p1
      · refine XS.icmpYes X0.here hx rfl (pc0 := 2) (pc' := 9) rfl (hb hby d14_2) rfl (tlt hc2).2.2.1 (by decide) (by decide) ?_
        show Steps p.tables e below (s₁.setTop (mkF m 9 #[.val (.int p1), .val (.int p2)] [])) _
        refine XS.iloadN X0.here hx rfl (hb hby d14_9) rfl ?_
        show Steps p.tables e below (s₁.setTop (mkF m 10 #[.val (.int p1), .val (.int p2)] [(.int p2)])) _
        have hv := (hF.trans (by rw [F14_0, if_pos hc2] : _ = p2))
        rw [hv] at hr
        exact retI X0 hx Bd.returns (hb hby d14_10) hr
      · refine XS.icmpNo X0.here hx rfl (hb hby d14_2) rfl (flt hc2).2.2.1 ?_
        show Steps p.tables e below (s₁.setTop (mkF m 5 #[.val (.int p1), .val (.int p2)] [])) _
        refine XS.iloadN X0.here hx rfl (hb hby d14_5) rfl ?_
        show Steps p.tables e below (s₁.setTop (mkF m 6 #[.val (.int p1), .val (.int p2)] [(.int p1)])) _
        refine XS.goto X0.here hx rfl (pc0 := 6) (pc' := 10) rfl (hb hby d14_6) (by decide) (by decide) ?_
        show Steps p.tables e below (s₁.setTop (mkF m 10 #[.val (.int p1), .val (.int p2)] [(.int p1)])) _
        have hv := (hF.trans (by rw [F14_0, if_neg hc2] : _ = p1))
        rw [hv] at hr
        exact retI X0 hx Bd.returns (hb hby d14_10) hr
    exact j0 rfl
  · show Q14 Z p1 p2 h0 n0 _ s₁.heap _
    rw [e0]
    exact ⟨rfl, N0, rfl⟩
theorem d9_0 : decode jdk_43_method_3_code 0 = .ok (.iload_n 0, 1) := by decide +kernel
theorem d9_1 : decode jdk_43_method_3_code 1 = .ok (.sipush 255, 3) := by decide +kernel
theorem d9_4 : decode jdk_43_method_3_code 4 = .ok (.if_icmp .gt 7, 3) := by decide +kernel
theorem d9_7 : decode jdk_43_method_3_code 7 = .ok (.iconst 1, 1) := by decide +kernel
theorem d9_8 : decode jdk_43_method_3_code 8 = .ok (.goto 4, 3) := by decide +kernel
theorem d9_11 : decode jdk_43_method_3_code 11 = .ok (.iconst 0, 1) := by decide +kernel
theorem d9_12 : decode jdk_43_method_3_code 12 = .ok (.ireturn, 1) := by decide +kernel
theorem pn_9 : plainName "java/lang/StringLatin1" = true := by first | (simp [plainName, overriddenIn]; done) | decide +kernel
theorem ef_9 (m : MethodId) (p1 : Int32) : entryFrame m #[(.int p1)] 1 = mkF m 0 #[.val (.int p1)] [] := by first | (simp [entryFrame, mkF, argsToLocals, Value.category]; done) | rfl
def F9_0 (p1 : Int32) : Int32 := (if (255 : Int32) < p1 then (0 : Int32) else (1 : Int32))
def Q9 (Z : State) (p1 : Int32) (h0 : Heap) (n0 : Nat) (v : Option Value) (h : Heap) (L : List Loc) : Prop := v = some (.int (F9_0 p1)) ∧ Fr n0 L ∧ h = h0
set_option maxRecDepth 65536 in
set_option maxHeartbeats 40000000 in
theorem rm9 (l : Launch) (Z : State) (a0 : Array Value) (hw : ∀ d ∈ tables_1, d.before a0 Z = true) (ws : List Jvm.Cond) (p1 : Int32) (h0 : Heap) (n0 : Nat) (Z0 : n0 ≤ h0.size) :
    MetFree l (⟨"java/lang/StringLatin1", "canEncode", "(C)Z"⟩ : MethodName) (head1 (Jvm.Cond.code (⟨"java/lang/StringLatin1", "canEncode", "(C)Z"⟩ : MethodName) jdk_43_method_3_code 1 (some .boolean) :: ws) ({ frames := 0, cells := 0, slots := 0, locals := 0 } : Room)) (fun a U => a = #[(.int p1)] ∧ Z.Warmed39 U.vm ∧ U.heap = h0) (fun _ _ _ _ _ => True) (fun _ U o U' => ∃ v L, o = .returned v ∧ Q9 Z p1 h0 n0 v U'.heap L ∧ FrameEnd U o U' L ({ frames := 0, cells := 0, slots := 0, locals := 0 } : Room).cells ({ frames := 0, cells := 0, slots := 0, locals := 0 } : Room).slots) := by
  refine MetFree.of_bodySF (plainFor_of_name pn_9) hisR ?_
  intro p e s m args below meth c s₁ Bd hml0 hP hK
  obtain ⟨rfl, hZ, hh⟩ := hP
  have hx := Bd.exec
  have hby := Bd.bytes
  have hml : c.maxLocals = 1 := hml0
  have hown : s.vm.findClass "java/lang/StringLatin1" = some m.cls := findClass_of_methodNamed Bd.named
  have hnm := (name_of_methodNamed Bd.named Bd.method).1
  have X0 : Stand p l e ({ frames := 0, cells := 0, slots := 0, locals := 0 } : Room) s m #[(.int p1)] below meth c s₁ [] 0 0 := Stand.of_body Bd
  have e0 : s₁.heap = h0 := by rw [← hh, Bd.state]; rfl
  have N0 := Fr.nil n0
  have pre0 : ∀ t, Steps p.tables e below (s₁.setTop (mkF m 0 #[.val (.int p1)] [])) t → Steps p.tables e below (s₁.setTop (entryFrame m #[(.int p1)] 1)) t := fun t k => castTop (ef_9 m p1) k
  obtain ⟨fs, hr, hrun, hended, hW, hsame⟩ := X0.leave (v := some (.int (F9_0 p1))) (fun h => by rw [Bd.returns] at h; cases h) Bd.notSynchronized
  refine ⟨_, _, pre0 _ ?_, hrun, hended, _, _, rfl, ?_, ⟨_, rfl⟩, hW, hsame.mono (by decide) (by decide)⟩
  · have j0 : ∀ (hF : F9_0 p1 = F9_0 p1), Steps p.tables e below (s₁.setTop (mkF m 0 #[.val (.int p1)] [])) (s₁.setFrames fs) := by
      intro hF
      show Steps p.tables e below (s₁.setTop (mkF m 0 #[.val (.int p1)] [])) _
      refine XS.iloadN X0.here hx rfl (hb hby d9_0) rfl ?_
      show Steps p.tables e below (s₁.setTop (mkF m 1 #[.val (.int p1)] [(.int p1)])) _
      refine XS.sipush X0.here hx rfl (hb hby d9_1) ?_
      show Steps p.tables e below (s₁.setTop (mkF m 4 #[.val (.int p1)] [(.int (255 : Int32)), (.int p1)])) _
      by_cases hc4 : (255 : Int32) < p1
      · refine XS.icmpYes X0.here hx rfl (pc0 := 4) (pc' := 11) rfl (hb hby d9_4) rfl (tlt hc4).2.2.1 (by decide) (by decide) ?_
        show Steps p.tables e below (s₁.setTop (mkF m 11 #[.val (.int p1)] [])) _
        refine XS.iconst X0.here hx rfl (hb hby d9_11) ?_
        show Steps p.tables e below (s₁.setTop (mkF m 12 #[.val (.int p1)] [(.int (0 : Int32))])) _
        have hv := (hF.trans (by rw [F9_0, if_pos hc4] : _ = (0 : Int32)))
        rw [hv] at hr
        exact retN X0 hx (t := .boolean) Bd.returns (by simp) (hb hby d9_12) hr
      · refine XS.icmpNo X0.here hx rfl (hb hby d9_4) rfl (flt hc4).2.2.1 ?_
        show Steps p.tables e below (s₁.setTop (mkF m 7 #[.val (.int p1)] [])) _
        refine XS.iconst X0.here hx rfl (hb hby d9_7) ?_
        show Steps p.tables e below (s₁.setTop (mkF m 8 #[.val (.int p1)] [(.int (1 : Int32))])) _
        refine XS.goto X0.here hx rfl (pc0 := 8) (pc' := 12) rfl (hb hby d9_8) (by decide) (by decide) ?_
        show Steps p.tables e below (s₁.setTop (mkF m 12 #[.val (.int p1)] [(.int (1 : Int32))])) _
        have hv := (hF.trans (by rw [F9_0, if_neg hc4] : _ = (1 : Int32)))
        rw [hv] at hr
        exact retN X0 hx (t := .boolean) Bd.returns (by simp) (hb hby d9_12) hr
    exact j0 rfl
  · show Q9 Z p1 h0 n0 _ s₁.heap _
    rw [e0]
    exact ⟨rfl, N0, rfl⟩
theorem d30_0 : decode method_4_code 0 = .ok (.iload_n 0, 1) := by decide +kernel
theorem d30_1 : decode method_4_code 1 = .ok (.bipush 10, 2) := by decide +kernel
theorem d30_3 : decode method_4_code 3 = .ok (.if_icmp .ge 9, 3) := by decide +kernel
theorem d30_6 : decode method_4_code 6 = .ok (.bipush 48, 2) := by decide +kernel
theorem d30_8 : decode method_4_code 8 = .ok (.iload_n 0, 1) := by decide +kernel
theorem d30_9 : decode method_4_code 9 = .ok (.iadd, 1) := by decide +kernel
theorem d30_10 : decode method_4_code 10 = .ok (.i2c, 1) := by decide +kernel
theorem d30_11 : decode method_4_code 11 = .ok (.ireturn, 1) := by decide +kernel
theorem d30_12 : decode method_4_code 12 = .ok (.bipush 65, 2) := by decide +kernel
theorem d30_14 : decode method_4_code 14 = .ok (.iload_n 0, 1) := by decide +kernel
theorem d30_15 : decode method_4_code 15 = .ok (.bipush 10, 2) := by decide +kernel
theorem d30_17 : decode method_4_code 17 = .ok (.isub, 1) := by decide +kernel
theorem d30_18 : decode method_4_code 18 = .ok (.iadd, 1) := by decide +kernel
theorem d30_19 : decode method_4_code 19 = .ok (.i2c, 1) := by decide +kernel
theorem d30_20 : decode method_4_code 20 = .ok (.ireturn, 1) := by decide +kernel
theorem pn_30 : plainName "com/example/presplit/presplit/escape/BinaryEscapeEncodePinLaw" = true := by first | (simp [plainName, overriddenIn]; done) | decide +kernel
theorem ef_30 (m : MethodId) (p1 : Int32) : entryFrame m #[(.int p1)] 1 = mkF m 0 #[.val (.int p1)] [] := by first | (simp [entryFrame, mkF, argsToLocals, Value.category]; done) | rfl
def F30_0 (p1 : Int32) : Int32 := (if p1 < (10 : Int32) then (nar .char (((48 : Int32) + p1).toUInt32.toUInt16.toUInt32.toInt32)) else (nar .char (((65 : Int32) + (p1 - (10 : Int32))).toUInt32.toUInt16.toUInt32.toInt32)))
def Q30 (Z : State) (p1 : Int32) (h0 : Heap) (n0 : Nat) (v : Option Value) (h : Heap) (L : List Loc) : Prop := v = some (.int (F30_0 p1)) ∧ Fr n0 L ∧ h = h0
set_option maxRecDepth 65536 in
set_option maxHeartbeats 40000000 in
theorem rm30 (l : Launch) (Z : State) (a0 : Array Value) (hw : ∀ d ∈ tables_1, d.before a0 Z = true) (ws : List Jvm.Cond) (p1 : Int32) (h0 : Heap) (n0 : Nat) (Z0 : n0 ≤ h0.size) :
    MetFree l (⟨"com/example/presplit/presplit/escape/BinaryEscapeEncodePinLaw", "hex", "(I)C"⟩ : MethodName) (head1 (Jvm.Cond.code (⟨"com/example/presplit/presplit/escape/BinaryEscapeEncodePinLaw", "hex", "(I)C"⟩ : MethodName) method_4_code 1 (some .char) :: ws) ({ frames := 0, cells := 0, slots := 0, locals := 0 } : Room)) (fun a U => a = #[(.int p1)] ∧ Z.Warmed39 U.vm ∧ U.heap = h0) (fun _ _ _ _ _ => True) (fun _ U o U' => ∃ v L, o = .returned v ∧ Q30 Z p1 h0 n0 v U'.heap L ∧ FrameEnd U o U' L ({ frames := 0, cells := 0, slots := 0, locals := 0 } : Room).cells ({ frames := 0, cells := 0, slots := 0, locals := 0 } : Room).slots) := by
  refine MetFree.of_bodySF (plainFor_of_name pn_30) hisR ?_
  intro p e s m args below meth c s₁ Bd hml0 hP hK
  obtain ⟨rfl, hZ, hh⟩ := hP
  have hx := Bd.exec
  have hby := Bd.bytes
  have hml : c.maxLocals = 1 := hml0
  have hown : s.vm.findClass "com/example/presplit/presplit/escape/BinaryEscapeEncodePinLaw" = some m.cls := findClass_of_methodNamed Bd.named
  have hnm := (name_of_methodNamed Bd.named Bd.method).1
  have X0 : Stand p l e ({ frames := 0, cells := 0, slots := 0, locals := 0 } : Room) s m #[(.int p1)] below meth c s₁ [] 0 0 := Stand.of_body Bd
  have e0 : s₁.heap = h0 := by rw [← hh, Bd.state]; rfl
  have N0 := Fr.nil n0
  have pre0 : ∀ t, Steps p.tables e below (s₁.setTop (mkF m 0 #[.val (.int p1)] [])) t → Steps p.tables e below (s₁.setTop (entryFrame m #[(.int p1)] 1)) t := fun t k => castTop (ef_30 m p1) k
  obtain ⟨fs, hr, hrun, hended, hW, hsame⟩ := X0.leave (v := some (.int (F30_0 p1))) (fun h => by rw [Bd.returns] at h; cases h) Bd.notSynchronized
  refine ⟨_, _, pre0 _ ?_, hrun, hended, _, _, rfl, ?_, ⟨_, rfl⟩, hW, hsame.mono (by decide) (by decide)⟩
  · have j0 : ∀ (hF : F30_0 p1 = F30_0 p1), Steps p.tables e below (s₁.setTop (mkF m 0 #[.val (.int p1)] [])) (s₁.setFrames fs) := by
      intro hF
      show Steps p.tables e below (s₁.setTop (mkF m 0 #[.val (.int p1)] [])) _
      refine XS.iloadN X0.here hx rfl (hb hby d30_0) rfl ?_
      show Steps p.tables e below (s₁.setTop (mkF m 1 #[.val (.int p1)] [(.int p1)])) _
      refine XS.bipush X0.here hx rfl (hb hby d30_1) ?_
      show Steps p.tables e below (s₁.setTop (mkF m 3 #[.val (.int p1)] [(.int (10 : Int32)), (.int p1)])) _
      by_cases hc3 : p1 < (10 : Int32)
      · refine XS.icmpNo X0.here hx rfl (hb hby d30_3) rfl (tlt hc3).2.1 ?_
        show Steps p.tables e below (s₁.setTop (mkF m 6 #[.val (.int p1)] [])) _
        refine XS.bipush X0.here hx rfl (hb hby d30_6) ?_
        show Steps p.tables e below (s₁.setTop (mkF m 8 #[.val (.int p1)] [(.int (48 : Int32))])) _
        refine XS.iloadN X0.here hx rfl (hb hby d30_8) rfl ?_
        show Steps p.tables e below (s₁.setTop (mkF m 9 #[.val (.int p1)] [(.int p1), (.int (48 : Int32))])) _
        refine XS.iadd X0.here hx rfl (hb hby d30_9) rfl ?_
        show Steps p.tables e below (s₁.setTop (mkF m 10 #[.val (.int p1)] [(.int ((48 : Int32) + p1))])) _
        refine XS.i2c X0.here hx rfl (hb hby d30_10) rfl ?_
        show Steps p.tables e below (s₁.setTop (mkF m 11 #[.val (.int p1)] [(.int (((48 : Int32) + p1).toUInt32.toUInt16.toUInt32.toInt32))])) _
        have hv := (hF.trans (by rw [F30_0, if_pos hc3] : _ = (nar .char (((48 : Int32) + p1).toUInt32.toUInt16.toUInt32.toInt32))))
        rw [hv] at hr
        exact retN X0 hx (t := .char) Bd.returns (by simp) (hb hby d30_11) hr
      · refine XS.icmpYes X0.here hx rfl (pc0 := 3) (pc' := 12) rfl (hb hby d30_3) rfl (flt hc3).2.1 (by decide) (by decide) ?_
        show Steps p.tables e below (s₁.setTop (mkF m 12 #[.val (.int p1)] [])) _
        refine XS.bipush X0.here hx rfl (hb hby d30_12) ?_
        show Steps p.tables e below (s₁.setTop (mkF m 14 #[.val (.int p1)] [(.int (65 : Int32))])) _
        refine XS.iloadN X0.here hx rfl (hb hby d30_14) rfl ?_
        show Steps p.tables e below (s₁.setTop (mkF m 15 #[.val (.int p1)] [(.int p1), (.int (65 : Int32))])) _
        refine XS.bipush X0.here hx rfl (hb hby d30_15) ?_
        show Steps p.tables e below (s₁.setTop (mkF m 17 #[.val (.int p1)] [(.int (10 : Int32)), (.int p1), (.int (65 : Int32))])) _
        refine XS.isub X0.here hx rfl (hb hby d30_17) rfl ?_
        show Steps p.tables e below (s₁.setTop (mkF m 18 #[.val (.int p1)] [(.int (p1 - (10 : Int32))), (.int (65 : Int32))])) _
        refine XS.iadd X0.here hx rfl (hb hby d30_18) rfl ?_
        show Steps p.tables e below (s₁.setTop (mkF m 19 #[.val (.int p1)] [(.int ((65 : Int32) + (p1 - (10 : Int32))))])) _
        refine XS.i2c X0.here hx rfl (hb hby d30_19) rfl ?_
        show Steps p.tables e below (s₁.setTop (mkF m 20 #[.val (.int p1)] [(.int (((65 : Int32) + (p1 - (10 : Int32))).toUInt32.toUInt16.toUInt32.toInt32))])) _
        have hv := (hF.trans (by rw [F30_0, if_neg hc3] : _ = (nar .char (((65 : Int32) + (p1 - (10 : Int32))).toUInt32.toUInt16.toUInt32.toInt32))))
        rw [hv] at hr
        exact retN X0 hx (t := .char) Bd.returns (by simp) (hb hby d30_20) hr
    exact j0 rfl
  · show Q30 Z p1 h0 n0 _ s₁.heap _
    rw [e0]
    exact ⟨rfl, N0, rfl⟩
theorem d8_0 : decode jdk_68_method_68_code 0 = .ok (.getstatic 18, 3) := by decide +kernel
theorem d8_3 : decode jdk_68_method_68_code 3 = .ok (.ifCond .eq 14, 3) := by decide +kernel
theorem d8_6 : decode jdk_68_method_68_code 6 = .ok (.aload_n 0, 1) := by decide +kernel
theorem d8_7 : decode jdk_68_method_68_code 7 = .ok (.getfield 22, 3) := by decide +kernel
theorem d8_10 : decode jdk_68_method_68_code 10 = .ok (.ifCond .ne 7, 3) := by decide +kernel
theorem d8_13 : decode jdk_68_method_68_code 13 = .ok (.iconst 1, 1) := by decide +kernel
theorem d8_14 : decode jdk_68_method_68_code 14 = .ok (.goto 4, 3) := by decide +kernel
theorem d8_18 : decode jdk_68_method_68_code 18 = .ok (.ireturn, 1) := by decide +kernel
theorem pn_8 : plainName "java/lang/AbstractStringBuilder" = true := by first | (simp [plainName, overriddenIn]; done) | decide +kernel
theorem ef_8 (m : MethodId) (x0 : Addr) : entryFrame m #[(.ref x0)] 1 = mkF m 0 #[.val (.ref x0)] [] := by first | (simp [entryFrame, mkF, argsToLocals, Value.category]; done) | rfl
def Q_rmL1 (Z : State) (a1 : Addr) (cs : Int32) (h0 : Heap) (n0 : Nat) (v : Option Value) (h : Heap) (L : List Loc) : Prop := v = some (.int (1 : Int32)) ∧ Fr n0 L ∧ h = h0
set_option maxRecDepth 65536 in
set_option maxHeartbeats 40000000 in
theorem rmL1 (l : Launch) (Z : State) (a0 : Array Value) (hw : ∀ d ∈ tables_1, d.before a0 Z = true) (ws : List Jvm.Cond) (a1 : Addr) (cs : Int32) (h0 : Heap) (n0 : Nat) (Z0 : n0 ≤ h0.size) (F_coder_a1 : Fld Z h0 a1 "java/lang/AbstractStringBuilder" "coder" "B" (.int (0 : Int32))) (S_COMPACT_STRINGS : Sta Z h0 "java/lang/String" "COMPACT_STRINGS" "Z" (.int cs)) (hc_q2 : ¬ (cs = (0 : Int32))) :
    MetFree l (⟨"java/lang/AbstractStringBuilder", "isLatin1", "()Z"⟩ : MethodName) (head1 (Jvm.Cond.code (⟨"java/lang/AbstractStringBuilder", "isLatin1", "()Z"⟩ : MethodName) jdk_68_method_68_code 1 (some .boolean) :: ws) ({ frames := 0, cells := 0, slots := 0, locals := 0 } : Room)) (fun a U => a = #[(.ref a1)] ∧ Z.Warmed39 U.vm ∧ U.heap = h0) (fun _ _ _ _ _ => True) (fun _ U o U' => ∃ v L, o = .returned v ∧ Q_rmL1 Z a1 cs h0 n0 v U'.heap L ∧ FrameEnd U o U' L ({ frames := 0, cells := 0, slots := 0, locals := 0 } : Room).cells ({ frames := 0, cells := 0, slots := 0, locals := 0 } : Room).slots) := by
  refine MetFree.of_bodySF (plainFor_of_name pn_8) hisR ?_
  intro p e s m args below meth c s₁ Bd hml0 hP hK
  obtain ⟨rfl, hZ, hh⟩ := hP
  have hx := Bd.exec
  have hby := Bd.bytes
  have hml : c.maxLocals = 1 := hml0
  have hown : s.vm.findClass "java/lang/AbstractStringBuilder" = some m.cls := findClass_of_methodNamed Bd.named
  have hnm := (name_of_methodNamed Bd.named Bd.method).1
  have X0 : Stand p l e ({ frames := 0, cells := 0, slots := 0, locals := 0 } : Room) s m #[(.ref a1)] below meth c s₁ [] 0 0 := Stand.of_body Bd
  have e0 : s₁.heap = h0 := by rw [← hh, Bd.state]; rfl
  have N0 := Fr.nil n0
  have pre0 : ∀ t, Steps p.tables e below (s₁.setTop (mkF m 0 #[.val (.ref a1)] [])) t → Steps p.tables e below (s₁.setTop (entryFrame m #[(.ref a1)] 1)) t := fun t k => castTop (ef_8 m a1) k
  obtain ⟨T_q1, X_q1, e_q1, st_q1⟩ := getS2 X0 hx hZ hown (host := "") (Or.inl (own_w hw 20 rfl)) Via.refl e0 S_COMPACT_STRINGS (g := (mkF m 0 #[.val (.ref a1)] [])) rfl (hb hby d8_0)
  obtain ⟨T_q3, X_q3, e_q3, st_q3⟩ := getF X_q1 hx hZ hown (host := "") (Or.inl (own_w hw 24 rfl)) Via.refl e_q1 F_coder_a1 (g := (mkF m 7 #[.val (.ref a1)] [(.ref a1)])) rfl rfl (hb hby d8_7)
  obtain ⟨fs, hr, hrun, hended, hW, hsame⟩ := X_q3.leave (v := some (.int (1 : Int32))) (fun h => by rw [Bd.returns] at h; cases h) Bd.notSynchronized
  refine ⟨_, _, pre0 _ ?_, hrun, hended, _, _, rfl, ?_, ⟨_, rfl⟩, hW, hsame.mono (by decide) (by decide)⟩
  · show Steps p.tables e below (s₁.setTop (mkF m 0 #[.val (.ref a1)] [])) _
    refine st_q1 _ ?_
    refine XS.ifNo X_q1.here hx rfl (hb hby d8_3) rfl ((if0 _ _).trans (feq hc_q2).1) ?_
    refine XS.aloadN X_q1.here hx rfl (hb hby d8_6) rfl rfl ?_
    show Steps p.tables e below (T_q1.setTop (mkF m 7 #[.val (.ref a1)] [(.ref a1)])) _
    refine st_q3 _ ?_
    refine XS.ifNo X_q3.here hx rfl (hb hby d8_10) rfl ((if0 _ _).trans (teq (by decide : (0 : Int32) = (0 : Int32))).2) ?_
    refine XS.iconst X_q3.here hx rfl (hb hby d8_13) ?_
    refine XS.goto X_q3.here hx rfl (pc0 := 14) (pc' := 18) rfl (hb hby d8_14) (by decide) (by decide) ?_
    show Steps p.tables e below (T_q3.setTop (mkF m 18 #[.val (.ref a1)] [(.int (1 : Int32))])) _
    exact retN X_q3 hx (t := .boolean) Bd.returns (by simp) (hb hby d8_18) hr
  · show Q_rmL1 Z a1 cs h0 n0 _ T_q3.heap _
    rw [e_q3]
    exact ⟨rfl, N0, rfl⟩
theorem d18_0 : decode jdk_68_method_64_code 0 = .ok (.aload_n 0, 1) := by decide +kernel
theorem d18_1 : decode jdk_68_method_64_code 1 = .ok (.getfield 15, 3) := by decide +kernel
theorem d18_4 : decode jdk_68_method_64_code 4 = .ok (.areturn, 1) := by decide +kernel
theorem pn_18 : plainName "java/lang/AbstractStringBuilder" = true := by first | (simp [plainName, overriddenIn]; done) | decide +kernel
theorem ef_18 (m : MethodId) (x0 : Addr) : entryFrame m #[(.ref x0)] 1 = mkF m 0 #[.val (.ref x0)] [] := by first | (simp [entryFrame, mkF, argsToLocals, Value.category]; done) | rfl
def Q_rmGV (Z : State) (a1 : Addr) (va : Addr) (h0 : Heap) (n0 : Nat) (v : Option Value) (h : Heap) (L : List Loc) : Prop := v = some (.ref va) ∧ Fr n0 L ∧ h = h0
set_option maxRecDepth 65536 in
set_option maxHeartbeats 40000000 in
theorem rmGV (l : Launch) (Z : State) (a0 : Array Value) (hw : ∀ d ∈ tables_1, d.before a0 Z = true) (ws : List Jvm.Cond) (a1 : Addr) (va : Addr) (h0 : Heap) (n0 : Nat) (Z0 : n0 ≤ h0.size) (F_value_a1 : Fld Z h0 a1 "java/lang/AbstractStringBuilder" "value" "[B" (.ref va)) :
    MetFree l (⟨"java/lang/AbstractStringBuilder", "getValue", "()[B"⟩ : MethodName) (head1 (Jvm.Cond.code (⟨"java/lang/AbstractStringBuilder", "getValue", "()[B"⟩ : MethodName) jdk_68_method_64_code 1 (some (.array .byte)) :: ws) ({ frames := 0, cells := 0, slots := 0, locals := 0 } : Room)) (fun a U => a = #[(.ref a1)] ∧ Z.Warmed39 U.vm ∧ U.heap = h0) (fun _ _ _ _ _ => True) (fun _ U o U' => ∃ v L, o = .returned v ∧ Q_rmGV Z a1 va h0 n0 v U'.heap L ∧ FrameEnd U o U' L ({ frames := 0, cells := 0, slots := 0, locals := 0 } : Room).cells ({ frames := 0, cells := 0, slots := 0, locals := 0 } : Room).slots) := by
  refine MetFree.of_bodySF (plainFor_of_name pn_18) hisR ?_
  intro p e s m args below meth c s₁ Bd hml0 hP hK
  obtain ⟨rfl, hZ, hh⟩ := hP
  have hx := Bd.exec
  have hby := Bd.bytes
  have hml : c.maxLocals = 1 := hml0
  have hown : s.vm.findClass "java/lang/AbstractStringBuilder" = some m.cls := findClass_of_methodNamed Bd.named
  have hnm := (name_of_methodNamed Bd.named Bd.method).1
  have X0 : Stand p l e ({ frames := 0, cells := 0, slots := 0, locals := 0 } : Room) s m #[(.ref a1)] below meth c s₁ [] 0 0 := Stand.of_body Bd
  have e0 : s₁.heap = h0 := by rw [← hh, Bd.state]; rfl
  have N0 := Fr.nil n0
  have pre0 : ∀ t, Steps p.tables e below (s₁.setTop (mkF m 0 #[.val (.ref a1)] [])) t → Steps p.tables e below (s₁.setTop (entryFrame m #[(.ref a1)] 1)) t := fun t k => castTop (ef_18 m a1) k
  obtain ⟨T_q1, X_q1, e_q1, st_q1⟩ := getF X0 hx hZ hown (host := "") (Or.inl (own_w hw 22 rfl)) Via.refl e0 F_value_a1 (g := (mkF m 1 #[.val (.ref a1)] [(.ref a1)])) rfl rfl (hb hby d18_1)
  obtain ⟨fs, hr, hrun, hended, hW, hsame⟩ := X_q1.leave (v := some (.ref va)) (fun h => by rw [Bd.returns] at h; cases h) Bd.notSynchronized
  refine ⟨_, _, pre0 _ ?_, hrun, hended, _, _, rfl, ?_, ⟨_, rfl⟩, hW, hsame.mono (by decide) (by decide)⟩
  · show Steps p.tables e below (s₁.setTop (mkF m 0 #[.val (.ref a1)] [])) _
    refine XS.aloadN X0.here hx rfl (hb hby d18_0) rfl rfl ?_
    show Steps p.tables e below (s₁.setTop (mkF m 1 #[.val (.ref a1)] [(.ref a1)])) _
    refine st_q1 _ ?_
    show Steps p.tables e below (T_q1.setTop (mkF m 4 #[.val (.ref a1)] [(.ref va)])) _
    jvm_step X_q1.here [X_q1.here.top, hx, (hb hby d18_4), X_q1.method', Bd.returns, Value.isRef, FieldType.isReference]
    first | (intro acts; rw [hr _ acts rfl rfl rfl]) | rw [hr _ _ rfl rfl rfl]
    exact Steps.refl _
  · show Q_rmGV Z a1 va h0 n0 _ T_q1.heap _
    rw [e_q1]
    exact ⟨rfl, N0, rfl⟩
theorem d20_0 : decode jdk_68_method_6_code 0 = .ok (.aload_n 0, 1) := by decide +kernel
theorem d20_1 : decode jdk_68_method_6_code 1 = .ok (.getfield 79, 3) := by decide +kernel
theorem d20_4 : decode jdk_68_method_6_code 4 = .ok (.ireturn, 1) := by decide +kernel
theorem pn_20 : plainName "java/lang/AbstractStringBuilder" = true := by first | (simp [plainName, overriddenIn]; done) | decide +kernel
theorem ef_20 (m : MethodId) (x0 : Addr) : entryFrame m #[(.ref x0)] 1 = mkF m 0 #[.val (.ref x0)] [] := by first | (simp [entryFrame, mkF, argsToLocals, Value.category]; done) | rfl
def Q_rmAL (Z : State) (a1 : Addr) (cn : Int32) (h0 : Heap) (n0 : Nat) (v : Option Value) (h : Heap) (L : List Loc) : Prop := v = some (.int cn) ∧ Fr n0 L ∧ h = h0
set_option maxRecDepth 65536 in
set_option maxHeartbeats 40000000 in
theorem rmAL (l : Launch) (Z : State) (a0 : Array Value) (hw : ∀ d ∈ tables_1, d.before a0 Z = true) (ws : List Jvm.Cond) (a1 : Addr) (cn : Int32) (h0 : Heap) (n0 : Nat) (Z0 : n0 ≤ h0.size) (F_count_a1 : Fld Z h0 a1 "java/lang/AbstractStringBuilder" "count" "I" (.int cn)) :
    MetFree l (⟨"java/lang/AbstractStringBuilder", "length", "()I"⟩ : MethodName) (head1 (Jvm.Cond.code (⟨"java/lang/AbstractStringBuilder", "length", "()I"⟩ : MethodName) jdk_68_method_6_code 1 (some .int) :: ws) ({ frames := 0, cells := 0, slots := 0, locals := 0 } : Room)) (fun a U => a = #[(.ref a1)] ∧ Z.Warmed39 U.vm ∧ U.heap = h0) (fun _ _ _ _ _ => True) (fun _ U o U' => ∃ v L, o = .returned v ∧ Q_rmAL Z a1 cn h0 n0 v U'.heap L ∧ FrameEnd U o U' L ({ frames := 0, cells := 0, slots := 0, locals := 0 } : Room).cells ({ frames := 0, cells := 0, slots := 0, locals := 0 } : Room).slots) := by
  refine MetFree.of_bodySF (plainFor_of_name pn_20) hisR ?_
  intro p e s m args below meth c s₁ Bd hml0 hP hK
  obtain ⟨rfl, hZ, hh⟩ := hP
  have hx := Bd.exec
  have hby := Bd.bytes
  have hml : c.maxLocals = 1 := hml0
  have hown : s.vm.findClass "java/lang/AbstractStringBuilder" = some m.cls := findClass_of_methodNamed Bd.named
  have hnm := (name_of_methodNamed Bd.named Bd.method).1
  have X0 : Stand p l e ({ frames := 0, cells := 0, slots := 0, locals := 0 } : Room) s m #[(.ref a1)] below meth c s₁ [] 0 0 := Stand.of_body Bd
  have e0 : s₁.heap = h0 := by rw [← hh, Bd.state]; rfl
  have N0 := Fr.nil n0
  have pre0 : ∀ t, Steps p.tables e below (s₁.setTop (mkF m 0 #[.val (.ref a1)] [])) t → Steps p.tables e below (s₁.setTop (entryFrame m #[(.ref a1)] 1)) t := fun t k => castTop (ef_20 m a1) k
  obtain ⟨T_q1, X_q1, e_q1, st_q1⟩ := getF X0 hx hZ hown (host := "") (Or.inl (own_w hw 36 rfl)) Via.refl e0 F_count_a1 (g := (mkF m 1 #[.val (.ref a1)] [(.ref a1)])) rfl rfl (hb hby d20_1)
  obtain ⟨fs, hr, hrun, hended, hW, hsame⟩ := X_q1.leave (v := some (.int cn)) (fun h => by rw [Bd.returns] at h; cases h) Bd.notSynchronized
  refine ⟨_, _, pre0 _ ?_, hrun, hended, _, _, rfl, ?_, ⟨_, rfl⟩, hW, hsame.mono (by decide) (by decide)⟩
  · show Steps p.tables e below (s₁.setTop (mkF m 0 #[.val (.ref a1)] [])) _
    refine XS.aloadN X0.here hx rfl (hb hby d20_0) rfl rfl ?_
    show Steps p.tables e below (s₁.setTop (mkF m 1 #[.val (.ref a1)] [(.ref a1)])) _
    refine st_q1 _ ?_
    show Steps p.tables e below (T_q1.setTop (mkF m 4 #[.val (.ref a1)] [(.int cn)])) _
    exact retI X_q1 hx Bd.returns (hb hby d20_4) hr
  · show Q_rmAL Z a1 cn h0 n0 _ T_q1.heap _
    rw [e_q1]
    exact ⟨rfl, N0, rfl⟩
theorem d19_0 : decode jdk_67_method_93_code 0 = .ok (.aload_n 0, 1) := by decide +kernel
theorem d19_1 : decode jdk_67_method_93_code 1 = .ok (.invokespecial 343, 3) := by decide +kernel
theorem d19_4 : decode jdk_67_method_93_code 4 = .ok (.ireturn, 1) := by decide +kernel
theorem pn_19 : plainName "java/lang/StringBuilder" = true := by first | (simp [plainName, overriddenIn]; done) | decide +kernel
theorem pd___I : parseMethodDescriptor "()I" = some ⟨[], some .int⟩ := by decide +kernel
theorem ef_19 (m : MethodId) (x0 : Addr) : entryFrame m #[(.ref x0)] 1 = mkF m 0 #[.val (.ref x0)] [] := by first | (simp [entryFrame, mkF, argsToLocals, Value.category]; done) | rfl
def Q_rmSL (Z : State) (a1 : Addr) (cn : Int32) (h0 : Heap) (n0 : Nat) (v : Option Value) (h : Heap) (L : List Loc) : Prop := v = some (.int cn) ∧ Fr n0 L ∧ h = h0
set_option maxRecDepth 65536 in
set_option maxHeartbeats 40000000 in
theorem rmSL (l : Launch) (Z : State) (a0 : Array Value) (hw : ∀ d ∈ tables_1, d.before a0 Z = true) (ws : List Jvm.Cond) (a1 : Addr) (cn : Int32) (h0 : Heap) (n0 : Nat) (Z0 : n0 ≤ h0.size) (EX_a1 : Exa Z h0 a1 "java/lang/StringBuilder") (F_count_a1 : Fld Z h0 a1 "java/lang/AbstractStringBuilder" "count" "I" (.int cn)) :
    MetFree l (⟨"java/lang/StringBuilder", "length", "()I"⟩ : MethodName) (head1 (Jvm.Cond.code (⟨"java/lang/StringBuilder", "length", "()I"⟩ : MethodName) jdk_67_method_93_code 1 (some .int) :: ws) ({ frames := 1, cells := 0, slots := 0, locals := 14 } : Room)) (fun a U => a = #[(.ref a1)] ∧ Z.Warmed39 U.vm ∧ U.heap = h0) (fun _ _ _ _ _ => True) (fun _ U o U' => ∃ v L, o = .returned v ∧ Q_rmSL Z a1 cn h0 n0 v U'.heap L ∧ FrameEnd U o U' L ({ frames := 1, cells := 0, slots := 0, locals := 14 } : Room).cells ({ frames := 1, cells := 0, slots := 0, locals := 14 } : Room).slots) := by
  refine MetFree.of_bodySF (plainFor_of_name pn_19) hisR ?_
  intro p e s m args below meth c s₁ Bd hml0 hP hK
  obtain ⟨rfl, hZ, hh⟩ := hP
  have hx := Bd.exec
  have hby := Bd.bytes
  have hml : c.maxLocals = 1 := hml0
  have hown : s.vm.findClass "java/lang/StringBuilder" = some m.cls := findClass_of_methodNamed Bd.named
  have hnm := (name_of_methodNamed Bd.named Bd.method).1
  have X0 : Stand p l e ({ frames := 1, cells := 0, slots := 0, locals := 14 } : Room) s m #[(.ref a1)] below meth c s₁ [] 0 0 := Stand.of_body Bd
  have e0 : s₁.heap = h0 := by rw [← hh, Bd.state]; rfl
  have N0 := Fr.nil n0
  have pre0 : ∀ t, Steps p.tables e below (s₁.setTop (mkF m 0 #[.val (.ref a1)] [])) t → Steps p.tables e below (s₁.setTop (entryFrame m #[(.ref a1)] 1)) t := fun t k => castTop (ef_19 m a1) k
  have K0 : Keep h0 h0 [] := Keep.refl _ _
  obtain ⟨_, _, ⟨T_q1, L_q1, k_q1, n_q1⟩, -, X_q1, ⟨Lc_q1, hQ_q1, l_q1, y_q1, z_q1⟩, st_q1⟩ := superBack X0 hx hZ (y := (⟨"java/lang/AbstractStringBuilder", "length", "()I"⟩ : MethodName)) hown (own_w hw 106 rfl) (own_same (y := (⟨"java/lang/AbstractStringBuilder", "length", "()I"⟩ : MethodName)) (y' := ({ cls := "java/lang/AbstractStringBuilder", name := "ensureCapacityInternal", desc := "(I)V" } : Jvm.MethodName)) (by decide) rfl (own_w hw 41 rfl) (own_w hw 102 rfl)) (own_w hw 102 rfl) (own_w hw 33 rfl) (by decide) (backOf (W := 0) (rmAL l Z a0 hw [] a1 cn h0 n0 (Nat.le_trans Z0 K0.1) F_count_a1) hZ (own_w hw 107 rfl) (own_w hw 15 rfl) (by decide) (by decide)) e0 (Ins.self EX_a1) (g := (mkF m 1 #[.val (.ref a1)] [(.ref a1)])) rfl (by rw [hml]; rfl) (own_w hw 107 rfl) (argsL := []) (rest := []) (lenOf pd___I rfl) rfl (by show 2 * 0 + _ ≤ _; exact Nat.le_of_eq rfl) (hb hby d19_1) (fun _ _ => ⟨rfl, e0, (by decide : 0 + 0 ≤ _), (by decide : 0 + 0 ≤ _)⟩)
  dsimp only [Pt.U, Pt.locs, Pt.cells, Pt.slots] at X_q1 l_q1 y_q1 z_q1 st_q1 hQ_q1
  subst l_q1 y_q1 z_q1
  obtain ⟨rfl, Nq_q1, eq_q1⟩ := hQ_q1
  have N_q1 := Fr.app N0 Nq_q1
  obtain ⟨fs, hr, hrun, hended, hW, hsame⟩ := X_q1.leave (v := some (.int cn)) (fun h => by rw [Bd.returns] at h; cases h) Bd.notSynchronized
  refine ⟨_, _, pre0 _ ?_, hrun, hended, _, _, rfl, ?_, ⟨_, rfl⟩, hW, hsame.mono (by decide) (by decide)⟩
  · show Steps p.tables e below (s₁.setTop (mkF m 0 #[.val (.ref a1)] [])) _
    refine XS.aloadN X0.here hx rfl (hb hby d19_0) rfl rfl ?_
    show Steps p.tables e below (s₁.setTop (mkF m 1 #[.val (.ref a1)] [(.ref a1)])) _
    refine st_q1.trans ?_
    show Steps p.tables e below (T_q1.setTop (mkF m 4 #[.val (.ref a1)] [(.int cn)])) _
    exact retI X_q1 hx Bd.returns (hb hby d19_4) hr
  · show Q_rmSL Z a1 cn h0 n0 _ T_q1.heap _
    exact ⟨rfl, N_q1, by rw [eq_q1]⟩
theorem d3_0 : decode jdk_68_method_2_code 0 = .ok (.aload_n 0, 1) := by decide +kernel
theorem d3_1 : decode jdk_68_method_2_code 1 = .ok (.invokespecial 3, 3) := by decide +kernel
theorem d3_4 : decode jdk_68_method_2_code 4 = .ok (.getstatic 18, 3) := by decide +kernel
theorem d3_7 : decode jdk_68_method_2_code 7 = .ok (.ifCond .eq 18, 3) := by decide +kernel
theorem d3_10 : decode jdk_68_method_2_code 10 = .ok (.aload_n 0, 1) := by decide +kernel
theorem d3_11 : decode jdk_68_method_2_code 11 = .ok (.iload_n 1, 1) := by decide +kernel
theorem d3_12 : decode jdk_68_method_2_code 12 = .ok (.newarray .byte, 2) := by decide +kernel
theorem d3_14 : decode jdk_68_method_2_code 14 = .ok (.putfield 15, 3) := by decide +kernel
theorem d3_17 : decode jdk_68_method_2_code 17 = .ok (.aload_n 0, 1) := by decide +kernel
theorem d3_18 : decode jdk_68_method_2_code 18 = .ok (.iconst 0, 1) := by decide +kernel
theorem d3_19 : decode jdk_68_method_2_code 19 = .ok (.putfield 22, 3) := by decide +kernel
theorem d3_22 : decode jdk_68_method_2_code 22 = .ok (.goto 16, 3) := by decide +kernel
theorem d3_38 : decode jdk_68_method_2_code 38 = .ok (.return_, 1) := by decide +kernel
theorem pn_3 : plainName "java/lang/AbstractStringBuilder" = true := by first | (simp [plainName, overriddenIn]; done) | decide +kernel
theorem ef_3 (m : MethodId) (x0 : Addr) (x1 : Int32) : entryFrame m #[(.ref x0), (.int x1)] 2 = mkF m 0 #[.val (.ref x0), .val (.int x1)] [] := by first | (simp [entryFrame, mkF, argsToLocals, Value.category]; done) | rfl
def Q_rmAI (Z : State) (a1 : Addr) (cs : Int32) (p2 : Int32) (h0 : Heap) (n0 : Nat) (v : Option Value) (h : Heap) (L : List Loc) : Prop := ∃ (r1 : Addr) (kr1 : ClassId), v = none ∧ Fr n0 L ∧ Keep h0 h [a1] ∧ h0.size ≤ r1 ∧ Fld Z h a1 "java/lang/AbstractStringBuilder" "value" "[B" (.ref r1) ∧ Fld Z h a1 "java/lang/AbstractStringBuilder" "coder" "B" (.int (0 : Int32)) ∧ Fld Z h a1 "java/lang/AbstractStringBuilder" "count" "I" (.int (0 : Int32)) ∧ Arv Z h r1 kr1 .byte p2 (List.replicate (p2).toNatClampNeg (.int (0 : Int32))) (.int (0 : Int32)) ∧ Exa Z h r1 "[B"
set_option maxRecDepth 65536 in
set_option maxHeartbeats 40000000 in
theorem rmAI (l : Launch) (Z : State) (a0 : Array Value) (hw : ∀ d ∈ tables_1, d.before a0 Z = true) (ws : List Jvm.Cond) (a1 : Addr) (cs : Int32) (p2 : Int32) (h0 : Heap) (n0 : Nat) (Z0 : n0 ≤ h0.size) (EX_a1 : Exa Z h0 a1 "java/lang/StringBuilder") (F_value_a1 : Fld Z h0 a1 "java/lang/AbstractStringBuilder" "value" "[B" .null) (F_coder_a1 : Fld Z h0 a1 "java/lang/AbstractStringBuilder" "coder" "B" (.int (0 : Int32))) (F_count_a1 : Fld Z h0 a1 "java/lang/AbstractStringBuilder" "count" "I" (.int (0 : Int32))) (S_COMPACT_STRINGS : Sta Z h0 "java/lang/String" "COMPACT_STRINGS" "Z" (.int cs)) (ge_a1 : n0 ≤ a1) (hc_q3 : ¬ (cs = (0 : Int32))) (hc_q5 : ¬ (p2) < 0) (hc_q6 : (p2).toNatClampNeg ≤ 3) :
    MetFree l (⟨"java/lang/AbstractStringBuilder", "<init>", "(I)V"⟩ : MethodName) (head1 (Jvm.Cond.code (⟨"java/lang/AbstractStringBuilder", "<init>", "(I)V"⟩ : MethodName) jdk_68_method_2_code 2 none :: ws) ({ frames := 1, cells := 1, slots := 3, locals := 60 } : Room)) (fun a U => a = #[(.ref a1), (.int p2)] ∧ Z.Warmed39 U.vm ∧ U.heap = h0) (fun _ _ _ _ _ => True) (fun _ U o U' => ∃ v L, o = .returned v ∧ Q_rmAI Z a1 cs p2 h0 n0 v U'.heap L ∧ FrameEnd U o U' L ({ frames := 1, cells := 1, slots := 3, locals := 60 } : Room).cells ({ frames := 1, cells := 1, slots := 3, locals := 60 } : Room).slots) := by
  refine MetFree.of_bodySF (plainFor_of_name pn_3) hisR ?_
  intro p e s m args below meth c s₁ Bd hml0 hP hK
  obtain ⟨rfl, hZ, hh⟩ := hP
  have hx := Bd.exec
  have hby := Bd.bytes
  have hml : c.maxLocals = 2 := hml0
  have hown : s.vm.findClass "java/lang/AbstractStringBuilder" = some m.cls := findClass_of_methodNamed Bd.named
  have hnm := (name_of_methodNamed Bd.named Bd.method).1
  have X0 : Stand p l e ({ frames := 1, cells := 1, slots := 3, locals := 60 } : Room) s m #[(.ref a1), (.int p2)] below meth c s₁ [] 0 0 := Stand.of_body Bd
  have e0 : s₁.heap = h0 := by rw [← hh, Bd.state]; rfl
  have N0 := Fr.nil n0
  have pre0 : ∀ t, Steps p.tables e below (s₁.setTop (mkF m 0 #[.val (.ref a1), .val (.int p2)] [])) t → Steps p.tables e below (s₁.setTop (entryFrame m #[(.ref a1), (.int p2)] 2)) t := fun t k => castTop (ef_3 m a1 p2) k
  have K0 : Keep h0 h0 [a1] := Keep.refl _ _
  obtain ⟨T_q1, X_q1, e_q1, st_q1⟩ := initO X0 hx hZ hown (own_w hw 17 rfl) (own_w hw 18 rfl) (own_w hw 19 rfl) e0 (g := (mkF m 1 #[.val (.ref a1), .val (.int p2)] [(.ref a1)])) rfl (by rw [hml]; rfl) rfl (hb hby d3_1) (by decide) (W := 0) (by show 2 * 0 + _ ≤ _; exact Nat.le_of_eq rfl) (by decide)
  obtain ⟨T_q2, X_q2, e_q2, st_q2⟩ := getS2 X_q1 hx hZ hown (host := "") (Or.inl (own_w hw 20 rfl)) Via.refl e_q1 S_COMPACT_STRINGS (g := (mkF m 4 #[.val (.ref a1), .val (.int p2)] [])) rfl (hb hby d3_4)
  obtain ⟨T_q4, h_q4, k_q4, X_q4, e_q4, E_q4, A_q4, EX_q4, st_q4⟩ := newPE X_q2 hx hZ (own_w hw 0 rfl) e_q2 (g := (mkF m 12 #[.val (.ref a1), .val (.int p2)] [(.int p2), (.ref a1)])) rfl (hb hby d3_12) rfl hc_q5 (cap := 3) hc_q6 (by decide) (by decide) (by decide) (ad := "[B") (by decide)
  obtain ⟨b_q4, g_q4⟩ : ∃ z, z = h0.size := ⟨_, rfl⟩
  rw [← g_q4] at A_q4 EX_q4 st_q4
  have ne_a1_b_q4 : a1 ≠ b_q4 := Nat.ne_of_lt (Nat.lt_of_lt_of_le EX_a1.lt (Nat.le_of_eq g_q4.symm))
  have sz_b_q4 : h0.size ≤ b_q4 := Nat.le_trans K0.1 (Nat.le_of_eq g_q4.symm)
  have K_q4 : Keep h0 h_q4 [a1] := K0.ext E_q4
  have EX_a1__q4 := EX_a1.ext E_q4
  have F_value_a1__q4 := F_value_a1.ext E_q4
  have F_coder_a1__q4 := F_coder_a1.ext E_q4
  have F_count_a1__q4 := F_count_a1.ext E_q4
  have V_b_q4 : Arv Z h_q4 b_q4 k_q4 .byte p2 [] (.int (0 : Int32)) := (Arv.new A_q4 hc_q5).pad (pad_rep [] (.int (0 : Int32)) 0)
  have V_b_q4_r : Arv Z h_q4 b_q4 k_q4 .byte p2 (List.replicate (p2).toNatClampNeg (.int (0 : Int32))) (.int (0 : Int32)) := V_b_q4.pad (own_rep _ _)
  obtain ⟨T_q7, h_q7, X_q7, e_q7, W_q7, st_q7⟩ := putF X_q4 hx hZ hown (host := "") (Or.inl (own_w hw 22 rfl)) Via.refl e_q4 F_value_a1__q4 EX_a1__q4 (Or.inl (own_w hw 23 rfl)) (own_w hw 6 rfl) (ty := (.array .byte)) (by decide) rfl rfl (g := (mkF m 14 #[.val (.ref a1), .val (.int p2)] [(.ref b_q4), (.ref a1)])) rfl rfl (hb hby d3_14)
  have EX_a1__q7 := EX_a1__q4.wr W_q7
  have F_coder_a1__q7 := F_coder_a1__q4.other W_q7 (Or.inr (slot_ne (Or.inl (own_w hw 25 rfl)) (Or.inl (own_w hw 23 rfl)) (by decide) (t := .byte) (t' := (.array .byte)) (by decide) (by decide)))
  have F_count_a1__q7 := F_count_a1__q4.other W_q7 (Or.inr (slot_ne (Or.inl (own_w hw 37 rfl)) (Or.inl (own_w hw 23 rfl)) (by decide) (t := .int) (t' := (.array .byte)) (by decide) (by decide)))
  have V_b_q4_r__q7 := V_b_q4_r.other W_q7 (Ne.symm ne_a1_b_q4)
  have EX_q4__q7 := EX_q4.wr W_q7
  have F_value_a1__q7 := F_value_a1__q4.same W_q7
  have K_q7 : Keep h0 h_q7 [a1] := K_q4.wr W_q7 (Or.inl (List.mem_of_getElem? (i := 0) rfl))
  have N_q7 := Fr.snoc X_q7 N0 ge_a1
  obtain ⟨T_q8, h_q8, X_q8, e_q8, W_q8, st_q8⟩ := putF X_q7 hx hZ hown (host := "") (Or.inl (own_w hw 24 rfl)) Via.refl e_q7 F_coder_a1__q7 EX_a1__q7 (Or.inl (own_w hw 25 rfl)) (own_w hw 6 rfl) (ty := .byte) (by decide) rfl rfl (g := (mkF m 19 #[.val (.ref a1), .val (.int p2)] [(.int (0 : Int32)), (.ref a1)])) rfl rfl (hb hby d3_19)
  have F_value_a1__q8 := F_value_a1__q7.other W_q8 (Or.inr (slot_ne (Or.inl (own_w hw 23 rfl)) (Or.inl (own_w hw 25 rfl)) (by decide) (t := (.array .byte)) (t' := .byte) (by decide) (by decide)))
  have F_count_a1__q8 := F_count_a1__q7.other W_q8 (Or.inr (slot_ne (Or.inl (own_w hw 37 rfl)) (Or.inl (own_w hw 25 rfl)) (by decide) (t := .int) (t' := .byte) (by decide) (by decide)))
  have V_b_q4_r__q8 := V_b_q4_r__q7.other W_q8 (Ne.symm ne_a1_b_q4)
  have EX_q4__q8 := EX_q4__q7.wr W_q8
  have F_coder_a1__q8 := F_coder_a1__q7.same W_q8
  have K_q8 : Keep h0 h_q8 [a1] := K_q7.wr W_q8 (Or.inl (List.mem_of_getElem? (i := 0) rfl))
  have N_q8 := Fr.snoc X_q8 N_q7 ge_a1
  obtain ⟨fs, hr, hrun, hended, hW, hsame⟩ := X_q8.leave (v := none) (fun _ => rfl) Bd.notSynchronized
  refine ⟨_, _, pre0 _ ?_, hrun, hended, _, _, rfl, ?_, ⟨_, rfl⟩, hW, hsame.mono (by decide) (by decide)⟩
  · show Steps p.tables e below (s₁.setTop (mkF m 0 #[.val (.ref a1), .val (.int p2)] [])) _
    refine XS.aloadN X0.here hx rfl (hb hby d3_0) rfl rfl ?_
    show Steps p.tables e below (s₁.setTop (mkF m 1 #[.val (.ref a1), .val (.int p2)] [(.ref a1)])) _
    refine st_q1 _ ?_
    show Steps p.tables e below (T_q1.setTop (mkF m 4 #[.val (.ref a1), .val (.int p2)] [])) _
    refine st_q2 _ ?_
    refine XS.ifNo X_q2.here hx rfl (hb hby d3_7) rfl ((if0 _ _).trans (feq hc_q3).1) ?_
    refine XS.aloadN X_q2.here hx rfl (hb hby d3_10) rfl rfl ?_
    refine XS.iloadN X_q2.here hx rfl (hb hby d3_11) rfl ?_
    show Steps p.tables e below (T_q2.setTop (mkF m 12 #[.val (.ref a1), .val (.int p2)] [(.int p2), (.ref a1)])) _
    refine st_q4 _ ?_
    show Steps p.tables e below (T_q4.setTop (mkF m 14 #[.val (.ref a1), .val (.int p2)] [(.ref b_q4), (.ref a1)])) _
    refine st_q7 _ ?_
    refine XS.aloadN X_q7.here hx rfl (hb hby d3_17) rfl rfl ?_
    refine XS.iconst X_q7.here hx rfl (hb hby d3_18) ?_
    show Steps p.tables e below (T_q7.setTop (mkF m 19 #[.val (.ref a1), .val (.int p2)] [(.int (0 : Int32)), (.ref a1)])) _
    refine st_q8 _ ?_
    refine XS.goto X_q8.here hx rfl (pc0 := 22) (pc' := 38) rfl (hb hby d3_22) (by decide) (by decide) ?_
    show Steps p.tables e below (T_q8.setTop (mkF m 38 #[.val (.ref a1), .val (.int p2)] [])) _
    exact X_q8.returnOut hx Bd.returns (hb hby d3_38) hr
  · show Q_rmAI Z a1 cs p2 h0 n0 _ T_q8.heap _
    rw [e_q8]
    exact ⟨b_q4, k_q4, rfl, N_q8, K_q8, sz_b_q4, F_value_a1__q8, F_coder_a1__q8, F_count_a1__q8, V_b_q4_r__q8, EX_q4__q8⟩
theorem d2_0 : decode jdk_67_method_2_code 0 = .ok (.aload_n 0, 1) := by decide +kernel
theorem d2_1 : decode jdk_67_method_2_code 1 = .ok (.iload_n 1, 1) := by decide +kernel
theorem d2_2 : decode jdk_67_method_2_code 2 = .ok (.invokespecial 1, 3) := by decide +kernel
theorem d2_5 : decode jdk_67_method_2_code 5 = .ok (.return_, 1) := by decide +kernel
theorem pn_2 : plainName "java/lang/StringBuilder" = true := by first | (simp [plainName, overriddenIn]; done) | decide +kernel
theorem pd__I_V : parseMethodDescriptor "(I)V" = some ⟨[.int], none⟩ := by decide +kernel
theorem ef_2 (m : MethodId) (x0 : Addr) (x1 : Int32) : entryFrame m #[(.ref x0), (.int x1)] 2 = mkF m 0 #[.val (.ref x0), .val (.int x1)] [] := by first | (simp [entryFrame, mkF, argsToLocals, Value.category]; done) | rfl
def Q_rmSI (Z : State) (a1 : Addr) (cs : Int32) (p2 : Int32) (h0 : Heap) (n0 : Nat) (v : Option Value) (h : Heap) (L : List Loc) : Prop := ∃ (r1 : Addr) (kr1 : ClassId), v = none ∧ Fr n0 L ∧ Keep h0 h [a1] ∧ h0.size ≤ r1 ∧ Fld Z h a1 "java/lang/AbstractStringBuilder" "value" "[B" (.ref r1) ∧ Fld Z h a1 "java/lang/AbstractStringBuilder" "coder" "B" (.int (0 : Int32)) ∧ Fld Z h a1 "java/lang/AbstractStringBuilder" "count" "I" (.int (0 : Int32)) ∧ Arv Z h r1 kr1 .byte p2 (List.replicate (p2).toNatClampNeg (.int (0 : Int32))) (.int (0 : Int32)) ∧ Exa Z h r1 "[B"
set_option maxRecDepth 65536 in
set_option maxHeartbeats 40000000 in
theorem rmSI (l : Launch) (Z : State) (a0 : Array Value) (hw : ∀ d ∈ tables_1, d.before a0 Z = true) (ws : List Jvm.Cond) (a1 : Addr) (cs : Int32) (p2 : Int32) (h0 : Heap) (n0 : Nat) (Z0 : n0 ≤ h0.size) (EX_a1 : Exa Z h0 a1 "java/lang/StringBuilder") (F_value_a1 : Fld Z h0 a1 "java/lang/AbstractStringBuilder" "value" "[B" .null) (F_coder_a1 : Fld Z h0 a1 "java/lang/AbstractStringBuilder" "coder" "B" (.int (0 : Int32))) (F_count_a1 : Fld Z h0 a1 "java/lang/AbstractStringBuilder" "count" "I" (.int (0 : Int32))) (S_COMPACT_STRINGS : Sta Z h0 "java/lang/String" "COMPACT_STRINGS" "Z" (.int cs)) (ge_a1 : n0 ≤ a1) (hc_q2 : ¬ (cs = (0 : Int32))) (hc_q3 : ¬ (p2) < 0) (hc_q4 : (p2).toNatClampNeg ≤ 3) :
    MetFree l (⟨"java/lang/StringBuilder", "<init>", "(I)V"⟩ : MethodName) (head1 (Jvm.Cond.code (⟨"java/lang/StringBuilder", "<init>", "(I)V"⟩ : MethodName) jdk_67_method_2_code 2 none :: ws) ({ frames := 2, cells := 1, slots := 3, locals := 75 } : Room)) (fun a U => a = #[(.ref a1), (.int p2)] ∧ Z.Warmed39 U.vm ∧ U.heap = h0) (fun _ _ _ _ _ => True) (fun _ U o U' => ∃ v L, o = .returned v ∧ Q_rmSI Z a1 cs p2 h0 n0 v U'.heap L ∧ FrameEnd U o U' L ({ frames := 2, cells := 1, slots := 3, locals := 75 } : Room).cells ({ frames := 2, cells := 1, slots := 3, locals := 75 } : Room).slots) := by
  refine MetFree.of_bodySF (plainFor_of_name pn_2) hisR ?_
  intro p e s m args below meth c s₁ Bd hml0 hP hK
  obtain ⟨rfl, hZ, hh⟩ := hP
  have hx := Bd.exec
  have hby := Bd.bytes
  have hml : c.maxLocals = 2 := hml0
  have hown : s.vm.findClass "java/lang/StringBuilder" = some m.cls := findClass_of_methodNamed Bd.named
  have hnm := (name_of_methodNamed Bd.named Bd.method).1
  have X0 : Stand p l e ({ frames := 2, cells := 1, slots := 3, locals := 75 } : Room) s m #[(.ref a1), (.int p2)] below meth c s₁ [] 0 0 := Stand.of_body Bd
  have e0 : s₁.heap = h0 := by rw [← hh, Bd.state]; rfl
  have N0 := Fr.nil n0
  have pre0 : ∀ t, Steps p.tables e below (s₁.setTop (mkF m 0 #[.val (.ref a1), .val (.int p2)] [])) t → Steps p.tables e below (s₁.setTop (entryFrame m #[(.ref a1), (.int p2)] 2)) t := fun t k => castTop (ef_2 m a1 p2) k
  have K0 : Keep h0 h0 [a1] := Keep.refl _ _
  obtain ⟨_, _, ⟨T_q1, L_q1, k_q1, n_q1⟩, -, X_q1, ⟨Lc_q1, hQ_q1, l_q1, y_q1, z_q1⟩, st_q1⟩ := X0.specialBack hx (y := (⟨"java/lang/AbstractStringBuilder", "<init>", "(I)V"⟩ : MethodName)) rfl hown (mvT hZ (own_w hw 11 rfl)) (mvT hZ (own_w hw 12 rfl)) (mvT hZ (own_w hw 16 rfl)) (by decide) (backOf (W := 0) (rmAI l Z a0 hw [] a1 cs p2 h0 n0 (Nat.le_trans Z0 K0.1) EX_a1 F_value_a1 F_coder_a1 F_count_a1 S_COMPACT_STRINGS ge_a1 hc_q2 hc_q3 hc_q4) hZ (own_w hw 16 rfl) (own_w hw 15 rfl) (by decide) (by decide)) (g := (mkF m 2 #[.val (.ref a1), .val (.int p2)] [(.int p2), (.ref a1)])) rfl (by rw [hml]; rfl) (Steps.refl _) (a := a1) (argsL := [(.int p2)]) (rest := []) (lenOf pd__I_V rfl) rfl (by show 2 * 0 + _ ≤ _; exact Nat.le_of_eq rfl) (hb hby d2_2) (fun _ _ => ⟨rfl, e0, (by decide : 0 + 1 ≤ _), (by decide : 0 + 3 ≤ _)⟩)
  dsimp only [Pt.U, Pt.locs, Pt.cells, Pt.slots] at X_q1 l_q1 y_q1 z_q1 st_q1 hQ_q1
  subst l_q1 y_q1 z_q1
  obtain ⟨r1_q1, kr1_q1, rfl, Nq_q1, Kq_q1, sz0_r1_q1, O0_q1, O1_q1, O2_q1, O3_q1, O4_q1⟩ := hQ_q1
  have N_q1 := Fr.app N0 Nq_q1
  have sz_r1_q1 : h0.size ≤ r1_q1 := Nat.le_trans K0.1 sz0_r1_q1
  have K_q1 : Keep h0 T_q1.heap [a1] := K0.trans Kq_q1 (allS (Or.inl (List.mem_of_getElem? (i := 0) rfl)) all0)
  obtain ⟨fs, hr, hrun, hended, hW, hsame⟩ := X_q1.leave (v := none) (fun _ => rfl) Bd.notSynchronized
  refine ⟨_, _, pre0 _ ?_, hrun, hended, _, _, rfl, ?_, ⟨_, rfl⟩, hW, hsame.mono (by decide) (by decide)⟩
  · show Steps p.tables e below (s₁.setTop (mkF m 0 #[.val (.ref a1), .val (.int p2)] [])) _
    refine XS.aloadN X0.here hx rfl (hb hby d2_0) rfl rfl ?_
    refine XS.iloadN X0.here hx rfl (hb hby d2_1) rfl ?_
    show Steps p.tables e below (s₁.setTop (mkF m 2 #[.val (.ref a1), .val (.int p2)] [(.int p2), (.ref a1)])) _
    refine st_q1.trans ?_
    show Steps p.tables e below (T_q1.setTop (mkF m 5 #[.val (.ref a1), .val (.int p2)] [])) _
    exact X_q1.returnOut hx Bd.returns (hb hby d2_5) hr
  · show Q_rmSI Z a1 cs p2 h0 n0 _ T_q1.heap _
    exact ⟨r1_q1, kr1_q1, rfl, N_q1, K_q1, sz_r1_q1, O0_q1, O1_q1, O2_q1, O3_q1, O4_q1⟩
theorem d7_0 : decode jdk_68_method_9_code 0 = .ok (.aload_n 0, 1) := by decide +kernel
theorem d7_1 : decode jdk_68_method_9_code 1 = .ok (.getfield 15, 3) := by decide +kernel
theorem d7_4 : decode jdk_68_method_9_code 4 = .ok (.arraylength, 1) := by decide +kernel
theorem d7_5 : decode jdk_68_method_9_code 5 = .ok (.aload_n 0, 1) := by decide +kernel
theorem d7_6 : decode jdk_68_method_9_code 6 = .ok (.getfield 22, 3) := by decide +kernel
theorem d7_9 : decode jdk_68_method_9_code 9 = .ok (.ishr, 1) := by decide +kernel
theorem d7_10 : decode jdk_68_method_9_code 10 = .ok (.istore_n 2, 1) := by decide +kernel
theorem d7_11 : decode jdk_68_method_9_code 11 = .ok (.iload_n 1, 1) := by decide +kernel
theorem d7_12 : decode jdk_68_method_9_code 12 = .ok (.iload_n 2, 1) := by decide +kernel
theorem d7_13 : decode jdk_68_method_9_code 13 = .ok (.isub, 1) := by decide +kernel
theorem d7_14 : decode jdk_68_method_9_code 14 = .ok (.ifCond .le 24, 3) := by decide +kernel
theorem d7_38 : decode jdk_68_method_9_code 38 = .ok (.return_, 1) := by decide +kernel
theorem pn_7 : plainName "java/lang/AbstractStringBuilder" = true := by first | (simp [plainName, overriddenIn]; done) | decide +kernel
theorem ef_7 (m : MethodId) (x0 : Addr) (x1 : Int32) : entryFrame m #[(.ref x0), (.int x1)] 3 = mkF m 0 #[.val (.ref x0), .val (.int x1), .unset] [] := by first | (simp [entryFrame, mkF, argsToLocals, Value.category]; done) | rfl
def Q_rmE (Z : State) (a1 va : Addr) (k1 : ClassId) (zl : Int32) (lv : List Value) (p2 : Int32) (h0 : Heap) (n0 : Nat) (v : Option Value) (h : Heap) (L : List Loc) : Prop := v = none ∧ Fr n0 L ∧ h = h0
set_option maxRecDepth 65536 in
set_option maxHeartbeats 40000000 in
theorem rmE (l : Launch) (Z : State) (a0 : Array Value) (hw : ∀ d ∈ tables_1, d.before a0 Z = true) (ws : List Jvm.Cond) (a1 va : Addr) (k1 : ClassId) (zl : Int32) (lv : List Value) (p2 : Int32) (h0 : Heap) (n0 : Nat) (Z0 : n0 ≤ h0.size) (F_value_a1 : Fld Z h0 a1 "java/lang/AbstractStringBuilder" "value" "[B" (.ref va)) (F_coder_a1 : Fld Z h0 a1 "java/lang/AbstractStringBuilder" "coder" "B" (.int (0 : Int32))) (V_va : Arv Z h0 va k1 .byte zl lv (.int (0 : Int32))) (hc_q4 : ¬ ((0 : Int32) < (p2 - (zl >>> ((0 : Int32) &&& 31))))) :
    MetFree l (⟨"java/lang/AbstractStringBuilder", "ensureCapacityInternal", "(I)V"⟩ : MethodName) (head1 (Jvm.Cond.code (⟨"java/lang/AbstractStringBuilder", "ensureCapacityInternal", "(I)V"⟩ : MethodName) jdk_68_method_9_code 3 none :: ws) ({ frames := 0, cells := 0, slots := 0, locals := 0 } : Room)) (fun a U => a = #[(.ref a1), (.int p2)] ∧ Z.Warmed39 U.vm ∧ U.heap = h0) (fun _ _ _ _ _ => True) (fun _ U o U' => ∃ v L, o = .returned v ∧ Q_rmE Z a1 va k1 zl lv p2 h0 n0 v U'.heap L ∧ FrameEnd U o U' L ({ frames := 0, cells := 0, slots := 0, locals := 0 } : Room).cells ({ frames := 0, cells := 0, slots := 0, locals := 0 } : Room).slots) := by
  refine MetFree.of_bodySF (plainFor_of_name pn_7) hisR ?_
  intro p e s m args below meth c s₁ Bd hml0 hP hK
  obtain ⟨rfl, hZ, hh⟩ := hP
  have hx := Bd.exec
  have hby := Bd.bytes
  have hml : c.maxLocals = 3 := hml0
  have hown : s.vm.findClass "java/lang/AbstractStringBuilder" = some m.cls := findClass_of_methodNamed Bd.named
  have hnm := (name_of_methodNamed Bd.named Bd.method).1
  have X0 : Stand p l e ({ frames := 0, cells := 0, slots := 0, locals := 0 } : Room) s m #[(.ref a1), (.int p2)] below meth c s₁ [] 0 0 := Stand.of_body Bd
  have e0 : s₁.heap = h0 := by rw [← hh, Bd.state]; rfl
  have N0 := Fr.nil n0
  have pre0 : ∀ t, Steps p.tables e below (s₁.setTop (mkF m 0 #[.val (.ref a1), .val (.int p2), .unset] [])) t → Steps p.tables e below (s₁.setTop (entryFrame m #[(.ref a1), (.int p2)] 3)) t := fun t k => castTop (ef_7 m a1 p2) k
  obtain ⟨T_q1, X_q1, e_q1, st_q1⟩ := getF X0 hx hZ hown (host := "") (Or.inl (own_w hw 22 rfl)) Via.refl e0 F_value_a1 (g := (mkF m 1 #[.val (.ref a1), .val (.int p2), .unset] [(.ref a1)])) rfl rfl (hb hby d7_1)
  obtain ⟨cl_q2, Ar_q2, qk_q2, S_q2, Nn_q2, H_q2, G_q2⟩ := id V_va
  obtain ⟨T_q3, X_q3, e_q3, st_q3⟩ := getF X_q1 hx hZ hown (host := "") (Or.inl (own_w hw 24 rfl)) Via.refl e_q1 F_coder_a1 (g := (mkF m 6 #[.val (.ref a1), .val (.int p2), .unset] [(.ref a1), (.int zl)])) rfl rfl (hb hby d7_6)
  obtain ⟨fs, hr, hrun, hended, hW, hsame⟩ := X_q3.leave (v := none) (fun _ => rfl) Bd.notSynchronized
  refine ⟨_, _, pre0 _ ?_, hrun, hended, _, _, rfl, ?_, ⟨_, rfl⟩, hW, hsame.mono (by decide) (by decide)⟩
  · show Steps p.tables e below (s₁.setTop (mkF m 0 #[.val (.ref a1), .val (.int p2), .unset] [])) _
    refine XS.aloadN X0.here hx rfl (hb hby d7_0) rfl rfl ?_
    show Steps p.tables e below (s₁.setTop (mkF m 1 #[.val (.ref a1), .val (.int p2), .unset] [(.ref a1)])) _
    refine st_q1 _ ?_
    show Steps p.tables e below (T_q1.setTop (mkF m 4 #[.val (.ref a1), .val (.int p2), .unset] [(.ref va)])) _
    refine X_q1.arraylength hx (by rw [e_q1]; exact Ar_q2.1) (State.isArrayOf_alike hZ.alike Ar_q2.2.1) (g := (mkF m 4 #[.val (.ref a1), .val (.int p2), .unset] [(.ref va)])) rfl rfl (hb hby d7_4) _ ?_
    rw [len_of S_q2 Nn_q2]
    refine XS.aloadN X_q1.here hx rfl (hb hby d7_5) rfl rfl ?_
    show Steps p.tables e below (T_q1.setTop (mkF m 6 #[.val (.ref a1), .val (.int p2), .unset] [(.ref a1), (.int zl)])) _
    refine st_q3 _ ?_
    refine XS.ishr X_q3.here hx rfl (hb hby d7_9) rfl ?_
    refine XS.istoreN X_q3.here hx rfl (hb hby d7_10) rfl (l' := #[.val (.ref a1), .val (.int p2), .val (.int (zl >>> ((0 : Int32) &&& 31)))]) rfl ?_
    refine XS.iloadN X_q3.here hx rfl (hb hby d7_11) rfl ?_
    show Steps p.tables e below (T_q3.setTop (mkF m 12 #[.val (.ref a1), .val (.int p2), .val (.int (zl >>> ((0 : Int32) &&& 31)))] [(.int p2)])) _
    refine XS.iloadN X_q3.here hx rfl (hb hby d7_12) rfl ?_
    refine XS.isub X_q3.here hx rfl (hb hby d7_13) rfl ?_
    refine XS.ifYes X_q3.here hx rfl (pc0 := 14) (pc' := 38) rfl (hb hby d7_14) rfl ((if0 _ _).trans (flt hc_q4).2.2.2) (by decide) (by decide) ?_
    show Steps p.tables e below (T_q3.setTop (mkF m 38 #[.val (.ref a1), .val (.int p2), .val (.int (zl >>> ((0 : Int32) &&& 31)))] [])) _
    exact X_q3.returnOut hx Bd.returns (hb hby d7_38) hr
  · show Q_rmE Z a1 va k1 zl lv p2 h0 n0 _ T_q3.heap _
    rw [e_q3]
    exact ⟨rfl, N0, rfl⟩
theorem d6_0 : decode jdk_68_method_31_code 0 = .ok (.aload_n 0, 1) := by decide +kernel
theorem d6_1 : decode jdk_68_method_31_code 1 = .ok (.aload_n 0, 1) := by decide +kernel
theorem d6_2 : decode jdk_68_method_31_code 2 = .ok (.getfield 79, 3) := by decide +kernel
theorem d6_5 : decode jdk_68_method_31_code 5 = .ok (.iconst 1, 1) := by decide +kernel
theorem d6_6 : decode jdk_68_method_31_code 6 = .ok (.iadd, 1) := by decide +kernel
theorem d6_7 : decode jdk_68_method_31_code 7 = .ok (.invokevirtual 100, 3) := by decide +kernel
theorem d6_10 : decode jdk_68_method_31_code 10 = .ok (.aload_n 0, 1) := by decide +kernel
theorem d6_11 : decode jdk_68_method_31_code 11 = .ok (.invokevirtual 83, 3) := by decide +kernel
theorem d6_14 : decode jdk_68_method_31_code 14 = .ok (.ifCond .eq 31, 3) := by decide +kernel
theorem d6_17 : decode jdk_68_method_31_code 17 = .ok (.iload_n 1, 1) := by decide +kernel
theorem d6_18 : decode jdk_68_method_31_code 18 = .ok (.invokestatic 191, 3) := by decide +kernel
theorem d6_21 : decode jdk_68_method_31_code 21 = .ok (.ifCond .eq 24, 3) := by decide +kernel
theorem d6_24 : decode jdk_68_method_31_code 24 = .ok (.aload_n 0, 1) := by decide +kernel
theorem d6_25 : decode jdk_68_method_31_code 25 = .ok (.getfield 15, 3) := by decide +kernel
theorem d6_28 : decode jdk_68_method_31_code 28 = .ok (.aload_n 0, 1) := by decide +kernel
theorem d6_29 : decode jdk_68_method_31_code 29 = .ok (.dup, 1) := by decide +kernel
theorem d6_30 : decode jdk_68_method_31_code 30 = .ok (.getfield 79, 3) := by decide +kernel
theorem d6_33 : decode jdk_68_method_31_code 33 = .ok (.dup_x1, 1) := by decide +kernel
theorem d6_34 : decode jdk_68_method_31_code 34 = .ok (.iconst 1, 1) := by decide +kernel
theorem d6_35 : decode jdk_68_method_31_code 35 = .ok (.iadd, 1) := by decide +kernel
theorem d6_36 : decode jdk_68_method_31_code 36 = .ok (.putfield 79, 3) := by decide +kernel
theorem d6_39 : decode jdk_68_method_31_code 39 = .ok (.iload_n 1, 1) := by decide +kernel
theorem d6_40 : decode jdk_68_method_31_code 40 = .ok (.i2b, 1) := by decide +kernel
theorem d6_41 : decode jdk_68_method_31_code 41 = .ok (.bastore, 1) := by decide +kernel
theorem d6_42 : decode jdk_68_method_31_code 42 = .ok (.goto 33, 3) := by decide +kernel
theorem d6_75 : decode jdk_68_method_31_code 75 = .ok (.aload_n 0, 1) := by decide +kernel
theorem d6_76 : decode jdk_68_method_31_code 76 = .ok (.areturn, 1) := by decide +kernel
theorem pn_6 : plainName "java/lang/AbstractStringBuilder" = true := by first | (simp [plainName, overriddenIn]; done) | decide +kernel
theorem pd___Z : parseMethodDescriptor "()Z" = some ⟨[], some .boolean⟩ := by decide +kernel
theorem pd__C_Z : parseMethodDescriptor "(C)Z" = some ⟨[.char], some .boolean⟩ := by decide +kernel
theorem ef_6 (m : MethodId) (x0 : Addr) (x1 : Int32) : entryFrame m #[(.ref x0), (.int x1)] 2 = mkF m 0 #[.val (.ref x0), .val (.int x1)] [] := by first | (simp [entryFrame, mkF, argsToLocals, Value.category]; done) | rfl
def Q_rmAA_n (Z : State) (a1 va : Addr) (k1 : ClassId) (zl : Int32) (lv : List Value) (cn : Int32) (cs : Int32) (p2 : Int32) (h0 : Heap) (n0 : Nat) (v : Option Value) (h : Heap) (L : List Loc) : Prop := v = some (.ref a1) ∧ Fr n0 L ∧ Keep h0 h [a1, va] ∧ Fld Z h a1 "java/lang/AbstractStringBuilder" "value" "[B" (.ref va) ∧ Fld Z h a1 "java/lang/AbstractStringBuilder" "coder" "B" (.int (0 : Int32)) ∧ Fld Z h a1 "java/lang/AbstractStringBuilder" "count" "I" (.int (cn + (1 : Int32))) ∧ Arv Z h va k1 .byte zl (lv.set (cn).toNatClampNeg (.int (nar .byte (p2.toInt8.toInt32)))) (.int (0 : Int32)) ∧ (lv.set (cn).toNatClampNeg (.int (nar .byte (p2.toInt8.toInt32)))).length = (zl).toNatClampNeg
set_option maxRecDepth 65536 in
set_option maxHeartbeats 40000000 in
theorem rmAA_n (l : Launch) (Z : State) (a0 : Array Value) (hw : ∀ d ∈ tables_1, d.before a0 Z = true) (ws : List Jvm.Cond) (a1 va : Addr) (k1 : ClassId) (zl : Int32) (lv : List Value) (cn : Int32) (cs : Int32) (p2 : Int32) (h0 : Heap) (n0 : Nat) (Z0 : n0 ≤ h0.size) (EX_a1 : Exa Z h0 a1 "java/lang/StringBuilder") (F_value_a1 : Fld Z h0 a1 "java/lang/AbstractStringBuilder" "value" "[B" (.ref va)) (F_coder_a1 : Fld Z h0 a1 "java/lang/AbstractStringBuilder" "coder" "B" (.int (0 : Int32))) (F_count_a1 : Fld Z h0 a1 "java/lang/AbstractStringBuilder" "count" "I" (.int cn)) (V_va : Arv Z h0 va k1 .byte zl lv (.int (0 : Int32))) (EX_va : Exa Z h0 va "[B") (S_COMPACT_STRINGS : Sta Z h0 "java/lang/String" "COMPACT_STRINGS" "Z" (.int cs)) (ge_a1 : n0 ≤ a1) (ge_va : n0 ≤ va) (ne_va_a1 : va ≠ a1) (len_lv : lv.length = (zl).toNatClampNeg) (hc_q3 : ¬ ((0 : Int32) < ((cn + (1 : Int32)) - (zl >>> ((0 : Int32) &&& 31))))) (hc_q5 : ¬ (cs = (0 : Int32))) (hc_q7 : ¬ ((F9_0 p2) = (0 : Int32))) (hc_q12 : ¬ cn < 0 ∧ cn < zl) :
    MetFree l (⟨"java/lang/AbstractStringBuilder", "append", "(C)Ljava/lang/AbstractStringBuilder;"⟩ : MethodName) (head1 (Jvm.Cond.code (⟨"java/lang/AbstractStringBuilder", "append", "(C)Ljava/lang/AbstractStringBuilder;"⟩ : MethodName) jdk_68_method_31_code 2 (some (.object "java/lang/AbstractStringBuilder")) :: ws) ({ frames := 1, cells := 0, slots := 0, locals := 16 } : Room)) (fun a U => a = #[(.ref a1), (.int p2)] ∧ Z.Warmed39 U.vm ∧ U.heap = h0) (fun _ _ _ _ _ => True) (fun _ U o U' => ∃ v L, o = .returned v ∧ Q_rmAA_n Z a1 va k1 zl lv cn cs p2 h0 n0 v U'.heap L ∧ FrameEnd U o U' L ({ frames := 1, cells := 0, slots := 0, locals := 16 } : Room).cells ({ frames := 1, cells := 0, slots := 0, locals := 16 } : Room).slots) := by
  refine MetFree.of_bodySF (plainFor_of_name pn_6) hisR ?_
  intro p e s m args below meth c s₁ Bd hml0 hP hK
  obtain ⟨rfl, hZ, hh⟩ := hP
  have hx := Bd.exec
  have hby := Bd.bytes
  have hml : c.maxLocals = 2 := hml0
  have hown : s.vm.findClass "java/lang/AbstractStringBuilder" = some m.cls := findClass_of_methodNamed Bd.named
  have hnm := (name_of_methodNamed Bd.named Bd.method).1
  have X0 : Stand p l e ({ frames := 1, cells := 0, slots := 0, locals := 16 } : Room) s m #[(.ref a1), (.int p2)] below meth c s₁ [] 0 0 := Stand.of_body Bd
  have e0 : s₁.heap = h0 := by rw [← hh, Bd.state]; rfl
  have N0 := Fr.nil n0
  have pre0 : ∀ t, Steps p.tables e below (s₁.setTop (mkF m 0 #[.val (.ref a1), .val (.int p2)] [])) t → Steps p.tables e below (s₁.setTop (entryFrame m #[(.ref a1), (.int p2)] 2)) t := fun t k => castTop (ef_6 m a1 p2) k
  have K0 : Keep h0 h0 [a1, va] := Keep.refl _ _
  obtain ⟨T_q1, X_q1, e_q1, st_q1⟩ := getF X0 hx hZ hown (host := "") (Or.inl (own_w hw 36 rfl)) Via.refl e0 F_count_a1 (g := (mkF m 2 #[.val (.ref a1), .val (.int p2)] [(.ref a1), (.ref a1)])) rfl rfl (hb hby d6_2)
  obtain ⟨cq_q2, qa_q2, qb_q2⟩ := EX_a1.cell
  obtain ⟨_, _, ⟨T_q2, L_q2, k_q2, n_q2⟩, -, X_q2, ⟨Lc_q2, hQ_q2, l_q2, y_q2, z_q2⟩, st_q2⟩ := X_q1.privateBack hx (y := (⟨"java/lang/AbstractStringBuilder", "ensureCapacityInternal", "(I)V"⟩ : MethodName)) hown (mvT hZ (own_w hw 38 rfl)) (mvT hZ (own_w hw 39 rfl)) (mvT hZ (own_selp (y := (⟨"java/lang/AbstractStringBuilder", "ensureCapacityInternal", "(I)V"⟩ : MethodName)) (by decide) (own_w hw 41 rfl) (own_w hw 40 rfl) (own_w hw 39 rfl))) (Cond.privateMethod_at (mvP hZ (own_w hw 40 rfl) (args := #[]))) (mvT hZ (own_w hw 42 rfl)) (by decide) (backOf (W := 0) (rmE l Z a0 hw [] a1 va k1 zl lv (cn + (1 : Int32)) h0 n0 (Nat.le_trans Z0 K0.1) F_value_a1 F_coder_a1 V_va hc_q3) hZ (own_w hw 42 rfl) (own_w hw 15 rfl) (by decide) (by decide)) (g := (mkF m 7 #[.val (.ref a1), .val (.int p2)] [(.int (cn + (1 : Int32))), (.ref a1)])) rfl (by rw [hml]; rfl) (Steps.refl _) (a := a1) (by rw [e_q1]; exact qa_q2) qb_q2 (argsL := [(.int (cn + (1 : Int32)))]) (rest := []) (lenOf pd__I_V rfl) rfl (by show 2 * 0 + _ ≤ _; exact Nat.le_of_eq rfl) (hb hby d6_7) (fun _ _ => ⟨rfl, e_q1, (by decide : 0 + 0 ≤ _), (by decide : 0 + 0 ≤ _)⟩)
  dsimp only [Pt.U, Pt.locs, Pt.cells, Pt.slots] at X_q2 l_q2 y_q2 z_q2 st_q2 hQ_q2
  subst l_q2 y_q2 z_q2
  obtain ⟨rfl, Nq_q2, eq_q2⟩ := hQ_q2
  have Kq_q2 : Keep h0 T_q2.heap [] := by rw [eq_q2]; exact Keep.refl _ _
  have N_q2 := Fr.app N0 Nq_q2
  have EX_a1__q2 := EX_a1.keep Kq_q2
  have F_value_a1__q2 := F_value_a1.keep Kq_q2 nin0
  have F_coder_a1__q2 := F_coder_a1.keep Kq_q2 nin0
  have F_count_a1__q2 := F_count_a1.keep Kq_q2 nin0
  have V_va__q2 := V_va.keep Kq_q2 nin0
  have S_COMPACT_STRINGS__q2 := own_sta_keep S_COMPACT_STRINGS Kq_q2 all0
  have K_q2 : Keep h0 T_q2.heap [a1, va] := K0.trans Kq_q2 all0
  obtain ⟨cq_q4, kq_q4, qa_q4, qb_q4, qc_q4⟩ := isOf hZ rfl EX_a1__q2
  obtain ⟨_, _, ⟨T_q4, L_q4, k_q4, n_q4⟩, -, X_q4, ⟨Lc_q4, hQ_q4, l_q4, y_q4, z_q4⟩, st_q4⟩ := X_q2.virtualBack hx (y := (⟨"java/lang/AbstractStringBuilder", "isLatin1", "()Z"⟩ : MethodName)) (z := (⟨"java/lang/AbstractStringBuilder", "isLatin1", "()Z"⟩ : MethodName)) hown (mvT hZ (own_w hw 43 rfl)) (mvT hZ (own_w hw 44 rfl)) (notFace_of_selects (args := #[]) (mvT hZ (own_w hw 46 rfl))) (mvT hZ (own_w hw 46 rfl)) (mvT hZ (own_w hw 45 rfl)) (by decide) (backOf (W := 0) (rmL1 l Z a0 hw [] a1 cs T_q2.heap n0 (Nat.le_trans Z0 K_q2.1) F_coder_a1__q2 S_COMPACT_STRINGS__q2 hc_q5) hZ (own_w hw 47 rfl) (own_w hw 15 rfl) (by decide) (by decide)) qa_q4 qc_q4 (g := (mkF m 11 #[.val (.ref a1), .val (.int p2)] [(.ref a1)])) rfl (by rw [hml]; rfl) (Steps.refl _) (argsL := []) (rest := []) (lenOf pd___Z rfl) rfl (by show 2 * 0 + _ ≤ _; exact Nat.le_of_eq rfl) (hb hby d6_11) (fun _ _ => ⟨rfl, rfl, (by decide : 0 + 0 ≤ _), (by decide : 0 + 0 ≤ _)⟩)
  dsimp only [Pt.U, Pt.locs, Pt.cells, Pt.slots] at X_q4 l_q4 y_q4 z_q4 st_q4 hQ_q4
  subst l_q4 y_q4 z_q4
  obtain ⟨rfl, Nq_q4, eq_q4⟩ := hQ_q4
  have Kq_q4 : Keep T_q2.heap T_q4.heap [] := by rw [eq_q4]; exact Keep.refl _ _
  have N_q4 := Fr.app N_q2 Nq_q4
  have EX_a1__q4 := EX_a1__q2.keep Kq_q4
  have F_value_a1__q4 := F_value_a1__q2.keep Kq_q4 nin0
  have F_coder_a1__q4 := F_coder_a1__q2.keep Kq_q4 nin0
  have F_count_a1__q4 := F_count_a1__q2.keep Kq_q4 nin0
  have V_va__q4 := V_va__q2.keep Kq_q4 nin0
  have K_q4 : Keep h0 T_q4.heap [a1, va] := K_q2.trans Kq_q4 all0
  obtain ⟨_, _, ⟨T_q6, L_q6, k_q6, n_q6⟩, -, X_q6, ⟨Lc_q6, hQ_q6, l_q6, y_q6, z_q6⟩, st_q6⟩ := Jvm.LawKit.callS X_q4 hx (y := (⟨"java/lang/StringLatin1", "canEncode", "(C)Z"⟩ : MethodName)) hown (mvT hZ (own_w hw 48 rfl)) (mvT hZ (own_w hw 49 rfl)) (mvT hZ (own_w hw 50 rfl)) (mvT hZ (own_w hw 51 rfl)) (by decide) (backOf (W := 0) (rm9 l Z a0 hw [] p2 T_q4.heap n0 (Nat.le_trans Z0 K_q4.1)) hZ (own_w hw 51 rfl) (own_w hw 50 rfl) (by decide) (by decide)) (g := (mkF m 18 #[.val (.ref a1), .val (.int p2)] [(.int p2)])) rfl (by rw [hml]; rfl) (argsL := [(.int p2)]) (rest := []) (lenOf pd__C_Z rfl) rfl (by show 2 * 0 + _ ≤ _; exact Nat.le_of_eq rfl) (hb hby d6_18) (fun _ _ => ⟨rfl, rfl, (by decide : 0 + 0 ≤ _), (by decide : 0 + 0 ≤ _)⟩)
  dsimp only [Pt.U, Pt.locs, Pt.cells, Pt.slots] at X_q6 l_q6 y_q6 z_q6 st_q6 hQ_q6
  subst l_q6 y_q6 z_q6
  obtain ⟨rfl, Nq_q6, eq_q6⟩ := hQ_q6
  have Kq_q6 : Keep T_q4.heap T_q6.heap [] := by rw [eq_q6]; exact Keep.refl _ _
  have N_q6 := Fr.app N_q4 Nq_q6
  have EX_a1__q6 := EX_a1__q4.keep Kq_q6
  have F_value_a1__q6 := F_value_a1__q4.keep Kq_q6 nin0
  have F_coder_a1__q6 := F_coder_a1__q4.keep Kq_q6 nin0
  have F_count_a1__q6 := F_count_a1__q4.keep Kq_q6 nin0
  have V_va__q6 := V_va__q4.keep Kq_q6 nin0
  have K_q6 : Keep h0 T_q6.heap [a1, va] := K_q4.trans Kq_q6 all0
  obtain ⟨T_q8, X_q8, e_q8, st_q8⟩ := getF X_q6 hx hZ hown (host := "") (Or.inl (own_w hw 22 rfl)) Via.refl rfl F_value_a1__q6 (g := (mkF m 25 #[.val (.ref a1), .val (.int p2)] [(.ref a1)])) rfl rfl (hb hby d6_25)
  obtain ⟨T_q9, X_q9, e_q9, st_q9⟩ := getF X_q8 hx hZ hown (host := "") (Or.inl (own_w hw 36 rfl)) Via.refl e_q8 F_count_a1__q6 (g := (mkF m 30 #[.val (.ref a1), .val (.int p2)] [(.ref a1), (.ref a1), (.ref va)])) rfl rfl (hb hby d6_30)
  obtain ⟨T_q10, h_q10, X_q10, e_q10, W_q10, st_q10⟩ := putF X_q9 hx hZ hown (host := "") (Or.inl (own_w hw 36 rfl)) Via.refl e_q9 F_count_a1__q6 EX_a1__q6 (Or.inl (own_w hw 37 rfl)) (own_w hw 6 rfl) (ty := .int) (by decide) rfl rfl (g := (mkF m 36 #[.val (.ref a1), .val (.int p2)] [(.int (cn + (1 : Int32))), (.ref a1), (.int cn), (.ref va)])) rfl rfl (hb hby d6_36)
  have F_value_a1__q10 := F_value_a1__q6.other W_q10 (Or.inr (slot_ne (Or.inl (own_w hw 23 rfl)) (Or.inl (own_w hw 37 rfl)) (by decide) (t := (.array .byte)) (t' := .int) (by decide) (by decide)))
  have F_coder_a1__q10 := F_coder_a1__q6.other W_q10 (Or.inr (slot_ne (Or.inl (own_w hw 25 rfl)) (Or.inl (own_w hw 37 rfl)) (by decide) (t := .byte) (t' := .int) (by decide) (by decide)))
  have V_va__q10 := V_va__q6.other W_q10 ne_va_a1
  have F_count_a1__q10 := F_count_a1__q6.same W_q10
  have K_q10 : Keep h0 h_q10 [a1, va] := K_q6.wr W_q10 (Or.inl (List.mem_of_getElem? (i := 0) rfl))
  have N_q10 := Fr.snoc X_q10 N_q6 ge_a1
  obtain ⟨cl_q11, Ar_q11, qk_q11, S_q11, Nn_q11, H_q11, G_q11⟩ := id V_va__q10
  have hin_q11 : ¬ (cn < 0 ∨ cl_q11.slots.size ≤ (cn).toNatClampNeg) := inb_of S_q11 hc_q12
  obtain ⟨T_q11, h_q11, X_q11, e_q11, W_q11, st_q11⟩ := stB X_q10 hx hZ e_q10 Ar_q11 (j := cn) hin_q11 (g := (mkF m 41 #[.val (.ref a1), .val (.int p2)] [(.int (p2.toInt8.toInt32)), (.int cn), (.ref va)])) rfl rfl (hb hby d6_41)
  have F_value_a1__q11 := F_value_a1__q10.other W_q11 (Or.inl (Ne.symm ne_va_a1))
  have F_coder_a1__q11 := F_coder_a1__q10.other W_q11 (Or.inl (Ne.symm ne_va_a1))
  have F_count_a1__q11 := F_count_a1__q10.other W_q11 (Or.inl (Ne.symm ne_va_a1))
  have V_va__q11 : Arv Z h_q11 va k1 .byte zl (lv.set (cn).toNatClampNeg (.int (nar .byte (p2.toInt8.toInt32)))) (.int (0 : Int32)) := Arv.set Ar_q11 qk_q11 S_q11 Nn_q11 H_q11 G_q11 (fits_nar_byte _) W_q11 _ rfl (own_ltl len_lv hc_q12)
  have K_q11 : Keep h0 h_q11 [a1, va] := K_q10.wr W_q11 (Or.inl (List.mem_of_getElem? (i := 1) rfl))
  have N_q11 := Fr.snoc X_q11 N_q10 ge_va
  obtain ⟨fs, hr, hrun, hended, hW, hsame⟩ := X_q11.leave (v := some (.ref a1)) (fun h => by rw [Bd.returns] at h; cases h) Bd.notSynchronized
  refine ⟨_, _, pre0 _ ?_, hrun, hended, _, _, rfl, ?_, ⟨_, rfl⟩, hW, hsame.mono (by decide) (by decide)⟩
  · show Steps p.tables e below (s₁.setTop (mkF m 0 #[.val (.ref a1), .val (.int p2)] [])) _
    refine XS.aloadN X0.here hx rfl (hb hby d6_0) rfl rfl ?_
    refine XS.aloadN X0.here hx rfl (hb hby d6_1) rfl rfl ?_
    show Steps p.tables e below (s₁.setTop (mkF m 2 #[.val (.ref a1), .val (.int p2)] [(.ref a1), (.ref a1)])) _
    refine st_q1 _ ?_
    refine XS.iconst X_q1.here hx rfl (hb hby d6_5) ?_
    refine XS.iadd X_q1.here hx rfl (hb hby d6_6) rfl ?_
    show Steps p.tables e below (T_q1.setTop (mkF m 7 #[.val (.ref a1), .val (.int p2)] [(.int (cn + (1 : Int32))), (.ref a1)])) _
    refine st_q2.trans ?_
    refine XS.aloadN X_q2.here hx rfl (hb hby d6_10) rfl rfl ?_
    show Steps p.tables e below (T_q2.setTop (mkF m 11 #[.val (.ref a1), .val (.int p2)] [(.ref a1)])) _
    refine st_q4.trans ?_
    refine XS.ifNo X_q4.here hx rfl (hb hby d6_14) rfl ((if0 _ _).trans (feq (by decide : ¬ ((1 : Int32) = (0 : Int32)))).1) ?_
    refine XS.iloadN X_q4.here hx rfl (hb hby d6_17) rfl ?_
    show Steps p.tables e below (T_q4.setTop (mkF m 18 #[.val (.ref a1), .val (.int p2)] [(.int p2)])) _
    refine st_q6 _ ?_
    refine XS.ifNo X_q6.here hx rfl (hb hby d6_21) rfl ((if0 _ _).trans (feq hc_q7).1) ?_
    refine XS.aloadN X_q6.here hx rfl (hb hby d6_24) rfl rfl ?_
    show Steps p.tables e below (T_q6.setTop (mkF m 25 #[.val (.ref a1), .val (.int p2)] [(.ref a1)])) _
    refine st_q8 _ ?_
    refine XS.aloadN X_q8.here hx rfl (hb hby d6_28) rfl rfl ?_
    refine XS.dup X_q8.here hx rfl (hb hby d6_29) rfl rfl ?_
    show Steps p.tables e below (T_q8.setTop (mkF m 30 #[.val (.ref a1), .val (.int p2)] [(.ref a1), (.ref a1), (.ref va)])) _
    refine st_q9 _ ?_
    refine XS.dupX1 X_q9.here hx rfl (hb hby d6_33) rfl rfl rfl ?_
    refine XS.iconst X_q9.here hx rfl (hb hby d6_34) ?_
    refine XS.iadd X_q9.here hx rfl (hb hby d6_35) rfl ?_
    show Steps p.tables e below (T_q9.setTop (mkF m 36 #[.val (.ref a1), .val (.int p2)] [(.int (cn + (1 : Int32))), (.ref a1), (.int cn), (.ref va)])) _
    refine st_q10 _ ?_
    refine XS.iloadN X_q10.here hx rfl (hb hby d6_39) rfl ?_
    refine XS.i2b X_q10.here hx rfl (hb hby d6_40) rfl ?_
    show Steps p.tables e below (T_q10.setTop (mkF m 41 #[.val (.ref a1), .val (.int p2)] [(.int (p2.toInt8.toInt32)), (.int cn), (.ref va)])) _
    refine st_q11 _ ?_
    refine XS.goto X_q11.here hx rfl (pc0 := 42) (pc' := 75) rfl (hb hby d6_42) (by decide) (by decide) ?_
    refine XS.aloadN X_q11.here hx rfl (hb hby d6_75) rfl rfl ?_
    show Steps p.tables e below (T_q11.setTop (mkF m 76 #[.val (.ref a1), .val (.int p2)] [(.ref a1)])) _
    jvm_step X_q11.here [X_q11.here.top, hx, (hb hby d6_76), X_q11.method', Bd.returns, Value.isRef, FieldType.isReference]
    first | (intro acts; rw [hr _ acts rfl rfl rfl]) | rw [hr _ _ rfl rfl rfl]
    exact Steps.refl _
  · show Q_rmAA_n Z a1 va k1 zl lv cn cs p2 h0 n0 _ T_q11.heap _
    rw [e_q11]
    exact ⟨rfl, N_q11, K_q11, F_value_a1__q11, F_coder_a1__q11, F_count_a1__q11, V_va__q11, (own_len_set len_lv)⟩
theorem d5_0 : decode jdk_67_method_14_code 0 = .ok (.aload_n 0, 1) := by decide +kernel
theorem d5_1 : decode jdk_67_method_14_code 1 = .ok (.iload_n 1, 1) := by decide +kernel
theorem d5_2 : decode jdk_67_method_14_code 2 = .ok (.invokespecial 50, 3) := by decide +kernel
theorem d5_5 : decode jdk_67_method_14_code 5 = .ok (.pop, 1) := by decide +kernel
theorem d5_6 : decode jdk_67_method_14_code 6 = .ok (.aload_n 0, 1) := by decide +kernel
theorem d5_7 : decode jdk_67_method_14_code 7 = .ok (.areturn, 1) := by decide +kernel
theorem pn_5 : plainName "java/lang/StringBuilder" = true := by first | (simp [plainName, overriddenIn]; done) | decide +kernel
theorem pd__C_Ljava_lang_AbstractStringBuilder_ : parseMethodDescriptor "(C)Ljava/lang/AbstractStringBuilder;" = some ⟨[.char], some (.object "java/lang/AbstractStringBuilder")⟩ := by decide +kernel
theorem ef_5 (m : MethodId) (x0 : Addr) (x1 : Int32) : entryFrame m #[(.ref x0), (.int x1)] 2 = mkF m 0 #[.val (.ref x0), .val (.int x1)] [] := by first | (simp [entryFrame, mkF, argsToLocals, Value.category]; done) | rfl
def Q_rmSA_n (Z : State) (a1 va : Addr) (k1 : ClassId) (zl : Int32) (lv : List Value) (cn : Int32) (cs : Int32) (p2 : Int32) (h0 : Heap) (n0 : Nat) (v : Option Value) (h : Heap) (L : List Loc) : Prop := v = some (.ref a1) ∧ Fr n0 L ∧ Keep h0 h [a1, va] ∧ Fld Z h a1 "java/lang/AbstractStringBuilder" "value" "[B" (.ref va) ∧ Fld Z h a1 "java/lang/AbstractStringBuilder" "coder" "B" (.int (0 : Int32)) ∧ Fld Z h a1 "java/lang/AbstractStringBuilder" "count" "I" (.int (cn + (1 : Int32))) ∧ Arv Z h va k1 .byte zl (lv.set (cn).toNatClampNeg (.int (nar .byte (p2.toInt8.toInt32)))) (.int (0 : Int32)) ∧ (lv.set (cn).toNatClampNeg (.int (nar .byte (p2.toInt8.toInt32)))).length = (zl).toNatClampNeg
set_option maxRecDepth 65536 in
set_option maxHeartbeats 40000000 in
theorem rmSA_n (l : Launch) (Z : State) (a0 : Array Value) (hw : ∀ d ∈ tables_1, d.before a0 Z = true) (ws : List Jvm.Cond) (a1 va : Addr) (k1 : ClassId) (zl : Int32) (lv : List Value) (cn : Int32) (cs : Int32) (p2 : Int32) (h0 : Heap) (n0 : Nat) (Z0 : n0 ≤ h0.size) (EX_a1 : Exa Z h0 a1 "java/lang/StringBuilder") (F_value_a1 : Fld Z h0 a1 "java/lang/AbstractStringBuilder" "value" "[B" (.ref va)) (F_coder_a1 : Fld Z h0 a1 "java/lang/AbstractStringBuilder" "coder" "B" (.int (0 : Int32))) (F_count_a1 : Fld Z h0 a1 "java/lang/AbstractStringBuilder" "count" "I" (.int cn)) (V_va : Arv Z h0 va k1 .byte zl lv (.int (0 : Int32))) (EX_va : Exa Z h0 va "[B") (S_COMPACT_STRINGS : Sta Z h0 "java/lang/String" "COMPACT_STRINGS" "Z" (.int cs)) (ge_a1 : n0 ≤ a1) (ge_va : n0 ≤ va) (ne_va_a1 : va ≠ a1) (len_lv : lv.length = (zl).toNatClampNeg) (hc_q2 : ¬ ((0 : Int32) < ((cn + (1 : Int32)) - (zl >>> ((0 : Int32) &&& 31))))) (hc_q3 : ¬ (cs = (0 : Int32))) (hc_q4 : ¬ ((F9_0 p2) = (0 : Int32))) (hc_q5 : ¬ cn < 0 ∧ cn < zl) :
    MetFree l (⟨"java/lang/StringBuilder", "append", "(C)Ljava/lang/StringBuilder;"⟩ : MethodName) (head1 (Jvm.Cond.code (⟨"java/lang/StringBuilder", "append", "(C)Ljava/lang/StringBuilder;"⟩ : MethodName) jdk_67_method_14_code 2 (some (.object "java/lang/StringBuilder")) :: ws) ({ frames := 2, cells := 0, slots := 0, locals := 31 } : Room)) (fun a U => a = #[(.ref a1), (.int p2)] ∧ Z.Warmed39 U.vm ∧ U.heap = h0) (fun _ _ _ _ _ => True) (fun _ U o U' => ∃ v L, o = .returned v ∧ Q_rmSA_n Z a1 va k1 zl lv cn cs p2 h0 n0 v U'.heap L ∧ FrameEnd U o U' L ({ frames := 2, cells := 0, slots := 0, locals := 31 } : Room).cells ({ frames := 2, cells := 0, slots := 0, locals := 31 } : Room).slots) := by
  refine MetFree.of_bodySF (plainFor_of_name pn_5) hisR ?_
  intro p e s m args below meth c s₁ Bd hml0 hP hK
  obtain ⟨rfl, hZ, hh⟩ := hP
  have hx := Bd.exec
  have hby := Bd.bytes
  have hml : c.maxLocals = 2 := hml0
  have hown : s.vm.findClass "java/lang/StringBuilder" = some m.cls := findClass_of_methodNamed Bd.named
  have hnm := (name_of_methodNamed Bd.named Bd.method).1
  have X0 : Stand p l e ({ frames := 2, cells := 0, slots := 0, locals := 31 } : Room) s m #[(.ref a1), (.int p2)] below meth c s₁ [] 0 0 := Stand.of_body Bd
  have e0 : s₁.heap = h0 := by rw [← hh, Bd.state]; rfl
  have N0 := Fr.nil n0
  have pre0 : ∀ t, Steps p.tables e below (s₁.setTop (mkF m 0 #[.val (.ref a1), .val (.int p2)] [])) t → Steps p.tables e below (s₁.setTop (entryFrame m #[(.ref a1), (.int p2)] 2)) t := fun t k => castTop (ef_5 m a1 p2) k
  have K0 : Keep h0 h0 [a1, va] := Keep.refl _ _
  obtain ⟨_, _, ⟨T_q1, L_q1, k_q1, n_q1⟩, -, X_q1, ⟨Lc_q1, hQ_q1, l_q1, y_q1, z_q1⟩, st_q1⟩ := superBack X0 hx hZ (y := (⟨"java/lang/AbstractStringBuilder", "append", "(C)Ljava/lang/AbstractStringBuilder;"⟩ : MethodName)) hown (own_w hw 31 rfl) (own_same (y := (⟨"java/lang/AbstractStringBuilder", "append", "(C)Ljava/lang/AbstractStringBuilder;"⟩ : MethodName)) (y' := ({ cls := "java/lang/AbstractStringBuilder", name := "ensureCapacityInternal", desc := "(I)V" } : Jvm.MethodName)) (by decide) rfl (own_w hw 41 rfl) (own_w hw 32 rfl)) (own_w hw 32 rfl) (own_w hw 33 rfl) (by decide) (backOf (W := 0) (rmAA_n l Z a0 hw [] a1 va k1 zl lv cn cs p2 h0 n0 (Nat.le_trans Z0 K0.1) EX_a1 F_value_a1 F_coder_a1 F_count_a1 V_va EX_va S_COMPACT_STRINGS ge_a1 ge_va ne_va_a1 len_lv hc_q2 hc_q3 hc_q4 hc_q5) hZ (own_w hw 35 rfl) (own_w hw 15 rfl) (by decide) (by decide)) e0 (Ins.self EX_a1) (g := (mkF m 2 #[.val (.ref a1), .val (.int p2)] [(.int p2), (.ref a1)])) rfl (by rw [hml]; rfl) (own_w hw 35 rfl) (argsL := [(.int p2)]) (rest := []) (lenOf pd__C_Ljava_lang_AbstractStringBuilder_ rfl) rfl (by show 2 * 0 + _ ≤ _; exact Nat.le_of_eq rfl) (hb hby d5_2) (fun _ _ => ⟨rfl, e0, (by decide : 0 + 0 ≤ _), (by decide : 0 + 0 ≤ _)⟩)
  dsimp only [Pt.U, Pt.locs, Pt.cells, Pt.slots] at X_q1 l_q1 y_q1 z_q1 st_q1 hQ_q1
  subst l_q1 y_q1 z_q1
  obtain ⟨rfl, Nq_q1, Kq_q1, O0_q1, O1_q1, O2_q1, O3_q1, O4_q1⟩ := hQ_q1
  have N_q1 := Fr.app N0 Nq_q1
  have K_q1 : Keep h0 T_q1.heap [a1, va] := K0.trans Kq_q1 (allS (Or.inl (List.mem_of_getElem? (i := 0) rfl)) (allS (Or.inl (List.mem_of_getElem? (i := 1) rfl)) all0))
  obtain ⟨fs, hr, hrun, hended, hW, hsame⟩ := X_q1.leave (v := some (.ref a1)) (fun h => by rw [Bd.returns] at h; cases h) Bd.notSynchronized
  refine ⟨_, _, pre0 _ ?_, hrun, hended, _, _, rfl, ?_, ⟨_, rfl⟩, hW, hsame.mono (by decide) (by decide)⟩
  · show Steps p.tables e below (s₁.setTop (mkF m 0 #[.val (.ref a1), .val (.int p2)] [])) _
    refine XS.aloadN X0.here hx rfl (hb hby d5_0) rfl rfl ?_
    refine XS.iloadN X0.here hx rfl (hb hby d5_1) rfl ?_
    show Steps p.tables e below (s₁.setTop (mkF m 2 #[.val (.ref a1), .val (.int p2)] [(.int p2), (.ref a1)])) _
    refine st_q1.trans ?_
    refine XS.pop X_q1.here hx rfl (hb hby d5_5) rfl rfl ?_
    refine XS.aloadN X_q1.here hx rfl (hb hby d5_6) rfl rfl ?_
    show Steps p.tables e below (T_q1.setTop (mkF m 7 #[.val (.ref a1), .val (.int p2)] [(.ref a1)])) _
    jvm_step X_q1.here [X_q1.here.top, hx, (hb hby d5_7), X_q1.method', Bd.returns, Value.isRef, FieldType.isReference]
    first | (intro acts; rw [hr _ acts rfl rfl rfl]) | rw [hr _ _ rfl rfl rfl]
    exact Steps.refl _
  · show Q_rmSA_n Z a1 va k1 zl lv cn cs p2 h0 n0 _ T_q1.heap _
    exact ⟨rfl, N_q1, K_q1, O0_q1, O1_q1, O2_q1, O3_q1, O4_q1⟩
theorem d11_0 : decode jdk_48_method_27_code 0 = .ok (.iload_n 0, 1) := by decide +kernel
theorem d11_1 : decode jdk_48_method_27_code 1 = .ok (.iload_n 1, 1) := by decide +kernel
theorem d11_2 : decode jdk_48_method_27_code 2 = .ok (.iload_n 2, 1) := by decide +kernel
theorem d11_3 : decode jdk_48_method_27_code 3 = .ok (.invokestatic 194, 3) := by decide +kernel
theorem d11_6 : decode jdk_48_method_27_code 6 = .ok (.iadd, 1) := by decide +kernel
theorem d11_7 : decode jdk_48_method_27_code 7 = .ok (.istore_n 3, 1) := by decide +kernel
theorem d11_8 : decode jdk_48_method_27_code 8 = .ok (.iconst 0, 1) := by decide +kernel
theorem d11_9 : decode jdk_48_method_27_code 9 = .ok (.iload_n 3, 1) := by decide +kernel
theorem d11_10 : decode jdk_48_method_27_code 10 = .ok (.if_icmp .ge 11, 3) := by decide +kernel
theorem d11_13 : decode jdk_48_method_27_code 13 = .ok (.iload_n 3, 1) := by decide +kernel
theorem d11_14 : decode jdk_48_method_27_code 14 = .ok (.ldc 200, 2) := by decide +kernel
theorem d11_16 : decode jdk_48_method_27_code 16 = .ok (.if_icmp .gt 5, 3) := by decide +kernel
theorem d11_19 : decode jdk_48_method_27_code 19 = .ok (.iload_n 3, 1) := by decide +kernel
theorem d11_20 : decode jdk_48_method_27_code 20 = .ok (.ireturn, 1) := by decide +kernel
theorem pn_11 : plainName "jdk/internal/util/ArraysSupport" = true := by first | (simp [plainName, overriddenIn]; done) | decide +kernel
theorem pd__II_I : parseMethodDescriptor "(II)I" = some ⟨[.int, .int], some .int⟩ := by decide +kernel
theorem ef_11 (m : MethodId) (x0 : Int32) (x1 : Int32) (x2 : Int32) : entryFrame m #[(.int x0), (.int x1), (.int x2)] 4 = mkF m 0 #[.val (.int x0), .val (.int x1), .val (.int x2), .unset] [] := by first | (simp [entryFrame, mkF, argsToLocals, Value.category]; done) | rfl
def Q_rmNL (Z : State) (p1 p2 p3 : Int32) (h0 : Heap) (n0 : Nat) (v : Option Value) (h : Heap) (L : List Loc) : Prop := v = some (.int (p1 + (F12_0 p2 p3))) ∧ Fr n0 L ∧ h = h0
set_option maxRecDepth 65536 in
set_option maxHeartbeats 40000000 in
theorem rmNL (l : Launch) (Z : State) (a0 : Array Value) (hw : ∀ d ∈ tables_1, d.before a0 Z = true) (ws : List Jvm.Cond) (p1 p2 p3 : Int32) (h0 : Heap) (n0 : Nat) (Z0 : n0 ≤ h0.size) (hc_q2 : (0 : Int32) < (p1 + (F12_0 p2 p3))) (hc_q3 : ¬ ((2147483639 : Int32) < (p1 + (F12_0 p2 p3)))) :
    MetFree l (⟨"jdk/internal/util/ArraysSupport", "newLength", "(III)I"⟩ : MethodName) (head1 (Jvm.Cond.code (⟨"jdk/internal/util/ArraysSupport", "newLength", "(III)I"⟩ : MethodName) jdk_48_method_27_code 4 (some .int) :: ws) ({ frames := 1, cells := 0, slots := 0, locals := 16 } : Room)) (fun a U => a = #[(.int p1), (.int p2), (.int p3)] ∧ Z.Warmed39 U.vm ∧ U.heap = h0) (fun _ _ _ _ _ => True) (fun _ U o U' => ∃ v L, o = .returned v ∧ Q_rmNL Z p1 p2 p3 h0 n0 v U'.heap L ∧ FrameEnd U o U' L ({ frames := 1, cells := 0, slots := 0, locals := 16 } : Room).cells ({ frames := 1, cells := 0, slots := 0, locals := 16 } : Room).slots) := by
  refine MetFree.of_bodySF (plainFor_of_name pn_11) hisR ?_
  intro p e s m args below meth c s₁ Bd hml0 hP hK
  obtain ⟨rfl, hZ, hh⟩ := hP
  have hx := Bd.exec
  have hby := Bd.bytes
  have hml : c.maxLocals = 4 := hml0
  have hown : s.vm.findClass "jdk/internal/util/ArraysSupport" = some m.cls := findClass_of_methodNamed Bd.named
  have hnm := (name_of_methodNamed Bd.named Bd.method).1
  have X0 : Stand p l e ({ frames := 1, cells := 0, slots := 0, locals := 16 } : Room) s m #[(.int p1), (.int p2), (.int p3)] below meth c s₁ [] 0 0 := Stand.of_body Bd
  have e0 : s₁.heap = h0 := by rw [← hh, Bd.state]; rfl
  have N0 := Fr.nil n0
  have pre0 : ∀ t, Steps p.tables e below (s₁.setTop (mkF m 0 #[.val (.int p1), .val (.int p2), .val (.int p3), .unset] [])) t → Steps p.tables e below (s₁.setTop (entryFrame m #[(.int p1), (.int p2), (.int p3)] 4)) t := fun t k => castTop (ef_11 m p1 p2 p3) k
  have K0 : Keep h0 h0 [] := Keep.refl _ _
  obtain ⟨_, _, ⟨T_q1, L_q1, k_q1, n_q1⟩, -, X_q1, ⟨Lc_q1, hQ_q1, l_q1, y_q1, z_q1⟩, st_q1⟩ := Jvm.LawKit.callS X0 hx (y := (⟨"java/lang/Math", "max", "(II)I"⟩ : MethodName)) hown (mvT hZ (own_w hw 61 rfl)) (mvT hZ (own_w hw 62 rfl)) (mvT hZ (own_w hw 63 rfl)) (mvT hZ (own_w hw 64 rfl)) (by decide) (backOf (W := 1) (rm12 l Z a0 hw [] p2 p3 h0 n0 (Nat.le_trans Z0 K0.1)) hZ (own_w hw 64 rfl) (own_w hw 63 rfl) (by decide) (by decide)) (g := (mkF m 3 #[.val (.int p1), .val (.int p2), .val (.int p3), .unset] [(.int p3), (.int p2), (.int p1)])) rfl (by rw [hml]; rfl) (argsL := [(.int p2), (.int p3)]) (rest := [(.int p1)]) (lenOf pd__II_I rfl) rfl (by show 2 * 0 + _ ≤ _; exact Nat.le_of_eq rfl) (hb hby d11_3) (fun _ _ => ⟨rfl, e0, (by decide : 0 + 0 ≤ _), (by decide : 0 + 0 ≤ _)⟩)
  dsimp only [Pt.U, Pt.locs, Pt.cells, Pt.slots] at X_q1 l_q1 y_q1 z_q1 st_q1 hQ_q1
  subst l_q1 y_q1 z_q1
  obtain ⟨rfl, Nq_q1, eq_q1⟩ := hQ_q1
  have N_q1 := Fr.app N0 Nq_q1
  obtain ⟨fs, hr, hrun, hended, hW, hsame⟩ := X_q1.leave (v := some (.int (p1 + (F12_0 p2 p3)))) (fun h => by rw [Bd.returns] at h; cases h) Bd.notSynchronized
  refine ⟨_, _, pre0 _ ?_, hrun, hended, _, _, rfl, ?_, ⟨_, rfl⟩, hW, hsame.mono (by decide) (by decide)⟩
  · show Steps p.tables e below (s₁.setTop (mkF m 0 #[.val (.int p1), .val (.int p2), .val (.int p3), .unset] [])) _
    refine XS.iloadN X0.here hx rfl (hb hby d11_0) rfl ?_
    refine XS.iloadN X0.here hx rfl (hb hby d11_1) rfl ?_
    refine XS.iloadN X0.here hx rfl (hb hby d11_2) rfl ?_
    show Steps p.tables e below (s₁.setTop (mkF m 3 #[.val (.int p1), .val (.int p2), .val (.int p3), .unset] [(.int p3), (.int p2), (.int p1)])) _
    refine st_q1 _ ?_
    refine XS.iadd X_q1.here hx rfl (hb hby d11_6) rfl ?_
    refine XS.istoreN X_q1.here hx rfl (hb hby d11_7) rfl (l' := #[.val (.int p1), .val (.int p2), .val (.int p3), .val (.int (p1 + (F12_0 p2 p3)))]) rfl ?_
    refine XS.iconst X_q1.here hx rfl (hb hby d11_8) ?_
    show Steps p.tables e below (T_q1.setTop (mkF m 9 #[.val (.int p1), .val (.int p2), .val (.int p3), .val (.int (p1 + (F12_0 p2 p3)))] [(.int (0 : Int32))])) _
    refine XS.iloadN X_q1.here hx rfl (hb hby d11_9) rfl ?_
    refine XS.icmpNo X_q1.here hx rfl (hb hby d11_10) rfl (tlt hc_q2).2.1 ?_
    refine XS.iloadN X_q1.here hx rfl (hb hby d11_13) rfl ?_
    show Steps p.tables e below (T_q1.setTop (mkF m 14 #[.val (.int p1), .val (.int p2), .val (.int p3), .val (.int (p1 + (F12_0 p2 p3)))] [(.int (p1 + (F12_0 p2 p3)))])) _
    refine X_q1.ldcInt hx hown (mvT hZ (own_w hw 65 rfl)) (g := (mkF m 14 #[.val (.int p1), .val (.int p2), .val (.int p3), .val (.int (p1 + (F12_0 p2 p3)))] [(.int (p1 + (F12_0 p2 p3)))])) rfl (hb hby d11_14) _ ?_
    refine XS.icmpNo X_q1.here hx rfl (hb hby d11_16) rfl (flt hc_q3).2.2.1 ?_
    refine XS.iloadN X_q1.here hx rfl (hb hby d11_19) rfl ?_
    show Steps p.tables e below (T_q1.setTop (mkF m 20 #[.val (.int p1), .val (.int p2), .val (.int p3), .val (.int (p1 + (F12_0 p2 p3)))] [(.int (p1 + (F12_0 p2 p3)))])) _
    exact retI X_q1 hx Bd.returns (hb hby d11_20) hr
  · show Q_rmNL Z p1 p2 p3 h0 n0 _ T_q1.heap _
    exact ⟨rfl, N_q1, by rw [eq_q1]⟩
theorem d10_0 : decode jdk_68_method_10_code 0 = .ok (.aload_n 0, 1) := by decide +kernel
theorem d10_1 : decode jdk_68_method_10_code 1 = .ok (.getfield 15, 3) := by decide +kernel
theorem d10_4 : decode jdk_68_method_10_code 4 = .ok (.arraylength, 1) := by decide +kernel
theorem d10_5 : decode jdk_68_method_10_code 5 = .ok (.istore_n 2, 1) := by decide +kernel
theorem d10_6 : decode jdk_68_method_10_code 6 = .ok (.iload_n 1, 1) := by decide +kernel
theorem d10_7 : decode jdk_68_method_10_code 7 = .ok (.aload_n 0, 1) := by decide +kernel
theorem d10_8 : decode jdk_68_method_10_code 8 = .ok (.getfield 22, 3) := by decide +kernel
theorem d10_11 : decode jdk_68_method_10_code 11 = .ok (.ishl, 1) := by decide +kernel
theorem d10_12 : decode jdk_68_method_10_code 12 = .ok (.istore_n 3, 1) := by decide +kernel
theorem d10_13 : decode jdk_68_method_10_code 13 = .ok (.iload_n 3, 1) := by decide +kernel
theorem d10_14 : decode jdk_68_method_10_code 14 = .ok (.iload_n 2, 1) := by decide +kernel
theorem d10_15 : decode jdk_68_method_10_code 15 = .ok (.isub, 1) := by decide +kernel
theorem d10_16 : decode jdk_68_method_10_code 16 = .ok (.istore 4, 2) := by decide +kernel
theorem d10_18 : decode jdk_68_method_10_code 18 = .ok (.iload_n 2, 1) := by decide +kernel
theorem d10_19 : decode jdk_68_method_10_code 19 = .ok (.iload 4, 2) := by decide +kernel
theorem d10_21 : decode jdk_68_method_10_code 21 = .ok (.iload_n 2, 1) := by decide +kernel
theorem d10_22 : decode jdk_68_method_10_code 22 = .ok (.iconst 2, 1) := by decide +kernel
theorem d10_23 : decode jdk_68_method_10_code 23 = .ok (.aload_n 0, 1) := by decide +kernel
theorem d10_24 : decode jdk_68_method_10_code 24 = .ok (.getfield 22, 3) := by decide +kernel
theorem d10_27 : decode jdk_68_method_10_code 27 = .ok (.ishl, 1) := by decide +kernel
theorem d10_28 : decode jdk_68_method_10_code 28 = .ok (.iadd, 1) := by decide +kernel
theorem d10_29 : decode jdk_68_method_10_code 29 = .ok (.invokestatic 114, 3) := by decide +kernel
theorem d10_32 : decode jdk_68_method_10_code 32 = .ok (.istore 5, 2) := by decide +kernel
theorem d10_34 : decode jdk_68_method_10_code 34 = .ok (.iload 5, 2) := by decide +kernel
theorem d10_36 : decode jdk_68_method_10_code 36 = .ok (.ldc 39, 2) := by decide +kernel
theorem d10_38 : decode jdk_68_method_10_code 38 = .ok (.if_icmp .ne 13, 3) := by decide +kernel
theorem d10_51 : decode jdk_68_method_10_code 51 = .ok (.iload 5, 2) := by decide +kernel
theorem d10_53 : decode jdk_68_method_10_code 53 = .ok (.aload_n 0, 1) := by decide +kernel
theorem d10_54 : decode jdk_68_method_10_code 54 = .ok (.getfield 22, 3) := by decide +kernel
theorem d10_57 : decode jdk_68_method_10_code 57 = .ok (.ishr, 1) := by decide +kernel
theorem d10_58 : decode jdk_68_method_10_code 58 = .ok (.ireturn, 1) := by decide +kernel
theorem pn_10 : plainName "java/lang/AbstractStringBuilder" = true := by first | (simp [plainName, overriddenIn]; done) | decide +kernel
theorem pd__III_I : parseMethodDescriptor "(III)I" = some ⟨[.int, .int, .int], some .int⟩ := by decide +kernel
theorem ef_10 (m : MethodId) (x0 : Addr) (x1 : Int32) : entryFrame m #[(.ref x0), (.int x1)] 6 = mkF m 0 #[.val (.ref x0), .val (.int x1), .unset, .unset, .unset, .unset] [] := by first | (simp [entryFrame, mkF, argsToLocals, Value.category]; done) | rfl
def Q_rmNC (Z : State) (a1 va : Addr) (k1 : ClassId) (zl : Int32) (lv : List Value) (p2 : Int32) (h0 : Heap) (n0 : Nat) (v : Option Value) (h : Heap) (L : List Loc) : Prop := v = some (.int ((zl + (F12_0 ((p2 <<< ((0 : Int32) &&& 31)) - zl) (zl + (2 : Int32)))) >>> ((0 : Int32) &&& 31))) ∧ Fr n0 L ∧ h = h0
set_option maxRecDepth 65536 in
set_option maxHeartbeats 40000000 in
theorem rmNC (l : Launch) (Z : State) (a0 : Array Value) (hw : ∀ d ∈ tables_1, d.before a0 Z = true) (ws : List Jvm.Cond) (a1 va : Addr) (k1 : ClassId) (zl : Int32) (lv : List Value) (p2 : Int32) (h0 : Heap) (n0 : Nat) (Z0 : n0 ≤ h0.size) (F_value_a1 : Fld Z h0 a1 "java/lang/AbstractStringBuilder" "value" "[B" (.ref va)) (F_coder_a1 : Fld Z h0 a1 "java/lang/AbstractStringBuilder" "coder" "B" (.int (0 : Int32))) (V_va : Arv Z h0 va k1 .byte zl lv (.int (0 : Int32))) (hc_q6 : (0 : Int32) < (zl + (F12_0 ((p2 <<< ((0 : Int32) &&& 31)) - zl) (zl + (2 : Int32))))) (hc_q7 : ¬ ((2147483639 : Int32) < (zl + (F12_0 ((p2 <<< ((0 : Int32) &&& 31)) - zl) (zl + (2 : Int32)))))) (hc_q8 : ¬ ((zl + (F12_0 ((p2 <<< ((0 : Int32) &&& 31)) - zl) (zl + (2 : Int32)))) = (2147483647 : Int32))) :
    MetFree l (⟨"java/lang/AbstractStringBuilder", "newCapacity", "(I)I"⟩ : MethodName) (head1 (Jvm.Cond.code (⟨"java/lang/AbstractStringBuilder", "newCapacity", "(I)I"⟩ : MethodName) jdk_68_method_10_code 6 (some .int) :: ws) ({ frames := 2, cells := 0, slots := 0, locals := 33 } : Room)) (fun a U => a = #[(.ref a1), (.int p2)] ∧ Z.Warmed39 U.vm ∧ U.heap = h0) (fun _ _ _ _ _ => True) (fun _ U o U' => ∃ v L, o = .returned v ∧ Q_rmNC Z a1 va k1 zl lv p2 h0 n0 v U'.heap L ∧ FrameEnd U o U' L ({ frames := 2, cells := 0, slots := 0, locals := 33 } : Room).cells ({ frames := 2, cells := 0, slots := 0, locals := 33 } : Room).slots) := by
  refine MetFree.of_bodySF (plainFor_of_name pn_10) hisR ?_
  intro p e s m args below meth c s₁ Bd hml0 hP hK
  obtain ⟨rfl, hZ, hh⟩ := hP
  have hx := Bd.exec
  have hby := Bd.bytes
  have hml : c.maxLocals = 6 := hml0
  have hown : s.vm.findClass "java/lang/AbstractStringBuilder" = some m.cls := findClass_of_methodNamed Bd.named
  have hnm := (name_of_methodNamed Bd.named Bd.method).1
  have X0 : Stand p l e ({ frames := 2, cells := 0, slots := 0, locals := 33 } : Room) s m #[(.ref a1), (.int p2)] below meth c s₁ [] 0 0 := Stand.of_body Bd
  have e0 : s₁.heap = h0 := by rw [← hh, Bd.state]; rfl
  have N0 := Fr.nil n0
  have pre0 : ∀ t, Steps p.tables e below (s₁.setTop (mkF m 0 #[.val (.ref a1), .val (.int p2), .unset, .unset, .unset, .unset] [])) t → Steps p.tables e below (s₁.setTop (entryFrame m #[(.ref a1), (.int p2)] 6)) t := fun t k => castTop (ef_10 m a1 p2) k
  have K0 : Keep h0 h0 [] := Keep.refl _ _
  obtain ⟨T_q1, X_q1, e_q1, st_q1⟩ := getF X0 hx hZ hown (host := "") (Or.inl (own_w hw 22 rfl)) Via.refl e0 F_value_a1 (g := (mkF m 1 #[.val (.ref a1), .val (.int p2), .unset, .unset, .unset, .unset] [(.ref a1)])) rfl rfl (hb hby d10_1)
  obtain ⟨cl_q2, Ar_q2, qk_q2, S_q2, Nn_q2, H_q2, G_q2⟩ := id V_va
  obtain ⟨T_q3, X_q3, e_q3, st_q3⟩ := getF X_q1 hx hZ hown (host := "") (Or.inl (own_w hw 24 rfl)) Via.refl e_q1 F_coder_a1 (g := (mkF m 8 #[.val (.ref a1), .val (.int p2), .val (.int zl), .unset, .unset, .unset] [(.ref a1), (.int p2)])) rfl rfl (hb hby d10_8)
  obtain ⟨T_q4, X_q4, e_q4, st_q4⟩ := getF X_q3 hx hZ hown (host := "") (Or.inl (own_w hw 24 rfl)) Via.refl e_q3 F_coder_a1 (g := (mkF m 24 #[.val (.ref a1), .val (.int p2), .val (.int zl), .val (.int (p2 <<< ((0 : Int32) &&& 31))), .val (.int ((p2 <<< ((0 : Int32) &&& 31)) - zl)), .unset] [(.ref a1), (.int (2 : Int32)), (.int zl), (.int ((p2 <<< ((0 : Int32) &&& 31)) - zl)), (.int zl)])) rfl rfl (hb hby d10_24)
  obtain ⟨_, _, ⟨T_q5, L_q5, k_q5, n_q5⟩, -, X_q5, ⟨Lc_q5, hQ_q5, l_q5, y_q5, z_q5⟩, st_q5⟩ := Jvm.LawKit.callS X_q4 hx (y := (⟨"jdk/internal/util/ArraysSupport", "newLength", "(III)I"⟩ : MethodName)) hown (mvT hZ (own_w hw 57 rfl)) (mvT hZ (own_w hw 58 rfl)) (mvT hZ (own_w hw 59 rfl)) (mvT hZ (own_w hw 60 rfl)) (by decide) (backOf (W := 0) (rmNL l Z a0 hw [] zl ((p2 <<< ((0 : Int32) &&& 31)) - zl) (zl + (2 : Int32)) h0 n0 (Nat.le_trans Z0 K0.1) hc_q6 hc_q7) hZ (own_w hw 60 rfl) (own_w hw 59 rfl) (by decide) (by decide)) (g := (mkF m 29 #[.val (.ref a1), .val (.int p2), .val (.int zl), .val (.int (p2 <<< ((0 : Int32) &&& 31))), .val (.int ((p2 <<< ((0 : Int32) &&& 31)) - zl)), .unset] [(.int (zl + (2 : Int32))), (.int ((p2 <<< ((0 : Int32) &&& 31)) - zl)), (.int zl)])) rfl (by rw [hml]; rfl) (argsL := [(.int zl), (.int ((p2 <<< ((0 : Int32) &&& 31)) - zl)), (.int (zl + (2 : Int32)))]) (rest := []) (lenOf pd__III_I rfl) rfl (by show 2 * 0 + _ ≤ _; exact Nat.le_of_eq rfl) (hb hby d10_29) (fun _ _ => ⟨rfl, e_q4, (by decide : 0 + 0 ≤ _), (by decide : 0 + 0 ≤ _)⟩)
  dsimp only [Pt.U, Pt.locs, Pt.cells, Pt.slots] at X_q5 l_q5 y_q5 z_q5 st_q5 hQ_q5
  subst l_q5 y_q5 z_q5
  obtain ⟨rfl, Nq_q5, eq_q5⟩ := hQ_q5
  have Kq_q5 : Keep h0 T_q5.heap [] := by rw [eq_q5]; exact Keep.refl _ _
  have N_q5 := Fr.app N0 Nq_q5
  have F_coder_a1__q5 := F_coder_a1.keep Kq_q5 nin0
  obtain ⟨T_q9, X_q9, e_q9, st_q9⟩ := getF X_q5 hx hZ hown (host := "") (Or.inl (own_w hw 24 rfl)) Via.refl rfl F_coder_a1__q5 (g := (mkF m 54 #[.val (.ref a1), .val (.int p2), .val (.int zl), .val (.int (p2 <<< ((0 : Int32) &&& 31))), .val (.int ((p2 <<< ((0 : Int32) &&& 31)) - zl)), .val (.int (zl + (F12_0 ((p2 <<< ((0 : Int32) &&& 31)) - zl) (zl + (2 : Int32)))))] [(.ref a1), (.int (zl + (F12_0 ((p2 <<< ((0 : Int32) &&& 31)) - zl) (zl + (2 : Int32)))))])) rfl rfl (hb hby d10_54)
  obtain ⟨fs, hr, hrun, hended, hW, hsame⟩ := X_q9.leave (v := some (.int ((zl + (F12_0 ((p2 <<< ((0 : Int32) &&& 31)) - zl) (zl + (2 : Int32)))) >>> ((0 : Int32) &&& 31)))) (fun h => by rw [Bd.returns] at h; cases h) Bd.notSynchronized
  refine ⟨_, _, pre0 _ ?_, hrun, hended, _, _, rfl, ?_, ⟨_, rfl⟩, hW, hsame.mono (by decide) (by decide)⟩
  · show Steps p.tables e below (s₁.setTop (mkF m 0 #[.val (.ref a1), .val (.int p2), .unset, .unset, .unset, .unset] [])) _
    refine XS.aloadN X0.here hx rfl (hb hby d10_0) rfl rfl ?_
    show Steps p.tables e below (s₁.setTop (mkF m 1 #[.val (.ref a1), .val (.int p2), .unset, .unset, .unset, .unset] [(.ref a1)])) _
    refine st_q1 _ ?_
    show Steps p.tables e below (T_q1.setTop (mkF m 4 #[.val (.ref a1), .val (.int p2), .unset, .unset, .unset, .unset] [(.ref va)])) _
    refine X_q1.arraylength hx (by rw [e_q1]; exact Ar_q2.1) (State.isArrayOf_alike hZ.alike Ar_q2.2.1) (g := (mkF m 4 #[.val (.ref a1), .val (.int p2), .unset, .unset, .unset, .unset] [(.ref va)])) rfl rfl (hb hby d10_4) _ ?_
    rw [len_of S_q2 Nn_q2]
    refine XS.istoreN X_q1.here hx rfl (hb hby d10_5) rfl (l' := #[.val (.ref a1), .val (.int p2), .val (.int zl), .unset, .unset, .unset]) rfl ?_
    refine XS.iloadN X_q1.here hx rfl (hb hby d10_6) rfl ?_
    refine XS.aloadN X_q1.here hx rfl (hb hby d10_7) rfl rfl ?_
    show Steps p.tables e below (T_q1.setTop (mkF m 8 #[.val (.ref a1), .val (.int p2), .val (.int zl), .unset, .unset, .unset] [(.ref a1), (.int p2)])) _
    refine st_q3 _ ?_
    refine XS.ishl X_q3.here hx rfl (hb hby d10_11) rfl ?_
    refine XS.istoreN X_q3.here hx rfl (hb hby d10_12) rfl (l' := #[.val (.ref a1), .val (.int p2), .val (.int zl), .val (.int (p2 <<< ((0 : Int32) &&& 31))), .unset, .unset]) rfl ?_
    refine XS.iloadN X_q3.here hx rfl (hb hby d10_13) rfl ?_
    show Steps p.tables e below (T_q3.setTop (mkF m 14 #[.val (.ref a1), .val (.int p2), .val (.int zl), .val (.int (p2 <<< ((0 : Int32) &&& 31))), .unset, .unset] [(.int (p2 <<< ((0 : Int32) &&& 31)))])) _
    refine XS.iloadN X_q3.here hx rfl (hb hby d10_14) rfl ?_
    refine XS.isub X_q3.here hx rfl (hb hby d10_15) rfl ?_
    refine XS.istore X_q3.here hx rfl (hb hby d10_16) rfl (l' := #[.val (.ref a1), .val (.int p2), .val (.int zl), .val (.int (p2 <<< ((0 : Int32) &&& 31))), .val (.int ((p2 <<< ((0 : Int32) &&& 31)) - zl)), .unset]) rfl ?_
    refine XS.iloadN X_q3.here hx rfl (hb hby d10_18) rfl ?_
    show Steps p.tables e below (T_q3.setTop (mkF m 19 #[.val (.ref a1), .val (.int p2), .val (.int zl), .val (.int (p2 <<< ((0 : Int32) &&& 31))), .val (.int ((p2 <<< ((0 : Int32) &&& 31)) - zl)), .unset] [(.int zl)])) _
    refine XS.iload X_q3.here hx rfl (hb hby d10_19) rfl ?_
    refine XS.iloadN X_q3.here hx rfl (hb hby d10_21) rfl ?_
    refine XS.iconst X_q3.here hx rfl (hb hby d10_22) ?_
    refine XS.aloadN X_q3.here hx rfl (hb hby d10_23) rfl rfl ?_
    show Steps p.tables e below (T_q3.setTop (mkF m 24 #[.val (.ref a1), .val (.int p2), .val (.int zl), .val (.int (p2 <<< ((0 : Int32) &&& 31))), .val (.int ((p2 <<< ((0 : Int32) &&& 31)) - zl)), .unset] [(.ref a1), (.int (2 : Int32)), (.int zl), (.int ((p2 <<< ((0 : Int32) &&& 31)) - zl)), (.int zl)])) _
    refine st_q4 _ ?_
    refine XS.ishl X_q4.here hx rfl (hb hby d10_27) rfl ?_
    refine XS.iadd X_q4.here hx rfl (hb hby d10_28) rfl ?_
    show Steps p.tables e below (T_q4.setTop (mkF m 29 #[.val (.ref a1), .val (.int p2), .val (.int zl), .val (.int (p2 <<< ((0 : Int32) &&& 31))), .val (.int ((p2 <<< ((0 : Int32) &&& 31)) - zl)), .unset] [(.int (zl + (2 : Int32))), (.int ((p2 <<< ((0 : Int32) &&& 31)) - zl)), (.int zl)])) _
    refine st_q5 _ ?_
    refine XS.istore X_q5.here hx rfl (hb hby d10_32) rfl (l' := #[.val (.ref a1), .val (.int p2), .val (.int zl), .val (.int (p2 <<< ((0 : Int32) &&& 31))), .val (.int ((p2 <<< ((0 : Int32) &&& 31)) - zl)), .val (.int (zl + (F12_0 ((p2 <<< ((0 : Int32) &&& 31)) - zl) (zl + (2 : Int32)))))]) rfl ?_
    refine XS.iload X_q5.here hx rfl (hb hby d10_34) rfl ?_
    show Steps p.tables e below (T_q5.setTop (mkF m 36 #[.val (.ref a1), .val (.int p2), .val (.int zl), .val (.int (p2 <<< ((0 : Int32) &&& 31))), .val (.int ((p2 <<< ((0 : Int32) &&& 31)) - zl)), .val (.int (zl + (F12_0 ((p2 <<< ((0 : Int32) &&& 31)) - zl) (zl + (2 : Int32)))))] [(.int (zl + (F12_0 ((p2 <<< ((0 : Int32) &&& 31)) - zl) (zl + (2 : Int32)))))])) _
    refine X_q5.ldcInt hx hown (mvT hZ (own_w hw 66 rfl)) (g := (mkF m 36 #[.val (.ref a1), .val (.int p2), .val (.int zl), .val (.int (p2 <<< ((0 : Int32) &&& 31))), .val (.int ((p2 <<< ((0 : Int32) &&& 31)) - zl)), .val (.int (zl + (F12_0 ((p2 <<< ((0 : Int32) &&& 31)) - zl) (zl + (2 : Int32)))))] [(.int (zl + (F12_0 ((p2 <<< ((0 : Int32) &&& 31)) - zl) (zl + (2 : Int32)))))])) rfl (hb hby d10_36) _ ?_
    refine XS.icmpYes X_q5.here hx rfl (pc0 := 38) (pc' := 51) rfl (hb hby d10_38) rfl (feq hc_q8).2 (by decide) (by decide) ?_
    refine XS.iload X_q5.here hx rfl (hb hby d10_51) rfl ?_
    refine XS.aloadN X_q5.here hx rfl (hb hby d10_53) rfl rfl ?_
    show Steps p.tables e below (T_q5.setTop (mkF m 54 #[.val (.ref a1), .val (.int p2), .val (.int zl), .val (.int (p2 <<< ((0 : Int32) &&& 31))), .val (.int ((p2 <<< ((0 : Int32) &&& 31)) - zl)), .val (.int (zl + (F12_0 ((p2 <<< ((0 : Int32) &&& 31)) - zl) (zl + (2 : Int32)))))] [(.ref a1), (.int (zl + (F12_0 ((p2 <<< ((0 : Int32) &&& 31)) - zl) (zl + (2 : Int32)))))])) _
    refine st_q9 _ ?_
    refine XS.ishr X_q9.here hx rfl (hb hby d10_57) rfl ?_
    show Steps p.tables e below (T_q9.setTop (mkF m 58 #[.val (.ref a1), .val (.int p2), .val (.int zl), .val (.int (p2 <<< ((0 : Int32) &&& 31))), .val (.int ((p2 <<< ((0 : Int32) &&& 31)) - zl)), .val (.int (zl + (F12_0 ((p2 <<< ((0 : Int32) &&& 31)) - zl) (zl + (2 : Int32)))))] [(.int ((zl + (F12_0 ((p2 <<< ((0 : Int32) &&& 31)) - zl) (zl + (2 : Int32)))) >>> ((0 : Int32) &&& 31)))])) _
    exact retI X_q9 hx Bd.returns (hb hby d10_58) hr
  · show Q_rmNC Z a1 va k1 zl lv p2 h0 n0 _ T_q9.heap _
    rw [e_q9]
    exact ⟨rfl, N_q5, by rw [eq_q5]⟩
theorem d13_0 : decode jdk_65_method_121_code 0 = .ok (.iload_n 1, 1) := by decide +kernel
theorem d13_1 : decode jdk_65_method_121_code 1 = .ok (.aload_n 0, 1) := by decide +kernel
theorem d13_2 : decode jdk_65_method_121_code 2 = .ok (.arraylength, 1) := by decide +kernel
theorem d13_3 : decode jdk_65_method_121_code 3 = .ok (.if_icmp .ne 11, 3) := by decide +kernel
theorem d13_14 : decode jdk_65_method_121_code 14 = .ok (.iload_n 1, 1) := by decide +kernel
theorem d13_15 : decode jdk_65_method_121_code 15 = .ok (.newarray .byte, 2) := by decide +kernel
theorem d13_17 : decode jdk_65_method_121_code 17 = .ok (.astore_n 2, 1) := by decide +kernel
theorem d13_18 : decode jdk_65_method_121_code 18 = .ok (.aload_n 0, 1) := by decide +kernel
theorem d13_19 : decode jdk_65_method_121_code 19 = .ok (.iconst 0, 1) := by decide +kernel
theorem d13_20 : decode jdk_65_method_121_code 20 = .ok (.aload_n 2, 1) := by decide +kernel
theorem d13_21 : decode jdk_65_method_121_code 21 = .ok (.iconst 0, 1) := by decide +kernel
theorem d13_22 : decode jdk_65_method_121_code 22 = .ok (.aload_n 0, 1) := by decide +kernel
theorem d13_23 : decode jdk_65_method_121_code 23 = .ok (.arraylength, 1) := by decide +kernel
theorem d13_24 : decode jdk_65_method_121_code 24 = .ok (.iload_n 1, 1) := by decide +kernel
theorem d13_25 : decode jdk_65_method_121_code 25 = .ok (.invokestatic 304, 3) := by decide +kernel
theorem d13_28 : decode jdk_65_method_121_code 28 = .ok (.invokestatic 150, 3) := by decide +kernel
theorem d13_31 : decode jdk_65_method_121_code 31 = .ok (.aload_n 2, 1) := by decide +kernel
theorem d13_32 : decode jdk_65_method_121_code 32 = .ok (.areturn, 1) := by decide +kernel
theorem pn_13 : plainName "java/util/Arrays" = true := by first | (simp [plainName, overriddenIn]; done) | decide +kernel
theorem ef_13 (m : MethodId) (x0 : Addr) (x1 : Int32) : entryFrame m #[(.ref x0), (.int x1)] 3 = mkF m 0 #[.val (.ref x0), .val (.int x1), .unset] [] := by first | (simp [entryFrame, mkF, argsToLocals, Value.category]; done) | rfl
def Q_rmCO (Z : State) (va : Addr) (k1 : ClassId) (zl : Int32) (lv : List Value) (p2 : Int32) (h0 : Heap) (n0 : Nat) (v : Option Value) (h : Heap) (L : List Loc) : Prop := ∃ (r1 : Addr) (kr1 : ClassId), v = some (.ref r1) ∧ Fr n0 L ∧ Keep h0 h [] ∧ h0.size ≤ r1 ∧ Arv Z h r1 kr1 .byte p2 (own_cp lv (zl).toNatClampNeg (p2).toNatClampNeg) (.int (0 : Int32)) ∧ Exa Z h r1 "[B" ∧ (own_cp lv (zl).toNatClampNeg (p2).toNatClampNeg).length = (p2).toNatClampNeg
set_option maxRecDepth 65536 in
set_option maxHeartbeats 40000000 in
theorem rmCO (l : Launch) (Z : State) (a0 : Array Value) (hw : ∀ d ∈ tables_1, d.before a0 Z = true) (ws : List Jvm.Cond) (va : Addr) (k1 : ClassId) (zl : Int32) (lv : List Value) (p2 : Int32) (h0 : Heap) (n0 : Nat) (Z0 : n0 ≤ h0.size) (V_va : Arv Z h0 va k1 .byte zl lv (.int (0 : Int32))) (hmn : (F14_0 zl p2) = zl) (hc_q2 : ¬ (p2 = zl)) (hc_q4 : ¬ (p2) < 0) (hc_q5 : (p2).toNatClampNeg ≤ 18) (hc_q9 : ¬ (zl) < 0) (hc_q10 : (zl).toNatClampNeg ≤ (p2).toNatClampNeg) :
    MetFree l (⟨"java/util/Arrays", "copyOf", "([BI)[B"⟩ : MethodName) (head1 (Jvm.Cond.code (⟨"java/util/Arrays", "copyOf", "([BI)[B"⟩ : MethodName) jdk_65_method_121_code 3 (some (.array .byte)) :: ws) ({ frames := 1, cells := 1, slots := 18, locals := 60 } : Room)) (fun a U => a = #[(.ref va), (.int p2)] ∧ Z.Warmed39 U.vm ∧ U.heap = h0) (fun _ _ _ _ _ => True) (fun _ U o U' => ∃ v L, o = .returned v ∧ Q_rmCO Z va k1 zl lv p2 h0 n0 v U'.heap L ∧ FrameEnd U o U' L ({ frames := 1, cells := 1, slots := 18, locals := 60 } : Room).cells ({ frames := 1, cells := 1, slots := 18, locals := 60 } : Room).slots) := by
  refine MetFree.of_bodySF (plainFor_of_name pn_13) hisR ?_
  intro p e s m args below meth c s₁ Bd hml0 hP hK
  obtain ⟨rfl, hZ, hh⟩ := hP
  have hx := Bd.exec
  have hby := Bd.bytes
  have hml : c.maxLocals = 3 := hml0
  have hown : s.vm.findClass "java/util/Arrays" = some m.cls := findClass_of_methodNamed Bd.named
  have hnm := (name_of_methodNamed Bd.named Bd.method).1
  have X0 : Stand p l e ({ frames := 1, cells := 1, slots := 18, locals := 60 } : Room) s m #[(.ref va), (.int p2)] below meth c s₁ [] 0 0 := Stand.of_body Bd
  have e0 : s₁.heap = h0 := by rw [← hh, Bd.state]; rfl
  have N0 := Fr.nil n0
  have pre0 : ∀ t, Steps p.tables e below (s₁.setTop (mkF m 0 #[.val (.ref va), .val (.int p2), .unset] [])) t → Steps p.tables e below (s₁.setTop (entryFrame m #[(.ref va), (.int p2)] 3)) t := fun t k => castTop (ef_13 m va p2) k
  have K0 : Keep h0 h0 [] := Keep.refl _ _
  obtain ⟨cl_q1, Ar_q1, qk_q1, S_q1, Nn_q1, H_q1, G_q1⟩ := id V_va
  obtain ⟨T_q3, h_q3, k_q3, X_q3, e_q3, E_q3, A_q3, EX_q3, st_q3⟩ := newPE X0 hx hZ (own_w hw 0 rfl) e0 (g := (mkF m 15 #[.val (.ref va), .val (.int p2), .unset] [(.int p2)])) rfl (hb hby d13_15) rfl hc_q4 (cap := 18) hc_q5 (by decide) (by decide) (by decide) (ad := "[B") (by decide)
  obtain ⟨b_q3, g_q3⟩ : ∃ z, z = h0.size := ⟨_, rfl⟩
  rw [← g_q3] at A_q3 EX_q3 st_q3
  have ge_b_q3 : n0 ≤ b_q3 := Nat.le_trans (Nat.le_trans Z0 K0.1) (Nat.le_of_eq g_q3.symm)
  have sz_b_q3 : h0.size ≤ b_q3 := Nat.le_trans K0.1 (Nat.le_of_eq g_q3.symm)
  have K_q3 : Keep h0 h_q3 [] := K0.ext E_q3
  have V_va__q3 := V_va.ext E_q3
  have V_b_q3 : Arv Z h_q3 b_q3 k_q3 .byte p2 [] (.int (0 : Int32)) := (Arv.new A_q3 hc_q4).pad (pad_rep [] (.int (0 : Int32)) 0)
  have V_b_q3_r : Arv Z h_q3 b_q3 k_q3 .byte p2 (List.replicate (p2).toNatClampNeg (.int (0 : Int32))) (.int (0 : Int32)) := V_b_q3.pad (own_rep _ _)
  obtain ⟨cl_q6, Ar_q6, qk_q6, S_q6, Nn_q6, H_q6, G_q6⟩ := id V_va__q3
  obtain ⟨_, _, ⟨T_q7, L_q7, k_q7, n_q7⟩, -, X_q7, ⟨Lc_q7, hQ_q7, l_q7, y_q7, z_q7⟩, st_q7⟩ := Jvm.LawKit.callS X_q3 hx (y := (⟨"java/lang/Math", "min", "(II)I"⟩ : MethodName)) hown (mvT hZ (own_w hw 71 rfl)) (mvT hZ (own_w hw 72 rfl)) (mvT hZ (own_w hw 63 rfl)) (mvT hZ (own_w hw 73 rfl)) (by decide) (backOf (W := 4) (rm14 l Z a0 hw [] zl p2 h_q3 n0 (Nat.le_trans Z0 K_q3.1)) hZ (own_w hw 73 rfl) (own_w hw 63 rfl) (by decide) (by decide)) (g := (mkF m 25 #[.val (.ref va), .val (.int p2), .val (.ref b_q3)] [(.int p2), (.int zl), (.int (0 : Int32)), (.ref b_q3), (.int (0 : Int32)), (.ref va)])) rfl (by rw [hml]; rfl) (argsL := [(.int zl), (.int p2)]) (rest := [(.int (0 : Int32)), (.ref b_q3), (.int (0 : Int32)), (.ref va)]) (lenOf pd__II_I rfl) rfl (by show 2 * 0 + _ ≤ _; exact Nat.le_of_eq rfl) (hb hby d13_25) (fun _ _ => ⟨rfl, e_q3, (by decide : 1 + 0 ≤ _), (by decide : 18 + 0 ≤ _)⟩)
  dsimp only [Pt.U, Pt.locs, Pt.cells, Pt.slots] at X_q7 l_q7 y_q7 z_q7 st_q7 hQ_q7
  subst l_q7 y_q7 z_q7
  obtain ⟨rfl, Nq_q7, eq_q7⟩ := hQ_q7
  have Kq_q7 : Keep h_q3 T_q7.heap [] := by rw [eq_q7]; exact Keep.refl _ _
  have N_q7 := Fr.app N0 Nq_q7
  have V_va__q7 := V_va__q3.keep Kq_q7 nin0
  have V_b_q3_r__q7 := V_b_q3_r.keep Kq_q7 nin0
  have EX_q3__q7 := EX_q3.keep Kq_q7
  have K_q7 : Keep h0 T_q7.heap [] := K_q3.trans Kq_q7 all0
  obtain ⟨T_q8, h_q8, L_q8, X_q8, e_q8, N_q8, Kq_q8, V_q8, st_q8⟩ := cpA X_q7 hx hZ hown (own_w hw 74 rfl) (own_w hw 77 rfl) (own_w hw 75 rfl) (own_w hw 76 rfl) rfl V_va__q7 V_b_q3_r__q7 (sp := (0 : Int32)) (dp := (0 : Int32)) (us := ((List.range (zl).toNatClampNeg).map fun i => lv.getD (0 + i) (.int (0 : Int32)))) (Or.inl ⟨rfl, rfl⟩) (by decide) (by decide) hc_q9 (Nat.le_of_eq (Nat.zero_add _)) (own_z0 hc_q10) rfl (by rw [List.length_replicate]; exact (own_z0 hc_q10)) N_q7 ge_b_q3 (g := (mkF m 28 #[.val (.ref va), .val (.int p2), .val (.ref b_q3)] [(.int zl), (.int (0 : Int32)), (.ref b_q3), (.int (0 : Int32)), (.ref va)])) rfl (by rw [hml]; rfl) rfl (hb hby d13_28) (by decide) (W := 0) (by show 2 * 0 + _ ≤ _; exact Nat.le_of_eq rfl) (by decide)
  have EX_q3__q8 := EX_q3__q7.keep Kq_q8
  have V_b_q3__q8 : Arv Z h_q8 b_q3 k_q3 .byte p2 (own_cp lv (zl).toNatClampNeg (p2).toNatClampNeg) (.int (0 : Int32)) := by have q := V_q8; rw [own_cp_eq] at q; exact q
  have K_q8 : Keep h0 h_q8 [] := K_q7.trans Kq_q8 (allS (Or.inr sz_b_q3) all0)
  obtain ⟨fs, hr, hrun, hended, hW, hsame⟩ := X_q8.leave (v := some (.ref b_q3)) (fun h => by rw [Bd.returns] at h; cases h) Bd.notSynchronized
  refine ⟨_, _, pre0 _ ?_, hrun, hended, _, _, rfl, ?_, ⟨_, rfl⟩, hW, hsame.mono (by decide) (by decide)⟩
  · show Steps p.tables e below (s₁.setTop (mkF m 0 #[.val (.ref va), .val (.int p2), .unset] [])) _
    refine XS.iloadN X0.here hx rfl (hb hby d13_0) rfl ?_
    refine XS.aloadN X0.here hx rfl (hb hby d13_1) rfl rfl ?_
    show Steps p.tables e below (s₁.setTop (mkF m 2 #[.val (.ref va), .val (.int p2), .unset] [(.ref va), (.int p2)])) _
    refine X0.arraylength hx (by rw [e0]; exact Ar_q1.1) (State.isArrayOf_alike hZ.alike Ar_q1.2.1) (g := (mkF m 2 #[.val (.ref va), .val (.int p2), .unset] [(.ref va), (.int p2)])) rfl rfl (hb hby d13_2) _ ?_
    rw [len_of S_q1 Nn_q1]
    refine XS.icmpYes X0.here hx rfl (pc0 := 3) (pc' := 14) rfl (hb hby d13_3) rfl (feq hc_q2).2 (by decide) (by decide) ?_
    refine XS.iloadN X0.here hx rfl (hb hby d13_14) rfl ?_
    show Steps p.tables e below (s₁.setTop (mkF m 15 #[.val (.ref va), .val (.int p2), .unset] [(.int p2)])) _
    refine st_q3 _ ?_
    refine XS.astoreN X_q3.here hx rfl (hb hby d13_17) rfl rfl (l' := #[.val (.ref va), .val (.int p2), .val (.ref b_q3)]) rfl ?_
    refine XS.aloadN X_q3.here hx rfl (hb hby d13_18) rfl rfl ?_
    refine XS.iconst X_q3.here hx rfl (hb hby d13_19) ?_
    show Steps p.tables e below (T_q3.setTop (mkF m 20 #[.val (.ref va), .val (.int p2), .val (.ref b_q3)] [(.int (0 : Int32)), (.ref va)])) _
    refine XS.aloadN X_q3.here hx rfl (hb hby d13_20) rfl rfl ?_
    refine XS.iconst X_q3.here hx rfl (hb hby d13_21) ?_
    refine XS.aloadN X_q3.here hx rfl (hb hby d13_22) rfl rfl ?_
    show Steps p.tables e below (T_q3.setTop (mkF m 23 #[.val (.ref va), .val (.int p2), .val (.ref b_q3)] [(.ref va), (.int (0 : Int32)), (.ref b_q3), (.int (0 : Int32)), (.ref va)])) _
    refine X_q3.arraylength hx (by rw [e_q3]; exact Ar_q6.1) (State.isArrayOf_alike hZ.alike Ar_q6.2.1) (g := (mkF m 23 #[.val (.ref va), .val (.int p2), .val (.ref b_q3)] [(.ref va), (.int (0 : Int32)), (.ref b_q3), (.int (0 : Int32)), (.ref va)])) rfl rfl (hb hby d13_23) _ ?_
    rw [len_of S_q6 Nn_q6]
    refine XS.iloadN X_q3.here hx rfl (hb hby d13_24) rfl ?_
    show Steps p.tables e below (T_q3.setTop (mkF m 25 #[.val (.ref va), .val (.int p2), .val (.ref b_q3)] [(.int p2), (.int zl), (.int (0 : Int32)), (.ref b_q3), (.int (0 : Int32)), (.ref va)])) _
    refine st_q7 _ ?_
    show Steps p.tables e below (T_q7.setTop (mkF m 28 #[.val (.ref va), .val (.int p2), .val (.ref b_q3)] [(.int (F14_0 zl p2)), (.int (0 : Int32)), (.ref b_q3), (.int (0 : Int32)), (.ref va)])) _
    rw [hmn]
    show Steps p.tables e below (T_q7.setTop (mkF m 28 #[.val (.ref va), .val (.int p2), .val (.ref b_q3)] [(.int zl), (.int (0 : Int32)), (.ref b_q3), (.int (0 : Int32)), (.ref va)])) _
    refine st_q8 _ ?_
    refine XS.aloadN X_q8.here hx rfl (hb hby d13_31) rfl rfl ?_
    show Steps p.tables e below (T_q8.setTop (mkF m 32 #[.val (.ref va), .val (.int p2), .val (.ref b_q3)] [(.ref b_q3)])) _
    jvm_step X_q8.here [X_q8.here.top, hx, (hb hby d13_32), X_q8.method', Bd.returns, Value.isRef, FieldType.isReference]
    first | (intro acts; rw [hr _ acts rfl rfl rfl]) | rw [hr _ _ rfl rfl rfl]
    exact Steps.refl _
  · show Q_rmCO Z va k1 zl lv p2 h0 n0 _ T_q8.heap _
    rw [e_q8]
    exact ⟨b_q3, k_q3, rfl, N_q8, K_q8, sz_b_q3, V_b_q3__q8, EX_q3__q8, (own_cp_len _ hc_q10)⟩
theorem d7_17 : decode jdk_68_method_9_code 17 = .ok (.aload_n 0, 1) := by decide +kernel
theorem d7_18 : decode jdk_68_method_9_code 18 = .ok (.aload_n 0, 1) := by decide +kernel
theorem d7_19 : decode jdk_68_method_9_code 19 = .ok (.getfield 15, 3) := by decide +kernel
theorem d7_22 : decode jdk_68_method_9_code 22 = .ok (.aload_n 0, 1) := by decide +kernel
theorem d7_23 : decode jdk_68_method_9_code 23 = .ok (.iload_n 1, 1) := by decide +kernel
theorem d7_24 : decode jdk_68_method_9_code 24 = .ok (.invokevirtual 104, 3) := by decide +kernel
theorem d7_27 : decode jdk_68_method_9_code 27 = .ok (.aload_n 0, 1) := by decide +kernel
theorem d7_28 : decode jdk_68_method_9_code 28 = .ok (.getfield 22, 3) := by decide +kernel
theorem d7_31 : decode jdk_68_method_9_code 31 = .ok (.ishl, 1) := by decide +kernel
theorem d7_32 : decode jdk_68_method_9_code 32 = .ok (.invokestatic 108, 3) := by decide +kernel
theorem d7_35 : decode jdk_68_method_9_code 35 = .ok (.putfield 15, 3) := by decide +kernel
theorem pd__I_I : parseMethodDescriptor "(I)I" = some ⟨[.int], some .int⟩ := by decide +kernel
theorem pd___BI__B : parseMethodDescriptor "([BI)[B" = some ⟨[(.array .byte), .int], some (.array .byte)⟩ := by decide +kernel
def Q_rmEG (Z : State) (a1 va : Addr) (k1 : ClassId) (zl : Int32) (lv : List Value) (cn : Int32) (zn : Int32) (p2 : Int32) (h0 : Heap) (n0 : Nat) (v : Option Value) (h : Heap) (L : List Loc) : Prop := ∃ (r1 : Addr) (kr1 : ClassId), v = none ∧ Fr n0 L ∧ Keep h0 h [a1] ∧ h0.size ≤ r1 ∧ Fld Z h a1 "java/lang/AbstractStringBuilder" "value" "[B" (.ref r1) ∧ Fld Z h a1 "java/lang/AbstractStringBuilder" "coder" "B" (.int (0 : Int32)) ∧ Fld Z h a1 "java/lang/AbstractStringBuilder" "count" "I" (.int cn) ∧ Arv Z h r1 kr1 .byte zn (own_cp lv (zl).toNatClampNeg (zn).toNatClampNeg) (.int (0 : Int32)) ∧ Exa Z h r1 "[B" ∧ (own_cp lv (zl).toNatClampNeg (zn).toNatClampNeg).length = (zn).toNatClampNeg
set_option maxRecDepth 65536 in
set_option maxHeartbeats 40000000 in
theorem rmEG (l : Launch) (Z : State) (a0 : Array Value) (hw : ∀ d ∈ tables_1, d.before a0 Z = true) (ws : List Jvm.Cond) (a1 va : Addr) (k1 : ClassId) (zl : Int32) (lv : List Value) (cn : Int32) (zn : Int32) (p2 : Int32) (h0 : Heap) (n0 : Nat) (Z0 : n0 ≤ h0.size) (EX_a1 : Exa Z h0 a1 "java/lang/StringBuilder") (F_value_a1 : Fld Z h0 a1 "java/lang/AbstractStringBuilder" "value" "[B" (.ref va)) (F_coder_a1 : Fld Z h0 a1 "java/lang/AbstractStringBuilder" "coder" "B" (.int (0 : Int32))) (F_count_a1 : Fld Z h0 a1 "java/lang/AbstractStringBuilder" "count" "I" (.int cn)) (V_va : Arv Z h0 va k1 .byte zl lv (.int (0 : Int32))) (EX_va : Exa Z h0 va "[B") (ge_a1 : n0 ≤ a1) (ne_va_a1 : va ≠ a1) (hc_q4 : (0 : Int32) < (p2 - (zl >>> ((0 : Int32) &&& 31)))) (hc_q7 : (0 : Int32) < (zl + (F12_0 ((p2 <<< ((0 : Int32) &&& 31)) - zl) (zl + (2 : Int32))))) (hc_q8 : ¬ ((2147483639 : Int32) < (zl + (F12_0 ((p2 <<< ((0 : Int32) &&& 31)) - zl) (zl + (2 : Int32)))))) (hc_q9 : ¬ ((zl + (F12_0 ((p2 <<< ((0 : Int32) &&& 31)) - zl) (zl + (2 : Int32)))) = (2147483647 : Int32))) (hc_q11 : (((zl + (F12_0 ((p2 <<< ((0 : Int32) &&& 31)) - zl) (zl + (2 : Int32)))) >>> ((0 : Int32) &&& 31)) <<< ((0 : Int32) &&& 31)) = zn) (hc_q13 : (F14_0 zl zn) = zl) (hc_q14 : ¬ (zn = zl)) (hc_q15 : ¬ (zn) < 0) (hc_q16 : (zn).toNatClampNeg ≤ 18) (hc_q17 : ¬ (zl) < 0) (hc_q18 : (zl).toNatClampNeg ≤ (zn).toNatClampNeg) :
    MetFree l (⟨"java/lang/AbstractStringBuilder", "ensureCapacityInternal", "(I)V"⟩ : MethodName) (head1 (Jvm.Cond.code (⟨"java/lang/AbstractStringBuilder", "ensureCapacityInternal", "(I)V"⟩ : MethodName) jdk_68_method_9_code 3 none :: ws) ({ frames := 3, cells := 1, slots := 18, locals := 77 } : Room)) (fun a U => a = #[(.ref a1), (.int p2)] ∧ Z.Warmed39 U.vm ∧ U.heap = h0) (fun _ _ _ _ _ => True) (fun _ U o U' => ∃ v L, o = .returned v ∧ Q_rmEG Z a1 va k1 zl lv cn zn p2 h0 n0 v U'.heap L ∧ FrameEnd U o U' L ({ frames := 3, cells := 1, slots := 18, locals := 77 } : Room).cells ({ frames := 3, cells := 1, slots := 18, locals := 77 } : Room).slots) := by
  refine MetFree.of_bodySF (plainFor_of_name pn_7) hisR ?_
  intro p e s m args below meth c s₁ Bd hml0 hP hK
  obtain ⟨rfl, hZ, hh⟩ := hP
  have hx := Bd.exec
  have hby := Bd.bytes
  have hml : c.maxLocals = 3 := hml0
  have hown : s.vm.findClass "java/lang/AbstractStringBuilder" = some m.cls := findClass_of_methodNamed Bd.named
  have hnm := (name_of_methodNamed Bd.named Bd.method).1
  have X0 : Stand p l e ({ frames := 3, cells := 1, slots := 18, locals := 77 } : Room) s m #[(.ref a1), (.int p2)] below meth c s₁ [] 0 0 := Stand.of_body Bd
  have e0 : s₁.heap = h0 := by rw [← hh, Bd.state]; rfl
  have N0 := Fr.nil n0
  have pre0 : ∀ t, Steps p.tables e below (s₁.setTop (mkF m 0 #[.val (.ref a1), .val (.int p2), .unset] [])) t → Steps p.tables e below (s₁.setTop (entryFrame m #[(.ref a1), (.int p2)] 3)) t := fun t k => castTop (ef_7 m a1 p2) k
  have K0 : Keep h0 h0 [a1] := Keep.refl _ _
  obtain ⟨T_q1, X_q1, e_q1, st_q1⟩ := getF X0 hx hZ hown (host := "") (Or.inl (own_w hw 22 rfl)) Via.refl e0 F_value_a1 (g := (mkF m 1 #[.val (.ref a1), .val (.int p2), .unset] [(.ref a1)])) rfl rfl (hb hby d7_1)
  obtain ⟨cl_q2, Ar_q2, qk_q2, S_q2, Nn_q2, H_q2, G_q2⟩ := id V_va
  obtain ⟨T_q3, X_q3, e_q3, st_q3⟩ := getF X_q1 hx hZ hown (host := "") (Or.inl (own_w hw 24 rfl)) Via.refl e_q1 F_coder_a1 (g := (mkF m 6 #[.val (.ref a1), .val (.int p2), .unset] [(.ref a1), (.int zl)])) rfl rfl (hb hby d7_6)
  obtain ⟨T_q5, X_q5, e_q5, st_q5⟩ := getF X_q3 hx hZ hown (host := "") (Or.inl (own_w hw 22 rfl)) Via.refl e_q3 F_value_a1 (g := (mkF m 19 #[.val (.ref a1), .val (.int p2), .val (.int (zl >>> ((0 : Int32) &&& 31)))] [(.ref a1), (.ref a1)])) rfl rfl (hb hby d7_19)
  obtain ⟨cq_q6, qa_q6, qb_q6⟩ := EX_a1.cell
  obtain ⟨_, _, ⟨T_q6, L_q6, k_q6, n_q6⟩, -, X_q6, ⟨Lc_q6, hQ_q6, l_q6, y_q6, z_q6⟩, st_q6⟩ := X_q5.privateBack hx (y := (⟨"java/lang/AbstractStringBuilder", "newCapacity", "(I)I"⟩ : MethodName)) hown (mvT hZ (own_w hw 52 rfl)) (mvT hZ (own_w hw 53 rfl)) (mvT hZ (own_selp (y := (⟨"java/lang/AbstractStringBuilder", "newCapacity", "(I)I"⟩ : MethodName)) (by decide) (own_w hw 55 rfl) (own_w hw 54 rfl) (own_w hw 53 rfl))) (Cond.privateMethod_at (mvP hZ (own_w hw 54 rfl) (args := #[]))) (mvT hZ (own_w hw 56 rfl)) (by decide) (backOf (W := 2) (rmNC l Z a0 hw [] a1 va k1 zl lv p2 h0 n0 (Nat.le_trans Z0 K0.1) F_value_a1 F_coder_a1 V_va hc_q7 hc_q8 hc_q9) hZ (own_w hw 56 rfl) (own_w hw 15 rfl) (by decide) (by decide)) (g := (mkF m 24 #[.val (.ref a1), .val (.int p2), .val (.int (zl >>> ((0 : Int32) &&& 31)))] [(.int p2), (.ref a1), (.ref va), (.ref a1)])) rfl (by rw [hml]; rfl) (Steps.refl _) (a := a1) (by rw [e_q5]; exact qa_q6) qb_q6 (argsL := [(.int p2)]) (rest := [(.ref va), (.ref a1)]) (lenOf pd__I_I rfl) rfl (by show 2 * 0 + _ ≤ _; exact Nat.le_of_eq rfl) (hb hby d7_24) (fun _ _ => ⟨rfl, e_q5, (by decide : 0 + 0 ≤ _), (by decide : 0 + 0 ≤ _)⟩)
  dsimp only [Pt.U, Pt.locs, Pt.cells, Pt.slots] at X_q6 l_q6 y_q6 z_q6 st_q6 hQ_q6
  subst l_q6 y_q6 z_q6
  obtain ⟨rfl, Nq_q6, eq_q6⟩ := hQ_q6
  have Kq_q6 : Keep h0 T_q6.heap [] := by rw [eq_q6]; exact Keep.refl _ _
  have N_q6 := Fr.app N0 Nq_q6
  have EX_a1__q6 := EX_a1.keep Kq_q6
  have F_value_a1__q6 := F_value_a1.keep Kq_q6 nin0
  have F_coder_a1__q6 := F_coder_a1.keep Kq_q6 nin0
  have F_count_a1__q6 := F_count_a1.keep Kq_q6 nin0
  have V_va__q6 := V_va.keep Kq_q6 nin0
  have K_q6 : Keep h0 T_q6.heap [a1] := K0.trans Kq_q6 all0
  obtain ⟨T_q10, X_q10, e_q10, st_q10⟩ := getF X_q6 hx hZ hown (host := "") (Or.inl (own_w hw 24 rfl)) Via.refl rfl F_coder_a1__q6 (g := (mkF m 28 #[.val (.ref a1), .val (.int p2), .val (.int (zl >>> ((0 : Int32) &&& 31)))] [(.ref a1), (.int ((zl + (F12_0 ((p2 <<< ((0 : Int32) &&& 31)) - zl) (zl + (2 : Int32)))) >>> ((0 : Int32) &&& 31))), (.ref va), (.ref a1)])) rfl rfl (hb hby d7_28)
  obtain ⟨_, _, ⟨T_q12, L_q12, k_q12, n_q12⟩, -, X_q12, ⟨Lc_q12, hQ_q12, l_q12, y_q12, z_q12⟩, st_q12⟩ := Jvm.LawKit.callS X_q10 hx (y := (⟨"java/util/Arrays", "copyOf", "([BI)[B"⟩ : MethodName)) hown (mvT hZ (own_w hw 67 rfl)) (mvT hZ (own_w hw 68 rfl)) (mvT hZ (own_w hw 69 rfl)) (mvT hZ (own_w hw 70 rfl)) (by decide) (backOf (W := 1) (rmCO l Z a0 hw [] va k1 zl lv zn T_q6.heap n0 (Nat.le_trans Z0 K_q6.1) V_va__q6 hc_q13 hc_q14 hc_q15 hc_q16 hc_q17 hc_q18) hZ (own_w hw 70 rfl) (own_w hw 69 rfl) (by decide) (by decide)) (g := (mkF m 32 #[.val (.ref a1), .val (.int p2), .val (.int (zl >>> ((0 : Int32) &&& 31)))] [(.int zn), (.ref va), (.ref a1)])) rfl (by rw [hml]; rfl) (argsL := [(.ref va), (.int zn)]) (rest := [(.ref a1)]) (lenOf pd___BI__B rfl) rfl (by show 2 * 0 + _ ≤ _; exact Nat.le_of_eq rfl) (hb hby d7_32) (fun _ _ => ⟨rfl, e_q10, (by decide : 0 + 1 ≤ _), (by decide : 0 + 18 ≤ _)⟩)
  dsimp only [Pt.U, Pt.locs, Pt.cells, Pt.slots] at X_q12 l_q12 y_q12 z_q12 st_q12 hQ_q12
  subst l_q12 y_q12 z_q12
  obtain ⟨r1_q12, kr1_q12, rfl, Nq_q12, Kq_q12, sz0_r1_q12, O0_q12, O1_q12, O2_q12⟩ := hQ_q12
  have N_q12 := Fr.app N_q6 Nq_q12
  have sz_r1_q12 : h0.size ≤ r1_q12 := Nat.le_trans K_q6.1 sz0_r1_q12
  have ne_a1_r1_q12 : a1 ≠ r1_q12 := Nat.ne_of_lt (Nat.lt_of_lt_of_le EX_a1__q6.lt sz0_r1_q12)
  have EX_a1__q12 := EX_a1__q6.keep Kq_q12
  have F_value_a1__q12 := F_value_a1__q6.keep Kq_q12 nin0
  have F_coder_a1__q12 := F_coder_a1__q6.keep Kq_q12 nin0
  have F_count_a1__q12 := F_count_a1__q6.keep Kq_q12 nin0
  have K_q12 : Keep h0 T_q12.heap [a1] := K_q6.trans Kq_q12 all0
  obtain ⟨T_q19, h_q19, X_q19, e_q19, W_q19, st_q19⟩ := putF X_q12 hx hZ hown (host := "") (Or.inl (own_w hw 22 rfl)) Via.refl rfl F_value_a1__q12 EX_a1__q12 (Or.inl (own_w hw 23 rfl)) (own_w hw 6 rfl) (ty := (.array .byte)) (by decide) rfl rfl (g := (mkF m 35 #[.val (.ref a1), .val (.int p2), .val (.int (zl >>> ((0 : Int32) &&& 31)))] [(.ref r1_q12), (.ref a1)])) rfl rfl (hb hby d7_35)
  have F_coder_a1__q19 := F_coder_a1__q12.other W_q19 (Or.inr (slot_ne (Or.inl (own_w hw 25 rfl)) (Or.inl (own_w hw 23 rfl)) (by decide) (t := .byte) (t' := (.array .byte)) (by decide) (by decide)))
  have F_count_a1__q19 := F_count_a1__q12.other W_q19 (Or.inr (slot_ne (Or.inl (own_w hw 37 rfl)) (Or.inl (own_w hw 23 rfl)) (by decide) (t := .int) (t' := (.array .byte)) (by decide) (by decide)))
  have O0_q12__q19 := O0_q12.other W_q19 (Ne.symm ne_a1_r1_q12)
  have O1_q12__q19 := O1_q12.wr W_q19
  have F_value_a1__q19 := F_value_a1__q12.same W_q19
  have K_q19 : Keep h0 h_q19 [a1] := K_q12.wr W_q19 (Or.inl (List.mem_of_getElem? (i := 0) rfl))
  have N_q19 := Fr.snoc X_q19 N_q12 ge_a1
  obtain ⟨fs, hr, hrun, hended, hW, hsame⟩ := X_q19.leave (v := none) (fun _ => rfl) Bd.notSynchronized
  refine ⟨_, _, pre0 _ ?_, hrun, hended, _, _, rfl, ?_, ⟨_, rfl⟩, hW, hsame.mono (by decide) (by decide)⟩
  · show Steps p.tables e below (s₁.setTop (mkF m 0 #[.val (.ref a1), .val (.int p2), .unset] [])) _
    refine XS.aloadN X0.here hx rfl (hb hby d7_0) rfl rfl ?_
    show Steps p.tables e below (s₁.setTop (mkF m 1 #[.val (.ref a1), .val (.int p2), .unset] [(.ref a1)])) _
    refine st_q1 _ ?_
    show Steps p.tables e below (T_q1.setTop (mkF m 4 #[.val (.ref a1), .val (.int p2), .unset] [(.ref va)])) _
    refine X_q1.arraylength hx (by rw [e_q1]; exact Ar_q2.1) (State.isArrayOf_alike hZ.alike Ar_q2.2.1) (g := (mkF m 4 #[.val (.ref a1), .val (.int p2), .unset] [(.ref va)])) rfl rfl (hb hby d7_4) _ ?_
    rw [len_of S_q2 Nn_q2]
    refine XS.aloadN X_q1.here hx rfl (hb hby d7_5) rfl rfl ?_
    show Steps p.tables e below (T_q1.setTop (mkF m 6 #[.val (.ref a1), .val (.int p2), .unset] [(.ref a1), (.int zl)])) _
    refine st_q3 _ ?_
    refine XS.ishr X_q3.here hx rfl (hb hby d7_9) rfl ?_
    refine XS.istoreN X_q3.here hx rfl (hb hby d7_10) rfl (l' := #[.val (.ref a1), .val (.int p2), .val (.int (zl >>> ((0 : Int32) &&& 31)))]) rfl ?_
    refine XS.iloadN X_q3.here hx rfl (hb hby d7_11) rfl ?_
    show Steps p.tables e below (T_q3.setTop (mkF m 12 #[.val (.ref a1), .val (.int p2), .val (.int (zl >>> ((0 : Int32) &&& 31)))] [(.int p2)])) _
    refine XS.iloadN X_q3.here hx rfl (hb hby d7_12) rfl ?_
    refine XS.isub X_q3.here hx rfl (hb hby d7_13) rfl ?_
    refine XS.ifNo X_q3.here hx rfl (hb hby d7_14) rfl ((if0 _ _).trans (tlt hc_q4).2.2.2) ?_
    refine XS.aloadN X_q3.here hx rfl (hb hby d7_17) rfl rfl ?_
    show Steps p.tables e below (T_q3.setTop (mkF m 18 #[.val (.ref a1), .val (.int p2), .val (.int (zl >>> ((0 : Int32) &&& 31)))] [(.ref a1)])) _
    refine XS.aloadN X_q3.here hx rfl (hb hby d7_18) rfl rfl ?_
    show Steps p.tables e below (T_q3.setTop (mkF m 19 #[.val (.ref a1), .val (.int p2), .val (.int (zl >>> ((0 : Int32) &&& 31)))] [(.ref a1), (.ref a1)])) _
    refine st_q5 _ ?_
    refine XS.aloadN X_q5.here hx rfl (hb hby d7_22) rfl rfl ?_
    refine XS.iloadN X_q5.here hx rfl (hb hby d7_23) rfl ?_
    show Steps p.tables e below (T_q5.setTop (mkF m 24 #[.val (.ref a1), .val (.int p2), .val (.int (zl >>> ((0 : Int32) &&& 31)))] [(.int p2), (.ref a1), (.ref va), (.ref a1)])) _
    refine st_q6.trans ?_
    refine XS.aloadN X_q6.here hx rfl (hb hby d7_27) rfl rfl ?_
    show Steps p.tables e below (T_q6.setTop (mkF m 28 #[.val (.ref a1), .val (.int p2), .val (.int (zl >>> ((0 : Int32) &&& 31)))] [(.ref a1), (.int ((zl + (F12_0 ((p2 <<< ((0 : Int32) &&& 31)) - zl) (zl + (2 : Int32)))) >>> ((0 : Int32) &&& 31))), (.ref va), (.ref a1)])) _
    refine st_q10 _ ?_
    refine XS.ishl X_q10.here hx rfl (hb hby d7_31) rfl ?_
    show Steps p.tables e below (T_q10.setTop (mkF m 32 #[.val (.ref a1), .val (.int p2), .val (.int (zl >>> ((0 : Int32) &&& 31)))] [(.int (((zl + (F12_0 ((p2 <<< ((0 : Int32) &&& 31)) - zl) (zl + (2 : Int32)))) >>> ((0 : Int32) &&& 31)) <<< ((0 : Int32) &&& 31))), (.ref va), (.ref a1)])) _
    rw [hc_q11]
    show Steps p.tables e below (T_q10.setTop (mkF m 32 #[.val (.ref a1), .val (.int p2), .val (.int (zl >>> ((0 : Int32) &&& 31)))] [(.int zn), (.ref va), (.ref a1)])) _
    refine st_q12 _ ?_
    show Steps p.tables e below (T_q12.setTop (mkF m 35 #[.val (.ref a1), .val (.int p2), .val (.int (zl >>> ((0 : Int32) &&& 31)))] [(.ref r1_q12), (.ref a1)])) _
    refine st_q19 _ ?_
    show Steps p.tables e below (T_q19.setTop (mkF m 38 #[.val (.ref a1), .val (.int p2), .val (.int (zl >>> ((0 : Int32) &&& 31)))] [])) _
    exact X_q19.returnOut hx Bd.returns (hb hby d7_38) hr
  · show Q_rmEG Z a1 va k1 zl lv cn zn p2 h0 n0 _ T_q19.heap _
    rw [e_q19]
    exact ⟨r1_q12, kr1_q12, rfl, N_q19, K_q19, sz_r1_q12, F_value_a1__q19, F_coder_a1__q19, F_count_a1__q19, O0_q12__q19, O1_q12__q19, O2_q12⟩
def Q_rmAA_g (Z : State) (a1 va : Addr) (k1 : ClassId) (zl : Int32) (lv : List Value) (cn : Int32) (zn : Int32) (cs : Int32) (p2 : Int32) (h0 : Heap) (n0 : Nat) (v : Option Value) (h : Heap) (L : List Loc) : Prop := ∃ (r1 : Addr) (kr1 : ClassId), v = some (.ref a1) ∧ Fr n0 L ∧ Keep h0 h [a1] ∧ h0.size ≤ r1 ∧ Fld Z h a1 "java/lang/AbstractStringBuilder" "value" "[B" (.ref r1) ∧ Fld Z h a1 "java/lang/AbstractStringBuilder" "coder" "B" (.int (0 : Int32)) ∧ Fld Z h a1 "java/lang/AbstractStringBuilder" "count" "I" (.int (cn + (1 : Int32))) ∧ Arv Z h r1 kr1 .byte zn ((own_cp lv (zl).toNatClampNeg (zn).toNatClampNeg).set (cn).toNatClampNeg (.int (nar .byte (p2.toInt8.toInt32)))) (.int (0 : Int32)) ∧ Exa Z h r1 "[B" ∧ ((own_cp lv (zl).toNatClampNeg (zn).toNatClampNeg).set (cn).toNatClampNeg (.int (nar .byte (p2.toInt8.toInt32)))).length = (zn).toNatClampNeg
set_option maxRecDepth 65536 in
set_option maxHeartbeats 40000000 in
theorem rmAA_g (l : Launch) (Z : State) (a0 : Array Value) (hw : ∀ d ∈ tables_1, d.before a0 Z = true) (ws : List Jvm.Cond) (a1 va : Addr) (k1 : ClassId) (zl : Int32) (lv : List Value) (cn : Int32) (zn : Int32) (cs : Int32) (p2 : Int32) (h0 : Heap) (n0 : Nat) (Z0 : n0 ≤ h0.size) (EX_a1 : Exa Z h0 a1 "java/lang/StringBuilder") (F_value_a1 : Fld Z h0 a1 "java/lang/AbstractStringBuilder" "value" "[B" (.ref va)) (F_coder_a1 : Fld Z h0 a1 "java/lang/AbstractStringBuilder" "coder" "B" (.int (0 : Int32))) (F_count_a1 : Fld Z h0 a1 "java/lang/AbstractStringBuilder" "count" "I" (.int cn)) (V_va : Arv Z h0 va k1 .byte zl lv (.int (0 : Int32))) (EX_va : Exa Z h0 va "[B") (ge_a1 : n0 ≤ a1) (ne_va_a1 : va ≠ a1) (S_COMPACT_STRINGS : Sta Z h0 "java/lang/String" "COMPACT_STRINGS" "Z" (.int cs)) (hc_q3 : (0 : Int32) < ((cn + (1 : Int32)) - (zl >>> ((0 : Int32) &&& 31)))) (hc_q4 : (0 : Int32) < (zl + (F12_0 (((cn + (1 : Int32)) <<< ((0 : Int32) &&& 31)) - zl) (zl + (2 : Int32))))) (hc_q5 : ¬ ((2147483639 : Int32) < (zl + (F12_0 (((cn + (1 : Int32)) <<< ((0 : Int32) &&& 31)) - zl) (zl + (2 : Int32)))))) (hc_q6 : ¬ ((zl + (F12_0 (((cn + (1 : Int32)) <<< ((0 : Int32) &&& 31)) - zl) (zl + (2 : Int32)))) = (2147483647 : Int32))) (hc_q7 : (((zl + (F12_0 (((cn + (1 : Int32)) <<< ((0 : Int32) &&& 31)) - zl) (zl + (2 : Int32)))) >>> ((0 : Int32) &&& 31)) <<< ((0 : Int32) &&& 31)) = zn) (hc_q8 : (F14_0 zl zn) = zl) (hc_q9 : ¬ (zn = zl)) (hc_q10 : ¬ (zn) < 0) (hc_q11 : (zn).toNatClampNeg ≤ 18) (hc_q12 : ¬ (zl) < 0) (hc_q13 : (zl).toNatClampNeg ≤ (zn).toNatClampNeg) (hc_q15 : ¬ (cs = (0 : Int32))) (hc_q17 : ¬ ((F9_0 p2) = (0 : Int32))) (hc_q22 : ¬ cn < 0 ∧ cn < zn) :
    MetFree l (⟨"java/lang/AbstractStringBuilder", "append", "(C)Ljava/lang/AbstractStringBuilder;"⟩ : MethodName) (head1 (Jvm.Cond.code (⟨"java/lang/AbstractStringBuilder", "append", "(C)Ljava/lang/AbstractStringBuilder;"⟩ : MethodName) jdk_68_method_31_code 2 (some (.object "java/lang/AbstractStringBuilder")) :: ws) ({ frames := 4, cells := 1, slots := 18, locals := 93 } : Room)) (fun a U => a = #[(.ref a1), (.int p2)] ∧ Z.Warmed39 U.vm ∧ U.heap = h0) (fun _ _ _ _ _ => True) (fun _ U o U' => ∃ v L, o = .returned v ∧ Q_rmAA_g Z a1 va k1 zl lv cn zn cs p2 h0 n0 v U'.heap L ∧ FrameEnd U o U' L ({ frames := 4, cells := 1, slots := 18, locals := 93 } : Room).cells ({ frames := 4, cells := 1, slots := 18, locals := 93 } : Room).slots) := by
  refine MetFree.of_bodySF (plainFor_of_name pn_6) hisR ?_
  intro p e s m args below meth c s₁ Bd hml0 hP hK
  obtain ⟨rfl, hZ, hh⟩ := hP
  have hx := Bd.exec
  have hby := Bd.bytes
  have hml : c.maxLocals = 2 := hml0
  have hown : s.vm.findClass "java/lang/AbstractStringBuilder" = some m.cls := findClass_of_methodNamed Bd.named
  have hnm := (name_of_methodNamed Bd.named Bd.method).1
  have X0 : Stand p l e ({ frames := 4, cells := 1, slots := 18, locals := 93 } : Room) s m #[(.ref a1), (.int p2)] below meth c s₁ [] 0 0 := Stand.of_body Bd
  have e0 : s₁.heap = h0 := by rw [← hh, Bd.state]; rfl
  have N0 := Fr.nil n0
  have pre0 : ∀ t, Steps p.tables e below (s₁.setTop (mkF m 0 #[.val (.ref a1), .val (.int p2)] [])) t → Steps p.tables e below (s₁.setTop (entryFrame m #[(.ref a1), (.int p2)] 2)) t := fun t k => castTop (ef_6 m a1 p2) k
  have K0 : Keep h0 h0 [a1] := Keep.refl _ _
  obtain ⟨T_q1, X_q1, e_q1, st_q1⟩ := getF X0 hx hZ hown (host := "") (Or.inl (own_w hw 36 rfl)) Via.refl e0 F_count_a1 (g := (mkF m 2 #[.val (.ref a1), .val (.int p2)] [(.ref a1), (.ref a1)])) rfl rfl (hb hby d6_2)
  obtain ⟨cq_q2, qa_q2, qb_q2⟩ := EX_a1.cell
  obtain ⟨_, _, ⟨T_q2, L_q2, k_q2, n_q2⟩, -, X_q2, ⟨Lc_q2, hQ_q2, l_q2, y_q2, z_q2⟩, st_q2⟩ := X_q1.privateBack hx (y := (⟨"java/lang/AbstractStringBuilder", "ensureCapacityInternal", "(I)V"⟩ : MethodName)) hown (mvT hZ (own_w hw 38 rfl)) (mvT hZ (own_w hw 39 rfl)) (mvT hZ (own_selp (y := (⟨"java/lang/AbstractStringBuilder", "ensureCapacityInternal", "(I)V"⟩ : MethodName)) (by decide) (own_w hw 41 rfl) (own_w hw 40 rfl) (own_w hw 39 rfl))) (Cond.privateMethod_at (mvP hZ (own_w hw 40 rfl) (args := #[]))) (mvT hZ (own_w hw 42 rfl)) (by decide) (backOf (W := 0) (rmEG l Z a0 hw [] a1 va k1 zl lv cn zn (cn + (1 : Int32)) h0 n0 (Nat.le_trans Z0 K0.1) EX_a1 F_value_a1 F_coder_a1 F_count_a1 V_va EX_va ge_a1 ne_va_a1 hc_q3 hc_q4 hc_q5 hc_q6 hc_q7 hc_q8 hc_q9 hc_q10 hc_q11 hc_q12 hc_q13) hZ (own_w hw 42 rfl) (own_w hw 15 rfl) (by decide) (by decide)) (g := (mkF m 7 #[.val (.ref a1), .val (.int p2)] [(.int (cn + (1 : Int32))), (.ref a1)])) rfl (by rw [hml]; rfl) (Steps.refl _) (a := a1) (by rw [e_q1]; exact qa_q2) qb_q2 (argsL := [(.int (cn + (1 : Int32)))]) (rest := []) (lenOf pd__I_V rfl) rfl (by show 2 * 0 + _ ≤ _; exact Nat.le_of_eq rfl) (hb hby d6_7) (fun _ _ => ⟨rfl, e_q1, (by decide : 0 + 1 ≤ _), (by decide : 0 + 18 ≤ _)⟩)
  dsimp only [Pt.U, Pt.locs, Pt.cells, Pt.slots] at X_q2 l_q2 y_q2 z_q2 st_q2 hQ_q2
  subst l_q2 y_q2 z_q2
  obtain ⟨r1_q2, kr1_q2, rfl, Nq_q2, Kq_q2, sz0_r1_q2, O0_q2, O1_q2, O2_q2, O3_q2, O4_q2, O5_q2⟩ := hQ_q2
  have N_q2 := Fr.app N0 Nq_q2
  have ge_r1_q2 : n0 ≤ r1_q2 := Nat.le_trans (Nat.le_trans Z0 K0.1) sz0_r1_q2
  have sz_r1_q2 : h0.size ≤ r1_q2 := Nat.le_trans K0.1 sz0_r1_q2
  have ne_a1_r1_q2 : a1 ≠ r1_q2 := Nat.ne_of_lt (Nat.lt_of_lt_of_le EX_a1.lt sz0_r1_q2)
  have EX_a1__q2 := EX_a1.keep Kq_q2
  have S_COMPACT_STRINGS__q2 := own_sta_keep S_COMPACT_STRINGS Kq_q2 (allS (own_ns EX_a1) all0)
  have K_q2 : Keep h0 T_q2.heap [a1] := K0.trans Kq_q2 (allS (Or.inl (List.mem_of_getElem? (i := 0) rfl)) all0)
  obtain ⟨cq_q14, kq_q14, qa_q14, qb_q14, qc_q14⟩ := isOf hZ rfl EX_a1__q2
  obtain ⟨_, _, ⟨T_q14, L_q14, k_q14, n_q14⟩, -, X_q14, ⟨Lc_q14, hQ_q14, l_q14, y_q14, z_q14⟩, st_q14⟩ := X_q2.virtualBack hx (y := (⟨"java/lang/AbstractStringBuilder", "isLatin1", "()Z"⟩ : MethodName)) (z := (⟨"java/lang/AbstractStringBuilder", "isLatin1", "()Z"⟩ : MethodName)) hown (mvT hZ (own_w hw 43 rfl)) (mvT hZ (own_w hw 44 rfl)) (notFace_of_selects (args := #[]) (mvT hZ (own_w hw 46 rfl))) (mvT hZ (own_w hw 46 rfl)) (mvT hZ (own_w hw 45 rfl)) (by decide) (backOf (W := 0) (rmL1 l Z a0 hw [] a1 cs T_q2.heap n0 (Nat.le_trans Z0 K_q2.1) O1_q2 S_COMPACT_STRINGS__q2 hc_q15) hZ (own_w hw 47 rfl) (own_w hw 15 rfl) (by decide) (by decide)) qa_q14 qc_q14 (g := (mkF m 11 #[.val (.ref a1), .val (.int p2)] [(.ref a1)])) rfl (by rw [hml]; rfl) (Steps.refl _) (argsL := []) (rest := []) (lenOf pd___Z rfl) rfl (by show 2 * 0 + _ ≤ _; exact Nat.le_of_eq rfl) (hb hby d6_11) (fun _ _ => ⟨rfl, rfl, (by decide : 1 + 0 ≤ _), (by decide : 18 + 0 ≤ _)⟩)
  dsimp only [Pt.U, Pt.locs, Pt.cells, Pt.slots] at X_q14 l_q14 y_q14 z_q14 st_q14 hQ_q14
  subst l_q14 y_q14 z_q14
  obtain ⟨rfl, Nq_q14, eq_q14⟩ := hQ_q14
  have Kq_q14 : Keep T_q2.heap T_q14.heap [] := by rw [eq_q14]; exact Keep.refl _ _
  have N_q14 := Fr.app N_q2 Nq_q14
  have EX_a1__q14 := EX_a1__q2.keep Kq_q14
  have O0_q2__q14 := O0_q2.keep Kq_q14 nin0
  have O1_q2__q14 := O1_q2.keep Kq_q14 nin0
  have O2_q2__q14 := O2_q2.keep Kq_q14 nin0
  have O3_q2__q14 := O3_q2.keep Kq_q14 nin0
  have O4_q2__q14 := O4_q2.keep Kq_q14
  have K_q14 : Keep h0 T_q14.heap [a1] := K_q2.trans Kq_q14 all0
  obtain ⟨_, _, ⟨T_q16, L_q16, k_q16, n_q16⟩, -, X_q16, ⟨Lc_q16, hQ_q16, l_q16, y_q16, z_q16⟩, st_q16⟩ := Jvm.LawKit.callS X_q14 hx (y := (⟨"java/lang/StringLatin1", "canEncode", "(C)Z"⟩ : MethodName)) hown (mvT hZ (own_w hw 48 rfl)) (mvT hZ (own_w hw 49 rfl)) (mvT hZ (own_w hw 50 rfl)) (mvT hZ (own_w hw 51 rfl)) (by decide) (backOf (W := 0) (rm9 l Z a0 hw [] p2 T_q14.heap n0 (Nat.le_trans Z0 K_q14.1)) hZ (own_w hw 51 rfl) (own_w hw 50 rfl) (by decide) (by decide)) (g := (mkF m 18 #[.val (.ref a1), .val (.int p2)] [(.int p2)])) rfl (by rw [hml]; rfl) (argsL := [(.int p2)]) (rest := []) (lenOf pd__C_Z rfl) rfl (by show 2 * 0 + _ ≤ _; exact Nat.le_of_eq rfl) (hb hby d6_18) (fun _ _ => ⟨rfl, rfl, (by decide : 1 + 0 ≤ _), (by decide : 18 + 0 ≤ _)⟩)
  dsimp only [Pt.U, Pt.locs, Pt.cells, Pt.slots] at X_q16 l_q16 y_q16 z_q16 st_q16 hQ_q16
  subst l_q16 y_q16 z_q16
  obtain ⟨rfl, Nq_q16, eq_q16⟩ := hQ_q16
  have Kq_q16 : Keep T_q14.heap T_q16.heap [] := by rw [eq_q16]; exact Keep.refl _ _
  have N_q16 := Fr.app N_q14 Nq_q16
  have EX_a1__q16 := EX_a1__q14.keep Kq_q16
  have O0_q2__q16 := O0_q2__q14.keep Kq_q16 nin0
  have O1_q2__q16 := O1_q2__q14.keep Kq_q16 nin0
  have O2_q2__q16 := O2_q2__q14.keep Kq_q16 nin0
  have O3_q2__q16 := O3_q2__q14.keep Kq_q16 nin0
  have O4_q2__q16 := O4_q2__q14.keep Kq_q16
  have K_q16 : Keep h0 T_q16.heap [a1] := K_q14.trans Kq_q16 all0
  obtain ⟨T_q18, X_q18, e_q18, st_q18⟩ := getF X_q16 hx hZ hown (host := "") (Or.inl (own_w hw 22 rfl)) Via.refl rfl O0_q2__q16 (g := (mkF m 25 #[.val (.ref a1), .val (.int p2)] [(.ref a1)])) rfl rfl (hb hby d6_25)
  obtain ⟨T_q19, X_q19, e_q19, st_q19⟩ := getF X_q18 hx hZ hown (host := "") (Or.inl (own_w hw 36 rfl)) Via.refl e_q18 O2_q2__q16 (g := (mkF m 30 #[.val (.ref a1), .val (.int p2)] [(.ref a1), (.ref a1), (.ref r1_q2)])) rfl rfl (hb hby d6_30)
  obtain ⟨T_q20, h_q20, X_q20, e_q20, W_q20, st_q20⟩ := putF X_q19 hx hZ hown (host := "") (Or.inl (own_w hw 36 rfl)) Via.refl e_q19 O2_q2__q16 EX_a1__q16 (Or.inl (own_w hw 37 rfl)) (own_w hw 6 rfl) (ty := .int) (by decide) rfl rfl (g := (mkF m 36 #[.val (.ref a1), .val (.int p2)] [(.int (cn + (1 : Int32))), (.ref a1), (.int cn), (.ref r1_q2)])) rfl rfl (hb hby d6_36)
  have O0_q2__q20 := O0_q2__q16.other W_q20 (Or.inr (slot_ne (Or.inl (own_w hw 23 rfl)) (Or.inl (own_w hw 37 rfl)) (by decide) (t := (.array .byte)) (t' := .int) (by decide) (by decide)))
  have O1_q2__q20 := O1_q2__q16.other W_q20 (Or.inr (slot_ne (Or.inl (own_w hw 25 rfl)) (Or.inl (own_w hw 37 rfl)) (by decide) (t := .byte) (t' := .int) (by decide) (by decide)))
  have O3_q2__q20 := O3_q2__q16.other W_q20 (Ne.symm ne_a1_r1_q2)
  have O4_q2__q20 := O4_q2__q16.wr W_q20
  have F_count_a1__q20 := O2_q2__q16.same W_q20
  have K_q20 : Keep h0 h_q20 [a1] := K_q16.wr W_q20 (Or.inl (List.mem_of_getElem? (i := 0) rfl))
  have N_q20 := Fr.snoc X_q20 N_q16 ge_a1
  obtain ⟨cl_q21, Ar_q21, qk_q21, S_q21, Nn_q21, H_q21, G_q21⟩ := id O3_q2__q20
  have hin_q21 : ¬ (cn < 0 ∨ cl_q21.slots.size ≤ (cn).toNatClampNeg) := inb_of S_q21 hc_q22
  obtain ⟨T_q21, h_q21, X_q21, e_q21, W_q21, st_q21⟩ := stB X_q20 hx hZ e_q20 Ar_q21 (j := cn) hin_q21 (g := (mkF m 41 #[.val (.ref a1), .val (.int p2)] [(.int (p2.toInt8.toInt32)), (.int cn), (.ref r1_q2)])) rfl rfl (hb hby d6_41)
  have O0_q2__q21 := O0_q2__q20.other W_q21 (Or.inl ne_a1_r1_q2)
  have O1_q2__q21 := O1_q2__q20.other W_q21 (Or.inl ne_a1_r1_q2)
  have F_count_a1__q21 := F_count_a1__q20.other W_q21 (Or.inl ne_a1_r1_q2)
  have O4_q2__q21 := O4_q2__q20.wr W_q21
  have V_r1_q2__q21 : Arv Z h_q21 r1_q2 kr1_q2 .byte zn ((own_cp lv (zl).toNatClampNeg (zn).toNatClampNeg).set (cn).toNatClampNeg (.int (nar .byte (p2.toInt8.toInt32)))) (.int (0 : Int32)) := Arv.set Ar_q21 qk_q21 S_q21 Nn_q21 H_q21 G_q21 (fits_nar_byte _) W_q21 _ rfl (own_ltl O5_q2 hc_q22)
  have K_q21 : Keep h0 h_q21 [a1] := K_q20.wr W_q21 (Or.inr sz_r1_q2)
  have N_q21 := Fr.snoc X_q21 N_q20 ge_r1_q2
  obtain ⟨fs, hr, hrun, hended, hW, hsame⟩ := X_q21.leave (v := some (.ref a1)) (fun h => by rw [Bd.returns] at h; cases h) Bd.notSynchronized
  refine ⟨_, _, pre0 _ ?_, hrun, hended, _, _, rfl, ?_, ⟨_, rfl⟩, hW, hsame.mono (by decide) (by decide)⟩
  · show Steps p.tables e below (s₁.setTop (mkF m 0 #[.val (.ref a1), .val (.int p2)] [])) _
    refine XS.aloadN X0.here hx rfl (hb hby d6_0) rfl rfl ?_
    refine XS.aloadN X0.here hx rfl (hb hby d6_1) rfl rfl ?_
    show Steps p.tables e below (s₁.setTop (mkF m 2 #[.val (.ref a1), .val (.int p2)] [(.ref a1), (.ref a1)])) _
    refine st_q1 _ ?_
    refine XS.iconst X_q1.here hx rfl (hb hby d6_5) ?_
    refine XS.iadd X_q1.here hx rfl (hb hby d6_6) rfl ?_
    show Steps p.tables e below (T_q1.setTop (mkF m 7 #[.val (.ref a1), .val (.int p2)] [(.int (cn + (1 : Int32))), (.ref a1)])) _
    refine st_q2.trans ?_
    refine XS.aloadN X_q2.here hx rfl (hb hby d6_10) rfl rfl ?_
    show Steps p.tables e below (T_q2.setTop (mkF m 11 #[.val (.ref a1), .val (.int p2)] [(.ref a1)])) _
    refine st_q14.trans ?_
    refine XS.ifNo X_q14.here hx rfl (hb hby d6_14) rfl ((if0 _ _).trans (feq (by decide : ¬ ((1 : Int32) = (0 : Int32)))).1) ?_
    refine XS.iloadN X_q14.here hx rfl (hb hby d6_17) rfl ?_
    show Steps p.tables e below (T_q14.setTop (mkF m 18 #[.val (.ref a1), .val (.int p2)] [(.int p2)])) _
    refine st_q16 _ ?_
    refine XS.ifNo X_q16.here hx rfl (hb hby d6_21) rfl ((if0 _ _).trans (feq hc_q17).1) ?_
    refine XS.aloadN X_q16.here hx rfl (hb hby d6_24) rfl rfl ?_
    show Steps p.tables e below (T_q16.setTop (mkF m 25 #[.val (.ref a1), .val (.int p2)] [(.ref a1)])) _
    refine st_q18 _ ?_
    refine XS.aloadN X_q18.here hx rfl (hb hby d6_28) rfl rfl ?_
    refine XS.dup X_q18.here hx rfl (hb hby d6_29) rfl rfl ?_
    show Steps p.tables e below (T_q18.setTop (mkF m 30 #[.val (.ref a1), .val (.int p2)] [(.ref a1), (.ref a1), (.ref r1_q2)])) _
    refine st_q19 _ ?_
    refine XS.dupX1 X_q19.here hx rfl (hb hby d6_33) rfl rfl rfl ?_
    refine XS.iconst X_q19.here hx rfl (hb hby d6_34) ?_
    refine XS.iadd X_q19.here hx rfl (hb hby d6_35) rfl ?_
    show Steps p.tables e below (T_q19.setTop (mkF m 36 #[.val (.ref a1), .val (.int p2)] [(.int (cn + (1 : Int32))), (.ref a1), (.int cn), (.ref r1_q2)])) _
    refine st_q20 _ ?_
    refine XS.iloadN X_q20.here hx rfl (hb hby d6_39) rfl ?_
    refine XS.i2b X_q20.here hx rfl (hb hby d6_40) rfl ?_
    show Steps p.tables e below (T_q20.setTop (mkF m 41 #[.val (.ref a1), .val (.int p2)] [(.int (p2.toInt8.toInt32)), (.int cn), (.ref r1_q2)])) _
    refine st_q21 _ ?_
    refine XS.goto X_q21.here hx rfl (pc0 := 42) (pc' := 75) rfl (hb hby d6_42) (by decide) (by decide) ?_
    refine XS.aloadN X_q21.here hx rfl (hb hby d6_75) rfl rfl ?_
    show Steps p.tables e below (T_q21.setTop (mkF m 76 #[.val (.ref a1), .val (.int p2)] [(.ref a1)])) _
    jvm_step X_q21.here [X_q21.here.top, hx, (hb hby d6_76), X_q21.method', Bd.returns, Value.isRef, FieldType.isReference]
    first | (intro acts; rw [hr _ acts rfl rfl rfl]) | rw [hr _ _ rfl rfl rfl]
    exact Steps.refl _
  · show Q_rmAA_g Z a1 va k1 zl lv cn zn cs p2 h0 n0 _ T_q21.heap _
    rw [e_q21]
    exact ⟨r1_q2, kr1_q2, rfl, N_q21, K_q21, sz_r1_q2, O0_q2__q21, O1_q2__q21, F_count_a1__q21, V_r1_q2__q21, O4_q2__q21, (own_len_set O5_q2)⟩
def Q_rmSA_g (Z : State) (a1 va : Addr) (k1 : ClassId) (zl : Int32) (lv : List Value) (cn : Int32) (zn : Int32) (cs : Int32) (p2 : Int32) (h0 : Heap) (n0 : Nat) (v : Option Value) (h : Heap) (L : List Loc) : Prop := ∃ (r1 : Addr) (kr1 : ClassId), v = some (.ref a1) ∧ Fr n0 L ∧ Keep h0 h [a1] ∧ h0.size ≤ r1 ∧ Fld Z h a1 "java/lang/AbstractStringBuilder" "value" "[B" (.ref r1) ∧ Fld Z h a1 "java/lang/AbstractStringBuilder" "coder" "B" (.int (0 : Int32)) ∧ Fld Z h a1 "java/lang/AbstractStringBuilder" "count" "I" (.int (cn + (1 : Int32))) ∧ Arv Z h r1 kr1 .byte zn ((own_cp lv (zl).toNatClampNeg (zn).toNatClampNeg).set (cn).toNatClampNeg (.int (nar .byte (p2.toInt8.toInt32)))) (.int (0 : Int32)) ∧ Exa Z h r1 "[B" ∧ ((own_cp lv (zl).toNatClampNeg (zn).toNatClampNeg).set (cn).toNatClampNeg (.int (nar .byte (p2.toInt8.toInt32)))).length = (zn).toNatClampNeg
set_option maxRecDepth 65536 in
set_option maxHeartbeats 40000000 in
theorem rmSA_g (l : Launch) (Z : State) (a0 : Array Value) (hw : ∀ d ∈ tables_1, d.before a0 Z = true) (ws : List Jvm.Cond) (a1 va : Addr) (k1 : ClassId) (zl : Int32) (lv : List Value) (cn : Int32) (zn : Int32) (cs : Int32) (p2 : Int32) (h0 : Heap) (n0 : Nat) (Z0 : n0 ≤ h0.size) (EX_a1 : Exa Z h0 a1 "java/lang/StringBuilder") (F_value_a1 : Fld Z h0 a1 "java/lang/AbstractStringBuilder" "value" "[B" (.ref va)) (F_coder_a1 : Fld Z h0 a1 "java/lang/AbstractStringBuilder" "coder" "B" (.int (0 : Int32))) (F_count_a1 : Fld Z h0 a1 "java/lang/AbstractStringBuilder" "count" "I" (.int cn)) (V_va : Arv Z h0 va k1 .byte zl lv (.int (0 : Int32))) (EX_va : Exa Z h0 va "[B") (ge_a1 : n0 ≤ a1) (ne_va_a1 : va ≠ a1) (S_COMPACT_STRINGS : Sta Z h0 "java/lang/String" "COMPACT_STRINGS" "Z" (.int cs)) (hc_q2 : (0 : Int32) < ((cn + (1 : Int32)) - (zl >>> ((0 : Int32) &&& 31)))) (hc_q3 : (0 : Int32) < (zl + (F12_0 (((cn + (1 : Int32)) <<< ((0 : Int32) &&& 31)) - zl) (zl + (2 : Int32))))) (hc_q4 : ¬ ((2147483639 : Int32) < (zl + (F12_0 (((cn + (1 : Int32)) <<< ((0 : Int32) &&& 31)) - zl) (zl + (2 : Int32)))))) (hc_q5 : ¬ ((zl + (F12_0 (((cn + (1 : Int32)) <<< ((0 : Int32) &&& 31)) - zl) (zl + (2 : Int32)))) = (2147483647 : Int32))) (hc_q6 : (((zl + (F12_0 (((cn + (1 : Int32)) <<< ((0 : Int32) &&& 31)) - zl) (zl + (2 : Int32)))) >>> ((0 : Int32) &&& 31)) <<< ((0 : Int32) &&& 31)) = zn) (hc_q7 : (F14_0 zl zn) = zl) (hc_q8 : ¬ (zn = zl)) (hc_q9 : ¬ (zn) < 0) (hc_q10 : (zn).toNatClampNeg ≤ 18) (hc_q11 : ¬ (zl) < 0) (hc_q12 : (zl).toNatClampNeg ≤ (zn).toNatClampNeg) (hc_q13 : ¬ (cs = (0 : Int32))) (hc_q14 : ¬ ((F9_0 p2) = (0 : Int32))) (hc_q15 : ¬ cn < 0 ∧ cn < zn) :
    MetFree l (⟨"java/lang/StringBuilder", "append", "(C)Ljava/lang/StringBuilder;"⟩ : MethodName) (head1 (Jvm.Cond.code (⟨"java/lang/StringBuilder", "append", "(C)Ljava/lang/StringBuilder;"⟩ : MethodName) jdk_67_method_14_code 2 (some (.object "java/lang/StringBuilder")) :: ws) ({ frames := 5, cells := 1, slots := 18, locals := 108 } : Room)) (fun a U => a = #[(.ref a1), (.int p2)] ∧ Z.Warmed39 U.vm ∧ U.heap = h0) (fun _ _ _ _ _ => True) (fun _ U o U' => ∃ v L, o = .returned v ∧ Q_rmSA_g Z a1 va k1 zl lv cn zn cs p2 h0 n0 v U'.heap L ∧ FrameEnd U o U' L ({ frames := 5, cells := 1, slots := 18, locals := 108 } : Room).cells ({ frames := 5, cells := 1, slots := 18, locals := 108 } : Room).slots) := by
  refine MetFree.of_bodySF (plainFor_of_name pn_5) hisR ?_
  intro p e s m args below meth c s₁ Bd hml0 hP hK
  obtain ⟨rfl, hZ, hh⟩ := hP
  have hx := Bd.exec
  have hby := Bd.bytes
  have hml : c.maxLocals = 2 := hml0
  have hown : s.vm.findClass "java/lang/StringBuilder" = some m.cls := findClass_of_methodNamed Bd.named
  have hnm := (name_of_methodNamed Bd.named Bd.method).1
  have X0 : Stand p l e ({ frames := 5, cells := 1, slots := 18, locals := 108 } : Room) s m #[(.ref a1), (.int p2)] below meth c s₁ [] 0 0 := Stand.of_body Bd
  have e0 : s₁.heap = h0 := by rw [← hh, Bd.state]; rfl
  have N0 := Fr.nil n0
  have pre0 : ∀ t, Steps p.tables e below (s₁.setTop (mkF m 0 #[.val (.ref a1), .val (.int p2)] [])) t → Steps p.tables e below (s₁.setTop (entryFrame m #[(.ref a1), (.int p2)] 2)) t := fun t k => castTop (ef_5 m a1 p2) k
  have K0 : Keep h0 h0 [a1] := Keep.refl _ _
  obtain ⟨_, _, ⟨T_q1, L_q1, k_q1, n_q1⟩, -, X_q1, ⟨Lc_q1, hQ_q1, l_q1, y_q1, z_q1⟩, st_q1⟩ := superBack X0 hx hZ (y := (⟨"java/lang/AbstractStringBuilder", "append", "(C)Ljava/lang/AbstractStringBuilder;"⟩ : MethodName)) hown (own_w hw 31 rfl) (own_same (y := (⟨"java/lang/AbstractStringBuilder", "append", "(C)Ljava/lang/AbstractStringBuilder;"⟩ : MethodName)) (y' := ({ cls := "java/lang/AbstractStringBuilder", name := "ensureCapacityInternal", desc := "(I)V" } : Jvm.MethodName)) (by decide) rfl (own_w hw 41 rfl) (own_w hw 32 rfl)) (own_w hw 32 rfl) (own_w hw 33 rfl) (by decide) (backOf (W := 0) (rmAA_g l Z a0 hw [] a1 va k1 zl lv cn zn cs p2 h0 n0 (Nat.le_trans Z0 K0.1) EX_a1 F_value_a1 F_coder_a1 F_count_a1 V_va EX_va ge_a1 ne_va_a1 S_COMPACT_STRINGS hc_q2 hc_q3 hc_q4 hc_q5 hc_q6 hc_q7 hc_q8 hc_q9 hc_q10 hc_q11 hc_q12 hc_q13 hc_q14 hc_q15) hZ (own_w hw 35 rfl) (own_w hw 15 rfl) (by decide) (by decide)) e0 (Ins.self EX_a1) (g := (mkF m 2 #[.val (.ref a1), .val (.int p2)] [(.int p2), (.ref a1)])) rfl (by rw [hml]; rfl) (own_w hw 35 rfl) (argsL := [(.int p2)]) (rest := []) (lenOf pd__C_Ljava_lang_AbstractStringBuilder_ rfl) rfl (by show 2 * 0 + _ ≤ _; exact Nat.le_of_eq rfl) (hb hby d5_2) (fun _ _ => ⟨rfl, e0, (by decide : 0 + 1 ≤ _), (by decide : 0 + 18 ≤ _)⟩)
  dsimp only [Pt.U, Pt.locs, Pt.cells, Pt.slots] at X_q1 l_q1 y_q1 z_q1 st_q1 hQ_q1
  subst l_q1 y_q1 z_q1
  obtain ⟨r1_q1, kr1_q1, rfl, Nq_q1, Kq_q1, sz0_r1_q1, O0_q1, O1_q1, O2_q1, O3_q1, O4_q1, O5_q1⟩ := hQ_q1
  have N_q1 := Fr.app N0 Nq_q1
  have sz_r1_q1 : h0.size ≤ r1_q1 := Nat.le_trans K0.1 sz0_r1_q1
  have K_q1 : Keep h0 T_q1.heap [a1] := K0.trans Kq_q1 (allS (Or.inl (List.mem_of_getElem? (i := 0) rfl)) all0)
  obtain ⟨fs, hr, hrun, hended, hW, hsame⟩ := X_q1.leave (v := some (.ref a1)) (fun h => by rw [Bd.returns] at h; cases h) Bd.notSynchronized
  refine ⟨_, _, pre0 _ ?_, hrun, hended, _, _, rfl, ?_, ⟨_, rfl⟩, hW, hsame.mono (by decide) (by decide)⟩
  · show Steps p.tables e below (s₁.setTop (mkF m 0 #[.val (.ref a1), .val (.int p2)] [])) _
    refine XS.aloadN X0.here hx rfl (hb hby d5_0) rfl rfl ?_
    refine XS.iloadN X0.here hx rfl (hb hby d5_1) rfl ?_
    show Steps p.tables e below (s₁.setTop (mkF m 2 #[.val (.ref a1), .val (.int p2)] [(.int p2), (.ref a1)])) _
    refine st_q1.trans ?_
    refine XS.pop X_q1.here hx rfl (hb hby d5_5) rfl rfl ?_
    refine XS.aloadN X_q1.here hx rfl (hb hby d5_6) rfl rfl ?_
    show Steps p.tables e below (T_q1.setTop (mkF m 7 #[.val (.ref a1), .val (.int p2)] [(.ref a1)])) _
    jvm_step X_q1.here [X_q1.here.top, hx, (hb hby d5_7), X_q1.method', Bd.returns, Value.isRef, FieldType.isReference]
    first | (intro acts; rw [hr _ acts rfl rfl rfl]) | rw [hr _ _ rfl rfl rfl]
    exact Steps.refl _
  · show Q_rmSA_g Z a1 va k1 zl lv cn zn cs p2 h0 n0 _ T_q1.heap _
    exact ⟨r1_q1, kr1_q1, rfl, N_q1, K_q1, sz_r1_q1, O0_q1, O1_q1, O2_q1, O3_q1, O4_q1, O5_q1⟩
theorem own_sub0 (a : Int32) : a - (0 : Int32) = a := by rw [← Int32.toInt_inj]; simp
theorem d21_0 : decode jdk_65_method_132_code 0 = .ok (.iload_n 1, 1) := by decide +kernel
theorem d21_1 : decode jdk_65_method_132_code 1 = .ok (.ifCond .ne 9, 3) := by decide +kernel
theorem d21_4 : decode jdk_65_method_132_code 4 = .ok (.iload_n 2, 1) := by decide +kernel
theorem d21_5 : decode jdk_65_method_132_code 5 = .ok (.aload_n 0, 1) := by decide +kernel
theorem d21_6 : decode jdk_65_method_132_code 6 = .ok (.arraylength, 1) := by decide +kernel
theorem d21_7 : decode jdk_65_method_132_code 7 = .ok (.if_icmp .eq 10, 3) := by decide +kernel
theorem d21_17 : decode jdk_65_method_132_code 17 = .ok (.aload_n 0, 1) := by decide +kernel
theorem d21_18 : decode jdk_65_method_132_code 18 = .ok (.invokevirtual 310, 3) := by decide +kernel
theorem d21_21 : decode jdk_65_method_132_code 21 = .ok (.checkcast 311, 3) := by decide +kernel
theorem d21_24 : decode jdk_65_method_132_code 24 = .ok (.areturn, 1) := by decide +kernel
theorem pn_21 : plainName "java/util/Arrays" = true := by first | (simp [plainName, overriddenIn]; done) | decide +kernel
theorem ef_21 (m : MethodId) (x0 : Addr) (x1 : Int32) (x2 : Int32) : entryFrame m #[(.ref x0), (.int x1), (.int x2)] 3 = mkF m 0 #[.val (.ref x0), .val (.int x1), .val (.int x2)] [] := by first | (simp [entryFrame, mkF, argsToLocals, Value.category]; done) | rfl
def Q_rmCRc (Z : State) (va : Addr) (k1 : ClassId) (zl : Int32) (lv : List Value) (cn : Int32) (h0 : Heap) (n0 : Nat) (v : Option Value) (h : Heap) (L : List Loc) : Prop := ∃ (r1 : Addr), v = some (.ref r1) ∧ Fr n0 L ∧ Keep h0 h [] ∧ h0.size ≤ r1 ∧ Arv Z h r1 k1 .byte zl lv (.int (0 : Int32)) ∧ Exa Z h r1 "[B"
set_option maxRecDepth 65536 in
set_option maxHeartbeats 40000000 in
theorem rmCRc (l : Launch) (Z : State) (a0 : Array Value) (hw : ∀ d ∈ tables_1, d.before a0 Z = true) (ws : List Jvm.Cond) (va : Addr) (k1 : ClassId) (zl : Int32) (lv : List Value) (cn : Int32) (h0 : Heap) (n0 : Nat) (Z0 : n0 ≤ h0.size) (V_va : Arv Z h0 va k1 .byte zl lv (.int (0 : Int32))) (EX_va : Exa Z h0 va "[B") (hc_q2 : cn = zl) (hc_q4 : (zl).toNatClampNeg ≤ 12) :
    MetFree l (⟨"java/util/Arrays", "copyOfRange", "([BII)[B"⟩ : MethodName) (head1 (Jvm.Cond.code (⟨"java/util/Arrays", "copyOfRange", "([BII)[B"⟩ : MethodName) jdk_65_method_132_code 3 (some (.array .byte)) :: ws) ({ frames := 1, cells := 1, slots := 12, locals := 60 } : Room)) (fun a U => a = #[(.ref va), (.int (0 : Int32)), (.int cn)] ∧ Z.Warmed39 U.vm ∧ U.heap = h0) (fun _ _ _ _ _ => True) (fun _ U o U' => ∃ v L, o = .returned v ∧ Q_rmCRc Z va k1 zl lv cn h0 n0 v U'.heap L ∧ FrameEnd U o U' L ({ frames := 1, cells := 1, slots := 12, locals := 60 } : Room).cells ({ frames := 1, cells := 1, slots := 12, locals := 60 } : Room).slots) := by
  refine MetFree.of_bodySF (plainFor_of_name pn_21) hisR ?_
  intro p e s m args below meth c s₁ Bd hml0 hP hK
  obtain ⟨rfl, hZ, hh⟩ := hP
  have hx := Bd.exec
  have hby := Bd.bytes
  have hml : c.maxLocals = 3 := hml0
  have hown : s.vm.findClass "java/util/Arrays" = some m.cls := findClass_of_methodNamed Bd.named
  have hnm := (name_of_methodNamed Bd.named Bd.method).1
  have X0 : Stand p l e ({ frames := 1, cells := 1, slots := 12, locals := 60 } : Room) s m #[(.ref va), (.int (0 : Int32)), (.int cn)] below meth c s₁ [] 0 0 := Stand.of_body Bd
  have e0 : s₁.heap = h0 := by rw [← hh, Bd.state]; rfl
  have N0 := Fr.nil n0
  have pre0 : ∀ t, Steps p.tables e below (s₁.setTop (mkF m 0 #[.val (.ref va), .val (.int (0 : Int32)), .val (.int cn)] [])) t → Steps p.tables e below (s₁.setTop (entryFrame m #[(.ref va), (.int (0 : Int32)), (.int cn)] 3)) t := fun t k => castTop (ef_21 m va (0 : Int32) cn) k
  have K0 : Keep h0 h0 [] := Keep.refl _ _
  obtain ⟨cl_q1, Ar_q1, qk_q1, S_q1, Nn_q1, H_q1, G_q1⟩ := id V_va
  obtain ⟨T_q3, h_q3, X_q3, e_q3, E_q3, A_q3, EX_q3, st_q3⟩ := cloneH X0 hx hZ hown (own_w hw 114 rfl) (own_w hw 115 rfl) (own_w hw 119 rfl) (own_w hw 117 rfl) (own_w hw 118 rfl) (own_w hw 120 rfl) e0 V_va.arh EX_va (g := (mkF m 18 #[.val (.ref va), .val (.int (0 : Int32)), .val (.int cn)] [(.ref va)])) rfl (by rw [hml]; rfl) rfl (hb hby d21_18) (by decide) (W := 0) (cap := 12) (by show 2 * 0 + _ ≤ _; exact Nat.le_of_eq rfl) (by decide) hc_q4 (by decide) (by decide)
  obtain ⟨b_q3, g_q3⟩ : ∃ z, z = h0.size := ⟨_, rfl⟩
  rw [← g_q3] at A_q3 EX_q3 st_q3
  have sz_b_q3 : h0.size ≤ b_q3 := Nat.le_trans K0.1 (Nat.le_of_eq g_q3.symm)
  have K_q3 : Keep h0 h_q3 [] := K0.ext E_q3
  have V_b_q3 : Arv Z h_q3 b_q3 k1 .byte zl lv (.int (0 : Int32)) := A_q3
  obtain ⟨T_q5, X_q5, e_q5, st_q5⟩ := castY X_q3 hx hZ hown (own_w hw 121 rfl) e_q3 (Ins.self EX_q3) (g := (mkF m 21 #[.val (.ref va), .val (.int (0 : Int32)), .val (.int cn)] [(.ref b_q3)])) rfl rfl (hb hby d21_21)
  obtain ⟨fs, hr, hrun, hended, hW, hsame⟩ := X_q5.leave (v := some (.ref b_q3)) (fun h => by rw [Bd.returns] at h; cases h) Bd.notSynchronized
  refine ⟨_, _, pre0 _ ?_, hrun, hended, _, _, rfl, ?_, ⟨_, rfl⟩, hW, hsame.mono (by decide) (by decide)⟩
  · show Steps p.tables e below (s₁.setTop (mkF m 0 #[.val (.ref va), .val (.int (0 : Int32)), .val (.int cn)] [])) _
    refine XS.iloadN X0.here hx rfl (hb hby d21_0) rfl ?_
    refine XS.ifNo X0.here hx rfl (hb hby d21_1) rfl ((if0 _ _).trans (teq (by decide : (0 : Int32) = (0 : Int32))).2) ?_
    refine XS.iloadN X0.here hx rfl (hb hby d21_4) rfl ?_
    refine XS.aloadN X0.here hx rfl (hb hby d21_5) rfl rfl ?_
    show Steps p.tables e below (s₁.setTop (mkF m 6 #[.val (.ref va), .val (.int (0 : Int32)), .val (.int cn)] [(.ref va), (.int cn)])) _
    refine X0.arraylength hx (by rw [e0]; exact Ar_q1.1) (State.isArrayOf_alike hZ.alike Ar_q1.2.1) (g := (mkF m 6 #[.val (.ref va), .val (.int (0 : Int32)), .val (.int cn)] [(.ref va), (.int cn)])) rfl rfl (hb hby d21_6) _ ?_
    rw [len_of S_q1 Nn_q1]
    refine XS.icmpYes X0.here hx rfl (pc0 := 7) (pc' := 17) rfl (hb hby d21_7) rfl (teq hc_q2).1 (by decide) (by decide) ?_
    refine XS.aloadN X0.here hx rfl (hb hby d21_17) rfl rfl ?_
    show Steps p.tables e below (s₁.setTop (mkF m 18 #[.val (.ref va), .val (.int (0 : Int32)), .val (.int cn)] [(.ref va)])) _
    refine st_q3 _ ?_
    show Steps p.tables e below (T_q3.setTop (mkF m 21 #[.val (.ref va), .val (.int (0 : Int32)), .val (.int cn)] [(.ref b_q3)])) _
    refine st_q5 _ ?_
    show Steps p.tables e below (T_q5.setTop (mkF m 24 #[.val (.ref va), .val (.int (0 : Int32)), .val (.int cn)] [(.ref b_q3)])) _
    jvm_step X_q5.here [X_q5.here.top, hx, (hb hby d21_24), X_q5.method', Bd.returns, Value.isRef, FieldType.isReference]
    first | (intro acts; rw [hr _ acts rfl rfl rfl]) | rw [hr _ _ rfl rfl rfl]
    exact Steps.refl _
  · show Q_rmCRc Z va k1 zl lv cn h0 n0 _ T_q5.heap _
    rw [e_q5]
    exact ⟨b_q3, rfl, N0, K_q3, sz_b_q3, V_b_q3, EX_q3⟩
theorem d17_0 : decode jdk_42_method_150_code 0 = .ok (.aload_n 0, 1) := by decide +kernel
theorem d17_1 : decode jdk_42_method_150_code 1 = .ok (.invokespecial 1, 3) := by decide +kernel
theorem d17_4 : decode jdk_42_method_150_code 4 = .ok (.aload_n 1, 1) := by decide +kernel
theorem d17_5 : decode jdk_42_method_150_code 5 = .ok (.invokevirtual 552, 3) := by decide +kernel
theorem d17_8 : decode jdk_42_method_150_code 8 = .ok (.astore_n 3, 1) := by decide +kernel
theorem d17_9 : decode jdk_42_method_150_code 9 = .ok (.aload_n 1, 1) := by decide +kernel
theorem d17_10 : decode jdk_42_method_150_code 10 = .ok (.invokevirtual 549, 3) := by decide +kernel
theorem d17_13 : decode jdk_42_method_150_code 13 = .ok (.istore 4, 2) := by decide +kernel
theorem d17_15 : decode jdk_42_method_150_code 15 = .ok (.aload_n 1, 1) := by decide +kernel
theorem d17_16 : decode jdk_42_method_150_code 16 = .ok (.invokevirtual 1047, 3) := by decide +kernel
theorem d17_19 : decode jdk_42_method_150_code 19 = .ok (.ifCond .eq 22, 3) := by decide +kernel
theorem d17_22 : decode jdk_42_method_150_code 22 = .ok (.aload_n 0, 1) := by decide +kernel
theorem d17_23 : decode jdk_42_method_150_code 23 = .ok (.iconst 0, 1) := by decide +kernel
theorem d17_24 : decode jdk_42_method_150_code 24 = .ok (.putfield 15, 3) := by decide +kernel
theorem d17_27 : decode jdk_42_method_150_code 27 = .ok (.aload_n 0, 1) := by decide +kernel
theorem d17_28 : decode jdk_42_method_150_code 28 = .ok (.aload_n 3, 1) := by decide +kernel
theorem d17_29 : decode jdk_42_method_150_code 29 = .ok (.iconst 0, 1) := by decide +kernel
theorem d17_30 : decode jdk_42_method_150_code 30 = .ok (.iload 4, 2) := by decide +kernel
theorem d17_32 : decode jdk_42_method_150_code 32 = .ok (.invokestatic 54, 3) := by decide +kernel
theorem d17_35 : decode jdk_42_method_150_code 35 = .ok (.putfield 9, 3) := by decide +kernel
theorem d17_38 : decode jdk_42_method_150_code 38 = .ok (.goto 59, 3) := by decide +kernel
theorem d17_97 : decode jdk_42_method_150_code 97 = .ok (.return_, 1) := by decide +kernel
theorem pn_17 : plainName "java/lang/String" = true := by first | (simp [plainName, overriddenIn]; done) | decide +kernel
theorem pd____B : parseMethodDescriptor "()[B" = some ⟨[], some (.array .byte)⟩ := by decide +kernel
theorem pd___BII__B : parseMethodDescriptor "([BII)[B" = some ⟨[(.array .byte), .int, .int], some (.array .byte)⟩ := by decide +kernel
theorem ef_17 (m : MethodId) (x0 : Addr) (x1 : Addr) : entryFrame m #[(.ref x0), (.ref x1), .null] 5 = mkF m 0 #[.val (.ref x0), .val (.ref x1), .val .null, .unset, .unset] [] := by first | (simp [entryFrame, mkF, argsToLocals, Value.category]; done) | rfl
def Q_rmS2c (Z : State) (a1 a2 : Addr) (va : Addr) (k1 : ClassId) (zl : Int32) (lv : List Value) (cn : Int32) (cs : Int32) (h0 : Heap) (n0 : Nat) (v : Option Value) (h : Heap) (L : List Loc) : Prop := ∃ (r1 : Addr), v = none ∧ Fr n0 L ∧ Keep h0 h [a1] ∧ h0.size ≤ r1 ∧ Fld Z h a1 "java/lang/String" "value" "[B" (.ref r1) ∧ Fld Z h a1 "java/lang/String" "coder" "B" (.int (0 : Int32)) ∧ Arv Z h r1 k1 .byte zl lv (.int (0 : Int32)) ∧ Exa Z h r1 "[B"
set_option maxRecDepth 65536 in
set_option maxHeartbeats 40000000 in
theorem rmS2c (l : Launch) (Z : State) (a0 : Array Value) (hw : ∀ d ∈ tables_1, d.before a0 Z = true) (ws : List Jvm.Cond) (a1 a2 : Addr) (va : Addr) (k1 : ClassId) (zl : Int32) (lv : List Value) (cn : Int32) (cs : Int32) (h0 : Heap) (n0 : Nat) (Z0 : n0 ≤ h0.size) (EX_a1 : Exa Z h0 a1 "java/lang/String") (F_value_a1 : Fld Z h0 a1 "java/lang/String" "value" "[B" .null) (F_coder_a1 : Fld Z h0 a1 "java/lang/String" "coder" "B" (.int (0 : Int32))) (EX_a2 : Exa Z h0 a2 "java/lang/StringBuilder") (F_value_a2 : Fld Z h0 a2 "java/lang/AbstractStringBuilder" "value" "[B" (.ref va)) (F_coder_a2 : Fld Z h0 a2 "java/lang/AbstractStringBuilder" "coder" "B" (.int (0 : Int32))) (F_count_a2 : Fld Z h0 a2 "java/lang/AbstractStringBuilder" "count" "I" (.int cn)) (V_va : Arv Z h0 va k1 .byte zl lv (.int (0 : Int32))) (EX_va : Exa Z h0 va "[B") (S_COMPACT_STRINGS : Sta Z h0 "java/lang/String" "COMPACT_STRINGS" "Z" (.int cs)) (ge_a1 : n0 ≤ a1) (ne_a2_a1 : a2 ≠ a1) (ne_va_a1 : va ≠ a1) (hc_q5 : ¬ (cs = (0 : Int32))) (hc_q8 : cn = zl) (hc_q9 : (zl).toNatClampNeg ≤ 12) :
    MetFree l (⟨"java/lang/String", "<init>", "(Ljava/lang/AbstractStringBuilder;Ljava/lang/Void;)V"⟩ : MethodName) (head1 (Jvm.Cond.code (⟨"java/lang/String", "<init>", "(Ljava/lang/AbstractStringBuilder;Ljava/lang/Void;)V"⟩ : MethodName) jdk_42_method_150_code 5 none :: ws) ({ frames := 2, cells := 1, slots := 12, locals := 77 } : Room)) (fun a U => a = #[(.ref a1), (.ref a2), .null] ∧ Z.Warmed39 U.vm ∧ U.heap = h0) (fun _ _ _ _ _ => True) (fun _ U o U' => ∃ v L, o = .returned v ∧ Q_rmS2c Z a1 a2 va k1 zl lv cn cs h0 n0 v U'.heap L ∧ FrameEnd U o U' L ({ frames := 2, cells := 1, slots := 12, locals := 77 } : Room).cells ({ frames := 2, cells := 1, slots := 12, locals := 77 } : Room).slots) := by
  refine MetFree.of_bodySF (plainFor_of_name pn_17) hisR ?_
  intro p e s m args below meth c s₁ Bd hml0 hP hK
  obtain ⟨rfl, hZ, hh⟩ := hP
  have hx := Bd.exec
  have hby := Bd.bytes
  have hml : c.maxLocals = 5 := hml0
  have hown : s.vm.findClass "java/lang/String" = some m.cls := findClass_of_methodNamed Bd.named
  have hnm := (name_of_methodNamed Bd.named Bd.method).1
  have X0 : Stand p l e ({ frames := 2, cells := 1, slots := 12, locals := 77 } : Room) s m #[(.ref a1), (.ref a2), .null] below meth c s₁ [] 0 0 := Stand.of_body Bd
  have e0 : s₁.heap = h0 := by rw [← hh, Bd.state]; rfl
  have N0 := Fr.nil n0
  have pre0 : ∀ t, Steps p.tables e below (s₁.setTop (mkF m 0 #[.val (.ref a1), .val (.ref a2), .val .null, .unset, .unset] [])) t → Steps p.tables e below (s₁.setTop (entryFrame m #[(.ref a1), (.ref a2), .null] 5)) t := fun t k => castTop (ef_17 m a1 a2) k
  have K0 : Keep h0 h0 [a1] := Keep.refl _ _
  obtain ⟨T_q1, X_q1, e_q1, st_q1⟩ := initO X0 hx hZ hown (own_w hw 94 rfl) (own_w hw 18 rfl) (own_w hw 19 rfl) e0 (g := (mkF m 1 #[.val (.ref a1), .val (.ref a2), .val .null, .unset, .unset] [(.ref a1)])) rfl (by rw [hml]; rfl) rfl (hb hby d17_1) (by decide) (W := 0) (by show 2 * 0 + _ ≤ _; exact Nat.le_of_eq rfl) (by decide)
  obtain ⟨cq_q2, kq_q2, qa_q2, qb_q2, qc_q2⟩ := isOf hZ e_q1 EX_a2
  obtain ⟨_, _, ⟨T_q2, L_q2, k_q2, n_q2⟩, -, X_q2, ⟨Lc_q2, hQ_q2, l_q2, y_q2, z_q2⟩, st_q2⟩ := X_q1.virtualBack hx (y := (⟨"java/lang/AbstractStringBuilder", "getValue", "()[B"⟩ : MethodName)) (z := (⟨"java/lang/AbstractStringBuilder", "getValue", "()[B"⟩ : MethodName)) hown (mvT hZ (own_w hw 95 rfl)) (mvT hZ (own_w hw 96 rfl)) (notFace_of_selects (args := #[]) (mvT hZ (own_w hw 98 rfl))) (mvT hZ (own_w hw 98 rfl)) (mvT hZ (own_w hw 97 rfl)) (by decide) (backOf (W := 0) (rmGV l Z a0 hw [] a2 va h0 n0 (Nat.le_trans Z0 K0.1) F_value_a2) hZ (own_w hw 99 rfl) (own_w hw 15 rfl) (by decide) (by decide)) qa_q2 qc_q2 (g := (mkF m 5 #[.val (.ref a1), .val (.ref a2), .val .null, .unset, .unset] [(.ref a2)])) rfl (by rw [hml]; rfl) (Steps.refl _) (argsL := []) (rest := []) (lenOf pd____B rfl) rfl (by show 2 * 0 + _ ≤ _; exact Nat.le_of_eq rfl) (hb hby d17_5) (fun _ _ => ⟨rfl, e_q1, (by decide : 0 + 0 ≤ _), (by decide : 0 + 0 ≤ _)⟩)
  dsimp only [Pt.U, Pt.locs, Pt.cells, Pt.slots] at X_q2 l_q2 y_q2 z_q2 st_q2 hQ_q2
  subst l_q2 y_q2 z_q2
  obtain ⟨rfl, Nq_q2, eq_q2⟩ := hQ_q2
  have Kq_q2 : Keep h0 T_q2.heap [] := by rw [eq_q2]; exact Keep.refl _ _
  have N_q2 := Fr.app N0 Nq_q2
  have EX_a1__q2 := EX_a1.keep Kq_q2
  have F_value_a1__q2 := F_value_a1.keep Kq_q2 nin0
  have F_coder_a1__q2 := F_coder_a1.keep Kq_q2 nin0
  have EX_a2__q2 := EX_a2.keep Kq_q2
  have F_coder_a2__q2 := F_coder_a2.keep Kq_q2 nin0
  have F_count_a2__q2 := F_count_a2.keep Kq_q2 nin0
  have V_va__q2 := V_va.keep Kq_q2 nin0
  have EX_va__q2 := EX_va.keep Kq_q2
  have S_COMPACT_STRINGS__q2 := own_sta_keep S_COMPACT_STRINGS Kq_q2 all0
  have K_q2 : Keep h0 T_q2.heap [a1] := K0.trans Kq_q2 all0
  obtain ⟨cq_q3, kq_q3, qa_q3, qb_q3, qc_q3⟩ := isOf hZ rfl EX_a2__q2
  obtain ⟨_, _, ⟨T_q3, L_q3, k_q3, n_q3⟩, -, X_q3, ⟨Lc_q3, hQ_q3, l_q3, y_q3, z_q3⟩, st_q3⟩ := X_q2.virtualBack hx (y := (⟨"java/lang/AbstractStringBuilder", "length", "()I"⟩ : MethodName)) (z := (⟨"java/lang/StringBuilder", "length", "()I"⟩ : MethodName)) hown (mvT hZ (own_w hw 100 rfl)) (mvT hZ (own_w hw 101 rfl)) (own_nf (y := (⟨"java/lang/AbstractStringBuilder", "length", "()I"⟩ : MethodName)) (y' := ({ cls := "java/lang/AbstractStringBuilder", name := "ensureCapacityInternal", desc := "(I)V" } : Jvm.MethodName)) (args := #[]) rfl (mvT hZ (own_w hw 41 rfl))) (mvT hZ (own_w hw 103 rfl)) (mvT hZ (own_w hw 104 rfl)) (by decide) (backOf (W := 0) (rmSL l Z a0 hw [] a2 cn T_q2.heap n0 (Nat.le_trans Z0 K_q2.1) EX_a2__q2 F_count_a2__q2) hZ (own_w hw 105 rfl) (own_w hw 7 rfl) (by decide) (by decide)) qa_q3 qc_q3 (g := (mkF m 10 #[.val (.ref a1), .val (.ref a2), .val .null, .val (.ref va), .unset] [(.ref a2)])) rfl (by rw [hml]; rfl) (Steps.refl _) (argsL := []) (rest := []) (lenOf pd___I rfl) rfl (by show 2 * 0 + _ ≤ _; exact Nat.le_of_eq rfl) (hb hby d17_10) (fun _ _ => ⟨rfl, rfl, (by decide : 0 + 0 ≤ _), (by decide : 0 + 0 ≤ _)⟩)
  dsimp only [Pt.U, Pt.locs, Pt.cells, Pt.slots] at X_q3 l_q3 y_q3 z_q3 st_q3 hQ_q3
  subst l_q3 y_q3 z_q3
  obtain ⟨rfl, Nq_q3, eq_q3⟩ := hQ_q3
  have Kq_q3 : Keep T_q2.heap T_q3.heap [] := by rw [eq_q3]; exact Keep.refl _ _
  have N_q3 := Fr.app N_q2 Nq_q3
  have EX_a1__q3 := EX_a1__q2.keep Kq_q3
  have F_value_a1__q3 := F_value_a1__q2.keep Kq_q3 nin0
  have F_coder_a1__q3 := F_coder_a1__q2.keep Kq_q3 nin0
  have EX_a2__q3 := EX_a2__q2.keep Kq_q3
  have F_coder_a2__q3 := F_coder_a2__q2.keep Kq_q3 nin0
  have V_va__q3 := V_va__q2.keep Kq_q3 nin0
  have EX_va__q3 := EX_va__q2.keep Kq_q3
  have S_COMPACT_STRINGS__q3 := own_sta_keep S_COMPACT_STRINGS__q2 Kq_q3 all0
  have K_q3 : Keep h0 T_q3.heap [a1] := K_q2.trans Kq_q3 all0
  obtain ⟨cq_q4, kq_q4, qa_q4, qb_q4, qc_q4⟩ := isOf hZ rfl EX_a2__q3
  obtain ⟨_, _, ⟨T_q4, L_q4, k_q4, n_q4⟩, -, X_q4, ⟨Lc_q4, hQ_q4, l_q4, y_q4, z_q4⟩, st_q4⟩ := X_q3.virtualBack hx (y := (⟨"java/lang/AbstractStringBuilder", "isLatin1", "()Z"⟩ : MethodName)) (z := (⟨"java/lang/AbstractStringBuilder", "isLatin1", "()Z"⟩ : MethodName)) hown (mvT hZ (own_w hw 108 rfl)) (mvT hZ (own_w hw 44 rfl)) (notFace_of_selects (args := #[]) (mvT hZ (own_w hw 46 rfl))) (mvT hZ (own_w hw 46 rfl)) (mvT hZ (own_w hw 45 rfl)) (by decide) (backOf (W := 0) (rmL1 l Z a0 hw [] a2 cs T_q3.heap n0 (Nat.le_trans Z0 K_q3.1) F_coder_a2__q3 S_COMPACT_STRINGS__q3 hc_q5) hZ (own_w hw 47 rfl) (own_w hw 15 rfl) (by decide) (by decide)) qa_q4 qc_q4 (g := (mkF m 16 #[.val (.ref a1), .val (.ref a2), .val .null, .val (.ref va), .val (.int cn)] [(.ref a2)])) rfl (by rw [hml]; rfl) (Steps.refl _) (argsL := []) (rest := []) (lenOf pd___Z rfl) rfl (by show 2 * 0 + _ ≤ _; exact Nat.le_of_eq rfl) (hb hby d17_16) (fun _ _ => ⟨rfl, rfl, (by decide : 0 + 0 ≤ _), (by decide : 0 + 0 ≤ _)⟩)
  dsimp only [Pt.U, Pt.locs, Pt.cells, Pt.slots] at X_q4 l_q4 y_q4 z_q4 st_q4 hQ_q4
  subst l_q4 y_q4 z_q4
  obtain ⟨rfl, Nq_q4, eq_q4⟩ := hQ_q4
  have Kq_q4 : Keep T_q3.heap T_q4.heap [] := by rw [eq_q4]; exact Keep.refl _ _
  have N_q4 := Fr.app N_q3 Nq_q4
  have EX_a1__q4 := EX_a1__q3.keep Kq_q4
  have F_value_a1__q4 := F_value_a1__q3.keep Kq_q4 nin0
  have F_coder_a1__q4 := F_coder_a1__q3.keep Kq_q4 nin0
  have V_va__q4 := V_va__q3.keep Kq_q4 nin0
  have EX_va__q4 := EX_va__q3.keep Kq_q4
  have K_q4 : Keep h0 T_q4.heap [a1] := K_q3.trans Kq_q4 all0
  obtain ⟨T_q6, h_q6, X_q6, e_q6, W_q6, st_q6⟩ := putF X_q4 hx hZ hown (host := "") (Or.inl (own_w hw 109 rfl)) Via.refl rfl F_coder_a1__q4 EX_a1__q4 (Or.inr ⟨(own_w hw 110 rfl), rfl, hnm⟩) (own_w hw 86 rfl) (ty := .byte) (by decide) rfl rfl (g := (mkF m 24 #[.val (.ref a1), .val (.ref a2), .val .null, .val (.ref va), .val (.int cn)] [(.int (0 : Int32)), (.ref a1)])) rfl rfl (hb hby d17_24)
  have EX_a1__q6 := EX_a1__q4.wr W_q6
  have F_value_a1__q6 := F_value_a1__q4.other W_q6 (Or.inr (slot_ne (Or.inr (own_w hw 124 rfl)) (Or.inr (own_w hw 110 rfl)) (by decide) (t := (.array .byte)) (t' := .byte) (by decide) (by decide)))
  have V_va__q6 := V_va__q4.other W_q6 ne_va_a1
  have EX_va__q6 := EX_va__q4.wr W_q6
  have F_coder_a1__q6 := F_coder_a1__q4.same W_q6
  have K_q6 : Keep h0 h_q6 [a1] := K_q4.wr W_q6 (Or.inl (List.mem_of_getElem? (i := 0) rfl))
  have N_q6 := Fr.snoc X_q6 N_q4 ge_a1
  obtain ⟨_, _, ⟨T_q7, L_q7, k_q7, n_q7⟩, -, X_q7, ⟨Lc_q7, hQ_q7, l_q7, y_q7, z_q7⟩, st_q7⟩ := Jvm.LawKit.callS X_q6 hx (y := (⟨"java/util/Arrays", "copyOfRange", "([BII)[B"⟩ : MethodName)) hown (mvT hZ (own_w hw 111 rfl)) (mvT hZ (own_w hw 112 rfl)) (mvT hZ (own_w hw 69 rfl)) (mvT hZ (own_w hw 113 rfl)) (by decide) (backOf (W := 1) (rmCRc l Z a0 hw [] va k1 zl lv cn h_q6 n0 (Nat.le_trans Z0 K_q6.1) V_va__q6 EX_va__q6 hc_q8 hc_q9) hZ (own_w hw 113 rfl) (own_w hw 69 rfl) (by decide) (by decide)) (g := (mkF m 32 #[.val (.ref a1), .val (.ref a2), .val .null, .val (.ref va), .val (.int cn)] [(.int cn), (.int (0 : Int32)), (.ref va), (.ref a1)])) rfl (by rw [hml]; rfl) (argsL := [(.ref va), (.int (0 : Int32)), (.int cn)]) (rest := [(.ref a1)]) (lenOf pd___BII__B rfl) rfl (by show 2 * 0 + _ ≤ _; exact Nat.le_of_eq rfl) (hb hby d17_32) (fun _ _ => ⟨rfl, e_q6, (by decide : 0 + 1 ≤ _), (by decide : 0 + 12 ≤ _)⟩)
  dsimp only [Pt.U, Pt.locs, Pt.cells, Pt.slots] at X_q7 l_q7 y_q7 z_q7 st_q7 hQ_q7
  subst l_q7 y_q7 z_q7
  obtain ⟨r1_q7, rfl, Nq_q7, Kq_q7, sz0_r1_q7, O0_q7, O1_q7⟩ := hQ_q7
  have N_q7 := Fr.app N_q6 Nq_q7
  have sz_r1_q7 : h0.size ≤ r1_q7 := Nat.le_trans K_q6.1 sz0_r1_q7
  have ne_a1_r1_q7 : a1 ≠ r1_q7 := Nat.ne_of_lt (Nat.lt_of_lt_of_le EX_a1__q6.lt sz0_r1_q7)
  have EX_a1__q7 := EX_a1__q6.keep Kq_q7
  have F_value_a1__q7 := F_value_a1__q6.keep Kq_q7 nin0
  have F_coder_a1__q7 := F_coder_a1__q6.keep Kq_q7 nin0
  have K_q7 : Keep h0 T_q7.heap [a1] := K_q6.trans Kq_q7 all0
  obtain ⟨T_q10, h_q10, X_q10, e_q10, W_q10, st_q10⟩ := putF X_q7 hx hZ hown (host := "") (Or.inl (own_w hw 123 rfl)) Via.refl rfl F_value_a1__q7 EX_a1__q7 (Or.inr ⟨(own_w hw 124 rfl), rfl, hnm⟩) (own_w hw 86 rfl) (ty := (.array .byte)) (by decide) rfl rfl (g := (mkF m 35 #[.val (.ref a1), .val (.ref a2), .val .null, .val (.ref va), .val (.int cn)] [(.ref r1_q7), (.ref a1)])) rfl rfl (hb hby d17_35)
  have F_coder_a1__q10 := F_coder_a1__q7.other W_q10 (Or.inr (slot_ne (Or.inr (own_w hw 110 rfl)) (Or.inr (own_w hw 124 rfl)) (by decide) (t := .byte) (t' := (.array .byte)) (by decide) (by decide)))
  have O0_q7__q10 := O0_q7.other W_q10 (Ne.symm ne_a1_r1_q7)
  have O1_q7__q10 := O1_q7.wr W_q10
  have F_value_a1__q10 := F_value_a1__q7.same W_q10
  have K_q10 : Keep h0 h_q10 [a1] := K_q7.wr W_q10 (Or.inl (List.mem_of_getElem? (i := 0) rfl))
  have N_q10 := Fr.snoc X_q10 N_q7 ge_a1
  obtain ⟨fs, hr, hrun, hended, hW, hsame⟩ := X_q10.leave (v := none) (fun _ => rfl) Bd.notSynchronized
  refine ⟨_, _, pre0 _ ?_, hrun, hended, _, _, rfl, ?_, ⟨_, rfl⟩, hW, hsame.mono (by decide) (by decide)⟩
  · show Steps p.tables e below (s₁.setTop (mkF m 0 #[.val (.ref a1), .val (.ref a2), .val .null, .unset, .unset] [])) _
    refine XS.aloadN X0.here hx rfl (hb hby d17_0) rfl rfl ?_
    show Steps p.tables e below (s₁.setTop (mkF m 1 #[.val (.ref a1), .val (.ref a2), .val .null, .unset, .unset] [(.ref a1)])) _
    refine st_q1 _ ?_
    refine XS.aloadN X_q1.here hx rfl (hb hby d17_4) rfl rfl ?_
    show Steps p.tables e below (T_q1.setTop (mkF m 5 #[.val (.ref a1), .val (.ref a2), .val .null, .unset, .unset] [(.ref a2)])) _
    refine st_q2.trans ?_
    refine XS.astoreN X_q2.here hx rfl (hb hby d17_8) rfl rfl (l' := #[.val (.ref a1), .val (.ref a2), .val .null, .val (.ref va), .unset]) rfl ?_
    refine XS.aloadN X_q2.here hx rfl (hb hby d17_9) rfl rfl ?_
    show Steps p.tables e below (T_q2.setTop (mkF m 10 #[.val (.ref a1), .val (.ref a2), .val .null, .val (.ref va), .unset] [(.ref a2)])) _
    refine st_q3.trans ?_
    refine XS.istore X_q3.here hx rfl (hb hby d17_13) rfl (l' := #[.val (.ref a1), .val (.ref a2), .val .null, .val (.ref va), .val (.int cn)]) rfl ?_
    refine XS.aloadN X_q3.here hx rfl (hb hby d17_15) rfl rfl ?_
    show Steps p.tables e below (T_q3.setTop (mkF m 16 #[.val (.ref a1), .val (.ref a2), .val .null, .val (.ref va), .val (.int cn)] [(.ref a2)])) _
    refine st_q4.trans ?_
    refine XS.ifNo X_q4.here hx rfl (hb hby d17_19) rfl ((if0 _ _).trans (feq (by decide : ¬ ((1 : Int32) = (0 : Int32)))).1) ?_
    refine XS.aloadN X_q4.here hx rfl (hb hby d17_22) rfl rfl ?_
    refine XS.iconst X_q4.here hx rfl (hb hby d17_23) ?_
    show Steps p.tables e below (T_q4.setTop (mkF m 24 #[.val (.ref a1), .val (.ref a2), .val .null, .val (.ref va), .val (.int cn)] [(.int (0 : Int32)), (.ref a1)])) _
    refine st_q6 _ ?_
    refine XS.aloadN X_q6.here hx rfl (hb hby d17_27) rfl rfl ?_
    refine XS.aloadN X_q6.here hx rfl (hb hby d17_28) rfl rfl ?_
    refine XS.iconst X_q6.here hx rfl (hb hby d17_29) ?_
    show Steps p.tables e below (T_q6.setTop (mkF m 30 #[.val (.ref a1), .val (.ref a2), .val .null, .val (.ref va), .val (.int cn)] [(.int (0 : Int32)), (.ref va), (.ref a1)])) _
    refine XS.iload X_q6.here hx rfl (hb hby d17_30) rfl ?_
    show Steps p.tables e below (T_q6.setTop (mkF m 32 #[.val (.ref a1), .val (.ref a2), .val .null, .val (.ref va), .val (.int cn)] [(.int cn), (.int (0 : Int32)), (.ref va), (.ref a1)])) _
    refine st_q7 _ ?_
    show Steps p.tables e below (T_q7.setTop (mkF m 35 #[.val (.ref a1), .val (.ref a2), .val .null, .val (.ref va), .val (.int cn)] [(.ref r1_q7), (.ref a1)])) _
    refine st_q10 _ ?_
    refine XS.goto X_q10.here hx rfl (pc0 := 38) (pc' := 97) rfl (hb hby d17_38) (by decide) (by decide) ?_
    show Steps p.tables e below (T_q10.setTop (mkF m 97 #[.val (.ref a1), .val (.ref a2), .val .null, .val (.ref va), .val (.int cn)] [])) _
    exact X_q10.returnOut hx Bd.returns (hb hby d17_97) hr
  · show Q_rmS2c Z a1 a2 va k1 zl lv cn cs h0 n0 _ T_q10.heap _
    rw [e_q10]
    exact ⟨r1_q7, rfl, N_q10, K_q10, sz_r1_q7, F_value_a1__q10, F_coder_a1__q10, O0_q7__q10, O1_q7__q10⟩
theorem d16_0 : decode jdk_42_method_53_code 0 = .ok (.aload_n 0, 1) := by decide +kernel
theorem d16_1 : decode jdk_42_method_53_code 1 = .ok (.aload_n 1, 1) := by decide +kernel
theorem d16_2 : decode jdk_42_method_53_code 2 = .ok (.aconst_null, 1) := by decide +kernel
theorem d16_3 : decode jdk_42_method_53_code 3 = .ok (.invokespecial 489, 3) := by decide +kernel
theorem d16_6 : decode jdk_42_method_53_code 6 = .ok (.return_, 1) := by decide +kernel
theorem pn_16 : plainName "java/lang/String" = true := by first | (simp [plainName, overriddenIn]; done) | decide +kernel
theorem pd__Ljava_lang_AbstractStringBuilder_Ljava_lang_Void__V : parseMethodDescriptor "(Ljava/lang/AbstractStringBuilder;Ljava/lang/Void;)V" = some ⟨[(.object "java/lang/AbstractStringBuilder"), (.object "java/lang/Void")], none⟩ := by decide +kernel
theorem ef_16 (m : MethodId) (x0 : Addr) (x1 : Addr) : entryFrame m #[(.ref x0), (.ref x1)] 2 = mkF m 0 #[.val (.ref x0), .val (.ref x1)] [] := by first | (simp [entryFrame, mkF, argsToLocals, Value.category]; done) | rfl
def Q_rmS1c (Z : State) (a1 a2 : Addr) (va : Addr) (k1 : ClassId) (zl : Int32) (lv : List Value) (cn : Int32) (cs : Int32) (h0 : Heap) (n0 : Nat) (v : Option Value) (h : Heap) (L : List Loc) : Prop := ∃ (r1 : Addr), v = none ∧ Fr n0 L ∧ Keep h0 h [a1] ∧ h0.size ≤ r1 ∧ Fld Z h a1 "java/lang/String" "value" "[B" (.ref r1) ∧ Fld Z h a1 "java/lang/String" "coder" "B" (.int (0 : Int32)) ∧ Arv Z h r1 k1 .byte zl lv (.int (0 : Int32)) ∧ Exa Z h r1 "[B"
set_option maxRecDepth 65536 in
set_option maxHeartbeats 40000000 in
theorem rmS1c (l : Launch) (Z : State) (a0 : Array Value) (hw : ∀ d ∈ tables_1, d.before a0 Z = true) (ws : List Jvm.Cond) (a1 a2 : Addr) (va : Addr) (k1 : ClassId) (zl : Int32) (lv : List Value) (cn : Int32) (cs : Int32) (h0 : Heap) (n0 : Nat) (Z0 : n0 ≤ h0.size) (EX_a1 : Exa Z h0 a1 "java/lang/String") (F_value_a1 : Fld Z h0 a1 "java/lang/String" "value" "[B" .null) (F_coder_a1 : Fld Z h0 a1 "java/lang/String" "coder" "B" (.int (0 : Int32))) (EX_a2 : Exa Z h0 a2 "java/lang/StringBuilder") (F_value_a2 : Fld Z h0 a2 "java/lang/AbstractStringBuilder" "value" "[B" (.ref va)) (F_coder_a2 : Fld Z h0 a2 "java/lang/AbstractStringBuilder" "coder" "B" (.int (0 : Int32))) (F_count_a2 : Fld Z h0 a2 "java/lang/AbstractStringBuilder" "count" "I" (.int cn)) (V_va : Arv Z h0 va k1 .byte zl lv (.int (0 : Int32))) (EX_va : Exa Z h0 va "[B") (S_COMPACT_STRINGS : Sta Z h0 "java/lang/String" "COMPACT_STRINGS" "Z" (.int cs)) (ge_a1 : n0 ≤ a1) (ne_a2_a1 : a2 ≠ a1) (ne_va_a1 : va ≠ a1) (hc_q2 : ¬ (cs = (0 : Int32))) (hc_q3 : cn = zl) (hc_q4 : (zl).toNatClampNeg ≤ 12) :
    MetFree l (⟨"java/lang/String", "<init>", "(Ljava/lang/StringBuilder;)V"⟩ : MethodName) (head1 (Jvm.Cond.code (⟨"java/lang/String", "<init>", "(Ljava/lang/StringBuilder;)V"⟩ : MethodName) jdk_42_method_53_code 2 none :: ws) ({ frames := 3, cells := 1, slots := 12, locals := 95 } : Room)) (fun a U => a = #[(.ref a1), (.ref a2)] ∧ Z.Warmed39 U.vm ∧ U.heap = h0) (fun _ _ _ _ _ => True) (fun _ U o U' => ∃ v L, o = .returned v ∧ Q_rmS1c Z a1 a2 va k1 zl lv cn cs h0 n0 v U'.heap L ∧ FrameEnd U o U' L ({ frames := 3, cells := 1, slots := 12, locals := 95 } : Room).cells ({ frames := 3, cells := 1, slots := 12, locals := 95 } : Room).slots) := by
  refine MetFree.of_bodySF (plainFor_of_name pn_16) hisR ?_
  intro p e s m args below meth c s₁ Bd hml0 hP hK
  obtain ⟨rfl, hZ, hh⟩ := hP
  have hx := Bd.exec
  have hby := Bd.bytes
  have hml : c.maxLocals = 2 := hml0
  have hown : s.vm.findClass "java/lang/String" = some m.cls := findClass_of_methodNamed Bd.named
  have hnm := (name_of_methodNamed Bd.named Bd.method).1
  have X0 : Stand p l e ({ frames := 3, cells := 1, slots := 12, locals := 95 } : Room) s m #[(.ref a1), (.ref a2)] below meth c s₁ [] 0 0 := Stand.of_body Bd
  have e0 : s₁.heap = h0 := by rw [← hh, Bd.state]; rfl
  have N0 := Fr.nil n0
  have pre0 : ∀ t, Steps p.tables e below (s₁.setTop (mkF m 0 #[.val (.ref a1), .val (.ref a2)] [])) t → Steps p.tables e below (s₁.setTop (entryFrame m #[(.ref a1), (.ref a2)] 2)) t := fun t k => castTop (ef_16 m a1 a2) k
  have K0 : Keep h0 h0 [a1] := Keep.refl _ _
  obtain ⟨_, _, ⟨T_q1, L_q1, k_q1, n_q1⟩, -, X_q1, ⟨Lc_q1, hQ_q1, l_q1, y_q1, z_q1⟩, st_q1⟩ := X0.specialBack hx (y := (⟨"java/lang/String", "<init>", "(Ljava/lang/AbstractStringBuilder;Ljava/lang/Void;)V"⟩ : MethodName)) rfl hown (mvT hZ (own_w hw 91 rfl)) (mvT hZ (own_w hw 92 rfl)) (mvT hZ (own_w hw 93 rfl)) (by decide) (backOf (W := 0) (rmS2c l Z a0 hw [] a1 a2 va k1 zl lv cn cs h0 n0 (Nat.le_trans Z0 K0.1) EX_a1 F_value_a1 F_coder_a1 EX_a2 F_value_a2 F_coder_a2 F_count_a2 V_va EX_va S_COMPACT_STRINGS ge_a1 ne_a2_a1 ne_va_a1 hc_q2 hc_q3 hc_q4) hZ (own_w hw 93 rfl) (own_w hw 21 rfl) (by decide) (by decide)) (g := (mkF m 3 #[.val (.ref a1), .val (.ref a2)] [.null, (.ref a2), (.ref a1)])) rfl (by rw [hml]; rfl) (Steps.refl _) (a := a1) (argsL := [(.ref a2), .null]) (rest := []) (lenOf pd__Ljava_lang_AbstractStringBuilder_Ljava_lang_Void__V rfl) rfl (by show 2 * 0 + _ ≤ _; exact Nat.le_of_eq rfl) (hb hby d16_3) (fun _ _ => ⟨rfl, e0, (by decide : 0 + 1 ≤ _), (by decide : 0 + 12 ≤ _)⟩)
  dsimp only [Pt.U, Pt.locs, Pt.cells, Pt.slots] at X_q1 l_q1 y_q1 z_q1 st_q1 hQ_q1
  subst l_q1 y_q1 z_q1
  obtain ⟨r1_q1, rfl, Nq_q1, Kq_q1, sz0_r1_q1, O0_q1, O1_q1, O2_q1, O3_q1⟩ := hQ_q1
  have N_q1 := Fr.app N0 Nq_q1
  have sz_r1_q1 : h0.size ≤ r1_q1 := Nat.le_trans K0.1 sz0_r1_q1
  have K_q1 : Keep h0 T_q1.heap [a1] := K0.trans Kq_q1 (allS (Or.inl (List.mem_of_getElem? (i := 0) rfl)) all0)
  obtain ⟨fs, hr, hrun, hended, hW, hsame⟩ := X_q1.leave (v := none) (fun _ => rfl) Bd.notSynchronized
  refine ⟨_, _, pre0 _ ?_, hrun, hended, _, _, rfl, ?_, ⟨_, rfl⟩, hW, hsame.mono (by decide) (by decide)⟩
  · show Steps p.tables e below (s₁.setTop (mkF m 0 #[.val (.ref a1), .val (.ref a2)] [])) _
    refine XS.aloadN X0.here hx rfl (hb hby d16_0) rfl rfl ?_
    refine XS.aloadN X0.here hx rfl (hb hby d16_1) rfl rfl ?_
    refine XS.aconstNull X0.here hx rfl (hb hby d16_2) ?_
    show Steps p.tables e below (s₁.setTop (mkF m 3 #[.val (.ref a1), .val (.ref a2)] [.null, (.ref a2), (.ref a1)])) _
    refine st_q1.trans ?_
    show Steps p.tables e below (T_q1.setTop (mkF m 6 #[.val (.ref a1), .val (.ref a2)] [])) _
    exact X_q1.returnOut hx Bd.returns (hb hby d16_6) hr
  · show Q_rmS1c Z a1 a2 va k1 zl lv cn cs h0 n0 _ T_q1.heap _
    exact ⟨r1_q1, rfl, N_q1, K_q1, sz_r1_q1, O0_q1, O1_q1, O2_q1, O3_q1⟩
theorem d15_0 : decode jdk_67_method_42_code 0 = .ok (.new 18, 3) := by decide +kernel
theorem d15_3 : decode jdk_67_method_42_code 3 = .ok (.dup, 1) := by decide +kernel
theorem d15_4 : decode jdk_67_method_42_code 4 = .ok (.aload_n 0, 1) := by decide +kernel
theorem d15_5 : decode jdk_67_method_42_code 5 = .ok (.invokespecial 137, 3) := by decide +kernel
theorem d15_8 : decode jdk_67_method_42_code 8 = .ok (.areturn, 1) := by decide +kernel
theorem pn_15 : plainName "java/lang/StringBuilder" = true := by first | (simp [plainName, overriddenIn]; done) | decide +kernel
theorem pd__Ljava_lang_StringBuilder__V : parseMethodDescriptor "(Ljava/lang/StringBuilder;)V" = some ⟨[(.object "java/lang/StringBuilder")], none⟩ := by decide +kernel
theorem ef_15 (m : MethodId) (x0 : Addr) : entryFrame m #[(.ref x0)] 1 = mkF m 0 #[.val (.ref x0)] [] := by first | (simp [entryFrame, mkF, argsToLocals, Value.category]; done) | rfl
def Q_rmTSc (Z : State) (a2 : Addr) (va : Addr) (k1 : ClassId) (zl : Int32) (lv : List Value) (cn : Int32) (cs : Int32) (h0 : Heap) (n0 : Nat) (v : Option Value) (h : Heap) (L : List Loc) : Prop := ∃ (r1 : Addr) (r2 : Addr), v = some (.ref r1) ∧ Fr n0 L ∧ Keep h0 h [] ∧ h0.size ≤ r1 ∧ h0.size ≤ r2 ∧ Exa Z h r1 "java/lang/String" ∧ Fld Z h r1 "java/lang/String" "value" "[B" (.ref r2) ∧ Fld Z h r1 "java/lang/String" "coder" "B" (.int (0 : Int32)) ∧ Arv Z h r2 k1 .byte zl lv (.int (0 : Int32)) ∧ Exa Z h r2 "[B"
set_option maxRecDepth 65536 in
set_option maxHeartbeats 40000000 in
theorem rmTSc (l : Launch) (Z : State) (a0 : Array Value) (hw : ∀ d ∈ tables_1, d.before a0 Z = true) (ws : List Jvm.Cond) (a2 : Addr) (va : Addr) (k1 : ClassId) (zl : Int32) (lv : List Value) (cn : Int32) (cs : Int32) (h0 : Heap) (n0 : Nat) (Z0 : n0 ≤ h0.size) (EX_a2 : Exa Z h0 a2 "java/lang/StringBuilder") (F_value_a2 : Fld Z h0 a2 "java/lang/AbstractStringBuilder" "value" "[B" (.ref va)) (F_coder_a2 : Fld Z h0 a2 "java/lang/AbstractStringBuilder" "coder" "B" (.int (0 : Int32))) (F_count_a2 : Fld Z h0 a2 "java/lang/AbstractStringBuilder" "count" "I" (.int cn)) (V_va : Arv Z h0 va k1 .byte zl lv (.int (0 : Int32))) (EX_va : Exa Z h0 va "[B") (S_COMPACT_STRINGS : Sta Z h0 "java/lang/String" "COMPACT_STRINGS" "Z" (.int cs)) (hc_q3 : ¬ (cs = (0 : Int32))) (hc_q4 : cn = zl) (hc_q5 : (zl).toNatClampNeg ≤ 12) :
    MetFree l (⟨"java/lang/StringBuilder", "toString", "()Ljava/lang/String;"⟩ : MethodName) (head1 (Jvm.Cond.code (⟨"java/lang/StringBuilder", "toString", "()Ljava/lang/String;"⟩ : MethodName) jdk_67_method_42_code 1 (some (.object "java/lang/String")) :: ws) ({ frames := 4, cells := 2, slots := 16, locals := 111 } : Room)) (fun a U => a = #[(.ref a2)] ∧ Z.Warmed39 U.vm ∧ U.heap = h0) (fun _ _ _ _ _ => True) (fun _ U o U' => ∃ v L, o = .returned v ∧ Q_rmTSc Z a2 va k1 zl lv cn cs h0 n0 v U'.heap L ∧ FrameEnd U o U' L ({ frames := 4, cells := 2, slots := 16, locals := 111 } : Room).cells ({ frames := 4, cells := 2, slots := 16, locals := 111 } : Room).slots) := by
  refine MetFree.of_bodySF (plainFor_of_name pn_15) hisR ?_
  intro p e s m args below meth c s₁ Bd hml0 hP hK
  obtain ⟨rfl, hZ, hh⟩ := hP
  have hx := Bd.exec
  have hby := Bd.bytes
  have hml : c.maxLocals = 1 := hml0
  have hown : s.vm.findClass "java/lang/StringBuilder" = some m.cls := findClass_of_methodNamed Bd.named
  have hnm := (name_of_methodNamed Bd.named Bd.method).1
  have X0 : Stand p l e ({ frames := 4, cells := 2, slots := 16, locals := 111 } : Room) s m #[(.ref a2)] below meth c s₁ [] 0 0 := Stand.of_body Bd
  have e0 : s₁.heap = h0 := by rw [← hh, Bd.state]; rfl
  have N0 := Fr.nil n0
  have pre0 : ∀ t, Steps p.tables e below (s₁.setTop (mkF m 0 #[.val (.ref a2)] [])) t → Steps p.tables e below (s₁.setTop (entryFrame m #[(.ref a2)] 1)) t := fun t k => castTop (ef_15 m a2) k
  have K0 : Keep h0 h0 [] := Keep.refl _ _
  obtain ⟨T_q1, h_q1, X_q1, e_q1, E_q1, EX_q1, D_q1, -, st_q1⟩ := newO X0 hx hZ hown (own_w hw 85 rfl) (own_w hw 86 rfl) (own_w hw 21 rfl) e0 (g := (mkF m 0 #[.val (.ref a2)] [])) rfl (hb hby d15_0) (by decide) (by decide)
  obtain ⟨b_q1, g_q1⟩ : ∃ z, z = h0.size := ⟨_, rfl⟩
  rw [← g_q1] at EX_q1 D_q1 st_q1
  have ne_a2_b_q1 : a2 ≠ b_q1 := Nat.ne_of_lt (Nat.lt_of_lt_of_le EX_a2.lt (Nat.le_of_eq g_q1.symm))
  have ne_va_b_q1 : va ≠ b_q1 := Nat.ne_of_lt (Nat.lt_of_lt_of_le V_va.lt (Nat.le_of_eq g_q1.symm))
  have ge_b_q1 : n0 ≤ b_q1 := Nat.le_trans (Nat.le_trans Z0 K0.1) (Nat.le_of_eq g_q1.symm)
  have sz_b_q1 : h0.size ≤ b_q1 := Nat.le_trans K0.1 (Nat.le_of_eq g_q1.symm)
  have K_q1 : Keep h0 h_q1 [] := K0.ext E_q1
  have EX_a2__q1 := EX_a2.ext E_q1
  have F_value_a2__q1 := F_value_a2.ext E_q1
  have F_coder_a2__q1 := F_coder_a2.ext E_q1
  have F_count_a2__q1 := F_count_a2.ext E_q1
  have V_va__q1 := V_va.ext E_q1
  have EX_va__q1 := EX_va.ext E_q1
  have S_COMPACT_STRINGS__q1 := S_COMPACT_STRINGS.ext E_q1
  have F_coder_b_q1 : Fld Z h_q1 b_q1 "java/lang/String" "coder" "B" (.int (0 : Int32)) := D_q1 (Or.inr (own_w hw 110 rfl)) (ty := .byte) (by decide)
  have F_value_b_q1 : Fld Z h_q1 b_q1 "java/lang/String" "value" "[B" .null := D_q1 (Or.inr (own_w hw 124 rfl)) (ty := (.array .byte)) (by decide)
  obtain ⟨_, _, ⟨T_q2, L_q2, k_q2, n_q2⟩, -, X_q2, ⟨Lc_q2, hQ_q2, l_q2, y_q2, z_q2⟩, st_q2⟩ := X_q1.specialBack hx (y := (⟨"java/lang/String", "<init>", "(Ljava/lang/StringBuilder;)V"⟩ : MethodName)) rfl hown (mvT hZ (own_w hw 87 rfl)) (mvT hZ (own_w hw 88 rfl)) (mvT hZ (own_w hw 90 rfl)) (by decide) (backOf (W := 1) (rmS1c l Z a0 hw [] b_q1 a2 va k1 zl lv cn cs h_q1 n0 (Nat.le_trans Z0 K_q1.1) EX_q1 F_value_b_q1 F_coder_b_q1 EX_a2__q1 F_value_a2__q1 F_coder_a2__q1 F_count_a2__q1 V_va__q1 EX_va__q1 S_COMPACT_STRINGS__q1 ge_b_q1 ne_a2_b_q1 ne_va_b_q1 hc_q3 hc_q4 hc_q5) hZ (own_w hw 90 rfl) (own_w hw 21 rfl) (by decide) (by decide)) (g := (mkF m 5 #[.val (.ref a2)] [(.ref a2), (.ref b_q1), (.ref b_q1)])) rfl (by rw [hml]; rfl) (Steps.refl _) (a := b_q1) (argsL := [(.ref a2)]) (rest := [(.ref b_q1)]) (lenOf pd__Ljava_lang_StringBuilder__V rfl) rfl (by show 2 * 0 + _ ≤ _; exact Nat.le_of_eq rfl) (hb hby d15_5) (fun _ _ => ⟨rfl, e_q1, (by decide : 1 + 1 ≤ _), (by decide : 4 + 12 ≤ _)⟩)
  dsimp only [Pt.U, Pt.locs, Pt.cells, Pt.slots] at X_q2 l_q2 y_q2 z_q2 st_q2 hQ_q2
  subst l_q2 y_q2 z_q2
  obtain ⟨r1_q2, rfl, Nq_q2, Kq_q2, sz0_r1_q2, O0_q2, O1_q2, O2_q2, O3_q2⟩ := hQ_q2
  have N_q2 := Fr.app N0 Nq_q2
  have sz_r1_q2 : h0.size ≤ r1_q2 := Nat.le_trans K_q1.1 sz0_r1_q2
  have EX_q1__q2 := EX_q1.keep Kq_q2
  have K_q2 : Keep h0 T_q2.heap [] := K_q1.trans Kq_q2 (allS (Or.inr sz_b_q1) all0)
  obtain ⟨fs, hr, hrun, hended, hW, hsame⟩ := X_q2.leave (v := some (.ref b_q1)) (fun h => by rw [Bd.returns] at h; cases h) Bd.notSynchronized
  refine ⟨_, _, pre0 _ ?_, hrun, hended, _, _, rfl, ?_, ⟨_, rfl⟩, hW, hsame.mono (by decide) (by decide)⟩
  · show Steps p.tables e below (s₁.setTop (mkF m 0 #[.val (.ref a2)] [])) _
    refine st_q1 _ ?_
    refine XS.dup X_q1.here hx rfl (hb hby d15_3) rfl rfl ?_
    refine XS.aloadN X_q1.here hx rfl (hb hby d15_4) rfl rfl ?_
    show Steps p.tables e below (T_q1.setTop (mkF m 5 #[.val (.ref a2)] [(.ref a2), (.ref b_q1), (.ref b_q1)])) _
    refine st_q2.trans ?_
    show Steps p.tables e below (T_q2.setTop (mkF m 8 #[.val (.ref a2)] [(.ref b_q1)])) _
    jvm_step X_q2.here [X_q2.here.top, hx, (hb hby d15_8), X_q2.method', Bd.returns, Value.isRef, FieldType.isReference]
    first | (intro acts; rw [hr _ acts rfl rfl rfl]) | rw [hr _ _ rfl rfl rfl]
    exact Steps.refl _
  · show Q_rmTSc Z a2 va k1 zl lv cn cs h0 n0 _ T_q2.heap _
    exact ⟨b_q1, r1_q2, rfl, N_q2, K_q2, sz_b_q1, sz_r1_q2, EX_q1__q2, O0_q2, O1_q2, O2_q2, O3_q2⟩
theorem d32_0 : decode jdk_65_method_131_code 0 = .ok (.iload_n 1, 1) := by decide +kernel
theorem d32_1 : decode jdk_65_method_131_code 1 = .ok (.iload_n 0, 1) := by decide +kernel
theorem d32_2 : decode jdk_65_method_131_code 2 = .ok (.if_icmp .ge 35, 3) := by decide +kernel
theorem d32_37 : decode jdk_65_method_131_code 37 = .ok (.return_, 1) := by decide +kernel
theorem pn_32 : plainName "java/util/Arrays" = true := by first | (simp [plainName, overriddenIn]; done) | decide +kernel
theorem ef_32 (m : MethodId) (x0 : Int32) (x1 : Int32) : entryFrame m #[(.int x0), (.int x1)] 2 = mkF m 0 #[.val (.int x0), .val (.int x1)] [] := by first | (simp [entryFrame, mkF, argsToLocals, Value.category]; done) | rfl
def Q_rmCK (Z : State) (p1 p2 : Int32) (h0 : Heap) (n0 : Nat) (v : Option Value) (h : Heap) (L : List Loc) : Prop := v = none ∧ Fr n0 L ∧ h = h0
set_option maxRecDepth 65536 in
set_option maxHeartbeats 40000000 in
theorem rmCK (l : Launch) (Z : State) (a0 : Array Value) (hw : ∀ d ∈ tables_1, d.before a0 Z = true) (ws : List Jvm.Cond) (p1 p2 : Int32) (h0 : Heap) (n0 : Nat) (Z0 : n0 ≤ h0.size) (hc_q1 : ¬ (p2 < p1)) :
    MetFree l (⟨"java/util/Arrays", "checkLength", "(II)V"⟩ : MethodName) (head1 (Jvm.Cond.code (⟨"java/util/Arrays", "checkLength", "(II)V"⟩ : MethodName) jdk_65_method_131_code 2 none :: ws) ({ frames := 0, cells := 0, slots := 0, locals := 0 } : Room)) (fun a U => a = #[(.int p1), (.int p2)] ∧ Z.Warmed39 U.vm ∧ U.heap = h0) (fun _ _ _ _ _ => True) (fun _ U o U' => ∃ v L, o = .returned v ∧ Q_rmCK Z p1 p2 h0 n0 v U'.heap L ∧ FrameEnd U o U' L ({ frames := 0, cells := 0, slots := 0, locals := 0 } : Room).cells ({ frames := 0, cells := 0, slots := 0, locals := 0 } : Room).slots) := by
  refine MetFree.of_bodySF (plainFor_of_name pn_32) hisR ?_
  intro p e s m args below meth c s₁ Bd hml0 hP hK
  obtain ⟨rfl, hZ, hh⟩ := hP
  have hx := Bd.exec
  have hby := Bd.bytes
  have hml : c.maxLocals = 2 := hml0
  have hown : s.vm.findClass "java/util/Arrays" = some m.cls := findClass_of_methodNamed Bd.named
  have hnm := (name_of_methodNamed Bd.named Bd.method).1
  have X0 : Stand p l e ({ frames := 0, cells := 0, slots := 0, locals := 0 } : Room) s m #[(.int p1), (.int p2)] below meth c s₁ [] 0 0 := Stand.of_body Bd
  have e0 : s₁.heap = h0 := by rw [← hh, Bd.state]; rfl
  have N0 := Fr.nil n0
  have pre0 : ∀ t, Steps p.tables e below (s₁.setTop (mkF m 0 #[.val (.int p1), .val (.int p2)] [])) t → Steps p.tables e below (s₁.setTop (entryFrame m #[(.int p1), (.int p2)] 2)) t := fun t k => castTop (ef_32 m p1 p2) k
  obtain ⟨fs, hr, hrun, hended, hW, hsame⟩ := X0.leave (v := none) (fun _ => rfl) Bd.notSynchronized
  refine ⟨_, _, pre0 _ ?_, hrun, hended, _, _, rfl, ?_, ⟨_, rfl⟩, hW, hsame.mono (by decide) (by decide)⟩
  · show Steps p.tables e below (s₁.setTop (mkF m 0 #[.val (.int p1), .val (.int p2)] [])) _
    refine XS.iloadN X0.here hx rfl (hb hby d32_0) rfl ?_
    refine XS.iloadN X0.here hx rfl (hb hby d32_1) rfl ?_
    refine XS.icmpYes X0.here hx rfl (pc0 := 2) (pc' := 37) rfl (hb hby d32_2) rfl (flt hc_q1).2.1 (by decide) (by decide) ?_
    show Steps p.tables e below (s₁.setTop (mkF m 37 #[.val (.int p1), .val (.int p2)] [])) _
    exact X0.returnOut hx Bd.returns (hb hby d32_37) hr
  · show Q_rmCK Z p1 p2 h0 n0 _ s₁.heap _
    rw [e0]
    exact ⟨rfl, N0, rfl⟩
theorem d31_0 : decode jdk_65_method_133_code 0 = .ok (.iload_n 1, 1) := by decide +kernel
theorem d31_1 : decode jdk_65_method_133_code 1 = .ok (.iload_n 2, 1) := by decide +kernel
theorem d31_2 : decode jdk_65_method_133_code 2 = .ok (.invokestatic 343, 3) := by decide +kernel
theorem d31_5 : decode jdk_65_method_133_code 5 = .ok (.iload_n 2, 1) := by decide +kernel
theorem d31_6 : decode jdk_65_method_133_code 6 = .ok (.iload_n 1, 1) := by decide +kernel
theorem d31_7 : decode jdk_65_method_133_code 7 = .ok (.isub, 1) := by decide +kernel
theorem d31_8 : decode jdk_65_method_133_code 8 = .ok (.istore_n 3, 1) := by decide +kernel
theorem d31_9 : decode jdk_65_method_133_code 9 = .ok (.iload_n 3, 1) := by decide +kernel
theorem d31_10 : decode jdk_65_method_133_code 10 = .ok (.newarray .byte, 2) := by decide +kernel
theorem d31_12 : decode jdk_65_method_133_code 12 = .ok (.astore 4, 2) := by decide +kernel
theorem d31_14 : decode jdk_65_method_133_code 14 = .ok (.aload_n 0, 1) := by decide +kernel
theorem d31_15 : decode jdk_65_method_133_code 15 = .ok (.iload_n 1, 1) := by decide +kernel
theorem d31_16 : decode jdk_65_method_133_code 16 = .ok (.aload 4, 2) := by decide +kernel
theorem d31_18 : decode jdk_65_method_133_code 18 = .ok (.iconst 0, 1) := by decide +kernel
theorem d31_19 : decode jdk_65_method_133_code 19 = .ok (.aload_n 0, 1) := by decide +kernel
theorem d31_20 : decode jdk_65_method_133_code 20 = .ok (.arraylength, 1) := by decide +kernel
theorem d31_21 : decode jdk_65_method_133_code 21 = .ok (.iload_n 1, 1) := by decide +kernel
theorem d31_22 : decode jdk_65_method_133_code 22 = .ok (.isub, 1) := by decide +kernel
theorem d31_23 : decode jdk_65_method_133_code 23 = .ok (.iload_n 3, 1) := by decide +kernel
theorem d31_24 : decode jdk_65_method_133_code 24 = .ok (.invokestatic 304, 3) := by decide +kernel
theorem d31_27 : decode jdk_65_method_133_code 27 = .ok (.invokestatic 150, 3) := by decide +kernel
theorem d31_30 : decode jdk_65_method_133_code 30 = .ok (.aload 4, 2) := by decide +kernel
theorem d31_32 : decode jdk_65_method_133_code 32 = .ok (.areturn, 1) := by decide +kernel
theorem pn_31 : plainName "java/util/Arrays" = true := by first | (simp [plainName, overriddenIn]; done) | decide +kernel
theorem pd__II_V : parseMethodDescriptor "(II)V" = some ⟨[.int, .int], none⟩ := by decide +kernel
theorem ef_31 (m : MethodId) (x0 : Addr) (x1 : Int32) (x2 : Int32) : entryFrame m #[(.ref x0), (.int x1), (.int x2)] 5 = mkF m 0 #[.val (.ref x0), .val (.int x1), .val (.int x2), .unset, .unset] [] := by first | (simp [entryFrame, mkF, argsToLocals, Value.category]; done) | rfl
def Q_rmCB (Z : State) (va : Addr) (k1 : ClassId) (zl : Int32) (lv : List Value) (cn : Int32) (h0 : Heap) (n0 : Nat) (v : Option Value) (h : Heap) (L : List Loc) : Prop := ∃ (r1 : Addr) (kr1 : ClassId), v = some (.ref r1) ∧ Fr n0 L ∧ Keep h0 h [] ∧ h0.size ≤ r1 ∧ Arv Z h r1 kr1 .byte cn (own_cp lv (cn).toNatClampNeg (cn).toNatClampNeg) (.int (0 : Int32)) ∧ Exa Z h r1 "[B"
set_option maxRecDepth 65536 in
set_option maxHeartbeats 40000000 in
theorem rmCB (l : Launch) (Z : State) (a0 : Array Value) (hw : ∀ d ∈ tables_1, d.before a0 Z = true) (ws : List Jvm.Cond) (va : Addr) (k1 : ClassId) (zl : Int32) (lv : List Value) (cn : Int32) (h0 : Heap) (n0 : Nat) (Z0 : n0 ≤ h0.size) (V_va : Arv Z h0 va k1 .byte zl lv (.int (0 : Int32))) (EX_va : Exa Z h0 va "[B") (hc_q2 : ¬ (cn < (0 : Int32))) (hc_q4 : ¬ (cn) < 0) (hc_q5 : (cn).toNatClampNeg ≤ 12) (hc_q7 : (F14_0 zl cn) = cn) (hc_q10 : (cn).toNatClampNeg ≤ (zl).toNatClampNeg) :
    MetFree l (⟨"java/util/Arrays", "copyOfRangeByte", "([BII)[B"⟩ : MethodName) (head1 (Jvm.Cond.code (⟨"java/util/Arrays", "copyOfRangeByte", "([BII)[B"⟩ : MethodName) jdk_65_method_133_code 5 (some (.array .byte)) :: ws) ({ frames := 1, cells := 1, slots := 12, locals := 60 } : Room)) (fun a U => a = #[(.ref va), (.int (0 : Int32)), (.int cn)] ∧ Z.Warmed39 U.vm ∧ U.heap = h0) (fun _ _ _ _ _ => True) (fun _ U o U' => ∃ v L, o = .returned v ∧ Q_rmCB Z va k1 zl lv cn h0 n0 v U'.heap L ∧ FrameEnd U o U' L ({ frames := 1, cells := 1, slots := 12, locals := 60 } : Room).cells ({ frames := 1, cells := 1, slots := 12, locals := 60 } : Room).slots) := by
  refine MetFree.of_bodySF (plainFor_of_name pn_31) hisR ?_
  intro p e s m args below meth c s₁ Bd hml0 hP hK
  obtain ⟨rfl, hZ, hh⟩ := hP
  have hx := Bd.exec
  have hby := Bd.bytes
  have hml : c.maxLocals = 5 := hml0
  have hown : s.vm.findClass "java/util/Arrays" = some m.cls := findClass_of_methodNamed Bd.named
  have hnm := (name_of_methodNamed Bd.named Bd.method).1
  have X0 : Stand p l e ({ frames := 1, cells := 1, slots := 12, locals := 60 } : Room) s m #[(.ref va), (.int (0 : Int32)), (.int cn)] below meth c s₁ [] 0 0 := Stand.of_body Bd
  have e0 : s₁.heap = h0 := by rw [← hh, Bd.state]; rfl
  have N0 := Fr.nil n0
  have pre0 : ∀ t, Steps p.tables e below (s₁.setTop (mkF m 0 #[.val (.ref va), .val (.int (0 : Int32)), .val (.int cn), .unset, .unset] [])) t → Steps p.tables e below (s₁.setTop (entryFrame m #[(.ref va), (.int (0 : Int32)), (.int cn)] 5)) t := fun t k => castTop (ef_31 m va (0 : Int32) cn) k
  have K0 : Keep h0 h0 [] := Keep.refl _ _
  obtain ⟨_, _, ⟨T_q1, L_q1, k_q1, n_q1⟩, -, X_q1, ⟨Lc_q1, hQ_q1, l_q1, y_q1, z_q1⟩, st_q1⟩ := Jvm.LawKit.callS X0 hx (y := (⟨"java/util/Arrays", "checkLength", "(II)V"⟩ : MethodName)) hown (mvT hZ (own_w hw 167 rfl)) (mvT hZ (own_w hw 168 rfl)) (mvT hZ (own_w hw 69 rfl)) (mvT hZ (own_w hw 169 rfl)) (by decide) (backOf (W := 0) (rmCK l Z a0 hw [] (0 : Int32) cn h0 n0 (Nat.le_trans Z0 K0.1) hc_q2) hZ (own_w hw 169 rfl) (own_w hw 69 rfl) (by decide) (by decide)) (g := (mkF m 2 #[.val (.ref va), .val (.int (0 : Int32)), .val (.int cn), .unset, .unset] [(.int cn), (.int (0 : Int32))])) rfl (by rw [hml]; rfl) (argsL := [(.int (0 : Int32)), (.int cn)]) (rest := []) (lenOf pd__II_V rfl) rfl (by show 2 * 0 + _ ≤ _; exact Nat.le_of_eq rfl) (hb hby d31_2) (fun _ _ => ⟨rfl, e0, (by decide : 0 + 0 ≤ _), (by decide : 0 + 0 ≤ _)⟩)
  dsimp only [Pt.U, Pt.locs, Pt.cells, Pt.slots] at X_q1 l_q1 y_q1 z_q1 st_q1 hQ_q1
  subst l_q1 y_q1 z_q1
  obtain ⟨rfl, Nq_q1, eq_q1⟩ := hQ_q1
  have Kq_q1 : Keep h0 T_q1.heap [] := by rw [eq_q1]; exact Keep.refl _ _
  have N_q1 := Fr.app N0 Nq_q1
  have V_va__q1 := V_va.keep Kq_q1 nin0
  have K_q1 : Keep h0 T_q1.heap [] := K0.trans Kq_q1 all0
  obtain ⟨T_q3, h_q3, k_q3, X_q3, e_q3, E_q3, A_q3, EX_q3, st_q3⟩ := newPE X_q1 hx hZ (own_w hw 0 rfl) rfl (g := (mkF m 10 #[.val (.ref va), .val (.int (0 : Int32)), .val (.int cn), .val (.int cn), .unset] [(.int cn)])) rfl (hb hby d31_10) rfl hc_q4 (cap := 12) hc_q5 (by decide) (by decide) (by decide) (ad := "[B") (by decide)
  obtain ⟨b_q3, g_q3⟩ : ∃ z, z = T_q1.heap.size := ⟨_, rfl⟩
  rw [← g_q3] at A_q3 EX_q3 st_q3
  have ge_b_q3 : n0 ≤ b_q3 := Nat.le_trans (Nat.le_trans Z0 K_q1.1) (Nat.le_of_eq g_q3.symm)
  have sz_b_q3 : h0.size ≤ b_q3 := Nat.le_trans K_q1.1 (Nat.le_of_eq g_q3.symm)
  have K_q3 : Keep h0 h_q3 [] := K_q1.ext E_q3
  have V_va__q3 := V_va__q1.ext E_q3
  have V_b_q3 : Arv Z h_q3 b_q3 k_q3 .byte cn [] (.int (0 : Int32)) := (Arv.new A_q3 hc_q4).pad (pad_rep [] (.int (0 : Int32)) 0)
  have V_b_q3_r : Arv Z h_q3 b_q3 k_q3 .byte cn (List.replicate (cn).toNatClampNeg (.int (0 : Int32))) (.int (0 : Int32)) := V_b_q3.pad (own_rep _ _)
  obtain ⟨cl_q6, Ar_q6, qk_q6, S_q6, Nn_q6, H_q6, G_q6⟩ := id V_va__q3
  obtain ⟨_, _, ⟨T_q8, L_q8, k_q8, n_q8⟩, -, X_q8, ⟨Lc_q8, hQ_q8, l_q8, y_q8, z_q8⟩, st_q8⟩ := Jvm.LawKit.callS X_q3 hx (y := (⟨"java/lang/Math", "min", "(II)I"⟩ : MethodName)) hown (mvT hZ (own_w hw 71 rfl)) (mvT hZ (own_w hw 72 rfl)) (mvT hZ (own_w hw 63 rfl)) (mvT hZ (own_w hw 73 rfl)) (by decide) (backOf (W := 4) (rm14 l Z a0 hw [] zl cn h_q3 n0 (Nat.le_trans Z0 K_q3.1)) hZ (own_w hw 73 rfl) (own_w hw 63 rfl) (by decide) (by decide)) (g := (mkF m 24 #[.val (.ref va), .val (.int (0 : Int32)), .val (.int cn), .val (.int cn), .val (.ref b_q3)] [(.int cn), (.int zl), (.int (0 : Int32)), (.ref b_q3), (.int (0 : Int32)), (.ref va)])) rfl (by rw [hml]; rfl) (argsL := [(.int zl), (.int cn)]) (rest := [(.int (0 : Int32)), (.ref b_q3), (.int (0 : Int32)), (.ref va)]) (lenOf pd__II_I rfl) rfl (by show 2 * 0 + _ ≤ _; exact Nat.le_of_eq rfl) (hb hby d31_24) (fun _ _ => ⟨rfl, e_q3, (by decide : 1 + 0 ≤ _), (by decide : 12 + 0 ≤ _)⟩)
  dsimp only [Pt.U, Pt.locs, Pt.cells, Pt.slots] at X_q8 l_q8 y_q8 z_q8 st_q8 hQ_q8
  subst l_q8 y_q8 z_q8
  obtain ⟨rfl, Nq_q8, eq_q8⟩ := hQ_q8
  have Kq_q8 : Keep h_q3 T_q8.heap [] := by rw [eq_q8]; exact Keep.refl _ _
  have N_q8 := Fr.app N_q1 Nq_q8
  have V_va__q8 := V_va__q3.keep Kq_q8 nin0
  have V_b_q3_r__q8 := V_b_q3_r.keep Kq_q8 nin0
  have EX_q3__q8 := EX_q3.keep Kq_q8
  have K_q8 : Keep h0 T_q8.heap [] := K_q3.trans Kq_q8 all0
  obtain ⟨T_q9, h_q9, L_q9, X_q9, e_q9, N_q9, Kq_q9, V_q9, st_q9⟩ := cpA X_q8 hx hZ hown (own_w hw 74 rfl) (own_w hw 77 rfl) (own_w hw 75 rfl) (own_w hw 76 rfl) rfl V_va__q8 V_b_q3_r__q8 (sp := (0 : Int32)) (dp := (0 : Int32)) (us := ((List.range (cn).toNatClampNeg).map fun i => lv.getD (0 + i) (.int (0 : Int32)))) (Or.inl ⟨rfl, rfl⟩) (by decide) (by decide) hc_q4 (own_z0 hc_q10) (Nat.le_of_eq (Nat.zero_add _)) rfl (by rw [List.length_replicate]; exact (Nat.le_of_eq (Nat.zero_add _))) N_q8 ge_b_q3 (g := (mkF m 27 #[.val (.ref va), .val (.int (0 : Int32)), .val (.int cn), .val (.int cn), .val (.ref b_q3)] [(.int cn), (.int (0 : Int32)), (.ref b_q3), (.int (0 : Int32)), (.ref va)])) rfl (by rw [hml]; rfl) rfl (hb hby d31_27) (by decide) (W := 0) (by show 2 * 0 + _ ≤ _; exact Nat.le_of_eq rfl) (by decide)
  have EX_q3__q9 := EX_q3__q8.keep Kq_q9
  have V_b_q3__q9 : Arv Z h_q9 b_q3 k_q3 .byte cn (own_cp lv (cn).toNatClampNeg (cn).toNatClampNeg) (.int (0 : Int32)) := by have q := V_q9; rw [own_cp_eq] at q; exact q
  have K_q9 : Keep h0 h_q9 [] := K_q8.trans Kq_q9 (allS (Or.inr sz_b_q3) all0)
  obtain ⟨fs, hr, hrun, hended, hW, hsame⟩ := X_q9.leave (v := some (.ref b_q3)) (fun h => by rw [Bd.returns] at h; cases h) Bd.notSynchronized
  refine ⟨_, _, pre0 _ ?_, hrun, hended, _, _, rfl, ?_, ⟨_, rfl⟩, hW, hsame.mono (by decide) (by decide)⟩
  · show Steps p.tables e below (s₁.setTop (mkF m 0 #[.val (.ref va), .val (.int (0 : Int32)), .val (.int cn), .unset, .unset] [])) _
    refine XS.iloadN X0.here hx rfl (hb hby d31_0) rfl ?_
    refine XS.iloadN X0.here hx rfl (hb hby d31_1) rfl ?_
    show Steps p.tables e below (s₁.setTop (mkF m 2 #[.val (.ref va), .val (.int (0 : Int32)), .val (.int cn), .unset, .unset] [(.int cn), (.int (0 : Int32))])) _
    refine st_q1 _ ?_
    refine XS.iloadN X_q1.here hx rfl (hb hby d31_5) rfl ?_
    refine XS.iloadN X_q1.here hx rfl (hb hby d31_6) rfl ?_
    refine XS.isub X_q1.here hx rfl (hb hby d31_7) rfl ?_
    show Steps p.tables e below (T_q1.setTop (mkF m 8 #[.val (.ref va), .val (.int (0 : Int32)), .val (.int cn), .unset, .unset] [(.int (cn - (0 : Int32)))])) _
    rw [own_sub0]
    refine XS.istoreN X_q1.here hx rfl (hb hby d31_8) rfl (l' := #[.val (.ref va), .val (.int (0 : Int32)), .val (.int cn), .val (.int cn), .unset]) rfl ?_
    refine XS.iloadN X_q1.here hx rfl (hb hby d31_9) rfl ?_
    show Steps p.tables e below (T_q1.setTop (mkF m 10 #[.val (.ref va), .val (.int (0 : Int32)), .val (.int cn), .val (.int cn), .unset] [(.int cn)])) _
    refine st_q3 _ ?_
    refine XS.astore X_q3.here hx rfl (hb hby d31_12) rfl rfl (l' := #[.val (.ref va), .val (.int (0 : Int32)), .val (.int cn), .val (.int cn), .val (.ref b_q3)]) rfl ?_
    refine XS.aloadN X_q3.here hx rfl (hb hby d31_14) rfl rfl ?_
    refine XS.iloadN X_q3.here hx rfl (hb hby d31_15) rfl ?_
    show Steps p.tables e below (T_q3.setTop (mkF m 16 #[.val (.ref va), .val (.int (0 : Int32)), .val (.int cn), .val (.int cn), .val (.ref b_q3)] [(.int (0 : Int32)), (.ref va)])) _
    refine XS.aload X_q3.here hx rfl (hb hby d31_16) rfl rfl ?_
    refine XS.iconst X_q3.here hx rfl (hb hby d31_18) ?_
    refine XS.aloadN X_q3.here hx rfl (hb hby d31_19) rfl rfl ?_
    show Steps p.tables e below (T_q3.setTop (mkF m 20 #[.val (.ref va), .val (.int (0 : Int32)), .val (.int cn), .val (.int cn), .val (.ref b_q3)] [(.ref va), (.int (0 : Int32)), (.ref b_q3), (.int (0 : Int32)), (.ref va)])) _
    refine X_q3.arraylength hx (by rw [e_q3]; exact Ar_q6.1) (State.isArrayOf_alike hZ.alike Ar_q6.2.1) (g := (mkF m 20 #[.val (.ref va), .val (.int (0 : Int32)), .val (.int cn), .val (.int cn), .val (.ref b_q3)] [(.ref va), (.int (0 : Int32)), (.ref b_q3), (.int (0 : Int32)), (.ref va)])) rfl rfl (hb hby d31_20) _ ?_
    rw [len_of S_q6 Nn_q6]
    refine XS.iloadN X_q3.here hx rfl (hb hby d31_21) rfl ?_
    refine XS.isub X_q3.here hx rfl (hb hby d31_22) rfl ?_
    show Steps p.tables e below (T_q3.setTop (mkF m 23 #[.val (.ref va), .val (.int (0 : Int32)), .val (.int cn), .val (.int cn), .val (.ref b_q3)] [(.int (zl - (0 : Int32))), (.int (0 : Int32)), (.ref b_q3), (.int (0 : Int32)), (.ref va)])) _
    rw [own_sub0]
    refine XS.iloadN X_q3.here hx rfl (hb hby d31_23) rfl ?_
    show Steps p.tables e below (T_q3.setTop (mkF m 24 #[.val (.ref va), .val (.int (0 : Int32)), .val (.int cn), .val (.int cn), .val (.ref b_q3)] [(.int cn), (.int zl), (.int (0 : Int32)), (.ref b_q3), (.int (0 : Int32)), (.ref va)])) _
    refine st_q8 _ ?_
    show Steps p.tables e below (T_q8.setTop (mkF m 27 #[.val (.ref va), .val (.int (0 : Int32)), .val (.int cn), .val (.int cn), .val (.ref b_q3)] [(.int (F14_0 zl cn)), (.int (0 : Int32)), (.ref b_q3), (.int (0 : Int32)), (.ref va)])) _
    rw [hc_q7]
    show Steps p.tables e below (T_q8.setTop (mkF m 27 #[.val (.ref va), .val (.int (0 : Int32)), .val (.int cn), .val (.int cn), .val (.ref b_q3)] [(.int cn), (.int (0 : Int32)), (.ref b_q3), (.int (0 : Int32)), (.ref va)])) _
    refine st_q9 _ ?_
    refine XS.aload X_q9.here hx rfl (hb hby d31_30) rfl rfl ?_
    show Steps p.tables e below (T_q9.setTop (mkF m 32 #[.val (.ref va), .val (.int (0 : Int32)), .val (.int cn), .val (.int cn), .val (.ref b_q3)] [(.ref b_q3)])) _
    jvm_step X_q9.here [X_q9.here.top, hx, (hb hby d31_32), X_q9.method', Bd.returns, Value.isRef, FieldType.isReference]
    first | (intro acts; rw [hr _ acts rfl rfl rfl]) | rw [hr _ _ rfl rfl rfl]
    exact Steps.refl _
  · show Q_rmCB Z va k1 zl lv cn h0 n0 _ T_q9.heap _
    rw [e_q9]
    exact ⟨b_q3, k_q3, rfl, N_q9, K_q9, sz_b_q3, V_b_q3__q9, EX_q3__q9⟩
theorem d21_10 : decode jdk_65_method_132_code 10 = .ok (.aload_n 0, 1) := by decide +kernel
theorem d21_11 : decode jdk_65_method_132_code 11 = .ok (.iload_n 1, 1) := by decide +kernel
theorem d21_12 : decode jdk_65_method_132_code 12 = .ok (.iload_n 2, 1) := by decide +kernel
theorem d21_13 : decode jdk_65_method_132_code 13 = .ok (.invokestatic 339, 3) := by decide +kernel
theorem d21_16 : decode jdk_65_method_132_code 16 = .ok (.areturn, 1) := by decide +kernel
def Q_rmCRr (Z : State) (va : Addr) (k1 : ClassId) (zl : Int32) (lv : List Value) (cn : Int32) (h0 : Heap) (n0 : Nat) (v : Option Value) (h : Heap) (L : List Loc) : Prop := ∃ (r1 : Addr) (kr1 : ClassId), v = some (.ref r1) ∧ Fr n0 L ∧ Keep h0 h [] ∧ h0.size ≤ r1 ∧ Arv Z h r1 kr1 .byte cn (own_cp lv (cn).toNatClampNeg (cn).toNatClampNeg) (.int (0 : Int32)) ∧ Exa Z h r1 "[B"
set_option maxRecDepth 65536 in
set_option maxHeartbeats 40000000 in
theorem rmCRr (l : Launch) (Z : State) (a0 : Array Value) (hw : ∀ d ∈ tables_1, d.before a0 Z = true) (ws : List Jvm.Cond) (va : Addr) (k1 : ClassId) (zl : Int32) (lv : List Value) (cn : Int32) (h0 : Heap) (n0 : Nat) (Z0 : n0 ≤ h0.size) (V_va : Arv Z h0 va k1 .byte zl lv (.int (0 : Int32))) (EX_va : Exa Z h0 va "[B") (hc_q2 : ¬ (cn = zl)) (hc_q4 : ¬ (cn < (0 : Int32))) (hc_q5 : ¬ (cn) < 0) (hc_q6 : (cn).toNatClampNeg ≤ 12) (hc_q7 : (F14_0 zl cn) = cn) (hc_q8 : (cn).toNatClampNeg ≤ (zl).toNatClampNeg) :
    MetFree l (⟨"java/util/Arrays", "copyOfRange", "([BII)[B"⟩ : MethodName) (head1 (Jvm.Cond.code (⟨"java/util/Arrays", "copyOfRange", "([BII)[B"⟩ : MethodName) jdk_65_method_132_code 3 (some (.array .byte)) :: ws) ({ frames := 2, cells := 1, slots := 12, locals := 78 } : Room)) (fun a U => a = #[(.ref va), (.int (0 : Int32)), (.int cn)] ∧ Z.Warmed39 U.vm ∧ U.heap = h0) (fun _ _ _ _ _ => True) (fun _ U o U' => ∃ v L, o = .returned v ∧ Q_rmCRr Z va k1 zl lv cn h0 n0 v U'.heap L ∧ FrameEnd U o U' L ({ frames := 2, cells := 1, slots := 12, locals := 78 } : Room).cells ({ frames := 2, cells := 1, slots := 12, locals := 78 } : Room).slots) := by
  refine MetFree.of_bodySF (plainFor_of_name pn_21) hisR ?_
  intro p e s m args below meth c s₁ Bd hml0 hP hK
  obtain ⟨rfl, hZ, hh⟩ := hP
  have hx := Bd.exec
  have hby := Bd.bytes
  have hml : c.maxLocals = 3 := hml0
  have hown : s.vm.findClass "java/util/Arrays" = some m.cls := findClass_of_methodNamed Bd.named
  have hnm := (name_of_methodNamed Bd.named Bd.method).1
  have X0 : Stand p l e ({ frames := 2, cells := 1, slots := 12, locals := 78 } : Room) s m #[(.ref va), (.int (0 : Int32)), (.int cn)] below meth c s₁ [] 0 0 := Stand.of_body Bd
  have e0 : s₁.heap = h0 := by rw [← hh, Bd.state]; rfl
  have N0 := Fr.nil n0
  have pre0 : ∀ t, Steps p.tables e below (s₁.setTop (mkF m 0 #[.val (.ref va), .val (.int (0 : Int32)), .val (.int cn)] [])) t → Steps p.tables e below (s₁.setTop (entryFrame m #[(.ref va), (.int (0 : Int32)), (.int cn)] 3)) t := fun t k => castTop (ef_21 m va (0 : Int32) cn) k
  have K0 : Keep h0 h0 [] := Keep.refl _ _
  obtain ⟨cl_q1, Ar_q1, qk_q1, S_q1, Nn_q1, H_q1, G_q1⟩ := id V_va
  obtain ⟨_, _, ⟨T_q3, L_q3, k_q3, n_q3⟩, -, X_q3, ⟨Lc_q3, hQ_q3, l_q3, y_q3, z_q3⟩, st_q3⟩ := Jvm.LawKit.callS X0 hx (y := (⟨"java/util/Arrays", "copyOfRangeByte", "([BII)[B"⟩ : MethodName)) hown (mvT hZ (own_w hw 164 rfl)) (mvT hZ (own_w hw 165 rfl)) (mvT hZ (own_w hw 69 rfl)) (mvT hZ (own_w hw 166 rfl)) (by decide) (backOf (W := 0) (rmCB l Z a0 hw [] va k1 zl lv cn h0 n0 (Nat.le_trans Z0 K0.1) V_va EX_va hc_q4 hc_q5 hc_q6 hc_q7 hc_q8) hZ (own_w hw 166 rfl) (own_w hw 69 rfl) (by decide) (by decide)) (g := (mkF m 13 #[.val (.ref va), .val (.int (0 : Int32)), .val (.int cn)] [(.int cn), (.int (0 : Int32)), (.ref va)])) rfl (by rw [hml]; rfl) (argsL := [(.ref va), (.int (0 : Int32)), (.int cn)]) (rest := []) (lenOf pd___BII__B rfl) rfl (by show 2 * 0 + _ ≤ _; exact Nat.le_of_eq rfl) (hb hby d21_13) (fun _ _ => ⟨rfl, e0, (by decide : 0 + 1 ≤ _), (by decide : 0 + 12 ≤ _)⟩)
  dsimp only [Pt.U, Pt.locs, Pt.cells, Pt.slots] at X_q3 l_q3 y_q3 z_q3 st_q3 hQ_q3
  subst l_q3 y_q3 z_q3
  obtain ⟨r1_q3, kr1_q3, rfl, Nq_q3, Kq_q3, sz0_r1_q3, O0_q3, O1_q3⟩ := hQ_q3
  have N_q3 := Fr.app N0 Nq_q3
  have sz_r1_q3 : h0.size ≤ r1_q3 := Nat.le_trans K0.1 sz0_r1_q3
  have K_q3 : Keep h0 T_q3.heap [] := K0.trans Kq_q3 all0
  obtain ⟨fs, hr, hrun, hended, hW, hsame⟩ := X_q3.leave (v := some (.ref r1_q3)) (fun h => by rw [Bd.returns] at h; cases h) Bd.notSynchronized
  refine ⟨_, _, pre0 _ ?_, hrun, hended, _, _, rfl, ?_, ⟨_, rfl⟩, hW, hsame.mono (by decide) (by decide)⟩
  · show Steps p.tables e below (s₁.setTop (mkF m 0 #[.val (.ref va), .val (.int (0 : Int32)), .val (.int cn)] [])) _
    refine XS.iloadN X0.here hx rfl (hb hby d21_0) rfl ?_
    refine XS.ifNo X0.here hx rfl (hb hby d21_1) rfl ((if0 _ _).trans (teq (by decide : (0 : Int32) = (0 : Int32))).2) ?_
    refine XS.iloadN X0.here hx rfl (hb hby d21_4) rfl ?_
    refine XS.aloadN X0.here hx rfl (hb hby d21_5) rfl rfl ?_
    show Steps p.tables e below (s₁.setTop (mkF m 6 #[.val (.ref va), .val (.int (0 : Int32)), .val (.int cn)] [(.ref va), (.int cn)])) _
    refine X0.arraylength hx (by rw [e0]; exact Ar_q1.1) (State.isArrayOf_alike hZ.alike Ar_q1.2.1) (g := (mkF m 6 #[.val (.ref va), .val (.int (0 : Int32)), .val (.int cn)] [(.ref va), (.int cn)])) rfl rfl (hb hby d21_6) _ ?_
    rw [len_of S_q1 Nn_q1]
    refine XS.icmpNo X0.here hx rfl (hb hby d21_7) rfl (feq hc_q2).1 ?_
    refine XS.aloadN X0.here hx rfl (hb hby d21_10) rfl rfl ?_
    refine XS.iloadN X0.here hx rfl (hb hby d21_11) rfl ?_
    show Steps p.tables e below (s₁.setTop (mkF m 12 #[.val (.ref va), .val (.int (0 : Int32)), .val (.int cn)] [(.int (0 : Int32)), (.ref va)])) _
    refine XS.iloadN X0.here hx rfl (hb hby d21_12) rfl ?_
    show Steps p.tables e below (s₁.setTop (mkF m 13 #[.val (.ref va), .val (.int (0 : Int32)), .val (.int cn)] [(.int cn), (.int (0 : Int32)), (.ref va)])) _
    refine st_q3 _ ?_
    show Steps p.tables e below (T_q3.setTop (mkF m 16 #[.val (.ref va), .val (.int (0 : Int32)), .val (.int cn)] [(.ref r1_q3)])) _
    jvm_step X_q3.here [X_q3.here.top, hx, (hb hby d21_16), X_q3.method', Bd.returns, Value.isRef, FieldType.isReference]
    first | (intro acts; rw [hr _ acts rfl rfl rfl]) | rw [hr _ _ rfl rfl rfl]
    exact Steps.refl _
  · show Q_rmCRr Z va k1 zl lv cn h0 n0 _ T_q3.heap _
    exact ⟨r1_q3, kr1_q3, rfl, N_q3, K_q3, sz_r1_q3, O0_q3, O1_q3⟩
def Q_rmS2r (Z : State) (a1 a2 : Addr) (va : Addr) (k1 : ClassId) (zl : Int32) (lv : List Value) (cn : Int32) (cs : Int32) (h0 : Heap) (n0 : Nat) (v : Option Value) (h : Heap) (L : List Loc) : Prop := ∃ (r1 : Addr) (kr1 : ClassId), v = none ∧ Fr n0 L ∧ Keep h0 h [a1] ∧ h0.size ≤ r1 ∧ Fld Z h a1 "java/lang/String" "value" "[B" (.ref r1) ∧ Fld Z h a1 "java/lang/String" "coder" "B" (.int (0 : Int32)) ∧ Arv Z h r1 kr1 .byte cn (own_cp lv (cn).toNatClampNeg (cn).toNatClampNeg) (.int (0 : Int32)) ∧ Exa Z h r1 "[B"
set_option maxRecDepth 65536 in
set_option maxHeartbeats 40000000 in
theorem rmS2r (l : Launch) (Z : State) (a0 : Array Value) (hw : ∀ d ∈ tables_1, d.before a0 Z = true) (ws : List Jvm.Cond) (a1 a2 : Addr) (va : Addr) (k1 : ClassId) (zl : Int32) (lv : List Value) (cn : Int32) (cs : Int32) (h0 : Heap) (n0 : Nat) (Z0 : n0 ≤ h0.size) (EX_a1 : Exa Z h0 a1 "java/lang/String") (F_value_a1 : Fld Z h0 a1 "java/lang/String" "value" "[B" .null) (F_coder_a1 : Fld Z h0 a1 "java/lang/String" "coder" "B" (.int (0 : Int32))) (EX_a2 : Exa Z h0 a2 "java/lang/StringBuilder") (F_value_a2 : Fld Z h0 a2 "java/lang/AbstractStringBuilder" "value" "[B" (.ref va)) (F_coder_a2 : Fld Z h0 a2 "java/lang/AbstractStringBuilder" "coder" "B" (.int (0 : Int32))) (F_count_a2 : Fld Z h0 a2 "java/lang/AbstractStringBuilder" "count" "I" (.int cn)) (V_va : Arv Z h0 va k1 .byte zl lv (.int (0 : Int32))) (EX_va : Exa Z h0 va "[B") (S_COMPACT_STRINGS : Sta Z h0 "java/lang/String" "COMPACT_STRINGS" "Z" (.int cs)) (ge_a1 : n0 ≤ a1) (ne_a2_a1 : a2 ≠ a1) (ne_va_a1 : va ≠ a1) (hc_q5 : ¬ (cs = (0 : Int32))) (hc_q8 : ¬ (cn = zl)) (hc_q9 : ¬ (cn < (0 : Int32))) (hc_q10 : ¬ (cn) < 0) (hc_q11 : (cn).toNatClampNeg ≤ 12) (hc_q12 : (F14_0 zl cn) = cn) (hc_q13 : (cn).toNatClampNeg ≤ (zl).toNatClampNeg) :
    MetFree l (⟨"java/lang/String", "<init>", "(Ljava/lang/AbstractStringBuilder;Ljava/lang/Void;)V"⟩ : MethodName) (head1 (Jvm.Cond.code (⟨"java/lang/String", "<init>", "(Ljava/lang/AbstractStringBuilder;Ljava/lang/Void;)V"⟩ : MethodName) jdk_42_method_150_code 5 none :: ws) ({ frames := 3, cells := 1, slots := 12, locals := 95 } : Room)) (fun a U => a = #[(.ref a1), (.ref a2), .null] ∧ Z.Warmed39 U.vm ∧ U.heap = h0) (fun _ _ _ _ _ => True) (fun _ U o U' => ∃ v L, o = .returned v ∧ Q_rmS2r Z a1 a2 va k1 zl lv cn cs h0 n0 v U'.heap L ∧ FrameEnd U o U' L ({ frames := 3, cells := 1, slots := 12, locals := 95 } : Room).cells ({ frames := 3, cells := 1, slots := 12, locals := 95 } : Room).slots) := by
  refine MetFree.of_bodySF (plainFor_of_name pn_17) hisR ?_
  intro p e s m args below meth c s₁ Bd hml0 hP hK
  obtain ⟨rfl, hZ, hh⟩ := hP
  have hx := Bd.exec
  have hby := Bd.bytes
  have hml : c.maxLocals = 5 := hml0
  have hown : s.vm.findClass "java/lang/String" = some m.cls := findClass_of_methodNamed Bd.named
  have hnm := (name_of_methodNamed Bd.named Bd.method).1
  have X0 : Stand p l e ({ frames := 3, cells := 1, slots := 12, locals := 95 } : Room) s m #[(.ref a1), (.ref a2), .null] below meth c s₁ [] 0 0 := Stand.of_body Bd
  have e0 : s₁.heap = h0 := by rw [← hh, Bd.state]; rfl
  have N0 := Fr.nil n0
  have pre0 : ∀ t, Steps p.tables e below (s₁.setTop (mkF m 0 #[.val (.ref a1), .val (.ref a2), .val .null, .unset, .unset] [])) t → Steps p.tables e below (s₁.setTop (entryFrame m #[(.ref a1), (.ref a2), .null] 5)) t := fun t k => castTop (ef_17 m a1 a2) k
  have K0 : Keep h0 h0 [a1] := Keep.refl _ _
  obtain ⟨T_q1, X_q1, e_q1, st_q1⟩ := initO X0 hx hZ hown (own_w hw 94 rfl) (own_w hw 18 rfl) (own_w hw 19 rfl) e0 (g := (mkF m 1 #[.val (.ref a1), .val (.ref a2), .val .null, .unset, .unset] [(.ref a1)])) rfl (by rw [hml]; rfl) rfl (hb hby d17_1) (by decide) (W := 0) (by show 2 * 0 + _ ≤ _; exact Nat.le_of_eq rfl) (by decide)
  obtain ⟨cq_q2, kq_q2, qa_q2, qb_q2, qc_q2⟩ := isOf hZ e_q1 EX_a2
  obtain ⟨_, _, ⟨T_q2, L_q2, k_q2, n_q2⟩, -, X_q2, ⟨Lc_q2, hQ_q2, l_q2, y_q2, z_q2⟩, st_q2⟩ := X_q1.virtualBack hx (y := (⟨"java/lang/AbstractStringBuilder", "getValue", "()[B"⟩ : MethodName)) (z := (⟨"java/lang/AbstractStringBuilder", "getValue", "()[B"⟩ : MethodName)) hown (mvT hZ (own_w hw 95 rfl)) (mvT hZ (own_w hw 96 rfl)) (notFace_of_selects (args := #[]) (mvT hZ (own_w hw 98 rfl))) (mvT hZ (own_w hw 98 rfl)) (mvT hZ (own_w hw 97 rfl)) (by decide) (backOf (W := 0) (rmGV l Z a0 hw [] a2 va h0 n0 (Nat.le_trans Z0 K0.1) F_value_a2) hZ (own_w hw 99 rfl) (own_w hw 15 rfl) (by decide) (by decide)) qa_q2 qc_q2 (g := (mkF m 5 #[.val (.ref a1), .val (.ref a2), .val .null, .unset, .unset] [(.ref a2)])) rfl (by rw [hml]; rfl) (Steps.refl _) (argsL := []) (rest := []) (lenOf pd____B rfl) rfl (by show 2 * 0 + _ ≤ _; exact Nat.le_of_eq rfl) (hb hby d17_5) (fun _ _ => ⟨rfl, e_q1, (by decide : 0 + 0 ≤ _), (by decide : 0 + 0 ≤ _)⟩)
  dsimp only [Pt.U, Pt.locs, Pt.cells, Pt.slots] at X_q2 l_q2 y_q2 z_q2 st_q2 hQ_q2
  subst l_q2 y_q2 z_q2
  obtain ⟨rfl, Nq_q2, eq_q2⟩ := hQ_q2
  have Kq_q2 : Keep h0 T_q2.heap [] := by rw [eq_q2]; exact Keep.refl _ _
  have N_q2 := Fr.app N0 Nq_q2
  have EX_a1__q2 := EX_a1.keep Kq_q2
  have F_value_a1__q2 := F_value_a1.keep Kq_q2 nin0
  have F_coder_a1__q2 := F_coder_a1.keep Kq_q2 nin0
  have EX_a2__q2 := EX_a2.keep Kq_q2
  have F_coder_a2__q2 := F_coder_a2.keep Kq_q2 nin0
  have F_count_a2__q2 := F_count_a2.keep Kq_q2 nin0
  have V_va__q2 := V_va.keep Kq_q2 nin0
  have EX_va__q2 := EX_va.keep Kq_q2
  have S_COMPACT_STRINGS__q2 := own_sta_keep S_COMPACT_STRINGS Kq_q2 all0
  have K_q2 : Keep h0 T_q2.heap [a1] := K0.trans Kq_q2 all0
  obtain ⟨cq_q3, kq_q3, qa_q3, qb_q3, qc_q3⟩ := isOf hZ rfl EX_a2__q2
  obtain ⟨_, _, ⟨T_q3, L_q3, k_q3, n_q3⟩, -, X_q3, ⟨Lc_q3, hQ_q3, l_q3, y_q3, z_q3⟩, st_q3⟩ := X_q2.virtualBack hx (y := (⟨"java/lang/AbstractStringBuilder", "length", "()I"⟩ : MethodName)) (z := (⟨"java/lang/StringBuilder", "length", "()I"⟩ : MethodName)) hown (mvT hZ (own_w hw 100 rfl)) (mvT hZ (own_w hw 101 rfl)) (own_nf (y := (⟨"java/lang/AbstractStringBuilder", "length", "()I"⟩ : MethodName)) (y' := ({ cls := "java/lang/AbstractStringBuilder", name := "ensureCapacityInternal", desc := "(I)V" } : Jvm.MethodName)) (args := #[]) rfl (mvT hZ (own_w hw 41 rfl))) (mvT hZ (own_w hw 103 rfl)) (mvT hZ (own_w hw 104 rfl)) (by decide) (backOf (W := 0) (rmSL l Z a0 hw [] a2 cn T_q2.heap n0 (Nat.le_trans Z0 K_q2.1) EX_a2__q2 F_count_a2__q2) hZ (own_w hw 105 rfl) (own_w hw 7 rfl) (by decide) (by decide)) qa_q3 qc_q3 (g := (mkF m 10 #[.val (.ref a1), .val (.ref a2), .val .null, .val (.ref va), .unset] [(.ref a2)])) rfl (by rw [hml]; rfl) (Steps.refl _) (argsL := []) (rest := []) (lenOf pd___I rfl) rfl (by show 2 * 0 + _ ≤ _; exact Nat.le_of_eq rfl) (hb hby d17_10) (fun _ _ => ⟨rfl, rfl, (by decide : 0 + 0 ≤ _), (by decide : 0 + 0 ≤ _)⟩)
  dsimp only [Pt.U, Pt.locs, Pt.cells, Pt.slots] at X_q3 l_q3 y_q3 z_q3 st_q3 hQ_q3
  subst l_q3 y_q3 z_q3
  obtain ⟨rfl, Nq_q3, eq_q3⟩ := hQ_q3
  have Kq_q3 : Keep T_q2.heap T_q3.heap [] := by rw [eq_q3]; exact Keep.refl _ _
  have N_q3 := Fr.app N_q2 Nq_q3
  have EX_a1__q3 := EX_a1__q2.keep Kq_q3
  have F_value_a1__q3 := F_value_a1__q2.keep Kq_q3 nin0
  have F_coder_a1__q3 := F_coder_a1__q2.keep Kq_q3 nin0
  have EX_a2__q3 := EX_a2__q2.keep Kq_q3
  have F_coder_a2__q3 := F_coder_a2__q2.keep Kq_q3 nin0
  have V_va__q3 := V_va__q2.keep Kq_q3 nin0
  have EX_va__q3 := EX_va__q2.keep Kq_q3
  have S_COMPACT_STRINGS__q3 := own_sta_keep S_COMPACT_STRINGS__q2 Kq_q3 all0
  have K_q3 : Keep h0 T_q3.heap [a1] := K_q2.trans Kq_q3 all0
  obtain ⟨cq_q4, kq_q4, qa_q4, qb_q4, qc_q4⟩ := isOf hZ rfl EX_a2__q3
  obtain ⟨_, _, ⟨T_q4, L_q4, k_q4, n_q4⟩, -, X_q4, ⟨Lc_q4, hQ_q4, l_q4, y_q4, z_q4⟩, st_q4⟩ := X_q3.virtualBack hx (y := (⟨"java/lang/AbstractStringBuilder", "isLatin1", "()Z"⟩ : MethodName)) (z := (⟨"java/lang/AbstractStringBuilder", "isLatin1", "()Z"⟩ : MethodName)) hown (mvT hZ (own_w hw 108 rfl)) (mvT hZ (own_w hw 44 rfl)) (notFace_of_selects (args := #[]) (mvT hZ (own_w hw 46 rfl))) (mvT hZ (own_w hw 46 rfl)) (mvT hZ (own_w hw 45 rfl)) (by decide) (backOf (W := 0) (rmL1 l Z a0 hw [] a2 cs T_q3.heap n0 (Nat.le_trans Z0 K_q3.1) F_coder_a2__q3 S_COMPACT_STRINGS__q3 hc_q5) hZ (own_w hw 47 rfl) (own_w hw 15 rfl) (by decide) (by decide)) qa_q4 qc_q4 (g := (mkF m 16 #[.val (.ref a1), .val (.ref a2), .val .null, .val (.ref va), .val (.int cn)] [(.ref a2)])) rfl (by rw [hml]; rfl) (Steps.refl _) (argsL := []) (rest := []) (lenOf pd___Z rfl) rfl (by show 2 * 0 + _ ≤ _; exact Nat.le_of_eq rfl) (hb hby d17_16) (fun _ _ => ⟨rfl, rfl, (by decide : 0 + 0 ≤ _), (by decide : 0 + 0 ≤ _)⟩)
  dsimp only [Pt.U, Pt.locs, Pt.cells, Pt.slots] at X_q4 l_q4 y_q4 z_q4 st_q4 hQ_q4
  subst l_q4 y_q4 z_q4
  obtain ⟨rfl, Nq_q4, eq_q4⟩ := hQ_q4
  have Kq_q4 : Keep T_q3.heap T_q4.heap [] := by rw [eq_q4]; exact Keep.refl _ _
  have N_q4 := Fr.app N_q3 Nq_q4
  have EX_a1__q4 := EX_a1__q3.keep Kq_q4
  have F_value_a1__q4 := F_value_a1__q3.keep Kq_q4 nin0
  have F_coder_a1__q4 := F_coder_a1__q3.keep Kq_q4 nin0
  have V_va__q4 := V_va__q3.keep Kq_q4 nin0
  have EX_va__q4 := EX_va__q3.keep Kq_q4
  have K_q4 : Keep h0 T_q4.heap [a1] := K_q3.trans Kq_q4 all0
  obtain ⟨T_q6, h_q6, X_q6, e_q6, W_q6, st_q6⟩ := putF X_q4 hx hZ hown (host := "") (Or.inl (own_w hw 109 rfl)) Via.refl rfl F_coder_a1__q4 EX_a1__q4 (Or.inr ⟨(own_w hw 110 rfl), rfl, hnm⟩) (own_w hw 86 rfl) (ty := .byte) (by decide) rfl rfl (g := (mkF m 24 #[.val (.ref a1), .val (.ref a2), .val .null, .val (.ref va), .val (.int cn)] [(.int (0 : Int32)), (.ref a1)])) rfl rfl (hb hby d17_24)
  have EX_a1__q6 := EX_a1__q4.wr W_q6
  have F_value_a1__q6 := F_value_a1__q4.other W_q6 (Or.inr (slot_ne (Or.inr (own_w hw 124 rfl)) (Or.inr (own_w hw 110 rfl)) (by decide) (t := (.array .byte)) (t' := .byte) (by decide) (by decide)))
  have V_va__q6 := V_va__q4.other W_q6 ne_va_a1
  have EX_va__q6 := EX_va__q4.wr W_q6
  have F_coder_a1__q6 := F_coder_a1__q4.same W_q6
  have K_q6 : Keep h0 h_q6 [a1] := K_q4.wr W_q6 (Or.inl (List.mem_of_getElem? (i := 0) rfl))
  have N_q6 := Fr.snoc X_q6 N_q4 ge_a1
  obtain ⟨_, _, ⟨T_q7, L_q7, k_q7, n_q7⟩, -, X_q7, ⟨Lc_q7, hQ_q7, l_q7, y_q7, z_q7⟩, st_q7⟩ := Jvm.LawKit.callS X_q6 hx (y := (⟨"java/util/Arrays", "copyOfRange", "([BII)[B"⟩ : MethodName)) hown (mvT hZ (own_w hw 111 rfl)) (mvT hZ (own_w hw 112 rfl)) (mvT hZ (own_w hw 69 rfl)) (mvT hZ (own_w hw 113 rfl)) (by decide) (backOf (W := 1) (rmCRr l Z a0 hw [] va k1 zl lv cn h_q6 n0 (Nat.le_trans Z0 K_q6.1) V_va__q6 EX_va__q6 hc_q8 hc_q9 hc_q10 hc_q11 hc_q12 hc_q13) hZ (own_w hw 113 rfl) (own_w hw 69 rfl) (by decide) (by decide)) (g := (mkF m 32 #[.val (.ref a1), .val (.ref a2), .val .null, .val (.ref va), .val (.int cn)] [(.int cn), (.int (0 : Int32)), (.ref va), (.ref a1)])) rfl (by rw [hml]; rfl) (argsL := [(.ref va), (.int (0 : Int32)), (.int cn)]) (rest := [(.ref a1)]) (lenOf pd___BII__B rfl) rfl (by show 2 * 0 + _ ≤ _; exact Nat.le_of_eq rfl) (hb hby d17_32) (fun _ _ => ⟨rfl, e_q6, (by decide : 0 + 1 ≤ _), (by decide : 0 + 12 ≤ _)⟩)
  dsimp only [Pt.U, Pt.locs, Pt.cells, Pt.slots] at X_q7 l_q7 y_q7 z_q7 st_q7 hQ_q7
  subst l_q7 y_q7 z_q7
  obtain ⟨r1_q7, kr1_q7, rfl, Nq_q7, Kq_q7, sz0_r1_q7, O0_q7, O1_q7⟩ := hQ_q7
  have N_q7 := Fr.app N_q6 Nq_q7
  have sz_r1_q7 : h0.size ≤ r1_q7 := Nat.le_trans K_q6.1 sz0_r1_q7
  have ne_a1_r1_q7 : a1 ≠ r1_q7 := Nat.ne_of_lt (Nat.lt_of_lt_of_le EX_a1__q6.lt sz0_r1_q7)
  have EX_a1__q7 := EX_a1__q6.keep Kq_q7
  have F_value_a1__q7 := F_value_a1__q6.keep Kq_q7 nin0
  have F_coder_a1__q7 := F_coder_a1__q6.keep Kq_q7 nin0
  have K_q7 : Keep h0 T_q7.heap [a1] := K_q6.trans Kq_q7 all0
  obtain ⟨T_q14, h_q14, X_q14, e_q14, W_q14, st_q14⟩ := putF X_q7 hx hZ hown (host := "") (Or.inl (own_w hw 123 rfl)) Via.refl rfl F_value_a1__q7 EX_a1__q7 (Or.inr ⟨(own_w hw 124 rfl), rfl, hnm⟩) (own_w hw 86 rfl) (ty := (.array .byte)) (by decide) rfl rfl (g := (mkF m 35 #[.val (.ref a1), .val (.ref a2), .val .null, .val (.ref va), .val (.int cn)] [(.ref r1_q7), (.ref a1)])) rfl rfl (hb hby d17_35)
  have F_coder_a1__q14 := F_coder_a1__q7.other W_q14 (Or.inr (slot_ne (Or.inr (own_w hw 110 rfl)) (Or.inr (own_w hw 124 rfl)) (by decide) (t := .byte) (t' := (.array .byte)) (by decide) (by decide)))
  have O0_q7__q14 := O0_q7.other W_q14 (Ne.symm ne_a1_r1_q7)
  have O1_q7__q14 := O1_q7.wr W_q14
  have F_value_a1__q14 := F_value_a1__q7.same W_q14
  have K_q14 : Keep h0 h_q14 [a1] := K_q7.wr W_q14 (Or.inl (List.mem_of_getElem? (i := 0) rfl))
  have N_q14 := Fr.snoc X_q14 N_q7 ge_a1
  obtain ⟨fs, hr, hrun, hended, hW, hsame⟩ := X_q14.leave (v := none) (fun _ => rfl) Bd.notSynchronized
  refine ⟨_, _, pre0 _ ?_, hrun, hended, _, _, rfl, ?_, ⟨_, rfl⟩, hW, hsame.mono (by decide) (by decide)⟩
  · show Steps p.tables e below (s₁.setTop (mkF m 0 #[.val (.ref a1), .val (.ref a2), .val .null, .unset, .unset] [])) _
    refine XS.aloadN X0.here hx rfl (hb hby d17_0) rfl rfl ?_
    show Steps p.tables e below (s₁.setTop (mkF m 1 #[.val (.ref a1), .val (.ref a2), .val .null, .unset, .unset] [(.ref a1)])) _
    refine st_q1 _ ?_
    refine XS.aloadN X_q1.here hx rfl (hb hby d17_4) rfl rfl ?_
    show Steps p.tables e below (T_q1.setTop (mkF m 5 #[.val (.ref a1), .val (.ref a2), .val .null, .unset, .unset] [(.ref a2)])) _
    refine st_q2.trans ?_
    refine XS.astoreN X_q2.here hx rfl (hb hby d17_8) rfl rfl (l' := #[.val (.ref a1), .val (.ref a2), .val .null, .val (.ref va), .unset]) rfl ?_
    refine XS.aloadN X_q2.here hx rfl (hb hby d17_9) rfl rfl ?_
    show Steps p.tables e below (T_q2.setTop (mkF m 10 #[.val (.ref a1), .val (.ref a2), .val .null, .val (.ref va), .unset] [(.ref a2)])) _
    refine st_q3.trans ?_
    refine XS.istore X_q3.here hx rfl (hb hby d17_13) rfl (l' := #[.val (.ref a1), .val (.ref a2), .val .null, .val (.ref va), .val (.int cn)]) rfl ?_
    refine XS.aloadN X_q3.here hx rfl (hb hby d17_15) rfl rfl ?_
    show Steps p.tables e below (T_q3.setTop (mkF m 16 #[.val (.ref a1), .val (.ref a2), .val .null, .val (.ref va), .val (.int cn)] [(.ref a2)])) _
    refine st_q4.trans ?_
    refine XS.ifNo X_q4.here hx rfl (hb hby d17_19) rfl ((if0 _ _).trans (feq (by decide : ¬ ((1 : Int32) = (0 : Int32)))).1) ?_
    refine XS.aloadN X_q4.here hx rfl (hb hby d17_22) rfl rfl ?_
    refine XS.iconst X_q4.here hx rfl (hb hby d17_23) ?_
    show Steps p.tables e below (T_q4.setTop (mkF m 24 #[.val (.ref a1), .val (.ref a2), .val .null, .val (.ref va), .val (.int cn)] [(.int (0 : Int32)), (.ref a1)])) _
    refine st_q6 _ ?_
    refine XS.aloadN X_q6.here hx rfl (hb hby d17_27) rfl rfl ?_
    refine XS.aloadN X_q6.here hx rfl (hb hby d17_28) rfl rfl ?_
    refine XS.iconst X_q6.here hx rfl (hb hby d17_29) ?_
    show Steps p.tables e below (T_q6.setTop (mkF m 30 #[.val (.ref a1), .val (.ref a2), .val .null, .val (.ref va), .val (.int cn)] [(.int (0 : Int32)), (.ref va), (.ref a1)])) _
    refine XS.iload X_q6.here hx rfl (hb hby d17_30) rfl ?_
    show Steps p.tables e below (T_q6.setTop (mkF m 32 #[.val (.ref a1), .val (.ref a2), .val .null, .val (.ref va), .val (.int cn)] [(.int cn), (.int (0 : Int32)), (.ref va), (.ref a1)])) _
    refine st_q7 _ ?_
    show Steps p.tables e below (T_q7.setTop (mkF m 35 #[.val (.ref a1), .val (.ref a2), .val .null, .val (.ref va), .val (.int cn)] [(.ref r1_q7), (.ref a1)])) _
    refine st_q14 _ ?_
    refine XS.goto X_q14.here hx rfl (pc0 := 38) (pc' := 97) rfl (hb hby d17_38) (by decide) (by decide) ?_
    show Steps p.tables e below (T_q14.setTop (mkF m 97 #[.val (.ref a1), .val (.ref a2), .val .null, .val (.ref va), .val (.int cn)] [])) _
    exact X_q14.returnOut hx Bd.returns (hb hby d17_97) hr
  · show Q_rmS2r Z a1 a2 va k1 zl lv cn cs h0 n0 _ T_q14.heap _
    rw [e_q14]
    exact ⟨r1_q7, kr1_q7, rfl, N_q14, K_q14, sz_r1_q7, F_value_a1__q14, F_coder_a1__q14, O0_q7__q14, O1_q7__q14⟩
def Q_rmS1r (Z : State) (a1 a2 : Addr) (va : Addr) (k1 : ClassId) (zl : Int32) (lv : List Value) (cn : Int32) (cs : Int32) (h0 : Heap) (n0 : Nat) (v : Option Value) (h : Heap) (L : List Loc) : Prop := ∃ (r1 : Addr) (kr1 : ClassId), v = none ∧ Fr n0 L ∧ Keep h0 h [a1] ∧ h0.size ≤ r1 ∧ Fld Z h a1 "java/lang/String" "value" "[B" (.ref r1) ∧ Fld Z h a1 "java/lang/String" "coder" "B" (.int (0 : Int32)) ∧ Arv Z h r1 kr1 .byte cn (own_cp lv (cn).toNatClampNeg (cn).toNatClampNeg) (.int (0 : Int32)) ∧ Exa Z h r1 "[B"
set_option maxRecDepth 65536 in
set_option maxHeartbeats 40000000 in
theorem rmS1r (l : Launch) (Z : State) (a0 : Array Value) (hw : ∀ d ∈ tables_1, d.before a0 Z = true) (ws : List Jvm.Cond) (a1 a2 : Addr) (va : Addr) (k1 : ClassId) (zl : Int32) (lv : List Value) (cn : Int32) (cs : Int32) (h0 : Heap) (n0 : Nat) (Z0 : n0 ≤ h0.size) (EX_a1 : Exa Z h0 a1 "java/lang/String") (F_value_a1 : Fld Z h0 a1 "java/lang/String" "value" "[B" .null) (F_coder_a1 : Fld Z h0 a1 "java/lang/String" "coder" "B" (.int (0 : Int32))) (EX_a2 : Exa Z h0 a2 "java/lang/StringBuilder") (F_value_a2 : Fld Z h0 a2 "java/lang/AbstractStringBuilder" "value" "[B" (.ref va)) (F_coder_a2 : Fld Z h0 a2 "java/lang/AbstractStringBuilder" "coder" "B" (.int (0 : Int32))) (F_count_a2 : Fld Z h0 a2 "java/lang/AbstractStringBuilder" "count" "I" (.int cn)) (V_va : Arv Z h0 va k1 .byte zl lv (.int (0 : Int32))) (EX_va : Exa Z h0 va "[B") (S_COMPACT_STRINGS : Sta Z h0 "java/lang/String" "COMPACT_STRINGS" "Z" (.int cs)) (ge_a1 : n0 ≤ a1) (ne_a2_a1 : a2 ≠ a1) (ne_va_a1 : va ≠ a1) (hc_q2 : ¬ (cs = (0 : Int32))) (hc_q3 : ¬ (cn = zl)) (hc_q4 : ¬ (cn < (0 : Int32))) (hc_q5 : ¬ (cn) < 0) (hc_q6 : (cn).toNatClampNeg ≤ 12) (hc_q7 : (F14_0 zl cn) = cn) (hc_q8 : (cn).toNatClampNeg ≤ (zl).toNatClampNeg) :
    MetFree l (⟨"java/lang/String", "<init>", "(Ljava/lang/StringBuilder;)V"⟩ : MethodName) (head1 (Jvm.Cond.code (⟨"java/lang/String", "<init>", "(Ljava/lang/StringBuilder;)V"⟩ : MethodName) jdk_42_method_53_code 2 none :: ws) ({ frames := 4, cells := 1, slots := 12, locals := 113 } : Room)) (fun a U => a = #[(.ref a1), (.ref a2)] ∧ Z.Warmed39 U.vm ∧ U.heap = h0) (fun _ _ _ _ _ => True) (fun _ U o U' => ∃ v L, o = .returned v ∧ Q_rmS1r Z a1 a2 va k1 zl lv cn cs h0 n0 v U'.heap L ∧ FrameEnd U o U' L ({ frames := 4, cells := 1, slots := 12, locals := 113 } : Room).cells ({ frames := 4, cells := 1, slots := 12, locals := 113 } : Room).slots) := by
  refine MetFree.of_bodySF (plainFor_of_name pn_16) hisR ?_
  intro p e s m args below meth c s₁ Bd hml0 hP hK
  obtain ⟨rfl, hZ, hh⟩ := hP
  have hx := Bd.exec
  have hby := Bd.bytes
  have hml : c.maxLocals = 2 := hml0
  have hown : s.vm.findClass "java/lang/String" = some m.cls := findClass_of_methodNamed Bd.named
  have hnm := (name_of_methodNamed Bd.named Bd.method).1
  have X0 : Stand p l e ({ frames := 4, cells := 1, slots := 12, locals := 113 } : Room) s m #[(.ref a1), (.ref a2)] below meth c s₁ [] 0 0 := Stand.of_body Bd
  have e0 : s₁.heap = h0 := by rw [← hh, Bd.state]; rfl
  have N0 := Fr.nil n0
  have pre0 : ∀ t, Steps p.tables e below (s₁.setTop (mkF m 0 #[.val (.ref a1), .val (.ref a2)] [])) t → Steps p.tables e below (s₁.setTop (entryFrame m #[(.ref a1), (.ref a2)] 2)) t := fun t k => castTop (ef_16 m a1 a2) k
  have K0 : Keep h0 h0 [a1] := Keep.refl _ _
  obtain ⟨_, _, ⟨T_q1, L_q1, k_q1, n_q1⟩, -, X_q1, ⟨Lc_q1, hQ_q1, l_q1, y_q1, z_q1⟩, st_q1⟩ := X0.specialBack hx (y := (⟨"java/lang/String", "<init>", "(Ljava/lang/AbstractStringBuilder;Ljava/lang/Void;)V"⟩ : MethodName)) rfl hown (mvT hZ (own_w hw 91 rfl)) (mvT hZ (own_w hw 92 rfl)) (mvT hZ (own_w hw 93 rfl)) (by decide) (backOf (W := 0) (rmS2r l Z a0 hw [] a1 a2 va k1 zl lv cn cs h0 n0 (Nat.le_trans Z0 K0.1) EX_a1 F_value_a1 F_coder_a1 EX_a2 F_value_a2 F_coder_a2 F_count_a2 V_va EX_va S_COMPACT_STRINGS ge_a1 ne_a2_a1 ne_va_a1 hc_q2 hc_q3 hc_q4 hc_q5 hc_q6 hc_q7 hc_q8) hZ (own_w hw 93 rfl) (own_w hw 21 rfl) (by decide) (by decide)) (g := (mkF m 3 #[.val (.ref a1), .val (.ref a2)] [.null, (.ref a2), (.ref a1)])) rfl (by rw [hml]; rfl) (Steps.refl _) (a := a1) (argsL := [(.ref a2), .null]) (rest := []) (lenOf pd__Ljava_lang_AbstractStringBuilder_Ljava_lang_Void__V rfl) rfl (by show 2 * 0 + _ ≤ _; exact Nat.le_of_eq rfl) (hb hby d16_3) (fun _ _ => ⟨rfl, e0, (by decide : 0 + 1 ≤ _), (by decide : 0 + 12 ≤ _)⟩)
  dsimp only [Pt.U, Pt.locs, Pt.cells, Pt.slots] at X_q1 l_q1 y_q1 z_q1 st_q1 hQ_q1
  subst l_q1 y_q1 z_q1
  obtain ⟨r1_q1, kr1_q1, rfl, Nq_q1, Kq_q1, sz0_r1_q1, O0_q1, O1_q1, O2_q1, O3_q1⟩ := hQ_q1
  have N_q1 := Fr.app N0 Nq_q1
  have sz_r1_q1 : h0.size ≤ r1_q1 := Nat.le_trans K0.1 sz0_r1_q1
  have K_q1 : Keep h0 T_q1.heap [a1] := K0.trans Kq_q1 (allS (Or.inl (List.mem_of_getElem? (i := 0) rfl)) all0)
  obtain ⟨fs, hr, hrun, hended, hW, hsame⟩ := X_q1.leave (v := none) (fun _ => rfl) Bd.notSynchronized
  refine ⟨_, _, pre0 _ ?_, hrun, hended, _, _, rfl, ?_, ⟨_, rfl⟩, hW, hsame.mono (by decide) (by decide)⟩
  · show Steps p.tables e below (s₁.setTop (mkF m 0 #[.val (.ref a1), .val (.ref a2)] [])) _
    refine XS.aloadN X0.here hx rfl (hb hby d16_0) rfl rfl ?_
    refine XS.aloadN X0.here hx rfl (hb hby d16_1) rfl rfl ?_
    refine XS.aconstNull X0.here hx rfl (hb hby d16_2) ?_
    show Steps p.tables e below (s₁.setTop (mkF m 3 #[.val (.ref a1), .val (.ref a2)] [.null, (.ref a2), (.ref a1)])) _
    refine st_q1.trans ?_
    show Steps p.tables e below (T_q1.setTop (mkF m 6 #[.val (.ref a1), .val (.ref a2)] [])) _
    exact X_q1.returnOut hx Bd.returns (hb hby d16_6) hr
  · show Q_rmS1r Z a1 a2 va k1 zl lv cn cs h0 n0 _ T_q1.heap _
    exact ⟨r1_q1, kr1_q1, rfl, N_q1, K_q1, sz_r1_q1, O0_q1, O1_q1, O2_q1, O3_q1⟩
def Q_rmTSr (Z : State) (a2 : Addr) (va : Addr) (k1 : ClassId) (zl : Int32) (lv : List Value) (cn : Int32) (cs : Int32) (h0 : Heap) (n0 : Nat) (v : Option Value) (h : Heap) (L : List Loc) : Prop := ∃ (r1 : Addr) (r2 : Addr) (kr2 : ClassId), v = some (.ref r1) ∧ Fr n0 L ∧ Keep h0 h [] ∧ h0.size ≤ r1 ∧ h0.size ≤ r2 ∧ Exa Z h r1 "java/lang/String" ∧ Fld Z h r1 "java/lang/String" "value" "[B" (.ref r2) ∧ Fld Z h r1 "java/lang/String" "coder" "B" (.int (0 : Int32)) ∧ Arv Z h r2 kr2 .byte cn (own_cp lv (cn).toNatClampNeg (cn).toNatClampNeg) (.int (0 : Int32)) ∧ Exa Z h r2 "[B"
set_option maxRecDepth 65536 in
set_option maxHeartbeats 40000000 in
theorem rmTSr (l : Launch) (Z : State) (a0 : Array Value) (hw : ∀ d ∈ tables_1, d.before a0 Z = true) (ws : List Jvm.Cond) (a2 : Addr) (va : Addr) (k1 : ClassId) (zl : Int32) (lv : List Value) (cn : Int32) (cs : Int32) (h0 : Heap) (n0 : Nat) (Z0 : n0 ≤ h0.size) (EX_a2 : Exa Z h0 a2 "java/lang/StringBuilder") (F_value_a2 : Fld Z h0 a2 "java/lang/AbstractStringBuilder" "value" "[B" (.ref va)) (F_coder_a2 : Fld Z h0 a2 "java/lang/AbstractStringBuilder" "coder" "B" (.int (0 : Int32))) (F_count_a2 : Fld Z h0 a2 "java/lang/AbstractStringBuilder" "count" "I" (.int cn)) (V_va : Arv Z h0 va k1 .byte zl lv (.int (0 : Int32))) (EX_va : Exa Z h0 va "[B") (S_COMPACT_STRINGS : Sta Z h0 "java/lang/String" "COMPACT_STRINGS" "Z" (.int cs)) (hc_q3 : ¬ (cs = (0 : Int32))) (hc_q4 : ¬ (cn = zl)) (hc_q5 : ¬ (cn < (0 : Int32))) (hc_q6 : ¬ (cn) < 0) (hc_q7 : (cn).toNatClampNeg ≤ 12) (hc_q8 : (F14_0 zl cn) = cn) (hc_q9 : (cn).toNatClampNeg ≤ (zl).toNatClampNeg) :
    MetFree l (⟨"java/lang/StringBuilder", "toString", "()Ljava/lang/String;"⟩ : MethodName) (head1 (Jvm.Cond.code (⟨"java/lang/StringBuilder", "toString", "()Ljava/lang/String;"⟩ : MethodName) jdk_67_method_42_code 1 (some (.object "java/lang/String")) :: ws) ({ frames := 5, cells := 2, slots := 16, locals := 129 } : Room)) (fun a U => a = #[(.ref a2)] ∧ Z.Warmed39 U.vm ∧ U.heap = h0) (fun _ _ _ _ _ => True) (fun _ U o U' => ∃ v L, o = .returned v ∧ Q_rmTSr Z a2 va k1 zl lv cn cs h0 n0 v U'.heap L ∧ FrameEnd U o U' L ({ frames := 5, cells := 2, slots := 16, locals := 129 } : Room).cells ({ frames := 5, cells := 2, slots := 16, locals := 129 } : Room).slots) := by
  refine MetFree.of_bodySF (plainFor_of_name pn_15) hisR ?_
  intro p e s m args below meth c s₁ Bd hml0 hP hK
  obtain ⟨rfl, hZ, hh⟩ := hP
  have hx := Bd.exec
  have hby := Bd.bytes
  have hml : c.maxLocals = 1 := hml0
  have hown : s.vm.findClass "java/lang/StringBuilder" = some m.cls := findClass_of_methodNamed Bd.named
  have hnm := (name_of_methodNamed Bd.named Bd.method).1
  have X0 : Stand p l e ({ frames := 5, cells := 2, slots := 16, locals := 129 } : Room) s m #[(.ref a2)] below meth c s₁ [] 0 0 := Stand.of_body Bd
  have e0 : s₁.heap = h0 := by rw [← hh, Bd.state]; rfl
  have N0 := Fr.nil n0
  have pre0 : ∀ t, Steps p.tables e below (s₁.setTop (mkF m 0 #[.val (.ref a2)] [])) t → Steps p.tables e below (s₁.setTop (entryFrame m #[(.ref a2)] 1)) t := fun t k => castTop (ef_15 m a2) k
  have K0 : Keep h0 h0 [] := Keep.refl _ _
  obtain ⟨T_q1, h_q1, X_q1, e_q1, E_q1, EX_q1, D_q1, -, st_q1⟩ := newO X0 hx hZ hown (own_w hw 85 rfl) (own_w hw 86 rfl) (own_w hw 21 rfl) e0 (g := (mkF m 0 #[.val (.ref a2)] [])) rfl (hb hby d15_0) (by decide) (by decide)
  obtain ⟨b_q1, g_q1⟩ : ∃ z, z = h0.size := ⟨_, rfl⟩
  rw [← g_q1] at EX_q1 D_q1 st_q1
  have ne_a2_b_q1 : a2 ≠ b_q1 := Nat.ne_of_lt (Nat.lt_of_lt_of_le EX_a2.lt (Nat.le_of_eq g_q1.symm))
  have ne_va_b_q1 : va ≠ b_q1 := Nat.ne_of_lt (Nat.lt_of_lt_of_le V_va.lt (Nat.le_of_eq g_q1.symm))
  have ge_b_q1 : n0 ≤ b_q1 := Nat.le_trans (Nat.le_trans Z0 K0.1) (Nat.le_of_eq g_q1.symm)
  have sz_b_q1 : h0.size ≤ b_q1 := Nat.le_trans K0.1 (Nat.le_of_eq g_q1.symm)
  have K_q1 : Keep h0 h_q1 [] := K0.ext E_q1
  have EX_a2__q1 := EX_a2.ext E_q1
  have F_value_a2__q1 := F_value_a2.ext E_q1
  have F_coder_a2__q1 := F_coder_a2.ext E_q1
  have F_count_a2__q1 := F_count_a2.ext E_q1
  have V_va__q1 := V_va.ext E_q1
  have EX_va__q1 := EX_va.ext E_q1
  have S_COMPACT_STRINGS__q1 := S_COMPACT_STRINGS.ext E_q1
  have F_coder_b_q1 : Fld Z h_q1 b_q1 "java/lang/String" "coder" "B" (.int (0 : Int32)) := D_q1 (Or.inr (own_w hw 110 rfl)) (ty := .byte) (by decide)
  have F_value_b_q1 : Fld Z h_q1 b_q1 "java/lang/String" "value" "[B" .null := D_q1 (Or.inr (own_w hw 124 rfl)) (ty := (.array .byte)) (by decide)
  obtain ⟨_, _, ⟨T_q2, L_q2, k_q2, n_q2⟩, -, X_q2, ⟨Lc_q2, hQ_q2, l_q2, y_q2, z_q2⟩, st_q2⟩ := X_q1.specialBack hx (y := (⟨"java/lang/String", "<init>", "(Ljava/lang/StringBuilder;)V"⟩ : MethodName)) rfl hown (mvT hZ (own_w hw 87 rfl)) (mvT hZ (own_w hw 88 rfl)) (mvT hZ (own_w hw 90 rfl)) (by decide) (backOf (W := 1) (rmS1r l Z a0 hw [] b_q1 a2 va k1 zl lv cn cs h_q1 n0 (Nat.le_trans Z0 K_q1.1) EX_q1 F_value_b_q1 F_coder_b_q1 EX_a2__q1 F_value_a2__q1 F_coder_a2__q1 F_count_a2__q1 V_va__q1 EX_va__q1 S_COMPACT_STRINGS__q1 ge_b_q1 ne_a2_b_q1 ne_va_b_q1 hc_q3 hc_q4 hc_q5 hc_q6 hc_q7 hc_q8 hc_q9) hZ (own_w hw 90 rfl) (own_w hw 21 rfl) (by decide) (by decide)) (g := (mkF m 5 #[.val (.ref a2)] [(.ref a2), (.ref b_q1), (.ref b_q1)])) rfl (by rw [hml]; rfl) (Steps.refl _) (a := b_q1) (argsL := [(.ref a2)]) (rest := [(.ref b_q1)]) (lenOf pd__Ljava_lang_StringBuilder__V rfl) rfl (by show 2 * 0 + _ ≤ _; exact Nat.le_of_eq rfl) (hb hby d15_5) (fun _ _ => ⟨rfl, e_q1, (by decide : 1 + 1 ≤ _), (by decide : 4 + 12 ≤ _)⟩)
  dsimp only [Pt.U, Pt.locs, Pt.cells, Pt.slots] at X_q2 l_q2 y_q2 z_q2 st_q2 hQ_q2
  subst l_q2 y_q2 z_q2
  obtain ⟨r1_q2, kr1_q2, rfl, Nq_q2, Kq_q2, sz0_r1_q2, O0_q2, O1_q2, O2_q2, O3_q2⟩ := hQ_q2
  have N_q2 := Fr.app N0 Nq_q2
  have sz_r1_q2 : h0.size ≤ r1_q2 := Nat.le_trans K_q1.1 sz0_r1_q2
  have EX_q1__q2 := EX_q1.keep Kq_q2
  have K_q2 : Keep h0 T_q2.heap [] := K_q1.trans Kq_q2 (allS (Or.inr sz_b_q1) all0)
  obtain ⟨fs, hr, hrun, hended, hW, hsame⟩ := X_q2.leave (v := some (.ref b_q1)) (fun h => by rw [Bd.returns] at h; cases h) Bd.notSynchronized
  refine ⟨_, _, pre0 _ ?_, hrun, hended, _, _, rfl, ?_, ⟨_, rfl⟩, hW, hsame.mono (by decide) (by decide)⟩
  · show Steps p.tables e below (s₁.setTop (mkF m 0 #[.val (.ref a2)] [])) _
    refine st_q1 _ ?_
    refine XS.dup X_q1.here hx rfl (hb hby d15_3) rfl rfl ?_
    refine XS.aloadN X_q1.here hx rfl (hb hby d15_4) rfl rfl ?_
    show Steps p.tables e below (T_q1.setTop (mkF m 5 #[.val (.ref a2)] [(.ref a2), (.ref b_q1), (.ref b_q1)])) _
    refine st_q2.trans ?_
    show Steps p.tables e below (T_q2.setTop (mkF m 8 #[.val (.ref a2)] [(.ref b_q1)])) _
    jvm_step X_q2.here [X_q2.here.top, hx, (hb hby d15_8), X_q2.method', Bd.returns, Value.isRef, FieldType.isReference]
    first | (intro acts; rw [hr _ acts rfl rfl rfl]) | rw [hr _ _ rfl rfl rfl]
    exact Steps.refl _
  · show Q_rmTSr Z a2 va k1 zl lv cn cs h0 n0 _ T_q2.heap _
    exact ⟨b_q1, r1_q2, kr1_q2, rfl, N_q2, K_q2, sz_b_q1, sz_r1_q2, EX_q1__q2, O0_q2, O1_q2, O2_q2, O3_q2⟩
def own_esc (v : Int32) : Prop := v < (32 : Int32) ∨ (126 : Int32) < v ∨ v = (92 : Int32)
def own_pl (v : Int32) : Prop := ¬ (v < (32 : Int32)) ∧ ¬ ((126 : Int32) < v) ∧ ¬ (v = (92 : Int32))
theorem d24_0 : decode jdk_42_method_152_code 0 = .ok (.getstatic 38, 3) := by decide +kernel
theorem d24_3 : decode jdk_42_method_152_code 3 = .ok (.ifCond .eq 10, 3) := by decide +kernel
theorem d24_6 : decode jdk_42_method_152_code 6 = .ok (.aload_n 0, 1) := by decide +kernel
theorem d24_7 : decode jdk_42_method_152_code 7 = .ok (.getfield 15, 3) := by decide +kernel
theorem d24_10 : decode jdk_42_method_152_code 10 = .ok (.goto 4, 3) := by decide +kernel
theorem d24_14 : decode jdk_42_method_152_code 14 = .ok (.ireturn, 1) := by decide +kernel
theorem pn_24 : plainName "java/lang/String" = true := by first | (simp [plainName, overriddenIn]; done) | decide +kernel
theorem ef_24 (m : MethodId) (x0 : Addr) : entryFrame m #[(.ref x0)] 1 = mkF m 0 #[.val (.ref x0)] [] := by first | (simp [entryFrame, mkF, argsToLocals, Value.category]; done) | rfl
def Q_rmCd (Z : State) (a1 : Addr) (cs : Int32) (h0 : Heap) (n0 : Nat) (v : Option Value) (h : Heap) (L : List Loc) : Prop := v = some (.int (0 : Int32)) ∧ Fr n0 L ∧ h = h0
set_option maxRecDepth 65536 in
set_option maxHeartbeats 40000000 in
theorem rmCd (l : Launch) (Z : State) (a0 : Array Value) (hw : ∀ d ∈ tables_1, d.before a0 Z = true) (ws : List Jvm.Cond) (a1 : Addr) (cs : Int32) (h0 : Heap) (n0 : Nat) (Z0 : n0 ≤ h0.size) (F_coder_a1 : Fld Z h0 a1 "java/lang/String" "coder" "B" (.int (0 : Int32))) (S_COMPACT_STRINGS : Sta Z h0 "java/lang/String" "COMPACT_STRINGS" "Z" (.int cs)) (hc_q2 : ¬ (cs = (0 : Int32))) :
    MetFree l (⟨"java/lang/String", "coder", "()B"⟩ : MethodName) (head1 (Jvm.Cond.code (⟨"java/lang/String", "coder", "()B"⟩ : MethodName) jdk_42_method_152_code 1 (some .byte) :: ws) ({ frames := 0, cells := 0, slots := 0, locals := 0 } : Room)) (fun a U => a = #[(.ref a1)] ∧ Z.Warmed39 U.vm ∧ U.heap = h0) (fun _ _ _ _ _ => True) (fun _ U o U' => ∃ v L, o = .returned v ∧ Q_rmCd Z a1 cs h0 n0 v U'.heap L ∧ FrameEnd U o U' L ({ frames := 0, cells := 0, slots := 0, locals := 0 } : Room).cells ({ frames := 0, cells := 0, slots := 0, locals := 0 } : Room).slots) := by
  refine MetFree.of_bodySF (plainFor_of_name pn_24) hisR ?_
  intro p e s m args below meth c s₁ Bd hml0 hP hK
  obtain ⟨rfl, hZ, hh⟩ := hP
  have hx := Bd.exec
  have hby := Bd.bytes
  have hml : c.maxLocals = 1 := hml0
  have hown : s.vm.findClass "java/lang/String" = some m.cls := findClass_of_methodNamed Bd.named
  have hnm := (name_of_methodNamed Bd.named Bd.method).1
  have X0 : Stand p l e ({ frames := 0, cells := 0, slots := 0, locals := 0 } : Room) s m #[(.ref a1)] below meth c s₁ [] 0 0 := Stand.of_body Bd
  have e0 : s₁.heap = h0 := by rw [← hh, Bd.state]; rfl
  have N0 := Fr.nil n0
  have pre0 : ∀ t, Steps p.tables e below (s₁.setTop (mkF m 0 #[.val (.ref a1)] [])) t → Steps p.tables e below (s₁.setTop (entryFrame m #[(.ref a1)] 1)) t := fun t k => castTop (ef_24 m a1) k
  obtain ⟨T_q1, X_q1, e_q1, st_q1⟩ := getS2 X0 hx hZ hown (host := "") (Or.inl (own_w hw 139 rfl)) Via.refl e0 S_COMPACT_STRINGS (g := (mkF m 0 #[.val (.ref a1)] [])) rfl (hb hby d24_0)
  obtain ⟨T_q3, X_q3, e_q3, st_q3⟩ := getF X_q1 hx hZ hown (host := "") (Or.inl (own_w hw 109 rfl)) Via.refl e_q1 F_coder_a1 (g := (mkF m 7 #[.val (.ref a1)] [(.ref a1)])) rfl rfl (hb hby d24_7)
  obtain ⟨fs, hr, hrun, hended, hW, hsame⟩ := X_q3.leave (v := some (.int (0 : Int32))) (fun h => by rw [Bd.returns] at h; cases h) Bd.notSynchronized
  refine ⟨_, _, pre0 _ ?_, hrun, hended, _, _, rfl, ?_, ⟨_, rfl⟩, hW, hsame.mono (by decide) (by decide)⟩
  · show Steps p.tables e below (s₁.setTop (mkF m 0 #[.val (.ref a1)] [])) _
    refine st_q1 _ ?_
    refine XS.ifNo X_q1.here hx rfl (hb hby d24_3) rfl ((if0 _ _).trans (feq hc_q2).1) ?_
    refine XS.aloadN X_q1.here hx rfl (hb hby d24_6) rfl rfl ?_
    show Steps p.tables e below (T_q1.setTop (mkF m 7 #[.val (.ref a1)] [(.ref a1)])) _
    refine st_q3 _ ?_
    refine XS.goto X_q3.here hx rfl (pc0 := 10) (pc' := 14) rfl (hb hby d24_10) (by decide) (by decide) ?_
    show Steps p.tables e below (T_q3.setTop (mkF m 14 #[.val (.ref a1)] [(.int (0 : Int32))])) _
    exact retN X_q3 hx (t := .byte) Bd.returns (by simp) (hb hby d24_14) hr
  · show Q_rmCd Z a1 cs h0 n0 _ T_q3.heap _
    rw [e_q3]
    exact ⟨rfl, N0, rfl⟩
theorem d23_0 : decode jdk_42_method_54_code 0 = .ok (.aload_n 0, 1) := by decide +kernel
theorem d23_1 : decode jdk_42_method_54_code 1 = .ok (.getfield 9, 3) := by decide +kernel
theorem d23_4 : decode jdk_42_method_54_code 4 = .ok (.arraylength, 1) := by decide +kernel
theorem d23_5 : decode jdk_42_method_54_code 5 = .ok (.aload_n 0, 1) := by decide +kernel
theorem d23_6 : decode jdk_42_method_54_code 6 = .ok (.invokevirtual 335, 3) := by decide +kernel
theorem d23_9 : decode jdk_42_method_54_code 9 = .ok (.ishr, 1) := by decide +kernel
theorem d23_10 : decode jdk_42_method_54_code 10 = .ok (.ireturn, 1) := by decide +kernel
theorem pn_23 : plainName "java/lang/String" = true := by first | (simp [plainName, overriddenIn]; done) | decide +kernel
theorem pd___B : parseMethodDescriptor "()B" = some ⟨[], some .byte⟩ := by decide +kernel
theorem ef_23 (m : MethodId) (x0 : Addr) : entryFrame m #[(.ref x0)] 1 = mkF m 0 #[.val (.ref x0)] [] := by first | (simp [entryFrame, mkF, argsToLocals, Value.category]; done) | rfl
def Q_rmLn (Z : State) (a1 va : Addr) (k1 : ClassId) (zl : Int32) (lv : List Value) (cs : Int32) (h0 : Heap) (n0 : Nat) (v : Option Value) (h : Heap) (L : List Loc) : Prop := v = some (.int (zl >>> ((0 : Int32) &&& 31))) ∧ Fr n0 L ∧ h = h0
set_option maxRecDepth 65536 in
set_option maxHeartbeats 40000000 in
theorem rmLn (l : Launch) (Z : State) (a0 : Array Value) (hw : ∀ d ∈ tables_1, d.before a0 Z = true) (ws : List Jvm.Cond) (a1 va : Addr) (k1 : ClassId) (zl : Int32) (lv : List Value) (cs : Int32) (h0 : Heap) (n0 : Nat) (Z0 : n0 ≤ h0.size) (EX_a1 : Exa Z h0 a1 "java/lang/String") (F_value_a1 : Fld Z h0 a1 "java/lang/String" "value" "[B" (.ref va)) (F_coder_a1 : Fld Z h0 a1 "java/lang/String" "coder" "B" (.int (0 : Int32))) (V_va : Arv Z h0 va k1 .byte zl lv (.int (0 : Int32))) (S_COMPACT_STRINGS : Sta Z h0 "java/lang/String" "COMPACT_STRINGS" "Z" (.int cs)) (hc_q4 : ¬ (cs = (0 : Int32))) :
    MetFree l (⟨"java/lang/String", "length", "()I"⟩ : MethodName) (head1 (Jvm.Cond.code (⟨"java/lang/String", "length", "()I"⟩ : MethodName) jdk_42_method_54_code 1 (some .int) :: ws) ({ frames := 1, cells := 0, slots := 0, locals := 15 } : Room)) (fun a U => a = #[(.ref a1)] ∧ Z.Warmed39 U.vm ∧ U.heap = h0) (fun _ _ _ _ _ => True) (fun _ U o U' => ∃ v L, o = .returned v ∧ Q_rmLn Z a1 va k1 zl lv cs h0 n0 v U'.heap L ∧ FrameEnd U o U' L ({ frames := 1, cells := 0, slots := 0, locals := 15 } : Room).cells ({ frames := 1, cells := 0, slots := 0, locals := 15 } : Room).slots) := by
  refine MetFree.of_bodySF (plainFor_of_name pn_23) hisR ?_
  intro p e s m args below meth c s₁ Bd hml0 hP hK
  obtain ⟨rfl, hZ, hh⟩ := hP
  have hx := Bd.exec
  have hby := Bd.bytes
  have hml : c.maxLocals = 1 := hml0
  have hown : s.vm.findClass "java/lang/String" = some m.cls := findClass_of_methodNamed Bd.named
  have hnm := (name_of_methodNamed Bd.named Bd.method).1
  have X0 : Stand p l e ({ frames := 1, cells := 0, slots := 0, locals := 15 } : Room) s m #[(.ref a1)] below meth c s₁ [] 0 0 := Stand.of_body Bd
  have e0 : s₁.heap = h0 := by rw [← hh, Bd.state]; rfl
  have N0 := Fr.nil n0
  have pre0 : ∀ t, Steps p.tables e below (s₁.setTop (mkF m 0 #[.val (.ref a1)] [])) t → Steps p.tables e below (s₁.setTop (entryFrame m #[(.ref a1)] 1)) t := fun t k => castTop (ef_23 m a1) k
  have K0 : Keep h0 h0 [] := Keep.refl _ _
  obtain ⟨T_q1, X_q1, e_q1, st_q1⟩ := getF X0 hx hZ hown (host := "") (Or.inl (own_w hw 123 rfl)) Via.refl e0 F_value_a1 (g := (mkF m 1 #[.val (.ref a1)] [(.ref a1)])) rfl rfl (hb hby d23_1)
  obtain ⟨cl_q2, Ar_q2, qk_q2, S_q2, Nn_q2, H_q2, G_q2⟩ := id V_va
  obtain ⟨cq_q3, kq_q3, qa_q3, qb_q3, qc_q3⟩ := isOf hZ e_q1 EX_a1
  obtain ⟨_, _, ⟨T_q3, L_q3, k_q3, n_q3⟩, -, X_q3, ⟨Lc_q3, hQ_q3, l_q3, y_q3, z_q3⟩, st_q3⟩ := X_q1.virtualBack hx (y := (⟨"java/lang/String", "coder", "()B"⟩ : MethodName)) (z := (⟨"java/lang/String", "coder", "()B"⟩ : MethodName)) hown (mvT hZ (own_w hw 134 rfl)) (mvT hZ (own_w hw 135 rfl)) (notFace_of_selects (args := #[]) (mvT hZ (own_w hw 137 rfl))) (mvT hZ (own_w hw 137 rfl)) (mvT hZ (own_w hw 136 rfl)) (by decide) (backOf (W := 1) (rmCd l Z a0 hw [] a1 cs h0 n0 (Nat.le_trans Z0 K0.1) F_coder_a1 S_COMPACT_STRINGS hc_q4) hZ (own_w hw 138 rfl) (own_w hw 21 rfl) (by decide) (by decide)) qa_q3 qc_q3 (g := (mkF m 6 #[.val (.ref a1)] [(.ref a1), (.int zl)])) rfl (by rw [hml]; rfl) (Steps.refl _) (argsL := []) (rest := [(.int zl)]) (lenOf pd___B rfl) rfl (by show 2 * 0 + _ ≤ _; exact Nat.le_of_eq rfl) (hb hby d23_6) (fun _ _ => ⟨rfl, e_q1, (by decide : 0 + 0 ≤ _), (by decide : 0 + 0 ≤ _)⟩)
  dsimp only [Pt.U, Pt.locs, Pt.cells, Pt.slots] at X_q3 l_q3 y_q3 z_q3 st_q3 hQ_q3
  subst l_q3 y_q3 z_q3
  obtain ⟨rfl, Nq_q3, eq_q3⟩ := hQ_q3
  have N_q3 := Fr.app N0 Nq_q3
  obtain ⟨fs, hr, hrun, hended, hW, hsame⟩ := X_q3.leave (v := some (.int (zl >>> ((0 : Int32) &&& 31)))) (fun h => by rw [Bd.returns] at h; cases h) Bd.notSynchronized
  refine ⟨_, _, pre0 _ ?_, hrun, hended, _, _, rfl, ?_, ⟨_, rfl⟩, hW, hsame.mono (by decide) (by decide)⟩
  · show Steps p.tables e below (s₁.setTop (mkF m 0 #[.val (.ref a1)] [])) _
    refine XS.aloadN X0.here hx rfl (hb hby d23_0) rfl rfl ?_
    show Steps p.tables e below (s₁.setTop (mkF m 1 #[.val (.ref a1)] [(.ref a1)])) _
    refine st_q1 _ ?_
    show Steps p.tables e below (T_q1.setTop (mkF m 4 #[.val (.ref a1)] [(.ref va)])) _
    refine X_q1.arraylength hx (by rw [e_q1]; exact Ar_q2.1) (State.isArrayOf_alike hZ.alike Ar_q2.2.1) (g := (mkF m 4 #[.val (.ref a1)] [(.ref va)])) rfl rfl (hb hby d23_4) _ ?_
    rw [len_of S_q2 Nn_q2]
    refine XS.aloadN X_q1.here hx rfl (hb hby d23_5) rfl rfl ?_
    show Steps p.tables e below (T_q1.setTop (mkF m 6 #[.val (.ref a1)] [(.ref a1), (.int zl)])) _
    refine st_q3.trans ?_
    refine XS.ishr X_q3.here hx rfl (hb hby d23_9) rfl ?_
    show Steps p.tables e below (T_q3.setTop (mkF m 10 #[.val (.ref a1)] [(.int (zl >>> ((0 : Int32) &&& 31)))])) _
    exact retI X_q3 hx Bd.returns (hb hby d23_10) hr
  · show Q_rmLn Z a1 va k1 zl lv cs h0 n0 _ T_q3.heap _
    exact ⟨rfl, N_q3, by rw [eq_q3]⟩
theorem d26_0 : decode jdk_42_method_154_code 0 = .ok (.getstatic 38, 3) := by decide +kernel
theorem d26_3 : decode jdk_42_method_154_code 3 = .ok (.ifCond .eq 14, 3) := by decide +kernel
theorem d26_6 : decode jdk_42_method_154_code 6 = .ok (.aload_n 0, 1) := by decide +kernel
theorem d26_7 : decode jdk_42_method_154_code 7 = .ok (.getfield 15, 3) := by decide +kernel
theorem d26_10 : decode jdk_42_method_154_code 10 = .ok (.ifCond .ne 7, 3) := by decide +kernel
theorem d26_13 : decode jdk_42_method_154_code 13 = .ok (.iconst 1, 1) := by decide +kernel
theorem d26_14 : decode jdk_42_method_154_code 14 = .ok (.goto 4, 3) := by decide +kernel
theorem d26_18 : decode jdk_42_method_154_code 18 = .ok (.ireturn, 1) := by decide +kernel
theorem pn_26 : plainName "java/lang/String" = true := by first | (simp [plainName, overriddenIn]; done) | decide +kernel
theorem ef_26 (m : MethodId) (x0 : Addr) : entryFrame m #[(.ref x0)] 1 = mkF m 0 #[.val (.ref x0)] [] := by first | (simp [entryFrame, mkF, argsToLocals, Value.category]; done) | rfl
def Q_rmSL1 (Z : State) (a1 : Addr) (cs : Int32) (h0 : Heap) (n0 : Nat) (v : Option Value) (h : Heap) (L : List Loc) : Prop := v = some (.int (1 : Int32)) ∧ Fr n0 L ∧ h = h0
set_option maxRecDepth 65536 in
set_option maxHeartbeats 40000000 in
theorem rmSL1 (l : Launch) (Z : State) (a0 : Array Value) (hw : ∀ d ∈ tables_1, d.before a0 Z = true) (ws : List Jvm.Cond) (a1 : Addr) (cs : Int32) (h0 : Heap) (n0 : Nat) (Z0 : n0 ≤ h0.size) (F_coder_a1 : Fld Z h0 a1 "java/lang/String" "coder" "B" (.int (0 : Int32))) (S_COMPACT_STRINGS : Sta Z h0 "java/lang/String" "COMPACT_STRINGS" "Z" (.int cs)) (hc_q2 : ¬ (cs = (0 : Int32))) :
    MetFree l (⟨"java/lang/String", "isLatin1", "()Z"⟩ : MethodName) (head1 (Jvm.Cond.code (⟨"java/lang/String", "isLatin1", "()Z"⟩ : MethodName) jdk_42_method_154_code 1 (some .boolean) :: ws) ({ frames := 0, cells := 0, slots := 0, locals := 0 } : Room)) (fun a U => a = #[(.ref a1)] ∧ Z.Warmed39 U.vm ∧ U.heap = h0) (fun _ _ _ _ _ => True) (fun _ U o U' => ∃ v L, o = .returned v ∧ Q_rmSL1 Z a1 cs h0 n0 v U'.heap L ∧ FrameEnd U o U' L ({ frames := 0, cells := 0, slots := 0, locals := 0 } : Room).cells ({ frames := 0, cells := 0, slots := 0, locals := 0 } : Room).slots) := by
  refine MetFree.of_bodySF (plainFor_of_name pn_26) hisR ?_
  intro p e s m args below meth c s₁ Bd hml0 hP hK
  obtain ⟨rfl, hZ, hh⟩ := hP
  have hx := Bd.exec
  have hby := Bd.bytes
  have hml : c.maxLocals = 1 := hml0
  have hown : s.vm.findClass "java/lang/String" = some m.cls := findClass_of_methodNamed Bd.named
  have hnm := (name_of_methodNamed Bd.named Bd.method).1
  have X0 : Stand p l e ({ frames := 0, cells := 0, slots := 0, locals := 0 } : Room) s m #[(.ref a1)] below meth c s₁ [] 0 0 := Stand.of_body Bd
  have e0 : s₁.heap = h0 := by rw [← hh, Bd.state]; rfl
  have N0 := Fr.nil n0
  have pre0 : ∀ t, Steps p.tables e below (s₁.setTop (mkF m 0 #[.val (.ref a1)] [])) t → Steps p.tables e below (s₁.setTop (entryFrame m #[(.ref a1)] 1)) t := fun t k => castTop (ef_26 m a1) k
  obtain ⟨T_q1, X_q1, e_q1, st_q1⟩ := getS2 X0 hx hZ hown (host := "") (Or.inl (own_w hw 139 rfl)) Via.refl e0 S_COMPACT_STRINGS (g := (mkF m 0 #[.val (.ref a1)] [])) rfl (hb hby d26_0)
  obtain ⟨T_q3, X_q3, e_q3, st_q3⟩ := getF X_q1 hx hZ hown (host := "") (Or.inl (own_w hw 109 rfl)) Via.refl e_q1 F_coder_a1 (g := (mkF m 7 #[.val (.ref a1)] [(.ref a1)])) rfl rfl (hb hby d26_7)
  obtain ⟨fs, hr, hrun, hended, hW, hsame⟩ := X_q3.leave (v := some (.int (1 : Int32))) (fun h => by rw [Bd.returns] at h; cases h) Bd.notSynchronized
  refine ⟨_, _, pre0 _ ?_, hrun, hended, _, _, rfl, ?_, ⟨_, rfl⟩, hW, hsame.mono (by decide) (by decide)⟩
  · show Steps p.tables e below (s₁.setTop (mkF m 0 #[.val (.ref a1)] [])) _
    refine st_q1 _ ?_
    refine XS.ifNo X_q1.here hx rfl (hb hby d26_3) rfl ((if0 _ _).trans (feq hc_q2).1) ?_
    refine XS.aloadN X_q1.here hx rfl (hb hby d26_6) rfl rfl ?_
    show Steps p.tables e below (T_q1.setTop (mkF m 7 #[.val (.ref a1)] [(.ref a1)])) _
    refine st_q3 _ ?_
    refine XS.ifNo X_q3.here hx rfl (hb hby d26_10) rfl ((if0 _ _).trans (teq (by decide : (0 : Int32) = (0 : Int32))).2) ?_
    refine XS.iconst X_q3.here hx rfl (hb hby d26_13) ?_
    refine XS.goto X_q3.here hx rfl (pc0 := 14) (pc' := 18) rfl (hb hby d26_14) (by decide) (by decide) ?_
    show Steps p.tables e below (T_q3.setTop (mkF m 18 #[.val (.ref a1)] [(.int (1 : Int32))])) _
    exact retN X_q3 hx (t := .boolean) Bd.returns (by simp) (hb hby d26_18) hr
  · show Q_rmSL1 Z a1 cs h0 n0 _ T_q3.heap _
    rw [e_q3]
    exact ⟨rfl, N0, rfl⟩
theorem d29_0 : decode jdk_41_method_11_code 0 = .ok (.iload_n 0, 1) := by decide +kernel
theorem d29_1 : decode jdk_41_method_11_code 1 = .ok (.ifCond .lt 8, 3) := by decide +kernel
theorem d29_4 : decode jdk_41_method_11_code 4 = .ok (.iload_n 0, 1) := by decide +kernel
theorem d29_5 : decode jdk_41_method_11_code 5 = .ok (.iload_n 1, 1) := by decide +kernel
theorem d29_6 : decode jdk_41_method_11_code 6 = .ok (.if_icmp .lt 10, 3) := by decide +kernel
theorem d29_16 : decode jdk_41_method_11_code 16 = .ok (.iload_n 0, 1) := by decide +kernel
theorem d29_17 : decode jdk_41_method_11_code 17 = .ok (.ireturn, 1) := by decide +kernel
theorem pn_29 : plainName "jdk/internal/util/Preconditions" = true := by first | (simp [plainName, overriddenIn]; done) | decide +kernel
theorem ef_29 (m : MethodId) (x0 : Int32) (x1 : Int32) : entryFrame m #[(.int x0), (.int x1), .null] 3 = mkF m 0 #[.val (.int x0), .val (.int x1), .val .null] [] := by first | (simp [entryFrame, mkF, argsToLocals, Value.category]; done) | rfl
def Q_rmPCn (Z : State) (p1 p2 : Int32) (h0 : Heap) (n0 : Nat) (v : Option Value) (h : Heap) (L : List Loc) : Prop := v = some (.int p1) ∧ Fr n0 L ∧ h = h0
set_option maxRecDepth 65536 in
set_option maxHeartbeats 40000000 in
theorem rmPCn (l : Launch) (Z : State) (a0 : Array Value) (hw : ∀ d ∈ tables_1, d.before a0 Z = true) (ws : List Jvm.Cond) (p1 p2 : Int32) (h0 : Heap) (n0 : Nat) (Z0 : n0 ≤ h0.size) (hc_q1 : ¬ (p1 < (0 : Int32))) (hc_q2 : p1 < p2) :
    MetFree l (⟨"jdk/internal/util/Preconditions", "checkIndex", "(IILjava/util/function/BiFunction;)I"⟩ : MethodName) (head1 (Jvm.Cond.code (⟨"jdk/internal/util/Preconditions", "checkIndex", "(IILjava/util/function/BiFunction;)I"⟩ : MethodName) jdk_41_method_11_code 3 (some .int) :: ws) ({ frames := 0, cells := 0, slots := 0, locals := 0 } : Room)) (fun a U => a = #[(.int p1), (.int p2), .null] ∧ Z.Warmed39 U.vm ∧ U.heap = h0) (fun _ _ _ _ _ => True) (fun _ U o U' => ∃ v L, o = .returned v ∧ Q_rmPCn Z p1 p2 h0 n0 v U'.heap L ∧ FrameEnd U o U' L ({ frames := 0, cells := 0, slots := 0, locals := 0 } : Room).cells ({ frames := 0, cells := 0, slots := 0, locals := 0 } : Room).slots) := by
  refine MetFree.of_bodySF (plainFor_of_name pn_29) hisR ?_
  intro p e s m args below meth c s₁ Bd hml0 hP hK
  obtain ⟨rfl, hZ, hh⟩ := hP
  have hx := Bd.exec
  have hby := Bd.bytes
  have hml : c.maxLocals = 3 := hml0
  have hown : s.vm.findClass "jdk/internal/util/Preconditions" = some m.cls := findClass_of_methodNamed Bd.named
  have hnm := (name_of_methodNamed Bd.named Bd.method).1
  have X0 : Stand p l e ({ frames := 0, cells := 0, slots := 0, locals := 0 } : Room) s m #[(.int p1), (.int p2), .null] below meth c s₁ [] 0 0 := Stand.of_body Bd
  have e0 : s₁.heap = h0 := by rw [← hh, Bd.state]; rfl
  have N0 := Fr.nil n0
  have pre0 : ∀ t, Steps p.tables e below (s₁.setTop (mkF m 0 #[.val (.int p1), .val (.int p2), .val .null] [])) t → Steps p.tables e below (s₁.setTop (entryFrame m #[(.int p1), (.int p2), .null] 3)) t := fun t k => castTop (ef_29 m p1 p2) k
  obtain ⟨fs, hr, hrun, hended, hW, hsame⟩ := X0.leave (v := some (.int p1)) (fun h => by rw [Bd.returns] at h; cases h) Bd.notSynchronized
  refine ⟨_, _, pre0 _ ?_, hrun, hended, _, _, rfl, ?_, ⟨_, rfl⟩, hW, hsame.mono (by decide) (by decide)⟩
  · show Steps p.tables e below (s₁.setTop (mkF m 0 #[.val (.int p1), .val (.int p2), .val .null] [])) _
    refine XS.iloadN X0.here hx rfl (hb hby d29_0) rfl ?_
    refine XS.ifNo X0.here hx rfl (hb hby d29_1) rfl ((if0 _ _).trans (flt hc_q1).1) ?_
    refine XS.iloadN X0.here hx rfl (hb hby d29_4) rfl ?_
    refine XS.iloadN X0.here hx rfl (hb hby d29_5) rfl ?_
    show Steps p.tables e below (s₁.setTop (mkF m 6 #[.val (.int p1), .val (.int p2), .val .null] [(.int p2), (.int p1)])) _
    refine XS.icmpYes X0.here hx rfl (pc0 := 6) (pc' := 16) rfl (hb hby d29_6) rfl (tlt hc_q2).1 (by decide) (by decide) ?_
    refine XS.iloadN X0.here hx rfl (hb hby d29_16) rfl ?_
    show Steps p.tables e below (s₁.setTop (mkF m 17 #[.val (.int p1), .val (.int p2), .val .null] [(.int p1)])) _
    exact retI X0 hx Bd.returns (hb hby d29_17) hr
  · show Q_rmPCn Z p1 p2 h0 n0 _ s₁.heap _
    rw [e0]
    exact ⟨rfl, N0, rfl⟩
theorem ef_29r (m : MethodId) (x0 : Int32) (x1 : Int32) (x2 : Addr) : entryFrame m #[(.int x0), (.int x1), (.ref x2)] 3 = mkF m 0 #[.val (.int x0), .val (.int x1), .val (.ref x2)] [] := by first | (simp [entryFrame, mkF, argsToLocals, Value.category]; done) | rfl
def Q_rmPCr (Z : State) (p1 p2 : Int32) (a3 : Addr) (h0 : Heap) (n0 : Nat) (v : Option Value) (h : Heap) (L : List Loc) : Prop := v = some (.int p1) ∧ Fr n0 L ∧ h = h0
set_option maxRecDepth 65536 in
set_option maxHeartbeats 40000000 in
theorem rmPCr (l : Launch) (Z : State) (a0 : Array Value) (hw : ∀ d ∈ tables_1, d.before a0 Z = true) (ws : List Jvm.Cond) (p1 p2 : Int32) (a3 : Addr) (h0 : Heap) (n0 : Nat) (Z0 : n0 ≤ h0.size) (hc_q1 : ¬ (p1 < (0 : Int32))) (hc_q2 : p1 < p2) :
    MetFree l (⟨"jdk/internal/util/Preconditions", "checkIndex", "(IILjava/util/function/BiFunction;)I"⟩ : MethodName) (head1 (Jvm.Cond.code (⟨"jdk/internal/util/Preconditions", "checkIndex", "(IILjava/util/function/BiFunction;)I"⟩ : MethodName) jdk_41_method_11_code 3 (some .int) :: ws) ({ frames := 0, cells := 0, slots := 0, locals := 0 } : Room)) (fun a U => a = #[(.int p1), (.int p2), (.ref a3)] ∧ Z.Warmed39 U.vm ∧ U.heap = h0) (fun _ _ _ _ _ => True) (fun _ U o U' => ∃ v L, o = .returned v ∧ Q_rmPCr Z p1 p2 a3 h0 n0 v U'.heap L ∧ FrameEnd U o U' L ({ frames := 0, cells := 0, slots := 0, locals := 0 } : Room).cells ({ frames := 0, cells := 0, slots := 0, locals := 0 } : Room).slots) := by
  refine MetFree.of_bodySF (plainFor_of_name pn_29) hisR ?_
  intro p e s m args below meth c s₁ Bd hml0 hP hK
  obtain ⟨rfl, hZ, hh⟩ := hP
  have hx := Bd.exec
  have hby := Bd.bytes
  have hml : c.maxLocals = 3 := hml0
  have hown : s.vm.findClass "jdk/internal/util/Preconditions" = some m.cls := findClass_of_methodNamed Bd.named
  have hnm := (name_of_methodNamed Bd.named Bd.method).1
  have X0 : Stand p l e ({ frames := 0, cells := 0, slots := 0, locals := 0 } : Room) s m #[(.int p1), (.int p2), (.ref a3)] below meth c s₁ [] 0 0 := Stand.of_body Bd
  have e0 : s₁.heap = h0 := by rw [← hh, Bd.state]; rfl
  have N0 := Fr.nil n0
  have pre0 : ∀ t, Steps p.tables e below (s₁.setTop (mkF m 0 #[.val (.int p1), .val (.int p2), .val (.ref a3)] [])) t → Steps p.tables e below (s₁.setTop (entryFrame m #[(.int p1), (.int p2), (.ref a3)] 3)) t := fun t k => castTop (ef_29r m p1 p2 a3) k
  obtain ⟨fs, hr, hrun, hended, hW, hsame⟩ := X0.leave (v := some (.int p1)) (fun h => by rw [Bd.returns] at h; cases h) Bd.notSynchronized
  refine ⟨_, _, pre0 _ ?_, hrun, hended, _, _, rfl, ?_, ⟨_, rfl⟩, hW, hsame.mono (by decide) (by decide)⟩
  · show Steps p.tables e below (s₁.setTop (mkF m 0 #[.val (.int p1), .val (.int p2), .val (.ref a3)] [])) _
    refine XS.iloadN X0.here hx rfl (hb hby d29_0) rfl ?_
    refine XS.ifNo X0.here hx rfl (hb hby d29_1) rfl ((if0 _ _).trans (flt hc_q1).1) ?_
    refine XS.iloadN X0.here hx rfl (hb hby d29_4) rfl ?_
    refine XS.iloadN X0.here hx rfl (hb hby d29_5) rfl ?_
    show Steps p.tables e below (s₁.setTop (mkF m 6 #[.val (.int p1), .val (.int p2), .val (.ref a3)] [(.int p2), (.int p1)])) _
    refine XS.icmpYes X0.here hx rfl (pc0 := 6) (pc' := 16) rfl (hb hby d29_6) rfl (tlt hc_q2).1 (by decide) (by decide) ?_
    refine XS.iloadN X0.here hx rfl (hb hby d29_16) rfl ?_
    show Steps p.tables e below (s₁.setTop (mkF m 17 #[.val (.int p1), .val (.int p2), .val (.ref a3)] [(.int p1)])) _
    exact retI X0 hx Bd.returns (hb hby d29_17) hr
  · show Q_rmPCr Z p1 p2 a3 h0 n0 _ s₁.heap _
    rw [e0]
    exact ⟨rfl, N0, rfl⟩
def Q_PC (Z : State) (p1 p2 : Int32) (sf : Value) (h0 : Heap) (n0 : Nat) (v : Option Value) (h : Heap) (L : List Loc) : Prop := v = some (.int p1) ∧ Fr n0 L ∧ h = h0
theorem rmPC (l : Launch) (Z : State) (a0 : Array Value) (hw : ∀ d ∈ tables_1, d.before a0 Z = true) (ws : List Jvm.Cond) (p1 p2 : Int32) (sf : Value) (h0 : Heap) (n0 : Nat) (Z0 : n0 ≤ h0.size) (hsf : sf = .null ∨ ∃ a, sf = .ref a) (hc_q1 : ¬ (p1 < (0 : Int32))) (hc_q2 : p1 < p2) : MetFree l (⟨"jdk/internal/util/Preconditions", "checkIndex", "(IILjava/util/function/BiFunction;)I"⟩ : MethodName) (head1 (Jvm.Cond.code (⟨"jdk/internal/util/Preconditions", "checkIndex", "(IILjava/util/function/BiFunction;)I"⟩ : MethodName) jdk_41_method_11_code 3 (some .int) :: ws) ({ frames := 0, cells := 0, slots := 0, locals := 0 } : Room)) (fun a U => a = #[(.int p1), (.int p2), sf] ∧ Z.Warmed39 U.vm ∧ U.heap = h0) (fun _ _ _ _ _ => True) (fun _ U o U' => ∃ v L, o = .returned v ∧ Q_PC Z p1 p2 sf h0 n0 v U'.heap L ∧ FrameEnd U o U' L ({ frames := 0, cells := 0, slots := 0, locals := 0 } : Room).cells ({ frames := 0, cells := 0, slots := 0, locals := 0 } : Room).slots) := by
  rcases hsf with rfl | ⟨a, rfl⟩
  · exact rmPCn l Z a0 hw ws p1 p2 h0 n0 Z0 hc_q1 hc_q2
  · exact rmPCr l Z a0 hw ws p1 p2 a h0 n0 Z0 hc_q1 hc_q2
theorem d28_0 : decode jdk_42_method_155_code 0 = .ok (.iload_n 0, 1) := by decide +kernel
theorem d28_1 : decode jdk_42_method_155_code 1 = .ok (.iload_n 1, 1) := by decide +kernel
theorem d28_2 : decode jdk_42_method_155_code 2 = .ok (.getstatic 1053, 3) := by decide +kernel
theorem d28_5 : decode jdk_42_method_155_code 5 = .ok (.invokestatic 1059, 3) := by decide +kernel
theorem d28_8 : decode jdk_42_method_155_code 8 = .ok (.pop, 1) := by decide +kernel
theorem d28_9 : decode jdk_42_method_155_code 9 = .ok (.return_, 1) := by decide +kernel
theorem pn_28 : plainName "java/lang/String" = true := by first | (simp [plainName, overriddenIn]; done) | decide +kernel
theorem pd__IILjava_util_function_BiFunction__I : parseMethodDescriptor "(IILjava/util/function/BiFunction;)I" = some ⟨[.int, .int, (.object "java/util/function/BiFunction")], some .int⟩ := by decide +kernel
theorem ef_28 (m : MethodId) (x0 : Int32) (x1 : Int32) : entryFrame m #[(.int x0), (.int x1)] 2 = mkF m 0 #[.val (.int x0), .val (.int x1)] [] := by first | (simp [entryFrame, mkF, argsToLocals, Value.category]; done) | rfl
def Q_rmSCI (Z : State) (p1 p2 : Int32) (sf : Value) (h0 : Heap) (n0 : Nat) (v : Option Value) (h : Heap) (L : List Loc) : Prop := v = none ∧ Fr n0 L ∧ h = h0
set_option maxRecDepth 65536 in
set_option maxHeartbeats 40000000 in
theorem rmSCI (l : Launch) (Z : State) (a0 : Array Value) (hw : ∀ d ∈ tables_1, d.before a0 Z = true) (ws : List Jvm.Cond) (p1 p2 : Int32) (sf : Value) (h0 : Heap) (n0 : Nat) (Z0 : n0 ≤ h0.size) (S_SIOOBE_FORMATTER : Sta Z h0 "jdk/internal/util/Preconditions" "SIOOBE_FORMATTER" "Ljava/util/function/BiFunction;" sf) (hc_q3 : sf = .null ∨ ∃ a, sf = .ref a) (hc_q4 : ¬ (p1 < (0 : Int32))) (hc_q5 : p1 < p2) :
    MetFree l (⟨"java/lang/String", "checkIndex", "(II)V"⟩ : MethodName) (head1 (Jvm.Cond.code (⟨"java/lang/String", "checkIndex", "(II)V"⟩ : MethodName) jdk_42_method_155_code 2 none :: ws) ({ frames := 1, cells := 0, slots := 0, locals := 16 } : Room)) (fun a U => a = #[(.int p1), (.int p2)] ∧ Z.Warmed39 U.vm ∧ U.heap = h0) (fun _ _ _ _ _ => True) (fun _ U o U' => ∃ v L, o = .returned v ∧ Q_rmSCI Z p1 p2 sf h0 n0 v U'.heap L ∧ FrameEnd U o U' L ({ frames := 1, cells := 0, slots := 0, locals := 16 } : Room).cells ({ frames := 1, cells := 0, slots := 0, locals := 16 } : Room).slots) := by
  refine MetFree.of_bodySF (plainFor_of_name pn_28) hisR ?_
  intro p e s m args below meth c s₁ Bd hml0 hP hK
  obtain ⟨rfl, hZ, hh⟩ := hP
  have hx := Bd.exec
  have hby := Bd.bytes
  have hml : c.maxLocals = 2 := hml0
  have hown : s.vm.findClass "java/lang/String" = some m.cls := findClass_of_methodNamed Bd.named
  have hnm := (name_of_methodNamed Bd.named Bd.method).1
  have X0 : Stand p l e ({ frames := 1, cells := 0, slots := 0, locals := 16 } : Room) s m #[(.int p1), (.int p2)] below meth c s₁ [] 0 0 := Stand.of_body Bd
  have e0 : s₁.heap = h0 := by rw [← hh, Bd.state]; rfl
  have N0 := Fr.nil n0
  have pre0 : ∀ t, Steps p.tables e below (s₁.setTop (mkF m 0 #[.val (.int p1), .val (.int p2)] [])) t → Steps p.tables e below (s₁.setTop (entryFrame m #[(.int p1), (.int p2)] 2)) t := fun t k => castTop (ef_28 m p1 p2) k
  have K0 : Keep h0 h0 [] := Keep.refl _ _
  obtain ⟨T_q1, X_q1, e_q1, st_q1⟩ := getS2 X0 hx hZ hown (host := "") (Or.inl (own_w hw 156 rfl)) Via.refl e0 S_SIOOBE_FORMATTER (g := (mkF m 2 #[.val (.int p1), .val (.int p2)] [(.int p2), (.int p1)])) rfl (hb hby d28_2)
  obtain ⟨_, _, ⟨T_q2, L_q2, k_q2, n_q2⟩, -, X_q2, ⟨Lc_q2, hQ_q2, l_q2, y_q2, z_q2⟩, st_q2⟩ := Jvm.LawKit.callS X_q1 hx (y := (⟨"jdk/internal/util/Preconditions", "checkIndex", "(IILjava/util/function/BiFunction;)I"⟩ : MethodName)) hown (mvT hZ (own_w hw 158 rfl)) (mvT hZ (own_w hw 159 rfl)) (mvT hZ (own_w hw 157 rfl)) (mvT hZ (own_w hw 160 rfl)) (by decide) (backOf (W := 0) (rmPC l Z a0 hw [] p1 p2 sf h0 n0 (Nat.le_trans Z0 K0.1) hc_q3 hc_q4 hc_q5) hZ (own_w hw 160 rfl) (own_w hw 157 rfl) (by decide) (by decide)) (g := (mkF m 5 #[.val (.int p1), .val (.int p2)] [sf, (.int p2), (.int p1)])) rfl (by rw [hml]; rfl) (argsL := [(.int p1), (.int p2), sf]) (rest := []) (lenOf pd__IILjava_util_function_BiFunction__I rfl) rfl (by show 2 * 0 + _ ≤ _; exact Nat.le_of_eq rfl) (hb hby d28_5) (fun _ _ => ⟨rfl, e_q1, (by decide : 0 + 0 ≤ _), (by decide : 0 + 0 ≤ _)⟩)
  dsimp only [Pt.U, Pt.locs, Pt.cells, Pt.slots] at X_q2 l_q2 y_q2 z_q2 st_q2 hQ_q2
  subst l_q2 y_q2 z_q2
  obtain ⟨rfl, Nq_q2, eq_q2⟩ := hQ_q2
  have N_q2 := Fr.app N0 Nq_q2
  obtain ⟨fs, hr, hrun, hended, hW, hsame⟩ := X_q2.leave (v := none) (fun _ => rfl) Bd.notSynchronized
  refine ⟨_, _, pre0 _ ?_, hrun, hended, _, _, rfl, ?_, ⟨_, rfl⟩, hW, hsame.mono (by decide) (by decide)⟩
  · show Steps p.tables e below (s₁.setTop (mkF m 0 #[.val (.int p1), .val (.int p2)] [])) _
    refine XS.iloadN X0.here hx rfl (hb hby d28_0) rfl ?_
    refine XS.iloadN X0.here hx rfl (hb hby d28_1) rfl ?_
    show Steps p.tables e below (s₁.setTop (mkF m 2 #[.val (.int p1), .val (.int p2)] [(.int p2), (.int p1)])) _
    refine st_q1 _ ?_
    show Steps p.tables e below (T_q1.setTop (mkF m 5 #[.val (.int p1), .val (.int p2)] [sf, (.int p2), (.int p1)])) _
    refine st_q2 _ ?_
    refine XS.pop X_q2.here hx rfl (hb hby d28_8) rfl rfl ?_
    show Steps p.tables e below (T_q2.setTop (mkF m 9 #[.val (.int p1), .val (.int p2)] [])) _
    exact X_q2.returnOut hx Bd.returns (hb hby d28_9) hr
  · show Q_rmSCI Z p1 p2 sf h0 n0 _ T_q2.heap _
    exact ⟨rfl, N_q2, by rw [eq_q2]⟩
theorem d27_0 : decode jdk_43_method_2_code 0 = .ok (.iload_n 1, 1) := by decide +kernel
theorem d27_1 : decode jdk_43_method_2_code 1 = .ok (.aload_n 0, 1) := by decide +kernel
theorem d27_2 : decode jdk_43_method_2_code 2 = .ok (.arraylength, 1) := by decide +kernel
theorem d27_3 : decode jdk_43_method_2_code 3 = .ok (.invokestatic 9, 3) := by decide +kernel
theorem d27_6 : decode jdk_43_method_2_code 6 = .ok (.aload_n 0, 1) := by decide +kernel
theorem d27_7 : decode jdk_43_method_2_code 7 = .ok (.iload_n 1, 1) := by decide +kernel
theorem d27_8 : decode jdk_43_method_2_code 8 = .ok (.baload, 1) := by decide +kernel
theorem d27_9 : decode jdk_43_method_2_code 9 = .ok (.sipush 255, 3) := by decide +kernel
theorem d27_12 : decode jdk_43_method_2_code 12 = .ok (.iand, 1) := by decide +kernel
theorem d27_13 : decode jdk_43_method_2_code 13 = .ok (.i2c, 1) := by decide +kernel
theorem d27_14 : decode jdk_43_method_2_code 14 = .ok (.ireturn, 1) := by decide +kernel
theorem pn_27 : plainName "java/lang/StringLatin1" = true := by first | (simp [plainName, overriddenIn]; done) | decide +kernel
theorem ef_27 (m : MethodId) (x0 : Addr) (x1 : Int32) : entryFrame m #[(.ref x0), (.int x1)] 2 = mkF m 0 #[.val (.ref x0), .val (.int x1)] [] := by first | (simp [entryFrame, mkF, argsToLocals, Value.category]; done) | rfl
def Q_rmLC (Z : State) (va : Addr) (k1 : ClassId) (zl : Int32) (lv : List Value) (sf : Value) (p2 : Int32) (u1 : Int32) (h0 : Heap) (n0 : Nat) (v : Option Value) (h : Heap) (L : List Loc) : Prop := v = some (.int (nar .char ((u1 &&& (255 : Int32)).toUInt32.toUInt16.toUInt32.toInt32))) ∧ Fr n0 L ∧ h = h0
set_option maxRecDepth 65536 in
set_option maxHeartbeats 40000000 in
theorem rmLC (l : Launch) (Z : State) (a0 : Array Value) (hw : ∀ d ∈ tables_1, d.before a0 Z = true) (ws : List Jvm.Cond) (va : Addr) (k1 : ClassId) (zl : Int32) (lv : List Value) (sf : Value) (p2 : Int32) (u1 : Int32) (h0 : Heap) (n0 : Nat) (Z0 : n0 ≤ h0.size) (V_va : Arv Z h0 va k1 .byte zl lv (.int (0 : Int32))) (S_SIOOBE_FORMATTER : Sta Z h0 "jdk/internal/util/Preconditions" "SIOOBE_FORMATTER" "Ljava/util/function/BiFunction;" sf) (hc_q3 : sf = .null ∨ ∃ a, sf = .ref a) (hc_q4 : ¬ (p2 < (0 : Int32))) (hc_q5 : p2 < zl) (hc_q7 : ¬ p2 < 0 ∧ p2 < zl) (hc_q8 : lv.getD (p2).toNatClampNeg (.int (0 : Int32)) = .int u1) :
    MetFree l (⟨"java/lang/StringLatin1", "charAt", "([BI)C"⟩ : MethodName) (head1 (Jvm.Cond.code (⟨"java/lang/StringLatin1", "charAt", "([BI)C"⟩ : MethodName) jdk_43_method_2_code 2 (some .char) :: ws) ({ frames := 2, cells := 0, slots := 0, locals := 31 } : Room)) (fun a U => a = #[(.ref va), (.int p2)] ∧ Z.Warmed39 U.vm ∧ U.heap = h0) (fun _ _ _ _ _ => True) (fun _ U o U' => ∃ v L, o = .returned v ∧ Q_rmLC Z va k1 zl lv sf p2 u1 h0 n0 v U'.heap L ∧ FrameEnd U o U' L ({ frames := 2, cells := 0, slots := 0, locals := 31 } : Room).cells ({ frames := 2, cells := 0, slots := 0, locals := 31 } : Room).slots) := by
  refine MetFree.of_bodySF (plainFor_of_name pn_27) hisR ?_
  intro p e s m args below meth c s₁ Bd hml0 hP hK
  obtain ⟨rfl, hZ, hh⟩ := hP
  have hx := Bd.exec
  have hby := Bd.bytes
  have hml : c.maxLocals = 2 := hml0
  have hown : s.vm.findClass "java/lang/StringLatin1" = some m.cls := findClass_of_methodNamed Bd.named
  have hnm := (name_of_methodNamed Bd.named Bd.method).1
  have X0 : Stand p l e ({ frames := 2, cells := 0, slots := 0, locals := 31 } : Room) s m #[(.ref va), (.int p2)] below meth c s₁ [] 0 0 := Stand.of_body Bd
  have e0 : s₁.heap = h0 := by rw [← hh, Bd.state]; rfl
  have N0 := Fr.nil n0
  have pre0 : ∀ t, Steps p.tables e below (s₁.setTop (mkF m 0 #[.val (.ref va), .val (.int p2)] [])) t → Steps p.tables e below (s₁.setTop (entryFrame m #[(.ref va), (.int p2)] 2)) t := fun t k => castTop (ef_27 m va p2) k
  have K0 : Keep h0 h0 [] := Keep.refl _ _
  obtain ⟨cl_q1, Ar_q1, qk_q1, S_q1, Nn_q1, H_q1, G_q1⟩ := id V_va
  obtain ⟨_, _, ⟨T_q2, L_q2, k_q2, n_q2⟩, -, X_q2, ⟨Lc_q2, hQ_q2, l_q2, y_q2, z_q2⟩, st_q2⟩ := Jvm.LawKit.callS X0 hx (y := (⟨"java/lang/String", "checkIndex", "(II)V"⟩ : MethodName)) hown (mvT hZ (own_w hw 153 rfl)) (mvT hZ (own_w hw 154 rfl)) (mvT hZ (own_w hw 21 rfl)) (mvT hZ (own_w hw 155 rfl)) (by decide) (backOf (W := 0) (rmSCI l Z a0 hw [] p2 zl sf h0 n0 (Nat.le_trans Z0 K0.1) S_SIOOBE_FORMATTER hc_q3 hc_q4 hc_q5) hZ (own_w hw 155 rfl) (own_w hw 21 rfl) (by decide) (by decide)) (g := (mkF m 3 #[.val (.ref va), .val (.int p2)] [(.int zl), (.int p2)])) rfl (by rw [hml]; rfl) (argsL := [(.int p2), (.int zl)]) (rest := []) (lenOf pd__II_V rfl) rfl (by show 2 * 0 + _ ≤ _; exact Nat.le_of_eq rfl) (hb hby d27_3) (fun _ _ => ⟨rfl, e0, (by decide : 0 + 0 ≤ _), (by decide : 0 + 0 ≤ _)⟩)
  dsimp only [Pt.U, Pt.locs, Pt.cells, Pt.slots] at X_q2 l_q2 y_q2 z_q2 st_q2 hQ_q2
  subst l_q2 y_q2 z_q2
  obtain ⟨rfl, Nq_q2, eq_q2⟩ := hQ_q2
  have Kq_q2 : Keep h0 T_q2.heap [] := by rw [eq_q2]; exact Keep.refl _ _
  have N_q2 := Fr.app N0 Nq_q2
  have V_va__q2 := V_va.keep Kq_q2 nin0
  obtain ⟨cl_q6, Ar_q6, qk_q6, S_q6, Nn_q6, H_q6, G_q6⟩ := id V_va__q2
  have hin_q6 : ¬ (p2 < 0 ∨ cl_q6.slots.size ≤ (p2).toNatClampNeg) := inb_of S_q6 hc_q7
  have hat_q6 : cl_q6.slots[(p2).toNatClampNeg]? = some (.int u1) := (H_q6 _ (Nat.lt_of_not_le fun q => hin_q6 (Or.inr q))).trans (congrArg some hc_q8)
  obtain ⟨fs, hr, hrun, hended, hW, hsame⟩ := X_q2.leave (v := some (.int (nar .char ((u1 &&& (255 : Int32)).toUInt32.toUInt16.toUInt32.toInt32)))) (fun h => by rw [Bd.returns] at h; cases h) Bd.notSynchronized
  refine ⟨_, _, pre0 _ ?_, hrun, hended, _, _, rfl, ?_, ⟨_, rfl⟩, hW, hsame.mono (by decide) (by decide)⟩
  · show Steps p.tables e below (s₁.setTop (mkF m 0 #[.val (.ref va), .val (.int p2)] [])) _
    refine XS.iloadN X0.here hx rfl (hb hby d27_0) rfl ?_
    refine XS.aloadN X0.here hx rfl (hb hby d27_1) rfl rfl ?_
    show Steps p.tables e below (s₁.setTop (mkF m 2 #[.val (.ref va), .val (.int p2)] [(.ref va), (.int p2)])) _
    refine X0.arraylength hx (by rw [e0]; exact Ar_q1.1) (State.isArrayOf_alike hZ.alike Ar_q1.2.1) (g := (mkF m 2 #[.val (.ref va), .val (.int p2)] [(.ref va), (.int p2)])) rfl rfl (hb hby d27_2) _ ?_
    rw [len_of S_q1 Nn_q1]
    show Steps p.tables e below (s₁.setTop (mkF m 3 #[.val (.ref va), .val (.int p2)] [(.int zl), (.int p2)])) _
    refine st_q2 _ ?_
    refine XS.aloadN X_q2.here hx rfl (hb hby d27_6) rfl rfl ?_
    refine XS.iloadN X_q2.here hx rfl (hb hby d27_7) rfl ?_
    show Steps p.tables e below (T_q2.setTop (mkF m 8 #[.val (.ref va), .val (.int p2)] [(.int p2), (.ref va)])) _
    refine X_q2.baloadBytes hx (j := p2) (v := (.int u1)) (by exact Ar_q6.1) (State.isArrayOf_alike hZ.alike Ar_q6.2.1) Ar_q6.2.2 hin_q6 hat_q6 (g := (mkF m 8 #[.val (.ref va), .val (.int p2)] [(.int p2), (.ref va)])) rfl rfl (hb hby d27_8) _ ?_
    refine XS.sipush X_q2.here hx rfl (hb hby d27_9) ?_
    refine XS.iand X_q2.here hx rfl (hb hby d27_12) rfl ?_
    refine XS.i2c X_q2.here hx rfl (hb hby d27_13) rfl ?_
    show Steps p.tables e below (T_q2.setTop (mkF m 14 #[.val (.ref va), .val (.int p2)] [(.int ((u1 &&& (255 : Int32)).toUInt32.toUInt16.toUInt32.toInt32))])) _
    exact retN X_q2 hx (t := .char) Bd.returns (by simp) (hb hby d27_14) hr
  · show Q_rmLC Z va k1 zl lv sf p2 u1 h0 n0 _ T_q2.heap _
    exact ⟨rfl, N_q2, by rw [eq_q2]⟩
theorem d25_0 : decode jdk_42_method_56_code 0 = .ok (.aload_n 0, 1) := by decide +kernel
theorem d25_1 : decode jdk_42_method_56_code 1 = .ok (.invokevirtual 492, 3) := by decide +kernel
theorem d25_4 : decode jdk_42_method_56_code 4 = .ok (.ifCond .eq 12, 3) := by decide +kernel
theorem d25_7 : decode jdk_42_method_56_code 7 = .ok (.aload_n 0, 1) := by decide +kernel
theorem d25_8 : decode jdk_42_method_56_code 8 = .ok (.getfield 9, 3) := by decide +kernel
theorem d25_11 : decode jdk_42_method_56_code 11 = .ok (.iload_n 1, 1) := by decide +kernel
theorem d25_12 : decode jdk_42_method_56_code 12 = .ok (.invokestatic 495, 3) := by decide +kernel
theorem d25_15 : decode jdk_42_method_56_code 15 = .ok (.ireturn, 1) := by decide +kernel
theorem pn_25 : plainName "java/lang/String" = true := by first | (simp [plainName, overriddenIn]; done) | decide +kernel
theorem pd___BI_C : parseMethodDescriptor "([BI)C" = some ⟨[(.array .byte), .int], some .char⟩ := by decide +kernel
theorem ef_25 (m : MethodId) (x0 : Addr) (x1 : Int32) : entryFrame m #[(.ref x0), (.int x1)] 2 = mkF m 0 #[.val (.ref x0), .val (.int x1)] [] := by first | (simp [entryFrame, mkF, argsToLocals, Value.category]; done) | rfl
def Q_rmCh (Z : State) (a1 : Addr) (cs : Int32) (va : Addr) (k1 : ClassId) (zl : Int32) (lv : List Value) (sf : Value) (p2 : Int32) (u1 : Int32) (h0 : Heap) (n0 : Nat) (v : Option Value) (h : Heap) (L : List Loc) : Prop := v = some (.int (nar .char (nar .char ((u1 &&& (255 : Int32)).toUInt32.toUInt16.toUInt32.toInt32)))) ∧ Fr n0 L ∧ h = h0
set_option maxRecDepth 65536 in
set_option maxHeartbeats 40000000 in
theorem rmCh (l : Launch) (Z : State) (a0 : Array Value) (hw : ∀ d ∈ tables_1, d.before a0 Z = true) (ws : List Jvm.Cond) (a1 : Addr) (cs : Int32) (va : Addr) (k1 : ClassId) (zl : Int32) (lv : List Value) (sf : Value) (p2 : Int32) (u1 : Int32) (h0 : Heap) (n0 : Nat) (Z0 : n0 ≤ h0.size) (EX_a1 : Exa Z h0 a1 "java/lang/String") (F_value_a1 : Fld Z h0 a1 "java/lang/String" "value" "[B" (.ref va)) (F_coder_a1 : Fld Z h0 a1 "java/lang/String" "coder" "B" (.int (0 : Int32))) (V_va : Arv Z h0 va k1 .byte zl lv (.int (0 : Int32))) (S_COMPACT_STRINGS : Sta Z h0 "java/lang/String" "COMPACT_STRINGS" "Z" (.int cs)) (S_SIOOBE_FORMATTER : Sta Z h0 "jdk/internal/util/Preconditions" "SIOOBE_FORMATTER" "Ljava/util/function/BiFunction;" sf) (hc_q2 : ¬ (cs = (0 : Int32))) (hc_q5 : sf = .null ∨ ∃ a, sf = .ref a) (hc_q6 : ¬ (p2 < (0 : Int32))) (hc_q7 : p2 < zl) (hc_q8 : ¬ p2 < 0 ∧ p2 < zl) (hc_q9 : lv.getD (p2).toNatClampNeg (.int (0 : Int32)) = .int u1) :
    MetFree l (⟨"java/lang/String", "charAt", "(I)C"⟩ : MethodName) (head1 (Jvm.Cond.code (⟨"java/lang/String", "charAt", "(I)C"⟩ : MethodName) jdk_42_method_56_code 2 (some .char) :: ws) ({ frames := 3, cells := 0, slots := 0, locals := 46 } : Room)) (fun a U => a = #[(.ref a1), (.int p2)] ∧ Z.Warmed39 U.vm ∧ U.heap = h0) (fun _ _ _ _ _ => True) (fun _ U o U' => ∃ v L, o = .returned v ∧ Q_rmCh Z a1 cs va k1 zl lv sf p2 u1 h0 n0 v U'.heap L ∧ FrameEnd U o U' L ({ frames := 3, cells := 0, slots := 0, locals := 46 } : Room).cells ({ frames := 3, cells := 0, slots := 0, locals := 46 } : Room).slots) := by
  refine MetFree.of_bodySF (plainFor_of_name pn_25) hisR ?_
  intro p e s m args below meth c s₁ Bd hml0 hP hK
  obtain ⟨rfl, hZ, hh⟩ := hP
  have hx := Bd.exec
  have hby := Bd.bytes
  have hml : c.maxLocals = 2 := hml0
  have hown : s.vm.findClass "java/lang/String" = some m.cls := findClass_of_methodNamed Bd.named
  have hnm := (name_of_methodNamed Bd.named Bd.method).1
  have X0 : Stand p l e ({ frames := 3, cells := 0, slots := 0, locals := 46 } : Room) s m #[(.ref a1), (.int p2)] below meth c s₁ [] 0 0 := Stand.of_body Bd
  have e0 : s₁.heap = h0 := by rw [← hh, Bd.state]; rfl
  have N0 := Fr.nil n0
  have pre0 : ∀ t, Steps p.tables e below (s₁.setTop (mkF m 0 #[.val (.ref a1), .val (.int p2)] [])) t → Steps p.tables e below (s₁.setTop (entryFrame m #[(.ref a1), (.int p2)] 2)) t := fun t k => castTop (ef_25 m a1 p2) k
  have K0 : Keep h0 h0 [] := Keep.refl _ _
  obtain ⟨cq_q1, kq_q1, qa_q1, qb_q1, qc_q1⟩ := isOf hZ e0 EX_a1
  obtain ⟨_, _, ⟨T_q1, L_q1, k_q1, n_q1⟩, -, X_q1, ⟨Lc_q1, hQ_q1, l_q1, y_q1, z_q1⟩, st_q1⟩ := X0.virtualBack hx (y := (⟨"java/lang/String", "isLatin1", "()Z"⟩ : MethodName)) (z := (⟨"java/lang/String", "isLatin1", "()Z"⟩ : MethodName)) hown (mvT hZ (own_w hw 145 rfl)) (mvT hZ (own_w hw 146 rfl)) (notFace_of_selects (args := #[]) (mvT hZ (own_w hw 148 rfl))) (mvT hZ (own_w hw 148 rfl)) (mvT hZ (own_w hw 147 rfl)) (by decide) (backOf (W := 0) (rmSL1 l Z a0 hw [] a1 cs h0 n0 (Nat.le_trans Z0 K0.1) F_coder_a1 S_COMPACT_STRINGS hc_q2) hZ (own_w hw 149 rfl) (own_w hw 21 rfl) (by decide) (by decide)) qa_q1 qc_q1 (g := (mkF m 1 #[.val (.ref a1), .val (.int p2)] [(.ref a1)])) rfl (by rw [hml]; rfl) (Steps.refl _) (argsL := []) (rest := []) (lenOf pd___Z rfl) rfl (by show 2 * 0 + _ ≤ _; exact Nat.le_of_eq rfl) (hb hby d25_1) (fun _ _ => ⟨rfl, e0, (by decide : 0 + 0 ≤ _), (by decide : 0 + 0 ≤ _)⟩)
  dsimp only [Pt.U, Pt.locs, Pt.cells, Pt.slots] at X_q1 l_q1 y_q1 z_q1 st_q1 hQ_q1
  subst l_q1 y_q1 z_q1
  obtain ⟨rfl, Nq_q1, eq_q1⟩ := hQ_q1
  have Kq_q1 : Keep h0 T_q1.heap [] := by rw [eq_q1]; exact Keep.refl _ _
  have N_q1 := Fr.app N0 Nq_q1
  have F_value_a1__q1 := F_value_a1.keep Kq_q1 nin0
  have V_va__q1 := V_va.keep Kq_q1 nin0
  have S_SIOOBE_FORMATTER__q1 := own_sta_keep S_SIOOBE_FORMATTER Kq_q1 all0
  have K_q1 : Keep h0 T_q1.heap [] := K0.trans Kq_q1 all0
  obtain ⟨T_q3, X_q3, e_q3, st_q3⟩ := getF X_q1 hx hZ hown (host := "") (Or.inl (own_w hw 123 rfl)) Via.refl rfl F_value_a1__q1 (g := (mkF m 8 #[.val (.ref a1), .val (.int p2)] [(.ref a1)])) rfl rfl (hb hby d25_8)
  obtain ⟨_, _, ⟨T_q4, L_q4, k_q4, n_q4⟩, -, X_q4, ⟨Lc_q4, hQ_q4, l_q4, y_q4, z_q4⟩, st_q4⟩ := Jvm.LawKit.callS X_q3 hx (y := (⟨"java/lang/StringLatin1", "charAt", "([BI)C"⟩ : MethodName)) hown (mvT hZ (own_w hw 150 rfl)) (mvT hZ (own_w hw 151 rfl)) (mvT hZ (own_w hw 50 rfl)) (mvT hZ (own_w hw 152 rfl)) (by decide) (backOf (W := 0) (rmLC l Z a0 hw [] va k1 zl lv sf p2 u1 T_q1.heap n0 (Nat.le_trans Z0 K_q1.1) V_va__q1 S_SIOOBE_FORMATTER__q1 hc_q5 hc_q6 hc_q7 hc_q8 hc_q9) hZ (own_w hw 152 rfl) (own_w hw 50 rfl) (by decide) (by decide)) (g := (mkF m 12 #[.val (.ref a1), .val (.int p2)] [(.int p2), (.ref va)])) rfl (by rw [hml]; rfl) (argsL := [(.ref va), (.int p2)]) (rest := []) (lenOf pd___BI_C rfl) rfl (by show 2 * 0 + _ ≤ _; exact Nat.le_of_eq rfl) (hb hby d25_12) (fun _ _ => ⟨rfl, e_q3, (by decide : 0 + 0 ≤ _), (by decide : 0 + 0 ≤ _)⟩)
  dsimp only [Pt.U, Pt.locs, Pt.cells, Pt.slots] at X_q4 l_q4 y_q4 z_q4 st_q4 hQ_q4
  subst l_q4 y_q4 z_q4
  obtain ⟨rfl, Nq_q4, eq_q4⟩ := hQ_q4
  have N_q4 := Fr.app N_q1 Nq_q4
  obtain ⟨fs, hr, hrun, hended, hW, hsame⟩ := X_q4.leave (v := some (.int (nar .char (nar .char ((u1 &&& (255 : Int32)).toUInt32.toUInt16.toUInt32.toInt32))))) (fun h => by rw [Bd.returns] at h; cases h) Bd.notSynchronized
  refine ⟨_, _, pre0 _ ?_, hrun, hended, _, _, rfl, ?_, ⟨_, rfl⟩, hW, hsame.mono (by decide) (by decide)⟩
  · show Steps p.tables e below (s₁.setTop (mkF m 0 #[.val (.ref a1), .val (.int p2)] [])) _
    refine XS.aloadN X0.here hx rfl (hb hby d25_0) rfl rfl ?_
    show Steps p.tables e below (s₁.setTop (mkF m 1 #[.val (.ref a1), .val (.int p2)] [(.ref a1)])) _
    refine st_q1.trans ?_
    refine XS.ifNo X_q1.here hx rfl (hb hby d25_4) rfl ((if0 _ _).trans (feq (by decide : ¬ ((1 : Int32) = (0 : Int32)))).1) ?_
    refine XS.aloadN X_q1.here hx rfl (hb hby d25_7) rfl rfl ?_
    show Steps p.tables e below (T_q1.setTop (mkF m 8 #[.val (.ref a1), .val (.int p2)] [(.ref a1)])) _
    refine st_q3 _ ?_
    refine XS.iloadN X_q3.here hx rfl (hb hby d25_11) rfl ?_
    show Steps p.tables e below (T_q3.setTop (mkF m 12 #[.val (.ref a1), .val (.int p2)] [(.int p2), (.ref va)])) _
    refine st_q4 _ ?_
    show Steps p.tables e below (T_q4.setTop (mkF m 15 #[.val (.ref a1), .val (.int p2)] [(.int (nar .char ((u1 &&& (255 : Int32)).toUInt32.toUInt16.toUInt32.toInt32)))])) _
    exact retN X_q4 hx (t := .char) Bd.returns (by simp) (hb hby d25_15) hr
  · show Q_rmCh Z a1 cs va k1 zl lv sf p2 u1 h0 n0 _ T_q4.heap _
    exact ⟨rfl, N_q4, by rw [eq_q4, eq_q1]⟩
theorem d22_0 : decode method_3_code 0 = .ok (.iload_n 2, 1) := by decide +kernel
theorem d22_1 : decode method_3_code 1 = .ok (.bipush 32, 2) := by decide +kernel
theorem d22_3 : decode method_3_code 3 = .ok (.if_icmp .lt 39, 3) := by decide +kernel
theorem d22_6 : decode method_3_code 6 = .ok (.iload_n 2, 1) := by decide +kernel
theorem d22_7 : decode method_3_code 7 = .ok (.bipush 126, 2) := by decide +kernel
theorem d22_9 : decode method_3_code 9 = .ok (.if_icmp .gt 33, 3) := by decide +kernel
theorem d22_12 : decode method_3_code 12 = .ok (.iload_n 2, 1) := by decide +kernel
theorem d22_13 : decode method_3_code 13 = .ok (.bipush 92, 2) := by decide +kernel
theorem d22_15 : decode method_3_code 15 = .ok (.if_icmp .eq 27, 3) := by decide +kernel
theorem pn_22 : plainName "com/example/presplit/presplit/escape/BinaryEscapeEncodePinLaw" = true := by first | (simp [plainName, overriddenIn]; done) | decide +kernel
theorem own_cs_p {p : Program} {l : Launch} {e : Env} {R : Room} {s : State} {m : MethodId} {args : Array Value} {below : List Frame} {meth : Method} {c : Code} {T0 : State} {locs : List Loc} {cells slots : Nat} (a1 : Addr) (p2 p3 : Int32) (X0 : Stand p l e R s m args below meth c T0 locs cells slots) (hx : p.tables.exec = Jvm.exec) (hby : c.code = method_3_code) (hc_q1 : ¬ (p3 < (32 : Int32))) (hc_q2 : ¬ ((126 : Int32) < p3)) (hc_q3 : ¬ (p3 = (92 : Int32))) {target : State} (kt : Steps p.tables e below (T0.setTop (mkF m 18 #[.val (.ref a1), .val (.int p2), .val (.int p3)] [])) target) : Steps p.tables e below (T0.setTop (mkF m 0 #[.val (.ref a1), .val (.int p2), .val (.int p3)] [])) target := by
  show Steps p.tables e below (T0.setTop (mkF m 0 #[.val (.ref a1), .val (.int p2), .val (.int p3)] [])) _
  refine XS.iloadN X0.here hx rfl (hb hby d22_0) rfl ?_
  show Steps p.tables e below (T0.setTop (mkF m 1 #[.val (.ref a1), .val (.int p2), .val (.int p3)] [(.int p3)])) _
  refine XS.bipush X0.here hx rfl (hb hby d22_1) ?_
  show Steps p.tables e below (T0.setTop (mkF m 3 #[.val (.ref a1), .val (.int p2), .val (.int p3)] [(.int (32 : Int32)), (.int p3)])) _
  refine XS.icmpNo X0.here hx rfl (hb hby d22_3) rfl (flt hc_q1).1 ?_
  show Steps p.tables e below (T0.setTop (mkF m 6 #[.val (.ref a1), .val (.int p2), .val (.int p3)] [])) _
  refine XS.iloadN X0.here hx rfl (hb hby d22_6) rfl ?_
  show Steps p.tables e below (T0.setTop (mkF m 7 #[.val (.ref a1), .val (.int p2), .val (.int p3)] [(.int p3)])) _
  refine XS.bipush X0.here hx rfl (hb hby d22_7) ?_
  show Steps p.tables e below (T0.setTop (mkF m 9 #[.val (.ref a1), .val (.int p2), .val (.int p3)] [(.int (126 : Int32)), (.int p3)])) _
  refine XS.icmpNo X0.here hx rfl (hb hby d22_9) rfl (flt hc_q2).2.2.1 ?_
  show Steps p.tables e below (T0.setTop (mkF m 12 #[.val (.ref a1), .val (.int p2), .val (.int p3)] [])) _
  refine XS.iloadN X0.here hx rfl (hb hby d22_12) rfl ?_
  show Steps p.tables e below (T0.setTop (mkF m 13 #[.val (.ref a1), .val (.int p2), .val (.int p3)] [(.int p3)])) _
  refine XS.bipush X0.here hx rfl (hb hby d22_13) ?_
  show Steps p.tables e below (T0.setTop (mkF m 15 #[.val (.ref a1), .val (.int p2), .val (.int p3)] [(.int (92 : Int32)), (.int p3)])) _
  refine XS.icmpNo X0.here hx rfl (hb hby d22_15) rfl (feq hc_q3).1 ?_
  exact kt
theorem own_cs_e1 {p : Program} {l : Launch} {e : Env} {R : Room} {s : State} {m : MethodId} {args : Array Value} {below : List Frame} {meth : Method} {c : Code} {T0 : State} {locs : List Loc} {cells slots : Nat} (a1 : Addr) (p2 p3 : Int32) (X0 : Stand p l e R s m args below meth c T0 locs cells slots) (hx : p.tables.exec = Jvm.exec) (hby : c.code = method_3_code) (hc_q1 : p3 < (32 : Int32)) {target : State} (kt : Steps p.tables e below (T0.setTop (mkF m 42 #[.val (.ref a1), .val (.int p2), .val (.int p3)] [])) target) : Steps p.tables e below (T0.setTop (mkF m 0 #[.val (.ref a1), .val (.int p2), .val (.int p3)] [])) target := by
  show Steps p.tables e below (T0.setTop (mkF m 0 #[.val (.ref a1), .val (.int p2), .val (.int p3)] [])) _
  refine XS.iloadN X0.here hx rfl (hb hby d22_0) rfl ?_
  show Steps p.tables e below (T0.setTop (mkF m 1 #[.val (.ref a1), .val (.int p2), .val (.int p3)] [(.int p3)])) _
  refine XS.bipush X0.here hx rfl (hb hby d22_1) ?_
  show Steps p.tables e below (T0.setTop (mkF m 3 #[.val (.ref a1), .val (.int p2), .val (.int p3)] [(.int (32 : Int32)), (.int p3)])) _
  refine XS.icmpYes X0.here hx rfl (pc0 := 3) (pc' := 42) rfl (hb hby d22_3) rfl (tlt hc_q1).1 (by decide) (by decide) ?_
  exact kt
theorem own_cs_e2 {p : Program} {l : Launch} {e : Env} {R : Room} {s : State} {m : MethodId} {args : Array Value} {below : List Frame} {meth : Method} {c : Code} {T0 : State} {locs : List Loc} {cells slots : Nat} (a1 : Addr) (p2 p3 : Int32) (X0 : Stand p l e R s m args below meth c T0 locs cells slots) (hx : p.tables.exec = Jvm.exec) (hby : c.code = method_3_code) (hc_q1 : ¬ (p3 < (32 : Int32))) (hc_q2 : (126 : Int32) < p3) {target : State} (kt : Steps p.tables e below (T0.setTop (mkF m 42 #[.val (.ref a1), .val (.int p2), .val (.int p3)] [])) target) : Steps p.tables e below (T0.setTop (mkF m 0 #[.val (.ref a1), .val (.int p2), .val (.int p3)] [])) target := by
  show Steps p.tables e below (T0.setTop (mkF m 0 #[.val (.ref a1), .val (.int p2), .val (.int p3)] [])) _
  refine XS.iloadN X0.here hx rfl (hb hby d22_0) rfl ?_
  show Steps p.tables e below (T0.setTop (mkF m 1 #[.val (.ref a1), .val (.int p2), .val (.int p3)] [(.int p3)])) _
  refine XS.bipush X0.here hx rfl (hb hby d22_1) ?_
  show Steps p.tables e below (T0.setTop (mkF m 3 #[.val (.ref a1), .val (.int p2), .val (.int p3)] [(.int (32 : Int32)), (.int p3)])) _
  refine XS.icmpNo X0.here hx rfl (hb hby d22_3) rfl (flt hc_q1).1 ?_
  show Steps p.tables e below (T0.setTop (mkF m 6 #[.val (.ref a1), .val (.int p2), .val (.int p3)] [])) _
  refine XS.iloadN X0.here hx rfl (hb hby d22_6) rfl ?_
  show Steps p.tables e below (T0.setTop (mkF m 7 #[.val (.ref a1), .val (.int p2), .val (.int p3)] [(.int p3)])) _
  refine XS.bipush X0.here hx rfl (hb hby d22_7) ?_
  show Steps p.tables e below (T0.setTop (mkF m 9 #[.val (.ref a1), .val (.int p2), .val (.int p3)] [(.int (126 : Int32)), (.int p3)])) _
  refine XS.icmpYes X0.here hx rfl (pc0 := 9) (pc' := 42) rfl (hb hby d22_9) rfl (tlt hc_q2).2.2.1 (by decide) (by decide) ?_
  exact kt
theorem own_cs_e3 {p : Program} {l : Launch} {e : Env} {R : Room} {s : State} {m : MethodId} {args : Array Value} {below : List Frame} {meth : Method} {c : Code} {T0 : State} {locs : List Loc} {cells slots : Nat} (a1 : Addr) (p2 p3 : Int32) (X0 : Stand p l e R s m args below meth c T0 locs cells slots) (hx : p.tables.exec = Jvm.exec) (hby : c.code = method_3_code) (hc_q1 : ¬ (p3 < (32 : Int32))) (hc_q2 : ¬ ((126 : Int32) < p3)) (hc_q3 : p3 = (92 : Int32)) {target : State} (kt : Steps p.tables e below (T0.setTop (mkF m 42 #[.val (.ref a1), .val (.int p2), .val (.int p3)] [])) target) : Steps p.tables e below (T0.setTop (mkF m 0 #[.val (.ref a1), .val (.int p2), .val (.int p3)] [])) target := by
  show Steps p.tables e below (T0.setTop (mkF m 0 #[.val (.ref a1), .val (.int p2), .val (.int p3)] [])) _
  refine XS.iloadN X0.here hx rfl (hb hby d22_0) rfl ?_
  show Steps p.tables e below (T0.setTop (mkF m 1 #[.val (.ref a1), .val (.int p2), .val (.int p3)] [(.int p3)])) _
  refine XS.bipush X0.here hx rfl (hb hby d22_1) ?_
  show Steps p.tables e below (T0.setTop (mkF m 3 #[.val (.ref a1), .val (.int p2), .val (.int p3)] [(.int (32 : Int32)), (.int p3)])) _
  refine XS.icmpNo X0.here hx rfl (hb hby d22_3) rfl (flt hc_q1).1 ?_
  show Steps p.tables e below (T0.setTop (mkF m 6 #[.val (.ref a1), .val (.int p2), .val (.int p3)] [])) _
  refine XS.iloadN X0.here hx rfl (hb hby d22_6) rfl ?_
  show Steps p.tables e below (T0.setTop (mkF m 7 #[.val (.ref a1), .val (.int p2), .val (.int p3)] [(.int p3)])) _
  refine XS.bipush X0.here hx rfl (hb hby d22_7) ?_
  show Steps p.tables e below (T0.setTop (mkF m 9 #[.val (.ref a1), .val (.int p2), .val (.int p3)] [(.int (126 : Int32)), (.int p3)])) _
  refine XS.icmpNo X0.here hx rfl (hb hby d22_9) rfl (flt hc_q2).2.2.1 ?_
  show Steps p.tables e below (T0.setTop (mkF m 12 #[.val (.ref a1), .val (.int p2), .val (.int p3)] [])) _
  refine XS.iloadN X0.here hx rfl (hb hby d22_12) rfl ?_
  show Steps p.tables e below (T0.setTop (mkF m 13 #[.val (.ref a1), .val (.int p2), .val (.int p3)] [(.int p3)])) _
  refine XS.bipush X0.here hx rfl (hb hby d22_13) ?_
  show Steps p.tables e below (T0.setTop (mkF m 15 #[.val (.ref a1), .val (.int p2), .val (.int p3)] [(.int (92 : Int32)), (.int p3)])) _
  refine XS.icmpYes X0.here hx rfl (pc0 := 15) (pc' := 42) rfl (hb hby d22_15) rfl (teq hc_q3).1 (by decide) (by decide) ?_
  exact kt
theorem own_cs_P {p : Program} {l : Launch} {e : Env} {R : Room} {s : State} {m : MethodId} {args : Array Value} {below : List Frame} {meth : Method} {c : Code} {T0 : State} {locs : List Loc} {cells slots : Nat} (a1 : Addr) (p2 p3 : Int32) (X0 : Stand p l e R s m args below meth c T0 locs cells slots) (hx : p.tables.exec = Jvm.exec) (hby : c.code = method_3_code) (hv : own_pl p3) {target : State} (kt : Steps p.tables e below (T0.setTop (mkF m 18 #[.val (.ref a1), .val (.int p2), .val (.int p3)] [])) target) : Steps p.tables e below (T0.setTop (mkF m 0 #[.val (.ref a1), .val (.int p2), .val (.int p3)] [])) target := by
  exact own_cs_p a1 p2 p3 X0 hx hby hv.1 hv.2.1 hv.2.2 kt
theorem own_cs_E {p : Program} {l : Launch} {e : Env} {R : Room} {s : State} {m : MethodId} {args : Array Value} {below : List Frame} {meth : Method} {c : Code} {T0 : State} {locs : List Loc} {cells slots : Nat} (a1 : Addr) (p2 p3 : Int32) (X0 : Stand p l e R s m args below meth c T0 locs cells slots) (hx : p.tables.exec = Jvm.exec) (hby : c.code = method_3_code) (hv : own_esc p3) {target : State} (kt : Steps p.tables e below (T0.setTop (mkF m 42 #[.val (.ref a1), .val (.int p2), .val (.int p3)] [])) target) : Steps p.tables e below (T0.setTop (mkF m 0 #[.val (.ref a1), .val (.int p2), .val (.int p3)] [])) target := by
  by_cases h1 : p3 < (32 : Int32)
  · exact own_cs_e1 a1 p2 p3 X0 hx hby h1 kt
  by_cases h2 : (126 : Int32) < p3
  · exact own_cs_e2 a1 p2 p3 X0 hx hby h1 h2 kt
  · exact own_cs_e3 a1 p2 p3 X0 hx hby h1 h2 ((hv.resolve_left h1).resolve_left h2) kt
theorem d22_18 : decode method_3_code 18 = .ok (.iload_n 1, 1) := by decide +kernel
theorem d22_19 : decode method_3_code 19 = .ok (.aload_n 0, 1) := by decide +kernel
theorem d22_20 : decode method_3_code 20 = .ok (.invokevirtual 19, 3) := by decide +kernel
theorem d22_23 : decode method_3_code 23 = .ok (.if_icmp .ge 17, 3) := by decide +kernel
theorem d22_26 : decode method_3_code 26 = .ok (.aload_n 0, 1) := by decide +kernel
theorem d22_27 : decode method_3_code 27 = .ok (.iload_n 1, 1) := by decide +kernel
theorem d22_28 : decode method_3_code 28 = .ok (.invokevirtual 25, 3) := by decide +kernel
theorem d22_31 : decode method_3_code 31 = .ok (.iload_n 2, 1) := by decide +kernel
theorem d22_32 : decode method_3_code 32 = .ok (.i2c, 1) := by decide +kernel
theorem d22_33 : decode method_3_code 33 = .ok (.if_icmp .ne 7, 3) := by decide +kernel
theorem d22_36 : decode method_3_code 36 = .ok (.iload_n 1, 1) := by decide +kernel
theorem d22_37 : decode method_3_code 37 = .ok (.iconst 1, 1) := by decide +kernel
theorem d22_38 : decode method_3_code 38 = .ok (.iadd, 1) := by decide +kernel
theorem d22_39 : decode method_3_code 39 = .ok (.ireturn, 1) := by decide +kernel
theorem pd__I_C : parseMethodDescriptor "(I)C" = some ⟨[.int], some .char⟩ := by decide +kernel
theorem ef_22 (m : MethodId) (x0 : Addr) (x1 : Int32) (x2 : Int32) : entryFrame m #[(.ref x0), (.int x1), (.int x2)] 3 = mkF m 0 #[.val (.ref x0), .val (.int x1), .val (.int x2)] [] := by first | (simp [entryFrame, mkF, argsToLocals, Value.category]; done) | rfl
def Q_rmSt0 (Z : State) (a1 : Addr) (cs : Int32) (va : Addr) (k1 : ClassId) (zl : Int32) (lv : List Value) (sf : Value) (p2 p3 : Int32) (u1 : Int32) (h0 : Heap) (n0 : Nat) (v : Option Value) (h : Heap) (L : List Loc) : Prop := v = some (.int (p2 + (1 : Int32))) ∧ Fr n0 L ∧ h = h0
set_option maxRecDepth 65536 in
set_option maxHeartbeats 40000000 in
theorem rmSt0 (l : Launch) (Z : State) (a0 : Array Value) (hw : ∀ d ∈ tables_1, d.before a0 Z = true) (ws : List Jvm.Cond) (a1 : Addr) (cs : Int32) (va : Addr) (k1 : ClassId) (zl : Int32) (lv : List Value) (sf : Value) (p2 p3 : Int32) (u1 : Int32) (h0 : Heap) (n0 : Nat) (Z0 : n0 ≤ h0.size) (EX_a1 : Exa Z h0 a1 "java/lang/String") (F_value_a1 : Fld Z h0 a1 "java/lang/String" "value" "[B" (.ref va)) (F_coder_a1 : Fld Z h0 a1 "java/lang/String" "coder" "B" (.int (0 : Int32))) (V_va : Arv Z h0 va k1 .byte zl lv (.int (0 : Int32))) (S_COMPACT_STRINGS : Sta Z h0 "java/lang/String" "COMPACT_STRINGS" "Z" (.int cs)) (S_SIOOBE_FORMATTER : Sta Z h0 "jdk/internal/util/Preconditions" "SIOOBE_FORMATTER" "Ljava/util/function/BiFunction;" sf) (hc_q1 : own_pl p3) (hc_q3 : ¬ (cs = (0 : Int32))) (hc_q4 : p2 < (zl >>> ((0 : Int32) &&& 31))) (hc_q6 : sf = .null ∨ ∃ a, sf = .ref a) (hc_q7 : ¬ (p2 < (0 : Int32))) (hc_q8 : p2 < zl) (hc_q9 : ¬ p2 < 0 ∧ p2 < zl) (hc_q10 : lv.getD (p2).toNatClampNeg (.int (0 : Int32)) = .int u1) (hc_q11 : (nar .char (nar .char ((u1 &&& (255 : Int32)).toUInt32.toUInt16.toUInt32.toInt32))) = (p3.toUInt32.toUInt16.toUInt32.toInt32)) :
    MetFree l (⟨"com/example/presplit/presplit/escape/BinaryEscapeEncodePinLaw", "step", "(Ljava/lang/String;II)I"⟩ : MethodName) (head1 (Jvm.Cond.code (⟨"com/example/presplit/presplit/escape/BinaryEscapeEncodePinLaw", "step", "(Ljava/lang/String;II)I"⟩ : MethodName) method_3_code 3 (some .int) :: ws) ({ frames := 4, cells := 0, slots := 0, locals := 61 } : Room)) (fun a U => a = #[(.ref a1), (.int p2), (.int p3)] ∧ Z.Warmed39 U.vm ∧ U.heap = h0) (fun _ _ _ _ _ => True) (fun _ U o U' => ∃ v L, o = .returned v ∧ Q_rmSt0 Z a1 cs va k1 zl lv sf p2 p3 u1 h0 n0 v U'.heap L ∧ FrameEnd U o U' L ({ frames := 4, cells := 0, slots := 0, locals := 61 } : Room).cells ({ frames := 4, cells := 0, slots := 0, locals := 61 } : Room).slots) := by
  refine MetFree.of_bodySF (plainFor_of_name pn_22) hisR ?_
  intro p e s m args below meth c s₁ Bd hml0 hP hK
  obtain ⟨rfl, hZ, hh⟩ := hP
  have hx := Bd.exec
  have hby := Bd.bytes
  have hml : c.maxLocals = 3 := hml0
  have hown : s.vm.findClass "com/example/presplit/presplit/escape/BinaryEscapeEncodePinLaw" = some m.cls := findClass_of_methodNamed Bd.named
  have hnm := (name_of_methodNamed Bd.named Bd.method).1
  have X0 : Stand p l e ({ frames := 4, cells := 0, slots := 0, locals := 61 } : Room) s m #[(.ref a1), (.int p2), (.int p3)] below meth c s₁ [] 0 0 := Stand.of_body Bd
  have e0 : s₁.heap = h0 := by rw [← hh, Bd.state]; rfl
  have N0 := Fr.nil n0
  have pre0 : ∀ t, Steps p.tables e below (s₁.setTop (mkF m 0 #[.val (.ref a1), .val (.int p2), .val (.int p3)] [])) t → Steps p.tables e below (s₁.setTop (entryFrame m #[(.ref a1), (.int p2), (.int p3)] 3)) t := fun t k => castTop (ef_22 m a1 p2 p3) k
  have K0 : Keep h0 h0 [] := Keep.refl _ _
  obtain ⟨cq_q2, kq_q2, qa_q2, qb_q2, qc_q2⟩ := isOf hZ e0 EX_a1
  obtain ⟨_, _, ⟨T_q2, L_q2, k_q2, n_q2⟩, -, X_q2, ⟨Lc_q2, hQ_q2, l_q2, y_q2, z_q2⟩, st_q2⟩ := X0.virtualBack hx (y := (⟨"java/lang/String", "length", "()I"⟩ : MethodName)) (z := (⟨"java/lang/String", "length", "()I"⟩ : MethodName)) hown (mvT hZ (own_w hw 129 rfl)) (mvT hZ (own_w hw 130 rfl)) (notFace_of_selects (args := #[]) (mvT hZ (own_w hw 132 rfl))) (mvT hZ (own_w hw 132 rfl)) (mvT hZ (own_w hw 131 rfl)) (by decide) (backOf (W := 1) (rmLn l Z a0 hw [] a1 va k1 zl lv cs h0 n0 (Nat.le_trans Z0 K0.1) EX_a1 F_value_a1 F_coder_a1 V_va S_COMPACT_STRINGS hc_q3) hZ (own_w hw 133 rfl) (own_w hw 21 rfl) (by decide) (by decide)) qa_q2 qc_q2 (g := (mkF m 20 #[.val (.ref a1), .val (.int p2), .val (.int p3)] [(.ref a1), (.int p2)])) rfl (by rw [hml]; rfl) (Steps.refl _) (argsL := []) (rest := [(.int p2)]) (lenOf pd___I rfl) rfl (by show 2 * 0 + _ ≤ _; exact Nat.le_of_eq rfl) (hb hby d22_20) (fun _ _ => ⟨rfl, e0, (by decide : 0 + 0 ≤ _), (by decide : 0 + 0 ≤ _)⟩)
  dsimp only [Pt.U, Pt.locs, Pt.cells, Pt.slots] at X_q2 l_q2 y_q2 z_q2 st_q2 hQ_q2
  subst l_q2 y_q2 z_q2
  obtain ⟨rfl, Nq_q2, eq_q2⟩ := hQ_q2
  have Kq_q2 : Keep h0 T_q2.heap [] := by rw [eq_q2]; exact Keep.refl _ _
  have N_q2 := Fr.app N0 Nq_q2
  have EX_a1__q2 := EX_a1.keep Kq_q2
  have F_value_a1__q2 := F_value_a1.keep Kq_q2 nin0
  have F_coder_a1__q2 := F_coder_a1.keep Kq_q2 nin0
  have V_va__q2 := V_va.keep Kq_q2 nin0
  have S_COMPACT_STRINGS__q2 := own_sta_keep S_COMPACT_STRINGS Kq_q2 all0
  have S_SIOOBE_FORMATTER__q2 := own_sta_keep S_SIOOBE_FORMATTER Kq_q2 all0
  have K_q2 : Keep h0 T_q2.heap [] := K0.trans Kq_q2 all0
  obtain ⟨cq_q5, kq_q5, qa_q5, qb_q5, qc_q5⟩ := isOf hZ rfl EX_a1__q2
  obtain ⟨_, _, ⟨T_q5, L_q5, k_q5, n_q5⟩, -, X_q5, ⟨Lc_q5, hQ_q5, l_q5, y_q5, z_q5⟩, st_q5⟩ := X_q2.virtualBack hx (y := (⟨"java/lang/String", "charAt", "(I)C"⟩ : MethodName)) (z := (⟨"java/lang/String", "charAt", "(I)C"⟩ : MethodName)) hown (mvT hZ (own_w hw 140 rfl)) (mvT hZ (own_w hw 141 rfl)) (notFace_of_selects (args := #[]) (mvT hZ (own_w hw 143 rfl))) (mvT hZ (own_w hw 143 rfl)) (mvT hZ (own_w hw 142 rfl)) (by decide) (backOf (W := 0) (rmCh l Z a0 hw [] a1 cs va k1 zl lv sf p2 u1 T_q2.heap n0 (Nat.le_trans Z0 K_q2.1) EX_a1__q2 F_value_a1__q2 F_coder_a1__q2 V_va__q2 S_COMPACT_STRINGS__q2 S_SIOOBE_FORMATTER__q2 hc_q3 hc_q6 hc_q7 hc_q8 hc_q9 hc_q10) hZ (own_w hw 144 rfl) (own_w hw 21 rfl) (by decide) (by decide)) qa_q5 qc_q5 (g := (mkF m 28 #[.val (.ref a1), .val (.int p2), .val (.int p3)] [(.int p2), (.ref a1)])) rfl (by rw [hml]; rfl) (Steps.refl _) (argsL := [(.int p2)]) (rest := []) (lenOf pd__I_C rfl) rfl (by show 2 * 0 + _ ≤ _; exact Nat.le_of_eq rfl) (hb hby d22_28) (fun _ _ => ⟨rfl, rfl, (by decide : 0 + 0 ≤ _), (by decide : 0 + 0 ≤ _)⟩)
  dsimp only [Pt.U, Pt.locs, Pt.cells, Pt.slots] at X_q5 l_q5 y_q5 z_q5 st_q5 hQ_q5
  subst l_q5 y_q5 z_q5
  obtain ⟨rfl, Nq_q5, eq_q5⟩ := hQ_q5
  have N_q5 := Fr.app N_q2 Nq_q5
  obtain ⟨fs, hr, hrun, hended, hW, hsame⟩ := X_q5.leave (v := some (.int (p2 + (1 : Int32)))) (fun h => by rw [Bd.returns] at h; cases h) Bd.notSynchronized
  refine ⟨_, _, pre0 _ ?_, hrun, hended, _, _, rfl, ?_, ⟨_, rfl⟩, hW, hsame.mono (by decide) (by decide)⟩
  · show Steps p.tables e below (s₁.setTop (mkF m 0 #[.val (.ref a1), .val (.int p2), .val (.int p3)] [])) _
    refine own_cs_P a1 p2 p3 X0 hx hby hc_q1 ?_
    refine XS.iloadN X0.here hx rfl (hb hby d22_18) rfl ?_
    refine XS.aloadN X0.here hx rfl (hb hby d22_19) rfl rfl ?_
    show Steps p.tables e below (s₁.setTop (mkF m 20 #[.val (.ref a1), .val (.int p2), .val (.int p3)] [(.ref a1), (.int p2)])) _
    refine st_q2.trans ?_
    refine XS.icmpNo X_q2.here hx rfl (hb hby d22_23) rfl (tlt hc_q4).2.1 ?_
    refine XS.aloadN X_q2.here hx rfl (hb hby d22_26) rfl rfl ?_
    refine XS.iloadN X_q2.here hx rfl (hb hby d22_27) rfl ?_
    show Steps p.tables e below (T_q2.setTop (mkF m 28 #[.val (.ref a1), .val (.int p2), .val (.int p3)] [(.int p2), (.ref a1)])) _
    refine st_q5.trans ?_
    refine XS.iloadN X_q5.here hx rfl (hb hby d22_31) rfl ?_
    refine XS.i2c X_q5.here hx rfl (hb hby d22_32) rfl ?_
    refine XS.icmpNo X_q5.here hx rfl (hb hby d22_33) rfl (teq hc_q11).2 ?_
    show Steps p.tables e below (T_q5.setTop (mkF m 36 #[.val (.ref a1), .val (.int p2), .val (.int p3)] [])) _
    refine XS.iloadN X_q5.here hx rfl (hb hby d22_36) rfl ?_
    refine XS.iconst X_q5.here hx rfl (hb hby d22_37) ?_
    refine XS.iadd X_q5.here hx rfl (hb hby d22_38) rfl ?_
    show Steps p.tables e below (T_q5.setTop (mkF m 39 #[.val (.ref a1), .val (.int p2), .val (.int p3)] [(.int (p2 + (1 : Int32)))])) _
    exact retI X_q5 hx Bd.returns (hb hby d22_39) hr
  · show Q_rmSt0 Z a1 cs va k1 zl lv sf p2 p3 u1 h0 n0 _ T_q5.heap _
    exact ⟨rfl, N_q5, by rw [eq_q5, eq_q2]⟩
theorem d22_42 : decode method_3_code 42 = .ok (.iload_n 1, 1) := by decide +kernel
theorem d22_43 : decode method_3_code 43 = .ok (.iconst 4, 1) := by decide +kernel
theorem d22_44 : decode method_3_code 44 = .ok (.iadd, 1) := by decide +kernel
theorem d22_45 : decode method_3_code 45 = .ok (.aload_n 0, 1) := by decide +kernel
theorem d22_46 : decode method_3_code 46 = .ok (.invokevirtual 19, 3) := by decide +kernel
theorem d22_49 : decode method_3_code 49 = .ok (.if_icmp .gt 62, 3) := by decide +kernel
theorem d22_52 : decode method_3_code 52 = .ok (.aload_n 0, 1) := by decide +kernel
theorem d22_53 : decode method_3_code 53 = .ok (.iload_n 1, 1) := by decide +kernel
theorem d22_54 : decode method_3_code 54 = .ok (.invokevirtual 25, 3) := by decide +kernel
theorem d22_57 : decode method_3_code 57 = .ok (.bipush 92, 2) := by decide +kernel
theorem d22_59 : decode method_3_code 59 = .ok (.if_icmp .ne 52, 3) := by decide +kernel
theorem d22_62 : decode method_3_code 62 = .ok (.aload_n 0, 1) := by decide +kernel
theorem d22_63 : decode method_3_code 63 = .ok (.iload_n 1, 1) := by decide +kernel
theorem d22_64 : decode method_3_code 64 = .ok (.iconst 1, 1) := by decide +kernel
theorem d22_65 : decode method_3_code 65 = .ok (.iadd, 1) := by decide +kernel
theorem d22_66 : decode method_3_code 66 = .ok (.invokevirtual 25, 3) := by decide +kernel
theorem d22_69 : decode method_3_code 69 = .ok (.bipush 120, 2) := by decide +kernel
theorem d22_71 : decode method_3_code 71 = .ok (.if_icmp .ne 40, 3) := by decide +kernel
theorem d22_74 : decode method_3_code 74 = .ok (.aload_n 0, 1) := by decide +kernel
theorem d22_75 : decode method_3_code 75 = .ok (.iload_n 1, 1) := by decide +kernel
theorem d22_76 : decode method_3_code 76 = .ok (.iconst 2, 1) := by decide +kernel
theorem d22_77 : decode method_3_code 77 = .ok (.iadd, 1) := by decide +kernel
theorem d22_78 : decode method_3_code 78 = .ok (.invokevirtual 25, 3) := by decide +kernel
theorem d22_81 : decode method_3_code 81 = .ok (.iload_n 2, 1) := by decide +kernel
theorem d22_82 : decode method_3_code 82 = .ok (.iconst 4, 1) := by decide +kernel
theorem d22_83 : decode method_3_code 83 = .ok (.ishr, 1) := by decide +kernel
theorem d22_84 : decode method_3_code 84 = .ok (.invokestatic 29, 3) := by decide +kernel
theorem d22_87 : decode method_3_code 87 = .ok (.if_icmp .ne 24, 3) := by decide +kernel
theorem d22_90 : decode method_3_code 90 = .ok (.aload_n 0, 1) := by decide +kernel
theorem d22_91 : decode method_3_code 91 = .ok (.iload_n 1, 1) := by decide +kernel
theorem d22_92 : decode method_3_code 92 = .ok (.iconst 3, 1) := by decide +kernel
theorem d22_93 : decode method_3_code 93 = .ok (.iadd, 1) := by decide +kernel
theorem d22_94 : decode method_3_code 94 = .ok (.invokevirtual 25, 3) := by decide +kernel
theorem d22_97 : decode method_3_code 97 = .ok (.iload_n 2, 1) := by decide +kernel
theorem d22_98 : decode method_3_code 98 = .ok (.bipush 15, 2) := by decide +kernel
theorem d22_100 : decode method_3_code 100 = .ok (.iand, 1) := by decide +kernel
theorem d22_101 : decode method_3_code 101 = .ok (.invokestatic 29, 3) := by decide +kernel
theorem d22_104 : decode method_3_code 104 = .ok (.if_icmp .ne 7, 3) := by decide +kernel
theorem d22_107 : decode method_3_code 107 = .ok (.iload_n 1, 1) := by decide +kernel
theorem d22_108 : decode method_3_code 108 = .ok (.iconst 4, 1) := by decide +kernel
theorem d22_109 : decode method_3_code 109 = .ok (.iadd, 1) := by decide +kernel
theorem d22_110 : decode method_3_code 110 = .ok (.ireturn, 1) := by decide +kernel
def Q_rmSt1 (Z : State) (a1 : Addr) (cs : Int32) (va : Addr) (k1 : ClassId) (zl : Int32) (lv : List Value) (sf : Value) (p2 p3 : Int32) (u1 u2 u3 u4 : Int32) (h0 : Heap) (n0 : Nat) (v : Option Value) (h : Heap) (L : List Loc) : Prop := v = some (.int (p2 + (4 : Int32))) ∧ Fr n0 L ∧ h = h0
set_option maxRecDepth 65536 in
set_option maxHeartbeats 40000000 in
theorem rmSt1 (l : Launch) (Z : State) (a0 : Array Value) (hw : ∀ d ∈ tables_1, d.before a0 Z = true) (ws : List Jvm.Cond) (a1 : Addr) (cs : Int32) (va : Addr) (k1 : ClassId) (zl : Int32) (lv : List Value) (sf : Value) (p2 p3 : Int32) (u1 u2 u3 u4 : Int32) (h0 : Heap) (n0 : Nat) (Z0 : n0 ≤ h0.size) (EX_a1 : Exa Z h0 a1 "java/lang/String") (F_value_a1 : Fld Z h0 a1 "java/lang/String" "value" "[B" (.ref va)) (F_coder_a1 : Fld Z h0 a1 "java/lang/String" "coder" "B" (.int (0 : Int32))) (V_va : Arv Z h0 va k1 .byte zl lv (.int (0 : Int32))) (S_COMPACT_STRINGS : Sta Z h0 "java/lang/String" "COMPACT_STRINGS" "Z" (.int cs)) (S_SIOOBE_FORMATTER : Sta Z h0 "jdk/internal/util/Preconditions" "SIOOBE_FORMATTER" "Ljava/util/function/BiFunction;" sf) (hc_q1 : own_esc p3) (hc_q3 : ¬ (cs = (0 : Int32))) (hc_q4 : ¬ ((zl >>> ((0 : Int32) &&& 31)) < (p2 + (4 : Int32)))) (hc_q6 : sf = .null ∨ ∃ a, sf = .ref a) (hc_q7 : ¬ (p2 < (0 : Int32))) (hc_q8 : p2 < zl) (hc_q9 : ¬ p2 < 0 ∧ p2 < zl) (hc_q10 : lv.getD (p2).toNatClampNeg (.int (0 : Int32)) = .int u1) (hc_q11 : (nar .char (nar .char ((u1 &&& (255 : Int32)).toUInt32.toUInt16.toUInt32.toInt32))) = (92 : Int32)) (hc_q13 : ¬ ((p2 + (1 : Int32)) < (0 : Int32))) (hc_q14 : (p2 + (1 : Int32)) < zl) (hc_q15 : ¬ (p2 + (1 : Int32)) < 0 ∧ (p2 + (1 : Int32)) < zl) (hc_q16 : lv.getD ((p2 + (1 : Int32))).toNatClampNeg (.int (0 : Int32)) = .int u2) (hc_q17 : (nar .char (nar .char ((u2 &&& (255 : Int32)).toUInt32.toUInt16.toUInt32.toInt32))) = (120 : Int32)) (hc_q19 : ¬ ((p2 + (2 : Int32)) < (0 : Int32))) (hc_q20 : (p2 + (2 : Int32)) < zl) (hc_q21 : ¬ (p2 + (2 : Int32)) < 0 ∧ (p2 + (2 : Int32)) < zl) (hc_q22 : lv.getD ((p2 + (2 : Int32))).toNatClampNeg (.int (0 : Int32)) = .int u3) (hc_q24 : (nar .char (nar .char ((u3 &&& (255 : Int32)).toUInt32.toUInt16.toUInt32.toInt32))) = (F30_0 (p3 >>> ((4 : Int32) &&& 31)))) (hc_q26 : ¬ ((p2 + (3 : Int32)) < (0 : Int32))) (hc_q27 : (p2 + (3 : Int32)) < zl) (hc_q28 : ¬ (p2 + (3 : Int32)) < 0 ∧ (p2 + (3 : Int32)) < zl) (hc_q29 : lv.getD ((p2 + (3 : Int32))).toNatClampNeg (.int (0 : Int32)) = .int u4) (hc_q31 : (nar .char (nar .char ((u4 &&& (255 : Int32)).toUInt32.toUInt16.toUInt32.toInt32))) = (F30_0 (p3 &&& (15 : Int32)))) :
    MetFree l (⟨"com/example/presplit/presplit/escape/BinaryEscapeEncodePinLaw", "step", "(Ljava/lang/String;II)I"⟩ : MethodName) (head1 (Jvm.Cond.code (⟨"com/example/presplit/presplit/escape/BinaryEscapeEncodePinLaw", "step", "(Ljava/lang/String;II)I"⟩ : MethodName) method_3_code 3 (some .int) :: ws) ({ frames := 4, cells := 0, slots := 0, locals := 61 } : Room)) (fun a U => a = #[(.ref a1), (.int p2), (.int p3)] ∧ Z.Warmed39 U.vm ∧ U.heap = h0) (fun _ _ _ _ _ => True) (fun _ U o U' => ∃ v L, o = .returned v ∧ Q_rmSt1 Z a1 cs va k1 zl lv sf p2 p3 u1 u2 u3 u4 h0 n0 v U'.heap L ∧ FrameEnd U o U' L ({ frames := 4, cells := 0, slots := 0, locals := 61 } : Room).cells ({ frames := 4, cells := 0, slots := 0, locals := 61 } : Room).slots) := by
  refine MetFree.of_bodySF (plainFor_of_name pn_22) hisR ?_
  intro p e s m args below meth c s₁ Bd hml0 hP hK
  obtain ⟨rfl, hZ, hh⟩ := hP
  have hx := Bd.exec
  have hby := Bd.bytes
  have hml : c.maxLocals = 3 := hml0
  have hown : s.vm.findClass "com/example/presplit/presplit/escape/BinaryEscapeEncodePinLaw" = some m.cls := findClass_of_methodNamed Bd.named
  have hnm := (name_of_methodNamed Bd.named Bd.method).1
  have X0 : Stand p l e ({ frames := 4, cells := 0, slots := 0, locals := 61 } : Room) s m #[(.ref a1), (.int p2), (.int p3)] below meth c s₁ [] 0 0 := Stand.of_body Bd
  have e0 : s₁.heap = h0 := by rw [← hh, Bd.state]; rfl
  have N0 := Fr.nil n0
  have pre0 : ∀ t, Steps p.tables e below (s₁.setTop (mkF m 0 #[.val (.ref a1), .val (.int p2), .val (.int p3)] [])) t → Steps p.tables e below (s₁.setTop (entryFrame m #[(.ref a1), (.int p2), (.int p3)] 3)) t := fun t k => castTop (ef_22 m a1 p2 p3) k
  have K0 : Keep h0 h0 [] := Keep.refl _ _
  obtain ⟨cq_q2, kq_q2, qa_q2, qb_q2, qc_q2⟩ := isOf hZ e0 EX_a1
  obtain ⟨_, _, ⟨T_q2, L_q2, k_q2, n_q2⟩, -, X_q2, ⟨Lc_q2, hQ_q2, l_q2, y_q2, z_q2⟩, st_q2⟩ := X0.virtualBack hx (y := (⟨"java/lang/String", "length", "()I"⟩ : MethodName)) (z := (⟨"java/lang/String", "length", "()I"⟩ : MethodName)) hown (mvT hZ (own_w hw 129 rfl)) (mvT hZ (own_w hw 130 rfl)) (notFace_of_selects (args := #[]) (mvT hZ (own_w hw 132 rfl))) (mvT hZ (own_w hw 132 rfl)) (mvT hZ (own_w hw 131 rfl)) (by decide) (backOf (W := 1) (rmLn l Z a0 hw [] a1 va k1 zl lv cs h0 n0 (Nat.le_trans Z0 K0.1) EX_a1 F_value_a1 F_coder_a1 V_va S_COMPACT_STRINGS hc_q3) hZ (own_w hw 133 rfl) (own_w hw 21 rfl) (by decide) (by decide)) qa_q2 qc_q2 (g := (mkF m 46 #[.val (.ref a1), .val (.int p2), .val (.int p3)] [(.ref a1), (.int (p2 + (4 : Int32)))])) rfl (by rw [hml]; rfl) (Steps.refl _) (argsL := []) (rest := [(.int (p2 + (4 : Int32)))]) (lenOf pd___I rfl) rfl (by show 2 * 0 + _ ≤ _; exact Nat.le_of_eq rfl) (hb hby d22_46) (fun _ _ => ⟨rfl, e0, (by decide : 0 + 0 ≤ _), (by decide : 0 + 0 ≤ _)⟩)
  dsimp only [Pt.U, Pt.locs, Pt.cells, Pt.slots] at X_q2 l_q2 y_q2 z_q2 st_q2 hQ_q2
  subst l_q2 y_q2 z_q2
  obtain ⟨rfl, Nq_q2, eq_q2⟩ := hQ_q2
  have Kq_q2 : Keep h0 T_q2.heap [] := by rw [eq_q2]; exact Keep.refl _ _
  have N_q2 := Fr.app N0 Nq_q2
  have EX_a1__q2 := EX_a1.keep Kq_q2
  have F_value_a1__q2 := F_value_a1.keep Kq_q2 nin0
  have F_coder_a1__q2 := F_coder_a1.keep Kq_q2 nin0
  have V_va__q2 := V_va.keep Kq_q2 nin0
  have S_COMPACT_STRINGS__q2 := own_sta_keep S_COMPACT_STRINGS Kq_q2 all0
  have S_SIOOBE_FORMATTER__q2 := own_sta_keep S_SIOOBE_FORMATTER Kq_q2 all0
  have K_q2 : Keep h0 T_q2.heap [] := K0.trans Kq_q2 all0
  obtain ⟨cq_q5, kq_q5, qa_q5, qb_q5, qc_q5⟩ := isOf hZ rfl EX_a1__q2
  obtain ⟨_, _, ⟨T_q5, L_q5, k_q5, n_q5⟩, -, X_q5, ⟨Lc_q5, hQ_q5, l_q5, y_q5, z_q5⟩, st_q5⟩ := X_q2.virtualBack hx (y := (⟨"java/lang/String", "charAt", "(I)C"⟩ : MethodName)) (z := (⟨"java/lang/String", "charAt", "(I)C"⟩ : MethodName)) hown (mvT hZ (own_w hw 140 rfl)) (mvT hZ (own_w hw 141 rfl)) (notFace_of_selects (args := #[]) (mvT hZ (own_w hw 143 rfl))) (mvT hZ (own_w hw 143 rfl)) (mvT hZ (own_w hw 142 rfl)) (by decide) (backOf (W := 0) (rmCh l Z a0 hw [] a1 cs va k1 zl lv sf p2 u1 T_q2.heap n0 (Nat.le_trans Z0 K_q2.1) EX_a1__q2 F_value_a1__q2 F_coder_a1__q2 V_va__q2 S_COMPACT_STRINGS__q2 S_SIOOBE_FORMATTER__q2 hc_q3 hc_q6 hc_q7 hc_q8 hc_q9 hc_q10) hZ (own_w hw 144 rfl) (own_w hw 21 rfl) (by decide) (by decide)) qa_q5 qc_q5 (g := (mkF m 54 #[.val (.ref a1), .val (.int p2), .val (.int p3)] [(.int p2), (.ref a1)])) rfl (by rw [hml]; rfl) (Steps.refl _) (argsL := [(.int p2)]) (rest := []) (lenOf pd__I_C rfl) rfl (by show 2 * 0 + _ ≤ _; exact Nat.le_of_eq rfl) (hb hby d22_54) (fun _ _ => ⟨rfl, rfl, (by decide : 0 + 0 ≤ _), (by decide : 0 + 0 ≤ _)⟩)
  dsimp only [Pt.U, Pt.locs, Pt.cells, Pt.slots] at X_q5 l_q5 y_q5 z_q5 st_q5 hQ_q5
  subst l_q5 y_q5 z_q5
  obtain ⟨rfl, Nq_q5, eq_q5⟩ := hQ_q5
  have Kq_q5 : Keep T_q2.heap T_q5.heap [] := by rw [eq_q5]; exact Keep.refl _ _
  have N_q5 := Fr.app N_q2 Nq_q5
  have EX_a1__q5 := EX_a1__q2.keep Kq_q5
  have F_value_a1__q5 := F_value_a1__q2.keep Kq_q5 nin0
  have F_coder_a1__q5 := F_coder_a1__q2.keep Kq_q5 nin0
  have V_va__q5 := V_va__q2.keep Kq_q5 nin0
  have S_COMPACT_STRINGS__q5 := own_sta_keep S_COMPACT_STRINGS__q2 Kq_q5 all0
  have S_SIOOBE_FORMATTER__q5 := own_sta_keep S_SIOOBE_FORMATTER__q2 Kq_q5 all0
  have K_q5 : Keep h0 T_q5.heap [] := K_q2.trans Kq_q5 all0
  obtain ⟨cq_q12, kq_q12, qa_q12, qb_q12, qc_q12⟩ := isOf hZ rfl EX_a1__q5
  obtain ⟨_, _, ⟨T_q12, L_q12, k_q12, n_q12⟩, -, X_q12, ⟨Lc_q12, hQ_q12, l_q12, y_q12, z_q12⟩, st_q12⟩ := X_q5.virtualBack hx (y := (⟨"java/lang/String", "charAt", "(I)C"⟩ : MethodName)) (z := (⟨"java/lang/String", "charAt", "(I)C"⟩ : MethodName)) hown (mvT hZ (own_w hw 140 rfl)) (mvT hZ (own_w hw 141 rfl)) (notFace_of_selects (args := #[]) (mvT hZ (own_w hw 143 rfl))) (mvT hZ (own_w hw 143 rfl)) (mvT hZ (own_w hw 142 rfl)) (by decide) (backOf (W := 0) (rmCh l Z a0 hw [] a1 cs va k1 zl lv sf (p2 + (1 : Int32)) u2 T_q5.heap n0 (Nat.le_trans Z0 K_q5.1) EX_a1__q5 F_value_a1__q5 F_coder_a1__q5 V_va__q5 S_COMPACT_STRINGS__q5 S_SIOOBE_FORMATTER__q5 hc_q3 hc_q6 hc_q13 hc_q14 hc_q15 hc_q16) hZ (own_w hw 144 rfl) (own_w hw 21 rfl) (by decide) (by decide)) qa_q12 qc_q12 (g := (mkF m 66 #[.val (.ref a1), .val (.int p2), .val (.int p3)] [(.int (p2 + (1 : Int32))), (.ref a1)])) rfl (by rw [hml]; rfl) (Steps.refl _) (argsL := [(.int (p2 + (1 : Int32)))]) (rest := []) (lenOf pd__I_C rfl) rfl (by show 2 * 0 + _ ≤ _; exact Nat.le_of_eq rfl) (hb hby d22_66) (fun _ _ => ⟨rfl, rfl, (by decide : 0 + 0 ≤ _), (by decide : 0 + 0 ≤ _)⟩)
  dsimp only [Pt.U, Pt.locs, Pt.cells, Pt.slots] at X_q12 l_q12 y_q12 z_q12 st_q12 hQ_q12
  subst l_q12 y_q12 z_q12
  obtain ⟨rfl, Nq_q12, eq_q12⟩ := hQ_q12
  have Kq_q12 : Keep T_q5.heap T_q12.heap [] := by rw [eq_q12]; exact Keep.refl _ _
  have N_q12 := Fr.app N_q5 Nq_q12
  have EX_a1__q12 := EX_a1__q5.keep Kq_q12
  have F_value_a1__q12 := F_value_a1__q5.keep Kq_q12 nin0
  have F_coder_a1__q12 := F_coder_a1__q5.keep Kq_q12 nin0
  have V_va__q12 := V_va__q5.keep Kq_q12 nin0
  have S_COMPACT_STRINGS__q12 := own_sta_keep S_COMPACT_STRINGS__q5 Kq_q12 all0
  have S_SIOOBE_FORMATTER__q12 := own_sta_keep S_SIOOBE_FORMATTER__q5 Kq_q12 all0
  have K_q12 : Keep h0 T_q12.heap [] := K_q5.trans Kq_q12 all0
  obtain ⟨cq_q18, kq_q18, qa_q18, qb_q18, qc_q18⟩ := isOf hZ rfl EX_a1__q12
  obtain ⟨_, _, ⟨T_q18, L_q18, k_q18, n_q18⟩, -, X_q18, ⟨Lc_q18, hQ_q18, l_q18, y_q18, z_q18⟩, st_q18⟩ := X_q12.virtualBack hx (y := (⟨"java/lang/String", "charAt", "(I)C"⟩ : MethodName)) (z := (⟨"java/lang/String", "charAt", "(I)C"⟩ : MethodName)) hown (mvT hZ (own_w hw 140 rfl)) (mvT hZ (own_w hw 141 rfl)) (notFace_of_selects (args := #[]) (mvT hZ (own_w hw 143 rfl))) (mvT hZ (own_w hw 143 rfl)) (mvT hZ (own_w hw 142 rfl)) (by decide) (backOf (W := 0) (rmCh l Z a0 hw [] a1 cs va k1 zl lv sf (p2 + (2 : Int32)) u3 T_q12.heap n0 (Nat.le_trans Z0 K_q12.1) EX_a1__q12 F_value_a1__q12 F_coder_a1__q12 V_va__q12 S_COMPACT_STRINGS__q12 S_SIOOBE_FORMATTER__q12 hc_q3 hc_q6 hc_q19 hc_q20 hc_q21 hc_q22) hZ (own_w hw 144 rfl) (own_w hw 21 rfl) (by decide) (by decide)) qa_q18 qc_q18 (g := (mkF m 78 #[.val (.ref a1), .val (.int p2), .val (.int p3)] [(.int (p2 + (2 : Int32))), (.ref a1)])) rfl (by rw [hml]; rfl) (Steps.refl _) (argsL := [(.int (p2 + (2 : Int32)))]) (rest := []) (lenOf pd__I_C rfl) rfl (by show 2 * 0 + _ ≤ _; exact Nat.le_of_eq rfl) (hb hby d22_78) (fun _ _ => ⟨rfl, rfl, (by decide : 0 + 0 ≤ _), (by decide : 0 + 0 ≤ _)⟩)
  dsimp only [Pt.U, Pt.locs, Pt.cells, Pt.slots] at X_q18 l_q18 y_q18 z_q18 st_q18 hQ_q18
  subst l_q18 y_q18 z_q18
  obtain ⟨rfl, Nq_q18, eq_q18⟩ := hQ_q18
  have Kq_q18 : Keep T_q12.heap T_q18.heap [] := by rw [eq_q18]; exact Keep.refl _ _
  have N_q18 := Fr.app N_q12 Nq_q18
  have EX_a1__q18 := EX_a1__q12.keep Kq_q18
  have F_value_a1__q18 := F_value_a1__q12.keep Kq_q18 nin0
  have F_coder_a1__q18 := F_coder_a1__q12.keep Kq_q18 nin0
  have V_va__q18 := V_va__q12.keep Kq_q18 nin0
  have S_COMPACT_STRINGS__q18 := own_sta_keep S_COMPACT_STRINGS__q12 Kq_q18 all0
  have S_SIOOBE_FORMATTER__q18 := own_sta_keep S_SIOOBE_FORMATTER__q12 Kq_q18 all0
  have K_q18 : Keep h0 T_q18.heap [] := K_q12.trans Kq_q18 all0
  obtain ⟨_, _, ⟨T_q23, L_q23, k_q23, n_q23⟩, -, X_q23, ⟨Lc_q23, hQ_q23, l_q23, y_q23, z_q23⟩, st_q23⟩ := Jvm.LawKit.callS X_q18 hx (y := (⟨"com/example/presplit/presplit/escape/BinaryEscapeEncodePinLaw", "hex", "(I)C"⟩ : MethodName)) hown (mvT hZ (own_w hw 161 rfl)) (mvT hZ (own_w hw 162 rfl)) (mvT hZ (own_w hw 127 rfl)) (mvT hZ (own_w hw 163 rfl)) (by decide) (backOf (W := 1) (rm30 l Z a0 hw [] (p3 >>> ((4 : Int32) &&& 31)) T_q18.heap n0 (Nat.le_trans Z0 K_q18.1)) hZ (own_w hw 163 rfl) (own_w hw 127 rfl) (by decide) (by decide)) (g := (mkF m 84 #[.val (.ref a1), .val (.int p2), .val (.int p3)] [(.int (p3 >>> ((4 : Int32) &&& 31))), (.int (nar .char (nar .char ((u3 &&& (255 : Int32)).toUInt32.toUInt16.toUInt32.toInt32))))])) rfl (by rw [hml]; rfl) (argsL := [(.int (p3 >>> ((4 : Int32) &&& 31)))]) (rest := [(.int (nar .char (nar .char ((u3 &&& (255 : Int32)).toUInt32.toUInt16.toUInt32.toInt32))))]) (lenOf pd__I_C rfl) rfl (by show 2 * 0 + _ ≤ _; exact Nat.le_of_eq rfl) (hb hby d22_84) (fun _ _ => ⟨rfl, rfl, (by decide : 0 + 0 ≤ _), (by decide : 0 + 0 ≤ _)⟩)
  dsimp only [Pt.U, Pt.locs, Pt.cells, Pt.slots] at X_q23 l_q23 y_q23 z_q23 st_q23 hQ_q23
  subst l_q23 y_q23 z_q23
  obtain ⟨rfl, Nq_q23, eq_q23⟩ := hQ_q23
  have Kq_q23 : Keep T_q18.heap T_q23.heap [] := by rw [eq_q23]; exact Keep.refl _ _
  have N_q23 := Fr.app N_q18 Nq_q23
  have EX_a1__q23 := EX_a1__q18.keep Kq_q23
  have F_value_a1__q23 := F_value_a1__q18.keep Kq_q23 nin0
  have F_coder_a1__q23 := F_coder_a1__q18.keep Kq_q23 nin0
  have V_va__q23 := V_va__q18.keep Kq_q23 nin0
  have S_COMPACT_STRINGS__q23 := own_sta_keep S_COMPACT_STRINGS__q18 Kq_q23 all0
  have S_SIOOBE_FORMATTER__q23 := own_sta_keep S_SIOOBE_FORMATTER__q18 Kq_q23 all0
  have K_q23 : Keep h0 T_q23.heap [] := K_q18.trans Kq_q23 all0
  obtain ⟨cq_q25, kq_q25, qa_q25, qb_q25, qc_q25⟩ := isOf hZ rfl EX_a1__q23
  obtain ⟨_, _, ⟨T_q25, L_q25, k_q25, n_q25⟩, -, X_q25, ⟨Lc_q25, hQ_q25, l_q25, y_q25, z_q25⟩, st_q25⟩ := X_q23.virtualBack hx (y := (⟨"java/lang/String", "charAt", "(I)C"⟩ : MethodName)) (z := (⟨"java/lang/String", "charAt", "(I)C"⟩ : MethodName)) hown (mvT hZ (own_w hw 140 rfl)) (mvT hZ (own_w hw 141 rfl)) (notFace_of_selects (args := #[]) (mvT hZ (own_w hw 143 rfl))) (mvT hZ (own_w hw 143 rfl)) (mvT hZ (own_w hw 142 rfl)) (by decide) (backOf (W := 0) (rmCh l Z a0 hw [] a1 cs va k1 zl lv sf (p2 + (3 : Int32)) u4 T_q23.heap n0 (Nat.le_trans Z0 K_q23.1) EX_a1__q23 F_value_a1__q23 F_coder_a1__q23 V_va__q23 S_COMPACT_STRINGS__q23 S_SIOOBE_FORMATTER__q23 hc_q3 hc_q6 hc_q26 hc_q27 hc_q28 hc_q29) hZ (own_w hw 144 rfl) (own_w hw 21 rfl) (by decide) (by decide)) qa_q25 qc_q25 (g := (mkF m 94 #[.val (.ref a1), .val (.int p2), .val (.int p3)] [(.int (p2 + (3 : Int32))), (.ref a1)])) rfl (by rw [hml]; rfl) (Steps.refl _) (argsL := [(.int (p2 + (3 : Int32)))]) (rest := []) (lenOf pd__I_C rfl) rfl (by show 2 * 0 + _ ≤ _; exact Nat.le_of_eq rfl) (hb hby d22_94) (fun _ _ => ⟨rfl, rfl, (by decide : 0 + 0 ≤ _), (by decide : 0 + 0 ≤ _)⟩)
  dsimp only [Pt.U, Pt.locs, Pt.cells, Pt.slots] at X_q25 l_q25 y_q25 z_q25 st_q25 hQ_q25
  subst l_q25 y_q25 z_q25
  obtain ⟨rfl, Nq_q25, eq_q25⟩ := hQ_q25
  have Kq_q25 : Keep T_q23.heap T_q25.heap [] := by rw [eq_q25]; exact Keep.refl _ _
  have N_q25 := Fr.app N_q23 Nq_q25
  have K_q25 : Keep h0 T_q25.heap [] := K_q23.trans Kq_q25 all0
  obtain ⟨_, _, ⟨T_q30, L_q30, k_q30, n_q30⟩, -, X_q30, ⟨Lc_q30, hQ_q30, l_q30, y_q30, z_q30⟩, st_q30⟩ := Jvm.LawKit.callS X_q25 hx (y := (⟨"com/example/presplit/presplit/escape/BinaryEscapeEncodePinLaw", "hex", "(I)C"⟩ : MethodName)) hown (mvT hZ (own_w hw 161 rfl)) (mvT hZ (own_w hw 162 rfl)) (mvT hZ (own_w hw 127 rfl)) (mvT hZ (own_w hw 163 rfl)) (by decide) (backOf (W := 1) (rm30 l Z a0 hw [] (p3 &&& (15 : Int32)) T_q25.heap n0 (Nat.le_trans Z0 K_q25.1)) hZ (own_w hw 163 rfl) (own_w hw 127 rfl) (by decide) (by decide)) (g := (mkF m 101 #[.val (.ref a1), .val (.int p2), .val (.int p3)] [(.int (p3 &&& (15 : Int32))), (.int (nar .char (nar .char ((u4 &&& (255 : Int32)).toUInt32.toUInt16.toUInt32.toInt32))))])) rfl (by rw [hml]; rfl) (argsL := [(.int (p3 &&& (15 : Int32)))]) (rest := [(.int (nar .char (nar .char ((u4 &&& (255 : Int32)).toUInt32.toUInt16.toUInt32.toInt32))))]) (lenOf pd__I_C rfl) rfl (by show 2 * 0 + _ ≤ _; exact Nat.le_of_eq rfl) (hb hby d22_101) (fun _ _ => ⟨rfl, rfl, (by decide : 0 + 0 ≤ _), (by decide : 0 + 0 ≤ _)⟩)
  dsimp only [Pt.U, Pt.locs, Pt.cells, Pt.slots] at X_q30 l_q30 y_q30 z_q30 st_q30 hQ_q30
  subst l_q30 y_q30 z_q30
  obtain ⟨rfl, Nq_q30, eq_q30⟩ := hQ_q30
  have N_q30 := Fr.app N_q25 Nq_q30
  obtain ⟨fs, hr, hrun, hended, hW, hsame⟩ := X_q30.leave (v := some (.int (p2 + (4 : Int32)))) (fun h => by rw [Bd.returns] at h; cases h) Bd.notSynchronized
  refine ⟨_, _, pre0 _ ?_, hrun, hended, _, _, rfl, ?_, ⟨_, rfl⟩, hW, hsame.mono (by decide) (by decide)⟩
  · show Steps p.tables e below (s₁.setTop (mkF m 0 #[.val (.ref a1), .val (.int p2), .val (.int p3)] [])) _
    refine own_cs_E a1 p2 p3 X0 hx hby hc_q1 ?_
    refine XS.iloadN X0.here hx rfl (hb hby d22_42) rfl ?_
    refine XS.iconst X0.here hx rfl (hb hby d22_43) ?_
    refine XS.iadd X0.here hx rfl (hb hby d22_44) rfl ?_
    show Steps p.tables e below (s₁.setTop (mkF m 45 #[.val (.ref a1), .val (.int p2), .val (.int p3)] [(.int (p2 + (4 : Int32)))])) _
    refine XS.aloadN X0.here hx rfl (hb hby d22_45) rfl rfl ?_
    show Steps p.tables e below (s₁.setTop (mkF m 46 #[.val (.ref a1), .val (.int p2), .val (.int p3)] [(.ref a1), (.int (p2 + (4 : Int32)))])) _
    refine st_q2.trans ?_
    refine XS.icmpNo X_q2.here hx rfl (hb hby d22_49) rfl (flt hc_q4).2.2.1 ?_
    refine XS.aloadN X_q2.here hx rfl (hb hby d22_52) rfl rfl ?_
    refine XS.iloadN X_q2.here hx rfl (hb hby d22_53) rfl ?_
    show Steps p.tables e below (T_q2.setTop (mkF m 54 #[.val (.ref a1), .val (.int p2), .val (.int p3)] [(.int p2), (.ref a1)])) _
    refine st_q5.trans ?_
    refine XS.bipush X_q5.here hx rfl (hb hby d22_57) ?_
    refine XS.icmpNo X_q5.here hx rfl (hb hby d22_59) rfl (teq hc_q11).2 ?_
    refine XS.aloadN X_q5.here hx rfl (hb hby d22_62) rfl rfl ?_
    show Steps p.tables e below (T_q5.setTop (mkF m 63 #[.val (.ref a1), .val (.int p2), .val (.int p3)] [(.ref a1)])) _
    refine XS.iloadN X_q5.here hx rfl (hb hby d22_63) rfl ?_
    refine XS.iconst X_q5.here hx rfl (hb hby d22_64) ?_
    refine XS.iadd X_q5.here hx rfl (hb hby d22_65) rfl ?_
    show Steps p.tables e below (T_q5.setTop (mkF m 66 #[.val (.ref a1), .val (.int p2), .val (.int p3)] [(.int (p2 + (1 : Int32))), (.ref a1)])) _
    refine st_q12.trans ?_
    refine XS.bipush X_q12.here hx rfl (hb hby d22_69) ?_
    refine XS.icmpNo X_q12.here hx rfl (hb hby d22_71) rfl (teq hc_q17).2 ?_
    refine XS.aloadN X_q12.here hx rfl (hb hby d22_74) rfl rfl ?_
    show Steps p.tables e below (T_q12.setTop (mkF m 75 #[.val (.ref a1), .val (.int p2), .val (.int p3)] [(.ref a1)])) _
    refine XS.iloadN X_q12.here hx rfl (hb hby d22_75) rfl ?_
    refine XS.iconst X_q12.here hx rfl (hb hby d22_76) ?_
    refine XS.iadd X_q12.here hx rfl (hb hby d22_77) rfl ?_
    show Steps p.tables e below (T_q12.setTop (mkF m 78 #[.val (.ref a1), .val (.int p2), .val (.int p3)] [(.int (p2 + (2 : Int32))), (.ref a1)])) _
    refine st_q18.trans ?_
    refine XS.iloadN X_q18.here hx rfl (hb hby d22_81) rfl ?_
    refine XS.iconst X_q18.here hx rfl (hb hby d22_82) ?_
    refine XS.ishr X_q18.here hx rfl (hb hby d22_83) rfl ?_
    show Steps p.tables e below (T_q18.setTop (mkF m 84 #[.val (.ref a1), .val (.int p2), .val (.int p3)] [(.int (p3 >>> ((4 : Int32) &&& 31))), (.int (nar .char (nar .char ((u3 &&& (255 : Int32)).toUInt32.toUInt16.toUInt32.toInt32))))])) _
    refine st_q23 _ ?_
    refine XS.icmpNo X_q23.here hx rfl (hb hby d22_87) rfl (teq hc_q24).2 ?_
    refine XS.aloadN X_q23.here hx rfl (hb hby d22_90) rfl rfl ?_
    refine XS.iloadN X_q23.here hx rfl (hb hby d22_91) rfl ?_
    show Steps p.tables e below (T_q23.setTop (mkF m 92 #[.val (.ref a1), .val (.int p2), .val (.int p3)] [(.int p2), (.ref a1)])) _
    refine XS.iconst X_q23.here hx rfl (hb hby d22_92) ?_
    refine XS.iadd X_q23.here hx rfl (hb hby d22_93) rfl ?_
    show Steps p.tables e below (T_q23.setTop (mkF m 94 #[.val (.ref a1), .val (.int p2), .val (.int p3)] [(.int (p2 + (3 : Int32))), (.ref a1)])) _
    refine st_q25.trans ?_
    refine XS.iloadN X_q25.here hx rfl (hb hby d22_97) rfl ?_
    refine XS.bipush X_q25.here hx rfl (hb hby d22_98) ?_
    refine XS.iand X_q25.here hx rfl (hb hby d22_100) rfl ?_
    show Steps p.tables e below (T_q25.setTop (mkF m 101 #[.val (.ref a1), .val (.int p2), .val (.int p3)] [(.int (p3 &&& (15 : Int32))), (.int (nar .char (nar .char ((u4 &&& (255 : Int32)).toUInt32.toUInt16.toUInt32.toInt32))))])) _
    refine st_q30 _ ?_
    refine XS.icmpNo X_q30.here hx rfl (hb hby d22_104) rfl (teq hc_q31).2 ?_
    refine XS.iloadN X_q30.here hx rfl (hb hby d22_107) rfl ?_
    refine XS.iconst X_q30.here hx rfl (hb hby d22_108) ?_
    show Steps p.tables e below (T_q30.setTop (mkF m 109 #[.val (.ref a1), .val (.int p2), .val (.int p3)] [(.int (4 : Int32)), (.int p2)])) _
    refine XS.iadd X_q30.here hx rfl (hb hby d22_109) rfl ?_
    show Steps p.tables e below (T_q30.setTop (mkF m 110 #[.val (.ref a1), .val (.int p2), .val (.int p3)] [(.int (p2 + (4 : Int32)))])) _
    exact retI X_q30 hx Bd.returns (hb hby d22_110) hr
  · show Q_rmSt1 Z a1 cs va k1 zl lv sf p2 p3 u1 u2 u3 u4 h0 n0 _ T_q30.heap _
    exact ⟨rfl, N_q30, by rw [eq_q30, eq_q25, eq_q23, eq_q18, eq_q12, eq_q5, eq_q2]⟩
def own_k0 (a : Int32) : Int32 := a.toUInt32.toUInt16.toUInt32.toInt32
def own_k2 (a : Int32) : Int32 := own_hx ((a.toUInt32 >>> ((4 : Int32) &&& 31).toUInt32).toInt32)
def own_k3 (a : Int32) : Int32 := own_hx (a &&& (15 : Int32))
theorem d1_38 : decode prog_1_method_2_code 38 = .ok (.iload 6, 2) := by decide +kernel
theorem d1_40 : decode prog_1_method_2_code 40 = .ok (.bipush 32, 2) := by decide +kernel
theorem d1_42 : decode prog_1_method_2_code 42 = .ok (.if_icmp .lt 28, 3) := by decide +kernel
theorem d1_45 : decode prog_1_method_2_code 45 = .ok (.iload 6, 2) := by decide +kernel
theorem d1_47 : decode prog_1_method_2_code 47 = .ok (.bipush 126, 2) := by decide +kernel
theorem d1_49 : decode prog_1_method_2_code 49 = .ok (.if_icmp .gt 21, 3) := by decide +kernel
theorem d1_52 : decode prog_1_method_2_code 52 = .ok (.iload 6, 2) := by decide +kernel
theorem d1_54 : decode prog_1_method_2_code 54 = .ok (.bipush 92, 2) := by decide +kernel
theorem d1_56 : decode prog_1_method_2_code 56 = .ok (.if_icmp .eq 14, 3) := by decide +kernel
theorem pn_1 : plainName "com/example/presplit/presplit/escape/BinaryEscape" = true := by first | (simp [plainName, overriddenIn]; done) | decide +kernel
theorem own_ce_p {p : Program} {l : Launch} {e : Env} {R : Room} {s : State} {m : MethodId} {args : Array Value} {below : List Frame} {meth : Method} {c : Code} {T0 : State} {locs : List Loc} {cells slots : Nat} (a1 sb a2 : Addr) (ln ix bb vv : Int32) (X0 : Stand p l e R s m args below meth c T0 locs cells slots) (hx : p.tables.exec = Jvm.exec) (hby : c.code = prog_1_method_2_code) (hc_q1 : ¬ (vv < (32 : Int32))) (hc_q2 : ¬ ((126 : Int32) < vv)) (hc_q3 : ¬ (vv = (92 : Int32))) {target : State} (kt : Steps p.tables e below (T0.setTop (mkF m 59 #[.val (.ref a1), .val (.ref sb), .val (.ref a2), .val (.int ln), .val (.int ix), .val (.int bb), .val (.int vv)] [])) target) : Steps p.tables e below (T0.setTop (mkF m 38 #[.val (.ref a1), .val (.ref sb), .val (.ref a2), .val (.int ln), .val (.int ix), .val (.int bb), .val (.int vv)] [])) target := by
  show Steps p.tables e below (T0.setTop (mkF m 38 #[.val (.ref a1), .val (.ref sb), .val (.ref a2), .val (.int ln), .val (.int ix), .val (.int bb), .val (.int vv)] [])) _
  refine XS.iload X0.here hx rfl (hb hby d1_38) rfl ?_
  show Steps p.tables e below (T0.setTop (mkF m 40 #[.val (.ref a1), .val (.ref sb), .val (.ref a2), .val (.int ln), .val (.int ix), .val (.int bb), .val (.int vv)] [(.int vv)])) _
  refine XS.bipush X0.here hx rfl (hb hby d1_40) ?_
  show Steps p.tables e below (T0.setTop (mkF m 42 #[.val (.ref a1), .val (.ref sb), .val (.ref a2), .val (.int ln), .val (.int ix), .val (.int bb), .val (.int vv)] [(.int (32 : Int32)), (.int vv)])) _
  refine XS.icmpNo X0.here hx rfl (hb hby d1_42) rfl (flt hc_q1).1 ?_
  show Steps p.tables e below (T0.setTop (mkF m 45 #[.val (.ref a1), .val (.ref sb), .val (.ref a2), .val (.int ln), .val (.int ix), .val (.int bb), .val (.int vv)] [])) _
  refine XS.iload X0.here hx rfl (hb hby d1_45) rfl ?_
  show Steps p.tables e below (T0.setTop (mkF m 47 #[.val (.ref a1), .val (.ref sb), .val (.ref a2), .val (.int ln), .val (.int ix), .val (.int bb), .val (.int vv)] [(.int vv)])) _
  refine XS.bipush X0.here hx rfl (hb hby d1_47) ?_
  show Steps p.tables e below (T0.setTop (mkF m 49 #[.val (.ref a1), .val (.ref sb), .val (.ref a2), .val (.int ln), .val (.int ix), .val (.int bb), .val (.int vv)] [(.int (126 : Int32)), (.int vv)])) _
  refine XS.icmpNo X0.here hx rfl (hb hby d1_49) rfl (flt hc_q2).2.2.1 ?_
  show Steps p.tables e below (T0.setTop (mkF m 52 #[.val (.ref a1), .val (.ref sb), .val (.ref a2), .val (.int ln), .val (.int ix), .val (.int bb), .val (.int vv)] [])) _
  refine XS.iload X0.here hx rfl (hb hby d1_52) rfl ?_
  show Steps p.tables e below (T0.setTop (mkF m 54 #[.val (.ref a1), .val (.ref sb), .val (.ref a2), .val (.int ln), .val (.int ix), .val (.int bb), .val (.int vv)] [(.int vv)])) _
  refine XS.bipush X0.here hx rfl (hb hby d1_54) ?_
  show Steps p.tables e below (T0.setTop (mkF m 56 #[.val (.ref a1), .val (.ref sb), .val (.ref a2), .val (.int ln), .val (.int ix), .val (.int bb), .val (.int vv)] [(.int (92 : Int32)), (.int vv)])) _
  refine XS.icmpNo X0.here hx rfl (hb hby d1_56) rfl (feq hc_q3).1 ?_
  exact kt
theorem own_ce_e1 {p : Program} {l : Launch} {e : Env} {R : Room} {s : State} {m : MethodId} {args : Array Value} {below : List Frame} {meth : Method} {c : Code} {T0 : State} {locs : List Loc} {cells slots : Nat} (a1 sb a2 : Addr) (ln ix bb vv : Int32) (X0 : Stand p l e R s m args below meth c T0 locs cells slots) (hx : p.tables.exec = Jvm.exec) (hby : c.code = prog_1_method_2_code) (hc_q1 : vv < (32 : Int32)) {target : State} (kt : Steps p.tables e below (T0.setTop (mkF m 70 #[.val (.ref a1), .val (.ref sb), .val (.ref a2), .val (.int ln), .val (.int ix), .val (.int bb), .val (.int vv)] [])) target) : Steps p.tables e below (T0.setTop (mkF m 38 #[.val (.ref a1), .val (.ref sb), .val (.ref a2), .val (.int ln), .val (.int ix), .val (.int bb), .val (.int vv)] [])) target := by
  show Steps p.tables e below (T0.setTop (mkF m 38 #[.val (.ref a1), .val (.ref sb), .val (.ref a2), .val (.int ln), .val (.int ix), .val (.int bb), .val (.int vv)] [])) _
  refine XS.iload X0.here hx rfl (hb hby d1_38) rfl ?_
  show Steps p.tables e below (T0.setTop (mkF m 40 #[.val (.ref a1), .val (.ref sb), .val (.ref a2), .val (.int ln), .val (.int ix), .val (.int bb), .val (.int vv)] [(.int vv)])) _
  refine XS.bipush X0.here hx rfl (hb hby d1_40) ?_
  show Steps p.tables e below (T0.setTop (mkF m 42 #[.val (.ref a1), .val (.ref sb), .val (.ref a2), .val (.int ln), .val (.int ix), .val (.int bb), .val (.int vv)] [(.int (32 : Int32)), (.int vv)])) _
  refine XS.icmpYes X0.here hx rfl (pc0 := 42) (pc' := 70) rfl (hb hby d1_42) rfl (tlt hc_q1).1 (by decide) (by decide) ?_
  exact kt
theorem own_ce_e2 {p : Program} {l : Launch} {e : Env} {R : Room} {s : State} {m : MethodId} {args : Array Value} {below : List Frame} {meth : Method} {c : Code} {T0 : State} {locs : List Loc} {cells slots : Nat} (a1 sb a2 : Addr) (ln ix bb vv : Int32) (X0 : Stand p l e R s m args below meth c T0 locs cells slots) (hx : p.tables.exec = Jvm.exec) (hby : c.code = prog_1_method_2_code) (hc_q1 : ¬ (vv < (32 : Int32))) (hc_q2 : (126 : Int32) < vv) {target : State} (kt : Steps p.tables e below (T0.setTop (mkF m 70 #[.val (.ref a1), .val (.ref sb), .val (.ref a2), .val (.int ln), .val (.int ix), .val (.int bb), .val (.int vv)] [])) target) : Steps p.tables e below (T0.setTop (mkF m 38 #[.val (.ref a1), .val (.ref sb), .val (.ref a2), .val (.int ln), .val (.int ix), .val (.int bb), .val (.int vv)] [])) target := by
  show Steps p.tables e below (T0.setTop (mkF m 38 #[.val (.ref a1), .val (.ref sb), .val (.ref a2), .val (.int ln), .val (.int ix), .val (.int bb), .val (.int vv)] [])) _
  refine XS.iload X0.here hx rfl (hb hby d1_38) rfl ?_
  show Steps p.tables e below (T0.setTop (mkF m 40 #[.val (.ref a1), .val (.ref sb), .val (.ref a2), .val (.int ln), .val (.int ix), .val (.int bb), .val (.int vv)] [(.int vv)])) _
  refine XS.bipush X0.here hx rfl (hb hby d1_40) ?_
  show Steps p.tables e below (T0.setTop (mkF m 42 #[.val (.ref a1), .val (.ref sb), .val (.ref a2), .val (.int ln), .val (.int ix), .val (.int bb), .val (.int vv)] [(.int (32 : Int32)), (.int vv)])) _
  refine XS.icmpNo X0.here hx rfl (hb hby d1_42) rfl (flt hc_q1).1 ?_
  show Steps p.tables e below (T0.setTop (mkF m 45 #[.val (.ref a1), .val (.ref sb), .val (.ref a2), .val (.int ln), .val (.int ix), .val (.int bb), .val (.int vv)] [])) _
  refine XS.iload X0.here hx rfl (hb hby d1_45) rfl ?_
  show Steps p.tables e below (T0.setTop (mkF m 47 #[.val (.ref a1), .val (.ref sb), .val (.ref a2), .val (.int ln), .val (.int ix), .val (.int bb), .val (.int vv)] [(.int vv)])) _
  refine XS.bipush X0.here hx rfl (hb hby d1_47) ?_
  show Steps p.tables e below (T0.setTop (mkF m 49 #[.val (.ref a1), .val (.ref sb), .val (.ref a2), .val (.int ln), .val (.int ix), .val (.int bb), .val (.int vv)] [(.int (126 : Int32)), (.int vv)])) _
  refine XS.icmpYes X0.here hx rfl (pc0 := 49) (pc' := 70) rfl (hb hby d1_49) rfl (tlt hc_q2).2.2.1 (by decide) (by decide) ?_
  exact kt
theorem own_ce_e3 {p : Program} {l : Launch} {e : Env} {R : Room} {s : State} {m : MethodId} {args : Array Value} {below : List Frame} {meth : Method} {c : Code} {T0 : State} {locs : List Loc} {cells slots : Nat} (a1 sb a2 : Addr) (ln ix bb vv : Int32) (X0 : Stand p l e R s m args below meth c T0 locs cells slots) (hx : p.tables.exec = Jvm.exec) (hby : c.code = prog_1_method_2_code) (hc_q1 : ¬ (vv < (32 : Int32))) (hc_q2 : ¬ ((126 : Int32) < vv)) (hc_q3 : vv = (92 : Int32)) {target : State} (kt : Steps p.tables e below (T0.setTop (mkF m 70 #[.val (.ref a1), .val (.ref sb), .val (.ref a2), .val (.int ln), .val (.int ix), .val (.int bb), .val (.int vv)] [])) target) : Steps p.tables e below (T0.setTop (mkF m 38 #[.val (.ref a1), .val (.ref sb), .val (.ref a2), .val (.int ln), .val (.int ix), .val (.int bb), .val (.int vv)] [])) target := by
  show Steps p.tables e below (T0.setTop (mkF m 38 #[.val (.ref a1), .val (.ref sb), .val (.ref a2), .val (.int ln), .val (.int ix), .val (.int bb), .val (.int vv)] [])) _
  refine XS.iload X0.here hx rfl (hb hby d1_38) rfl ?_
  show Steps p.tables e below (T0.setTop (mkF m 40 #[.val (.ref a1), .val (.ref sb), .val (.ref a2), .val (.int ln), .val (.int ix), .val (.int bb), .val (.int vv)] [(.int vv)])) _
  refine XS.bipush X0.here hx rfl (hb hby d1_40) ?_
  show Steps p.tables e below (T0.setTop (mkF m 42 #[.val (.ref a1), .val (.ref sb), .val (.ref a2), .val (.int ln), .val (.int ix), .val (.int bb), .val (.int vv)] [(.int (32 : Int32)), (.int vv)])) _
  refine XS.icmpNo X0.here hx rfl (hb hby d1_42) rfl (flt hc_q1).1 ?_
  show Steps p.tables e below (T0.setTop (mkF m 45 #[.val (.ref a1), .val (.ref sb), .val (.ref a2), .val (.int ln), .val (.int ix), .val (.int bb), .val (.int vv)] [])) _
  refine XS.iload X0.here hx rfl (hb hby d1_45) rfl ?_
  show Steps p.tables e below (T0.setTop (mkF m 47 #[.val (.ref a1), .val (.ref sb), .val (.ref a2), .val (.int ln), .val (.int ix), .val (.int bb), .val (.int vv)] [(.int vv)])) _
  refine XS.bipush X0.here hx rfl (hb hby d1_47) ?_
  show Steps p.tables e below (T0.setTop (mkF m 49 #[.val (.ref a1), .val (.ref sb), .val (.ref a2), .val (.int ln), .val (.int ix), .val (.int bb), .val (.int vv)] [(.int (126 : Int32)), (.int vv)])) _
  refine XS.icmpNo X0.here hx rfl (hb hby d1_49) rfl (flt hc_q2).2.2.1 ?_
  show Steps p.tables e below (T0.setTop (mkF m 52 #[.val (.ref a1), .val (.ref sb), .val (.ref a2), .val (.int ln), .val (.int ix), .val (.int bb), .val (.int vv)] [])) _
  refine XS.iload X0.here hx rfl (hb hby d1_52) rfl ?_
  show Steps p.tables e below (T0.setTop (mkF m 54 #[.val (.ref a1), .val (.ref sb), .val (.ref a2), .val (.int ln), .val (.int ix), .val (.int bb), .val (.int vv)] [(.int vv)])) _
  refine XS.bipush X0.here hx rfl (hb hby d1_54) ?_
  show Steps p.tables e below (T0.setTop (mkF m 56 #[.val (.ref a1), .val (.ref sb), .val (.ref a2), .val (.int ln), .val (.int ix), .val (.int bb), .val (.int vv)] [(.int (92 : Int32)), (.int vv)])) _
  refine XS.icmpYes X0.here hx rfl (pc0 := 56) (pc' := 70) rfl (hb hby d1_56) rfl (teq hc_q3).1 (by decide) (by decide) ?_
  exact kt
theorem own_ce_P {p : Program} {l : Launch} {e : Env} {R : Room} {s : State} {m : MethodId} {args : Array Value} {below : List Frame} {meth : Method} {c : Code} {T0 : State} {locs : List Loc} {cells slots : Nat} (a1 sb a2 : Addr) (ln ix bb vv : Int32) (X0 : Stand p l e R s m args below meth c T0 locs cells slots) (hx : p.tables.exec = Jvm.exec) (hby : c.code = prog_1_method_2_code) (hv : own_pl vv) {target : State} (kt : Steps p.tables e below (T0.setTop (mkF m 59 #[.val (.ref a1), .val (.ref sb), .val (.ref a2), .val (.int ln), .val (.int ix), .val (.int bb), .val (.int vv)] [])) target) : Steps p.tables e below (T0.setTop (mkF m 38 #[.val (.ref a1), .val (.ref sb), .val (.ref a2), .val (.int ln), .val (.int ix), .val (.int bb), .val (.int vv)] [])) target := by
  exact own_ce_p a1 sb a2 ln ix bb vv X0 hx hby hv.1 hv.2.1 hv.2.2 kt
theorem own_ce_E {p : Program} {l : Launch} {e : Env} {R : Room} {s : State} {m : MethodId} {args : Array Value} {below : List Frame} {meth : Method} {c : Code} {T0 : State} {locs : List Loc} {cells slots : Nat} (a1 sb a2 : Addr) (ln ix bb vv : Int32) (X0 : Stand p l e R s m args below meth c T0 locs cells slots) (hx : p.tables.exec = Jvm.exec) (hby : c.code = prog_1_method_2_code) (hv : own_esc vv) {target : State} (kt : Steps p.tables e below (T0.setTop (mkF m 70 #[.val (.ref a1), .val (.ref sb), .val (.ref a2), .val (.int ln), .val (.int ix), .val (.int bb), .val (.int vv)] [])) target) : Steps p.tables e below (T0.setTop (mkF m 38 #[.val (.ref a1), .val (.ref sb), .val (.ref a2), .val (.int ln), .val (.int ix), .val (.int bb), .val (.int vv)] [])) target := by
  by_cases h1 : vv < (32 : Int32)
  · exact own_ce_e1 a1 sb a2 ln ix bb vv X0 hx hby h1 kt
  by_cases h2 : (126 : Int32) < vv
  · exact own_ce_e2 a1 sb a2 ln ix bb vv X0 hx hby h1 h2 kt
  · exact own_ce_e3 a1 sb a2 ln ix bb vv X0 hx hby h1 h2 ((hv.resolve_left h1).resolve_left h2) kt
theorem d1_18 : decode prog_1_method_2_code 18 = .ok (.iload 4, 2) := by decide +kernel
theorem d1_20 : decode prog_1_method_2_code 20 = .ok (.iload_n 3, 1) := by decide +kernel
theorem d1_21 : decode prog_1_method_2_code 21 = .ok (.if_icmp .ge 90, 3) := by decide +kernel
theorem d1_24 : decode prog_1_method_2_code 24 = .ok (.aload_n 2, 1) := by decide +kernel
theorem d1_25 : decode prog_1_method_2_code 25 = .ok (.iload 4, 2) := by decide +kernel
theorem d1_27 : decode prog_1_method_2_code 27 = .ok (.baload, 1) := by decide +kernel
theorem d1_28 : decode prog_1_method_2_code 28 = .ok (.istore 5, 2) := by decide +kernel
theorem d1_30 : decode prog_1_method_2_code 30 = .ok (.iload 5, 2) := by decide +kernel
theorem d1_32 : decode prog_1_method_2_code 32 = .ok (.sipush 255, 3) := by decide +kernel
theorem d1_35 : decode prog_1_method_2_code 35 = .ok (.iand, 1) := by decide +kernel
theorem d1_36 : decode prog_1_method_2_code 36 = .ok (.istore 6, 2) := by decide +kernel
theorem d1_59 : decode prog_1_method_2_code 59 = .ok (.aload_n 1, 1) := by decide +kernel
theorem d1_60 : decode prog_1_method_2_code 60 = .ok (.iload 6, 2) := by decide +kernel
theorem d1_62 : decode prog_1_method_2_code 62 = .ok (.i2c, 1) := by decide +kernel
theorem d1_63 : decode prog_1_method_2_code 63 = .ok (.invokevirtual 12, 3) := by decide +kernel
theorem d1_66 : decode prog_1_method_2_code 66 = .ok (.pop, 1) := by decide +kernel
theorem d1_67 : decode prog_1_method_2_code 67 = .ok (.goto 38, 3) := by decide +kernel
theorem d1_105 : decode prog_1_method_2_code 105 = .ok (.iinc 4 1, 3) := by decide +kernel
theorem d1_108 : decode prog_1_method_2_code 108 = .ok (.goto (-90), 3) := by decide +kernel
theorem pd__C_Ljava_lang_StringBuilder_ : parseMethodDescriptor "(C)Ljava/lang/StringBuilder;" = some ⟨[.char], some (.object "java/lang/StringBuilder")⟩ := by decide +kernel
set_option maxRecDepth 65536 in
set_option maxHeartbeats 40000000 in
theorem own_t0n {p : Program} {l : Launch} {e : Env} {s : State} {m : MethodId} {args : Array Value} {below : List Frame} {meth : Method} {c : Code} {T0 : State} {locs : List Loc} {cells slots : Nat} {Z : State} {a0 : Array Value} {h0 : Heap} {n0 : Nat} (a1 sb va ha : Addr) (ka k1 kh : ClassId) (ln ix : Int32) (lk : List Value) (u0 zl : Int32) (lv : List Value) (cn zn cs : Int32) (s5 s6 : Slot)
    (X0 : Stand p l e ({ frames := 9, cells := 6, slots := 70, locals := 180 } : Room) s m args below meth c T0 locs cells slots) (hx : p.tables.exec = Jvm.exec) (hZ : Z.Warmed39 s.vm) (hw : ∀ d ∈ tables_1, d.before a0 Z = true) (hby : c.code = prog_1_method_2_code) (hml : c.maxLocals = 7) (hown : s.vm.findClass "com/example/presplit/presplit/escape/BinaryEscape" = some m.cls) (e0 : T0.heap = h0) (N0 : Fr n0 locs) (Z0 : n0 ≤ h0.size) (hcl : cells + 0 ≤ ({ frames := 9, cells := 6, slots := 70, locals := 180 } : Room).cells) (hsl : slots + 0 ≤ ({ frames := 9, cells := 6, slots := 70, locals := 180 } : Room).slots) (V_a1 : Arv Z h0 a1 ka .byte ln lk (.int (0 : Int32))) (EX_sb : Exa Z h0 sb "java/lang/StringBuilder") (F_value_sb : Fld Z h0 sb "java/lang/AbstractStringBuilder" "value" "[B" (.ref va)) (F_coder_sb : Fld Z h0 sb "java/lang/AbstractStringBuilder" "coder" "B" (.int (0 : Int32))) (F_count_sb : Fld Z h0 sb "java/lang/AbstractStringBuilder" "count" "I" (.int cn)) (V_va : Arv Z h0 va k1 .byte zl lv (.int (0 : Int32))) (EX_va : Exa Z h0 va "[B") (S_COMPACT_STRINGS : Sta Z h0 "java/lang/String" "COMPACT_STRINGS" "Z" (.int cs)) (S_HEX_DIGITS : Sta Z h0 "com/example/presplit/presplit/escape/BinaryEscape" "HEX_DIGITS" "[C" (.ref ha)) (V_ha : Arv Z h0 ha kh .char (16 : Int32) own_hexL (.int (0 : Int32))) (ge_sb : n0 ≤ sb) (ge_va : n0 ≤ va) (ne_va_sb : va ≠ sb) (ne_a1_sb : a1 ≠ sb) (ne_a1_va : a1 ≠ va) (ne_ha_sb : ha ≠ sb) (ne_ha_va : ha ≠ va) (len_lv : lv.length = (zl).toNatClampNeg) (hc_q1 : ix < ln) (hc_q3 : ¬ ix < 0 ∧ ix < ln) (hc_q4 : lk.getD (ix).toNatClampNeg (.int (0 : Int32)) = .int u0) (hc_q5 : storeLocals #[.val (.ref a1), .val (.ref sb), .val (.ref a1), .val (.int ln), .val (.int ix), s5, s6] 5 (.int u0) = some #[.val (.ref a1), .val (.ref sb), .val (.ref a1), .val (.int ln), .val (.int ix), .val (.int u0), s6]) (hc_q6 : storeLocals #[.val (.ref a1), .val (.ref sb), .val (.ref a1), .val (.int ln), .val (.int ix), .val (.int u0), s6] 6 (.int (u0 &&& (255 : Int32))) = some #[.val (.ref a1), .val (.ref sb), .val (.ref a1), .val (.int ln), .val (.int ix), .val (.int u0), .val (.int (u0 &&& (255 : Int32)))]) (hc_q7 : own_pl (u0 &&& (255 : Int32))) (hc_q9 : ¬ ((0 : Int32) < ((cn + (1 : Int32)) - (zl >>> ((0 : Int32) &&& 31))))) (hc_q10 : ¬ (cs = (0 : Int32))) (hc_q11 : ¬ ((F9_0 (own_k0 (u0 &&& (255 : Int32)))) = (0 : Int32))) (hc_q12 : ¬ cn < 0 ∧ cn < zl) :
    ∃ (T' : State) (h' : Heap) (locs' : List Loc)  (w1 : List Value), Stand p l e ({ frames := 9, cells := 6, slots := 70, locals := 180 } : Room) s m args below meth c T' locs' (cells + 0) (slots + 0) ∧ T'.heap = h' ∧ Fr n0 locs' ∧ Keep h0 h' [sb, va] ∧ w1 = (lv.set (cn).toNatClampNeg (.int (nar .byte ((own_k0 (u0 &&& (255 : Int32))).toInt8.toInt32)))) ∧ Fld Z h' sb "java/lang/AbstractStringBuilder" "value" "[B" (.ref va) ∧ Fld Z h' sb "java/lang/AbstractStringBuilder" "coder" "B" (.int (0 : Int32)) ∧ Fld Z h' sb "java/lang/AbstractStringBuilder" "count" "I" (.int (cn + (1 : Int32))) ∧ Arv Z h' va k1 .byte zl w1 (.int (0 : Int32)) ∧ Exa Z h' va "[B" ∧
      ∀ target, Steps p.tables e below (T'.setTop (mkF m 18 #[.val (.ref a1), .val (.ref sb), .val (.ref a1), .val (.int ln), .val (.int (ix + (1 : Int32))), .val (.int u0), .val (.int (u0 &&& (255 : Int32)))] [])) target → Steps p.tables e below (T0.setTop (mkF m 18 #[.val (.ref a1), .val (.ref sb), .val (.ref a1), .val (.int ln), .val (.int ix), s5, s6] [])) target := by
  have K0 : Keep h0 h0 [sb, va] := Keep.refl _ _
  obtain ⟨cl_q2, Ar_q2, qk_q2, S_q2, Nn_q2, H_q2, G_q2⟩ := id V_a1
  have hin_q2 : ¬ (ix < 0 ∨ cl_q2.slots.size ≤ (ix).toNatClampNeg) := inb_of S_q2 hc_q3
  have hat_q2 : cl_q2.slots[(ix).toNatClampNeg]? = some (.int u0) := (H_q2 _ (Nat.lt_of_not_le fun q => hin_q2 (Or.inr q))).trans (congrArg some hc_q4)
  obtain ⟨cq_q8, kq_q8, qa_q8, qb_q8, qc_q8⟩ := isOf hZ e0 EX_sb
  obtain ⟨_, _, ⟨T_q8, L_q8, k_q8, n_q8⟩, -, X_q8, ⟨Lc_q8, hQ_q8, l_q8, y_q8, z_q8⟩, st_q8⟩ := X0.virtualBack hx (y := (⟨"java/lang/StringBuilder", "append", "(C)Ljava/lang/StringBuilder;"⟩ : MethodName)) (z := (⟨"java/lang/StringBuilder", "append", "(C)Ljava/lang/StringBuilder;"⟩ : MethodName)) hown (mvT hZ (own_w hw 26 rfl)) (mvT hZ (own_w hw 27 rfl)) (notFace_of_selects (args := #[]) (mvT hZ (own_w hw 29 rfl))) (mvT hZ (own_w hw 29 rfl)) (mvT hZ (own_w hw 28 rfl)) (by decide) (backOf (W := 0) (rmSA_n l Z a0 hw [] sb va k1 zl lv cn cs (own_k0 (u0 &&& (255 : Int32))) h0 n0 (Nat.le_trans Z0 K0.1) EX_sb F_value_sb F_coder_sb F_count_sb V_va EX_va S_COMPACT_STRINGS ge_sb ge_va ne_va_sb len_lv hc_q9 hc_q10 hc_q11 hc_q12) hZ (own_w hw 30 rfl) (own_w hw 7 rfl) (by decide) (by decide)) qa_q8 qc_q8 (g := (mkF m 63 #[.val (.ref a1), .val (.ref sb), .val (.ref a1), .val (.int ln), .val (.int ix), .val (.int u0), .val (.int (u0 &&& (255 : Int32)))] [(.int (own_k0 (u0 &&& (255 : Int32)))), (.ref sb)])) rfl (by rw [hml]; rfl) (Steps.refl _) (argsL := [(.int (own_k0 (u0 &&& (255 : Int32))))]) (rest := []) (lenOf pd__C_Ljava_lang_StringBuilder_ rfl) rfl (by show 2 * 0 + _ ≤ _; exact Nat.le_of_eq rfl) (hb hby d1_63) (fun _ _ => ⟨rfl, e0, (own_le (o := 0) (k := 0) hcl (by decide) rfl), (own_le (o := 0) (k := 0) hsl (by decide) rfl)⟩)
  dsimp only [Pt.U, Pt.locs, Pt.cells, Pt.slots] at X_q8 l_q8 y_q8 z_q8 st_q8 hQ_q8
  subst l_q8 y_q8 z_q8
  obtain ⟨rfl, Nq_q8, Kq_q8, O0_q8, O1_q8, O2_q8, O3_q8, O4_q8⟩ := hQ_q8
  have N_q8 := Fr.app N0 Nq_q8
  have EX_va__q8 := EX_va.keep Kq_q8
  have K_q8 : Keep h0 T_q8.heap [sb, va] := K0.trans Kq_q8 (allS (Or.inl (List.mem_of_getElem? (i := 0) rfl)) (allS (Or.inl (List.mem_of_getElem? (i := 1) rfl)) all0))
  obtain ⟨w_q8, hl_q8⟩ : ∃ w : List Value, w = (lv.set (cn).toNatClampNeg (.int (nar .byte ((own_k0 (u0 &&& (255 : Int32))).toInt8.toInt32)))) := ⟨_, rfl⟩
  rw [← hl_q8] at O3_q8
  refine ⟨T_q8, _, _, w_q8, X_q8, rfl, N_q8, K_q8, hl_q8, O0_q8, O1_q8, O2_q8, O3_q8, EX_va__q8, fun target kt => ?_⟩
  show Steps p.tables e below (T0.setTop (mkF m 18 #[.val (.ref a1), .val (.ref sb), .val (.ref a1), .val (.int ln), .val (.int ix), s5, s6] [])) _
  refine XS.iload X0.here hx rfl (hb hby d1_18) rfl ?_
  refine XS.iloadN X0.here hx rfl (hb hby d1_20) rfl ?_
  refine XS.icmpNo X0.here hx rfl (hb hby d1_21) rfl (tlt hc_q1).2.1 ?_
  refine XS.aloadN X0.here hx rfl (hb hby d1_24) rfl rfl ?_
  show Steps p.tables e below (T0.setTop (mkF m 25 #[.val (.ref a1), .val (.ref sb), .val (.ref a1), .val (.int ln), .val (.int ix), s5, s6] [(.ref a1)])) _
  refine XS.iload X0.here hx rfl (hb hby d1_25) rfl ?_
  show Steps p.tables e below (T0.setTop (mkF m 27 #[.val (.ref a1), .val (.ref sb), .val (.ref a1), .val (.int ln), .val (.int ix), s5, s6] [(.int ix), (.ref a1)])) _
  refine X0.baloadBytes hx (j := ix) (v := (.int u0)) (by rw [e0]; exact Ar_q2.1) (State.isArrayOf_alike hZ.alike Ar_q2.2.1) Ar_q2.2.2 hin_q2 hat_q2 (g := (mkF m 27 #[.val (.ref a1), .val (.ref sb), .val (.ref a1), .val (.int ln), .val (.int ix), s5, s6] [(.int ix), (.ref a1)])) rfl rfl (hb hby d1_27) _ ?_
  refine XS.istore X0.here hx rfl (hb hby d1_28) rfl (l' := #[.val (.ref a1), .val (.ref sb), .val (.ref a1), .val (.int ln), .val (.int ix), .val (.int u0), s6]) hc_q5 ?_
  refine XS.iload X0.here hx rfl (hb hby d1_30) rfl ?_
  refine XS.sipush X0.here hx rfl (hb hby d1_32) ?_
  show Steps p.tables e below (T0.setTop (mkF m 35 #[.val (.ref a1), .val (.ref sb), .val (.ref a1), .val (.int ln), .val (.int ix), .val (.int u0), s6] [(.int (255 : Int32)), (.int u0)])) _
  refine XS.iand X0.here hx rfl (hb hby d1_35) rfl ?_
  refine XS.istore X0.here hx rfl (hb hby d1_36) rfl (l' := #[.val (.ref a1), .val (.ref sb), .val (.ref a1), .val (.int ln), .val (.int ix), .val (.int u0), .val (.int (u0 &&& (255 : Int32)))]) hc_q6 ?_
  show Steps p.tables e below (T0.setTop (mkF m 38 #[.val (.ref a1), .val (.ref sb), .val (.ref a1), .val (.int ln), .val (.int ix), .val (.int u0), .val (.int (u0 &&& (255 : Int32)))] [])) _
  refine own_ce_P a1 sb a1 ln (ix) u0 (u0 &&& (255 : Int32)) X0 hx hby hc_q7 ?_
  refine XS.aloadN X0.here hx rfl (hb hby d1_59) rfl rfl ?_
  refine XS.iload X0.here hx rfl (hb hby d1_60) rfl ?_
  refine XS.i2c X0.here hx rfl (hb hby d1_62) rfl ?_
  show Steps p.tables e below (T0.setTop (mkF m 63 #[.val (.ref a1), .val (.ref sb), .val (.ref a1), .val (.int ln), .val (.int ix), .val (.int u0), .val (.int (u0 &&& (255 : Int32)))] [(.int (own_k0 (u0 &&& (255 : Int32)))), (.ref sb)])) _
  refine st_q8.trans ?_
  refine XS.pop X_q8.here hx rfl (hb hby d1_66) rfl rfl ?_
  refine XS.goto X_q8.here hx rfl (pc0 := 67) (pc' := 105) rfl (hb hby d1_67) (by decide) (by decide) ?_
  refine XS.iinc X_q8.here hx rfl (hb hby d1_105) rfl (l' := #[.val (.ref a1), .val (.ref sb), .val (.ref a1), .val (.int ln), .val (.int (ix + (1 : Int32))), .val (.int u0), .val (.int (u0 &&& (255 : Int32)))]) rfl ?_
  show Steps p.tables e below (T_q8.setTop (mkF m 108 #[.val (.ref a1), .val (.ref sb), .val (.ref a1), .val (.int ln), .val (.int (ix + (1 : Int32))), .val (.int u0), .val (.int (u0 &&& (255 : Int32)))] [])) _
  refine XS.goto X_q8.here hx rfl (pc0 := 108) (pc' := 18) rfl (hb hby d1_108) (by decide) (by decide) ?_
  exact kt
set_option maxRecDepth 65536 in
set_option maxHeartbeats 40000000 in
theorem own_t00 {p : Program} {l : Launch} {e : Env} {s : State} {m : MethodId} {args : Array Value} {below : List Frame} {meth : Method} {c : Code} {T0 : State} {locs : List Loc} {cells slots : Nat} {Z : State} {a0 : Array Value} {h0 : Heap} {n0 : Nat} (a1 sb va ha : Addr) (ka k1 kh : ClassId) (ln ix : Int32) (lk : List Value) (u0 zl : Int32) (lv : List Value) (cn zn cs : Int32) (s5 s6 : Slot)
    (X0 : Stand p l e ({ frames := 9, cells := 6, slots := 70, locals := 180 } : Room) s m args below meth c T0 locs cells slots) (hx : p.tables.exec = Jvm.exec) (hZ : Z.Warmed39 s.vm) (hw : ∀ d ∈ tables_1, d.before a0 Z = true) (hby : c.code = prog_1_method_2_code) (hml : c.maxLocals = 7) (hown : s.vm.findClass "com/example/presplit/presplit/escape/BinaryEscape" = some m.cls) (e0 : T0.heap = h0) (N0 : Fr n0 locs) (Z0 : n0 ≤ h0.size) (hcl : cells + 1 ≤ ({ frames := 9, cells := 6, slots := 70, locals := 180 } : Room).cells) (hsl : slots + 18 ≤ ({ frames := 9, cells := 6, slots := 70, locals := 180 } : Room).slots) (V_a1 : Arv Z h0 a1 ka .byte ln lk (.int (0 : Int32))) (EX_sb : Exa Z h0 sb "java/lang/StringBuilder") (F_value_sb : Fld Z h0 sb "java/lang/AbstractStringBuilder" "value" "[B" (.ref va)) (F_coder_sb : Fld Z h0 sb "java/lang/AbstractStringBuilder" "coder" "B" (.int (0 : Int32))) (F_count_sb : Fld Z h0 sb "java/lang/AbstractStringBuilder" "count" "I" (.int cn)) (V_va : Arv Z h0 va k1 .byte zl lv (.int (0 : Int32))) (EX_va : Exa Z h0 va "[B") (S_COMPACT_STRINGS : Sta Z h0 "java/lang/String" "COMPACT_STRINGS" "Z" (.int cs)) (S_HEX_DIGITS : Sta Z h0 "com/example/presplit/presplit/escape/BinaryEscape" "HEX_DIGITS" "[C" (.ref ha)) (V_ha : Arv Z h0 ha kh .char (16 : Int32) own_hexL (.int (0 : Int32))) (ge_sb : n0 ≤ sb) (ge_va : n0 ≤ va) (ne_va_sb : va ≠ sb) (ne_a1_sb : a1 ≠ sb) (ne_a1_va : a1 ≠ va) (ne_ha_sb : ha ≠ sb) (ne_ha_va : ha ≠ va) (len_lv : lv.length = (zl).toNatClampNeg) (hc_q1 : ix < ln) (hc_q3 : ¬ ix < 0 ∧ ix < ln) (hc_q4 : lk.getD (ix).toNatClampNeg (.int (0 : Int32)) = .int u0) (hc_q5 : storeLocals #[.val (.ref a1), .val (.ref sb), .val (.ref a1), .val (.int ln), .val (.int ix), s5, s6] 5 (.int u0) = some #[.val (.ref a1), .val (.ref sb), .val (.ref a1), .val (.int ln), .val (.int ix), .val (.int u0), s6]) (hc_q6 : storeLocals #[.val (.ref a1), .val (.ref sb), .val (.ref a1), .val (.int ln), .val (.int ix), .val (.int u0), s6] 6 (.int (u0 &&& (255 : Int32))) = some #[.val (.ref a1), .val (.ref sb), .val (.ref a1), .val (.int ln), .val (.int ix), .val (.int u0), .val (.int (u0 &&& (255 : Int32)))]) (hc_q7 : own_pl (u0 &&& (255 : Int32))) (hc_q9 : (0 : Int32) < ((cn + (1 : Int32)) - (zl >>> ((0 : Int32) &&& 31)))) (hc_q10 : (0 : Int32) < (zl + (F12_0 (((cn + (1 : Int32)) <<< ((0 : Int32) &&& 31)) - zl) (zl + (2 : Int32))))) (hc_q11 : ¬ ((2147483639 : Int32) < (zl + (F12_0 (((cn + (1 : Int32)) <<< ((0 : Int32) &&& 31)) - zl) (zl + (2 : Int32)))))) (hc_q12 : ¬ ((zl + (F12_0 (((cn + (1 : Int32)) <<< ((0 : Int32) &&& 31)) - zl) (zl + (2 : Int32)))) = (2147483647 : Int32))) (hc_q13 : (((zl + (F12_0 (((cn + (1 : Int32)) <<< ((0 : Int32) &&& 31)) - zl) (zl + (2 : Int32)))) >>> ((0 : Int32) &&& 31)) <<< ((0 : Int32) &&& 31)) = zn) (hc_q14 : (F14_0 zl zn) = zl) (hc_q15 : ¬ (zn = zl)) (hc_q16 : ¬ (zn) < 0) (hc_q17 : (zn).toNatClampNeg ≤ 18) (hc_q18 : ¬ (zl) < 0) (hc_q19 : (zl).toNatClampNeg ≤ (zn).toNatClampNeg) (hc_q20 : ¬ (cs = (0 : Int32))) (hc_q21 : ¬ ((F9_0 (own_k0 (u0 &&& (255 : Int32)))) = (0 : Int32))) (hc_q22 : ¬ cn < 0 ∧ cn < zn) :
    ∃ (T' : State) (h' : Heap) (locs' : List Loc) (r1 : Addr) (kr1 : ClassId) (w1 : List Value), Stand p l e ({ frames := 9, cells := 6, slots := 70, locals := 180 } : Room) s m args below meth c T' locs' (cells + 1) (slots + 18) ∧ T'.heap = h' ∧ Fr n0 locs' ∧ Keep h0 h' [sb, va] ∧ h0.size ≤ r1 ∧ w1 = ((own_cp lv (zl).toNatClampNeg (zn).toNatClampNeg).set (cn).toNatClampNeg (.int (nar .byte ((own_k0 (u0 &&& (255 : Int32))).toInt8.toInt32)))) ∧ Fld Z h' sb "java/lang/AbstractStringBuilder" "value" "[B" (.ref r1) ∧ Fld Z h' sb "java/lang/AbstractStringBuilder" "coder" "B" (.int (0 : Int32)) ∧ Fld Z h' sb "java/lang/AbstractStringBuilder" "count" "I" (.int (cn + (1 : Int32))) ∧ Arv Z h' r1 kr1 .byte zn w1 (.int (0 : Int32)) ∧ Exa Z h' r1 "[B" ∧
      ∀ target, Steps p.tables e below (T'.setTop (mkF m 18 #[.val (.ref a1), .val (.ref sb), .val (.ref a1), .val (.int ln), .val (.int (ix + (1 : Int32))), .val (.int u0), .val (.int (u0 &&& (255 : Int32)))] [])) target → Steps p.tables e below (T0.setTop (mkF m 18 #[.val (.ref a1), .val (.ref sb), .val (.ref a1), .val (.int ln), .val (.int ix), s5, s6] [])) target := by
  have K0 : Keep h0 h0 [sb, va] := Keep.refl _ _
  obtain ⟨cl_q2, Ar_q2, qk_q2, S_q2, Nn_q2, H_q2, G_q2⟩ := id V_a1
  have hin_q2 : ¬ (ix < 0 ∨ cl_q2.slots.size ≤ (ix).toNatClampNeg) := inb_of S_q2 hc_q3
  have hat_q2 : cl_q2.slots[(ix).toNatClampNeg]? = some (.int u0) := (H_q2 _ (Nat.lt_of_not_le fun q => hin_q2 (Or.inr q))).trans (congrArg some hc_q4)
  obtain ⟨cq_q8, kq_q8, qa_q8, qb_q8, qc_q8⟩ := isOf hZ e0 EX_sb
  obtain ⟨_, _, ⟨T_q8, L_q8, k_q8, n_q8⟩, -, X_q8, ⟨Lc_q8, hQ_q8, l_q8, y_q8, z_q8⟩, st_q8⟩ := X0.virtualBack hx (y := (⟨"java/lang/StringBuilder", "append", "(C)Ljava/lang/StringBuilder;"⟩ : MethodName)) (z := (⟨"java/lang/StringBuilder", "append", "(C)Ljava/lang/StringBuilder;"⟩ : MethodName)) hown (mvT hZ (own_w hw 26 rfl)) (mvT hZ (own_w hw 27 rfl)) (notFace_of_selects (args := #[]) (mvT hZ (own_w hw 29 rfl))) (mvT hZ (own_w hw 29 rfl)) (mvT hZ (own_w hw 28 rfl)) (by decide) (backOf (W := 0) (rmSA_g l Z a0 hw [] sb va k1 zl lv cn zn cs (own_k0 (u0 &&& (255 : Int32))) h0 n0 (Nat.le_trans Z0 K0.1) EX_sb F_value_sb F_coder_sb F_count_sb V_va EX_va ge_sb ne_va_sb S_COMPACT_STRINGS hc_q9 hc_q10 hc_q11 hc_q12 hc_q13 hc_q14 hc_q15 hc_q16 hc_q17 hc_q18 hc_q19 hc_q20 hc_q21 hc_q22) hZ (own_w hw 30 rfl) (own_w hw 7 rfl) (by decide) (by decide)) qa_q8 qc_q8 (g := (mkF m 63 #[.val (.ref a1), .val (.ref sb), .val (.ref a1), .val (.int ln), .val (.int ix), .val (.int u0), .val (.int (u0 &&& (255 : Int32)))] [(.int (own_k0 (u0 &&& (255 : Int32)))), (.ref sb)])) rfl (by rw [hml]; rfl) (Steps.refl _) (argsL := [(.int (own_k0 (u0 &&& (255 : Int32))))]) (rest := []) (lenOf pd__C_Ljava_lang_StringBuilder_ rfl) rfl (by show 2 * 0 + _ ≤ _; exact Nat.le_of_eq rfl) (hb hby d1_63) (fun _ _ => ⟨rfl, e0, (own_le (o := 0) (k := 1) hcl (by decide) rfl), (own_le (o := 0) (k := 18) hsl (by decide) rfl)⟩)
  dsimp only [Pt.U, Pt.locs, Pt.cells, Pt.slots] at X_q8 l_q8 y_q8 z_q8 st_q8 hQ_q8
  subst l_q8 y_q8 z_q8
  obtain ⟨r1_q8, kr1_q8, rfl, Nq_q8, Kq_q8, sz0_r1_q8, O0_q8, O1_q8, O2_q8, O3_q8, O4_q8, O5_q8⟩ := hQ_q8
  have N_q8 := Fr.app N0 Nq_q8
  have sz_r1_q8 : h0.size ≤ r1_q8 := Nat.le_trans K0.1 sz0_r1_q8
  have K_q8 : Keep h0 T_q8.heap [sb, va] := K0.trans Kq_q8 (allS (Or.inl (List.mem_of_getElem? (i := 0) rfl)) all0)
  obtain ⟨w_q8, hl_q8⟩ : ∃ w : List Value, w = ((own_cp lv (zl).toNatClampNeg (zn).toNatClampNeg).set (cn).toNatClampNeg (.int (nar .byte ((own_k0 (u0 &&& (255 : Int32))).toInt8.toInt32)))) := ⟨_, rfl⟩
  rw [← hl_q8] at O3_q8
  refine ⟨T_q8, _, _, r1_q8, kr1_q8, w_q8, X_q8, rfl, N_q8, K_q8, sz_r1_q8, hl_q8, O0_q8, O1_q8, O2_q8, O3_q8, O4_q8, fun target kt => ?_⟩
  show Steps p.tables e below (T0.setTop (mkF m 18 #[.val (.ref a1), .val (.ref sb), .val (.ref a1), .val (.int ln), .val (.int ix), s5, s6] [])) _
  refine XS.iload X0.here hx rfl (hb hby d1_18) rfl ?_
  refine XS.iloadN X0.here hx rfl (hb hby d1_20) rfl ?_
  refine XS.icmpNo X0.here hx rfl (hb hby d1_21) rfl (tlt hc_q1).2.1 ?_
  refine XS.aloadN X0.here hx rfl (hb hby d1_24) rfl rfl ?_
  show Steps p.tables e below (T0.setTop (mkF m 25 #[.val (.ref a1), .val (.ref sb), .val (.ref a1), .val (.int ln), .val (.int ix), s5, s6] [(.ref a1)])) _
  refine XS.iload X0.here hx rfl (hb hby d1_25) rfl ?_
  show Steps p.tables e below (T0.setTop (mkF m 27 #[.val (.ref a1), .val (.ref sb), .val (.ref a1), .val (.int ln), .val (.int ix), s5, s6] [(.int ix), (.ref a1)])) _
  refine X0.baloadBytes hx (j := ix) (v := (.int u0)) (by rw [e0]; exact Ar_q2.1) (State.isArrayOf_alike hZ.alike Ar_q2.2.1) Ar_q2.2.2 hin_q2 hat_q2 (g := (mkF m 27 #[.val (.ref a1), .val (.ref sb), .val (.ref a1), .val (.int ln), .val (.int ix), s5, s6] [(.int ix), (.ref a1)])) rfl rfl (hb hby d1_27) _ ?_
  refine XS.istore X0.here hx rfl (hb hby d1_28) rfl (l' := #[.val (.ref a1), .val (.ref sb), .val (.ref a1), .val (.int ln), .val (.int ix), .val (.int u0), s6]) hc_q5 ?_
  refine XS.iload X0.here hx rfl (hb hby d1_30) rfl ?_
  refine XS.sipush X0.here hx rfl (hb hby d1_32) ?_
  show Steps p.tables e below (T0.setTop (mkF m 35 #[.val (.ref a1), .val (.ref sb), .val (.ref a1), .val (.int ln), .val (.int ix), .val (.int u0), s6] [(.int (255 : Int32)), (.int u0)])) _
  refine XS.iand X0.here hx rfl (hb hby d1_35) rfl ?_
  refine XS.istore X0.here hx rfl (hb hby d1_36) rfl (l' := #[.val (.ref a1), .val (.ref sb), .val (.ref a1), .val (.int ln), .val (.int ix), .val (.int u0), .val (.int (u0 &&& (255 : Int32)))]) hc_q6 ?_
  show Steps p.tables e below (T0.setTop (mkF m 38 #[.val (.ref a1), .val (.ref sb), .val (.ref a1), .val (.int ln), .val (.int ix), .val (.int u0), .val (.int (u0 &&& (255 : Int32)))] [])) _
  refine own_ce_P a1 sb a1 ln (ix) u0 (u0 &&& (255 : Int32)) X0 hx hby hc_q7 ?_
  refine XS.aloadN X0.here hx rfl (hb hby d1_59) rfl rfl ?_
  refine XS.iload X0.here hx rfl (hb hby d1_60) rfl ?_
  refine XS.i2c X0.here hx rfl (hb hby d1_62) rfl ?_
  show Steps p.tables e below (T0.setTop (mkF m 63 #[.val (.ref a1), .val (.ref sb), .val (.ref a1), .val (.int ln), .val (.int ix), .val (.int u0), .val (.int (u0 &&& (255 : Int32)))] [(.int (own_k0 (u0 &&& (255 : Int32)))), (.ref sb)])) _
  refine st_q8.trans ?_
  refine XS.pop X_q8.here hx rfl (hb hby d1_66) rfl rfl ?_
  refine XS.goto X_q8.here hx rfl (pc0 := 67) (pc' := 105) rfl (hb hby d1_67) (by decide) (by decide) ?_
  refine XS.iinc X_q8.here hx rfl (hb hby d1_105) rfl (l' := #[.val (.ref a1), .val (.ref sb), .val (.ref a1), .val (.int ln), .val (.int (ix + (1 : Int32))), .val (.int u0), .val (.int (u0 &&& (255 : Int32)))]) rfl ?_
  show Steps p.tables e below (T_q8.setTop (mkF m 108 #[.val (.ref a1), .val (.ref sb), .val (.ref a1), .val (.int ln), .val (.int (ix + (1 : Int32))), .val (.int u0), .val (.int (u0 &&& (255 : Int32)))] [])) _
  refine XS.goto X_q8.here hx rfl (pc0 := 108) (pc' := 18) rfl (hb hby d1_108) (by decide) (by decide) ?_
  exact kt
theorem d1_70 : decode prog_1_method_2_code 70 = .ok (.aload_n 1, 1) := by decide +kernel
theorem d1_71 : decode prog_1_method_2_code 71 = .ok (.bipush 92, 2) := by decide +kernel
theorem d1_73 : decode prog_1_method_2_code 73 = .ok (.invokevirtual 12, 3) := by decide +kernel
theorem d1_76 : decode prog_1_method_2_code 76 = .ok (.bipush 120, 2) := by decide +kernel
theorem d1_78 : decode prog_1_method_2_code 78 = .ok (.invokevirtual 12, 3) := by decide +kernel
theorem d1_81 : decode prog_1_method_2_code 81 = .ok (.getstatic 16, 3) := by decide +kernel
theorem d1_84 : decode prog_1_method_2_code 84 = .ok (.iload 6, 2) := by decide +kernel
theorem d1_86 : decode prog_1_method_2_code 86 = .ok (.iconst 4, 1) := by decide +kernel
theorem d1_87 : decode prog_1_method_2_code 87 = .ok (.iushr, 1) := by decide +kernel
theorem d1_88 : decode prog_1_method_2_code 88 = .ok (.caload, 1) := by decide +kernel
theorem d1_89 : decode prog_1_method_2_code 89 = .ok (.invokevirtual 12, 3) := by decide +kernel
theorem d1_92 : decode prog_1_method_2_code 92 = .ok (.getstatic 16, 3) := by decide +kernel
theorem d1_95 : decode prog_1_method_2_code 95 = .ok (.iload 6, 2) := by decide +kernel
theorem d1_97 : decode prog_1_method_2_code 97 = .ok (.bipush 15, 2) := by decide +kernel
theorem d1_99 : decode prog_1_method_2_code 99 = .ok (.iand, 1) := by decide +kernel
theorem d1_100 : decode prog_1_method_2_code 100 = .ok (.caload, 1) := by decide +kernel
theorem d1_101 : decode prog_1_method_2_code 101 = .ok (.invokevirtual 12, 3) := by decide +kernel
theorem d1_104 : decode prog_1_method_2_code 104 = .ok (.pop, 1) := by decide +kernel
set_option maxRecDepth 65536 in
set_option maxHeartbeats 40000000 in
theorem own_t1n {p : Program} {l : Launch} {e : Env} {s : State} {m : MethodId} {args : Array Value} {below : List Frame} {meth : Method} {c : Code} {T0 : State} {locs : List Loc} {cells slots : Nat} {Z : State} {a0 : Array Value} {h0 : Heap} {n0 : Nat} (a1 sb va ha : Addr) (ka k1 kh : ClassId) (ln ix : Int32) (lk : List Value) (u0 zl : Int32) (lv : List Value) (cn zn cs : Int32) (s5 s6 : Slot)
    (X0 : Stand p l e ({ frames := 9, cells := 6, slots := 70, locals := 180 } : Room) s m args below meth c T0 locs cells slots) (hx : p.tables.exec = Jvm.exec) (hZ : Z.Warmed39 s.vm) (hw : ∀ d ∈ tables_1, d.before a0 Z = true) (hby : c.code = prog_1_method_2_code) (hml : c.maxLocals = 7) (hown : s.vm.findClass "com/example/presplit/presplit/escape/BinaryEscape" = some m.cls) (e0 : T0.heap = h0) (N0 : Fr n0 locs) (Z0 : n0 ≤ h0.size) (hcl : cells + 0 ≤ ({ frames := 9, cells := 6, slots := 70, locals := 180 } : Room).cells) (hsl : slots + 0 ≤ ({ frames := 9, cells := 6, slots := 70, locals := 180 } : Room).slots) (V_a1 : Arv Z h0 a1 ka .byte ln lk (.int (0 : Int32))) (EX_sb : Exa Z h0 sb "java/lang/StringBuilder") (F_value_sb : Fld Z h0 sb "java/lang/AbstractStringBuilder" "value" "[B" (.ref va)) (F_coder_sb : Fld Z h0 sb "java/lang/AbstractStringBuilder" "coder" "B" (.int (0 : Int32))) (F_count_sb : Fld Z h0 sb "java/lang/AbstractStringBuilder" "count" "I" (.int cn)) (V_va : Arv Z h0 va k1 .byte zl lv (.int (0 : Int32))) (EX_va : Exa Z h0 va "[B") (S_COMPACT_STRINGS : Sta Z h0 "java/lang/String" "COMPACT_STRINGS" "Z" (.int cs)) (S_HEX_DIGITS : Sta Z h0 "com/example/presplit/presplit/escape/BinaryEscape" "HEX_DIGITS" "[C" (.ref ha)) (V_ha : Arv Z h0 ha kh .char (16 : Int32) own_hexL (.int (0 : Int32))) (ge_sb : n0 ≤ sb) (ge_va : n0 ≤ va) (ne_va_sb : va ≠ sb) (ne_a1_sb : a1 ≠ sb) (ne_a1_va : a1 ≠ va) (ne_ha_sb : ha ≠ sb) (ne_ha_va : ha ≠ va) (len_lv : lv.length = (zl).toNatClampNeg) (hc_q1 : ix < ln) (hc_q3 : ¬ ix < 0 ∧ ix < ln) (hc_q4 : lk.getD (ix).toNatClampNeg (.int (0 : Int32)) = .int u0) (hc_q5 : storeLocals #[.val (.ref a1), .val (.ref sb), .val (.ref a1), .val (.int ln), .val (.int ix), s5, s6] 5 (.int u0) = some #[.val (.ref a1), .val (.ref sb), .val (.ref a1), .val (.int ln), .val (.int ix), .val (.int u0), s6]) (hc_q6 : storeLocals #[.val (.ref a1), .val (.ref sb), .val (.ref a1), .val (.int ln), .val (.int ix), .val (.int u0), s6] 6 (.int (u0 &&& (255 : Int32))) = some #[.val (.ref a1), .val (.ref sb), .val (.ref a1), .val (.int ln), .val (.int ix), .val (.int u0), .val (.int (u0 &&& (255 : Int32)))]) (hc_q7 : own_esc (u0 &&& (255 : Int32))) (hc_q9 : ¬ ((0 : Int32) < ((cn + (1 : Int32)) - (zl >>> ((0 : Int32) &&& 31))))) (hc_q10 : ¬ (cs = (0 : Int32))) (hc_q11 : ¬ cn < 0 ∧ cn < zl) (hc_q13 : ¬ ((0 : Int32) < (((cn + (1 : Int32)) + (1 : Int32)) - (zl >>> ((0 : Int32) &&& 31))))) (hc_q14 : ¬ (cn + (1 : Int32)) < 0 ∧ (cn + (1 : Int32)) < zl) (hc_q17 : ¬ (((u0 &&& (255 : Int32)).toUInt32 >>> ((4 : Int32) &&& 31).toUInt32).toInt32) < 0 ∧ (((u0 &&& (255 : Int32)).toUInt32 >>> ((4 : Int32) &&& 31).toUInt32).toInt32) < (16 : Int32)) (hc_q19 : ¬ ((0 : Int32) < ((((cn + (1 : Int32)) + (1 : Int32)) + (1 : Int32)) - (zl >>> ((0 : Int32) &&& 31))))) (hc_q20 : ¬ ((F9_0 (own_k2 (u0 &&& (255 : Int32)))) = (0 : Int32))) (hc_q21 : ¬ ((cn + (1 : Int32)) + (1 : Int32)) < 0 ∧ ((cn + (1 : Int32)) + (1 : Int32)) < zl) (hc_q24 : ¬ ((u0 &&& (255 : Int32)) &&& (15 : Int32)) < 0 ∧ ((u0 &&& (255 : Int32)) &&& (15 : Int32)) < (16 : Int32)) (hc_q26 : ¬ ((0 : Int32) < (((((cn + (1 : Int32)) + (1 : Int32)) + (1 : Int32)) + (1 : Int32)) - (zl >>> ((0 : Int32) &&& 31))))) (hc_q27 : ¬ ((F9_0 (own_k3 (u0 &&& (255 : Int32)))) = (0 : Int32))) (hc_q28 : ¬ (((cn + (1 : Int32)) + (1 : Int32)) + (1 : Int32)) < 0 ∧ (((cn + (1 : Int32)) + (1 : Int32)) + (1 : Int32)) < zl) :
    ∃ (T' : State) (h' : Heap) (locs' : List Loc)  (w1 : List Value) (w2 : List Value) (w3 : List Value) (w4 : List Value), Stand p l e ({ frames := 9, cells := 6, slots := 70, locals := 180 } : Room) s m args below meth c T' locs' (cells + 0) (slots + 0) ∧ T'.heap = h' ∧ Fr n0 locs' ∧ Keep h0 h' [sb, va] ∧ w1 = (lv.set (cn).toNatClampNeg (.int (nar .byte ((92 : Int32).toInt8.toInt32)))) ∧ w2 = (w1.set ((cn + (1 : Int32))).toNatClampNeg (.int (nar .byte ((120 : Int32).toInt8.toInt32)))) ∧ w3 = (w2.set (((cn + (1 : Int32)) + (1 : Int32))).toNatClampNeg (.int (nar .byte ((own_k2 (u0 &&& (255 : Int32))).toInt8.toInt32)))) ∧ w4 = (w3.set ((((cn + (1 : Int32)) + (1 : Int32)) + (1 : Int32))).toNatClampNeg (.int (nar .byte ((own_k3 (u0 &&& (255 : Int32))).toInt8.toInt32)))) ∧ Fld Z h' sb "java/lang/AbstractStringBuilder" "value" "[B" (.ref va) ∧ Fld Z h' sb "java/lang/AbstractStringBuilder" "coder" "B" (.int (0 : Int32)) ∧ Fld Z h' sb "java/lang/AbstractStringBuilder" "count" "I" (.int ((((cn + (1 : Int32)) + (1 : Int32)) + (1 : Int32)) + (1 : Int32))) ∧ Arv Z h' va k1 .byte zl w4 (.int (0 : Int32)) ∧ Exa Z h' va "[B" ∧
      ∀ target, Steps p.tables e below (T'.setTop (mkF m 18 #[.val (.ref a1), .val (.ref sb), .val (.ref a1), .val (.int ln), .val (.int (ix + (1 : Int32))), .val (.int u0), .val (.int (u0 &&& (255 : Int32)))] [])) target → Steps p.tables e below (T0.setTop (mkF m 18 #[.val (.ref a1), .val (.ref sb), .val (.ref a1), .val (.int ln), .val (.int ix), s5, s6] [])) target := by
  have K0 : Keep h0 h0 [sb, va] := Keep.refl _ _
  obtain ⟨cl_q2, Ar_q2, qk_q2, S_q2, Nn_q2, H_q2, G_q2⟩ := id V_a1
  have hin_q2 : ¬ (ix < 0 ∨ cl_q2.slots.size ≤ (ix).toNatClampNeg) := inb_of S_q2 hc_q3
  have hat_q2 : cl_q2.slots[(ix).toNatClampNeg]? = some (.int u0) := (H_q2 _ (Nat.lt_of_not_le fun q => hin_q2 (Or.inr q))).trans (congrArg some hc_q4)
  obtain ⟨cq_q8, kq_q8, qa_q8, qb_q8, qc_q8⟩ := isOf hZ e0 EX_sb
  obtain ⟨_, _, ⟨T_q8, L_q8, k_q8, n_q8⟩, -, X_q8, ⟨Lc_q8, hQ_q8, l_q8, y_q8, z_q8⟩, st_q8⟩ := X0.virtualBack hx (y := (⟨"java/lang/StringBuilder", "append", "(C)Ljava/lang/StringBuilder;"⟩ : MethodName)) (z := (⟨"java/lang/StringBuilder", "append", "(C)Ljava/lang/StringBuilder;"⟩ : MethodName)) hown (mvT hZ (own_w hw 26 rfl)) (mvT hZ (own_w hw 27 rfl)) (notFace_of_selects (args := #[]) (mvT hZ (own_w hw 29 rfl))) (mvT hZ (own_w hw 29 rfl)) (mvT hZ (own_w hw 28 rfl)) (by decide) (backOf (W := 0) (rmSA_n l Z a0 hw [] sb va k1 zl lv cn cs (92 : Int32) h0 n0 (Nat.le_trans Z0 K0.1) EX_sb F_value_sb F_coder_sb F_count_sb V_va EX_va S_COMPACT_STRINGS ge_sb ge_va ne_va_sb len_lv hc_q9 hc_q10 (by decide) hc_q11) hZ (own_w hw 30 rfl) (own_w hw 7 rfl) (by decide) (by decide)) qa_q8 qc_q8 (g := (mkF m 73 #[.val (.ref a1), .val (.ref sb), .val (.ref a1), .val (.int ln), .val (.int ix), .val (.int u0), .val (.int (u0 &&& (255 : Int32)))] [(.int (92 : Int32)), (.ref sb)])) rfl (by rw [hml]; rfl) (Steps.refl _) (argsL := [(.int (92 : Int32))]) (rest := []) (lenOf pd__C_Ljava_lang_StringBuilder_ rfl) rfl (by show 2 * 0 + _ ≤ _; exact Nat.le_of_eq rfl) (hb hby d1_73) (fun _ _ => ⟨rfl, e0, (own_le (o := 0) (k := 0) hcl (by decide) rfl), (own_le (o := 0) (k := 0) hsl (by decide) rfl)⟩)
  dsimp only [Pt.U, Pt.locs, Pt.cells, Pt.slots] at X_q8 l_q8 y_q8 z_q8 st_q8 hQ_q8
  subst l_q8 y_q8 z_q8
  obtain ⟨rfl, Nq_q8, Kq_q8, O0_q8, O1_q8, O2_q8, O3_q8, O4_q8⟩ := hQ_q8
  have N_q8 := Fr.app N0 Nq_q8
  have EX_sb__q8 := EX_sb.keep Kq_q8
  have EX_va__q8 := EX_va.keep Kq_q8
  have S_COMPACT_STRINGS__q8 := own_sta_keep S_COMPACT_STRINGS Kq_q8 (allS (own_ns EX_sb) (allS (own_ns EX_va) all0))
  have S_HEX_DIGITS__q8 := own_sta_keep S_HEX_DIGITS Kq_q8 (allS (own_ns EX_sb) (allS (own_ns EX_va) all0))
  have V_ha__q8 := V_ha.keep Kq_q8 (ninS ne_ha_sb (ninS ne_ha_va nin0))
  have K_q8 : Keep h0 T_q8.heap [sb, va] := K0.trans Kq_q8 (allS (Or.inl (List.mem_of_getElem? (i := 0) rfl)) (allS (Or.inl (List.mem_of_getElem? (i := 1) rfl)) all0))
  obtain ⟨w_q8, hl_q8⟩ : ∃ w : List Value, w = (lv.set (cn).toNatClampNeg (.int (nar .byte ((92 : Int32).toInt8.toInt32)))) := ⟨_, rfl⟩
  rw [← hl_q8] at O3_q8
  have ln_q8 : w_q8.length = (zl).toNatClampNeg := by rw [hl_q8]; exact O4_q8
  obtain ⟨cq_q12, kq_q12, qa_q12, qb_q12, qc_q12⟩ := isOf hZ rfl EX_sb__q8
  obtain ⟨_, _, ⟨T_q12, L_q12, k_q12, n_q12⟩, -, X_q12, ⟨Lc_q12, hQ_q12, l_q12, y_q12, z_q12⟩, st_q12⟩ := X_q8.virtualBack hx (y := (⟨"java/lang/StringBuilder", "append", "(C)Ljava/lang/StringBuilder;"⟩ : MethodName)) (z := (⟨"java/lang/StringBuilder", "append", "(C)Ljava/lang/StringBuilder;"⟩ : MethodName)) hown (mvT hZ (own_w hw 26 rfl)) (mvT hZ (own_w hw 27 rfl)) (notFace_of_selects (args := #[]) (mvT hZ (own_w hw 29 rfl))) (mvT hZ (own_w hw 29 rfl)) (mvT hZ (own_w hw 28 rfl)) (by decide) (backOf (W := 0) (rmSA_n l Z a0 hw [] sb va k1 zl w_q8 (cn + (1 : Int32)) cs (120 : Int32) T_q8.heap n0 (Nat.le_trans Z0 K_q8.1) EX_sb__q8 O0_q8 O1_q8 O2_q8 O3_q8 EX_va__q8 S_COMPACT_STRINGS__q8 ge_sb ge_va ne_va_sb ln_q8 hc_q13 hc_q10 (by decide) hc_q14) hZ (own_w hw 30 rfl) (own_w hw 7 rfl) (by decide) (by decide)) qa_q12 qc_q12 (g := (mkF m 78 #[.val (.ref a1), .val (.ref sb), .val (.ref a1), .val (.int ln), .val (.int ix), .val (.int u0), .val (.int (u0 &&& (255 : Int32)))] [(.int (120 : Int32)), (.ref sb)])) rfl (by rw [hml]; rfl) (Steps.refl _) (argsL := [(.int (120 : Int32))]) (rest := []) (lenOf pd__C_Ljava_lang_StringBuilder_ rfl) rfl (by show 2 * 0 + _ ≤ _; exact Nat.le_of_eq rfl) (hb hby d1_78) (fun _ _ => ⟨rfl, rfl, (own_le (o := 0) (k := 0) hcl (by decide) rfl), (own_le (o := 0) (k := 0) hsl (by decide) rfl)⟩)
  dsimp only [Pt.U, Pt.locs, Pt.cells, Pt.slots] at X_q12 l_q12 y_q12 z_q12 st_q12 hQ_q12
  subst l_q12 y_q12 z_q12
  obtain ⟨rfl, Nq_q12, Kq_q12, O0_q12, O1_q12, O2_q12, O3_q12, O4_q12⟩ := hQ_q12
  have N_q12 := Fr.app N_q8 Nq_q12
  have EX_sb__q12 := EX_sb__q8.keep Kq_q12
  have EX_va__q12 := EX_va__q8.keep Kq_q12
  have S_COMPACT_STRINGS__q12 := own_sta_keep S_COMPACT_STRINGS__q8 Kq_q12 (allS (own_ns EX_sb__q8) (allS (own_ns EX_va__q8) all0))
  have S_HEX_DIGITS__q12 := own_sta_keep S_HEX_DIGITS__q8 Kq_q12 (allS (own_ns EX_sb__q8) (allS (own_ns EX_va__q8) all0))
  have V_ha__q12 := V_ha__q8.keep Kq_q12 (ninS ne_ha_sb (ninS ne_ha_va nin0))
  have K_q12 : Keep h0 T_q12.heap [sb, va] := K_q8.trans Kq_q12 (allS (Or.inl (List.mem_of_getElem? (i := 0) rfl)) (allS (Or.inl (List.mem_of_getElem? (i := 1) rfl)) all0))
  obtain ⟨w_q12, hl_q12⟩ : ∃ w : List Value, w = (w_q8.set ((cn + (1 : Int32))).toNatClampNeg (.int (nar .byte ((120 : Int32).toInt8.toInt32)))) := ⟨_, rfl⟩
  rw [← hl_q12] at O3_q12
  have ln_q12 : w_q12.length = (zl).toNatClampNeg := by rw [hl_q12]; exact O4_q12
  obtain ⟨T_q15, X_q15, e_q15, st_q15⟩ := getS2 X_q12 hx hZ hown (host := "") (Or.inl (own_w hw 78 rfl)) Via.refl rfl S_HEX_DIGITS__q12 (g := (mkF m 81 #[.val (.ref a1), .val (.ref sb), .val (.ref a1), .val (.int ln), .val (.int ix), .val (.int u0), .val (.int (u0 &&& (255 : Int32)))] [(.ref sb)])) rfl (hb hby d1_81)
  obtain ⟨cl_q16, Ar_q16, qk_q16, S_q16, Nn_q16, H_q16, G_q16⟩ := id V_ha__q12
  have hin_q16 : ¬ ((((u0 &&& (255 : Int32)).toUInt32 >>> ((4 : Int32) &&& 31).toUInt32).toInt32) < 0 ∨ cl_q16.slots.size ≤ ((((u0 &&& (255 : Int32)).toUInt32 >>> ((4 : Int32) &&& 31).toUInt32).toInt32)).toNatClampNeg) := inb_of S_q16 hc_q17
  have hat_q16 : cl_q16.slots[((((u0 &&& (255 : Int32)).toUInt32 >>> ((4 : Int32) &&& 31).toUInt32).toInt32)).toNatClampNeg]? = some (.int (own_hx (((u0 &&& (255 : Int32)).toUInt32 >>> ((4 : Int32) &&& 31).toUInt32).toInt32))) := (H_q16 _ (Nat.lt_of_not_le fun q => hin_q16 (Or.inr q))).trans (congrArg some (own_hex_at (((u0 &&& (255 : Int32)).toUInt32 >>> ((4 : Int32) &&& 31).toUInt32).toInt32) (by have q := Nat.lt_of_not_le fun q => hin_q16 (Or.inr q); rw [S_q16] at q; exact q)))
  obtain ⟨cq_q18, kq_q18, qa_q18, qb_q18, qc_q18⟩ := isOf hZ e_q15 EX_sb__q12
  obtain ⟨_, _, ⟨T_q18, L_q18, k_q18, n_q18⟩, -, X_q18, ⟨Lc_q18, hQ_q18, l_q18, y_q18, z_q18⟩, st_q18⟩ := X_q15.virtualBack hx (y := (⟨"java/lang/StringBuilder", "append", "(C)Ljava/lang/StringBuilder;"⟩ : MethodName)) (z := (⟨"java/lang/StringBuilder", "append", "(C)Ljava/lang/StringBuilder;"⟩ : MethodName)) hown (mvT hZ (own_w hw 26 rfl)) (mvT hZ (own_w hw 27 rfl)) (notFace_of_selects (args := #[]) (mvT hZ (own_w hw 29 rfl))) (mvT hZ (own_w hw 29 rfl)) (mvT hZ (own_w hw 28 rfl)) (by decide) (backOf (W := 0) (rmSA_n l Z a0 hw [] sb va k1 zl w_q12 ((cn + (1 : Int32)) + (1 : Int32)) cs (own_k2 (u0 &&& (255 : Int32))) T_q12.heap n0 (Nat.le_trans Z0 K_q12.1) EX_sb__q12 O0_q12 O1_q12 O2_q12 O3_q12 EX_va__q12 S_COMPACT_STRINGS__q12 ge_sb ge_va ne_va_sb ln_q12 hc_q19 hc_q10 hc_q20 hc_q21) hZ (own_w hw 30 rfl) (own_w hw 7 rfl) (by decide) (by decide)) qa_q18 qc_q18 (g := (mkF m 89 #[.val (.ref a1), .val (.ref sb), .val (.ref a1), .val (.int ln), .val (.int ix), .val (.int u0), .val (.int (u0 &&& (255 : Int32)))] [(.int (own_k2 (u0 &&& (255 : Int32)))), (.ref sb)])) rfl (by rw [hml]; rfl) (Steps.refl _) (argsL := [(.int (own_k2 (u0 &&& (255 : Int32))))]) (rest := []) (lenOf pd__C_Ljava_lang_StringBuilder_ rfl) rfl (by show 2 * 0 + _ ≤ _; exact Nat.le_of_eq rfl) (hb hby d1_89) (fun _ _ => ⟨rfl, e_q15, (own_le (o := 0) (k := 0) hcl (by decide) rfl), (own_le (o := 0) (k := 0) hsl (by decide) rfl)⟩)
  dsimp only [Pt.U, Pt.locs, Pt.cells, Pt.slots] at X_q18 l_q18 y_q18 z_q18 st_q18 hQ_q18
  subst l_q18 y_q18 z_q18
  obtain ⟨rfl, Nq_q18, Kq_q18, O0_q18, O1_q18, O2_q18, O3_q18, O4_q18⟩ := hQ_q18
  have N_q18 := Fr.app N_q12 Nq_q18
  have EX_sb__q18 := EX_sb__q12.keep Kq_q18
  have EX_va__q18 := EX_va__q12.keep Kq_q18
  have S_COMPACT_STRINGS__q18 := own_sta_keep S_COMPACT_STRINGS__q12 Kq_q18 (allS (own_ns EX_sb__q12) (allS (own_ns EX_va__q12) all0))
  have S_HEX_DIGITS__q18 := own_sta_keep S_HEX_DIGITS__q12 Kq_q18 (allS (own_ns EX_sb__q12) (allS (own_ns EX_va__q12) all0))
  have V_ha__q18 := V_ha__q12.keep Kq_q18 (ninS ne_ha_sb (ninS ne_ha_va nin0))
  have K_q18 : Keep h0 T_q18.heap [sb, va] := K_q12.trans Kq_q18 (allS (Or.inl (List.mem_of_getElem? (i := 0) rfl)) (allS (Or.inl (List.mem_of_getElem? (i := 1) rfl)) all0))
  obtain ⟨w_q18, hl_q18⟩ : ∃ w : List Value, w = (w_q12.set (((cn + (1 : Int32)) + (1 : Int32))).toNatClampNeg (.int (nar .byte ((own_k2 (u0 &&& (255 : Int32))).toInt8.toInt32)))) := ⟨_, rfl⟩
  rw [← hl_q18] at O3_q18
  have ln_q18 : w_q18.length = (zl).toNatClampNeg := by rw [hl_q18]; exact O4_q18
  obtain ⟨T_q22, X_q22, e_q22, st_q22⟩ := getS2 X_q18 hx hZ hown (host := "") (Or.inl (own_w hw 78 rfl)) Via.refl rfl S_HEX_DIGITS__q18 (g := (mkF m 92 #[.val (.ref a1), .val (.ref sb), .val (.ref a1), .val (.int ln), .val (.int ix), .val (.int u0), .val (.int (u0 &&& (255 : Int32)))] [(.ref sb)])) rfl (hb hby d1_92)
  obtain ⟨cl_q23, Ar_q23, qk_q23, S_q23, Nn_q23, H_q23, G_q23⟩ := id V_ha__q18
  have hin_q23 : ¬ (((u0 &&& (255 : Int32)) &&& (15 : Int32)) < 0 ∨ cl_q23.slots.size ≤ (((u0 &&& (255 : Int32)) &&& (15 : Int32))).toNatClampNeg) := inb_of S_q23 hc_q24
  have hat_q23 : cl_q23.slots[(((u0 &&& (255 : Int32)) &&& (15 : Int32))).toNatClampNeg]? = some (.int (own_hx ((u0 &&& (255 : Int32)) &&& (15 : Int32)))) := (H_q23 _ (Nat.lt_of_not_le fun q => hin_q23 (Or.inr q))).trans (congrArg some (own_hex_at ((u0 &&& (255 : Int32)) &&& (15 : Int32)) (by have q := Nat.lt_of_not_le fun q => hin_q23 (Or.inr q); rw [S_q23] at q; exact q)))
  obtain ⟨cq_q25, kq_q25, qa_q25, qb_q25, qc_q25⟩ := isOf hZ e_q22 EX_sb__q18
  obtain ⟨_, _, ⟨T_q25, L_q25, k_q25, n_q25⟩, -, X_q25, ⟨Lc_q25, hQ_q25, l_q25, y_q25, z_q25⟩, st_q25⟩ := X_q22.virtualBack hx (y := (⟨"java/lang/StringBuilder", "append", "(C)Ljava/lang/StringBuilder;"⟩ : MethodName)) (z := (⟨"java/lang/StringBuilder", "append", "(C)Ljava/lang/StringBuilder;"⟩ : MethodName)) hown (mvT hZ (own_w hw 26 rfl)) (mvT hZ (own_w hw 27 rfl)) (notFace_of_selects (args := #[]) (mvT hZ (own_w hw 29 rfl))) (mvT hZ (own_w hw 29 rfl)) (mvT hZ (own_w hw 28 rfl)) (by decide) (backOf (W := 0) (rmSA_n l Z a0 hw [] sb va k1 zl w_q18 (((cn + (1 : Int32)) + (1 : Int32)) + (1 : Int32)) cs (own_k3 (u0 &&& (255 : Int32))) T_q18.heap n0 (Nat.le_trans Z0 K_q18.1) EX_sb__q18 O0_q18 O1_q18 O2_q18 O3_q18 EX_va__q18 S_COMPACT_STRINGS__q18 ge_sb ge_va ne_va_sb ln_q18 hc_q26 hc_q10 hc_q27 hc_q28) hZ (own_w hw 30 rfl) (own_w hw 7 rfl) (by decide) (by decide)) qa_q25 qc_q25 (g := (mkF m 101 #[.val (.ref a1), .val (.ref sb), .val (.ref a1), .val (.int ln), .val (.int ix), .val (.int u0), .val (.int (u0 &&& (255 : Int32)))] [(.int (own_k3 (u0 &&& (255 : Int32)))), (.ref sb)])) rfl (by rw [hml]; rfl) (Steps.refl _) (argsL := [(.int (own_k3 (u0 &&& (255 : Int32))))]) (rest := []) (lenOf pd__C_Ljava_lang_StringBuilder_ rfl) rfl (by show 2 * 0 + _ ≤ _; exact Nat.le_of_eq rfl) (hb hby d1_101) (fun _ _ => ⟨rfl, e_q22, (own_le (o := 0) (k := 0) hcl (by decide) rfl), (own_le (o := 0) (k := 0) hsl (by decide) rfl)⟩)
  dsimp only [Pt.U, Pt.locs, Pt.cells, Pt.slots] at X_q25 l_q25 y_q25 z_q25 st_q25 hQ_q25
  subst l_q25 y_q25 z_q25
  obtain ⟨rfl, Nq_q25, Kq_q25, O0_q25, O1_q25, O2_q25, O3_q25, O4_q25⟩ := hQ_q25
  have N_q25 := Fr.app N_q18 Nq_q25
  have EX_va__q25 := EX_va__q18.keep Kq_q25
  have K_q25 : Keep h0 T_q25.heap [sb, va] := K_q18.trans Kq_q25 (allS (Or.inl (List.mem_of_getElem? (i := 0) rfl)) (allS (Or.inl (List.mem_of_getElem? (i := 1) rfl)) all0))
  obtain ⟨w_q25, hl_q25⟩ : ∃ w : List Value, w = (w_q18.set ((((cn + (1 : Int32)) + (1 : Int32)) + (1 : Int32))).toNatClampNeg (.int (nar .byte ((own_k3 (u0 &&& (255 : Int32))).toInt8.toInt32)))) := ⟨_, rfl⟩
  rw [← hl_q25] at O3_q25
  refine ⟨T_q25, _, _, w_q8, w_q12, w_q18, w_q25, X_q25, rfl, N_q25, K_q25, hl_q8, hl_q12, hl_q18, hl_q25, O0_q25, O1_q25, O2_q25, O3_q25, EX_va__q25, fun target kt => ?_⟩
  show Steps p.tables e below (T0.setTop (mkF m 18 #[.val (.ref a1), .val (.ref sb), .val (.ref a1), .val (.int ln), .val (.int ix), s5, s6] [])) _
  refine XS.iload X0.here hx rfl (hb hby d1_18) rfl ?_
  refine XS.iloadN X0.here hx rfl (hb hby d1_20) rfl ?_
  refine XS.icmpNo X0.here hx rfl (hb hby d1_21) rfl (tlt hc_q1).2.1 ?_
  refine XS.aloadN X0.here hx rfl (hb hby d1_24) rfl rfl ?_
  show Steps p.tables e below (T0.setTop (mkF m 25 #[.val (.ref a1), .val (.ref sb), .val (.ref a1), .val (.int ln), .val (.int ix), s5, s6] [(.ref a1)])) _
  refine XS.iload X0.here hx rfl (hb hby d1_25) rfl ?_
  show Steps p.tables e below (T0.setTop (mkF m 27 #[.val (.ref a1), .val (.ref sb), .val (.ref a1), .val (.int ln), .val (.int ix), s5, s6] [(.int ix), (.ref a1)])) _
  refine X0.baloadBytes hx (j := ix) (v := (.int u0)) (by rw [e0]; exact Ar_q2.1) (State.isArrayOf_alike hZ.alike Ar_q2.2.1) Ar_q2.2.2 hin_q2 hat_q2 (g := (mkF m 27 #[.val (.ref a1), .val (.ref sb), .val (.ref a1), .val (.int ln), .val (.int ix), s5, s6] [(.int ix), (.ref a1)])) rfl rfl (hb hby d1_27) _ ?_
  refine XS.istore X0.here hx rfl (hb hby d1_28) rfl (l' := #[.val (.ref a1), .val (.ref sb), .val (.ref a1), .val (.int ln), .val (.int ix), .val (.int u0), s6]) hc_q5 ?_
  refine XS.iload X0.here hx rfl (hb hby d1_30) rfl ?_
  refine XS.sipush X0.here hx rfl (hb hby d1_32) ?_
  show Steps p.tables e below (T0.setTop (mkF m 35 #[.val (.ref a1), .val (.ref sb), .val (.ref a1), .val (.int ln), .val (.int ix), .val (.int u0), s6] [(.int (255 : Int32)), (.int u0)])) _
  refine XS.iand X0.here hx rfl (hb hby d1_35) rfl ?_
  refine XS.istore X0.here hx rfl (hb hby d1_36) rfl (l' := #[.val (.ref a1), .val (.ref sb), .val (.ref a1), .val (.int ln), .val (.int ix), .val (.int u0), .val (.int (u0 &&& (255 : Int32)))]) hc_q6 ?_
  show Steps p.tables e below (T0.setTop (mkF m 38 #[.val (.ref a1), .val (.ref sb), .val (.ref a1), .val (.int ln), .val (.int ix), .val (.int u0), .val (.int (u0 &&& (255 : Int32)))] [])) _
  refine own_ce_E a1 sb a1 ln (ix) u0 (u0 &&& (255 : Int32)) X0 hx hby hc_q7 ?_
  refine XS.aloadN X0.here hx rfl (hb hby d1_70) rfl rfl ?_
  refine XS.bipush X0.here hx rfl (hb hby d1_71) ?_
  show Steps p.tables e below (T0.setTop (mkF m 73 #[.val (.ref a1), .val (.ref sb), .val (.ref a1), .val (.int ln), .val (.int ix), .val (.int u0), .val (.int (u0 &&& (255 : Int32)))] [(.int (92 : Int32)), (.ref sb)])) _
  refine st_q8.trans ?_
  refine XS.bipush X_q8.here hx rfl (hb hby d1_76) ?_
  show Steps p.tables e below (T_q8.setTop (mkF m 78 #[.val (.ref a1), .val (.ref sb), .val (.ref a1), .val (.int ln), .val (.int ix), .val (.int u0), .val (.int (u0 &&& (255 : Int32)))] [(.int (120 : Int32)), (.ref sb)])) _
  refine st_q12.trans ?_
  show Steps p.tables e below (T_q12.setTop (mkF m 81 #[.val (.ref a1), .val (.ref sb), .val (.ref a1), .val (.int ln), .val (.int ix), .val (.int u0), .val (.int (u0 &&& (255 : Int32)))] [(.ref sb)])) _
  refine st_q15 _ ?_
  refine XS.iload X_q15.here hx rfl (hb hby d1_84) rfl ?_
  refine XS.iconst X_q15.here hx rfl (hb hby d1_86) ?_
  refine XS.iushr X_q15.here hx rfl (hb hby d1_87) rfl ?_
  show Steps p.tables e below (T_q15.setTop (mkF m 88 #[.val (.ref a1), .val (.ref sb), .val (.ref a1), .val (.int ln), .val (.int ix), .val (.int u0), .val (.int (u0 &&& (255 : Int32)))] [(.int (((u0 &&& (255 : Int32)).toUInt32 >>> ((4 : Int32) &&& 31).toUInt32).toInt32)), (.ref ha), (.ref sb)])) _
  refine X_q15.caload hx (j := (((u0 &&& (255 : Int32)).toUInt32 >>> ((4 : Int32) &&& 31).toUInt32).toInt32)) (v := (.int (own_hx (((u0 &&& (255 : Int32)).toUInt32 >>> ((4 : Int32) &&& 31).toUInt32).toInt32)))) (by rw [e_q15]; exact Ar_q16.1) (State.isArrayOf_alike hZ.alike Ar_q16.2.1) Ar_q16.2.2 hin_q16 hat_q16 (g := (mkF m 88 #[.val (.ref a1), .val (.ref sb), .val (.ref a1), .val (.int ln), .val (.int ix), .val (.int u0), .val (.int (u0 &&& (255 : Int32)))] [(.int (((u0 &&& (255 : Int32)).toUInt32 >>> ((4 : Int32) &&& 31).toUInt32).toInt32)), (.ref ha), (.ref sb)])) rfl rfl (hb hby d1_88) _ ?_
  show Steps p.tables e below (T_q15.setTop (mkF m 89 #[.val (.ref a1), .val (.ref sb), .val (.ref a1), .val (.int ln), .val (.int ix), .val (.int u0), .val (.int (u0 &&& (255 : Int32)))] [(.int (own_k2 (u0 &&& (255 : Int32)))), (.ref sb)])) _
  refine st_q18.trans ?_
  show Steps p.tables e below (T_q18.setTop (mkF m 92 #[.val (.ref a1), .val (.ref sb), .val (.ref a1), .val (.int ln), .val (.int ix), .val (.int u0), .val (.int (u0 &&& (255 : Int32)))] [(.ref sb)])) _
  refine st_q22 _ ?_
  refine XS.iload X_q22.here hx rfl (hb hby d1_95) rfl ?_
  refine XS.bipush X_q22.here hx rfl (hb hby d1_97) ?_
  refine XS.iand X_q22.here hx rfl (hb hby d1_99) rfl ?_
  show Steps p.tables e below (T_q22.setTop (mkF m 100 #[.val (.ref a1), .val (.ref sb), .val (.ref a1), .val (.int ln), .val (.int ix), .val (.int u0), .val (.int (u0 &&& (255 : Int32)))] [(.int ((u0 &&& (255 : Int32)) &&& (15 : Int32))), (.ref ha), (.ref sb)])) _
  refine X_q22.caload hx (j := ((u0 &&& (255 : Int32)) &&& (15 : Int32))) (v := (.int (own_hx ((u0 &&& (255 : Int32)) &&& (15 : Int32))))) (by rw [e_q22]; exact Ar_q23.1) (State.isArrayOf_alike hZ.alike Ar_q23.2.1) Ar_q23.2.2 hin_q23 hat_q23 (g := (mkF m 100 #[.val (.ref a1), .val (.ref sb), .val (.ref a1), .val (.int ln), .val (.int ix), .val (.int u0), .val (.int (u0 &&& (255 : Int32)))] [(.int ((u0 &&& (255 : Int32)) &&& (15 : Int32))), (.ref ha), (.ref sb)])) rfl rfl (hb hby d1_100) _ ?_
  show Steps p.tables e below (T_q22.setTop (mkF m 101 #[.val (.ref a1), .val (.ref sb), .val (.ref a1), .val (.int ln), .val (.int ix), .val (.int u0), .val (.int (u0 &&& (255 : Int32)))] [(.int (own_k3 (u0 &&& (255 : Int32)))), (.ref sb)])) _
  refine st_q25.trans ?_
  refine XS.pop X_q25.here hx rfl (hb hby d1_104) rfl rfl ?_
  refine XS.iinc X_q25.here hx rfl (hb hby d1_105) rfl (l' := #[.val (.ref a1), .val (.ref sb), .val (.ref a1), .val (.int ln), .val (.int (ix + (1 : Int32))), .val (.int u0), .val (.int (u0 &&& (255 : Int32)))]) rfl ?_
  refine XS.goto X_q25.here hx rfl (pc0 := 108) (pc' := 18) rfl (hb hby d1_108) (by decide) (by decide) ?_
  exact kt
set_option maxRecDepth 65536 in
set_option maxHeartbeats 40000000 in
theorem own_t10 {p : Program} {l : Launch} {e : Env} {s : State} {m : MethodId} {args : Array Value} {below : List Frame} {meth : Method} {c : Code} {T0 : State} {locs : List Loc} {cells slots : Nat} {Z : State} {a0 : Array Value} {h0 : Heap} {n0 : Nat} (a1 sb va ha : Addr) (ka k1 kh : ClassId) (ln ix : Int32) (lk : List Value) (u0 zl : Int32) (lv : List Value) (cn zn cs : Int32) (s5 s6 : Slot)
    (X0 : Stand p l e ({ frames := 9, cells := 6, slots := 70, locals := 180 } : Room) s m args below meth c T0 locs cells slots) (hx : p.tables.exec = Jvm.exec) (hZ : Z.Warmed39 s.vm) (hw : ∀ d ∈ tables_1, d.before a0 Z = true) (hby : c.code = prog_1_method_2_code) (hml : c.maxLocals = 7) (hown : s.vm.findClass "com/example/presplit/presplit/escape/BinaryEscape" = some m.cls) (e0 : T0.heap = h0) (N0 : Fr n0 locs) (Z0 : n0 ≤ h0.size) (hcl : cells + 1 ≤ ({ frames := 9, cells := 6, slots := 70, locals := 180 } : Room).cells) (hsl : slots + 18 ≤ ({ frames := 9, cells := 6, slots := 70, locals := 180 } : Room).slots) (V_a1 : Arv Z h0 a1 ka .byte ln lk (.int (0 : Int32))) (EX_sb : Exa Z h0 sb "java/lang/StringBuilder") (F_value_sb : Fld Z h0 sb "java/lang/AbstractStringBuilder" "value" "[B" (.ref va)) (F_coder_sb : Fld Z h0 sb "java/lang/AbstractStringBuilder" "coder" "B" (.int (0 : Int32))) (F_count_sb : Fld Z h0 sb "java/lang/AbstractStringBuilder" "count" "I" (.int cn)) (V_va : Arv Z h0 va k1 .byte zl lv (.int (0 : Int32))) (EX_va : Exa Z h0 va "[B") (S_COMPACT_STRINGS : Sta Z h0 "java/lang/String" "COMPACT_STRINGS" "Z" (.int cs)) (S_HEX_DIGITS : Sta Z h0 "com/example/presplit/presplit/escape/BinaryEscape" "HEX_DIGITS" "[C" (.ref ha)) (V_ha : Arv Z h0 ha kh .char (16 : Int32) own_hexL (.int (0 : Int32))) (ge_sb : n0 ≤ sb) (ge_va : n0 ≤ va) (ne_va_sb : va ≠ sb) (ne_a1_sb : a1 ≠ sb) (ne_a1_va : a1 ≠ va) (ne_ha_sb : ha ≠ sb) (ne_ha_va : ha ≠ va) (len_lv : lv.length = (zl).toNatClampNeg) (hc_q1 : ix < ln) (hc_q3 : ¬ ix < 0 ∧ ix < ln) (hc_q4 : lk.getD (ix).toNatClampNeg (.int (0 : Int32)) = .int u0) (hc_q5 : storeLocals #[.val (.ref a1), .val (.ref sb), .val (.ref a1), .val (.int ln), .val (.int ix), s5, s6] 5 (.int u0) = some #[.val (.ref a1), .val (.ref sb), .val (.ref a1), .val (.int ln), .val (.int ix), .val (.int u0), s6]) (hc_q6 : storeLocals #[.val (.ref a1), .val (.ref sb), .val (.ref a1), .val (.int ln), .val (.int ix), .val (.int u0), s6] 6 (.int (u0 &&& (255 : Int32))) = some #[.val (.ref a1), .val (.ref sb), .val (.ref a1), .val (.int ln), .val (.int ix), .val (.int u0), .val (.int (u0 &&& (255 : Int32)))]) (hc_q7 : own_esc (u0 &&& (255 : Int32))) (hc_q9 : (0 : Int32) < ((cn + (1 : Int32)) - (zl >>> ((0 : Int32) &&& 31)))) (hc_q10 : (0 : Int32) < (zl + (F12_0 (((cn + (1 : Int32)) <<< ((0 : Int32) &&& 31)) - zl) (zl + (2 : Int32))))) (hc_q11 : ¬ ((2147483639 : Int32) < (zl + (F12_0 (((cn + (1 : Int32)) <<< ((0 : Int32) &&& 31)) - zl) (zl + (2 : Int32)))))) (hc_q12 : ¬ ((zl + (F12_0 (((cn + (1 : Int32)) <<< ((0 : Int32) &&& 31)) - zl) (zl + (2 : Int32)))) = (2147483647 : Int32))) (hc_q13 : (((zl + (F12_0 (((cn + (1 : Int32)) <<< ((0 : Int32) &&& 31)) - zl) (zl + (2 : Int32)))) >>> ((0 : Int32) &&& 31)) <<< ((0 : Int32) &&& 31)) = zn) (hc_q14 : (F14_0 zl zn) = zl) (hc_q15 : ¬ (zn = zl)) (hc_q16 : ¬ (zn) < 0) (hc_q17 : (zn).toNatClampNeg ≤ 18) (hc_q18 : ¬ (zl) < 0) (hc_q19 : (zl).toNatClampNeg ≤ (zn).toNatClampNeg) (hc_q20 : ¬ (cs = (0 : Int32))) (hc_q21 : ¬ cn < 0 ∧ cn < zn) (hc_q23 : ¬ ((0 : Int32) < (((cn + (1 : Int32)) + (1 : Int32)) - (zn >>> ((0 : Int32) &&& 31))))) (hc_q24 : ¬ (cn + (1 : Int32)) < 0 ∧ (cn + (1 : Int32)) < zn) (hc_q27 : ¬ (((u0 &&& (255 : Int32)).toUInt32 >>> ((4 : Int32) &&& 31).toUInt32).toInt32) < 0 ∧ (((u0 &&& (255 : Int32)).toUInt32 >>> ((4 : Int32) &&& 31).toUInt32).toInt32) < (16 : Int32)) (hc_q29 : ¬ ((0 : Int32) < ((((cn + (1 : Int32)) + (1 : Int32)) + (1 : Int32)) - (zn >>> ((0 : Int32) &&& 31))))) (hc_q30 : ¬ ((F9_0 (own_k2 (u0 &&& (255 : Int32)))) = (0 : Int32))) (hc_q31 : ¬ ((cn + (1 : Int32)) + (1 : Int32)) < 0 ∧ ((cn + (1 : Int32)) + (1 : Int32)) < zn) (hc_q34 : ¬ ((u0 &&& (255 : Int32)) &&& (15 : Int32)) < 0 ∧ ((u0 &&& (255 : Int32)) &&& (15 : Int32)) < (16 : Int32)) (hc_q36 : ¬ ((0 : Int32) < (((((cn + (1 : Int32)) + (1 : Int32)) + (1 : Int32)) + (1 : Int32)) - (zn >>> ((0 : Int32) &&& 31))))) (hc_q37 : ¬ ((F9_0 (own_k3 (u0 &&& (255 : Int32)))) = (0 : Int32))) (hc_q38 : ¬ (((cn + (1 : Int32)) + (1 : Int32)) + (1 : Int32)) < 0 ∧ (((cn + (1 : Int32)) + (1 : Int32)) + (1 : Int32)) < zn) :
    ∃ (T' : State) (h' : Heap) (locs' : List Loc) (r1 : Addr) (kr1 : ClassId) (w1 : List Value) (w2 : List Value) (w3 : List Value) (w4 : List Value), Stand p l e ({ frames := 9, cells := 6, slots := 70, locals := 180 } : Room) s m args below meth c T' locs' (cells + 1) (slots + 18) ∧ T'.heap = h' ∧ Fr n0 locs' ∧ Keep h0 h' [sb, va] ∧ h0.size ≤ r1 ∧ w1 = ((own_cp lv (zl).toNatClampNeg (zn).toNatClampNeg).set (cn).toNatClampNeg (.int (nar .byte ((92 : Int32).toInt8.toInt32)))) ∧ w2 = (w1.set ((cn + (1 : Int32))).toNatClampNeg (.int (nar .byte ((120 : Int32).toInt8.toInt32)))) ∧ w3 = (w2.set (((cn + (1 : Int32)) + (1 : Int32))).toNatClampNeg (.int (nar .byte ((own_k2 (u0 &&& (255 : Int32))).toInt8.toInt32)))) ∧ w4 = (w3.set ((((cn + (1 : Int32)) + (1 : Int32)) + (1 : Int32))).toNatClampNeg (.int (nar .byte ((own_k3 (u0 &&& (255 : Int32))).toInt8.toInt32)))) ∧ Fld Z h' sb "java/lang/AbstractStringBuilder" "value" "[B" (.ref r1) ∧ Fld Z h' sb "java/lang/AbstractStringBuilder" "coder" "B" (.int (0 : Int32)) ∧ Fld Z h' sb "java/lang/AbstractStringBuilder" "count" "I" (.int ((((cn + (1 : Int32)) + (1 : Int32)) + (1 : Int32)) + (1 : Int32))) ∧ Arv Z h' r1 kr1 .byte zn w4 (.int (0 : Int32)) ∧ Exa Z h' r1 "[B" ∧
      ∀ target, Steps p.tables e below (T'.setTop (mkF m 18 #[.val (.ref a1), .val (.ref sb), .val (.ref a1), .val (.int ln), .val (.int (ix + (1 : Int32))), .val (.int u0), .val (.int (u0 &&& (255 : Int32)))] [])) target → Steps p.tables e below (T0.setTop (mkF m 18 #[.val (.ref a1), .val (.ref sb), .val (.ref a1), .val (.int ln), .val (.int ix), s5, s6] [])) target := by
  have K0 : Keep h0 h0 [sb, va] := Keep.refl _ _
  obtain ⟨cl_q2, Ar_q2, qk_q2, S_q2, Nn_q2, H_q2, G_q2⟩ := id V_a1
  have hin_q2 : ¬ (ix < 0 ∨ cl_q2.slots.size ≤ (ix).toNatClampNeg) := inb_of S_q2 hc_q3
  have hat_q2 : cl_q2.slots[(ix).toNatClampNeg]? = some (.int u0) := (H_q2 _ (Nat.lt_of_not_le fun q => hin_q2 (Or.inr q))).trans (congrArg some hc_q4)
  obtain ⟨cq_q8, kq_q8, qa_q8, qb_q8, qc_q8⟩ := isOf hZ e0 EX_sb
  obtain ⟨_, _, ⟨T_q8, L_q8, k_q8, n_q8⟩, -, X_q8, ⟨Lc_q8, hQ_q8, l_q8, y_q8, z_q8⟩, st_q8⟩ := X0.virtualBack hx (y := (⟨"java/lang/StringBuilder", "append", "(C)Ljava/lang/StringBuilder;"⟩ : MethodName)) (z := (⟨"java/lang/StringBuilder", "append", "(C)Ljava/lang/StringBuilder;"⟩ : MethodName)) hown (mvT hZ (own_w hw 26 rfl)) (mvT hZ (own_w hw 27 rfl)) (notFace_of_selects (args := #[]) (mvT hZ (own_w hw 29 rfl))) (mvT hZ (own_w hw 29 rfl)) (mvT hZ (own_w hw 28 rfl)) (by decide) (backOf (W := 0) (rmSA_g l Z a0 hw [] sb va k1 zl lv cn zn cs (92 : Int32) h0 n0 (Nat.le_trans Z0 K0.1) EX_sb F_value_sb F_coder_sb F_count_sb V_va EX_va ge_sb ne_va_sb S_COMPACT_STRINGS hc_q9 hc_q10 hc_q11 hc_q12 hc_q13 hc_q14 hc_q15 hc_q16 hc_q17 hc_q18 hc_q19 hc_q20 (by decide) hc_q21) hZ (own_w hw 30 rfl) (own_w hw 7 rfl) (by decide) (by decide)) qa_q8 qc_q8 (g := (mkF m 73 #[.val (.ref a1), .val (.ref sb), .val (.ref a1), .val (.int ln), .val (.int ix), .val (.int u0), .val (.int (u0 &&& (255 : Int32)))] [(.int (92 : Int32)), (.ref sb)])) rfl (by rw [hml]; rfl) (Steps.refl _) (argsL := [(.int (92 : Int32))]) (rest := []) (lenOf pd__C_Ljava_lang_StringBuilder_ rfl) rfl (by show 2 * 0 + _ ≤ _; exact Nat.le_of_eq rfl) (hb hby d1_73) (fun _ _ => ⟨rfl, e0, (own_le (o := 0) (k := 1) hcl (by decide) rfl), (own_le (o := 0) (k := 18) hsl (by decide) rfl)⟩)
  dsimp only [Pt.U, Pt.locs, Pt.cells, Pt.slots] at X_q8 l_q8 y_q8 z_q8 st_q8 hQ_q8
  subst l_q8 y_q8 z_q8
  obtain ⟨r1_q8, kr1_q8, rfl, Nq_q8, Kq_q8, sz0_r1_q8, O0_q8, O1_q8, O2_q8, O3_q8, O4_q8, O5_q8⟩ := hQ_q8
  have N_q8 := Fr.app N0 Nq_q8
  have ge_r1_q8 : n0 ≤ r1_q8 := Nat.le_trans (Nat.le_trans Z0 K0.1) sz0_r1_q8
  have sz_r1_q8 : h0.size ≤ r1_q8 := Nat.le_trans K0.1 sz0_r1_q8
  have ne_sb_r1_q8 : sb ≠ r1_q8 := Nat.ne_of_lt (Nat.lt_of_lt_of_le EX_sb.lt sz0_r1_q8)
  have ne_ha_r1_q8 : ha ≠ r1_q8 := Nat.ne_of_lt (Nat.lt_of_lt_of_le V_ha.lt sz0_r1_q8)
  have EX_sb__q8 := EX_sb.keep Kq_q8
  have S_COMPACT_STRINGS__q8 := own_sta_keep S_COMPACT_STRINGS Kq_q8 (allS (own_ns EX_sb) all0)
  have S_HEX_DIGITS__q8 := own_sta_keep S_HEX_DIGITS Kq_q8 (allS (own_ns EX_sb) all0)
  have V_ha__q8 := V_ha.keep Kq_q8 (ninS ne_ha_sb nin0)
  have K_q8 : Keep h0 T_q8.heap [sb, va] := K0.trans Kq_q8 (allS (Or.inl (List.mem_of_getElem? (i := 0) rfl)) all0)
  obtain ⟨w_q8, hl_q8⟩ : ∃ w : List Value, w = ((own_cp lv (zl).toNatClampNeg (zn).toNatClampNeg).set (cn).toNatClampNeg (.int (nar .byte ((92 : Int32).toInt8.toInt32)))) := ⟨_, rfl⟩
  rw [← hl_q8] at O3_q8
  have ln_q8 : w_q8.length = (zn).toNatClampNeg := by rw [hl_q8]; exact O5_q8
  obtain ⟨cq_q22, kq_q22, qa_q22, qb_q22, qc_q22⟩ := isOf hZ rfl EX_sb__q8
  obtain ⟨_, _, ⟨T_q22, L_q22, k_q22, n_q22⟩, -, X_q22, ⟨Lc_q22, hQ_q22, l_q22, y_q22, z_q22⟩, st_q22⟩ := X_q8.virtualBack hx (y := (⟨"java/lang/StringBuilder", "append", "(C)Ljava/lang/StringBuilder;"⟩ : MethodName)) (z := (⟨"java/lang/StringBuilder", "append", "(C)Ljava/lang/StringBuilder;"⟩ : MethodName)) hown (mvT hZ (own_w hw 26 rfl)) (mvT hZ (own_w hw 27 rfl)) (notFace_of_selects (args := #[]) (mvT hZ (own_w hw 29 rfl))) (mvT hZ (own_w hw 29 rfl)) (mvT hZ (own_w hw 28 rfl)) (by decide) (backOf (W := 0) (rmSA_n l Z a0 hw [] sb r1_q8 kr1_q8 zn w_q8 (cn + (1 : Int32)) cs (120 : Int32) T_q8.heap n0 (Nat.le_trans Z0 K_q8.1) EX_sb__q8 O0_q8 O1_q8 O2_q8 O3_q8 O4_q8 S_COMPACT_STRINGS__q8 ge_sb ge_r1_q8 (Ne.symm ne_sb_r1_q8) ln_q8 hc_q23 hc_q20 (by decide) hc_q24) hZ (own_w hw 30 rfl) (own_w hw 7 rfl) (by decide) (by decide)) qa_q22 qc_q22 (g := (mkF m 78 #[.val (.ref a1), .val (.ref sb), .val (.ref a1), .val (.int ln), .val (.int ix), .val (.int u0), .val (.int (u0 &&& (255 : Int32)))] [(.int (120 : Int32)), (.ref sb)])) rfl (by rw [hml]; rfl) (Steps.refl _) (argsL := [(.int (120 : Int32))]) (rest := []) (lenOf pd__C_Ljava_lang_StringBuilder_ rfl) rfl (by show 2 * 0 + _ ≤ _; exact Nat.le_of_eq rfl) (hb hby d1_78) (fun _ _ => ⟨rfl, rfl, (own_le (o := 1) (k := 0) hcl (by decide) rfl), (own_le (o := 18) (k := 0) hsl (by decide) rfl)⟩)
  dsimp only [Pt.U, Pt.locs, Pt.cells, Pt.slots] at X_q22 l_q22 y_q22 z_q22 st_q22 hQ_q22
  subst l_q22 y_q22 z_q22
  obtain ⟨rfl, Nq_q22, Kq_q22, O0_q22, O1_q22, O2_q22, O3_q22, O4_q22⟩ := hQ_q22
  have N_q22 := Fr.app N_q8 Nq_q22
  have EX_sb__q22 := EX_sb__q8.keep Kq_q22
  have S_COMPACT_STRINGS__q22 := own_sta_keep S_COMPACT_STRINGS__q8 Kq_q22 (allS (own_ns EX_sb__q8) (allS (own_ns O4_q8) all0))
  have S_HEX_DIGITS__q22 := own_sta_keep S_HEX_DIGITS__q8 Kq_q22 (allS (own_ns EX_sb__q8) (allS (own_ns O4_q8) all0))
  have V_ha__q22 := V_ha__q8.keep Kq_q22 (ninS ne_ha_sb (ninS ne_ha_r1_q8 nin0))
  have O4_q8__q22 := O4_q8.keep Kq_q22
  have K_q22 : Keep h0 T_q22.heap [sb, va] := K_q8.trans Kq_q22 (allS (Or.inl (List.mem_of_getElem? (i := 0) rfl)) (allS (Or.inr sz_r1_q8) all0))
  obtain ⟨w_q22, hl_q22⟩ : ∃ w : List Value, w = (w_q8.set ((cn + (1 : Int32))).toNatClampNeg (.int (nar .byte ((120 : Int32).toInt8.toInt32)))) := ⟨_, rfl⟩
  rw [← hl_q22] at O3_q22
  have ln_q22 : w_q22.length = (zn).toNatClampNeg := by rw [hl_q22]; exact O4_q22
  obtain ⟨T_q25, X_q25, e_q25, st_q25⟩ := getS2 X_q22 hx hZ hown (host := "") (Or.inl (own_w hw 78 rfl)) Via.refl rfl S_HEX_DIGITS__q22 (g := (mkF m 81 #[.val (.ref a1), .val (.ref sb), .val (.ref a1), .val (.int ln), .val (.int ix), .val (.int u0), .val (.int (u0 &&& (255 : Int32)))] [(.ref sb)])) rfl (hb hby d1_81)
  obtain ⟨cl_q26, Ar_q26, qk_q26, S_q26, Nn_q26, H_q26, G_q26⟩ := id V_ha__q22
  have hin_q26 : ¬ ((((u0 &&& (255 : Int32)).toUInt32 >>> ((4 : Int32) &&& 31).toUInt32).toInt32) < 0 ∨ cl_q26.slots.size ≤ ((((u0 &&& (255 : Int32)).toUInt32 >>> ((4 : Int32) &&& 31).toUInt32).toInt32)).toNatClampNeg) := inb_of S_q26 hc_q27
  have hat_q26 : cl_q26.slots[((((u0 &&& (255 : Int32)).toUInt32 >>> ((4 : Int32) &&& 31).toUInt32).toInt32)).toNatClampNeg]? = some (.int (own_hx (((u0 &&& (255 : Int32)).toUInt32 >>> ((4 : Int32) &&& 31).toUInt32).toInt32))) := (H_q26 _ (Nat.lt_of_not_le fun q => hin_q26 (Or.inr q))).trans (congrArg some (own_hex_at (((u0 &&& (255 : Int32)).toUInt32 >>> ((4 : Int32) &&& 31).toUInt32).toInt32) (by have q := Nat.lt_of_not_le fun q => hin_q26 (Or.inr q); rw [S_q26] at q; exact q)))
  obtain ⟨cq_q28, kq_q28, qa_q28, qb_q28, qc_q28⟩ := isOf hZ e_q25 EX_sb__q22
  obtain ⟨_, _, ⟨T_q28, L_q28, k_q28, n_q28⟩, -, X_q28, ⟨Lc_q28, hQ_q28, l_q28, y_q28, z_q28⟩, st_q28⟩ := X_q25.virtualBack hx (y := (⟨"java/lang/StringBuilder", "append", "(C)Ljava/lang/StringBuilder;"⟩ : MethodName)) (z := (⟨"java/lang/StringBuilder", "append", "(C)Ljava/lang/StringBuilder;"⟩ : MethodName)) hown (mvT hZ (own_w hw 26 rfl)) (mvT hZ (own_w hw 27 rfl)) (notFace_of_selects (args := #[]) (mvT hZ (own_w hw 29 rfl))) (mvT hZ (own_w hw 29 rfl)) (mvT hZ (own_w hw 28 rfl)) (by decide) (backOf (W := 0) (rmSA_n l Z a0 hw [] sb r1_q8 kr1_q8 zn w_q22 ((cn + (1 : Int32)) + (1 : Int32)) cs (own_k2 (u0 &&& (255 : Int32))) T_q22.heap n0 (Nat.le_trans Z0 K_q22.1) EX_sb__q22 O0_q22 O1_q22 O2_q22 O3_q22 O4_q8__q22 S_COMPACT_STRINGS__q22 ge_sb ge_r1_q8 (Ne.symm ne_sb_r1_q8) ln_q22 hc_q29 hc_q20 hc_q30 hc_q31) hZ (own_w hw 30 rfl) (own_w hw 7 rfl) (by decide) (by decide)) qa_q28 qc_q28 (g := (mkF m 89 #[.val (.ref a1), .val (.ref sb), .val (.ref a1), .val (.int ln), .val (.int ix), .val (.int u0), .val (.int (u0 &&& (255 : Int32)))] [(.int (own_k2 (u0 &&& (255 : Int32)))), (.ref sb)])) rfl (by rw [hml]; rfl) (Steps.refl _) (argsL := [(.int (own_k2 (u0 &&& (255 : Int32))))]) (rest := []) (lenOf pd__C_Ljava_lang_StringBuilder_ rfl) rfl (by show 2 * 0 + _ ≤ _; exact Nat.le_of_eq rfl) (hb hby d1_89) (fun _ _ => ⟨rfl, e_q25, (own_le (o := 1) (k := 0) hcl (by decide) rfl), (own_le (o := 18) (k := 0) hsl (by decide) rfl)⟩)
  dsimp only [Pt.U, Pt.locs, Pt.cells, Pt.slots] at X_q28 l_q28 y_q28 z_q28 st_q28 hQ_q28
  subst l_q28 y_q28 z_q28
  obtain ⟨rfl, Nq_q28, Kq_q28, O0_q28, O1_q28, O2_q28, O3_q28, O4_q28⟩ := hQ_q28
  have N_q28 := Fr.app N_q22 Nq_q28
  have EX_sb__q28 := EX_sb__q22.keep Kq_q28
  have S_COMPACT_STRINGS__q28 := own_sta_keep S_COMPACT_STRINGS__q22 Kq_q28 (allS (own_ns EX_sb__q22) (allS (own_ns O4_q8__q22) all0))
  have S_HEX_DIGITS__q28 := own_sta_keep S_HEX_DIGITS__q22 Kq_q28 (allS (own_ns EX_sb__q22) (allS (own_ns O4_q8__q22) all0))
  have V_ha__q28 := V_ha__q22.keep Kq_q28 (ninS ne_ha_sb (ninS ne_ha_r1_q8 nin0))
  have O4_q8__q28 := O4_q8__q22.keep Kq_q28
  have K_q28 : Keep h0 T_q28.heap [sb, va] := K_q22.trans Kq_q28 (allS (Or.inl (List.mem_of_getElem? (i := 0) rfl)) (allS (Or.inr sz_r1_q8) all0))
  obtain ⟨w_q28, hl_q28⟩ : ∃ w : List Value, w = (w_q22.set (((cn + (1 : Int32)) + (1 : Int32))).toNatClampNeg (.int (nar .byte ((own_k2 (u0 &&& (255 : Int32))).toInt8.toInt32)))) := ⟨_, rfl⟩
  rw [← hl_q28] at O3_q28
  have ln_q28 : w_q28.length = (zn).toNatClampNeg := by rw [hl_q28]; exact O4_q28
  obtain ⟨T_q32, X_q32, e_q32, st_q32⟩ := getS2 X_q28 hx hZ hown (host := "") (Or.inl (own_w hw 78 rfl)) Via.refl rfl S_HEX_DIGITS__q28 (g := (mkF m 92 #[.val (.ref a1), .val (.ref sb), .val (.ref a1), .val (.int ln), .val (.int ix), .val (.int u0), .val (.int (u0 &&& (255 : Int32)))] [(.ref sb)])) rfl (hb hby d1_92)
  obtain ⟨cl_q33, Ar_q33, qk_q33, S_q33, Nn_q33, H_q33, G_q33⟩ := id V_ha__q28
  have hin_q33 : ¬ (((u0 &&& (255 : Int32)) &&& (15 : Int32)) < 0 ∨ cl_q33.slots.size ≤ (((u0 &&& (255 : Int32)) &&& (15 : Int32))).toNatClampNeg) := inb_of S_q33 hc_q34
  have hat_q33 : cl_q33.slots[(((u0 &&& (255 : Int32)) &&& (15 : Int32))).toNatClampNeg]? = some (.int (own_hx ((u0 &&& (255 : Int32)) &&& (15 : Int32)))) := (H_q33 _ (Nat.lt_of_not_le fun q => hin_q33 (Or.inr q))).trans (congrArg some (own_hex_at ((u0 &&& (255 : Int32)) &&& (15 : Int32)) (by have q := Nat.lt_of_not_le fun q => hin_q33 (Or.inr q); rw [S_q33] at q; exact q)))
  obtain ⟨cq_q35, kq_q35, qa_q35, qb_q35, qc_q35⟩ := isOf hZ e_q32 EX_sb__q28
  obtain ⟨_, _, ⟨T_q35, L_q35, k_q35, n_q35⟩, -, X_q35, ⟨Lc_q35, hQ_q35, l_q35, y_q35, z_q35⟩, st_q35⟩ := X_q32.virtualBack hx (y := (⟨"java/lang/StringBuilder", "append", "(C)Ljava/lang/StringBuilder;"⟩ : MethodName)) (z := (⟨"java/lang/StringBuilder", "append", "(C)Ljava/lang/StringBuilder;"⟩ : MethodName)) hown (mvT hZ (own_w hw 26 rfl)) (mvT hZ (own_w hw 27 rfl)) (notFace_of_selects (args := #[]) (mvT hZ (own_w hw 29 rfl))) (mvT hZ (own_w hw 29 rfl)) (mvT hZ (own_w hw 28 rfl)) (by decide) (backOf (W := 0) (rmSA_n l Z a0 hw [] sb r1_q8 kr1_q8 zn w_q28 (((cn + (1 : Int32)) + (1 : Int32)) + (1 : Int32)) cs (own_k3 (u0 &&& (255 : Int32))) T_q28.heap n0 (Nat.le_trans Z0 K_q28.1) EX_sb__q28 O0_q28 O1_q28 O2_q28 O3_q28 O4_q8__q28 S_COMPACT_STRINGS__q28 ge_sb ge_r1_q8 (Ne.symm ne_sb_r1_q8) ln_q28 hc_q36 hc_q20 hc_q37 hc_q38) hZ (own_w hw 30 rfl) (own_w hw 7 rfl) (by decide) (by decide)) qa_q35 qc_q35 (g := (mkF m 101 #[.val (.ref a1), .val (.ref sb), .val (.ref a1), .val (.int ln), .val (.int ix), .val (.int u0), .val (.int (u0 &&& (255 : Int32)))] [(.int (own_k3 (u0 &&& (255 : Int32)))), (.ref sb)])) rfl (by rw [hml]; rfl) (Steps.refl _) (argsL := [(.int (own_k3 (u0 &&& (255 : Int32))))]) (rest := []) (lenOf pd__C_Ljava_lang_StringBuilder_ rfl) rfl (by show 2 * 0 + _ ≤ _; exact Nat.le_of_eq rfl) (hb hby d1_101) (fun _ _ => ⟨rfl, e_q32, (own_le (o := 1) (k := 0) hcl (by decide) rfl), (own_le (o := 18) (k := 0) hsl (by decide) rfl)⟩)
  dsimp only [Pt.U, Pt.locs, Pt.cells, Pt.slots] at X_q35 l_q35 y_q35 z_q35 st_q35 hQ_q35
  subst l_q35 y_q35 z_q35
  obtain ⟨rfl, Nq_q35, Kq_q35, O0_q35, O1_q35, O2_q35, O3_q35, O4_q35⟩ := hQ_q35
  have N_q35 := Fr.app N_q28 Nq_q35
  have O4_q8__q35 := O4_q8__q28.keep Kq_q35
  have K_q35 : Keep h0 T_q35.heap [sb, va] := K_q28.trans Kq_q35 (allS (Or.inl (List.mem_of_getElem? (i := 0) rfl)) (allS (Or.inr sz_r1_q8) all0))
  obtain ⟨w_q35, hl_q35⟩ : ∃ w : List Value, w = (w_q28.set ((((cn + (1 : Int32)) + (1 : Int32)) + (1 : Int32))).toNatClampNeg (.int (nar .byte ((own_k3 (u0 &&& (255 : Int32))).toInt8.toInt32)))) := ⟨_, rfl⟩
  rw [← hl_q35] at O3_q35
  refine ⟨T_q35, _, _, r1_q8, kr1_q8, w_q8, w_q22, w_q28, w_q35, X_q35, rfl, N_q35, K_q35, sz_r1_q8, hl_q8, hl_q22, hl_q28, hl_q35, O0_q35, O1_q35, O2_q35, O3_q35, O4_q8__q35, fun target kt => ?_⟩
  show Steps p.tables e below (T0.setTop (mkF m 18 #[.val (.ref a1), .val (.ref sb), .val (.ref a1), .val (.int ln), .val (.int ix), s5, s6] [])) _
  refine XS.iload X0.here hx rfl (hb hby d1_18) rfl ?_
  refine XS.iloadN X0.here hx rfl (hb hby d1_20) rfl ?_
  refine XS.icmpNo X0.here hx rfl (hb hby d1_21) rfl (tlt hc_q1).2.1 ?_
  refine XS.aloadN X0.here hx rfl (hb hby d1_24) rfl rfl ?_
  show Steps p.tables e below (T0.setTop (mkF m 25 #[.val (.ref a1), .val (.ref sb), .val (.ref a1), .val (.int ln), .val (.int ix), s5, s6] [(.ref a1)])) _
  refine XS.iload X0.here hx rfl (hb hby d1_25) rfl ?_
  show Steps p.tables e below (T0.setTop (mkF m 27 #[.val (.ref a1), .val (.ref sb), .val (.ref a1), .val (.int ln), .val (.int ix), s5, s6] [(.int ix), (.ref a1)])) _
  refine X0.baloadBytes hx (j := ix) (v := (.int u0)) (by rw [e0]; exact Ar_q2.1) (State.isArrayOf_alike hZ.alike Ar_q2.2.1) Ar_q2.2.2 hin_q2 hat_q2 (g := (mkF m 27 #[.val (.ref a1), .val (.ref sb), .val (.ref a1), .val (.int ln), .val (.int ix), s5, s6] [(.int ix), (.ref a1)])) rfl rfl (hb hby d1_27) _ ?_
  refine XS.istore X0.here hx rfl (hb hby d1_28) rfl (l' := #[.val (.ref a1), .val (.ref sb), .val (.ref a1), .val (.int ln), .val (.int ix), .val (.int u0), s6]) hc_q5 ?_
  refine XS.iload X0.here hx rfl (hb hby d1_30) rfl ?_
  refine XS.sipush X0.here hx rfl (hb hby d1_32) ?_
  show Steps p.tables e below (T0.setTop (mkF m 35 #[.val (.ref a1), .val (.ref sb), .val (.ref a1), .val (.int ln), .val (.int ix), .val (.int u0), s6] [(.int (255 : Int32)), (.int u0)])) _
  refine XS.iand X0.here hx rfl (hb hby d1_35) rfl ?_
  refine XS.istore X0.here hx rfl (hb hby d1_36) rfl (l' := #[.val (.ref a1), .val (.ref sb), .val (.ref a1), .val (.int ln), .val (.int ix), .val (.int u0), .val (.int (u0 &&& (255 : Int32)))]) hc_q6 ?_
  show Steps p.tables e below (T0.setTop (mkF m 38 #[.val (.ref a1), .val (.ref sb), .val (.ref a1), .val (.int ln), .val (.int ix), .val (.int u0), .val (.int (u0 &&& (255 : Int32)))] [])) _
  refine own_ce_E a1 sb a1 ln (ix) u0 (u0 &&& (255 : Int32)) X0 hx hby hc_q7 ?_
  refine XS.aloadN X0.here hx rfl (hb hby d1_70) rfl rfl ?_
  refine XS.bipush X0.here hx rfl (hb hby d1_71) ?_
  show Steps p.tables e below (T0.setTop (mkF m 73 #[.val (.ref a1), .val (.ref sb), .val (.ref a1), .val (.int ln), .val (.int ix), .val (.int u0), .val (.int (u0 &&& (255 : Int32)))] [(.int (92 : Int32)), (.ref sb)])) _
  refine st_q8.trans ?_
  refine XS.bipush X_q8.here hx rfl (hb hby d1_76) ?_
  show Steps p.tables e below (T_q8.setTop (mkF m 78 #[.val (.ref a1), .val (.ref sb), .val (.ref a1), .val (.int ln), .val (.int ix), .val (.int u0), .val (.int (u0 &&& (255 : Int32)))] [(.int (120 : Int32)), (.ref sb)])) _
  refine st_q22.trans ?_
  show Steps p.tables e below (T_q22.setTop (mkF m 81 #[.val (.ref a1), .val (.ref sb), .val (.ref a1), .val (.int ln), .val (.int ix), .val (.int u0), .val (.int (u0 &&& (255 : Int32)))] [(.ref sb)])) _
  refine st_q25 _ ?_
  refine XS.iload X_q25.here hx rfl (hb hby d1_84) rfl ?_
  refine XS.iconst X_q25.here hx rfl (hb hby d1_86) ?_
  refine XS.iushr X_q25.here hx rfl (hb hby d1_87) rfl ?_
  show Steps p.tables e below (T_q25.setTop (mkF m 88 #[.val (.ref a1), .val (.ref sb), .val (.ref a1), .val (.int ln), .val (.int ix), .val (.int u0), .val (.int (u0 &&& (255 : Int32)))] [(.int (((u0 &&& (255 : Int32)).toUInt32 >>> ((4 : Int32) &&& 31).toUInt32).toInt32)), (.ref ha), (.ref sb)])) _
  refine X_q25.caload hx (j := (((u0 &&& (255 : Int32)).toUInt32 >>> ((4 : Int32) &&& 31).toUInt32).toInt32)) (v := (.int (own_hx (((u0 &&& (255 : Int32)).toUInt32 >>> ((4 : Int32) &&& 31).toUInt32).toInt32)))) (by rw [e_q25]; exact Ar_q26.1) (State.isArrayOf_alike hZ.alike Ar_q26.2.1) Ar_q26.2.2 hin_q26 hat_q26 (g := (mkF m 88 #[.val (.ref a1), .val (.ref sb), .val (.ref a1), .val (.int ln), .val (.int ix), .val (.int u0), .val (.int (u0 &&& (255 : Int32)))] [(.int (((u0 &&& (255 : Int32)).toUInt32 >>> ((4 : Int32) &&& 31).toUInt32).toInt32)), (.ref ha), (.ref sb)])) rfl rfl (hb hby d1_88) _ ?_
  show Steps p.tables e below (T_q25.setTop (mkF m 89 #[.val (.ref a1), .val (.ref sb), .val (.ref a1), .val (.int ln), .val (.int ix), .val (.int u0), .val (.int (u0 &&& (255 : Int32)))] [(.int (own_k2 (u0 &&& (255 : Int32)))), (.ref sb)])) _
  refine st_q28.trans ?_
  show Steps p.tables e below (T_q28.setTop (mkF m 92 #[.val (.ref a1), .val (.ref sb), .val (.ref a1), .val (.int ln), .val (.int ix), .val (.int u0), .val (.int (u0 &&& (255 : Int32)))] [(.ref sb)])) _
  refine st_q32 _ ?_
  refine XS.iload X_q32.here hx rfl (hb hby d1_95) rfl ?_
  refine XS.bipush X_q32.here hx rfl (hb hby d1_97) ?_
  refine XS.iand X_q32.here hx rfl (hb hby d1_99) rfl ?_
  show Steps p.tables e below (T_q32.setTop (mkF m 100 #[.val (.ref a1), .val (.ref sb), .val (.ref a1), .val (.int ln), .val (.int ix), .val (.int u0), .val (.int (u0 &&& (255 : Int32)))] [(.int ((u0 &&& (255 : Int32)) &&& (15 : Int32))), (.ref ha), (.ref sb)])) _
  refine X_q32.caload hx (j := ((u0 &&& (255 : Int32)) &&& (15 : Int32))) (v := (.int (own_hx ((u0 &&& (255 : Int32)) &&& (15 : Int32))))) (by rw [e_q32]; exact Ar_q33.1) (State.isArrayOf_alike hZ.alike Ar_q33.2.1) Ar_q33.2.2 hin_q33 hat_q33 (g := (mkF m 100 #[.val (.ref a1), .val (.ref sb), .val (.ref a1), .val (.int ln), .val (.int ix), .val (.int u0), .val (.int (u0 &&& (255 : Int32)))] [(.int ((u0 &&& (255 : Int32)) &&& (15 : Int32))), (.ref ha), (.ref sb)])) rfl rfl (hb hby d1_100) _ ?_
  show Steps p.tables e below (T_q32.setTop (mkF m 101 #[.val (.ref a1), .val (.ref sb), .val (.ref a1), .val (.int ln), .val (.int ix), .val (.int u0), .val (.int (u0 &&& (255 : Int32)))] [(.int (own_k3 (u0 &&& (255 : Int32)))), (.ref sb)])) _
  refine st_q35.trans ?_
  refine XS.pop X_q35.here hx rfl (hb hby d1_104) rfl rfl ?_
  refine XS.iinc X_q35.here hx rfl (hb hby d1_105) rfl (l' := #[.val (.ref a1), .val (.ref sb), .val (.ref a1), .val (.int ln), .val (.int (ix + (1 : Int32))), .val (.int u0), .val (.int (u0 &&& (255 : Int32)))]) rfl ?_
  refine XS.goto X_q35.here hx rfl (pc0 := 108) (pc' := 18) rfl (hb hby d1_108) (by decide) (by decide) ?_
  exact kt
set_option maxRecDepth 65536 in
set_option maxHeartbeats 40000000 in
theorem own_t11 {p : Program} {l : Launch} {e : Env} {s : State} {m : MethodId} {args : Array Value} {below : List Frame} {meth : Method} {c : Code} {T0 : State} {locs : List Loc} {cells slots : Nat} {Z : State} {a0 : Array Value} {h0 : Heap} {n0 : Nat} (a1 sb va ha : Addr) (ka k1 kh : ClassId) (ln ix : Int32) (lk : List Value) (u0 zl : Int32) (lv : List Value) (cn zn cs : Int32) (s5 s6 : Slot)
    (X0 : Stand p l e ({ frames := 9, cells := 6, slots := 70, locals := 180 } : Room) s m args below meth c T0 locs cells slots) (hx : p.tables.exec = Jvm.exec) (hZ : Z.Warmed39 s.vm) (hw : ∀ d ∈ tables_1, d.before a0 Z = true) (hby : c.code = prog_1_method_2_code) (hml : c.maxLocals = 7) (hown : s.vm.findClass "com/example/presplit/presplit/escape/BinaryEscape" = some m.cls) (e0 : T0.heap = h0) (N0 : Fr n0 locs) (Z0 : n0 ≤ h0.size) (hcl : cells + 1 ≤ ({ frames := 9, cells := 6, slots := 70, locals := 180 } : Room).cells) (hsl : slots + 18 ≤ ({ frames := 9, cells := 6, slots := 70, locals := 180 } : Room).slots) (V_a1 : Arv Z h0 a1 ka .byte ln lk (.int (0 : Int32))) (EX_sb : Exa Z h0 sb "java/lang/StringBuilder") (F_value_sb : Fld Z h0 sb "java/lang/AbstractStringBuilder" "value" "[B" (.ref va)) (F_coder_sb : Fld Z h0 sb "java/lang/AbstractStringBuilder" "coder" "B" (.int (0 : Int32))) (F_count_sb : Fld Z h0 sb "java/lang/AbstractStringBuilder" "count" "I" (.int cn)) (V_va : Arv Z h0 va k1 .byte zl lv (.int (0 : Int32))) (EX_va : Exa Z h0 va "[B") (S_COMPACT_STRINGS : Sta Z h0 "java/lang/String" "COMPACT_STRINGS" "Z" (.int cs)) (S_HEX_DIGITS : Sta Z h0 "com/example/presplit/presplit/escape/BinaryEscape" "HEX_DIGITS" "[C" (.ref ha)) (V_ha : Arv Z h0 ha kh .char (16 : Int32) own_hexL (.int (0 : Int32))) (ge_sb : n0 ≤ sb) (ge_va : n0 ≤ va) (ne_va_sb : va ≠ sb) (ne_a1_sb : a1 ≠ sb) (ne_a1_va : a1 ≠ va) (ne_ha_sb : ha ≠ sb) (ne_ha_va : ha ≠ va) (len_lv : lv.length = (zl).toNatClampNeg) (hc_q1 : ix < ln) (hc_q3 : ¬ ix < 0 ∧ ix < ln) (hc_q4 : lk.getD (ix).toNatClampNeg (.int (0 : Int32)) = .int u0) (hc_q5 : storeLocals #[.val (.ref a1), .val (.ref sb), .val (.ref a1), .val (.int ln), .val (.int ix), s5, s6] 5 (.int u0) = some #[.val (.ref a1), .val (.ref sb), .val (.ref a1), .val (.int ln), .val (.int ix), .val (.int u0), s6]) (hc_q6 : storeLocals #[.val (.ref a1), .val (.ref sb), .val (.ref a1), .val (.int ln), .val (.int ix), .val (.int u0), s6] 6 (.int (u0 &&& (255 : Int32))) = some #[.val (.ref a1), .val (.ref sb), .val (.ref a1), .val (.int ln), .val (.int ix), .val (.int u0), .val (.int (u0 &&& (255 : Int32)))]) (hc_q7 : own_esc (u0 &&& (255 : Int32))) (hc_q9 : ¬ ((0 : Int32) < ((cn + (1 : Int32)) - (zl >>> ((0 : Int32) &&& 31))))) (hc_q10 : ¬ (cs = (0 : Int32))) (hc_q11 : ¬ cn < 0 ∧ cn < zl) (hc_q13 : (0 : Int32) < (((cn + (1 : Int32)) + (1 : Int32)) - (zl >>> ((0 : Int32) &&& 31)))) (hc_q14 : (0 : Int32) < (zl + (F12_0 ((((cn + (1 : Int32)) + (1 : Int32)) <<< ((0 : Int32) &&& 31)) - zl) (zl + (2 : Int32))))) (hc_q15 : ¬ ((2147483639 : Int32) < (zl + (F12_0 ((((cn + (1 : Int32)) + (1 : Int32)) <<< ((0 : Int32) &&& 31)) - zl) (zl + (2 : Int32)))))) (hc_q16 : ¬ ((zl + (F12_0 ((((cn + (1 : Int32)) + (1 : Int32)) <<< ((0 : Int32) &&& 31)) - zl) (zl + (2 : Int32)))) = (2147483647 : Int32))) (hc_q17 : (((zl + (F12_0 ((((cn + (1 : Int32)) + (1 : Int32)) <<< ((0 : Int32) &&& 31)) - zl) (zl + (2 : Int32)))) >>> ((0 : Int32) &&& 31)) <<< ((0 : Int32) &&& 31)) = zn) (hc_q18 : (F14_0 zl zn) = zl) (hc_q19 : ¬ (zn = zl)) (hc_q20 : ¬ (zn) < 0) (hc_q21 : (zn).toNatClampNeg ≤ 18) (hc_q22 : ¬ (zl) < 0) (hc_q23 : (zl).toNatClampNeg ≤ (zn).toNatClampNeg) (hc_q24 : ¬ (cn + (1 : Int32)) < 0 ∧ (cn + (1 : Int32)) < zn) (hc_q27 : ¬ (((u0 &&& (255 : Int32)).toUInt32 >>> ((4 : Int32) &&& 31).toUInt32).toInt32) < 0 ∧ (((u0 &&& (255 : Int32)).toUInt32 >>> ((4 : Int32) &&& 31).toUInt32).toInt32) < (16 : Int32)) (hc_q29 : ¬ ((0 : Int32) < ((((cn + (1 : Int32)) + (1 : Int32)) + (1 : Int32)) - (zn >>> ((0 : Int32) &&& 31))))) (hc_q30 : ¬ ((F9_0 (own_k2 (u0 &&& (255 : Int32)))) = (0 : Int32))) (hc_q31 : ¬ ((cn + (1 : Int32)) + (1 : Int32)) < 0 ∧ ((cn + (1 : Int32)) + (1 : Int32)) < zn) (hc_q34 : ¬ ((u0 &&& (255 : Int32)) &&& (15 : Int32)) < 0 ∧ ((u0 &&& (255 : Int32)) &&& (15 : Int32)) < (16 : Int32)) (hc_q36 : ¬ ((0 : Int32) < (((((cn + (1 : Int32)) + (1 : Int32)) + (1 : Int32)) + (1 : Int32)) - (zn >>> ((0 : Int32) &&& 31))))) (hc_q37 : ¬ ((F9_0 (own_k3 (u0 &&& (255 : Int32)))) = (0 : Int32))) (hc_q38 : ¬ (((cn + (1 : Int32)) + (1 : Int32)) + (1 : Int32)) < 0 ∧ (((cn + (1 : Int32)) + (1 : Int32)) + (1 : Int32)) < zn) :
    ∃ (T' : State) (h' : Heap) (locs' : List Loc) (r1 : Addr) (kr1 : ClassId) (w1 : List Value) (w2 : List Value) (w3 : List Value) (w4 : List Value), Stand p l e ({ frames := 9, cells := 6, slots := 70, locals := 180 } : Room) s m args below meth c T' locs' (cells + 1) (slots + 18) ∧ T'.heap = h' ∧ Fr n0 locs' ∧ Keep h0 h' [sb, va] ∧ h0.size ≤ r1 ∧ w1 = (lv.set (cn).toNatClampNeg (.int (nar .byte ((92 : Int32).toInt8.toInt32)))) ∧ w2 = ((own_cp w1 (zl).toNatClampNeg (zn).toNatClampNeg).set ((cn + (1 : Int32))).toNatClampNeg (.int (nar .byte ((120 : Int32).toInt8.toInt32)))) ∧ w3 = (w2.set (((cn + (1 : Int32)) + (1 : Int32))).toNatClampNeg (.int (nar .byte ((own_k2 (u0 &&& (255 : Int32))).toInt8.toInt32)))) ∧ w4 = (w3.set ((((cn + (1 : Int32)) + (1 : Int32)) + (1 : Int32))).toNatClampNeg (.int (nar .byte ((own_k3 (u0 &&& (255 : Int32))).toInt8.toInt32)))) ∧ Fld Z h' sb "java/lang/AbstractStringBuilder" "value" "[B" (.ref r1) ∧ Fld Z h' sb "java/lang/AbstractStringBuilder" "coder" "B" (.int (0 : Int32)) ∧ Fld Z h' sb "java/lang/AbstractStringBuilder" "count" "I" (.int ((((cn + (1 : Int32)) + (1 : Int32)) + (1 : Int32)) + (1 : Int32))) ∧ Arv Z h' r1 kr1 .byte zn w4 (.int (0 : Int32)) ∧ Exa Z h' r1 "[B" ∧
      ∀ target, Steps p.tables e below (T'.setTop (mkF m 18 #[.val (.ref a1), .val (.ref sb), .val (.ref a1), .val (.int ln), .val (.int (ix + (1 : Int32))), .val (.int u0), .val (.int (u0 &&& (255 : Int32)))] [])) target → Steps p.tables e below (T0.setTop (mkF m 18 #[.val (.ref a1), .val (.ref sb), .val (.ref a1), .val (.int ln), .val (.int ix), s5, s6] [])) target := by
  have K0 : Keep h0 h0 [sb, va] := Keep.refl _ _
  obtain ⟨cl_q2, Ar_q2, qk_q2, S_q2, Nn_q2, H_q2, G_q2⟩ := id V_a1
  have hin_q2 : ¬ (ix < 0 ∨ cl_q2.slots.size ≤ (ix).toNatClampNeg) := inb_of S_q2 hc_q3
  have hat_q2 : cl_q2.slots[(ix).toNatClampNeg]? = some (.int u0) := (H_q2 _ (Nat.lt_of_not_le fun q => hin_q2 (Or.inr q))).trans (congrArg some hc_q4)
  obtain ⟨cq_q8, kq_q8, qa_q8, qb_q8, qc_q8⟩ := isOf hZ e0 EX_sb
  obtain ⟨_, _, ⟨T_q8, L_q8, k_q8, n_q8⟩, -, X_q8, ⟨Lc_q8, hQ_q8, l_q8, y_q8, z_q8⟩, st_q8⟩ := X0.virtualBack hx (y := (⟨"java/lang/StringBuilder", "append", "(C)Ljava/lang/StringBuilder;"⟩ : MethodName)) (z := (⟨"java/lang/StringBuilder", "append", "(C)Ljava/lang/StringBuilder;"⟩ : MethodName)) hown (mvT hZ (own_w hw 26 rfl)) (mvT hZ (own_w hw 27 rfl)) (notFace_of_selects (args := #[]) (mvT hZ (own_w hw 29 rfl))) (mvT hZ (own_w hw 29 rfl)) (mvT hZ (own_w hw 28 rfl)) (by decide) (backOf (W := 0) (rmSA_n l Z a0 hw [] sb va k1 zl lv cn cs (92 : Int32) h0 n0 (Nat.le_trans Z0 K0.1) EX_sb F_value_sb F_coder_sb F_count_sb V_va EX_va S_COMPACT_STRINGS ge_sb ge_va ne_va_sb len_lv hc_q9 hc_q10 (by decide) hc_q11) hZ (own_w hw 30 rfl) (own_w hw 7 rfl) (by decide) (by decide)) qa_q8 qc_q8 (g := (mkF m 73 #[.val (.ref a1), .val (.ref sb), .val (.ref a1), .val (.int ln), .val (.int ix), .val (.int u0), .val (.int (u0 &&& (255 : Int32)))] [(.int (92 : Int32)), (.ref sb)])) rfl (by rw [hml]; rfl) (Steps.refl _) (argsL := [(.int (92 : Int32))]) (rest := []) (lenOf pd__C_Ljava_lang_StringBuilder_ rfl) rfl (by show 2 * 0 + _ ≤ _; exact Nat.le_of_eq rfl) (hb hby d1_73) (fun _ _ => ⟨rfl, e0, (own_le (o := 0) (k := 0) hcl (by decide) rfl), (own_le (o := 0) (k := 0) hsl (by decide) rfl)⟩)
  dsimp only [Pt.U, Pt.locs, Pt.cells, Pt.slots] at X_q8 l_q8 y_q8 z_q8 st_q8 hQ_q8
  subst l_q8 y_q8 z_q8
  obtain ⟨rfl, Nq_q8, Kq_q8, O0_q8, O1_q8, O2_q8, O3_q8, O4_q8⟩ := hQ_q8
  have N_q8 := Fr.app N0 Nq_q8
  have EX_sb__q8 := EX_sb.keep Kq_q8
  have EX_va__q8 := EX_va.keep Kq_q8
  have S_COMPACT_STRINGS__q8 := own_sta_keep S_COMPACT_STRINGS Kq_q8 (allS (own_ns EX_sb) (allS (own_ns EX_va) all0))
  have S_HEX_DIGITS__q8 := own_sta_keep S_HEX_DIGITS Kq_q8 (allS (own_ns EX_sb) (allS (own_ns EX_va) all0))
  have V_ha__q8 := V_ha.keep Kq_q8 (ninS ne_ha_sb (ninS ne_ha_va nin0))
  have K_q8 : Keep h0 T_q8.heap [sb, va] := K0.trans Kq_q8 (allS (Or.inl (List.mem_of_getElem? (i := 0) rfl)) (allS (Or.inl (List.mem_of_getElem? (i := 1) rfl)) all0))
  obtain ⟨w_q8, hl_q8⟩ : ∃ w : List Value, w = (lv.set (cn).toNatClampNeg (.int (nar .byte ((92 : Int32).toInt8.toInt32)))) := ⟨_, rfl⟩
  rw [← hl_q8] at O3_q8
  obtain ⟨cq_q12, kq_q12, qa_q12, qb_q12, qc_q12⟩ := isOf hZ rfl EX_sb__q8
  obtain ⟨_, _, ⟨T_q12, L_q12, k_q12, n_q12⟩, -, X_q12, ⟨Lc_q12, hQ_q12, l_q12, y_q12, z_q12⟩, st_q12⟩ := X_q8.virtualBack hx (y := (⟨"java/lang/StringBuilder", "append", "(C)Ljava/lang/StringBuilder;"⟩ : MethodName)) (z := (⟨"java/lang/StringBuilder", "append", "(C)Ljava/lang/StringBuilder;"⟩ : MethodName)) hown (mvT hZ (own_w hw 26 rfl)) (mvT hZ (own_w hw 27 rfl)) (notFace_of_selects (args := #[]) (mvT hZ (own_w hw 29 rfl))) (mvT hZ (own_w hw 29 rfl)) (mvT hZ (own_w hw 28 rfl)) (by decide) (backOf (W := 0) (rmSA_g l Z a0 hw [] sb va k1 zl w_q8 (cn + (1 : Int32)) zn cs (120 : Int32) T_q8.heap n0 (Nat.le_trans Z0 K_q8.1) EX_sb__q8 O0_q8 O1_q8 O2_q8 O3_q8 EX_va__q8 ge_sb ne_va_sb S_COMPACT_STRINGS__q8 hc_q13 hc_q14 hc_q15 hc_q16 hc_q17 hc_q18 hc_q19 hc_q20 hc_q21 hc_q22 hc_q23 hc_q10 (by decide) hc_q24) hZ (own_w hw 30 rfl) (own_w hw 7 rfl) (by decide) (by decide)) qa_q12 qc_q12 (g := (mkF m 78 #[.val (.ref a1), .val (.ref sb), .val (.ref a1), .val (.int ln), .val (.int ix), .val (.int u0), .val (.int (u0 &&& (255 : Int32)))] [(.int (120 : Int32)), (.ref sb)])) rfl (by rw [hml]; rfl) (Steps.refl _) (argsL := [(.int (120 : Int32))]) (rest := []) (lenOf pd__C_Ljava_lang_StringBuilder_ rfl) rfl (by show 2 * 0 + _ ≤ _; exact Nat.le_of_eq rfl) (hb hby d1_78) (fun _ _ => ⟨rfl, rfl, (own_le (o := 0) (k := 1) hcl (by decide) rfl), (own_le (o := 0) (k := 18) hsl (by decide) rfl)⟩)
  dsimp only [Pt.U, Pt.locs, Pt.cells, Pt.slots] at X_q12 l_q12 y_q12 z_q12 st_q12 hQ_q12
  subst l_q12 y_q12 z_q12
  obtain ⟨r1_q12, kr1_q12, rfl, Nq_q12, Kq_q12, sz0_r1_q12, O0_q12, O1_q12, O2_q12, O3_q12, O4_q12, O5_q12⟩ := hQ_q12
  have N_q12 := Fr.app N_q8 Nq_q12
  have ge_r1_q12 : n0 ≤ r1_q12 := Nat.le_trans (Nat.le_trans Z0 K_q8.1) sz0_r1_q12
  have sz_r1_q12 : h0.size ≤ r1_q12 := Nat.le_trans K_q8.1 sz0_r1_q12
  have ne_sb_r1_q12 : sb ≠ r1_q12 := Nat.ne_of_lt (Nat.lt_of_lt_of_le EX_sb__q8.lt sz0_r1_q12)
  have ne_ha_r1_q12 : ha ≠ r1_q12 := Nat.ne_of_lt (Nat.lt_of_lt_of_le V_ha__q8.lt sz0_r1_q12)
  have EX_sb__q12 := EX_sb__q8.keep Kq_q12
  have S_COMPACT_STRINGS__q12 := own_sta_keep S_COMPACT_STRINGS__q8 Kq_q12 (allS (own_ns EX_sb__q8) all0)
  have S_HEX_DIGITS__q12 := own_sta_keep S_HEX_DIGITS__q8 Kq_q12 (allS (own_ns EX_sb__q8) all0)
  have V_ha__q12 := V_ha__q8.keep Kq_q12 (ninS ne_ha_sb nin0)
  have K_q12 : Keep h0 T_q12.heap [sb, va] := K_q8.trans Kq_q12 (allS (Or.inl (List.mem_of_getElem? (i := 0) rfl)) all0)
  obtain ⟨w_q12, hl_q12⟩ : ∃ w : List Value, w = ((own_cp w_q8 (zl).toNatClampNeg (zn).toNatClampNeg).set ((cn + (1 : Int32))).toNatClampNeg (.int (nar .byte ((120 : Int32).toInt8.toInt32)))) := ⟨_, rfl⟩
  rw [← hl_q12] at O3_q12
  have ln_q12 : w_q12.length = (zn).toNatClampNeg := by rw [hl_q12]; exact O5_q12
  obtain ⟨T_q25, X_q25, e_q25, st_q25⟩ := getS2 X_q12 hx hZ hown (host := "") (Or.inl (own_w hw 78 rfl)) Via.refl rfl S_HEX_DIGITS__q12 (g := (mkF m 81 #[.val (.ref a1), .val (.ref sb), .val (.ref a1), .val (.int ln), .val (.int ix), .val (.int u0), .val (.int (u0 &&& (255 : Int32)))] [(.ref sb)])) rfl (hb hby d1_81)
  obtain ⟨cl_q26, Ar_q26, qk_q26, S_q26, Nn_q26, H_q26, G_q26⟩ := id V_ha__q12
  have hin_q26 : ¬ ((((u0 &&& (255 : Int32)).toUInt32 >>> ((4 : Int32) &&& 31).toUInt32).toInt32) < 0 ∨ cl_q26.slots.size ≤ ((((u0 &&& (255 : Int32)).toUInt32 >>> ((4 : Int32) &&& 31).toUInt32).toInt32)).toNatClampNeg) := inb_of S_q26 hc_q27
  have hat_q26 : cl_q26.slots[((((u0 &&& (255 : Int32)).toUInt32 >>> ((4 : Int32) &&& 31).toUInt32).toInt32)).toNatClampNeg]? = some (.int (own_hx (((u0 &&& (255 : Int32)).toUInt32 >>> ((4 : Int32) &&& 31).toUInt32).toInt32))) := (H_q26 _ (Nat.lt_of_not_le fun q => hin_q26 (Or.inr q))).trans (congrArg some (own_hex_at (((u0 &&& (255 : Int32)).toUInt32 >>> ((4 : Int32) &&& 31).toUInt32).toInt32) (by have q := Nat.lt_of_not_le fun q => hin_q26 (Or.inr q); rw [S_q26] at q; exact q)))
  obtain ⟨cq_q28, kq_q28, qa_q28, qb_q28, qc_q28⟩ := isOf hZ e_q25 EX_sb__q12
  obtain ⟨_, _, ⟨T_q28, L_q28, k_q28, n_q28⟩, -, X_q28, ⟨Lc_q28, hQ_q28, l_q28, y_q28, z_q28⟩, st_q28⟩ := X_q25.virtualBack hx (y := (⟨"java/lang/StringBuilder", "append", "(C)Ljava/lang/StringBuilder;"⟩ : MethodName)) (z := (⟨"java/lang/StringBuilder", "append", "(C)Ljava/lang/StringBuilder;"⟩ : MethodName)) hown (mvT hZ (own_w hw 26 rfl)) (mvT hZ (own_w hw 27 rfl)) (notFace_of_selects (args := #[]) (mvT hZ (own_w hw 29 rfl))) (mvT hZ (own_w hw 29 rfl)) (mvT hZ (own_w hw 28 rfl)) (by decide) (backOf (W := 0) (rmSA_n l Z a0 hw [] sb r1_q12 kr1_q12 zn w_q12 ((cn + (1 : Int32)) + (1 : Int32)) cs (own_k2 (u0 &&& (255 : Int32))) T_q12.heap n0 (Nat.le_trans Z0 K_q12.1) EX_sb__q12 O0_q12 O1_q12 O2_q12 O3_q12 O4_q12 S_COMPACT_STRINGS__q12 ge_sb ge_r1_q12 (Ne.symm ne_sb_r1_q12) ln_q12 hc_q29 hc_q10 hc_q30 hc_q31) hZ (own_w hw 30 rfl) (own_w hw 7 rfl) (by decide) (by decide)) qa_q28 qc_q28 (g := (mkF m 89 #[.val (.ref a1), .val (.ref sb), .val (.ref a1), .val (.int ln), .val (.int ix), .val (.int u0), .val (.int (u0 &&& (255 : Int32)))] [(.int (own_k2 (u0 &&& (255 : Int32)))), (.ref sb)])) rfl (by rw [hml]; rfl) (Steps.refl _) (argsL := [(.int (own_k2 (u0 &&& (255 : Int32))))]) (rest := []) (lenOf pd__C_Ljava_lang_StringBuilder_ rfl) rfl (by show 2 * 0 + _ ≤ _; exact Nat.le_of_eq rfl) (hb hby d1_89) (fun _ _ => ⟨rfl, e_q25, (own_le (o := 1) (k := 0) hcl (by decide) rfl), (own_le (o := 18) (k := 0) hsl (by decide) rfl)⟩)
  dsimp only [Pt.U, Pt.locs, Pt.cells, Pt.slots] at X_q28 l_q28 y_q28 z_q28 st_q28 hQ_q28
  subst l_q28 y_q28 z_q28
  obtain ⟨rfl, Nq_q28, Kq_q28, O0_q28, O1_q28, O2_q28, O3_q28, O4_q28⟩ := hQ_q28
  have N_q28 := Fr.app N_q12 Nq_q28
  have EX_sb__q28 := EX_sb__q12.keep Kq_q28
  have S_COMPACT_STRINGS__q28 := own_sta_keep S_COMPACT_STRINGS__q12 Kq_q28 (allS (own_ns EX_sb__q12) (allS (own_ns O4_q12) all0))
  have S_HEX_DIGITS__q28 := own_sta_keep S_HEX_DIGITS__q12 Kq_q28 (allS (own_ns EX_sb__q12) (allS (own_ns O4_q12) all0))
  have V_ha__q28 := V_ha__q12.keep Kq_q28 (ninS ne_ha_sb (ninS ne_ha_r1_q12 nin0))
  have O4_q12__q28 := O4_q12.keep Kq_q28
  have K_q28 : Keep h0 T_q28.heap [sb, va] := K_q12.trans Kq_q28 (allS (Or.inl (List.mem_of_getElem? (i := 0) rfl)) (allS (Or.inr sz_r1_q12) all0))
  obtain ⟨w_q28, hl_q28⟩ : ∃ w : List Value, w = (w_q12.set (((cn + (1 : Int32)) + (1 : Int32))).toNatClampNeg (.int (nar .byte ((own_k2 (u0 &&& (255 : Int32))).toInt8.toInt32)))) := ⟨_, rfl⟩
  rw [← hl_q28] at O3_q28
  have ln_q28 : w_q28.length = (zn).toNatClampNeg := by rw [hl_q28]; exact O4_q28
  obtain ⟨T_q32, X_q32, e_q32, st_q32⟩ := getS2 X_q28 hx hZ hown (host := "") (Or.inl (own_w hw 78 rfl)) Via.refl rfl S_HEX_DIGITS__q28 (g := (mkF m 92 #[.val (.ref a1), .val (.ref sb), .val (.ref a1), .val (.int ln), .val (.int ix), .val (.int u0), .val (.int (u0 &&& (255 : Int32)))] [(.ref sb)])) rfl (hb hby d1_92)
  obtain ⟨cl_q33, Ar_q33, qk_q33, S_q33, Nn_q33, H_q33, G_q33⟩ := id V_ha__q28
  have hin_q33 : ¬ (((u0 &&& (255 : Int32)) &&& (15 : Int32)) < 0 ∨ cl_q33.slots.size ≤ (((u0 &&& (255 : Int32)) &&& (15 : Int32))).toNatClampNeg) := inb_of S_q33 hc_q34
  have hat_q33 : cl_q33.slots[(((u0 &&& (255 : Int32)) &&& (15 : Int32))).toNatClampNeg]? = some (.int (own_hx ((u0 &&& (255 : Int32)) &&& (15 : Int32)))) := (H_q33 _ (Nat.lt_of_not_le fun q => hin_q33 (Or.inr q))).trans (congrArg some (own_hex_at ((u0 &&& (255 : Int32)) &&& (15 : Int32)) (by have q := Nat.lt_of_not_le fun q => hin_q33 (Or.inr q); rw [S_q33] at q; exact q)))
  obtain ⟨cq_q35, kq_q35, qa_q35, qb_q35, qc_q35⟩ := isOf hZ e_q32 EX_sb__q28
  obtain ⟨_, _, ⟨T_q35, L_q35, k_q35, n_q35⟩, -, X_q35, ⟨Lc_q35, hQ_q35, l_q35, y_q35, z_q35⟩, st_q35⟩ := X_q32.virtualBack hx (y := (⟨"java/lang/StringBuilder", "append", "(C)Ljava/lang/StringBuilder;"⟩ : MethodName)) (z := (⟨"java/lang/StringBuilder", "append", "(C)Ljava/lang/StringBuilder;"⟩ : MethodName)) hown (mvT hZ (own_w hw 26 rfl)) (mvT hZ (own_w hw 27 rfl)) (notFace_of_selects (args := #[]) (mvT hZ (own_w hw 29 rfl))) (mvT hZ (own_w hw 29 rfl)) (mvT hZ (own_w hw 28 rfl)) (by decide) (backOf (W := 0) (rmSA_n l Z a0 hw [] sb r1_q12 kr1_q12 zn w_q28 (((cn + (1 : Int32)) + (1 : Int32)) + (1 : Int32)) cs (own_k3 (u0 &&& (255 : Int32))) T_q28.heap n0 (Nat.le_trans Z0 K_q28.1) EX_sb__q28 O0_q28 O1_q28 O2_q28 O3_q28 O4_q12__q28 S_COMPACT_STRINGS__q28 ge_sb ge_r1_q12 (Ne.symm ne_sb_r1_q12) ln_q28 hc_q36 hc_q10 hc_q37 hc_q38) hZ (own_w hw 30 rfl) (own_w hw 7 rfl) (by decide) (by decide)) qa_q35 qc_q35 (g := (mkF m 101 #[.val (.ref a1), .val (.ref sb), .val (.ref a1), .val (.int ln), .val (.int ix), .val (.int u0), .val (.int (u0 &&& (255 : Int32)))] [(.int (own_k3 (u0 &&& (255 : Int32)))), (.ref sb)])) rfl (by rw [hml]; rfl) (Steps.refl _) (argsL := [(.int (own_k3 (u0 &&& (255 : Int32))))]) (rest := []) (lenOf pd__C_Ljava_lang_StringBuilder_ rfl) rfl (by show 2 * 0 + _ ≤ _; exact Nat.le_of_eq rfl) (hb hby d1_101) (fun _ _ => ⟨rfl, e_q32, (own_le (o := 1) (k := 0) hcl (by decide) rfl), (own_le (o := 18) (k := 0) hsl (by decide) rfl)⟩)
  dsimp only [Pt.U, Pt.locs, Pt.cells, Pt.slots] at X_q35 l_q35 y_q35 z_q35 st_q35 hQ_q35
  subst l_q35 y_q35 z_q35
  obtain ⟨rfl, Nq_q35, Kq_q35, O0_q35, O1_q35, O2_q35, O3_q35, O4_q35⟩ := hQ_q35
  have N_q35 := Fr.app N_q28 Nq_q35
  have O4_q12__q35 := O4_q12__q28.keep Kq_q35
  have K_q35 : Keep h0 T_q35.heap [sb, va] := K_q28.trans Kq_q35 (allS (Or.inl (List.mem_of_getElem? (i := 0) rfl)) (allS (Or.inr sz_r1_q12) all0))
  obtain ⟨w_q35, hl_q35⟩ : ∃ w : List Value, w = (w_q28.set ((((cn + (1 : Int32)) + (1 : Int32)) + (1 : Int32))).toNatClampNeg (.int (nar .byte ((own_k3 (u0 &&& (255 : Int32))).toInt8.toInt32)))) := ⟨_, rfl⟩
  rw [← hl_q35] at O3_q35
  refine ⟨T_q35, _, _, r1_q12, kr1_q12, w_q8, w_q12, w_q28, w_q35, X_q35, rfl, N_q35, K_q35, sz_r1_q12, hl_q8, hl_q12, hl_q28, hl_q35, O0_q35, O1_q35, O2_q35, O3_q35, O4_q12__q35, fun target kt => ?_⟩
  show Steps p.tables e below (T0.setTop (mkF m 18 #[.val (.ref a1), .val (.ref sb), .val (.ref a1), .val (.int ln), .val (.int ix), s5, s6] [])) _
  refine XS.iload X0.here hx rfl (hb hby d1_18) rfl ?_
  refine XS.iloadN X0.here hx rfl (hb hby d1_20) rfl ?_
  refine XS.icmpNo X0.here hx rfl (hb hby d1_21) rfl (tlt hc_q1).2.1 ?_
  refine XS.aloadN X0.here hx rfl (hb hby d1_24) rfl rfl ?_
  show Steps p.tables e below (T0.setTop (mkF m 25 #[.val (.ref a1), .val (.ref sb), .val (.ref a1), .val (.int ln), .val (.int ix), s5, s6] [(.ref a1)])) _
  refine XS.iload X0.here hx rfl (hb hby d1_25) rfl ?_
  show Steps p.tables e below (T0.setTop (mkF m 27 #[.val (.ref a1), .val (.ref sb), .val (.ref a1), .val (.int ln), .val (.int ix), s5, s6] [(.int ix), (.ref a1)])) _
  refine X0.baloadBytes hx (j := ix) (v := (.int u0)) (by rw [e0]; exact Ar_q2.1) (State.isArrayOf_alike hZ.alike Ar_q2.2.1) Ar_q2.2.2 hin_q2 hat_q2 (g := (mkF m 27 #[.val (.ref a1), .val (.ref sb), .val (.ref a1), .val (.int ln), .val (.int ix), s5, s6] [(.int ix), (.ref a1)])) rfl rfl (hb hby d1_27) _ ?_
  refine XS.istore X0.here hx rfl (hb hby d1_28) rfl (l' := #[.val (.ref a1), .val (.ref sb), .val (.ref a1), .val (.int ln), .val (.int ix), .val (.int u0), s6]) hc_q5 ?_
  refine XS.iload X0.here hx rfl (hb hby d1_30) rfl ?_
  refine XS.sipush X0.here hx rfl (hb hby d1_32) ?_
  show Steps p.tables e below (T0.setTop (mkF m 35 #[.val (.ref a1), .val (.ref sb), .val (.ref a1), .val (.int ln), .val (.int ix), .val (.int u0), s6] [(.int (255 : Int32)), (.int u0)])) _
  refine XS.iand X0.here hx rfl (hb hby d1_35) rfl ?_
  refine XS.istore X0.here hx rfl (hb hby d1_36) rfl (l' := #[.val (.ref a1), .val (.ref sb), .val (.ref a1), .val (.int ln), .val (.int ix), .val (.int u0), .val (.int (u0 &&& (255 : Int32)))]) hc_q6 ?_
  show Steps p.tables e below (T0.setTop (mkF m 38 #[.val (.ref a1), .val (.ref sb), .val (.ref a1), .val (.int ln), .val (.int ix), .val (.int u0), .val (.int (u0 &&& (255 : Int32)))] [])) _
  refine own_ce_E a1 sb a1 ln (ix) u0 (u0 &&& (255 : Int32)) X0 hx hby hc_q7 ?_
  refine XS.aloadN X0.here hx rfl (hb hby d1_70) rfl rfl ?_
  refine XS.bipush X0.here hx rfl (hb hby d1_71) ?_
  show Steps p.tables e below (T0.setTop (mkF m 73 #[.val (.ref a1), .val (.ref sb), .val (.ref a1), .val (.int ln), .val (.int ix), .val (.int u0), .val (.int (u0 &&& (255 : Int32)))] [(.int (92 : Int32)), (.ref sb)])) _
  refine st_q8.trans ?_
  refine XS.bipush X_q8.here hx rfl (hb hby d1_76) ?_
  show Steps p.tables e below (T_q8.setTop (mkF m 78 #[.val (.ref a1), .val (.ref sb), .val (.ref a1), .val (.int ln), .val (.int ix), .val (.int u0), .val (.int (u0 &&& (255 : Int32)))] [(.int (120 : Int32)), (.ref sb)])) _
  refine st_q12.trans ?_
  show Steps p.tables e below (T_q12.setTop (mkF m 81 #[.val (.ref a1), .val (.ref sb), .val (.ref a1), .val (.int ln), .val (.int ix), .val (.int u0), .val (.int (u0 &&& (255 : Int32)))] [(.ref sb)])) _
  refine st_q25 _ ?_
  refine XS.iload X_q25.here hx rfl (hb hby d1_84) rfl ?_
  refine XS.iconst X_q25.here hx rfl (hb hby d1_86) ?_
  refine XS.iushr X_q25.here hx rfl (hb hby d1_87) rfl ?_
  show Steps p.tables e below (T_q25.setTop (mkF m 88 #[.val (.ref a1), .val (.ref sb), .val (.ref a1), .val (.int ln), .val (.int ix), .val (.int u0), .val (.int (u0 &&& (255 : Int32)))] [(.int (((u0 &&& (255 : Int32)).toUInt32 >>> ((4 : Int32) &&& 31).toUInt32).toInt32)), (.ref ha), (.ref sb)])) _
  refine X_q25.caload hx (j := (((u0 &&& (255 : Int32)).toUInt32 >>> ((4 : Int32) &&& 31).toUInt32).toInt32)) (v := (.int (own_hx (((u0 &&& (255 : Int32)).toUInt32 >>> ((4 : Int32) &&& 31).toUInt32).toInt32)))) (by rw [e_q25]; exact Ar_q26.1) (State.isArrayOf_alike hZ.alike Ar_q26.2.1) Ar_q26.2.2 hin_q26 hat_q26 (g := (mkF m 88 #[.val (.ref a1), .val (.ref sb), .val (.ref a1), .val (.int ln), .val (.int ix), .val (.int u0), .val (.int (u0 &&& (255 : Int32)))] [(.int (((u0 &&& (255 : Int32)).toUInt32 >>> ((4 : Int32) &&& 31).toUInt32).toInt32)), (.ref ha), (.ref sb)])) rfl rfl (hb hby d1_88) _ ?_
  show Steps p.tables e below (T_q25.setTop (mkF m 89 #[.val (.ref a1), .val (.ref sb), .val (.ref a1), .val (.int ln), .val (.int ix), .val (.int u0), .val (.int (u0 &&& (255 : Int32)))] [(.int (own_k2 (u0 &&& (255 : Int32)))), (.ref sb)])) _
  refine st_q28.trans ?_
  show Steps p.tables e below (T_q28.setTop (mkF m 92 #[.val (.ref a1), .val (.ref sb), .val (.ref a1), .val (.int ln), .val (.int ix), .val (.int u0), .val (.int (u0 &&& (255 : Int32)))] [(.ref sb)])) _
  refine st_q32 _ ?_
  refine XS.iload X_q32.here hx rfl (hb hby d1_95) rfl ?_
  refine XS.bipush X_q32.here hx rfl (hb hby d1_97) ?_
  refine XS.iand X_q32.here hx rfl (hb hby d1_99) rfl ?_
  show Steps p.tables e below (T_q32.setTop (mkF m 100 #[.val (.ref a1), .val (.ref sb), .val (.ref a1), .val (.int ln), .val (.int ix), .val (.int u0), .val (.int (u0 &&& (255 : Int32)))] [(.int ((u0 &&& (255 : Int32)) &&& (15 : Int32))), (.ref ha), (.ref sb)])) _
  refine X_q32.caload hx (j := ((u0 &&& (255 : Int32)) &&& (15 : Int32))) (v := (.int (own_hx ((u0 &&& (255 : Int32)) &&& (15 : Int32))))) (by rw [e_q32]; exact Ar_q33.1) (State.isArrayOf_alike hZ.alike Ar_q33.2.1) Ar_q33.2.2 hin_q33 hat_q33 (g := (mkF m 100 #[.val (.ref a1), .val (.ref sb), .val (.ref a1), .val (.int ln), .val (.int ix), .val (.int u0), .val (.int (u0 &&& (255 : Int32)))] [(.int ((u0 &&& (255 : Int32)) &&& (15 : Int32))), (.ref ha), (.ref sb)])) rfl rfl (hb hby d1_100) _ ?_
  show Steps p.tables e below (T_q32.setTop (mkF m 101 #[.val (.ref a1), .val (.ref sb), .val (.ref a1), .val (.int ln), .val (.int ix), .val (.int u0), .val (.int (u0 &&& (255 : Int32)))] [(.int (own_k3 (u0 &&& (255 : Int32)))), (.ref sb)])) _
  refine st_q35.trans ?_
  refine XS.pop X_q35.here hx rfl (hb hby d1_104) rfl rfl ?_
  refine XS.iinc X_q35.here hx rfl (hb hby d1_105) rfl (l' := #[.val (.ref a1), .val (.ref sb), .val (.ref a1), .val (.int ln), .val (.int (ix + (1 : Int32))), .val (.int u0), .val (.int (u0 &&& (255 : Int32)))]) rfl ?_
  refine XS.goto X_q35.here hx rfl (pc0 := 108) (pc' := 18) rfl (hb hby d1_108) (by decide) (by decide) ?_
  exact kt
set_option maxRecDepth 65536 in
set_option maxHeartbeats 40000000 in
theorem own_t12 {p : Program} {l : Launch} {e : Env} {s : State} {m : MethodId} {args : Array Value} {below : List Frame} {meth : Method} {c : Code} {T0 : State} {locs : List Loc} {cells slots : Nat} {Z : State} {a0 : Array Value} {h0 : Heap} {n0 : Nat} (a1 sb va ha : Addr) (ka k1 kh : ClassId) (ln ix : Int32) (lk : List Value) (u0 zl : Int32) (lv : List Value) (cn zn cs : Int32) (s5 s6 : Slot)
    (X0 : Stand p l e ({ frames := 9, cells := 6, slots := 70, locals := 180 } : Room) s m args below meth c T0 locs cells slots) (hx : p.tables.exec = Jvm.exec) (hZ : Z.Warmed39 s.vm) (hw : ∀ d ∈ tables_1, d.before a0 Z = true) (hby : c.code = prog_1_method_2_code) (hml : c.maxLocals = 7) (hown : s.vm.findClass "com/example/presplit/presplit/escape/BinaryEscape" = some m.cls) (e0 : T0.heap = h0) (N0 : Fr n0 locs) (Z0 : n0 ≤ h0.size) (hcl : cells + 1 ≤ ({ frames := 9, cells := 6, slots := 70, locals := 180 } : Room).cells) (hsl : slots + 18 ≤ ({ frames := 9, cells := 6, slots := 70, locals := 180 } : Room).slots) (V_a1 : Arv Z h0 a1 ka .byte ln lk (.int (0 : Int32))) (EX_sb : Exa Z h0 sb "java/lang/StringBuilder") (F_value_sb : Fld Z h0 sb "java/lang/AbstractStringBuilder" "value" "[B" (.ref va)) (F_coder_sb : Fld Z h0 sb "java/lang/AbstractStringBuilder" "coder" "B" (.int (0 : Int32))) (F_count_sb : Fld Z h0 sb "java/lang/AbstractStringBuilder" "count" "I" (.int cn)) (V_va : Arv Z h0 va k1 .byte zl lv (.int (0 : Int32))) (EX_va : Exa Z h0 va "[B") (S_COMPACT_STRINGS : Sta Z h0 "java/lang/String" "COMPACT_STRINGS" "Z" (.int cs)) (S_HEX_DIGITS : Sta Z h0 "com/example/presplit/presplit/escape/BinaryEscape" "HEX_DIGITS" "[C" (.ref ha)) (V_ha : Arv Z h0 ha kh .char (16 : Int32) own_hexL (.int (0 : Int32))) (ge_sb : n0 ≤ sb) (ge_va : n0 ≤ va) (ne_va_sb : va ≠ sb) (ne_a1_sb : a1 ≠ sb) (ne_a1_va : a1 ≠ va) (ne_ha_sb : ha ≠ sb) (ne_ha_va : ha ≠ va) (len_lv : lv.length = (zl).toNatClampNeg) (hc_q1 : ix < ln) (hc_q3 : ¬ ix < 0 ∧ ix < ln) (hc_q4 : lk.getD (ix).toNatClampNeg (.int (0 : Int32)) = .int u0) (hc_q5 : storeLocals #[.val (.ref a1), .val (.ref sb), .val (.ref a1), .val (.int ln), .val (.int ix), s5, s6] 5 (.int u0) = some #[.val (.ref a1), .val (.ref sb), .val (.ref a1), .val (.int ln), .val (.int ix), .val (.int u0), s6]) (hc_q6 : storeLocals #[.val (.ref a1), .val (.ref sb), .val (.ref a1), .val (.int ln), .val (.int ix), .val (.int u0), s6] 6 (.int (u0 &&& (255 : Int32))) = some #[.val (.ref a1), .val (.ref sb), .val (.ref a1), .val (.int ln), .val (.int ix), .val (.int u0), .val (.int (u0 &&& (255 : Int32)))]) (hc_q7 : own_esc (u0 &&& (255 : Int32))) (hc_q9 : ¬ ((0 : Int32) < ((cn + (1 : Int32)) - (zl >>> ((0 : Int32) &&& 31))))) (hc_q10 : ¬ (cs = (0 : Int32))) (hc_q11 : ¬ cn < 0 ∧ cn < zl) (hc_q13 : ¬ ((0 : Int32) < (((cn + (1 : Int32)) + (1 : Int32)) - (zl >>> ((0 : Int32) &&& 31))))) (hc_q14 : ¬ (cn + (1 : Int32)) < 0 ∧ (cn + (1 : Int32)) < zl) (hc_q17 : ¬ (((u0 &&& (255 : Int32)).toUInt32 >>> ((4 : Int32) &&& 31).toUInt32).toInt32) < 0 ∧ (((u0 &&& (255 : Int32)).toUInt32 >>> ((4 : Int32) &&& 31).toUInt32).toInt32) < (16 : Int32)) (hc_q19 : (0 : Int32) < ((((cn + (1 : Int32)) + (1 : Int32)) + (1 : Int32)) - (zl >>> ((0 : Int32) &&& 31)))) (hc_q20 : (0 : Int32) < (zl + (F12_0 (((((cn + (1 : Int32)) + (1 : Int32)) + (1 : Int32)) <<< ((0 : Int32) &&& 31)) - zl) (zl + (2 : Int32))))) (hc_q21 : ¬ ((2147483639 : Int32) < (zl + (F12_0 (((((cn + (1 : Int32)) + (1 : Int32)) + (1 : Int32)) <<< ((0 : Int32) &&& 31)) - zl) (zl + (2 : Int32)))))) (hc_q22 : ¬ ((zl + (F12_0 (((((cn + (1 : Int32)) + (1 : Int32)) + (1 : Int32)) <<< ((0 : Int32) &&& 31)) - zl) (zl + (2 : Int32)))) = (2147483647 : Int32))) (hc_q23 : (((zl + (F12_0 (((((cn + (1 : Int32)) + (1 : Int32)) + (1 : Int32)) <<< ((0 : Int32) &&& 31)) - zl) (zl + (2 : Int32)))) >>> ((0 : Int32) &&& 31)) <<< ((0 : Int32) &&& 31)) = zn) (hc_q24 : (F14_0 zl zn) = zl) (hc_q25 : ¬ (zn = zl)) (hc_q26 : ¬ (zn) < 0) (hc_q27 : (zn).toNatClampNeg ≤ 18) (hc_q28 : ¬ (zl) < 0) (hc_q29 : (zl).toNatClampNeg ≤ (zn).toNatClampNeg) (hc_q30 : ¬ ((F9_0 (own_k2 (u0 &&& (255 : Int32)))) = (0 : Int32))) (hc_q31 : ¬ ((cn + (1 : Int32)) + (1 : Int32)) < 0 ∧ ((cn + (1 : Int32)) + (1 : Int32)) < zn) (hc_q34 : ¬ ((u0 &&& (255 : Int32)) &&& (15 : Int32)) < 0 ∧ ((u0 &&& (255 : Int32)) &&& (15 : Int32)) < (16 : Int32)) (hc_q36 : ¬ ((0 : Int32) < (((((cn + (1 : Int32)) + (1 : Int32)) + (1 : Int32)) + (1 : Int32)) - (zn >>> ((0 : Int32) &&& 31))))) (hc_q37 : ¬ ((F9_0 (own_k3 (u0 &&& (255 : Int32)))) = (0 : Int32))) (hc_q38 : ¬ (((cn + (1 : Int32)) + (1 : Int32)) + (1 : Int32)) < 0 ∧ (((cn + (1 : Int32)) + (1 : Int32)) + (1 : Int32)) < zn) :
    ∃ (T' : State) (h' : Heap) (locs' : List Loc) (r1 : Addr) (kr1 : ClassId) (w1 : List Value) (w2 : List Value) (w3 : List Value) (w4 : List Value), Stand p l e ({ frames := 9, cells := 6, slots := 70, locals := 180 } : Room) s m args below meth c T' locs' (cells + 1) (slots + 18) ∧ T'.heap = h' ∧ Fr n0 locs' ∧ Keep h0 h' [sb, va] ∧ h0.size ≤ r1 ∧ w1 = (lv.set (cn).toNatClampNeg (.int (nar .byte ((92 : Int32).toInt8.toInt32)))) ∧ w2 = (w1.set ((cn + (1 : Int32))).toNatClampNeg (.int (nar .byte ((120 : Int32).toInt8.toInt32)))) ∧ w3 = ((own_cp w2 (zl).toNatClampNeg (zn).toNatClampNeg).set (((cn + (1 : Int32)) + (1 : Int32))).toNatClampNeg (.int (nar .byte ((own_k2 (u0 &&& (255 : Int32))).toInt8.toInt32)))) ∧ w4 = (w3.set ((((cn + (1 : Int32)) + (1 : Int32)) + (1 : Int32))).toNatClampNeg (.int (nar .byte ((own_k3 (u0 &&& (255 : Int32))).toInt8.toInt32)))) ∧ Fld Z h' sb "java/lang/AbstractStringBuilder" "value" "[B" (.ref r1) ∧ Fld Z h' sb "java/lang/AbstractStringBuilder" "coder" "B" (.int (0 : Int32)) ∧ Fld Z h' sb "java/lang/AbstractStringBuilder" "count" "I" (.int ((((cn + (1 : Int32)) + (1 : Int32)) + (1 : Int32)) + (1 : Int32))) ∧ Arv Z h' r1 kr1 .byte zn w4 (.int (0 : Int32)) ∧ Exa Z h' r1 "[B" ∧
      ∀ target, Steps p.tables e below (T'.setTop (mkF m 18 #[.val (.ref a1), .val (.ref sb), .val (.ref a1), .val (.int ln), .val (.int (ix + (1 : Int32))), .val (.int u0), .val (.int (u0 &&& (255 : Int32)))] [])) target → Steps p.tables e below (T0.setTop (mkF m 18 #[.val (.ref a1), .val (.ref sb), .val (.ref a1), .val (.int ln), .val (.int ix), s5, s6] [])) target := by
  have K0 : Keep h0 h0 [sb, va] := Keep.refl _ _
  obtain ⟨cl_q2, Ar_q2, qk_q2, S_q2, Nn_q2, H_q2, G_q2⟩ := id V_a1
  have hin_q2 : ¬ (ix < 0 ∨ cl_q2.slots.size ≤ (ix).toNatClampNeg) := inb_of S_q2 hc_q3
  have hat_q2 : cl_q2.slots[(ix).toNatClampNeg]? = some (.int u0) := (H_q2 _ (Nat.lt_of_not_le fun q => hin_q2 (Or.inr q))).trans (congrArg some hc_q4)
  obtain ⟨cq_q8, kq_q8, qa_q8, qb_q8, qc_q8⟩ := isOf hZ e0 EX_sb
  obtain ⟨_, _, ⟨T_q8, L_q8, k_q8, n_q8⟩, -, X_q8, ⟨Lc_q8, hQ_q8, l_q8, y_q8, z_q8⟩, st_q8⟩ := X0.virtualBack hx (y := (⟨"java/lang/StringBuilder", "append", "(C)Ljava/lang/StringBuilder;"⟩ : MethodName)) (z := (⟨"java/lang/StringBuilder", "append", "(C)Ljava/lang/StringBuilder;"⟩ : MethodName)) hown (mvT hZ (own_w hw 26 rfl)) (mvT hZ (own_w hw 27 rfl)) (notFace_of_selects (args := #[]) (mvT hZ (own_w hw 29 rfl))) (mvT hZ (own_w hw 29 rfl)) (mvT hZ (own_w hw 28 rfl)) (by decide) (backOf (W := 0) (rmSA_n l Z a0 hw [] sb va k1 zl lv cn cs (92 : Int32) h0 n0 (Nat.le_trans Z0 K0.1) EX_sb F_value_sb F_coder_sb F_count_sb V_va EX_va S_COMPACT_STRINGS ge_sb ge_va ne_va_sb len_lv hc_q9 hc_q10 (by decide) hc_q11) hZ (own_w hw 30 rfl) (own_w hw 7 rfl) (by decide) (by decide)) qa_q8 qc_q8 (g := (mkF m 73 #[.val (.ref a1), .val (.ref sb), .val (.ref a1), .val (.int ln), .val (.int ix), .val (.int u0), .val (.int (u0 &&& (255 : Int32)))] [(.int (92 : Int32)), (.ref sb)])) rfl (by rw [hml]; rfl) (Steps.refl _) (argsL := [(.int (92 : Int32))]) (rest := []) (lenOf pd__C_Ljava_lang_StringBuilder_ rfl) rfl (by show 2 * 0 + _ ≤ _; exact Nat.le_of_eq rfl) (hb hby d1_73) (fun _ _ => ⟨rfl, e0, (own_le (o := 0) (k := 0) hcl (by decide) rfl), (own_le (o := 0) (k := 0) hsl (by decide) rfl)⟩)
  dsimp only [Pt.U, Pt.locs, Pt.cells, Pt.slots] at X_q8 l_q8 y_q8 z_q8 st_q8 hQ_q8
  subst l_q8 y_q8 z_q8
  obtain ⟨rfl, Nq_q8, Kq_q8, O0_q8, O1_q8, O2_q8, O3_q8, O4_q8⟩ := hQ_q8
  have N_q8 := Fr.app N0 Nq_q8
  have EX_sb__q8 := EX_sb.keep Kq_q8
  have EX_va__q8 := EX_va.keep Kq_q8
  have S_COMPACT_STRINGS__q8 := own_sta_keep S_COMPACT_STRINGS Kq_q8 (allS (own_ns EX_sb) (allS (own_ns EX_va) all0))
  have S_HEX_DIGITS__q8 := own_sta_keep S_HEX_DIGITS Kq_q8 (allS (own_ns EX_sb) (allS (own_ns EX_va) all0))
  have V_ha__q8 := V_ha.keep Kq_q8 (ninS ne_ha_sb (ninS ne_ha_va nin0))
  have K_q8 : Keep h0 T_q8.heap [sb, va] := K0.trans Kq_q8 (allS (Or.inl (List.mem_of_getElem? (i := 0) rfl)) (allS (Or.inl (List.mem_of_getElem? (i := 1) rfl)) all0))
  obtain ⟨w_q8, hl_q8⟩ : ∃ w : List Value, w = (lv.set (cn).toNatClampNeg (.int (nar .byte ((92 : Int32).toInt8.toInt32)))) := ⟨_, rfl⟩
  rw [← hl_q8] at O3_q8
  have ln_q8 : w_q8.length = (zl).toNatClampNeg := by rw [hl_q8]; exact O4_q8
  obtain ⟨cq_q12, kq_q12, qa_q12, qb_q12, qc_q12⟩ := isOf hZ rfl EX_sb__q8
  obtain ⟨_, _, ⟨T_q12, L_q12, k_q12, n_q12⟩, -, X_q12, ⟨Lc_q12, hQ_q12, l_q12, y_q12, z_q12⟩, st_q12⟩ := X_q8.virtualBack hx (y := (⟨"java/lang/StringBuilder", "append", "(C)Ljava/lang/StringBuilder;"⟩ : MethodName)) (z := (⟨"java/lang/StringBuilder", "append", "(C)Ljava/lang/StringBuilder;"⟩ : MethodName)) hown (mvT hZ (own_w hw 26 rfl)) (mvT hZ (own_w hw 27 rfl)) (notFace_of_selects (args := #[]) (mvT hZ (own_w hw 29 rfl))) (mvT hZ (own_w hw 29 rfl)) (mvT hZ (own_w hw 28 rfl)) (by decide) (backOf (W := 0) (rmSA_n l Z a0 hw [] sb va k1 zl w_q8 (cn + (1 : Int32)) cs (120 : Int32) T_q8.heap n0 (Nat.le_trans Z0 K_q8.1) EX_sb__q8 O0_q8 O1_q8 O2_q8 O3_q8 EX_va__q8 S_COMPACT_STRINGS__q8 ge_sb ge_va ne_va_sb ln_q8 hc_q13 hc_q10 (by decide) hc_q14) hZ (own_w hw 30 rfl) (own_w hw 7 rfl) (by decide) (by decide)) qa_q12 qc_q12 (g := (mkF m 78 #[.val (.ref a1), .val (.ref sb), .val (.ref a1), .val (.int ln), .val (.int ix), .val (.int u0), .val (.int (u0 &&& (255 : Int32)))] [(.int (120 : Int32)), (.ref sb)])) rfl (by rw [hml]; rfl) (Steps.refl _) (argsL := [(.int (120 : Int32))]) (rest := []) (lenOf pd__C_Ljava_lang_StringBuilder_ rfl) rfl (by show 2 * 0 + _ ≤ _; exact Nat.le_of_eq rfl) (hb hby d1_78) (fun _ _ => ⟨rfl, rfl, (own_le (o := 0) (k := 0) hcl (by decide) rfl), (own_le (o := 0) (k := 0) hsl (by decide) rfl)⟩)
  dsimp only [Pt.U, Pt.locs, Pt.cells, Pt.slots] at X_q12 l_q12 y_q12 z_q12 st_q12 hQ_q12
  subst l_q12 y_q12 z_q12
  obtain ⟨rfl, Nq_q12, Kq_q12, O0_q12, O1_q12, O2_q12, O3_q12, O4_q12⟩ := hQ_q12
  have N_q12 := Fr.app N_q8 Nq_q12
  have EX_sb__q12 := EX_sb__q8.keep Kq_q12
  have EX_va__q12 := EX_va__q8.keep Kq_q12
  have S_COMPACT_STRINGS__q12 := own_sta_keep S_COMPACT_STRINGS__q8 Kq_q12 (allS (own_ns EX_sb__q8) (allS (own_ns EX_va__q8) all0))
  have S_HEX_DIGITS__q12 := own_sta_keep S_HEX_DIGITS__q8 Kq_q12 (allS (own_ns EX_sb__q8) (allS (own_ns EX_va__q8) all0))
  have V_ha__q12 := V_ha__q8.keep Kq_q12 (ninS ne_ha_sb (ninS ne_ha_va nin0))
  have K_q12 : Keep h0 T_q12.heap [sb, va] := K_q8.trans Kq_q12 (allS (Or.inl (List.mem_of_getElem? (i := 0) rfl)) (allS (Or.inl (List.mem_of_getElem? (i := 1) rfl)) all0))
  obtain ⟨w_q12, hl_q12⟩ : ∃ w : List Value, w = (w_q8.set ((cn + (1 : Int32))).toNatClampNeg (.int (nar .byte ((120 : Int32).toInt8.toInt32)))) := ⟨_, rfl⟩
  rw [← hl_q12] at O3_q12
  obtain ⟨T_q15, X_q15, e_q15, st_q15⟩ := getS2 X_q12 hx hZ hown (host := "") (Or.inl (own_w hw 78 rfl)) Via.refl rfl S_HEX_DIGITS__q12 (g := (mkF m 81 #[.val (.ref a1), .val (.ref sb), .val (.ref a1), .val (.int ln), .val (.int ix), .val (.int u0), .val (.int (u0 &&& (255 : Int32)))] [(.ref sb)])) rfl (hb hby d1_81)
  obtain ⟨cl_q16, Ar_q16, qk_q16, S_q16, Nn_q16, H_q16, G_q16⟩ := id V_ha__q12
  have hin_q16 : ¬ ((((u0 &&& (255 : Int32)).toUInt32 >>> ((4 : Int32) &&& 31).toUInt32).toInt32) < 0 ∨ cl_q16.slots.size ≤ ((((u0 &&& (255 : Int32)).toUInt32 >>> ((4 : Int32) &&& 31).toUInt32).toInt32)).toNatClampNeg) := inb_of S_q16 hc_q17
  have hat_q16 : cl_q16.slots[((((u0 &&& (255 : Int32)).toUInt32 >>> ((4 : Int32) &&& 31).toUInt32).toInt32)).toNatClampNeg]? = some (.int (own_hx (((u0 &&& (255 : Int32)).toUInt32 >>> ((4 : Int32) &&& 31).toUInt32).toInt32))) := (H_q16 _ (Nat.lt_of_not_le fun q => hin_q16 (Or.inr q))).trans (congrArg some (own_hex_at (((u0 &&& (255 : Int32)).toUInt32 >>> ((4 : Int32) &&& 31).toUInt32).toInt32) (by have q := Nat.lt_of_not_le fun q => hin_q16 (Or.inr q); rw [S_q16] at q; exact q)))
  obtain ⟨cq_q18, kq_q18, qa_q18, qb_q18, qc_q18⟩ := isOf hZ e_q15 EX_sb__q12
  obtain ⟨_, _, ⟨T_q18, L_q18, k_q18, n_q18⟩, -, X_q18, ⟨Lc_q18, hQ_q18, l_q18, y_q18, z_q18⟩, st_q18⟩ := X_q15.virtualBack hx (y := (⟨"java/lang/StringBuilder", "append", "(C)Ljava/lang/StringBuilder;"⟩ : MethodName)) (z := (⟨"java/lang/StringBuilder", "append", "(C)Ljava/lang/StringBuilder;"⟩ : MethodName)) hown (mvT hZ (own_w hw 26 rfl)) (mvT hZ (own_w hw 27 rfl)) (notFace_of_selects (args := #[]) (mvT hZ (own_w hw 29 rfl))) (mvT hZ (own_w hw 29 rfl)) (mvT hZ (own_w hw 28 rfl)) (by decide) (backOf (W := 0) (rmSA_g l Z a0 hw [] sb va k1 zl w_q12 ((cn + (1 : Int32)) + (1 : Int32)) zn cs (own_k2 (u0 &&& (255 : Int32))) T_q12.heap n0 (Nat.le_trans Z0 K_q12.1) EX_sb__q12 O0_q12 O1_q12 O2_q12 O3_q12 EX_va__q12 ge_sb ne_va_sb S_COMPACT_STRINGS__q12 hc_q19 hc_q20 hc_q21 hc_q22 hc_q23 hc_q24 hc_q25 hc_q26 hc_q27 hc_q28 hc_q29 hc_q10 hc_q30 hc_q31) hZ (own_w hw 30 rfl) (own_w hw 7 rfl) (by decide) (by decide)) qa_q18 qc_q18 (g := (mkF m 89 #[.val (.ref a1), .val (.ref sb), .val (.ref a1), .val (.int ln), .val (.int ix), .val (.int u0), .val (.int (u0 &&& (255 : Int32)))] [(.int (own_k2 (u0 &&& (255 : Int32)))), (.ref sb)])) rfl (by rw [hml]; rfl) (Steps.refl _) (argsL := [(.int (own_k2 (u0 &&& (255 : Int32))))]) (rest := []) (lenOf pd__C_Ljava_lang_StringBuilder_ rfl) rfl (by show 2 * 0 + _ ≤ _; exact Nat.le_of_eq rfl) (hb hby d1_89) (fun _ _ => ⟨rfl, e_q15, (own_le (o := 0) (k := 1) hcl (by decide) rfl), (own_le (o := 0) (k := 18) hsl (by decide) rfl)⟩)
  dsimp only [Pt.U, Pt.locs, Pt.cells, Pt.slots] at X_q18 l_q18 y_q18 z_q18 st_q18 hQ_q18
  subst l_q18 y_q18 z_q18
  obtain ⟨r1_q18, kr1_q18, rfl, Nq_q18, Kq_q18, sz0_r1_q18, O0_q18, O1_q18, O2_q18, O3_q18, O4_q18, O5_q18⟩ := hQ_q18
  have N_q18 := Fr.app N_q12 Nq_q18
  have ge_r1_q18 : n0 ≤ r1_q18 := Nat.le_trans (Nat.le_trans Z0 K_q12.1) sz0_r1_q18
  have sz_r1_q18 : h0.size ≤ r1_q18 := Nat.le_trans K_q12.1 sz0_r1_q18
  have ne_sb_r1_q18 : sb ≠ r1_q18 := Nat.ne_of_lt (Nat.lt_of_lt_of_le EX_sb__q12.lt sz0_r1_q18)
  have EX_sb__q18 := EX_sb__q12.keep Kq_q18
  have S_COMPACT_STRINGS__q18 := own_sta_keep S_COMPACT_STRINGS__q12 Kq_q18 (allS (own_ns EX_sb__q12) all0)
  have S_HEX_DIGITS__q18 := own_sta_keep S_HEX_DIGITS__q12 Kq_q18 (allS (own_ns EX_sb__q12) all0)
  have V_ha__q18 := V_ha__q12.keep Kq_q18 (ninS ne_ha_sb nin0)
  have K_q18 : Keep h0 T_q18.heap [sb, va] := K_q12.trans Kq_q18 (allS (Or.inl (List.mem_of_getElem? (i := 0) rfl)) all0)
  obtain ⟨w_q18, hl_q18⟩ : ∃ w : List Value, w = ((own_cp w_q12 (zl).toNatClampNeg (zn).toNatClampNeg).set (((cn + (1 : Int32)) + (1 : Int32))).toNatClampNeg (.int (nar .byte ((own_k2 (u0 &&& (255 : Int32))).toInt8.toInt32)))) := ⟨_, rfl⟩
  rw [← hl_q18] at O3_q18
  have ln_q18 : w_q18.length = (zn).toNatClampNeg := by rw [hl_q18]; exact O5_q18
  obtain ⟨T_q32, X_q32, e_q32, st_q32⟩ := getS2 X_q18 hx hZ hown (host := "") (Or.inl (own_w hw 78 rfl)) Via.refl rfl S_HEX_DIGITS__q18 (g := (mkF m 92 #[.val (.ref a1), .val (.ref sb), .val (.ref a1), .val (.int ln), .val (.int ix), .val (.int u0), .val (.int (u0 &&& (255 : Int32)))] [(.ref sb)])) rfl (hb hby d1_92)
  obtain ⟨cl_q33, Ar_q33, qk_q33, S_q33, Nn_q33, H_q33, G_q33⟩ := id V_ha__q18
  have hin_q33 : ¬ (((u0 &&& (255 : Int32)) &&& (15 : Int32)) < 0 ∨ cl_q33.slots.size ≤ (((u0 &&& (255 : Int32)) &&& (15 : Int32))).toNatClampNeg) := inb_of S_q33 hc_q34
  have hat_q33 : cl_q33.slots[(((u0 &&& (255 : Int32)) &&& (15 : Int32))).toNatClampNeg]? = some (.int (own_hx ((u0 &&& (255 : Int32)) &&& (15 : Int32)))) := (H_q33 _ (Nat.lt_of_not_le fun q => hin_q33 (Or.inr q))).trans (congrArg some (own_hex_at ((u0 &&& (255 : Int32)) &&& (15 : Int32)) (by have q := Nat.lt_of_not_le fun q => hin_q33 (Or.inr q); rw [S_q33] at q; exact q)))
  obtain ⟨cq_q35, kq_q35, qa_q35, qb_q35, qc_q35⟩ := isOf hZ e_q32 EX_sb__q18
  obtain ⟨_, _, ⟨T_q35, L_q35, k_q35, n_q35⟩, -, X_q35, ⟨Lc_q35, hQ_q35, l_q35, y_q35, z_q35⟩, st_q35⟩ := X_q32.virtualBack hx (y := (⟨"java/lang/StringBuilder", "append", "(C)Ljava/lang/StringBuilder;"⟩ : MethodName)) (z := (⟨"java/lang/StringBuilder", "append", "(C)Ljava/lang/StringBuilder;"⟩ : MethodName)) hown (mvT hZ (own_w hw 26 rfl)) (mvT hZ (own_w hw 27 rfl)) (notFace_of_selects (args := #[]) (mvT hZ (own_w hw 29 rfl))) (mvT hZ (own_w hw 29 rfl)) (mvT hZ (own_w hw 28 rfl)) (by decide) (backOf (W := 0) (rmSA_n l Z a0 hw [] sb r1_q18 kr1_q18 zn w_q18 (((cn + (1 : Int32)) + (1 : Int32)) + (1 : Int32)) cs (own_k3 (u0 &&& (255 : Int32))) T_q18.heap n0 (Nat.le_trans Z0 K_q18.1) EX_sb__q18 O0_q18 O1_q18 O2_q18 O3_q18 O4_q18 S_COMPACT_STRINGS__q18 ge_sb ge_r1_q18 (Ne.symm ne_sb_r1_q18) ln_q18 hc_q36 hc_q10 hc_q37 hc_q38) hZ (own_w hw 30 rfl) (own_w hw 7 rfl) (by decide) (by decide)) qa_q35 qc_q35 (g := (mkF m 101 #[.val (.ref a1), .val (.ref sb), .val (.ref a1), .val (.int ln), .val (.int ix), .val (.int u0), .val (.int (u0 &&& (255 : Int32)))] [(.int (own_k3 (u0 &&& (255 : Int32)))), (.ref sb)])) rfl (by rw [hml]; rfl) (Steps.refl _) (argsL := [(.int (own_k3 (u0 &&& (255 : Int32))))]) (rest := []) (lenOf pd__C_Ljava_lang_StringBuilder_ rfl) rfl (by show 2 * 0 + _ ≤ _; exact Nat.le_of_eq rfl) (hb hby d1_101) (fun _ _ => ⟨rfl, e_q32, (own_le (o := 1) (k := 0) hcl (by decide) rfl), (own_le (o := 18) (k := 0) hsl (by decide) rfl)⟩)
  dsimp only [Pt.U, Pt.locs, Pt.cells, Pt.slots] at X_q35 l_q35 y_q35 z_q35 st_q35 hQ_q35
  subst l_q35 y_q35 z_q35
  obtain ⟨rfl, Nq_q35, Kq_q35, O0_q35, O1_q35, O2_q35, O3_q35, O4_q35⟩ := hQ_q35
  have N_q35 := Fr.app N_q18 Nq_q35
  have O4_q18__q35 := O4_q18.keep Kq_q35
  have K_q35 : Keep h0 T_q35.heap [sb, va] := K_q18.trans Kq_q35 (allS (Or.inl (List.mem_of_getElem? (i := 0) rfl)) (allS (Or.inr sz_r1_q18) all0))
  obtain ⟨w_q35, hl_q35⟩ : ∃ w : List Value, w = (w_q18.set ((((cn + (1 : Int32)) + (1 : Int32)) + (1 : Int32))).toNatClampNeg (.int (nar .byte ((own_k3 (u0 &&& (255 : Int32))).toInt8.toInt32)))) := ⟨_, rfl⟩
  rw [← hl_q35] at O3_q35
  refine ⟨T_q35, _, _, r1_q18, kr1_q18, w_q8, w_q12, w_q18, w_q35, X_q35, rfl, N_q35, K_q35, sz_r1_q18, hl_q8, hl_q12, hl_q18, hl_q35, O0_q35, O1_q35, O2_q35, O3_q35, O4_q18__q35, fun target kt => ?_⟩
  show Steps p.tables e below (T0.setTop (mkF m 18 #[.val (.ref a1), .val (.ref sb), .val (.ref a1), .val (.int ln), .val (.int ix), s5, s6] [])) _
  refine XS.iload X0.here hx rfl (hb hby d1_18) rfl ?_
  refine XS.iloadN X0.here hx rfl (hb hby d1_20) rfl ?_
  refine XS.icmpNo X0.here hx rfl (hb hby d1_21) rfl (tlt hc_q1).2.1 ?_
  refine XS.aloadN X0.here hx rfl (hb hby d1_24) rfl rfl ?_
  show Steps p.tables e below (T0.setTop (mkF m 25 #[.val (.ref a1), .val (.ref sb), .val (.ref a1), .val (.int ln), .val (.int ix), s5, s6] [(.ref a1)])) _
  refine XS.iload X0.here hx rfl (hb hby d1_25) rfl ?_
  show Steps p.tables e below (T0.setTop (mkF m 27 #[.val (.ref a1), .val (.ref sb), .val (.ref a1), .val (.int ln), .val (.int ix), s5, s6] [(.int ix), (.ref a1)])) _
  refine X0.baloadBytes hx (j := ix) (v := (.int u0)) (by rw [e0]; exact Ar_q2.1) (State.isArrayOf_alike hZ.alike Ar_q2.2.1) Ar_q2.2.2 hin_q2 hat_q2 (g := (mkF m 27 #[.val (.ref a1), .val (.ref sb), .val (.ref a1), .val (.int ln), .val (.int ix), s5, s6] [(.int ix), (.ref a1)])) rfl rfl (hb hby d1_27) _ ?_
  refine XS.istore X0.here hx rfl (hb hby d1_28) rfl (l' := #[.val (.ref a1), .val (.ref sb), .val (.ref a1), .val (.int ln), .val (.int ix), .val (.int u0), s6]) hc_q5 ?_
  refine XS.iload X0.here hx rfl (hb hby d1_30) rfl ?_
  refine XS.sipush X0.here hx rfl (hb hby d1_32) ?_
  show Steps p.tables e below (T0.setTop (mkF m 35 #[.val (.ref a1), .val (.ref sb), .val (.ref a1), .val (.int ln), .val (.int ix), .val (.int u0), s6] [(.int (255 : Int32)), (.int u0)])) _
  refine XS.iand X0.here hx rfl (hb hby d1_35) rfl ?_
  refine XS.istore X0.here hx rfl (hb hby d1_36) rfl (l' := #[.val (.ref a1), .val (.ref sb), .val (.ref a1), .val (.int ln), .val (.int ix), .val (.int u0), .val (.int (u0 &&& (255 : Int32)))]) hc_q6 ?_
  show Steps p.tables e below (T0.setTop (mkF m 38 #[.val (.ref a1), .val (.ref sb), .val (.ref a1), .val (.int ln), .val (.int ix), .val (.int u0), .val (.int (u0 &&& (255 : Int32)))] [])) _
  refine own_ce_E a1 sb a1 ln (ix) u0 (u0 &&& (255 : Int32)) X0 hx hby hc_q7 ?_
  refine XS.aloadN X0.here hx rfl (hb hby d1_70) rfl rfl ?_
  refine XS.bipush X0.here hx rfl (hb hby d1_71) ?_
  show Steps p.tables e below (T0.setTop (mkF m 73 #[.val (.ref a1), .val (.ref sb), .val (.ref a1), .val (.int ln), .val (.int ix), .val (.int u0), .val (.int (u0 &&& (255 : Int32)))] [(.int (92 : Int32)), (.ref sb)])) _
  refine st_q8.trans ?_
  refine XS.bipush X_q8.here hx rfl (hb hby d1_76) ?_
  show Steps p.tables e below (T_q8.setTop (mkF m 78 #[.val (.ref a1), .val (.ref sb), .val (.ref a1), .val (.int ln), .val (.int ix), .val (.int u0), .val (.int (u0 &&& (255 : Int32)))] [(.int (120 : Int32)), (.ref sb)])) _
  refine st_q12.trans ?_
  show Steps p.tables e below (T_q12.setTop (mkF m 81 #[.val (.ref a1), .val (.ref sb), .val (.ref a1), .val (.int ln), .val (.int ix), .val (.int u0), .val (.int (u0 &&& (255 : Int32)))] [(.ref sb)])) _
  refine st_q15 _ ?_
  refine XS.iload X_q15.here hx rfl (hb hby d1_84) rfl ?_
  refine XS.iconst X_q15.here hx rfl (hb hby d1_86) ?_
  refine XS.iushr X_q15.here hx rfl (hb hby d1_87) rfl ?_
  show Steps p.tables e below (T_q15.setTop (mkF m 88 #[.val (.ref a1), .val (.ref sb), .val (.ref a1), .val (.int ln), .val (.int ix), .val (.int u0), .val (.int (u0 &&& (255 : Int32)))] [(.int (((u0 &&& (255 : Int32)).toUInt32 >>> ((4 : Int32) &&& 31).toUInt32).toInt32)), (.ref ha), (.ref sb)])) _
  refine X_q15.caload hx (j := (((u0 &&& (255 : Int32)).toUInt32 >>> ((4 : Int32) &&& 31).toUInt32).toInt32)) (v := (.int (own_hx (((u0 &&& (255 : Int32)).toUInt32 >>> ((4 : Int32) &&& 31).toUInt32).toInt32)))) (by rw [e_q15]; exact Ar_q16.1) (State.isArrayOf_alike hZ.alike Ar_q16.2.1) Ar_q16.2.2 hin_q16 hat_q16 (g := (mkF m 88 #[.val (.ref a1), .val (.ref sb), .val (.ref a1), .val (.int ln), .val (.int ix), .val (.int u0), .val (.int (u0 &&& (255 : Int32)))] [(.int (((u0 &&& (255 : Int32)).toUInt32 >>> ((4 : Int32) &&& 31).toUInt32).toInt32)), (.ref ha), (.ref sb)])) rfl rfl (hb hby d1_88) _ ?_
  show Steps p.tables e below (T_q15.setTop (mkF m 89 #[.val (.ref a1), .val (.ref sb), .val (.ref a1), .val (.int ln), .val (.int ix), .val (.int u0), .val (.int (u0 &&& (255 : Int32)))] [(.int (own_k2 (u0 &&& (255 : Int32)))), (.ref sb)])) _
  refine st_q18.trans ?_
  show Steps p.tables e below (T_q18.setTop (mkF m 92 #[.val (.ref a1), .val (.ref sb), .val (.ref a1), .val (.int ln), .val (.int ix), .val (.int u0), .val (.int (u0 &&& (255 : Int32)))] [(.ref sb)])) _
  refine st_q32 _ ?_
  refine XS.iload X_q32.here hx rfl (hb hby d1_95) rfl ?_
  refine XS.bipush X_q32.here hx rfl (hb hby d1_97) ?_
  refine XS.iand X_q32.here hx rfl (hb hby d1_99) rfl ?_
  show Steps p.tables e below (T_q32.setTop (mkF m 100 #[.val (.ref a1), .val (.ref sb), .val (.ref a1), .val (.int ln), .val (.int ix), .val (.int u0), .val (.int (u0 &&& (255 : Int32)))] [(.int ((u0 &&& (255 : Int32)) &&& (15 : Int32))), (.ref ha), (.ref sb)])) _
  refine X_q32.caload hx (j := ((u0 &&& (255 : Int32)) &&& (15 : Int32))) (v := (.int (own_hx ((u0 &&& (255 : Int32)) &&& (15 : Int32))))) (by rw [e_q32]; exact Ar_q33.1) (State.isArrayOf_alike hZ.alike Ar_q33.2.1) Ar_q33.2.2 hin_q33 hat_q33 (g := (mkF m 100 #[.val (.ref a1), .val (.ref sb), .val (.ref a1), .val (.int ln), .val (.int ix), .val (.int u0), .val (.int (u0 &&& (255 : Int32)))] [(.int ((u0 &&& (255 : Int32)) &&& (15 : Int32))), (.ref ha), (.ref sb)])) rfl rfl (hb hby d1_100) _ ?_
  show Steps p.tables e below (T_q32.setTop (mkF m 101 #[.val (.ref a1), .val (.ref sb), .val (.ref a1), .val (.int ln), .val (.int ix), .val (.int u0), .val (.int (u0 &&& (255 : Int32)))] [(.int (own_k3 (u0 &&& (255 : Int32)))), (.ref sb)])) _
  refine st_q35.trans ?_
  refine XS.pop X_q35.here hx rfl (hb hby d1_104) rfl rfl ?_
  refine XS.iinc X_q35.here hx rfl (hb hby d1_105) rfl (l' := #[.val (.ref a1), .val (.ref sb), .val (.ref a1), .val (.int ln), .val (.int (ix + (1 : Int32))), .val (.int u0), .val (.int (u0 &&& (255 : Int32)))]) rfl ?_
  refine XS.goto X_q35.here hx rfl (pc0 := 108) (pc' := 18) rfl (hb hby d1_108) (by decide) (by decide) ?_
  exact kt
set_option maxRecDepth 65536 in
set_option maxHeartbeats 40000000 in
theorem own_t13 {p : Program} {l : Launch} {e : Env} {s : State} {m : MethodId} {args : Array Value} {below : List Frame} {meth : Method} {c : Code} {T0 : State} {locs : List Loc} {cells slots : Nat} {Z : State} {a0 : Array Value} {h0 : Heap} {n0 : Nat} (a1 sb va ha : Addr) (ka k1 kh : ClassId) (ln ix : Int32) (lk : List Value) (u0 zl : Int32) (lv : List Value) (cn zn cs : Int32) (s5 s6 : Slot)
    (X0 : Stand p l e ({ frames := 9, cells := 6, slots := 70, locals := 180 } : Room) s m args below meth c T0 locs cells slots) (hx : p.tables.exec = Jvm.exec) (hZ : Z.Warmed39 s.vm) (hw : ∀ d ∈ tables_1, d.before a0 Z = true) (hby : c.code = prog_1_method_2_code) (hml : c.maxLocals = 7) (hown : s.vm.findClass "com/example/presplit/presplit/escape/BinaryEscape" = some m.cls) (e0 : T0.heap = h0) (N0 : Fr n0 locs) (Z0 : n0 ≤ h0.size) (hcl : cells + 1 ≤ ({ frames := 9, cells := 6, slots := 70, locals := 180 } : Room).cells) (hsl : slots + 18 ≤ ({ frames := 9, cells := 6, slots := 70, locals := 180 } : Room).slots) (V_a1 : Arv Z h0 a1 ka .byte ln lk (.int (0 : Int32))) (EX_sb : Exa Z h0 sb "java/lang/StringBuilder") (F_value_sb : Fld Z h0 sb "java/lang/AbstractStringBuilder" "value" "[B" (.ref va)) (F_coder_sb : Fld Z h0 sb "java/lang/AbstractStringBuilder" "coder" "B" (.int (0 : Int32))) (F_count_sb : Fld Z h0 sb "java/lang/AbstractStringBuilder" "count" "I" (.int cn)) (V_va : Arv Z h0 va k1 .byte zl lv (.int (0 : Int32))) (EX_va : Exa Z h0 va "[B") (S_COMPACT_STRINGS : Sta Z h0 "java/lang/String" "COMPACT_STRINGS" "Z" (.int cs)) (S_HEX_DIGITS : Sta Z h0 "com/example/presplit/presplit/escape/BinaryEscape" "HEX_DIGITS" "[C" (.ref ha)) (V_ha : Arv Z h0 ha kh .char (16 : Int32) own_hexL (.int (0 : Int32))) (ge_sb : n0 ≤ sb) (ge_va : n0 ≤ va) (ne_va_sb : va ≠ sb) (ne_a1_sb : a1 ≠ sb) (ne_a1_va : a1 ≠ va) (ne_ha_sb : ha ≠ sb) (ne_ha_va : ha ≠ va) (len_lv : lv.length = (zl).toNatClampNeg) (hc_q1 : ix < ln) (hc_q3 : ¬ ix < 0 ∧ ix < ln) (hc_q4 : lk.getD (ix).toNatClampNeg (.int (0 : Int32)) = .int u0) (hc_q5 : storeLocals #[.val (.ref a1), .val (.ref sb), .val (.ref a1), .val (.int ln), .val (.int ix), s5, s6] 5 (.int u0) = some #[.val (.ref a1), .val (.ref sb), .val (.ref a1), .val (.int ln), .val (.int ix), .val (.int u0), s6]) (hc_q6 : storeLocals #[.val (.ref a1), .val (.ref sb), .val (.ref a1), .val (.int ln), .val (.int ix), .val (.int u0), s6] 6 (.int (u0 &&& (255 : Int32))) = some #[.val (.ref a1), .val (.ref sb), .val (.ref a1), .val (.int ln), .val (.int ix), .val (.int u0), .val (.int (u0 &&& (255 : Int32)))]) (hc_q7 : own_esc (u0 &&& (255 : Int32))) (hc_q9 : ¬ ((0 : Int32) < ((cn + (1 : Int32)) - (zl >>> ((0 : Int32) &&& 31))))) (hc_q10 : ¬ (cs = (0 : Int32))) (hc_q11 : ¬ cn < 0 ∧ cn < zl) (hc_q13 : ¬ ((0 : Int32) < (((cn + (1 : Int32)) + (1 : Int32)) - (zl >>> ((0 : Int32) &&& 31))))) (hc_q14 : ¬ (cn + (1 : Int32)) < 0 ∧ (cn + (1 : Int32)) < zl) (hc_q17 : ¬ (((u0 &&& (255 : Int32)).toUInt32 >>> ((4 : Int32) &&& 31).toUInt32).toInt32) < 0 ∧ (((u0 &&& (255 : Int32)).toUInt32 >>> ((4 : Int32) &&& 31).toUInt32).toInt32) < (16 : Int32)) (hc_q19 : ¬ ((0 : Int32) < ((((cn + (1 : Int32)) + (1 : Int32)) + (1 : Int32)) - (zl >>> ((0 : Int32) &&& 31))))) (hc_q20 : ¬ ((F9_0 (own_k2 (u0 &&& (255 : Int32)))) = (0 : Int32))) (hc_q21 : ¬ ((cn + (1 : Int32)) + (1 : Int32)) < 0 ∧ ((cn + (1 : Int32)) + (1 : Int32)) < zl) (hc_q24 : ¬ ((u0 &&& (255 : Int32)) &&& (15 : Int32)) < 0 ∧ ((u0 &&& (255 : Int32)) &&& (15 : Int32)) < (16 : Int32)) (hc_q26 : (0 : Int32) < (((((cn + (1 : Int32)) + (1 : Int32)) + (1 : Int32)) + (1 : Int32)) - (zl >>> ((0 : Int32) &&& 31)))) (hc_q27 : (0 : Int32) < (zl + (F12_0 ((((((cn + (1 : Int32)) + (1 : Int32)) + (1 : Int32)) + (1 : Int32)) <<< ((0 : Int32) &&& 31)) - zl) (zl + (2 : Int32))))) (hc_q28 : ¬ ((2147483639 : Int32) < (zl + (F12_0 ((((((cn + (1 : Int32)) + (1 : Int32)) + (1 : Int32)) + (1 : Int32)) <<< ((0 : Int32) &&& 31)) - zl) (zl + (2 : Int32)))))) (hc_q29 : ¬ ((zl + (F12_0 ((((((cn + (1 : Int32)) + (1 : Int32)) + (1 : Int32)) + (1 : Int32)) <<< ((0 : Int32) &&& 31)) - zl) (zl + (2 : Int32)))) = (2147483647 : Int32))) (hc_q30 : (((zl + (F12_0 ((((((cn + (1 : Int32)) + (1 : Int32)) + (1 : Int32)) + (1 : Int32)) <<< ((0 : Int32) &&& 31)) - zl) (zl + (2 : Int32)))) >>> ((0 : Int32) &&& 31)) <<< ((0 : Int32) &&& 31)) = zn) (hc_q31 : (F14_0 zl zn) = zl) (hc_q32 : ¬ (zn = zl)) (hc_q33 : ¬ (zn) < 0) (hc_q34 : (zn).toNatClampNeg ≤ 18) (hc_q35 : ¬ (zl) < 0) (hc_q36 : (zl).toNatClampNeg ≤ (zn).toNatClampNeg) (hc_q37 : ¬ ((F9_0 (own_k3 (u0 &&& (255 : Int32)))) = (0 : Int32))) (hc_q38 : ¬ (((cn + (1 : Int32)) + (1 : Int32)) + (1 : Int32)) < 0 ∧ (((cn + (1 : Int32)) + (1 : Int32)) + (1 : Int32)) < zn) :
    ∃ (T' : State) (h' : Heap) (locs' : List Loc) (r1 : Addr) (kr1 : ClassId) (w1 : List Value) (w2 : List Value) (w3 : List Value) (w4 : List Value), Stand p l e ({ frames := 9, cells := 6, slots := 70, locals := 180 } : Room) s m args below meth c T' locs' (cells + 1) (slots + 18) ∧ T'.heap = h' ∧ Fr n0 locs' ∧ Keep h0 h' [sb, va] ∧ h0.size ≤ r1 ∧ w1 = (lv.set (cn).toNatClampNeg (.int (nar .byte ((92 : Int32).toInt8.toInt32)))) ∧ w2 = (w1.set ((cn + (1 : Int32))).toNatClampNeg (.int (nar .byte ((120 : Int32).toInt8.toInt32)))) ∧ w3 = (w2.set (((cn + (1 : Int32)) + (1 : Int32))).toNatClampNeg (.int (nar .byte ((own_k2 (u0 &&& (255 : Int32))).toInt8.toInt32)))) ∧ w4 = ((own_cp w3 (zl).toNatClampNeg (zn).toNatClampNeg).set ((((cn + (1 : Int32)) + (1 : Int32)) + (1 : Int32))).toNatClampNeg (.int (nar .byte ((own_k3 (u0 &&& (255 : Int32))).toInt8.toInt32)))) ∧ Fld Z h' sb "java/lang/AbstractStringBuilder" "value" "[B" (.ref r1) ∧ Fld Z h' sb "java/lang/AbstractStringBuilder" "coder" "B" (.int (0 : Int32)) ∧ Fld Z h' sb "java/lang/AbstractStringBuilder" "count" "I" (.int ((((cn + (1 : Int32)) + (1 : Int32)) + (1 : Int32)) + (1 : Int32))) ∧ Arv Z h' r1 kr1 .byte zn w4 (.int (0 : Int32)) ∧ Exa Z h' r1 "[B" ∧
      ∀ target, Steps p.tables e below (T'.setTop (mkF m 18 #[.val (.ref a1), .val (.ref sb), .val (.ref a1), .val (.int ln), .val (.int (ix + (1 : Int32))), .val (.int u0), .val (.int (u0 &&& (255 : Int32)))] [])) target → Steps p.tables e below (T0.setTop (mkF m 18 #[.val (.ref a1), .val (.ref sb), .val (.ref a1), .val (.int ln), .val (.int ix), s5, s6] [])) target := by
  have K0 : Keep h0 h0 [sb, va] := Keep.refl _ _
  obtain ⟨cl_q2, Ar_q2, qk_q2, S_q2, Nn_q2, H_q2, G_q2⟩ := id V_a1
  have hin_q2 : ¬ (ix < 0 ∨ cl_q2.slots.size ≤ (ix).toNatClampNeg) := inb_of S_q2 hc_q3
  have hat_q2 : cl_q2.slots[(ix).toNatClampNeg]? = some (.int u0) := (H_q2 _ (Nat.lt_of_not_le fun q => hin_q2 (Or.inr q))).trans (congrArg some hc_q4)
  obtain ⟨cq_q8, kq_q8, qa_q8, qb_q8, qc_q8⟩ := isOf hZ e0 EX_sb
  obtain ⟨_, _, ⟨T_q8, L_q8, k_q8, n_q8⟩, -, X_q8, ⟨Lc_q8, hQ_q8, l_q8, y_q8, z_q8⟩, st_q8⟩ := X0.virtualBack hx (y := (⟨"java/lang/StringBuilder", "append", "(C)Ljava/lang/StringBuilder;"⟩ : MethodName)) (z := (⟨"java/lang/StringBuilder", "append", "(C)Ljava/lang/StringBuilder;"⟩ : MethodName)) hown (mvT hZ (own_w hw 26 rfl)) (mvT hZ (own_w hw 27 rfl)) (notFace_of_selects (args := #[]) (mvT hZ (own_w hw 29 rfl))) (mvT hZ (own_w hw 29 rfl)) (mvT hZ (own_w hw 28 rfl)) (by decide) (backOf (W := 0) (rmSA_n l Z a0 hw [] sb va k1 zl lv cn cs (92 : Int32) h0 n0 (Nat.le_trans Z0 K0.1) EX_sb F_value_sb F_coder_sb F_count_sb V_va EX_va S_COMPACT_STRINGS ge_sb ge_va ne_va_sb len_lv hc_q9 hc_q10 (by decide) hc_q11) hZ (own_w hw 30 rfl) (own_w hw 7 rfl) (by decide) (by decide)) qa_q8 qc_q8 (g := (mkF m 73 #[.val (.ref a1), .val (.ref sb), .val (.ref a1), .val (.int ln), .val (.int ix), .val (.int u0), .val (.int (u0 &&& (255 : Int32)))] [(.int (92 : Int32)), (.ref sb)])) rfl (by rw [hml]; rfl) (Steps.refl _) (argsL := [(.int (92 : Int32))]) (rest := []) (lenOf pd__C_Ljava_lang_StringBuilder_ rfl) rfl (by show 2 * 0 + _ ≤ _; exact Nat.le_of_eq rfl) (hb hby d1_73) (fun _ _ => ⟨rfl, e0, (own_le (o := 0) (k := 0) hcl (by decide) rfl), (own_le (o := 0) (k := 0) hsl (by decide) rfl)⟩)
  dsimp only [Pt.U, Pt.locs, Pt.cells, Pt.slots] at X_q8 l_q8 y_q8 z_q8 st_q8 hQ_q8
  subst l_q8 y_q8 z_q8
  obtain ⟨rfl, Nq_q8, Kq_q8, O0_q8, O1_q8, O2_q8, O3_q8, O4_q8⟩ := hQ_q8
  have N_q8 := Fr.app N0 Nq_q8
  have EX_sb__q8 := EX_sb.keep Kq_q8
  have EX_va__q8 := EX_va.keep Kq_q8
  have S_COMPACT_STRINGS__q8 := own_sta_keep S_COMPACT_STRINGS Kq_q8 (allS (own_ns EX_sb) (allS (own_ns EX_va) all0))
  have S_HEX_DIGITS__q8 := own_sta_keep S_HEX_DIGITS Kq_q8 (allS (own_ns EX_sb) (allS (own_ns EX_va) all0))
  have V_ha__q8 := V_ha.keep Kq_q8 (ninS ne_ha_sb (ninS ne_ha_va nin0))
  have K_q8 : Keep h0 T_q8.heap [sb, va] := K0.trans Kq_q8 (allS (Or.inl (List.mem_of_getElem? (i := 0) rfl)) (allS (Or.inl (List.mem_of_getElem? (i := 1) rfl)) all0))
  obtain ⟨w_q8, hl_q8⟩ : ∃ w : List Value, w = (lv.set (cn).toNatClampNeg (.int (nar .byte ((92 : Int32).toInt8.toInt32)))) := ⟨_, rfl⟩
  rw [← hl_q8] at O3_q8
  have ln_q8 : w_q8.length = (zl).toNatClampNeg := by rw [hl_q8]; exact O4_q8
  obtain ⟨cq_q12, kq_q12, qa_q12, qb_q12, qc_q12⟩ := isOf hZ rfl EX_sb__q8
  obtain ⟨_, _, ⟨T_q12, L_q12, k_q12, n_q12⟩, -, X_q12, ⟨Lc_q12, hQ_q12, l_q12, y_q12, z_q12⟩, st_q12⟩ := X_q8.virtualBack hx (y := (⟨"java/lang/StringBuilder", "append", "(C)Ljava/lang/StringBuilder;"⟩ : MethodName)) (z := (⟨"java/lang/StringBuilder", "append", "(C)Ljava/lang/StringBuilder;"⟩ : MethodName)) hown (mvT hZ (own_w hw 26 rfl)) (mvT hZ (own_w hw 27 rfl)) (notFace_of_selects (args := #[]) (mvT hZ (own_w hw 29 rfl))) (mvT hZ (own_w hw 29 rfl)) (mvT hZ (own_w hw 28 rfl)) (by decide) (backOf (W := 0) (rmSA_n l Z a0 hw [] sb va k1 zl w_q8 (cn + (1 : Int32)) cs (120 : Int32) T_q8.heap n0 (Nat.le_trans Z0 K_q8.1) EX_sb__q8 O0_q8 O1_q8 O2_q8 O3_q8 EX_va__q8 S_COMPACT_STRINGS__q8 ge_sb ge_va ne_va_sb ln_q8 hc_q13 hc_q10 (by decide) hc_q14) hZ (own_w hw 30 rfl) (own_w hw 7 rfl) (by decide) (by decide)) qa_q12 qc_q12 (g := (mkF m 78 #[.val (.ref a1), .val (.ref sb), .val (.ref a1), .val (.int ln), .val (.int ix), .val (.int u0), .val (.int (u0 &&& (255 : Int32)))] [(.int (120 : Int32)), (.ref sb)])) rfl (by rw [hml]; rfl) (Steps.refl _) (argsL := [(.int (120 : Int32))]) (rest := []) (lenOf pd__C_Ljava_lang_StringBuilder_ rfl) rfl (by show 2 * 0 + _ ≤ _; exact Nat.le_of_eq rfl) (hb hby d1_78) (fun _ _ => ⟨rfl, rfl, (own_le (o := 0) (k := 0) hcl (by decide) rfl), (own_le (o := 0) (k := 0) hsl (by decide) rfl)⟩)
  dsimp only [Pt.U, Pt.locs, Pt.cells, Pt.slots] at X_q12 l_q12 y_q12 z_q12 st_q12 hQ_q12
  subst l_q12 y_q12 z_q12
  obtain ⟨rfl, Nq_q12, Kq_q12, O0_q12, O1_q12, O2_q12, O3_q12, O4_q12⟩ := hQ_q12
  have N_q12 := Fr.app N_q8 Nq_q12
  have EX_sb__q12 := EX_sb__q8.keep Kq_q12
  have EX_va__q12 := EX_va__q8.keep Kq_q12
  have S_COMPACT_STRINGS__q12 := own_sta_keep S_COMPACT_STRINGS__q8 Kq_q12 (allS (own_ns EX_sb__q8) (allS (own_ns EX_va__q8) all0))
  have S_HEX_DIGITS__q12 := own_sta_keep S_HEX_DIGITS__q8 Kq_q12 (allS (own_ns EX_sb__q8) (allS (own_ns EX_va__q8) all0))
  have V_ha__q12 := V_ha__q8.keep Kq_q12 (ninS ne_ha_sb (ninS ne_ha_va nin0))
  have K_q12 : Keep h0 T_q12.heap [sb, va] := K_q8.trans Kq_q12 (allS (Or.inl (List.mem_of_getElem? (i := 0) rfl)) (allS (Or.inl (List.mem_of_getElem? (i := 1) rfl)) all0))
  obtain ⟨w_q12, hl_q12⟩ : ∃ w : List Value, w = (w_q8.set ((cn + (1 : Int32))).toNatClampNeg (.int (nar .byte ((120 : Int32).toInt8.toInt32)))) := ⟨_, rfl⟩
  rw [← hl_q12] at O3_q12
  have ln_q12 : w_q12.length = (zl).toNatClampNeg := by rw [hl_q12]; exact O4_q12
  obtain ⟨T_q15, X_q15, e_q15, st_q15⟩ := getS2 X_q12 hx hZ hown (host := "") (Or.inl (own_w hw 78 rfl)) Via.refl rfl S_HEX_DIGITS__q12 (g := (mkF m 81 #[.val (.ref a1), .val (.ref sb), .val (.ref a1), .val (.int ln), .val (.int ix), .val (.int u0), .val (.int (u0 &&& (255 : Int32)))] [(.ref sb)])) rfl (hb hby d1_81)
  obtain ⟨cl_q16, Ar_q16, qk_q16, S_q16, Nn_q16, H_q16, G_q16⟩ := id V_ha__q12
  have hin_q16 : ¬ ((((u0 &&& (255 : Int32)).toUInt32 >>> ((4 : Int32) &&& 31).toUInt32).toInt32) < 0 ∨ cl_q16.slots.size ≤ ((((u0 &&& (255 : Int32)).toUInt32 >>> ((4 : Int32) &&& 31).toUInt32).toInt32)).toNatClampNeg) := inb_of S_q16 hc_q17
  have hat_q16 : cl_q16.slots[((((u0 &&& (255 : Int32)).toUInt32 >>> ((4 : Int32) &&& 31).toUInt32).toInt32)).toNatClampNeg]? = some (.int (own_hx (((u0 &&& (255 : Int32)).toUInt32 >>> ((4 : Int32) &&& 31).toUInt32).toInt32))) := (H_q16 _ (Nat.lt_of_not_le fun q => hin_q16 (Or.inr q))).trans (congrArg some (own_hex_at (((u0 &&& (255 : Int32)).toUInt32 >>> ((4 : Int32) &&& 31).toUInt32).toInt32) (by have q := Nat.lt_of_not_le fun q => hin_q16 (Or.inr q); rw [S_q16] at q; exact q)))
  obtain ⟨cq_q18, kq_q18, qa_q18, qb_q18, qc_q18⟩ := isOf hZ e_q15 EX_sb__q12
  obtain ⟨_, _, ⟨T_q18, L_q18, k_q18, n_q18⟩, -, X_q18, ⟨Lc_q18, hQ_q18, l_q18, y_q18, z_q18⟩, st_q18⟩ := X_q15.virtualBack hx (y := (⟨"java/lang/StringBuilder", "append", "(C)Ljava/lang/StringBuilder;"⟩ : MethodName)) (z := (⟨"java/lang/StringBuilder", "append", "(C)Ljava/lang/StringBuilder;"⟩ : MethodName)) hown (mvT hZ (own_w hw 26 rfl)) (mvT hZ (own_w hw 27 rfl)) (notFace_of_selects (args := #[]) (mvT hZ (own_w hw 29 rfl))) (mvT hZ (own_w hw 29 rfl)) (mvT hZ (own_w hw 28 rfl)) (by decide) (backOf (W := 0) (rmSA_n l Z a0 hw [] sb va k1 zl w_q12 ((cn + (1 : Int32)) + (1 : Int32)) cs (own_k2 (u0 &&& (255 : Int32))) T_q12.heap n0 (Nat.le_trans Z0 K_q12.1) EX_sb__q12 O0_q12 O1_q12 O2_q12 O3_q12 EX_va__q12 S_COMPACT_STRINGS__q12 ge_sb ge_va ne_va_sb ln_q12 hc_q19 hc_q10 hc_q20 hc_q21) hZ (own_w hw 30 rfl) (own_w hw 7 rfl) (by decide) (by decide)) qa_q18 qc_q18 (g := (mkF m 89 #[.val (.ref a1), .val (.ref sb), .val (.ref a1), .val (.int ln), .val (.int ix), .val (.int u0), .val (.int (u0 &&& (255 : Int32)))] [(.int (own_k2 (u0 &&& (255 : Int32)))), (.ref sb)])) rfl (by rw [hml]; rfl) (Steps.refl _) (argsL := [(.int (own_k2 (u0 &&& (255 : Int32))))]) (rest := []) (lenOf pd__C_Ljava_lang_StringBuilder_ rfl) rfl (by show 2 * 0 + _ ≤ _; exact Nat.le_of_eq rfl) (hb hby d1_89) (fun _ _ => ⟨rfl, e_q15, (own_le (o := 0) (k := 0) hcl (by decide) rfl), (own_le (o := 0) (k := 0) hsl (by decide) rfl)⟩)
  dsimp only [Pt.U, Pt.locs, Pt.cells, Pt.slots] at X_q18 l_q18 y_q18 z_q18 st_q18 hQ_q18
  subst l_q18 y_q18 z_q18
  obtain ⟨rfl, Nq_q18, Kq_q18, O0_q18, O1_q18, O2_q18, O3_q18, O4_q18⟩ := hQ_q18
  have N_q18 := Fr.app N_q12 Nq_q18
  have EX_sb__q18 := EX_sb__q12.keep Kq_q18
  have EX_va__q18 := EX_va__q12.keep Kq_q18
  have S_COMPACT_STRINGS__q18 := own_sta_keep S_COMPACT_STRINGS__q12 Kq_q18 (allS (own_ns EX_sb__q12) (allS (own_ns EX_va__q12) all0))
  have S_HEX_DIGITS__q18 := own_sta_keep S_HEX_DIGITS__q12 Kq_q18 (allS (own_ns EX_sb__q12) (allS (own_ns EX_va__q12) all0))
  have V_ha__q18 := V_ha__q12.keep Kq_q18 (ninS ne_ha_sb (ninS ne_ha_va nin0))
  have K_q18 : Keep h0 T_q18.heap [sb, va] := K_q12.trans Kq_q18 (allS (Or.inl (List.mem_of_getElem? (i := 0) rfl)) (allS (Or.inl (List.mem_of_getElem? (i := 1) rfl)) all0))
  obtain ⟨w_q18, hl_q18⟩ : ∃ w : List Value, w = (w_q12.set (((cn + (1 : Int32)) + (1 : Int32))).toNatClampNeg (.int (nar .byte ((own_k2 (u0 &&& (255 : Int32))).toInt8.toInt32)))) := ⟨_, rfl⟩
  rw [← hl_q18] at O3_q18
  obtain ⟨T_q22, X_q22, e_q22, st_q22⟩ := getS2 X_q18 hx hZ hown (host := "") (Or.inl (own_w hw 78 rfl)) Via.refl rfl S_HEX_DIGITS__q18 (g := (mkF m 92 #[.val (.ref a1), .val (.ref sb), .val (.ref a1), .val (.int ln), .val (.int ix), .val (.int u0), .val (.int (u0 &&& (255 : Int32)))] [(.ref sb)])) rfl (hb hby d1_92)
  obtain ⟨cl_q23, Ar_q23, qk_q23, S_q23, Nn_q23, H_q23, G_q23⟩ := id V_ha__q18
  have hin_q23 : ¬ (((u0 &&& (255 : Int32)) &&& (15 : Int32)) < 0 ∨ cl_q23.slots.size ≤ (((u0 &&& (255 : Int32)) &&& (15 : Int32))).toNatClampNeg) := inb_of S_q23 hc_q24
  have hat_q23 : cl_q23.slots[(((u0 &&& (255 : Int32)) &&& (15 : Int32))).toNatClampNeg]? = some (.int (own_hx ((u0 &&& (255 : Int32)) &&& (15 : Int32)))) := (H_q23 _ (Nat.lt_of_not_le fun q => hin_q23 (Or.inr q))).trans (congrArg some (own_hex_at ((u0 &&& (255 : Int32)) &&& (15 : Int32)) (by have q := Nat.lt_of_not_le fun q => hin_q23 (Or.inr q); rw [S_q23] at q; exact q)))
  obtain ⟨cq_q25, kq_q25, qa_q25, qb_q25, qc_q25⟩ := isOf hZ e_q22 EX_sb__q18
  obtain ⟨_, _, ⟨T_q25, L_q25, k_q25, n_q25⟩, -, X_q25, ⟨Lc_q25, hQ_q25, l_q25, y_q25, z_q25⟩, st_q25⟩ := X_q22.virtualBack hx (y := (⟨"java/lang/StringBuilder", "append", "(C)Ljava/lang/StringBuilder;"⟩ : MethodName)) (z := (⟨"java/lang/StringBuilder", "append", "(C)Ljava/lang/StringBuilder;"⟩ : MethodName)) hown (mvT hZ (own_w hw 26 rfl)) (mvT hZ (own_w hw 27 rfl)) (notFace_of_selects (args := #[]) (mvT hZ (own_w hw 29 rfl))) (mvT hZ (own_w hw 29 rfl)) (mvT hZ (own_w hw 28 rfl)) (by decide) (backOf (W := 0) (rmSA_g l Z a0 hw [] sb va k1 zl w_q18 (((cn + (1 : Int32)) + (1 : Int32)) + (1 : Int32)) zn cs (own_k3 (u0 &&& (255 : Int32))) T_q18.heap n0 (Nat.le_trans Z0 K_q18.1) EX_sb__q18 O0_q18 O1_q18 O2_q18 O3_q18 EX_va__q18 ge_sb ne_va_sb S_COMPACT_STRINGS__q18 hc_q26 hc_q27 hc_q28 hc_q29 hc_q30 hc_q31 hc_q32 hc_q33 hc_q34 hc_q35 hc_q36 hc_q10 hc_q37 hc_q38) hZ (own_w hw 30 rfl) (own_w hw 7 rfl) (by decide) (by decide)) qa_q25 qc_q25 (g := (mkF m 101 #[.val (.ref a1), .val (.ref sb), .val (.ref a1), .val (.int ln), .val (.int ix), .val (.int u0), .val (.int (u0 &&& (255 : Int32)))] [(.int (own_k3 (u0 &&& (255 : Int32)))), (.ref sb)])) rfl (by rw [hml]; rfl) (Steps.refl _) (argsL := [(.int (own_k3 (u0 &&& (255 : Int32))))]) (rest := []) (lenOf pd__C_Ljava_lang_StringBuilder_ rfl) rfl (by show 2 * 0 + _ ≤ _; exact Nat.le_of_eq rfl) (hb hby d1_101) (fun _ _ => ⟨rfl, e_q22, (own_le (o := 0) (k := 1) hcl (by decide) rfl), (own_le (o := 0) (k := 18) hsl (by decide) rfl)⟩)
  dsimp only [Pt.U, Pt.locs, Pt.cells, Pt.slots] at X_q25 l_q25 y_q25 z_q25 st_q25 hQ_q25
  subst l_q25 y_q25 z_q25
  obtain ⟨r1_q25, kr1_q25, rfl, Nq_q25, Kq_q25, sz0_r1_q25, O0_q25, O1_q25, O2_q25, O3_q25, O4_q25, O5_q25⟩ := hQ_q25
  have N_q25 := Fr.app N_q18 Nq_q25
  have sz_r1_q25 : h0.size ≤ r1_q25 := Nat.le_trans K_q18.1 sz0_r1_q25
  have K_q25 : Keep h0 T_q25.heap [sb, va] := K_q18.trans Kq_q25 (allS (Or.inl (List.mem_of_getElem? (i := 0) rfl)) all0)
  obtain ⟨w_q25, hl_q25⟩ : ∃ w : List Value, w = ((own_cp w_q18 (zl).toNatClampNeg (zn).toNatClampNeg).set ((((cn + (1 : Int32)) + (1 : Int32)) + (1 : Int32))).toNatClampNeg (.int (nar .byte ((own_k3 (u0 &&& (255 : Int32))).toInt8.toInt32)))) := ⟨_, rfl⟩
  rw [← hl_q25] at O3_q25
  refine ⟨T_q25, _, _, r1_q25, kr1_q25, w_q8, w_q12, w_q18, w_q25, X_q25, rfl, N_q25, K_q25, sz_r1_q25, hl_q8, hl_q12, hl_q18, hl_q25, O0_q25, O1_q25, O2_q25, O3_q25, O4_q25, fun target kt => ?_⟩
  show Steps p.tables e below (T0.setTop (mkF m 18 #[.val (.ref a1), .val (.ref sb), .val (.ref a1), .val (.int ln), .val (.int ix), s5, s6] [])) _
  refine XS.iload X0.here hx rfl (hb hby d1_18) rfl ?_
  refine XS.iloadN X0.here hx rfl (hb hby d1_20) rfl ?_
  refine XS.icmpNo X0.here hx rfl (hb hby d1_21) rfl (tlt hc_q1).2.1 ?_
  refine XS.aloadN X0.here hx rfl (hb hby d1_24) rfl rfl ?_
  show Steps p.tables e below (T0.setTop (mkF m 25 #[.val (.ref a1), .val (.ref sb), .val (.ref a1), .val (.int ln), .val (.int ix), s5, s6] [(.ref a1)])) _
  refine XS.iload X0.here hx rfl (hb hby d1_25) rfl ?_
  show Steps p.tables e below (T0.setTop (mkF m 27 #[.val (.ref a1), .val (.ref sb), .val (.ref a1), .val (.int ln), .val (.int ix), s5, s6] [(.int ix), (.ref a1)])) _
  refine X0.baloadBytes hx (j := ix) (v := (.int u0)) (by rw [e0]; exact Ar_q2.1) (State.isArrayOf_alike hZ.alike Ar_q2.2.1) Ar_q2.2.2 hin_q2 hat_q2 (g := (mkF m 27 #[.val (.ref a1), .val (.ref sb), .val (.ref a1), .val (.int ln), .val (.int ix), s5, s6] [(.int ix), (.ref a1)])) rfl rfl (hb hby d1_27) _ ?_
  refine XS.istore X0.here hx rfl (hb hby d1_28) rfl (l' := #[.val (.ref a1), .val (.ref sb), .val (.ref a1), .val (.int ln), .val (.int ix), .val (.int u0), s6]) hc_q5 ?_
  refine XS.iload X0.here hx rfl (hb hby d1_30) rfl ?_
  refine XS.sipush X0.here hx rfl (hb hby d1_32) ?_
  show Steps p.tables e below (T0.setTop (mkF m 35 #[.val (.ref a1), .val (.ref sb), .val (.ref a1), .val (.int ln), .val (.int ix), .val (.int u0), s6] [(.int (255 : Int32)), (.int u0)])) _
  refine XS.iand X0.here hx rfl (hb hby d1_35) rfl ?_
  refine XS.istore X0.here hx rfl (hb hby d1_36) rfl (l' := #[.val (.ref a1), .val (.ref sb), .val (.ref a1), .val (.int ln), .val (.int ix), .val (.int u0), .val (.int (u0 &&& (255 : Int32)))]) hc_q6 ?_
  show Steps p.tables e below (T0.setTop (mkF m 38 #[.val (.ref a1), .val (.ref sb), .val (.ref a1), .val (.int ln), .val (.int ix), .val (.int u0), .val (.int (u0 &&& (255 : Int32)))] [])) _
  refine own_ce_E a1 sb a1 ln (ix) u0 (u0 &&& (255 : Int32)) X0 hx hby hc_q7 ?_
  refine XS.aloadN X0.here hx rfl (hb hby d1_70) rfl rfl ?_
  refine XS.bipush X0.here hx rfl (hb hby d1_71) ?_
  show Steps p.tables e below (T0.setTop (mkF m 73 #[.val (.ref a1), .val (.ref sb), .val (.ref a1), .val (.int ln), .val (.int ix), .val (.int u0), .val (.int (u0 &&& (255 : Int32)))] [(.int (92 : Int32)), (.ref sb)])) _
  refine st_q8.trans ?_
  refine XS.bipush X_q8.here hx rfl (hb hby d1_76) ?_
  show Steps p.tables e below (T_q8.setTop (mkF m 78 #[.val (.ref a1), .val (.ref sb), .val (.ref a1), .val (.int ln), .val (.int ix), .val (.int u0), .val (.int (u0 &&& (255 : Int32)))] [(.int (120 : Int32)), (.ref sb)])) _
  refine st_q12.trans ?_
  show Steps p.tables e below (T_q12.setTop (mkF m 81 #[.val (.ref a1), .val (.ref sb), .val (.ref a1), .val (.int ln), .val (.int ix), .val (.int u0), .val (.int (u0 &&& (255 : Int32)))] [(.ref sb)])) _
  refine st_q15 _ ?_
  refine XS.iload X_q15.here hx rfl (hb hby d1_84) rfl ?_
  refine XS.iconst X_q15.here hx rfl (hb hby d1_86) ?_
  refine XS.iushr X_q15.here hx rfl (hb hby d1_87) rfl ?_
  show Steps p.tables e below (T_q15.setTop (mkF m 88 #[.val (.ref a1), .val (.ref sb), .val (.ref a1), .val (.int ln), .val (.int ix), .val (.int u0), .val (.int (u0 &&& (255 : Int32)))] [(.int (((u0 &&& (255 : Int32)).toUInt32 >>> ((4 : Int32) &&& 31).toUInt32).toInt32)), (.ref ha), (.ref sb)])) _
  refine X_q15.caload hx (j := (((u0 &&& (255 : Int32)).toUInt32 >>> ((4 : Int32) &&& 31).toUInt32).toInt32)) (v := (.int (own_hx (((u0 &&& (255 : Int32)).toUInt32 >>> ((4 : Int32) &&& 31).toUInt32).toInt32)))) (by rw [e_q15]; exact Ar_q16.1) (State.isArrayOf_alike hZ.alike Ar_q16.2.1) Ar_q16.2.2 hin_q16 hat_q16 (g := (mkF m 88 #[.val (.ref a1), .val (.ref sb), .val (.ref a1), .val (.int ln), .val (.int ix), .val (.int u0), .val (.int (u0 &&& (255 : Int32)))] [(.int (((u0 &&& (255 : Int32)).toUInt32 >>> ((4 : Int32) &&& 31).toUInt32).toInt32)), (.ref ha), (.ref sb)])) rfl rfl (hb hby d1_88) _ ?_
  show Steps p.tables e below (T_q15.setTop (mkF m 89 #[.val (.ref a1), .val (.ref sb), .val (.ref a1), .val (.int ln), .val (.int ix), .val (.int u0), .val (.int (u0 &&& (255 : Int32)))] [(.int (own_k2 (u0 &&& (255 : Int32)))), (.ref sb)])) _
  refine st_q18.trans ?_
  show Steps p.tables e below (T_q18.setTop (mkF m 92 #[.val (.ref a1), .val (.ref sb), .val (.ref a1), .val (.int ln), .val (.int ix), .val (.int u0), .val (.int (u0 &&& (255 : Int32)))] [(.ref sb)])) _
  refine st_q22 _ ?_
  refine XS.iload X_q22.here hx rfl (hb hby d1_95) rfl ?_
  refine XS.bipush X_q22.here hx rfl (hb hby d1_97) ?_
  refine XS.iand X_q22.here hx rfl (hb hby d1_99) rfl ?_
  show Steps p.tables e below (T_q22.setTop (mkF m 100 #[.val (.ref a1), .val (.ref sb), .val (.ref a1), .val (.int ln), .val (.int ix), .val (.int u0), .val (.int (u0 &&& (255 : Int32)))] [(.int ((u0 &&& (255 : Int32)) &&& (15 : Int32))), (.ref ha), (.ref sb)])) _
  refine X_q22.caload hx (j := ((u0 &&& (255 : Int32)) &&& (15 : Int32))) (v := (.int (own_hx ((u0 &&& (255 : Int32)) &&& (15 : Int32))))) (by rw [e_q22]; exact Ar_q23.1) (State.isArrayOf_alike hZ.alike Ar_q23.2.1) Ar_q23.2.2 hin_q23 hat_q23 (g := (mkF m 100 #[.val (.ref a1), .val (.ref sb), .val (.ref a1), .val (.int ln), .val (.int ix), .val (.int u0), .val (.int (u0 &&& (255 : Int32)))] [(.int ((u0 &&& (255 : Int32)) &&& (15 : Int32))), (.ref ha), (.ref sb)])) rfl rfl (hb hby d1_100) _ ?_
  show Steps p.tables e below (T_q22.setTop (mkF m 101 #[.val (.ref a1), .val (.ref sb), .val (.ref a1), .val (.int ln), .val (.int ix), .val (.int u0), .val (.int (u0 &&& (255 : Int32)))] [(.int (own_k3 (u0 &&& (255 : Int32)))), (.ref sb)])) _
  refine st_q25.trans ?_
  refine XS.pop X_q25.here hx rfl (hb hby d1_104) rfl rfl ?_
  refine XS.iinc X_q25.here hx rfl (hb hby d1_105) rfl (l' := #[.val (.ref a1), .val (.ref sb), .val (.ref a1), .val (.int ln), .val (.int (ix + (1 : Int32))), .val (.int u0), .val (.int (u0 &&& (255 : Int32)))]) rfl ?_
  refine XS.goto X_q25.here hx rfl (pc0 := 108) (pc' := 18) rfl (hb hby d1_108) (by decide) (by decide) ?_
  exact kt
theorem d1_0 : decode prog_1_method_2_code 0 = .ok (.new 7, 3) := by decide +kernel
theorem d1_3 : decode prog_1_method_2_code 3 = .ok (.dup, 1) := by decide +kernel
theorem d1_4 : decode prog_1_method_2_code 4 = .ok (.aload_n 0, 1) := by decide +kernel
theorem d1_5 : decode prog_1_method_2_code 5 = .ok (.arraylength, 1) := by decide +kernel
theorem d1_6 : decode prog_1_method_2_code 6 = .ok (.invokespecial 9, 3) := by decide +kernel
theorem d1_9 : decode prog_1_method_2_code 9 = .ok (.astore_n 1, 1) := by decide +kernel
theorem d1_10 : decode prog_1_method_2_code 10 = .ok (.aload_n 0, 1) := by decide +kernel
theorem d1_11 : decode prog_1_method_2_code 11 = .ok (.astore_n 2, 1) := by decide +kernel
theorem d1_12 : decode prog_1_method_2_code 12 = .ok (.aload_n 2, 1) := by decide +kernel
theorem d1_13 : decode prog_1_method_2_code 13 = .ok (.arraylength, 1) := by decide +kernel
theorem d1_14 : decode prog_1_method_2_code 14 = .ok (.istore_n 3, 1) := by decide +kernel
theorem d1_15 : decode prog_1_method_2_code 15 = .ok (.iconst 0, 1) := by decide +kernel
theorem d1_16 : decode prog_1_method_2_code 16 = .ok (.istore 4, 2) := by decide +kernel
set_option maxRecDepth 65536 in
set_option maxHeartbeats 40000000 in
theorem own_t_ {p : Program} {l : Launch} {e : Env} {s : State} {m : MethodId} {args : Array Value} {below : List Frame} {meth : Method} {c : Code} {T0 : State} {locs : List Loc} {cells slots : Nat} {Z : State} {a0 : Array Value} {h0 : Heap} {n0 : Nat} (a1 : Addr) (ka : ClassId) (ln : Int32) (lk : List Value) (cs : Int32)
    (X0 : Stand p l e ({ frames := 9, cells := 6, slots := 70, locals := 180 } : Room) s m args below meth c T0 locs cells slots) (hx : p.tables.exec = Jvm.exec) (hZ : Z.Warmed39 s.vm) (hw : ∀ d ∈ tables_1, d.before a0 Z = true) (hby : c.code = prog_1_method_2_code) (hml : c.maxLocals = 7) (hown : s.vm.findClass "com/example/presplit/presplit/escape/BinaryEscape" = some m.cls) (e0 : T0.heap = h0) (N0 : Fr n0 locs) (Z0 : n0 ≤ h0.size) (hcl : cells + 2 ≤ ({ frames := 9, cells := 6, slots := 70, locals := 180 } : Room).cells) (hsl : slots + 7 ≤ ({ frames := 9, cells := 6, slots := 70, locals := 180 } : Room).slots) (V_a1 : Arv Z h0 a1 ka .byte ln lk (.int (0 : Int32))) (S_COMPACT_STRINGS : Sta Z h0 "java/lang/String" "COMPACT_STRINGS" "Z" (.int cs)) (hc_q4 : ¬ (cs = (0 : Int32))) (hc_q5 : ¬ (ln) < 0) (hc_q6 : (ln).toNatClampNeg ≤ 3) :
    ∃ (T' : State) (h' : Heap) (locs' : List Loc) (r1 : Addr) (r2 : Addr) (kr2 : ClassId), Stand p l e ({ frames := 9, cells := 6, slots := 70, locals := 180 } : Room) s m args below meth c T' locs' (cells + 2) (slots + 7) ∧ T'.heap = h' ∧ Fr n0 locs' ∧ Keep h0 h' [] ∧ h0.size ≤ r1 ∧ h0.size ≤ r2 ∧ r2 ≠ r1 ∧ Exa Z h' r1 "java/lang/StringBuilder" ∧ Fld Z h' r1 "java/lang/AbstractStringBuilder" "value" "[B" (.ref r2) ∧ Fld Z h' r1 "java/lang/AbstractStringBuilder" "coder" "B" (.int (0 : Int32)) ∧ Fld Z h' r1 "java/lang/AbstractStringBuilder" "count" "I" (.int (0 : Int32)) ∧ Arv Z h' r2 kr2 .byte ln (List.replicate (ln).toNatClampNeg (.int (0 : Int32))) (.int (0 : Int32)) ∧ Exa Z h' r2 "[B" ∧
      ∀ target, Steps p.tables e below (T'.setTop (mkF m 18 #[.val (.ref a1), .val (.ref r1), .val (.ref a1), .val (.int ln), .val (.int (0 : Int32)), .unset, .unset] [])) target → Steps p.tables e below (T0.setTop (mkF m 0 #[.val (.ref a1), .unset, .unset, .unset, .unset, .unset, .unset] [])) target := by
  have K0 : Keep h0 h0 [] := Keep.refl _ _
  obtain ⟨T_q1, h_q1, X_q1, e_q1, E_q1, EX_q1, D_q1, -, st_q1⟩ := newO X0 hx hZ hown (own_w hw 5 rfl) (own_w hw 6 rfl) (own_w hw 7 rfl) e0 (g := (mkF m 0 #[.val (.ref a1), .unset, .unset, .unset, .unset, .unset, .unset] [])) rfl (hb hby d1_0) (own_le (o := 0) (k := 1) hcl (by decide) rfl) (own_le (o := 0) (k := 4) hsl (by decide) rfl)
  obtain ⟨b_q1, g_q1⟩ : ∃ z, z = h0.size := ⟨_, rfl⟩
  rw [← g_q1] at EX_q1 D_q1 st_q1
  have ne_a1_b_q1 : a1 ≠ b_q1 := Nat.ne_of_lt (Nat.lt_of_lt_of_le V_a1.lt (Nat.le_of_eq g_q1.symm))
  have ge_b_q1 : n0 ≤ b_q1 := Nat.le_trans (Nat.le_trans Z0 K0.1) (Nat.le_of_eq g_q1.symm)
  have sz_b_q1 : h0.size ≤ b_q1 := Nat.le_trans K0.1 (Nat.le_of_eq g_q1.symm)
  have K_q1 : Keep h0 h_q1 [] := K0.ext E_q1
  have V_a1__q1 := V_a1.ext E_q1
  have S_COMPACT_STRINGS__q1 := S_COMPACT_STRINGS.ext E_q1
  have F_value_b_q1 : Fld Z h_q1 b_q1 "java/lang/AbstractStringBuilder" "value" "[B" .null := D_q1 (Or.inl (own_w hw 23 rfl)) (ty := (.array .byte)) (by decide)
  have F_coder_b_q1 : Fld Z h_q1 b_q1 "java/lang/AbstractStringBuilder" "coder" "B" (.int (0 : Int32)) := D_q1 (Or.inl (own_w hw 25 rfl)) (ty := .byte) (by decide)
  have F_count_b_q1 : Fld Z h_q1 b_q1 "java/lang/AbstractStringBuilder" "count" "I" (.int (0 : Int32)) := D_q1 (Or.inl (own_w hw 37 rfl)) (ty := .int) (by decide)
  obtain ⟨cl_q2, Ar_q2, qk_q2, S_q2, Nn_q2, H_q2, G_q2⟩ := id V_a1__q1
  obtain ⟨_, _, ⟨T_q3, L_q3, k_q3, n_q3⟩, -, X_q3, ⟨Lc_q3, hQ_q3, l_q3, y_q3, z_q3⟩, st_q3⟩ := X_q1.specialBack hx (y := (⟨"java/lang/StringBuilder", "<init>", "(I)V"⟩ : MethodName)) rfl hown (mvT hZ (own_w hw 8 rfl)) (mvT hZ (own_w hw 9 rfl)) (mvT hZ (own_w hw 10 rfl)) (by decide) (backOf (W := 1) (rmSI l Z a0 hw [] b_q1 cs ln h_q1 n0 (Nat.le_trans Z0 K_q1.1) EX_q1 F_value_b_q1 F_coder_b_q1 F_count_b_q1 S_COMPACT_STRINGS__q1 ge_b_q1 hc_q4 hc_q5 hc_q6) hZ (own_w hw 10 rfl) (own_w hw 7 rfl) (by decide) (by decide)) (g := (mkF m 6 #[.val (.ref a1), .unset, .unset, .unset, .unset, .unset, .unset] [(.int ln), (.ref b_q1), (.ref b_q1)])) rfl (by rw [hml]; rfl) (Steps.refl _) (a := b_q1) (argsL := [(.int ln)]) (rest := [(.ref b_q1)]) (lenOf pd__I_V rfl) rfl (by show 2 * 0 + _ ≤ _; exact Nat.le_of_eq rfl) (hb hby d1_6) (fun _ _ => ⟨rfl, e_q1, (own_le (o := 1) (k := 1) hcl (by decide) rfl), (own_le (o := 4) (k := 3) hsl (by decide) rfl)⟩)
  dsimp only [Pt.U, Pt.locs, Pt.cells, Pt.slots] at X_q3 l_q3 y_q3 z_q3 st_q3 hQ_q3
  subst l_q3 y_q3 z_q3
  obtain ⟨r1_q3, kr1_q3, rfl, Nq_q3, Kq_q3, sz0_r1_q3, O0_q3, O1_q3, O2_q3, O3_q3, O4_q3⟩ := hQ_q3
  have N_q3 := Fr.app N0 Nq_q3
  have sz_r1_q3 : h0.size ≤ r1_q3 := Nat.le_trans K_q1.1 sz0_r1_q3
  have ne_b_q1_r1_q3 : b_q1 ≠ r1_q3 := Nat.ne_of_lt (Nat.lt_of_lt_of_le EX_q1.lt sz0_r1_q3)
  have V_a1__q3 := V_a1__q1.keep Kq_q3 (ninS ne_a1_b_q1 nin0)
  have EX_q1__q3 := EX_q1.keep Kq_q3
  have K_q3 : Keep h0 T_q3.heap [] := K_q1.trans Kq_q3 (allS (Or.inr sz_b_q1) all0)
  obtain ⟨cl_q7, Ar_q7, qk_q7, S_q7, Nn_q7, H_q7, G_q7⟩ := id V_a1__q3
  refine ⟨T_q3, _, _, b_q1, r1_q3, kr1_q3, X_q3, rfl, N_q3, K_q3, sz_b_q1, sz_r1_q3, (Ne.symm ne_b_q1_r1_q3), EX_q1__q3, O0_q3, O1_q3, O2_q3, O3_q3, O4_q3, fun target kt => ?_⟩
  show Steps p.tables e below (T0.setTop (mkF m 0 #[.val (.ref a1), .unset, .unset, .unset, .unset, .unset, .unset] [])) _
  refine st_q1 _ ?_
  refine XS.dup X_q1.here hx rfl (hb hby d1_3) rfl rfl ?_
  refine XS.aloadN X_q1.here hx rfl (hb hby d1_4) rfl rfl ?_
  show Steps p.tables e below (T_q1.setTop (mkF m 5 #[.val (.ref a1), .unset, .unset, .unset, .unset, .unset, .unset] [(.ref a1), (.ref b_q1), (.ref b_q1)])) _
  refine X_q1.arraylength hx (by rw [e_q1]; exact Ar_q2.1) (State.isArrayOf_alike hZ.alike Ar_q2.2.1) (g := (mkF m 5 #[.val (.ref a1), .unset, .unset, .unset, .unset, .unset, .unset] [(.ref a1), (.ref b_q1), (.ref b_q1)])) rfl rfl (hb hby d1_5) _ ?_
  rw [len_of S_q2 Nn_q2]
  show Steps p.tables e below (T_q1.setTop (mkF m 6 #[.val (.ref a1), .unset, .unset, .unset, .unset, .unset, .unset] [(.int ln), (.ref b_q1), (.ref b_q1)])) _
  refine st_q3.trans ?_
  refine XS.astoreN X_q3.here hx rfl (hb hby d1_9) rfl rfl (l' := #[.val (.ref a1), .val (.ref b_q1), .unset, .unset, .unset, .unset, .unset]) rfl ?_
  refine XS.aloadN X_q3.here hx rfl (hb hby d1_10) rfl rfl ?_
  refine XS.astoreN X_q3.here hx rfl (hb hby d1_11) rfl rfl (l' := #[.val (.ref a1), .val (.ref b_q1), .val (.ref a1), .unset, .unset, .unset, .unset]) rfl ?_
  show Steps p.tables e below (T_q3.setTop (mkF m 12 #[.val (.ref a1), .val (.ref b_q1), .val (.ref a1), .unset, .unset, .unset, .unset] [])) _
  refine XS.aloadN X_q3.here hx rfl (hb hby d1_12) rfl rfl ?_
  show Steps p.tables e below (T_q3.setTop (mkF m 13 #[.val (.ref a1), .val (.ref b_q1), .val (.ref a1), .unset, .unset, .unset, .unset] [(.ref a1)])) _
  refine X_q3.arraylength hx (by exact Ar_q7.1) (State.isArrayOf_alike hZ.alike Ar_q7.2.1) (g := (mkF m 13 #[.val (.ref a1), .val (.ref b_q1), .val (.ref a1), .unset, .unset, .unset, .unset] [(.ref a1)])) rfl rfl (hb hby d1_13) _ ?_
  rw [len_of S_q7 Nn_q7]
  refine XS.istoreN X_q3.here hx rfl (hb hby d1_14) rfl (l' := #[.val (.ref a1), .val (.ref b_q1), .val (.ref a1), .val (.int ln), .unset, .unset, .unset]) rfl ?_
  refine XS.iconst X_q3.here hx rfl (hb hby d1_15) ?_
  refine XS.istore X_q3.here hx rfl (hb hby d1_16) rfl (l' := #[.val (.ref a1), .val (.ref b_q1), .val (.ref a1), .val (.int ln), .val (.int (0 : Int32)), .unset, .unset]) rfl ?_
  exact kt
theorem d1_111 : decode prog_1_method_2_code 111 = .ok (.aload_n 1, 1) := by decide +kernel
theorem d1_112 : decode prog_1_method_2_code 112 = .ok (.invokevirtual 22, 3) := by decide +kernel
theorem d1_115 : decode prog_1_method_2_code 115 = .ok (.areturn, 1) := by decide +kernel
theorem pd___Ljava_lang_String_ : parseMethodDescriptor "()Ljava/lang/String;" = some ⟨[], some (.object "java/lang/String")⟩ := by decide +kernel
theorem ef_1 (m : MethodId) (x0 : Addr) : entryFrame m #[(.ref x0)] 7 = mkF m 0 #[.val (.ref x0), .unset, .unset, .unset, .unset, .unset, .unset] [] := by first | (simp [entryFrame, mkF, argsToLocals, Value.category]; done) | rfl
def Q_rmEn_0_ (Z : State) (a1 ha : Addr) (ka kh : ClassId) (cs : Int32) (h0 : Heap) (n0 : Nat) (v : Option Value) (h : Heap) (L : List Loc) : Prop := ∃ (r1 : Addr) (r2 : Addr) (kr2 : ClassId), v = some (.ref r1) ∧ Fr n0 L ∧ Keep h0 h [] ∧ h0.size ≤ r1 ∧ h0.size ≤ r2 ∧ Exa Z h r1 "java/lang/String" ∧ Fld Z h r1 "java/lang/String" "value" "[B" (.ref r2) ∧ Fld Z h r1 "java/lang/String" "coder" "B" (.int (0 : Int32)) ∧ Arv Z h r2 kr2 .byte (0 : Int32) [] (.int (0 : Int32))
set_option maxRecDepth 65536 in
set_option maxHeartbeats 40000000 in
theorem rmEn_0_ (l : Launch) (Z : State) (a0 : Array Value) (hw : ∀ d ∈ tables_1, d.before a0 Z = true) (ws : List Jvm.Cond) (a1 ha : Addr) (ka kh : ClassId) (cs : Int32) (h0 : Heap) (n0 : Nat) (Z0 : n0 ≤ h0.size) (V_a1 : Arv Z h0 a1 ka .byte (0 : Int32) [] (.int (0 : Int32))) (S_COMPACT_STRINGS : Sta Z h0 "java/lang/String" "COMPACT_STRINGS" "Z" (.int cs)) (S_HEX_DIGITS : Sta Z h0 "com/example/presplit/presplit/escape/BinaryEscape" "HEX_DIGITS" "[C" (.ref ha)) (V_ha : Arv Z h0 ha kh .char (16 : Int32) own_hexL (.int (0 : Int32))) (hc_q2 : ¬ (cs = (0 : Int32))) :
    MetFree l (⟨"com/example/presplit/presplit/escape/BinaryEscape", "encode", "([B)Ljava/lang/String;"⟩ : MethodName) (head1 (Jvm.Cond.code (⟨"com/example/presplit/presplit/escape/BinaryEscape", "encode", "([B)Ljava/lang/String;"⟩ : MethodName) prog_1_method_2_code 7 (some (.object "java/lang/String")) :: ws) ({ frames := 9, cells := 6, slots := 70, locals := 180 } : Room)) (fun a U => a = #[(.ref a1)] ∧ Z.Warmed39 U.vm ∧ U.heap = h0) (fun _ _ _ _ _ => True) (fun _ U o U' => ∃ v L, o = .returned v ∧ Q_rmEn_0_ Z a1 ha ka kh cs h0 n0 v U'.heap L ∧ FrameEnd U o U' L ({ frames := 9, cells := 6, slots := 70, locals := 180 } : Room).cells ({ frames := 9, cells := 6, slots := 70, locals := 180 } : Room).slots) := by
  refine MetFree.of_bodySF (plainFor_of_name pn_1) hisR ?_
  intro p e s m args below meth c s₁ Bd hml0 hP hK
  obtain ⟨rfl, hZ, hh⟩ := hP
  have hx := Bd.exec
  have hby := Bd.bytes
  have hml : c.maxLocals = 7 := hml0
  have hown : s.vm.findClass "com/example/presplit/presplit/escape/BinaryEscape" = some m.cls := findClass_of_methodNamed Bd.named
  have hnm := (name_of_methodNamed Bd.named Bd.method).1
  have X0 : Stand p l e ({ frames := 9, cells := 6, slots := 70, locals := 180 } : Room) s m #[(.ref a1)] below meth c s₁ [] 0 0 := Stand.of_body Bd
  have e0 : s₁.heap = h0 := by rw [← hh, Bd.state]; rfl
  have N0 := Fr.nil n0
  have pre0 : ∀ t, Steps p.tables e below (s₁.setTop (mkF m 0 #[.val (.ref a1), .unset, .unset, .unset, .unset, .unset, .unset] [])) t → Steps p.tables e below (s₁.setTop (entryFrame m #[(.ref a1)] 7)) t := fun t k => castTop (ef_1 m a1) k
  have K0 : Keep h0 h0 [] := Keep.refl _ _
  obtain ⟨T_q1, h_q1, L_q1, r1_q1, r2_q1, kr2_q1, X_q1, e_q1, N_q1, Kq_q1, sz0_r1_q1, sz0_r2_q1, nq0_q1, O0_q1, O1_q1, O2_q1, O3_q1, O4_q1, O5_q1, st_q1⟩ := own_t_ a1 ka (0 : Int32) [] cs X0 hx hZ hw hby hml hown e0 N0 (Nat.le_trans Z0 K0.1) (by decide : 0 + 2 ≤ _) (by decide : 0 + 7 ≤ _) V_a1 S_COMPACT_STRINGS hc_q2 (by decide) (by decide)
  have S_COMPACT_STRINGS__q1 := own_sta_keep S_COMPACT_STRINGS Kq_q1 all0
  have K_q1 : Keep h0 h_q1 [] := K0.trans Kq_q1 all0
  have O4_q1l : Arv Z h_q1 r2_q1 kr2_q1 .byte (0 : Int32) [] (.int (0 : Int32)) := O4_q1
  obtain ⟨cq_q3, kq_q3, qa_q3, qb_q3, qc_q3⟩ := isOf hZ e_q1 O0_q1
  obtain ⟨_, _, ⟨T_q3, L_q3, k_q3, n_q3⟩, -, X_q3, ⟨Lc_q3, hQ_q3, l_q3, y_q3, z_q3⟩, st_q3⟩ := X_q1.virtualBack hx (y := (⟨"java/lang/StringBuilder", "toString", "()Ljava/lang/String;"⟩ : MethodName)) (z := (⟨"java/lang/StringBuilder", "toString", "()Ljava/lang/String;"⟩ : MethodName)) hown (mvT hZ (own_w hw 80 rfl)) (mvT hZ (own_w hw 81 rfl)) (notFace_of_selects (args := #[]) (mvT hZ (own_w hw 83 rfl))) (mvT hZ (own_w hw 83 rfl)) (mvT hZ (own_w hw 82 rfl)) (by decide) (backOf (W := 0) (rmTSc l Z a0 hw [] r1_q1 r2_q1 kr2_q1 (0 : Int32) [] (0 : Int32) cs h_q1 n0 (Nat.le_trans Z0 K_q1.1) O0_q1 O1_q1 O2_q1 O3_q1 O4_q1l O5_q1 S_COMPACT_STRINGS__q1 hc_q2 (by decide) (by decide)) hZ (own_w hw 84 rfl) (own_w hw 7 rfl) (by decide) (by decide)) qa_q3 qc_q3 (g := (mkF m 112 #[.val (.ref a1), .val (.ref r1_q1), .val (.ref a1), .val (.int (0 : Int32)), .val (.int (0 : Int32)), .unset, .unset] [(.ref r1_q1)])) rfl (by rw [hml]; rfl) (Steps.refl _) (argsL := []) (rest := []) (lenOf pd___Ljava_lang_String_ rfl) rfl (by show 2 * 0 + _ ≤ _; exact Nat.le_of_eq rfl) (hb hby d1_112) (fun _ _ => ⟨rfl, e_q1, (by decide : 2 + 2 ≤ _), (by decide : 7 + 16 ≤ _)⟩)
  dsimp only [Pt.U, Pt.locs, Pt.cells, Pt.slots] at X_q3 l_q3 y_q3 z_q3 st_q3 hQ_q3
  subst l_q3 y_q3 z_q3
  obtain ⟨r1_q3, r2_q3, rfl, Nq_q3, Kq_q3, sz0_r1_q3, sz0_r2_q3, O0_q3, O1_q3, O2_q3, O3_q3, O4_q3⟩ := hQ_q3
  have N_q3 := Fr.app N_q1 Nq_q3
  have sz_r1_q3 : h0.size ≤ r1_q3 := Nat.le_trans K_q1.1 sz0_r1_q3
  have sz_r2_q3 : h0.size ≤ r2_q3 := Nat.le_trans K_q1.1 sz0_r2_q3
  have K_q3 : Keep h0 T_q3.heap [] := K_q1.trans Kq_q3 all0
  have O3_q3_l : Arv Z T_q3.heap r2_q3 kr2_q1 .byte (0 : Int32) [] (.int (0 : Int32)) := O3_q3
  obtain ⟨fs, hr, hrun, hended, hW, hsame⟩ := X_q3.leave (v := some (.ref r1_q3)) (fun h => by rw [Bd.returns] at h; cases h) Bd.notSynchronized
  refine ⟨_, _, pre0 _ ?_, hrun, hended, _, _, rfl, ?_, ⟨_, rfl⟩, hW, hsame.mono (by decide) (by decide)⟩
  · show Steps p.tables e below (s₁.setTop (mkF m 0 #[.val (.ref a1), .unset, .unset, .unset, .unset, .unset, .unset] [])) _
    refine st_q1 _ ?_
    refine XS.iload X_q1.here hx rfl (hb hby d1_18) rfl ?_
    refine XS.iloadN X_q1.here hx rfl (hb hby d1_20) rfl ?_
    refine XS.icmpYes X_q1.here hx rfl (pc0 := 21) (pc' := 111) rfl (hb hby d1_21) rfl (flt (by decide : ¬ ((0 : Int32) < (0 : Int32)))).2.1 (by decide) (by decide) ?_
    show Steps p.tables e below (T_q1.setTop (mkF m 111 #[.val (.ref a1), .val (.ref r1_q1), .val (.ref a1), .val (.int (0 : Int32)), .val (.int (0 : Int32)), .unset, .unset] [])) _
    refine XS.aloadN X_q1.here hx rfl (hb hby d1_111) rfl rfl ?_
    show Steps p.tables e below (T_q1.setTop (mkF m 112 #[.val (.ref a1), .val (.ref r1_q1), .val (.ref a1), .val (.int (0 : Int32)), .val (.int (0 : Int32)), .unset, .unset] [(.ref r1_q1)])) _
    refine st_q3.trans ?_
    show Steps p.tables e below (T_q3.setTop (mkF m 115 #[.val (.ref a1), .val (.ref r1_q1), .val (.ref a1), .val (.int (0 : Int32)), .val (.int (0 : Int32)), .unset, .unset] [(.ref r1_q3)])) _
    jvm_step X_q3.here [X_q3.here.top, hx, (hb hby d1_115), X_q3.method', Bd.returns, Value.isRef, FieldType.isReference]
    first | (intro acts; rw [hr _ acts rfl rfl rfl]) | rw [hr _ _ rfl rfl rfl]
    exact Steps.refl _
  · show Q_rmEn_0_ Z a1 ha ka kh cs h0 n0 _ T_q3.heap _
    exact ⟨r1_q3, r2_q3, kr2_q1, rfl, N_q3, K_q3, sz_r1_q3, sz_r2_q3, O0_q3, O1_q3, O2_q3, O3_q3_l⟩
def Q_rmEn_1_0 (Z : State) (a1 ha : Addr) (ka kh : ClassId) (cs : Int32) (u0 : Int32) (h0 : Heap) (n0 : Nat) (v : Option Value) (h : Heap) (L : List Loc) : Prop := ∃ (r1 : Addr) (r2 : Addr) (kr2 : ClassId), v = some (.ref r1) ∧ Fr n0 L ∧ Keep h0 h [] ∧ h0.size ≤ r1 ∧ h0.size ≤ r2 ∧ Exa Z h r1 "java/lang/String" ∧ Fld Z h r1 "java/lang/String" "value" "[B" (.ref r2) ∧ Fld Z h r1 "java/lang/String" "coder" "B" (.int (0 : Int32)) ∧ Arv Z h r2 kr2 .byte (1 : Int32) [(.int (nar .byte ((own_k0 (u0 &&& (255 : Int32))).toInt8.toInt32)))] (.int (0 : Int32))
set_option maxRecDepth 65536 in
set_option maxHeartbeats 40000000 in
theorem rmEn_1_0 (l : Launch) (Z : State) (a0 : Array Value) (hw : ∀ d ∈ tables_1, d.before a0 Z = true) (ws : List Jvm.Cond) (a1 ha : Addr) (ka kh : ClassId) (cs : Int32) (u0 : Int32) (h0 : Heap) (n0 : Nat) (Z0 : n0 ≤ h0.size) (V_a1 : Arv Z h0 a1 ka .byte (1 : Int32) [(.int u0)] (.int (0 : Int32))) (S_COMPACT_STRINGS : Sta Z h0 "java/lang/String" "COMPACT_STRINGS" "Z" (.int cs)) (S_HEX_DIGITS : Sta Z h0 "com/example/presplit/presplit/escape/BinaryEscape" "HEX_DIGITS" "[C" (.ref ha)) (V_ha : Arv Z h0 ha kh .char (16 : Int32) own_hexL (.int (0 : Int32))) (hc_q2 : ¬ (cs = (0 : Int32))) (hc_q4 : own_pl (u0 &&& (255 : Int32))) (hc_q5 : ¬ ((F9_0 (own_k0 (u0 &&& (255 : Int32)))) = (0 : Int32))) :
    MetFree l (⟨"com/example/presplit/presplit/escape/BinaryEscape", "encode", "([B)Ljava/lang/String;"⟩ : MethodName) (head1 (Jvm.Cond.code (⟨"com/example/presplit/presplit/escape/BinaryEscape", "encode", "([B)Ljava/lang/String;"⟩ : MethodName) prog_1_method_2_code 7 (some (.object "java/lang/String")) :: ws) ({ frames := 9, cells := 6, slots := 70, locals := 180 } : Room)) (fun a U => a = #[(.ref a1)] ∧ Z.Warmed39 U.vm ∧ U.heap = h0) (fun _ _ _ _ _ => True) (fun _ U o U' => ∃ v L, o = .returned v ∧ Q_rmEn_1_0 Z a1 ha ka kh cs u0 h0 n0 v U'.heap L ∧ FrameEnd U o U' L ({ frames := 9, cells := 6, slots := 70, locals := 180 } : Room).cells ({ frames := 9, cells := 6, slots := 70, locals := 180 } : Room).slots) := by
  refine MetFree.of_bodySF (plainFor_of_name pn_1) hisR ?_
  intro p e s m args below meth c s₁ Bd hml0 hP hK
  obtain ⟨rfl, hZ, hh⟩ := hP
  have hx := Bd.exec
  have hby := Bd.bytes
  have hml : c.maxLocals = 7 := hml0
  have hown : s.vm.findClass "com/example/presplit/presplit/escape/BinaryEscape" = some m.cls := findClass_of_methodNamed Bd.named
  have hnm := (name_of_methodNamed Bd.named Bd.method).1
  have X0 : Stand p l e ({ frames := 9, cells := 6, slots := 70, locals := 180 } : Room) s m #[(.ref a1)] below meth c s₁ [] 0 0 := Stand.of_body Bd
  have e0 : s₁.heap = h0 := by rw [← hh, Bd.state]; rfl
  have N0 := Fr.nil n0
  have pre0 : ∀ t, Steps p.tables e below (s₁.setTop (mkF m 0 #[.val (.ref a1), .unset, .unset, .unset, .unset, .unset, .unset] [])) t → Steps p.tables e below (s₁.setTop (entryFrame m #[(.ref a1)] 7)) t := fun t k => castTop (ef_1 m a1) k
  have K0 : Keep h0 h0 [] := Keep.refl _ _
  obtain ⟨T_q1, h_q1, L_q1, r1_q1, r2_q1, kr2_q1, X_q1, e_q1, N_q1, Kq_q1, sz0_r1_q1, sz0_r2_q1, nq0_q1, O0_q1, O1_q1, O2_q1, O3_q1, O4_q1, O5_q1, st_q1⟩ := own_t_ a1 ka (1 : Int32) [(.int u0)] cs X0 hx hZ hw hby hml hown e0 N0 (Nat.le_trans Z0 K0.1) (by decide : 0 + 2 ≤ _) (by decide : 0 + 7 ≤ _) V_a1 S_COMPACT_STRINGS hc_q2 (by decide) (by decide)
  have ge_r1_q1 : n0 ≤ r1_q1 := Nat.le_trans (Nat.le_trans Z0 K0.1) sz0_r1_q1
  have sz_r1_q1 : h0.size ≤ r1_q1 := Nat.le_trans K0.1 sz0_r1_q1
  have ne_a1_r1_q1 : a1 ≠ r1_q1 := Nat.ne_of_lt (Nat.lt_of_lt_of_le V_a1.lt sz0_r1_q1)
  have ne_ha_r1_q1 : ha ≠ r1_q1 := Nat.ne_of_lt (Nat.lt_of_lt_of_le V_ha.lt sz0_r1_q1)
  have ge_r2_q1 : n0 ≤ r2_q1 := Nat.le_trans (Nat.le_trans Z0 K0.1) sz0_r2_q1
  have sz_r2_q1 : h0.size ≤ r2_q1 := Nat.le_trans K0.1 sz0_r2_q1
  have ne_a1_r2_q1 : a1 ≠ r2_q1 := Nat.ne_of_lt (Nat.lt_of_lt_of_le V_a1.lt sz0_r2_q1)
  have ne_ha_r2_q1 : ha ≠ r2_q1 := Nat.ne_of_lt (Nat.lt_of_lt_of_le V_ha.lt sz0_r2_q1)
  have V_a1__q1 := V_a1.keep Kq_q1 nin0
  have S_COMPACT_STRINGS__q1 := own_sta_keep S_COMPACT_STRINGS Kq_q1 all0
  have S_HEX_DIGITS__q1 := own_sta_keep S_HEX_DIGITS Kq_q1 all0
  have V_ha__q1 := V_ha.keep Kq_q1 nin0
  have K_q1 : Keep h0 h_q1 [] := K0.trans Kq_q1 all0
  have O4_q1l : Arv Z h_q1 r2_q1 kr2_q1 .byte (1 : Int32) [(.int (0 : Int32))] (.int (0 : Int32)) := O4_q1
  obtain ⟨T_q3, h_q3, L_q3, w1_q3, X_q3, e_q3, N_q3, Kq_q3, hw1_q3, O0_q3, O1_q3, O2_q3, O3_q3, O4_q3, st_q3⟩ := own_t0n a1 r1_q1 r2_q1 ha ka kr2_q1 kh (1 : Int32) (0 : Int32) [(.int u0)] u0 (1 : Int32) [(.int (0 : Int32))] (0 : Int32) (4 : Int32) cs (.unset) (.unset) X_q1 hx hZ hw hby hml hown e_q1 N_q1 (Nat.le_trans Z0 K_q1.1) (by decide : 2 + 0 ≤ _) (by decide : 7 + 0 ≤ _) V_a1__q1 O0_q1 O1_q1 O2_q1 O3_q1 O4_q1l O5_q1 S_COMPACT_STRINGS__q1 S_HEX_DIGITS__q1 V_ha__q1 ge_r1_q1 ge_r2_q1 nq0_q1 ne_a1_r1_q1 ne_a1_r2_q1 ne_ha_r1_q1 ne_ha_r2_q1 rfl (by decide) (by decide) rfl rfl rfl hc_q4 (by decide) hc_q2 hc_q5 (by decide)
  obtain rfl : w1_q3 = [(.int (nar .byte ((own_k0 (u0 &&& (255 : Int32))).toInt8.toInt32)))] := hw1_q3
  have S_COMPACT_STRINGS__q3 := own_sta_keep S_COMPACT_STRINGS__q1 Kq_q3 (allS (own_ns O0_q1) (allS (own_ns O5_q1) all0))
  have O0_q1__q3 := O0_q1.keep Kq_q3
  have K_q3 : Keep h0 h_q3 [] := K_q1.trans Kq_q3 (allS (Or.inr sz_r1_q1) (allS (Or.inr sz_r2_q1) all0))
  have O2_q3l : Fld Z h_q3 r1_q1 "java/lang/AbstractStringBuilder" "count" "I" (.int (1 : Int32)) := O2_q3
  obtain ⟨cq_q6, kq_q6, qa_q6, qb_q6, qc_q6⟩ := isOf hZ e_q3 O0_q1__q3
  obtain ⟨_, _, ⟨T_q6, L_q6, k_q6, n_q6⟩, -, X_q6, ⟨Lc_q6, hQ_q6, l_q6, y_q6, z_q6⟩, st_q6⟩ := X_q3.virtualBack hx (y := (⟨"java/lang/StringBuilder", "toString", "()Ljava/lang/String;"⟩ : MethodName)) (z := (⟨"java/lang/StringBuilder", "toString", "()Ljava/lang/String;"⟩ : MethodName)) hown (mvT hZ (own_w hw 80 rfl)) (mvT hZ (own_w hw 81 rfl)) (notFace_of_selects (args := #[]) (mvT hZ (own_w hw 83 rfl))) (mvT hZ (own_w hw 83 rfl)) (mvT hZ (own_w hw 82 rfl)) (by decide) (backOf (W := 0) (rmTSc l Z a0 hw [] r1_q1 r2_q1 kr2_q1 (1 : Int32) [(.int (nar .byte ((own_k0 (u0 &&& (255 : Int32))).toInt8.toInt32)))] (1 : Int32) cs h_q3 n0 (Nat.le_trans Z0 K_q3.1) O0_q1__q3 O0_q3 O1_q3 O2_q3l O3_q3 O4_q3 S_COMPACT_STRINGS__q3 hc_q2 (by decide) (by decide)) hZ (own_w hw 84 rfl) (own_w hw 7 rfl) (by decide) (by decide)) qa_q6 qc_q6 (g := (mkF m 112 #[.val (.ref a1), .val (.ref r1_q1), .val (.ref a1), .val (.int (1 : Int32)), .val (.int (1 : Int32)), .val (.int u0), .val (.int (u0 &&& (255 : Int32)))] [(.ref r1_q1)])) rfl (by rw [hml]; rfl) (Steps.refl _) (argsL := []) (rest := []) (lenOf pd___Ljava_lang_String_ rfl) rfl (by show 2 * 0 + _ ≤ _; exact Nat.le_of_eq rfl) (hb hby d1_112) (fun _ _ => ⟨rfl, e_q3, (by decide : 2 + 2 ≤ _), (by decide : 7 + 16 ≤ _)⟩)
  dsimp only [Pt.U, Pt.locs, Pt.cells, Pt.slots] at X_q6 l_q6 y_q6 z_q6 st_q6 hQ_q6
  subst l_q6 y_q6 z_q6
  obtain ⟨r1_q6, r2_q6, rfl, Nq_q6, Kq_q6, sz0_r1_q6, sz0_r2_q6, O0_q6, O1_q6, O2_q6, O3_q6, O4_q6⟩ := hQ_q6
  have N_q6 := Fr.app N_q3 Nq_q6
  have sz_r1_q6 : h0.size ≤ r1_q6 := Nat.le_trans K_q3.1 sz0_r1_q6
  have sz_r2_q6 : h0.size ≤ r2_q6 := Nat.le_trans K_q3.1 sz0_r2_q6
  have K_q6 : Keep h0 T_q6.heap [] := K_q3.trans Kq_q6 all0
  have O3_q6_l : Arv Z T_q6.heap r2_q6 kr2_q1 .byte (1 : Int32) [(.int (nar .byte ((own_k0 (u0 &&& (255 : Int32))).toInt8.toInt32)))] (.int (0 : Int32)) := O3_q6
  obtain ⟨fs, hr, hrun, hended, hW, hsame⟩ := X_q6.leave (v := some (.ref r1_q6)) (fun h => by rw [Bd.returns] at h; cases h) Bd.notSynchronized
  refine ⟨_, _, pre0 _ ?_, hrun, hended, _, _, rfl, ?_, ⟨_, rfl⟩, hW, hsame.mono (by decide) (by decide)⟩
  · show Steps p.tables e below (s₁.setTop (mkF m 0 #[.val (.ref a1), .unset, .unset, .unset, .unset, .unset, .unset] [])) _
    refine st_q1 _ ?_
    show Steps p.tables e below (T_q1.setTop (mkF m 18 #[.val (.ref a1), .val (.ref r1_q1), .val (.ref a1), .val (.int (1 : Int32)), .val (.int (0 : Int32)), .unset, .unset] [])) _
    refine st_q3 _ ?_
    refine XS.iload X_q3.here hx rfl (hb hby d1_18) rfl ?_
    refine XS.iloadN X_q3.here hx rfl (hb hby d1_20) rfl ?_
    refine XS.icmpYes X_q3.here hx rfl (pc0 := 21) (pc' := 111) rfl (hb hby d1_21) rfl (flt (by decide : ¬ ((1 : Int32) < (1 : Int32)))).2.1 (by decide) (by decide) ?_
    show Steps p.tables e below (T_q3.setTop (mkF m 111 #[.val (.ref a1), .val (.ref r1_q1), .val (.ref a1), .val (.int (1 : Int32)), .val (.int (1 : Int32)), .val (.int u0), .val (.int (u0 &&& (255 : Int32)))] [])) _
    refine XS.aloadN X_q3.here hx rfl (hb hby d1_111) rfl rfl ?_
    show Steps p.tables e below (T_q3.setTop (mkF m 112 #[.val (.ref a1), .val (.ref r1_q1), .val (.ref a1), .val (.int (1 : Int32)), .val (.int (1 : Int32)), .val (.int u0), .val (.int (u0 &&& (255 : Int32)))] [(.ref r1_q1)])) _
    refine st_q6.trans ?_
    show Steps p.tables e below (T_q6.setTop (mkF m 115 #[.val (.ref a1), .val (.ref r1_q1), .val (.ref a1), .val (.int (1 : Int32)), .val (.int (1 : Int32)), .val (.int u0), .val (.int (u0 &&& (255 : Int32)))] [(.ref r1_q6)])) _
    jvm_step X_q6.here [X_q6.here.top, hx, (hb hby d1_115), X_q6.method', Bd.returns, Value.isRef, FieldType.isReference]
    first | (intro acts; rw [hr _ acts rfl rfl rfl]) | rw [hr _ _ rfl rfl rfl]
    exact Steps.refl _
  · show Q_rmEn_1_0 Z a1 ha ka kh cs u0 h0 n0 _ T_q6.heap _
    exact ⟨r1_q6, r2_q6, kr2_q1, rfl, N_q6, K_q6, sz_r1_q6, sz_r2_q6, O0_q6, O1_q6, O2_q6, O3_q6_l⟩
def Q_rmEn_1_1 (Z : State) (a1 ha : Addr) (ka kh : ClassId) (cs : Int32) (u0 : Int32) (h0 : Heap) (n0 : Nat) (v : Option Value) (h : Heap) (L : List Loc) : Prop := ∃ (r1 : Addr) (r2 : Addr) (kr2 : ClassId), v = some (.ref r1) ∧ Fr n0 L ∧ Keep h0 h [] ∧ h0.size ≤ r1 ∧ h0.size ≤ r2 ∧ Exa Z h r1 "java/lang/String" ∧ Fld Z h r1 "java/lang/String" "value" "[B" (.ref r2) ∧ Fld Z h r1 "java/lang/String" "coder" "B" (.int (0 : Int32)) ∧ Arv Z h r2 kr2 .byte (4 : Int32) [(.int (nar .byte ((92 : Int32).toInt8.toInt32))), (.int (nar .byte ((120 : Int32).toInt8.toInt32))), (.int (nar .byte ((own_k2 (u0 &&& (255 : Int32))).toInt8.toInt32))), (.int (nar .byte ((own_k3 (u0 &&& (255 : Int32))).toInt8.toInt32)))] (.int (0 : Int32))
set_option maxRecDepth 65536 in
set_option maxHeartbeats 40000000 in
theorem rmEn_1_1 (l : Launch) (Z : State) (a0 : Array Value) (hw : ∀ d ∈ tables_1, d.before a0 Z = true) (ws : List Jvm.Cond) (a1 ha : Addr) (ka kh : ClassId) (cs : Int32) (u0 : Int32) (h0 : Heap) (n0 : Nat) (Z0 : n0 ≤ h0.size) (V_a1 : Arv Z h0 a1 ka .byte (1 : Int32) [(.int u0)] (.int (0 : Int32))) (S_COMPACT_STRINGS : Sta Z h0 "java/lang/String" "COMPACT_STRINGS" "Z" (.int cs)) (S_HEX_DIGITS : Sta Z h0 "com/example/presplit/presplit/escape/BinaryEscape" "HEX_DIGITS" "[C" (.ref ha)) (V_ha : Arv Z h0 ha kh .char (16 : Int32) own_hexL (.int (0 : Int32))) (hc_q2 : ¬ (cs = (0 : Int32))) (hc_q4 : own_esc (u0 &&& (255 : Int32))) (hc_q5 : ¬ (((u0 &&& (255 : Int32)).toUInt32 >>> ((4 : Int32) &&& 31).toUInt32).toInt32) < 0 ∧ (((u0 &&& (255 : Int32)).toUInt32 >>> ((4 : Int32) &&& 31).toUInt32).toInt32) < (16 : Int32)) (hc_q6 : ¬ ((F9_0 (own_k2 (u0 &&& (255 : Int32)))) = (0 : Int32))) (hc_q7 : ¬ ((u0 &&& (255 : Int32)) &&& (15 : Int32)) < 0 ∧ ((u0 &&& (255 : Int32)) &&& (15 : Int32)) < (16 : Int32)) (hc_q8 : ¬ ((F9_0 (own_k3 (u0 &&& (255 : Int32)))) = (0 : Int32))) :
    MetFree l (⟨"com/example/presplit/presplit/escape/BinaryEscape", "encode", "([B)Ljava/lang/String;"⟩ : MethodName) (head1 (Jvm.Cond.code (⟨"com/example/presplit/presplit/escape/BinaryEscape", "encode", "([B)Ljava/lang/String;"⟩ : MethodName) prog_1_method_2_code 7 (some (.object "java/lang/String")) :: ws) ({ frames := 9, cells := 6, slots := 70, locals := 180 } : Room)) (fun a U => a = #[(.ref a1)] ∧ Z.Warmed39 U.vm ∧ U.heap = h0) (fun _ _ _ _ _ => True) (fun _ U o U' => ∃ v L, o = .returned v ∧ Q_rmEn_1_1 Z a1 ha ka kh cs u0 h0 n0 v U'.heap L ∧ FrameEnd U o U' L ({ frames := 9, cells := 6, slots := 70, locals := 180 } : Room).cells ({ frames := 9, cells := 6, slots := 70, locals := 180 } : Room).slots) := by
  refine MetFree.of_bodySF (plainFor_of_name pn_1) hisR ?_
  intro p e s m args below meth c s₁ Bd hml0 hP hK
  obtain ⟨rfl, hZ, hh⟩ := hP
  have hx := Bd.exec
  have hby := Bd.bytes
  have hml : c.maxLocals = 7 := hml0
  have hown : s.vm.findClass "com/example/presplit/presplit/escape/BinaryEscape" = some m.cls := findClass_of_methodNamed Bd.named
  have hnm := (name_of_methodNamed Bd.named Bd.method).1
  have X0 : Stand p l e ({ frames := 9, cells := 6, slots := 70, locals := 180 } : Room) s m #[(.ref a1)] below meth c s₁ [] 0 0 := Stand.of_body Bd
  have e0 : s₁.heap = h0 := by rw [← hh, Bd.state]; rfl
  have N0 := Fr.nil n0
  have pre0 : ∀ t, Steps p.tables e below (s₁.setTop (mkF m 0 #[.val (.ref a1), .unset, .unset, .unset, .unset, .unset, .unset] [])) t → Steps p.tables e below (s₁.setTop (entryFrame m #[(.ref a1)] 7)) t := fun t k => castTop (ef_1 m a1) k
  have K0 : Keep h0 h0 [] := Keep.refl _ _
  obtain ⟨T_q1, h_q1, L_q1, r1_q1, r2_q1, kr2_q1, X_q1, e_q1, N_q1, Kq_q1, sz0_r1_q1, sz0_r2_q1, nq0_q1, O0_q1, O1_q1, O2_q1, O3_q1, O4_q1, O5_q1, st_q1⟩ := own_t_ a1 ka (1 : Int32) [(.int u0)] cs X0 hx hZ hw hby hml hown e0 N0 (Nat.le_trans Z0 K0.1) (by decide : 0 + 2 ≤ _) (by decide : 0 + 7 ≤ _) V_a1 S_COMPACT_STRINGS hc_q2 (by decide) (by decide)
  have ge_r1_q1 : n0 ≤ r1_q1 := Nat.le_trans (Nat.le_trans Z0 K0.1) sz0_r1_q1
  have sz_r1_q1 : h0.size ≤ r1_q1 := Nat.le_trans K0.1 sz0_r1_q1
  have ne_a1_r1_q1 : a1 ≠ r1_q1 := Nat.ne_of_lt (Nat.lt_of_lt_of_le V_a1.lt sz0_r1_q1)
  have ne_ha_r1_q1 : ha ≠ r1_q1 := Nat.ne_of_lt (Nat.lt_of_lt_of_le V_ha.lt sz0_r1_q1)
  have ge_r2_q1 : n0 ≤ r2_q1 := Nat.le_trans (Nat.le_trans Z0 K0.1) sz0_r2_q1
  have sz_r2_q1 : h0.size ≤ r2_q1 := Nat.le_trans K0.1 sz0_r2_q1
  have ne_a1_r2_q1 : a1 ≠ r2_q1 := Nat.ne_of_lt (Nat.lt_of_lt_of_le V_a1.lt sz0_r2_q1)
  have ne_ha_r2_q1 : ha ≠ r2_q1 := Nat.ne_of_lt (Nat.lt_of_lt_of_le V_ha.lt sz0_r2_q1)
  have V_a1__q1 := V_a1.keep Kq_q1 nin0
  have S_COMPACT_STRINGS__q1 := own_sta_keep S_COMPACT_STRINGS Kq_q1 all0
  have S_HEX_DIGITS__q1 := own_sta_keep S_HEX_DIGITS Kq_q1 all0
  have V_ha__q1 := V_ha.keep Kq_q1 nin0
  have K_q1 : Keep h0 h_q1 [] := K0.trans Kq_q1 all0
  have O4_q1l : Arv Z h_q1 r2_q1 kr2_q1 .byte (1 : Int32) [(.int (0 : Int32))] (.int (0 : Int32)) := O4_q1
  obtain ⟨T_q3, h_q3, L_q3, r1_q3, kr1_q3, w1_q3, w2_q3, w3_q3, w4_q3, X_q3, e_q3, N_q3, Kq_q3, sz0_r1_q3, hw1_q3, hw2_q3, hw3_q3, hw4_q3, O0_q3, O1_q3, O2_q3, O3_q3, O4_q3, st_q3⟩ := own_t11 a1 r1_q1 r2_q1 ha ka kr2_q1 kh (1 : Int32) (0 : Int32) [(.int u0)] u0 (1 : Int32) [(.int (0 : Int32))] (0 : Int32) (4 : Int32) cs (.unset) (.unset) X_q1 hx hZ hw hby hml hown e_q1 N_q1 (Nat.le_trans Z0 K_q1.1) (by decide : 2 + 1 ≤ _) (by decide : 7 + 18 ≤ _) V_a1__q1 O0_q1 O1_q1 O2_q1 O3_q1 O4_q1l O5_q1 S_COMPACT_STRINGS__q1 S_HEX_DIGITS__q1 V_ha__q1 ge_r1_q1 ge_r2_q1 nq0_q1 ne_a1_r1_q1 ne_a1_r2_q1 ne_ha_r1_q1 ne_ha_r2_q1 rfl (by decide) (by decide) rfl rfl rfl hc_q4 (by decide) hc_q2 (by decide) (by decide) (by decide) (by decide) (by decide) (by decide) (by decide) (by decide) (by decide) (by decide) (by decide) (by decide) (by decide) hc_q5 (by decide) hc_q6 (by decide) hc_q7 (by decide) hc_q8 (by decide)
  obtain rfl : w1_q3 = [(.int (nar .byte ((92 : Int32).toInt8.toInt32)))] := hw1_q3
  obtain rfl : w2_q3 = [(.int (nar .byte ((92 : Int32).toInt8.toInt32))), (.int (nar .byte ((120 : Int32).toInt8.toInt32))), (.int (0 : Int32)), (.int (0 : Int32))] := hw2_q3
  obtain rfl : w3_q3 = [(.int (nar .byte ((92 : Int32).toInt8.toInt32))), (.int (nar .byte ((120 : Int32).toInt8.toInt32))), (.int (nar .byte ((own_k2 (u0 &&& (255 : Int32))).toInt8.toInt32))), (.int (0 : Int32))] := hw3_q3
  obtain rfl : w4_q3 = [(.int (nar .byte ((92 : Int32).toInt8.toInt32))), (.int (nar .byte ((120 : Int32).toInt8.toInt32))), (.int (nar .byte ((own_k2 (u0 &&& (255 : Int32))).toInt8.toInt32))), (.int (nar .byte ((own_k3 (u0 &&& (255 : Int32))).toInt8.toInt32)))] := hw4_q3
  have S_COMPACT_STRINGS__q3 := own_sta_keep S_COMPACT_STRINGS__q1 Kq_q3 (allS (own_ns O0_q1) (allS (own_ns O5_q1) all0))
  have O0_q1__q3 := O0_q1.keep Kq_q3
  have K_q3 : Keep h0 h_q3 [] := K_q1.trans Kq_q3 (allS (Or.inr sz_r1_q1) (allS (Or.inr sz_r2_q1) all0))
  have O2_q3l : Fld Z h_q3 r1_q1 "java/lang/AbstractStringBuilder" "count" "I" (.int (4 : Int32)) := O2_q3
  obtain ⟨cq_q9, kq_q9, qa_q9, qb_q9, qc_q9⟩ := isOf hZ e_q3 O0_q1__q3
  obtain ⟨_, _, ⟨T_q9, L_q9, k_q9, n_q9⟩, -, X_q9, ⟨Lc_q9, hQ_q9, l_q9, y_q9, z_q9⟩, st_q9⟩ := X_q3.virtualBack hx (y := (⟨"java/lang/StringBuilder", "toString", "()Ljava/lang/String;"⟩ : MethodName)) (z := (⟨"java/lang/StringBuilder", "toString", "()Ljava/lang/String;"⟩ : MethodName)) hown (mvT hZ (own_w hw 80 rfl)) (mvT hZ (own_w hw 81 rfl)) (notFace_of_selects (args := #[]) (mvT hZ (own_w hw 83 rfl))) (mvT hZ (own_w hw 83 rfl)) (mvT hZ (own_w hw 82 rfl)) (by decide) (backOf (W := 0) (rmTSc l Z a0 hw [] r1_q1 r1_q3 kr1_q3 (4 : Int32) [(.int (nar .byte ((92 : Int32).toInt8.toInt32))), (.int (nar .byte ((120 : Int32).toInt8.toInt32))), (.int (nar .byte ((own_k2 (u0 &&& (255 : Int32))).toInt8.toInt32))), (.int (nar .byte ((own_k3 (u0 &&& (255 : Int32))).toInt8.toInt32)))] (4 : Int32) cs h_q3 n0 (Nat.le_trans Z0 K_q3.1) O0_q1__q3 O0_q3 O1_q3 O2_q3l O3_q3 O4_q3 S_COMPACT_STRINGS__q3 hc_q2 (by decide) (by decide)) hZ (own_w hw 84 rfl) (own_w hw 7 rfl) (by decide) (by decide)) qa_q9 qc_q9 (g := (mkF m 112 #[.val (.ref a1), .val (.ref r1_q1), .val (.ref a1), .val (.int (1 : Int32)), .val (.int (1 : Int32)), .val (.int u0), .val (.int (u0 &&& (255 : Int32)))] [(.ref r1_q1)])) rfl (by rw [hml]; rfl) (Steps.refl _) (argsL := []) (rest := []) (lenOf pd___Ljava_lang_String_ rfl) rfl (by show 2 * 0 + _ ≤ _; exact Nat.le_of_eq rfl) (hb hby d1_112) (fun _ _ => ⟨rfl, e_q3, (by decide : 3 + 2 ≤ _), (by decide : 25 + 16 ≤ _)⟩)
  dsimp only [Pt.U, Pt.locs, Pt.cells, Pt.slots] at X_q9 l_q9 y_q9 z_q9 st_q9 hQ_q9
  subst l_q9 y_q9 z_q9
  obtain ⟨r1_q9, r2_q9, rfl, Nq_q9, Kq_q9, sz0_r1_q9, sz0_r2_q9, O0_q9, O1_q9, O2_q9, O3_q9, O4_q9⟩ := hQ_q9
  have N_q9 := Fr.app N_q3 Nq_q9
  have sz_r1_q9 : h0.size ≤ r1_q9 := Nat.le_trans K_q3.1 sz0_r1_q9
  have sz_r2_q9 : h0.size ≤ r2_q9 := Nat.le_trans K_q3.1 sz0_r2_q9
  have K_q9 : Keep h0 T_q9.heap [] := K_q3.trans Kq_q9 all0
  have O3_q9_l : Arv Z T_q9.heap r2_q9 kr1_q3 .byte (4 : Int32) [(.int (nar .byte ((92 : Int32).toInt8.toInt32))), (.int (nar .byte ((120 : Int32).toInt8.toInt32))), (.int (nar .byte ((own_k2 (u0 &&& (255 : Int32))).toInt8.toInt32))), (.int (nar .byte ((own_k3 (u0 &&& (255 : Int32))).toInt8.toInt32)))] (.int (0 : Int32)) := O3_q9
  obtain ⟨fs, hr, hrun, hended, hW, hsame⟩ := X_q9.leave (v := some (.ref r1_q9)) (fun h => by rw [Bd.returns] at h; cases h) Bd.notSynchronized
  refine ⟨_, _, pre0 _ ?_, hrun, hended, _, _, rfl, ?_, ⟨_, rfl⟩, hW, hsame.mono (by decide) (by decide)⟩
  · show Steps p.tables e below (s₁.setTop (mkF m 0 #[.val (.ref a1), .unset, .unset, .unset, .unset, .unset, .unset] [])) _
    refine st_q1 _ ?_
    show Steps p.tables e below (T_q1.setTop (mkF m 18 #[.val (.ref a1), .val (.ref r1_q1), .val (.ref a1), .val (.int (1 : Int32)), .val (.int (0 : Int32)), .unset, .unset] [])) _
    refine st_q3 _ ?_
    refine XS.iload X_q3.here hx rfl (hb hby d1_18) rfl ?_
    refine XS.iloadN X_q3.here hx rfl (hb hby d1_20) rfl ?_
    refine XS.icmpYes X_q3.here hx rfl (pc0 := 21) (pc' := 111) rfl (hb hby d1_21) rfl (flt (by decide : ¬ ((1 : Int32) < (1 : Int32)))).2.1 (by decide) (by decide) ?_
    show Steps p.tables e below (T_q3.setTop (mkF m 111 #[.val (.ref a1), .val (.ref r1_q1), .val (.ref a1), .val (.int (1 : Int32)), .val (.int (1 : Int32)), .val (.int u0), .val (.int (u0 &&& (255 : Int32)))] [])) _
    refine XS.aloadN X_q3.here hx rfl (hb hby d1_111) rfl rfl ?_
    show Steps p.tables e below (T_q3.setTop (mkF m 112 #[.val (.ref a1), .val (.ref r1_q1), .val (.ref a1), .val (.int (1 : Int32)), .val (.int (1 : Int32)), .val (.int u0), .val (.int (u0 &&& (255 : Int32)))] [(.ref r1_q1)])) _
    refine st_q9.trans ?_
    show Steps p.tables e below (T_q9.setTop (mkF m 115 #[.val (.ref a1), .val (.ref r1_q1), .val (.ref a1), .val (.int (1 : Int32)), .val (.int (1 : Int32)), .val (.int u0), .val (.int (u0 &&& (255 : Int32)))] [(.ref r1_q9)])) _
    jvm_step X_q9.here [X_q9.here.top, hx, (hb hby d1_115), X_q9.method', Bd.returns, Value.isRef, FieldType.isReference]
    first | (intro acts; rw [hr _ acts rfl rfl rfl]) | rw [hr _ _ rfl rfl rfl]
    exact Steps.refl _
  · show Q_rmEn_1_1 Z a1 ha ka kh cs u0 h0 n0 _ T_q9.heap _
    exact ⟨r1_q9, r2_q9, kr1_q3, rfl, N_q9, K_q9, sz_r1_q9, sz_r2_q9, O0_q9, O1_q9, O2_q9, O3_q9_l⟩
def Q_rmEn_2_00 (Z : State) (a1 ha : Addr) (ka kh : ClassId) (cs : Int32) (u0 : Int32) (u1 : Int32) (h0 : Heap) (n0 : Nat) (v : Option Value) (h : Heap) (L : List Loc) : Prop := ∃ (r1 : Addr) (r2 : Addr) (kr2 : ClassId), v = some (.ref r1) ∧ Fr n0 L ∧ Keep h0 h [] ∧ h0.size ≤ r1 ∧ h0.size ≤ r2 ∧ Exa Z h r1 "java/lang/String" ∧ Fld Z h r1 "java/lang/String" "value" "[B" (.ref r2) ∧ Fld Z h r1 "java/lang/String" "coder" "B" (.int (0 : Int32)) ∧ Arv Z h r2 kr2 .byte (2 : Int32) [(.int (nar .byte ((own_k0 (u0 &&& (255 : Int32))).toInt8.toInt32))), (.int (nar .byte ((own_k0 (u1 &&& (255 : Int32))).toInt8.toInt32)))] (.int (0 : Int32))
set_option maxRecDepth 65536 in
set_option maxHeartbeats 40000000 in
theorem rmEn_2_00 (l : Launch) (Z : State) (a0 : Array Value) (hw : ∀ d ∈ tables_1, d.before a0 Z = true) (ws : List Jvm.Cond) (a1 ha : Addr) (ka kh : ClassId) (cs : Int32) (u0 : Int32) (u1 : Int32) (h0 : Heap) (n0 : Nat) (Z0 : n0 ≤ h0.size) (V_a1 : Arv Z h0 a1 ka .byte (2 : Int32) [(.int u0), (.int u1)] (.int (0 : Int32))) (S_COMPACT_STRINGS : Sta Z h0 "java/lang/String" "COMPACT_STRINGS" "Z" (.int cs)) (S_HEX_DIGITS : Sta Z h0 "com/example/presplit/presplit/escape/BinaryEscape" "HEX_DIGITS" "[C" (.ref ha)) (V_ha : Arv Z h0 ha kh .char (16 : Int32) own_hexL (.int (0 : Int32))) (hc_q2 : ¬ (cs = (0 : Int32))) (hc_q4 : own_pl (u0 &&& (255 : Int32))) (hc_q5 : ¬ ((F9_0 (own_k0 (u0 &&& (255 : Int32)))) = (0 : Int32))) (hc_q7 : own_pl (u1 &&& (255 : Int32))) (hc_q8 : ¬ ((F9_0 (own_k0 (u1 &&& (255 : Int32)))) = (0 : Int32))) :
    MetFree l (⟨"com/example/presplit/presplit/escape/BinaryEscape", "encode", "([B)Ljava/lang/String;"⟩ : MethodName) (head1 (Jvm.Cond.code (⟨"com/example/presplit/presplit/escape/BinaryEscape", "encode", "([B)Ljava/lang/String;"⟩ : MethodName) prog_1_method_2_code 7 (some (.object "java/lang/String")) :: ws) ({ frames := 9, cells := 6, slots := 70, locals := 180 } : Room)) (fun a U => a = #[(.ref a1)] ∧ Z.Warmed39 U.vm ∧ U.heap = h0) (fun _ _ _ _ _ => True) (fun _ U o U' => ∃ v L, o = .returned v ∧ Q_rmEn_2_00 Z a1 ha ka kh cs u0 u1 h0 n0 v U'.heap L ∧ FrameEnd U o U' L ({ frames := 9, cells := 6, slots := 70, locals := 180 } : Room).cells ({ frames := 9, cells := 6, slots := 70, locals := 180 } : Room).slots) := by
  refine MetFree.of_bodySF (plainFor_of_name pn_1) hisR ?_
  intro p e s m args below meth c s₁ Bd hml0 hP hK
  obtain ⟨rfl, hZ, hh⟩ := hP
  have hx := Bd.exec
  have hby := Bd.bytes
  have hml : c.maxLocals = 7 := hml0
  have hown : s.vm.findClass "com/example/presplit/presplit/escape/BinaryEscape" = some m.cls := findClass_of_methodNamed Bd.named
  have hnm := (name_of_methodNamed Bd.named Bd.method).1
  have X0 : Stand p l e ({ frames := 9, cells := 6, slots := 70, locals := 180 } : Room) s m #[(.ref a1)] below meth c s₁ [] 0 0 := Stand.of_body Bd
  have e0 : s₁.heap = h0 := by rw [← hh, Bd.state]; rfl
  have N0 := Fr.nil n0
  have pre0 : ∀ t, Steps p.tables e below (s₁.setTop (mkF m 0 #[.val (.ref a1), .unset, .unset, .unset, .unset, .unset, .unset] [])) t → Steps p.tables e below (s₁.setTop (entryFrame m #[(.ref a1)] 7)) t := fun t k => castTop (ef_1 m a1) k
  have K0 : Keep h0 h0 [] := Keep.refl _ _
  obtain ⟨T_q1, h_q1, L_q1, r1_q1, r2_q1, kr2_q1, X_q1, e_q1, N_q1, Kq_q1, sz0_r1_q1, sz0_r2_q1, nq0_q1, O0_q1, O1_q1, O2_q1, O3_q1, O4_q1, O5_q1, st_q1⟩ := own_t_ a1 ka (2 : Int32) [(.int u0), (.int u1)] cs X0 hx hZ hw hby hml hown e0 N0 (Nat.le_trans Z0 K0.1) (by decide : 0 + 2 ≤ _) (by decide : 0 + 7 ≤ _) V_a1 S_COMPACT_STRINGS hc_q2 (by decide) (by decide)
  have ge_r1_q1 : n0 ≤ r1_q1 := Nat.le_trans (Nat.le_trans Z0 K0.1) sz0_r1_q1
  have sz_r1_q1 : h0.size ≤ r1_q1 := Nat.le_trans K0.1 sz0_r1_q1
  have ne_a1_r1_q1 : a1 ≠ r1_q1 := Nat.ne_of_lt (Nat.lt_of_lt_of_le V_a1.lt sz0_r1_q1)
  have ne_ha_r1_q1 : ha ≠ r1_q1 := Nat.ne_of_lt (Nat.lt_of_lt_of_le V_ha.lt sz0_r1_q1)
  have ge_r2_q1 : n0 ≤ r2_q1 := Nat.le_trans (Nat.le_trans Z0 K0.1) sz0_r2_q1
  have sz_r2_q1 : h0.size ≤ r2_q1 := Nat.le_trans K0.1 sz0_r2_q1
  have ne_a1_r2_q1 : a1 ≠ r2_q1 := Nat.ne_of_lt (Nat.lt_of_lt_of_le V_a1.lt sz0_r2_q1)
  have ne_ha_r2_q1 : ha ≠ r2_q1 := Nat.ne_of_lt (Nat.lt_of_lt_of_le V_ha.lt sz0_r2_q1)
  have V_a1__q1 := V_a1.keep Kq_q1 nin0
  have S_COMPACT_STRINGS__q1 := own_sta_keep S_COMPACT_STRINGS Kq_q1 all0
  have S_HEX_DIGITS__q1 := own_sta_keep S_HEX_DIGITS Kq_q1 all0
  have V_ha__q1 := V_ha.keep Kq_q1 nin0
  have K_q1 : Keep h0 h_q1 [] := K0.trans Kq_q1 all0
  have O4_q1l : Arv Z h_q1 r2_q1 kr2_q1 .byte (2 : Int32) [(.int (0 : Int32)), (.int (0 : Int32))] (.int (0 : Int32)) := O4_q1
  obtain ⟨T_q3, h_q3, L_q3, w1_q3, X_q3, e_q3, N_q3, Kq_q3, hw1_q3, O0_q3, O1_q3, O2_q3, O3_q3, O4_q3, st_q3⟩ := own_t0n a1 r1_q1 r2_q1 ha ka kr2_q1 kh (2 : Int32) (0 : Int32) [(.int u0), (.int u1)] u0 (2 : Int32) [(.int (0 : Int32)), (.int (0 : Int32))] (0 : Int32) (6 : Int32) cs (.unset) (.unset) X_q1 hx hZ hw hby hml hown e_q1 N_q1 (Nat.le_trans Z0 K_q1.1) (by decide : 2 + 0 ≤ _) (by decide : 7 + 0 ≤ _) V_a1__q1 O0_q1 O1_q1 O2_q1 O3_q1 O4_q1l O5_q1 S_COMPACT_STRINGS__q1 S_HEX_DIGITS__q1 V_ha__q1 ge_r1_q1 ge_r2_q1 nq0_q1 ne_a1_r1_q1 ne_a1_r2_q1 ne_ha_r1_q1 ne_ha_r2_q1 rfl (by decide) (by decide) rfl rfl rfl hc_q4 (by decide) hc_q2 hc_q5 (by decide)
  obtain rfl : w1_q3 = [(.int (nar .byte ((own_k0 (u0 &&& (255 : Int32))).toInt8.toInt32))), (.int (0 : Int32))] := hw1_q3
  have V_a1__q3 := V_a1__q1.keep Kq_q3 (ninS ne_a1_r1_q1 (ninS ne_a1_r2_q1 nin0))
  have S_COMPACT_STRINGS__q3 := own_sta_keep S_COMPACT_STRINGS__q1 Kq_q3 (allS (own_ns O0_q1) (allS (own_ns O5_q1) all0))
  have S_HEX_DIGITS__q3 := own_sta_keep S_HEX_DIGITS__q1 Kq_q3 (allS (own_ns O0_q1) (allS (own_ns O5_q1) all0))
  have V_ha__q3 := V_ha__q1.keep Kq_q3 (ninS ne_ha_r1_q1 (ninS ne_ha_r2_q1 nin0))
  have O0_q1__q3 := O0_q1.keep Kq_q3
  have K_q3 : Keep h0 h_q3 [] := K_q1.trans Kq_q3 (allS (Or.inr sz_r1_q1) (allS (Or.inr sz_r2_q1) all0))
  have O2_q3l : Fld Z h_q3 r1_q1 "java/lang/AbstractStringBuilder" "count" "I" (.int (1 : Int32)) := O2_q3
  obtain ⟨T_q6, h_q6, L_q6, w1_q6, X_q6, e_q6, N_q6, Kq_q6, hw1_q6, O0_q6, O1_q6, O2_q6, O3_q6, O4_q6, st_q6⟩ := own_t0n a1 r1_q1 r2_q1 ha ka kr2_q1 kh (2 : Int32) (1 : Int32) [(.int u0), (.int u1)] u1 (2 : Int32) [(.int (nar .byte ((own_k0 (u0 &&& (255 : Int32))).toInt8.toInt32))), (.int (0 : Int32))] (1 : Int32) (6 : Int32) cs (.val (.int u0)) (.val (.int (u0 &&& (255 : Int32)))) X_q3 hx hZ hw hby hml hown e_q3 N_q3 (Nat.le_trans Z0 K_q3.1) (by decide : 2 + 0 ≤ _) (by decide : 7 + 0 ≤ _) V_a1__q3 O0_q1__q3 O0_q3 O1_q3 O2_q3l O3_q3 O4_q3 S_COMPACT_STRINGS__q3 S_HEX_DIGITS__q3 V_ha__q3 ge_r1_q1 ge_r2_q1 nq0_q1 ne_a1_r1_q1 ne_a1_r2_q1 ne_ha_r1_q1 ne_ha_r2_q1 rfl (by decide) (by decide) rfl rfl rfl hc_q7 (by decide) hc_q2 hc_q8 (by decide)
  obtain rfl : w1_q6 = [(.int (nar .byte ((own_k0 (u0 &&& (255 : Int32))).toInt8.toInt32))), (.int (nar .byte ((own_k0 (u1 &&& (255 : Int32))).toInt8.toInt32)))] := hw1_q6
  have S_COMPACT_STRINGS__q6 := own_sta_keep S_COMPACT_STRINGS__q3 Kq_q6 (allS (own_ns O0_q1__q3) (allS (own_ns O4_q3) all0))
  have O0_q1__q6 := O0_q1__q3.keep Kq_q6
  have K_q6 : Keep h0 h_q6 [] := K_q3.trans Kq_q6 (allS (Or.inr sz_r1_q1) (allS (Or.inr sz_r2_q1) all0))
  have O2_q6l : Fld Z h_q6 r1_q1 "java/lang/AbstractStringBuilder" "count" "I" (.int (2 : Int32)) := O2_q6
  obtain ⟨cq_q9, kq_q9, qa_q9, qb_q9, qc_q9⟩ := isOf hZ e_q6 O0_q1__q6
  obtain ⟨_, _, ⟨T_q9, L_q9, k_q9, n_q9⟩, -, X_q9, ⟨Lc_q9, hQ_q9, l_q9, y_q9, z_q9⟩, st_q9⟩ := X_q6.virtualBack hx (y := (⟨"java/lang/StringBuilder", "toString", "()Ljava/lang/String;"⟩ : MethodName)) (z := (⟨"java/lang/StringBuilder", "toString", "()Ljava/lang/String;"⟩ : MethodName)) hown (mvT hZ (own_w hw 80 rfl)) (mvT hZ (own_w hw 81 rfl)) (notFace_of_selects (args := #[]) (mvT hZ (own_w hw 83 rfl))) (mvT hZ (own_w hw 83 rfl)) (mvT hZ (own_w hw 82 rfl)) (by decide) (backOf (W := 0) (rmTSc l Z a0 hw [] r1_q1 r2_q1 kr2_q1 (2 : Int32) [(.int (nar .byte ((own_k0 (u0 &&& (255 : Int32))).toInt8.toInt32))), (.int (nar .byte ((own_k0 (u1 &&& (255 : Int32))).toInt8.toInt32)))] (2 : Int32) cs h_q6 n0 (Nat.le_trans Z0 K_q6.1) O0_q1__q6 O0_q6 O1_q6 O2_q6l O3_q6 O4_q6 S_COMPACT_STRINGS__q6 hc_q2 (by decide) (by decide)) hZ (own_w hw 84 rfl) (own_w hw 7 rfl) (by decide) (by decide)) qa_q9 qc_q9 (g := (mkF m 112 #[.val (.ref a1), .val (.ref r1_q1), .val (.ref a1), .val (.int (2 : Int32)), .val (.int (2 : Int32)), .val (.int u1), .val (.int (u1 &&& (255 : Int32)))] [(.ref r1_q1)])) rfl (by rw [hml]; rfl) (Steps.refl _) (argsL := []) (rest := []) (lenOf pd___Ljava_lang_String_ rfl) rfl (by show 2 * 0 + _ ≤ _; exact Nat.le_of_eq rfl) (hb hby d1_112) (fun _ _ => ⟨rfl, e_q6, (by decide : 2 + 2 ≤ _), (by decide : 7 + 16 ≤ _)⟩)
  dsimp only [Pt.U, Pt.locs, Pt.cells, Pt.slots] at X_q9 l_q9 y_q9 z_q9 st_q9 hQ_q9
  subst l_q9 y_q9 z_q9
  obtain ⟨r1_q9, r2_q9, rfl, Nq_q9, Kq_q9, sz0_r1_q9, sz0_r2_q9, O0_q9, O1_q9, O2_q9, O3_q9, O4_q9⟩ := hQ_q9
  have N_q9 := Fr.app N_q6 Nq_q9
  have sz_r1_q9 : h0.size ≤ r1_q9 := Nat.le_trans K_q6.1 sz0_r1_q9
  have sz_r2_q9 : h0.size ≤ r2_q9 := Nat.le_trans K_q6.1 sz0_r2_q9
  have K_q9 : Keep h0 T_q9.heap [] := K_q6.trans Kq_q9 all0
  have O3_q9_l : Arv Z T_q9.heap r2_q9 kr2_q1 .byte (2 : Int32) [(.int (nar .byte ((own_k0 (u0 &&& (255 : Int32))).toInt8.toInt32))), (.int (nar .byte ((own_k0 (u1 &&& (255 : Int32))).toInt8.toInt32)))] (.int (0 : Int32)) := O3_q9
  obtain ⟨fs, hr, hrun, hended, hW, hsame⟩ := X_q9.leave (v := some (.ref r1_q9)) (fun h => by rw [Bd.returns] at h; cases h) Bd.notSynchronized
  refine ⟨_, _, pre0 _ ?_, hrun, hended, _, _, rfl, ?_, ⟨_, rfl⟩, hW, hsame.mono (by decide) (by decide)⟩
  · show Steps p.tables e below (s₁.setTop (mkF m 0 #[.val (.ref a1), .unset, .unset, .unset, .unset, .unset, .unset] [])) _
    refine st_q1 _ ?_
    show Steps p.tables e below (T_q1.setTop (mkF m 18 #[.val (.ref a1), .val (.ref r1_q1), .val (.ref a1), .val (.int (2 : Int32)), .val (.int (0 : Int32)), .unset, .unset] [])) _
    refine st_q3 _ ?_
    show Steps p.tables e below (T_q3.setTop (mkF m 18 #[.val (.ref a1), .val (.ref r1_q1), .val (.ref a1), .val (.int (2 : Int32)), .val (.int (1 : Int32)), .val (.int u0), .val (.int (u0 &&& (255 : Int32)))] [])) _
    refine st_q6 _ ?_
    refine XS.iload X_q6.here hx rfl (hb hby d1_18) rfl ?_
    refine XS.iloadN X_q6.here hx rfl (hb hby d1_20) rfl ?_
    refine XS.icmpYes X_q6.here hx rfl (pc0 := 21) (pc' := 111) rfl (hb hby d1_21) rfl (flt (by decide : ¬ ((2 : Int32) < (2 : Int32)))).2.1 (by decide) (by decide) ?_
    show Steps p.tables e below (T_q6.setTop (mkF m 111 #[.val (.ref a1), .val (.ref r1_q1), .val (.ref a1), .val (.int (2 : Int32)), .val (.int (2 : Int32)), .val (.int u1), .val (.int (u1 &&& (255 : Int32)))] [])) _
    refine XS.aloadN X_q6.here hx rfl (hb hby d1_111) rfl rfl ?_
    show Steps p.tables e below (T_q6.setTop (mkF m 112 #[.val (.ref a1), .val (.ref r1_q1), .val (.ref a1), .val (.int (2 : Int32)), .val (.int (2 : Int32)), .val (.int u1), .val (.int (u1 &&& (255 : Int32)))] [(.ref r1_q1)])) _
    refine st_q9.trans ?_
    show Steps p.tables e below (T_q9.setTop (mkF m 115 #[.val (.ref a1), .val (.ref r1_q1), .val (.ref a1), .val (.int (2 : Int32)), .val (.int (2 : Int32)), .val (.int u1), .val (.int (u1 &&& (255 : Int32)))] [(.ref r1_q9)])) _
    jvm_step X_q9.here [X_q9.here.top, hx, (hb hby d1_115), X_q9.method', Bd.returns, Value.isRef, FieldType.isReference]
    first | (intro acts; rw [hr _ acts rfl rfl rfl]) | rw [hr _ _ rfl rfl rfl]
    exact Steps.refl _
  · show Q_rmEn_2_00 Z a1 ha ka kh cs u0 u1 h0 n0 _ T_q9.heap _
    exact ⟨r1_q9, r2_q9, kr2_q1, rfl, N_q9, K_q9, sz_r1_q9, sz_r2_q9, O0_q9, O1_q9, O2_q9, O3_q9_l⟩
def Q_rmEn_2_01 (Z : State) (a1 ha : Addr) (ka kh : ClassId) (cs : Int32) (u0 : Int32) (u1 : Int32) (h0 : Heap) (n0 : Nat) (v : Option Value) (h : Heap) (L : List Loc) : Prop := ∃ (r1 : Addr) (r2 : Addr) (kr2 : ClassId), v = some (.ref r1) ∧ Fr n0 L ∧ Keep h0 h [] ∧ h0.size ≤ r1 ∧ h0.size ≤ r2 ∧ Exa Z h r1 "java/lang/String" ∧ Fld Z h r1 "java/lang/String" "value" "[B" (.ref r2) ∧ Fld Z h r1 "java/lang/String" "coder" "B" (.int (0 : Int32)) ∧ Arv Z h r2 kr2 .byte (5 : Int32) [(.int (nar .byte ((own_k0 (u0 &&& (255 : Int32))).toInt8.toInt32))), (.int (nar .byte ((92 : Int32).toInt8.toInt32))), (.int (nar .byte ((120 : Int32).toInt8.toInt32))), (.int (nar .byte ((own_k2 (u1 &&& (255 : Int32))).toInt8.toInt32))), (.int (nar .byte ((own_k3 (u1 &&& (255 : Int32))).toInt8.toInt32)))] (.int (0 : Int32))
set_option maxRecDepth 65536 in
set_option maxHeartbeats 40000000 in
theorem rmEn_2_01 (l : Launch) (Z : State) (a0 : Array Value) (hw : ∀ d ∈ tables_1, d.before a0 Z = true) (ws : List Jvm.Cond) (a1 ha : Addr) (ka kh : ClassId) (cs : Int32) (u0 : Int32) (u1 : Int32) (h0 : Heap) (n0 : Nat) (Z0 : n0 ≤ h0.size) (V_a1 : Arv Z h0 a1 ka .byte (2 : Int32) [(.int u0), (.int u1)] (.int (0 : Int32))) (S_COMPACT_STRINGS : Sta Z h0 "java/lang/String" "COMPACT_STRINGS" "Z" (.int cs)) (S_HEX_DIGITS : Sta Z h0 "com/example/presplit/presplit/escape/BinaryEscape" "HEX_DIGITS" "[C" (.ref ha)) (V_ha : Arv Z h0 ha kh .char (16 : Int32) own_hexL (.int (0 : Int32))) (hc_q2 : ¬ (cs = (0 : Int32))) (hc_q4 : own_pl (u0 &&& (255 : Int32))) (hc_q5 : ¬ ((F9_0 (own_k0 (u0 &&& (255 : Int32)))) = (0 : Int32))) (hc_q7 : own_esc (u1 &&& (255 : Int32))) (hc_q8 : ¬ (((u1 &&& (255 : Int32)).toUInt32 >>> ((4 : Int32) &&& 31).toUInt32).toInt32) < 0 ∧ (((u1 &&& (255 : Int32)).toUInt32 >>> ((4 : Int32) &&& 31).toUInt32).toInt32) < (16 : Int32)) (hc_q9 : ¬ ((F9_0 (own_k2 (u1 &&& (255 : Int32)))) = (0 : Int32))) (hc_q10 : ¬ ((u1 &&& (255 : Int32)) &&& (15 : Int32)) < 0 ∧ ((u1 &&& (255 : Int32)) &&& (15 : Int32)) < (16 : Int32)) (hc_q11 : ¬ ((F9_0 (own_k3 (u1 &&& (255 : Int32)))) = (0 : Int32))) :
    MetFree l (⟨"com/example/presplit/presplit/escape/BinaryEscape", "encode", "([B)Ljava/lang/String;"⟩ : MethodName) (head1 (Jvm.Cond.code (⟨"com/example/presplit/presplit/escape/BinaryEscape", "encode", "([B)Ljava/lang/String;"⟩ : MethodName) prog_1_method_2_code 7 (some (.object "java/lang/String")) :: ws) ({ frames := 9, cells := 6, slots := 70, locals := 180 } : Room)) (fun a U => a = #[(.ref a1)] ∧ Z.Warmed39 U.vm ∧ U.heap = h0) (fun _ _ _ _ _ => True) (fun _ U o U' => ∃ v L, o = .returned v ∧ Q_rmEn_2_01 Z a1 ha ka kh cs u0 u1 h0 n0 v U'.heap L ∧ FrameEnd U o U' L ({ frames := 9, cells := 6, slots := 70, locals := 180 } : Room).cells ({ frames := 9, cells := 6, slots := 70, locals := 180 } : Room).slots) := by
  refine MetFree.of_bodySF (plainFor_of_name pn_1) hisR ?_
  intro p e s m args below meth c s₁ Bd hml0 hP hK
  obtain ⟨rfl, hZ, hh⟩ := hP
  have hx := Bd.exec
  have hby := Bd.bytes
  have hml : c.maxLocals = 7 := hml0
  have hown : s.vm.findClass "com/example/presplit/presplit/escape/BinaryEscape" = some m.cls := findClass_of_methodNamed Bd.named
  have hnm := (name_of_methodNamed Bd.named Bd.method).1
  have X0 : Stand p l e ({ frames := 9, cells := 6, slots := 70, locals := 180 } : Room) s m #[(.ref a1)] below meth c s₁ [] 0 0 := Stand.of_body Bd
  have e0 : s₁.heap = h0 := by rw [← hh, Bd.state]; rfl
  have N0 := Fr.nil n0
  have pre0 : ∀ t, Steps p.tables e below (s₁.setTop (mkF m 0 #[.val (.ref a1), .unset, .unset, .unset, .unset, .unset, .unset] [])) t → Steps p.tables e below (s₁.setTop (entryFrame m #[(.ref a1)] 7)) t := fun t k => castTop (ef_1 m a1) k
  have K0 : Keep h0 h0 [] := Keep.refl _ _
  obtain ⟨T_q1, h_q1, L_q1, r1_q1, r2_q1, kr2_q1, X_q1, e_q1, N_q1, Kq_q1, sz0_r1_q1, sz0_r2_q1, nq0_q1, O0_q1, O1_q1, O2_q1, O3_q1, O4_q1, O5_q1, st_q1⟩ := own_t_ a1 ka (2 : Int32) [(.int u0), (.int u1)] cs X0 hx hZ hw hby hml hown e0 N0 (Nat.le_trans Z0 K0.1) (by decide : 0 + 2 ≤ _) (by decide : 0 + 7 ≤ _) V_a1 S_COMPACT_STRINGS hc_q2 (by decide) (by decide)
  have ge_r1_q1 : n0 ≤ r1_q1 := Nat.le_trans (Nat.le_trans Z0 K0.1) sz0_r1_q1
  have sz_r1_q1 : h0.size ≤ r1_q1 := Nat.le_trans K0.1 sz0_r1_q1
  have ne_a1_r1_q1 : a1 ≠ r1_q1 := Nat.ne_of_lt (Nat.lt_of_lt_of_le V_a1.lt sz0_r1_q1)
  have ne_ha_r1_q1 : ha ≠ r1_q1 := Nat.ne_of_lt (Nat.lt_of_lt_of_le V_ha.lt sz0_r1_q1)
  have ge_r2_q1 : n0 ≤ r2_q1 := Nat.le_trans (Nat.le_trans Z0 K0.1) sz0_r2_q1
  have sz_r2_q1 : h0.size ≤ r2_q1 := Nat.le_trans K0.1 sz0_r2_q1
  have ne_a1_r2_q1 : a1 ≠ r2_q1 := Nat.ne_of_lt (Nat.lt_of_lt_of_le V_a1.lt sz0_r2_q1)
  have ne_ha_r2_q1 : ha ≠ r2_q1 := Nat.ne_of_lt (Nat.lt_of_lt_of_le V_ha.lt sz0_r2_q1)
  have V_a1__q1 := V_a1.keep Kq_q1 nin0
  have S_COMPACT_STRINGS__q1 := own_sta_keep S_COMPACT_STRINGS Kq_q1 all0
  have S_HEX_DIGITS__q1 := own_sta_keep S_HEX_DIGITS Kq_q1 all0
  have V_ha__q1 := V_ha.keep Kq_q1 nin0
  have K_q1 : Keep h0 h_q1 [] := K0.trans Kq_q1 all0
  have O4_q1l : Arv Z h_q1 r2_q1 kr2_q1 .byte (2 : Int32) [(.int (0 : Int32)), (.int (0 : Int32))] (.int (0 : Int32)) := O4_q1
  obtain ⟨T_q3, h_q3, L_q3, w1_q3, X_q3, e_q3, N_q3, Kq_q3, hw1_q3, O0_q3, O1_q3, O2_q3, O3_q3, O4_q3, st_q3⟩ := own_t0n a1 r1_q1 r2_q1 ha ka kr2_q1 kh (2 : Int32) (0 : Int32) [(.int u0), (.int u1)] u0 (2 : Int32) [(.int (0 : Int32)), (.int (0 : Int32))] (0 : Int32) (6 : Int32) cs (.unset) (.unset) X_q1 hx hZ hw hby hml hown e_q1 N_q1 (Nat.le_trans Z0 K_q1.1) (by decide : 2 + 0 ≤ _) (by decide : 7 + 0 ≤ _) V_a1__q1 O0_q1 O1_q1 O2_q1 O3_q1 O4_q1l O5_q1 S_COMPACT_STRINGS__q1 S_HEX_DIGITS__q1 V_ha__q1 ge_r1_q1 ge_r2_q1 nq0_q1 ne_a1_r1_q1 ne_a1_r2_q1 ne_ha_r1_q1 ne_ha_r2_q1 rfl (by decide) (by decide) rfl rfl rfl hc_q4 (by decide) hc_q2 hc_q5 (by decide)
  obtain rfl : w1_q3 = [(.int (nar .byte ((own_k0 (u0 &&& (255 : Int32))).toInt8.toInt32))), (.int (0 : Int32))] := hw1_q3
  have V_a1__q3 := V_a1__q1.keep Kq_q3 (ninS ne_a1_r1_q1 (ninS ne_a1_r2_q1 nin0))
  have S_COMPACT_STRINGS__q3 := own_sta_keep S_COMPACT_STRINGS__q1 Kq_q3 (allS (own_ns O0_q1) (allS (own_ns O5_q1) all0))
  have S_HEX_DIGITS__q3 := own_sta_keep S_HEX_DIGITS__q1 Kq_q3 (allS (own_ns O0_q1) (allS (own_ns O5_q1) all0))
  have V_ha__q3 := V_ha__q1.keep Kq_q3 (ninS ne_ha_r1_q1 (ninS ne_ha_r2_q1 nin0))
  have O0_q1__q3 := O0_q1.keep Kq_q3
  have K_q3 : Keep h0 h_q3 [] := K_q1.trans Kq_q3 (allS (Or.inr sz_r1_q1) (allS (Or.inr sz_r2_q1) all0))
  have O2_q3l : Fld Z h_q3 r1_q1 "java/lang/AbstractStringBuilder" "count" "I" (.int (1 : Int32)) := O2_q3
  obtain ⟨T_q6, h_q6, L_q6, r1_q6, kr1_q6, w1_q6, w2_q6, w3_q6, w4_q6, X_q6, e_q6, N_q6, Kq_q6, sz0_r1_q6, hw1_q6, hw2_q6, hw3_q6, hw4_q6, O0_q6, O1_q6, O2_q6, O3_q6, O4_q6, st_q6⟩ := own_t11 a1 r1_q1 r2_q1 ha ka kr2_q1 kh (2 : Int32) (1 : Int32) [(.int u0), (.int u1)] u1 (2 : Int32) [(.int (nar .byte ((own_k0 (u0 &&& (255 : Int32))).toInt8.toInt32))), (.int (0 : Int32))] (1 : Int32) (6 : Int32) cs (.val (.int u0)) (.val (.int (u0 &&& (255 : Int32)))) X_q3 hx hZ hw hby hml hown e_q3 N_q3 (Nat.le_trans Z0 K_q3.1) (by decide : 2 + 1 ≤ _) (by decide : 7 + 18 ≤ _) V_a1__q3 O0_q1__q3 O0_q3 O1_q3 O2_q3l O3_q3 O4_q3 S_COMPACT_STRINGS__q3 S_HEX_DIGITS__q3 V_ha__q3 ge_r1_q1 ge_r2_q1 nq0_q1 ne_a1_r1_q1 ne_a1_r2_q1 ne_ha_r1_q1 ne_ha_r2_q1 rfl (by decide) (by decide) rfl rfl rfl hc_q7 (by decide) hc_q2 (by decide) (by decide) (by decide) (by decide) (by decide) (by decide) (by decide) (by decide) (by decide) (by decide) (by decide) (by decide) (by decide) hc_q8 (by decide) hc_q9 (by decide) hc_q10 (by decide) hc_q11 (by decide)
  obtain rfl : w1_q6 = [(.int (nar .byte ((own_k0 (u0 &&& (255 : Int32))).toInt8.toInt32))), (.int (nar .byte ((92 : Int32).toInt8.toInt32)))] := hw1_q6
  obtain rfl : w2_q6 = [(.int (nar .byte ((own_k0 (u0 &&& (255 : Int32))).toInt8.toInt32))), (.int (nar .byte ((92 : Int32).toInt8.toInt32))), (.int (nar .byte ((120 : Int32).toInt8.toInt32))), (.int (0 : Int32)), (.int (0 : Int32)), (.int (0 : Int32))] := hw2_q6
  obtain rfl : w3_q6 = [(.int (nar .byte ((own_k0 (u0 &&& (255 : Int32))).toInt8.toInt32))), (.int (nar .byte ((92 : Int32).toInt8.toInt32))), (.int (nar .byte ((120 : Int32).toInt8.toInt32))), (.int (nar .byte ((own_k2 (u1 &&& (255 : Int32))).toInt8.toInt32))), (.int (0 : Int32)), (.int (0 : Int32))] := hw3_q6
  obtain rfl : w4_q6 = [(.int (nar .byte ((own_k0 (u0 &&& (255 : Int32))).toInt8.toInt32))), (.int (nar .byte ((92 : Int32).toInt8.toInt32))), (.int (nar .byte ((120 : Int32).toInt8.toInt32))), (.int (nar .byte ((own_k2 (u1 &&& (255 : Int32))).toInt8.toInt32))), (.int (nar .byte ((own_k3 (u1 &&& (255 : Int32))).toInt8.toInt32))), (.int (0 : Int32))] := hw4_q6
  have S_COMPACT_STRINGS__q6 := own_sta_keep S_COMPACT_STRINGS__q3 Kq_q6 (allS (own_ns O0_q1__q3) (allS (own_ns O4_q3) all0))
  have O0_q1__q6 := O0_q1__q3.keep Kq_q6
  have K_q6 : Keep h0 h_q6 [] := K_q3.trans Kq_q6 (allS (Or.inr sz_r1_q1) (allS (Or.inr sz_r2_q1) all0))
  have O2_q6l : Fld Z h_q6 r1_q1 "java/lang/AbstractStringBuilder" "count" "I" (.int (5 : Int32)) := O2_q6
  obtain ⟨cq_q12, kq_q12, qa_q12, qb_q12, qc_q12⟩ := isOf hZ e_q6 O0_q1__q6
  obtain ⟨_, _, ⟨T_q12, L_q12, k_q12, n_q12⟩, -, X_q12, ⟨Lc_q12, hQ_q12, l_q12, y_q12, z_q12⟩, st_q12⟩ := X_q6.virtualBack hx (y := (⟨"java/lang/StringBuilder", "toString", "()Ljava/lang/String;"⟩ : MethodName)) (z := (⟨"java/lang/StringBuilder", "toString", "()Ljava/lang/String;"⟩ : MethodName)) hown (mvT hZ (own_w hw 80 rfl)) (mvT hZ (own_w hw 81 rfl)) (notFace_of_selects (args := #[]) (mvT hZ (own_w hw 83 rfl))) (mvT hZ (own_w hw 83 rfl)) (mvT hZ (own_w hw 82 rfl)) (by decide) (backOf (W := 0) (rmTSr l Z a0 hw [] r1_q1 r1_q6 kr1_q6 (6 : Int32) [(.int (nar .byte ((own_k0 (u0 &&& (255 : Int32))).toInt8.toInt32))), (.int (nar .byte ((92 : Int32).toInt8.toInt32))), (.int (nar .byte ((120 : Int32).toInt8.toInt32))), (.int (nar .byte ((own_k2 (u1 &&& (255 : Int32))).toInt8.toInt32))), (.int (nar .byte ((own_k3 (u1 &&& (255 : Int32))).toInt8.toInt32))), (.int (0 : Int32))] (5 : Int32) cs h_q6 n0 (Nat.le_trans Z0 K_q6.1) O0_q1__q6 O0_q6 O1_q6 O2_q6l O3_q6 O4_q6 S_COMPACT_STRINGS__q6 hc_q2 (by decide) (by decide) (by decide) (by decide) (by decide) (by decide)) hZ (own_w hw 84 rfl) (own_w hw 7 rfl) (by decide) (by decide)) qa_q12 qc_q12 (g := (mkF m 112 #[.val (.ref a1), .val (.ref r1_q1), .val (.ref a1), .val (.int (2 : Int32)), .val (.int (2 : Int32)), .val (.int u1), .val (.int (u1 &&& (255 : Int32)))] [(.ref r1_q1)])) rfl (by rw [hml]; rfl) (Steps.refl _) (argsL := []) (rest := []) (lenOf pd___Ljava_lang_String_ rfl) rfl (by show 2 * 0 + _ ≤ _; exact Nat.le_of_eq rfl) (hb hby d1_112) (fun _ _ => ⟨rfl, e_q6, (by decide : 3 + 2 ≤ _), (by decide : 25 + 16 ≤ _)⟩)
  dsimp only [Pt.U, Pt.locs, Pt.cells, Pt.slots] at X_q12 l_q12 y_q12 z_q12 st_q12 hQ_q12
  subst l_q12 y_q12 z_q12
  obtain ⟨r1_q12, r2_q12, kr2_q12, rfl, Nq_q12, Kq_q12, sz0_r1_q12, sz0_r2_q12, O0_q12, O1_q12, O2_q12, O3_q12, O4_q12⟩ := hQ_q12
  have N_q12 := Fr.app N_q6 Nq_q12
  have sz_r1_q12 : h0.size ≤ r1_q12 := Nat.le_trans K_q6.1 sz0_r1_q12
  have sz_r2_q12 : h0.size ≤ r2_q12 := Nat.le_trans K_q6.1 sz0_r2_q12
  have K_q12 : Keep h0 T_q12.heap [] := K_q6.trans Kq_q12 all0
  have O3_q12_l : Arv Z T_q12.heap r2_q12 kr2_q12 .byte (5 : Int32) [(.int (nar .byte ((own_k0 (u0 &&& (255 : Int32))).toInt8.toInt32))), (.int (nar .byte ((92 : Int32).toInt8.toInt32))), (.int (nar .byte ((120 : Int32).toInt8.toInt32))), (.int (nar .byte ((own_k2 (u1 &&& (255 : Int32))).toInt8.toInt32))), (.int (nar .byte ((own_k3 (u1 &&& (255 : Int32))).toInt8.toInt32)))] (.int (0 : Int32)) := O3_q12
  obtain ⟨fs, hr, hrun, hended, hW, hsame⟩ := X_q12.leave (v := some (.ref r1_q12)) (fun h => by rw [Bd.returns] at h; cases h) Bd.notSynchronized
  refine ⟨_, _, pre0 _ ?_, hrun, hended, _, _, rfl, ?_, ⟨_, rfl⟩, hW, hsame.mono (by decide) (by decide)⟩
  · show Steps p.tables e below (s₁.setTop (mkF m 0 #[.val (.ref a1), .unset, .unset, .unset, .unset, .unset, .unset] [])) _
    refine st_q1 _ ?_
    show Steps p.tables e below (T_q1.setTop (mkF m 18 #[.val (.ref a1), .val (.ref r1_q1), .val (.ref a1), .val (.int (2 : Int32)), .val (.int (0 : Int32)), .unset, .unset] [])) _
    refine st_q3 _ ?_
    show Steps p.tables e below (T_q3.setTop (mkF m 18 #[.val (.ref a1), .val (.ref r1_q1), .val (.ref a1), .val (.int (2 : Int32)), .val (.int (1 : Int32)), .val (.int u0), .val (.int (u0 &&& (255 : Int32)))] [])) _
    refine st_q6 _ ?_
    refine XS.iload X_q6.here hx rfl (hb hby d1_18) rfl ?_
    refine XS.iloadN X_q6.here hx rfl (hb hby d1_20) rfl ?_
    refine XS.icmpYes X_q6.here hx rfl (pc0 := 21) (pc' := 111) rfl (hb hby d1_21) rfl (flt (by decide : ¬ ((2 : Int32) < (2 : Int32)))).2.1 (by decide) (by decide) ?_
    show Steps p.tables e below (T_q6.setTop (mkF m 111 #[.val (.ref a1), .val (.ref r1_q1), .val (.ref a1), .val (.int (2 : Int32)), .val (.int (2 : Int32)), .val (.int u1), .val (.int (u1 &&& (255 : Int32)))] [])) _
    refine XS.aloadN X_q6.here hx rfl (hb hby d1_111) rfl rfl ?_
    show Steps p.tables e below (T_q6.setTop (mkF m 112 #[.val (.ref a1), .val (.ref r1_q1), .val (.ref a1), .val (.int (2 : Int32)), .val (.int (2 : Int32)), .val (.int u1), .val (.int (u1 &&& (255 : Int32)))] [(.ref r1_q1)])) _
    refine st_q12.trans ?_
    show Steps p.tables e below (T_q12.setTop (mkF m 115 #[.val (.ref a1), .val (.ref r1_q1), .val (.ref a1), .val (.int (2 : Int32)), .val (.int (2 : Int32)), .val (.int u1), .val (.int (u1 &&& (255 : Int32)))] [(.ref r1_q12)])) _
    jvm_step X_q12.here [X_q12.here.top, hx, (hb hby d1_115), X_q12.method', Bd.returns, Value.isRef, FieldType.isReference]
    first | (intro acts; rw [hr _ acts rfl rfl rfl]) | rw [hr _ _ rfl rfl rfl]
    exact Steps.refl _
  · show Q_rmEn_2_01 Z a1 ha ka kh cs u0 u1 h0 n0 _ T_q12.heap _
    exact ⟨r1_q12, r2_q12, kr2_q12, rfl, N_q12, K_q12, sz_r1_q12, sz_r2_q12, O0_q12, O1_q12, O2_q12, O3_q12_l⟩
def Q_rmEn_2_10 (Z : State) (a1 ha : Addr) (ka kh : ClassId) (cs : Int32) (u0 : Int32) (u1 : Int32) (h0 : Heap) (n0 : Nat) (v : Option Value) (h : Heap) (L : List Loc) : Prop := ∃ (r1 : Addr) (r2 : Addr) (kr2 : ClassId), v = some (.ref r1) ∧ Fr n0 L ∧ Keep h0 h [] ∧ h0.size ≤ r1 ∧ h0.size ≤ r2 ∧ Exa Z h r1 "java/lang/String" ∧ Fld Z h r1 "java/lang/String" "value" "[B" (.ref r2) ∧ Fld Z h r1 "java/lang/String" "coder" "B" (.int (0 : Int32)) ∧ Arv Z h r2 kr2 .byte (5 : Int32) [(.int (nar .byte ((92 : Int32).toInt8.toInt32))), (.int (nar .byte ((120 : Int32).toInt8.toInt32))), (.int (nar .byte ((own_k2 (u0 &&& (255 : Int32))).toInt8.toInt32))), (.int (nar .byte ((own_k3 (u0 &&& (255 : Int32))).toInt8.toInt32))), (.int (nar .byte ((own_k0 (u1 &&& (255 : Int32))).toInt8.toInt32)))] (.int (0 : Int32))
set_option maxRecDepth 65536 in
set_option maxHeartbeats 40000000 in
theorem rmEn_2_10 (l : Launch) (Z : State) (a0 : Array Value) (hw : ∀ d ∈ tables_1, d.before a0 Z = true) (ws : List Jvm.Cond) (a1 ha : Addr) (ka kh : ClassId) (cs : Int32) (u0 : Int32) (u1 : Int32) (h0 : Heap) (n0 : Nat) (Z0 : n0 ≤ h0.size) (V_a1 : Arv Z h0 a1 ka .byte (2 : Int32) [(.int u0), (.int u1)] (.int (0 : Int32))) (S_COMPACT_STRINGS : Sta Z h0 "java/lang/String" "COMPACT_STRINGS" "Z" (.int cs)) (S_HEX_DIGITS : Sta Z h0 "com/example/presplit/presplit/escape/BinaryEscape" "HEX_DIGITS" "[C" (.ref ha)) (V_ha : Arv Z h0 ha kh .char (16 : Int32) own_hexL (.int (0 : Int32))) (hc_q2 : ¬ (cs = (0 : Int32))) (hc_q4 : own_esc (u0 &&& (255 : Int32))) (hc_q5 : ¬ (((u0 &&& (255 : Int32)).toUInt32 >>> ((4 : Int32) &&& 31).toUInt32).toInt32) < 0 ∧ (((u0 &&& (255 : Int32)).toUInt32 >>> ((4 : Int32) &&& 31).toUInt32).toInt32) < (16 : Int32)) (hc_q6 : ¬ ((F9_0 (own_k2 (u0 &&& (255 : Int32)))) = (0 : Int32))) (hc_q7 : ¬ ((u0 &&& (255 : Int32)) &&& (15 : Int32)) < 0 ∧ ((u0 &&& (255 : Int32)) &&& (15 : Int32)) < (16 : Int32)) (hc_q8 : ¬ ((F9_0 (own_k3 (u0 &&& (255 : Int32)))) = (0 : Int32))) (hc_q10 : own_pl (u1 &&& (255 : Int32))) (hc_q11 : ¬ ((F9_0 (own_k0 (u1 &&& (255 : Int32)))) = (0 : Int32))) :
    MetFree l (⟨"com/example/presplit/presplit/escape/BinaryEscape", "encode", "([B)Ljava/lang/String;"⟩ : MethodName) (head1 (Jvm.Cond.code (⟨"com/example/presplit/presplit/escape/BinaryEscape", "encode", "([B)Ljava/lang/String;"⟩ : MethodName) prog_1_method_2_code 7 (some (.object "java/lang/String")) :: ws) ({ frames := 9, cells := 6, slots := 70, locals := 180 } : Room)) (fun a U => a = #[(.ref a1)] ∧ Z.Warmed39 U.vm ∧ U.heap = h0) (fun _ _ _ _ _ => True) (fun _ U o U' => ∃ v L, o = .returned v ∧ Q_rmEn_2_10 Z a1 ha ka kh cs u0 u1 h0 n0 v U'.heap L ∧ FrameEnd U o U' L ({ frames := 9, cells := 6, slots := 70, locals := 180 } : Room).cells ({ frames := 9, cells := 6, slots := 70, locals := 180 } : Room).slots) := by
  refine MetFree.of_bodySF (plainFor_of_name pn_1) hisR ?_
  intro p e s m args below meth c s₁ Bd hml0 hP hK
  obtain ⟨rfl, hZ, hh⟩ := hP
  have hx := Bd.exec
  have hby := Bd.bytes
  have hml : c.maxLocals = 7 := hml0
  have hown : s.vm.findClass "com/example/presplit/presplit/escape/BinaryEscape" = some m.cls := findClass_of_methodNamed Bd.named
  have hnm := (name_of_methodNamed Bd.named Bd.method).1
  have X0 : Stand p l e ({ frames := 9, cells := 6, slots := 70, locals := 180 } : Room) s m #[(.ref a1)] below meth c s₁ [] 0 0 := Stand.of_body Bd
  have e0 : s₁.heap = h0 := by rw [← hh, Bd.state]; rfl
  have N0 := Fr.nil n0
  have pre0 : ∀ t, Steps p.tables e below (s₁.setTop (mkF m 0 #[.val (.ref a1), .unset, .unset, .unset, .unset, .unset, .unset] [])) t → Steps p.tables e below (s₁.setTop (entryFrame m #[(.ref a1)] 7)) t := fun t k => castTop (ef_1 m a1) k
  have K0 : Keep h0 h0 [] := Keep.refl _ _
  obtain ⟨T_q1, h_q1, L_q1, r1_q1, r2_q1, kr2_q1, X_q1, e_q1, N_q1, Kq_q1, sz0_r1_q1, sz0_r2_q1, nq0_q1, O0_q1, O1_q1, O2_q1, O3_q1, O4_q1, O5_q1, st_q1⟩ := own_t_ a1 ka (2 : Int32) [(.int u0), (.int u1)] cs X0 hx hZ hw hby hml hown e0 N0 (Nat.le_trans Z0 K0.1) (by decide : 0 + 2 ≤ _) (by decide : 0 + 7 ≤ _) V_a1 S_COMPACT_STRINGS hc_q2 (by decide) (by decide)
  have ge_r1_q1 : n0 ≤ r1_q1 := Nat.le_trans (Nat.le_trans Z0 K0.1) sz0_r1_q1
  have sz_r1_q1 : h0.size ≤ r1_q1 := Nat.le_trans K0.1 sz0_r1_q1
  have ne_a1_r1_q1 : a1 ≠ r1_q1 := Nat.ne_of_lt (Nat.lt_of_lt_of_le V_a1.lt sz0_r1_q1)
  have ne_ha_r1_q1 : ha ≠ r1_q1 := Nat.ne_of_lt (Nat.lt_of_lt_of_le V_ha.lt sz0_r1_q1)
  have ge_r2_q1 : n0 ≤ r2_q1 := Nat.le_trans (Nat.le_trans Z0 K0.1) sz0_r2_q1
  have sz_r2_q1 : h0.size ≤ r2_q1 := Nat.le_trans K0.1 sz0_r2_q1
  have ne_a1_r2_q1 : a1 ≠ r2_q1 := Nat.ne_of_lt (Nat.lt_of_lt_of_le V_a1.lt sz0_r2_q1)
  have ne_ha_r2_q1 : ha ≠ r2_q1 := Nat.ne_of_lt (Nat.lt_of_lt_of_le V_ha.lt sz0_r2_q1)
  have V_a1__q1 := V_a1.keep Kq_q1 nin0
  have S_COMPACT_STRINGS__q1 := own_sta_keep S_COMPACT_STRINGS Kq_q1 all0
  have S_HEX_DIGITS__q1 := own_sta_keep S_HEX_DIGITS Kq_q1 all0
  have V_ha__q1 := V_ha.keep Kq_q1 nin0
  have K_q1 : Keep h0 h_q1 [] := K0.trans Kq_q1 all0
  have O4_q1l : Arv Z h_q1 r2_q1 kr2_q1 .byte (2 : Int32) [(.int (0 : Int32)), (.int (0 : Int32))] (.int (0 : Int32)) := O4_q1
  obtain ⟨T_q3, h_q3, L_q3, r1_q3, kr1_q3, w1_q3, w2_q3, w3_q3, w4_q3, X_q3, e_q3, N_q3, Kq_q3, sz0_r1_q3, hw1_q3, hw2_q3, hw3_q3, hw4_q3, O0_q3, O1_q3, O2_q3, O3_q3, O4_q3, st_q3⟩ := own_t12 a1 r1_q1 r2_q1 ha ka kr2_q1 kh (2 : Int32) (0 : Int32) [(.int u0), (.int u1)] u0 (2 : Int32) [(.int (0 : Int32)), (.int (0 : Int32))] (0 : Int32) (6 : Int32) cs (.unset) (.unset) X_q1 hx hZ hw hby hml hown e_q1 N_q1 (Nat.le_trans Z0 K_q1.1) (by decide : 2 + 1 ≤ _) (by decide : 7 + 18 ≤ _) V_a1__q1 O0_q1 O1_q1 O2_q1 O3_q1 O4_q1l O5_q1 S_COMPACT_STRINGS__q1 S_HEX_DIGITS__q1 V_ha__q1 ge_r1_q1 ge_r2_q1 nq0_q1 ne_a1_r1_q1 ne_a1_r2_q1 ne_ha_r1_q1 ne_ha_r2_q1 rfl (by decide) (by decide) rfl rfl rfl hc_q4 (by decide) hc_q2 (by decide) (by decide) (by decide) hc_q5 (by decide) (by decide) (by decide) (by decide) (by decide) (by decide) (by decide) (by decide) (by decide) (by decide) (by decide) hc_q6 (by decide) hc_q7 (by decide) hc_q8 (by decide)
  have ge_r1_q3 : n0 ≤ r1_q3 := Nat.le_trans (Nat.le_trans Z0 K_q1.1) sz0_r1_q3
  have sz_r1_q3 : h0.size ≤ r1_q3 := Nat.le_trans K_q1.1 sz0_r1_q3
  have ne_a1_r1_q3 : a1 ≠ r1_q3 := Nat.ne_of_lt (Nat.lt_of_lt_of_le V_a1__q1.lt sz0_r1_q3)
  have ne_ha_r1_q3 : ha ≠ r1_q3 := Nat.ne_of_lt (Nat.lt_of_lt_of_le V_ha__q1.lt sz0_r1_q3)
  have ne_r1_q1_r1_q3 : r1_q1 ≠ r1_q3 := Nat.ne_of_lt (Nat.lt_of_lt_of_le O0_q1.lt sz0_r1_q3)
  obtain rfl : w1_q3 = [(.int (nar .byte ((92 : Int32).toInt8.toInt32))), (.int (0 : Int32))] := hw1_q3
  obtain rfl : w2_q3 = [(.int (nar .byte ((92 : Int32).toInt8.toInt32))), (.int (nar .byte ((120 : Int32).toInt8.toInt32)))] := hw2_q3
  obtain rfl : w3_q3 = [(.int (nar .byte ((92 : Int32).toInt8.toInt32))), (.int (nar .byte ((120 : Int32).toInt8.toInt32))), (.int (nar .byte ((own_k2 (u0 &&& (255 : Int32))).toInt8.toInt32))), (.int (0 : Int32)), (.int (0 : Int32)), (.int (0 : Int32))] := hw3_q3
  obtain rfl : w4_q3 = [(.int (nar .byte ((92 : Int32).toInt8.toInt32))), (.int (nar .byte ((120 : Int32).toInt8.toInt32))), (.int (nar .byte ((own_k2 (u0 &&& (255 : Int32))).toInt8.toInt32))), (.int (nar .byte ((own_k3 (u0 &&& (255 : Int32))).toInt8.toInt32))), (.int (0 : Int32)), (.int (0 : Int32))] := hw4_q3
  have V_a1__q3 := V_a1__q1.keep Kq_q3 (ninS ne_a1_r1_q1 (ninS ne_a1_r2_q1 nin0))
  have S_COMPACT_STRINGS__q3 := own_sta_keep S_COMPACT_STRINGS__q1 Kq_q3 (allS (own_ns O0_q1) (allS (own_ns O5_q1) all0))
  have S_HEX_DIGITS__q3 := own_sta_keep S_HEX_DIGITS__q1 Kq_q3 (allS (own_ns O0_q1) (allS (own_ns O5_q1) all0))
  have V_ha__q3 := V_ha__q1.keep Kq_q3 (ninS ne_ha_r1_q1 (ninS ne_ha_r2_q1 nin0))
  have O0_q1__q3 := O0_q1.keep Kq_q3
  have K_q3 : Keep h0 h_q3 [] := K_q1.trans Kq_q3 (allS (Or.inr sz_r1_q1) (allS (Or.inr sz_r2_q1) all0))
  have O2_q3l : Fld Z h_q3 r1_q1 "java/lang/AbstractStringBuilder" "count" "I" (.int (4 : Int32)) := O2_q3
  obtain ⟨T_q9, h_q9, L_q9, w1_q9, X_q9, e_q9, N_q9, Kq_q9, hw1_q9, O0_q9, O1_q9, O2_q9, O3_q9, O4_q9, st_q9⟩ := own_t0n a1 r1_q1 r1_q3 ha ka kr1_q3 kh (2 : Int32) (1 : Int32) [(.int u0), (.int u1)] u1 (6 : Int32) [(.int (nar .byte ((92 : Int32).toInt8.toInt32))), (.int (nar .byte ((120 : Int32).toInt8.toInt32))), (.int (nar .byte ((own_k2 (u0 &&& (255 : Int32))).toInt8.toInt32))), (.int (nar .byte ((own_k3 (u0 &&& (255 : Int32))).toInt8.toInt32))), (.int (0 : Int32)), (.int (0 : Int32))] (4 : Int32) (14 : Int32) cs (.val (.int u0)) (.val (.int (u0 &&& (255 : Int32)))) X_q3 hx hZ hw hby hml hown e_q3 N_q3 (Nat.le_trans Z0 K_q3.1) (by decide : 3 + 0 ≤ _) (by decide : 25 + 0 ≤ _) V_a1__q3 O0_q1__q3 O0_q3 O1_q3 O2_q3l O3_q3 O4_q3 S_COMPACT_STRINGS__q3 S_HEX_DIGITS__q3 V_ha__q3 ge_r1_q1 ge_r1_q3 (Ne.symm ne_r1_q1_r1_q3) ne_a1_r1_q1 ne_a1_r1_q3 ne_ha_r1_q1 ne_ha_r1_q3 rfl (by decide) (by decide) rfl rfl rfl hc_q10 (by decide) hc_q2 hc_q11 (by decide)
  obtain rfl : w1_q9 = [(.int (nar .byte ((92 : Int32).toInt8.toInt32))), (.int (nar .byte ((120 : Int32).toInt8.toInt32))), (.int (nar .byte ((own_k2 (u0 &&& (255 : Int32))).toInt8.toInt32))), (.int (nar .byte ((own_k3 (u0 &&& (255 : Int32))).toInt8.toInt32))), (.int (nar .byte ((own_k0 (u1 &&& (255 : Int32))).toInt8.toInt32))), (.int (0 : Int32))] := hw1_q9
  have S_COMPACT_STRINGS__q9 := own_sta_keep S_COMPACT_STRINGS__q3 Kq_q9 (allS (own_ns O0_q1__q3) (allS (own_ns O4_q3) all0))
  have O0_q1__q9 := O0_q1__q3.keep Kq_q9
  have K_q9 : Keep h0 h_q9 [] := K_q3.trans Kq_q9 (allS (Or.inr sz_r1_q1) (allS (Or.inr sz_r1_q3) all0))
  have O2_q9l : Fld Z h_q9 r1_q1 "java/lang/AbstractStringBuilder" "count" "I" (.int (5 : Int32)) := O2_q9
  obtain ⟨cq_q12, kq_q12, qa_q12, qb_q12, qc_q12⟩ := isOf hZ e_q9 O0_q1__q9
  obtain ⟨_, _, ⟨T_q12, L_q12, k_q12, n_q12⟩, -, X_q12, ⟨Lc_q12, hQ_q12, l_q12, y_q12, z_q12⟩, st_q12⟩ := X_q9.virtualBack hx (y := (⟨"java/lang/StringBuilder", "toString", "()Ljava/lang/String;"⟩ : MethodName)) (z := (⟨"java/lang/StringBuilder", "toString", "()Ljava/lang/String;"⟩ : MethodName)) hown (mvT hZ (own_w hw 80 rfl)) (mvT hZ (own_w hw 81 rfl)) (notFace_of_selects (args := #[]) (mvT hZ (own_w hw 83 rfl))) (mvT hZ (own_w hw 83 rfl)) (mvT hZ (own_w hw 82 rfl)) (by decide) (backOf (W := 0) (rmTSr l Z a0 hw [] r1_q1 r1_q3 kr1_q3 (6 : Int32) [(.int (nar .byte ((92 : Int32).toInt8.toInt32))), (.int (nar .byte ((120 : Int32).toInt8.toInt32))), (.int (nar .byte ((own_k2 (u0 &&& (255 : Int32))).toInt8.toInt32))), (.int (nar .byte ((own_k3 (u0 &&& (255 : Int32))).toInt8.toInt32))), (.int (nar .byte ((own_k0 (u1 &&& (255 : Int32))).toInt8.toInt32))), (.int (0 : Int32))] (5 : Int32) cs h_q9 n0 (Nat.le_trans Z0 K_q9.1) O0_q1__q9 O0_q9 O1_q9 O2_q9l O3_q9 O4_q9 S_COMPACT_STRINGS__q9 hc_q2 (by decide) (by decide) (by decide) (by decide) (by decide) (by decide)) hZ (own_w hw 84 rfl) (own_w hw 7 rfl) (by decide) (by decide)) qa_q12 qc_q12 (g := (mkF m 112 #[.val (.ref a1), .val (.ref r1_q1), .val (.ref a1), .val (.int (2 : Int32)), .val (.int (2 : Int32)), .val (.int u1), .val (.int (u1 &&& (255 : Int32)))] [(.ref r1_q1)])) rfl (by rw [hml]; rfl) (Steps.refl _) (argsL := []) (rest := []) (lenOf pd___Ljava_lang_String_ rfl) rfl (by show 2 * 0 + _ ≤ _; exact Nat.le_of_eq rfl) (hb hby d1_112) (fun _ _ => ⟨rfl, e_q9, (by decide : 3 + 2 ≤ _), (by decide : 25 + 16 ≤ _)⟩)
  dsimp only [Pt.U, Pt.locs, Pt.cells, Pt.slots] at X_q12 l_q12 y_q12 z_q12 st_q12 hQ_q12
  subst l_q12 y_q12 z_q12
  obtain ⟨r1_q12, r2_q12, kr2_q12, rfl, Nq_q12, Kq_q12, sz0_r1_q12, sz0_r2_q12, O0_q12, O1_q12, O2_q12, O3_q12, O4_q12⟩ := hQ_q12
  have N_q12 := Fr.app N_q9 Nq_q12
  have sz_r1_q12 : h0.size ≤ r1_q12 := Nat.le_trans K_q9.1 sz0_r1_q12
  have sz_r2_q12 : h0.size ≤ r2_q12 := Nat.le_trans K_q9.1 sz0_r2_q12
  have K_q12 : Keep h0 T_q12.heap [] := K_q9.trans Kq_q12 all0
  have O3_q12_l : Arv Z T_q12.heap r2_q12 kr2_q12 .byte (5 : Int32) [(.int (nar .byte ((92 : Int32).toInt8.toInt32))), (.int (nar .byte ((120 : Int32).toInt8.toInt32))), (.int (nar .byte ((own_k2 (u0 &&& (255 : Int32))).toInt8.toInt32))), (.int (nar .byte ((own_k3 (u0 &&& (255 : Int32))).toInt8.toInt32))), (.int (nar .byte ((own_k0 (u1 &&& (255 : Int32))).toInt8.toInt32)))] (.int (0 : Int32)) := O3_q12
  obtain ⟨fs, hr, hrun, hended, hW, hsame⟩ := X_q12.leave (v := some (.ref r1_q12)) (fun h => by rw [Bd.returns] at h; cases h) Bd.notSynchronized
  refine ⟨_, _, pre0 _ ?_, hrun, hended, _, _, rfl, ?_, ⟨_, rfl⟩, hW, hsame.mono (by decide) (by decide)⟩
  · show Steps p.tables e below (s₁.setTop (mkF m 0 #[.val (.ref a1), .unset, .unset, .unset, .unset, .unset, .unset] [])) _
    refine st_q1 _ ?_
    show Steps p.tables e below (T_q1.setTop (mkF m 18 #[.val (.ref a1), .val (.ref r1_q1), .val (.ref a1), .val (.int (2 : Int32)), .val (.int (0 : Int32)), .unset, .unset] [])) _
    refine st_q3 _ ?_
    show Steps p.tables e below (T_q3.setTop (mkF m 18 #[.val (.ref a1), .val (.ref r1_q1), .val (.ref a1), .val (.int (2 : Int32)), .val (.int (1 : Int32)), .val (.int u0), .val (.int (u0 &&& (255 : Int32)))] [])) _
    refine st_q9 _ ?_
    refine XS.iload X_q9.here hx rfl (hb hby d1_18) rfl ?_
    refine XS.iloadN X_q9.here hx rfl (hb hby d1_20) rfl ?_
    refine XS.icmpYes X_q9.here hx rfl (pc0 := 21) (pc' := 111) rfl (hb hby d1_21) rfl (flt (by decide : ¬ ((2 : Int32) < (2 : Int32)))).2.1 (by decide) (by decide) ?_
    show Steps p.tables e below (T_q9.setTop (mkF m 111 #[.val (.ref a1), .val (.ref r1_q1), .val (.ref a1), .val (.int (2 : Int32)), .val (.int (2 : Int32)), .val (.int u1), .val (.int (u1 &&& (255 : Int32)))] [])) _
    refine XS.aloadN X_q9.here hx rfl (hb hby d1_111) rfl rfl ?_
    show Steps p.tables e below (T_q9.setTop (mkF m 112 #[.val (.ref a1), .val (.ref r1_q1), .val (.ref a1), .val (.int (2 : Int32)), .val (.int (2 : Int32)), .val (.int u1), .val (.int (u1 &&& (255 : Int32)))] [(.ref r1_q1)])) _
    refine st_q12.trans ?_
    show Steps p.tables e below (T_q12.setTop (mkF m 115 #[.val (.ref a1), .val (.ref r1_q1), .val (.ref a1), .val (.int (2 : Int32)), .val (.int (2 : Int32)), .val (.int u1), .val (.int (u1 &&& (255 : Int32)))] [(.ref r1_q12)])) _
    jvm_step X_q12.here [X_q12.here.top, hx, (hb hby d1_115), X_q12.method', Bd.returns, Value.isRef, FieldType.isReference]
    first | (intro acts; rw [hr _ acts rfl rfl rfl]) | rw [hr _ _ rfl rfl rfl]
    exact Steps.refl _
  · show Q_rmEn_2_10 Z a1 ha ka kh cs u0 u1 h0 n0 _ T_q12.heap _
    exact ⟨r1_q12, r2_q12, kr2_q12, rfl, N_q12, K_q12, sz_r1_q12, sz_r2_q12, O0_q12, O1_q12, O2_q12, O3_q12_l⟩
def Q_rmEn_2_11 (Z : State) (a1 ha : Addr) (ka kh : ClassId) (cs : Int32) (u0 : Int32) (u1 : Int32) (h0 : Heap) (n0 : Nat) (v : Option Value) (h : Heap) (L : List Loc) : Prop := ∃ (r1 : Addr) (r2 : Addr) (kr2 : ClassId), v = some (.ref r1) ∧ Fr n0 L ∧ Keep h0 h [] ∧ h0.size ≤ r1 ∧ h0.size ≤ r2 ∧ Exa Z h r1 "java/lang/String" ∧ Fld Z h r1 "java/lang/String" "value" "[B" (.ref r2) ∧ Fld Z h r1 "java/lang/String" "coder" "B" (.int (0 : Int32)) ∧ Arv Z h r2 kr2 .byte (8 : Int32) [(.int (nar .byte ((92 : Int32).toInt8.toInt32))), (.int (nar .byte ((120 : Int32).toInt8.toInt32))), (.int (nar .byte ((own_k2 (u0 &&& (255 : Int32))).toInt8.toInt32))), (.int (nar .byte ((own_k3 (u0 &&& (255 : Int32))).toInt8.toInt32))), (.int (nar .byte ((92 : Int32).toInt8.toInt32))), (.int (nar .byte ((120 : Int32).toInt8.toInt32))), (.int (nar .byte ((own_k2 (u1 &&& (255 : Int32))).toInt8.toInt32))), (.int (nar .byte ((own_k3 (u1 &&& (255 : Int32))).toInt8.toInt32)))] (.int (0 : Int32))
set_option maxRecDepth 65536 in
set_option maxHeartbeats 40000000 in
theorem rmEn_2_11 (l : Launch) (Z : State) (a0 : Array Value) (hw : ∀ d ∈ tables_1, d.before a0 Z = true) (ws : List Jvm.Cond) (a1 ha : Addr) (ka kh : ClassId) (cs : Int32) (u0 : Int32) (u1 : Int32) (h0 : Heap) (n0 : Nat) (Z0 : n0 ≤ h0.size) (V_a1 : Arv Z h0 a1 ka .byte (2 : Int32) [(.int u0), (.int u1)] (.int (0 : Int32))) (S_COMPACT_STRINGS : Sta Z h0 "java/lang/String" "COMPACT_STRINGS" "Z" (.int cs)) (S_HEX_DIGITS : Sta Z h0 "com/example/presplit/presplit/escape/BinaryEscape" "HEX_DIGITS" "[C" (.ref ha)) (V_ha : Arv Z h0 ha kh .char (16 : Int32) own_hexL (.int (0 : Int32))) (hc_q2 : ¬ (cs = (0 : Int32))) (hc_q4 : own_esc (u0 &&& (255 : Int32))) (hc_q5 : ¬ (((u0 &&& (255 : Int32)).toUInt32 >>> ((4 : Int32) &&& 31).toUInt32).toInt32) < 0 ∧ (((u0 &&& (255 : Int32)).toUInt32 >>> ((4 : Int32) &&& 31).toUInt32).toInt32) < (16 : Int32)) (hc_q6 : ¬ ((F9_0 (own_k2 (u0 &&& (255 : Int32)))) = (0 : Int32))) (hc_q7 : ¬ ((u0 &&& (255 : Int32)) &&& (15 : Int32)) < 0 ∧ ((u0 &&& (255 : Int32)) &&& (15 : Int32)) < (16 : Int32)) (hc_q8 : ¬ ((F9_0 (own_k3 (u0 &&& (255 : Int32)))) = (0 : Int32))) (hc_q10 : own_esc (u1 &&& (255 : Int32))) (hc_q11 : ¬ (((u1 &&& (255 : Int32)).toUInt32 >>> ((4 : Int32) &&& 31).toUInt32).toInt32) < 0 ∧ (((u1 &&& (255 : Int32)).toUInt32 >>> ((4 : Int32) &&& 31).toUInt32).toInt32) < (16 : Int32)) (hc_q12 : ¬ ((F9_0 (own_k2 (u1 &&& (255 : Int32)))) = (0 : Int32))) (hc_q13 : ¬ ((u1 &&& (255 : Int32)) &&& (15 : Int32)) < 0 ∧ ((u1 &&& (255 : Int32)) &&& (15 : Int32)) < (16 : Int32)) (hc_q14 : ¬ ((F9_0 (own_k3 (u1 &&& (255 : Int32)))) = (0 : Int32))) :
    MetFree l (⟨"com/example/presplit/presplit/escape/BinaryEscape", "encode", "([B)Ljava/lang/String;"⟩ : MethodName) (head1 (Jvm.Cond.code (⟨"com/example/presplit/presplit/escape/BinaryEscape", "encode", "([B)Ljava/lang/String;"⟩ : MethodName) prog_1_method_2_code 7 (some (.object "java/lang/String")) :: ws) ({ frames := 9, cells := 6, slots := 70, locals := 180 } : Room)) (fun a U => a = #[(.ref a1)] ∧ Z.Warmed39 U.vm ∧ U.heap = h0) (fun _ _ _ _ _ => True) (fun _ U o U' => ∃ v L, o = .returned v ∧ Q_rmEn_2_11 Z a1 ha ka kh cs u0 u1 h0 n0 v U'.heap L ∧ FrameEnd U o U' L ({ frames := 9, cells := 6, slots := 70, locals := 180 } : Room).cells ({ frames := 9, cells := 6, slots := 70, locals := 180 } : Room).slots) := by
  refine MetFree.of_bodySF (plainFor_of_name pn_1) hisR ?_
  intro p e s m args below meth c s₁ Bd hml0 hP hK
  obtain ⟨rfl, hZ, hh⟩ := hP
  have hx := Bd.exec
  have hby := Bd.bytes
  have hml : c.maxLocals = 7 := hml0
  have hown : s.vm.findClass "com/example/presplit/presplit/escape/BinaryEscape" = some m.cls := findClass_of_methodNamed Bd.named
  have hnm := (name_of_methodNamed Bd.named Bd.method).1
  have X0 : Stand p l e ({ frames := 9, cells := 6, slots := 70, locals := 180 } : Room) s m #[(.ref a1)] below meth c s₁ [] 0 0 := Stand.of_body Bd
  have e0 : s₁.heap = h0 := by rw [← hh, Bd.state]; rfl
  have N0 := Fr.nil n0
  have pre0 : ∀ t, Steps p.tables e below (s₁.setTop (mkF m 0 #[.val (.ref a1), .unset, .unset, .unset, .unset, .unset, .unset] [])) t → Steps p.tables e below (s₁.setTop (entryFrame m #[(.ref a1)] 7)) t := fun t k => castTop (ef_1 m a1) k
  have K0 : Keep h0 h0 [] := Keep.refl _ _
  obtain ⟨T_q1, h_q1, L_q1, r1_q1, r2_q1, kr2_q1, X_q1, e_q1, N_q1, Kq_q1, sz0_r1_q1, sz0_r2_q1, nq0_q1, O0_q1, O1_q1, O2_q1, O3_q1, O4_q1, O5_q1, st_q1⟩ := own_t_ a1 ka (2 : Int32) [(.int u0), (.int u1)] cs X0 hx hZ hw hby hml hown e0 N0 (Nat.le_trans Z0 K0.1) (by decide : 0 + 2 ≤ _) (by decide : 0 + 7 ≤ _) V_a1 S_COMPACT_STRINGS hc_q2 (by decide) (by decide)
  have ge_r1_q1 : n0 ≤ r1_q1 := Nat.le_trans (Nat.le_trans Z0 K0.1) sz0_r1_q1
  have sz_r1_q1 : h0.size ≤ r1_q1 := Nat.le_trans K0.1 sz0_r1_q1
  have ne_a1_r1_q1 : a1 ≠ r1_q1 := Nat.ne_of_lt (Nat.lt_of_lt_of_le V_a1.lt sz0_r1_q1)
  have ne_ha_r1_q1 : ha ≠ r1_q1 := Nat.ne_of_lt (Nat.lt_of_lt_of_le V_ha.lt sz0_r1_q1)
  have ge_r2_q1 : n0 ≤ r2_q1 := Nat.le_trans (Nat.le_trans Z0 K0.1) sz0_r2_q1
  have sz_r2_q1 : h0.size ≤ r2_q1 := Nat.le_trans K0.1 sz0_r2_q1
  have ne_a1_r2_q1 : a1 ≠ r2_q1 := Nat.ne_of_lt (Nat.lt_of_lt_of_le V_a1.lt sz0_r2_q1)
  have ne_ha_r2_q1 : ha ≠ r2_q1 := Nat.ne_of_lt (Nat.lt_of_lt_of_le V_ha.lt sz0_r2_q1)
  have V_a1__q1 := V_a1.keep Kq_q1 nin0
  have S_COMPACT_STRINGS__q1 := own_sta_keep S_COMPACT_STRINGS Kq_q1 all0
  have S_HEX_DIGITS__q1 := own_sta_keep S_HEX_DIGITS Kq_q1 all0
  have V_ha__q1 := V_ha.keep Kq_q1 nin0
  have K_q1 : Keep h0 h_q1 [] := K0.trans Kq_q1 all0
  have O4_q1l : Arv Z h_q1 r2_q1 kr2_q1 .byte (2 : Int32) [(.int (0 : Int32)), (.int (0 : Int32))] (.int (0 : Int32)) := O4_q1
  obtain ⟨T_q3, h_q3, L_q3, r1_q3, kr1_q3, w1_q3, w2_q3, w3_q3, w4_q3, X_q3, e_q3, N_q3, Kq_q3, sz0_r1_q3, hw1_q3, hw2_q3, hw3_q3, hw4_q3, O0_q3, O1_q3, O2_q3, O3_q3, O4_q3, st_q3⟩ := own_t12 a1 r1_q1 r2_q1 ha ka kr2_q1 kh (2 : Int32) (0 : Int32) [(.int u0), (.int u1)] u0 (2 : Int32) [(.int (0 : Int32)), (.int (0 : Int32))] (0 : Int32) (6 : Int32) cs (.unset) (.unset) X_q1 hx hZ hw hby hml hown e_q1 N_q1 (Nat.le_trans Z0 K_q1.1) (by decide : 2 + 1 ≤ _) (by decide : 7 + 18 ≤ _) V_a1__q1 O0_q1 O1_q1 O2_q1 O3_q1 O4_q1l O5_q1 S_COMPACT_STRINGS__q1 S_HEX_DIGITS__q1 V_ha__q1 ge_r1_q1 ge_r2_q1 nq0_q1 ne_a1_r1_q1 ne_a1_r2_q1 ne_ha_r1_q1 ne_ha_r2_q1 rfl (by decide) (by decide) rfl rfl rfl hc_q4 (by decide) hc_q2 (by decide) (by decide) (by decide) hc_q5 (by decide) (by decide) (by decide) (by decide) (by decide) (by decide) (by decide) (by decide) (by decide) (by decide) (by decide) hc_q6 (by decide) hc_q7 (by decide) hc_q8 (by decide)
  have ge_r1_q3 : n0 ≤ r1_q3 := Nat.le_trans (Nat.le_trans Z0 K_q1.1) sz0_r1_q3
  have sz_r1_q3 : h0.size ≤ r1_q3 := Nat.le_trans K_q1.1 sz0_r1_q3
  have ne_a1_r1_q3 : a1 ≠ r1_q3 := Nat.ne_of_lt (Nat.lt_of_lt_of_le V_a1__q1.lt sz0_r1_q3)
  have ne_ha_r1_q3 : ha ≠ r1_q3 := Nat.ne_of_lt (Nat.lt_of_lt_of_le V_ha__q1.lt sz0_r1_q3)
  have ne_r1_q1_r1_q3 : r1_q1 ≠ r1_q3 := Nat.ne_of_lt (Nat.lt_of_lt_of_le O0_q1.lt sz0_r1_q3)
  obtain rfl : w1_q3 = [(.int (nar .byte ((92 : Int32).toInt8.toInt32))), (.int (0 : Int32))] := hw1_q3
  obtain rfl : w2_q3 = [(.int (nar .byte ((92 : Int32).toInt8.toInt32))), (.int (nar .byte ((120 : Int32).toInt8.toInt32)))] := hw2_q3
  obtain rfl : w3_q3 = [(.int (nar .byte ((92 : Int32).toInt8.toInt32))), (.int (nar .byte ((120 : Int32).toInt8.toInt32))), (.int (nar .byte ((own_k2 (u0 &&& (255 : Int32))).toInt8.toInt32))), (.int (0 : Int32)), (.int (0 : Int32)), (.int (0 : Int32))] := hw3_q3
  obtain rfl : w4_q3 = [(.int (nar .byte ((92 : Int32).toInt8.toInt32))), (.int (nar .byte ((120 : Int32).toInt8.toInt32))), (.int (nar .byte ((own_k2 (u0 &&& (255 : Int32))).toInt8.toInt32))), (.int (nar .byte ((own_k3 (u0 &&& (255 : Int32))).toInt8.toInt32))), (.int (0 : Int32)), (.int (0 : Int32))] := hw4_q3
  have V_a1__q3 := V_a1__q1.keep Kq_q3 (ninS ne_a1_r1_q1 (ninS ne_a1_r2_q1 nin0))
  have S_COMPACT_STRINGS__q3 := own_sta_keep S_COMPACT_STRINGS__q1 Kq_q3 (allS (own_ns O0_q1) (allS (own_ns O5_q1) all0))
  have S_HEX_DIGITS__q3 := own_sta_keep S_HEX_DIGITS__q1 Kq_q3 (allS (own_ns O0_q1) (allS (own_ns O5_q1) all0))
  have V_ha__q3 := V_ha__q1.keep Kq_q3 (ninS ne_ha_r1_q1 (ninS ne_ha_r2_q1 nin0))
  have O0_q1__q3 := O0_q1.keep Kq_q3
  have K_q3 : Keep h0 h_q3 [] := K_q1.trans Kq_q3 (allS (Or.inr sz_r1_q1) (allS (Or.inr sz_r2_q1) all0))
  have O2_q3l : Fld Z h_q3 r1_q1 "java/lang/AbstractStringBuilder" "count" "I" (.int (4 : Int32)) := O2_q3
  obtain ⟨T_q9, h_q9, L_q9, r1_q9, kr1_q9, w1_q9, w2_q9, w3_q9, w4_q9, X_q9, e_q9, N_q9, Kq_q9, sz0_r1_q9, hw1_q9, hw2_q9, hw3_q9, hw4_q9, O0_q9, O1_q9, O2_q9, O3_q9, O4_q9, st_q9⟩ := own_t12 a1 r1_q1 r1_q3 ha ka kr1_q3 kh (2 : Int32) (1 : Int32) [(.int u0), (.int u1)] u1 (6 : Int32) [(.int (nar .byte ((92 : Int32).toInt8.toInt32))), (.int (nar .byte ((120 : Int32).toInt8.toInt32))), (.int (nar .byte ((own_k2 (u0 &&& (255 : Int32))).toInt8.toInt32))), (.int (nar .byte ((own_k3 (u0 &&& (255 : Int32))).toInt8.toInt32))), (.int (0 : Int32)), (.int (0 : Int32))] (4 : Int32) (14 : Int32) cs (.val (.int u0)) (.val (.int (u0 &&& (255 : Int32)))) X_q3 hx hZ hw hby hml hown e_q3 N_q3 (Nat.le_trans Z0 K_q3.1) (by decide : 3 + 1 ≤ _) (by decide : 25 + 18 ≤ _) V_a1__q3 O0_q1__q3 O0_q3 O1_q3 O2_q3l O3_q3 O4_q3 S_COMPACT_STRINGS__q3 S_HEX_DIGITS__q3 V_ha__q3 ge_r1_q1 ge_r1_q3 (Ne.symm ne_r1_q1_r1_q3) ne_a1_r1_q1 ne_a1_r1_q3 ne_ha_r1_q1 ne_ha_r1_q3 rfl (by decide) (by decide) rfl rfl rfl hc_q10 (by decide) hc_q2 (by decide) (by decide) (by decide) hc_q11 (by decide) (by decide) (by decide) (by decide) (by decide) (by decide) (by decide) (by decide) (by decide) (by decide) (by decide) hc_q12 (by decide) hc_q13 (by decide) hc_q14 (by decide)
  obtain rfl : w1_q9 = [(.int (nar .byte ((92 : Int32).toInt8.toInt32))), (.int (nar .byte ((120 : Int32).toInt8.toInt32))), (.int (nar .byte ((own_k2 (u0 &&& (255 : Int32))).toInt8.toInt32))), (.int (nar .byte ((own_k3 (u0 &&& (255 : Int32))).toInt8.toInt32))), (.int (nar .byte ((92 : Int32).toInt8.toInt32))), (.int (0 : Int32))] := hw1_q9
  obtain rfl : w2_q9 = [(.int (nar .byte ((92 : Int32).toInt8.toInt32))), (.int (nar .byte ((120 : Int32).toInt8.toInt32))), (.int (nar .byte ((own_k2 (u0 &&& (255 : Int32))).toInt8.toInt32))), (.int (nar .byte ((own_k3 (u0 &&& (255 : Int32))).toInt8.toInt32))), (.int (nar .byte ((92 : Int32).toInt8.toInt32))), (.int (nar .byte ((120 : Int32).toInt8.toInt32)))] := hw2_q9
  obtain rfl : w3_q9 = [(.int (nar .byte ((92 : Int32).toInt8.toInt32))), (.int (nar .byte ((120 : Int32).toInt8.toInt32))), (.int (nar .byte ((own_k2 (u0 &&& (255 : Int32))).toInt8.toInt32))), (.int (nar .byte ((own_k3 (u0 &&& (255 : Int32))).toInt8.toInt32))), (.int (nar .byte ((92 : Int32).toInt8.toInt32))), (.int (nar .byte ((120 : Int32).toInt8.toInt32))), (.int (nar .byte ((own_k2 (u1 &&& (255 : Int32))).toInt8.toInt32))), (.int (0 : Int32)), (.int (0 : Int32)), (.int (0 : Int32)), (.int (0 : Int32)), (.int (0 : Int32)), (.int (0 : Int32)), (.int (0 : Int32))] := hw3_q9
  obtain rfl : w4_q9 = [(.int (nar .byte ((92 : Int32).toInt8.toInt32))), (.int (nar .byte ((120 : Int32).toInt8.toInt32))), (.int (nar .byte ((own_k2 (u0 &&& (255 : Int32))).toInt8.toInt32))), (.int (nar .byte ((own_k3 (u0 &&& (255 : Int32))).toInt8.toInt32))), (.int (nar .byte ((92 : Int32).toInt8.toInt32))), (.int (nar .byte ((120 : Int32).toInt8.toInt32))), (.int (nar .byte ((own_k2 (u1 &&& (255 : Int32))).toInt8.toInt32))), (.int (nar .byte ((own_k3 (u1 &&& (255 : Int32))).toInt8.toInt32))), (.int (0 : Int32)), (.int (0 : Int32)), (.int (0 : Int32)), (.int (0 : Int32)), (.int (0 : Int32)), (.int (0 : Int32))] := hw4_q9
  have S_COMPACT_STRINGS__q9 := own_sta_keep S_COMPACT_STRINGS__q3 Kq_q9 (allS (own_ns O0_q1__q3) (allS (own_ns O4_q3) all0))
  have O0_q1__q9 := O0_q1__q3.keep Kq_q9
  have K_q9 : Keep h0 h_q9 [] := K_q3.trans Kq_q9 (allS (Or.inr sz_r1_q1) (allS (Or.inr sz_r1_q3) all0))
  have O2_q9l : Fld Z h_q9 r1_q1 "java/lang/AbstractStringBuilder" "count" "I" (.int (8 : Int32)) := O2_q9
  obtain ⟨cq_q15, kq_q15, qa_q15, qb_q15, qc_q15⟩ := isOf hZ e_q9 O0_q1__q9
  obtain ⟨_, _, ⟨T_q15, L_q15, k_q15, n_q15⟩, -, X_q15, ⟨Lc_q15, hQ_q15, l_q15, y_q15, z_q15⟩, st_q15⟩ := X_q9.virtualBack hx (y := (⟨"java/lang/StringBuilder", "toString", "()Ljava/lang/String;"⟩ : MethodName)) (z := (⟨"java/lang/StringBuilder", "toString", "()Ljava/lang/String;"⟩ : MethodName)) hown (mvT hZ (own_w hw 80 rfl)) (mvT hZ (own_w hw 81 rfl)) (notFace_of_selects (args := #[]) (mvT hZ (own_w hw 83 rfl))) (mvT hZ (own_w hw 83 rfl)) (mvT hZ (own_w hw 82 rfl)) (by decide) (backOf (W := 0) (rmTSr l Z a0 hw [] r1_q1 r1_q9 kr1_q9 (14 : Int32) [(.int (nar .byte ((92 : Int32).toInt8.toInt32))), (.int (nar .byte ((120 : Int32).toInt8.toInt32))), (.int (nar .byte ((own_k2 (u0 &&& (255 : Int32))).toInt8.toInt32))), (.int (nar .byte ((own_k3 (u0 &&& (255 : Int32))).toInt8.toInt32))), (.int (nar .byte ((92 : Int32).toInt8.toInt32))), (.int (nar .byte ((120 : Int32).toInt8.toInt32))), (.int (nar .byte ((own_k2 (u1 &&& (255 : Int32))).toInt8.toInt32))), (.int (nar .byte ((own_k3 (u1 &&& (255 : Int32))).toInt8.toInt32))), (.int (0 : Int32)), (.int (0 : Int32)), (.int (0 : Int32)), (.int (0 : Int32)), (.int (0 : Int32)), (.int (0 : Int32))] (8 : Int32) cs h_q9 n0 (Nat.le_trans Z0 K_q9.1) O0_q1__q9 O0_q9 O1_q9 O2_q9l O3_q9 O4_q9 S_COMPACT_STRINGS__q9 hc_q2 (by decide) (by decide) (by decide) (by decide) (by decide) (by decide)) hZ (own_w hw 84 rfl) (own_w hw 7 rfl) (by decide) (by decide)) qa_q15 qc_q15 (g := (mkF m 112 #[.val (.ref a1), .val (.ref r1_q1), .val (.ref a1), .val (.int (2 : Int32)), .val (.int (2 : Int32)), .val (.int u1), .val (.int (u1 &&& (255 : Int32)))] [(.ref r1_q1)])) rfl (by rw [hml]; rfl) (Steps.refl _) (argsL := []) (rest := []) (lenOf pd___Ljava_lang_String_ rfl) rfl (by show 2 * 0 + _ ≤ _; exact Nat.le_of_eq rfl) (hb hby d1_112) (fun _ _ => ⟨rfl, e_q9, (by decide : 4 + 2 ≤ _), (by decide : 43 + 16 ≤ _)⟩)
  dsimp only [Pt.U, Pt.locs, Pt.cells, Pt.slots] at X_q15 l_q15 y_q15 z_q15 st_q15 hQ_q15
  subst l_q15 y_q15 z_q15
  obtain ⟨r1_q15, r2_q15, kr2_q15, rfl, Nq_q15, Kq_q15, sz0_r1_q15, sz0_r2_q15, O0_q15, O1_q15, O2_q15, O3_q15, O4_q15⟩ := hQ_q15
  have N_q15 := Fr.app N_q9 Nq_q15
  have sz_r1_q15 : h0.size ≤ r1_q15 := Nat.le_trans K_q9.1 sz0_r1_q15
  have sz_r2_q15 : h0.size ≤ r2_q15 := Nat.le_trans K_q9.1 sz0_r2_q15
  have K_q15 : Keep h0 T_q15.heap [] := K_q9.trans Kq_q15 all0
  have O3_q15_l : Arv Z T_q15.heap r2_q15 kr2_q15 .byte (8 : Int32) [(.int (nar .byte ((92 : Int32).toInt8.toInt32))), (.int (nar .byte ((120 : Int32).toInt8.toInt32))), (.int (nar .byte ((own_k2 (u0 &&& (255 : Int32))).toInt8.toInt32))), (.int (nar .byte ((own_k3 (u0 &&& (255 : Int32))).toInt8.toInt32))), (.int (nar .byte ((92 : Int32).toInt8.toInt32))), (.int (nar .byte ((120 : Int32).toInt8.toInt32))), (.int (nar .byte ((own_k2 (u1 &&& (255 : Int32))).toInt8.toInt32))), (.int (nar .byte ((own_k3 (u1 &&& (255 : Int32))).toInt8.toInt32)))] (.int (0 : Int32)) := O3_q15
  obtain ⟨fs, hr, hrun, hended, hW, hsame⟩ := X_q15.leave (v := some (.ref r1_q15)) (fun h => by rw [Bd.returns] at h; cases h) Bd.notSynchronized
  refine ⟨_, _, pre0 _ ?_, hrun, hended, _, _, rfl, ?_, ⟨_, rfl⟩, hW, hsame.mono (by decide) (by decide)⟩
  · show Steps p.tables e below (s₁.setTop (mkF m 0 #[.val (.ref a1), .unset, .unset, .unset, .unset, .unset, .unset] [])) _
    refine st_q1 _ ?_
    show Steps p.tables e below (T_q1.setTop (mkF m 18 #[.val (.ref a1), .val (.ref r1_q1), .val (.ref a1), .val (.int (2 : Int32)), .val (.int (0 : Int32)), .unset, .unset] [])) _
    refine st_q3 _ ?_
    show Steps p.tables e below (T_q3.setTop (mkF m 18 #[.val (.ref a1), .val (.ref r1_q1), .val (.ref a1), .val (.int (2 : Int32)), .val (.int (1 : Int32)), .val (.int u0), .val (.int (u0 &&& (255 : Int32)))] [])) _
    refine st_q9 _ ?_
    refine XS.iload X_q9.here hx rfl (hb hby d1_18) rfl ?_
    refine XS.iloadN X_q9.here hx rfl (hb hby d1_20) rfl ?_
    refine XS.icmpYes X_q9.here hx rfl (pc0 := 21) (pc' := 111) rfl (hb hby d1_21) rfl (flt (by decide : ¬ ((2 : Int32) < (2 : Int32)))).2.1 (by decide) (by decide) ?_
    show Steps p.tables e below (T_q9.setTop (mkF m 111 #[.val (.ref a1), .val (.ref r1_q1), .val (.ref a1), .val (.int (2 : Int32)), .val (.int (2 : Int32)), .val (.int u1), .val (.int (u1 &&& (255 : Int32)))] [])) _
    refine XS.aloadN X_q9.here hx rfl (hb hby d1_111) rfl rfl ?_
    show Steps p.tables e below (T_q9.setTop (mkF m 112 #[.val (.ref a1), .val (.ref r1_q1), .val (.ref a1), .val (.int (2 : Int32)), .val (.int (2 : Int32)), .val (.int u1), .val (.int (u1 &&& (255 : Int32)))] [(.ref r1_q1)])) _
    refine st_q15.trans ?_
    show Steps p.tables e below (T_q15.setTop (mkF m 115 #[.val (.ref a1), .val (.ref r1_q1), .val (.ref a1), .val (.int (2 : Int32)), .val (.int (2 : Int32)), .val (.int u1), .val (.int (u1 &&& (255 : Int32)))] [(.ref r1_q15)])) _
    jvm_step X_q15.here [X_q15.here.top, hx, (hb hby d1_115), X_q15.method', Bd.returns, Value.isRef, FieldType.isReference]
    first | (intro acts; rw [hr _ acts rfl rfl rfl]) | rw [hr _ _ rfl rfl rfl]
    exact Steps.refl _
  · show Q_rmEn_2_11 Z a1 ha ka kh cs u0 u1 h0 n0 _ T_q15.heap _
    exact ⟨r1_q15, r2_q15, kr2_q15, rfl, N_q15, K_q15, sz_r1_q15, sz_r2_q15, O0_q15, O1_q15, O2_q15, O3_q15_l⟩
def Q_rmEn_3_000 (Z : State) (a1 ha : Addr) (ka kh : ClassId) (cs : Int32) (u0 : Int32) (u1 : Int32) (u2 : Int32) (h0 : Heap) (n0 : Nat) (v : Option Value) (h : Heap) (L : List Loc) : Prop := ∃ (r1 : Addr) (r2 : Addr) (kr2 : ClassId), v = some (.ref r1) ∧ Fr n0 L ∧ Keep h0 h [] ∧ h0.size ≤ r1 ∧ h0.size ≤ r2 ∧ Exa Z h r1 "java/lang/String" ∧ Fld Z h r1 "java/lang/String" "value" "[B" (.ref r2) ∧ Fld Z h r1 "java/lang/String" "coder" "B" (.int (0 : Int32)) ∧ Arv Z h r2 kr2 .byte (3 : Int32) [(.int (nar .byte ((own_k0 (u0 &&& (255 : Int32))).toInt8.toInt32))), (.int (nar .byte ((own_k0 (u1 &&& (255 : Int32))).toInt8.toInt32))), (.int (nar .byte ((own_k0 (u2 &&& (255 : Int32))).toInt8.toInt32)))] (.int (0 : Int32))
set_option maxRecDepth 65536 in
set_option maxHeartbeats 40000000 in
theorem rmEn_3_000 (l : Launch) (Z : State) (a0 : Array Value) (hw : ∀ d ∈ tables_1, d.before a0 Z = true) (ws : List Jvm.Cond) (a1 ha : Addr) (ka kh : ClassId) (cs : Int32) (u0 : Int32) (u1 : Int32) (u2 : Int32) (h0 : Heap) (n0 : Nat) (Z0 : n0 ≤ h0.size) (V_a1 : Arv Z h0 a1 ka .byte (3 : Int32) [(.int u0), (.int u1), (.int u2)] (.int (0 : Int32))) (S_COMPACT_STRINGS : Sta Z h0 "java/lang/String" "COMPACT_STRINGS" "Z" (.int cs)) (S_HEX_DIGITS : Sta Z h0 "com/example/presplit/presplit/escape/BinaryEscape" "HEX_DIGITS" "[C" (.ref ha)) (V_ha : Arv Z h0 ha kh .char (16 : Int32) own_hexL (.int (0 : Int32))) (hc_q2 : ¬ (cs = (0 : Int32))) (hc_q4 : own_pl (u0 &&& (255 : Int32))) (hc_q5 : ¬ ((F9_0 (own_k0 (u0 &&& (255 : Int32)))) = (0 : Int32))) (hc_q7 : own_pl (u1 &&& (255 : Int32))) (hc_q8 : ¬ ((F9_0 (own_k0 (u1 &&& (255 : Int32)))) = (0 : Int32))) (hc_q10 : own_pl (u2 &&& (255 : Int32))) (hc_q11 : ¬ ((F9_0 (own_k0 (u2 &&& (255 : Int32)))) = (0 : Int32))) :
    MetFree l (⟨"com/example/presplit/presplit/escape/BinaryEscape", "encode", "([B)Ljava/lang/String;"⟩ : MethodName) (head1 (Jvm.Cond.code (⟨"com/example/presplit/presplit/escape/BinaryEscape", "encode", "([B)Ljava/lang/String;"⟩ : MethodName) prog_1_method_2_code 7 (some (.object "java/lang/String")) :: ws) ({ frames := 9, cells := 6, slots := 70, locals := 180 } : Room)) (fun a U => a = #[(.ref a1)] ∧ Z.Warmed39 U.vm ∧ U.heap = h0) (fun _ _ _ _ _ => True) (fun _ U o U' => ∃ v L, o = .returned v ∧ Q_rmEn_3_000 Z a1 ha ka kh cs u0 u1 u2 h0 n0 v U'.heap L ∧ FrameEnd U o U' L ({ frames := 9, cells := 6, slots := 70, locals := 180 } : Room).cells ({ frames := 9, cells := 6, slots := 70, locals := 180 } : Room).slots) := by
  refine MetFree.of_bodySF (plainFor_of_name pn_1) hisR ?_
  intro p e s m args below meth c s₁ Bd hml0 hP hK
  obtain ⟨rfl, hZ, hh⟩ := hP
  have hx := Bd.exec
  have hby := Bd.bytes
  have hml : c.maxLocals = 7 := hml0
  have hown : s.vm.findClass "com/example/presplit/presplit/escape/BinaryEscape" = some m.cls := findClass_of_methodNamed Bd.named
  have hnm := (name_of_methodNamed Bd.named Bd.method).1
  have X0 : Stand p l e ({ frames := 9, cells := 6, slots := 70, locals := 180 } : Room) s m #[(.ref a1)] below meth c s₁ [] 0 0 := Stand.of_body Bd
  have e0 : s₁.heap = h0 := by rw [← hh, Bd.state]; rfl
  have N0 := Fr.nil n0
  have pre0 : ∀ t, Steps p.tables e below (s₁.setTop (mkF m 0 #[.val (.ref a1), .unset, .unset, .unset, .unset, .unset, .unset] [])) t → Steps p.tables e below (s₁.setTop (entryFrame m #[(.ref a1)] 7)) t := fun t k => castTop (ef_1 m a1) k
  have K0 : Keep h0 h0 [] := Keep.refl _ _
  obtain ⟨T_q1, h_q1, L_q1, r1_q1, r2_q1, kr2_q1, X_q1, e_q1, N_q1, Kq_q1, sz0_r1_q1, sz0_r2_q1, nq0_q1, O0_q1, O1_q1, O2_q1, O3_q1, O4_q1, O5_q1, st_q1⟩ := own_t_ a1 ka (3 : Int32) [(.int u0), (.int u1), (.int u2)] cs X0 hx hZ hw hby hml hown e0 N0 (Nat.le_trans Z0 K0.1) (by decide : 0 + 2 ≤ _) (by decide : 0 + 7 ≤ _) V_a1 S_COMPACT_STRINGS hc_q2 (by decide) (by decide)
  have ge_r1_q1 : n0 ≤ r1_q1 := Nat.le_trans (Nat.le_trans Z0 K0.1) sz0_r1_q1
  have sz_r1_q1 : h0.size ≤ r1_q1 := Nat.le_trans K0.1 sz0_r1_q1
  have ne_a1_r1_q1 : a1 ≠ r1_q1 := Nat.ne_of_lt (Nat.lt_of_lt_of_le V_a1.lt sz0_r1_q1)
  have ne_ha_r1_q1 : ha ≠ r1_q1 := Nat.ne_of_lt (Nat.lt_of_lt_of_le V_ha.lt sz0_r1_q1)
  have ge_r2_q1 : n0 ≤ r2_q1 := Nat.le_trans (Nat.le_trans Z0 K0.1) sz0_r2_q1
  have sz_r2_q1 : h0.size ≤ r2_q1 := Nat.le_trans K0.1 sz0_r2_q1
  have ne_a1_r2_q1 : a1 ≠ r2_q1 := Nat.ne_of_lt (Nat.lt_of_lt_of_le V_a1.lt sz0_r2_q1)
  have ne_ha_r2_q1 : ha ≠ r2_q1 := Nat.ne_of_lt (Nat.lt_of_lt_of_le V_ha.lt sz0_r2_q1)
  have V_a1__q1 := V_a1.keep Kq_q1 nin0
  have S_COMPACT_STRINGS__q1 := own_sta_keep S_COMPACT_STRINGS Kq_q1 all0
  have S_HEX_DIGITS__q1 := own_sta_keep S_HEX_DIGITS Kq_q1 all0
  have V_ha__q1 := V_ha.keep Kq_q1 nin0
  have K_q1 : Keep h0 h_q1 [] := K0.trans Kq_q1 all0
  have O4_q1l : Arv Z h_q1 r2_q1 kr2_q1 .byte (3 : Int32) [(.int (0 : Int32)), (.int (0 : Int32)), (.int (0 : Int32))] (.int (0 : Int32)) := O4_q1
  obtain ⟨T_q3, h_q3, L_q3, w1_q3, X_q3, e_q3, N_q3, Kq_q3, hw1_q3, O0_q3, O1_q3, O2_q3, O3_q3, O4_q3, st_q3⟩ := own_t0n a1 r1_q1 r2_q1 ha ka kr2_q1 kh (3 : Int32) (0 : Int32) [(.int u0), (.int u1), (.int u2)] u0 (3 : Int32) [(.int (0 : Int32)), (.int (0 : Int32)), (.int (0 : Int32))] (0 : Int32) (8 : Int32) cs (.unset) (.unset) X_q1 hx hZ hw hby hml hown e_q1 N_q1 (Nat.le_trans Z0 K_q1.1) (by decide : 2 + 0 ≤ _) (by decide : 7 + 0 ≤ _) V_a1__q1 O0_q1 O1_q1 O2_q1 O3_q1 O4_q1l O5_q1 S_COMPACT_STRINGS__q1 S_HEX_DIGITS__q1 V_ha__q1 ge_r1_q1 ge_r2_q1 nq0_q1 ne_a1_r1_q1 ne_a1_r2_q1 ne_ha_r1_q1 ne_ha_r2_q1 rfl (by decide) (by decide) rfl rfl rfl hc_q4 (by decide) hc_q2 hc_q5 (by decide)
  obtain rfl : w1_q3 = [(.int (nar .byte ((own_k0 (u0 &&& (255 : Int32))).toInt8.toInt32))), (.int (0 : Int32)), (.int (0 : Int32))] := hw1_q3
  have V_a1__q3 := V_a1__q1.keep Kq_q3 (ninS ne_a1_r1_q1 (ninS ne_a1_r2_q1 nin0))
  have S_COMPACT_STRINGS__q3 := own_sta_keep S_COMPACT_STRINGS__q1 Kq_q3 (allS (own_ns O0_q1) (allS (own_ns O5_q1) all0))
  have S_HEX_DIGITS__q3 := own_sta_keep S_HEX_DIGITS__q1 Kq_q3 (allS (own_ns O0_q1) (allS (own_ns O5_q1) all0))
  have V_ha__q3 := V_ha__q1.keep Kq_q3 (ninS ne_ha_r1_q1 (ninS ne_ha_r2_q1 nin0))
  have O0_q1__q3 := O0_q1.keep Kq_q3
  have K_q3 : Keep h0 h_q3 [] := K_q1.trans Kq_q3 (allS (Or.inr sz_r1_q1) (allS (Or.inr sz_r2_q1) all0))
  have O2_q3l : Fld Z h_q3 r1_q1 "java/lang/AbstractStringBuilder" "count" "I" (.int (1 : Int32)) := O2_q3
  obtain ⟨T_q6, h_q6, L_q6, w1_q6, X_q6, e_q6, N_q6, Kq_q6, hw1_q6, O0_q6, O1_q6, O2_q6, O3_q6, O4_q6, st_q6⟩ := own_t0n a1 r1_q1 r2_q1 ha ka kr2_q1 kh (3 : Int32) (1 : Int32) [(.int u0), (.int u1), (.int u2)] u1 (3 : Int32) [(.int (nar .byte ((own_k0 (u0 &&& (255 : Int32))).toInt8.toInt32))), (.int (0 : Int32)), (.int (0 : Int32))] (1 : Int32) (8 : Int32) cs (.val (.int u0)) (.val (.int (u0 &&& (255 : Int32)))) X_q3 hx hZ hw hby hml hown e_q3 N_q3 (Nat.le_trans Z0 K_q3.1) (by decide : 2 + 0 ≤ _) (by decide : 7 + 0 ≤ _) V_a1__q3 O0_q1__q3 O0_q3 O1_q3 O2_q3l O3_q3 O4_q3 S_COMPACT_STRINGS__q3 S_HEX_DIGITS__q3 V_ha__q3 ge_r1_q1 ge_r2_q1 nq0_q1 ne_a1_r1_q1 ne_a1_r2_q1 ne_ha_r1_q1 ne_ha_r2_q1 rfl (by decide) (by decide) rfl rfl rfl hc_q7 (by decide) hc_q2 hc_q8 (by decide)
  obtain rfl : w1_q6 = [(.int (nar .byte ((own_k0 (u0 &&& (255 : Int32))).toInt8.toInt32))), (.int (nar .byte ((own_k0 (u1 &&& (255 : Int32))).toInt8.toInt32))), (.int (0 : Int32))] := hw1_q6
  have V_a1__q6 := V_a1__q3.keep Kq_q6 (ninS ne_a1_r1_q1 (ninS ne_a1_r2_q1 nin0))
  have S_COMPACT_STRINGS__q6 := own_sta_keep S_COMPACT_STRINGS__q3 Kq_q6 (allS (own_ns O0_q1__q3) (allS (own_ns O4_q3) all0))
  have S_HEX_DIGITS__q6 := own_sta_keep S_HEX_DIGITS__q3 Kq_q6 (allS (own_ns O0_q1__q3) (allS (own_ns O4_q3) all0))
  have V_ha__q6 := V_ha__q3.keep Kq_q6 (ninS ne_ha_r1_q1 (ninS ne_ha_r2_q1 nin0))
  have O0_q1__q6 := O0_q1__q3.keep Kq_q6
  have K_q6 : Keep h0 h_q6 [] := K_q3.trans Kq_q6 (allS (Or.inr sz_r1_q1) (allS (Or.inr sz_r2_q1) all0))
  have O2_q6l : Fld Z h_q6 r1_q1 "java/lang/AbstractStringBuilder" "count" "I" (.int (2 : Int32)) := O2_q6
  obtain ⟨T_q9, h_q9, L_q9, w1_q9, X_q9, e_q9, N_q9, Kq_q9, hw1_q9, O0_q9, O1_q9, O2_q9, O3_q9, O4_q9, st_q9⟩ := own_t0n a1 r1_q1 r2_q1 ha ka kr2_q1 kh (3 : Int32) (2 : Int32) [(.int u0), (.int u1), (.int u2)] u2 (3 : Int32) [(.int (nar .byte ((own_k0 (u0 &&& (255 : Int32))).toInt8.toInt32))), (.int (nar .byte ((own_k0 (u1 &&& (255 : Int32))).toInt8.toInt32))), (.int (0 : Int32))] (2 : Int32) (8 : Int32) cs (.val (.int u1)) (.val (.int (u1 &&& (255 : Int32)))) X_q6 hx hZ hw hby hml hown e_q6 N_q6 (Nat.le_trans Z0 K_q6.1) (by decide : 2 + 0 ≤ _) (by decide : 7 + 0 ≤ _) V_a1__q6 O0_q1__q6 O0_q6 O1_q6 O2_q6l O3_q6 O4_q6 S_COMPACT_STRINGS__q6 S_HEX_DIGITS__q6 V_ha__q6 ge_r1_q1 ge_r2_q1 nq0_q1 ne_a1_r1_q1 ne_a1_r2_q1 ne_ha_r1_q1 ne_ha_r2_q1 rfl (by decide) (by decide) rfl rfl rfl hc_q10 (by decide) hc_q2 hc_q11 (by decide)
  obtain rfl : w1_q9 = [(.int (nar .byte ((own_k0 (u0 &&& (255 : Int32))).toInt8.toInt32))), (.int (nar .byte ((own_k0 (u1 &&& (255 : Int32))).toInt8.toInt32))), (.int (nar .byte ((own_k0 (u2 &&& (255 : Int32))).toInt8.toInt32)))] := hw1_q9
  have S_COMPACT_STRINGS__q9 := own_sta_keep S_COMPACT_STRINGS__q6 Kq_q9 (allS (own_ns O0_q1__q6) (allS (own_ns O4_q6) all0))
  have O0_q1__q9 := O0_q1__q6.keep Kq_q9
  have K_q9 : Keep h0 h_q9 [] := K_q6.trans Kq_q9 (allS (Or.inr sz_r1_q1) (allS (Or.inr sz_r2_q1) all0))
  have O2_q9l : Fld Z h_q9 r1_q1 "java/lang/AbstractStringBuilder" "count" "I" (.int (3 : Int32)) := O2_q9
  obtain ⟨cq_q12, kq_q12, qa_q12, qb_q12, qc_q12⟩ := isOf hZ e_q9 O0_q1__q9
  obtain ⟨_, _, ⟨T_q12, L_q12, k_q12, n_q12⟩, -, X_q12, ⟨Lc_q12, hQ_q12, l_q12, y_q12, z_q12⟩, st_q12⟩ := X_q9.virtualBack hx (y := (⟨"java/lang/StringBuilder", "toString", "()Ljava/lang/String;"⟩ : MethodName)) (z := (⟨"java/lang/StringBuilder", "toString", "()Ljava/lang/String;"⟩ : MethodName)) hown (mvT hZ (own_w hw 80 rfl)) (mvT hZ (own_w hw 81 rfl)) (notFace_of_selects (args := #[]) (mvT hZ (own_w hw 83 rfl))) (mvT hZ (own_w hw 83 rfl)) (mvT hZ (own_w hw 82 rfl)) (by decide) (backOf (W := 0) (rmTSc l Z a0 hw [] r1_q1 r2_q1 kr2_q1 (3 : Int32) [(.int (nar .byte ((own_k0 (u0 &&& (255 : Int32))).toInt8.toInt32))), (.int (nar .byte ((own_k0 (u1 &&& (255 : Int32))).toInt8.toInt32))), (.int (nar .byte ((own_k0 (u2 &&& (255 : Int32))).toInt8.toInt32)))] (3 : Int32) cs h_q9 n0 (Nat.le_trans Z0 K_q9.1) O0_q1__q9 O0_q9 O1_q9 O2_q9l O3_q9 O4_q9 S_COMPACT_STRINGS__q9 hc_q2 (by decide) (by decide)) hZ (own_w hw 84 rfl) (own_w hw 7 rfl) (by decide) (by decide)) qa_q12 qc_q12 (g := (mkF m 112 #[.val (.ref a1), .val (.ref r1_q1), .val (.ref a1), .val (.int (3 : Int32)), .val (.int (3 : Int32)), .val (.int u2), .val (.int (u2 &&& (255 : Int32)))] [(.ref r1_q1)])) rfl (by rw [hml]; rfl) (Steps.refl _) (argsL := []) (rest := []) (lenOf pd___Ljava_lang_String_ rfl) rfl (by show 2 * 0 + _ ≤ _; exact Nat.le_of_eq rfl) (hb hby d1_112) (fun _ _ => ⟨rfl, e_q9, (by decide : 2 + 2 ≤ _), (by decide : 7 + 16 ≤ _)⟩)
  dsimp only [Pt.U, Pt.locs, Pt.cells, Pt.slots] at X_q12 l_q12 y_q12 z_q12 st_q12 hQ_q12
  subst l_q12 y_q12 z_q12
  obtain ⟨r1_q12, r2_q12, rfl, Nq_q12, Kq_q12, sz0_r1_q12, sz0_r2_q12, O0_q12, O1_q12, O2_q12, O3_q12, O4_q12⟩ := hQ_q12
  have N_q12 := Fr.app N_q9 Nq_q12
  have sz_r1_q12 : h0.size ≤ r1_q12 := Nat.le_trans K_q9.1 sz0_r1_q12
  have sz_r2_q12 : h0.size ≤ r2_q12 := Nat.le_trans K_q9.1 sz0_r2_q12
  have K_q12 : Keep h0 T_q12.heap [] := K_q9.trans Kq_q12 all0
  have O3_q12_l : Arv Z T_q12.heap r2_q12 kr2_q1 .byte (3 : Int32) [(.int (nar .byte ((own_k0 (u0 &&& (255 : Int32))).toInt8.toInt32))), (.int (nar .byte ((own_k0 (u1 &&& (255 : Int32))).toInt8.toInt32))), (.int (nar .byte ((own_k0 (u2 &&& (255 : Int32))).toInt8.toInt32)))] (.int (0 : Int32)) := O3_q12
  obtain ⟨fs, hr, hrun, hended, hW, hsame⟩ := X_q12.leave (v := some (.ref r1_q12)) (fun h => by rw [Bd.returns] at h; cases h) Bd.notSynchronized
  refine ⟨_, _, pre0 _ ?_, hrun, hended, _, _, rfl, ?_, ⟨_, rfl⟩, hW, hsame.mono (by decide) (by decide)⟩
  · show Steps p.tables e below (s₁.setTop (mkF m 0 #[.val (.ref a1), .unset, .unset, .unset, .unset, .unset, .unset] [])) _
    refine st_q1 _ ?_
    show Steps p.tables e below (T_q1.setTop (mkF m 18 #[.val (.ref a1), .val (.ref r1_q1), .val (.ref a1), .val (.int (3 : Int32)), .val (.int (0 : Int32)), .unset, .unset] [])) _
    refine st_q3 _ ?_
    show Steps p.tables e below (T_q3.setTop (mkF m 18 #[.val (.ref a1), .val (.ref r1_q1), .val (.ref a1), .val (.int (3 : Int32)), .val (.int (1 : Int32)), .val (.int u0), .val (.int (u0 &&& (255 : Int32)))] [])) _
    refine st_q6 _ ?_
    show Steps p.tables e below (T_q6.setTop (mkF m 18 #[.val (.ref a1), .val (.ref r1_q1), .val (.ref a1), .val (.int (3 : Int32)), .val (.int (2 : Int32)), .val (.int u1), .val (.int (u1 &&& (255 : Int32)))] [])) _
    refine st_q9 _ ?_
    refine XS.iload X_q9.here hx rfl (hb hby d1_18) rfl ?_
    refine XS.iloadN X_q9.here hx rfl (hb hby d1_20) rfl ?_
    refine XS.icmpYes X_q9.here hx rfl (pc0 := 21) (pc' := 111) rfl (hb hby d1_21) rfl (flt (by decide : ¬ ((3 : Int32) < (3 : Int32)))).2.1 (by decide) (by decide) ?_
    show Steps p.tables e below (T_q9.setTop (mkF m 111 #[.val (.ref a1), .val (.ref r1_q1), .val (.ref a1), .val (.int (3 : Int32)), .val (.int (3 : Int32)), .val (.int u2), .val (.int (u2 &&& (255 : Int32)))] [])) _
    refine XS.aloadN X_q9.here hx rfl (hb hby d1_111) rfl rfl ?_
    show Steps p.tables e below (T_q9.setTop (mkF m 112 #[.val (.ref a1), .val (.ref r1_q1), .val (.ref a1), .val (.int (3 : Int32)), .val (.int (3 : Int32)), .val (.int u2), .val (.int (u2 &&& (255 : Int32)))] [(.ref r1_q1)])) _
    refine st_q12.trans ?_
    show Steps p.tables e below (T_q12.setTop (mkF m 115 #[.val (.ref a1), .val (.ref r1_q1), .val (.ref a1), .val (.int (3 : Int32)), .val (.int (3 : Int32)), .val (.int u2), .val (.int (u2 &&& (255 : Int32)))] [(.ref r1_q12)])) _
    jvm_step X_q12.here [X_q12.here.top, hx, (hb hby d1_115), X_q12.method', Bd.returns, Value.isRef, FieldType.isReference]
    first | (intro acts; rw [hr _ acts rfl rfl rfl]) | rw [hr _ _ rfl rfl rfl]
    exact Steps.refl _
  · show Q_rmEn_3_000 Z a1 ha ka kh cs u0 u1 u2 h0 n0 _ T_q12.heap _
    exact ⟨r1_q12, r2_q12, kr2_q1, rfl, N_q12, K_q12, sz_r1_q12, sz_r2_q12, O0_q12, O1_q12, O2_q12, O3_q12_l⟩
def Q_rmEn_3_001 (Z : State) (a1 ha : Addr) (ka kh : ClassId) (cs : Int32) (u0 : Int32) (u1 : Int32) (u2 : Int32) (h0 : Heap) (n0 : Nat) (v : Option Value) (h : Heap) (L : List Loc) : Prop := ∃ (r1 : Addr) (r2 : Addr) (kr2 : ClassId), v = some (.ref r1) ∧ Fr n0 L ∧ Keep h0 h [] ∧ h0.size ≤ r1 ∧ h0.size ≤ r2 ∧ Exa Z h r1 "java/lang/String" ∧ Fld Z h r1 "java/lang/String" "value" "[B" (.ref r2) ∧ Fld Z h r1 "java/lang/String" "coder" "B" (.int (0 : Int32)) ∧ Arv Z h r2 kr2 .byte (6 : Int32) [(.int (nar .byte ((own_k0 (u0 &&& (255 : Int32))).toInt8.toInt32))), (.int (nar .byte ((own_k0 (u1 &&& (255 : Int32))).toInt8.toInt32))), (.int (nar .byte ((92 : Int32).toInt8.toInt32))), (.int (nar .byte ((120 : Int32).toInt8.toInt32))), (.int (nar .byte ((own_k2 (u2 &&& (255 : Int32))).toInt8.toInt32))), (.int (nar .byte ((own_k3 (u2 &&& (255 : Int32))).toInt8.toInt32)))] (.int (0 : Int32))
set_option maxRecDepth 65536 in
set_option maxHeartbeats 40000000 in
theorem rmEn_3_001 (l : Launch) (Z : State) (a0 : Array Value) (hw : ∀ d ∈ tables_1, d.before a0 Z = true) (ws : List Jvm.Cond) (a1 ha : Addr) (ka kh : ClassId) (cs : Int32) (u0 : Int32) (u1 : Int32) (u2 : Int32) (h0 : Heap) (n0 : Nat) (Z0 : n0 ≤ h0.size) (V_a1 : Arv Z h0 a1 ka .byte (3 : Int32) [(.int u0), (.int u1), (.int u2)] (.int (0 : Int32))) (S_COMPACT_STRINGS : Sta Z h0 "java/lang/String" "COMPACT_STRINGS" "Z" (.int cs)) (S_HEX_DIGITS : Sta Z h0 "com/example/presplit/presplit/escape/BinaryEscape" "HEX_DIGITS" "[C" (.ref ha)) (V_ha : Arv Z h0 ha kh .char (16 : Int32) own_hexL (.int (0 : Int32))) (hc_q2 : ¬ (cs = (0 : Int32))) (hc_q4 : own_pl (u0 &&& (255 : Int32))) (hc_q5 : ¬ ((F9_0 (own_k0 (u0 &&& (255 : Int32)))) = (0 : Int32))) (hc_q7 : own_pl (u1 &&& (255 : Int32))) (hc_q8 : ¬ ((F9_0 (own_k0 (u1 &&& (255 : Int32)))) = (0 : Int32))) (hc_q10 : own_esc (u2 &&& (255 : Int32))) (hc_q11 : ¬ (((u2 &&& (255 : Int32)).toUInt32 >>> ((4 : Int32) &&& 31).toUInt32).toInt32) < 0 ∧ (((u2 &&& (255 : Int32)).toUInt32 >>> ((4 : Int32) &&& 31).toUInt32).toInt32) < (16 : Int32)) (hc_q12 : ¬ ((F9_0 (own_k2 (u2 &&& (255 : Int32)))) = (0 : Int32))) (hc_q13 : ¬ ((u2 &&& (255 : Int32)) &&& (15 : Int32)) < 0 ∧ ((u2 &&& (255 : Int32)) &&& (15 : Int32)) < (16 : Int32)) (hc_q14 : ¬ ((F9_0 (own_k3 (u2 &&& (255 : Int32)))) = (0 : Int32))) :
    MetFree l (⟨"com/example/presplit/presplit/escape/BinaryEscape", "encode", "([B)Ljava/lang/String;"⟩ : MethodName) (head1 (Jvm.Cond.code (⟨"com/example/presplit/presplit/escape/BinaryEscape", "encode", "([B)Ljava/lang/String;"⟩ : MethodName) prog_1_method_2_code 7 (some (.object "java/lang/String")) :: ws) ({ frames := 9, cells := 6, slots := 70, locals := 180 } : Room)) (fun a U => a = #[(.ref a1)] ∧ Z.Warmed39 U.vm ∧ U.heap = h0) (fun _ _ _ _ _ => True) (fun _ U o U' => ∃ v L, o = .returned v ∧ Q_rmEn_3_001 Z a1 ha ka kh cs u0 u1 u2 h0 n0 v U'.heap L ∧ FrameEnd U o U' L ({ frames := 9, cells := 6, slots := 70, locals := 180 } : Room).cells ({ frames := 9, cells := 6, slots := 70, locals := 180 } : Room).slots) := by
  refine MetFree.of_bodySF (plainFor_of_name pn_1) hisR ?_
  intro p e s m args below meth c s₁ Bd hml0 hP hK
  obtain ⟨rfl, hZ, hh⟩ := hP
  have hx := Bd.exec
  have hby := Bd.bytes
  have hml : c.maxLocals = 7 := hml0
  have hown : s.vm.findClass "com/example/presplit/presplit/escape/BinaryEscape" = some m.cls := findClass_of_methodNamed Bd.named
  have hnm := (name_of_methodNamed Bd.named Bd.method).1
  have X0 : Stand p l e ({ frames := 9, cells := 6, slots := 70, locals := 180 } : Room) s m #[(.ref a1)] below meth c s₁ [] 0 0 := Stand.of_body Bd
  have e0 : s₁.heap = h0 := by rw [← hh, Bd.state]; rfl
  have N0 := Fr.nil n0
  have pre0 : ∀ t, Steps p.tables e below (s₁.setTop (mkF m 0 #[.val (.ref a1), .unset, .unset, .unset, .unset, .unset, .unset] [])) t → Steps p.tables e below (s₁.setTop (entryFrame m #[(.ref a1)] 7)) t := fun t k => castTop (ef_1 m a1) k
  have K0 : Keep h0 h0 [] := Keep.refl _ _
  obtain ⟨T_q1, h_q1, L_q1, r1_q1, r2_q1, kr2_q1, X_q1, e_q1, N_q1, Kq_q1, sz0_r1_q1, sz0_r2_q1, nq0_q1, O0_q1, O1_q1, O2_q1, O3_q1, O4_q1, O5_q1, st_q1⟩ := own_t_ a1 ka (3 : Int32) [(.int u0), (.int u1), (.int u2)] cs X0 hx hZ hw hby hml hown e0 N0 (Nat.le_trans Z0 K0.1) (by decide : 0 + 2 ≤ _) (by decide : 0 + 7 ≤ _) V_a1 S_COMPACT_STRINGS hc_q2 (by decide) (by decide)
  have ge_r1_q1 : n0 ≤ r1_q1 := Nat.le_trans (Nat.le_trans Z0 K0.1) sz0_r1_q1
  have sz_r1_q1 : h0.size ≤ r1_q1 := Nat.le_trans K0.1 sz0_r1_q1
  have ne_a1_r1_q1 : a1 ≠ r1_q1 := Nat.ne_of_lt (Nat.lt_of_lt_of_le V_a1.lt sz0_r1_q1)
  have ne_ha_r1_q1 : ha ≠ r1_q1 := Nat.ne_of_lt (Nat.lt_of_lt_of_le V_ha.lt sz0_r1_q1)
  have ge_r2_q1 : n0 ≤ r2_q1 := Nat.le_trans (Nat.le_trans Z0 K0.1) sz0_r2_q1
  have sz_r2_q1 : h0.size ≤ r2_q1 := Nat.le_trans K0.1 sz0_r2_q1
  have ne_a1_r2_q1 : a1 ≠ r2_q1 := Nat.ne_of_lt (Nat.lt_of_lt_of_le V_a1.lt sz0_r2_q1)
  have ne_ha_r2_q1 : ha ≠ r2_q1 := Nat.ne_of_lt (Nat.lt_of_lt_of_le V_ha.lt sz0_r2_q1)
  have V_a1__q1 := V_a1.keep Kq_q1 nin0
  have S_COMPACT_STRINGS__q1 := own_sta_keep S_COMPACT_STRINGS Kq_q1 all0
  have S_HEX_DIGITS__q1 := own_sta_keep S_HEX_DIGITS Kq_q1 all0
  have V_ha__q1 := V_ha.keep Kq_q1 nin0
  have K_q1 : Keep h0 h_q1 [] := K0.trans Kq_q1 all0
  have O4_q1l : Arv Z h_q1 r2_q1 kr2_q1 .byte (3 : Int32) [(.int (0 : Int32)), (.int (0 : Int32)), (.int (0 : Int32))] (.int (0 : Int32)) := O4_q1
  obtain ⟨T_q3, h_q3, L_q3, w1_q3, X_q3, e_q3, N_q3, Kq_q3, hw1_q3, O0_q3, O1_q3, O2_q3, O3_q3, O4_q3, st_q3⟩ := own_t0n a1 r1_q1 r2_q1 ha ka kr2_q1 kh (3 : Int32) (0 : Int32) [(.int u0), (.int u1), (.int u2)] u0 (3 : Int32) [(.int (0 : Int32)), (.int (0 : Int32)), (.int (0 : Int32))] (0 : Int32) (8 : Int32) cs (.unset) (.unset) X_q1 hx hZ hw hby hml hown e_q1 N_q1 (Nat.le_trans Z0 K_q1.1) (by decide : 2 + 0 ≤ _) (by decide : 7 + 0 ≤ _) V_a1__q1 O0_q1 O1_q1 O2_q1 O3_q1 O4_q1l O5_q1 S_COMPACT_STRINGS__q1 S_HEX_DIGITS__q1 V_ha__q1 ge_r1_q1 ge_r2_q1 nq0_q1 ne_a1_r1_q1 ne_a1_r2_q1 ne_ha_r1_q1 ne_ha_r2_q1 rfl (by decide) (by decide) rfl rfl rfl hc_q4 (by decide) hc_q2 hc_q5 (by decide)
  obtain rfl : w1_q3 = [(.int (nar .byte ((own_k0 (u0 &&& (255 : Int32))).toInt8.toInt32))), (.int (0 : Int32)), (.int (0 : Int32))] := hw1_q3
  have V_a1__q3 := V_a1__q1.keep Kq_q3 (ninS ne_a1_r1_q1 (ninS ne_a1_r2_q1 nin0))
  have S_COMPACT_STRINGS__q3 := own_sta_keep S_COMPACT_STRINGS__q1 Kq_q3 (allS (own_ns O0_q1) (allS (own_ns O5_q1) all0))
  have S_HEX_DIGITS__q3 := own_sta_keep S_HEX_DIGITS__q1 Kq_q3 (allS (own_ns O0_q1) (allS (own_ns O5_q1) all0))
  have V_ha__q3 := V_ha__q1.keep Kq_q3 (ninS ne_ha_r1_q1 (ninS ne_ha_r2_q1 nin0))
  have O0_q1__q3 := O0_q1.keep Kq_q3
  have K_q3 : Keep h0 h_q3 [] := K_q1.trans Kq_q3 (allS (Or.inr sz_r1_q1) (allS (Or.inr sz_r2_q1) all0))
  have O2_q3l : Fld Z h_q3 r1_q1 "java/lang/AbstractStringBuilder" "count" "I" (.int (1 : Int32)) := O2_q3
  obtain ⟨T_q6, h_q6, L_q6, w1_q6, X_q6, e_q6, N_q6, Kq_q6, hw1_q6, O0_q6, O1_q6, O2_q6, O3_q6, O4_q6, st_q6⟩ := own_t0n a1 r1_q1 r2_q1 ha ka kr2_q1 kh (3 : Int32) (1 : Int32) [(.int u0), (.int u1), (.int u2)] u1 (3 : Int32) [(.int (nar .byte ((own_k0 (u0 &&& (255 : Int32))).toInt8.toInt32))), (.int (0 : Int32)), (.int (0 : Int32))] (1 : Int32) (8 : Int32) cs (.val (.int u0)) (.val (.int (u0 &&& (255 : Int32)))) X_q3 hx hZ hw hby hml hown e_q3 N_q3 (Nat.le_trans Z0 K_q3.1) (by decide : 2 + 0 ≤ _) (by decide : 7 + 0 ≤ _) V_a1__q3 O0_q1__q3 O0_q3 O1_q3 O2_q3l O3_q3 O4_q3 S_COMPACT_STRINGS__q3 S_HEX_DIGITS__q3 V_ha__q3 ge_r1_q1 ge_r2_q1 nq0_q1 ne_a1_r1_q1 ne_a1_r2_q1 ne_ha_r1_q1 ne_ha_r2_q1 rfl (by decide) (by decide) rfl rfl rfl hc_q7 (by decide) hc_q2 hc_q8 (by decide)
  obtain rfl : w1_q6 = [(.int (nar .byte ((own_k0 (u0 &&& (255 : Int32))).toInt8.toInt32))), (.int (nar .byte ((own_k0 (u1 &&& (255 : Int32))).toInt8.toInt32))), (.int (0 : Int32))] := hw1_q6
  have V_a1__q6 := V_a1__q3.keep Kq_q6 (ninS ne_a1_r1_q1 (ninS ne_a1_r2_q1 nin0))
  have S_COMPACT_STRINGS__q6 := own_sta_keep S_COMPACT_STRINGS__q3 Kq_q6 (allS (own_ns O0_q1__q3) (allS (own_ns O4_q3) all0))
  have S_HEX_DIGITS__q6 := own_sta_keep S_HEX_DIGITS__q3 Kq_q6 (allS (own_ns O0_q1__q3) (allS (own_ns O4_q3) all0))
  have V_ha__q6 := V_ha__q3.keep Kq_q6 (ninS ne_ha_r1_q1 (ninS ne_ha_r2_q1 nin0))
  have O0_q1__q6 := O0_q1__q3.keep Kq_q6
  have K_q6 : Keep h0 h_q6 [] := K_q3.trans Kq_q6 (allS (Or.inr sz_r1_q1) (allS (Or.inr sz_r2_q1) all0))
  have O2_q6l : Fld Z h_q6 r1_q1 "java/lang/AbstractStringBuilder" "count" "I" (.int (2 : Int32)) := O2_q6
  obtain ⟨T_q9, h_q9, L_q9, r1_q9, kr1_q9, w1_q9, w2_q9, w3_q9, w4_q9, X_q9, e_q9, N_q9, Kq_q9, sz0_r1_q9, hw1_q9, hw2_q9, hw3_q9, hw4_q9, O0_q9, O1_q9, O2_q9, O3_q9, O4_q9, st_q9⟩ := own_t11 a1 r1_q1 r2_q1 ha ka kr2_q1 kh (3 : Int32) (2 : Int32) [(.int u0), (.int u1), (.int u2)] u2 (3 : Int32) [(.int (nar .byte ((own_k0 (u0 &&& (255 : Int32))).toInt8.toInt32))), (.int (nar .byte ((own_k0 (u1 &&& (255 : Int32))).toInt8.toInt32))), (.int (0 : Int32))] (2 : Int32) (8 : Int32) cs (.val (.int u1)) (.val (.int (u1 &&& (255 : Int32)))) X_q6 hx hZ hw hby hml hown e_q6 N_q6 (Nat.le_trans Z0 K_q6.1) (by decide : 2 + 1 ≤ _) (by decide : 7 + 18 ≤ _) V_a1__q6 O0_q1__q6 O0_q6 O1_q6 O2_q6l O3_q6 O4_q6 S_COMPACT_STRINGS__q6 S_HEX_DIGITS__q6 V_ha__q6 ge_r1_q1 ge_r2_q1 nq0_q1 ne_a1_r1_q1 ne_a1_r2_q1 ne_ha_r1_q1 ne_ha_r2_q1 rfl (by decide) (by decide) rfl rfl rfl hc_q10 (by decide) hc_q2 (by decide) (by decide) (by decide) (by decide) (by decide) (by decide) (by decide) (by decide) (by decide) (by decide) (by decide) (by decide) (by decide) hc_q11 (by decide) hc_q12 (by decide) hc_q13 (by decide) hc_q14 (by decide)
  obtain rfl : w1_q9 = [(.int (nar .byte ((own_k0 (u0 &&& (255 : Int32))).toInt8.toInt32))), (.int (nar .byte ((own_k0 (u1 &&& (255 : Int32))).toInt8.toInt32))), (.int (nar .byte ((92 : Int32).toInt8.toInt32)))] := hw1_q9
  obtain rfl : w2_q9 = [(.int (nar .byte ((own_k0 (u0 &&& (255 : Int32))).toInt8.toInt32))), (.int (nar .byte ((own_k0 (u1 &&& (255 : Int32))).toInt8.toInt32))), (.int (nar .byte ((92 : Int32).toInt8.toInt32))), (.int (nar .byte ((120 : Int32).toInt8.toInt32))), (.int (0 : Int32)), (.int (0 : Int32)), (.int (0 : Int32)), (.int (0 : Int32))] := hw2_q9
  obtain rfl : w3_q9 = [(.int (nar .byte ((own_k0 (u0 &&& (255 : Int32))).toInt8.toInt32))), (.int (nar .byte ((own_k0 (u1 &&& (255 : Int32))).toInt8.toInt32))), (.int (nar .byte ((92 : Int32).toInt8.toInt32))), (.int (nar .byte ((120 : Int32).toInt8.toInt32))), (.int (nar .byte ((own_k2 (u2 &&& (255 : Int32))).toInt8.toInt32))), (.int (0 : Int32)), (.int (0 : Int32)), (.int (0 : Int32))] := hw3_q9
  obtain rfl : w4_q9 = [(.int (nar .byte ((own_k0 (u0 &&& (255 : Int32))).toInt8.toInt32))), (.int (nar .byte ((own_k0 (u1 &&& (255 : Int32))).toInt8.toInt32))), (.int (nar .byte ((92 : Int32).toInt8.toInt32))), (.int (nar .byte ((120 : Int32).toInt8.toInt32))), (.int (nar .byte ((own_k2 (u2 &&& (255 : Int32))).toInt8.toInt32))), (.int (nar .byte ((own_k3 (u2 &&& (255 : Int32))).toInt8.toInt32))), (.int (0 : Int32)), (.int (0 : Int32))] := hw4_q9
  have S_COMPACT_STRINGS__q9 := own_sta_keep S_COMPACT_STRINGS__q6 Kq_q9 (allS (own_ns O0_q1__q6) (allS (own_ns O4_q6) all0))
  have O0_q1__q9 := O0_q1__q6.keep Kq_q9
  have K_q9 : Keep h0 h_q9 [] := K_q6.trans Kq_q9 (allS (Or.inr sz_r1_q1) (allS (Or.inr sz_r2_q1) all0))
  have O2_q9l : Fld Z h_q9 r1_q1 "java/lang/AbstractStringBuilder" "count" "I" (.int (6 : Int32)) := O2_q9
  obtain ⟨cq_q15, kq_q15, qa_q15, qb_q15, qc_q15⟩ := isOf hZ e_q9 O0_q1__q9
  obtain ⟨_, _, ⟨T_q15, L_q15, k_q15, n_q15⟩, -, X_q15, ⟨Lc_q15, hQ_q15, l_q15, y_q15, z_q15⟩, st_q15⟩ := X_q9.virtualBack hx (y := (⟨"java/lang/StringBuilder", "toString", "()Ljava/lang/String;"⟩ : MethodName)) (z := (⟨"java/lang/StringBuilder", "toString", "()Ljava/lang/String;"⟩ : MethodName)) hown (mvT hZ (own_w hw 80 rfl)) (mvT hZ (own_w hw 81 rfl)) (notFace_of_selects (args := #[]) (mvT hZ (own_w hw 83 rfl))) (mvT hZ (own_w hw 83 rfl)) (mvT hZ (own_w hw 82 rfl)) (by decide) (backOf (W := 0) (rmTSr l Z a0 hw [] r1_q1 r1_q9 kr1_q9 (8 : Int32) [(.int (nar .byte ((own_k0 (u0 &&& (255 : Int32))).toInt8.toInt32))), (.int (nar .byte ((own_k0 (u1 &&& (255 : Int32))).toInt8.toInt32))), (.int (nar .byte ((92 : Int32).toInt8.toInt32))), (.int (nar .byte ((120 : Int32).toInt8.toInt32))), (.int (nar .byte ((own_k2 (u2 &&& (255 : Int32))).toInt8.toInt32))), (.int (nar .byte ((own_k3 (u2 &&& (255 : Int32))).toInt8.toInt32))), (.int (0 : Int32)), (.int (0 : Int32))] (6 : Int32) cs h_q9 n0 (Nat.le_trans Z0 K_q9.1) O0_q1__q9 O0_q9 O1_q9 O2_q9l O3_q9 O4_q9 S_COMPACT_STRINGS__q9 hc_q2 (by decide) (by decide) (by decide) (by decide) (by decide) (by decide)) hZ (own_w hw 84 rfl) (own_w hw 7 rfl) (by decide) (by decide)) qa_q15 qc_q15 (g := (mkF m 112 #[.val (.ref a1), .val (.ref r1_q1), .val (.ref a1), .val (.int (3 : Int32)), .val (.int (3 : Int32)), .val (.int u2), .val (.int (u2 &&& (255 : Int32)))] [(.ref r1_q1)])) rfl (by rw [hml]; rfl) (Steps.refl _) (argsL := []) (rest := []) (lenOf pd___Ljava_lang_String_ rfl) rfl (by show 2 * 0 + _ ≤ _; exact Nat.le_of_eq rfl) (hb hby d1_112) (fun _ _ => ⟨rfl, e_q9, (by decide : 3 + 2 ≤ _), (by decide : 25 + 16 ≤ _)⟩)
  dsimp only [Pt.U, Pt.locs, Pt.cells, Pt.slots] at X_q15 l_q15 y_q15 z_q15 st_q15 hQ_q15
  subst l_q15 y_q15 z_q15
  obtain ⟨r1_q15, r2_q15, kr2_q15, rfl, Nq_q15, Kq_q15, sz0_r1_q15, sz0_r2_q15, O0_q15, O1_q15, O2_q15, O3_q15, O4_q15⟩ := hQ_q15
  have N_q15 := Fr.app N_q9 Nq_q15
  have sz_r1_q15 : h0.size ≤ r1_q15 := Nat.le_trans K_q9.1 sz0_r1_q15
  have sz_r2_q15 : h0.size ≤ r2_q15 := Nat.le_trans K_q9.1 sz0_r2_q15
  have K_q15 : Keep h0 T_q15.heap [] := K_q9.trans Kq_q15 all0
  have O3_q15_l : Arv Z T_q15.heap r2_q15 kr2_q15 .byte (6 : Int32) [(.int (nar .byte ((own_k0 (u0 &&& (255 : Int32))).toInt8.toInt32))), (.int (nar .byte ((own_k0 (u1 &&& (255 : Int32))).toInt8.toInt32))), (.int (nar .byte ((92 : Int32).toInt8.toInt32))), (.int (nar .byte ((120 : Int32).toInt8.toInt32))), (.int (nar .byte ((own_k2 (u2 &&& (255 : Int32))).toInt8.toInt32))), (.int (nar .byte ((own_k3 (u2 &&& (255 : Int32))).toInt8.toInt32)))] (.int (0 : Int32)) := O3_q15
  obtain ⟨fs, hr, hrun, hended, hW, hsame⟩ := X_q15.leave (v := some (.ref r1_q15)) (fun h => by rw [Bd.returns] at h; cases h) Bd.notSynchronized
  refine ⟨_, _, pre0 _ ?_, hrun, hended, _, _, rfl, ?_, ⟨_, rfl⟩, hW, hsame.mono (by decide) (by decide)⟩
  · show Steps p.tables e below (s₁.setTop (mkF m 0 #[.val (.ref a1), .unset, .unset, .unset, .unset, .unset, .unset] [])) _
    refine st_q1 _ ?_
    show Steps p.tables e below (T_q1.setTop (mkF m 18 #[.val (.ref a1), .val (.ref r1_q1), .val (.ref a1), .val (.int (3 : Int32)), .val (.int (0 : Int32)), .unset, .unset] [])) _
    refine st_q3 _ ?_
    show Steps p.tables e below (T_q3.setTop (mkF m 18 #[.val (.ref a1), .val (.ref r1_q1), .val (.ref a1), .val (.int (3 : Int32)), .val (.int (1 : Int32)), .val (.int u0), .val (.int (u0 &&& (255 : Int32)))] [])) _
    refine st_q6 _ ?_
    show Steps p.tables e below (T_q6.setTop (mkF m 18 #[.val (.ref a1), .val (.ref r1_q1), .val (.ref a1), .val (.int (3 : Int32)), .val (.int (2 : Int32)), .val (.int u1), .val (.int (u1 &&& (255 : Int32)))] [])) _
    refine st_q9 _ ?_
    refine XS.iload X_q9.here hx rfl (hb hby d1_18) rfl ?_
    refine XS.iloadN X_q9.here hx rfl (hb hby d1_20) rfl ?_
    refine XS.icmpYes X_q9.here hx rfl (pc0 := 21) (pc' := 111) rfl (hb hby d1_21) rfl (flt (by decide : ¬ ((3 : Int32) < (3 : Int32)))).2.1 (by decide) (by decide) ?_
    show Steps p.tables e below (T_q9.setTop (mkF m 111 #[.val (.ref a1), .val (.ref r1_q1), .val (.ref a1), .val (.int (3 : Int32)), .val (.int (3 : Int32)), .val (.int u2), .val (.int (u2 &&& (255 : Int32)))] [])) _
    refine XS.aloadN X_q9.here hx rfl (hb hby d1_111) rfl rfl ?_
    show Steps p.tables e below (T_q9.setTop (mkF m 112 #[.val (.ref a1), .val (.ref r1_q1), .val (.ref a1), .val (.int (3 : Int32)), .val (.int (3 : Int32)), .val (.int u2), .val (.int (u2 &&& (255 : Int32)))] [(.ref r1_q1)])) _
    refine st_q15.trans ?_
    show Steps p.tables e below (T_q15.setTop (mkF m 115 #[.val (.ref a1), .val (.ref r1_q1), .val (.ref a1), .val (.int (3 : Int32)), .val (.int (3 : Int32)), .val (.int u2), .val (.int (u2 &&& (255 : Int32)))] [(.ref r1_q15)])) _
    jvm_step X_q15.here [X_q15.here.top, hx, (hb hby d1_115), X_q15.method', Bd.returns, Value.isRef, FieldType.isReference]
    first | (intro acts; rw [hr _ acts rfl rfl rfl]) | rw [hr _ _ rfl rfl rfl]
    exact Steps.refl _
  · show Q_rmEn_3_001 Z a1 ha ka kh cs u0 u1 u2 h0 n0 _ T_q15.heap _
    exact ⟨r1_q15, r2_q15, kr2_q15, rfl, N_q15, K_q15, sz_r1_q15, sz_r2_q15, O0_q15, O1_q15, O2_q15, O3_q15_l⟩
def Q_rmEn_3_010 (Z : State) (a1 ha : Addr) (ka kh : ClassId) (cs : Int32) (u0 : Int32) (u1 : Int32) (u2 : Int32) (h0 : Heap) (n0 : Nat) (v : Option Value) (h : Heap) (L : List Loc) : Prop := ∃ (r1 : Addr) (r2 : Addr) (kr2 : ClassId), v = some (.ref r1) ∧ Fr n0 L ∧ Keep h0 h [] ∧ h0.size ≤ r1 ∧ h0.size ≤ r2 ∧ Exa Z h r1 "java/lang/String" ∧ Fld Z h r1 "java/lang/String" "value" "[B" (.ref r2) ∧ Fld Z h r1 "java/lang/String" "coder" "B" (.int (0 : Int32)) ∧ Arv Z h r2 kr2 .byte (6 : Int32) [(.int (nar .byte ((own_k0 (u0 &&& (255 : Int32))).toInt8.toInt32))), (.int (nar .byte ((92 : Int32).toInt8.toInt32))), (.int (nar .byte ((120 : Int32).toInt8.toInt32))), (.int (nar .byte ((own_k2 (u1 &&& (255 : Int32))).toInt8.toInt32))), (.int (nar .byte ((own_k3 (u1 &&& (255 : Int32))).toInt8.toInt32))), (.int (nar .byte ((own_k0 (u2 &&& (255 : Int32))).toInt8.toInt32)))] (.int (0 : Int32))
set_option maxRecDepth 65536 in
set_option maxHeartbeats 40000000 in
theorem rmEn_3_010 (l : Launch) (Z : State) (a0 : Array Value) (hw : ∀ d ∈ tables_1, d.before a0 Z = true) (ws : List Jvm.Cond) (a1 ha : Addr) (ka kh : ClassId) (cs : Int32) (u0 : Int32) (u1 : Int32) (u2 : Int32) (h0 : Heap) (n0 : Nat) (Z0 : n0 ≤ h0.size) (V_a1 : Arv Z h0 a1 ka .byte (3 : Int32) [(.int u0), (.int u1), (.int u2)] (.int (0 : Int32))) (S_COMPACT_STRINGS : Sta Z h0 "java/lang/String" "COMPACT_STRINGS" "Z" (.int cs)) (S_HEX_DIGITS : Sta Z h0 "com/example/presplit/presplit/escape/BinaryEscape" "HEX_DIGITS" "[C" (.ref ha)) (V_ha : Arv Z h0 ha kh .char (16 : Int32) own_hexL (.int (0 : Int32))) (hc_q2 : ¬ (cs = (0 : Int32))) (hc_q4 : own_pl (u0 &&& (255 : Int32))) (hc_q5 : ¬ ((F9_0 (own_k0 (u0 &&& (255 : Int32)))) = (0 : Int32))) (hc_q7 : own_esc (u1 &&& (255 : Int32))) (hc_q8 : ¬ (((u1 &&& (255 : Int32)).toUInt32 >>> ((4 : Int32) &&& 31).toUInt32).toInt32) < 0 ∧ (((u1 &&& (255 : Int32)).toUInt32 >>> ((4 : Int32) &&& 31).toUInt32).toInt32) < (16 : Int32)) (hc_q9 : ¬ ((F9_0 (own_k2 (u1 &&& (255 : Int32)))) = (0 : Int32))) (hc_q10 : ¬ ((u1 &&& (255 : Int32)) &&& (15 : Int32)) < 0 ∧ ((u1 &&& (255 : Int32)) &&& (15 : Int32)) < (16 : Int32)) (hc_q11 : ¬ ((F9_0 (own_k3 (u1 &&& (255 : Int32)))) = (0 : Int32))) (hc_q13 : own_pl (u2 &&& (255 : Int32))) (hc_q14 : ¬ ((F9_0 (own_k0 (u2 &&& (255 : Int32)))) = (0 : Int32))) :
    MetFree l (⟨"com/example/presplit/presplit/escape/BinaryEscape", "encode", "([B)Ljava/lang/String;"⟩ : MethodName) (head1 (Jvm.Cond.code (⟨"com/example/presplit/presplit/escape/BinaryEscape", "encode", "([B)Ljava/lang/String;"⟩ : MethodName) prog_1_method_2_code 7 (some (.object "java/lang/String")) :: ws) ({ frames := 9, cells := 6, slots := 70, locals := 180 } : Room)) (fun a U => a = #[(.ref a1)] ∧ Z.Warmed39 U.vm ∧ U.heap = h0) (fun _ _ _ _ _ => True) (fun _ U o U' => ∃ v L, o = .returned v ∧ Q_rmEn_3_010 Z a1 ha ka kh cs u0 u1 u2 h0 n0 v U'.heap L ∧ FrameEnd U o U' L ({ frames := 9, cells := 6, slots := 70, locals := 180 } : Room).cells ({ frames := 9, cells := 6, slots := 70, locals := 180 } : Room).slots) := by
  refine MetFree.of_bodySF (plainFor_of_name pn_1) hisR ?_
  intro p e s m args below meth c s₁ Bd hml0 hP hK
  obtain ⟨rfl, hZ, hh⟩ := hP
  have hx := Bd.exec
  have hby := Bd.bytes
  have hml : c.maxLocals = 7 := hml0
  have hown : s.vm.findClass "com/example/presplit/presplit/escape/BinaryEscape" = some m.cls := findClass_of_methodNamed Bd.named
  have hnm := (name_of_methodNamed Bd.named Bd.method).1
  have X0 : Stand p l e ({ frames := 9, cells := 6, slots := 70, locals := 180 } : Room) s m #[(.ref a1)] below meth c s₁ [] 0 0 := Stand.of_body Bd
  have e0 : s₁.heap = h0 := by rw [← hh, Bd.state]; rfl
  have N0 := Fr.nil n0
  have pre0 : ∀ t, Steps p.tables e below (s₁.setTop (mkF m 0 #[.val (.ref a1), .unset, .unset, .unset, .unset, .unset, .unset] [])) t → Steps p.tables e below (s₁.setTop (entryFrame m #[(.ref a1)] 7)) t := fun t k => castTop (ef_1 m a1) k
  have K0 : Keep h0 h0 [] := Keep.refl _ _
  obtain ⟨T_q1, h_q1, L_q1, r1_q1, r2_q1, kr2_q1, X_q1, e_q1, N_q1, Kq_q1, sz0_r1_q1, sz0_r2_q1, nq0_q1, O0_q1, O1_q1, O2_q1, O3_q1, O4_q1, O5_q1, st_q1⟩ := own_t_ a1 ka (3 : Int32) [(.int u0), (.int u1), (.int u2)] cs X0 hx hZ hw hby hml hown e0 N0 (Nat.le_trans Z0 K0.1) (by decide : 0 + 2 ≤ _) (by decide : 0 + 7 ≤ _) V_a1 S_COMPACT_STRINGS hc_q2 (by decide) (by decide)
  have ge_r1_q1 : n0 ≤ r1_q1 := Nat.le_trans (Nat.le_trans Z0 K0.1) sz0_r1_q1
  have sz_r1_q1 : h0.size ≤ r1_q1 := Nat.le_trans K0.1 sz0_r1_q1
  have ne_a1_r1_q1 : a1 ≠ r1_q1 := Nat.ne_of_lt (Nat.lt_of_lt_of_le V_a1.lt sz0_r1_q1)
  have ne_ha_r1_q1 : ha ≠ r1_q1 := Nat.ne_of_lt (Nat.lt_of_lt_of_le V_ha.lt sz0_r1_q1)
  have ge_r2_q1 : n0 ≤ r2_q1 := Nat.le_trans (Nat.le_trans Z0 K0.1) sz0_r2_q1
  have sz_r2_q1 : h0.size ≤ r2_q1 := Nat.le_trans K0.1 sz0_r2_q1
  have ne_a1_r2_q1 : a1 ≠ r2_q1 := Nat.ne_of_lt (Nat.lt_of_lt_of_le V_a1.lt sz0_r2_q1)
  have ne_ha_r2_q1 : ha ≠ r2_q1 := Nat.ne_of_lt (Nat.lt_of_lt_of_le V_ha.lt sz0_r2_q1)
  have V_a1__q1 := V_a1.keep Kq_q1 nin0
  have S_COMPACT_STRINGS__q1 := own_sta_keep S_COMPACT_STRINGS Kq_q1 all0
  have S_HEX_DIGITS__q1 := own_sta_keep S_HEX_DIGITS Kq_q1 all0
  have V_ha__q1 := V_ha.keep Kq_q1 nin0
  have K_q1 : Keep h0 h_q1 [] := K0.trans Kq_q1 all0
  have O4_q1l : Arv Z h_q1 r2_q1 kr2_q1 .byte (3 : Int32) [(.int (0 : Int32)), (.int (0 : Int32)), (.int (0 : Int32))] (.int (0 : Int32)) := O4_q1
  obtain ⟨T_q3, h_q3, L_q3, w1_q3, X_q3, e_q3, N_q3, Kq_q3, hw1_q3, O0_q3, O1_q3, O2_q3, O3_q3, O4_q3, st_q3⟩ := own_t0n a1 r1_q1 r2_q1 ha ka kr2_q1 kh (3 : Int32) (0 : Int32) [(.int u0), (.int u1), (.int u2)] u0 (3 : Int32) [(.int (0 : Int32)), (.int (0 : Int32)), (.int (0 : Int32))] (0 : Int32) (8 : Int32) cs (.unset) (.unset) X_q1 hx hZ hw hby hml hown e_q1 N_q1 (Nat.le_trans Z0 K_q1.1) (by decide : 2 + 0 ≤ _) (by decide : 7 + 0 ≤ _) V_a1__q1 O0_q1 O1_q1 O2_q1 O3_q1 O4_q1l O5_q1 S_COMPACT_STRINGS__q1 S_HEX_DIGITS__q1 V_ha__q1 ge_r1_q1 ge_r2_q1 nq0_q1 ne_a1_r1_q1 ne_a1_r2_q1 ne_ha_r1_q1 ne_ha_r2_q1 rfl (by decide) (by decide) rfl rfl rfl hc_q4 (by decide) hc_q2 hc_q5 (by decide)
  obtain rfl : w1_q3 = [(.int (nar .byte ((own_k0 (u0 &&& (255 : Int32))).toInt8.toInt32))), (.int (0 : Int32)), (.int (0 : Int32))] := hw1_q3
  have V_a1__q3 := V_a1__q1.keep Kq_q3 (ninS ne_a1_r1_q1 (ninS ne_a1_r2_q1 nin0))
  have S_COMPACT_STRINGS__q3 := own_sta_keep S_COMPACT_STRINGS__q1 Kq_q3 (allS (own_ns O0_q1) (allS (own_ns O5_q1) all0))
  have S_HEX_DIGITS__q3 := own_sta_keep S_HEX_DIGITS__q1 Kq_q3 (allS (own_ns O0_q1) (allS (own_ns O5_q1) all0))
  have V_ha__q3 := V_ha__q1.keep Kq_q3 (ninS ne_ha_r1_q1 (ninS ne_ha_r2_q1 nin0))
  have O0_q1__q3 := O0_q1.keep Kq_q3
  have K_q3 : Keep h0 h_q3 [] := K_q1.trans Kq_q3 (allS (Or.inr sz_r1_q1) (allS (Or.inr sz_r2_q1) all0))
  have O2_q3l : Fld Z h_q3 r1_q1 "java/lang/AbstractStringBuilder" "count" "I" (.int (1 : Int32)) := O2_q3
  obtain ⟨T_q6, h_q6, L_q6, r1_q6, kr1_q6, w1_q6, w2_q6, w3_q6, w4_q6, X_q6, e_q6, N_q6, Kq_q6, sz0_r1_q6, hw1_q6, hw2_q6, hw3_q6, hw4_q6, O0_q6, O1_q6, O2_q6, O3_q6, O4_q6, st_q6⟩ := own_t12 a1 r1_q1 r2_q1 ha ka kr2_q1 kh (3 : Int32) (1 : Int32) [(.int u0), (.int u1), (.int u2)] u1 (3 : Int32) [(.int (nar .byte ((own_k0 (u0 &&& (255 : Int32))).toInt8.toInt32))), (.int (0 : Int32)), (.int (0 : Int32))] (1 : Int32) (8 : Int32) cs (.val (.int u0)) (.val (.int (u0 &&& (255 : Int32)))) X_q3 hx hZ hw hby hml hown e_q3 N_q3 (Nat.le_trans Z0 K_q3.1) (by decide : 2 + 1 ≤ _) (by decide : 7 + 18 ≤ _) V_a1__q3 O0_q1__q3 O0_q3 O1_q3 O2_q3l O3_q3 O4_q3 S_COMPACT_STRINGS__q3 S_HEX_DIGITS__q3 V_ha__q3 ge_r1_q1 ge_r2_q1 nq0_q1 ne_a1_r1_q1 ne_a1_r2_q1 ne_ha_r1_q1 ne_ha_r2_q1 rfl (by decide) (by decide) rfl rfl rfl hc_q7 (by decide) hc_q2 (by decide) (by decide) (by decide) hc_q8 (by decide) (by decide) (by decide) (by decide) (by decide) (by decide) (by decide) (by decide) (by decide) (by decide) (by decide) hc_q9 (by decide) hc_q10 (by decide) hc_q11 (by decide)
  have ge_r1_q6 : n0 ≤ r1_q6 := Nat.le_trans (Nat.le_trans Z0 K_q3.1) sz0_r1_q6
  have sz_r1_q6 : h0.size ≤ r1_q6 := Nat.le_trans K_q3.1 sz0_r1_q6
  have ne_a1_r1_q6 : a1 ≠ r1_q6 := Nat.ne_of_lt (Nat.lt_of_lt_of_le V_a1__q3.lt sz0_r1_q6)
  have ne_ha_r1_q6 : ha ≠ r1_q6 := Nat.ne_of_lt (Nat.lt_of_lt_of_le V_ha__q3.lt sz0_r1_q6)
  have ne_r1_q1_r1_q6 : r1_q1 ≠ r1_q6 := Nat.ne_of_lt (Nat.lt_of_lt_of_le O0_q1__q3.lt sz0_r1_q6)
  obtain rfl : w1_q6 = [(.int (nar .byte ((own_k0 (u0 &&& (255 : Int32))).toInt8.toInt32))), (.int (nar .byte ((92 : Int32).toInt8.toInt32))), (.int (0 : Int32))] := hw1_q6
  obtain rfl : w2_q6 = [(.int (nar .byte ((own_k0 (u0 &&& (255 : Int32))).toInt8.toInt32))), (.int (nar .byte ((92 : Int32).toInt8.toInt32))), (.int (nar .byte ((120 : Int32).toInt8.toInt32)))] := hw2_q6
  obtain rfl : w3_q6 = [(.int (nar .byte ((own_k0 (u0 &&& (255 : Int32))).toInt8.toInt32))), (.int (nar .byte ((92 : Int32).toInt8.toInt32))), (.int (nar .byte ((120 : Int32).toInt8.toInt32))), (.int (nar .byte ((own_k2 (u1 &&& (255 : Int32))).toInt8.toInt32))), (.int (0 : Int32)), (.int (0 : Int32)), (.int (0 : Int32)), (.int (0 : Int32))] := hw3_q6
  obtain rfl : w4_q6 = [(.int (nar .byte ((own_k0 (u0 &&& (255 : Int32))).toInt8.toInt32))), (.int (nar .byte ((92 : Int32).toInt8.toInt32))), (.int (nar .byte ((120 : Int32).toInt8.toInt32))), (.int (nar .byte ((own_k2 (u1 &&& (255 : Int32))).toInt8.toInt32))), (.int (nar .byte ((own_k3 (u1 &&& (255 : Int32))).toInt8.toInt32))), (.int (0 : Int32)), (.int (0 : Int32)), (.int (0 : Int32))] := hw4_q6
  have V_a1__q6 := V_a1__q3.keep Kq_q6 (ninS ne_a1_r1_q1 (ninS ne_a1_r2_q1 nin0))
  have S_COMPACT_STRINGS__q6 := own_sta_keep S_COMPACT_STRINGS__q3 Kq_q6 (allS (own_ns O0_q1__q3) (allS (own_ns O4_q3) all0))
  have S_HEX_DIGITS__q6 := own_sta_keep S_HEX_DIGITS__q3 Kq_q6 (allS (own_ns O0_q1__q3) (allS (own_ns O4_q3) all0))
  have V_ha__q6 := V_ha__q3.keep Kq_q6 (ninS ne_ha_r1_q1 (ninS ne_ha_r2_q1 nin0))
  have O0_q1__q6 := O0_q1__q3.keep Kq_q6
  have K_q6 : Keep h0 h_q6 [] := K_q3.trans Kq_q6 (allS (Or.inr sz_r1_q1) (allS (Or.inr sz_r2_q1) all0))
  have O2_q6l : Fld Z h_q6 r1_q1 "java/lang/AbstractStringBuilder" "count" "I" (.int (5 : Int32)) := O2_q6
  obtain ⟨T_q12, h_q12, L_q12, w1_q12, X_q12, e_q12, N_q12, Kq_q12, hw1_q12, O0_q12, O1_q12, O2_q12, O3_q12, O4_q12, st_q12⟩ := own_t0n a1 r1_q1 r1_q6 ha ka kr1_q6 kh (3 : Int32) (2 : Int32) [(.int u0), (.int u1), (.int u2)] u2 (8 : Int32) [(.int (nar .byte ((own_k0 (u0 &&& (255 : Int32))).toInt8.toInt32))), (.int (nar .byte ((92 : Int32).toInt8.toInt32))), (.int (nar .byte ((120 : Int32).toInt8.toInt32))), (.int (nar .byte ((own_k2 (u1 &&& (255 : Int32))).toInt8.toInt32))), (.int (nar .byte ((own_k3 (u1 &&& (255 : Int32))).toInt8.toInt32))), (.int (0 : Int32)), (.int (0 : Int32)), (.int (0 : Int32))] (5 : Int32) (18 : Int32) cs (.val (.int u1)) (.val (.int (u1 &&& (255 : Int32)))) X_q6 hx hZ hw hby hml hown e_q6 N_q6 (Nat.le_trans Z0 K_q6.1) (by decide : 3 + 0 ≤ _) (by decide : 25 + 0 ≤ _) V_a1__q6 O0_q1__q6 O0_q6 O1_q6 O2_q6l O3_q6 O4_q6 S_COMPACT_STRINGS__q6 S_HEX_DIGITS__q6 V_ha__q6 ge_r1_q1 ge_r1_q6 (Ne.symm ne_r1_q1_r1_q6) ne_a1_r1_q1 ne_a1_r1_q6 ne_ha_r1_q1 ne_ha_r1_q6 rfl (by decide) (by decide) rfl rfl rfl hc_q13 (by decide) hc_q2 hc_q14 (by decide)
  obtain rfl : w1_q12 = [(.int (nar .byte ((own_k0 (u0 &&& (255 : Int32))).toInt8.toInt32))), (.int (nar .byte ((92 : Int32).toInt8.toInt32))), (.int (nar .byte ((120 : Int32).toInt8.toInt32))), (.int (nar .byte ((own_k2 (u1 &&& (255 : Int32))).toInt8.toInt32))), (.int (nar .byte ((own_k3 (u1 &&& (255 : Int32))).toInt8.toInt32))), (.int (nar .byte ((own_k0 (u2 &&& (255 : Int32))).toInt8.toInt32))), (.int (0 : Int32)), (.int (0 : Int32))] := hw1_q12
  have S_COMPACT_STRINGS__q12 := own_sta_keep S_COMPACT_STRINGS__q6 Kq_q12 (allS (own_ns O0_q1__q6) (allS (own_ns O4_q6) all0))
  have O0_q1__q12 := O0_q1__q6.keep Kq_q12
  have K_q12 : Keep h0 h_q12 [] := K_q6.trans Kq_q12 (allS (Or.inr sz_r1_q1) (allS (Or.inr sz_r1_q6) all0))
  have O2_q12l : Fld Z h_q12 r1_q1 "java/lang/AbstractStringBuilder" "count" "I" (.int (6 : Int32)) := O2_q12
  obtain ⟨cq_q15, kq_q15, qa_q15, qb_q15, qc_q15⟩ := isOf hZ e_q12 O0_q1__q12
  obtain ⟨_, _, ⟨T_q15, L_q15, k_q15, n_q15⟩, -, X_q15, ⟨Lc_q15, hQ_q15, l_q15, y_q15, z_q15⟩, st_q15⟩ := X_q12.virtualBack hx (y := (⟨"java/lang/StringBuilder", "toString", "()Ljava/lang/String;"⟩ : MethodName)) (z := (⟨"java/lang/StringBuilder", "toString", "()Ljava/lang/String;"⟩ : MethodName)) hown (mvT hZ (own_w hw 80 rfl)) (mvT hZ (own_w hw 81 rfl)) (notFace_of_selects (args := #[]) (mvT hZ (own_w hw 83 rfl))) (mvT hZ (own_w hw 83 rfl)) (mvT hZ (own_w hw 82 rfl)) (by decide) (backOf (W := 0) (rmTSr l Z a0 hw [] r1_q1 r1_q6 kr1_q6 (8 : Int32) [(.int (nar .byte ((own_k0 (u0 &&& (255 : Int32))).toInt8.toInt32))), (.int (nar .byte ((92 : Int32).toInt8.toInt32))), (.int (nar .byte ((120 : Int32).toInt8.toInt32))), (.int (nar .byte ((own_k2 (u1 &&& (255 : Int32))).toInt8.toInt32))), (.int (nar .byte ((own_k3 (u1 &&& (255 : Int32))).toInt8.toInt32))), (.int (nar .byte ((own_k0 (u2 &&& (255 : Int32))).toInt8.toInt32))), (.int (0 : Int32)), (.int (0 : Int32))] (6 : Int32) cs h_q12 n0 (Nat.le_trans Z0 K_q12.1) O0_q1__q12 O0_q12 O1_q12 O2_q12l O3_q12 O4_q12 S_COMPACT_STRINGS__q12 hc_q2 (by decide) (by decide) (by decide) (by decide) (by decide) (by decide)) hZ (own_w hw 84 rfl) (own_w hw 7 rfl) (by decide) (by decide)) qa_q15 qc_q15 (g := (mkF m 112 #[.val (.ref a1), .val (.ref r1_q1), .val (.ref a1), .val (.int (3 : Int32)), .val (.int (3 : Int32)), .val (.int u2), .val (.int (u2 &&& (255 : Int32)))] [(.ref r1_q1)])) rfl (by rw [hml]; rfl) (Steps.refl _) (argsL := []) (rest := []) (lenOf pd___Ljava_lang_String_ rfl) rfl (by show 2 * 0 + _ ≤ _; exact Nat.le_of_eq rfl) (hb hby d1_112) (fun _ _ => ⟨rfl, e_q12, (by decide : 3 + 2 ≤ _), (by decide : 25 + 16 ≤ _)⟩)
  dsimp only [Pt.U, Pt.locs, Pt.cells, Pt.slots] at X_q15 l_q15 y_q15 z_q15 st_q15 hQ_q15
  subst l_q15 y_q15 z_q15
  obtain ⟨r1_q15, r2_q15, kr2_q15, rfl, Nq_q15, Kq_q15, sz0_r1_q15, sz0_r2_q15, O0_q15, O1_q15, O2_q15, O3_q15, O4_q15⟩ := hQ_q15
  have N_q15 := Fr.app N_q12 Nq_q15
  have sz_r1_q15 : h0.size ≤ r1_q15 := Nat.le_trans K_q12.1 sz0_r1_q15
  have sz_r2_q15 : h0.size ≤ r2_q15 := Nat.le_trans K_q12.1 sz0_r2_q15
  have K_q15 : Keep h0 T_q15.heap [] := K_q12.trans Kq_q15 all0
  have O3_q15_l : Arv Z T_q15.heap r2_q15 kr2_q15 .byte (6 : Int32) [(.int (nar .byte ((own_k0 (u0 &&& (255 : Int32))).toInt8.toInt32))), (.int (nar .byte ((92 : Int32).toInt8.toInt32))), (.int (nar .byte ((120 : Int32).toInt8.toInt32))), (.int (nar .byte ((own_k2 (u1 &&& (255 : Int32))).toInt8.toInt32))), (.int (nar .byte ((own_k3 (u1 &&& (255 : Int32))).toInt8.toInt32))), (.int (nar .byte ((own_k0 (u2 &&& (255 : Int32))).toInt8.toInt32)))] (.int (0 : Int32)) := O3_q15
  obtain ⟨fs, hr, hrun, hended, hW, hsame⟩ := X_q15.leave (v := some (.ref r1_q15)) (fun h => by rw [Bd.returns] at h; cases h) Bd.notSynchronized
  refine ⟨_, _, pre0 _ ?_, hrun, hended, _, _, rfl, ?_, ⟨_, rfl⟩, hW, hsame.mono (by decide) (by decide)⟩
  · show Steps p.tables e below (s₁.setTop (mkF m 0 #[.val (.ref a1), .unset, .unset, .unset, .unset, .unset, .unset] [])) _
    refine st_q1 _ ?_
    show Steps p.tables e below (T_q1.setTop (mkF m 18 #[.val (.ref a1), .val (.ref r1_q1), .val (.ref a1), .val (.int (3 : Int32)), .val (.int (0 : Int32)), .unset, .unset] [])) _
    refine st_q3 _ ?_
    show Steps p.tables e below (T_q3.setTop (mkF m 18 #[.val (.ref a1), .val (.ref r1_q1), .val (.ref a1), .val (.int (3 : Int32)), .val (.int (1 : Int32)), .val (.int u0), .val (.int (u0 &&& (255 : Int32)))] [])) _
    refine st_q6 _ ?_
    show Steps p.tables e below (T_q6.setTop (mkF m 18 #[.val (.ref a1), .val (.ref r1_q1), .val (.ref a1), .val (.int (3 : Int32)), .val (.int (2 : Int32)), .val (.int u1), .val (.int (u1 &&& (255 : Int32)))] [])) _
    refine st_q12 _ ?_
    refine XS.iload X_q12.here hx rfl (hb hby d1_18) rfl ?_
    refine XS.iloadN X_q12.here hx rfl (hb hby d1_20) rfl ?_
    refine XS.icmpYes X_q12.here hx rfl (pc0 := 21) (pc' := 111) rfl (hb hby d1_21) rfl (flt (by decide : ¬ ((3 : Int32) < (3 : Int32)))).2.1 (by decide) (by decide) ?_
    show Steps p.tables e below (T_q12.setTop (mkF m 111 #[.val (.ref a1), .val (.ref r1_q1), .val (.ref a1), .val (.int (3 : Int32)), .val (.int (3 : Int32)), .val (.int u2), .val (.int (u2 &&& (255 : Int32)))] [])) _
    refine XS.aloadN X_q12.here hx rfl (hb hby d1_111) rfl rfl ?_
    show Steps p.tables e below (T_q12.setTop (mkF m 112 #[.val (.ref a1), .val (.ref r1_q1), .val (.ref a1), .val (.int (3 : Int32)), .val (.int (3 : Int32)), .val (.int u2), .val (.int (u2 &&& (255 : Int32)))] [(.ref r1_q1)])) _
    refine st_q15.trans ?_
    show Steps p.tables e below (T_q15.setTop (mkF m 115 #[.val (.ref a1), .val (.ref r1_q1), .val (.ref a1), .val (.int (3 : Int32)), .val (.int (3 : Int32)), .val (.int u2), .val (.int (u2 &&& (255 : Int32)))] [(.ref r1_q15)])) _
    jvm_step X_q15.here [X_q15.here.top, hx, (hb hby d1_115), X_q15.method', Bd.returns, Value.isRef, FieldType.isReference]
    first | (intro acts; rw [hr _ acts rfl rfl rfl]) | rw [hr _ _ rfl rfl rfl]
    exact Steps.refl _
  · show Q_rmEn_3_010 Z a1 ha ka kh cs u0 u1 u2 h0 n0 _ T_q15.heap _
    exact ⟨r1_q15, r2_q15, kr2_q15, rfl, N_q15, K_q15, sz_r1_q15, sz_r2_q15, O0_q15, O1_q15, O2_q15, O3_q15_l⟩
def Q_rmEn_3_011 (Z : State) (a1 ha : Addr) (ka kh : ClassId) (cs : Int32) (u0 : Int32) (u1 : Int32) (u2 : Int32) (h0 : Heap) (n0 : Nat) (v : Option Value) (h : Heap) (L : List Loc) : Prop := ∃ (r1 : Addr) (r2 : Addr) (kr2 : ClassId), v = some (.ref r1) ∧ Fr n0 L ∧ Keep h0 h [] ∧ h0.size ≤ r1 ∧ h0.size ≤ r2 ∧ Exa Z h r1 "java/lang/String" ∧ Fld Z h r1 "java/lang/String" "value" "[B" (.ref r2) ∧ Fld Z h r1 "java/lang/String" "coder" "B" (.int (0 : Int32)) ∧ Arv Z h r2 kr2 .byte (9 : Int32) [(.int (nar .byte ((own_k0 (u0 &&& (255 : Int32))).toInt8.toInt32))), (.int (nar .byte ((92 : Int32).toInt8.toInt32))), (.int (nar .byte ((120 : Int32).toInt8.toInt32))), (.int (nar .byte ((own_k2 (u1 &&& (255 : Int32))).toInt8.toInt32))), (.int (nar .byte ((own_k3 (u1 &&& (255 : Int32))).toInt8.toInt32))), (.int (nar .byte ((92 : Int32).toInt8.toInt32))), (.int (nar .byte ((120 : Int32).toInt8.toInt32))), (.int (nar .byte ((own_k2 (u2 &&& (255 : Int32))).toInt8.toInt32))), (.int (nar .byte ((own_k3 (u2 &&& (255 : Int32))).toInt8.toInt32)))] (.int (0 : Int32))
set_option maxRecDepth 65536 in
set_option maxHeartbeats 40000000 in
theorem rmEn_3_011 (l : Launch) (Z : State) (a0 : Array Value) (hw : ∀ d ∈ tables_1, d.before a0 Z = true) (ws : List Jvm.Cond) (a1 ha : Addr) (ka kh : ClassId) (cs : Int32) (u0 : Int32) (u1 : Int32) (u2 : Int32) (h0 : Heap) (n0 : Nat) (Z0 : n0 ≤ h0.size) (V_a1 : Arv Z h0 a1 ka .byte (3 : Int32) [(.int u0), (.int u1), (.int u2)] (.int (0 : Int32))) (S_COMPACT_STRINGS : Sta Z h0 "java/lang/String" "COMPACT_STRINGS" "Z" (.int cs)) (S_HEX_DIGITS : Sta Z h0 "com/example/presplit/presplit/escape/BinaryEscape" "HEX_DIGITS" "[C" (.ref ha)) (V_ha : Arv Z h0 ha kh .char (16 : Int32) own_hexL (.int (0 : Int32))) (hc_q2 : ¬ (cs = (0 : Int32))) (hc_q4 : own_pl (u0 &&& (255 : Int32))) (hc_q5 : ¬ ((F9_0 (own_k0 (u0 &&& (255 : Int32)))) = (0 : Int32))) (hc_q7 : own_esc (u1 &&& (255 : Int32))) (hc_q8 : ¬ (((u1 &&& (255 : Int32)).toUInt32 >>> ((4 : Int32) &&& 31).toUInt32).toInt32) < 0 ∧ (((u1 &&& (255 : Int32)).toUInt32 >>> ((4 : Int32) &&& 31).toUInt32).toInt32) < (16 : Int32)) (hc_q9 : ¬ ((F9_0 (own_k2 (u1 &&& (255 : Int32)))) = (0 : Int32))) (hc_q10 : ¬ ((u1 &&& (255 : Int32)) &&& (15 : Int32)) < 0 ∧ ((u1 &&& (255 : Int32)) &&& (15 : Int32)) < (16 : Int32)) (hc_q11 : ¬ ((F9_0 (own_k3 (u1 &&& (255 : Int32)))) = (0 : Int32))) (hc_q13 : own_esc (u2 &&& (255 : Int32))) (hc_q14 : ¬ (((u2 &&& (255 : Int32)).toUInt32 >>> ((4 : Int32) &&& 31).toUInt32).toInt32) < 0 ∧ (((u2 &&& (255 : Int32)).toUInt32 >>> ((4 : Int32) &&& 31).toUInt32).toInt32) < (16 : Int32)) (hc_q15 : ¬ ((F9_0 (own_k2 (u2 &&& (255 : Int32)))) = (0 : Int32))) (hc_q16 : ¬ ((u2 &&& (255 : Int32)) &&& (15 : Int32)) < 0 ∧ ((u2 &&& (255 : Int32)) &&& (15 : Int32)) < (16 : Int32)) (hc_q17 : ¬ ((F9_0 (own_k3 (u2 &&& (255 : Int32)))) = (0 : Int32))) :
    MetFree l (⟨"com/example/presplit/presplit/escape/BinaryEscape", "encode", "([B)Ljava/lang/String;"⟩ : MethodName) (head1 (Jvm.Cond.code (⟨"com/example/presplit/presplit/escape/BinaryEscape", "encode", "([B)Ljava/lang/String;"⟩ : MethodName) prog_1_method_2_code 7 (some (.object "java/lang/String")) :: ws) ({ frames := 9, cells := 6, slots := 70, locals := 180 } : Room)) (fun a U => a = #[(.ref a1)] ∧ Z.Warmed39 U.vm ∧ U.heap = h0) (fun _ _ _ _ _ => True) (fun _ U o U' => ∃ v L, o = .returned v ∧ Q_rmEn_3_011 Z a1 ha ka kh cs u0 u1 u2 h0 n0 v U'.heap L ∧ FrameEnd U o U' L ({ frames := 9, cells := 6, slots := 70, locals := 180 } : Room).cells ({ frames := 9, cells := 6, slots := 70, locals := 180 } : Room).slots) := by
  refine MetFree.of_bodySF (plainFor_of_name pn_1) hisR ?_
  intro p e s m args below meth c s₁ Bd hml0 hP hK
  obtain ⟨rfl, hZ, hh⟩ := hP
  have hx := Bd.exec
  have hby := Bd.bytes
  have hml : c.maxLocals = 7 := hml0
  have hown : s.vm.findClass "com/example/presplit/presplit/escape/BinaryEscape" = some m.cls := findClass_of_methodNamed Bd.named
  have hnm := (name_of_methodNamed Bd.named Bd.method).1
  have X0 : Stand p l e ({ frames := 9, cells := 6, slots := 70, locals := 180 } : Room) s m #[(.ref a1)] below meth c s₁ [] 0 0 := Stand.of_body Bd
  have e0 : s₁.heap = h0 := by rw [← hh, Bd.state]; rfl
  have N0 := Fr.nil n0
  have pre0 : ∀ t, Steps p.tables e below (s₁.setTop (mkF m 0 #[.val (.ref a1), .unset, .unset, .unset, .unset, .unset, .unset] [])) t → Steps p.tables e below (s₁.setTop (entryFrame m #[(.ref a1)] 7)) t := fun t k => castTop (ef_1 m a1) k
  have K0 : Keep h0 h0 [] := Keep.refl _ _
  obtain ⟨T_q1, h_q1, L_q1, r1_q1, r2_q1, kr2_q1, X_q1, e_q1, N_q1, Kq_q1, sz0_r1_q1, sz0_r2_q1, nq0_q1, O0_q1, O1_q1, O2_q1, O3_q1, O4_q1, O5_q1, st_q1⟩ := own_t_ a1 ka (3 : Int32) [(.int u0), (.int u1), (.int u2)] cs X0 hx hZ hw hby hml hown e0 N0 (Nat.le_trans Z0 K0.1) (by decide : 0 + 2 ≤ _) (by decide : 0 + 7 ≤ _) V_a1 S_COMPACT_STRINGS hc_q2 (by decide) (by decide)
  have ge_r1_q1 : n0 ≤ r1_q1 := Nat.le_trans (Nat.le_trans Z0 K0.1) sz0_r1_q1
  have sz_r1_q1 : h0.size ≤ r1_q1 := Nat.le_trans K0.1 sz0_r1_q1
  have ne_a1_r1_q1 : a1 ≠ r1_q1 := Nat.ne_of_lt (Nat.lt_of_lt_of_le V_a1.lt sz0_r1_q1)
  have ne_ha_r1_q1 : ha ≠ r1_q1 := Nat.ne_of_lt (Nat.lt_of_lt_of_le V_ha.lt sz0_r1_q1)
  have ge_r2_q1 : n0 ≤ r2_q1 := Nat.le_trans (Nat.le_trans Z0 K0.1) sz0_r2_q1
  have sz_r2_q1 : h0.size ≤ r2_q1 := Nat.le_trans K0.1 sz0_r2_q1
  have ne_a1_r2_q1 : a1 ≠ r2_q1 := Nat.ne_of_lt (Nat.lt_of_lt_of_le V_a1.lt sz0_r2_q1)
  have ne_ha_r2_q1 : ha ≠ r2_q1 := Nat.ne_of_lt (Nat.lt_of_lt_of_le V_ha.lt sz0_r2_q1)
  have V_a1__q1 := V_a1.keep Kq_q1 nin0
  have S_COMPACT_STRINGS__q1 := own_sta_keep S_COMPACT_STRINGS Kq_q1 all0
  have S_HEX_DIGITS__q1 := own_sta_keep S_HEX_DIGITS Kq_q1 all0
  have V_ha__q1 := V_ha.keep Kq_q1 nin0
  have K_q1 : Keep h0 h_q1 [] := K0.trans Kq_q1 all0
  have O4_q1l : Arv Z h_q1 r2_q1 kr2_q1 .byte (3 : Int32) [(.int (0 : Int32)), (.int (0 : Int32)), (.int (0 : Int32))] (.int (0 : Int32)) := O4_q1
  obtain ⟨T_q3, h_q3, L_q3, w1_q3, X_q3, e_q3, N_q3, Kq_q3, hw1_q3, O0_q3, O1_q3, O2_q3, O3_q3, O4_q3, st_q3⟩ := own_t0n a1 r1_q1 r2_q1 ha ka kr2_q1 kh (3 : Int32) (0 : Int32) [(.int u0), (.int u1), (.int u2)] u0 (3 : Int32) [(.int (0 : Int32)), (.int (0 : Int32)), (.int (0 : Int32))] (0 : Int32) (8 : Int32) cs (.unset) (.unset) X_q1 hx hZ hw hby hml hown e_q1 N_q1 (Nat.le_trans Z0 K_q1.1) (by decide : 2 + 0 ≤ _) (by decide : 7 + 0 ≤ _) V_a1__q1 O0_q1 O1_q1 O2_q1 O3_q1 O4_q1l O5_q1 S_COMPACT_STRINGS__q1 S_HEX_DIGITS__q1 V_ha__q1 ge_r1_q1 ge_r2_q1 nq0_q1 ne_a1_r1_q1 ne_a1_r2_q1 ne_ha_r1_q1 ne_ha_r2_q1 rfl (by decide) (by decide) rfl rfl rfl hc_q4 (by decide) hc_q2 hc_q5 (by decide)
  obtain rfl : w1_q3 = [(.int (nar .byte ((own_k0 (u0 &&& (255 : Int32))).toInt8.toInt32))), (.int (0 : Int32)), (.int (0 : Int32))] := hw1_q3
  have V_a1__q3 := V_a1__q1.keep Kq_q3 (ninS ne_a1_r1_q1 (ninS ne_a1_r2_q1 nin0))
  have S_COMPACT_STRINGS__q3 := own_sta_keep S_COMPACT_STRINGS__q1 Kq_q3 (allS (own_ns O0_q1) (allS (own_ns O5_q1) all0))
  have S_HEX_DIGITS__q3 := own_sta_keep S_HEX_DIGITS__q1 Kq_q3 (allS (own_ns O0_q1) (allS (own_ns O5_q1) all0))
  have V_ha__q3 := V_ha__q1.keep Kq_q3 (ninS ne_ha_r1_q1 (ninS ne_ha_r2_q1 nin0))
  have O0_q1__q3 := O0_q1.keep Kq_q3
  have K_q3 : Keep h0 h_q3 [] := K_q1.trans Kq_q3 (allS (Or.inr sz_r1_q1) (allS (Or.inr sz_r2_q1) all0))
  have O2_q3l : Fld Z h_q3 r1_q1 "java/lang/AbstractStringBuilder" "count" "I" (.int (1 : Int32)) := O2_q3
  obtain ⟨T_q6, h_q6, L_q6, r1_q6, kr1_q6, w1_q6, w2_q6, w3_q6, w4_q6, X_q6, e_q6, N_q6, Kq_q6, sz0_r1_q6, hw1_q6, hw2_q6, hw3_q6, hw4_q6, O0_q6, O1_q6, O2_q6, O3_q6, O4_q6, st_q6⟩ := own_t12 a1 r1_q1 r2_q1 ha ka kr2_q1 kh (3 : Int32) (1 : Int32) [(.int u0), (.int u1), (.int u2)] u1 (3 : Int32) [(.int (nar .byte ((own_k0 (u0 &&& (255 : Int32))).toInt8.toInt32))), (.int (0 : Int32)), (.int (0 : Int32))] (1 : Int32) (8 : Int32) cs (.val (.int u0)) (.val (.int (u0 &&& (255 : Int32)))) X_q3 hx hZ hw hby hml hown e_q3 N_q3 (Nat.le_trans Z0 K_q3.1) (by decide : 2 + 1 ≤ _) (by decide : 7 + 18 ≤ _) V_a1__q3 O0_q1__q3 O0_q3 O1_q3 O2_q3l O3_q3 O4_q3 S_COMPACT_STRINGS__q3 S_HEX_DIGITS__q3 V_ha__q3 ge_r1_q1 ge_r2_q1 nq0_q1 ne_a1_r1_q1 ne_a1_r2_q1 ne_ha_r1_q1 ne_ha_r2_q1 rfl (by decide) (by decide) rfl rfl rfl hc_q7 (by decide) hc_q2 (by decide) (by decide) (by decide) hc_q8 (by decide) (by decide) (by decide) (by decide) (by decide) (by decide) (by decide) (by decide) (by decide) (by decide) (by decide) hc_q9 (by decide) hc_q10 (by decide) hc_q11 (by decide)
  have ge_r1_q6 : n0 ≤ r1_q6 := Nat.le_trans (Nat.le_trans Z0 K_q3.1) sz0_r1_q6
  have sz_r1_q6 : h0.size ≤ r1_q6 := Nat.le_trans K_q3.1 sz0_r1_q6
  have ne_a1_r1_q6 : a1 ≠ r1_q6 := Nat.ne_of_lt (Nat.lt_of_lt_of_le V_a1__q3.lt sz0_r1_q6)
  have ne_ha_r1_q6 : ha ≠ r1_q6 := Nat.ne_of_lt (Nat.lt_of_lt_of_le V_ha__q3.lt sz0_r1_q6)
  have ne_r1_q1_r1_q6 : r1_q1 ≠ r1_q6 := Nat.ne_of_lt (Nat.lt_of_lt_of_le O0_q1__q3.lt sz0_r1_q6)
  obtain rfl : w1_q6 = [(.int (nar .byte ((own_k0 (u0 &&& (255 : Int32))).toInt8.toInt32))), (.int (nar .byte ((92 : Int32).toInt8.toInt32))), (.int (0 : Int32))] := hw1_q6
  obtain rfl : w2_q6 = [(.int (nar .byte ((own_k0 (u0 &&& (255 : Int32))).toInt8.toInt32))), (.int (nar .byte ((92 : Int32).toInt8.toInt32))), (.int (nar .byte ((120 : Int32).toInt8.toInt32)))] := hw2_q6
  obtain rfl : w3_q6 = [(.int (nar .byte ((own_k0 (u0 &&& (255 : Int32))).toInt8.toInt32))), (.int (nar .byte ((92 : Int32).toInt8.toInt32))), (.int (nar .byte ((120 : Int32).toInt8.toInt32))), (.int (nar .byte ((own_k2 (u1 &&& (255 : Int32))).toInt8.toInt32))), (.int (0 : Int32)), (.int (0 : Int32)), (.int (0 : Int32)), (.int (0 : Int32))] := hw3_q6
  obtain rfl : w4_q6 = [(.int (nar .byte ((own_k0 (u0 &&& (255 : Int32))).toInt8.toInt32))), (.int (nar .byte ((92 : Int32).toInt8.toInt32))), (.int (nar .byte ((120 : Int32).toInt8.toInt32))), (.int (nar .byte ((own_k2 (u1 &&& (255 : Int32))).toInt8.toInt32))), (.int (nar .byte ((own_k3 (u1 &&& (255 : Int32))).toInt8.toInt32))), (.int (0 : Int32)), (.int (0 : Int32)), (.int (0 : Int32))] := hw4_q6
  have V_a1__q6 := V_a1__q3.keep Kq_q6 (ninS ne_a1_r1_q1 (ninS ne_a1_r2_q1 nin0))
  have S_COMPACT_STRINGS__q6 := own_sta_keep S_COMPACT_STRINGS__q3 Kq_q6 (allS (own_ns O0_q1__q3) (allS (own_ns O4_q3) all0))
  have S_HEX_DIGITS__q6 := own_sta_keep S_HEX_DIGITS__q3 Kq_q6 (allS (own_ns O0_q1__q3) (allS (own_ns O4_q3) all0))
  have V_ha__q6 := V_ha__q3.keep Kq_q6 (ninS ne_ha_r1_q1 (ninS ne_ha_r2_q1 nin0))
  have O0_q1__q6 := O0_q1__q3.keep Kq_q6
  have K_q6 : Keep h0 h_q6 [] := K_q3.trans Kq_q6 (allS (Or.inr sz_r1_q1) (allS (Or.inr sz_r2_q1) all0))
  have O2_q6l : Fld Z h_q6 r1_q1 "java/lang/AbstractStringBuilder" "count" "I" (.int (5 : Int32)) := O2_q6
  obtain ⟨T_q12, h_q12, L_q12, r1_q12, kr1_q12, w1_q12, w2_q12, w3_q12, w4_q12, X_q12, e_q12, N_q12, Kq_q12, sz0_r1_q12, hw1_q12, hw2_q12, hw3_q12, hw4_q12, O0_q12, O1_q12, O2_q12, O3_q12, O4_q12, st_q12⟩ := own_t13 a1 r1_q1 r1_q6 ha ka kr1_q6 kh (3 : Int32) (2 : Int32) [(.int u0), (.int u1), (.int u2)] u2 (8 : Int32) [(.int (nar .byte ((own_k0 (u0 &&& (255 : Int32))).toInt8.toInt32))), (.int (nar .byte ((92 : Int32).toInt8.toInt32))), (.int (nar .byte ((120 : Int32).toInt8.toInt32))), (.int (nar .byte ((own_k2 (u1 &&& (255 : Int32))).toInt8.toInt32))), (.int (nar .byte ((own_k3 (u1 &&& (255 : Int32))).toInt8.toInt32))), (.int (0 : Int32)), (.int (0 : Int32)), (.int (0 : Int32))] (5 : Int32) (18 : Int32) cs (.val (.int u1)) (.val (.int (u1 &&& (255 : Int32)))) X_q6 hx hZ hw hby hml hown e_q6 N_q6 (Nat.le_trans Z0 K_q6.1) (by decide : 3 + 1 ≤ _) (by decide : 25 + 18 ≤ _) V_a1__q6 O0_q1__q6 O0_q6 O1_q6 O2_q6l O3_q6 O4_q6 S_COMPACT_STRINGS__q6 S_HEX_DIGITS__q6 V_ha__q6 ge_r1_q1 ge_r1_q6 (Ne.symm ne_r1_q1_r1_q6) ne_a1_r1_q1 ne_a1_r1_q6 ne_ha_r1_q1 ne_ha_r1_q6 rfl (by decide) (by decide) rfl rfl rfl hc_q13 (by decide) hc_q2 (by decide) (by decide) (by decide) hc_q14 (by decide) hc_q15 (by decide) hc_q16 (by decide) (by decide) (by decide) (by decide) (by decide) (by decide) (by decide) (by decide) (by decide) (by decide) (by decide) hc_q17 (by decide)
  obtain rfl : w1_q12 = [(.int (nar .byte ((own_k0 (u0 &&& (255 : Int32))).toInt8.toInt32))), (.int (nar .byte ((92 : Int32).toInt8.toInt32))), (.int (nar .byte ((120 : Int32).toInt8.toInt32))), (.int (nar .byte ((own_k2 (u1 &&& (255 : Int32))).toInt8.toInt32))), (.int (nar .byte ((own_k3 (u1 &&& (255 : Int32))).toInt8.toInt32))), (.int (nar .byte ((92 : Int32).toInt8.toInt32))), (.int (0 : Int32)), (.int (0 : Int32))] := hw1_q12
  obtain rfl : w2_q12 = [(.int (nar .byte ((own_k0 (u0 &&& (255 : Int32))).toInt8.toInt32))), (.int (nar .byte ((92 : Int32).toInt8.toInt32))), (.int (nar .byte ((120 : Int32).toInt8.toInt32))), (.int (nar .byte ((own_k2 (u1 &&& (255 : Int32))).toInt8.toInt32))), (.int (nar .byte ((own_k3 (u1 &&& (255 : Int32))).toInt8.toInt32))), (.int (nar .byte ((92 : Int32).toInt8.toInt32))), (.int (nar .byte ((120 : Int32).toInt8.toInt32))), (.int (0 : Int32))] := hw2_q12
  obtain rfl : w3_q12 = [(.int (nar .byte ((own_k0 (u0 &&& (255 : Int32))).toInt8.toInt32))), (.int (nar .byte ((92 : Int32).toInt8.toInt32))), (.int (nar .byte ((120 : Int32).toInt8.toInt32))), (.int (nar .byte ((own_k2 (u1 &&& (255 : Int32))).toInt8.toInt32))), (.int (nar .byte ((own_k3 (u1 &&& (255 : Int32))).toInt8.toInt32))), (.int (nar .byte ((92 : Int32).toInt8.toInt32))), (.int (nar .byte ((120 : Int32).toInt8.toInt32))), (.int (nar .byte ((own_k2 (u2 &&& (255 : Int32))).toInt8.toInt32)))] := hw3_q12
  obtain rfl : w4_q12 = [(.int (nar .byte ((own_k0 (u0 &&& (255 : Int32))).toInt8.toInt32))), (.int (nar .byte ((92 : Int32).toInt8.toInt32))), (.int (nar .byte ((120 : Int32).toInt8.toInt32))), (.int (nar .byte ((own_k2 (u1 &&& (255 : Int32))).toInt8.toInt32))), (.int (nar .byte ((own_k3 (u1 &&& (255 : Int32))).toInt8.toInt32))), (.int (nar .byte ((92 : Int32).toInt8.toInt32))), (.int (nar .byte ((120 : Int32).toInt8.toInt32))), (.int (nar .byte ((own_k2 (u2 &&& (255 : Int32))).toInt8.toInt32))), (.int (nar .byte ((own_k3 (u2 &&& (255 : Int32))).toInt8.toInt32))), (.int (0 : Int32)), (.int (0 : Int32)), (.int (0 : Int32)), (.int (0 : Int32)), (.int (0 : Int32)), (.int (0 : Int32)), (.int (0 : Int32)), (.int (0 : Int32)), (.int (0 : Int32))] := hw4_q12
  have S_COMPACT_STRINGS__q12 := own_sta_keep S_COMPACT_STRINGS__q6 Kq_q12 (allS (own_ns O0_q1__q6) (allS (own_ns O4_q6) all0))
  have O0_q1__q12 := O0_q1__q6.keep Kq_q12
  have K_q12 : Keep h0 h_q12 [] := K_q6.trans Kq_q12 (allS (Or.inr sz_r1_q1) (allS (Or.inr sz_r1_q6) all0))
  have O2_q12l : Fld Z h_q12 r1_q1 "java/lang/AbstractStringBuilder" "count" "I" (.int (9 : Int32)) := O2_q12
  obtain ⟨cq_q18, kq_q18, qa_q18, qb_q18, qc_q18⟩ := isOf hZ e_q12 O0_q1__q12
  obtain ⟨_, _, ⟨T_q18, L_q18, k_q18, n_q18⟩, -, X_q18, ⟨Lc_q18, hQ_q18, l_q18, y_q18, z_q18⟩, st_q18⟩ := X_q12.virtualBack hx (y := (⟨"java/lang/StringBuilder", "toString", "()Ljava/lang/String;"⟩ : MethodName)) (z := (⟨"java/lang/StringBuilder", "toString", "()Ljava/lang/String;"⟩ : MethodName)) hown (mvT hZ (own_w hw 80 rfl)) (mvT hZ (own_w hw 81 rfl)) (notFace_of_selects (args := #[]) (mvT hZ (own_w hw 83 rfl))) (mvT hZ (own_w hw 83 rfl)) (mvT hZ (own_w hw 82 rfl)) (by decide) (backOf (W := 0) (rmTSr l Z a0 hw [] r1_q1 r1_q12 kr1_q12 (18 : Int32) [(.int (nar .byte ((own_k0 (u0 &&& (255 : Int32))).toInt8.toInt32))), (.int (nar .byte ((92 : Int32).toInt8.toInt32))), (.int (nar .byte ((120 : Int32).toInt8.toInt32))), (.int (nar .byte ((own_k2 (u1 &&& (255 : Int32))).toInt8.toInt32))), (.int (nar .byte ((own_k3 (u1 &&& (255 : Int32))).toInt8.toInt32))), (.int (nar .byte ((92 : Int32).toInt8.toInt32))), (.int (nar .byte ((120 : Int32).toInt8.toInt32))), (.int (nar .byte ((own_k2 (u2 &&& (255 : Int32))).toInt8.toInt32))), (.int (nar .byte ((own_k3 (u2 &&& (255 : Int32))).toInt8.toInt32))), (.int (0 : Int32)), (.int (0 : Int32)), (.int (0 : Int32)), (.int (0 : Int32)), (.int (0 : Int32)), (.int (0 : Int32)), (.int (0 : Int32)), (.int (0 : Int32)), (.int (0 : Int32))] (9 : Int32) cs h_q12 n0 (Nat.le_trans Z0 K_q12.1) O0_q1__q12 O0_q12 O1_q12 O2_q12l O3_q12 O4_q12 S_COMPACT_STRINGS__q12 hc_q2 (by decide) (by decide) (by decide) (by decide) (by decide) (by decide)) hZ (own_w hw 84 rfl) (own_w hw 7 rfl) (by decide) (by decide)) qa_q18 qc_q18 (g := (mkF m 112 #[.val (.ref a1), .val (.ref r1_q1), .val (.ref a1), .val (.int (3 : Int32)), .val (.int (3 : Int32)), .val (.int u2), .val (.int (u2 &&& (255 : Int32)))] [(.ref r1_q1)])) rfl (by rw [hml]; rfl) (Steps.refl _) (argsL := []) (rest := []) (lenOf pd___Ljava_lang_String_ rfl) rfl (by show 2 * 0 + _ ≤ _; exact Nat.le_of_eq rfl) (hb hby d1_112) (fun _ _ => ⟨rfl, e_q12, (by decide : 4 + 2 ≤ _), (by decide : 43 + 16 ≤ _)⟩)
  dsimp only [Pt.U, Pt.locs, Pt.cells, Pt.slots] at X_q18 l_q18 y_q18 z_q18 st_q18 hQ_q18
  subst l_q18 y_q18 z_q18
  obtain ⟨r1_q18, r2_q18, kr2_q18, rfl, Nq_q18, Kq_q18, sz0_r1_q18, sz0_r2_q18, O0_q18, O1_q18, O2_q18, O3_q18, O4_q18⟩ := hQ_q18
  have N_q18 := Fr.app N_q12 Nq_q18
  have sz_r1_q18 : h0.size ≤ r1_q18 := Nat.le_trans K_q12.1 sz0_r1_q18
  have sz_r2_q18 : h0.size ≤ r2_q18 := Nat.le_trans K_q12.1 sz0_r2_q18
  have K_q18 : Keep h0 T_q18.heap [] := K_q12.trans Kq_q18 all0
  have O3_q18_l : Arv Z T_q18.heap r2_q18 kr2_q18 .byte (9 : Int32) [(.int (nar .byte ((own_k0 (u0 &&& (255 : Int32))).toInt8.toInt32))), (.int (nar .byte ((92 : Int32).toInt8.toInt32))), (.int (nar .byte ((120 : Int32).toInt8.toInt32))), (.int (nar .byte ((own_k2 (u1 &&& (255 : Int32))).toInt8.toInt32))), (.int (nar .byte ((own_k3 (u1 &&& (255 : Int32))).toInt8.toInt32))), (.int (nar .byte ((92 : Int32).toInt8.toInt32))), (.int (nar .byte ((120 : Int32).toInt8.toInt32))), (.int (nar .byte ((own_k2 (u2 &&& (255 : Int32))).toInt8.toInt32))), (.int (nar .byte ((own_k3 (u2 &&& (255 : Int32))).toInt8.toInt32)))] (.int (0 : Int32)) := O3_q18
  obtain ⟨fs, hr, hrun, hended, hW, hsame⟩ := X_q18.leave (v := some (.ref r1_q18)) (fun h => by rw [Bd.returns] at h; cases h) Bd.notSynchronized
  refine ⟨_, _, pre0 _ ?_, hrun, hended, _, _, rfl, ?_, ⟨_, rfl⟩, hW, hsame.mono (by decide) (by decide)⟩
  · show Steps p.tables e below (s₁.setTop (mkF m 0 #[.val (.ref a1), .unset, .unset, .unset, .unset, .unset, .unset] [])) _
    refine st_q1 _ ?_
    show Steps p.tables e below (T_q1.setTop (mkF m 18 #[.val (.ref a1), .val (.ref r1_q1), .val (.ref a1), .val (.int (3 : Int32)), .val (.int (0 : Int32)), .unset, .unset] [])) _
    refine st_q3 _ ?_
    show Steps p.tables e below (T_q3.setTop (mkF m 18 #[.val (.ref a1), .val (.ref r1_q1), .val (.ref a1), .val (.int (3 : Int32)), .val (.int (1 : Int32)), .val (.int u0), .val (.int (u0 &&& (255 : Int32)))] [])) _
    refine st_q6 _ ?_
    show Steps p.tables e below (T_q6.setTop (mkF m 18 #[.val (.ref a1), .val (.ref r1_q1), .val (.ref a1), .val (.int (3 : Int32)), .val (.int (2 : Int32)), .val (.int u1), .val (.int (u1 &&& (255 : Int32)))] [])) _
    refine st_q12 _ ?_
    refine XS.iload X_q12.here hx rfl (hb hby d1_18) rfl ?_
    refine XS.iloadN X_q12.here hx rfl (hb hby d1_20) rfl ?_
    refine XS.icmpYes X_q12.here hx rfl (pc0 := 21) (pc' := 111) rfl (hb hby d1_21) rfl (flt (by decide : ¬ ((3 : Int32) < (3 : Int32)))).2.1 (by decide) (by decide) ?_
    show Steps p.tables e below (T_q12.setTop (mkF m 111 #[.val (.ref a1), .val (.ref r1_q1), .val (.ref a1), .val (.int (3 : Int32)), .val (.int (3 : Int32)), .val (.int u2), .val (.int (u2 &&& (255 : Int32)))] [])) _
    refine XS.aloadN X_q12.here hx rfl (hb hby d1_111) rfl rfl ?_
    show Steps p.tables e below (T_q12.setTop (mkF m 112 #[.val (.ref a1), .val (.ref r1_q1), .val (.ref a1), .val (.int (3 : Int32)), .val (.int (3 : Int32)), .val (.int u2), .val (.int (u2 &&& (255 : Int32)))] [(.ref r1_q1)])) _
    refine st_q18.trans ?_
    show Steps p.tables e below (T_q18.setTop (mkF m 115 #[.val (.ref a1), .val (.ref r1_q1), .val (.ref a1), .val (.int (3 : Int32)), .val (.int (3 : Int32)), .val (.int u2), .val (.int (u2 &&& (255 : Int32)))] [(.ref r1_q18)])) _
    jvm_step X_q18.here [X_q18.here.top, hx, (hb hby d1_115), X_q18.method', Bd.returns, Value.isRef, FieldType.isReference]
    first | (intro acts; rw [hr _ acts rfl rfl rfl]) | rw [hr _ _ rfl rfl rfl]
    exact Steps.refl _
  · show Q_rmEn_3_011 Z a1 ha ka kh cs u0 u1 u2 h0 n0 _ T_q18.heap _
    exact ⟨r1_q18, r2_q18, kr2_q18, rfl, N_q18, K_q18, sz_r1_q18, sz_r2_q18, O0_q18, O1_q18, O2_q18, O3_q18_l⟩
def Q_rmEn_3_100 (Z : State) (a1 ha : Addr) (ka kh : ClassId) (cs : Int32) (u0 : Int32) (u1 : Int32) (u2 : Int32) (h0 : Heap) (n0 : Nat) (v : Option Value) (h : Heap) (L : List Loc) : Prop := ∃ (r1 : Addr) (r2 : Addr) (kr2 : ClassId), v = some (.ref r1) ∧ Fr n0 L ∧ Keep h0 h [] ∧ h0.size ≤ r1 ∧ h0.size ≤ r2 ∧ Exa Z h r1 "java/lang/String" ∧ Fld Z h r1 "java/lang/String" "value" "[B" (.ref r2) ∧ Fld Z h r1 "java/lang/String" "coder" "B" (.int (0 : Int32)) ∧ Arv Z h r2 kr2 .byte (6 : Int32) [(.int (nar .byte ((92 : Int32).toInt8.toInt32))), (.int (nar .byte ((120 : Int32).toInt8.toInt32))), (.int (nar .byte ((own_k2 (u0 &&& (255 : Int32))).toInt8.toInt32))), (.int (nar .byte ((own_k3 (u0 &&& (255 : Int32))).toInt8.toInt32))), (.int (nar .byte ((own_k0 (u1 &&& (255 : Int32))).toInt8.toInt32))), (.int (nar .byte ((own_k0 (u2 &&& (255 : Int32))).toInt8.toInt32)))] (.int (0 : Int32))
set_option maxRecDepth 65536 in
set_option maxHeartbeats 40000000 in
theorem rmEn_3_100 (l : Launch) (Z : State) (a0 : Array Value) (hw : ∀ d ∈ tables_1, d.before a0 Z = true) (ws : List Jvm.Cond) (a1 ha : Addr) (ka kh : ClassId) (cs : Int32) (u0 : Int32) (u1 : Int32) (u2 : Int32) (h0 : Heap) (n0 : Nat) (Z0 : n0 ≤ h0.size) (V_a1 : Arv Z h0 a1 ka .byte (3 : Int32) [(.int u0), (.int u1), (.int u2)] (.int (0 : Int32))) (S_COMPACT_STRINGS : Sta Z h0 "java/lang/String" "COMPACT_STRINGS" "Z" (.int cs)) (S_HEX_DIGITS : Sta Z h0 "com/example/presplit/presplit/escape/BinaryEscape" "HEX_DIGITS" "[C" (.ref ha)) (V_ha : Arv Z h0 ha kh .char (16 : Int32) own_hexL (.int (0 : Int32))) (hc_q2 : ¬ (cs = (0 : Int32))) (hc_q4 : own_esc (u0 &&& (255 : Int32))) (hc_q5 : ¬ (((u0 &&& (255 : Int32)).toUInt32 >>> ((4 : Int32) &&& 31).toUInt32).toInt32) < 0 ∧ (((u0 &&& (255 : Int32)).toUInt32 >>> ((4 : Int32) &&& 31).toUInt32).toInt32) < (16 : Int32)) (hc_q6 : ¬ ((F9_0 (own_k2 (u0 &&& (255 : Int32)))) = (0 : Int32))) (hc_q7 : ¬ ((u0 &&& (255 : Int32)) &&& (15 : Int32)) < 0 ∧ ((u0 &&& (255 : Int32)) &&& (15 : Int32)) < (16 : Int32)) (hc_q8 : ¬ ((F9_0 (own_k3 (u0 &&& (255 : Int32)))) = (0 : Int32))) (hc_q10 : own_pl (u1 &&& (255 : Int32))) (hc_q11 : ¬ ((F9_0 (own_k0 (u1 &&& (255 : Int32)))) = (0 : Int32))) (hc_q13 : own_pl (u2 &&& (255 : Int32))) (hc_q14 : ¬ ((F9_0 (own_k0 (u2 &&& (255 : Int32)))) = (0 : Int32))) :
    MetFree l (⟨"com/example/presplit/presplit/escape/BinaryEscape", "encode", "([B)Ljava/lang/String;"⟩ : MethodName) (head1 (Jvm.Cond.code (⟨"com/example/presplit/presplit/escape/BinaryEscape", "encode", "([B)Ljava/lang/String;"⟩ : MethodName) prog_1_method_2_code 7 (some (.object "java/lang/String")) :: ws) ({ frames := 9, cells := 6, slots := 70, locals := 180 } : Room)) (fun a U => a = #[(.ref a1)] ∧ Z.Warmed39 U.vm ∧ U.heap = h0) (fun _ _ _ _ _ => True) (fun _ U o U' => ∃ v L, o = .returned v ∧ Q_rmEn_3_100 Z a1 ha ka kh cs u0 u1 u2 h0 n0 v U'.heap L ∧ FrameEnd U o U' L ({ frames := 9, cells := 6, slots := 70, locals := 180 } : Room).cells ({ frames := 9, cells := 6, slots := 70, locals := 180 } : Room).slots) := by
  refine MetFree.of_bodySF (plainFor_of_name pn_1) hisR ?_
  intro p e s m args below meth c s₁ Bd hml0 hP hK
  obtain ⟨rfl, hZ, hh⟩ := hP
  have hx := Bd.exec
  have hby := Bd.bytes
  have hml : c.maxLocals = 7 := hml0
  have hown : s.vm.findClass "com/example/presplit/presplit/escape/BinaryEscape" = some m.cls := findClass_of_methodNamed Bd.named
  have hnm := (name_of_methodNamed Bd.named Bd.method).1
  have X0 : Stand p l e ({ frames := 9, cells := 6, slots := 70, locals := 180 } : Room) s m #[(.ref a1)] below meth c s₁ [] 0 0 := Stand.of_body Bd
  have e0 : s₁.heap = h0 := by rw [← hh, Bd.state]; rfl
  have N0 := Fr.nil n0
  have pre0 : ∀ t, Steps p.tables e below (s₁.setTop (mkF m 0 #[.val (.ref a1), .unset, .unset, .unset, .unset, .unset, .unset] [])) t → Steps p.tables e below (s₁.setTop (entryFrame m #[(.ref a1)] 7)) t := fun t k => castTop (ef_1 m a1) k
  have K0 : Keep h0 h0 [] := Keep.refl _ _
  obtain ⟨T_q1, h_q1, L_q1, r1_q1, r2_q1, kr2_q1, X_q1, e_q1, N_q1, Kq_q1, sz0_r1_q1, sz0_r2_q1, nq0_q1, O0_q1, O1_q1, O2_q1, O3_q1, O4_q1, O5_q1, st_q1⟩ := own_t_ a1 ka (3 : Int32) [(.int u0), (.int u1), (.int u2)] cs X0 hx hZ hw hby hml hown e0 N0 (Nat.le_trans Z0 K0.1) (by decide : 0 + 2 ≤ _) (by decide : 0 + 7 ≤ _) V_a1 S_COMPACT_STRINGS hc_q2 (by decide) (by decide)
  have ge_r1_q1 : n0 ≤ r1_q1 := Nat.le_trans (Nat.le_trans Z0 K0.1) sz0_r1_q1
  have sz_r1_q1 : h0.size ≤ r1_q1 := Nat.le_trans K0.1 sz0_r1_q1
  have ne_a1_r1_q1 : a1 ≠ r1_q1 := Nat.ne_of_lt (Nat.lt_of_lt_of_le V_a1.lt sz0_r1_q1)
  have ne_ha_r1_q1 : ha ≠ r1_q1 := Nat.ne_of_lt (Nat.lt_of_lt_of_le V_ha.lt sz0_r1_q1)
  have ge_r2_q1 : n0 ≤ r2_q1 := Nat.le_trans (Nat.le_trans Z0 K0.1) sz0_r2_q1
  have sz_r2_q1 : h0.size ≤ r2_q1 := Nat.le_trans K0.1 sz0_r2_q1
  have ne_a1_r2_q1 : a1 ≠ r2_q1 := Nat.ne_of_lt (Nat.lt_of_lt_of_le V_a1.lt sz0_r2_q1)
  have ne_ha_r2_q1 : ha ≠ r2_q1 := Nat.ne_of_lt (Nat.lt_of_lt_of_le V_ha.lt sz0_r2_q1)
  have V_a1__q1 := V_a1.keep Kq_q1 nin0
  have S_COMPACT_STRINGS__q1 := own_sta_keep S_COMPACT_STRINGS Kq_q1 all0
  have S_HEX_DIGITS__q1 := own_sta_keep S_HEX_DIGITS Kq_q1 all0
  have V_ha__q1 := V_ha.keep Kq_q1 nin0
  have K_q1 : Keep h0 h_q1 [] := K0.trans Kq_q1 all0
  have O4_q1l : Arv Z h_q1 r2_q1 kr2_q1 .byte (3 : Int32) [(.int (0 : Int32)), (.int (0 : Int32)), (.int (0 : Int32))] (.int (0 : Int32)) := O4_q1
  obtain ⟨T_q3, h_q3, L_q3, r1_q3, kr1_q3, w1_q3, w2_q3, w3_q3, w4_q3, X_q3, e_q3, N_q3, Kq_q3, sz0_r1_q3, hw1_q3, hw2_q3, hw3_q3, hw4_q3, O0_q3, O1_q3, O2_q3, O3_q3, O4_q3, st_q3⟩ := own_t13 a1 r1_q1 r2_q1 ha ka kr2_q1 kh (3 : Int32) (0 : Int32) [(.int u0), (.int u1), (.int u2)] u0 (3 : Int32) [(.int (0 : Int32)), (.int (0 : Int32)), (.int (0 : Int32))] (0 : Int32) (8 : Int32) cs (.unset) (.unset) X_q1 hx hZ hw hby hml hown e_q1 N_q1 (Nat.le_trans Z0 K_q1.1) (by decide : 2 + 1 ≤ _) (by decide : 7 + 18 ≤ _) V_a1__q1 O0_q1 O1_q1 O2_q1 O3_q1 O4_q1l O5_q1 S_COMPACT_STRINGS__q1 S_HEX_DIGITS__q1 V_ha__q1 ge_r1_q1 ge_r2_q1 nq0_q1 ne_a1_r1_q1 ne_a1_r2_q1 ne_ha_r1_q1 ne_ha_r2_q1 rfl (by decide) (by decide) rfl rfl rfl hc_q4 (by decide) hc_q2 (by decide) (by decide) (by decide) hc_q5 (by decide) hc_q6 (by decide) hc_q7 (by decide) (by decide) (by decide) (by decide) (by decide) (by decide) (by decide) (by decide) (by decide) (by decide) (by decide) hc_q8 (by decide)
  have ge_r1_q3 : n0 ≤ r1_q3 := Nat.le_trans (Nat.le_trans Z0 K_q1.1) sz0_r1_q3
  have sz_r1_q3 : h0.size ≤ r1_q3 := Nat.le_trans K_q1.1 sz0_r1_q3
  have ne_a1_r1_q3 : a1 ≠ r1_q3 := Nat.ne_of_lt (Nat.lt_of_lt_of_le V_a1__q1.lt sz0_r1_q3)
  have ne_ha_r1_q3 : ha ≠ r1_q3 := Nat.ne_of_lt (Nat.lt_of_lt_of_le V_ha__q1.lt sz0_r1_q3)
  have ne_r1_q1_r1_q3 : r1_q1 ≠ r1_q3 := Nat.ne_of_lt (Nat.lt_of_lt_of_le O0_q1.lt sz0_r1_q3)
  obtain rfl : w1_q3 = [(.int (nar .byte ((92 : Int32).toInt8.toInt32))), (.int (0 : Int32)), (.int (0 : Int32))] := hw1_q3
  obtain rfl : w2_q3 = [(.int (nar .byte ((92 : Int32).toInt8.toInt32))), (.int (nar .byte ((120 : Int32).toInt8.toInt32))), (.int (0 : Int32))] := hw2_q3
  obtain rfl : w3_q3 = [(.int (nar .byte ((92 : Int32).toInt8.toInt32))), (.int (nar .byte ((120 : Int32).toInt8.toInt32))), (.int (nar .byte ((own_k2 (u0 &&& (255 : Int32))).toInt8.toInt32)))] := hw3_q3
  obtain rfl : w4_q3 = [(.int (nar .byte ((92 : Int32).toInt8.toInt32))), (.int (nar .byte ((120 : Int32).toInt8.toInt32))), (.int (nar .byte ((own_k2 (u0 &&& (255 : Int32))).toInt8.toInt32))), (.int (nar .byte ((own_k3 (u0 &&& (255 : Int32))).toInt8.toInt32))), (.int (0 : Int32)), (.int (0 : Int32)), (.int (0 : Int32)), (.int (0 : Int32))] := hw4_q3
  have V_a1__q3 := V_a1__q1.keep Kq_q3 (ninS ne_a1_r1_q1 (ninS ne_a1_r2_q1 nin0))
  have S_COMPACT_STRINGS__q3 := own_sta_keep S_COMPACT_STRINGS__q1 Kq_q3 (allS (own_ns O0_q1) (allS (own_ns O5_q1) all0))
  have S_HEX_DIGITS__q3 := own_sta_keep S_HEX_DIGITS__q1 Kq_q3 (allS (own_ns O0_q1) (allS (own_ns O5_q1) all0))
  have V_ha__q3 := V_ha__q1.keep Kq_q3 (ninS ne_ha_r1_q1 (ninS ne_ha_r2_q1 nin0))
  have O0_q1__q3 := O0_q1.keep Kq_q3
  have K_q3 : Keep h0 h_q3 [] := K_q1.trans Kq_q3 (allS (Or.inr sz_r1_q1) (allS (Or.inr sz_r2_q1) all0))
  have O2_q3l : Fld Z h_q3 r1_q1 "java/lang/AbstractStringBuilder" "count" "I" (.int (4 : Int32)) := O2_q3
  obtain ⟨T_q9, h_q9, L_q9, w1_q9, X_q9, e_q9, N_q9, Kq_q9, hw1_q9, O0_q9, O1_q9, O2_q9, O3_q9, O4_q9, st_q9⟩ := own_t0n a1 r1_q1 r1_q3 ha ka kr1_q3 kh (3 : Int32) (1 : Int32) [(.int u0), (.int u1), (.int u2)] u1 (8 : Int32) [(.int (nar .byte ((92 : Int32).toInt8.toInt32))), (.int (nar .byte ((120 : Int32).toInt8.toInt32))), (.int (nar .byte ((own_k2 (u0 &&& (255 : Int32))).toInt8.toInt32))), (.int (nar .byte ((own_k3 (u0 &&& (255 : Int32))).toInt8.toInt32))), (.int (0 : Int32)), (.int (0 : Int32)), (.int (0 : Int32)), (.int (0 : Int32))] (4 : Int32) (18 : Int32) cs (.val (.int u0)) (.val (.int (u0 &&& (255 : Int32)))) X_q3 hx hZ hw hby hml hown e_q3 N_q3 (Nat.le_trans Z0 K_q3.1) (by decide : 3 + 0 ≤ _) (by decide : 25 + 0 ≤ _) V_a1__q3 O0_q1__q3 O0_q3 O1_q3 O2_q3l O3_q3 O4_q3 S_COMPACT_STRINGS__q3 S_HEX_DIGITS__q3 V_ha__q3 ge_r1_q1 ge_r1_q3 (Ne.symm ne_r1_q1_r1_q3) ne_a1_r1_q1 ne_a1_r1_q3 ne_ha_r1_q1 ne_ha_r1_q3 rfl (by decide) (by decide) rfl rfl rfl hc_q10 (by decide) hc_q2 hc_q11 (by decide)
  obtain rfl : w1_q9 = [(.int (nar .byte ((92 : Int32).toInt8.toInt32))), (.int (nar .byte ((120 : Int32).toInt8.toInt32))), (.int (nar .byte ((own_k2 (u0 &&& (255 : Int32))).toInt8.toInt32))), (.int (nar .byte ((own_k3 (u0 &&& (255 : Int32))).toInt8.toInt32))), (.int (nar .byte ((own_k0 (u1 &&& (255 : Int32))).toInt8.toInt32))), (.int (0 : Int32)), (.int (0 : Int32)), (.int (0 : Int32))] := hw1_q9
  have V_a1__q9 := V_a1__q3.keep Kq_q9 (ninS ne_a1_r1_q1 (ninS ne_a1_r1_q3 nin0))
  have S_COMPACT_STRINGS__q9 := own_sta_keep S_COMPACT_STRINGS__q3 Kq_q9 (allS (own_ns O0_q1__q3) (allS (own_ns O4_q3) all0))
  have S_HEX_DIGITS__q9 := own_sta_keep S_HEX_DIGITS__q3 Kq_q9 (allS (own_ns O0_q1__q3) (allS (own_ns O4_q3) all0))
  have V_ha__q9 := V_ha__q3.keep Kq_q9 (ninS ne_ha_r1_q1 (ninS ne_ha_r1_q3 nin0))
  have O0_q1__q9 := O0_q1__q3.keep Kq_q9
  have K_q9 : Keep h0 h_q9 [] := K_q3.trans Kq_q9 (allS (Or.inr sz_r1_q1) (allS (Or.inr sz_r1_q3) all0))
  have O2_q9l : Fld Z h_q9 r1_q1 "java/lang/AbstractStringBuilder" "count" "I" (.int (5 : Int32)) := O2_q9
  obtain ⟨T_q12, h_q12, L_q12, w1_q12, X_q12, e_q12, N_q12, Kq_q12, hw1_q12, O0_q12, O1_q12, O2_q12, O3_q12, O4_q12, st_q12⟩ := own_t0n a1 r1_q1 r1_q3 ha ka kr1_q3 kh (3 : Int32) (2 : Int32) [(.int u0), (.int u1), (.int u2)] u2 (8 : Int32) [(.int (nar .byte ((92 : Int32).toInt8.toInt32))), (.int (nar .byte ((120 : Int32).toInt8.toInt32))), (.int (nar .byte ((own_k2 (u0 &&& (255 : Int32))).toInt8.toInt32))), (.int (nar .byte ((own_k3 (u0 &&& (255 : Int32))).toInt8.toInt32))), (.int (nar .byte ((own_k0 (u1 &&& (255 : Int32))).toInt8.toInt32))), (.int (0 : Int32)), (.int (0 : Int32)), (.int (0 : Int32))] (5 : Int32) (18 : Int32) cs (.val (.int u1)) (.val (.int (u1 &&& (255 : Int32)))) X_q9 hx hZ hw hby hml hown e_q9 N_q9 (Nat.le_trans Z0 K_q9.1) (by decide : 3 + 0 ≤ _) (by decide : 25 + 0 ≤ _) V_a1__q9 O0_q1__q9 O0_q9 O1_q9 O2_q9l O3_q9 O4_q9 S_COMPACT_STRINGS__q9 S_HEX_DIGITS__q9 V_ha__q9 ge_r1_q1 ge_r1_q3 (Ne.symm ne_r1_q1_r1_q3) ne_a1_r1_q1 ne_a1_r1_q3 ne_ha_r1_q1 ne_ha_r1_q3 rfl (by decide) (by decide) rfl rfl rfl hc_q13 (by decide) hc_q2 hc_q14 (by decide)
  obtain rfl : w1_q12 = [(.int (nar .byte ((92 : Int32).toInt8.toInt32))), (.int (nar .byte ((120 : Int32).toInt8.toInt32))), (.int (nar .byte ((own_k2 (u0 &&& (255 : Int32))).toInt8.toInt32))), (.int (nar .byte ((own_k3 (u0 &&& (255 : Int32))).toInt8.toInt32))), (.int (nar .byte ((own_k0 (u1 &&& (255 : Int32))).toInt8.toInt32))), (.int (nar .byte ((own_k0 (u2 &&& (255 : Int32))).toInt8.toInt32))), (.int (0 : Int32)), (.int (0 : Int32))] := hw1_q12
  have S_COMPACT_STRINGS__q12 := own_sta_keep S_COMPACT_STRINGS__q9 Kq_q12 (allS (own_ns O0_q1__q9) (allS (own_ns O4_q9) all0))
  have O0_q1__q12 := O0_q1__q9.keep Kq_q12
  have K_q12 : Keep h0 h_q12 [] := K_q9.trans Kq_q12 (allS (Or.inr sz_r1_q1) (allS (Or.inr sz_r1_q3) all0))
  have O2_q12l : Fld Z h_q12 r1_q1 "java/lang/AbstractStringBuilder" "count" "I" (.int (6 : Int32)) := O2_q12
  obtain ⟨cq_q15, kq_q15, qa_q15, qb_q15, qc_q15⟩ := isOf hZ e_q12 O0_q1__q12
  obtain ⟨_, _, ⟨T_q15, L_q15, k_q15, n_q15⟩, -, X_q15, ⟨Lc_q15, hQ_q15, l_q15, y_q15, z_q15⟩, st_q15⟩ := X_q12.virtualBack hx (y := (⟨"java/lang/StringBuilder", "toString", "()Ljava/lang/String;"⟩ : MethodName)) (z := (⟨"java/lang/StringBuilder", "toString", "()Ljava/lang/String;"⟩ : MethodName)) hown (mvT hZ (own_w hw 80 rfl)) (mvT hZ (own_w hw 81 rfl)) (notFace_of_selects (args := #[]) (mvT hZ (own_w hw 83 rfl))) (mvT hZ (own_w hw 83 rfl)) (mvT hZ (own_w hw 82 rfl)) (by decide) (backOf (W := 0) (rmTSr l Z a0 hw [] r1_q1 r1_q3 kr1_q3 (8 : Int32) [(.int (nar .byte ((92 : Int32).toInt8.toInt32))), (.int (nar .byte ((120 : Int32).toInt8.toInt32))), (.int (nar .byte ((own_k2 (u0 &&& (255 : Int32))).toInt8.toInt32))), (.int (nar .byte ((own_k3 (u0 &&& (255 : Int32))).toInt8.toInt32))), (.int (nar .byte ((own_k0 (u1 &&& (255 : Int32))).toInt8.toInt32))), (.int (nar .byte ((own_k0 (u2 &&& (255 : Int32))).toInt8.toInt32))), (.int (0 : Int32)), (.int (0 : Int32))] (6 : Int32) cs h_q12 n0 (Nat.le_trans Z0 K_q12.1) O0_q1__q12 O0_q12 O1_q12 O2_q12l O3_q12 O4_q12 S_COMPACT_STRINGS__q12 hc_q2 (by decide) (by decide) (by decide) (by decide) (by decide) (by decide)) hZ (own_w hw 84 rfl) (own_w hw 7 rfl) (by decide) (by decide)) qa_q15 qc_q15 (g := (mkF m 112 #[.val (.ref a1), .val (.ref r1_q1), .val (.ref a1), .val (.int (3 : Int32)), .val (.int (3 : Int32)), .val (.int u2), .val (.int (u2 &&& (255 : Int32)))] [(.ref r1_q1)])) rfl (by rw [hml]; rfl) (Steps.refl _) (argsL := []) (rest := []) (lenOf pd___Ljava_lang_String_ rfl) rfl (by show 2 * 0 + _ ≤ _; exact Nat.le_of_eq rfl) (hb hby d1_112) (fun _ _ => ⟨rfl, e_q12, (by decide : 3 + 2 ≤ _), (by decide : 25 + 16 ≤ _)⟩)
  dsimp only [Pt.U, Pt.locs, Pt.cells, Pt.slots] at X_q15 l_q15 y_q15 z_q15 st_q15 hQ_q15
  subst l_q15 y_q15 z_q15
  obtain ⟨r1_q15, r2_q15, kr2_q15, rfl, Nq_q15, Kq_q15, sz0_r1_q15, sz0_r2_q15, O0_q15, O1_q15, O2_q15, O3_q15, O4_q15⟩ := hQ_q15
  have N_q15 := Fr.app N_q12 Nq_q15
  have sz_r1_q15 : h0.size ≤ r1_q15 := Nat.le_trans K_q12.1 sz0_r1_q15
  have sz_r2_q15 : h0.size ≤ r2_q15 := Nat.le_trans K_q12.1 sz0_r2_q15
  have K_q15 : Keep h0 T_q15.heap [] := K_q12.trans Kq_q15 all0
  have O3_q15_l : Arv Z T_q15.heap r2_q15 kr2_q15 .byte (6 : Int32) [(.int (nar .byte ((92 : Int32).toInt8.toInt32))), (.int (nar .byte ((120 : Int32).toInt8.toInt32))), (.int (nar .byte ((own_k2 (u0 &&& (255 : Int32))).toInt8.toInt32))), (.int (nar .byte ((own_k3 (u0 &&& (255 : Int32))).toInt8.toInt32))), (.int (nar .byte ((own_k0 (u1 &&& (255 : Int32))).toInt8.toInt32))), (.int (nar .byte ((own_k0 (u2 &&& (255 : Int32))).toInt8.toInt32)))] (.int (0 : Int32)) := O3_q15
  obtain ⟨fs, hr, hrun, hended, hW, hsame⟩ := X_q15.leave (v := some (.ref r1_q15)) (fun h => by rw [Bd.returns] at h; cases h) Bd.notSynchronized
  refine ⟨_, _, pre0 _ ?_, hrun, hended, _, _, rfl, ?_, ⟨_, rfl⟩, hW, hsame.mono (by decide) (by decide)⟩
  · show Steps p.tables e below (s₁.setTop (mkF m 0 #[.val (.ref a1), .unset, .unset, .unset, .unset, .unset, .unset] [])) _
    refine st_q1 _ ?_
    show Steps p.tables e below (T_q1.setTop (mkF m 18 #[.val (.ref a1), .val (.ref r1_q1), .val (.ref a1), .val (.int (3 : Int32)), .val (.int (0 : Int32)), .unset, .unset] [])) _
    refine st_q3 _ ?_
    show Steps p.tables e below (T_q3.setTop (mkF m 18 #[.val (.ref a1), .val (.ref r1_q1), .val (.ref a1), .val (.int (3 : Int32)), .val (.int (1 : Int32)), .val (.int u0), .val (.int (u0 &&& (255 : Int32)))] [])) _
    refine st_q9 _ ?_
    show Steps p.tables e below (T_q9.setTop (mkF m 18 #[.val (.ref a1), .val (.ref r1_q1), .val (.ref a1), .val (.int (3 : Int32)), .val (.int (2 : Int32)), .val (.int u1), .val (.int (u1 &&& (255 : Int32)))] [])) _
    refine st_q12 _ ?_
    refine XS.iload X_q12.here hx rfl (hb hby d1_18) rfl ?_
    refine XS.iloadN X_q12.here hx rfl (hb hby d1_20) rfl ?_
    refine XS.icmpYes X_q12.here hx rfl (pc0 := 21) (pc' := 111) rfl (hb hby d1_21) rfl (flt (by decide : ¬ ((3 : Int32) < (3 : Int32)))).2.1 (by decide) (by decide) ?_
    show Steps p.tables e below (T_q12.setTop (mkF m 111 #[.val (.ref a1), .val (.ref r1_q1), .val (.ref a1), .val (.int (3 : Int32)), .val (.int (3 : Int32)), .val (.int u2), .val (.int (u2 &&& (255 : Int32)))] [])) _
    refine XS.aloadN X_q12.here hx rfl (hb hby d1_111) rfl rfl ?_
    show Steps p.tables e below (T_q12.setTop (mkF m 112 #[.val (.ref a1), .val (.ref r1_q1), .val (.ref a1), .val (.int (3 : Int32)), .val (.int (3 : Int32)), .val (.int u2), .val (.int (u2 &&& (255 : Int32)))] [(.ref r1_q1)])) _
    refine st_q15.trans ?_
    show Steps p.tables e below (T_q15.setTop (mkF m 115 #[.val (.ref a1), .val (.ref r1_q1), .val (.ref a1), .val (.int (3 : Int32)), .val (.int (3 : Int32)), .val (.int u2), .val (.int (u2 &&& (255 : Int32)))] [(.ref r1_q15)])) _
    jvm_step X_q15.here [X_q15.here.top, hx, (hb hby d1_115), X_q15.method', Bd.returns, Value.isRef, FieldType.isReference]
    first | (intro acts; rw [hr _ acts rfl rfl rfl]) | rw [hr _ _ rfl rfl rfl]
    exact Steps.refl _
  · show Q_rmEn_3_100 Z a1 ha ka kh cs u0 u1 u2 h0 n0 _ T_q15.heap _
    exact ⟨r1_q15, r2_q15, kr2_q15, rfl, N_q15, K_q15, sz_r1_q15, sz_r2_q15, O0_q15, O1_q15, O2_q15, O3_q15_l⟩
def Q_rmEn_3_101 (Z : State) (a1 ha : Addr) (ka kh : ClassId) (cs : Int32) (u0 : Int32) (u1 : Int32) (u2 : Int32) (h0 : Heap) (n0 : Nat) (v : Option Value) (h : Heap) (L : List Loc) : Prop := ∃ (r1 : Addr) (r2 : Addr) (kr2 : ClassId), v = some (.ref r1) ∧ Fr n0 L ∧ Keep h0 h [] ∧ h0.size ≤ r1 ∧ h0.size ≤ r2 ∧ Exa Z h r1 "java/lang/String" ∧ Fld Z h r1 "java/lang/String" "value" "[B" (.ref r2) ∧ Fld Z h r1 "java/lang/String" "coder" "B" (.int (0 : Int32)) ∧ Arv Z h r2 kr2 .byte (9 : Int32) [(.int (nar .byte ((92 : Int32).toInt8.toInt32))), (.int (nar .byte ((120 : Int32).toInt8.toInt32))), (.int (nar .byte ((own_k2 (u0 &&& (255 : Int32))).toInt8.toInt32))), (.int (nar .byte ((own_k3 (u0 &&& (255 : Int32))).toInt8.toInt32))), (.int (nar .byte ((own_k0 (u1 &&& (255 : Int32))).toInt8.toInt32))), (.int (nar .byte ((92 : Int32).toInt8.toInt32))), (.int (nar .byte ((120 : Int32).toInt8.toInt32))), (.int (nar .byte ((own_k2 (u2 &&& (255 : Int32))).toInt8.toInt32))), (.int (nar .byte ((own_k3 (u2 &&& (255 : Int32))).toInt8.toInt32)))] (.int (0 : Int32))
set_option maxRecDepth 65536 in
set_option maxHeartbeats 40000000 in
theorem rmEn_3_101 (l : Launch) (Z : State) (a0 : Array Value) (hw : ∀ d ∈ tables_1, d.before a0 Z = true) (ws : List Jvm.Cond) (a1 ha : Addr) (ka kh : ClassId) (cs : Int32) (u0 : Int32) (u1 : Int32) (u2 : Int32) (h0 : Heap) (n0 : Nat) (Z0 : n0 ≤ h0.size) (V_a1 : Arv Z h0 a1 ka .byte (3 : Int32) [(.int u0), (.int u1), (.int u2)] (.int (0 : Int32))) (S_COMPACT_STRINGS : Sta Z h0 "java/lang/String" "COMPACT_STRINGS" "Z" (.int cs)) (S_HEX_DIGITS : Sta Z h0 "com/example/presplit/presplit/escape/BinaryEscape" "HEX_DIGITS" "[C" (.ref ha)) (V_ha : Arv Z h0 ha kh .char (16 : Int32) own_hexL (.int (0 : Int32))) (hc_q2 : ¬ (cs = (0 : Int32))) (hc_q4 : own_esc (u0 &&& (255 : Int32))) (hc_q5 : ¬ (((u0 &&& (255 : Int32)).toUInt32 >>> ((4 : Int32) &&& 31).toUInt32).toInt32) < 0 ∧ (((u0 &&& (255 : Int32)).toUInt32 >>> ((4 : Int32) &&& 31).toUInt32).toInt32) < (16 : Int32)) (hc_q6 : ¬ ((F9_0 (own_k2 (u0 &&& (255 : Int32)))) = (0 : Int32))) (hc_q7 : ¬ ((u0 &&& (255 : Int32)) &&& (15 : Int32)) < 0 ∧ ((u0 &&& (255 : Int32)) &&& (15 : Int32)) < (16 : Int32)) (hc_q8 : ¬ ((F9_0 (own_k3 (u0 &&& (255 : Int32)))) = (0 : Int32))) (hc_q10 : own_pl (u1 &&& (255 : Int32))) (hc_q11 : ¬ ((F9_0 (own_k0 (u1 &&& (255 : Int32)))) = (0 : Int32))) (hc_q13 : own_esc (u2 &&& (255 : Int32))) (hc_q14 : ¬ (((u2 &&& (255 : Int32)).toUInt32 >>> ((4 : Int32) &&& 31).toUInt32).toInt32) < 0 ∧ (((u2 &&& (255 : Int32)).toUInt32 >>> ((4 : Int32) &&& 31).toUInt32).toInt32) < (16 : Int32)) (hc_q15 : ¬ ((F9_0 (own_k2 (u2 &&& (255 : Int32)))) = (0 : Int32))) (hc_q16 : ¬ ((u2 &&& (255 : Int32)) &&& (15 : Int32)) < 0 ∧ ((u2 &&& (255 : Int32)) &&& (15 : Int32)) < (16 : Int32)) (hc_q17 : ¬ ((F9_0 (own_k3 (u2 &&& (255 : Int32)))) = (0 : Int32))) :
    MetFree l (⟨"com/example/presplit/presplit/escape/BinaryEscape", "encode", "([B)Ljava/lang/String;"⟩ : MethodName) (head1 (Jvm.Cond.code (⟨"com/example/presplit/presplit/escape/BinaryEscape", "encode", "([B)Ljava/lang/String;"⟩ : MethodName) prog_1_method_2_code 7 (some (.object "java/lang/String")) :: ws) ({ frames := 9, cells := 6, slots := 70, locals := 180 } : Room)) (fun a U => a = #[(.ref a1)] ∧ Z.Warmed39 U.vm ∧ U.heap = h0) (fun _ _ _ _ _ => True) (fun _ U o U' => ∃ v L, o = .returned v ∧ Q_rmEn_3_101 Z a1 ha ka kh cs u0 u1 u2 h0 n0 v U'.heap L ∧ FrameEnd U o U' L ({ frames := 9, cells := 6, slots := 70, locals := 180 } : Room).cells ({ frames := 9, cells := 6, slots := 70, locals := 180 } : Room).slots) := by
  refine MetFree.of_bodySF (plainFor_of_name pn_1) hisR ?_
  intro p e s m args below meth c s₁ Bd hml0 hP hK
  obtain ⟨rfl, hZ, hh⟩ := hP
  have hx := Bd.exec
  have hby := Bd.bytes
  have hml : c.maxLocals = 7 := hml0
  have hown : s.vm.findClass "com/example/presplit/presplit/escape/BinaryEscape" = some m.cls := findClass_of_methodNamed Bd.named
  have hnm := (name_of_methodNamed Bd.named Bd.method).1
  have X0 : Stand p l e ({ frames := 9, cells := 6, slots := 70, locals := 180 } : Room) s m #[(.ref a1)] below meth c s₁ [] 0 0 := Stand.of_body Bd
  have e0 : s₁.heap = h0 := by rw [← hh, Bd.state]; rfl
  have N0 := Fr.nil n0
  have pre0 : ∀ t, Steps p.tables e below (s₁.setTop (mkF m 0 #[.val (.ref a1), .unset, .unset, .unset, .unset, .unset, .unset] [])) t → Steps p.tables e below (s₁.setTop (entryFrame m #[(.ref a1)] 7)) t := fun t k => castTop (ef_1 m a1) k
  have K0 : Keep h0 h0 [] := Keep.refl _ _
  obtain ⟨T_q1, h_q1, L_q1, r1_q1, r2_q1, kr2_q1, X_q1, e_q1, N_q1, Kq_q1, sz0_r1_q1, sz0_r2_q1, nq0_q1, O0_q1, O1_q1, O2_q1, O3_q1, O4_q1, O5_q1, st_q1⟩ := own_t_ a1 ka (3 : Int32) [(.int u0), (.int u1), (.int u2)] cs X0 hx hZ hw hby hml hown e0 N0 (Nat.le_trans Z0 K0.1) (by decide : 0 + 2 ≤ _) (by decide : 0 + 7 ≤ _) V_a1 S_COMPACT_STRINGS hc_q2 (by decide) (by decide)
  have ge_r1_q1 : n0 ≤ r1_q1 := Nat.le_trans (Nat.le_trans Z0 K0.1) sz0_r1_q1
  have sz_r1_q1 : h0.size ≤ r1_q1 := Nat.le_trans K0.1 sz0_r1_q1
  have ne_a1_r1_q1 : a1 ≠ r1_q1 := Nat.ne_of_lt (Nat.lt_of_lt_of_le V_a1.lt sz0_r1_q1)
  have ne_ha_r1_q1 : ha ≠ r1_q1 := Nat.ne_of_lt (Nat.lt_of_lt_of_le V_ha.lt sz0_r1_q1)
  have ge_r2_q1 : n0 ≤ r2_q1 := Nat.le_trans (Nat.le_trans Z0 K0.1) sz0_r2_q1
  have sz_r2_q1 : h0.size ≤ r2_q1 := Nat.le_trans K0.1 sz0_r2_q1
  have ne_a1_r2_q1 : a1 ≠ r2_q1 := Nat.ne_of_lt (Nat.lt_of_lt_of_le V_a1.lt sz0_r2_q1)
  have ne_ha_r2_q1 : ha ≠ r2_q1 := Nat.ne_of_lt (Nat.lt_of_lt_of_le V_ha.lt sz0_r2_q1)
  have V_a1__q1 := V_a1.keep Kq_q1 nin0
  have S_COMPACT_STRINGS__q1 := own_sta_keep S_COMPACT_STRINGS Kq_q1 all0
  have S_HEX_DIGITS__q1 := own_sta_keep S_HEX_DIGITS Kq_q1 all0
  have V_ha__q1 := V_ha.keep Kq_q1 nin0
  have K_q1 : Keep h0 h_q1 [] := K0.trans Kq_q1 all0
  have O4_q1l : Arv Z h_q1 r2_q1 kr2_q1 .byte (3 : Int32) [(.int (0 : Int32)), (.int (0 : Int32)), (.int (0 : Int32))] (.int (0 : Int32)) := O4_q1
  obtain ⟨T_q3, h_q3, L_q3, r1_q3, kr1_q3, w1_q3, w2_q3, w3_q3, w4_q3, X_q3, e_q3, N_q3, Kq_q3, sz0_r1_q3, hw1_q3, hw2_q3, hw3_q3, hw4_q3, O0_q3, O1_q3, O2_q3, O3_q3, O4_q3, st_q3⟩ := own_t13 a1 r1_q1 r2_q1 ha ka kr2_q1 kh (3 : Int32) (0 : Int32) [(.int u0), (.int u1), (.int u2)] u0 (3 : Int32) [(.int (0 : Int32)), (.int (0 : Int32)), (.int (0 : Int32))] (0 : Int32) (8 : Int32) cs (.unset) (.unset) X_q1 hx hZ hw hby hml hown e_q1 N_q1 (Nat.le_trans Z0 K_q1.1) (by decide : 2 + 1 ≤ _) (by decide : 7 + 18 ≤ _) V_a1__q1 O0_q1 O1_q1 O2_q1 O3_q1 O4_q1l O5_q1 S_COMPACT_STRINGS__q1 S_HEX_DIGITS__q1 V_ha__q1 ge_r1_q1 ge_r2_q1 nq0_q1 ne_a1_r1_q1 ne_a1_r2_q1 ne_ha_r1_q1 ne_ha_r2_q1 rfl (by decide) (by decide) rfl rfl rfl hc_q4 (by decide) hc_q2 (by decide) (by decide) (by decide) hc_q5 (by decide) hc_q6 (by decide) hc_q7 (by decide) (by decide) (by decide) (by decide) (by decide) (by decide) (by decide) (by decide) (by decide) (by decide) (by decide) hc_q8 (by decide)
  have ge_r1_q3 : n0 ≤ r1_q3 := Nat.le_trans (Nat.le_trans Z0 K_q1.1) sz0_r1_q3
  have sz_r1_q3 : h0.size ≤ r1_q3 := Nat.le_trans K_q1.1 sz0_r1_q3
  have ne_a1_r1_q3 : a1 ≠ r1_q3 := Nat.ne_of_lt (Nat.lt_of_lt_of_le V_a1__q1.lt sz0_r1_q3)
  have ne_ha_r1_q3 : ha ≠ r1_q3 := Nat.ne_of_lt (Nat.lt_of_lt_of_le V_ha__q1.lt sz0_r1_q3)
  have ne_r1_q1_r1_q3 : r1_q1 ≠ r1_q3 := Nat.ne_of_lt (Nat.lt_of_lt_of_le O0_q1.lt sz0_r1_q3)
  obtain rfl : w1_q3 = [(.int (nar .byte ((92 : Int32).toInt8.toInt32))), (.int (0 : Int32)), (.int (0 : Int32))] := hw1_q3
  obtain rfl : w2_q3 = [(.int (nar .byte ((92 : Int32).toInt8.toInt32))), (.int (nar .byte ((120 : Int32).toInt8.toInt32))), (.int (0 : Int32))] := hw2_q3
  obtain rfl : w3_q3 = [(.int (nar .byte ((92 : Int32).toInt8.toInt32))), (.int (nar .byte ((120 : Int32).toInt8.toInt32))), (.int (nar .byte ((own_k2 (u0 &&& (255 : Int32))).toInt8.toInt32)))] := hw3_q3
  obtain rfl : w4_q3 = [(.int (nar .byte ((92 : Int32).toInt8.toInt32))), (.int (nar .byte ((120 : Int32).toInt8.toInt32))), (.int (nar .byte ((own_k2 (u0 &&& (255 : Int32))).toInt8.toInt32))), (.int (nar .byte ((own_k3 (u0 &&& (255 : Int32))).toInt8.toInt32))), (.int (0 : Int32)), (.int (0 : Int32)), (.int (0 : Int32)), (.int (0 : Int32))] := hw4_q3
  have V_a1__q3 := V_a1__q1.keep Kq_q3 (ninS ne_a1_r1_q1 (ninS ne_a1_r2_q1 nin0))
  have S_COMPACT_STRINGS__q3 := own_sta_keep S_COMPACT_STRINGS__q1 Kq_q3 (allS (own_ns O0_q1) (allS (own_ns O5_q1) all0))
  have S_HEX_DIGITS__q3 := own_sta_keep S_HEX_DIGITS__q1 Kq_q3 (allS (own_ns O0_q1) (allS (own_ns O5_q1) all0))
  have V_ha__q3 := V_ha__q1.keep Kq_q3 (ninS ne_ha_r1_q1 (ninS ne_ha_r2_q1 nin0))
  have O0_q1__q3 := O0_q1.keep Kq_q3
  have K_q3 : Keep h0 h_q3 [] := K_q1.trans Kq_q3 (allS (Or.inr sz_r1_q1) (allS (Or.inr sz_r2_q1) all0))
  have O2_q3l : Fld Z h_q3 r1_q1 "java/lang/AbstractStringBuilder" "count" "I" (.int (4 : Int32)) := O2_q3
  obtain ⟨T_q9, h_q9, L_q9, w1_q9, X_q9, e_q9, N_q9, Kq_q9, hw1_q9, O0_q9, O1_q9, O2_q9, O3_q9, O4_q9, st_q9⟩ := own_t0n a1 r1_q1 r1_q3 ha ka kr1_q3 kh (3 : Int32) (1 : Int32) [(.int u0), (.int u1), (.int u2)] u1 (8 : Int32) [(.int (nar .byte ((92 : Int32).toInt8.toInt32))), (.int (nar .byte ((120 : Int32).toInt8.toInt32))), (.int (nar .byte ((own_k2 (u0 &&& (255 : Int32))).toInt8.toInt32))), (.int (nar .byte ((own_k3 (u0 &&& (255 : Int32))).toInt8.toInt32))), (.int (0 : Int32)), (.int (0 : Int32)), (.int (0 : Int32)), (.int (0 : Int32))] (4 : Int32) (18 : Int32) cs (.val (.int u0)) (.val (.int (u0 &&& (255 : Int32)))) X_q3 hx hZ hw hby hml hown e_q3 N_q3 (Nat.le_trans Z0 K_q3.1) (by decide : 3 + 0 ≤ _) (by decide : 25 + 0 ≤ _) V_a1__q3 O0_q1__q3 O0_q3 O1_q3 O2_q3l O3_q3 O4_q3 S_COMPACT_STRINGS__q3 S_HEX_DIGITS__q3 V_ha__q3 ge_r1_q1 ge_r1_q3 (Ne.symm ne_r1_q1_r1_q3) ne_a1_r1_q1 ne_a1_r1_q3 ne_ha_r1_q1 ne_ha_r1_q3 rfl (by decide) (by decide) rfl rfl rfl hc_q10 (by decide) hc_q2 hc_q11 (by decide)
  obtain rfl : w1_q9 = [(.int (nar .byte ((92 : Int32).toInt8.toInt32))), (.int (nar .byte ((120 : Int32).toInt8.toInt32))), (.int (nar .byte ((own_k2 (u0 &&& (255 : Int32))).toInt8.toInt32))), (.int (nar .byte ((own_k3 (u0 &&& (255 : Int32))).toInt8.toInt32))), (.int (nar .byte ((own_k0 (u1 &&& (255 : Int32))).toInt8.toInt32))), (.int (0 : Int32)), (.int (0 : Int32)), (.int (0 : Int32))] := hw1_q9
  have V_a1__q9 := V_a1__q3.keep Kq_q9 (ninS ne_a1_r1_q1 (ninS ne_a1_r1_q3 nin0))
  have S_COMPACT_STRINGS__q9 := own_sta_keep S_COMPACT_STRINGS__q3 Kq_q9 (allS (own_ns O0_q1__q3) (allS (own_ns O4_q3) all0))
  have S_HEX_DIGITS__q9 := own_sta_keep S_HEX_DIGITS__q3 Kq_q9 (allS (own_ns O0_q1__q3) (allS (own_ns O4_q3) all0))
  have V_ha__q9 := V_ha__q3.keep Kq_q9 (ninS ne_ha_r1_q1 (ninS ne_ha_r1_q3 nin0))
  have O0_q1__q9 := O0_q1__q3.keep Kq_q9
  have K_q9 : Keep h0 h_q9 [] := K_q3.trans Kq_q9 (allS (Or.inr sz_r1_q1) (allS (Or.inr sz_r1_q3) all0))
  have O2_q9l : Fld Z h_q9 r1_q1 "java/lang/AbstractStringBuilder" "count" "I" (.int (5 : Int32)) := O2_q9
  obtain ⟨T_q12, h_q12, L_q12, r1_q12, kr1_q12, w1_q12, w2_q12, w3_q12, w4_q12, X_q12, e_q12, N_q12, Kq_q12, sz0_r1_q12, hw1_q12, hw2_q12, hw3_q12, hw4_q12, O0_q12, O1_q12, O2_q12, O3_q12, O4_q12, st_q12⟩ := own_t13 a1 r1_q1 r1_q3 ha ka kr1_q3 kh (3 : Int32) (2 : Int32) [(.int u0), (.int u1), (.int u2)] u2 (8 : Int32) [(.int (nar .byte ((92 : Int32).toInt8.toInt32))), (.int (nar .byte ((120 : Int32).toInt8.toInt32))), (.int (nar .byte ((own_k2 (u0 &&& (255 : Int32))).toInt8.toInt32))), (.int (nar .byte ((own_k3 (u0 &&& (255 : Int32))).toInt8.toInt32))), (.int (nar .byte ((own_k0 (u1 &&& (255 : Int32))).toInt8.toInt32))), (.int (0 : Int32)), (.int (0 : Int32)), (.int (0 : Int32))] (5 : Int32) (18 : Int32) cs (.val (.int u1)) (.val (.int (u1 &&& (255 : Int32)))) X_q9 hx hZ hw hby hml hown e_q9 N_q9 (Nat.le_trans Z0 K_q9.1) (by decide : 3 + 1 ≤ _) (by decide : 25 + 18 ≤ _) V_a1__q9 O0_q1__q9 O0_q9 O1_q9 O2_q9l O3_q9 O4_q9 S_COMPACT_STRINGS__q9 S_HEX_DIGITS__q9 V_ha__q9 ge_r1_q1 ge_r1_q3 (Ne.symm ne_r1_q1_r1_q3) ne_a1_r1_q1 ne_a1_r1_q3 ne_ha_r1_q1 ne_ha_r1_q3 rfl (by decide) (by decide) rfl rfl rfl hc_q13 (by decide) hc_q2 (by decide) (by decide) (by decide) hc_q14 (by decide) hc_q15 (by decide) hc_q16 (by decide) (by decide) (by decide) (by decide) (by decide) (by decide) (by decide) (by decide) (by decide) (by decide) (by decide) hc_q17 (by decide)
  obtain rfl : w1_q12 = [(.int (nar .byte ((92 : Int32).toInt8.toInt32))), (.int (nar .byte ((120 : Int32).toInt8.toInt32))), (.int (nar .byte ((own_k2 (u0 &&& (255 : Int32))).toInt8.toInt32))), (.int (nar .byte ((own_k3 (u0 &&& (255 : Int32))).toInt8.toInt32))), (.int (nar .byte ((own_k0 (u1 &&& (255 : Int32))).toInt8.toInt32))), (.int (nar .byte ((92 : Int32).toInt8.toInt32))), (.int (0 : Int32)), (.int (0 : Int32))] := hw1_q12
  obtain rfl : w2_q12 = [(.int (nar .byte ((92 : Int32).toInt8.toInt32))), (.int (nar .byte ((120 : Int32).toInt8.toInt32))), (.int (nar .byte ((own_k2 (u0 &&& (255 : Int32))).toInt8.toInt32))), (.int (nar .byte ((own_k3 (u0 &&& (255 : Int32))).toInt8.toInt32))), (.int (nar .byte ((own_k0 (u1 &&& (255 : Int32))).toInt8.toInt32))), (.int (nar .byte ((92 : Int32).toInt8.toInt32))), (.int (nar .byte ((120 : Int32).toInt8.toInt32))), (.int (0 : Int32))] := hw2_q12
  obtain rfl : w3_q12 = [(.int (nar .byte ((92 : Int32).toInt8.toInt32))), (.int (nar .byte ((120 : Int32).toInt8.toInt32))), (.int (nar .byte ((own_k2 (u0 &&& (255 : Int32))).toInt8.toInt32))), (.int (nar .byte ((own_k3 (u0 &&& (255 : Int32))).toInt8.toInt32))), (.int (nar .byte ((own_k0 (u1 &&& (255 : Int32))).toInt8.toInt32))), (.int (nar .byte ((92 : Int32).toInt8.toInt32))), (.int (nar .byte ((120 : Int32).toInt8.toInt32))), (.int (nar .byte ((own_k2 (u2 &&& (255 : Int32))).toInt8.toInt32)))] := hw3_q12
  obtain rfl : w4_q12 = [(.int (nar .byte ((92 : Int32).toInt8.toInt32))), (.int (nar .byte ((120 : Int32).toInt8.toInt32))), (.int (nar .byte ((own_k2 (u0 &&& (255 : Int32))).toInt8.toInt32))), (.int (nar .byte ((own_k3 (u0 &&& (255 : Int32))).toInt8.toInt32))), (.int (nar .byte ((own_k0 (u1 &&& (255 : Int32))).toInt8.toInt32))), (.int (nar .byte ((92 : Int32).toInt8.toInt32))), (.int (nar .byte ((120 : Int32).toInt8.toInt32))), (.int (nar .byte ((own_k2 (u2 &&& (255 : Int32))).toInt8.toInt32))), (.int (nar .byte ((own_k3 (u2 &&& (255 : Int32))).toInt8.toInt32))), (.int (0 : Int32)), (.int (0 : Int32)), (.int (0 : Int32)), (.int (0 : Int32)), (.int (0 : Int32)), (.int (0 : Int32)), (.int (0 : Int32)), (.int (0 : Int32)), (.int (0 : Int32))] := hw4_q12
  have S_COMPACT_STRINGS__q12 := own_sta_keep S_COMPACT_STRINGS__q9 Kq_q12 (allS (own_ns O0_q1__q9) (allS (own_ns O4_q9) all0))
  have O0_q1__q12 := O0_q1__q9.keep Kq_q12
  have K_q12 : Keep h0 h_q12 [] := K_q9.trans Kq_q12 (allS (Or.inr sz_r1_q1) (allS (Or.inr sz_r1_q3) all0))
  have O2_q12l : Fld Z h_q12 r1_q1 "java/lang/AbstractStringBuilder" "count" "I" (.int (9 : Int32)) := O2_q12
  obtain ⟨cq_q18, kq_q18, qa_q18, qb_q18, qc_q18⟩ := isOf hZ e_q12 O0_q1__q12
  obtain ⟨_, _, ⟨T_q18, L_q18, k_q18, n_q18⟩, -, X_q18, ⟨Lc_q18, hQ_q18, l_q18, y_q18, z_q18⟩, st_q18⟩ := X_q12.virtualBack hx (y := (⟨"java/lang/StringBuilder", "toString", "()Ljava/lang/String;"⟩ : MethodName)) (z := (⟨"java/lang/StringBuilder", "toString", "()Ljava/lang/String;"⟩ : MethodName)) hown (mvT hZ (own_w hw 80 rfl)) (mvT hZ (own_w hw 81 rfl)) (notFace_of_selects (args := #[]) (mvT hZ (own_w hw 83 rfl))) (mvT hZ (own_w hw 83 rfl)) (mvT hZ (own_w hw 82 rfl)) (by decide) (backOf (W := 0) (rmTSr l Z a0 hw [] r1_q1 r1_q12 kr1_q12 (18 : Int32) [(.int (nar .byte ((92 : Int32).toInt8.toInt32))), (.int (nar .byte ((120 : Int32).toInt8.toInt32))), (.int (nar .byte ((own_k2 (u0 &&& (255 : Int32))).toInt8.toInt32))), (.int (nar .byte ((own_k3 (u0 &&& (255 : Int32))).toInt8.toInt32))), (.int (nar .byte ((own_k0 (u1 &&& (255 : Int32))).toInt8.toInt32))), (.int (nar .byte ((92 : Int32).toInt8.toInt32))), (.int (nar .byte ((120 : Int32).toInt8.toInt32))), (.int (nar .byte ((own_k2 (u2 &&& (255 : Int32))).toInt8.toInt32))), (.int (nar .byte ((own_k3 (u2 &&& (255 : Int32))).toInt8.toInt32))), (.int (0 : Int32)), (.int (0 : Int32)), (.int (0 : Int32)), (.int (0 : Int32)), (.int (0 : Int32)), (.int (0 : Int32)), (.int (0 : Int32)), (.int (0 : Int32)), (.int (0 : Int32))] (9 : Int32) cs h_q12 n0 (Nat.le_trans Z0 K_q12.1) O0_q1__q12 O0_q12 O1_q12 O2_q12l O3_q12 O4_q12 S_COMPACT_STRINGS__q12 hc_q2 (by decide) (by decide) (by decide) (by decide) (by decide) (by decide)) hZ (own_w hw 84 rfl) (own_w hw 7 rfl) (by decide) (by decide)) qa_q18 qc_q18 (g := (mkF m 112 #[.val (.ref a1), .val (.ref r1_q1), .val (.ref a1), .val (.int (3 : Int32)), .val (.int (3 : Int32)), .val (.int u2), .val (.int (u2 &&& (255 : Int32)))] [(.ref r1_q1)])) rfl (by rw [hml]; rfl) (Steps.refl _) (argsL := []) (rest := []) (lenOf pd___Ljava_lang_String_ rfl) rfl (by show 2 * 0 + _ ≤ _; exact Nat.le_of_eq rfl) (hb hby d1_112) (fun _ _ => ⟨rfl, e_q12, (by decide : 4 + 2 ≤ _), (by decide : 43 + 16 ≤ _)⟩)
  dsimp only [Pt.U, Pt.locs, Pt.cells, Pt.slots] at X_q18 l_q18 y_q18 z_q18 st_q18 hQ_q18
  subst l_q18 y_q18 z_q18
  obtain ⟨r1_q18, r2_q18, kr2_q18, rfl, Nq_q18, Kq_q18, sz0_r1_q18, sz0_r2_q18, O0_q18, O1_q18, O2_q18, O3_q18, O4_q18⟩ := hQ_q18
  have N_q18 := Fr.app N_q12 Nq_q18
  have sz_r1_q18 : h0.size ≤ r1_q18 := Nat.le_trans K_q12.1 sz0_r1_q18
  have sz_r2_q18 : h0.size ≤ r2_q18 := Nat.le_trans K_q12.1 sz0_r2_q18
  have K_q18 : Keep h0 T_q18.heap [] := K_q12.trans Kq_q18 all0
  have O3_q18_l : Arv Z T_q18.heap r2_q18 kr2_q18 .byte (9 : Int32) [(.int (nar .byte ((92 : Int32).toInt8.toInt32))), (.int (nar .byte ((120 : Int32).toInt8.toInt32))), (.int (nar .byte ((own_k2 (u0 &&& (255 : Int32))).toInt8.toInt32))), (.int (nar .byte ((own_k3 (u0 &&& (255 : Int32))).toInt8.toInt32))), (.int (nar .byte ((own_k0 (u1 &&& (255 : Int32))).toInt8.toInt32))), (.int (nar .byte ((92 : Int32).toInt8.toInt32))), (.int (nar .byte ((120 : Int32).toInt8.toInt32))), (.int (nar .byte ((own_k2 (u2 &&& (255 : Int32))).toInt8.toInt32))), (.int (nar .byte ((own_k3 (u2 &&& (255 : Int32))).toInt8.toInt32)))] (.int (0 : Int32)) := O3_q18
  obtain ⟨fs, hr, hrun, hended, hW, hsame⟩ := X_q18.leave (v := some (.ref r1_q18)) (fun h => by rw [Bd.returns] at h; cases h) Bd.notSynchronized
  refine ⟨_, _, pre0 _ ?_, hrun, hended, _, _, rfl, ?_, ⟨_, rfl⟩, hW, hsame.mono (by decide) (by decide)⟩
  · show Steps p.tables e below (s₁.setTop (mkF m 0 #[.val (.ref a1), .unset, .unset, .unset, .unset, .unset, .unset] [])) _
    refine st_q1 _ ?_
    show Steps p.tables e below (T_q1.setTop (mkF m 18 #[.val (.ref a1), .val (.ref r1_q1), .val (.ref a1), .val (.int (3 : Int32)), .val (.int (0 : Int32)), .unset, .unset] [])) _
    refine st_q3 _ ?_
    show Steps p.tables e below (T_q3.setTop (mkF m 18 #[.val (.ref a1), .val (.ref r1_q1), .val (.ref a1), .val (.int (3 : Int32)), .val (.int (1 : Int32)), .val (.int u0), .val (.int (u0 &&& (255 : Int32)))] [])) _
    refine st_q9 _ ?_
    show Steps p.tables e below (T_q9.setTop (mkF m 18 #[.val (.ref a1), .val (.ref r1_q1), .val (.ref a1), .val (.int (3 : Int32)), .val (.int (2 : Int32)), .val (.int u1), .val (.int (u1 &&& (255 : Int32)))] [])) _
    refine st_q12 _ ?_
    refine XS.iload X_q12.here hx rfl (hb hby d1_18) rfl ?_
    refine XS.iloadN X_q12.here hx rfl (hb hby d1_20) rfl ?_
    refine XS.icmpYes X_q12.here hx rfl (pc0 := 21) (pc' := 111) rfl (hb hby d1_21) rfl (flt (by decide : ¬ ((3 : Int32) < (3 : Int32)))).2.1 (by decide) (by decide) ?_
    show Steps p.tables e below (T_q12.setTop (mkF m 111 #[.val (.ref a1), .val (.ref r1_q1), .val (.ref a1), .val (.int (3 : Int32)), .val (.int (3 : Int32)), .val (.int u2), .val (.int (u2 &&& (255 : Int32)))] [])) _
    refine XS.aloadN X_q12.here hx rfl (hb hby d1_111) rfl rfl ?_
    show Steps p.tables e below (T_q12.setTop (mkF m 112 #[.val (.ref a1), .val (.ref r1_q1), .val (.ref a1), .val (.int (3 : Int32)), .val (.int (3 : Int32)), .val (.int u2), .val (.int (u2 &&& (255 : Int32)))] [(.ref r1_q1)])) _
    refine st_q18.trans ?_
    show Steps p.tables e below (T_q18.setTop (mkF m 115 #[.val (.ref a1), .val (.ref r1_q1), .val (.ref a1), .val (.int (3 : Int32)), .val (.int (3 : Int32)), .val (.int u2), .val (.int (u2 &&& (255 : Int32)))] [(.ref r1_q18)])) _
    jvm_step X_q18.here [X_q18.here.top, hx, (hb hby d1_115), X_q18.method', Bd.returns, Value.isRef, FieldType.isReference]
    first | (intro acts; rw [hr _ acts rfl rfl rfl]) | rw [hr _ _ rfl rfl rfl]
    exact Steps.refl _
  · show Q_rmEn_3_101 Z a1 ha ka kh cs u0 u1 u2 h0 n0 _ T_q18.heap _
    exact ⟨r1_q18, r2_q18, kr2_q18, rfl, N_q18, K_q18, sz_r1_q18, sz_r2_q18, O0_q18, O1_q18, O2_q18, O3_q18_l⟩
def Q_rmEn_3_110 (Z : State) (a1 ha : Addr) (ka kh : ClassId) (cs : Int32) (u0 : Int32) (u1 : Int32) (u2 : Int32) (h0 : Heap) (n0 : Nat) (v : Option Value) (h : Heap) (L : List Loc) : Prop := ∃ (r1 : Addr) (r2 : Addr) (kr2 : ClassId), v = some (.ref r1) ∧ Fr n0 L ∧ Keep h0 h [] ∧ h0.size ≤ r1 ∧ h0.size ≤ r2 ∧ Exa Z h r1 "java/lang/String" ∧ Fld Z h r1 "java/lang/String" "value" "[B" (.ref r2) ∧ Fld Z h r1 "java/lang/String" "coder" "B" (.int (0 : Int32)) ∧ Arv Z h r2 kr2 .byte (9 : Int32) [(.int (nar .byte ((92 : Int32).toInt8.toInt32))), (.int (nar .byte ((120 : Int32).toInt8.toInt32))), (.int (nar .byte ((own_k2 (u0 &&& (255 : Int32))).toInt8.toInt32))), (.int (nar .byte ((own_k3 (u0 &&& (255 : Int32))).toInt8.toInt32))), (.int (nar .byte ((92 : Int32).toInt8.toInt32))), (.int (nar .byte ((120 : Int32).toInt8.toInt32))), (.int (nar .byte ((own_k2 (u1 &&& (255 : Int32))).toInt8.toInt32))), (.int (nar .byte ((own_k3 (u1 &&& (255 : Int32))).toInt8.toInt32))), (.int (nar .byte ((own_k0 (u2 &&& (255 : Int32))).toInt8.toInt32)))] (.int (0 : Int32))
set_option maxRecDepth 65536 in
set_option maxHeartbeats 40000000 in
theorem rmEn_3_110 (l : Launch) (Z : State) (a0 : Array Value) (hw : ∀ d ∈ tables_1, d.before a0 Z = true) (ws : List Jvm.Cond) (a1 ha : Addr) (ka kh : ClassId) (cs : Int32) (u0 : Int32) (u1 : Int32) (u2 : Int32) (h0 : Heap) (n0 : Nat) (Z0 : n0 ≤ h0.size) (V_a1 : Arv Z h0 a1 ka .byte (3 : Int32) [(.int u0), (.int u1), (.int u2)] (.int (0 : Int32))) (S_COMPACT_STRINGS : Sta Z h0 "java/lang/String" "COMPACT_STRINGS" "Z" (.int cs)) (S_HEX_DIGITS : Sta Z h0 "com/example/presplit/presplit/escape/BinaryEscape" "HEX_DIGITS" "[C" (.ref ha)) (V_ha : Arv Z h0 ha kh .char (16 : Int32) own_hexL (.int (0 : Int32))) (hc_q2 : ¬ (cs = (0 : Int32))) (hc_q4 : own_esc (u0 &&& (255 : Int32))) (hc_q5 : ¬ (((u0 &&& (255 : Int32)).toUInt32 >>> ((4 : Int32) &&& 31).toUInt32).toInt32) < 0 ∧ (((u0 &&& (255 : Int32)).toUInt32 >>> ((4 : Int32) &&& 31).toUInt32).toInt32) < (16 : Int32)) (hc_q6 : ¬ ((F9_0 (own_k2 (u0 &&& (255 : Int32)))) = (0 : Int32))) (hc_q7 : ¬ ((u0 &&& (255 : Int32)) &&& (15 : Int32)) < 0 ∧ ((u0 &&& (255 : Int32)) &&& (15 : Int32)) < (16 : Int32)) (hc_q8 : ¬ ((F9_0 (own_k3 (u0 &&& (255 : Int32)))) = (0 : Int32))) (hc_q10 : own_esc (u1 &&& (255 : Int32))) (hc_q11 : ¬ (((u1 &&& (255 : Int32)).toUInt32 >>> ((4 : Int32) &&& 31).toUInt32).toInt32) < 0 ∧ (((u1 &&& (255 : Int32)).toUInt32 >>> ((4 : Int32) &&& 31).toUInt32).toInt32) < (16 : Int32)) (hc_q12 : ¬ ((F9_0 (own_k2 (u1 &&& (255 : Int32)))) = (0 : Int32))) (hc_q13 : ¬ ((u1 &&& (255 : Int32)) &&& (15 : Int32)) < 0 ∧ ((u1 &&& (255 : Int32)) &&& (15 : Int32)) < (16 : Int32)) (hc_q14 : ¬ ((F9_0 (own_k3 (u1 &&& (255 : Int32)))) = (0 : Int32))) (hc_q16 : own_pl (u2 &&& (255 : Int32))) (hc_q17 : ¬ ((F9_0 (own_k0 (u2 &&& (255 : Int32)))) = (0 : Int32))) :
    MetFree l (⟨"com/example/presplit/presplit/escape/BinaryEscape", "encode", "([B)Ljava/lang/String;"⟩ : MethodName) (head1 (Jvm.Cond.code (⟨"com/example/presplit/presplit/escape/BinaryEscape", "encode", "([B)Ljava/lang/String;"⟩ : MethodName) prog_1_method_2_code 7 (some (.object "java/lang/String")) :: ws) ({ frames := 9, cells := 6, slots := 70, locals := 180 } : Room)) (fun a U => a = #[(.ref a1)] ∧ Z.Warmed39 U.vm ∧ U.heap = h0) (fun _ _ _ _ _ => True) (fun _ U o U' => ∃ v L, o = .returned v ∧ Q_rmEn_3_110 Z a1 ha ka kh cs u0 u1 u2 h0 n0 v U'.heap L ∧ FrameEnd U o U' L ({ frames := 9, cells := 6, slots := 70, locals := 180 } : Room).cells ({ frames := 9, cells := 6, slots := 70, locals := 180 } : Room).slots) := by
  refine MetFree.of_bodySF (plainFor_of_name pn_1) hisR ?_
  intro p e s m args below meth c s₁ Bd hml0 hP hK
  obtain ⟨rfl, hZ, hh⟩ := hP
  have hx := Bd.exec
  have hby := Bd.bytes
  have hml : c.maxLocals = 7 := hml0
  have hown : s.vm.findClass "com/example/presplit/presplit/escape/BinaryEscape" = some m.cls := findClass_of_methodNamed Bd.named
  have hnm := (name_of_methodNamed Bd.named Bd.method).1
  have X0 : Stand p l e ({ frames := 9, cells := 6, slots := 70, locals := 180 } : Room) s m #[(.ref a1)] below meth c s₁ [] 0 0 := Stand.of_body Bd
  have e0 : s₁.heap = h0 := by rw [← hh, Bd.state]; rfl
  have N0 := Fr.nil n0
  have pre0 : ∀ t, Steps p.tables e below (s₁.setTop (mkF m 0 #[.val (.ref a1), .unset, .unset, .unset, .unset, .unset, .unset] [])) t → Steps p.tables e below (s₁.setTop (entryFrame m #[(.ref a1)] 7)) t := fun t k => castTop (ef_1 m a1) k
  have K0 : Keep h0 h0 [] := Keep.refl _ _
  obtain ⟨T_q1, h_q1, L_q1, r1_q1, r2_q1, kr2_q1, X_q1, e_q1, N_q1, Kq_q1, sz0_r1_q1, sz0_r2_q1, nq0_q1, O0_q1, O1_q1, O2_q1, O3_q1, O4_q1, O5_q1, st_q1⟩ := own_t_ a1 ka (3 : Int32) [(.int u0), (.int u1), (.int u2)] cs X0 hx hZ hw hby hml hown e0 N0 (Nat.le_trans Z0 K0.1) (by decide : 0 + 2 ≤ _) (by decide : 0 + 7 ≤ _) V_a1 S_COMPACT_STRINGS hc_q2 (by decide) (by decide)
  have ge_r1_q1 : n0 ≤ r1_q1 := Nat.le_trans (Nat.le_trans Z0 K0.1) sz0_r1_q1
  have sz_r1_q1 : h0.size ≤ r1_q1 := Nat.le_trans K0.1 sz0_r1_q1
  have ne_a1_r1_q1 : a1 ≠ r1_q1 := Nat.ne_of_lt (Nat.lt_of_lt_of_le V_a1.lt sz0_r1_q1)
  have ne_ha_r1_q1 : ha ≠ r1_q1 := Nat.ne_of_lt (Nat.lt_of_lt_of_le V_ha.lt sz0_r1_q1)
  have ge_r2_q1 : n0 ≤ r2_q1 := Nat.le_trans (Nat.le_trans Z0 K0.1) sz0_r2_q1
  have sz_r2_q1 : h0.size ≤ r2_q1 := Nat.le_trans K0.1 sz0_r2_q1
  have ne_a1_r2_q1 : a1 ≠ r2_q1 := Nat.ne_of_lt (Nat.lt_of_lt_of_le V_a1.lt sz0_r2_q1)
  have ne_ha_r2_q1 : ha ≠ r2_q1 := Nat.ne_of_lt (Nat.lt_of_lt_of_le V_ha.lt sz0_r2_q1)
  have V_a1__q1 := V_a1.keep Kq_q1 nin0
  have S_COMPACT_STRINGS__q1 := own_sta_keep S_COMPACT_STRINGS Kq_q1 all0
  have S_HEX_DIGITS__q1 := own_sta_keep S_HEX_DIGITS Kq_q1 all0
  have V_ha__q1 := V_ha.keep Kq_q1 nin0
  have K_q1 : Keep h0 h_q1 [] := K0.trans Kq_q1 all0
  have O4_q1l : Arv Z h_q1 r2_q1 kr2_q1 .byte (3 : Int32) [(.int (0 : Int32)), (.int (0 : Int32)), (.int (0 : Int32))] (.int (0 : Int32)) := O4_q1
  obtain ⟨T_q3, h_q3, L_q3, r1_q3, kr1_q3, w1_q3, w2_q3, w3_q3, w4_q3, X_q3, e_q3, N_q3, Kq_q3, sz0_r1_q3, hw1_q3, hw2_q3, hw3_q3, hw4_q3, O0_q3, O1_q3, O2_q3, O3_q3, O4_q3, st_q3⟩ := own_t13 a1 r1_q1 r2_q1 ha ka kr2_q1 kh (3 : Int32) (0 : Int32) [(.int u0), (.int u1), (.int u2)] u0 (3 : Int32) [(.int (0 : Int32)), (.int (0 : Int32)), (.int (0 : Int32))] (0 : Int32) (8 : Int32) cs (.unset) (.unset) X_q1 hx hZ hw hby hml hown e_q1 N_q1 (Nat.le_trans Z0 K_q1.1) (by decide : 2 + 1 ≤ _) (by decide : 7 + 18 ≤ _) V_a1__q1 O0_q1 O1_q1 O2_q1 O3_q1 O4_q1l O5_q1 S_COMPACT_STRINGS__q1 S_HEX_DIGITS__q1 V_ha__q1 ge_r1_q1 ge_r2_q1 nq0_q1 ne_a1_r1_q1 ne_a1_r2_q1 ne_ha_r1_q1 ne_ha_r2_q1 rfl (by decide) (by decide) rfl rfl rfl hc_q4 (by decide) hc_q2 (by decide) (by decide) (by decide) hc_q5 (by decide) hc_q6 (by decide) hc_q7 (by decide) (by decide) (by decide) (by decide) (by decide) (by decide) (by decide) (by decide) (by decide) (by decide) (by decide) hc_q8 (by decide)
  have ge_r1_q3 : n0 ≤ r1_q3 := Nat.le_trans (Nat.le_trans Z0 K_q1.1) sz0_r1_q3
  have sz_r1_q3 : h0.size ≤ r1_q3 := Nat.le_trans K_q1.1 sz0_r1_q3
  have ne_a1_r1_q3 : a1 ≠ r1_q3 := Nat.ne_of_lt (Nat.lt_of_lt_of_le V_a1__q1.lt sz0_r1_q3)
  have ne_ha_r1_q3 : ha ≠ r1_q3 := Nat.ne_of_lt (Nat.lt_of_lt_of_le V_ha__q1.lt sz0_r1_q3)
  have ne_r1_q1_r1_q3 : r1_q1 ≠ r1_q3 := Nat.ne_of_lt (Nat.lt_of_lt_of_le O0_q1.lt sz0_r1_q3)
  obtain rfl : w1_q3 = [(.int (nar .byte ((92 : Int32).toInt8.toInt32))), (.int (0 : Int32)), (.int (0 : Int32))] := hw1_q3
  obtain rfl : w2_q3 = [(.int (nar .byte ((92 : Int32).toInt8.toInt32))), (.int (nar .byte ((120 : Int32).toInt8.toInt32))), (.int (0 : Int32))] := hw2_q3
  obtain rfl : w3_q3 = [(.int (nar .byte ((92 : Int32).toInt8.toInt32))), (.int (nar .byte ((120 : Int32).toInt8.toInt32))), (.int (nar .byte ((own_k2 (u0 &&& (255 : Int32))).toInt8.toInt32)))] := hw3_q3
  obtain rfl : w4_q3 = [(.int (nar .byte ((92 : Int32).toInt8.toInt32))), (.int (nar .byte ((120 : Int32).toInt8.toInt32))), (.int (nar .byte ((own_k2 (u0 &&& (255 : Int32))).toInt8.toInt32))), (.int (nar .byte ((own_k3 (u0 &&& (255 : Int32))).toInt8.toInt32))), (.int (0 : Int32)), (.int (0 : Int32)), (.int (0 : Int32)), (.int (0 : Int32))] := hw4_q3
  have V_a1__q3 := V_a1__q1.keep Kq_q3 (ninS ne_a1_r1_q1 (ninS ne_a1_r2_q1 nin0))
  have S_COMPACT_STRINGS__q3 := own_sta_keep S_COMPACT_STRINGS__q1 Kq_q3 (allS (own_ns O0_q1) (allS (own_ns O5_q1) all0))
  have S_HEX_DIGITS__q3 := own_sta_keep S_HEX_DIGITS__q1 Kq_q3 (allS (own_ns O0_q1) (allS (own_ns O5_q1) all0))
  have V_ha__q3 := V_ha__q1.keep Kq_q3 (ninS ne_ha_r1_q1 (ninS ne_ha_r2_q1 nin0))
  have O0_q1__q3 := O0_q1.keep Kq_q3
  have K_q3 : Keep h0 h_q3 [] := K_q1.trans Kq_q3 (allS (Or.inr sz_r1_q1) (allS (Or.inr sz_r2_q1) all0))
  have O2_q3l : Fld Z h_q3 r1_q1 "java/lang/AbstractStringBuilder" "count" "I" (.int (4 : Int32)) := O2_q3
  obtain ⟨T_q9, h_q9, L_q9, w1_q9, w2_q9, w3_q9, w4_q9, X_q9, e_q9, N_q9, Kq_q9, hw1_q9, hw2_q9, hw3_q9, hw4_q9, O0_q9, O1_q9, O2_q9, O3_q9, O4_q9, st_q9⟩ := own_t1n a1 r1_q1 r1_q3 ha ka kr1_q3 kh (3 : Int32) (1 : Int32) [(.int u0), (.int u1), (.int u2)] u1 (8 : Int32) [(.int (nar .byte ((92 : Int32).toInt8.toInt32))), (.int (nar .byte ((120 : Int32).toInt8.toInt32))), (.int (nar .byte ((own_k2 (u0 &&& (255 : Int32))).toInt8.toInt32))), (.int (nar .byte ((own_k3 (u0 &&& (255 : Int32))).toInt8.toInt32))), (.int (0 : Int32)), (.int (0 : Int32)), (.int (0 : Int32)), (.int (0 : Int32))] (4 : Int32) (18 : Int32) cs (.val (.int u0)) (.val (.int (u0 &&& (255 : Int32)))) X_q3 hx hZ hw hby hml hown e_q3 N_q3 (Nat.le_trans Z0 K_q3.1) (by decide : 3 + 0 ≤ _) (by decide : 25 + 0 ≤ _) V_a1__q3 O0_q1__q3 O0_q3 O1_q3 O2_q3l O3_q3 O4_q3 S_COMPACT_STRINGS__q3 S_HEX_DIGITS__q3 V_ha__q3 ge_r1_q1 ge_r1_q3 (Ne.symm ne_r1_q1_r1_q3) ne_a1_r1_q1 ne_a1_r1_q3 ne_ha_r1_q1 ne_ha_r1_q3 rfl (by decide) (by decide) rfl rfl rfl hc_q10 (by decide) hc_q2 (by decide) (by decide) (by decide) hc_q11 (by decide) hc_q12 (by decide) hc_q13 (by decide) hc_q14 (by decide)
  obtain rfl : w1_q9 = [(.int (nar .byte ((92 : Int32).toInt8.toInt32))), (.int (nar .byte ((120 : Int32).toInt8.toInt32))), (.int (nar .byte ((own_k2 (u0 &&& (255 : Int32))).toInt8.toInt32))), (.int (nar .byte ((own_k3 (u0 &&& (255 : Int32))).toInt8.toInt32))), (.int (nar .byte ((92 : Int32).toInt8.toInt32))), (.int (0 : Int32)), (.int (0 : Int32)), (.int (0 : Int32))] := hw1_q9
  obtain rfl : w2_q9 = [(.int (nar .byte ((92 : Int32).toInt8.toInt32))), (.int (nar .byte ((120 : Int32).toInt8.toInt32))), (.int (nar .byte ((own_k2 (u0 &&& (255 : Int32))).toInt8.toInt32))), (.int (nar .byte ((own_k3 (u0 &&& (255 : Int32))).toInt8.toInt32))), (.int (nar .byte ((92 : Int32).toInt8.toInt32))), (.int (nar .byte ((120 : Int32).toInt8.toInt32))), (.int (0 : Int32)), (.int (0 : Int32))] := hw2_q9
  obtain rfl : w3_q9 = [(.int (nar .byte ((92 : Int32).toInt8.toInt32))), (.int (nar .byte ((120 : Int32).toInt8.toInt32))), (.int (nar .byte ((own_k2 (u0 &&& (255 : Int32))).toInt8.toInt32))), (.int (nar .byte ((own_k3 (u0 &&& (255 : Int32))).toInt8.toInt32))), (.int (nar .byte ((92 : Int32).toInt8.toInt32))), (.int (nar .byte ((120 : Int32).toInt8.toInt32))), (.int (nar .byte ((own_k2 (u1 &&& (255 : Int32))).toInt8.toInt32))), (.int (0 : Int32))] := hw3_q9
  obtain rfl : w4_q9 = [(.int (nar .byte ((92 : Int32).toInt8.toInt32))), (.int (nar .byte ((120 : Int32).toInt8.toInt32))), (.int (nar .byte ((own_k2 (u0 &&& (255 : Int32))).toInt8.toInt32))), (.int (nar .byte ((own_k3 (u0 &&& (255 : Int32))).toInt8.toInt32))), (.int (nar .byte ((92 : Int32).toInt8.toInt32))), (.int (nar .byte ((120 : Int32).toInt8.toInt32))), (.int (nar .byte ((own_k2 (u1 &&& (255 : Int32))).toInt8.toInt32))), (.int (nar .byte ((own_k3 (u1 &&& (255 : Int32))).toInt8.toInt32)))] := hw4_q9
  have V_a1__q9 := V_a1__q3.keep Kq_q9 (ninS ne_a1_r1_q1 (ninS ne_a1_r1_q3 nin0))
  have S_COMPACT_STRINGS__q9 := own_sta_keep S_COMPACT_STRINGS__q3 Kq_q9 (allS (own_ns O0_q1__q3) (allS (own_ns O4_q3) all0))
  have S_HEX_DIGITS__q9 := own_sta_keep S_HEX_DIGITS__q3 Kq_q9 (allS (own_ns O0_q1__q3) (allS (own_ns O4_q3) all0))
  have V_ha__q9 := V_ha__q3.keep Kq_q9 (ninS ne_ha_r1_q1 (ninS ne_ha_r1_q3 nin0))
  have O0_q1__q9 := O0_q1__q3.keep Kq_q9
  have K_q9 : Keep h0 h_q9 [] := K_q3.trans Kq_q9 (allS (Or.inr sz_r1_q1) (allS (Or.inr sz_r1_q3) all0))
  have O2_q9l : Fld Z h_q9 r1_q1 "java/lang/AbstractStringBuilder" "count" "I" (.int (8 : Int32)) := O2_q9
  obtain ⟨T_q15, h_q15, L_q15, r1_q15, kr1_q15, w1_q15, X_q15, e_q15, N_q15, Kq_q15, sz0_r1_q15, hw1_q15, O0_q15, O1_q15, O2_q15, O3_q15, O4_q15, st_q15⟩ := own_t00 a1 r1_q1 r1_q3 ha ka kr1_q3 kh (3 : Int32) (2 : Int32) [(.int u0), (.int u1), (.int u2)] u2 (8 : Int32) [(.int (nar .byte ((92 : Int32).toInt8.toInt32))), (.int (nar .byte ((120 : Int32).toInt8.toInt32))), (.int (nar .byte ((own_k2 (u0 &&& (255 : Int32))).toInt8.toInt32))), (.int (nar .byte ((own_k3 (u0 &&& (255 : Int32))).toInt8.toInt32))), (.int (nar .byte ((92 : Int32).toInt8.toInt32))), (.int (nar .byte ((120 : Int32).toInt8.toInt32))), (.int (nar .byte ((own_k2 (u1 &&& (255 : Int32))).toInt8.toInt32))), (.int (nar .byte ((own_k3 (u1 &&& (255 : Int32))).toInt8.toInt32)))] (8 : Int32) (18 : Int32) cs (.val (.int u1)) (.val (.int (u1 &&& (255 : Int32)))) X_q9 hx hZ hw hby hml hown e_q9 N_q9 (Nat.le_trans Z0 K_q9.1) (by decide : 3 + 1 ≤ _) (by decide : 25 + 18 ≤ _) V_a1__q9 O0_q1__q9 O0_q9 O1_q9 O2_q9l O3_q9 O4_q9 S_COMPACT_STRINGS__q9 S_HEX_DIGITS__q9 V_ha__q9 ge_r1_q1 ge_r1_q3 (Ne.symm ne_r1_q1_r1_q3) ne_a1_r1_q1 ne_a1_r1_q3 ne_ha_r1_q1 ne_ha_r1_q3 rfl (by decide) (by decide) rfl rfl rfl hc_q16 (by decide) (by decide) (by decide) (by decide) (by decide) (by decide) (by decide) (by decide) (by decide) (by decide) (by decide) hc_q2 hc_q17 (by decide)
  obtain rfl : w1_q15 = [(.int (nar .byte ((92 : Int32).toInt8.toInt32))), (.int (nar .byte ((120 : Int32).toInt8.toInt32))), (.int (nar .byte ((own_k2 (u0 &&& (255 : Int32))).toInt8.toInt32))), (.int (nar .byte ((own_k3 (u0 &&& (255 : Int32))).toInt8.toInt32))), (.int (nar .byte ((92 : Int32).toInt8.toInt32))), (.int (nar .byte ((120 : Int32).toInt8.toInt32))), (.int (nar .byte ((own_k2 (u1 &&& (255 : Int32))).toInt8.toInt32))), (.int (nar .byte ((own_k3 (u1 &&& (255 : Int32))).toInt8.toInt32))), (.int (nar .byte ((own_k0 (u2 &&& (255 : Int32))).toInt8.toInt32))), (.int (0 : Int32)), (.int (0 : Int32)), (.int (0 : Int32)), (.int (0 : Int32)), (.int (0 : Int32)), (.int (0 : Int32)), (.int (0 : Int32)), (.int (0 : Int32)), (.int (0 : Int32))] := hw1_q15
  have S_COMPACT_STRINGS__q15 := own_sta_keep S_COMPACT_STRINGS__q9 Kq_q15 (allS (own_ns O0_q1__q9) (allS (own_ns O4_q9) all0))
  have O0_q1__q15 := O0_q1__q9.keep Kq_q15
  have K_q15 : Keep h0 h_q15 [] := K_q9.trans Kq_q15 (allS (Or.inr sz_r1_q1) (allS (Or.inr sz_r1_q3) all0))
  have O2_q15l : Fld Z h_q15 r1_q1 "java/lang/AbstractStringBuilder" "count" "I" (.int (9 : Int32)) := O2_q15
  obtain ⟨cq_q18, kq_q18, qa_q18, qb_q18, qc_q18⟩ := isOf hZ e_q15 O0_q1__q15
  obtain ⟨_, _, ⟨T_q18, L_q18, k_q18, n_q18⟩, -, X_q18, ⟨Lc_q18, hQ_q18, l_q18, y_q18, z_q18⟩, st_q18⟩ := X_q15.virtualBack hx (y := (⟨"java/lang/StringBuilder", "toString", "()Ljava/lang/String;"⟩ : MethodName)) (z := (⟨"java/lang/StringBuilder", "toString", "()Ljava/lang/String;"⟩ : MethodName)) hown (mvT hZ (own_w hw 80 rfl)) (mvT hZ (own_w hw 81 rfl)) (notFace_of_selects (args := #[]) (mvT hZ (own_w hw 83 rfl))) (mvT hZ (own_w hw 83 rfl)) (mvT hZ (own_w hw 82 rfl)) (by decide) (backOf (W := 0) (rmTSr l Z a0 hw [] r1_q1 r1_q15 kr1_q15 (18 : Int32) [(.int (nar .byte ((92 : Int32).toInt8.toInt32))), (.int (nar .byte ((120 : Int32).toInt8.toInt32))), (.int (nar .byte ((own_k2 (u0 &&& (255 : Int32))).toInt8.toInt32))), (.int (nar .byte ((own_k3 (u0 &&& (255 : Int32))).toInt8.toInt32))), (.int (nar .byte ((92 : Int32).toInt8.toInt32))), (.int (nar .byte ((120 : Int32).toInt8.toInt32))), (.int (nar .byte ((own_k2 (u1 &&& (255 : Int32))).toInt8.toInt32))), (.int (nar .byte ((own_k3 (u1 &&& (255 : Int32))).toInt8.toInt32))), (.int (nar .byte ((own_k0 (u2 &&& (255 : Int32))).toInt8.toInt32))), (.int (0 : Int32)), (.int (0 : Int32)), (.int (0 : Int32)), (.int (0 : Int32)), (.int (0 : Int32)), (.int (0 : Int32)), (.int (0 : Int32)), (.int (0 : Int32)), (.int (0 : Int32))] (9 : Int32) cs h_q15 n0 (Nat.le_trans Z0 K_q15.1) O0_q1__q15 O0_q15 O1_q15 O2_q15l O3_q15 O4_q15 S_COMPACT_STRINGS__q15 hc_q2 (by decide) (by decide) (by decide) (by decide) (by decide) (by decide)) hZ (own_w hw 84 rfl) (own_w hw 7 rfl) (by decide) (by decide)) qa_q18 qc_q18 (g := (mkF m 112 #[.val (.ref a1), .val (.ref r1_q1), .val (.ref a1), .val (.int (3 : Int32)), .val (.int (3 : Int32)), .val (.int u2), .val (.int (u2 &&& (255 : Int32)))] [(.ref r1_q1)])) rfl (by rw [hml]; rfl) (Steps.refl _) (argsL := []) (rest := []) (lenOf pd___Ljava_lang_String_ rfl) rfl (by show 2 * 0 + _ ≤ _; exact Nat.le_of_eq rfl) (hb hby d1_112) (fun _ _ => ⟨rfl, e_q15, (by decide : 4 + 2 ≤ _), (by decide : 43 + 16 ≤ _)⟩)
  dsimp only [Pt.U, Pt.locs, Pt.cells, Pt.slots] at X_q18 l_q18 y_q18 z_q18 st_q18 hQ_q18
  subst l_q18 y_q18 z_q18
  obtain ⟨r1_q18, r2_q18, kr2_q18, rfl, Nq_q18, Kq_q18, sz0_r1_q18, sz0_r2_q18, O0_q18, O1_q18, O2_q18, O3_q18, O4_q18⟩ := hQ_q18
  have N_q18 := Fr.app N_q15 Nq_q18
  have sz_r1_q18 : h0.size ≤ r1_q18 := Nat.le_trans K_q15.1 sz0_r1_q18
  have sz_r2_q18 : h0.size ≤ r2_q18 := Nat.le_trans K_q15.1 sz0_r2_q18
  have K_q18 : Keep h0 T_q18.heap [] := K_q15.trans Kq_q18 all0
  have O3_q18_l : Arv Z T_q18.heap r2_q18 kr2_q18 .byte (9 : Int32) [(.int (nar .byte ((92 : Int32).toInt8.toInt32))), (.int (nar .byte ((120 : Int32).toInt8.toInt32))), (.int (nar .byte ((own_k2 (u0 &&& (255 : Int32))).toInt8.toInt32))), (.int (nar .byte ((own_k3 (u0 &&& (255 : Int32))).toInt8.toInt32))), (.int (nar .byte ((92 : Int32).toInt8.toInt32))), (.int (nar .byte ((120 : Int32).toInt8.toInt32))), (.int (nar .byte ((own_k2 (u1 &&& (255 : Int32))).toInt8.toInt32))), (.int (nar .byte ((own_k3 (u1 &&& (255 : Int32))).toInt8.toInt32))), (.int (nar .byte ((own_k0 (u2 &&& (255 : Int32))).toInt8.toInt32)))] (.int (0 : Int32)) := O3_q18
  obtain ⟨fs, hr, hrun, hended, hW, hsame⟩ := X_q18.leave (v := some (.ref r1_q18)) (fun h => by rw [Bd.returns] at h; cases h) Bd.notSynchronized
  refine ⟨_, _, pre0 _ ?_, hrun, hended, _, _, rfl, ?_, ⟨_, rfl⟩, hW, hsame.mono (by decide) (by decide)⟩
  · show Steps p.tables e below (s₁.setTop (mkF m 0 #[.val (.ref a1), .unset, .unset, .unset, .unset, .unset, .unset] [])) _
    refine st_q1 _ ?_
    show Steps p.tables e below (T_q1.setTop (mkF m 18 #[.val (.ref a1), .val (.ref r1_q1), .val (.ref a1), .val (.int (3 : Int32)), .val (.int (0 : Int32)), .unset, .unset] [])) _
    refine st_q3 _ ?_
    show Steps p.tables e below (T_q3.setTop (mkF m 18 #[.val (.ref a1), .val (.ref r1_q1), .val (.ref a1), .val (.int (3 : Int32)), .val (.int (1 : Int32)), .val (.int u0), .val (.int (u0 &&& (255 : Int32)))] [])) _
    refine st_q9 _ ?_
    show Steps p.tables e below (T_q9.setTop (mkF m 18 #[.val (.ref a1), .val (.ref r1_q1), .val (.ref a1), .val (.int (3 : Int32)), .val (.int (2 : Int32)), .val (.int u1), .val (.int (u1 &&& (255 : Int32)))] [])) _
    refine st_q15 _ ?_
    refine XS.iload X_q15.here hx rfl (hb hby d1_18) rfl ?_
    refine XS.iloadN X_q15.here hx rfl (hb hby d1_20) rfl ?_
    refine XS.icmpYes X_q15.here hx rfl (pc0 := 21) (pc' := 111) rfl (hb hby d1_21) rfl (flt (by decide : ¬ ((3 : Int32) < (3 : Int32)))).2.1 (by decide) (by decide) ?_
    show Steps p.tables e below (T_q15.setTop (mkF m 111 #[.val (.ref a1), .val (.ref r1_q1), .val (.ref a1), .val (.int (3 : Int32)), .val (.int (3 : Int32)), .val (.int u2), .val (.int (u2 &&& (255 : Int32)))] [])) _
    refine XS.aloadN X_q15.here hx rfl (hb hby d1_111) rfl rfl ?_
    show Steps p.tables e below (T_q15.setTop (mkF m 112 #[.val (.ref a1), .val (.ref r1_q1), .val (.ref a1), .val (.int (3 : Int32)), .val (.int (3 : Int32)), .val (.int u2), .val (.int (u2 &&& (255 : Int32)))] [(.ref r1_q1)])) _
    refine st_q18.trans ?_
    show Steps p.tables e below (T_q18.setTop (mkF m 115 #[.val (.ref a1), .val (.ref r1_q1), .val (.ref a1), .val (.int (3 : Int32)), .val (.int (3 : Int32)), .val (.int u2), .val (.int (u2 &&& (255 : Int32)))] [(.ref r1_q18)])) _
    jvm_step X_q18.here [X_q18.here.top, hx, (hb hby d1_115), X_q18.method', Bd.returns, Value.isRef, FieldType.isReference]
    first | (intro acts; rw [hr _ acts rfl rfl rfl]) | rw [hr _ _ rfl rfl rfl]
    exact Steps.refl _
  · show Q_rmEn_3_110 Z a1 ha ka kh cs u0 u1 u2 h0 n0 _ T_q18.heap _
    exact ⟨r1_q18, r2_q18, kr2_q18, rfl, N_q18, K_q18, sz_r1_q18, sz_r2_q18, O0_q18, O1_q18, O2_q18, O3_q18_l⟩
def Q_rmEn_3_111 (Z : State) (a1 ha : Addr) (ka kh : ClassId) (cs : Int32) (u0 : Int32) (u1 : Int32) (u2 : Int32) (h0 : Heap) (n0 : Nat) (v : Option Value) (h : Heap) (L : List Loc) : Prop := ∃ (r1 : Addr) (r2 : Addr) (kr2 : ClassId), v = some (.ref r1) ∧ Fr n0 L ∧ Keep h0 h [] ∧ h0.size ≤ r1 ∧ h0.size ≤ r2 ∧ Exa Z h r1 "java/lang/String" ∧ Fld Z h r1 "java/lang/String" "value" "[B" (.ref r2) ∧ Fld Z h r1 "java/lang/String" "coder" "B" (.int (0 : Int32)) ∧ Arv Z h r2 kr2 .byte (12 : Int32) [(.int (nar .byte ((92 : Int32).toInt8.toInt32))), (.int (nar .byte ((120 : Int32).toInt8.toInt32))), (.int (nar .byte ((own_k2 (u0 &&& (255 : Int32))).toInt8.toInt32))), (.int (nar .byte ((own_k3 (u0 &&& (255 : Int32))).toInt8.toInt32))), (.int (nar .byte ((92 : Int32).toInt8.toInt32))), (.int (nar .byte ((120 : Int32).toInt8.toInt32))), (.int (nar .byte ((own_k2 (u1 &&& (255 : Int32))).toInt8.toInt32))), (.int (nar .byte ((own_k3 (u1 &&& (255 : Int32))).toInt8.toInt32))), (.int (nar .byte ((92 : Int32).toInt8.toInt32))), (.int (nar .byte ((120 : Int32).toInt8.toInt32))), (.int (nar .byte ((own_k2 (u2 &&& (255 : Int32))).toInt8.toInt32))), (.int (nar .byte ((own_k3 (u2 &&& (255 : Int32))).toInt8.toInt32)))] (.int (0 : Int32))
set_option maxRecDepth 65536 in
set_option maxHeartbeats 40000000 in
theorem rmEn_3_111 (l : Launch) (Z : State) (a0 : Array Value) (hw : ∀ d ∈ tables_1, d.before a0 Z = true) (ws : List Jvm.Cond) (a1 ha : Addr) (ka kh : ClassId) (cs : Int32) (u0 : Int32) (u1 : Int32) (u2 : Int32) (h0 : Heap) (n0 : Nat) (Z0 : n0 ≤ h0.size) (V_a1 : Arv Z h0 a1 ka .byte (3 : Int32) [(.int u0), (.int u1), (.int u2)] (.int (0 : Int32))) (S_COMPACT_STRINGS : Sta Z h0 "java/lang/String" "COMPACT_STRINGS" "Z" (.int cs)) (S_HEX_DIGITS : Sta Z h0 "com/example/presplit/presplit/escape/BinaryEscape" "HEX_DIGITS" "[C" (.ref ha)) (V_ha : Arv Z h0 ha kh .char (16 : Int32) own_hexL (.int (0 : Int32))) (hc_q2 : ¬ (cs = (0 : Int32))) (hc_q4 : own_esc (u0 &&& (255 : Int32))) (hc_q5 : ¬ (((u0 &&& (255 : Int32)).toUInt32 >>> ((4 : Int32) &&& 31).toUInt32).toInt32) < 0 ∧ (((u0 &&& (255 : Int32)).toUInt32 >>> ((4 : Int32) &&& 31).toUInt32).toInt32) < (16 : Int32)) (hc_q6 : ¬ ((F9_0 (own_k2 (u0 &&& (255 : Int32)))) = (0 : Int32))) (hc_q7 : ¬ ((u0 &&& (255 : Int32)) &&& (15 : Int32)) < 0 ∧ ((u0 &&& (255 : Int32)) &&& (15 : Int32)) < (16 : Int32)) (hc_q8 : ¬ ((F9_0 (own_k3 (u0 &&& (255 : Int32)))) = (0 : Int32))) (hc_q10 : own_esc (u1 &&& (255 : Int32))) (hc_q11 : ¬ (((u1 &&& (255 : Int32)).toUInt32 >>> ((4 : Int32) &&& 31).toUInt32).toInt32) < 0 ∧ (((u1 &&& (255 : Int32)).toUInt32 >>> ((4 : Int32) &&& 31).toUInt32).toInt32) < (16 : Int32)) (hc_q12 : ¬ ((F9_0 (own_k2 (u1 &&& (255 : Int32)))) = (0 : Int32))) (hc_q13 : ¬ ((u1 &&& (255 : Int32)) &&& (15 : Int32)) < 0 ∧ ((u1 &&& (255 : Int32)) &&& (15 : Int32)) < (16 : Int32)) (hc_q14 : ¬ ((F9_0 (own_k3 (u1 &&& (255 : Int32)))) = (0 : Int32))) (hc_q16 : own_esc (u2 &&& (255 : Int32))) (hc_q17 : ¬ (((u2 &&& (255 : Int32)).toUInt32 >>> ((4 : Int32) &&& 31).toUInt32).toInt32) < 0 ∧ (((u2 &&& (255 : Int32)).toUInt32 >>> ((4 : Int32) &&& 31).toUInt32).toInt32) < (16 : Int32)) (hc_q18 : ¬ ((F9_0 (own_k2 (u2 &&& (255 : Int32)))) = (0 : Int32))) (hc_q19 : ¬ ((u2 &&& (255 : Int32)) &&& (15 : Int32)) < 0 ∧ ((u2 &&& (255 : Int32)) &&& (15 : Int32)) < (16 : Int32)) (hc_q20 : ¬ ((F9_0 (own_k3 (u2 &&& (255 : Int32)))) = (0 : Int32))) :
    MetFree l (⟨"com/example/presplit/presplit/escape/BinaryEscape", "encode", "([B)Ljava/lang/String;"⟩ : MethodName) (head1 (Jvm.Cond.code (⟨"com/example/presplit/presplit/escape/BinaryEscape", "encode", "([B)Ljava/lang/String;"⟩ : MethodName) prog_1_method_2_code 7 (some (.object "java/lang/String")) :: ws) ({ frames := 9, cells := 6, slots := 70, locals := 180 } : Room)) (fun a U => a = #[(.ref a1)] ∧ Z.Warmed39 U.vm ∧ U.heap = h0) (fun _ _ _ _ _ => True) (fun _ U o U' => ∃ v L, o = .returned v ∧ Q_rmEn_3_111 Z a1 ha ka kh cs u0 u1 u2 h0 n0 v U'.heap L ∧ FrameEnd U o U' L ({ frames := 9, cells := 6, slots := 70, locals := 180 } : Room).cells ({ frames := 9, cells := 6, slots := 70, locals := 180 } : Room).slots) := by
  refine MetFree.of_bodySF (plainFor_of_name pn_1) hisR ?_
  intro p e s m args below meth c s₁ Bd hml0 hP hK
  obtain ⟨rfl, hZ, hh⟩ := hP
  have hx := Bd.exec
  have hby := Bd.bytes
  have hml : c.maxLocals = 7 := hml0
  have hown : s.vm.findClass "com/example/presplit/presplit/escape/BinaryEscape" = some m.cls := findClass_of_methodNamed Bd.named
  have hnm := (name_of_methodNamed Bd.named Bd.method).1
  have X0 : Stand p l e ({ frames := 9, cells := 6, slots := 70, locals := 180 } : Room) s m #[(.ref a1)] below meth c s₁ [] 0 0 := Stand.of_body Bd
  have e0 : s₁.heap = h0 := by rw [← hh, Bd.state]; rfl
  have N0 := Fr.nil n0
  have pre0 : ∀ t, Steps p.tables e below (s₁.setTop (mkF m 0 #[.val (.ref a1), .unset, .unset, .unset, .unset, .unset, .unset] [])) t → Steps p.tables e below (s₁.setTop (entryFrame m #[(.ref a1)] 7)) t := fun t k => castTop (ef_1 m a1) k
  have K0 : Keep h0 h0 [] := Keep.refl _ _
  obtain ⟨T_q1, h_q1, L_q1, r1_q1, r2_q1, kr2_q1, X_q1, e_q1, N_q1, Kq_q1, sz0_r1_q1, sz0_r2_q1, nq0_q1, O0_q1, O1_q1, O2_q1, O3_q1, O4_q1, O5_q1, st_q1⟩ := own_t_ a1 ka (3 : Int32) [(.int u0), (.int u1), (.int u2)] cs X0 hx hZ hw hby hml hown e0 N0 (Nat.le_trans Z0 K0.1) (by decide : 0 + 2 ≤ _) (by decide : 0 + 7 ≤ _) V_a1 S_COMPACT_STRINGS hc_q2 (by decide) (by decide)
  have ge_r1_q1 : n0 ≤ r1_q1 := Nat.le_trans (Nat.le_trans Z0 K0.1) sz0_r1_q1
  have sz_r1_q1 : h0.size ≤ r1_q1 := Nat.le_trans K0.1 sz0_r1_q1
  have ne_a1_r1_q1 : a1 ≠ r1_q1 := Nat.ne_of_lt (Nat.lt_of_lt_of_le V_a1.lt sz0_r1_q1)
  have ne_ha_r1_q1 : ha ≠ r1_q1 := Nat.ne_of_lt (Nat.lt_of_lt_of_le V_ha.lt sz0_r1_q1)
  have ge_r2_q1 : n0 ≤ r2_q1 := Nat.le_trans (Nat.le_trans Z0 K0.1) sz0_r2_q1
  have sz_r2_q1 : h0.size ≤ r2_q1 := Nat.le_trans K0.1 sz0_r2_q1
  have ne_a1_r2_q1 : a1 ≠ r2_q1 := Nat.ne_of_lt (Nat.lt_of_lt_of_le V_a1.lt sz0_r2_q1)
  have ne_ha_r2_q1 : ha ≠ r2_q1 := Nat.ne_of_lt (Nat.lt_of_lt_of_le V_ha.lt sz0_r2_q1)
  have V_a1__q1 := V_a1.keep Kq_q1 nin0
  have S_COMPACT_STRINGS__q1 := own_sta_keep S_COMPACT_STRINGS Kq_q1 all0
  have S_HEX_DIGITS__q1 := own_sta_keep S_HEX_DIGITS Kq_q1 all0
  have V_ha__q1 := V_ha.keep Kq_q1 nin0
  have K_q1 : Keep h0 h_q1 [] := K0.trans Kq_q1 all0
  have O4_q1l : Arv Z h_q1 r2_q1 kr2_q1 .byte (3 : Int32) [(.int (0 : Int32)), (.int (0 : Int32)), (.int (0 : Int32))] (.int (0 : Int32)) := O4_q1
  obtain ⟨T_q3, h_q3, L_q3, r1_q3, kr1_q3, w1_q3, w2_q3, w3_q3, w4_q3, X_q3, e_q3, N_q3, Kq_q3, sz0_r1_q3, hw1_q3, hw2_q3, hw3_q3, hw4_q3, O0_q3, O1_q3, O2_q3, O3_q3, O4_q3, st_q3⟩ := own_t13 a1 r1_q1 r2_q1 ha ka kr2_q1 kh (3 : Int32) (0 : Int32) [(.int u0), (.int u1), (.int u2)] u0 (3 : Int32) [(.int (0 : Int32)), (.int (0 : Int32)), (.int (0 : Int32))] (0 : Int32) (8 : Int32) cs (.unset) (.unset) X_q1 hx hZ hw hby hml hown e_q1 N_q1 (Nat.le_trans Z0 K_q1.1) (by decide : 2 + 1 ≤ _) (by decide : 7 + 18 ≤ _) V_a1__q1 O0_q1 O1_q1 O2_q1 O3_q1 O4_q1l O5_q1 S_COMPACT_STRINGS__q1 S_HEX_DIGITS__q1 V_ha__q1 ge_r1_q1 ge_r2_q1 nq0_q1 ne_a1_r1_q1 ne_a1_r2_q1 ne_ha_r1_q1 ne_ha_r2_q1 rfl (by decide) (by decide) rfl rfl rfl hc_q4 (by decide) hc_q2 (by decide) (by decide) (by decide) hc_q5 (by decide) hc_q6 (by decide) hc_q7 (by decide) (by decide) (by decide) (by decide) (by decide) (by decide) (by decide) (by decide) (by decide) (by decide) (by decide) hc_q8 (by decide)
  have ge_r1_q3 : n0 ≤ r1_q3 := Nat.le_trans (Nat.le_trans Z0 K_q1.1) sz0_r1_q3
  have sz_r1_q3 : h0.size ≤ r1_q3 := Nat.le_trans K_q1.1 sz0_r1_q3
  have ne_a1_r1_q3 : a1 ≠ r1_q3 := Nat.ne_of_lt (Nat.lt_of_lt_of_le V_a1__q1.lt sz0_r1_q3)
  have ne_ha_r1_q3 : ha ≠ r1_q3 := Nat.ne_of_lt (Nat.lt_of_lt_of_le V_ha__q1.lt sz0_r1_q3)
  have ne_r1_q1_r1_q3 : r1_q1 ≠ r1_q3 := Nat.ne_of_lt (Nat.lt_of_lt_of_le O0_q1.lt sz0_r1_q3)
  obtain rfl : w1_q3 = [(.int (nar .byte ((92 : Int32).toInt8.toInt32))), (.int (0 : Int32)), (.int (0 : Int32))] := hw1_q3
  obtain rfl : w2_q3 = [(.int (nar .byte ((92 : Int32).toInt8.toInt32))), (.int (nar .byte ((120 : Int32).toInt8.toInt32))), (.int (0 : Int32))] := hw2_q3
  obtain rfl : w3_q3 = [(.int (nar .byte ((92 : Int32).toInt8.toInt32))), (.int (nar .byte ((120 : Int32).toInt8.toInt32))), (.int (nar .byte ((own_k2 (u0 &&& (255 : Int32))).toInt8.toInt32)))] := hw3_q3
  obtain rfl : w4_q3 = [(.int (nar .byte ((92 : Int32).toInt8.toInt32))), (.int (nar .byte ((120 : Int32).toInt8.toInt32))), (.int (nar .byte ((own_k2 (u0 &&& (255 : Int32))).toInt8.toInt32))), (.int (nar .byte ((own_k3 (u0 &&& (255 : Int32))).toInt8.toInt32))), (.int (0 : Int32)), (.int (0 : Int32)), (.int (0 : Int32)), (.int (0 : Int32))] := hw4_q3
  have V_a1__q3 := V_a1__q1.keep Kq_q3 (ninS ne_a1_r1_q1 (ninS ne_a1_r2_q1 nin0))
  have S_COMPACT_STRINGS__q3 := own_sta_keep S_COMPACT_STRINGS__q1 Kq_q3 (allS (own_ns O0_q1) (allS (own_ns O5_q1) all0))
  have S_HEX_DIGITS__q3 := own_sta_keep S_HEX_DIGITS__q1 Kq_q3 (allS (own_ns O0_q1) (allS (own_ns O5_q1) all0))
  have V_ha__q3 := V_ha__q1.keep Kq_q3 (ninS ne_ha_r1_q1 (ninS ne_ha_r2_q1 nin0))
  have O0_q1__q3 := O0_q1.keep Kq_q3
  have K_q3 : Keep h0 h_q3 [] := K_q1.trans Kq_q3 (allS (Or.inr sz_r1_q1) (allS (Or.inr sz_r2_q1) all0))
  have O2_q3l : Fld Z h_q3 r1_q1 "java/lang/AbstractStringBuilder" "count" "I" (.int (4 : Int32)) := O2_q3
  obtain ⟨T_q9, h_q9, L_q9, w1_q9, w2_q9, w3_q9, w4_q9, X_q9, e_q9, N_q9, Kq_q9, hw1_q9, hw2_q9, hw3_q9, hw4_q9, O0_q9, O1_q9, O2_q9, O3_q9, O4_q9, st_q9⟩ := own_t1n a1 r1_q1 r1_q3 ha ka kr1_q3 kh (3 : Int32) (1 : Int32) [(.int u0), (.int u1), (.int u2)] u1 (8 : Int32) [(.int (nar .byte ((92 : Int32).toInt8.toInt32))), (.int (nar .byte ((120 : Int32).toInt8.toInt32))), (.int (nar .byte ((own_k2 (u0 &&& (255 : Int32))).toInt8.toInt32))), (.int (nar .byte ((own_k3 (u0 &&& (255 : Int32))).toInt8.toInt32))), (.int (0 : Int32)), (.int (0 : Int32)), (.int (0 : Int32)), (.int (0 : Int32))] (4 : Int32) (18 : Int32) cs (.val (.int u0)) (.val (.int (u0 &&& (255 : Int32)))) X_q3 hx hZ hw hby hml hown e_q3 N_q3 (Nat.le_trans Z0 K_q3.1) (by decide : 3 + 0 ≤ _) (by decide : 25 + 0 ≤ _) V_a1__q3 O0_q1__q3 O0_q3 O1_q3 O2_q3l O3_q3 O4_q3 S_COMPACT_STRINGS__q3 S_HEX_DIGITS__q3 V_ha__q3 ge_r1_q1 ge_r1_q3 (Ne.symm ne_r1_q1_r1_q3) ne_a1_r1_q1 ne_a1_r1_q3 ne_ha_r1_q1 ne_ha_r1_q3 rfl (by decide) (by decide) rfl rfl rfl hc_q10 (by decide) hc_q2 (by decide) (by decide) (by decide) hc_q11 (by decide) hc_q12 (by decide) hc_q13 (by decide) hc_q14 (by decide)
  obtain rfl : w1_q9 = [(.int (nar .byte ((92 : Int32).toInt8.toInt32))), (.int (nar .byte ((120 : Int32).toInt8.toInt32))), (.int (nar .byte ((own_k2 (u0 &&& (255 : Int32))).toInt8.toInt32))), (.int (nar .byte ((own_k3 (u0 &&& (255 : Int32))).toInt8.toInt32))), (.int (nar .byte ((92 : Int32).toInt8.toInt32))), (.int (0 : Int32)), (.int (0 : Int32)), (.int (0 : Int32))] := hw1_q9
  obtain rfl : w2_q9 = [(.int (nar .byte ((92 : Int32).toInt8.toInt32))), (.int (nar .byte ((120 : Int32).toInt8.toInt32))), (.int (nar .byte ((own_k2 (u0 &&& (255 : Int32))).toInt8.toInt32))), (.int (nar .byte ((own_k3 (u0 &&& (255 : Int32))).toInt8.toInt32))), (.int (nar .byte ((92 : Int32).toInt8.toInt32))), (.int (nar .byte ((120 : Int32).toInt8.toInt32))), (.int (0 : Int32)), (.int (0 : Int32))] := hw2_q9
  obtain rfl : w3_q9 = [(.int (nar .byte ((92 : Int32).toInt8.toInt32))), (.int (nar .byte ((120 : Int32).toInt8.toInt32))), (.int (nar .byte ((own_k2 (u0 &&& (255 : Int32))).toInt8.toInt32))), (.int (nar .byte ((own_k3 (u0 &&& (255 : Int32))).toInt8.toInt32))), (.int (nar .byte ((92 : Int32).toInt8.toInt32))), (.int (nar .byte ((120 : Int32).toInt8.toInt32))), (.int (nar .byte ((own_k2 (u1 &&& (255 : Int32))).toInt8.toInt32))), (.int (0 : Int32))] := hw3_q9
  obtain rfl : w4_q9 = [(.int (nar .byte ((92 : Int32).toInt8.toInt32))), (.int (nar .byte ((120 : Int32).toInt8.toInt32))), (.int (nar .byte ((own_k2 (u0 &&& (255 : Int32))).toInt8.toInt32))), (.int (nar .byte ((own_k3 (u0 &&& (255 : Int32))).toInt8.toInt32))), (.int (nar .byte ((92 : Int32).toInt8.toInt32))), (.int (nar .byte ((120 : Int32).toInt8.toInt32))), (.int (nar .byte ((own_k2 (u1 &&& (255 : Int32))).toInt8.toInt32))), (.int (nar .byte ((own_k3 (u1 &&& (255 : Int32))).toInt8.toInt32)))] := hw4_q9
  have V_a1__q9 := V_a1__q3.keep Kq_q9 (ninS ne_a1_r1_q1 (ninS ne_a1_r1_q3 nin0))
  have S_COMPACT_STRINGS__q9 := own_sta_keep S_COMPACT_STRINGS__q3 Kq_q9 (allS (own_ns O0_q1__q3) (allS (own_ns O4_q3) all0))
  have S_HEX_DIGITS__q9 := own_sta_keep S_HEX_DIGITS__q3 Kq_q9 (allS (own_ns O0_q1__q3) (allS (own_ns O4_q3) all0))
  have V_ha__q9 := V_ha__q3.keep Kq_q9 (ninS ne_ha_r1_q1 (ninS ne_ha_r1_q3 nin0))
  have O0_q1__q9 := O0_q1__q3.keep Kq_q9
  have K_q9 : Keep h0 h_q9 [] := K_q3.trans Kq_q9 (allS (Or.inr sz_r1_q1) (allS (Or.inr sz_r1_q3) all0))
  have O2_q9l : Fld Z h_q9 r1_q1 "java/lang/AbstractStringBuilder" "count" "I" (.int (8 : Int32)) := O2_q9
  obtain ⟨T_q15, h_q15, L_q15, r1_q15, kr1_q15, w1_q15, w2_q15, w3_q15, w4_q15, X_q15, e_q15, N_q15, Kq_q15, sz0_r1_q15, hw1_q15, hw2_q15, hw3_q15, hw4_q15, O0_q15, O1_q15, O2_q15, O3_q15, O4_q15, st_q15⟩ := own_t10 a1 r1_q1 r1_q3 ha ka kr1_q3 kh (3 : Int32) (2 : Int32) [(.int u0), (.int u1), (.int u2)] u2 (8 : Int32) [(.int (nar .byte ((92 : Int32).toInt8.toInt32))), (.int (nar .byte ((120 : Int32).toInt8.toInt32))), (.int (nar .byte ((own_k2 (u0 &&& (255 : Int32))).toInt8.toInt32))), (.int (nar .byte ((own_k3 (u0 &&& (255 : Int32))).toInt8.toInt32))), (.int (nar .byte ((92 : Int32).toInt8.toInt32))), (.int (nar .byte ((120 : Int32).toInt8.toInt32))), (.int (nar .byte ((own_k2 (u1 &&& (255 : Int32))).toInt8.toInt32))), (.int (nar .byte ((own_k3 (u1 &&& (255 : Int32))).toInt8.toInt32)))] (8 : Int32) (18 : Int32) cs (.val (.int u1)) (.val (.int (u1 &&& (255 : Int32)))) X_q9 hx hZ hw hby hml hown e_q9 N_q9 (Nat.le_trans Z0 K_q9.1) (by decide : 3 + 1 ≤ _) (by decide : 25 + 18 ≤ _) V_a1__q9 O0_q1__q9 O0_q9 O1_q9 O2_q9l O3_q9 O4_q9 S_COMPACT_STRINGS__q9 S_HEX_DIGITS__q9 V_ha__q9 ge_r1_q1 ge_r1_q3 (Ne.symm ne_r1_q1_r1_q3) ne_a1_r1_q1 ne_a1_r1_q3 ne_ha_r1_q1 ne_ha_r1_q3 rfl (by decide) (by decide) rfl rfl rfl hc_q16 (by decide) (by decide) (by decide) (by decide) (by decide) (by decide) (by decide) (by decide) (by decide) (by decide) (by decide) hc_q2 (by decide) (by decide) (by decide) hc_q17 (by decide) hc_q18 (by decide) hc_q19 (by decide) hc_q20 (by decide)
  obtain rfl : w1_q15 = [(.int (nar .byte ((92 : Int32).toInt8.toInt32))), (.int (nar .byte ((120 : Int32).toInt8.toInt32))), (.int (nar .byte ((own_k2 (u0 &&& (255 : Int32))).toInt8.toInt32))), (.int (nar .byte ((own_k3 (u0 &&& (255 : Int32))).toInt8.toInt32))), (.int (nar .byte ((92 : Int32).toInt8.toInt32))), (.int (nar .byte ((120 : Int32).toInt8.toInt32))), (.int (nar .byte ((own_k2 (u1 &&& (255 : Int32))).toInt8.toInt32))), (.int (nar .byte ((own_k3 (u1 &&& (255 : Int32))).toInt8.toInt32))), (.int (nar .byte ((92 : Int32).toInt8.toInt32))), (.int (0 : Int32)), (.int (0 : Int32)), (.int (0 : Int32)), (.int (0 : Int32)), (.int (0 : Int32)), (.int (0 : Int32)), (.int (0 : Int32)), (.int (0 : Int32)), (.int (0 : Int32))] := hw1_q15
  obtain rfl : w2_q15 = [(.int (nar .byte ((92 : Int32).toInt8.toInt32))), (.int (nar .byte ((120 : Int32).toInt8.toInt32))), (.int (nar .byte ((own_k2 (u0 &&& (255 : Int32))).toInt8.toInt32))), (.int (nar .byte ((own_k3 (u0 &&& (255 : Int32))).toInt8.toInt32))), (.int (nar .byte ((92 : Int32).toInt8.toInt32))), (.int (nar .byte ((120 : Int32).toInt8.toInt32))), (.int (nar .byte ((own_k2 (u1 &&& (255 : Int32))).toInt8.toInt32))), (.int (nar .byte ((own_k3 (u1 &&& (255 : Int32))).toInt8.toInt32))), (.int (nar .byte ((92 : Int32).toInt8.toInt32))), (.int (nar .byte ((120 : Int32).toInt8.toInt32))), (.int (0 : Int32)), (.int (0 : Int32)), (.int (0 : Int32)), (.int (0 : Int32)), (.int (0 : Int32)), (.int (0 : Int32)), (.int (0 : Int32)), (.int (0 : Int32))] := hw2_q15
  obtain rfl : w3_q15 = [(.int (nar .byte ((92 : Int32).toInt8.toInt32))), (.int (nar .byte ((120 : Int32).toInt8.toInt32))), (.int (nar .byte ((own_k2 (u0 &&& (255 : Int32))).toInt8.toInt32))), (.int (nar .byte ((own_k3 (u0 &&& (255 : Int32))).toInt8.toInt32))), (.int (nar .byte ((92 : Int32).toInt8.toInt32))), (.int (nar .byte ((120 : Int32).toInt8.toInt32))), (.int (nar .byte ((own_k2 (u1 &&& (255 : Int32))).toInt8.toInt32))), (.int (nar .byte ((own_k3 (u1 &&& (255 : Int32))).toInt8.toInt32))), (.int (nar .byte ((92 : Int32).toInt8.toInt32))), (.int (nar .byte ((120 : Int32).toInt8.toInt32))), (.int (nar .byte ((own_k2 (u2 &&& (255 : Int32))).toInt8.toInt32))), (.int (0 : Int32)), (.int (0 : Int32)), (.int (0 : Int32)), (.int (0 : Int32)), (.int (0 : Int32)), (.int (0 : Int32)), (.int (0 : Int32))] := hw3_q15
  obtain rfl : w4_q15 = [(.int (nar .byte ((92 : Int32).toInt8.toInt32))), (.int (nar .byte ((120 : Int32).toInt8.toInt32))), (.int (nar .byte ((own_k2 (u0 &&& (255 : Int32))).toInt8.toInt32))), (.int (nar .byte ((own_k3 (u0 &&& (255 : Int32))).toInt8.toInt32))), (.int (nar .byte ((92 : Int32).toInt8.toInt32))), (.int (nar .byte ((120 : Int32).toInt8.toInt32))), (.int (nar .byte ((own_k2 (u1 &&& (255 : Int32))).toInt8.toInt32))), (.int (nar .byte ((own_k3 (u1 &&& (255 : Int32))).toInt8.toInt32))), (.int (nar .byte ((92 : Int32).toInt8.toInt32))), (.int (nar .byte ((120 : Int32).toInt8.toInt32))), (.int (nar .byte ((own_k2 (u2 &&& (255 : Int32))).toInt8.toInt32))), (.int (nar .byte ((own_k3 (u2 &&& (255 : Int32))).toInt8.toInt32))), (.int (0 : Int32)), (.int (0 : Int32)), (.int (0 : Int32)), (.int (0 : Int32)), (.int (0 : Int32)), (.int (0 : Int32))] := hw4_q15
  have S_COMPACT_STRINGS__q15 := own_sta_keep S_COMPACT_STRINGS__q9 Kq_q15 (allS (own_ns O0_q1__q9) (allS (own_ns O4_q9) all0))
  have O0_q1__q15 := O0_q1__q9.keep Kq_q15
  have K_q15 : Keep h0 h_q15 [] := K_q9.trans Kq_q15 (allS (Or.inr sz_r1_q1) (allS (Or.inr sz_r1_q3) all0))
  have O2_q15l : Fld Z h_q15 r1_q1 "java/lang/AbstractStringBuilder" "count" "I" (.int (12 : Int32)) := O2_q15
  obtain ⟨cq_q21, kq_q21, qa_q21, qb_q21, qc_q21⟩ := isOf hZ e_q15 O0_q1__q15
  obtain ⟨_, _, ⟨T_q21, L_q21, k_q21, n_q21⟩, -, X_q21, ⟨Lc_q21, hQ_q21, l_q21, y_q21, z_q21⟩, st_q21⟩ := X_q15.virtualBack hx (y := (⟨"java/lang/StringBuilder", "toString", "()Ljava/lang/String;"⟩ : MethodName)) (z := (⟨"java/lang/StringBuilder", "toString", "()Ljava/lang/String;"⟩ : MethodName)) hown (mvT hZ (own_w hw 80 rfl)) (mvT hZ (own_w hw 81 rfl)) (notFace_of_selects (args := #[]) (mvT hZ (own_w hw 83 rfl))) (mvT hZ (own_w hw 83 rfl)) (mvT hZ (own_w hw 82 rfl)) (by decide) (backOf (W := 0) (rmTSr l Z a0 hw [] r1_q1 r1_q15 kr1_q15 (18 : Int32) [(.int (nar .byte ((92 : Int32).toInt8.toInt32))), (.int (nar .byte ((120 : Int32).toInt8.toInt32))), (.int (nar .byte ((own_k2 (u0 &&& (255 : Int32))).toInt8.toInt32))), (.int (nar .byte ((own_k3 (u0 &&& (255 : Int32))).toInt8.toInt32))), (.int (nar .byte ((92 : Int32).toInt8.toInt32))), (.int (nar .byte ((120 : Int32).toInt8.toInt32))), (.int (nar .byte ((own_k2 (u1 &&& (255 : Int32))).toInt8.toInt32))), (.int (nar .byte ((own_k3 (u1 &&& (255 : Int32))).toInt8.toInt32))), (.int (nar .byte ((92 : Int32).toInt8.toInt32))), (.int (nar .byte ((120 : Int32).toInt8.toInt32))), (.int (nar .byte ((own_k2 (u2 &&& (255 : Int32))).toInt8.toInt32))), (.int (nar .byte ((own_k3 (u2 &&& (255 : Int32))).toInt8.toInt32))), (.int (0 : Int32)), (.int (0 : Int32)), (.int (0 : Int32)), (.int (0 : Int32)), (.int (0 : Int32)), (.int (0 : Int32))] (12 : Int32) cs h_q15 n0 (Nat.le_trans Z0 K_q15.1) O0_q1__q15 O0_q15 O1_q15 O2_q15l O3_q15 O4_q15 S_COMPACT_STRINGS__q15 hc_q2 (by decide) (by decide) (by decide) (by decide) (by decide) (by decide)) hZ (own_w hw 84 rfl) (own_w hw 7 rfl) (by decide) (by decide)) qa_q21 qc_q21 (g := (mkF m 112 #[.val (.ref a1), .val (.ref r1_q1), .val (.ref a1), .val (.int (3 : Int32)), .val (.int (3 : Int32)), .val (.int u2), .val (.int (u2 &&& (255 : Int32)))] [(.ref r1_q1)])) rfl (by rw [hml]; rfl) (Steps.refl _) (argsL := []) (rest := []) (lenOf pd___Ljava_lang_String_ rfl) rfl (by show 2 * 0 + _ ≤ _; exact Nat.le_of_eq rfl) (hb hby d1_112) (fun _ _ => ⟨rfl, e_q15, (by decide : 4 + 2 ≤ _), (by decide : 43 + 16 ≤ _)⟩)
  dsimp only [Pt.U, Pt.locs, Pt.cells, Pt.slots] at X_q21 l_q21 y_q21 z_q21 st_q21 hQ_q21
  subst l_q21 y_q21 z_q21
  obtain ⟨r1_q21, r2_q21, kr2_q21, rfl, Nq_q21, Kq_q21, sz0_r1_q21, sz0_r2_q21, O0_q21, O1_q21, O2_q21, O3_q21, O4_q21⟩ := hQ_q21
  have N_q21 := Fr.app N_q15 Nq_q21
  have sz_r1_q21 : h0.size ≤ r1_q21 := Nat.le_trans K_q15.1 sz0_r1_q21
  have sz_r2_q21 : h0.size ≤ r2_q21 := Nat.le_trans K_q15.1 sz0_r2_q21
  have K_q21 : Keep h0 T_q21.heap [] := K_q15.trans Kq_q21 all0
  have O3_q21_l : Arv Z T_q21.heap r2_q21 kr2_q21 .byte (12 : Int32) [(.int (nar .byte ((92 : Int32).toInt8.toInt32))), (.int (nar .byte ((120 : Int32).toInt8.toInt32))), (.int (nar .byte ((own_k2 (u0 &&& (255 : Int32))).toInt8.toInt32))), (.int (nar .byte ((own_k3 (u0 &&& (255 : Int32))).toInt8.toInt32))), (.int (nar .byte ((92 : Int32).toInt8.toInt32))), (.int (nar .byte ((120 : Int32).toInt8.toInt32))), (.int (nar .byte ((own_k2 (u1 &&& (255 : Int32))).toInt8.toInt32))), (.int (nar .byte ((own_k3 (u1 &&& (255 : Int32))).toInt8.toInt32))), (.int (nar .byte ((92 : Int32).toInt8.toInt32))), (.int (nar .byte ((120 : Int32).toInt8.toInt32))), (.int (nar .byte ((own_k2 (u2 &&& (255 : Int32))).toInt8.toInt32))), (.int (nar .byte ((own_k3 (u2 &&& (255 : Int32))).toInt8.toInt32)))] (.int (0 : Int32)) := O3_q21
  obtain ⟨fs, hr, hrun, hended, hW, hsame⟩ := X_q21.leave (v := some (.ref r1_q21)) (fun h => by rw [Bd.returns] at h; cases h) Bd.notSynchronized
  refine ⟨_, _, pre0 _ ?_, hrun, hended, _, _, rfl, ?_, ⟨_, rfl⟩, hW, hsame.mono (by decide) (by decide)⟩
  · show Steps p.tables e below (s₁.setTop (mkF m 0 #[.val (.ref a1), .unset, .unset, .unset, .unset, .unset, .unset] [])) _
    refine st_q1 _ ?_
    show Steps p.tables e below (T_q1.setTop (mkF m 18 #[.val (.ref a1), .val (.ref r1_q1), .val (.ref a1), .val (.int (3 : Int32)), .val (.int (0 : Int32)), .unset, .unset] [])) _
    refine st_q3 _ ?_
    show Steps p.tables e below (T_q3.setTop (mkF m 18 #[.val (.ref a1), .val (.ref r1_q1), .val (.ref a1), .val (.int (3 : Int32)), .val (.int (1 : Int32)), .val (.int u0), .val (.int (u0 &&& (255 : Int32)))] [])) _
    refine st_q9 _ ?_
    show Steps p.tables e below (T_q9.setTop (mkF m 18 #[.val (.ref a1), .val (.ref r1_q1), .val (.ref a1), .val (.int (3 : Int32)), .val (.int (2 : Int32)), .val (.int u1), .val (.int (u1 &&& (255 : Int32)))] [])) _
    refine st_q15 _ ?_
    refine XS.iload X_q15.here hx rfl (hb hby d1_18) rfl ?_
    refine XS.iloadN X_q15.here hx rfl (hb hby d1_20) rfl ?_
    refine XS.icmpYes X_q15.here hx rfl (pc0 := 21) (pc' := 111) rfl (hb hby d1_21) rfl (flt (by decide : ¬ ((3 : Int32) < (3 : Int32)))).2.1 (by decide) (by decide) ?_
    show Steps p.tables e below (T_q15.setTop (mkF m 111 #[.val (.ref a1), .val (.ref r1_q1), .val (.ref a1), .val (.int (3 : Int32)), .val (.int (3 : Int32)), .val (.int u2), .val (.int (u2 &&& (255 : Int32)))] [])) _
    refine XS.aloadN X_q15.here hx rfl (hb hby d1_111) rfl rfl ?_
    show Steps p.tables e below (T_q15.setTop (mkF m 112 #[.val (.ref a1), .val (.ref r1_q1), .val (.ref a1), .val (.int (3 : Int32)), .val (.int (3 : Int32)), .val (.int u2), .val (.int (u2 &&& (255 : Int32)))] [(.ref r1_q1)])) _
    refine st_q21.trans ?_
    show Steps p.tables e below (T_q21.setTop (mkF m 115 #[.val (.ref a1), .val (.ref r1_q1), .val (.ref a1), .val (.int (3 : Int32)), .val (.int (3 : Int32)), .val (.int u2), .val (.int (u2 &&& (255 : Int32)))] [(.ref r1_q21)])) _
    jvm_step X_q21.here [X_q21.here.top, hx, (hb hby d1_115), X_q21.method', Bd.returns, Value.isRef, FieldType.isReference]
    first | (intro acts; rw [hr _ acts rfl rfl rfl]) | rw [hr _ _ rfl rfl rfl]
    exact Steps.refl _
  · show Q_rmEn_3_111 Z a1 ha ka kh cs u0 u1 u2 h0 n0 _ T_q21.heap _
    exact ⟨r1_q21, r2_q21, kr2_q21, rfl, N_q21, K_q21, sz_r1_q21, sz_r2_q21, O0_q21, O1_q21, O2_q21, O3_q21_l⟩
def own_StH (zl : Int32) (lv : List Value) (p2 p3 pn : Int32) : Prop := (∃ (u1 : Int32), pn = (p2 + (1 : Int32)) ∧ (own_pl p3) ∧ (p2 < (zl >>> ((0 : Int32) &&& 31))) ∧ (¬ (p2 < (0 : Int32))) ∧ (p2 < zl) ∧ (¬ p2 < 0 ∧ p2 < zl) ∧ (lv.getD (p2).toNatClampNeg (.int (0 : Int32)) = .int u1) ∧ ((nar .char (nar .char ((u1 &&& (255 : Int32)).toUInt32.toUInt16.toUInt32.toInt32))) = (p3.toUInt32.toUInt16.toUInt32.toInt32))) ∨ (∃ (u1 : Int32) (u2 : Int32) (u3 : Int32) (u4 : Int32), pn = (p2 + (4 : Int32)) ∧ (own_esc p3) ∧ (¬ ((zl >>> ((0 : Int32) &&& 31)) < (p2 + (4 : Int32)))) ∧ (¬ (p2 < (0 : Int32))) ∧ (p2 < zl) ∧ (¬ p2 < 0 ∧ p2 < zl) ∧ (lv.getD (p2).toNatClampNeg (.int (0 : Int32)) = .int u1) ∧ ((nar .char (nar .char ((u1 &&& (255 : Int32)).toUInt32.toUInt16.toUInt32.toInt32))) = (92 : Int32)) ∧ (¬ ((p2 + (1 : Int32)) < (0 : Int32))) ∧ ((p2 + (1 : Int32)) < zl) ∧ (¬ (p2 + (1 : Int32)) < 0 ∧ (p2 + (1 : Int32)) < zl) ∧ (lv.getD ((p2 + (1 : Int32))).toNatClampNeg (.int (0 : Int32)) = .int u2) ∧ ((nar .char (nar .char ((u2 &&& (255 : Int32)).toUInt32.toUInt16.toUInt32.toInt32))) = (120 : Int32)) ∧ (¬ ((p2 + (2 : Int32)) < (0 : Int32))) ∧ ((p2 + (2 : Int32)) < zl) ∧ (¬ (p2 + (2 : Int32)) < 0 ∧ (p2 + (2 : Int32)) < zl) ∧ (lv.getD ((p2 + (2 : Int32))).toNatClampNeg (.int (0 : Int32)) = .int u3) ∧ ((nar .char (nar .char ((u3 &&& (255 : Int32)).toUInt32.toUInt16.toUInt32.toInt32))) = (F30_0 (p3 >>> ((4 : Int32) &&& 31)))) ∧ (¬ ((p2 + (3 : Int32)) < (0 : Int32))) ∧ ((p2 + (3 : Int32)) < zl) ∧ (¬ (p2 + (3 : Int32)) < 0 ∧ (p2 + (3 : Int32)) < zl) ∧ (lv.getD ((p2 + (3 : Int32))).toNatClampNeg (.int (0 : Int32)) = .int u4) ∧ ((nar .char (nar .char ((u4 &&& (255 : Int32)).toUInt32.toUInt16.toUInt32.toInt32))) = (F30_0 (p3 &&& (15 : Int32)))))
def Q_St (Z : State) (a1 : Addr) (cs : Int32) (va : Addr) (k1 : ClassId) (zl : Int32) (lv : List Value) (sf : Value) (p2 p3 pn : Int32) (h0 : Heap) (n0 : Nat) (v : Option Value) (h : Heap) (L : List Loc) : Prop := v = some (.int pn) ∧ Fr n0 L ∧ h = h0
theorem rmSt (l : Launch) (Z : State) (a0 : Array Value) (hw : ∀ d ∈ tables_1, d.before a0 Z = true) (ws : List Jvm.Cond) (a1 : Addr) (cs : Int32) (va : Addr) (k1 : ClassId) (zl : Int32) (lv : List Value) (sf : Value) (p2 p3 pn : Int32) (h0 : Heap) (n0 : Nat) (Z0 : n0 ≤ h0.size) (EX_a1 : Exa Z h0 a1 "java/lang/String") (F_value_a1 : Fld Z h0 a1 "java/lang/String" "value" "[B" (.ref va)) (F_coder_a1 : Fld Z h0 a1 "java/lang/String" "coder" "B" (.int (0 : Int32))) (V_va : Arv Z h0 va k1 .byte zl lv (.int (0 : Int32))) (S_COMPACT_STRINGS : Sta Z h0 "java/lang/String" "COMPACT_STRINGS" "Z" (.int cs)) (S_SIOOBE_FORMATTER : Sta Z h0 "jdk/internal/util/Preconditions" "SIOOBE_FORMATTER" "Ljava/util/function/BiFunction;" sf) (hcs : ¬ (cs = (0 : Int32))) (hsf : sf = .null ∨ ∃ a, sf = .ref a) (hst : own_StH zl lv p2 p3 pn) : MetFree l (⟨"com/example/presplit/presplit/escape/BinaryEscapeEncodePinLaw", "step", "(Ljava/lang/String;II)I"⟩ : MethodName) (head1 (Jvm.Cond.code (⟨"com/example/presplit/presplit/escape/BinaryEscapeEncodePinLaw", "step", "(Ljava/lang/String;II)I"⟩ : MethodName) method_3_code 3 (some .int) :: ws) ({ frames := 4, cells := 0, slots := 0, locals := 61 } : Room)) (fun a U => a = #[(.ref a1), (.int p2), (.int p3)] ∧ Z.Warmed39 U.vm ∧ U.heap = h0) (fun _ _ _ _ _ => True) (fun _ U o U' => ∃ v L, o = .returned v ∧ Q_St Z a1 cs va k1 zl lv sf p2 p3 pn h0 n0 v U'.heap L ∧ FrameEnd U o U' L ({ frames := 4, cells := 0, slots := 0, locals := 61 } : Room).cells ({ frames := 4, cells := 0, slots := 0, locals := 61 } : Room).slots) := by
  rcases hst with ⟨u1, rfl, y0, y1, y2, y3, y4, y5, y6⟩ | ⟨u1, u2, u3, u4, rfl, y0, y1, y2, y3, y4, y5, y6, y7, y8, y9, y10, y11, y12, y13, y14, y15, y16, y17, y18, y19, y20, y21⟩
  · exact rmSt0 l Z a0 hw ws a1 cs va k1 zl lv sf p2 p3 u1 h0 n0 Z0 EX_a1 F_value_a1 F_coder_a1 V_va S_COMPACT_STRINGS S_SIOOBE_FORMATTER y0 hcs y1 hsf y2 y3 y4 y5 y6
  · exact rmSt1 l Z a0 hw ws a1 cs va k1 zl lv sf p2 p3 u1 u2 u3 u4 h0 n0 Z0 EX_a1 F_value_a1 F_coder_a1 V_va S_COMPACT_STRINGS S_SIOOBE_FORMATTER y0 hcs y1 hsf y2 y3 y4 y5 y6 y7 y8 y9 y10 y11 y12 y13 y14 y15 y16 y17 y18 y19 y20 y21
def Q_enc (Z : State) (zr : Int32) (lr : List Value) (h0 : Heap) (n0 : Nat) (v : Option Value) (h : Heap) (L : List Loc) : Prop := ∃ (r1 : Addr) (r2 : Addr) (kr2 : ClassId), v = some (.ref r1) ∧ Fr n0 L ∧ Keep h0 h [] ∧ h0.size ≤ r1 ∧ h0.size ≤ r2 ∧ Exa Z h r1 "java/lang/String" ∧ Fld Z h r1 "java/lang/String" "value" "[B" (.ref r2) ∧ Fld Z h r1 "java/lang/String" "coder" "B" (.int (0 : Int32)) ∧ Arv Z h r2 kr2 .byte zr lr (.int (0 : Int32))
def own_Enc0 (cs : Int32) (zr : Int32) (lr : List Value) : Prop := ∀ (l : Launch) (Z : State) (a0 : Array Value) (hw : ∀ d ∈ tables_1, d.before a0 Z = true) (ws : List Jvm.Cond) (a1 ha : Addr) (ka kh : ClassId) (h0 : Heap) (n0 : Nat) (Z0 : n0 ≤ h0.size) (V_a1 : Arv Z h0 a1 ka .byte (0 : Int32) [] (.int (0 : Int32))) (S_COMPACT_STRINGS : Sta Z h0 "java/lang/String" "COMPACT_STRINGS" "Z" (.int cs)) (S_HEX_DIGITS : Sta Z h0 "com/example/presplit/presplit/escape/BinaryEscape" "HEX_DIGITS" "[C" (.ref ha)) (V_ha : Arv Z h0 ha kh .char (16 : Int32) own_hexL (.int (0 : Int32))), MetFree l (⟨"com/example/presplit/presplit/escape/BinaryEscape", "encode", "([B)Ljava/lang/String;"⟩ : MethodName) (head1 (Jvm.Cond.code (⟨"com/example/presplit/presplit/escape/BinaryEscape", "encode", "([B)Ljava/lang/String;"⟩ : MethodName) prog_1_method_2_code 7 (some (.object "java/lang/String")) :: ws) ({ frames := 9, cells := 6, slots := 70, locals := 180 } : Room)) (fun a U => a = #[(.ref a1)] ∧ Z.Warmed39 U.vm ∧ U.heap = h0) (fun _ _ _ _ _ => True) (fun _ U o U' => ∃ v L, o = .returned v ∧ Q_enc Z zr lr h0 n0 v U'.heap L ∧ FrameEnd U o U' L ({ frames := 9, cells := 6, slots := 70, locals := 180 } : Room).cells ({ frames := 9, cells := 6, slots := 70, locals := 180 } : Room).slots)
theorem pn_0 : plainName "com/example/presplit/presplit/escape/BinaryEscapeEncodePinLaw" = true := by first | (simp [plainName, overriddenIn]; done) | decide +kernel
theorem pd___B_Ljava_lang_String_ : parseMethodDescriptor "([B)Ljava/lang/String;" = some ⟨[(.array .byte)], some (.object "java/lang/String")⟩ := by decide +kernel
theorem ef_0 (m : MethodId) (x0 : Int32) (x1 : Int32) (x2 : Int32) (x3 : Int32) : entryFrame m #[(.int x0), (.int x1), (.int x2), (.int x3)] maxLocals = mkF m 0 #[.val (.int x0), .val (.int x1), .val (.int x2), .val (.int x3), .unset, .unset, .unset, .unset] [] := by first | (simp [entryFrame, mkF, argsToLocals, Value.category, maxLocals]; done) | rfl
def Q_law0 (Z : State) (p1 p2 p3 p4 : Int32) (ha : Addr) (kh : ClassId) (cs : Int32) (sf : Value) (zr : Int32) (lr : List Value) (q1 q2 q3 : Int32) (h0 : Heap) (n0 : Nat) (v : Option Value) (h : Heap) (L : List Loc) : Prop := v = some (.int (1 : Int32)) ∧ Fr n0 L
set_option maxRecDepth 65536 in
set_option maxHeartbeats 40000000 in
theorem rm0_0 (l : Launch) (Z : State) (a0 : Array Value) (hw : ∀ d ∈ tables_1, d.before a0 Z = true) (ws : List Jvm.Cond) (p1 p2 p3 p4 : Int32) (ha : Addr) (kh : ClassId) (cs : Int32) (sf : Value) (zr : Int32) (lr : List Value) (q1 q2 q3 : Int32) (h0 : Heap) (n0 : Nat) (Z0 : n0 ≤ h0.size) (S_HEX_DIGITS : Sta Z h0 "com/example/presplit/presplit/escape/BinaryEscape" "HEX_DIGITS" "[C" (.ref ha)) (V_ha : Arv Z h0 ha kh .char (16 : Int32) own_hexL (.int (0 : Int32))) (S_COMPACT_STRINGS : Sta Z h0 "java/lang/String" "COMPACT_STRINGS" "Z" (.int cs)) (S_SIOOBE_FORMATTER : Sta Z h0 "jdk/internal/util/Preconditions" "SIOOBE_FORMATTER" "Ljava/util/function/BiFunction;" sf) (hlen : (p4 &&& (3 : Int32)) = (0 : Int32)) (hE : own_Enc0 cs  zr lr) (hc_q4 : ¬ (cs = (0 : Int32))) (hc_q5 : (0 : Int32) = (zr >>> ((0 : Int32) &&& 31))) :
    MetFree l x (head1 (Jvm.Cond.code x code maxLocals ret :: ws) room_1) (fun a U => a = #[(.int p1), (.int p2), (.int p3), (.int p4)] ∧ Z.Warmed39 U.vm ∧ U.heap = h0) (fun _ _ _ _ _ => True) (fun _ U o U' => ∃ v L, o = .returned v ∧ Q_law0 Z p1 p2 p3 p4 ha kh cs sf zr lr q1 q2 q3 h0 n0 v U'.heap L ∧ FrameEnd U o U' L room_1.cells room_1.slots) := by
  refine MetFree.of_bodySF (plainFor_of_name pn_0) hisR ?_
  intro p e s m args below meth c s₁ Bd hml0 hP hK
  obtain ⟨rfl, hZ, hh⟩ := hP
  have hx := Bd.exec
  have hby := Bd.bytes
  have hml : c.maxLocals = 8 := hml0
  have hown : s.vm.findClass "com/example/presplit/presplit/escape/BinaryEscapeEncodePinLaw" = some m.cls := findClass_of_methodNamed Bd.named
  have hnm := (name_of_methodNamed Bd.named Bd.method).1
  have X0 : Stand p l e room_1 s m #[(.int p1), (.int p2), (.int p3), (.int p4)] below meth c s₁ [] 0 0 := Stand.of_body Bd
  have e0 : s₁.heap = h0 := by rw [← hh, Bd.state]; rfl
  have N0 := Fr.nil n0
  have pre0 : ∀ t, Steps p.tables e below (s₁.setTop (mkF m 0 #[.val (.int p1), .val (.int p2), .val (.int p3), .val (.int p4), .unset, .unset, .unset, .unset] [])) t → Steps p.tables e below (s₁.setTop (entryFrame m #[(.int p1), (.int p2), (.int p3), (.int p4)] maxLocals)) t := fun t k => castTop (ef_0 m p1 p2 p3 p4) k
  have K0 : Keep h0 h0 [] := Keep.refl _ _
  obtain ⟨T_q1, h_q1, k_q1, X_q1, e_q1, E_q1, A_q1, EX_q1, st_q1⟩ := newPE X0 hx hZ (own_w hw 0 rfl) e0 (g := (mkF m 7 #[.val (.int p1), .val (.int p2), .val (.int p3), .val (.int p4), .val (.int (0 : Int32)), .unset, .unset, .unset] [(.int (0 : Int32))])) rfl (hb hby at_7) rfl (by decide) (cap := 0) (by decide) (by decide) (by decide) (by decide) (ad := "[B") (by decide)
  obtain ⟨b_q1, g_q1⟩ : ∃ z, z = h0.size := ⟨_, rfl⟩
  rw [← g_q1] at A_q1 EX_q1 st_q1
  have K_q1 : Keep h0 h_q1 [] := K0.ext E_q1
  have S_HEX_DIGITS__q1 := S_HEX_DIGITS.ext E_q1
  have V_ha__q1 := V_ha.ext E_q1
  have S_COMPACT_STRINGS__q1 := S_COMPACT_STRINGS.ext E_q1
  have V_b_q1 : Arv Z h_q1 b_q1 k_q1 .byte (0 : Int32) [] (.int (0 : Int32)) := (Arv.new A_q1 (by decide)).pad (pad_rep [] (.int (0 : Int32)) 0)
  obtain ⟨_, _, ⟨T_q2, L_q2, k_q2, n_q2⟩, -, X_q2, ⟨Lc_q2, hQ_q2, l_q2, y_q2, z_q2⟩, st_q2⟩ := Jvm.LawKit.callS X_q1 hx (y := (⟨"com/example/presplit/presplit/escape/BinaryEscape", "encode", "([B)Ljava/lang/String;"⟩ : MethodName)) hown (mvT hZ (own_w hw 1 rfl)) (mvT hZ (own_w hw 2 rfl)) (mvT hZ (own_w hw 3 rfl)) (mvT hZ (own_w hw 4 rfl)) (by decide) (backOf (W := 0) (hE l Z a0 hw [] b_q1 ha k_q1 kh h_q1 n0 (Nat.le_trans Z0 K_q1.1) V_b_q1 S_COMPACT_STRINGS__q1 S_HEX_DIGITS__q1 V_ha__q1) hZ (own_w hw 4 rfl) (own_w hw 3 rfl) (by decide) (by decide)) (g := (mkF m 48 #[.val (.int p1), .val (.int p2), .val (.int p3), .val (.int p4), .val (.int (0 : Int32)), .val (.ref b_q1), .unset, .unset] [(.ref b_q1)])) rfl (by rw [hml]; rfl) (argsL := [(.ref b_q1)]) (rest := []) (lenOf pd___B_Ljava_lang_String_ rfl) rfl (by show 2 * 0 + _ ≤ _; exact Nat.le_of_eq rfl) (hb hby at_48) (fun _ _ => ⟨rfl, e_q1, (by decide : 1 + 6 ≤ _), (by decide : 0 + 70 ≤ _)⟩)
  dsimp only [Pt.U, Pt.locs, Pt.cells, Pt.slots] at X_q2 l_q2 y_q2 z_q2 st_q2 hQ_q2
  subst l_q2 y_q2 z_q2
  obtain ⟨r1_q2, r2_q2, kr2_q2, rfl, Nq_q2, Kq_q2, sz0_r1_q2, sz0_r2_q2, O0_q2, O1_q2, O2_q2, O3_q2⟩ := hQ_q2
  have N_q2 := Fr.app N0 Nq_q2
  have S_COMPACT_STRINGS__q2 := own_sta_keep S_COMPACT_STRINGS__q1 Kq_q2 all0
  have K_q2 : Keep h0 T_q2.heap [] := K_q1.trans Kq_q2 all0
  obtain ⟨cq_q3, kq_q3, qa_q3, qb_q3, qc_q3⟩ := isOf hZ rfl O0_q2
  obtain ⟨_, _, ⟨T_q3, L_q3, k_q3, n_q3⟩, -, X_q3, ⟨Lc_q3, hQ_q3, l_q3, y_q3, z_q3⟩, st_q3⟩ := X_q2.virtualBack hx (y := (⟨"java/lang/String", "length", "()I"⟩ : MethodName)) (z := (⟨"java/lang/String", "length", "()I"⟩ : MethodName)) hown (mvT hZ (own_w hw 129 rfl)) (mvT hZ (own_w hw 130 rfl)) (notFace_of_selects (args := #[]) (mvT hZ (own_w hw 132 rfl))) (mvT hZ (own_w hw 132 rfl)) (mvT hZ (own_w hw 131 rfl)) (by decide) (backOf (W := 1) (rmLn l Z a0 hw [] r1_q2 r2_q2 kr2_q2 zr lr cs T_q2.heap n0 (Nat.le_trans Z0 K_q2.1) O0_q2 O1_q2 O2_q2 O3_q2 S_COMPACT_STRINGS__q2 hc_q4) hZ (own_w hw 133 rfl) (own_w hw 21 rfl) (by decide) (by decide)) qa_q3 qc_q3 (g := (mkF m 140 #[.val (.int p1), .val (.int p2), .val (.int p3), .val (.int p4), .val (.int (0 : Int32)), .val (.ref b_q1), .val (.ref r1_q2), .val (.int (0 : Int32))] [(.ref r1_q2), (.int (0 : Int32))])) rfl (by rw [hml]; rfl) (Steps.refl _) (argsL := []) (rest := [(.int (0 : Int32))]) (lenOf pd___I rfl) rfl (by show 2 * 0 + _ ≤ _; exact Nat.le_of_eq rfl) (hb hby at_140) (fun _ _ => ⟨rfl, rfl, (by decide : 7 + 0 ≤ _), (by decide : 70 + 0 ≤ _)⟩)
  dsimp only [Pt.U, Pt.locs, Pt.cells, Pt.slots] at X_q3 l_q3 y_q3 z_q3 st_q3 hQ_q3
  subst l_q3 y_q3 z_q3
  obtain ⟨rfl, Nq_q3, eq_q3⟩ := hQ_q3
  have N_q3 := Fr.app N_q2 Nq_q3
  obtain ⟨fs, hr, hrun, hended, hW, hsame⟩ := X_q3.leave (v := some (.int (1 : Int32))) (fun h => by rw [Bd.returns] at h; cases h) Bd.notSynchronized
  refine ⟨_, _, pre0 _ ?_, hrun, hended, _, _, rfl, ?_, ⟨_, rfl⟩, hW, hsame.mono (by decide) (by decide)⟩
  · show Steps p.tables e below (s₁.setTop (mkF m 0 #[.val (.int p1), .val (.int p2), .val (.int p3), .val (.int p4), .unset, .unset, .unset, .unset] [])) _
    refine XS.iloadN X0.here hx rfl (hb hby at_0) rfl ?_
    refine XS.iconst X0.here hx rfl (hb hby at_1) ?_
    refine XS.iand X0.here hx rfl (hb hby at_2) rfl ?_
    show Steps p.tables e below (s₁.setTop (mkF m 3 #[.val (.int p1), .val (.int p2), .val (.int p3), .val (.int p4), .unset, .unset, .unset, .unset] [(.int (p4 &&& (3 : Int32)))])) _
    rw [hlen]
    refine XS.istore X0.here hx rfl (hb hby at_3) rfl (l' := #[.val (.int p1), .val (.int p2), .val (.int p3), .val (.int p4), .val (.int (0 : Int32)), .unset, .unset, .unset]) rfl ?_
    refine XS.iload X0.here hx rfl (hb hby at_5) rfl ?_
    show Steps p.tables e below (s₁.setTop (mkF m 7 #[.val (.int p1), .val (.int p2), .val (.int p3), .val (.int p4), .val (.int (0 : Int32)), .unset, .unset, .unset] [(.int (0 : Int32))])) _
    refine st_q1 _ ?_
    refine XS.astore X_q1.here hx rfl (hb hby at_9) rfl rfl (l' := #[.val (.int p1), .val (.int p2), .val (.int p3), .val (.int p4), .val (.int (0 : Int32)), .val (.ref b_q1), .unset, .unset]) rfl ?_
    refine XS.iload X_q1.here hx rfl (hb hby at_11) rfl ?_
    refine XS.ifYes X_q1.here hx rfl (pc0 := 13) (pc' := 22) rfl (hb hby at_13) rfl ((if0 _ _).trans (flt (by decide : ¬ ((0 : Int32) < (0 : Int32)))).2.2.2) (by decide) (by decide) ?_
    show Steps p.tables e below (T_q1.setTop (mkF m 22 #[.val (.int p1), .val (.int p2), .val (.int p3), .val (.int p4), .val (.int (0 : Int32)), .val (.ref b_q1), .unset, .unset] [])) _
    refine XS.iload X_q1.here hx rfl (hb hby at_22) rfl ?_
    refine XS.iconst X_q1.here hx rfl (hb hby at_24) ?_
    refine XS.icmpYes X_q1.here hx rfl (pc0 := 25) (pc' := 34) rfl (hb hby at_25) rfl (flt (by decide : ¬ ((1 : Int32) < (0 : Int32)))).2.2.2 (by decide) (by decide) ?_
    refine XS.iload X_q1.here hx rfl (hb hby at_34) rfl ?_
    show Steps p.tables e below (T_q1.setTop (mkF m 36 #[.val (.int p1), .val (.int p2), .val (.int p3), .val (.int p4), .val (.int (0 : Int32)), .val (.ref b_q1), .unset, .unset] [(.int (0 : Int32))])) _
    refine XS.iconst X_q1.here hx rfl (hb hby at_36) ?_
    refine XS.icmpYes X_q1.here hx rfl (pc0 := 37) (pc' := 46) rfl (hb hby at_37) rfl (flt (by decide : ¬ ((2 : Int32) < (0 : Int32)))).2.2.2 (by decide) (by decide) ?_
    refine XS.aload X_q1.here hx rfl (hb hby at_46) rfl rfl ?_
    show Steps p.tables e below (T_q1.setTop (mkF m 48 #[.val (.int p1), .val (.int p2), .val (.int p3), .val (.int p4), .val (.int (0 : Int32)), .val (.ref b_q1), .unset, .unset] [(.ref b_q1)])) _
    refine st_q2 _ ?_
    refine XS.astore X_q2.here hx rfl (hb hby at_51) rfl rfl (l' := #[.val (.int p1), .val (.int p2), .val (.int p3), .val (.int p4), .val (.int (0 : Int32)), .val (.ref b_q1), .val (.ref r1_q2), .unset]) rfl ?_
    refine XS.iconst X_q2.here hx rfl (hb hby at_53) ?_
    refine XS.istore X_q2.here hx rfl (hb hby at_54) rfl (l' := #[.val (.int p1), .val (.int p2), .val (.int p3), .val (.int p4), .val (.int (0 : Int32)), .val (.ref b_q1), .val (.ref r1_q2), .val (.int (0 : Int32))]) rfl ?_
    show Steps p.tables e below (T_q2.setTop (mkF m 56 #[.val (.int p1), .val (.int p2), .val (.int p3), .val (.int p4), .val (.int (0 : Int32)), .val (.ref b_q1), .val (.ref r1_q2), .val (.int (0 : Int32))] [])) _
    refine XS.iload X_q2.here hx rfl (hb hby at_56) rfl ?_
    refine XS.ifYes X_q2.here hx rfl (pc0 := 58) (pc' := 82) rfl (hb hby at_58) rfl ((if0 _ _).trans (flt (by decide : ¬ ((0 : Int32) < (0 : Int32)))).2.2.2) (by decide) (by decide) ?_
    refine XS.iload X_q2.here hx rfl (hb hby at_82) rfl ?_
    refine XS.iconst X_q2.here hx rfl (hb hby at_84) ?_
    show Steps p.tables e below (T_q2.setTop (mkF m 85 #[.val (.int p1), .val (.int p2), .val (.int p3), .val (.int p4), .val (.int (0 : Int32)), .val (.ref b_q1), .val (.ref r1_q2), .val (.int (0 : Int32))] [(.int (1 : Int32)), (.int (0 : Int32))])) _
    refine XS.icmpYes X_q2.here hx rfl (pc0 := 85) (pc' := 109) rfl (hb hby at_85) rfl (flt (by decide : ¬ ((1 : Int32) < (0 : Int32)))).2.2.2 (by decide) (by decide) ?_
    refine XS.iload X_q2.here hx rfl (hb hby at_109) rfl ?_
    refine XS.iconst X_q2.here hx rfl (hb hby at_111) ?_
    refine XS.icmpYes X_q2.here hx rfl (pc0 := 112) (pc' := 136) rfl (hb hby at_112) rfl (flt (by decide : ¬ ((2 : Int32) < (0 : Int32)))).2.2.2 (by decide) (by decide) ?_
    show Steps p.tables e below (T_q2.setTop (mkF m 136 #[.val (.int p1), .val (.int p2), .val (.int p3), .val (.int p4), .val (.int (0 : Int32)), .val (.ref b_q1), .val (.ref r1_q2), .val (.int (0 : Int32))] [])) _
    refine XS.iload X_q2.here hx rfl (hb hby at_136) rfl ?_
    refine XS.aload X_q2.here hx rfl (hb hby at_138) rfl rfl ?_
    show Steps p.tables e below (T_q2.setTop (mkF m 140 #[.val (.int p1), .val (.int p2), .val (.int p3), .val (.int p4), .val (.int (0 : Int32)), .val (.ref b_q1), .val (.ref r1_q2), .val (.int (0 : Int32))] [(.ref r1_q2), (.int (0 : Int32))])) _
    refine st_q3.trans ?_
    refine XS.icmpNo X_q3.here hx rfl (hb hby at_143) rfl (teq hc_q5).2 ?_
    refine XS.iconst X_q3.here hx rfl (hb hby at_146) ?_
    refine XS.goto X_q3.here hx rfl (pc0 := 147) (pc' := 151) rfl (hb hby at_147) (by decide) (by decide) ?_
    show Steps p.tables e below (T_q3.setTop (mkF m 151 #[.val (.int p1), .val (.int p2), .val (.int p3), .val (.int p4), .val (.int (0 : Int32)), .val (.ref b_q1), .val (.ref r1_q2), .val (.int (0 : Int32))] [(.int (1 : Int32))])) _
    exact retN X_q3 hx (t := .boolean) Bd.returns (by simp) (hb hby at_151) hr
  · show Q_law0 Z p1 p2 p3 p4 ha kh cs sf zr lr q1 q2 q3 h0 n0 _ T_q3.heap _
    exact ⟨rfl, N_q3⟩
def own_Enc1 (cs : Int32) (u0 : Int32) (zr : Int32) (lr : List Value) : Prop := ∀ (l : Launch) (Z : State) (a0 : Array Value) (hw : ∀ d ∈ tables_1, d.before a0 Z = true) (ws : List Jvm.Cond) (a1 ha : Addr) (ka kh : ClassId) (h0 : Heap) (n0 : Nat) (Z0 : n0 ≤ h0.size) (V_a1 : Arv Z h0 a1 ka .byte (1 : Int32) [(.int u0)] (.int (0 : Int32))) (S_COMPACT_STRINGS : Sta Z h0 "java/lang/String" "COMPACT_STRINGS" "Z" (.int cs)) (S_HEX_DIGITS : Sta Z h0 "com/example/presplit/presplit/escape/BinaryEscape" "HEX_DIGITS" "[C" (.ref ha)) (V_ha : Arv Z h0 ha kh .char (16 : Int32) own_hexL (.int (0 : Int32))), MetFree l (⟨"com/example/presplit/presplit/escape/BinaryEscape", "encode", "([B)Ljava/lang/String;"⟩ : MethodName) (head1 (Jvm.Cond.code (⟨"com/example/presplit/presplit/escape/BinaryEscape", "encode", "([B)Ljava/lang/String;"⟩ : MethodName) prog_1_method_2_code 7 (some (.object "java/lang/String")) :: ws) ({ frames := 9, cells := 6, slots := 70, locals := 180 } : Room)) (fun a U => a = #[(.ref a1)] ∧ Z.Warmed39 U.vm ∧ U.heap = h0) (fun _ _ _ _ _ => True) (fun _ U o U' => ∃ v L, o = .returned v ∧ Q_enc Z zr lr h0 n0 v U'.heap L ∧ FrameEnd U o U' L ({ frames := 9, cells := 6, slots := 70, locals := 180 } : Room).cells ({ frames := 9, cells := 6, slots := 70, locals := 180 } : Room).slots)
theorem pd__Ljava_lang_String_II_I : parseMethodDescriptor "(Ljava/lang/String;II)I" = some ⟨[(.object "java/lang/String"), .int, .int], some .int⟩ := by decide +kernel
def Q_law1 (Z : State) (p1 p2 p3 p4 : Int32) (ha : Addr) (kh : ClassId) (cs : Int32) (sf : Value) (zr : Int32) (lr : List Value) (q1 q2 q3 : Int32) (h0 : Heap) (n0 : Nat) (v : Option Value) (h : Heap) (L : List Loc) : Prop := v = some (.int (1 : Int32)) ∧ Fr n0 L
set_option maxRecDepth 65536 in
set_option maxHeartbeats 40000000 in
theorem rm0_1 (l : Launch) (Z : State) (a0 : Array Value) (hw : ∀ d ∈ tables_1, d.before a0 Z = true) (ws : List Jvm.Cond) (p1 p2 p3 p4 : Int32) (ha : Addr) (kh : ClassId) (cs : Int32) (sf : Value) (zr : Int32) (lr : List Value) (q1 q2 q3 : Int32) (h0 : Heap) (n0 : Nat) (Z0 : n0 ≤ h0.size) (S_HEX_DIGITS : Sta Z h0 "com/example/presplit/presplit/escape/BinaryEscape" "HEX_DIGITS" "[C" (.ref ha)) (V_ha : Arv Z h0 ha kh .char (16 : Int32) own_hexL (.int (0 : Int32))) (S_COMPACT_STRINGS : Sta Z h0 "java/lang/String" "COMPACT_STRINGS" "Z" (.int cs)) (S_SIOOBE_FORMATTER : Sta Z h0 "jdk/internal/util/Preconditions" "SIOOBE_FORMATTER" "Ljava/util/function/BiFunction;" sf) (hlen : (p4 &&& (3 : Int32)) = (1 : Int32)) (hE : own_Enc1 cs (nar .byte (p1.toInt8.toInt32)) zr lr) (hc_q5 : ¬ (cs = (0 : Int32))) (hc_q6 : sf = .null ∨ ∃ a, sf = .ref a) (hc_q7 : own_StH zr lr (0 : Int32) (p1 &&& (255 : Int32)) q1) (hc_q8 : ¬ (q1 < (0 : Int32))) (hc_q10 : q1 = (zr >>> ((0 : Int32) &&& 31))) :
    MetFree l x (head1 (Jvm.Cond.code x code maxLocals ret :: ws) room_1) (fun a U => a = #[(.int p1), (.int p2), (.int p3), (.int p4)] ∧ Z.Warmed39 U.vm ∧ U.heap = h0) (fun _ _ _ _ _ => True) (fun _ U o U' => ∃ v L, o = .returned v ∧ Q_law1 Z p1 p2 p3 p4 ha kh cs sf zr lr q1 q2 q3 h0 n0 v U'.heap L ∧ FrameEnd U o U' L room_1.cells room_1.slots) := by
  refine MetFree.of_bodySF (plainFor_of_name pn_0) hisR ?_
  intro p e s m args below meth c s₁ Bd hml0 hP hK
  obtain ⟨rfl, hZ, hh⟩ := hP
  have hx := Bd.exec
  have hby := Bd.bytes
  have hml : c.maxLocals = 8 := hml0
  have hown : s.vm.findClass "com/example/presplit/presplit/escape/BinaryEscapeEncodePinLaw" = some m.cls := findClass_of_methodNamed Bd.named
  have hnm := (name_of_methodNamed Bd.named Bd.method).1
  have X0 : Stand p l e room_1 s m #[(.int p1), (.int p2), (.int p3), (.int p4)] below meth c s₁ [] 0 0 := Stand.of_body Bd
  have e0 : s₁.heap = h0 := by rw [← hh, Bd.state]; rfl
  have N0 := Fr.nil n0
  have pre0 : ∀ t, Steps p.tables e below (s₁.setTop (mkF m 0 #[.val (.int p1), .val (.int p2), .val (.int p3), .val (.int p4), .unset, .unset, .unset, .unset] [])) t → Steps p.tables e below (s₁.setTop (entryFrame m #[(.int p1), (.int p2), (.int p3), (.int p4)] maxLocals)) t := fun t k => castTop (ef_0 m p1 p2 p3 p4) k
  have K0 : Keep h0 h0 [] := Keep.refl _ _
  obtain ⟨T_q1, h_q1, k_q1, X_q1, e_q1, E_q1, A_q1, EX_q1, st_q1⟩ := newPE X0 hx hZ (own_w hw 0 rfl) e0 (g := (mkF m 7 #[.val (.int p1), .val (.int p2), .val (.int p3), .val (.int p4), .val (.int (1 : Int32)), .unset, .unset, .unset] [(.int (1 : Int32))])) rfl (hb hby at_7) rfl (by decide) (cap := 1) (by decide) (by decide) (by decide) (by decide) (ad := "[B") (by decide)
  obtain ⟨b_q1, g_q1⟩ : ∃ z, z = h0.size := ⟨_, rfl⟩
  rw [← g_q1] at A_q1 EX_q1 st_q1
  have ne_ha_b_q1 : ha ≠ b_q1 := Nat.ne_of_lt (Nat.lt_of_lt_of_le V_ha.lt (Nat.le_of_eq g_q1.symm))
  have ge_b_q1 : n0 ≤ b_q1 := Nat.le_trans (Nat.le_trans Z0 K0.1) (Nat.le_of_eq g_q1.symm)
  have sz_b_q1 : h0.size ≤ b_q1 := Nat.le_trans K0.1 (Nat.le_of_eq g_q1.symm)
  have K_q1 : Keep h0 h_q1 [] := K0.ext E_q1
  have S_HEX_DIGITS__q1 := S_HEX_DIGITS.ext E_q1
  have V_ha__q1 := V_ha.ext E_q1
  have S_COMPACT_STRINGS__q1 := S_COMPACT_STRINGS.ext E_q1
  have S_SIOOBE_FORMATTER__q1 := S_SIOOBE_FORMATTER.ext E_q1
  have V_b_q1 : Arv Z h_q1 b_q1 k_q1 .byte (1 : Int32) [(.int (0 : Int32))] (.int (0 : Int32)) := (Arv.new A_q1 (by decide)).pad (pad_rep [] (.int (0 : Int32)) 1)
  obtain ⟨cl_q2, Ar_q2, qk_q2, S_q2, Nn_q2, H_q2, G_q2⟩ := id V_b_q1
  have hin_q2 : ¬ ((0 : Int32) < 0 ∨ cl_q2.slots.size ≤ ((0 : Int32)).toNatClampNeg) := inb_of S_q2 ⟨by decide, by decide⟩
  obtain ⟨T_q2, h_q2, X_q2, e_q2, W_q2, st_q2⟩ := stB X_q1 hx hZ e_q1 Ar_q2 (j := (0 : Int32)) hin_q2 (g := (mkF m 21 #[.val (.int p1), .val (.int p2), .val (.int p3), .val (.int p4), .val (.int (1 : Int32)), .val (.ref b_q1), .unset, .unset] [(.int (p1.toInt8.toInt32)), (.int (0 : Int32)), (.ref b_q1)])) rfl rfl (hb hby at_21)
  have S_HEX_DIGITS__q2 := S_HEX_DIGITS__q1.wr W_q2
  have V_ha__q2 := V_ha__q1.other W_q2 ne_ha_b_q1
  have S_COMPACT_STRINGS__q2 := S_COMPACT_STRINGS__q1.wr W_q2
  have S_SIOOBE_FORMATTER__q2 := S_SIOOBE_FORMATTER__q1.wr W_q2
  have V_b_q1__q2 : Arv Z h_q2 b_q1 k_q1 .byte (1 : Int32) [(.int (nar .byte (p1.toInt8.toInt32)))] (.int (0 : Int32)) := Arv.set Ar_q2 qk_q2 S_q2 Nn_q2 H_q2 G_q2 (fits_nar_byte _) W_q2 0 rfl (Nat.le_of_ble_eq_true rfl)
  have K_q2 : Keep h0 h_q2 [] := K_q1.wr W_q2 (Or.inr sz_b_q1)
  have N_q2 := Fr.snoc X_q2 N0 ge_b_q1
  obtain ⟨_, _, ⟨T_q3, L_q3, k_q3, n_q3⟩, -, X_q3, ⟨Lc_q3, hQ_q3, l_q3, y_q3, z_q3⟩, st_q3⟩ := Jvm.LawKit.callS X_q2 hx (y := (⟨"com/example/presplit/presplit/escape/BinaryEscape", "encode", "([B)Ljava/lang/String;"⟩ : MethodName)) hown (mvT hZ (own_w hw 1 rfl)) (mvT hZ (own_w hw 2 rfl)) (mvT hZ (own_w hw 3 rfl)) (mvT hZ (own_w hw 4 rfl)) (by decide) (backOf (W := 0) (hE l Z a0 hw [] b_q1 ha k_q1 kh h_q2 n0 (Nat.le_trans Z0 K_q2.1) V_b_q1__q2 S_COMPACT_STRINGS__q2 S_HEX_DIGITS__q2 V_ha__q2) hZ (own_w hw 4 rfl) (own_w hw 3 rfl) (by decide) (by decide)) (g := (mkF m 48 #[.val (.int p1), .val (.int p2), .val (.int p3), .val (.int p4), .val (.int (1 : Int32)), .val (.ref b_q1), .unset, .unset] [(.ref b_q1)])) rfl (by rw [hml]; rfl) (argsL := [(.ref b_q1)]) (rest := []) (lenOf pd___B_Ljava_lang_String_ rfl) rfl (by show 2 * 0 + _ ≤ _; exact Nat.le_of_eq rfl) (hb hby at_48) (fun _ _ => ⟨rfl, e_q2, (by decide : 1 + 6 ≤ _), (by decide : 1 + 70 ≤ _)⟩)
  dsimp only [Pt.U, Pt.locs, Pt.cells, Pt.slots] at X_q3 l_q3 y_q3 z_q3 st_q3 hQ_q3
  subst l_q3 y_q3 z_q3
  obtain ⟨r1_q3, r2_q3, kr2_q3, rfl, Nq_q3, Kq_q3, sz0_r1_q3, sz0_r2_q3, O0_q3, O1_q3, O2_q3, O3_q3⟩ := hQ_q3
  have N_q3 := Fr.app N_q2 Nq_q3
  have S_COMPACT_STRINGS__q3 := own_sta_keep S_COMPACT_STRINGS__q2 Kq_q3 all0
  have S_SIOOBE_FORMATTER__q3 := own_sta_keep S_SIOOBE_FORMATTER__q2 Kq_q3 all0
  have K_q3 : Keep h0 T_q3.heap [] := K_q2.trans Kq_q3 all0
  obtain ⟨_, _, ⟨T_q4, L_q4, k_q4, n_q4⟩, -, X_q4, ⟨Lc_q4, hQ_q4, l_q4, y_q4, z_q4⟩, st_q4⟩ := Jvm.LawKit.callS X_q3 hx (y := (⟨"com/example/presplit/presplit/escape/BinaryEscapeEncodePinLaw", "step", "(Ljava/lang/String;II)I"⟩ : MethodName)) hown (mvT hZ (own_w hw 125 rfl)) (mvT hZ (own_w hw 126 rfl)) (mvT hZ (own_w hw 127 rfl)) (mvT hZ (own_w hw 128 rfl)) (by decide) (backOf (W := 0) (rmSt l Z a0 hw [] r1_q3 cs r2_q3 kr2_q3 zr lr sf (0 : Int32) (p1 &&& (255 : Int32)) q1 T_q3.heap n0 (Nat.le_trans Z0 K_q3.1) O0_q3 O1_q3 O2_q3 O3_q3 S_COMPACT_STRINGS__q3 S_SIOOBE_FORMATTER__q3 hc_q5 hc_q6 hc_q7) hZ (own_w hw 128 rfl) (own_w hw 127 rfl) (by decide) (by decide)) (g := (mkF m 70 #[.val (.int p1), .val (.int p2), .val (.int p3), .val (.int p4), .val (.int (1 : Int32)), .val (.ref b_q1), .val (.ref r1_q3), .val (.int (0 : Int32))] [(.int (p1 &&& (255 : Int32))), (.int (0 : Int32)), (.ref r1_q3)])) rfl (by rw [hml]; rfl) (argsL := [(.ref r1_q3), (.int (0 : Int32)), (.int (p1 &&& (255 : Int32)))]) (rest := []) (lenOf pd__Ljava_lang_String_II_I rfl) rfl (by show 2 * 0 + _ ≤ _; exact Nat.le_of_eq rfl) (hb hby at_70) (fun _ _ => ⟨rfl, rfl, (by decide : 7 + 0 ≤ _), (by decide : 71 + 0 ≤ _)⟩)
  dsimp only [Pt.U, Pt.locs, Pt.cells, Pt.slots] at X_q4 l_q4 y_q4 z_q4 st_q4 hQ_q4
  subst l_q4 y_q4 z_q4
  obtain ⟨rfl, Nq_q4, eq_q4⟩ := hQ_q4
  have Kq_q4 : Keep T_q3.heap T_q4.heap [] := by rw [eq_q4]; exact Keep.refl _ _
  have N_q4 := Fr.app N_q3 Nq_q4
  have S_COMPACT_STRINGS__q4 := own_sta_keep S_COMPACT_STRINGS__q3 Kq_q4 all0
  have O0_q3__q4 := O0_q3.keep Kq_q4
  have O1_q3__q4 := O1_q3.keep Kq_q4 nin0
  have O2_q3__q4 := O2_q3.keep Kq_q4 nin0
  have O3_q3__q4 := O3_q3.keep Kq_q4 nin0
  have K_q4 : Keep h0 T_q4.heap [] := K_q3.trans Kq_q4 all0
  obtain ⟨cq_q9, kq_q9, qa_q9, qb_q9, qc_q9⟩ := isOf hZ rfl O0_q3__q4
  obtain ⟨_, _, ⟨T_q9, L_q9, k_q9, n_q9⟩, -, X_q9, ⟨Lc_q9, hQ_q9, l_q9, y_q9, z_q9⟩, st_q9⟩ := X_q4.virtualBack hx (y := (⟨"java/lang/String", "length", "()I"⟩ : MethodName)) (z := (⟨"java/lang/String", "length", "()I"⟩ : MethodName)) hown (mvT hZ (own_w hw 129 rfl)) (mvT hZ (own_w hw 130 rfl)) (notFace_of_selects (args := #[]) (mvT hZ (own_w hw 132 rfl))) (mvT hZ (own_w hw 132 rfl)) (mvT hZ (own_w hw 131 rfl)) (by decide) (backOf (W := 1) (rmLn l Z a0 hw [] r1_q3 r2_q3 kr2_q3 zr lr cs T_q4.heap n0 (Nat.le_trans Z0 K_q4.1) O0_q3__q4 O1_q3__q4 O2_q3__q4 O3_q3__q4 S_COMPACT_STRINGS__q4 hc_q5) hZ (own_w hw 133 rfl) (own_w hw 21 rfl) (by decide) (by decide)) qa_q9 qc_q9 (g := (mkF m 140 #[.val (.int p1), .val (.int p2), .val (.int p3), .val (.int p4), .val (.int (1 : Int32)), .val (.ref b_q1), .val (.ref r1_q3), .val (.int q1)] [(.ref r1_q3), (.int q1)])) rfl (by rw [hml]; rfl) (Steps.refl _) (argsL := []) (rest := [(.int q1)]) (lenOf pd___I rfl) rfl (by show 2 * 0 + _ ≤ _; exact Nat.le_of_eq rfl) (hb hby at_140) (fun _ _ => ⟨rfl, rfl, (by decide : 7 + 0 ≤ _), (by decide : 71 + 0 ≤ _)⟩)
  dsimp only [Pt.U, Pt.locs, Pt.cells, Pt.slots] at X_q9 l_q9 y_q9 z_q9 st_q9 hQ_q9
  subst l_q9 y_q9 z_q9
  obtain ⟨rfl, Nq_q9, eq_q9⟩ := hQ_q9
  have N_q9 := Fr.app N_q4 Nq_q9
  obtain ⟨fs, hr, hrun, hended, hW, hsame⟩ := X_q9.leave (v := some (.int (1 : Int32))) (fun h => by rw [Bd.returns] at h; cases h) Bd.notSynchronized
  refine ⟨_, _, pre0 _ ?_, hrun, hended, _, _, rfl, ?_, ⟨_, rfl⟩, hW, hsame.mono (by decide) (by decide)⟩
  · show Steps p.tables e below (s₁.setTop (mkF m 0 #[.val (.int p1), .val (.int p2), .val (.int p3), .val (.int p4), .unset, .unset, .unset, .unset] [])) _
    refine XS.iloadN X0.here hx rfl (hb hby at_0) rfl ?_
    refine XS.iconst X0.here hx rfl (hb hby at_1) ?_
    refine XS.iand X0.here hx rfl (hb hby at_2) rfl ?_
    show Steps p.tables e below (s₁.setTop (mkF m 3 #[.val (.int p1), .val (.int p2), .val (.int p3), .val (.int p4), .unset, .unset, .unset, .unset] [(.int (p4 &&& (3 : Int32)))])) _
    rw [hlen]
    refine XS.istore X0.here hx rfl (hb hby at_3) rfl (l' := #[.val (.int p1), .val (.int p2), .val (.int p3), .val (.int p4), .val (.int (1 : Int32)), .unset, .unset, .unset]) rfl ?_
    refine XS.iload X0.here hx rfl (hb hby at_5) rfl ?_
    show Steps p.tables e below (s₁.setTop (mkF m 7 #[.val (.int p1), .val (.int p2), .val (.int p3), .val (.int p4), .val (.int (1 : Int32)), .unset, .unset, .unset] [(.int (1 : Int32))])) _
    refine st_q1 _ ?_
    refine XS.astore X_q1.here hx rfl (hb hby at_9) rfl rfl (l' := #[.val (.int p1), .val (.int p2), .val (.int p3), .val (.int p4), .val (.int (1 : Int32)), .val (.ref b_q1), .unset, .unset]) rfl ?_
    refine XS.iload X_q1.here hx rfl (hb hby at_11) rfl ?_
    refine XS.ifNo X_q1.here hx rfl (hb hby at_13) rfl ((if0 _ _).trans (tlt (by decide : (0 : Int32) < (1 : Int32))).2.2.2) ?_
    show Steps p.tables e below (T_q1.setTop (mkF m 16 #[.val (.int p1), .val (.int p2), .val (.int p3), .val (.int p4), .val (.int (1 : Int32)), .val (.ref b_q1), .unset, .unset] [])) _
    refine XS.aload X_q1.here hx rfl (hb hby at_16) rfl rfl ?_
    refine XS.iconst X_q1.here hx rfl (hb hby at_18) ?_
    refine XS.iloadN X_q1.here hx rfl (hb hby at_19) rfl ?_
    refine XS.i2b X_q1.here hx rfl (hb hby at_20) rfl ?_
    show Steps p.tables e below (T_q1.setTop (mkF m 21 #[.val (.int p1), .val (.int p2), .val (.int p3), .val (.int p4), .val (.int (1 : Int32)), .val (.ref b_q1), .unset, .unset] [(.int (p1.toInt8.toInt32)), (.int (0 : Int32)), (.ref b_q1)])) _
    refine st_q2 _ ?_
    refine XS.iload X_q2.here hx rfl (hb hby at_22) rfl ?_
    refine XS.iconst X_q2.here hx rfl (hb hby at_24) ?_
    refine XS.icmpYes X_q2.here hx rfl (pc0 := 25) (pc' := 34) rfl (hb hby at_25) rfl (flt (by decide : ¬ ((1 : Int32) < (1 : Int32)))).2.2.2 (by decide) (by decide) ?_
    show Steps p.tables e below (T_q2.setTop (mkF m 34 #[.val (.int p1), .val (.int p2), .val (.int p3), .val (.int p4), .val (.int (1 : Int32)), .val (.ref b_q1), .unset, .unset] [])) _
    refine XS.iload X_q2.here hx rfl (hb hby at_34) rfl ?_
    refine XS.iconst X_q2.here hx rfl (hb hby at_36) ?_
    refine XS.icmpYes X_q2.here hx rfl (pc0 := 37) (pc' := 46) rfl (hb hby at_37) rfl (flt (by decide : ¬ ((2 : Int32) < (1 : Int32)))).2.2.2 (by decide) (by decide) ?_
    refine XS.aload X_q2.here hx rfl (hb hby at_46) rfl rfl ?_
    show Steps p.tables e below (T_q2.setTop (mkF m 48 #[.val (.int p1), .val (.int p2), .val (.int p3), .val (.int p4), .val (.int (1 : Int32)), .val (.ref b_q1), .unset, .unset] [(.ref b_q1)])) _
    refine st_q3 _ ?_
    refine XS.astore X_q3.here hx rfl (hb hby at_51) rfl rfl (l' := #[.val (.int p1), .val (.int p2), .val (.int p3), .val (.int p4), .val (.int (1 : Int32)), .val (.ref b_q1), .val (.ref r1_q3), .unset]) rfl ?_
    refine XS.iconst X_q3.here hx rfl (hb hby at_53) ?_
    refine XS.istore X_q3.here hx rfl (hb hby at_54) rfl (l' := #[.val (.int p1), .val (.int p2), .val (.int p3), .val (.int p4), .val (.int (1 : Int32)), .val (.ref b_q1), .val (.ref r1_q3), .val (.int (0 : Int32))]) rfl ?_
    show Steps p.tables e below (T_q3.setTop (mkF m 56 #[.val (.int p1), .val (.int p2), .val (.int p3), .val (.int p4), .val (.int (1 : Int32)), .val (.ref b_q1), .val (.ref r1_q3), .val (.int (0 : Int32))] [])) _
    refine XS.iload X_q3.here hx rfl (hb hby at_56) rfl ?_
    refine XS.ifNo X_q3.here hx rfl (hb hby at_58) rfl ((if0 _ _).trans (tlt (by decide : (0 : Int32) < (1 : Int32))).2.2.2) ?_
    refine XS.aload X_q3.here hx rfl (hb hby at_61) rfl rfl ?_
    refine XS.iload X_q3.here hx rfl (hb hby at_63) rfl ?_
    show Steps p.tables e below (T_q3.setTop (mkF m 65 #[.val (.int p1), .val (.int p2), .val (.int p3), .val (.int p4), .val (.int (1 : Int32)), .val (.ref b_q1), .val (.ref r1_q3), .val (.int (0 : Int32))] [(.int (0 : Int32)), (.ref r1_q3)])) _
    refine XS.iloadN X_q3.here hx rfl (hb hby at_65) rfl ?_
    refine XS.sipush X_q3.here hx rfl (hb hby at_66) ?_
    refine XS.iand X_q3.here hx rfl (hb hby at_69) rfl ?_
    show Steps p.tables e below (T_q3.setTop (mkF m 70 #[.val (.int p1), .val (.int p2), .val (.int p3), .val (.int p4), .val (.int (1 : Int32)), .val (.ref b_q1), .val (.ref r1_q3), .val (.int (0 : Int32))] [(.int (p1 &&& (255 : Int32))), (.int (0 : Int32)), (.ref r1_q3)])) _
    refine st_q4 _ ?_
    refine XS.istore X_q4.here hx rfl (hb hby at_73) rfl (l' := #[.val (.int p1), .val (.int p2), .val (.int p3), .val (.int p4), .val (.int (1 : Int32)), .val (.ref b_q1), .val (.ref r1_q3), .val (.int q1)]) rfl ?_
    refine XS.iload X_q4.here hx rfl (hb hby at_75) rfl ?_
    refine XS.ifYes X_q4.here hx rfl (pc0 := 77) (pc' := 82) rfl (hb hby at_77) rfl ((if0 _ _).trans (flt hc_q8).2.1) (by decide) (by decide) ?_
    show Steps p.tables e below (T_q4.setTop (mkF m 82 #[.val (.int p1), .val (.int p2), .val (.int p3), .val (.int p4), .val (.int (1 : Int32)), .val (.ref b_q1), .val (.ref r1_q3), .val (.int q1)] [])) _
    refine XS.iload X_q4.here hx rfl (hb hby at_82) rfl ?_
    refine XS.iconst X_q4.here hx rfl (hb hby at_84) ?_
    refine XS.icmpYes X_q4.here hx rfl (pc0 := 85) (pc' := 109) rfl (hb hby at_85) rfl (flt (by decide : ¬ ((1 : Int32) < (1 : Int32)))).2.2.2 (by decide) (by decide) ?_
    refine XS.iload X_q4.here hx rfl (hb hby at_109) rfl ?_
    show Steps p.tables e below (T_q4.setTop (mkF m 111 #[.val (.int p1), .val (.int p2), .val (.int p3), .val (.int p4), .val (.int (1 : Int32)), .val (.ref b_q1), .val (.ref r1_q3), .val (.int q1)] [(.int (1 : Int32))])) _
    refine XS.iconst X_q4.here hx rfl (hb hby at_111) ?_
    refine XS.icmpYes X_q4.here hx rfl (pc0 := 112) (pc' := 136) rfl (hb hby at_112) rfl (flt (by decide : ¬ ((2 : Int32) < (1 : Int32)))).2.2.2 (by decide) (by decide) ?_
    refine XS.iload X_q4.here hx rfl (hb hby at_136) rfl ?_
    refine XS.aload X_q4.here hx rfl (hb hby at_138) rfl rfl ?_
    show Steps p.tables e below (T_q4.setTop (mkF m 140 #[.val (.int p1), .val (.int p2), .val (.int p3), .val (.int p4), .val (.int (1 : Int32)), .val (.ref b_q1), .val (.ref r1_q3), .val (.int q1)] [(.ref r1_q3), (.int q1)])) _
    refine st_q9.trans ?_
    refine XS.icmpNo X_q9.here hx rfl (hb hby at_143) rfl (teq hc_q10).2 ?_
    refine XS.iconst X_q9.here hx rfl (hb hby at_146) ?_
    refine XS.goto X_q9.here hx rfl (pc0 := 147) (pc' := 151) rfl (hb hby at_147) (by decide) (by decide) ?_
    show Steps p.tables e below (T_q9.setTop (mkF m 151 #[.val (.int p1), .val (.int p2), .val (.int p3), .val (.int p4), .val (.int (1 : Int32)), .val (.ref b_q1), .val (.ref r1_q3), .val (.int q1)] [(.int (1 : Int32))])) _
    exact retN X_q9 hx (t := .boolean) Bd.returns (by simp) (hb hby at_151) hr
  · show Q_law1 Z p1 p2 p3 p4 ha kh cs sf zr lr q1 q2 q3 h0 n0 _ T_q9.heap _
    exact ⟨rfl, N_q9⟩
def own_Enc2 (cs : Int32) (u0 : Int32) (u1 : Int32) (zr : Int32) (lr : List Value) : Prop := ∀ (l : Launch) (Z : State) (a0 : Array Value) (hw : ∀ d ∈ tables_1, d.before a0 Z = true) (ws : List Jvm.Cond) (a1 ha : Addr) (ka kh : ClassId) (h0 : Heap) (n0 : Nat) (Z0 : n0 ≤ h0.size) (V_a1 : Arv Z h0 a1 ka .byte (2 : Int32) [(.int u0), (.int u1)] (.int (0 : Int32))) (S_COMPACT_STRINGS : Sta Z h0 "java/lang/String" "COMPACT_STRINGS" "Z" (.int cs)) (S_HEX_DIGITS : Sta Z h0 "com/example/presplit/presplit/escape/BinaryEscape" "HEX_DIGITS" "[C" (.ref ha)) (V_ha : Arv Z h0 ha kh .char (16 : Int32) own_hexL (.int (0 : Int32))), MetFree l (⟨"com/example/presplit/presplit/escape/BinaryEscape", "encode", "([B)Ljava/lang/String;"⟩ : MethodName) (head1 (Jvm.Cond.code (⟨"com/example/presplit/presplit/escape/BinaryEscape", "encode", "([B)Ljava/lang/String;"⟩ : MethodName) prog_1_method_2_code 7 (some (.object "java/lang/String")) :: ws) ({ frames := 9, cells := 6, slots := 70, locals := 180 } : Room)) (fun a U => a = #[(.ref a1)] ∧ Z.Warmed39 U.vm ∧ U.heap = h0) (fun _ _ _ _ _ => True) (fun _ U o U' => ∃ v L, o = .returned v ∧ Q_enc Z zr lr h0 n0 v U'.heap L ∧ FrameEnd U o U' L ({ frames := 9, cells := 6, slots := 70, locals := 180 } : Room).cells ({ frames := 9, cells := 6, slots := 70, locals := 180 } : Room).slots)
def Q_law2 (Z : State) (p1 p2 p3 p4 : Int32) (ha : Addr) (kh : ClassId) (cs : Int32) (sf : Value) (zr : Int32) (lr : List Value) (q1 q2 q3 : Int32) (h0 : Heap) (n0 : Nat) (v : Option Value) (h : Heap) (L : List Loc) : Prop := v = some (.int (1 : Int32)) ∧ Fr n0 L
set_option maxRecDepth 65536 in
set_option maxHeartbeats 40000000 in
theorem rm0_2 (l : Launch) (Z : State) (a0 : Array Value) (hw : ∀ d ∈ tables_1, d.before a0 Z = true) (ws : List Jvm.Cond) (p1 p2 p3 p4 : Int32) (ha : Addr) (kh : ClassId) (cs : Int32) (sf : Value) (zr : Int32) (lr : List Value) (q1 q2 q3 : Int32) (h0 : Heap) (n0 : Nat) (Z0 : n0 ≤ h0.size) (S_HEX_DIGITS : Sta Z h0 "com/example/presplit/presplit/escape/BinaryEscape" "HEX_DIGITS" "[C" (.ref ha)) (V_ha : Arv Z h0 ha kh .char (16 : Int32) own_hexL (.int (0 : Int32))) (S_COMPACT_STRINGS : Sta Z h0 "java/lang/String" "COMPACT_STRINGS" "Z" (.int cs)) (S_SIOOBE_FORMATTER : Sta Z h0 "jdk/internal/util/Preconditions" "SIOOBE_FORMATTER" "Ljava/util/function/BiFunction;" sf) (hlen : (p4 &&& (3 : Int32)) = (2 : Int32)) (hE : own_Enc2 cs (nar .byte (p1.toInt8.toInt32)) (nar .byte (p2.toInt8.toInt32)) zr lr) (hc_q6 : ¬ (cs = (0 : Int32))) (hc_q7 : sf = .null ∨ ∃ a, sf = .ref a) (hc_q8 : own_StH zr lr (0 : Int32) (p1 &&& (255 : Int32)) q1) (hc_q9 : ¬ (q1 < (0 : Int32))) (hc_q11 : own_StH zr lr q1 (p2 &&& (255 : Int32)) q2) (hc_q12 : ¬ (q2 < (0 : Int32))) (hc_q14 : q2 = (zr >>> ((0 : Int32) &&& 31))) :
    MetFree l x (head1 (Jvm.Cond.code x code maxLocals ret :: ws) room_1) (fun a U => a = #[(.int p1), (.int p2), (.int p3), (.int p4)] ∧ Z.Warmed39 U.vm ∧ U.heap = h0) (fun _ _ _ _ _ => True) (fun _ U o U' => ∃ v L, o = .returned v ∧ Q_law2 Z p1 p2 p3 p4 ha kh cs sf zr lr q1 q2 q3 h0 n0 v U'.heap L ∧ FrameEnd U o U' L room_1.cells room_1.slots) := by
  refine MetFree.of_bodySF (plainFor_of_name pn_0) hisR ?_
  intro p e s m args below meth c s₁ Bd hml0 hP hK
  obtain ⟨rfl, hZ, hh⟩ := hP
  have hx := Bd.exec
  have hby := Bd.bytes
  have hml : c.maxLocals = 8 := hml0
  have hown : s.vm.findClass "com/example/presplit/presplit/escape/BinaryEscapeEncodePinLaw" = some m.cls := findClass_of_methodNamed Bd.named
  have hnm := (name_of_methodNamed Bd.named Bd.method).1
  have X0 : Stand p l e room_1 s m #[(.int p1), (.int p2), (.int p3), (.int p4)] below meth c s₁ [] 0 0 := Stand.of_body Bd
  have e0 : s₁.heap = h0 := by rw [← hh, Bd.state]; rfl
  have N0 := Fr.nil n0
  have pre0 : ∀ t, Steps p.tables e below (s₁.setTop (mkF m 0 #[.val (.int p1), .val (.int p2), .val (.int p3), .val (.int p4), .unset, .unset, .unset, .unset] [])) t → Steps p.tables e below (s₁.setTop (entryFrame m #[(.int p1), (.int p2), (.int p3), (.int p4)] maxLocals)) t := fun t k => castTop (ef_0 m p1 p2 p3 p4) k
  have K0 : Keep h0 h0 [] := Keep.refl _ _
  obtain ⟨T_q1, h_q1, k_q1, X_q1, e_q1, E_q1, A_q1, EX_q1, st_q1⟩ := newPE X0 hx hZ (own_w hw 0 rfl) e0 (g := (mkF m 7 #[.val (.int p1), .val (.int p2), .val (.int p3), .val (.int p4), .val (.int (2 : Int32)), .unset, .unset, .unset] [(.int (2 : Int32))])) rfl (hb hby at_7) rfl (by decide) (cap := 2) (by decide) (by decide) (by decide) (by decide) (ad := "[B") (by decide)
  obtain ⟨b_q1, g_q1⟩ : ∃ z, z = h0.size := ⟨_, rfl⟩
  rw [← g_q1] at A_q1 EX_q1 st_q1
  have ne_ha_b_q1 : ha ≠ b_q1 := Nat.ne_of_lt (Nat.lt_of_lt_of_le V_ha.lt (Nat.le_of_eq g_q1.symm))
  have ge_b_q1 : n0 ≤ b_q1 := Nat.le_trans (Nat.le_trans Z0 K0.1) (Nat.le_of_eq g_q1.symm)
  have sz_b_q1 : h0.size ≤ b_q1 := Nat.le_trans K0.1 (Nat.le_of_eq g_q1.symm)
  have K_q1 : Keep h0 h_q1 [] := K0.ext E_q1
  have S_HEX_DIGITS__q1 := S_HEX_DIGITS.ext E_q1
  have V_ha__q1 := V_ha.ext E_q1
  have S_COMPACT_STRINGS__q1 := S_COMPACT_STRINGS.ext E_q1
  have S_SIOOBE_FORMATTER__q1 := S_SIOOBE_FORMATTER.ext E_q1
  have V_b_q1 : Arv Z h_q1 b_q1 k_q1 .byte (2 : Int32) [(.int (0 : Int32)), (.int (0 : Int32))] (.int (0 : Int32)) := (Arv.new A_q1 (by decide)).pad (pad_rep [] (.int (0 : Int32)) 2)
  obtain ⟨cl_q2, Ar_q2, qk_q2, S_q2, Nn_q2, H_q2, G_q2⟩ := id V_b_q1
  have hin_q2 : ¬ ((0 : Int32) < 0 ∨ cl_q2.slots.size ≤ ((0 : Int32)).toNatClampNeg) := inb_of S_q2 ⟨by decide, by decide⟩
  obtain ⟨T_q2, h_q2, X_q2, e_q2, W_q2, st_q2⟩ := stB X_q1 hx hZ e_q1 Ar_q2 (j := (0 : Int32)) hin_q2 (g := (mkF m 21 #[.val (.int p1), .val (.int p2), .val (.int p3), .val (.int p4), .val (.int (2 : Int32)), .val (.ref b_q1), .unset, .unset] [(.int (p1.toInt8.toInt32)), (.int (0 : Int32)), (.ref b_q1)])) rfl rfl (hb hby at_21)
  have S_HEX_DIGITS__q2 := S_HEX_DIGITS__q1.wr W_q2
  have V_ha__q2 := V_ha__q1.other W_q2 ne_ha_b_q1
  have S_COMPACT_STRINGS__q2 := S_COMPACT_STRINGS__q1.wr W_q2
  have S_SIOOBE_FORMATTER__q2 := S_SIOOBE_FORMATTER__q1.wr W_q2
  have V_b_q1__q2 : Arv Z h_q2 b_q1 k_q1 .byte (2 : Int32) [(.int (nar .byte (p1.toInt8.toInt32))), (.int (0 : Int32))] (.int (0 : Int32)) := Arv.set Ar_q2 qk_q2 S_q2 Nn_q2 H_q2 G_q2 (fits_nar_byte _) W_q2 0 rfl (Nat.le_of_ble_eq_true rfl)
  have K_q2 : Keep h0 h_q2 [] := K_q1.wr W_q2 (Or.inr sz_b_q1)
  have N_q2 := Fr.snoc X_q2 N0 ge_b_q1
  obtain ⟨cl_q3, Ar_q3, qk_q3, S_q3, Nn_q3, H_q3, G_q3⟩ := id V_b_q1__q2
  have hin_q3 : ¬ ((1 : Int32) < 0 ∨ cl_q3.slots.size ≤ ((1 : Int32)).toNatClampNeg) := inb_of S_q3 ⟨by decide, by decide⟩
  obtain ⟨T_q3, h_q3, X_q3, e_q3, W_q3, st_q3⟩ := stB X_q2 hx hZ e_q2 Ar_q3 (j := (1 : Int32)) hin_q3 (g := (mkF m 33 #[.val (.int p1), .val (.int p2), .val (.int p3), .val (.int p4), .val (.int (2 : Int32)), .val (.ref b_q1), .unset, .unset] [(.int (p2.toInt8.toInt32)), (.int (1 : Int32)), (.ref b_q1)])) rfl rfl (hb hby at_33)
  have S_HEX_DIGITS__q3 := S_HEX_DIGITS__q2.wr W_q3
  have V_ha__q3 := V_ha__q2.other W_q3 ne_ha_b_q1
  have S_COMPACT_STRINGS__q3 := S_COMPACT_STRINGS__q2.wr W_q3
  have S_SIOOBE_FORMATTER__q3 := S_SIOOBE_FORMATTER__q2.wr W_q3
  have V_b_q1__q3 : Arv Z h_q3 b_q1 k_q1 .byte (2 : Int32) [(.int (nar .byte (p1.toInt8.toInt32))), (.int (nar .byte (p2.toInt8.toInt32)))] (.int (0 : Int32)) := Arv.set Ar_q3 qk_q3 S_q3 Nn_q3 H_q3 G_q3 (fits_nar_byte _) W_q3 1 rfl (Nat.le_of_ble_eq_true rfl)
  have K_q3 : Keep h0 h_q3 [] := K_q2.wr W_q3 (Or.inr sz_b_q1)
  have N_q3 := Fr.snoc X_q3 N_q2 ge_b_q1
  obtain ⟨_, _, ⟨T_q4, L_q4, k_q4, n_q4⟩, -, X_q4, ⟨Lc_q4, hQ_q4, l_q4, y_q4, z_q4⟩, st_q4⟩ := Jvm.LawKit.callS X_q3 hx (y := (⟨"com/example/presplit/presplit/escape/BinaryEscape", "encode", "([B)Ljava/lang/String;"⟩ : MethodName)) hown (mvT hZ (own_w hw 1 rfl)) (mvT hZ (own_w hw 2 rfl)) (mvT hZ (own_w hw 3 rfl)) (mvT hZ (own_w hw 4 rfl)) (by decide) (backOf (W := 0) (hE l Z a0 hw [] b_q1 ha k_q1 kh h_q3 n0 (Nat.le_trans Z0 K_q3.1) V_b_q1__q3 S_COMPACT_STRINGS__q3 S_HEX_DIGITS__q3 V_ha__q3) hZ (own_w hw 4 rfl) (own_w hw 3 rfl) (by decide) (by decide)) (g := (mkF m 48 #[.val (.int p1), .val (.int p2), .val (.int p3), .val (.int p4), .val (.int (2 : Int32)), .val (.ref b_q1), .unset, .unset] [(.ref b_q1)])) rfl (by rw [hml]; rfl) (argsL := [(.ref b_q1)]) (rest := []) (lenOf pd___B_Ljava_lang_String_ rfl) rfl (by show 2 * 0 + _ ≤ _; exact Nat.le_of_eq rfl) (hb hby at_48) (fun _ _ => ⟨rfl, e_q3, (by decide : 1 + 6 ≤ _), (by decide : 2 + 70 ≤ _)⟩)
  dsimp only [Pt.U, Pt.locs, Pt.cells, Pt.slots] at X_q4 l_q4 y_q4 z_q4 st_q4 hQ_q4
  subst l_q4 y_q4 z_q4
  obtain ⟨r1_q4, r2_q4, kr2_q4, rfl, Nq_q4, Kq_q4, sz0_r1_q4, sz0_r2_q4, O0_q4, O1_q4, O2_q4, O3_q4⟩ := hQ_q4
  have N_q4 := Fr.app N_q3 Nq_q4
  have S_COMPACT_STRINGS__q4 := own_sta_keep S_COMPACT_STRINGS__q3 Kq_q4 all0
  have S_SIOOBE_FORMATTER__q4 := own_sta_keep S_SIOOBE_FORMATTER__q3 Kq_q4 all0
  have K_q4 : Keep h0 T_q4.heap [] := K_q3.trans Kq_q4 all0
  obtain ⟨_, _, ⟨T_q5, L_q5, k_q5, n_q5⟩, -, X_q5, ⟨Lc_q5, hQ_q5, l_q5, y_q5, z_q5⟩, st_q5⟩ := Jvm.LawKit.callS X_q4 hx (y := (⟨"com/example/presplit/presplit/escape/BinaryEscapeEncodePinLaw", "step", "(Ljava/lang/String;II)I"⟩ : MethodName)) hown (mvT hZ (own_w hw 125 rfl)) (mvT hZ (own_w hw 126 rfl)) (mvT hZ (own_w hw 127 rfl)) (mvT hZ (own_w hw 128 rfl)) (by decide) (backOf (W := 0) (rmSt l Z a0 hw [] r1_q4 cs r2_q4 kr2_q4 zr lr sf (0 : Int32) (p1 &&& (255 : Int32)) q1 T_q4.heap n0 (Nat.le_trans Z0 K_q4.1) O0_q4 O1_q4 O2_q4 O3_q4 S_COMPACT_STRINGS__q4 S_SIOOBE_FORMATTER__q4 hc_q6 hc_q7 hc_q8) hZ (own_w hw 128 rfl) (own_w hw 127 rfl) (by decide) (by decide)) (g := (mkF m 70 #[.val (.int p1), .val (.int p2), .val (.int p3), .val (.int p4), .val (.int (2 : Int32)), .val (.ref b_q1), .val (.ref r1_q4), .val (.int (0 : Int32))] [(.int (p1 &&& (255 : Int32))), (.int (0 : Int32)), (.ref r1_q4)])) rfl (by rw [hml]; rfl) (argsL := [(.ref r1_q4), (.int (0 : Int32)), (.int (p1 &&& (255 : Int32)))]) (rest := []) (lenOf pd__Ljava_lang_String_II_I rfl) rfl (by show 2 * 0 + _ ≤ _; exact Nat.le_of_eq rfl) (hb hby at_70) (fun _ _ => ⟨rfl, rfl, (by decide : 7 + 0 ≤ _), (by decide : 72 + 0 ≤ _)⟩)
  dsimp only [Pt.U, Pt.locs, Pt.cells, Pt.slots] at X_q5 l_q5 y_q5 z_q5 st_q5 hQ_q5
  subst l_q5 y_q5 z_q5
  obtain ⟨rfl, Nq_q5, eq_q5⟩ := hQ_q5
  have Kq_q5 : Keep T_q4.heap T_q5.heap [] := by rw [eq_q5]; exact Keep.refl _ _
  have N_q5 := Fr.app N_q4 Nq_q5
  have S_COMPACT_STRINGS__q5 := own_sta_keep S_COMPACT_STRINGS__q4 Kq_q5 all0
  have S_SIOOBE_FORMATTER__q5 := own_sta_keep S_SIOOBE_FORMATTER__q4 Kq_q5 all0
  have O0_q4__q5 := O0_q4.keep Kq_q5
  have O1_q4__q5 := O1_q4.keep Kq_q5 nin0
  have O2_q4__q5 := O2_q4.keep Kq_q5 nin0
  have O3_q4__q5 := O3_q4.keep Kq_q5 nin0
  have K_q5 : Keep h0 T_q5.heap [] := K_q4.trans Kq_q5 all0
  obtain ⟨_, _, ⟨T_q10, L_q10, k_q10, n_q10⟩, -, X_q10, ⟨Lc_q10, hQ_q10, l_q10, y_q10, z_q10⟩, st_q10⟩ := Jvm.LawKit.callS X_q5 hx (y := (⟨"com/example/presplit/presplit/escape/BinaryEscapeEncodePinLaw", "step", "(Ljava/lang/String;II)I"⟩ : MethodName)) hown (mvT hZ (own_w hw 125 rfl)) (mvT hZ (own_w hw 126 rfl)) (mvT hZ (own_w hw 127 rfl)) (mvT hZ (own_w hw 128 rfl)) (by decide) (backOf (W := 0) (rmSt l Z a0 hw [] r1_q4 cs r2_q4 kr2_q4 zr lr sf q1 (p2 &&& (255 : Int32)) q2 T_q5.heap n0 (Nat.le_trans Z0 K_q5.1) O0_q4__q5 O1_q4__q5 O2_q4__q5 O3_q4__q5 S_COMPACT_STRINGS__q5 S_SIOOBE_FORMATTER__q5 hc_q6 hc_q7 hc_q11) hZ (own_w hw 128 rfl) (own_w hw 127 rfl) (by decide) (by decide)) (g := (mkF m 97 #[.val (.int p1), .val (.int p2), .val (.int p3), .val (.int p4), .val (.int (2 : Int32)), .val (.ref b_q1), .val (.ref r1_q4), .val (.int q1)] [(.int (p2 &&& (255 : Int32))), (.int q1), (.ref r1_q4)])) rfl (by rw [hml]; rfl) (argsL := [(.ref r1_q4), (.int q1), (.int (p2 &&& (255 : Int32)))]) (rest := []) (lenOf pd__Ljava_lang_String_II_I rfl) rfl (by show 2 * 0 + _ ≤ _; exact Nat.le_of_eq rfl) (hb hby at_97) (fun _ _ => ⟨rfl, rfl, (by decide : 7 + 0 ≤ _), (by decide : 72 + 0 ≤ _)⟩)
  dsimp only [Pt.U, Pt.locs, Pt.cells, Pt.slots] at X_q10 l_q10 y_q10 z_q10 st_q10 hQ_q10
  subst l_q10 y_q10 z_q10
  obtain ⟨rfl, Nq_q10, eq_q10⟩ := hQ_q10
  have Kq_q10 : Keep T_q5.heap T_q10.heap [] := by rw [eq_q10]; exact Keep.refl _ _
  have N_q10 := Fr.app N_q5 Nq_q10
  have S_COMPACT_STRINGS__q10 := own_sta_keep S_COMPACT_STRINGS__q5 Kq_q10 all0
  have O0_q4__q10 := O0_q4__q5.keep Kq_q10
  have O1_q4__q10 := O1_q4__q5.keep Kq_q10 nin0
  have O2_q4__q10 := O2_q4__q5.keep Kq_q10 nin0
  have O3_q4__q10 := O3_q4__q5.keep Kq_q10 nin0
  have K_q10 : Keep h0 T_q10.heap [] := K_q5.trans Kq_q10 all0
  obtain ⟨cq_q13, kq_q13, qa_q13, qb_q13, qc_q13⟩ := isOf hZ rfl O0_q4__q10
  obtain ⟨_, _, ⟨T_q13, L_q13, k_q13, n_q13⟩, -, X_q13, ⟨Lc_q13, hQ_q13, l_q13, y_q13, z_q13⟩, st_q13⟩ := X_q10.virtualBack hx (y := (⟨"java/lang/String", "length", "()I"⟩ : MethodName)) (z := (⟨"java/lang/String", "length", "()I"⟩ : MethodName)) hown (mvT hZ (own_w hw 129 rfl)) (mvT hZ (own_w hw 130 rfl)) (notFace_of_selects (args := #[]) (mvT hZ (own_w hw 132 rfl))) (mvT hZ (own_w hw 132 rfl)) (mvT hZ (own_w hw 131 rfl)) (by decide) (backOf (W := 1) (rmLn l Z a0 hw [] r1_q4 r2_q4 kr2_q4 zr lr cs T_q10.heap n0 (Nat.le_trans Z0 K_q10.1) O0_q4__q10 O1_q4__q10 O2_q4__q10 O3_q4__q10 S_COMPACT_STRINGS__q10 hc_q6) hZ (own_w hw 133 rfl) (own_w hw 21 rfl) (by decide) (by decide)) qa_q13 qc_q13 (g := (mkF m 140 #[.val (.int p1), .val (.int p2), .val (.int p3), .val (.int p4), .val (.int (2 : Int32)), .val (.ref b_q1), .val (.ref r1_q4), .val (.int q2)] [(.ref r1_q4), (.int q2)])) rfl (by rw [hml]; rfl) (Steps.refl _) (argsL := []) (rest := [(.int q2)]) (lenOf pd___I rfl) rfl (by show 2 * 0 + _ ≤ _; exact Nat.le_of_eq rfl) (hb hby at_140) (fun _ _ => ⟨rfl, rfl, (by decide : 7 + 0 ≤ _), (by decide : 72 + 0 ≤ _)⟩)
  dsimp only [Pt.U, Pt.locs, Pt.cells, Pt.slots] at X_q13 l_q13 y_q13 z_q13 st_q13 hQ_q13
  subst l_q13 y_q13 z_q13
  obtain ⟨rfl, Nq_q13, eq_q13⟩ := hQ_q13
  have N_q13 := Fr.app N_q10 Nq_q13
  obtain ⟨fs, hr, hrun, hended, hW, hsame⟩ := X_q13.leave (v := some (.int (1 : Int32))) (fun h => by rw [Bd.returns] at h; cases h) Bd.notSynchronized
  refine ⟨_, _, pre0 _ ?_, hrun, hended, _, _, rfl, ?_, ⟨_, rfl⟩, hW, hsame.mono (by decide) (by decide)⟩
  · show Steps p.tables e below (s₁.setTop (mkF m 0 #[.val (.int p1), .val (.int p2), .val (.int p3), .val (.int p4), .unset, .unset, .unset, .unset] [])) _
    refine XS.iloadN X0.here hx rfl (hb hby at_0) rfl ?_
    refine XS.iconst X0.here hx rfl (hb hby at_1) ?_
    refine XS.iand X0.here hx rfl (hb hby at_2) rfl ?_
    show Steps p.tables e below (s₁.setTop (mkF m 3 #[.val (.int p1), .val (.int p2), .val (.int p3), .val (.int p4), .unset, .unset, .unset, .unset] [(.int (p4 &&& (3 : Int32)))])) _
    rw [hlen]
    refine XS.istore X0.here hx rfl (hb hby at_3) rfl (l' := #[.val (.int p1), .val (.int p2), .val (.int p3), .val (.int p4), .val (.int (2 : Int32)), .unset, .unset, .unset]) rfl ?_
    refine XS.iload X0.here hx rfl (hb hby at_5) rfl ?_
    show Steps p.tables e below (s₁.setTop (mkF m 7 #[.val (.int p1), .val (.int p2), .val (.int p3), .val (.int p4), .val (.int (2 : Int32)), .unset, .unset, .unset] [(.int (2 : Int32))])) _
    refine st_q1 _ ?_
    refine XS.astore X_q1.here hx rfl (hb hby at_9) rfl rfl (l' := #[.val (.int p1), .val (.int p2), .val (.int p3), .val (.int p4), .val (.int (2 : Int32)), .val (.ref b_q1), .unset, .unset]) rfl ?_
    refine XS.iload X_q1.here hx rfl (hb hby at_11) rfl ?_
    refine XS.ifNo X_q1.here hx rfl (hb hby at_13) rfl ((if0 _ _).trans (tlt (by decide : (0 : Int32) < (2 : Int32))).2.2.2) ?_
    show Steps p.tables e below (T_q1.setTop (mkF m 16 #[.val (.int p1), .val (.int p2), .val (.int p3), .val (.int p4), .val (.int (2 : Int32)), .val (.ref b_q1), .unset, .unset] [])) _
    refine XS.aload X_q1.here hx rfl (hb hby at_16) rfl rfl ?_
    refine XS.iconst X_q1.here hx rfl (hb hby at_18) ?_
    refine XS.iloadN X_q1.here hx rfl (hb hby at_19) rfl ?_
    refine XS.i2b X_q1.here hx rfl (hb hby at_20) rfl ?_
    show Steps p.tables e below (T_q1.setTop (mkF m 21 #[.val (.int p1), .val (.int p2), .val (.int p3), .val (.int p4), .val (.int (2 : Int32)), .val (.ref b_q1), .unset, .unset] [(.int (p1.toInt8.toInt32)), (.int (0 : Int32)), (.ref b_q1)])) _
    refine st_q2 _ ?_
    refine XS.iload X_q2.here hx rfl (hb hby at_22) rfl ?_
    refine XS.iconst X_q2.here hx rfl (hb hby at_24) ?_
    refine XS.icmpNo X_q2.here hx rfl (hb hby at_25) rfl (tlt (by decide : (1 : Int32) < (2 : Int32))).2.2.2 ?_
    show Steps p.tables e below (T_q2.setTop (mkF m 28 #[.val (.int p1), .val (.int p2), .val (.int p3), .val (.int p4), .val (.int (2 : Int32)), .val (.ref b_q1), .unset, .unset] [])) _
    refine XS.aload X_q2.here hx rfl (hb hby at_28) rfl rfl ?_
    refine XS.iconst X_q2.here hx rfl (hb hby at_30) ?_
    refine XS.iloadN X_q2.here hx rfl (hb hby at_31) rfl ?_
    refine XS.i2b X_q2.here hx rfl (hb hby at_32) rfl ?_
    show Steps p.tables e below (T_q2.setTop (mkF m 33 #[.val (.int p1), .val (.int p2), .val (.int p3), .val (.int p4), .val (.int (2 : Int32)), .val (.ref b_q1), .unset, .unset] [(.int (p2.toInt8.toInt32)), (.int (1 : Int32)), (.ref b_q1)])) _
    refine st_q3 _ ?_
    refine XS.iload X_q3.here hx rfl (hb hby at_34) rfl ?_
    refine XS.iconst X_q3.here hx rfl (hb hby at_36) ?_
    refine XS.icmpYes X_q3.here hx rfl (pc0 := 37) (pc' := 46) rfl (hb hby at_37) rfl (flt (by decide : ¬ ((2 : Int32) < (2 : Int32)))).2.2.2 (by decide) (by decide) ?_
    show Steps p.tables e below (T_q3.setTop (mkF m 46 #[.val (.int p1), .val (.int p2), .val (.int p3), .val (.int p4), .val (.int (2 : Int32)), .val (.ref b_q1), .unset, .unset] [])) _
    refine XS.aload X_q3.here hx rfl (hb hby at_46) rfl rfl ?_
    show Steps p.tables e below (T_q3.setTop (mkF m 48 #[.val (.int p1), .val (.int p2), .val (.int p3), .val (.int p4), .val (.int (2 : Int32)), .val (.ref b_q1), .unset, .unset] [(.ref b_q1)])) _
    refine st_q4 _ ?_
    refine XS.astore X_q4.here hx rfl (hb hby at_51) rfl rfl (l' := #[.val (.int p1), .val (.int p2), .val (.int p3), .val (.int p4), .val (.int (2 : Int32)), .val (.ref b_q1), .val (.ref r1_q4), .unset]) rfl ?_
    refine XS.iconst X_q4.here hx rfl (hb hby at_53) ?_
    refine XS.istore X_q4.here hx rfl (hb hby at_54) rfl (l' := #[.val (.int p1), .val (.int p2), .val (.int p3), .val (.int p4), .val (.int (2 : Int32)), .val (.ref b_q1), .val (.ref r1_q4), .val (.int (0 : Int32))]) rfl ?_
    show Steps p.tables e below (T_q4.setTop (mkF m 56 #[.val (.int p1), .val (.int p2), .val (.int p3), .val (.int p4), .val (.int (2 : Int32)), .val (.ref b_q1), .val (.ref r1_q4), .val (.int (0 : Int32))] [])) _
    refine XS.iload X_q4.here hx rfl (hb hby at_56) rfl ?_
    refine XS.ifNo X_q4.here hx rfl (hb hby at_58) rfl ((if0 _ _).trans (tlt (by decide : (0 : Int32) < (2 : Int32))).2.2.2) ?_
    refine XS.aload X_q4.here hx rfl (hb hby at_61) rfl rfl ?_
    refine XS.iload X_q4.here hx rfl (hb hby at_63) rfl ?_
    show Steps p.tables e below (T_q4.setTop (mkF m 65 #[.val (.int p1), .val (.int p2), .val (.int p3), .val (.int p4), .val (.int (2 : Int32)), .val (.ref b_q1), .val (.ref r1_q4), .val (.int (0 : Int32))] [(.int (0 : Int32)), (.ref r1_q4)])) _
    refine XS.iloadN X_q4.here hx rfl (hb hby at_65) rfl ?_
    refine XS.sipush X_q4.here hx rfl (hb hby at_66) ?_
    refine XS.iand X_q4.here hx rfl (hb hby at_69) rfl ?_
    show Steps p.tables e below (T_q4.setTop (mkF m 70 #[.val (.int p1), .val (.int p2), .val (.int p3), .val (.int p4), .val (.int (2 : Int32)), .val (.ref b_q1), .val (.ref r1_q4), .val (.int (0 : Int32))] [(.int (p1 &&& (255 : Int32))), (.int (0 : Int32)), (.ref r1_q4)])) _
    refine st_q5 _ ?_
    refine XS.istore X_q5.here hx rfl (hb hby at_73) rfl (l' := #[.val (.int p1), .val (.int p2), .val (.int p3), .val (.int p4), .val (.int (2 : Int32)), .val (.ref b_q1), .val (.ref r1_q4), .val (.int q1)]) rfl ?_
    refine XS.iload X_q5.here hx rfl (hb hby at_75) rfl ?_
    refine XS.ifYes X_q5.here hx rfl (pc0 := 77) (pc' := 82) rfl (hb hby at_77) rfl ((if0 _ _).trans (flt hc_q9).2.1) (by decide) (by decide) ?_
    show Steps p.tables e below (T_q5.setTop (mkF m 82 #[.val (.int p1), .val (.int p2), .val (.int p3), .val (.int p4), .val (.int (2 : Int32)), .val (.ref b_q1), .val (.ref r1_q4), .val (.int q1)] [])) _
    refine XS.iload X_q5.here hx rfl (hb hby at_82) rfl ?_
    refine XS.iconst X_q5.here hx rfl (hb hby at_84) ?_
    refine XS.icmpNo X_q5.here hx rfl (hb hby at_85) rfl (tlt (by decide : (1 : Int32) < (2 : Int32))).2.2.2 ?_
    refine XS.aload X_q5.here hx rfl (hb hby at_88) rfl rfl ?_
    show Steps p.tables e below (T_q5.setTop (mkF m 90 #[.val (.int p1), .val (.int p2), .val (.int p3), .val (.int p4), .val (.int (2 : Int32)), .val (.ref b_q1), .val (.ref r1_q4), .val (.int q1)] [(.ref r1_q4)])) _
    refine XS.iload X_q5.here hx rfl (hb hby at_90) rfl ?_
    refine XS.iloadN X_q5.here hx rfl (hb hby at_92) rfl ?_
    refine XS.sipush X_q5.here hx rfl (hb hby at_93) ?_
    refine XS.iand X_q5.here hx rfl (hb hby at_96) rfl ?_
    show Steps p.tables e below (T_q5.setTop (mkF m 97 #[.val (.int p1), .val (.int p2), .val (.int p3), .val (.int p4), .val (.int (2 : Int32)), .val (.ref b_q1), .val (.ref r1_q4), .val (.int q1)] [(.int (p2 &&& (255 : Int32))), (.int q1), (.ref r1_q4)])) _
    refine st_q10 _ ?_
    refine XS.istore X_q10.here hx rfl (hb hby at_100) rfl (l' := #[.val (.int p1), .val (.int p2), .val (.int p3), .val (.int p4), .val (.int (2 : Int32)), .val (.ref b_q1), .val (.ref r1_q4), .val (.int q2)]) rfl ?_
    refine XS.iload X_q10.here hx rfl (hb hby at_102) rfl ?_
    refine XS.ifYes X_q10.here hx rfl (pc0 := 104) (pc' := 109) rfl (hb hby at_104) rfl ((if0 _ _).trans (flt hc_q12).2.1) (by decide) (by decide) ?_
    show Steps p.tables e below (T_q10.setTop (mkF m 109 #[.val (.int p1), .val (.int p2), .val (.int p3), .val (.int p4), .val (.int (2 : Int32)), .val (.ref b_q1), .val (.ref r1_q4), .val (.int q2)] [])) _
    refine XS.iload X_q10.here hx rfl (hb hby at_109) rfl ?_
    refine XS.iconst X_q10.here hx rfl (hb hby at_111) ?_
    refine XS.icmpYes X_q10.here hx rfl (pc0 := 112) (pc' := 136) rfl (hb hby at_112) rfl (flt (by decide : ¬ ((2 : Int32) < (2 : Int32)))).2.2.2 (by decide) (by decide) ?_
    refine XS.iload X_q10.here hx rfl (hb hby at_136) rfl ?_
    show Steps p.tables e below (T_q10.setTop (mkF m 138 #[.val (.int p1), .val (.int p2), .val (.int p3), .val (.int p4), .val (.int (2 : Int32)), .val (.ref b_q1), .val (.ref r1_q4), .val (.int q2)] [(.int q2)])) _
    refine XS.aload X_q10.here hx rfl (hb hby at_138) rfl rfl ?_
    show Steps p.tables e below (T_q10.setTop (mkF m 140 #[.val (.int p1), .val (.int p2), .val (.int p3), .val (.int p4), .val (.int (2 : Int32)), .val (.ref b_q1), .val (.ref r1_q4), .val (.int q2)] [(.ref r1_q4), (.int q2)])) _
    refine st_q13.trans ?_
    refine XS.icmpNo X_q13.here hx rfl (hb hby at_143) rfl (teq hc_q14).2 ?_
    refine XS.iconst X_q13.here hx rfl (hb hby at_146) ?_
    refine XS.goto X_q13.here hx rfl (pc0 := 147) (pc' := 151) rfl (hb hby at_147) (by decide) (by decide) ?_
    show Steps p.tables e below (T_q13.setTop (mkF m 151 #[.val (.int p1), .val (.int p2), .val (.int p3), .val (.int p4), .val (.int (2 : Int32)), .val (.ref b_q1), .val (.ref r1_q4), .val (.int q2)] [(.int (1 : Int32))])) _
    exact retN X_q13 hx (t := .boolean) Bd.returns (by simp) (hb hby at_151) hr
  · show Q_law2 Z p1 p2 p3 p4 ha kh cs sf zr lr q1 q2 q3 h0 n0 _ T_q13.heap _
    exact ⟨rfl, N_q13⟩
def own_Enc3 (cs : Int32) (u0 : Int32) (u1 : Int32) (u2 : Int32) (zr : Int32) (lr : List Value) : Prop := ∀ (l : Launch) (Z : State) (a0 : Array Value) (hw : ∀ d ∈ tables_1, d.before a0 Z = true) (ws : List Jvm.Cond) (a1 ha : Addr) (ka kh : ClassId) (h0 : Heap) (n0 : Nat) (Z0 : n0 ≤ h0.size) (V_a1 : Arv Z h0 a1 ka .byte (3 : Int32) [(.int u0), (.int u1), (.int u2)] (.int (0 : Int32))) (S_COMPACT_STRINGS : Sta Z h0 "java/lang/String" "COMPACT_STRINGS" "Z" (.int cs)) (S_HEX_DIGITS : Sta Z h0 "com/example/presplit/presplit/escape/BinaryEscape" "HEX_DIGITS" "[C" (.ref ha)) (V_ha : Arv Z h0 ha kh .char (16 : Int32) own_hexL (.int (0 : Int32))), MetFree l (⟨"com/example/presplit/presplit/escape/BinaryEscape", "encode", "([B)Ljava/lang/String;"⟩ : MethodName) (head1 (Jvm.Cond.code (⟨"com/example/presplit/presplit/escape/BinaryEscape", "encode", "([B)Ljava/lang/String;"⟩ : MethodName) prog_1_method_2_code 7 (some (.object "java/lang/String")) :: ws) ({ frames := 9, cells := 6, slots := 70, locals := 180 } : Room)) (fun a U => a = #[(.ref a1)] ∧ Z.Warmed39 U.vm ∧ U.heap = h0) (fun _ _ _ _ _ => True) (fun _ U o U' => ∃ v L, o = .returned v ∧ Q_enc Z zr lr h0 n0 v U'.heap L ∧ FrameEnd U o U' L ({ frames := 9, cells := 6, slots := 70, locals := 180 } : Room).cells ({ frames := 9, cells := 6, slots := 70, locals := 180 } : Room).slots)
def Q_law3 (Z : State) (p1 p2 p3 p4 : Int32) (ha : Addr) (kh : ClassId) (cs : Int32) (sf : Value) (zr : Int32) (lr : List Value) (q1 q2 q3 : Int32) (h0 : Heap) (n0 : Nat) (v : Option Value) (h : Heap) (L : List Loc) : Prop := v = some (.int (1 : Int32)) ∧ Fr n0 L
set_option maxRecDepth 65536 in
set_option maxHeartbeats 40000000 in
theorem rm0_3 (l : Launch) (Z : State) (a0 : Array Value) (hw : ∀ d ∈ tables_1, d.before a0 Z = true) (ws : List Jvm.Cond) (p1 p2 p3 p4 : Int32) (ha : Addr) (kh : ClassId) (cs : Int32) (sf : Value) (zr : Int32) (lr : List Value) (q1 q2 q3 : Int32) (h0 : Heap) (n0 : Nat) (Z0 : n0 ≤ h0.size) (S_HEX_DIGITS : Sta Z h0 "com/example/presplit/presplit/escape/BinaryEscape" "HEX_DIGITS" "[C" (.ref ha)) (V_ha : Arv Z h0 ha kh .char (16 : Int32) own_hexL (.int (0 : Int32))) (S_COMPACT_STRINGS : Sta Z h0 "java/lang/String" "COMPACT_STRINGS" "Z" (.int cs)) (S_SIOOBE_FORMATTER : Sta Z h0 "jdk/internal/util/Preconditions" "SIOOBE_FORMATTER" "Ljava/util/function/BiFunction;" sf) (hlen : (p4 &&& (3 : Int32)) = (3 : Int32)) (hE : own_Enc3 cs (nar .byte (p1.toInt8.toInt32)) (nar .byte (p2.toInt8.toInt32)) (nar .byte (p3.toInt8.toInt32)) zr lr) (hc_q7 : ¬ (cs = (0 : Int32))) (hc_q8 : sf = .null ∨ ∃ a, sf = .ref a) (hc_q9 : own_StH zr lr (0 : Int32) (p1 &&& (255 : Int32)) q1) (hc_q10 : ¬ (q1 < (0 : Int32))) (hc_q12 : own_StH zr lr q1 (p2 &&& (255 : Int32)) q2) (hc_q13 : ¬ (q2 < (0 : Int32))) (hc_q15 : own_StH zr lr q2 (p3 &&& (255 : Int32)) q3) (hc_q16 : ¬ (q3 < (0 : Int32))) (hc_q18 : q3 = (zr >>> ((0 : Int32) &&& 31))) :
    MetFree l x (head1 (Jvm.Cond.code x code maxLocals ret :: ws) room_1) (fun a U => a = #[(.int p1), (.int p2), (.int p3), (.int p4)] ∧ Z.Warmed39 U.vm ∧ U.heap = h0) (fun _ _ _ _ _ => True) (fun _ U o U' => ∃ v L, o = .returned v ∧ Q_law3 Z p1 p2 p3 p4 ha kh cs sf zr lr q1 q2 q3 h0 n0 v U'.heap L ∧ FrameEnd U o U' L room_1.cells room_1.slots) := by
  refine MetFree.of_bodySF (plainFor_of_name pn_0) hisR ?_
  intro p e s m args below meth c s₁ Bd hml0 hP hK
  obtain ⟨rfl, hZ, hh⟩ := hP
  have hx := Bd.exec
  have hby := Bd.bytes
  have hml : c.maxLocals = 8 := hml0
  have hown : s.vm.findClass "com/example/presplit/presplit/escape/BinaryEscapeEncodePinLaw" = some m.cls := findClass_of_methodNamed Bd.named
  have hnm := (name_of_methodNamed Bd.named Bd.method).1
  have X0 : Stand p l e room_1 s m #[(.int p1), (.int p2), (.int p3), (.int p4)] below meth c s₁ [] 0 0 := Stand.of_body Bd
  have e0 : s₁.heap = h0 := by rw [← hh, Bd.state]; rfl
  have N0 := Fr.nil n0
  have pre0 : ∀ t, Steps p.tables e below (s₁.setTop (mkF m 0 #[.val (.int p1), .val (.int p2), .val (.int p3), .val (.int p4), .unset, .unset, .unset, .unset] [])) t → Steps p.tables e below (s₁.setTop (entryFrame m #[(.int p1), (.int p2), (.int p3), (.int p4)] maxLocals)) t := fun t k => castTop (ef_0 m p1 p2 p3 p4) k
  have K0 : Keep h0 h0 [] := Keep.refl _ _
  obtain ⟨T_q1, h_q1, k_q1, X_q1, e_q1, E_q1, A_q1, EX_q1, st_q1⟩ := newPE X0 hx hZ (own_w hw 0 rfl) e0 (g := (mkF m 7 #[.val (.int p1), .val (.int p2), .val (.int p3), .val (.int p4), .val (.int (3 : Int32)), .unset, .unset, .unset] [(.int (3 : Int32))])) rfl (hb hby at_7) rfl (by decide) (cap := 3) (by decide) (by decide) (by decide) (by decide) (ad := "[B") (by decide)
  obtain ⟨b_q1, g_q1⟩ : ∃ z, z = h0.size := ⟨_, rfl⟩
  rw [← g_q1] at A_q1 EX_q1 st_q1
  have ne_ha_b_q1 : ha ≠ b_q1 := Nat.ne_of_lt (Nat.lt_of_lt_of_le V_ha.lt (Nat.le_of_eq g_q1.symm))
  have ge_b_q1 : n0 ≤ b_q1 := Nat.le_trans (Nat.le_trans Z0 K0.1) (Nat.le_of_eq g_q1.symm)
  have sz_b_q1 : h0.size ≤ b_q1 := Nat.le_trans K0.1 (Nat.le_of_eq g_q1.symm)
  have K_q1 : Keep h0 h_q1 [] := K0.ext E_q1
  have S_HEX_DIGITS__q1 := S_HEX_DIGITS.ext E_q1
  have V_ha__q1 := V_ha.ext E_q1
  have S_COMPACT_STRINGS__q1 := S_COMPACT_STRINGS.ext E_q1
  have S_SIOOBE_FORMATTER__q1 := S_SIOOBE_FORMATTER.ext E_q1
  have V_b_q1 : Arv Z h_q1 b_q1 k_q1 .byte (3 : Int32) [(.int (0 : Int32)), (.int (0 : Int32)), (.int (0 : Int32))] (.int (0 : Int32)) := (Arv.new A_q1 (by decide)).pad (pad_rep [] (.int (0 : Int32)) 3)
  obtain ⟨cl_q2, Ar_q2, qk_q2, S_q2, Nn_q2, H_q2, G_q2⟩ := id V_b_q1
  have hin_q2 : ¬ ((0 : Int32) < 0 ∨ cl_q2.slots.size ≤ ((0 : Int32)).toNatClampNeg) := inb_of S_q2 ⟨by decide, by decide⟩
  obtain ⟨T_q2, h_q2, X_q2, e_q2, W_q2, st_q2⟩ := stB X_q1 hx hZ e_q1 Ar_q2 (j := (0 : Int32)) hin_q2 (g := (mkF m 21 #[.val (.int p1), .val (.int p2), .val (.int p3), .val (.int p4), .val (.int (3 : Int32)), .val (.ref b_q1), .unset, .unset] [(.int (p1.toInt8.toInt32)), (.int (0 : Int32)), (.ref b_q1)])) rfl rfl (hb hby at_21)
  have S_HEX_DIGITS__q2 := S_HEX_DIGITS__q1.wr W_q2
  have V_ha__q2 := V_ha__q1.other W_q2 ne_ha_b_q1
  have S_COMPACT_STRINGS__q2 := S_COMPACT_STRINGS__q1.wr W_q2
  have S_SIOOBE_FORMATTER__q2 := S_SIOOBE_FORMATTER__q1.wr W_q2
  have V_b_q1__q2 : Arv Z h_q2 b_q1 k_q1 .byte (3 : Int32) [(.int (nar .byte (p1.toInt8.toInt32))), (.int (0 : Int32)), (.int (0 : Int32))] (.int (0 : Int32)) := Arv.set Ar_q2 qk_q2 S_q2 Nn_q2 H_q2 G_q2 (fits_nar_byte _) W_q2 0 rfl (Nat.le_of_ble_eq_true rfl)
  have K_q2 : Keep h0 h_q2 [] := K_q1.wr W_q2 (Or.inr sz_b_q1)
  have N_q2 := Fr.snoc X_q2 N0 ge_b_q1
  obtain ⟨cl_q3, Ar_q3, qk_q3, S_q3, Nn_q3, H_q3, G_q3⟩ := id V_b_q1__q2
  have hin_q3 : ¬ ((1 : Int32) < 0 ∨ cl_q3.slots.size ≤ ((1 : Int32)).toNatClampNeg) := inb_of S_q3 ⟨by decide, by decide⟩
  obtain ⟨T_q3, h_q3, X_q3, e_q3, W_q3, st_q3⟩ := stB X_q2 hx hZ e_q2 Ar_q3 (j := (1 : Int32)) hin_q3 (g := (mkF m 33 #[.val (.int p1), .val (.int p2), .val (.int p3), .val (.int p4), .val (.int (3 : Int32)), .val (.ref b_q1), .unset, .unset] [(.int (p2.toInt8.toInt32)), (.int (1 : Int32)), (.ref b_q1)])) rfl rfl (hb hby at_33)
  have S_HEX_DIGITS__q3 := S_HEX_DIGITS__q2.wr W_q3
  have V_ha__q3 := V_ha__q2.other W_q3 ne_ha_b_q1
  have S_COMPACT_STRINGS__q3 := S_COMPACT_STRINGS__q2.wr W_q3
  have S_SIOOBE_FORMATTER__q3 := S_SIOOBE_FORMATTER__q2.wr W_q3
  have V_b_q1__q3 : Arv Z h_q3 b_q1 k_q1 .byte (3 : Int32) [(.int (nar .byte (p1.toInt8.toInt32))), (.int (nar .byte (p2.toInt8.toInt32))), (.int (0 : Int32))] (.int (0 : Int32)) := Arv.set Ar_q3 qk_q3 S_q3 Nn_q3 H_q3 G_q3 (fits_nar_byte _) W_q3 1 rfl (Nat.le_of_ble_eq_true rfl)
  have K_q3 : Keep h0 h_q3 [] := K_q2.wr W_q3 (Or.inr sz_b_q1)
  have N_q3 := Fr.snoc X_q3 N_q2 ge_b_q1
  obtain ⟨cl_q4, Ar_q4, qk_q4, S_q4, Nn_q4, H_q4, G_q4⟩ := id V_b_q1__q3
  have hin_q4 : ¬ ((2 : Int32) < 0 ∨ cl_q4.slots.size ≤ ((2 : Int32)).toNatClampNeg) := inb_of S_q4 ⟨by decide, by decide⟩
  obtain ⟨T_q4, h_q4, X_q4, e_q4, W_q4, st_q4⟩ := stB X_q3 hx hZ e_q3 Ar_q4 (j := (2 : Int32)) hin_q4 (g := (mkF m 45 #[.val (.int p1), .val (.int p2), .val (.int p3), .val (.int p4), .val (.int (3 : Int32)), .val (.ref b_q1), .unset, .unset] [(.int (p3.toInt8.toInt32)), (.int (2 : Int32)), (.ref b_q1)])) rfl rfl (hb hby at_45)
  have S_HEX_DIGITS__q4 := S_HEX_DIGITS__q3.wr W_q4
  have V_ha__q4 := V_ha__q3.other W_q4 ne_ha_b_q1
  have S_COMPACT_STRINGS__q4 := S_COMPACT_STRINGS__q3.wr W_q4
  have S_SIOOBE_FORMATTER__q4 := S_SIOOBE_FORMATTER__q3.wr W_q4
  have V_b_q1__q4 : Arv Z h_q4 b_q1 k_q1 .byte (3 : Int32) [(.int (nar .byte (p1.toInt8.toInt32))), (.int (nar .byte (p2.toInt8.toInt32))), (.int (nar .byte (p3.toInt8.toInt32)))] (.int (0 : Int32)) := Arv.set Ar_q4 qk_q4 S_q4 Nn_q4 H_q4 G_q4 (fits_nar_byte _) W_q4 2 rfl (Nat.le_of_ble_eq_true rfl)
  have K_q4 : Keep h0 h_q4 [] := K_q3.wr W_q4 (Or.inr sz_b_q1)
  have N_q4 := Fr.snoc X_q4 N_q3 ge_b_q1
  obtain ⟨_, _, ⟨T_q5, L_q5, k_q5, n_q5⟩, -, X_q5, ⟨Lc_q5, hQ_q5, l_q5, y_q5, z_q5⟩, st_q5⟩ := Jvm.LawKit.callS X_q4 hx (y := (⟨"com/example/presplit/presplit/escape/BinaryEscape", "encode", "([B)Ljava/lang/String;"⟩ : MethodName)) hown (mvT hZ (own_w hw 1 rfl)) (mvT hZ (own_w hw 2 rfl)) (mvT hZ (own_w hw 3 rfl)) (mvT hZ (own_w hw 4 rfl)) (by decide) (backOf (W := 0) (hE l Z a0 hw [] b_q1 ha k_q1 kh h_q4 n0 (Nat.le_trans Z0 K_q4.1) V_b_q1__q4 S_COMPACT_STRINGS__q4 S_HEX_DIGITS__q4 V_ha__q4) hZ (own_w hw 4 rfl) (own_w hw 3 rfl) (by decide) (by decide)) (g := (mkF m 48 #[.val (.int p1), .val (.int p2), .val (.int p3), .val (.int p4), .val (.int (3 : Int32)), .val (.ref b_q1), .unset, .unset] [(.ref b_q1)])) rfl (by rw [hml]; rfl) (argsL := [(.ref b_q1)]) (rest := []) (lenOf pd___B_Ljava_lang_String_ rfl) rfl (by show 2 * 0 + _ ≤ _; exact Nat.le_of_eq rfl) (hb hby at_48) (fun _ _ => ⟨rfl, e_q4, (by decide : 1 + 6 ≤ _), (by decide : 3 + 70 ≤ _)⟩)
  dsimp only [Pt.U, Pt.locs, Pt.cells, Pt.slots] at X_q5 l_q5 y_q5 z_q5 st_q5 hQ_q5
  subst l_q5 y_q5 z_q5
  obtain ⟨r1_q5, r2_q5, kr2_q5, rfl, Nq_q5, Kq_q5, sz0_r1_q5, sz0_r2_q5, O0_q5, O1_q5, O2_q5, O3_q5⟩ := hQ_q5
  have N_q5 := Fr.app N_q4 Nq_q5
  have S_COMPACT_STRINGS__q5 := own_sta_keep S_COMPACT_STRINGS__q4 Kq_q5 all0
  have S_SIOOBE_FORMATTER__q5 := own_sta_keep S_SIOOBE_FORMATTER__q4 Kq_q5 all0
  have K_q5 : Keep h0 T_q5.heap [] := K_q4.trans Kq_q5 all0
  obtain ⟨_, _, ⟨T_q6, L_q6, k_q6, n_q6⟩, -, X_q6, ⟨Lc_q6, hQ_q6, l_q6, y_q6, z_q6⟩, st_q6⟩ := Jvm.LawKit.callS X_q5 hx (y := (⟨"com/example/presplit/presplit/escape/BinaryEscapeEncodePinLaw", "step", "(Ljava/lang/String;II)I"⟩ : MethodName)) hown (mvT hZ (own_w hw 125 rfl)) (mvT hZ (own_w hw 126 rfl)) (mvT hZ (own_w hw 127 rfl)) (mvT hZ (own_w hw 128 rfl)) (by decide) (backOf (W := 0) (rmSt l Z a0 hw [] r1_q5 cs r2_q5 kr2_q5 zr lr sf (0 : Int32) (p1 &&& (255 : Int32)) q1 T_q5.heap n0 (Nat.le_trans Z0 K_q5.1) O0_q5 O1_q5 O2_q5 O3_q5 S_COMPACT_STRINGS__q5 S_SIOOBE_FORMATTER__q5 hc_q7 hc_q8 hc_q9) hZ (own_w hw 128 rfl) (own_w hw 127 rfl) (by decide) (by decide)) (g := (mkF m 70 #[.val (.int p1), .val (.int p2), .val (.int p3), .val (.int p4), .val (.int (3 : Int32)), .val (.ref b_q1), .val (.ref r1_q5), .val (.int (0 : Int32))] [(.int (p1 &&& (255 : Int32))), (.int (0 : Int32)), (.ref r1_q5)])) rfl (by rw [hml]; rfl) (argsL := [(.ref r1_q5), (.int (0 : Int32)), (.int (p1 &&& (255 : Int32)))]) (rest := []) (lenOf pd__Ljava_lang_String_II_I rfl) rfl (by show 2 * 0 + _ ≤ _; exact Nat.le_of_eq rfl) (hb hby at_70) (fun _ _ => ⟨rfl, rfl, (by decide : 7 + 0 ≤ _), (by decide : 73 + 0 ≤ _)⟩)
  dsimp only [Pt.U, Pt.locs, Pt.cells, Pt.slots] at X_q6 l_q6 y_q6 z_q6 st_q6 hQ_q6
  subst l_q6 y_q6 z_q6
  obtain ⟨rfl, Nq_q6, eq_q6⟩ := hQ_q6
  have Kq_q6 : Keep T_q5.heap T_q6.heap [] := by rw [eq_q6]; exact Keep.refl _ _
  have N_q6 := Fr.app N_q5 Nq_q6
  have S_COMPACT_STRINGS__q6 := own_sta_keep S_COMPACT_STRINGS__q5 Kq_q6 all0
  have S_SIOOBE_FORMATTER__q6 := own_sta_keep S_SIOOBE_FORMATTER__q5 Kq_q6 all0
  have O0_q5__q6 := O0_q5.keep Kq_q6
  have O1_q5__q6 := O1_q5.keep Kq_q6 nin0
  have O2_q5__q6 := O2_q5.keep Kq_q6 nin0
  have O3_q5__q6 := O3_q5.keep Kq_q6 nin0
  have K_q6 : Keep h0 T_q6.heap [] := K_q5.trans Kq_q6 all0
  obtain ⟨_, _, ⟨T_q11, L_q11, k_q11, n_q11⟩, -, X_q11, ⟨Lc_q11, hQ_q11, l_q11, y_q11, z_q11⟩, st_q11⟩ := Jvm.LawKit.callS X_q6 hx (y := (⟨"com/example/presplit/presplit/escape/BinaryEscapeEncodePinLaw", "step", "(Ljava/lang/String;II)I"⟩ : MethodName)) hown (mvT hZ (own_w hw 125 rfl)) (mvT hZ (own_w hw 126 rfl)) (mvT hZ (own_w hw 127 rfl)) (mvT hZ (own_w hw 128 rfl)) (by decide) (backOf (W := 0) (rmSt l Z a0 hw [] r1_q5 cs r2_q5 kr2_q5 zr lr sf q1 (p2 &&& (255 : Int32)) q2 T_q6.heap n0 (Nat.le_trans Z0 K_q6.1) O0_q5__q6 O1_q5__q6 O2_q5__q6 O3_q5__q6 S_COMPACT_STRINGS__q6 S_SIOOBE_FORMATTER__q6 hc_q7 hc_q8 hc_q12) hZ (own_w hw 128 rfl) (own_w hw 127 rfl) (by decide) (by decide)) (g := (mkF m 97 #[.val (.int p1), .val (.int p2), .val (.int p3), .val (.int p4), .val (.int (3 : Int32)), .val (.ref b_q1), .val (.ref r1_q5), .val (.int q1)] [(.int (p2 &&& (255 : Int32))), (.int q1), (.ref r1_q5)])) rfl (by rw [hml]; rfl) (argsL := [(.ref r1_q5), (.int q1), (.int (p2 &&& (255 : Int32)))]) (rest := []) (lenOf pd__Ljava_lang_String_II_I rfl) rfl (by show 2 * 0 + _ ≤ _; exact Nat.le_of_eq rfl) (hb hby at_97) (fun _ _ => ⟨rfl, rfl, (by decide : 7 + 0 ≤ _), (by decide : 73 + 0 ≤ _)⟩)
  dsimp only [Pt.U, Pt.locs, Pt.cells, Pt.slots] at X_q11 l_q11 y_q11 z_q11 st_q11 hQ_q11
  subst l_q11 y_q11 z_q11
  obtain ⟨rfl, Nq_q11, eq_q11⟩ := hQ_q11
  have Kq_q11 : Keep T_q6.heap T_q11.heap [] := by rw [eq_q11]; exact Keep.refl _ _
  have N_q11 := Fr.app N_q6 Nq_q11
  have S_COMPACT_STRINGS__q11 := own_sta_keep S_COMPACT_STRINGS__q6 Kq_q11 all0
  have S_SIOOBE_FORMATTER__q11 := own_sta_keep S_SIOOBE_FORMATTER__q6 Kq_q11 all0
  have O0_q5__q11 := O0_q5__q6.keep Kq_q11
  have O1_q5__q11 := O1_q5__q6.keep Kq_q11 nin0
  have O2_q5__q11 := O2_q5__q6.keep Kq_q11 nin0
  have O3_q5__q11 := O3_q5__q6.keep Kq_q11 nin0
  have K_q11 : Keep h0 T_q11.heap [] := K_q6.trans Kq_q11 all0
  obtain ⟨_, _, ⟨T_q14, L_q14, k_q14, n_q14⟩, -, X_q14, ⟨Lc_q14, hQ_q14, l_q14, y_q14, z_q14⟩, st_q14⟩ := Jvm.LawKit.callS X_q11 hx (y := (⟨"com/example/presplit/presplit/escape/BinaryEscapeEncodePinLaw", "step", "(Ljava/lang/String;II)I"⟩ : MethodName)) hown (mvT hZ (own_w hw 125 rfl)) (mvT hZ (own_w hw 126 rfl)) (mvT hZ (own_w hw 127 rfl)) (mvT hZ (own_w hw 128 rfl)) (by decide) (backOf (W := 0) (rmSt l Z a0 hw [] r1_q5 cs r2_q5 kr2_q5 zr lr sf q2 (p3 &&& (255 : Int32)) q3 T_q11.heap n0 (Nat.le_trans Z0 K_q11.1) O0_q5__q11 O1_q5__q11 O2_q5__q11 O3_q5__q11 S_COMPACT_STRINGS__q11 S_SIOOBE_FORMATTER__q11 hc_q7 hc_q8 hc_q15) hZ (own_w hw 128 rfl) (own_w hw 127 rfl) (by decide) (by decide)) (g := (mkF m 124 #[.val (.int p1), .val (.int p2), .val (.int p3), .val (.int p4), .val (.int (3 : Int32)), .val (.ref b_q1), .val (.ref r1_q5), .val (.int q2)] [(.int (p3 &&& (255 : Int32))), (.int q2), (.ref r1_q5)])) rfl (by rw [hml]; rfl) (argsL := [(.ref r1_q5), (.int q2), (.int (p3 &&& (255 : Int32)))]) (rest := []) (lenOf pd__Ljava_lang_String_II_I rfl) rfl (by show 2 * 0 + _ ≤ _; exact Nat.le_of_eq rfl) (hb hby at_124) (fun _ _ => ⟨rfl, rfl, (by decide : 7 + 0 ≤ _), (by decide : 73 + 0 ≤ _)⟩)
  dsimp only [Pt.U, Pt.locs, Pt.cells, Pt.slots] at X_q14 l_q14 y_q14 z_q14 st_q14 hQ_q14
  subst l_q14 y_q14 z_q14
  obtain ⟨rfl, Nq_q14, eq_q14⟩ := hQ_q14
  have Kq_q14 : Keep T_q11.heap T_q14.heap [] := by rw [eq_q14]; exact Keep.refl _ _
  have N_q14 := Fr.app N_q11 Nq_q14
  have S_COMPACT_STRINGS__q14 := own_sta_keep S_COMPACT_STRINGS__q11 Kq_q14 all0
  have O0_q5__q14 := O0_q5__q11.keep Kq_q14
  have O1_q5__q14 := O1_q5__q11.keep Kq_q14 nin0
  have O2_q5__q14 := O2_q5__q11.keep Kq_q14 nin0
  have O3_q5__q14 := O3_q5__q11.keep Kq_q14 nin0
  have K_q14 : Keep h0 T_q14.heap [] := K_q11.trans Kq_q14 all0
  obtain ⟨cq_q17, kq_q17, qa_q17, qb_q17, qc_q17⟩ := isOf hZ rfl O0_q5__q14
  obtain ⟨_, _, ⟨T_q17, L_q17, k_q17, n_q17⟩, -, X_q17, ⟨Lc_q17, hQ_q17, l_q17, y_q17, z_q17⟩, st_q17⟩ := X_q14.virtualBack hx (y := (⟨"java/lang/String", "length", "()I"⟩ : MethodName)) (z := (⟨"java/lang/String", "length", "()I"⟩ : MethodName)) hown (mvT hZ (own_w hw 129 rfl)) (mvT hZ (own_w hw 130 rfl)) (notFace_of_selects (args := #[]) (mvT hZ (own_w hw 132 rfl))) (mvT hZ (own_w hw 132 rfl)) (mvT hZ (own_w hw 131 rfl)) (by decide) (backOf (W := 1) (rmLn l Z a0 hw [] r1_q5 r2_q5 kr2_q5 zr lr cs T_q14.heap n0 (Nat.le_trans Z0 K_q14.1) O0_q5__q14 O1_q5__q14 O2_q5__q14 O3_q5__q14 S_COMPACT_STRINGS__q14 hc_q7) hZ (own_w hw 133 rfl) (own_w hw 21 rfl) (by decide) (by decide)) qa_q17 qc_q17 (g := (mkF m 140 #[.val (.int p1), .val (.int p2), .val (.int p3), .val (.int p4), .val (.int (3 : Int32)), .val (.ref b_q1), .val (.ref r1_q5), .val (.int q3)] [(.ref r1_q5), (.int q3)])) rfl (by rw [hml]; rfl) (Steps.refl _) (argsL := []) (rest := [(.int q3)]) (lenOf pd___I rfl) rfl (by show 2 * 0 + _ ≤ _; exact Nat.le_of_eq rfl) (hb hby at_140) (fun _ _ => ⟨rfl, rfl, (by decide : 7 + 0 ≤ _), (by decide : 73 + 0 ≤ _)⟩)
  dsimp only [Pt.U, Pt.locs, Pt.cells, Pt.slots] at X_q17 l_q17 y_q17 z_q17 st_q17 hQ_q17
  subst l_q17 y_q17 z_q17
  obtain ⟨rfl, Nq_q17, eq_q17⟩ := hQ_q17
  have N_q17 := Fr.app N_q14 Nq_q17
  obtain ⟨fs, hr, hrun, hended, hW, hsame⟩ := X_q17.leave (v := some (.int (1 : Int32))) (fun h => by rw [Bd.returns] at h; cases h) Bd.notSynchronized
  refine ⟨_, _, pre0 _ ?_, hrun, hended, _, _, rfl, ?_, ⟨_, rfl⟩, hW, hsame.mono (by decide) (by decide)⟩
  · show Steps p.tables e below (s₁.setTop (mkF m 0 #[.val (.int p1), .val (.int p2), .val (.int p3), .val (.int p4), .unset, .unset, .unset, .unset] [])) _
    refine XS.iloadN X0.here hx rfl (hb hby at_0) rfl ?_
    refine XS.iconst X0.here hx rfl (hb hby at_1) ?_
    refine XS.iand X0.here hx rfl (hb hby at_2) rfl ?_
    show Steps p.tables e below (s₁.setTop (mkF m 3 #[.val (.int p1), .val (.int p2), .val (.int p3), .val (.int p4), .unset, .unset, .unset, .unset] [(.int (p4 &&& (3 : Int32)))])) _
    rw [hlen]
    refine XS.istore X0.here hx rfl (hb hby at_3) rfl (l' := #[.val (.int p1), .val (.int p2), .val (.int p3), .val (.int p4), .val (.int (3 : Int32)), .unset, .unset, .unset]) rfl ?_
    refine XS.iload X0.here hx rfl (hb hby at_5) rfl ?_
    show Steps p.tables e below (s₁.setTop (mkF m 7 #[.val (.int p1), .val (.int p2), .val (.int p3), .val (.int p4), .val (.int (3 : Int32)), .unset, .unset, .unset] [(.int (3 : Int32))])) _
    refine st_q1 _ ?_
    refine XS.astore X_q1.here hx rfl (hb hby at_9) rfl rfl (l' := #[.val (.int p1), .val (.int p2), .val (.int p3), .val (.int p4), .val (.int (3 : Int32)), .val (.ref b_q1), .unset, .unset]) rfl ?_
    refine XS.iload X_q1.here hx rfl (hb hby at_11) rfl ?_
    refine XS.ifNo X_q1.here hx rfl (hb hby at_13) rfl ((if0 _ _).trans (tlt (by decide : (0 : Int32) < (3 : Int32))).2.2.2) ?_
    show Steps p.tables e below (T_q1.setTop (mkF m 16 #[.val (.int p1), .val (.int p2), .val (.int p3), .val (.int p4), .val (.int (3 : Int32)), .val (.ref b_q1), .unset, .unset] [])) _
    refine XS.aload X_q1.here hx rfl (hb hby at_16) rfl rfl ?_
    refine XS.iconst X_q1.here hx rfl (hb hby at_18) ?_
    refine XS.iloadN X_q1.here hx rfl (hb hby at_19) rfl ?_
    refine XS.i2b X_q1.here hx rfl (hb hby at_20) rfl ?_
    show Steps p.tables e below (T_q1.setTop (mkF m 21 #[.val (.int p1), .val (.int p2), .val (.int p3), .val (.int p4), .val (.int (3 : Int32)), .val (.ref b_q1), .unset, .unset] [(.int (p1.toInt8.toInt32)), (.int (0 : Int32)), (.ref b_q1)])) _
    refine st_q2 _ ?_
    refine XS.iload X_q2.here hx rfl (hb hby at_22) rfl ?_
    refine XS.iconst X_q2.here hx rfl (hb hby at_24) ?_
    refine XS.icmpNo X_q2.here hx rfl (hb hby at_25) rfl (tlt (by decide : (1 : Int32) < (3 : Int32))).2.2.2 ?_
    show Steps p.tables e below (T_q2.setTop (mkF m 28 #[.val (.int p1), .val (.int p2), .val (.int p3), .val (.int p4), .val (.int (3 : Int32)), .val (.ref b_q1), .unset, .unset] [])) _
    refine XS.aload X_q2.here hx rfl (hb hby at_28) rfl rfl ?_
    refine XS.iconst X_q2.here hx rfl (hb hby at_30) ?_
    refine XS.iloadN X_q2.here hx rfl (hb hby at_31) rfl ?_
    refine XS.i2b X_q2.here hx rfl (hb hby at_32) rfl ?_
    show Steps p.tables e below (T_q2.setTop (mkF m 33 #[.val (.int p1), .val (.int p2), .val (.int p3), .val (.int p4), .val (.int (3 : Int32)), .val (.ref b_q1), .unset, .unset] [(.int (p2.toInt8.toInt32)), (.int (1 : Int32)), (.ref b_q1)])) _
    refine st_q3 _ ?_
    refine XS.iload X_q3.here hx rfl (hb hby at_34) rfl ?_
    refine XS.iconst X_q3.here hx rfl (hb hby at_36) ?_
    refine XS.icmpNo X_q3.here hx rfl (hb hby at_37) rfl (tlt (by decide : (2 : Int32) < (3 : Int32))).2.2.2 ?_
    show Steps p.tables e below (T_q3.setTop (mkF m 40 #[.val (.int p1), .val (.int p2), .val (.int p3), .val (.int p4), .val (.int (3 : Int32)), .val (.ref b_q1), .unset, .unset] [])) _
    refine XS.aload X_q3.here hx rfl (hb hby at_40) rfl rfl ?_
    refine XS.iconst X_q3.here hx rfl (hb hby at_42) ?_
    refine XS.iloadN X_q3.here hx rfl (hb hby at_43) rfl ?_
    refine XS.i2b X_q3.here hx rfl (hb hby at_44) rfl ?_
    show Steps p.tables e below (T_q3.setTop (mkF m 45 #[.val (.int p1), .val (.int p2), .val (.int p3), .val (.int p4), .val (.int (3 : Int32)), .val (.ref b_q1), .unset, .unset] [(.int (p3.toInt8.toInt32)), (.int (2 : Int32)), (.ref b_q1)])) _
    refine st_q4 _ ?_
    refine XS.aload X_q4.here hx rfl (hb hby at_46) rfl rfl ?_
    show Steps p.tables e below (T_q4.setTop (mkF m 48 #[.val (.int p1), .val (.int p2), .val (.int p3), .val (.int p4), .val (.int (3 : Int32)), .val (.ref b_q1), .unset, .unset] [(.ref b_q1)])) _
    refine st_q5 _ ?_
    refine XS.astore X_q5.here hx rfl (hb hby at_51) rfl rfl (l' := #[.val (.int p1), .val (.int p2), .val (.int p3), .val (.int p4), .val (.int (3 : Int32)), .val (.ref b_q1), .val (.ref r1_q5), .unset]) rfl ?_
    refine XS.iconst X_q5.here hx rfl (hb hby at_53) ?_
    refine XS.istore X_q5.here hx rfl (hb hby at_54) rfl (l' := #[.val (.int p1), .val (.int p2), .val (.int p3), .val (.int p4), .val (.int (3 : Int32)), .val (.ref b_q1), .val (.ref r1_q5), .val (.int (0 : Int32))]) rfl ?_
    show Steps p.tables e below (T_q5.setTop (mkF m 56 #[.val (.int p1), .val (.int p2), .val (.int p3), .val (.int p4), .val (.int (3 : Int32)), .val (.ref b_q1), .val (.ref r1_q5), .val (.int (0 : Int32))] [])) _
    refine XS.iload X_q5.here hx rfl (hb hby at_56) rfl ?_
    refine XS.ifNo X_q5.here hx rfl (hb hby at_58) rfl ((if0 _ _).trans (tlt (by decide : (0 : Int32) < (3 : Int32))).2.2.2) ?_
    refine XS.aload X_q5.here hx rfl (hb hby at_61) rfl rfl ?_
    refine XS.iload X_q5.here hx rfl (hb hby at_63) rfl ?_
    show Steps p.tables e below (T_q5.setTop (mkF m 65 #[.val (.int p1), .val (.int p2), .val (.int p3), .val (.int p4), .val (.int (3 : Int32)), .val (.ref b_q1), .val (.ref r1_q5), .val (.int (0 : Int32))] [(.int (0 : Int32)), (.ref r1_q5)])) _
    refine XS.iloadN X_q5.here hx rfl (hb hby at_65) rfl ?_
    refine XS.sipush X_q5.here hx rfl (hb hby at_66) ?_
    refine XS.iand X_q5.here hx rfl (hb hby at_69) rfl ?_
    show Steps p.tables e below (T_q5.setTop (mkF m 70 #[.val (.int p1), .val (.int p2), .val (.int p3), .val (.int p4), .val (.int (3 : Int32)), .val (.ref b_q1), .val (.ref r1_q5), .val (.int (0 : Int32))] [(.int (p1 &&& (255 : Int32))), (.int (0 : Int32)), (.ref r1_q5)])) _
    refine st_q6 _ ?_
    refine XS.istore X_q6.here hx rfl (hb hby at_73) rfl (l' := #[.val (.int p1), .val (.int p2), .val (.int p3), .val (.int p4), .val (.int (3 : Int32)), .val (.ref b_q1), .val (.ref r1_q5), .val (.int q1)]) rfl ?_
    refine XS.iload X_q6.here hx rfl (hb hby at_75) rfl ?_
    refine XS.ifYes X_q6.here hx rfl (pc0 := 77) (pc' := 82) rfl (hb hby at_77) rfl ((if0 _ _).trans (flt hc_q10).2.1) (by decide) (by decide) ?_
    show Steps p.tables e below (T_q6.setTop (mkF m 82 #[.val (.int p1), .val (.int p2), .val (.int p3), .val (.int p4), .val (.int (3 : Int32)), .val (.ref b_q1), .val (.ref r1_q5), .val (.int q1)] [])) _
    refine XS.iload X_q6.here hx rfl (hb hby at_82) rfl ?_
    refine XS.iconst X_q6.here hx rfl (hb hby at_84) ?_
    refine XS.icmpNo X_q6.here hx rfl (hb hby at_85) rfl (tlt (by decide : (1 : Int32) < (3 : Int32))).2.2.2 ?_
    refine XS.aload X_q6.here hx rfl (hb hby at_88) rfl rfl ?_
    show Steps p.tables e below (T_q6.setTop (mkF m 90 #[.val (.int p1), .val (.int p2), .val (.int p3), .val (.int p4), .val (.int (3 : Int32)), .val (.ref b_q1), .val (.ref r1_q5), .val (.int q1)] [(.ref r1_q5)])) _
    refine XS.iload X_q6.here hx rfl (hb hby at_90) rfl ?_
    refine XS.iloadN X_q6.here hx rfl (hb hby at_92) rfl ?_
    refine XS.sipush X_q6.here hx rfl (hb hby at_93) ?_
    refine XS.iand X_q6.here hx rfl (hb hby at_96) rfl ?_
    show Steps p.tables e below (T_q6.setTop (mkF m 97 #[.val (.int p1), .val (.int p2), .val (.int p3), .val (.int p4), .val (.int (3 : Int32)), .val (.ref b_q1), .val (.ref r1_q5), .val (.int q1)] [(.int (p2 &&& (255 : Int32))), (.int q1), (.ref r1_q5)])) _
    refine st_q11 _ ?_
    refine XS.istore X_q11.here hx rfl (hb hby at_100) rfl (l' := #[.val (.int p1), .val (.int p2), .val (.int p3), .val (.int p4), .val (.int (3 : Int32)), .val (.ref b_q1), .val (.ref r1_q5), .val (.int q2)]) rfl ?_
    refine XS.iload X_q11.here hx rfl (hb hby at_102) rfl ?_
    refine XS.ifYes X_q11.here hx rfl (pc0 := 104) (pc' := 109) rfl (hb hby at_104) rfl ((if0 _ _).trans (flt hc_q13).2.1) (by decide) (by decide) ?_
    show Steps p.tables e below (T_q11.setTop (mkF m 109 #[.val (.int p1), .val (.int p2), .val (.int p3), .val (.int p4), .val (.int (3 : Int32)), .val (.ref b_q1), .val (.ref r1_q5), .val (.int q2)] [])) _
    refine XS.iload X_q11.here hx rfl (hb hby at_109) rfl ?_
    refine XS.iconst X_q11.here hx rfl (hb hby at_111) ?_
    refine XS.icmpNo X_q11.here hx rfl (hb hby at_112) rfl (tlt (by decide : (2 : Int32) < (3 : Int32))).2.2.2 ?_
    refine XS.aload X_q11.here hx rfl (hb hby at_115) rfl rfl ?_
    show Steps p.tables e below (T_q11.setTop (mkF m 117 #[.val (.int p1), .val (.int p2), .val (.int p3), .val (.int p4), .val (.int (3 : Int32)), .val (.ref b_q1), .val (.ref r1_q5), .val (.int q2)] [(.ref r1_q5)])) _
    refine XS.iload X_q11.here hx rfl (hb hby at_117) rfl ?_
    refine XS.iloadN X_q11.here hx rfl (hb hby at_119) rfl ?_
    refine XS.sipush X_q11.here hx rfl (hb hby at_120) ?_
    refine XS.iand X_q11.here hx rfl (hb hby at_123) rfl ?_
    show Steps p.tables e below (T_q11.setTop (mkF m 124 #[.val (.int p1), .val (.int p2), .val (.int p3), .val (.int p4), .val (.int (3 : Int32)), .val (.ref b_q1), .val (.ref r1_q5), .val (.int q2)] [(.int (p3 &&& (255 : Int32))), (.int q2), (.ref r1_q5)])) _
    refine st_q14 _ ?_
    refine XS.istore X_q14.here hx rfl (hb hby at_127) rfl (l' := #[.val (.int p1), .val (.int p2), .val (.int p3), .val (.int p4), .val (.int (3 : Int32)), .val (.ref b_q1), .val (.ref r1_q5), .val (.int q3)]) rfl ?_
    refine XS.iload X_q14.here hx rfl (hb hby at_129) rfl ?_
    refine XS.ifYes X_q14.here hx rfl (pc0 := 131) (pc' := 136) rfl (hb hby at_131) rfl ((if0 _ _).trans (flt hc_q16).2.1) (by decide) (by decide) ?_
    show Steps p.tables e below (T_q14.setTop (mkF m 136 #[.val (.int p1), .val (.int p2), .val (.int p3), .val (.int p4), .val (.int (3 : Int32)), .val (.ref b_q1), .val (.ref r1_q5), .val (.int q3)] [])) _
    refine XS.iload X_q14.here hx rfl (hb hby at_136) rfl ?_
    refine XS.aload X_q14.here hx rfl (hb hby at_138) rfl rfl ?_
    show Steps p.tables e below (T_q14.setTop (mkF m 140 #[.val (.int p1), .val (.int p2), .val (.int p3), .val (.int p4), .val (.int (3 : Int32)), .val (.ref b_q1), .val (.ref r1_q5), .val (.int q3)] [(.ref r1_q5), (.int q3)])) _
    refine st_q17.trans ?_
    refine XS.icmpNo X_q17.here hx rfl (hb hby at_143) rfl (teq hc_q18).2 ?_
    refine XS.iconst X_q17.here hx rfl (hb hby at_146) ?_
    refine XS.goto X_q17.here hx rfl (pc0 := 147) (pc' := 151) rfl (hb hby at_147) (by decide) (by decide) ?_
    show Steps p.tables e below (T_q17.setTop (mkF m 151 #[.val (.int p1), .val (.int p2), .val (.int p3), .val (.int p4), .val (.int (3 : Int32)), .val (.ref b_q1), .val (.ref r1_q5), .val (.int q3)] [(.int (1 : Int32))])) _
    exact retN X_q17 hx (t := .boolean) Bd.returns (by simp) (hb hby at_151) hr
  · show Q_law3 Z p1 p2 p3 p4 ha kh cs sf zr lr q1 q2 q3 h0 n0 _ T_q17.heap _
    exact ⟨rfl, N_q17⟩
theorem own_hex_get (i : Nat) (h : i < 16) : own_hexL.getD i (.int (0 : Int32)) = .int (own_hexN i) := by
  unfold own_hexL
  rw [List.getD_eq_getElem?_getD, List.getElem?_map, List.getElem?_range h]
  rfl
theorem own_hex_fits : ∀ n : Fin 16, fits .char (.int (own_hexN n.val)) = true := by decide +kernel
theorem own_hex_val (j : Nat) (w : Int32) (hj : j < 16) (h1 : j < 10 → w.toInt64 = j.toInt32.toInt64 + (48 : Int64)) (h2 : 10 ≤ j → w.toInt64 = j.toInt32.toInt64 + (55 : Int64)) : w = own_hexN j := by
  have key : ∀ k : Nat, k ≤ 55 → w.toInt64 = j.toInt32.toInt64 + Int64.ofNat k → w = Int32.ofNat (k + j) := by
    intro k hk h
    have e := congrArg Int64.toInt h
    rw [Int32.toInt_toInt64, Int64.toInt_add, Int32.toInt_toInt64, len_toInt (by omega), Int64.toInt_ofNat_of_lt (by omega)] at e
    rw [← Int32.toInt_inj, Int32.toInt_ofNat_of_lt (by omega)]
    rw [Int.bmod_eq_of_le (by omega) (by omega)] at e
    omega
  unfold own_hexN
  by_cases h : j < 10
  · rw [if_pos h]; exact key 48 (by omega) (h1 h)
  · rw [if_neg h]; exact key 55 (by omega) (h2 (by omega))
theorem own_hexA {s : State} {args : Array Value} {t : Term} {ha : Addr} (hf : Fit s) (ht : ∀ idx, t.eval args s none idx s = some (.ref ha)) (h1 : (Cond.arrayOf t .char).value args s none s [] = some true) (h2 : (Cond.eq (Term.length t) (Term.int (16 : Int32))).value args s none s [] = some true)
    (h3 : (Cond.all t (Cond.or (Cond.le (Term.int (10 : Int32)) (Term.index 0)) (Cond.eq (Term.op1 Unary.i2l (Term.elem t (Term.index 0))) (Term.op2 Binary.ladd (Term.op1 Unary.i2l (Term.index 0)) (Term.long (48 : Int64)))))).value args s none s [] = some true)
    (h4 : (Cond.all t (Cond.or (Cond.lt (Term.index 0) (Term.int (10 : Int32))) (Cond.eq (Term.op1 Unary.i2l (Term.elem t (Term.index 0))) (Term.op2 Binary.ladd (Term.op1 Unary.i2l (Term.index 0)) (Term.long (55 : Int64)))))).value args s none s [] = some true) :
    ∃ kh, Arv s s.heap ha kh .char (16 : Int32) own_hexL (.int (0 : Int32)) := by
  obtain ⟨cl, A⟩ := Arr.start (ht []) h1
  have hat : s.arrayAt? ha = some cl := A.fin (Vm.Alike.refl _)
  have hsz : cl.slots.size = 16 := by
    simp only [Cond.value, Term.eval, ht, hat, Option.bind_eq_bind, Option.bind_some] at h2
    by_cases q : cl.slots.size < 2 ^ 31
    · simp [q] at h2
      have e := congrArg Int32.toInt h2
      rw [len_toInt q] at e
      have : (16 : Int32).toInt = 16 := by decide
      omega
    · simp [q] at h2
  have hel : ∀ j, j < 16 → cl.slots[j]? = some (.int (own_hexN j)) := by
    intro j hj
    have e1 : j.toInt32.toNatClampNeg = j := by simp only [Int32.toNatClampNeg, len_toInt (show j < 2 ^ 31 by omega)]; rfl
    have hneg : ¬ (j.toInt32 < 0) := by
      rw [Int32.lt_iff_toInt_lt, len_toInt (by omega)]
      have : (0 : Int32).toInt = 0 := by decide
      omega
    obtain ⟨v, hv, fv⟩ := elem_fit (j := j.toInt32) hf A (by rw [e1, hsz]; intro q; rcases q with q | q; exact hneg q; omega)
    rw [e1] at hv
    have u3 := Cond.all_elim (ht []) hat h3 j (by omega)
    have u4 := Cond.all_elim (ht []) hat h4 j (by omega)
    cases v with
    | int w =>
      rw [hv]
      have hle : ((10 : Int32) ≤ j.toInt32) ↔ 10 ≤ j := by
        rw [Int32.le_iff_toInt_le, len_toInt (by omega)]
        have : (10 : Int32).toInt = 10 := by decide
        omega
      have hlt : (j.toInt32 < (10 : Int32)) ↔ j < 10 := by
        rw [Int32.lt_iff_toInt_lt, len_toInt (by omega)]
        have : (10 : Int32).toInt = 10 := by decide
        omega
      refine congrArg (fun z => some (Value.int z)) (own_hex_val j w hj (fun q => ?_) (fun q => ?_))
      · have nq : ¬ (10 ≤ j) := by omega
        simp [Cond.value, Term.eval, ht, hat, hneg, e1, hv, hle, nq, Unary.apply, Binary.apply] at u3
        exact u3
      · have nq : ¬ (j < 10) := by omega
        simp [Cond.value, Term.eval, ht, hat, hneg, e1, hv, hlt, nq, Unary.apply, Binary.apply] at u4
        exact u4
    | _ => simp [fits] at fv
  exact ⟨_, cl, A, rfl, hsz, by decide, fun k hk => by rw [own_hex_get k (by omega)]; exact hel k (by omega), fun k hk => by rw [own_hex_get k (by omega)]; exact own_hex_fits ⟨k, by omega⟩⟩
theorem own_bb (p : Int32) : (nar .byte (p.toInt8.toInt32)) &&& (255 : Int32) = p &&& (255 : Int32) := by
  have e1 : ((nar .byte (p.toInt8.toInt32)) &&& (255 : Int32)).toInt = (nar .byte (p.toInt8.toInt32)).toInt % 2 ^ 8 := Jvm.Kit.i32_mask _ 255 (k := 8) (by decide) (by decide)
  have e2 : (p &&& (255 : Int32)).toInt = p.toInt % 2 ^ 8 := Jvm.Kit.i32_mask p 255 (k := 8) (by decide) (by decide)
  rw [← Int32.toInt_inj, e1, e2]
  show (p.toInt8.toInt32.toInt8.toInt32).toInt % 2 ^ 8 = _
  simp only [Int8.toInt_toInt32, Int32.toInt_toInt8]
  simp only [Int.bmod_def]
  omega
theorem own_byte (P : Int32 → Prop) (h : ∀ n : Fin 256, P (Int32.ofNat n.val)) (p : Int32) : P (p &&& (255 : Int32)) := by
  have e : (p &&& (255 : Int32)).toInt = p.toInt % 2 ^ 8 := Jvm.Kit.i32_mask p 255 (k := 8) (by decide) (by decide)
  have hn : (p &&& (255 : Int32)).toInt.toNat < 256 := by omega
  have hk : (p &&& (255 : Int32)) = Int32.ofNat (p &&& (255 : Int32)).toInt.toNat := by
    apply Int32.toInt_inj.mp
    rw [Int32.toInt_ofNat_of_lt (by omega)]
    omega
  rw [hk]
  exact h ⟨_, hn⟩
theorem own_cls (v : Int32) : own_pl v ∨ own_esc v := by
  unfold own_pl own_esc
  by_cases h1 : v < (32 : Int32)
  · exact Or.inr (Or.inl h1)
  by_cases h2 : (126 : Int32) < v
  · exact Or.inr (Or.inr (Or.inl h2))
  by_cases h3 : v = (92 : Int32)
  · exact Or.inr (Or.inr (Or.inr h3))
  · exact Or.inl ⟨h1, h2, h3⟩
theorem own_len (p : Int32) : (p &&& (3 : Int32)) = (0 : Int32) ∨ (p &&& (3 : Int32)) = (1 : Int32) ∨ (p &&& (3 : Int32)) = (2 : Int32) ∨ (p &&& (3 : Int32)) = (3 : Int32) := by
  have e : (p &&& (3 : Int32)).toInt = p.toInt % 2 ^ 2 := Jvm.Kit.i32_mask p 3 (k := 2) (by decide) (by decide)
  simp only [← Int32.toInt_inj]
  have a0 : (0 : Int32).toInt = 0 := by decide
  have a1 : (1 : Int32).toInt = 1 := by decide
  have a2 : (2 : Int32).toInt = 2 := by decide
  have a3 : (3 : Int32).toInt = 3 := by decide
  omega
theorem own_cv {p : Int32} (h : own_esc (p &&& (255 : Int32))) : own_esc (((nar .byte (p.toInt8.toInt32)) &&& (255 : Int32))) := by rw [own_bb]; exact h
theorem own_cw {p : Int32} (h : own_pl (p &&& (255 : Int32))) : own_pl (((nar .byte (p.toInt8.toInt32)) &&& (255 : Int32))) := by rw [own_bb]; exact h
theorem own_H0 {p : Int32} (h : own_pl (p &&& (255 : Int32))) : ¬ ((F9_0 (own_k0 ((nar .byte (p.toInt8.toInt32)) &&& (255 : Int32)))) = (0 : Int32)) := by
  rw [own_bb p]; exact own_byte (fun a => (¬ (a < (32 : Int32)) ∧ ¬ ((126 : Int32) < a) ∧ ¬ (a = (92 : Int32))) → ¬ ((F9_0 (own_k0 a)) = (0 : Int32))) (by decide +kernel) p h
theorem own_H1 {p : Int32} (h : own_pl (p &&& (255 : Int32))) : (nar .char (nar .char (((nar .byte ((own_k0 ((nar .byte (p.toInt8.toInt32)) &&& (255 : Int32))).toInt8.toInt32)) &&& (255 : Int32)).toUInt32.toUInt16.toUInt32.toInt32))) = ((p &&& (255 : Int32)).toUInt32.toUInt16.toUInt32.toInt32) := by
  rw [own_bb p]; exact own_byte (fun a => (¬ (a < (32 : Int32)) ∧ ¬ ((126 : Int32) < a) ∧ ¬ (a = (92 : Int32))) → (nar .char (nar .char (((nar .byte ((own_k0 a).toInt8.toInt32)) &&& (255 : Int32)).toUInt32.toUInt16.toUInt32.toInt32))) = (a.toUInt32.toUInt16.toUInt32.toInt32)) (by decide +kernel) p h
theorem own_H2 {p : Int32} (h : own_esc (p &&& (255 : Int32))) : ¬ ((((nar .byte (p.toInt8.toInt32)) &&& (255 : Int32)).toUInt32 >>> ((4 : Int32) &&& 31).toUInt32).toInt32) < 0 ∧ ((((nar .byte (p.toInt8.toInt32)) &&& (255 : Int32)).toUInt32 >>> ((4 : Int32) &&& 31).toUInt32).toInt32) < (16 : Int32) := by
  rw [own_bb p]; exact own_byte (fun a => (a < (32 : Int32) ∨ (126 : Int32) < a ∨ a = (92 : Int32)) → ¬ ((a.toUInt32 >>> ((4 : Int32) &&& 31).toUInt32).toInt32) < 0 ∧ ((a.toUInt32 >>> ((4 : Int32) &&& 31).toUInt32).toInt32) < (16 : Int32)) (by decide +kernel) p h
theorem own_H3 {p : Int32} (h : own_esc (p &&& (255 : Int32))) : ¬ ((F9_0 (own_k2 ((nar .byte (p.toInt8.toInt32)) &&& (255 : Int32)))) = (0 : Int32)) := by
  rw [own_bb p]; exact own_byte (fun a => (a < (32 : Int32) ∨ (126 : Int32) < a ∨ a = (92 : Int32)) → ¬ ((F9_0 (own_k2 a)) = (0 : Int32))) (by decide +kernel) p h
theorem own_H4 {p : Int32} (h : own_esc (p &&& (255 : Int32))) : ¬ (((nar .byte (p.toInt8.toInt32)) &&& (255 : Int32)) &&& (15 : Int32)) < 0 ∧ (((nar .byte (p.toInt8.toInt32)) &&& (255 : Int32)) &&& (15 : Int32)) < (16 : Int32) := by
  rw [own_bb p]; exact own_byte (fun a => (a < (32 : Int32) ∨ (126 : Int32) < a ∨ a = (92 : Int32)) → ¬ (a &&& (15 : Int32)) < 0 ∧ (a &&& (15 : Int32)) < (16 : Int32)) (by decide +kernel) p h
theorem own_H5 {p : Int32} (h : own_esc (p &&& (255 : Int32))) : ¬ ((F9_0 (own_k3 ((nar .byte (p.toInt8.toInt32)) &&& (255 : Int32)))) = (0 : Int32)) := by
  rw [own_bb p]; exact own_byte (fun a => (a < (32 : Int32) ∨ (126 : Int32) < a ∨ a = (92 : Int32)) → ¬ ((F9_0 (own_k3 a)) = (0 : Int32))) (by decide +kernel) p h
theorem own_H6 {p : Int32} (h : own_esc (p &&& (255 : Int32))) : (nar .char (nar .char (((nar .byte ((own_k2 ((nar .byte (p.toInt8.toInt32)) &&& (255 : Int32))).toInt8.toInt32)) &&& (255 : Int32)).toUInt32.toUInt16.toUInt32.toInt32))) = (F30_0 ((p &&& (255 : Int32)) >>> ((4 : Int32) &&& 31))) := by
  rw [own_bb p]; exact own_byte (fun a => (a < (32 : Int32) ∨ (126 : Int32) < a ∨ a = (92 : Int32)) → (nar .char (nar .char (((nar .byte ((own_k2 a).toInt8.toInt32)) &&& (255 : Int32)).toUInt32.toUInt16.toUInt32.toInt32))) = (F30_0 (a >>> ((4 : Int32) &&& 31)))) (by decide +kernel) p h
theorem own_H7 {p : Int32} (h : own_esc (p &&& (255 : Int32))) : (nar .char (nar .char (((nar .byte ((own_k3 ((nar .byte (p.toInt8.toInt32)) &&& (255 : Int32))).toInt8.toInt32)) &&& (255 : Int32)).toUInt32.toUInt16.toUInt32.toInt32))) = (F30_0 ((p &&& (255 : Int32)) &&& (15 : Int32))) := by
  rw [own_bb p]; exact own_byte (fun a => (a < (32 : Int32) ∨ (126 : Int32) < a ∨ a = (92 : Int32)) → (nar .char (nar .char (((nar .byte ((own_k3 a).toInt8.toInt32)) &&& (255 : Int32)).toUInt32.toUInt16.toUInt32.toInt32))) = (F30_0 (a &&& (15 : Int32)))) (by decide +kernel) p h
def Q_law (Z : State) (h0 : Heap) (n0 : Nat) (v : Option Value) (h : Heap) (L : List Loc) : Prop := v = some (.int (1 : Int32)) ∧ Fr n0 L
theorem rm0 (l : Launch) (Z : State) (a0 : Array Value) (hw : ∀ d ∈ tables_1, d.before a0 Z = true) (ws : List Jvm.Cond) (p1 p2 p3 p4 : Int32) (ha : Addr) (kh : ClassId) (cs : Int32) (sf : Value) (h0 : Heap) (n0 : Nat) (Z0 : n0 ≤ h0.size) (S_HEX_DIGITS : Sta Z h0 "com/example/presplit/presplit/escape/BinaryEscape" "HEX_DIGITS" "[C" (.ref ha)) (V_ha : Arv Z h0 ha kh .char (16 : Int32) own_hexL (.int (0 : Int32))) (S_COMPACT_STRINGS : Sta Z h0 "java/lang/String" "COMPACT_STRINGS" "Z" (.int cs)) (S_SIOOBE_FORMATTER : Sta Z h0 "jdk/internal/util/Preconditions" "SIOOBE_FORMATTER" "Ljava/util/function/BiFunction;" sf) (hcs : ¬ (cs = (0 : Int32))) (hsf : sf = .null ∨ ∃ a, sf = .ref a) :
    MetFree l x (head1 (Jvm.Cond.code x code maxLocals ret :: ws) room_1) (fun a U => a = #[(.int p1), (.int p2), (.int p3), (.int p4)] ∧ Z.Warmed39 U.vm ∧ U.heap = h0) (fun _ _ _ _ _ => True) (fun _ U o U' => ∃ v L, o = .returned v ∧ Q_law Z h0 n0 v U'.heap L ∧ FrameEnd U o U' L room_1.cells room_1.slots) := by
  rcases own_len p4 with hk | hk | hk | hk
  · exact rm0_0 l Z a0 hw ws p1 p2 p3 p4 ha kh cs sf (0 : Int32) [] (0 : Int32) (0 : Int32) (0 : Int32) h0 n0 Z0 S_HEX_DIGITS V_ha S_COMPACT_STRINGS S_SIOOBE_FORMATTER hk (fun l Z a0 hw ws a1 ha ka kh h0 n0 Z0 y0 y1 y2 y3 => rmEn_0_ l Z a0 hw ws a1 ha ka kh cs  h0 n0 Z0 y0 y1 y2 y3 hcs) hcs (by decide)
  · rcases own_cls (p1 &&& (255 : Int32)) with c1 | c1
    · exact rm0_1 l Z a0 hw ws p1 p2 p3 p4 ha kh cs sf (1 : Int32) [(.int (nar .byte ((own_k0 ((nar .byte (p1.toInt8.toInt32)) &&& (255 : Int32))).toInt8.toInt32)))] (1 : Int32) (0 : Int32) (0 : Int32) h0 n0 Z0 S_HEX_DIGITS V_ha S_COMPACT_STRINGS S_SIOOBE_FORMATTER hk (fun l Z a0 hw ws a1 ha ka kh h0 n0 Z0 y0 y1 y2 y3 => rmEn_1_0 l Z a0 hw ws a1 ha ka kh cs (nar .byte (p1.toInt8.toInt32)) h0 n0 Z0 y0 y1 y2 y3 hcs (own_cw c1) (own_H0 c1)) hcs hsf (Or.inl ⟨_, by decide, c1, (by decide), (by decide), (by decide), (by decide), rfl, (own_H1 c1)⟩) (by decide) (by decide)
    · exact rm0_1 l Z a0 hw ws p1 p2 p3 p4 ha kh cs sf (4 : Int32) [(.int (nar .byte ((92 : Int32).toInt8.toInt32))), (.int (nar .byte ((120 : Int32).toInt8.toInt32))), (.int (nar .byte ((own_k2 ((nar .byte (p1.toInt8.toInt32)) &&& (255 : Int32))).toInt8.toInt32))), (.int (nar .byte ((own_k3 ((nar .byte (p1.toInt8.toInt32)) &&& (255 : Int32))).toInt8.toInt32)))] (4 : Int32) (0 : Int32) (0 : Int32) h0 n0 Z0 S_HEX_DIGITS V_ha S_COMPACT_STRINGS S_SIOOBE_FORMATTER hk (fun l Z a0 hw ws a1 ha ka kh h0 n0 Z0 y0 y1 y2 y3 => rmEn_1_1 l Z a0 hw ws a1 ha ka kh cs (nar .byte (p1.toInt8.toInt32)) h0 n0 Z0 y0 y1 y2 y3 hcs (own_cv c1) (own_H2 c1) (own_H3 c1) (own_H4 c1) (own_H5 c1)) hcs hsf (Or.inr ⟨_, _, _, _, by decide, c1, (by decide), (by decide), (by decide), (by decide), rfl, (by decide), (by decide), (by decide), (by decide), rfl, (by decide), (by decide), (by decide), (by decide), rfl, (own_H6 c1), (by decide), (by decide), (by decide), rfl, (own_H7 c1)⟩) (by decide) (by decide)
  · rcases own_cls (p1 &&& (255 : Int32)) with c1 | c1
    · rcases own_cls (p2 &&& (255 : Int32)) with c2 | c2
      · exact rm0_2 l Z a0 hw ws p1 p2 p3 p4 ha kh cs sf (2 : Int32) [(.int (nar .byte ((own_k0 ((nar .byte (p1.toInt8.toInt32)) &&& (255 : Int32))).toInt8.toInt32))), (.int (nar .byte ((own_k0 ((nar .byte (p2.toInt8.toInt32)) &&& (255 : Int32))).toInt8.toInt32)))] (1 : Int32) (2 : Int32) (0 : Int32) h0 n0 Z0 S_HEX_DIGITS V_ha S_COMPACT_STRINGS S_SIOOBE_FORMATTER hk (fun l Z a0 hw ws a1 ha ka kh h0 n0 Z0 y0 y1 y2 y3 => rmEn_2_00 l Z a0 hw ws a1 ha ka kh cs (nar .byte (p1.toInt8.toInt32)) (nar .byte (p2.toInt8.toInt32)) h0 n0 Z0 y0 y1 y2 y3 hcs (own_cw c1) (own_H0 c1) (own_cw c2) (own_H0 c2)) hcs hsf (Or.inl ⟨_, by decide, c1, (by decide), (by decide), (by decide), (by decide), rfl, (own_H1 c1)⟩) (by decide) (Or.inl ⟨_, by decide, c2, (by decide), (by decide), (by decide), (by decide), rfl, (own_H1 c2)⟩) (by decide) (by decide)
      · exact rm0_2 l Z a0 hw ws p1 p2 p3 p4 ha kh cs sf (5 : Int32) [(.int (nar .byte ((own_k0 ((nar .byte (p1.toInt8.toInt32)) &&& (255 : Int32))).toInt8.toInt32))), (.int (nar .byte ((92 : Int32).toInt8.toInt32))), (.int (nar .byte ((120 : Int32).toInt8.toInt32))), (.int (nar .byte ((own_k2 ((nar .byte (p2.toInt8.toInt32)) &&& (255 : Int32))).toInt8.toInt32))), (.int (nar .byte ((own_k3 ((nar .byte (p2.toInt8.toInt32)) &&& (255 : Int32))).toInt8.toInt32)))] (1 : Int32) (5 : Int32) (0 : Int32) h0 n0 Z0 S_HEX_DIGITS V_ha S_COMPACT_STRINGS S_SIOOBE_FORMATTER hk (fun l Z a0 hw ws a1 ha ka kh h0 n0 Z0 y0 y1 y2 y3 => rmEn_2_01 l Z a0 hw ws a1 ha ka kh cs (nar .byte (p1.toInt8.toInt32)) (nar .byte (p2.toInt8.toInt32)) h0 n0 Z0 y0 y1 y2 y3 hcs (own_cw c1) (own_H0 c1) (own_cv c2) (own_H2 c2) (own_H3 c2) (own_H4 c2) (own_H5 c2)) hcs hsf (Or.inl ⟨_, by decide, c1, (by decide), (by decide), (by decide), (by decide), rfl, (own_H1 c1)⟩) (by decide) (Or.inr ⟨_, _, _, _, by decide, c2, (by decide), (by decide), (by decide), (by decide), rfl, (by decide), (by decide), (by decide), (by decide), rfl, (by decide), (by decide), (by decide), (by decide), rfl, (own_H6 c2), (by decide), (by decide), (by decide), rfl, (own_H7 c2)⟩) (by decide) (by decide)
    · rcases own_cls (p2 &&& (255 : Int32)) with c2 | c2
      · exact rm0_2 l Z a0 hw ws p1 p2 p3 p4 ha kh cs sf (5 : Int32) [(.int (nar .byte ((92 : Int32).toInt8.toInt32))), (.int (nar .byte ((120 : Int32).toInt8.toInt32))), (.int (nar .byte ((own_k2 ((nar .byte (p1.toInt8.toInt32)) &&& (255 : Int32))).toInt8.toInt32))), (.int (nar .byte ((own_k3 ((nar .byte (p1.toInt8.toInt32)) &&& (255 : Int32))).toInt8.toInt32))), (.int (nar .byte ((own_k0 ((nar .byte (p2.toInt8.toInt32)) &&& (255 : Int32))).toInt8.toInt32)))] (4 : Int32) (5 : Int32) (0 : Int32) h0 n0 Z0 S_HEX_DIGITS V_ha S_COMPACT_STRINGS S_SIOOBE_FORMATTER hk (fun l Z a0 hw ws a1 ha ka kh h0 n0 Z0 y0 y1 y2 y3 => rmEn_2_10 l Z a0 hw ws a1 ha ka kh cs (nar .byte (p1.toInt8.toInt32)) (nar .byte (p2.toInt8.toInt32)) h0 n0 Z0 y0 y1 y2 y3 hcs (own_cv c1) (own_H2 c1) (own_H3 c1) (own_H4 c1) (own_H5 c1) (own_cw c2) (own_H0 c2)) hcs hsf (Or.inr ⟨_, _, _, _, by decide, c1, (by decide), (by decide), (by decide), (by decide), rfl, (by decide), (by decide), (by decide), (by decide), rfl, (by decide), (by decide), (by decide), (by decide), rfl, (own_H6 c1), (by decide), (by decide), (by decide), rfl, (own_H7 c1)⟩) (by decide) (Or.inl ⟨_, by decide, c2, (by decide), (by decide), (by decide), (by decide), rfl, (own_H1 c2)⟩) (by decide) (by decide)
      · exact rm0_2 l Z a0 hw ws p1 p2 p3 p4 ha kh cs sf (8 : Int32) [(.int (nar .byte ((92 : Int32).toInt8.toInt32))), (.int (nar .byte ((120 : Int32).toInt8.toInt32))), (.int (nar .byte ((own_k2 ((nar .byte (p1.toInt8.toInt32)) &&& (255 : Int32))).toInt8.toInt32))), (.int (nar .byte ((own_k3 ((nar .byte (p1.toInt8.toInt32)) &&& (255 : Int32))).toInt8.toInt32))), (.int (nar .byte ((92 : Int32).toInt8.toInt32))), (.int (nar .byte ((120 : Int32).toInt8.toInt32))), (.int (nar .byte ((own_k2 ((nar .byte (p2.toInt8.toInt32)) &&& (255 : Int32))).toInt8.toInt32))), (.int (nar .byte ((own_k3 ((nar .byte (p2.toInt8.toInt32)) &&& (255 : Int32))).toInt8.toInt32)))] (4 : Int32) (8 : Int32) (0 : Int32) h0 n0 Z0 S_HEX_DIGITS V_ha S_COMPACT_STRINGS S_SIOOBE_FORMATTER hk (fun l Z a0 hw ws a1 ha ka kh h0 n0 Z0 y0 y1 y2 y3 => rmEn_2_11 l Z a0 hw ws a1 ha ka kh cs (nar .byte (p1.toInt8.toInt32)) (nar .byte (p2.toInt8.toInt32)) h0 n0 Z0 y0 y1 y2 y3 hcs (own_cv c1) (own_H2 c1) (own_H3 c1) (own_H4 c1) (own_H5 c1) (own_cv c2) (own_H2 c2) (own_H3 c2) (own_H4 c2) (own_H5 c2)) hcs hsf (Or.inr ⟨_, _, _, _, by decide, c1, (by decide), (by decide), (by decide), (by decide), rfl, (by decide), (by decide), (by decide), (by decide), rfl, (by decide), (by decide), (by decide), (by decide), rfl, (own_H6 c1), (by decide), (by decide), (by decide), rfl, (own_H7 c1)⟩) (by decide) (Or.inr ⟨_, _, _, _, by decide, c2, (by decide), (by decide), (by decide), (by decide), rfl, (by decide), (by decide), (by decide), (by decide), rfl, (by decide), (by decide), (by decide), (by decide), rfl, (own_H6 c2), (by decide), (by decide), (by decide), rfl, (own_H7 c2)⟩) (by decide) (by decide)
  · rcases own_cls (p1 &&& (255 : Int32)) with c1 | c1
    · rcases own_cls (p2 &&& (255 : Int32)) with c2 | c2
      · rcases own_cls (p3 &&& (255 : Int32)) with c3 | c3
        · exact rm0_3 l Z a0 hw ws p1 p2 p3 p4 ha kh cs sf (3 : Int32) [(.int (nar .byte ((own_k0 ((nar .byte (p1.toInt8.toInt32)) &&& (255 : Int32))).toInt8.toInt32))), (.int (nar .byte ((own_k0 ((nar .byte (p2.toInt8.toInt32)) &&& (255 : Int32))).toInt8.toInt32))), (.int (nar .byte ((own_k0 ((nar .byte (p3.toInt8.toInt32)) &&& (255 : Int32))).toInt8.toInt32)))] (1 : Int32) (2 : Int32) (3 : Int32) h0 n0 Z0 S_HEX_DIGITS V_ha S_COMPACT_STRINGS S_SIOOBE_FORMATTER hk (fun l Z a0 hw ws a1 ha ka kh h0 n0 Z0 y0 y1 y2 y3 => rmEn_3_000 l Z a0 hw ws a1 ha ka kh cs (nar .byte (p1.toInt8.toInt32)) (nar .byte (p2.toInt8.toInt32)) (nar .byte (p3.toInt8.toInt32)) h0 n0 Z0 y0 y1 y2 y3 hcs (own_cw c1) (own_H0 c1) (own_cw c2) (own_H0 c2) (own_cw c3) (own_H0 c3)) hcs hsf (Or.inl ⟨_, by decide, c1, (by decide), (by decide), (by decide), (by decide), rfl, (own_H1 c1)⟩) (by decide) (Or.inl ⟨_, by decide, c2, (by decide), (by decide), (by decide), (by decide), rfl, (own_H1 c2)⟩) (by decide) (Or.inl ⟨_, by decide, c3, (by decide), (by decide), (by decide), (by decide), rfl, (own_H1 c3)⟩) (by decide) (by decide)
        · exact rm0_3 l Z a0 hw ws p1 p2 p3 p4 ha kh cs sf (6 : Int32) [(.int (nar .byte ((own_k0 ((nar .byte (p1.toInt8.toInt32)) &&& (255 : Int32))).toInt8.toInt32))), (.int (nar .byte ((own_k0 ((nar .byte (p2.toInt8.toInt32)) &&& (255 : Int32))).toInt8.toInt32))), (.int (nar .byte ((92 : Int32).toInt8.toInt32))), (.int (nar .byte ((120 : Int32).toInt8.toInt32))), (.int (nar .byte ((own_k2 ((nar .byte (p3.toInt8.toInt32)) &&& (255 : Int32))).toInt8.toInt32))), (.int (nar .byte ((own_k3 ((nar .byte (p3.toInt8.toInt32)) &&& (255 : Int32))).toInt8.toInt32)))] (1 : Int32) (2 : Int32) (6 : Int32) h0 n0 Z0 S_HEX_DIGITS V_ha S_COMPACT_STRINGS S_SIOOBE_FORMATTER hk (fun l Z a0 hw ws a1 ha ka kh h0 n0 Z0 y0 y1 y2 y3 => rmEn_3_001 l Z a0 hw ws a1 ha ka kh cs (nar .byte (p1.toInt8.toInt32)) (nar .byte (p2.toInt8.toInt32)) (nar .byte (p3.toInt8.toInt32)) h0 n0 Z0 y0 y1 y2 y3 hcs (own_cw c1) (own_H0 c1) (own_cw c2) (own_H0 c2) (own_cv c3) (own_H2 c3) (own_H3 c3) (own_H4 c3) (own_H5 c3)) hcs hsf (Or.inl ⟨_, by decide, c1, (by decide), (by decide), (by decide), (by decide), rfl, (own_H1 c1)⟩) (by decide) (Or.inl ⟨_, by decide, c2, (by decide), (by decide), (by decide), (by decide), rfl, (own_H1 c2)⟩) (by decide) (Or.inr ⟨_, _, _, _, by decide, c3, (by decide), (by decide), (by decide), (by decide), rfl, (by decide), (by decide), (by decide), (by decide), rfl, (by decide), (by decide), (by decide), (by decide), rfl, (own_H6 c3), (by decide), (by decide), (by decide), rfl, (own_H7 c3)⟩) (by decide) (by decide)
      · rcases own_cls (p3 &&& (255 : Int32)) with c3 | c3
        · exact rm0_3 l Z a0 hw ws p1 p2 p3 p4 ha kh cs sf (6 : Int32) [(.int (nar .byte ((own_k0 ((nar .byte (p1.toInt8.toInt32)) &&& (255 : Int32))).toInt8.toInt32))), (.int (nar .byte ((92 : Int32).toInt8.toInt32))), (.int (nar .byte ((120 : Int32).toInt8.toInt32))), (.int (nar .byte ((own_k2 ((nar .byte (p2.toInt8.toInt32)) &&& (255 : Int32))).toInt8.toInt32))), (.int (nar .byte ((own_k3 ((nar .byte (p2.toInt8.toInt32)) &&& (255 : Int32))).toInt8.toInt32))), (.int (nar .byte ((own_k0 ((nar .byte (p3.toInt8.toInt32)) &&& (255 : Int32))).toInt8.toInt32)))] (1 : Int32) (5 : Int32) (6 : Int32) h0 n0 Z0 S_HEX_DIGITS V_ha S_COMPACT_STRINGS S_SIOOBE_FORMATTER hk (fun l Z a0 hw ws a1 ha ka kh h0 n0 Z0 y0 y1 y2 y3 => rmEn_3_010 l Z a0 hw ws a1 ha ka kh cs (nar .byte (p1.toInt8.toInt32)) (nar .byte (p2.toInt8.toInt32)) (nar .byte (p3.toInt8.toInt32)) h0 n0 Z0 y0 y1 y2 y3 hcs (own_cw c1) (own_H0 c1) (own_cv c2) (own_H2 c2) (own_H3 c2) (own_H4 c2) (own_H5 c2) (own_cw c3) (own_H0 c3)) hcs hsf (Or.inl ⟨_, by decide, c1, (by decide), (by decide), (by decide), (by decide), rfl, (own_H1 c1)⟩) (by decide) (Or.inr ⟨_, _, _, _, by decide, c2, (by decide), (by decide), (by decide), (by decide), rfl, (by decide), (by decide), (by decide), (by decide), rfl, (by decide), (by decide), (by decide), (by decide), rfl, (own_H6 c2), (by decide), (by decide), (by decide), rfl, (own_H7 c2)⟩) (by decide) (Or.inl ⟨_, by decide, c3, (by decide), (by decide), (by decide), (by decide), rfl, (own_H1 c3)⟩) (by decide) (by decide)
        · exact rm0_3 l Z a0 hw ws p1 p2 p3 p4 ha kh cs sf (9 : Int32) [(.int (nar .byte ((own_k0 ((nar .byte (p1.toInt8.toInt32)) &&& (255 : Int32))).toInt8.toInt32))), (.int (nar .byte ((92 : Int32).toInt8.toInt32))), (.int (nar .byte ((120 : Int32).toInt8.toInt32))), (.int (nar .byte ((own_k2 ((nar .byte (p2.toInt8.toInt32)) &&& (255 : Int32))).toInt8.toInt32))), (.int (nar .byte ((own_k3 ((nar .byte (p2.toInt8.toInt32)) &&& (255 : Int32))).toInt8.toInt32))), (.int (nar .byte ((92 : Int32).toInt8.toInt32))), (.int (nar .byte ((120 : Int32).toInt8.toInt32))), (.int (nar .byte ((own_k2 ((nar .byte (p3.toInt8.toInt32)) &&& (255 : Int32))).toInt8.toInt32))), (.int (nar .byte ((own_k3 ((nar .byte (p3.toInt8.toInt32)) &&& (255 : Int32))).toInt8.toInt32)))] (1 : Int32) (5 : Int32) (9 : Int32) h0 n0 Z0 S_HEX_DIGITS V_ha S_COMPACT_STRINGS S_SIOOBE_FORMATTER hk (fun l Z a0 hw ws a1 ha ka kh h0 n0 Z0 y0 y1 y2 y3 => rmEn_3_011 l Z a0 hw ws a1 ha ka kh cs (nar .byte (p1.toInt8.toInt32)) (nar .byte (p2.toInt8.toInt32)) (nar .byte (p3.toInt8.toInt32)) h0 n0 Z0 y0 y1 y2 y3 hcs (own_cw c1) (own_H0 c1) (own_cv c2) (own_H2 c2) (own_H3 c2) (own_H4 c2) (own_H5 c2) (own_cv c3) (own_H2 c3) (own_H3 c3) (own_H4 c3) (own_H5 c3)) hcs hsf (Or.inl ⟨_, by decide, c1, (by decide), (by decide), (by decide), (by decide), rfl, (own_H1 c1)⟩) (by decide) (Or.inr ⟨_, _, _, _, by decide, c2, (by decide), (by decide), (by decide), (by decide), rfl, (by decide), (by decide), (by decide), (by decide), rfl, (by decide), (by decide), (by decide), (by decide), rfl, (own_H6 c2), (by decide), (by decide), (by decide), rfl, (own_H7 c2)⟩) (by decide) (Or.inr ⟨_, _, _, _, by decide, c3, (by decide), (by decide), (by decide), (by decide), rfl, (by decide), (by decide), (by decide), (by decide), rfl, (by decide), (by decide), (by decide), (by decide), rfl, (own_H6 c3), (by decide), (by decide), (by decide), rfl, (own_H7 c3)⟩) (by decide) (by decide)
    · rcases own_cls (p2 &&& (255 : Int32)) with c2 | c2
      · rcases own_cls (p3 &&& (255 : Int32)) with c3 | c3
        · exact rm0_3 l Z a0 hw ws p1 p2 p3 p4 ha kh cs sf (6 : Int32) [(.int (nar .byte ((92 : Int32).toInt8.toInt32))), (.int (nar .byte ((120 : Int32).toInt8.toInt32))), (.int (nar .byte ((own_k2 ((nar .byte (p1.toInt8.toInt32)) &&& (255 : Int32))).toInt8.toInt32))), (.int (nar .byte ((own_k3 ((nar .byte (p1.toInt8.toInt32)) &&& (255 : Int32))).toInt8.toInt32))), (.int (nar .byte ((own_k0 ((nar .byte (p2.toInt8.toInt32)) &&& (255 : Int32))).toInt8.toInt32))), (.int (nar .byte ((own_k0 ((nar .byte (p3.toInt8.toInt32)) &&& (255 : Int32))).toInt8.toInt32)))] (4 : Int32) (5 : Int32) (6 : Int32) h0 n0 Z0 S_HEX_DIGITS V_ha S_COMPACT_STRINGS S_SIOOBE_FORMATTER hk (fun l Z a0 hw ws a1 ha ka kh h0 n0 Z0 y0 y1 y2 y3 => rmEn_3_100 l Z a0 hw ws a1 ha ka kh cs (nar .byte (p1.toInt8.toInt32)) (nar .byte (p2.toInt8.toInt32)) (nar .byte (p3.toInt8.toInt32)) h0 n0 Z0 y0 y1 y2 y3 hcs (own_cv c1) (own_H2 c1) (own_H3 c1) (own_H4 c1) (own_H5 c1) (own_cw c2) (own_H0 c2) (own_cw c3) (own_H0 c3)) hcs hsf (Or.inr ⟨_, _, _, _, by decide, c1, (by decide), (by decide), (by decide), (by decide), rfl, (by decide), (by decide), (by decide), (by decide), rfl, (by decide), (by decide), (by decide), (by decide), rfl, (own_H6 c1), (by decide), (by decide), (by decide), rfl, (own_H7 c1)⟩) (by decide) (Or.inl ⟨_, by decide, c2, (by decide), (by decide), (by decide), (by decide), rfl, (own_H1 c2)⟩) (by decide) (Or.inl ⟨_, by decide, c3, (by decide), (by decide), (by decide), (by decide), rfl, (own_H1 c3)⟩) (by decide) (by decide)
        · exact rm0_3 l Z a0 hw ws p1 p2 p3 p4 ha kh cs sf (9 : Int32) [(.int (nar .byte ((92 : Int32).toInt8.toInt32))), (.int (nar .byte ((120 : Int32).toInt8.toInt32))), (.int (nar .byte ((own_k2 ((nar .byte (p1.toInt8.toInt32)) &&& (255 : Int32))).toInt8.toInt32))), (.int (nar .byte ((own_k3 ((nar .byte (p1.toInt8.toInt32)) &&& (255 : Int32))).toInt8.toInt32))), (.int (nar .byte ((own_k0 ((nar .byte (p2.toInt8.toInt32)) &&& (255 : Int32))).toInt8.toInt32))), (.int (nar .byte ((92 : Int32).toInt8.toInt32))), (.int (nar .byte ((120 : Int32).toInt8.toInt32))), (.int (nar .byte ((own_k2 ((nar .byte (p3.toInt8.toInt32)) &&& (255 : Int32))).toInt8.toInt32))), (.int (nar .byte ((own_k3 ((nar .byte (p3.toInt8.toInt32)) &&& (255 : Int32))).toInt8.toInt32)))] (4 : Int32) (5 : Int32) (9 : Int32) h0 n0 Z0 S_HEX_DIGITS V_ha S_COMPACT_STRINGS S_SIOOBE_FORMATTER hk (fun l Z a0 hw ws a1 ha ka kh h0 n0 Z0 y0 y1 y2 y3 => rmEn_3_101 l Z a0 hw ws a1 ha ka kh cs (nar .byte (p1.toInt8.toInt32)) (nar .byte (p2.toInt8.toInt32)) (nar .byte (p3.toInt8.toInt32)) h0 n0 Z0 y0 y1 y2 y3 hcs (own_cv c1) (own_H2 c1) (own_H3 c1) (own_H4 c1) (own_H5 c1) (own_cw c2) (own_H0 c2) (own_cv c3) (own_H2 c3) (own_H3 c3) (own_H4 c3) (own_H5 c3)) hcs hsf (Or.inr ⟨_, _, _, _, by decide, c1, (by decide), (by decide), (by decide), (by decide), rfl, (by decide), (by decide), (by decide), (by decide), rfl, (by decide), (by decide), (by decide), (by decide), rfl, (own_H6 c1), (by decide), (by decide), (by decide), rfl, (own_H7 c1)⟩) (by decide) (Or.inl ⟨_, by decide, c2, (by decide), (by decide), (by decide), (by decide), rfl, (own_H1 c2)⟩) (by decide) (Or.inr ⟨_, _, _, _, by decide, c3, (by decide), (by decide), (by decide), (by decide), rfl, (by decide), (by decide), (by decide), (by decide), rfl, (by decide), (by decide), (by decide), (by decide), rfl, (own_H6 c3), (by decide), (by decide), (by decide), rfl, (own_H7 c3)⟩) (by decide) (by decide)
      · rcases own_cls (p3 &&& (255 : Int32)) with c3 | c3
        · exact rm0_3 l Z a0 hw ws p1 p2 p3 p4 ha kh cs sf (9 : Int32) [(.int (nar .byte ((92 : Int32).toInt8.toInt32))), (.int (nar .byte ((120 : Int32).toInt8.toInt32))), (.int (nar .byte ((own_k2 ((nar .byte (p1.toInt8.toInt32)) &&& (255 : Int32))).toInt8.toInt32))), (.int (nar .byte ((own_k3 ((nar .byte (p1.toInt8.toInt32)) &&& (255 : Int32))).toInt8.toInt32))), (.int (nar .byte ((92 : Int32).toInt8.toInt32))), (.int (nar .byte ((120 : Int32).toInt8.toInt32))), (.int (nar .byte ((own_k2 ((nar .byte (p2.toInt8.toInt32)) &&& (255 : Int32))).toInt8.toInt32))), (.int (nar .byte ((own_k3 ((nar .byte (p2.toInt8.toInt32)) &&& (255 : Int32))).toInt8.toInt32))), (.int (nar .byte ((own_k0 ((nar .byte (p3.toInt8.toInt32)) &&& (255 : Int32))).toInt8.toInt32)))] (4 : Int32) (8 : Int32) (9 : Int32) h0 n0 Z0 S_HEX_DIGITS V_ha S_COMPACT_STRINGS S_SIOOBE_FORMATTER hk (fun l Z a0 hw ws a1 ha ka kh h0 n0 Z0 y0 y1 y2 y3 => rmEn_3_110 l Z a0 hw ws a1 ha ka kh cs (nar .byte (p1.toInt8.toInt32)) (nar .byte (p2.toInt8.toInt32)) (nar .byte (p3.toInt8.toInt32)) h0 n0 Z0 y0 y1 y2 y3 hcs (own_cv c1) (own_H2 c1) (own_H3 c1) (own_H4 c1) (own_H5 c1) (own_cv c2) (own_H2 c2) (own_H3 c2) (own_H4 c2) (own_H5 c2) (own_cw c3) (own_H0 c3)) hcs hsf (Or.inr ⟨_, _, _, _, by decide, c1, (by decide), (by decide), (by decide), (by decide), rfl, (by decide), (by decide), (by decide), (by decide), rfl, (by decide), (by decide), (by decide), (by decide), rfl, (own_H6 c1), (by decide), (by decide), (by decide), rfl, (own_H7 c1)⟩) (by decide) (Or.inr ⟨_, _, _, _, by decide, c2, (by decide), (by decide), (by decide), (by decide), rfl, (by decide), (by decide), (by decide), (by decide), rfl, (by decide), (by decide), (by decide), (by decide), rfl, (own_H6 c2), (by decide), (by decide), (by decide), rfl, (own_H7 c2)⟩) (by decide) (Or.inl ⟨_, by decide, c3, (by decide), (by decide), (by decide), (by decide), rfl, (own_H1 c3)⟩) (by decide) (by decide)
        · exact rm0_3 l Z a0 hw ws p1 p2 p3 p4 ha kh cs sf (12 : Int32) [(.int (nar .byte ((92 : Int32).toInt8.toInt32))), (.int (nar .byte ((120 : Int32).toInt8.toInt32))), (.int (nar .byte ((own_k2 ((nar .byte (p1.toInt8.toInt32)) &&& (255 : Int32))).toInt8.toInt32))), (.int (nar .byte ((own_k3 ((nar .byte (p1.toInt8.toInt32)) &&& (255 : Int32))).toInt8.toInt32))), (.int (nar .byte ((92 : Int32).toInt8.toInt32))), (.int (nar .byte ((120 : Int32).toInt8.toInt32))), (.int (nar .byte ((own_k2 ((nar .byte (p2.toInt8.toInt32)) &&& (255 : Int32))).toInt8.toInt32))), (.int (nar .byte ((own_k3 ((nar .byte (p2.toInt8.toInt32)) &&& (255 : Int32))).toInt8.toInt32))), (.int (nar .byte ((92 : Int32).toInt8.toInt32))), (.int (nar .byte ((120 : Int32).toInt8.toInt32))), (.int (nar .byte ((own_k2 ((nar .byte (p3.toInt8.toInt32)) &&& (255 : Int32))).toInt8.toInt32))), (.int (nar .byte ((own_k3 ((nar .byte (p3.toInt8.toInt32)) &&& (255 : Int32))).toInt8.toInt32)))] (4 : Int32) (8 : Int32) (12 : Int32) h0 n0 Z0 S_HEX_DIGITS V_ha S_COMPACT_STRINGS S_SIOOBE_FORMATTER hk (fun l Z a0 hw ws a1 ha ka kh h0 n0 Z0 y0 y1 y2 y3 => rmEn_3_111 l Z a0 hw ws a1 ha ka kh cs (nar .byte (p1.toInt8.toInt32)) (nar .byte (p2.toInt8.toInt32)) (nar .byte (p3.toInt8.toInt32)) h0 n0 Z0 y0 y1 y2 y3 hcs (own_cv c1) (own_H2 c1) (own_H3 c1) (own_H4 c1) (own_H5 c1) (own_cv c2) (own_H2 c2) (own_H3 c2) (own_H4 c2) (own_H5 c2) (own_cv c3) (own_H2 c3) (own_H3 c3) (own_H4 c3) (own_H5 c3)) hcs hsf (Or.inr ⟨_, _, _, _, by decide, c1, (by decide), (by decide), (by decide), (by decide), rfl, (by decide), (by decide), (by decide), (by decide), rfl, (by decide), (by decide), (by decide), (by decide), rfl, (own_H6 c1), (by decide), (by decide), (by decide), rfl, (own_H7 c1)⟩) (by decide) (Or.inr ⟨_, _, _, _, by decide, c2, (by decide), (by decide), (by decide), (by decide), rfl, (by decide), (by decide), (by decide), (by decide), rfl, (by decide), (by decide), (by decide), (by decide), rfl, (own_H6 c2), (by decide), (by decide), (by decide), rfl, (own_H7 c2)⟩) (by decide) (Or.inr ⟨_, _, _, _, by decide, c3, (by decide), (by decide), (by decide), (by decide), rfl, (by decide), (by decide), (by decide), (by decide), rfl, (by decide), (by decide), (by decide), (by decide), rfl, (own_H6 c3), (by decide), (by decide), (by decide), rfl, (own_H7 c3)⟩) (by decide) (by decide)
set_option maxRecDepth 65536 in
set_option maxHeartbeats 40000000 in
theorem comes_1 {Post : Tables → Env → Array Value → State → Outcome → State → Prop} (hpost : ∀ tb e args s v u, (limb_1_1.after args s (.returned v) u = true ∧ limb_1_2.after args s (.returned v) u = true ∧ True) → FrameEnd s (.returned v) u (Jvm.fieldLocs frame_1_writes args s ++ Jvm.arrayLocs frame_1_arrays args s ++ Jvm.staticLocs frame_1_statics s) 24 192 → Post tb e args s (.returned v) u) :
    ArmFor flags0 classFile x code maxLocals ret World_1 tables_1 room_1 Calls_1 rest_1 Pre_1 Post := by
  intro l hfl _ _ p e ha hc hk s m args below hf hA hF happ hP
  obtain ⟨hcalls, hrest, hpre⟩ := hP
  obtain ⟨-, -, -, hnamed, -, -, -, hat⟩ := (Spec.applies_iff hf).mp happ
  obtain ⟨hg, hn⟩ := and_e (Cond.before_iff.mp (show (Jvm.Cond.and given_1 narrow_1).before args s = true from hpre))
  obtain ⟨ga0, gb0⟩ := and_e hg
  obtain ⟨ga1, gb1⟩ := and_e gb0
  obtain ⟨ga2, gb2⟩ := and_e gb1
  obtain ⟨ga3, gb3⟩ := and_e gb2
  obtain ⟨w0, w1, w2, w3, rfl⟩ : ∃ w0 w1 w2 w3 : Value, args = #[w0, w1, w2, w3] := by
    have hs : args.size = 4 := by simpa [Cond.value, given_1] using ga0
    obtain ⟨L⟩ := args
    match L, hs with
    | [w0, w1, w2, w3], _ => exact ⟨w0, w1, w2, w3, rfl⟩
  have hw := fun d (hd : d ∈ tables_1) => atoms_spec (ws := Jvm.Cond.code x code maxLocals ret :: tables_1) hat d (List.mem_cons_of_mem _ hd)
  obtain ⟨i0, ei0⟩ := is_v ga1
  obtain rfl : w0 = (.int i0) := Option.some.inj ei0
  obtain ⟨i1, ei1⟩ := is_v ga2
  obtain rfl : w1 = (.int i1) := Option.some.inj ei1
  obtain ⟨i2, ei2⟩ := is_v ga3
  obtain rfl : w2 = (.int i2) := Option.some.inj ei2
  obtain ⟨i3, ei3⟩ := is_v gb3
  obtain rfl : w3 = (.int i3) := Option.some.inj ei3
  have hfit : Fit s := fun {y c} hc i hi => by
    obtain ⟨ha, rfl⟩ := Array.getElem?_eq_some_iff.mp hc
    have q := List.all_eq_true.mp ((Array.all_eq_true_iff_forall_mem.mp hF) _ (Array.getElem_mem ha)) i (List.mem_range.mpr hi)
    simpa [Array.getElem?_eq_getElem hi] using q
  obtain ⟨hsets, -⟩ := atoms_of _ (rest_1_c_eq ▸ (show rest_1_c.before _ s = true from hrest))
  have gs := fun (i : Nat) (d : Jvm.Cond) (h : jdkStatics_1[i]? = some d) => hsets d (List.mem_of_getElem? h)
  obtain ⟨cs, ecs⟩ := is_v (Cond.before_iff.mp (gs 1 _ rfl))
  have hcs : ¬ (cs = (0 : Int32)) := fun h => by
    have q := not_v (Cond.before_iff.mp (gs 2 _ rfl))
    rw [eq_i ecs (Term.int_eval 0) (by rw [h])] at q
    exact absurd q (by decide)
  obtain ⟨sf, esf, rsf⟩ := isR_v (Cond.before_iff.mp (gs 8 _ rfl))
  have hsf := ref_cases rsf
  have Scs := Sta.start ecs (Or.inl (gs 0 _ rfl))
  have Ssf := Sta.start esf (Or.inl (gs 7 _ rfl))
  obtain ⟨n1, hn⟩ := and_e hn
  obtain ⟨n2, hn⟩ := and_e hn
  obtain ⟨n3, n4⟩ := and_e hn
  obtain ⟨hxa, eha⟩ := arr_v n1
  have Sha := Sta.start eha (Or.inr ⟨hw _ (List.mem_of_getElem? (i := 3) rfl), hw _ (List.mem_of_getElem? (i := 79) rfl)⟩)
  obtain ⟨kh, Vha⟩ := own_hexA hfit (fun idx => eha) n1 n2 n3 n4
  obtain ⟨n, o, h1, h2, h3, _, L, rfl, ⟨rfl, N⟩, hq⟩ := rm0 l s _ hw tables_1 i0 i1 i2 i3 hxa kh cs sf s.heap s.heap.size (Nat.le_refl _) Sha Vha Scs Ssf hcs hsf p e ha hc hk s m _ below hf ((Spec.applies_iff_loose hf).mp happ).1 ⟨rfl, State.Warmed39.refl s, rfl⟩ trivial
  refine ⟨n, _, h1, h2, h3, hpost _ _ _ _ _ _ ⟨Cond.after_iff.mpr rfl, Cond.after_iff.mpr (eq_i res_at (Term.int_eval (1)) rfl), trivial⟩ ⟨hq.1, hq.2.1, (hq.2.2.sift fun y hy => Or.inr (N y hy)).mono (by decide) (by decide)⟩⟩
theorem main_1_1 : Claimed_1_1 := comes_1 fun _ _ _ _ _ _ h hF => ⟨h.1, hF⟩
theorem main_1_2 : Claimed_1_2 := comes_1 fun _ _ _ _ _ _ h hF => ⟨h.2.1, hF⟩
end Jvm.Pilot.@@N@@
namespace Jvm.Pilot.@@N@@
open Jvm Jvm.ClassFile Sem Op Lib Jvm.Free Jvm.Stand Jvm.Pilot.@@N@@.Jvm.D
/-! MADE BY PROGRAM (witnessworld.py) out of the Statement's table words and the real class files: 25 classes; the members and pool entries that the words name. The judged class is class 1, her method 1. -/
namespace start1
open Jvm.ClassFile
def u (s : String) : CpInfo := .utf8 (stringToUtf16 s)
/-- a pool by its gaps: so many unusable entries, then the entry; so many at the end -/
def gap : Nat → List CpInfo → List CpInfo
  | 0, r => r
  | n + 1, r => .unusable :: gap n r
def poolList (es : List (Nat × CpInfo)) (last : Nat) : List CpInfo := es.foldr (fun e r => gap e.1 (e.2 :: r)) (gap last [])
def pool (es : List (Nat × CpInfo)) (last : Nat) : Array CpInfo := ⟨poolList es last⟩
def fileOf (pool : Array CpInfo) (this : Nat) (attrs : Array Attribute := #[]) (ms : Array MethodInfo := #[]) (fl : Nat := 33) (sup : Nat := 0) (ifs : Array Nat := #[]) (fds : Array FieldInfo := #[]) : ClassFile where
  minorVersion := 0
  majorVersion := 65
  constantPool := pool
  accessFlags := fl
  thisClass := this
  superClass := sup
  interfaces := ifs
  fields := fds
  methods := ms
  attributes := attrs
def plain (name : String) (sup : Option ClassId) : Class where
  name := name
  kind := .ordinary
  loader := none
  accessFlags := 33
  super := sup
  interfaces := #[]
  cf := none
  fields := #[]
  methods := #[]
  instanceTypes := #[]
  staticTypes := #[]
  resolved := #[]
  callSites := []
  init := .initialized
  statics := none
  mirror := none

def pool0 : Array CpInfo := pool [(5, u "<init>"), (0, u "()V"), (1, .class_ 10), (1, u "java/lang/Object"), (85, u "clone"), (0, u "()Ljava/lang/Object;")] 26

def k0c0 : Code := { maxStack := 0, maxLocals := 1, code := object_method_1_code, exceptionTable := #[], attributes := #[] }
def k0m0 : Method := { name := "<init>", desc := "()V", sig := { parameters := [], returnType := none }, accessFlags := 1, code := some k0c0 }
def k0m1 : Method := { name := "clone", desc := "()Ljava/lang/Object;", sig := { parameters := [], returnType := some (.object "java/lang/Object") }, accessFlags := 260, code := none }
/-- java/lang/Object -/
def k0 : Class := { plain "java/lang/Object" none with
  accessFlags := 33
  interfaces := #[]
  cf := some (fileOf pool0 8 #[] #[{ accessFlags := 1, nameIndex := 5, descriptorIndex := 6, attributes := #[] }, { accessFlags := 260, nameIndex := 96, descriptorIndex := 97, attributes := #[] }] 33 0 #[] #[])
  fields := #[]
  methods := #[k0m0, k0m1]
  instanceTypes := #[]
  staticTypes := #[]
  resolved := Array.replicate 124 none
  statics := none }

def pool1 : Array CpInfo := pool [(2, .class_ 4), (1, u "java/lang/Object"), (0, u "<init>"), (0, u "()V"), (0, .methodref 8 9), (0, .class_ 10), (0, .nameAndType 11 12), (0, u "com/example/presplit/presplit/escape/BinaryEscape"), (0, u "encode"), (0, u "([B)Ljava/lang/String;"), (0, .methodref 14 15), (0, .class_ 16), (0, .nameAndType 17 18), (0, u "com/example/presplit/presplit/escape/BinaryEscapeEncodePinLaw"), (0, u "step"), (0, u "(Ljava/lang/String;II)I"), (0, .methodref 20 21), (0, .class_ 22), (0, .nameAndType 23 24), (0, u "java/lang/String"), (0, u "length"), (0, u "()I"), (0, .methodref 20 26), (0, .nameAndType 27 28), (0, u "charAt"), (0, u "(I)C"), (0, .methodref 14 30), (0, .nameAndType 31 28), (0, u "hex"), (2, u "law"), (0, u "(IIII)Z")] 5

def k1m0 : Method := { name := "<init>", desc := "()V", sig := { parameters := [], returnType := none }, accessFlags := 2, code := none }
def k1c1 : Code := { maxStack := 4, maxLocals := 8, code := code, exceptionTable := #[], attributes := #[] }
def k1m1 : Method := { name := "law", desc := "(IIII)Z", sig := { parameters := [.int, .int, .int, .int], returnType := some .boolean }, accessFlags := 9, code := some k1c1 }
def k1c2 : Code := { maxStack := 3, maxLocals := 3, code := method_3_code, exceptionTable := #[], attributes := #[] }
def k1m2 : Method := { name := "step", desc := "(Ljava/lang/String;II)I", sig := { parameters := [(.object "java/lang/String"), .int, .int], returnType := some .int }, accessFlags := 10, code := some k1c2 }
def k1c3 : Code := { maxStack := 3, maxLocals := 1, code := method_4_code, exceptionTable := #[], attributes := #[] }
def k1m3 : Method := { name := "hex", desc := "(I)C", sig := { parameters := [.int], returnType := some .char }, accessFlags := 10, code := some k1c3 }
/-- com/example/presplit/presplit/escape/BinaryEscapeEncodePinLaw -/
def k1 : Class := { plain "com/example/presplit/presplit/escape/BinaryEscapeEncodePinLaw" (some 0) with
  accessFlags := 49
  interfaces := #[]
  cf := some (fileOf pool1 14 #[] #[{ accessFlags := 2, nameIndex := 5, descriptorIndex := 6, attributes := #[] }, { accessFlags := 9, nameIndex := 34, descriptorIndex := 35, attributes := #[] }, { accessFlags := 10, nameIndex := 17, descriptorIndex := 18, attributes := #[] }, { accessFlags := 10, nameIndex := 31, descriptorIndex := 28, attributes := #[] }] 49 2 #[] #[])
  fields := #[]
  methods := #[k1m0, k1m1, k1m2, k1m3]
  instanceTypes := #[]
  staticTypes := #[]
  resolved := Array.replicate 41 none
  statics := none }

def pool2 : Array CpInfo := pool [(2, .class_ 4), (1, u "java/lang/Object"), (0, u "<init>"), (0, u "()V"), (0, .class_ 8), (0, u "java/lang/StringBuilder"), (0, .methodref 7 10), (0, .nameAndType 5 11), (0, u "(I)V"), (0, .methodref 7 13), (0, .nameAndType 14 15), (0, u "append"), (0, u "(C)Ljava/lang/StringBuilder;"), (0, .fieldref 17 18), (0, .class_ 19), (0, .nameAndType 20 21), (0, u "com/example/presplit/presplit/escape/BinaryEscape"), (0, u "HEX_DIGITS"), (0, u "[C"), (0, .methodref 7 23), (0, .nameAndType 24 25), (0, u "toString"), (0, u "()Ljava/lang/String;"), (29, u "ESCAPE_LENGTH"), (0, u "I"), (2, u "MALFORMED"), (0, u "Ljava/lang/String;"), (2, u "encode"), (0, u "([B)Ljava/lang/String;")] 9

def k2m0 : Method := { name := "<init>", desc := "()V", sig := { parameters := [], returnType := none }, accessFlags := 2, code := none }
def k2c1 : Code := { maxStack := 4, maxLocals := 7, code := prog_1_method_2_code, exceptionTable := #[], attributes := #[] }
def k2m1 : Method := { name := "encode", desc := "([B)Ljava/lang/String;", sig := { parameters := [(.array .byte)], returnType := some (.object "java/lang/String") }, accessFlags := 9, code := some k2c1 }
/-- com/example/presplit/presplit/escape/BinaryEscape -/
def k2 : Class := { plain "com/example/presplit/presplit/escape/BinaryEscape" (some 0) with
  accessFlags := 49
  interfaces := #[]
  cf := some (fileOf pool2 17 #[] #[{ accessFlags := 2, nameIndex := 5, descriptorIndex := 6, attributes := #[] }, { accessFlags := 9, nameIndex := 63, descriptorIndex := 64, attributes := #[] }] 49 2 #[] #[{ accessFlags := 26, nameIndex := 20, descriptorIndex := 21, attributes := #[] }, { accessFlags := 26, nameIndex := 55, descriptorIndex := 56, attributes := #[] }, { accessFlags := 26, nameIndex := 59, descriptorIndex := 60, attributes := #[] }])
  fields := #[{ name := "HEX_DIGITS", type := (.array .char), accessFlags := 26, slot := 0, constantValue := 0 }, { name := "ESCAPE_LENGTH", type := .int, accessFlags := 26, slot := 1, constantValue := 0 }, { name := "MALFORMED", type := (.object "java/lang/String"), accessFlags := 26, slot := 2, constantValue := 0 }]
  methods := #[k2m0, k2m1]
  instanceTypes := #[]
  staticTypes := #[(.array .char), .int, (.object "java/lang/String")]
  resolved := Array.replicate 74 none
  statics := some 0 }

def pool3 : Array CpInfo := pool [(1, .class_ 2), (0, u "java/lang/Appendable"), (0, .class_ 4), (0, u "java/lang/Object")] 9

/-- java/lang/Appendable -/
def k3 : Class := { plain "java/lang/Appendable" (some 0) with
  accessFlags := 1537
  interfaces := #[]
  cf := some (fileOf pool3 1 #[] #[] 1537 3 #[] #[])
  fields := #[]
  methods := #[]
  instanceTypes := #[]
  staticTypes := #[]
  resolved := Array.replicate 14 none
  statics := none }

def pool4 : Array CpInfo := pool [(2, .class_ 4), (1, u "java/lang/CharSequence"), (42, .class_ 48), (0, u "java/lang/CharSequence$1CodePointIterator"), (10, .class_ 60), (0, u "java/lang/CharSequence$1CharIterator"), (5, .class_ 67), (0, u "java/lang/Object")] 63

/-- java/lang/CharSequence -/
def k4 : Class := { plain "java/lang/CharSequence" (some 0) with
  accessFlags := 1537
  interfaces := #[]
  cf := some (fileOf pool4 2 #[.nestMembers #[47, 59]] #[] 1537 66 #[] #[])
  fields := #[]
  methods := #[]
  instanceTypes := #[]
  staticTypes := #[]
  resolved := Array.replicate 131 none
  statics := none }

def pool5 : Array CpInfo := pool [(1, .class_ 2), (0, u "java/lang/String"), (0, .methodref 4 5), (0, .class_ 6), (0, .nameAndType 7 8), (0, u "java/lang/Object"), (0, u "<init>"), (0, u "()V"), (1, .class_ 12), (1, u "java/lang/AbstractStringBuilder"), (0, u "EMPTYVALUE"), (0, u "[B"), (0, .fieldref 10 16), (0, .nameAndType 17 14), (0, u "value"), (0, .fieldref 1 19), (0, .nameAndType 20 21), (0, u "COMPACT_STRINGS"), (0, u "Z"), (0, .fieldref 10 23), (0, .nameAndType 24 25), (0, u "coder"), (0, u "B"), (8, u "length"), (0, u "()I"), (3, .integer 2147483647), (5, u "append"), (2, .class_ 49), (0, u "java/lang/CharSequence"), (25, u "maybeLatin1"), (3, .fieldref 10 80), (0, .nameAndType 81 82), (0, u "count"), (0, u "I"), (0, .methodref 10 84), (0, .nameAndType 85 86), (0, u "isLatin1"), (0, u "()Z"), (1, .class_ 90), (1, u "java/lang/StringLatin1"), (9, .methodref 10 101), (0, .nameAndType 102 103), (0, u "ensureCapacityInternal"), (0, u "(I)V"), (0, .methodref 10 105), (0, .nameAndType 106 107), (0, u "newCapacity"), (0, u "(I)I"), (0, .methodref 109 110), (0, .class_ 111), (0, .nameAndType 112 113), (0, u "java/util/Arrays"), (0, u "copyOf"), (0, u "([BI)[B"), (0, .methodref 115 116), (0, .class_ 117), (0, .nameAndType 118 119), (0, u "jdk/internal/util/ArraysSupport"), (0, u "newLength"), (0, u "(III)I"), (71, .methodref 88 192), (0, .nameAndType 193 194), (0, u "canEncode"), (0, u "(C)Z"), (97, u "(C)Ljava/lang/AbstractStringBuilder;"), (110, u "()[B"), (40, .class_ 445), (0, u "java/lang/Appendable"), (106, u "getValue")] 56

def k5m0 : Method := { name := "<init>", desc := "()V", sig := { parameters := [], returnType := none }, accessFlags := 0, code := none }
def k5c1 : Code := { maxStack := 2, maxLocals := 2, code := jdk_68_method_2_code, exceptionTable := #[], attributes := #[] }
def k5m1 : Method := { name := "<init>", desc := "(I)V", sig := { parameters := [.int], returnType := none }, accessFlags := 0, code := some k5c1 }
def k5c2 : Code := { maxStack := 1, maxLocals := 1, code := jdk_68_method_6_code, exceptionTable := #[], attributes := #[] }
def k5m2 : Method := { name := "length", desc := "()I", sig := { parameters := [], returnType := some .int }, accessFlags := 1, code := some k5c2 }
def k5c3 : Code := { maxStack := 4, maxLocals := 3, code := jdk_68_method_9_code, exceptionTable := #[], attributes := #[] }
def k5m3 : Method := { name := "ensureCapacityInternal", desc := "(I)V", sig := { parameters := [.int], returnType := none }, accessFlags := 2, code := some k5c3 }
def k5c4 : Code := { maxStack := 5, maxLocals := 6, code := jdk_68_method_10_code, exceptionTable := #[], attributes := #[] }
def k5m4 : Method := { name := "newCapacity", desc := "(I)I", sig := { parameters := [.int], returnType := some .int }, accessFlags := 2, code := some k5c4 }
def k5c5 : Code := { maxStack := 5, maxLocals := 2, code := jdk_68_method_31_code, exceptionTable := #[], attributes := #[] }
def k5m5 : Method := { name := "append", desc := "(C)Ljava/lang/AbstractStringBuilder;", sig := { parameters := [.char], returnType := some (.object "java/lang/AbstractStringBuilder") }, accessFlags := 1, code := some k5c5 }
def k5c6 : Code := { maxStack := 1, maxLocals := 1, code := jdk_68_method_64_code, exceptionTable := #[], attributes := #[] }
def k5m6 : Method := { name := "getValue", desc := "()[B", sig := { parameters := [], returnType := some (.array .byte) }, accessFlags := 16, code := some k5c6 }
def k5c7 : Code := { maxStack := 1, maxLocals := 1, code := jdk_68_method_68_code, exceptionTable := #[], attributes := #[] }
def k5m7 : Method := { name := "isLatin1", desc := "()Z", sig := { parameters := [], returnType := some .boolean }, accessFlags := 16, code := some k5c7 }
/-- java/lang/AbstractStringBuilder -/
def k5 : Class := { plain "java/lang/AbstractStringBuilder" (some 0) with
  accessFlags := 1056
  interfaces := #[3, 4]
  cf := some (fileOf pool5 10 #[] #[{ accessFlags := 0, nameIndex := 7, descriptorIndex := 8, attributes := #[] }, { accessFlags := 0, nameIndex := 7, descriptorIndex := 103, attributes := #[] }, { accessFlags := 1, nameIndex := 34, descriptorIndex := 35, attributes := #[] }, { accessFlags := 2, nameIndex := 102, descriptorIndex := 103, attributes := #[] }, { accessFlags := 2, nameIndex := 106, descriptorIndex := 107, attributes := #[] }, { accessFlags := 1, nameIndex := 45, descriptorIndex := 292, attributes := #[] }, { accessFlags := 16, nameIndex := 552, descriptorIndex := 403, attributes := #[] }, { accessFlags := 16, nameIndex := 85, descriptorIndex := 86, attributes := #[] }] 1056 4 #[444, 48] #[{ accessFlags := 0, nameIndex := 17, descriptorIndex := 14, attributes := #[] }, { accessFlags := 0, nameIndex := 24, descriptorIndex := 25, attributes := #[] }, { accessFlags := 0, nameIndex := 75, descriptorIndex := 21, attributes := #[] }, { accessFlags := 0, nameIndex := 81, descriptorIndex := 82, attributes := #[] }, { accessFlags := 26, nameIndex := 13, descriptorIndex := 14, attributes := #[] }])
  fields := #[{ name := "value", type := (.array .byte), accessFlags := 0, slot := 0, constantValue := 0 }, { name := "coder", type := .byte, accessFlags := 0, slot := 1, constantValue := 0 }, { name := "maybeLatin1", type := .boolean, accessFlags := 0, slot := 2, constantValue := 0 }, { name := "count", type := .int, accessFlags := 0, slot := 3, constantValue := 0 }, { name := "EMPTYVALUE", type := (.array .byte), accessFlags := 26, slot := 0, constantValue := 0 }]
  methods := #[k5m0, k5m1, k5m2, k5m3, k5m4, k5m5, k5m6, k5m7]
  instanceTypes := #[(.array .byte), .byte, .boolean, .int]
  staticTypes := #[(.array .byte)]
  resolved := Array.replicate 609 none
  statics := none }

def pool6 : Array CpInfo := pool [(1, .class_ 2), (0, u "java/io/Serializable"), (0, .class_ 4), (0, u "java/lang/Object")] 2

/-- java/io/Serializable -/
def k6 : Class := { plain "java/io/Serializable" (some 0) with
  accessFlags := 1537
  interfaces := #[]
  cf := some (fileOf pool6 1 #[] #[] 1537 3 #[] #[])
  fields := #[]
  methods := #[]
  instanceTypes := #[]
  staticTypes := #[]
  resolved := Array.replicate 7 none
  statics := none }

def pool7 : Array CpInfo := pool [(1, .class_ 2), (0, u "java/lang/Comparable"), (0, .class_ 4), (0, u "java/lang/Object")] 7

/-- java/lang/Comparable -/
def k7 : Class := { plain "java/lang/Comparable" (some 0) with
  accessFlags := 1537
  interfaces := #[]
  cf := some (fileOf pool7 1 #[] #[] 1537 3 #[] #[])
  fields := #[]
  methods := #[]
  instanceTypes := #[]
  staticTypes := #[]
  resolved := Array.replicate 12 none
  statics := none }

def pool8 : Array CpInfo := pool [(1, .methodref 2 3), (0, .class_ 4), (0, .nameAndType 5 6), (0, u "java/lang/AbstractStringBuilder"), (0, u "<init>"), (0, u "(I)V"), (11, .class_ 20), (1, u "java/lang/String"), (3, .class_ 26), (1, u "java/lang/StringBuilder"), (0, u "append"), (22, .methodref 2 51), (0, .nameAndType 27 52), (0, u "(C)Ljava/lang/AbstractStringBuilder;"), (84, .methodref 18 138), (0, .nameAndType 5 139), (0, u "(Ljava/lang/StringBuilder;)V"), (5, u "()V"), (10, u "()I"), (129, u "(C)Ljava/lang/StringBuilder;"), (56, .methodref 2 344), (0, .nameAndType 345 156), (0, u "length"), (3, .class_ 350), (0, u "java/lang/Appendable"), (0, .class_ 352), (0, u "java/io/Serializable"), (0, .class_ 354), (0, u "java/lang/Comparable"), (0, .class_ 356), (0, u "java/lang/CharSequence"), (0, u "serialVersionUID"), (0, u "J"), (40, u "toString"), (0, u "()Ljava/lang/String;")] 21

def k8m0 : Method := { name := "<init>", desc := "()V", sig := { parameters := [], returnType := none }, accessFlags := 1, code := none }
def k8c1 : Code := { maxStack := 2, maxLocals := 2, code := jdk_67_method_2_code, exceptionTable := #[], attributes := #[] }
def k8m1 : Method := { name := "<init>", desc := "(I)V", sig := { parameters := [.int], returnType := none }, accessFlags := 1, code := some k8c1 }
def k8c2 : Code := { maxStack := 2, maxLocals := 2, code := jdk_67_method_14_code, exceptionTable := #[], attributes := #[] }
def k8m2 : Method := { name := "append", desc := "(C)Ljava/lang/StringBuilder;", sig := { parameters := [.char], returnType := some (.object "java/lang/StringBuilder") }, accessFlags := 1, code := some k8c2 }
def k8c3 : Code := { maxStack := 3, maxLocals := 1, code := jdk_67_method_42_code, exceptionTable := #[], attributes := #[] }
def k8m3 : Method := { name := "toString", desc := "()Ljava/lang/String;", sig := { parameters := [], returnType := some (.object "java/lang/String") }, accessFlags := 1, code := some k8c3 }
def k8c4 : Code := { maxStack := 1, maxLocals := 1, code := jdk_67_method_93_code, exceptionTable := #[], attributes := #[] }
def k8m4 : Method := { name := "length", desc := "()I", sig := { parameters := [], returnType := some .int }, accessFlags := 4161, code := some k8c4 }
/-- java/lang/StringBuilder -/
def k8 : Class := { plain "java/lang/StringBuilder" (some 5) with
  accessFlags := 49
  interfaces := #[3, 6, 7, 4]
  cf := some (fileOf pool8 24 #[] #[{ accessFlags := 1, nameIndex := 5, descriptorIndex := 145, attributes := #[] }, { accessFlags := 1, nameIndex := 5, descriptorIndex := 6, attributes := #[] }, { accessFlags := 1, nameIndex := 27, descriptorIndex := 286, attributes := #[] }, { accessFlags := 1, nameIndex := 399, descriptorIndex := 400, attributes := #[] }, { accessFlags := 4161, nameIndex := 345, descriptorIndex := 156, attributes := #[] }] 49 2 #[349, 351, 353, 355] #[{ accessFlags := 24, nameIndex := 357, descriptorIndex := 358, attributes := #[] }])
  fields := #[{ name := "serialVersionUID", type := .long, accessFlags := 24, slot := 0, constantValue := 0 }]
  methods := #[k8m0, k8m1, k8m2, k8m3, k8m4]
  instanceTypes := #[(.array .byte), .byte, .boolean, .int]
  staticTypes := #[.long]
  resolved := Array.replicate 422 none
  statics := none }

def pool9 : Array CpInfo := pool [(1, .class_ 2), (0, u "java/lang/constant/Constable"), (0, .class_ 4), (0, u "java/lang/Object")] 6

/-- java/lang/constant/Constable -/
def k9 : Class := { plain "java/lang/constant/Constable" (some 0) with
  accessFlags := 1537
  interfaces := #[]
  cf := some (fileOf pool9 1 #[] #[] 1537 3 #[] #[])
  fields := #[]
  methods := #[]
  instanceTypes := #[]
  staticTypes := #[]
  resolved := Array.replicate 11 none
  statics := none }

def pool10 : Array CpInfo := pool [(1, .class_ 2), (0, u "java/lang/constant/ConstantDesc"), (0, .class_ 4), (0, u "java/lang/Object")] 32

/-- java/lang/constant/ConstantDesc -/
def k10 : Class := { plain "java/lang/constant/ConstantDesc" (some 0) with
  accessFlags := 1537
  interfaces := #[]
  cf := some (fileOf pool10 1 #[] #[] 1537 3 #[] #[])
  fields := #[]
  methods := #[]
  instanceTypes := #[]
  staticTypes := #[]
  resolved := Array.replicate 37 none
  statics := none }

def pool11 : Array CpInfo := pool [(1, .methodref 2 3), (0, .class_ 4), (0, .nameAndType 5 6), (0, u "java/lang/Object"), (0, u "<init>"), (0, u "()V"), (2, .fieldref 10 11), (0, .class_ 12), (0, .nameAndType 13 14), (0, u "java/lang/String"), (0, u "value"), (0, u "[B"), (0, .fieldref 10 16), (0, .nameAndType 17 18), (0, u "coder"), (0, u "B"), (2, u "hash"), (0, u "I"), (2, u "hashIsZero"), (0, u "Z"), (11, .fieldref 10 39), (0, .nameAndType 40 26), (0, u "COMPACT_STRINGS"), (13, .methodref 55 56), (0, .class_ 57), (0, .nameAndType 58 59), (0, u "java/util/Arrays"), (0, u "copyOfRange"), (0, u "([BII)[B"), (47, .class_ 109), (1, u "java/lang/StringLatin1"), (32, u "()Z"), (191, u "()I"), (0, .methodref 10 336), (0, .nameAndType 17 337), (0, u "()B"), (2, u "()[B"), (22, u "([BI)C"), (27, u "(II)V"), (35, u "(I)C"), (61, .methodref 10 490), (0, .nameAndType 5 491), (0, u "(Ljava/lang/AbstractStringBuilder;Ljava/lang/Void;)V"), (0, .methodref 10 493), (0, .nameAndType 494 142), (0, u "isLatin1"), (0, .methodref 107 496), (0, .nameAndType 497 363), (0, u "charAt"), (3, u "checkIndex"), (4, .nameAndType 507 334), (0, u "length"), (41, .methodref 550 506), (0, .class_ 551), (0, u "java/lang/AbstractStringBuilder"), (0, .methodref 550 553), (0, .nameAndType 554 340), (0, u "getValue"), (20, .class_ 576), (0, u "java/lang/CharSequence"), (22, u "CASE_INSENSITIVE_ORDER"), (0, u "Ljava/util/Comparator;"), (446, .methodref 550 493), (5, .fieldref 1054 1055), (0, .class_ 1056), (0, .nameAndType 1057 1058), (0, u "jdk/internal/util/Preconditions"), (0, u "SIOOBE_FORMATTER"), (0, u "Ljava/util/function/BiFunction;"), (0, .methodref 1054 1060), (0, .nameAndType 501 1061), (0, u "(IILjava/util/function/BiFunction;)I"), (39, u "serialPersistentFields"), (0, u "[Ljava/io/ObjectStreamField;"), (0, .class_ 1104), (0, u "java/lang/String$CaseInsensitiveComparator"), (1, .class_ 1107), (0, u "java/io/Serializable"), (0, .class_ 1109), (0, u "java/lang/Comparable"), (0, .class_ 1111), (0, u "java/lang/constant/Constable"), (0, .class_ 1113), (0, u "java/lang/constant/ConstantDesc"), (2, u "serialVersionUID"), (0, u "J"), (3, u "REPL"), (0, u "C"), (2, u "LATIN1"), (1, u "UTF16"), (105, u "(Ljava/lang/StringBuilder;)V")] 217

def k11m0 : Method := { name := "<init>", desc := "()V", sig := { parameters := [], returnType := none }, accessFlags := 1, code := none }
def k11c1 : Code := { maxStack := 3, maxLocals := 2, code := jdk_42_method_53_code, exceptionTable := #[], attributes := #[] }
def k11m1 : Method := { name := "<init>", desc := "(Ljava/lang/StringBuilder;)V", sig := { parameters := [(.object "java/lang/StringBuilder")], returnType := none }, accessFlags := 1, code := some k11c1 }
def k11c2 : Code := { maxStack := 2, maxLocals := 1, code := jdk_42_method_54_code, exceptionTable := #[], attributes := #[] }
def k11m2 : Method := { name := "length", desc := "()I", sig := { parameters := [], returnType := some .int }, accessFlags := 1, code := some k11c2 }
def k11c3 : Code := { maxStack := 2, maxLocals := 2, code := jdk_42_method_56_code, exceptionTable := #[], attributes := #[] }
def k11m3 : Method := { name := "charAt", desc := "(I)C", sig := { parameters := [.int], returnType := some .char }, accessFlags := 1, code := some k11c3 }
def k11c4 : Code := { maxStack := 5, maxLocals := 5, code := jdk_42_method_150_code, exceptionTable := #[], attributes := #[] }
def k11m4 : Method := { name := "<init>", desc := "(Ljava/lang/AbstractStringBuilder;Ljava/lang/Void;)V", sig := { parameters := [(.object "java/lang/AbstractStringBuilder"), (.object "java/lang/Void")], returnType := none }, accessFlags := 0, code := some k11c4 }
def k11c5 : Code := { maxStack := 1, maxLocals := 1, code := jdk_42_method_152_code, exceptionTable := #[], attributes := #[] }
def k11m5 : Method := { name := "coder", desc := "()B", sig := { parameters := [], returnType := some .byte }, accessFlags := 0, code := some k11c5 }
def k11c6 : Code := { maxStack := 1, maxLocals := 1, code := jdk_42_method_154_code, exceptionTable := #[], attributes := #[] }
def k11m6 : Method := { name := "isLatin1", desc := "()Z", sig := { parameters := [], returnType := some .boolean }, accessFlags := 0, code := some k11c6 }
def k11c7 : Code := { maxStack := 3, maxLocals := 2, code := jdk_42_method_155_code, exceptionTable := #[], attributes := #[] }
def k11m7 : Method := { name := "checkIndex", desc := "(II)V", sig := { parameters := [.int, .int], returnType := none }, accessFlags := 8, code := some k11c7 }
/-- java/lang/String -/
def k11 : Class := { plain "java/lang/String" (some 0) with
  accessFlags := 49
  interfaces := #[6, 7, 4, 9, 10]
  cf := some (fileOf pool11 10 #[.nestMembers #[1103]] #[{ accessFlags := 1, nameIndex := 5, descriptorIndex := 6, attributes := #[] }, { accessFlags := 1, nameIndex := 5, descriptorIndex := 1233, attributes := #[] }, { accessFlags := 1, nameIndex := 507, descriptorIndex := 334, attributes := #[] }, { accessFlags := 1, nameIndex := 497, descriptorIndex := 427, attributes := #[] }, { accessFlags := 0, nameIndex := 5, descriptorIndex := 491, attributes := #[] }, { accessFlags := 0, nameIndex := 17, descriptorIndex := 337, attributes := #[] }, { accessFlags := 0, nameIndex := 494, descriptorIndex := 142, attributes := #[] }, { accessFlags := 8, nameIndex := 501, descriptorIndex := 391, attributes := #[] }] 49 2 #[1106, 1108, 575, 1110, 1112] #[{ accessFlags := 18, nameIndex := 13, descriptorIndex := 14, attributes := #[] }, { accessFlags := 18, nameIndex := 17, descriptorIndex := 18, attributes := #[] }, { accessFlags := 2, nameIndex := 21, descriptorIndex := 22, attributes := #[] }, { accessFlags := 2, nameIndex := 25, descriptorIndex := 26, attributes := #[] }, { accessFlags := 26, nameIndex := 1116, descriptorIndex := 1117, attributes := #[] }, { accessFlags := 24, nameIndex := 40, descriptorIndex := 26, attributes := #[] }, { accessFlags := 26, nameIndex := 1101, descriptorIndex := 1102, attributes := #[] }, { accessFlags := 26, nameIndex := 1121, descriptorIndex := 1122, attributes := #[] }, { accessFlags := 25, nameIndex := 599, descriptorIndex := 600, attributes := #[] }, { accessFlags := 24, nameIndex := 1125, descriptorIndex := 18, attributes := #[] }, { accessFlags := 24, nameIndex := 1127, descriptorIndex := 18, attributes := #[] }])
  fields := #[{ name := "value", type := (.array .byte), accessFlags := 18, slot := 0, constantValue := 0 }, { name := "coder", type := .byte, accessFlags := 18, slot := 1, constantValue := 0 }, { name := "hash", type := .int, accessFlags := 2, slot := 2, constantValue := 0 }, { name := "hashIsZero", type := .boolean, accessFlags := 2, slot := 3, constantValue := 0 }, { name := "serialVersionUID", type := .long, accessFlags := 26, slot := 0, constantValue := 0 }, { name := "COMPACT_STRINGS", type := .boolean, accessFlags := 24, slot := 1, constantValue := 0 }, { name := "serialPersistentFields", type := (.array (.object "java/io/ObjectStreamField")), accessFlags := 26, slot := 2, constantValue := 0 }, { name := "REPL", type := .char, accessFlags := 26, slot := 3, constantValue := 0 }, { name := "CASE_INSENSITIVE_ORDER", type := (.object "java/util/Comparator"), accessFlags := 25, slot := 4, constantValue := 0 }, { name := "LATIN1", type := .byte, accessFlags := 24, slot := 5, constantValue := 0 }, { name := "UTF16", type := .byte, accessFlags := 24, slot := 6, constantValue := 0 }]
  methods := #[k11m0, k11m1, k11m2, k11m3, k11m4, k11m5, k11m6, k11m7]
  instanceTypes := #[(.array .byte), .byte, .int, .boolean]
  staticTypes := #[.long, .boolean, (.array (.object "java/io/ObjectStreamField")), .char, (.object "java/util/Comparator"), .byte, .byte]
  resolved := Array.replicate 1451 none
  statics := some 1 }

def pool12 : Array CpInfo := pool [(1, .class_ 2), (0, u "java/lang/String"), (1, .class_ 6), (1, u "java/lang/Object"), (0, u "<init>"), (0, u "()V"), (0, .methodref 1 10), (0, .nameAndType 11 12), (0, u "checkIndex"), (0, u "(II)V"), (1, .class_ 16), (1, u "java/lang/StringLatin1"), (36, u "([BI)C"), (36, u "canEncode"), (14, u "(C)Z"), (15, u "$assertionsDisabled"), (0, u "Z"), (98, .class_ 223), (1, u "java/lang/StringLatin1$LinesSpliterator"), (28, u "charAt"), (137, .class_ 391), (0, u "java/lang/StringLatin1$CharsSpliterator")] 3

def k12m0 : Method := { name := "<init>", desc := "()V", sig := { parameters := [], returnType := none }, accessFlags := 0, code := none }
def k12c1 : Code := { maxStack := 2, maxLocals := 2, code := jdk_43_method_2_code, exceptionTable := #[], attributes := #[] }
def k12m1 : Method := { name := "charAt", desc := "([BI)C", sig := { parameters := [(.array .byte), .int], returnType := some .char }, accessFlags := 9, code := some k12c1 }
def k12c2 : Code := { maxStack := 2, maxLocals := 1, code := jdk_43_method_3_code, exceptionTable := #[], attributes := #[] }
def k12m2 : Method := { name := "canEncode", desc := "(C)Z", sig := { parameters := [.char], returnType := some .boolean }, accessFlags := 9, code := some k12c2 }
/-- java/lang/StringLatin1 -/
def k12 : Class := { plain "java/lang/StringLatin1" (some 0) with
  accessFlags := 48
  interfaces := #[]
  cf := some (fileOf pool12 14 #[.nestMembers #[390, 221]] #[{ accessFlags := 0, nameIndex := 7, descriptorIndex := 8, attributes := #[] }, { accessFlags := 9, nameIndex := 252, descriptorIndex := 53, attributes := #[] }, { accessFlags := 9, nameIndex := 90, descriptorIndex := 105, attributes := #[] }] 48 4 #[] #[{ accessFlags := 4120, nameIndex := 121, descriptorIndex := 122, attributes := #[] }])
  fields := #[{ name := "$assertionsDisabled", type := .boolean, accessFlags := 4120, slot := 0, constantValue := 0 }]
  methods := #[k12m0, k12m1, k12m2]
  instanceTypes := #[]
  staticTypes := #[.boolean]
  resolved := Array.replicate 395 none
  statics := none }

def pool13 : Array CpInfo := pool [(9, u "<init>"), (6, .class_ 18), (1, u "java/lang/Object"), (0, u "()V"), (1, .class_ 23), (1, u "jdk/internal/util/ArraysSupport"), (0, u "LOG2_ARRAY_LONG_INDEX_SCALE"), (0, u "I"), (2, u "U"), (0, u "Ljdk/internal/misc/Unsafe;"), (8, u "BIG_ENDIAN"), (0, u "Z"), (8, u "LOG2_BYTE_BIT_SIZE"), (4, u "LOG2_ARRAY_INT_INDEX_SCALE"), (54, u "JLA"), (0, u "Ljdk/internal/access/JavaLangAccess;"), (11, u "LOG2_ARRAY_BOOLEAN_INDEX_SCALE"), (9, u "LOG2_ARRAY_BYTE_INDEX_SCALE"), (5, u "LOG2_ARRAY_CHAR_INDEX_SCALE"), (5, u "LOG2_ARRAY_SHORT_INDEX_SCALE"), (18, u "LOG2_ARRAY_FLOAT_INDEX_SCALE"), (24, u "LOG2_ARRAY_DOUBLE_INDEX_SCALE"), (6, .methodref 195 196), (0, .class_ 197), (0, .nameAndType 198 199), (0, u "java/lang/Math"), (0, u "max"), (0, u "(II)I"), (0, .integer 2147483639), (76, u "T_BOOLEAN"), (2, u "T_CHAR"), (1, u "T_FLOAT"), (1, u "T_DOUBLE"), (1, u "T_BYTE"), (1, u "T_SHORT"), (1, u "T_INT"), (1, u "T_LONG"), (1, u "SOFT_MAX_ARRAY_LENGTH"), (56, u "newLength"), (0, u "(III)I")] 25

def k13m0 : Method := { name := "<init>", desc := "()V", sig := { parameters := [], returnType := none }, accessFlags := 2, code := none }
def k13c1 : Code := { maxStack := 3, maxLocals := 4, code := jdk_48_method_27_code, exceptionTable := #[], attributes := #[] }
def k13m1 : Method := { name := "newLength", desc := "(III)I", sig := { parameters := [.int, .int, .int], returnType := some .int }, accessFlags := 9, code := some k13c1 }
/-- jdk/internal/util/ArraysSupport -/
def k13 : Class := { plain "jdk/internal/util/ArraysSupport" (some 0) with
  accessFlags := 33
  interfaces := #[]
  cf := some (fileOf pool13 21 #[] #[{ accessFlags := 2, nameIndex := 9, descriptorIndex := 19, attributes := #[] }, { accessFlags := 9, nameIndex := 351, descriptorIndex := 352, attributes := #[] }] 33 16 #[] #[{ accessFlags := 24, nameIndex := 28, descriptorIndex := 29, attributes := #[] }, { accessFlags := 26, nameIndex := 38, descriptorIndex := 39, attributes := #[] }, { accessFlags := 25, nameIndex := 121, descriptorIndex := 25, attributes := #[] }, { accessFlags := 25, nameIndex := 131, descriptorIndex := 25, attributes := #[] }, { accessFlags := 25, nameIndex := 137, descriptorIndex := 25, attributes := #[] }, { accessFlags := 25, nameIndex := 143, descriptorIndex := 25, attributes := #[] }, { accessFlags := 25, nameIndex := 53, descriptorIndex := 25, attributes := #[] }, { accessFlags := 25, nameIndex := 24, descriptorIndex := 25, attributes := #[] }, { accessFlags := 25, nameIndex := 162, descriptorIndex := 25, attributes := #[] }, { accessFlags := 25, nameIndex := 187, descriptorIndex := 25, attributes := #[] }, { accessFlags := 26, nameIndex := 48, descriptorIndex := 25, attributes := #[] }, { accessFlags := 25, nameIndex := 277, descriptorIndex := 25, attributes := #[] }, { accessFlags := 25, nameIndex := 280, descriptorIndex := 25, attributes := #[] }, { accessFlags := 25, nameIndex := 282, descriptorIndex := 25, attributes := #[] }, { accessFlags := 25, nameIndex := 284, descriptorIndex := 25, attributes := #[] }, { accessFlags := 25, nameIndex := 286, descriptorIndex := 25, attributes := #[] }, { accessFlags := 25, nameIndex := 288, descriptorIndex := 25, attributes := #[] }, { accessFlags := 25, nameIndex := 290, descriptorIndex := 25, attributes := #[] }, { accessFlags := 25, nameIndex := 292, descriptorIndex := 25, attributes := #[] }, { accessFlags := 26, nameIndex := 108, descriptorIndex := 109, attributes := #[] }, { accessFlags := 25, nameIndex := 294, descriptorIndex := 25, attributes := #[] }])
  fields := #[{ name := "U", type := (.object "jdk/internal/misc/Unsafe"), accessFlags := 24, slot := 0, constantValue := 0 }, { name := "BIG_ENDIAN", type := .boolean, accessFlags := 26, slot := 1, constantValue := 0 }, { name := "LOG2_ARRAY_BOOLEAN_INDEX_SCALE", type := .int, accessFlags := 25, slot := 2, constantValue := 0 }, { name := "LOG2_ARRAY_BYTE_INDEX_SCALE", type := .int, accessFlags := 25, slot := 3, constantValue := 0 }, { name := "LOG2_ARRAY_CHAR_INDEX_SCALE", type := .int, accessFlags := 25, slot := 4, constantValue := 0 }, { name := "LOG2_ARRAY_SHORT_INDEX_SCALE", type := .int, accessFlags := 25, slot := 5, constantValue := 0 }, { name := "LOG2_ARRAY_INT_INDEX_SCALE", type := .int, accessFlags := 25, slot := 6, constantValue := 0 }, { name := "LOG2_ARRAY_LONG_INDEX_SCALE", type := .int, accessFlags := 25, slot := 7, constantValue := 0 }, { name := "LOG2_ARRAY_FLOAT_INDEX_SCALE", type := .int, accessFlags := 25, slot := 8, constantValue := 0 }, { name := "LOG2_ARRAY_DOUBLE_INDEX_SCALE", type := .int, accessFlags := 25, slot := 9, constantValue := 0 }, { name := "LOG2_BYTE_BIT_SIZE", type := .int, accessFlags := 26, slot := 10, constantValue := 0 }, { name := "T_BOOLEAN", type := .int, accessFlags := 25, slot := 11, constantValue := 0 }, { name := "T_CHAR", type := .int, accessFlags := 25, slot := 12, constantValue := 0 }, { name := "T_FLOAT", type := .int, accessFlags := 25, slot := 13, constantValue := 0 }, { name := "T_DOUBLE", type := .int, accessFlags := 25, slot := 14, constantValue := 0 }, { name := "T_BYTE", type := .int, accessFlags := 25, slot := 15, constantValue := 0 }, { name := "T_SHORT", type := .int, accessFlags := 25, slot := 16, constantValue := 0 }, { name := "T_INT", type := .int, accessFlags := 25, slot := 17, constantValue := 0 }, { name := "T_LONG", type := .int, accessFlags := 25, slot := 18, constantValue := 0 }, { name := "JLA", type := (.object "jdk/internal/access/JavaLangAccess"), accessFlags := 26, slot := 19, constantValue := 0 }, { name := "SOFT_MAX_ARRAY_LENGTH", type := .int, accessFlags := 25, slot := 20, constantValue := 0 }]
  methods := #[k13m0, k13m1]
  instanceTypes := #[]
  staticTypes := #[(.object "jdk/internal/misc/Unsafe"), .boolean, .int, .int, .int, .int, .int, .int, .int, .int, .int, .int, .int, .int, .int, .int, .int, .int, .int, (.object "jdk/internal/access/JavaLangAccess"), .int]
  resolved := Array.replicate 378 none
  statics := none }

def pool14 : Array CpInfo := pool [(1, .class_ 2), (0, u "java/lang/Math"), (1, .class_ 6), (1, u "java/lang/Object"), (0, u "<init>"), (0, u "()V"), (89, .class_ 100), (1, u "java/lang/Math$RandomNumberGeneratorHolder"), (71, u "negativeZeroFloatBits"), (0, u "J"), (2, u "negativeZeroDoubleBits"), (21, u "max"), (2, u "min"), (43, u "$assertionsDisabled"), (0, u "Z"), (88, u "(II)I"), (2, u "twoToTheDoubleScaleDown"), (0, u "D"), (4, u "twoToTheDoubleScaleUp"), (9, u "E"), (3, u "PI"), (2, u "TAU"), (2, u "DEGREES_TO_RADIANS"), (0, u "RADIANS_TO_DEGREES")] 94

def k14m0 : Method := { name := "<init>", desc := "()V", sig := { parameters := [], returnType := none }, accessFlags := 2, code := none }
def k14c1 : Code := { maxStack := 2, maxLocals := 2, code := jdk_29_method_65_code, exceptionTable := #[], attributes := #[] }
def k14m1 : Method := { name := "max", desc := "(II)I", sig := { parameters := [.int, .int], returnType := some .int }, accessFlags := 9, code := some k14c1 }
def k14c2 : Code := { maxStack := 2, maxLocals := 2, code := jdk_29_method_69_code, exceptionTable := #[], attributes := #[] }
def k14m2 : Method := { name := "min", desc := "(II)I", sig := { parameters := [.int, .int], returnType := some .int }, accessFlags := 9, code := some k14c2 }
/-- java/lang/Math -/
def k14 : Class := { plain "java/lang/Math" (some 0) with
  accessFlags := 49
  interfaces := #[]
  cf := some (fileOf pool14 1 #[.nestMembers #[98]] #[{ accessFlags := 2, nameIndex := 7, descriptorIndex := 8, attributes := #[] }, { accessFlags := 9, nameIndex := 198, descriptorIndex := 335, attributes := #[] }, { accessFlags := 9, nameIndex := 201, descriptorIndex := 335, attributes := #[] }] 49 4 #[] #[{ accessFlags := 25, nameIndex := 354, descriptorIndex := 339, attributes := #[] }, { accessFlags := 25, nameIndex := 358, descriptorIndex := 339, attributes := #[] }, { accessFlags := 25, nameIndex := 361, descriptorIndex := 339, attributes := #[] }, { accessFlags := 26, nameIndex := 364, descriptorIndex := 339, attributes := #[] }, { accessFlags := 26, nameIndex := 365, descriptorIndex := 339, attributes := #[] }, { accessFlags := 26, nameIndex := 172, descriptorIndex := 173, attributes := #[] }, { accessFlags := 26, nameIndex := 176, descriptorIndex := 173, attributes := #[] }, { accessFlags := 8, nameIndex := 344, descriptorIndex := 339, attributes := #[] }, { accessFlags := 8, nameIndex := 338, descriptorIndex := 339, attributes := #[] }, { accessFlags := 4120, nameIndex := 245, descriptorIndex := 246, attributes := #[] }])
  fields := #[{ name := "E", type := .double, accessFlags := 25, slot := 0, constantValue := 0 }, { name := "PI", type := .double, accessFlags := 25, slot := 1, constantValue := 0 }, { name := "TAU", type := .double, accessFlags := 25, slot := 2, constantValue := 0 }, { name := "DEGREES_TO_RADIANS", type := .double, accessFlags := 26, slot := 3, constantValue := 0 }, { name := "RADIANS_TO_DEGREES", type := .double, accessFlags := 26, slot := 4, constantValue := 0 }, { name := "negativeZeroFloatBits", type := .long, accessFlags := 26, slot := 5, constantValue := 0 }, { name := "negativeZeroDoubleBits", type := .long, accessFlags := 26, slot := 6, constantValue := 0 }, { name := "twoToTheDoubleScaleUp", type := .double, accessFlags := 8, slot := 7, constantValue := 0 }, { name := "twoToTheDoubleScaleDown", type := .double, accessFlags := 8, slot := 8, constantValue := 0 }, { name := "$assertionsDisabled", type := .boolean, accessFlags := 4120, slot := 9, constantValue := 0 }]
  methods := #[k14m0, k14m1, k14m2]
  instanceTypes := #[]
  staticTypes := #[.double, .double, .double, .double, .double, .long, .long, .double, .double, .boolean]
  resolved := Array.replicate 460 none
  statics := none }

def pool15 : Array CpInfo := pool [(2, .class_ 4), (1, u "java/lang/Object"), (0, u "<init>"), (0, u "()V"), (7, .class_ 16), (1, u "java/util/Arrays"), (57, .class_ 76), (1, u "java/util/Arrays$NaturalOrder"), (32, u "()Ljava/lang/Object;"), (3, .class_ 115), (1, u "java/util/Arrays$LegacyMergeSort"), (1, u "Z"), (10, .nameAndType 129 109), (0, u "clone"), (9, u "copyOfRange"), (10, .methodref 151 152), (0, .class_ 153), (0, .nameAndType 154 155), (0, u "java/lang/System"), (0, u "arraycopy"), (0, u "(Ljava/lang/Object;ILjava/lang/Object;II)V"), (146, u "copyOf"), (1, .methodref 305 306), (0, .class_ 307), (0, .nameAndType 308 309), (0, u "java/lang/Math"), (0, u "min"), (0, u "(II)I"), (0, .methodref 311 128), (0, .class_ 312), (0, u "[B"), (26, .methodref 14 340), (0, .nameAndType 341 342), (0, u "copyOfRangeByte"), (0, u "([BII)[B"), (0, .methodref 14 344), (0, .nameAndType 345 346), (0, u "checkLength"), (0, u "(II)V"), (28, .class_ 376), (0, u "java/util/Arrays$ArrayList"), (68, u "$assertionsDisabled"), (269, u "MIN_ARRAY_SORT_GRAN"), (0, u "I"), (2, u "INSERTIONSORT_THRESHOLD"), (149, u "([BI)[B"), (105, .class_ 976), (0, u "java/util/Arrays$ArrayItr")] 52

def k15m0 : Method := { name := "<init>", desc := "()V", sig := { parameters := [], returnType := none }, accessFlags := 2, code := none }
def k15c1 : Code := { maxStack := 6, maxLocals := 3, code := jdk_65_method_121_code, exceptionTable := #[], attributes := #[] }
def k15m1 : Method := { name := "copyOf", desc := "([BI)[B", sig := { parameters := [(.array .byte), .int], returnType := some (.array .byte) }, accessFlags := 9, code := some k15c1 }
def k15c2 : Code := { maxStack := 4, maxLocals := 2, code := jdk_65_method_131_code, exceptionTable := #[], attributes := #[] }
def k15m2 : Method := { name := "checkLength", desc := "(II)V", sig := { parameters := [.int, .int], returnType := none }, accessFlags := 10, code := some k15c2 }
def k15c3 : Code := { maxStack := 3, maxLocals := 3, code := jdk_65_method_132_code, exceptionTable := #[], attributes := #[] }
def k15m3 : Method := { name := "copyOfRange", desc := "([BII)[B", sig := { parameters := [(.array .byte), .int, .int], returnType := some (.array .byte) }, accessFlags := 9, code := some k15c3 }
def k15c4 : Code := { maxStack := 6, maxLocals := 5, code := jdk_65_method_133_code, exceptionTable := #[], attributes := #[] }
def k15m4 : Method := { name := "copyOfRangeByte", desc := "([BII)[B", sig := { parameters := [(.array .byte), .int, .int], returnType := some (.array .byte) }, accessFlags := 10, code := some k15c4 }
/-- java/util/Arrays -/
def k15 : Class := { plain "java/util/Arrays" (some 0) with
  accessFlags := 49
  interfaces := #[]
  cf := some (fileOf pool15 14 #[.nestMembers #[975, 375, 113, 74]] #[{ accessFlags := 2, nameIndex := 5, descriptorIndex := 6, attributes := #[] }, { accessFlags := 9, nameIndex := 302, descriptorIndex := 869, attributes := #[] }, { accessFlags := 10, nameIndex := 345, descriptorIndex := 346, attributes := #[] }, { accessFlags := 9, nameIndex := 139, descriptorIndex := 342, attributes := #[] }, { accessFlags := 10, nameIndex := 341, descriptorIndex := 342, attributes := #[] }] 49 2 #[] #[{ accessFlags := 26, nameIndex := 715, descriptorIndex := 716, attributes := #[] }, { accessFlags := 26, nameIndex := 719, descriptorIndex := 716, attributes := #[] }, { accessFlags := 4120, nameIndex := 445, descriptorIndex := 117, attributes := #[] }])
  fields := #[{ name := "MIN_ARRAY_SORT_GRAN", type := .int, accessFlags := 26, slot := 0, constantValue := 0 }, { name := "INSERTIONSORT_THRESHOLD", type := .int, accessFlags := 26, slot := 1, constantValue := 0 }, { name := "$assertionsDisabled", type := .boolean, accessFlags := 4120, slot := 2, constantValue := 0 }]
  methods := #[k15m0, k15m1, k15m2, k15m3, k15m4]
  instanceTypes := #[]
  staticTypes := #[.int, .int, .boolean]
  resolved := Array.replicate 1029 none
  statics := none }

def pool16 : Array CpInfo := pool [(2, .class_ 4), (1, u "java/lang/Object"), (0, u "<init>"), (0, u "()V"), (1, .class_ 10), (1, u "java/lang/System"), (0, u "allowSecurityManager"), (0, u "I"), (16, u "cons"), (0, u "Ljava/io/Console;"), (77, .class_ 110), (1, u "java/lang/System$CallersHolder"), (43, u "initialErrStream"), (0, u "Ljava/io/PrintStream;"), (19, u "security"), (0, u "Ljava/lang/SecurityManager;"), (31, .class_ 209), (0, u "java/lang/System$1"), (7, u "props"), (0, u "Ljava/util/Properties;"), (2, u "lineSeparator"), (0, u "Ljava/lang/String;"), (96, .class_ 321), (1, u "java/lang/System$LoggerFinder"), (5, .class_ 328), (0, u "java/lang/System$Logger"), (67, u "err"), (2, u "out"), (91, u "notSupportedJnuEncoding"), (15, u "in"), (17, u "initialIn"), (0, u "Ljava/io/InputStream;"), (35, u "bootLayer"), (0, u "Ljava/lang/ModuleLayer;"), (99, .class_ 664), (0, u "java/lang/System$2"), (9, u "NEVER"), (2, u "MAYBE"), (49, u "arraycopy"), (0, u "(Ljava/lang/Object;ILjava/lang/Object;II)V"), (72, .class_ 802), (0, u "java/lang/System$Logger$Level")] 31

def k16m0 : Method := { name := "<init>", desc := "()V", sig := { parameters := [], returnType := none }, accessFlags := 2, code := none }
def k16m1 : Method := { name := "arraycopy", desc := "(Ljava/lang/Object;ILjava/lang/Object;II)V", sig := { parameters := [(.object "java/lang/Object"), .int, (.object "java/lang/Object"), .int, .int], returnType := none }, accessFlags := 265, code := none }
/-- java/lang/System -/
def k16 : Class := { plain "java/lang/System" (some 0) with
  accessFlags := 49
  interfaces := #[]
  cf := some (fileOf pool16 8 #[.nestMembers #[319, 327, 801, 108, 663, 208]] #[{ accessFlags := 2, nameIndex := 5, descriptorIndex := 6, attributes := #[] }, { accessFlags := 265, nameIndex := 727, descriptorIndex := 728, attributes := #[] }] 49 2 #[] #[{ accessFlags := 25, nameIndex := 507, descriptorIndex := 526, attributes := #[] }, { accessFlags := 25, nameIndex := 399, descriptorIndex := 155, attributes := #[] }, { accessFlags := 25, nameIndex := 396, descriptorIndex := 155, attributes := #[] }, { accessFlags := 10, nameIndex := 525, descriptorIndex := 526, attributes := #[] }, { accessFlags := 26, nameIndex := 674, descriptorIndex := 12, attributes := #[] }, { accessFlags := 26, nameIndex := 677, descriptorIndex := 12, attributes := #[] }, { accessFlags := 10, nameIndex := 11, descriptorIndex := 12, attributes := #[] }, { accessFlags := 74, nameIndex := 175, descriptorIndex := 176, attributes := #[] }, { accessFlags := 10, nameIndex := 491, descriptorIndex := 222, attributes := #[] }, { accessFlags := 74, nameIndex := 29, descriptorIndex := 30, attributes := #[] }, { accessFlags := 74, nameIndex := 154, descriptorIndex := 155, attributes := #[] }, { accessFlags := 10, nameIndex := 217, descriptorIndex := 218, attributes := #[] }, { accessFlags := 10, nameIndex := 221, descriptorIndex := 222, attributes := #[] }, { accessFlags := 8, nameIndex := 562, descriptorIndex := 563, attributes := #[] }])
  fields := #[{ name := "in", type := (.object "java/io/InputStream"), accessFlags := 25, slot := 0, constantValue := 0 }, { name := "out", type := (.object "java/io/PrintStream"), accessFlags := 25, slot := 1, constantValue := 0 }, { name := "err", type := (.object "java/io/PrintStream"), accessFlags := 25, slot := 2, constantValue := 0 }, { name := "initialIn", type := (.object "java/io/InputStream"), accessFlags := 10, slot := 3, constantValue := 0 }, { name := "NEVER", type := .int, accessFlags := 26, slot := 4, constantValue := 0 }, { name := "MAYBE", type := .int, accessFlags := 26, slot := 5, constantValue := 0 }, { name := "allowSecurityManager", type := .int, accessFlags := 10, slot := 6, constantValue := 0 }, { name := "security", type := (.object "java/lang/SecurityManager"), accessFlags := 74, slot := 7, constantValue := 0 }, { name := "notSupportedJnuEncoding", type := (.object "java/lang/String"), accessFlags := 10, slot := 8, constantValue := 0 }, { name := "cons", type := (.object "java/io/Console"), accessFlags := 74, slot := 9, constantValue := 0 }, { name := "initialErrStream", type := (.object "java/io/PrintStream"), accessFlags := 74, slot := 10, constantValue := 0 }, { name := "props", type := (.object "java/util/Properties"), accessFlags := 10, slot := 11, constantValue := 0 }, { name := "lineSeparator", type := (.object "java/lang/String"), accessFlags := 10, slot := 12, constantValue := 0 }, { name := "bootLayer", type := (.object "java/lang/ModuleLayer"), accessFlags := 8, slot := 13, constantValue := 0 }]
  methods := #[k16m0, k16m1]
  instanceTypes := #[]
  staticTypes := #[(.object "java/io/InputStream"), (.object "java/io/PrintStream"), (.object "java/io/PrintStream"), (.object "java/io/InputStream"), .int, .int, .int, (.object "java/lang/SecurityManager"), (.object "java/lang/String"), (.object "java/io/Console"), (.object "java/io/PrintStream"), (.object "java/util/Properties"), (.object "java/lang/String"), (.object "java/lang/ModuleLayer")]
  resolved := Array.replicate 834 none
  statics := none }

def pool17 : Array CpInfo := pool [(1, .class_ 2), (0, u "java/lang/Cloneable"), (0, .class_ 4), (0, u "java/lang/Object")] 2

/-- java/lang/Cloneable -/
def k17 : Class := { plain "java/lang/Cloneable" (some 0) with
  accessFlags := 1537
  interfaces := #[]
  cf := some (fileOf pool17 1 #[] #[] 1537 3 #[] #[])
  fields := #[]
  methods := #[]
  instanceTypes := #[]
  staticTypes := #[]
  resolved := Array.replicate 7 none
  statics := none }

def pool18 : Array CpInfo := pool [(2, .class_ 4), (1, u "java/lang/Object"), (0, u "<init>"), (0, u "()V"), (17, .class_ 26), (1, u "jdk/internal/util/Preconditions"), (6, u "checkIndex"), (21, .class_ 56), (0, u "jdk/internal/util/Preconditions$4"), (57, .class_ 115), (0, u "jdk/internal/util/Preconditions$1"), (7, u "SIOOBE_FORMATTER"), (0, u "Ljava/util/function/BiFunction;"), (0, .class_ 126), (0, u "jdk/internal/util/Preconditions$2"), (3, u "AIOOBE_FORMATTER"), (0, .class_ 132), (0, u "jdk/internal/util/Preconditions$3"), (3, u "IOOBE_FORMATTER"), (41, u "(IILjava/util/function/BiFunction;)I")] 15

def k18m0 : Method := { name := "<init>", desc := "()V", sig := { parameters := [], returnType := none }, accessFlags := 1, code := none }
def k18c1 : Code := { maxStack := 3, maxLocals := 3, code := jdk_41_method_11_code, exceptionTable := #[], attributes := #[] }
def k18m1 : Method := { name := "checkIndex", desc := "(IILjava/util/function/BiFunction;)I", sig := { parameters := [.int, .int, (.object "java/util/function/BiFunction")], returnType := some .int }, accessFlags := 9, code := some k18c1 }
/-- jdk/internal/util/Preconditions -/
def k18 : Class := { plain "jdk/internal/util/Preconditions" (some 0) with
  accessFlags := 33
  interfaces := #[]
  cf := some (fileOf pool18 24 #[.nestMembers #[55, 131, 125, 114]] #[{ accessFlags := 1, nameIndex := 5, descriptorIndex := 6, attributes := #[] }, { accessFlags := 9, nameIndex := 33, descriptorIndex := 178, attributes := #[] }] 33 2 #[] #[{ accessFlags := 25, nameIndex := 123, descriptorIndex := 124, attributes := #[] }, { accessFlags := 25, nameIndex := 130, descriptorIndex := 124, attributes := #[] }, { accessFlags := 25, nameIndex := 136, descriptorIndex := 124, attributes := #[] }])
  fields := #[{ name := "SIOOBE_FORMATTER", type := (.object "java/util/function/BiFunction"), accessFlags := 25, slot := 0, constantValue := 0 }, { name := "AIOOBE_FORMATTER", type := (.object "java/util/function/BiFunction"), accessFlags := 25, slot := 1, constantValue := 0 }, { name := "IOOBE_FORMATTER", type := (.object "java/util/function/BiFunction"), accessFlags := 25, slot := 2, constantValue := 0 }]
  methods := #[k18m0, k18m1]
  instanceTypes := #[]
  staticTypes := #[(.object "java/util/function/BiFunction"), (.object "java/util/function/BiFunction"), (.object "java/util/function/BiFunction")]
  resolved := Array.replicate 194 none
  statics := some 2 }

/-- the primitive byte -/
def k19 : Class := { plain "byte" none with kind := .primitive 'B', accessFlags := 0x411 }
/-- [B -/
def k20 : Class := { plain "[B" (some 0) with kind := .array 19 .byte, interfaces := #[17, 6], accessFlags := 1041 }

/-- the primitive char -/
def k21 : Class := { plain "char" none with kind := .primitive 'C', accessFlags := 0x411 }
/-- [C -/
def k22 : Class := { plain "[C" (some 0) with kind := .array 21 .char, interfaces := #[17, 6], accessFlags := 1041 }

/-- the primitive int -/
def k23 : Class := { plain "int" none with kind := .primitive 'I', accessFlags := 0x411 }
/-- [I -/
def k24 : Class := { plain "[I" (some 0) with kind := .array 23 .int, interfaces := #[17, 6], accessFlags := 1041 }

def heap : Heap := #[{ cls := 2, slots := #[.ref 3, .int 0, .null], vm := .statics 2 },
  { cls := 11, slots := #[.long 0, .int 1, .null, .int 0, .null, .int 0, .int 0], vm := .statics 11 },
  { cls := 18, slots := #[.null, .null, .null], vm := .statics 18 },
  { cls := 22, slots := #[.int 48, .int 49, .int 50, .int 51, .int 52, .int 53, .int 54, .int 55, .int 56, .int 57, .int 65, .int 66, .int 67, .int 68, .int 69, .int 70], vm := .none }]
def classes : Array Class := #[k0, k1, k2, k3, k4, k5, k6, k7, k8, k9, k10, k11, k12, k13, k14, k15, k16, k17, k18, k19, k20, k21, k22, k23, k24]
def interned : List (Array UInt16 × Addr) := []
def slotsUsed : Nat := 29
def theMethod : MethodId := ⟨1, 1⟩
def args0 : Array Value := #[.int 5, .int 65, .int 92, .int 3]
def aboutOver (below : List Frame) : State where
  vm := { classes := classes, interned := interned.toArray }
  heap := heap
  slotsUsed := slotsUsed
  threads := #[{ frames := .invoking theMethod args0 :: below }]
def below0 : List Frame := [.native { method := ⟨0, 0⟩, args := #[] }]
def about1 : State := aboutOver below0
def p0 : Program := .bare "" "" ""
def e0 : Env := launch0.env 0 0 0
theorem w_frames : about1.frames = Frame.invoking theMethod args0 :: below0 := rfl
set_option maxRecDepth 65536 in
theorem w_args : argsFit about1.vm theMethod args0 = true := by decide +kernel
set_option maxRecDepth 65536 in
theorem w_heap : heapFits about1 = true := by decide +kernel
set_option maxRecDepth 65536 in
theorem w_runnable : about1.curStatus? = some .runnable := by decide +kernel
set_option maxRecDepth 65536 in
theorem w_alone : about1.alone = true := by decide +kernel
set_option maxRecDepth 65536 in
theorem w_named : about1.methodNamed? x = some theMethod := by decide +kernel
set_option maxRecDepth 65536 in
theorem w_hears : about1.hears theMethod below0 = true := by decide +kernel
set_option maxRecDepth 65536 in
theorem w_ripe : about1.ripe theMethod args0 below0 = true := by decide +kernel
theorem w_running : about1.status = .running := rfl
set_option maxRecDepth 65536 in
theorem w_room : about1.hasRoom e0.platform room_1 = true :=
  launch0.hasRoom_least _ room_1 (by decide +kernel) (by decide +kernel) (by decide +kernel) (by decide +kernel) (by decide +kernel) (by decide +kernel)
theorem allAtoms_all (ts : List Jvm.Cond) (a : Array Jvm.Value) (st : Jvm.State) : (allAtoms ts).before a st = ts.all (fun c => c.before a st) := by
  induction ts with
  | nil => rfl
  | cons c t ih =>
    show (Jvm.Cond.and c (allAtoms t)).before a st = _
    rw [Jvm.Cond.before_and, ih, List.all_cons]
def words1 : List Jvm.Cond := Jvm.Cond.code x code maxLocals ret :: tables_1
/-- a 'code' word, met by the world's own term for the bytes: nothing is compared byte by byte -/
theorem code_word {y : MethodName} {bytes : ByteArray} {mx : Nat} {rt : Option FieldType} {a : Array Value} {s : State} {m : MethodId} {meth : Method} {c : Code} (h1 : s.methodNamed? y = some m) (h2 : s.vm.method? m = some meth) (h3 : meth.code = some c) (h4 : c.code = bytes)
    (h5 : (c.maxLocals == mx && c.exceptionTable.isEmpty && decide (c.maxStack ≤ mostOperands) && decide (meth.sig.returnType = rt) && !meth.locks && decide (parseMethodDescriptor y.desc = some meth.sig)) = true) : (Jvm.Cond.code y bytes mx rt).before a s = true := by
  simp only [Bool.and_eq_true, beq_iff_eq, Bool.not_eq_true', decide_eq_true_eq] at h5
  obtain ⟨⟨⟨⟨⟨g1, g2⟩, g3⟩, g4⟩, g5⟩, g6⟩ := h5
  simp [Cond.before, Cond.holds, Cond.value, h1, h2, h3, h4, g1, g2, g3, g4, g5, g6]
def isCode : Jvm.Cond → Bool
  | .code _ _ _ _ => true
  | _ => false
theorem all_split {L : List Jvm.Cond} {P : Jvm.Cond → Bool} (h1 : L.all (fun c => isCode c || P c) = true) (h2 : ∀ c ∈ L.filter isCode, P c = true) : L.all P = true := by
  refine List.all_eq_true.mpr fun c hc => ?_
  have h := List.all_eq_true.mp h1 c hc
  rcases Bool.eq_false_or_eq_true (isCode c) with hi | hi
  · exact h2 c (List.mem_filter.mpr ⟨hc, hi⟩)
  · simpa [hi] using h
set_option maxRecDepth 65536 in
theorem w_c0 : (Jvm.Cond.code x code maxLocals ret).before args0 about1 = true := code_word (m := ⟨1, 1⟩) (meth := k1m1) (c := k1c1) (by decide +kernel) rfl rfl rfl (by decide +kernel)
set_option maxRecDepth 65536 in
theorem w_c1 : (Jvm.Cond.code ({ cls := "com/example/presplit/presplit/escape/BinaryEscape", name := "encode", desc := "([B)Ljava/lang/String;" } : Jvm.MethodName) prog_1_method_2_code (7 : Nat) (Option.some (Jvm.ClassFile.FieldType.object "java/lang/String"))).before args0 about1 = true := code_word (m := ⟨2, 1⟩) (meth := k2m1) (c := k2c1) (by decide +kernel) rfl rfl rfl (by decide +kernel)
set_option maxRecDepth 65536 in
theorem w_c2 : (Jvm.Cond.code ({ cls := "java/lang/StringBuilder", name := "<init>", desc := "(I)V" } : Jvm.MethodName) jdk_67_method_2_code (2 : Nat) (Option.none : Option Jvm.ClassFile.FieldType)).before args0 about1 = true := code_word (m := ⟨8, 1⟩) (meth := k8m1) (c := k8c1) (by decide +kernel) rfl rfl rfl (by decide +kernel)
set_option maxRecDepth 65536 in
theorem w_c3 : (Jvm.Cond.code ({ cls := "java/lang/AbstractStringBuilder", name := "<init>", desc := "(I)V" } : Jvm.MethodName) jdk_68_method_2_code (2 : Nat) (Option.none : Option Jvm.ClassFile.FieldType)).before args0 about1 = true := code_word (m := ⟨5, 1⟩) (meth := k5m1) (c := k5c1) (by decide +kernel) rfl rfl rfl (by decide +kernel)
set_option maxRecDepth 65536 in
theorem w_c4 : (Jvm.Cond.code ({ cls := "java/lang/Object", name := "<init>", desc := "()V" } : Jvm.MethodName) object_method_1_code (1 : Nat) (Option.none : Option Jvm.ClassFile.FieldType)).before args0 about1 = true := code_word (m := ⟨0, 0⟩) (meth := k0m0) (c := k0c0) (by decide +kernel) rfl rfl rfl (by decide +kernel)
set_option maxRecDepth 65536 in
theorem w_c5 : (Jvm.Cond.code ({ cls := "java/lang/StringBuilder", name := "append", desc := "(C)Ljava/lang/StringBuilder;" } : Jvm.MethodName) jdk_67_method_14_code (2 : Nat) (Option.some (Jvm.ClassFile.FieldType.object "java/lang/StringBuilder"))).before args0 about1 = true := code_word (m := ⟨8, 2⟩) (meth := k8m2) (c := k8c2) (by decide +kernel) rfl rfl rfl (by decide +kernel)
set_option maxRecDepth 65536 in
theorem w_c6 : (Jvm.Cond.code ({ cls := "java/lang/AbstractStringBuilder", name := "append", desc := "(C)Ljava/lang/AbstractStringBuilder;" } : Jvm.MethodName) jdk_68_method_31_code (2 : Nat) (Option.some (Jvm.ClassFile.FieldType.object "java/lang/AbstractStringBuilder"))).before args0 about1 = true := code_word (m := ⟨5, 5⟩) (meth := k5m5) (c := k5c5) (by decide +kernel) rfl rfl rfl (by decide +kernel)
set_option maxRecDepth 65536 in
theorem w_c7 : (Jvm.Cond.code ({ cls := "java/lang/AbstractStringBuilder", name := "ensureCapacityInternal", desc := "(I)V" } : Jvm.MethodName) jdk_68_method_9_code (3 : Nat) (Option.none : Option Jvm.ClassFile.FieldType)).before args0 about1 = true := code_word (m := ⟨5, 3⟩) (meth := k5m3) (c := k5c3) (by decide +kernel) rfl rfl rfl (by decide +kernel)
set_option maxRecDepth 65536 in
theorem w_c8 : (Jvm.Cond.code ({ cls := "java/lang/AbstractStringBuilder", name := "isLatin1", desc := "()Z" } : Jvm.MethodName) jdk_68_method_68_code (1 : Nat) (Option.some Jvm.ClassFile.FieldType.boolean)).before args0 about1 = true := code_word (m := ⟨5, 7⟩) (meth := k5m7) (c := k5c7) (by decide +kernel) rfl rfl rfl (by decide +kernel)
set_option maxRecDepth 65536 in
theorem w_c9 : (Jvm.Cond.code ({ cls := "java/lang/StringLatin1", name := "canEncode", desc := "(C)Z" } : Jvm.MethodName) jdk_43_method_3_code (1 : Nat) (Option.some Jvm.ClassFile.FieldType.boolean)).before args0 about1 = true := code_word (m := ⟨12, 2⟩) (meth := k12m2) (c := k12c2) (by decide +kernel) rfl rfl rfl (by decide +kernel)
set_option maxRecDepth 65536 in
theorem w_c10 : (Jvm.Cond.code ({ cls := "java/lang/AbstractStringBuilder", name := "newCapacity", desc := "(I)I" } : Jvm.MethodName) jdk_68_method_10_code (6 : Nat) (Option.some Jvm.ClassFile.FieldType.int)).before args0 about1 = true := code_word (m := ⟨5, 4⟩) (meth := k5m4) (c := k5c4) (by decide +kernel) rfl rfl rfl (by decide +kernel)
set_option maxRecDepth 65536 in
theorem w_c11 : (Jvm.Cond.code ({ cls := "jdk/internal/util/ArraysSupport", name := "newLength", desc := "(III)I" } : Jvm.MethodName) jdk_48_method_27_code (4 : Nat) (Option.some Jvm.ClassFile.FieldType.int)).before args0 about1 = true := code_word (m := ⟨13, 1⟩) (meth := k13m1) (c := k13c1) (by decide +kernel) rfl rfl rfl (by decide +kernel)
set_option maxRecDepth 65536 in
theorem w_c12 : (Jvm.Cond.code ({ cls := "java/lang/Math", name := "max", desc := "(II)I" } : Jvm.MethodName) jdk_29_method_65_code (2 : Nat) (Option.some Jvm.ClassFile.FieldType.int)).before args0 about1 = true := code_word (m := ⟨14, 1⟩) (meth := k14m1) (c := k14c1) (by decide +kernel) rfl rfl rfl (by decide +kernel)
set_option maxRecDepth 65536 in
theorem w_c13 : (Jvm.Cond.code ({ cls := "java/util/Arrays", name := "copyOf", desc := "([BI)[B" } : Jvm.MethodName) jdk_65_method_121_code (3 : Nat) (Option.some (Jvm.ClassFile.FieldType.array Jvm.ClassFile.FieldType.byte))).before args0 about1 = true := code_word (m := ⟨15, 1⟩) (meth := k15m1) (c := k15c1) (by decide +kernel) rfl rfl rfl (by decide +kernel)
set_option maxRecDepth 65536 in
theorem w_c14 : (Jvm.Cond.code ({ cls := "java/lang/Math", name := "min", desc := "(II)I" } : Jvm.MethodName) jdk_29_method_69_code (2 : Nat) (Option.some Jvm.ClassFile.FieldType.int)).before args0 about1 = true := code_word (m := ⟨14, 2⟩) (meth := k14m2) (c := k14c2) (by decide +kernel) rfl rfl rfl (by decide +kernel)
set_option maxRecDepth 65536 in
theorem w_c15 : (Jvm.Cond.code ({ cls := "java/lang/StringBuilder", name := "toString", desc := "()Ljava/lang/String;" } : Jvm.MethodName) jdk_67_method_42_code (1 : Nat) (Option.some (Jvm.ClassFile.FieldType.object "java/lang/String"))).before args0 about1 = true := code_word (m := ⟨8, 3⟩) (meth := k8m3) (c := k8c3) (by decide +kernel) rfl rfl rfl (by decide +kernel)
set_option maxRecDepth 65536 in
theorem w_c16 : (Jvm.Cond.code ({ cls := "java/lang/String", name := "<init>", desc := "(Ljava/lang/StringBuilder;)V" } : Jvm.MethodName) jdk_42_method_53_code (2 : Nat) (Option.none : Option Jvm.ClassFile.FieldType)).before args0 about1 = true := code_word (m := ⟨11, 1⟩) (meth := k11m1) (c := k11c1) (by decide +kernel) rfl rfl rfl (by decide +kernel)
set_option maxRecDepth 65536 in
theorem w_c17 : (Jvm.Cond.code ({ cls := "java/lang/String", name := "<init>", desc := "(Ljava/lang/AbstractStringBuilder;Ljava/lang/Void;)V" } : Jvm.MethodName) jdk_42_method_150_code (5 : Nat) (Option.none : Option Jvm.ClassFile.FieldType)).before args0 about1 = true := code_word (m := ⟨11, 4⟩) (meth := k11m4) (c := k11c4) (by decide +kernel) rfl rfl rfl (by decide +kernel)
set_option maxRecDepth 65536 in
theorem w_c18 : (Jvm.Cond.code ({ cls := "java/lang/AbstractStringBuilder", name := "getValue", desc := "()[B" } : Jvm.MethodName) jdk_68_method_64_code (1 : Nat) (Option.some (Jvm.ClassFile.FieldType.array Jvm.ClassFile.FieldType.byte))).before args0 about1 = true := code_word (m := ⟨5, 6⟩) (meth := k5m6) (c := k5c6) (by decide +kernel) rfl rfl rfl (by decide +kernel)
set_option maxRecDepth 65536 in
theorem w_c19 : (Jvm.Cond.code ({ cls := "java/lang/StringBuilder", name := "length", desc := "()I" } : Jvm.MethodName) jdk_67_method_93_code (1 : Nat) (Option.some Jvm.ClassFile.FieldType.int)).before args0 about1 = true := code_word (m := ⟨8, 4⟩) (meth := k8m4) (c := k8c4) (by decide +kernel) rfl rfl rfl (by decide +kernel)
set_option maxRecDepth 65536 in
theorem w_c20 : (Jvm.Cond.code ({ cls := "java/lang/AbstractStringBuilder", name := "length", desc := "()I" } : Jvm.MethodName) jdk_68_method_6_code (1 : Nat) (Option.some Jvm.ClassFile.FieldType.int)).before args0 about1 = true := code_word (m := ⟨5, 2⟩) (meth := k5m2) (c := k5c2) (by decide +kernel) rfl rfl rfl (by decide +kernel)
set_option maxRecDepth 65536 in
theorem w_c21 : (Jvm.Cond.code ({ cls := "java/util/Arrays", name := "copyOfRange", desc := "([BII)[B" } : Jvm.MethodName) jdk_65_method_132_code (3 : Nat) (Option.some (Jvm.ClassFile.FieldType.array Jvm.ClassFile.FieldType.byte))).before args0 about1 = true := code_word (m := ⟨15, 3⟩) (meth := k15m3) (c := k15c3) (by decide +kernel) rfl rfl rfl (by decide +kernel)
set_option maxRecDepth 65536 in
theorem w_c22 : (Jvm.Cond.code ({ cls := "com/example/presplit/presplit/escape/BinaryEscapeEncodePinLaw", name := "step", desc := "(Ljava/lang/String;II)I" } : Jvm.MethodName) method_3_code (3 : Nat) (Option.some Jvm.ClassFile.FieldType.int)).before args0 about1 = true := code_word (m := ⟨1, 2⟩) (meth := k1m2) (c := k1c2) (by decide +kernel) rfl rfl rfl (by decide +kernel)
set_option maxRecDepth 65536 in
theorem w_c23 : (Jvm.Cond.code ({ cls := "java/lang/String", name := "length", desc := "()I" } : Jvm.MethodName) jdk_42_method_54_code (1 : Nat) (Option.some Jvm.ClassFile.FieldType.int)).before args0 about1 = true := code_word (m := ⟨11, 2⟩) (meth := k11m2) (c := k11c2) (by decide +kernel) rfl rfl rfl (by decide +kernel)
set_option maxRecDepth 65536 in
theorem w_c24 : (Jvm.Cond.code ({ cls := "java/lang/String", name := "coder", desc := "()B" } : Jvm.MethodName) jdk_42_method_152_code (1 : Nat) (Option.some Jvm.ClassFile.FieldType.byte)).before args0 about1 = true := code_word (m := ⟨11, 5⟩) (meth := k11m5) (c := k11c5) (by decide +kernel) rfl rfl rfl (by decide +kernel)
set_option maxRecDepth 65536 in
theorem w_c25 : (Jvm.Cond.code ({ cls := "java/lang/String", name := "charAt", desc := "(I)C" } : Jvm.MethodName) jdk_42_method_56_code (2 : Nat) (Option.some Jvm.ClassFile.FieldType.char)).before args0 about1 = true := code_word (m := ⟨11, 3⟩) (meth := k11m3) (c := k11c3) (by decide +kernel) rfl rfl rfl (by decide +kernel)
set_option maxRecDepth 65536 in
theorem w_c26 : (Jvm.Cond.code ({ cls := "java/lang/String", name := "isLatin1", desc := "()Z" } : Jvm.MethodName) jdk_42_method_154_code (1 : Nat) (Option.some Jvm.ClassFile.FieldType.boolean)).before args0 about1 = true := code_word (m := ⟨11, 6⟩) (meth := k11m6) (c := k11c6) (by decide +kernel) rfl rfl rfl (by decide +kernel)
set_option maxRecDepth 65536 in
theorem w_c27 : (Jvm.Cond.code ({ cls := "java/lang/StringLatin1", name := "charAt", desc := "([BI)C" } : Jvm.MethodName) jdk_43_method_2_code (2 : Nat) (Option.some Jvm.ClassFile.FieldType.char)).before args0 about1 = true := code_word (m := ⟨12, 1⟩) (meth := k12m1) (c := k12c1) (by decide +kernel) rfl rfl rfl (by decide +kernel)
set_option maxRecDepth 65536 in
theorem w_c28 : (Jvm.Cond.code ({ cls := "java/lang/String", name := "checkIndex", desc := "(II)V" } : Jvm.MethodName) jdk_42_method_155_code (2 : Nat) (Option.none : Option Jvm.ClassFile.FieldType)).before args0 about1 = true := code_word (m := ⟨11, 7⟩) (meth := k11m7) (c := k11c7) (by decide +kernel) rfl rfl rfl (by decide +kernel)
set_option maxRecDepth 65536 in
theorem w_c29 : (Jvm.Cond.code ({ cls := "jdk/internal/util/Preconditions", name := "checkIndex", desc := "(IILjava/util/function/BiFunction;)I" } : Jvm.MethodName) jdk_41_method_11_code (3 : Nat) (Option.some Jvm.ClassFile.FieldType.int)).before args0 about1 = true := code_word (m := ⟨18, 1⟩) (meth := k18m1) (c := k18c1) (by decide +kernel) rfl rfl rfl (by decide +kernel)
set_option maxRecDepth 65536 in
theorem w_c30 : (Jvm.Cond.code ({ cls := "com/example/presplit/presplit/escape/BinaryEscapeEncodePinLaw", name := "hex", desc := "(I)C" } : Jvm.MethodName) method_4_code (1 : Nat) (Option.some Jvm.ClassFile.FieldType.char)).before args0 about1 = true := code_word (m := ⟨1, 3⟩) (meth := k1m3) (c := k1c3) (by decide +kernel) rfl rfl rfl (by decide +kernel)
set_option maxRecDepth 65536 in
theorem w_c31 : (Jvm.Cond.code ({ cls := "java/util/Arrays", name := "copyOfRangeByte", desc := "([BII)[B" } : Jvm.MethodName) jdk_65_method_133_code (5 : Nat) (Option.some (Jvm.ClassFile.FieldType.array Jvm.ClassFile.FieldType.byte))).before args0 about1 = true := code_word (m := ⟨15, 4⟩) (meth := k15m4) (c := k15c4) (by decide +kernel) rfl rfl rfl (by decide +kernel)
set_option maxRecDepth 65536 in
theorem w_c32 : (Jvm.Cond.code ({ cls := "java/util/Arrays", name := "checkLength", desc := "(II)V" } : Jvm.MethodName) jdk_65_method_131_code (2 : Nat) (Option.none : Option Jvm.ClassFile.FieldType)).before args0 about1 = true := code_word (m := ⟨15, 2⟩) (meth := k15m2) (c := k15c2) (by decide +kernel) rfl rfl rfl (by decide +kernel)
def codes1 : List Jvm.Cond := [Jvm.Cond.code x code maxLocals ret, Jvm.Cond.code ({ cls := "com/example/presplit/presplit/escape/BinaryEscape", name := "encode", desc := "([B)Ljava/lang/String;" } : Jvm.MethodName) prog_1_method_2_code (7 : Nat) (Option.some (Jvm.ClassFile.FieldType.object "java/lang/String")), Jvm.Cond.code ({ cls := "java/lang/StringBuilder", name := "<init>", desc := "(I)V" } : Jvm.MethodName) jdk_67_method_2_code (2 : Nat) (Option.none : Option Jvm.ClassFile.FieldType), Jvm.Cond.code ({ cls := "java/lang/AbstractStringBuilder", name := "<init>", desc := "(I)V" } : Jvm.MethodName) jdk_68_method_2_code (2 : Nat) (Option.none : Option Jvm.ClassFile.FieldType), Jvm.Cond.code ({ cls := "java/lang/Object", name := "<init>", desc := "()V" } : Jvm.MethodName) object_method_1_code (1 : Nat) (Option.none : Option Jvm.ClassFile.FieldType), Jvm.Cond.code ({ cls := "java/lang/StringBuilder", name := "append", desc := "(C)Ljava/lang/StringBuilder;" } : Jvm.MethodName) jdk_67_method_14_code (2 : Nat) (Option.some (Jvm.ClassFile.FieldType.object "java/lang/StringBuilder")), Jvm.Cond.code ({ cls := "java/lang/AbstractStringBuilder", name := "append", desc := "(C)Ljava/lang/AbstractStringBuilder;" } : Jvm.MethodName) jdk_68_method_31_code (2 : Nat) (Option.some (Jvm.ClassFile.FieldType.object "java/lang/AbstractStringBuilder")), Jvm.Cond.code ({ cls := "java/lang/AbstractStringBuilder", name := "ensureCapacityInternal", desc := "(I)V" } : Jvm.MethodName) jdk_68_method_9_code (3 : Nat) (Option.none : Option Jvm.ClassFile.FieldType), Jvm.Cond.code ({ cls := "java/lang/AbstractStringBuilder", name := "isLatin1", desc := "()Z" } : Jvm.MethodName) jdk_68_method_68_code (1 : Nat) (Option.some Jvm.ClassFile.FieldType.boolean), Jvm.Cond.code ({ cls := "java/lang/StringLatin1", name := "canEncode", desc := "(C)Z" } : Jvm.MethodName) jdk_43_method_3_code (1 : Nat) (Option.some Jvm.ClassFile.FieldType.boolean), Jvm.Cond.code ({ cls := "java/lang/AbstractStringBuilder", name := "newCapacity", desc := "(I)I" } : Jvm.MethodName) jdk_68_method_10_code (6 : Nat) (Option.some Jvm.ClassFile.FieldType.int), Jvm.Cond.code ({ cls := "jdk/internal/util/ArraysSupport", name := "newLength", desc := "(III)I" } : Jvm.MethodName) jdk_48_method_27_code (4 : Nat) (Option.some Jvm.ClassFile.FieldType.int), Jvm.Cond.code ({ cls := "java/lang/Math", name := "max", desc := "(II)I" } : Jvm.MethodName) jdk_29_method_65_code (2 : Nat) (Option.some Jvm.ClassFile.FieldType.int), Jvm.Cond.code ({ cls := "java/util/Arrays", name := "copyOf", desc := "([BI)[B" } : Jvm.MethodName) jdk_65_method_121_code (3 : Nat) (Option.some (Jvm.ClassFile.FieldType.array Jvm.ClassFile.FieldType.byte)), Jvm.Cond.code ({ cls := "java/lang/Math", name := "min", desc := "(II)I" } : Jvm.MethodName) jdk_29_method_69_code (2 : Nat) (Option.some Jvm.ClassFile.FieldType.int), Jvm.Cond.code ({ cls := "java/lang/StringBuilder", name := "toString", desc := "()Ljava/lang/String;" } : Jvm.MethodName) jdk_67_method_42_code (1 : Nat) (Option.some (Jvm.ClassFile.FieldType.object "java/lang/String")), Jvm.Cond.code ({ cls := "java/lang/String", name := "<init>", desc := "(Ljava/lang/StringBuilder;)V" } : Jvm.MethodName) jdk_42_method_53_code (2 : Nat) (Option.none : Option Jvm.ClassFile.FieldType), Jvm.Cond.code ({ cls := "java/lang/String", name := "<init>", desc := "(Ljava/lang/AbstractStringBuilder;Ljava/lang/Void;)V" } : Jvm.MethodName) jdk_42_method_150_code (5 : Nat) (Option.none : Option Jvm.ClassFile.FieldType), Jvm.Cond.code ({ cls := "java/lang/AbstractStringBuilder", name := "getValue", desc := "()[B" } : Jvm.MethodName) jdk_68_method_64_code (1 : Nat) (Option.some (Jvm.ClassFile.FieldType.array Jvm.ClassFile.FieldType.byte)), Jvm.Cond.code ({ cls := "java/lang/StringBuilder", name := "length", desc := "()I" } : Jvm.MethodName) jdk_67_method_93_code (1 : Nat) (Option.some Jvm.ClassFile.FieldType.int), Jvm.Cond.code ({ cls := "java/lang/AbstractStringBuilder", name := "length", desc := "()I" } : Jvm.MethodName) jdk_68_method_6_code (1 : Nat) (Option.some Jvm.ClassFile.FieldType.int), Jvm.Cond.code ({ cls := "java/util/Arrays", name := "copyOfRange", desc := "([BII)[B" } : Jvm.MethodName) jdk_65_method_132_code (3 : Nat) (Option.some (Jvm.ClassFile.FieldType.array Jvm.ClassFile.FieldType.byte)), Jvm.Cond.code ({ cls := "com/example/presplit/presplit/escape/BinaryEscapeEncodePinLaw", name := "step", desc := "(Ljava/lang/String;II)I" } : Jvm.MethodName) method_3_code (3 : Nat) (Option.some Jvm.ClassFile.FieldType.int), Jvm.Cond.code ({ cls := "java/lang/String", name := "length", desc := "()I" } : Jvm.MethodName) jdk_42_method_54_code (1 : Nat) (Option.some Jvm.ClassFile.FieldType.int), Jvm.Cond.code ({ cls := "java/lang/String", name := "coder", desc := "()B" } : Jvm.MethodName) jdk_42_method_152_code (1 : Nat) (Option.some Jvm.ClassFile.FieldType.byte), Jvm.Cond.code ({ cls := "java/lang/String", name := "charAt", desc := "(I)C" } : Jvm.MethodName) jdk_42_method_56_code (2 : Nat) (Option.some Jvm.ClassFile.FieldType.char), Jvm.Cond.code ({ cls := "java/lang/String", name := "isLatin1", desc := "()Z" } : Jvm.MethodName) jdk_42_method_154_code (1 : Nat) (Option.some Jvm.ClassFile.FieldType.boolean), Jvm.Cond.code ({ cls := "java/lang/StringLatin1", name := "charAt", desc := "([BI)C" } : Jvm.MethodName) jdk_43_method_2_code (2 : Nat) (Option.some Jvm.ClassFile.FieldType.char), Jvm.Cond.code ({ cls := "java/lang/String", name := "checkIndex", desc := "(II)V" } : Jvm.MethodName) jdk_42_method_155_code (2 : Nat) (Option.none : Option Jvm.ClassFile.FieldType), Jvm.Cond.code ({ cls := "jdk/internal/util/Preconditions", name := "checkIndex", desc := "(IILjava/util/function/BiFunction;)I" } : Jvm.MethodName) jdk_41_method_11_code (3 : Nat) (Option.some Jvm.ClassFile.FieldType.int), Jvm.Cond.code ({ cls := "com/example/presplit/presplit/escape/BinaryEscapeEncodePinLaw", name := "hex", desc := "(I)C" } : Jvm.MethodName) method_4_code (1 : Nat) (Option.some Jvm.ClassFile.FieldType.char), Jvm.Cond.code ({ cls := "java/util/Arrays", name := "copyOfRangeByte", desc := "([BII)[B" } : Jvm.MethodName) jdk_65_method_133_code (5 : Nat) (Option.some (Jvm.ClassFile.FieldType.array Jvm.ClassFile.FieldType.byte)), Jvm.Cond.code ({ cls := "java/util/Arrays", name := "checkLength", desc := "(II)V" } : Jvm.MethodName) jdk_65_method_131_code (2 : Nat) (Option.none : Option Jvm.ClassFile.FieldType)]
set_option maxRecDepth 65536 in
theorem codes_eq : words1.filter isCode = codes1 := rfl
theorem w_codes : ∀ c ∈ words1.filter isCode, c.before args0 about1 = true := by
  rw [codes_eq]
  intro c hc
  simp only [codes1, List.mem_cons, List.not_mem_nil, or_false] at hc
  rcases hc with rfl | rfl | rfl | rfl | rfl | rfl | rfl | rfl | rfl | rfl | rfl | rfl | rfl | rfl | rfl | rfl | rfl | rfl | rfl | rfl | rfl | rfl | rfl | rfl | rfl | rfl | rfl | rfl | rfl | rfl | rfl | rfl | rfl
  · exact w_c0
  · exact w_c1
  · exact w_c2
  · exact w_c3
  · exact w_c4
  · exact w_c5
  · exact w_c6
  · exact w_c7
  · exact w_c8
  · exact w_c9
  · exact w_c10
  · exact w_c11
  · exact w_c12
  · exact w_c13
  · exact w_c14
  · exact w_c15
  · exact w_c16
  · exact w_c17
  · exact w_c18
  · exact w_c19
  · exact w_c20
  · exact w_c21
  · exact w_c22
  · exact w_c23
  · exact w_c24
  · exact w_c25
  · exact w_c26
  · exact w_c27
  · exact w_c28
  · exact w_c29
  · exact w_c30
  · exact w_c31
  · exact w_c32
set_option maxRecDepth 65536 in
theorem w_t1 : (words1.take 24).all (fun c => isCode c || c.before args0 about1) = true := by decide +kernel
set_option maxRecDepth 65536 in
theorem w_t2 : ((words1.drop 24).take 24).all (fun c => isCode c || c.before args0 about1) = true := by decide +kernel
set_option maxRecDepth 65536 in
theorem w_t3 : (((words1.drop 24).drop 24).take 24).all (fun c => isCode c || c.before args0 about1) = true := by decide +kernel
set_option maxRecDepth 65536 in
theorem w_t4 : ((((words1.drop 24).drop 24).drop 24).take 24).all (fun c => isCode c || c.before args0 about1) = true := by decide +kernel
set_option maxRecDepth 65536 in
theorem w_t5 : (((((words1.drop 24).drop 24).drop 24).drop 24).take 24).all (fun c => isCode c || c.before args0 about1) = true := by decide +kernel
set_option maxRecDepth 65536 in
theorem w_t6 : ((((((words1.drop 24).drop 24).drop 24).drop 24).drop 24).take 24).all (fun c => isCode c || c.before args0 about1) = true := by decide +kernel
set_option maxRecDepth 65536 in
theorem w_t7 : (((((((words1.drop 24).drop 24).drop 24).drop 24).drop 24).drop 24).take 24).all (fun c => isCode c || c.before args0 about1) = true := by decide +kernel
set_option maxRecDepth 65536 in
theorem w_t8 : (((((((words1.drop 24).drop 24).drop 24).drop 24).drop 24).drop 24).drop 24).all (fun c => isCode c || c.before args0 about1) = true := by decide +kernel
theorem w_tables : (allAtoms (Jvm.Cond.code x code maxLocals ret :: tables_1)).before args0 about1 = true := by
  rw [allAtoms_all]
  show words1.all (fun c => c.before args0 about1) = true
  refine all_split ?_ w_codes
  rw [← List.take_append_drop 24 words1, List.all_append, w_t1, ← List.take_append_drop 24 (words1.drop 24), List.all_append, w_t2, ← List.take_append_drop 24 ((words1.drop 24).drop 24), List.all_append, w_t3, ← List.take_append_drop 24 (((words1.drop 24).drop 24).drop 24), List.all_append, w_t4, ← List.take_append_drop 24 ((((words1.drop 24).drop 24).drop 24).drop 24), List.all_append, w_t5, ← List.take_append_drop 24 (((((words1.drop 24).drop 24).drop 24).drop 24).drop 24), List.all_append, w_t6, ← List.take_append_drop 24 ((((((words1.drop 24).drop 24).drop 24).drop 24).drop 24).drop 24), List.all_append, w_t7, w_t8]
  rfl
set_option maxRecDepth 65536 in
theorem w_rest : rest_1_c.before args0 about1 = true := by decide +kernel
set_option maxRecDepth 65536 in
theorem w_case : (Jvm.Cond.and given_1 narrow_1).before args0 about1 = true := by decide +kernel
theorem w_applies : (headSpec (Jvm.Cond.code x code maxLocals ret :: tables_1) room_1).applies x e0.platform about1 = true :=
  (Spec.applies_iff w_frames).mpr ⟨w_running, w_runnable, w_alone, w_named, w_hears, w_ripe, w_room, w_tables⟩
theorem atStart : AtStart classFile x code maxLocals ret World_1 tables_1 room_1 Calls_1 rest_1 Pre_1 launch0 p0 e0 about1 theMethod args0 below0 :=
  ⟨lists_1, trivial, launch0.admits_env _ _ _, launch0.least_env, fairChoices_fair.cas, fairChoices_fair.clock, w_frames, w_args, w_heap, w_applies, trivial, w_rest, w_case⟩
end start1
theorem witness_1 : WitnessClaimed_1 := ⟨start1.p0, start1.e0, start1.about1, start1.theMethod, start1.args0, start1.below0, start1.atStart⟩
end Jvm.Pilot.@@N@@
