import JvmDerived
import JvmDerived.Pilot.@@N@@Statement
import JvmDerived.Pilot.@@N@@Code
set_option linter.unusedVariables false
set_option linter.unusedSimpArgs false
@@BLOCK:NumsL.lean.txt@@
namespace Jvm.RoadKit
open Sem ClassFile Op Lib Jvm.Stand Jvm.Free Jvm.LawKit
section New
variable {p : Program} {l : Launch} {e : Env} {R : Room} {s : State} {m : MethodId} {args : Array Value} {below : List Frame} {meth : Method} {c : Code} {T : State} {locs : List Loc} {cells slots : Nat}
theorem retI (X : Stand p l e R s m args below meth c T locs cells slots) (hx : p.tables.exec = Jvm.exec) {pc : Nat} {Ls : Array Slot} {z : Int32} {rest : List Value} (hret : meth.sig.returnType = some .int) (hd : decode c.code pc = .ok (.ireturn, 1)) {fs : List Frame}
    (hl : ∀ (f : JFrame) (acts : List Action), f.method = m → f.locked = none → f.entered = [] → (doReturn e (T.setTop f) acts (some (.int z))).1 = T.setFrames fs) : Steps p.tables e below (T.setTop (mkF m pc Ls (.int z :: rest))) (T.setFrames fs) := by
  have hm' : T.vm.method? m = some meth := X.method'
  have hn : narrow .int (.int z) = .int z := rfl
  show Steps p.tables e below (T.setTop { method := m, pc := pc, locals := Ls, stack := _ :: rest, locked := none }) _
  jvm_step X.here [X.here.top, hx, hd, hm', hret, hn]
  first | (intro acts; rw [hl _ acts rfl rfl rfl]) | rw [hl _ _ rfl rfl rfl]
  exact Steps.refl _
end New
end Jvm.RoadKit
namespace Jvm.Pilot.@@N@@
open Jvm Jvm.ClassFile Sem Op Lib Jvm.Free Jvm.Stand Jvm.LawKit Jvm.RoadKit Bundle Jvm.Pilot.@@N@@.Jvm.D
theorem own_sta_keep {Z : State} {h h' : Heap} {C n d : String} {v : Value} {ws : List Addr} (F : Sta Z h C n d v) (K : Keep h h' ws) (q : ∀ w ∈ ws, ∃ c : Cell, h[w]? = some c ∧ c.vm.isStatics = false) : Sta Z h' C n d v := by
  obtain ⟨cf, i, k, f, st, cell, h1, h2, h3, h4, h5, h6, h7⟩ := F
  refine ⟨cf, i, k, f, st, cell, h1, h2, h3, h4, K.2.1 st cell h5 (fun hm => ?_), h6, h7⟩
  obtain ⟨c, r1, r2⟩ := q st hm
  rw [h5] at r1
  cases r1
  rw [h6] at r2
  cases r2
theorem own_ns {Z : State} {h : Heap} {a : Addr} {C : String} (E : Exa Z h a C) : ∃ c : Cell, h[a]? = some c ∧ c.vm.isStatics = false := by
  obtain ⟨cell, k, h1, -, -, h4, -⟩ := E
  exact ⟨cell, h1, h4⟩
theorem own_selp {C : String} {y : MethodName} {s : State} {args : Array Value} (hy : y.cls ≠ "java/lang/invoke/MethodHandle" ∧ y.cls ≠ "java/lang/invoke/VarHandle") (hsel : (Cond.selects C y y).before args s = true) (hpriv : (Cond.privateMethod y).before args s = true) (hinst : (Cond.instanceMethod y).before args s = true) : (Cond.selects y.cls y y).before args s = true := by
  obtain ⟨c, r, m, -, -, q3, -, k, hk, hki⟩ := Cond.selects_spec hsel
  exact Jvm.Stand.selects_self_of_private (findClass_of_methodNamed q3) hk hki (Cond.privateMethod_at hpriv) hinst hy
theorem own_seli {y : MethodName} {n : Nat} {s : State} {args : Array Value} (hy : y.cls ≠ "java/lang/invoke/MethodHandle" ∧ y.cls ≠ "java/lang/invoke/VarHandle") (hins : (Cond.instantiable y.cls n).before args s = true) (hpriv : (Cond.privateMethod y).before args s = true) (hinst : (Cond.instanceMethod y).before args s = true) : (Cond.selects y.cls y y).before args s = true := by
  obtain ⟨c, k, hc, hk, -, hniab, -, -⟩ := Cond.instantiable_spec hins
  exact Jvm.Stand.selects_self_of_private hc hk ((Bool.or_eq_false_iff.mp hniab).1) (Cond.privateMethod_at hpriv) hinst hy
theorem own_same {C : String} {y y' : MethodName} {s : State} {args : Array Value} (hy : y.cls ≠ "java/lang/invoke/MethodHandle" ∧ y.cls ≠ "java/lang/invoke/VarHandle") (hc : y'.cls = y.cls) (hsel : (Cond.selects C y' y').before args s = true) (hinst : (Cond.instanceMethod y).before args s = true) : (Cond.sameMethod y.cls y.cls y.name y.desc).before args s = true := by
  obtain ⟨c, r, m, -, -, q3, -, k, hk, hki⟩ := Cond.selects_spec hsel
  obtain ⟨mk, methM, hnamed, hmethM, -, -⟩ := Cond.instanceMethod_spec hinst
  have hfound : s.methodFound? y.cls y.name y.desc = some mk := State.methodFound?_of_named hnamed hy
  have h1 := findClass_of_methodNamed q3
  rw [hc] at h1
  have hn : s.methodNamed? ⟨y.cls, y.name, y.desc⟩ = some mk := hnamed
  simp only [Cond.before, Cond.holds, Cond.value, h1, hfound, hn, hk]
  simp [hki]
theorem own_len_set {l : List Value} {i n : Nat} {v : Value} (h : l.length = n) : (l.set i v).length = n := by rw [List.length_set]; exact h
theorem own_ltl {j z : Int32} {l : List Value} (e : l.length = z.toNatClampNeg) (h : ¬ j < 0 ∧ j < z) : j.toNatClampNeg < l.length := by
  rw [e]
  have h1 := h.1
  have h2 := h.2
  rw [Int32.lt_iff_toInt_lt] at h1 h2
  have h0 : (0 : Int32).toInt = 0 := by decide
  show j.toInt.toNat < z.toInt.toNat
  omega
theorem own_rep (n : Nat) (d : Value) (i : Nat) : (List.replicate n d).getD i d = ([] : List Value).getD i d := by
  rw [List.getD_eq_getElem?_getD, List.getElem?_replicate]
  split <;> rfl
theorem own_z0 {a b : Nat} (h : a ≤ b) : 0 + a ≤ b := by omega
def own_cp (l : List Value) (a b : Nat) : List Value := ((List.range a).map fun i => l.getD i (.int (0 : Int32))) ++ List.replicate (b - a) (.int (0 : Int32))
theorem own_cp_len (l : List Value) {a b : Nat} (h : a ≤ b) : (own_cp l a b).length = b := by
  unfold own_cp
  rw [List.length_append, List.length_map, List.length_range, List.length_replicate]
  omega
theorem own_cp_eq (l : List Value) (a b : Nat) : (List.replicate b (Value.int (0 : Int32))).take (0 : Int32).toNatClampNeg ++ ((List.range a).map fun i => l.getD (0 + i) (.int (0 : Int32))) ++ (List.replicate b (Value.int (0 : Int32))).drop ((0 : Int32).toNatClampNeg + a) = own_cp l a b := by
  have h0 : (0 : Int32).toNatClampNeg = 0 := by decide
  rw [h0]
  simp [own_cp, List.drop_replicate]
theorem own_le {c t r o k x : Nat} (h : c + t ≤ r) (q : o + k ≤ t) (e : x = c + o) : x + k ≤ r := by omega
theorem own_nf {C : String} {y y' : MethodName} {s : State} {args : Array Value} (hc : y'.cls = y.cls) (hsel : (Cond.selects C y' y').before args s = true) : NotFace s y := fun r0 h0 => by
  obtain ⟨c, r, m, -, -, q3, -, k, hk, hki⟩ := Cond.selects_spec hsel
  have h1 := findClass_of_methodNamed q3
  rw [hc] at h1
  have h2 := findClass_of_methodNamed h0
  have h3 := Option.some.inj (h1.symm.trans h2)
  exact ⟨k, h3 ▸ hk, hki⟩
theorem own_w {a0 : Array Value} {Z : State} (hw : ∀ d ∈ tables_1, d.before a0 Z = true) (i : Nat) {d : Jvm.Cond} (h : tables_1[i]? = some d) : d.before a0 Z = true := hw _ (List.mem_of_getElem? h)
def own_R (n : Nat) (F : Nat → Value) : List Value := (List.range n).map F
def own_up (F : Nat → Value) (i : Nat) (v : Value) : Nat → Value := fun q => if q = i then v else F q
theorem own_R_len (n : Nat) (F : Nat → Value) : (own_R n F).length = n := by unfold own_R; rw [List.length_map, List.length_range]
theorem own_R_at {n i : Nat} (F : Nat → Value) (h : i < n) : (own_R n F).getD i .null = F i := by
  unfold own_R
  rw [List.getD_eq_getElem?_getD, List.getElem?_map, List.getElem?_range h]
  rfl
theorem own_R_out {n i : Nat} (F : Nat → Value) (h : n ≤ i) : (own_R n F).getD i .null = .null := by
  rw [List.getD_eq_getElem?_getD, List.getElem?_eq_none (by rw [own_R_len]; exact h)]
  rfl
theorem own_R_set {n : Nat} (F : Nat → Value) (i : Nat) (v : Value) : (own_R n F).set i v = own_R n (own_up F i v) := by
  unfold own_R
  apply List.ext_getElem?
  intro q
  rw [List.getElem?_set, List.getElem?_map, List.getElem?_map, List.length_map, List.length_range]
  by_cases hq : i = q
  · subst hq
    by_cases hi : i < n
    · rw [if_pos rfl, if_pos hi, List.getElem?_range hi, Option.map_some]; simp [own_up]
    · rw [if_pos rfl, if_neg hi, List.getElem?_eq_none (by rw [List.length_range]; omega)]; rfl
  · rw [if_neg hq]
    by_cases hi : q < n
    · rw [List.getElem?_range hi, Option.map_some, Option.map_some]; simp [own_up, Ne.symm hq]
    · rw [List.getElem?_eq_none (by rw [List.length_range]; omega)]; rfl
theorem own_R_new (n i : Nat) : (own_R n (fun _ => Value.null)).getD i .null = ([] : List Value).getD i .null := by
  by_cases h : i < n
  · rw [own_R_at _ h]; rfl
  · rw [own_R_out _ (by omega)]; rfl
theorem own_R_eq {n : Nat} {F G : Nat → Value} (h : ∀ q, q < n → F q = G q) : own_R n F = own_R n G := by
  unfold own_R
  exact List.map_congr_left fun q hq => h q (List.mem_range.mp hq)
theorem d8_0 : decode jdk_29_method_69_code 0 = .ok (.iload_n 0, 1) := by decide +kernel
theorem d8_1 : decode jdk_29_method_69_code 1 = .ok (.iload_n 1, 1) := by decide +kernel
theorem d8_2 : decode jdk_29_method_69_code 2 = .ok (.if_icmp .gt 7, 3) := by decide +kernel
theorem d8_5 : decode jdk_29_method_69_code 5 = .ok (.iload_n 0, 1) := by decide +kernel
theorem d8_6 : decode jdk_29_method_69_code 6 = .ok (.goto 4, 3) := by decide +kernel
theorem d8_9 : decode jdk_29_method_69_code 9 = .ok (.iload_n 1, 1) := by decide +kernel
theorem d8_10 : decode jdk_29_method_69_code 10 = .ok (.ireturn, 1) := by decide +kernel
theorem ef_8 (m : MethodId) (p1 : Int32) (p2 : Int32) : entryFrame m #[(.int p1), (.int p2)] 2 = mkF m 0 #[.val (.int p1), .val (.int p2)] [] := by first | (simp [entryFrame, mkF, argsToLocals, Value.category]; done) | rfl
def F8_0 (p1 : Int32) (p2 : Int32) : Int32 := (if p2 < p1 then p2 else p1)
def Q8 (Z : State) (p1 : Int32) (p2 : Int32) (h0 : Heap) (n0 : Nat) (v : Option Value) (h : Heap) (L : List Loc) : Prop := v = some (.int (F8_0 p1 p2)) ∧ Fr n0 L ∧ h = h0
set_option maxRecDepth 65536 in
set_option maxHeartbeats 40000000 in
theorem rm8 (l : Launch) (Z : State) (a0 : Array Value) (hw : ∀ d ∈ tables_1, d.before a0 Z = true) (ws : List Jvm.Cond) (p1 : Int32) (p2 : Int32) (h0 : Heap) (n0 : Nat) (Z0 : n0 ≤ h0.size) :
    MetFree l (⟨"java/lang/Math", "min", "(II)I"⟩ : MethodName) (head1 (Jvm.Cond.code (⟨"java/lang/Math", "min", "(II)I"⟩ : MethodName) jdk_29_method_69_code 2 (some .int) :: ws) ({ frames := 0, cells := 0, slots := 0, locals := 0 } : Room)) (fun a U => a = #[(.int p1), (.int p2)] ∧ Z.Warmed39 U.vm ∧ U.heap = h0) (fun _ _ _ _ _ => True) (fun _ U o U' => ∃ v L, o = .returned v ∧ Q8 Z p1 p2 h0 n0 v U'.heap L ∧ FrameEnd U o U' L ({ frames := 0, cells := 0, slots := 0, locals := 0 } : Room).cells ({ frames := 0, cells := 0, slots := 0, locals := 0 } : Room).slots) := by
  refine MetFree.of_bodySF (Jvm.Free.JP.mathPlain rfl (by decide +kernel)) hisR ?_
  intro p e s m args below meth c s₁ Bd hml0 hP hK
  obtain ⟨rfl, hZ, hh⟩ := hP
  have hx := Bd.exec
  have hby := Bd.bytes
  have hml : c.maxLocals = 2 := hml0
  have hown : s.vm.findClass "java/lang/Math" = some m.cls := findClass_of_methodNamed Bd.named
  have hnm := (name_of_methodNamed Bd.named Bd.method).1
  have X0 : Stand p l e ({ frames := 0, cells := 0, slots := 0, locals := 0 } : Room) s m #[(.int p1), (.int p2)] below meth c s₁ [] 0 0 := Stand.of_body Bd
  have e0 : s₁.heap = h0 := by rw [← hh, Bd.state]; rfl
  have N0 := Fr.nil n0
  have pre0 : ∀ t, Steps p.tables e below (s₁.setTop (mkF m 0 #[.val (.int p1), .val (.int p2)] [])) t → Steps p.tables e below (s₁.setTop (entryFrame m #[(.int p1), (.int p2)] 2)) t := fun t k => castTop (ef_8 m p1 p2) k
  obtain ⟨fs, hr, hrun, hended, hW, hsame⟩ := X0.leave (v := some (.int (F8_0 p1 p2))) (fun h => by rw [Bd.returns] at h; cases h) Bd.notSynchronized
  refine ⟨_, _, pre0 _ ?_, hrun, hended, _, _, rfl, ?_, ⟨_, rfl⟩, hW, hsame.mono (by decide) (by decide)⟩
  · have j0 : ∀ (hF : F8_0 p1 p2 = F8_0 p1 p2), Steps p.tables e below (s₁.setTop (mkF m 0 #[.val (.int p1), .val (.int p2)] [])) (s₁.setFrames fs) := by
      intro hF
      show Steps p.tables e below (s₁.setTop (mkF m 0 #[.val (.int p1), .val (.int p2)] [])) _
      refine XS.iloadN X0.here hx rfl (hb hby d8_0) rfl ?_
      show Steps p.tables e below (s₁.setTop (mkF m 1 #[.val (.int p1), .val (.int p2)] [(.int p1)])) _
      refine XS.iloadN X0.here hx rfl (hb hby d8_1) rfl ?_
      show Steps p.tables e below (s₁.setTop (mkF m 2 #[.val (.int p1), .val (.int p2)] [(.int p2), (.int p1)])) _
      by_cases hc2 : p2 < p1
      · refine XS.icmpYes X0.here hx rfl (pc0 := 2) (pc' := 9) rfl (hb hby d8_2) rfl (tlt hc2).2.2.1 (by decide) (by decide) ?_
        show Steps p.tables e below (s₁.setTop (mkF m 9 #[.val (.int p1), .val (.int p2)] [])) _
        refine XS.iloadN X0.here hx rfl (hb hby d8_9) rfl ?_
        show Steps p.tables e below (s₁.setTop (mkF m 10 #[.val (.int p1), .val (.int p2)] [(.int p2)])) _
        have hv := (hF.trans (by rw [F8_0, if_pos hc2] : _ = p2))
        rw [hv] at hr
        exact retI X0 hx Bd.returns (hb hby d8_10) hr
      · refine XS.icmpNo X0.here hx rfl (hb hby d8_2) rfl (flt hc2).2.2.1 ?_
        show Steps p.tables e below (s₁.setTop (mkF m 5 #[.val (.int p1), .val (.int p2)] [])) _
        refine XS.iloadN X0.here hx rfl (hb hby d8_5) rfl ?_
        show Steps p.tables e below (s₁.setTop (mkF m 6 #[.val (.int p1), .val (.int p2)] [(.int p1)])) _
        refine XS.goto X0.here hx rfl (pc0 := 6) (pc' := 10) rfl (hb hby d8_6) (by decide) (by decide) ?_
        show Steps p.tables e below (s₁.setTop (mkF m 10 #[.val (.int p1), .val (.int p2)] [(.int p1)])) _
        have hv := (hF.trans (by rw [F8_0, if_neg hc2] : _ = p1))
        rw [hv] at hr
        exact retI X0 hx Bd.returns (hb hby d8_10) hr
    exact j0 rfl
  · show Q8 Z p1 p2 h0 n0 _ s₁.heap _
    rw [e0]
    exact ⟨rfl, N0, rfl⟩
theorem d6_0 : decode prog_72_method_5_code 0 = .ok (.aload_n 0, 1) := by decide +kernel
theorem d6_1 : decode prog_72_method_5_code 1 = .ok (.getfield 17, 3) := by decide +kernel
theorem d6_4 : decode prog_72_method_5_code 4 = .ok (.astore_n 3, 1) := by decide +kernel
theorem d6_5 : decode prog_72_method_5_code 5 = .ok (.aload_n 3, 1) := by decide +kernel
theorem d6_6 : decode prog_72_method_5_code 6 = .ok (.ifnull 10, 3) := by decide +kernel
theorem d6_9 : decode prog_72_method_5_code 9 = .ok (.aload_n 3, 1) := by decide +kernel
theorem d6_10 : decode prog_72_method_5_code 10 = .ok (.iload_n 1, 1) := by decide +kernel
theorem d6_11 : decode prog_72_method_5_code 11 = .ok (.aload_n 2, 1) := by decide +kernel
theorem d6_12 : decode prog_72_method_5_code 12 = .ok (.aastore, 1) := by decide +kernel
theorem d6_13 : decode prog_72_method_5_code 13 = .ok (.goto 18, 3) := by decide +kernel
theorem d6_31 : decode prog_72_method_5_code 31 = .ok (.return_, 1) := by decide +kernel
theorem pn_6 : plainName "com/example/hashwright/hashwright/table/PagedArray" = true := by first | (simp [plainName, overriddenIn]; done) | decide +kernel
theorem ef_6 (m : MethodId) (x0 : Addr) (x1 : Int32) (x2 : Addr) : entryFrame m #[(.ref x0), (.int x1), (.ref x2)] 4 = mkF m 0 #[.val (.ref x0), .val (.int x1), .val (.ref x2), .unset] [] := by first | (simp [entryFrame, mkF, argsToLocals, Value.category]; done) | rfl
def Q_rmSetF (Z : State) (a1 va y : Addr) (k1 : ClassId) (zl : Int32) (G : Nat → Value) (p2 : Int32) (h0 : Heap) (n0 : Nat) (v : Option Value) (h : Heap) (L : List Loc) : Prop := v = none ∧ Fr n0 L ∧ Keep h0 h [va] ∧ Fld Z h a1 "com/example/hashwright/hashwright/table/PagedArray" "elements" "[Ljava/lang/Object;" (.ref va) ∧ Arv Z h va k1 (.object "java/lang/Object") zl (own_R (zl).toNatClampNeg (own_up G (p2).toNatClampNeg (.ref y))) .null
set_option maxRecDepth 65536 in
set_option maxHeartbeats 40000000 in
theorem rmSetF (l : Launch) (Z : State) (a0 : Array Value) (hw : ∀ d ∈ tables_1, d.before a0 Z = true) (ws : List Jvm.Cond) (a1 va y : Addr) (k1 : ClassId) (zl : Int32) (G : Nat → Value) (p2 : Int32) (h0 : Heap) (n0 : Nat) (Z0 : n0 ≤ h0.size) (F_elements_a1 : Fld Z h0 a1 "com/example/hashwright/hashwright/table/PagedArray" "elements" "[Ljava/lang/Object;" (.ref va)) (V_va : Arv Z h0 va k1 (.object "java/lang/Object") zl (own_R (zl).toNatClampNeg G) .null) (EX_y : Exa Z h0 y "java/lang/Integer") (O_va : Ovr Z k1 "java/lang/Object") (ge_va : n0 ≤ va) (ne_a1_va : a1 ≠ va) (hc_q3 : ¬ p2 < 0 ∧ p2 < zl) :
    MetFree l (⟨"com/example/hashwright/hashwright/table/PagedArray", "set", "(ILjava/lang/Object;)V"⟩ : MethodName) (head1 (Jvm.Cond.code (⟨"com/example/hashwright/hashwright/table/PagedArray", "set", "(ILjava/lang/Object;)V"⟩ : MethodName) prog_72_method_5_code 4 none :: ws) ({ frames := 0, cells := 0, slots := 0, locals := 0 } : Room)) (fun a U => a = #[(.ref a1), (.int p2), (.ref y)] ∧ Z.Warmed39 U.vm ∧ U.heap = h0) (fun _ _ _ _ _ => True) (fun _ U o U' => ∃ v L, o = .returned v ∧ Q_rmSetF Z a1 va y k1 zl G p2 h0 n0 v U'.heap L ∧ FrameEnd U o U' L ({ frames := 0, cells := 0, slots := 0, locals := 0 } : Room).cells ({ frames := 0, cells := 0, slots := 0, locals := 0 } : Room).slots) := by
  refine MetFree.of_bodySF (plainFor_of_name pn_6) hisR ?_
  intro p e s m args below meth c s₁ Bd hml0 hP hK
  obtain ⟨rfl, hZ, hh⟩ := hP
  have hx := Bd.exec
  have hby := Bd.bytes
  have hml : c.maxLocals = 4 := hml0
  have hown : s.vm.findClass "com/example/hashwright/hashwright/table/PagedArray" = some m.cls := findClass_of_methodNamed Bd.named
  have hnm := (name_of_methodNamed Bd.named Bd.method).1
  have X0 : Stand p l e ({ frames := 0, cells := 0, slots := 0, locals := 0 } : Room) s m #[(.ref a1), (.int p2), (.ref y)] below meth c s₁ [] 0 0 := Stand.of_body Bd
  have e0 : s₁.heap = h0 := by rw [← hh, Bd.state]; rfl
  have N0 := Fr.nil n0
  have pre0 : ∀ t, Steps p.tables e below (s₁.setTop (mkF m 0 #[.val (.ref a1), .val (.int p2), .val (.ref y), .unset] [])) t → Steps p.tables e below (s₁.setTop (entryFrame m #[(.ref a1), (.int p2), (.ref y)] 4)) t := fun t k => castTop (ef_6 m a1 p2 y) k
  have K0 : Keep h0 h0 [va] := Keep.refl _ _
  obtain ⟨T_q1, X_q1, e_q1, st_q1⟩ := getF X0 hx hZ hown (host := "") (Or.inl (own_w hw 23 rfl)) Via.refl e0 F_elements_a1 (g := (mkF m 1 #[.val (.ref a1), .val (.int p2), .val (.ref y), .unset] [(.ref a1)])) rfl rfl (hb hby d6_1)
  obtain ⟨cl_q2, Ar_q2, qk_q2, S_q2, Nn_q2, H_q2, G_q2⟩ := id V_va
  have hin_q2 : ¬ (p2 < 0 ∨ cl_q2.slots.size ≤ (p2).toNatClampNeg) := inb_of S_q2 hc_q3
  have lt_q2 : (p2).toNatClampNeg < (zl).toNatClampNeg := by have q := Nat.lt_of_not_le fun q => hin_q2 (Or.inr q); rw [S_q2] at q; exact q
  obtain ⟨T_q2, h_q2, X_q2, e_q2, W_q2, st_q2⟩ := stR X_q1 hx hZ e_q1 Ar_q2 (j := p2) hin_q2 rfl (Sto.ofV Ar_q2 qk_q2 O_va (Ins.of_exa EX_y (own_w hw 35 rfl))) (g := (mkF m 12 #[.val (.ref a1), .val (.int p2), .val (.ref y), .val (.ref va)] [(.ref y), (.int p2), (.ref va)])) rfl rfl (hb hby d6_12)
  have F_elements_a1__q2 := F_elements_a1.other W_q2 (Or.inl ne_a1_va)
  have V_va__q2 : Arv Z h_q2 va k1 (.object "java/lang/Object") zl (own_R (zl).toNatClampNeg (own_up G (p2).toNatClampNeg (.ref y))) .null := by rw [← own_R_set]; exact Arv.set Ar_q2 qk_q2 S_q2 Nn_q2 H_q2 G_q2 rfl W_q2 _ rfl (by rw [own_R_len]; exact lt_q2)
  have K_q2 : Keep h0 h_q2 [va] := K0.wr W_q2 (Or.inl (List.mem_of_getElem? (i := 0) rfl))
  have N_q2 := Fr.snoc X_q2 N0 ge_va
  obtain ⟨fs, hr, hrun, hended, hW, hsame⟩ := X_q2.leave (v := none) (fun _ => rfl) Bd.notSynchronized
  refine ⟨_, _, pre0 _ ?_, hrun, hended, _, _, rfl, ?_, ⟨_, rfl⟩, hW, hsame.mono (by decide) (by decide)⟩
  · show Steps p.tables e below (s₁.setTop (mkF m 0 #[.val (.ref a1), .val (.int p2), .val (.ref y), .unset] [])) _
    refine XS.aloadN X0.here hx rfl (hb hby d6_0) rfl rfl ?_
    show Steps p.tables e below (s₁.setTop (mkF m 1 #[.val (.ref a1), .val (.int p2), .val (.ref y), .unset] [(.ref a1)])) _
    refine st_q1 _ ?_
    refine XS.astoreN X_q1.here hx rfl (hb hby d6_4) rfl rfl (l' := #[.val (.ref a1), .val (.int p2), .val (.ref y), .val (.ref va)]) rfl ?_
    refine XS.aloadN X_q1.here hx rfl (hb hby d6_5) rfl rfl ?_
    refine XS.ifnullNo X_q1.here hx rfl (hb hby d6_6) rfl ?_
    show Steps p.tables e below (T_q1.setTop (mkF m 9 #[.val (.ref a1), .val (.int p2), .val (.ref y), .val (.ref va)] [])) _
    refine XS.aloadN X_q1.here hx rfl (hb hby d6_9) rfl rfl ?_
    refine XS.iloadN X_q1.here hx rfl (hb hby d6_10) rfl ?_
    refine XS.aloadN X_q1.here hx rfl (hb hby d6_11) rfl rfl ?_
    show Steps p.tables e below (T_q1.setTop (mkF m 12 #[.val (.ref a1), .val (.int p2), .val (.ref y), .val (.ref va)] [(.ref y), (.int p2), (.ref va)])) _
    refine st_q2 _ ?_
    refine XS.goto X_q2.here hx rfl (pc0 := 13) (pc' := 31) rfl (hb hby d6_13) (by decide) (by decide) ?_
    show Steps p.tables e below (T_q2.setTop (mkF m 31 #[.val (.ref a1), .val (.int p2), .val (.ref y), .val (.ref va)] [])) _
    exact X_q2.returnOut hx Bd.returns (hb hby d6_31) hr
  · show Q_rmSetF Z a1 va y k1 zl G p2 h0 n0 _ T_q2.heap _
    rw [e_q2]
    exact ⟨rfl, N_q2, K_q2, F_elements_a1__q2, V_va__q2⟩
theorem d7_0 : decode prog_72_method_4_code 0 = .ok (.aload_n 0, 1) := by decide +kernel
theorem d7_1 : decode prog_72_method_4_code 1 = .ok (.getfield 17, 3) := by decide +kernel
theorem d7_4 : decode prog_72_method_4_code 4 = .ok (.astore_n 2, 1) := by decide +kernel
theorem d7_5 : decode prog_72_method_4_code 5 = .ok (.aload_n 2, 1) := by decide +kernel
theorem d7_6 : decode prog_72_method_4_code 6 = .ok (.ifnull 9, 3) := by decide +kernel
theorem d7_9 : decode prog_72_method_4_code 9 = .ok (.aload_n 2, 1) := by decide +kernel
theorem d7_10 : decode prog_72_method_4_code 10 = .ok (.iload_n 1, 1) := by decide +kernel
theorem d7_11 : decode prog_72_method_4_code 11 = .ok (.aaload, 1) := by decide +kernel
theorem d7_12 : decode prog_72_method_4_code 12 = .ok (.goto 17, 3) := by decide +kernel
theorem d7_29 : decode prog_72_method_4_code 29 = .ok (.astore_n 3, 1) := by decide +kernel
theorem d7_30 : decode prog_72_method_4_code 30 = .ok (.aload_n 3, 1) := by decide +kernel
theorem d7_31 : decode prog_72_method_4_code 31 = .ok (.areturn, 1) := by decide +kernel
theorem pn_7 : plainName "com/example/hashwright/hashwright/table/PagedArray" = true := by first | (simp [plainName, overriddenIn]; done) | decide +kernel
theorem ef_7 (m : MethodId) (x0 : Addr) (x1 : Int32) : entryFrame m #[(.ref x0), (.int x1)] 4 = mkF m 0 #[.val (.ref x0), .val (.int x1), .unset, .unset] [] := by first | (simp [entryFrame, mkF, argsToLocals, Value.category]; done) | rfl
def Q_rmGetFn (Z : State) (a1 va : Addr) (k1 : ClassId) (zl : Int32) (G : Nat → Value) (p2 : Int32) (h0 : Heap) (n0 : Nat) (v : Option Value) (h : Heap) (L : List Loc) : Prop := v = some .null ∧ Fr n0 L ∧ h = h0
set_option maxRecDepth 65536 in
set_option maxHeartbeats 40000000 in
theorem rmGetFn (l : Launch) (Z : State) (a0 : Array Value) (hw : ∀ d ∈ tables_1, d.before a0 Z = true) (ws : List Jvm.Cond) (a1 va : Addr) (k1 : ClassId) (zl : Int32) (G : Nat → Value) (p2 : Int32) (h0 : Heap) (n0 : Nat) (Z0 : n0 ≤ h0.size) (F_elements_a1 : Fld Z h0 a1 "com/example/hashwright/hashwright/table/PagedArray" "elements" "[Ljava/lang/Object;" (.ref va)) (V_va : Arv Z h0 va k1 (.object "java/lang/Object") zl (own_R (zl).toNatClampNeg G) .null) (hc_q1 : (G (p2).toNatClampNeg) = .null) (hc_q4 : ¬ p2 < 0 ∧ p2 < zl) :
    MetFree l (⟨"com/example/hashwright/hashwright/table/PagedArray", "get", "(I)Ljava/lang/Object;"⟩ : MethodName) (head1 (Jvm.Cond.code (⟨"com/example/hashwright/hashwright/table/PagedArray", "get", "(I)Ljava/lang/Object;"⟩ : MethodName) prog_72_method_4_code 4 (some (.object "java/lang/Object")) :: ws) ({ frames := 0, cells := 0, slots := 0, locals := 0 } : Room)) (fun a U => a = #[(.ref a1), (.int p2)] ∧ Z.Warmed39 U.vm ∧ U.heap = h0) (fun _ _ _ _ _ => True) (fun _ U o U' => ∃ v L, o = .returned v ∧ Q_rmGetFn Z a1 va k1 zl G p2 h0 n0 v U'.heap L ∧ FrameEnd U o U' L ({ frames := 0, cells := 0, slots := 0, locals := 0 } : Room).cells ({ frames := 0, cells := 0, slots := 0, locals := 0 } : Room).slots) := by
  refine MetFree.of_bodySF (plainFor_of_name pn_7) hisR ?_
  intro p e s m args below meth c s₁ Bd hml0 hP hK
  obtain ⟨rfl, hZ, hh⟩ := hP
  have hx := Bd.exec
  have hby := Bd.bytes
  have hml : c.maxLocals = 4 := hml0
  have hown : s.vm.findClass "com/example/hashwright/hashwright/table/PagedArray" = some m.cls := findClass_of_methodNamed Bd.named
  have hnm := (name_of_methodNamed Bd.named Bd.method).1
  have X0 : Stand p l e ({ frames := 0, cells := 0, slots := 0, locals := 0 } : Room) s m #[(.ref a1), (.int p2)] below meth c s₁ [] 0 0 := Stand.of_body Bd
  have e0 : s₁.heap = h0 := by rw [← hh, Bd.state]; rfl
  have N0 := Fr.nil n0
  have pre0 : ∀ t, Steps p.tables e below (s₁.setTop (mkF m 0 #[.val (.ref a1), .val (.int p2), .unset, .unset] [])) t → Steps p.tables e below (s₁.setTop (entryFrame m #[(.ref a1), (.int p2)] 4)) t := fun t k => castTop (ef_7 m a1 p2) k
  obtain ⟨T_q2, X_q2, e_q2, st_q2⟩ := getF X0 hx hZ hown (host := "") (Or.inl (own_w hw 23 rfl)) Via.refl e0 F_elements_a1 (g := (mkF m 1 #[.val (.ref a1), .val (.int p2), .unset, .unset] [(.ref a1)])) rfl rfl (hb hby d7_1)
  obtain ⟨cl_q3, Ar_q3, qk_q3, S_q3, Nn_q3, H_q3, G_q3⟩ := id V_va
  have hin_q3 : ¬ (p2 < 0 ∨ cl_q3.slots.size ≤ (p2).toNatClampNeg) := inb_of S_q3 hc_q4
  have lt_q3 : (p2).toNatClampNeg < (zl).toNatClampNeg := by have q := Nat.lt_of_not_le fun q => hin_q3 (Or.inr q); rw [S_q3] at q; exact q
  have hat_q3 : cl_q3.slots[(p2).toNatClampNeg]? = some (G (p2).toNatClampNeg) := (H_q3 _ (Nat.lt_of_not_le fun q => hin_q3 (Or.inr q))).trans (congrArg some (own_R_at _ lt_q3))
  obtain ⟨fs, hr, hrun, hended, hW, hsame⟩ := X_q2.leave (v := some .null) (fun h => by rw [Bd.returns] at h; cases h) Bd.notSynchronized
  refine ⟨_, _, pre0 _ ?_, hrun, hended, _, _, rfl, ?_, ⟨_, rfl⟩, hW, hsame.mono (by decide) (by decide)⟩
  · show Steps p.tables e below (s₁.setTop (mkF m 0 #[.val (.ref a1), .val (.int p2), .unset, .unset] [])) _
    refine XS.aloadN X0.here hx rfl (hb hby d7_0) rfl rfl ?_
    show Steps p.tables e below (s₁.setTop (mkF m 1 #[.val (.ref a1), .val (.int p2), .unset, .unset] [(.ref a1)])) _
    refine st_q2 _ ?_
    refine XS.astoreN X_q2.here hx rfl (hb hby d7_4) rfl rfl (l' := #[.val (.ref a1), .val (.int p2), .val (.ref va), .unset]) rfl ?_
    refine XS.aloadN X_q2.here hx rfl (hb hby d7_5) rfl rfl ?_
    refine XS.ifnullNo X_q2.here hx rfl (hb hby d7_6) rfl ?_
    show Steps p.tables e below (T_q2.setTop (mkF m 9 #[.val (.ref a1), .val (.int p2), .val (.ref va), .unset] [])) _
    refine XS.aloadN X_q2.here hx rfl (hb hby d7_9) rfl rfl ?_
    refine XS.iloadN X_q2.here hx rfl (hb hby d7_10) rfl ?_
    show Steps p.tables e below (T_q2.setTop (mkF m 11 #[.val (.ref a1), .val (.int p2), .val (.ref va), .unset] [(.int p2), (.ref va)])) _
    refine X_q2.aaload hx (j := p2) (v := (G (p2).toNatClampNeg)) (by rw [e_q2]; exact Ar_q3.1) (State.isArrayOf_alike hZ.alike Ar_q3.2.1) rfl Ar_q3.2.2 hin_q3 hat_q3 (g := (mkF m 11 #[.val (.ref a1), .val (.int p2), .val (.ref va), .unset] [(.int p2), (.ref va)])) rfl rfl (hb hby d7_11) _ ?_
    show Steps p.tables e below (T_q2.setTop (mkF m 12 #[.val (.ref a1), .val (.int p2), .val (.ref va), .unset] [(G (p2).toNatClampNeg)])) _
    rw [hc_q1]
    refine XS.goto X_q2.here hx rfl (pc0 := 12) (pc' := 29) rfl (hb hby d7_12) (by decide) (by decide) ?_
    refine XS.astoreN X_q2.here hx rfl (hb hby d7_29) rfl rfl (l' := #[.val (.ref a1), .val (.int p2), .val (.ref va), .val .null]) rfl ?_
    refine XS.aloadN X_q2.here hx rfl (hb hby d7_30) rfl rfl ?_
    show Steps p.tables e below (T_q2.setTop (mkF m 31 #[.val (.ref a1), .val (.int p2), .val (.ref va), .val .null] [.null])) _
    jvm_step X_q2.here [X_q2.here.top, hx, (hb hby d7_31), X_q2.method', Bd.returns, Value.isRef, FieldType.isReference]
    first | (intro acts; rw [hr _ acts rfl rfl rfl]) | rw [hr _ _ rfl rfl rfl]
    exact Steps.refl _
  · show Q_rmGetFn Z a1 va k1 zl G p2 h0 n0 _ T_q2.heap _
    rw [e_q2]
    exact ⟨rfl, N0, rfl⟩
theorem d7_15 : decode prog_72_method_4_code 15 = .ok (.aload_n 0, 1) := by decide +kernel
theorem d7_16 : decode prog_72_method_4_code 16 = .ok (.getfield 21, 3) := by decide +kernel
theorem d7_19 : decode prog_72_method_4_code 19 = .ok (.iload_n 1, 1) := by decide +kernel
theorem d7_20 : decode prog_72_method_4_code 20 = .ok (.bipush 16, 2) := by decide +kernel
theorem d7_22 : decode prog_72_method_4_code 22 = .ok (.iushr, 1) := by decide +kernel
theorem d7_23 : decode prog_72_method_4_code 23 = .ok (.aaload, 1) := by decide +kernel
theorem d7_24 : decode prog_72_method_4_code 24 = .ok (.iload_n 1, 1) := by decide +kernel
theorem d7_25 : decode prog_72_method_4_code 25 = .ok (.ldc 42, 2) := by decide +kernel
theorem d7_27 : decode prog_72_method_4_code 27 = .ok (.iand, 1) := by decide +kernel
theorem d7_28 : decode prog_72_method_4_code 28 = .ok (.aaload, 1) := by decide +kernel
def Q_rmGetPn (Z : State) (a1 pg pt : Addr) (kg k1 : ClassId) (zp zl : Int32) (PT G : Nat → Value) (p2 : Int32) (h0 : Heap) (n0 : Nat) (v : Option Value) (h : Heap) (L : List Loc) : Prop := v = some .null ∧ Fr n0 L ∧ h = h0
set_option maxRecDepth 65536 in
set_option maxHeartbeats 40000000 in
theorem rmGetPn (l : Launch) (Z : State) (a0 : Array Value) (hw : ∀ d ∈ tables_1, d.before a0 Z = true) (ws : List Jvm.Cond) (a1 pg pt : Addr) (kg k1 : ClassId) (zp zl : Int32) (PT G : Nat → Value) (p2 : Int32) (h0 : Heap) (n0 : Nat) (Z0 : n0 ≤ h0.size) (F_elements_a1 : Fld Z h0 a1 "com/example/hashwright/hashwright/table/PagedArray" "elements" "[Ljava/lang/Object;" .null) (F_pages_a1 : Fld Z h0 a1 "com/example/hashwright/hashwright/table/PagedArray" "pages" "[[Ljava/lang/Object;" (.ref pg)) (V_pg : Arv Z h0 pg kg (.array (.object "java/lang/Object")) zp (own_R (zp).toNatClampNeg PT) .null) (V_pt : Arv Z h0 pt k1 (.object "java/lang/Object") zl (own_R (zl).toNatClampNeg G) .null) (hc_q1 : (PT (((p2.toUInt32 >>> ((16 : Int32) &&& 31).toUInt32).toInt32)).toNatClampNeg) = (.ref pt)) (hc_q2 : (G (p2 &&& (65535 : Int32)).toNatClampNeg) = .null) (hc_q6 : ¬ ((p2.toUInt32 >>> ((16 : Int32) &&& 31).toUInt32).toInt32) < 0 ∧ ((p2.toUInt32 >>> ((16 : Int32) &&& 31).toUInt32).toInt32) < zp) (hc_q8 : ¬ (p2 &&& (65535 : Int32)) < 0 ∧ (p2 &&& (65535 : Int32)) < zl) :
    MetFree l (⟨"com/example/hashwright/hashwright/table/PagedArray", "get", "(I)Ljava/lang/Object;"⟩ : MethodName) (head1 (Jvm.Cond.code (⟨"com/example/hashwright/hashwright/table/PagedArray", "get", "(I)Ljava/lang/Object;"⟩ : MethodName) prog_72_method_4_code 4 (some (.object "java/lang/Object")) :: ws) ({ frames := 0, cells := 0, slots := 0, locals := 0 } : Room)) (fun a U => a = #[(.ref a1), (.int p2)] ∧ Z.Warmed39 U.vm ∧ U.heap = h0) (fun _ _ _ _ _ => True) (fun _ U o U' => ∃ v L, o = .returned v ∧ Q_rmGetPn Z a1 pg pt kg k1 zp zl PT G p2 h0 n0 v U'.heap L ∧ FrameEnd U o U' L ({ frames := 0, cells := 0, slots := 0, locals := 0 } : Room).cells ({ frames := 0, cells := 0, slots := 0, locals := 0 } : Room).slots) := by
  refine MetFree.of_bodySF (plainFor_of_name pn_7) hisR ?_
  intro p e s m args below meth c s₁ Bd hml0 hP hK
  obtain ⟨rfl, hZ, hh⟩ := hP
  have hx := Bd.exec
  have hby := Bd.bytes
  have hml : c.maxLocals = 4 := hml0
  have hown : s.vm.findClass "com/example/hashwright/hashwright/table/PagedArray" = some m.cls := findClass_of_methodNamed Bd.named
  have hnm := (name_of_methodNamed Bd.named Bd.method).1
  have X0 : Stand p l e ({ frames := 0, cells := 0, slots := 0, locals := 0 } : Room) s m #[(.ref a1), (.int p2)] below meth c s₁ [] 0 0 := Stand.of_body Bd
  have e0 : s₁.heap = h0 := by rw [← hh, Bd.state]; rfl
  have N0 := Fr.nil n0
  have pre0 : ∀ t, Steps p.tables e below (s₁.setTop (mkF m 0 #[.val (.ref a1), .val (.int p2), .unset, .unset] [])) t → Steps p.tables e below (s₁.setTop (entryFrame m #[(.ref a1), (.int p2)] 4)) t := fun t k => castTop (ef_7 m a1 p2) k
  obtain ⟨T_q3, X_q3, e_q3, st_q3⟩ := getF X0 hx hZ hown (host := "") (Or.inl (own_w hw 23 rfl)) Via.refl e0 F_elements_a1 (g := (mkF m 1 #[.val (.ref a1), .val (.int p2), .unset, .unset] [(.ref a1)])) rfl rfl (hb hby d7_1)
  obtain ⟨T_q4, X_q4, e_q4, st_q4⟩ := getF X_q3 hx hZ hown (host := "") (Or.inl (own_w hw 25 rfl)) Via.refl e_q3 F_pages_a1 (g := (mkF m 16 #[.val (.ref a1), .val (.int p2), .val .null, .unset] [(.ref a1)])) rfl rfl (hb hby d7_16)
  obtain ⟨cl_q5, Ar_q5, qk_q5, S_q5, Nn_q5, H_q5, G_q5⟩ := id V_pg
  have hin_q5 : ¬ (((p2.toUInt32 >>> ((16 : Int32) &&& 31).toUInt32).toInt32) < 0 ∨ cl_q5.slots.size ≤ (((p2.toUInt32 >>> ((16 : Int32) &&& 31).toUInt32).toInt32)).toNatClampNeg) := inb_of S_q5 hc_q6
  have lt_q5 : (((p2.toUInt32 >>> ((16 : Int32) &&& 31).toUInt32).toInt32)).toNatClampNeg < (zp).toNatClampNeg := by have q := Nat.lt_of_not_le fun q => hin_q5 (Or.inr q); rw [S_q5] at q; exact q
  have hat_q5 : cl_q5.slots[(((p2.toUInt32 >>> ((16 : Int32) &&& 31).toUInt32).toInt32)).toNatClampNeg]? = some (PT (((p2.toUInt32 >>> ((16 : Int32) &&& 31).toUInt32).toInt32)).toNatClampNeg) := (H_q5 _ (Nat.lt_of_not_le fun q => hin_q5 (Or.inr q))).trans (congrArg some (own_R_at _ lt_q5))
  obtain ⟨cl_q7, Ar_q7, qk_q7, S_q7, Nn_q7, H_q7, G_q7⟩ := id V_pt
  have hin_q7 : ¬ ((p2 &&& (65535 : Int32)) < 0 ∨ cl_q7.slots.size ≤ ((p2 &&& (65535 : Int32))).toNatClampNeg) := inb_of S_q7 hc_q8
  have lt_q7 : ((p2 &&& (65535 : Int32))).toNatClampNeg < (zl).toNatClampNeg := by have q := Nat.lt_of_not_le fun q => hin_q7 (Or.inr q); rw [S_q7] at q; exact q
  have hat_q7 : cl_q7.slots[((p2 &&& (65535 : Int32))).toNatClampNeg]? = some (G ((p2 &&& (65535 : Int32))).toNatClampNeg) := (H_q7 _ (Nat.lt_of_not_le fun q => hin_q7 (Or.inr q))).trans (congrArg some (own_R_at _ lt_q7))
  obtain ⟨fs, hr, hrun, hended, hW, hsame⟩ := X_q4.leave (v := some .null) (fun h => by rw [Bd.returns] at h; cases h) Bd.notSynchronized
  refine ⟨_, _, pre0 _ ?_, hrun, hended, _, _, rfl, ?_, ⟨_, rfl⟩, hW, hsame.mono (by decide) (by decide)⟩
  · show Steps p.tables e below (s₁.setTop (mkF m 0 #[.val (.ref a1), .val (.int p2), .unset, .unset] [])) _
    refine XS.aloadN X0.here hx rfl (hb hby d7_0) rfl rfl ?_
    show Steps p.tables e below (s₁.setTop (mkF m 1 #[.val (.ref a1), .val (.int p2), .unset, .unset] [(.ref a1)])) _
    refine st_q3 _ ?_
    refine XS.astoreN X_q3.here hx rfl (hb hby d7_4) rfl rfl (l' := #[.val (.ref a1), .val (.int p2), .val .null, .unset]) rfl ?_
    refine XS.aloadN X_q3.here hx rfl (hb hby d7_5) rfl rfl ?_
    refine XS.ifnullYes X_q3.here hx rfl (pc0 := 6) (pc' := 15) rfl (hb hby d7_6) rfl (by decide) (by decide) ?_
    show Steps p.tables e below (T_q3.setTop (mkF m 15 #[.val (.ref a1), .val (.int p2), .val .null, .unset] [])) _
    refine XS.aloadN X_q3.here hx rfl (hb hby d7_15) rfl rfl ?_
    show Steps p.tables e below (T_q3.setTop (mkF m 16 #[.val (.ref a1), .val (.int p2), .val .null, .unset] [(.ref a1)])) _
    refine st_q4 _ ?_
    refine XS.iloadN X_q4.here hx rfl (hb hby d7_19) rfl ?_
    refine XS.bipush X_q4.here hx rfl (hb hby d7_20) ?_
    refine XS.iushr X_q4.here hx rfl (hb hby d7_22) rfl ?_
    show Steps p.tables e below (T_q4.setTop (mkF m 23 #[.val (.ref a1), .val (.int p2), .val .null, .unset] [(.int ((p2.toUInt32 >>> ((16 : Int32) &&& 31).toUInt32).toInt32)), (.ref pg)])) _
    refine X_q4.aaload hx (j := ((p2.toUInt32 >>> ((16 : Int32) &&& 31).toUInt32).toInt32)) (v := (PT (((p2.toUInt32 >>> ((16 : Int32) &&& 31).toUInt32).toInt32)).toNatClampNeg)) (by rw [e_q4]; exact Ar_q5.1) (State.isArrayOf_alike hZ.alike Ar_q5.2.1) rfl Ar_q5.2.2 hin_q5 hat_q5 (g := (mkF m 23 #[.val (.ref a1), .val (.int p2), .val .null, .unset] [(.int ((p2.toUInt32 >>> ((16 : Int32) &&& 31).toUInt32).toInt32)), (.ref pg)])) rfl rfl (hb hby d7_23) _ ?_
    show Steps p.tables e below (T_q4.setTop (mkF m 24 #[.val (.ref a1), .val (.int p2), .val .null, .unset] [(PT (((p2.toUInt32 >>> ((16 : Int32) &&& 31).toUInt32).toInt32)).toNatClampNeg)])) _
    rw [hc_q1]
    refine XS.iloadN X_q4.here hx rfl (hb hby d7_24) rfl ?_
    show Steps p.tables e below (T_q4.setTop (mkF m 25 #[.val (.ref a1), .val (.int p2), .val .null, .unset] [(.int p2), (.ref pt)])) _
    refine X_q4.ldcInt hx hown (mvT hZ (own_w hw 57 rfl)) (g := (mkF m 25 #[.val (.ref a1), .val (.int p2), .val .null, .unset] [(.int p2), (.ref pt)])) rfl (hb hby d7_25) _ ?_
    refine XS.iand X_q4.here hx rfl (hb hby d7_27) rfl ?_
    show Steps p.tables e below (T_q4.setTop (mkF m 28 #[.val (.ref a1), .val (.int p2), .val .null, .unset] [(.int (p2 &&& (65535 : Int32))), (.ref pt)])) _
    refine X_q4.aaload hx (j := (p2 &&& (65535 : Int32))) (v := (G ((p2 &&& (65535 : Int32))).toNatClampNeg)) (by rw [e_q4]; exact Ar_q7.1) (State.isArrayOf_alike hZ.alike Ar_q7.2.1) rfl Ar_q7.2.2 hin_q7 hat_q7 (g := (mkF m 28 #[.val (.ref a1), .val (.int p2), .val .null, .unset] [(.int (p2 &&& (65535 : Int32))), (.ref pt)])) rfl rfl (hb hby d7_28) _ ?_
    show Steps p.tables e below (T_q4.setTop (mkF m 29 #[.val (.ref a1), .val (.int p2), .val .null, .unset] [(G ((p2 &&& (65535 : Int32))).toNatClampNeg)])) _
    rw [hc_q2]
    refine XS.astoreN X_q4.here hx rfl (hb hby d7_29) rfl rfl (l' := #[.val (.ref a1), .val (.int p2), .val .null, .val .null]) rfl ?_
    refine XS.aloadN X_q4.here hx rfl (hb hby d7_30) rfl rfl ?_
    show Steps p.tables e below (T_q4.setTop (mkF m 31 #[.val (.ref a1), .val (.int p2), .val .null, .val .null] [.null])) _
    jvm_step X_q4.here [X_q4.here.top, hx, (hb hby d7_31), X_q4.method', Bd.returns, Value.isRef, FieldType.isReference]
    first | (intro acts; rw [hr _ acts rfl rfl rfl]) | rw [hr _ _ rfl rfl rfl]
    exact Steps.refl _
  · show Q_rmGetPn Z a1 pg pt kg k1 zp zl PT G p2 h0 n0 _ T_q4.heap _
    rw [e_q4]
    exact ⟨rfl, N0, rfl⟩
def Q_rmGetFr (Z : State) (a1 va : Addr) (k1 : ClassId) (zl : Int32) (G : Nat → Value) (p2 : Int32) (y : Addr) (h0 : Heap) (n0 : Nat) (v : Option Value) (h : Heap) (L : List Loc) : Prop := v = some (.ref y) ∧ Fr n0 L ∧ h = h0
set_option maxRecDepth 65536 in
set_option maxHeartbeats 40000000 in
theorem rmGetFr (l : Launch) (Z : State) (a0 : Array Value) (hw : ∀ d ∈ tables_1, d.before a0 Z = true) (ws : List Jvm.Cond) (a1 va : Addr) (k1 : ClassId) (zl : Int32) (G : Nat → Value) (p2 : Int32) (y : Addr) (h0 : Heap) (n0 : Nat) (Z0 : n0 ≤ h0.size) (F_elements_a1 : Fld Z h0 a1 "com/example/hashwright/hashwright/table/PagedArray" "elements" "[Ljava/lang/Object;" (.ref va)) (V_va : Arv Z h0 va k1 (.object "java/lang/Object") zl (own_R (zl).toNatClampNeg G) .null) (hc_q1 : (G (p2).toNatClampNeg) = (.ref y)) (hc_q4 : ¬ p2 < 0 ∧ p2 < zl) :
    MetFree l (⟨"com/example/hashwright/hashwright/table/PagedArray", "get", "(I)Ljava/lang/Object;"⟩ : MethodName) (head1 (Jvm.Cond.code (⟨"com/example/hashwright/hashwright/table/PagedArray", "get", "(I)Ljava/lang/Object;"⟩ : MethodName) prog_72_method_4_code 4 (some (.object "java/lang/Object")) :: ws) ({ frames := 0, cells := 0, slots := 0, locals := 0 } : Room)) (fun a U => a = #[(.ref a1), (.int p2)] ∧ Z.Warmed39 U.vm ∧ U.heap = h0) (fun _ _ _ _ _ => True) (fun _ U o U' => ∃ v L, o = .returned v ∧ Q_rmGetFr Z a1 va k1 zl G p2 y h0 n0 v U'.heap L ∧ FrameEnd U o U' L ({ frames := 0, cells := 0, slots := 0, locals := 0 } : Room).cells ({ frames := 0, cells := 0, slots := 0, locals := 0 } : Room).slots) := by
  refine MetFree.of_bodySF (plainFor_of_name pn_7) hisR ?_
  intro p e s m args below meth c s₁ Bd hml0 hP hK
  obtain ⟨rfl, hZ, hh⟩ := hP
  have hx := Bd.exec
  have hby := Bd.bytes
  have hml : c.maxLocals = 4 := hml0
  have hown : s.vm.findClass "com/example/hashwright/hashwright/table/PagedArray" = some m.cls := findClass_of_methodNamed Bd.named
  have hnm := (name_of_methodNamed Bd.named Bd.method).1
  have X0 : Stand p l e ({ frames := 0, cells := 0, slots := 0, locals := 0 } : Room) s m #[(.ref a1), (.int p2)] below meth c s₁ [] 0 0 := Stand.of_body Bd
  have e0 : s₁.heap = h0 := by rw [← hh, Bd.state]; rfl
  have N0 := Fr.nil n0
  have pre0 : ∀ t, Steps p.tables e below (s₁.setTop (mkF m 0 #[.val (.ref a1), .val (.int p2), .unset, .unset] [])) t → Steps p.tables e below (s₁.setTop (entryFrame m #[(.ref a1), (.int p2)] 4)) t := fun t k => castTop (ef_7 m a1 p2) k
  obtain ⟨T_q2, X_q2, e_q2, st_q2⟩ := getF X0 hx hZ hown (host := "") (Or.inl (own_w hw 23 rfl)) Via.refl e0 F_elements_a1 (g := (mkF m 1 #[.val (.ref a1), .val (.int p2), .unset, .unset] [(.ref a1)])) rfl rfl (hb hby d7_1)
  obtain ⟨cl_q3, Ar_q3, qk_q3, S_q3, Nn_q3, H_q3, G_q3⟩ := id V_va
  have hin_q3 : ¬ (p2 < 0 ∨ cl_q3.slots.size ≤ (p2).toNatClampNeg) := inb_of S_q3 hc_q4
  have lt_q3 : (p2).toNatClampNeg < (zl).toNatClampNeg := by have q := Nat.lt_of_not_le fun q => hin_q3 (Or.inr q); rw [S_q3] at q; exact q
  have hat_q3 : cl_q3.slots[(p2).toNatClampNeg]? = some (G (p2).toNatClampNeg) := (H_q3 _ (Nat.lt_of_not_le fun q => hin_q3 (Or.inr q))).trans (congrArg some (own_R_at _ lt_q3))
  obtain ⟨fs, hr, hrun, hended, hW, hsame⟩ := X_q2.leave (v := some (.ref y)) (fun h => by rw [Bd.returns] at h; cases h) Bd.notSynchronized
  refine ⟨_, _, pre0 _ ?_, hrun, hended, _, _, rfl, ?_, ⟨_, rfl⟩, hW, hsame.mono (by decide) (by decide)⟩
  · show Steps p.tables e below (s₁.setTop (mkF m 0 #[.val (.ref a1), .val (.int p2), .unset, .unset] [])) _
    refine XS.aloadN X0.here hx rfl (hb hby d7_0) rfl rfl ?_
    show Steps p.tables e below (s₁.setTop (mkF m 1 #[.val (.ref a1), .val (.int p2), .unset, .unset] [(.ref a1)])) _
    refine st_q2 _ ?_
    refine XS.astoreN X_q2.here hx rfl (hb hby d7_4) rfl rfl (l' := #[.val (.ref a1), .val (.int p2), .val (.ref va), .unset]) rfl ?_
    refine XS.aloadN X_q2.here hx rfl (hb hby d7_5) rfl rfl ?_
    refine XS.ifnullNo X_q2.here hx rfl (hb hby d7_6) rfl ?_
    show Steps p.tables e below (T_q2.setTop (mkF m 9 #[.val (.ref a1), .val (.int p2), .val (.ref va), .unset] [])) _
    refine XS.aloadN X_q2.here hx rfl (hb hby d7_9) rfl rfl ?_
    refine XS.iloadN X_q2.here hx rfl (hb hby d7_10) rfl ?_
    show Steps p.tables e below (T_q2.setTop (mkF m 11 #[.val (.ref a1), .val (.int p2), .val (.ref va), .unset] [(.int p2), (.ref va)])) _
    refine X_q2.aaload hx (j := p2) (v := (G (p2).toNatClampNeg)) (by rw [e_q2]; exact Ar_q3.1) (State.isArrayOf_alike hZ.alike Ar_q3.2.1) rfl Ar_q3.2.2 hin_q3 hat_q3 (g := (mkF m 11 #[.val (.ref a1), .val (.int p2), .val (.ref va), .unset] [(.int p2), (.ref va)])) rfl rfl (hb hby d7_11) _ ?_
    show Steps p.tables e below (T_q2.setTop (mkF m 12 #[.val (.ref a1), .val (.int p2), .val (.ref va), .unset] [(G (p2).toNatClampNeg)])) _
    rw [hc_q1]
    refine XS.goto X_q2.here hx rfl (pc0 := 12) (pc' := 29) rfl (hb hby d7_12) (by decide) (by decide) ?_
    refine XS.astoreN X_q2.here hx rfl (hb hby d7_29) rfl rfl (l' := #[.val (.ref a1), .val (.int p2), .val (.ref va), .val (.ref y)]) rfl ?_
    refine XS.aloadN X_q2.here hx rfl (hb hby d7_30) rfl rfl ?_
    show Steps p.tables e below (T_q2.setTop (mkF m 31 #[.val (.ref a1), .val (.int p2), .val (.ref va), .val (.ref y)] [(.ref y)])) _
    jvm_step X_q2.here [X_q2.here.top, hx, (hb hby d7_31), X_q2.method', Bd.returns, Value.isRef, FieldType.isReference]
    first | (intro acts; rw [hr _ acts rfl rfl rfl]) | rw [hr _ _ rfl rfl rfl]
    exact Steps.refl _
  · show Q_rmGetFr Z a1 va k1 zl G p2 y h0 n0 _ T_q2.heap _
    rw [e_q2]
    exact ⟨rfl, N0, rfl⟩
def Q_rmGetPr (Z : State) (a1 pg pt : Addr) (kg k1 : ClassId) (zp zl : Int32) (PT G : Nat → Value) (p2 : Int32) (y : Addr) (h0 : Heap) (n0 : Nat) (v : Option Value) (h : Heap) (L : List Loc) : Prop := v = some (.ref y) ∧ Fr n0 L ∧ h = h0
set_option maxRecDepth 65536 in
set_option maxHeartbeats 40000000 in
theorem rmGetPr (l : Launch) (Z : State) (a0 : Array Value) (hw : ∀ d ∈ tables_1, d.before a0 Z = true) (ws : List Jvm.Cond) (a1 pg pt : Addr) (kg k1 : ClassId) (zp zl : Int32) (PT G : Nat → Value) (p2 : Int32) (y : Addr) (h0 : Heap) (n0 : Nat) (Z0 : n0 ≤ h0.size) (F_elements_a1 : Fld Z h0 a1 "com/example/hashwright/hashwright/table/PagedArray" "elements" "[Ljava/lang/Object;" .null) (F_pages_a1 : Fld Z h0 a1 "com/example/hashwright/hashwright/table/PagedArray" "pages" "[[Ljava/lang/Object;" (.ref pg)) (V_pg : Arv Z h0 pg kg (.array (.object "java/lang/Object")) zp (own_R (zp).toNatClampNeg PT) .null) (V_pt : Arv Z h0 pt k1 (.object "java/lang/Object") zl (own_R (zl).toNatClampNeg G) .null) (hc_q1 : (PT (((p2.toUInt32 >>> ((16 : Int32) &&& 31).toUInt32).toInt32)).toNatClampNeg) = (.ref pt)) (hc_q2 : (G (p2 &&& (65535 : Int32)).toNatClampNeg) = (.ref y)) (hc_q6 : ¬ ((p2.toUInt32 >>> ((16 : Int32) &&& 31).toUInt32).toInt32) < 0 ∧ ((p2.toUInt32 >>> ((16 : Int32) &&& 31).toUInt32).toInt32) < zp) (hc_q8 : ¬ (p2 &&& (65535 : Int32)) < 0 ∧ (p2 &&& (65535 : Int32)) < zl) :
    MetFree l (⟨"com/example/hashwright/hashwright/table/PagedArray", "get", "(I)Ljava/lang/Object;"⟩ : MethodName) (head1 (Jvm.Cond.code (⟨"com/example/hashwright/hashwright/table/PagedArray", "get", "(I)Ljava/lang/Object;"⟩ : MethodName) prog_72_method_4_code 4 (some (.object "java/lang/Object")) :: ws) ({ frames := 0, cells := 0, slots := 0, locals := 0 } : Room)) (fun a U => a = #[(.ref a1), (.int p2)] ∧ Z.Warmed39 U.vm ∧ U.heap = h0) (fun _ _ _ _ _ => True) (fun _ U o U' => ∃ v L, o = .returned v ∧ Q_rmGetPr Z a1 pg pt kg k1 zp zl PT G p2 y h0 n0 v U'.heap L ∧ FrameEnd U o U' L ({ frames := 0, cells := 0, slots := 0, locals := 0 } : Room).cells ({ frames := 0, cells := 0, slots := 0, locals := 0 } : Room).slots) := by
  refine MetFree.of_bodySF (plainFor_of_name pn_7) hisR ?_
  intro p e s m args below meth c s₁ Bd hml0 hP hK
  obtain ⟨rfl, hZ, hh⟩ := hP
  have hx := Bd.exec
  have hby := Bd.bytes
  have hml : c.maxLocals = 4 := hml0
  have hown : s.vm.findClass "com/example/hashwright/hashwright/table/PagedArray" = some m.cls := findClass_of_methodNamed Bd.named
  have hnm := (name_of_methodNamed Bd.named Bd.method).1
  have X0 : Stand p l e ({ frames := 0, cells := 0, slots := 0, locals := 0 } : Room) s m #[(.ref a1), (.int p2)] below meth c s₁ [] 0 0 := Stand.of_body Bd
  have e0 : s₁.heap = h0 := by rw [← hh, Bd.state]; rfl
  have N0 := Fr.nil n0
  have pre0 : ∀ t, Steps p.tables e below (s₁.setTop (mkF m 0 #[.val (.ref a1), .val (.int p2), .unset, .unset] [])) t → Steps p.tables e below (s₁.setTop (entryFrame m #[(.ref a1), (.int p2)] 4)) t := fun t k => castTop (ef_7 m a1 p2) k
  obtain ⟨T_q3, X_q3, e_q3, st_q3⟩ := getF X0 hx hZ hown (host := "") (Or.inl (own_w hw 23 rfl)) Via.refl e0 F_elements_a1 (g := (mkF m 1 #[.val (.ref a1), .val (.int p2), .unset, .unset] [(.ref a1)])) rfl rfl (hb hby d7_1)
  obtain ⟨T_q4, X_q4, e_q4, st_q4⟩ := getF X_q3 hx hZ hown (host := "") (Or.inl (own_w hw 25 rfl)) Via.refl e_q3 F_pages_a1 (g := (mkF m 16 #[.val (.ref a1), .val (.int p2), .val .null, .unset] [(.ref a1)])) rfl rfl (hb hby d7_16)
  obtain ⟨cl_q5, Ar_q5, qk_q5, S_q5, Nn_q5, H_q5, G_q5⟩ := id V_pg
  have hin_q5 : ¬ (((p2.toUInt32 >>> ((16 : Int32) &&& 31).toUInt32).toInt32) < 0 ∨ cl_q5.slots.size ≤ (((p2.toUInt32 >>> ((16 : Int32) &&& 31).toUInt32).toInt32)).toNatClampNeg) := inb_of S_q5 hc_q6
  have lt_q5 : (((p2.toUInt32 >>> ((16 : Int32) &&& 31).toUInt32).toInt32)).toNatClampNeg < (zp).toNatClampNeg := by have q := Nat.lt_of_not_le fun q => hin_q5 (Or.inr q); rw [S_q5] at q; exact q
  have hat_q5 : cl_q5.slots[(((p2.toUInt32 >>> ((16 : Int32) &&& 31).toUInt32).toInt32)).toNatClampNeg]? = some (PT (((p2.toUInt32 >>> ((16 : Int32) &&& 31).toUInt32).toInt32)).toNatClampNeg) := (H_q5 _ (Nat.lt_of_not_le fun q => hin_q5 (Or.inr q))).trans (congrArg some (own_R_at _ lt_q5))
  obtain ⟨cl_q7, Ar_q7, qk_q7, S_q7, Nn_q7, H_q7, G_q7⟩ := id V_pt
  have hin_q7 : ¬ ((p2 &&& (65535 : Int32)) < 0 ∨ cl_q7.slots.size ≤ ((p2 &&& (65535 : Int32))).toNatClampNeg) := inb_of S_q7 hc_q8
  have lt_q7 : ((p2 &&& (65535 : Int32))).toNatClampNeg < (zl).toNatClampNeg := by have q := Nat.lt_of_not_le fun q => hin_q7 (Or.inr q); rw [S_q7] at q; exact q
  have hat_q7 : cl_q7.slots[((p2 &&& (65535 : Int32))).toNatClampNeg]? = some (G ((p2 &&& (65535 : Int32))).toNatClampNeg) := (H_q7 _ (Nat.lt_of_not_le fun q => hin_q7 (Or.inr q))).trans (congrArg some (own_R_at _ lt_q7))
  obtain ⟨fs, hr, hrun, hended, hW, hsame⟩ := X_q4.leave (v := some (.ref y)) (fun h => by rw [Bd.returns] at h; cases h) Bd.notSynchronized
  refine ⟨_, _, pre0 _ ?_, hrun, hended, _, _, rfl, ?_, ⟨_, rfl⟩, hW, hsame.mono (by decide) (by decide)⟩
  · show Steps p.tables e below (s₁.setTop (mkF m 0 #[.val (.ref a1), .val (.int p2), .unset, .unset] [])) _
    refine XS.aloadN X0.here hx rfl (hb hby d7_0) rfl rfl ?_
    show Steps p.tables e below (s₁.setTop (mkF m 1 #[.val (.ref a1), .val (.int p2), .unset, .unset] [(.ref a1)])) _
    refine st_q3 _ ?_
    refine XS.astoreN X_q3.here hx rfl (hb hby d7_4) rfl rfl (l' := #[.val (.ref a1), .val (.int p2), .val .null, .unset]) rfl ?_
    refine XS.aloadN X_q3.here hx rfl (hb hby d7_5) rfl rfl ?_
    refine XS.ifnullYes X_q3.here hx rfl (pc0 := 6) (pc' := 15) rfl (hb hby d7_6) rfl (by decide) (by decide) ?_
    show Steps p.tables e below (T_q3.setTop (mkF m 15 #[.val (.ref a1), .val (.int p2), .val .null, .unset] [])) _
    refine XS.aloadN X_q3.here hx rfl (hb hby d7_15) rfl rfl ?_
    show Steps p.tables e below (T_q3.setTop (mkF m 16 #[.val (.ref a1), .val (.int p2), .val .null, .unset] [(.ref a1)])) _
    refine st_q4 _ ?_
    refine XS.iloadN X_q4.here hx rfl (hb hby d7_19) rfl ?_
    refine XS.bipush X_q4.here hx rfl (hb hby d7_20) ?_
    refine XS.iushr X_q4.here hx rfl (hb hby d7_22) rfl ?_
    show Steps p.tables e below (T_q4.setTop (mkF m 23 #[.val (.ref a1), .val (.int p2), .val .null, .unset] [(.int ((p2.toUInt32 >>> ((16 : Int32) &&& 31).toUInt32).toInt32)), (.ref pg)])) _
    refine X_q4.aaload hx (j := ((p2.toUInt32 >>> ((16 : Int32) &&& 31).toUInt32).toInt32)) (v := (PT (((p2.toUInt32 >>> ((16 : Int32) &&& 31).toUInt32).toInt32)).toNatClampNeg)) (by rw [e_q4]; exact Ar_q5.1) (State.isArrayOf_alike hZ.alike Ar_q5.2.1) rfl Ar_q5.2.2 hin_q5 hat_q5 (g := (mkF m 23 #[.val (.ref a1), .val (.int p2), .val .null, .unset] [(.int ((p2.toUInt32 >>> ((16 : Int32) &&& 31).toUInt32).toInt32)), (.ref pg)])) rfl rfl (hb hby d7_23) _ ?_
    show Steps p.tables e below (T_q4.setTop (mkF m 24 #[.val (.ref a1), .val (.int p2), .val .null, .unset] [(PT (((p2.toUInt32 >>> ((16 : Int32) &&& 31).toUInt32).toInt32)).toNatClampNeg)])) _
    rw [hc_q1]
    refine XS.iloadN X_q4.here hx rfl (hb hby d7_24) rfl ?_
    show Steps p.tables e below (T_q4.setTop (mkF m 25 #[.val (.ref a1), .val (.int p2), .val .null, .unset] [(.int p2), (.ref pt)])) _
    refine X_q4.ldcInt hx hown (mvT hZ (own_w hw 57 rfl)) (g := (mkF m 25 #[.val (.ref a1), .val (.int p2), .val .null, .unset] [(.int p2), (.ref pt)])) rfl (hb hby d7_25) _ ?_
    refine XS.iand X_q4.here hx rfl (hb hby d7_27) rfl ?_
    show Steps p.tables e below (T_q4.setTop (mkF m 28 #[.val (.ref a1), .val (.int p2), .val .null, .unset] [(.int (p2 &&& (65535 : Int32))), (.ref pt)])) _
    refine X_q4.aaload hx (j := (p2 &&& (65535 : Int32))) (v := (G ((p2 &&& (65535 : Int32))).toNatClampNeg)) (by rw [e_q4]; exact Ar_q7.1) (State.isArrayOf_alike hZ.alike Ar_q7.2.1) rfl Ar_q7.2.2 hin_q7 hat_q7 (g := (mkF m 28 #[.val (.ref a1), .val (.int p2), .val .null, .unset] [(.int (p2 &&& (65535 : Int32))), (.ref pt)])) rfl rfl (hb hby d7_28) _ ?_
    show Steps p.tables e below (T_q4.setTop (mkF m 29 #[.val (.ref a1), .val (.int p2), .val .null, .unset] [(G ((p2 &&& (65535 : Int32))).toNatClampNeg)])) _
    rw [hc_q2]
    refine XS.astoreN X_q4.here hx rfl (hb hby d7_29) rfl rfl (l' := #[.val (.ref a1), .val (.int p2), .val .null, .val (.ref y)]) rfl ?_
    refine XS.aloadN X_q4.here hx rfl (hb hby d7_30) rfl rfl ?_
    show Steps p.tables e below (T_q4.setTop (mkF m 31 #[.val (.ref a1), .val (.int p2), .val .null, .val (.ref y)] [(.ref y)])) _
    jvm_step X_q4.here [X_q4.here.top, hx, (hb hby d7_31), X_q4.method', Bd.returns, Value.isRef, FieldType.isReference]
    first | (intro acts; rw [hr _ acts rfl rfl rfl]) | rw [hr _ _ rfl rfl rfl]
    exact Steps.refl _
  · show Q_rmGetPr Z a1 pg pt kg k1 zp zl PT G p2 y h0 n0 _ T_q4.heap _
    rw [e_q4]
    exact ⟨rfl, N0, rfl⟩
theorem d6_16 : decode prog_72_method_5_code 16 = .ok (.aload_n 0, 1) := by decide +kernel
theorem d6_17 : decode prog_72_method_5_code 17 = .ok (.getfield 21, 3) := by decide +kernel
theorem d6_20 : decode prog_72_method_5_code 20 = .ok (.iload_n 1, 1) := by decide +kernel
theorem d6_21 : decode prog_72_method_5_code 21 = .ok (.bipush 16, 2) := by decide +kernel
theorem d6_23 : decode prog_72_method_5_code 23 = .ok (.iushr, 1) := by decide +kernel
theorem d6_24 : decode prog_72_method_5_code 24 = .ok (.aaload, 1) := by decide +kernel
theorem d6_25 : decode prog_72_method_5_code 25 = .ok (.iload_n 1, 1) := by decide +kernel
theorem d6_26 : decode prog_72_method_5_code 26 = .ok (.ldc 42, 2) := by decide +kernel
theorem d6_28 : decode prog_72_method_5_code 28 = .ok (.iand, 1) := by decide +kernel
theorem d6_29 : decode prog_72_method_5_code 29 = .ok (.aload_n 2, 1) := by decide +kernel
theorem d6_30 : decode prog_72_method_5_code 30 = .ok (.aastore, 1) := by decide +kernel
def Q_rmSetP (Z : State) (a1 pg pt y : Addr) (kg k1 : ClassId) (zp zl : Int32) (PT G : Nat → Value) (p2 : Int32) (h0 : Heap) (n0 : Nat) (v : Option Value) (h : Heap) (L : List Loc) : Prop := v = none ∧ Fr n0 L ∧ Keep h0 h [pt] ∧ Fld Z h a1 "com/example/hashwright/hashwright/table/PagedArray" "elements" "[Ljava/lang/Object;" .null ∧ Fld Z h a1 "com/example/hashwright/hashwright/table/PagedArray" "pages" "[[Ljava/lang/Object;" (.ref pg) ∧ Arv Z h pg kg (.array (.object "java/lang/Object")) zp (own_R (zp).toNatClampNeg PT) .null ∧ Arv Z h pt k1 (.object "java/lang/Object") zl (own_R (zl).toNatClampNeg (own_up G ((p2 &&& (65535 : Int32))).toNatClampNeg (.ref y))) .null
set_option maxRecDepth 65536 in
set_option maxHeartbeats 40000000 in
theorem rmSetP (l : Launch) (Z : State) (a0 : Array Value) (hw : ∀ d ∈ tables_1, d.before a0 Z = true) (ws : List Jvm.Cond) (a1 pg pt y : Addr) (kg k1 : ClassId) (zp zl : Int32) (PT G : Nat → Value) (p2 : Int32) (h0 : Heap) (n0 : Nat) (Z0 : n0 ≤ h0.size) (F_elements_a1 : Fld Z h0 a1 "com/example/hashwright/hashwright/table/PagedArray" "elements" "[Ljava/lang/Object;" .null) (F_pages_a1 : Fld Z h0 a1 "com/example/hashwright/hashwright/table/PagedArray" "pages" "[[Ljava/lang/Object;" (.ref pg)) (V_pg : Arv Z h0 pg kg (.array (.object "java/lang/Object")) zp (own_R (zp).toNatClampNeg PT) .null) (V_pt : Arv Z h0 pt k1 (.object "java/lang/Object") zl (own_R (zl).toNatClampNeg G) .null) (EX_y : Exa Z h0 y "java/lang/Integer") (O_pt : Ovr Z k1 "java/lang/Object") (ge_pt : n0 ≤ pt) (ne_a1_pt : a1 ≠ pt) (ne_pg_pt : pg ≠ pt) (hc_q1 : (PT (((p2.toUInt32 >>> ((16 : Int32) &&& 31).toUInt32).toInt32)).toNatClampNeg) = (.ref pt)) (hc_q5 : ¬ ((p2.toUInt32 >>> ((16 : Int32) &&& 31).toUInt32).toInt32) < 0 ∧ ((p2.toUInt32 >>> ((16 : Int32) &&& 31).toUInt32).toInt32) < zp) (hc_q7 : ¬ (p2 &&& (65535 : Int32)) < 0 ∧ (p2 &&& (65535 : Int32)) < zl) :
    MetFree l (⟨"com/example/hashwright/hashwright/table/PagedArray", "set", "(ILjava/lang/Object;)V"⟩ : MethodName) (head1 (Jvm.Cond.code (⟨"com/example/hashwright/hashwright/table/PagedArray", "set", "(ILjava/lang/Object;)V"⟩ : MethodName) prog_72_method_5_code 4 none :: ws) ({ frames := 0, cells := 0, slots := 0, locals := 0 } : Room)) (fun a U => a = #[(.ref a1), (.int p2), (.ref y)] ∧ Z.Warmed39 U.vm ∧ U.heap = h0) (fun _ _ _ _ _ => True) (fun _ U o U' => ∃ v L, o = .returned v ∧ Q_rmSetP Z a1 pg pt y kg k1 zp zl PT G p2 h0 n0 v U'.heap L ∧ FrameEnd U o U' L ({ frames := 0, cells := 0, slots := 0, locals := 0 } : Room).cells ({ frames := 0, cells := 0, slots := 0, locals := 0 } : Room).slots) := by
  refine MetFree.of_bodySF (plainFor_of_name pn_6) hisR ?_
  intro p e s m args below meth c s₁ Bd hml0 hP hK
  obtain ⟨rfl, hZ, hh⟩ := hP
  have hx := Bd.exec
  have hby := Bd.bytes
  have hml : c.maxLocals = 4 := hml0
  have hown : s.vm.findClass "com/example/hashwright/hashwright/table/PagedArray" = some m.cls := findClass_of_methodNamed Bd.named
  have hnm := (name_of_methodNamed Bd.named Bd.method).1
  have X0 : Stand p l e ({ frames := 0, cells := 0, slots := 0, locals := 0 } : Room) s m #[(.ref a1), (.int p2), (.ref y)] below meth c s₁ [] 0 0 := Stand.of_body Bd
  have e0 : s₁.heap = h0 := by rw [← hh, Bd.state]; rfl
  have N0 := Fr.nil n0
  have pre0 : ∀ t, Steps p.tables e below (s₁.setTop (mkF m 0 #[.val (.ref a1), .val (.int p2), .val (.ref y), .unset] [])) t → Steps p.tables e below (s₁.setTop (entryFrame m #[(.ref a1), (.int p2), (.ref y)] 4)) t := fun t k => castTop (ef_6 m a1 p2 y) k
  have K0 : Keep h0 h0 [pt] := Keep.refl _ _
  obtain ⟨T_q2, X_q2, e_q2, st_q2⟩ := getF X0 hx hZ hown (host := "") (Or.inl (own_w hw 23 rfl)) Via.refl e0 F_elements_a1 (g := (mkF m 1 #[.val (.ref a1), .val (.int p2), .val (.ref y), .unset] [(.ref a1)])) rfl rfl (hb hby d6_1)
  obtain ⟨T_q3, X_q3, e_q3, st_q3⟩ := getF X_q2 hx hZ hown (host := "") (Or.inl (own_w hw 25 rfl)) Via.refl e_q2 F_pages_a1 (g := (mkF m 17 #[.val (.ref a1), .val (.int p2), .val (.ref y), .val .null] [(.ref a1)])) rfl rfl (hb hby d6_17)
  obtain ⟨cl_q4, Ar_q4, qk_q4, S_q4, Nn_q4, H_q4, G_q4⟩ := id V_pg
  have hin_q4 : ¬ (((p2.toUInt32 >>> ((16 : Int32) &&& 31).toUInt32).toInt32) < 0 ∨ cl_q4.slots.size ≤ (((p2.toUInt32 >>> ((16 : Int32) &&& 31).toUInt32).toInt32)).toNatClampNeg) := inb_of S_q4 hc_q5
  have lt_q4 : (((p2.toUInt32 >>> ((16 : Int32) &&& 31).toUInt32).toInt32)).toNatClampNeg < (zp).toNatClampNeg := by have q := Nat.lt_of_not_le fun q => hin_q4 (Or.inr q); rw [S_q4] at q; exact q
  have hat_q4 : cl_q4.slots[(((p2.toUInt32 >>> ((16 : Int32) &&& 31).toUInt32).toInt32)).toNatClampNeg]? = some (PT (((p2.toUInt32 >>> ((16 : Int32) &&& 31).toUInt32).toInt32)).toNatClampNeg) := (H_q4 _ (Nat.lt_of_not_le fun q => hin_q4 (Or.inr q))).trans (congrArg some (own_R_at _ lt_q4))
  obtain ⟨cl_q6, Ar_q6, qk_q6, S_q6, Nn_q6, H_q6, G_q6⟩ := id V_pt
  have hin_q6 : ¬ ((p2 &&& (65535 : Int32)) < 0 ∨ cl_q6.slots.size ≤ ((p2 &&& (65535 : Int32))).toNatClampNeg) := inb_of S_q6 hc_q7
  have lt_q6 : ((p2 &&& (65535 : Int32))).toNatClampNeg < (zl).toNatClampNeg := by have q := Nat.lt_of_not_le fun q => hin_q6 (Or.inr q); rw [S_q6] at q; exact q
  obtain ⟨T_q6, h_q6, X_q6, e_q6, W_q6, st_q6⟩ := stR X_q3 hx hZ e_q3 Ar_q6 (j := (p2 &&& (65535 : Int32))) hin_q6 rfl (Sto.ofV Ar_q6 qk_q6 O_pt (Ins.of_exa EX_y (own_w hw 35 rfl))) (g := (mkF m 30 #[.val (.ref a1), .val (.int p2), .val (.ref y), .val .null] [(.ref y), (.int (p2 &&& (65535 : Int32))), (.ref pt)])) rfl rfl (hb hby d6_30)
  have F_elements_a1__q6 := F_elements_a1.other W_q6 (Or.inl ne_a1_pt)
  have F_pages_a1__q6 := F_pages_a1.other W_q6 (Or.inl ne_a1_pt)
  have V_pg__q6 := V_pg.other W_q6 ne_pg_pt
  have V_pt__q6 : Arv Z h_q6 pt k1 (.object "java/lang/Object") zl (own_R (zl).toNatClampNeg (own_up G ((p2 &&& (65535 : Int32))).toNatClampNeg (.ref y))) .null := by rw [← own_R_set]; exact Arv.set Ar_q6 qk_q6 S_q6 Nn_q6 H_q6 G_q6 rfl W_q6 _ rfl (by rw [own_R_len]; exact lt_q6)
  have K_q6 : Keep h0 h_q6 [pt] := K0.wr W_q6 (Or.inl (List.mem_of_getElem? (i := 0) rfl))
  have N_q6 := Fr.snoc X_q6 N0 ge_pt
  obtain ⟨fs, hr, hrun, hended, hW, hsame⟩ := X_q6.leave (v := none) (fun _ => rfl) Bd.notSynchronized
  refine ⟨_, _, pre0 _ ?_, hrun, hended, _, _, rfl, ?_, ⟨_, rfl⟩, hW, hsame.mono (by decide) (by decide)⟩
  · show Steps p.tables e below (s₁.setTop (mkF m 0 #[.val (.ref a1), .val (.int p2), .val (.ref y), .unset] [])) _
    refine XS.aloadN X0.here hx rfl (hb hby d6_0) rfl rfl ?_
    show Steps p.tables e below (s₁.setTop (mkF m 1 #[.val (.ref a1), .val (.int p2), .val (.ref y), .unset] [(.ref a1)])) _
    refine st_q2 _ ?_
    refine XS.astoreN X_q2.here hx rfl (hb hby d6_4) rfl rfl (l' := #[.val (.ref a1), .val (.int p2), .val (.ref y), .val .null]) rfl ?_
    refine XS.aloadN X_q2.here hx rfl (hb hby d6_5) rfl rfl ?_
    refine XS.ifnullYes X_q2.here hx rfl (pc0 := 6) (pc' := 16) rfl (hb hby d6_6) rfl (by decide) (by decide) ?_
    show Steps p.tables e below (T_q2.setTop (mkF m 16 #[.val (.ref a1), .val (.int p2), .val (.ref y), .val .null] [])) _
    refine XS.aloadN X_q2.here hx rfl (hb hby d6_16) rfl rfl ?_
    show Steps p.tables e below (T_q2.setTop (mkF m 17 #[.val (.ref a1), .val (.int p2), .val (.ref y), .val .null] [(.ref a1)])) _
    refine st_q3 _ ?_
    refine XS.iloadN X_q3.here hx rfl (hb hby d6_20) rfl ?_
    refine XS.bipush X_q3.here hx rfl (hb hby d6_21) ?_
    refine XS.iushr X_q3.here hx rfl (hb hby d6_23) rfl ?_
    show Steps p.tables e below (T_q3.setTop (mkF m 24 #[.val (.ref a1), .val (.int p2), .val (.ref y), .val .null] [(.int ((p2.toUInt32 >>> ((16 : Int32) &&& 31).toUInt32).toInt32)), (.ref pg)])) _
    refine X_q3.aaload hx (j := ((p2.toUInt32 >>> ((16 : Int32) &&& 31).toUInt32).toInt32)) (v := (PT (((p2.toUInt32 >>> ((16 : Int32) &&& 31).toUInt32).toInt32)).toNatClampNeg)) (by rw [e_q3]; exact Ar_q4.1) (State.isArrayOf_alike hZ.alike Ar_q4.2.1) rfl Ar_q4.2.2 hin_q4 hat_q4 (g := (mkF m 24 #[.val (.ref a1), .val (.int p2), .val (.ref y), .val .null] [(.int ((p2.toUInt32 >>> ((16 : Int32) &&& 31).toUInt32).toInt32)), (.ref pg)])) rfl rfl (hb hby d6_24) _ ?_
    show Steps p.tables e below (T_q3.setTop (mkF m 25 #[.val (.ref a1), .val (.int p2), .val (.ref y), .val .null] [(PT (((p2.toUInt32 >>> ((16 : Int32) &&& 31).toUInt32).toInt32)).toNatClampNeg)])) _
    rw [hc_q1]
    refine XS.iloadN X_q3.here hx rfl (hb hby d6_25) rfl ?_
    show Steps p.tables e below (T_q3.setTop (mkF m 26 #[.val (.ref a1), .val (.int p2), .val (.ref y), .val .null] [(.int p2), (.ref pt)])) _
    refine X_q3.ldcInt hx hown (mvT hZ (own_w hw 57 rfl)) (g := (mkF m 26 #[.val (.ref a1), .val (.int p2), .val (.ref y), .val .null] [(.int p2), (.ref pt)])) rfl (hb hby d6_26) _ ?_
    refine XS.iand X_q3.here hx rfl (hb hby d6_28) rfl ?_
    refine XS.aloadN X_q3.here hx rfl (hb hby d6_29) rfl rfl ?_
    show Steps p.tables e below (T_q3.setTop (mkF m 30 #[.val (.ref a1), .val (.int p2), .val (.ref y), .val .null] [(.ref y), (.int (p2 &&& (65535 : Int32))), (.ref pt)])) _
    refine st_q6 _ ?_
    show Steps p.tables e below (T_q6.setTop (mkF m 31 #[.val (.ref a1), .val (.int p2), .val (.ref y), .val .null] [])) _
    exact X_q6.returnOut hx Bd.returns (hb hby d6_31) hr
  · show Q_rmSetP Z a1 pg pt y kg k1 zp zl PT G p2 h0 n0 _ T_q6.heap _
    rw [e_q6]
    exact ⟨rfl, N_q6, K_q6, F_elements_a1__q6, F_pages_a1__q6, V_pg__q6, V_pt__q6⟩
theorem d4_0 : decode prog_72_method_7_code 0 = .ok (.aload_n 0, 1) := by decide +kernel
theorem d4_1 : decode prog_72_method_7_code 1 = .ok (.getfield 17, 3) := by decide +kernel
theorem d4_4 : decode prog_72_method_7_code 4 = .ok (.ifnull 10, 3) := by decide +kernel
theorem d4_7 : decode prog_72_method_7_code 7 = .ok (.aload_n 0, 1) := by decide +kernel
theorem d4_8 : decode prog_72_method_7_code 8 = .ok (.getfield 17, 3) := by decide +kernel
theorem d4_11 : decode prog_72_method_7_code 11 = .ok (.goto 12, 3) := by decide +kernel
theorem d4_23 : decode prog_72_method_7_code 23 = .ok (.areturn, 1) := by decide +kernel
theorem pn_4 : plainName "com/example/hashwright/hashwright/table/PagedArray" = true := by first | (simp [plainName, overriddenIn]; done) | decide +kernel
theorem ef_4 (m : MethodId) (x0 : Addr) (x1 : Int32) : entryFrame m #[(.ref x0), (.int x1)] 2 = mkF m 0 #[.val (.ref x0), .val (.int x1)] [] := by first | (simp [entryFrame, mkF, argsToLocals, Value.category]; done) | rfl
def Q_rmAHF (Z : State) (a1 va : Addr) (p2 : Int32) (h0 : Heap) (n0 : Nat) (v : Option Value) (h : Heap) (L : List Loc) : Prop := v = some (.ref va) ∧ Fr n0 L ∧ h = h0
set_option maxRecDepth 65536 in
set_option maxHeartbeats 40000000 in
theorem rmAHF (l : Launch) (Z : State) (a0 : Array Value) (hw : ∀ d ∈ tables_1, d.before a0 Z = true) (ws : List Jvm.Cond) (a1 va : Addr) (p2 : Int32) (h0 : Heap) (n0 : Nat) (Z0 : n0 ≤ h0.size) (F_elements_a1 : Fld Z h0 a1 "com/example/hashwright/hashwright/table/PagedArray" "elements" "[Ljava/lang/Object;" (.ref va)) :
    MetFree l (⟨"com/example/hashwright/hashwright/table/PagedArray", "arrayHolding", "(I)[Ljava/lang/Object;"⟩ : MethodName) (head1 (Jvm.Cond.code (⟨"com/example/hashwright/hashwright/table/PagedArray", "arrayHolding", "(I)[Ljava/lang/Object;"⟩ : MethodName) prog_72_method_7_code 2 (some (.array (.object "java/lang/Object"))) :: ws) ({ frames := 0, cells := 0, slots := 0, locals := 0 } : Room)) (fun a U => a = #[(.ref a1), (.int p2)] ∧ Z.Warmed39 U.vm ∧ U.heap = h0) (fun _ _ _ _ _ => True) (fun _ U o U' => ∃ v L, o = .returned v ∧ Q_rmAHF Z a1 va p2 h0 n0 v U'.heap L ∧ FrameEnd U o U' L ({ frames := 0, cells := 0, slots := 0, locals := 0 } : Room).cells ({ frames := 0, cells := 0, slots := 0, locals := 0 } : Room).slots) := by
  refine MetFree.of_bodySF (plainFor_of_name pn_4) hisR ?_
  intro p e s m args below meth c s₁ Bd hml0 hP hK
  obtain ⟨rfl, hZ, hh⟩ := hP
  have hx := Bd.exec
  have hby := Bd.bytes
  have hml : c.maxLocals = 2 := hml0
  have hown : s.vm.findClass "com/example/hashwright/hashwright/table/PagedArray" = some m.cls := findClass_of_methodNamed Bd.named
  have hnm := (name_of_methodNamed Bd.named Bd.method).1
  have X0 : Stand p l e ({ frames := 0, cells := 0, slots := 0, locals := 0 } : Room) s m #[(.ref a1), (.int p2)] below meth c s₁ [] 0 0 := Stand.of_body Bd
  have e0 : s₁.heap = h0 := by rw [← hh, Bd.state]; rfl
  have N0 := Fr.nil n0
  have pre0 : ∀ t, Steps p.tables e below (s₁.setTop (mkF m 0 #[.val (.ref a1), .val (.int p2)] [])) t → Steps p.tables e below (s₁.setTop (entryFrame m #[(.ref a1), (.int p2)] 2)) t := fun t k => castTop (ef_4 m a1 p2) k
  obtain ⟨T_q1, X_q1, e_q1, st_q1⟩ := getF X0 hx hZ hown (host := "") (Or.inl (own_w hw 23 rfl)) Via.refl e0 F_elements_a1 (g := (mkF m 1 #[.val (.ref a1), .val (.int p2)] [(.ref a1)])) rfl rfl (hb hby d4_1)
  obtain ⟨T_q2, X_q2, e_q2, st_q2⟩ := getF X_q1 hx hZ hown (host := "") (Or.inl (own_w hw 23 rfl)) Via.refl e_q1 F_elements_a1 (g := (mkF m 8 #[.val (.ref a1), .val (.int p2)] [(.ref a1)])) rfl rfl (hb hby d4_8)
  obtain ⟨fs, hr, hrun, hended, hW, hsame⟩ := X_q2.leave (v := some (.ref va)) (fun h => by rw [Bd.returns] at h; cases h) Bd.notSynchronized
  refine ⟨_, _, pre0 _ ?_, hrun, hended, _, _, rfl, ?_, ⟨_, rfl⟩, hW, hsame.mono (by decide) (by decide)⟩
  · show Steps p.tables e below (s₁.setTop (mkF m 0 #[.val (.ref a1), .val (.int p2)] [])) _
    refine XS.aloadN X0.here hx rfl (hb hby d4_0) rfl rfl ?_
    show Steps p.tables e below (s₁.setTop (mkF m 1 #[.val (.ref a1), .val (.int p2)] [(.ref a1)])) _
    refine st_q1 _ ?_
    refine XS.ifnullNo X_q1.here hx rfl (hb hby d4_4) rfl ?_
    refine XS.aloadN X_q1.here hx rfl (hb hby d4_7) rfl rfl ?_
    show Steps p.tables e below (T_q1.setTop (mkF m 8 #[.val (.ref a1), .val (.int p2)] [(.ref a1)])) _
    refine st_q2 _ ?_
    refine XS.goto X_q2.here hx rfl (pc0 := 11) (pc' := 23) rfl (hb hby d4_11) (by decide) (by decide) ?_
    show Steps p.tables e below (T_q2.setTop (mkF m 23 #[.val (.ref a1), .val (.int p2)] [(.ref va)])) _
    jvm_step X_q2.here [X_q2.here.top, hx, (hb hby d4_23), X_q2.method', Bd.returns, Value.isRef, FieldType.isReference]
    first | (intro acts; rw [hr _ acts rfl rfl rfl]) | rw [hr _ _ rfl rfl rfl]
    exact Steps.refl _
  · show Q_rmAHF Z a1 va p2 h0 n0 _ T_q2.heap _
    rw [e_q2]
    exact ⟨rfl, N0, rfl⟩
theorem d4_14 : decode prog_72_method_7_code 14 = .ok (.aload_n 0, 1) := by decide +kernel
theorem d4_15 : decode prog_72_method_7_code 15 = .ok (.getfield 21, 3) := by decide +kernel
theorem d4_18 : decode prog_72_method_7_code 18 = .ok (.iload_n 1, 1) := by decide +kernel
theorem d4_19 : decode prog_72_method_7_code 19 = .ok (.bipush 16, 2) := by decide +kernel
theorem d4_21 : decode prog_72_method_7_code 21 = .ok (.iushr, 1) := by decide +kernel
theorem d4_22 : decode prog_72_method_7_code 22 = .ok (.aaload, 1) := by decide +kernel
def Q_rmAHP (Z : State) (a1 pg pt : Addr) (kg : ClassId) (zp : Int32) (PT : Nat → Value) (p2 : Int32) (h0 : Heap) (n0 : Nat) (v : Option Value) (h : Heap) (L : List Loc) : Prop := v = some (.ref pt) ∧ Fr n0 L ∧ h = h0
set_option maxRecDepth 65536 in
set_option maxHeartbeats 40000000 in
theorem rmAHP (l : Launch) (Z : State) (a0 : Array Value) (hw : ∀ d ∈ tables_1, d.before a0 Z = true) (ws : List Jvm.Cond) (a1 pg pt : Addr) (kg : ClassId) (zp : Int32) (PT : Nat → Value) (p2 : Int32) (h0 : Heap) (n0 : Nat) (Z0 : n0 ≤ h0.size) (F_elements_a1 : Fld Z h0 a1 "com/example/hashwright/hashwright/table/PagedArray" "elements" "[Ljava/lang/Object;" .null) (F_pages_a1 : Fld Z h0 a1 "com/example/hashwright/hashwright/table/PagedArray" "pages" "[[Ljava/lang/Object;" (.ref pg)) (V_pg : Arv Z h0 pg kg (.array (.object "java/lang/Object")) zp (own_R (zp).toNatClampNeg PT) .null) (hc_q1 : (PT (((p2.toUInt32 >>> ((16 : Int32) &&& 31).toUInt32).toInt32)).toNatClampNeg) = (.ref pt)) (hc_q5 : ¬ ((p2.toUInt32 >>> ((16 : Int32) &&& 31).toUInt32).toInt32) < 0 ∧ ((p2.toUInt32 >>> ((16 : Int32) &&& 31).toUInt32).toInt32) < zp) :
    MetFree l (⟨"com/example/hashwright/hashwright/table/PagedArray", "arrayHolding", "(I)[Ljava/lang/Object;"⟩ : MethodName) (head1 (Jvm.Cond.code (⟨"com/example/hashwright/hashwright/table/PagedArray", "arrayHolding", "(I)[Ljava/lang/Object;"⟩ : MethodName) prog_72_method_7_code 2 (some (.array (.object "java/lang/Object"))) :: ws) ({ frames := 0, cells := 0, slots := 0, locals := 0 } : Room)) (fun a U => a = #[(.ref a1), (.int p2)] ∧ Z.Warmed39 U.vm ∧ U.heap = h0) (fun _ _ _ _ _ => True) (fun _ U o U' => ∃ v L, o = .returned v ∧ Q_rmAHP Z a1 pg pt kg zp PT p2 h0 n0 v U'.heap L ∧ FrameEnd U o U' L ({ frames := 0, cells := 0, slots := 0, locals := 0 } : Room).cells ({ frames := 0, cells := 0, slots := 0, locals := 0 } : Room).slots) := by
  refine MetFree.of_bodySF (plainFor_of_name pn_4) hisR ?_
  intro p e s m args below meth c s₁ Bd hml0 hP hK
  obtain ⟨rfl, hZ, hh⟩ := hP
  have hx := Bd.exec
  have hby := Bd.bytes
  have hml : c.maxLocals = 2 := hml0
  have hown : s.vm.findClass "com/example/hashwright/hashwright/table/PagedArray" = some m.cls := findClass_of_methodNamed Bd.named
  have hnm := (name_of_methodNamed Bd.named Bd.method).1
  have X0 : Stand p l e ({ frames := 0, cells := 0, slots := 0, locals := 0 } : Room) s m #[(.ref a1), (.int p2)] below meth c s₁ [] 0 0 := Stand.of_body Bd
  have e0 : s₁.heap = h0 := by rw [← hh, Bd.state]; rfl
  have N0 := Fr.nil n0
  have pre0 : ∀ t, Steps p.tables e below (s₁.setTop (mkF m 0 #[.val (.ref a1), .val (.int p2)] [])) t → Steps p.tables e below (s₁.setTop (entryFrame m #[(.ref a1), (.int p2)] 2)) t := fun t k => castTop (ef_4 m a1 p2) k
  obtain ⟨T_q2, X_q2, e_q2, st_q2⟩ := getF X0 hx hZ hown (host := "") (Or.inl (own_w hw 23 rfl)) Via.refl e0 F_elements_a1 (g := (mkF m 1 #[.val (.ref a1), .val (.int p2)] [(.ref a1)])) rfl rfl (hb hby d4_1)
  obtain ⟨T_q3, X_q3, e_q3, st_q3⟩ := getF X_q2 hx hZ hown (host := "") (Or.inl (own_w hw 25 rfl)) Via.refl e_q2 F_pages_a1 (g := (mkF m 15 #[.val (.ref a1), .val (.int p2)] [(.ref a1)])) rfl rfl (hb hby d4_15)
  obtain ⟨cl_q4, Ar_q4, qk_q4, S_q4, Nn_q4, H_q4, G_q4⟩ := id V_pg
  have hin_q4 : ¬ (((p2.toUInt32 >>> ((16 : Int32) &&& 31).toUInt32).toInt32) < 0 ∨ cl_q4.slots.size ≤ (((p2.toUInt32 >>> ((16 : Int32) &&& 31).toUInt32).toInt32)).toNatClampNeg) := inb_of S_q4 hc_q5
  have lt_q4 : (((p2.toUInt32 >>> ((16 : Int32) &&& 31).toUInt32).toInt32)).toNatClampNeg < (zp).toNatClampNeg := by have q := Nat.lt_of_not_le fun q => hin_q4 (Or.inr q); rw [S_q4] at q; exact q
  have hat_q4 : cl_q4.slots[(((p2.toUInt32 >>> ((16 : Int32) &&& 31).toUInt32).toInt32)).toNatClampNeg]? = some (PT (((p2.toUInt32 >>> ((16 : Int32) &&& 31).toUInt32).toInt32)).toNatClampNeg) := (H_q4 _ (Nat.lt_of_not_le fun q => hin_q4 (Or.inr q))).trans (congrArg some (own_R_at _ lt_q4))
  obtain ⟨fs, hr, hrun, hended, hW, hsame⟩ := X_q3.leave (v := some (.ref pt)) (fun h => by rw [Bd.returns] at h; cases h) Bd.notSynchronized
  refine ⟨_, _, pre0 _ ?_, hrun, hended, _, _, rfl, ?_, ⟨_, rfl⟩, hW, hsame.mono (by decide) (by decide)⟩
  · show Steps p.tables e below (s₁.setTop (mkF m 0 #[.val (.ref a1), .val (.int p2)] [])) _
    refine XS.aloadN X0.here hx rfl (hb hby d4_0) rfl rfl ?_
    show Steps p.tables e below (s₁.setTop (mkF m 1 #[.val (.ref a1), .val (.int p2)] [(.ref a1)])) _
    refine st_q2 _ ?_
    refine XS.ifnullYes X_q2.here hx rfl (pc0 := 4) (pc' := 14) rfl (hb hby d4_4) rfl (by decide) (by decide) ?_
    refine XS.aloadN X_q2.here hx rfl (hb hby d4_14) rfl rfl ?_
    show Steps p.tables e below (T_q2.setTop (mkF m 15 #[.val (.ref a1), .val (.int p2)] [(.ref a1)])) _
    refine st_q3 _ ?_
    refine XS.iloadN X_q3.here hx rfl (hb hby d4_18) rfl ?_
    refine XS.bipush X_q3.here hx rfl (hb hby d4_19) ?_
    refine XS.iushr X_q3.here hx rfl (hb hby d4_21) rfl ?_
    show Steps p.tables e below (T_q3.setTop (mkF m 22 #[.val (.ref a1), .val (.int p2)] [(.int ((p2.toUInt32 >>> ((16 : Int32) &&& 31).toUInt32).toInt32)), (.ref pg)])) _
    refine X_q3.aaload hx (j := ((p2.toUInt32 >>> ((16 : Int32) &&& 31).toUInt32).toInt32)) (v := (PT (((p2.toUInt32 >>> ((16 : Int32) &&& 31).toUInt32).toInt32)).toNatClampNeg)) (by rw [e_q3]; exact Ar_q4.1) (State.isArrayOf_alike hZ.alike Ar_q4.2.1) rfl Ar_q4.2.2 hin_q4 hat_q4 (g := (mkF m 22 #[.val (.ref a1), .val (.int p2)] [(.int ((p2.toUInt32 >>> ((16 : Int32) &&& 31).toUInt32).toInt32)), (.ref pg)])) rfl rfl (hb hby d4_22) _ ?_
    show Steps p.tables e below (T_q3.setTop (mkF m 23 #[.val (.ref a1), .val (.int p2)] [(PT (((p2.toUInt32 >>> ((16 : Int32) &&& 31).toUInt32).toInt32)).toNatClampNeg)])) _
    rw [hc_q1]
    show Steps p.tables e below (T_q3.setTop (mkF m 23 #[.val (.ref a1), .val (.int p2)] [(.ref pt)])) _
    jvm_step X_q3.here [X_q3.here.top, hx, (hb hby d4_23), X_q3.method', Bd.returns, Value.isRef, FieldType.isReference]
    first | (intro acts; rw [hr _ acts rfl rfl rfl]) | rw [hr _ _ rfl rfl rfl]
    exact Steps.refl _
  · show Q_rmAHP Z a1 pg pt kg zp PT p2 h0 n0 _ T_q3.heap _
    rw [e_q3]
    exact ⟨rfl, N0, rfl⟩
theorem d5_5 : decode jdk_65_method_117_code 5 = .ok (.iload_n 2, 1) := by decide +kernel
theorem d5_6 : decode jdk_65_method_117_code 6 = .ok (.iload_n 3, 1) := by decide +kernel
theorem d5_7 : decode jdk_65_method_117_code 7 = .ok (.if_icmp .ge 13, 3) := by decide +kernel
theorem d5_10 : decode jdk_65_method_117_code 10 = .ok (.aload_n 0, 1) := by decide +kernel
theorem d5_11 : decode jdk_65_method_117_code 11 = .ok (.iload_n 2, 1) := by decide +kernel
theorem d5_12 : decode jdk_65_method_117_code 12 = .ok (.aload_n 1, 1) := by decide +kernel
theorem d5_13 : decode jdk_65_method_117_code 13 = .ok (.aastore, 1) := by decide +kernel
theorem d5_14 : decode jdk_65_method_117_code 14 = .ok (.iinc 2 1, 3) := by decide +kernel
theorem d5_17 : decode jdk_65_method_117_code 17 = .ok (.goto (-12), 3) := by decide +kernel
theorem pn_5 : plainName "java/util/Arrays" = true := by first | (simp [plainName, overriddenIn]; done) | decide +kernel
set_option maxRecDepth 65536 in
set_option maxHeartbeats 40000000 in
theorem own_ft {p : Program} {l : Launch} {e : Env} {s : State} {m : MethodId} {args : Array Value} {below : List Frame} {meth : Method} {c : Code} {T0 : State} {locs : List Loc} {cells slots : Nat} {Z : State} {a0 : Array Value} {h0 : Heap} {n0 : Nat} (a1 y : Addr) (k1 : ClassId) (zl ix : Int32) (G : Nat → Value)
    (X0 : Stand p l e ({ frames := 0, cells := 0, slots := 0, locals := 0 } : Room) s m args below meth c T0 locs cells slots) (hx : p.tables.exec = Jvm.exec) (hZ : Z.Warmed39 s.vm) (hw : ∀ d ∈ tables_1, d.before a0 Z = true) (hby : c.code = jdk_65_method_117_code) (hml : c.maxLocals = 4) (hown : s.vm.findClass "java/util/Arrays" = some m.cls) (e0 : T0.heap = h0) (N0 : Fr n0 locs) (Z0 : n0 ≤ h0.size) (hcl : cells + 0 ≤ ({ frames := 0, cells := 0, slots := 0, locals := 0 } : Room).cells) (hsl : slots + 0 ≤ ({ frames := 0, cells := 0, slots := 0, locals := 0 } : Room).slots) (V_a1 : Arv Z h0 a1 k1 (.object "java/lang/Object") zl (own_R (zl).toNatClampNeg G) .null) (EX_y : Exa Z h0 y "java/lang/Integer") (O_a1 : Ovr Z k1 "java/lang/Object") (ge_a1 : n0 ≤ a1) (hc_q1 : ix < zl) (hc_q3 : ¬ ix < 0 ∧ ix < zl) :
    ∃ (T' : State) (h' : Heap) (locs' : List Loc) , Stand p l e ({ frames := 0, cells := 0, slots := 0, locals := 0 } : Room) s m args below meth c T' locs' (cells + 0) (slots + 0) ∧ T'.heap = h' ∧ Fr n0 locs' ∧ Keep h0 h' [a1] ∧ Arv Z h' a1 k1 (.object "java/lang/Object") zl (own_R (zl).toNatClampNeg (own_up G (ix).toNatClampNeg (.ref y))) .null ∧ Exa Z h' y "java/lang/Integer" ∧
      ∀ target, Steps p.tables e below (T'.setTop (mkF m 5 #[.val (.ref a1), .val (.ref y), .val (.int (ix + (1 : Int32))), .val (.int zl)] [])) target → Steps p.tables e below (T0.setTop (mkF m 5 #[.val (.ref a1), .val (.ref y), .val (.int ix), .val (.int zl)] [])) target := by
  have K0 : Keep h0 h0 [a1] := Keep.refl _ _
  obtain ⟨cl_q2, Ar_q2, qk_q2, S_q2, Nn_q2, H_q2, G_q2⟩ := id V_a1
  have hin_q2 : ¬ (ix < 0 ∨ cl_q2.slots.size ≤ (ix).toNatClampNeg) := inb_of S_q2 hc_q3
  have lt_q2 : (ix).toNatClampNeg < (zl).toNatClampNeg := by have q := Nat.lt_of_not_le fun q => hin_q2 (Or.inr q); rw [S_q2] at q; exact q
  obtain ⟨T_q2, h_q2, X_q2, e_q2, W_q2, st_q2⟩ := stR X0 hx hZ e0 Ar_q2 (j := ix) hin_q2 rfl (Sto.ofV Ar_q2 qk_q2 O_a1 (Ins.of_exa EX_y (own_w hw 35 rfl))) (g := (mkF m 13 #[.val (.ref a1), .val (.ref y), .val (.int ix), .val (.int zl)] [(.ref y), (.int ix), (.ref a1)])) rfl rfl (hb hby d5_13)
  have EX_y__q2 := EX_y.wr W_q2
  have V_a1__q2 : Arv Z h_q2 a1 k1 (.object "java/lang/Object") zl (own_R (zl).toNatClampNeg (own_up G (ix).toNatClampNeg (.ref y))) .null := by rw [← own_R_set]; exact Arv.set Ar_q2 qk_q2 S_q2 Nn_q2 H_q2 G_q2 rfl W_q2 _ rfl (by rw [own_R_len]; exact lt_q2)
  have K_q2 : Keep h0 h_q2 [a1] := K0.wr W_q2 (Or.inl (List.mem_of_getElem? (i := 0) rfl))
  have N_q2 := Fr.snoc X_q2 N0 ge_a1
  refine ⟨T_q2, _, _, X_q2, e_q2, N_q2, K_q2, V_a1__q2, EX_y__q2, fun target kt => ?_⟩
  show Steps p.tables e below (T0.setTop (mkF m 5 #[.val (.ref a1), .val (.ref y), .val (.int ix), .val (.int zl)] [])) _
  refine XS.iloadN X0.here hx rfl (hb hby d5_5) rfl ?_
  refine XS.iloadN X0.here hx rfl (hb hby d5_6) rfl ?_
  refine XS.icmpNo X0.here hx rfl (hb hby d5_7) rfl (tlt hc_q1).2.1 ?_
  refine XS.aloadN X0.here hx rfl (hb hby d5_10) rfl rfl ?_
  show Steps p.tables e below (T0.setTop (mkF m 11 #[.val (.ref a1), .val (.ref y), .val (.int ix), .val (.int zl)] [(.ref a1)])) _
  refine XS.iloadN X0.here hx rfl (hb hby d5_11) rfl ?_
  refine XS.aloadN X0.here hx rfl (hb hby d5_12) rfl rfl ?_
  show Steps p.tables e below (T0.setTop (mkF m 13 #[.val (.ref a1), .val (.ref y), .val (.int ix), .val (.int zl)] [(.ref y), (.int ix), (.ref a1)])) _
  refine st_q2 _ ?_
  refine XS.iinc X_q2.here hx rfl (hb hby d5_14) rfl (l' := #[.val (.ref a1), .val (.ref y), .val (.int (ix + (1 : Int32))), .val (.int zl)]) rfl ?_
  refine XS.goto X_q2.here hx rfl (pc0 := 17) (pc' := 5) rfl (hb hby d5_17) (by decide) (by decide) ?_
  exact kt
theorem own_n32 {n : Nat} {z : Int32} (hn : n ≤ z.toNatClampNeg) : (Int32.ofNat n).toInt = n := Int32.toInt_ofNat_of_lt (by have := z.toInt_lt; have : z.toNatClampNeg = z.toInt.toNat := rfl; omega)
set_option maxHeartbeats 4000000 in
theorem own_filp {p : Program} {l : Launch} {e : Env} {s : State} {m : MethodId} {args : Array Value} {below : List Frame} {meth : Method} {c : Code} {cells slots : Nat} {Z : State} {a0 : Array Value} {n0 : Nat} (a1 y : Addr) (k1 : ClassId) (zl : Int32) (hz : ¬ zl < 0)
    (hx : p.tables.exec = Jvm.exec) (hZ : Z.Warmed39 s.vm) (hw : ∀ d ∈ tables_1, d.before a0 Z = true) (hby : c.code = jdk_65_method_117_code) (hml : c.maxLocals = 4) (hown : s.vm.findClass "java/util/Arrays" = some m.cls) (O_a1 : Ovr Z k1 "java/lang/Object") (ge_a1 : n0 ≤ a1) (hcl : cells + 0 ≤ ({ frames := 0, cells := 0, slots := 0, locals := 0 } : Room).cells) (hsl : slots + 0 ≤ ({ frames := 0, cells := 0, slots := 0, locals := 0 } : Room).slots) :
    ∀ (k i : Nat) (G : Nat → Value) (T0 : State) (locs : List Loc) (h0 : Heap), i + k = zl.toNatClampNeg → Stand p l e ({ frames := 0, cells := 0, slots := 0, locals := 0 } : Room) s m args below meth c T0 locs cells slots → T0.heap = h0 → Fr n0 locs → n0 ≤ h0.size →
      Arv Z h0 a1 k1 (.object "java/lang/Object") zl (own_R (zl).toNatClampNeg G) .null → Exa Z h0 y "java/lang/Integer" → (∀ j, j < i → G j = .ref y) →
      ∃ (T' : State) (h' : Heap) (locs' : List Loc), Stand p l e ({ frames := 0, cells := 0, slots := 0, locals := 0 } : Room) s m args below meth c T' locs' cells slots ∧ T'.heap = h' ∧ Fr n0 locs' ∧ Keep h0 h' [a1] ∧ Arv Z h' a1 k1 (.object "java/lang/Object") zl (own_R (zl).toNatClampNeg (fun _ => .ref y)) .null ∧
        ∀ target, Steps p.tables e below (T'.setTop (mkF m 5 #[.val (.ref a1), .val (.ref y), .val (.int zl), .val (.int zl)] [])) target → Steps p.tables e below (T0.setTop (mkF m 5 #[.val (.ref a1), .val (.ref y), .val (.int (Int32.ofNat i)), .val (.int zl)] [])) target := by
  have hzi : zl.toNatClampNeg = zl.toInt.toNat := rfl
  have hz0 : 0 ≤ zl.toInt := by
    rw [Int32.lt_iff_toInt_lt] at hz
    have : (0 : Int32).toInt = 0 := by decide
    omega
  intro k
  induction k with
  | zero =>
    intro i G T0 locs h0 hi X e0 N Z0 V E hg
    have ei : Int32.ofNat i = zl := by
      rw [← Int32.toInt_inj, own_n32 (z := zl) (by omega)]
      omega
    refine ⟨T0, h0, locs, X, e0, N, Keep.refl _ _, ?_, fun target kt => ?_⟩
    · rw [← own_R_eq (F := G) (fun q hq => hg q (by omega))]; exact V
    · rw [ei]; exact kt
  | succ k ih =>
    intro i G T0 locs h0 hi X e0 N Z0 V E hg
    have hlt : Int32.ofNat i < zl := by
      rw [Int32.lt_iff_toInt_lt, own_n32 (z := zl) (by omega)]
      omega
    have hnn : ¬ Int32.ofNat i < 0 := by
      rw [Int32.lt_iff_toInt_lt, own_n32 (z := zl) (by omega)]
      have : (0 : Int32).toInt = 0 := by decide
      omega
    have hc : (Int32.ofNat i).toNatClampNeg = i := by
      show (Int32.ofNat i).toInt.toNat = i
      rw [own_n32 (z := zl) (by omega)]
      rfl
    obtain ⟨T1, h1, locs1, X1, e1, N1, K1, V1, E1, st1⟩ := own_ft a1 y k1 zl (Int32.ofNat i) G X hx hZ hw hby hml hown e0 N Z0 hcl hsl V E O_a1 ge_a1 hlt ⟨hnn, hlt⟩
    rw [hc] at V1
    obtain ⟨T2, h2, locs2, X2, e2, N2, K2, V2, st2⟩ := ih (i + 1) _ T1 locs1 h1 (by omega) X1 e1 N1 (Nat.le_trans Z0 K1.1) V1 E1 (fun j hj => by
      by_cases q : j = i
      · subst q; simp [own_up]
      · simp only [own_up, if_neg q]; exact hg j (by omega))
    refine ⟨T2, h2, locs2, X2, e2, N2, K1.trans K2 (fun x hx => Or.inl hx), V2, fun target kt => st1 _ ?_⟩
    have eo : Int32.ofNat i + (1 : Int32) = Int32.ofNat (i + 1) := (Int32.ofNat_add i 1).symm
    rw [eo]
    exact st2 _ kt
theorem d5_0 : decode jdk_65_method_117_code 0 = .ok (.iconst 0, 1) := by decide +kernel
theorem d5_1 : decode jdk_65_method_117_code 1 = .ok (.istore_n 2, 1) := by decide +kernel
theorem d5_2 : decode jdk_65_method_117_code 2 = .ok (.aload_n 0, 1) := by decide +kernel
theorem d5_3 : decode jdk_65_method_117_code 3 = .ok (.arraylength, 1) := by decide +kernel
theorem d5_4 : decode jdk_65_method_117_code 4 = .ok (.istore_n 3, 1) := by decide +kernel
theorem d5_20 : decode jdk_65_method_117_code 20 = .ok (.return_, 1) := by decide +kernel
theorem ef_5 (m : MethodId) (x0 : Addr) (x1 : Addr) : entryFrame m #[(.ref x0), (.ref x1)] 4 = mkF m 0 #[.val (.ref x0), .val (.ref x1), .unset, .unset] [] := by first | (simp [entryFrame, mkF, argsToLocals, Value.category]; done) | rfl
def Q_rmFill (Z : State) (a1 y : Addr) (k1 : ClassId) (zl : Int32) (G : Nat → Value) (h0 : Heap) (n0 : Nat) (v : Option Value) (h : Heap) (L : List Loc) : Prop := v = none ∧ Fr n0 L ∧ Keep h0 h [a1] ∧ Arv Z h a1 k1 (.object "java/lang/Object") zl (own_R (zl).toNatClampNeg (fun _ => .ref y)) .null
set_option maxRecDepth 65536 in
set_option maxHeartbeats 40000000 in
theorem rmFill (l : Launch) (Z : State) (a0 : Array Value) (hw : ∀ d ∈ tables_1, d.before a0 Z = true) (ws : List Jvm.Cond) (a1 y : Addr) (k1 : ClassId) (zl : Int32) (G : Nat → Value) (h0 : Heap) (n0 : Nat) (Z0 : n0 ≤ h0.size) (V_a1 : Arv Z h0 a1 k1 (.object "java/lang/Object") zl (own_R (zl).toNatClampNeg G) .null) (EX_y : Exa Z h0 y "java/lang/Integer") (O_a1 : Ovr Z k1 "java/lang/Object") (ge_a1 : n0 ≤ a1) :
    MetFree l (⟨"java/util/Arrays", "fill", "([Ljava/lang/Object;Ljava/lang/Object;)V"⟩ : MethodName) (head1 (Jvm.Cond.code (⟨"java/util/Arrays", "fill", "([Ljava/lang/Object;Ljava/lang/Object;)V"⟩ : MethodName) jdk_65_method_117_code 4 none :: ws) ({ frames := 0, cells := 0, slots := 0, locals := 0 } : Room)) (fun a U => a = #[(.ref a1), (.ref y)] ∧ Z.Warmed39 U.vm ∧ U.heap = h0) (fun _ _ _ _ _ => True) (fun _ U o U' => ∃ v L, o = .returned v ∧ Q_rmFill Z a1 y k1 zl G h0 n0 v U'.heap L ∧ FrameEnd U o U' L ({ frames := 0, cells := 0, slots := 0, locals := 0 } : Room).cells ({ frames := 0, cells := 0, slots := 0, locals := 0 } : Room).slots) := by
  refine MetFree.of_bodySF (plainFor_of_name pn_5) hisR ?_
  intro p e s m args below meth c s₁ Bd hml0 hP hK
  obtain ⟨rfl, hZ, hh⟩ := hP
  have hx := Bd.exec
  have hby := Bd.bytes
  have hml : c.maxLocals = 4 := hml0
  have hown : s.vm.findClass "java/util/Arrays" = some m.cls := findClass_of_methodNamed Bd.named
  have hnm := (name_of_methodNamed Bd.named Bd.method).1
  have X0 : Stand p l e ({ frames := 0, cells := 0, slots := 0, locals := 0 } : Room) s m #[(.ref a1), (.ref y)] below meth c s₁ [] 0 0 := Stand.of_body Bd
  have e0 : s₁.heap = h0 := by rw [← hh, Bd.state]; rfl
  have N0 := Fr.nil n0
  have pre0 : ∀ t, Steps p.tables e below (s₁.setTop (mkF m 0 #[.val (.ref a1), .val (.ref y), .unset, .unset] [])) t → Steps p.tables e below (s₁.setTop (entryFrame m #[(.ref a1), (.ref y)] 4)) t := fun t k => castTop (ef_5 m a1 y) k
  have K0 : Keep h0 h0 [a1] := Keep.refl _ _
  obtain ⟨cl_q1, Ar_q1, qk_q1, S_q1, Nn_q1, H_q1, G_q1⟩ := id V_a1
  have hz : ¬ zl < 0 := by obtain ⟨_, _, _, _, q, _⟩ := V_a1; exact q
  obtain ⟨T_lp, h_lp, L_lp, X_lp, e_lp, N_lp, Kq_lp, V_lp, st_lp⟩ := own_filp a1 y k1 zl hz hx hZ hw hby hml hown O_a1 ge_a1 (by decide) (by decide) (zl).toNatClampNeg 0 G s₁ _ h0 (by omega) X0 e0 N0 (Nat.le_trans Z0 K0.1) V_a1 EX_y (fun j hj => absurd hj (Nat.not_lt_zero _))
  have K_lp : Keep h0 h_lp [a1] := K0.trans Kq_lp (fun x hx => Or.inl hx)
  obtain ⟨fs, hr, hrun, hended, hW, hsame⟩ := X_lp.leave (v := none) (fun _ => rfl) Bd.notSynchronized
  refine ⟨_, _, pre0 _ ?_, hrun, hended, _, _, rfl, ?_, ⟨_, rfl⟩, hW, hsame.mono (by decide) (by decide)⟩
  · show Steps p.tables e below (s₁.setTop (mkF m 0 #[.val (.ref a1), .val (.ref y), .unset, .unset] [])) _
    refine XS.iconst X0.here hx rfl (hb hby d5_0) ?_
    refine XS.istoreN X0.here hx rfl (hb hby d5_1) rfl (l' := #[.val (.ref a1), .val (.ref y), .val (.int (0 : Int32)), .unset]) rfl ?_
    refine XS.aloadN X0.here hx rfl (hb hby d5_2) rfl rfl ?_
    show Steps p.tables e below (s₁.setTop (mkF m 3 #[.val (.ref a1), .val (.ref y), .val (.int (0 : Int32)), .unset] [(.ref a1)])) _
    refine X0.arraylength hx (by rw [e0]; exact Ar_q1.1) (State.isArrayOf_alike hZ.alike Ar_q1.2.1) (g := (mkF m 3 #[.val (.ref a1), .val (.ref y), .val (.int (0 : Int32)), .unset] [(.ref a1)])) rfl rfl (hb hby d5_3) _ ?_
    rw [len_of S_q1 Nn_q1]
    refine XS.istoreN X0.here hx rfl (hb hby d5_4) rfl (l' := #[.val (.ref a1), .val (.ref y), .val (.int (0 : Int32)), .val (.int zl)]) rfl ?_
    show Steps p.tables e below (s₁.setTop (mkF m 5 #[.val (.ref a1), .val (.ref y), .val (.int (Int32.ofNat 0)), .val (.int zl)] [])) _
    refine st_lp _ ?_
    refine XS.iloadN X_lp.here hx rfl (hb hby d5_5) rfl ?_
    refine XS.iloadN X_lp.here hx rfl (hb hby d5_6) rfl ?_
    refine XS.icmpYes X_lp.here hx rfl (pc0 := 7) (pc' := 20) rfl (hb hby d5_7) rfl (flt Int32.lt_irrefl).2.1 (by decide) (by decide) ?_
    show Steps p.tables e below (T_lp.setTop (mkF m 20 #[.val (.ref a1), .val (.ref y), .val (.int zl), .val (.int zl)] [])) _
    exact X_lp.returnOut hx Bd.returns (hb hby d5_20) hr
  · show Q_rmFill Z a1 y k1 zl G h0 n0 _ T_lp.heap _
    rw [e_lp]
    exact ⟨rfl, N_lp, K_lp, V_lp⟩
theorem d2_0 : decode prog_72_method_2_code 0 = .ok (.aload_n 0, 1) := by decide +kernel
theorem d2_1 : decode prog_72_method_2_code 1 = .ok (.invokespecial 7, 3) := by decide +kernel
theorem d2_4 : decode prog_72_method_2_code 4 = .ok (.aload_n 0, 1) := by decide +kernel
theorem d2_5 : decode prog_72_method_2_code 5 = .ok (.iload_n 1, 1) := by decide +kernel
theorem d2_6 : decode prog_72_method_2_code 6 = .ok (.putfield 12, 3) := by decide +kernel
theorem d2_9 : decode prog_72_method_2_code 9 = .ok (.iload_n 1, 1) := by decide +kernel
theorem d2_10 : decode prog_72_method_2_code 10 = .ok (.ldc 16, 2) := by decide +kernel
theorem d2_12 : decode prog_72_method_2_code 12 = .ok (.if_icmp .gt 19, 3) := by decide +kernel
theorem d2_15 : decode prog_72_method_2_code 15 = .ok (.aload_n 0, 1) := by decide +kernel
theorem d2_16 : decode prog_72_method_2_code 16 = .ok (.iload_n 1, 1) := by decide +kernel
theorem d2_17 : decode prog_72_method_2_code 17 = .ok (.anewarray 8, 3) := by decide +kernel
theorem d2_20 : decode prog_72_method_2_code 20 = .ok (.putfield 17, 3) := by decide +kernel
theorem d2_23 : decode prog_72_method_2_code 23 = .ok (.aload_n 0, 1) := by decide +kernel
theorem d2_24 : decode prog_72_method_2_code 24 = .ok (.aconst_null, 1) := by decide +kernel
theorem d2_25 : decode prog_72_method_2_code 25 = .ok (.putfield 21, 3) := by decide +kernel
theorem d2_28 : decode prog_72_method_2_code 28 = .ok (.goto 60, 3) := by decide +kernel
theorem d2_88 : decode prog_72_method_2_code 88 = .ok (.aload_n 2, 1) := by decide +kernel
theorem d2_89 : decode prog_72_method_2_code 89 = .ok (.ifnull 27, 3) := by decide +kernel
theorem d2_116 : decode prog_72_method_2_code 116 = .ok (.return_, 1) := by decide +kernel
theorem pn_2 : plainName "com/example/hashwright/hashwright/table/PagedArray" = true := by first | (simp [plainName, overriddenIn]; done) | decide +kernel
theorem ef_2n (m : MethodId) (x0 : Addr) (x1 : Int32) : entryFrame m #[(.ref x0), (.int x1), .null] 4 = mkF m 0 #[.val (.ref x0), .val (.int x1), .val .null, .unset] [] := by first | (simp [entryFrame, mkF, argsToLocals, Value.category]; done) | rfl
def Q_rmIFn (Z : State) (a1 : Addr) (p2 : Int32) (h0 : Heap) (n0 : Nat) (v : Option Value) (h : Heap) (L : List Loc) : Prop := ∃ (r1 : Addr) (kr1 : ClassId), v = none ∧ Fr n0 L ∧ Keep h0 h [a1] ∧ h0.size ≤ r1 ∧ Fld Z h a1 "com/example/hashwright/hashwright/table/PagedArray" "elements" "[Ljava/lang/Object;" (.ref r1) ∧ Fld Z h a1 "com/example/hashwright/hashwright/table/PagedArray" "pages" "[[Ljava/lang/Object;" .null ∧ Arv Z h r1 kr1 (.object "java/lang/Object") p2 (own_R (p2).toNatClampNeg (fun _ => .null)) .null ∧ Ovr Z kr1 "java/lang/Object"
set_option maxRecDepth 65536 in
set_option maxHeartbeats 40000000 in
theorem rmIFn (l : Launch) (Z : State) (a0 : Array Value) (hw : ∀ d ∈ tables_1, d.before a0 Z = true) (ws : List Jvm.Cond) (a1 : Addr) (p2 : Int32) (h0 : Heap) (n0 : Nat) (Z0 : n0 ≤ h0.size) (EX_a1 : Exa Z h0 a1 "com/example/hashwright/hashwright/table/PagedArray") (F_length_a1 : Fld Z h0 a1 "com/example/hashwright/hashwright/table/PagedArray" "length" "I" (.int (0 : Int32))) (F_elements_a1 : Fld Z h0 a1 "com/example/hashwright/hashwright/table/PagedArray" "elements" "[Ljava/lang/Object;" .null) (F_pages_a1 : Fld Z h0 a1 "com/example/hashwright/hashwright/table/PagedArray" "pages" "[[Ljava/lang/Object;" .null) (ge_a1 : n0 ≤ a1) (hc_q3 : ¬ ((65536 : Int32) < p2)) (hc_q5 : ¬ (p2) < 0) (hc_q6 : (p2).toNatClampNeg ≤ 65536) :
    MetFree l (⟨"com/example/hashwright/hashwright/table/PagedArray", "<init>", "(ILjava/lang/Object;)V"⟩ : MethodName) (head1 (Jvm.Cond.code (⟨"com/example/hashwright/hashwright/table/PagedArray", "<init>", "(ILjava/lang/Object;)V"⟩ : MethodName) prog_72_method_2_code 4 none :: ws) ({ frames := 1, cells := 4, slots := 196611, locals := 60 } : Room)) (fun a U => a = #[(.ref a1), (.int p2), .null] ∧ Z.Warmed39 U.vm ∧ U.heap = h0) (fun _ _ _ _ _ => True) (fun _ U o U' => ∃ v L, o = .returned v ∧ Q_rmIFn Z a1 p2 h0 n0 v U'.heap L ∧ FrameEnd U o U' L ({ frames := 1, cells := 4, slots := 196611, locals := 60 } : Room).cells ({ frames := 1, cells := 4, slots := 196611, locals := 60 } : Room).slots) := by
  refine MetFree.of_bodySF (plainFor_of_name pn_2) hisR ?_
  intro p e s m args below meth c s₁ Bd hml0 hP hK
  obtain ⟨rfl, hZ, hh⟩ := hP
  have hx := Bd.exec
  have hby := Bd.bytes
  have hml : c.maxLocals = 4 := hml0
  have hown : s.vm.findClass "com/example/hashwright/hashwright/table/PagedArray" = some m.cls := findClass_of_methodNamed Bd.named
  have hnm := (name_of_methodNamed Bd.named Bd.method).1
  have X0 : Stand p l e ({ frames := 1, cells := 4, slots := 196611, locals := 60 } : Room) s m #[(.ref a1), (.int p2), .null] below meth c s₁ [] 0 0 := Stand.of_body Bd
  have e0 : s₁.heap = h0 := by rw [← hh, Bd.state]; rfl
  have N0 := Fr.nil n0
  have pre0 : ∀ t, Steps p.tables e below (s₁.setTop (mkF m 0 #[.val (.ref a1), .val (.int p2), .val .null, .unset] [])) t → Steps p.tables e below (s₁.setTop (entryFrame m #[(.ref a1), (.int p2), .null] 4)) t := fun t k => castTop (ef_2n m a1 p2) k
  have K0 : Keep h0 h0 [a1] := Keep.refl _ _
  obtain ⟨T_q1, X_q1, e_q1, st_q1⟩ := initO X0 hx hZ hown (own_w hw 15 rfl) (own_w hw 16 rfl) (own_w hw 17 rfl) e0 (g := (mkF m 1 #[.val (.ref a1), .val (.int p2), .val .null, .unset] [(.ref a1)])) rfl (by rw [hml]; rfl) rfl (hb hby d2_1) (by decide) (W := 0) (by show 2 * 0 + _ ≤ _; exact Nat.le_of_eq rfl) (by decide)
  obtain ⟨T_q2, h_q2, X_q2, e_q2, W_q2, st_q2⟩ := putF X_q1 hx hZ hown (host := "") (Or.inl (own_w hw 18 rfl)) Via.refl e_q1 F_length_a1 EX_a1 (Or.inr ⟨(own_w hw 19 rfl), rfl, hnm⟩) (own_w hw 10 rfl) (ty := .int) (by decide) rfl rfl (g := (mkF m 6 #[.val (.ref a1), .val (.int p2), .val .null, .unset] [(.int p2), (.ref a1)])) rfl rfl (hb hby d2_6)
  have EX_a1__q2 := EX_a1.wr W_q2
  have F_elements_a1__q2 := F_elements_a1.other W_q2 (Or.inr (slot_ne (Or.inr (own_w hw 24 rfl)) (Or.inr (own_w hw 19 rfl)) (by decide) (t := (.array (.object "java/lang/Object"))) (t' := .int) (by decide) (by decide)))
  have F_pages_a1__q2 := F_pages_a1.other W_q2 (Or.inr (slot_ne (Or.inr (own_w hw 26 rfl)) (Or.inr (own_w hw 19 rfl)) (by decide) (t := (.array (.array (.object "java/lang/Object")))) (t' := .int) (by decide) (by decide)))
  have K_q2 : Keep h0 h_q2 [a1] := K0.wr W_q2 (Or.inl (List.mem_of_getElem? (i := 0) rfl))
  have N_q2 := Fr.snoc X_q2 N0 ge_a1
  obtain ⟨T_q4, h_q4, k_q4, X_q4, e_q4, E_q4, A_q4, EX_q4, O_q4, st_q4⟩ := newRE X_q2 hx hZ hown (own_w hw 21 rfl) (own_w hw 22 rfl) e_q2 (g := (mkF m 17 #[.val (.ref a1), .val (.int p2), .val .null, .unset] [(.int p2), (.ref a1)])) rfl (hb hby d2_17) rfl hc_q5 (cap := 65536) hc_q6 (by decide) (by decide) (by decide) (ad := "[Ljava/lang/Object;") (by decide)
  obtain ⟨b_q4, g_q4⟩ : ∃ z, z = h_q2.size := ⟨_, rfl⟩
  rw [← g_q4] at A_q4 EX_q4 st_q4
  have ne_a1_b_q4 : a1 ≠ b_q4 := Nat.ne_of_lt (Nat.lt_of_lt_of_le EX_a1__q2.lt (Nat.le_of_eq g_q4.symm))
  have sz_b_q4 : h0.size ≤ b_q4 := Nat.le_trans K_q2.1 (Nat.le_of_eq g_q4.symm)
  have K_q4 : Keep h0 h_q4 [a1] := K_q2.ext E_q4
  have EX_a1__q4 := EX_a1__q2.ext E_q4
  have F_elements_a1__q4 := F_elements_a1__q2.ext E_q4
  have F_pages_a1__q4 := F_pages_a1__q2.ext E_q4
  have V_b_q4 : Arv Z h_q4 b_q4 k_q4 (.object "java/lang/Object") p2 (own_R (p2).toNatClampNeg (fun _ => .null)) .null := (Arv.new A_q4 hc_q5).pad (own_R_new _)
  obtain ⟨T_q7, h_q7, X_q7, e_q7, W_q7, st_q7⟩ := putF X_q4 hx hZ hown (host := "") (Or.inl (own_w hw 23 rfl)) Via.refl e_q4 F_elements_a1__q4 EX_a1__q4 (Or.inr ⟨(own_w hw 24 rfl), rfl, hnm⟩) (own_w hw 10 rfl) (ty := (.array (.object "java/lang/Object"))) (by decide) rfl rfl (g := (mkF m 20 #[.val (.ref a1), .val (.int p2), .val .null, .unset] [(.ref b_q4), (.ref a1)])) rfl rfl (hb hby d2_20)
  have EX_a1__q7 := EX_a1__q4.wr W_q7
  have F_pages_a1__q7 := F_pages_a1__q4.other W_q7 (Or.inr (slot_ne (Or.inr (own_w hw 26 rfl)) (Or.inr (own_w hw 24 rfl)) (by decide) (t := (.array (.array (.object "java/lang/Object")))) (t' := (.array (.object "java/lang/Object"))) (by decide) (by decide)))
  have V_b_q4__q7 := V_b_q4.other W_q7 (Ne.symm ne_a1_b_q4)
  have F_elements_a1__q7 := F_elements_a1__q4.same W_q7
  have K_q7 : Keep h0 h_q7 [a1] := K_q4.wr W_q7 (Or.inl (List.mem_of_getElem? (i := 0) rfl))
  have N_q7 := Fr.snoc X_q7 N_q2 ge_a1
  obtain ⟨T_q8, h_q8, X_q8, e_q8, W_q8, st_q8⟩ := putF X_q7 hx hZ hown (host := "") (Or.inl (own_w hw 25 rfl)) Via.refl e_q7 F_pages_a1__q7 EX_a1__q7 (Or.inr ⟨(own_w hw 26 rfl), rfl, hnm⟩) (own_w hw 10 rfl) (ty := (.array (.array (.object "java/lang/Object")))) (by decide) rfl rfl (g := (mkF m 25 #[.val (.ref a1), .val (.int p2), .val .null, .unset] [.null, (.ref a1)])) rfl rfl (hb hby d2_25)
  have F_elements_a1__q8 := F_elements_a1__q7.other W_q8 (Or.inr (slot_ne (Or.inr (own_w hw 24 rfl)) (Or.inr (own_w hw 26 rfl)) (by decide) (t := (.array (.object "java/lang/Object"))) (t' := (.array (.array (.object "java/lang/Object")))) (by decide) (by decide)))
  have V_b_q4__q8 := V_b_q4__q7.other W_q8 (Ne.symm ne_a1_b_q4)
  have F_pages_a1__q8 := F_pages_a1__q7.same W_q8
  have K_q8 : Keep h0 h_q8 [a1] := K_q7.wr W_q8 (Or.inl (List.mem_of_getElem? (i := 0) rfl))
  have N_q8 := Fr.snoc X_q8 N_q7 ge_a1
  obtain ⟨fs, hr, hrun, hended, hW, hsame⟩ := X_q8.leave (v := none) (fun _ => rfl) Bd.notSynchronized
  refine ⟨_, _, pre0 _ ?_, hrun, hended, _, _, rfl, ?_, ⟨_, rfl⟩, hW, hsame.mono (by decide) (by decide)⟩
  · show Steps p.tables e below (s₁.setTop (mkF m 0 #[.val (.ref a1), .val (.int p2), .val .null, .unset] [])) _
    refine XS.aloadN X0.here hx rfl (hb hby d2_0) rfl rfl ?_
    show Steps p.tables e below (s₁.setTop (mkF m 1 #[.val (.ref a1), .val (.int p2), .val .null, .unset] [(.ref a1)])) _
    refine st_q1 _ ?_
    refine XS.aloadN X_q1.here hx rfl (hb hby d2_4) rfl rfl ?_
    refine XS.iloadN X_q1.here hx rfl (hb hby d2_5) rfl ?_
    show Steps p.tables e below (T_q1.setTop (mkF m 6 #[.val (.ref a1), .val (.int p2), .val .null, .unset] [(.int p2), (.ref a1)])) _
    refine st_q2 _ ?_
    refine XS.iloadN X_q2.here hx rfl (hb hby d2_9) rfl ?_
    show Steps p.tables e below (T_q2.setTop (mkF m 10 #[.val (.ref a1), .val (.int p2), .val .null, .unset] [(.int p2)])) _
    refine X_q2.ldcInt hx hown (mvT hZ (own_w hw 20 rfl)) (g := (mkF m 10 #[.val (.ref a1), .val (.int p2), .val .null, .unset] [(.int p2)])) rfl (hb hby d2_10) _ ?_
    refine XS.icmpNo X_q2.here hx rfl (hb hby d2_12) rfl (flt hc_q3).2.2.1 ?_
    refine XS.aloadN X_q2.here hx rfl (hb hby d2_15) rfl rfl ?_
    refine XS.iloadN X_q2.here hx rfl (hb hby d2_16) rfl ?_
    show Steps p.tables e below (T_q2.setTop (mkF m 17 #[.val (.ref a1), .val (.int p2), .val .null, .unset] [(.int p2), (.ref a1)])) _
    refine st_q4 _ ?_
    show Steps p.tables e below (T_q4.setTop (mkF m 20 #[.val (.ref a1), .val (.int p2), .val .null, .unset] [(.ref b_q4), (.ref a1)])) _
    refine st_q7 _ ?_
    refine XS.aloadN X_q7.here hx rfl (hb hby d2_23) rfl rfl ?_
    refine XS.aconstNull X_q7.here hx rfl (hb hby d2_24) ?_
    show Steps p.tables e below (T_q7.setTop (mkF m 25 #[.val (.ref a1), .val (.int p2), .val .null, .unset] [.null, (.ref a1)])) _
    refine st_q8 _ ?_
    refine XS.goto X_q8.here hx rfl (pc0 := 28) (pc' := 88) rfl (hb hby d2_28) (by decide) (by decide) ?_
    refine XS.aloadN X_q8.here hx rfl (hb hby d2_88) rfl rfl ?_
    refine XS.ifnullYes X_q8.here hx rfl (pc0 := 89) (pc' := 116) rfl (hb hby d2_89) rfl (by decide) (by decide) ?_
    show Steps p.tables e below (T_q8.setTop (mkF m 116 #[.val (.ref a1), .val (.int p2), .val .null, .unset] [])) _
    exact X_q8.returnOut hx Bd.returns (hb hby d2_116) hr
  · show Q_rmIFn Z a1 p2 h0 n0 _ T_q8.heap _
    rw [e_q8]
    exact ⟨b_q4, k_q4, rfl, N_q8, K_q8, sz_b_q4, F_elements_a1__q8, F_pages_a1__q8, V_b_q4__q8, O_q4⟩
theorem d2_92 : decode prog_72_method_2_code 92 = .ok (.iconst 0, 1) := by decide +kernel
theorem d2_93 : decode prog_72_method_2_code 93 = .ok (.istore_n 3, 1) := by decide +kernel
theorem d2_94 : decode prog_72_method_2_code 94 = .ok (.iload_n 3, 1) := by decide +kernel
theorem d2_95 : decode prog_72_method_2_code 95 = .ok (.iload_n 1, 1) := by decide +kernel
theorem d2_96 : decode prog_72_method_2_code 96 = .ok (.if_icmp .ge 20, 3) := by decide +kernel
theorem d2_99 : decode prog_72_method_2_code 99 = .ok (.aload_n 0, 1) := by decide +kernel
theorem d2_100 : decode prog_72_method_2_code 100 = .ok (.iload_n 3, 1) := by decide +kernel
theorem d2_101 : decode prog_72_method_2_code 101 = .ok (.invokevirtual 32, 3) := by decide +kernel
theorem d2_104 : decode prog_72_method_2_code 104 = .ok (.aload_n 2, 1) := by decide +kernel
theorem d2_105 : decode prog_72_method_2_code 105 = .ok (.invokestatic 36, 3) := by decide +kernel
theorem d2_108 : decode prog_72_method_2_code 108 = .ok (.iload_n 3, 1) := by decide +kernel
theorem d2_109 : decode prog_72_method_2_code 109 = .ok (.ldc 16, 2) := by decide +kernel
theorem d2_111 : decode prog_72_method_2_code 111 = .ok (.iadd, 1) := by decide +kernel
theorem d2_112 : decode prog_72_method_2_code 112 = .ok (.istore_n 3, 1) := by decide +kernel
theorem d2_113 : decode prog_72_method_2_code 113 = .ok (.goto (-19), 3) := by decide +kernel
theorem pd__I__Ljava_lang_Object_ : parseMethodDescriptor "(I)[Ljava/lang/Object;" = some ⟨[.int], some (.array (.object "java/lang/Object"))⟩ := by decide +kernel
theorem pd___Ljava_lang_Object_Ljava_lang_Object__V : parseMethodDescriptor "([Ljava/lang/Object;Ljava/lang/Object;)V" = some ⟨[(.array (.object "java/lang/Object")), (.object "java/lang/Object")], none⟩ := by decide +kernel
theorem ef_2 (m : MethodId) (x0 : Addr) (x1 : Int32) (x2 : Addr) : entryFrame m #[(.ref x0), (.int x1), (.ref x2)] 4 = mkF m 0 #[.val (.ref x0), .val (.int x1), .val (.ref x2), .unset] [] := by first | (simp [entryFrame, mkF, argsToLocals, Value.category]; done) | rfl
def Q_rmIFr (Z : State) (a1 y : Addr) (p2 : Int32) (h0 : Heap) (n0 : Nat) (v : Option Value) (h : Heap) (L : List Loc) : Prop := ∃ (r1 : Addr) (kr1 : ClassId), v = none ∧ Fr n0 L ∧ Keep h0 h [a1] ∧ h0.size ≤ r1 ∧ Fld Z h a1 "com/example/hashwright/hashwright/table/PagedArray" "elements" "[Ljava/lang/Object;" (.ref r1) ∧ Fld Z h a1 "com/example/hashwright/hashwright/table/PagedArray" "pages" "[[Ljava/lang/Object;" .null ∧ Arv Z h r1 kr1 (.object "java/lang/Object") p2 (own_R (p2).toNatClampNeg (fun _ => .ref y)) .null ∧ Ovr Z kr1 "java/lang/Object"
set_option maxRecDepth 65536 in
set_option maxHeartbeats 40000000 in
theorem rmIFr (l : Launch) (Z : State) (a0 : Array Value) (hw : ∀ d ∈ tables_1, d.before a0 Z = true) (ws : List Jvm.Cond) (a1 y : Addr) (p2 : Int32) (h0 : Heap) (n0 : Nat) (Z0 : n0 ≤ h0.size) (EX_a1 : Exa Z h0 a1 "com/example/hashwright/hashwright/table/PagedArray") (F_length_a1 : Fld Z h0 a1 "com/example/hashwright/hashwright/table/PagedArray" "length" "I" (.int (0 : Int32))) (F_elements_a1 : Fld Z h0 a1 "com/example/hashwright/hashwright/table/PagedArray" "elements" "[Ljava/lang/Object;" .null) (F_pages_a1 : Fld Z h0 a1 "com/example/hashwright/hashwright/table/PagedArray" "pages" "[[Ljava/lang/Object;" .null) (EX_y : Exa Z h0 y "java/lang/Integer") (ne_y_a1 : y ≠ a1) (ge_a1 : n0 ≤ a1) (hc_q3 : ¬ ((65536 : Int32) < p2)) (hc_q5 : ¬ (p2) < 0) (hc_q6 : (p2).toNatClampNeg ≤ 65536) (hc_q9 : (0 : Int32) < p2) :
    MetFree l (⟨"com/example/hashwright/hashwright/table/PagedArray", "<init>", "(ILjava/lang/Object;)V"⟩ : MethodName) (head1 (Jvm.Cond.code (⟨"com/example/hashwright/hashwright/table/PagedArray", "<init>", "(ILjava/lang/Object;)V"⟩ : MethodName) prog_72_method_2_code 4 none :: ws) ({ frames := 1, cells := 4, slots := 196611, locals := 60 } : Room)) (fun a U => a = #[(.ref a1), (.int p2), (.ref y)] ∧ Z.Warmed39 U.vm ∧ U.heap = h0) (fun _ _ _ _ _ => True) (fun _ U o U' => ∃ v L, o = .returned v ∧ Q_rmIFr Z a1 y p2 h0 n0 v U'.heap L ∧ FrameEnd U o U' L ({ frames := 1, cells := 4, slots := 196611, locals := 60 } : Room).cells ({ frames := 1, cells := 4, slots := 196611, locals := 60 } : Room).slots) := by
  refine MetFree.of_bodySF (plainFor_of_name pn_2) hisR ?_
  intro p e s m args below meth c s₁ Bd hml0 hP hK
  obtain ⟨rfl, hZ, hh⟩ := hP
  have hx := Bd.exec
  have hby := Bd.bytes
  have hml : c.maxLocals = 4 := hml0
  have hown : s.vm.findClass "com/example/hashwright/hashwright/table/PagedArray" = some m.cls := findClass_of_methodNamed Bd.named
  have hnm := (name_of_methodNamed Bd.named Bd.method).1
  have X0 : Stand p l e ({ frames := 1, cells := 4, slots := 196611, locals := 60 } : Room) s m #[(.ref a1), (.int p2), (.ref y)] below meth c s₁ [] 0 0 := Stand.of_body Bd
  have e0 : s₁.heap = h0 := by rw [← hh, Bd.state]; rfl
  have N0 := Fr.nil n0
  have pre0 : ∀ t, Steps p.tables e below (s₁.setTop (mkF m 0 #[.val (.ref a1), .val (.int p2), .val (.ref y), .unset] [])) t → Steps p.tables e below (s₁.setTop (entryFrame m #[(.ref a1), (.int p2), (.ref y)] 4)) t := fun t k => castTop (ef_2 m a1 p2 y) k
  have K0 : Keep h0 h0 [a1] := Keep.refl _ _
  obtain ⟨T_q1, X_q1, e_q1, st_q1⟩ := initO X0 hx hZ hown (own_w hw 15 rfl) (own_w hw 16 rfl) (own_w hw 17 rfl) e0 (g := (mkF m 1 #[.val (.ref a1), .val (.int p2), .val (.ref y), .unset] [(.ref a1)])) rfl (by rw [hml]; rfl) rfl (hb hby d2_1) (by decide) (W := 0) (by show 2 * 0 + _ ≤ _; exact Nat.le_of_eq rfl) (by decide)
  obtain ⟨T_q2, h_q2, X_q2, e_q2, W_q2, st_q2⟩ := putF X_q1 hx hZ hown (host := "") (Or.inl (own_w hw 18 rfl)) Via.refl e_q1 F_length_a1 EX_a1 (Or.inr ⟨(own_w hw 19 rfl), rfl, hnm⟩) (own_w hw 10 rfl) (ty := .int) (by decide) rfl rfl (g := (mkF m 6 #[.val (.ref a1), .val (.int p2), .val (.ref y), .unset] [(.int p2), (.ref a1)])) rfl rfl (hb hby d2_6)
  have EX_a1__q2 := EX_a1.wr W_q2
  have F_elements_a1__q2 := F_elements_a1.other W_q2 (Or.inr (slot_ne (Or.inr (own_w hw 24 rfl)) (Or.inr (own_w hw 19 rfl)) (by decide) (t := (.array (.object "java/lang/Object"))) (t' := .int) (by decide) (by decide)))
  have F_pages_a1__q2 := F_pages_a1.other W_q2 (Or.inr (slot_ne (Or.inr (own_w hw 26 rfl)) (Or.inr (own_w hw 19 rfl)) (by decide) (t := (.array (.array (.object "java/lang/Object")))) (t' := .int) (by decide) (by decide)))
  have EX_y__q2 := EX_y.wr W_q2
  have K_q2 : Keep h0 h_q2 [a1] := K0.wr W_q2 (Or.inl (List.mem_of_getElem? (i := 0) rfl))
  have N_q2 := Fr.snoc X_q2 N0 ge_a1
  obtain ⟨T_q4, h_q4, k_q4, X_q4, e_q4, E_q4, A_q4, EX_q4, O_q4, st_q4⟩ := newRE X_q2 hx hZ hown (own_w hw 21 rfl) (own_w hw 22 rfl) e_q2 (g := (mkF m 17 #[.val (.ref a1), .val (.int p2), .val (.ref y), .unset] [(.int p2), (.ref a1)])) rfl (hb hby d2_17) rfl hc_q5 (cap := 65536) hc_q6 (by decide) (by decide) (by decide) (ad := "[Ljava/lang/Object;") (by decide)
  obtain ⟨b_q4, g_q4⟩ : ∃ z, z = h_q2.size := ⟨_, rfl⟩
  rw [← g_q4] at A_q4 EX_q4 st_q4
  have ne_a1_b_q4 : a1 ≠ b_q4 := Nat.ne_of_lt (Nat.lt_of_lt_of_le EX_a1__q2.lt (Nat.le_of_eq g_q4.symm))
  have ge_b_q4 : n0 ≤ b_q4 := Nat.le_trans (Nat.le_trans Z0 K_q2.1) (Nat.le_of_eq g_q4.symm)
  have sz_b_q4 : h0.size ≤ b_q4 := Nat.le_trans K_q2.1 (Nat.le_of_eq g_q4.symm)
  have K_q4 : Keep h0 h_q4 [a1] := K_q2.ext E_q4
  have EX_a1__q4 := EX_a1__q2.ext E_q4
  have F_elements_a1__q4 := F_elements_a1__q2.ext E_q4
  have F_pages_a1__q4 := F_pages_a1__q2.ext E_q4
  have EX_y__q4 := EX_y__q2.ext E_q4
  have V_b_q4 : Arv Z h_q4 b_q4 k_q4 (.object "java/lang/Object") p2 (own_R (p2).toNatClampNeg (fun _ => .null)) .null := (Arv.new A_q4 hc_q5).pad (own_R_new _)
  obtain ⟨T_q7, h_q7, X_q7, e_q7, W_q7, st_q7⟩ := putF X_q4 hx hZ hown (host := "") (Or.inl (own_w hw 23 rfl)) Via.refl e_q4 F_elements_a1__q4 EX_a1__q4 (Or.inr ⟨(own_w hw 24 rfl), rfl, hnm⟩) (own_w hw 10 rfl) (ty := (.array (.object "java/lang/Object"))) (by decide) rfl rfl (g := (mkF m 20 #[.val (.ref a1), .val (.int p2), .val (.ref y), .unset] [(.ref b_q4), (.ref a1)])) rfl rfl (hb hby d2_20)
  have EX_a1__q7 := EX_a1__q4.wr W_q7
  have F_pages_a1__q7 := F_pages_a1__q4.other W_q7 (Or.inr (slot_ne (Or.inr (own_w hw 26 rfl)) (Or.inr (own_w hw 24 rfl)) (by decide) (t := (.array (.array (.object "java/lang/Object")))) (t' := (.array (.object "java/lang/Object"))) (by decide) (by decide)))
  have EX_y__q7 := EX_y__q4.wr W_q7
  have V_b_q4__q7 := V_b_q4.other W_q7 (Ne.symm ne_a1_b_q4)
  have F_elements_a1__q7 := F_elements_a1__q4.same W_q7
  have K_q7 : Keep h0 h_q7 [a1] := K_q4.wr W_q7 (Or.inl (List.mem_of_getElem? (i := 0) rfl))
  have N_q7 := Fr.snoc X_q7 N_q2 ge_a1
  obtain ⟨T_q8, h_q8, X_q8, e_q8, W_q8, st_q8⟩ := putF X_q7 hx hZ hown (host := "") (Or.inl (own_w hw 25 rfl)) Via.refl e_q7 F_pages_a1__q7 EX_a1__q7 (Or.inr ⟨(own_w hw 26 rfl), rfl, hnm⟩) (own_w hw 10 rfl) (ty := (.array (.array (.object "java/lang/Object")))) (by decide) rfl rfl (g := (mkF m 25 #[.val (.ref a1), .val (.int p2), .val (.ref y), .unset] [.null, (.ref a1)])) rfl rfl (hb hby d2_25)
  have EX_a1__q8 := EX_a1__q7.wr W_q8
  have F_elements_a1__q8 := F_elements_a1__q7.other W_q8 (Or.inr (slot_ne (Or.inr (own_w hw 24 rfl)) (Or.inr (own_w hw 26 rfl)) (by decide) (t := (.array (.object "java/lang/Object"))) (t' := (.array (.array (.object "java/lang/Object")))) (by decide) (by decide)))
  have EX_y__q8 := EX_y__q7.wr W_q8
  have V_b_q4__q8 := V_b_q4__q7.other W_q8 (Ne.symm ne_a1_b_q4)
  have F_pages_a1__q8 := F_pages_a1__q7.same W_q8
  have K_q8 : Keep h0 h_q8 [a1] := K_q7.wr W_q8 (Or.inl (List.mem_of_getElem? (i := 0) rfl))
  have N_q8 := Fr.snoc X_q8 N_q7 ge_a1
  obtain ⟨cq_q10, qa_q10, qb_q10⟩ := EX_a1__q8.cell
  obtain ⟨_, _, ⟨T_q10, L_q10, k_q10, n_q10⟩, -, X_q10, ⟨Lc_q10, hQ_q10, l_q10, y_q10, z_q10⟩, st_q10⟩ := X_q8.privateBack hx (y := (⟨"com/example/hashwright/hashwright/table/PagedArray", "arrayHolding", "(I)[Ljava/lang/Object;"⟩ : MethodName)) hown (mvT hZ (own_w hw 27 rfl)) (mvT hZ (own_w hw 28 rfl)) (mvT hZ (own_seli (y := (⟨"com/example/hashwright/hashwright/table/PagedArray", "arrayHolding", "(I)[Ljava/lang/Object;"⟩ : MethodName)) (by decide) (own_w hw 10 rfl) (own_w hw 29 rfl) (own_w hw 28 rfl))) (Cond.privateMethod_at (mvP hZ (own_w hw 29 rfl) (args := #[]))) (mvT hZ (own_w hw 30 rfl)) (by decide) (backOf (W := 0) (rmAHF l Z a0 hw [] a1 b_q4 (0 : Int32) h_q8 n0 (Nat.le_trans Z0 K_q8.1) F_elements_a1__q8) hZ (own_w hw 30 rfl) (own_w hw 11 rfl) (by decide) (by decide)) (g := (mkF m 101 #[.val (.ref a1), .val (.int p2), .val (.ref y), .val (.int (0 : Int32))] [(.int (0 : Int32)), (.ref a1)])) rfl (by rw [hml]; rfl) (Steps.refl _) (a := a1) (by rw [e_q8]; exact qa_q10) qb_q10 (argsL := [(.int (0 : Int32))]) (rest := []) (lenOf pd__I__Ljava_lang_Object_ rfl) rfl (by show 2 * 0 + _ ≤ _; exact Nat.le_of_eq rfl) (hb hby d2_101) (fun _ _ => ⟨rfl, e_q8, (by decide : 1 + 0 ≤ _), (by decide : 65536 + 0 ≤ _)⟩)
  dsimp only [Pt.U, Pt.locs, Pt.cells, Pt.slots] at X_q10 l_q10 y_q10 z_q10 st_q10 hQ_q10
  subst l_q10 y_q10 z_q10
  obtain ⟨rfl, Nq_q10, eq_q10⟩ := hQ_q10
  have Kq_q10 : Keep h_q8 T_q10.heap [] := by rw [eq_q10]; exact Keep.refl _ _
  have N_q10 := Fr.app N_q8 Nq_q10
  have F_elements_a1__q10 := F_elements_a1__q8.keep Kq_q10 nin0
  have F_pages_a1__q10 := F_pages_a1__q8.keep Kq_q10 nin0
  have EX_y__q10 := EX_y__q8.keep Kq_q10
  have V_b_q4__q10 := V_b_q4__q8.keep Kq_q10 nin0
  have K_q10 : Keep h0 T_q10.heap [a1] := K_q8.trans Kq_q10 all0
  obtain ⟨_, _, ⟨T_q11, L_q11, k_q11, n_q11⟩, -, X_q11, ⟨Lc_q11, hQ_q11, l_q11, y_q11, z_q11⟩, st_q11⟩ := Jvm.LawKit.callS X_q10 hx (y := (⟨"java/util/Arrays", "fill", "([Ljava/lang/Object;Ljava/lang/Object;)V"⟩ : MethodName)) hown (mvT hZ (own_w hw 31 rfl)) (mvT hZ (own_w hw 32 rfl)) (mvT hZ (own_w hw 33 rfl)) (mvT hZ (own_w hw 34 rfl)) (by decide) (backOf (W := 0) (rmFill l Z a0 hw [] b_q4 y k_q4 p2 (fun _ => .null) T_q10.heap n0 (Nat.le_trans Z0 K_q10.1) V_b_q4__q10 EX_y__q10 O_q4 ge_b_q4) hZ (own_w hw 34 rfl) (own_w hw 33 rfl) (by decide) (by decide)) (g := (mkF m 105 #[.val (.ref a1), .val (.int p2), .val (.ref y), .val (.int (0 : Int32))] [(.ref y), (.ref b_q4)])) rfl (by rw [hml]; rfl) (argsL := [(.ref b_q4), (.ref y)]) (rest := []) (lenOf pd___Ljava_lang_Object_Ljava_lang_Object__V rfl) rfl (by show 2 * 0 + _ ≤ _; exact Nat.le_of_eq rfl) (hb hby d2_105) (fun _ _ => ⟨rfl, rfl, (by decide : 1 + 0 ≤ _), (by decide : 65536 + 0 ≤ _)⟩)
  dsimp only [Pt.U, Pt.locs, Pt.cells, Pt.slots] at X_q11 l_q11 y_q11 z_q11 st_q11 hQ_q11
  subst l_q11 y_q11 z_q11
  obtain ⟨rfl, Nq_q11, Kq_q11, O0_q11⟩ := hQ_q11
  have N_q11 := Fr.app N_q10 Nq_q11
  have F_elements_a1__q11 := F_elements_a1__q10.keep Kq_q11 (ninS ne_a1_b_q4 nin0)
  have F_pages_a1__q11 := F_pages_a1__q10.keep Kq_q11 (ninS ne_a1_b_q4 nin0)
  have K_q11 : Keep h0 T_q11.heap [a1] := K_q10.trans Kq_q11 (allS (Or.inr sz_b_q4) all0)
  obtain ⟨fs, hr, hrun, hended, hW, hsame⟩ := X_q11.leave (v := none) (fun _ => rfl) Bd.notSynchronized
  refine ⟨_, _, pre0 _ ?_, hrun, hended, _, _, rfl, ?_, ⟨_, rfl⟩, hW, hsame.mono (by decide) (by decide)⟩
  · show Steps p.tables e below (s₁.setTop (mkF m 0 #[.val (.ref a1), .val (.int p2), .val (.ref y), .unset] [])) _
    refine XS.aloadN X0.here hx rfl (hb hby d2_0) rfl rfl ?_
    show Steps p.tables e below (s₁.setTop (mkF m 1 #[.val (.ref a1), .val (.int p2), .val (.ref y), .unset] [(.ref a1)])) _
    refine st_q1 _ ?_
    refine XS.aloadN X_q1.here hx rfl (hb hby d2_4) rfl rfl ?_
    refine XS.iloadN X_q1.here hx rfl (hb hby d2_5) rfl ?_
    show Steps p.tables e below (T_q1.setTop (mkF m 6 #[.val (.ref a1), .val (.int p2), .val (.ref y), .unset] [(.int p2), (.ref a1)])) _
    refine st_q2 _ ?_
    refine XS.iloadN X_q2.here hx rfl (hb hby d2_9) rfl ?_
    show Steps p.tables e below (T_q2.setTop (mkF m 10 #[.val (.ref a1), .val (.int p2), .val (.ref y), .unset] [(.int p2)])) _
    refine X_q2.ldcInt hx hown (mvT hZ (own_w hw 20 rfl)) (g := (mkF m 10 #[.val (.ref a1), .val (.int p2), .val (.ref y), .unset] [(.int p2)])) rfl (hb hby d2_10) _ ?_
    refine XS.icmpNo X_q2.here hx rfl (hb hby d2_12) rfl (flt hc_q3).2.2.1 ?_
    refine XS.aloadN X_q2.here hx rfl (hb hby d2_15) rfl rfl ?_
    refine XS.iloadN X_q2.here hx rfl (hb hby d2_16) rfl ?_
    show Steps p.tables e below (T_q2.setTop (mkF m 17 #[.val (.ref a1), .val (.int p2), .val (.ref y), .unset] [(.int p2), (.ref a1)])) _
    refine st_q4 _ ?_
    show Steps p.tables e below (T_q4.setTop (mkF m 20 #[.val (.ref a1), .val (.int p2), .val (.ref y), .unset] [(.ref b_q4), (.ref a1)])) _
    refine st_q7 _ ?_
    refine XS.aloadN X_q7.here hx rfl (hb hby d2_23) rfl rfl ?_
    refine XS.aconstNull X_q7.here hx rfl (hb hby d2_24) ?_
    show Steps p.tables e below (T_q7.setTop (mkF m 25 #[.val (.ref a1), .val (.int p2), .val (.ref y), .unset] [.null, (.ref a1)])) _
    refine st_q8 _ ?_
    refine XS.goto X_q8.here hx rfl (pc0 := 28) (pc' := 88) rfl (hb hby d2_28) (by decide) (by decide) ?_
    refine XS.aloadN X_q8.here hx rfl (hb hby d2_88) rfl rfl ?_
    refine XS.ifnullNo X_q8.here hx rfl (hb hby d2_89) rfl ?_
    show Steps p.tables e below (T_q8.setTop (mkF m 92 #[.val (.ref a1), .val (.int p2), .val (.ref y), .unset] [])) _
    refine XS.iconst X_q8.here hx rfl (hb hby d2_92) ?_
    refine XS.istoreN X_q8.here hx rfl (hb hby d2_93) rfl (l' := #[.val (.ref a1), .val (.int p2), .val (.ref y), .val (.int (0 : Int32))]) rfl ?_
    refine XS.iloadN X_q8.here hx rfl (hb hby d2_94) rfl ?_
    refine XS.iloadN X_q8.here hx rfl (hb hby d2_95) rfl ?_
    show Steps p.tables e below (T_q8.setTop (mkF m 96 #[.val (.ref a1), .val (.int p2), .val (.ref y), .val (.int (0 : Int32))] [(.int p2), (.int (0 : Int32))])) _
    refine XS.icmpNo X_q8.here hx rfl (hb hby d2_96) rfl (tlt hc_q9).2.1 ?_
    refine XS.aloadN X_q8.here hx rfl (hb hby d2_99) rfl rfl ?_
    refine XS.iloadN X_q8.here hx rfl (hb hby d2_100) rfl ?_
    show Steps p.tables e below (T_q8.setTop (mkF m 101 #[.val (.ref a1), .val (.int p2), .val (.ref y), .val (.int (0 : Int32))] [(.int (0 : Int32)), (.ref a1)])) _
    refine st_q10.trans ?_
    refine XS.aloadN X_q10.here hx rfl (hb hby d2_104) rfl rfl ?_
    show Steps p.tables e below (T_q10.setTop (mkF m 105 #[.val (.ref a1), .val (.int p2), .val (.ref y), .val (.int (0 : Int32))] [(.ref y), (.ref b_q4)])) _
    refine st_q11 _ ?_
    refine XS.iloadN X_q11.here hx rfl (hb hby d2_108) rfl ?_
    show Steps p.tables e below (T_q11.setTop (mkF m 109 #[.val (.ref a1), .val (.int p2), .val (.ref y), .val (.int (0 : Int32))] [(.int (0 : Int32))])) _
    refine X_q11.ldcInt hx hown (mvT hZ (own_w hw 20 rfl)) (g := (mkF m 109 #[.val (.ref a1), .val (.int p2), .val (.ref y), .val (.int (0 : Int32))] [(.int (0 : Int32))])) rfl (hb hby d2_109) _ ?_
    refine XS.iadd X_q11.here hx rfl (hb hby d2_111) rfl ?_
    refine XS.istoreN X_q11.here hx rfl (hb hby d2_112) rfl (l' := #[.val (.ref a1), .val (.int p2), .val (.ref y), .val (.int (65536 : Int32))]) rfl ?_
    refine XS.goto X_q11.here hx rfl (pc0 := 113) (pc' := 94) rfl (hb hby d2_113) (by decide) (by decide) ?_
    show Steps p.tables e below (T_q11.setTop (mkF m 94 #[.val (.ref a1), .val (.int p2), .val (.ref y), .val (.int (65536 : Int32))] [])) _
    refine XS.iloadN X_q11.here hx rfl (hb hby d2_94) rfl ?_
    refine XS.iloadN X_q11.here hx rfl (hb hby d2_95) rfl ?_
    refine XS.icmpYes X_q11.here hx rfl (pc0 := 96) (pc' := 116) rfl (hb hby d2_96) rfl (flt hc_q3).2.1 (by decide) (by decide) ?_
    show Steps p.tables e below (T_q11.setTop (mkF m 116 #[.val (.ref a1), .val (.int p2), .val (.ref y), .val (.int (65536 : Int32))] [])) _
    exact X_q11.returnOut hx Bd.returns (hb hby d2_116) hr
  · show Q_rmIFr Z a1 y p2 h0 n0 _ T_q11.heap _
    exact ⟨b_q4, k_q4, rfl, N_q11, K_q11, sz_b_q4, F_elements_a1__q11, F_pages_a1__q11, O0_q11, O_q4⟩
theorem d2_31 : decode prog_72_method_2_code 31 = .ok (.aload_n 0, 1) := by decide +kernel
theorem d2_32 : decode prog_72_method_2_code 32 = .ok (.aconst_null, 1) := by decide +kernel
theorem d2_33 : decode prog_72_method_2_code 33 = .ok (.putfield 17, 3) := by decide +kernel
theorem d2_36 : decode prog_72_method_2_code 36 = .ok (.aload_n 0, 1) := by decide +kernel
theorem d2_37 : decode prog_72_method_2_code 37 = .ok (.iload_n 1, 1) := by decide +kernel
theorem d2_38 : decode prog_72_method_2_code 38 = .ok (.iconst 1, 1) := by decide +kernel
theorem d2_39 : decode prog_72_method_2_code 39 = .ok (.isub, 1) := by decide +kernel
theorem d2_40 : decode prog_72_method_2_code 40 = .ok (.bipush 16, 2) := by decide +kernel
theorem d2_42 : decode prog_72_method_2_code 42 = .ok (.iushr, 1) := by decide +kernel
theorem d2_43 : decode prog_72_method_2_code 43 = .ok (.iconst 1, 1) := by decide +kernel
theorem d2_44 : decode prog_72_method_2_code 44 = .ok (.iadd, 1) := by decide +kernel
theorem d2_45 : decode prog_72_method_2_code 45 = .ok (.anewarray 25, 3) := by decide +kernel
theorem d2_48 : decode prog_72_method_2_code 48 = .ok (.putfield 21, 3) := by decide +kernel
theorem d2_51 : decode prog_72_method_2_code 51 = .ok (.iconst 0, 1) := by decide +kernel
theorem d2_52 : decode prog_72_method_2_code 52 = .ok (.istore_n 3, 1) := by decide +kernel
theorem d2_53 : decode prog_72_method_2_code 53 = .ok (.iload_n 3, 1) := by decide +kernel
theorem d2_54 : decode prog_72_method_2_code 54 = .ok (.aload_n 0, 1) := by decide +kernel
theorem d2_55 : decode prog_72_method_2_code 55 = .ok (.getfield 21, 3) := by decide +kernel
theorem d2_58 : decode prog_72_method_2_code 58 = .ok (.arraylength, 1) := by decide +kernel
theorem d2_59 : decode prog_72_method_2_code 59 = .ok (.if_icmp .ge 29, 3) := by decide +kernel
theorem d2_62 : decode prog_72_method_2_code 62 = .ok (.aload_n 0, 1) := by decide +kernel
theorem d2_63 : decode prog_72_method_2_code 63 = .ok (.getfield 21, 3) := by decide +kernel
theorem d2_66 : decode prog_72_method_2_code 66 = .ok (.iload_n 3, 1) := by decide +kernel
theorem d2_67 : decode prog_72_method_2_code 67 = .ok (.ldc 16, 2) := by decide +kernel
theorem d2_69 : decode prog_72_method_2_code 69 = .ok (.iload_n 1, 1) := by decide +kernel
theorem d2_70 : decode prog_72_method_2_code 70 = .ok (.iload_n 3, 1) := by decide +kernel
theorem d2_71 : decode prog_72_method_2_code 71 = .ok (.bipush 16, 2) := by decide +kernel
theorem d2_73 : decode prog_72_method_2_code 73 = .ok (.ishl, 1) := by decide +kernel
theorem d2_74 : decode prog_72_method_2_code 74 = .ok (.isub, 1) := by decide +kernel
theorem d2_75 : decode prog_72_method_2_code 75 = .ok (.invokestatic 26, 3) := by decide +kernel
theorem d2_78 : decode prog_72_method_2_code 78 = .ok (.anewarray 8, 3) := by decide +kernel
theorem d2_81 : decode prog_72_method_2_code 81 = .ok (.aastore, 1) := by decide +kernel
theorem d2_82 : decode prog_72_method_2_code 82 = .ok (.iinc 3 1, 3) := by decide +kernel
theorem d2_85 : decode prog_72_method_2_code 85 = .ok (.goto (-32), 3) := by decide +kernel
theorem pd__II_I : parseMethodDescriptor "(II)I" = some ⟨[.int, .int], some .int⟩ := by decide +kernel
def Q_rmIP2n (Z : State) (a1 : Addr) (p2 z0 z1 : Int32) (h0 : Heap) (n0 : Nat) (v : Option Value) (h : Heap) (L : List Loc) : Prop := ∃ (r0 : Addr) (kr0 : ClassId) (r1 : Addr) (kr1 : ClassId) (r2 : Addr) (kr2 : ClassId), v = none ∧ Fr n0 L ∧ Keep h0 h [a1] ∧ h0.size ≤ r0 ∧ h0.size ≤ r1 ∧ h0.size ≤ r2 ∧ r0 ≠ r1 ∧ r0 ≠ r2 ∧ r1 ≠ r2 ∧ Fld Z h a1 "com/example/hashwright/hashwright/table/PagedArray" "elements" "[Ljava/lang/Object;" .null ∧ Fld Z h a1 "com/example/hashwright/hashwright/table/PagedArray" "pages" "[[Ljava/lang/Object;" (.ref r0) ∧ Arv Z h r0 kr0 (.array (.object "java/lang/Object")) (2 : Int32) (own_R ((2 : Int32)).toNatClampNeg (own_up (own_up (fun _ => .null) ((0 : Int32)).toNatClampNeg (.ref r1)) ((1 : Int32)).toNatClampNeg (.ref r2))) .null ∧ Arv Z h r1 kr1 (.object "java/lang/Object") z0 (own_R (z0).toNatClampNeg (fun _ => .null)) .null ∧ Ovr Z kr1 "java/lang/Object" ∧ Arv Z h r2 kr2 (.object "java/lang/Object") z1 (own_R (z1).toNatClampNeg (fun _ => .null)) .null ∧ Ovr Z kr2 "java/lang/Object"
set_option maxRecDepth 65536 in
set_option maxHeartbeats 40000000 in
theorem rmIP2n (l : Launch) (Z : State) (a0 : Array Value) (hw : ∀ d ∈ tables_1, d.before a0 Z = true) (ws : List Jvm.Cond) (a1 : Addr) (p2 z0 z1 : Int32) (h0 : Heap) (n0 : Nat) (Z0 : n0 ≤ h0.size) (EX_a1 : Exa Z h0 a1 "com/example/hashwright/hashwright/table/PagedArray") (F_length_a1 : Fld Z h0 a1 "com/example/hashwright/hashwright/table/PagedArray" "length" "I" (.int (0 : Int32))) (F_elements_a1 : Fld Z h0 a1 "com/example/hashwright/hashwright/table/PagedArray" "elements" "[Ljava/lang/Object;" .null) (F_pages_a1 : Fld Z h0 a1 "com/example/hashwright/hashwright/table/PagedArray" "pages" "[[Ljava/lang/Object;" .null) (ge_a1 : n0 ≤ a1) (hc_q1 : ((((p2 - (1 : Int32)).toUInt32 >>> ((16 : Int32) &&& 31).toUInt32).toInt32) + (1 : Int32)) = (2 : Int32)) (hc_q4 : (65536 : Int32) < p2) (hc_q12 : (F8_0 (65536 : Int32) (p2 - (0 : Int32))) = z0) (hc_q14 : ¬ (z0) < 0) (hc_q15 : (z0).toNatClampNeg ≤ 65536) (hc_q21 : (F8_0 (65536 : Int32) (p2 - (65536 : Int32))) = z1) (hc_q23 : ¬ (z1) < 0) (hc_q24 : (z1).toNatClampNeg ≤ 65536) :
    MetFree l (⟨"com/example/hashwright/hashwright/table/PagedArray", "<init>", "(ILjava/lang/Object;)V"⟩ : MethodName) (head1 (Jvm.Cond.code (⟨"com/example/hashwright/hashwright/table/PagedArray", "<init>", "(ILjava/lang/Object;)V"⟩ : MethodName) prog_72_method_2_code 4 none :: ws) ({ frames := 1, cells := 4, slots := 196611, locals := 60 } : Room)) (fun a U => a = #[(.ref a1), (.int p2), .null] ∧ Z.Warmed39 U.vm ∧ U.heap = h0) (fun _ _ _ _ _ => True) (fun _ U o U' => ∃ v L, o = .returned v ∧ Q_rmIP2n Z a1 p2 z0 z1 h0 n0 v U'.heap L ∧ FrameEnd U o U' L ({ frames := 1, cells := 4, slots := 196611, locals := 60 } : Room).cells ({ frames := 1, cells := 4, slots := 196611, locals := 60 } : Room).slots) := by
  refine MetFree.of_bodySF (plainFor_of_name pn_2) hisR ?_
  intro p e s m args below meth c s₁ Bd hml0 hP hK
  obtain ⟨rfl, hZ, hh⟩ := hP
  have hx := Bd.exec
  have hby := Bd.bytes
  have hml : c.maxLocals = 4 := hml0
  have hown : s.vm.findClass "com/example/hashwright/hashwright/table/PagedArray" = some m.cls := findClass_of_methodNamed Bd.named
  have hnm := (name_of_methodNamed Bd.named Bd.method).1
  have X0 : Stand p l e ({ frames := 1, cells := 4, slots := 196611, locals := 60 } : Room) s m #[(.ref a1), (.int p2), .null] below meth c s₁ [] 0 0 := Stand.of_body Bd
  have e0 : s₁.heap = h0 := by rw [← hh, Bd.state]; rfl
  have N0 := Fr.nil n0
  have pre0 : ∀ t, Steps p.tables e below (s₁.setTop (mkF m 0 #[.val (.ref a1), .val (.int p2), .val .null, .unset] [])) t → Steps p.tables e below (s₁.setTop (entryFrame m #[(.ref a1), (.int p2), .null] 4)) t := fun t k => castTop (ef_2n m a1 p2) k
  have K0 : Keep h0 h0 [a1] := Keep.refl _ _
  obtain ⟨T_q2, X_q2, e_q2, st_q2⟩ := initO X0 hx hZ hown (own_w hw 15 rfl) (own_w hw 16 rfl) (own_w hw 17 rfl) e0 (g := (mkF m 1 #[.val (.ref a1), .val (.int p2), .val .null, .unset] [(.ref a1)])) rfl (by rw [hml]; rfl) rfl (hb hby d2_1) (by decide) (W := 0) (by show 2 * 0 + _ ≤ _; exact Nat.le_of_eq rfl) (by decide)
  obtain ⟨T_q3, h_q3, X_q3, e_q3, W_q3, st_q3⟩ := putF X_q2 hx hZ hown (host := "") (Or.inl (own_w hw 18 rfl)) Via.refl e_q2 F_length_a1 EX_a1 (Or.inr ⟨(own_w hw 19 rfl), rfl, hnm⟩) (own_w hw 10 rfl) (ty := .int) (by decide) rfl rfl (g := (mkF m 6 #[.val (.ref a1), .val (.int p2), .val .null, .unset] [(.int p2), (.ref a1)])) rfl rfl (hb hby d2_6)
  have EX_a1__q3 := EX_a1.wr W_q3
  have F_elements_a1__q3 := F_elements_a1.other W_q3 (Or.inr (slot_ne (Or.inr (own_w hw 24 rfl)) (Or.inr (own_w hw 19 rfl)) (by decide) (t := (.array (.object "java/lang/Object"))) (t' := .int) (by decide) (by decide)))
  have F_pages_a1__q3 := F_pages_a1.other W_q3 (Or.inr (slot_ne (Or.inr (own_w hw 26 rfl)) (Or.inr (own_w hw 19 rfl)) (by decide) (t := (.array (.array (.object "java/lang/Object")))) (t' := .int) (by decide) (by decide)))
  have K_q3 : Keep h0 h_q3 [a1] := K0.wr W_q3 (Or.inl (List.mem_of_getElem? (i := 0) rfl))
  have N_q3 := Fr.snoc X_q3 N0 ge_a1
  obtain ⟨T_q5, h_q5, X_q5, e_q5, W_q5, st_q5⟩ := putF X_q3 hx hZ hown (host := "") (Or.inl (own_w hw 23 rfl)) Via.refl e_q3 F_elements_a1__q3 EX_a1__q3 (Or.inr ⟨(own_w hw 24 rfl), rfl, hnm⟩) (own_w hw 10 rfl) (ty := (.array (.object "java/lang/Object"))) (by decide) rfl rfl (g := (mkF m 33 #[.val (.ref a1), .val (.int p2), .val .null, .unset] [.null, (.ref a1)])) rfl rfl (hb hby d2_33)
  have EX_a1__q5 := EX_a1__q3.wr W_q5
  have F_pages_a1__q5 := F_pages_a1__q3.other W_q5 (Or.inr (slot_ne (Or.inr (own_w hw 26 rfl)) (Or.inr (own_w hw 24 rfl)) (by decide) (t := (.array (.array (.object "java/lang/Object")))) (t' := (.array (.object "java/lang/Object"))) (by decide) (by decide)))
  have F_elements_a1__q5 := F_elements_a1__q3.same W_q5
  have K_q5 : Keep h0 h_q5 [a1] := K_q3.wr W_q5 (Or.inl (List.mem_of_getElem? (i := 0) rfl))
  have N_q5 := Fr.snoc X_q5 N_q3 ge_a1
  obtain ⟨T_q6, h_q6, k_q6, X_q6, e_q6, E_q6, A_q6, EX_q6, O_q6, st_q6⟩ := newRA X_q5 hx hZ hown (ty := .object "java/lang/Object") (by decide) (own_w hw 50 rfl) (own_w hw 51 rfl) e_q5 (g := (mkF m 45 #[.val (.ref a1), .val (.int p2), .val .null, .unset] [(.int (2 : Int32)), (.ref a1)])) rfl (hb hby d2_45) rfl (by decide) (cap := 2) (by decide) (by decide) (by decide) (by decide) (ad := "[[Ljava/lang/Object;") (by decide)
  obtain ⟨b_q6, g_q6⟩ : ∃ z, z = h_q5.size := ⟨_, rfl⟩
  rw [← g_q6] at A_q6 EX_q6 st_q6
  have ne_a1_b_q6 : a1 ≠ b_q6 := Nat.ne_of_lt (Nat.lt_of_lt_of_le EX_a1__q5.lt (Nat.le_of_eq g_q6.symm))
  have ge_b_q6 : n0 ≤ b_q6 := Nat.le_trans (Nat.le_trans Z0 K_q5.1) (Nat.le_of_eq g_q6.symm)
  have sz_b_q6 : h0.size ≤ b_q6 := Nat.le_trans K_q5.1 (Nat.le_of_eq g_q6.symm)
  have K_q6 : Keep h0 h_q6 [a1] := K_q5.ext E_q6
  have EX_a1__q6 := EX_a1__q5.ext E_q6
  have F_elements_a1__q6 := F_elements_a1__q5.ext E_q6
  have F_pages_a1__q6 := F_pages_a1__q5.ext E_q6
  have V_b_q6 : Arv Z h_q6 b_q6 k_q6 (.array (.object "java/lang/Object")) (2 : Int32) (own_R ((2 : Int32)).toNatClampNeg (fun _ => .null)) .null := (Arv.new A_q6 (by decide)).pad (own_R_new _)
  obtain ⟨T_q7, h_q7, X_q7, e_q7, W_q7, st_q7⟩ := putF X_q6 hx hZ hown (host := "") (Or.inl (own_w hw 25 rfl)) Via.refl e_q6 F_pages_a1__q6 EX_a1__q6 (Or.inr ⟨(own_w hw 26 rfl), rfl, hnm⟩) (own_w hw 10 rfl) (ty := (.array (.array (.object "java/lang/Object")))) (by decide) rfl rfl (g := (mkF m 48 #[.val (.ref a1), .val (.int p2), .val .null, .unset] [(.ref b_q6), (.ref a1)])) rfl rfl (hb hby d2_48)
  have F_elements_a1__q7 := F_elements_a1__q6.other W_q7 (Or.inr (slot_ne (Or.inr (own_w hw 24 rfl)) (Or.inr (own_w hw 26 rfl)) (by decide) (t := (.array (.object "java/lang/Object"))) (t' := (.array (.array (.object "java/lang/Object")))) (by decide) (by decide)))
  have V_b_q6__q7 := V_b_q6.other W_q7 (Ne.symm ne_a1_b_q6)
  have F_pages_a1__q7 := F_pages_a1__q6.same W_q7
  have K_q7 : Keep h0 h_q7 [a1] := K_q6.wr W_q7 (Or.inl (List.mem_of_getElem? (i := 0) rfl))
  have N_q7 := Fr.snoc X_q7 N_q5 ge_a1
  obtain ⟨T_q8, X_q8, e_q8, st_q8⟩ := getF X_q7 hx hZ hown (host := "") (Or.inl (own_w hw 25 rfl)) Via.refl e_q7 F_pages_a1__q7 (g := (mkF m 55 #[.val (.ref a1), .val (.int p2), .val .null, .val (.int (0 : Int32))] [(.ref a1), (.int (0 : Int32))])) rfl rfl (hb hby d2_55)
  obtain ⟨cl_q9, Ar_q9, qk_q9, S_q9, Nn_q9, H_q9, G_q9⟩ := id V_b_q6__q7
  obtain ⟨T_q10, X_q10, e_q10, st_q10⟩ := getF X_q8 hx hZ hown (host := "") (Or.inl (own_w hw 25 rfl)) Via.refl e_q8 F_pages_a1__q7 (g := (mkF m 63 #[.val (.ref a1), .val (.int p2), .val .null, .val (.int (0 : Int32))] [(.ref a1)])) rfl rfl (hb hby d2_63)
  obtain ⟨_, _, ⟨T_q11, L_q11, k_q11, n_q11⟩, -, X_q11, ⟨Lc_q11, hQ_q11, l_q11, y_q11, z_q11⟩, st_q11⟩ := Jvm.LawKit.callS X_q10 hx (y := (⟨"java/lang/Math", "min", "(II)I"⟩ : MethodName)) hown (mvT hZ (own_w hw 52 rfl)) (mvT hZ (own_w hw 53 rfl)) (mvT hZ (own_w hw 54 rfl)) (mvT hZ (own_w hw 55 rfl)) (by decide) (backOf (W := 2) (rm8 l Z a0 hw [] (65536 : Int32) (p2 - (0 : Int32)) h_q7 n0 (Nat.le_trans Z0 K_q7.1)) hZ (own_w hw 55 rfl) (own_w hw 54 rfl) (by decide) (by decide)) (g := (mkF m 75 #[.val (.ref a1), .val (.int p2), .val .null, .val (.int (0 : Int32))] [(.int (p2 - (0 : Int32))), (.int (65536 : Int32)), (.int (0 : Int32)), (.ref b_q6)])) rfl (by rw [hml]; rfl) (argsL := [(.int (65536 : Int32)), (.int (p2 - (0 : Int32)))]) (rest := [(.int (0 : Int32)), (.ref b_q6)]) (lenOf pd__II_I rfl) rfl (by show 2 * 0 + _ ≤ _; exact Nat.le_of_eq rfl) (hb hby d2_75) (fun _ _ => ⟨rfl, e_q10, (by decide : 1 + 0 ≤ _), (by decide : 2 + 0 ≤ _)⟩)
  dsimp only [Pt.U, Pt.locs, Pt.cells, Pt.slots] at X_q11 l_q11 y_q11 z_q11 st_q11 hQ_q11
  subst l_q11 y_q11 z_q11
  obtain ⟨rfl, Nq_q11, eq_q11⟩ := hQ_q11
  have Kq_q11 : Keep h_q7 T_q11.heap [] := by rw [eq_q11]; exact Keep.refl _ _
  have N_q11 := Fr.app N_q7 Nq_q11
  have F_elements_a1__q11 := F_elements_a1__q7.keep Kq_q11 nin0
  have F_pages_a1__q11 := F_pages_a1__q7.keep Kq_q11 nin0
  have V_b_q6__q11 := V_b_q6__q7.keep Kq_q11 nin0
  have K_q11 : Keep h0 T_q11.heap [a1] := K_q7.trans Kq_q11 all0
  obtain ⟨T_q13, h_q13, k_q13, X_q13, e_q13, E_q13, A_q13, EX_q13, O_q13, st_q13⟩ := newRE X_q11 hx hZ hown (own_w hw 21 rfl) (own_w hw 22 rfl) rfl (g := (mkF m 78 #[.val (.ref a1), .val (.int p2), .val .null, .val (.int (0 : Int32))] [(.int z0), (.int (0 : Int32)), (.ref b_q6)])) rfl (hb hby d2_78) rfl hc_q14 (cap := 65536) hc_q15 (by decide) (by decide) (by decide) (ad := "[Ljava/lang/Object;") (by decide)
  obtain ⟨b_q13, g_q13⟩ : ∃ z, z = T_q11.heap.size := ⟨_, rfl⟩
  rw [← g_q13] at A_q13 EX_q13 st_q13
  have ne_b_q6_b_q13 : b_q6 ≠ b_q13 := Nat.ne_of_lt (Nat.lt_of_lt_of_le V_b_q6__q11.lt (Nat.le_of_eq g_q13.symm))
  have sz_b_q13 : h0.size ≤ b_q13 := Nat.le_trans K_q11.1 (Nat.le_of_eq g_q13.symm)
  have K_q13 : Keep h0 h_q13 [a1] := K_q11.ext E_q13
  have F_elements_a1__q13 := F_elements_a1__q11.ext E_q13
  have F_pages_a1__q13 := F_pages_a1__q11.ext E_q13
  have V_b_q6__q13 := V_b_q6__q11.ext E_q13
  have V_b_q13 : Arv Z h_q13 b_q13 k_q13 (.object "java/lang/Object") z0 (own_R (z0).toNatClampNeg (fun _ => .null)) .null := (Arv.new A_q13 hc_q14).pad (own_R_new _)
  obtain ⟨cl_q16, Ar_q16, qk_q16, S_q16, Nn_q16, H_q16, G_q16⟩ := id V_b_q6__q13
  have hin_q16 : ¬ ((0 : Int32) < 0 ∨ cl_q16.slots.size ≤ ((0 : Int32)).toNatClampNeg) := inb_of S_q16 ⟨by decide, by decide⟩
  have lt_q16 : ((0 : Int32)).toNatClampNeg < ((2 : Int32)).toNatClampNeg := by have q := Nat.lt_of_not_le fun q => hin_q16 (Or.inr q); rw [S_q16] at q; exact q
  obtain ⟨T_q16, h_q16, X_q16, e_q16, W_q16, st_q16⟩ := stR X_q13 hx hZ e_q13 Ar_q16 (j := (0 : Int32)) hin_q16 rfl (Sto.ofVA Ar_q16 qk_q16 O_q6 (Ins.self EX_q13)) (g := (mkF m 81 #[.val (.ref a1), .val (.int p2), .val .null, .val (.int (0 : Int32))] [(.ref b_q13), (.int (0 : Int32)), (.ref b_q6)])) rfl rfl (hb hby d2_81)
  have F_elements_a1__q16 := F_elements_a1__q13.other W_q16 (Or.inl ne_a1_b_q6)
  have F_pages_a1__q16 := F_pages_a1__q13.other W_q16 (Or.inl ne_a1_b_q6)
  have V_b_q13__q16 := V_b_q13.other W_q16 (Ne.symm ne_b_q6_b_q13)
  have V_b_q6__q16 : Arv Z h_q16 b_q6 k_q6 (.array (.object "java/lang/Object")) (2 : Int32) (own_R ((2 : Int32)).toNatClampNeg (own_up (fun _ => .null) ((0 : Int32)).toNatClampNeg (.ref b_q13))) .null := by rw [← own_R_set]; exact Arv.set Ar_q16 qk_q16 S_q16 Nn_q16 H_q16 G_q16 rfl W_q16 _ rfl (by rw [own_R_len]; exact lt_q16)
  have K_q16 : Keep h0 h_q16 [a1] := K_q13.wr W_q16 (Or.inr sz_b_q6)
  have N_q16 := Fr.snoc X_q16 N_q11 ge_b_q6
  obtain ⟨T_q17, X_q17, e_q17, st_q17⟩ := getF X_q16 hx hZ hown (host := "") (Or.inl (own_w hw 25 rfl)) Via.refl e_q16 F_pages_a1__q16 (g := (mkF m 55 #[.val (.ref a1), .val (.int p2), .val .null, .val (.int (1 : Int32))] [(.ref a1), (.int (1 : Int32))])) rfl rfl (hb hby d2_55)
  obtain ⟨cl_q18, Ar_q18, qk_q18, S_q18, Nn_q18, H_q18, G_q18⟩ := id V_b_q6__q16
  obtain ⟨T_q19, X_q19, e_q19, st_q19⟩ := getF X_q17 hx hZ hown (host := "") (Or.inl (own_w hw 25 rfl)) Via.refl e_q17 F_pages_a1__q16 (g := (mkF m 63 #[.val (.ref a1), .val (.int p2), .val .null, .val (.int (1 : Int32))] [(.ref a1)])) rfl rfl (hb hby d2_63)
  obtain ⟨_, _, ⟨T_q20, L_q20, k_q20, n_q20⟩, -, X_q20, ⟨Lc_q20, hQ_q20, l_q20, y_q20, z_q20⟩, st_q20⟩ := Jvm.LawKit.callS X_q19 hx (y := (⟨"java/lang/Math", "min", "(II)I"⟩ : MethodName)) hown (mvT hZ (own_w hw 52 rfl)) (mvT hZ (own_w hw 53 rfl)) (mvT hZ (own_w hw 54 rfl)) (mvT hZ (own_w hw 55 rfl)) (by decide) (backOf (W := 2) (rm8 l Z a0 hw [] (65536 : Int32) (p2 - (65536 : Int32)) h_q16 n0 (Nat.le_trans Z0 K_q16.1)) hZ (own_w hw 55 rfl) (own_w hw 54 rfl) (by decide) (by decide)) (g := (mkF m 75 #[.val (.ref a1), .val (.int p2), .val .null, .val (.int (1 : Int32))] [(.int (p2 - (65536 : Int32))), (.int (65536 : Int32)), (.int (1 : Int32)), (.ref b_q6)])) rfl (by rw [hml]; rfl) (argsL := [(.int (65536 : Int32)), (.int (p2 - (65536 : Int32)))]) (rest := [(.int (1 : Int32)), (.ref b_q6)]) (lenOf pd__II_I rfl) rfl (by show 2 * 0 + _ ≤ _; exact Nat.le_of_eq rfl) (hb hby d2_75) (fun _ _ => ⟨rfl, e_q19, (by decide : 2 + 0 ≤ _), (by decide : 65538 + 0 ≤ _)⟩)
  dsimp only [Pt.U, Pt.locs, Pt.cells, Pt.slots] at X_q20 l_q20 y_q20 z_q20 st_q20 hQ_q20
  subst l_q20 y_q20 z_q20
  obtain ⟨rfl, Nq_q20, eq_q20⟩ := hQ_q20
  have Kq_q20 : Keep h_q16 T_q20.heap [] := by rw [eq_q20]; exact Keep.refl _ _
  have N_q20 := Fr.app N_q16 Nq_q20
  have F_elements_a1__q20 := F_elements_a1__q16.keep Kq_q20 nin0
  have F_pages_a1__q20 := F_pages_a1__q16.keep Kq_q20 nin0
  have V_b_q6__q20 := V_b_q6__q16.keep Kq_q20 nin0
  have V_b_q13__q20 := V_b_q13__q16.keep Kq_q20 nin0
  have K_q20 : Keep h0 T_q20.heap [a1] := K_q16.trans Kq_q20 all0
  obtain ⟨T_q22, h_q22, k_q22, X_q22, e_q22, E_q22, A_q22, EX_q22, O_q22, st_q22⟩ := newRE X_q20 hx hZ hown (own_w hw 21 rfl) (own_w hw 22 rfl) rfl (g := (mkF m 78 #[.val (.ref a1), .val (.int p2), .val .null, .val (.int (1 : Int32))] [(.int z1), (.int (1 : Int32)), (.ref b_q6)])) rfl (hb hby d2_78) rfl hc_q23 (cap := 65536) hc_q24 (by decide) (by decide) (by decide) (ad := "[Ljava/lang/Object;") (by decide)
  obtain ⟨b_q22, g_q22⟩ : ∃ z, z = T_q20.heap.size := ⟨_, rfl⟩
  rw [← g_q22] at A_q22 EX_q22 st_q22
  have ne_b_q6_b_q22 : b_q6 ≠ b_q22 := Nat.ne_of_lt (Nat.lt_of_lt_of_le V_b_q6__q20.lt (Nat.le_of_eq g_q22.symm))
  have ne_b_q13_b_q22 : b_q13 ≠ b_q22 := Nat.ne_of_lt (Nat.lt_of_lt_of_le V_b_q13__q20.lt (Nat.le_of_eq g_q22.symm))
  have sz_b_q22 : h0.size ≤ b_q22 := Nat.le_trans K_q20.1 (Nat.le_of_eq g_q22.symm)
  have K_q22 : Keep h0 h_q22 [a1] := K_q20.ext E_q22
  have F_elements_a1__q22 := F_elements_a1__q20.ext E_q22
  have F_pages_a1__q22 := F_pages_a1__q20.ext E_q22
  have V_b_q6__q22 := V_b_q6__q20.ext E_q22
  have V_b_q13__q22 := V_b_q13__q20.ext E_q22
  have V_b_q22 : Arv Z h_q22 b_q22 k_q22 (.object "java/lang/Object") z1 (own_R (z1).toNatClampNeg (fun _ => .null)) .null := (Arv.new A_q22 hc_q23).pad (own_R_new _)
  obtain ⟨cl_q25, Ar_q25, qk_q25, S_q25, Nn_q25, H_q25, G_q25⟩ := id V_b_q6__q22
  have hin_q25 : ¬ ((1 : Int32) < 0 ∨ cl_q25.slots.size ≤ ((1 : Int32)).toNatClampNeg) := inb_of S_q25 ⟨by decide, by decide⟩
  have lt_q25 : ((1 : Int32)).toNatClampNeg < ((2 : Int32)).toNatClampNeg := by have q := Nat.lt_of_not_le fun q => hin_q25 (Or.inr q); rw [S_q25] at q; exact q
  obtain ⟨T_q25, h_q25, X_q25, e_q25, W_q25, st_q25⟩ := stR X_q22 hx hZ e_q22 Ar_q25 (j := (1 : Int32)) hin_q25 rfl (Sto.ofVA Ar_q25 qk_q25 O_q6 (Ins.self EX_q22)) (g := (mkF m 81 #[.val (.ref a1), .val (.int p2), .val .null, .val (.int (1 : Int32))] [(.ref b_q22), (.int (1 : Int32)), (.ref b_q6)])) rfl rfl (hb hby d2_81)
  have F_elements_a1__q25 := F_elements_a1__q22.other W_q25 (Or.inl ne_a1_b_q6)
  have F_pages_a1__q25 := F_pages_a1__q22.other W_q25 (Or.inl ne_a1_b_q6)
  have V_b_q13__q25 := V_b_q13__q22.other W_q25 (Ne.symm ne_b_q6_b_q13)
  have V_b_q22__q25 := V_b_q22.other W_q25 (Ne.symm ne_b_q6_b_q22)
  have V_b_q6__q25 : Arv Z h_q25 b_q6 k_q6 (.array (.object "java/lang/Object")) (2 : Int32) (own_R ((2 : Int32)).toNatClampNeg (own_up (own_up (fun _ => .null) ((0 : Int32)).toNatClampNeg (.ref b_q13)) ((1 : Int32)).toNatClampNeg (.ref b_q22))) .null := by rw [← own_R_set]; exact Arv.set Ar_q25 qk_q25 S_q25 Nn_q25 H_q25 G_q25 rfl W_q25 _ rfl (by rw [own_R_len]; exact lt_q25)
  have K_q25 : Keep h0 h_q25 [a1] := K_q22.wr W_q25 (Or.inr sz_b_q6)
  have N_q25 := Fr.snoc X_q25 N_q20 ge_b_q6
  obtain ⟨T_q26, X_q26, e_q26, st_q26⟩ := getF X_q25 hx hZ hown (host := "") (Or.inl (own_w hw 25 rfl)) Via.refl e_q25 F_pages_a1__q25 (g := (mkF m 55 #[.val (.ref a1), .val (.int p2), .val .null, .val (.int (2 : Int32))] [(.ref a1), (.int (2 : Int32))])) rfl rfl (hb hby d2_55)
  obtain ⟨cl_q27, Ar_q27, qk_q27, S_q27, Nn_q27, H_q27, G_q27⟩ := id V_b_q6__q25
  obtain ⟨fs, hr, hrun, hended, hW, hsame⟩ := X_q26.leave (v := none) (fun _ => rfl) Bd.notSynchronized
  refine ⟨_, _, pre0 _ ?_, hrun, hended, _, _, rfl, ?_, ⟨_, rfl⟩, hW, hsame.mono (by decide) (by decide)⟩
  · show Steps p.tables e below (s₁.setTop (mkF m 0 #[.val (.ref a1), .val (.int p2), .val .null, .unset] [])) _
    refine XS.aloadN X0.here hx rfl (hb hby d2_0) rfl rfl ?_
    show Steps p.tables e below (s₁.setTop (mkF m 1 #[.val (.ref a1), .val (.int p2), .val .null, .unset] [(.ref a1)])) _
    refine st_q2 _ ?_
    refine XS.aloadN X_q2.here hx rfl (hb hby d2_4) rfl rfl ?_
    refine XS.iloadN X_q2.here hx rfl (hb hby d2_5) rfl ?_
    show Steps p.tables e below (T_q2.setTop (mkF m 6 #[.val (.ref a1), .val (.int p2), .val .null, .unset] [(.int p2), (.ref a1)])) _
    refine st_q3 _ ?_
    refine XS.iloadN X_q3.here hx rfl (hb hby d2_9) rfl ?_
    show Steps p.tables e below (T_q3.setTop (mkF m 10 #[.val (.ref a1), .val (.int p2), .val .null, .unset] [(.int p2)])) _
    refine X_q3.ldcInt hx hown (mvT hZ (own_w hw 20 rfl)) (g := (mkF m 10 #[.val (.ref a1), .val (.int p2), .val .null, .unset] [(.int p2)])) rfl (hb hby d2_10) _ ?_
    refine XS.icmpYes X_q3.here hx rfl (pc0 := 12) (pc' := 31) rfl (hb hby d2_12) rfl (tlt hc_q4).2.2.1 (by decide) (by decide) ?_
    refine XS.aloadN X_q3.here hx rfl (hb hby d2_31) rfl rfl ?_
    refine XS.aconstNull X_q3.here hx rfl (hb hby d2_32) ?_
    show Steps p.tables e below (T_q3.setTop (mkF m 33 #[.val (.ref a1), .val (.int p2), .val .null, .unset] [.null, (.ref a1)])) _
    refine st_q5 _ ?_
    refine XS.aloadN X_q5.here hx rfl (hb hby d2_36) rfl rfl ?_
    refine XS.iloadN X_q5.here hx rfl (hb hby d2_37) rfl ?_
    refine XS.iconst X_q5.here hx rfl (hb hby d2_38) ?_
    show Steps p.tables e below (T_q5.setTop (mkF m 39 #[.val (.ref a1), .val (.int p2), .val .null, .unset] [(.int (1 : Int32)), (.int p2), (.ref a1)])) _
    refine XS.isub X_q5.here hx rfl (hb hby d2_39) rfl ?_
    refine XS.bipush X_q5.here hx rfl (hb hby d2_40) ?_
    refine XS.iushr X_q5.here hx rfl (hb hby d2_42) rfl ?_
    refine XS.iconst X_q5.here hx rfl (hb hby d2_43) ?_
    show Steps p.tables e below (T_q5.setTop (mkF m 44 #[.val (.ref a1), .val (.int p2), .val .null, .unset] [(.int (1 : Int32)), (.int (((p2 - (1 : Int32)).toUInt32 >>> ((16 : Int32) &&& 31).toUInt32).toInt32)), (.ref a1)])) _
    refine XS.iadd X_q5.here hx rfl (hb hby d2_44) rfl ?_
    show Steps p.tables e below (T_q5.setTop (mkF m 45 #[.val (.ref a1), .val (.int p2), .val .null, .unset] [(.int ((((p2 - (1 : Int32)).toUInt32 >>> ((16 : Int32) &&& 31).toUInt32).toInt32) + (1 : Int32))), (.ref a1)])) _
    rw [hc_q1]
    show Steps p.tables e below (T_q5.setTop (mkF m 45 #[.val (.ref a1), .val (.int p2), .val .null, .unset] [(.int (2 : Int32)), (.ref a1)])) _
    refine st_q6 _ ?_
    show Steps p.tables e below (T_q6.setTop (mkF m 48 #[.val (.ref a1), .val (.int p2), .val .null, .unset] [(.ref b_q6), (.ref a1)])) _
    refine st_q7 _ ?_
    refine XS.iconst X_q7.here hx rfl (hb hby d2_51) ?_
    refine XS.istoreN X_q7.here hx rfl (hb hby d2_52) rfl (l' := #[.val (.ref a1), .val (.int p2), .val .null, .val (.int (0 : Int32))]) rfl ?_
    refine XS.iloadN X_q7.here hx rfl (hb hby d2_53) rfl ?_
    show Steps p.tables e below (T_q7.setTop (mkF m 54 #[.val (.ref a1), .val (.int p2), .val .null, .val (.int (0 : Int32))] [(.int (0 : Int32))])) _
    refine XS.aloadN X_q7.here hx rfl (hb hby d2_54) rfl rfl ?_
    show Steps p.tables e below (T_q7.setTop (mkF m 55 #[.val (.ref a1), .val (.int p2), .val .null, .val (.int (0 : Int32))] [(.ref a1), (.int (0 : Int32))])) _
    refine st_q8 _ ?_
    show Steps p.tables e below (T_q8.setTop (mkF m 58 #[.val (.ref a1), .val (.int p2), .val .null, .val (.int (0 : Int32))] [(.ref b_q6), (.int (0 : Int32))])) _
    refine X_q8.arraylength hx (by rw [e_q8]; exact Ar_q9.1) (State.isArrayOf_alike hZ.alike Ar_q9.2.1) (g := (mkF m 58 #[.val (.ref a1), .val (.int p2), .val .null, .val (.int (0 : Int32))] [(.ref b_q6), (.int (0 : Int32))])) rfl rfl (hb hby d2_58) _ ?_
    rw [len_of S_q9 Nn_q9]
    refine XS.icmpNo X_q8.here hx rfl (hb hby d2_59) rfl (tlt (by decide : (0 : Int32) < (2 : Int32))).2.1 ?_
    refine XS.aloadN X_q8.here hx rfl (hb hby d2_62) rfl rfl ?_
    show Steps p.tables e below (T_q8.setTop (mkF m 63 #[.val (.ref a1), .val (.int p2), .val .null, .val (.int (0 : Int32))] [(.ref a1)])) _
    refine st_q10 _ ?_
    refine XS.iloadN X_q10.here hx rfl (hb hby d2_66) rfl ?_
    show Steps p.tables e below (T_q10.setTop (mkF m 67 #[.val (.ref a1), .val (.int p2), .val .null, .val (.int (0 : Int32))] [(.int (0 : Int32)), (.ref b_q6)])) _
    refine X_q10.ldcInt hx hown (mvT hZ (own_w hw 20 rfl)) (g := (mkF m 67 #[.val (.ref a1), .val (.int p2), .val .null, .val (.int (0 : Int32))] [(.int (0 : Int32)), (.ref b_q6)])) rfl (hb hby d2_67) _ ?_
    refine XS.iloadN X_q10.here hx rfl (hb hby d2_69) rfl ?_
    refine XS.iloadN X_q10.here hx rfl (hb hby d2_70) rfl ?_
    refine XS.bipush X_q10.here hx rfl (hb hby d2_71) ?_
    show Steps p.tables e below (T_q10.setTop (mkF m 73 #[.val (.ref a1), .val (.int p2), .val .null, .val (.int (0 : Int32))] [(.int (16 : Int32)), (.int (0 : Int32)), (.int p2), (.int (65536 : Int32)), (.int (0 : Int32)), (.ref b_q6)])) _
    refine XS.ishl X_q10.here hx rfl (hb hby d2_73) rfl ?_
    refine XS.isub X_q10.here hx rfl (hb hby d2_74) rfl ?_
    show Steps p.tables e below (T_q10.setTop (mkF m 75 #[.val (.ref a1), .val (.int p2), .val .null, .val (.int (0 : Int32))] [(.int (p2 - (0 : Int32))), (.int (65536 : Int32)), (.int (0 : Int32)), (.ref b_q6)])) _
    refine st_q11 _ ?_
    show Steps p.tables e below (T_q11.setTop (mkF m 78 #[.val (.ref a1), .val (.int p2), .val .null, .val (.int (0 : Int32))] [(.int (F8_0 (65536 : Int32) (p2 - (0 : Int32)))), (.int (0 : Int32)), (.ref b_q6)])) _
    rw [hc_q12]
    show Steps p.tables e below (T_q11.setTop (mkF m 78 #[.val (.ref a1), .val (.int p2), .val .null, .val (.int (0 : Int32))] [(.int z0), (.int (0 : Int32)), (.ref b_q6)])) _
    refine st_q13 _ ?_
    show Steps p.tables e below (T_q13.setTop (mkF m 81 #[.val (.ref a1), .val (.int p2), .val .null, .val (.int (0 : Int32))] [(.ref b_q13), (.int (0 : Int32)), (.ref b_q6)])) _
    refine st_q16 _ ?_
    refine XS.iinc X_q16.here hx rfl (hb hby d2_82) rfl (l' := #[.val (.ref a1), .val (.int p2), .val .null, .val (.int ((0 : Int32) + (1 : Int32)))]) rfl ?_
    refine XS.goto X_q16.here hx rfl (pc0 := 85) (pc' := 53) rfl (hb hby d2_85) (by decide) (by decide) ?_
    refine XS.iloadN X_q16.here hx rfl (hb hby d2_53) rfl ?_
    show Steps p.tables e below (T_q16.setTop (mkF m 54 #[.val (.ref a1), .val (.int p2), .val .null, .val (.int (1 : Int32))] [(.int (1 : Int32))])) _
    refine XS.aloadN X_q16.here hx rfl (hb hby d2_54) rfl rfl ?_
    show Steps p.tables e below (T_q16.setTop (mkF m 55 #[.val (.ref a1), .val (.int p2), .val .null, .val (.int (1 : Int32))] [(.ref a1), (.int (1 : Int32))])) _
    refine st_q17 _ ?_
    show Steps p.tables e below (T_q17.setTop (mkF m 58 #[.val (.ref a1), .val (.int p2), .val .null, .val (.int (1 : Int32))] [(.ref b_q6), (.int (1 : Int32))])) _
    refine X_q17.arraylength hx (by rw [e_q17]; exact Ar_q18.1) (State.isArrayOf_alike hZ.alike Ar_q18.2.1) (g := (mkF m 58 #[.val (.ref a1), .val (.int p2), .val .null, .val (.int (1 : Int32))] [(.ref b_q6), (.int (1 : Int32))])) rfl rfl (hb hby d2_58) _ ?_
    rw [len_of S_q18 Nn_q18]
    refine XS.icmpNo X_q17.here hx rfl (hb hby d2_59) rfl (tlt (by decide : (1 : Int32) < (2 : Int32))).2.1 ?_
    refine XS.aloadN X_q17.here hx rfl (hb hby d2_62) rfl rfl ?_
    show Steps p.tables e below (T_q17.setTop (mkF m 63 #[.val (.ref a1), .val (.int p2), .val .null, .val (.int (1 : Int32))] [(.ref a1)])) _
    refine st_q19 _ ?_
    refine XS.iloadN X_q19.here hx rfl (hb hby d2_66) rfl ?_
    show Steps p.tables e below (T_q19.setTop (mkF m 67 #[.val (.ref a1), .val (.int p2), .val .null, .val (.int (1 : Int32))] [(.int (1 : Int32)), (.ref b_q6)])) _
    refine X_q19.ldcInt hx hown (mvT hZ (own_w hw 20 rfl)) (g := (mkF m 67 #[.val (.ref a1), .val (.int p2), .val .null, .val (.int (1 : Int32))] [(.int (1 : Int32)), (.ref b_q6)])) rfl (hb hby d2_67) _ ?_
    refine XS.iloadN X_q19.here hx rfl (hb hby d2_69) rfl ?_
    refine XS.iloadN X_q19.here hx rfl (hb hby d2_70) rfl ?_
    refine XS.bipush X_q19.here hx rfl (hb hby d2_71) ?_
    show Steps p.tables e below (T_q19.setTop (mkF m 73 #[.val (.ref a1), .val (.int p2), .val .null, .val (.int (1 : Int32))] [(.int (16 : Int32)), (.int (1 : Int32)), (.int p2), (.int (65536 : Int32)), (.int (1 : Int32)), (.ref b_q6)])) _
    refine XS.ishl X_q19.here hx rfl (hb hby d2_73) rfl ?_
    refine XS.isub X_q19.here hx rfl (hb hby d2_74) rfl ?_
    show Steps p.tables e below (T_q19.setTop (mkF m 75 #[.val (.ref a1), .val (.int p2), .val .null, .val (.int (1 : Int32))] [(.int (p2 - (65536 : Int32))), (.int (65536 : Int32)), (.int (1 : Int32)), (.ref b_q6)])) _
    refine st_q20 _ ?_
    show Steps p.tables e below (T_q20.setTop (mkF m 78 #[.val (.ref a1), .val (.int p2), .val .null, .val (.int (1 : Int32))] [(.int (F8_0 (65536 : Int32) (p2 - (65536 : Int32)))), (.int (1 : Int32)), (.ref b_q6)])) _
    rw [hc_q21]
    show Steps p.tables e below (T_q20.setTop (mkF m 78 #[.val (.ref a1), .val (.int p2), .val .null, .val (.int (1 : Int32))] [(.int z1), (.int (1 : Int32)), (.ref b_q6)])) _
    refine st_q22 _ ?_
    show Steps p.tables e below (T_q22.setTop (mkF m 81 #[.val (.ref a1), .val (.int p2), .val .null, .val (.int (1 : Int32))] [(.ref b_q22), (.int (1 : Int32)), (.ref b_q6)])) _
    refine st_q25 _ ?_
    refine XS.iinc X_q25.here hx rfl (hb hby d2_82) rfl (l' := #[.val (.ref a1), .val (.int p2), .val .null, .val (.int ((1 : Int32) + (1 : Int32)))]) rfl ?_
    refine XS.goto X_q25.here hx rfl (pc0 := 85) (pc' := 53) rfl (hb hby d2_85) (by decide) (by decide) ?_
    refine XS.iloadN X_q25.here hx rfl (hb hby d2_53) rfl ?_
    show Steps p.tables e below (T_q25.setTop (mkF m 54 #[.val (.ref a1), .val (.int p2), .val .null, .val (.int (2 : Int32))] [(.int (2 : Int32))])) _
    refine XS.aloadN X_q25.here hx rfl (hb hby d2_54) rfl rfl ?_
    show Steps p.tables e below (T_q25.setTop (mkF m 55 #[.val (.ref a1), .val (.int p2), .val .null, .val (.int (2 : Int32))] [(.ref a1), (.int (2 : Int32))])) _
    refine st_q26 _ ?_
    show Steps p.tables e below (T_q26.setTop (mkF m 58 #[.val (.ref a1), .val (.int p2), .val .null, .val (.int (2 : Int32))] [(.ref b_q6), (.int (2 : Int32))])) _
    refine X_q26.arraylength hx (by rw [e_q26]; exact Ar_q27.1) (State.isArrayOf_alike hZ.alike Ar_q27.2.1) (g := (mkF m 58 #[.val (.ref a1), .val (.int p2), .val .null, .val (.int (2 : Int32))] [(.ref b_q6), (.int (2 : Int32))])) rfl rfl (hb hby d2_58) _ ?_
    rw [len_of S_q27 Nn_q27]
    refine XS.icmpYes X_q26.here hx rfl (pc0 := 59) (pc' := 88) rfl (hb hby d2_59) rfl (flt (by decide : ¬ ((2 : Int32) < (2 : Int32)))).2.1 (by decide) (by decide) ?_
    refine XS.aloadN X_q26.here hx rfl (hb hby d2_88) rfl rfl ?_
    refine XS.ifnullYes X_q26.here hx rfl (pc0 := 89) (pc' := 116) rfl (hb hby d2_89) rfl (by decide) (by decide) ?_
    show Steps p.tables e below (T_q26.setTop (mkF m 116 #[.val (.ref a1), .val (.int p2), .val .null, .val (.int (2 : Int32))] [])) _
    exact X_q26.returnOut hx Bd.returns (hb hby d2_116) hr
  · show Q_rmIP2n Z a1 p2 z0 z1 h0 n0 _ T_q26.heap _
    rw [e_q26]
    exact ⟨b_q6, k_q6, b_q13, k_q13, b_q22, k_q22, rfl, N_q25, K_q25, sz_b_q6, sz_b_q13, sz_b_q22, ne_b_q6_b_q13, ne_b_q6_b_q22, ne_b_q13_b_q22, F_elements_a1__q25, F_pages_a1__q25, V_b_q6__q25, V_b_q13__q25, O_q13, V_b_q22__q25, O_q22⟩
def Q_rmIP2r (Z : State) (a1 y : Addr) (p2 z0 z1 : Int32) (h0 : Heap) (n0 : Nat) (v : Option Value) (h : Heap) (L : List Loc) : Prop := ∃ (r0 : Addr) (kr0 : ClassId) (r1 : Addr) (kr1 : ClassId) (r2 : Addr) (kr2 : ClassId), v = none ∧ Fr n0 L ∧ Keep h0 h [a1] ∧ h0.size ≤ r0 ∧ h0.size ≤ r1 ∧ h0.size ≤ r2 ∧ r0 ≠ r1 ∧ r0 ≠ r2 ∧ r1 ≠ r2 ∧ Fld Z h a1 "com/example/hashwright/hashwright/table/PagedArray" "elements" "[Ljava/lang/Object;" .null ∧ Fld Z h a1 "com/example/hashwright/hashwright/table/PagedArray" "pages" "[[Ljava/lang/Object;" (.ref r0) ∧ Arv Z h r0 kr0 (.array (.object "java/lang/Object")) (2 : Int32) (own_R ((2 : Int32)).toNatClampNeg (own_up (own_up (fun _ => .null) ((0 : Int32)).toNatClampNeg (.ref r1)) ((1 : Int32)).toNatClampNeg (.ref r2))) .null ∧ Arv Z h r1 kr1 (.object "java/lang/Object") z0 (own_R (z0).toNatClampNeg (fun _ => .ref y)) .null ∧ Ovr Z kr1 "java/lang/Object" ∧ Arv Z h r2 kr2 (.object "java/lang/Object") z1 (own_R (z1).toNatClampNeg (fun _ => .ref y)) .null ∧ Ovr Z kr2 "java/lang/Object"
set_option maxRecDepth 65536 in
set_option maxHeartbeats 40000000 in
theorem rmIP2r (l : Launch) (Z : State) (a0 : Array Value) (hw : ∀ d ∈ tables_1, d.before a0 Z = true) (ws : List Jvm.Cond) (a1 y : Addr) (p2 z0 z1 : Int32) (h0 : Heap) (n0 : Nat) (Z0 : n0 ≤ h0.size) (EX_a1 : Exa Z h0 a1 "com/example/hashwright/hashwright/table/PagedArray") (F_length_a1 : Fld Z h0 a1 "com/example/hashwright/hashwright/table/PagedArray" "length" "I" (.int (0 : Int32))) (F_elements_a1 : Fld Z h0 a1 "com/example/hashwright/hashwright/table/PagedArray" "elements" "[Ljava/lang/Object;" .null) (F_pages_a1 : Fld Z h0 a1 "com/example/hashwright/hashwright/table/PagedArray" "pages" "[[Ljava/lang/Object;" .null) (EX_y : Exa Z h0 y "java/lang/Integer") (ne_y_a1 : y ≠ a1) (ge_a1 : n0 ≤ a1) (hc_q1 : ((((p2 - (1 : Int32)).toUInt32 >>> ((16 : Int32) &&& 31).toUInt32).toInt32) + (1 : Int32)) = (2 : Int32)) (hc_q4 : (65536 : Int32) < p2) (hc_q12 : (F8_0 (65536 : Int32) (p2 - (0 : Int32))) = z0) (hc_q14 : ¬ (z0) < 0) (hc_q15 : (z0).toNatClampNeg ≤ 65536) (hc_q21 : (F8_0 (65536 : Int32) (p2 - (65536 : Int32))) = z1) (hc_q23 : ¬ (z1) < 0) (hc_q24 : (z1).toNatClampNeg ≤ 65536) (hc_q28 : (0 : Int32) < p2) (hc_q33 : ¬ ((131072 : Int32) < p2)) :
    MetFree l (⟨"com/example/hashwright/hashwright/table/PagedArray", "<init>", "(ILjava/lang/Object;)V"⟩ : MethodName) (head1 (Jvm.Cond.code (⟨"com/example/hashwright/hashwright/table/PagedArray", "<init>", "(ILjava/lang/Object;)V"⟩ : MethodName) prog_72_method_2_code 4 none :: ws) ({ frames := 1, cells := 4, slots := 196611, locals := 60 } : Room)) (fun a U => a = #[(.ref a1), (.int p2), (.ref y)] ∧ Z.Warmed39 U.vm ∧ U.heap = h0) (fun _ _ _ _ _ => True) (fun _ U o U' => ∃ v L, o = .returned v ∧ Q_rmIP2r Z a1 y p2 z0 z1 h0 n0 v U'.heap L ∧ FrameEnd U o U' L ({ frames := 1, cells := 4, slots := 196611, locals := 60 } : Room).cells ({ frames := 1, cells := 4, slots := 196611, locals := 60 } : Room).slots) := by
  refine MetFree.of_bodySF (plainFor_of_name pn_2) hisR ?_
  intro p e s m args below meth c s₁ Bd hml0 hP hK
  obtain ⟨rfl, hZ, hh⟩ := hP
  have hx := Bd.exec
  have hby := Bd.bytes
  have hml : c.maxLocals = 4 := hml0
  have hown : s.vm.findClass "com/example/hashwright/hashwright/table/PagedArray" = some m.cls := findClass_of_methodNamed Bd.named
  have hnm := (name_of_methodNamed Bd.named Bd.method).1
  have X0 : Stand p l e ({ frames := 1, cells := 4, slots := 196611, locals := 60 } : Room) s m #[(.ref a1), (.int p2), (.ref y)] below meth c s₁ [] 0 0 := Stand.of_body Bd
  have e0 : s₁.heap = h0 := by rw [← hh, Bd.state]; rfl
  have N0 := Fr.nil n0
  have pre0 : ∀ t, Steps p.tables e below (s₁.setTop (mkF m 0 #[.val (.ref a1), .val (.int p2), .val (.ref y), .unset] [])) t → Steps p.tables e below (s₁.setTop (entryFrame m #[(.ref a1), (.int p2), (.ref y)] 4)) t := fun t k => castTop (ef_2 m a1 p2 y) k
  have K0 : Keep h0 h0 [a1] := Keep.refl _ _
  obtain ⟨T_q2, X_q2, e_q2, st_q2⟩ := initO X0 hx hZ hown (own_w hw 15 rfl) (own_w hw 16 rfl) (own_w hw 17 rfl) e0 (g := (mkF m 1 #[.val (.ref a1), .val (.int p2), .val (.ref y), .unset] [(.ref a1)])) rfl (by rw [hml]; rfl) rfl (hb hby d2_1) (by decide) (W := 0) (by show 2 * 0 + _ ≤ _; exact Nat.le_of_eq rfl) (by decide)
  obtain ⟨T_q3, h_q3, X_q3, e_q3, W_q3, st_q3⟩ := putF X_q2 hx hZ hown (host := "") (Or.inl (own_w hw 18 rfl)) Via.refl e_q2 F_length_a1 EX_a1 (Or.inr ⟨(own_w hw 19 rfl), rfl, hnm⟩) (own_w hw 10 rfl) (ty := .int) (by decide) rfl rfl (g := (mkF m 6 #[.val (.ref a1), .val (.int p2), .val (.ref y), .unset] [(.int p2), (.ref a1)])) rfl rfl (hb hby d2_6)
  have EX_a1__q3 := EX_a1.wr W_q3
  have F_elements_a1__q3 := F_elements_a1.other W_q3 (Or.inr (slot_ne (Or.inr (own_w hw 24 rfl)) (Or.inr (own_w hw 19 rfl)) (by decide) (t := (.array (.object "java/lang/Object"))) (t' := .int) (by decide) (by decide)))
  have F_pages_a1__q3 := F_pages_a1.other W_q3 (Or.inr (slot_ne (Or.inr (own_w hw 26 rfl)) (Or.inr (own_w hw 19 rfl)) (by decide) (t := (.array (.array (.object "java/lang/Object")))) (t' := .int) (by decide) (by decide)))
  have EX_y__q3 := EX_y.wr W_q3
  have K_q3 : Keep h0 h_q3 [a1] := K0.wr W_q3 (Or.inl (List.mem_of_getElem? (i := 0) rfl))
  have N_q3 := Fr.snoc X_q3 N0 ge_a1
  obtain ⟨T_q5, h_q5, X_q5, e_q5, W_q5, st_q5⟩ := putF X_q3 hx hZ hown (host := "") (Or.inl (own_w hw 23 rfl)) Via.refl e_q3 F_elements_a1__q3 EX_a1__q3 (Or.inr ⟨(own_w hw 24 rfl), rfl, hnm⟩) (own_w hw 10 rfl) (ty := (.array (.object "java/lang/Object"))) (by decide) rfl rfl (g := (mkF m 33 #[.val (.ref a1), .val (.int p2), .val (.ref y), .unset] [.null, (.ref a1)])) rfl rfl (hb hby d2_33)
  have EX_a1__q5 := EX_a1__q3.wr W_q5
  have F_pages_a1__q5 := F_pages_a1__q3.other W_q5 (Or.inr (slot_ne (Or.inr (own_w hw 26 rfl)) (Or.inr (own_w hw 24 rfl)) (by decide) (t := (.array (.array (.object "java/lang/Object")))) (t' := (.array (.object "java/lang/Object"))) (by decide) (by decide)))
  have EX_y__q5 := EX_y__q3.wr W_q5
  have F_elements_a1__q5 := F_elements_a1__q3.same W_q5
  have K_q5 : Keep h0 h_q5 [a1] := K_q3.wr W_q5 (Or.inl (List.mem_of_getElem? (i := 0) rfl))
  have N_q5 := Fr.snoc X_q5 N_q3 ge_a1
  obtain ⟨T_q6, h_q6, k_q6, X_q6, e_q6, E_q6, A_q6, EX_q6, O_q6, st_q6⟩ := newRA X_q5 hx hZ hown (ty := .object "java/lang/Object") (by decide) (own_w hw 50 rfl) (own_w hw 51 rfl) e_q5 (g := (mkF m 45 #[.val (.ref a1), .val (.int p2), .val (.ref y), .unset] [(.int (2 : Int32)), (.ref a1)])) rfl (hb hby d2_45) rfl (by decide) (cap := 2) (by decide) (by decide) (by decide) (by decide) (ad := "[[Ljava/lang/Object;") (by decide)
  obtain ⟨b_q6, g_q6⟩ : ∃ z, z = h_q5.size := ⟨_, rfl⟩
  rw [← g_q6] at A_q6 EX_q6 st_q6
  have ne_a1_b_q6 : a1 ≠ b_q6 := Nat.ne_of_lt (Nat.lt_of_lt_of_le EX_a1__q5.lt (Nat.le_of_eq g_q6.symm))
  have ge_b_q6 : n0 ≤ b_q6 := Nat.le_trans (Nat.le_trans Z0 K_q5.1) (Nat.le_of_eq g_q6.symm)
  have sz_b_q6 : h0.size ≤ b_q6 := Nat.le_trans K_q5.1 (Nat.le_of_eq g_q6.symm)
  have K_q6 : Keep h0 h_q6 [a1] := K_q5.ext E_q6
  have EX_a1__q6 := EX_a1__q5.ext E_q6
  have F_elements_a1__q6 := F_elements_a1__q5.ext E_q6
  have F_pages_a1__q6 := F_pages_a1__q5.ext E_q6
  have EX_y__q6 := EX_y__q5.ext E_q6
  have V_b_q6 : Arv Z h_q6 b_q6 k_q6 (.array (.object "java/lang/Object")) (2 : Int32) (own_R ((2 : Int32)).toNatClampNeg (fun _ => .null)) .null := (Arv.new A_q6 (by decide)).pad (own_R_new _)
  obtain ⟨T_q7, h_q7, X_q7, e_q7, W_q7, st_q7⟩ := putF X_q6 hx hZ hown (host := "") (Or.inl (own_w hw 25 rfl)) Via.refl e_q6 F_pages_a1__q6 EX_a1__q6 (Or.inr ⟨(own_w hw 26 rfl), rfl, hnm⟩) (own_w hw 10 rfl) (ty := (.array (.array (.object "java/lang/Object")))) (by decide) rfl rfl (g := (mkF m 48 #[.val (.ref a1), .val (.int p2), .val (.ref y), .unset] [(.ref b_q6), (.ref a1)])) rfl rfl (hb hby d2_48)
  have EX_a1__q7 := EX_a1__q6.wr W_q7
  have F_elements_a1__q7 := F_elements_a1__q6.other W_q7 (Or.inr (slot_ne (Or.inr (own_w hw 24 rfl)) (Or.inr (own_w hw 26 rfl)) (by decide) (t := (.array (.object "java/lang/Object"))) (t' := (.array (.array (.object "java/lang/Object")))) (by decide) (by decide)))
  have EX_y__q7 := EX_y__q6.wr W_q7
  have V_b_q6__q7 := V_b_q6.other W_q7 (Ne.symm ne_a1_b_q6)
  have F_pages_a1__q7 := F_pages_a1__q6.same W_q7
  have K_q7 : Keep h0 h_q7 [a1] := K_q6.wr W_q7 (Or.inl (List.mem_of_getElem? (i := 0) rfl))
  have N_q7 := Fr.snoc X_q7 N_q5 ge_a1
  obtain ⟨T_q8, X_q8, e_q8, st_q8⟩ := getF X_q7 hx hZ hown (host := "") (Or.inl (own_w hw 25 rfl)) Via.refl e_q7 F_pages_a1__q7 (g := (mkF m 55 #[.val (.ref a1), .val (.int p2), .val (.ref y), .val (.int (0 : Int32))] [(.ref a1), (.int (0 : Int32))])) rfl rfl (hb hby d2_55)
  obtain ⟨cl_q9, Ar_q9, qk_q9, S_q9, Nn_q9, H_q9, G_q9⟩ := id V_b_q6__q7
  obtain ⟨T_q10, X_q10, e_q10, st_q10⟩ := getF X_q8 hx hZ hown (host := "") (Or.inl (own_w hw 25 rfl)) Via.refl e_q8 F_pages_a1__q7 (g := (mkF m 63 #[.val (.ref a1), .val (.int p2), .val (.ref y), .val (.int (0 : Int32))] [(.ref a1)])) rfl rfl (hb hby d2_63)
  obtain ⟨_, _, ⟨T_q11, L_q11, k_q11, n_q11⟩, -, X_q11, ⟨Lc_q11, hQ_q11, l_q11, y_q11, z_q11⟩, st_q11⟩ := Jvm.LawKit.callS X_q10 hx (y := (⟨"java/lang/Math", "min", "(II)I"⟩ : MethodName)) hown (mvT hZ (own_w hw 52 rfl)) (mvT hZ (own_w hw 53 rfl)) (mvT hZ (own_w hw 54 rfl)) (mvT hZ (own_w hw 55 rfl)) (by decide) (backOf (W := 2) (rm8 l Z a0 hw [] (65536 : Int32) (p2 - (0 : Int32)) h_q7 n0 (Nat.le_trans Z0 K_q7.1)) hZ (own_w hw 55 rfl) (own_w hw 54 rfl) (by decide) (by decide)) (g := (mkF m 75 #[.val (.ref a1), .val (.int p2), .val (.ref y), .val (.int (0 : Int32))] [(.int (p2 - (0 : Int32))), (.int (65536 : Int32)), (.int (0 : Int32)), (.ref b_q6)])) rfl (by rw [hml]; rfl) (argsL := [(.int (65536 : Int32)), (.int (p2 - (0 : Int32)))]) (rest := [(.int (0 : Int32)), (.ref b_q6)]) (lenOf pd__II_I rfl) rfl (by show 2 * 0 + _ ≤ _; exact Nat.le_of_eq rfl) (hb hby d2_75) (fun _ _ => ⟨rfl, e_q10, (by decide : 1 + 0 ≤ _), (by decide : 2 + 0 ≤ _)⟩)
  dsimp only [Pt.U, Pt.locs, Pt.cells, Pt.slots] at X_q11 l_q11 y_q11 z_q11 st_q11 hQ_q11
  subst l_q11 y_q11 z_q11
  obtain ⟨rfl, Nq_q11, eq_q11⟩ := hQ_q11
  have Kq_q11 : Keep h_q7 T_q11.heap [] := by rw [eq_q11]; exact Keep.refl _ _
  have N_q11 := Fr.app N_q7 Nq_q11
  have EX_a1__q11 := EX_a1__q7.keep Kq_q11
  have F_elements_a1__q11 := F_elements_a1__q7.keep Kq_q11 nin0
  have F_pages_a1__q11 := F_pages_a1__q7.keep Kq_q11 nin0
  have EX_y__q11 := EX_y__q7.keep Kq_q11
  have V_b_q6__q11 := V_b_q6__q7.keep Kq_q11 nin0
  have K_q11 : Keep h0 T_q11.heap [a1] := K_q7.trans Kq_q11 all0
  obtain ⟨T_q13, h_q13, k_q13, X_q13, e_q13, E_q13, A_q13, EX_q13, O_q13, st_q13⟩ := newRE X_q11 hx hZ hown (own_w hw 21 rfl) (own_w hw 22 rfl) rfl (g := (mkF m 78 #[.val (.ref a1), .val (.int p2), .val (.ref y), .val (.int (0 : Int32))] [(.int z0), (.int (0 : Int32)), (.ref b_q6)])) rfl (hb hby d2_78) rfl hc_q14 (cap := 65536) hc_q15 (by decide) (by decide) (by decide) (ad := "[Ljava/lang/Object;") (by decide)
  obtain ⟨b_q13, g_q13⟩ : ∃ z, z = T_q11.heap.size := ⟨_, rfl⟩
  rw [← g_q13] at A_q13 EX_q13 st_q13
  have ne_a1_b_q13 : a1 ≠ b_q13 := Nat.ne_of_lt (Nat.lt_of_lt_of_le EX_a1__q11.lt (Nat.le_of_eq g_q13.symm))
  have ne_b_q6_b_q13 : b_q6 ≠ b_q13 := Nat.ne_of_lt (Nat.lt_of_lt_of_le V_b_q6__q11.lt (Nat.le_of_eq g_q13.symm))
  have ge_b_q13 : n0 ≤ b_q13 := Nat.le_trans (Nat.le_trans Z0 K_q11.1) (Nat.le_of_eq g_q13.symm)
  have sz_b_q13 : h0.size ≤ b_q13 := Nat.le_trans K_q11.1 (Nat.le_of_eq g_q13.symm)
  have K_q13 : Keep h0 h_q13 [a1] := K_q11.ext E_q13
  have EX_a1__q13 := EX_a1__q11.ext E_q13
  have F_elements_a1__q13 := F_elements_a1__q11.ext E_q13
  have F_pages_a1__q13 := F_pages_a1__q11.ext E_q13
  have EX_y__q13 := EX_y__q11.ext E_q13
  have V_b_q6__q13 := V_b_q6__q11.ext E_q13
  have V_b_q13 : Arv Z h_q13 b_q13 k_q13 (.object "java/lang/Object") z0 (own_R (z0).toNatClampNeg (fun _ => .null)) .null := (Arv.new A_q13 hc_q14).pad (own_R_new _)
  obtain ⟨cl_q16, Ar_q16, qk_q16, S_q16, Nn_q16, H_q16, G_q16⟩ := id V_b_q6__q13
  have hin_q16 : ¬ ((0 : Int32) < 0 ∨ cl_q16.slots.size ≤ ((0 : Int32)).toNatClampNeg) := inb_of S_q16 ⟨by decide, by decide⟩
  have lt_q16 : ((0 : Int32)).toNatClampNeg < ((2 : Int32)).toNatClampNeg := by have q := Nat.lt_of_not_le fun q => hin_q16 (Or.inr q); rw [S_q16] at q; exact q
  obtain ⟨T_q16, h_q16, X_q16, e_q16, W_q16, st_q16⟩ := stR X_q13 hx hZ e_q13 Ar_q16 (j := (0 : Int32)) hin_q16 rfl (Sto.ofVA Ar_q16 qk_q16 O_q6 (Ins.self EX_q13)) (g := (mkF m 81 #[.val (.ref a1), .val (.int p2), .val (.ref y), .val (.int (0 : Int32))] [(.ref b_q13), (.int (0 : Int32)), (.ref b_q6)])) rfl rfl (hb hby d2_81)
  have EX_a1__q16 := EX_a1__q13.wr W_q16
  have F_elements_a1__q16 := F_elements_a1__q13.other W_q16 (Or.inl ne_a1_b_q6)
  have F_pages_a1__q16 := F_pages_a1__q13.other W_q16 (Or.inl ne_a1_b_q6)
  have EX_y__q16 := EX_y__q13.wr W_q16
  have V_b_q13__q16 := V_b_q13.other W_q16 (Ne.symm ne_b_q6_b_q13)
  have V_b_q6__q16 : Arv Z h_q16 b_q6 k_q6 (.array (.object "java/lang/Object")) (2 : Int32) (own_R ((2 : Int32)).toNatClampNeg (own_up (fun _ => .null) ((0 : Int32)).toNatClampNeg (.ref b_q13))) .null := by rw [← own_R_set]; exact Arv.set Ar_q16 qk_q16 S_q16 Nn_q16 H_q16 G_q16 rfl W_q16 _ rfl (by rw [own_R_len]; exact lt_q16)
  have K_q16 : Keep h0 h_q16 [a1] := K_q13.wr W_q16 (Or.inr sz_b_q6)
  have N_q16 := Fr.snoc X_q16 N_q11 ge_b_q6
  obtain ⟨T_q17, X_q17, e_q17, st_q17⟩ := getF X_q16 hx hZ hown (host := "") (Or.inl (own_w hw 25 rfl)) Via.refl e_q16 F_pages_a1__q16 (g := (mkF m 55 #[.val (.ref a1), .val (.int p2), .val (.ref y), .val (.int (1 : Int32))] [(.ref a1), (.int (1 : Int32))])) rfl rfl (hb hby d2_55)
  obtain ⟨cl_q18, Ar_q18, qk_q18, S_q18, Nn_q18, H_q18, G_q18⟩ := id V_b_q6__q16
  obtain ⟨T_q19, X_q19, e_q19, st_q19⟩ := getF X_q17 hx hZ hown (host := "") (Or.inl (own_w hw 25 rfl)) Via.refl e_q17 F_pages_a1__q16 (g := (mkF m 63 #[.val (.ref a1), .val (.int p2), .val (.ref y), .val (.int (1 : Int32))] [(.ref a1)])) rfl rfl (hb hby d2_63)
  obtain ⟨_, _, ⟨T_q20, L_q20, k_q20, n_q20⟩, -, X_q20, ⟨Lc_q20, hQ_q20, l_q20, y_q20, z_q20⟩, st_q20⟩ := Jvm.LawKit.callS X_q19 hx (y := (⟨"java/lang/Math", "min", "(II)I"⟩ : MethodName)) hown (mvT hZ (own_w hw 52 rfl)) (mvT hZ (own_w hw 53 rfl)) (mvT hZ (own_w hw 54 rfl)) (mvT hZ (own_w hw 55 rfl)) (by decide) (backOf (W := 2) (rm8 l Z a0 hw [] (65536 : Int32) (p2 - (65536 : Int32)) h_q16 n0 (Nat.le_trans Z0 K_q16.1)) hZ (own_w hw 55 rfl) (own_w hw 54 rfl) (by decide) (by decide)) (g := (mkF m 75 #[.val (.ref a1), .val (.int p2), .val (.ref y), .val (.int (1 : Int32))] [(.int (p2 - (65536 : Int32))), (.int (65536 : Int32)), (.int (1 : Int32)), (.ref b_q6)])) rfl (by rw [hml]; rfl) (argsL := [(.int (65536 : Int32)), (.int (p2 - (65536 : Int32)))]) (rest := [(.int (1 : Int32)), (.ref b_q6)]) (lenOf pd__II_I rfl) rfl (by show 2 * 0 + _ ≤ _; exact Nat.le_of_eq rfl) (hb hby d2_75) (fun _ _ => ⟨rfl, e_q19, (by decide : 2 + 0 ≤ _), (by decide : 65538 + 0 ≤ _)⟩)
  dsimp only [Pt.U, Pt.locs, Pt.cells, Pt.slots] at X_q20 l_q20 y_q20 z_q20 st_q20 hQ_q20
  subst l_q20 y_q20 z_q20
  obtain ⟨rfl, Nq_q20, eq_q20⟩ := hQ_q20
  have Kq_q20 : Keep h_q16 T_q20.heap [] := by rw [eq_q20]; exact Keep.refl _ _
  have N_q20 := Fr.app N_q16 Nq_q20
  have EX_a1__q20 := EX_a1__q16.keep Kq_q20
  have F_elements_a1__q20 := F_elements_a1__q16.keep Kq_q20 nin0
  have F_pages_a1__q20 := F_pages_a1__q16.keep Kq_q20 nin0
  have EX_y__q20 := EX_y__q16.keep Kq_q20
  have V_b_q6__q20 := V_b_q6__q16.keep Kq_q20 nin0
  have V_b_q13__q20 := V_b_q13__q16.keep Kq_q20 nin0
  have K_q20 : Keep h0 T_q20.heap [a1] := K_q16.trans Kq_q20 all0
  obtain ⟨T_q22, h_q22, k_q22, X_q22, e_q22, E_q22, A_q22, EX_q22, O_q22, st_q22⟩ := newRE X_q20 hx hZ hown (own_w hw 21 rfl) (own_w hw 22 rfl) rfl (g := (mkF m 78 #[.val (.ref a1), .val (.int p2), .val (.ref y), .val (.int (1 : Int32))] [(.int z1), (.int (1 : Int32)), (.ref b_q6)])) rfl (hb hby d2_78) rfl hc_q23 (cap := 65536) hc_q24 (by decide) (by decide) (by decide) (ad := "[Ljava/lang/Object;") (by decide)
  obtain ⟨b_q22, g_q22⟩ : ∃ z, z = T_q20.heap.size := ⟨_, rfl⟩
  rw [← g_q22] at A_q22 EX_q22 st_q22
  have ne_a1_b_q22 : a1 ≠ b_q22 := Nat.ne_of_lt (Nat.lt_of_lt_of_le EX_a1__q20.lt (Nat.le_of_eq g_q22.symm))
  have ne_b_q6_b_q22 : b_q6 ≠ b_q22 := Nat.ne_of_lt (Nat.lt_of_lt_of_le V_b_q6__q20.lt (Nat.le_of_eq g_q22.symm))
  have ne_b_q13_b_q22 : b_q13 ≠ b_q22 := Nat.ne_of_lt (Nat.lt_of_lt_of_le V_b_q13__q20.lt (Nat.le_of_eq g_q22.symm))
  have ge_b_q22 : n0 ≤ b_q22 := Nat.le_trans (Nat.le_trans Z0 K_q20.1) (Nat.le_of_eq g_q22.symm)
  have sz_b_q22 : h0.size ≤ b_q22 := Nat.le_trans K_q20.1 (Nat.le_of_eq g_q22.symm)
  have K_q22 : Keep h0 h_q22 [a1] := K_q20.ext E_q22
  have EX_a1__q22 := EX_a1__q20.ext E_q22
  have F_elements_a1__q22 := F_elements_a1__q20.ext E_q22
  have F_pages_a1__q22 := F_pages_a1__q20.ext E_q22
  have EX_y__q22 := EX_y__q20.ext E_q22
  have V_b_q6__q22 := V_b_q6__q20.ext E_q22
  have V_b_q13__q22 := V_b_q13__q20.ext E_q22
  have V_b_q22 : Arv Z h_q22 b_q22 k_q22 (.object "java/lang/Object") z1 (own_R (z1).toNatClampNeg (fun _ => .null)) .null := (Arv.new A_q22 hc_q23).pad (own_R_new _)
  obtain ⟨cl_q25, Ar_q25, qk_q25, S_q25, Nn_q25, H_q25, G_q25⟩ := id V_b_q6__q22
  have hin_q25 : ¬ ((1 : Int32) < 0 ∨ cl_q25.slots.size ≤ ((1 : Int32)).toNatClampNeg) := inb_of S_q25 ⟨by decide, by decide⟩
  have lt_q25 : ((1 : Int32)).toNatClampNeg < ((2 : Int32)).toNatClampNeg := by have q := Nat.lt_of_not_le fun q => hin_q25 (Or.inr q); rw [S_q25] at q; exact q
  obtain ⟨T_q25, h_q25, X_q25, e_q25, W_q25, st_q25⟩ := stR X_q22 hx hZ e_q22 Ar_q25 (j := (1 : Int32)) hin_q25 rfl (Sto.ofVA Ar_q25 qk_q25 O_q6 (Ins.self EX_q22)) (g := (mkF m 81 #[.val (.ref a1), .val (.int p2), .val (.ref y), .val (.int (1 : Int32))] [(.ref b_q22), (.int (1 : Int32)), (.ref b_q6)])) rfl rfl (hb hby d2_81)
  have EX_a1__q25 := EX_a1__q22.wr W_q25
  have F_elements_a1__q25 := F_elements_a1__q22.other W_q25 (Or.inl ne_a1_b_q6)
  have F_pages_a1__q25 := F_pages_a1__q22.other W_q25 (Or.inl ne_a1_b_q6)
  have EX_y__q25 := EX_y__q22.wr W_q25
  have V_b_q13__q25 := V_b_q13__q22.other W_q25 (Ne.symm ne_b_q6_b_q13)
  have V_b_q22__q25 := V_b_q22.other W_q25 (Ne.symm ne_b_q6_b_q22)
  have V_b_q6__q25 : Arv Z h_q25 b_q6 k_q6 (.array (.object "java/lang/Object")) (2 : Int32) (own_R ((2 : Int32)).toNatClampNeg (own_up (own_up (fun _ => .null) ((0 : Int32)).toNatClampNeg (.ref b_q13)) ((1 : Int32)).toNatClampNeg (.ref b_q22))) .null := by rw [← own_R_set]; exact Arv.set Ar_q25 qk_q25 S_q25 Nn_q25 H_q25 G_q25 rfl W_q25 _ rfl (by rw [own_R_len]; exact lt_q25)
  have K_q25 : Keep h0 h_q25 [a1] := K_q22.wr W_q25 (Or.inr sz_b_q6)
  have N_q25 := Fr.snoc X_q25 N_q20 ge_b_q6
  obtain ⟨T_q26, X_q26, e_q26, st_q26⟩ := getF X_q25 hx hZ hown (host := "") (Or.inl (own_w hw 25 rfl)) Via.refl e_q25 F_pages_a1__q25 (g := (mkF m 55 #[.val (.ref a1), .val (.int p2), .val (.ref y), .val (.int (2 : Int32))] [(.ref a1), (.int (2 : Int32))])) rfl rfl (hb hby d2_55)
  obtain ⟨cl_q27, Ar_q27, qk_q27, S_q27, Nn_q27, H_q27, G_q27⟩ := id V_b_q6__q25
  obtain ⟨cq_q29, qa_q29, qb_q29⟩ := EX_a1__q25.cell
  obtain ⟨_, _, ⟨T_q29, L_q29, k_q29, n_q29⟩, -, X_q29, ⟨Lc_q29, hQ_q29, l_q29, y_q29, z_q29⟩, st_q29⟩ := X_q26.privateBack hx (y := (⟨"com/example/hashwright/hashwright/table/PagedArray", "arrayHolding", "(I)[Ljava/lang/Object;"⟩ : MethodName)) hown (mvT hZ (own_w hw 27 rfl)) (mvT hZ (own_w hw 28 rfl)) (mvT hZ (own_seli (y := (⟨"com/example/hashwright/hashwright/table/PagedArray", "arrayHolding", "(I)[Ljava/lang/Object;"⟩ : MethodName)) (by decide) (own_w hw 10 rfl) (own_w hw 29 rfl) (own_w hw 28 rfl))) (Cond.privateMethod_at (mvP hZ (own_w hw 29 rfl) (args := #[]))) (mvT hZ (own_w hw 30 rfl)) (by decide) (backOf (W := 0) (rmAHP l Z a0 hw [] a1 b_q6 b_q13 k_q6 (2 : Int32) (own_up (own_up (fun _ => .null) ((0 : Int32)).toNatClampNeg (.ref b_q13)) ((1 : Int32)).toNatClampNeg (.ref b_q22)) (0 : Int32) h_q25 n0 (Nat.le_trans Z0 K_q25.1) F_elements_a1__q25 F_pages_a1__q25 V_b_q6__q25 rfl (by decide)) hZ (own_w hw 30 rfl) (own_w hw 11 rfl) (by decide) (by decide)) (g := (mkF m 101 #[.val (.ref a1), .val (.int p2), .val (.ref y), .val (.int (0 : Int32))] [(.int (0 : Int32)), (.ref a1)])) rfl (by rw [hml]; rfl) (Steps.refl _) (a := a1) (by rw [e_q26]; exact qa_q29) qb_q29 (argsL := [(.int (0 : Int32))]) (rest := []) (lenOf pd__I__Ljava_lang_Object_ rfl) rfl (by show 2 * 0 + _ ≤ _; exact Nat.le_of_eq rfl) (hb hby d2_101) (fun _ _ => ⟨rfl, e_q26, (by decide : 3 + 0 ≤ _), (by decide : 131074 + 0 ≤ _)⟩)
  dsimp only [Pt.U, Pt.locs, Pt.cells, Pt.slots] at X_q29 l_q29 y_q29 z_q29 st_q29 hQ_q29
  subst l_q29 y_q29 z_q29
  obtain ⟨rfl, Nq_q29, eq_q29⟩ := hQ_q29
  have Kq_q29 : Keep h_q25 T_q29.heap [] := by rw [eq_q29]; exact Keep.refl _ _
  have N_q29 := Fr.app N_q25 Nq_q29
  have EX_a1__q29 := EX_a1__q25.keep Kq_q29
  have F_elements_a1__q29 := F_elements_a1__q25.keep Kq_q29 nin0
  have F_pages_a1__q29 := F_pages_a1__q25.keep Kq_q29 nin0
  have EX_y__q29 := EX_y__q25.keep Kq_q29
  have V_b_q6__q29 := V_b_q6__q25.keep Kq_q29 nin0
  have V_b_q13__q29 := V_b_q13__q25.keep Kq_q29 nin0
  have V_b_q22__q29 := V_b_q22__q25.keep Kq_q29 nin0
  have K_q29 : Keep h0 T_q29.heap [a1] := K_q25.trans Kq_q29 all0
  obtain ⟨_, _, ⟨T_q30, L_q30, k_q30, n_q30⟩, -, X_q30, ⟨Lc_q30, hQ_q30, l_q30, y_q30, z_q30⟩, st_q30⟩ := Jvm.LawKit.callS X_q29 hx (y := (⟨"java/util/Arrays", "fill", "([Ljava/lang/Object;Ljava/lang/Object;)V"⟩ : MethodName)) hown (mvT hZ (own_w hw 31 rfl)) (mvT hZ (own_w hw 32 rfl)) (mvT hZ (own_w hw 33 rfl)) (mvT hZ (own_w hw 34 rfl)) (by decide) (backOf (W := 0) (rmFill l Z a0 hw [] b_q13 y k_q13 z0 (fun _ => .null) T_q29.heap n0 (Nat.le_trans Z0 K_q29.1) V_b_q13__q29 EX_y__q29 O_q13 ge_b_q13) hZ (own_w hw 34 rfl) (own_w hw 33 rfl) (by decide) (by decide)) (g := (mkF m 105 #[.val (.ref a1), .val (.int p2), .val (.ref y), .val (.int (0 : Int32))] [(.ref y), (.ref b_q13)])) rfl (by rw [hml]; rfl) (argsL := [(.ref b_q13), (.ref y)]) (rest := []) (lenOf pd___Ljava_lang_Object_Ljava_lang_Object__V rfl) rfl (by show 2 * 0 + _ ≤ _; exact Nat.le_of_eq rfl) (hb hby d2_105) (fun _ _ => ⟨rfl, rfl, (by decide : 3 + 0 ≤ _), (by decide : 131074 + 0 ≤ _)⟩)
  dsimp only [Pt.U, Pt.locs, Pt.cells, Pt.slots] at X_q30 l_q30 y_q30 z_q30 st_q30 hQ_q30
  subst l_q30 y_q30 z_q30
  obtain ⟨rfl, Nq_q30, Kq_q30, O0_q30⟩ := hQ_q30
  have N_q30 := Fr.app N_q29 Nq_q30
  have EX_a1__q30 := EX_a1__q29.keep Kq_q30
  have F_elements_a1__q30 := F_elements_a1__q29.keep Kq_q30 (ninS ne_a1_b_q13 nin0)
  have F_pages_a1__q30 := F_pages_a1__q29.keep Kq_q30 (ninS ne_a1_b_q13 nin0)
  have EX_y__q30 := EX_y__q29.keep Kq_q30
  have V_b_q6__q30 := V_b_q6__q29.keep Kq_q30 (ninS ne_b_q6_b_q13 nin0)
  have V_b_q22__q30 := V_b_q22__q29.keep Kq_q30 (ninS (Ne.symm ne_b_q13_b_q22) nin0)
  have K_q30 : Keep h0 T_q30.heap [a1] := K_q29.trans Kq_q30 (allS (Or.inr sz_b_q13) all0)
  obtain ⟨cq_q31, qa_q31, qb_q31⟩ := EX_a1__q30.cell
  obtain ⟨_, _, ⟨T_q31, L_q31, k_q31, n_q31⟩, -, X_q31, ⟨Lc_q31, hQ_q31, l_q31, y_q31, z_q31⟩, st_q31⟩ := X_q30.privateBack hx (y := (⟨"com/example/hashwright/hashwright/table/PagedArray", "arrayHolding", "(I)[Ljava/lang/Object;"⟩ : MethodName)) hown (mvT hZ (own_w hw 27 rfl)) (mvT hZ (own_w hw 28 rfl)) (mvT hZ (own_seli (y := (⟨"com/example/hashwright/hashwright/table/PagedArray", "arrayHolding", "(I)[Ljava/lang/Object;"⟩ : MethodName)) (by decide) (own_w hw 10 rfl) (own_w hw 29 rfl) (own_w hw 28 rfl))) (Cond.privateMethod_at (mvP hZ (own_w hw 29 rfl) (args := #[]))) (mvT hZ (own_w hw 30 rfl)) (by decide) (backOf (W := 0) (rmAHP l Z a0 hw [] a1 b_q6 b_q22 k_q6 (2 : Int32) (own_up (own_up (fun _ => .null) ((0 : Int32)).toNatClampNeg (.ref b_q13)) ((1 : Int32)).toNatClampNeg (.ref b_q22)) (65536 : Int32) T_q30.heap n0 (Nat.le_trans Z0 K_q30.1) F_elements_a1__q30 F_pages_a1__q30 V_b_q6__q30 rfl (by decide)) hZ (own_w hw 30 rfl) (own_w hw 11 rfl) (by decide) (by decide)) (g := (mkF m 101 #[.val (.ref a1), .val (.int p2), .val (.ref y), .val (.int (65536 : Int32))] [(.int (65536 : Int32)), (.ref a1)])) rfl (by rw [hml]; rfl) (Steps.refl _) (a := a1) qa_q31 qb_q31 (argsL := [(.int (65536 : Int32))]) (rest := []) (lenOf pd__I__Ljava_lang_Object_ rfl) rfl (by show 2 * 0 + _ ≤ _; exact Nat.le_of_eq rfl) (hb hby d2_101) (fun _ _ => ⟨rfl, rfl, (by decide : 3 + 0 ≤ _), (by decide : 131074 + 0 ≤ _)⟩)
  dsimp only [Pt.U, Pt.locs, Pt.cells, Pt.slots] at X_q31 l_q31 y_q31 z_q31 st_q31 hQ_q31
  subst l_q31 y_q31 z_q31
  obtain ⟨rfl, Nq_q31, eq_q31⟩ := hQ_q31
  have Kq_q31 : Keep T_q30.heap T_q31.heap [] := by rw [eq_q31]; exact Keep.refl _ _
  have N_q31 := Fr.app N_q30 Nq_q31
  have F_elements_a1__q31 := F_elements_a1__q30.keep Kq_q31 nin0
  have F_pages_a1__q31 := F_pages_a1__q30.keep Kq_q31 nin0
  have EX_y__q31 := EX_y__q30.keep Kq_q31
  have V_b_q6__q31 := V_b_q6__q30.keep Kq_q31 nin0
  have V_b_q22__q31 := V_b_q22__q30.keep Kq_q31 nin0
  have O0_q30__q31 := O0_q30.keep Kq_q31 nin0
  have K_q31 : Keep h0 T_q31.heap [a1] := K_q30.trans Kq_q31 all0
  obtain ⟨_, _, ⟨T_q32, L_q32, k_q32, n_q32⟩, -, X_q32, ⟨Lc_q32, hQ_q32, l_q32, y_q32, z_q32⟩, st_q32⟩ := Jvm.LawKit.callS X_q31 hx (y := (⟨"java/util/Arrays", "fill", "([Ljava/lang/Object;Ljava/lang/Object;)V"⟩ : MethodName)) hown (mvT hZ (own_w hw 31 rfl)) (mvT hZ (own_w hw 32 rfl)) (mvT hZ (own_w hw 33 rfl)) (mvT hZ (own_w hw 34 rfl)) (by decide) (backOf (W := 0) (rmFill l Z a0 hw [] b_q22 y k_q22 z1 (fun _ => .null) T_q31.heap n0 (Nat.le_trans Z0 K_q31.1) V_b_q22__q31 EX_y__q31 O_q22 ge_b_q22) hZ (own_w hw 34 rfl) (own_w hw 33 rfl) (by decide) (by decide)) (g := (mkF m 105 #[.val (.ref a1), .val (.int p2), .val (.ref y), .val (.int (65536 : Int32))] [(.ref y), (.ref b_q22)])) rfl (by rw [hml]; rfl) (argsL := [(.ref b_q22), (.ref y)]) (rest := []) (lenOf pd___Ljava_lang_Object_Ljava_lang_Object__V rfl) rfl (by show 2 * 0 + _ ≤ _; exact Nat.le_of_eq rfl) (hb hby d2_105) (fun _ _ => ⟨rfl, rfl, (by decide : 3 + 0 ≤ _), (by decide : 131074 + 0 ≤ _)⟩)
  dsimp only [Pt.U, Pt.locs, Pt.cells, Pt.slots] at X_q32 l_q32 y_q32 z_q32 st_q32 hQ_q32
  subst l_q32 y_q32 z_q32
  obtain ⟨rfl, Nq_q32, Kq_q32, O0_q32⟩ := hQ_q32
  have N_q32 := Fr.app N_q31 Nq_q32
  have F_elements_a1__q32 := F_elements_a1__q31.keep Kq_q32 (ninS ne_a1_b_q22 nin0)
  have F_pages_a1__q32 := F_pages_a1__q31.keep Kq_q32 (ninS ne_a1_b_q22 nin0)
  have V_b_q6__q32 := V_b_q6__q31.keep Kq_q32 (ninS ne_b_q6_b_q22 nin0)
  have O0_q30__q32 := O0_q30__q31.keep Kq_q32 (ninS ne_b_q13_b_q22 nin0)
  have K_q32 : Keep h0 T_q32.heap [a1] := K_q31.trans Kq_q32 (allS (Or.inr sz_b_q22) all0)
  obtain ⟨fs, hr, hrun, hended, hW, hsame⟩ := X_q32.leave (v := none) (fun _ => rfl) Bd.notSynchronized
  refine ⟨_, _, pre0 _ ?_, hrun, hended, _, _, rfl, ?_, ⟨_, rfl⟩, hW, hsame.mono (by decide) (by decide)⟩
  · show Steps p.tables e below (s₁.setTop (mkF m 0 #[.val (.ref a1), .val (.int p2), .val (.ref y), .unset] [])) _
    refine XS.aloadN X0.here hx rfl (hb hby d2_0) rfl rfl ?_
    show Steps p.tables e below (s₁.setTop (mkF m 1 #[.val (.ref a1), .val (.int p2), .val (.ref y), .unset] [(.ref a1)])) _
    refine st_q2 _ ?_
    refine XS.aloadN X_q2.here hx rfl (hb hby d2_4) rfl rfl ?_
    refine XS.iloadN X_q2.here hx rfl (hb hby d2_5) rfl ?_
    show Steps p.tables e below (T_q2.setTop (mkF m 6 #[.val (.ref a1), .val (.int p2), .val (.ref y), .unset] [(.int p2), (.ref a1)])) _
    refine st_q3 _ ?_
    refine XS.iloadN X_q3.here hx rfl (hb hby d2_9) rfl ?_
    show Steps p.tables e below (T_q3.setTop (mkF m 10 #[.val (.ref a1), .val (.int p2), .val (.ref y), .unset] [(.int p2)])) _
    refine X_q3.ldcInt hx hown (mvT hZ (own_w hw 20 rfl)) (g := (mkF m 10 #[.val (.ref a1), .val (.int p2), .val (.ref y), .unset] [(.int p2)])) rfl (hb hby d2_10) _ ?_
    refine XS.icmpYes X_q3.here hx rfl (pc0 := 12) (pc' := 31) rfl (hb hby d2_12) rfl (tlt hc_q4).2.2.1 (by decide) (by decide) ?_
    refine XS.aloadN X_q3.here hx rfl (hb hby d2_31) rfl rfl ?_
    refine XS.aconstNull X_q3.here hx rfl (hb hby d2_32) ?_
    show Steps p.tables e below (T_q3.setTop (mkF m 33 #[.val (.ref a1), .val (.int p2), .val (.ref y), .unset] [.null, (.ref a1)])) _
    refine st_q5 _ ?_
    refine XS.aloadN X_q5.here hx rfl (hb hby d2_36) rfl rfl ?_
    refine XS.iloadN X_q5.here hx rfl (hb hby d2_37) rfl ?_
    refine XS.iconst X_q5.here hx rfl (hb hby d2_38) ?_
    show Steps p.tables e below (T_q5.setTop (mkF m 39 #[.val (.ref a1), .val (.int p2), .val (.ref y), .unset] [(.int (1 : Int32)), (.int p2), (.ref a1)])) _
    refine XS.isub X_q5.here hx rfl (hb hby d2_39) rfl ?_
    refine XS.bipush X_q5.here hx rfl (hb hby d2_40) ?_
    refine XS.iushr X_q5.here hx rfl (hb hby d2_42) rfl ?_
    refine XS.iconst X_q5.here hx rfl (hb hby d2_43) ?_
    show Steps p.tables e below (T_q5.setTop (mkF m 44 #[.val (.ref a1), .val (.int p2), .val (.ref y), .unset] [(.int (1 : Int32)), (.int (((p2 - (1 : Int32)).toUInt32 >>> ((16 : Int32) &&& 31).toUInt32).toInt32)), (.ref a1)])) _
    refine XS.iadd X_q5.here hx rfl (hb hby d2_44) rfl ?_
    show Steps p.tables e below (T_q5.setTop (mkF m 45 #[.val (.ref a1), .val (.int p2), .val (.ref y), .unset] [(.int ((((p2 - (1 : Int32)).toUInt32 >>> ((16 : Int32) &&& 31).toUInt32).toInt32) + (1 : Int32))), (.ref a1)])) _
    rw [hc_q1]
    show Steps p.tables e below (T_q5.setTop (mkF m 45 #[.val (.ref a1), .val (.int p2), .val (.ref y), .unset] [(.int (2 : Int32)), (.ref a1)])) _
    refine st_q6 _ ?_
    show Steps p.tables e below (T_q6.setTop (mkF m 48 #[.val (.ref a1), .val (.int p2), .val (.ref y), .unset] [(.ref b_q6), (.ref a1)])) _
    refine st_q7 _ ?_
    refine XS.iconst X_q7.here hx rfl (hb hby d2_51) ?_
    refine XS.istoreN X_q7.here hx rfl (hb hby d2_52) rfl (l' := #[.val (.ref a1), .val (.int p2), .val (.ref y), .val (.int (0 : Int32))]) rfl ?_
    refine XS.iloadN X_q7.here hx rfl (hb hby d2_53) rfl ?_
    show Steps p.tables e below (T_q7.setTop (mkF m 54 #[.val (.ref a1), .val (.int p2), .val (.ref y), .val (.int (0 : Int32))] [(.int (0 : Int32))])) _
    refine XS.aloadN X_q7.here hx rfl (hb hby d2_54) rfl rfl ?_
    show Steps p.tables e below (T_q7.setTop (mkF m 55 #[.val (.ref a1), .val (.int p2), .val (.ref y), .val (.int (0 : Int32))] [(.ref a1), (.int (0 : Int32))])) _
    refine st_q8 _ ?_
    show Steps p.tables e below (T_q8.setTop (mkF m 58 #[.val (.ref a1), .val (.int p2), .val (.ref y), .val (.int (0 : Int32))] [(.ref b_q6), (.int (0 : Int32))])) _
    refine X_q8.arraylength hx (by rw [e_q8]; exact Ar_q9.1) (State.isArrayOf_alike hZ.alike Ar_q9.2.1) (g := (mkF m 58 #[.val (.ref a1), .val (.int p2), .val (.ref y), .val (.int (0 : Int32))] [(.ref b_q6), (.int (0 : Int32))])) rfl rfl (hb hby d2_58) _ ?_
    rw [len_of S_q9 Nn_q9]
    refine XS.icmpNo X_q8.here hx rfl (hb hby d2_59) rfl (tlt (by decide : (0 : Int32) < (2 : Int32))).2.1 ?_
    refine XS.aloadN X_q8.here hx rfl (hb hby d2_62) rfl rfl ?_
    show Steps p.tables e below (T_q8.setTop (mkF m 63 #[.val (.ref a1), .val (.int p2), .val (.ref y), .val (.int (0 : Int32))] [(.ref a1)])) _
    refine st_q10 _ ?_
    refine XS.iloadN X_q10.here hx rfl (hb hby d2_66) rfl ?_
    show Steps p.tables e below (T_q10.setTop (mkF m 67 #[.val (.ref a1), .val (.int p2), .val (.ref y), .val (.int (0 : Int32))] [(.int (0 : Int32)), (.ref b_q6)])) _
    refine X_q10.ldcInt hx hown (mvT hZ (own_w hw 20 rfl)) (g := (mkF m 67 #[.val (.ref a1), .val (.int p2), .val (.ref y), .val (.int (0 : Int32))] [(.int (0 : Int32)), (.ref b_q6)])) rfl (hb hby d2_67) _ ?_
    refine XS.iloadN X_q10.here hx rfl (hb hby d2_69) rfl ?_
    refine XS.iloadN X_q10.here hx rfl (hb hby d2_70) rfl ?_
    refine XS.bipush X_q10.here hx rfl (hb hby d2_71) ?_
    show Steps p.tables e below (T_q10.setTop (mkF m 73 #[.val (.ref a1), .val (.int p2), .val (.ref y), .val (.int (0 : Int32))] [(.int (16 : Int32)), (.int (0 : Int32)), (.int p2), (.int (65536 : Int32)), (.int (0 : Int32)), (.ref b_q6)])) _
    refine XS.ishl X_q10.here hx rfl (hb hby d2_73) rfl ?_
    refine XS.isub X_q10.here hx rfl (hb hby d2_74) rfl ?_
    show Steps p.tables e below (T_q10.setTop (mkF m 75 #[.val (.ref a1), .val (.int p2), .val (.ref y), .val (.int (0 : Int32))] [(.int (p2 - (0 : Int32))), (.int (65536 : Int32)), (.int (0 : Int32)), (.ref b_q6)])) _
    refine st_q11 _ ?_
    show Steps p.tables e below (T_q11.setTop (mkF m 78 #[.val (.ref a1), .val (.int p2), .val (.ref y), .val (.int (0 : Int32))] [(.int (F8_0 (65536 : Int32) (p2 - (0 : Int32)))), (.int (0 : Int32)), (.ref b_q6)])) _
    rw [hc_q12]
    show Steps p.tables e below (T_q11.setTop (mkF m 78 #[.val (.ref a1), .val (.int p2), .val (.ref y), .val (.int (0 : Int32))] [(.int z0), (.int (0 : Int32)), (.ref b_q6)])) _
    refine st_q13 _ ?_
    show Steps p.tables e below (T_q13.setTop (mkF m 81 #[.val (.ref a1), .val (.int p2), .val (.ref y), .val (.int (0 : Int32))] [(.ref b_q13), (.int (0 : Int32)), (.ref b_q6)])) _
    refine st_q16 _ ?_
    refine XS.iinc X_q16.here hx rfl (hb hby d2_82) rfl (l' := #[.val (.ref a1), .val (.int p2), .val (.ref y), .val (.int ((0 : Int32) + (1 : Int32)))]) rfl ?_
    refine XS.goto X_q16.here hx rfl (pc0 := 85) (pc' := 53) rfl (hb hby d2_85) (by decide) (by decide) ?_
    refine XS.iloadN X_q16.here hx rfl (hb hby d2_53) rfl ?_
    show Steps p.tables e below (T_q16.setTop (mkF m 54 #[.val (.ref a1), .val (.int p2), .val (.ref y), .val (.int (1 : Int32))] [(.int (1 : Int32))])) _
    refine XS.aloadN X_q16.here hx rfl (hb hby d2_54) rfl rfl ?_
    show Steps p.tables e below (T_q16.setTop (mkF m 55 #[.val (.ref a1), .val (.int p2), .val (.ref y), .val (.int (1 : Int32))] [(.ref a1), (.int (1 : Int32))])) _
    refine st_q17 _ ?_
    show Steps p.tables e below (T_q17.setTop (mkF m 58 #[.val (.ref a1), .val (.int p2), .val (.ref y), .val (.int (1 : Int32))] [(.ref b_q6), (.int (1 : Int32))])) _
    refine X_q17.arraylength hx (by rw [e_q17]; exact Ar_q18.1) (State.isArrayOf_alike hZ.alike Ar_q18.2.1) (g := (mkF m 58 #[.val (.ref a1), .val (.int p2), .val (.ref y), .val (.int (1 : Int32))] [(.ref b_q6), (.int (1 : Int32))])) rfl rfl (hb hby d2_58) _ ?_
    rw [len_of S_q18 Nn_q18]
    refine XS.icmpNo X_q17.here hx rfl (hb hby d2_59) rfl (tlt (by decide : (1 : Int32) < (2 : Int32))).2.1 ?_
    refine XS.aloadN X_q17.here hx rfl (hb hby d2_62) rfl rfl ?_
    show Steps p.tables e below (T_q17.setTop (mkF m 63 #[.val (.ref a1), .val (.int p2), .val (.ref y), .val (.int (1 : Int32))] [(.ref a1)])) _
    refine st_q19 _ ?_
    refine XS.iloadN X_q19.here hx rfl (hb hby d2_66) rfl ?_
    show Steps p.tables e below (T_q19.setTop (mkF m 67 #[.val (.ref a1), .val (.int p2), .val (.ref y), .val (.int (1 : Int32))] [(.int (1 : Int32)), (.ref b_q6)])) _
    refine X_q19.ldcInt hx hown (mvT hZ (own_w hw 20 rfl)) (g := (mkF m 67 #[.val (.ref a1), .val (.int p2), .val (.ref y), .val (.int (1 : Int32))] [(.int (1 : Int32)), (.ref b_q6)])) rfl (hb hby d2_67) _ ?_
    refine XS.iloadN X_q19.here hx rfl (hb hby d2_69) rfl ?_
    refine XS.iloadN X_q19.here hx rfl (hb hby d2_70) rfl ?_
    refine XS.bipush X_q19.here hx rfl (hb hby d2_71) ?_
    show Steps p.tables e below (T_q19.setTop (mkF m 73 #[.val (.ref a1), .val (.int p2), .val (.ref y), .val (.int (1 : Int32))] [(.int (16 : Int32)), (.int (1 : Int32)), (.int p2), (.int (65536 : Int32)), (.int (1 : Int32)), (.ref b_q6)])) _
    refine XS.ishl X_q19.here hx rfl (hb hby d2_73) rfl ?_
    refine XS.isub X_q19.here hx rfl (hb hby d2_74) rfl ?_
    show Steps p.tables e below (T_q19.setTop (mkF m 75 #[.val (.ref a1), .val (.int p2), .val (.ref y), .val (.int (1 : Int32))] [(.int (p2 - (65536 : Int32))), (.int (65536 : Int32)), (.int (1 : Int32)), (.ref b_q6)])) _
    refine st_q20 _ ?_
    show Steps p.tables e below (T_q20.setTop (mkF m 78 #[.val (.ref a1), .val (.int p2), .val (.ref y), .val (.int (1 : Int32))] [(.int (F8_0 (65536 : Int32) (p2 - (65536 : Int32)))), (.int (1 : Int32)), (.ref b_q6)])) _
    rw [hc_q21]
    show Steps p.tables e below (T_q20.setTop (mkF m 78 #[.val (.ref a1), .val (.int p2), .val (.ref y), .val (.int (1 : Int32))] [(.int z1), (.int (1 : Int32)), (.ref b_q6)])) _
    refine st_q22 _ ?_
    show Steps p.tables e below (T_q22.setTop (mkF m 81 #[.val (.ref a1), .val (.int p2), .val (.ref y), .val (.int (1 : Int32))] [(.ref b_q22), (.int (1 : Int32)), (.ref b_q6)])) _
    refine st_q25 _ ?_
    refine XS.iinc X_q25.here hx rfl (hb hby d2_82) rfl (l' := #[.val (.ref a1), .val (.int p2), .val (.ref y), .val (.int ((1 : Int32) + (1 : Int32)))]) rfl ?_
    refine XS.goto X_q25.here hx rfl (pc0 := 85) (pc' := 53) rfl (hb hby d2_85) (by decide) (by decide) ?_
    refine XS.iloadN X_q25.here hx rfl (hb hby d2_53) rfl ?_
    show Steps p.tables e below (T_q25.setTop (mkF m 54 #[.val (.ref a1), .val (.int p2), .val (.ref y), .val (.int (2 : Int32))] [(.int (2 : Int32))])) _
    refine XS.aloadN X_q25.here hx rfl (hb hby d2_54) rfl rfl ?_
    show Steps p.tables e below (T_q25.setTop (mkF m 55 #[.val (.ref a1), .val (.int p2), .val (.ref y), .val (.int (2 : Int32))] [(.ref a1), (.int (2 : Int32))])) _
    refine st_q26 _ ?_
    show Steps p.tables e below (T_q26.setTop (mkF m 58 #[.val (.ref a1), .val (.int p2), .val (.ref y), .val (.int (2 : Int32))] [(.ref b_q6), (.int (2 : Int32))])) _
    refine X_q26.arraylength hx (by rw [e_q26]; exact Ar_q27.1) (State.isArrayOf_alike hZ.alike Ar_q27.2.1) (g := (mkF m 58 #[.val (.ref a1), .val (.int p2), .val (.ref y), .val (.int (2 : Int32))] [(.ref b_q6), (.int (2 : Int32))])) rfl rfl (hb hby d2_58) _ ?_
    rw [len_of S_q27 Nn_q27]
    refine XS.icmpYes X_q26.here hx rfl (pc0 := 59) (pc' := 88) rfl (hb hby d2_59) rfl (flt (by decide : ¬ ((2 : Int32) < (2 : Int32)))).2.1 (by decide) (by decide) ?_
    refine XS.aloadN X_q26.here hx rfl (hb hby d2_88) rfl rfl ?_
    refine XS.ifnullNo X_q26.here hx rfl (hb hby d2_89) rfl ?_
    show Steps p.tables e below (T_q26.setTop (mkF m 92 #[.val (.ref a1), .val (.int p2), .val (.ref y), .val (.int (2 : Int32))] [])) _
    refine XS.iconst X_q26.here hx rfl (hb hby d2_92) ?_
    refine XS.istoreN X_q26.here hx rfl (hb hby d2_93) rfl (l' := #[.val (.ref a1), .val (.int p2), .val (.ref y), .val (.int (0 : Int32))]) rfl ?_
    refine XS.iloadN X_q26.here hx rfl (hb hby d2_94) rfl ?_
    refine XS.iloadN X_q26.here hx rfl (hb hby d2_95) rfl ?_
    show Steps p.tables e below (T_q26.setTop (mkF m 96 #[.val (.ref a1), .val (.int p2), .val (.ref y), .val (.int (0 : Int32))] [(.int p2), (.int (0 : Int32))])) _
    refine XS.icmpNo X_q26.here hx rfl (hb hby d2_96) rfl (tlt hc_q28).2.1 ?_
    refine XS.aloadN X_q26.here hx rfl (hb hby d2_99) rfl rfl ?_
    refine XS.iloadN X_q26.here hx rfl (hb hby d2_100) rfl ?_
    show Steps p.tables e below (T_q26.setTop (mkF m 101 #[.val (.ref a1), .val (.int p2), .val (.ref y), .val (.int (0 : Int32))] [(.int (0 : Int32)), (.ref a1)])) _
    refine st_q29.trans ?_
    refine XS.aloadN X_q29.here hx rfl (hb hby d2_104) rfl rfl ?_
    show Steps p.tables e below (T_q29.setTop (mkF m 105 #[.val (.ref a1), .val (.int p2), .val (.ref y), .val (.int (0 : Int32))] [(.ref y), (.ref b_q13)])) _
    refine st_q30 _ ?_
    refine XS.iloadN X_q30.here hx rfl (hb hby d2_108) rfl ?_
    show Steps p.tables e below (T_q30.setTop (mkF m 109 #[.val (.ref a1), .val (.int p2), .val (.ref y), .val (.int (0 : Int32))] [(.int (0 : Int32))])) _
    refine X_q30.ldcInt hx hown (mvT hZ (own_w hw 20 rfl)) (g := (mkF m 109 #[.val (.ref a1), .val (.int p2), .val (.ref y), .val (.int (0 : Int32))] [(.int (0 : Int32))])) rfl (hb hby d2_109) _ ?_
    refine XS.iadd X_q30.here hx rfl (hb hby d2_111) rfl ?_
    refine XS.istoreN X_q30.here hx rfl (hb hby d2_112) rfl (l' := #[.val (.ref a1), .val (.int p2), .val (.ref y), .val (.int (65536 : Int32))]) rfl ?_
    refine XS.goto X_q30.here hx rfl (pc0 := 113) (pc' := 94) rfl (hb hby d2_113) (by decide) (by decide) ?_
    show Steps p.tables e below (T_q30.setTop (mkF m 94 #[.val (.ref a1), .val (.int p2), .val (.ref y), .val (.int (65536 : Int32))] [])) _
    refine XS.iloadN X_q30.here hx rfl (hb hby d2_94) rfl ?_
    refine XS.iloadN X_q30.here hx rfl (hb hby d2_95) rfl ?_
    refine XS.icmpNo X_q30.here hx rfl (hb hby d2_96) rfl (tlt hc_q4).2.1 ?_
    refine XS.aloadN X_q30.here hx rfl (hb hby d2_99) rfl rfl ?_
    show Steps p.tables e below (T_q30.setTop (mkF m 100 #[.val (.ref a1), .val (.int p2), .val (.ref y), .val (.int (65536 : Int32))] [(.ref a1)])) _
    refine XS.iloadN X_q30.here hx rfl (hb hby d2_100) rfl ?_
    show Steps p.tables e below (T_q30.setTop (mkF m 101 #[.val (.ref a1), .val (.int p2), .val (.ref y), .val (.int (65536 : Int32))] [(.int (65536 : Int32)), (.ref a1)])) _
    refine st_q31.trans ?_
    refine XS.aloadN X_q31.here hx rfl (hb hby d2_104) rfl rfl ?_
    show Steps p.tables e below (T_q31.setTop (mkF m 105 #[.val (.ref a1), .val (.int p2), .val (.ref y), .val (.int (65536 : Int32))] [(.ref y), (.ref b_q22)])) _
    refine st_q32 _ ?_
    refine XS.iloadN X_q32.here hx rfl (hb hby d2_108) rfl ?_
    show Steps p.tables e below (T_q32.setTop (mkF m 109 #[.val (.ref a1), .val (.int p2), .val (.ref y), .val (.int (65536 : Int32))] [(.int (65536 : Int32))])) _
    refine X_q32.ldcInt hx hown (mvT hZ (own_w hw 20 rfl)) (g := (mkF m 109 #[.val (.ref a1), .val (.int p2), .val (.ref y), .val (.int (65536 : Int32))] [(.int (65536 : Int32))])) rfl (hb hby d2_109) _ ?_
    refine XS.iadd X_q32.here hx rfl (hb hby d2_111) rfl ?_
    refine XS.istoreN X_q32.here hx rfl (hb hby d2_112) rfl (l' := #[.val (.ref a1), .val (.int p2), .val (.ref y), .val (.int (131072 : Int32))]) rfl ?_
    refine XS.goto X_q32.here hx rfl (pc0 := 113) (pc' := 94) rfl (hb hby d2_113) (by decide) (by decide) ?_
    show Steps p.tables e below (T_q32.setTop (mkF m 94 #[.val (.ref a1), .val (.int p2), .val (.ref y), .val (.int (131072 : Int32))] [])) _
    refine XS.iloadN X_q32.here hx rfl (hb hby d2_94) rfl ?_
    refine XS.iloadN X_q32.here hx rfl (hb hby d2_95) rfl ?_
    refine XS.icmpYes X_q32.here hx rfl (pc0 := 96) (pc' := 116) rfl (hb hby d2_96) rfl (flt hc_q33).2.1 (by decide) (by decide) ?_
    show Steps p.tables e below (T_q32.setTop (mkF m 116 #[.val (.ref a1), .val (.int p2), .val (.ref y), .val (.int (131072 : Int32))] [])) _
    exact X_q32.returnOut hx Bd.returns (hb hby d2_116) hr
  · show Q_rmIP2r Z a1 y p2 z0 z1 h0 n0 _ T_q32.heap _
    exact ⟨b_q6, k_q6, b_q13, k_q13, b_q22, k_q22, rfl, N_q32, K_q32, sz_b_q6, sz_b_q13, sz_b_q22, ne_b_q6_b_q13, ne_b_q6_b_q22, ne_b_q13_b_q22, F_elements_a1__q32, F_pages_a1__q32, V_b_q6__q32, O0_q30__q32, O_q13, O0_q32, O_q22⟩
def Q_rmIP3n (Z : State) (a1 : Addr) (p2 z0 z1 z2 : Int32) (h0 : Heap) (n0 : Nat) (v : Option Value) (h : Heap) (L : List Loc) : Prop := ∃ (r0 : Addr) (kr0 : ClassId) (r1 : Addr) (kr1 : ClassId) (r2 : Addr) (kr2 : ClassId) (r3 : Addr) (kr3 : ClassId), v = none ∧ Fr n0 L ∧ Keep h0 h [a1] ∧ h0.size ≤ r0 ∧ h0.size ≤ r1 ∧ h0.size ≤ r2 ∧ h0.size ≤ r3 ∧ r0 ≠ r1 ∧ r0 ≠ r2 ∧ r0 ≠ r3 ∧ r1 ≠ r2 ∧ r1 ≠ r3 ∧ r2 ≠ r3 ∧ Fld Z h a1 "com/example/hashwright/hashwright/table/PagedArray" "elements" "[Ljava/lang/Object;" .null ∧ Fld Z h a1 "com/example/hashwright/hashwright/table/PagedArray" "pages" "[[Ljava/lang/Object;" (.ref r0) ∧ Arv Z h r0 kr0 (.array (.object "java/lang/Object")) (3 : Int32) (own_R ((3 : Int32)).toNatClampNeg (own_up (own_up (own_up (fun _ => .null) ((0 : Int32)).toNatClampNeg (.ref r1)) ((1 : Int32)).toNatClampNeg (.ref r2)) ((2 : Int32)).toNatClampNeg (.ref r3))) .null ∧ Arv Z h r1 kr1 (.object "java/lang/Object") z0 (own_R (z0).toNatClampNeg (fun _ => .null)) .null ∧ Ovr Z kr1 "java/lang/Object" ∧ Arv Z h r2 kr2 (.object "java/lang/Object") z1 (own_R (z1).toNatClampNeg (fun _ => .null)) .null ∧ Ovr Z kr2 "java/lang/Object" ∧ Arv Z h r3 kr3 (.object "java/lang/Object") z2 (own_R (z2).toNatClampNeg (fun _ => .null)) .null ∧ Ovr Z kr3 "java/lang/Object"
set_option maxRecDepth 65536 in
set_option maxHeartbeats 40000000 in
theorem rmIP3n (l : Launch) (Z : State) (a0 : Array Value) (hw : ∀ d ∈ tables_1, d.before a0 Z = true) (ws : List Jvm.Cond) (a1 : Addr) (p2 z0 z1 z2 : Int32) (h0 : Heap) (n0 : Nat) (Z0 : n0 ≤ h0.size) (EX_a1 : Exa Z h0 a1 "com/example/hashwright/hashwright/table/PagedArray") (F_length_a1 : Fld Z h0 a1 "com/example/hashwright/hashwright/table/PagedArray" "length" "I" (.int (0 : Int32))) (F_elements_a1 : Fld Z h0 a1 "com/example/hashwright/hashwright/table/PagedArray" "elements" "[Ljava/lang/Object;" .null) (F_pages_a1 : Fld Z h0 a1 "com/example/hashwright/hashwright/table/PagedArray" "pages" "[[Ljava/lang/Object;" .null) (ge_a1 : n0 ≤ a1) (hc_q1 : ((((p2 - (1 : Int32)).toUInt32 >>> ((16 : Int32) &&& 31).toUInt32).toInt32) + (1 : Int32)) = (3 : Int32)) (hc_q4 : (65536 : Int32) < p2) (hc_q12 : (F8_0 (65536 : Int32) (p2 - (0 : Int32))) = z0) (hc_q14 : ¬ (z0) < 0) (hc_q15 : (z0).toNatClampNeg ≤ 65536) (hc_q21 : (F8_0 (65536 : Int32) (p2 - (65536 : Int32))) = z1) (hc_q23 : ¬ (z1) < 0) (hc_q24 : (z1).toNatClampNeg ≤ 65536) (hc_q30 : (F8_0 (65536 : Int32) (p2 - (131072 : Int32))) = z2) (hc_q32 : ¬ (z2) < 0) (hc_q33 : (z2).toNatClampNeg ≤ 65536) :
    MetFree l (⟨"com/example/hashwright/hashwright/table/PagedArray", "<init>", "(ILjava/lang/Object;)V"⟩ : MethodName) (head1 (Jvm.Cond.code (⟨"com/example/hashwright/hashwright/table/PagedArray", "<init>", "(ILjava/lang/Object;)V"⟩ : MethodName) prog_72_method_2_code 4 none :: ws) ({ frames := 1, cells := 4, slots := 196611, locals := 60 } : Room)) (fun a U => a = #[(.ref a1), (.int p2), .null] ∧ Z.Warmed39 U.vm ∧ U.heap = h0) (fun _ _ _ _ _ => True) (fun _ U o U' => ∃ v L, o = .returned v ∧ Q_rmIP3n Z a1 p2 z0 z1 z2 h0 n0 v U'.heap L ∧ FrameEnd U o U' L ({ frames := 1, cells := 4, slots := 196611, locals := 60 } : Room).cells ({ frames := 1, cells := 4, slots := 196611, locals := 60 } : Room).slots) := by
  refine MetFree.of_bodySF (plainFor_of_name pn_2) hisR ?_
  intro p e s m args below meth c s₁ Bd hml0 hP hK
  obtain ⟨rfl, hZ, hh⟩ := hP
  have hx := Bd.exec
  have hby := Bd.bytes
  have hml : c.maxLocals = 4 := hml0
  have hown : s.vm.findClass "com/example/hashwright/hashwright/table/PagedArray" = some m.cls := findClass_of_methodNamed Bd.named
  have hnm := (name_of_methodNamed Bd.named Bd.method).1
  have X0 : Stand p l e ({ frames := 1, cells := 4, slots := 196611, locals := 60 } : Room) s m #[(.ref a1), (.int p2), .null] below meth c s₁ [] 0 0 := Stand.of_body Bd
  have e0 : s₁.heap = h0 := by rw [← hh, Bd.state]; rfl
  have N0 := Fr.nil n0
  have pre0 : ∀ t, Steps p.tables e below (s₁.setTop (mkF m 0 #[.val (.ref a1), .val (.int p2), .val .null, .unset] [])) t → Steps p.tables e below (s₁.setTop (entryFrame m #[(.ref a1), (.int p2), .null] 4)) t := fun t k => castTop (ef_2n m a1 p2) k
  have K0 : Keep h0 h0 [a1] := Keep.refl _ _
  obtain ⟨T_q2, X_q2, e_q2, st_q2⟩ := initO X0 hx hZ hown (own_w hw 15 rfl) (own_w hw 16 rfl) (own_w hw 17 rfl) e0 (g := (mkF m 1 #[.val (.ref a1), .val (.int p2), .val .null, .unset] [(.ref a1)])) rfl (by rw [hml]; rfl) rfl (hb hby d2_1) (by decide) (W := 0) (by show 2 * 0 + _ ≤ _; exact Nat.le_of_eq rfl) (by decide)
  obtain ⟨T_q3, h_q3, X_q3, e_q3, W_q3, st_q3⟩ := putF X_q2 hx hZ hown (host := "") (Or.inl (own_w hw 18 rfl)) Via.refl e_q2 F_length_a1 EX_a1 (Or.inr ⟨(own_w hw 19 rfl), rfl, hnm⟩) (own_w hw 10 rfl) (ty := .int) (by decide) rfl rfl (g := (mkF m 6 #[.val (.ref a1), .val (.int p2), .val .null, .unset] [(.int p2), (.ref a1)])) rfl rfl (hb hby d2_6)
  have EX_a1__q3 := EX_a1.wr W_q3
  have F_elements_a1__q3 := F_elements_a1.other W_q3 (Or.inr (slot_ne (Or.inr (own_w hw 24 rfl)) (Or.inr (own_w hw 19 rfl)) (by decide) (t := (.array (.object "java/lang/Object"))) (t' := .int) (by decide) (by decide)))
  have F_pages_a1__q3 := F_pages_a1.other W_q3 (Or.inr (slot_ne (Or.inr (own_w hw 26 rfl)) (Or.inr (own_w hw 19 rfl)) (by decide) (t := (.array (.array (.object "java/lang/Object")))) (t' := .int) (by decide) (by decide)))
  have K_q3 : Keep h0 h_q3 [a1] := K0.wr W_q3 (Or.inl (List.mem_of_getElem? (i := 0) rfl))
  have N_q3 := Fr.snoc X_q3 N0 ge_a1
  obtain ⟨T_q5, h_q5, X_q5, e_q5, W_q5, st_q5⟩ := putF X_q3 hx hZ hown (host := "") (Or.inl (own_w hw 23 rfl)) Via.refl e_q3 F_elements_a1__q3 EX_a1__q3 (Or.inr ⟨(own_w hw 24 rfl), rfl, hnm⟩) (own_w hw 10 rfl) (ty := (.array (.object "java/lang/Object"))) (by decide) rfl rfl (g := (mkF m 33 #[.val (.ref a1), .val (.int p2), .val .null, .unset] [.null, (.ref a1)])) rfl rfl (hb hby d2_33)
  have EX_a1__q5 := EX_a1__q3.wr W_q5
  have F_pages_a1__q5 := F_pages_a1__q3.other W_q5 (Or.inr (slot_ne (Or.inr (own_w hw 26 rfl)) (Or.inr (own_w hw 24 rfl)) (by decide) (t := (.array (.array (.object "java/lang/Object")))) (t' := (.array (.object "java/lang/Object"))) (by decide) (by decide)))
  have F_elements_a1__q5 := F_elements_a1__q3.same W_q5
  have K_q5 : Keep h0 h_q5 [a1] := K_q3.wr W_q5 (Or.inl (List.mem_of_getElem? (i := 0) rfl))
  have N_q5 := Fr.snoc X_q5 N_q3 ge_a1
  obtain ⟨T_q6, h_q6, k_q6, X_q6, e_q6, E_q6, A_q6, EX_q6, O_q6, st_q6⟩ := newRA X_q5 hx hZ hown (ty := .object "java/lang/Object") (by decide) (own_w hw 50 rfl) (own_w hw 51 rfl) e_q5 (g := (mkF m 45 #[.val (.ref a1), .val (.int p2), .val .null, .unset] [(.int (3 : Int32)), (.ref a1)])) rfl (hb hby d2_45) rfl (by decide) (cap := 3) (by decide) (by decide) (by decide) (by decide) (ad := "[[Ljava/lang/Object;") (by decide)
  obtain ⟨b_q6, g_q6⟩ : ∃ z, z = h_q5.size := ⟨_, rfl⟩
  rw [← g_q6] at A_q6 EX_q6 st_q6
  have ne_a1_b_q6 : a1 ≠ b_q6 := Nat.ne_of_lt (Nat.lt_of_lt_of_le EX_a1__q5.lt (Nat.le_of_eq g_q6.symm))
  have ge_b_q6 : n0 ≤ b_q6 := Nat.le_trans (Nat.le_trans Z0 K_q5.1) (Nat.le_of_eq g_q6.symm)
  have sz_b_q6 : h0.size ≤ b_q6 := Nat.le_trans K_q5.1 (Nat.le_of_eq g_q6.symm)
  have K_q6 : Keep h0 h_q6 [a1] := K_q5.ext E_q6
  have EX_a1__q6 := EX_a1__q5.ext E_q6
  have F_elements_a1__q6 := F_elements_a1__q5.ext E_q6
  have F_pages_a1__q6 := F_pages_a1__q5.ext E_q6
  have V_b_q6 : Arv Z h_q6 b_q6 k_q6 (.array (.object "java/lang/Object")) (3 : Int32) (own_R ((3 : Int32)).toNatClampNeg (fun _ => .null)) .null := (Arv.new A_q6 (by decide)).pad (own_R_new _)
  obtain ⟨T_q7, h_q7, X_q7, e_q7, W_q7, st_q7⟩ := putF X_q6 hx hZ hown (host := "") (Or.inl (own_w hw 25 rfl)) Via.refl e_q6 F_pages_a1__q6 EX_a1__q6 (Or.inr ⟨(own_w hw 26 rfl), rfl, hnm⟩) (own_w hw 10 rfl) (ty := (.array (.array (.object "java/lang/Object")))) (by decide) rfl rfl (g := (mkF m 48 #[.val (.ref a1), .val (.int p2), .val .null, .unset] [(.ref b_q6), (.ref a1)])) rfl rfl (hb hby d2_48)
  have F_elements_a1__q7 := F_elements_a1__q6.other W_q7 (Or.inr (slot_ne (Or.inr (own_w hw 24 rfl)) (Or.inr (own_w hw 26 rfl)) (by decide) (t := (.array (.object "java/lang/Object"))) (t' := (.array (.array (.object "java/lang/Object")))) (by decide) (by decide)))
  have V_b_q6__q7 := V_b_q6.other W_q7 (Ne.symm ne_a1_b_q6)
  have F_pages_a1__q7 := F_pages_a1__q6.same W_q7
  have K_q7 : Keep h0 h_q7 [a1] := K_q6.wr W_q7 (Or.inl (List.mem_of_getElem? (i := 0) rfl))
  have N_q7 := Fr.snoc X_q7 N_q5 ge_a1
  obtain ⟨T_q8, X_q8, e_q8, st_q8⟩ := getF X_q7 hx hZ hown (host := "") (Or.inl (own_w hw 25 rfl)) Via.refl e_q7 F_pages_a1__q7 (g := (mkF m 55 #[.val (.ref a1), .val (.int p2), .val .null, .val (.int (0 : Int32))] [(.ref a1), (.int (0 : Int32))])) rfl rfl (hb hby d2_55)
  obtain ⟨cl_q9, Ar_q9, qk_q9, S_q9, Nn_q9, H_q9, G_q9⟩ := id V_b_q6__q7
  obtain ⟨T_q10, X_q10, e_q10, st_q10⟩ := getF X_q8 hx hZ hown (host := "") (Or.inl (own_w hw 25 rfl)) Via.refl e_q8 F_pages_a1__q7 (g := (mkF m 63 #[.val (.ref a1), .val (.int p2), .val .null, .val (.int (0 : Int32))] [(.ref a1)])) rfl rfl (hb hby d2_63)
  obtain ⟨_, _, ⟨T_q11, L_q11, k_q11, n_q11⟩, -, X_q11, ⟨Lc_q11, hQ_q11, l_q11, y_q11, z_q11⟩, st_q11⟩ := Jvm.LawKit.callS X_q10 hx (y := (⟨"java/lang/Math", "min", "(II)I"⟩ : MethodName)) hown (mvT hZ (own_w hw 52 rfl)) (mvT hZ (own_w hw 53 rfl)) (mvT hZ (own_w hw 54 rfl)) (mvT hZ (own_w hw 55 rfl)) (by decide) (backOf (W := 2) (rm8 l Z a0 hw [] (65536 : Int32) (p2 - (0 : Int32)) h_q7 n0 (Nat.le_trans Z0 K_q7.1)) hZ (own_w hw 55 rfl) (own_w hw 54 rfl) (by decide) (by decide)) (g := (mkF m 75 #[.val (.ref a1), .val (.int p2), .val .null, .val (.int (0 : Int32))] [(.int (p2 - (0 : Int32))), (.int (65536 : Int32)), (.int (0 : Int32)), (.ref b_q6)])) rfl (by rw [hml]; rfl) (argsL := [(.int (65536 : Int32)), (.int (p2 - (0 : Int32)))]) (rest := [(.int (0 : Int32)), (.ref b_q6)]) (lenOf pd__II_I rfl) rfl (by show 2 * 0 + _ ≤ _; exact Nat.le_of_eq rfl) (hb hby d2_75) (fun _ _ => ⟨rfl, e_q10, (by decide : 1 + 0 ≤ _), (by decide : 3 + 0 ≤ _)⟩)
  dsimp only [Pt.U, Pt.locs, Pt.cells, Pt.slots] at X_q11 l_q11 y_q11 z_q11 st_q11 hQ_q11
  subst l_q11 y_q11 z_q11
  obtain ⟨rfl, Nq_q11, eq_q11⟩ := hQ_q11
  have Kq_q11 : Keep h_q7 T_q11.heap [] := by rw [eq_q11]; exact Keep.refl _ _
  have N_q11 := Fr.app N_q7 Nq_q11
  have F_elements_a1__q11 := F_elements_a1__q7.keep Kq_q11 nin0
  have F_pages_a1__q11 := F_pages_a1__q7.keep Kq_q11 nin0
  have V_b_q6__q11 := V_b_q6__q7.keep Kq_q11 nin0
  have K_q11 : Keep h0 T_q11.heap [a1] := K_q7.trans Kq_q11 all0
  obtain ⟨T_q13, h_q13, k_q13, X_q13, e_q13, E_q13, A_q13, EX_q13, O_q13, st_q13⟩ := newRE X_q11 hx hZ hown (own_w hw 21 rfl) (own_w hw 22 rfl) rfl (g := (mkF m 78 #[.val (.ref a1), .val (.int p2), .val .null, .val (.int (0 : Int32))] [(.int z0), (.int (0 : Int32)), (.ref b_q6)])) rfl (hb hby d2_78) rfl hc_q14 (cap := 65536) hc_q15 (by decide) (by decide) (by decide) (ad := "[Ljava/lang/Object;") (by decide)
  obtain ⟨b_q13, g_q13⟩ : ∃ z, z = T_q11.heap.size := ⟨_, rfl⟩
  rw [← g_q13] at A_q13 EX_q13 st_q13
  have ne_b_q6_b_q13 : b_q6 ≠ b_q13 := Nat.ne_of_lt (Nat.lt_of_lt_of_le V_b_q6__q11.lt (Nat.le_of_eq g_q13.symm))
  have sz_b_q13 : h0.size ≤ b_q13 := Nat.le_trans K_q11.1 (Nat.le_of_eq g_q13.symm)
  have K_q13 : Keep h0 h_q13 [a1] := K_q11.ext E_q13
  have F_elements_a1__q13 := F_elements_a1__q11.ext E_q13
  have F_pages_a1__q13 := F_pages_a1__q11.ext E_q13
  have V_b_q6__q13 := V_b_q6__q11.ext E_q13
  have V_b_q13 : Arv Z h_q13 b_q13 k_q13 (.object "java/lang/Object") z0 (own_R (z0).toNatClampNeg (fun _ => .null)) .null := (Arv.new A_q13 hc_q14).pad (own_R_new _)
  obtain ⟨cl_q16, Ar_q16, qk_q16, S_q16, Nn_q16, H_q16, G_q16⟩ := id V_b_q6__q13
  have hin_q16 : ¬ ((0 : Int32) < 0 ∨ cl_q16.slots.size ≤ ((0 : Int32)).toNatClampNeg) := inb_of S_q16 ⟨by decide, by decide⟩
  have lt_q16 : ((0 : Int32)).toNatClampNeg < ((3 : Int32)).toNatClampNeg := by have q := Nat.lt_of_not_le fun q => hin_q16 (Or.inr q); rw [S_q16] at q; exact q
  obtain ⟨T_q16, h_q16, X_q16, e_q16, W_q16, st_q16⟩ := stR X_q13 hx hZ e_q13 Ar_q16 (j := (0 : Int32)) hin_q16 rfl (Sto.ofVA Ar_q16 qk_q16 O_q6 (Ins.self EX_q13)) (g := (mkF m 81 #[.val (.ref a1), .val (.int p2), .val .null, .val (.int (0 : Int32))] [(.ref b_q13), (.int (0 : Int32)), (.ref b_q6)])) rfl rfl (hb hby d2_81)
  have F_elements_a1__q16 := F_elements_a1__q13.other W_q16 (Or.inl ne_a1_b_q6)
  have F_pages_a1__q16 := F_pages_a1__q13.other W_q16 (Or.inl ne_a1_b_q6)
  have V_b_q13__q16 := V_b_q13.other W_q16 (Ne.symm ne_b_q6_b_q13)
  have V_b_q6__q16 : Arv Z h_q16 b_q6 k_q6 (.array (.object "java/lang/Object")) (3 : Int32) (own_R ((3 : Int32)).toNatClampNeg (own_up (fun _ => .null) ((0 : Int32)).toNatClampNeg (.ref b_q13))) .null := by rw [← own_R_set]; exact Arv.set Ar_q16 qk_q16 S_q16 Nn_q16 H_q16 G_q16 rfl W_q16 _ rfl (by rw [own_R_len]; exact lt_q16)
  have K_q16 : Keep h0 h_q16 [a1] := K_q13.wr W_q16 (Or.inr sz_b_q6)
  have N_q16 := Fr.snoc X_q16 N_q11 ge_b_q6
  obtain ⟨T_q17, X_q17, e_q17, st_q17⟩ := getF X_q16 hx hZ hown (host := "") (Or.inl (own_w hw 25 rfl)) Via.refl e_q16 F_pages_a1__q16 (g := (mkF m 55 #[.val (.ref a1), .val (.int p2), .val .null, .val (.int (1 : Int32))] [(.ref a1), (.int (1 : Int32))])) rfl rfl (hb hby d2_55)
  obtain ⟨cl_q18, Ar_q18, qk_q18, S_q18, Nn_q18, H_q18, G_q18⟩ := id V_b_q6__q16
  obtain ⟨T_q19, X_q19, e_q19, st_q19⟩ := getF X_q17 hx hZ hown (host := "") (Or.inl (own_w hw 25 rfl)) Via.refl e_q17 F_pages_a1__q16 (g := (mkF m 63 #[.val (.ref a1), .val (.int p2), .val .null, .val (.int (1 : Int32))] [(.ref a1)])) rfl rfl (hb hby d2_63)
  obtain ⟨_, _, ⟨T_q20, L_q20, k_q20, n_q20⟩, -, X_q20, ⟨Lc_q20, hQ_q20, l_q20, y_q20, z_q20⟩, st_q20⟩ := Jvm.LawKit.callS X_q19 hx (y := (⟨"java/lang/Math", "min", "(II)I"⟩ : MethodName)) hown (mvT hZ (own_w hw 52 rfl)) (mvT hZ (own_w hw 53 rfl)) (mvT hZ (own_w hw 54 rfl)) (mvT hZ (own_w hw 55 rfl)) (by decide) (backOf (W := 2) (rm8 l Z a0 hw [] (65536 : Int32) (p2 - (65536 : Int32)) h_q16 n0 (Nat.le_trans Z0 K_q16.1)) hZ (own_w hw 55 rfl) (own_w hw 54 rfl) (by decide) (by decide)) (g := (mkF m 75 #[.val (.ref a1), .val (.int p2), .val .null, .val (.int (1 : Int32))] [(.int (p2 - (65536 : Int32))), (.int (65536 : Int32)), (.int (1 : Int32)), (.ref b_q6)])) rfl (by rw [hml]; rfl) (argsL := [(.int (65536 : Int32)), (.int (p2 - (65536 : Int32)))]) (rest := [(.int (1 : Int32)), (.ref b_q6)]) (lenOf pd__II_I rfl) rfl (by show 2 * 0 + _ ≤ _; exact Nat.le_of_eq rfl) (hb hby d2_75) (fun _ _ => ⟨rfl, e_q19, (by decide : 2 + 0 ≤ _), (by decide : 65539 + 0 ≤ _)⟩)
  dsimp only [Pt.U, Pt.locs, Pt.cells, Pt.slots] at X_q20 l_q20 y_q20 z_q20 st_q20 hQ_q20
  subst l_q20 y_q20 z_q20
  obtain ⟨rfl, Nq_q20, eq_q20⟩ := hQ_q20
  have Kq_q20 : Keep h_q16 T_q20.heap [] := by rw [eq_q20]; exact Keep.refl _ _
  have N_q20 := Fr.app N_q16 Nq_q20
  have F_elements_a1__q20 := F_elements_a1__q16.keep Kq_q20 nin0
  have F_pages_a1__q20 := F_pages_a1__q16.keep Kq_q20 nin0
  have V_b_q6__q20 := V_b_q6__q16.keep Kq_q20 nin0
  have V_b_q13__q20 := V_b_q13__q16.keep Kq_q20 nin0
  have K_q20 : Keep h0 T_q20.heap [a1] := K_q16.trans Kq_q20 all0
  obtain ⟨T_q22, h_q22, k_q22, X_q22, e_q22, E_q22, A_q22, EX_q22, O_q22, st_q22⟩ := newRE X_q20 hx hZ hown (own_w hw 21 rfl) (own_w hw 22 rfl) rfl (g := (mkF m 78 #[.val (.ref a1), .val (.int p2), .val .null, .val (.int (1 : Int32))] [(.int z1), (.int (1 : Int32)), (.ref b_q6)])) rfl (hb hby d2_78) rfl hc_q23 (cap := 65536) hc_q24 (by decide) (by decide) (by decide) (ad := "[Ljava/lang/Object;") (by decide)
  obtain ⟨b_q22, g_q22⟩ : ∃ z, z = T_q20.heap.size := ⟨_, rfl⟩
  rw [← g_q22] at A_q22 EX_q22 st_q22
  have ne_b_q6_b_q22 : b_q6 ≠ b_q22 := Nat.ne_of_lt (Nat.lt_of_lt_of_le V_b_q6__q20.lt (Nat.le_of_eq g_q22.symm))
  have ne_b_q13_b_q22 : b_q13 ≠ b_q22 := Nat.ne_of_lt (Nat.lt_of_lt_of_le V_b_q13__q20.lt (Nat.le_of_eq g_q22.symm))
  have sz_b_q22 : h0.size ≤ b_q22 := Nat.le_trans K_q20.1 (Nat.le_of_eq g_q22.symm)
  have K_q22 : Keep h0 h_q22 [a1] := K_q20.ext E_q22
  have F_elements_a1__q22 := F_elements_a1__q20.ext E_q22
  have F_pages_a1__q22 := F_pages_a1__q20.ext E_q22
  have V_b_q6__q22 := V_b_q6__q20.ext E_q22
  have V_b_q13__q22 := V_b_q13__q20.ext E_q22
  have V_b_q22 : Arv Z h_q22 b_q22 k_q22 (.object "java/lang/Object") z1 (own_R (z1).toNatClampNeg (fun _ => .null)) .null := (Arv.new A_q22 hc_q23).pad (own_R_new _)
  obtain ⟨cl_q25, Ar_q25, qk_q25, S_q25, Nn_q25, H_q25, G_q25⟩ := id V_b_q6__q22
  have hin_q25 : ¬ ((1 : Int32) < 0 ∨ cl_q25.slots.size ≤ ((1 : Int32)).toNatClampNeg) := inb_of S_q25 ⟨by decide, by decide⟩
  have lt_q25 : ((1 : Int32)).toNatClampNeg < ((3 : Int32)).toNatClampNeg := by have q := Nat.lt_of_not_le fun q => hin_q25 (Or.inr q); rw [S_q25] at q; exact q
  obtain ⟨T_q25, h_q25, X_q25, e_q25, W_q25, st_q25⟩ := stR X_q22 hx hZ e_q22 Ar_q25 (j := (1 : Int32)) hin_q25 rfl (Sto.ofVA Ar_q25 qk_q25 O_q6 (Ins.self EX_q22)) (g := (mkF m 81 #[.val (.ref a1), .val (.int p2), .val .null, .val (.int (1 : Int32))] [(.ref b_q22), (.int (1 : Int32)), (.ref b_q6)])) rfl rfl (hb hby d2_81)
  have F_elements_a1__q25 := F_elements_a1__q22.other W_q25 (Or.inl ne_a1_b_q6)
  have F_pages_a1__q25 := F_pages_a1__q22.other W_q25 (Or.inl ne_a1_b_q6)
  have V_b_q13__q25 := V_b_q13__q22.other W_q25 (Ne.symm ne_b_q6_b_q13)
  have V_b_q22__q25 := V_b_q22.other W_q25 (Ne.symm ne_b_q6_b_q22)
  have V_b_q6__q25 : Arv Z h_q25 b_q6 k_q6 (.array (.object "java/lang/Object")) (3 : Int32) (own_R ((3 : Int32)).toNatClampNeg (own_up (own_up (fun _ => .null) ((0 : Int32)).toNatClampNeg (.ref b_q13)) ((1 : Int32)).toNatClampNeg (.ref b_q22))) .null := by rw [← own_R_set]; exact Arv.set Ar_q25 qk_q25 S_q25 Nn_q25 H_q25 G_q25 rfl W_q25 _ rfl (by rw [own_R_len]; exact lt_q25)
  have K_q25 : Keep h0 h_q25 [a1] := K_q22.wr W_q25 (Or.inr sz_b_q6)
  have N_q25 := Fr.snoc X_q25 N_q20 ge_b_q6
  obtain ⟨T_q26, X_q26, e_q26, st_q26⟩ := getF X_q25 hx hZ hown (host := "") (Or.inl (own_w hw 25 rfl)) Via.refl e_q25 F_pages_a1__q25 (g := (mkF m 55 #[.val (.ref a1), .val (.int p2), .val .null, .val (.int (2 : Int32))] [(.ref a1), (.int (2 : Int32))])) rfl rfl (hb hby d2_55)
  obtain ⟨cl_q27, Ar_q27, qk_q27, S_q27, Nn_q27, H_q27, G_q27⟩ := id V_b_q6__q25
  obtain ⟨T_q28, X_q28, e_q28, st_q28⟩ := getF X_q26 hx hZ hown (host := "") (Or.inl (own_w hw 25 rfl)) Via.refl e_q26 F_pages_a1__q25 (g := (mkF m 63 #[.val (.ref a1), .val (.int p2), .val .null, .val (.int (2 : Int32))] [(.ref a1)])) rfl rfl (hb hby d2_63)
  obtain ⟨_, _, ⟨T_q29, L_q29, k_q29, n_q29⟩, -, X_q29, ⟨Lc_q29, hQ_q29, l_q29, y_q29, z_q29⟩, st_q29⟩ := Jvm.LawKit.callS X_q28 hx (y := (⟨"java/lang/Math", "min", "(II)I"⟩ : MethodName)) hown (mvT hZ (own_w hw 52 rfl)) (mvT hZ (own_w hw 53 rfl)) (mvT hZ (own_w hw 54 rfl)) (mvT hZ (own_w hw 55 rfl)) (by decide) (backOf (W := 2) (rm8 l Z a0 hw [] (65536 : Int32) (p2 - (131072 : Int32)) h_q25 n0 (Nat.le_trans Z0 K_q25.1)) hZ (own_w hw 55 rfl) (own_w hw 54 rfl) (by decide) (by decide)) (g := (mkF m 75 #[.val (.ref a1), .val (.int p2), .val .null, .val (.int (2 : Int32))] [(.int (p2 - (131072 : Int32))), (.int (65536 : Int32)), (.int (2 : Int32)), (.ref b_q6)])) rfl (by rw [hml]; rfl) (argsL := [(.int (65536 : Int32)), (.int (p2 - (131072 : Int32)))]) (rest := [(.int (2 : Int32)), (.ref b_q6)]) (lenOf pd__II_I rfl) rfl (by show 2 * 0 + _ ≤ _; exact Nat.le_of_eq rfl) (hb hby d2_75) (fun _ _ => ⟨rfl, e_q28, (by decide : 3 + 0 ≤ _), (by decide : 131075 + 0 ≤ _)⟩)
  dsimp only [Pt.U, Pt.locs, Pt.cells, Pt.slots] at X_q29 l_q29 y_q29 z_q29 st_q29 hQ_q29
  subst l_q29 y_q29 z_q29
  obtain ⟨rfl, Nq_q29, eq_q29⟩ := hQ_q29
  have Kq_q29 : Keep h_q25 T_q29.heap [] := by rw [eq_q29]; exact Keep.refl _ _
  have N_q29 := Fr.app N_q25 Nq_q29
  have F_elements_a1__q29 := F_elements_a1__q25.keep Kq_q29 nin0
  have F_pages_a1__q29 := F_pages_a1__q25.keep Kq_q29 nin0
  have V_b_q6__q29 := V_b_q6__q25.keep Kq_q29 nin0
  have V_b_q13__q29 := V_b_q13__q25.keep Kq_q29 nin0
  have V_b_q22__q29 := V_b_q22__q25.keep Kq_q29 nin0
  have K_q29 : Keep h0 T_q29.heap [a1] := K_q25.trans Kq_q29 all0
  obtain ⟨T_q31, h_q31, k_q31, X_q31, e_q31, E_q31, A_q31, EX_q31, O_q31, st_q31⟩ := newRE X_q29 hx hZ hown (own_w hw 21 rfl) (own_w hw 22 rfl) rfl (g := (mkF m 78 #[.val (.ref a1), .val (.int p2), .val .null, .val (.int (2 : Int32))] [(.int z2), (.int (2 : Int32)), (.ref b_q6)])) rfl (hb hby d2_78) rfl hc_q32 (cap := 65536) hc_q33 (by decide) (by decide) (by decide) (ad := "[Ljava/lang/Object;") (by decide)
  obtain ⟨b_q31, g_q31⟩ : ∃ z, z = T_q29.heap.size := ⟨_, rfl⟩
  rw [← g_q31] at A_q31 EX_q31 st_q31
  have ne_b_q6_b_q31 : b_q6 ≠ b_q31 := Nat.ne_of_lt (Nat.lt_of_lt_of_le V_b_q6__q29.lt (Nat.le_of_eq g_q31.symm))
  have ne_b_q13_b_q31 : b_q13 ≠ b_q31 := Nat.ne_of_lt (Nat.lt_of_lt_of_le V_b_q13__q29.lt (Nat.le_of_eq g_q31.symm))
  have ne_b_q22_b_q31 : b_q22 ≠ b_q31 := Nat.ne_of_lt (Nat.lt_of_lt_of_le V_b_q22__q29.lt (Nat.le_of_eq g_q31.symm))
  have sz_b_q31 : h0.size ≤ b_q31 := Nat.le_trans K_q29.1 (Nat.le_of_eq g_q31.symm)
  have K_q31 : Keep h0 h_q31 [a1] := K_q29.ext E_q31
  have F_elements_a1__q31 := F_elements_a1__q29.ext E_q31
  have F_pages_a1__q31 := F_pages_a1__q29.ext E_q31
  have V_b_q6__q31 := V_b_q6__q29.ext E_q31
  have V_b_q13__q31 := V_b_q13__q29.ext E_q31
  have V_b_q22__q31 := V_b_q22__q29.ext E_q31
  have V_b_q31 : Arv Z h_q31 b_q31 k_q31 (.object "java/lang/Object") z2 (own_R (z2).toNatClampNeg (fun _ => .null)) .null := (Arv.new A_q31 hc_q32).pad (own_R_new _)
  obtain ⟨cl_q34, Ar_q34, qk_q34, S_q34, Nn_q34, H_q34, G_q34⟩ := id V_b_q6__q31
  have hin_q34 : ¬ ((2 : Int32) < 0 ∨ cl_q34.slots.size ≤ ((2 : Int32)).toNatClampNeg) := inb_of S_q34 ⟨by decide, by decide⟩
  have lt_q34 : ((2 : Int32)).toNatClampNeg < ((3 : Int32)).toNatClampNeg := by have q := Nat.lt_of_not_le fun q => hin_q34 (Or.inr q); rw [S_q34] at q; exact q
  obtain ⟨T_q34, h_q34, X_q34, e_q34, W_q34, st_q34⟩ := stR X_q31 hx hZ e_q31 Ar_q34 (j := (2 : Int32)) hin_q34 rfl (Sto.ofVA Ar_q34 qk_q34 O_q6 (Ins.self EX_q31)) (g := (mkF m 81 #[.val (.ref a1), .val (.int p2), .val .null, .val (.int (2 : Int32))] [(.ref b_q31), (.int (2 : Int32)), (.ref b_q6)])) rfl rfl (hb hby d2_81)
  have F_elements_a1__q34 := F_elements_a1__q31.other W_q34 (Or.inl ne_a1_b_q6)
  have F_pages_a1__q34 := F_pages_a1__q31.other W_q34 (Or.inl ne_a1_b_q6)
  have V_b_q13__q34 := V_b_q13__q31.other W_q34 (Ne.symm ne_b_q6_b_q13)
  have V_b_q22__q34 := V_b_q22__q31.other W_q34 (Ne.symm ne_b_q6_b_q22)
  have V_b_q31__q34 := V_b_q31.other W_q34 (Ne.symm ne_b_q6_b_q31)
  have V_b_q6__q34 : Arv Z h_q34 b_q6 k_q6 (.array (.object "java/lang/Object")) (3 : Int32) (own_R ((3 : Int32)).toNatClampNeg (own_up (own_up (own_up (fun _ => .null) ((0 : Int32)).toNatClampNeg (.ref b_q13)) ((1 : Int32)).toNatClampNeg (.ref b_q22)) ((2 : Int32)).toNatClampNeg (.ref b_q31))) .null := by rw [← own_R_set]; exact Arv.set Ar_q34 qk_q34 S_q34 Nn_q34 H_q34 G_q34 rfl W_q34 _ rfl (by rw [own_R_len]; exact lt_q34)
  have K_q34 : Keep h0 h_q34 [a1] := K_q31.wr W_q34 (Or.inr sz_b_q6)
  have N_q34 := Fr.snoc X_q34 N_q29 ge_b_q6
  obtain ⟨T_q35, X_q35, e_q35, st_q35⟩ := getF X_q34 hx hZ hown (host := "") (Or.inl (own_w hw 25 rfl)) Via.refl e_q34 F_pages_a1__q34 (g := (mkF m 55 #[.val (.ref a1), .val (.int p2), .val .null, .val (.int (3 : Int32))] [(.ref a1), (.int (3 : Int32))])) rfl rfl (hb hby d2_55)
  obtain ⟨cl_q36, Ar_q36, qk_q36, S_q36, Nn_q36, H_q36, G_q36⟩ := id V_b_q6__q34
  obtain ⟨fs, hr, hrun, hended, hW, hsame⟩ := X_q35.leave (v := none) (fun _ => rfl) Bd.notSynchronized
  refine ⟨_, _, pre0 _ ?_, hrun, hended, _, _, rfl, ?_, ⟨_, rfl⟩, hW, hsame.mono (by decide) (by decide)⟩
  · show Steps p.tables e below (s₁.setTop (mkF m 0 #[.val (.ref a1), .val (.int p2), .val .null, .unset] [])) _
    refine XS.aloadN X0.here hx rfl (hb hby d2_0) rfl rfl ?_
    show Steps p.tables e below (s₁.setTop (mkF m 1 #[.val (.ref a1), .val (.int p2), .val .null, .unset] [(.ref a1)])) _
    refine st_q2 _ ?_
    refine XS.aloadN X_q2.here hx rfl (hb hby d2_4) rfl rfl ?_
    refine XS.iloadN X_q2.here hx rfl (hb hby d2_5) rfl ?_
    show Steps p.tables e below (T_q2.setTop (mkF m 6 #[.val (.ref a1), .val (.int p2), .val .null, .unset] [(.int p2), (.ref a1)])) _
    refine st_q3 _ ?_
    refine XS.iloadN X_q3.here hx rfl (hb hby d2_9) rfl ?_
    show Steps p.tables e below (T_q3.setTop (mkF m 10 #[.val (.ref a1), .val (.int p2), .val .null, .unset] [(.int p2)])) _
    refine X_q3.ldcInt hx hown (mvT hZ (own_w hw 20 rfl)) (g := (mkF m 10 #[.val (.ref a1), .val (.int p2), .val .null, .unset] [(.int p2)])) rfl (hb hby d2_10) _ ?_
    refine XS.icmpYes X_q3.here hx rfl (pc0 := 12) (pc' := 31) rfl (hb hby d2_12) rfl (tlt hc_q4).2.2.1 (by decide) (by decide) ?_
    refine XS.aloadN X_q3.here hx rfl (hb hby d2_31) rfl rfl ?_
    refine XS.aconstNull X_q3.here hx rfl (hb hby d2_32) ?_
    show Steps p.tables e below (T_q3.setTop (mkF m 33 #[.val (.ref a1), .val (.int p2), .val .null, .unset] [.null, (.ref a1)])) _
    refine st_q5 _ ?_
    refine XS.aloadN X_q5.here hx rfl (hb hby d2_36) rfl rfl ?_
    refine XS.iloadN X_q5.here hx rfl (hb hby d2_37) rfl ?_
    refine XS.iconst X_q5.here hx rfl (hb hby d2_38) ?_
    show Steps p.tables e below (T_q5.setTop (mkF m 39 #[.val (.ref a1), .val (.int p2), .val .null, .unset] [(.int (1 : Int32)), (.int p2), (.ref a1)])) _
    refine XS.isub X_q5.here hx rfl (hb hby d2_39) rfl ?_
    refine XS.bipush X_q5.here hx rfl (hb hby d2_40) ?_
    refine XS.iushr X_q5.here hx rfl (hb hby d2_42) rfl ?_
    refine XS.iconst X_q5.here hx rfl (hb hby d2_43) ?_
    show Steps p.tables e below (T_q5.setTop (mkF m 44 #[.val (.ref a1), .val (.int p2), .val .null, .unset] [(.int (1 : Int32)), (.int (((p2 - (1 : Int32)).toUInt32 >>> ((16 : Int32) &&& 31).toUInt32).toInt32)), (.ref a1)])) _
    refine XS.iadd X_q5.here hx rfl (hb hby d2_44) rfl ?_
    show Steps p.tables e below (T_q5.setTop (mkF m 45 #[.val (.ref a1), .val (.int p2), .val .null, .unset] [(.int ((((p2 - (1 : Int32)).toUInt32 >>> ((16 : Int32) &&& 31).toUInt32).toInt32) + (1 : Int32))), (.ref a1)])) _
    rw [hc_q1]
    show Steps p.tables e below (T_q5.setTop (mkF m 45 #[.val (.ref a1), .val (.int p2), .val .null, .unset] [(.int (3 : Int32)), (.ref a1)])) _
    refine st_q6 _ ?_
    show Steps p.tables e below (T_q6.setTop (mkF m 48 #[.val (.ref a1), .val (.int p2), .val .null, .unset] [(.ref b_q6), (.ref a1)])) _
    refine st_q7 _ ?_
    refine XS.iconst X_q7.here hx rfl (hb hby d2_51) ?_
    refine XS.istoreN X_q7.here hx rfl (hb hby d2_52) rfl (l' := #[.val (.ref a1), .val (.int p2), .val .null, .val (.int (0 : Int32))]) rfl ?_
    refine XS.iloadN X_q7.here hx rfl (hb hby d2_53) rfl ?_
    show Steps p.tables e below (T_q7.setTop (mkF m 54 #[.val (.ref a1), .val (.int p2), .val .null, .val (.int (0 : Int32))] [(.int (0 : Int32))])) _
    refine XS.aloadN X_q7.here hx rfl (hb hby d2_54) rfl rfl ?_
    show Steps p.tables e below (T_q7.setTop (mkF m 55 #[.val (.ref a1), .val (.int p2), .val .null, .val (.int (0 : Int32))] [(.ref a1), (.int (0 : Int32))])) _
    refine st_q8 _ ?_
    show Steps p.tables e below (T_q8.setTop (mkF m 58 #[.val (.ref a1), .val (.int p2), .val .null, .val (.int (0 : Int32))] [(.ref b_q6), (.int (0 : Int32))])) _
    refine X_q8.arraylength hx (by rw [e_q8]; exact Ar_q9.1) (State.isArrayOf_alike hZ.alike Ar_q9.2.1) (g := (mkF m 58 #[.val (.ref a1), .val (.int p2), .val .null, .val (.int (0 : Int32))] [(.ref b_q6), (.int (0 : Int32))])) rfl rfl (hb hby d2_58) _ ?_
    rw [len_of S_q9 Nn_q9]
    refine XS.icmpNo X_q8.here hx rfl (hb hby d2_59) rfl (tlt (by decide : (0 : Int32) < (3 : Int32))).2.1 ?_
    refine XS.aloadN X_q8.here hx rfl (hb hby d2_62) rfl rfl ?_
    show Steps p.tables e below (T_q8.setTop (mkF m 63 #[.val (.ref a1), .val (.int p2), .val .null, .val (.int (0 : Int32))] [(.ref a1)])) _
    refine st_q10 _ ?_
    refine XS.iloadN X_q10.here hx rfl (hb hby d2_66) rfl ?_
    show Steps p.tables e below (T_q10.setTop (mkF m 67 #[.val (.ref a1), .val (.int p2), .val .null, .val (.int (0 : Int32))] [(.int (0 : Int32)), (.ref b_q6)])) _
    refine X_q10.ldcInt hx hown (mvT hZ (own_w hw 20 rfl)) (g := (mkF m 67 #[.val (.ref a1), .val (.int p2), .val .null, .val (.int (0 : Int32))] [(.int (0 : Int32)), (.ref b_q6)])) rfl (hb hby d2_67) _ ?_
    refine XS.iloadN X_q10.here hx rfl (hb hby d2_69) rfl ?_
    refine XS.iloadN X_q10.here hx rfl (hb hby d2_70) rfl ?_
    refine XS.bipush X_q10.here hx rfl (hb hby d2_71) ?_
    show Steps p.tables e below (T_q10.setTop (mkF m 73 #[.val (.ref a1), .val (.int p2), .val .null, .val (.int (0 : Int32))] [(.int (16 : Int32)), (.int (0 : Int32)), (.int p2), (.int (65536 : Int32)), (.int (0 : Int32)), (.ref b_q6)])) _
    refine XS.ishl X_q10.here hx rfl (hb hby d2_73) rfl ?_
    refine XS.isub X_q10.here hx rfl (hb hby d2_74) rfl ?_
    show Steps p.tables e below (T_q10.setTop (mkF m 75 #[.val (.ref a1), .val (.int p2), .val .null, .val (.int (0 : Int32))] [(.int (p2 - (0 : Int32))), (.int (65536 : Int32)), (.int (0 : Int32)), (.ref b_q6)])) _
    refine st_q11 _ ?_
    show Steps p.tables e below (T_q11.setTop (mkF m 78 #[.val (.ref a1), .val (.int p2), .val .null, .val (.int (0 : Int32))] [(.int (F8_0 (65536 : Int32) (p2 - (0 : Int32)))), (.int (0 : Int32)), (.ref b_q6)])) _
    rw [hc_q12]
    show Steps p.tables e below (T_q11.setTop (mkF m 78 #[.val (.ref a1), .val (.int p2), .val .null, .val (.int (0 : Int32))] [(.int z0), (.int (0 : Int32)), (.ref b_q6)])) _
    refine st_q13 _ ?_
    show Steps p.tables e below (T_q13.setTop (mkF m 81 #[.val (.ref a1), .val (.int p2), .val .null, .val (.int (0 : Int32))] [(.ref b_q13), (.int (0 : Int32)), (.ref b_q6)])) _
    refine st_q16 _ ?_
    refine XS.iinc X_q16.here hx rfl (hb hby d2_82) rfl (l' := #[.val (.ref a1), .val (.int p2), .val .null, .val (.int ((0 : Int32) + (1 : Int32)))]) rfl ?_
    refine XS.goto X_q16.here hx rfl (pc0 := 85) (pc' := 53) rfl (hb hby d2_85) (by decide) (by decide) ?_
    refine XS.iloadN X_q16.here hx rfl (hb hby d2_53) rfl ?_
    show Steps p.tables e below (T_q16.setTop (mkF m 54 #[.val (.ref a1), .val (.int p2), .val .null, .val (.int (1 : Int32))] [(.int (1 : Int32))])) _
    refine XS.aloadN X_q16.here hx rfl (hb hby d2_54) rfl rfl ?_
    show Steps p.tables e below (T_q16.setTop (mkF m 55 #[.val (.ref a1), .val (.int p2), .val .null, .val (.int (1 : Int32))] [(.ref a1), (.int (1 : Int32))])) _
    refine st_q17 _ ?_
    show Steps p.tables e below (T_q17.setTop (mkF m 58 #[.val (.ref a1), .val (.int p2), .val .null, .val (.int (1 : Int32))] [(.ref b_q6), (.int (1 : Int32))])) _
    refine X_q17.arraylength hx (by rw [e_q17]; exact Ar_q18.1) (State.isArrayOf_alike hZ.alike Ar_q18.2.1) (g := (mkF m 58 #[.val (.ref a1), .val (.int p2), .val .null, .val (.int (1 : Int32))] [(.ref b_q6), (.int (1 : Int32))])) rfl rfl (hb hby d2_58) _ ?_
    rw [len_of S_q18 Nn_q18]
    refine XS.icmpNo X_q17.here hx rfl (hb hby d2_59) rfl (tlt (by decide : (1 : Int32) < (3 : Int32))).2.1 ?_
    refine XS.aloadN X_q17.here hx rfl (hb hby d2_62) rfl rfl ?_
    show Steps p.tables e below (T_q17.setTop (mkF m 63 #[.val (.ref a1), .val (.int p2), .val .null, .val (.int (1 : Int32))] [(.ref a1)])) _
    refine st_q19 _ ?_
    refine XS.iloadN X_q19.here hx rfl (hb hby d2_66) rfl ?_
    show Steps p.tables e below (T_q19.setTop (mkF m 67 #[.val (.ref a1), .val (.int p2), .val .null, .val (.int (1 : Int32))] [(.int (1 : Int32)), (.ref b_q6)])) _
    refine X_q19.ldcInt hx hown (mvT hZ (own_w hw 20 rfl)) (g := (mkF m 67 #[.val (.ref a1), .val (.int p2), .val .null, .val (.int (1 : Int32))] [(.int (1 : Int32)), (.ref b_q6)])) rfl (hb hby d2_67) _ ?_
    refine XS.iloadN X_q19.here hx rfl (hb hby d2_69) rfl ?_
    refine XS.iloadN X_q19.here hx rfl (hb hby d2_70) rfl ?_
    refine XS.bipush X_q19.here hx rfl (hb hby d2_71) ?_
    show Steps p.tables e below (T_q19.setTop (mkF m 73 #[.val (.ref a1), .val (.int p2), .val .null, .val (.int (1 : Int32))] [(.int (16 : Int32)), (.int (1 : Int32)), (.int p2), (.int (65536 : Int32)), (.int (1 : Int32)), (.ref b_q6)])) _
    refine XS.ishl X_q19.here hx rfl (hb hby d2_73) rfl ?_
    refine XS.isub X_q19.here hx rfl (hb hby d2_74) rfl ?_
    show Steps p.tables e below (T_q19.setTop (mkF m 75 #[.val (.ref a1), .val (.int p2), .val .null, .val (.int (1 : Int32))] [(.int (p2 - (65536 : Int32))), (.int (65536 : Int32)), (.int (1 : Int32)), (.ref b_q6)])) _
    refine st_q20 _ ?_
    show Steps p.tables e below (T_q20.setTop (mkF m 78 #[.val (.ref a1), .val (.int p2), .val .null, .val (.int (1 : Int32))] [(.int (F8_0 (65536 : Int32) (p2 - (65536 : Int32)))), (.int (1 : Int32)), (.ref b_q6)])) _
    rw [hc_q21]
    show Steps p.tables e below (T_q20.setTop (mkF m 78 #[.val (.ref a1), .val (.int p2), .val .null, .val (.int (1 : Int32))] [(.int z1), (.int (1 : Int32)), (.ref b_q6)])) _
    refine st_q22 _ ?_
    show Steps p.tables e below (T_q22.setTop (mkF m 81 #[.val (.ref a1), .val (.int p2), .val .null, .val (.int (1 : Int32))] [(.ref b_q22), (.int (1 : Int32)), (.ref b_q6)])) _
    refine st_q25 _ ?_
    refine XS.iinc X_q25.here hx rfl (hb hby d2_82) rfl (l' := #[.val (.ref a1), .val (.int p2), .val .null, .val (.int ((1 : Int32) + (1 : Int32)))]) rfl ?_
    refine XS.goto X_q25.here hx rfl (pc0 := 85) (pc' := 53) rfl (hb hby d2_85) (by decide) (by decide) ?_
    refine XS.iloadN X_q25.here hx rfl (hb hby d2_53) rfl ?_
    show Steps p.tables e below (T_q25.setTop (mkF m 54 #[.val (.ref a1), .val (.int p2), .val .null, .val (.int (2 : Int32))] [(.int (2 : Int32))])) _
    refine XS.aloadN X_q25.here hx rfl (hb hby d2_54) rfl rfl ?_
    show Steps p.tables e below (T_q25.setTop (mkF m 55 #[.val (.ref a1), .val (.int p2), .val .null, .val (.int (2 : Int32))] [(.ref a1), (.int (2 : Int32))])) _
    refine st_q26 _ ?_
    show Steps p.tables e below (T_q26.setTop (mkF m 58 #[.val (.ref a1), .val (.int p2), .val .null, .val (.int (2 : Int32))] [(.ref b_q6), (.int (2 : Int32))])) _
    refine X_q26.arraylength hx (by rw [e_q26]; exact Ar_q27.1) (State.isArrayOf_alike hZ.alike Ar_q27.2.1) (g := (mkF m 58 #[.val (.ref a1), .val (.int p2), .val .null, .val (.int (2 : Int32))] [(.ref b_q6), (.int (2 : Int32))])) rfl rfl (hb hby d2_58) _ ?_
    rw [len_of S_q27 Nn_q27]
    refine XS.icmpNo X_q26.here hx rfl (hb hby d2_59) rfl (tlt (by decide : (2 : Int32) < (3 : Int32))).2.1 ?_
    refine XS.aloadN X_q26.here hx rfl (hb hby d2_62) rfl rfl ?_
    show Steps p.tables e below (T_q26.setTop (mkF m 63 #[.val (.ref a1), .val (.int p2), .val .null, .val (.int (2 : Int32))] [(.ref a1)])) _
    refine st_q28 _ ?_
    refine XS.iloadN X_q28.here hx rfl (hb hby d2_66) rfl ?_
    show Steps p.tables e below (T_q28.setTop (mkF m 67 #[.val (.ref a1), .val (.int p2), .val .null, .val (.int (2 : Int32))] [(.int (2 : Int32)), (.ref b_q6)])) _
    refine X_q28.ldcInt hx hown (mvT hZ (own_w hw 20 rfl)) (g := (mkF m 67 #[.val (.ref a1), .val (.int p2), .val .null, .val (.int (2 : Int32))] [(.int (2 : Int32)), (.ref b_q6)])) rfl (hb hby d2_67) _ ?_
    refine XS.iloadN X_q28.here hx rfl (hb hby d2_69) rfl ?_
    refine XS.iloadN X_q28.here hx rfl (hb hby d2_70) rfl ?_
    refine XS.bipush X_q28.here hx rfl (hb hby d2_71) ?_
    show Steps p.tables e below (T_q28.setTop (mkF m 73 #[.val (.ref a1), .val (.int p2), .val .null, .val (.int (2 : Int32))] [(.int (16 : Int32)), (.int (2 : Int32)), (.int p2), (.int (65536 : Int32)), (.int (2 : Int32)), (.ref b_q6)])) _
    refine XS.ishl X_q28.here hx rfl (hb hby d2_73) rfl ?_
    refine XS.isub X_q28.here hx rfl (hb hby d2_74) rfl ?_
    show Steps p.tables e below (T_q28.setTop (mkF m 75 #[.val (.ref a1), .val (.int p2), .val .null, .val (.int (2 : Int32))] [(.int (p2 - (131072 : Int32))), (.int (65536 : Int32)), (.int (2 : Int32)), (.ref b_q6)])) _
    refine st_q29 _ ?_
    show Steps p.tables e below (T_q29.setTop (mkF m 78 #[.val (.ref a1), .val (.int p2), .val .null, .val (.int (2 : Int32))] [(.int (F8_0 (65536 : Int32) (p2 - (131072 : Int32)))), (.int (2 : Int32)), (.ref b_q6)])) _
    rw [hc_q30]
    show Steps p.tables e below (T_q29.setTop (mkF m 78 #[.val (.ref a1), .val (.int p2), .val .null, .val (.int (2 : Int32))] [(.int z2), (.int (2 : Int32)), (.ref b_q6)])) _
    refine st_q31 _ ?_
    show Steps p.tables e below (T_q31.setTop (mkF m 81 #[.val (.ref a1), .val (.int p2), .val .null, .val (.int (2 : Int32))] [(.ref b_q31), (.int (2 : Int32)), (.ref b_q6)])) _
    refine st_q34 _ ?_
    refine XS.iinc X_q34.here hx rfl (hb hby d2_82) rfl (l' := #[.val (.ref a1), .val (.int p2), .val .null, .val (.int ((2 : Int32) + (1 : Int32)))]) rfl ?_
    refine XS.goto X_q34.here hx rfl (pc0 := 85) (pc' := 53) rfl (hb hby d2_85) (by decide) (by decide) ?_
    refine XS.iloadN X_q34.here hx rfl (hb hby d2_53) rfl ?_
    show Steps p.tables e below (T_q34.setTop (mkF m 54 #[.val (.ref a1), .val (.int p2), .val .null, .val (.int (3 : Int32))] [(.int (3 : Int32))])) _
    refine XS.aloadN X_q34.here hx rfl (hb hby d2_54) rfl rfl ?_
    show Steps p.tables e below (T_q34.setTop (mkF m 55 #[.val (.ref a1), .val (.int p2), .val .null, .val (.int (3 : Int32))] [(.ref a1), (.int (3 : Int32))])) _
    refine st_q35 _ ?_
    show Steps p.tables e below (T_q35.setTop (mkF m 58 #[.val (.ref a1), .val (.int p2), .val .null, .val (.int (3 : Int32))] [(.ref b_q6), (.int (3 : Int32))])) _
    refine X_q35.arraylength hx (by rw [e_q35]; exact Ar_q36.1) (State.isArrayOf_alike hZ.alike Ar_q36.2.1) (g := (mkF m 58 #[.val (.ref a1), .val (.int p2), .val .null, .val (.int (3 : Int32))] [(.ref b_q6), (.int (3 : Int32))])) rfl rfl (hb hby d2_58) _ ?_
    rw [len_of S_q36 Nn_q36]
    refine XS.icmpYes X_q35.here hx rfl (pc0 := 59) (pc' := 88) rfl (hb hby d2_59) rfl (flt (by decide : ¬ ((3 : Int32) < (3 : Int32)))).2.1 (by decide) (by decide) ?_
    refine XS.aloadN X_q35.here hx rfl (hb hby d2_88) rfl rfl ?_
    refine XS.ifnullYes X_q35.here hx rfl (pc0 := 89) (pc' := 116) rfl (hb hby d2_89) rfl (by decide) (by decide) ?_
    show Steps p.tables e below (T_q35.setTop (mkF m 116 #[.val (.ref a1), .val (.int p2), .val .null, .val (.int (3 : Int32))] [])) _
    exact X_q35.returnOut hx Bd.returns (hb hby d2_116) hr
  · show Q_rmIP3n Z a1 p2 z0 z1 z2 h0 n0 _ T_q35.heap _
    rw [e_q35]
    exact ⟨b_q6, k_q6, b_q13, k_q13, b_q22, k_q22, b_q31, k_q31, rfl, N_q34, K_q34, sz_b_q6, sz_b_q13, sz_b_q22, sz_b_q31, ne_b_q6_b_q13, ne_b_q6_b_q22, ne_b_q6_b_q31, ne_b_q13_b_q22, ne_b_q13_b_q31, ne_b_q22_b_q31, F_elements_a1__q34, F_pages_a1__q34, V_b_q6__q34, V_b_q13__q34, O_q13, V_b_q22__q34, O_q22, V_b_q31__q34, O_q31⟩
def Q_rmIP3r (Z : State) (a1 y : Addr) (p2 z0 z1 z2 : Int32) (h0 : Heap) (n0 : Nat) (v : Option Value) (h : Heap) (L : List Loc) : Prop := ∃ (r0 : Addr) (kr0 : ClassId) (r1 : Addr) (kr1 : ClassId) (r2 : Addr) (kr2 : ClassId) (r3 : Addr) (kr3 : ClassId), v = none ∧ Fr n0 L ∧ Keep h0 h [a1] ∧ h0.size ≤ r0 ∧ h0.size ≤ r1 ∧ h0.size ≤ r2 ∧ h0.size ≤ r3 ∧ r0 ≠ r1 ∧ r0 ≠ r2 ∧ r0 ≠ r3 ∧ r1 ≠ r2 ∧ r1 ≠ r3 ∧ r2 ≠ r3 ∧ Fld Z h a1 "com/example/hashwright/hashwright/table/PagedArray" "elements" "[Ljava/lang/Object;" .null ∧ Fld Z h a1 "com/example/hashwright/hashwright/table/PagedArray" "pages" "[[Ljava/lang/Object;" (.ref r0) ∧ Arv Z h r0 kr0 (.array (.object "java/lang/Object")) (3 : Int32) (own_R ((3 : Int32)).toNatClampNeg (own_up (own_up (own_up (fun _ => .null) ((0 : Int32)).toNatClampNeg (.ref r1)) ((1 : Int32)).toNatClampNeg (.ref r2)) ((2 : Int32)).toNatClampNeg (.ref r3))) .null ∧ Arv Z h r1 kr1 (.object "java/lang/Object") z0 (own_R (z0).toNatClampNeg (fun _ => .ref y)) .null ∧ Ovr Z kr1 "java/lang/Object" ∧ Arv Z h r2 kr2 (.object "java/lang/Object") z1 (own_R (z1).toNatClampNeg (fun _ => .ref y)) .null ∧ Ovr Z kr2 "java/lang/Object" ∧ Arv Z h r3 kr3 (.object "java/lang/Object") z2 (own_R (z2).toNatClampNeg (fun _ => .ref y)) .null ∧ Ovr Z kr3 "java/lang/Object"
set_option maxRecDepth 65536 in
set_option maxHeartbeats 40000000 in
theorem rmIP3r (l : Launch) (Z : State) (a0 : Array Value) (hw : ∀ d ∈ tables_1, d.before a0 Z = true) (ws : List Jvm.Cond) (a1 y : Addr) (p2 z0 z1 z2 : Int32) (h0 : Heap) (n0 : Nat) (Z0 : n0 ≤ h0.size) (EX_a1 : Exa Z h0 a1 "com/example/hashwright/hashwright/table/PagedArray") (F_length_a1 : Fld Z h0 a1 "com/example/hashwright/hashwright/table/PagedArray" "length" "I" (.int (0 : Int32))) (F_elements_a1 : Fld Z h0 a1 "com/example/hashwright/hashwright/table/PagedArray" "elements" "[Ljava/lang/Object;" .null) (F_pages_a1 : Fld Z h0 a1 "com/example/hashwright/hashwright/table/PagedArray" "pages" "[[Ljava/lang/Object;" .null) (EX_y : Exa Z h0 y "java/lang/Integer") (ne_y_a1 : y ≠ a1) (ge_a1 : n0 ≤ a1) (hc_q1 : ((((p2 - (1 : Int32)).toUInt32 >>> ((16 : Int32) &&& 31).toUInt32).toInt32) + (1 : Int32)) = (3 : Int32)) (hc_q4 : (65536 : Int32) < p2) (hc_q12 : (F8_0 (65536 : Int32) (p2 - (0 : Int32))) = z0) (hc_q14 : ¬ (z0) < 0) (hc_q15 : (z0).toNatClampNeg ≤ 65536) (hc_q21 : (F8_0 (65536 : Int32) (p2 - (65536 : Int32))) = z1) (hc_q23 : ¬ (z1) < 0) (hc_q24 : (z1).toNatClampNeg ≤ 65536) (hc_q30 : (F8_0 (65536 : Int32) (p2 - (131072 : Int32))) = z2) (hc_q32 : ¬ (z2) < 0) (hc_q33 : (z2).toNatClampNeg ≤ 65536) (hc_q37 : (0 : Int32) < p2) (hc_q42 : (131072 : Int32) < p2) (hc_q45 : ¬ ((196608 : Int32) < p2)) :
    MetFree l (⟨"com/example/hashwright/hashwright/table/PagedArray", "<init>", "(ILjava/lang/Object;)V"⟩ : MethodName) (head1 (Jvm.Cond.code (⟨"com/example/hashwright/hashwright/table/PagedArray", "<init>", "(ILjava/lang/Object;)V"⟩ : MethodName) prog_72_method_2_code 4 none :: ws) ({ frames := 1, cells := 4, slots := 196611, locals := 60 } : Room)) (fun a U => a = #[(.ref a1), (.int p2), (.ref y)] ∧ Z.Warmed39 U.vm ∧ U.heap = h0) (fun _ _ _ _ _ => True) (fun _ U o U' => ∃ v L, o = .returned v ∧ Q_rmIP3r Z a1 y p2 z0 z1 z2 h0 n0 v U'.heap L ∧ FrameEnd U o U' L ({ frames := 1, cells := 4, slots := 196611, locals := 60 } : Room).cells ({ frames := 1, cells := 4, slots := 196611, locals := 60 } : Room).slots) := by
  refine MetFree.of_bodySF (plainFor_of_name pn_2) hisR ?_
  intro p e s m args below meth c s₁ Bd hml0 hP hK
  obtain ⟨rfl, hZ, hh⟩ := hP
  have hx := Bd.exec
  have hby := Bd.bytes
  have hml : c.maxLocals = 4 := hml0
  have hown : s.vm.findClass "com/example/hashwright/hashwright/table/PagedArray" = some m.cls := findClass_of_methodNamed Bd.named
  have hnm := (name_of_methodNamed Bd.named Bd.method).1
  have X0 : Stand p l e ({ frames := 1, cells := 4, slots := 196611, locals := 60 } : Room) s m #[(.ref a1), (.int p2), (.ref y)] below meth c s₁ [] 0 0 := Stand.of_body Bd
  have e0 : s₁.heap = h0 := by rw [← hh, Bd.state]; rfl
  have N0 := Fr.nil n0
  have pre0 : ∀ t, Steps p.tables e below (s₁.setTop (mkF m 0 #[.val (.ref a1), .val (.int p2), .val (.ref y), .unset] [])) t → Steps p.tables e below (s₁.setTop (entryFrame m #[(.ref a1), (.int p2), (.ref y)] 4)) t := fun t k => castTop (ef_2 m a1 p2 y) k
  have K0 : Keep h0 h0 [a1] := Keep.refl _ _
  obtain ⟨T_q2, X_q2, e_q2, st_q2⟩ := initO X0 hx hZ hown (own_w hw 15 rfl) (own_w hw 16 rfl) (own_w hw 17 rfl) e0 (g := (mkF m 1 #[.val (.ref a1), .val (.int p2), .val (.ref y), .unset] [(.ref a1)])) rfl (by rw [hml]; rfl) rfl (hb hby d2_1) (by decide) (W := 0) (by show 2 * 0 + _ ≤ _; exact Nat.le_of_eq rfl) (by decide)
  obtain ⟨T_q3, h_q3, X_q3, e_q3, W_q3, st_q3⟩ := putF X_q2 hx hZ hown (host := "") (Or.inl (own_w hw 18 rfl)) Via.refl e_q2 F_length_a1 EX_a1 (Or.inr ⟨(own_w hw 19 rfl), rfl, hnm⟩) (own_w hw 10 rfl) (ty := .int) (by decide) rfl rfl (g := (mkF m 6 #[.val (.ref a1), .val (.int p2), .val (.ref y), .unset] [(.int p2), (.ref a1)])) rfl rfl (hb hby d2_6)
  have EX_a1__q3 := EX_a1.wr W_q3
  have F_elements_a1__q3 := F_elements_a1.other W_q3 (Or.inr (slot_ne (Or.inr (own_w hw 24 rfl)) (Or.inr (own_w hw 19 rfl)) (by decide) (t := (.array (.object "java/lang/Object"))) (t' := .int) (by decide) (by decide)))
  have F_pages_a1__q3 := F_pages_a1.other W_q3 (Or.inr (slot_ne (Or.inr (own_w hw 26 rfl)) (Or.inr (own_w hw 19 rfl)) (by decide) (t := (.array (.array (.object "java/lang/Object")))) (t' := .int) (by decide) (by decide)))
  have EX_y__q3 := EX_y.wr W_q3
  have K_q3 : Keep h0 h_q3 [a1] := K0.wr W_q3 (Or.inl (List.mem_of_getElem? (i := 0) rfl))
  have N_q3 := Fr.snoc X_q3 N0 ge_a1
  obtain ⟨T_q5, h_q5, X_q5, e_q5, W_q5, st_q5⟩ := putF X_q3 hx hZ hown (host := "") (Or.inl (own_w hw 23 rfl)) Via.refl e_q3 F_elements_a1__q3 EX_a1__q3 (Or.inr ⟨(own_w hw 24 rfl), rfl, hnm⟩) (own_w hw 10 rfl) (ty := (.array (.object "java/lang/Object"))) (by decide) rfl rfl (g := (mkF m 33 #[.val (.ref a1), .val (.int p2), .val (.ref y), .unset] [.null, (.ref a1)])) rfl rfl (hb hby d2_33)
  have EX_a1__q5 := EX_a1__q3.wr W_q5
  have F_pages_a1__q5 := F_pages_a1__q3.other W_q5 (Or.inr (slot_ne (Or.inr (own_w hw 26 rfl)) (Or.inr (own_w hw 24 rfl)) (by decide) (t := (.array (.array (.object "java/lang/Object")))) (t' := (.array (.object "java/lang/Object"))) (by decide) (by decide)))
  have EX_y__q5 := EX_y__q3.wr W_q5
  have F_elements_a1__q5 := F_elements_a1__q3.same W_q5
  have K_q5 : Keep h0 h_q5 [a1] := K_q3.wr W_q5 (Or.inl (List.mem_of_getElem? (i := 0) rfl))
  have N_q5 := Fr.snoc X_q5 N_q3 ge_a1
  obtain ⟨T_q6, h_q6, k_q6, X_q6, e_q6, E_q6, A_q6, EX_q6, O_q6, st_q6⟩ := newRA X_q5 hx hZ hown (ty := .object "java/lang/Object") (by decide) (own_w hw 50 rfl) (own_w hw 51 rfl) e_q5 (g := (mkF m 45 #[.val (.ref a1), .val (.int p2), .val (.ref y), .unset] [(.int (3 : Int32)), (.ref a1)])) rfl (hb hby d2_45) rfl (by decide) (cap := 3) (by decide) (by decide) (by decide) (by decide) (ad := "[[Ljava/lang/Object;") (by decide)
  obtain ⟨b_q6, g_q6⟩ : ∃ z, z = h_q5.size := ⟨_, rfl⟩
  rw [← g_q6] at A_q6 EX_q6 st_q6
  have ne_a1_b_q6 : a1 ≠ b_q6 := Nat.ne_of_lt (Nat.lt_of_lt_of_le EX_a1__q5.lt (Nat.le_of_eq g_q6.symm))
  have ge_b_q6 : n0 ≤ b_q6 := Nat.le_trans (Nat.le_trans Z0 K_q5.1) (Nat.le_of_eq g_q6.symm)
  have sz_b_q6 : h0.size ≤ b_q6 := Nat.le_trans K_q5.1 (Nat.le_of_eq g_q6.symm)
  have K_q6 : Keep h0 h_q6 [a1] := K_q5.ext E_q6
  have EX_a1__q6 := EX_a1__q5.ext E_q6
  have F_elements_a1__q6 := F_elements_a1__q5.ext E_q6
  have F_pages_a1__q6 := F_pages_a1__q5.ext E_q6
  have EX_y__q6 := EX_y__q5.ext E_q6
  have V_b_q6 : Arv Z h_q6 b_q6 k_q6 (.array (.object "java/lang/Object")) (3 : Int32) (own_R ((3 : Int32)).toNatClampNeg (fun _ => .null)) .null := (Arv.new A_q6 (by decide)).pad (own_R_new _)
  obtain ⟨T_q7, h_q7, X_q7, e_q7, W_q7, st_q7⟩ := putF X_q6 hx hZ hown (host := "") (Or.inl (own_w hw 25 rfl)) Via.refl e_q6 F_pages_a1__q6 EX_a1__q6 (Or.inr ⟨(own_w hw 26 rfl), rfl, hnm⟩) (own_w hw 10 rfl) (ty := (.array (.array (.object "java/lang/Object")))) (by decide) rfl rfl (g := (mkF m 48 #[.val (.ref a1), .val (.int p2), .val (.ref y), .unset] [(.ref b_q6), (.ref a1)])) rfl rfl (hb hby d2_48)
  have EX_a1__q7 := EX_a1__q6.wr W_q7
  have F_elements_a1__q7 := F_elements_a1__q6.other W_q7 (Or.inr (slot_ne (Or.inr (own_w hw 24 rfl)) (Or.inr (own_w hw 26 rfl)) (by decide) (t := (.array (.object "java/lang/Object"))) (t' := (.array (.array (.object "java/lang/Object")))) (by decide) (by decide)))
  have EX_y__q7 := EX_y__q6.wr W_q7
  have V_b_q6__q7 := V_b_q6.other W_q7 (Ne.symm ne_a1_b_q6)
  have F_pages_a1__q7 := F_pages_a1__q6.same W_q7
  have K_q7 : Keep h0 h_q7 [a1] := K_q6.wr W_q7 (Or.inl (List.mem_of_getElem? (i := 0) rfl))
  have N_q7 := Fr.snoc X_q7 N_q5 ge_a1
  obtain ⟨T_q8, X_q8, e_q8, st_q8⟩ := getF X_q7 hx hZ hown (host := "") (Or.inl (own_w hw 25 rfl)) Via.refl e_q7 F_pages_a1__q7 (g := (mkF m 55 #[.val (.ref a1), .val (.int p2), .val (.ref y), .val (.int (0 : Int32))] [(.ref a1), (.int (0 : Int32))])) rfl rfl (hb hby d2_55)
  obtain ⟨cl_q9, Ar_q9, qk_q9, S_q9, Nn_q9, H_q9, G_q9⟩ := id V_b_q6__q7
  obtain ⟨T_q10, X_q10, e_q10, st_q10⟩ := getF X_q8 hx hZ hown (host := "") (Or.inl (own_w hw 25 rfl)) Via.refl e_q8 F_pages_a1__q7 (g := (mkF m 63 #[.val (.ref a1), .val (.int p2), .val (.ref y), .val (.int (0 : Int32))] [(.ref a1)])) rfl rfl (hb hby d2_63)
  obtain ⟨_, _, ⟨T_q11, L_q11, k_q11, n_q11⟩, -, X_q11, ⟨Lc_q11, hQ_q11, l_q11, y_q11, z_q11⟩, st_q11⟩ := Jvm.LawKit.callS X_q10 hx (y := (⟨"java/lang/Math", "min", "(II)I"⟩ : MethodName)) hown (mvT hZ (own_w hw 52 rfl)) (mvT hZ (own_w hw 53 rfl)) (mvT hZ (own_w hw 54 rfl)) (mvT hZ (own_w hw 55 rfl)) (by decide) (backOf (W := 2) (rm8 l Z a0 hw [] (65536 : Int32) (p2 - (0 : Int32)) h_q7 n0 (Nat.le_trans Z0 K_q7.1)) hZ (own_w hw 55 rfl) (own_w hw 54 rfl) (by decide) (by decide)) (g := (mkF m 75 #[.val (.ref a1), .val (.int p2), .val (.ref y), .val (.int (0 : Int32))] [(.int (p2 - (0 : Int32))), (.int (65536 : Int32)), (.int (0 : Int32)), (.ref b_q6)])) rfl (by rw [hml]; rfl) (argsL := [(.int (65536 : Int32)), (.int (p2 - (0 : Int32)))]) (rest := [(.int (0 : Int32)), (.ref b_q6)]) (lenOf pd__II_I rfl) rfl (by show 2 * 0 + _ ≤ _; exact Nat.le_of_eq rfl) (hb hby d2_75) (fun _ _ => ⟨rfl, e_q10, (by decide : 1 + 0 ≤ _), (by decide : 3 + 0 ≤ _)⟩)
  dsimp only [Pt.U, Pt.locs, Pt.cells, Pt.slots] at X_q11 l_q11 y_q11 z_q11 st_q11 hQ_q11
  subst l_q11 y_q11 z_q11
  obtain ⟨rfl, Nq_q11, eq_q11⟩ := hQ_q11
  have Kq_q11 : Keep h_q7 T_q11.heap [] := by rw [eq_q11]; exact Keep.refl _ _
  have N_q11 := Fr.app N_q7 Nq_q11
  have EX_a1__q11 := EX_a1__q7.keep Kq_q11
  have F_elements_a1__q11 := F_elements_a1__q7.keep Kq_q11 nin0
  have F_pages_a1__q11 := F_pages_a1__q7.keep Kq_q11 nin0
  have EX_y__q11 := EX_y__q7.keep Kq_q11
  have V_b_q6__q11 := V_b_q6__q7.keep Kq_q11 nin0
  have K_q11 : Keep h0 T_q11.heap [a1] := K_q7.trans Kq_q11 all0
  obtain ⟨T_q13, h_q13, k_q13, X_q13, e_q13, E_q13, A_q13, EX_q13, O_q13, st_q13⟩ := newRE X_q11 hx hZ hown (own_w hw 21 rfl) (own_w hw 22 rfl) rfl (g := (mkF m 78 #[.val (.ref a1), .val (.int p2), .val (.ref y), .val (.int (0 : Int32))] [(.int z0), (.int (0 : Int32)), (.ref b_q6)])) rfl (hb hby d2_78) rfl hc_q14 (cap := 65536) hc_q15 (by decide) (by decide) (by decide) (ad := "[Ljava/lang/Object;") (by decide)
  obtain ⟨b_q13, g_q13⟩ : ∃ z, z = T_q11.heap.size := ⟨_, rfl⟩
  rw [← g_q13] at A_q13 EX_q13 st_q13
  have ne_a1_b_q13 : a1 ≠ b_q13 := Nat.ne_of_lt (Nat.lt_of_lt_of_le EX_a1__q11.lt (Nat.le_of_eq g_q13.symm))
  have ne_b_q6_b_q13 : b_q6 ≠ b_q13 := Nat.ne_of_lt (Nat.lt_of_lt_of_le V_b_q6__q11.lt (Nat.le_of_eq g_q13.symm))
  have ge_b_q13 : n0 ≤ b_q13 := Nat.le_trans (Nat.le_trans Z0 K_q11.1) (Nat.le_of_eq g_q13.symm)
  have sz_b_q13 : h0.size ≤ b_q13 := Nat.le_trans K_q11.1 (Nat.le_of_eq g_q13.symm)
  have K_q13 : Keep h0 h_q13 [a1] := K_q11.ext E_q13
  have EX_a1__q13 := EX_a1__q11.ext E_q13
  have F_elements_a1__q13 := F_elements_a1__q11.ext E_q13
  have F_pages_a1__q13 := F_pages_a1__q11.ext E_q13
  have EX_y__q13 := EX_y__q11.ext E_q13
  have V_b_q6__q13 := V_b_q6__q11.ext E_q13
  have V_b_q13 : Arv Z h_q13 b_q13 k_q13 (.object "java/lang/Object") z0 (own_R (z0).toNatClampNeg (fun _ => .null)) .null := (Arv.new A_q13 hc_q14).pad (own_R_new _)
  obtain ⟨cl_q16, Ar_q16, qk_q16, S_q16, Nn_q16, H_q16, G_q16⟩ := id V_b_q6__q13
  have hin_q16 : ¬ ((0 : Int32) < 0 ∨ cl_q16.slots.size ≤ ((0 : Int32)).toNatClampNeg) := inb_of S_q16 ⟨by decide, by decide⟩
  have lt_q16 : ((0 : Int32)).toNatClampNeg < ((3 : Int32)).toNatClampNeg := by have q := Nat.lt_of_not_le fun q => hin_q16 (Or.inr q); rw [S_q16] at q; exact q
  obtain ⟨T_q16, h_q16, X_q16, e_q16, W_q16, st_q16⟩ := stR X_q13 hx hZ e_q13 Ar_q16 (j := (0 : Int32)) hin_q16 rfl (Sto.ofVA Ar_q16 qk_q16 O_q6 (Ins.self EX_q13)) (g := (mkF m 81 #[.val (.ref a1), .val (.int p2), .val (.ref y), .val (.int (0 : Int32))] [(.ref b_q13), (.int (0 : Int32)), (.ref b_q6)])) rfl rfl (hb hby d2_81)
  have EX_a1__q16 := EX_a1__q13.wr W_q16
  have F_elements_a1__q16 := F_elements_a1__q13.other W_q16 (Or.inl ne_a1_b_q6)
  have F_pages_a1__q16 := F_pages_a1__q13.other W_q16 (Or.inl ne_a1_b_q6)
  have EX_y__q16 := EX_y__q13.wr W_q16
  have V_b_q13__q16 := V_b_q13.other W_q16 (Ne.symm ne_b_q6_b_q13)
  have V_b_q6__q16 : Arv Z h_q16 b_q6 k_q6 (.array (.object "java/lang/Object")) (3 : Int32) (own_R ((3 : Int32)).toNatClampNeg (own_up (fun _ => .null) ((0 : Int32)).toNatClampNeg (.ref b_q13))) .null := by rw [← own_R_set]; exact Arv.set Ar_q16 qk_q16 S_q16 Nn_q16 H_q16 G_q16 rfl W_q16 _ rfl (by rw [own_R_len]; exact lt_q16)
  have K_q16 : Keep h0 h_q16 [a1] := K_q13.wr W_q16 (Or.inr sz_b_q6)
  have N_q16 := Fr.snoc X_q16 N_q11 ge_b_q6
  obtain ⟨T_q17, X_q17, e_q17, st_q17⟩ := getF X_q16 hx hZ hown (host := "") (Or.inl (own_w hw 25 rfl)) Via.refl e_q16 F_pages_a1__q16 (g := (mkF m 55 #[.val (.ref a1), .val (.int p2), .val (.ref y), .val (.int (1 : Int32))] [(.ref a1), (.int (1 : Int32))])) rfl rfl (hb hby d2_55)
  obtain ⟨cl_q18, Ar_q18, qk_q18, S_q18, Nn_q18, H_q18, G_q18⟩ := id V_b_q6__q16
  obtain ⟨T_q19, X_q19, e_q19, st_q19⟩ := getF X_q17 hx hZ hown (host := "") (Or.inl (own_w hw 25 rfl)) Via.refl e_q17 F_pages_a1__q16 (g := (mkF m 63 #[.val (.ref a1), .val (.int p2), .val (.ref y), .val (.int (1 : Int32))] [(.ref a1)])) rfl rfl (hb hby d2_63)
  obtain ⟨_, _, ⟨T_q20, L_q20, k_q20, n_q20⟩, -, X_q20, ⟨Lc_q20, hQ_q20, l_q20, y_q20, z_q20⟩, st_q20⟩ := Jvm.LawKit.callS X_q19 hx (y := (⟨"java/lang/Math", "min", "(II)I"⟩ : MethodName)) hown (mvT hZ (own_w hw 52 rfl)) (mvT hZ (own_w hw 53 rfl)) (mvT hZ (own_w hw 54 rfl)) (mvT hZ (own_w hw 55 rfl)) (by decide) (backOf (W := 2) (rm8 l Z a0 hw [] (65536 : Int32) (p2 - (65536 : Int32)) h_q16 n0 (Nat.le_trans Z0 K_q16.1)) hZ (own_w hw 55 rfl) (own_w hw 54 rfl) (by decide) (by decide)) (g := (mkF m 75 #[.val (.ref a1), .val (.int p2), .val (.ref y), .val (.int (1 : Int32))] [(.int (p2 - (65536 : Int32))), (.int (65536 : Int32)), (.int (1 : Int32)), (.ref b_q6)])) rfl (by rw [hml]; rfl) (argsL := [(.int (65536 : Int32)), (.int (p2 - (65536 : Int32)))]) (rest := [(.int (1 : Int32)), (.ref b_q6)]) (lenOf pd__II_I rfl) rfl (by show 2 * 0 + _ ≤ _; exact Nat.le_of_eq rfl) (hb hby d2_75) (fun _ _ => ⟨rfl, e_q19, (by decide : 2 + 0 ≤ _), (by decide : 65539 + 0 ≤ _)⟩)
  dsimp only [Pt.U, Pt.locs, Pt.cells, Pt.slots] at X_q20 l_q20 y_q20 z_q20 st_q20 hQ_q20
  subst l_q20 y_q20 z_q20
  obtain ⟨rfl, Nq_q20, eq_q20⟩ := hQ_q20
  have Kq_q20 : Keep h_q16 T_q20.heap [] := by rw [eq_q20]; exact Keep.refl _ _
  have N_q20 := Fr.app N_q16 Nq_q20
  have EX_a1__q20 := EX_a1__q16.keep Kq_q20
  have F_elements_a1__q20 := F_elements_a1__q16.keep Kq_q20 nin0
  have F_pages_a1__q20 := F_pages_a1__q16.keep Kq_q20 nin0
  have EX_y__q20 := EX_y__q16.keep Kq_q20
  have V_b_q6__q20 := V_b_q6__q16.keep Kq_q20 nin0
  have V_b_q13__q20 := V_b_q13__q16.keep Kq_q20 nin0
  have K_q20 : Keep h0 T_q20.heap [a1] := K_q16.trans Kq_q20 all0
  obtain ⟨T_q22, h_q22, k_q22, X_q22, e_q22, E_q22, A_q22, EX_q22, O_q22, st_q22⟩ := newRE X_q20 hx hZ hown (own_w hw 21 rfl) (own_w hw 22 rfl) rfl (g := (mkF m 78 #[.val (.ref a1), .val (.int p2), .val (.ref y), .val (.int (1 : Int32))] [(.int z1), (.int (1 : Int32)), (.ref b_q6)])) rfl (hb hby d2_78) rfl hc_q23 (cap := 65536) hc_q24 (by decide) (by decide) (by decide) (ad := "[Ljava/lang/Object;") (by decide)
  obtain ⟨b_q22, g_q22⟩ : ∃ z, z = T_q20.heap.size := ⟨_, rfl⟩
  rw [← g_q22] at A_q22 EX_q22 st_q22
  have ne_a1_b_q22 : a1 ≠ b_q22 := Nat.ne_of_lt (Nat.lt_of_lt_of_le EX_a1__q20.lt (Nat.le_of_eq g_q22.symm))
  have ne_b_q6_b_q22 : b_q6 ≠ b_q22 := Nat.ne_of_lt (Nat.lt_of_lt_of_le V_b_q6__q20.lt (Nat.le_of_eq g_q22.symm))
  have ne_b_q13_b_q22 : b_q13 ≠ b_q22 := Nat.ne_of_lt (Nat.lt_of_lt_of_le V_b_q13__q20.lt (Nat.le_of_eq g_q22.symm))
  have ge_b_q22 : n0 ≤ b_q22 := Nat.le_trans (Nat.le_trans Z0 K_q20.1) (Nat.le_of_eq g_q22.symm)
  have sz_b_q22 : h0.size ≤ b_q22 := Nat.le_trans K_q20.1 (Nat.le_of_eq g_q22.symm)
  have K_q22 : Keep h0 h_q22 [a1] := K_q20.ext E_q22
  have EX_a1__q22 := EX_a1__q20.ext E_q22
  have F_elements_a1__q22 := F_elements_a1__q20.ext E_q22
  have F_pages_a1__q22 := F_pages_a1__q20.ext E_q22
  have EX_y__q22 := EX_y__q20.ext E_q22
  have V_b_q6__q22 := V_b_q6__q20.ext E_q22
  have V_b_q13__q22 := V_b_q13__q20.ext E_q22
  have V_b_q22 : Arv Z h_q22 b_q22 k_q22 (.object "java/lang/Object") z1 (own_R (z1).toNatClampNeg (fun _ => .null)) .null := (Arv.new A_q22 hc_q23).pad (own_R_new _)
  obtain ⟨cl_q25, Ar_q25, qk_q25, S_q25, Nn_q25, H_q25, G_q25⟩ := id V_b_q6__q22
  have hin_q25 : ¬ ((1 : Int32) < 0 ∨ cl_q25.slots.size ≤ ((1 : Int32)).toNatClampNeg) := inb_of S_q25 ⟨by decide, by decide⟩
  have lt_q25 : ((1 : Int32)).toNatClampNeg < ((3 : Int32)).toNatClampNeg := by have q := Nat.lt_of_not_le fun q => hin_q25 (Or.inr q); rw [S_q25] at q; exact q
  obtain ⟨T_q25, h_q25, X_q25, e_q25, W_q25, st_q25⟩ := stR X_q22 hx hZ e_q22 Ar_q25 (j := (1 : Int32)) hin_q25 rfl (Sto.ofVA Ar_q25 qk_q25 O_q6 (Ins.self EX_q22)) (g := (mkF m 81 #[.val (.ref a1), .val (.int p2), .val (.ref y), .val (.int (1 : Int32))] [(.ref b_q22), (.int (1 : Int32)), (.ref b_q6)])) rfl rfl (hb hby d2_81)
  have EX_a1__q25 := EX_a1__q22.wr W_q25
  have F_elements_a1__q25 := F_elements_a1__q22.other W_q25 (Or.inl ne_a1_b_q6)
  have F_pages_a1__q25 := F_pages_a1__q22.other W_q25 (Or.inl ne_a1_b_q6)
  have EX_y__q25 := EX_y__q22.wr W_q25
  have V_b_q13__q25 := V_b_q13__q22.other W_q25 (Ne.symm ne_b_q6_b_q13)
  have V_b_q22__q25 := V_b_q22.other W_q25 (Ne.symm ne_b_q6_b_q22)
  have V_b_q6__q25 : Arv Z h_q25 b_q6 k_q6 (.array (.object "java/lang/Object")) (3 : Int32) (own_R ((3 : Int32)).toNatClampNeg (own_up (own_up (fun _ => .null) ((0 : Int32)).toNatClampNeg (.ref b_q13)) ((1 : Int32)).toNatClampNeg (.ref b_q22))) .null := by rw [← own_R_set]; exact Arv.set Ar_q25 qk_q25 S_q25 Nn_q25 H_q25 G_q25 rfl W_q25 _ rfl (by rw [own_R_len]; exact lt_q25)
  have K_q25 : Keep h0 h_q25 [a1] := K_q22.wr W_q25 (Or.inr sz_b_q6)
  have N_q25 := Fr.snoc X_q25 N_q20 ge_b_q6
  obtain ⟨T_q26, X_q26, e_q26, st_q26⟩ := getF X_q25 hx hZ hown (host := "") (Or.inl (own_w hw 25 rfl)) Via.refl e_q25 F_pages_a1__q25 (g := (mkF m 55 #[.val (.ref a1), .val (.int p2), .val (.ref y), .val (.int (2 : Int32))] [(.ref a1), (.int (2 : Int32))])) rfl rfl (hb hby d2_55)
  obtain ⟨cl_q27, Ar_q27, qk_q27, S_q27, Nn_q27, H_q27, G_q27⟩ := id V_b_q6__q25
  obtain ⟨T_q28, X_q28, e_q28, st_q28⟩ := getF X_q26 hx hZ hown (host := "") (Or.inl (own_w hw 25 rfl)) Via.refl e_q26 F_pages_a1__q25 (g := (mkF m 63 #[.val (.ref a1), .val (.int p2), .val (.ref y), .val (.int (2 : Int32))] [(.ref a1)])) rfl rfl (hb hby d2_63)
  obtain ⟨_, _, ⟨T_q29, L_q29, k_q29, n_q29⟩, -, X_q29, ⟨Lc_q29, hQ_q29, l_q29, y_q29, z_q29⟩, st_q29⟩ := Jvm.LawKit.callS X_q28 hx (y := (⟨"java/lang/Math", "min", "(II)I"⟩ : MethodName)) hown (mvT hZ (own_w hw 52 rfl)) (mvT hZ (own_w hw 53 rfl)) (mvT hZ (own_w hw 54 rfl)) (mvT hZ (own_w hw 55 rfl)) (by decide) (backOf (W := 2) (rm8 l Z a0 hw [] (65536 : Int32) (p2 - (131072 : Int32)) h_q25 n0 (Nat.le_trans Z0 K_q25.1)) hZ (own_w hw 55 rfl) (own_w hw 54 rfl) (by decide) (by decide)) (g := (mkF m 75 #[.val (.ref a1), .val (.int p2), .val (.ref y), .val (.int (2 : Int32))] [(.int (p2 - (131072 : Int32))), (.int (65536 : Int32)), (.int (2 : Int32)), (.ref b_q6)])) rfl (by rw [hml]; rfl) (argsL := [(.int (65536 : Int32)), (.int (p2 - (131072 : Int32)))]) (rest := [(.int (2 : Int32)), (.ref b_q6)]) (lenOf pd__II_I rfl) rfl (by show 2 * 0 + _ ≤ _; exact Nat.le_of_eq rfl) (hb hby d2_75) (fun _ _ => ⟨rfl, e_q28, (by decide : 3 + 0 ≤ _), (by decide : 131075 + 0 ≤ _)⟩)
  dsimp only [Pt.U, Pt.locs, Pt.cells, Pt.slots] at X_q29 l_q29 y_q29 z_q29 st_q29 hQ_q29
  subst l_q29 y_q29 z_q29
  obtain ⟨rfl, Nq_q29, eq_q29⟩ := hQ_q29
  have Kq_q29 : Keep h_q25 T_q29.heap [] := by rw [eq_q29]; exact Keep.refl _ _
  have N_q29 := Fr.app N_q25 Nq_q29
  have EX_a1__q29 := EX_a1__q25.keep Kq_q29
  have F_elements_a1__q29 := F_elements_a1__q25.keep Kq_q29 nin0
  have F_pages_a1__q29 := F_pages_a1__q25.keep Kq_q29 nin0
  have EX_y__q29 := EX_y__q25.keep Kq_q29
  have V_b_q6__q29 := V_b_q6__q25.keep Kq_q29 nin0
  have V_b_q13__q29 := V_b_q13__q25.keep Kq_q29 nin0
  have V_b_q22__q29 := V_b_q22__q25.keep Kq_q29 nin0
  have K_q29 : Keep h0 T_q29.heap [a1] := K_q25.trans Kq_q29 all0
  obtain ⟨T_q31, h_q31, k_q31, X_q31, e_q31, E_q31, A_q31, EX_q31, O_q31, st_q31⟩ := newRE X_q29 hx hZ hown (own_w hw 21 rfl) (own_w hw 22 rfl) rfl (g := (mkF m 78 #[.val (.ref a1), .val (.int p2), .val (.ref y), .val (.int (2 : Int32))] [(.int z2), (.int (2 : Int32)), (.ref b_q6)])) rfl (hb hby d2_78) rfl hc_q32 (cap := 65536) hc_q33 (by decide) (by decide) (by decide) (ad := "[Ljava/lang/Object;") (by decide)
  obtain ⟨b_q31, g_q31⟩ : ∃ z, z = T_q29.heap.size := ⟨_, rfl⟩
  rw [← g_q31] at A_q31 EX_q31 st_q31
  have ne_a1_b_q31 : a1 ≠ b_q31 := Nat.ne_of_lt (Nat.lt_of_lt_of_le EX_a1__q29.lt (Nat.le_of_eq g_q31.symm))
  have ne_b_q6_b_q31 : b_q6 ≠ b_q31 := Nat.ne_of_lt (Nat.lt_of_lt_of_le V_b_q6__q29.lt (Nat.le_of_eq g_q31.symm))
  have ne_b_q13_b_q31 : b_q13 ≠ b_q31 := Nat.ne_of_lt (Nat.lt_of_lt_of_le V_b_q13__q29.lt (Nat.le_of_eq g_q31.symm))
  have ne_b_q22_b_q31 : b_q22 ≠ b_q31 := Nat.ne_of_lt (Nat.lt_of_lt_of_le V_b_q22__q29.lt (Nat.le_of_eq g_q31.symm))
  have ge_b_q31 : n0 ≤ b_q31 := Nat.le_trans (Nat.le_trans Z0 K_q29.1) (Nat.le_of_eq g_q31.symm)
  have sz_b_q31 : h0.size ≤ b_q31 := Nat.le_trans K_q29.1 (Nat.le_of_eq g_q31.symm)
  have K_q31 : Keep h0 h_q31 [a1] := K_q29.ext E_q31
  have EX_a1__q31 := EX_a1__q29.ext E_q31
  have F_elements_a1__q31 := F_elements_a1__q29.ext E_q31
  have F_pages_a1__q31 := F_pages_a1__q29.ext E_q31
  have EX_y__q31 := EX_y__q29.ext E_q31
  have V_b_q6__q31 := V_b_q6__q29.ext E_q31
  have V_b_q13__q31 := V_b_q13__q29.ext E_q31
  have V_b_q22__q31 := V_b_q22__q29.ext E_q31
  have V_b_q31 : Arv Z h_q31 b_q31 k_q31 (.object "java/lang/Object") z2 (own_R (z2).toNatClampNeg (fun _ => .null)) .null := (Arv.new A_q31 hc_q32).pad (own_R_new _)
  obtain ⟨cl_q34, Ar_q34, qk_q34, S_q34, Nn_q34, H_q34, G_q34⟩ := id V_b_q6__q31
  have hin_q34 : ¬ ((2 : Int32) < 0 ∨ cl_q34.slots.size ≤ ((2 : Int32)).toNatClampNeg) := inb_of S_q34 ⟨by decide, by decide⟩
  have lt_q34 : ((2 : Int32)).toNatClampNeg < ((3 : Int32)).toNatClampNeg := by have q := Nat.lt_of_not_le fun q => hin_q34 (Or.inr q); rw [S_q34] at q; exact q
  obtain ⟨T_q34, h_q34, X_q34, e_q34, W_q34, st_q34⟩ := stR X_q31 hx hZ e_q31 Ar_q34 (j := (2 : Int32)) hin_q34 rfl (Sto.ofVA Ar_q34 qk_q34 O_q6 (Ins.self EX_q31)) (g := (mkF m 81 #[.val (.ref a1), .val (.int p2), .val (.ref y), .val (.int (2 : Int32))] [(.ref b_q31), (.int (2 : Int32)), (.ref b_q6)])) rfl rfl (hb hby d2_81)
  have EX_a1__q34 := EX_a1__q31.wr W_q34
  have F_elements_a1__q34 := F_elements_a1__q31.other W_q34 (Or.inl ne_a1_b_q6)
  have F_pages_a1__q34 := F_pages_a1__q31.other W_q34 (Or.inl ne_a1_b_q6)
  have EX_y__q34 := EX_y__q31.wr W_q34
  have V_b_q13__q34 := V_b_q13__q31.other W_q34 (Ne.symm ne_b_q6_b_q13)
  have V_b_q22__q34 := V_b_q22__q31.other W_q34 (Ne.symm ne_b_q6_b_q22)
  have V_b_q31__q34 := V_b_q31.other W_q34 (Ne.symm ne_b_q6_b_q31)
  have V_b_q6__q34 : Arv Z h_q34 b_q6 k_q6 (.array (.object "java/lang/Object")) (3 : Int32) (own_R ((3 : Int32)).toNatClampNeg (own_up (own_up (own_up (fun _ => .null) ((0 : Int32)).toNatClampNeg (.ref b_q13)) ((1 : Int32)).toNatClampNeg (.ref b_q22)) ((2 : Int32)).toNatClampNeg (.ref b_q31))) .null := by rw [← own_R_set]; exact Arv.set Ar_q34 qk_q34 S_q34 Nn_q34 H_q34 G_q34 rfl W_q34 _ rfl (by rw [own_R_len]; exact lt_q34)
  have K_q34 : Keep h0 h_q34 [a1] := K_q31.wr W_q34 (Or.inr sz_b_q6)
  have N_q34 := Fr.snoc X_q34 N_q29 ge_b_q6
  obtain ⟨T_q35, X_q35, e_q35, st_q35⟩ := getF X_q34 hx hZ hown (host := "") (Or.inl (own_w hw 25 rfl)) Via.refl e_q34 F_pages_a1__q34 (g := (mkF m 55 #[.val (.ref a1), .val (.int p2), .val (.ref y), .val (.int (3 : Int32))] [(.ref a1), (.int (3 : Int32))])) rfl rfl (hb hby d2_55)
  obtain ⟨cl_q36, Ar_q36, qk_q36, S_q36, Nn_q36, H_q36, G_q36⟩ := id V_b_q6__q34
  obtain ⟨cq_q38, qa_q38, qb_q38⟩ := EX_a1__q34.cell
  obtain ⟨_, _, ⟨T_q38, L_q38, k_q38, n_q38⟩, -, X_q38, ⟨Lc_q38, hQ_q38, l_q38, y_q38, z_q38⟩, st_q38⟩ := X_q35.privateBack hx (y := (⟨"com/example/hashwright/hashwright/table/PagedArray", "arrayHolding", "(I)[Ljava/lang/Object;"⟩ : MethodName)) hown (mvT hZ (own_w hw 27 rfl)) (mvT hZ (own_w hw 28 rfl)) (mvT hZ (own_seli (y := (⟨"com/example/hashwright/hashwright/table/PagedArray", "arrayHolding", "(I)[Ljava/lang/Object;"⟩ : MethodName)) (by decide) (own_w hw 10 rfl) (own_w hw 29 rfl) (own_w hw 28 rfl))) (Cond.privateMethod_at (mvP hZ (own_w hw 29 rfl) (args := #[]))) (mvT hZ (own_w hw 30 rfl)) (by decide) (backOf (W := 0) (rmAHP l Z a0 hw [] a1 b_q6 b_q13 k_q6 (3 : Int32) (own_up (own_up (own_up (fun _ => .null) ((0 : Int32)).toNatClampNeg (.ref b_q13)) ((1 : Int32)).toNatClampNeg (.ref b_q22)) ((2 : Int32)).toNatClampNeg (.ref b_q31)) (0 : Int32) h_q34 n0 (Nat.le_trans Z0 K_q34.1) F_elements_a1__q34 F_pages_a1__q34 V_b_q6__q34 rfl (by decide)) hZ (own_w hw 30 rfl) (own_w hw 11 rfl) (by decide) (by decide)) (g := (mkF m 101 #[.val (.ref a1), .val (.int p2), .val (.ref y), .val (.int (0 : Int32))] [(.int (0 : Int32)), (.ref a1)])) rfl (by rw [hml]; rfl) (Steps.refl _) (a := a1) (by rw [e_q35]; exact qa_q38) qb_q38 (argsL := [(.int (0 : Int32))]) (rest := []) (lenOf pd__I__Ljava_lang_Object_ rfl) rfl (by show 2 * 0 + _ ≤ _; exact Nat.le_of_eq rfl) (hb hby d2_101) (fun _ _ => ⟨rfl, e_q35, (by decide : 4 + 0 ≤ _), (by decide : 196611 + 0 ≤ _)⟩)
  dsimp only [Pt.U, Pt.locs, Pt.cells, Pt.slots] at X_q38 l_q38 y_q38 z_q38 st_q38 hQ_q38
  subst l_q38 y_q38 z_q38
  obtain ⟨rfl, Nq_q38, eq_q38⟩ := hQ_q38
  have Kq_q38 : Keep h_q34 T_q38.heap [] := by rw [eq_q38]; exact Keep.refl _ _
  have N_q38 := Fr.app N_q34 Nq_q38
  have EX_a1__q38 := EX_a1__q34.keep Kq_q38
  have F_elements_a1__q38 := F_elements_a1__q34.keep Kq_q38 nin0
  have F_pages_a1__q38 := F_pages_a1__q34.keep Kq_q38 nin0
  have EX_y__q38 := EX_y__q34.keep Kq_q38
  have V_b_q6__q38 := V_b_q6__q34.keep Kq_q38 nin0
  have V_b_q13__q38 := V_b_q13__q34.keep Kq_q38 nin0
  have V_b_q22__q38 := V_b_q22__q34.keep Kq_q38 nin0
  have V_b_q31__q38 := V_b_q31__q34.keep Kq_q38 nin0
  have K_q38 : Keep h0 T_q38.heap [a1] := K_q34.trans Kq_q38 all0
  obtain ⟨_, _, ⟨T_q39, L_q39, k_q39, n_q39⟩, -, X_q39, ⟨Lc_q39, hQ_q39, l_q39, y_q39, z_q39⟩, st_q39⟩ := Jvm.LawKit.callS X_q38 hx (y := (⟨"java/util/Arrays", "fill", "([Ljava/lang/Object;Ljava/lang/Object;)V"⟩ : MethodName)) hown (mvT hZ (own_w hw 31 rfl)) (mvT hZ (own_w hw 32 rfl)) (mvT hZ (own_w hw 33 rfl)) (mvT hZ (own_w hw 34 rfl)) (by decide) (backOf (W := 0) (rmFill l Z a0 hw [] b_q13 y k_q13 z0 (fun _ => .null) T_q38.heap n0 (Nat.le_trans Z0 K_q38.1) V_b_q13__q38 EX_y__q38 O_q13 ge_b_q13) hZ (own_w hw 34 rfl) (own_w hw 33 rfl) (by decide) (by decide)) (g := (mkF m 105 #[.val (.ref a1), .val (.int p2), .val (.ref y), .val (.int (0 : Int32))] [(.ref y), (.ref b_q13)])) rfl (by rw [hml]; rfl) (argsL := [(.ref b_q13), (.ref y)]) (rest := []) (lenOf pd___Ljava_lang_Object_Ljava_lang_Object__V rfl) rfl (by show 2 * 0 + _ ≤ _; exact Nat.le_of_eq rfl) (hb hby d2_105) (fun _ _ => ⟨rfl, rfl, (by decide : 4 + 0 ≤ _), (by decide : 196611 + 0 ≤ _)⟩)
  dsimp only [Pt.U, Pt.locs, Pt.cells, Pt.slots] at X_q39 l_q39 y_q39 z_q39 st_q39 hQ_q39
  subst l_q39 y_q39 z_q39
  obtain ⟨rfl, Nq_q39, Kq_q39, O0_q39⟩ := hQ_q39
  have N_q39 := Fr.app N_q38 Nq_q39
  have EX_a1__q39 := EX_a1__q38.keep Kq_q39
  have F_elements_a1__q39 := F_elements_a1__q38.keep Kq_q39 (ninS ne_a1_b_q13 nin0)
  have F_pages_a1__q39 := F_pages_a1__q38.keep Kq_q39 (ninS ne_a1_b_q13 nin0)
  have EX_y__q39 := EX_y__q38.keep Kq_q39
  have V_b_q6__q39 := V_b_q6__q38.keep Kq_q39 (ninS ne_b_q6_b_q13 nin0)
  have V_b_q22__q39 := V_b_q22__q38.keep Kq_q39 (ninS (Ne.symm ne_b_q13_b_q22) nin0)
  have V_b_q31__q39 := V_b_q31__q38.keep Kq_q39 (ninS (Ne.symm ne_b_q13_b_q31) nin0)
  have K_q39 : Keep h0 T_q39.heap [a1] := K_q38.trans Kq_q39 (allS (Or.inr sz_b_q13) all0)
  obtain ⟨cq_q40, qa_q40, qb_q40⟩ := EX_a1__q39.cell
  obtain ⟨_, _, ⟨T_q40, L_q40, k_q40, n_q40⟩, -, X_q40, ⟨Lc_q40, hQ_q40, l_q40, y_q40, z_q40⟩, st_q40⟩ := X_q39.privateBack hx (y := (⟨"com/example/hashwright/hashwright/table/PagedArray", "arrayHolding", "(I)[Ljava/lang/Object;"⟩ : MethodName)) hown (mvT hZ (own_w hw 27 rfl)) (mvT hZ (own_w hw 28 rfl)) (mvT hZ (own_seli (y := (⟨"com/example/hashwright/hashwright/table/PagedArray", "arrayHolding", "(I)[Ljava/lang/Object;"⟩ : MethodName)) (by decide) (own_w hw 10 rfl) (own_w hw 29 rfl) (own_w hw 28 rfl))) (Cond.privateMethod_at (mvP hZ (own_w hw 29 rfl) (args := #[]))) (mvT hZ (own_w hw 30 rfl)) (by decide) (backOf (W := 0) (rmAHP l Z a0 hw [] a1 b_q6 b_q22 k_q6 (3 : Int32) (own_up (own_up (own_up (fun _ => .null) ((0 : Int32)).toNatClampNeg (.ref b_q13)) ((1 : Int32)).toNatClampNeg (.ref b_q22)) ((2 : Int32)).toNatClampNeg (.ref b_q31)) (65536 : Int32) T_q39.heap n0 (Nat.le_trans Z0 K_q39.1) F_elements_a1__q39 F_pages_a1__q39 V_b_q6__q39 rfl (by decide)) hZ (own_w hw 30 rfl) (own_w hw 11 rfl) (by decide) (by decide)) (g := (mkF m 101 #[.val (.ref a1), .val (.int p2), .val (.ref y), .val (.int (65536 : Int32))] [(.int (65536 : Int32)), (.ref a1)])) rfl (by rw [hml]; rfl) (Steps.refl _) (a := a1) qa_q40 qb_q40 (argsL := [(.int (65536 : Int32))]) (rest := []) (lenOf pd__I__Ljava_lang_Object_ rfl) rfl (by show 2 * 0 + _ ≤ _; exact Nat.le_of_eq rfl) (hb hby d2_101) (fun _ _ => ⟨rfl, rfl, (by decide : 4 + 0 ≤ _), (by decide : 196611 + 0 ≤ _)⟩)
  dsimp only [Pt.U, Pt.locs, Pt.cells, Pt.slots] at X_q40 l_q40 y_q40 z_q40 st_q40 hQ_q40
  subst l_q40 y_q40 z_q40
  obtain ⟨rfl, Nq_q40, eq_q40⟩ := hQ_q40
  have Kq_q40 : Keep T_q39.heap T_q40.heap [] := by rw [eq_q40]; exact Keep.refl _ _
  have N_q40 := Fr.app N_q39 Nq_q40
  have EX_a1__q40 := EX_a1__q39.keep Kq_q40
  have F_elements_a1__q40 := F_elements_a1__q39.keep Kq_q40 nin0
  have F_pages_a1__q40 := F_pages_a1__q39.keep Kq_q40 nin0
  have EX_y__q40 := EX_y__q39.keep Kq_q40
  have V_b_q6__q40 := V_b_q6__q39.keep Kq_q40 nin0
  have V_b_q22__q40 := V_b_q22__q39.keep Kq_q40 nin0
  have V_b_q31__q40 := V_b_q31__q39.keep Kq_q40 nin0
  have O0_q39__q40 := O0_q39.keep Kq_q40 nin0
  have K_q40 : Keep h0 T_q40.heap [a1] := K_q39.trans Kq_q40 all0
  obtain ⟨_, _, ⟨T_q41, L_q41, k_q41, n_q41⟩, -, X_q41, ⟨Lc_q41, hQ_q41, l_q41, y_q41, z_q41⟩, st_q41⟩ := Jvm.LawKit.callS X_q40 hx (y := (⟨"java/util/Arrays", "fill", "([Ljava/lang/Object;Ljava/lang/Object;)V"⟩ : MethodName)) hown (mvT hZ (own_w hw 31 rfl)) (mvT hZ (own_w hw 32 rfl)) (mvT hZ (own_w hw 33 rfl)) (mvT hZ (own_w hw 34 rfl)) (by decide) (backOf (W := 0) (rmFill l Z a0 hw [] b_q22 y k_q22 z1 (fun _ => .null) T_q40.heap n0 (Nat.le_trans Z0 K_q40.1) V_b_q22__q40 EX_y__q40 O_q22 ge_b_q22) hZ (own_w hw 34 rfl) (own_w hw 33 rfl) (by decide) (by decide)) (g := (mkF m 105 #[.val (.ref a1), .val (.int p2), .val (.ref y), .val (.int (65536 : Int32))] [(.ref y), (.ref b_q22)])) rfl (by rw [hml]; rfl) (argsL := [(.ref b_q22), (.ref y)]) (rest := []) (lenOf pd___Ljava_lang_Object_Ljava_lang_Object__V rfl) rfl (by show 2 * 0 + _ ≤ _; exact Nat.le_of_eq rfl) (hb hby d2_105) (fun _ _ => ⟨rfl, rfl, (by decide : 4 + 0 ≤ _), (by decide : 196611 + 0 ≤ _)⟩)
  dsimp only [Pt.U, Pt.locs, Pt.cells, Pt.slots] at X_q41 l_q41 y_q41 z_q41 st_q41 hQ_q41
  subst l_q41 y_q41 z_q41
  obtain ⟨rfl, Nq_q41, Kq_q41, O0_q41⟩ := hQ_q41
  have N_q41 := Fr.app N_q40 Nq_q41
  have EX_a1__q41 := EX_a1__q40.keep Kq_q41
  have F_elements_a1__q41 := F_elements_a1__q40.keep Kq_q41 (ninS ne_a1_b_q22 nin0)
  have F_pages_a1__q41 := F_pages_a1__q40.keep Kq_q41 (ninS ne_a1_b_q22 nin0)
  have EX_y__q41 := EX_y__q40.keep Kq_q41
  have V_b_q6__q41 := V_b_q6__q40.keep Kq_q41 (ninS ne_b_q6_b_q22 nin0)
  have V_b_q31__q41 := V_b_q31__q40.keep Kq_q41 (ninS (Ne.symm ne_b_q22_b_q31) nin0)
  have O0_q39__q41 := O0_q39__q40.keep Kq_q41 (ninS ne_b_q13_b_q22 nin0)
  have K_q41 : Keep h0 T_q41.heap [a1] := K_q40.trans Kq_q41 (allS (Or.inr sz_b_q22) all0)
  obtain ⟨cq_q43, qa_q43, qb_q43⟩ := EX_a1__q41.cell
  obtain ⟨_, _, ⟨T_q43, L_q43, k_q43, n_q43⟩, -, X_q43, ⟨Lc_q43, hQ_q43, l_q43, y_q43, z_q43⟩, st_q43⟩ := X_q41.privateBack hx (y := (⟨"com/example/hashwright/hashwright/table/PagedArray", "arrayHolding", "(I)[Ljava/lang/Object;"⟩ : MethodName)) hown (mvT hZ (own_w hw 27 rfl)) (mvT hZ (own_w hw 28 rfl)) (mvT hZ (own_seli (y := (⟨"com/example/hashwright/hashwright/table/PagedArray", "arrayHolding", "(I)[Ljava/lang/Object;"⟩ : MethodName)) (by decide) (own_w hw 10 rfl) (own_w hw 29 rfl) (own_w hw 28 rfl))) (Cond.privateMethod_at (mvP hZ (own_w hw 29 rfl) (args := #[]))) (mvT hZ (own_w hw 30 rfl)) (by decide) (backOf (W := 0) (rmAHP l Z a0 hw [] a1 b_q6 b_q31 k_q6 (3 : Int32) (own_up (own_up (own_up (fun _ => .null) ((0 : Int32)).toNatClampNeg (.ref b_q13)) ((1 : Int32)).toNatClampNeg (.ref b_q22)) ((2 : Int32)).toNatClampNeg (.ref b_q31)) (131072 : Int32) T_q41.heap n0 (Nat.le_trans Z0 K_q41.1) F_elements_a1__q41 F_pages_a1__q41 V_b_q6__q41 rfl (by decide)) hZ (own_w hw 30 rfl) (own_w hw 11 rfl) (by decide) (by decide)) (g := (mkF m 101 #[.val (.ref a1), .val (.int p2), .val (.ref y), .val (.int (131072 : Int32))] [(.int (131072 : Int32)), (.ref a1)])) rfl (by rw [hml]; rfl) (Steps.refl _) (a := a1) qa_q43 qb_q43 (argsL := [(.int (131072 : Int32))]) (rest := []) (lenOf pd__I__Ljava_lang_Object_ rfl) rfl (by show 2 * 0 + _ ≤ _; exact Nat.le_of_eq rfl) (hb hby d2_101) (fun _ _ => ⟨rfl, rfl, (by decide : 4 + 0 ≤ _), (by decide : 196611 + 0 ≤ _)⟩)
  dsimp only [Pt.U, Pt.locs, Pt.cells, Pt.slots] at X_q43 l_q43 y_q43 z_q43 st_q43 hQ_q43
  subst l_q43 y_q43 z_q43
  obtain ⟨rfl, Nq_q43, eq_q43⟩ := hQ_q43
  have Kq_q43 : Keep T_q41.heap T_q43.heap [] := by rw [eq_q43]; exact Keep.refl _ _
  have N_q43 := Fr.app N_q41 Nq_q43
  have F_elements_a1__q43 := F_elements_a1__q41.keep Kq_q43 nin0
  have F_pages_a1__q43 := F_pages_a1__q41.keep Kq_q43 nin0
  have EX_y__q43 := EX_y__q41.keep Kq_q43
  have V_b_q6__q43 := V_b_q6__q41.keep Kq_q43 nin0
  have V_b_q31__q43 := V_b_q31__q41.keep Kq_q43 nin0
  have O0_q39__q43 := O0_q39__q41.keep Kq_q43 nin0
  have O0_q41__q43 := O0_q41.keep Kq_q43 nin0
  have K_q43 : Keep h0 T_q43.heap [a1] := K_q41.trans Kq_q43 all0
  obtain ⟨_, _, ⟨T_q44, L_q44, k_q44, n_q44⟩, -, X_q44, ⟨Lc_q44, hQ_q44, l_q44, y_q44, z_q44⟩, st_q44⟩ := Jvm.LawKit.callS X_q43 hx (y := (⟨"java/util/Arrays", "fill", "([Ljava/lang/Object;Ljava/lang/Object;)V"⟩ : MethodName)) hown (mvT hZ (own_w hw 31 rfl)) (mvT hZ (own_w hw 32 rfl)) (mvT hZ (own_w hw 33 rfl)) (mvT hZ (own_w hw 34 rfl)) (by decide) (backOf (W := 0) (rmFill l Z a0 hw [] b_q31 y k_q31 z2 (fun _ => .null) T_q43.heap n0 (Nat.le_trans Z0 K_q43.1) V_b_q31__q43 EX_y__q43 O_q31 ge_b_q31) hZ (own_w hw 34 rfl) (own_w hw 33 rfl) (by decide) (by decide)) (g := (mkF m 105 #[.val (.ref a1), .val (.int p2), .val (.ref y), .val (.int (131072 : Int32))] [(.ref y), (.ref b_q31)])) rfl (by rw [hml]; rfl) (argsL := [(.ref b_q31), (.ref y)]) (rest := []) (lenOf pd___Ljava_lang_Object_Ljava_lang_Object__V rfl) rfl (by show 2 * 0 + _ ≤ _; exact Nat.le_of_eq rfl) (hb hby d2_105) (fun _ _ => ⟨rfl, rfl, (by decide : 4 + 0 ≤ _), (by decide : 196611 + 0 ≤ _)⟩)
  dsimp only [Pt.U, Pt.locs, Pt.cells, Pt.slots] at X_q44 l_q44 y_q44 z_q44 st_q44 hQ_q44
  subst l_q44 y_q44 z_q44
  obtain ⟨rfl, Nq_q44, Kq_q44, O0_q44⟩ := hQ_q44
  have N_q44 := Fr.app N_q43 Nq_q44
  have F_elements_a1__q44 := F_elements_a1__q43.keep Kq_q44 (ninS ne_a1_b_q31 nin0)
  have F_pages_a1__q44 := F_pages_a1__q43.keep Kq_q44 (ninS ne_a1_b_q31 nin0)
  have V_b_q6__q44 := V_b_q6__q43.keep Kq_q44 (ninS ne_b_q6_b_q31 nin0)
  have O0_q39__q44 := O0_q39__q43.keep Kq_q44 (ninS ne_b_q13_b_q31 nin0)
  have O0_q41__q44 := O0_q41__q43.keep Kq_q44 (ninS ne_b_q22_b_q31 nin0)
  have K_q44 : Keep h0 T_q44.heap [a1] := K_q43.trans Kq_q44 (allS (Or.inr sz_b_q31) all0)
  obtain ⟨fs, hr, hrun, hended, hW, hsame⟩ := X_q44.leave (v := none) (fun _ => rfl) Bd.notSynchronized
  refine ⟨_, _, pre0 _ ?_, hrun, hended, _, _, rfl, ?_, ⟨_, rfl⟩, hW, hsame.mono (by decide) (by decide)⟩
  · show Steps p.tables e below (s₁.setTop (mkF m 0 #[.val (.ref a1), .val (.int p2), .val (.ref y), .unset] [])) _
    refine XS.aloadN X0.here hx rfl (hb hby d2_0) rfl rfl ?_
    show Steps p.tables e below (s₁.setTop (mkF m 1 #[.val (.ref a1), .val (.int p2), .val (.ref y), .unset] [(.ref a1)])) _
    refine st_q2 _ ?_
    refine XS.aloadN X_q2.here hx rfl (hb hby d2_4) rfl rfl ?_
    refine XS.iloadN X_q2.here hx rfl (hb hby d2_5) rfl ?_
    show Steps p.tables e below (T_q2.setTop (mkF m 6 #[.val (.ref a1), .val (.int p2), .val (.ref y), .unset] [(.int p2), (.ref a1)])) _
    refine st_q3 _ ?_
    refine XS.iloadN X_q3.here hx rfl (hb hby d2_9) rfl ?_
    show Steps p.tables e below (T_q3.setTop (mkF m 10 #[.val (.ref a1), .val (.int p2), .val (.ref y), .unset] [(.int p2)])) _
    refine X_q3.ldcInt hx hown (mvT hZ (own_w hw 20 rfl)) (g := (mkF m 10 #[.val (.ref a1), .val (.int p2), .val (.ref y), .unset] [(.int p2)])) rfl (hb hby d2_10) _ ?_
    refine XS.icmpYes X_q3.here hx rfl (pc0 := 12) (pc' := 31) rfl (hb hby d2_12) rfl (tlt hc_q4).2.2.1 (by decide) (by decide) ?_
    refine XS.aloadN X_q3.here hx rfl (hb hby d2_31) rfl rfl ?_
    refine XS.aconstNull X_q3.here hx rfl (hb hby d2_32) ?_
    show Steps p.tables e below (T_q3.setTop (mkF m 33 #[.val (.ref a1), .val (.int p2), .val (.ref y), .unset] [.null, (.ref a1)])) _
    refine st_q5 _ ?_
    refine XS.aloadN X_q5.here hx rfl (hb hby d2_36) rfl rfl ?_
    refine XS.iloadN X_q5.here hx rfl (hb hby d2_37) rfl ?_
    refine XS.iconst X_q5.here hx rfl (hb hby d2_38) ?_
    show Steps p.tables e below (T_q5.setTop (mkF m 39 #[.val (.ref a1), .val (.int p2), .val (.ref y), .unset] [(.int (1 : Int32)), (.int p2), (.ref a1)])) _
    refine XS.isub X_q5.here hx rfl (hb hby d2_39) rfl ?_
    refine XS.bipush X_q5.here hx rfl (hb hby d2_40) ?_
    refine XS.iushr X_q5.here hx rfl (hb hby d2_42) rfl ?_
    refine XS.iconst X_q5.here hx rfl (hb hby d2_43) ?_
    show Steps p.tables e below (T_q5.setTop (mkF m 44 #[.val (.ref a1), .val (.int p2), .val (.ref y), .unset] [(.int (1 : Int32)), (.int (((p2 - (1 : Int32)).toUInt32 >>> ((16 : Int32) &&& 31).toUInt32).toInt32)), (.ref a1)])) _
    refine XS.iadd X_q5.here hx rfl (hb hby d2_44) rfl ?_
    show Steps p.tables e below (T_q5.setTop (mkF m 45 #[.val (.ref a1), .val (.int p2), .val (.ref y), .unset] [(.int ((((p2 - (1 : Int32)).toUInt32 >>> ((16 : Int32) &&& 31).toUInt32).toInt32) + (1 : Int32))), (.ref a1)])) _
    rw [hc_q1]
    show Steps p.tables e below (T_q5.setTop (mkF m 45 #[.val (.ref a1), .val (.int p2), .val (.ref y), .unset] [(.int (3 : Int32)), (.ref a1)])) _
    refine st_q6 _ ?_
    show Steps p.tables e below (T_q6.setTop (mkF m 48 #[.val (.ref a1), .val (.int p2), .val (.ref y), .unset] [(.ref b_q6), (.ref a1)])) _
    refine st_q7 _ ?_
    refine XS.iconst X_q7.here hx rfl (hb hby d2_51) ?_
    refine XS.istoreN X_q7.here hx rfl (hb hby d2_52) rfl (l' := #[.val (.ref a1), .val (.int p2), .val (.ref y), .val (.int (0 : Int32))]) rfl ?_
    refine XS.iloadN X_q7.here hx rfl (hb hby d2_53) rfl ?_
    show Steps p.tables e below (T_q7.setTop (mkF m 54 #[.val (.ref a1), .val (.int p2), .val (.ref y), .val (.int (0 : Int32))] [(.int (0 : Int32))])) _
    refine XS.aloadN X_q7.here hx rfl (hb hby d2_54) rfl rfl ?_
    show Steps p.tables e below (T_q7.setTop (mkF m 55 #[.val (.ref a1), .val (.int p2), .val (.ref y), .val (.int (0 : Int32))] [(.ref a1), (.int (0 : Int32))])) _
    refine st_q8 _ ?_
    show Steps p.tables e below (T_q8.setTop (mkF m 58 #[.val (.ref a1), .val (.int p2), .val (.ref y), .val (.int (0 : Int32))] [(.ref b_q6), (.int (0 : Int32))])) _
    refine X_q8.arraylength hx (by rw [e_q8]; exact Ar_q9.1) (State.isArrayOf_alike hZ.alike Ar_q9.2.1) (g := (mkF m 58 #[.val (.ref a1), .val (.int p2), .val (.ref y), .val (.int (0 : Int32))] [(.ref b_q6), (.int (0 : Int32))])) rfl rfl (hb hby d2_58) _ ?_
    rw [len_of S_q9 Nn_q9]
    refine XS.icmpNo X_q8.here hx rfl (hb hby d2_59) rfl (tlt (by decide : (0 : Int32) < (3 : Int32))).2.1 ?_
    refine XS.aloadN X_q8.here hx rfl (hb hby d2_62) rfl rfl ?_
    show Steps p.tables e below (T_q8.setTop (mkF m 63 #[.val (.ref a1), .val (.int p2), .val (.ref y), .val (.int (0 : Int32))] [(.ref a1)])) _
    refine st_q10 _ ?_
    refine XS.iloadN X_q10.here hx rfl (hb hby d2_66) rfl ?_
    show Steps p.tables e below (T_q10.setTop (mkF m 67 #[.val (.ref a1), .val (.int p2), .val (.ref y), .val (.int (0 : Int32))] [(.int (0 : Int32)), (.ref b_q6)])) _
    refine X_q10.ldcInt hx hown (mvT hZ (own_w hw 20 rfl)) (g := (mkF m 67 #[.val (.ref a1), .val (.int p2), .val (.ref y), .val (.int (0 : Int32))] [(.int (0 : Int32)), (.ref b_q6)])) rfl (hb hby d2_67) _ ?_
    refine XS.iloadN X_q10.here hx rfl (hb hby d2_69) rfl ?_
    refine XS.iloadN X_q10.here hx rfl (hb hby d2_70) rfl ?_
    refine XS.bipush X_q10.here hx rfl (hb hby d2_71) ?_
    show Steps p.tables e below (T_q10.setTop (mkF m 73 #[.val (.ref a1), .val (.int p2), .val (.ref y), .val (.int (0 : Int32))] [(.int (16 : Int32)), (.int (0 : Int32)), (.int p2), (.int (65536 : Int32)), (.int (0 : Int32)), (.ref b_q6)])) _
    refine XS.ishl X_q10.here hx rfl (hb hby d2_73) rfl ?_
    refine XS.isub X_q10.here hx rfl (hb hby d2_74) rfl ?_
    show Steps p.tables e below (T_q10.setTop (mkF m 75 #[.val (.ref a1), .val (.int p2), .val (.ref y), .val (.int (0 : Int32))] [(.int (p2 - (0 : Int32))), (.int (65536 : Int32)), (.int (0 : Int32)), (.ref b_q6)])) _
    refine st_q11 _ ?_
    show Steps p.tables e below (T_q11.setTop (mkF m 78 #[.val (.ref a1), .val (.int p2), .val (.ref y), .val (.int (0 : Int32))] [(.int (F8_0 (65536 : Int32) (p2 - (0 : Int32)))), (.int (0 : Int32)), (.ref b_q6)])) _
    rw [hc_q12]
    show Steps p.tables e below (T_q11.setTop (mkF m 78 #[.val (.ref a1), .val (.int p2), .val (.ref y), .val (.int (0 : Int32))] [(.int z0), (.int (0 : Int32)), (.ref b_q6)])) _
    refine st_q13 _ ?_
    show Steps p.tables e below (T_q13.setTop (mkF m 81 #[.val (.ref a1), .val (.int p2), .val (.ref y), .val (.int (0 : Int32))] [(.ref b_q13), (.int (0 : Int32)), (.ref b_q6)])) _
    refine st_q16 _ ?_
    refine XS.iinc X_q16.here hx rfl (hb hby d2_82) rfl (l' := #[.val (.ref a1), .val (.int p2), .val (.ref y), .val (.int ((0 : Int32) + (1 : Int32)))]) rfl ?_
    refine XS.goto X_q16.here hx rfl (pc0 := 85) (pc' := 53) rfl (hb hby d2_85) (by decide) (by decide) ?_
    refine XS.iloadN X_q16.here hx rfl (hb hby d2_53) rfl ?_
    show Steps p.tables e below (T_q16.setTop (mkF m 54 #[.val (.ref a1), .val (.int p2), .val (.ref y), .val (.int (1 : Int32))] [(.int (1 : Int32))])) _
    refine XS.aloadN X_q16.here hx rfl (hb hby d2_54) rfl rfl ?_
    show Steps p.tables e below (T_q16.setTop (mkF m 55 #[.val (.ref a1), .val (.int p2), .val (.ref y), .val (.int (1 : Int32))] [(.ref a1), (.int (1 : Int32))])) _
    refine st_q17 _ ?_
    show Steps p.tables e below (T_q17.setTop (mkF m 58 #[.val (.ref a1), .val (.int p2), .val (.ref y), .val (.int (1 : Int32))] [(.ref b_q6), (.int (1 : Int32))])) _
    refine X_q17.arraylength hx (by rw [e_q17]; exact Ar_q18.1) (State.isArrayOf_alike hZ.alike Ar_q18.2.1) (g := (mkF m 58 #[.val (.ref a1), .val (.int p2), .val (.ref y), .val (.int (1 : Int32))] [(.ref b_q6), (.int (1 : Int32))])) rfl rfl (hb hby d2_58) _ ?_
    rw [len_of S_q18 Nn_q18]
    refine XS.icmpNo X_q17.here hx rfl (hb hby d2_59) rfl (tlt (by decide : (1 : Int32) < (3 : Int32))).2.1 ?_
    refine XS.aloadN X_q17.here hx rfl (hb hby d2_62) rfl rfl ?_
    show Steps p.tables e below (T_q17.setTop (mkF m 63 #[.val (.ref a1), .val (.int p2), .val (.ref y), .val (.int (1 : Int32))] [(.ref a1)])) _
    refine st_q19 _ ?_
    refine XS.iloadN X_q19.here hx rfl (hb hby d2_66) rfl ?_
    show Steps p.tables e below (T_q19.setTop (mkF m 67 #[.val (.ref a1), .val (.int p2), .val (.ref y), .val (.int (1 : Int32))] [(.int (1 : Int32)), (.ref b_q6)])) _
    refine X_q19.ldcInt hx hown (mvT hZ (own_w hw 20 rfl)) (g := (mkF m 67 #[.val (.ref a1), .val (.int p2), .val (.ref y), .val (.int (1 : Int32))] [(.int (1 : Int32)), (.ref b_q6)])) rfl (hb hby d2_67) _ ?_
    refine XS.iloadN X_q19.here hx rfl (hb hby d2_69) rfl ?_
    refine XS.iloadN X_q19.here hx rfl (hb hby d2_70) rfl ?_
    refine XS.bipush X_q19.here hx rfl (hb hby d2_71) ?_
    show Steps p.tables e below (T_q19.setTop (mkF m 73 #[.val (.ref a1), .val (.int p2), .val (.ref y), .val (.int (1 : Int32))] [(.int (16 : Int32)), (.int (1 : Int32)), (.int p2), (.int (65536 : Int32)), (.int (1 : Int32)), (.ref b_q6)])) _
    refine XS.ishl X_q19.here hx rfl (hb hby d2_73) rfl ?_
    refine XS.isub X_q19.here hx rfl (hb hby d2_74) rfl ?_
    show Steps p.tables e below (T_q19.setTop (mkF m 75 #[.val (.ref a1), .val (.int p2), .val (.ref y), .val (.int (1 : Int32))] [(.int (p2 - (65536 : Int32))), (.int (65536 : Int32)), (.int (1 : Int32)), (.ref b_q6)])) _
    refine st_q20 _ ?_
    show Steps p.tables e below (T_q20.setTop (mkF m 78 #[.val (.ref a1), .val (.int p2), .val (.ref y), .val (.int (1 : Int32))] [(.int (F8_0 (65536 : Int32) (p2 - (65536 : Int32)))), (.int (1 : Int32)), (.ref b_q6)])) _
    rw [hc_q21]
    show Steps p.tables e below (T_q20.setTop (mkF m 78 #[.val (.ref a1), .val (.int p2), .val (.ref y), .val (.int (1 : Int32))] [(.int z1), (.int (1 : Int32)), (.ref b_q6)])) _
    refine st_q22 _ ?_
    show Steps p.tables e below (T_q22.setTop (mkF m 81 #[.val (.ref a1), .val (.int p2), .val (.ref y), .val (.int (1 : Int32))] [(.ref b_q22), (.int (1 : Int32)), (.ref b_q6)])) _
    refine st_q25 _ ?_
    refine XS.iinc X_q25.here hx rfl (hb hby d2_82) rfl (l' := #[.val (.ref a1), .val (.int p2), .val (.ref y), .val (.int ((1 : Int32) + (1 : Int32)))]) rfl ?_
    refine XS.goto X_q25.here hx rfl (pc0 := 85) (pc' := 53) rfl (hb hby d2_85) (by decide) (by decide) ?_
    refine XS.iloadN X_q25.here hx rfl (hb hby d2_53) rfl ?_
    show Steps p.tables e below (T_q25.setTop (mkF m 54 #[.val (.ref a1), .val (.int p2), .val (.ref y), .val (.int (2 : Int32))] [(.int (2 : Int32))])) _
    refine XS.aloadN X_q25.here hx rfl (hb hby d2_54) rfl rfl ?_
    show Steps p.tables e below (T_q25.setTop (mkF m 55 #[.val (.ref a1), .val (.int p2), .val (.ref y), .val (.int (2 : Int32))] [(.ref a1), (.int (2 : Int32))])) _
    refine st_q26 _ ?_
    show Steps p.tables e below (T_q26.setTop (mkF m 58 #[.val (.ref a1), .val (.int p2), .val (.ref y), .val (.int (2 : Int32))] [(.ref b_q6), (.int (2 : Int32))])) _
    refine X_q26.arraylength hx (by rw [e_q26]; exact Ar_q27.1) (State.isArrayOf_alike hZ.alike Ar_q27.2.1) (g := (mkF m 58 #[.val (.ref a1), .val (.int p2), .val (.ref y), .val (.int (2 : Int32))] [(.ref b_q6), (.int (2 : Int32))])) rfl rfl (hb hby d2_58) _ ?_
    rw [len_of S_q27 Nn_q27]
    refine XS.icmpNo X_q26.here hx rfl (hb hby d2_59) rfl (tlt (by decide : (2 : Int32) < (3 : Int32))).2.1 ?_
    refine XS.aloadN X_q26.here hx rfl (hb hby d2_62) rfl rfl ?_
    show Steps p.tables e below (T_q26.setTop (mkF m 63 #[.val (.ref a1), .val (.int p2), .val (.ref y), .val (.int (2 : Int32))] [(.ref a1)])) _
    refine st_q28 _ ?_
    refine XS.iloadN X_q28.here hx rfl (hb hby d2_66) rfl ?_
    show Steps p.tables e below (T_q28.setTop (mkF m 67 #[.val (.ref a1), .val (.int p2), .val (.ref y), .val (.int (2 : Int32))] [(.int (2 : Int32)), (.ref b_q6)])) _
    refine X_q28.ldcInt hx hown (mvT hZ (own_w hw 20 rfl)) (g := (mkF m 67 #[.val (.ref a1), .val (.int p2), .val (.ref y), .val (.int (2 : Int32))] [(.int (2 : Int32)), (.ref b_q6)])) rfl (hb hby d2_67) _ ?_
    refine XS.iloadN X_q28.here hx rfl (hb hby d2_69) rfl ?_
    refine XS.iloadN X_q28.here hx rfl (hb hby d2_70) rfl ?_
    refine XS.bipush X_q28.here hx rfl (hb hby d2_71) ?_
    show Steps p.tables e below (T_q28.setTop (mkF m 73 #[.val (.ref a1), .val (.int p2), .val (.ref y), .val (.int (2 : Int32))] [(.int (16 : Int32)), (.int (2 : Int32)), (.int p2), (.int (65536 : Int32)), (.int (2 : Int32)), (.ref b_q6)])) _
    refine XS.ishl X_q28.here hx rfl (hb hby d2_73) rfl ?_
    refine XS.isub X_q28.here hx rfl (hb hby d2_74) rfl ?_
    show Steps p.tables e below (T_q28.setTop (mkF m 75 #[.val (.ref a1), .val (.int p2), .val (.ref y), .val (.int (2 : Int32))] [(.int (p2 - (131072 : Int32))), (.int (65536 : Int32)), (.int (2 : Int32)), (.ref b_q6)])) _
    refine st_q29 _ ?_
    show Steps p.tables e below (T_q29.setTop (mkF m 78 #[.val (.ref a1), .val (.int p2), .val (.ref y), .val (.int (2 : Int32))] [(.int (F8_0 (65536 : Int32) (p2 - (131072 : Int32)))), (.int (2 : Int32)), (.ref b_q6)])) _
    rw [hc_q30]
    show Steps p.tables e below (T_q29.setTop (mkF m 78 #[.val (.ref a1), .val (.int p2), .val (.ref y), .val (.int (2 : Int32))] [(.int z2), (.int (2 : Int32)), (.ref b_q6)])) _
    refine st_q31 _ ?_
    show Steps p.tables e below (T_q31.setTop (mkF m 81 #[.val (.ref a1), .val (.int p2), .val (.ref y), .val (.int (2 : Int32))] [(.ref b_q31), (.int (2 : Int32)), (.ref b_q6)])) _
    refine st_q34 _ ?_
    refine XS.iinc X_q34.here hx rfl (hb hby d2_82) rfl (l' := #[.val (.ref a1), .val (.int p2), .val (.ref y), .val (.int ((2 : Int32) + (1 : Int32)))]) rfl ?_
    refine XS.goto X_q34.here hx rfl (pc0 := 85) (pc' := 53) rfl (hb hby d2_85) (by decide) (by decide) ?_
    refine XS.iloadN X_q34.here hx rfl (hb hby d2_53) rfl ?_
    show Steps p.tables e below (T_q34.setTop (mkF m 54 #[.val (.ref a1), .val (.int p2), .val (.ref y), .val (.int (3 : Int32))] [(.int (3 : Int32))])) _
    refine XS.aloadN X_q34.here hx rfl (hb hby d2_54) rfl rfl ?_
    show Steps p.tables e below (T_q34.setTop (mkF m 55 #[.val (.ref a1), .val (.int p2), .val (.ref y), .val (.int (3 : Int32))] [(.ref a1), (.int (3 : Int32))])) _
    refine st_q35 _ ?_
    show Steps p.tables e below (T_q35.setTop (mkF m 58 #[.val (.ref a1), .val (.int p2), .val (.ref y), .val (.int (3 : Int32))] [(.ref b_q6), (.int (3 : Int32))])) _
    refine X_q35.arraylength hx (by rw [e_q35]; exact Ar_q36.1) (State.isArrayOf_alike hZ.alike Ar_q36.2.1) (g := (mkF m 58 #[.val (.ref a1), .val (.int p2), .val (.ref y), .val (.int (3 : Int32))] [(.ref b_q6), (.int (3 : Int32))])) rfl rfl (hb hby d2_58) _ ?_
    rw [len_of S_q36 Nn_q36]
    refine XS.icmpYes X_q35.here hx rfl (pc0 := 59) (pc' := 88) rfl (hb hby d2_59) rfl (flt (by decide : ¬ ((3 : Int32) < (3 : Int32)))).2.1 (by decide) (by decide) ?_
    refine XS.aloadN X_q35.here hx rfl (hb hby d2_88) rfl rfl ?_
    refine XS.ifnullNo X_q35.here hx rfl (hb hby d2_89) rfl ?_
    show Steps p.tables e below (T_q35.setTop (mkF m 92 #[.val (.ref a1), .val (.int p2), .val (.ref y), .val (.int (3 : Int32))] [])) _
    refine XS.iconst X_q35.here hx rfl (hb hby d2_92) ?_
    refine XS.istoreN X_q35.here hx rfl (hb hby d2_93) rfl (l' := #[.val (.ref a1), .val (.int p2), .val (.ref y), .val (.int (0 : Int32))]) rfl ?_
    refine XS.iloadN X_q35.here hx rfl (hb hby d2_94) rfl ?_
    refine XS.iloadN X_q35.here hx rfl (hb hby d2_95) rfl ?_
    show Steps p.tables e below (T_q35.setTop (mkF m 96 #[.val (.ref a1), .val (.int p2), .val (.ref y), .val (.int (0 : Int32))] [(.int p2), (.int (0 : Int32))])) _
    refine XS.icmpNo X_q35.here hx rfl (hb hby d2_96) rfl (tlt hc_q37).2.1 ?_
    refine XS.aloadN X_q35.here hx rfl (hb hby d2_99) rfl rfl ?_
    refine XS.iloadN X_q35.here hx rfl (hb hby d2_100) rfl ?_
    show Steps p.tables e below (T_q35.setTop (mkF m 101 #[.val (.ref a1), .val (.int p2), .val (.ref y), .val (.int (0 : Int32))] [(.int (0 : Int32)), (.ref a1)])) _
    refine st_q38.trans ?_
    refine XS.aloadN X_q38.here hx rfl (hb hby d2_104) rfl rfl ?_
    show Steps p.tables e below (T_q38.setTop (mkF m 105 #[.val (.ref a1), .val (.int p2), .val (.ref y), .val (.int (0 : Int32))] [(.ref y), (.ref b_q13)])) _
    refine st_q39 _ ?_
    refine XS.iloadN X_q39.here hx rfl (hb hby d2_108) rfl ?_
    show Steps p.tables e below (T_q39.setTop (mkF m 109 #[.val (.ref a1), .val (.int p2), .val (.ref y), .val (.int (0 : Int32))] [(.int (0 : Int32))])) _
    refine X_q39.ldcInt hx hown (mvT hZ (own_w hw 20 rfl)) (g := (mkF m 109 #[.val (.ref a1), .val (.int p2), .val (.ref y), .val (.int (0 : Int32))] [(.int (0 : Int32))])) rfl (hb hby d2_109) _ ?_
    refine XS.iadd X_q39.here hx rfl (hb hby d2_111) rfl ?_
    refine XS.istoreN X_q39.here hx rfl (hb hby d2_112) rfl (l' := #[.val (.ref a1), .val (.int p2), .val (.ref y), .val (.int (65536 : Int32))]) rfl ?_
    refine XS.goto X_q39.here hx rfl (pc0 := 113) (pc' := 94) rfl (hb hby d2_113) (by decide) (by decide) ?_
    show Steps p.tables e below (T_q39.setTop (mkF m 94 #[.val (.ref a1), .val (.int p2), .val (.ref y), .val (.int (65536 : Int32))] [])) _
    refine XS.iloadN X_q39.here hx rfl (hb hby d2_94) rfl ?_
    refine XS.iloadN X_q39.here hx rfl (hb hby d2_95) rfl ?_
    refine XS.icmpNo X_q39.here hx rfl (hb hby d2_96) rfl (tlt hc_q4).2.1 ?_
    refine XS.aloadN X_q39.here hx rfl (hb hby d2_99) rfl rfl ?_
    show Steps p.tables e below (T_q39.setTop (mkF m 100 #[.val (.ref a1), .val (.int p2), .val (.ref y), .val (.int (65536 : Int32))] [(.ref a1)])) _
    refine XS.iloadN X_q39.here hx rfl (hb hby d2_100) rfl ?_
    show Steps p.tables e below (T_q39.setTop (mkF m 101 #[.val (.ref a1), .val (.int p2), .val (.ref y), .val (.int (65536 : Int32))] [(.int (65536 : Int32)), (.ref a1)])) _
    refine st_q40.trans ?_
    refine XS.aloadN X_q40.here hx rfl (hb hby d2_104) rfl rfl ?_
    show Steps p.tables e below (T_q40.setTop (mkF m 105 #[.val (.ref a1), .val (.int p2), .val (.ref y), .val (.int (65536 : Int32))] [(.ref y), (.ref b_q22)])) _
    refine st_q41 _ ?_
    refine XS.iloadN X_q41.here hx rfl (hb hby d2_108) rfl ?_
    show Steps p.tables e below (T_q41.setTop (mkF m 109 #[.val (.ref a1), .val (.int p2), .val (.ref y), .val (.int (65536 : Int32))] [(.int (65536 : Int32))])) _
    refine X_q41.ldcInt hx hown (mvT hZ (own_w hw 20 rfl)) (g := (mkF m 109 #[.val (.ref a1), .val (.int p2), .val (.ref y), .val (.int (65536 : Int32))] [(.int (65536 : Int32))])) rfl (hb hby d2_109) _ ?_
    refine XS.iadd X_q41.here hx rfl (hb hby d2_111) rfl ?_
    refine XS.istoreN X_q41.here hx rfl (hb hby d2_112) rfl (l' := #[.val (.ref a1), .val (.int p2), .val (.ref y), .val (.int (131072 : Int32))]) rfl ?_
    refine XS.goto X_q41.here hx rfl (pc0 := 113) (pc' := 94) rfl (hb hby d2_113) (by decide) (by decide) ?_
    show Steps p.tables e below (T_q41.setTop (mkF m 94 #[.val (.ref a1), .val (.int p2), .val (.ref y), .val (.int (131072 : Int32))] [])) _
    refine XS.iloadN X_q41.here hx rfl (hb hby d2_94) rfl ?_
    refine XS.iloadN X_q41.here hx rfl (hb hby d2_95) rfl ?_
    refine XS.icmpNo X_q41.here hx rfl (hb hby d2_96) rfl (tlt hc_q42).2.1 ?_
    refine XS.aloadN X_q41.here hx rfl (hb hby d2_99) rfl rfl ?_
    show Steps p.tables e below (T_q41.setTop (mkF m 100 #[.val (.ref a1), .val (.int p2), .val (.ref y), .val (.int (131072 : Int32))] [(.ref a1)])) _
    refine XS.iloadN X_q41.here hx rfl (hb hby d2_100) rfl ?_
    show Steps p.tables e below (T_q41.setTop (mkF m 101 #[.val (.ref a1), .val (.int p2), .val (.ref y), .val (.int (131072 : Int32))] [(.int (131072 : Int32)), (.ref a1)])) _
    refine st_q43.trans ?_
    refine XS.aloadN X_q43.here hx rfl (hb hby d2_104) rfl rfl ?_
    show Steps p.tables e below (T_q43.setTop (mkF m 105 #[.val (.ref a1), .val (.int p2), .val (.ref y), .val (.int (131072 : Int32))] [(.ref y), (.ref b_q31)])) _
    refine st_q44 _ ?_
    refine XS.iloadN X_q44.here hx rfl (hb hby d2_108) rfl ?_
    show Steps p.tables e below (T_q44.setTop (mkF m 109 #[.val (.ref a1), .val (.int p2), .val (.ref y), .val (.int (131072 : Int32))] [(.int (131072 : Int32))])) _
    refine X_q44.ldcInt hx hown (mvT hZ (own_w hw 20 rfl)) (g := (mkF m 109 #[.val (.ref a1), .val (.int p2), .val (.ref y), .val (.int (131072 : Int32))] [(.int (131072 : Int32))])) rfl (hb hby d2_109) _ ?_
    refine XS.iadd X_q44.here hx rfl (hb hby d2_111) rfl ?_
    refine XS.istoreN X_q44.here hx rfl (hb hby d2_112) rfl (l' := #[.val (.ref a1), .val (.int p2), .val (.ref y), .val (.int (196608 : Int32))]) rfl ?_
    refine XS.goto X_q44.here hx rfl (pc0 := 113) (pc' := 94) rfl (hb hby d2_113) (by decide) (by decide) ?_
    show Steps p.tables e below (T_q44.setTop (mkF m 94 #[.val (.ref a1), .val (.int p2), .val (.ref y), .val (.int (196608 : Int32))] [])) _
    refine XS.iloadN X_q44.here hx rfl (hb hby d2_94) rfl ?_
    refine XS.iloadN X_q44.here hx rfl (hb hby d2_95) rfl ?_
    refine XS.icmpYes X_q44.here hx rfl (pc0 := 96) (pc' := 116) rfl (hb hby d2_96) rfl (flt hc_q45).2.1 (by decide) (by decide) ?_
    show Steps p.tables e below (T_q44.setTop (mkF m 116 #[.val (.ref a1), .val (.int p2), .val (.ref y), .val (.int (196608 : Int32))] [])) _
    exact X_q44.returnOut hx Bd.returns (hb hby d2_116) hr
  · show Q_rmIP3r Z a1 y p2 z0 z1 z2 h0 n0 _ T_q44.heap _
    exact ⟨b_q6, k_q6, b_q13, k_q13, b_q22, k_q22, b_q31, k_q31, rfl, N_q44, K_q44, sz_b_q6, sz_b_q13, sz_b_q22, sz_b_q31, ne_b_q6_b_q13, ne_b_q6_b_q22, ne_b_q6_b_q31, ne_b_q13_b_q22, ne_b_q13_b_q31, ne_b_q22_b_q31, F_elements_a1__q44, F_pages_a1__q44, V_b_q6__q44, O0_q39__q44, O_q13, O0_q41__q44, O_q22, O0_q44, O_q31⟩
theorem own_mono {l : Launch} {x : MethodName} {S : Spec} {P : Array Value → State → Prop} {K : Program → Env → List Frame → State → Array Value → Prop} {Q Q' : Array Value → State → Outcome → State → Prop} (h : MetFree l x S P K Q) (q : ∀ a s o u, Q a s o u → Q' a s o u) : MetFree l x S P K Q' := fun p e h1 h2 h3 s m a b h4 h5 h6 h7 => by
  obtain ⟨n, o, r1, r2, r3, r4⟩ := h p e h1 h2 h3 s m a b h4 h5 h6 h7
  exact ⟨n, o, r1, r2, r3, q _ _ _ _ r4⟩
def own_sh (p : Int32) : Int32 := ((p.toUInt32 >>> ((16 : Int32) &&& 31).toUInt32).toInt32)
theorem own_sh_toInt {p : Int32} (h : ¬ p < 0) : (own_sh p).toInt = p.toInt / 65536 := by
  have h0 : 0 ≤ p.toInt := by
    rw [Int32.lt_iff_toInt_lt] at h
    have : (0 : Int32).toInt = 0 := by decide
    omega
  have h1 := p.toInt_lt
  have e1 : p.toUInt32.toNat = p.toInt.toNat := by
    have q : p.toInt = p.toBitVec.toInt := rfl
    have q2 : p.toUInt32.toNat = p.toBitVec.toNat := rfl
    rw [q2]
    rw [q, BitVec.toInt_eq_toNat_cond] at h0 h1 ⊢
    split at h0 <;> split at h1 <;> split <;> omega
  have e2 : (p.toUInt32 >>> ((16 : Int32) &&& 31).toUInt32).toNat = p.toInt.toNat / 65536 := by
    rw [UInt32.toNat_shiftRight, e1, Nat.shiftRight_eq_div_pow]
    rfl
  have e3 : (own_sh p).toInt = ((p.toUInt32 >>> ((16 : Int32) &&& 31).toUInt32).toNat : Int) := by
    show (p.toUInt32 >>> ((16 : Int32) &&& 31).toUInt32).toBitVec.toInt = _
    rw [BitVec.toInt_eq_toNat_cond]
    have q3 : (p.toUInt32 >>> ((16 : Int32) &&& 31).toUInt32).toBitVec.toNat = (p.toUInt32 >>> ((16 : Int32) &&& 31).toUInt32).toNat := rfl
    rw [q3, e2]
    split <;> omega
  rw [e3, e2]
  omega
theorem own_sh_nat {p : Int32} (h : ¬ p < 0) : (own_sh p).toNatClampNeg = p.toNatClampNeg / 65536 := by
  show (own_sh p).toInt.toNat = p.toInt.toNat / 65536
  rw [own_sh_toInt h]
  have h0 : 0 ≤ p.toInt := by
    rw [Int32.lt_iff_toInt_lt] at h
    have : (0 : Int32).toInt = 0 := by decide
    omega
  omega
theorem own_lo_nat {p : Int32} (h : ¬ p < 0) : (p &&& (65535 : Int32)).toNatClampNeg = p.toNatClampNeg % 65536 := by
  have e : (p &&& (65535 : Int32)).toInt = p.toInt % 2 ^ 16 := Jvm.Kit.i32_mask p 65535 (k := 16) (by decide) (by decide)
  have h0 : 0 ≤ p.toInt := by
    rw [Int32.lt_iff_toInt_lt] at h
    have : (0 : Int32).toInt = 0 := by decide
    omega
  show (p &&& (65535 : Int32)).toInt.toNat = p.toInt.toNat % 65536
  rw [e]
  omega
theorem own_in {p z : Int32} (ht : p.toNatClampNeg < z.toNatClampNeg) (h : 0 ≤ p.toInt) : ¬ p < 0 ∧ p < z := by
  have a : p.toNatClampNeg = p.toInt.toNat := rfl
  have b : z.toNatClampNeg = z.toInt.toNat := rfl
  rw [Int32.lt_iff_toInt_lt, Int32.lt_iff_toInt_lt]
  have : (0 : Int32).toInt = 0 := by decide
  omega
theorem own_ge0 {p : Int32} (h : ¬ p < 0) : 0 ≤ p.toInt := by
  rw [Int32.lt_iff_toInt_lt] at h
  have : (0 : Int32).toInt = 0 := by decide
  omega
theorem own_ltN {p z : Int32} (h : ¬ p < 0 ∧ p < z) : p.toNatClampNeg < z.toNatClampNeg := by
  have a : p.toNatClampNeg = p.toInt.toNat := rfl
  have b : z.toNatClampNeg = z.toInt.toNat := rfl
  have h1 := own_ge0 h.1
  have h2 := h.2
  rw [Int32.lt_iff_toInt_lt] at h2
  omega
def own_PA (Z : State) (h : Heap) (o : Addr) (nb : Nat) (n : Int32) (F : Nat → Value) : Prop :=
  (∃ (va : Addr) (k1 : ClassId), nb ≤ va ∧ o ≠ va ∧ Fld Z h o "com/example/hashwright/hashwright/table/PagedArray" "elements" "[Ljava/lang/Object;" (.ref va) ∧ Arv Z h va k1 (.object "java/lang/Object") n (own_R (n).toNatClampNeg F) .null ∧ Ovr Z k1 "java/lang/Object")
  ∨ (∃ (pg : Addr) (kg : ClassId) (zp : Int32) (P : Nat → Addr) (K : Nat → ClassId) (Zs : Nat → Int32), n.toNatClampNeg ≤ 65536 * zp.toNatClampNeg ∧ Fld Z h o "com/example/hashwright/hashwright/table/PagedArray" "elements" "[Ljava/lang/Object;" .null ∧ Fld Z h o "com/example/hashwright/hashwright/table/PagedArray" "pages" "[[Ljava/lang/Object;" (.ref pg) ∧ Arv Z h pg kg (.array (.object "java/lang/Object")) zp (own_R (zp).toNatClampNeg (fun t => .ref (P t))) .null
    ∧ ∀ t, t < zp.toNatClampNeg → nb ≤ P t ∧ o ≠ P t ∧ pg ≠ P t ∧ (∀ t', t' < zp.toNatClampNeg → t' ≠ t → P t' ≠ P t) ∧ (Zs t).toNatClampNeg = min 65536 (n.toNatClampNeg - 65536 * t) ∧ Arv Z h (P t) (K t) (.object "java/lang/Object") (Zs t) (own_R (Zs t).toNatClampNeg (fun q => F (65536 * t + q))) .null ∧ Ovr Z (K t) "java/lang/Object")
def Q_set (Z : State) (a1 y : Addr) (n p2 : Int32) (nb : Nat) (F : Nat → Value) (h0 : Heap) (n0 : Nat) (v : Option Value) (h : Heap) (L : List Loc) : Prop := v = none ∧ Fr n0 L ∧ ∃ W, Keep h0 h W ∧ (∀ x ∈ W, nb ≤ x) ∧ own_PA Z h a1 nb n (own_up F (p2).toNatClampNeg (.ref y))
theorem rmSet (l : Launch) (Z : State) (a0 : Array Value) (hw : ∀ d ∈ tables_1, d.before a0 Z = true) (ws : List Jvm.Cond) (a1 y : Addr) (n p2 : Int32) (nb : Nat) (F : Nat → Value) (h0 : Heap) (n0 : Nat) (Z0 : n0 ≤ h0.size) (EX_y : Exa Z h0 y "java/lang/Integer") (hP : own_PA Z h0 a1 nb n F) (hnb : n0 ≤ nb) (hi : ¬ p2 < 0 ∧ p2 < n) : MetFree l (⟨"com/example/hashwright/hashwright/table/PagedArray", "set", "(ILjava/lang/Object;)V"⟩ : MethodName) (head1 (Jvm.Cond.code (⟨"com/example/hashwright/hashwright/table/PagedArray", "set", "(ILjava/lang/Object;)V"⟩ : MethodName) prog_72_method_5_code 4 none :: ws) ({ frames := 0, cells := 0, slots := 0, locals := 0 } : Room)) (fun a U => a = #[(.ref a1), (.int p2), (.ref y)] ∧ Z.Warmed39 U.vm ∧ U.heap = h0) (fun _ _ _ _ _ => True) (fun _ U o U' => ∃ v L, o = .returned v ∧ Q_set Z a1 y n p2 nb F h0 n0 v U'.heap L ∧ FrameEnd U o U' L ({ frames := 0, cells := 0, slots := 0, locals := 0 } : Room).cells ({ frames := 0, cells := 0, slots := 0, locals := 0 } : Room).slots) := by
  rcases hP with ⟨va, k1, g1, g2, g3, g4, g5⟩ | ⟨pg, kg, zp, P, K, Zs, g1, g2, g3, g4, g5⟩
  · refine own_mono (rmSetF l Z a0 hw ws a1 va y k1 n F p2 h0 n0 Z0 g3 g4 EX_y g5 (Nat.le_trans hnb g1) g2 hi) ?_
    rintro a s o u ⟨v, L, e1, ⟨e2, e3, e4, e5, e6⟩, e7⟩
    exact ⟨v, L, e1, ⟨e2, e3, [va], e4, fun x hx => by cases List.mem_singleton.mp hx; exact g1, Or.inl ⟨va, k1, g1, g2, e5, e6, g5⟩⟩, e7⟩
  · have hlt := own_ltN hi
    have e16 := own_sh_nat hi.1
    have elo := own_lo_nat hi.1
    have ht : p2.toNatClampNeg / 65536 < zp.toNatClampNeg := by omega
    have hs : ¬ own_sh p2 < 0 ∧ own_sh p2 < zp := own_in (by rw [e16]; exact ht) (by rw [own_sh_toInt hi.1]; have := own_ge0 hi.1; omega)
    obtain ⟨f1, f2, f3, f4, f5, f6, f7⟩ := g5 _ ht
    have hl : ¬ (p2 &&& (65535 : Int32)) < 0 ∧ (p2 &&& (65535 : Int32)) < Zs (p2.toNatClampNeg / 65536) := own_in (by rw [elo, f5]; omega) (by
      have e : (p2 &&& (65535 : Int32)).toInt = p2.toInt % 2 ^ 16 := Jvm.Kit.i32_mask p2 65535 (k := 16) (by decide) (by decide)
      omega)
    refine own_mono (rmSetP l Z a0 hw ws a1 pg (P (p2.toNatClampNeg / 65536)) y kg (K (p2.toNatClampNeg / 65536)) zp (Zs (p2.toNatClampNeg / 65536)) (fun t => .ref (P t)) (fun q => F (65536 * (p2.toNatClampNeg / 65536) + q)) p2 h0 n0 Z0 g2 g3 g4 f6 EX_y f7 (Nat.le_trans hnb f1) f2 f3 (by show (fun t => Value.ref (P t)) (own_sh p2).toNatClampNeg = _; rw [e16]) hs hl) ?_
    rintro a s o u ⟨v, L, e1, ⟨e2, e3, e4, e5, e6, e7, e8⟩, e9⟩
    refine ⟨v, L, e1, ⟨e2, e3, [P (p2.toNatClampNeg / 65536)], e4, fun x hx => by cases List.mem_singleton.mp hx; exact f1, Or.inr ⟨pg, kg, zp, P, K, Zs, g1, e5, e6, e7, fun t ht' => ?_⟩⟩, e9⟩
    obtain ⟨d1, d2, d3, d4, d5, d6, d7⟩ := g5 t ht'
    refine ⟨d1, d2, d3, d4, d5, ?_, d7⟩
    by_cases q : t = p2.toNatClampNeg / 65536
    · subst q
      rw [own_R_eq (G := own_up (fun q => F (65536 * (p2.toNatClampNeg / 65536) + q)) (p2 &&& (65535 : Int32)).toNatClampNeg (.ref y)) (fun q hq => by
        simp only [own_up, elo]
        by_cases c : q = p2.toNatClampNeg % 65536
        · rw [if_pos c, if_pos (by omega)]
        · rw [if_neg c, if_neg (by omega)])]
      exact e8
    · rw [own_R_eq (G := fun q => F (65536 * t + q)) (fun q' hq => by
        simp only [own_up]
        rw [if_neg (by omega)])]
      exact d6.keep e4 (fun hm => f4 t ht' q (List.mem_singleton.mp hm))
def Q_getn (Z : State) (a1 : Addr) (n p2 : Int32) (nb : Nat) (F : Nat → Value) (h0 : Heap) (n0 : Nat) (v : Option Value) (h : Heap) (L : List Loc) : Prop := v = some .null ∧ Fr n0 L ∧ h = h0
theorem rmGetn (l : Launch) (Z : State) (a0 : Array Value) (hw : ∀ d ∈ tables_1, d.before a0 Z = true) (ws : List Jvm.Cond) (a1 : Addr) (n p2 : Int32) (nb : Nat) (F : Nat → Value) (h0 : Heap) (n0 : Nat) (Z0 : n0 ≤ h0.size) (hP : own_PA Z h0 a1 nb n F) (hi : ¬ p2 < 0 ∧ p2 < n) (hF : F (p2).toNatClampNeg = .null) : MetFree l (⟨"com/example/hashwright/hashwright/table/PagedArray", "get", "(I)Ljava/lang/Object;"⟩ : MethodName) (head1 (Jvm.Cond.code (⟨"com/example/hashwright/hashwright/table/PagedArray", "get", "(I)Ljava/lang/Object;"⟩ : MethodName) prog_72_method_4_code 4 (some (.object "java/lang/Object")) :: ws) ({ frames := 0, cells := 0, slots := 0, locals := 0 } : Room)) (fun a U => a = #[(.ref a1), (.int p2)] ∧ Z.Warmed39 U.vm ∧ U.heap = h0) (fun _ _ _ _ _ => True) (fun _ U o U' => ∃ v L, o = .returned v ∧ Q_getn Z a1 n p2 nb F h0 n0 v U'.heap L ∧ FrameEnd U o U' L ({ frames := 0, cells := 0, slots := 0, locals := 0 } : Room).cells ({ frames := 0, cells := 0, slots := 0, locals := 0 } : Room).slots) := by
  rcases hP with ⟨va, k1, g1, g2, g3, g4, g5⟩ | ⟨pg, kg, zp, P, K, Zs, g1, g2, g3, g4, g5⟩
  · exact rmGetFn l Z a0 hw ws a1 va k1 n F p2 h0 n0 Z0 g3 g4 hF hi
  · have hlt := own_ltN hi
    have e16 := own_sh_nat hi.1
    have elo := own_lo_nat hi.1
    have ht : p2.toNatClampNeg / 65536 < zp.toNatClampNeg := by omega
    have hs : ¬ own_sh p2 < 0 ∧ own_sh p2 < zp := own_in (by rw [e16]; exact ht) (by rw [own_sh_toInt hi.1]; have := own_ge0 hi.1; omega)
    obtain ⟨f1, f2, f3, f4, f5, f6, f7⟩ := g5 _ ht
    have hl : ¬ (p2 &&& (65535 : Int32)) < 0 ∧ (p2 &&& (65535 : Int32)) < Zs (p2.toNatClampNeg / 65536) := own_in (by rw [elo, f5]; omega) (by
      have e : (p2 &&& (65535 : Int32)).toInt = p2.toInt % 2 ^ 16 := Jvm.Kit.i32_mask p2 65535 (k := 16) (by decide) (by decide)
      omega)
    exact rmGetPn l Z a0 hw ws a1 pg (P (p2.toNatClampNeg / 65536)) kg (K (p2.toNatClampNeg / 65536)) zp (Zs (p2.toNatClampNeg / 65536)) (fun t => .ref (P t)) (fun q => F (65536 * (p2.toNatClampNeg / 65536) + q)) p2 h0 n0 Z0 g2 g3 g4 f6 (by show (fun t => Value.ref (P t)) (own_sh p2).toNatClampNeg = _; rw [e16]) (by show F (65536 * (p2.toNatClampNeg / 65536) + (p2 &&& (65535 : Int32)).toNatClampNeg) = _; rw [elo, show 65536 * (p2.toNatClampNeg / 65536) + p2.toNatClampNeg % 65536 = p2.toNatClampNeg by omega]; exact hF) hs hl
def Q_getr (Z : State) (a1 : Addr) (n p2 : Int32) (nb : Nat) (F : Nat → Value) (y : Addr) (h0 : Heap) (n0 : Nat) (v : Option Value) (h : Heap) (L : List Loc) : Prop := v = some (.ref y) ∧ Fr n0 L ∧ h = h0
theorem rmGetr (l : Launch) (Z : State) (a0 : Array Value) (hw : ∀ d ∈ tables_1, d.before a0 Z = true) (ws : List Jvm.Cond) (a1 : Addr) (n p2 : Int32) (nb : Nat) (F : Nat → Value) (y : Addr) (h0 : Heap) (n0 : Nat) (Z0 : n0 ≤ h0.size) (hP : own_PA Z h0 a1 nb n F) (hi : ¬ p2 < 0 ∧ p2 < n) (hF : F (p2).toNatClampNeg = (.ref y)) : MetFree l (⟨"com/example/hashwright/hashwright/table/PagedArray", "get", "(I)Ljava/lang/Object;"⟩ : MethodName) (head1 (Jvm.Cond.code (⟨"com/example/hashwright/hashwright/table/PagedArray", "get", "(I)Ljava/lang/Object;"⟩ : MethodName) prog_72_method_4_code 4 (some (.object "java/lang/Object")) :: ws) ({ frames := 0, cells := 0, slots := 0, locals := 0 } : Room)) (fun a U => a = #[(.ref a1), (.int p2)] ∧ Z.Warmed39 U.vm ∧ U.heap = h0) (fun _ _ _ _ _ => True) (fun _ U o U' => ∃ v L, o = .returned v ∧ Q_getr Z a1 n p2 nb F y h0 n0 v U'.heap L ∧ FrameEnd U o U' L ({ frames := 0, cells := 0, slots := 0, locals := 0 } : Room).cells ({ frames := 0, cells := 0, slots := 0, locals := 0 } : Room).slots) := by
  rcases hP with ⟨va, k1, g1, g2, g3, g4, g5⟩ | ⟨pg, kg, zp, P, K, Zs, g1, g2, g3, g4, g5⟩
  · exact rmGetFr l Z a0 hw ws a1 va k1 n F p2 y h0 n0 Z0 g3 g4 hF hi
  · have hlt := own_ltN hi
    have e16 := own_sh_nat hi.1
    have elo := own_lo_nat hi.1
    have ht : p2.toNatClampNeg / 65536 < zp.toNatClampNeg := by omega
    have hs : ¬ own_sh p2 < 0 ∧ own_sh p2 < zp := own_in (by rw [e16]; exact ht) (by rw [own_sh_toInt hi.1]; have := own_ge0 hi.1; omega)
    obtain ⟨f1, f2, f3, f4, f5, f6, f7⟩ := g5 _ ht
    have hl : ¬ (p2 &&& (65535 : Int32)) < 0 ∧ (p2 &&& (65535 : Int32)) < Zs (p2.toNatClampNeg / 65536) := own_in (by rw [elo, f5]; omega) (by
      have e : (p2 &&& (65535 : Int32)).toInt = p2.toInt % 2 ^ 16 := Jvm.Kit.i32_mask p2 65535 (k := 16) (by decide) (by decide)
      omega)
    exact rmGetPr l Z a0 hw ws a1 pg (P (p2.toNatClampNeg / 65536)) kg (K (p2.toNatClampNeg / 65536)) zp (Zs (p2.toNatClampNeg / 65536)) (fun t => .ref (P t)) (fun q => F (65536 * (p2.toNatClampNeg / 65536) + q)) p2 y h0 n0 Z0 g2 g3 g4 f6 (by show (fun t => Value.ref (P t)) (own_sh p2).toNatClampNeg = _; rw [e16]) (by show F (65536 * (p2.toNatClampNeg / 65536) + (p2 &&& (65535 : Int32)).toNatClampNeg) = _; rw [elo, show 65536 * (p2.toNatClampNeg / 65536) + p2.toNatClampNeg % 65536 = p2.toNatClampNeg by omega]; exact hF) hs hl
theorem own_mn (a b : Int32) : F8_0 a b = if b < a then b else a := by
  unfold F8_0
  by_cases h : b < a <;> simp [h]
theorem own_pos {n : Int32} (h1 : 0 < n.toInt) (h2 : n.toInt ≤ 196608) : (¬ (n) < 0) ∧ (0 : Int32) < n := by
  rw [Int32.lt_iff_toInt_lt, Int32.lt_iff_toInt_lt]
  have : (0 : Int32).toInt = 0 := by decide
  omega
theorem own_sub {n : Int32} {k : Int32} (h1 : 0 ≤ n.toInt) (h2 : 0 ≤ k.toInt) : (n - k).toInt = n.toInt - k.toInt := by
  rw [Int32.toInt_sub]
  have := n.toInt_lt; have := k.toInt_lt
  exact Int.bmod_eq_of_le (by omega) (by omega)
theorem own_mnz {m : Int32} (h : m.toInt ≤ 65536) : F8_0 (65536 : Int32) m = m := by
  rw [own_mn]
  by_cases q : m < (65536 : Int32)
  · rw [if_pos q]
  · rw [if_neg q, ← Int32.toInt_inj]
    rw [Int32.lt_iff_toInt_lt] at q
    have : (65536 : Int32).toInt = 65536 := by decide
    omega
theorem own_mnc {m : Int32} (h : 65536 ≤ m.toInt) : F8_0 (65536 : Int32) m = (65536 : Int32) := by
  rw [own_mn, if_neg]
  rw [Int32.lt_iff_toInt_lt]
  have : (65536 : Int32).toInt = 65536 := by decide
  omega
theorem own_npg {n k : Int32} (h1 : 65536 * (k.toInt - 1) < n.toInt) (h2 : n.toInt ≤ 65536 * k.toInt) (h3 : 1 ≤ k.toInt) (h4 : k.toInt ≤ 3) : ((((n - (1 : Int32)).toUInt32 >>> ((16 : Int32) &&& 31).toUInt32).toInt32) + (1 : Int32)) = k := by
  have c1 : (1 : Int32).toInt = 1 := by decide
  have e : (n - (1 : Int32)).toInt = n.toInt - 1 := by rw [own_sub (by omega) (by omega), c1]
  have e2 : (own_sh (n - (1 : Int32))).toInt = (n.toInt - 1) / 65536 := by
    rw [own_sh_toInt (by rw [Int32.lt_iff_toInt_lt, e]; have : (0 : Int32).toInt = 0 := by decide
                         omega), e]
  show own_sh (n - (1 : Int32)) + (1 : Int32) = k
  rw [← Int32.toInt_inj, Int32.toInt_add, e2, c1, Int.bmod_eq_of_le (by omega) (by omega)]
  omega
def Q_inin (Z : State) (a1 : Addr) (p2 : Int32) (h0 : Heap) (n0 : Nat) (v : Option Value) (h : Heap) (L : List Loc) : Prop := v = none ∧ Fr n0 L ∧ Keep h0 h [a1] ∧ own_PA Z h a1 h0.size p2 (fun _ => .null)
set_option maxHeartbeats 4000000 in
theorem rmInin (l : Launch) (Z : State) (a0 : Array Value) (hw : ∀ d ∈ tables_1, d.before a0 Z = true) (ws : List Jvm.Cond) (a1 : Addr) (p2 : Int32) (h0 : Heap) (n0 : Nat) (Z0 : n0 ≤ h0.size) (EX_a1 : Exa Z h0 a1 "com/example/hashwright/hashwright/table/PagedArray") (F_length_a1 : Fld Z h0 a1 "com/example/hashwright/hashwright/table/PagedArray" "length" "I" (.int (0 : Int32))) (F_elements_a1 : Fld Z h0 a1 "com/example/hashwright/hashwright/table/PagedArray" "elements" "[Ljava/lang/Object;" .null) (F_pages_a1 : Fld Z h0 a1 "com/example/hashwright/hashwright/table/PagedArray" "pages" "[[Ljava/lang/Object;" .null) (ge_a1 : n0 ≤ a1) (h1 : 0 < p2.toInt) (h2 : p2.toInt ≤ 196608) : MetFree l (⟨"com/example/hashwright/hashwright/table/PagedArray", "<init>", "(ILjava/lang/Object;)V"⟩ : MethodName) (head1 (Jvm.Cond.code (⟨"com/example/hashwright/hashwright/table/PagedArray", "<init>", "(ILjava/lang/Object;)V"⟩ : MethodName) prog_72_method_2_code 4 none :: ws) ({ frames := 1, cells := 4, slots := 196611, locals := 60 } : Room)) (fun a U => a = #[(.ref a1), (.int p2), .null] ∧ Z.Warmed39 U.vm ∧ U.heap = h0) (fun _ _ _ _ _ => True) (fun _ U o U' => ∃ v L, o = .returned v ∧ Q_inin Z a1 p2 h0 n0 v U'.heap L ∧ FrameEnd U o U' L ({ frames := 1, cells := 4, slots := 196611, locals := 60 } : Room).cells ({ frames := 1, cells := 4, slots := 196611, locals := 60 } : Room).slots) := by
  have c0 : (0 : Int32).toInt = 0 := by decide
  have c1 : (65536 : Int32).toInt = 65536 := by decide
  have c2 : (131072 : Int32).toInt = 131072 := by decide
  have c3 : (196608 : Int32).toInt = 196608 := by decide
  have k2 : (2 : Int32).toInt = 2 := by decide
  have k3 : (3 : Int32).toInt = 3 := by decide
  have lta := EX_a1.lt
  have d0 : (p2 - (0 : Int32)).toInt = p2.toInt := by rw [own_sub (by omega) (by omega), c0]; omega
  by_cases h3 : p2.toInt ≤ 65536
  · refine own_mono (rmIFn l Z a0 hw ws a1 p2 h0 n0 Z0 EX_a1 F_length_a1 F_elements_a1 F_pages_a1 ge_a1 (by rw [Int32.lt_iff_toInt_lt]; omega) (by rw [Int32.lt_iff_toInt_lt]; omega) (by show p2.toInt.toNat ≤ _; omega)) ?_
    rintro a s o u ⟨v, L, e1, ⟨r1, kr1, e2, e3, e4, e5, e6, e7, e8, e9⟩, e10⟩
    exact ⟨v, L, e1, ⟨e2, e3, e4, Or.inl ⟨r1, kr1, e5, Nat.ne_of_lt (Nat.lt_of_lt_of_le lta e5), e6, e8, e9⟩⟩, e10⟩
  have d1 : (p2 - (65536 : Int32)).toInt = p2.toInt - 65536 := by rw [own_sub (by omega) (by omega), c1]
  by_cases h4 : p2.toInt ≤ 131072
  · refine own_mono (rmIP2n l Z a0 hw ws a1 p2 (65536 : Int32) (p2 - (65536 : Int32)) h0 n0 Z0 EX_a1 F_length_a1 F_elements_a1 F_pages_a1 ge_a1 (own_npg (by omega) (by omega) (by decide) (by decide)) (by rw [Int32.lt_iff_toInt_lt]; omega) (own_mnc (by rw [d0]; omega)) (by decide) (by decide) (own_mnz (by rw [d1]; omega)) (by rw [Int32.lt_iff_toInt_lt, d1]; omega) (by show (_ : Int32).toInt.toNat ≤ _; rw [d1]; omega)) ?_
    rintro a s o u ⟨v, L, e1, ⟨r0, kr0, r1, kr1, r2, kr2, e2, e3, e4, s0, s1, s2, n0_1, n0_2, n1_2, f1, f2, f3, V1, O1, V2, O2⟩, e10⟩
    have tn : (2 : Int32).toNatClampNeg = 2 := by decide
    have zn : (65536 : Int32).toNatClampNeg = 65536 := by decide
    have zl : (p2 - (65536 : Int32)).toNatClampNeg = p2.toNatClampNeg - 65536 := by
      show ((p2 - (65536 : Int32))).toInt.toNat = p2.toInt.toNat - 65536
      rw [d1]; omega
    have pn : p2.toNatClampNeg = p2.toInt.toNat := rfl
    refine ⟨v, L, e1, ⟨e2, e3, e4, Or.inr ⟨r0, kr0, (2 : Int32), (fun t => if t = 0 then r1 else r2), (fun t => if t = 0 then kr1 else kr2), (fun t => if t = 0 then (65536 : Int32) else (p2 - (65536 : Int32))), by rw [tn]; omega, f1, f2, ?_, fun t ht => ?_⟩⟩, e10⟩
    · refine (congrArg (fun w => Arv Z u.heap r0 kr0 (.array (.object "java/lang/Object")) (2 : Int32) w .null) (own_R_eq fun q hq => ?_)).mpr f3
      rw [tn] at hq
      obtain rfl | rfl := (by omega : q = 0 ∨ q = 1)
      · rfl
      · rfl
    · rw [tn] at ht
      obtain rfl | rfl := (by omega : t = 0 ∨ t = 1)
      · refine ⟨s1, Nat.ne_of_lt (Nat.lt_of_lt_of_le lta s1), n0_1, fun t' ht' hne => ?_, ?_, V1, O1⟩
        · rw [tn] at ht'
          obtain rfl | rfl := (by omega : t' = 0 ∨ t' = 1)
          · exact absurd rfl hne
          · exact (Ne.symm n1_2)
        · show ((65536 : Int32)).toNatClampNeg = min 65536 (p2.toNatClampNeg - 0)
          rw [zn, Nat.min_eq_left (by rw [pn]; omega)]
      · refine ⟨s2, Nat.ne_of_lt (Nat.lt_of_lt_of_le lta s2), n0_2, fun t' ht' hne => ?_, ?_, V2, O2⟩
        · rw [tn] at ht'
          obtain rfl | rfl := (by omega : t' = 0 ∨ t' = 1)
          · exact n1_2
          · exact absurd rfl hne
        · show ((p2 - (65536 : Int32))).toNatClampNeg = min 65536 (p2.toNatClampNeg - 65536)
          rw [zl, Nat.min_eq_right (by rw [pn]; omega)]
  · have d2 : (p2 - (131072 : Int32)).toInt = p2.toInt - 131072 := by rw [own_sub (by omega) (by omega), c2]
    refine own_mono (rmIP3n l Z a0 hw ws a1 p2 (65536 : Int32) (65536 : Int32) (p2 - (131072 : Int32)) h0 n0 Z0 EX_a1 F_length_a1 F_elements_a1 F_pages_a1 ge_a1 (own_npg (by omega) (by omega) (by decide) (by decide)) (by rw [Int32.lt_iff_toInt_lt]; omega) (own_mnc (by rw [d0]; omega)) (by decide) (by decide) (own_mnc (by rw [d1]; omega)) (by decide) (by decide) (own_mnz (by rw [d2]; omega)) (by rw [Int32.lt_iff_toInt_lt, d2]; omega) (by show (_ : Int32).toInt.toNat ≤ _; rw [d2]; omega)) ?_
    rintro a s o u ⟨v, L, e1, ⟨r0, kr0, r1, kr1, r2, kr2, r3, kr3, e2, e3, e4, s0, s1, s2, s3, n0_1, n0_2, n0_3, n1_2, n1_3, n2_3, f1, f2, f3, V1, O1, V2, O2, V3, O3⟩, e10⟩
    have tn : (3 : Int32).toNatClampNeg = 3 := by decide
    have zn : (65536 : Int32).toNatClampNeg = 65536 := by decide
    have zl : (p2 - (131072 : Int32)).toNatClampNeg = p2.toNatClampNeg - 131072 := by
      show ((p2 - (131072 : Int32))).toInt.toNat = p2.toInt.toNat - 131072
      rw [d2]; omega
    have pn : p2.toNatClampNeg = p2.toInt.toNat := rfl
    refine ⟨v, L, e1, ⟨e2, e3, e4, Or.inr ⟨r0, kr0, (3 : Int32), (fun t => if t = 0 then r1 else if t = 1 then r2 else r3), (fun t => if t = 0 then kr1 else if t = 1 then kr2 else kr3), (fun t => if t = 0 then (65536 : Int32) else if t = 1 then (65536 : Int32) else (p2 - (131072 : Int32))), by rw [tn]; omega, f1, f2, ?_, fun t ht => ?_⟩⟩, e10⟩
    · refine (congrArg (fun w => Arv Z u.heap r0 kr0 (.array (.object "java/lang/Object")) (3 : Int32) w .null) (own_R_eq fun q hq => ?_)).mpr f3
      rw [tn] at hq
      obtain rfl | rfl | rfl := (by omega : q = 0 ∨ q = 1 ∨ q = 2)
      · rfl
      · rfl
      · rfl
    · rw [tn] at ht
      obtain rfl | rfl | rfl := (by omega : t = 0 ∨ t = 1 ∨ t = 2)
      · refine ⟨s1, Nat.ne_of_lt (Nat.lt_of_lt_of_le lta s1), n0_1, fun t' ht' hne => ?_, ?_, V1, O1⟩
        · rw [tn] at ht'
          obtain rfl | rfl | rfl := (by omega : t' = 0 ∨ t' = 1 ∨ t' = 2)
          · exact absurd rfl hne
          · exact (Ne.symm n1_2)
          · exact (Ne.symm n1_3)
        · show ((65536 : Int32)).toNatClampNeg = min 65536 (p2.toNatClampNeg - 0)
          rw [zn, Nat.min_eq_left (by rw [pn]; omega)]
      · refine ⟨s2, Nat.ne_of_lt (Nat.lt_of_lt_of_le lta s2), n0_2, fun t' ht' hne => ?_, ?_, V2, O2⟩
        · rw [tn] at ht'
          obtain rfl | rfl | rfl := (by omega : t' = 0 ∨ t' = 1 ∨ t' = 2)
          · exact n1_2
          · exact absurd rfl hne
          · exact (Ne.symm n2_3)
        · show ((65536 : Int32)).toNatClampNeg = min 65536 (p2.toNatClampNeg - 65536)
          rw [zn, Nat.min_eq_left (by rw [pn]; omega)]
      · refine ⟨s3, Nat.ne_of_lt (Nat.lt_of_lt_of_le lta s3), n0_3, fun t' ht' hne => ?_, ?_, V3, O3⟩
        · rw [tn] at ht'
          obtain rfl | rfl | rfl := (by omega : t' = 0 ∨ t' = 1 ∨ t' = 2)
          · exact n1_3
          · exact n2_3
          · exact absurd rfl hne
        · show ((p2 - (131072 : Int32))).toNatClampNeg = min 65536 (p2.toNatClampNeg - 131072)
          rw [zl, Nat.min_eq_right (by rw [pn]; omega)]
def Q_inir (Z : State) (a1 : Addr) (y : Addr) (p2 : Int32) (h0 : Heap) (n0 : Nat) (v : Option Value) (h : Heap) (L : List Loc) : Prop := v = none ∧ Fr n0 L ∧ Keep h0 h [a1] ∧ own_PA Z h a1 h0.size p2 (fun _ => (.ref y))
set_option maxHeartbeats 4000000 in
theorem rmInir (l : Launch) (Z : State) (a0 : Array Value) (hw : ∀ d ∈ tables_1, d.before a0 Z = true) (ws : List Jvm.Cond) (a1 : Addr) (y : Addr) (p2 : Int32) (h0 : Heap) (n0 : Nat) (Z0 : n0 ≤ h0.size) (EX_a1 : Exa Z h0 a1 "com/example/hashwright/hashwright/table/PagedArray") (F_length_a1 : Fld Z h0 a1 "com/example/hashwright/hashwright/table/PagedArray" "length" "I" (.int (0 : Int32))) (F_elements_a1 : Fld Z h0 a1 "com/example/hashwright/hashwright/table/PagedArray" "elements" "[Ljava/lang/Object;" .null) (F_pages_a1 : Fld Z h0 a1 "com/example/hashwright/hashwright/table/PagedArray" "pages" "[[Ljava/lang/Object;" .null) (EX_y : Exa Z h0 y "java/lang/Integer") (ne_y_a1 : y ≠ a1) (ge_a1 : n0 ≤ a1) (h1 : 0 < p2.toInt) (h2 : p2.toInt ≤ 196608) : MetFree l (⟨"com/example/hashwright/hashwright/table/PagedArray", "<init>", "(ILjava/lang/Object;)V"⟩ : MethodName) (head1 (Jvm.Cond.code (⟨"com/example/hashwright/hashwright/table/PagedArray", "<init>", "(ILjava/lang/Object;)V"⟩ : MethodName) prog_72_method_2_code 4 none :: ws) ({ frames := 1, cells := 4, slots := 196611, locals := 60 } : Room)) (fun a U => a = #[(.ref a1), (.int p2), (.ref y)] ∧ Z.Warmed39 U.vm ∧ U.heap = h0) (fun _ _ _ _ _ => True) (fun _ U o U' => ∃ v L, o = .returned v ∧ Q_inir Z a1 y p2 h0 n0 v U'.heap L ∧ FrameEnd U o U' L ({ frames := 1, cells := 4, slots := 196611, locals := 60 } : Room).cells ({ frames := 1, cells := 4, slots := 196611, locals := 60 } : Room).slots) := by
  have c0 : (0 : Int32).toInt = 0 := by decide
  have c1 : (65536 : Int32).toInt = 65536 := by decide
  have c2 : (131072 : Int32).toInt = 131072 := by decide
  have c3 : (196608 : Int32).toInt = 196608 := by decide
  have k2 : (2 : Int32).toInt = 2 := by decide
  have k3 : (3 : Int32).toInt = 3 := by decide
  have lta := EX_a1.lt
  have d0 : (p2 - (0 : Int32)).toInt = p2.toInt := by rw [own_sub (by omega) (by omega), c0]; omega
  by_cases h3 : p2.toInt ≤ 65536
  · refine own_mono (rmIFr l Z a0 hw ws a1 y p2 h0 n0 Z0 EX_a1 F_length_a1 F_elements_a1 F_pages_a1 EX_y ne_y_a1 ge_a1 (by rw [Int32.lt_iff_toInt_lt]; omega) (by rw [Int32.lt_iff_toInt_lt]; omega) (by show p2.toInt.toNat ≤ _; omega) (by rw [Int32.lt_iff_toInt_lt]; omega)) ?_
    rintro a s o u ⟨v, L, e1, ⟨r1, kr1, e2, e3, e4, e5, e6, e7, e8, e9⟩, e10⟩
    exact ⟨v, L, e1, ⟨e2, e3, e4, Or.inl ⟨r1, kr1, e5, Nat.ne_of_lt (Nat.lt_of_lt_of_le lta e5), e6, e8, e9⟩⟩, e10⟩
  have d1 : (p2 - (65536 : Int32)).toInt = p2.toInt - 65536 := by rw [own_sub (by omega) (by omega), c1]
  by_cases h4 : p2.toInt ≤ 131072
  · refine own_mono (rmIP2r l Z a0 hw ws a1 y p2 (65536 : Int32) (p2 - (65536 : Int32)) h0 n0 Z0 EX_a1 F_length_a1 F_elements_a1 F_pages_a1 EX_y ne_y_a1 ge_a1 (own_npg (by omega) (by omega) (by decide) (by decide)) (by rw [Int32.lt_iff_toInt_lt]; omega) (own_mnc (by rw [d0]; omega)) (by decide) (by decide) (own_mnz (by rw [d1]; omega)) (by rw [Int32.lt_iff_toInt_lt, d1]; omega) (by show (_ : Int32).toInt.toNat ≤ _; rw [d1]; omega) (by rw [Int32.lt_iff_toInt_lt]; omega) (by rw [Int32.lt_iff_toInt_lt]; omega)) ?_
    rintro a s o u ⟨v, L, e1, ⟨r0, kr0, r1, kr1, r2, kr2, e2, e3, e4, s0, s1, s2, n0_1, n0_2, n1_2, f1, f2, f3, V1, O1, V2, O2⟩, e10⟩
    have tn : (2 : Int32).toNatClampNeg = 2 := by decide
    have zn : (65536 : Int32).toNatClampNeg = 65536 := by decide
    have zl : (p2 - (65536 : Int32)).toNatClampNeg = p2.toNatClampNeg - 65536 := by
      show ((p2 - (65536 : Int32))).toInt.toNat = p2.toInt.toNat - 65536
      rw [d1]; omega
    have pn : p2.toNatClampNeg = p2.toInt.toNat := rfl
    refine ⟨v, L, e1, ⟨e2, e3, e4, Or.inr ⟨r0, kr0, (2 : Int32), (fun t => if t = 0 then r1 else r2), (fun t => if t = 0 then kr1 else kr2), (fun t => if t = 0 then (65536 : Int32) else (p2 - (65536 : Int32))), by rw [tn]; omega, f1, f2, ?_, fun t ht => ?_⟩⟩, e10⟩
    · refine (congrArg (fun w => Arv Z u.heap r0 kr0 (.array (.object "java/lang/Object")) (2 : Int32) w .null) (own_R_eq fun q hq => ?_)).mpr f3
      rw [tn] at hq
      obtain rfl | rfl := (by omega : q = 0 ∨ q = 1)
      · rfl
      · rfl
    · rw [tn] at ht
      obtain rfl | rfl := (by omega : t = 0 ∨ t = 1)
      · refine ⟨s1, Nat.ne_of_lt (Nat.lt_of_lt_of_le lta s1), n0_1, fun t' ht' hne => ?_, ?_, V1, O1⟩
        · rw [tn] at ht'
          obtain rfl | rfl := (by omega : t' = 0 ∨ t' = 1)
          · exact absurd rfl hne
          · exact (Ne.symm n1_2)
        · show ((65536 : Int32)).toNatClampNeg = min 65536 (p2.toNatClampNeg - 0)
          rw [zn, Nat.min_eq_left (by rw [pn]; omega)]
      · refine ⟨s2, Nat.ne_of_lt (Nat.lt_of_lt_of_le lta s2), n0_2, fun t' ht' hne => ?_, ?_, V2, O2⟩
        · rw [tn] at ht'
          obtain rfl | rfl := (by omega : t' = 0 ∨ t' = 1)
          · exact n1_2
          · exact absurd rfl hne
        · show ((p2 - (65536 : Int32))).toNatClampNeg = min 65536 (p2.toNatClampNeg - 65536)
          rw [zl, Nat.min_eq_right (by rw [pn]; omega)]
  · have d2 : (p2 - (131072 : Int32)).toInt = p2.toInt - 131072 := by rw [own_sub (by omega) (by omega), c2]
    refine own_mono (rmIP3r l Z a0 hw ws a1 y p2 (65536 : Int32) (65536 : Int32) (p2 - (131072 : Int32)) h0 n0 Z0 EX_a1 F_length_a1 F_elements_a1 F_pages_a1 EX_y ne_y_a1 ge_a1 (own_npg (by omega) (by omega) (by decide) (by decide)) (by rw [Int32.lt_iff_toInt_lt]; omega) (own_mnc (by rw [d0]; omega)) (by decide) (by decide) (own_mnc (by rw [d1]; omega)) (by decide) (by decide) (own_mnz (by rw [d2]; omega)) (by rw [Int32.lt_iff_toInt_lt, d2]; omega) (by show (_ : Int32).toInt.toNat ≤ _; rw [d2]; omega) (by rw [Int32.lt_iff_toInt_lt]; omega) (by rw [Int32.lt_iff_toInt_lt]; omega) (by rw [Int32.lt_iff_toInt_lt]; omega)) ?_
    rintro a s o u ⟨v, L, e1, ⟨r0, kr0, r1, kr1, r2, kr2, r3, kr3, e2, e3, e4, s0, s1, s2, s3, n0_1, n0_2, n0_3, n1_2, n1_3, n2_3, f1, f2, f3, V1, O1, V2, O2, V3, O3⟩, e10⟩
    have tn : (3 : Int32).toNatClampNeg = 3 := by decide
    have zn : (65536 : Int32).toNatClampNeg = 65536 := by decide
    have zl : (p2 - (131072 : Int32)).toNatClampNeg = p2.toNatClampNeg - 131072 := by
      show ((p2 - (131072 : Int32))).toInt.toNat = p2.toInt.toNat - 131072
      rw [d2]; omega
    have pn : p2.toNatClampNeg = p2.toInt.toNat := rfl
    refine ⟨v, L, e1, ⟨e2, e3, e4, Or.inr ⟨r0, kr0, (3 : Int32), (fun t => if t = 0 then r1 else if t = 1 then r2 else r3), (fun t => if t = 0 then kr1 else if t = 1 then kr2 else kr3), (fun t => if t = 0 then (65536 : Int32) else if t = 1 then (65536 : Int32) else (p2 - (131072 : Int32))), by rw [tn]; omega, f1, f2, ?_, fun t ht => ?_⟩⟩, e10⟩
    · refine (congrArg (fun w => Arv Z u.heap r0 kr0 (.array (.object "java/lang/Object")) (3 : Int32) w .null) (own_R_eq fun q hq => ?_)).mpr f3
      rw [tn] at hq
      obtain rfl | rfl | rfl := (by omega : q = 0 ∨ q = 1 ∨ q = 2)
      · rfl
      · rfl
      · rfl
    · rw [tn] at ht
      obtain rfl | rfl | rfl := (by omega : t = 0 ∨ t = 1 ∨ t = 2)
      · refine ⟨s1, Nat.ne_of_lt (Nat.lt_of_lt_of_le lta s1), n0_1, fun t' ht' hne => ?_, ?_, V1, O1⟩
        · rw [tn] at ht'
          obtain rfl | rfl | rfl := (by omega : t' = 0 ∨ t' = 1 ∨ t' = 2)
          · exact absurd rfl hne
          · exact (Ne.symm n1_2)
          · exact (Ne.symm n1_3)
        · show ((65536 : Int32)).toNatClampNeg = min 65536 (p2.toNatClampNeg - 0)
          rw [zn, Nat.min_eq_left (by rw [pn]; omega)]
      · refine ⟨s2, Nat.ne_of_lt (Nat.lt_of_lt_of_le lta s2), n0_2, fun t' ht' hne => ?_, ?_, V2, O2⟩
        · rw [tn] at ht'
          obtain rfl | rfl | rfl := (by omega : t' = 0 ∨ t' = 1 ∨ t' = 2)
          · exact n1_2
          · exact absurd rfl hne
          · exact (Ne.symm n2_3)
        · show ((65536 : Int32)).toNatClampNeg = min 65536 (p2.toNatClampNeg - 65536)
          rw [zn, Nat.min_eq_left (by rw [pn]; omega)]
      · refine ⟨s3, Nat.ne_of_lt (Nat.lt_of_lt_of_le lta s3), n0_3, fun t' ht' hne => ?_, ?_, V3, O3⟩
        · rw [tn] at ht'
          obtain rfl | rfl | rfl := (by omega : t' = 0 ∨ t' = 1 ∨ t' = 2)
          · exact n1_3
          · exact n2_3
          · exact absurd rfl hne
        · show ((p2 - (131072 : Int32))).toNatClampNeg = min 65536 (p2.toNatClampNeg - 131072)
          rw [zl, Nat.min_eq_right (by rw [pn]; omega)]
theorem d1_0 : decode jdk_33_method_22_code 0 = .ok (.iload_n 0, 1) := by decide +kernel
theorem d1_1 : decode jdk_33_method_22_code 1 = .ok (.bipush (-128), 2) := by decide +kernel
theorem d1_3 : decode jdk_33_method_22_code 3 = .ok (.if_icmp .lt 20, 3) := by decide +kernel
theorem d1_6 : decode jdk_33_method_22_code 6 = .ok (.iload_n 0, 1) := by decide +kernel
theorem d1_7 : decode jdk_33_method_22_code 7 = .ok (.getstatic 191, 3) := by decide +kernel
theorem d1_10 : decode jdk_33_method_22_code 10 = .ok (.if_icmp .gt 13, 3) := by decide +kernel
theorem d1_13 : decode jdk_33_method_22_code 13 = .ok (.getstatic 195, 3) := by decide +kernel
theorem d1_16 : decode jdk_33_method_22_code 16 = .ok (.iload_n 0, 1) := by decide +kernel
theorem d1_17 : decode jdk_33_method_22_code 17 = .ok (.sipush 128, 3) := by decide +kernel
theorem d1_20 : decode jdk_33_method_22_code 20 = .ok (.iadd, 1) := by decide +kernel
theorem d1_21 : decode jdk_33_method_22_code 21 = .ok (.aaload, 1) := by decide +kernel
theorem d1_22 : decode jdk_33_method_22_code 22 = .ok (.areturn, 1) := by decide +kernel
theorem pn_1 : plainName "java/lang/Integer" = true := by first | (simp [plainName, overriddenIn]; done) | decide +kernel
theorem ef_1 (m : MethodId) (x0 : Int32) : entryFrame m #[(.int x0)] 1 = mkF m 0 #[.val (.int x0)] [] := by first | (simp [entryFrame, mkF, argsToLocals, Value.category]; done) | rfl
def Q_rmVal (Z : State) (ca b : Addr) (kc : ClassId) (CF : Nat → Value) (p1 : Int32) (h0 : Heap) (n0 : Nat) (v : Option Value) (h : Heap) (L : List Loc) : Prop := v = some (.ref b) ∧ Fr n0 L ∧ h = h0
set_option maxRecDepth 65536 in
set_option maxHeartbeats 40000000 in
theorem rmVal (l : Launch) (Z : State) (a0 : Array Value) (hw : ∀ d ∈ tables_1, d.before a0 Z = true) (ws : List Jvm.Cond) (ca b : Addr) (kc : ClassId) (CF : Nat → Value) (p1 : Int32) (h0 : Heap) (n0 : Nat) (Z0 : n0 ≤ h0.size) (S_high : Sta Z h0 "java/lang/Integer$IntegerCache" "high" "I" (.int (127 : Int32))) (S_cache : Sta Z h0 "java/lang/Integer$IntegerCache" "cache" "[Ljava/lang/Integer;" (.ref ca)) (V_ca : Arv Z h0 ca kc (.object "java/lang/Integer") (256 : Int32) (own_R ((256 : Int32)).toNatClampNeg CF) .null) (hc_q1 : (CF ((p1 + (128 : Int32))).toNatClampNeg) = (.ref b)) (hc_q2 : ¬ (p1 < (-128 : Int32))) (hc_q4 : ¬ ((127 : Int32) < p1)) (hc_q7 : ¬ (p1 + (128 : Int32)) < 0 ∧ (p1 + (128 : Int32)) < (256 : Int32)) :
    MetFree l (⟨"java/lang/Integer", "valueOf", "(I)Ljava/lang/Integer;"⟩ : MethodName) (head1 (Jvm.Cond.code (⟨"java/lang/Integer", "valueOf", "(I)Ljava/lang/Integer;"⟩ : MethodName) jdk_33_method_22_code 1 (some (.object "java/lang/Integer")) :: ws) ({ frames := 0, cells := 0, slots := 0, locals := 0 } : Room)) (fun a U => a = #[(.int p1)] ∧ Z.Warmed39 U.vm ∧ U.heap = h0) (fun _ _ _ _ _ => True) (fun _ U o U' => ∃ v L, o = .returned v ∧ Q_rmVal Z ca b kc CF p1 h0 n0 v U'.heap L ∧ FrameEnd U o U' L ({ frames := 0, cells := 0, slots := 0, locals := 0 } : Room).cells ({ frames := 0, cells := 0, slots := 0, locals := 0 } : Room).slots) := by
  refine MetFree.of_bodySF (plainFor_of_name pn_1) hisR ?_
  intro p e s m args below meth c s₁ Bd hml0 hP hK
  obtain ⟨rfl, hZ, hh⟩ := hP
  have hx := Bd.exec
  have hby := Bd.bytes
  have hml : c.maxLocals = 1 := hml0
  have hown : s.vm.findClass "java/lang/Integer" = some m.cls := findClass_of_methodNamed Bd.named
  have hnm := (name_of_methodNamed Bd.named Bd.method).1
  have X0 : Stand p l e ({ frames := 0, cells := 0, slots := 0, locals := 0 } : Room) s m #[(.int p1)] below meth c s₁ [] 0 0 := Stand.of_body Bd
  have e0 : s₁.heap = h0 := by rw [← hh, Bd.state]; rfl
  have N0 := Fr.nil n0
  have pre0 : ∀ t, Steps p.tables e below (s₁.setTop (mkF m 0 #[.val (.int p1)] [])) t → Steps p.tables e below (s₁.setTop (entryFrame m #[(.int p1)] 1)) t := fun t k => castTop (ef_1 m p1) k
  obtain ⟨T_q3, X_q3, e_q3, st_q3⟩ := getS2 X0 hx hZ hown (host := "") (Or.inl (own_w hw 6 rfl)) Via.refl e0 S_high (g := (mkF m 7 #[.val (.int p1)] [(.int p1)])) rfl (hb hby d1_7)
  obtain ⟨T_q5, X_q5, e_q5, st_q5⟩ := getS2 X_q3 hx hZ hown (host := "") (Or.inl (own_w hw 8 rfl)) Via.refl e_q3 S_cache (g := (mkF m 13 #[.val (.int p1)] [])) rfl (hb hby d1_13)
  obtain ⟨cl_q6, Ar_q6, qk_q6, S_q6, Nn_q6, H_q6, G_q6⟩ := id V_ca
  have hin_q6 : ¬ ((p1 + (128 : Int32)) < 0 ∨ cl_q6.slots.size ≤ ((p1 + (128 : Int32))).toNatClampNeg) := inb_of S_q6 hc_q7
  have lt_q6 : ((p1 + (128 : Int32))).toNatClampNeg < ((256 : Int32)).toNatClampNeg := by have q := Nat.lt_of_not_le fun q => hin_q6 (Or.inr q); rw [S_q6] at q; exact q
  have hat_q6 : cl_q6.slots[((p1 + (128 : Int32))).toNatClampNeg]? = some (CF ((p1 + (128 : Int32))).toNatClampNeg) := (H_q6 _ (Nat.lt_of_not_le fun q => hin_q6 (Or.inr q))).trans (congrArg some (own_R_at _ lt_q6))
  obtain ⟨fs, hr, hrun, hended, hW, hsame⟩ := X_q5.leave (v := some (.ref b)) (fun h => by rw [Bd.returns] at h; cases h) Bd.notSynchronized
  refine ⟨_, _, pre0 _ ?_, hrun, hended, _, _, rfl, ?_, ⟨_, rfl⟩, hW, hsame.mono (by decide) (by decide)⟩
  · show Steps p.tables e below (s₁.setTop (mkF m 0 #[.val (.int p1)] [])) _
    refine XS.iloadN X0.here hx rfl (hb hby d1_0) rfl ?_
    refine XS.bipush X0.here hx rfl (hb hby d1_1) ?_
    refine XS.icmpNo X0.here hx rfl (hb hby d1_3) rfl (flt hc_q2).1 ?_
    refine XS.iloadN X0.here hx rfl (hb hby d1_6) rfl ?_
    show Steps p.tables e below (s₁.setTop (mkF m 7 #[.val (.int p1)] [(.int p1)])) _
    refine st_q3 _ ?_
    refine XS.icmpNo X_q3.here hx rfl (hb hby d1_10) rfl (flt hc_q4).2.2.1 ?_
    show Steps p.tables e below (T_q3.setTop (mkF m 13 #[.val (.int p1)] [])) _
    refine st_q5 _ ?_
    refine XS.iloadN X_q5.here hx rfl (hb hby d1_16) rfl ?_
    refine XS.sipush X_q5.here hx rfl (hb hby d1_17) ?_
    refine XS.iadd X_q5.here hx rfl (hb hby d1_20) rfl ?_
    show Steps p.tables e below (T_q5.setTop (mkF m 21 #[.val (.int p1)] [(.int (p1 + (128 : Int32))), (.ref ca)])) _
    refine X_q5.aaload hx (j := (p1 + (128 : Int32))) (v := (CF ((p1 + (128 : Int32))).toNatClampNeg)) (by rw [e_q5]; exact Ar_q6.1) (State.isArrayOf_alike hZ.alike Ar_q6.2.1) rfl Ar_q6.2.2 hin_q6 hat_q6 (g := (mkF m 21 #[.val (.int p1)] [(.int (p1 + (128 : Int32))), (.ref ca)])) rfl rfl (hb hby d1_21) _ ?_
    show Steps p.tables e below (T_q5.setTop (mkF m 22 #[.val (.int p1)] [(CF ((p1 + (128 : Int32))).toNatClampNeg)])) _
    rw [hc_q1]
    show Steps p.tables e below (T_q5.setTop (mkF m 22 #[.val (.int p1)] [(.ref b)])) _
    jvm_step X_q5.here [X_q5.here.top, hx, (hb hby d1_22), X_q5.method', Bd.returns, Value.isRef, FieldType.isReference]
    first | (intro acts; rw [hr _ acts rfl rfl rfl]) | rw [hr _ _ rfl rfl rfl]
    exact Steps.refl _
  · show Q_rmVal Z ca b kc CF p1 h0 n0 _ T_q5.heap _
    rw [e_q5]
    exact ⟨rfl, N0, rfl⟩
def own_fl (m g : Int32) : Prop := (m = (0 : Int32) ∧ g = (0 : Int32)) ∨ (¬ (m = (0 : Int32)) ∧ g = (1 : Int32))
def own_nn (p1 g nn : Int32) : Prop := (¬ (g = (0 : Int32)) ∧ nn = ((65537 : Int32) + (p1 &&& (131071 : Int32)))) ∨ (g = (0 : Int32) ∧ nn = ((1 : Int32) + (p1 &&& (65535 : Int32))))
def own_kk (mo ii jj p4 nn kk : Int32) : Prop := (mo = (0 : Int32) ∧ kk = ii) ∨ (¬ (mo = (0 : Int32)) ∧ mo = (1 : Int32) ∧ kk = jj) ∨ (¬ (mo = (0 : Int32)) ∧ ¬ (mo = (1 : Int32)) ∧ kk = ((p4 &&& (2147483647 : Int32)) % nn))
theorem pn_0 : plainName "com/example/hashwright/hashwright/table/PagedArrayGetPinLaw" = true := by first | (simp [plainName, overriddenIn]; done) | decide +kernel
theorem own_fA_0 {p : Program} {l : Launch} {e : Env} {R : Room} {s : State} {m : MethodId} {args : Array Value} {below : List Frame} {meth : Method} {c : Code} {T0 : State} {locs : List Loc} {cells slots : Nat} (p1 p2 p3 p4 p5 : Int32) (X0 : Stand p l e R s m args below meth c T0 locs cells slots) (hx : p.tables.exec = Jvm.exec) (hby : c.code = code) {Z : State} {a0 : Array Value} (hZ : Z.Warmed39 s.vm) (hw : ∀ d ∈ tables_1, d.before a0 Z = true) (hown : s.vm.findClass "com/example/hashwright/hashwright/table/PagedArrayGetPinLaw" = some m.cls) (hc_q1 : (p5 &&& (1 : Int32)) = (0 : Int32)) {target : State} (kt : Steps p.tables e below (T0.setTop (mkF m 14 #[.val (.int p1), .val (.int p2), .val (.int p3), .val (.int p4), .val (.int p5), .val (.int (0 : Int32)), .unset, .unset, .unset, .unset, .unset, .unset, .unset, .unset, .unset, .unset, .unset, .unset] [])) target) : Steps p.tables e below (T0.setTop (mkF m 0 #[.val (.int p1), .val (.int p2), .val (.int p3), .val (.int p4), .val (.int p5), .unset, .unset, .unset, .unset, .unset, .unset, .unset, .unset, .unset, .unset, .unset, .unset, .unset] [])) target := by
  show Steps p.tables e below (T0.setTop (mkF m 0 #[.val (.int p1), .val (.int p2), .val (.int p3), .val (.int p4), .val (.int p5), .unset, .unset, .unset, .unset, .unset, .unset, .unset, .unset, .unset, .unset, .unset, .unset, .unset] [])) _
  refine XS.iload X0.here hx rfl (hb hby at_0) rfl ?_
  show Steps p.tables e below (T0.setTop (mkF m 2 #[.val (.int p1), .val (.int p2), .val (.int p3), .val (.int p4), .val (.int p5), .unset, .unset, .unset, .unset, .unset, .unset, .unset, .unset, .unset, .unset, .unset, .unset, .unset] [(.int p5)])) _
  refine XS.iconst X0.here hx rfl (hb hby at_2) ?_
  show Steps p.tables e below (T0.setTop (mkF m 3 #[.val (.int p1), .val (.int p2), .val (.int p3), .val (.int p4), .val (.int p5), .unset, .unset, .unset, .unset, .unset, .unset, .unset, .unset, .unset, .unset, .unset, .unset, .unset] [(.int (1 : Int32)), (.int p5)])) _
  refine XS.iand X0.here hx rfl (hb hby at_3) rfl ?_
  show Steps p.tables e below (T0.setTop (mkF m 4 #[.val (.int p1), .val (.int p2), .val (.int p3), .val (.int p4), .val (.int p5), .unset, .unset, .unset, .unset, .unset, .unset, .unset, .unset, .unset, .unset, .unset, .unset, .unset] [(.int (p5 &&& (1 : Int32)))])) _
  refine XS.ifYes X0.here hx rfl (pc0 := 4) (pc' := 11) rfl (hb hby at_4) rfl ((if0 _ _).trans (teq hc_q1).1) (by decide) (by decide) ?_
  show Steps p.tables e below (T0.setTop (mkF m 11 #[.val (.int p1), .val (.int p2), .val (.int p3), .val (.int p4), .val (.int p5), .unset, .unset, .unset, .unset, .unset, .unset, .unset, .unset, .unset, .unset, .unset, .unset, .unset] [])) _
  refine XS.iconst X0.here hx rfl (hb hby at_11) ?_
  show Steps p.tables e below (T0.setTop (mkF m 12 #[.val (.int p1), .val (.int p2), .val (.int p3), .val (.int p4), .val (.int p5), .unset, .unset, .unset, .unset, .unset, .unset, .unset, .unset, .unset, .unset, .unset, .unset, .unset] [(.int (0 : Int32))])) _
  refine XS.istore X0.here hx rfl (hb hby at_12) rfl (l' := #[.val (.int p1), .val (.int p2), .val (.int p3), .val (.int p4), .val (.int p5), .val (.int (0 : Int32)), .unset, .unset, .unset, .unset, .unset, .unset, .unset, .unset, .unset, .unset, .unset, .unset]) rfl ?_
  exact kt
theorem own_fA_1 {p : Program} {l : Launch} {e : Env} {R : Room} {s : State} {m : MethodId} {args : Array Value} {below : List Frame} {meth : Method} {c : Code} {T0 : State} {locs : List Loc} {cells slots : Nat} (p1 p2 p3 p4 p5 : Int32) (X0 : Stand p l e R s m args below meth c T0 locs cells slots) (hx : p.tables.exec = Jvm.exec) (hby : c.code = code) {Z : State} {a0 : Array Value} (hZ : Z.Warmed39 s.vm) (hw : ∀ d ∈ tables_1, d.before a0 Z = true) (hown : s.vm.findClass "com/example/hashwright/hashwright/table/PagedArrayGetPinLaw" = some m.cls) (hc_q1 : ¬ ((p5 &&& (1 : Int32)) = (0 : Int32))) {target : State} (kt : Steps p.tables e below (T0.setTop (mkF m 14 #[.val (.int p1), .val (.int p2), .val (.int p3), .val (.int p4), .val (.int p5), .val (.int (1 : Int32)), .unset, .unset, .unset, .unset, .unset, .unset, .unset, .unset, .unset, .unset, .unset, .unset] [])) target) : Steps p.tables e below (T0.setTop (mkF m 0 #[.val (.int p1), .val (.int p2), .val (.int p3), .val (.int p4), .val (.int p5), .unset, .unset, .unset, .unset, .unset, .unset, .unset, .unset, .unset, .unset, .unset, .unset, .unset] [])) target := by
  show Steps p.tables e below (T0.setTop (mkF m 0 #[.val (.int p1), .val (.int p2), .val (.int p3), .val (.int p4), .val (.int p5), .unset, .unset, .unset, .unset, .unset, .unset, .unset, .unset, .unset, .unset, .unset, .unset, .unset] [])) _
  refine XS.iload X0.here hx rfl (hb hby at_0) rfl ?_
  show Steps p.tables e below (T0.setTop (mkF m 2 #[.val (.int p1), .val (.int p2), .val (.int p3), .val (.int p4), .val (.int p5), .unset, .unset, .unset, .unset, .unset, .unset, .unset, .unset, .unset, .unset, .unset, .unset, .unset] [(.int p5)])) _
  refine XS.iconst X0.here hx rfl (hb hby at_2) ?_
  show Steps p.tables e below (T0.setTop (mkF m 3 #[.val (.int p1), .val (.int p2), .val (.int p3), .val (.int p4), .val (.int p5), .unset, .unset, .unset, .unset, .unset, .unset, .unset, .unset, .unset, .unset, .unset, .unset, .unset] [(.int (1 : Int32)), (.int p5)])) _
  refine XS.iand X0.here hx rfl (hb hby at_3) rfl ?_
  show Steps p.tables e below (T0.setTop (mkF m 4 #[.val (.int p1), .val (.int p2), .val (.int p3), .val (.int p4), .val (.int p5), .unset, .unset, .unset, .unset, .unset, .unset, .unset, .unset, .unset, .unset, .unset, .unset, .unset] [(.int (p5 &&& (1 : Int32)))])) _
  refine XS.ifNo X0.here hx rfl (hb hby at_4) rfl ((if0 _ _).trans (feq hc_q1).1) ?_
  show Steps p.tables e below (T0.setTop (mkF m 7 #[.val (.int p1), .val (.int p2), .val (.int p3), .val (.int p4), .val (.int p5), .unset, .unset, .unset, .unset, .unset, .unset, .unset, .unset, .unset, .unset, .unset, .unset, .unset] [])) _
  refine XS.iconst X0.here hx rfl (hb hby at_7) ?_
  show Steps p.tables e below (T0.setTop (mkF m 8 #[.val (.int p1), .val (.int p2), .val (.int p3), .val (.int p4), .val (.int p5), .unset, .unset, .unset, .unset, .unset, .unset, .unset, .unset, .unset, .unset, .unset, .unset, .unset] [(.int (1 : Int32))])) _
  refine XS.goto X0.here hx rfl (pc0 := 8) (pc' := 12) rfl (hb hby at_8) (by decide) (by decide) ?_
  show Steps p.tables e below (T0.setTop (mkF m 12 #[.val (.int p1), .val (.int p2), .val (.int p3), .val (.int p4), .val (.int p5), .unset, .unset, .unset, .unset, .unset, .unset, .unset, .unset, .unset, .unset, .unset, .unset, .unset] [(.int (1 : Int32))])) _
  refine XS.istore X0.here hx rfl (hb hby at_12) rfl (l' := #[.val (.int p1), .val (.int p2), .val (.int p3), .val (.int p4), .val (.int p5), .val (.int (1 : Int32)), .unset, .unset, .unset, .unset, .unset, .unset, .unset, .unset, .unset, .unset, .unset, .unset]) rfl ?_
  exact kt
theorem own_fA {p : Program} {l : Launch} {e : Env} {R : Room} {s : State} {m : MethodId} {args : Array Value} {below : List Frame} {meth : Method} {c : Code} {T0 : State} {locs : List Loc} {cells slots : Nat} (p1 p2 p3 p4 p5 : Int32) (g1 : Int32) (X0 : Stand p l e R s m args below meth c T0 locs cells slots) (hx : p.tables.exec = Jvm.exec) (hby : c.code = code) {Z : State} {a0 : Array Value} (hZ : Z.Warmed39 s.vm) (hw : ∀ d ∈ tables_1, d.before a0 Z = true) (hown : s.vm.findClass "com/example/hashwright/hashwright/table/PagedArrayGetPinLaw" = some m.cls) (hv : own_fl (p5 &&& (1 : Int32)) g1) {target : State} (kt : Steps p.tables e below (T0.setTop (mkF m 14 #[.val (.int p1), .val (.int p2), .val (.int p3), .val (.int p4), .val (.int p5), .val (.int g1), .unset, .unset, .unset, .unset, .unset, .unset, .unset, .unset, .unset, .unset, .unset, .unset] [])) target) : Steps p.tables e below (T0.setTop (mkF m 0 #[.val (.int p1), .val (.int p2), .val (.int p3), .val (.int p4), .val (.int p5), .unset, .unset, .unset, .unset, .unset, .unset, .unset, .unset, .unset, .unset, .unset, .unset, .unset] [])) target := by
  rcases hv with ⟨y0, hk⟩ | ⟨y0, hk⟩
  · rw [hk] at kt; exact own_fA_0 p1 p2 p3 p4 p5 X0 hx hby hZ hw hown y0 kt
  · rw [hk] at kt; exact own_fA_1 p1 p2 p3 p4 p5 X0 hx hby hZ hw hown y0 kt
theorem own_fB_0 {p : Program} {l : Launch} {e : Env} {R : Room} {s : State} {m : MethodId} {args : Array Value} {below : List Frame} {meth : Method} {c : Code} {T0 : State} {locs : List Loc} {cells slots : Nat} (p1 p2 p3 p4 p5 : Int32) (g1 : Int32) (X0 : Stand p l e R s m args below meth c T0 locs cells slots) (hx : p.tables.exec = Jvm.exec) (hby : c.code = code) {Z : State} {a0 : Array Value} (hZ : Z.Warmed39 s.vm) (hw : ∀ d ∈ tables_1, d.before a0 Z = true) (hown : s.vm.findClass "com/example/hashwright/hashwright/table/PagedArrayGetPinLaw" = some m.cls) (hc_q1 : (p5 &&& (2 : Int32)) = (0 : Int32)) {target : State} (kt : Steps p.tables e below (T0.setTop (mkF m 28 #[.val (.int p1), .val (.int p2), .val (.int p3), .val (.int p4), .val (.int p5), .val (.int g1), .val (.int (0 : Int32)), .unset, .unset, .unset, .unset, .unset, .unset, .unset, .unset, .unset, .unset, .unset] [])) target) : Steps p.tables e below (T0.setTop (mkF m 14 #[.val (.int p1), .val (.int p2), .val (.int p3), .val (.int p4), .val (.int p5), .val (.int g1), .unset, .unset, .unset, .unset, .unset, .unset, .unset, .unset, .unset, .unset, .unset, .unset] [])) target := by
  show Steps p.tables e below (T0.setTop (mkF m 14 #[.val (.int p1), .val (.int p2), .val (.int p3), .val (.int p4), .val (.int p5), .val (.int g1), .unset, .unset, .unset, .unset, .unset, .unset, .unset, .unset, .unset, .unset, .unset, .unset] [])) _
  refine XS.iload X0.here hx rfl (hb hby at_14) rfl ?_
  show Steps p.tables e below (T0.setTop (mkF m 16 #[.val (.int p1), .val (.int p2), .val (.int p3), .val (.int p4), .val (.int p5), .val (.int g1), .unset, .unset, .unset, .unset, .unset, .unset, .unset, .unset, .unset, .unset, .unset, .unset] [(.int p5)])) _
  refine XS.iconst X0.here hx rfl (hb hby at_16) ?_
  show Steps p.tables e below (T0.setTop (mkF m 17 #[.val (.int p1), .val (.int p2), .val (.int p3), .val (.int p4), .val (.int p5), .val (.int g1), .unset, .unset, .unset, .unset, .unset, .unset, .unset, .unset, .unset, .unset, .unset, .unset] [(.int (2 : Int32)), (.int p5)])) _
  refine XS.iand X0.here hx rfl (hb hby at_17) rfl ?_
  show Steps p.tables e below (T0.setTop (mkF m 18 #[.val (.int p1), .val (.int p2), .val (.int p3), .val (.int p4), .val (.int p5), .val (.int g1), .unset, .unset, .unset, .unset, .unset, .unset, .unset, .unset, .unset, .unset, .unset, .unset] [(.int (p5 &&& (2 : Int32)))])) _
  refine XS.ifYes X0.here hx rfl (pc0 := 18) (pc' := 25) rfl (hb hby at_18) rfl ((if0 _ _).trans (teq hc_q1).1) (by decide) (by decide) ?_
  show Steps p.tables e below (T0.setTop (mkF m 25 #[.val (.int p1), .val (.int p2), .val (.int p3), .val (.int p4), .val (.int p5), .val (.int g1), .unset, .unset, .unset, .unset, .unset, .unset, .unset, .unset, .unset, .unset, .unset, .unset] [])) _
  refine XS.iconst X0.here hx rfl (hb hby at_25) ?_
  show Steps p.tables e below (T0.setTop (mkF m 26 #[.val (.int p1), .val (.int p2), .val (.int p3), .val (.int p4), .val (.int p5), .val (.int g1), .unset, .unset, .unset, .unset, .unset, .unset, .unset, .unset, .unset, .unset, .unset, .unset] [(.int (0 : Int32))])) _
  refine XS.istore X0.here hx rfl (hb hby at_26) rfl (l' := #[.val (.int p1), .val (.int p2), .val (.int p3), .val (.int p4), .val (.int p5), .val (.int g1), .val (.int (0 : Int32)), .unset, .unset, .unset, .unset, .unset, .unset, .unset, .unset, .unset, .unset, .unset]) rfl ?_
  exact kt
theorem own_fB_1 {p : Program} {l : Launch} {e : Env} {R : Room} {s : State} {m : MethodId} {args : Array Value} {below : List Frame} {meth : Method} {c : Code} {T0 : State} {locs : List Loc} {cells slots : Nat} (p1 p2 p3 p4 p5 : Int32) (g1 : Int32) (X0 : Stand p l e R s m args below meth c T0 locs cells slots) (hx : p.tables.exec = Jvm.exec) (hby : c.code = code) {Z : State} {a0 : Array Value} (hZ : Z.Warmed39 s.vm) (hw : ∀ d ∈ tables_1, d.before a0 Z = true) (hown : s.vm.findClass "com/example/hashwright/hashwright/table/PagedArrayGetPinLaw" = some m.cls) (hc_q1 : ¬ ((p5 &&& (2 : Int32)) = (0 : Int32))) {target : State} (kt : Steps p.tables e below (T0.setTop (mkF m 28 #[.val (.int p1), .val (.int p2), .val (.int p3), .val (.int p4), .val (.int p5), .val (.int g1), .val (.int (1 : Int32)), .unset, .unset, .unset, .unset, .unset, .unset, .unset, .unset, .unset, .unset, .unset] [])) target) : Steps p.tables e below (T0.setTop (mkF m 14 #[.val (.int p1), .val (.int p2), .val (.int p3), .val (.int p4), .val (.int p5), .val (.int g1), .unset, .unset, .unset, .unset, .unset, .unset, .unset, .unset, .unset, .unset, .unset, .unset] [])) target := by
  show Steps p.tables e below (T0.setTop (mkF m 14 #[.val (.int p1), .val (.int p2), .val (.int p3), .val (.int p4), .val (.int p5), .val (.int g1), .unset, .unset, .unset, .unset, .unset, .unset, .unset, .unset, .unset, .unset, .unset, .unset] [])) _
  refine XS.iload X0.here hx rfl (hb hby at_14) rfl ?_
  show Steps p.tables e below (T0.setTop (mkF m 16 #[.val (.int p1), .val (.int p2), .val (.int p3), .val (.int p4), .val (.int p5), .val (.int g1), .unset, .unset, .unset, .unset, .unset, .unset, .unset, .unset, .unset, .unset, .unset, .unset] [(.int p5)])) _
  refine XS.iconst X0.here hx rfl (hb hby at_16) ?_
  show Steps p.tables e below (T0.setTop (mkF m 17 #[.val (.int p1), .val (.int p2), .val (.int p3), .val (.int p4), .val (.int p5), .val (.int g1), .unset, .unset, .unset, .unset, .unset, .unset, .unset, .unset, .unset, .unset, .unset, .unset] [(.int (2 : Int32)), (.int p5)])) _
  refine XS.iand X0.here hx rfl (hb hby at_17) rfl ?_
  show Steps p.tables e below (T0.setTop (mkF m 18 #[.val (.int p1), .val (.int p2), .val (.int p3), .val (.int p4), .val (.int p5), .val (.int g1), .unset, .unset, .unset, .unset, .unset, .unset, .unset, .unset, .unset, .unset, .unset, .unset] [(.int (p5 &&& (2 : Int32)))])) _
  refine XS.ifNo X0.here hx rfl (hb hby at_18) rfl ((if0 _ _).trans (feq hc_q1).1) ?_
  show Steps p.tables e below (T0.setTop (mkF m 21 #[.val (.int p1), .val (.int p2), .val (.int p3), .val (.int p4), .val (.int p5), .val (.int g1), .unset, .unset, .unset, .unset, .unset, .unset, .unset, .unset, .unset, .unset, .unset, .unset] [])) _
  refine XS.iconst X0.here hx rfl (hb hby at_21) ?_
  show Steps p.tables e below (T0.setTop (mkF m 22 #[.val (.int p1), .val (.int p2), .val (.int p3), .val (.int p4), .val (.int p5), .val (.int g1), .unset, .unset, .unset, .unset, .unset, .unset, .unset, .unset, .unset, .unset, .unset, .unset] [(.int (1 : Int32))])) _
  refine XS.goto X0.here hx rfl (pc0 := 22) (pc' := 26) rfl (hb hby at_22) (by decide) (by decide) ?_
  show Steps p.tables e below (T0.setTop (mkF m 26 #[.val (.int p1), .val (.int p2), .val (.int p3), .val (.int p4), .val (.int p5), .val (.int g1), .unset, .unset, .unset, .unset, .unset, .unset, .unset, .unset, .unset, .unset, .unset, .unset] [(.int (1 : Int32))])) _
  refine XS.istore X0.here hx rfl (hb hby at_26) rfl (l' := #[.val (.int p1), .val (.int p2), .val (.int p3), .val (.int p4), .val (.int p5), .val (.int g1), .val (.int (1 : Int32)), .unset, .unset, .unset, .unset, .unset, .unset, .unset, .unset, .unset, .unset, .unset]) rfl ?_
  exact kt
theorem own_fB {p : Program} {l : Launch} {e : Env} {R : Room} {s : State} {m : MethodId} {args : Array Value} {below : List Frame} {meth : Method} {c : Code} {T0 : State} {locs : List Loc} {cells slots : Nat} (p1 p2 p3 p4 p5 : Int32) (g1 : Int32) (g2 : Int32) (X0 : Stand p l e R s m args below meth c T0 locs cells slots) (hx : p.tables.exec = Jvm.exec) (hby : c.code = code) {Z : State} {a0 : Array Value} (hZ : Z.Warmed39 s.vm) (hw : ∀ d ∈ tables_1, d.before a0 Z = true) (hown : s.vm.findClass "com/example/hashwright/hashwright/table/PagedArrayGetPinLaw" = some m.cls) (hv : own_fl (p5 &&& (2 : Int32)) g2) {target : State} (kt : Steps p.tables e below (T0.setTop (mkF m 28 #[.val (.int p1), .val (.int p2), .val (.int p3), .val (.int p4), .val (.int p5), .val (.int g1), .val (.int g2), .unset, .unset, .unset, .unset, .unset, .unset, .unset, .unset, .unset, .unset, .unset] [])) target) : Steps p.tables e below (T0.setTop (mkF m 14 #[.val (.int p1), .val (.int p2), .val (.int p3), .val (.int p4), .val (.int p5), .val (.int g1), .unset, .unset, .unset, .unset, .unset, .unset, .unset, .unset, .unset, .unset, .unset, .unset] [])) target := by
  rcases hv with ⟨y0, hk⟩ | ⟨y0, hk⟩
  · rw [hk] at kt; exact own_fB_0 p1 p2 p3 p4 p5 g1 X0 hx hby hZ hw hown y0 kt
  · rw [hk] at kt; exact own_fB_1 p1 p2 p3 p4 p5 g1 X0 hx hby hZ hw hown y0 kt
theorem own_fC_0 {p : Program} {l : Launch} {e : Env} {R : Room} {s : State} {m : MethodId} {args : Array Value} {below : List Frame} {meth : Method} {c : Code} {T0 : State} {locs : List Loc} {cells slots : Nat} (p1 p2 p3 p4 p5 : Int32) (g1 g2 mo : Int32) (X0 : Stand p l e R s m args below meth c T0 locs cells slots) (hx : p.tables.exec = Jvm.exec) (hby : c.code = code) {Z : State} {a0 : Array Value} (hZ : Z.Warmed39 s.vm) (hw : ∀ d ∈ tables_1, d.before a0 Z = true) (hown : s.vm.findClass "com/example/hashwright/hashwright/table/PagedArrayGetPinLaw" = some m.cls) (hc_q1 : ¬ (g1 = (0 : Int32))) {target : State} (kt : Steps p.tables e below (T0.setTop (mkF m 59 #[.val (.int p1), .val (.int p2), .val (.int p3), .val (.int p4), .val (.int p5), .val (.int g1), .val (.int g2), .val (.int mo), .val (.int ((65537 : Int32) + (p1 &&& (131071 : Int32)))), .unset, .unset, .unset, .unset, .unset, .unset, .unset, .unset, .unset] [])) target) : Steps p.tables e below (T0.setTop (mkF m 36 #[.val (.int p1), .val (.int p2), .val (.int p3), .val (.int p4), .val (.int p5), .val (.int g1), .val (.int g2), .val (.int mo), .unset, .unset, .unset, .unset, .unset, .unset, .unset, .unset, .unset, .unset] [])) target := by
  show Steps p.tables e below (T0.setTop (mkF m 36 #[.val (.int p1), .val (.int p2), .val (.int p3), .val (.int p4), .val (.int p5), .val (.int g1), .val (.int g2), .val (.int mo), .unset, .unset, .unset, .unset, .unset, .unset, .unset, .unset, .unset, .unset] [])) _
  refine XS.iload X0.here hx rfl (hb hby at_36) rfl ?_
  show Steps p.tables e below (T0.setTop (mkF m 38 #[.val (.int p1), .val (.int p2), .val (.int p3), .val (.int p4), .val (.int p5), .val (.int g1), .val (.int g2), .val (.int mo), .unset, .unset, .unset, .unset, .unset, .unset, .unset, .unset, .unset, .unset] [(.int g1)])) _
  refine XS.ifNo X0.here hx rfl (hb hby at_38) rfl ((if0 _ _).trans (feq hc_q1).1) ?_
  show Steps p.tables e below (T0.setTop (mkF m 41 #[.val (.int p1), .val (.int p2), .val (.int p3), .val (.int p4), .val (.int p5), .val (.int g1), .val (.int g2), .val (.int mo), .unset, .unset, .unset, .unset, .unset, .unset, .unset, .unset, .unset, .unset] [])) _
  refine X0.ldcInt hx hown (mvT hZ (own_w hw 48 rfl)) (g := (mkF m 41 #[.val (.int p1), .val (.int p2), .val (.int p3), .val (.int p4), .val (.int p5), .val (.int g1), .val (.int g2), .val (.int mo), .unset, .unset, .unset, .unset, .unset, .unset, .unset, .unset, .unset, .unset] [])) rfl (hb hby at_41) _ ?_
  show Steps p.tables e below (T0.setTop (mkF m 43 #[.val (.int p1), .val (.int p2), .val (.int p3), .val (.int p4), .val (.int p5), .val (.int g1), .val (.int g2), .val (.int mo), .unset, .unset, .unset, .unset, .unset, .unset, .unset, .unset, .unset, .unset] [(.int (65537 : Int32))])) _
  refine XS.iloadN X0.here hx rfl (hb hby at_43) rfl ?_
  show Steps p.tables e below (T0.setTop (mkF m 44 #[.val (.int p1), .val (.int p2), .val (.int p3), .val (.int p4), .val (.int p5), .val (.int g1), .val (.int g2), .val (.int mo), .unset, .unset, .unset, .unset, .unset, .unset, .unset, .unset, .unset, .unset] [(.int p1), (.int (65537 : Int32))])) _
  refine X0.ldcInt hx hown (mvT hZ (own_w hw 49 rfl)) (g := (mkF m 44 #[.val (.int p1), .val (.int p2), .val (.int p3), .val (.int p4), .val (.int p5), .val (.int g1), .val (.int g2), .val (.int mo), .unset, .unset, .unset, .unset, .unset, .unset, .unset, .unset, .unset, .unset] [(.int p1), (.int (65537 : Int32))])) rfl (hb hby at_44) _ ?_
  show Steps p.tables e below (T0.setTop (mkF m 46 #[.val (.int p1), .val (.int p2), .val (.int p3), .val (.int p4), .val (.int p5), .val (.int g1), .val (.int g2), .val (.int mo), .unset, .unset, .unset, .unset, .unset, .unset, .unset, .unset, .unset, .unset] [(.int (131071 : Int32)), (.int p1), (.int (65537 : Int32))])) _
  refine XS.iand X0.here hx rfl (hb hby at_46) rfl ?_
  show Steps p.tables e below (T0.setTop (mkF m 47 #[.val (.int p1), .val (.int p2), .val (.int p3), .val (.int p4), .val (.int p5), .val (.int g1), .val (.int g2), .val (.int mo), .unset, .unset, .unset, .unset, .unset, .unset, .unset, .unset, .unset, .unset] [(.int (p1 &&& (131071 : Int32))), (.int (65537 : Int32))])) _
  refine XS.iadd X0.here hx rfl (hb hby at_47) rfl ?_
  show Steps p.tables e below (T0.setTop (mkF m 48 #[.val (.int p1), .val (.int p2), .val (.int p3), .val (.int p4), .val (.int p5), .val (.int g1), .val (.int g2), .val (.int mo), .unset, .unset, .unset, .unset, .unset, .unset, .unset, .unset, .unset, .unset] [(.int ((65537 : Int32) + (p1 &&& (131071 : Int32))))])) _
  refine XS.goto X0.here hx rfl (pc0 := 48) (pc' := 57) rfl (hb hby at_48) (by decide) (by decide) ?_
  show Steps p.tables e below (T0.setTop (mkF m 57 #[.val (.int p1), .val (.int p2), .val (.int p3), .val (.int p4), .val (.int p5), .val (.int g1), .val (.int g2), .val (.int mo), .unset, .unset, .unset, .unset, .unset, .unset, .unset, .unset, .unset, .unset] [(.int ((65537 : Int32) + (p1 &&& (131071 : Int32))))])) _
  refine XS.istore X0.here hx rfl (hb hby at_57) rfl (l' := #[.val (.int p1), .val (.int p2), .val (.int p3), .val (.int p4), .val (.int p5), .val (.int g1), .val (.int g2), .val (.int mo), .val (.int ((65537 : Int32) + (p1 &&& (131071 : Int32)))), .unset, .unset, .unset, .unset, .unset, .unset, .unset, .unset, .unset]) rfl ?_
  exact kt
theorem own_fC_1 {p : Program} {l : Launch} {e : Env} {R : Room} {s : State} {m : MethodId} {args : Array Value} {below : List Frame} {meth : Method} {c : Code} {T0 : State} {locs : List Loc} {cells slots : Nat} (p1 p2 p3 p4 p5 : Int32) (g1 g2 mo : Int32) (X0 : Stand p l e R s m args below meth c T0 locs cells slots) (hx : p.tables.exec = Jvm.exec) (hby : c.code = code) {Z : State} {a0 : Array Value} (hZ : Z.Warmed39 s.vm) (hw : ∀ d ∈ tables_1, d.before a0 Z = true) (hown : s.vm.findClass "com/example/hashwright/hashwright/table/PagedArrayGetPinLaw" = some m.cls) (hc_q1 : g1 = (0 : Int32)) {target : State} (kt : Steps p.tables e below (T0.setTop (mkF m 59 #[.val (.int p1), .val (.int p2), .val (.int p3), .val (.int p4), .val (.int p5), .val (.int g1), .val (.int g2), .val (.int mo), .val (.int ((1 : Int32) + (p1 &&& (65535 : Int32)))), .unset, .unset, .unset, .unset, .unset, .unset, .unset, .unset, .unset] [])) target) : Steps p.tables e below (T0.setTop (mkF m 36 #[.val (.int p1), .val (.int p2), .val (.int p3), .val (.int p4), .val (.int p5), .val (.int g1), .val (.int g2), .val (.int mo), .unset, .unset, .unset, .unset, .unset, .unset, .unset, .unset, .unset, .unset] [])) target := by
  show Steps p.tables e below (T0.setTop (mkF m 36 #[.val (.int p1), .val (.int p2), .val (.int p3), .val (.int p4), .val (.int p5), .val (.int g1), .val (.int g2), .val (.int mo), .unset, .unset, .unset, .unset, .unset, .unset, .unset, .unset, .unset, .unset] [])) _
  refine XS.iload X0.here hx rfl (hb hby at_36) rfl ?_
  show Steps p.tables e below (T0.setTop (mkF m 38 #[.val (.int p1), .val (.int p2), .val (.int p3), .val (.int p4), .val (.int p5), .val (.int g1), .val (.int g2), .val (.int mo), .unset, .unset, .unset, .unset, .unset, .unset, .unset, .unset, .unset, .unset] [(.int g1)])) _
  refine XS.ifYes X0.here hx rfl (pc0 := 38) (pc' := 51) rfl (hb hby at_38) rfl ((if0 _ _).trans (teq hc_q1).1) (by decide) (by decide) ?_
  show Steps p.tables e below (T0.setTop (mkF m 51 #[.val (.int p1), .val (.int p2), .val (.int p3), .val (.int p4), .val (.int p5), .val (.int g1), .val (.int g2), .val (.int mo), .unset, .unset, .unset, .unset, .unset, .unset, .unset, .unset, .unset, .unset] [])) _
  refine XS.iconst X0.here hx rfl (hb hby at_51) ?_
  show Steps p.tables e below (T0.setTop (mkF m 52 #[.val (.int p1), .val (.int p2), .val (.int p3), .val (.int p4), .val (.int p5), .val (.int g1), .val (.int g2), .val (.int mo), .unset, .unset, .unset, .unset, .unset, .unset, .unset, .unset, .unset, .unset] [(.int (1 : Int32))])) _
  refine XS.iloadN X0.here hx rfl (hb hby at_52) rfl ?_
  show Steps p.tables e below (T0.setTop (mkF m 53 #[.val (.int p1), .val (.int p2), .val (.int p3), .val (.int p4), .val (.int p5), .val (.int g1), .val (.int g2), .val (.int mo), .unset, .unset, .unset, .unset, .unset, .unset, .unset, .unset, .unset, .unset] [(.int p1), (.int (1 : Int32))])) _
  refine X0.ldcInt hx hown (mvT hZ (own_w hw 0 rfl)) (g := (mkF m 53 #[.val (.int p1), .val (.int p2), .val (.int p3), .val (.int p4), .val (.int p5), .val (.int g1), .val (.int g2), .val (.int mo), .unset, .unset, .unset, .unset, .unset, .unset, .unset, .unset, .unset, .unset] [(.int p1), (.int (1 : Int32))])) rfl (hb hby at_53) _ ?_
  show Steps p.tables e below (T0.setTop (mkF m 55 #[.val (.int p1), .val (.int p2), .val (.int p3), .val (.int p4), .val (.int p5), .val (.int g1), .val (.int g2), .val (.int mo), .unset, .unset, .unset, .unset, .unset, .unset, .unset, .unset, .unset, .unset] [(.int (65535 : Int32)), (.int p1), (.int (1 : Int32))])) _
  refine XS.iand X0.here hx rfl (hb hby at_55) rfl ?_
  show Steps p.tables e below (T0.setTop (mkF m 56 #[.val (.int p1), .val (.int p2), .val (.int p3), .val (.int p4), .val (.int p5), .val (.int g1), .val (.int g2), .val (.int mo), .unset, .unset, .unset, .unset, .unset, .unset, .unset, .unset, .unset, .unset] [(.int (p1 &&& (65535 : Int32))), (.int (1 : Int32))])) _
  refine XS.iadd X0.here hx rfl (hb hby at_56) rfl ?_
  show Steps p.tables e below (T0.setTop (mkF m 57 #[.val (.int p1), .val (.int p2), .val (.int p3), .val (.int p4), .val (.int p5), .val (.int g1), .val (.int g2), .val (.int mo), .unset, .unset, .unset, .unset, .unset, .unset, .unset, .unset, .unset, .unset] [(.int ((1 : Int32) + (p1 &&& (65535 : Int32))))])) _
  refine XS.istore X0.here hx rfl (hb hby at_57) rfl (l' := #[.val (.int p1), .val (.int p2), .val (.int p3), .val (.int p4), .val (.int p5), .val (.int g1), .val (.int g2), .val (.int mo), .val (.int ((1 : Int32) + (p1 &&& (65535 : Int32)))), .unset, .unset, .unset, .unset, .unset, .unset, .unset, .unset, .unset]) rfl ?_
  exact kt
theorem own_fC {p : Program} {l : Launch} {e : Env} {R : Room} {s : State} {m : MethodId} {args : Array Value} {below : List Frame} {meth : Method} {c : Code} {T0 : State} {locs : List Loc} {cells slots : Nat} (p1 p2 p3 p4 p5 : Int32) (g1 g2 mo : Int32) (nn : Int32) (X0 : Stand p l e R s m args below meth c T0 locs cells slots) (hx : p.tables.exec = Jvm.exec) (hby : c.code = code) {Z : State} {a0 : Array Value} (hZ : Z.Warmed39 s.vm) (hw : ∀ d ∈ tables_1, d.before a0 Z = true) (hown : s.vm.findClass "com/example/hashwright/hashwright/table/PagedArrayGetPinLaw" = some m.cls) (hv : own_nn p1 g1 nn) {target : State} (kt : Steps p.tables e below (T0.setTop (mkF m 59 #[.val (.int p1), .val (.int p2), .val (.int p3), .val (.int p4), .val (.int p5), .val (.int g1), .val (.int g2), .val (.int mo), .val (.int nn), .unset, .unset, .unset, .unset, .unset, .unset, .unset, .unset, .unset] [])) target) : Steps p.tables e below (T0.setTop (mkF m 36 #[.val (.int p1), .val (.int p2), .val (.int p3), .val (.int p4), .val (.int p5), .val (.int g1), .val (.int g2), .val (.int mo), .unset, .unset, .unset, .unset, .unset, .unset, .unset, .unset, .unset, .unset] [])) target := by
  rcases hv with ⟨y0, hk⟩ | ⟨y0, hk⟩
  · rw [hk] at kt; exact own_fC_0 p1 p2 p3 p4 p5 g1 g2 mo X0 hx hby hZ hw hown y0 kt
  · rw [hk] at kt; exact own_fC_1 p1 p2 p3 p4 p5 g1 g2 mo X0 hx hby hZ hw hown y0 kt
theorem own_fD_0 {p : Program} {l : Launch} {e : Env} {R : Room} {s : State} {m : MethodId} {args : Array Value} {below : List Frame} {meth : Method} {c : Code} {T0 : State} {locs : List Loc} {cells slots : Nat} (p1 p2 p3 p4 p5 : Int32) (g1 g2 mo nn ii jj : Int32) (X0 : Stand p l e R s m args below meth c T0 locs cells slots) (hx : p.tables.exec = Jvm.exec) (hby : c.code = code) {Z : State} {a0 : Array Value} (hZ : Z.Warmed39 s.vm) (hw : ∀ d ∈ tables_1, d.before a0 Z = true) (hown : s.vm.findClass "com/example/hashwright/hashwright/table/PagedArrayGetPinLaw" = some m.cls) (hc_q1 : mo = (0 : Int32)) {target : State} (kt : Steps p.tables e below (T0.setTop (mkF m 111 #[.val (.int p1), .val (.int p2), .val (.int p3), .val (.int p4), .val (.int p5), .val (.int g1), .val (.int g2), .val (.int mo), .val (.int nn), .val (.int ii), .val (.int jj), .val (.int ii), .unset, .unset, .unset, .unset, .unset, .unset] [])) target) : Steps p.tables e below (T0.setTop (mkF m 77 #[.val (.int p1), .val (.int p2), .val (.int p3), .val (.int p4), .val (.int p5), .val (.int g1), .val (.int g2), .val (.int mo), .val (.int nn), .val (.int ii), .val (.int jj), .unset, .unset, .unset, .unset, .unset, .unset, .unset] [])) target := by
  show Steps p.tables e below (T0.setTop (mkF m 77 #[.val (.int p1), .val (.int p2), .val (.int p3), .val (.int p4), .val (.int p5), .val (.int g1), .val (.int g2), .val (.int mo), .val (.int nn), .val (.int ii), .val (.int jj), .unset, .unset, .unset, .unset, .unset, .unset, .unset] [])) _
  refine XS.iload X0.here hx rfl (hb hby at_77) rfl ?_
  show Steps p.tables e below (T0.setTop (mkF m 79 #[.val (.int p1), .val (.int p2), .val (.int p3), .val (.int p4), .val (.int p5), .val (.int g1), .val (.int g2), .val (.int mo), .val (.int nn), .val (.int ii), .val (.int jj), .unset, .unset, .unset, .unset, .unset, .unset, .unset] [(.int mo)])) _
  refine XS.ifNo X0.here hx rfl (hb hby at_79) rfl ((if0 _ _).trans (teq hc_q1).2) ?_
  show Steps p.tables e below (T0.setTop (mkF m 82 #[.val (.int p1), .val (.int p2), .val (.int p3), .val (.int p4), .val (.int p5), .val (.int g1), .val (.int g2), .val (.int mo), .val (.int nn), .val (.int ii), .val (.int jj), .unset, .unset, .unset, .unset, .unset, .unset, .unset] [])) _
  refine XS.iload X0.here hx rfl (hb hby at_82) rfl ?_
  show Steps p.tables e below (T0.setTop (mkF m 84 #[.val (.int p1), .val (.int p2), .val (.int p3), .val (.int p4), .val (.int p5), .val (.int g1), .val (.int g2), .val (.int mo), .val (.int nn), .val (.int ii), .val (.int jj), .unset, .unset, .unset, .unset, .unset, .unset, .unset] [(.int ii)])) _
  refine XS.istore X0.here hx rfl (hb hby at_84) rfl (l' := #[.val (.int p1), .val (.int p2), .val (.int p3), .val (.int p4), .val (.int p5), .val (.int g1), .val (.int g2), .val (.int mo), .val (.int nn), .val (.int ii), .val (.int jj), .val (.int ii), .unset, .unset, .unset, .unset, .unset, .unset]) rfl ?_
  show Steps p.tables e below (T0.setTop (mkF m 86 #[.val (.int p1), .val (.int p2), .val (.int p3), .val (.int p4), .val (.int p5), .val (.int g1), .val (.int g2), .val (.int mo), .val (.int nn), .val (.int ii), .val (.int jj), .val (.int ii), .unset, .unset, .unset, .unset, .unset, .unset] [])) _
  refine XS.goto X0.here hx rfl (pc0 := 86) (pc' := 111) rfl (hb hby at_86) (by decide) (by decide) ?_
  exact kt
theorem own_fD_1 {p : Program} {l : Launch} {e : Env} {R : Room} {s : State} {m : MethodId} {args : Array Value} {below : List Frame} {meth : Method} {c : Code} {T0 : State} {locs : List Loc} {cells slots : Nat} (p1 p2 p3 p4 p5 : Int32) (g1 g2 mo nn ii jj : Int32) (X0 : Stand p l e R s m args below meth c T0 locs cells slots) (hx : p.tables.exec = Jvm.exec) (hby : c.code = code) {Z : State} {a0 : Array Value} (hZ : Z.Warmed39 s.vm) (hw : ∀ d ∈ tables_1, d.before a0 Z = true) (hown : s.vm.findClass "com/example/hashwright/hashwright/table/PagedArrayGetPinLaw" = some m.cls) (hc_q1 : ¬ (mo = (0 : Int32))) (hc_q2 : mo = (1 : Int32)) {target : State} (kt : Steps p.tables e below (T0.setTop (mkF m 111 #[.val (.int p1), .val (.int p2), .val (.int p3), .val (.int p4), .val (.int p5), .val (.int g1), .val (.int g2), .val (.int mo), .val (.int nn), .val (.int ii), .val (.int jj), .val (.int jj), .unset, .unset, .unset, .unset, .unset, .unset] [])) target) : Steps p.tables e below (T0.setTop (mkF m 77 #[.val (.int p1), .val (.int p2), .val (.int p3), .val (.int p4), .val (.int p5), .val (.int g1), .val (.int g2), .val (.int mo), .val (.int nn), .val (.int ii), .val (.int jj), .unset, .unset, .unset, .unset, .unset, .unset, .unset] [])) target := by
  show Steps p.tables e below (T0.setTop (mkF m 77 #[.val (.int p1), .val (.int p2), .val (.int p3), .val (.int p4), .val (.int p5), .val (.int g1), .val (.int g2), .val (.int mo), .val (.int nn), .val (.int ii), .val (.int jj), .unset, .unset, .unset, .unset, .unset, .unset, .unset] [])) _
  refine XS.iload X0.here hx rfl (hb hby at_77) rfl ?_
  show Steps p.tables e below (T0.setTop (mkF m 79 #[.val (.int p1), .val (.int p2), .val (.int p3), .val (.int p4), .val (.int p5), .val (.int g1), .val (.int g2), .val (.int mo), .val (.int nn), .val (.int ii), .val (.int jj), .unset, .unset, .unset, .unset, .unset, .unset, .unset] [(.int mo)])) _
  refine XS.ifYes X0.here hx rfl (pc0 := 79) (pc' := 89) rfl (hb hby at_79) rfl ((if0 _ _).trans (feq hc_q1).2) (by decide) (by decide) ?_
  show Steps p.tables e below (T0.setTop (mkF m 89 #[.val (.int p1), .val (.int p2), .val (.int p3), .val (.int p4), .val (.int p5), .val (.int g1), .val (.int g2), .val (.int mo), .val (.int nn), .val (.int ii), .val (.int jj), .unset, .unset, .unset, .unset, .unset, .unset, .unset] [])) _
  refine XS.iload X0.here hx rfl (hb hby at_89) rfl ?_
  show Steps p.tables e below (T0.setTop (mkF m 91 #[.val (.int p1), .val (.int p2), .val (.int p3), .val (.int p4), .val (.int p5), .val (.int g1), .val (.int g2), .val (.int mo), .val (.int nn), .val (.int ii), .val (.int jj), .unset, .unset, .unset, .unset, .unset, .unset, .unset] [(.int mo)])) _
  refine XS.iconst X0.here hx rfl (hb hby at_91) ?_
  show Steps p.tables e below (T0.setTop (mkF m 92 #[.val (.int p1), .val (.int p2), .val (.int p3), .val (.int p4), .val (.int p5), .val (.int g1), .val (.int g2), .val (.int mo), .val (.int nn), .val (.int ii), .val (.int jj), .unset, .unset, .unset, .unset, .unset, .unset, .unset] [(.int (1 : Int32)), (.int mo)])) _
  refine XS.icmpNo X0.here hx rfl (hb hby at_92) rfl (teq hc_q2).2 ?_
  show Steps p.tables e below (T0.setTop (mkF m 95 #[.val (.int p1), .val (.int p2), .val (.int p3), .val (.int p4), .val (.int p5), .val (.int g1), .val (.int g2), .val (.int mo), .val (.int nn), .val (.int ii), .val (.int jj), .unset, .unset, .unset, .unset, .unset, .unset, .unset] [])) _
  refine XS.iload X0.here hx rfl (hb hby at_95) rfl ?_
  show Steps p.tables e below (T0.setTop (mkF m 97 #[.val (.int p1), .val (.int p2), .val (.int p3), .val (.int p4), .val (.int p5), .val (.int g1), .val (.int g2), .val (.int mo), .val (.int nn), .val (.int ii), .val (.int jj), .unset, .unset, .unset, .unset, .unset, .unset, .unset] [(.int jj)])) _
  refine XS.istore X0.here hx rfl (hb hby at_97) rfl (l' := #[.val (.int p1), .val (.int p2), .val (.int p3), .val (.int p4), .val (.int p5), .val (.int g1), .val (.int g2), .val (.int mo), .val (.int nn), .val (.int ii), .val (.int jj), .val (.int jj), .unset, .unset, .unset, .unset, .unset, .unset]) rfl ?_
  show Steps p.tables e below (T0.setTop (mkF m 99 #[.val (.int p1), .val (.int p2), .val (.int p3), .val (.int p4), .val (.int p5), .val (.int g1), .val (.int g2), .val (.int mo), .val (.int nn), .val (.int ii), .val (.int jj), .val (.int jj), .unset, .unset, .unset, .unset, .unset, .unset] [])) _
  refine XS.goto X0.here hx rfl (pc0 := 99) (pc' := 111) rfl (hb hby at_99) (by decide) (by decide) ?_
  exact kt
theorem own_fD_2 {p : Program} {l : Launch} {e : Env} {R : Room} {s : State} {m : MethodId} {args : Array Value} {below : List Frame} {meth : Method} {c : Code} {T0 : State} {locs : List Loc} {cells slots : Nat} (p1 p2 p3 p4 p5 : Int32) (g1 g2 mo nn ii jj : Int32) (X0 : Stand p l e R s m args below meth c T0 locs cells slots) (hx : p.tables.exec = Jvm.exec) (hby : c.code = code) {Z : State} {a0 : Array Value} (hZ : Z.Warmed39 s.vm) (hw : ∀ d ∈ tables_1, d.before a0 Z = true) (hown : s.vm.findClass "com/example/hashwright/hashwright/table/PagedArrayGetPinLaw" = some m.cls) (hc_q1 : ¬ (mo = (0 : Int32))) (hc_q2 : ¬ (mo = (1 : Int32))) (hc_q3 : nn ≠ 0) {target : State} (kt : Steps p.tables e below (T0.setTop (mkF m 111 #[.val (.int p1), .val (.int p2), .val (.int p3), .val (.int p4), .val (.int p5), .val (.int g1), .val (.int g2), .val (.int mo), .val (.int nn), .val (.int ii), .val (.int jj), .val (.int ((p4 &&& (2147483647 : Int32)) % nn)), .unset, .unset, .unset, .unset, .unset, .unset] [])) target) : Steps p.tables e below (T0.setTop (mkF m 77 #[.val (.int p1), .val (.int p2), .val (.int p3), .val (.int p4), .val (.int p5), .val (.int g1), .val (.int g2), .val (.int mo), .val (.int nn), .val (.int ii), .val (.int jj), .unset, .unset, .unset, .unset, .unset, .unset, .unset] [])) target := by
  show Steps p.tables e below (T0.setTop (mkF m 77 #[.val (.int p1), .val (.int p2), .val (.int p3), .val (.int p4), .val (.int p5), .val (.int g1), .val (.int g2), .val (.int mo), .val (.int nn), .val (.int ii), .val (.int jj), .unset, .unset, .unset, .unset, .unset, .unset, .unset] [])) _
  refine XS.iload X0.here hx rfl (hb hby at_77) rfl ?_
  show Steps p.tables e below (T0.setTop (mkF m 79 #[.val (.int p1), .val (.int p2), .val (.int p3), .val (.int p4), .val (.int p5), .val (.int g1), .val (.int g2), .val (.int mo), .val (.int nn), .val (.int ii), .val (.int jj), .unset, .unset, .unset, .unset, .unset, .unset, .unset] [(.int mo)])) _
  refine XS.ifYes X0.here hx rfl (pc0 := 79) (pc' := 89) rfl (hb hby at_79) rfl ((if0 _ _).trans (feq hc_q1).2) (by decide) (by decide) ?_
  show Steps p.tables e below (T0.setTop (mkF m 89 #[.val (.int p1), .val (.int p2), .val (.int p3), .val (.int p4), .val (.int p5), .val (.int g1), .val (.int g2), .val (.int mo), .val (.int nn), .val (.int ii), .val (.int jj), .unset, .unset, .unset, .unset, .unset, .unset, .unset] [])) _
  refine XS.iload X0.here hx rfl (hb hby at_89) rfl ?_
  show Steps p.tables e below (T0.setTop (mkF m 91 #[.val (.int p1), .val (.int p2), .val (.int p3), .val (.int p4), .val (.int p5), .val (.int g1), .val (.int g2), .val (.int mo), .val (.int nn), .val (.int ii), .val (.int jj), .unset, .unset, .unset, .unset, .unset, .unset, .unset] [(.int mo)])) _
  refine XS.iconst X0.here hx rfl (hb hby at_91) ?_
  show Steps p.tables e below (T0.setTop (mkF m 92 #[.val (.int p1), .val (.int p2), .val (.int p3), .val (.int p4), .val (.int p5), .val (.int g1), .val (.int g2), .val (.int mo), .val (.int nn), .val (.int ii), .val (.int jj), .unset, .unset, .unset, .unset, .unset, .unset, .unset] [(.int (1 : Int32)), (.int mo)])) _
  refine XS.icmpYes X0.here hx rfl (pc0 := 92) (pc' := 102) rfl (hb hby at_92) rfl (feq hc_q2).2 (by decide) (by decide) ?_
  show Steps p.tables e below (T0.setTop (mkF m 102 #[.val (.int p1), .val (.int p2), .val (.int p3), .val (.int p4), .val (.int p5), .val (.int g1), .val (.int g2), .val (.int mo), .val (.int nn), .val (.int ii), .val (.int jj), .unset, .unset, .unset, .unset, .unset, .unset, .unset] [])) _
  refine XS.iloadN X0.here hx rfl (hb hby at_102) rfl ?_
  show Steps p.tables e below (T0.setTop (mkF m 103 #[.val (.int p1), .val (.int p2), .val (.int p3), .val (.int p4), .val (.int p5), .val (.int g1), .val (.int g2), .val (.int mo), .val (.int nn), .val (.int ii), .val (.int jj), .unset, .unset, .unset, .unset, .unset, .unset, .unset] [(.int p4)])) _
  refine X0.ldcInt hx hown (mvT hZ (own_w hw 1 rfl)) (g := (mkF m 103 #[.val (.int p1), .val (.int p2), .val (.int p3), .val (.int p4), .val (.int p5), .val (.int g1), .val (.int g2), .val (.int mo), .val (.int nn), .val (.int ii), .val (.int jj), .unset, .unset, .unset, .unset, .unset, .unset, .unset] [(.int p4)])) rfl (hb hby at_103) _ ?_
  show Steps p.tables e below (T0.setTop (mkF m 105 #[.val (.int p1), .val (.int p2), .val (.int p3), .val (.int p4), .val (.int p5), .val (.int g1), .val (.int g2), .val (.int mo), .val (.int nn), .val (.int ii), .val (.int jj), .unset, .unset, .unset, .unset, .unset, .unset, .unset] [(.int (2147483647 : Int32)), (.int p4)])) _
  refine XS.iand X0.here hx rfl (hb hby at_105) rfl ?_
  show Steps p.tables e below (T0.setTop (mkF m 106 #[.val (.int p1), .val (.int p2), .val (.int p3), .val (.int p4), .val (.int p5), .val (.int g1), .val (.int g2), .val (.int mo), .val (.int nn), .val (.int ii), .val (.int jj), .unset, .unset, .unset, .unset, .unset, .unset, .unset] [(.int (p4 &&& (2147483647 : Int32)))])) _
  refine XS.iload X0.here hx rfl (hb hby at_106) rfl ?_
  show Steps p.tables e below (T0.setTop (mkF m 108 #[.val (.int p1), .val (.int p2), .val (.int p3), .val (.int p4), .val (.int p5), .val (.int g1), .val (.int g2), .val (.int mo), .val (.int nn), .val (.int ii), .val (.int jj), .unset, .unset, .unset, .unset, .unset, .unset, .unset] [(.int nn), (.int (p4 &&& (2147483647 : Int32)))])) _
  refine iremM X0 hx rfl (hb hby at_108) rfl hc_q3 ?_
  show Steps p.tables e below (T0.setTop (mkF m 109 #[.val (.int p1), .val (.int p2), .val (.int p3), .val (.int p4), .val (.int p5), .val (.int g1), .val (.int g2), .val (.int mo), .val (.int nn), .val (.int ii), .val (.int jj), .unset, .unset, .unset, .unset, .unset, .unset, .unset] [(.int ((p4 &&& (2147483647 : Int32)) % nn))])) _
  refine XS.istore X0.here hx rfl (hb hby at_109) rfl (l' := #[.val (.int p1), .val (.int p2), .val (.int p3), .val (.int p4), .val (.int p5), .val (.int g1), .val (.int g2), .val (.int mo), .val (.int nn), .val (.int ii), .val (.int jj), .val (.int ((p4 &&& (2147483647 : Int32)) % nn)), .unset, .unset, .unset, .unset, .unset, .unset]) rfl ?_
  exact kt
theorem own_fD {p : Program} {l : Launch} {e : Env} {R : Room} {s : State} {m : MethodId} {args : Array Value} {below : List Frame} {meth : Method} {c : Code} {T0 : State} {locs : List Loc} {cells slots : Nat} (p1 p2 p3 p4 p5 : Int32) (g1 g2 mo nn ii jj : Int32) (kk : Int32) (X0 : Stand p l e R s m args below meth c T0 locs cells slots) (hx : p.tables.exec = Jvm.exec) (hby : c.code = code) {Z : State} {a0 : Array Value} (hZ : Z.Warmed39 s.vm) (hw : ∀ d ∈ tables_1, d.before a0 Z = true) (hown : s.vm.findClass "com/example/hashwright/hashwright/table/PagedArrayGetPinLaw" = some m.cls) (hv : own_kk mo ii jj p4 nn kk) (hnz : nn ≠ 0) {target : State} (kt : Steps p.tables e below (T0.setTop (mkF m 111 #[.val (.int p1), .val (.int p2), .val (.int p3), .val (.int p4), .val (.int p5), .val (.int g1), .val (.int g2), .val (.int mo), .val (.int nn), .val (.int ii), .val (.int jj), .val (.int kk), .unset, .unset, .unset, .unset, .unset, .unset] [])) target) : Steps p.tables e below (T0.setTop (mkF m 77 #[.val (.int p1), .val (.int p2), .val (.int p3), .val (.int p4), .val (.int p5), .val (.int g1), .val (.int g2), .val (.int mo), .val (.int nn), .val (.int ii), .val (.int jj), .unset, .unset, .unset, .unset, .unset, .unset, .unset] [])) target := by
  rcases hv with ⟨y0, hk⟩ | ⟨y0, y1, hk⟩ | ⟨y0, y1, hk⟩
  · rw [hk] at kt; exact own_fD_0 p1 p2 p3 p4 p5 g1 g2 mo nn ii jj X0 hx hby hZ hw hown y0 kt
  · rw [hk] at kt; exact own_fD_1 p1 p2 p3 p4 p5 g1 g2 mo nn ii jj X0 hx hby hZ hw hown y0 y1 kt
  · rw [hk] at kt; exact own_fD_2 p1 p2 p3 p4 p5 g1 g2 mo nn ii jj X0 hx hby hZ hw hown y0 y1 hnz kt
theorem pd__I_Ljava_lang_Integer_ : parseMethodDescriptor "(I)Ljava/lang/Integer;" = some ⟨[.int], some (.object "java/lang/Integer")⟩ := by decide +kernel
theorem pd__ILjava_lang_Object__V : parseMethodDescriptor "(ILjava/lang/Object;)V" = some ⟨[.int, (.object "java/lang/Object")], none⟩ := by decide +kernel
theorem pd__I_Ljava_lang_Object_ : parseMethodDescriptor "(I)Ljava/lang/Object;" = some ⟨[.int], some (.object "java/lang/Object")⟩ := by decide +kernel
theorem ef_0 (m : MethodId) (x0 : Int32) (x1 : Int32) (x2 : Int32) (x3 : Int32) (x4 : Int32) : entryFrame m #[(.int x0), (.int x1), (.int x2), (.int x3), (.int x4)] maxLocals = mkF m 0 #[.val (.int x0), .val (.int x1), .val (.int x2), .val (.int x3), .val (.int x4), .unset, .unset, .unset, .unset, .unset, .unset, .unset, .unset, .unset, .unset, .unset, .unset, .unset] [] := by first | (simp [entryFrame, mkF, argsToLocals, Value.category, maxLocals]; done) | rfl
def Q_rm0_n1 (Z : State) (p1 p2 p3 p4 p5 : Int32) (g1 g2 nn kk : Int32) (ca b7 b11 b13 : Addr) (kc : ClassId) (CF : Nat → Value) (h0 : Heap) (n0 : Nat) (v : Option Value) (h : Heap) (L : List Loc) : Prop := v = some (.int (1 : Int32)) ∧ Fr n0 L
set_option maxRecDepth 65536 in
set_option maxHeartbeats 40000000 in
theorem rm0_n1 (l : Launch) (Z : State) (a0 : Array Value) (hw : ∀ d ∈ tables_1, d.before a0 Z = true) (ws : List Jvm.Cond) (p1 p2 p3 p4 p5 : Int32) (g1 g2 nn kk : Int32) (ca b7 b11 b13 : Addr) (kc : ClassId) (CF : Nat → Value) (h0 : Heap) (n0 : Nat) (Z0 : n0 ≤ h0.size) (S_high : Sta Z h0 "java/lang/Integer$IntegerCache" "high" "I" (.int (127 : Int32))) (S_cache : Sta Z h0 "java/lang/Integer$IntegerCache" "cache" "[Ljava/lang/Integer;" (.ref ca)) (V_ca : Arv Z h0 ca kc (.object "java/lang/Integer") (256 : Int32) (own_R ((256 : Int32)).toNatClampNeg CF) .null) (EX_b7 : Exa Z h0 b7 "java/lang/Integer") (EX_b11 : Exa Z h0 b11 "java/lang/Integer") (EX_b13 : Exa Z h0 b13 "java/lang/Integer") (hc_q1 : own_fl (p5 &&& (1 : Int32)) g1) (hc_q2 : own_fl (p5 &&& (2 : Int32)) g2) (hc_q3 : own_nn p1 g1 nn) (hc_q4 : nn ≠ 0) (hc_q5 : own_kk (((p5.toUInt32 >>> ((2 : Int32) &&& 31).toUInt32).toInt32) &&& (3 : Int32)) ((p2 &&& (2147483647 : Int32)) % nn) ((p3 &&& (2147483647 : Int32)) % nn) p4 nn kk) (hc_q6 : ¬ (g2 = (0 : Int32))) (hc_q8 : (CF (((11 : Int32) + (128 : Int32))).toNatClampNeg) = (.ref b11)) (hc_q10 : (CF (((13 : Int32) + (128 : Int32))).toNatClampNeg) = (.ref b13)) (hc_q13 : 0 < (nn).toInt) (hc_q14 : (nn).toInt ≤ 196608) (hc_q16 : ¬ ((p2 &&& (2147483647 : Int32)) % nn) < 0 ∧ ((p2 &&& (2147483647 : Int32)) % nn) < nn) (hc_q18 : ¬ ((p3 &&& (2147483647 : Int32)) % nn) < 0 ∧ ((p3 &&& (2147483647 : Int32)) % nn) < nn) (hc_q20 : ¬ kk < 0 ∧ kk < nn) (hc_q21 : (own_up (own_up (fun _ => .null) (((p2 &&& (2147483647 : Int32)) % nn)).toNatClampNeg (.ref b11)) (((p3 &&& (2147483647 : Int32)) % nn)).toNatClampNeg (.ref b13)) (kk).toNatClampNeg = (.ref b13)) (hc_q23 : kk = ((p3 &&& (2147483647 : Int32)) % nn)) :
    MetFree l x (head1 (Jvm.Cond.code x code maxLocals ret :: ws) room_1) (fun a U => a = #[(.int p1), (.int p2), (.int p3), (.int p4), (.int p5)] ∧ Z.Warmed39 U.vm ∧ U.heap = h0) (fun _ _ _ _ _ => True) (fun _ U o U' => ∃ v L, o = .returned v ∧ Q_rm0_n1 Z p1 p2 p3 p4 p5 g1 g2 nn kk ca b7 b11 b13 kc CF h0 n0 v U'.heap L ∧ FrameEnd U o U' L room_1.cells room_1.slots) := by
  refine MetFree.of_bodySF (plainFor_of_name pn_0) hisR ?_
  intro p e s m args below meth c s₁ Bd hml0 hP hK
  obtain ⟨rfl, hZ, hh⟩ := hP
  have hx := Bd.exec
  have hby := Bd.bytes
  have hml : c.maxLocals = 18 := hml0
  have hown : s.vm.findClass "com/example/hashwright/hashwright/table/PagedArrayGetPinLaw" = some m.cls := findClass_of_methodNamed Bd.named
  have hnm := (name_of_methodNamed Bd.named Bd.method).1
  have X0 : Stand p l e room_1 s m #[(.int p1), (.int p2), (.int p3), (.int p4), (.int p5)] below meth c s₁ [] 0 0 := Stand.of_body Bd
  have e0 : s₁.heap = h0 := by rw [← hh, Bd.state]; rfl
  have N0 := Fr.nil n0
  have pre0 : ∀ t, Steps p.tables e below (s₁.setTop (mkF m 0 #[.val (.int p1), .val (.int p2), .val (.int p3), .val (.int p4), .val (.int p5), .unset, .unset, .unset, .unset, .unset, .unset, .unset, .unset, .unset, .unset, .unset, .unset, .unset] [])) t → Steps p.tables e below (s₁.setTop (entryFrame m #[(.int p1), (.int p2), (.int p3), (.int p4), (.int p5)] maxLocals)) t := fun t k => castTop (ef_0 m p1 p2 p3 p4 p5) k
  have K0 : Keep h0 h0 [] := Keep.refl _ _
  obtain ⟨_, _, ⟨T_q7, L_q7, k_q7, n_q7⟩, -, X_q7, ⟨Lc_q7, hQ_q7, l_q7, y_q7, z_q7⟩, st_q7⟩ := Jvm.LawKit.callS X0 hx (y := (⟨"java/lang/Integer", "valueOf", "(I)Ljava/lang/Integer;"⟩ : MethodName)) hown (mvT hZ (own_w hw 2 rfl)) (mvT hZ (own_w hw 3 rfl)) (mvT hZ (own_w hw 4 rfl)) (mvT hZ (own_w hw 5 rfl)) (by decide) (backOf (W := 0) (rmVal l Z a0 hw [] ca b11 kc CF (11 : Int32) h0 n0 (Nat.le_trans Z0 K0.1) S_high S_cache V_ca hc_q8 (by decide) (by decide) (by decide)) hZ (own_w hw 5 rfl) (own_w hw 4 rfl) (by decide) (by decide)) (g := (mkF m 129 #[.val (.int p1), .val (.int p2), .val (.int p3), .val (.int p4), .val (.int p5), .val (.int g1), .val (.int g2), .val (.int (((p5.toUInt32 >>> ((2 : Int32) &&& 31).toUInt32).toInt32) &&& (3 : Int32))), .val (.int nn), .val (.int ((p2 &&& (2147483647 : Int32)) % nn)), .val (.int ((p3 &&& (2147483647 : Int32)) % nn)), .val (.int kk), .val .null, .unset, .unset, .unset, .unset, .unset] [(.int (11 : Int32))])) rfl (by rw [hml]; rfl) (argsL := [(.int (11 : Int32))]) (rest := []) (lenOf pd__I_Ljava_lang_Integer_ rfl) rfl (by show 2 * 0 + _ ≤ _; exact Nat.le_of_eq rfl) (hb hby at_129) (fun _ _ => ⟨rfl, e0, (by decide : 0 + 0 ≤ _), (by decide : 0 + 0 ≤ _)⟩)
  dsimp only [Pt.U, Pt.locs, Pt.cells, Pt.slots] at X_q7 l_q7 y_q7 z_q7 st_q7 hQ_q7
  subst l_q7 y_q7 z_q7
  obtain ⟨rfl, Nq_q7, eq_q7⟩ := hQ_q7
  have Kq_q7 : Keep h0 T_q7.heap [] := by rw [eq_q7]; exact Keep.refl _ _
  have N_q7 := Fr.app N0 Nq_q7
  have S_high__q7 := own_sta_keep S_high Kq_q7 all0
  have S_cache__q7 := own_sta_keep S_cache Kq_q7 all0
  have V_ca__q7 := V_ca.keep Kq_q7 nin0
  have EX_b11__q7 := EX_b11.keep Kq_q7
  have EX_b13__q7 := EX_b13.keep Kq_q7
  have K_q7 : Keep h0 T_q7.heap [] := K0.trans Kq_q7 all0
  obtain ⟨_, _, ⟨T_q9, L_q9, k_q9, n_q9⟩, -, X_q9, ⟨Lc_q9, hQ_q9, l_q9, y_q9, z_q9⟩, st_q9⟩ := Jvm.LawKit.callS X_q7 hx (y := (⟨"java/lang/Integer", "valueOf", "(I)Ljava/lang/Integer;"⟩ : MethodName)) hown (mvT hZ (own_w hw 2 rfl)) (mvT hZ (own_w hw 3 rfl)) (mvT hZ (own_w hw 4 rfl)) (mvT hZ (own_w hw 5 rfl)) (by decide) (backOf (W := 0) (rmVal l Z a0 hw [] ca b13 kc CF (13 : Int32) T_q7.heap n0 (Nat.le_trans Z0 K_q7.1) S_high__q7 S_cache__q7 V_ca__q7 hc_q10 (by decide) (by decide) (by decide)) hZ (own_w hw 5 rfl) (own_w hw 4 rfl) (by decide) (by decide)) (g := (mkF m 136 #[.val (.int p1), .val (.int p2), .val (.int p3), .val (.int p4), .val (.int p5), .val (.int g1), .val (.int g2), .val (.int (((p5.toUInt32 >>> ((2 : Int32) &&& 31).toUInt32).toInt32) &&& (3 : Int32))), .val (.int nn), .val (.int ((p2 &&& (2147483647 : Int32)) % nn)), .val (.int ((p3 &&& (2147483647 : Int32)) % nn)), .val (.int kk), .val .null, .val (.ref b11), .unset, .unset, .unset, .unset] [(.int (13 : Int32))])) rfl (by rw [hml]; rfl) (argsL := [(.int (13 : Int32))]) (rest := []) (lenOf pd__I_Ljava_lang_Integer_ rfl) rfl (by show 2 * 0 + _ ≤ _; exact Nat.le_of_eq rfl) (hb hby at_136) (fun _ _ => ⟨rfl, rfl, (by decide : 0 + 0 ≤ _), (by decide : 0 + 0 ≤ _)⟩)
  dsimp only [Pt.U, Pt.locs, Pt.cells, Pt.slots] at X_q9 l_q9 y_q9 z_q9 st_q9 hQ_q9
  subst l_q9 y_q9 z_q9
  obtain ⟨rfl, Nq_q9, eq_q9⟩ := hQ_q9
  have Kq_q9 : Keep T_q7.heap T_q9.heap [] := by rw [eq_q9]; exact Keep.refl _ _
  have N_q9 := Fr.app N_q7 Nq_q9
  have EX_b11__q9 := EX_b11__q7.keep Kq_q9
  have EX_b13__q9 := EX_b13__q7.keep Kq_q9
  have K_q9 : Keep h0 T_q9.heap [] := K_q7.trans Kq_q9 all0
  obtain ⟨T_q11, h_q11, X_q11, e_q11, E_q11, EX_q11, D_q11, -, st_q11⟩ := newO X_q9 hx hZ hown (own_w hw 9 rfl) (own_w hw 10 rfl) (own_w hw 11 rfl) rfl (g := (mkF m 141 #[.val (.int p1), .val (.int p2), .val (.int p3), .val (.int p4), .val (.int p5), .val (.int g1), .val (.int g2), .val (.int (((p5.toUInt32 >>> ((2 : Int32) &&& 31).toUInt32).toInt32) &&& (3 : Int32))), .val (.int nn), .val (.int ((p2 &&& (2147483647 : Int32)) % nn)), .val (.int ((p3 &&& (2147483647 : Int32)) % nn)), .val (.int kk), .val .null, .val (.ref b11), .val (.ref b13), .unset, .unset, .unset] [])) rfl (hb hby at_141) (by decide) (by decide)
  obtain ⟨b_q11, g_q11⟩ : ∃ z, z = T_q9.heap.size := ⟨_, rfl⟩
  rw [← g_q11] at EX_q11 D_q11 st_q11
  have ge_b_q11 : n0 ≤ b_q11 := Nat.le_trans (Nat.le_trans Z0 K_q9.1) (Nat.le_of_eq g_q11.symm)
  have sz_b_q11 : h0.size ≤ b_q11 := Nat.le_trans K_q9.1 (Nat.le_of_eq g_q11.symm)
  have K_q11 : Keep h0 h_q11 [] := K_q9.ext E_q11
  have EX_b11__q11 := EX_b11__q9.ext E_q11
  have EX_b13__q11 := EX_b13__q9.ext E_q11
  have F_length_b_q11 : Fld Z h_q11 b_q11 "com/example/hashwright/hashwright/table/PagedArray" "length" "I" (.int (0 : Int32)) := D_q11 (Or.inr (own_w hw 19 rfl)) (ty := .int) (by decide)
  have F_elements_b_q11 : Fld Z h_q11 b_q11 "com/example/hashwright/hashwright/table/PagedArray" "elements" "[Ljava/lang/Object;" .null := D_q11 (Or.inr (own_w hw 24 rfl)) (ty := (.array (.object "java/lang/Object"))) (by decide)
  have F_pages_b_q11 : Fld Z h_q11 b_q11 "com/example/hashwright/hashwright/table/PagedArray" "pages" "[[Ljava/lang/Object;" .null := D_q11 (Or.inr (own_w hw 26 rfl)) (ty := (.array (.array (.object "java/lang/Object")))) (by decide)
  have hnb_q12 : n0 ≤ h_q11.size := (Nat.le_trans Z0 K_q11.1)
  have sz0 : h0.size ≤ h_q11.size := K_q11.1
  obtain ⟨_, _, ⟨T_q12, L_q12, k_q12, n_q12⟩, -, X_q12, ⟨Lc_q12, hQ_q12, l_q12, y_q12, z_q12⟩, st_q12⟩ := X_q11.specialBack hx (y := (⟨"com/example/hashwright/hashwright/table/PagedArray", "<init>", "(ILjava/lang/Object;)V"⟩ : MethodName)) rfl hown (mvT hZ (own_w hw 12 rfl)) (mvT hZ (own_w hw 13 rfl)) (mvT hZ (own_w hw 14 rfl)) (by decide) (backOf (W := 1) (rmInin l Z a0 hw [] b_q11 nn h_q11 n0 (Nat.le_trans Z0 K_q11.1) EX_q11 F_length_b_q11 F_elements_b_q11 F_pages_b_q11 ge_b_q11 hc_q13 hc_q14) hZ (own_w hw 14 rfl) (own_w hw 11 rfl) (by decide) (by decide)) (g := (mkF m 149 #[.val (.int p1), .val (.int p2), .val (.int p3), .val (.int p4), .val (.int p5), .val (.int g1), .val (.int g2), .val (.int (((p5.toUInt32 >>> ((2 : Int32) &&& 31).toUInt32).toInt32) &&& (3 : Int32))), .val (.int nn), .val (.int ((p2 &&& (2147483647 : Int32)) % nn)), .val (.int ((p3 &&& (2147483647 : Int32)) % nn)), .val (.int kk), .val .null, .val (.ref b11), .val (.ref b13), .unset, .unset, .unset] [.null, (.int nn), (.ref b_q11), (.ref b_q11)])) rfl (by rw [hml]; rfl) (Steps.refl _) (a := b_q11) (argsL := [(.int nn), .null]) (rest := [(.ref b_q11)]) (lenOf pd__ILjava_lang_Object__V rfl) rfl (by show 2 * 0 + _ ≤ _; exact Nat.le_of_eq rfl) (hb hby at_149) (fun _ _ => ⟨rfl, e_q11, (by decide : 1 + 4 ≤ _), (by decide : 3 + 196611 ≤ _)⟩)
  dsimp only [Pt.U, Pt.locs, Pt.cells, Pt.slots] at X_q12 l_q12 y_q12 z_q12 st_q12 hQ_q12
  subst l_q12 y_q12 z_q12
  obtain ⟨rfl, Nq_q12, Kq_q12, PA_q12⟩ := hQ_q12
  have N_q12 := Fr.app N_q9 Nq_q12
  have EX_b11__q12 := EX_b11__q11.keep Kq_q12
  have EX_b13__q12 := EX_b13__q11.keep Kq_q12
  have EX_q11__q12 := EX_q11.keep Kq_q12
  have K_q12 : Keep h0 T_q12.heap [] := K_q11.trans Kq_q12 (allS (Or.inr sz_b_q11) all0)
  obtain ⟨cq_q15, kq_q15, qa_q15, qb_q15, qc_q15⟩ := isOf hZ rfl EX_q11__q12
  obtain ⟨_, _, ⟨T_q15, L_q15, k_q15, n_q15⟩, -, X_q15, ⟨Lc_q15, hQ_q15, l_q15, y_q15, z_q15⟩, st_q15⟩ := X_q12.virtualBack hx (y := (⟨"com/example/hashwright/hashwright/table/PagedArray", "set", "(ILjava/lang/Object;)V"⟩ : MethodName)) (z := (⟨"com/example/hashwright/hashwright/table/PagedArray", "set", "(ILjava/lang/Object;)V"⟩ : MethodName)) hown (mvT hZ (own_w hw 36 rfl)) (mvT hZ (own_w hw 37 rfl)) (notFace_of_selects (args := #[]) (mvT hZ (own_w hw 39 rfl))) (mvT hZ (own_w hw 39 rfl)) (mvT hZ (own_w hw 38 rfl)) (by decide) (backOf (W := 0) (rmSet l Z a0 hw [] b_q11 b11 nn ((p2 &&& (2147483647 : Int32)) % nn) h_q11.size (fun _ => .null) T_q12.heap n0 (Nat.le_trans Z0 K_q12.1) EX_b11__q12 PA_q12 hnb_q12 hc_q16) hZ (own_w hw 40 rfl) (own_w hw 11 rfl) (by decide) (by decide)) qa_q15 qc_q15 (g := (mkF m 160 #[.val (.int p1), .val (.int p2), .val (.int p3), .val (.int p4), .val (.int p5), .val (.int g1), .val (.int g2), .val (.int (((p5.toUInt32 >>> ((2 : Int32) &&& 31).toUInt32).toInt32) &&& (3 : Int32))), .val (.int nn), .val (.int ((p2 &&& (2147483647 : Int32)) % nn)), .val (.int ((p3 &&& (2147483647 : Int32)) % nn)), .val (.int kk), .val .null, .val (.ref b11), .val (.ref b13), .val (.ref b_q11), .unset, .unset] [(.ref b11), (.int ((p2 &&& (2147483647 : Int32)) % nn)), (.ref b_q11)])) rfl (by rw [hml]; rfl) (Steps.refl _) (argsL := [(.int ((p2 &&& (2147483647 : Int32)) % nn)), (.ref b11)]) (rest := []) (lenOf pd__ILjava_lang_Object__V rfl) rfl (by show 2 * 0 + _ ≤ _; exact Nat.le_of_eq rfl) (hb hby at_160) (fun _ _ => ⟨rfl, rfl, (by decide : 5 + 0 ≤ _), (by decide : 196614 + 0 ≤ _)⟩)
  dsimp only [Pt.U, Pt.locs, Pt.cells, Pt.slots] at X_q15 l_q15 y_q15 z_q15 st_q15 hQ_q15
  subst l_q15 y_q15 z_q15
  obtain ⟨rfl, Nq_q15, W_q15, Kq_q15, hW_q15, PA_q15⟩ := hQ_q15
  have N_q15 := Fr.app N_q12 Nq_q15
  have EX_b13__q15 := EX_b13__q12.keep Kq_q15
  have EX_q11__q15 := EX_q11__q12.keep Kq_q15
  have K_q15 : Keep h0 T_q15.heap [] := K_q12.trans Kq_q15 (fun x hx => Or.inr (Nat.le_trans sz0 (hW_q15 x hx)))
  obtain ⟨cq_q17, kq_q17, qa_q17, qb_q17, qc_q17⟩ := isOf hZ rfl EX_q11__q15
  obtain ⟨_, _, ⟨T_q17, L_q17, k_q17, n_q17⟩, -, X_q17, ⟨Lc_q17, hQ_q17, l_q17, y_q17, z_q17⟩, st_q17⟩ := X_q15.virtualBack hx (y := (⟨"com/example/hashwright/hashwright/table/PagedArray", "set", "(ILjava/lang/Object;)V"⟩ : MethodName)) (z := (⟨"com/example/hashwright/hashwright/table/PagedArray", "set", "(ILjava/lang/Object;)V"⟩ : MethodName)) hown (mvT hZ (own_w hw 36 rfl)) (mvT hZ (own_w hw 37 rfl)) (notFace_of_selects (args := #[]) (mvT hZ (own_w hw 39 rfl))) (mvT hZ (own_w hw 39 rfl)) (mvT hZ (own_w hw 38 rfl)) (by decide) (backOf (W := 0) (rmSet l Z a0 hw [] b_q11 b13 nn ((p3 &&& (2147483647 : Int32)) % nn) h_q11.size (own_up (fun _ => .null) (((p2 &&& (2147483647 : Int32)) % nn)).toNatClampNeg (.ref b11)) T_q15.heap n0 (Nat.le_trans Z0 K_q15.1) EX_b13__q15 PA_q15 hnb_q12 hc_q18) hZ (own_w hw 40 rfl) (own_w hw 11 rfl) (by decide) (by decide)) qa_q17 qc_q17 (g := (mkF m 169 #[.val (.int p1), .val (.int p2), .val (.int p3), .val (.int p4), .val (.int p5), .val (.int g1), .val (.int g2), .val (.int (((p5.toUInt32 >>> ((2 : Int32) &&& 31).toUInt32).toInt32) &&& (3 : Int32))), .val (.int nn), .val (.int ((p2 &&& (2147483647 : Int32)) % nn)), .val (.int ((p3 &&& (2147483647 : Int32)) % nn)), .val (.int kk), .val .null, .val (.ref b11), .val (.ref b13), .val (.ref b_q11), .unset, .unset] [(.ref b13), (.int ((p3 &&& (2147483647 : Int32)) % nn)), (.ref b_q11)])) rfl (by rw [hml]; rfl) (Steps.refl _) (argsL := [(.int ((p3 &&& (2147483647 : Int32)) % nn)), (.ref b13)]) (rest := []) (lenOf pd__ILjava_lang_Object__V rfl) rfl (by show 2 * 0 + _ ≤ _; exact Nat.le_of_eq rfl) (hb hby at_169) (fun _ _ => ⟨rfl, rfl, (by decide : 5 + 0 ≤ _), (by decide : 196614 + 0 ≤ _)⟩)
  dsimp only [Pt.U, Pt.locs, Pt.cells, Pt.slots] at X_q17 l_q17 y_q17 z_q17 st_q17 hQ_q17
  subst l_q17 y_q17 z_q17
  obtain ⟨rfl, Nq_q17, W_q17, Kq_q17, hW_q17, PA_q17⟩ := hQ_q17
  have N_q17 := Fr.app N_q15 Nq_q17
  have EX_b13__q17 := EX_b13__q15.keep Kq_q17
  have EX_q11__q17 := EX_q11__q15.keep Kq_q17
  have K_q17 : Keep h0 T_q17.heap [] := K_q15.trans Kq_q17 (fun x hx => Or.inr (Nat.le_trans sz0 (hW_q17 x hx)))
  obtain ⟨cq_q19, kq_q19, qa_q19, qb_q19, qc_q19⟩ := isOf hZ rfl EX_q11__q17
  obtain ⟨_, _, ⟨T_q19, L_q19, k_q19, n_q19⟩, -, X_q19, ⟨Lc_q19, hQ_q19, l_q19, y_q19, z_q19⟩, st_q19⟩ := X_q17.virtualBack hx (y := (⟨"com/example/hashwright/hashwright/table/PagedArray", "get", "(I)Ljava/lang/Object;"⟩ : MethodName)) (z := (⟨"com/example/hashwright/hashwright/table/PagedArray", "get", "(I)Ljava/lang/Object;"⟩ : MethodName)) hown (mvT hZ (own_w hw 41 rfl)) (mvT hZ (own_w hw 42 rfl)) (notFace_of_selects (args := #[]) (mvT hZ (own_w hw 44 rfl))) (mvT hZ (own_w hw 44 rfl)) (mvT hZ (own_w hw 43 rfl)) (by decide) (backOf (W := 0) (rmGetr l Z a0 hw [] b_q11 nn kk h_q11.size (own_up (own_up (fun _ => .null) (((p2 &&& (2147483647 : Int32)) % nn)).toNatClampNeg (.ref b11)) (((p3 &&& (2147483647 : Int32)) % nn)).toNatClampNeg (.ref b13)) b13 T_q17.heap n0 (Nat.le_trans Z0 K_q17.1) PA_q17 hc_q20 hc_q21) hZ (own_w hw 45 rfl) (own_w hw 11 rfl) (by decide) (by decide)) qa_q19 qc_q19 (g := (mkF m 176 #[.val (.int p1), .val (.int p2), .val (.int p3), .val (.int p4), .val (.int p5), .val (.int g1), .val (.int g2), .val (.int (((p5.toUInt32 >>> ((2 : Int32) &&& 31).toUInt32).toInt32) &&& (3 : Int32))), .val (.int nn), .val (.int ((p2 &&& (2147483647 : Int32)) % nn)), .val (.int ((p3 &&& (2147483647 : Int32)) % nn)), .val (.int kk), .val .null, .val (.ref b11), .val (.ref b13), .val (.ref b_q11), .unset, .unset] [(.int kk), (.ref b_q11)])) rfl (by rw [hml]; rfl) (Steps.refl _) (argsL := [(.int kk)]) (rest := []) (lenOf pd__I_Ljava_lang_Object_ rfl) rfl (by show 2 * 0 + _ ≤ _; exact Nat.le_of_eq rfl) (hb hby at_176) (fun _ _ => ⟨rfl, rfl, (by decide : 5 + 0 ≤ _), (by decide : 196614 + 0 ≤ _)⟩)
  dsimp only [Pt.U, Pt.locs, Pt.cells, Pt.slots] at X_q19 l_q19 y_q19 z_q19 st_q19 hQ_q19
  subst l_q19 y_q19 z_q19
  obtain ⟨rfl, Nq_q19, eq_q19⟩ := hQ_q19
  have Kq_q19 : Keep T_q17.heap T_q19.heap [] := by rw [eq_q19]; exact Keep.refl _ _
  have N_q19 := Fr.app N_q17 Nq_q19
  have EX_b13__q19 := EX_b13__q17.keep Kq_q19
  obtain ⟨T_q22, X_q22, e_q22, st_q22⟩ := castY X_q19 hx hZ hown (own_w hw 46 rfl) rfl (Ins.self EX_b13__q19) (g := (mkF m 179 #[.val (.int p1), .val (.int p2), .val (.int p3), .val (.int p4), .val (.int p5), .val (.int g1), .val (.int g2), .val (.int (((p5.toUInt32 >>> ((2 : Int32) &&& 31).toUInt32).toInt32) &&& (3 : Int32))), .val (.int nn), .val (.int ((p2 &&& (2147483647 : Int32)) % nn)), .val (.int ((p3 &&& (2147483647 : Int32)) % nn)), .val (.int kk), .val .null, .val (.ref b11), .val (.ref b13), .val (.ref b_q11), .unset, .unset] [(.ref b13)])) rfl rfl (hb hby at_179)
  obtain ⟨fs, hr, hrun, hended, hW, hsame⟩ := X_q22.leave (v := some (.int (1 : Int32))) (fun h => by rw [Bd.returns] at h; cases h) Bd.notSynchronized
  refine ⟨_, _, pre0 _ ?_, hrun, hended, _, _, rfl, ?_, ⟨_, rfl⟩, hW, hsame.mono (by decide) (by decide)⟩
  · show Steps p.tables e below (s₁.setTop (mkF m 0 #[.val (.int p1), .val (.int p2), .val (.int p3), .val (.int p4), .val (.int p5), .unset, .unset, .unset, .unset, .unset, .unset, .unset, .unset, .unset, .unset, .unset, .unset, .unset] [])) _
    refine own_fA p1 p2 p3 p4 p5 g1 X0 hx hby hZ hw hown hc_q1 ?_
    show Steps p.tables e below (s₁.setTop (mkF m 14 #[.val (.int p1), .val (.int p2), .val (.int p3), .val (.int p4), .val (.int p5), .val (.int g1), .unset, .unset, .unset, .unset, .unset, .unset, .unset, .unset, .unset, .unset, .unset, .unset] [])) _
    refine own_fB p1 p2 p3 p4 p5 g1 g2 X0 hx hby hZ hw hown hc_q2 ?_
    refine XS.iload X0.here hx rfl (hb hby at_28) rfl ?_
    refine XS.iconst X0.here hx rfl (hb hby at_30) ?_
    refine XS.iushr X0.here hx rfl (hb hby at_31) rfl ?_
    show Steps p.tables e below (s₁.setTop (mkF m 32 #[.val (.int p1), .val (.int p2), .val (.int p3), .val (.int p4), .val (.int p5), .val (.int g1), .val (.int g2), .unset, .unset, .unset, .unset, .unset, .unset, .unset, .unset, .unset, .unset, .unset] [(.int ((p5.toUInt32 >>> ((2 : Int32) &&& 31).toUInt32).toInt32))])) _
    refine XS.iconst X0.here hx rfl (hb hby at_32) ?_
    refine XS.iand X0.here hx rfl (hb hby at_33) rfl ?_
    refine XS.istore X0.here hx rfl (hb hby at_34) rfl (l' := #[.val (.int p1), .val (.int p2), .val (.int p3), .val (.int p4), .val (.int p5), .val (.int g1), .val (.int g2), .val (.int (((p5.toUInt32 >>> ((2 : Int32) &&& 31).toUInt32).toInt32) &&& (3 : Int32))), .unset, .unset, .unset, .unset, .unset, .unset, .unset, .unset, .unset, .unset]) rfl ?_
    show Steps p.tables e below (s₁.setTop (mkF m 36 #[.val (.int p1), .val (.int p2), .val (.int p3), .val (.int p4), .val (.int p5), .val (.int g1), .val (.int g2), .val (.int (((p5.toUInt32 >>> ((2 : Int32) &&& 31).toUInt32).toInt32) &&& (3 : Int32))), .unset, .unset, .unset, .unset, .unset, .unset, .unset, .unset, .unset, .unset] [])) _
    refine own_fC p1 p2 p3 p4 p5 g1 g2 (((p5.toUInt32 >>> ((2 : Int32) &&& 31).toUInt32).toInt32) &&& (3 : Int32)) nn X0 hx hby hZ hw hown hc_q3 ?_
    refine XS.iloadN X0.here hx rfl (hb hby at_59) rfl ?_
    show Steps p.tables e below (s₁.setTop (mkF m 60 #[.val (.int p1), .val (.int p2), .val (.int p3), .val (.int p4), .val (.int p5), .val (.int g1), .val (.int g2), .val (.int (((p5.toUInt32 >>> ((2 : Int32) &&& 31).toUInt32).toInt32) &&& (3 : Int32))), .val (.int nn), .unset, .unset, .unset, .unset, .unset, .unset, .unset, .unset, .unset] [(.int p2)])) _
    refine X0.ldcInt hx hown (mvT hZ (own_w hw 1 rfl)) (g := (mkF m 60 #[.val (.int p1), .val (.int p2), .val (.int p3), .val (.int p4), .val (.int p5), .val (.int g1), .val (.int g2), .val (.int (((p5.toUInt32 >>> ((2 : Int32) &&& 31).toUInt32).toInt32) &&& (3 : Int32))), .val (.int nn), .unset, .unset, .unset, .unset, .unset, .unset, .unset, .unset, .unset] [(.int p2)])) rfl (hb hby at_60) _ ?_
    refine XS.iand X0.here hx rfl (hb hby at_62) rfl ?_
    refine XS.iload X0.here hx rfl (hb hby at_63) rfl ?_
    show Steps p.tables e below (s₁.setTop (mkF m 65 #[.val (.int p1), .val (.int p2), .val (.int p3), .val (.int p4), .val (.int p5), .val (.int g1), .val (.int g2), .val (.int (((p5.toUInt32 >>> ((2 : Int32) &&& 31).toUInt32).toInt32) &&& (3 : Int32))), .val (.int nn), .unset, .unset, .unset, .unset, .unset, .unset, .unset, .unset, .unset] [(.int nn), (.int (p2 &&& (2147483647 : Int32)))])) _
    refine iremM X0 hx rfl (hb hby at_65) rfl hc_q4 ?_
    refine XS.istore X0.here hx rfl (hb hby at_66) rfl (l' := #[.val (.int p1), .val (.int p2), .val (.int p3), .val (.int p4), .val (.int p5), .val (.int g1), .val (.int g2), .val (.int (((p5.toUInt32 >>> ((2 : Int32) &&& 31).toUInt32).toInt32) &&& (3 : Int32))), .val (.int nn), .val (.int ((p2 &&& (2147483647 : Int32)) % nn)), .unset, .unset, .unset, .unset, .unset, .unset, .unset, .unset]) rfl ?_
    refine XS.iloadN X0.here hx rfl (hb hby at_68) rfl ?_
    show Steps p.tables e below (s₁.setTop (mkF m 69 #[.val (.int p1), .val (.int p2), .val (.int p3), .val (.int p4), .val (.int p5), .val (.int g1), .val (.int g2), .val (.int (((p5.toUInt32 >>> ((2 : Int32) &&& 31).toUInt32).toInt32) &&& (3 : Int32))), .val (.int nn), .val (.int ((p2 &&& (2147483647 : Int32)) % nn)), .unset, .unset, .unset, .unset, .unset, .unset, .unset, .unset] [(.int p3)])) _
    refine X0.ldcInt hx hown (mvT hZ (own_w hw 1 rfl)) (g := (mkF m 69 #[.val (.int p1), .val (.int p2), .val (.int p3), .val (.int p4), .val (.int p5), .val (.int g1), .val (.int g2), .val (.int (((p5.toUInt32 >>> ((2 : Int32) &&& 31).toUInt32).toInt32) &&& (3 : Int32))), .val (.int nn), .val (.int ((p2 &&& (2147483647 : Int32)) % nn)), .unset, .unset, .unset, .unset, .unset, .unset, .unset, .unset] [(.int p3)])) rfl (hb hby at_69) _ ?_
    refine XS.iand X0.here hx rfl (hb hby at_71) rfl ?_
    refine XS.iload X0.here hx rfl (hb hby at_72) rfl ?_
    show Steps p.tables e below (s₁.setTop (mkF m 74 #[.val (.int p1), .val (.int p2), .val (.int p3), .val (.int p4), .val (.int p5), .val (.int g1), .val (.int g2), .val (.int (((p5.toUInt32 >>> ((2 : Int32) &&& 31).toUInt32).toInt32) &&& (3 : Int32))), .val (.int nn), .val (.int ((p2 &&& (2147483647 : Int32)) % nn)), .unset, .unset, .unset, .unset, .unset, .unset, .unset, .unset] [(.int nn), (.int (p3 &&& (2147483647 : Int32)))])) _
    refine iremM X0 hx rfl (hb hby at_74) rfl hc_q4 ?_
    refine XS.istore X0.here hx rfl (hb hby at_75) rfl (l' := #[.val (.int p1), .val (.int p2), .val (.int p3), .val (.int p4), .val (.int p5), .val (.int g1), .val (.int g2), .val (.int (((p5.toUInt32 >>> ((2 : Int32) &&& 31).toUInt32).toInt32) &&& (3 : Int32))), .val (.int nn), .val (.int ((p2 &&& (2147483647 : Int32)) % nn)), .val (.int ((p3 &&& (2147483647 : Int32)) % nn)), .unset, .unset, .unset, .unset, .unset, .unset, .unset]) rfl ?_
    show Steps p.tables e below (s₁.setTop (mkF m 77 #[.val (.int p1), .val (.int p2), .val (.int p3), .val (.int p4), .val (.int p5), .val (.int g1), .val (.int g2), .val (.int (((p5.toUInt32 >>> ((2 : Int32) &&& 31).toUInt32).toInt32) &&& (3 : Int32))), .val (.int nn), .val (.int ((p2 &&& (2147483647 : Int32)) % nn)), .val (.int ((p3 &&& (2147483647 : Int32)) % nn)), .unset, .unset, .unset, .unset, .unset, .unset, .unset] [])) _
    refine own_fD p1 p2 p3 p4 p5 g1 g2 (((p5.toUInt32 >>> ((2 : Int32) &&& 31).toUInt32).toInt32) &&& (3 : Int32)) nn ((p2 &&& (2147483647 : Int32)) % nn) ((p3 &&& (2147483647 : Int32)) % nn) kk X0 hx hby hZ hw hown hc_q5 hc_q4 ?_
    refine XS.iload X0.here hx rfl (hb hby at_111) rfl ?_
    refine XS.ifNo X0.here hx rfl (hb hby at_113) rfl ((if0 _ _).trans (feq hc_q6).1) ?_
    refine XS.aconstNull X0.here hx rfl (hb hby at_116) ?_
    show Steps p.tables e below (s₁.setTop (mkF m 117 #[.val (.int p1), .val (.int p2), .val (.int p3), .val (.int p4), .val (.int p5), .val (.int g1), .val (.int g2), .val (.int (((p5.toUInt32 >>> ((2 : Int32) &&& 31).toUInt32).toInt32) &&& (3 : Int32))), .val (.int nn), .val (.int ((p2 &&& (2147483647 : Int32)) % nn)), .val (.int ((p3 &&& (2147483647 : Int32)) % nn)), .val (.int kk), .unset, .unset, .unset, .unset, .unset, .unset] [.null])) _
    refine XS.goto X0.here hx rfl (pc0 := 117) (pc' := 125) rfl (hb hby at_117) (by decide) (by decide) ?_
    refine XS.astore X0.here hx rfl (hb hby at_125) rfl rfl (l' := #[.val (.int p1), .val (.int p2), .val (.int p3), .val (.int p4), .val (.int p5), .val (.int g1), .val (.int g2), .val (.int (((p5.toUInt32 >>> ((2 : Int32) &&& 31).toUInt32).toInt32) &&& (3 : Int32))), .val (.int nn), .val (.int ((p2 &&& (2147483647 : Int32)) % nn)), .val (.int ((p3 &&& (2147483647 : Int32)) % nn)), .val (.int kk), .val .null, .unset, .unset, .unset, .unset, .unset]) rfl ?_
    refine XS.bipush X0.here hx rfl (hb hby at_127) ?_
    show Steps p.tables e below (s₁.setTop (mkF m 129 #[.val (.int p1), .val (.int p2), .val (.int p3), .val (.int p4), .val (.int p5), .val (.int g1), .val (.int g2), .val (.int (((p5.toUInt32 >>> ((2 : Int32) &&& 31).toUInt32).toInt32) &&& (3 : Int32))), .val (.int nn), .val (.int ((p2 &&& (2147483647 : Int32)) % nn)), .val (.int ((p3 &&& (2147483647 : Int32)) % nn)), .val (.int kk), .val .null, .unset, .unset, .unset, .unset, .unset] [(.int (11 : Int32))])) _
    refine st_q7 _ ?_
    refine XS.astore X_q7.here hx rfl (hb hby at_132) rfl rfl (l' := #[.val (.int p1), .val (.int p2), .val (.int p3), .val (.int p4), .val (.int p5), .val (.int g1), .val (.int g2), .val (.int (((p5.toUInt32 >>> ((2 : Int32) &&& 31).toUInt32).toInt32) &&& (3 : Int32))), .val (.int nn), .val (.int ((p2 &&& (2147483647 : Int32)) % nn)), .val (.int ((p3 &&& (2147483647 : Int32)) % nn)), .val (.int kk), .val .null, .val (.ref b11), .unset, .unset, .unset, .unset]) rfl ?_
    refine XS.bipush X_q7.here hx rfl (hb hby at_134) ?_
    show Steps p.tables e below (T_q7.setTop (mkF m 136 #[.val (.int p1), .val (.int p2), .val (.int p3), .val (.int p4), .val (.int p5), .val (.int g1), .val (.int g2), .val (.int (((p5.toUInt32 >>> ((2 : Int32) &&& 31).toUInt32).toInt32) &&& (3 : Int32))), .val (.int nn), .val (.int ((p2 &&& (2147483647 : Int32)) % nn)), .val (.int ((p3 &&& (2147483647 : Int32)) % nn)), .val (.int kk), .val .null, .val (.ref b11), .unset, .unset, .unset, .unset] [(.int (13 : Int32))])) _
    refine st_q9 _ ?_
    refine XS.astore X_q9.here hx rfl (hb hby at_139) rfl rfl (l' := #[.val (.int p1), .val (.int p2), .val (.int p3), .val (.int p4), .val (.int p5), .val (.int g1), .val (.int g2), .val (.int (((p5.toUInt32 >>> ((2 : Int32) &&& 31).toUInt32).toInt32) &&& (3 : Int32))), .val (.int nn), .val (.int ((p2 &&& (2147483647 : Int32)) % nn)), .val (.int ((p3 &&& (2147483647 : Int32)) % nn)), .val (.int kk), .val .null, .val (.ref b11), .val (.ref b13), .unset, .unset, .unset]) rfl ?_
    show Steps p.tables e below (T_q9.setTop (mkF m 141 #[.val (.int p1), .val (.int p2), .val (.int p3), .val (.int p4), .val (.int p5), .val (.int g1), .val (.int g2), .val (.int (((p5.toUInt32 >>> ((2 : Int32) &&& 31).toUInt32).toInt32) &&& (3 : Int32))), .val (.int nn), .val (.int ((p2 &&& (2147483647 : Int32)) % nn)), .val (.int ((p3 &&& (2147483647 : Int32)) % nn)), .val (.int kk), .val .null, .val (.ref b11), .val (.ref b13), .unset, .unset, .unset] [])) _
    refine st_q11 _ ?_
    refine XS.dup X_q11.here hx rfl (hb hby at_144) rfl rfl ?_
    refine XS.iload X_q11.here hx rfl (hb hby at_145) rfl ?_
    refine XS.aload X_q11.here hx rfl (hb hby at_147) rfl rfl ?_
    show Steps p.tables e below (T_q11.setTop (mkF m 149 #[.val (.int p1), .val (.int p2), .val (.int p3), .val (.int p4), .val (.int p5), .val (.int g1), .val (.int g2), .val (.int (((p5.toUInt32 >>> ((2 : Int32) &&& 31).toUInt32).toInt32) &&& (3 : Int32))), .val (.int nn), .val (.int ((p2 &&& (2147483647 : Int32)) % nn)), .val (.int ((p3 &&& (2147483647 : Int32)) % nn)), .val (.int kk), .val .null, .val (.ref b11), .val (.ref b13), .unset, .unset, .unset] [.null, (.int nn), (.ref b_q11), (.ref b_q11)])) _
    refine st_q12.trans ?_
    refine XS.astore X_q12.here hx rfl (hb hby at_152) rfl rfl (l' := #[.val (.int p1), .val (.int p2), .val (.int p3), .val (.int p4), .val (.int p5), .val (.int g1), .val (.int g2), .val (.int (((p5.toUInt32 >>> ((2 : Int32) &&& 31).toUInt32).toInt32) &&& (3 : Int32))), .val (.int nn), .val (.int ((p2 &&& (2147483647 : Int32)) % nn)), .val (.int ((p3 &&& (2147483647 : Int32)) % nn)), .val (.int kk), .val .null, .val (.ref b11), .val (.ref b13), .val (.ref b_q11), .unset, .unset]) rfl ?_
    refine XS.aload X_q12.here hx rfl (hb hby at_154) rfl rfl ?_
    refine XS.iload X_q12.here hx rfl (hb hby at_156) rfl ?_
    show Steps p.tables e below (T_q12.setTop (mkF m 158 #[.val (.int p1), .val (.int p2), .val (.int p3), .val (.int p4), .val (.int p5), .val (.int g1), .val (.int g2), .val (.int (((p5.toUInt32 >>> ((2 : Int32) &&& 31).toUInt32).toInt32) &&& (3 : Int32))), .val (.int nn), .val (.int ((p2 &&& (2147483647 : Int32)) % nn)), .val (.int ((p3 &&& (2147483647 : Int32)) % nn)), .val (.int kk), .val .null, .val (.ref b11), .val (.ref b13), .val (.ref b_q11), .unset, .unset] [(.int ((p2 &&& (2147483647 : Int32)) % nn)), (.ref b_q11)])) _
    refine XS.aload X_q12.here hx rfl (hb hby at_158) rfl rfl ?_
    show Steps p.tables e below (T_q12.setTop (mkF m 160 #[.val (.int p1), .val (.int p2), .val (.int p3), .val (.int p4), .val (.int p5), .val (.int g1), .val (.int g2), .val (.int (((p5.toUInt32 >>> ((2 : Int32) &&& 31).toUInt32).toInt32) &&& (3 : Int32))), .val (.int nn), .val (.int ((p2 &&& (2147483647 : Int32)) % nn)), .val (.int ((p3 &&& (2147483647 : Int32)) % nn)), .val (.int kk), .val .null, .val (.ref b11), .val (.ref b13), .val (.ref b_q11), .unset, .unset] [(.ref b11), (.int ((p2 &&& (2147483647 : Int32)) % nn)), (.ref b_q11)])) _
    refine st_q15.trans ?_
    refine XS.aload X_q15.here hx rfl (hb hby at_163) rfl rfl ?_
    refine XS.iload X_q15.here hx rfl (hb hby at_165) rfl ?_
    refine XS.aload X_q15.here hx rfl (hb hby at_167) rfl rfl ?_
    show Steps p.tables e below (T_q15.setTop (mkF m 169 #[.val (.int p1), .val (.int p2), .val (.int p3), .val (.int p4), .val (.int p5), .val (.int g1), .val (.int g2), .val (.int (((p5.toUInt32 >>> ((2 : Int32) &&& 31).toUInt32).toInt32) &&& (3 : Int32))), .val (.int nn), .val (.int ((p2 &&& (2147483647 : Int32)) % nn)), .val (.int ((p3 &&& (2147483647 : Int32)) % nn)), .val (.int kk), .val .null, .val (.ref b11), .val (.ref b13), .val (.ref b_q11), .unset, .unset] [(.ref b13), (.int ((p3 &&& (2147483647 : Int32)) % nn)), (.ref b_q11)])) _
    refine st_q17.trans ?_
    refine XS.aload X_q17.here hx rfl (hb hby at_172) rfl rfl ?_
    refine XS.iload X_q17.here hx rfl (hb hby at_174) rfl ?_
    show Steps p.tables e below (T_q17.setTop (mkF m 176 #[.val (.int p1), .val (.int p2), .val (.int p3), .val (.int p4), .val (.int p5), .val (.int g1), .val (.int g2), .val (.int (((p5.toUInt32 >>> ((2 : Int32) &&& 31).toUInt32).toInt32) &&& (3 : Int32))), .val (.int nn), .val (.int ((p2 &&& (2147483647 : Int32)) % nn)), .val (.int ((p3 &&& (2147483647 : Int32)) % nn)), .val (.int kk), .val .null, .val (.ref b11), .val (.ref b13), .val (.ref b_q11), .unset, .unset] [(.int kk), (.ref b_q11)])) _
    refine st_q19.trans ?_
    show Steps p.tables e below (T_q19.setTop (mkF m 179 #[.val (.int p1), .val (.int p2), .val (.int p3), .val (.int p4), .val (.int p5), .val (.int g1), .val (.int g2), .val (.int (((p5.toUInt32 >>> ((2 : Int32) &&& 31).toUInt32).toInt32) &&& (3 : Int32))), .val (.int nn), .val (.int ((p2 &&& (2147483647 : Int32)) % nn)), .val (.int ((p3 &&& (2147483647 : Int32)) % nn)), .val (.int kk), .val .null, .val (.ref b11), .val (.ref b13), .val (.ref b_q11), .unset, .unset] [(.ref b13)])) _
    refine st_q22 _ ?_
    refine XS.astore X_q22.here hx rfl (hb hby at_182) rfl rfl (l' := #[.val (.int p1), .val (.int p2), .val (.int p3), .val (.int p4), .val (.int p5), .val (.int g1), .val (.int g2), .val (.int (((p5.toUInt32 >>> ((2 : Int32) &&& 31).toUInt32).toInt32) &&& (3 : Int32))), .val (.int nn), .val (.int ((p2 &&& (2147483647 : Int32)) % nn)), .val (.int ((p3 &&& (2147483647 : Int32)) % nn)), .val (.int kk), .val .null, .val (.ref b11), .val (.ref b13), .val (.ref b_q11), .val (.ref b13), .unset]) rfl ?_
    refine XS.iload X_q22.here hx rfl (hb hby at_184) rfl ?_
    refine XS.iload X_q22.here hx rfl (hb hby at_186) rfl ?_
    show Steps p.tables e below (T_q22.setTop (mkF m 188 #[.val (.int p1), .val (.int p2), .val (.int p3), .val (.int p4), .val (.int p5), .val (.int g1), .val (.int g2), .val (.int (((p5.toUInt32 >>> ((2 : Int32) &&& 31).toUInt32).toInt32) &&& (3 : Int32))), .val (.int nn), .val (.int ((p2 &&& (2147483647 : Int32)) % nn)), .val (.int ((p3 &&& (2147483647 : Int32)) % nn)), .val (.int kk), .val .null, .val (.ref b11), .val (.ref b13), .val (.ref b_q11), .val (.ref b13), .unset] [(.int ((p3 &&& (2147483647 : Int32)) % nn)), (.int kk)])) _
    refine XS.icmpNo X_q22.here hx rfl (hb hby at_188) rfl (teq hc_q23).2 ?_
    refine XS.aload X_q22.here hx rfl (hb hby at_191) rfl rfl ?_
    refine XS.astore X_q22.here hx rfl (hb hby at_193) rfl rfl (l' := #[.val (.int p1), .val (.int p2), .val (.int p3), .val (.int p4), .val (.int p5), .val (.int g1), .val (.int g2), .val (.int (((p5.toUInt32 >>> ((2 : Int32) &&& 31).toUInt32).toInt32) &&& (3 : Int32))), .val (.int nn), .val (.int ((p2 &&& (2147483647 : Int32)) % nn)), .val (.int ((p3 &&& (2147483647 : Int32)) % nn)), .val (.int kk), .val .null, .val (.ref b11), .val (.ref b13), .val (.ref b_q11), .val (.ref b13), .val (.ref b13)]) rfl ?_
    refine XS.goto X_q22.here hx rfl (pc0 := 195) (pc' := 216) rfl (hb hby at_195) (by decide) (by decide) ?_
    show Steps p.tables e below (T_q22.setTop (mkF m 216 #[.val (.int p1), .val (.int p2), .val (.int p3), .val (.int p4), .val (.int p5), .val (.int g1), .val (.int g2), .val (.int (((p5.toUInt32 >>> ((2 : Int32) &&& 31).toUInt32).toInt32) &&& (3 : Int32))), .val (.int nn), .val (.int ((p2 &&& (2147483647 : Int32)) % nn)), .val (.int ((p3 &&& (2147483647 : Int32)) % nn)), .val (.int kk), .val .null, .val (.ref b11), .val (.ref b13), .val (.ref b_q11), .val (.ref b13), .val (.ref b13)] [])) _
    refine XS.aload X_q22.here hx rfl (hb hby at_216) rfl rfl ?_
    refine XS.aload X_q22.here hx rfl (hb hby at_218) rfl rfl ?_
    show Steps p.tables e below (T_q22.setTop (mkF m 220 #[.val (.int p1), .val (.int p2), .val (.int p3), .val (.int p4), .val (.int p5), .val (.int g1), .val (.int g2), .val (.int (((p5.toUInt32 >>> ((2 : Int32) &&& 31).toUInt32).toInt32) &&& (3 : Int32))), .val (.int nn), .val (.int ((p2 &&& (2147483647 : Int32)) % nn)), .val (.int ((p3 &&& (2147483647 : Int32)) % nn)), .val (.int kk), .val .null, .val (.ref b11), .val (.ref b13), .val (.ref b_q11), .val (.ref b13), .val (.ref b13)] [(.ref b13), (.ref b13)])) _
    refine acmp X_q22 hx rfl rfl rfl (pc0 := 220) (pc' := 223) (same := true) rfl (hb hby at_220) rfl (decide_eq_true rfl) (by decide) rfl ?_
    refine XS.iconst X_q22.here hx rfl (hb hby at_223) ?_
    refine XS.goto X_q22.here hx rfl (pc0 := 224) (pc' := 228) rfl (hb hby at_224) (by decide) (by decide) ?_
    show Steps p.tables e below (T_q22.setTop (mkF m 228 #[.val (.int p1), .val (.int p2), .val (.int p3), .val (.int p4), .val (.int p5), .val (.int g1), .val (.int g2), .val (.int (((p5.toUInt32 >>> ((2 : Int32) &&& 31).toUInt32).toInt32) &&& (3 : Int32))), .val (.int nn), .val (.int ((p2 &&& (2147483647 : Int32)) % nn)), .val (.int ((p3 &&& (2147483647 : Int32)) % nn)), .val (.int kk), .val .null, .val (.ref b11), .val (.ref b13), .val (.ref b_q11), .val (.ref b13), .val (.ref b13)] [(.int (1 : Int32))])) _
    exact retN X_q22 hx (t := .boolean) Bd.returns (by simp) (hb hby at_228) hr
  · show Q_rm0_n1 Z p1 p2 p3 p4 p5 g1 g2 nn kk ca b7 b11 b13 kc CF h0 n0 _ T_q22.heap _
    rw [e_q22]
    exact ⟨rfl, N_q19⟩
def Q_rm0_n2 (Z : State) (p1 p2 p3 p4 p5 : Int32) (g1 g2 nn kk : Int32) (ca b7 b11 b13 : Addr) (kc : ClassId) (CF : Nat → Value) (h0 : Heap) (n0 : Nat) (v : Option Value) (h : Heap) (L : List Loc) : Prop := v = some (.int (1 : Int32)) ∧ Fr n0 L
set_option maxRecDepth 65536 in
set_option maxHeartbeats 40000000 in
theorem rm0_n2 (l : Launch) (Z : State) (a0 : Array Value) (hw : ∀ d ∈ tables_1, d.before a0 Z = true) (ws : List Jvm.Cond) (p1 p2 p3 p4 p5 : Int32) (g1 g2 nn kk : Int32) (ca b7 b11 b13 : Addr) (kc : ClassId) (CF : Nat → Value) (h0 : Heap) (n0 : Nat) (Z0 : n0 ≤ h0.size) (S_high : Sta Z h0 "java/lang/Integer$IntegerCache" "high" "I" (.int (127 : Int32))) (S_cache : Sta Z h0 "java/lang/Integer$IntegerCache" "cache" "[Ljava/lang/Integer;" (.ref ca)) (V_ca : Arv Z h0 ca kc (.object "java/lang/Integer") (256 : Int32) (own_R ((256 : Int32)).toNatClampNeg CF) .null) (EX_b7 : Exa Z h0 b7 "java/lang/Integer") (EX_b11 : Exa Z h0 b11 "java/lang/Integer") (EX_b13 : Exa Z h0 b13 "java/lang/Integer") (hc_q1 : own_fl (p5 &&& (1 : Int32)) g1) (hc_q2 : own_fl (p5 &&& (2 : Int32)) g2) (hc_q3 : own_nn p1 g1 nn) (hc_q4 : nn ≠ 0) (hc_q5 : own_kk (((p5.toUInt32 >>> ((2 : Int32) &&& 31).toUInt32).toInt32) &&& (3 : Int32)) ((p2 &&& (2147483647 : Int32)) % nn) ((p3 &&& (2147483647 : Int32)) % nn) p4 nn kk) (hc_q6 : ¬ (g2 = (0 : Int32))) (hc_q8 : (CF (((11 : Int32) + (128 : Int32))).toNatClampNeg) = (.ref b11)) (hc_q10 : (CF (((13 : Int32) + (128 : Int32))).toNatClampNeg) = (.ref b13)) (hc_q13 : 0 < (nn).toInt) (hc_q14 : (nn).toInt ≤ 196608) (hc_q16 : ¬ ((p2 &&& (2147483647 : Int32)) % nn) < 0 ∧ ((p2 &&& (2147483647 : Int32)) % nn) < nn) (hc_q18 : ¬ ((p3 &&& (2147483647 : Int32)) % nn) < 0 ∧ ((p3 &&& (2147483647 : Int32)) % nn) < nn) (hc_q20 : ¬ kk < 0 ∧ kk < nn) (hc_q21 : (own_up (own_up (fun _ => .null) (((p2 &&& (2147483647 : Int32)) % nn)).toNatClampNeg (.ref b11)) (((p3 &&& (2147483647 : Int32)) % nn)).toNatClampNeg (.ref b13)) (kk).toNatClampNeg = (.ref b11)) (hc_q23 : ¬ (kk = ((p3 &&& (2147483647 : Int32)) % nn))) (hc_q24 : kk = ((p2 &&& (2147483647 : Int32)) % nn)) :
    MetFree l x (head1 (Jvm.Cond.code x code maxLocals ret :: ws) room_1) (fun a U => a = #[(.int p1), (.int p2), (.int p3), (.int p4), (.int p5)] ∧ Z.Warmed39 U.vm ∧ U.heap = h0) (fun _ _ _ _ _ => True) (fun _ U o U' => ∃ v L, o = .returned v ∧ Q_rm0_n2 Z p1 p2 p3 p4 p5 g1 g2 nn kk ca b7 b11 b13 kc CF h0 n0 v U'.heap L ∧ FrameEnd U o U' L room_1.cells room_1.slots) := by
  refine MetFree.of_bodySF (plainFor_of_name pn_0) hisR ?_
  intro p e s m args below meth c s₁ Bd hml0 hP hK
  obtain ⟨rfl, hZ, hh⟩ := hP
  have hx := Bd.exec
  have hby := Bd.bytes
  have hml : c.maxLocals = 18 := hml0
  have hown : s.vm.findClass "com/example/hashwright/hashwright/table/PagedArrayGetPinLaw" = some m.cls := findClass_of_methodNamed Bd.named
  have hnm := (name_of_methodNamed Bd.named Bd.method).1
  have X0 : Stand p l e room_1 s m #[(.int p1), (.int p2), (.int p3), (.int p4), (.int p5)] below meth c s₁ [] 0 0 := Stand.of_body Bd
  have e0 : s₁.heap = h0 := by rw [← hh, Bd.state]; rfl
  have N0 := Fr.nil n0
  have pre0 : ∀ t, Steps p.tables e below (s₁.setTop (mkF m 0 #[.val (.int p1), .val (.int p2), .val (.int p3), .val (.int p4), .val (.int p5), .unset, .unset, .unset, .unset, .unset, .unset, .unset, .unset, .unset, .unset, .unset, .unset, .unset] [])) t → Steps p.tables e below (s₁.setTop (entryFrame m #[(.int p1), (.int p2), (.int p3), (.int p4), (.int p5)] maxLocals)) t := fun t k => castTop (ef_0 m p1 p2 p3 p4 p5) k
  have K0 : Keep h0 h0 [] := Keep.refl _ _
  obtain ⟨_, _, ⟨T_q7, L_q7, k_q7, n_q7⟩, -, X_q7, ⟨Lc_q7, hQ_q7, l_q7, y_q7, z_q7⟩, st_q7⟩ := Jvm.LawKit.callS X0 hx (y := (⟨"java/lang/Integer", "valueOf", "(I)Ljava/lang/Integer;"⟩ : MethodName)) hown (mvT hZ (own_w hw 2 rfl)) (mvT hZ (own_w hw 3 rfl)) (mvT hZ (own_w hw 4 rfl)) (mvT hZ (own_w hw 5 rfl)) (by decide) (backOf (W := 0) (rmVal l Z a0 hw [] ca b11 kc CF (11 : Int32) h0 n0 (Nat.le_trans Z0 K0.1) S_high S_cache V_ca hc_q8 (by decide) (by decide) (by decide)) hZ (own_w hw 5 rfl) (own_w hw 4 rfl) (by decide) (by decide)) (g := (mkF m 129 #[.val (.int p1), .val (.int p2), .val (.int p3), .val (.int p4), .val (.int p5), .val (.int g1), .val (.int g2), .val (.int (((p5.toUInt32 >>> ((2 : Int32) &&& 31).toUInt32).toInt32) &&& (3 : Int32))), .val (.int nn), .val (.int ((p2 &&& (2147483647 : Int32)) % nn)), .val (.int ((p3 &&& (2147483647 : Int32)) % nn)), .val (.int kk), .val .null, .unset, .unset, .unset, .unset, .unset] [(.int (11 : Int32))])) rfl (by rw [hml]; rfl) (argsL := [(.int (11 : Int32))]) (rest := []) (lenOf pd__I_Ljava_lang_Integer_ rfl) rfl (by show 2 * 0 + _ ≤ _; exact Nat.le_of_eq rfl) (hb hby at_129) (fun _ _ => ⟨rfl, e0, (by decide : 0 + 0 ≤ _), (by decide : 0 + 0 ≤ _)⟩)
  dsimp only [Pt.U, Pt.locs, Pt.cells, Pt.slots] at X_q7 l_q7 y_q7 z_q7 st_q7 hQ_q7
  subst l_q7 y_q7 z_q7
  obtain ⟨rfl, Nq_q7, eq_q7⟩ := hQ_q7
  have Kq_q7 : Keep h0 T_q7.heap [] := by rw [eq_q7]; exact Keep.refl _ _
  have N_q7 := Fr.app N0 Nq_q7
  have S_high__q7 := own_sta_keep S_high Kq_q7 all0
  have S_cache__q7 := own_sta_keep S_cache Kq_q7 all0
  have V_ca__q7 := V_ca.keep Kq_q7 nin0
  have EX_b11__q7 := EX_b11.keep Kq_q7
  have EX_b13__q7 := EX_b13.keep Kq_q7
  have K_q7 : Keep h0 T_q7.heap [] := K0.trans Kq_q7 all0
  obtain ⟨_, _, ⟨T_q9, L_q9, k_q9, n_q9⟩, -, X_q9, ⟨Lc_q9, hQ_q9, l_q9, y_q9, z_q9⟩, st_q9⟩ := Jvm.LawKit.callS X_q7 hx (y := (⟨"java/lang/Integer", "valueOf", "(I)Ljava/lang/Integer;"⟩ : MethodName)) hown (mvT hZ (own_w hw 2 rfl)) (mvT hZ (own_w hw 3 rfl)) (mvT hZ (own_w hw 4 rfl)) (mvT hZ (own_w hw 5 rfl)) (by decide) (backOf (W := 0) (rmVal l Z a0 hw [] ca b13 kc CF (13 : Int32) T_q7.heap n0 (Nat.le_trans Z0 K_q7.1) S_high__q7 S_cache__q7 V_ca__q7 hc_q10 (by decide) (by decide) (by decide)) hZ (own_w hw 5 rfl) (own_w hw 4 rfl) (by decide) (by decide)) (g := (mkF m 136 #[.val (.int p1), .val (.int p2), .val (.int p3), .val (.int p4), .val (.int p5), .val (.int g1), .val (.int g2), .val (.int (((p5.toUInt32 >>> ((2 : Int32) &&& 31).toUInt32).toInt32) &&& (3 : Int32))), .val (.int nn), .val (.int ((p2 &&& (2147483647 : Int32)) % nn)), .val (.int ((p3 &&& (2147483647 : Int32)) % nn)), .val (.int kk), .val .null, .val (.ref b11), .unset, .unset, .unset, .unset] [(.int (13 : Int32))])) rfl (by rw [hml]; rfl) (argsL := [(.int (13 : Int32))]) (rest := []) (lenOf pd__I_Ljava_lang_Integer_ rfl) rfl (by show 2 * 0 + _ ≤ _; exact Nat.le_of_eq rfl) (hb hby at_136) (fun _ _ => ⟨rfl, rfl, (by decide : 0 + 0 ≤ _), (by decide : 0 + 0 ≤ _)⟩)
  dsimp only [Pt.U, Pt.locs, Pt.cells, Pt.slots] at X_q9 l_q9 y_q9 z_q9 st_q9 hQ_q9
  subst l_q9 y_q9 z_q9
  obtain ⟨rfl, Nq_q9, eq_q9⟩ := hQ_q9
  have Kq_q9 : Keep T_q7.heap T_q9.heap [] := by rw [eq_q9]; exact Keep.refl _ _
  have N_q9 := Fr.app N_q7 Nq_q9
  have EX_b11__q9 := EX_b11__q7.keep Kq_q9
  have EX_b13__q9 := EX_b13__q7.keep Kq_q9
  have K_q9 : Keep h0 T_q9.heap [] := K_q7.trans Kq_q9 all0
  obtain ⟨T_q11, h_q11, X_q11, e_q11, E_q11, EX_q11, D_q11, -, st_q11⟩ := newO X_q9 hx hZ hown (own_w hw 9 rfl) (own_w hw 10 rfl) (own_w hw 11 rfl) rfl (g := (mkF m 141 #[.val (.int p1), .val (.int p2), .val (.int p3), .val (.int p4), .val (.int p5), .val (.int g1), .val (.int g2), .val (.int (((p5.toUInt32 >>> ((2 : Int32) &&& 31).toUInt32).toInt32) &&& (3 : Int32))), .val (.int nn), .val (.int ((p2 &&& (2147483647 : Int32)) % nn)), .val (.int ((p3 &&& (2147483647 : Int32)) % nn)), .val (.int kk), .val .null, .val (.ref b11), .val (.ref b13), .unset, .unset, .unset] [])) rfl (hb hby at_141) (by decide) (by decide)
  obtain ⟨b_q11, g_q11⟩ : ∃ z, z = T_q9.heap.size := ⟨_, rfl⟩
  rw [← g_q11] at EX_q11 D_q11 st_q11
  have ge_b_q11 : n0 ≤ b_q11 := Nat.le_trans (Nat.le_trans Z0 K_q9.1) (Nat.le_of_eq g_q11.symm)
  have sz_b_q11 : h0.size ≤ b_q11 := Nat.le_trans K_q9.1 (Nat.le_of_eq g_q11.symm)
  have K_q11 : Keep h0 h_q11 [] := K_q9.ext E_q11
  have EX_b11__q11 := EX_b11__q9.ext E_q11
  have EX_b13__q11 := EX_b13__q9.ext E_q11
  have F_length_b_q11 : Fld Z h_q11 b_q11 "com/example/hashwright/hashwright/table/PagedArray" "length" "I" (.int (0 : Int32)) := D_q11 (Or.inr (own_w hw 19 rfl)) (ty := .int) (by decide)
  have F_elements_b_q11 : Fld Z h_q11 b_q11 "com/example/hashwright/hashwright/table/PagedArray" "elements" "[Ljava/lang/Object;" .null := D_q11 (Or.inr (own_w hw 24 rfl)) (ty := (.array (.object "java/lang/Object"))) (by decide)
  have F_pages_b_q11 : Fld Z h_q11 b_q11 "com/example/hashwright/hashwright/table/PagedArray" "pages" "[[Ljava/lang/Object;" .null := D_q11 (Or.inr (own_w hw 26 rfl)) (ty := (.array (.array (.object "java/lang/Object")))) (by decide)
  have hnb_q12 : n0 ≤ h_q11.size := (Nat.le_trans Z0 K_q11.1)
  have sz0 : h0.size ≤ h_q11.size := K_q11.1
  obtain ⟨_, _, ⟨T_q12, L_q12, k_q12, n_q12⟩, -, X_q12, ⟨Lc_q12, hQ_q12, l_q12, y_q12, z_q12⟩, st_q12⟩ := X_q11.specialBack hx (y := (⟨"com/example/hashwright/hashwright/table/PagedArray", "<init>", "(ILjava/lang/Object;)V"⟩ : MethodName)) rfl hown (mvT hZ (own_w hw 12 rfl)) (mvT hZ (own_w hw 13 rfl)) (mvT hZ (own_w hw 14 rfl)) (by decide) (backOf (W := 1) (rmInin l Z a0 hw [] b_q11 nn h_q11 n0 (Nat.le_trans Z0 K_q11.1) EX_q11 F_length_b_q11 F_elements_b_q11 F_pages_b_q11 ge_b_q11 hc_q13 hc_q14) hZ (own_w hw 14 rfl) (own_w hw 11 rfl) (by decide) (by decide)) (g := (mkF m 149 #[.val (.int p1), .val (.int p2), .val (.int p3), .val (.int p4), .val (.int p5), .val (.int g1), .val (.int g2), .val (.int (((p5.toUInt32 >>> ((2 : Int32) &&& 31).toUInt32).toInt32) &&& (3 : Int32))), .val (.int nn), .val (.int ((p2 &&& (2147483647 : Int32)) % nn)), .val (.int ((p3 &&& (2147483647 : Int32)) % nn)), .val (.int kk), .val .null, .val (.ref b11), .val (.ref b13), .unset, .unset, .unset] [.null, (.int nn), (.ref b_q11), (.ref b_q11)])) rfl (by rw [hml]; rfl) (Steps.refl _) (a := b_q11) (argsL := [(.int nn), .null]) (rest := [(.ref b_q11)]) (lenOf pd__ILjava_lang_Object__V rfl) rfl (by show 2 * 0 + _ ≤ _; exact Nat.le_of_eq rfl) (hb hby at_149) (fun _ _ => ⟨rfl, e_q11, (by decide : 1 + 4 ≤ _), (by decide : 3 + 196611 ≤ _)⟩)
  dsimp only [Pt.U, Pt.locs, Pt.cells, Pt.slots] at X_q12 l_q12 y_q12 z_q12 st_q12 hQ_q12
  subst l_q12 y_q12 z_q12
  obtain ⟨rfl, Nq_q12, Kq_q12, PA_q12⟩ := hQ_q12
  have N_q12 := Fr.app N_q9 Nq_q12
  have EX_b11__q12 := EX_b11__q11.keep Kq_q12
  have EX_b13__q12 := EX_b13__q11.keep Kq_q12
  have EX_q11__q12 := EX_q11.keep Kq_q12
  have K_q12 : Keep h0 T_q12.heap [] := K_q11.trans Kq_q12 (allS (Or.inr sz_b_q11) all0)
  obtain ⟨cq_q15, kq_q15, qa_q15, qb_q15, qc_q15⟩ := isOf hZ rfl EX_q11__q12
  obtain ⟨_, _, ⟨T_q15, L_q15, k_q15, n_q15⟩, -, X_q15, ⟨Lc_q15, hQ_q15, l_q15, y_q15, z_q15⟩, st_q15⟩ := X_q12.virtualBack hx (y := (⟨"com/example/hashwright/hashwright/table/PagedArray", "set", "(ILjava/lang/Object;)V"⟩ : MethodName)) (z := (⟨"com/example/hashwright/hashwright/table/PagedArray", "set", "(ILjava/lang/Object;)V"⟩ : MethodName)) hown (mvT hZ (own_w hw 36 rfl)) (mvT hZ (own_w hw 37 rfl)) (notFace_of_selects (args := #[]) (mvT hZ (own_w hw 39 rfl))) (mvT hZ (own_w hw 39 rfl)) (mvT hZ (own_w hw 38 rfl)) (by decide) (backOf (W := 0) (rmSet l Z a0 hw [] b_q11 b11 nn ((p2 &&& (2147483647 : Int32)) % nn) h_q11.size (fun _ => .null) T_q12.heap n0 (Nat.le_trans Z0 K_q12.1) EX_b11__q12 PA_q12 hnb_q12 hc_q16) hZ (own_w hw 40 rfl) (own_w hw 11 rfl) (by decide) (by decide)) qa_q15 qc_q15 (g := (mkF m 160 #[.val (.int p1), .val (.int p2), .val (.int p3), .val (.int p4), .val (.int p5), .val (.int g1), .val (.int g2), .val (.int (((p5.toUInt32 >>> ((2 : Int32) &&& 31).toUInt32).toInt32) &&& (3 : Int32))), .val (.int nn), .val (.int ((p2 &&& (2147483647 : Int32)) % nn)), .val (.int ((p3 &&& (2147483647 : Int32)) % nn)), .val (.int kk), .val .null, .val (.ref b11), .val (.ref b13), .val (.ref b_q11), .unset, .unset] [(.ref b11), (.int ((p2 &&& (2147483647 : Int32)) % nn)), (.ref b_q11)])) rfl (by rw [hml]; rfl) (Steps.refl _) (argsL := [(.int ((p2 &&& (2147483647 : Int32)) % nn)), (.ref b11)]) (rest := []) (lenOf pd__ILjava_lang_Object__V rfl) rfl (by show 2 * 0 + _ ≤ _; exact Nat.le_of_eq rfl) (hb hby at_160) (fun _ _ => ⟨rfl, rfl, (by decide : 5 + 0 ≤ _), (by decide : 196614 + 0 ≤ _)⟩)
  dsimp only [Pt.U, Pt.locs, Pt.cells, Pt.slots] at X_q15 l_q15 y_q15 z_q15 st_q15 hQ_q15
  subst l_q15 y_q15 z_q15
  obtain ⟨rfl, Nq_q15, W_q15, Kq_q15, hW_q15, PA_q15⟩ := hQ_q15
  have N_q15 := Fr.app N_q12 Nq_q15
  have EX_b11__q15 := EX_b11__q12.keep Kq_q15
  have EX_b13__q15 := EX_b13__q12.keep Kq_q15
  have EX_q11__q15 := EX_q11__q12.keep Kq_q15
  have K_q15 : Keep h0 T_q15.heap [] := K_q12.trans Kq_q15 (fun x hx => Or.inr (Nat.le_trans sz0 (hW_q15 x hx)))
  obtain ⟨cq_q17, kq_q17, qa_q17, qb_q17, qc_q17⟩ := isOf hZ rfl EX_q11__q15
  obtain ⟨_, _, ⟨T_q17, L_q17, k_q17, n_q17⟩, -, X_q17, ⟨Lc_q17, hQ_q17, l_q17, y_q17, z_q17⟩, st_q17⟩ := X_q15.virtualBack hx (y := (⟨"com/example/hashwright/hashwright/table/PagedArray", "set", "(ILjava/lang/Object;)V"⟩ : MethodName)) (z := (⟨"com/example/hashwright/hashwright/table/PagedArray", "set", "(ILjava/lang/Object;)V"⟩ : MethodName)) hown (mvT hZ (own_w hw 36 rfl)) (mvT hZ (own_w hw 37 rfl)) (notFace_of_selects (args := #[]) (mvT hZ (own_w hw 39 rfl))) (mvT hZ (own_w hw 39 rfl)) (mvT hZ (own_w hw 38 rfl)) (by decide) (backOf (W := 0) (rmSet l Z a0 hw [] b_q11 b13 nn ((p3 &&& (2147483647 : Int32)) % nn) h_q11.size (own_up (fun _ => .null) (((p2 &&& (2147483647 : Int32)) % nn)).toNatClampNeg (.ref b11)) T_q15.heap n0 (Nat.le_trans Z0 K_q15.1) EX_b13__q15 PA_q15 hnb_q12 hc_q18) hZ (own_w hw 40 rfl) (own_w hw 11 rfl) (by decide) (by decide)) qa_q17 qc_q17 (g := (mkF m 169 #[.val (.int p1), .val (.int p2), .val (.int p3), .val (.int p4), .val (.int p5), .val (.int g1), .val (.int g2), .val (.int (((p5.toUInt32 >>> ((2 : Int32) &&& 31).toUInt32).toInt32) &&& (3 : Int32))), .val (.int nn), .val (.int ((p2 &&& (2147483647 : Int32)) % nn)), .val (.int ((p3 &&& (2147483647 : Int32)) % nn)), .val (.int kk), .val .null, .val (.ref b11), .val (.ref b13), .val (.ref b_q11), .unset, .unset] [(.ref b13), (.int ((p3 &&& (2147483647 : Int32)) % nn)), (.ref b_q11)])) rfl (by rw [hml]; rfl) (Steps.refl _) (argsL := [(.int ((p3 &&& (2147483647 : Int32)) % nn)), (.ref b13)]) (rest := []) (lenOf pd__ILjava_lang_Object__V rfl) rfl (by show 2 * 0 + _ ≤ _; exact Nat.le_of_eq rfl) (hb hby at_169) (fun _ _ => ⟨rfl, rfl, (by decide : 5 + 0 ≤ _), (by decide : 196614 + 0 ≤ _)⟩)
  dsimp only [Pt.U, Pt.locs, Pt.cells, Pt.slots] at X_q17 l_q17 y_q17 z_q17 st_q17 hQ_q17
  subst l_q17 y_q17 z_q17
  obtain ⟨rfl, Nq_q17, W_q17, Kq_q17, hW_q17, PA_q17⟩ := hQ_q17
  have N_q17 := Fr.app N_q15 Nq_q17
  have EX_b11__q17 := EX_b11__q15.keep Kq_q17
  have EX_q11__q17 := EX_q11__q15.keep Kq_q17
  have K_q17 : Keep h0 T_q17.heap [] := K_q15.trans Kq_q17 (fun x hx => Or.inr (Nat.le_trans sz0 (hW_q17 x hx)))
  obtain ⟨cq_q19, kq_q19, qa_q19, qb_q19, qc_q19⟩ := isOf hZ rfl EX_q11__q17
  obtain ⟨_, _, ⟨T_q19, L_q19, k_q19, n_q19⟩, -, X_q19, ⟨Lc_q19, hQ_q19, l_q19, y_q19, z_q19⟩, st_q19⟩ := X_q17.virtualBack hx (y := (⟨"com/example/hashwright/hashwright/table/PagedArray", "get", "(I)Ljava/lang/Object;"⟩ : MethodName)) (z := (⟨"com/example/hashwright/hashwright/table/PagedArray", "get", "(I)Ljava/lang/Object;"⟩ : MethodName)) hown (mvT hZ (own_w hw 41 rfl)) (mvT hZ (own_w hw 42 rfl)) (notFace_of_selects (args := #[]) (mvT hZ (own_w hw 44 rfl))) (mvT hZ (own_w hw 44 rfl)) (mvT hZ (own_w hw 43 rfl)) (by decide) (backOf (W := 0) (rmGetr l Z a0 hw [] b_q11 nn kk h_q11.size (own_up (own_up (fun _ => .null) (((p2 &&& (2147483647 : Int32)) % nn)).toNatClampNeg (.ref b11)) (((p3 &&& (2147483647 : Int32)) % nn)).toNatClampNeg (.ref b13)) b11 T_q17.heap n0 (Nat.le_trans Z0 K_q17.1) PA_q17 hc_q20 hc_q21) hZ (own_w hw 45 rfl) (own_w hw 11 rfl) (by decide) (by decide)) qa_q19 qc_q19 (g := (mkF m 176 #[.val (.int p1), .val (.int p2), .val (.int p3), .val (.int p4), .val (.int p5), .val (.int g1), .val (.int g2), .val (.int (((p5.toUInt32 >>> ((2 : Int32) &&& 31).toUInt32).toInt32) &&& (3 : Int32))), .val (.int nn), .val (.int ((p2 &&& (2147483647 : Int32)) % nn)), .val (.int ((p3 &&& (2147483647 : Int32)) % nn)), .val (.int kk), .val .null, .val (.ref b11), .val (.ref b13), .val (.ref b_q11), .unset, .unset] [(.int kk), (.ref b_q11)])) rfl (by rw [hml]; rfl) (Steps.refl _) (argsL := [(.int kk)]) (rest := []) (lenOf pd__I_Ljava_lang_Object_ rfl) rfl (by show 2 * 0 + _ ≤ _; exact Nat.le_of_eq rfl) (hb hby at_176) (fun _ _ => ⟨rfl, rfl, (by decide : 5 + 0 ≤ _), (by decide : 196614 + 0 ≤ _)⟩)
  dsimp only [Pt.U, Pt.locs, Pt.cells, Pt.slots] at X_q19 l_q19 y_q19 z_q19 st_q19 hQ_q19
  subst l_q19 y_q19 z_q19
  obtain ⟨rfl, Nq_q19, eq_q19⟩ := hQ_q19
  have Kq_q19 : Keep T_q17.heap T_q19.heap [] := by rw [eq_q19]; exact Keep.refl _ _
  have N_q19 := Fr.app N_q17 Nq_q19
  have EX_b11__q19 := EX_b11__q17.keep Kq_q19
  obtain ⟨T_q22, X_q22, e_q22, st_q22⟩ := castY X_q19 hx hZ hown (own_w hw 46 rfl) rfl (Ins.self EX_b11__q19) (g := (mkF m 179 #[.val (.int p1), .val (.int p2), .val (.int p3), .val (.int p4), .val (.int p5), .val (.int g1), .val (.int g2), .val (.int (((p5.toUInt32 >>> ((2 : Int32) &&& 31).toUInt32).toInt32) &&& (3 : Int32))), .val (.int nn), .val (.int ((p2 &&& (2147483647 : Int32)) % nn)), .val (.int ((p3 &&& (2147483647 : Int32)) % nn)), .val (.int kk), .val .null, .val (.ref b11), .val (.ref b13), .val (.ref b_q11), .unset, .unset] [(.ref b11)])) rfl rfl (hb hby at_179)
  obtain ⟨fs, hr, hrun, hended, hW, hsame⟩ := X_q22.leave (v := some (.int (1 : Int32))) (fun h => by rw [Bd.returns] at h; cases h) Bd.notSynchronized
  refine ⟨_, _, pre0 _ ?_, hrun, hended, _, _, rfl, ?_, ⟨_, rfl⟩, hW, hsame.mono (by decide) (by decide)⟩
  · show Steps p.tables e below (s₁.setTop (mkF m 0 #[.val (.int p1), .val (.int p2), .val (.int p3), .val (.int p4), .val (.int p5), .unset, .unset, .unset, .unset, .unset, .unset, .unset, .unset, .unset, .unset, .unset, .unset, .unset] [])) _
    refine own_fA p1 p2 p3 p4 p5 g1 X0 hx hby hZ hw hown hc_q1 ?_
    show Steps p.tables e below (s₁.setTop (mkF m 14 #[.val (.int p1), .val (.int p2), .val (.int p3), .val (.int p4), .val (.int p5), .val (.int g1), .unset, .unset, .unset, .unset, .unset, .unset, .unset, .unset, .unset, .unset, .unset, .unset] [])) _
    refine own_fB p1 p2 p3 p4 p5 g1 g2 X0 hx hby hZ hw hown hc_q2 ?_
    refine XS.iload X0.here hx rfl (hb hby at_28) rfl ?_
    refine XS.iconst X0.here hx rfl (hb hby at_30) ?_
    refine XS.iushr X0.here hx rfl (hb hby at_31) rfl ?_
    show Steps p.tables e below (s₁.setTop (mkF m 32 #[.val (.int p1), .val (.int p2), .val (.int p3), .val (.int p4), .val (.int p5), .val (.int g1), .val (.int g2), .unset, .unset, .unset, .unset, .unset, .unset, .unset, .unset, .unset, .unset, .unset] [(.int ((p5.toUInt32 >>> ((2 : Int32) &&& 31).toUInt32).toInt32))])) _
    refine XS.iconst X0.here hx rfl (hb hby at_32) ?_
    refine XS.iand X0.here hx rfl (hb hby at_33) rfl ?_
    refine XS.istore X0.here hx rfl (hb hby at_34) rfl (l' := #[.val (.int p1), .val (.int p2), .val (.int p3), .val (.int p4), .val (.int p5), .val (.int g1), .val (.int g2), .val (.int (((p5.toUInt32 >>> ((2 : Int32) &&& 31).toUInt32).toInt32) &&& (3 : Int32))), .unset, .unset, .unset, .unset, .unset, .unset, .unset, .unset, .unset, .unset]) rfl ?_
    show Steps p.tables e below (s₁.setTop (mkF m 36 #[.val (.int p1), .val (.int p2), .val (.int p3), .val (.int p4), .val (.int p5), .val (.int g1), .val (.int g2), .val (.int (((p5.toUInt32 >>> ((2 : Int32) &&& 31).toUInt32).toInt32) &&& (3 : Int32))), .unset, .unset, .unset, .unset, .unset, .unset, .unset, .unset, .unset, .unset] [])) _
    refine own_fC p1 p2 p3 p4 p5 g1 g2 (((p5.toUInt32 >>> ((2 : Int32) &&& 31).toUInt32).toInt32) &&& (3 : Int32)) nn X0 hx hby hZ hw hown hc_q3 ?_
    refine XS.iloadN X0.here hx rfl (hb hby at_59) rfl ?_
    show Steps p.tables e below (s₁.setTop (mkF m 60 #[.val (.int p1), .val (.int p2), .val (.int p3), .val (.int p4), .val (.int p5), .val (.int g1), .val (.int g2), .val (.int (((p5.toUInt32 >>> ((2 : Int32) &&& 31).toUInt32).toInt32) &&& (3 : Int32))), .val (.int nn), .unset, .unset, .unset, .unset, .unset, .unset, .unset, .unset, .unset] [(.int p2)])) _
    refine X0.ldcInt hx hown (mvT hZ (own_w hw 1 rfl)) (g := (mkF m 60 #[.val (.int p1), .val (.int p2), .val (.int p3), .val (.int p4), .val (.int p5), .val (.int g1), .val (.int g2), .val (.int (((p5.toUInt32 >>> ((2 : Int32) &&& 31).toUInt32).toInt32) &&& (3 : Int32))), .val (.int nn), .unset, .unset, .unset, .unset, .unset, .unset, .unset, .unset, .unset] [(.int p2)])) rfl (hb hby at_60) _ ?_
    refine XS.iand X0.here hx rfl (hb hby at_62) rfl ?_
    refine XS.iload X0.here hx rfl (hb hby at_63) rfl ?_
    show Steps p.tables e below (s₁.setTop (mkF m 65 #[.val (.int p1), .val (.int p2), .val (.int p3), .val (.int p4), .val (.int p5), .val (.int g1), .val (.int g2), .val (.int (((p5.toUInt32 >>> ((2 : Int32) &&& 31).toUInt32).toInt32) &&& (3 : Int32))), .val (.int nn), .unset, .unset, .unset, .unset, .unset, .unset, .unset, .unset, .unset] [(.int nn), (.int (p2 &&& (2147483647 : Int32)))])) _
    refine iremM X0 hx rfl (hb hby at_65) rfl hc_q4 ?_
    refine XS.istore X0.here hx rfl (hb hby at_66) rfl (l' := #[.val (.int p1), .val (.int p2), .val (.int p3), .val (.int p4), .val (.int p5), .val (.int g1), .val (.int g2), .val (.int (((p5.toUInt32 >>> ((2 : Int32) &&& 31).toUInt32).toInt32) &&& (3 : Int32))), .val (.int nn), .val (.int ((p2 &&& (2147483647 : Int32)) % nn)), .unset, .unset, .unset, .unset, .unset, .unset, .unset, .unset]) rfl ?_
    refine XS.iloadN X0.here hx rfl (hb hby at_68) rfl ?_
    show Steps p.tables e below (s₁.setTop (mkF m 69 #[.val (.int p1), .val (.int p2), .val (.int p3), .val (.int p4), .val (.int p5), .val (.int g1), .val (.int g2), .val (.int (((p5.toUInt32 >>> ((2 : Int32) &&& 31).toUInt32).toInt32) &&& (3 : Int32))), .val (.int nn), .val (.int ((p2 &&& (2147483647 : Int32)) % nn)), .unset, .unset, .unset, .unset, .unset, .unset, .unset, .unset] [(.int p3)])) _
    refine X0.ldcInt hx hown (mvT hZ (own_w hw 1 rfl)) (g := (mkF m 69 #[.val (.int p1), .val (.int p2), .val (.int p3), .val (.int p4), .val (.int p5), .val (.int g1), .val (.int g2), .val (.int (((p5.toUInt32 >>> ((2 : Int32) &&& 31).toUInt32).toInt32) &&& (3 : Int32))), .val (.int nn), .val (.int ((p2 &&& (2147483647 : Int32)) % nn)), .unset, .unset, .unset, .unset, .unset, .unset, .unset, .unset] [(.int p3)])) rfl (hb hby at_69) _ ?_
    refine XS.iand X0.here hx rfl (hb hby at_71) rfl ?_
    refine XS.iload X0.here hx rfl (hb hby at_72) rfl ?_
    show Steps p.tables e below (s₁.setTop (mkF m 74 #[.val (.int p1), .val (.int p2), .val (.int p3), .val (.int p4), .val (.int p5), .val (.int g1), .val (.int g2), .val (.int (((p5.toUInt32 >>> ((2 : Int32) &&& 31).toUInt32).toInt32) &&& (3 : Int32))), .val (.int nn), .val (.int ((p2 &&& (2147483647 : Int32)) % nn)), .unset, .unset, .unset, .unset, .unset, .unset, .unset, .unset] [(.int nn), (.int (p3 &&& (2147483647 : Int32)))])) _
    refine iremM X0 hx rfl (hb hby at_74) rfl hc_q4 ?_
    refine XS.istore X0.here hx rfl (hb hby at_75) rfl (l' := #[.val (.int p1), .val (.int p2), .val (.int p3), .val (.int p4), .val (.int p5), .val (.int g1), .val (.int g2), .val (.int (((p5.toUInt32 >>> ((2 : Int32) &&& 31).toUInt32).toInt32) &&& (3 : Int32))), .val (.int nn), .val (.int ((p2 &&& (2147483647 : Int32)) % nn)), .val (.int ((p3 &&& (2147483647 : Int32)) % nn)), .unset, .unset, .unset, .unset, .unset, .unset, .unset]) rfl ?_
    show Steps p.tables e below (s₁.setTop (mkF m 77 #[.val (.int p1), .val (.int p2), .val (.int p3), .val (.int p4), .val (.int p5), .val (.int g1), .val (.int g2), .val (.int (((p5.toUInt32 >>> ((2 : Int32) &&& 31).toUInt32).toInt32) &&& (3 : Int32))), .val (.int nn), .val (.int ((p2 &&& (2147483647 : Int32)) % nn)), .val (.int ((p3 &&& (2147483647 : Int32)) % nn)), .unset, .unset, .unset, .unset, .unset, .unset, .unset] [])) _
    refine own_fD p1 p2 p3 p4 p5 g1 g2 (((p5.toUInt32 >>> ((2 : Int32) &&& 31).toUInt32).toInt32) &&& (3 : Int32)) nn ((p2 &&& (2147483647 : Int32)) % nn) ((p3 &&& (2147483647 : Int32)) % nn) kk X0 hx hby hZ hw hown hc_q5 hc_q4 ?_
    refine XS.iload X0.here hx rfl (hb hby at_111) rfl ?_
    refine XS.ifNo X0.here hx rfl (hb hby at_113) rfl ((if0 _ _).trans (feq hc_q6).1) ?_
    refine XS.aconstNull X0.here hx rfl (hb hby at_116) ?_
    show Steps p.tables e below (s₁.setTop (mkF m 117 #[.val (.int p1), .val (.int p2), .val (.int p3), .val (.int p4), .val (.int p5), .val (.int g1), .val (.int g2), .val (.int (((p5.toUInt32 >>> ((2 : Int32) &&& 31).toUInt32).toInt32) &&& (3 : Int32))), .val (.int nn), .val (.int ((p2 &&& (2147483647 : Int32)) % nn)), .val (.int ((p3 &&& (2147483647 : Int32)) % nn)), .val (.int kk), .unset, .unset, .unset, .unset, .unset, .unset] [.null])) _
    refine XS.goto X0.here hx rfl (pc0 := 117) (pc' := 125) rfl (hb hby at_117) (by decide) (by decide) ?_
    refine XS.astore X0.here hx rfl (hb hby at_125) rfl rfl (l' := #[.val (.int p1), .val (.int p2), .val (.int p3), .val (.int p4), .val (.int p5), .val (.int g1), .val (.int g2), .val (.int (((p5.toUInt32 >>> ((2 : Int32) &&& 31).toUInt32).toInt32) &&& (3 : Int32))), .val (.int nn), .val (.int ((p2 &&& (2147483647 : Int32)) % nn)), .val (.int ((p3 &&& (2147483647 : Int32)) % nn)), .val (.int kk), .val .null, .unset, .unset, .unset, .unset, .unset]) rfl ?_
    refine XS.bipush X0.here hx rfl (hb hby at_127) ?_
    show Steps p.tables e below (s₁.setTop (mkF m 129 #[.val (.int p1), .val (.int p2), .val (.int p3), .val (.int p4), .val (.int p5), .val (.int g1), .val (.int g2), .val (.int (((p5.toUInt32 >>> ((2 : Int32) &&& 31).toUInt32).toInt32) &&& (3 : Int32))), .val (.int nn), .val (.int ((p2 &&& (2147483647 : Int32)) % nn)), .val (.int ((p3 &&& (2147483647 : Int32)) % nn)), .val (.int kk), .val .null, .unset, .unset, .unset, .unset, .unset] [(.int (11 : Int32))])) _
    refine st_q7 _ ?_
    refine XS.astore X_q7.here hx rfl (hb hby at_132) rfl rfl (l' := #[.val (.int p1), .val (.int p2), .val (.int p3), .val (.int p4), .val (.int p5), .val (.int g1), .val (.int g2), .val (.int (((p5.toUInt32 >>> ((2 : Int32) &&& 31).toUInt32).toInt32) &&& (3 : Int32))), .val (.int nn), .val (.int ((p2 &&& (2147483647 : Int32)) % nn)), .val (.int ((p3 &&& (2147483647 : Int32)) % nn)), .val (.int kk), .val .null, .val (.ref b11), .unset, .unset, .unset, .unset]) rfl ?_
    refine XS.bipush X_q7.here hx rfl (hb hby at_134) ?_
    show Steps p.tables e below (T_q7.setTop (mkF m 136 #[.val (.int p1), .val (.int p2), .val (.int p3), .val (.int p4), .val (.int p5), .val (.int g1), .val (.int g2), .val (.int (((p5.toUInt32 >>> ((2 : Int32) &&& 31).toUInt32).toInt32) &&& (3 : Int32))), .val (.int nn), .val (.int ((p2 &&& (2147483647 : Int32)) % nn)), .val (.int ((p3 &&& (2147483647 : Int32)) % nn)), .val (.int kk), .val .null, .val (.ref b11), .unset, .unset, .unset, .unset] [(.int (13 : Int32))])) _
    refine st_q9 _ ?_
    refine XS.astore X_q9.here hx rfl (hb hby at_139) rfl rfl (l' := #[.val (.int p1), .val (.int p2), .val (.int p3), .val (.int p4), .val (.int p5), .val (.int g1), .val (.int g2), .val (.int (((p5.toUInt32 >>> ((2 : Int32) &&& 31).toUInt32).toInt32) &&& (3 : Int32))), .val (.int nn), .val (.int ((p2 &&& (2147483647 : Int32)) % nn)), .val (.int ((p3 &&& (2147483647 : Int32)) % nn)), .val (.int kk), .val .null, .val (.ref b11), .val (.ref b13), .unset, .unset, .unset]) rfl ?_
    show Steps p.tables e below (T_q9.setTop (mkF m 141 #[.val (.int p1), .val (.int p2), .val (.int p3), .val (.int p4), .val (.int p5), .val (.int g1), .val (.int g2), .val (.int (((p5.toUInt32 >>> ((2 : Int32) &&& 31).toUInt32).toInt32) &&& (3 : Int32))), .val (.int nn), .val (.int ((p2 &&& (2147483647 : Int32)) % nn)), .val (.int ((p3 &&& (2147483647 : Int32)) % nn)), .val (.int kk), .val .null, .val (.ref b11), .val (.ref b13), .unset, .unset, .unset] [])) _
    refine st_q11 _ ?_
    refine XS.dup X_q11.here hx rfl (hb hby at_144) rfl rfl ?_
    refine XS.iload X_q11.here hx rfl (hb hby at_145) rfl ?_
    refine XS.aload X_q11.here hx rfl (hb hby at_147) rfl rfl ?_
    show Steps p.tables e below (T_q11.setTop (mkF m 149 #[.val (.int p1), .val (.int p2), .val (.int p3), .val (.int p4), .val (.int p5), .val (.int g1), .val (.int g2), .val (.int (((p5.toUInt32 >>> ((2 : Int32) &&& 31).toUInt32).toInt32) &&& (3 : Int32))), .val (.int nn), .val (.int ((p2 &&& (2147483647 : Int32)) % nn)), .val (.int ((p3 &&& (2147483647 : Int32)) % nn)), .val (.int kk), .val .null, .val (.ref b11), .val (.ref b13), .unset, .unset, .unset] [.null, (.int nn), (.ref b_q11), (.ref b_q11)])) _
    refine st_q12.trans ?_
    refine XS.astore X_q12.here hx rfl (hb hby at_152) rfl rfl (l' := #[.val (.int p1), .val (.int p2), .val (.int p3), .val (.int p4), .val (.int p5), .val (.int g1), .val (.int g2), .val (.int (((p5.toUInt32 >>> ((2 : Int32) &&& 31).toUInt32).toInt32) &&& (3 : Int32))), .val (.int nn), .val (.int ((p2 &&& (2147483647 : Int32)) % nn)), .val (.int ((p3 &&& (2147483647 : Int32)) % nn)), .val (.int kk), .val .null, .val (.ref b11), .val (.ref b13), .val (.ref b_q11), .unset, .unset]) rfl ?_
    refine XS.aload X_q12.here hx rfl (hb hby at_154) rfl rfl ?_
    refine XS.iload X_q12.here hx rfl (hb hby at_156) rfl ?_
    show Steps p.tables e below (T_q12.setTop (mkF m 158 #[.val (.int p1), .val (.int p2), .val (.int p3), .val (.int p4), .val (.int p5), .val (.int g1), .val (.int g2), .val (.int (((p5.toUInt32 >>> ((2 : Int32) &&& 31).toUInt32).toInt32) &&& (3 : Int32))), .val (.int nn), .val (.int ((p2 &&& (2147483647 : Int32)) % nn)), .val (.int ((p3 &&& (2147483647 : Int32)) % nn)), .val (.int kk), .val .null, .val (.ref b11), .val (.ref b13), .val (.ref b_q11), .unset, .unset] [(.int ((p2 &&& (2147483647 : Int32)) % nn)), (.ref b_q11)])) _
    refine XS.aload X_q12.here hx rfl (hb hby at_158) rfl rfl ?_
    show Steps p.tables e below (T_q12.setTop (mkF m 160 #[.val (.int p1), .val (.int p2), .val (.int p3), .val (.int p4), .val (.int p5), .val (.int g1), .val (.int g2), .val (.int (((p5.toUInt32 >>> ((2 : Int32) &&& 31).toUInt32).toInt32) &&& (3 : Int32))), .val (.int nn), .val (.int ((p2 &&& (2147483647 : Int32)) % nn)), .val (.int ((p3 &&& (2147483647 : Int32)) % nn)), .val (.int kk), .val .null, .val (.ref b11), .val (.ref b13), .val (.ref b_q11), .unset, .unset] [(.ref b11), (.int ((p2 &&& (2147483647 : Int32)) % nn)), (.ref b_q11)])) _
    refine st_q15.trans ?_
    refine XS.aload X_q15.here hx rfl (hb hby at_163) rfl rfl ?_
    refine XS.iload X_q15.here hx rfl (hb hby at_165) rfl ?_
    refine XS.aload X_q15.here hx rfl (hb hby at_167) rfl rfl ?_
    show Steps p.tables e below (T_q15.setTop (mkF m 169 #[.val (.int p1), .val (.int p2), .val (.int p3), .val (.int p4), .val (.int p5), .val (.int g1), .val (.int g2), .val (.int (((p5.toUInt32 >>> ((2 : Int32) &&& 31).toUInt32).toInt32) &&& (3 : Int32))), .val (.int nn), .val (.int ((p2 &&& (2147483647 : Int32)) % nn)), .val (.int ((p3 &&& (2147483647 : Int32)) % nn)), .val (.int kk), .val .null, .val (.ref b11), .val (.ref b13), .val (.ref b_q11), .unset, .unset] [(.ref b13), (.int ((p3 &&& (2147483647 : Int32)) % nn)), (.ref b_q11)])) _
    refine st_q17.trans ?_
    refine XS.aload X_q17.here hx rfl (hb hby at_172) rfl rfl ?_
    refine XS.iload X_q17.here hx rfl (hb hby at_174) rfl ?_
    show Steps p.tables e below (T_q17.setTop (mkF m 176 #[.val (.int p1), .val (.int p2), .val (.int p3), .val (.int p4), .val (.int p5), .val (.int g1), .val (.int g2), .val (.int (((p5.toUInt32 >>> ((2 : Int32) &&& 31).toUInt32).toInt32) &&& (3 : Int32))), .val (.int nn), .val (.int ((p2 &&& (2147483647 : Int32)) % nn)), .val (.int ((p3 &&& (2147483647 : Int32)) % nn)), .val (.int kk), .val .null, .val (.ref b11), .val (.ref b13), .val (.ref b_q11), .unset, .unset] [(.int kk), (.ref b_q11)])) _
    refine st_q19.trans ?_
    show Steps p.tables e below (T_q19.setTop (mkF m 179 #[.val (.int p1), .val (.int p2), .val (.int p3), .val (.int p4), .val (.int p5), .val (.int g1), .val (.int g2), .val (.int (((p5.toUInt32 >>> ((2 : Int32) &&& 31).toUInt32).toInt32) &&& (3 : Int32))), .val (.int nn), .val (.int ((p2 &&& (2147483647 : Int32)) % nn)), .val (.int ((p3 &&& (2147483647 : Int32)) % nn)), .val (.int kk), .val .null, .val (.ref b11), .val (.ref b13), .val (.ref b_q11), .unset, .unset] [(.ref b11)])) _
    refine st_q22 _ ?_
    refine XS.astore X_q22.here hx rfl (hb hby at_182) rfl rfl (l' := #[.val (.int p1), .val (.int p2), .val (.int p3), .val (.int p4), .val (.int p5), .val (.int g1), .val (.int g2), .val (.int (((p5.toUInt32 >>> ((2 : Int32) &&& 31).toUInt32).toInt32) &&& (3 : Int32))), .val (.int nn), .val (.int ((p2 &&& (2147483647 : Int32)) % nn)), .val (.int ((p3 &&& (2147483647 : Int32)) % nn)), .val (.int kk), .val .null, .val (.ref b11), .val (.ref b13), .val (.ref b_q11), .val (.ref b11), .unset]) rfl ?_
    refine XS.iload X_q22.here hx rfl (hb hby at_184) rfl ?_
    refine XS.iload X_q22.here hx rfl (hb hby at_186) rfl ?_
    show Steps p.tables e below (T_q22.setTop (mkF m 188 #[.val (.int p1), .val (.int p2), .val (.int p3), .val (.int p4), .val (.int p5), .val (.int g1), .val (.int g2), .val (.int (((p5.toUInt32 >>> ((2 : Int32) &&& 31).toUInt32).toInt32) &&& (3 : Int32))), .val (.int nn), .val (.int ((p2 &&& (2147483647 : Int32)) % nn)), .val (.int ((p3 &&& (2147483647 : Int32)) % nn)), .val (.int kk), .val .null, .val (.ref b11), .val (.ref b13), .val (.ref b_q11), .val (.ref b11), .unset] [(.int ((p3 &&& (2147483647 : Int32)) % nn)), (.int kk)])) _
    refine XS.icmpYes X_q22.here hx rfl (pc0 := 188) (pc' := 198) rfl (hb hby at_188) rfl (feq hc_q23).2 (by decide) (by decide) ?_
    refine XS.iload X_q22.here hx rfl (hb hby at_198) rfl ?_
    refine XS.iload X_q22.here hx rfl (hb hby at_200) rfl ?_
    refine XS.icmpNo X_q22.here hx rfl (hb hby at_202) rfl (teq hc_q24).2 ?_
    show Steps p.tables e below (T_q22.setTop (mkF m 205 #[.val (.int p1), .val (.int p2), .val (.int p3), .val (.int p4), .val (.int p5), .val (.int g1), .val (.int g2), .val (.int (((p5.toUInt32 >>> ((2 : Int32) &&& 31).toUInt32).toInt32) &&& (3 : Int32))), .val (.int nn), .val (.int ((p2 &&& (2147483647 : Int32)) % nn)), .val (.int ((p3 &&& (2147483647 : Int32)) % nn)), .val (.int kk), .val .null, .val (.ref b11), .val (.ref b13), .val (.ref b_q11), .val (.ref b11), .unset] [])) _
    refine XS.aload X_q22.here hx rfl (hb hby at_205) rfl rfl ?_
    refine XS.astore X_q22.here hx rfl (hb hby at_207) rfl rfl (l' := #[.val (.int p1), .val (.int p2), .val (.int p3), .val (.int p4), .val (.int p5), .val (.int g1), .val (.int g2), .val (.int (((p5.toUInt32 >>> ((2 : Int32) &&& 31).toUInt32).toInt32) &&& (3 : Int32))), .val (.int nn), .val (.int ((p2 &&& (2147483647 : Int32)) % nn)), .val (.int ((p3 &&& (2147483647 : Int32)) % nn)), .val (.int kk), .val .null, .val (.ref b11), .val (.ref b13), .val (.ref b_q11), .val (.ref b11), .val (.ref b11)]) rfl ?_
    refine XS.goto X_q22.here hx rfl (pc0 := 209) (pc' := 216) rfl (hb hby at_209) (by decide) (by decide) ?_
    refine XS.aload X_q22.here hx rfl (hb hby at_216) rfl rfl ?_
    show Steps p.tables e below (T_q22.setTop (mkF m 218 #[.val (.int p1), .val (.int p2), .val (.int p3), .val (.int p4), .val (.int p5), .val (.int g1), .val (.int g2), .val (.int (((p5.toUInt32 >>> ((2 : Int32) &&& 31).toUInt32).toInt32) &&& (3 : Int32))), .val (.int nn), .val (.int ((p2 &&& (2147483647 : Int32)) % nn)), .val (.int ((p3 &&& (2147483647 : Int32)) % nn)), .val (.int kk), .val .null, .val (.ref b11), .val (.ref b13), .val (.ref b_q11), .val (.ref b11), .val (.ref b11)] [(.ref b11)])) _
    refine XS.aload X_q22.here hx rfl (hb hby at_218) rfl rfl ?_
    show Steps p.tables e below (T_q22.setTop (mkF m 220 #[.val (.int p1), .val (.int p2), .val (.int p3), .val (.int p4), .val (.int p5), .val (.int g1), .val (.int g2), .val (.int (((p5.toUInt32 >>> ((2 : Int32) &&& 31).toUInt32).toInt32) &&& (3 : Int32))), .val (.int nn), .val (.int ((p2 &&& (2147483647 : Int32)) % nn)), .val (.int ((p3 &&& (2147483647 : Int32)) % nn)), .val (.int kk), .val .null, .val (.ref b11), .val (.ref b13), .val (.ref b_q11), .val (.ref b11), .val (.ref b11)] [(.ref b11), (.ref b11)])) _
    refine acmp X_q22 hx rfl rfl rfl (pc0 := 220) (pc' := 223) (same := true) rfl (hb hby at_220) rfl (decide_eq_true rfl) (by decide) rfl ?_
    refine XS.iconst X_q22.here hx rfl (hb hby at_223) ?_
    refine XS.goto X_q22.here hx rfl (pc0 := 224) (pc' := 228) rfl (hb hby at_224) (by decide) (by decide) ?_
    show Steps p.tables e below (T_q22.setTop (mkF m 228 #[.val (.int p1), .val (.int p2), .val (.int p3), .val (.int p4), .val (.int p5), .val (.int g1), .val (.int g2), .val (.int (((p5.toUInt32 >>> ((2 : Int32) &&& 31).toUInt32).toInt32) &&& (3 : Int32))), .val (.int nn), .val (.int ((p2 &&& (2147483647 : Int32)) % nn)), .val (.int ((p3 &&& (2147483647 : Int32)) % nn)), .val (.int kk), .val .null, .val (.ref b11), .val (.ref b13), .val (.ref b_q11), .val (.ref b11), .val (.ref b11)] [(.int (1 : Int32))])) _
    exact retN X_q22 hx (t := .boolean) Bd.returns (by simp) (hb hby at_228) hr
  · show Q_rm0_n2 Z p1 p2 p3 p4 p5 g1 g2 nn kk ca b7 b11 b13 kc CF h0 n0 _ T_q22.heap _
    rw [e_q22]
    exact ⟨rfl, N_q19⟩
def Q_rm0_n3 (Z : State) (p1 p2 p3 p4 p5 : Int32) (g1 g2 nn kk : Int32) (ca b7 b11 b13 : Addr) (kc : ClassId) (CF : Nat → Value) (h0 : Heap) (n0 : Nat) (v : Option Value) (h : Heap) (L : List Loc) : Prop := v = some (.int (1 : Int32)) ∧ Fr n0 L
set_option maxRecDepth 65536 in
set_option maxHeartbeats 40000000 in
theorem rm0_n3 (l : Launch) (Z : State) (a0 : Array Value) (hw : ∀ d ∈ tables_1, d.before a0 Z = true) (ws : List Jvm.Cond) (p1 p2 p3 p4 p5 : Int32) (g1 g2 nn kk : Int32) (ca b7 b11 b13 : Addr) (kc : ClassId) (CF : Nat → Value) (h0 : Heap) (n0 : Nat) (Z0 : n0 ≤ h0.size) (S_high : Sta Z h0 "java/lang/Integer$IntegerCache" "high" "I" (.int (127 : Int32))) (S_cache : Sta Z h0 "java/lang/Integer$IntegerCache" "cache" "[Ljava/lang/Integer;" (.ref ca)) (V_ca : Arv Z h0 ca kc (.object "java/lang/Integer") (256 : Int32) (own_R ((256 : Int32)).toNatClampNeg CF) .null) (EX_b7 : Exa Z h0 b7 "java/lang/Integer") (EX_b11 : Exa Z h0 b11 "java/lang/Integer") (EX_b13 : Exa Z h0 b13 "java/lang/Integer") (hc_q1 : own_fl (p5 &&& (1 : Int32)) g1) (hc_q2 : own_fl (p5 &&& (2 : Int32)) g2) (hc_q3 : own_nn p1 g1 nn) (hc_q4 : nn ≠ 0) (hc_q5 : own_kk (((p5.toUInt32 >>> ((2 : Int32) &&& 31).toUInt32).toInt32) &&& (3 : Int32)) ((p2 &&& (2147483647 : Int32)) % nn) ((p3 &&& (2147483647 : Int32)) % nn) p4 nn kk) (hc_q6 : ¬ (g2 = (0 : Int32))) (hc_q8 : (CF (((11 : Int32) + (128 : Int32))).toNatClampNeg) = (.ref b11)) (hc_q10 : (CF (((13 : Int32) + (128 : Int32))).toNatClampNeg) = (.ref b13)) (hc_q13 : 0 < (nn).toInt) (hc_q14 : (nn).toInt ≤ 196608) (hc_q16 : ¬ ((p2 &&& (2147483647 : Int32)) % nn) < 0 ∧ ((p2 &&& (2147483647 : Int32)) % nn) < nn) (hc_q18 : ¬ ((p3 &&& (2147483647 : Int32)) % nn) < 0 ∧ ((p3 &&& (2147483647 : Int32)) % nn) < nn) (hc_q20 : ¬ kk < 0 ∧ kk < nn) (hc_q21 : (own_up (own_up (fun _ => .null) (((p2 &&& (2147483647 : Int32)) % nn)).toNatClampNeg (.ref b11)) (((p3 &&& (2147483647 : Int32)) % nn)).toNatClampNeg (.ref b13)) (kk).toNatClampNeg = .null) (hc_q22 : ¬ (kk = ((p3 &&& (2147483647 : Int32)) % nn))) (hc_q23 : ¬ (kk = ((p2 &&& (2147483647 : Int32)) % nn))) :
    MetFree l x (head1 (Jvm.Cond.code x code maxLocals ret :: ws) room_1) (fun a U => a = #[(.int p1), (.int p2), (.int p3), (.int p4), (.int p5)] ∧ Z.Warmed39 U.vm ∧ U.heap = h0) (fun _ _ _ _ _ => True) (fun _ U o U' => ∃ v L, o = .returned v ∧ Q_rm0_n3 Z p1 p2 p3 p4 p5 g1 g2 nn kk ca b7 b11 b13 kc CF h0 n0 v U'.heap L ∧ FrameEnd U o U' L room_1.cells room_1.slots) := by
  refine MetFree.of_bodySF (plainFor_of_name pn_0) hisR ?_
  intro p e s m args below meth c s₁ Bd hml0 hP hK
  obtain ⟨rfl, hZ, hh⟩ := hP
  have hx := Bd.exec
  have hby := Bd.bytes
  have hml : c.maxLocals = 18 := hml0
  have hown : s.vm.findClass "com/example/hashwright/hashwright/table/PagedArrayGetPinLaw" = some m.cls := findClass_of_methodNamed Bd.named
  have hnm := (name_of_methodNamed Bd.named Bd.method).1
  have X0 : Stand p l e room_1 s m #[(.int p1), (.int p2), (.int p3), (.int p4), (.int p5)] below meth c s₁ [] 0 0 := Stand.of_body Bd
  have e0 : s₁.heap = h0 := by rw [← hh, Bd.state]; rfl
  have N0 := Fr.nil n0
  have pre0 : ∀ t, Steps p.tables e below (s₁.setTop (mkF m 0 #[.val (.int p1), .val (.int p2), .val (.int p3), .val (.int p4), .val (.int p5), .unset, .unset, .unset, .unset, .unset, .unset, .unset, .unset, .unset, .unset, .unset, .unset, .unset] [])) t → Steps p.tables e below (s₁.setTop (entryFrame m #[(.int p1), (.int p2), (.int p3), (.int p4), (.int p5)] maxLocals)) t := fun t k => castTop (ef_0 m p1 p2 p3 p4 p5) k
  have K0 : Keep h0 h0 [] := Keep.refl _ _
  obtain ⟨_, _, ⟨T_q7, L_q7, k_q7, n_q7⟩, -, X_q7, ⟨Lc_q7, hQ_q7, l_q7, y_q7, z_q7⟩, st_q7⟩ := Jvm.LawKit.callS X0 hx (y := (⟨"java/lang/Integer", "valueOf", "(I)Ljava/lang/Integer;"⟩ : MethodName)) hown (mvT hZ (own_w hw 2 rfl)) (mvT hZ (own_w hw 3 rfl)) (mvT hZ (own_w hw 4 rfl)) (mvT hZ (own_w hw 5 rfl)) (by decide) (backOf (W := 0) (rmVal l Z a0 hw [] ca b11 kc CF (11 : Int32) h0 n0 (Nat.le_trans Z0 K0.1) S_high S_cache V_ca hc_q8 (by decide) (by decide) (by decide)) hZ (own_w hw 5 rfl) (own_w hw 4 rfl) (by decide) (by decide)) (g := (mkF m 129 #[.val (.int p1), .val (.int p2), .val (.int p3), .val (.int p4), .val (.int p5), .val (.int g1), .val (.int g2), .val (.int (((p5.toUInt32 >>> ((2 : Int32) &&& 31).toUInt32).toInt32) &&& (3 : Int32))), .val (.int nn), .val (.int ((p2 &&& (2147483647 : Int32)) % nn)), .val (.int ((p3 &&& (2147483647 : Int32)) % nn)), .val (.int kk), .val .null, .unset, .unset, .unset, .unset, .unset] [(.int (11 : Int32))])) rfl (by rw [hml]; rfl) (argsL := [(.int (11 : Int32))]) (rest := []) (lenOf pd__I_Ljava_lang_Integer_ rfl) rfl (by show 2 * 0 + _ ≤ _; exact Nat.le_of_eq rfl) (hb hby at_129) (fun _ _ => ⟨rfl, e0, (by decide : 0 + 0 ≤ _), (by decide : 0 + 0 ≤ _)⟩)
  dsimp only [Pt.U, Pt.locs, Pt.cells, Pt.slots] at X_q7 l_q7 y_q7 z_q7 st_q7 hQ_q7
  subst l_q7 y_q7 z_q7
  obtain ⟨rfl, Nq_q7, eq_q7⟩ := hQ_q7
  have Kq_q7 : Keep h0 T_q7.heap [] := by rw [eq_q7]; exact Keep.refl _ _
  have N_q7 := Fr.app N0 Nq_q7
  have S_high__q7 := own_sta_keep S_high Kq_q7 all0
  have S_cache__q7 := own_sta_keep S_cache Kq_q7 all0
  have V_ca__q7 := V_ca.keep Kq_q7 nin0
  have EX_b11__q7 := EX_b11.keep Kq_q7
  have EX_b13__q7 := EX_b13.keep Kq_q7
  have K_q7 : Keep h0 T_q7.heap [] := K0.trans Kq_q7 all0
  obtain ⟨_, _, ⟨T_q9, L_q9, k_q9, n_q9⟩, -, X_q9, ⟨Lc_q9, hQ_q9, l_q9, y_q9, z_q9⟩, st_q9⟩ := Jvm.LawKit.callS X_q7 hx (y := (⟨"java/lang/Integer", "valueOf", "(I)Ljava/lang/Integer;"⟩ : MethodName)) hown (mvT hZ (own_w hw 2 rfl)) (mvT hZ (own_w hw 3 rfl)) (mvT hZ (own_w hw 4 rfl)) (mvT hZ (own_w hw 5 rfl)) (by decide) (backOf (W := 0) (rmVal l Z a0 hw [] ca b13 kc CF (13 : Int32) T_q7.heap n0 (Nat.le_trans Z0 K_q7.1) S_high__q7 S_cache__q7 V_ca__q7 hc_q10 (by decide) (by decide) (by decide)) hZ (own_w hw 5 rfl) (own_w hw 4 rfl) (by decide) (by decide)) (g := (mkF m 136 #[.val (.int p1), .val (.int p2), .val (.int p3), .val (.int p4), .val (.int p5), .val (.int g1), .val (.int g2), .val (.int (((p5.toUInt32 >>> ((2 : Int32) &&& 31).toUInt32).toInt32) &&& (3 : Int32))), .val (.int nn), .val (.int ((p2 &&& (2147483647 : Int32)) % nn)), .val (.int ((p3 &&& (2147483647 : Int32)) % nn)), .val (.int kk), .val .null, .val (.ref b11), .unset, .unset, .unset, .unset] [(.int (13 : Int32))])) rfl (by rw [hml]; rfl) (argsL := [(.int (13 : Int32))]) (rest := []) (lenOf pd__I_Ljava_lang_Integer_ rfl) rfl (by show 2 * 0 + _ ≤ _; exact Nat.le_of_eq rfl) (hb hby at_136) (fun _ _ => ⟨rfl, rfl, (by decide : 0 + 0 ≤ _), (by decide : 0 + 0 ≤ _)⟩)
  dsimp only [Pt.U, Pt.locs, Pt.cells, Pt.slots] at X_q9 l_q9 y_q9 z_q9 st_q9 hQ_q9
  subst l_q9 y_q9 z_q9
  obtain ⟨rfl, Nq_q9, eq_q9⟩ := hQ_q9
  have Kq_q9 : Keep T_q7.heap T_q9.heap [] := by rw [eq_q9]; exact Keep.refl _ _
  have N_q9 := Fr.app N_q7 Nq_q9
  have EX_b11__q9 := EX_b11__q7.keep Kq_q9
  have EX_b13__q9 := EX_b13__q7.keep Kq_q9
  have K_q9 : Keep h0 T_q9.heap [] := K_q7.trans Kq_q9 all0
  obtain ⟨T_q11, h_q11, X_q11, e_q11, E_q11, EX_q11, D_q11, -, st_q11⟩ := newO X_q9 hx hZ hown (own_w hw 9 rfl) (own_w hw 10 rfl) (own_w hw 11 rfl) rfl (g := (mkF m 141 #[.val (.int p1), .val (.int p2), .val (.int p3), .val (.int p4), .val (.int p5), .val (.int g1), .val (.int g2), .val (.int (((p5.toUInt32 >>> ((2 : Int32) &&& 31).toUInt32).toInt32) &&& (3 : Int32))), .val (.int nn), .val (.int ((p2 &&& (2147483647 : Int32)) % nn)), .val (.int ((p3 &&& (2147483647 : Int32)) % nn)), .val (.int kk), .val .null, .val (.ref b11), .val (.ref b13), .unset, .unset, .unset] [])) rfl (hb hby at_141) (by decide) (by decide)
  obtain ⟨b_q11, g_q11⟩ : ∃ z, z = T_q9.heap.size := ⟨_, rfl⟩
  rw [← g_q11] at EX_q11 D_q11 st_q11
  have ge_b_q11 : n0 ≤ b_q11 := Nat.le_trans (Nat.le_trans Z0 K_q9.1) (Nat.le_of_eq g_q11.symm)
  have sz_b_q11 : h0.size ≤ b_q11 := Nat.le_trans K_q9.1 (Nat.le_of_eq g_q11.symm)
  have K_q11 : Keep h0 h_q11 [] := K_q9.ext E_q11
  have EX_b11__q11 := EX_b11__q9.ext E_q11
  have EX_b13__q11 := EX_b13__q9.ext E_q11
  have F_length_b_q11 : Fld Z h_q11 b_q11 "com/example/hashwright/hashwright/table/PagedArray" "length" "I" (.int (0 : Int32)) := D_q11 (Or.inr (own_w hw 19 rfl)) (ty := .int) (by decide)
  have F_elements_b_q11 : Fld Z h_q11 b_q11 "com/example/hashwright/hashwright/table/PagedArray" "elements" "[Ljava/lang/Object;" .null := D_q11 (Or.inr (own_w hw 24 rfl)) (ty := (.array (.object "java/lang/Object"))) (by decide)
  have F_pages_b_q11 : Fld Z h_q11 b_q11 "com/example/hashwright/hashwright/table/PagedArray" "pages" "[[Ljava/lang/Object;" .null := D_q11 (Or.inr (own_w hw 26 rfl)) (ty := (.array (.array (.object "java/lang/Object")))) (by decide)
  have hnb_q12 : n0 ≤ h_q11.size := (Nat.le_trans Z0 K_q11.1)
  have sz0 : h0.size ≤ h_q11.size := K_q11.1
  obtain ⟨_, _, ⟨T_q12, L_q12, k_q12, n_q12⟩, -, X_q12, ⟨Lc_q12, hQ_q12, l_q12, y_q12, z_q12⟩, st_q12⟩ := X_q11.specialBack hx (y := (⟨"com/example/hashwright/hashwright/table/PagedArray", "<init>", "(ILjava/lang/Object;)V"⟩ : MethodName)) rfl hown (mvT hZ (own_w hw 12 rfl)) (mvT hZ (own_w hw 13 rfl)) (mvT hZ (own_w hw 14 rfl)) (by decide) (backOf (W := 1) (rmInin l Z a0 hw [] b_q11 nn h_q11 n0 (Nat.le_trans Z0 K_q11.1) EX_q11 F_length_b_q11 F_elements_b_q11 F_pages_b_q11 ge_b_q11 hc_q13 hc_q14) hZ (own_w hw 14 rfl) (own_w hw 11 rfl) (by decide) (by decide)) (g := (mkF m 149 #[.val (.int p1), .val (.int p2), .val (.int p3), .val (.int p4), .val (.int p5), .val (.int g1), .val (.int g2), .val (.int (((p5.toUInt32 >>> ((2 : Int32) &&& 31).toUInt32).toInt32) &&& (3 : Int32))), .val (.int nn), .val (.int ((p2 &&& (2147483647 : Int32)) % nn)), .val (.int ((p3 &&& (2147483647 : Int32)) % nn)), .val (.int kk), .val .null, .val (.ref b11), .val (.ref b13), .unset, .unset, .unset] [.null, (.int nn), (.ref b_q11), (.ref b_q11)])) rfl (by rw [hml]; rfl) (Steps.refl _) (a := b_q11) (argsL := [(.int nn), .null]) (rest := [(.ref b_q11)]) (lenOf pd__ILjava_lang_Object__V rfl) rfl (by show 2 * 0 + _ ≤ _; exact Nat.le_of_eq rfl) (hb hby at_149) (fun _ _ => ⟨rfl, e_q11, (by decide : 1 + 4 ≤ _), (by decide : 3 + 196611 ≤ _)⟩)
  dsimp only [Pt.U, Pt.locs, Pt.cells, Pt.slots] at X_q12 l_q12 y_q12 z_q12 st_q12 hQ_q12
  subst l_q12 y_q12 z_q12
  obtain ⟨rfl, Nq_q12, Kq_q12, PA_q12⟩ := hQ_q12
  have N_q12 := Fr.app N_q9 Nq_q12
  have EX_b11__q12 := EX_b11__q11.keep Kq_q12
  have EX_b13__q12 := EX_b13__q11.keep Kq_q12
  have EX_q11__q12 := EX_q11.keep Kq_q12
  have K_q12 : Keep h0 T_q12.heap [] := K_q11.trans Kq_q12 (allS (Or.inr sz_b_q11) all0)
  obtain ⟨cq_q15, kq_q15, qa_q15, qb_q15, qc_q15⟩ := isOf hZ rfl EX_q11__q12
  obtain ⟨_, _, ⟨T_q15, L_q15, k_q15, n_q15⟩, -, X_q15, ⟨Lc_q15, hQ_q15, l_q15, y_q15, z_q15⟩, st_q15⟩ := X_q12.virtualBack hx (y := (⟨"com/example/hashwright/hashwright/table/PagedArray", "set", "(ILjava/lang/Object;)V"⟩ : MethodName)) (z := (⟨"com/example/hashwright/hashwright/table/PagedArray", "set", "(ILjava/lang/Object;)V"⟩ : MethodName)) hown (mvT hZ (own_w hw 36 rfl)) (mvT hZ (own_w hw 37 rfl)) (notFace_of_selects (args := #[]) (mvT hZ (own_w hw 39 rfl))) (mvT hZ (own_w hw 39 rfl)) (mvT hZ (own_w hw 38 rfl)) (by decide) (backOf (W := 0) (rmSet l Z a0 hw [] b_q11 b11 nn ((p2 &&& (2147483647 : Int32)) % nn) h_q11.size (fun _ => .null) T_q12.heap n0 (Nat.le_trans Z0 K_q12.1) EX_b11__q12 PA_q12 hnb_q12 hc_q16) hZ (own_w hw 40 rfl) (own_w hw 11 rfl) (by decide) (by decide)) qa_q15 qc_q15 (g := (mkF m 160 #[.val (.int p1), .val (.int p2), .val (.int p3), .val (.int p4), .val (.int p5), .val (.int g1), .val (.int g2), .val (.int (((p5.toUInt32 >>> ((2 : Int32) &&& 31).toUInt32).toInt32) &&& (3 : Int32))), .val (.int nn), .val (.int ((p2 &&& (2147483647 : Int32)) % nn)), .val (.int ((p3 &&& (2147483647 : Int32)) % nn)), .val (.int kk), .val .null, .val (.ref b11), .val (.ref b13), .val (.ref b_q11), .unset, .unset] [(.ref b11), (.int ((p2 &&& (2147483647 : Int32)) % nn)), (.ref b_q11)])) rfl (by rw [hml]; rfl) (Steps.refl _) (argsL := [(.int ((p2 &&& (2147483647 : Int32)) % nn)), (.ref b11)]) (rest := []) (lenOf pd__ILjava_lang_Object__V rfl) rfl (by show 2 * 0 + _ ≤ _; exact Nat.le_of_eq rfl) (hb hby at_160) (fun _ _ => ⟨rfl, rfl, (by decide : 5 + 0 ≤ _), (by decide : 196614 + 0 ≤ _)⟩)
  dsimp only [Pt.U, Pt.locs, Pt.cells, Pt.slots] at X_q15 l_q15 y_q15 z_q15 st_q15 hQ_q15
  subst l_q15 y_q15 z_q15
  obtain ⟨rfl, Nq_q15, W_q15, Kq_q15, hW_q15, PA_q15⟩ := hQ_q15
  have N_q15 := Fr.app N_q12 Nq_q15
  have EX_b13__q15 := EX_b13__q12.keep Kq_q15
  have EX_q11__q15 := EX_q11__q12.keep Kq_q15
  have K_q15 : Keep h0 T_q15.heap [] := K_q12.trans Kq_q15 (fun x hx => Or.inr (Nat.le_trans sz0 (hW_q15 x hx)))
  obtain ⟨cq_q17, kq_q17, qa_q17, qb_q17, qc_q17⟩ := isOf hZ rfl EX_q11__q15
  obtain ⟨_, _, ⟨T_q17, L_q17, k_q17, n_q17⟩, -, X_q17, ⟨Lc_q17, hQ_q17, l_q17, y_q17, z_q17⟩, st_q17⟩ := X_q15.virtualBack hx (y := (⟨"com/example/hashwright/hashwright/table/PagedArray", "set", "(ILjava/lang/Object;)V"⟩ : MethodName)) (z := (⟨"com/example/hashwright/hashwright/table/PagedArray", "set", "(ILjava/lang/Object;)V"⟩ : MethodName)) hown (mvT hZ (own_w hw 36 rfl)) (mvT hZ (own_w hw 37 rfl)) (notFace_of_selects (args := #[]) (mvT hZ (own_w hw 39 rfl))) (mvT hZ (own_w hw 39 rfl)) (mvT hZ (own_w hw 38 rfl)) (by decide) (backOf (W := 0) (rmSet l Z a0 hw [] b_q11 b13 nn ((p3 &&& (2147483647 : Int32)) % nn) h_q11.size (own_up (fun _ => .null) (((p2 &&& (2147483647 : Int32)) % nn)).toNatClampNeg (.ref b11)) T_q15.heap n0 (Nat.le_trans Z0 K_q15.1) EX_b13__q15 PA_q15 hnb_q12 hc_q18) hZ (own_w hw 40 rfl) (own_w hw 11 rfl) (by decide) (by decide)) qa_q17 qc_q17 (g := (mkF m 169 #[.val (.int p1), .val (.int p2), .val (.int p3), .val (.int p4), .val (.int p5), .val (.int g1), .val (.int g2), .val (.int (((p5.toUInt32 >>> ((2 : Int32) &&& 31).toUInt32).toInt32) &&& (3 : Int32))), .val (.int nn), .val (.int ((p2 &&& (2147483647 : Int32)) % nn)), .val (.int ((p3 &&& (2147483647 : Int32)) % nn)), .val (.int kk), .val .null, .val (.ref b11), .val (.ref b13), .val (.ref b_q11), .unset, .unset] [(.ref b13), (.int ((p3 &&& (2147483647 : Int32)) % nn)), (.ref b_q11)])) rfl (by rw [hml]; rfl) (Steps.refl _) (argsL := [(.int ((p3 &&& (2147483647 : Int32)) % nn)), (.ref b13)]) (rest := []) (lenOf pd__ILjava_lang_Object__V rfl) rfl (by show 2 * 0 + _ ≤ _; exact Nat.le_of_eq rfl) (hb hby at_169) (fun _ _ => ⟨rfl, rfl, (by decide : 5 + 0 ≤ _), (by decide : 196614 + 0 ≤ _)⟩)
  dsimp only [Pt.U, Pt.locs, Pt.cells, Pt.slots] at X_q17 l_q17 y_q17 z_q17 st_q17 hQ_q17
  subst l_q17 y_q17 z_q17
  obtain ⟨rfl, Nq_q17, W_q17, Kq_q17, hW_q17, PA_q17⟩ := hQ_q17
  have N_q17 := Fr.app N_q15 Nq_q17
  have EX_q11__q17 := EX_q11__q15.keep Kq_q17
  have K_q17 : Keep h0 T_q17.heap [] := K_q15.trans Kq_q17 (fun x hx => Or.inr (Nat.le_trans sz0 (hW_q17 x hx)))
  obtain ⟨cq_q19, kq_q19, qa_q19, qb_q19, qc_q19⟩ := isOf hZ rfl EX_q11__q17
  obtain ⟨_, _, ⟨T_q19, L_q19, k_q19, n_q19⟩, -, X_q19, ⟨Lc_q19, hQ_q19, l_q19, y_q19, z_q19⟩, st_q19⟩ := X_q17.virtualBack hx (y := (⟨"com/example/hashwright/hashwright/table/PagedArray", "get", "(I)Ljava/lang/Object;"⟩ : MethodName)) (z := (⟨"com/example/hashwright/hashwright/table/PagedArray", "get", "(I)Ljava/lang/Object;"⟩ : MethodName)) hown (mvT hZ (own_w hw 41 rfl)) (mvT hZ (own_w hw 42 rfl)) (notFace_of_selects (args := #[]) (mvT hZ (own_w hw 44 rfl))) (mvT hZ (own_w hw 44 rfl)) (mvT hZ (own_w hw 43 rfl)) (by decide) (backOf (W := 0) (rmGetn l Z a0 hw [] b_q11 nn kk h_q11.size (own_up (own_up (fun _ => .null) (((p2 &&& (2147483647 : Int32)) % nn)).toNatClampNeg (.ref b11)) (((p3 &&& (2147483647 : Int32)) % nn)).toNatClampNeg (.ref b13)) T_q17.heap n0 (Nat.le_trans Z0 K_q17.1) PA_q17 hc_q20 hc_q21) hZ (own_w hw 45 rfl) (own_w hw 11 rfl) (by decide) (by decide)) qa_q19 qc_q19 (g := (mkF m 176 #[.val (.int p1), .val (.int p2), .val (.int p3), .val (.int p4), .val (.int p5), .val (.int g1), .val (.int g2), .val (.int (((p5.toUInt32 >>> ((2 : Int32) &&& 31).toUInt32).toInt32) &&& (3 : Int32))), .val (.int nn), .val (.int ((p2 &&& (2147483647 : Int32)) % nn)), .val (.int ((p3 &&& (2147483647 : Int32)) % nn)), .val (.int kk), .val .null, .val (.ref b11), .val (.ref b13), .val (.ref b_q11), .unset, .unset] [(.int kk), (.ref b_q11)])) rfl (by rw [hml]; rfl) (Steps.refl _) (argsL := [(.int kk)]) (rest := []) (lenOf pd__I_Ljava_lang_Object_ rfl) rfl (by show 2 * 0 + _ ≤ _; exact Nat.le_of_eq rfl) (hb hby at_176) (fun _ _ => ⟨rfl, rfl, (by decide : 5 + 0 ≤ _), (by decide : 196614 + 0 ≤ _)⟩)
  dsimp only [Pt.U, Pt.locs, Pt.cells, Pt.slots] at X_q19 l_q19 y_q19 z_q19 st_q19 hQ_q19
  subst l_q19 y_q19 z_q19
  obtain ⟨rfl, Nq_q19, eq_q19⟩ := hQ_q19
  have N_q19 := Fr.app N_q17 Nq_q19
  obtain ⟨fs, hr, hrun, hended, hW, hsame⟩ := X_q19.leave (v := some (.int (1 : Int32))) (fun h => by rw [Bd.returns] at h; cases h) Bd.notSynchronized
  refine ⟨_, _, pre0 _ ?_, hrun, hended, _, _, rfl, ?_, ⟨_, rfl⟩, hW, hsame.mono (by decide) (by decide)⟩
  · show Steps p.tables e below (s₁.setTop (mkF m 0 #[.val (.int p1), .val (.int p2), .val (.int p3), .val (.int p4), .val (.int p5), .unset, .unset, .unset, .unset, .unset, .unset, .unset, .unset, .unset, .unset, .unset, .unset, .unset] [])) _
    refine own_fA p1 p2 p3 p4 p5 g1 X0 hx hby hZ hw hown hc_q1 ?_
    show Steps p.tables e below (s₁.setTop (mkF m 14 #[.val (.int p1), .val (.int p2), .val (.int p3), .val (.int p4), .val (.int p5), .val (.int g1), .unset, .unset, .unset, .unset, .unset, .unset, .unset, .unset, .unset, .unset, .unset, .unset] [])) _
    refine own_fB p1 p2 p3 p4 p5 g1 g2 X0 hx hby hZ hw hown hc_q2 ?_
    refine XS.iload X0.here hx rfl (hb hby at_28) rfl ?_
    refine XS.iconst X0.here hx rfl (hb hby at_30) ?_
    refine XS.iushr X0.here hx rfl (hb hby at_31) rfl ?_
    show Steps p.tables e below (s₁.setTop (mkF m 32 #[.val (.int p1), .val (.int p2), .val (.int p3), .val (.int p4), .val (.int p5), .val (.int g1), .val (.int g2), .unset, .unset, .unset, .unset, .unset, .unset, .unset, .unset, .unset, .unset, .unset] [(.int ((p5.toUInt32 >>> ((2 : Int32) &&& 31).toUInt32).toInt32))])) _
    refine XS.iconst X0.here hx rfl (hb hby at_32) ?_
    refine XS.iand X0.here hx rfl (hb hby at_33) rfl ?_
    refine XS.istore X0.here hx rfl (hb hby at_34) rfl (l' := #[.val (.int p1), .val (.int p2), .val (.int p3), .val (.int p4), .val (.int p5), .val (.int g1), .val (.int g2), .val (.int (((p5.toUInt32 >>> ((2 : Int32) &&& 31).toUInt32).toInt32) &&& (3 : Int32))), .unset, .unset, .unset, .unset, .unset, .unset, .unset, .unset, .unset, .unset]) rfl ?_
    show Steps p.tables e below (s₁.setTop (mkF m 36 #[.val (.int p1), .val (.int p2), .val (.int p3), .val (.int p4), .val (.int p5), .val (.int g1), .val (.int g2), .val (.int (((p5.toUInt32 >>> ((2 : Int32) &&& 31).toUInt32).toInt32) &&& (3 : Int32))), .unset, .unset, .unset, .unset, .unset, .unset, .unset, .unset, .unset, .unset] [])) _
    refine own_fC p1 p2 p3 p4 p5 g1 g2 (((p5.toUInt32 >>> ((2 : Int32) &&& 31).toUInt32).toInt32) &&& (3 : Int32)) nn X0 hx hby hZ hw hown hc_q3 ?_
    refine XS.iloadN X0.here hx rfl (hb hby at_59) rfl ?_
    show Steps p.tables e below (s₁.setTop (mkF m 60 #[.val (.int p1), .val (.int p2), .val (.int p3), .val (.int p4), .val (.int p5), .val (.int g1), .val (.int g2), .val (.int (((p5.toUInt32 >>> ((2 : Int32) &&& 31).toUInt32).toInt32) &&& (3 : Int32))), .val (.int nn), .unset, .unset, .unset, .unset, .unset, .unset, .unset, .unset, .unset] [(.int p2)])) _
    refine X0.ldcInt hx hown (mvT hZ (own_w hw 1 rfl)) (g := (mkF m 60 #[.val (.int p1), .val (.int p2), .val (.int p3), .val (.int p4), .val (.int p5), .val (.int g1), .val (.int g2), .val (.int (((p5.toUInt32 >>> ((2 : Int32) &&& 31).toUInt32).toInt32) &&& (3 : Int32))), .val (.int nn), .unset, .unset, .unset, .unset, .unset, .unset, .unset, .unset, .unset] [(.int p2)])) rfl (hb hby at_60) _ ?_
    refine XS.iand X0.here hx rfl (hb hby at_62) rfl ?_
    refine XS.iload X0.here hx rfl (hb hby at_63) rfl ?_
    show Steps p.tables e below (s₁.setTop (mkF m 65 #[.val (.int p1), .val (.int p2), .val (.int p3), .val (.int p4), .val (.int p5), .val (.int g1), .val (.int g2), .val (.int (((p5.toUInt32 >>> ((2 : Int32) &&& 31).toUInt32).toInt32) &&& (3 : Int32))), .val (.int nn), .unset, .unset, .unset, .unset, .unset, .unset, .unset, .unset, .unset] [(.int nn), (.int (p2 &&& (2147483647 : Int32)))])) _
    refine iremM X0 hx rfl (hb hby at_65) rfl hc_q4 ?_
    refine XS.istore X0.here hx rfl (hb hby at_66) rfl (l' := #[.val (.int p1), .val (.int p2), .val (.int p3), .val (.int p4), .val (.int p5), .val (.int g1), .val (.int g2), .val (.int (((p5.toUInt32 >>> ((2 : Int32) &&& 31).toUInt32).toInt32) &&& (3 : Int32))), .val (.int nn), .val (.int ((p2 &&& (2147483647 : Int32)) % nn)), .unset, .unset, .unset, .unset, .unset, .unset, .unset, .unset]) rfl ?_
    refine XS.iloadN X0.here hx rfl (hb hby at_68) rfl ?_
    show Steps p.tables e below (s₁.setTop (mkF m 69 #[.val (.int p1), .val (.int p2), .val (.int p3), .val (.int p4), .val (.int p5), .val (.int g1), .val (.int g2), .val (.int (((p5.toUInt32 >>> ((2 : Int32) &&& 31).toUInt32).toInt32) &&& (3 : Int32))), .val (.int nn), .val (.int ((p2 &&& (2147483647 : Int32)) % nn)), .unset, .unset, .unset, .unset, .unset, .unset, .unset, .unset] [(.int p3)])) _
    refine X0.ldcInt hx hown (mvT hZ (own_w hw 1 rfl)) (g := (mkF m 69 #[.val (.int p1), .val (.int p2), .val (.int p3), .val (.int p4), .val (.int p5), .val (.int g1), .val (.int g2), .val (.int (((p5.toUInt32 >>> ((2 : Int32) &&& 31).toUInt32).toInt32) &&& (3 : Int32))), .val (.int nn), .val (.int ((p2 &&& (2147483647 : Int32)) % nn)), .unset, .unset, .unset, .unset, .unset, .unset, .unset, .unset] [(.int p3)])) rfl (hb hby at_69) _ ?_
    refine XS.iand X0.here hx rfl (hb hby at_71) rfl ?_
    refine XS.iload X0.here hx rfl (hb hby at_72) rfl ?_
    show Steps p.tables e below (s₁.setTop (mkF m 74 #[.val (.int p1), .val (.int p2), .val (.int p3), .val (.int p4), .val (.int p5), .val (.int g1), .val (.int g2), .val (.int (((p5.toUInt32 >>> ((2 : Int32) &&& 31).toUInt32).toInt32) &&& (3 : Int32))), .val (.int nn), .val (.int ((p2 &&& (2147483647 : Int32)) % nn)), .unset, .unset, .unset, .unset, .unset, .unset, .unset, .unset] [(.int nn), (.int (p3 &&& (2147483647 : Int32)))])) _
    refine iremM X0 hx rfl (hb hby at_74) rfl hc_q4 ?_
    refine XS.istore X0.here hx rfl (hb hby at_75) rfl (l' := #[.val (.int p1), .val (.int p2), .val (.int p3), .val (.int p4), .val (.int p5), .val (.int g1), .val (.int g2), .val (.int (((p5.toUInt32 >>> ((2 : Int32) &&& 31).toUInt32).toInt32) &&& (3 : Int32))), .val (.int nn), .val (.int ((p2 &&& (2147483647 : Int32)) % nn)), .val (.int ((p3 &&& (2147483647 : Int32)) % nn)), .unset, .unset, .unset, .unset, .unset, .unset, .unset]) rfl ?_
    show Steps p.tables e below (s₁.setTop (mkF m 77 #[.val (.int p1), .val (.int p2), .val (.int p3), .val (.int p4), .val (.int p5), .val (.int g1), .val (.int g2), .val (.int (((p5.toUInt32 >>> ((2 : Int32) &&& 31).toUInt32).toInt32) &&& (3 : Int32))), .val (.int nn), .val (.int ((p2 &&& (2147483647 : Int32)) % nn)), .val (.int ((p3 &&& (2147483647 : Int32)) % nn)), .unset, .unset, .unset, .unset, .unset, .unset, .unset] [])) _
    refine own_fD p1 p2 p3 p4 p5 g1 g2 (((p5.toUInt32 >>> ((2 : Int32) &&& 31).toUInt32).toInt32) &&& (3 : Int32)) nn ((p2 &&& (2147483647 : Int32)) % nn) ((p3 &&& (2147483647 : Int32)) % nn) kk X0 hx hby hZ hw hown hc_q5 hc_q4 ?_
    refine XS.iload X0.here hx rfl (hb hby at_111) rfl ?_
    refine XS.ifNo X0.here hx rfl (hb hby at_113) rfl ((if0 _ _).trans (feq hc_q6).1) ?_
    refine XS.aconstNull X0.here hx rfl (hb hby at_116) ?_
    show Steps p.tables e below (s₁.setTop (mkF m 117 #[.val (.int p1), .val (.int p2), .val (.int p3), .val (.int p4), .val (.int p5), .val (.int g1), .val (.int g2), .val (.int (((p5.toUInt32 >>> ((2 : Int32) &&& 31).toUInt32).toInt32) &&& (3 : Int32))), .val (.int nn), .val (.int ((p2 &&& (2147483647 : Int32)) % nn)), .val (.int ((p3 &&& (2147483647 : Int32)) % nn)), .val (.int kk), .unset, .unset, .unset, .unset, .unset, .unset] [.null])) _
    refine XS.goto X0.here hx rfl (pc0 := 117) (pc' := 125) rfl (hb hby at_117) (by decide) (by decide) ?_
    refine XS.astore X0.here hx rfl (hb hby at_125) rfl rfl (l' := #[.val (.int p1), .val (.int p2), .val (.int p3), .val (.int p4), .val (.int p5), .val (.int g1), .val (.int g2), .val (.int (((p5.toUInt32 >>> ((2 : Int32) &&& 31).toUInt32).toInt32) &&& (3 : Int32))), .val (.int nn), .val (.int ((p2 &&& (2147483647 : Int32)) % nn)), .val (.int ((p3 &&& (2147483647 : Int32)) % nn)), .val (.int kk), .val .null, .unset, .unset, .unset, .unset, .unset]) rfl ?_
    refine XS.bipush X0.here hx rfl (hb hby at_127) ?_
    show Steps p.tables e below (s₁.setTop (mkF m 129 #[.val (.int p1), .val (.int p2), .val (.int p3), .val (.int p4), .val (.int p5), .val (.int g1), .val (.int g2), .val (.int (((p5.toUInt32 >>> ((2 : Int32) &&& 31).toUInt32).toInt32) &&& (3 : Int32))), .val (.int nn), .val (.int ((p2 &&& (2147483647 : Int32)) % nn)), .val (.int ((p3 &&& (2147483647 : Int32)) % nn)), .val (.int kk), .val .null, .unset, .unset, .unset, .unset, .unset] [(.int (11 : Int32))])) _
    refine st_q7 _ ?_
    refine XS.astore X_q7.here hx rfl (hb hby at_132) rfl rfl (l' := #[.val (.int p1), .val (.int p2), .val (.int p3), .val (.int p4), .val (.int p5), .val (.int g1), .val (.int g2), .val (.int (((p5.toUInt32 >>> ((2 : Int32) &&& 31).toUInt32).toInt32) &&& (3 : Int32))), .val (.int nn), .val (.int ((p2 &&& (2147483647 : Int32)) % nn)), .val (.int ((p3 &&& (2147483647 : Int32)) % nn)), .val (.int kk), .val .null, .val (.ref b11), .unset, .unset, .unset, .unset]) rfl ?_
    refine XS.bipush X_q7.here hx rfl (hb hby at_134) ?_
    show Steps p.tables e below (T_q7.setTop (mkF m 136 #[.val (.int p1), .val (.int p2), .val (.int p3), .val (.int p4), .val (.int p5), .val (.int g1), .val (.int g2), .val (.int (((p5.toUInt32 >>> ((2 : Int32) &&& 31).toUInt32).toInt32) &&& (3 : Int32))), .val (.int nn), .val (.int ((p2 &&& (2147483647 : Int32)) % nn)), .val (.int ((p3 &&& (2147483647 : Int32)) % nn)), .val (.int kk), .val .null, .val (.ref b11), .unset, .unset, .unset, .unset] [(.int (13 : Int32))])) _
    refine st_q9 _ ?_
    refine XS.astore X_q9.here hx rfl (hb hby at_139) rfl rfl (l' := #[.val (.int p1), .val (.int p2), .val (.int p3), .val (.int p4), .val (.int p5), .val (.int g1), .val (.int g2), .val (.int (((p5.toUInt32 >>> ((2 : Int32) &&& 31).toUInt32).toInt32) &&& (3 : Int32))), .val (.int nn), .val (.int ((p2 &&& (2147483647 : Int32)) % nn)), .val (.int ((p3 &&& (2147483647 : Int32)) % nn)), .val (.int kk), .val .null, .val (.ref b11), .val (.ref b13), .unset, .unset, .unset]) rfl ?_
    show Steps p.tables e below (T_q9.setTop (mkF m 141 #[.val (.int p1), .val (.int p2), .val (.int p3), .val (.int p4), .val (.int p5), .val (.int g1), .val (.int g2), .val (.int (((p5.toUInt32 >>> ((2 : Int32) &&& 31).toUInt32).toInt32) &&& (3 : Int32))), .val (.int nn), .val (.int ((p2 &&& (2147483647 : Int32)) % nn)), .val (.int ((p3 &&& (2147483647 : Int32)) % nn)), .val (.int kk), .val .null, .val (.ref b11), .val (.ref b13), .unset, .unset, .unset] [])) _
    refine st_q11 _ ?_
    refine XS.dup X_q11.here hx rfl (hb hby at_144) rfl rfl ?_
    refine XS.iload X_q11.here hx rfl (hb hby at_145) rfl ?_
    refine XS.aload X_q11.here hx rfl (hb hby at_147) rfl rfl ?_
    show Steps p.tables e below (T_q11.setTop (mkF m 149 #[.val (.int p1), .val (.int p2), .val (.int p3), .val (.int p4), .val (.int p5), .val (.int g1), .val (.int g2), .val (.int (((p5.toUInt32 >>> ((2 : Int32) &&& 31).toUInt32).toInt32) &&& (3 : Int32))), .val (.int nn), .val (.int ((p2 &&& (2147483647 : Int32)) % nn)), .val (.int ((p3 &&& (2147483647 : Int32)) % nn)), .val (.int kk), .val .null, .val (.ref b11), .val (.ref b13), .unset, .unset, .unset] [.null, (.int nn), (.ref b_q11), (.ref b_q11)])) _
    refine st_q12.trans ?_
    refine XS.astore X_q12.here hx rfl (hb hby at_152) rfl rfl (l' := #[.val (.int p1), .val (.int p2), .val (.int p3), .val (.int p4), .val (.int p5), .val (.int g1), .val (.int g2), .val (.int (((p5.toUInt32 >>> ((2 : Int32) &&& 31).toUInt32).toInt32) &&& (3 : Int32))), .val (.int nn), .val (.int ((p2 &&& (2147483647 : Int32)) % nn)), .val (.int ((p3 &&& (2147483647 : Int32)) % nn)), .val (.int kk), .val .null, .val (.ref b11), .val (.ref b13), .val (.ref b_q11), .unset, .unset]) rfl ?_
    refine XS.aload X_q12.here hx rfl (hb hby at_154) rfl rfl ?_
    refine XS.iload X_q12.here hx rfl (hb hby at_156) rfl ?_
    show Steps p.tables e below (T_q12.setTop (mkF m 158 #[.val (.int p1), .val (.int p2), .val (.int p3), .val (.int p4), .val (.int p5), .val (.int g1), .val (.int g2), .val (.int (((p5.toUInt32 >>> ((2 : Int32) &&& 31).toUInt32).toInt32) &&& (3 : Int32))), .val (.int nn), .val (.int ((p2 &&& (2147483647 : Int32)) % nn)), .val (.int ((p3 &&& (2147483647 : Int32)) % nn)), .val (.int kk), .val .null, .val (.ref b11), .val (.ref b13), .val (.ref b_q11), .unset, .unset] [(.int ((p2 &&& (2147483647 : Int32)) % nn)), (.ref b_q11)])) _
    refine XS.aload X_q12.here hx rfl (hb hby at_158) rfl rfl ?_
    show Steps p.tables e below (T_q12.setTop (mkF m 160 #[.val (.int p1), .val (.int p2), .val (.int p3), .val (.int p4), .val (.int p5), .val (.int g1), .val (.int g2), .val (.int (((p5.toUInt32 >>> ((2 : Int32) &&& 31).toUInt32).toInt32) &&& (3 : Int32))), .val (.int nn), .val (.int ((p2 &&& (2147483647 : Int32)) % nn)), .val (.int ((p3 &&& (2147483647 : Int32)) % nn)), .val (.int kk), .val .null, .val (.ref b11), .val (.ref b13), .val (.ref b_q11), .unset, .unset] [(.ref b11), (.int ((p2 &&& (2147483647 : Int32)) % nn)), (.ref b_q11)])) _
    refine st_q15.trans ?_
    refine XS.aload X_q15.here hx rfl (hb hby at_163) rfl rfl ?_
    refine XS.iload X_q15.here hx rfl (hb hby at_165) rfl ?_
    refine XS.aload X_q15.here hx rfl (hb hby at_167) rfl rfl ?_
    show Steps p.tables e below (T_q15.setTop (mkF m 169 #[.val (.int p1), .val (.int p2), .val (.int p3), .val (.int p4), .val (.int p5), .val (.int g1), .val (.int g2), .val (.int (((p5.toUInt32 >>> ((2 : Int32) &&& 31).toUInt32).toInt32) &&& (3 : Int32))), .val (.int nn), .val (.int ((p2 &&& (2147483647 : Int32)) % nn)), .val (.int ((p3 &&& (2147483647 : Int32)) % nn)), .val (.int kk), .val .null, .val (.ref b11), .val (.ref b13), .val (.ref b_q11), .unset, .unset] [(.ref b13), (.int ((p3 &&& (2147483647 : Int32)) % nn)), (.ref b_q11)])) _
    refine st_q17.trans ?_
    refine XS.aload X_q17.here hx rfl (hb hby at_172) rfl rfl ?_
    refine XS.iload X_q17.here hx rfl (hb hby at_174) rfl ?_
    show Steps p.tables e below (T_q17.setTop (mkF m 176 #[.val (.int p1), .val (.int p2), .val (.int p3), .val (.int p4), .val (.int p5), .val (.int g1), .val (.int g2), .val (.int (((p5.toUInt32 >>> ((2 : Int32) &&& 31).toUInt32).toInt32) &&& (3 : Int32))), .val (.int nn), .val (.int ((p2 &&& (2147483647 : Int32)) % nn)), .val (.int ((p3 &&& (2147483647 : Int32)) % nn)), .val (.int kk), .val .null, .val (.ref b11), .val (.ref b13), .val (.ref b_q11), .unset, .unset] [(.int kk), (.ref b_q11)])) _
    refine st_q19.trans ?_
    show Steps p.tables e below (T_q19.setTop (mkF m 179 #[.val (.int p1), .val (.int p2), .val (.int p3), .val (.int p4), .val (.int p5), .val (.int g1), .val (.int g2), .val (.int (((p5.toUInt32 >>> ((2 : Int32) &&& 31).toUInt32).toInt32) &&& (3 : Int32))), .val (.int nn), .val (.int ((p2 &&& (2147483647 : Int32)) % nn)), .val (.int ((p3 &&& (2147483647 : Int32)) % nn)), .val (.int kk), .val .null, .val (.ref b11), .val (.ref b13), .val (.ref b_q11), .unset, .unset] [.null])) _
    refine X_q19.checkcastNull hx (g := (mkF m 179 #[.val (.int p1), .val (.int p2), .val (.int p3), .val (.int p4), .val (.int p5), .val (.int g1), .val (.int g2), .val (.int (((p5.toUInt32 >>> ((2 : Int32) &&& 31).toUInt32).toInt32) &&& (3 : Int32))), .val (.int nn), .val (.int ((p2 &&& (2147483647 : Int32)) % nn)), .val (.int ((p3 &&& (2147483647 : Int32)) % nn)), .val (.int kk), .val .null, .val (.ref b11), .val (.ref b13), .val (.ref b_q11), .unset, .unset] [.null])) rfl rfl (hb hby at_179) _ ?_
    refine XS.astore X_q19.here hx rfl (hb hby at_182) rfl rfl (l' := #[.val (.int p1), .val (.int p2), .val (.int p3), .val (.int p4), .val (.int p5), .val (.int g1), .val (.int g2), .val (.int (((p5.toUInt32 >>> ((2 : Int32) &&& 31).toUInt32).toInt32) &&& (3 : Int32))), .val (.int nn), .val (.int ((p2 &&& (2147483647 : Int32)) % nn)), .val (.int ((p3 &&& (2147483647 : Int32)) % nn)), .val (.int kk), .val .null, .val (.ref b11), .val (.ref b13), .val (.ref b_q11), .val .null, .unset]) rfl ?_
    refine XS.iload X_q19.here hx rfl (hb hby at_184) rfl ?_
    refine XS.iload X_q19.here hx rfl (hb hby at_186) rfl ?_
    show Steps p.tables e below (T_q19.setTop (mkF m 188 #[.val (.int p1), .val (.int p2), .val (.int p3), .val (.int p4), .val (.int p5), .val (.int g1), .val (.int g2), .val (.int (((p5.toUInt32 >>> ((2 : Int32) &&& 31).toUInt32).toInt32) &&& (3 : Int32))), .val (.int nn), .val (.int ((p2 &&& (2147483647 : Int32)) % nn)), .val (.int ((p3 &&& (2147483647 : Int32)) % nn)), .val (.int kk), .val .null, .val (.ref b11), .val (.ref b13), .val (.ref b_q11), .val .null, .unset] [(.int ((p3 &&& (2147483647 : Int32)) % nn)), (.int kk)])) _
    refine XS.icmpYes X_q19.here hx rfl (pc0 := 188) (pc' := 198) rfl (hb hby at_188) rfl (feq hc_q22).2 (by decide) (by decide) ?_
    refine XS.iload X_q19.here hx rfl (hb hby at_198) rfl ?_
    refine XS.iload X_q19.here hx rfl (hb hby at_200) rfl ?_
    refine XS.icmpYes X_q19.here hx rfl (pc0 := 202) (pc' := 212) rfl (hb hby at_202) rfl (feq hc_q23).2 (by decide) (by decide) ?_
    show Steps p.tables e below (T_q19.setTop (mkF m 212 #[.val (.int p1), .val (.int p2), .val (.int p3), .val (.int p4), .val (.int p5), .val (.int g1), .val (.int g2), .val (.int (((p5.toUInt32 >>> ((2 : Int32) &&& 31).toUInt32).toInt32) &&& (3 : Int32))), .val (.int nn), .val (.int ((p2 &&& (2147483647 : Int32)) % nn)), .val (.int ((p3 &&& (2147483647 : Int32)) % nn)), .val (.int kk), .val .null, .val (.ref b11), .val (.ref b13), .val (.ref b_q11), .val .null, .unset] [])) _
    refine XS.aload X_q19.here hx rfl (hb hby at_212) rfl rfl ?_
    refine XS.astore X_q19.here hx rfl (hb hby at_214) rfl rfl (l' := #[.val (.int p1), .val (.int p2), .val (.int p3), .val (.int p4), .val (.int p5), .val (.int g1), .val (.int g2), .val (.int (((p5.toUInt32 >>> ((2 : Int32) &&& 31).toUInt32).toInt32) &&& (3 : Int32))), .val (.int nn), .val (.int ((p2 &&& (2147483647 : Int32)) % nn)), .val (.int ((p3 &&& (2147483647 : Int32)) % nn)), .val (.int kk), .val .null, .val (.ref b11), .val (.ref b13), .val (.ref b_q11), .val .null, .val .null]) rfl ?_
    refine XS.aload X_q19.here hx rfl (hb hby at_216) rfl rfl ?_
    refine XS.aload X_q19.here hx rfl (hb hby at_218) rfl rfl ?_
    show Steps p.tables e below (T_q19.setTop (mkF m 220 #[.val (.int p1), .val (.int p2), .val (.int p3), .val (.int p4), .val (.int p5), .val (.int g1), .val (.int g2), .val (.int (((p5.toUInt32 >>> ((2 : Int32) &&& 31).toUInt32).toInt32) &&& (3 : Int32))), .val (.int nn), .val (.int ((p2 &&& (2147483647 : Int32)) % nn)), .val (.int ((p3 &&& (2147483647 : Int32)) % nn)), .val (.int kk), .val .null, .val (.ref b11), .val (.ref b13), .val (.ref b_q11), .val .null, .val .null] [.null, .null])) _
    refine acmp X_q19 hx rfl rfl rfl (pc0 := 220) (pc' := 223) (same := true) rfl (hb hby at_220) rfl (decide_eq_true rfl) (by decide) rfl ?_
    refine XS.iconst X_q19.here hx rfl (hb hby at_223) ?_
    refine XS.goto X_q19.here hx rfl (pc0 := 224) (pc' := 228) rfl (hb hby at_224) (by decide) (by decide) ?_
    show Steps p.tables e below (T_q19.setTop (mkF m 228 #[.val (.int p1), .val (.int p2), .val (.int p3), .val (.int p4), .val (.int p5), .val (.int g1), .val (.int g2), .val (.int (((p5.toUInt32 >>> ((2 : Int32) &&& 31).toUInt32).toInt32) &&& (3 : Int32))), .val (.int nn), .val (.int ((p2 &&& (2147483647 : Int32)) % nn)), .val (.int ((p3 &&& (2147483647 : Int32)) % nn)), .val (.int kk), .val .null, .val (.ref b11), .val (.ref b13), .val (.ref b_q11), .val .null, .val .null] [(.int (1 : Int32))])) _
    exact retN X_q19 hx (t := .boolean) Bd.returns (by simp) (hb hby at_228) hr
  · show Q_rm0_n3 Z p1 p2 p3 p4 p5 g1 g2 nn kk ca b7 b11 b13 kc CF h0 n0 _ T_q19.heap _
    exact ⟨rfl, N_q19⟩
def Q_rm0_r1 (Z : State) (p1 p2 p3 p4 p5 : Int32) (g1 g2 nn kk : Int32) (ca b7 b11 b13 : Addr) (kc : ClassId) (CF : Nat → Value) (h0 : Heap) (n0 : Nat) (v : Option Value) (h : Heap) (L : List Loc) : Prop := v = some (.int (1 : Int32)) ∧ Fr n0 L
set_option maxRecDepth 65536 in
set_option maxHeartbeats 40000000 in
theorem rm0_r1 (l : Launch) (Z : State) (a0 : Array Value) (hw : ∀ d ∈ tables_1, d.before a0 Z = true) (ws : List Jvm.Cond) (p1 p2 p3 p4 p5 : Int32) (g1 g2 nn kk : Int32) (ca b7 b11 b13 : Addr) (kc : ClassId) (CF : Nat → Value) (h0 : Heap) (n0 : Nat) (Z0 : n0 ≤ h0.size) (S_high : Sta Z h0 "java/lang/Integer$IntegerCache" "high" "I" (.int (127 : Int32))) (S_cache : Sta Z h0 "java/lang/Integer$IntegerCache" "cache" "[Ljava/lang/Integer;" (.ref ca)) (V_ca : Arv Z h0 ca kc (.object "java/lang/Integer") (256 : Int32) (own_R ((256 : Int32)).toNatClampNeg CF) .null) (EX_b7 : Exa Z h0 b7 "java/lang/Integer") (EX_b11 : Exa Z h0 b11 "java/lang/Integer") (EX_b13 : Exa Z h0 b13 "java/lang/Integer") (hc_q1 : own_fl (p5 &&& (1 : Int32)) g1) (hc_q2 : own_fl (p5 &&& (2 : Int32)) g2) (hc_q3 : own_nn p1 g1 nn) (hc_q4 : nn ≠ 0) (hc_q5 : own_kk (((p5.toUInt32 >>> ((2 : Int32) &&& 31).toUInt32).toInt32) &&& (3 : Int32)) ((p2 &&& (2147483647 : Int32)) % nn) ((p3 &&& (2147483647 : Int32)) % nn) p4 nn kk) (hc_q6 : g2 = (0 : Int32)) (hc_q8 : (CF (((7 : Int32) + (128 : Int32))).toNatClampNeg) = (.ref b7)) (hc_q10 : (CF (((11 : Int32) + (128 : Int32))).toNatClampNeg) = (.ref b11)) (hc_q12 : (CF (((13 : Int32) + (128 : Int32))).toNatClampNeg) = (.ref b13)) (hc_q15 : 0 < (nn).toInt) (hc_q16 : (nn).toInt ≤ 196608) (hc_q18 : ¬ ((p2 &&& (2147483647 : Int32)) % nn) < 0 ∧ ((p2 &&& (2147483647 : Int32)) % nn) < nn) (hc_q20 : ¬ ((p3 &&& (2147483647 : Int32)) % nn) < 0 ∧ ((p3 &&& (2147483647 : Int32)) % nn) < nn) (hc_q22 : ¬ kk < 0 ∧ kk < nn) (hc_q23 : (own_up (own_up (fun _ => (.ref b7)) (((p2 &&& (2147483647 : Int32)) % nn)).toNatClampNeg (.ref b11)) (((p3 &&& (2147483647 : Int32)) % nn)).toNatClampNeg (.ref b13)) (kk).toNatClampNeg = (.ref b13)) (hc_q25 : kk = ((p3 &&& (2147483647 : Int32)) % nn)) :
    MetFree l x (head1 (Jvm.Cond.code x code maxLocals ret :: ws) room_1) (fun a U => a = #[(.int p1), (.int p2), (.int p3), (.int p4), (.int p5)] ∧ Z.Warmed39 U.vm ∧ U.heap = h0) (fun _ _ _ _ _ => True) (fun _ U o U' => ∃ v L, o = .returned v ∧ Q_rm0_r1 Z p1 p2 p3 p4 p5 g1 g2 nn kk ca b7 b11 b13 kc CF h0 n0 v U'.heap L ∧ FrameEnd U o U' L room_1.cells room_1.slots) := by
  refine MetFree.of_bodySF (plainFor_of_name pn_0) hisR ?_
  intro p e s m args below meth c s₁ Bd hml0 hP hK
  obtain ⟨rfl, hZ, hh⟩ := hP
  have hx := Bd.exec
  have hby := Bd.bytes
  have hml : c.maxLocals = 18 := hml0
  have hown : s.vm.findClass "com/example/hashwright/hashwright/table/PagedArrayGetPinLaw" = some m.cls := findClass_of_methodNamed Bd.named
  have hnm := (name_of_methodNamed Bd.named Bd.method).1
  have X0 : Stand p l e room_1 s m #[(.int p1), (.int p2), (.int p3), (.int p4), (.int p5)] below meth c s₁ [] 0 0 := Stand.of_body Bd
  have e0 : s₁.heap = h0 := by rw [← hh, Bd.state]; rfl
  have N0 := Fr.nil n0
  have pre0 : ∀ t, Steps p.tables e below (s₁.setTop (mkF m 0 #[.val (.int p1), .val (.int p2), .val (.int p3), .val (.int p4), .val (.int p5), .unset, .unset, .unset, .unset, .unset, .unset, .unset, .unset, .unset, .unset, .unset, .unset, .unset] [])) t → Steps p.tables e below (s₁.setTop (entryFrame m #[(.int p1), (.int p2), (.int p3), (.int p4), (.int p5)] maxLocals)) t := fun t k => castTop (ef_0 m p1 p2 p3 p4 p5) k
  have K0 : Keep h0 h0 [] := Keep.refl _ _
  obtain ⟨_, _, ⟨T_q7, L_q7, k_q7, n_q7⟩, -, X_q7, ⟨Lc_q7, hQ_q7, l_q7, y_q7, z_q7⟩, st_q7⟩ := Jvm.LawKit.callS X0 hx (y := (⟨"java/lang/Integer", "valueOf", "(I)Ljava/lang/Integer;"⟩ : MethodName)) hown (mvT hZ (own_w hw 2 rfl)) (mvT hZ (own_w hw 3 rfl)) (mvT hZ (own_w hw 4 rfl)) (mvT hZ (own_w hw 5 rfl)) (by decide) (backOf (W := 0) (rmVal l Z a0 hw [] ca b7 kc CF (7 : Int32) h0 n0 (Nat.le_trans Z0 K0.1) S_high S_cache V_ca hc_q8 (by decide) (by decide) (by decide)) hZ (own_w hw 5 rfl) (own_w hw 4 rfl) (by decide) (by decide)) (g := (mkF m 122 #[.val (.int p1), .val (.int p2), .val (.int p3), .val (.int p4), .val (.int p5), .val (.int g1), .val (.int g2), .val (.int (((p5.toUInt32 >>> ((2 : Int32) &&& 31).toUInt32).toInt32) &&& (3 : Int32))), .val (.int nn), .val (.int ((p2 &&& (2147483647 : Int32)) % nn)), .val (.int ((p3 &&& (2147483647 : Int32)) % nn)), .val (.int kk), .unset, .unset, .unset, .unset, .unset, .unset] [(.int (7 : Int32))])) rfl (by rw [hml]; rfl) (argsL := [(.int (7 : Int32))]) (rest := []) (lenOf pd__I_Ljava_lang_Integer_ rfl) rfl (by show 2 * 0 + _ ≤ _; exact Nat.le_of_eq rfl) (hb hby at_122) (fun _ _ => ⟨rfl, e0, (by decide : 0 + 0 ≤ _), (by decide : 0 + 0 ≤ _)⟩)
  dsimp only [Pt.U, Pt.locs, Pt.cells, Pt.slots] at X_q7 l_q7 y_q7 z_q7 st_q7 hQ_q7
  subst l_q7 y_q7 z_q7
  obtain ⟨rfl, Nq_q7, eq_q7⟩ := hQ_q7
  have Kq_q7 : Keep h0 T_q7.heap [] := by rw [eq_q7]; exact Keep.refl _ _
  have N_q7 := Fr.app N0 Nq_q7
  have S_high__q7 := own_sta_keep S_high Kq_q7 all0
  have S_cache__q7 := own_sta_keep S_cache Kq_q7 all0
  have V_ca__q7 := V_ca.keep Kq_q7 nin0
  have EX_b7__q7 := EX_b7.keep Kq_q7
  have EX_b11__q7 := EX_b11.keep Kq_q7
  have EX_b13__q7 := EX_b13.keep Kq_q7
  have K_q7 : Keep h0 T_q7.heap [] := K0.trans Kq_q7 all0
  obtain ⟨_, _, ⟨T_q9, L_q9, k_q9, n_q9⟩, -, X_q9, ⟨Lc_q9, hQ_q9, l_q9, y_q9, z_q9⟩, st_q9⟩ := Jvm.LawKit.callS X_q7 hx (y := (⟨"java/lang/Integer", "valueOf", "(I)Ljava/lang/Integer;"⟩ : MethodName)) hown (mvT hZ (own_w hw 2 rfl)) (mvT hZ (own_w hw 3 rfl)) (mvT hZ (own_w hw 4 rfl)) (mvT hZ (own_w hw 5 rfl)) (by decide) (backOf (W := 0) (rmVal l Z a0 hw [] ca b11 kc CF (11 : Int32) T_q7.heap n0 (Nat.le_trans Z0 K_q7.1) S_high__q7 S_cache__q7 V_ca__q7 hc_q10 (by decide) (by decide) (by decide)) hZ (own_w hw 5 rfl) (own_w hw 4 rfl) (by decide) (by decide)) (g := (mkF m 129 #[.val (.int p1), .val (.int p2), .val (.int p3), .val (.int p4), .val (.int p5), .val (.int g1), .val (.int g2), .val (.int (((p5.toUInt32 >>> ((2 : Int32) &&& 31).toUInt32).toInt32) &&& (3 : Int32))), .val (.int nn), .val (.int ((p2 &&& (2147483647 : Int32)) % nn)), .val (.int ((p3 &&& (2147483647 : Int32)) % nn)), .val (.int kk), .val (.ref b7), .unset, .unset, .unset, .unset, .unset] [(.int (11 : Int32))])) rfl (by rw [hml]; rfl) (argsL := [(.int (11 : Int32))]) (rest := []) (lenOf pd__I_Ljava_lang_Integer_ rfl) rfl (by show 2 * 0 + _ ≤ _; exact Nat.le_of_eq rfl) (hb hby at_129) (fun _ _ => ⟨rfl, rfl, (by decide : 0 + 0 ≤ _), (by decide : 0 + 0 ≤ _)⟩)
  dsimp only [Pt.U, Pt.locs, Pt.cells, Pt.slots] at X_q9 l_q9 y_q9 z_q9 st_q9 hQ_q9
  subst l_q9 y_q9 z_q9
  obtain ⟨rfl, Nq_q9, eq_q9⟩ := hQ_q9
  have Kq_q9 : Keep T_q7.heap T_q9.heap [] := by rw [eq_q9]; exact Keep.refl _ _
  have N_q9 := Fr.app N_q7 Nq_q9
  have S_high__q9 := own_sta_keep S_high__q7 Kq_q9 all0
  have S_cache__q9 := own_sta_keep S_cache__q7 Kq_q9 all0
  have V_ca__q9 := V_ca__q7.keep Kq_q9 nin0
  have EX_b7__q9 := EX_b7__q7.keep Kq_q9
  have EX_b11__q9 := EX_b11__q7.keep Kq_q9
  have EX_b13__q9 := EX_b13__q7.keep Kq_q9
  have K_q9 : Keep h0 T_q9.heap [] := K_q7.trans Kq_q9 all0
  obtain ⟨_, _, ⟨T_q11, L_q11, k_q11, n_q11⟩, -, X_q11, ⟨Lc_q11, hQ_q11, l_q11, y_q11, z_q11⟩, st_q11⟩ := Jvm.LawKit.callS X_q9 hx (y := (⟨"java/lang/Integer", "valueOf", "(I)Ljava/lang/Integer;"⟩ : MethodName)) hown (mvT hZ (own_w hw 2 rfl)) (mvT hZ (own_w hw 3 rfl)) (mvT hZ (own_w hw 4 rfl)) (mvT hZ (own_w hw 5 rfl)) (by decide) (backOf (W := 0) (rmVal l Z a0 hw [] ca b13 kc CF (13 : Int32) T_q9.heap n0 (Nat.le_trans Z0 K_q9.1) S_high__q9 S_cache__q9 V_ca__q9 hc_q12 (by decide) (by decide) (by decide)) hZ (own_w hw 5 rfl) (own_w hw 4 rfl) (by decide) (by decide)) (g := (mkF m 136 #[.val (.int p1), .val (.int p2), .val (.int p3), .val (.int p4), .val (.int p5), .val (.int g1), .val (.int g2), .val (.int (((p5.toUInt32 >>> ((2 : Int32) &&& 31).toUInt32).toInt32) &&& (3 : Int32))), .val (.int nn), .val (.int ((p2 &&& (2147483647 : Int32)) % nn)), .val (.int ((p3 &&& (2147483647 : Int32)) % nn)), .val (.int kk), .val (.ref b7), .val (.ref b11), .unset, .unset, .unset, .unset] [(.int (13 : Int32))])) rfl (by rw [hml]; rfl) (argsL := [(.int (13 : Int32))]) (rest := []) (lenOf pd__I_Ljava_lang_Integer_ rfl) rfl (by show 2 * 0 + _ ≤ _; exact Nat.le_of_eq rfl) (hb hby at_136) (fun _ _ => ⟨rfl, rfl, (by decide : 0 + 0 ≤ _), (by decide : 0 + 0 ≤ _)⟩)
  dsimp only [Pt.U, Pt.locs, Pt.cells, Pt.slots] at X_q11 l_q11 y_q11 z_q11 st_q11 hQ_q11
  subst l_q11 y_q11 z_q11
  obtain ⟨rfl, Nq_q11, eq_q11⟩ := hQ_q11
  have Kq_q11 : Keep T_q9.heap T_q11.heap [] := by rw [eq_q11]; exact Keep.refl _ _
  have N_q11 := Fr.app N_q9 Nq_q11
  have EX_b7__q11 := EX_b7__q9.keep Kq_q11
  have EX_b11__q11 := EX_b11__q9.keep Kq_q11
  have EX_b13__q11 := EX_b13__q9.keep Kq_q11
  have K_q11 : Keep h0 T_q11.heap [] := K_q9.trans Kq_q11 all0
  obtain ⟨T_q13, h_q13, X_q13, e_q13, E_q13, EX_q13, D_q13, -, st_q13⟩ := newO X_q11 hx hZ hown (own_w hw 9 rfl) (own_w hw 10 rfl) (own_w hw 11 rfl) rfl (g := (mkF m 141 #[.val (.int p1), .val (.int p2), .val (.int p3), .val (.int p4), .val (.int p5), .val (.int g1), .val (.int g2), .val (.int (((p5.toUInt32 >>> ((2 : Int32) &&& 31).toUInt32).toInt32) &&& (3 : Int32))), .val (.int nn), .val (.int ((p2 &&& (2147483647 : Int32)) % nn)), .val (.int ((p3 &&& (2147483647 : Int32)) % nn)), .val (.int kk), .val (.ref b7), .val (.ref b11), .val (.ref b13), .unset, .unset, .unset] [])) rfl (hb hby at_141) (by decide) (by decide)
  obtain ⟨b_q13, g_q13⟩ : ∃ z, z = T_q11.heap.size := ⟨_, rfl⟩
  rw [← g_q13] at EX_q13 D_q13 st_q13
  have ne_b7_b_q13 : b7 ≠ b_q13 := Nat.ne_of_lt (Nat.lt_of_lt_of_le EX_b7__q11.lt (Nat.le_of_eq g_q13.symm))
  have ge_b_q13 : n0 ≤ b_q13 := Nat.le_trans (Nat.le_trans Z0 K_q11.1) (Nat.le_of_eq g_q13.symm)
  have sz_b_q13 : h0.size ≤ b_q13 := Nat.le_trans K_q11.1 (Nat.le_of_eq g_q13.symm)
  have K_q13 : Keep h0 h_q13 [] := K_q11.ext E_q13
  have EX_b7__q13 := EX_b7__q11.ext E_q13
  have EX_b11__q13 := EX_b11__q11.ext E_q13
  have EX_b13__q13 := EX_b13__q11.ext E_q13
  have F_length_b_q13 : Fld Z h_q13 b_q13 "com/example/hashwright/hashwright/table/PagedArray" "length" "I" (.int (0 : Int32)) := D_q13 (Or.inr (own_w hw 19 rfl)) (ty := .int) (by decide)
  have F_elements_b_q13 : Fld Z h_q13 b_q13 "com/example/hashwright/hashwright/table/PagedArray" "elements" "[Ljava/lang/Object;" .null := D_q13 (Or.inr (own_w hw 24 rfl)) (ty := (.array (.object "java/lang/Object"))) (by decide)
  have F_pages_b_q13 : Fld Z h_q13 b_q13 "com/example/hashwright/hashwright/table/PagedArray" "pages" "[[Ljava/lang/Object;" .null := D_q13 (Or.inr (own_w hw 26 rfl)) (ty := (.array (.array (.object "java/lang/Object")))) (by decide)
  have hnb_q14 : n0 ≤ h_q13.size := (Nat.le_trans Z0 K_q13.1)
  have sz0 : h0.size ≤ h_q13.size := K_q13.1
  obtain ⟨_, _, ⟨T_q14, L_q14, k_q14, n_q14⟩, -, X_q14, ⟨Lc_q14, hQ_q14, l_q14, y_q14, z_q14⟩, st_q14⟩ := X_q13.specialBack hx (y := (⟨"com/example/hashwright/hashwright/table/PagedArray", "<init>", "(ILjava/lang/Object;)V"⟩ : MethodName)) rfl hown (mvT hZ (own_w hw 12 rfl)) (mvT hZ (own_w hw 13 rfl)) (mvT hZ (own_w hw 14 rfl)) (by decide) (backOf (W := 1) (rmInir l Z a0 hw [] b_q13 b7 nn h_q13 n0 (Nat.le_trans Z0 K_q13.1) EX_q13 F_length_b_q13 F_elements_b_q13 F_pages_b_q13 EX_b7__q13 ne_b7_b_q13 ge_b_q13 hc_q15 hc_q16) hZ (own_w hw 14 rfl) (own_w hw 11 rfl) (by decide) (by decide)) (g := (mkF m 149 #[.val (.int p1), .val (.int p2), .val (.int p3), .val (.int p4), .val (.int p5), .val (.int g1), .val (.int g2), .val (.int (((p5.toUInt32 >>> ((2 : Int32) &&& 31).toUInt32).toInt32) &&& (3 : Int32))), .val (.int nn), .val (.int ((p2 &&& (2147483647 : Int32)) % nn)), .val (.int ((p3 &&& (2147483647 : Int32)) % nn)), .val (.int kk), .val (.ref b7), .val (.ref b11), .val (.ref b13), .unset, .unset, .unset] [(.ref b7), (.int nn), (.ref b_q13), (.ref b_q13)])) rfl (by rw [hml]; rfl) (Steps.refl _) (a := b_q13) (argsL := [(.int nn), (.ref b7)]) (rest := [(.ref b_q13)]) (lenOf pd__ILjava_lang_Object__V rfl) rfl (by show 2 * 0 + _ ≤ _; exact Nat.le_of_eq rfl) (hb hby at_149) (fun _ _ => ⟨rfl, e_q13, (by decide : 1 + 4 ≤ _), (by decide : 3 + 196611 ≤ _)⟩)
  dsimp only [Pt.U, Pt.locs, Pt.cells, Pt.slots] at X_q14 l_q14 y_q14 z_q14 st_q14 hQ_q14
  subst l_q14 y_q14 z_q14
  obtain ⟨rfl, Nq_q14, Kq_q14, PA_q14⟩ := hQ_q14
  have N_q14 := Fr.app N_q11 Nq_q14
  have EX_b11__q14 := EX_b11__q13.keep Kq_q14
  have EX_b13__q14 := EX_b13__q13.keep Kq_q14
  have EX_q13__q14 := EX_q13.keep Kq_q14
  have K_q14 : Keep h0 T_q14.heap [] := K_q13.trans Kq_q14 (allS (Or.inr sz_b_q13) all0)
  obtain ⟨cq_q17, kq_q17, qa_q17, qb_q17, qc_q17⟩ := isOf hZ rfl EX_q13__q14
  obtain ⟨_, _, ⟨T_q17, L_q17, k_q17, n_q17⟩, -, X_q17, ⟨Lc_q17, hQ_q17, l_q17, y_q17, z_q17⟩, st_q17⟩ := X_q14.virtualBack hx (y := (⟨"com/example/hashwright/hashwright/table/PagedArray", "set", "(ILjava/lang/Object;)V"⟩ : MethodName)) (z := (⟨"com/example/hashwright/hashwright/table/PagedArray", "set", "(ILjava/lang/Object;)V"⟩ : MethodName)) hown (mvT hZ (own_w hw 36 rfl)) (mvT hZ (own_w hw 37 rfl)) (notFace_of_selects (args := #[]) (mvT hZ (own_w hw 39 rfl))) (mvT hZ (own_w hw 39 rfl)) (mvT hZ (own_w hw 38 rfl)) (by decide) (backOf (W := 0) (rmSet l Z a0 hw [] b_q13 b11 nn ((p2 &&& (2147483647 : Int32)) % nn) h_q13.size (fun _ => (.ref b7)) T_q14.heap n0 (Nat.le_trans Z0 K_q14.1) EX_b11__q14 PA_q14 hnb_q14 hc_q18) hZ (own_w hw 40 rfl) (own_w hw 11 rfl) (by decide) (by decide)) qa_q17 qc_q17 (g := (mkF m 160 #[.val (.int p1), .val (.int p2), .val (.int p3), .val (.int p4), .val (.int p5), .val (.int g1), .val (.int g2), .val (.int (((p5.toUInt32 >>> ((2 : Int32) &&& 31).toUInt32).toInt32) &&& (3 : Int32))), .val (.int nn), .val (.int ((p2 &&& (2147483647 : Int32)) % nn)), .val (.int ((p3 &&& (2147483647 : Int32)) % nn)), .val (.int kk), .val (.ref b7), .val (.ref b11), .val (.ref b13), .val (.ref b_q13), .unset, .unset] [(.ref b11), (.int ((p2 &&& (2147483647 : Int32)) % nn)), (.ref b_q13)])) rfl (by rw [hml]; rfl) (Steps.refl _) (argsL := [(.int ((p2 &&& (2147483647 : Int32)) % nn)), (.ref b11)]) (rest := []) (lenOf pd__ILjava_lang_Object__V rfl) rfl (by show 2 * 0 + _ ≤ _; exact Nat.le_of_eq rfl) (hb hby at_160) (fun _ _ => ⟨rfl, rfl, (by decide : 5 + 0 ≤ _), (by decide : 196614 + 0 ≤ _)⟩)
  dsimp only [Pt.U, Pt.locs, Pt.cells, Pt.slots] at X_q17 l_q17 y_q17 z_q17 st_q17 hQ_q17
  subst l_q17 y_q17 z_q17
  obtain ⟨rfl, Nq_q17, W_q17, Kq_q17, hW_q17, PA_q17⟩ := hQ_q17
  have N_q17 := Fr.app N_q14 Nq_q17
  have EX_b13__q17 := EX_b13__q14.keep Kq_q17
  have EX_q13__q17 := EX_q13__q14.keep Kq_q17
  have K_q17 : Keep h0 T_q17.heap [] := K_q14.trans Kq_q17 (fun x hx => Or.inr (Nat.le_trans sz0 (hW_q17 x hx)))
  obtain ⟨cq_q19, kq_q19, qa_q19, qb_q19, qc_q19⟩ := isOf hZ rfl EX_q13__q17
  obtain ⟨_, _, ⟨T_q19, L_q19, k_q19, n_q19⟩, -, X_q19, ⟨Lc_q19, hQ_q19, l_q19, y_q19, z_q19⟩, st_q19⟩ := X_q17.virtualBack hx (y := (⟨"com/example/hashwright/hashwright/table/PagedArray", "set", "(ILjava/lang/Object;)V"⟩ : MethodName)) (z := (⟨"com/example/hashwright/hashwright/table/PagedArray", "set", "(ILjava/lang/Object;)V"⟩ : MethodName)) hown (mvT hZ (own_w hw 36 rfl)) (mvT hZ (own_w hw 37 rfl)) (notFace_of_selects (args := #[]) (mvT hZ (own_w hw 39 rfl))) (mvT hZ (own_w hw 39 rfl)) (mvT hZ (own_w hw 38 rfl)) (by decide) (backOf (W := 0) (rmSet l Z a0 hw [] b_q13 b13 nn ((p3 &&& (2147483647 : Int32)) % nn) h_q13.size (own_up (fun _ => (.ref b7)) (((p2 &&& (2147483647 : Int32)) % nn)).toNatClampNeg (.ref b11)) T_q17.heap n0 (Nat.le_trans Z0 K_q17.1) EX_b13__q17 PA_q17 hnb_q14 hc_q20) hZ (own_w hw 40 rfl) (own_w hw 11 rfl) (by decide) (by decide)) qa_q19 qc_q19 (g := (mkF m 169 #[.val (.int p1), .val (.int p2), .val (.int p3), .val (.int p4), .val (.int p5), .val (.int g1), .val (.int g2), .val (.int (((p5.toUInt32 >>> ((2 : Int32) &&& 31).toUInt32).toInt32) &&& (3 : Int32))), .val (.int nn), .val (.int ((p2 &&& (2147483647 : Int32)) % nn)), .val (.int ((p3 &&& (2147483647 : Int32)) % nn)), .val (.int kk), .val (.ref b7), .val (.ref b11), .val (.ref b13), .val (.ref b_q13), .unset, .unset] [(.ref b13), (.int ((p3 &&& (2147483647 : Int32)) % nn)), (.ref b_q13)])) rfl (by rw [hml]; rfl) (Steps.refl _) (argsL := [(.int ((p3 &&& (2147483647 : Int32)) % nn)), (.ref b13)]) (rest := []) (lenOf pd__ILjava_lang_Object__V rfl) rfl (by show 2 * 0 + _ ≤ _; exact Nat.le_of_eq rfl) (hb hby at_169) (fun _ _ => ⟨rfl, rfl, (by decide : 5 + 0 ≤ _), (by decide : 196614 + 0 ≤ _)⟩)
  dsimp only [Pt.U, Pt.locs, Pt.cells, Pt.slots] at X_q19 l_q19 y_q19 z_q19 st_q19 hQ_q19
  subst l_q19 y_q19 z_q19
  obtain ⟨rfl, Nq_q19, W_q19, Kq_q19, hW_q19, PA_q19⟩ := hQ_q19
  have N_q19 := Fr.app N_q17 Nq_q19
  have EX_b13__q19 := EX_b13__q17.keep Kq_q19
  have EX_q13__q19 := EX_q13__q17.keep Kq_q19
  have K_q19 : Keep h0 T_q19.heap [] := K_q17.trans Kq_q19 (fun x hx => Or.inr (Nat.le_trans sz0 (hW_q19 x hx)))
  obtain ⟨cq_q21, kq_q21, qa_q21, qb_q21, qc_q21⟩ := isOf hZ rfl EX_q13__q19
  obtain ⟨_, _, ⟨T_q21, L_q21, k_q21, n_q21⟩, -, X_q21, ⟨Lc_q21, hQ_q21, l_q21, y_q21, z_q21⟩, st_q21⟩ := X_q19.virtualBack hx (y := (⟨"com/example/hashwright/hashwright/table/PagedArray", "get", "(I)Ljava/lang/Object;"⟩ : MethodName)) (z := (⟨"com/example/hashwright/hashwright/table/PagedArray", "get", "(I)Ljava/lang/Object;"⟩ : MethodName)) hown (mvT hZ (own_w hw 41 rfl)) (mvT hZ (own_w hw 42 rfl)) (notFace_of_selects (args := #[]) (mvT hZ (own_w hw 44 rfl))) (mvT hZ (own_w hw 44 rfl)) (mvT hZ (own_w hw 43 rfl)) (by decide) (backOf (W := 0) (rmGetr l Z a0 hw [] b_q13 nn kk h_q13.size (own_up (own_up (fun _ => (.ref b7)) (((p2 &&& (2147483647 : Int32)) % nn)).toNatClampNeg (.ref b11)) (((p3 &&& (2147483647 : Int32)) % nn)).toNatClampNeg (.ref b13)) b13 T_q19.heap n0 (Nat.le_trans Z0 K_q19.1) PA_q19 hc_q22 hc_q23) hZ (own_w hw 45 rfl) (own_w hw 11 rfl) (by decide) (by decide)) qa_q21 qc_q21 (g := (mkF m 176 #[.val (.int p1), .val (.int p2), .val (.int p3), .val (.int p4), .val (.int p5), .val (.int g1), .val (.int g2), .val (.int (((p5.toUInt32 >>> ((2 : Int32) &&& 31).toUInt32).toInt32) &&& (3 : Int32))), .val (.int nn), .val (.int ((p2 &&& (2147483647 : Int32)) % nn)), .val (.int ((p3 &&& (2147483647 : Int32)) % nn)), .val (.int kk), .val (.ref b7), .val (.ref b11), .val (.ref b13), .val (.ref b_q13), .unset, .unset] [(.int kk), (.ref b_q13)])) rfl (by rw [hml]; rfl) (Steps.refl _) (argsL := [(.int kk)]) (rest := []) (lenOf pd__I_Ljava_lang_Object_ rfl) rfl (by show 2 * 0 + _ ≤ _; exact Nat.le_of_eq rfl) (hb hby at_176) (fun _ _ => ⟨rfl, rfl, (by decide : 5 + 0 ≤ _), (by decide : 196614 + 0 ≤ _)⟩)
  dsimp only [Pt.U, Pt.locs, Pt.cells, Pt.slots] at X_q21 l_q21 y_q21 z_q21 st_q21 hQ_q21
  subst l_q21 y_q21 z_q21
  obtain ⟨rfl, Nq_q21, eq_q21⟩ := hQ_q21
  have Kq_q21 : Keep T_q19.heap T_q21.heap [] := by rw [eq_q21]; exact Keep.refl _ _
  have N_q21 := Fr.app N_q19 Nq_q21
  have EX_b13__q21 := EX_b13__q19.keep Kq_q21
  obtain ⟨T_q24, X_q24, e_q24, st_q24⟩ := castY X_q21 hx hZ hown (own_w hw 46 rfl) rfl (Ins.self EX_b13__q21) (g := (mkF m 179 #[.val (.int p1), .val (.int p2), .val (.int p3), .val (.int p4), .val (.int p5), .val (.int g1), .val (.int g2), .val (.int (((p5.toUInt32 >>> ((2 : Int32) &&& 31).toUInt32).toInt32) &&& (3 : Int32))), .val (.int nn), .val (.int ((p2 &&& (2147483647 : Int32)) % nn)), .val (.int ((p3 &&& (2147483647 : Int32)) % nn)), .val (.int kk), .val (.ref b7), .val (.ref b11), .val (.ref b13), .val (.ref b_q13), .unset, .unset] [(.ref b13)])) rfl rfl (hb hby at_179)
  obtain ⟨fs, hr, hrun, hended, hW, hsame⟩ := X_q24.leave (v := some (.int (1 : Int32))) (fun h => by rw [Bd.returns] at h; cases h) Bd.notSynchronized
  refine ⟨_, _, pre0 _ ?_, hrun, hended, _, _, rfl, ?_, ⟨_, rfl⟩, hW, hsame.mono (by decide) (by decide)⟩
  · show Steps p.tables e below (s₁.setTop (mkF m 0 #[.val (.int p1), .val (.int p2), .val (.int p3), .val (.int p4), .val (.int p5), .unset, .unset, .unset, .unset, .unset, .unset, .unset, .unset, .unset, .unset, .unset, .unset, .unset] [])) _
    refine own_fA p1 p2 p3 p4 p5 g1 X0 hx hby hZ hw hown hc_q1 ?_
    show Steps p.tables e below (s₁.setTop (mkF m 14 #[.val (.int p1), .val (.int p2), .val (.int p3), .val (.int p4), .val (.int p5), .val (.int g1), .unset, .unset, .unset, .unset, .unset, .unset, .unset, .unset, .unset, .unset, .unset, .unset] [])) _
    refine own_fB p1 p2 p3 p4 p5 g1 g2 X0 hx hby hZ hw hown hc_q2 ?_
    refine XS.iload X0.here hx rfl (hb hby at_28) rfl ?_
    refine XS.iconst X0.here hx rfl (hb hby at_30) ?_
    refine XS.iushr X0.here hx rfl (hb hby at_31) rfl ?_
    show Steps p.tables e below (s₁.setTop (mkF m 32 #[.val (.int p1), .val (.int p2), .val (.int p3), .val (.int p4), .val (.int p5), .val (.int g1), .val (.int g2), .unset, .unset, .unset, .unset, .unset, .unset, .unset, .unset, .unset, .unset, .unset] [(.int ((p5.toUInt32 >>> ((2 : Int32) &&& 31).toUInt32).toInt32))])) _
    refine XS.iconst X0.here hx rfl (hb hby at_32) ?_
    refine XS.iand X0.here hx rfl (hb hby at_33) rfl ?_
    refine XS.istore X0.here hx rfl (hb hby at_34) rfl (l' := #[.val (.int p1), .val (.int p2), .val (.int p3), .val (.int p4), .val (.int p5), .val (.int g1), .val (.int g2), .val (.int (((p5.toUInt32 >>> ((2 : Int32) &&& 31).toUInt32).toInt32) &&& (3 : Int32))), .unset, .unset, .unset, .unset, .unset, .unset, .unset, .unset, .unset, .unset]) rfl ?_
    show Steps p.tables e below (s₁.setTop (mkF m 36 #[.val (.int p1), .val (.int p2), .val (.int p3), .val (.int p4), .val (.int p5), .val (.int g1), .val (.int g2), .val (.int (((p5.toUInt32 >>> ((2 : Int32) &&& 31).toUInt32).toInt32) &&& (3 : Int32))), .unset, .unset, .unset, .unset, .unset, .unset, .unset, .unset, .unset, .unset] [])) _
    refine own_fC p1 p2 p3 p4 p5 g1 g2 (((p5.toUInt32 >>> ((2 : Int32) &&& 31).toUInt32).toInt32) &&& (3 : Int32)) nn X0 hx hby hZ hw hown hc_q3 ?_
    refine XS.iloadN X0.here hx rfl (hb hby at_59) rfl ?_
    show Steps p.tables e below (s₁.setTop (mkF m 60 #[.val (.int p1), .val (.int p2), .val (.int p3), .val (.int p4), .val (.int p5), .val (.int g1), .val (.int g2), .val (.int (((p5.toUInt32 >>> ((2 : Int32) &&& 31).toUInt32).toInt32) &&& (3 : Int32))), .val (.int nn), .unset, .unset, .unset, .unset, .unset, .unset, .unset, .unset, .unset] [(.int p2)])) _
    refine X0.ldcInt hx hown (mvT hZ (own_w hw 1 rfl)) (g := (mkF m 60 #[.val (.int p1), .val (.int p2), .val (.int p3), .val (.int p4), .val (.int p5), .val (.int g1), .val (.int g2), .val (.int (((p5.toUInt32 >>> ((2 : Int32) &&& 31).toUInt32).toInt32) &&& (3 : Int32))), .val (.int nn), .unset, .unset, .unset, .unset, .unset, .unset, .unset, .unset, .unset] [(.int p2)])) rfl (hb hby at_60) _ ?_
    refine XS.iand X0.here hx rfl (hb hby at_62) rfl ?_
    refine XS.iload X0.here hx rfl (hb hby at_63) rfl ?_
    show Steps p.tables e below (s₁.setTop (mkF m 65 #[.val (.int p1), .val (.int p2), .val (.int p3), .val (.int p4), .val (.int p5), .val (.int g1), .val (.int g2), .val (.int (((p5.toUInt32 >>> ((2 : Int32) &&& 31).toUInt32).toInt32) &&& (3 : Int32))), .val (.int nn), .unset, .unset, .unset, .unset, .unset, .unset, .unset, .unset, .unset] [(.int nn), (.int (p2 &&& (2147483647 : Int32)))])) _
    refine iremM X0 hx rfl (hb hby at_65) rfl hc_q4 ?_
    refine XS.istore X0.here hx rfl (hb hby at_66) rfl (l' := #[.val (.int p1), .val (.int p2), .val (.int p3), .val (.int p4), .val (.int p5), .val (.int g1), .val (.int g2), .val (.int (((p5.toUInt32 >>> ((2 : Int32) &&& 31).toUInt32).toInt32) &&& (3 : Int32))), .val (.int nn), .val (.int ((p2 &&& (2147483647 : Int32)) % nn)), .unset, .unset, .unset, .unset, .unset, .unset, .unset, .unset]) rfl ?_
    refine XS.iloadN X0.here hx rfl (hb hby at_68) rfl ?_
    show Steps p.tables e below (s₁.setTop (mkF m 69 #[.val (.int p1), .val (.int p2), .val (.int p3), .val (.int p4), .val (.int p5), .val (.int g1), .val (.int g2), .val (.int (((p5.toUInt32 >>> ((2 : Int32) &&& 31).toUInt32).toInt32) &&& (3 : Int32))), .val (.int nn), .val (.int ((p2 &&& (2147483647 : Int32)) % nn)), .unset, .unset, .unset, .unset, .unset, .unset, .unset, .unset] [(.int p3)])) _
    refine X0.ldcInt hx hown (mvT hZ (own_w hw 1 rfl)) (g := (mkF m 69 #[.val (.int p1), .val (.int p2), .val (.int p3), .val (.int p4), .val (.int p5), .val (.int g1), .val (.int g2), .val (.int (((p5.toUInt32 >>> ((2 : Int32) &&& 31).toUInt32).toInt32) &&& (3 : Int32))), .val (.int nn), .val (.int ((p2 &&& (2147483647 : Int32)) % nn)), .unset, .unset, .unset, .unset, .unset, .unset, .unset, .unset] [(.int p3)])) rfl (hb hby at_69) _ ?_
    refine XS.iand X0.here hx rfl (hb hby at_71) rfl ?_
    refine XS.iload X0.here hx rfl (hb hby at_72) rfl ?_
    show Steps p.tables e below (s₁.setTop (mkF m 74 #[.val (.int p1), .val (.int p2), .val (.int p3), .val (.int p4), .val (.int p5), .val (.int g1), .val (.int g2), .val (.int (((p5.toUInt32 >>> ((2 : Int32) &&& 31).toUInt32).toInt32) &&& (3 : Int32))), .val (.int nn), .val (.int ((p2 &&& (2147483647 : Int32)) % nn)), .unset, .unset, .unset, .unset, .unset, .unset, .unset, .unset] [(.int nn), (.int (p3 &&& (2147483647 : Int32)))])) _
    refine iremM X0 hx rfl (hb hby at_74) rfl hc_q4 ?_
    refine XS.istore X0.here hx rfl (hb hby at_75) rfl (l' := #[.val (.int p1), .val (.int p2), .val (.int p3), .val (.int p4), .val (.int p5), .val (.int g1), .val (.int g2), .val (.int (((p5.toUInt32 >>> ((2 : Int32) &&& 31).toUInt32).toInt32) &&& (3 : Int32))), .val (.int nn), .val (.int ((p2 &&& (2147483647 : Int32)) % nn)), .val (.int ((p3 &&& (2147483647 : Int32)) % nn)), .unset, .unset, .unset, .unset, .unset, .unset, .unset]) rfl ?_
    show Steps p.tables e below (s₁.setTop (mkF m 77 #[.val (.int p1), .val (.int p2), .val (.int p3), .val (.int p4), .val (.int p5), .val (.int g1), .val (.int g2), .val (.int (((p5.toUInt32 >>> ((2 : Int32) &&& 31).toUInt32).toInt32) &&& (3 : Int32))), .val (.int nn), .val (.int ((p2 &&& (2147483647 : Int32)) % nn)), .val (.int ((p3 &&& (2147483647 : Int32)) % nn)), .unset, .unset, .unset, .unset, .unset, .unset, .unset] [])) _
    refine own_fD p1 p2 p3 p4 p5 g1 g2 (((p5.toUInt32 >>> ((2 : Int32) &&& 31).toUInt32).toInt32) &&& (3 : Int32)) nn ((p2 &&& (2147483647 : Int32)) % nn) ((p3 &&& (2147483647 : Int32)) % nn) kk X0 hx hby hZ hw hown hc_q5 hc_q4 ?_
    refine XS.iload X0.here hx rfl (hb hby at_111) rfl ?_
    refine XS.ifYes X0.here hx rfl (pc0 := 113) (pc' := 120) rfl (hb hby at_113) rfl ((if0 _ _).trans (teq hc_q6).1) (by decide) (by decide) ?_
    refine XS.bipush X0.here hx rfl (hb hby at_120) ?_
    show Steps p.tables e below (s₁.setTop (mkF m 122 #[.val (.int p1), .val (.int p2), .val (.int p3), .val (.int p4), .val (.int p5), .val (.int g1), .val (.int g2), .val (.int (((p5.toUInt32 >>> ((2 : Int32) &&& 31).toUInt32).toInt32) &&& (3 : Int32))), .val (.int nn), .val (.int ((p2 &&& (2147483647 : Int32)) % nn)), .val (.int ((p3 &&& (2147483647 : Int32)) % nn)), .val (.int kk), .unset, .unset, .unset, .unset, .unset, .unset] [(.int (7 : Int32))])) _
    refine st_q7 _ ?_
    refine XS.astore X_q7.here hx rfl (hb hby at_125) rfl rfl (l' := #[.val (.int p1), .val (.int p2), .val (.int p3), .val (.int p4), .val (.int p5), .val (.int g1), .val (.int g2), .val (.int (((p5.toUInt32 >>> ((2 : Int32) &&& 31).toUInt32).toInt32) &&& (3 : Int32))), .val (.int nn), .val (.int ((p2 &&& (2147483647 : Int32)) % nn)), .val (.int ((p3 &&& (2147483647 : Int32)) % nn)), .val (.int kk), .val (.ref b7), .unset, .unset, .unset, .unset, .unset]) rfl ?_
    refine XS.bipush X_q7.here hx rfl (hb hby at_127) ?_
    show Steps p.tables e below (T_q7.setTop (mkF m 129 #[.val (.int p1), .val (.int p2), .val (.int p3), .val (.int p4), .val (.int p5), .val (.int g1), .val (.int g2), .val (.int (((p5.toUInt32 >>> ((2 : Int32) &&& 31).toUInt32).toInt32) &&& (3 : Int32))), .val (.int nn), .val (.int ((p2 &&& (2147483647 : Int32)) % nn)), .val (.int ((p3 &&& (2147483647 : Int32)) % nn)), .val (.int kk), .val (.ref b7), .unset, .unset, .unset, .unset, .unset] [(.int (11 : Int32))])) _
    refine st_q9 _ ?_
    refine XS.astore X_q9.here hx rfl (hb hby at_132) rfl rfl (l' := #[.val (.int p1), .val (.int p2), .val (.int p3), .val (.int p4), .val (.int p5), .val (.int g1), .val (.int g2), .val (.int (((p5.toUInt32 >>> ((2 : Int32) &&& 31).toUInt32).toInt32) &&& (3 : Int32))), .val (.int nn), .val (.int ((p2 &&& (2147483647 : Int32)) % nn)), .val (.int ((p3 &&& (2147483647 : Int32)) % nn)), .val (.int kk), .val (.ref b7), .val (.ref b11), .unset, .unset, .unset, .unset]) rfl ?_
    refine XS.bipush X_q9.here hx rfl (hb hby at_134) ?_
    show Steps p.tables e below (T_q9.setTop (mkF m 136 #[.val (.int p1), .val (.int p2), .val (.int p3), .val (.int p4), .val (.int p5), .val (.int g1), .val (.int g2), .val (.int (((p5.toUInt32 >>> ((2 : Int32) &&& 31).toUInt32).toInt32) &&& (3 : Int32))), .val (.int nn), .val (.int ((p2 &&& (2147483647 : Int32)) % nn)), .val (.int ((p3 &&& (2147483647 : Int32)) % nn)), .val (.int kk), .val (.ref b7), .val (.ref b11), .unset, .unset, .unset, .unset] [(.int (13 : Int32))])) _
    refine st_q11 _ ?_
    refine XS.astore X_q11.here hx rfl (hb hby at_139) rfl rfl (l' := #[.val (.int p1), .val (.int p2), .val (.int p3), .val (.int p4), .val (.int p5), .val (.int g1), .val (.int g2), .val (.int (((p5.toUInt32 >>> ((2 : Int32) &&& 31).toUInt32).toInt32) &&& (3 : Int32))), .val (.int nn), .val (.int ((p2 &&& (2147483647 : Int32)) % nn)), .val (.int ((p3 &&& (2147483647 : Int32)) % nn)), .val (.int kk), .val (.ref b7), .val (.ref b11), .val (.ref b13), .unset, .unset, .unset]) rfl ?_
    show Steps p.tables e below (T_q11.setTop (mkF m 141 #[.val (.int p1), .val (.int p2), .val (.int p3), .val (.int p4), .val (.int p5), .val (.int g1), .val (.int g2), .val (.int (((p5.toUInt32 >>> ((2 : Int32) &&& 31).toUInt32).toInt32) &&& (3 : Int32))), .val (.int nn), .val (.int ((p2 &&& (2147483647 : Int32)) % nn)), .val (.int ((p3 &&& (2147483647 : Int32)) % nn)), .val (.int kk), .val (.ref b7), .val (.ref b11), .val (.ref b13), .unset, .unset, .unset] [])) _
    refine st_q13 _ ?_
    refine XS.dup X_q13.here hx rfl (hb hby at_144) rfl rfl ?_
    refine XS.iload X_q13.here hx rfl (hb hby at_145) rfl ?_
    refine XS.aload X_q13.here hx rfl (hb hby at_147) rfl rfl ?_
    show Steps p.tables e below (T_q13.setTop (mkF m 149 #[.val (.int p1), .val (.int p2), .val (.int p3), .val (.int p4), .val (.int p5), .val (.int g1), .val (.int g2), .val (.int (((p5.toUInt32 >>> ((2 : Int32) &&& 31).toUInt32).toInt32) &&& (3 : Int32))), .val (.int nn), .val (.int ((p2 &&& (2147483647 : Int32)) % nn)), .val (.int ((p3 &&& (2147483647 : Int32)) % nn)), .val (.int kk), .val (.ref b7), .val (.ref b11), .val (.ref b13), .unset, .unset, .unset] [(.ref b7), (.int nn), (.ref b_q13), (.ref b_q13)])) _
    refine st_q14.trans ?_
    refine XS.astore X_q14.here hx rfl (hb hby at_152) rfl rfl (l' := #[.val (.int p1), .val (.int p2), .val (.int p3), .val (.int p4), .val (.int p5), .val (.int g1), .val (.int g2), .val (.int (((p5.toUInt32 >>> ((2 : Int32) &&& 31).toUInt32).toInt32) &&& (3 : Int32))), .val (.int nn), .val (.int ((p2 &&& (2147483647 : Int32)) % nn)), .val (.int ((p3 &&& (2147483647 : Int32)) % nn)), .val (.int kk), .val (.ref b7), .val (.ref b11), .val (.ref b13), .val (.ref b_q13), .unset, .unset]) rfl ?_
    refine XS.aload X_q14.here hx rfl (hb hby at_154) rfl rfl ?_
    refine XS.iload X_q14.here hx rfl (hb hby at_156) rfl ?_
    show Steps p.tables e below (T_q14.setTop (mkF m 158 #[.val (.int p1), .val (.int p2), .val (.int p3), .val (.int p4), .val (.int p5), .val (.int g1), .val (.int g2), .val (.int (((p5.toUInt32 >>> ((2 : Int32) &&& 31).toUInt32).toInt32) &&& (3 : Int32))), .val (.int nn), .val (.int ((p2 &&& (2147483647 : Int32)) % nn)), .val (.int ((p3 &&& (2147483647 : Int32)) % nn)), .val (.int kk), .val (.ref b7), .val (.ref b11), .val (.ref b13), .val (.ref b_q13), .unset, .unset] [(.int ((p2 &&& (2147483647 : Int32)) % nn)), (.ref b_q13)])) _
    refine XS.aload X_q14.here hx rfl (hb hby at_158) rfl rfl ?_
    show Steps p.tables e below (T_q14.setTop (mkF m 160 #[.val (.int p1), .val (.int p2), .val (.int p3), .val (.int p4), .val (.int p5), .val (.int g1), .val (.int g2), .val (.int (((p5.toUInt32 >>> ((2 : Int32) &&& 31).toUInt32).toInt32) &&& (3 : Int32))), .val (.int nn), .val (.int ((p2 &&& (2147483647 : Int32)) % nn)), .val (.int ((p3 &&& (2147483647 : Int32)) % nn)), .val (.int kk), .val (.ref b7), .val (.ref b11), .val (.ref b13), .val (.ref b_q13), .unset, .unset] [(.ref b11), (.int ((p2 &&& (2147483647 : Int32)) % nn)), (.ref b_q13)])) _
    refine st_q17.trans ?_
    refine XS.aload X_q17.here hx rfl (hb hby at_163) rfl rfl ?_
    refine XS.iload X_q17.here hx rfl (hb hby at_165) rfl ?_
    refine XS.aload X_q17.here hx rfl (hb hby at_167) rfl rfl ?_
    show Steps p.tables e below (T_q17.setTop (mkF m 169 #[.val (.int p1), .val (.int p2), .val (.int p3), .val (.int p4), .val (.int p5), .val (.int g1), .val (.int g2), .val (.int (((p5.toUInt32 >>> ((2 : Int32) &&& 31).toUInt32).toInt32) &&& (3 : Int32))), .val (.int nn), .val (.int ((p2 &&& (2147483647 : Int32)) % nn)), .val (.int ((p3 &&& (2147483647 : Int32)) % nn)), .val (.int kk), .val (.ref b7), .val (.ref b11), .val (.ref b13), .val (.ref b_q13), .unset, .unset] [(.ref b13), (.int ((p3 &&& (2147483647 : Int32)) % nn)), (.ref b_q13)])) _
    refine st_q19.trans ?_
    refine XS.aload X_q19.here hx rfl (hb hby at_172) rfl rfl ?_
    refine XS.iload X_q19.here hx rfl (hb hby at_174) rfl ?_
    show Steps p.tables e below (T_q19.setTop (mkF m 176 #[.val (.int p1), .val (.int p2), .val (.int p3), .val (.int p4), .val (.int p5), .val (.int g1), .val (.int g2), .val (.int (((p5.toUInt32 >>> ((2 : Int32) &&& 31).toUInt32).toInt32) &&& (3 : Int32))), .val (.int nn), .val (.int ((p2 &&& (2147483647 : Int32)) % nn)), .val (.int ((p3 &&& (2147483647 : Int32)) % nn)), .val (.int kk), .val (.ref b7), .val (.ref b11), .val (.ref b13), .val (.ref b_q13), .unset, .unset] [(.int kk), (.ref b_q13)])) _
    refine st_q21.trans ?_
    show Steps p.tables e below (T_q21.setTop (mkF m 179 #[.val (.int p1), .val (.int p2), .val (.int p3), .val (.int p4), .val (.int p5), .val (.int g1), .val (.int g2), .val (.int (((p5.toUInt32 >>> ((2 : Int32) &&& 31).toUInt32).toInt32) &&& (3 : Int32))), .val (.int nn), .val (.int ((p2 &&& (2147483647 : Int32)) % nn)), .val (.int ((p3 &&& (2147483647 : Int32)) % nn)), .val (.int kk), .val (.ref b7), .val (.ref b11), .val (.ref b13), .val (.ref b_q13), .unset, .unset] [(.ref b13)])) _
    refine st_q24 _ ?_
    refine XS.astore X_q24.here hx rfl (hb hby at_182) rfl rfl (l' := #[.val (.int p1), .val (.int p2), .val (.int p3), .val (.int p4), .val (.int p5), .val (.int g1), .val (.int g2), .val (.int (((p5.toUInt32 >>> ((2 : Int32) &&& 31).toUInt32).toInt32) &&& (3 : Int32))), .val (.int nn), .val (.int ((p2 &&& (2147483647 : Int32)) % nn)), .val (.int ((p3 &&& (2147483647 : Int32)) % nn)), .val (.int kk), .val (.ref b7), .val (.ref b11), .val (.ref b13), .val (.ref b_q13), .val (.ref b13), .unset]) rfl ?_
    refine XS.iload X_q24.here hx rfl (hb hby at_184) rfl ?_
    refine XS.iload X_q24.here hx rfl (hb hby at_186) rfl ?_
    show Steps p.tables e below (T_q24.setTop (mkF m 188 #[.val (.int p1), .val (.int p2), .val (.int p3), .val (.int p4), .val (.int p5), .val (.int g1), .val (.int g2), .val (.int (((p5.toUInt32 >>> ((2 : Int32) &&& 31).toUInt32).toInt32) &&& (3 : Int32))), .val (.int nn), .val (.int ((p2 &&& (2147483647 : Int32)) % nn)), .val (.int ((p3 &&& (2147483647 : Int32)) % nn)), .val (.int kk), .val (.ref b7), .val (.ref b11), .val (.ref b13), .val (.ref b_q13), .val (.ref b13), .unset] [(.int ((p3 &&& (2147483647 : Int32)) % nn)), (.int kk)])) _
    refine XS.icmpNo X_q24.here hx rfl (hb hby at_188) rfl (teq hc_q25).2 ?_
    refine XS.aload X_q24.here hx rfl (hb hby at_191) rfl rfl ?_
    refine XS.astore X_q24.here hx rfl (hb hby at_193) rfl rfl (l' := #[.val (.int p1), .val (.int p2), .val (.int p3), .val (.int p4), .val (.int p5), .val (.int g1), .val (.int g2), .val (.int (((p5.toUInt32 >>> ((2 : Int32) &&& 31).toUInt32).toInt32) &&& (3 : Int32))), .val (.int nn), .val (.int ((p2 &&& (2147483647 : Int32)) % nn)), .val (.int ((p3 &&& (2147483647 : Int32)) % nn)), .val (.int kk), .val (.ref b7), .val (.ref b11), .val (.ref b13), .val (.ref b_q13), .val (.ref b13), .val (.ref b13)]) rfl ?_
    refine XS.goto X_q24.here hx rfl (pc0 := 195) (pc' := 216) rfl (hb hby at_195) (by decide) (by decide) ?_
    show Steps p.tables e below (T_q24.setTop (mkF m 216 #[.val (.int p1), .val (.int p2), .val (.int p3), .val (.int p4), .val (.int p5), .val (.int g1), .val (.int g2), .val (.int (((p5.toUInt32 >>> ((2 : Int32) &&& 31).toUInt32).toInt32) &&& (3 : Int32))), .val (.int nn), .val (.int ((p2 &&& (2147483647 : Int32)) % nn)), .val (.int ((p3 &&& (2147483647 : Int32)) % nn)), .val (.int kk), .val (.ref b7), .val (.ref b11), .val (.ref b13), .val (.ref b_q13), .val (.ref b13), .val (.ref b13)] [])) _
    refine XS.aload X_q24.here hx rfl (hb hby at_216) rfl rfl ?_
    refine XS.aload X_q24.here hx rfl (hb hby at_218) rfl rfl ?_
    show Steps p.tables e below (T_q24.setTop (mkF m 220 #[.val (.int p1), .val (.int p2), .val (.int p3), .val (.int p4), .val (.int p5), .val (.int g1), .val (.int g2), .val (.int (((p5.toUInt32 >>> ((2 : Int32) &&& 31).toUInt32).toInt32) &&& (3 : Int32))), .val (.int nn), .val (.int ((p2 &&& (2147483647 : Int32)) % nn)), .val (.int ((p3 &&& (2147483647 : Int32)) % nn)), .val (.int kk), .val (.ref b7), .val (.ref b11), .val (.ref b13), .val (.ref b_q13), .val (.ref b13), .val (.ref b13)] [(.ref b13), (.ref b13)])) _
    refine acmp X_q24 hx rfl rfl rfl (pc0 := 220) (pc' := 223) (same := true) rfl (hb hby at_220) rfl (decide_eq_true rfl) (by decide) rfl ?_
    refine XS.iconst X_q24.here hx rfl (hb hby at_223) ?_
    refine XS.goto X_q24.here hx rfl (pc0 := 224) (pc' := 228) rfl (hb hby at_224) (by decide) (by decide) ?_
    show Steps p.tables e below (T_q24.setTop (mkF m 228 #[.val (.int p1), .val (.int p2), .val (.int p3), .val (.int p4), .val (.int p5), .val (.int g1), .val (.int g2), .val (.int (((p5.toUInt32 >>> ((2 : Int32) &&& 31).toUInt32).toInt32) &&& (3 : Int32))), .val (.int nn), .val (.int ((p2 &&& (2147483647 : Int32)) % nn)), .val (.int ((p3 &&& (2147483647 : Int32)) % nn)), .val (.int kk), .val (.ref b7), .val (.ref b11), .val (.ref b13), .val (.ref b_q13), .val (.ref b13), .val (.ref b13)] [(.int (1 : Int32))])) _
    exact retN X_q24 hx (t := .boolean) Bd.returns (by simp) (hb hby at_228) hr
  · show Q_rm0_r1 Z p1 p2 p3 p4 p5 g1 g2 nn kk ca b7 b11 b13 kc CF h0 n0 _ T_q24.heap _
    rw [e_q24]
    exact ⟨rfl, N_q21⟩
def Q_rm0_r2 (Z : State) (p1 p2 p3 p4 p5 : Int32) (g1 g2 nn kk : Int32) (ca b7 b11 b13 : Addr) (kc : ClassId) (CF : Nat → Value) (h0 : Heap) (n0 : Nat) (v : Option Value) (h : Heap) (L : List Loc) : Prop := v = some (.int (1 : Int32)) ∧ Fr n0 L
set_option maxRecDepth 65536 in
set_option maxHeartbeats 40000000 in
theorem rm0_r2 (l : Launch) (Z : State) (a0 : Array Value) (hw : ∀ d ∈ tables_1, d.before a0 Z = true) (ws : List Jvm.Cond) (p1 p2 p3 p4 p5 : Int32) (g1 g2 nn kk : Int32) (ca b7 b11 b13 : Addr) (kc : ClassId) (CF : Nat → Value) (h0 : Heap) (n0 : Nat) (Z0 : n0 ≤ h0.size) (S_high : Sta Z h0 "java/lang/Integer$IntegerCache" "high" "I" (.int (127 : Int32))) (S_cache : Sta Z h0 "java/lang/Integer$IntegerCache" "cache" "[Ljava/lang/Integer;" (.ref ca)) (V_ca : Arv Z h0 ca kc (.object "java/lang/Integer") (256 : Int32) (own_R ((256 : Int32)).toNatClampNeg CF) .null) (EX_b7 : Exa Z h0 b7 "java/lang/Integer") (EX_b11 : Exa Z h0 b11 "java/lang/Integer") (EX_b13 : Exa Z h0 b13 "java/lang/Integer") (hc_q1 : own_fl (p5 &&& (1 : Int32)) g1) (hc_q2 : own_fl (p5 &&& (2 : Int32)) g2) (hc_q3 : own_nn p1 g1 nn) (hc_q4 : nn ≠ 0) (hc_q5 : own_kk (((p5.toUInt32 >>> ((2 : Int32) &&& 31).toUInt32).toInt32) &&& (3 : Int32)) ((p2 &&& (2147483647 : Int32)) % nn) ((p3 &&& (2147483647 : Int32)) % nn) p4 nn kk) (hc_q6 : g2 = (0 : Int32)) (hc_q8 : (CF (((7 : Int32) + (128 : Int32))).toNatClampNeg) = (.ref b7)) (hc_q10 : (CF (((11 : Int32) + (128 : Int32))).toNatClampNeg) = (.ref b11)) (hc_q12 : (CF (((13 : Int32) + (128 : Int32))).toNatClampNeg) = (.ref b13)) (hc_q15 : 0 < (nn).toInt) (hc_q16 : (nn).toInt ≤ 196608) (hc_q18 : ¬ ((p2 &&& (2147483647 : Int32)) % nn) < 0 ∧ ((p2 &&& (2147483647 : Int32)) % nn) < nn) (hc_q20 : ¬ ((p3 &&& (2147483647 : Int32)) % nn) < 0 ∧ ((p3 &&& (2147483647 : Int32)) % nn) < nn) (hc_q22 : ¬ kk < 0 ∧ kk < nn) (hc_q23 : (own_up (own_up (fun _ => (.ref b7)) (((p2 &&& (2147483647 : Int32)) % nn)).toNatClampNeg (.ref b11)) (((p3 &&& (2147483647 : Int32)) % nn)).toNatClampNeg (.ref b13)) (kk).toNatClampNeg = (.ref b11)) (hc_q25 : ¬ (kk = ((p3 &&& (2147483647 : Int32)) % nn))) (hc_q26 : kk = ((p2 &&& (2147483647 : Int32)) % nn)) :
    MetFree l x (head1 (Jvm.Cond.code x code maxLocals ret :: ws) room_1) (fun a U => a = #[(.int p1), (.int p2), (.int p3), (.int p4), (.int p5)] ∧ Z.Warmed39 U.vm ∧ U.heap = h0) (fun _ _ _ _ _ => True) (fun _ U o U' => ∃ v L, o = .returned v ∧ Q_rm0_r2 Z p1 p2 p3 p4 p5 g1 g2 nn kk ca b7 b11 b13 kc CF h0 n0 v U'.heap L ∧ FrameEnd U o U' L room_1.cells room_1.slots) := by
  refine MetFree.of_bodySF (plainFor_of_name pn_0) hisR ?_
  intro p e s m args below meth c s₁ Bd hml0 hP hK
  obtain ⟨rfl, hZ, hh⟩ := hP
  have hx := Bd.exec
  have hby := Bd.bytes
  have hml : c.maxLocals = 18 := hml0
  have hown : s.vm.findClass "com/example/hashwright/hashwright/table/PagedArrayGetPinLaw" = some m.cls := findClass_of_methodNamed Bd.named
  have hnm := (name_of_methodNamed Bd.named Bd.method).1
  have X0 : Stand p l e room_1 s m #[(.int p1), (.int p2), (.int p3), (.int p4), (.int p5)] below meth c s₁ [] 0 0 := Stand.of_body Bd
  have e0 : s₁.heap = h0 := by rw [← hh, Bd.state]; rfl
  have N0 := Fr.nil n0
  have pre0 : ∀ t, Steps p.tables e below (s₁.setTop (mkF m 0 #[.val (.int p1), .val (.int p2), .val (.int p3), .val (.int p4), .val (.int p5), .unset, .unset, .unset, .unset, .unset, .unset, .unset, .unset, .unset, .unset, .unset, .unset, .unset] [])) t → Steps p.tables e below (s₁.setTop (entryFrame m #[(.int p1), (.int p2), (.int p3), (.int p4), (.int p5)] maxLocals)) t := fun t k => castTop (ef_0 m p1 p2 p3 p4 p5) k
  have K0 : Keep h0 h0 [] := Keep.refl _ _
  obtain ⟨_, _, ⟨T_q7, L_q7, k_q7, n_q7⟩, -, X_q7, ⟨Lc_q7, hQ_q7, l_q7, y_q7, z_q7⟩, st_q7⟩ := Jvm.LawKit.callS X0 hx (y := (⟨"java/lang/Integer", "valueOf", "(I)Ljava/lang/Integer;"⟩ : MethodName)) hown (mvT hZ (own_w hw 2 rfl)) (mvT hZ (own_w hw 3 rfl)) (mvT hZ (own_w hw 4 rfl)) (mvT hZ (own_w hw 5 rfl)) (by decide) (backOf (W := 0) (rmVal l Z a0 hw [] ca b7 kc CF (7 : Int32) h0 n0 (Nat.le_trans Z0 K0.1) S_high S_cache V_ca hc_q8 (by decide) (by decide) (by decide)) hZ (own_w hw 5 rfl) (own_w hw 4 rfl) (by decide) (by decide)) (g := (mkF m 122 #[.val (.int p1), .val (.int p2), .val (.int p3), .val (.int p4), .val (.int p5), .val (.int g1), .val (.int g2), .val (.int (((p5.toUInt32 >>> ((2 : Int32) &&& 31).toUInt32).toInt32) &&& (3 : Int32))), .val (.int nn), .val (.int ((p2 &&& (2147483647 : Int32)) % nn)), .val (.int ((p3 &&& (2147483647 : Int32)) % nn)), .val (.int kk), .unset, .unset, .unset, .unset, .unset, .unset] [(.int (7 : Int32))])) rfl (by rw [hml]; rfl) (argsL := [(.int (7 : Int32))]) (rest := []) (lenOf pd__I_Ljava_lang_Integer_ rfl) rfl (by show 2 * 0 + _ ≤ _; exact Nat.le_of_eq rfl) (hb hby at_122) (fun _ _ => ⟨rfl, e0, (by decide : 0 + 0 ≤ _), (by decide : 0 + 0 ≤ _)⟩)
  dsimp only [Pt.U, Pt.locs, Pt.cells, Pt.slots] at X_q7 l_q7 y_q7 z_q7 st_q7 hQ_q7
  subst l_q7 y_q7 z_q7
  obtain ⟨rfl, Nq_q7, eq_q7⟩ := hQ_q7
  have Kq_q7 : Keep h0 T_q7.heap [] := by rw [eq_q7]; exact Keep.refl _ _
  have N_q7 := Fr.app N0 Nq_q7
  have S_high__q7 := own_sta_keep S_high Kq_q7 all0
  have S_cache__q7 := own_sta_keep S_cache Kq_q7 all0
  have V_ca__q7 := V_ca.keep Kq_q7 nin0
  have EX_b7__q7 := EX_b7.keep Kq_q7
  have EX_b11__q7 := EX_b11.keep Kq_q7
  have EX_b13__q7 := EX_b13.keep Kq_q7
  have K_q7 : Keep h0 T_q7.heap [] := K0.trans Kq_q7 all0
  obtain ⟨_, _, ⟨T_q9, L_q9, k_q9, n_q9⟩, -, X_q9, ⟨Lc_q9, hQ_q9, l_q9, y_q9, z_q9⟩, st_q9⟩ := Jvm.LawKit.callS X_q7 hx (y := (⟨"java/lang/Integer", "valueOf", "(I)Ljava/lang/Integer;"⟩ : MethodName)) hown (mvT hZ (own_w hw 2 rfl)) (mvT hZ (own_w hw 3 rfl)) (mvT hZ (own_w hw 4 rfl)) (mvT hZ (own_w hw 5 rfl)) (by decide) (backOf (W := 0) (rmVal l Z a0 hw [] ca b11 kc CF (11 : Int32) T_q7.heap n0 (Nat.le_trans Z0 K_q7.1) S_high__q7 S_cache__q7 V_ca__q7 hc_q10 (by decide) (by decide) (by decide)) hZ (own_w hw 5 rfl) (own_w hw 4 rfl) (by decide) (by decide)) (g := (mkF m 129 #[.val (.int p1), .val (.int p2), .val (.int p3), .val (.int p4), .val (.int p5), .val (.int g1), .val (.int g2), .val (.int (((p5.toUInt32 >>> ((2 : Int32) &&& 31).toUInt32).toInt32) &&& (3 : Int32))), .val (.int nn), .val (.int ((p2 &&& (2147483647 : Int32)) % nn)), .val (.int ((p3 &&& (2147483647 : Int32)) % nn)), .val (.int kk), .val (.ref b7), .unset, .unset, .unset, .unset, .unset] [(.int (11 : Int32))])) rfl (by rw [hml]; rfl) (argsL := [(.int (11 : Int32))]) (rest := []) (lenOf pd__I_Ljava_lang_Integer_ rfl) rfl (by show 2 * 0 + _ ≤ _; exact Nat.le_of_eq rfl) (hb hby at_129) (fun _ _ => ⟨rfl, rfl, (by decide : 0 + 0 ≤ _), (by decide : 0 + 0 ≤ _)⟩)
  dsimp only [Pt.U, Pt.locs, Pt.cells, Pt.slots] at X_q9 l_q9 y_q9 z_q9 st_q9 hQ_q9
  subst l_q9 y_q9 z_q9
  obtain ⟨rfl, Nq_q9, eq_q9⟩ := hQ_q9
  have Kq_q9 : Keep T_q7.heap T_q9.heap [] := by rw [eq_q9]; exact Keep.refl _ _
  have N_q9 := Fr.app N_q7 Nq_q9
  have S_high__q9 := own_sta_keep S_high__q7 Kq_q9 all0
  have S_cache__q9 := own_sta_keep S_cache__q7 Kq_q9 all0
  have V_ca__q9 := V_ca__q7.keep Kq_q9 nin0
  have EX_b7__q9 := EX_b7__q7.keep Kq_q9
  have EX_b11__q9 := EX_b11__q7.keep Kq_q9
  have EX_b13__q9 := EX_b13__q7.keep Kq_q9
  have K_q9 : Keep h0 T_q9.heap [] := K_q7.trans Kq_q9 all0
  obtain ⟨_, _, ⟨T_q11, L_q11, k_q11, n_q11⟩, -, X_q11, ⟨Lc_q11, hQ_q11, l_q11, y_q11, z_q11⟩, st_q11⟩ := Jvm.LawKit.callS X_q9 hx (y := (⟨"java/lang/Integer", "valueOf", "(I)Ljava/lang/Integer;"⟩ : MethodName)) hown (mvT hZ (own_w hw 2 rfl)) (mvT hZ (own_w hw 3 rfl)) (mvT hZ (own_w hw 4 rfl)) (mvT hZ (own_w hw 5 rfl)) (by decide) (backOf (W := 0) (rmVal l Z a0 hw [] ca b13 kc CF (13 : Int32) T_q9.heap n0 (Nat.le_trans Z0 K_q9.1) S_high__q9 S_cache__q9 V_ca__q9 hc_q12 (by decide) (by decide) (by decide)) hZ (own_w hw 5 rfl) (own_w hw 4 rfl) (by decide) (by decide)) (g := (mkF m 136 #[.val (.int p1), .val (.int p2), .val (.int p3), .val (.int p4), .val (.int p5), .val (.int g1), .val (.int g2), .val (.int (((p5.toUInt32 >>> ((2 : Int32) &&& 31).toUInt32).toInt32) &&& (3 : Int32))), .val (.int nn), .val (.int ((p2 &&& (2147483647 : Int32)) % nn)), .val (.int ((p3 &&& (2147483647 : Int32)) % nn)), .val (.int kk), .val (.ref b7), .val (.ref b11), .unset, .unset, .unset, .unset] [(.int (13 : Int32))])) rfl (by rw [hml]; rfl) (argsL := [(.int (13 : Int32))]) (rest := []) (lenOf pd__I_Ljava_lang_Integer_ rfl) rfl (by show 2 * 0 + _ ≤ _; exact Nat.le_of_eq rfl) (hb hby at_136) (fun _ _ => ⟨rfl, rfl, (by decide : 0 + 0 ≤ _), (by decide : 0 + 0 ≤ _)⟩)
  dsimp only [Pt.U, Pt.locs, Pt.cells, Pt.slots] at X_q11 l_q11 y_q11 z_q11 st_q11 hQ_q11
  subst l_q11 y_q11 z_q11
  obtain ⟨rfl, Nq_q11, eq_q11⟩ := hQ_q11
  have Kq_q11 : Keep T_q9.heap T_q11.heap [] := by rw [eq_q11]; exact Keep.refl _ _
  have N_q11 := Fr.app N_q9 Nq_q11
  have EX_b7__q11 := EX_b7__q9.keep Kq_q11
  have EX_b11__q11 := EX_b11__q9.keep Kq_q11
  have EX_b13__q11 := EX_b13__q9.keep Kq_q11
  have K_q11 : Keep h0 T_q11.heap [] := K_q9.trans Kq_q11 all0
  obtain ⟨T_q13, h_q13, X_q13, e_q13, E_q13, EX_q13, D_q13, -, st_q13⟩ := newO X_q11 hx hZ hown (own_w hw 9 rfl) (own_w hw 10 rfl) (own_w hw 11 rfl) rfl (g := (mkF m 141 #[.val (.int p1), .val (.int p2), .val (.int p3), .val (.int p4), .val (.int p5), .val (.int g1), .val (.int g2), .val (.int (((p5.toUInt32 >>> ((2 : Int32) &&& 31).toUInt32).toInt32) &&& (3 : Int32))), .val (.int nn), .val (.int ((p2 &&& (2147483647 : Int32)) % nn)), .val (.int ((p3 &&& (2147483647 : Int32)) % nn)), .val (.int kk), .val (.ref b7), .val (.ref b11), .val (.ref b13), .unset, .unset, .unset] [])) rfl (hb hby at_141) (by decide) (by decide)
  obtain ⟨b_q13, g_q13⟩ : ∃ z, z = T_q11.heap.size := ⟨_, rfl⟩
  rw [← g_q13] at EX_q13 D_q13 st_q13
  have ne_b7_b_q13 : b7 ≠ b_q13 := Nat.ne_of_lt (Nat.lt_of_lt_of_le EX_b7__q11.lt (Nat.le_of_eq g_q13.symm))
  have ge_b_q13 : n0 ≤ b_q13 := Nat.le_trans (Nat.le_trans Z0 K_q11.1) (Nat.le_of_eq g_q13.symm)
  have sz_b_q13 : h0.size ≤ b_q13 := Nat.le_trans K_q11.1 (Nat.le_of_eq g_q13.symm)
  have K_q13 : Keep h0 h_q13 [] := K_q11.ext E_q13
  have EX_b7__q13 := EX_b7__q11.ext E_q13
  have EX_b11__q13 := EX_b11__q11.ext E_q13
  have EX_b13__q13 := EX_b13__q11.ext E_q13
  have F_length_b_q13 : Fld Z h_q13 b_q13 "com/example/hashwright/hashwright/table/PagedArray" "length" "I" (.int (0 : Int32)) := D_q13 (Or.inr (own_w hw 19 rfl)) (ty := .int) (by decide)
  have F_elements_b_q13 : Fld Z h_q13 b_q13 "com/example/hashwright/hashwright/table/PagedArray" "elements" "[Ljava/lang/Object;" .null := D_q13 (Or.inr (own_w hw 24 rfl)) (ty := (.array (.object "java/lang/Object"))) (by decide)
  have F_pages_b_q13 : Fld Z h_q13 b_q13 "com/example/hashwright/hashwright/table/PagedArray" "pages" "[[Ljava/lang/Object;" .null := D_q13 (Or.inr (own_w hw 26 rfl)) (ty := (.array (.array (.object "java/lang/Object")))) (by decide)
  have hnb_q14 : n0 ≤ h_q13.size := (Nat.le_trans Z0 K_q13.1)
  have sz0 : h0.size ≤ h_q13.size := K_q13.1
  obtain ⟨_, _, ⟨T_q14, L_q14, k_q14, n_q14⟩, -, X_q14, ⟨Lc_q14, hQ_q14, l_q14, y_q14, z_q14⟩, st_q14⟩ := X_q13.specialBack hx (y := (⟨"com/example/hashwright/hashwright/table/PagedArray", "<init>", "(ILjava/lang/Object;)V"⟩ : MethodName)) rfl hown (mvT hZ (own_w hw 12 rfl)) (mvT hZ (own_w hw 13 rfl)) (mvT hZ (own_w hw 14 rfl)) (by decide) (backOf (W := 1) (rmInir l Z a0 hw [] b_q13 b7 nn h_q13 n0 (Nat.le_trans Z0 K_q13.1) EX_q13 F_length_b_q13 F_elements_b_q13 F_pages_b_q13 EX_b7__q13 ne_b7_b_q13 ge_b_q13 hc_q15 hc_q16) hZ (own_w hw 14 rfl) (own_w hw 11 rfl) (by decide) (by decide)) (g := (mkF m 149 #[.val (.int p1), .val (.int p2), .val (.int p3), .val (.int p4), .val (.int p5), .val (.int g1), .val (.int g2), .val (.int (((p5.toUInt32 >>> ((2 : Int32) &&& 31).toUInt32).toInt32) &&& (3 : Int32))), .val (.int nn), .val (.int ((p2 &&& (2147483647 : Int32)) % nn)), .val (.int ((p3 &&& (2147483647 : Int32)) % nn)), .val (.int kk), .val (.ref b7), .val (.ref b11), .val (.ref b13), .unset, .unset, .unset] [(.ref b7), (.int nn), (.ref b_q13), (.ref b_q13)])) rfl (by rw [hml]; rfl) (Steps.refl _) (a := b_q13) (argsL := [(.int nn), (.ref b7)]) (rest := [(.ref b_q13)]) (lenOf pd__ILjava_lang_Object__V rfl) rfl (by show 2 * 0 + _ ≤ _; exact Nat.le_of_eq rfl) (hb hby at_149) (fun _ _ => ⟨rfl, e_q13, (by decide : 1 + 4 ≤ _), (by decide : 3 + 196611 ≤ _)⟩)
  dsimp only [Pt.U, Pt.locs, Pt.cells, Pt.slots] at X_q14 l_q14 y_q14 z_q14 st_q14 hQ_q14
  subst l_q14 y_q14 z_q14
  obtain ⟨rfl, Nq_q14, Kq_q14, PA_q14⟩ := hQ_q14
  have N_q14 := Fr.app N_q11 Nq_q14
  have EX_b11__q14 := EX_b11__q13.keep Kq_q14
  have EX_b13__q14 := EX_b13__q13.keep Kq_q14
  have EX_q13__q14 := EX_q13.keep Kq_q14
  have K_q14 : Keep h0 T_q14.heap [] := K_q13.trans Kq_q14 (allS (Or.inr sz_b_q13) all0)
  obtain ⟨cq_q17, kq_q17, qa_q17, qb_q17, qc_q17⟩ := isOf hZ rfl EX_q13__q14
  obtain ⟨_, _, ⟨T_q17, L_q17, k_q17, n_q17⟩, -, X_q17, ⟨Lc_q17, hQ_q17, l_q17, y_q17, z_q17⟩, st_q17⟩ := X_q14.virtualBack hx (y := (⟨"com/example/hashwright/hashwright/table/PagedArray", "set", "(ILjava/lang/Object;)V"⟩ : MethodName)) (z := (⟨"com/example/hashwright/hashwright/table/PagedArray", "set", "(ILjava/lang/Object;)V"⟩ : MethodName)) hown (mvT hZ (own_w hw 36 rfl)) (mvT hZ (own_w hw 37 rfl)) (notFace_of_selects (args := #[]) (mvT hZ (own_w hw 39 rfl))) (mvT hZ (own_w hw 39 rfl)) (mvT hZ (own_w hw 38 rfl)) (by decide) (backOf (W := 0) (rmSet l Z a0 hw [] b_q13 b11 nn ((p2 &&& (2147483647 : Int32)) % nn) h_q13.size (fun _ => (.ref b7)) T_q14.heap n0 (Nat.le_trans Z0 K_q14.1) EX_b11__q14 PA_q14 hnb_q14 hc_q18) hZ (own_w hw 40 rfl) (own_w hw 11 rfl) (by decide) (by decide)) qa_q17 qc_q17 (g := (mkF m 160 #[.val (.int p1), .val (.int p2), .val (.int p3), .val (.int p4), .val (.int p5), .val (.int g1), .val (.int g2), .val (.int (((p5.toUInt32 >>> ((2 : Int32) &&& 31).toUInt32).toInt32) &&& (3 : Int32))), .val (.int nn), .val (.int ((p2 &&& (2147483647 : Int32)) % nn)), .val (.int ((p3 &&& (2147483647 : Int32)) % nn)), .val (.int kk), .val (.ref b7), .val (.ref b11), .val (.ref b13), .val (.ref b_q13), .unset, .unset] [(.ref b11), (.int ((p2 &&& (2147483647 : Int32)) % nn)), (.ref b_q13)])) rfl (by rw [hml]; rfl) (Steps.refl _) (argsL := [(.int ((p2 &&& (2147483647 : Int32)) % nn)), (.ref b11)]) (rest := []) (lenOf pd__ILjava_lang_Object__V rfl) rfl (by show 2 * 0 + _ ≤ _; exact Nat.le_of_eq rfl) (hb hby at_160) (fun _ _ => ⟨rfl, rfl, (by decide : 5 + 0 ≤ _), (by decide : 196614 + 0 ≤ _)⟩)
  dsimp only [Pt.U, Pt.locs, Pt.cells, Pt.slots] at X_q17 l_q17 y_q17 z_q17 st_q17 hQ_q17
  subst l_q17 y_q17 z_q17
  obtain ⟨rfl, Nq_q17, W_q17, Kq_q17, hW_q17, PA_q17⟩ := hQ_q17
  have N_q17 := Fr.app N_q14 Nq_q17
  have EX_b11__q17 := EX_b11__q14.keep Kq_q17
  have EX_b13__q17 := EX_b13__q14.keep Kq_q17
  have EX_q13__q17 := EX_q13__q14.keep Kq_q17
  have K_q17 : Keep h0 T_q17.heap [] := K_q14.trans Kq_q17 (fun x hx => Or.inr (Nat.le_trans sz0 (hW_q17 x hx)))
  obtain ⟨cq_q19, kq_q19, qa_q19, qb_q19, qc_q19⟩ := isOf hZ rfl EX_q13__q17
  obtain ⟨_, _, ⟨T_q19, L_q19, k_q19, n_q19⟩, -, X_q19, ⟨Lc_q19, hQ_q19, l_q19, y_q19, z_q19⟩, st_q19⟩ := X_q17.virtualBack hx (y := (⟨"com/example/hashwright/hashwright/table/PagedArray", "set", "(ILjava/lang/Object;)V"⟩ : MethodName)) (z := (⟨"com/example/hashwright/hashwright/table/PagedArray", "set", "(ILjava/lang/Object;)V"⟩ : MethodName)) hown (mvT hZ (own_w hw 36 rfl)) (mvT hZ (own_w hw 37 rfl)) (notFace_of_selects (args := #[]) (mvT hZ (own_w hw 39 rfl))) (mvT hZ (own_w hw 39 rfl)) (mvT hZ (own_w hw 38 rfl)) (by decide) (backOf (W := 0) (rmSet l Z a0 hw [] b_q13 b13 nn ((p3 &&& (2147483647 : Int32)) % nn) h_q13.size (own_up (fun _ => (.ref b7)) (((p2 &&& (2147483647 : Int32)) % nn)).toNatClampNeg (.ref b11)) T_q17.heap n0 (Nat.le_trans Z0 K_q17.1) EX_b13__q17 PA_q17 hnb_q14 hc_q20) hZ (own_w hw 40 rfl) (own_w hw 11 rfl) (by decide) (by decide)) qa_q19 qc_q19 (g := (mkF m 169 #[.val (.int p1), .val (.int p2), .val (.int p3), .val (.int p4), .val (.int p5), .val (.int g1), .val (.int g2), .val (.int (((p5.toUInt32 >>> ((2 : Int32) &&& 31).toUInt32).toInt32) &&& (3 : Int32))), .val (.int nn), .val (.int ((p2 &&& (2147483647 : Int32)) % nn)), .val (.int ((p3 &&& (2147483647 : Int32)) % nn)), .val (.int kk), .val (.ref b7), .val (.ref b11), .val (.ref b13), .val (.ref b_q13), .unset, .unset] [(.ref b13), (.int ((p3 &&& (2147483647 : Int32)) % nn)), (.ref b_q13)])) rfl (by rw [hml]; rfl) (Steps.refl _) (argsL := [(.int ((p3 &&& (2147483647 : Int32)) % nn)), (.ref b13)]) (rest := []) (lenOf pd__ILjava_lang_Object__V rfl) rfl (by show 2 * 0 + _ ≤ _; exact Nat.le_of_eq rfl) (hb hby at_169) (fun _ _ => ⟨rfl, rfl, (by decide : 5 + 0 ≤ _), (by decide : 196614 + 0 ≤ _)⟩)
  dsimp only [Pt.U, Pt.locs, Pt.cells, Pt.slots] at X_q19 l_q19 y_q19 z_q19 st_q19 hQ_q19
  subst l_q19 y_q19 z_q19
  obtain ⟨rfl, Nq_q19, W_q19, Kq_q19, hW_q19, PA_q19⟩ := hQ_q19
  have N_q19 := Fr.app N_q17 Nq_q19
  have EX_b11__q19 := EX_b11__q17.keep Kq_q19
  have EX_q13__q19 := EX_q13__q17.keep Kq_q19
  have K_q19 : Keep h0 T_q19.heap [] := K_q17.trans Kq_q19 (fun x hx => Or.inr (Nat.le_trans sz0 (hW_q19 x hx)))
  obtain ⟨cq_q21, kq_q21, qa_q21, qb_q21, qc_q21⟩ := isOf hZ rfl EX_q13__q19
  obtain ⟨_, _, ⟨T_q21, L_q21, k_q21, n_q21⟩, -, X_q21, ⟨Lc_q21, hQ_q21, l_q21, y_q21, z_q21⟩, st_q21⟩ := X_q19.virtualBack hx (y := (⟨"com/example/hashwright/hashwright/table/PagedArray", "get", "(I)Ljava/lang/Object;"⟩ : MethodName)) (z := (⟨"com/example/hashwright/hashwright/table/PagedArray", "get", "(I)Ljava/lang/Object;"⟩ : MethodName)) hown (mvT hZ (own_w hw 41 rfl)) (mvT hZ (own_w hw 42 rfl)) (notFace_of_selects (args := #[]) (mvT hZ (own_w hw 44 rfl))) (mvT hZ (own_w hw 44 rfl)) (mvT hZ (own_w hw 43 rfl)) (by decide) (backOf (W := 0) (rmGetr l Z a0 hw [] b_q13 nn kk h_q13.size (own_up (own_up (fun _ => (.ref b7)) (((p2 &&& (2147483647 : Int32)) % nn)).toNatClampNeg (.ref b11)) (((p3 &&& (2147483647 : Int32)) % nn)).toNatClampNeg (.ref b13)) b11 T_q19.heap n0 (Nat.le_trans Z0 K_q19.1) PA_q19 hc_q22 hc_q23) hZ (own_w hw 45 rfl) (own_w hw 11 rfl) (by decide) (by decide)) qa_q21 qc_q21 (g := (mkF m 176 #[.val (.int p1), .val (.int p2), .val (.int p3), .val (.int p4), .val (.int p5), .val (.int g1), .val (.int g2), .val (.int (((p5.toUInt32 >>> ((2 : Int32) &&& 31).toUInt32).toInt32) &&& (3 : Int32))), .val (.int nn), .val (.int ((p2 &&& (2147483647 : Int32)) % nn)), .val (.int ((p3 &&& (2147483647 : Int32)) % nn)), .val (.int kk), .val (.ref b7), .val (.ref b11), .val (.ref b13), .val (.ref b_q13), .unset, .unset] [(.int kk), (.ref b_q13)])) rfl (by rw [hml]; rfl) (Steps.refl _) (argsL := [(.int kk)]) (rest := []) (lenOf pd__I_Ljava_lang_Object_ rfl) rfl (by show 2 * 0 + _ ≤ _; exact Nat.le_of_eq rfl) (hb hby at_176) (fun _ _ => ⟨rfl, rfl, (by decide : 5 + 0 ≤ _), (by decide : 196614 + 0 ≤ _)⟩)
  dsimp only [Pt.U, Pt.locs, Pt.cells, Pt.slots] at X_q21 l_q21 y_q21 z_q21 st_q21 hQ_q21
  subst l_q21 y_q21 z_q21
  obtain ⟨rfl, Nq_q21, eq_q21⟩ := hQ_q21
  have Kq_q21 : Keep T_q19.heap T_q21.heap [] := by rw [eq_q21]; exact Keep.refl _ _
  have N_q21 := Fr.app N_q19 Nq_q21
  have EX_b11__q21 := EX_b11__q19.keep Kq_q21
  obtain ⟨T_q24, X_q24, e_q24, st_q24⟩ := castY X_q21 hx hZ hown (own_w hw 46 rfl) rfl (Ins.self EX_b11__q21) (g := (mkF m 179 #[.val (.int p1), .val (.int p2), .val (.int p3), .val (.int p4), .val (.int p5), .val (.int g1), .val (.int g2), .val (.int (((p5.toUInt32 >>> ((2 : Int32) &&& 31).toUInt32).toInt32) &&& (3 : Int32))), .val (.int nn), .val (.int ((p2 &&& (2147483647 : Int32)) % nn)), .val (.int ((p3 &&& (2147483647 : Int32)) % nn)), .val (.int kk), .val (.ref b7), .val (.ref b11), .val (.ref b13), .val (.ref b_q13), .unset, .unset] [(.ref b11)])) rfl rfl (hb hby at_179)
  obtain ⟨fs, hr, hrun, hended, hW, hsame⟩ := X_q24.leave (v := some (.int (1 : Int32))) (fun h => by rw [Bd.returns] at h; cases h) Bd.notSynchronized
  refine ⟨_, _, pre0 _ ?_, hrun, hended, _, _, rfl, ?_, ⟨_, rfl⟩, hW, hsame.mono (by decide) (by decide)⟩
  · show Steps p.tables e below (s₁.setTop (mkF m 0 #[.val (.int p1), .val (.int p2), .val (.int p3), .val (.int p4), .val (.int p5), .unset, .unset, .unset, .unset, .unset, .unset, .unset, .unset, .unset, .unset, .unset, .unset, .unset] [])) _
    refine own_fA p1 p2 p3 p4 p5 g1 X0 hx hby hZ hw hown hc_q1 ?_
    show Steps p.tables e below (s₁.setTop (mkF m 14 #[.val (.int p1), .val (.int p2), .val (.int p3), .val (.int p4), .val (.int p5), .val (.int g1), .unset, .unset, .unset, .unset, .unset, .unset, .unset, .unset, .unset, .unset, .unset, .unset] [])) _
    refine own_fB p1 p2 p3 p4 p5 g1 g2 X0 hx hby hZ hw hown hc_q2 ?_
    refine XS.iload X0.here hx rfl (hb hby at_28) rfl ?_
    refine XS.iconst X0.here hx rfl (hb hby at_30) ?_
    refine XS.iushr X0.here hx rfl (hb hby at_31) rfl ?_
    show Steps p.tables e below (s₁.setTop (mkF m 32 #[.val (.int p1), .val (.int p2), .val (.int p3), .val (.int p4), .val (.int p5), .val (.int g1), .val (.int g2), .unset, .unset, .unset, .unset, .unset, .unset, .unset, .unset, .unset, .unset, .unset] [(.int ((p5.toUInt32 >>> ((2 : Int32) &&& 31).toUInt32).toInt32))])) _
    refine XS.iconst X0.here hx rfl (hb hby at_32) ?_
    refine XS.iand X0.here hx rfl (hb hby at_33) rfl ?_
    refine XS.istore X0.here hx rfl (hb hby at_34) rfl (l' := #[.val (.int p1), .val (.int p2), .val (.int p3), .val (.int p4), .val (.int p5), .val (.int g1), .val (.int g2), .val (.int (((p5.toUInt32 >>> ((2 : Int32) &&& 31).toUInt32).toInt32) &&& (3 : Int32))), .unset, .unset, .unset, .unset, .unset, .unset, .unset, .unset, .unset, .unset]) rfl ?_
    show Steps p.tables e below (s₁.setTop (mkF m 36 #[.val (.int p1), .val (.int p2), .val (.int p3), .val (.int p4), .val (.int p5), .val (.int g1), .val (.int g2), .val (.int (((p5.toUInt32 >>> ((2 : Int32) &&& 31).toUInt32).toInt32) &&& (3 : Int32))), .unset, .unset, .unset, .unset, .unset, .unset, .unset, .unset, .unset, .unset] [])) _
    refine own_fC p1 p2 p3 p4 p5 g1 g2 (((p5.toUInt32 >>> ((2 : Int32) &&& 31).toUInt32).toInt32) &&& (3 : Int32)) nn X0 hx hby hZ hw hown hc_q3 ?_
    refine XS.iloadN X0.here hx rfl (hb hby at_59) rfl ?_
    show Steps p.tables e below (s₁.setTop (mkF m 60 #[.val (.int p1), .val (.int p2), .val (.int p3), .val (.int p4), .val (.int p5), .val (.int g1), .val (.int g2), .val (.int (((p5.toUInt32 >>> ((2 : Int32) &&& 31).toUInt32).toInt32) &&& (3 : Int32))), .val (.int nn), .unset, .unset, .unset, .unset, .unset, .unset, .unset, .unset, .unset] [(.int p2)])) _
    refine X0.ldcInt hx hown (mvT hZ (own_w hw 1 rfl)) (g := (mkF m 60 #[.val (.int p1), .val (.int p2), .val (.int p3), .val (.int p4), .val (.int p5), .val (.int g1), .val (.int g2), .val (.int (((p5.toUInt32 >>> ((2 : Int32) &&& 31).toUInt32).toInt32) &&& (3 : Int32))), .val (.int nn), .unset, .unset, .unset, .unset, .unset, .unset, .unset, .unset, .unset] [(.int p2)])) rfl (hb hby at_60) _ ?_
    refine XS.iand X0.here hx rfl (hb hby at_62) rfl ?_
    refine XS.iload X0.here hx rfl (hb hby at_63) rfl ?_
    show Steps p.tables e below (s₁.setTop (mkF m 65 #[.val (.int p1), .val (.int p2), .val (.int p3), .val (.int p4), .val (.int p5), .val (.int g1), .val (.int g2), .val (.int (((p5.toUInt32 >>> ((2 : Int32) &&& 31).toUInt32).toInt32) &&& (3 : Int32))), .val (.int nn), .unset, .unset, .unset, .unset, .unset, .unset, .unset, .unset, .unset] [(.int nn), (.int (p2 &&& (2147483647 : Int32)))])) _
    refine iremM X0 hx rfl (hb hby at_65) rfl hc_q4 ?_
    refine XS.istore X0.here hx rfl (hb hby at_66) rfl (l' := #[.val (.int p1), .val (.int p2), .val (.int p3), .val (.int p4), .val (.int p5), .val (.int g1), .val (.int g2), .val (.int (((p5.toUInt32 >>> ((2 : Int32) &&& 31).toUInt32).toInt32) &&& (3 : Int32))), .val (.int nn), .val (.int ((p2 &&& (2147483647 : Int32)) % nn)), .unset, .unset, .unset, .unset, .unset, .unset, .unset, .unset]) rfl ?_
    refine XS.iloadN X0.here hx rfl (hb hby at_68) rfl ?_
    show Steps p.tables e below (s₁.setTop (mkF m 69 #[.val (.int p1), .val (.int p2), .val (.int p3), .val (.int p4), .val (.int p5), .val (.int g1), .val (.int g2), .val (.int (((p5.toUInt32 >>> ((2 : Int32) &&& 31).toUInt32).toInt32) &&& (3 : Int32))), .val (.int nn), .val (.int ((p2 &&& (2147483647 : Int32)) % nn)), .unset, .unset, .unset, .unset, .unset, .unset, .unset, .unset] [(.int p3)])) _
    refine X0.ldcInt hx hown (mvT hZ (own_w hw 1 rfl)) (g := (mkF m 69 #[.val (.int p1), .val (.int p2), .val (.int p3), .val (.int p4), .val (.int p5), .val (.int g1), .val (.int g2), .val (.int (((p5.toUInt32 >>> ((2 : Int32) &&& 31).toUInt32).toInt32) &&& (3 : Int32))), .val (.int nn), .val (.int ((p2 &&& (2147483647 : Int32)) % nn)), .unset, .unset, .unset, .unset, .unset, .unset, .unset, .unset] [(.int p3)])) rfl (hb hby at_69) _ ?_
    refine XS.iand X0.here hx rfl (hb hby at_71) rfl ?_
    refine XS.iload X0.here hx rfl (hb hby at_72) rfl ?_
    show Steps p.tables e below (s₁.setTop (mkF m 74 #[.val (.int p1), .val (.int p2), .val (.int p3), .val (.int p4), .val (.int p5), .val (.int g1), .val (.int g2), .val (.int (((p5.toUInt32 >>> ((2 : Int32) &&& 31).toUInt32).toInt32) &&& (3 : Int32))), .val (.int nn), .val (.int ((p2 &&& (2147483647 : Int32)) % nn)), .unset, .unset, .unset, .unset, .unset, .unset, .unset, .unset] [(.int nn), (.int (p3 &&& (2147483647 : Int32)))])) _
    refine iremM X0 hx rfl (hb hby at_74) rfl hc_q4 ?_
    refine XS.istore X0.here hx rfl (hb hby at_75) rfl (l' := #[.val (.int p1), .val (.int p2), .val (.int p3), .val (.int p4), .val (.int p5), .val (.int g1), .val (.int g2), .val (.int (((p5.toUInt32 >>> ((2 : Int32) &&& 31).toUInt32).toInt32) &&& (3 : Int32))), .val (.int nn), .val (.int ((p2 &&& (2147483647 : Int32)) % nn)), .val (.int ((p3 &&& (2147483647 : Int32)) % nn)), .unset, .unset, .unset, .unset, .unset, .unset, .unset]) rfl ?_
    show Steps p.tables e below (s₁.setTop (mkF m 77 #[.val (.int p1), .val (.int p2), .val (.int p3), .val (.int p4), .val (.int p5), .val (.int g1), .val (.int g2), .val (.int (((p5.toUInt32 >>> ((2 : Int32) &&& 31).toUInt32).toInt32) &&& (3 : Int32))), .val (.int nn), .val (.int ((p2 &&& (2147483647 : Int32)) % nn)), .val (.int ((p3 &&& (2147483647 : Int32)) % nn)), .unset, .unset, .unset, .unset, .unset, .unset, .unset] [])) _
    refine own_fD p1 p2 p3 p4 p5 g1 g2 (((p5.toUInt32 >>> ((2 : Int32) &&& 31).toUInt32).toInt32) &&& (3 : Int32)) nn ((p2 &&& (2147483647 : Int32)) % nn) ((p3 &&& (2147483647 : Int32)) % nn) kk X0 hx hby hZ hw hown hc_q5 hc_q4 ?_
    refine XS.iload X0.here hx rfl (hb hby at_111) rfl ?_
    refine XS.ifYes X0.here hx rfl (pc0 := 113) (pc' := 120) rfl (hb hby at_113) rfl ((if0 _ _).trans (teq hc_q6).1) (by decide) (by decide) ?_
    refine XS.bipush X0.here hx rfl (hb hby at_120) ?_
    show Steps p.tables e below (s₁.setTop (mkF m 122 #[.val (.int p1), .val (.int p2), .val (.int p3), .val (.int p4), .val (.int p5), .val (.int g1), .val (.int g2), .val (.int (((p5.toUInt32 >>> ((2 : Int32) &&& 31).toUInt32).toInt32) &&& (3 : Int32))), .val (.int nn), .val (.int ((p2 &&& (2147483647 : Int32)) % nn)), .val (.int ((p3 &&& (2147483647 : Int32)) % nn)), .val (.int kk), .unset, .unset, .unset, .unset, .unset, .unset] [(.int (7 : Int32))])) _
    refine st_q7 _ ?_
    refine XS.astore X_q7.here hx rfl (hb hby at_125) rfl rfl (l' := #[.val (.int p1), .val (.int p2), .val (.int p3), .val (.int p4), .val (.int p5), .val (.int g1), .val (.int g2), .val (.int (((p5.toUInt32 >>> ((2 : Int32) &&& 31).toUInt32).toInt32) &&& (3 : Int32))), .val (.int nn), .val (.int ((p2 &&& (2147483647 : Int32)) % nn)), .val (.int ((p3 &&& (2147483647 : Int32)) % nn)), .val (.int kk), .val (.ref b7), .unset, .unset, .unset, .unset, .unset]) rfl ?_
    refine XS.bipush X_q7.here hx rfl (hb hby at_127) ?_
    show Steps p.tables e below (T_q7.setTop (mkF m 129 #[.val (.int p1), .val (.int p2), .val (.int p3), .val (.int p4), .val (.int p5), .val (.int g1), .val (.int g2), .val (.int (((p5.toUInt32 >>> ((2 : Int32) &&& 31).toUInt32).toInt32) &&& (3 : Int32))), .val (.int nn), .val (.int ((p2 &&& (2147483647 : Int32)) % nn)), .val (.int ((p3 &&& (2147483647 : Int32)) % nn)), .val (.int kk), .val (.ref b7), .unset, .unset, .unset, .unset, .unset] [(.int (11 : Int32))])) _
    refine st_q9 _ ?_
    refine XS.astore X_q9.here hx rfl (hb hby at_132) rfl rfl (l' := #[.val (.int p1), .val (.int p2), .val (.int p3), .val (.int p4), .val (.int p5), .val (.int g1), .val (.int g2), .val (.int (((p5.toUInt32 >>> ((2 : Int32) &&& 31).toUInt32).toInt32) &&& (3 : Int32))), .val (.int nn), .val (.int ((p2 &&& (2147483647 : Int32)) % nn)), .val (.int ((p3 &&& (2147483647 : Int32)) % nn)), .val (.int kk), .val (.ref b7), .val (.ref b11), .unset, .unset, .unset, .unset]) rfl ?_
    refine XS.bipush X_q9.here hx rfl (hb hby at_134) ?_
    show Steps p.tables e below (T_q9.setTop (mkF m 136 #[.val (.int p1), .val (.int p2), .val (.int p3), .val (.int p4), .val (.int p5), .val (.int g1), .val (.int g2), .val (.int (((p5.toUInt32 >>> ((2 : Int32) &&& 31).toUInt32).toInt32) &&& (3 : Int32))), .val (.int nn), .val (.int ((p2 &&& (2147483647 : Int32)) % nn)), .val (.int ((p3 &&& (2147483647 : Int32)) % nn)), .val (.int kk), .val (.ref b7), .val (.ref b11), .unset, .unset, .unset, .unset] [(.int (13 : Int32))])) _
    refine st_q11 _ ?_
    refine XS.astore X_q11.here hx rfl (hb hby at_139) rfl rfl (l' := #[.val (.int p1), .val (.int p2), .val (.int p3), .val (.int p4), .val (.int p5), .val (.int g1), .val (.int g2), .val (.int (((p5.toUInt32 >>> ((2 : Int32) &&& 31).toUInt32).toInt32) &&& (3 : Int32))), .val (.int nn), .val (.int ((p2 &&& (2147483647 : Int32)) % nn)), .val (.int ((p3 &&& (2147483647 : Int32)) % nn)), .val (.int kk), .val (.ref b7), .val (.ref b11), .val (.ref b13), .unset, .unset, .unset]) rfl ?_
    show Steps p.tables e below (T_q11.setTop (mkF m 141 #[.val (.int p1), .val (.int p2), .val (.int p3), .val (.int p4), .val (.int p5), .val (.int g1), .val (.int g2), .val (.int (((p5.toUInt32 >>> ((2 : Int32) &&& 31).toUInt32).toInt32) &&& (3 : Int32))), .val (.int nn), .val (.int ((p2 &&& (2147483647 : Int32)) % nn)), .val (.int ((p3 &&& (2147483647 : Int32)) % nn)), .val (.int kk), .val (.ref b7), .val (.ref b11), .val (.ref b13), .unset, .unset, .unset] [])) _
    refine st_q13 _ ?_
    refine XS.dup X_q13.here hx rfl (hb hby at_144) rfl rfl ?_
    refine XS.iload X_q13.here hx rfl (hb hby at_145) rfl ?_
    refine XS.aload X_q13.here hx rfl (hb hby at_147) rfl rfl ?_
    show Steps p.tables e below (T_q13.setTop (mkF m 149 #[.val (.int p1), .val (.int p2), .val (.int p3), .val (.int p4), .val (.int p5), .val (.int g1), .val (.int g2), .val (.int (((p5.toUInt32 >>> ((2 : Int32) &&& 31).toUInt32).toInt32) &&& (3 : Int32))), .val (.int nn), .val (.int ((p2 &&& (2147483647 : Int32)) % nn)), .val (.int ((p3 &&& (2147483647 : Int32)) % nn)), .val (.int kk), .val (.ref b7), .val (.ref b11), .val (.ref b13), .unset, .unset, .unset] [(.ref b7), (.int nn), (.ref b_q13), (.ref b_q13)])) _
    refine st_q14.trans ?_
    refine XS.astore X_q14.here hx rfl (hb hby at_152) rfl rfl (l' := #[.val (.int p1), .val (.int p2), .val (.int p3), .val (.int p4), .val (.int p5), .val (.int g1), .val (.int g2), .val (.int (((p5.toUInt32 >>> ((2 : Int32) &&& 31).toUInt32).toInt32) &&& (3 : Int32))), .val (.int nn), .val (.int ((p2 &&& (2147483647 : Int32)) % nn)), .val (.int ((p3 &&& (2147483647 : Int32)) % nn)), .val (.int kk), .val (.ref b7), .val (.ref b11), .val (.ref b13), .val (.ref b_q13), .unset, .unset]) rfl ?_
    refine XS.aload X_q14.here hx rfl (hb hby at_154) rfl rfl ?_
    refine XS.iload X_q14.here hx rfl (hb hby at_156) rfl ?_
    show Steps p.tables e below (T_q14.setTop (mkF m 158 #[.val (.int p1), .val (.int p2), .val (.int p3), .val (.int p4), .val (.int p5), .val (.int g1), .val (.int g2), .val (.int (((p5.toUInt32 >>> ((2 : Int32) &&& 31).toUInt32).toInt32) &&& (3 : Int32))), .val (.int nn), .val (.int ((p2 &&& (2147483647 : Int32)) % nn)), .val (.int ((p3 &&& (2147483647 : Int32)) % nn)), .val (.int kk), .val (.ref b7), .val (.ref b11), .val (.ref b13), .val (.ref b_q13), .unset, .unset] [(.int ((p2 &&& (2147483647 : Int32)) % nn)), (.ref b_q13)])) _
    refine XS.aload X_q14.here hx rfl (hb hby at_158) rfl rfl ?_
    show Steps p.tables e below (T_q14.setTop (mkF m 160 #[.val (.int p1), .val (.int p2), .val (.int p3), .val (.int p4), .val (.int p5), .val (.int g1), .val (.int g2), .val (.int (((p5.toUInt32 >>> ((2 : Int32) &&& 31).toUInt32).toInt32) &&& (3 : Int32))), .val (.int nn), .val (.int ((p2 &&& (2147483647 : Int32)) % nn)), .val (.int ((p3 &&& (2147483647 : Int32)) % nn)), .val (.int kk), .val (.ref b7), .val (.ref b11), .val (.ref b13), .val (.ref b_q13), .unset, .unset] [(.ref b11), (.int ((p2 &&& (2147483647 : Int32)) % nn)), (.ref b_q13)])) _
    refine st_q17.trans ?_
    refine XS.aload X_q17.here hx rfl (hb hby at_163) rfl rfl ?_
    refine XS.iload X_q17.here hx rfl (hb hby at_165) rfl ?_
    refine XS.aload X_q17.here hx rfl (hb hby at_167) rfl rfl ?_
    show Steps p.tables e below (T_q17.setTop (mkF m 169 #[.val (.int p1), .val (.int p2), .val (.int p3), .val (.int p4), .val (.int p5), .val (.int g1), .val (.int g2), .val (.int (((p5.toUInt32 >>> ((2 : Int32) &&& 31).toUInt32).toInt32) &&& (3 : Int32))), .val (.int nn), .val (.int ((p2 &&& (2147483647 : Int32)) % nn)), .val (.int ((p3 &&& (2147483647 : Int32)) % nn)), .val (.int kk), .val (.ref b7), .val (.ref b11), .val (.ref b13), .val (.ref b_q13), .unset, .unset] [(.ref b13), (.int ((p3 &&& (2147483647 : Int32)) % nn)), (.ref b_q13)])) _
    refine st_q19.trans ?_
    refine XS.aload X_q19.here hx rfl (hb hby at_172) rfl rfl ?_
    refine XS.iload X_q19.here hx rfl (hb hby at_174) rfl ?_
    show Steps p.tables e below (T_q19.setTop (mkF m 176 #[.val (.int p1), .val (.int p2), .val (.int p3), .val (.int p4), .val (.int p5), .val (.int g1), .val (.int g2), .val (.int (((p5.toUInt32 >>> ((2 : Int32) &&& 31).toUInt32).toInt32) &&& (3 : Int32))), .val (.int nn), .val (.int ((p2 &&& (2147483647 : Int32)) % nn)), .val (.int ((p3 &&& (2147483647 : Int32)) % nn)), .val (.int kk), .val (.ref b7), .val (.ref b11), .val (.ref b13), .val (.ref b_q13), .unset, .unset] [(.int kk), (.ref b_q13)])) _
    refine st_q21.trans ?_
    show Steps p.tables e below (T_q21.setTop (mkF m 179 #[.val (.int p1), .val (.int p2), .val (.int p3), .val (.int p4), .val (.int p5), .val (.int g1), .val (.int g2), .val (.int (((p5.toUInt32 >>> ((2 : Int32) &&& 31).toUInt32).toInt32) &&& (3 : Int32))), .val (.int nn), .val (.int ((p2 &&& (2147483647 : Int32)) % nn)), .val (.int ((p3 &&& (2147483647 : Int32)) % nn)), .val (.int kk), .val (.ref b7), .val (.ref b11), .val (.ref b13), .val (.ref b_q13), .unset, .unset] [(.ref b11)])) _
    refine st_q24 _ ?_
    refine XS.astore X_q24.here hx rfl (hb hby at_182) rfl rfl (l' := #[.val (.int p1), .val (.int p2), .val (.int p3), .val (.int p4), .val (.int p5), .val (.int g1), .val (.int g2), .val (.int (((p5.toUInt32 >>> ((2 : Int32) &&& 31).toUInt32).toInt32) &&& (3 : Int32))), .val (.int nn), .val (.int ((p2 &&& (2147483647 : Int32)) % nn)), .val (.int ((p3 &&& (2147483647 : Int32)) % nn)), .val (.int kk), .val (.ref b7), .val (.ref b11), .val (.ref b13), .val (.ref b_q13), .val (.ref b11), .unset]) rfl ?_
    refine XS.iload X_q24.here hx rfl (hb hby at_184) rfl ?_
    refine XS.iload X_q24.here hx rfl (hb hby at_186) rfl ?_
    show Steps p.tables e below (T_q24.setTop (mkF m 188 #[.val (.int p1), .val (.int p2), .val (.int p3), .val (.int p4), .val (.int p5), .val (.int g1), .val (.int g2), .val (.int (((p5.toUInt32 >>> ((2 : Int32) &&& 31).toUInt32).toInt32) &&& (3 : Int32))), .val (.int nn), .val (.int ((p2 &&& (2147483647 : Int32)) % nn)), .val (.int ((p3 &&& (2147483647 : Int32)) % nn)), .val (.int kk), .val (.ref b7), .val (.ref b11), .val (.ref b13), .val (.ref b_q13), .val (.ref b11), .unset] [(.int ((p3 &&& (2147483647 : Int32)) % nn)), (.int kk)])) _
    refine XS.icmpYes X_q24.here hx rfl (pc0 := 188) (pc' := 198) rfl (hb hby at_188) rfl (feq hc_q25).2 (by decide) (by decide) ?_
    refine XS.iload X_q24.here hx rfl (hb hby at_198) rfl ?_
    refine XS.iload X_q24.here hx rfl (hb hby at_200) rfl ?_
    refine XS.icmpNo X_q24.here hx rfl (hb hby at_202) rfl (teq hc_q26).2 ?_
    show Steps p.tables e below (T_q24.setTop (mkF m 205 #[.val (.int p1), .val (.int p2), .val (.int p3), .val (.int p4), .val (.int p5), .val (.int g1), .val (.int g2), .val (.int (((p5.toUInt32 >>> ((2 : Int32) &&& 31).toUInt32).toInt32) &&& (3 : Int32))), .val (.int nn), .val (.int ((p2 &&& (2147483647 : Int32)) % nn)), .val (.int ((p3 &&& (2147483647 : Int32)) % nn)), .val (.int kk), .val (.ref b7), .val (.ref b11), .val (.ref b13), .val (.ref b_q13), .val (.ref b11), .unset] [])) _
    refine XS.aload X_q24.here hx rfl (hb hby at_205) rfl rfl ?_
    refine XS.astore X_q24.here hx rfl (hb hby at_207) rfl rfl (l' := #[.val (.int p1), .val (.int p2), .val (.int p3), .val (.int p4), .val (.int p5), .val (.int g1), .val (.int g2), .val (.int (((p5.toUInt32 >>> ((2 : Int32) &&& 31).toUInt32).toInt32) &&& (3 : Int32))), .val (.int nn), .val (.int ((p2 &&& (2147483647 : Int32)) % nn)), .val (.int ((p3 &&& (2147483647 : Int32)) % nn)), .val (.int kk), .val (.ref b7), .val (.ref b11), .val (.ref b13), .val (.ref b_q13), .val (.ref b11), .val (.ref b11)]) rfl ?_
    refine XS.goto X_q24.here hx rfl (pc0 := 209) (pc' := 216) rfl (hb hby at_209) (by decide) (by decide) ?_
    refine XS.aload X_q24.here hx rfl (hb hby at_216) rfl rfl ?_
    show Steps p.tables e below (T_q24.setTop (mkF m 218 #[.val (.int p1), .val (.int p2), .val (.int p3), .val (.int p4), .val (.int p5), .val (.int g1), .val (.int g2), .val (.int (((p5.toUInt32 >>> ((2 : Int32) &&& 31).toUInt32).toInt32) &&& (3 : Int32))), .val (.int nn), .val (.int ((p2 &&& (2147483647 : Int32)) % nn)), .val (.int ((p3 &&& (2147483647 : Int32)) % nn)), .val (.int kk), .val (.ref b7), .val (.ref b11), .val (.ref b13), .val (.ref b_q13), .val (.ref b11), .val (.ref b11)] [(.ref b11)])) _
    refine XS.aload X_q24.here hx rfl (hb hby at_218) rfl rfl ?_
    show Steps p.tables e below (T_q24.setTop (mkF m 220 #[.val (.int p1), .val (.int p2), .val (.int p3), .val (.int p4), .val (.int p5), .val (.int g1), .val (.int g2), .val (.int (((p5.toUInt32 >>> ((2 : Int32) &&& 31).toUInt32).toInt32) &&& (3 : Int32))), .val (.int nn), .val (.int ((p2 &&& (2147483647 : Int32)) % nn)), .val (.int ((p3 &&& (2147483647 : Int32)) % nn)), .val (.int kk), .val (.ref b7), .val (.ref b11), .val (.ref b13), .val (.ref b_q13), .val (.ref b11), .val (.ref b11)] [(.ref b11), (.ref b11)])) _
    refine acmp X_q24 hx rfl rfl rfl (pc0 := 220) (pc' := 223) (same := true) rfl (hb hby at_220) rfl (decide_eq_true rfl) (by decide) rfl ?_
    refine XS.iconst X_q24.here hx rfl (hb hby at_223) ?_
    refine XS.goto X_q24.here hx rfl (pc0 := 224) (pc' := 228) rfl (hb hby at_224) (by decide) (by decide) ?_
    show Steps p.tables e below (T_q24.setTop (mkF m 228 #[.val (.int p1), .val (.int p2), .val (.int p3), .val (.int p4), .val (.int p5), .val (.int g1), .val (.int g2), .val (.int (((p5.toUInt32 >>> ((2 : Int32) &&& 31).toUInt32).toInt32) &&& (3 : Int32))), .val (.int nn), .val (.int ((p2 &&& (2147483647 : Int32)) % nn)), .val (.int ((p3 &&& (2147483647 : Int32)) % nn)), .val (.int kk), .val (.ref b7), .val (.ref b11), .val (.ref b13), .val (.ref b_q13), .val (.ref b11), .val (.ref b11)] [(.int (1 : Int32))])) _
    exact retN X_q24 hx (t := .boolean) Bd.returns (by simp) (hb hby at_228) hr
  · show Q_rm0_r2 Z p1 p2 p3 p4 p5 g1 g2 nn kk ca b7 b11 b13 kc CF h0 n0 _ T_q24.heap _
    rw [e_q24]
    exact ⟨rfl, N_q21⟩
def Q_rm0_r3 (Z : State) (p1 p2 p3 p4 p5 : Int32) (g1 g2 nn kk : Int32) (ca b7 b11 b13 : Addr) (kc : ClassId) (CF : Nat → Value) (h0 : Heap) (n0 : Nat) (v : Option Value) (h : Heap) (L : List Loc) : Prop := v = some (.int (1 : Int32)) ∧ Fr n0 L
set_option maxRecDepth 65536 in
set_option maxHeartbeats 40000000 in
theorem rm0_r3 (l : Launch) (Z : State) (a0 : Array Value) (hw : ∀ d ∈ tables_1, d.before a0 Z = true) (ws : List Jvm.Cond) (p1 p2 p3 p4 p5 : Int32) (g1 g2 nn kk : Int32) (ca b7 b11 b13 : Addr) (kc : ClassId) (CF : Nat → Value) (h0 : Heap) (n0 : Nat) (Z0 : n0 ≤ h0.size) (S_high : Sta Z h0 "java/lang/Integer$IntegerCache" "high" "I" (.int (127 : Int32))) (S_cache : Sta Z h0 "java/lang/Integer$IntegerCache" "cache" "[Ljava/lang/Integer;" (.ref ca)) (V_ca : Arv Z h0 ca kc (.object "java/lang/Integer") (256 : Int32) (own_R ((256 : Int32)).toNatClampNeg CF) .null) (EX_b7 : Exa Z h0 b7 "java/lang/Integer") (EX_b11 : Exa Z h0 b11 "java/lang/Integer") (EX_b13 : Exa Z h0 b13 "java/lang/Integer") (hc_q1 : own_fl (p5 &&& (1 : Int32)) g1) (hc_q2 : own_fl (p5 &&& (2 : Int32)) g2) (hc_q3 : own_nn p1 g1 nn) (hc_q4 : nn ≠ 0) (hc_q5 : own_kk (((p5.toUInt32 >>> ((2 : Int32) &&& 31).toUInt32).toInt32) &&& (3 : Int32)) ((p2 &&& (2147483647 : Int32)) % nn) ((p3 &&& (2147483647 : Int32)) % nn) p4 nn kk) (hc_q6 : g2 = (0 : Int32)) (hc_q8 : (CF (((7 : Int32) + (128 : Int32))).toNatClampNeg) = (.ref b7)) (hc_q10 : (CF (((11 : Int32) + (128 : Int32))).toNatClampNeg) = (.ref b11)) (hc_q12 : (CF (((13 : Int32) + (128 : Int32))).toNatClampNeg) = (.ref b13)) (hc_q15 : 0 < (nn).toInt) (hc_q16 : (nn).toInt ≤ 196608) (hc_q18 : ¬ ((p2 &&& (2147483647 : Int32)) % nn) < 0 ∧ ((p2 &&& (2147483647 : Int32)) % nn) < nn) (hc_q20 : ¬ ((p3 &&& (2147483647 : Int32)) % nn) < 0 ∧ ((p3 &&& (2147483647 : Int32)) % nn) < nn) (hc_q22 : ¬ kk < 0 ∧ kk < nn) (hc_q23 : (own_up (own_up (fun _ => (.ref b7)) (((p2 &&& (2147483647 : Int32)) % nn)).toNatClampNeg (.ref b11)) (((p3 &&& (2147483647 : Int32)) % nn)).toNatClampNeg (.ref b13)) (kk).toNatClampNeg = (.ref b7)) (hc_q25 : ¬ (kk = ((p3 &&& (2147483647 : Int32)) % nn))) (hc_q26 : ¬ (kk = ((p2 &&& (2147483647 : Int32)) % nn))) :
    MetFree l x (head1 (Jvm.Cond.code x code maxLocals ret :: ws) room_1) (fun a U => a = #[(.int p1), (.int p2), (.int p3), (.int p4), (.int p5)] ∧ Z.Warmed39 U.vm ∧ U.heap = h0) (fun _ _ _ _ _ => True) (fun _ U o U' => ∃ v L, o = .returned v ∧ Q_rm0_r3 Z p1 p2 p3 p4 p5 g1 g2 nn kk ca b7 b11 b13 kc CF h0 n0 v U'.heap L ∧ FrameEnd U o U' L room_1.cells room_1.slots) := by
  refine MetFree.of_bodySF (plainFor_of_name pn_0) hisR ?_
  intro p e s m args below meth c s₁ Bd hml0 hP hK
  obtain ⟨rfl, hZ, hh⟩ := hP
  have hx := Bd.exec
  have hby := Bd.bytes
  have hml : c.maxLocals = 18 := hml0
  have hown : s.vm.findClass "com/example/hashwright/hashwright/table/PagedArrayGetPinLaw" = some m.cls := findClass_of_methodNamed Bd.named
  have hnm := (name_of_methodNamed Bd.named Bd.method).1
  have X0 : Stand p l e room_1 s m #[(.int p1), (.int p2), (.int p3), (.int p4), (.int p5)] below meth c s₁ [] 0 0 := Stand.of_body Bd
  have e0 : s₁.heap = h0 := by rw [← hh, Bd.state]; rfl
  have N0 := Fr.nil n0
  have pre0 : ∀ t, Steps p.tables e below (s₁.setTop (mkF m 0 #[.val (.int p1), .val (.int p2), .val (.int p3), .val (.int p4), .val (.int p5), .unset, .unset, .unset, .unset, .unset, .unset, .unset, .unset, .unset, .unset, .unset, .unset, .unset] [])) t → Steps p.tables e below (s₁.setTop (entryFrame m #[(.int p1), (.int p2), (.int p3), (.int p4), (.int p5)] maxLocals)) t := fun t k => castTop (ef_0 m p1 p2 p3 p4 p5) k
  have K0 : Keep h0 h0 [] := Keep.refl _ _
  obtain ⟨_, _, ⟨T_q7, L_q7, k_q7, n_q7⟩, -, X_q7, ⟨Lc_q7, hQ_q7, l_q7, y_q7, z_q7⟩, st_q7⟩ := Jvm.LawKit.callS X0 hx (y := (⟨"java/lang/Integer", "valueOf", "(I)Ljava/lang/Integer;"⟩ : MethodName)) hown (mvT hZ (own_w hw 2 rfl)) (mvT hZ (own_w hw 3 rfl)) (mvT hZ (own_w hw 4 rfl)) (mvT hZ (own_w hw 5 rfl)) (by decide) (backOf (W := 0) (rmVal l Z a0 hw [] ca b7 kc CF (7 : Int32) h0 n0 (Nat.le_trans Z0 K0.1) S_high S_cache V_ca hc_q8 (by decide) (by decide) (by decide)) hZ (own_w hw 5 rfl) (own_w hw 4 rfl) (by decide) (by decide)) (g := (mkF m 122 #[.val (.int p1), .val (.int p2), .val (.int p3), .val (.int p4), .val (.int p5), .val (.int g1), .val (.int g2), .val (.int (((p5.toUInt32 >>> ((2 : Int32) &&& 31).toUInt32).toInt32) &&& (3 : Int32))), .val (.int nn), .val (.int ((p2 &&& (2147483647 : Int32)) % nn)), .val (.int ((p3 &&& (2147483647 : Int32)) % nn)), .val (.int kk), .unset, .unset, .unset, .unset, .unset, .unset] [(.int (7 : Int32))])) rfl (by rw [hml]; rfl) (argsL := [(.int (7 : Int32))]) (rest := []) (lenOf pd__I_Ljava_lang_Integer_ rfl) rfl (by show 2 * 0 + _ ≤ _; exact Nat.le_of_eq rfl) (hb hby at_122) (fun _ _ => ⟨rfl, e0, (by decide : 0 + 0 ≤ _), (by decide : 0 + 0 ≤ _)⟩)
  dsimp only [Pt.U, Pt.locs, Pt.cells, Pt.slots] at X_q7 l_q7 y_q7 z_q7 st_q7 hQ_q7
  subst l_q7 y_q7 z_q7
  obtain ⟨rfl, Nq_q7, eq_q7⟩ := hQ_q7
  have Kq_q7 : Keep h0 T_q7.heap [] := by rw [eq_q7]; exact Keep.refl _ _
  have N_q7 := Fr.app N0 Nq_q7
  have S_high__q7 := own_sta_keep S_high Kq_q7 all0
  have S_cache__q7 := own_sta_keep S_cache Kq_q7 all0
  have V_ca__q7 := V_ca.keep Kq_q7 nin0
  have EX_b7__q7 := EX_b7.keep Kq_q7
  have EX_b11__q7 := EX_b11.keep Kq_q7
  have EX_b13__q7 := EX_b13.keep Kq_q7
  have K_q7 : Keep h0 T_q7.heap [] := K0.trans Kq_q7 all0
  obtain ⟨_, _, ⟨T_q9, L_q9, k_q9, n_q9⟩, -, X_q9, ⟨Lc_q9, hQ_q9, l_q9, y_q9, z_q9⟩, st_q9⟩ := Jvm.LawKit.callS X_q7 hx (y := (⟨"java/lang/Integer", "valueOf", "(I)Ljava/lang/Integer;"⟩ : MethodName)) hown (mvT hZ (own_w hw 2 rfl)) (mvT hZ (own_w hw 3 rfl)) (mvT hZ (own_w hw 4 rfl)) (mvT hZ (own_w hw 5 rfl)) (by decide) (backOf (W := 0) (rmVal l Z a0 hw [] ca b11 kc CF (11 : Int32) T_q7.heap n0 (Nat.le_trans Z0 K_q7.1) S_high__q7 S_cache__q7 V_ca__q7 hc_q10 (by decide) (by decide) (by decide)) hZ (own_w hw 5 rfl) (own_w hw 4 rfl) (by decide) (by decide)) (g := (mkF m 129 #[.val (.int p1), .val (.int p2), .val (.int p3), .val (.int p4), .val (.int p5), .val (.int g1), .val (.int g2), .val (.int (((p5.toUInt32 >>> ((2 : Int32) &&& 31).toUInt32).toInt32) &&& (3 : Int32))), .val (.int nn), .val (.int ((p2 &&& (2147483647 : Int32)) % nn)), .val (.int ((p3 &&& (2147483647 : Int32)) % nn)), .val (.int kk), .val (.ref b7), .unset, .unset, .unset, .unset, .unset] [(.int (11 : Int32))])) rfl (by rw [hml]; rfl) (argsL := [(.int (11 : Int32))]) (rest := []) (lenOf pd__I_Ljava_lang_Integer_ rfl) rfl (by show 2 * 0 + _ ≤ _; exact Nat.le_of_eq rfl) (hb hby at_129) (fun _ _ => ⟨rfl, rfl, (by decide : 0 + 0 ≤ _), (by decide : 0 + 0 ≤ _)⟩)
  dsimp only [Pt.U, Pt.locs, Pt.cells, Pt.slots] at X_q9 l_q9 y_q9 z_q9 st_q9 hQ_q9
  subst l_q9 y_q9 z_q9
  obtain ⟨rfl, Nq_q9, eq_q9⟩ := hQ_q9
  have Kq_q9 : Keep T_q7.heap T_q9.heap [] := by rw [eq_q9]; exact Keep.refl _ _
  have N_q9 := Fr.app N_q7 Nq_q9
  have S_high__q9 := own_sta_keep S_high__q7 Kq_q9 all0
  have S_cache__q9 := own_sta_keep S_cache__q7 Kq_q9 all0
  have V_ca__q9 := V_ca__q7.keep Kq_q9 nin0
  have EX_b7__q9 := EX_b7__q7.keep Kq_q9
  have EX_b11__q9 := EX_b11__q7.keep Kq_q9
  have EX_b13__q9 := EX_b13__q7.keep Kq_q9
  have K_q9 : Keep h0 T_q9.heap [] := K_q7.trans Kq_q9 all0
  obtain ⟨_, _, ⟨T_q11, L_q11, k_q11, n_q11⟩, -, X_q11, ⟨Lc_q11, hQ_q11, l_q11, y_q11, z_q11⟩, st_q11⟩ := Jvm.LawKit.callS X_q9 hx (y := (⟨"java/lang/Integer", "valueOf", "(I)Ljava/lang/Integer;"⟩ : MethodName)) hown (mvT hZ (own_w hw 2 rfl)) (mvT hZ (own_w hw 3 rfl)) (mvT hZ (own_w hw 4 rfl)) (mvT hZ (own_w hw 5 rfl)) (by decide) (backOf (W := 0) (rmVal l Z a0 hw [] ca b13 kc CF (13 : Int32) T_q9.heap n0 (Nat.le_trans Z0 K_q9.1) S_high__q9 S_cache__q9 V_ca__q9 hc_q12 (by decide) (by decide) (by decide)) hZ (own_w hw 5 rfl) (own_w hw 4 rfl) (by decide) (by decide)) (g := (mkF m 136 #[.val (.int p1), .val (.int p2), .val (.int p3), .val (.int p4), .val (.int p5), .val (.int g1), .val (.int g2), .val (.int (((p5.toUInt32 >>> ((2 : Int32) &&& 31).toUInt32).toInt32) &&& (3 : Int32))), .val (.int nn), .val (.int ((p2 &&& (2147483647 : Int32)) % nn)), .val (.int ((p3 &&& (2147483647 : Int32)) % nn)), .val (.int kk), .val (.ref b7), .val (.ref b11), .unset, .unset, .unset, .unset] [(.int (13 : Int32))])) rfl (by rw [hml]; rfl) (argsL := [(.int (13 : Int32))]) (rest := []) (lenOf pd__I_Ljava_lang_Integer_ rfl) rfl (by show 2 * 0 + _ ≤ _; exact Nat.le_of_eq rfl) (hb hby at_136) (fun _ _ => ⟨rfl, rfl, (by decide : 0 + 0 ≤ _), (by decide : 0 + 0 ≤ _)⟩)
  dsimp only [Pt.U, Pt.locs, Pt.cells, Pt.slots] at X_q11 l_q11 y_q11 z_q11 st_q11 hQ_q11
  subst l_q11 y_q11 z_q11
  obtain ⟨rfl, Nq_q11, eq_q11⟩ := hQ_q11
  have Kq_q11 : Keep T_q9.heap T_q11.heap [] := by rw [eq_q11]; exact Keep.refl _ _
  have N_q11 := Fr.app N_q9 Nq_q11
  have EX_b7__q11 := EX_b7__q9.keep Kq_q11
  have EX_b11__q11 := EX_b11__q9.keep Kq_q11
  have EX_b13__q11 := EX_b13__q9.keep Kq_q11
  have K_q11 : Keep h0 T_q11.heap [] := K_q9.trans Kq_q11 all0
  obtain ⟨T_q13, h_q13, X_q13, e_q13, E_q13, EX_q13, D_q13, -, st_q13⟩ := newO X_q11 hx hZ hown (own_w hw 9 rfl) (own_w hw 10 rfl) (own_w hw 11 rfl) rfl (g := (mkF m 141 #[.val (.int p1), .val (.int p2), .val (.int p3), .val (.int p4), .val (.int p5), .val (.int g1), .val (.int g2), .val (.int (((p5.toUInt32 >>> ((2 : Int32) &&& 31).toUInt32).toInt32) &&& (3 : Int32))), .val (.int nn), .val (.int ((p2 &&& (2147483647 : Int32)) % nn)), .val (.int ((p3 &&& (2147483647 : Int32)) % nn)), .val (.int kk), .val (.ref b7), .val (.ref b11), .val (.ref b13), .unset, .unset, .unset] [])) rfl (hb hby at_141) (by decide) (by decide)
  obtain ⟨b_q13, g_q13⟩ : ∃ z, z = T_q11.heap.size := ⟨_, rfl⟩
  rw [← g_q13] at EX_q13 D_q13 st_q13
  have ne_b7_b_q13 : b7 ≠ b_q13 := Nat.ne_of_lt (Nat.lt_of_lt_of_le EX_b7__q11.lt (Nat.le_of_eq g_q13.symm))
  have ge_b_q13 : n0 ≤ b_q13 := Nat.le_trans (Nat.le_trans Z0 K_q11.1) (Nat.le_of_eq g_q13.symm)
  have sz_b_q13 : h0.size ≤ b_q13 := Nat.le_trans K_q11.1 (Nat.le_of_eq g_q13.symm)
  have K_q13 : Keep h0 h_q13 [] := K_q11.ext E_q13
  have EX_b7__q13 := EX_b7__q11.ext E_q13
  have EX_b11__q13 := EX_b11__q11.ext E_q13
  have EX_b13__q13 := EX_b13__q11.ext E_q13
  have F_length_b_q13 : Fld Z h_q13 b_q13 "com/example/hashwright/hashwright/table/PagedArray" "length" "I" (.int (0 : Int32)) := D_q13 (Or.inr (own_w hw 19 rfl)) (ty := .int) (by decide)
  have F_elements_b_q13 : Fld Z h_q13 b_q13 "com/example/hashwright/hashwright/table/PagedArray" "elements" "[Ljava/lang/Object;" .null := D_q13 (Or.inr (own_w hw 24 rfl)) (ty := (.array (.object "java/lang/Object"))) (by decide)
  have F_pages_b_q13 : Fld Z h_q13 b_q13 "com/example/hashwright/hashwright/table/PagedArray" "pages" "[[Ljava/lang/Object;" .null := D_q13 (Or.inr (own_w hw 26 rfl)) (ty := (.array (.array (.object "java/lang/Object")))) (by decide)
  have hnb_q14 : n0 ≤ h_q13.size := (Nat.le_trans Z0 K_q13.1)
  have sz0 : h0.size ≤ h_q13.size := K_q13.1
  obtain ⟨_, _, ⟨T_q14, L_q14, k_q14, n_q14⟩, -, X_q14, ⟨Lc_q14, hQ_q14, l_q14, y_q14, z_q14⟩, st_q14⟩ := X_q13.specialBack hx (y := (⟨"com/example/hashwright/hashwright/table/PagedArray", "<init>", "(ILjava/lang/Object;)V"⟩ : MethodName)) rfl hown (mvT hZ (own_w hw 12 rfl)) (mvT hZ (own_w hw 13 rfl)) (mvT hZ (own_w hw 14 rfl)) (by decide) (backOf (W := 1) (rmInir l Z a0 hw [] b_q13 b7 nn h_q13 n0 (Nat.le_trans Z0 K_q13.1) EX_q13 F_length_b_q13 F_elements_b_q13 F_pages_b_q13 EX_b7__q13 ne_b7_b_q13 ge_b_q13 hc_q15 hc_q16) hZ (own_w hw 14 rfl) (own_w hw 11 rfl) (by decide) (by decide)) (g := (mkF m 149 #[.val (.int p1), .val (.int p2), .val (.int p3), .val (.int p4), .val (.int p5), .val (.int g1), .val (.int g2), .val (.int (((p5.toUInt32 >>> ((2 : Int32) &&& 31).toUInt32).toInt32) &&& (3 : Int32))), .val (.int nn), .val (.int ((p2 &&& (2147483647 : Int32)) % nn)), .val (.int ((p3 &&& (2147483647 : Int32)) % nn)), .val (.int kk), .val (.ref b7), .val (.ref b11), .val (.ref b13), .unset, .unset, .unset] [(.ref b7), (.int nn), (.ref b_q13), (.ref b_q13)])) rfl (by rw [hml]; rfl) (Steps.refl _) (a := b_q13) (argsL := [(.int nn), (.ref b7)]) (rest := [(.ref b_q13)]) (lenOf pd__ILjava_lang_Object__V rfl) rfl (by show 2 * 0 + _ ≤ _; exact Nat.le_of_eq rfl) (hb hby at_149) (fun _ _ => ⟨rfl, e_q13, (by decide : 1 + 4 ≤ _), (by decide : 3 + 196611 ≤ _)⟩)
  dsimp only [Pt.U, Pt.locs, Pt.cells, Pt.slots] at X_q14 l_q14 y_q14 z_q14 st_q14 hQ_q14
  subst l_q14 y_q14 z_q14
  obtain ⟨rfl, Nq_q14, Kq_q14, PA_q14⟩ := hQ_q14
  have N_q14 := Fr.app N_q11 Nq_q14
  have EX_b7__q14 := EX_b7__q13.keep Kq_q14
  have EX_b11__q14 := EX_b11__q13.keep Kq_q14
  have EX_b13__q14 := EX_b13__q13.keep Kq_q14
  have EX_q13__q14 := EX_q13.keep Kq_q14
  have K_q14 : Keep h0 T_q14.heap [] := K_q13.trans Kq_q14 (allS (Or.inr sz_b_q13) all0)
  obtain ⟨cq_q17, kq_q17, qa_q17, qb_q17, qc_q17⟩ := isOf hZ rfl EX_q13__q14
  obtain ⟨_, _, ⟨T_q17, L_q17, k_q17, n_q17⟩, -, X_q17, ⟨Lc_q17, hQ_q17, l_q17, y_q17, z_q17⟩, st_q17⟩ := X_q14.virtualBack hx (y := (⟨"com/example/hashwright/hashwright/table/PagedArray", "set", "(ILjava/lang/Object;)V"⟩ : MethodName)) (z := (⟨"com/example/hashwright/hashwright/table/PagedArray", "set", "(ILjava/lang/Object;)V"⟩ : MethodName)) hown (mvT hZ (own_w hw 36 rfl)) (mvT hZ (own_w hw 37 rfl)) (notFace_of_selects (args := #[]) (mvT hZ (own_w hw 39 rfl))) (mvT hZ (own_w hw 39 rfl)) (mvT hZ (own_w hw 38 rfl)) (by decide) (backOf (W := 0) (rmSet l Z a0 hw [] b_q13 b11 nn ((p2 &&& (2147483647 : Int32)) % nn) h_q13.size (fun _ => (.ref b7)) T_q14.heap n0 (Nat.le_trans Z0 K_q14.1) EX_b11__q14 PA_q14 hnb_q14 hc_q18) hZ (own_w hw 40 rfl) (own_w hw 11 rfl) (by decide) (by decide)) qa_q17 qc_q17 (g := (mkF m 160 #[.val (.int p1), .val (.int p2), .val (.int p3), .val (.int p4), .val (.int p5), .val (.int g1), .val (.int g2), .val (.int (((p5.toUInt32 >>> ((2 : Int32) &&& 31).toUInt32).toInt32) &&& (3 : Int32))), .val (.int nn), .val (.int ((p2 &&& (2147483647 : Int32)) % nn)), .val (.int ((p3 &&& (2147483647 : Int32)) % nn)), .val (.int kk), .val (.ref b7), .val (.ref b11), .val (.ref b13), .val (.ref b_q13), .unset, .unset] [(.ref b11), (.int ((p2 &&& (2147483647 : Int32)) % nn)), (.ref b_q13)])) rfl (by rw [hml]; rfl) (Steps.refl _) (argsL := [(.int ((p2 &&& (2147483647 : Int32)) % nn)), (.ref b11)]) (rest := []) (lenOf pd__ILjava_lang_Object__V rfl) rfl (by show 2 * 0 + _ ≤ _; exact Nat.le_of_eq rfl) (hb hby at_160) (fun _ _ => ⟨rfl, rfl, (by decide : 5 + 0 ≤ _), (by decide : 196614 + 0 ≤ _)⟩)
  dsimp only [Pt.U, Pt.locs, Pt.cells, Pt.slots] at X_q17 l_q17 y_q17 z_q17 st_q17 hQ_q17
  subst l_q17 y_q17 z_q17
  obtain ⟨rfl, Nq_q17, W_q17, Kq_q17, hW_q17, PA_q17⟩ := hQ_q17
  have N_q17 := Fr.app N_q14 Nq_q17
  have EX_b7__q17 := EX_b7__q14.keep Kq_q17
  have EX_b13__q17 := EX_b13__q14.keep Kq_q17
  have EX_q13__q17 := EX_q13__q14.keep Kq_q17
  have K_q17 : Keep h0 T_q17.heap [] := K_q14.trans Kq_q17 (fun x hx => Or.inr (Nat.le_trans sz0 (hW_q17 x hx)))
  obtain ⟨cq_q19, kq_q19, qa_q19, qb_q19, qc_q19⟩ := isOf hZ rfl EX_q13__q17
  obtain ⟨_, _, ⟨T_q19, L_q19, k_q19, n_q19⟩, -, X_q19, ⟨Lc_q19, hQ_q19, l_q19, y_q19, z_q19⟩, st_q19⟩ := X_q17.virtualBack hx (y := (⟨"com/example/hashwright/hashwright/table/PagedArray", "set", "(ILjava/lang/Object;)V"⟩ : MethodName)) (z := (⟨"com/example/hashwright/hashwright/table/PagedArray", "set", "(ILjava/lang/Object;)V"⟩ : MethodName)) hown (mvT hZ (own_w hw 36 rfl)) (mvT hZ (own_w hw 37 rfl)) (notFace_of_selects (args := #[]) (mvT hZ (own_w hw 39 rfl))) (mvT hZ (own_w hw 39 rfl)) (mvT hZ (own_w hw 38 rfl)) (by decide) (backOf (W := 0) (rmSet l Z a0 hw [] b_q13 b13 nn ((p3 &&& (2147483647 : Int32)) % nn) h_q13.size (own_up (fun _ => (.ref b7)) (((p2 &&& (2147483647 : Int32)) % nn)).toNatClampNeg (.ref b11)) T_q17.heap n0 (Nat.le_trans Z0 K_q17.1) EX_b13__q17 PA_q17 hnb_q14 hc_q20) hZ (own_w hw 40 rfl) (own_w hw 11 rfl) (by decide) (by decide)) qa_q19 qc_q19 (g := (mkF m 169 #[.val (.int p1), .val (.int p2), .val (.int p3), .val (.int p4), .val (.int p5), .val (.int g1), .val (.int g2), .val (.int (((p5.toUInt32 >>> ((2 : Int32) &&& 31).toUInt32).toInt32) &&& (3 : Int32))), .val (.int nn), .val (.int ((p2 &&& (2147483647 : Int32)) % nn)), .val (.int ((p3 &&& (2147483647 : Int32)) % nn)), .val (.int kk), .val (.ref b7), .val (.ref b11), .val (.ref b13), .val (.ref b_q13), .unset, .unset] [(.ref b13), (.int ((p3 &&& (2147483647 : Int32)) % nn)), (.ref b_q13)])) rfl (by rw [hml]; rfl) (Steps.refl _) (argsL := [(.int ((p3 &&& (2147483647 : Int32)) % nn)), (.ref b13)]) (rest := []) (lenOf pd__ILjava_lang_Object__V rfl) rfl (by show 2 * 0 + _ ≤ _; exact Nat.le_of_eq rfl) (hb hby at_169) (fun _ _ => ⟨rfl, rfl, (by decide : 5 + 0 ≤ _), (by decide : 196614 + 0 ≤ _)⟩)
  dsimp only [Pt.U, Pt.locs, Pt.cells, Pt.slots] at X_q19 l_q19 y_q19 z_q19 st_q19 hQ_q19
  subst l_q19 y_q19 z_q19
  obtain ⟨rfl, Nq_q19, W_q19, Kq_q19, hW_q19, PA_q19⟩ := hQ_q19
  have N_q19 := Fr.app N_q17 Nq_q19
  have EX_b7__q19 := EX_b7__q17.keep Kq_q19
  have EX_q13__q19 := EX_q13__q17.keep Kq_q19
  have K_q19 : Keep h0 T_q19.heap [] := K_q17.trans Kq_q19 (fun x hx => Or.inr (Nat.le_trans sz0 (hW_q19 x hx)))
  obtain ⟨cq_q21, kq_q21, qa_q21, qb_q21, qc_q21⟩ := isOf hZ rfl EX_q13__q19
  obtain ⟨_, _, ⟨T_q21, L_q21, k_q21, n_q21⟩, -, X_q21, ⟨Lc_q21, hQ_q21, l_q21, y_q21, z_q21⟩, st_q21⟩ := X_q19.virtualBack hx (y := (⟨"com/example/hashwright/hashwright/table/PagedArray", "get", "(I)Ljava/lang/Object;"⟩ : MethodName)) (z := (⟨"com/example/hashwright/hashwright/table/PagedArray", "get", "(I)Ljava/lang/Object;"⟩ : MethodName)) hown (mvT hZ (own_w hw 41 rfl)) (mvT hZ (own_w hw 42 rfl)) (notFace_of_selects (args := #[]) (mvT hZ (own_w hw 44 rfl))) (mvT hZ (own_w hw 44 rfl)) (mvT hZ (own_w hw 43 rfl)) (by decide) (backOf (W := 0) (rmGetr l Z a0 hw [] b_q13 nn kk h_q13.size (own_up (own_up (fun _ => (.ref b7)) (((p2 &&& (2147483647 : Int32)) % nn)).toNatClampNeg (.ref b11)) (((p3 &&& (2147483647 : Int32)) % nn)).toNatClampNeg (.ref b13)) b7 T_q19.heap n0 (Nat.le_trans Z0 K_q19.1) PA_q19 hc_q22 hc_q23) hZ (own_w hw 45 rfl) (own_w hw 11 rfl) (by decide) (by decide)) qa_q21 qc_q21 (g := (mkF m 176 #[.val (.int p1), .val (.int p2), .val (.int p3), .val (.int p4), .val (.int p5), .val (.int g1), .val (.int g2), .val (.int (((p5.toUInt32 >>> ((2 : Int32) &&& 31).toUInt32).toInt32) &&& (3 : Int32))), .val (.int nn), .val (.int ((p2 &&& (2147483647 : Int32)) % nn)), .val (.int ((p3 &&& (2147483647 : Int32)) % nn)), .val (.int kk), .val (.ref b7), .val (.ref b11), .val (.ref b13), .val (.ref b_q13), .unset, .unset] [(.int kk), (.ref b_q13)])) rfl (by rw [hml]; rfl) (Steps.refl _) (argsL := [(.int kk)]) (rest := []) (lenOf pd__I_Ljava_lang_Object_ rfl) rfl (by show 2 * 0 + _ ≤ _; exact Nat.le_of_eq rfl) (hb hby at_176) (fun _ _ => ⟨rfl, rfl, (by decide : 5 + 0 ≤ _), (by decide : 196614 + 0 ≤ _)⟩)
  dsimp only [Pt.U, Pt.locs, Pt.cells, Pt.slots] at X_q21 l_q21 y_q21 z_q21 st_q21 hQ_q21
  subst l_q21 y_q21 z_q21
  obtain ⟨rfl, Nq_q21, eq_q21⟩ := hQ_q21
  have Kq_q21 : Keep T_q19.heap T_q21.heap [] := by rw [eq_q21]; exact Keep.refl _ _
  have N_q21 := Fr.app N_q19 Nq_q21
  have EX_b7__q21 := EX_b7__q19.keep Kq_q21
  obtain ⟨T_q24, X_q24, e_q24, st_q24⟩ := castY X_q21 hx hZ hown (own_w hw 46 rfl) rfl (Ins.self EX_b7__q21) (g := (mkF m 179 #[.val (.int p1), .val (.int p2), .val (.int p3), .val (.int p4), .val (.int p5), .val (.int g1), .val (.int g2), .val (.int (((p5.toUInt32 >>> ((2 : Int32) &&& 31).toUInt32).toInt32) &&& (3 : Int32))), .val (.int nn), .val (.int ((p2 &&& (2147483647 : Int32)) % nn)), .val (.int ((p3 &&& (2147483647 : Int32)) % nn)), .val (.int kk), .val (.ref b7), .val (.ref b11), .val (.ref b13), .val (.ref b_q13), .unset, .unset] [(.ref b7)])) rfl rfl (hb hby at_179)
  obtain ⟨fs, hr, hrun, hended, hW, hsame⟩ := X_q24.leave (v := some (.int (1 : Int32))) (fun h => by rw [Bd.returns] at h; cases h) Bd.notSynchronized
  refine ⟨_, _, pre0 _ ?_, hrun, hended, _, _, rfl, ?_, ⟨_, rfl⟩, hW, hsame.mono (by decide) (by decide)⟩
  · show Steps p.tables e below (s₁.setTop (mkF m 0 #[.val (.int p1), .val (.int p2), .val (.int p3), .val (.int p4), .val (.int p5), .unset, .unset, .unset, .unset, .unset, .unset, .unset, .unset, .unset, .unset, .unset, .unset, .unset] [])) _
    refine own_fA p1 p2 p3 p4 p5 g1 X0 hx hby hZ hw hown hc_q1 ?_
    show Steps p.tables e below (s₁.setTop (mkF m 14 #[.val (.int p1), .val (.int p2), .val (.int p3), .val (.int p4), .val (.int p5), .val (.int g1), .unset, .unset, .unset, .unset, .unset, .unset, .unset, .unset, .unset, .unset, .unset, .unset] [])) _
    refine own_fB p1 p2 p3 p4 p5 g1 g2 X0 hx hby hZ hw hown hc_q2 ?_
    refine XS.iload X0.here hx rfl (hb hby at_28) rfl ?_
    refine XS.iconst X0.here hx rfl (hb hby at_30) ?_
    refine XS.iushr X0.here hx rfl (hb hby at_31) rfl ?_
    show Steps p.tables e below (s₁.setTop (mkF m 32 #[.val (.int p1), .val (.int p2), .val (.int p3), .val (.int p4), .val (.int p5), .val (.int g1), .val (.int g2), .unset, .unset, .unset, .unset, .unset, .unset, .unset, .unset, .unset, .unset, .unset] [(.int ((p5.toUInt32 >>> ((2 : Int32) &&& 31).toUInt32).toInt32))])) _
    refine XS.iconst X0.here hx rfl (hb hby at_32) ?_
    refine XS.iand X0.here hx rfl (hb hby at_33) rfl ?_
    refine XS.istore X0.here hx rfl (hb hby at_34) rfl (l' := #[.val (.int p1), .val (.int p2), .val (.int p3), .val (.int p4), .val (.int p5), .val (.int g1), .val (.int g2), .val (.int (((p5.toUInt32 >>> ((2 : Int32) &&& 31).toUInt32).toInt32) &&& (3 : Int32))), .unset, .unset, .unset, .unset, .unset, .unset, .unset, .unset, .unset, .unset]) rfl ?_
    show Steps p.tables e below (s₁.setTop (mkF m 36 #[.val (.int p1), .val (.int p2), .val (.int p3), .val (.int p4), .val (.int p5), .val (.int g1), .val (.int g2), .val (.int (((p5.toUInt32 >>> ((2 : Int32) &&& 31).toUInt32).toInt32) &&& (3 : Int32))), .unset, .unset, .unset, .unset, .unset, .unset, .unset, .unset, .unset, .unset] [])) _
    refine own_fC p1 p2 p3 p4 p5 g1 g2 (((p5.toUInt32 >>> ((2 : Int32) &&& 31).toUInt32).toInt32) &&& (3 : Int32)) nn X0 hx hby hZ hw hown hc_q3 ?_
    refine XS.iloadN X0.here hx rfl (hb hby at_59) rfl ?_
    show Steps p.tables e below (s₁.setTop (mkF m 60 #[.val (.int p1), .val (.int p2), .val (.int p3), .val (.int p4), .val (.int p5), .val (.int g1), .val (.int g2), .val (.int (((p5.toUInt32 >>> ((2 : Int32) &&& 31).toUInt32).toInt32) &&& (3 : Int32))), .val (.int nn), .unset, .unset, .unset, .unset, .unset, .unset, .unset, .unset, .unset] [(.int p2)])) _
    refine X0.ldcInt hx hown (mvT hZ (own_w hw 1 rfl)) (g := (mkF m 60 #[.val (.int p1), .val (.int p2), .val (.int p3), .val (.int p4), .val (.int p5), .val (.int g1), .val (.int g2), .val (.int (((p5.toUInt32 >>> ((2 : Int32) &&& 31).toUInt32).toInt32) &&& (3 : Int32))), .val (.int nn), .unset, .unset, .unset, .unset, .unset, .unset, .unset, .unset, .unset] [(.int p2)])) rfl (hb hby at_60) _ ?_
    refine XS.iand X0.here hx rfl (hb hby at_62) rfl ?_
    refine XS.iload X0.here hx rfl (hb hby at_63) rfl ?_
    show Steps p.tables e below (s₁.setTop (mkF m 65 #[.val (.int p1), .val (.int p2), .val (.int p3), .val (.int p4), .val (.int p5), .val (.int g1), .val (.int g2), .val (.int (((p5.toUInt32 >>> ((2 : Int32) &&& 31).toUInt32).toInt32) &&& (3 : Int32))), .val (.int nn), .unset, .unset, .unset, .unset, .unset, .unset, .unset, .unset, .unset] [(.int nn), (.int (p2 &&& (2147483647 : Int32)))])) _
    refine iremM X0 hx rfl (hb hby at_65) rfl hc_q4 ?_
    refine XS.istore X0.here hx rfl (hb hby at_66) rfl (l' := #[.val (.int p1), .val (.int p2), .val (.int p3), .val (.int p4), .val (.int p5), .val (.int g1), .val (.int g2), .val (.int (((p5.toUInt32 >>> ((2 : Int32) &&& 31).toUInt32).toInt32) &&& (3 : Int32))), .val (.int nn), .val (.int ((p2 &&& (2147483647 : Int32)) % nn)), .unset, .unset, .unset, .unset, .unset, .unset, .unset, .unset]) rfl ?_
    refine XS.iloadN X0.here hx rfl (hb hby at_68) rfl ?_
    show Steps p.tables e below (s₁.setTop (mkF m 69 #[.val (.int p1), .val (.int p2), .val (.int p3), .val (.int p4), .val (.int p5), .val (.int g1), .val (.int g2), .val (.int (((p5.toUInt32 >>> ((2 : Int32) &&& 31).toUInt32).toInt32) &&& (3 : Int32))), .val (.int nn), .val (.int ((p2 &&& (2147483647 : Int32)) % nn)), .unset, .unset, .unset, .unset, .unset, .unset, .unset, .unset] [(.int p3)])) _
    refine X0.ldcInt hx hown (mvT hZ (own_w hw 1 rfl)) (g := (mkF m 69 #[.val (.int p1), .val (.int p2), .val (.int p3), .val (.int p4), .val (.int p5), .val (.int g1), .val (.int g2), .val (.int (((p5.toUInt32 >>> ((2 : Int32) &&& 31).toUInt32).toInt32) &&& (3 : Int32))), .val (.int nn), .val (.int ((p2 &&& (2147483647 : Int32)) % nn)), .unset, .unset, .unset, .unset, .unset, .unset, .unset, .unset] [(.int p3)])) rfl (hb hby at_69) _ ?_
    refine XS.iand X0.here hx rfl (hb hby at_71) rfl ?_
    refine XS.iload X0.here hx rfl (hb hby at_72) rfl ?_
    show Steps p.tables e below (s₁.setTop (mkF m 74 #[.val (.int p1), .val (.int p2), .val (.int p3), .val (.int p4), .val (.int p5), .val (.int g1), .val (.int g2), .val (.int (((p5.toUInt32 >>> ((2 : Int32) &&& 31).toUInt32).toInt32) &&& (3 : Int32))), .val (.int nn), .val (.int ((p2 &&& (2147483647 : Int32)) % nn)), .unset, .unset, .unset, .unset, .unset, .unset, .unset, .unset] [(.int nn), (.int (p3 &&& (2147483647 : Int32)))])) _
    refine iremM X0 hx rfl (hb hby at_74) rfl hc_q4 ?_
    refine XS.istore X0.here hx rfl (hb hby at_75) rfl (l' := #[.val (.int p1), .val (.int p2), .val (.int p3), .val (.int p4), .val (.int p5), .val (.int g1), .val (.int g2), .val (.int (((p5.toUInt32 >>> ((2 : Int32) &&& 31).toUInt32).toInt32) &&& (3 : Int32))), .val (.int nn), .val (.int ((p2 &&& (2147483647 : Int32)) % nn)), .val (.int ((p3 &&& (2147483647 : Int32)) % nn)), .unset, .unset, .unset, .unset, .unset, .unset, .unset]) rfl ?_
    show Steps p.tables e below (s₁.setTop (mkF m 77 #[.val (.int p1), .val (.int p2), .val (.int p3), .val (.int p4), .val (.int p5), .val (.int g1), .val (.int g2), .val (.int (((p5.toUInt32 >>> ((2 : Int32) &&& 31).toUInt32).toInt32) &&& (3 : Int32))), .val (.int nn), .val (.int ((p2 &&& (2147483647 : Int32)) % nn)), .val (.int ((p3 &&& (2147483647 : Int32)) % nn)), .unset, .unset, .unset, .unset, .unset, .unset, .unset] [])) _
    refine own_fD p1 p2 p3 p4 p5 g1 g2 (((p5.toUInt32 >>> ((2 : Int32) &&& 31).toUInt32).toInt32) &&& (3 : Int32)) nn ((p2 &&& (2147483647 : Int32)) % nn) ((p3 &&& (2147483647 : Int32)) % nn) kk X0 hx hby hZ hw hown hc_q5 hc_q4 ?_
    refine XS.iload X0.here hx rfl (hb hby at_111) rfl ?_
    refine XS.ifYes X0.here hx rfl (pc0 := 113) (pc' := 120) rfl (hb hby at_113) rfl ((if0 _ _).trans (teq hc_q6).1) (by decide) (by decide) ?_
    refine XS.bipush X0.here hx rfl (hb hby at_120) ?_
    show Steps p.tables e below (s₁.setTop (mkF m 122 #[.val (.int p1), .val (.int p2), .val (.int p3), .val (.int p4), .val (.int p5), .val (.int g1), .val (.int g2), .val (.int (((p5.toUInt32 >>> ((2 : Int32) &&& 31).toUInt32).toInt32) &&& (3 : Int32))), .val (.int nn), .val (.int ((p2 &&& (2147483647 : Int32)) % nn)), .val (.int ((p3 &&& (2147483647 : Int32)) % nn)), .val (.int kk), .unset, .unset, .unset, .unset, .unset, .unset] [(.int (7 : Int32))])) _
    refine st_q7 _ ?_
    refine XS.astore X_q7.here hx rfl (hb hby at_125) rfl rfl (l' := #[.val (.int p1), .val (.int p2), .val (.int p3), .val (.int p4), .val (.int p5), .val (.int g1), .val (.int g2), .val (.int (((p5.toUInt32 >>> ((2 : Int32) &&& 31).toUInt32).toInt32) &&& (3 : Int32))), .val (.int nn), .val (.int ((p2 &&& (2147483647 : Int32)) % nn)), .val (.int ((p3 &&& (2147483647 : Int32)) % nn)), .val (.int kk), .val (.ref b7), .unset, .unset, .unset, .unset, .unset]) rfl ?_
    refine XS.bipush X_q7.here hx rfl (hb hby at_127) ?_
    show Steps p.tables e below (T_q7.setTop (mkF m 129 #[.val (.int p1), .val (.int p2), .val (.int p3), .val (.int p4), .val (.int p5), .val (.int g1), .val (.int g2), .val (.int (((p5.toUInt32 >>> ((2 : Int32) &&& 31).toUInt32).toInt32) &&& (3 : Int32))), .val (.int nn), .val (.int ((p2 &&& (2147483647 : Int32)) % nn)), .val (.int ((p3 &&& (2147483647 : Int32)) % nn)), .val (.int kk), .val (.ref b7), .unset, .unset, .unset, .unset, .unset] [(.int (11 : Int32))])) _
    refine st_q9 _ ?_
    refine XS.astore X_q9.here hx rfl (hb hby at_132) rfl rfl (l' := #[.val (.int p1), .val (.int p2), .val (.int p3), .val (.int p4), .val (.int p5), .val (.int g1), .val (.int g2), .val (.int (((p5.toUInt32 >>> ((2 : Int32) &&& 31).toUInt32).toInt32) &&& (3 : Int32))), .val (.int nn), .val (.int ((p2 &&& (2147483647 : Int32)) % nn)), .val (.int ((p3 &&& (2147483647 : Int32)) % nn)), .val (.int kk), .val (.ref b7), .val (.ref b11), .unset, .unset, .unset, .unset]) rfl ?_
    refine XS.bipush X_q9.here hx rfl (hb hby at_134) ?_
    show Steps p.tables e below (T_q9.setTop (mkF m 136 #[.val (.int p1), .val (.int p2), .val (.int p3), .val (.int p4), .val (.int p5), .val (.int g1), .val (.int g2), .val (.int (((p5.toUInt32 >>> ((2 : Int32) &&& 31).toUInt32).toInt32) &&& (3 : Int32))), .val (.int nn), .val (.int ((p2 &&& (2147483647 : Int32)) % nn)), .val (.int ((p3 &&& (2147483647 : Int32)) % nn)), .val (.int kk), .val (.ref b7), .val (.ref b11), .unset, .unset, .unset, .unset] [(.int (13 : Int32))])) _
    refine st_q11 _ ?_
    refine XS.astore X_q11.here hx rfl (hb hby at_139) rfl rfl (l' := #[.val (.int p1), .val (.int p2), .val (.int p3), .val (.int p4), .val (.int p5), .val (.int g1), .val (.int g2), .val (.int (((p5.toUInt32 >>> ((2 : Int32) &&& 31).toUInt32).toInt32) &&& (3 : Int32))), .val (.int nn), .val (.int ((p2 &&& (2147483647 : Int32)) % nn)), .val (.int ((p3 &&& (2147483647 : Int32)) % nn)), .val (.int kk), .val (.ref b7), .val (.ref b11), .val (.ref b13), .unset, .unset, .unset]) rfl ?_
    show Steps p.tables e below (T_q11.setTop (mkF m 141 #[.val (.int p1), .val (.int p2), .val (.int p3), .val (.int p4), .val (.int p5), .val (.int g1), .val (.int g2), .val (.int (((p5.toUInt32 >>> ((2 : Int32) &&& 31).toUInt32).toInt32) &&& (3 : Int32))), .val (.int nn), .val (.int ((p2 &&& (2147483647 : Int32)) % nn)), .val (.int ((p3 &&& (2147483647 : Int32)) % nn)), .val (.int kk), .val (.ref b7), .val (.ref b11), .val (.ref b13), .unset, .unset, .unset] [])) _
    refine st_q13 _ ?_
    refine XS.dup X_q13.here hx rfl (hb hby at_144) rfl rfl ?_
    refine XS.iload X_q13.here hx rfl (hb hby at_145) rfl ?_
    refine XS.aload X_q13.here hx rfl (hb hby at_147) rfl rfl ?_
    show Steps p.tables e below (T_q13.setTop (mkF m 149 #[.val (.int p1), .val (.int p2), .val (.int p3), .val (.int p4), .val (.int p5), .val (.int g1), .val (.int g2), .val (.int (((p5.toUInt32 >>> ((2 : Int32) &&& 31).toUInt32).toInt32) &&& (3 : Int32))), .val (.int nn), .val (.int ((p2 &&& (2147483647 : Int32)) % nn)), .val (.int ((p3 &&& (2147483647 : Int32)) % nn)), .val (.int kk), .val (.ref b7), .val (.ref b11), .val (.ref b13), .unset, .unset, .unset] [(.ref b7), (.int nn), (.ref b_q13), (.ref b_q13)])) _
    refine st_q14.trans ?_
    refine XS.astore X_q14.here hx rfl (hb hby at_152) rfl rfl (l' := #[.val (.int p1), .val (.int p2), .val (.int p3), .val (.int p4), .val (.int p5), .val (.int g1), .val (.int g2), .val (.int (((p5.toUInt32 >>> ((2 : Int32) &&& 31).toUInt32).toInt32) &&& (3 : Int32))), .val (.int nn), .val (.int ((p2 &&& (2147483647 : Int32)) % nn)), .val (.int ((p3 &&& (2147483647 : Int32)) % nn)), .val (.int kk), .val (.ref b7), .val (.ref b11), .val (.ref b13), .val (.ref b_q13), .unset, .unset]) rfl ?_
    refine XS.aload X_q14.here hx rfl (hb hby at_154) rfl rfl ?_
    refine XS.iload X_q14.here hx rfl (hb hby at_156) rfl ?_
    show Steps p.tables e below (T_q14.setTop (mkF m 158 #[.val (.int p1), .val (.int p2), .val (.int p3), .val (.int p4), .val (.int p5), .val (.int g1), .val (.int g2), .val (.int (((p5.toUInt32 >>> ((2 : Int32) &&& 31).toUInt32).toInt32) &&& (3 : Int32))), .val (.int nn), .val (.int ((p2 &&& (2147483647 : Int32)) % nn)), .val (.int ((p3 &&& (2147483647 : Int32)) % nn)), .val (.int kk), .val (.ref b7), .val (.ref b11), .val (.ref b13), .val (.ref b_q13), .unset, .unset] [(.int ((p2 &&& (2147483647 : Int32)) % nn)), (.ref b_q13)])) _
    refine XS.aload X_q14.here hx rfl (hb hby at_158) rfl rfl ?_
    show Steps p.tables e below (T_q14.setTop (mkF m 160 #[.val (.int p1), .val (.int p2), .val (.int p3), .val (.int p4), .val (.int p5), .val (.int g1), .val (.int g2), .val (.int (((p5.toUInt32 >>> ((2 : Int32) &&& 31).toUInt32).toInt32) &&& (3 : Int32))), .val (.int nn), .val (.int ((p2 &&& (2147483647 : Int32)) % nn)), .val (.int ((p3 &&& (2147483647 : Int32)) % nn)), .val (.int kk), .val (.ref b7), .val (.ref b11), .val (.ref b13), .val (.ref b_q13), .unset, .unset] [(.ref b11), (.int ((p2 &&& (2147483647 : Int32)) % nn)), (.ref b_q13)])) _
    refine st_q17.trans ?_
    refine XS.aload X_q17.here hx rfl (hb hby at_163) rfl rfl ?_
    refine XS.iload X_q17.here hx rfl (hb hby at_165) rfl ?_
    refine XS.aload X_q17.here hx rfl (hb hby at_167) rfl rfl ?_
    show Steps p.tables e below (T_q17.setTop (mkF m 169 #[.val (.int p1), .val (.int p2), .val (.int p3), .val (.int p4), .val (.int p5), .val (.int g1), .val (.int g2), .val (.int (((p5.toUInt32 >>> ((2 : Int32) &&& 31).toUInt32).toInt32) &&& (3 : Int32))), .val (.int nn), .val (.int ((p2 &&& (2147483647 : Int32)) % nn)), .val (.int ((p3 &&& (2147483647 : Int32)) % nn)), .val (.int kk), .val (.ref b7), .val (.ref b11), .val (.ref b13), .val (.ref b_q13), .unset, .unset] [(.ref b13), (.int ((p3 &&& (2147483647 : Int32)) % nn)), (.ref b_q13)])) _
    refine st_q19.trans ?_
    refine XS.aload X_q19.here hx rfl (hb hby at_172) rfl rfl ?_
    refine XS.iload X_q19.here hx rfl (hb hby at_174) rfl ?_
    show Steps p.tables e below (T_q19.setTop (mkF m 176 #[.val (.int p1), .val (.int p2), .val (.int p3), .val (.int p4), .val (.int p5), .val (.int g1), .val (.int g2), .val (.int (((p5.toUInt32 >>> ((2 : Int32) &&& 31).toUInt32).toInt32) &&& (3 : Int32))), .val (.int nn), .val (.int ((p2 &&& (2147483647 : Int32)) % nn)), .val (.int ((p3 &&& (2147483647 : Int32)) % nn)), .val (.int kk), .val (.ref b7), .val (.ref b11), .val (.ref b13), .val (.ref b_q13), .unset, .unset] [(.int kk), (.ref b_q13)])) _
    refine st_q21.trans ?_
    show Steps p.tables e below (T_q21.setTop (mkF m 179 #[.val (.int p1), .val (.int p2), .val (.int p3), .val (.int p4), .val (.int p5), .val (.int g1), .val (.int g2), .val (.int (((p5.toUInt32 >>> ((2 : Int32) &&& 31).toUInt32).toInt32) &&& (3 : Int32))), .val (.int nn), .val (.int ((p2 &&& (2147483647 : Int32)) % nn)), .val (.int ((p3 &&& (2147483647 : Int32)) % nn)), .val (.int kk), .val (.ref b7), .val (.ref b11), .val (.ref b13), .val (.ref b_q13), .unset, .unset] [(.ref b7)])) _
    refine st_q24 _ ?_
    refine XS.astore X_q24.here hx rfl (hb hby at_182) rfl rfl (l' := #[.val (.int p1), .val (.int p2), .val (.int p3), .val (.int p4), .val (.int p5), .val (.int g1), .val (.int g2), .val (.int (((p5.toUInt32 >>> ((2 : Int32) &&& 31).toUInt32).toInt32) &&& (3 : Int32))), .val (.int nn), .val (.int ((p2 &&& (2147483647 : Int32)) % nn)), .val (.int ((p3 &&& (2147483647 : Int32)) % nn)), .val (.int kk), .val (.ref b7), .val (.ref b11), .val (.ref b13), .val (.ref b_q13), .val (.ref b7), .unset]) rfl ?_
    refine XS.iload X_q24.here hx rfl (hb hby at_184) rfl ?_
    refine XS.iload X_q24.here hx rfl (hb hby at_186) rfl ?_
    show Steps p.tables e below (T_q24.setTop (mkF m 188 #[.val (.int p1), .val (.int p2), .val (.int p3), .val (.int p4), .val (.int p5), .val (.int g1), .val (.int g2), .val (.int (((p5.toUInt32 >>> ((2 : Int32) &&& 31).toUInt32).toInt32) &&& (3 : Int32))), .val (.int nn), .val (.int ((p2 &&& (2147483647 : Int32)) % nn)), .val (.int ((p3 &&& (2147483647 : Int32)) % nn)), .val (.int kk), .val (.ref b7), .val (.ref b11), .val (.ref b13), .val (.ref b_q13), .val (.ref b7), .unset] [(.int ((p3 &&& (2147483647 : Int32)) % nn)), (.int kk)])) _
    refine XS.icmpYes X_q24.here hx rfl (pc0 := 188) (pc' := 198) rfl (hb hby at_188) rfl (feq hc_q25).2 (by decide) (by decide) ?_
    refine XS.iload X_q24.here hx rfl (hb hby at_198) rfl ?_
    refine XS.iload X_q24.here hx rfl (hb hby at_200) rfl ?_
    refine XS.icmpYes X_q24.here hx rfl (pc0 := 202) (pc' := 212) rfl (hb hby at_202) rfl (feq hc_q26).2 (by decide) (by decide) ?_
    show Steps p.tables e below (T_q24.setTop (mkF m 212 #[.val (.int p1), .val (.int p2), .val (.int p3), .val (.int p4), .val (.int p5), .val (.int g1), .val (.int g2), .val (.int (((p5.toUInt32 >>> ((2 : Int32) &&& 31).toUInt32).toInt32) &&& (3 : Int32))), .val (.int nn), .val (.int ((p2 &&& (2147483647 : Int32)) % nn)), .val (.int ((p3 &&& (2147483647 : Int32)) % nn)), .val (.int kk), .val (.ref b7), .val (.ref b11), .val (.ref b13), .val (.ref b_q13), .val (.ref b7), .unset] [])) _
    refine XS.aload X_q24.here hx rfl (hb hby at_212) rfl rfl ?_
    refine XS.astore X_q24.here hx rfl (hb hby at_214) rfl rfl (l' := #[.val (.int p1), .val (.int p2), .val (.int p3), .val (.int p4), .val (.int p5), .val (.int g1), .val (.int g2), .val (.int (((p5.toUInt32 >>> ((2 : Int32) &&& 31).toUInt32).toInt32) &&& (3 : Int32))), .val (.int nn), .val (.int ((p2 &&& (2147483647 : Int32)) % nn)), .val (.int ((p3 &&& (2147483647 : Int32)) % nn)), .val (.int kk), .val (.ref b7), .val (.ref b11), .val (.ref b13), .val (.ref b_q13), .val (.ref b7), .val (.ref b7)]) rfl ?_
    refine XS.aload X_q24.here hx rfl (hb hby at_216) rfl rfl ?_
    refine XS.aload X_q24.here hx rfl (hb hby at_218) rfl rfl ?_
    show Steps p.tables e below (T_q24.setTop (mkF m 220 #[.val (.int p1), .val (.int p2), .val (.int p3), .val (.int p4), .val (.int p5), .val (.int g1), .val (.int g2), .val (.int (((p5.toUInt32 >>> ((2 : Int32) &&& 31).toUInt32).toInt32) &&& (3 : Int32))), .val (.int nn), .val (.int ((p2 &&& (2147483647 : Int32)) % nn)), .val (.int ((p3 &&& (2147483647 : Int32)) % nn)), .val (.int kk), .val (.ref b7), .val (.ref b11), .val (.ref b13), .val (.ref b_q13), .val (.ref b7), .val (.ref b7)] [(.ref b7), (.ref b7)])) _
    refine acmp X_q24 hx rfl rfl rfl (pc0 := 220) (pc' := 223) (same := true) rfl (hb hby at_220) rfl (decide_eq_true rfl) (by decide) rfl ?_
    refine XS.iconst X_q24.here hx rfl (hb hby at_223) ?_
    refine XS.goto X_q24.here hx rfl (pc0 := 224) (pc' := 228) rfl (hb hby at_224) (by decide) (by decide) ?_
    show Steps p.tables e below (T_q24.setTop (mkF m 228 #[.val (.int p1), .val (.int p2), .val (.int p3), .val (.int p4), .val (.int p5), .val (.int g1), .val (.int g2), .val (.int (((p5.toUInt32 >>> ((2 : Int32) &&& 31).toUInt32).toInt32) &&& (3 : Int32))), .val (.int nn), .val (.int ((p2 &&& (2147483647 : Int32)) % nn)), .val (.int ((p3 &&& (2147483647 : Int32)) % nn)), .val (.int kk), .val (.ref b7), .val (.ref b11), .val (.ref b13), .val (.ref b_q13), .val (.ref b7), .val (.ref b7)] [(.int (1 : Int32))])) _
    exact retN X_q24 hx (t := .boolean) Bd.returns (by simp) (hb hby at_228) hr
  · show Q_rm0_r3 Z p1 p2 p3 p4 p5 g1 g2 nn kk ca b7 b11 b13 kc CF h0 n0 _ T_q24.heap _
    rw [e_q24]
    exact ⟨rfl, N_q21⟩
theorem own_fl_ex (m : Int32) : ∃ g, own_fl m g := by
  by_cases h : m = (0 : Int32)
  · exact ⟨0, Or.inl ⟨h, rfl⟩⟩
  · exact ⟨1, Or.inr ⟨h, rfl⟩⟩
theorem own_nn_ex (p1 g : Int32) : ∃ nn, own_nn p1 g nn ∧ 0 < nn.toInt ∧ nn.toInt ≤ 196608 := by
  by_cases h : g = (0 : Int32)
  · refine ⟨_, Or.inr ⟨h, rfl⟩, ?_⟩
    have e : (p1 &&& (65535 : Int32)).toInt = p1.toInt % 2 ^ 16 := Jvm.Kit.i32_mask p1 65535 (k := 16) (by decide) (by decide)
    have c : (1 : Int32).toInt = 1 := by decide
    rw [Int32.toInt_add, e, c, Int.bmod_eq_of_le (by omega) (by omega)]
    omega
  · refine ⟨_, Or.inl ⟨h, rfl⟩, ?_⟩
    have e : (p1 &&& (131071 : Int32)).toInt = p1.toInt % 2 ^ 17 := Jvm.Kit.i32_mask p1 131071 (k := 17) (by decide) (by decide)
    have c : (65537 : Int32).toInt = 65537 := by decide
    rw [Int32.toInt_add, e, c, Int.bmod_eq_of_le (by omega) (by omega)]
    omega
theorem own_mod (x : Int32) {n : Int32} (h : 0 < n.toInt) : ¬ ((x &&& (2147483647 : Int32)) % n) < 0 ∧ ((x &&& (2147483647 : Int32)) % n) < n := by
  have e : (x &&& (2147483647 : Int32)).toInt = x.toInt % 2 ^ 31 := Jvm.Kit.i32_mask x 2147483647 (k := 31) (by decide) (by decide)
  have c : (0 : Int32).toInt = 0 := by decide
  have h0 : 0 ≤ (x &&& (2147483647 : Int32)).toInt := by omega
  rw [Int32.lt_iff_toInt_lt, Int32.lt_iff_toInt_lt, Int32.toInt_mod, c]
  have a := Int.tmod_nonneg n.toInt h0
  have b := Int.tmod_lt_of_pos (x &&& (2147483647 : Int32)).toInt h
  omega
theorem own_kk_ex (mo ii jj p4 nn : Int32) (h : 0 < nn.toInt) (hi : ¬ ii < 0 ∧ ii < nn) (hj : ¬ jj < 0 ∧ jj < nn) : ∃ kk, own_kk mo ii jj p4 nn kk ∧ (¬ kk < 0 ∧ kk < nn) := by
  by_cases h0 : mo = (0 : Int32)
  · exact ⟨ii, Or.inl ⟨h0, rfl⟩, hi⟩
  by_cases h1 : mo = (1 : Int32)
  · exact ⟨jj, Or.inr (Or.inl ⟨h0, h1, rfl⟩), hj⟩
  · exact ⟨_, Or.inr (Or.inr ⟨h0, h1, rfl⟩), own_mod p4 h⟩
theorem own_inj {a b : Int32} (ha : ¬ a < 0) (hb : ¬ b < 0) (h : ¬ a = b) : ¬ a.toNatClampNeg = b.toNatClampNeg := fun q => h (by
  have a0 := own_ge0 ha
  have b0 := own_ge0 hb
  have q' : a.toInt.toNat = b.toInt.toNat := q
  rw [← Int32.toInt_inj]
  omega)
theorem own_v1 (F : Nat → Value) (i j k : Int32) (a b : Value) (h : k = j) : (own_up (own_up F (i).toNatClampNeg a) (j).toNatClampNeg b) (k).toNatClampNeg = b := by
  rw [h]; simp [own_up]
theorem own_v2 (F : Nat → Value) (i j k : Int32) (a b : Value) (hk : ¬ k < 0) (hj : ¬ j < 0) (h : ¬ k = j) (h2 : k = i) : (own_up (own_up F (i).toNatClampNeg a) (j).toNatClampNeg b) (k).toNatClampNeg = a := by
  have q := own_inj hk hj h
  simp only [own_up]
  rw [if_neg q, if_pos (by rw [h2])]
theorem own_v3 (x : Value) (i j k : Int32) (a b : Value) (hk : ¬ k < 0) (hj : ¬ j < 0) (hi : ¬ i < 0) (h : ¬ k = j) (h2 : ¬ k = i) : (own_up (own_up (fun _ => x) (i).toNatClampNeg a) (j).toNatClampNeg b) (k).toNatClampNeg = x := by
  have q := own_inj hk hj h
  have q2 := own_inj hk hi h2
  simp only [own_up]
  rw [if_neg q, if_neg q2]
def Q_law (Z : State) (h0 : Heap) (n0 : Nat) (v : Option Value) (h : Heap) (L : List Loc) : Prop := v = some (.int (1 : Int32)) ∧ Fr n0 L
theorem rm0 (l : Launch) (Z : State) (a0 : Array Value) (hw : ∀ d ∈ tables_1, d.before a0 Z = true) (ws : List Jvm.Cond) (p1 p2 p3 p4 p5 : Int32) (ca b7 b11 b13 : Addr) (kc : ClassId) (CF : Nat → Value) (h0 : Heap) (n0 : Nat) (Z0 : n0 ≤ h0.size) (S_high : Sta Z h0 "java/lang/Integer$IntegerCache" "high" "I" (.int (127 : Int32))) (S_cache : Sta Z h0 "java/lang/Integer$IntegerCache" "cache" "[Ljava/lang/Integer;" (.ref ca)) (V_ca : Arv Z h0 ca kc (.object "java/lang/Integer") (256 : Int32) (own_R ((256 : Int32)).toNatClampNeg CF) .null) (EX_b7 : Exa Z h0 b7 "java/lang/Integer") (EX_b11 : Exa Z h0 b11 "java/lang/Integer") (EX_b13 : Exa Z h0 b13 "java/lang/Integer") (f7 : (CF (((7 : Int32) + (128 : Int32))).toNatClampNeg) = (.ref b7)) (f11 : (CF (((11 : Int32) + (128 : Int32))).toNatClampNeg) = (.ref b11)) (f13 : (CF (((13 : Int32) + (128 : Int32))).toNatClampNeg) = (.ref b13)) : MetFree l x (head1 (Jvm.Cond.code x code maxLocals ret :: ws) room_1) (fun a U => a = #[(.int p1), (.int p2), (.int p3), (.int p4), (.int p5)] ∧ Z.Warmed39 U.vm ∧ U.heap = h0) (fun _ _ _ _ _ => True) (fun _ U o U' => ∃ v L, o = .returned v ∧ Q_law Z h0 n0 v U'.heap L ∧ FrameEnd U o U' L room_1.cells room_1.slots) := by
  obtain ⟨g1, hg1⟩ := own_fl_ex (p5 &&& (1 : Int32))
  obtain ⟨g2, hg2⟩ := own_fl_ex (p5 &&& (2 : Int32))
  obtain ⟨nn, hnn, n1, n2⟩ := own_nn_ex p1 g1
  have hz : nn ≠ 0 := fun q => by rw [q] at n1; exact absurd n1 (by decide)
  have hi := own_mod p2 n1
  have hj := own_mod p3 n1
  obtain ⟨kk, hkk, hk⟩ := own_kk_ex (((p5.toUInt32 >>> ((2 : Int32) &&& 31).toUInt32).toInt32) &&& (3 : Int32)) ((p2 &&& (2147483647 : Int32)) % nn) ((p3 &&& (2147483647 : Int32)) % nn) p4 nn n1 hi hj
  by_cases c2 : g2 = (0 : Int32)
  · by_cases c3 : kk = ((p3 &&& (2147483647 : Int32)) % nn)
    · exact rm0_r1 l Z a0 hw ws p1 p2 p3 p4 p5 g1 g2 nn kk ca b7 b11 b13 kc CF h0 n0 Z0 S_high S_cache V_ca EX_b7 EX_b11 EX_b13 hg1 hg2 hnn hz hkk c2 f7 f11 f13 n1 n2 hi hj hk (own_v1 _ _ _ _ _ _ c3) c3
    by_cases c4 : kk = ((p2 &&& (2147483647 : Int32)) % nn)
    · exact rm0_r2 l Z a0 hw ws p1 p2 p3 p4 p5 g1 g2 nn kk ca b7 b11 b13 kc CF h0 n0 Z0 S_high S_cache V_ca EX_b7 EX_b11 EX_b13 hg1 hg2 hnn hz hkk c2 f7 f11 f13 n1 n2 hi hj hk (own_v2 _ _ _ _ _ _ hk.1 hj.1 c3 c4) c3 c4
    · exact rm0_r3 l Z a0 hw ws p1 p2 p3 p4 p5 g1 g2 nn kk ca b7 b11 b13 kc CF h0 n0 Z0 S_high S_cache V_ca EX_b7 EX_b11 EX_b13 hg1 hg2 hnn hz hkk c2 f7 f11 f13 n1 n2 hi hj hk (own_v3 _ _ _ _ _ _ hk.1 hj.1 hi.1 c3 c4) c3 c4
  · by_cases c3 : kk = ((p3 &&& (2147483647 : Int32)) % nn)
    · exact rm0_n1 l Z a0 hw ws p1 p2 p3 p4 p5 g1 g2 nn kk ca b7 b11 b13 kc CF h0 n0 Z0 S_high S_cache V_ca EX_b7 EX_b11 EX_b13 hg1 hg2 hnn hz hkk c2 f11 f13 n1 n2 hi hj hk (own_v1 _ _ _ _ _ _ c3) c3
    by_cases c4 : kk = ((p2 &&& (2147483647 : Int32)) % nn)
    · exact rm0_n2 l Z a0 hw ws p1 p2 p3 p4 p5 g1 g2 nn kk ca b7 b11 b13 kc CF h0 n0 Z0 S_high S_cache V_ca EX_b7 EX_b11 EX_b13 hg1 hg2 hnn hz hkk c2 f11 f13 n1 n2 hi hj hk (own_v2 _ _ _ _ _ _ hk.1 hj.1 c3 c4) c3 c4
    · exact rm0_n3 l Z a0 hw ws p1 p2 p3 p4 p5 g1 g2 nn kk ca b7 b11 b13 kc CF h0 n0 Z0 S_high S_cache V_ca EX_b7 EX_b11 EX_b13 hg1 hg2 hnn hz hkk c2 f11 f13 n1 n2 hi hj hk (own_v3 _ _ _ _ _ _ hk.1 hj.1 hi.1 c3 c4) c3 c4
theorem own_cache {s : State} {args : Array Value} {t : Term} {ca : Addr} {W : Cond} (hf : Fit s) (ht : ∀ idx, t.eval args s none idx s = some (.ref ca)) (h1 : (Cond.arrayOf t (.object "java/lang/Integer")).value args s none s [] = some true) (h2 : (Cond.eq (Term.length t) (Term.int (256 : Int32))).value args s none s [] = some true)
    (h3 : (Cond.all t (.and (.exactly (.elem t (.index 0)) "java/lang/Integer") W)).value args s none s [] = some true) :
    ∃ (kc : ClassId) (CF : Nat → Value), Arv s s.heap ca kc (.object "java/lang/Integer") (256 : Int32) (own_R ((256 : Int32)).toNatClampNeg CF) .null ∧ ∀ j, j < 256 → ∃ b, CF j = .ref b ∧ Exa s s.heap b "java/lang/Integer" := by
  obtain ⟨cl, A⟩ := Arr.start (ht []) h1
  have hat : s.arrayAt? ca = some cl := A.fin (Vm.Alike.refl _)
  have hsz : cl.slots.size = 256 := by
    simp only [Cond.value, Term.eval, ht, hat, Option.bind_eq_bind, Option.bind_some] at h2
    by_cases q : cl.slots.size < 2 ^ 31
    · simp [q] at h2
      have e := congrArg Int32.toInt h2
      rw [len_toInt q] at e
      have : (256 : Int32).toInt = 256 := by decide
      omega
    · simp [q] at h2
  have c256 : (256 : Int32).toNatClampNeg = 256 := by decide
  have e1 : ∀ j, j < 256 → (Nat.toInt32 j).toNatClampNeg = j := fun j hj => by simp only [Int32.toNatClampNeg, len_toInt (show j < 2 ^ 31 by omega)]; rfl
  have ng : ∀ j, j < 256 → ¬ (Nat.toInt32 j < 0) := fun j hj => by
    rw [Int32.lt_iff_toInt_lt, len_toInt (by omega)]
    have : (0 : Int32).toInt = 0 := by decide
    omega
  have key : ∀ j, j < 256 → ∃ b, cl.slots[j]? = some (.ref b) ∧ Exa s s.heap b "java/lang/Integer" := by
    intro j hj
    obtain ⟨u1, -⟩ := and_e (Cond.all_elim (ht []) hat h3 j (by omega))
    obtain ⟨box, eb⟩ := exa_v u1
    refine ⟨box, ?_, exa_at eb u1⟩
    have := (elem_f (ht _) (idx_at (ng j hj)) hat (ng j hj)).symm
    rw [e1 j hj] at this
    exact this.trans eb
  refine ⟨cl.cls, fun j => (cl.slots[j]?).getD .null, ⟨cl, A, rfl, by rw [hsz, c256], by decide, fun k hk => ?_, fun k hk => ?_⟩, fun j hj => ?_⟩
  · obtain ⟨b, hb, -⟩ := key k (by omega)
    rw [c256, own_R_at _ (by omega)]
    simp [hb]
  · obtain ⟨b, hb, -⟩ := key k (by omega)
    rw [c256, own_R_at _ (by omega)]
    simp [hb, fits]
  · obtain ⟨b, hb, E⟩ := key j hj
    exact ⟨b, by simp [hb], E⟩
set_option maxRecDepth 65536 in
set_option maxHeartbeats 40000000 in
theorem comes_1 {Post : Tables → Env → Array Value → State → Outcome → State → Prop} (hpost : ∀ tb e args s v u, (limb_1_1.after args s (.returned v) u = true ∧ limb_1_2.after args s (.returned v) u = true ∧ True) → FrameEnd s (.returned v) u (Jvm.fieldLocs frame_1_writes args s ++ Jvm.arrayLocs frame_1_arrays args s ++ Jvm.staticLocs frame_1_statics s) 24 235968 → Post tb e args s (.returned v) u) :
    ArmFor flags0 classFile x code maxLocals ret World_1 tables_1 room_1 Calls_1 rest_1 Pre_1 Post := by
  intro l hfl _ _ p e ha hc hk s m args below hf hA hF happ hP
  obtain ⟨hcalls, hrest, hpre⟩ := hP
  obtain ⟨-, -, -, hnamed, -, -, -, hat⟩ := (Spec.applies_iff hf).mp happ
  obtain ⟨hg, hn⟩ := and_e (Cond.before_iff.mp (show (Jvm.Cond.and given_1 narrow_1).before args s = true from hpre))
  obtain ⟨ga0, gb0⟩ := and_e hg
  obtain ⟨ga1, gb1⟩ := and_e gb0
  obtain ⟨ga2, gb2⟩ := and_e gb1
  obtain ⟨ga3, gb3⟩ := and_e gb2
  obtain ⟨ga4, gb4⟩ := and_e gb3
  obtain ⟨w0, w1, w2, w3, w4, rfl⟩ : ∃ w0 w1 w2 w3 w4 : Value, args = #[w0, w1, w2, w3, w4] := by
    have hs : args.size = 5 := by simpa [Cond.value, given_1] using ga0
    obtain ⟨L⟩ := args
    match L, hs with
    | [w0, w1, w2, w3, w4], _ => exact ⟨w0, w1, w2, w3, w4, rfl⟩
  have hw := fun d (hd : d ∈ tables_1) => atoms_spec (ws := Jvm.Cond.code x code maxLocals ret :: tables_1) hat d (List.mem_cons_of_mem _ hd)
  obtain ⟨i0, ei0⟩ := is_v ga1
  obtain rfl : w0 = (.int i0) := Option.some.inj ei0
  obtain ⟨i1, ei1⟩ := is_v ga2
  obtain rfl : w1 = (.int i1) := Option.some.inj ei1
  obtain ⟨i2, ei2⟩ := is_v ga3
  obtain rfl : w2 = (.int i2) := Option.some.inj ei2
  obtain ⟨i3, ei3⟩ := is_v ga4
  obtain rfl : w3 = (.int i3) := Option.some.inj ei3
  obtain ⟨i4, ei4⟩ := is_v gb4
  obtain rfl : w4 = (.int i4) := Option.some.inj ei4
  have hfit : Fit s := fun {y c} hc i hi => by
    obtain ⟨ha, rfl⟩ := Array.getElem?_eq_some_iff.mp hc
    have q := List.all_eq_true.mp ((Array.all_eq_true_iff_forall_mem.mp hF) _ (Array.getElem_mem ha)) i (List.mem_range.mpr hi)
    simpa [Array.getElem?_eq_getElem hi] using q
  obtain ⟨hsets, -⟩ := atoms_of _ (rest_1_c_eq ▸ (show rest_1_c.before _ s = true from hrest))
  have gs := fun (i : Nat) (d : Jvm.Cond) (h : jdkStatics_1[i]? = some d) => hsets d (List.mem_of_getElem? h)
  have Shi := Sta.start (eqv_i (Term.int_eval _) (Cond.before_iff.mp (gs 3 _ rfl))) (Or.inl (gs 1 _ rfl))
  obtain ⟨ca, eca⟩ := arr_v (Cond.before_iff.mp (gs 4 _ rfl))
  have Sca := Sta.start eca (Or.inr ⟨hw _ (List.mem_of_getElem? (i := 7) rfl), gs 2 _ rfl⟩)
  obtain ⟨kc, CF, Vca, hbx⟩ := own_cache hfit (fun idx => eca) (Cond.before_iff.mp (gs 4 _ rfl)) (Cond.before_iff.mp (gs 6 _ rfl)) (Cond.before_iff.mp (gs 7 _ rfl))
  obtain ⟨b7, f7_, E7⟩ := hbx 135 (by decide)
  have f7 : (CF (((7 : Int32) + (128 : Int32))).toNatClampNeg) = (.ref b7) := by rw [show (((7 : Int32) + (128 : Int32))).toNatClampNeg = 135 from by decide]; exact f7_
  obtain ⟨b11, f11_, E11⟩ := hbx 139 (by decide)
  have f11 : (CF (((11 : Int32) + (128 : Int32))).toNatClampNeg) = (.ref b11) := by rw [show (((11 : Int32) + (128 : Int32))).toNatClampNeg = 139 from by decide]; exact f11_
  obtain ⟨b13, f13_, E13⟩ := hbx 141 (by decide)
  have f13 : (CF (((13 : Int32) + (128 : Int32))).toNatClampNeg) = (.ref b13) := by rw [show (((13 : Int32) + (128 : Int32))).toNatClampNeg = 141 from by decide]; exact f13_
  obtain ⟨n, o, h1, h2, h3, _, L, rfl, ⟨rfl, N⟩, hq⟩ := rm0 l s _ hw tables_1 i0 i1 i2 i3 i4 ca b7 b11 b13 kc CF s.heap s.heap.size (Nat.le_refl _) Shi Sca Vca E7 E11 E13 f7 f11 f13 p e ha hc hk s m _ below hf ((Spec.applies_iff_loose hf).mp happ).1 ⟨rfl, State.Warmed39.refl s, rfl⟩ trivial
  refine ⟨n, _, h1, h2, h3, hpost _ _ _ _ _ _ ⟨Cond.after_iff.mpr rfl, Cond.after_iff.mpr (eq_i res_at (Term.int_eval (1)) rfl), trivial⟩ ⟨hq.1, hq.2.1, (hq.2.2.sift fun y hy => Or.inr (N y hy)).mono (by decide) (by decide)⟩⟩
theorem main_1_1 : Claimed_1_1 := comes_1 fun _ _ _ _ _ _ h hF => ⟨h.1, hF⟩
theorem main_1_2 : Claimed_1_2 := comes_1 fun _ _ _ _ _ _ h hF => ⟨h.2.1, hF⟩
end Jvm.Pilot.@@N@@
namespace Jvm.Pilot.@@N@@
open Jvm Jvm.ClassFile Sem Op Lib Jvm.Free Jvm.Stand Jvm.Pilot.@@N@@.Jvm.D
/-! MADE BY PROGRAM (witnessworld.py) out of the Statement's table words and the real class files: 19 classes; the members and pool entries that the words name. The judged class is class 1, her method 1. -/
namespace start1
open Jvm.ClassFile
def u (s : String) : CpInfo := .utf8 (stringToUtf16 s)
/-- a pool by its gaps: so many unusable entries, then the entry; so many at the end -/
def gap : Nat → List CpInfo → List CpInfo
  | 0, r => r
  | n + 1, r => .unusable :: gap n r
def poolList (es : List (Nat × CpInfo)) (last : Nat) : List CpInfo := es.foldr (fun e r => gap e.1 (e.2 :: r)) (gap last [])
def pool (es : List (Nat × CpInfo)) (last : Nat) : Array CpInfo := ⟨poolList es last⟩
def fileOf (pool : Array CpInfo) (this : Nat) (attrs : Array Attribute := #[]) (ms : Array MethodInfo := #[]) (fl : Nat := 33) (sup : Nat := 0) (ifs : Array Nat := #[]) (fds : Array FieldInfo := #[]) : ClassFile where
  minorVersion := 0
  majorVersion := 65
  constantPool := pool
  accessFlags := fl
  thisClass := this
  superClass := sup
  interfaces := ifs
  fields := fds
  methods := ms
  attributes := attrs
def plain (name : String) (sup : Option ClassId) : Class where
  name := name
  kind := .ordinary
  loader := none
  accessFlags := 33
  super := sup
  interfaces := #[]
  cf := none
  fields := #[]
  methods := #[]
  instanceTypes := #[]
  staticTypes := #[]
  resolved := #[]
  callSites := []
  init := .initialized
  statics := none
  mirror := none

def pool0 : Array CpInfo := pool [(5, u "<init>"), (0, u "()V"), (1, .class_ 10), (1, u "java/lang/Object")] 113

def k0c0 : Code := { maxStack := 0, maxLocals := 1, code := object_method_1_code, exceptionTable := #[], attributes := #[] }
def k0m0 : Method := { name := "<init>", desc := "()V", sig := { parameters := [], returnType := none }, accessFlags := 1, code := some k0c0 }
/-- java/lang/Object -/
def k0 : Class := { plain "java/lang/Object" none with
  accessFlags := 33
  interfaces := #[]
  cf := some (fileOf pool0 8 #[] #[{ accessFlags := 1, nameIndex := 5, descriptorIndex := 6, attributes := #[] }] 33 0 #[] #[])
  fields := #[]
  methods := #[k0m0]
  instanceTypes := #[]
  staticTypes := #[]
  resolved := Array.replicate 124 none
  statics := none }

def pool1 : Array CpInfo := pool [(2, .class_ 4), (1, u "java/lang/Object"), (0, u "<init>"), (0, u "()V"), (0, .integer 65537), (0, .integer 131071), (0, .integer 65535), (0, .integer 2147483647), (0, .methodref 12 13), (0, .class_ 14), (0, .nameAndType 15 16), (0, u "java/lang/Integer"), (0, u "valueOf"), (0, u "(I)Ljava/lang/Integer;"), (0, .class_ 18), (0, u "com/example/hashwright/hashwright/table/PagedArray"), (0, .methodref 17 20), (0, .nameAndType 5 21), (0, u "(ILjava/lang/Object;)V"), (0, .methodref 17 23), (0, .nameAndType 24 21), (0, u "set"), (0, .methodref 17 26), (0, .nameAndType 27 28), (0, u "get"), (0, u "(I)Ljava/lang/Object;"), (0, .class_ 30), (0, u "com/example/hashwright/hashwright/table/PagedArrayGetPinLaw"), (2, u "law"), (0, u "(IIIII)Z")] 3

def k1m0 : Method := { name := "<init>", desc := "()V", sig := { parameters := [], returnType := none }, accessFlags := 1, code := none }
def k1c1 : Code := { maxStack := 4, maxLocals := 18, code := code, exceptionTable := #[], attributes := #[] }
def k1m1 : Method := { name := "law", desc := "(IIIII)Z", sig := { parameters := [.int, .int, .int, .int, .int], returnType := some .boolean }, accessFlags := 9, code := some k1c1 }
/-- com/example/hashwright/hashwright/table/PagedArrayGetPinLaw -/
def k1 : Class := { plain "com/example/hashwright/hashwright/table/PagedArrayGetPinLaw" (some 0) with
  accessFlags := 49
  interfaces := #[]
  cf := some (fileOf pool1 29 #[] #[{ accessFlags := 1, nameIndex := 5, descriptorIndex := 6, attributes := #[] }, { accessFlags := 9, nameIndex := 33, descriptorIndex := 34, attributes := #[] }] 49 2 #[] #[])
  fields := #[]
  methods := #[k1m0, k1m1]
  instanceTypes := #[]
  staticTypes := #[]
  resolved := Array.replicate 38 none
  statics := none }

def pool2 : Array CpInfo := pool [(1, .class_ 2), (0, u "java/io/Serializable"), (0, .class_ 4), (0, u "java/lang/Object")] 2

/-- java/io/Serializable -/
def k2 : Class := { plain "java/io/Serializable" (some 0) with
  accessFlags := 1537
  interfaces := #[]
  cf := some (fileOf pool2 1 #[] #[] 1537 3 #[] #[])
  fields := #[]
  methods := #[]
  instanceTypes := #[]
  staticTypes := #[]
  resolved := Array.replicate 7 none
  statics := none }

def pool3 : Array CpInfo := pool [(2, .class_ 4), (1, u "java/lang/Object"), (0, u "<init>"), (0, u "()V"), (1, .class_ 10), (1, u "java/lang/Number"), (2, .class_ 14), (0, u "java/io/Serializable"), (0, u "serialVersionUID"), (0, u "J")] 20

def k3m0 : Method := { name := "<init>", desc := "()V", sig := { parameters := [], returnType := none }, accessFlags := 1, code := none }
/-- java/lang/Number -/
def k3 : Class := { plain "java/lang/Number" (some 0) with
  accessFlags := 1057
  interfaces := #[2]
  cf := some (fileOf pool3 8 #[] #[{ accessFlags := 1, nameIndex := 5, descriptorIndex := 6, attributes := #[] }] 1057 2 #[13] #[{ accessFlags := 26, nameIndex := 15, descriptorIndex := 16, attributes := #[] }])
  fields := #[{ name := "serialVersionUID", type := .long, accessFlags := 26, slot := 0, constantValue := 0 }]
  methods := #[k3m0]
  instanceTypes := #[]
  staticTypes := #[.long]
  resolved := Array.replicate 37 none
  statics := none }

def pool4 : Array CpInfo := pool [(1, .class_ 2), (0, u "java/lang/Comparable"), (0, .class_ 4), (0, u "java/lang/Object")] 7

/-- java/lang/Comparable -/
def k4 : Class := { plain "java/lang/Comparable" (some 0) with
  accessFlags := 1537
  interfaces := #[]
  cf := some (fileOf pool4 1 #[] #[] 1537 3 #[] #[])
  fields := #[]
  methods := #[]
  instanceTypes := #[]
  staticTypes := #[]
  resolved := Array.replicate 12 none
  statics := none }

def pool5 : Array CpInfo := pool [(1, .class_ 2), (0, u "java/lang/constant/Constable"), (0, .class_ 4), (0, u "java/lang/Object")] 6

/-- java/lang/constant/Constable -/
def k5 : Class := { plain "java/lang/constant/Constable" (some 0) with
  accessFlags := 1537
  interfaces := #[]
  cf := some (fileOf pool5 1 #[] #[] 1537 3 #[] #[])
  fields := #[]
  methods := #[]
  instanceTypes := #[]
  staticTypes := #[]
  resolved := Array.replicate 11 none
  statics := none }

def pool6 : Array CpInfo := pool [(1, .class_ 2), (0, u "java/lang/constant/ConstantDesc"), (0, .class_ 4), (0, u "java/lang/Object")] 32

/-- java/lang/constant/ConstantDesc -/
def k6 : Class := { plain "java/lang/constant/ConstantDesc" (some 0) with
  accessFlags := 1537
  interfaces := #[]
  cf := some (fileOf pool6 1 #[] #[] 1537 3 #[] #[])
  fields := #[]
  methods := #[]
  instanceTypes := #[]
  staticTypes := #[]
  resolved := Array.replicate 37 none
  statics := none }

def pool7 : Array CpInfo := pool [(1, .class_ 2), (0, u "java/lang/Integer"), (16, u "digits"), (0, u "[C"), (64, u "DigitOnes"), (0, u "[B"), (2, u "DigitTens"), (97, u "valueOf"), (0, u "(I)Ljava/lang/Integer;"), (0, .class_ 190), (0, u "java/lang/Integer$IntegerCache"), (0, .fieldref 189 192), (0, .nameAndType 193 194), (0, u "high"), (0, u "I"), (0, .fieldref 189 196), (0, .nameAndType 197 198), (0, u "cache"), (0, u "[Ljava/lang/Integer;"), (4, .class_ 204), (0, u "java/lang/Number"), (2, u "value"), (94, u "TYPE"), (0, u "Ljava/lang/Class;"), (0, .class_ 305), (0, u "java/lang/Comparable"), (0, .class_ 307), (0, u "java/lang/constant/Constable"), (0, .class_ 309), (0, u "java/lang/constant/ConstantDesc"), (0, u "MIN_VALUE"), (1, u "MAX_VALUE"), (3, u "SIZE"), (1, u "BYTES"), (1, u "serialVersionUID"), (0, u "J")] 131

def k7c0 : Code := { maxStack := 3, maxLocals := 1, code := jdk_33_method_22_code, exceptionTable := #[], attributes := #[] }
def k7m0 : Method := { name := "valueOf", desc := "(I)Ljava/lang/Integer;", sig := { parameters := [.int], returnType := some (.object "java/lang/Integer") }, accessFlags := 9, code := some k7c0 }
/-- java/lang/Integer -/
def k7 : Class := { plain "java/lang/Integer" (some 3) with
  accessFlags := 49
  interfaces := #[4, 5, 6]
  cf := some (fileOf pool7 1 #[.nestMembers #[189]] #[{ accessFlags := 9, nameIndex := 187, descriptorIndex := 188, attributes := #[] }] 49 203 #[304, 306, 308] #[{ accessFlags := 25, nameIndex := 310, descriptorIndex := 194, attributes := #[] }, { accessFlags := 25, nameIndex := 312, descriptorIndex := 194, attributes := #[] }, { accessFlags := 25, nameIndex := 302, descriptorIndex := 303, attributes := #[] }, { accessFlags := 24, nameIndex := 19, descriptorIndex := 20, attributes := #[] }, { accessFlags := 24, nameIndex := 89, descriptorIndex := 86, attributes := #[] }, { accessFlags := 24, nameIndex := 85, descriptorIndex := 86, attributes := #[] }, { accessFlags := 18, nameIndex := 207, descriptorIndex := 194, attributes := #[] }, { accessFlags := 25, nameIndex := 316, descriptorIndex := 194, attributes := #[] }, { accessFlags := 25, nameIndex := 318, descriptorIndex := 194, attributes := #[] }, { accessFlags := 26, nameIndex := 320, descriptorIndex := 321, attributes := #[] }])
  fields := #[{ name := "MIN_VALUE", type := .int, accessFlags := 25, slot := 0, constantValue := 0 }, { name := "MAX_VALUE", type := .int, accessFlags := 25, slot := 1, constantValue := 0 }, { name := "TYPE", type := (.object "java/lang/Class"), accessFlags := 25, slot := 2, constantValue := 0 }, { name := "digits", type := (.array .char), accessFlags := 24, slot := 3, constantValue := 0 }, { name := "DigitTens", type := (.array .byte), accessFlags := 24, slot := 4, constantValue := 0 }, { name := "DigitOnes", type := (.array .byte), accessFlags := 24, slot := 5, constantValue := 0 }, { name := "value", type := .int, accessFlags := 18, slot := 0, constantValue := 0 }, { name := "SIZE", type := .int, accessFlags := 25, slot := 6, constantValue := 0 }, { name := "BYTES", type := .int, accessFlags := 25, slot := 7, constantValue := 0 }, { name := "serialVersionUID", type := .long, accessFlags := 26, slot := 8, constantValue := 0 }]
  methods := #[k7m0]
  instanceTypes := #[.int]
  staticTypes := #[.int, .int, (.object "java/lang/Class"), (.array .char), (.array .byte), (.array .byte), .int, .int, .long]
  resolved := Array.replicate 453 none
  statics := none }

def pool8 : Array CpInfo := pool [(2, .class_ 4), (1, u "java/lang/Object"), (0, u "<init>"), (0, u "()V"), (0, .class_ 8), (0, u "java/lang/Integer"), (7, .class_ 18), (1, u "java/lang/Integer$IntegerCache"), (0, u "$assertionsDisabled"), (0, u "Z"), (26, u "high"), (0, u "I"), (8, u "archivedCache"), (0, u "[Ljava/lang/Integer;"), (12, u "cache"), (0, u "low")] 27

def k8m0 : Method := { name := "<init>", desc := "()V", sig := { parameters := [], returnType := none }, accessFlags := 2, code := none }
/-- java/lang/Integer$IntegerCache -/
def k8 : Class := { plain "java/lang/Integer$IntegerCache" (some 0) with
  accessFlags := 48
  interfaces := #[]
  cf := some (fileOf pool8 16 #[.nestHost 7] #[{ accessFlags := 2, nameIndex := 5, descriptorIndex := 6, attributes := #[] }] 48 2 #[] #[{ accessFlags := 24, nameIndex := 72, descriptorIndex := 48, attributes := #[] }, { accessFlags := 24, nameIndex := 47, descriptorIndex := 48, attributes := #[] }, { accessFlags := 24, nameIndex := 71, descriptorIndex := 58, attributes := #[] }, { accessFlags := 8, nameIndex := 57, descriptorIndex := 58, attributes := #[] }, { accessFlags := 4120, nameIndex := 19, descriptorIndex := 20, attributes := #[] }])
  fields := #[{ name := "low", type := .int, accessFlags := 24, slot := 0, constantValue := 0 }, { name := "high", type := .int, accessFlags := 24, slot := 1, constantValue := 0 }, { name := "cache", type := (.array (.object "java/lang/Integer")), accessFlags := 24, slot := 2, constantValue := 0 }, { name := "archivedCache", type := (.array (.object "java/lang/Integer")), accessFlags := 8, slot := 3, constantValue := 0 }, { name := "$assertionsDisabled", type := .boolean, accessFlags := 4120, slot := 4, constantValue := 0 }]
  methods := #[k8m0]
  instanceTypes := #[]
  staticTypes := #[.int, .int, (.array (.object "java/lang/Integer")), (.array (.object "java/lang/Integer")), .boolean]
  resolved := Array.replicate 100 none
  statics := some 0 }

def pool9 : Array CpInfo := pool [(1, .class_ 2), (0, u "com/example/hashwright/hashwright/table/PagedArray"), (2, u "<init>"), (0, u "(ILjava/lang/Object;)V"), (0, .methodref 8 9), (0, .class_ 10), (0, .nameAndType 5 11), (0, u "java/lang/Object"), (0, u "()V"), (0, .fieldref 1 13), (0, .nameAndType 14 15), (0, u "length"), (0, u "I"), (0, .integer 65536), (0, .fieldref 1 18), (0, .nameAndType 19 20), (0, u "elements"), (0, u "[Ljava/lang/Object;"), (0, .fieldref 1 22), (0, .nameAndType 23 24), (0, u "pages"), (0, u "[[Ljava/lang/Object;"), (0, .class_ 20), (0, .methodref 27 28), (0, .class_ 29), (0, .nameAndType 30 31), (0, u "java/lang/Math"), (0, u "min"), (0, u "(II)I"), (0, .methodref 1 33), (0, .nameAndType 34 35), (0, u "arrayHolding"), (0, u "(I)[Ljava/lang/Object;"), (0, .methodref 37 38), (0, .class_ 39), (0, .nameAndType 40 41), (0, u "java/util/Arrays"), (0, u "fill"), (0, u "([Ljava/lang/Object;Ljava/lang/Object;)V"), (0, .integer 65535), (9, u "PAGE_BITS"), (2, u "PAGE_MASK"), (6, u "get"), (0, u "(I)Ljava/lang/Object;"), (1, u "set")] 6

def k9c0 : Code := { maxStack := 6, maxLocals := 4, code := prog_72_method_2_code, exceptionTable := #[], attributes := #[] }
def k9m0 : Method := { name := "<init>", desc := "(ILjava/lang/Object;)V", sig := { parameters := [.int, (.object "java/lang/Object")], returnType := none }, accessFlags := 1, code := some k9c0 }
def k9c1 : Code := { maxStack := 3, maxLocals := 4, code := prog_72_method_4_code, exceptionTable := #[], attributes := #[] }
def k9m1 : Method := { name := "get", desc := "(I)Ljava/lang/Object;", sig := { parameters := [.int], returnType := some (.object "java/lang/Object") }, accessFlags := 1, code := some k9c1 }
def k9c2 : Code := { maxStack := 3, maxLocals := 4, code := prog_72_method_5_code, exceptionTable := #[], attributes := #[] }
def k9m2 : Method := { name := "set", desc := "(ILjava/lang/Object;)V", sig := { parameters := [.int, (.object "java/lang/Object")], returnType := none }, accessFlags := 1, code := some k9c2 }
def k9c3 : Code := { maxStack := 3, maxLocals := 2, code := prog_72_method_7_code, exceptionTable := #[], attributes := #[] }
def k9m3 : Method := { name := "arrayHolding", desc := "(I)[Ljava/lang/Object;", sig := { parameters := [.int], returnType := some (.array (.object "java/lang/Object")) }, accessFlags := 2, code := some k9c3 }
/-- com/example/hashwright/hashwright/table/PagedArray -/
def k9 : Class := { plain "com/example/hashwright/hashwright/table/PagedArray" (some 0) with
  accessFlags := 49
  interfaces := #[]
  cf := some (fileOf pool9 1 #[] #[{ accessFlags := 1, nameIndex := 5, descriptorIndex := 6, attributes := #[] }, { accessFlags := 1, nameIndex := 62, descriptorIndex := 63, attributes := #[] }, { accessFlags := 1, nameIndex := 65, descriptorIndex := 6, attributes := #[] }, { accessFlags := 2, nameIndex := 34, descriptorIndex := 35, attributes := #[] }] 49 8 #[] #[{ accessFlags := 26, nameIndex := 52, descriptorIndex := 15, attributes := #[] }, { accessFlags := 26, nameIndex := 55, descriptorIndex := 15, attributes := #[] }, { accessFlags := 18, nameIndex := 14, descriptorIndex := 15, attributes := #[] }, { accessFlags := 18, nameIndex := 19, descriptorIndex := 20, attributes := #[] }, { accessFlags := 18, nameIndex := 23, descriptorIndex := 24, attributes := #[] }])
  fields := #[{ name := "PAGE_BITS", type := .int, accessFlags := 26, slot := 0, constantValue := 0 }, { name := "PAGE_MASK", type := .int, accessFlags := 26, slot := 1, constantValue := 0 }, { name := "length", type := .int, accessFlags := 18, slot := 0, constantValue := 0 }, { name := "elements", type := (.array (.object "java/lang/Object")), accessFlags := 18, slot := 1, constantValue := 0 }, { name := "pages", type := (.array (.array (.object "java/lang/Object"))), accessFlags := 18, slot := 2, constantValue := 0 }]
  methods := #[k9m0, k9m1, k9m2, k9m3]
  instanceTypes := #[.int, (.array (.object "java/lang/Object")), (.array (.array (.object "java/lang/Object")))]
  staticTypes := #[.int, .int]
  resolved := Array.replicate 72 none
  statics := none }

def pool10 : Array CpInfo := pool [(2, .class_ 4), (1, u "java/lang/Object"), (0, u "<init>"), (0, u "()V"), (7, .class_ 16), (1, u "java/util/Arrays"), (57, .class_ 76), (1, u "java/util/Arrays$NaturalOrder"), (36, .class_ 115), (1, u "java/util/Arrays$LegacyMergeSort"), (1, u "Z"), (257, .class_ 376), (0, u "java/util/Arrays$ArrayList"), (68, u "$assertionsDisabled"), (269, u "MIN_ARRAY_SORT_GRAN"), (0, u "I"), (2, u "INSERTIONSORT_THRESHOLD"), (120, u "fill"), (17, u "([Ljava/lang/Object;Ljava/lang/Object;)V"), (116, .class_ 976), (0, u "java/util/Arrays$ArrayItr")] 52

def k10m0 : Method := { name := "<init>", desc := "()V", sig := { parameters := [], returnType := none }, accessFlags := 2, code := none }
def k10c1 : Code := { maxStack := 3, maxLocals := 4, code := jdk_65_method_117_code, exceptionTable := #[], attributes := #[] }
def k10m1 : Method := { name := "fill", desc := "([Ljava/lang/Object;Ljava/lang/Object;)V", sig := { parameters := [(.array (.object "java/lang/Object")), (.object "java/lang/Object")], returnType := none }, accessFlags := 9, code := some k10c1 }
/-- java/util/Arrays -/
def k10 : Class := { plain "java/util/Arrays" (some 0) with
  accessFlags := 49
  interfaces := #[]
  cf := some (fileOf pool10 14 #[.nestMembers #[975, 375, 113, 74]] #[{ accessFlags := 2, nameIndex := 5, descriptorIndex := 6, attributes := #[] }, { accessFlags := 9, nameIndex := 840, descriptorIndex := 858, attributes := #[] }] 49 2 #[] #[{ accessFlags := 26, nameIndex := 715, descriptorIndex := 716, attributes := #[] }, { accessFlags := 26, nameIndex := 719, descriptorIndex := 716, attributes := #[] }, { accessFlags := 4120, nameIndex := 445, descriptorIndex := 117, attributes := #[] }])
  fields := #[{ name := "MIN_ARRAY_SORT_GRAN", type := .int, accessFlags := 26, slot := 0, constantValue := 0 }, { name := "INSERTIONSORT_THRESHOLD", type := .int, accessFlags := 26, slot := 1, constantValue := 0 }, { name := "$assertionsDisabled", type := .boolean, accessFlags := 4120, slot := 2, constantValue := 0 }]
  methods := #[k10m0, k10m1]
  instanceTypes := #[]
  staticTypes := #[.int, .int, .boolean]
  resolved := Array.replicate 1029 none
  statics := none }

def pool11 : Array CpInfo := pool [(1, .class_ 2), (0, u "java/lang/Math"), (1, .class_ 6), (1, u "java/lang/Object"), (0, u "<init>"), (0, u "()V"), (89, .class_ 100), (1, u "java/lang/Math$RandomNumberGeneratorHolder"), (71, u "negativeZeroFloatBits"), (0, u "J"), (2, u "negativeZeroDoubleBits"), (24, u "min"), (43, u "$assertionsDisabled"), (0, u "Z"), (88, u "(II)I"), (2, u "twoToTheDoubleScaleDown"), (0, u "D"), (4, u "twoToTheDoubleScaleUp"), (9, u "E"), (3, u "PI"), (2, u "TAU"), (2, u "DEGREES_TO_RADIANS"), (0, u "RADIANS_TO_DEGREES")] 94

def k11m0 : Method := { name := "<init>", desc := "()V", sig := { parameters := [], returnType := none }, accessFlags := 2, code := none }
def k11c1 : Code := { maxStack := 2, maxLocals := 2, code := jdk_29_method_69_code, exceptionTable := #[], attributes := #[] }
def k11m1 : Method := { name := "min", desc := "(II)I", sig := { parameters := [.int, .int], returnType := some .int }, accessFlags := 9, code := some k11c1 }
/-- java/lang/Math -/
def k11 : Class := { plain "java/lang/Math" (some 0) with
  accessFlags := 49
  interfaces := #[]
  cf := some (fileOf pool11 1 #[.nestMembers #[98]] #[{ accessFlags := 2, nameIndex := 7, descriptorIndex := 8, attributes := #[] }, { accessFlags := 9, nameIndex := 201, descriptorIndex := 335, attributes := #[] }] 49 4 #[] #[{ accessFlags := 25, nameIndex := 354, descriptorIndex := 339, attributes := #[] }, { accessFlags := 25, nameIndex := 358, descriptorIndex := 339, attributes := #[] }, { accessFlags := 25, nameIndex := 361, descriptorIndex := 339, attributes := #[] }, { accessFlags := 26, nameIndex := 364, descriptorIndex := 339, attributes := #[] }, { accessFlags := 26, nameIndex := 365, descriptorIndex := 339, attributes := #[] }, { accessFlags := 26, nameIndex := 172, descriptorIndex := 173, attributes := #[] }, { accessFlags := 26, nameIndex := 176, descriptorIndex := 173, attributes := #[] }, { accessFlags := 8, nameIndex := 344, descriptorIndex := 339, attributes := #[] }, { accessFlags := 8, nameIndex := 338, descriptorIndex := 339, attributes := #[] }, { accessFlags := 4120, nameIndex := 245, descriptorIndex := 246, attributes := #[] }])
  fields := #[{ name := "E", type := .double, accessFlags := 25, slot := 0, constantValue := 0 }, { name := "PI", type := .double, accessFlags := 25, slot := 1, constantValue := 0 }, { name := "TAU", type := .double, accessFlags := 25, slot := 2, constantValue := 0 }, { name := "DEGREES_TO_RADIANS", type := .double, accessFlags := 26, slot := 3, constantValue := 0 }, { name := "RADIANS_TO_DEGREES", type := .double, accessFlags := 26, slot := 4, constantValue := 0 }, { name := "negativeZeroFloatBits", type := .long, accessFlags := 26, slot := 5, constantValue := 0 }, { name := "negativeZeroDoubleBits", type := .long, accessFlags := 26, slot := 6, constantValue := 0 }, { name := "twoToTheDoubleScaleUp", type := .double, accessFlags := 8, slot := 7, constantValue := 0 }, { name := "twoToTheDoubleScaleDown", type := .double, accessFlags := 8, slot := 8, constantValue := 0 }, { name := "$assertionsDisabled", type := .boolean, accessFlags := 4120, slot := 9, constantValue := 0 }]
  methods := #[k11m0, k11m1]
  instanceTypes := #[]
  staticTypes := #[.double, .double, .double, .double, .double, .long, .long, .double, .double, .boolean]
  resolved := Array.replicate 460 none
  statics := none }

def pool12 : Array CpInfo := pool [(1, u "java/lang/Cloneable"), (0, .class_ 1), (0, u "java/lang/Object"), (0, .class_ 3)] 3

/-- java/lang/Cloneable -/
def k12 : Class := { plain "java/lang/Cloneable" (some 0) with
  accessFlags := 1537
  interfaces := #[]
  cf := some (fileOf pool12 2 #[] #[] 1537 4 #[] #[])
  fields := #[]
  methods := #[]
  instanceTypes := #[]
  staticTypes := #[]
  resolved := Array.replicate 8 none
  statics := none }

/-- the primitive byte -/
def k13 : Class := { plain "byte" none with kind := .primitive 'B', accessFlags := 0x411 }
/-- [B -/
def k14 : Class := { plain "[B" (some 0) with kind := .array 13 .byte, interfaces := #[12, 2], accessFlags := 1041 }

/-- the primitive int -/
def k15 : Class := { plain "int" none with kind := .primitive 'I', accessFlags := 0x411 }
/-- [I -/
def k16 : Class := { plain "[I" (some 0) with kind := .array 15 .int, interfaces := #[12, 2], accessFlags := 1041 }

/-- [Ljava/lang/Integer; -/
def k17 : Class := { plain "[Ljava/lang/Integer;" (some 0) with kind := .array 7 (.object "java/lang/Integer"), interfaces := #[12, 2], accessFlags := 1041 }

/-- [Ljava/lang/Object; -/
def k18 : Class := { plain "[Ljava/lang/Object;" (some 0) with kind := .array 0 (.object "java/lang/Object"), interfaces := #[12, 2], accessFlags := 1041 }

/-- [[Ljava/lang/Object; -/
def k19 : Class := { plain "[[Ljava/lang/Object;" (some 0) with kind := .array 18 (.array (.object "java/lang/Object")), interfaces := #[12, 2], accessFlags := 1041 }

def heap : Heap := #[{ cls := 8, slots := #[.int 0, .int 127, .ref 1, .null, .int 0], vm := .statics 8 },
  { cls := 17, slots := #[.ref 2, .ref 3, .ref 4, .ref 5, .ref 6, .ref 7, .ref 8, .ref 9, .ref 10, .ref 11, .ref 12, .ref 13, .ref 14, .ref 15, .ref 16, .ref 17, .ref 18, .ref 19, .ref 20, .ref 21, .ref 22, .ref 23, .ref 24, .ref 25, .ref 26, .ref 27, .ref 28, .ref 29, .ref 30, .ref 31, .ref 32, .ref 33, .ref 34, .ref 35, .ref 36, .ref 37, .ref 38, .ref 39, .ref 40, .ref 41, .ref 42, .ref 43, .ref 44, .ref 45, .ref 46, .ref 47, .ref 48, .ref 49, .ref 50, .ref 51, .ref 52, .ref 53, .ref 54, .ref 55, .ref 56, .ref 57, .ref 58, .ref 59, .ref 60, .ref 61, .ref 62, .ref 63, .ref 64, .ref 65, .ref 66, .ref 67, .ref 68, .ref 69, .ref 70, .ref 71, .ref 72, .ref 73, .ref 74, .ref 75, .ref 76, .ref 77, .ref 78, .ref 79, .ref 80, .ref 81, .ref 82, .ref 83, .ref 84, .ref 85, .ref 86, .ref 87, .ref 88, .ref 89, .ref 90, .ref 91, .ref 92, .ref 93, .ref 94, .ref 95, .ref 96, .ref 97, .ref 98, .ref 99, .ref 100, .ref 101, .ref 102, .ref 103, .ref 104, .ref 105, .ref 106, .ref 107, .ref 108, .ref 109, .ref 110, .ref 111, .ref 112, .ref 113, .ref 114, .ref 115, .ref 116, .ref 117, .ref 118, .ref 119, .ref 120, .ref 121, .ref 122, .ref 123, .ref 124, .ref 125, .ref 126, .ref 127, .ref 128, .ref 129, .ref 130, .ref 131, .ref 132, .ref 133, .ref 134, .ref 135, .ref 136, .ref 137, .ref 138, .ref 139, .ref 140, .ref 141, .ref 142, .ref 143, .ref 144, .ref 145, .ref 146, .ref 147, .ref 148, .ref 149, .ref 150, .ref 151, .ref 152, .ref 153, .ref 154, .ref 155, .ref 156, .ref 157, .ref 158, .ref 159, .ref 160, .ref 161, .ref 162, .ref 163, .ref 164, .ref 165, .ref 166, .ref 167, .ref 168, .ref 169, .ref 170, .ref 171, .ref 172, .ref 173, .ref 174, .ref 175, .ref 176, .ref 177, .ref 178, .ref 179, .ref 180, .ref 181, .ref 182, .ref 183, .ref 184, .ref 185, .ref 186, .ref 187, .ref 188, .ref 189, .ref 190, .ref 191, .ref 192, .ref 193, .ref 194, .ref 195, .ref 196, .ref 197, .ref 198, .ref 199, .ref 200, .ref 201, .ref 202, .ref 203, .ref 204, .ref 205, .ref 206, .ref 207, .ref 208, .ref 209, .ref 210, .ref 211, .ref 212, .ref 213, .ref 214, .ref 215, .ref 216, .ref 217, .ref 218, .ref 219, .ref 220, .ref 221, .ref 222, .ref 223, .ref 224, .ref 225, .ref 226, .ref 227, .ref 228, .ref 229, .ref 230, .ref 231, .ref 232, .ref 233, .ref 234, .ref 235, .ref 236, .ref 237, .ref 238, .ref 239, .ref 240, .ref 241, .ref 242, .ref 243, .ref 244, .ref 245, .ref 246, .ref 247, .ref 248, .ref 249, .ref 250, .ref 251, .ref 252, .ref 253, .ref 254, .ref 255, .ref 256, .ref 257], vm := .none },
  { cls := 7, slots := #[.int (-128)], vm := .none },
  { cls := 7, slots := #[.int (-127)], vm := .none },
  { cls := 7, slots := #[.int (-126)], vm := .none },
  { cls := 7, slots := #[.int (-125)], vm := .none },
  { cls := 7, slots := #[.int (-124)], vm := .none },
  { cls := 7, slots := #[.int (-123)], vm := .none },
  { cls := 7, slots := #[.int (-122)], vm := .none },
  { cls := 7, slots := #[.int (-121)], vm := .none },
  { cls := 7, slots := #[.int (-120)], vm := .none },
  { cls := 7, slots := #[.int (-119)], vm := .none },
  { cls := 7, slots := #[.int (-118)], vm := .none },
  { cls := 7, slots := #[.int (-117)], vm := .none },
  { cls := 7, slots := #[.int (-116)], vm := .none },
  { cls := 7, slots := #[.int (-115)], vm := .none },
  { cls := 7, slots := #[.int (-114)], vm := .none },
  { cls := 7, slots := #[.int (-113)], vm := .none },
  { cls := 7, slots := #[.int (-112)], vm := .none },
  { cls := 7, slots := #[.int (-111)], vm := .none },
  { cls := 7, slots := #[.int (-110)], vm := .none },
  { cls := 7, slots := #[.int (-109)], vm := .none },
  { cls := 7, slots := #[.int (-108)], vm := .none },
  { cls := 7, slots := #[.int (-107)], vm := .none },
  { cls := 7, slots := #[.int (-106)], vm := .none },
  { cls := 7, slots := #[.int (-105)], vm := .none },
  { cls := 7, slots := #[.int (-104)], vm := .none },
  { cls := 7, slots := #[.int (-103)], vm := .none },
  { cls := 7, slots := #[.int (-102)], vm := .none },
  { cls := 7, slots := #[.int (-101)], vm := .none },
  { cls := 7, slots := #[.int (-100)], vm := .none },
  { cls := 7, slots := #[.int (-99)], vm := .none },
  { cls := 7, slots := #[.int (-98)], vm := .none },
  { cls := 7, slots := #[.int (-97)], vm := .none },
  { cls := 7, slots := #[.int (-96)], vm := .none },
  { cls := 7, slots := #[.int (-95)], vm := .none },
  { cls := 7, slots := #[.int (-94)], vm := .none },
  { cls := 7, slots := #[.int (-93)], vm := .none },
  { cls := 7, slots := #[.int (-92)], vm := .none },
  { cls := 7, slots := #[.int (-91)], vm := .none },
  { cls := 7, slots := #[.int (-90)], vm := .none },
  { cls := 7, slots := #[.int (-89)], vm := .none },
  { cls := 7, slots := #[.int (-88)], vm := .none },
  { cls := 7, slots := #[.int (-87)], vm := .none },
  { cls := 7, slots := #[.int (-86)], vm := .none },
  { cls := 7, slots := #[.int (-85)], vm := .none },
  { cls := 7, slots := #[.int (-84)], vm := .none },
  { cls := 7, slots := #[.int (-83)], vm := .none },
  { cls := 7, slots := #[.int (-82)], vm := .none },
  { cls := 7, slots := #[.int (-81)], vm := .none },
  { cls := 7, slots := #[.int (-80)], vm := .none },
  { cls := 7, slots := #[.int (-79)], vm := .none },
  { cls := 7, slots := #[.int (-78)], vm := .none },
  { cls := 7, slots := #[.int (-77)], vm := .none },
  { cls := 7, slots := #[.int (-76)], vm := .none },
  { cls := 7, slots := #[.int (-75)], vm := .none },
  { cls := 7, slots := #[.int (-74)], vm := .none },
  { cls := 7, slots := #[.int (-73)], vm := .none },
  { cls := 7, slots := #[.int (-72)], vm := .none },
  { cls := 7, slots := #[.int (-71)], vm := .none },
  { cls := 7, slots := #[.int (-70)], vm := .none },
  { cls := 7, slots := #[.int (-69)], vm := .none },
  { cls := 7, slots := #[.int (-68)], vm := .none },
  { cls := 7, slots := #[.int (-67)], vm := .none },
  { cls := 7, slots := #[.int (-66)], vm := .none },
  { cls := 7, slots := #[.int (-65)], vm := .none },
  { cls := 7, slots := #[.int (-64)], vm := .none },
  { cls := 7, slots := #[.int (-63)], vm := .none },
  { cls := 7, slots := #[.int (-62)], vm := .none },
  { cls := 7, slots := #[.int (-61)], vm := .none },
  { cls := 7, slots := #[.int (-60)], vm := .none },
  { cls := 7, slots := #[.int (-59)], vm := .none },
  { cls := 7, slots := #[.int (-58)], vm := .none },
  { cls := 7, slots := #[.int (-57)], vm := .none },
  { cls := 7, slots := #[.int (-56)], vm := .none },
  { cls := 7, slots := #[.int (-55)], vm := .none },
  { cls := 7, slots := #[.int (-54)], vm := .none },
  { cls := 7, slots := #[.int (-53)], vm := .none },
  { cls := 7, slots := #[.int (-52)], vm := .none },
  { cls := 7, slots := #[.int (-51)], vm := .none },
  { cls := 7, slots := #[.int (-50)], vm := .none },
  { cls := 7, slots := #[.int (-49)], vm := .none },
  { cls := 7, slots := #[.int (-48)], vm := .none },
  { cls := 7, slots := #[.int (-47)], vm := .none },
  { cls := 7, slots := #[.int (-46)], vm := .none },
  { cls := 7, slots := #[.int (-45)], vm := .none },
  { cls := 7, slots := #[.int (-44)], vm := .none },
  { cls := 7, slots := #[.int (-43)], vm := .none },
  { cls := 7, slots := #[.int (-42)], vm := .none },
  { cls := 7, slots := #[.int (-41)], vm := .none },
  { cls := 7, slots := #[.int (-40)], vm := .none },
  { cls := 7, slots := #[.int (-39)], vm := .none },
  { cls := 7, slots := #[.int (-38)], vm := .none },
  { cls := 7, slots := #[.int (-37)], vm := .none },
  { cls := 7, slots := #[.int (-36)], vm := .none },
  { cls := 7, slots := #[.int (-35)], vm := .none },
  { cls := 7, slots := #[.int (-34)], vm := .none },
  { cls := 7, slots := #[.int (-33)], vm := .none },
  { cls := 7, slots := #[.int (-32)], vm := .none },
  { cls := 7, slots := #[.int (-31)], vm := .none },
  { cls := 7, slots := #[.int (-30)], vm := .none },
  { cls := 7, slots := #[.int (-29)], vm := .none },
  { cls := 7, slots := #[.int (-28)], vm := .none },
  { cls := 7, slots := #[.int (-27)], vm := .none },
  { cls := 7, slots := #[.int (-26)], vm := .none },
  { cls := 7, slots := #[.int (-25)], vm := .none },
  { cls := 7, slots := #[.int (-24)], vm := .none },
  { cls := 7, slots := #[.int (-23)], vm := .none },
  { cls := 7, slots := #[.int (-22)], vm := .none },
  { cls := 7, slots := #[.int (-21)], vm := .none },
  { cls := 7, slots := #[.int (-20)], vm := .none },
  { cls := 7, slots := #[.int (-19)], vm := .none },
  { cls := 7, slots := #[.int (-18)], vm := .none },
  { cls := 7, slots := #[.int (-17)], vm := .none },
  { cls := 7, slots := #[.int (-16)], vm := .none },
  { cls := 7, slots := #[.int (-15)], vm := .none },
  { cls := 7, slots := #[.int (-14)], vm := .none },
  { cls := 7, slots := #[.int (-13)], vm := .none },
  { cls := 7, slots := #[.int (-12)], vm := .none },
  { cls := 7, slots := #[.int (-11)], vm := .none },
  { cls := 7, slots := #[.int (-10)], vm := .none },
  { cls := 7, slots := #[.int (-9)], vm := .none },
  { cls := 7, slots := #[.int (-8)], vm := .none },
  { cls := 7, slots := #[.int (-7)], vm := .none },
  { cls := 7, slots := #[.int (-6)], vm := .none },
  { cls := 7, slots := #[.int (-5)], vm := .none },
  { cls := 7, slots := #[.int (-4)], vm := .none },
  { cls := 7, slots := #[.int (-3)], vm := .none },
  { cls := 7, slots := #[.int (-2)], vm := .none },
  { cls := 7, slots := #[.int (-1)], vm := .none },
  { cls := 7, slots := #[.int 0], vm := .none },
  { cls := 7, slots := #[.int 1], vm := .none },
  { cls := 7, slots := #[.int 2], vm := .none },
  { cls := 7, slots := #[.int 3], vm := .none },
  { cls := 7, slots := #[.int 4], vm := .none },
  { cls := 7, slots := #[.int 5], vm := .none },
  { cls := 7, slots := #[.int 6], vm := .none },
  { cls := 7, slots := #[.int 7], vm := .none },
  { cls := 7, slots := #[.int 8], vm := .none },
  { cls := 7, slots := #[.int 9], vm := .none },
  { cls := 7, slots := #[.int 10], vm := .none },
  { cls := 7, slots := #[.int 11], vm := .none },
  { cls := 7, slots := #[.int 12], vm := .none },
  { cls := 7, slots := #[.int 13], vm := .none },
  { cls := 7, slots := #[.int 14], vm := .none },
  { cls := 7, slots := #[.int 15], vm := .none },
  { cls := 7, slots := #[.int 16], vm := .none },
  { cls := 7, slots := #[.int 17], vm := .none },
  { cls := 7, slots := #[.int 18], vm := .none },
  { cls := 7, slots := #[.int 19], vm := .none },
  { cls := 7, slots := #[.int 20], vm := .none },
  { cls := 7, slots := #[.int 21], vm := .none },
  { cls := 7, slots := #[.int 22], vm := .none },
  { cls := 7, slots := #[.int 23], vm := .none },
  { cls := 7, slots := #[.int 24], vm := .none },
  { cls := 7, slots := #[.int 25], vm := .none },
  { cls := 7, slots := #[.int 26], vm := .none },
  { cls := 7, slots := #[.int 27], vm := .none },
  { cls := 7, slots := #[.int 28], vm := .none },
  { cls := 7, slots := #[.int 29], vm := .none },
  { cls := 7, slots := #[.int 30], vm := .none },
  { cls := 7, slots := #[.int 31], vm := .none },
  { cls := 7, slots := #[.int 32], vm := .none },
  { cls := 7, slots := #[.int 33], vm := .none },
  { cls := 7, slots := #[.int 34], vm := .none },
  { cls := 7, slots := #[.int 35], vm := .none },
  { cls := 7, slots := #[.int 36], vm := .none },
  { cls := 7, slots := #[.int 37], vm := .none },
  { cls := 7, slots := #[.int 38], vm := .none },
  { cls := 7, slots := #[.int 39], vm := .none },
  { cls := 7, slots := #[.int 40], vm := .none },
  { cls := 7, slots := #[.int 41], vm := .none },
  { cls := 7, slots := #[.int 42], vm := .none },
  { cls := 7, slots := #[.int 43], vm := .none },
  { cls := 7, slots := #[.int 44], vm := .none },
  { cls := 7, slots := #[.int 45], vm := .none },
  { cls := 7, slots := #[.int 46], vm := .none },
  { cls := 7, slots := #[.int 47], vm := .none },
  { cls := 7, slots := #[.int 48], vm := .none },
  { cls := 7, slots := #[.int 49], vm := .none },
  { cls := 7, slots := #[.int 50], vm := .none },
  { cls := 7, slots := #[.int 51], vm := .none },
  { cls := 7, slots := #[.int 52], vm := .none },
  { cls := 7, slots := #[.int 53], vm := .none },
  { cls := 7, slots := #[.int 54], vm := .none },
  { cls := 7, slots := #[.int 55], vm := .none },
  { cls := 7, slots := #[.int 56], vm := .none },
  { cls := 7, slots := #[.int 57], vm := .none },
  { cls := 7, slots := #[.int 58], vm := .none },
  { cls := 7, slots := #[.int 59], vm := .none },
  { cls := 7, slots := #[.int 60], vm := .none },
  { cls := 7, slots := #[.int 61], vm := .none },
  { cls := 7, slots := #[.int 62], vm := .none },
  { cls := 7, slots := #[.int 63], vm := .none },
  { cls := 7, slots := #[.int 64], vm := .none },
  { cls := 7, slots := #[.int 65], vm := .none },
  { cls := 7, slots := #[.int 66], vm := .none },
  { cls := 7, slots := #[.int 67], vm := .none },
  { cls := 7, slots := #[.int 68], vm := .none },
  { cls := 7, slots := #[.int 69], vm := .none },
  { cls := 7, slots := #[.int 70], vm := .none },
  { cls := 7, slots := #[.int 71], vm := .none },
  { cls := 7, slots := #[.int 72], vm := .none },
  { cls := 7, slots := #[.int 73], vm := .none },
  { cls := 7, slots := #[.int 74], vm := .none },
  { cls := 7, slots := #[.int 75], vm := .none },
  { cls := 7, slots := #[.int 76], vm := .none },
  { cls := 7, slots := #[.int 77], vm := .none },
  { cls := 7, slots := #[.int 78], vm := .none },
  { cls := 7, slots := #[.int 79], vm := .none },
  { cls := 7, slots := #[.int 80], vm := .none },
  { cls := 7, slots := #[.int 81], vm := .none },
  { cls := 7, slots := #[.int 82], vm := .none },
  { cls := 7, slots := #[.int 83], vm := .none },
  { cls := 7, slots := #[.int 84], vm := .none },
  { cls := 7, slots := #[.int 85], vm := .none },
  { cls := 7, slots := #[.int 86], vm := .none },
  { cls := 7, slots := #[.int 87], vm := .none },
  { cls := 7, slots := #[.int 88], vm := .none },
  { cls := 7, slots := #[.int 89], vm := .none },
  { cls := 7, slots := #[.int 90], vm := .none },
  { cls := 7, slots := #[.int 91], vm := .none },
  { cls := 7, slots := #[.int 92], vm := .none },
  { cls := 7, slots := #[.int 93], vm := .none },
  { cls := 7, slots := #[.int 94], vm := .none },
  { cls := 7, slots := #[.int 95], vm := .none },
  { cls := 7, slots := #[.int 96], vm := .none },
  { cls := 7, slots := #[.int 97], vm := .none },
  { cls := 7, slots := #[.int 98], vm := .none },
  { cls := 7, slots := #[.int 99], vm := .none },
  { cls := 7, slots := #[.int 100], vm := .none },
  { cls := 7, slots := #[.int 101], vm := .none },
  { cls := 7, slots := #[.int 102], vm := .none },
  { cls := 7, slots := #[.int 103], vm := .none },
  { cls := 7, slots := #[.int 104], vm := .none },
  { cls := 7, slots := #[.int 105], vm := .none },
  { cls := 7, slots := #[.int 106], vm := .none },
  { cls := 7, slots := #[.int 107], vm := .none },
  { cls := 7, slots := #[.int 108], vm := .none },
  { cls := 7, slots := #[.int 109], vm := .none },
  { cls := 7, slots := #[.int 110], vm := .none },
  { cls := 7, slots := #[.int 111], vm := .none },
  { cls := 7, slots := #[.int 112], vm := .none },
  { cls := 7, slots := #[.int 113], vm := .none },
  { cls := 7, slots := #[.int 114], vm := .none },
  { cls := 7, slots := #[.int 115], vm := .none },
  { cls := 7, slots := #[.int 116], vm := .none },
  { cls := 7, slots := #[.int 117], vm := .none },
  { cls := 7, slots := #[.int 118], vm := .none },
  { cls := 7, slots := #[.int 119], vm := .none },
  { cls := 7, slots := #[.int 120], vm := .none },
  { cls := 7, slots := #[.int 121], vm := .none },
  { cls := 7, slots := #[.int 122], vm := .none },
  { cls := 7, slots := #[.int 123], vm := .none },
  { cls := 7, slots := #[.int 124], vm := .none },
  { cls := 7, slots := #[.int 125], vm := .none },
  { cls := 7, slots := #[.int 126], vm := .none },
  { cls := 7, slots := #[.int 127], vm := .none }]
def classes : Array Class := #[k0, k1, k2, k3, k4, k5, k6, k7, k8, k9, k10, k11, k12, k13, k14, k15, k16, k17, k18, k19]
def interned : List (Array UInt16 × Addr) := []
def slotsUsed : Nat := 517
def theMethod : MethodId := ⟨1, 1⟩
def args0 : Array Value := #[.int 5, .int 1, .int 2, .int 3, .int 0]
def aboutOver (below : List Frame) : State where
  vm := { classes := classes, interned := interned.toArray }
  heap := heap
  slotsUsed := slotsUsed
  threads := #[{ frames := .invoking theMethod args0 :: below }]
def below0 : List Frame := [.native { method := ⟨0, 0⟩, args := #[] }]
def about1 : State := aboutOver below0
def p0 : Program := .bare "" "" ""
def e0 : Env := launch0.env 0 0 0
theorem w_frames : about1.frames = Frame.invoking theMethod args0 :: below0 := rfl
set_option maxRecDepth 65536 in
theorem w_args : argsFit about1.vm theMethod args0 = true := by decide +kernel
set_option maxRecDepth 65536 in
theorem w_heap : heapFits about1 = true := by decide +kernel
set_option maxRecDepth 65536 in
theorem w_runnable : about1.curStatus? = some .runnable := by decide +kernel
set_option maxRecDepth 65536 in
theorem w_alone : about1.alone = true := by decide +kernel
set_option maxRecDepth 65536 in
theorem w_named : about1.methodNamed? x = some theMethod := by decide +kernel
set_option maxRecDepth 65536 in
theorem w_hears : about1.hears theMethod below0 = true := by decide +kernel
set_option maxRecDepth 65536 in
theorem w_ripe : about1.ripe theMethod args0 below0 = true := by decide +kernel
theorem w_running : about1.status = .running := rfl
set_option maxRecDepth 65536 in
theorem w_room : about1.hasRoom e0.platform room_1 = true :=
  launch0.hasRoom_least _ room_1 (by decide +kernel) (by decide +kernel) (by decide +kernel) (by decide +kernel) (by decide +kernel) (by decide +kernel)
theorem allAtoms_all (ts : List Jvm.Cond) (a : Array Jvm.Value) (st : Jvm.State) : (allAtoms ts).before a st = ts.all (fun c => c.before a st) := by
  induction ts with
  | nil => rfl
  | cons c t ih =>
    show (Jvm.Cond.and c (allAtoms t)).before a st = _
    rw [Jvm.Cond.before_and, ih, List.all_cons]
def words1 : List Jvm.Cond := Jvm.Cond.code x code maxLocals ret :: tables_1
/-- a 'code' word, met by the world's own term for the bytes: nothing is compared byte by byte -/
theorem code_word {y : MethodName} {bytes : ByteArray} {mx : Nat} {rt : Option FieldType} {a : Array Value} {s : State} {m : MethodId} {meth : Method} {c : Code} (h1 : s.methodNamed? y = some m) (h2 : s.vm.method? m = some meth) (h3 : meth.code = some c) (h4 : c.code = bytes)
    (h5 : (c.maxLocals == mx && c.exceptionTable.isEmpty && decide (c.maxStack ≤ mostOperands) && decide (meth.sig.returnType = rt) && !meth.locks && decide (parseMethodDescriptor y.desc = some meth.sig)) = true) : (Jvm.Cond.code y bytes mx rt).before a s = true := by
  simp only [Bool.and_eq_true, beq_iff_eq, Bool.not_eq_true', decide_eq_true_eq] at h5
  obtain ⟨⟨⟨⟨⟨g1, g2⟩, g3⟩, g4⟩, g5⟩, g6⟩ := h5
  simp [Cond.before, Cond.holds, Cond.value, h1, h2, h3, h4, g1, g2, g3, g4, g5, g6]
def isCode : Jvm.Cond → Bool
  | .code _ _ _ _ => true
  | _ => false
theorem all_split {L : List Jvm.Cond} {P : Jvm.Cond → Bool} (h1 : L.all (fun c => isCode c || P c) = true) (h2 : ∀ c ∈ L.filter isCode, P c = true) : L.all P = true := by
  refine List.all_eq_true.mpr fun c hc => ?_
  have h := List.all_eq_true.mp h1 c hc
  rcases Bool.eq_false_or_eq_true (isCode c) with hi | hi
  · exact h2 c (List.mem_filter.mpr ⟨hc, hi⟩)
  · simpa [hi] using h
set_option maxRecDepth 65536 in
theorem w_c0 : (Jvm.Cond.code x code maxLocals ret).before args0 about1 = true := code_word (m := ⟨1, 1⟩) (meth := k1m1) (c := k1c1) (by decide +kernel) rfl rfl rfl (by decide +kernel)
set_option maxRecDepth 65536 in
theorem w_c1 : (Jvm.Cond.code ({ cls := "java/lang/Integer", name := "valueOf", desc := "(I)Ljava/lang/Integer;" } : Jvm.MethodName) jdk_33_method_22_code (1 : Nat) (Option.some (Jvm.ClassFile.FieldType.object "java/lang/Integer"))).before args0 about1 = true := code_word (m := ⟨7, 0⟩) (meth := k7m0) (c := k7c0) (by decide +kernel) rfl rfl rfl (by decide +kernel)
set_option maxRecDepth 65536 in
theorem w_c2 : (Jvm.Cond.code ({ cls := "com/example/hashwright/hashwright/table/PagedArray", name := "<init>", desc := "(ILjava/lang/Object;)V" } : Jvm.MethodName) prog_72_method_2_code (4 : Nat) (Option.none : Option Jvm.ClassFile.FieldType)).before args0 about1 = true := code_word (m := ⟨9, 0⟩) (meth := k9m0) (c := k9c0) (by decide +kernel) rfl rfl rfl (by decide +kernel)
set_option maxRecDepth 65536 in
theorem w_c3 : (Jvm.Cond.code ({ cls := "java/lang/Object", name := "<init>", desc := "()V" } : Jvm.MethodName) object_method_1_code (1 : Nat) (Option.none : Option Jvm.ClassFile.FieldType)).before args0 about1 = true := code_word (m := ⟨0, 0⟩) (meth := k0m0) (c := k0c0) (by decide +kernel) rfl rfl rfl (by decide +kernel)
set_option maxRecDepth 65536 in
theorem w_c4 : (Jvm.Cond.code ({ cls := "com/example/hashwright/hashwright/table/PagedArray", name := "arrayHolding", desc := "(I)[Ljava/lang/Object;" } : Jvm.MethodName) prog_72_method_7_code (2 : Nat) (Option.some (Jvm.ClassFile.FieldType.array (Jvm.ClassFile.FieldType.object "java/lang/Object")))).before args0 about1 = true := code_word (m := ⟨9, 3⟩) (meth := k9m3) (c := k9c3) (by decide +kernel) rfl rfl rfl (by decide +kernel)
set_option maxRecDepth 65536 in
theorem w_c5 : (Jvm.Cond.code ({ cls := "java/util/Arrays", name := "fill", desc := "([Ljava/lang/Object;Ljava/lang/Object;)V" } : Jvm.MethodName) jdk_65_method_117_code (4 : Nat) (Option.none : Option Jvm.ClassFile.FieldType)).before args0 about1 = true := code_word (m := ⟨10, 1⟩) (meth := k10m1) (c := k10c1) (by decide +kernel) rfl rfl rfl (by decide +kernel)
set_option maxRecDepth 65536 in
theorem w_c6 : (Jvm.Cond.code ({ cls := "com/example/hashwright/hashwright/table/PagedArray", name := "set", desc := "(ILjava/lang/Object;)V" } : Jvm.MethodName) prog_72_method_5_code (4 : Nat) (Option.none : Option Jvm.ClassFile.FieldType)).before args0 about1 = true := code_word (m := ⟨9, 2⟩) (meth := k9m2) (c := k9c2) (by decide +kernel) rfl rfl rfl (by decide +kernel)
set_option maxRecDepth 65536 in
theorem w_c7 : (Jvm.Cond.code ({ cls := "com/example/hashwright/hashwright/table/PagedArray", name := "get", desc := "(I)Ljava/lang/Object;" } : Jvm.MethodName) prog_72_method_4_code (4 : Nat) (Option.some (Jvm.ClassFile.FieldType.object "java/lang/Object"))).before args0 about1 = true := code_word (m := ⟨9, 1⟩) (meth := k9m1) (c := k9c1) (by decide +kernel) rfl rfl rfl (by decide +kernel)
set_option maxRecDepth 65536 in
theorem w_c8 : (Jvm.Cond.code ({ cls := "java/lang/Math", name := "min", desc := "(II)I" } : Jvm.MethodName) jdk_29_method_69_code (2 : Nat) (Option.some Jvm.ClassFile.FieldType.int)).before args0 about1 = true := code_word (m := ⟨11, 1⟩) (meth := k11m1) (c := k11c1) (by decide +kernel) rfl rfl rfl (by decide +kernel)
def codes1 : List Jvm.Cond := [Jvm.Cond.code x code maxLocals ret, Jvm.Cond.code ({ cls := "java/lang/Integer", name := "valueOf", desc := "(I)Ljava/lang/Integer;" } : Jvm.MethodName) jdk_33_method_22_code (1 : Nat) (Option.some (Jvm.ClassFile.FieldType.object "java/lang/Integer")), Jvm.Cond.code ({ cls := "com/example/hashwright/hashwright/table/PagedArray", name := "<init>", desc := "(ILjava/lang/Object;)V" } : Jvm.MethodName) prog_72_method_2_code (4 : Nat) (Option.none : Option Jvm.ClassFile.FieldType), Jvm.Cond.code ({ cls := "java/lang/Object", name := "<init>", desc := "()V" } : Jvm.MethodName) object_method_1_code (1 : Nat) (Option.none : Option Jvm.ClassFile.FieldType), Jvm.Cond.code ({ cls := "com/example/hashwright/hashwright/table/PagedArray", name := "arrayHolding", desc := "(I)[Ljava/lang/Object;" } : Jvm.MethodName) prog_72_method_7_code (2 : Nat) (Option.some (Jvm.ClassFile.FieldType.array (Jvm.ClassFile.FieldType.object "java/lang/Object"))), Jvm.Cond.code ({ cls := "java/util/Arrays", name := "fill", desc := "([Ljava/lang/Object;Ljava/lang/Object;)V" } : Jvm.MethodName) jdk_65_method_117_code (4 : Nat) (Option.none : Option Jvm.ClassFile.FieldType), Jvm.Cond.code ({ cls := "com/example/hashwright/hashwright/table/PagedArray", name := "set", desc := "(ILjava/lang/Object;)V" } : Jvm.MethodName) prog_72_method_5_code (4 : Nat) (Option.none : Option Jvm.ClassFile.FieldType), Jvm.Cond.code ({ cls := "com/example/hashwright/hashwright/table/PagedArray", name := "get", desc := "(I)Ljava/lang/Object;" } : Jvm.MethodName) prog_72_method_4_code (4 : Nat) (Option.some (Jvm.ClassFile.FieldType.object "java/lang/Object")), Jvm.Cond.code ({ cls := "java/lang/Math", name := "min", desc := "(II)I" } : Jvm.MethodName) jdk_29_method_69_code (2 : Nat) (Option.some Jvm.ClassFile.FieldType.int)]
set_option maxRecDepth 65536 in
theorem codes_eq : words1.filter isCode = codes1 := rfl
theorem w_codes : ∀ c ∈ words1.filter isCode, c.before args0 about1 = true := by
  rw [codes_eq]
  intro c hc
  simp only [codes1, List.mem_cons, List.not_mem_nil, or_false] at hc
  rcases hc with rfl | rfl | rfl | rfl | rfl | rfl | rfl | rfl | rfl
  · exact w_c0
  · exact w_c1
  · exact w_c2
  · exact w_c3
  · exact w_c4
  · exact w_c5
  · exact w_c6
  · exact w_c7
  · exact w_c8
set_option maxRecDepth 65536 in
theorem w_t1 : (words1.take 24).all (fun c => isCode c || c.before args0 about1) = true := by decide +kernel
set_option maxRecDepth 65536 in
theorem w_t2 : ((words1.drop 24).take 24).all (fun c => isCode c || c.before args0 about1) = true := by decide +kernel
set_option maxRecDepth 65536 in
theorem w_t3 : ((words1.drop 24).drop 24).all (fun c => isCode c || c.before args0 about1) = true := by decide +kernel
theorem w_tables : (allAtoms (Jvm.Cond.code x code maxLocals ret :: tables_1)).before args0 about1 = true := by
  rw [allAtoms_all]
  show words1.all (fun c => c.before args0 about1) = true
  refine all_split ?_ w_codes
  rw [← List.take_append_drop 24 words1, List.all_append, w_t1, ← List.take_append_drop 24 (words1.drop 24), List.all_append, w_t2, w_t3]
  rfl
set_option maxRecDepth 65536 in
theorem w_rest : rest_1_c.before args0 about1 = true := by decide +kernel
set_option maxRecDepth 65536 in
theorem w_case : (Jvm.Cond.and given_1 narrow_1).before args0 about1 = true := by decide +kernel
theorem w_applies : (headSpec (Jvm.Cond.code x code maxLocals ret :: tables_1) room_1).applies x e0.platform about1 = true :=
  (Spec.applies_iff w_frames).mpr ⟨w_running, w_runnable, w_alone, w_named, w_hears, w_ripe, w_room, w_tables⟩
theorem atStart : AtStart classFile x code maxLocals ret World_1 tables_1 room_1 Calls_1 rest_1 Pre_1 launch0 p0 e0 about1 theMethod args0 below0 :=
  ⟨lists_1, trivial, launch0.admits_env _ _ _, launch0.least_env, fairChoices_fair.cas, fairChoices_fair.clock, w_frames, w_args, w_heap, w_applies, trivial, w_rest, w_case⟩
end start1
theorem witness_1 : WitnessClaimed_1 := ⟨start1.p0, start1.e0, start1.about1, start1.theMethod, start1.args0, start1.below0, start1.atStart⟩
end Jvm.Pilot.@@N@@
