import JvmDerived
import JvmDerived.Pilot.@@N@@Statement
import JvmDerived.Pilot.@@N@@Code
set_option linter.unusedVariables false
set_option linter.unusedSimpArgs false
namespace Jvm.RoadKit
open Sem ClassFile Op Lib Jvm.Stand Jvm.Free Jvm.LawKit
section New
variable {p : Program} {l : Launch} {e : Env} {R : Room} {s : State} {m : MethodId} {args : Array Value} {below : List Frame} {meth : Method} {c : Code} {T : State} {locs : List Loc} {cells slots : Nat}
theorem retI (X : Stand p l e R s m args below meth c T locs cells slots) (hx : p.tables.exec = Jvm.exec) {pc : Nat} {Ls : Array Slot} {z : Int32} {rest : List Value} (hret : meth.sig.returnType = some .int) (hd : decode c.code pc = .ok (.ireturn, 1)) {fs : List Frame}
    (hl : ∀ (f : JFrame) (acts : List Action), f.method = m → f.locked = none → f.entered = [] → (doReturn e (T.setTop f) acts (some (.int z))).1 = T.setFrames fs) : Steps p.tables e below (T.setTop (mkF m pc Ls (.int z :: rest))) (T.setFrames fs) := by
  have hm' : T.vm.method? m = some meth := X.method'
  have hn : narrow .int (.int z) = .int z := rfl
  show Steps p.tables e below (T.setTop { method := m, pc := pc, locals := Ls, stack := _ :: rest, locked := none }) _
  jvm_step X.here [X.here.top, hx, hd, hm', hret, hn]
  first | (intro acts; rw [hl _ acts rfl rfl rfl]) | rw [hl _ _ rfl rfl rfl]
  exact Steps.refl _
end New
end Jvm.RoadKit
namespace Jvm.Pilot.@@N@@
open Jvm Jvm.ClassFile Sem Op Lib Jvm.Free Jvm.Stand Jvm.LawKit Jvm.RoadKit Bundle Jvm.Pilot.@@N@@.Jvm.D
theorem own_wS0 {Z : State} {a0 : Array Value} (hw : ∀ d ∈ tables_1, d.before a0 Z = true) : ∀ a ∈ Bundle.stringAtoms, a.before a0 Z = true := by
  intro d hd
  simp only [Bundle.stringAtoms, List.mem_cons, List.not_mem_nil, or_false] at hd
  rcases hd with rfl | rfl | rfl | rfl | rfl | rfl | rfl
  · exact (hw _ (List.mem_of_getElem? (i := 5) rfl))
  · exact (hw _ (List.mem_of_getElem? (i := 6) rfl))
  · exact (hw _ (List.mem_of_getElem? (i := 7) rfl))
  · exact (hw _ (List.mem_of_getElem? (i := 8) rfl))
  · exact (hw _ (List.mem_of_getElem? (i := 9) rfl))
  · exact (hw _ (List.mem_of_getElem? (i := 10) rfl))
  · exact (hw _ (List.mem_of_getElem? (i := 11) rfl))
def QK (Z : State) (h0 : Heap) (n0 : Nat) (v : Option Value) (h : Heap) (L : List Loc) : Prop := ∃ r : Addr, v = some (.ref r) ∧ Fr n0 L ∧ Old Z n0 h ∧ Keep h0 h []
theorem d1_0 : decode method_2_code 0 = .ok (.iload_n 0, 1) := by decide +kernel
theorem d1_1 : decode method_2_code 1 = .ok (.iconst 3, 1) := by decide +kernel
theorem d1_2 : decode method_2_code 2 = .ok (.iand, 1) := by decide +kernel
theorem d1_3 : decode method_2_code 3 = .ok (.istore_n 1, 1) := by decide +kernel
theorem d1_4 : decode method_2_code 4 = .ok (.iload_n 1, 1) := by decide +kernel
theorem d1_5 : decode method_2_code 5 = .ok (.ifCond .ne 6, 3) := by decide +kernel
theorem d1_8 : decode method_2_code 8 = .ok (.ldc 7, 2) := by decide +kernel
theorem d1_10 : decode method_2_code 10 = .ok (.areturn, 1) := by decide +kernel
theorem ef_1 (m : MethodId) (x0 : Int32) : entryFrame m #[(.int x0)] 2 = mkF m 0 #[.val (.int x0), .unset] [] := by first | (simp [entryFrame, mkF, argsToLocals, Value.category]; done) | rfl
theorem pn_com_example_shardwork_shardwork_JobStatusUnitsPinLaw : plainName "com/example/shardwork/shardwork/JobStatusUnitsPinLaw" = true := by first | (simp [plainName, overriddenIn]; done) | decide +kernel
def Q_rm1_f (Z : State) (p1 : Int32)  (h0 : Heap) (n0 : Nat) (v : Option Value) (h : Heap) (L : List Loc) : Prop := ∃ (lit1 : Addr), v = some (.ref lit1) ∧ Fr n0 L ∧ Old Z n0 h ∧ Keep h0 h []
set_option maxRecDepth 65536 in
set_option maxHeartbeats 40000000 in
theorem rm1_f (l : Launch) (Z : State) (a0 : Array Value) (hw : ∀ d ∈ tables_1, d.before a0 Z = true) (ws : List Jvm.Cond) (p1 : Int32)  (h0 : Heap) (n0 : Nat) (O0 : Old Z n0 h0) (hc5 : (p1 &&& (3 : Int32)) = (0 : Int32)) :
    MetFree l (⟨"com/example/shardwork/shardwork/JobStatusUnitsPinLaw", "kindOf", "(I)Ljava/lang/String;"⟩ : MethodName) (head1 (Jvm.Cond.code (⟨"com/example/shardwork/shardwork/JobStatusUnitsPinLaw", "kindOf", "(I)Ljava/lang/String;"⟩ : MethodName) method_2_code 2 (some (.object "java/lang/String")) :: ws) ({ frames := 0, cells := 2, slots := 40, locals := 0 } : Room)) (fun a U => a = #[(.int p1)] ∧ Z.Warmed39 U.vm ∧ U.heap = h0) (fun _ _ _ _ _ => True) (fun _ U o U' => ∃ v L, o = .returned v ∧ QK Z h0 n0 v U'.heap L ∧ ReturnedEndW U o U' L ({ frames := 0, cells := 2, slots := 40, locals := 0 } : Room).cells ({ frames := 0, cells := 2, slots := 40, locals := 0 } : Room).slots) := by
  refine MetFree.of_bodySF (plainFor_of_name pn_com_example_shardwork_shardwork_JobStatusUnitsPinLaw) hisR ?_
  intro p e s m args below meth c s₁ Bd hml0 hP hK
  obtain ⟨rfl, hZ, hh⟩ := hP
  have hx := Bd.exec
  have hby := Bd.bytes
  have hml : c.maxLocals = 2 := hml0
  have hown : s.vm.findClass "com/example/shardwork/shardwork/JobStatusUnitsPinLaw" = some m.cls := findClass_of_methodNamed Bd.named
  have hnm := (name_of_methodNamed Bd.named Bd.method).1
  have X0 : Stand p l e ({ frames := 0, cells := 2, slots := 40, locals := 0 } : Room) s m #[(.int p1)] below meth c s₁ [] 0 0 := Stand.of_body Bd
  have e0 : s₁.heap = h0 := by rw [← hh, Bd.state]; rfl
  have N0 := Fr.nil n0
  have pre0 : ∀ t, Steps p.tables e below (s₁.setTop (mkF m 0 #[.val (.int p1), .unset] [])) t → Steps p.tables e below (s₁.setTop (entryFrame m #[(.int p1)] 2)) t := fun t k => castTop (ef_1 m p1) k
  have own_wS := own_wS0 hw
  have hS0 : s.Since s.vm 0 := (State.WarmedH.refl s).since 0
  obtain ⟨lit1, T1, h1, k1, X1, e1, E1, hS1, hk1, hZ1, hown1, st1⟩ := ldcS (s := s) (show Stand p l e _ (s.setVm s.vm) m _ below meth c _ _ _ _ from X0) hx hZ hown (hw _ (List.mem_of_getElem? (i := 59) rfl)) own_wS e0 hS0 (Nat.zero_le _) (g := (mkF m 8 #[.val (.int p1), .val (.int (p1 &&& (3 : Int32)))] [])) rfl (hb hby d1_8) (n := 36) (by decide) (by decide) (by decide) (by decide)
  have O1 := O0.ext E1
  have K1 : Keep h0 h1 [] := (Keep.refl h0 []).ext E1
  obtain ⟨fs, hr, hrun, hended, hRW⟩ := X1.leaveW hS1 (by rw [e1]; exact hk1) (v := some (.ref lit1)) (fun h => by rw [Bd.returns] at h; cases h)
  refine ⟨_, _, pre0 _ ?_, hrun, hended, _, _, rfl, ?_, hRW.1, hRW.2.1, hRW.2.2.1, hRW.2.2.2.mono (by decide) (by decide)⟩
  · show Steps p.tables e below (s₁.setTop (mkF m 0 #[.val (.int p1), .unset] [])) _
    refine XS.iloadN X0.here hx rfl (hb hby d1_0) rfl ?_
    show Steps p.tables e below (s₁.setTop (mkF m 1 #[.val (.int p1), .unset] [(.int p1)])) _
    refine XS.iconst X0.here hx rfl (hb hby d1_1) ?_
    show Steps p.tables e below (s₁.setTop (mkF m 2 #[.val (.int p1), .unset] [(.int (3 : Int32)), (.int p1)])) _
    refine XS.iand X0.here hx rfl (hb hby d1_2) rfl ?_
    show Steps p.tables e below (s₁.setTop (mkF m 3 #[.val (.int p1), .unset] [(.int (p1 &&& (3 : Int32)))])) _
    refine XS.istoreN X0.here hx rfl (hb hby d1_3) rfl (l' := #[.val (.int p1), .val (.int (p1 &&& (3 : Int32)))]) rfl ?_
    show Steps p.tables e below (s₁.setTop (mkF m 4 #[.val (.int p1), .val (.int (p1 &&& (3 : Int32)))] [])) _
    refine XS.iloadN X0.here hx rfl (hb hby d1_4) rfl ?_
    show Steps p.tables e below (s₁.setTop (mkF m 5 #[.val (.int p1), .val (.int (p1 &&& (3 : Int32)))] [(.int (p1 &&& (3 : Int32)))])) _
    refine XS.ifNo X0.here hx rfl (hb hby d1_5) rfl ((if0 _ _).trans (teq hc5).2) ?_
    show Steps p.tables e below (s₁.setTop (mkF m 8 #[.val (.int p1), .val (.int (p1 &&& (3 : Int32)))] [])) _
    refine st1 _ ?_
    show Steps p.tables e below (T1.setTop (mkF m 10 #[.val (.int p1), .val (.int (p1 &&& (3 : Int32)))] [(.ref lit1)])) _
    jvm_step X1.here [X1.here.top, hx, (hb hby d1_10), X1.method', Bd.returns, Value.isRef, FieldType.isReference]
    first | (intro acts; rw [hr _ acts rfl rfl rfl]) | rw [hr _ _ rfl rfl rfl]
    exact Steps.refl _
  · show QK Z h0 n0 _ T1.heap _
    rw [e1]
    exact ⟨lit1, rfl, N0, O1, K1⟩
theorem d1_11 : decode method_2_code 11 = .ok (.iload_n 1, 1) := by decide +kernel
theorem d1_12 : decode method_2_code 12 = .ok (.iconst 1, 1) := by decide +kernel
theorem d1_13 : decode method_2_code 13 = .ok (.if_icmp .ne 6, 3) := by decide +kernel
theorem d1_16 : decode method_2_code 16 = .ok (.ldc 9, 2) := by decide +kernel
theorem d1_18 : decode method_2_code 18 = .ok (.areturn, 1) := by decide +kernel
def Q_rm1_tf (Z : State) (p1 : Int32)  (h0 : Heap) (n0 : Nat) (v : Option Value) (h : Heap) (L : List Loc) : Prop := ∃ (lit1 : Addr), v = some (.ref lit1) ∧ Fr n0 L ∧ Old Z n0 h ∧ Keep h0 h []
set_option maxRecDepth 65536 in
set_option maxHeartbeats 40000000 in
theorem rm1_tf (l : Launch) (Z : State) (a0 : Array Value) (hw : ∀ d ∈ tables_1, d.before a0 Z = true) (ws : List Jvm.Cond) (p1 : Int32)  (h0 : Heap) (n0 : Nat) (O0 : Old Z n0 h0) (hc5 : ¬ ((p1 &&& (3 : Int32)) = (0 : Int32))) (hc13 : (p1 &&& (3 : Int32)) = (1 : Int32)) :
    MetFree l (⟨"com/example/shardwork/shardwork/JobStatusUnitsPinLaw", "kindOf", "(I)Ljava/lang/String;"⟩ : MethodName) (head1 (Jvm.Cond.code (⟨"com/example/shardwork/shardwork/JobStatusUnitsPinLaw", "kindOf", "(I)Ljava/lang/String;"⟩ : MethodName) method_2_code 2 (some (.object "java/lang/String")) :: ws) ({ frames := 0, cells := 2, slots := 40, locals := 0 } : Room)) (fun a U => a = #[(.int p1)] ∧ Z.Warmed39 U.vm ∧ U.heap = h0) (fun _ _ _ _ _ => True) (fun _ U o U' => ∃ v L, o = .returned v ∧ QK Z h0 n0 v U'.heap L ∧ ReturnedEndW U o U' L ({ frames := 0, cells := 2, slots := 40, locals := 0 } : Room).cells ({ frames := 0, cells := 2, slots := 40, locals := 0 } : Room).slots) := by
  refine MetFree.of_bodySF (plainFor_of_name pn_com_example_shardwork_shardwork_JobStatusUnitsPinLaw) hisR ?_
  intro p e s m args below meth c s₁ Bd hml0 hP hK
  obtain ⟨rfl, hZ, hh⟩ := hP
  have hx := Bd.exec
  have hby := Bd.bytes
  have hml : c.maxLocals = 2 := hml0
  have hown : s.vm.findClass "com/example/shardwork/shardwork/JobStatusUnitsPinLaw" = some m.cls := findClass_of_methodNamed Bd.named
  have hnm := (name_of_methodNamed Bd.named Bd.method).1
  have X0 : Stand p l e ({ frames := 0, cells := 2, slots := 40, locals := 0 } : Room) s m #[(.int p1)] below meth c s₁ [] 0 0 := Stand.of_body Bd
  have e0 : s₁.heap = h0 := by rw [← hh, Bd.state]; rfl
  have N0 := Fr.nil n0
  have pre0 : ∀ t, Steps p.tables e below (s₁.setTop (mkF m 0 #[.val (.int p1), .unset] [])) t → Steps p.tables e below (s₁.setTop (entryFrame m #[(.int p1)] 2)) t := fun t k => castTop (ef_1 m p1) k
  have own_wS := own_wS0 hw
  have hS0 : s.Since s.vm 0 := (State.WarmedH.refl s).since 0
  obtain ⟨lit1, T1, h1, k1, X1, e1, E1, hS1, hk1, hZ1, hown1, st1⟩ := ldcS (s := s) (show Stand p l e _ (s.setVm s.vm) m _ below meth c _ _ _ _ from X0) hx hZ hown (hw _ (List.mem_of_getElem? (i := 58) rfl)) own_wS e0 hS0 (Nat.zero_le _) (g := (mkF m 16 #[.val (.int p1), .val (.int (p1 &&& (3 : Int32)))] [])) rfl (hb hby d1_16) (n := 36) (by decide) (by decide) (by decide) (by decide)
  have O1 := O0.ext E1
  have K1 : Keep h0 h1 [] := (Keep.refl h0 []).ext E1
  obtain ⟨fs, hr, hrun, hended, hRW⟩ := X1.leaveW hS1 (by rw [e1]; exact hk1) (v := some (.ref lit1)) (fun h => by rw [Bd.returns] at h; cases h)
  refine ⟨_, _, pre0 _ ?_, hrun, hended, _, _, rfl, ?_, hRW.1, hRW.2.1, hRW.2.2.1, hRW.2.2.2.mono (by decide) (by decide)⟩
  · show Steps p.tables e below (s₁.setTop (mkF m 0 #[.val (.int p1), .unset] [])) _
    refine XS.iloadN X0.here hx rfl (hb hby d1_0) rfl ?_
    show Steps p.tables e below (s₁.setTop (mkF m 1 #[.val (.int p1), .unset] [(.int p1)])) _
    refine XS.iconst X0.here hx rfl (hb hby d1_1) ?_
    show Steps p.tables e below (s₁.setTop (mkF m 2 #[.val (.int p1), .unset] [(.int (3 : Int32)), (.int p1)])) _
    refine XS.iand X0.here hx rfl (hb hby d1_2) rfl ?_
    show Steps p.tables e below (s₁.setTop (mkF m 3 #[.val (.int p1), .unset] [(.int (p1 &&& (3 : Int32)))])) _
    refine XS.istoreN X0.here hx rfl (hb hby d1_3) rfl (l' := #[.val (.int p1), .val (.int (p1 &&& (3 : Int32)))]) rfl ?_
    show Steps p.tables e below (s₁.setTop (mkF m 4 #[.val (.int p1), .val (.int (p1 &&& (3 : Int32)))] [])) _
    refine XS.iloadN X0.here hx rfl (hb hby d1_4) rfl ?_
    show Steps p.tables e below (s₁.setTop (mkF m 5 #[.val (.int p1), .val (.int (p1 &&& (3 : Int32)))] [(.int (p1 &&& (3 : Int32)))])) _
    refine XS.ifYes X0.here hx rfl (pc0 := 5) (pc' := 11) rfl (hb hby d1_5) rfl ((if0 _ _).trans (feq hc5).2) (by decide) (by decide) ?_
    show Steps p.tables e below (s₁.setTop (mkF m 11 #[.val (.int p1), .val (.int (p1 &&& (3 : Int32)))] [])) _
    refine XS.iloadN X0.here hx rfl (hb hby d1_11) rfl ?_
    show Steps p.tables e below (s₁.setTop (mkF m 12 #[.val (.int p1), .val (.int (p1 &&& (3 : Int32)))] [(.int (p1 &&& (3 : Int32)))])) _
    refine XS.iconst X0.here hx rfl (hb hby d1_12) ?_
    show Steps p.tables e below (s₁.setTop (mkF m 13 #[.val (.int p1), .val (.int (p1 &&& (3 : Int32)))] [(.int (1 : Int32)), (.int (p1 &&& (3 : Int32)))])) _
    refine XS.icmpNo X0.here hx rfl (hb hby d1_13) rfl (teq hc13).2 ?_
    show Steps p.tables e below (s₁.setTop (mkF m 16 #[.val (.int p1), .val (.int (p1 &&& (3 : Int32)))] [])) _
    refine st1 _ ?_
    show Steps p.tables e below (T1.setTop (mkF m 18 #[.val (.int p1), .val (.int (p1 &&& (3 : Int32)))] [(.ref lit1)])) _
    jvm_step X1.here [X1.here.top, hx, (hb hby d1_18), X1.method', Bd.returns, Value.isRef, FieldType.isReference]
    first | (intro acts; rw [hr _ acts rfl rfl rfl]) | rw [hr _ _ rfl rfl rfl]
    exact Steps.refl _
  · show QK Z h0 n0 _ T1.heap _
    rw [e1]
    exact ⟨lit1, rfl, N0, O1, K1⟩
theorem d1_19 : decode method_2_code 19 = .ok (.iload_n 1, 1) := by decide +kernel
theorem d1_20 : decode method_2_code 20 = .ok (.iconst 2, 1) := by decide +kernel
theorem d1_21 : decode method_2_code 21 = .ok (.if_icmp .ne 6, 3) := by decide +kernel
theorem d1_24 : decode method_2_code 24 = .ok (.ldc 11, 2) := by decide +kernel
theorem d1_26 : decode method_2_code 26 = .ok (.areturn, 1) := by decide +kernel
def Q_rm1_ttf (Z : State) (p1 : Int32)  (h0 : Heap) (n0 : Nat) (v : Option Value) (h : Heap) (L : List Loc) : Prop := ∃ (lit1 : Addr), v = some (.ref lit1) ∧ Fr n0 L ∧ Old Z n0 h ∧ Keep h0 h []
set_option maxRecDepth 65536 in
set_option maxHeartbeats 40000000 in
theorem rm1_ttf (l : Launch) (Z : State) (a0 : Array Value) (hw : ∀ d ∈ tables_1, d.before a0 Z = true) (ws : List Jvm.Cond) (p1 : Int32)  (h0 : Heap) (n0 : Nat) (O0 : Old Z n0 h0) (hc5 : ¬ ((p1 &&& (3 : Int32)) = (0 : Int32))) (hc13 : ¬ ((p1 &&& (3 : Int32)) = (1 : Int32))) (hc21 : (p1 &&& (3 : Int32)) = (2 : Int32)) :
    MetFree l (⟨"com/example/shardwork/shardwork/JobStatusUnitsPinLaw", "kindOf", "(I)Ljava/lang/String;"⟩ : MethodName) (head1 (Jvm.Cond.code (⟨"com/example/shardwork/shardwork/JobStatusUnitsPinLaw", "kindOf", "(I)Ljava/lang/String;"⟩ : MethodName) method_2_code 2 (some (.object "java/lang/String")) :: ws) ({ frames := 0, cells := 2, slots := 40, locals := 0 } : Room)) (fun a U => a = #[(.int p1)] ∧ Z.Warmed39 U.vm ∧ U.heap = h0) (fun _ _ _ _ _ => True) (fun _ U o U' => ∃ v L, o = .returned v ∧ QK Z h0 n0 v U'.heap L ∧ ReturnedEndW U o U' L ({ frames := 0, cells := 2, slots := 40, locals := 0 } : Room).cells ({ frames := 0, cells := 2, slots := 40, locals := 0 } : Room).slots) := by
  refine MetFree.of_bodySF (plainFor_of_name pn_com_example_shardwork_shardwork_JobStatusUnitsPinLaw) hisR ?_
  intro p e s m args below meth c s₁ Bd hml0 hP hK
  obtain ⟨rfl, hZ, hh⟩ := hP
  have hx := Bd.exec
  have hby := Bd.bytes
  have hml : c.maxLocals = 2 := hml0
  have hown : s.vm.findClass "com/example/shardwork/shardwork/JobStatusUnitsPinLaw" = some m.cls := findClass_of_methodNamed Bd.named
  have hnm := (name_of_methodNamed Bd.named Bd.method).1
  have X0 : Stand p l e ({ frames := 0, cells := 2, slots := 40, locals := 0 } : Room) s m #[(.int p1)] below meth c s₁ [] 0 0 := Stand.of_body Bd
  have e0 : s₁.heap = h0 := by rw [← hh, Bd.state]; rfl
  have N0 := Fr.nil n0
  have pre0 : ∀ t, Steps p.tables e below (s₁.setTop (mkF m 0 #[.val (.int p1), .unset] [])) t → Steps p.tables e below (s₁.setTop (entryFrame m #[(.int p1)] 2)) t := fun t k => castTop (ef_1 m p1) k
  have own_wS := own_wS0 hw
  have hS0 : s.Since s.vm 0 := (State.WarmedH.refl s).since 0
  obtain ⟨lit1, T1, h1, k1, X1, e1, E1, hS1, hk1, hZ1, hown1, st1⟩ := ldcS (s := s) (show Stand p l e _ (s.setVm s.vm) m _ below meth c _ _ _ _ from X0) hx hZ hown (hw _ (List.mem_of_getElem? (i := 60) rfl)) own_wS e0 hS0 (Nat.zero_le _) (g := (mkF m 24 #[.val (.int p1), .val (.int (p1 &&& (3 : Int32)))] [])) rfl (hb hby d1_24) (n := 36) (by decide) (by decide) (by decide) (by decide)
  have O1 := O0.ext E1
  have K1 : Keep h0 h1 [] := (Keep.refl h0 []).ext E1
  obtain ⟨fs, hr, hrun, hended, hRW⟩ := X1.leaveW hS1 (by rw [e1]; exact hk1) (v := some (.ref lit1)) (fun h => by rw [Bd.returns] at h; cases h)
  refine ⟨_, _, pre0 _ ?_, hrun, hended, _, _, rfl, ?_, hRW.1, hRW.2.1, hRW.2.2.1, hRW.2.2.2.mono (by decide) (by decide)⟩
  · show Steps p.tables e below (s₁.setTop (mkF m 0 #[.val (.int p1), .unset] [])) _
    refine XS.iloadN X0.here hx rfl (hb hby d1_0) rfl ?_
    show Steps p.tables e below (s₁.setTop (mkF m 1 #[.val (.int p1), .unset] [(.int p1)])) _
    refine XS.iconst X0.here hx rfl (hb hby d1_1) ?_
    show Steps p.tables e below (s₁.setTop (mkF m 2 #[.val (.int p1), .unset] [(.int (3 : Int32)), (.int p1)])) _
    refine XS.iand X0.here hx rfl (hb hby d1_2) rfl ?_
    show Steps p.tables e below (s₁.setTop (mkF m 3 #[.val (.int p1), .unset] [(.int (p1 &&& (3 : Int32)))])) _
    refine XS.istoreN X0.here hx rfl (hb hby d1_3) rfl (l' := #[.val (.int p1), .val (.int (p1 &&& (3 : Int32)))]) rfl ?_
    show Steps p.tables e below (s₁.setTop (mkF m 4 #[.val (.int p1), .val (.int (p1 &&& (3 : Int32)))] [])) _
    refine XS.iloadN X0.here hx rfl (hb hby d1_4) rfl ?_
    show Steps p.tables e below (s₁.setTop (mkF m 5 #[.val (.int p1), .val (.int (p1 &&& (3 : Int32)))] [(.int (p1 &&& (3 : Int32)))])) _
    refine XS.ifYes X0.here hx rfl (pc0 := 5) (pc' := 11) rfl (hb hby d1_5) rfl ((if0 _ _).trans (feq hc5).2) (by decide) (by decide) ?_
    show Steps p.tables e below (s₁.setTop (mkF m 11 #[.val (.int p1), .val (.int (p1 &&& (3 : Int32)))] [])) _
    refine XS.iloadN X0.here hx rfl (hb hby d1_11) rfl ?_
    show Steps p.tables e below (s₁.setTop (mkF m 12 #[.val (.int p1), .val (.int (p1 &&& (3 : Int32)))] [(.int (p1 &&& (3 : Int32)))])) _
    refine XS.iconst X0.here hx rfl (hb hby d1_12) ?_
    show Steps p.tables e below (s₁.setTop (mkF m 13 #[.val (.int p1), .val (.int (p1 &&& (3 : Int32)))] [(.int (1 : Int32)), (.int (p1 &&& (3 : Int32)))])) _
    refine XS.icmpYes X0.here hx rfl (pc0 := 13) (pc' := 19) rfl (hb hby d1_13) rfl (feq hc13).2 (by decide) (by decide) ?_
    show Steps p.tables e below (s₁.setTop (mkF m 19 #[.val (.int p1), .val (.int (p1 &&& (3 : Int32)))] [])) _
    refine XS.iloadN X0.here hx rfl (hb hby d1_19) rfl ?_
    show Steps p.tables e below (s₁.setTop (mkF m 20 #[.val (.int p1), .val (.int (p1 &&& (3 : Int32)))] [(.int (p1 &&& (3 : Int32)))])) _
    refine XS.iconst X0.here hx rfl (hb hby d1_20) ?_
    show Steps p.tables e below (s₁.setTop (mkF m 21 #[.val (.int p1), .val (.int (p1 &&& (3 : Int32)))] [(.int (2 : Int32)), (.int (p1 &&& (3 : Int32)))])) _
    refine XS.icmpNo X0.here hx rfl (hb hby d1_21) rfl (teq hc21).2 ?_
    show Steps p.tables e below (s₁.setTop (mkF m 24 #[.val (.int p1), .val (.int (p1 &&& (3 : Int32)))] [])) _
    refine st1 _ ?_
    show Steps p.tables e below (T1.setTop (mkF m 26 #[.val (.int p1), .val (.int (p1 &&& (3 : Int32)))] [(.ref lit1)])) _
    jvm_step X1.here [X1.here.top, hx, (hb hby d1_26), X1.method', Bd.returns, Value.isRef, FieldType.isReference]
    first | (intro acts; rw [hr _ acts rfl rfl rfl]) | rw [hr _ _ rfl rfl rfl]
    exact Steps.refl _
  · show QK Z h0 n0 _ T1.heap _
    rw [e1]
    exact ⟨lit1, rfl, N0, O1, K1⟩
theorem d1_27 : decode method_2_code 27 = .ok (.ldc 13, 2) := by decide +kernel
theorem d1_29 : decode method_2_code 29 = .ok (.areturn, 1) := by decide +kernel
def Q_rm1_ttt (Z : State) (p1 : Int32)  (h0 : Heap) (n0 : Nat) (v : Option Value) (h : Heap) (L : List Loc) : Prop := ∃ (lit1 : Addr), v = some (.ref lit1) ∧ Fr n0 L ∧ Old Z n0 h ∧ Keep h0 h []
set_option maxRecDepth 65536 in
set_option maxHeartbeats 40000000 in
theorem rm1_ttt (l : Launch) (Z : State) (a0 : Array Value) (hw : ∀ d ∈ tables_1, d.before a0 Z = true) (ws : List Jvm.Cond) (p1 : Int32)  (h0 : Heap) (n0 : Nat) (O0 : Old Z n0 h0) (hc5 : ¬ ((p1 &&& (3 : Int32)) = (0 : Int32))) (hc13 : ¬ ((p1 &&& (3 : Int32)) = (1 : Int32))) (hc21 : ¬ ((p1 &&& (3 : Int32)) = (2 : Int32))) :
    MetFree l (⟨"com/example/shardwork/shardwork/JobStatusUnitsPinLaw", "kindOf", "(I)Ljava/lang/String;"⟩ : MethodName) (head1 (Jvm.Cond.code (⟨"com/example/shardwork/shardwork/JobStatusUnitsPinLaw", "kindOf", "(I)Ljava/lang/String;"⟩ : MethodName) method_2_code 2 (some (.object "java/lang/String")) :: ws) ({ frames := 0, cells := 2, slots := 40, locals := 0 } : Room)) (fun a U => a = #[(.int p1)] ∧ Z.Warmed39 U.vm ∧ U.heap = h0) (fun _ _ _ _ _ => True) (fun _ U o U' => ∃ v L, o = .returned v ∧ QK Z h0 n0 v U'.heap L ∧ ReturnedEndW U o U' L ({ frames := 0, cells := 2, slots := 40, locals := 0 } : Room).cells ({ frames := 0, cells := 2, slots := 40, locals := 0 } : Room).slots) := by
  refine MetFree.of_bodySF (plainFor_of_name pn_com_example_shardwork_shardwork_JobStatusUnitsPinLaw) hisR ?_
  intro p e s m args below meth c s₁ Bd hml0 hP hK
  obtain ⟨rfl, hZ, hh⟩ := hP
  have hx := Bd.exec
  have hby := Bd.bytes
  have hml : c.maxLocals = 2 := hml0
  have hown : s.vm.findClass "com/example/shardwork/shardwork/JobStatusUnitsPinLaw" = some m.cls := findClass_of_methodNamed Bd.named
  have hnm := (name_of_methodNamed Bd.named Bd.method).1
  have X0 : Stand p l e ({ frames := 0, cells := 2, slots := 40, locals := 0 } : Room) s m #[(.int p1)] below meth c s₁ [] 0 0 := Stand.of_body Bd
  have e0 : s₁.heap = h0 := by rw [← hh, Bd.state]; rfl
  have N0 := Fr.nil n0
  have pre0 : ∀ t, Steps p.tables e below (s₁.setTop (mkF m 0 #[.val (.int p1), .unset] [])) t → Steps p.tables e below (s₁.setTop (entryFrame m #[(.int p1)] 2)) t := fun t k => castTop (ef_1 m p1) k
  have own_wS := own_wS0 hw
  have hS0 : s.Since s.vm 0 := (State.WarmedH.refl s).since 0
  obtain ⟨lit1, T1, h1, k1, X1, e1, E1, hS1, hk1, hZ1, hown1, st1⟩ := ldcS (s := s) (show Stand p l e _ (s.setVm s.vm) m _ below meth c _ _ _ _ from X0) hx hZ hown (hw _ (List.mem_of_getElem? (i := 4) rfl)) own_wS e0 hS0 (Nat.zero_le _) (g := (mkF m 27 #[.val (.int p1), .val (.int (p1 &&& (3 : Int32)))] [])) rfl (hb hby d1_27) (n := 36) (by decide) (by decide) (by decide) (by decide)
  have O1 := O0.ext E1
  have K1 : Keep h0 h1 [] := (Keep.refl h0 []).ext E1
  obtain ⟨fs, hr, hrun, hended, hRW⟩ := X1.leaveW hS1 (by rw [e1]; exact hk1) (v := some (.ref lit1)) (fun h => by rw [Bd.returns] at h; cases h)
  refine ⟨_, _, pre0 _ ?_, hrun, hended, _, _, rfl, ?_, hRW.1, hRW.2.1, hRW.2.2.1, hRW.2.2.2.mono (by decide) (by decide)⟩
  · show Steps p.tables e below (s₁.setTop (mkF m 0 #[.val (.int p1), .unset] [])) _
    refine XS.iloadN X0.here hx rfl (hb hby d1_0) rfl ?_
    show Steps p.tables e below (s₁.setTop (mkF m 1 #[.val (.int p1), .unset] [(.int p1)])) _
    refine XS.iconst X0.here hx rfl (hb hby d1_1) ?_
    show Steps p.tables e below (s₁.setTop (mkF m 2 #[.val (.int p1), .unset] [(.int (3 : Int32)), (.int p1)])) _
    refine XS.iand X0.here hx rfl (hb hby d1_2) rfl ?_
    show Steps p.tables e below (s₁.setTop (mkF m 3 #[.val (.int p1), .unset] [(.int (p1 &&& (3 : Int32)))])) _
    refine XS.istoreN X0.here hx rfl (hb hby d1_3) rfl (l' := #[.val (.int p1), .val (.int (p1 &&& (3 : Int32)))]) rfl ?_
    show Steps p.tables e below (s₁.setTop (mkF m 4 #[.val (.int p1), .val (.int (p1 &&& (3 : Int32)))] [])) _
    refine XS.iloadN X0.here hx rfl (hb hby d1_4) rfl ?_
    show Steps p.tables e below (s₁.setTop (mkF m 5 #[.val (.int p1), .val (.int (p1 &&& (3 : Int32)))] [(.int (p1 &&& (3 : Int32)))])) _
    refine XS.ifYes X0.here hx rfl (pc0 := 5) (pc' := 11) rfl (hb hby d1_5) rfl ((if0 _ _).trans (feq hc5).2) (by decide) (by decide) ?_
    show Steps p.tables e below (s₁.setTop (mkF m 11 #[.val (.int p1), .val (.int (p1 &&& (3 : Int32)))] [])) _
    refine XS.iloadN X0.here hx rfl (hb hby d1_11) rfl ?_
    show Steps p.tables e below (s₁.setTop (mkF m 12 #[.val (.int p1), .val (.int (p1 &&& (3 : Int32)))] [(.int (p1 &&& (3 : Int32)))])) _
    refine XS.iconst X0.here hx rfl (hb hby d1_12) ?_
    show Steps p.tables e below (s₁.setTop (mkF m 13 #[.val (.int p1), .val (.int (p1 &&& (3 : Int32)))] [(.int (1 : Int32)), (.int (p1 &&& (3 : Int32)))])) _
    refine XS.icmpYes X0.here hx rfl (pc0 := 13) (pc' := 19) rfl (hb hby d1_13) rfl (feq hc13).2 (by decide) (by decide) ?_
    show Steps p.tables e below (s₁.setTop (mkF m 19 #[.val (.int p1), .val (.int (p1 &&& (3 : Int32)))] [])) _
    refine XS.iloadN X0.here hx rfl (hb hby d1_19) rfl ?_
    show Steps p.tables e below (s₁.setTop (mkF m 20 #[.val (.int p1), .val (.int (p1 &&& (3 : Int32)))] [(.int (p1 &&& (3 : Int32)))])) _
    refine XS.iconst X0.here hx rfl (hb hby d1_20) ?_
    show Steps p.tables e below (s₁.setTop (mkF m 21 #[.val (.int p1), .val (.int (p1 &&& (3 : Int32)))] [(.int (2 : Int32)), (.int (p1 &&& (3 : Int32)))])) _
    refine XS.icmpYes X0.here hx rfl (pc0 := 21) (pc' := 27) rfl (hb hby d1_21) rfl (feq hc21).2 (by decide) (by decide) ?_
    show Steps p.tables e below (s₁.setTop (mkF m 27 #[.val (.int p1), .val (.int (p1 &&& (3 : Int32)))] [])) _
    refine st1 _ ?_
    show Steps p.tables e below (T1.setTop (mkF m 29 #[.val (.int p1), .val (.int (p1 &&& (3 : Int32)))] [(.ref lit1)])) _
    jvm_step X1.here [X1.here.top, hx, (hb hby d1_29), X1.method', Bd.returns, Value.isRef, FieldType.isReference]
    first | (intro acts; rw [hr _ acts rfl rfl rfl]) | rw [hr _ _ rfl rfl rfl]
    exact Steps.refl _
  · show QK Z h0 n0 _ T1.heap _
    rw [e1]
    exact ⟨lit1, rfl, N0, O1, K1⟩
theorem rm1 (l : Launch) (Z : State) (a0 : Array Value) (hw : ∀ d ∈ tables_1, d.before a0 Z = true) (ws : List Jvm.Cond) (p1 : Int32) (h0 : Heap) (n0 : Nat) (O0 : Old Z n0 h0) :
    MetFree l (⟨"com/example/shardwork/shardwork/JobStatusUnitsPinLaw", "kindOf", "(I)Ljava/lang/String;"⟩ : MethodName) (head1 (Jvm.Cond.code (⟨"com/example/shardwork/shardwork/JobStatusUnitsPinLaw", "kindOf", "(I)Ljava/lang/String;"⟩ : MethodName) method_2_code 2 (some (.object "java/lang/String")) :: ws) ({ frames := 0, cells := 2, slots := 40, locals := 0 } : Room)) (fun a U => a = #[(.int p1)] ∧ Z.Warmed39 U.vm ∧ U.heap = h0) (fun _ _ _ _ _ => True) (fun _ U o U' => ∃ v L, o = .returned v ∧ QK Z h0 n0 v U'.heap L ∧ ReturnedEndW U o U' L ({ frames := 0, cells := 2, slots := 40, locals := 0 } : Room).cells ({ frames := 0, cells := 2, slots := 40, locals := 0 } : Room).slots) := by
  by_cases c0 : (p1 &&& (3 : Int32)) = (0 : Int32)
  · exact rm1_f l Z a0 hw ws p1 h0 n0 O0 c0
  · by_cases c1 : (p1 &&& (3 : Int32)) = (1 : Int32)
    · exact rm1_tf l Z a0 hw ws p1 h0 n0 O0 c0 c1
    · by_cases c2 : (p1 &&& (3 : Int32)) = (2 : Int32)
      · exact rm1_ttf l Z a0 hw ws p1 h0 n0 O0 c0 c1 c2
      · exact rm1_ttt l Z a0 hw ws p1 h0 n0 O0 c0 c1 c2
theorem d3_0 : decode jdk_32_method_1_code 0 = .ok (.getstatic 1, 3) := by decide +kernel
theorem d3_3 : decode jdk_32_method_1_code 3 = .ok (.astore_n 0, 1) := by decide +kernel
theorem d3_4 : decode jdk_32_method_1_code 4 = .ok (.aload_n 0, 1) := by decide +kernel
theorem d3_5 : decode jdk_32_method_1_code 5 = .ok (.areturn, 1) := by decide +kernel
theorem ef_3 (m : MethodId)  : entryFrame m #[] 1 = mkF m 0 #[.unset] [] := by first | (simp [entryFrame, mkF, argsToLocals, Value.category]; done) | rfl
theorem pn_java_util_Optional : plainName "java/util/Optional" = true := by first | (simp [plainName, overriddenIn]; done) | decide +kernel
def QP (r : Option Value) (h0 : Heap) (n0 : Nat) (v : Option Value) (h : Heap) (L : List Loc) : Prop := v = r ∧ Fr n0 L ∧ h = h0
set_option maxRecDepth 65536 in
set_option maxHeartbeats 40000000 in
theorem rm3 (l : Launch) (Z : State) (a0 : Array Value) (hw : ∀ d ∈ tables_1, d.before a0 Z = true) (ws : List Jvm.Cond)  (wO : Addr) (h0 : Heap) (n0 : Nat) (O0 : Old Z n0 h0) (S_EMPTY : Sta Z Z.heap "java/util/Optional" "EMPTY" "Ljava/util/Optional;" (.ref wO)) :
    MetFree l (⟨"java/util/Optional", "empty", "()Ljava/util/Optional;"⟩ : MethodName) (head1 (Jvm.Cond.code (⟨"java/util/Optional", "empty", "()Ljava/util/Optional;"⟩ : MethodName) jdk_32_method_1_code 1 (some (.object "java/util/Optional")) :: ws) ({ frames := 0, cells := 0, slots := 0, locals := 0 } : Room)) (fun a U => a = #[] ∧ Z.Warmed39 U.vm ∧ U.heap = h0) (fun _ _ _ _ _ => True) (fun _ U o U' => ∃ v L, o = .returned v ∧ QP (some (.ref wO)) h0 n0 v U'.heap L ∧ FrameEnd U o U' L ({ frames := 0, cells := 0, slots := 0, locals := 0 } : Room).cells ({ frames := 0, cells := 0, slots := 0, locals := 0 } : Room).slots) := by
  refine MetFree.of_bodySF (plainFor_of_name pn_java_util_Optional) hisR ?_
  intro p e s m args below meth c s₁ Bd hml0 hP hK
  obtain ⟨rfl, hZ, hh⟩ := hP
  have hx := Bd.exec
  have hby := Bd.bytes
  have hml : c.maxLocals = 1 := hml0
  have hown : s.vm.findClass "java/util/Optional" = some m.cls := findClass_of_methodNamed Bd.named
  have hnm := (name_of_methodNamed Bd.named Bd.method).1
  have X0 : Stand p l e ({ frames := 0, cells := 0, slots := 0, locals := 0 } : Room) s m #[] below meth c s₁ [] 0 0 := Stand.of_body Bd
  have e0 : s₁.heap = h0 := by rw [← hh, Bd.state]; rfl
  have N0 := Fr.nil n0
  have pre0 : ∀ t, Steps p.tables e below (s₁.setTop (mkF m 0 #[.unset] [])) t → Steps p.tables e below (s₁.setTop (entryFrame m #[] 1)) t := fun t k => castTop (ef_3 m ) k
  obtain ⟨T1, X1, e1, st1⟩ := getS2 X0 hx hZ hown (host := "") (Or.inl (hw _ (List.mem_of_getElem? (i := 23) rfl))) Via.refl e0 (S_EMPTY.ext O0.2) (g := (mkF m 0 #[.unset] [])) rfl (hb hby d3_0)
  obtain ⟨fs, hr, hrun, hended, hW, hsame⟩ := X1.leave (v := some (.ref wO)) (fun h => by rw [Bd.returns] at h; cases h)
  refine ⟨_, _, pre0 _ ?_, hrun, hended, _, _, rfl, ?_, ⟨_, rfl⟩, hW, hsame.mono (by decide) (by decide)⟩
  · show Steps p.tables e below (s₁.setTop (mkF m 0 #[.unset] [])) _
    refine st1 _ ?_
    show Steps p.tables e below (T1.setTop (mkF m 3 #[.unset] [(.ref wO)])) _
    refine XS.astoreN X1.here hx rfl (hb hby d3_3) rfl rfl (l' := #[.val (.ref wO)]) rfl ?_
    show Steps p.tables e below (T1.setTop (mkF m 4 #[.val (.ref wO)] [])) _
    refine XS.aloadN X1.here hx rfl (hb hby d3_4) rfl rfl ?_
    show Steps p.tables e below (T1.setTop (mkF m 5 #[.val (.ref wO)] [(.ref wO)])) _
    jvm_step X1.here [X1.here.top, hx, (hb hby d3_5), X1.method', Bd.returns, Value.isRef, FieldType.isReference]
    first | (intro acts; rw [hr _ acts rfl rfl rfl]) | rw [hr _ _ rfl rfl rfl]
    exact Steps.refl _
  · show QP (some (.ref wO)) h0 n0 _ T1.heap _
    rw [e1]
    exact ⟨rfl, N0, rfl⟩
theorem d5_0 : decode jdk_30_method_1_code 0 = .ok (.aload_n 0, 1) := by decide +kernel
theorem d5_1 : decode jdk_30_method_1_code 1 = .ok (.invokespecial 1, 3) := by decide +kernel
theorem d5_4 : decode jdk_30_method_1_code 4 = .ok (.return_, 1) := by decide +kernel
theorem ef_5 (m : MethodId) (x0 : Addr) : entryFrame m #[(.ref x0)] 1 = mkF m 0 #[.val (.ref x0)] [] := by first | (simp [entryFrame, mkF, argsToLocals, Value.category]; done) | rfl
theorem pn_java_lang_Record : plainName "java/lang/Record" = true := by first | (simp [plainName, overriddenIn]; done) | decide +kernel
set_option maxRecDepth 65536 in
set_option maxHeartbeats 40000000 in
theorem rm5 (l : Launch) (Z : State) (a0 : Array Value) (hw : ∀ d ∈ tables_1, d.before a0 Z = true) (ws : List Jvm.Cond) (a1 : Addr)  (h0 : Heap) (n0 : Nat) (O0 : Old Z n0 h0) :
    MetFree l (⟨"java/lang/Record", "<init>", "()V"⟩ : MethodName) (head1 (Jvm.Cond.code (⟨"java/lang/Record", "<init>", "()V"⟩ : MethodName) jdk_30_method_1_code 1 none :: ws) ({ frames := 1, cells := 0, slots := 0, locals := 12 } : Room)) (fun a U => a = #[(.ref a1)] ∧ Z.Warmed39 U.vm ∧ U.heap = h0) (fun _ _ _ _ _ => True) (fun _ U o U' => ∃ v L, o = .returned v ∧ QP (none) h0 n0 v U'.heap L ∧ FrameEnd U o U' L ({ frames := 1, cells := 0, slots := 0, locals := 12 } : Room).cells ({ frames := 1, cells := 0, slots := 0, locals := 12 } : Room).slots) := by
  refine MetFree.of_bodySF (plainFor_of_name pn_java_lang_Record) hisR ?_
  intro p e s m args below meth c s₁ Bd hml0 hP hK
  obtain ⟨rfl, hZ, hh⟩ := hP
  have hx := Bd.exec
  have hby := Bd.bytes
  have hml : c.maxLocals = 1 := hml0
  have hown : s.vm.findClass "java/lang/Record" = some m.cls := findClass_of_methodNamed Bd.named
  have hnm := (name_of_methodNamed Bd.named Bd.method).1
  have X0 : Stand p l e ({ frames := 1, cells := 0, slots := 0, locals := 12 } : Room) s m #[(.ref a1)] below meth c s₁ [] 0 0 := Stand.of_body Bd
  have e0 : s₁.heap = h0 := by rw [← hh, Bd.state]; rfl
  have N0 := Fr.nil n0
  have pre0 : ∀ t, Steps p.tables e below (s₁.setTop (mkF m 0 #[.val (.ref a1)] [])) t → Steps p.tables e below (s₁.setTop (entryFrame m #[(.ref a1)] 1)) t := fun t k => castTop (ef_5 m a1) k
  obtain ⟨T2, X2, e2, st2⟩ := initO X0 hx hZ hown (hw _ (List.mem_of_getElem? (i := 32) rfl)) (hw _ (List.mem_of_getElem? (i := 33) rfl)) (hw _ (List.mem_of_getElem? (i := 34) rfl)) e0 (g := (mkF m 1 #[.val (.ref a1)] [(.ref a1)])) rfl (by rw [hml]; rfl) rfl (hb hby d5_1) (by decide) (W := 0) (by show 2 * 0 + _ ≤ _; exact Nat.le_of_eq rfl) (by decide)
  obtain ⟨fs, hr, hrun, hended, hW, hsame⟩ := X2.leave (v := none) (fun _ => rfl)
  refine ⟨_, _, pre0 _ ?_, hrun, hended, _, _, rfl, ?_, ⟨_, rfl⟩, hW, hsame.mono (by decide) (by decide)⟩
  · show Steps p.tables e below (s₁.setTop (mkF m 0 #[.val (.ref a1)] [])) _
    refine XS.aloadN X0.here hx rfl (hb hby d5_0) rfl rfl ?_
    show Steps p.tables e below (s₁.setTop (mkF m 1 #[.val (.ref a1)] [(.ref a1)])) _
    refine st2 _ ?_
    show Steps p.tables e below (T2.setTop (mkF m 4 #[.val (.ref a1)] [])) _
    exact X2.returnOut hx Bd.returns (hb hby d5_4) hr
  · show QP (none) h0 n0 _ T2.heap _
    rw [e2]
    exact ⟨rfl, N0, rfl⟩
theorem d4_0 : decode prog_7_method_4_code 0 = .ok (.aload_n 0, 1) := by decide +kernel
theorem d4_1 : decode prog_7_method_4_code 1 = .ok (.invokespecial 1, 3) := by decide +kernel
theorem pd___V : parseMethodDescriptor "()V" = some ⟨[], none⟩ := by decide +kernel
theorem d4_4 : decode prog_7_method_4_code 4 = .ok (.aload_n 0, 1) := by decide +kernel
theorem d4_5 : decode prog_7_method_4_code 5 = .ok (.aload_n 1, 1) := by decide +kernel
theorem d4_6 : decode prog_7_method_4_code 6 = .ok (.putfield 7, 3) := by decide +kernel
theorem d4_9 : decode prog_7_method_4_code 9 = .ok (.aload_n 0, 1) := by decide +kernel
theorem d4_10 : decode prog_7_method_4_code 10 = .ok (.aload_n 2, 1) := by decide +kernel
theorem d4_11 : decode prog_7_method_4_code 11 = .ok (.putfield 13, 3) := by decide +kernel
theorem d4_14 : decode prog_7_method_4_code 14 = .ok (.aload_n 0, 1) := by decide +kernel
theorem d4_15 : decode prog_7_method_4_code 15 = .ok (.lload_n 3, 1) := by decide +kernel
theorem d4_16 : decode prog_7_method_4_code 16 = .ok (.putfield 16, 3) := by decide +kernel
theorem d4_19 : decode prog_7_method_4_code 19 = .ok (.aload_n 0, 1) := by decide +kernel
theorem d4_20 : decode prog_7_method_4_code 20 = .ok (.lload 5, 2) := by decide +kernel
theorem d4_22 : decode prog_7_method_4_code 22 = .ok (.putfield 20, 3) := by decide +kernel
theorem d4_25 : decode prog_7_method_4_code 25 = .ok (.aload_n 0, 1) := by decide +kernel
theorem d4_26 : decode prog_7_method_4_code 26 = .ok (.lload 7, 2) := by decide +kernel
theorem d4_28 : decode prog_7_method_4_code 28 = .ok (.putfield 23, 3) := by decide +kernel
theorem d4_31 : decode prog_7_method_4_code 31 = .ok (.aload_n 0, 1) := by decide +kernel
theorem d4_32 : decode prog_7_method_4_code 32 = .ok (.lload 9, 2) := by decide +kernel
theorem d4_34 : decode prog_7_method_4_code 34 = .ok (.putfield 26, 3) := by decide +kernel
theorem d4_37 : decode prog_7_method_4_code 37 = .ok (.aload_n 0, 1) := by decide +kernel
theorem d4_38 : decode prog_7_method_4_code 38 = .ok (.aload 11, 2) := by decide +kernel
theorem d4_40 : decode prog_7_method_4_code 40 = .ok (.putfield 29, 3) := by decide +kernel
theorem d4_43 : decode prog_7_method_4_code 43 = .ok (.aload_n 0, 1) := by decide +kernel
theorem d4_44 : decode prog_7_method_4_code 44 = .ok (.aload 12, 2) := by decide +kernel
theorem d4_46 : decode prog_7_method_4_code 46 = .ok (.putfield 33, 3) := by decide +kernel
theorem d4_49 : decode prog_7_method_4_code 49 = .ok (.aload_n 0, 1) := by decide +kernel
theorem d4_50 : decode prog_7_method_4_code 50 = .ok (.aload 13, 2) := by decide +kernel
theorem d4_52 : decode prog_7_method_4_code 52 = .ok (.putfield 36, 3) := by decide +kernel
theorem d4_55 : decode prog_7_method_4_code 55 = .ok (.return_, 1) := by decide +kernel
theorem ef_4 (m : MethodId) (x0 : Addr) (x1 : Addr) (x2 : Addr) (x3 : Int64) (x4 : Int64) (x5 : Int64) (x6 : Int64) (x7 : Addr) (x8 : Addr) (x9 : Addr) : entryFrame m #[(.ref x0), (.ref x1), (.ref x2), (.long x3), (.long x4), (.long x5), (.long x6), (.ref x7), (.ref x8), (.ref x9)] 14 = mkF m 0 #[.val (.ref x0), .val (.ref x1), .val (.ref x2), .val (.long x3), .second, .val (.long x4), .second, .val (.long x5), .second, .val (.long x6), .second, .val (.ref x7), .val (.ref x8), .val (.ref x9)] [] := by first | (simp [entryFrame, mkF, argsToLocals, Value.category]; done) | rfl
theorem pn_com_example_shardwork_shardwork_JobStatus : plainName "com/example/shardwork/shardwork/JobStatus" = true := by first | (simp [plainName, overriddenIn]; done) | decide +kernel
def Q_rm4 (Z : State) (a1 : Addr) (a2 : Addr) (a3 : Addr) (q4 : Int64) (q5 : Int64) (q6 : Int64) (q7 : Int64) (a8 : Addr) (a9 : Addr) (a10 : Addr) (u12 : Value) (u15 : Value) (u19 : Value) (u23 : Value) (u27 : Value) (u31 : Value) (u35 : Value) (u39 : Value) (u43 : Value) (h0 : Heap) (n0 : Nat) (v : Option Value) (h : Heap) (L : List Loc) : Prop := v = none ∧ Fr n0 L ∧ Old Z n0 h ∧ Keep h0 h [a1] ∧ Exa Z h a1 "com/example/shardwork/shardwork/JobStatus" ∧ Fld Z h a1 "com/example/shardwork/shardwork/JobStatus" "job" "Ljava/lang/String;" (.ref a2) ∧ Fld Z h a1 "com/example/shardwork/shardwork/JobStatus" "kind" "Ljava/lang/String;" (.ref a3) ∧ Fld Z h a1 "com/example/shardwork/shardwork/JobStatus" "pending" "J" (.long q4) ∧ Fld Z h a1 "com/example/shardwork/shardwork/JobStatus" "running" "J" (.long q5) ∧ Fld Z h a1 "com/example/shardwork/shardwork/JobStatus" "done" "J" (.long q6) ∧ Fld Z h a1 "com/example/shardwork/shardwork/JobStatus" "failed" "J" (.long q7) ∧ Fld Z h a1 "com/example/shardwork/shardwork/JobStatus" "cursor" "Ljava/util/Optional;" (.ref a8) ∧ Fld Z h a1 "com/example/shardwork/shardwork/JobStatus" "scan" "Ljava/util/Optional;" (.ref a9) ∧ Fld Z h a1 "com/example/shardwork/shardwork/JobStatus" "mapReduce" "Ljava/util/Optional;" (.ref a10)
set_option maxRecDepth 65536 in
set_option maxHeartbeats 40000000 in
theorem rm4 (l : Launch) (Z : State) (a0 : Array Value) (hw : ∀ d ∈ tables_1, d.before a0 Z = true) (ws : List Jvm.Cond) (a1 : Addr) (a2 : Addr) (a3 : Addr) (q4 : Int64) (q5 : Int64) (q6 : Int64) (q7 : Int64) (a8 : Addr) (a9 : Addr) (a10 : Addr) (u12 : Value) (u15 : Value) (u19 : Value) (u23 : Value) (u27 : Value) (u31 : Value) (u35 : Value) (u39 : Value) (u43 : Value) (h0 : Heap) (n0 : Nat) (O0 : Old Z n0 h0) (E_a1 : Exa Z h0 a1 "com/example/shardwork/shardwork/JobStatus") (F_job_a1 : Fld Z h0 a1 "com/example/shardwork/shardwork/JobStatus" "job" "Ljava/lang/String;" u12) (g_a1 : n0 ≤ a1) (F_kind_a1 : Fld Z h0 a1 "com/example/shardwork/shardwork/JobStatus" "kind" "Ljava/lang/String;" u15) (F_pending_a1 : Fld Z h0 a1 "com/example/shardwork/shardwork/JobStatus" "pending" "J" u19) (F_running_a1 : Fld Z h0 a1 "com/example/shardwork/shardwork/JobStatus" "running" "J" u23) (F_done_a1 : Fld Z h0 a1 "com/example/shardwork/shardwork/JobStatus" "done" "J" u27) (F_failed_a1 : Fld Z h0 a1 "com/example/shardwork/shardwork/JobStatus" "failed" "J" u31) (F_cursor_a1 : Fld Z h0 a1 "com/example/shardwork/shardwork/JobStatus" "cursor" "Ljava/util/Optional;" u35) (F_scan_a1 : Fld Z h0 a1 "com/example/shardwork/shardwork/JobStatus" "scan" "Ljava/util/Optional;" u39) (F_mapReduce_a1 : Fld Z h0 a1 "com/example/shardwork/shardwork/JobStatus" "mapReduce" "Ljava/util/Optional;" u43) :
    MetFree l (⟨"com/example/shardwork/shardwork/JobStatus", "<init>", "(Ljava/lang/String;Ljava/lang/String;JJJJLjava/util/Optional;Ljava/util/Optional;Ljava/util/Optional;)V"⟩ : MethodName) (head1 (Jvm.Cond.code (⟨"com/example/shardwork/shardwork/JobStatus", "<init>", "(Ljava/lang/String;Ljava/lang/String;JJJJLjava/util/Optional;Ljava/util/Optional;Ljava/util/Optional;)V"⟩ : MethodName) prog_7_method_4_code 14 none :: ws) ({ frames := 2, cells := 0, slots := 0, locals := 24 } : Room)) (fun a U => a = #[(.ref a1), (.ref a2), (.ref a3), (.long q4), (.long q5), (.long q6), (.long q7), (.ref a8), (.ref a9), (.ref a10)] ∧ Z.Warmed39 U.vm ∧ U.heap = h0) (fun _ _ _ _ _ => True) (fun _ U o U' => ∃ v L, o = .returned v ∧ Q_rm4 Z a1 a2 a3 q4 q5 q6 q7 a8 a9 a10 u12 u15 u19 u23 u27 u31 u35 u39 u43 h0 n0 v U'.heap L ∧ FrameEnd U o U' L ({ frames := 2, cells := 0, slots := 0, locals := 24 } : Room).cells ({ frames := 2, cells := 0, slots := 0, locals := 24 } : Room).slots) := by
  refine MetFree.of_bodySF (plainFor_of_name pn_com_example_shardwork_shardwork_JobStatus) hisR ?_
  intro p e s m args below meth c s₁ Bd hml0 hP hK
  obtain ⟨rfl, hZ, hh⟩ := hP
  have hx := Bd.exec
  have hby := Bd.bytes
  have hml : c.maxLocals = 14 := hml0
  have hown : s.vm.findClass "com/example/shardwork/shardwork/JobStatus" = some m.cls := findClass_of_methodNamed Bd.named
  have hnm := (name_of_methodNamed Bd.named Bd.method).1
  have X0 : Stand p l e ({ frames := 2, cells := 0, slots := 0, locals := 24 } : Room) s m #[(.ref a1), (.ref a2), (.ref a3), (.long q4), (.long q5), (.long q6), (.long q7), (.ref a8), (.ref a9), (.ref a10)] below meth c s₁ [] 0 0 := Stand.of_body Bd
  have e0 : s₁.heap = h0 := by rw [← hh, Bd.state]; rfl
  have N0 := Fr.nil n0
  have pre0 : ∀ t, Steps p.tables e below (s₁.setTop (mkF m 0 #[.val (.ref a1), .val (.ref a2), .val (.ref a3), .val (.long q4), .second, .val (.long q5), .second, .val (.long q6), .second, .val (.long q7), .second, .val (.ref a8), .val (.ref a9), .val (.ref a10)] [])) t → Steps p.tables e below (s₁.setTop (entryFrame m #[(.ref a1), (.ref a2), (.ref a3), (.long q4), (.long q5), (.long q6), (.long q7), (.ref a8), (.ref a9), (.ref a10)] 14)) t := fun t k => castTop (ef_4 m a1 a2 a3 q4 q5 q6 q7 a8 a9 a10) k
  obtain ⟨_, _, ⟨T11, L11, k11, n11⟩, -, X11, ⟨Lc11, hQ11, l11, y11, z11⟩, st11⟩ := X0.specialBack hx (y := (⟨"java/lang/Record", "<init>", "()V"⟩ : MethodName)) rfl hown (mvT hZ (hw _ (List.mem_of_getElem? (i := 27) rfl))) (mvT hZ (hw _ (List.mem_of_getElem? (i := 28) rfl))) (mvT hZ (hw _ (List.mem_of_getElem? (i := 31) rfl))) (by decide) (backOf (W := 0) (rm5 l Z a0 hw [] a1 h0 n0 O0) hZ (hw _ (List.mem_of_getElem? (i := 31) rfl)) (hw _ (List.mem_of_getElem? (i := 30) rfl)) (by decide) (by decide)) (g := (mkF m 1 #[.val (.ref a1), .val (.ref a2), .val (.ref a3), .val (.long q4), .second, .val (.long q5), .second, .val (.long q6), .second, .val (.long q7), .second, .val (.ref a8), .val (.ref a9), .val (.ref a10)] [(.ref a1)])) rfl (by rw [hml]; rfl) (Steps.refl _) (a := a1) (argsL := []) (rest := []) (lenOf pd___V rfl) rfl (by show 2 * 0 + _ ≤ _; exact Nat.le_of_eq rfl) (hb hby d4_1) (fun _ _ => ⟨rfl, e0, (by decide : 0 + 0 ≤ _), (by decide : 0 + 0 ≤ _)⟩)
  dsimp only [Pt.U, Pt.locs, Pt.cells, Pt.slots] at X11 l11 y11 z11 st11 hQ11
  subst l11 y11 z11
  obtain ⟨rfl, Nq11, e11⟩ := hQ11
  have N11 := Fr.app N0 Nq11
  obtain ⟨T13, h13, X13, e13, W13, st13⟩ := putF X11 hx hZ hown (host := "") (Or.inl (hw _ (List.mem_of_getElem? (i := 35) rfl))) Via.refl e11 F_job_a1 E_a1 (Or.inr ⟨(hw _ (List.mem_of_getElem? (i := 36) rfl)), rfl, hnm⟩) (hw _ (List.mem_of_getElem? (i := 13) rfl)) (ty := (.object "java/lang/String")) (by decide) rfl rfl (g := (mkF m 6 #[.val (.ref a1), .val (.ref a2), .val (.ref a3), .val (.long q4), .second, .val (.long q5), .second, .val (.long q6), .second, .val (.long q7), .second, .val (.ref a8), .val (.ref a9), .val (.ref a10)] [(.ref a2), (.ref a1)])) rfl rfl (hb hby d4_6)
  have O13 := O0.wr W13 g_a1
  have K13 : Keep h0 h13 [a1] := (Keep.refl h0 [a1]).wr W13 (Or.inl (List.mem_of_getElem? (i := 0) rfl))
  have N13 := Fr.snoc X13 N11 g_a1
  have Fw13 := F_job_a1.same W13
  have c14 := (E_a1.wr W13)
  have c16 := (F_kind_a1.other W13 (Or.inr (slot_ne (Or.inr (hw _ (List.mem_of_getElem? (i := 38) rfl))) (Or.inr (hw _ (List.mem_of_getElem? (i := 36) rfl))) (by decide) (t := (.object "java/lang/String")) (t' := (.object "java/lang/String")) (by decide) (by decide))))
  obtain ⟨T17, h17, X17, e17, W17, st17⟩ := putF X13 hx hZ hown (host := "") (Or.inl (hw _ (List.mem_of_getElem? (i := 37) rfl))) Via.refl e13 c16 c14 (Or.inr ⟨(hw _ (List.mem_of_getElem? (i := 38) rfl)), rfl, hnm⟩) (hw _ (List.mem_of_getElem? (i := 13) rfl)) (ty := (.object "java/lang/String")) (by decide) rfl rfl (g := (mkF m 11 #[.val (.ref a1), .val (.ref a2), .val (.ref a3), .val (.long q4), .second, .val (.long q5), .second, .val (.long q6), .second, .val (.long q7), .second, .val (.ref a8), .val (.ref a9), .val (.ref a10)] [(.ref a3), (.ref a1)])) rfl rfl (hb hby d4_11)
  have O17 := O13.wr W17 g_a1
  have K17 : Keep h0 h17 [a1] := K13.wr W17 (Or.inl (List.mem_of_getElem? (i := 0) rfl))
  have N17 := Fr.snoc X17 N13 g_a1
  have Fw17 := c16.same W17
  have c18 := (c14.wr W17)
  have c20 := ((F_pending_a1.other W13 (Or.inr (slot_ne (Or.inr (hw _ (List.mem_of_getElem? (i := 40) rfl))) (Or.inr (hw _ (List.mem_of_getElem? (i := 36) rfl))) (by decide) (t := .long) (t' := (.object "java/lang/String")) (by decide) (by decide)))).other W17 (Or.inr (slot_ne (Or.inr (hw _ (List.mem_of_getElem? (i := 40) rfl))) (Or.inr (hw _ (List.mem_of_getElem? (i := 38) rfl))) (by decide) (t := .long) (t' := (.object "java/lang/String")) (by decide) (by decide))))
  obtain ⟨T21, h21, X21, e21, W21, st21⟩ := putF X17 hx hZ hown (host := "") (Or.inl (hw _ (List.mem_of_getElem? (i := 39) rfl))) Via.refl e17 c20 c18 (Or.inr ⟨(hw _ (List.mem_of_getElem? (i := 40) rfl)), rfl, hnm⟩) (hw _ (List.mem_of_getElem? (i := 13) rfl)) (ty := .long) (by decide) rfl rfl (g := (mkF m 16 #[.val (.ref a1), .val (.ref a2), .val (.ref a3), .val (.long q4), .second, .val (.long q5), .second, .val (.long q6), .second, .val (.long q7), .second, .val (.ref a8), .val (.ref a9), .val (.ref a10)] [(.long q4), (.ref a1)])) rfl rfl (hb hby d4_16)
  have O21 := O17.wr W21 g_a1
  have K21 : Keep h0 h21 [a1] := K17.wr W21 (Or.inl (List.mem_of_getElem? (i := 0) rfl))
  have N21 := Fr.snoc X21 N17 g_a1
  have Fw21 := c20.same W21
  have c22 := (c18.wr W21)
  have c24 := (((F_running_a1.other W13 (Or.inr (slot_ne (Or.inr (hw _ (List.mem_of_getElem? (i := 42) rfl))) (Or.inr (hw _ (List.mem_of_getElem? (i := 36) rfl))) (by decide) (t := .long) (t' := (.object "java/lang/String")) (by decide) (by decide)))).other W17 (Or.inr (slot_ne (Or.inr (hw _ (List.mem_of_getElem? (i := 42) rfl))) (Or.inr (hw _ (List.mem_of_getElem? (i := 38) rfl))) (by decide) (t := .long) (t' := (.object "java/lang/String")) (by decide) (by decide)))).other W21 (Or.inr (slot_ne (Or.inr (hw _ (List.mem_of_getElem? (i := 42) rfl))) (Or.inr (hw _ (List.mem_of_getElem? (i := 40) rfl))) (by decide) (t := .long) (t' := .long) (by decide) (by decide))))
  obtain ⟨T25, h25, X25, e25, W25, st25⟩ := putF X21 hx hZ hown (host := "") (Or.inl (hw _ (List.mem_of_getElem? (i := 41) rfl))) Via.refl e21 c24 c22 (Or.inr ⟨(hw _ (List.mem_of_getElem? (i := 42) rfl)), rfl, hnm⟩) (hw _ (List.mem_of_getElem? (i := 13) rfl)) (ty := .long) (by decide) rfl rfl (g := (mkF m 22 #[.val (.ref a1), .val (.ref a2), .val (.ref a3), .val (.long q4), .second, .val (.long q5), .second, .val (.long q6), .second, .val (.long q7), .second, .val (.ref a8), .val (.ref a9), .val (.ref a10)] [(.long q5), (.ref a1)])) rfl rfl (hb hby d4_22)
  have O25 := O21.wr W25 g_a1
  have K25 : Keep h0 h25 [a1] := K21.wr W25 (Or.inl (List.mem_of_getElem? (i := 0) rfl))
  have N25 := Fr.snoc X25 N21 g_a1
  have Fw25 := c24.same W25
  have c26 := (c22.wr W25)
  have c28 := ((((F_done_a1.other W13 (Or.inr (slot_ne (Or.inr (hw _ (List.mem_of_getElem? (i := 44) rfl))) (Or.inr (hw _ (List.mem_of_getElem? (i := 36) rfl))) (by decide) (t := .long) (t' := (.object "java/lang/String")) (by decide) (by decide)))).other W17 (Or.inr (slot_ne (Or.inr (hw _ (List.mem_of_getElem? (i := 44) rfl))) (Or.inr (hw _ (List.mem_of_getElem? (i := 38) rfl))) (by decide) (t := .long) (t' := (.object "java/lang/String")) (by decide) (by decide)))).other W21 (Or.inr (slot_ne (Or.inr (hw _ (List.mem_of_getElem? (i := 44) rfl))) (Or.inr (hw _ (List.mem_of_getElem? (i := 40) rfl))) (by decide) (t := .long) (t' := .long) (by decide) (by decide)))).other W25 (Or.inr (slot_ne (Or.inr (hw _ (List.mem_of_getElem? (i := 44) rfl))) (Or.inr (hw _ (List.mem_of_getElem? (i := 42) rfl))) (by decide) (t := .long) (t' := .long) (by decide) (by decide))))
  obtain ⟨T29, h29, X29, e29, W29, st29⟩ := putF X25 hx hZ hown (host := "") (Or.inl (hw _ (List.mem_of_getElem? (i := 43) rfl))) Via.refl e25 c28 c26 (Or.inr ⟨(hw _ (List.mem_of_getElem? (i := 44) rfl)), rfl, hnm⟩) (hw _ (List.mem_of_getElem? (i := 13) rfl)) (ty := .long) (by decide) rfl rfl (g := (mkF m 28 #[.val (.ref a1), .val (.ref a2), .val (.ref a3), .val (.long q4), .second, .val (.long q5), .second, .val (.long q6), .second, .val (.long q7), .second, .val (.ref a8), .val (.ref a9), .val (.ref a10)] [(.long q6), (.ref a1)])) rfl rfl (hb hby d4_28)
  have O29 := O25.wr W29 g_a1
  have K29 : Keep h0 h29 [a1] := K25.wr W29 (Or.inl (List.mem_of_getElem? (i := 0) rfl))
  have N29 := Fr.snoc X29 N25 g_a1
  have Fw29 := c28.same W29
  have c30 := (c26.wr W29)
  have c32 := (((((F_failed_a1.other W13 (Or.inr (slot_ne (Or.inr (hw _ (List.mem_of_getElem? (i := 46) rfl))) (Or.inr (hw _ (List.mem_of_getElem? (i := 36) rfl))) (by decide) (t := .long) (t' := (.object "java/lang/String")) (by decide) (by decide)))).other W17 (Or.inr (slot_ne (Or.inr (hw _ (List.mem_of_getElem? (i := 46) rfl))) (Or.inr (hw _ (List.mem_of_getElem? (i := 38) rfl))) (by decide) (t := .long) (t' := (.object "java/lang/String")) (by decide) (by decide)))).other W21 (Or.inr (slot_ne (Or.inr (hw _ (List.mem_of_getElem? (i := 46) rfl))) (Or.inr (hw _ (List.mem_of_getElem? (i := 40) rfl))) (by decide) (t := .long) (t' := .long) (by decide) (by decide)))).other W25 (Or.inr (slot_ne (Or.inr (hw _ (List.mem_of_getElem? (i := 46) rfl))) (Or.inr (hw _ (List.mem_of_getElem? (i := 42) rfl))) (by decide) (t := .long) (t' := .long) (by decide) (by decide)))).other W29 (Or.inr (slot_ne (Or.inr (hw _ (List.mem_of_getElem? (i := 46) rfl))) (Or.inr (hw _ (List.mem_of_getElem? (i := 44) rfl))) (by decide) (t := .long) (t' := .long) (by decide) (by decide))))
  obtain ⟨T33, h33, X33, e33, W33, st33⟩ := putF X29 hx hZ hown (host := "") (Or.inl (hw _ (List.mem_of_getElem? (i := 45) rfl))) Via.refl e29 c32 c30 (Or.inr ⟨(hw _ (List.mem_of_getElem? (i := 46) rfl)), rfl, hnm⟩) (hw _ (List.mem_of_getElem? (i := 13) rfl)) (ty := .long) (by decide) rfl rfl (g := (mkF m 34 #[.val (.ref a1), .val (.ref a2), .val (.ref a3), .val (.long q4), .second, .val (.long q5), .second, .val (.long q6), .second, .val (.long q7), .second, .val (.ref a8), .val (.ref a9), .val (.ref a10)] [(.long q7), (.ref a1)])) rfl rfl (hb hby d4_34)
  have O33 := O29.wr W33 g_a1
  have K33 : Keep h0 h33 [a1] := K29.wr W33 (Or.inl (List.mem_of_getElem? (i := 0) rfl))
  have N33 := Fr.snoc X33 N29 g_a1
  have Fw33 := c32.same W33
  have c34 := (c30.wr W33)
  have c36 := ((((((F_cursor_a1.other W13 (Or.inr (slot_ne (Or.inr (hw _ (List.mem_of_getElem? (i := 48) rfl))) (Or.inr (hw _ (List.mem_of_getElem? (i := 36) rfl))) (by decide) (t := (.object "java/util/Optional")) (t' := (.object "java/lang/String")) (by decide) (by decide)))).other W17 (Or.inr (slot_ne (Or.inr (hw _ (List.mem_of_getElem? (i := 48) rfl))) (Or.inr (hw _ (List.mem_of_getElem? (i := 38) rfl))) (by decide) (t := (.object "java/util/Optional")) (t' := (.object "java/lang/String")) (by decide) (by decide)))).other W21 (Or.inr (slot_ne (Or.inr (hw _ (List.mem_of_getElem? (i := 48) rfl))) (Or.inr (hw _ (List.mem_of_getElem? (i := 40) rfl))) (by decide) (t := (.object "java/util/Optional")) (t' := .long) (by decide) (by decide)))).other W25 (Or.inr (slot_ne (Or.inr (hw _ (List.mem_of_getElem? (i := 48) rfl))) (Or.inr (hw _ (List.mem_of_getElem? (i := 42) rfl))) (by decide) (t := (.object "java/util/Optional")) (t' := .long) (by decide) (by decide)))).other W29 (Or.inr (slot_ne (Or.inr (hw _ (List.mem_of_getElem? (i := 48) rfl))) (Or.inr (hw _ (List.mem_of_getElem? (i := 44) rfl))) (by decide) (t := (.object "java/util/Optional")) (t' := .long) (by decide) (by decide)))).other W33 (Or.inr (slot_ne (Or.inr (hw _ (List.mem_of_getElem? (i := 48) rfl))) (Or.inr (hw _ (List.mem_of_getElem? (i := 46) rfl))) (by decide) (t := (.object "java/util/Optional")) (t' := .long) (by decide) (by decide))))
  obtain ⟨T37, h37, X37, e37, W37, st37⟩ := putF X33 hx hZ hown (host := "") (Or.inl (hw _ (List.mem_of_getElem? (i := 47) rfl))) Via.refl e33 c36 c34 (Or.inr ⟨(hw _ (List.mem_of_getElem? (i := 48) rfl)), rfl, hnm⟩) (hw _ (List.mem_of_getElem? (i := 13) rfl)) (ty := (.object "java/util/Optional")) (by decide) rfl rfl (g := (mkF m 40 #[.val (.ref a1), .val (.ref a2), .val (.ref a3), .val (.long q4), .second, .val (.long q5), .second, .val (.long q6), .second, .val (.long q7), .second, .val (.ref a8), .val (.ref a9), .val (.ref a10)] [(.ref a8), (.ref a1)])) rfl rfl (hb hby d4_40)
  have O37 := O33.wr W37 g_a1
  have K37 : Keep h0 h37 [a1] := K33.wr W37 (Or.inl (List.mem_of_getElem? (i := 0) rfl))
  have N37 := Fr.snoc X37 N33 g_a1
  have Fw37 := c36.same W37
  have c38 := (c34.wr W37)
  have c40 := (((((((F_scan_a1.other W13 (Or.inr (slot_ne (Or.inr (hw _ (List.mem_of_getElem? (i := 50) rfl))) (Or.inr (hw _ (List.mem_of_getElem? (i := 36) rfl))) (by decide) (t := (.object "java/util/Optional")) (t' := (.object "java/lang/String")) (by decide) (by decide)))).other W17 (Or.inr (slot_ne (Or.inr (hw _ (List.mem_of_getElem? (i := 50) rfl))) (Or.inr (hw _ (List.mem_of_getElem? (i := 38) rfl))) (by decide) (t := (.object "java/util/Optional")) (t' := (.object "java/lang/String")) (by decide) (by decide)))).other W21 (Or.inr (slot_ne (Or.inr (hw _ (List.mem_of_getElem? (i := 50) rfl))) (Or.inr (hw _ (List.mem_of_getElem? (i := 40) rfl))) (by decide) (t := (.object "java/util/Optional")) (t' := .long) (by decide) (by decide)))).other W25 (Or.inr (slot_ne (Or.inr (hw _ (List.mem_of_getElem? (i := 50) rfl))) (Or.inr (hw _ (List.mem_of_getElem? (i := 42) rfl))) (by decide) (t := (.object "java/util/Optional")) (t' := .long) (by decide) (by decide)))).other W29 (Or.inr (slot_ne (Or.inr (hw _ (List.mem_of_getElem? (i := 50) rfl))) (Or.inr (hw _ (List.mem_of_getElem? (i := 44) rfl))) (by decide) (t := (.object "java/util/Optional")) (t' := .long) (by decide) (by decide)))).other W33 (Or.inr (slot_ne (Or.inr (hw _ (List.mem_of_getElem? (i := 50) rfl))) (Or.inr (hw _ (List.mem_of_getElem? (i := 46) rfl))) (by decide) (t := (.object "java/util/Optional")) (t' := .long) (by decide) (by decide)))).other W37 (Or.inr (slot_ne (Or.inr (hw _ (List.mem_of_getElem? (i := 50) rfl))) (Or.inr (hw _ (List.mem_of_getElem? (i := 48) rfl))) (by decide) (t := (.object "java/util/Optional")) (t' := (.object "java/util/Optional")) (by decide) (by decide))))
  obtain ⟨T41, h41, X41, e41, W41, st41⟩ := putF X37 hx hZ hown (host := "") (Or.inl (hw _ (List.mem_of_getElem? (i := 49) rfl))) Via.refl e37 c40 c38 (Or.inr ⟨(hw _ (List.mem_of_getElem? (i := 50) rfl)), rfl, hnm⟩) (hw _ (List.mem_of_getElem? (i := 13) rfl)) (ty := (.object "java/util/Optional")) (by decide) rfl rfl (g := (mkF m 46 #[.val (.ref a1), .val (.ref a2), .val (.ref a3), .val (.long q4), .second, .val (.long q5), .second, .val (.long q6), .second, .val (.long q7), .second, .val (.ref a8), .val (.ref a9), .val (.ref a10)] [(.ref a9), (.ref a1)])) rfl rfl (hb hby d4_46)
  have O41 := O37.wr W41 g_a1
  have K41 : Keep h0 h41 [a1] := K37.wr W41 (Or.inl (List.mem_of_getElem? (i := 0) rfl))
  have N41 := Fr.snoc X41 N37 g_a1
  have Fw41 := c40.same W41
  have c42 := (c38.wr W41)
  have c44 := ((((((((F_mapReduce_a1.other W13 (Or.inr (slot_ne (Or.inr (hw _ (List.mem_of_getElem? (i := 52) rfl))) (Or.inr (hw _ (List.mem_of_getElem? (i := 36) rfl))) (by decide) (t := (.object "java/util/Optional")) (t' := (.object "java/lang/String")) (by decide) (by decide)))).other W17 (Or.inr (slot_ne (Or.inr (hw _ (List.mem_of_getElem? (i := 52) rfl))) (Or.inr (hw _ (List.mem_of_getElem? (i := 38) rfl))) (by decide) (t := (.object "java/util/Optional")) (t' := (.object "java/lang/String")) (by decide) (by decide)))).other W21 (Or.inr (slot_ne (Or.inr (hw _ (List.mem_of_getElem? (i := 52) rfl))) (Or.inr (hw _ (List.mem_of_getElem? (i := 40) rfl))) (by decide) (t := (.object "java/util/Optional")) (t' := .long) (by decide) (by decide)))).other W25 (Or.inr (slot_ne (Or.inr (hw _ (List.mem_of_getElem? (i := 52) rfl))) (Or.inr (hw _ (List.mem_of_getElem? (i := 42) rfl))) (by decide) (t := (.object "java/util/Optional")) (t' := .long) (by decide) (by decide)))).other W29 (Or.inr (slot_ne (Or.inr (hw _ (List.mem_of_getElem? (i := 52) rfl))) (Or.inr (hw _ (List.mem_of_getElem? (i := 44) rfl))) (by decide) (t := (.object "java/util/Optional")) (t' := .long) (by decide) (by decide)))).other W33 (Or.inr (slot_ne (Or.inr (hw _ (List.mem_of_getElem? (i := 52) rfl))) (Or.inr (hw _ (List.mem_of_getElem? (i := 46) rfl))) (by decide) (t := (.object "java/util/Optional")) (t' := .long) (by decide) (by decide)))).other W37 (Or.inr (slot_ne (Or.inr (hw _ (List.mem_of_getElem? (i := 52) rfl))) (Or.inr (hw _ (List.mem_of_getElem? (i := 48) rfl))) (by decide) (t := (.object "java/util/Optional")) (t' := (.object "java/util/Optional")) (by decide) (by decide)))).other W41 (Or.inr (slot_ne (Or.inr (hw _ (List.mem_of_getElem? (i := 52) rfl))) (Or.inr (hw _ (List.mem_of_getElem? (i := 50) rfl))) (by decide) (t := (.object "java/util/Optional")) (t' := (.object "java/util/Optional")) (by decide) (by decide))))
  obtain ⟨T45, h45, X45, e45, W45, st45⟩ := putF X41 hx hZ hown (host := "") (Or.inl (hw _ (List.mem_of_getElem? (i := 51) rfl))) Via.refl e41 c44 c42 (Or.inr ⟨(hw _ (List.mem_of_getElem? (i := 52) rfl)), rfl, hnm⟩) (hw _ (List.mem_of_getElem? (i := 13) rfl)) (ty := (.object "java/util/Optional")) (by decide) rfl rfl (g := (mkF m 52 #[.val (.ref a1), .val (.ref a2), .val (.ref a3), .val (.long q4), .second, .val (.long q5), .second, .val (.long q6), .second, .val (.long q7), .second, .val (.ref a8), .val (.ref a9), .val (.ref a10)] [(.ref a10), (.ref a1)])) rfl rfl (hb hby d4_52)
  have O45 := O41.wr W45 g_a1
  have K45 : Keep h0 h45 [a1] := K41.wr W45 (Or.inl (List.mem_of_getElem? (i := 0) rfl))
  have N45 := Fr.snoc X45 N41 g_a1
  have Fw45 := c44.same W45
  have c46 := (c42.wr W45)
  have c47 := ((((((((Fw13.other W17 (Or.inr (slot_ne (Or.inr (hw _ (List.mem_of_getElem? (i := 36) rfl))) (Or.inr (hw _ (List.mem_of_getElem? (i := 38) rfl))) (by decide) (t := (.object "java/lang/String")) (t' := (.object "java/lang/String")) (by decide) (by decide)))).other W21 (Or.inr (slot_ne (Or.inr (hw _ (List.mem_of_getElem? (i := 36) rfl))) (Or.inr (hw _ (List.mem_of_getElem? (i := 40) rfl))) (by decide) (t := (.object "java/lang/String")) (t' := .long) (by decide) (by decide)))).other W25 (Or.inr (slot_ne (Or.inr (hw _ (List.mem_of_getElem? (i := 36) rfl))) (Or.inr (hw _ (List.mem_of_getElem? (i := 42) rfl))) (by decide) (t := (.object "java/lang/String")) (t' := .long) (by decide) (by decide)))).other W29 (Or.inr (slot_ne (Or.inr (hw _ (List.mem_of_getElem? (i := 36) rfl))) (Or.inr (hw _ (List.mem_of_getElem? (i := 44) rfl))) (by decide) (t := (.object "java/lang/String")) (t' := .long) (by decide) (by decide)))).other W33 (Or.inr (slot_ne (Or.inr (hw _ (List.mem_of_getElem? (i := 36) rfl))) (Or.inr (hw _ (List.mem_of_getElem? (i := 46) rfl))) (by decide) (t := (.object "java/lang/String")) (t' := .long) (by decide) (by decide)))).other W37 (Or.inr (slot_ne (Or.inr (hw _ (List.mem_of_getElem? (i := 36) rfl))) (Or.inr (hw _ (List.mem_of_getElem? (i := 48) rfl))) (by decide) (t := (.object "java/lang/String")) (t' := (.object "java/util/Optional")) (by decide) (by decide)))).other W41 (Or.inr (slot_ne (Or.inr (hw _ (List.mem_of_getElem? (i := 36) rfl))) (Or.inr (hw _ (List.mem_of_getElem? (i := 50) rfl))) (by decide) (t := (.object "java/lang/String")) (t' := (.object "java/util/Optional")) (by decide) (by decide)))).other W45 (Or.inr (slot_ne (Or.inr (hw _ (List.mem_of_getElem? (i := 36) rfl))) (Or.inr (hw _ (List.mem_of_getElem? (i := 52) rfl))) (by decide) (t := (.object "java/lang/String")) (t' := (.object "java/util/Optional")) (by decide) (by decide))))
  have c48 := (((((((Fw17.other W21 (Or.inr (slot_ne (Or.inr (hw _ (List.mem_of_getElem? (i := 38) rfl))) (Or.inr (hw _ (List.mem_of_getElem? (i := 40) rfl))) (by decide) (t := (.object "java/lang/String")) (t' := .long) (by decide) (by decide)))).other W25 (Or.inr (slot_ne (Or.inr (hw _ (List.mem_of_getElem? (i := 38) rfl))) (Or.inr (hw _ (List.mem_of_getElem? (i := 42) rfl))) (by decide) (t := (.object "java/lang/String")) (t' := .long) (by decide) (by decide)))).other W29 (Or.inr (slot_ne (Or.inr (hw _ (List.mem_of_getElem? (i := 38) rfl))) (Or.inr (hw _ (List.mem_of_getElem? (i := 44) rfl))) (by decide) (t := (.object "java/lang/String")) (t' := .long) (by decide) (by decide)))).other W33 (Or.inr (slot_ne (Or.inr (hw _ (List.mem_of_getElem? (i := 38) rfl))) (Or.inr (hw _ (List.mem_of_getElem? (i := 46) rfl))) (by decide) (t := (.object "java/lang/String")) (t' := .long) (by decide) (by decide)))).other W37 (Or.inr (slot_ne (Or.inr (hw _ (List.mem_of_getElem? (i := 38) rfl))) (Or.inr (hw _ (List.mem_of_getElem? (i := 48) rfl))) (by decide) (t := (.object "java/lang/String")) (t' := (.object "java/util/Optional")) (by decide) (by decide)))).other W41 (Or.inr (slot_ne (Or.inr (hw _ (List.mem_of_getElem? (i := 38) rfl))) (Or.inr (hw _ (List.mem_of_getElem? (i := 50) rfl))) (by decide) (t := (.object "java/lang/String")) (t' := (.object "java/util/Optional")) (by decide) (by decide)))).other W45 (Or.inr (slot_ne (Or.inr (hw _ (List.mem_of_getElem? (i := 38) rfl))) (Or.inr (hw _ (List.mem_of_getElem? (i := 52) rfl))) (by decide) (t := (.object "java/lang/String")) (t' := (.object "java/util/Optional")) (by decide) (by decide))))
  have c49 := ((((((Fw21.other W25 (Or.inr (slot_ne (Or.inr (hw _ (List.mem_of_getElem? (i := 40) rfl))) (Or.inr (hw _ (List.mem_of_getElem? (i := 42) rfl))) (by decide) (t := .long) (t' := .long) (by decide) (by decide)))).other W29 (Or.inr (slot_ne (Or.inr (hw _ (List.mem_of_getElem? (i := 40) rfl))) (Or.inr (hw _ (List.mem_of_getElem? (i := 44) rfl))) (by decide) (t := .long) (t' := .long) (by decide) (by decide)))).other W33 (Or.inr (slot_ne (Or.inr (hw _ (List.mem_of_getElem? (i := 40) rfl))) (Or.inr (hw _ (List.mem_of_getElem? (i := 46) rfl))) (by decide) (t := .long) (t' := .long) (by decide) (by decide)))).other W37 (Or.inr (slot_ne (Or.inr (hw _ (List.mem_of_getElem? (i := 40) rfl))) (Or.inr (hw _ (List.mem_of_getElem? (i := 48) rfl))) (by decide) (t := .long) (t' := (.object "java/util/Optional")) (by decide) (by decide)))).other W41 (Or.inr (slot_ne (Or.inr (hw _ (List.mem_of_getElem? (i := 40) rfl))) (Or.inr (hw _ (List.mem_of_getElem? (i := 50) rfl))) (by decide) (t := .long) (t' := (.object "java/util/Optional")) (by decide) (by decide)))).other W45 (Or.inr (slot_ne (Or.inr (hw _ (List.mem_of_getElem? (i := 40) rfl))) (Or.inr (hw _ (List.mem_of_getElem? (i := 52) rfl))) (by decide) (t := .long) (t' := (.object "java/util/Optional")) (by decide) (by decide))))
  have c50 := (((((Fw25.other W29 (Or.inr (slot_ne (Or.inr (hw _ (List.mem_of_getElem? (i := 42) rfl))) (Or.inr (hw _ (List.mem_of_getElem? (i := 44) rfl))) (by decide) (t := .long) (t' := .long) (by decide) (by decide)))).other W33 (Or.inr (slot_ne (Or.inr (hw _ (List.mem_of_getElem? (i := 42) rfl))) (Or.inr (hw _ (List.mem_of_getElem? (i := 46) rfl))) (by decide) (t := .long) (t' := .long) (by decide) (by decide)))).other W37 (Or.inr (slot_ne (Or.inr (hw _ (List.mem_of_getElem? (i := 42) rfl))) (Or.inr (hw _ (List.mem_of_getElem? (i := 48) rfl))) (by decide) (t := .long) (t' := (.object "java/util/Optional")) (by decide) (by decide)))).other W41 (Or.inr (slot_ne (Or.inr (hw _ (List.mem_of_getElem? (i := 42) rfl))) (Or.inr (hw _ (List.mem_of_getElem? (i := 50) rfl))) (by decide) (t := .long) (t' := (.object "java/util/Optional")) (by decide) (by decide)))).other W45 (Or.inr (slot_ne (Or.inr (hw _ (List.mem_of_getElem? (i := 42) rfl))) (Or.inr (hw _ (List.mem_of_getElem? (i := 52) rfl))) (by decide) (t := .long) (t' := (.object "java/util/Optional")) (by decide) (by decide))))
  have c51 := ((((Fw29.other W33 (Or.inr (slot_ne (Or.inr (hw _ (List.mem_of_getElem? (i := 44) rfl))) (Or.inr (hw _ (List.mem_of_getElem? (i := 46) rfl))) (by decide) (t := .long) (t' := .long) (by decide) (by decide)))).other W37 (Or.inr (slot_ne (Or.inr (hw _ (List.mem_of_getElem? (i := 44) rfl))) (Or.inr (hw _ (List.mem_of_getElem? (i := 48) rfl))) (by decide) (t := .long) (t' := (.object "java/util/Optional")) (by decide) (by decide)))).other W41 (Or.inr (slot_ne (Or.inr (hw _ (List.mem_of_getElem? (i := 44) rfl))) (Or.inr (hw _ (List.mem_of_getElem? (i := 50) rfl))) (by decide) (t := .long) (t' := (.object "java/util/Optional")) (by decide) (by decide)))).other W45 (Or.inr (slot_ne (Or.inr (hw _ (List.mem_of_getElem? (i := 44) rfl))) (Or.inr (hw _ (List.mem_of_getElem? (i := 52) rfl))) (by decide) (t := .long) (t' := (.object "java/util/Optional")) (by decide) (by decide))))
  have c52 := (((Fw33.other W37 (Or.inr (slot_ne (Or.inr (hw _ (List.mem_of_getElem? (i := 46) rfl))) (Or.inr (hw _ (List.mem_of_getElem? (i := 48) rfl))) (by decide) (t := .long) (t' := (.object "java/util/Optional")) (by decide) (by decide)))).other W41 (Or.inr (slot_ne (Or.inr (hw _ (List.mem_of_getElem? (i := 46) rfl))) (Or.inr (hw _ (List.mem_of_getElem? (i := 50) rfl))) (by decide) (t := .long) (t' := (.object "java/util/Optional")) (by decide) (by decide)))).other W45 (Or.inr (slot_ne (Or.inr (hw _ (List.mem_of_getElem? (i := 46) rfl))) (Or.inr (hw _ (List.mem_of_getElem? (i := 52) rfl))) (by decide) (t := .long) (t' := (.object "java/util/Optional")) (by decide) (by decide))))
  have c53 := ((Fw37.other W41 (Or.inr (slot_ne (Or.inr (hw _ (List.mem_of_getElem? (i := 48) rfl))) (Or.inr (hw _ (List.mem_of_getElem? (i := 50) rfl))) (by decide) (t := (.object "java/util/Optional")) (t' := (.object "java/util/Optional")) (by decide) (by decide)))).other W45 (Or.inr (slot_ne (Or.inr (hw _ (List.mem_of_getElem? (i := 48) rfl))) (Or.inr (hw _ (List.mem_of_getElem? (i := 52) rfl))) (by decide) (t := (.object "java/util/Optional")) (t' := (.object "java/util/Optional")) (by decide) (by decide))))
  have c54 := (Fw41.other W45 (Or.inr (slot_ne (Or.inr (hw _ (List.mem_of_getElem? (i := 50) rfl))) (Or.inr (hw _ (List.mem_of_getElem? (i := 52) rfl))) (by decide) (t := (.object "java/util/Optional")) (t' := (.object "java/util/Optional")) (by decide) (by decide))))
  obtain ⟨fs, hr, hrun, hended, hW, hsame⟩ := X45.leave (v := none) (fun _ => rfl)
  refine ⟨_, _, pre0 _ ?_, hrun, hended, _, _, rfl, ?_, ⟨_, rfl⟩, hW, hsame.mono (by decide) (by decide)⟩
  · show Steps p.tables e below (s₁.setTop (mkF m 0 #[.val (.ref a1), .val (.ref a2), .val (.ref a3), .val (.long q4), .second, .val (.long q5), .second, .val (.long q6), .second, .val (.long q7), .second, .val (.ref a8), .val (.ref a9), .val (.ref a10)] [])) _
    refine XS.aloadN X0.here hx rfl (hb hby d4_0) rfl rfl ?_
    show Steps p.tables e below (s₁.setTop (mkF m 1 #[.val (.ref a1), .val (.ref a2), .val (.ref a3), .val (.long q4), .second, .val (.long q5), .second, .val (.long q6), .second, .val (.long q7), .second, .val (.ref a8), .val (.ref a9), .val (.ref a10)] [(.ref a1)])) _
    refine st11.trans ?_
    show Steps p.tables e below (T11.setTop (mkF m 4 #[.val (.ref a1), .val (.ref a2), .val (.ref a3), .val (.long q4), .second, .val (.long q5), .second, .val (.long q6), .second, .val (.long q7), .second, .val (.ref a8), .val (.ref a9), .val (.ref a10)] [])) _
    refine XS.aloadN X11.here hx rfl (hb hby d4_4) rfl rfl ?_
    show Steps p.tables e below (T11.setTop (mkF m 5 #[.val (.ref a1), .val (.ref a2), .val (.ref a3), .val (.long q4), .second, .val (.long q5), .second, .val (.long q6), .second, .val (.long q7), .second, .val (.ref a8), .val (.ref a9), .val (.ref a10)] [(.ref a1)])) _
    refine XS.aloadN X11.here hx rfl (hb hby d4_5) rfl rfl ?_
    show Steps p.tables e below (T11.setTop (mkF m 6 #[.val (.ref a1), .val (.ref a2), .val (.ref a3), .val (.long q4), .second, .val (.long q5), .second, .val (.long q6), .second, .val (.long q7), .second, .val (.ref a8), .val (.ref a9), .val (.ref a10)] [(.ref a2), (.ref a1)])) _
    refine st13 _ ?_
    show Steps p.tables e below (T13.setTop (mkF m 9 #[.val (.ref a1), .val (.ref a2), .val (.ref a3), .val (.long q4), .second, .val (.long q5), .second, .val (.long q6), .second, .val (.long q7), .second, .val (.ref a8), .val (.ref a9), .val (.ref a10)] [])) _
    refine XS.aloadN X13.here hx rfl (hb hby d4_9) rfl rfl ?_
    show Steps p.tables e below (T13.setTop (mkF m 10 #[.val (.ref a1), .val (.ref a2), .val (.ref a3), .val (.long q4), .second, .val (.long q5), .second, .val (.long q6), .second, .val (.long q7), .second, .val (.ref a8), .val (.ref a9), .val (.ref a10)] [(.ref a1)])) _
    refine XS.aloadN X13.here hx rfl (hb hby d4_10) rfl rfl ?_
    show Steps p.tables e below (T13.setTop (mkF m 11 #[.val (.ref a1), .val (.ref a2), .val (.ref a3), .val (.long q4), .second, .val (.long q5), .second, .val (.long q6), .second, .val (.long q7), .second, .val (.ref a8), .val (.ref a9), .val (.ref a10)] [(.ref a3), (.ref a1)])) _
    refine st17 _ ?_
    show Steps p.tables e below (T17.setTop (mkF m 14 #[.val (.ref a1), .val (.ref a2), .val (.ref a3), .val (.long q4), .second, .val (.long q5), .second, .val (.long q6), .second, .val (.long q7), .second, .val (.ref a8), .val (.ref a9), .val (.ref a10)] [])) _
    refine XS.aloadN X17.here hx rfl (hb hby d4_14) rfl rfl ?_
    show Steps p.tables e below (T17.setTop (mkF m 15 #[.val (.ref a1), .val (.ref a2), .val (.ref a3), .val (.long q4), .second, .val (.long q5), .second, .val (.long q6), .second, .val (.long q7), .second, .val (.ref a8), .val (.ref a9), .val (.ref a10)] [(.ref a1)])) _
    refine XS.lloadN X17.here hx rfl (hb hby d4_15) rfl ?_
    show Steps p.tables e below (T17.setTop (mkF m 16 #[.val (.ref a1), .val (.ref a2), .val (.ref a3), .val (.long q4), .second, .val (.long q5), .second, .val (.long q6), .second, .val (.long q7), .second, .val (.ref a8), .val (.ref a9), .val (.ref a10)] [(.long q4), (.ref a1)])) _
    refine st21 _ ?_
    show Steps p.tables e below (T21.setTop (mkF m 19 #[.val (.ref a1), .val (.ref a2), .val (.ref a3), .val (.long q4), .second, .val (.long q5), .second, .val (.long q6), .second, .val (.long q7), .second, .val (.ref a8), .val (.ref a9), .val (.ref a10)] [])) _
    refine XS.aloadN X21.here hx rfl (hb hby d4_19) rfl rfl ?_
    show Steps p.tables e below (T21.setTop (mkF m 20 #[.val (.ref a1), .val (.ref a2), .val (.ref a3), .val (.long q4), .second, .val (.long q5), .second, .val (.long q6), .second, .val (.long q7), .second, .val (.ref a8), .val (.ref a9), .val (.ref a10)] [(.ref a1)])) _
    refine XS.lload X21.here hx rfl (hb hby d4_20) rfl ?_
    show Steps p.tables e below (T21.setTop (mkF m 22 #[.val (.ref a1), .val (.ref a2), .val (.ref a3), .val (.long q4), .second, .val (.long q5), .second, .val (.long q6), .second, .val (.long q7), .second, .val (.ref a8), .val (.ref a9), .val (.ref a10)] [(.long q5), (.ref a1)])) _
    refine st25 _ ?_
    show Steps p.tables e below (T25.setTop (mkF m 25 #[.val (.ref a1), .val (.ref a2), .val (.ref a3), .val (.long q4), .second, .val (.long q5), .second, .val (.long q6), .second, .val (.long q7), .second, .val (.ref a8), .val (.ref a9), .val (.ref a10)] [])) _
    refine XS.aloadN X25.here hx rfl (hb hby d4_25) rfl rfl ?_
    show Steps p.tables e below (T25.setTop (mkF m 26 #[.val (.ref a1), .val (.ref a2), .val (.ref a3), .val (.long q4), .second, .val (.long q5), .second, .val (.long q6), .second, .val (.long q7), .second, .val (.ref a8), .val (.ref a9), .val (.ref a10)] [(.ref a1)])) _
    refine XS.lload X25.here hx rfl (hb hby d4_26) rfl ?_
    show Steps p.tables e below (T25.setTop (mkF m 28 #[.val (.ref a1), .val (.ref a2), .val (.ref a3), .val (.long q4), .second, .val (.long q5), .second, .val (.long q6), .second, .val (.long q7), .second, .val (.ref a8), .val (.ref a9), .val (.ref a10)] [(.long q6), (.ref a1)])) _
    refine st29 _ ?_
    show Steps p.tables e below (T29.setTop (mkF m 31 #[.val (.ref a1), .val (.ref a2), .val (.ref a3), .val (.long q4), .second, .val (.long q5), .second, .val (.long q6), .second, .val (.long q7), .second, .val (.ref a8), .val (.ref a9), .val (.ref a10)] [])) _
    refine XS.aloadN X29.here hx rfl (hb hby d4_31) rfl rfl ?_
    show Steps p.tables e below (T29.setTop (mkF m 32 #[.val (.ref a1), .val (.ref a2), .val (.ref a3), .val (.long q4), .second, .val (.long q5), .second, .val (.long q6), .second, .val (.long q7), .second, .val (.ref a8), .val (.ref a9), .val (.ref a10)] [(.ref a1)])) _
    refine XS.lload X29.here hx rfl (hb hby d4_32) rfl ?_
    show Steps p.tables e below (T29.setTop (mkF m 34 #[.val (.ref a1), .val (.ref a2), .val (.ref a3), .val (.long q4), .second, .val (.long q5), .second, .val (.long q6), .second, .val (.long q7), .second, .val (.ref a8), .val (.ref a9), .val (.ref a10)] [(.long q7), (.ref a1)])) _
    refine st33 _ ?_
    show Steps p.tables e below (T33.setTop (mkF m 37 #[.val (.ref a1), .val (.ref a2), .val (.ref a3), .val (.long q4), .second, .val (.long q5), .second, .val (.long q6), .second, .val (.long q7), .second, .val (.ref a8), .val (.ref a9), .val (.ref a10)] [])) _
    refine XS.aloadN X33.here hx rfl (hb hby d4_37) rfl rfl ?_
    show Steps p.tables e below (T33.setTop (mkF m 38 #[.val (.ref a1), .val (.ref a2), .val (.ref a3), .val (.long q4), .second, .val (.long q5), .second, .val (.long q6), .second, .val (.long q7), .second, .val (.ref a8), .val (.ref a9), .val (.ref a10)] [(.ref a1)])) _
    refine XS.aload X33.here hx rfl (hb hby d4_38) rfl rfl ?_
    show Steps p.tables e below (T33.setTop (mkF m 40 #[.val (.ref a1), .val (.ref a2), .val (.ref a3), .val (.long q4), .second, .val (.long q5), .second, .val (.long q6), .second, .val (.long q7), .second, .val (.ref a8), .val (.ref a9), .val (.ref a10)] [(.ref a8), (.ref a1)])) _
    refine st37 _ ?_
    show Steps p.tables e below (T37.setTop (mkF m 43 #[.val (.ref a1), .val (.ref a2), .val (.ref a3), .val (.long q4), .second, .val (.long q5), .second, .val (.long q6), .second, .val (.long q7), .second, .val (.ref a8), .val (.ref a9), .val (.ref a10)] [])) _
    refine XS.aloadN X37.here hx rfl (hb hby d4_43) rfl rfl ?_
    show Steps p.tables e below (T37.setTop (mkF m 44 #[.val (.ref a1), .val (.ref a2), .val (.ref a3), .val (.long q4), .second, .val (.long q5), .second, .val (.long q6), .second, .val (.long q7), .second, .val (.ref a8), .val (.ref a9), .val (.ref a10)] [(.ref a1)])) _
    refine XS.aload X37.here hx rfl (hb hby d4_44) rfl rfl ?_
    show Steps p.tables e below (T37.setTop (mkF m 46 #[.val (.ref a1), .val (.ref a2), .val (.ref a3), .val (.long q4), .second, .val (.long q5), .second, .val (.long q6), .second, .val (.long q7), .second, .val (.ref a8), .val (.ref a9), .val (.ref a10)] [(.ref a9), (.ref a1)])) _
    refine st41 _ ?_
    show Steps p.tables e below (T41.setTop (mkF m 49 #[.val (.ref a1), .val (.ref a2), .val (.ref a3), .val (.long q4), .second, .val (.long q5), .second, .val (.long q6), .second, .val (.long q7), .second, .val (.ref a8), .val (.ref a9), .val (.ref a10)] [])) _
    refine XS.aloadN X41.here hx rfl (hb hby d4_49) rfl rfl ?_
    show Steps p.tables e below (T41.setTop (mkF m 50 #[.val (.ref a1), .val (.ref a2), .val (.ref a3), .val (.long q4), .second, .val (.long q5), .second, .val (.long q6), .second, .val (.long q7), .second, .val (.ref a8), .val (.ref a9), .val (.ref a10)] [(.ref a1)])) _
    refine XS.aload X41.here hx rfl (hb hby d4_50) rfl rfl ?_
    show Steps p.tables e below (T41.setTop (mkF m 52 #[.val (.ref a1), .val (.ref a2), .val (.ref a3), .val (.long q4), .second, .val (.long q5), .second, .val (.long q6), .second, .val (.long q7), .second, .val (.ref a8), .val (.ref a9), .val (.ref a10)] [(.ref a10), (.ref a1)])) _
    refine st45 _ ?_
    show Steps p.tables e below (T45.setTop (mkF m 55 #[.val (.ref a1), .val (.ref a2), .val (.ref a3), .val (.long q4), .second, .val (.long q5), .second, .val (.long q6), .second, .val (.long q7), .second, .val (.ref a8), .val (.ref a9), .val (.ref a10)] [])) _
    exact X45.returnOut hx Bd.returns (hb hby d4_55) hr
  · show Q_rm4 Z a1 a2 a3 q4 q5 q6 q7 a8 a9 a10 u12 u15 u19 u23 u27 u31 u35 u39 u43 h0 n0 _ T45.heap _
    rw [e45]
    exact ⟨rfl, N45, O45, K45, c46, c47, c48, c49, c50, c51, c52, c53, c54, Fw45⟩
theorem d2_0 : decode prog_7_method_3_code 0 = .ok (.aload_n 0, 1) := by decide +kernel
theorem d2_1 : decode prog_7_method_3_code 1 = .ok (.aload_n 1, 1) := by decide +kernel
theorem d2_2 : decode prog_7_method_3_code 2 = .ok (.aload_n 2, 1) := by decide +kernel
theorem d2_3 : decode prog_7_method_3_code 3 = .ok (.lload_n 3, 1) := by decide +kernel
theorem d2_4 : decode prog_7_method_3_code 4 = .ok (.lload 5, 2) := by decide +kernel
theorem d2_6 : decode prog_7_method_3_code 6 = .ok (.lload 7, 2) := by decide +kernel
theorem d2_8 : decode prog_7_method_3_code 8 = .ok (.lload 9, 2) := by decide +kernel
theorem d2_10 : decode prog_7_method_3_code 10 = .ok (.invokestatic 39, 3) := by decide +kernel
theorem pd___Ljava_util_Optional_ : parseMethodDescriptor "()Ljava/util/Optional;" = some ⟨[], some (.object "java/util/Optional")⟩ := by decide +kernel
theorem d2_13 : decode prog_7_method_3_code 13 = .ok (.invokestatic 39, 3) := by decide +kernel
theorem d2_16 : decode prog_7_method_3_code 16 = .ok (.invokestatic 39, 3) := by decide +kernel
theorem d2_19 : decode prog_7_method_3_code 19 = .ok (.invokespecial 45, 3) := by decide +kernel
theorem pd__Ljava_lang_String_Ljava_lang_String_JJJJLjava_util_Optional_Ljava_util_Optional_Ljava_util_Optional__V : parseMethodDescriptor "(Ljava/lang/String;Ljava/lang/String;JJJJLjava/util/Optional;Ljava/util/Optional;Ljava/util/Optional;)V" = some ⟨[(.object "java/lang/String"), (.object "java/lang/String"), .long, .long, .long, .long, (.object "java/util/Optional"), (.object "java/util/Optional"), (.object "java/util/Optional")], none⟩ := by decide +kernel
theorem d2_22 : decode prog_7_method_3_code 22 = .ok (.return_, 1) := by decide +kernel
theorem ef_2 (m : MethodId) (x0 : Addr) (x1 : Addr) (x2 : Addr) (x3 : Int64) (x4 : Int64) (x5 : Int64) (x6 : Int64) : entryFrame m #[(.ref x0), (.ref x1), (.ref x2), (.long x3), (.long x4), (.long x5), (.long x6)] 11 = mkF m 0 #[.val (.ref x0), .val (.ref x1), .val (.ref x2), .val (.long x3), .second, .val (.long x4), .second, .val (.long x5), .second, .val (.long x6), .second] [] := by first | (simp [entryFrame, mkF, argsToLocals, Value.category]; done) | rfl
def Q_rm2 (Z : State) (a1 : Addr) (a2 : Addr) (a3 : Addr) (q4 : Int64) (q5 : Int64) (q6 : Int64) (q7 : Int64) (w9 : Addr) (w13 : Value) (w14 : Value) (w15 : Value) (w16 : Value) (w17 : Value) (w18 : Value) (w19 : Value) (w20 : Value) (w21 : Value) (h0 : Heap) (n0 : Nat) (v : Option Value) (h : Heap) (L : List Loc) : Prop := v = none ∧ Fr n0 L ∧ Old Z n0 h ∧ Keep h0 h [a1] ∧ Exa Z h a1 "com/example/shardwork/shardwork/JobStatus" ∧ Fld Z h a1 "com/example/shardwork/shardwork/JobStatus" "job" "Ljava/lang/String;" (.ref a2) ∧ Fld Z h a1 "com/example/shardwork/shardwork/JobStatus" "kind" "Ljava/lang/String;" (.ref a3) ∧ Fld Z h a1 "com/example/shardwork/shardwork/JobStatus" "pending" "J" (.long q4) ∧ Fld Z h a1 "com/example/shardwork/shardwork/JobStatus" "running" "J" (.long q5) ∧ Fld Z h a1 "com/example/shardwork/shardwork/JobStatus" "done" "J" (.long q6) ∧ Fld Z h a1 "com/example/shardwork/shardwork/JobStatus" "failed" "J" (.long q7) ∧ Fld Z h a1 "com/example/shardwork/shardwork/JobStatus" "cursor" "Ljava/util/Optional;" (.ref w9) ∧ Fld Z h a1 "com/example/shardwork/shardwork/JobStatus" "scan" "Ljava/util/Optional;" (.ref w9) ∧ Fld Z h a1 "com/example/shardwork/shardwork/JobStatus" "mapReduce" "Ljava/util/Optional;" (.ref w9)
set_option maxRecDepth 65536 in
set_option maxHeartbeats 40000000 in
theorem rm2 (l : Launch) (Z : State) (a0 : Array Value) (hw : ∀ d ∈ tables_1, d.before a0 Z = true) (ws : List Jvm.Cond) (a1 : Addr) (a2 : Addr) (a3 : Addr) (q4 : Int64) (q5 : Int64) (q6 : Int64) (q7 : Int64) (w9 : Addr) (w13 : Value) (w14 : Value) (w15 : Value) (w16 : Value) (w17 : Value) (w18 : Value) (w19 : Value) (w20 : Value) (w21 : Value) (h0 : Heap) (n0 : Nat) (O0 : Old Z n0 h0) (S_EMPTY : Sta Z Z.heap "java/util/Optional" "EMPTY" "Ljava/util/Optional;" (.ref w9)) (E_a1 : Exa Z h0 a1 "com/example/shardwork/shardwork/JobStatus") (F_job_a1 : Fld Z h0 a1 "com/example/shardwork/shardwork/JobStatus" "job" "Ljava/lang/String;" w13) (g_a1 : n0 ≤ a1) (F_kind_a1 : Fld Z h0 a1 "com/example/shardwork/shardwork/JobStatus" "kind" "Ljava/lang/String;" w14) (F_pending_a1 : Fld Z h0 a1 "com/example/shardwork/shardwork/JobStatus" "pending" "J" w15) (F_running_a1 : Fld Z h0 a1 "com/example/shardwork/shardwork/JobStatus" "running" "J" w16) (F_done_a1 : Fld Z h0 a1 "com/example/shardwork/shardwork/JobStatus" "done" "J" w17) (F_failed_a1 : Fld Z h0 a1 "com/example/shardwork/shardwork/JobStatus" "failed" "J" w18) (F_cursor_a1 : Fld Z h0 a1 "com/example/shardwork/shardwork/JobStatus" "cursor" "Ljava/util/Optional;" w19) (F_scan_a1 : Fld Z h0 a1 "com/example/shardwork/shardwork/JobStatus" "scan" "Ljava/util/Optional;" w20) (F_mapReduce_a1 : Fld Z h0 a1 "com/example/shardwork/shardwork/JobStatus" "mapReduce" "Ljava/util/Optional;" w21) :
    MetFree l (⟨"com/example/shardwork/shardwork/JobStatus", "<init>", "(Ljava/lang/String;Ljava/lang/String;JJJJ)V"⟩ : MethodName) (head1 (Jvm.Cond.code (⟨"com/example/shardwork/shardwork/JobStatus", "<init>", "(Ljava/lang/String;Ljava/lang/String;JJJJ)V"⟩ : MethodName) prog_7_method_3_code 11 none :: ws) ({ frames := 3, cells := 0, slots := 0, locals := 49 } : Room)) (fun a U => a = #[(.ref a1), (.ref a2), (.ref a3), (.long q4), (.long q5), (.long q6), (.long q7)] ∧ Z.Warmed39 U.vm ∧ U.heap = h0) (fun _ _ _ _ _ => True) (fun _ U o U' => ∃ v L, o = .returned v ∧ Q_rm2 Z a1 a2 a3 q4 q5 q6 q7 w9 w13 w14 w15 w16 w17 w18 w19 w20 w21 h0 n0 v U'.heap L ∧ FrameEnd U o U' L ({ frames := 3, cells := 0, slots := 0, locals := 49 } : Room).cells ({ frames := 3, cells := 0, slots := 0, locals := 49 } : Room).slots) := by
  refine MetFree.of_bodySF (plainFor_of_name pn_com_example_shardwork_shardwork_JobStatus) hisR ?_
  intro p e s m args below meth c s₁ Bd hml0 hP hK
  obtain ⟨rfl, hZ, hh⟩ := hP
  have hx := Bd.exec
  have hby := Bd.bytes
  have hml : c.maxLocals = 11 := hml0
  have hown : s.vm.findClass "com/example/shardwork/shardwork/JobStatus" = some m.cls := findClass_of_methodNamed Bd.named
  have hnm := (name_of_methodNamed Bd.named Bd.method).1
  have X0 : Stand p l e ({ frames := 3, cells := 0, slots := 0, locals := 49 } : Room) s m #[(.ref a1), (.ref a2), (.ref a3), (.long q4), (.long q5), (.long q6), (.long q7)] below meth c s₁ [] 0 0 := Stand.of_body Bd
  have e0 : s₁.heap = h0 := by rw [← hh, Bd.state]; rfl
  have N0 := Fr.nil n0
  have pre0 : ∀ t, Steps p.tables e below (s₁.setTop (mkF m 0 #[.val (.ref a1), .val (.ref a2), .val (.ref a3), .val (.long q4), .second, .val (.long q5), .second, .val (.long q6), .second, .val (.long q7), .second] [])) t → Steps p.tables e below (s₁.setTop (entryFrame m #[(.ref a1), (.ref a2), (.ref a3), (.long q4), (.long q5), (.long q6), (.long q7)] 11)) t := fun t k => castTop (ef_2 m a1 a2 a3 q4 q5 q6 q7) k
  obtain ⟨_, _, ⟨T8, L8, k8, n8⟩, -, X8, ⟨Lc8, hQ8, l8, y8, z8⟩, st8⟩ := Jvm.LawKit.callS X0 hx (y := (⟨"java/util/Optional", "empty", "()Ljava/util/Optional;"⟩ : MethodName)) hown (mvT hZ (hw _ (List.mem_of_getElem? (i := 19) rfl))) (mvT hZ (hw _ (List.mem_of_getElem? (i := 20) rfl))) (mvT hZ (hw _ (List.mem_of_getElem? (i := 21) rfl))) (mvT hZ (hw _ (List.mem_of_getElem? (i := 22) rfl))) (by decide) (backOf (W := 11) (rm3 l Z a0 hw [] w9 h0 n0 O0 S_EMPTY) hZ (hw _ (List.mem_of_getElem? (i := 22) rfl)) (hw _ (List.mem_of_getElem? (i := 21) rfl)) (by decide) (by decide)) (g := (mkF m 10 #[.val (.ref a1), .val (.ref a2), .val (.ref a3), .val (.long q4), .second, .val (.long q5), .second, .val (.long q6), .second, .val (.long q7), .second] [(.long q7), (.long q6), (.long q5), (.long q4), (.ref a3), (.ref a2), (.ref a1)])) rfl (by rw [hml]; rfl) (argsL := []) (rest := [(.long q7), (.long q6), (.long q5), (.long q4), (.ref a3), (.ref a2), (.ref a1)]) (lenOf pd___Ljava_util_Optional_ rfl) rfl (by show 2 * 0 + _ ≤ _; exact Nat.le_of_eq rfl) (hb hby d2_10) (fun _ _ => ⟨rfl, e0, (by decide : 0 + 0 ≤ _), (by decide : 0 + 0 ≤ _)⟩)
  dsimp only [Pt.U, Pt.locs, Pt.cells, Pt.slots] at X8 l8 y8 z8 st8 hQ8
  subst l8 y8 z8
  obtain ⟨rfl, Nq8, e8⟩ := hQ8
  have N8 := Fr.app N0 Nq8
  obtain ⟨_, _, ⟨T10, L10, k10, n10⟩, -, X10, ⟨Lc10, hQ10, l10, y10, z10⟩, st10⟩ := Jvm.LawKit.callS X8 hx (y := (⟨"java/util/Optional", "empty", "()Ljava/util/Optional;"⟩ : MethodName)) hown (mvT hZ (hw _ (List.mem_of_getElem? (i := 19) rfl))) (mvT hZ (hw _ (List.mem_of_getElem? (i := 20) rfl))) (mvT hZ (hw _ (List.mem_of_getElem? (i := 21) rfl))) (mvT hZ (hw _ (List.mem_of_getElem? (i := 22) rfl))) (by decide) (backOf (W := 12) (rm3 l Z a0 hw [] w9 h0 n0 O0 S_EMPTY) hZ (hw _ (List.mem_of_getElem? (i := 22) rfl)) (hw _ (List.mem_of_getElem? (i := 21) rfl)) (by decide) (by decide)) (g := (mkF m 13 #[.val (.ref a1), .val (.ref a2), .val (.ref a3), .val (.long q4), .second, .val (.long q5), .second, .val (.long q6), .second, .val (.long q7), .second] [(.ref w9), (.long q7), (.long q6), (.long q5), (.long q4), (.ref a3), (.ref a2), (.ref a1)])) rfl (by rw [hml]; rfl) (argsL := []) (rest := [(.ref w9), (.long q7), (.long q6), (.long q5), (.long q4), (.ref a3), (.ref a2), (.ref a1)]) (lenOf pd___Ljava_util_Optional_ rfl) rfl (by show 2 * 0 + _ ≤ _; exact Nat.le_of_eq rfl) (hb hby d2_13) (fun _ _ => ⟨rfl, e8, (by decide : 0 + 0 ≤ _), (by decide : 0 + 0 ≤ _)⟩)
  dsimp only [Pt.U, Pt.locs, Pt.cells, Pt.slots] at X10 l10 y10 z10 st10 hQ10
  subst l10 y10 z10
  obtain ⟨rfl, Nq10, e10⟩ := hQ10
  have N10 := Fr.app N8 Nq10
  obtain ⟨_, _, ⟨T11, L11, k11, n11⟩, -, X11, ⟨Lc11, hQ11, l11, y11, z11⟩, st11⟩ := Jvm.LawKit.callS X10 hx (y := (⟨"java/util/Optional", "empty", "()Ljava/util/Optional;"⟩ : MethodName)) hown (mvT hZ (hw _ (List.mem_of_getElem? (i := 19) rfl))) (mvT hZ (hw _ (List.mem_of_getElem? (i := 20) rfl))) (mvT hZ (hw _ (List.mem_of_getElem? (i := 21) rfl))) (mvT hZ (hw _ (List.mem_of_getElem? (i := 22) rfl))) (by decide) (backOf (W := 13) (rm3 l Z a0 hw [] w9 h0 n0 O0 S_EMPTY) hZ (hw _ (List.mem_of_getElem? (i := 22) rfl)) (hw _ (List.mem_of_getElem? (i := 21) rfl)) (by decide) (by decide)) (g := (mkF m 16 #[.val (.ref a1), .val (.ref a2), .val (.ref a3), .val (.long q4), .second, .val (.long q5), .second, .val (.long q6), .second, .val (.long q7), .second] [(.ref w9), (.ref w9), (.long q7), (.long q6), (.long q5), (.long q4), (.ref a3), (.ref a2), (.ref a1)])) rfl (by rw [hml]; rfl) (argsL := []) (rest := [(.ref w9), (.ref w9), (.long q7), (.long q6), (.long q5), (.long q4), (.ref a3), (.ref a2), (.ref a1)]) (lenOf pd___Ljava_util_Optional_ rfl) rfl (by show 2 * 0 + _ ≤ _; exact Nat.le_of_eq rfl) (hb hby d2_16) (fun _ _ => ⟨rfl, e10, (by decide : 0 + 0 ≤ _), (by decide : 0 + 0 ≤ _)⟩)
  dsimp only [Pt.U, Pt.locs, Pt.cells, Pt.slots] at X11 l11 y11 z11 st11 hQ11
  subst l11 y11 z11
  obtain ⟨rfl, Nq11, e11⟩ := hQ11
  have N11 := Fr.app N10 Nq11
  obtain ⟨_, _, ⟨T12, L12, k12, n12⟩, -, X12, ⟨Lc12, hQ12, l12, y12, z12⟩, st12⟩ := X11.specialBack hx (y := (⟨"com/example/shardwork/shardwork/JobStatus", "<init>", "(Ljava/lang/String;Ljava/lang/String;JJJJLjava/util/Optional;Ljava/util/Optional;Ljava/util/Optional;)V"⟩ : MethodName)) rfl hown (mvT hZ (hw _ (List.mem_of_getElem? (i := 24) rfl))) (mvT hZ (hw _ (List.mem_of_getElem? (i := 25) rfl))) (mvT hZ (hw _ (List.mem_of_getElem? (i := 26) rfl))) (by decide) (backOf (W := 0) (rm4 l Z a0 hw [] a1 a2 a3 q4 q5 q6 q7 w9 w9 w9 w13 w14 w15 w16 w17 w18 w19 w20 w21 h0 n0 O0 E_a1 F_job_a1 g_a1 F_kind_a1 F_pending_a1 F_running_a1 F_done_a1 F_failed_a1 F_cursor_a1 F_scan_a1 F_mapReduce_a1) hZ (hw _ (List.mem_of_getElem? (i := 26) rfl)) (hw _ (List.mem_of_getElem? (i := 14) rfl)) (by decide) (by decide)) (g := (mkF m 19 #[.val (.ref a1), .val (.ref a2), .val (.ref a3), .val (.long q4), .second, .val (.long q5), .second, .val (.long q6), .second, .val (.long q7), .second] [(.ref w9), (.ref w9), (.ref w9), (.long q7), (.long q6), (.long q5), (.long q4), (.ref a3), (.ref a2), (.ref a1)])) rfl (by rw [hml]; rfl) (Steps.refl _) (a := a1) (argsL := [(.ref a2), (.ref a3), (.long q4), (.long q5), (.long q6), (.long q7), (.ref w9), (.ref w9), (.ref w9)]) (rest := []) (lenOf pd__Ljava_lang_String_Ljava_lang_String_JJJJLjava_util_Optional_Ljava_util_Optional_Ljava_util_Optional__V rfl) rfl (by show 2 * 0 + _ ≤ _; exact Nat.le_of_eq rfl) (hb hby d2_19) (fun _ _ => ⟨rfl, e11, (by decide : 0 + 0 ≤ _), (by decide : 0 + 0 ≤ _)⟩)
  dsimp only [Pt.U, Pt.locs, Pt.cells, Pt.slots] at X12 l12 y12 z12 st12 hQ12
  subst l12 y12 z12
  obtain ⟨rfl, Nq12, O12, Kc12, q12_0, q12_1, q12_2, q12_3, q12_4, q12_5, q12_6, q12_7, q12_8, q12_9⟩ := hQ12
  have N12 := Fr.app N11 Nq12
  have K12 : Keep h0 T12.heap [a1] := (Keep.refl h0 [a1]).trans Kc12 (allS (Or.inl (List.mem_of_getElem? (i := 0) rfl)) all0)
  obtain ⟨fs, hr, hrun, hended, hW, hsame⟩ := X12.leave (v := none) (fun _ => rfl)
  refine ⟨_, _, pre0 _ ?_, hrun, hended, _, _, rfl, ?_, ⟨_, rfl⟩, hW, hsame.mono (by decide) (by decide)⟩
  · show Steps p.tables e below (s₁.setTop (mkF m 0 #[.val (.ref a1), .val (.ref a2), .val (.ref a3), .val (.long q4), .second, .val (.long q5), .second, .val (.long q6), .second, .val (.long q7), .second] [])) _
    refine XS.aloadN X0.here hx rfl (hb hby d2_0) rfl rfl ?_
    show Steps p.tables e below (s₁.setTop (mkF m 1 #[.val (.ref a1), .val (.ref a2), .val (.ref a3), .val (.long q4), .second, .val (.long q5), .second, .val (.long q6), .second, .val (.long q7), .second] [(.ref a1)])) _
    refine XS.aloadN X0.here hx rfl (hb hby d2_1) rfl rfl ?_
    show Steps p.tables e below (s₁.setTop (mkF m 2 #[.val (.ref a1), .val (.ref a2), .val (.ref a3), .val (.long q4), .second, .val (.long q5), .second, .val (.long q6), .second, .val (.long q7), .second] [(.ref a2), (.ref a1)])) _
    refine XS.aloadN X0.here hx rfl (hb hby d2_2) rfl rfl ?_
    show Steps p.tables e below (s₁.setTop (mkF m 3 #[.val (.ref a1), .val (.ref a2), .val (.ref a3), .val (.long q4), .second, .val (.long q5), .second, .val (.long q6), .second, .val (.long q7), .second] [(.ref a3), (.ref a2), (.ref a1)])) _
    refine XS.lloadN X0.here hx rfl (hb hby d2_3) rfl ?_
    show Steps p.tables e below (s₁.setTop (mkF m 4 #[.val (.ref a1), .val (.ref a2), .val (.ref a3), .val (.long q4), .second, .val (.long q5), .second, .val (.long q6), .second, .val (.long q7), .second] [(.long q4), (.ref a3), (.ref a2), (.ref a1)])) _
    refine XS.lload X0.here hx rfl (hb hby d2_4) rfl ?_
    show Steps p.tables e below (s₁.setTop (mkF m 6 #[.val (.ref a1), .val (.ref a2), .val (.ref a3), .val (.long q4), .second, .val (.long q5), .second, .val (.long q6), .second, .val (.long q7), .second] [(.long q5), (.long q4), (.ref a3), (.ref a2), (.ref a1)])) _
    refine XS.lload X0.here hx rfl (hb hby d2_6) rfl ?_
    show Steps p.tables e below (s₁.setTop (mkF m 8 #[.val (.ref a1), .val (.ref a2), .val (.ref a3), .val (.long q4), .second, .val (.long q5), .second, .val (.long q6), .second, .val (.long q7), .second] [(.long q6), (.long q5), (.long q4), (.ref a3), (.ref a2), (.ref a1)])) _
    refine XS.lload X0.here hx rfl (hb hby d2_8) rfl ?_
    show Steps p.tables e below (s₁.setTop (mkF m 10 #[.val (.ref a1), .val (.ref a2), .val (.ref a3), .val (.long q4), .second, .val (.long q5), .second, .val (.long q6), .second, .val (.long q7), .second] [(.long q7), (.long q6), (.long q5), (.long q4), (.ref a3), (.ref a2), (.ref a1)])) _
    refine st8 _ ?_
    show Steps p.tables e below (T8.setTop (mkF m 13 #[.val (.ref a1), .val (.ref a2), .val (.ref a3), .val (.long q4), .second, .val (.long q5), .second, .val (.long q6), .second, .val (.long q7), .second] [(.ref w9), (.long q7), (.long q6), (.long q5), (.long q4), (.ref a3), (.ref a2), (.ref a1)])) _
    refine st10 _ ?_
    show Steps p.tables e below (T10.setTop (mkF m 16 #[.val (.ref a1), .val (.ref a2), .val (.ref a3), .val (.long q4), .second, .val (.long q5), .second, .val (.long q6), .second, .val (.long q7), .second] [(.ref w9), (.ref w9), (.long q7), (.long q6), (.long q5), (.long q4), (.ref a3), (.ref a2), (.ref a1)])) _
    refine st11 _ ?_
    show Steps p.tables e below (T11.setTop (mkF m 19 #[.val (.ref a1), .val (.ref a2), .val (.ref a3), .val (.long q4), .second, .val (.long q5), .second, .val (.long q6), .second, .val (.long q7), .second] [(.ref w9), (.ref w9), (.ref w9), (.long q7), (.long q6), (.long q5), (.long q4), (.ref a3), (.ref a2), (.ref a1)])) _
    refine st12.trans ?_
    show Steps p.tables e below (T12.setTop (mkF m 22 #[.val (.ref a1), .val (.ref a2), .val (.ref a3), .val (.long q4), .second, .val (.long q5), .second, .val (.long q6), .second, .val (.long q7), .second] [])) _
    exact X12.returnOut hx Bd.returns (hb hby d2_22) hr
  · show Q_rm2 Z a1 a2 a3 q4 q5 q6 q7 w9 w13 w14 w15 w16 w17 w18 w19 w20 w21 h0 n0 _ T12.heap _
    exact ⟨rfl, N12, O12, K12, q12_0, q12_1, q12_2, q12_3, q12_4, q12_5, q12_6, q12_7, q12_8, q12_9⟩
theorem d7_0 : decode prog_7_method_5_code 0 = .ok (.aload_n 0, 1) := by decide +kernel
theorem d7_1 : decode prog_7_method_5_code 1 = .ok (.getfield 16, 3) := by decide +kernel
theorem d7_4 : decode prog_7_method_5_code 4 = .ok (.aload_n 0, 1) := by decide +kernel
theorem d7_5 : decode prog_7_method_5_code 5 = .ok (.getfield 20, 3) := by decide +kernel
theorem d7_8 : decode prog_7_method_5_code 8 = .ok (.ladd, 1) := by decide +kernel
theorem d7_9 : decode prog_7_method_5_code 9 = .ok (.aload_n 0, 1) := by decide +kernel
theorem d7_10 : decode prog_7_method_5_code 10 = .ok (.getfield 23, 3) := by decide +kernel
theorem d7_13 : decode prog_7_method_5_code 13 = .ok (.ladd, 1) := by decide +kernel
theorem d7_14 : decode prog_7_method_5_code 14 = .ok (.aload_n 0, 1) := by decide +kernel
theorem d7_15 : decode prog_7_method_5_code 15 = .ok (.getfield 26, 3) := by decide +kernel
theorem d7_18 : decode prog_7_method_5_code 18 = .ok (.ladd, 1) := by decide +kernel
theorem d7_19 : decode prog_7_method_5_code 19 = .ok (.lreturn, 1) := by decide +kernel
theorem ef_7 (m : MethodId) (x0 : Addr) : entryFrame m #[(.ref x0)] 1 = mkF m 0 #[.val (.ref x0)] [] := by first | (simp [entryFrame, mkF, argsToLocals, Value.category]; done) | rfl
set_option maxRecDepth 65536 in
set_option maxHeartbeats 40000000 in
theorem rm7 (l : Launch) (Z : State) (a0 : Array Value) (hw : ∀ d ∈ tables_1, d.before a0 Z = true) (ws : List Jvm.Cond) (a1 : Addr) (w2 : Int64) (w4 : Int64) (w6 : Int64) (w8 : Int64) (h0 : Heap) (n0 : Nat) (O0 : Old Z n0 h0) (F_pending_a1 : Fld Z h0 a1 "com/example/shardwork/shardwork/JobStatus" "pending" "J" (.long w2)) (F_running_a1 : Fld Z h0 a1 "com/example/shardwork/shardwork/JobStatus" "running" "J" (.long w4)) (F_done_a1 : Fld Z h0 a1 "com/example/shardwork/shardwork/JobStatus" "done" "J" (.long w6)) (F_failed_a1 : Fld Z h0 a1 "com/example/shardwork/shardwork/JobStatus" "failed" "J" (.long w8)) :
    MetFree l (⟨"com/example/shardwork/shardwork/JobStatus", "units", "()J"⟩ : MethodName) (head1 (Jvm.Cond.code (⟨"com/example/shardwork/shardwork/JobStatus", "units", "()J"⟩ : MethodName) prog_7_method_5_code 1 (some .long) :: ws) ({ frames := 0, cells := 0, slots := 0, locals := 0 } : Room)) (fun a U => a = #[(.ref a1)] ∧ Z.Warmed39 U.vm ∧ U.heap = h0) (fun _ _ _ _ _ => True) (fun _ U o U' => ∃ v L, o = .returned v ∧ QP (some (.long (((w2 + w4) + w6) + w8))) h0 n0 v U'.heap L ∧ FrameEnd U o U' L ({ frames := 0, cells := 0, slots := 0, locals := 0 } : Room).cells ({ frames := 0, cells := 0, slots := 0, locals := 0 } : Room).slots) := by
  refine MetFree.of_bodySF (plainFor_of_name pn_com_example_shardwork_shardwork_JobStatus) hisR ?_
  intro p e s m args below meth c s₁ Bd hml0 hP hK
  obtain ⟨rfl, hZ, hh⟩ := hP
  have hx := Bd.exec
  have hby := Bd.bytes
  have hml : c.maxLocals = 1 := hml0
  have hown : s.vm.findClass "com/example/shardwork/shardwork/JobStatus" = some m.cls := findClass_of_methodNamed Bd.named
  have hnm := (name_of_methodNamed Bd.named Bd.method).1
  have X0 : Stand p l e ({ frames := 0, cells := 0, slots := 0, locals := 0 } : Room) s m #[(.ref a1)] below meth c s₁ [] 0 0 := Stand.of_body Bd
  have e0 : s₁.heap = h0 := by rw [← hh, Bd.state]; rfl
  have N0 := Fr.nil n0
  have pre0 : ∀ t, Steps p.tables e below (s₁.setTop (mkF m 0 #[.val (.ref a1)] [])) t → Steps p.tables e below (s₁.setTop (entryFrame m #[(.ref a1)] 1)) t := fun t k => castTop (ef_7 m a1) k
  obtain ⟨T3, X3, e3, st3⟩ := getF X0 hx hZ hown (host := "") (Or.inl (hw _ (List.mem_of_getElem? (i := 39) rfl))) Via.refl e0 F_pending_a1 (g := (mkF m 1 #[.val (.ref a1)] [(.ref a1)])) rfl rfl (hb hby d7_1)
  obtain ⟨T5, X5, e5, st5⟩ := getF X3 hx hZ hown (host := "") (Or.inl (hw _ (List.mem_of_getElem? (i := 41) rfl))) Via.refl e3 F_running_a1 (g := (mkF m 5 #[.val (.ref a1)] [(.ref a1), (.long w2)])) rfl rfl (hb hby d7_5)
  obtain ⟨T7, X7, e7, st7⟩ := getF X5 hx hZ hown (host := "") (Or.inl (hw _ (List.mem_of_getElem? (i := 43) rfl))) Via.refl e5 F_done_a1 (g := (mkF m 10 #[.val (.ref a1)] [(.ref a1), (.long (w2 + w4))])) rfl rfl (hb hby d7_10)
  obtain ⟨T9, X9, e9, st9⟩ := getF X7 hx hZ hown (host := "") (Or.inl (hw _ (List.mem_of_getElem? (i := 45) rfl))) Via.refl e7 F_failed_a1 (g := (mkF m 15 #[.val (.ref a1)] [(.ref a1), (.long ((w2 + w4) + w6))])) rfl rfl (hb hby d7_15)
  obtain ⟨fs, hr, hrun, hended, hW, hsame⟩ := X9.leave (v := some (.long (((w2 + w4) + w6) + w8))) (fun h => by rw [Bd.returns] at h; cases h)
  refine ⟨_, _, pre0 _ ?_, hrun, hended, _, _, rfl, ?_, ⟨_, rfl⟩, hW, hsame.mono (by decide) (by decide)⟩
  · show Steps p.tables e below (s₁.setTop (mkF m 0 #[.val (.ref a1)] [])) _
    refine XS.aloadN X0.here hx rfl (hb hby d7_0) rfl rfl ?_
    show Steps p.tables e below (s₁.setTop (mkF m 1 #[.val (.ref a1)] [(.ref a1)])) _
    refine st3 _ ?_
    show Steps p.tables e below (T3.setTop (mkF m 4 #[.val (.ref a1)] [(.long w2)])) _
    refine XS.aloadN X3.here hx rfl (hb hby d7_4) rfl rfl ?_
    show Steps p.tables e below (T3.setTop (mkF m 5 #[.val (.ref a1)] [(.ref a1), (.long w2)])) _
    refine st5 _ ?_
    show Steps p.tables e below (T5.setTop (mkF m 8 #[.val (.ref a1)] [(.long w4), (.long w2)])) _
    refine XS.ladd X5.here hx rfl (hb hby d7_8) rfl ?_
    show Steps p.tables e below (T5.setTop (mkF m 9 #[.val (.ref a1)] [(.long (w2 + w4))])) _
    refine XS.aloadN X5.here hx rfl (hb hby d7_9) rfl rfl ?_
    show Steps p.tables e below (T5.setTop (mkF m 10 #[.val (.ref a1)] [(.ref a1), (.long (w2 + w4))])) _
    refine st7 _ ?_
    show Steps p.tables e below (T7.setTop (mkF m 13 #[.val (.ref a1)] [(.long w6), (.long (w2 + w4))])) _
    refine XS.ladd X7.here hx rfl (hb hby d7_13) rfl ?_
    show Steps p.tables e below (T7.setTop (mkF m 14 #[.val (.ref a1)] [(.long ((w2 + w4) + w6))])) _
    refine XS.aloadN X7.here hx rfl (hb hby d7_14) rfl rfl ?_
    show Steps p.tables e below (T7.setTop (mkF m 15 #[.val (.ref a1)] [(.ref a1), (.long ((w2 + w4) + w6))])) _
    refine st9 _ ?_
    show Steps p.tables e below (T9.setTop (mkF m 18 #[.val (.ref a1)] [(.long w8), (.long ((w2 + w4) + w6))])) _
    refine XS.ladd X9.here hx rfl (hb hby d7_18) rfl ?_
    show Steps p.tables e below (T9.setTop (mkF m 19 #[.val (.ref a1)] [(.long (((w2 + w4) + w6) + w8))])) _
    jvm_step X9.here [X9.here.top, hx, (hb hby d7_19), X9.method', Bd.returns, narrow]
    first | (intro acts; rw [hr _ acts rfl rfl rfl]) | rw [hr _ _ rfl rfl rfl]
    exact Steps.refl _
  · show QP (some (.long (((w2 + w4) + w6) + w8))) h0 n0 _ T9.heap _
    rw [e9]
    exact ⟨rfl, N0, rfl⟩
theorem pd__I_Ljava_lang_String_ : parseMethodDescriptor "(I)Ljava/lang/String;" = some ⟨[.int], some (.object "java/lang/String")⟩ := by decide +kernel
theorem pd__Ljava_lang_String_Ljava_lang_String_JJJJ_V : parseMethodDescriptor "(Ljava/lang/String;Ljava/lang/String;JJJJ)V" = some ⟨[(.object "java/lang/String"), (.object "java/lang/String"), .long, .long, .long, .long], none⟩ := by decide +kernel
theorem pd___J : parseMethodDescriptor "()J" = some ⟨[], some .long⟩ := by decide +kernel
theorem ef_0 (m : MethodId) (x0 : Int64) (x1 : Int64) (x2 : Int64) (x3 : Int64) (x4 : Int32) : entryFrame m #[(.long x0), (.long x1), (.long x2), (.long x3), (.int x4)] maxLocals = mkF m 0 #[.val (.long x0), .second, .val (.long x1), .second, .val (.long x2), .second, .val (.long x3), .second, .val (.int x4), .unset, .unset, .unset, .unset, .unset, .unset, .unset, .unset, .unset, .unset, .unset, .unset, .unset, .unset, .unset, .unset] [] := by first | (simp [entryFrame, mkF, argsToLocals, Value.category, maxLocals]; done) | rfl
def QL (n0 : Nat) (v : Option Value) (h : Heap) (L : List Loc) : Prop := v = some (.int (1 : Int32)) ∧ Fr n0 L
set_option maxRecDepth 65536 in
set_option maxHeartbeats 40000000 in
theorem rm0 (l : Launch) (Z : State) (a0 : Array Value) (hw : ∀ d ∈ tables_1, d.before a0 Z = true) (ws : List Jvm.Cond) (q1 : Int64) (q2 : Int64) (q3 : Int64) (q4 : Int64) (p5 : Int32) (w5 : Addr) (h0 : Heap) (n0 : Nat) (O0 : Old Z n0 h0) (S_EMPTY : Sta Z Z.heap "java/util/Optional" "EMPTY" "Ljava/util/Optional;" (.ref w5)) (hc135 : (lcmpW (((q1 + (0 : Int64)) + (0 : Int64)) + (0 : Int64)) q1) = (0 : Int32)) (hc142 : (lcmpW ((((0 : Int64) + q2) + (0 : Int64)) + (0 : Int64)) q2) = (0 : Int32)) (hc150 : (lcmpW ((((0 : Int64) + (0 : Int64)) + q3) + (0 : Int64)) q3) = (0 : Int32)) (hc158 : (lcmpW ((((0 : Int64) + (0 : Int64)) + (0 : Int64)) + q4) q4) = (0 : Int32)) (hc175 : (lcmpW (((q1 + q2) + q3) + q4) ((((((q1 + (0 : Int64)) + (0 : Int64)) + (0 : Int64)) + ((((0 : Int64) + q2) + (0 : Int64)) + (0 : Int64))) + ((((0 : Int64) + (0 : Int64)) + q3) + (0 : Int64))) + ((((0 : Int64) + (0 : Int64)) + (0 : Int64)) + q4))) = (0 : Int32)) :
    MetFree l x (head1 (Jvm.Cond.code x code maxLocals ret :: ws) room_1) (fun a U => a = #[(.long q1), (.long q2), (.long q3), (.long q4), (.int p5)] ∧ Z.Warmed39 U.vm ∧ U.heap = h0) (fun _ _ _ _ _ => True) (fun _ U o U' => ∃ v L, o = .returned v ∧ QL n0 v U'.heap L ∧ ReturnedEndW U o U' L room_1.cells room_1.slots) := by
  refine MetFree.of_bodySF (plainFor_of_name pn_com_example_shardwork_shardwork_JobStatusUnitsPinLaw) hisR ?_
  intro p e s m args below meth c s₁ Bd hml0 hP hK
  obtain ⟨rfl, hZ, hh⟩ := hP
  have hx := Bd.exec
  have hby := Bd.bytes
  have hml : c.maxLocals = 25 := hml0
  have hown : s.vm.findClass "com/example/shardwork/shardwork/JobStatusUnitsPinLaw" = some m.cls := findClass_of_methodNamed Bd.named
  have hnm := (name_of_methodNamed Bd.named Bd.method).1
  have X0 : Stand p l e room_1 s m #[(.long q1), (.long q2), (.long q3), (.long q4), (.int p5)] below meth c s₁ [] 0 0 := Stand.of_body Bd
  have e0 : s₁.heap = h0 := by rw [← hh, Bd.state]; rfl
  have N0 := Fr.nil n0
  have pre0 : ∀ t, Steps p.tables e below (s₁.setTop (mkF m 0 #[.val (.long q1), .second, .val (.long q2), .second, .val (.long q3), .second, .val (.long q4), .second, .val (.int p5), .unset, .unset, .unset, .unset, .unset, .unset, .unset, .unset, .unset, .unset, .unset, .unset, .unset, .unset, .unset, .unset] [])) t → Steps p.tables e below (s₁.setTop (entryFrame m #[(.long q1), (.long q2), (.long q3), (.long q4), (.int p5)] maxLocals)) t := fun t k => castTop (ef_0 m q1 q2 q3 q4 p5) k
  have own_wS := own_wS0 hw
  have hS0 : s.Since s.vm 0 := (State.WarmedH.refl s).since 0
  obtain ⟨_, _, ⟨T1, L1, k1, n1⟩, -, X1, hSn1, hgr1, ⟨Lc1, hQ1, l1, y1, z1⟩, st1⟩ := callSS (show Stand p l e _ (s.setVm s.vm) m _ below meth c _ _ _ _ from X0) hx (y := (⟨"com/example/shardwork/shardwork/JobStatusUnitsPinLaw", "kindOf", "(I)Ljava/lang/String;"⟩ : MethodName)) hown (mvT hZ (hw _ (List.mem_of_getElem? (i := 0) rfl))) (mvT hZ (hw _ (List.mem_of_getElem? (i := 1) rfl))) (mvT hZ (hw _ (List.mem_of_getElem? (i := 2) rfl))) (mvT hZ (hw _ (List.mem_of_getElem? (i := 3) rfl))) (by decide) (backOfS (W := 0) (rm1 l Z a0 hw [] p5 h0 n0 O0) hZ (hw _ (List.mem_of_getElem? (i := 3) rfl)) (hw _ (List.mem_of_getElem? (i := 2) rfl)) (by decide) (by decide)) (g := (mkF m 2 #[.val (.long q1), .second, .val (.long q2), .second, .val (.long q3), .second, .val (.long q4), .second, .val (.int p5), .unset, .unset, .unset, .unset, .unset, .unset, .unset, .unset, .unset, .unset, .unset, .unset, .unset, .unset, .unset, .unset] [(.int p5)])) rfl (by rw [hml]; rfl) (argsL := [(.int p5)]) (rest := []) (lenOf pd__I_Ljava_lang_String_ rfl) rfl (by show 2 * 0 + _ ≤ _; exact Nat.le_of_eq rfl) (hb hby at_2) (fun _ _ => ⟨rfl, e0, (by decide : 0 + 2 ≤ _), (by decide : 0 + 40 ≤ _)⟩)
  dsimp only [Pt.U, Pt.locs, Pt.cells, Pt.slots] at X1 l1 y1 z1 st1 hQ1 hSn1 hgr1
  subst l1 y1 z1
  obtain ⟨X1, hS1, hZ1, hown1⟩ := rebS hS0 (Nat.zero_le _) X1 hSn1 hgr1 hZ hown
  obtain ⟨r_1, rfl, Nq1, O1, Kc1⟩ := hQ1
  have N1 := Fr.app N0 Nq1
  have K1 : Keep h0 T1.heap [] := (Keep.refl h0 []).trans Kc1 all0
  obtain ⟨T2, h2, X2, e2, E2, A2, D2, U2, st2⟩ := newO X1 hx hZ1 hown1 (hw _ (List.mem_of_getElem? (i := 12) rfl)) (hw _ (List.mem_of_getElem? (i := 13) rfl)) (hw _ (List.mem_of_getElem? (i := 14) rfl)) rfl (g := (mkF m 7 #[.val (.long q1), .second, .val (.long q2), .second, .val (.long q3), .second, .val (.long q4), .second, .val (.int p5), .val (.ref r_1), .unset, .unset, .unset, .unset, .unset, .unset, .unset, .unset, .unset, .unset, .unset, .unset, .unset, .unset, .unset] [])) rfl (hb hby at_7) (by decide) (by decide)
  obtain ⟨b2, g2⟩ : ∃ z, z = T1.heap.size := ⟨_, rfl⟩
  rw [← g2] at A2 D2 st2
  have g_b2 : n0 ≤ b2 := Nat.le_trans (Nat.le_of_eq O1.1.symm) (Nat.le_trans O1.2.1 (Nat.le_of_eq g2.symm))
  have sz_b2 : h0.size ≤ b2 := Nat.le_trans K1.1 (Nat.le_of_eq g2.symm)
  have O2 := O1.ext E2
  have K2 : Keep h0 h2 [] := K1.ext E2
  have F_job_b2 : Fld Z h2 b2 "com/example/shardwork/shardwork/JobStatus" "job" "Ljava/lang/String;" .null := D2 (Or.inr (hw _ (List.mem_of_getElem? (i := 36) rfl))) (ty := (.object "java/lang/String")) (by decide)
  have F_kind_b2 : Fld Z h2 b2 "com/example/shardwork/shardwork/JobStatus" "kind" "Ljava/lang/String;" .null := D2 (Or.inr (hw _ (List.mem_of_getElem? (i := 38) rfl))) (ty := (.object "java/lang/String")) (by decide)
  have F_pending_b2 : Fld Z h2 b2 "com/example/shardwork/shardwork/JobStatus" "pending" "J" (.long (0 : Int64)) := D2 (Or.inr (hw _ (List.mem_of_getElem? (i := 40) rfl))) (ty := .long) (by decide)
  have F_running_b2 : Fld Z h2 b2 "com/example/shardwork/shardwork/JobStatus" "running" "J" (.long (0 : Int64)) := D2 (Or.inr (hw _ (List.mem_of_getElem? (i := 42) rfl))) (ty := .long) (by decide)
  have F_done_b2 : Fld Z h2 b2 "com/example/shardwork/shardwork/JobStatus" "done" "J" (.long (0 : Int64)) := D2 (Or.inr (hw _ (List.mem_of_getElem? (i := 44) rfl))) (ty := .long) (by decide)
  have F_failed_b2 : Fld Z h2 b2 "com/example/shardwork/shardwork/JobStatus" "failed" "J" (.long (0 : Int64)) := D2 (Or.inr (hw _ (List.mem_of_getElem? (i := 46) rfl))) (ty := .long) (by decide)
  have F_cursor_b2 : Fld Z h2 b2 "com/example/shardwork/shardwork/JobStatus" "cursor" "Ljava/util/Optional;" .null := D2 (Or.inr (hw _ (List.mem_of_getElem? (i := 48) rfl))) (ty := (.object "java/util/Optional")) (by decide)
  have F_scan_b2 : Fld Z h2 b2 "com/example/shardwork/shardwork/JobStatus" "scan" "Ljava/util/Optional;" .null := D2 (Or.inr (hw _ (List.mem_of_getElem? (i := 50) rfl))) (ty := (.object "java/util/Optional")) (by decide)
  have F_mapReduce_b2 : Fld Z h2 b2 "com/example/shardwork/shardwork/JobStatus" "mapReduce" "Ljava/util/Optional;" .null := D2 (Or.inr (hw _ (List.mem_of_getElem? (i := 52) rfl))) (ty := (.object "java/util/Optional")) (by decide)
  obtain ⟨lit3, T3, h3, k3, X3, e3, E3, hS3, hk3, hZ3, hown3, st3⟩ := ldcS (s := s) X2 hx hZ1 hown1 (hw _ (List.mem_of_getElem? (i := 15) rfl)) own_wS e2 hS1 (Nat.le_trans (Nat.le_refl _) E2.1) (g := (mkF m 11 #[.val (.long q1), .second, .val (.long q2), .second, .val (.long q3), .second, .val (.long q4), .second, .val (.int p5), .val (.ref r_1), .unset, .unset, .unset, .unset, .unset, .unset, .unset, .unset, .unset, .unset, .unset, .unset, .unset, .unset, .unset] [(.ref b2), (.ref b2)])) rfl (hb hby at_11) (n := 12) (by decide) (by decide) (by decide) (by decide)
  have O3 := O2.ext E3
  have K3 : Keep h0 h3 [] := K2.ext E3
  have c6 := (A2.ext E3)
  have c7 := (F_job_b2.ext E3)
  have c8 := (F_kind_b2.ext E3)
  have c9 := (F_pending_b2.ext E3)
  have c10 := (F_running_b2.ext E3)
  have c11 := (F_done_b2.ext E3)
  have c12 := (F_failed_b2.ext E3)
  have c13 := (F_cursor_b2.ext E3)
  have c14 := (F_scan_b2.ext E3)
  have c15 := (F_mapReduce_b2.ext E3)
  obtain ⟨_, _, ⟨T4, L4, k4, n4⟩, -, X4, ⟨Lc4, hQ4, l4, y4, z4⟩, st4⟩ := X3.specialBack hx (y := (⟨"com/example/shardwork/shardwork/JobStatus", "<init>", "(Ljava/lang/String;Ljava/lang/String;JJJJ)V"⟩ : MethodName)) rfl hown3 (mvT hZ3 (hw _ (List.mem_of_getElem? (i := 16) rfl))) (mvT hZ3 (hw _ (List.mem_of_getElem? (i := 17) rfl))) (mvT hZ3 (hw _ (List.mem_of_getElem? (i := 18) rfl))) (by decide) (backOf (W := 1) (rm2 l Z a0 hw [] b2 lit3 r_1 q1 q2 q3 q4 w5 .null .null (.long (0 : Int64)) (.long (0 : Int64)) (.long (0 : Int64)) (.long (0 : Int64)) .null .null .null h3 n0 O3 S_EMPTY c6 c7 g_b2 c8 c9 c10 c11 c12 c13 c14 c15) hZ3 (hw _ (List.mem_of_getElem? (i := 18) rfl)) (hw _ (List.mem_of_getElem? (i := 14) rfl)) (by decide) (by decide)) (g := (mkF m 21 #[.val (.long q1), .second, .val (.long q2), .second, .val (.long q3), .second, .val (.long q4), .second, .val (.int p5), .val (.ref r_1), .unset, .unset, .unset, .unset, .unset, .unset, .unset, .unset, .unset, .unset, .unset, .unset, .unset, .unset, .unset] [(.long q4), (.long q3), (.long q2), (.long q1), (.ref r_1), (.ref lit3), (.ref b2), (.ref b2)])) rfl (by rw [hml]; rfl) (Steps.refl _) (a := b2) (argsL := [(.ref lit3), (.ref r_1), (.long q1), (.long q2), (.long q3), (.long q4)]) (rest := [(.ref b2)]) (lenOf pd__Ljava_lang_String_Ljava_lang_String_JJJJ_V rfl) rfl (by show 2 * 0 + _ ≤ _; exact Nat.le_of_eq rfl) (hb hby at_21) (fun _ _ => ⟨rfl, e3, (by decide : 5 + 0 ≤ _), (by decide : 65 + 0 ≤ _)⟩)
  dsimp only [Pt.U, Pt.locs, Pt.cells, Pt.slots] at X4 l4 y4 z4 st4 hQ4
  subst l4 y4 z4
  obtain ⟨rfl, Nq4, O4, Kc4, q4_0, q4_1, q4_2, q4_3, q4_4, q4_5, q4_6, q4_7, q4_8, q4_9⟩ := hQ4
  have N4 := Fr.app N1 Nq4
  have K4 : Keep h0 T4.heap [] := K3.trans Kc4 (allS (Or.inr sz_b2) all0)
  obtain ⟨T16, h16, X16, e16, E16, A16, D16, U16, st16⟩ := newO X4 hx hZ3 hown3 (hw _ (List.mem_of_getElem? (i := 12) rfl)) (hw _ (List.mem_of_getElem? (i := 13) rfl)) (hw _ (List.mem_of_getElem? (i := 14) rfl)) rfl (g := (mkF m 26 #[.val (.long q1), .second, .val (.long q2), .second, .val (.long q3), .second, .val (.long q4), .second, .val (.int p5), .val (.ref r_1), .val (.ref b2), .unset, .unset, .unset, .unset, .unset, .unset, .unset, .unset, .unset, .unset, .unset, .unset, .unset, .unset] [])) rfl (hb hby at_26) (by decide) (by decide)
  obtain ⟨b16, g16⟩ : ∃ z, z = T4.heap.size := ⟨_, rfl⟩
  rw [← g16] at A16 D16 st16
  have g_b16 : n0 ≤ b16 := Nat.le_trans (Nat.le_of_eq O4.1.symm) (Nat.le_trans O4.2.1 (Nat.le_of_eq g16.symm))
  have sz_b16 : h0.size ≤ b16 := Nat.le_trans K4.1 (Nat.le_of_eq g16.symm)
  have O16 := O4.ext E16
  have K16 : Keep h0 h16 [] := K4.ext E16
  have F_job_b16 : Fld Z h16 b16 "com/example/shardwork/shardwork/JobStatus" "job" "Ljava/lang/String;" .null := D16 (Or.inr (hw _ (List.mem_of_getElem? (i := 36) rfl))) (ty := (.object "java/lang/String")) (by decide)
  have F_kind_b16 : Fld Z h16 b16 "com/example/shardwork/shardwork/JobStatus" "kind" "Ljava/lang/String;" .null := D16 (Or.inr (hw _ (List.mem_of_getElem? (i := 38) rfl))) (ty := (.object "java/lang/String")) (by decide)
  have F_pending_b16 : Fld Z h16 b16 "com/example/shardwork/shardwork/JobStatus" "pending" "J" (.long (0 : Int64)) := D16 (Or.inr (hw _ (List.mem_of_getElem? (i := 40) rfl))) (ty := .long) (by decide)
  have F_running_b16 : Fld Z h16 b16 "com/example/shardwork/shardwork/JobStatus" "running" "J" (.long (0 : Int64)) := D16 (Or.inr (hw _ (List.mem_of_getElem? (i := 42) rfl))) (ty := .long) (by decide)
  have F_done_b16 : Fld Z h16 b16 "com/example/shardwork/shardwork/JobStatus" "done" "J" (.long (0 : Int64)) := D16 (Or.inr (hw _ (List.mem_of_getElem? (i := 44) rfl))) (ty := .long) (by decide)
  have F_failed_b16 : Fld Z h16 b16 "com/example/shardwork/shardwork/JobStatus" "failed" "J" (.long (0 : Int64)) := D16 (Or.inr (hw _ (List.mem_of_getElem? (i := 46) rfl))) (ty := .long) (by decide)
  have F_cursor_b16 : Fld Z h16 b16 "com/example/shardwork/shardwork/JobStatus" "cursor" "Ljava/util/Optional;" .null := D16 (Or.inr (hw _ (List.mem_of_getElem? (i := 48) rfl))) (ty := (.object "java/util/Optional")) (by decide)
  have F_scan_b16 : Fld Z h16 b16 "com/example/shardwork/shardwork/JobStatus" "scan" "Ljava/util/Optional;" .null := D16 (Or.inr (hw _ (List.mem_of_getElem? (i := 50) rfl))) (ty := (.object "java/util/Optional")) (by decide)
  have F_mapReduce_b16 : Fld Z h16 b16 "com/example/shardwork/shardwork/JobStatus" "mapReduce" "Ljava/util/Optional;" .null := D16 (Or.inr (hw _ (List.mem_of_getElem? (i := 52) rfl))) (ty := (.object "java/util/Optional")) (by decide)
  obtain ⟨lit17, T17, h17, k17, X17, e17, E17, hS17, hk17, hZ17, hown17, st17⟩ := ldcS (s := s) X16 hx hZ3 hown3 (hw _ (List.mem_of_getElem? (i := 15) rfl)) own_wS e16 hS3 (Nat.le_trans (Nat.le_trans hk3 Kc4.1) E16.1) (g := (mkF m 30 #[.val (.long q1), .second, .val (.long q2), .second, .val (.long q3), .second, .val (.long q4), .second, .val (.int p5), .val (.ref r_1), .val (.ref b2), .unset, .unset, .unset, .unset, .unset, .unset, .unset, .unset, .unset, .unset, .unset, .unset, .unset, .unset] [(.ref b16), (.ref b16)])) rfl (hb hby at_30) (n := 12) (by decide) (by decide) (by decide) (by decide)
  have O17 := O16.ext E17
  have K17 : Keep h0 h17 [] := K16.ext E17
  have c19 := (A16.ext E17)
  have c20 := (F_job_b16.ext E17)
  have c21 := (F_kind_b16.ext E17)
  have c22 := (F_pending_b16.ext E17)
  have c23 := (F_running_b16.ext E17)
  have c24 := (F_done_b16.ext E17)
  have c25 := (F_failed_b16.ext E17)
  have c26 := (F_cursor_b16.ext E17)
  have c27 := (F_scan_b16.ext E17)
  have c28 := (F_mapReduce_b16.ext E17)
  obtain ⟨_, _, ⟨T18, L18, k18, n18⟩, -, X18, ⟨Lc18, hQ18, l18, y18, z18⟩, st18⟩ := X17.specialBack hx (y := (⟨"com/example/shardwork/shardwork/JobStatus", "<init>", "(Ljava/lang/String;Ljava/lang/String;JJJJ)V"⟩ : MethodName)) rfl hown17 (mvT hZ17 (hw _ (List.mem_of_getElem? (i := 16) rfl))) (mvT hZ17 (hw _ (List.mem_of_getElem? (i := 17) rfl))) (mvT hZ17 (hw _ (List.mem_of_getElem? (i := 18) rfl))) (by decide) (backOf (W := 1) (rm2 l Z a0 hw [] b16 lit17 r_1 q1 (0 : Int64) (0 : Int64) (0 : Int64) w5 .null .null (.long (0 : Int64)) (.long (0 : Int64)) (.long (0 : Int64)) (.long (0 : Int64)) .null .null .null h17 n0 O17 S_EMPTY c19 c20 g_b16 c21 c22 c23 c24 c25 c26 c27 c28) hZ17 (hw _ (List.mem_of_getElem? (i := 18) rfl)) (hw _ (List.mem_of_getElem? (i := 14) rfl)) (by decide) (by decide)) (g := (mkF m 38 #[.val (.long q1), .second, .val (.long q2), .second, .val (.long q3), .second, .val (.long q4), .second, .val (.int p5), .val (.ref r_1), .val (.ref b2), .unset, .unset, .unset, .unset, .unset, .unset, .unset, .unset, .unset, .unset, .unset, .unset, .unset, .unset] [(.long (0 : Int64)), (.long (0 : Int64)), (.long (0 : Int64)), (.long q1), (.ref r_1), (.ref lit17), (.ref b16), (.ref b16)])) rfl (by rw [hml]; rfl) (Steps.refl _) (a := b16) (argsL := [(.ref lit17), (.ref r_1), (.long q1), (.long (0 : Int64)), (.long (0 : Int64)), (.long (0 : Int64))]) (rest := [(.ref b16)]) (lenOf pd__Ljava_lang_String_Ljava_lang_String_JJJJ_V rfl) rfl (by show 2 * 0 + _ ≤ _; exact Nat.le_of_eq rfl) (hb hby at_38) (fun _ _ => ⟨rfl, e17, (by decide : 8 + 0 ≤ _), (by decide : 90 + 0 ≤ _)⟩)
  dsimp only [Pt.U, Pt.locs, Pt.cells, Pt.slots] at X18 l18 y18 z18 st18 hQ18
  subst l18 y18 z18
  obtain ⟨rfl, Nq18, O18, Kc18, q18_0, q18_1, q18_2, q18_3, q18_4, q18_5, q18_6, q18_7, q18_8, q18_9⟩ := hQ18
  have N18 := Fr.app N4 Nq18
  have K18 : Keep h0 T18.heap [] := K17.trans Kc18 (allS (Or.inr sz_b16) all0)
  obtain ⟨T29, h29, X29, e29, E29, A29, D29, U29, st29⟩ := newO X18 hx hZ17 hown17 (hw _ (List.mem_of_getElem? (i := 12) rfl)) (hw _ (List.mem_of_getElem? (i := 13) rfl)) (hw _ (List.mem_of_getElem? (i := 14) rfl)) rfl (g := (mkF m 43 #[.val (.long q1), .second, .val (.long q2), .second, .val (.long q3), .second, .val (.long q4), .second, .val (.int p5), .val (.ref r_1), .val (.ref b2), .val (.ref b16), .unset, .unset, .unset, .unset, .unset, .unset, .unset, .unset, .unset, .unset, .unset, .unset, .unset] [])) rfl (hb hby at_43) (by decide) (by decide)
  obtain ⟨b29, g29⟩ : ∃ z, z = T18.heap.size := ⟨_, rfl⟩
  rw [← g29] at A29 D29 st29
  have g_b29 : n0 ≤ b29 := Nat.le_trans (Nat.le_of_eq O18.1.symm) (Nat.le_trans O18.2.1 (Nat.le_of_eq g29.symm))
  have sz_b29 : h0.size ≤ b29 := Nat.le_trans K18.1 (Nat.le_of_eq g29.symm)
  have O29 := O18.ext E29
  have K29 : Keep h0 h29 [] := K18.ext E29
  have F_job_b29 : Fld Z h29 b29 "com/example/shardwork/shardwork/JobStatus" "job" "Ljava/lang/String;" .null := D29 (Or.inr (hw _ (List.mem_of_getElem? (i := 36) rfl))) (ty := (.object "java/lang/String")) (by decide)
  have F_kind_b29 : Fld Z h29 b29 "com/example/shardwork/shardwork/JobStatus" "kind" "Ljava/lang/String;" .null := D29 (Or.inr (hw _ (List.mem_of_getElem? (i := 38) rfl))) (ty := (.object "java/lang/String")) (by decide)
  have F_pending_b29 : Fld Z h29 b29 "com/example/shardwork/shardwork/JobStatus" "pending" "J" (.long (0 : Int64)) := D29 (Or.inr (hw _ (List.mem_of_getElem? (i := 40) rfl))) (ty := .long) (by decide)
  have F_running_b29 : Fld Z h29 b29 "com/example/shardwork/shardwork/JobStatus" "running" "J" (.long (0 : Int64)) := D29 (Or.inr (hw _ (List.mem_of_getElem? (i := 42) rfl))) (ty := .long) (by decide)
  have F_done_b29 : Fld Z h29 b29 "com/example/shardwork/shardwork/JobStatus" "done" "J" (.long (0 : Int64)) := D29 (Or.inr (hw _ (List.mem_of_getElem? (i := 44) rfl))) (ty := .long) (by decide)
  have F_failed_b29 : Fld Z h29 b29 "com/example/shardwork/shardwork/JobStatus" "failed" "J" (.long (0 : Int64)) := D29 (Or.inr (hw _ (List.mem_of_getElem? (i := 46) rfl))) (ty := .long) (by decide)
  have F_cursor_b29 : Fld Z h29 b29 "com/example/shardwork/shardwork/JobStatus" "cursor" "Ljava/util/Optional;" .null := D29 (Or.inr (hw _ (List.mem_of_getElem? (i := 48) rfl))) (ty := (.object "java/util/Optional")) (by decide)
  have F_scan_b29 : Fld Z h29 b29 "com/example/shardwork/shardwork/JobStatus" "scan" "Ljava/util/Optional;" .null := D29 (Or.inr (hw _ (List.mem_of_getElem? (i := 50) rfl))) (ty := (.object "java/util/Optional")) (by decide)
  have F_mapReduce_b29 : Fld Z h29 b29 "com/example/shardwork/shardwork/JobStatus" "mapReduce" "Ljava/util/Optional;" .null := D29 (Or.inr (hw _ (List.mem_of_getElem? (i := 52) rfl))) (ty := (.object "java/util/Optional")) (by decide)
  obtain ⟨lit30, T30, h30, k30, X30, e30, E30, hS30, hk30, hZ30, hown30, st30⟩ := ldcS (s := s) X29 hx hZ17 hown17 (hw _ (List.mem_of_getElem? (i := 15) rfl)) own_wS e29 hS17 (Nat.le_trans (Nat.le_trans hk17 Kc18.1) E29.1) (g := (mkF m 47 #[.val (.long q1), .second, .val (.long q2), .second, .val (.long q3), .second, .val (.long q4), .second, .val (.int p5), .val (.ref r_1), .val (.ref b2), .val (.ref b16), .unset, .unset, .unset, .unset, .unset, .unset, .unset, .unset, .unset, .unset, .unset, .unset, .unset] [(.ref b29), (.ref b29)])) rfl (hb hby at_47) (n := 12) (by decide) (by decide) (by decide) (by decide)
  have O30 := O29.ext E30
  have K30 : Keep h0 h30 [] := K29.ext E30
  have c32 := (A29.ext E30)
  have c33 := (F_job_b29.ext E30)
  have c34 := (F_kind_b29.ext E30)
  have c35 := (F_pending_b29.ext E30)
  have c36 := (F_running_b29.ext E30)
  have c37 := (F_done_b29.ext E30)
  have c38 := (F_failed_b29.ext E30)
  have c39 := (F_cursor_b29.ext E30)
  have c40 := (F_scan_b29.ext E30)
  have c41 := (F_mapReduce_b29.ext E30)
  obtain ⟨_, _, ⟨T31, L31, k31, n31⟩, -, X31, ⟨Lc31, hQ31, l31, y31, z31⟩, st31⟩ := X30.specialBack hx (y := (⟨"com/example/shardwork/shardwork/JobStatus", "<init>", "(Ljava/lang/String;Ljava/lang/String;JJJJ)V"⟩ : MethodName)) rfl hown30 (mvT hZ30 (hw _ (List.mem_of_getElem? (i := 16) rfl))) (mvT hZ30 (hw _ (List.mem_of_getElem? (i := 17) rfl))) (mvT hZ30 (hw _ (List.mem_of_getElem? (i := 18) rfl))) (by decide) (backOf (W := 1) (rm2 l Z a0 hw [] b29 lit30 r_1 (0 : Int64) q2 (0 : Int64) (0 : Int64) w5 .null .null (.long (0 : Int64)) (.long (0 : Int64)) (.long (0 : Int64)) (.long (0 : Int64)) .null .null .null h30 n0 O30 S_EMPTY c32 c33 g_b29 c34 c35 c36 c37 c38 c39 c40 c41) hZ30 (hw _ (List.mem_of_getElem? (i := 18) rfl)) (hw _ (List.mem_of_getElem? (i := 14) rfl)) (by decide) (by decide)) (g := (mkF m 55 #[.val (.long q1), .second, .val (.long q2), .second, .val (.long q3), .second, .val (.long q4), .second, .val (.int p5), .val (.ref r_1), .val (.ref b2), .val (.ref b16), .unset, .unset, .unset, .unset, .unset, .unset, .unset, .unset, .unset, .unset, .unset, .unset, .unset] [(.long (0 : Int64)), (.long (0 : Int64)), (.long q2), (.long (0 : Int64)), (.ref r_1), (.ref lit30), (.ref b29), (.ref b29)])) rfl (by rw [hml]; rfl) (Steps.refl _) (a := b29) (argsL := [(.ref lit30), (.ref r_1), (.long (0 : Int64)), (.long q2), (.long (0 : Int64)), (.long (0 : Int64))]) (rest := [(.ref b29)]) (lenOf pd__Ljava_lang_String_Ljava_lang_String_JJJJ_V rfl) rfl (by show 2 * 0 + _ ≤ _; exact Nat.le_of_eq rfl) (hb hby at_55) (fun _ _ => ⟨rfl, e30, (by decide : 11 + 0 ≤ _), (by decide : 115 + 0 ≤ _)⟩)
  dsimp only [Pt.U, Pt.locs, Pt.cells, Pt.slots] at X31 l31 y31 z31 st31 hQ31
  subst l31 y31 z31
  obtain ⟨rfl, Nq31, O31, Kc31, q31_0, q31_1, q31_2, q31_3, q31_4, q31_5, q31_6, q31_7, q31_8, q31_9⟩ := hQ31
  have N31 := Fr.app N18 Nq31
  have K31 : Keep h0 T31.heap [] := K30.trans Kc31 (allS (Or.inr sz_b29) all0)
  obtain ⟨T42, h42, X42, e42, E42, A42, D42, U42, st42⟩ := newO X31 hx hZ30 hown30 (hw _ (List.mem_of_getElem? (i := 12) rfl)) (hw _ (List.mem_of_getElem? (i := 13) rfl)) (hw _ (List.mem_of_getElem? (i := 14) rfl)) rfl (g := (mkF m 60 #[.val (.long q1), .second, .val (.long q2), .second, .val (.long q3), .second, .val (.long q4), .second, .val (.int p5), .val (.ref r_1), .val (.ref b2), .val (.ref b16), .val (.ref b29), .unset, .unset, .unset, .unset, .unset, .unset, .unset, .unset, .unset, .unset, .unset, .unset] [])) rfl (hb hby at_60) (by decide) (by decide)
  obtain ⟨b42, g42⟩ : ∃ z, z = T31.heap.size := ⟨_, rfl⟩
  rw [← g42] at A42 D42 st42
  have g_b42 : n0 ≤ b42 := Nat.le_trans (Nat.le_of_eq O31.1.symm) (Nat.le_trans O31.2.1 (Nat.le_of_eq g42.symm))
  have sz_b42 : h0.size ≤ b42 := Nat.le_trans K31.1 (Nat.le_of_eq g42.symm)
  have O42 := O31.ext E42
  have K42 : Keep h0 h42 [] := K31.ext E42
  have F_job_b42 : Fld Z h42 b42 "com/example/shardwork/shardwork/JobStatus" "job" "Ljava/lang/String;" .null := D42 (Or.inr (hw _ (List.mem_of_getElem? (i := 36) rfl))) (ty := (.object "java/lang/String")) (by decide)
  have F_kind_b42 : Fld Z h42 b42 "com/example/shardwork/shardwork/JobStatus" "kind" "Ljava/lang/String;" .null := D42 (Or.inr (hw _ (List.mem_of_getElem? (i := 38) rfl))) (ty := (.object "java/lang/String")) (by decide)
  have F_pending_b42 : Fld Z h42 b42 "com/example/shardwork/shardwork/JobStatus" "pending" "J" (.long (0 : Int64)) := D42 (Or.inr (hw _ (List.mem_of_getElem? (i := 40) rfl))) (ty := .long) (by decide)
  have F_running_b42 : Fld Z h42 b42 "com/example/shardwork/shardwork/JobStatus" "running" "J" (.long (0 : Int64)) := D42 (Or.inr (hw _ (List.mem_of_getElem? (i := 42) rfl))) (ty := .long) (by decide)
  have F_done_b42 : Fld Z h42 b42 "com/example/shardwork/shardwork/JobStatus" "done" "J" (.long (0 : Int64)) := D42 (Or.inr (hw _ (List.mem_of_getElem? (i := 44) rfl))) (ty := .long) (by decide)
  have F_failed_b42 : Fld Z h42 b42 "com/example/shardwork/shardwork/JobStatus" "failed" "J" (.long (0 : Int64)) := D42 (Or.inr (hw _ (List.mem_of_getElem? (i := 46) rfl))) (ty := .long) (by decide)
  have F_cursor_b42 : Fld Z h42 b42 "com/example/shardwork/shardwork/JobStatus" "cursor" "Ljava/util/Optional;" .null := D42 (Or.inr (hw _ (List.mem_of_getElem? (i := 48) rfl))) (ty := (.object "java/util/Optional")) (by decide)
  have F_scan_b42 : Fld Z h42 b42 "com/example/shardwork/shardwork/JobStatus" "scan" "Ljava/util/Optional;" .null := D42 (Or.inr (hw _ (List.mem_of_getElem? (i := 50) rfl))) (ty := (.object "java/util/Optional")) (by decide)
  have F_mapReduce_b42 : Fld Z h42 b42 "com/example/shardwork/shardwork/JobStatus" "mapReduce" "Ljava/util/Optional;" .null := D42 (Or.inr (hw _ (List.mem_of_getElem? (i := 52) rfl))) (ty := (.object "java/util/Optional")) (by decide)
  obtain ⟨lit43, T43, h43, k43, X43, e43, E43, hS43, hk43, hZ43, hown43, st43⟩ := ldcS (s := s) X42 hx hZ30 hown30 (hw _ (List.mem_of_getElem? (i := 15) rfl)) own_wS e42 hS30 (Nat.le_trans (Nat.le_trans hk30 Kc31.1) E42.1) (g := (mkF m 64 #[.val (.long q1), .second, .val (.long q2), .second, .val (.long q3), .second, .val (.long q4), .second, .val (.int p5), .val (.ref r_1), .val (.ref b2), .val (.ref b16), .val (.ref b29), .unset, .unset, .unset, .unset, .unset, .unset, .unset, .unset, .unset, .unset, .unset, .unset] [(.ref b42), (.ref b42)])) rfl (hb hby at_64) (n := 12) (by decide) (by decide) (by decide) (by decide)
  have O43 := O42.ext E43
  have K43 : Keep h0 h43 [] := K42.ext E43
  have c45 := (A42.ext E43)
  have c46 := (F_job_b42.ext E43)
  have c47 := (F_kind_b42.ext E43)
  have c48 := (F_pending_b42.ext E43)
  have c49 := (F_running_b42.ext E43)
  have c50 := (F_done_b42.ext E43)
  have c51 := (F_failed_b42.ext E43)
  have c52 := (F_cursor_b42.ext E43)
  have c53 := (F_scan_b42.ext E43)
  have c54 := (F_mapReduce_b42.ext E43)
  obtain ⟨_, _, ⟨T44, L44, k44, n44⟩, -, X44, ⟨Lc44, hQ44, l44, y44, z44⟩, st44⟩ := X43.specialBack hx (y := (⟨"com/example/shardwork/shardwork/JobStatus", "<init>", "(Ljava/lang/String;Ljava/lang/String;JJJJ)V"⟩ : MethodName)) rfl hown43 (mvT hZ43 (hw _ (List.mem_of_getElem? (i := 16) rfl))) (mvT hZ43 (hw _ (List.mem_of_getElem? (i := 17) rfl))) (mvT hZ43 (hw _ (List.mem_of_getElem? (i := 18) rfl))) (by decide) (backOf (W := 1) (rm2 l Z a0 hw [] b42 lit43 r_1 (0 : Int64) (0 : Int64) q3 (0 : Int64) w5 .null .null (.long (0 : Int64)) (.long (0 : Int64)) (.long (0 : Int64)) (.long (0 : Int64)) .null .null .null h43 n0 O43 S_EMPTY c45 c46 g_b42 c47 c48 c49 c50 c51 c52 c53 c54) hZ43 (hw _ (List.mem_of_getElem? (i := 18) rfl)) (hw _ (List.mem_of_getElem? (i := 14) rfl)) (by decide) (by decide)) (g := (mkF m 73 #[.val (.long q1), .second, .val (.long q2), .second, .val (.long q3), .second, .val (.long q4), .second, .val (.int p5), .val (.ref r_1), .val (.ref b2), .val (.ref b16), .val (.ref b29), .unset, .unset, .unset, .unset, .unset, .unset, .unset, .unset, .unset, .unset, .unset, .unset] [(.long (0 : Int64)), (.long q3), (.long (0 : Int64)), (.long (0 : Int64)), (.ref r_1), (.ref lit43), (.ref b42), (.ref b42)])) rfl (by rw [hml]; rfl) (Steps.refl _) (a := b42) (argsL := [(.ref lit43), (.ref r_1), (.long (0 : Int64)), (.long (0 : Int64)), (.long q3), (.long (0 : Int64))]) (rest := [(.ref b42)]) (lenOf pd__Ljava_lang_String_Ljava_lang_String_JJJJ_V rfl) rfl (by show 2 * 0 + _ ≤ _; exact Nat.le_of_eq rfl) (hb hby at_73) (fun _ _ => ⟨rfl, e43, (by decide : 14 + 0 ≤ _), (by decide : 140 + 0 ≤ _)⟩)
  dsimp only [Pt.U, Pt.locs, Pt.cells, Pt.slots] at X44 l44 y44 z44 st44 hQ44
  subst l44 y44 z44
  obtain ⟨rfl, Nq44, O44, Kc44, q44_0, q44_1, q44_2, q44_3, q44_4, q44_5, q44_6, q44_7, q44_8, q44_9⟩ := hQ44
  have N44 := Fr.app N31 Nq44
  have K44 : Keep h0 T44.heap [] := K43.trans Kc44 (allS (Or.inr sz_b42) all0)
  obtain ⟨T55, h55, X55, e55, E55, A55, D55, U55, st55⟩ := newO X44 hx hZ43 hown43 (hw _ (List.mem_of_getElem? (i := 12) rfl)) (hw _ (List.mem_of_getElem? (i := 13) rfl)) (hw _ (List.mem_of_getElem? (i := 14) rfl)) rfl (g := (mkF m 78 #[.val (.long q1), .second, .val (.long q2), .second, .val (.long q3), .second, .val (.long q4), .second, .val (.int p5), .val (.ref r_1), .val (.ref b2), .val (.ref b16), .val (.ref b29), .val (.ref b42), .unset, .unset, .unset, .unset, .unset, .unset, .unset, .unset, .unset, .unset, .unset] [])) rfl (hb hby at_78) (by decide) (by decide)
  obtain ⟨b55, g55⟩ : ∃ z, z = T44.heap.size := ⟨_, rfl⟩
  rw [← g55] at A55 D55 st55
  have g_b55 : n0 ≤ b55 := Nat.le_trans (Nat.le_of_eq O44.1.symm) (Nat.le_trans O44.2.1 (Nat.le_of_eq g55.symm))
  have sz_b55 : h0.size ≤ b55 := Nat.le_trans K44.1 (Nat.le_of_eq g55.symm)
  have O55 := O44.ext E55
  have K55 : Keep h0 h55 [] := K44.ext E55
  have F_job_b55 : Fld Z h55 b55 "com/example/shardwork/shardwork/JobStatus" "job" "Ljava/lang/String;" .null := D55 (Or.inr (hw _ (List.mem_of_getElem? (i := 36) rfl))) (ty := (.object "java/lang/String")) (by decide)
  have F_kind_b55 : Fld Z h55 b55 "com/example/shardwork/shardwork/JobStatus" "kind" "Ljava/lang/String;" .null := D55 (Or.inr (hw _ (List.mem_of_getElem? (i := 38) rfl))) (ty := (.object "java/lang/String")) (by decide)
  have F_pending_b55 : Fld Z h55 b55 "com/example/shardwork/shardwork/JobStatus" "pending" "J" (.long (0 : Int64)) := D55 (Or.inr (hw _ (List.mem_of_getElem? (i := 40) rfl))) (ty := .long) (by decide)
  have F_running_b55 : Fld Z h55 b55 "com/example/shardwork/shardwork/JobStatus" "running" "J" (.long (0 : Int64)) := D55 (Or.inr (hw _ (List.mem_of_getElem? (i := 42) rfl))) (ty := .long) (by decide)
  have F_done_b55 : Fld Z h55 b55 "com/example/shardwork/shardwork/JobStatus" "done" "J" (.long (0 : Int64)) := D55 (Or.inr (hw _ (List.mem_of_getElem? (i := 44) rfl))) (ty := .long) (by decide)
  have F_failed_b55 : Fld Z h55 b55 "com/example/shardwork/shardwork/JobStatus" "failed" "J" (.long (0 : Int64)) := D55 (Or.inr (hw _ (List.mem_of_getElem? (i := 46) rfl))) (ty := .long) (by decide)
  have F_cursor_b55 : Fld Z h55 b55 "com/example/shardwork/shardwork/JobStatus" "cursor" "Ljava/util/Optional;" .null := D55 (Or.inr (hw _ (List.mem_of_getElem? (i := 48) rfl))) (ty := (.object "java/util/Optional")) (by decide)
  have F_scan_b55 : Fld Z h55 b55 "com/example/shardwork/shardwork/JobStatus" "scan" "Ljava/util/Optional;" .null := D55 (Or.inr (hw _ (List.mem_of_getElem? (i := 50) rfl))) (ty := (.object "java/util/Optional")) (by decide)
  have F_mapReduce_b55 : Fld Z h55 b55 "com/example/shardwork/shardwork/JobStatus" "mapReduce" "Ljava/util/Optional;" .null := D55 (Or.inr (hw _ (List.mem_of_getElem? (i := 52) rfl))) (ty := (.object "java/util/Optional")) (by decide)
  obtain ⟨lit56, T56, h56, k56, X56, e56, E56, hS56, hk56, hZ56, hown56, st56⟩ := ldcS (s := s) X55 hx hZ43 hown43 (hw _ (List.mem_of_getElem? (i := 15) rfl)) own_wS e55 hS43 (Nat.le_trans (Nat.le_trans hk43 Kc44.1) E55.1) (g := (mkF m 82 #[.val (.long q1), .second, .val (.long q2), .second, .val (.long q3), .second, .val (.long q4), .second, .val (.int p5), .val (.ref r_1), .val (.ref b2), .val (.ref b16), .val (.ref b29), .val (.ref b42), .unset, .unset, .unset, .unset, .unset, .unset, .unset, .unset, .unset, .unset, .unset] [(.ref b55), (.ref b55)])) rfl (hb hby at_82) (n := 12) (by decide) (by decide) (by decide) (by decide)
  have O56 := O55.ext E56
  have K56 : Keep h0 h56 [] := K55.ext E56
  have c58 := (A55.ext E56)
  have c59 := (F_job_b55.ext E56)
  have c60 := (F_kind_b55.ext E56)
  have c61 := (F_pending_b55.ext E56)
  have c62 := (F_running_b55.ext E56)
  have c63 := (F_done_b55.ext E56)
  have c64 := (F_failed_b55.ext E56)
  have c65 := (F_cursor_b55.ext E56)
  have c66 := (F_scan_b55.ext E56)
  have c67 := (F_mapReduce_b55.ext E56)
  obtain ⟨_, _, ⟨T57, L57, k57, n57⟩, -, X57, ⟨Lc57, hQ57, l57, y57, z57⟩, st57⟩ := X56.specialBack hx (y := (⟨"com/example/shardwork/shardwork/JobStatus", "<init>", "(Ljava/lang/String;Ljava/lang/String;JJJJ)V"⟩ : MethodName)) rfl hown56 (mvT hZ56 (hw _ (List.mem_of_getElem? (i := 16) rfl))) (mvT hZ56 (hw _ (List.mem_of_getElem? (i := 17) rfl))) (mvT hZ56 (hw _ (List.mem_of_getElem? (i := 18) rfl))) (by decide) (backOf (W := 1) (rm2 l Z a0 hw [] b55 lit56 r_1 (0 : Int64) (0 : Int64) (0 : Int64) q4 w5 .null .null (.long (0 : Int64)) (.long (0 : Int64)) (.long (0 : Int64)) (.long (0 : Int64)) .null .null .null h56 n0 O56 S_EMPTY c58 c59 g_b55 c60 c61 c62 c63 c64 c65 c66 c67) hZ56 (hw _ (List.mem_of_getElem? (i := 18) rfl)) (hw _ (List.mem_of_getElem? (i := 14) rfl)) (by decide) (by decide)) (g := (mkF m 91 #[.val (.long q1), .second, .val (.long q2), .second, .val (.long q3), .second, .val (.long q4), .second, .val (.int p5), .val (.ref r_1), .val (.ref b2), .val (.ref b16), .val (.ref b29), .val (.ref b42), .unset, .unset, .unset, .unset, .unset, .unset, .unset, .unset, .unset, .unset, .unset] [(.long q4), (.long (0 : Int64)), (.long (0 : Int64)), (.long (0 : Int64)), (.ref r_1), (.ref lit56), (.ref b55), (.ref b55)])) rfl (by rw [hml]; rfl) (Steps.refl _) (a := b55) (argsL := [(.ref lit56), (.ref r_1), (.long (0 : Int64)), (.long (0 : Int64)), (.long (0 : Int64)), (.long q4)]) (rest := [(.ref b55)]) (lenOf pd__Ljava_lang_String_Ljava_lang_String_JJJJ_V rfl) rfl (by show 2 * 0 + _ ≤ _; exact Nat.le_of_eq rfl) (hb hby at_91) (fun _ _ => ⟨rfl, e56, (by decide : 17 + 0 ≤ _), (by decide : 165 + 0 ≤ _)⟩)
  dsimp only [Pt.U, Pt.locs, Pt.cells, Pt.slots] at X57 l57 y57 z57 st57 hQ57
  subst l57 y57 z57
  obtain ⟨rfl, Nq57, O57, Kc57, q57_0, q57_1, q57_2, q57_3, q57_4, q57_5, q57_6, q57_7, q57_8, q57_9⟩ := hQ57
  have N57 := Fr.app N44 Nq57
  have K57 : Keep h0 T57.heap [] := K56.trans Kc57 (allS (Or.inr sz_b55) all0)
  have ne69 : b16 ≠ b29 := (Nat.ne_of_lt (Nat.lt_of_lt_of_le q18_0.lt (Nat.le_of_eq g29.symm)))
  have ne70 : b16 ≠ b42 := (Nat.ne_of_lt (Nat.lt_of_lt_of_le (((q18_0.ext E29).ext E30).keep Kc31).lt (Nat.le_of_eq g42.symm)))
  have ne71 : b16 ≠ b55 := (Nat.ne_of_lt (Nat.lt_of_lt_of_le ((((((q18_0.ext E29).ext E30).keep Kc31).ext E42).ext E43).keep Kc44).lt (Nat.le_of_eq g55.symm)))
  have c72 := (((((((((q18_3.ext E29).ext E30).keep Kc31 (ninS ne69 nin0)).ext E42).ext E43).keep Kc44 (ninS ne70 nin0)).ext E55).ext E56).keep Kc57 (ninS ne71 nin0))
  have c73 := (((((((((q18_4.ext E29).ext E30).keep Kc31 (ninS ne69 nin0)).ext E42).ext E43).keep Kc44 (ninS ne70 nin0)).ext E55).ext E56).keep Kc57 (ninS ne71 nin0))
  have c74 := (((((((((q18_5.ext E29).ext E30).keep Kc31 (ninS ne69 nin0)).ext E42).ext E43).keep Kc44 (ninS ne70 nin0)).ext E55).ext E56).keep Kc57 (ninS ne71 nin0))
  have c75 := (((((((((q18_6.ext E29).ext E30).keep Kc31 (ninS ne69 nin0)).ext E42).ext E43).keep Kc44 (ninS ne70 nin0)).ext E55).ext E56).keep Kc57 (ninS ne71 nin0))
  have c76 := (((((((((q18_0.ext E29).ext E30).keep Kc31).ext E42).ext E43).keep Kc44).ext E55).ext E56).keep Kc57)
  obtain ⟨cq68, kq68, q68a, q68b, q68c⟩ := isOf hZ56 rfl c76
  obtain ⟨_, _, ⟨T68, L68, k68, n68⟩, -, X68, ⟨Lc68, hQ68, l68, y68, z68⟩, st68⟩ := X57.virtualBack hx (y := (⟨"com/example/shardwork/shardwork/JobStatus", "units", "()J"⟩ : MethodName)) (z := (⟨"com/example/shardwork/shardwork/JobStatus", "units", "()J"⟩ : MethodName)) hown56 (mvT hZ56 (hw _ (List.mem_of_getElem? (i := 53) rfl))) (mvT hZ56 (hw _ (List.mem_of_getElem? (i := 54) rfl))) (notFace_of_selects (args := #[]) (mvT hZ56 (hw _ (List.mem_of_getElem? (i := 56) rfl)))) (mvT hZ56 (hw _ (List.mem_of_getElem? (i := 56) rfl))) (mvT hZ56 (hw _ (List.mem_of_getElem? (i := 55) rfl))) (by decide) (backOf (W := 0) (rm7 l Z a0 hw [] b16 q1 (0 : Int64) (0 : Int64) (0 : Int64) T57.heap n0 O57 c72 c73 c74 c75) hZ56 (hw _ (List.mem_of_getElem? (i := 57) rfl)) (hw _ (List.mem_of_getElem? (i := 14) rfl)) (by decide) (by decide)) q68a q68c (g := (mkF m 98 #[.val (.long q1), .second, .val (.long q2), .second, .val (.long q3), .second, .val (.long q4), .second, .val (.int p5), .val (.ref r_1), .val (.ref b2), .val (.ref b16), .val (.ref b29), .val (.ref b42), .val (.ref b55), .unset, .unset, .unset, .unset, .unset, .unset, .unset, .unset, .unset, .unset] [(.ref b16)])) rfl (by rw [hml]; rfl) (Steps.refl _) (argsL := []) (rest := []) (lenOf pd___J rfl) rfl (by show 2 * 0 + _ ≤ _; exact Nat.le_of_eq rfl) (hb hby at_98) (fun _ _ => ⟨rfl, rfl, (by decide : 17 + 0 ≤ _), (by decide : 165 + 0 ≤ _)⟩)
  dsimp only [Pt.U, Pt.locs, Pt.cells, Pt.slots] at X68 l68 y68 z68 st68 hQ68
  subst l68 y68 z68
  obtain ⟨rfl, Nq68, e68⟩ := hQ68
  have N68 := Fr.app N57 Nq68
  have ne78 : b29 ≠ b42 := (Nat.ne_of_lt (Nat.lt_of_lt_of_le q31_0.lt (Nat.le_of_eq g42.symm)))
  have ne79 : b29 ≠ b55 := (Nat.ne_of_lt (Nat.lt_of_lt_of_le (((q31_0.ext E42).ext E43).keep Kc44).lt (Nat.le_of_eq g55.symm)))
  have c80 := ((((((q31_3.ext E42).ext E43).keep Kc44 (ninS ne78 nin0)).ext E55).ext E56).keep Kc57 (ninS ne79 nin0))
  have c81 := ((((((q31_4.ext E42).ext E43).keep Kc44 (ninS ne78 nin0)).ext E55).ext E56).keep Kc57 (ninS ne79 nin0))
  have c82 := ((((((q31_5.ext E42).ext E43).keep Kc44 (ninS ne78 nin0)).ext E55).ext E56).keep Kc57 (ninS ne79 nin0))
  have c83 := ((((((q31_6.ext E42).ext E43).keep Kc44 (ninS ne78 nin0)).ext E55).ext E56).keep Kc57 (ninS ne79 nin0))
  have c84 := ((((((q31_0.ext E42).ext E43).keep Kc44).ext E55).ext E56).keep Kc57)
  obtain ⟨cq77, kq77, q77a, q77b, q77c⟩ := isOf hZ56 e68 c84
  obtain ⟨_, _, ⟨T77, L77, k77, n77⟩, -, X77, ⟨Lc77, hQ77, l77, y77, z77⟩, st77⟩ := X68.virtualBack hx (y := (⟨"com/example/shardwork/shardwork/JobStatus", "units", "()J"⟩ : MethodName)) (z := (⟨"com/example/shardwork/shardwork/JobStatus", "units", "()J"⟩ : MethodName)) hown56 (mvT hZ56 (hw _ (List.mem_of_getElem? (i := 53) rfl))) (mvT hZ56 (hw _ (List.mem_of_getElem? (i := 54) rfl))) (notFace_of_selects (args := #[]) (mvT hZ56 (hw _ (List.mem_of_getElem? (i := 56) rfl)))) (mvT hZ56 (hw _ (List.mem_of_getElem? (i := 56) rfl))) (mvT hZ56 (hw _ (List.mem_of_getElem? (i := 55) rfl))) (by decide) (backOf (W := 0) (rm7 l Z a0 hw [] b29 (0 : Int64) q2 (0 : Int64) (0 : Int64) T57.heap n0 O57 c80 c81 c82 c83) hZ56 (hw _ (List.mem_of_getElem? (i := 57) rfl)) (hw _ (List.mem_of_getElem? (i := 14) rfl)) (by decide) (by decide)) q77a q77c (g := (mkF m 105 #[.val (.long q1), .second, .val (.long q2), .second, .val (.long q3), .second, .val (.long q4), .second, .val (.int p5), .val (.ref r_1), .val (.ref b2), .val (.ref b16), .val (.ref b29), .val (.ref b42), .val (.ref b55), .val (.long (((q1 + (0 : Int64)) + (0 : Int64)) + (0 : Int64))), .second, .unset, .unset, .unset, .unset, .unset, .unset, .unset, .unset] [(.ref b29)])) rfl (by rw [hml]; rfl) (Steps.refl _) (argsL := []) (rest := []) (lenOf pd___J rfl) rfl (by show 2 * 0 + _ ≤ _; exact Nat.le_of_eq rfl) (hb hby at_105) (fun _ _ => ⟨rfl, e68, (by decide : 17 + 0 ≤ _), (by decide : 165 + 0 ≤ _)⟩)
  dsimp only [Pt.U, Pt.locs, Pt.cells, Pt.slots] at X77 l77 y77 z77 st77 hQ77
  subst l77 y77 z77
  obtain ⟨rfl, Nq77, e77⟩ := hQ77
  have N77 := Fr.app N68 Nq77
  have ne86 : b42 ≠ b55 := (Nat.ne_of_lt (Nat.lt_of_lt_of_le q44_0.lt (Nat.le_of_eq g55.symm)))
  have c87 := (((q44_3.ext E55).ext E56).keep Kc57 (ninS ne86 nin0))
  have c88 := (((q44_4.ext E55).ext E56).keep Kc57 (ninS ne86 nin0))
  have c89 := (((q44_5.ext E55).ext E56).keep Kc57 (ninS ne86 nin0))
  have c90 := (((q44_6.ext E55).ext E56).keep Kc57 (ninS ne86 nin0))
  have c91 := (((q44_0.ext E55).ext E56).keep Kc57)
  obtain ⟨cq85, kq85, q85a, q85b, q85c⟩ := isOf hZ56 e77 c91
  obtain ⟨_, _, ⟨T85, L85, k85, n85⟩, -, X85, ⟨Lc85, hQ85, l85, y85, z85⟩, st85⟩ := X77.virtualBack hx (y := (⟨"com/example/shardwork/shardwork/JobStatus", "units", "()J"⟩ : MethodName)) (z := (⟨"com/example/shardwork/shardwork/JobStatus", "units", "()J"⟩ : MethodName)) hown56 (mvT hZ56 (hw _ (List.mem_of_getElem? (i := 53) rfl))) (mvT hZ56 (hw _ (List.mem_of_getElem? (i := 54) rfl))) (notFace_of_selects (args := #[]) (mvT hZ56 (hw _ (List.mem_of_getElem? (i := 56) rfl)))) (mvT hZ56 (hw _ (List.mem_of_getElem? (i := 56) rfl))) (mvT hZ56 (hw _ (List.mem_of_getElem? (i := 55) rfl))) (by decide) (backOf (W := 0) (rm7 l Z a0 hw [] b42 (0 : Int64) (0 : Int64) q3 (0 : Int64) T57.heap n0 O57 c87 c88 c89 c90) hZ56 (hw _ (List.mem_of_getElem? (i := 57) rfl)) (hw _ (List.mem_of_getElem? (i := 14) rfl)) (by decide) (by decide)) q85a q85c (g := (mkF m 112 #[.val (.long q1), .second, .val (.long q2), .second, .val (.long q3), .second, .val (.long q4), .second, .val (.int p5), .val (.ref r_1), .val (.ref b2), .val (.ref b16), .val (.ref b29), .val (.ref b42), .val (.ref b55), .val (.long (((q1 + (0 : Int64)) + (0 : Int64)) + (0 : Int64))), .second, .val (.long ((((0 : Int64) + q2) + (0 : Int64)) + (0 : Int64))), .second, .unset, .unset, .unset, .unset, .unset, .unset] [(.ref b42)])) rfl (by rw [hml]; rfl) (Steps.refl _) (argsL := []) (rest := []) (lenOf pd___J rfl) rfl (by show 2 * 0 + _ ≤ _; exact Nat.le_of_eq rfl) (hb hby at_112) (fun _ _ => ⟨rfl, e77, (by decide : 17 + 0 ≤ _), (by decide : 165 + 0 ≤ _)⟩)
  dsimp only [Pt.U, Pt.locs, Pt.cells, Pt.slots] at X85 l85 y85 z85 st85 hQ85
  subst l85 y85 z85
  obtain ⟨rfl, Nq85, e85⟩ := hQ85
  have N85 := Fr.app N77 Nq85
  obtain ⟨cq92, kq92, q92a, q92b, q92c⟩ := isOf hZ56 e85 q57_0
  obtain ⟨_, _, ⟨T92, L92, k92, n92⟩, -, X92, ⟨Lc92, hQ92, l92, y92, z92⟩, st92⟩ := X85.virtualBack hx (y := (⟨"com/example/shardwork/shardwork/JobStatus", "units", "()J"⟩ : MethodName)) (z := (⟨"com/example/shardwork/shardwork/JobStatus", "units", "()J"⟩ : MethodName)) hown56 (mvT hZ56 (hw _ (List.mem_of_getElem? (i := 53) rfl))) (mvT hZ56 (hw _ (List.mem_of_getElem? (i := 54) rfl))) (notFace_of_selects (args := #[]) (mvT hZ56 (hw _ (List.mem_of_getElem? (i := 56) rfl)))) (mvT hZ56 (hw _ (List.mem_of_getElem? (i := 56) rfl))) (mvT hZ56 (hw _ (List.mem_of_getElem? (i := 55) rfl))) (by decide) (backOf (W := 0) (rm7 l Z a0 hw [] b55 (0 : Int64) (0 : Int64) (0 : Int64) q4 T57.heap n0 O57 q57_3 q57_4 q57_5 q57_6) hZ56 (hw _ (List.mem_of_getElem? (i := 57) rfl)) (hw _ (List.mem_of_getElem? (i := 14) rfl)) (by decide) (by decide)) q92a q92c (g := (mkF m 119 #[.val (.long q1), .second, .val (.long q2), .second, .val (.long q3), .second, .val (.long q4), .second, .val (.int p5), .val (.ref r_1), .val (.ref b2), .val (.ref b16), .val (.ref b29), .val (.ref b42), .val (.ref b55), .val (.long (((q1 + (0 : Int64)) + (0 : Int64)) + (0 : Int64))), .second, .val (.long ((((0 : Int64) + q2) + (0 : Int64)) + (0 : Int64))), .second, .val (.long ((((0 : Int64) + (0 : Int64)) + q3) + (0 : Int64))), .second, .unset, .unset, .unset, .unset] [(.ref b55)])) rfl (by rw [hml]; rfl) (Steps.refl _) (argsL := []) (rest := []) (lenOf pd___J rfl) rfl (by show 2 * 0 + _ ≤ _; exact Nat.le_of_eq rfl) (hb hby at_119) (fun _ _ => ⟨rfl, e85, (by decide : 17 + 0 ≤ _), (by decide : 165 + 0 ≤ _)⟩)
  dsimp only [Pt.U, Pt.locs, Pt.cells, Pt.slots] at X92 l92 y92 z92 st92 hQ92
  subst l92 y92 z92
  obtain ⟨rfl, Nq92, e92⟩ := hQ92
  have N92 := Fr.app N85 Nq92
  have ne94 : b2 ≠ b16 := (Nat.ne_of_lt (Nat.lt_of_lt_of_le q4_0.lt (Nat.le_of_eq g16.symm)))
  have ne95 : b2 ≠ b29 := (Nat.ne_of_lt (Nat.lt_of_lt_of_le (((q4_0.ext E16).ext E17).keep Kc18).lt (Nat.le_of_eq g29.symm)))
  have ne96 : b2 ≠ b42 := (Nat.ne_of_lt (Nat.lt_of_lt_of_le ((((((q4_0.ext E16).ext E17).keep Kc18).ext E29).ext E30).keep Kc31).lt (Nat.le_of_eq g42.symm)))
  have ne97 : b2 ≠ b55 := (Nat.ne_of_lt (Nat.lt_of_lt_of_le (((((((((q4_0.ext E16).ext E17).keep Kc18).ext E29).ext E30).keep Kc31).ext E42).ext E43).keep Kc44).lt (Nat.le_of_eq g55.symm)))
  have c98 := ((((((((((((q4_3.ext E16).ext E17).keep Kc18 (ninS ne94 nin0)).ext E29).ext E30).keep Kc31 (ninS ne95 nin0)).ext E42).ext E43).keep Kc44 (ninS ne96 nin0)).ext E55).ext E56).keep Kc57 (ninS ne97 nin0))
  have c99 := ((((((((((((q4_4.ext E16).ext E17).keep Kc18 (ninS ne94 nin0)).ext E29).ext E30).keep Kc31 (ninS ne95 nin0)).ext E42).ext E43).keep Kc44 (ninS ne96 nin0)).ext E55).ext E56).keep Kc57 (ninS ne97 nin0))
  have c100 := ((((((((((((q4_5.ext E16).ext E17).keep Kc18 (ninS ne94 nin0)).ext E29).ext E30).keep Kc31 (ninS ne95 nin0)).ext E42).ext E43).keep Kc44 (ninS ne96 nin0)).ext E55).ext E56).keep Kc57 (ninS ne97 nin0))
  have c101 := ((((((((((((q4_6.ext E16).ext E17).keep Kc18 (ninS ne94 nin0)).ext E29).ext E30).keep Kc31 (ninS ne95 nin0)).ext E42).ext E43).keep Kc44 (ninS ne96 nin0)).ext E55).ext E56).keep Kc57 (ninS ne97 nin0))
  have c102 := ((((((((((((q4_0.ext E16).ext E17).keep Kc18).ext E29).ext E30).keep Kc31).ext E42).ext E43).keep Kc44).ext E55).ext E56).keep Kc57)
  obtain ⟨cq93, kq93, q93a, q93b, q93c⟩ := isOf hZ56 e92 c102
  obtain ⟨_, _, ⟨T93, L93, k93, n93⟩, -, X93, ⟨Lc93, hQ93, l93, y93, z93⟩, st93⟩ := X92.virtualBack hx (y := (⟨"com/example/shardwork/shardwork/JobStatus", "units", "()J"⟩ : MethodName)) (z := (⟨"com/example/shardwork/shardwork/JobStatus", "units", "()J"⟩ : MethodName)) hown56 (mvT hZ56 (hw _ (List.mem_of_getElem? (i := 53) rfl))) (mvT hZ56 (hw _ (List.mem_of_getElem? (i := 54) rfl))) (notFace_of_selects (args := #[]) (mvT hZ56 (hw _ (List.mem_of_getElem? (i := 56) rfl)))) (mvT hZ56 (hw _ (List.mem_of_getElem? (i := 56) rfl))) (mvT hZ56 (hw _ (List.mem_of_getElem? (i := 55) rfl))) (by decide) (backOf (W := 0) (rm7 l Z a0 hw [] b2 q1 q2 q3 q4 T57.heap n0 O57 c98 c99 c100 c101) hZ56 (hw _ (List.mem_of_getElem? (i := 57) rfl)) (hw _ (List.mem_of_getElem? (i := 14) rfl)) (by decide) (by decide)) q93a q93c (g := (mkF m 126 #[.val (.long q1), .second, .val (.long q2), .second, .val (.long q3), .second, .val (.long q4), .second, .val (.int p5), .val (.ref r_1), .val (.ref b2), .val (.ref b16), .val (.ref b29), .val (.ref b42), .val (.ref b55), .val (.long (((q1 + (0 : Int64)) + (0 : Int64)) + (0 : Int64))), .second, .val (.long ((((0 : Int64) + q2) + (0 : Int64)) + (0 : Int64))), .second, .val (.long ((((0 : Int64) + (0 : Int64)) + q3) + (0 : Int64))), .second, .val (.long ((((0 : Int64) + (0 : Int64)) + (0 : Int64)) + q4)), .second, .unset, .unset] [(.ref b2)])) rfl (by rw [hml]; rfl) (Steps.refl _) (argsL := []) (rest := []) (lenOf pd___J rfl) rfl (by show 2 * 0 + _ ≤ _; exact Nat.le_of_eq rfl) (hb hby at_126) (fun _ _ => ⟨rfl, e92, (by decide : 17 + 0 ≤ _), (by decide : 165 + 0 ≤ _)⟩)
  dsimp only [Pt.U, Pt.locs, Pt.cells, Pt.slots] at X93 l93 y93 z93 st93 hQ93
  subst l93 y93 z93
  obtain ⟨rfl, Nq93, e93⟩ := hQ93
  have N93 := Fr.app N92 Nq93
  obtain ⟨fs, hr, hrun, hended, hRW⟩ := X93.leaveW hS56 (by rw [e93]; exact (Nat.le_trans hk56 Kc57.1)) (v := some (.int (1 : Int32))) (fun h => by rw [Bd.returns] at h; cases h)
  refine ⟨_, _, pre0 _ ?_, hrun, hended, _, _, rfl, ?_, hRW.1, hRW.2.1, hRW.2.2.1, hRW.2.2.2.mono (by decide) (by decide)⟩
  · show Steps p.tables e below (s₁.setTop (mkF m 0 #[.val (.long q1), .second, .val (.long q2), .second, .val (.long q3), .second, .val (.long q4), .second, .val (.int p5), .unset, .unset, .unset, .unset, .unset, .unset, .unset, .unset, .unset, .unset, .unset, .unset, .unset, .unset, .unset, .unset] [])) _
    refine XS.iload X0.here hx rfl (hb hby at_0) rfl ?_
    show Steps p.tables e below (s₁.setTop (mkF m 2 #[.val (.long q1), .second, .val (.long q2), .second, .val (.long q3), .second, .val (.long q4), .second, .val (.int p5), .unset, .unset, .unset, .unset, .unset, .unset, .unset, .unset, .unset, .unset, .unset, .unset, .unset, .unset, .unset, .unset] [(.int p5)])) _
    refine st1.trans ?_
    show Steps p.tables e below (T1.setTop (mkF m 5 #[.val (.long q1), .second, .val (.long q2), .second, .val (.long q3), .second, .val (.long q4), .second, .val (.int p5), .unset, .unset, .unset, .unset, .unset, .unset, .unset, .unset, .unset, .unset, .unset, .unset, .unset, .unset, .unset, .unset] [(.ref r_1)])) _
    refine XS.astore X1.here hx rfl (hb hby at_5) rfl rfl (l' := #[.val (.long q1), .second, .val (.long q2), .second, .val (.long q3), .second, .val (.long q4), .second, .val (.int p5), .val (.ref r_1), .unset, .unset, .unset, .unset, .unset, .unset, .unset, .unset, .unset, .unset, .unset, .unset, .unset, .unset, .unset]) rfl ?_
    show Steps p.tables e below (T1.setTop (mkF m 7 #[.val (.long q1), .second, .val (.long q2), .second, .val (.long q3), .second, .val (.long q4), .second, .val (.int p5), .val (.ref r_1), .unset, .unset, .unset, .unset, .unset, .unset, .unset, .unset, .unset, .unset, .unset, .unset, .unset, .unset, .unset] [])) _
    refine st2 _ ?_
    show Steps p.tables e below (T2.setTop (mkF m 10 #[.val (.long q1), .second, .val (.long q2), .second, .val (.long q3), .second, .val (.long q4), .second, .val (.int p5), .val (.ref r_1), .unset, .unset, .unset, .unset, .unset, .unset, .unset, .unset, .unset, .unset, .unset, .unset, .unset, .unset, .unset] [(.ref b2)])) _
    refine XS.dup X2.here hx rfl (hb hby at_10) rfl rfl ?_
    show Steps p.tables e below (T2.setTop (mkF m 11 #[.val (.long q1), .second, .val (.long q2), .second, .val (.long q3), .second, .val (.long q4), .second, .val (.int p5), .val (.ref r_1), .unset, .unset, .unset, .unset, .unset, .unset, .unset, .unset, .unset, .unset, .unset, .unset, .unset, .unset, .unset] [(.ref b2), (.ref b2)])) _
    refine st3 _ ?_
    show Steps p.tables e below (T3.setTop (mkF m 13 #[.val (.long q1), .second, .val (.long q2), .second, .val (.long q3), .second, .val (.long q4), .second, .val (.int p5), .val (.ref r_1), .unset, .unset, .unset, .unset, .unset, .unset, .unset, .unset, .unset, .unset, .unset, .unset, .unset, .unset, .unset] [(.ref lit3), (.ref b2), (.ref b2)])) _
    refine XS.aload X3.here hx rfl (hb hby at_13) rfl rfl ?_
    show Steps p.tables e below (T3.setTop (mkF m 15 #[.val (.long q1), .second, .val (.long q2), .second, .val (.long q3), .second, .val (.long q4), .second, .val (.int p5), .val (.ref r_1), .unset, .unset, .unset, .unset, .unset, .unset, .unset, .unset, .unset, .unset, .unset, .unset, .unset, .unset, .unset] [(.ref r_1), (.ref lit3), (.ref b2), (.ref b2)])) _
    refine XS.lloadN X3.here hx rfl (hb hby at_15) rfl ?_
    show Steps p.tables e below (T3.setTop (mkF m 16 #[.val (.long q1), .second, .val (.long q2), .second, .val (.long q3), .second, .val (.long q4), .second, .val (.int p5), .val (.ref r_1), .unset, .unset, .unset, .unset, .unset, .unset, .unset, .unset, .unset, .unset, .unset, .unset, .unset, .unset, .unset] [(.long q1), (.ref r_1), (.ref lit3), (.ref b2), (.ref b2)])) _
    refine XS.lloadN X3.here hx rfl (hb hby at_16) rfl ?_
    show Steps p.tables e below (T3.setTop (mkF m 17 #[.val (.long q1), .second, .val (.long q2), .second, .val (.long q3), .second, .val (.long q4), .second, .val (.int p5), .val (.ref r_1), .unset, .unset, .unset, .unset, .unset, .unset, .unset, .unset, .unset, .unset, .unset, .unset, .unset, .unset, .unset] [(.long q2), (.long q1), (.ref r_1), (.ref lit3), (.ref b2), (.ref b2)])) _
    refine XS.lload X3.here hx rfl (hb hby at_17) rfl ?_
    show Steps p.tables e below (T3.setTop (mkF m 19 #[.val (.long q1), .second, .val (.long q2), .second, .val (.long q3), .second, .val (.long q4), .second, .val (.int p5), .val (.ref r_1), .unset, .unset, .unset, .unset, .unset, .unset, .unset, .unset, .unset, .unset, .unset, .unset, .unset, .unset, .unset] [(.long q3), (.long q2), (.long q1), (.ref r_1), (.ref lit3), (.ref b2), (.ref b2)])) _
    refine XS.lload X3.here hx rfl (hb hby at_19) rfl ?_
    show Steps p.tables e below (T3.setTop (mkF m 21 #[.val (.long q1), .second, .val (.long q2), .second, .val (.long q3), .second, .val (.long q4), .second, .val (.int p5), .val (.ref r_1), .unset, .unset, .unset, .unset, .unset, .unset, .unset, .unset, .unset, .unset, .unset, .unset, .unset, .unset, .unset] [(.long q4), (.long q3), (.long q2), (.long q1), (.ref r_1), (.ref lit3), (.ref b2), (.ref b2)])) _
    refine st4.trans ?_
    show Steps p.tables e below (T4.setTop (mkF m 24 #[.val (.long q1), .second, .val (.long q2), .second, .val (.long q3), .second, .val (.long q4), .second, .val (.int p5), .val (.ref r_1), .unset, .unset, .unset, .unset, .unset, .unset, .unset, .unset, .unset, .unset, .unset, .unset, .unset, .unset, .unset] [(.ref b2)])) _
    refine XS.astore X4.here hx rfl (hb hby at_24) rfl rfl (l' := #[.val (.long q1), .second, .val (.long q2), .second, .val (.long q3), .second, .val (.long q4), .second, .val (.int p5), .val (.ref r_1), .val (.ref b2), .unset, .unset, .unset, .unset, .unset, .unset, .unset, .unset, .unset, .unset, .unset, .unset, .unset, .unset]) rfl ?_
    show Steps p.tables e below (T4.setTop (mkF m 26 #[.val (.long q1), .second, .val (.long q2), .second, .val (.long q3), .second, .val (.long q4), .second, .val (.int p5), .val (.ref r_1), .val (.ref b2), .unset, .unset, .unset, .unset, .unset, .unset, .unset, .unset, .unset, .unset, .unset, .unset, .unset, .unset] [])) _
    refine st16 _ ?_
    show Steps p.tables e below (T16.setTop (mkF m 29 #[.val (.long q1), .second, .val (.long q2), .second, .val (.long q3), .second, .val (.long q4), .second, .val (.int p5), .val (.ref r_1), .val (.ref b2), .unset, .unset, .unset, .unset, .unset, .unset, .unset, .unset, .unset, .unset, .unset, .unset, .unset, .unset] [(.ref b16)])) _
    refine XS.dup X16.here hx rfl (hb hby at_29) rfl rfl ?_
    show Steps p.tables e below (T16.setTop (mkF m 30 #[.val (.long q1), .second, .val (.long q2), .second, .val (.long q3), .second, .val (.long q4), .second, .val (.int p5), .val (.ref r_1), .val (.ref b2), .unset, .unset, .unset, .unset, .unset, .unset, .unset, .unset, .unset, .unset, .unset, .unset, .unset, .unset] [(.ref b16), (.ref b16)])) _
    refine st17 _ ?_
    show Steps p.tables e below (T17.setTop (mkF m 32 #[.val (.long q1), .second, .val (.long q2), .second, .val (.long q3), .second, .val (.long q4), .second, .val (.int p5), .val (.ref r_1), .val (.ref b2), .unset, .unset, .unset, .unset, .unset, .unset, .unset, .unset, .unset, .unset, .unset, .unset, .unset, .unset] [(.ref lit17), (.ref b16), (.ref b16)])) _
    refine XS.aload X17.here hx rfl (hb hby at_32) rfl rfl ?_
    show Steps p.tables e below (T17.setTop (mkF m 34 #[.val (.long q1), .second, .val (.long q2), .second, .val (.long q3), .second, .val (.long q4), .second, .val (.int p5), .val (.ref r_1), .val (.ref b2), .unset, .unset, .unset, .unset, .unset, .unset, .unset, .unset, .unset, .unset, .unset, .unset, .unset, .unset] [(.ref r_1), (.ref lit17), (.ref b16), (.ref b16)])) _
    refine XS.lloadN X17.here hx rfl (hb hby at_34) rfl ?_
    show Steps p.tables e below (T17.setTop (mkF m 35 #[.val (.long q1), .second, .val (.long q2), .second, .val (.long q3), .second, .val (.long q4), .second, .val (.int p5), .val (.ref r_1), .val (.ref b2), .unset, .unset, .unset, .unset, .unset, .unset, .unset, .unset, .unset, .unset, .unset, .unset, .unset, .unset] [(.long q1), (.ref r_1), (.ref lit17), (.ref b16), (.ref b16)])) _
    refine XS.lconst X17.here hx rfl (hb hby at_35) ?_
    show Steps p.tables e below (T17.setTop (mkF m 36 #[.val (.long q1), .second, .val (.long q2), .second, .val (.long q3), .second, .val (.long q4), .second, .val (.int p5), .val (.ref r_1), .val (.ref b2), .unset, .unset, .unset, .unset, .unset, .unset, .unset, .unset, .unset, .unset, .unset, .unset, .unset, .unset] [(.long (0 : Int64)), (.long q1), (.ref r_1), (.ref lit17), (.ref b16), (.ref b16)])) _
    refine XS.lconst X17.here hx rfl (hb hby at_36) ?_
    show Steps p.tables e below (T17.setTop (mkF m 37 #[.val (.long q1), .second, .val (.long q2), .second, .val (.long q3), .second, .val (.long q4), .second, .val (.int p5), .val (.ref r_1), .val (.ref b2), .unset, .unset, .unset, .unset, .unset, .unset, .unset, .unset, .unset, .unset, .unset, .unset, .unset, .unset] [(.long (0 : Int64)), (.long (0 : Int64)), (.long q1), (.ref r_1), (.ref lit17), (.ref b16), (.ref b16)])) _
    refine XS.lconst X17.here hx rfl (hb hby at_37) ?_
    show Steps p.tables e below (T17.setTop (mkF m 38 #[.val (.long q1), .second, .val (.long q2), .second, .val (.long q3), .second, .val (.long q4), .second, .val (.int p5), .val (.ref r_1), .val (.ref b2), .unset, .unset, .unset, .unset, .unset, .unset, .unset, .unset, .unset, .unset, .unset, .unset, .unset, .unset] [(.long (0 : Int64)), (.long (0 : Int64)), (.long (0 : Int64)), (.long q1), (.ref r_1), (.ref lit17), (.ref b16), (.ref b16)])) _
    refine st18.trans ?_
    show Steps p.tables e below (T18.setTop (mkF m 41 #[.val (.long q1), .second, .val (.long q2), .second, .val (.long q3), .second, .val (.long q4), .second, .val (.int p5), .val (.ref r_1), .val (.ref b2), .unset, .unset, .unset, .unset, .unset, .unset, .unset, .unset, .unset, .unset, .unset, .unset, .unset, .unset] [(.ref b16)])) _
    refine XS.astore X18.here hx rfl (hb hby at_41) rfl rfl (l' := #[.val (.long q1), .second, .val (.long q2), .second, .val (.long q3), .second, .val (.long q4), .second, .val (.int p5), .val (.ref r_1), .val (.ref b2), .val (.ref b16), .unset, .unset, .unset, .unset, .unset, .unset, .unset, .unset, .unset, .unset, .unset, .unset, .unset]) rfl ?_
    show Steps p.tables e below (T18.setTop (mkF m 43 #[.val (.long q1), .second, .val (.long q2), .second, .val (.long q3), .second, .val (.long q4), .second, .val (.int p5), .val (.ref r_1), .val (.ref b2), .val (.ref b16), .unset, .unset, .unset, .unset, .unset, .unset, .unset, .unset, .unset, .unset, .unset, .unset, .unset] [])) _
    refine st29 _ ?_
    show Steps p.tables e below (T29.setTop (mkF m 46 #[.val (.long q1), .second, .val (.long q2), .second, .val (.long q3), .second, .val (.long q4), .second, .val (.int p5), .val (.ref r_1), .val (.ref b2), .val (.ref b16), .unset, .unset, .unset, .unset, .unset, .unset, .unset, .unset, .unset, .unset, .unset, .unset, .unset] [(.ref b29)])) _
    refine XS.dup X29.here hx rfl (hb hby at_46) rfl rfl ?_
    show Steps p.tables e below (T29.setTop (mkF m 47 #[.val (.long q1), .second, .val (.long q2), .second, .val (.long q3), .second, .val (.long q4), .second, .val (.int p5), .val (.ref r_1), .val (.ref b2), .val (.ref b16), .unset, .unset, .unset, .unset, .unset, .unset, .unset, .unset, .unset, .unset, .unset, .unset, .unset] [(.ref b29), (.ref b29)])) _
    refine st30 _ ?_
    show Steps p.tables e below (T30.setTop (mkF m 49 #[.val (.long q1), .second, .val (.long q2), .second, .val (.long q3), .second, .val (.long q4), .second, .val (.int p5), .val (.ref r_1), .val (.ref b2), .val (.ref b16), .unset, .unset, .unset, .unset, .unset, .unset, .unset, .unset, .unset, .unset, .unset, .unset, .unset] [(.ref lit30), (.ref b29), (.ref b29)])) _
    refine XS.aload X30.here hx rfl (hb hby at_49) rfl rfl ?_
    show Steps p.tables e below (T30.setTop (mkF m 51 #[.val (.long q1), .second, .val (.long q2), .second, .val (.long q3), .second, .val (.long q4), .second, .val (.int p5), .val (.ref r_1), .val (.ref b2), .val (.ref b16), .unset, .unset, .unset, .unset, .unset, .unset, .unset, .unset, .unset, .unset, .unset, .unset, .unset] [(.ref r_1), (.ref lit30), (.ref b29), (.ref b29)])) _
    refine XS.lconst X30.here hx rfl (hb hby at_51) ?_
    show Steps p.tables e below (T30.setTop (mkF m 52 #[.val (.long q1), .second, .val (.long q2), .second, .val (.long q3), .second, .val (.long q4), .second, .val (.int p5), .val (.ref r_1), .val (.ref b2), .val (.ref b16), .unset, .unset, .unset, .unset, .unset, .unset, .unset, .unset, .unset, .unset, .unset, .unset, .unset] [(.long (0 : Int64)), (.ref r_1), (.ref lit30), (.ref b29), (.ref b29)])) _
    refine XS.lloadN X30.here hx rfl (hb hby at_52) rfl ?_
    show Steps p.tables e below (T30.setTop (mkF m 53 #[.val (.long q1), .second, .val (.long q2), .second, .val (.long q3), .second, .val (.long q4), .second, .val (.int p5), .val (.ref r_1), .val (.ref b2), .val (.ref b16), .unset, .unset, .unset, .unset, .unset, .unset, .unset, .unset, .unset, .unset, .unset, .unset, .unset] [(.long q2), (.long (0 : Int64)), (.ref r_1), (.ref lit30), (.ref b29), (.ref b29)])) _
    refine XS.lconst X30.here hx rfl (hb hby at_53) ?_
    show Steps p.tables e below (T30.setTop (mkF m 54 #[.val (.long q1), .second, .val (.long q2), .second, .val (.long q3), .second, .val (.long q4), .second, .val (.int p5), .val (.ref r_1), .val (.ref b2), .val (.ref b16), .unset, .unset, .unset, .unset, .unset, .unset, .unset, .unset, .unset, .unset, .unset, .unset, .unset] [(.long (0 : Int64)), (.long q2), (.long (0 : Int64)), (.ref r_1), (.ref lit30), (.ref b29), (.ref b29)])) _
    refine XS.lconst X30.here hx rfl (hb hby at_54) ?_
    show Steps p.tables e below (T30.setTop (mkF m 55 #[.val (.long q1), .second, .val (.long q2), .second, .val (.long q3), .second, .val (.long q4), .second, .val (.int p5), .val (.ref r_1), .val (.ref b2), .val (.ref b16), .unset, .unset, .unset, .unset, .unset, .unset, .unset, .unset, .unset, .unset, .unset, .unset, .unset] [(.long (0 : Int64)), (.long (0 : Int64)), (.long q2), (.long (0 : Int64)), (.ref r_1), (.ref lit30), (.ref b29), (.ref b29)])) _
    refine st31.trans ?_
    show Steps p.tables e below (T31.setTop (mkF m 58 #[.val (.long q1), .second, .val (.long q2), .second, .val (.long q3), .second, .val (.long q4), .second, .val (.int p5), .val (.ref r_1), .val (.ref b2), .val (.ref b16), .unset, .unset, .unset, .unset, .unset, .unset, .unset, .unset, .unset, .unset, .unset, .unset, .unset] [(.ref b29)])) _
    refine XS.astore X31.here hx rfl (hb hby at_58) rfl rfl (l' := #[.val (.long q1), .second, .val (.long q2), .second, .val (.long q3), .second, .val (.long q4), .second, .val (.int p5), .val (.ref r_1), .val (.ref b2), .val (.ref b16), .val (.ref b29), .unset, .unset, .unset, .unset, .unset, .unset, .unset, .unset, .unset, .unset, .unset, .unset]) rfl ?_
    show Steps p.tables e below (T31.setTop (mkF m 60 #[.val (.long q1), .second, .val (.long q2), .second, .val (.long q3), .second, .val (.long q4), .second, .val (.int p5), .val (.ref r_1), .val (.ref b2), .val (.ref b16), .val (.ref b29), .unset, .unset, .unset, .unset, .unset, .unset, .unset, .unset, .unset, .unset, .unset, .unset] [])) _
    refine st42 _ ?_
    show Steps p.tables e below (T42.setTop (mkF m 63 #[.val (.long q1), .second, .val (.long q2), .second, .val (.long q3), .second, .val (.long q4), .second, .val (.int p5), .val (.ref r_1), .val (.ref b2), .val (.ref b16), .val (.ref b29), .unset, .unset, .unset, .unset, .unset, .unset, .unset, .unset, .unset, .unset, .unset, .unset] [(.ref b42)])) _
    refine XS.dup X42.here hx rfl (hb hby at_63) rfl rfl ?_
    show Steps p.tables e below (T42.setTop (mkF m 64 #[.val (.long q1), .second, .val (.long q2), .second, .val (.long q3), .second, .val (.long q4), .second, .val (.int p5), .val (.ref r_1), .val (.ref b2), .val (.ref b16), .val (.ref b29), .unset, .unset, .unset, .unset, .unset, .unset, .unset, .unset, .unset, .unset, .unset, .unset] [(.ref b42), (.ref b42)])) _
    refine st43 _ ?_
    show Steps p.tables e below (T43.setTop (mkF m 66 #[.val (.long q1), .second, .val (.long q2), .second, .val (.long q3), .second, .val (.long q4), .second, .val (.int p5), .val (.ref r_1), .val (.ref b2), .val (.ref b16), .val (.ref b29), .unset, .unset, .unset, .unset, .unset, .unset, .unset, .unset, .unset, .unset, .unset, .unset] [(.ref lit43), (.ref b42), (.ref b42)])) _
    refine XS.aload X43.here hx rfl (hb hby at_66) rfl rfl ?_
    show Steps p.tables e below (T43.setTop (mkF m 68 #[.val (.long q1), .second, .val (.long q2), .second, .val (.long q3), .second, .val (.long q4), .second, .val (.int p5), .val (.ref r_1), .val (.ref b2), .val (.ref b16), .val (.ref b29), .unset, .unset, .unset, .unset, .unset, .unset, .unset, .unset, .unset, .unset, .unset, .unset] [(.ref r_1), (.ref lit43), (.ref b42), (.ref b42)])) _
    refine XS.lconst X43.here hx rfl (hb hby at_68) ?_
    show Steps p.tables e below (T43.setTop (mkF m 69 #[.val (.long q1), .second, .val (.long q2), .second, .val (.long q3), .second, .val (.long q4), .second, .val (.int p5), .val (.ref r_1), .val (.ref b2), .val (.ref b16), .val (.ref b29), .unset, .unset, .unset, .unset, .unset, .unset, .unset, .unset, .unset, .unset, .unset, .unset] [(.long (0 : Int64)), (.ref r_1), (.ref lit43), (.ref b42), (.ref b42)])) _
    refine XS.lconst X43.here hx rfl (hb hby at_69) ?_
    show Steps p.tables e below (T43.setTop (mkF m 70 #[.val (.long q1), .second, .val (.long q2), .second, .val (.long q3), .second, .val (.long q4), .second, .val (.int p5), .val (.ref r_1), .val (.ref b2), .val (.ref b16), .val (.ref b29), .unset, .unset, .unset, .unset, .unset, .unset, .unset, .unset, .unset, .unset, .unset, .unset] [(.long (0 : Int64)), (.long (0 : Int64)), (.ref r_1), (.ref lit43), (.ref b42), (.ref b42)])) _
    refine XS.lload X43.here hx rfl (hb hby at_70) rfl ?_
    show Steps p.tables e below (T43.setTop (mkF m 72 #[.val (.long q1), .second, .val (.long q2), .second, .val (.long q3), .second, .val (.long q4), .second, .val (.int p5), .val (.ref r_1), .val (.ref b2), .val (.ref b16), .val (.ref b29), .unset, .unset, .unset, .unset, .unset, .unset, .unset, .unset, .unset, .unset, .unset, .unset] [(.long q3), (.long (0 : Int64)), (.long (0 : Int64)), (.ref r_1), (.ref lit43), (.ref b42), (.ref b42)])) _
    refine XS.lconst X43.here hx rfl (hb hby at_72) ?_
    show Steps p.tables e below (T43.setTop (mkF m 73 #[.val (.long q1), .second, .val (.long q2), .second, .val (.long q3), .second, .val (.long q4), .second, .val (.int p5), .val (.ref r_1), .val (.ref b2), .val (.ref b16), .val (.ref b29), .unset, .unset, .unset, .unset, .unset, .unset, .unset, .unset, .unset, .unset, .unset, .unset] [(.long (0 : Int64)), (.long q3), (.long (0 : Int64)), (.long (0 : Int64)), (.ref r_1), (.ref lit43), (.ref b42), (.ref b42)])) _
    refine st44.trans ?_
    show Steps p.tables e below (T44.setTop (mkF m 76 #[.val (.long q1), .second, .val (.long q2), .second, .val (.long q3), .second, .val (.long q4), .second, .val (.int p5), .val (.ref r_1), .val (.ref b2), .val (.ref b16), .val (.ref b29), .unset, .unset, .unset, .unset, .unset, .unset, .unset, .unset, .unset, .unset, .unset, .unset] [(.ref b42)])) _
    refine XS.astore X44.here hx rfl (hb hby at_76) rfl rfl (l' := #[.val (.long q1), .second, .val (.long q2), .second, .val (.long q3), .second, .val (.long q4), .second, .val (.int p5), .val (.ref r_1), .val (.ref b2), .val (.ref b16), .val (.ref b29), .val (.ref b42), .unset, .unset, .unset, .unset, .unset, .unset, .unset, .unset, .unset, .unset, .unset]) rfl ?_
    show Steps p.tables e below (T44.setTop (mkF m 78 #[.val (.long q1), .second, .val (.long q2), .second, .val (.long q3), .second, .val (.long q4), .second, .val (.int p5), .val (.ref r_1), .val (.ref b2), .val (.ref b16), .val (.ref b29), .val (.ref b42), .unset, .unset, .unset, .unset, .unset, .unset, .unset, .unset, .unset, .unset, .unset] [])) _
    refine st55 _ ?_
    show Steps p.tables e below (T55.setTop (mkF m 81 #[.val (.long q1), .second, .val (.long q2), .second, .val (.long q3), .second, .val (.long q4), .second, .val (.int p5), .val (.ref r_1), .val (.ref b2), .val (.ref b16), .val (.ref b29), .val (.ref b42), .unset, .unset, .unset, .unset, .unset, .unset, .unset, .unset, .unset, .unset, .unset] [(.ref b55)])) _
    refine XS.dup X55.here hx rfl (hb hby at_81) rfl rfl ?_
    show Steps p.tables e below (T55.setTop (mkF m 82 #[.val (.long q1), .second, .val (.long q2), .second, .val (.long q3), .second, .val (.long q4), .second, .val (.int p5), .val (.ref r_1), .val (.ref b2), .val (.ref b16), .val (.ref b29), .val (.ref b42), .unset, .unset, .unset, .unset, .unset, .unset, .unset, .unset, .unset, .unset, .unset] [(.ref b55), (.ref b55)])) _
    refine st56 _ ?_
    show Steps p.tables e below (T56.setTop (mkF m 84 #[.val (.long q1), .second, .val (.long q2), .second, .val (.long q3), .second, .val (.long q4), .second, .val (.int p5), .val (.ref r_1), .val (.ref b2), .val (.ref b16), .val (.ref b29), .val (.ref b42), .unset, .unset, .unset, .unset, .unset, .unset, .unset, .unset, .unset, .unset, .unset] [(.ref lit56), (.ref b55), (.ref b55)])) _
    refine XS.aload X56.here hx rfl (hb hby at_84) rfl rfl ?_
    show Steps p.tables e below (T56.setTop (mkF m 86 #[.val (.long q1), .second, .val (.long q2), .second, .val (.long q3), .second, .val (.long q4), .second, .val (.int p5), .val (.ref r_1), .val (.ref b2), .val (.ref b16), .val (.ref b29), .val (.ref b42), .unset, .unset, .unset, .unset, .unset, .unset, .unset, .unset, .unset, .unset, .unset] [(.ref r_1), (.ref lit56), (.ref b55), (.ref b55)])) _
    refine XS.lconst X56.here hx rfl (hb hby at_86) ?_
    show Steps p.tables e below (T56.setTop (mkF m 87 #[.val (.long q1), .second, .val (.long q2), .second, .val (.long q3), .second, .val (.long q4), .second, .val (.int p5), .val (.ref r_1), .val (.ref b2), .val (.ref b16), .val (.ref b29), .val (.ref b42), .unset, .unset, .unset, .unset, .unset, .unset, .unset, .unset, .unset, .unset, .unset] [(.long (0 : Int64)), (.ref r_1), (.ref lit56), (.ref b55), (.ref b55)])) _
    refine XS.lconst X56.here hx rfl (hb hby at_87) ?_
    show Steps p.tables e below (T56.setTop (mkF m 88 #[.val (.long q1), .second, .val (.long q2), .second, .val (.long q3), .second, .val (.long q4), .second, .val (.int p5), .val (.ref r_1), .val (.ref b2), .val (.ref b16), .val (.ref b29), .val (.ref b42), .unset, .unset, .unset, .unset, .unset, .unset, .unset, .unset, .unset, .unset, .unset] [(.long (0 : Int64)), (.long (0 : Int64)), (.ref r_1), (.ref lit56), (.ref b55), (.ref b55)])) _
    refine XS.lconst X56.here hx rfl (hb hby at_88) ?_
    show Steps p.tables e below (T56.setTop (mkF m 89 #[.val (.long q1), .second, .val (.long q2), .second, .val (.long q3), .second, .val (.long q4), .second, .val (.int p5), .val (.ref r_1), .val (.ref b2), .val (.ref b16), .val (.ref b29), .val (.ref b42), .unset, .unset, .unset, .unset, .unset, .unset, .unset, .unset, .unset, .unset, .unset] [(.long (0 : Int64)), (.long (0 : Int64)), (.long (0 : Int64)), (.ref r_1), (.ref lit56), (.ref b55), (.ref b55)])) _
    refine XS.lload X56.here hx rfl (hb hby at_89) rfl ?_
    show Steps p.tables e below (T56.setTop (mkF m 91 #[.val (.long q1), .second, .val (.long q2), .second, .val (.long q3), .second, .val (.long q4), .second, .val (.int p5), .val (.ref r_1), .val (.ref b2), .val (.ref b16), .val (.ref b29), .val (.ref b42), .unset, .unset, .unset, .unset, .unset, .unset, .unset, .unset, .unset, .unset, .unset] [(.long q4), (.long (0 : Int64)), (.long (0 : Int64)), (.long (0 : Int64)), (.ref r_1), (.ref lit56), (.ref b55), (.ref b55)])) _
    refine st57.trans ?_
    show Steps p.tables e below (T57.setTop (mkF m 94 #[.val (.long q1), .second, .val (.long q2), .second, .val (.long q3), .second, .val (.long q4), .second, .val (.int p5), .val (.ref r_1), .val (.ref b2), .val (.ref b16), .val (.ref b29), .val (.ref b42), .unset, .unset, .unset, .unset, .unset, .unset, .unset, .unset, .unset, .unset, .unset] [(.ref b55)])) _
    refine XS.astore X57.here hx rfl (hb hby at_94) rfl rfl (l' := #[.val (.long q1), .second, .val (.long q2), .second, .val (.long q3), .second, .val (.long q4), .second, .val (.int p5), .val (.ref r_1), .val (.ref b2), .val (.ref b16), .val (.ref b29), .val (.ref b42), .val (.ref b55), .unset, .unset, .unset, .unset, .unset, .unset, .unset, .unset, .unset, .unset]) rfl ?_
    show Steps p.tables e below (T57.setTop (mkF m 96 #[.val (.long q1), .second, .val (.long q2), .second, .val (.long q3), .second, .val (.long q4), .second, .val (.int p5), .val (.ref r_1), .val (.ref b2), .val (.ref b16), .val (.ref b29), .val (.ref b42), .val (.ref b55), .unset, .unset, .unset, .unset, .unset, .unset, .unset, .unset, .unset, .unset] [])) _
    refine XS.aload X57.here hx rfl (hb hby at_96) rfl rfl ?_
    show Steps p.tables e below (T57.setTop (mkF m 98 #[.val (.long q1), .second, .val (.long q2), .second, .val (.long q3), .second, .val (.long q4), .second, .val (.int p5), .val (.ref r_1), .val (.ref b2), .val (.ref b16), .val (.ref b29), .val (.ref b42), .val (.ref b55), .unset, .unset, .unset, .unset, .unset, .unset, .unset, .unset, .unset, .unset] [(.ref b16)])) _
    refine st68.trans ?_
    show Steps p.tables e below (T68.setTop (mkF m 101 #[.val (.long q1), .second, .val (.long q2), .second, .val (.long q3), .second, .val (.long q4), .second, .val (.int p5), .val (.ref r_1), .val (.ref b2), .val (.ref b16), .val (.ref b29), .val (.ref b42), .val (.ref b55), .unset, .unset, .unset, .unset, .unset, .unset, .unset, .unset, .unset, .unset] [(.long (((q1 + (0 : Int64)) + (0 : Int64)) + (0 : Int64)))])) _
    refine XS.lstore X68.here hx rfl (hb hby at_101) rfl (l' := #[.val (.long q1), .second, .val (.long q2), .second, .val (.long q3), .second, .val (.long q4), .second, .val (.int p5), .val (.ref r_1), .val (.ref b2), .val (.ref b16), .val (.ref b29), .val (.ref b42), .val (.ref b55), .val (.long (((q1 + (0 : Int64)) + (0 : Int64)) + (0 : Int64))), .second, .unset, .unset, .unset, .unset, .unset, .unset, .unset, .unset]) rfl ?_
    show Steps p.tables e below (T68.setTop (mkF m 103 #[.val (.long q1), .second, .val (.long q2), .second, .val (.long q3), .second, .val (.long q4), .second, .val (.int p5), .val (.ref r_1), .val (.ref b2), .val (.ref b16), .val (.ref b29), .val (.ref b42), .val (.ref b55), .val (.long (((q1 + (0 : Int64)) + (0 : Int64)) + (0 : Int64))), .second, .unset, .unset, .unset, .unset, .unset, .unset, .unset, .unset] [])) _
    refine XS.aload X68.here hx rfl (hb hby at_103) rfl rfl ?_
    show Steps p.tables e below (T68.setTop (mkF m 105 #[.val (.long q1), .second, .val (.long q2), .second, .val (.long q3), .second, .val (.long q4), .second, .val (.int p5), .val (.ref r_1), .val (.ref b2), .val (.ref b16), .val (.ref b29), .val (.ref b42), .val (.ref b55), .val (.long (((q1 + (0 : Int64)) + (0 : Int64)) + (0 : Int64))), .second, .unset, .unset, .unset, .unset, .unset, .unset, .unset, .unset] [(.ref b29)])) _
    refine st77.trans ?_
    show Steps p.tables e below (T77.setTop (mkF m 108 #[.val (.long q1), .second, .val (.long q2), .second, .val (.long q3), .second, .val (.long q4), .second, .val (.int p5), .val (.ref r_1), .val (.ref b2), .val (.ref b16), .val (.ref b29), .val (.ref b42), .val (.ref b55), .val (.long (((q1 + (0 : Int64)) + (0 : Int64)) + (0 : Int64))), .second, .unset, .unset, .unset, .unset, .unset, .unset, .unset, .unset] [(.long ((((0 : Int64) + q2) + (0 : Int64)) + (0 : Int64)))])) _
    refine XS.lstore X77.here hx rfl (hb hby at_108) rfl (l' := #[.val (.long q1), .second, .val (.long q2), .second, .val (.long q3), .second, .val (.long q4), .second, .val (.int p5), .val (.ref r_1), .val (.ref b2), .val (.ref b16), .val (.ref b29), .val (.ref b42), .val (.ref b55), .val (.long (((q1 + (0 : Int64)) + (0 : Int64)) + (0 : Int64))), .second, .val (.long ((((0 : Int64) + q2) + (0 : Int64)) + (0 : Int64))), .second, .unset, .unset, .unset, .unset, .unset, .unset]) rfl ?_
    show Steps p.tables e below (T77.setTop (mkF m 110 #[.val (.long q1), .second, .val (.long q2), .second, .val (.long q3), .second, .val (.long q4), .second, .val (.int p5), .val (.ref r_1), .val (.ref b2), .val (.ref b16), .val (.ref b29), .val (.ref b42), .val (.ref b55), .val (.long (((q1 + (0 : Int64)) + (0 : Int64)) + (0 : Int64))), .second, .val (.long ((((0 : Int64) + q2) + (0 : Int64)) + (0 : Int64))), .second, .unset, .unset, .unset, .unset, .unset, .unset] [])) _
    refine XS.aload X77.here hx rfl (hb hby at_110) rfl rfl ?_
    show Steps p.tables e below (T77.setTop (mkF m 112 #[.val (.long q1), .second, .val (.long q2), .second, .val (.long q3), .second, .val (.long q4), .second, .val (.int p5), .val (.ref r_1), .val (.ref b2), .val (.ref b16), .val (.ref b29), .val (.ref b42), .val (.ref b55), .val (.long (((q1 + (0 : Int64)) + (0 : Int64)) + (0 : Int64))), .second, .val (.long ((((0 : Int64) + q2) + (0 : Int64)) + (0 : Int64))), .second, .unset, .unset, .unset, .unset, .unset, .unset] [(.ref b42)])) _
    refine st85.trans ?_
    show Steps p.tables e below (T85.setTop (mkF m 115 #[.val (.long q1), .second, .val (.long q2), .second, .val (.long q3), .second, .val (.long q4), .second, .val (.int p5), .val (.ref r_1), .val (.ref b2), .val (.ref b16), .val (.ref b29), .val (.ref b42), .val (.ref b55), .val (.long (((q1 + (0 : Int64)) + (0 : Int64)) + (0 : Int64))), .second, .val (.long ((((0 : Int64) + q2) + (0 : Int64)) + (0 : Int64))), .second, .unset, .unset, .unset, .unset, .unset, .unset] [(.long ((((0 : Int64) + (0 : Int64)) + q3) + (0 : Int64)))])) _
    refine XS.lstore X85.here hx rfl (hb hby at_115) rfl (l' := #[.val (.long q1), .second, .val (.long q2), .second, .val (.long q3), .second, .val (.long q4), .second, .val (.int p5), .val (.ref r_1), .val (.ref b2), .val (.ref b16), .val (.ref b29), .val (.ref b42), .val (.ref b55), .val (.long (((q1 + (0 : Int64)) + (0 : Int64)) + (0 : Int64))), .second, .val (.long ((((0 : Int64) + q2) + (0 : Int64)) + (0 : Int64))), .second, .val (.long ((((0 : Int64) + (0 : Int64)) + q3) + (0 : Int64))), .second, .unset, .unset, .unset, .unset]) rfl ?_
    show Steps p.tables e below (T85.setTop (mkF m 117 #[.val (.long q1), .second, .val (.long q2), .second, .val (.long q3), .second, .val (.long q4), .second, .val (.int p5), .val (.ref r_1), .val (.ref b2), .val (.ref b16), .val (.ref b29), .val (.ref b42), .val (.ref b55), .val (.long (((q1 + (0 : Int64)) + (0 : Int64)) + (0 : Int64))), .second, .val (.long ((((0 : Int64) + q2) + (0 : Int64)) + (0 : Int64))), .second, .val (.long ((((0 : Int64) + (0 : Int64)) + q3) + (0 : Int64))), .second, .unset, .unset, .unset, .unset] [])) _
    refine XS.aload X85.here hx rfl (hb hby at_117) rfl rfl ?_
    show Steps p.tables e below (T85.setTop (mkF m 119 #[.val (.long q1), .second, .val (.long q2), .second, .val (.long q3), .second, .val (.long q4), .second, .val (.int p5), .val (.ref r_1), .val (.ref b2), .val (.ref b16), .val (.ref b29), .val (.ref b42), .val (.ref b55), .val (.long (((q1 + (0 : Int64)) + (0 : Int64)) + (0 : Int64))), .second, .val (.long ((((0 : Int64) + q2) + (0 : Int64)) + (0 : Int64))), .second, .val (.long ((((0 : Int64) + (0 : Int64)) + q3) + (0 : Int64))), .second, .unset, .unset, .unset, .unset] [(.ref b55)])) _
    refine st92.trans ?_
    show Steps p.tables e below (T92.setTop (mkF m 122 #[.val (.long q1), .second, .val (.long q2), .second, .val (.long q3), .second, .val (.long q4), .second, .val (.int p5), .val (.ref r_1), .val (.ref b2), .val (.ref b16), .val (.ref b29), .val (.ref b42), .val (.ref b55), .val (.long (((q1 + (0 : Int64)) + (0 : Int64)) + (0 : Int64))), .second, .val (.long ((((0 : Int64) + q2) + (0 : Int64)) + (0 : Int64))), .second, .val (.long ((((0 : Int64) + (0 : Int64)) + q3) + (0 : Int64))), .second, .unset, .unset, .unset, .unset] [(.long ((((0 : Int64) + (0 : Int64)) + (0 : Int64)) + q4))])) _
    refine XS.lstore X92.here hx rfl (hb hby at_122) rfl (l' := #[.val (.long q1), .second, .val (.long q2), .second, .val (.long q3), .second, .val (.long q4), .second, .val (.int p5), .val (.ref r_1), .val (.ref b2), .val (.ref b16), .val (.ref b29), .val (.ref b42), .val (.ref b55), .val (.long (((q1 + (0 : Int64)) + (0 : Int64)) + (0 : Int64))), .second, .val (.long ((((0 : Int64) + q2) + (0 : Int64)) + (0 : Int64))), .second, .val (.long ((((0 : Int64) + (0 : Int64)) + q3) + (0 : Int64))), .second, .val (.long ((((0 : Int64) + (0 : Int64)) + (0 : Int64)) + q4)), .second, .unset, .unset]) rfl ?_
    show Steps p.tables e below (T92.setTop (mkF m 124 #[.val (.long q1), .second, .val (.long q2), .second, .val (.long q3), .second, .val (.long q4), .second, .val (.int p5), .val (.ref r_1), .val (.ref b2), .val (.ref b16), .val (.ref b29), .val (.ref b42), .val (.ref b55), .val (.long (((q1 + (0 : Int64)) + (0 : Int64)) + (0 : Int64))), .second, .val (.long ((((0 : Int64) + q2) + (0 : Int64)) + (0 : Int64))), .second, .val (.long ((((0 : Int64) + (0 : Int64)) + q3) + (0 : Int64))), .second, .val (.long ((((0 : Int64) + (0 : Int64)) + (0 : Int64)) + q4)), .second, .unset, .unset] [])) _
    refine XS.aload X92.here hx rfl (hb hby at_124) rfl rfl ?_
    show Steps p.tables e below (T92.setTop (mkF m 126 #[.val (.long q1), .second, .val (.long q2), .second, .val (.long q3), .second, .val (.long q4), .second, .val (.int p5), .val (.ref r_1), .val (.ref b2), .val (.ref b16), .val (.ref b29), .val (.ref b42), .val (.ref b55), .val (.long (((q1 + (0 : Int64)) + (0 : Int64)) + (0 : Int64))), .second, .val (.long ((((0 : Int64) + q2) + (0 : Int64)) + (0 : Int64))), .second, .val (.long ((((0 : Int64) + (0 : Int64)) + q3) + (0 : Int64))), .second, .val (.long ((((0 : Int64) + (0 : Int64)) + (0 : Int64)) + q4)), .second, .unset, .unset] [(.ref b2)])) _
    refine st93.trans ?_
    show Steps p.tables e below (T93.setTop (mkF m 129 #[.val (.long q1), .second, .val (.long q2), .second, .val (.long q3), .second, .val (.long q4), .second, .val (.int p5), .val (.ref r_1), .val (.ref b2), .val (.ref b16), .val (.ref b29), .val (.ref b42), .val (.ref b55), .val (.long (((q1 + (0 : Int64)) + (0 : Int64)) + (0 : Int64))), .second, .val (.long ((((0 : Int64) + q2) + (0 : Int64)) + (0 : Int64))), .second, .val (.long ((((0 : Int64) + (0 : Int64)) + q3) + (0 : Int64))), .second, .val (.long ((((0 : Int64) + (0 : Int64)) + (0 : Int64)) + q4)), .second, .unset, .unset] [(.long (((q1 + q2) + q3) + q4))])) _
    refine XS.lstore X93.here hx rfl (hb hby at_129) rfl (l' := #[.val (.long q1), .second, .val (.long q2), .second, .val (.long q3), .second, .val (.long q4), .second, .val (.int p5), .val (.ref r_1), .val (.ref b2), .val (.ref b16), .val (.ref b29), .val (.ref b42), .val (.ref b55), .val (.long (((q1 + (0 : Int64)) + (0 : Int64)) + (0 : Int64))), .second, .val (.long ((((0 : Int64) + q2) + (0 : Int64)) + (0 : Int64))), .second, .val (.long ((((0 : Int64) + (0 : Int64)) + q3) + (0 : Int64))), .second, .val (.long ((((0 : Int64) + (0 : Int64)) + (0 : Int64)) + q4)), .second, .val (.long (((q1 + q2) + q3) + q4)), .second]) rfl ?_
    show Steps p.tables e below (T93.setTop (mkF m 131 #[.val (.long q1), .second, .val (.long q2), .second, .val (.long q3), .second, .val (.long q4), .second, .val (.int p5), .val (.ref r_1), .val (.ref b2), .val (.ref b16), .val (.ref b29), .val (.ref b42), .val (.ref b55), .val (.long (((q1 + (0 : Int64)) + (0 : Int64)) + (0 : Int64))), .second, .val (.long ((((0 : Int64) + q2) + (0 : Int64)) + (0 : Int64))), .second, .val (.long ((((0 : Int64) + (0 : Int64)) + q3) + (0 : Int64))), .second, .val (.long ((((0 : Int64) + (0 : Int64)) + (0 : Int64)) + q4)), .second, .val (.long (((q1 + q2) + q3) + q4)), .second] [])) _
    refine XS.lload X93.here hx rfl (hb hby at_131) rfl ?_
    show Steps p.tables e below (T93.setTop (mkF m 133 #[.val (.long q1), .second, .val (.long q2), .second, .val (.long q3), .second, .val (.long q4), .second, .val (.int p5), .val (.ref r_1), .val (.ref b2), .val (.ref b16), .val (.ref b29), .val (.ref b42), .val (.ref b55), .val (.long (((q1 + (0 : Int64)) + (0 : Int64)) + (0 : Int64))), .second, .val (.long ((((0 : Int64) + q2) + (0 : Int64)) + (0 : Int64))), .second, .val (.long ((((0 : Int64) + (0 : Int64)) + q3) + (0 : Int64))), .second, .val (.long ((((0 : Int64) + (0 : Int64)) + (0 : Int64)) + q4)), .second, .val (.long (((q1 + q2) + q3) + q4)), .second] [(.long (((q1 + (0 : Int64)) + (0 : Int64)) + (0 : Int64)))])) _
    refine XS.lloadN X93.here hx rfl (hb hby at_133) rfl ?_
    show Steps p.tables e below (T93.setTop (mkF m 134 #[.val (.long q1), .second, .val (.long q2), .second, .val (.long q3), .second, .val (.long q4), .second, .val (.int p5), .val (.ref r_1), .val (.ref b2), .val (.ref b16), .val (.ref b29), .val (.ref b42), .val (.ref b55), .val (.long (((q1 + (0 : Int64)) + (0 : Int64)) + (0 : Int64))), .second, .val (.long ((((0 : Int64) + q2) + (0 : Int64)) + (0 : Int64))), .second, .val (.long ((((0 : Int64) + (0 : Int64)) + q3) + (0 : Int64))), .second, .val (.long ((((0 : Int64) + (0 : Int64)) + (0 : Int64)) + q4)), .second, .val (.long (((q1 + q2) + q3) + q4)), .second] [(.long q1), (.long (((q1 + (0 : Int64)) + (0 : Int64)) + (0 : Int64)))])) _
    refine XS.lcmp X93.here hx rfl (hb hby at_134) rfl ?_
    show Steps p.tables e below (T93.setTop (mkF m 135 #[.val (.long q1), .second, .val (.long q2), .second, .val (.long q3), .second, .val (.long q4), .second, .val (.int p5), .val (.ref r_1), .val (.ref b2), .val (.ref b16), .val (.ref b29), .val (.ref b42), .val (.ref b55), .val (.long (((q1 + (0 : Int64)) + (0 : Int64)) + (0 : Int64))), .second, .val (.long ((((0 : Int64) + q2) + (0 : Int64)) + (0 : Int64))), .second, .val (.long ((((0 : Int64) + (0 : Int64)) + q3) + (0 : Int64))), .second, .val (.long ((((0 : Int64) + (0 : Int64)) + (0 : Int64)) + q4)), .second, .val (.long (((q1 + q2) + q3) + q4)), .second] [(.int (lcmpW (((q1 + (0 : Int64)) + (0 : Int64)) + (0 : Int64)) q1))])) _
    refine XS.ifNo X93.here hx rfl (hb hby at_135) rfl ((if0 _ _).trans (teq hc135).2) ?_
    show Steps p.tables e below (T93.setTop (mkF m 138 #[.val (.long q1), .second, .val (.long q2), .second, .val (.long q3), .second, .val (.long q4), .second, .val (.int p5), .val (.ref r_1), .val (.ref b2), .val (.ref b16), .val (.ref b29), .val (.ref b42), .val (.ref b55), .val (.long (((q1 + (0 : Int64)) + (0 : Int64)) + (0 : Int64))), .second, .val (.long ((((0 : Int64) + q2) + (0 : Int64)) + (0 : Int64))), .second, .val (.long ((((0 : Int64) + (0 : Int64)) + q3) + (0 : Int64))), .second, .val (.long ((((0 : Int64) + (0 : Int64)) + (0 : Int64)) + q4)), .second, .val (.long (((q1 + q2) + q3) + q4)), .second] [])) _
    refine XS.lload X93.here hx rfl (hb hby at_138) rfl ?_
    show Steps p.tables e below (T93.setTop (mkF m 140 #[.val (.long q1), .second, .val (.long q2), .second, .val (.long q3), .second, .val (.long q4), .second, .val (.int p5), .val (.ref r_1), .val (.ref b2), .val (.ref b16), .val (.ref b29), .val (.ref b42), .val (.ref b55), .val (.long (((q1 + (0 : Int64)) + (0 : Int64)) + (0 : Int64))), .second, .val (.long ((((0 : Int64) + q2) + (0 : Int64)) + (0 : Int64))), .second, .val (.long ((((0 : Int64) + (0 : Int64)) + q3) + (0 : Int64))), .second, .val (.long ((((0 : Int64) + (0 : Int64)) + (0 : Int64)) + q4)), .second, .val (.long (((q1 + q2) + q3) + q4)), .second] [(.long ((((0 : Int64) + q2) + (0 : Int64)) + (0 : Int64)))])) _
    refine XS.lloadN X93.here hx rfl (hb hby at_140) rfl ?_
    show Steps p.tables e below (T93.setTop (mkF m 141 #[.val (.long q1), .second, .val (.long q2), .second, .val (.long q3), .second, .val (.long q4), .second, .val (.int p5), .val (.ref r_1), .val (.ref b2), .val (.ref b16), .val (.ref b29), .val (.ref b42), .val (.ref b55), .val (.long (((q1 + (0 : Int64)) + (0 : Int64)) + (0 : Int64))), .second, .val (.long ((((0 : Int64) + q2) + (0 : Int64)) + (0 : Int64))), .second, .val (.long ((((0 : Int64) + (0 : Int64)) + q3) + (0 : Int64))), .second, .val (.long ((((0 : Int64) + (0 : Int64)) + (0 : Int64)) + q4)), .second, .val (.long (((q1 + q2) + q3) + q4)), .second] [(.long q2), (.long ((((0 : Int64) + q2) + (0 : Int64)) + (0 : Int64)))])) _
    refine XS.lcmp X93.here hx rfl (hb hby at_141) rfl ?_
    show Steps p.tables e below (T93.setTop (mkF m 142 #[.val (.long q1), .second, .val (.long q2), .second, .val (.long q3), .second, .val (.long q4), .second, .val (.int p5), .val (.ref r_1), .val (.ref b2), .val (.ref b16), .val (.ref b29), .val (.ref b42), .val (.ref b55), .val (.long (((q1 + (0 : Int64)) + (0 : Int64)) + (0 : Int64))), .second, .val (.long ((((0 : Int64) + q2) + (0 : Int64)) + (0 : Int64))), .second, .val (.long ((((0 : Int64) + (0 : Int64)) + q3) + (0 : Int64))), .second, .val (.long ((((0 : Int64) + (0 : Int64)) + (0 : Int64)) + q4)), .second, .val (.long (((q1 + q2) + q3) + q4)), .second] [(.int (lcmpW ((((0 : Int64) + q2) + (0 : Int64)) + (0 : Int64)) q2))])) _
    refine XS.ifNo X93.here hx rfl (hb hby at_142) rfl ((if0 _ _).trans (teq hc142).2) ?_
    show Steps p.tables e below (T93.setTop (mkF m 145 #[.val (.long q1), .second, .val (.long q2), .second, .val (.long q3), .second, .val (.long q4), .second, .val (.int p5), .val (.ref r_1), .val (.ref b2), .val (.ref b16), .val (.ref b29), .val (.ref b42), .val (.ref b55), .val (.long (((q1 + (0 : Int64)) + (0 : Int64)) + (0 : Int64))), .second, .val (.long ((((0 : Int64) + q2) + (0 : Int64)) + (0 : Int64))), .second, .val (.long ((((0 : Int64) + (0 : Int64)) + q3) + (0 : Int64))), .second, .val (.long ((((0 : Int64) + (0 : Int64)) + (0 : Int64)) + q4)), .second, .val (.long (((q1 + q2) + q3) + q4)), .second] [])) _
    refine XS.lload X93.here hx rfl (hb hby at_145) rfl ?_
    show Steps p.tables e below (T93.setTop (mkF m 147 #[.val (.long q1), .second, .val (.long q2), .second, .val (.long q3), .second, .val (.long q4), .second, .val (.int p5), .val (.ref r_1), .val (.ref b2), .val (.ref b16), .val (.ref b29), .val (.ref b42), .val (.ref b55), .val (.long (((q1 + (0 : Int64)) + (0 : Int64)) + (0 : Int64))), .second, .val (.long ((((0 : Int64) + q2) + (0 : Int64)) + (0 : Int64))), .second, .val (.long ((((0 : Int64) + (0 : Int64)) + q3) + (0 : Int64))), .second, .val (.long ((((0 : Int64) + (0 : Int64)) + (0 : Int64)) + q4)), .second, .val (.long (((q1 + q2) + q3) + q4)), .second] [(.long ((((0 : Int64) + (0 : Int64)) + q3) + (0 : Int64)))])) _
    refine XS.lload X93.here hx rfl (hb hby at_147) rfl ?_
    show Steps p.tables e below (T93.setTop (mkF m 149 #[.val (.long q1), .second, .val (.long q2), .second, .val (.long q3), .second, .val (.long q4), .second, .val (.int p5), .val (.ref r_1), .val (.ref b2), .val (.ref b16), .val (.ref b29), .val (.ref b42), .val (.ref b55), .val (.long (((q1 + (0 : Int64)) + (0 : Int64)) + (0 : Int64))), .second, .val (.long ((((0 : Int64) + q2) + (0 : Int64)) + (0 : Int64))), .second, .val (.long ((((0 : Int64) + (0 : Int64)) + q3) + (0 : Int64))), .second, .val (.long ((((0 : Int64) + (0 : Int64)) + (0 : Int64)) + q4)), .second, .val (.long (((q1 + q2) + q3) + q4)), .second] [(.long q3), (.long ((((0 : Int64) + (0 : Int64)) + q3) + (0 : Int64)))])) _
    refine XS.lcmp X93.here hx rfl (hb hby at_149) rfl ?_
    show Steps p.tables e below (T93.setTop (mkF m 150 #[.val (.long q1), .second, .val (.long q2), .second, .val (.long q3), .second, .val (.long q4), .second, .val (.int p5), .val (.ref r_1), .val (.ref b2), .val (.ref b16), .val (.ref b29), .val (.ref b42), .val (.ref b55), .val (.long (((q1 + (0 : Int64)) + (0 : Int64)) + (0 : Int64))), .second, .val (.long ((((0 : Int64) + q2) + (0 : Int64)) + (0 : Int64))), .second, .val (.long ((((0 : Int64) + (0 : Int64)) + q3) + (0 : Int64))), .second, .val (.long ((((0 : Int64) + (0 : Int64)) + (0 : Int64)) + q4)), .second, .val (.long (((q1 + q2) + q3) + q4)), .second] [(.int (lcmpW ((((0 : Int64) + (0 : Int64)) + q3) + (0 : Int64)) q3))])) _
    refine XS.ifNo X93.here hx rfl (hb hby at_150) rfl ((if0 _ _).trans (teq hc150).2) ?_
    show Steps p.tables e below (T93.setTop (mkF m 153 #[.val (.long q1), .second, .val (.long q2), .second, .val (.long q3), .second, .val (.long q4), .second, .val (.int p5), .val (.ref r_1), .val (.ref b2), .val (.ref b16), .val (.ref b29), .val (.ref b42), .val (.ref b55), .val (.long (((q1 + (0 : Int64)) + (0 : Int64)) + (0 : Int64))), .second, .val (.long ((((0 : Int64) + q2) + (0 : Int64)) + (0 : Int64))), .second, .val (.long ((((0 : Int64) + (0 : Int64)) + q3) + (0 : Int64))), .second, .val (.long ((((0 : Int64) + (0 : Int64)) + (0 : Int64)) + q4)), .second, .val (.long (((q1 + q2) + q3) + q4)), .second] [])) _
    refine XS.lload X93.here hx rfl (hb hby at_153) rfl ?_
    show Steps p.tables e below (T93.setTop (mkF m 155 #[.val (.long q1), .second, .val (.long q2), .second, .val (.long q3), .second, .val (.long q4), .second, .val (.int p5), .val (.ref r_1), .val (.ref b2), .val (.ref b16), .val (.ref b29), .val (.ref b42), .val (.ref b55), .val (.long (((q1 + (0 : Int64)) + (0 : Int64)) + (0 : Int64))), .second, .val (.long ((((0 : Int64) + q2) + (0 : Int64)) + (0 : Int64))), .second, .val (.long ((((0 : Int64) + (0 : Int64)) + q3) + (0 : Int64))), .second, .val (.long ((((0 : Int64) + (0 : Int64)) + (0 : Int64)) + q4)), .second, .val (.long (((q1 + q2) + q3) + q4)), .second] [(.long ((((0 : Int64) + (0 : Int64)) + (0 : Int64)) + q4))])) _
    refine XS.lload X93.here hx rfl (hb hby at_155) rfl ?_
    show Steps p.tables e below (T93.setTop (mkF m 157 #[.val (.long q1), .second, .val (.long q2), .second, .val (.long q3), .second, .val (.long q4), .second, .val (.int p5), .val (.ref r_1), .val (.ref b2), .val (.ref b16), .val (.ref b29), .val (.ref b42), .val (.ref b55), .val (.long (((q1 + (0 : Int64)) + (0 : Int64)) + (0 : Int64))), .second, .val (.long ((((0 : Int64) + q2) + (0 : Int64)) + (0 : Int64))), .second, .val (.long ((((0 : Int64) + (0 : Int64)) + q3) + (0 : Int64))), .second, .val (.long ((((0 : Int64) + (0 : Int64)) + (0 : Int64)) + q4)), .second, .val (.long (((q1 + q2) + q3) + q4)), .second] [(.long q4), (.long ((((0 : Int64) + (0 : Int64)) + (0 : Int64)) + q4))])) _
    refine XS.lcmp X93.here hx rfl (hb hby at_157) rfl ?_
    show Steps p.tables e below (T93.setTop (mkF m 158 #[.val (.long q1), .second, .val (.long q2), .second, .val (.long q3), .second, .val (.long q4), .second, .val (.int p5), .val (.ref r_1), .val (.ref b2), .val (.ref b16), .val (.ref b29), .val (.ref b42), .val (.ref b55), .val (.long (((q1 + (0 : Int64)) + (0 : Int64)) + (0 : Int64))), .second, .val (.long ((((0 : Int64) + q2) + (0 : Int64)) + (0 : Int64))), .second, .val (.long ((((0 : Int64) + (0 : Int64)) + q3) + (0 : Int64))), .second, .val (.long ((((0 : Int64) + (0 : Int64)) + (0 : Int64)) + q4)), .second, .val (.long (((q1 + q2) + q3) + q4)), .second] [(.int (lcmpW ((((0 : Int64) + (0 : Int64)) + (0 : Int64)) + q4) q4))])) _
    refine XS.ifNo X93.here hx rfl (hb hby at_158) rfl ((if0 _ _).trans (teq hc158).2) ?_
    show Steps p.tables e below (T93.setTop (mkF m 161 #[.val (.long q1), .second, .val (.long q2), .second, .val (.long q3), .second, .val (.long q4), .second, .val (.int p5), .val (.ref r_1), .val (.ref b2), .val (.ref b16), .val (.ref b29), .val (.ref b42), .val (.ref b55), .val (.long (((q1 + (0 : Int64)) + (0 : Int64)) + (0 : Int64))), .second, .val (.long ((((0 : Int64) + q2) + (0 : Int64)) + (0 : Int64))), .second, .val (.long ((((0 : Int64) + (0 : Int64)) + q3) + (0 : Int64))), .second, .val (.long ((((0 : Int64) + (0 : Int64)) + (0 : Int64)) + q4)), .second, .val (.long (((q1 + q2) + q3) + q4)), .second] [])) _
    refine XS.lload X93.here hx rfl (hb hby at_161) rfl ?_
    show Steps p.tables e below (T93.setTop (mkF m 163 #[.val (.long q1), .second, .val (.long q2), .second, .val (.long q3), .second, .val (.long q4), .second, .val (.int p5), .val (.ref r_1), .val (.ref b2), .val (.ref b16), .val (.ref b29), .val (.ref b42), .val (.ref b55), .val (.long (((q1 + (0 : Int64)) + (0 : Int64)) + (0 : Int64))), .second, .val (.long ((((0 : Int64) + q2) + (0 : Int64)) + (0 : Int64))), .second, .val (.long ((((0 : Int64) + (0 : Int64)) + q3) + (0 : Int64))), .second, .val (.long ((((0 : Int64) + (0 : Int64)) + (0 : Int64)) + q4)), .second, .val (.long (((q1 + q2) + q3) + q4)), .second] [(.long (((q1 + q2) + q3) + q4))])) _
    refine XS.lload X93.here hx rfl (hb hby at_163) rfl ?_
    show Steps p.tables e below (T93.setTop (mkF m 165 #[.val (.long q1), .second, .val (.long q2), .second, .val (.long q3), .second, .val (.long q4), .second, .val (.int p5), .val (.ref r_1), .val (.ref b2), .val (.ref b16), .val (.ref b29), .val (.ref b42), .val (.ref b55), .val (.long (((q1 + (0 : Int64)) + (0 : Int64)) + (0 : Int64))), .second, .val (.long ((((0 : Int64) + q2) + (0 : Int64)) + (0 : Int64))), .second, .val (.long ((((0 : Int64) + (0 : Int64)) + q3) + (0 : Int64))), .second, .val (.long ((((0 : Int64) + (0 : Int64)) + (0 : Int64)) + q4)), .second, .val (.long (((q1 + q2) + q3) + q4)), .second] [(.long (((q1 + (0 : Int64)) + (0 : Int64)) + (0 : Int64))), (.long (((q1 + q2) + q3) + q4))])) _
    refine XS.lload X93.here hx rfl (hb hby at_165) rfl ?_
    show Steps p.tables e below (T93.setTop (mkF m 167 #[.val (.long q1), .second, .val (.long q2), .second, .val (.long q3), .second, .val (.long q4), .second, .val (.int p5), .val (.ref r_1), .val (.ref b2), .val (.ref b16), .val (.ref b29), .val (.ref b42), .val (.ref b55), .val (.long (((q1 + (0 : Int64)) + (0 : Int64)) + (0 : Int64))), .second, .val (.long ((((0 : Int64) + q2) + (0 : Int64)) + (0 : Int64))), .second, .val (.long ((((0 : Int64) + (0 : Int64)) + q3) + (0 : Int64))), .second, .val (.long ((((0 : Int64) + (0 : Int64)) + (0 : Int64)) + q4)), .second, .val (.long (((q1 + q2) + q3) + q4)), .second] [(.long ((((0 : Int64) + q2) + (0 : Int64)) + (0 : Int64))), (.long (((q1 + (0 : Int64)) + (0 : Int64)) + (0 : Int64))), (.long (((q1 + q2) + q3) + q4))])) _
    refine XS.ladd X93.here hx rfl (hb hby at_167) rfl ?_
    show Steps p.tables e below (T93.setTop (mkF m 168 #[.val (.long q1), .second, .val (.long q2), .second, .val (.long q3), .second, .val (.long q4), .second, .val (.int p5), .val (.ref r_1), .val (.ref b2), .val (.ref b16), .val (.ref b29), .val (.ref b42), .val (.ref b55), .val (.long (((q1 + (0 : Int64)) + (0 : Int64)) + (0 : Int64))), .second, .val (.long ((((0 : Int64) + q2) + (0 : Int64)) + (0 : Int64))), .second, .val (.long ((((0 : Int64) + (0 : Int64)) + q3) + (0 : Int64))), .second, .val (.long ((((0 : Int64) + (0 : Int64)) + (0 : Int64)) + q4)), .second, .val (.long (((q1 + q2) + q3) + q4)), .second] [(.long ((((q1 + (0 : Int64)) + (0 : Int64)) + (0 : Int64)) + ((((0 : Int64) + q2) + (0 : Int64)) + (0 : Int64)))), (.long (((q1 + q2) + q3) + q4))])) _
    refine XS.lload X93.here hx rfl (hb hby at_168) rfl ?_
    show Steps p.tables e below (T93.setTop (mkF m 170 #[.val (.long q1), .second, .val (.long q2), .second, .val (.long q3), .second, .val (.long q4), .second, .val (.int p5), .val (.ref r_1), .val (.ref b2), .val (.ref b16), .val (.ref b29), .val (.ref b42), .val (.ref b55), .val (.long (((q1 + (0 : Int64)) + (0 : Int64)) + (0 : Int64))), .second, .val (.long ((((0 : Int64) + q2) + (0 : Int64)) + (0 : Int64))), .second, .val (.long ((((0 : Int64) + (0 : Int64)) + q3) + (0 : Int64))), .second, .val (.long ((((0 : Int64) + (0 : Int64)) + (0 : Int64)) + q4)), .second, .val (.long (((q1 + q2) + q3) + q4)), .second] [(.long ((((0 : Int64) + (0 : Int64)) + q3) + (0 : Int64))), (.long ((((q1 + (0 : Int64)) + (0 : Int64)) + (0 : Int64)) + ((((0 : Int64) + q2) + (0 : Int64)) + (0 : Int64)))), (.long (((q1 + q2) + q3) + q4))])) _
    refine XS.ladd X93.here hx rfl (hb hby at_170) rfl ?_
    show Steps p.tables e below (T93.setTop (mkF m 171 #[.val (.long q1), .second, .val (.long q2), .second, .val (.long q3), .second, .val (.long q4), .second, .val (.int p5), .val (.ref r_1), .val (.ref b2), .val (.ref b16), .val (.ref b29), .val (.ref b42), .val (.ref b55), .val (.long (((q1 + (0 : Int64)) + (0 : Int64)) + (0 : Int64))), .second, .val (.long ((((0 : Int64) + q2) + (0 : Int64)) + (0 : Int64))), .second, .val (.long ((((0 : Int64) + (0 : Int64)) + q3) + (0 : Int64))), .second, .val (.long ((((0 : Int64) + (0 : Int64)) + (0 : Int64)) + q4)), .second, .val (.long (((q1 + q2) + q3) + q4)), .second] [(.long (((((q1 + (0 : Int64)) + (0 : Int64)) + (0 : Int64)) + ((((0 : Int64) + q2) + (0 : Int64)) + (0 : Int64))) + ((((0 : Int64) + (0 : Int64)) + q3) + (0 : Int64)))), (.long (((q1 + q2) + q3) + q4))])) _
    refine XS.lload X93.here hx rfl (hb hby at_171) rfl ?_
    show Steps p.tables e below (T93.setTop (mkF m 173 #[.val (.long q1), .second, .val (.long q2), .second, .val (.long q3), .second, .val (.long q4), .second, .val (.int p5), .val (.ref r_1), .val (.ref b2), .val (.ref b16), .val (.ref b29), .val (.ref b42), .val (.ref b55), .val (.long (((q1 + (0 : Int64)) + (0 : Int64)) + (0 : Int64))), .second, .val (.long ((((0 : Int64) + q2) + (0 : Int64)) + (0 : Int64))), .second, .val (.long ((((0 : Int64) + (0 : Int64)) + q3) + (0 : Int64))), .second, .val (.long ((((0 : Int64) + (0 : Int64)) + (0 : Int64)) + q4)), .second, .val (.long (((q1 + q2) + q3) + q4)), .second] [(.long ((((0 : Int64) + (0 : Int64)) + (0 : Int64)) + q4)), (.long (((((q1 + (0 : Int64)) + (0 : Int64)) + (0 : Int64)) + ((((0 : Int64) + q2) + (0 : Int64)) + (0 : Int64))) + ((((0 : Int64) + (0 : Int64)) + q3) + (0 : Int64)))), (.long (((q1 + q2) + q3) + q4))])) _
    refine XS.ladd X93.here hx rfl (hb hby at_173) rfl ?_
    show Steps p.tables e below (T93.setTop (mkF m 174 #[.val (.long q1), .second, .val (.long q2), .second, .val (.long q3), .second, .val (.long q4), .second, .val (.int p5), .val (.ref r_1), .val (.ref b2), .val (.ref b16), .val (.ref b29), .val (.ref b42), .val (.ref b55), .val (.long (((q1 + (0 : Int64)) + (0 : Int64)) + (0 : Int64))), .second, .val (.long ((((0 : Int64) + q2) + (0 : Int64)) + (0 : Int64))), .second, .val (.long ((((0 : Int64) + (0 : Int64)) + q3) + (0 : Int64))), .second, .val (.long ((((0 : Int64) + (0 : Int64)) + (0 : Int64)) + q4)), .second, .val (.long (((q1 + q2) + q3) + q4)), .second] [(.long ((((((q1 + (0 : Int64)) + (0 : Int64)) + (0 : Int64)) + ((((0 : Int64) + q2) + (0 : Int64)) + (0 : Int64))) + ((((0 : Int64) + (0 : Int64)) + q3) + (0 : Int64))) + ((((0 : Int64) + (0 : Int64)) + (0 : Int64)) + q4))), (.long (((q1 + q2) + q3) + q4))])) _
    refine XS.lcmp X93.here hx rfl (hb hby at_174) rfl ?_
    show Steps p.tables e below (T93.setTop (mkF m 175 #[.val (.long q1), .second, .val (.long q2), .second, .val (.long q3), .second, .val (.long q4), .second, .val (.int p5), .val (.ref r_1), .val (.ref b2), .val (.ref b16), .val (.ref b29), .val (.ref b42), .val (.ref b55), .val (.long (((q1 + (0 : Int64)) + (0 : Int64)) + (0 : Int64))), .second, .val (.long ((((0 : Int64) + q2) + (0 : Int64)) + (0 : Int64))), .second, .val (.long ((((0 : Int64) + (0 : Int64)) + q3) + (0 : Int64))), .second, .val (.long ((((0 : Int64) + (0 : Int64)) + (0 : Int64)) + q4)), .second, .val (.long (((q1 + q2) + q3) + q4)), .second] [(.int (lcmpW (((q1 + q2) + q3) + q4) ((((((q1 + (0 : Int64)) + (0 : Int64)) + (0 : Int64)) + ((((0 : Int64) + q2) + (0 : Int64)) + (0 : Int64))) + ((((0 : Int64) + (0 : Int64)) + q3) + (0 : Int64))) + ((((0 : Int64) + (0 : Int64)) + (0 : Int64)) + q4))))])) _
    refine XS.ifNo X93.here hx rfl (hb hby at_175) rfl ((if0 _ _).trans (teq hc175).2) ?_
    show Steps p.tables e below (T93.setTop (mkF m 178 #[.val (.long q1), .second, .val (.long q2), .second, .val (.long q3), .second, .val (.long q4), .second, .val (.int p5), .val (.ref r_1), .val (.ref b2), .val (.ref b16), .val (.ref b29), .val (.ref b42), .val (.ref b55), .val (.long (((q1 + (0 : Int64)) + (0 : Int64)) + (0 : Int64))), .second, .val (.long ((((0 : Int64) + q2) + (0 : Int64)) + (0 : Int64))), .second, .val (.long ((((0 : Int64) + (0 : Int64)) + q3) + (0 : Int64))), .second, .val (.long ((((0 : Int64) + (0 : Int64)) + (0 : Int64)) + q4)), .second, .val (.long (((q1 + q2) + q3) + q4)), .second] [])) _
    refine XS.iconst X93.here hx rfl (hb hby at_178) ?_
    show Steps p.tables e below (T93.setTop (mkF m 179 #[.val (.long q1), .second, .val (.long q2), .second, .val (.long q3), .second, .val (.long q4), .second, .val (.int p5), .val (.ref r_1), .val (.ref b2), .val (.ref b16), .val (.ref b29), .val (.ref b42), .val (.ref b55), .val (.long (((q1 + (0 : Int64)) + (0 : Int64)) + (0 : Int64))), .second, .val (.long ((((0 : Int64) + q2) + (0 : Int64)) + (0 : Int64))), .second, .val (.long ((((0 : Int64) + (0 : Int64)) + q3) + (0 : Int64))), .second, .val (.long ((((0 : Int64) + (0 : Int64)) + (0 : Int64)) + q4)), .second, .val (.long (((q1 + q2) + q3) + q4)), .second] [(.int (1 : Int32))])) _
    refine XS.goto X93.here hx rfl (pc0 := 179) (pc' := 183) rfl (hb hby at_179) (by decide) (by decide) ?_
    show Steps p.tables e below (T93.setTop (mkF m 183 #[.val (.long q1), .second, .val (.long q2), .second, .val (.long q3), .second, .val (.long q4), .second, .val (.int p5), .val (.ref r_1), .val (.ref b2), .val (.ref b16), .val (.ref b29), .val (.ref b42), .val (.ref b55), .val (.long (((q1 + (0 : Int64)) + (0 : Int64)) + (0 : Int64))), .second, .val (.long ((((0 : Int64) + q2) + (0 : Int64)) + (0 : Int64))), .second, .val (.long ((((0 : Int64) + (0 : Int64)) + q3) + (0 : Int64))), .second, .val (.long ((((0 : Int64) + (0 : Int64)) + (0 : Int64)) + q4)), .second, .val (.long (((q1 + q2) + q3) + q4)), .second] [(.int (1 : Int32))])) _
    exact retN X93 hx (t := .boolean) Bd.returns (by simp) (hb hby at_183) hr
  · show QL n0 _ T93.heap _
    rw [e93]
    exact ⟨rfl, N93⟩
theorem own_add0 (x : Int64) : x + (0 : Int64) = x := by simp
theorem own_0add (x : Int64) : (0 : Int64) + x = x := by simp
theorem own_z1 (q1 : Int64) : (lcmpW (((q1 + (0 : Int64)) + (0 : Int64)) + (0 : Int64)) q1) = (0 : Int32) := (lw_eq _ _).mpr (by simp only [own_add0, own_0add])
theorem own_z2 (q2 : Int64) : (lcmpW ((((0 : Int64) + q2) + (0 : Int64)) + (0 : Int64)) q2) = (0 : Int32) := (lw_eq _ _).mpr (by simp only [own_add0, own_0add])
theorem own_z3 (q3 : Int64) : (lcmpW ((((0 : Int64) + (0 : Int64)) + q3) + (0 : Int64)) q3) = (0 : Int32) := (lw_eq _ _).mpr (by simp only [own_add0, own_0add])
theorem own_z4 (q4 : Int64) : (lcmpW ((((0 : Int64) + (0 : Int64)) + (0 : Int64)) + q4) q4) = (0 : Int32) := (lw_eq _ _).mpr (by simp only [own_add0, own_0add])
theorem own_z5 (q1 q2 q3 q4 : Int64) : (lcmpW (((q1 + q2) + q3) + q4) ((((((q1 + (0 : Int64)) + (0 : Int64)) + (0 : Int64)) + ((((0 : Int64) + q2) + (0 : Int64)) + (0 : Int64))) + ((((0 : Int64) + (0 : Int64)) + q3) + (0 : Int64))) + ((((0 : Int64) + (0 : Int64)) + (0 : Int64)) + q4))) = (0 : Int32) := (lw_eq _ _).mpr (by simp only [own_add0, own_0add])
set_option maxRecDepth 65536 in
set_option maxHeartbeats 40000000 in
theorem comes_1 {Post : Tables → Env → Array Value → State → Outcome → State → Prop} (hpost : ∀ tb e args s v u, (limb_1_1.after args s (.returned v) u = true ∧ limb_1_2.after args s (.returned v) u = true ∧ True) → ReturnedEndW s (.returned v) u (Jvm.fieldLocs frame_1_writes args s ++ Jvm.arrayLocs frame_1_arrays args s ++ Jvm.staticLocs frame_1_statics s) 32 5312 → Post tb e args s (.returned v) u) :
    ArmFor flags0 classFile x code maxLocals ret World_1 tables_1 room_1 Calls_1 rest_1 Pre_1 Post := by
  intro l hfl _ _ p e ha hc hk s m args below hf hA hF happ hP
  obtain ⟨hcalls, hrest, hpre⟩ := hP
  obtain ⟨-, -, -, hnamed, -, -, -, hat⟩ := (Spec.applies_iff hf).mp happ
  obtain ⟨hg, hn⟩ := and_e (Cond.before_iff.mp (show (Jvm.Cond.and given_1 narrow_1).before args s = true from hpre))
  obtain ⟨g_0, g_r0⟩ := and_e hg
  obtain ⟨g_1, g_r1⟩ := and_e g_r0
  obtain ⟨g_2, g_r2⟩ := and_e g_r1
  obtain ⟨g_3, g_r3⟩ := and_e g_r2
  obtain ⟨g_4, g_5⟩ := and_e g_r3
  obtain ⟨w0, w1, w2, w3, w4, rfl⟩ : ∃ w0 w1 w2 w3 w4 : Value, args = #[w0, w1, w2, w3, w4] := by
    have hs : args.size = 5 := by simpa [Cond.value, given_1] using g_0
    obtain ⟨L⟩ := args
    match L, hs with
    | [w0, w1, w2, w3, w4], _ => exact ⟨w0, w1, w2, w3, w4, rfl⟩
  have hw := fun d (hd : d ∈ tables_1) => atoms_spec (ws := Jvm.Cond.code x code maxLocals ret :: tables_1) hat d (List.mem_cons_of_mem _ hd)
  have hfit : Fit s := fun {y c} hc i hi => by
    obtain ⟨ha, rfl⟩ := Array.getElem?_eq_some_iff.mp hc
    have q := List.all_eq_true.mp ((Array.all_eq_true_iff_forall_mem.mp hF) _ (Array.getElem_mem ha)) i (List.mem_range.mpr hi)
    simpa [Array.getElem?_eq_getElem hi] using q
  obtain ⟨hsets, hown0⟩ := atoms_of _ (rest_1_c_eq ▸ (show rest_1_c.before _ s = true from hrest))
  obtain ⟨i0, ei0⟩ := isL_v g_1
  obtain rfl : w0 = (.long i0) := Option.some.inj ei0
  obtain ⟨i1, ei1⟩ := isL_v g_2
  obtain rfl : w1 = (.long i1) := Option.some.inj ei1
  obtain ⟨i2, ei2⟩ := isL_v g_3
  obtain rfl : w2 = (.long i2) := Option.some.inj ei2
  obtain ⟨i3, ei3⟩ := isL_v g_4
  obtain rfl : w3 = (.long i3) := Option.some.inj ei3
  obtain ⟨i4, ei4⟩ := is_v g_5
  obtain rfl : w4 = (.int i4) := Option.some.inj ei4
  obtain ⟨vO, evO⟩ := exa_v (Cond.before_iff.mp (hsets _ (List.mem_of_getElem? (i := 2) rfl)))
  have SO : Sta s s.heap "java/util/Optional" "EMPTY" "Ljava/util/Optional;" (.ref vO) := Sta.start evO (Or.inl (hsets _ (List.mem_of_getElem? (i := 1) rfl)))
  obtain ⟨n, o, h1, h2, h3, _, L, rfl, ⟨rfl, N⟩, hq⟩ := rm0 l s _ hw tables_1 i0 i1 i2 i3 i4 vO s.heap s.heap.size (Old.start s) SO (own_z1 i0) (own_z2 i1) (own_z3 i2) (own_z4 i3) (own_z5 i0 i1 i2 i3) p e ha hc hk s m _ below hf ((Spec.applies_iff_loose hf).mp happ).1 ⟨rfl, State.Warmed39.refl s, rfl⟩ trivial
  refine ⟨n, _, h1, h2, h3, hpost _ _ _ _ _ _ ⟨Cond.after_iff.mpr rfl, Cond.after_iff.mpr (eq_i res_at (Term.int_eval (1)) rfl), trivial⟩ ⟨hq.1, hq.2.1, hq.2.2.1, (hq.2.2.2.sift fun y hy => Or.inr (N y hy)).mono (by decide) (by decide)⟩⟩
theorem main_1_1 : Claimed_1_1 := comes_1 fun _ _ _ _ _ _ h hF => ⟨h.1, hF⟩
theorem main_1_2 : Claimed_1_2 := comes_1 fun _ _ _ _ _ _ h hF => ⟨h.2.1, hF⟩
end Jvm.Pilot.@@N@@
namespace Jvm.Pilot.@@N@@
open Jvm Jvm.ClassFile Sem Op Lib Jvm.Free Jvm.Stand Jvm.Pilot.@@N@@.Jvm.D
/-! MADE BY PROGRAM (witnessworld.py) out of the Statement's table words and the real class files: 14 classes; the members and pool entries that the words name. The judged class is class 1, her method 2. -/
namespace start1
open Jvm.ClassFile
def u (s : String) : CpInfo := .utf8 (stringToUtf16 s)
/-- a pool by its gaps: so many unusable entries, then the entry; so many at the end -/
def gap : Nat → List CpInfo → List CpInfo
  | 0, r => r
  | n + 1, r => .unusable :: gap n r
def poolList (es : List (Nat × CpInfo)) (last : Nat) : List CpInfo := es.foldr (fun e r => gap e.1 (e.2 :: r)) (gap last [])
def pool (es : List (Nat × CpInfo)) (last : Nat) : Array CpInfo := ⟨poolList es last⟩
def fileOf (pool : Array CpInfo) (this : Nat) (attrs : Array Attribute := #[]) (ms : Array MethodInfo := #[]) (fl : Nat := 33) (sup : Nat := 0) (ifs : Array Nat := #[]) (fds : Array FieldInfo := #[]) : ClassFile where
  minorVersion := 0
  majorVersion := 65
  constantPool := pool
  accessFlags := fl
  thisClass := this
  superClass := sup
  interfaces := ifs
  fields := fds
  methods := ms
  attributes := attrs
def plain (name : String) (sup : Option ClassId) : Class where
  name := name
  kind := .ordinary
  loader := none
  accessFlags := 33
  super := sup
  interfaces := #[]
  cf := none
  fields := #[]
  methods := #[]
  instanceTypes := #[]
  staticTypes := #[]
  resolved := #[]
  callSites := []
  init := .initialized
  statics := none
  mirror := none

def pool0 : Array CpInfo := pool [(5, u "<init>"), (0, u "()V"), (1, .class_ 10), (1, u "java/lang/Object")] 113

def k0c0 : Code := { maxStack := 0, maxLocals := 1, code := object_method_1_code, exceptionTable := #[], attributes := #[] }
def k0m0 : Method := { name := "<init>", desc := "()V", sig := { parameters := [], returnType := none }, accessFlags := 1, code := some k0c0 }
/-- java/lang/Object -/
def k0 : Class := { plain "java/lang/Object" none with
  accessFlags := 33
  interfaces := #[]
  cf := some (fileOf pool0 8 #[] #[{ accessFlags := 1, nameIndex := 5, descriptorIndex := 6, attributes := #[] }] 33 0 #[] #[])
  fields := #[]
  methods := #[k0m0]
  instanceTypes := #[]
  staticTypes := #[]
  resolved := Array.replicate 124 none
  statics := none }

def pool1 : Array CpInfo := pool [(2, .class_ 4), (1, u "java/lang/Object"), (0, u "<init>"), (0, u "()V"), (0, .string 8), (0, u "units"), (0, .string 10), (0, u "slices"), (0, .string 12), (0, u "shards"), (0, .string 14), (0, u "mapreduce"), (0, .methodref 16 17), (0, .class_ 18), (0, .nameAndType 19 20), (0, u "com/example/shardwork/shardwork/JobStatusUnitsPinLaw"), (0, u "kindOf"), (0, u "(I)Ljava/lang/String;"), (0, .class_ 22), (0, u "com/example/shardwork/shardwork/JobStatus"), (0, .string 24), (0, u "job"), (0, .methodref 21 26), (0, .nameAndType 5 27), (0, u "(Ljava/lang/String;Ljava/lang/String;JJJJ)V"), (0, .methodref 21 29), (0, .nameAndType 8 30), (0, u "()J"), (3, u "law"), (0, u "(JJJJI)Z")] 4

def k1m0 : Method := { name := "<init>", desc := "()V", sig := { parameters := [], returnType := none }, accessFlags := 1, code := none }
def k1c1 : Code := { maxStack := 2, maxLocals := 2, code := method_2_code, exceptionTable := #[], attributes := #[] }
def k1m1 : Method := { name := "kindOf", desc := "(I)Ljava/lang/String;", sig := { parameters := [.int], returnType := some (.object "java/lang/String") }, accessFlags := 10, code := some k1c1 }
def k1c2 : Code := { maxStack := 12, maxLocals := 25, code := code, exceptionTable := #[], attributes := #[] }
def k1m2 : Method := { name := "law", desc := "(JJJJI)Z", sig := { parameters := [.long, .long, .long, .long, .int], returnType := some .boolean }, accessFlags := 9, code := some k1c2 }
/-- com/example/shardwork/shardwork/JobStatusUnitsPinLaw -/
def k1 : Class := { plain "com/example/shardwork/shardwork/JobStatusUnitsPinLaw" (some 0) with
  accessFlags := 49
  interfaces := #[]
  cf := some (fileOf pool1 16 #[] #[{ accessFlags := 1, nameIndex := 5, descriptorIndex := 6, attributes := #[] }, { accessFlags := 10, nameIndex := 19, descriptorIndex := 20, attributes := #[] }, { accessFlags := 9, nameIndex := 34, descriptorIndex := 35, attributes := #[] }] 49 2 #[] #[])
  fields := #[]
  methods := #[k1m0, k1m1, k1m2]
  instanceTypes := #[]
  staticTypes := #[]
  resolved := Array.replicate 40 none
  statics := none }

def pool2 : Array CpInfo := pool [(1, .class_ 2), (0, u "java/io/Serializable"), (0, .class_ 4), (0, u "java/lang/Object")] 2

/-- java/io/Serializable -/
def k2 : Class := { plain "java/io/Serializable" (some 0) with
  accessFlags := 1537
  interfaces := #[]
  cf := some (fileOf pool2 1 #[] #[] 1537 3 #[] #[])
  fields := #[]
  methods := #[]
  instanceTypes := #[]
  staticTypes := #[]
  resolved := Array.replicate 7 none
  statics := none }

def pool3 : Array CpInfo := pool [(1, .class_ 2), (0, u "java/lang/Comparable"), (0, .class_ 4), (0, u "java/lang/Object")] 7

/-- java/lang/Comparable -/
def k3 : Class := { plain "java/lang/Comparable" (some 0) with
  accessFlags := 1537
  interfaces := #[]
  cf := some (fileOf pool3 1 #[] #[] 1537 3 #[] #[])
  fields := #[]
  methods := #[]
  instanceTypes := #[]
  staticTypes := #[]
  resolved := Array.replicate 12 none
  statics := none }

def pool4 : Array CpInfo := pool [(2, .class_ 4), (1, u "java/lang/CharSequence"), (42, .class_ 48), (0, u "java/lang/CharSequence$1CodePointIterator"), (10, .class_ 60), (0, u "java/lang/CharSequence$1CharIterator"), (5, .class_ 67), (0, u "java/lang/Object")] 63

/-- java/lang/CharSequence -/
def k4 : Class := { plain "java/lang/CharSequence" (some 0) with
  accessFlags := 1537
  interfaces := #[]
  cf := some (fileOf pool4 2 #[.nestMembers #[47, 59]] #[] 1537 66 #[] #[])
  fields := #[]
  methods := #[]
  instanceTypes := #[]
  staticTypes := #[]
  resolved := Array.replicate 131 none
  statics := none }

def pool5 : Array CpInfo := pool [(1, .class_ 2), (0, u "java/lang/constant/Constable"), (0, .class_ 4), (0, u "java/lang/Object")] 6

/-- java/lang/constant/Constable -/
def k5 : Class := { plain "java/lang/constant/Constable" (some 0) with
  accessFlags := 1537
  interfaces := #[]
  cf := some (fileOf pool5 1 #[] #[] 1537 3 #[] #[])
  fields := #[]
  methods := #[]
  instanceTypes := #[]
  staticTypes := #[]
  resolved := Array.replicate 11 none
  statics := none }

def pool6 : Array CpInfo := pool [(1, .class_ 2), (0, u "java/lang/constant/ConstantDesc"), (0, .class_ 4), (0, u "java/lang/Object")] 32

/-- java/lang/constant/ConstantDesc -/
def k6 : Class := { plain "java/lang/constant/ConstantDesc" (some 0) with
  accessFlags := 1537
  interfaces := #[]
  cf := some (fileOf pool6 1 #[] #[] 1537 3 #[] #[])
  fields := #[]
  methods := #[]
  instanceTypes := #[]
  staticTypes := #[]
  resolved := Array.replicate 37 none
  statics := none }

def pool7 : Array CpInfo := pool [(2, .class_ 4), (1, u "java/lang/Object"), (0, u "<init>"), (0, u "()V"), (3, .class_ 12), (1, u "java/lang/String"), (0, u "value"), (0, u "[B"), (2, u "coder"), (0, u "B"), (2, u "hash"), (0, u "I"), (2, u "hashIsZero"), (0, u "Z"), (13, u "COMPACT_STRINGS"), (534, .class_ 576), (0, u "java/lang/CharSequence"), (22, u "CASE_INSENSITIVE_ORDER"), (0, u "Ljava/util/Comparator;"), (500, u "serialPersistentFields"), (0, u "[Ljava/io/ObjectStreamField;"), (0, .class_ 1104), (0, u "java/lang/String$CaseInsensitiveComparator"), (1, .class_ 1107), (0, u "java/io/Serializable"), (0, .class_ 1109), (0, u "java/lang/Comparable"), (0, .class_ 1111), (0, u "java/lang/constant/Constable"), (0, .class_ 1113), (0, u "java/lang/constant/ConstantDesc"), (2, u "serialVersionUID"), (0, u "J"), (3, u "REPL"), (0, u "C"), (2, u "LATIN1"), (1, u "UTF16")] 323

def k7m0 : Method := { name := "<init>", desc := "()V", sig := { parameters := [], returnType := none }, accessFlags := 1, code := none }
/-- java/lang/String -/
def k7 : Class := { plain "java/lang/String" (some 0) with
  accessFlags := 49
  interfaces := #[2, 3, 4, 5, 6]
  cf := some (fileOf pool7 10 #[.nestMembers #[1103]] #[{ accessFlags := 1, nameIndex := 5, descriptorIndex := 6, attributes := #[] }] 49 2 #[1106, 1108, 575, 1110, 1112] #[{ accessFlags := 18, nameIndex := 13, descriptorIndex := 14, attributes := #[] }, { accessFlags := 18, nameIndex := 17, descriptorIndex := 18, attributes := #[] }, { accessFlags := 2, nameIndex := 21, descriptorIndex := 22, attributes := #[] }, { accessFlags := 2, nameIndex := 25, descriptorIndex := 26, attributes := #[] }, { accessFlags := 26, nameIndex := 1116, descriptorIndex := 1117, attributes := #[] }, { accessFlags := 24, nameIndex := 40, descriptorIndex := 26, attributes := #[] }, { accessFlags := 26, nameIndex := 1101, descriptorIndex := 1102, attributes := #[] }, { accessFlags := 26, nameIndex := 1121, descriptorIndex := 1122, attributes := #[] }, { accessFlags := 25, nameIndex := 599, descriptorIndex := 600, attributes := #[] }, { accessFlags := 24, nameIndex := 1125, descriptorIndex := 18, attributes := #[] }, { accessFlags := 24, nameIndex := 1127, descriptorIndex := 18, attributes := #[] }])
  fields := #[{ name := "value", type := (.array .byte), accessFlags := 18, slot := 0, constantValue := 0 }, { name := "coder", type := .byte, accessFlags := 18, slot := 1, constantValue := 0 }, { name := "hash", type := .int, accessFlags := 2, slot := 2, constantValue := 0 }, { name := "hashIsZero", type := .boolean, accessFlags := 2, slot := 3, constantValue := 0 }, { name := "serialVersionUID", type := .long, accessFlags := 26, slot := 0, constantValue := 0 }, { name := "COMPACT_STRINGS", type := .boolean, accessFlags := 24, slot := 1, constantValue := 0 }, { name := "serialPersistentFields", type := (.array (.object "java/io/ObjectStreamField")), accessFlags := 26, slot := 2, constantValue := 0 }, { name := "REPL", type := .char, accessFlags := 26, slot := 3, constantValue := 0 }, { name := "CASE_INSENSITIVE_ORDER", type := (.object "java/util/Comparator"), accessFlags := 25, slot := 4, constantValue := 0 }, { name := "LATIN1", type := .byte, accessFlags := 24, slot := 5, constantValue := 0 }, { name := "UTF16", type := .byte, accessFlags := 24, slot := 6, constantValue := 0 }]
  methods := #[k7m0]
  instanceTypes := #[(.array .byte), .byte, .int, .boolean]
  staticTypes := #[.long, .boolean, (.array (.object "java/io/ObjectStreamField")), .char, (.object "java/util/Comparator"), .byte, .byte]
  resolved := Array.replicate 1451 none
  statics := none }

def pool8 : Array CpInfo := pool [(1, .methodref 2 3), (0, .class_ 4), (0, .nameAndType 5 6), (0, u "java/lang/Object"), (0, u "<init>"), (0, u "()V"), (0, .class_ 8), (0, u "java/lang/Record")] 13

def k8c0 : Code := { maxStack := 1, maxLocals := 1, code := jdk_30_method_1_code, exceptionTable := #[], attributes := #[] }
def k8m0 : Method := { name := "<init>", desc := "()V", sig := { parameters := [], returnType := none }, accessFlags := 4, code := some k8c0 }
/-- java/lang/Record -/
def k8 : Class := { plain "java/lang/Record" (some 0) with
  accessFlags := 1057
  interfaces := #[]
  cf := some (fileOf pool8 7 #[] #[{ accessFlags := 4, nameIndex := 5, descriptorIndex := 6, attributes := #[] }] 1057 2 #[] #[])
  fields := #[]
  methods := #[k8m0]
  instanceTypes := #[]
  staticTypes := #[]
  resolved := Array.replicate 22 none
  statics := none }

def pool9 : Array CpInfo := pool [(1, .methodref 2 3), (0, .class_ 4), (0, .nameAndType 5 6), (0, u "java/lang/Record"), (0, u "<init>"), (0, u "()V"), (0, .fieldref 8 9), (0, .class_ 10), (0, .nameAndType 11 12), (0, u "com/example/shardwork/shardwork/JobStatus"), (0, u "job"), (0, u "Ljava/lang/String;"), (0, .fieldref 8 14), (0, .nameAndType 15 12), (0, u "kind"), (0, .fieldref 8 17), (0, .nameAndType 18 19), (0, u "pending"), (0, u "J"), (0, .fieldref 8 21), (0, .nameAndType 22 19), (0, u "running"), (0, .fieldref 8 24), (0, .nameAndType 25 19), (0, u "done"), (0, .fieldref 8 27), (0, .nameAndType 28 19), (0, u "failed"), (0, .fieldref 8 30), (0, .nameAndType 31 32), (0, u "cursor"), (0, u "Ljava/util/Optional;"), (0, .fieldref 8 34), (0, .nameAndType 35 32), (0, u "scan"), (0, .fieldref 8 37), (0, .nameAndType 38 32), (0, u "mapReduce"), (0, .methodref 40 41), (0, .class_ 42), (0, .nameAndType 43 44), (0, u "java/util/Optional"), (0, u "empty"), (0, u "()Ljava/util/Optional;"), (0, .methodref 8 46), (0, .nameAndType 5 47), (0, u "(Ljava/lang/String;Ljava/lang/String;JJJJLjava/util/Optional;Ljava/util/Optional;Ljava/util/Optional;)V"), (22, u "(Ljava/lang/String;Ljava/lang/String;JJJJ)V"), (2, u "units"), (0, u "()J")] 34

def k9c0 : Code := { maxStack := 14, maxLocals := 11, code := prog_7_method_3_code, exceptionTable := #[], attributes := #[] }
def k9m0 : Method := { name := "<init>", desc := "(Ljava/lang/String;Ljava/lang/String;JJJJ)V", sig := { parameters := [(.object "java/lang/String"), (.object "java/lang/String"), .long, .long, .long, .long], returnType := none }, accessFlags := 1, code := some k9c0 }
def k9c1 : Code := { maxStack := 3, maxLocals := 14, code := prog_7_method_4_code, exceptionTable := #[], attributes := #[] }
def k9m1 : Method := { name := "<init>", desc := "(Ljava/lang/String;Ljava/lang/String;JJJJLjava/util/Optional;Ljava/util/Optional;Ljava/util/Optional;)V", sig := { parameters := [(.object "java/lang/String"), (.object "java/lang/String"), .long, .long, .long, .long, (.object "java/util/Optional"), (.object "java/util/Optional"), (.object "java/util/Optional")], returnType := none }, accessFlags := 1, code := some k9c1 }
def k9c2 : Code := { maxStack := 4, maxLocals := 1, code := prog_7_method_5_code, exceptionTable := #[], attributes := #[] }
def k9m2 : Method := { name := "units", desc := "()J", sig := { parameters := [], returnType := some .long }, accessFlags := 1, code := some k9c2 }
/-- com/example/shardwork/shardwork/JobStatus -/
def k9 : Class := { plain "com/example/shardwork/shardwork/JobStatus" (some 8) with
  accessFlags := 49
  interfaces := #[]
  cf := some (fileOf pool9 8 #[] #[{ accessFlags := 1, nameIndex := 5, descriptorIndex := 70, attributes := #[] }, { accessFlags := 1, nameIndex := 5, descriptorIndex := 47, attributes := #[] }, { accessFlags := 1, nameIndex := 73, descriptorIndex := 74, attributes := #[] }] 49 2 #[] #[{ accessFlags := 18, nameIndex := 11, descriptorIndex := 12, attributes := #[] }, { accessFlags := 18, nameIndex := 15, descriptorIndex := 12, attributes := #[] }, { accessFlags := 18, nameIndex := 18, descriptorIndex := 19, attributes := #[] }, { accessFlags := 18, nameIndex := 22, descriptorIndex := 19, attributes := #[] }, { accessFlags := 18, nameIndex := 25, descriptorIndex := 19, attributes := #[] }, { accessFlags := 18, nameIndex := 28, descriptorIndex := 19, attributes := #[] }, { accessFlags := 18, nameIndex := 31, descriptorIndex := 32, attributes := #[] }, { accessFlags := 18, nameIndex := 35, descriptorIndex := 32, attributes := #[] }, { accessFlags := 18, nameIndex := 38, descriptorIndex := 32, attributes := #[] }])
  fields := #[{ name := "job", type := (.object "java/lang/String"), accessFlags := 18, slot := 0, constantValue := 0 }, { name := "kind", type := (.object "java/lang/String"), accessFlags := 18, slot := 1, constantValue := 0 }, { name := "pending", type := .long, accessFlags := 18, slot := 2, constantValue := 0 }, { name := "running", type := .long, accessFlags := 18, slot := 3, constantValue := 0 }, { name := "done", type := .long, accessFlags := 18, slot := 4, constantValue := 0 }, { name := "failed", type := .long, accessFlags := 18, slot := 5, constantValue := 0 }, { name := "cursor", type := (.object "java/util/Optional"), accessFlags := 18, slot := 6, constantValue := 0 }, { name := "scan", type := (.object "java/util/Optional"), accessFlags := 18, slot := 7, constantValue := 0 }, { name := "mapReduce", type := (.object "java/util/Optional"), accessFlags := 18, slot := 8, constantValue := 0 }]
  methods := #[k9m0, k9m1, k9m2]
  instanceTypes := #[(.object "java/lang/String"), (.object "java/lang/String"), .long, .long, .long, .long, (.object "java/util/Optional"), (.object "java/util/Optional"), (.object "java/util/Optional")]
  staticTypes := #[]
  resolved := Array.replicate 109 none
  statics := none }

def pool10 : Array CpInfo := pool [(1, .fieldref 2 3), (0, .class_ 4), (0, .nameAndType 5 6), (0, u "java/util/Optional"), (0, u "EMPTY"), (0, u "Ljava/util/Optional;"), (1, .class_ 10), (1, u "java/lang/Object"), (4, u "value"), (0, u "Ljava/lang/Object;"), (38, u "empty"), (0, u "()Ljava/util/Optional;")] 130

def k10c0 : Code := { maxStack := 1, maxLocals := 1, code := jdk_32_method_1_code, exceptionTable := #[], attributes := #[] }
def k10m0 : Method := { name := "empty", desc := "()Ljava/util/Optional;", sig := { parameters := [], returnType := some (.object "java/util/Optional") }, accessFlags := 9, code := some k10c0 }
/-- java/util/Optional -/
def k10 : Class := { plain "java/util/Optional" (some 0) with
  accessFlags := 49
  interfaces := #[]
  cf := some (fileOf pool10 2 #[] #[{ accessFlags := 9, nameIndex := 55, descriptorIndex := 56, attributes := #[] }] 49 8 #[] #[{ accessFlags := 26, nameIndex := 5, descriptorIndex := 6, attributes := #[] }, { accessFlags := 18, nameIndex := 15, descriptorIndex := 16, attributes := #[] }])
  fields := #[{ name := "EMPTY", type := (.object "java/util/Optional"), accessFlags := 26, slot := 0, constantValue := 0 }, { name := "value", type := (.object "java/lang/Object"), accessFlags := 18, slot := 0, constantValue := 0 }]
  methods := #[k10m0]
  instanceTypes := #[(.object "java/lang/Object")]
  staticTypes := #[(.object "java/util/Optional")]
  resolved := Array.replicate 187 none
  statics := some 0 }

def pool11 : Array CpInfo := pool [(1, u "java/lang/Cloneable"), (0, .class_ 1), (0, u "java/lang/Object"), (0, .class_ 3)] 3

/-- java/lang/Cloneable -/
def k11 : Class := { plain "java/lang/Cloneable" (some 0) with
  accessFlags := 1537
  interfaces := #[]
  cf := some (fileOf pool11 2 #[] #[] 1537 4 #[] #[])
  fields := #[]
  methods := #[]
  instanceTypes := #[]
  staticTypes := #[]
  resolved := Array.replicate 8 none
  statics := none }

/-- the primitive byte -/
def k12 : Class := { plain "byte" none with kind := .primitive 'B', accessFlags := 0x411 }
/-- [B -/
def k13 : Class := { plain "[B" (some 0) with kind := .array 12 .byte, interfaces := #[11, 2], accessFlags := 1041 }

def heap : Heap := #[{ cls := 10, slots := #[.ref 1], vm := .statics 10 },
  { cls := 10, slots := #[.null], vm := .none }]
def classes : Array Class := #[k0, k1, k2, k3, k4, k5, k6, k7, k8, k9, k10, k11, k12, k13]
def interned : List (Array UInt16 × Addr) := []
def slotsUsed : Nat := 2
def theMethod : MethodId := ⟨1, 2⟩
def args0 : Array Value := #[.long 5, .long 6, .long 7, .long 8, .int 1]
def aboutOver (below : List Frame) : State where
  vm := { classes := classes, interned := interned.toArray }
  heap := heap
  slotsUsed := slotsUsed
  threads := #[{ frames := .invoking theMethod args0 :: below }]
def below0 : List Frame := [.native { method := ⟨0, 0⟩, args := #[] }]
def about1 : State := aboutOver below0
def p0 : Program := .bare "" "" ""
def e0 : Env := launch0.env 0 0 0
theorem w_frames : about1.frames = Frame.invoking theMethod args0 :: below0 := rfl
set_option maxRecDepth 65536 in
theorem w_args : argsFit about1.vm theMethod args0 = true := by decide +kernel
set_option maxRecDepth 65536 in
theorem w_heap : heapFits about1 = true := by decide +kernel
set_option maxRecDepth 65536 in
theorem w_runnable : about1.curStatus? = some .runnable := by decide +kernel
set_option maxRecDepth 65536 in
theorem w_alone : about1.alone = true := by decide +kernel
set_option maxRecDepth 65536 in
theorem w_named : about1.methodNamed? x = some theMethod := by decide +kernel
set_option maxRecDepth 65536 in
theorem w_hears : about1.hears theMethod below0 = true := by decide +kernel
set_option maxRecDepth 65536 in
theorem w_ripe : about1.ripe theMethod args0 below0 = true := by decide +kernel
theorem w_running : about1.status = .running := rfl
set_option maxRecDepth 65536 in
theorem w_room : about1.hasRoom e0.platform room_1 = true :=
  launch0.hasRoom_least _ room_1 (by decide +kernel) (by decide +kernel) (by decide +kernel) (by decide +kernel) (by decide +kernel) (by decide +kernel)
theorem allAtoms_all (ts : List Jvm.Cond) (a : Array Jvm.Value) (st : Jvm.State) : (allAtoms ts).before a st = ts.all (fun c => c.before a st) := by
  induction ts with
  | nil => rfl
  | cons c t ih =>
    show (Jvm.Cond.and c (allAtoms t)).before a st = _
    rw [Jvm.Cond.before_and, ih, List.all_cons]
def words1 : List Jvm.Cond := Jvm.Cond.code x code maxLocals ret :: tables_1
/-- a 'code' word, met by the world's own term for the bytes: nothing is compared byte by byte -/
theorem code_word {y : MethodName} {bytes : ByteArray} {mx : Nat} {rt : Option FieldType} {a : Array Value} {s : State} {m : MethodId} {meth : Method} {c : Code} (h1 : s.methodNamed? y = some m) (h2 : s.vm.method? m = some meth) (h3 : meth.code = some c) (h4 : c.code = bytes)
    (h5 : (c.maxLocals == mx && c.exceptionTable.isEmpty && decide (c.maxStack ≤ mostOperands) && decide (meth.sig.returnType = rt) && !meth.locks && decide (parseMethodDescriptor y.desc = some meth.sig)) = true) : (Jvm.Cond.code y bytes mx rt).before a s = true := by
  simp only [Bool.and_eq_true, beq_iff_eq, Bool.not_eq_true', decide_eq_true_eq] at h5
  obtain ⟨⟨⟨⟨⟨g1, g2⟩, g3⟩, g4⟩, g5⟩, g6⟩ := h5
  simp [Cond.before, Cond.holds, Cond.value, h1, h2, h3, h4, g1, g2, g3, g4, g5, g6]
def isCode : Jvm.Cond → Bool
  | .code _ _ _ _ => true
  | _ => false
theorem all_split {L : List Jvm.Cond} {P : Jvm.Cond → Bool} (h1 : L.all (fun c => isCode c || P c) = true) (h2 : ∀ c ∈ L.filter isCode, P c = true) : L.all P = true := by
  refine List.all_eq_true.mpr fun c hc => ?_
  have h := List.all_eq_true.mp h1 c hc
  rcases Bool.eq_false_or_eq_true (isCode c) with hi | hi
  · exact h2 c (List.mem_filter.mpr ⟨hc, hi⟩)
  · simpa [hi] using h
set_option maxRecDepth 65536 in
theorem w_c0 : (Jvm.Cond.code x code maxLocals ret).before args0 about1 = true := code_word (m := ⟨1, 2⟩) (meth := k1m2) (c := k1c2) (by decide +kernel) rfl rfl rfl (by decide +kernel)
set_option maxRecDepth 65536 in
theorem w_c1 : (Jvm.Cond.code ({ cls := "com/example/shardwork/shardwork/JobStatusUnitsPinLaw", name := "kindOf", desc := "(I)Ljava/lang/String;" } : Jvm.MethodName) method_2_code (2 : Nat) (Option.some (Jvm.ClassFile.FieldType.object "java/lang/String"))).before args0 about1 = true := code_word (m := ⟨1, 1⟩) (meth := k1m1) (c := k1c1) (by decide +kernel) rfl rfl rfl (by decide +kernel)
set_option maxRecDepth 65536 in
theorem w_c2 : (Jvm.Cond.code ({ cls := "com/example/shardwork/shardwork/JobStatus", name := "<init>", desc := "(Ljava/lang/String;Ljava/lang/String;JJJJ)V" } : Jvm.MethodName) prog_7_method_3_code (11 : Nat) (Option.none : Option Jvm.ClassFile.FieldType)).before args0 about1 = true := code_word (m := ⟨9, 0⟩) (meth := k9m0) (c := k9c0) (by decide +kernel) rfl rfl rfl (by decide +kernel)
set_option maxRecDepth 65536 in
theorem w_c3 : (Jvm.Cond.code ({ cls := "java/util/Optional", name := "empty", desc := "()Ljava/util/Optional;" } : Jvm.MethodName) jdk_32_method_1_code (1 : Nat) (Option.some (Jvm.ClassFile.FieldType.object "java/util/Optional"))).before args0 about1 = true := code_word (m := ⟨10, 0⟩) (meth := k10m0) (c := k10c0) (by decide +kernel) rfl rfl rfl (by decide +kernel)
set_option maxRecDepth 65536 in
theorem w_c4 : (Jvm.Cond.code ({ cls := "com/example/shardwork/shardwork/JobStatus", name := "<init>", desc := "(Ljava/lang/String;Ljava/lang/String;JJJJLjava/util/Optional;Ljava/util/Optional;Ljava/util/Optional;)V" } : Jvm.MethodName) prog_7_method_4_code (14 : Nat) (Option.none : Option Jvm.ClassFile.FieldType)).before args0 about1 = true := code_word (m := ⟨9, 1⟩) (meth := k9m1) (c := k9c1) (by decide +kernel) rfl rfl rfl (by decide +kernel)
set_option maxRecDepth 65536 in
theorem w_c5 : (Jvm.Cond.code ({ cls := "java/lang/Record", name := "<init>", desc := "()V" } : Jvm.MethodName) jdk_30_method_1_code (1 : Nat) (Option.none : Option Jvm.ClassFile.FieldType)).before args0 about1 = true := code_word (m := ⟨8, 0⟩) (meth := k8m0) (c := k8c0) (by decide +kernel) rfl rfl rfl (by decide +kernel)
set_option maxRecDepth 65536 in
theorem w_c6 : (Jvm.Cond.code ({ cls := "java/lang/Object", name := "<init>", desc := "()V" } : Jvm.MethodName) object_method_1_code (1 : Nat) (Option.none : Option Jvm.ClassFile.FieldType)).before args0 about1 = true := code_word (m := ⟨0, 0⟩) (meth := k0m0) (c := k0c0) (by decide +kernel) rfl rfl rfl (by decide +kernel)
set_option maxRecDepth 65536 in
theorem w_c7 : (Jvm.Cond.code ({ cls := "com/example/shardwork/shardwork/JobStatus", name := "units", desc := "()J" } : Jvm.MethodName) prog_7_method_5_code (1 : Nat) (Option.some Jvm.ClassFile.FieldType.long)).before args0 about1 = true := code_word (m := ⟨9, 2⟩) (meth := k9m2) (c := k9c2) (by decide +kernel) rfl rfl rfl (by decide +kernel)
def codes1 : List Jvm.Cond := [Jvm.Cond.code x code maxLocals ret, Jvm.Cond.code ({ cls := "com/example/shardwork/shardwork/JobStatusUnitsPinLaw", name := "kindOf", desc := "(I)Ljava/lang/String;" } : Jvm.MethodName) method_2_code (2 : Nat) (Option.some (Jvm.ClassFile.FieldType.object "java/lang/String")), Jvm.Cond.code ({ cls := "com/example/shardwork/shardwork/JobStatus", name := "<init>", desc := "(Ljava/lang/String;Ljava/lang/String;JJJJ)V" } : Jvm.MethodName) prog_7_method_3_code (11 : Nat) (Option.none : Option Jvm.ClassFile.FieldType), Jvm.Cond.code ({ cls := "java/util/Optional", name := "empty", desc := "()Ljava/util/Optional;" } : Jvm.MethodName) jdk_32_method_1_code (1 : Nat) (Option.some (Jvm.ClassFile.FieldType.object "java/util/Optional")), Jvm.Cond.code ({ cls := "com/example/shardwork/shardwork/JobStatus", name := "<init>", desc := "(Ljava/lang/String;Ljava/lang/String;JJJJLjava/util/Optional;Ljava/util/Optional;Ljava/util/Optional;)V" } : Jvm.MethodName) prog_7_method_4_code (14 : Nat) (Option.none : Option Jvm.ClassFile.FieldType), Jvm.Cond.code ({ cls := "java/lang/Record", name := "<init>", desc := "()V" } : Jvm.MethodName) jdk_30_method_1_code (1 : Nat) (Option.none : Option Jvm.ClassFile.FieldType), Jvm.Cond.code ({ cls := "java/lang/Object", name := "<init>", desc := "()V" } : Jvm.MethodName) object_method_1_code (1 : Nat) (Option.none : Option Jvm.ClassFile.FieldType), Jvm.Cond.code ({ cls := "com/example/shardwork/shardwork/JobStatus", name := "units", desc := "()J" } : Jvm.MethodName) prog_7_method_5_code (1 : Nat) (Option.some Jvm.ClassFile.FieldType.long)]
set_option maxRecDepth 65536 in
theorem codes_eq : words1.filter isCode = codes1 := rfl
theorem w_codes : ∀ c ∈ words1.filter isCode, c.before args0 about1 = true := by
  rw [codes_eq]
  intro c hc
  simp only [codes1, List.mem_cons, List.not_mem_nil, or_false] at hc
  rcases hc with rfl | rfl | rfl | rfl | rfl | rfl | rfl | rfl
  · exact w_c0
  · exact w_c1
  · exact w_c2
  · exact w_c3
  · exact w_c4
  · exact w_c5
  · exact w_c6
  · exact w_c7
set_option maxRecDepth 65536 in
theorem w_t1 : (words1.take 24).all (fun c => isCode c || c.before args0 about1) = true := by decide +kernel
set_option maxRecDepth 65536 in
theorem w_t2 : ((words1.drop 24).take 24).all (fun c => isCode c || c.before args0 about1) = true := by decide +kernel
set_option maxRecDepth 65536 in
theorem w_t3 : ((words1.drop 24).drop 24).all (fun c => isCode c || c.before args0 about1) = true := by decide +kernel
theorem w_tables : (allAtoms (Jvm.Cond.code x code maxLocals ret :: tables_1)).before args0 about1 = true := by
  rw [allAtoms_all]
  show words1.all (fun c => c.before args0 about1) = true
  refine all_split ?_ w_codes
  rw [← List.take_append_drop 24 words1, List.all_append, w_t1, ← List.take_append_drop 24 (words1.drop 24), List.all_append, w_t2, w_t3]
  rfl
set_option maxRecDepth 65536 in
theorem w_rest : rest_1_c.before args0 about1 = true := by decide +kernel
set_option maxRecDepth 65536 in
theorem w_case : (Jvm.Cond.and given_1 narrow_1).before args0 about1 = true := by decide +kernel
theorem w_applies : (headSpec (Jvm.Cond.code x code maxLocals ret :: tables_1) room_1).applies x e0.platform about1 = true :=
  (Spec.applies_iff w_frames).mpr ⟨w_running, w_runnable, w_alone, w_named, w_hears, w_ripe, w_room, w_tables⟩
theorem atStart : AtStart classFile x code maxLocals ret World_1 tables_1 room_1 Calls_1 rest_1 Pre_1 launch0 p0 e0 about1 theMethod args0 below0 :=
  ⟨lists_1, trivial, launch0.admits_env _ _ _, launch0.least_env, fairChoices_fair.cas, fairChoices_fair.clock, w_frames, w_args, w_heap, w_applies, trivial, w_rest, w_case⟩
end start1
theorem witness_1 : WitnessClaimed_1 := ⟨start1.p0, start1.e0, start1.about1, start1.theMethod, start1.args0, start1.below0, start1.atStart⟩
end Jvm.Pilot.@@N@@
