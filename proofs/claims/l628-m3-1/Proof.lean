import JvmDerived
import JvmDerived.Pilot.@@N@@Statement
import JvmDerived.Pilot.@@N@@Code
set_option linter.unusedVariables false
set_option linter.unusedSimpArgs false
namespace Jvm.RoadKit
open Sem ClassFile Op Lib Jvm.Stand Jvm.Free Jvm.LawKit
section New
variable {p : Program} {l : Launch} {e : Env} {R : Room} {s : State} {m : MethodId} {args : Array Value} {below : List Frame} {meth : Method} {c : Code} {T : State} {locs : List Loc} {cells slots : Nat}
theorem retI (X : Stand p l e R s m args below meth c T locs cells slots) (hx : p.tables.exec = Jvm.exec) {pc : Nat} {Ls : Array Slot} {z : Int32} {rest : List Value} (hret : meth.sig.returnType = some .int) (hd : decode c.code pc = .ok (.ireturn, 1)) {fs : List Frame}
    (hl : ∀ (f : JFrame) (acts : List Action), f.method = m → f.locked = none → f.entered = [] → (doReturn e (T.setTop f) acts (some (.int z))).1 = T.setFrames fs) : Steps p.tables e below (T.setTop (mkF m pc Ls (.int z :: rest))) (T.setFrames fs) := by
  have hm' : T.vm.method? m = some meth := X.method'
  have hn : narrow .int (.int z) = .int z := rfl
  show Steps p.tables e below (T.setTop { method := m, pc := pc, locals := Ls, stack := _ :: rest, locked := none }) _
  jvm_step X.here [X.here.top, hx, hd, hm', hret, hn]
  first | (intro acts; rw [hl _ acts rfl rfl rfl]) | rw [hl _ _ rfl rfl rfl]
  exact Steps.refl _
end New
end Jvm.RoadKit
namespace Jvm.Pilot.@@N@@
open Jvm Jvm.ClassFile Sem Op Lib Jvm.Free Jvm.Stand Jvm.LawKit Jvm.RoadKit Bundle Jvm.Pilot.@@N@@.Jvm.D
theorem own_wS0 {Z : State} {a0 : Array Value} (hw : ∀ d ∈ tables_1, d.before a0 Z = true) : ∀ a ∈ Bundle.stringAtoms, a.before a0 Z = true := by
  intro d hd
  simp only [Bundle.stringAtoms, List.mem_cons, List.not_mem_nil, or_false] at hd
  rcases hd with rfl | rfl | rfl | rfl | rfl | rfl | rfl
  · exact (hw _ (List.mem_of_getElem? (i := 26) rfl))
  · exact (hw _ (List.mem_of_getElem? (i := 27) rfl))
  · exact (hw _ (List.mem_of_getElem? (i := 28) rfl))
  · exact (hw _ (List.mem_of_getElem? (i := 29) rfl))
  · exact (hw _ (List.mem_of_getElem? (i := 30) rfl))
  · exact (hw _ (List.mem_of_getElem? (i := 31) rfl))
  · exact (hw _ (List.mem_of_getElem? (i := 32) rfl))
def own_fix (x : Int64) : Int64 := if lcmpW x (0 : Int64) = (0 : Int32) then (1 : Int64) else x
def own_per (q1 : Int64) (p2 p3 : Int32) : Int64 := if p3 = (0 : Int32) then own_fix (q1 &&& (9223372036854775807 : Int64)) else if p3 = (1 : Int32) then own_fix ((1844674407370955157 : Int64) + ((p2 &&& (7 : Int32)).toInt64)) else if p3 = (2 : Int32) then own_fix (q1 &&& (4294967295 : Int64)) else own_fix ((9223372036854775807 : Int64) - ((p2 &&& (7 : Int32)).toInt64))
theorem d1_0 : decode method_2_code 0 = .ok (.iload_n 3, 1) := by decide +kernel
theorem d1_1 : decode method_2_code 1 = .ok (.ifCond .ne 13, 3) := by decide +kernel
theorem d1_4 : decode method_2_code 4 = .ok (.lload_n 0, 1) := by decide +kernel
theorem d1_5 : decode method_2_code 5 = .ok (.ldc2_w 9, 3) := by decide +kernel
theorem d1_8 : decode method_2_code 8 = .ok (.land, 1) := by decide +kernel
theorem d1_9 : decode method_2_code 9 = .ok (.lstore 4, 2) := by decide +kernel
theorem d1_11 : decode method_2_code 11 = .ok (.goto 48, 3) := by decide +kernel
theorem d1_59 : decode method_2_code 59 = .ok (.lload 4, 2) := by decide +kernel
theorem d1_61 : decode method_2_code 61 = .ok (.lconst 0, 1) := by decide +kernel
theorem d1_62 : decode method_2_code 62 = .ok (.lcmp, 1) := by decide +kernel
theorem d1_63 : decode method_2_code 63 = .ok (.ifCond .ne 6, 3) := by decide +kernel
theorem d1_66 : decode method_2_code 66 = .ok (.lconst 1, 1) := by decide +kernel
theorem d1_67 : decode method_2_code 67 = .ok (.lstore 4, 2) := by decide +kernel
theorem d1_69 : decode method_2_code 69 = .ok (.lload 4, 2) := by decide +kernel
theorem d1_71 : decode method_2_code 71 = .ok (.lreturn, 1) := by decide +kernel
theorem ef_1 (m : MethodId) (x0 : Int64) (x1 : Int32) (x2 : Int32) : entryFrame m #[(.long x0), (.int x1), (.int x2)] 6 = mkF m 0 #[.val (.long x0), .second, .val (.int x1), .val (.int x2), .unset, .unset] [] := by first | (simp [entryFrame, mkF, argsToLocals, Value.category]; done) | rfl
theorem pn_com_example_horae_horae_model_FixedRateStarvationLimitMsPinLaw : plainName "com/example/horae/horae/model/FixedRateStarvationLimitMsPinLaw" = true := by first | (simp [plainName, overriddenIn]; done) | decide +kernel
def QP (r : Option Value) (h0 : Heap) (n0 : Nat) (v : Option Value) (h : Heap) (L : List Loc) : Prop := v = r ∧ Fr n0 L ∧ h = h0
set_option maxRecDepth 65536 in
set_option maxHeartbeats 40000000 in
theorem rm1_0f (l : Launch) (Z : State) (a0 : Array Value) (hw : ∀ d ∈ tables_1, d.before a0 Z = true) (ws : List Jvm.Cond) (q1 : Int64) (p2 : Int32) (p3 : Int32)  (h0 : Heap) (n0 : Nat) (O0 : Old Z n0 h0) (hc1 : p3 = (0 : Int32)) (hc63 : (lcmpW (q1 &&& (9223372036854775807 : Int64)) (0 : Int64)) = (0 : Int32)) :
    MetFree l (⟨"com/example/horae/horae/model/FixedRateStarvationLimitMsPinLaw", "period", "(JII)J"⟩ : MethodName) (head1 (Jvm.Cond.code (⟨"com/example/horae/horae/model/FixedRateStarvationLimitMsPinLaw", "period", "(JII)J"⟩ : MethodName) method_2_code 6 (some .long) :: ws) ({ frames := 0, cells := 0, slots := 0, locals := 0 } : Room)) (fun a U => a = #[(.long q1), (.int p2), (.int p3)] ∧ Z.Warmed39 U.vm ∧ U.heap = h0) (fun _ _ _ _ _ => True) (fun _ U o U' => ∃ v L, o = .returned v ∧ QP (some (.long (1 : Int64))) h0 n0 v U'.heap L ∧ FrameEnd U o U' L ({ frames := 0, cells := 0, slots := 0, locals := 0 } : Room).cells ({ frames := 0, cells := 0, slots := 0, locals := 0 } : Room).slots) := by
  refine MetFree.of_bodySF (plainFor_of_name pn_com_example_horae_horae_model_FixedRateStarvationLimitMsPinLaw) hisR ?_
  intro p e s m args below meth c s₁ Bd hml0 hP hK
  obtain ⟨rfl, hZ, hh⟩ := hP
  have hx := Bd.exec
  have hby := Bd.bytes
  have hml : c.maxLocals = 6 := hml0
  have hown : s.vm.findClass "com/example/horae/horae/model/FixedRateStarvationLimitMsPinLaw" = some m.cls := findClass_of_methodNamed Bd.named
  have hnm := (name_of_methodNamed Bd.named Bd.method).1
  have X0 : Stand p l e ({ frames := 0, cells := 0, slots := 0, locals := 0 } : Room) s m #[(.long q1), (.int p2), (.int p3)] below meth c s₁ [] 0 0 := Stand.of_body Bd
  have e0 : s₁.heap = h0 := by rw [← hh, Bd.state]; rfl
  have N0 := Fr.nil n0
  have pre0 : ∀ t, Steps p.tables e below (s₁.setTop (mkF m 0 #[.val (.long q1), .second, .val (.int p2), .val (.int p3), .unset, .unset] [])) t → Steps p.tables e below (s₁.setTop (entryFrame m #[(.long q1), (.int p2), (.int p3)] 6)) t := fun t k => castTop (ef_1 m q1 p2 p3) k
  obtain ⟨fs, hr, hrun, hended, hW, hsame⟩ := X0.leave (v := some (.long (1 : Int64))) (fun h => by rw [Bd.returns] at h; cases h) (BodyLoose.notSynchronized Bd)
  refine ⟨_, _, pre0 _ ?_, hrun, hended, _, _, rfl, ?_, ⟨_, rfl⟩, hW, hsame.mono (by decide) (by decide)⟩
  · show Steps p.tables e below (s₁.setTop (mkF m 0 #[.val (.long q1), .second, .val (.int p2), .val (.int p3), .unset, .unset] [])) _
    refine XS.iloadN X0.here hx rfl (hb hby d1_0) rfl ?_
    show Steps p.tables e below (s₁.setTop (mkF m 1 #[.val (.long q1), .second, .val (.int p2), .val (.int p3), .unset, .unset] [(.int p3)])) _
    refine XS.ifNo X0.here hx rfl (hb hby d1_1) rfl ((if0 _ _).trans (teq hc1).2) ?_
    show Steps p.tables e below (s₁.setTop (mkF m 4 #[.val (.long q1), .second, .val (.int p2), .val (.int p3), .unset, .unset] [])) _
    refine XS.lloadN X0.here hx rfl (hb hby d1_4) rfl ?_
    show Steps p.tables e below (s₁.setTop (mkF m 5 #[.val (.long q1), .second, .val (.int p2), .val (.int p3), .unset, .unset] [(.long q1)])) _
    refine X0.ldc2Long hx hown (mvT hZ (hw _ (List.mem_of_getElem? (i := 4) rfl))) (g := (mkF m 5 #[.val (.long q1), .second, .val (.int p2), .val (.int p3), .unset, .unset] [(.long q1)])) rfl (hb hby d1_5) _ ?_
    show Steps p.tables e below (s₁.setTop (mkF m 8 #[.val (.long q1), .second, .val (.int p2), .val (.int p3), .unset, .unset] [(.long (9223372036854775807 : Int64)), (.long q1)])) _
    refine XS.land X0.here hx rfl (hb hby d1_8) rfl ?_
    show Steps p.tables e below (s₁.setTop (mkF m 9 #[.val (.long q1), .second, .val (.int p2), .val (.int p3), .unset, .unset] [(.long (q1 &&& (9223372036854775807 : Int64)))])) _
    refine XS.lstore X0.here hx rfl (hb hby d1_9) rfl (l' := #[.val (.long q1), .second, .val (.int p2), .val (.int p3), .val (.long (q1 &&& (9223372036854775807 : Int64))), .second]) rfl ?_
    show Steps p.tables e below (s₁.setTop (mkF m 11 #[.val (.long q1), .second, .val (.int p2), .val (.int p3), .val (.long (q1 &&& (9223372036854775807 : Int64))), .second] [])) _
    refine XS.goto X0.here hx rfl (pc0 := 11) (pc' := 59) rfl (hb hby d1_11) (by decide) (by decide) ?_
    show Steps p.tables e below (s₁.setTop (mkF m 59 #[.val (.long q1), .second, .val (.int p2), .val (.int p3), .val (.long (q1 &&& (9223372036854775807 : Int64))), .second] [])) _
    refine XS.lload X0.here hx rfl (hb hby d1_59) rfl ?_
    show Steps p.tables e below (s₁.setTop (mkF m 61 #[.val (.long q1), .second, .val (.int p2), .val (.int p3), .val (.long (q1 &&& (9223372036854775807 : Int64))), .second] [(.long (q1 &&& (9223372036854775807 : Int64)))])) _
    refine XS.lconst X0.here hx rfl (hb hby d1_61) ?_
    show Steps p.tables e below (s₁.setTop (mkF m 62 #[.val (.long q1), .second, .val (.int p2), .val (.int p3), .val (.long (q1 &&& (9223372036854775807 : Int64))), .second] [(.long (0 : Int64)), (.long (q1 &&& (9223372036854775807 : Int64)))])) _
    refine XS.lcmp X0.here hx rfl (hb hby d1_62) rfl ?_
    show Steps p.tables e below (s₁.setTop (mkF m 63 #[.val (.long q1), .second, .val (.int p2), .val (.int p3), .val (.long (q1 &&& (9223372036854775807 : Int64))), .second] [(.int (lcmpW (q1 &&& (9223372036854775807 : Int64)) (0 : Int64)))])) _
    refine XS.ifNo X0.here hx rfl (hb hby d1_63) rfl ((if0 _ _).trans (teq hc63).2) ?_
    show Steps p.tables e below (s₁.setTop (mkF m 66 #[.val (.long q1), .second, .val (.int p2), .val (.int p3), .val (.long (q1 &&& (9223372036854775807 : Int64))), .second] [])) _
    refine XS.lconst X0.here hx rfl (hb hby d1_66) ?_
    show Steps p.tables e below (s₁.setTop (mkF m 67 #[.val (.long q1), .second, .val (.int p2), .val (.int p3), .val (.long (q1 &&& (9223372036854775807 : Int64))), .second] [(.long (1 : Int64))])) _
    refine XS.lstore X0.here hx rfl (hb hby d1_67) rfl (l' := #[.val (.long q1), .second, .val (.int p2), .val (.int p3), .val (.long (1 : Int64)), .second]) rfl ?_
    show Steps p.tables e below (s₁.setTop (mkF m 69 #[.val (.long q1), .second, .val (.int p2), .val (.int p3), .val (.long (1 : Int64)), .second] [])) _
    refine XS.lload X0.here hx rfl (hb hby d1_69) rfl ?_
    show Steps p.tables e below (s₁.setTop (mkF m 71 #[.val (.long q1), .second, .val (.int p2), .val (.int p3), .val (.long (1 : Int64)), .second] [(.long (1 : Int64))])) _
    exact retOut X0 hx (t := .long) (i := .lreturn) Bd.returns rfl (Or.inr (Or.inl ⟨rfl, rfl, _, rfl⟩)) (hb hby d1_71) hr
  · show QP (some (.long (1 : Int64))) h0 n0 _ s₁.heap _
    rw [e0]
    exact ⟨rfl, N0, rfl⟩
set_option maxRecDepth 65536 in
set_option maxHeartbeats 40000000 in
theorem rm1_0t (l : Launch) (Z : State) (a0 : Array Value) (hw : ∀ d ∈ tables_1, d.before a0 Z = true) (ws : List Jvm.Cond) (q1 : Int64) (p2 : Int32) (p3 : Int32)  (h0 : Heap) (n0 : Nat) (O0 : Old Z n0 h0) (hc1 : p3 = (0 : Int32)) (hc63 : ¬ ((lcmpW (q1 &&& (9223372036854775807 : Int64)) (0 : Int64)) = (0 : Int32))) :
    MetFree l (⟨"com/example/horae/horae/model/FixedRateStarvationLimitMsPinLaw", "period", "(JII)J"⟩ : MethodName) (head1 (Jvm.Cond.code (⟨"com/example/horae/horae/model/FixedRateStarvationLimitMsPinLaw", "period", "(JII)J"⟩ : MethodName) method_2_code 6 (some .long) :: ws) ({ frames := 0, cells := 0, slots := 0, locals := 0 } : Room)) (fun a U => a = #[(.long q1), (.int p2), (.int p3)] ∧ Z.Warmed39 U.vm ∧ U.heap = h0) (fun _ _ _ _ _ => True) (fun _ U o U' => ∃ v L, o = .returned v ∧ QP (some (.long (q1 &&& (9223372036854775807 : Int64)))) h0 n0 v U'.heap L ∧ FrameEnd U o U' L ({ frames := 0, cells := 0, slots := 0, locals := 0 } : Room).cells ({ frames := 0, cells := 0, slots := 0, locals := 0 } : Room).slots) := by
  refine MetFree.of_bodySF (plainFor_of_name pn_com_example_horae_horae_model_FixedRateStarvationLimitMsPinLaw) hisR ?_
  intro p e s m args below meth c s₁ Bd hml0 hP hK
  obtain ⟨rfl, hZ, hh⟩ := hP
  have hx := Bd.exec
  have hby := Bd.bytes
  have hml : c.maxLocals = 6 := hml0
  have hown : s.vm.findClass "com/example/horae/horae/model/FixedRateStarvationLimitMsPinLaw" = some m.cls := findClass_of_methodNamed Bd.named
  have hnm := (name_of_methodNamed Bd.named Bd.method).1
  have X0 : Stand p l e ({ frames := 0, cells := 0, slots := 0, locals := 0 } : Room) s m #[(.long q1), (.int p2), (.int p3)] below meth c s₁ [] 0 0 := Stand.of_body Bd
  have e0 : s₁.heap = h0 := by rw [← hh, Bd.state]; rfl
  have N0 := Fr.nil n0
  have pre0 : ∀ t, Steps p.tables e below (s₁.setTop (mkF m 0 #[.val (.long q1), .second, .val (.int p2), .val (.int p3), .unset, .unset] [])) t → Steps p.tables e below (s₁.setTop (entryFrame m #[(.long q1), (.int p2), (.int p3)] 6)) t := fun t k => castTop (ef_1 m q1 p2 p3) k
  obtain ⟨fs, hr, hrun, hended, hW, hsame⟩ := X0.leave (v := some (.long (q1 &&& (9223372036854775807 : Int64)))) (fun h => by rw [Bd.returns] at h; cases h) (BodyLoose.notSynchronized Bd)
  refine ⟨_, _, pre0 _ ?_, hrun, hended, _, _, rfl, ?_, ⟨_, rfl⟩, hW, hsame.mono (by decide) (by decide)⟩
  · show Steps p.tables e below (s₁.setTop (mkF m 0 #[.val (.long q1), .second, .val (.int p2), .val (.int p3), .unset, .unset] [])) _
    refine XS.iloadN X0.here hx rfl (hb hby d1_0) rfl ?_
    show Steps p.tables e below (s₁.setTop (mkF m 1 #[.val (.long q1), .second, .val (.int p2), .val (.int p3), .unset, .unset] [(.int p3)])) _
    refine XS.ifNo X0.here hx rfl (hb hby d1_1) rfl ((if0 _ _).trans (teq hc1).2) ?_
    show Steps p.tables e below (s₁.setTop (mkF m 4 #[.val (.long q1), .second, .val (.int p2), .val (.int p3), .unset, .unset] [])) _
    refine XS.lloadN X0.here hx rfl (hb hby d1_4) rfl ?_
    show Steps p.tables e below (s₁.setTop (mkF m 5 #[.val (.long q1), .second, .val (.int p2), .val (.int p3), .unset, .unset] [(.long q1)])) _
    refine X0.ldc2Long hx hown (mvT hZ (hw _ (List.mem_of_getElem? (i := 4) rfl))) (g := (mkF m 5 #[.val (.long q1), .second, .val (.int p2), .val (.int p3), .unset, .unset] [(.long q1)])) rfl (hb hby d1_5) _ ?_
    show Steps p.tables e below (s₁.setTop (mkF m 8 #[.val (.long q1), .second, .val (.int p2), .val (.int p3), .unset, .unset] [(.long (9223372036854775807 : Int64)), (.long q1)])) _
    refine XS.land X0.here hx rfl (hb hby d1_8) rfl ?_
    show Steps p.tables e below (s₁.setTop (mkF m 9 #[.val (.long q1), .second, .val (.int p2), .val (.int p3), .unset, .unset] [(.long (q1 &&& (9223372036854775807 : Int64)))])) _
    refine XS.lstore X0.here hx rfl (hb hby d1_9) rfl (l' := #[.val (.long q1), .second, .val (.int p2), .val (.int p3), .val (.long (q1 &&& (9223372036854775807 : Int64))), .second]) rfl ?_
    show Steps p.tables e below (s₁.setTop (mkF m 11 #[.val (.long q1), .second, .val (.int p2), .val (.int p3), .val (.long (q1 &&& (9223372036854775807 : Int64))), .second] [])) _
    refine XS.goto X0.here hx rfl (pc0 := 11) (pc' := 59) rfl (hb hby d1_11) (by decide) (by decide) ?_
    show Steps p.tables e below (s₁.setTop (mkF m 59 #[.val (.long q1), .second, .val (.int p2), .val (.int p3), .val (.long (q1 &&& (9223372036854775807 : Int64))), .second] [])) _
    refine XS.lload X0.here hx rfl (hb hby d1_59) rfl ?_
    show Steps p.tables e below (s₁.setTop (mkF m 61 #[.val (.long q1), .second, .val (.int p2), .val (.int p3), .val (.long (q1 &&& (9223372036854775807 : Int64))), .second] [(.long (q1 &&& (9223372036854775807 : Int64)))])) _
    refine XS.lconst X0.here hx rfl (hb hby d1_61) ?_
    show Steps p.tables e below (s₁.setTop (mkF m 62 #[.val (.long q1), .second, .val (.int p2), .val (.int p3), .val (.long (q1 &&& (9223372036854775807 : Int64))), .second] [(.long (0 : Int64)), (.long (q1 &&& (9223372036854775807 : Int64)))])) _
    refine XS.lcmp X0.here hx rfl (hb hby d1_62) rfl ?_
    show Steps p.tables e below (s₁.setTop (mkF m 63 #[.val (.long q1), .second, .val (.int p2), .val (.int p3), .val (.long (q1 &&& (9223372036854775807 : Int64))), .second] [(.int (lcmpW (q1 &&& (9223372036854775807 : Int64)) (0 : Int64)))])) _
    refine XS.ifYes X0.here hx rfl (pc0 := 63) (pc' := 69) rfl (hb hby d1_63) rfl ((if0 _ _).trans (feq hc63).2) (by decide) (by decide) ?_
    show Steps p.tables e below (s₁.setTop (mkF m 69 #[.val (.long q1), .second, .val (.int p2), .val (.int p3), .val (.long (q1 &&& (9223372036854775807 : Int64))), .second] [])) _
    refine XS.lload X0.here hx rfl (hb hby d1_69) rfl ?_
    show Steps p.tables e below (s₁.setTop (mkF m 71 #[.val (.long q1), .second, .val (.int p2), .val (.int p3), .val (.long (q1 &&& (9223372036854775807 : Int64))), .second] [(.long (q1 &&& (9223372036854775807 : Int64)))])) _
    exact retOut X0 hx (t := .long) (i := .lreturn) Bd.returns rfl (Or.inr (Or.inl ⟨rfl, rfl, _, rfl⟩)) (hb hby d1_71) hr
  · show QP (some (.long (q1 &&& (9223372036854775807 : Int64)))) h0 n0 _ s₁.heap _
    rw [e0]
    exact ⟨rfl, N0, rfl⟩
theorem d1_14 : decode method_2_code 14 = .ok (.iload_n 3, 1) := by decide +kernel
theorem d1_15 : decode method_2_code 15 = .ok (.iconst 1, 1) := by decide +kernel
theorem d1_16 : decode method_2_code 16 = .ok (.if_icmp .ne 17, 3) := by decide +kernel
theorem d1_19 : decode method_2_code 19 = .ok (.ldc2_w 11, 3) := by decide +kernel
theorem d1_22 : decode method_2_code 22 = .ok (.iload_n 2, 1) := by decide +kernel
theorem d1_23 : decode method_2_code 23 = .ok (.bipush 7, 2) := by decide +kernel
theorem d1_25 : decode method_2_code 25 = .ok (.iand, 1) := by decide +kernel
theorem d1_26 : decode method_2_code 26 = .ok (.i2l, 1) := by decide +kernel
theorem d1_27 : decode method_2_code 27 = .ok (.ladd, 1) := by decide +kernel
theorem d1_28 : decode method_2_code 28 = .ok (.lstore 4, 2) := by decide +kernel
theorem d1_30 : decode method_2_code 30 = .ok (.goto 29, 3) := by decide +kernel
set_option maxRecDepth 65536 in
set_option maxHeartbeats 40000000 in
theorem rm1_1f (l : Launch) (Z : State) (a0 : Array Value) (hw : ∀ d ∈ tables_1, d.before a0 Z = true) (ws : List Jvm.Cond) (q1 : Int64) (p2 : Int32) (p3 : Int32)  (h0 : Heap) (n0 : Nat) (O0 : Old Z n0 h0) (hc1 : ¬ (p3 = (0 : Int32))) (hc16 : p3 = (1 : Int32)) (hc63 : (lcmpW ((1844674407370955157 : Int64) + ((p2 &&& (7 : Int32)).toInt64)) (0 : Int64)) = (0 : Int32)) :
    MetFree l (⟨"com/example/horae/horae/model/FixedRateStarvationLimitMsPinLaw", "period", "(JII)J"⟩ : MethodName) (head1 (Jvm.Cond.code (⟨"com/example/horae/horae/model/FixedRateStarvationLimitMsPinLaw", "period", "(JII)J"⟩ : MethodName) method_2_code 6 (some .long) :: ws) ({ frames := 0, cells := 0, slots := 0, locals := 0 } : Room)) (fun a U => a = #[(.long q1), (.int p2), (.int p3)] ∧ Z.Warmed39 U.vm ∧ U.heap = h0) (fun _ _ _ _ _ => True) (fun _ U o U' => ∃ v L, o = .returned v ∧ QP (some (.long (1 : Int64))) h0 n0 v U'.heap L ∧ FrameEnd U o U' L ({ frames := 0, cells := 0, slots := 0, locals := 0 } : Room).cells ({ frames := 0, cells := 0, slots := 0, locals := 0 } : Room).slots) := by
  refine MetFree.of_bodySF (plainFor_of_name pn_com_example_horae_horae_model_FixedRateStarvationLimitMsPinLaw) hisR ?_
  intro p e s m args below meth c s₁ Bd hml0 hP hK
  obtain ⟨rfl, hZ, hh⟩ := hP
  have hx := Bd.exec
  have hby := Bd.bytes
  have hml : c.maxLocals = 6 := hml0
  have hown : s.vm.findClass "com/example/horae/horae/model/FixedRateStarvationLimitMsPinLaw" = some m.cls := findClass_of_methodNamed Bd.named
  have hnm := (name_of_methodNamed Bd.named Bd.method).1
  have X0 : Stand p l e ({ frames := 0, cells := 0, slots := 0, locals := 0 } : Room) s m #[(.long q1), (.int p2), (.int p3)] below meth c s₁ [] 0 0 := Stand.of_body Bd
  have e0 : s₁.heap = h0 := by rw [← hh, Bd.state]; rfl
  have N0 := Fr.nil n0
  have pre0 : ∀ t, Steps p.tables e below (s₁.setTop (mkF m 0 #[.val (.long q1), .second, .val (.int p2), .val (.int p3), .unset, .unset] [])) t → Steps p.tables e below (s₁.setTop (entryFrame m #[(.long q1), (.int p2), (.int p3)] 6)) t := fun t k => castTop (ef_1 m q1 p2 p3) k
  obtain ⟨fs, hr, hrun, hended, hW, hsame⟩ := X0.leave (v := some (.long (1 : Int64))) (fun h => by rw [Bd.returns] at h; cases h) (BodyLoose.notSynchronized Bd)
  refine ⟨_, _, pre0 _ ?_, hrun, hended, _, _, rfl, ?_, ⟨_, rfl⟩, hW, hsame.mono (by decide) (by decide)⟩
  · show Steps p.tables e below (s₁.setTop (mkF m 0 #[.val (.long q1), .second, .val (.int p2), .val (.int p3), .unset, .unset] [])) _
    refine XS.iloadN X0.here hx rfl (hb hby d1_0) rfl ?_
    show Steps p.tables e below (s₁.setTop (mkF m 1 #[.val (.long q1), .second, .val (.int p2), .val (.int p3), .unset, .unset] [(.int p3)])) _
    refine XS.ifYes X0.here hx rfl (pc0 := 1) (pc' := 14) rfl (hb hby d1_1) rfl ((if0 _ _).trans (feq hc1).2) (by decide) (by decide) ?_
    show Steps p.tables e below (s₁.setTop (mkF m 14 #[.val (.long q1), .second, .val (.int p2), .val (.int p3), .unset, .unset] [])) _
    refine XS.iloadN X0.here hx rfl (hb hby d1_14) rfl ?_
    show Steps p.tables e below (s₁.setTop (mkF m 15 #[.val (.long q1), .second, .val (.int p2), .val (.int p3), .unset, .unset] [(.int p3)])) _
    refine XS.iconst X0.here hx rfl (hb hby d1_15) ?_
    show Steps p.tables e below (s₁.setTop (mkF m 16 #[.val (.long q1), .second, .val (.int p2), .val (.int p3), .unset, .unset] [(.int (1 : Int32)), (.int p3)])) _
    refine XS.icmpNo X0.here hx rfl (hb hby d1_16) rfl (teq hc16).2 ?_
    show Steps p.tables e below (s₁.setTop (mkF m 19 #[.val (.long q1), .second, .val (.int p2), .val (.int p3), .unset, .unset] [])) _
    refine X0.ldc2Long hx hown (mvT hZ (hw _ (List.mem_of_getElem? (i := 57) rfl))) (g := (mkF m 19 #[.val (.long q1), .second, .val (.int p2), .val (.int p3), .unset, .unset] [])) rfl (hb hby d1_19) _ ?_
    show Steps p.tables e below (s₁.setTop (mkF m 22 #[.val (.long q1), .second, .val (.int p2), .val (.int p3), .unset, .unset] [(.long (1844674407370955157 : Int64))])) _
    refine XS.iloadN X0.here hx rfl (hb hby d1_22) rfl ?_
    show Steps p.tables e below (s₁.setTop (mkF m 23 #[.val (.long q1), .second, .val (.int p2), .val (.int p3), .unset, .unset] [(.int p2), (.long (1844674407370955157 : Int64))])) _
    refine XS.bipush X0.here hx rfl (hb hby d1_23) ?_
    show Steps p.tables e below (s₁.setTop (mkF m 25 #[.val (.long q1), .second, .val (.int p2), .val (.int p3), .unset, .unset] [(.int (7 : Int32)), (.int p2), (.long (1844674407370955157 : Int64))])) _
    refine XS.iand X0.here hx rfl (hb hby d1_25) rfl ?_
    show Steps p.tables e below (s₁.setTop (mkF m 26 #[.val (.long q1), .second, .val (.int p2), .val (.int p3), .unset, .unset] [(.int (p2 &&& (7 : Int32))), (.long (1844674407370955157 : Int64))])) _
    refine XS.i2l X0.here hx rfl (hb hby d1_26) rfl ?_
    show Steps p.tables e below (s₁.setTop (mkF m 27 #[.val (.long q1), .second, .val (.int p2), .val (.int p3), .unset, .unset] [(.long ((p2 &&& (7 : Int32)).toInt64)), (.long (1844674407370955157 : Int64))])) _
    refine XS.ladd X0.here hx rfl (hb hby d1_27) rfl ?_
    show Steps p.tables e below (s₁.setTop (mkF m 28 #[.val (.long q1), .second, .val (.int p2), .val (.int p3), .unset, .unset] [(.long ((1844674407370955157 : Int64) + ((p2 &&& (7 : Int32)).toInt64)))])) _
    refine XS.lstore X0.here hx rfl (hb hby d1_28) rfl (l' := #[.val (.long q1), .second, .val (.int p2), .val (.int p3), .val (.long ((1844674407370955157 : Int64) + ((p2 &&& (7 : Int32)).toInt64))), .second]) rfl ?_
    show Steps p.tables e below (s₁.setTop (mkF m 30 #[.val (.long q1), .second, .val (.int p2), .val (.int p3), .val (.long ((1844674407370955157 : Int64) + ((p2 &&& (7 : Int32)).toInt64))), .second] [])) _
    refine XS.goto X0.here hx rfl (pc0 := 30) (pc' := 59) rfl (hb hby d1_30) (by decide) (by decide) ?_
    show Steps p.tables e below (s₁.setTop (mkF m 59 #[.val (.long q1), .second, .val (.int p2), .val (.int p3), .val (.long ((1844674407370955157 : Int64) + ((p2 &&& (7 : Int32)).toInt64))), .second] [])) _
    refine XS.lload X0.here hx rfl (hb hby d1_59) rfl ?_
    show Steps p.tables e below (s₁.setTop (mkF m 61 #[.val (.long q1), .second, .val (.int p2), .val (.int p3), .val (.long ((1844674407370955157 : Int64) + ((p2 &&& (7 : Int32)).toInt64))), .second] [(.long ((1844674407370955157 : Int64) + ((p2 &&& (7 : Int32)).toInt64)))])) _
    refine XS.lconst X0.here hx rfl (hb hby d1_61) ?_
    show Steps p.tables e below (s₁.setTop (mkF m 62 #[.val (.long q1), .second, .val (.int p2), .val (.int p3), .val (.long ((1844674407370955157 : Int64) + ((p2 &&& (7 : Int32)).toInt64))), .second] [(.long (0 : Int64)), (.long ((1844674407370955157 : Int64) + ((p2 &&& (7 : Int32)).toInt64)))])) _
    refine XS.lcmp X0.here hx rfl (hb hby d1_62) rfl ?_
    show Steps p.tables e below (s₁.setTop (mkF m 63 #[.val (.long q1), .second, .val (.int p2), .val (.int p3), .val (.long ((1844674407370955157 : Int64) + ((p2 &&& (7 : Int32)).toInt64))), .second] [(.int (lcmpW ((1844674407370955157 : Int64) + ((p2 &&& (7 : Int32)).toInt64)) (0 : Int64)))])) _
    refine XS.ifNo X0.here hx rfl (hb hby d1_63) rfl ((if0 _ _).trans (teq hc63).2) ?_
    show Steps p.tables e below (s₁.setTop (mkF m 66 #[.val (.long q1), .second, .val (.int p2), .val (.int p3), .val (.long ((1844674407370955157 : Int64) + ((p2 &&& (7 : Int32)).toInt64))), .second] [])) _
    refine XS.lconst X0.here hx rfl (hb hby d1_66) ?_
    show Steps p.tables e below (s₁.setTop (mkF m 67 #[.val (.long q1), .second, .val (.int p2), .val (.int p3), .val (.long ((1844674407370955157 : Int64) + ((p2 &&& (7 : Int32)).toInt64))), .second] [(.long (1 : Int64))])) _
    refine XS.lstore X0.here hx rfl (hb hby d1_67) rfl (l' := #[.val (.long q1), .second, .val (.int p2), .val (.int p3), .val (.long (1 : Int64)), .second]) rfl ?_
    show Steps p.tables e below (s₁.setTop (mkF m 69 #[.val (.long q1), .second, .val (.int p2), .val (.int p3), .val (.long (1 : Int64)), .second] [])) _
    refine XS.lload X0.here hx rfl (hb hby d1_69) rfl ?_
    show Steps p.tables e below (s₁.setTop (mkF m 71 #[.val (.long q1), .second, .val (.int p2), .val (.int p3), .val (.long (1 : Int64)), .second] [(.long (1 : Int64))])) _
    exact retOut X0 hx (t := .long) (i := .lreturn) Bd.returns rfl (Or.inr (Or.inl ⟨rfl, rfl, _, rfl⟩)) (hb hby d1_71) hr
  · show QP (some (.long (1 : Int64))) h0 n0 _ s₁.heap _
    rw [e0]
    exact ⟨rfl, N0, rfl⟩
set_option maxRecDepth 65536 in
set_option maxHeartbeats 40000000 in
theorem rm1_1t (l : Launch) (Z : State) (a0 : Array Value) (hw : ∀ d ∈ tables_1, d.before a0 Z = true) (ws : List Jvm.Cond) (q1 : Int64) (p2 : Int32) (p3 : Int32)  (h0 : Heap) (n0 : Nat) (O0 : Old Z n0 h0) (hc1 : ¬ (p3 = (0 : Int32))) (hc16 : p3 = (1 : Int32)) (hc63 : ¬ ((lcmpW ((1844674407370955157 : Int64) + ((p2 &&& (7 : Int32)).toInt64)) (0 : Int64)) = (0 : Int32))) :
    MetFree l (⟨"com/example/horae/horae/model/FixedRateStarvationLimitMsPinLaw", "period", "(JII)J"⟩ : MethodName) (head1 (Jvm.Cond.code (⟨"com/example/horae/horae/model/FixedRateStarvationLimitMsPinLaw", "period", "(JII)J"⟩ : MethodName) method_2_code 6 (some .long) :: ws) ({ frames := 0, cells := 0, slots := 0, locals := 0 } : Room)) (fun a U => a = #[(.long q1), (.int p2), (.int p3)] ∧ Z.Warmed39 U.vm ∧ U.heap = h0) (fun _ _ _ _ _ => True) (fun _ U o U' => ∃ v L, o = .returned v ∧ QP (some (.long ((1844674407370955157 : Int64) + ((p2 &&& (7 : Int32)).toInt64)))) h0 n0 v U'.heap L ∧ FrameEnd U o U' L ({ frames := 0, cells := 0, slots := 0, locals := 0 } : Room).cells ({ frames := 0, cells := 0, slots := 0, locals := 0 } : Room).slots) := by
  refine MetFree.of_bodySF (plainFor_of_name pn_com_example_horae_horae_model_FixedRateStarvationLimitMsPinLaw) hisR ?_
  intro p e s m args below meth c s₁ Bd hml0 hP hK
  obtain ⟨rfl, hZ, hh⟩ := hP
  have hx := Bd.exec
  have hby := Bd.bytes
  have hml : c.maxLocals = 6 := hml0
  have hown : s.vm.findClass "com/example/horae/horae/model/FixedRateStarvationLimitMsPinLaw" = some m.cls := findClass_of_methodNamed Bd.named
  have hnm := (name_of_methodNamed Bd.named Bd.method).1
  have X0 : Stand p l e ({ frames := 0, cells := 0, slots := 0, locals := 0 } : Room) s m #[(.long q1), (.int p2), (.int p3)] below meth c s₁ [] 0 0 := Stand.of_body Bd
  have e0 : s₁.heap = h0 := by rw [← hh, Bd.state]; rfl
  have N0 := Fr.nil n0
  have pre0 : ∀ t, Steps p.tables e below (s₁.setTop (mkF m 0 #[.val (.long q1), .second, .val (.int p2), .val (.int p3), .unset, .unset] [])) t → Steps p.tables e below (s₁.setTop (entryFrame m #[(.long q1), (.int p2), (.int p3)] 6)) t := fun t k => castTop (ef_1 m q1 p2 p3) k
  obtain ⟨fs, hr, hrun, hended, hW, hsame⟩ := X0.leave (v := some (.long ((1844674407370955157 : Int64) + ((p2 &&& (7 : Int32)).toInt64)))) (fun h => by rw [Bd.returns] at h; cases h) (BodyLoose.notSynchronized Bd)
  refine ⟨_, _, pre0 _ ?_, hrun, hended, _, _, rfl, ?_, ⟨_, rfl⟩, hW, hsame.mono (by decide) (by decide)⟩
  · show Steps p.tables e below (s₁.setTop (mkF m 0 #[.val (.long q1), .second, .val (.int p2), .val (.int p3), .unset, .unset] [])) _
    refine XS.iloadN X0.here hx rfl (hb hby d1_0) rfl ?_
    show Steps p.tables e below (s₁.setTop (mkF m 1 #[.val (.long q1), .second, .val (.int p2), .val (.int p3), .unset, .unset] [(.int p3)])) _
    refine XS.ifYes X0.here hx rfl (pc0 := 1) (pc' := 14) rfl (hb hby d1_1) rfl ((if0 _ _).trans (feq hc1).2) (by decide) (by decide) ?_
    show Steps p.tables e below (s₁.setTop (mkF m 14 #[.val (.long q1), .second, .val (.int p2), .val (.int p3), .unset, .unset] [])) _
    refine XS.iloadN X0.here hx rfl (hb hby d1_14) rfl ?_
    show Steps p.tables e below (s₁.setTop (mkF m 15 #[.val (.long q1), .second, .val (.int p2), .val (.int p3), .unset, .unset] [(.int p3)])) _
    refine XS.iconst X0.here hx rfl (hb hby d1_15) ?_
    show Steps p.tables e below (s₁.setTop (mkF m 16 #[.val (.long q1), .second, .val (.int p2), .val (.int p3), .unset, .unset] [(.int (1 : Int32)), (.int p3)])) _
    refine XS.icmpNo X0.here hx rfl (hb hby d1_16) rfl (teq hc16).2 ?_
    show Steps p.tables e below (s₁.setTop (mkF m 19 #[.val (.long q1), .second, .val (.int p2), .val (.int p3), .unset, .unset] [])) _
    refine X0.ldc2Long hx hown (mvT hZ (hw _ (List.mem_of_getElem? (i := 57) rfl))) (g := (mkF m 19 #[.val (.long q1), .second, .val (.int p2), .val (.int p3), .unset, .unset] [])) rfl (hb hby d1_19) _ ?_
    show Steps p.tables e below (s₁.setTop (mkF m 22 #[.val (.long q1), .second, .val (.int p2), .val (.int p3), .unset, .unset] [(.long (1844674407370955157 : Int64))])) _
    refine XS.iloadN X0.here hx rfl (hb hby d1_22) rfl ?_
    show Steps p.tables e below (s₁.setTop (mkF m 23 #[.val (.long q1), .second, .val (.int p2), .val (.int p3), .unset, .unset] [(.int p2), (.long (1844674407370955157 : Int64))])) _
    refine XS.bipush X0.here hx rfl (hb hby d1_23) ?_
    show Steps p.tables e below (s₁.setTop (mkF m 25 #[.val (.long q1), .second, .val (.int p2), .val (.int p3), .unset, .unset] [(.int (7 : Int32)), (.int p2), (.long (1844674407370955157 : Int64))])) _
    refine XS.iand X0.here hx rfl (hb hby d1_25) rfl ?_
    show Steps p.tables e below (s₁.setTop (mkF m 26 #[.val (.long q1), .second, .val (.int p2), .val (.int p3), .unset, .unset] [(.int (p2 &&& (7 : Int32))), (.long (1844674407370955157 : Int64))])) _
    refine XS.i2l X0.here hx rfl (hb hby d1_26) rfl ?_
    show Steps p.tables e below (s₁.setTop (mkF m 27 #[.val (.long q1), .second, .val (.int p2), .val (.int p3), .unset, .unset] [(.long ((p2 &&& (7 : Int32)).toInt64)), (.long (1844674407370955157 : Int64))])) _
    refine XS.ladd X0.here hx rfl (hb hby d1_27) rfl ?_
    show Steps p.tables e below (s₁.setTop (mkF m 28 #[.val (.long q1), .second, .val (.int p2), .val (.int p3), .unset, .unset] [(.long ((1844674407370955157 : Int64) + ((p2 &&& (7 : Int32)).toInt64)))])) _
    refine XS.lstore X0.here hx rfl (hb hby d1_28) rfl (l' := #[.val (.long q1), .second, .val (.int p2), .val (.int p3), .val (.long ((1844674407370955157 : Int64) + ((p2 &&& (7 : Int32)).toInt64))), .second]) rfl ?_
    show Steps p.tables e below (s₁.setTop (mkF m 30 #[.val (.long q1), .second, .val (.int p2), .val (.int p3), .val (.long ((1844674407370955157 : Int64) + ((p2 &&& (7 : Int32)).toInt64))), .second] [])) _
    refine XS.goto X0.here hx rfl (pc0 := 30) (pc' := 59) rfl (hb hby d1_30) (by decide) (by decide) ?_
    show Steps p.tables e below (s₁.setTop (mkF m 59 #[.val (.long q1), .second, .val (.int p2), .val (.int p3), .val (.long ((1844674407370955157 : Int64) + ((p2 &&& (7 : Int32)).toInt64))), .second] [])) _
    refine XS.lload X0.here hx rfl (hb hby d1_59) rfl ?_
    show Steps p.tables e below (s₁.setTop (mkF m 61 #[.val (.long q1), .second, .val (.int p2), .val (.int p3), .val (.long ((1844674407370955157 : Int64) + ((p2 &&& (7 : Int32)).toInt64))), .second] [(.long ((1844674407370955157 : Int64) + ((p2 &&& (7 : Int32)).toInt64)))])) _
    refine XS.lconst X0.here hx rfl (hb hby d1_61) ?_
    show Steps p.tables e below (s₁.setTop (mkF m 62 #[.val (.long q1), .second, .val (.int p2), .val (.int p3), .val (.long ((1844674407370955157 : Int64) + ((p2 &&& (7 : Int32)).toInt64))), .second] [(.long (0 : Int64)), (.long ((1844674407370955157 : Int64) + ((p2 &&& (7 : Int32)).toInt64)))])) _
    refine XS.lcmp X0.here hx rfl (hb hby d1_62) rfl ?_
    show Steps p.tables e below (s₁.setTop (mkF m 63 #[.val (.long q1), .second, .val (.int p2), .val (.int p3), .val (.long ((1844674407370955157 : Int64) + ((p2 &&& (7 : Int32)).toInt64))), .second] [(.int (lcmpW ((1844674407370955157 : Int64) + ((p2 &&& (7 : Int32)).toInt64)) (0 : Int64)))])) _
    refine XS.ifYes X0.here hx rfl (pc0 := 63) (pc' := 69) rfl (hb hby d1_63) rfl ((if0 _ _).trans (feq hc63).2) (by decide) (by decide) ?_
    show Steps p.tables e below (s₁.setTop (mkF m 69 #[.val (.long q1), .second, .val (.int p2), .val (.int p3), .val (.long ((1844674407370955157 : Int64) + ((p2 &&& (7 : Int32)).toInt64))), .second] [])) _
    refine XS.lload X0.here hx rfl (hb hby d1_69) rfl ?_
    show Steps p.tables e below (s₁.setTop (mkF m 71 #[.val (.long q1), .second, .val (.int p2), .val (.int p3), .val (.long ((1844674407370955157 : Int64) + ((p2 &&& (7 : Int32)).toInt64))), .second] [(.long ((1844674407370955157 : Int64) + ((p2 &&& (7 : Int32)).toInt64)))])) _
    exact retOut X0 hx (t := .long) (i := .lreturn) Bd.returns rfl (Or.inr (Or.inl ⟨rfl, rfl, _, rfl⟩)) (hb hby d1_71) hr
  · show QP (some (.long ((1844674407370955157 : Int64) + ((p2 &&& (7 : Int32)).toInt64)))) h0 n0 _ s₁.heap _
    rw [e0]
    exact ⟨rfl, N0, rfl⟩
theorem d1_33 : decode method_2_code 33 = .ok (.iload_n 3, 1) := by decide +kernel
theorem d1_34 : decode method_2_code 34 = .ok (.iconst 2, 1) := by decide +kernel
theorem d1_35 : decode method_2_code 35 = .ok (.if_icmp .ne 13, 3) := by decide +kernel
theorem d1_38 : decode method_2_code 38 = .ok (.lload_n 0, 1) := by decide +kernel
theorem d1_39 : decode method_2_code 39 = .ok (.ldc2_w 13, 3) := by decide +kernel
theorem d1_42 : decode method_2_code 42 = .ok (.land, 1) := by decide +kernel
theorem d1_43 : decode method_2_code 43 = .ok (.lstore 4, 2) := by decide +kernel
theorem d1_45 : decode method_2_code 45 = .ok (.goto 14, 3) := by decide +kernel
set_option maxRecDepth 65536 in
set_option maxHeartbeats 40000000 in
theorem rm1_2f (l : Launch) (Z : State) (a0 : Array Value) (hw : ∀ d ∈ tables_1, d.before a0 Z = true) (ws : List Jvm.Cond) (q1 : Int64) (p2 : Int32) (p3 : Int32)  (h0 : Heap) (n0 : Nat) (O0 : Old Z n0 h0) (hc1 : ¬ (p3 = (0 : Int32))) (hc16 : ¬ (p3 = (1 : Int32))) (hc35 : p3 = (2 : Int32)) (hc63 : (lcmpW (q1 &&& (4294967295 : Int64)) (0 : Int64)) = (0 : Int32)) :
    MetFree l (⟨"com/example/horae/horae/model/FixedRateStarvationLimitMsPinLaw", "period", "(JII)J"⟩ : MethodName) (head1 (Jvm.Cond.code (⟨"com/example/horae/horae/model/FixedRateStarvationLimitMsPinLaw", "period", "(JII)J"⟩ : MethodName) method_2_code 6 (some .long) :: ws) ({ frames := 0, cells := 0, slots := 0, locals := 0 } : Room)) (fun a U => a = #[(.long q1), (.int p2), (.int p3)] ∧ Z.Warmed39 U.vm ∧ U.heap = h0) (fun _ _ _ _ _ => True) (fun _ U o U' => ∃ v L, o = .returned v ∧ QP (some (.long (1 : Int64))) h0 n0 v U'.heap L ∧ FrameEnd U o U' L ({ frames := 0, cells := 0, slots := 0, locals := 0 } : Room).cells ({ frames := 0, cells := 0, slots := 0, locals := 0 } : Room).slots) := by
  refine MetFree.of_bodySF (plainFor_of_name pn_com_example_horae_horae_model_FixedRateStarvationLimitMsPinLaw) hisR ?_
  intro p e s m args below meth c s₁ Bd hml0 hP hK
  obtain ⟨rfl, hZ, hh⟩ := hP
  have hx := Bd.exec
  have hby := Bd.bytes
  have hml : c.maxLocals = 6 := hml0
  have hown : s.vm.findClass "com/example/horae/horae/model/FixedRateStarvationLimitMsPinLaw" = some m.cls := findClass_of_methodNamed Bd.named
  have hnm := (name_of_methodNamed Bd.named Bd.method).1
  have X0 : Stand p l e ({ frames := 0, cells := 0, slots := 0, locals := 0 } : Room) s m #[(.long q1), (.int p2), (.int p3)] below meth c s₁ [] 0 0 := Stand.of_body Bd
  have e0 : s₁.heap = h0 := by rw [← hh, Bd.state]; rfl
  have N0 := Fr.nil n0
  have pre0 : ∀ t, Steps p.tables e below (s₁.setTop (mkF m 0 #[.val (.long q1), .second, .val (.int p2), .val (.int p3), .unset, .unset] [])) t → Steps p.tables e below (s₁.setTop (entryFrame m #[(.long q1), (.int p2), (.int p3)] 6)) t := fun t k => castTop (ef_1 m q1 p2 p3) k
  obtain ⟨fs, hr, hrun, hended, hW, hsame⟩ := X0.leave (v := some (.long (1 : Int64))) (fun h => by rw [Bd.returns] at h; cases h) (BodyLoose.notSynchronized Bd)
  refine ⟨_, _, pre0 _ ?_, hrun, hended, _, _, rfl, ?_, ⟨_, rfl⟩, hW, hsame.mono (by decide) (by decide)⟩
  · show Steps p.tables e below (s₁.setTop (mkF m 0 #[.val (.long q1), .second, .val (.int p2), .val (.int p3), .unset, .unset] [])) _
    refine XS.iloadN X0.here hx rfl (hb hby d1_0) rfl ?_
    show Steps p.tables e below (s₁.setTop (mkF m 1 #[.val (.long q1), .second, .val (.int p2), .val (.int p3), .unset, .unset] [(.int p3)])) _
    refine XS.ifYes X0.here hx rfl (pc0 := 1) (pc' := 14) rfl (hb hby d1_1) rfl ((if0 _ _).trans (feq hc1).2) (by decide) (by decide) ?_
    show Steps p.tables e below (s₁.setTop (mkF m 14 #[.val (.long q1), .second, .val (.int p2), .val (.int p3), .unset, .unset] [])) _
    refine XS.iloadN X0.here hx rfl (hb hby d1_14) rfl ?_
    show Steps p.tables e below (s₁.setTop (mkF m 15 #[.val (.long q1), .second, .val (.int p2), .val (.int p3), .unset, .unset] [(.int p3)])) _
    refine XS.iconst X0.here hx rfl (hb hby d1_15) ?_
    show Steps p.tables e below (s₁.setTop (mkF m 16 #[.val (.long q1), .second, .val (.int p2), .val (.int p3), .unset, .unset] [(.int (1 : Int32)), (.int p3)])) _
    refine XS.icmpYes X0.here hx rfl (pc0 := 16) (pc' := 33) rfl (hb hby d1_16) rfl (feq hc16).2 (by decide) (by decide) ?_
    show Steps p.tables e below (s₁.setTop (mkF m 33 #[.val (.long q1), .second, .val (.int p2), .val (.int p3), .unset, .unset] [])) _
    refine XS.iloadN X0.here hx rfl (hb hby d1_33) rfl ?_
    show Steps p.tables e below (s₁.setTop (mkF m 34 #[.val (.long q1), .second, .val (.int p2), .val (.int p3), .unset, .unset] [(.int p3)])) _
    refine XS.iconst X0.here hx rfl (hb hby d1_34) ?_
    show Steps p.tables e below (s₁.setTop (mkF m 35 #[.val (.long q1), .second, .val (.int p2), .val (.int p3), .unset, .unset] [(.int (2 : Int32)), (.int p3)])) _
    refine XS.icmpNo X0.here hx rfl (hb hby d1_35) rfl (teq hc35).2 ?_
    show Steps p.tables e below (s₁.setTop (mkF m 38 #[.val (.long q1), .second, .val (.int p2), .val (.int p3), .unset, .unset] [])) _
    refine XS.lloadN X0.here hx rfl (hb hby d1_38) rfl ?_
    show Steps p.tables e below (s₁.setTop (mkF m 39 #[.val (.long q1), .second, .val (.int p2), .val (.int p3), .unset, .unset] [(.long q1)])) _
    refine X0.ldc2Long hx hown (mvT hZ (hw _ (List.mem_of_getElem? (i := 53) rfl))) (g := (mkF m 39 #[.val (.long q1), .second, .val (.int p2), .val (.int p3), .unset, .unset] [(.long q1)])) rfl (hb hby d1_39) _ ?_
    show Steps p.tables e below (s₁.setTop (mkF m 42 #[.val (.long q1), .second, .val (.int p2), .val (.int p3), .unset, .unset] [(.long (4294967295 : Int64)), (.long q1)])) _
    refine XS.land X0.here hx rfl (hb hby d1_42) rfl ?_
    show Steps p.tables e below (s₁.setTop (mkF m 43 #[.val (.long q1), .second, .val (.int p2), .val (.int p3), .unset, .unset] [(.long (q1 &&& (4294967295 : Int64)))])) _
    refine XS.lstore X0.here hx rfl (hb hby d1_43) rfl (l' := #[.val (.long q1), .second, .val (.int p2), .val (.int p3), .val (.long (q1 &&& (4294967295 : Int64))), .second]) rfl ?_
    show Steps p.tables e below (s₁.setTop (mkF m 45 #[.val (.long q1), .second, .val (.int p2), .val (.int p3), .val (.long (q1 &&& (4294967295 : Int64))), .second] [])) _
    refine XS.goto X0.here hx rfl (pc0 := 45) (pc' := 59) rfl (hb hby d1_45) (by decide) (by decide) ?_
    show Steps p.tables e below (s₁.setTop (mkF m 59 #[.val (.long q1), .second, .val (.int p2), .val (.int p3), .val (.long (q1 &&& (4294967295 : Int64))), .second] [])) _
    refine XS.lload X0.here hx rfl (hb hby d1_59) rfl ?_
    show Steps p.tables e below (s₁.setTop (mkF m 61 #[.val (.long q1), .second, .val (.int p2), .val (.int p3), .val (.long (q1 &&& (4294967295 : Int64))), .second] [(.long (q1 &&& (4294967295 : Int64)))])) _
    refine XS.lconst X0.here hx rfl (hb hby d1_61) ?_
    show Steps p.tables e below (s₁.setTop (mkF m 62 #[.val (.long q1), .second, .val (.int p2), .val (.int p3), .val (.long (q1 &&& (4294967295 : Int64))), .second] [(.long (0 : Int64)), (.long (q1 &&& (4294967295 : Int64)))])) _
    refine XS.lcmp X0.here hx rfl (hb hby d1_62) rfl ?_
    show Steps p.tables e below (s₁.setTop (mkF m 63 #[.val (.long q1), .second, .val (.int p2), .val (.int p3), .val (.long (q1 &&& (4294967295 : Int64))), .second] [(.int (lcmpW (q1 &&& (4294967295 : Int64)) (0 : Int64)))])) _
    refine XS.ifNo X0.here hx rfl (hb hby d1_63) rfl ((if0 _ _).trans (teq hc63).2) ?_
    show Steps p.tables e below (s₁.setTop (mkF m 66 #[.val (.long q1), .second, .val (.int p2), .val (.int p3), .val (.long (q1 &&& (4294967295 : Int64))), .second] [])) _
    refine XS.lconst X0.here hx rfl (hb hby d1_66) ?_
    show Steps p.tables e below (s₁.setTop (mkF m 67 #[.val (.long q1), .second, .val (.int p2), .val (.int p3), .val (.long (q1 &&& (4294967295 : Int64))), .second] [(.long (1 : Int64))])) _
    refine XS.lstore X0.here hx rfl (hb hby d1_67) rfl (l' := #[.val (.long q1), .second, .val (.int p2), .val (.int p3), .val (.long (1 : Int64)), .second]) rfl ?_
    show Steps p.tables e below (s₁.setTop (mkF m 69 #[.val (.long q1), .second, .val (.int p2), .val (.int p3), .val (.long (1 : Int64)), .second] [])) _
    refine XS.lload X0.here hx rfl (hb hby d1_69) rfl ?_
    show Steps p.tables e below (s₁.setTop (mkF m 71 #[.val (.long q1), .second, .val (.int p2), .val (.int p3), .val (.long (1 : Int64)), .second] [(.long (1 : Int64))])) _
    exact retOut X0 hx (t := .long) (i := .lreturn) Bd.returns rfl (Or.inr (Or.inl ⟨rfl, rfl, _, rfl⟩)) (hb hby d1_71) hr
  · show QP (some (.long (1 : Int64))) h0 n0 _ s₁.heap _
    rw [e0]
    exact ⟨rfl, N0, rfl⟩
set_option maxRecDepth 65536 in
set_option maxHeartbeats 40000000 in
theorem rm1_2t (l : Launch) (Z : State) (a0 : Array Value) (hw : ∀ d ∈ tables_1, d.before a0 Z = true) (ws : List Jvm.Cond) (q1 : Int64) (p2 : Int32) (p3 : Int32)  (h0 : Heap) (n0 : Nat) (O0 : Old Z n0 h0) (hc1 : ¬ (p3 = (0 : Int32))) (hc16 : ¬ (p3 = (1 : Int32))) (hc35 : p3 = (2 : Int32)) (hc63 : ¬ ((lcmpW (q1 &&& (4294967295 : Int64)) (0 : Int64)) = (0 : Int32))) :
    MetFree l (⟨"com/example/horae/horae/model/FixedRateStarvationLimitMsPinLaw", "period", "(JII)J"⟩ : MethodName) (head1 (Jvm.Cond.code (⟨"com/example/horae/horae/model/FixedRateStarvationLimitMsPinLaw", "period", "(JII)J"⟩ : MethodName) method_2_code 6 (some .long) :: ws) ({ frames := 0, cells := 0, slots := 0, locals := 0 } : Room)) (fun a U => a = #[(.long q1), (.int p2), (.int p3)] ∧ Z.Warmed39 U.vm ∧ U.heap = h0) (fun _ _ _ _ _ => True) (fun _ U o U' => ∃ v L, o = .returned v ∧ QP (some (.long (q1 &&& (4294967295 : Int64)))) h0 n0 v U'.heap L ∧ FrameEnd U o U' L ({ frames := 0, cells := 0, slots := 0, locals := 0 } : Room).cells ({ frames := 0, cells := 0, slots := 0, locals := 0 } : Room).slots) := by
  refine MetFree.of_bodySF (plainFor_of_name pn_com_example_horae_horae_model_FixedRateStarvationLimitMsPinLaw) hisR ?_
  intro p e s m args below meth c s₁ Bd hml0 hP hK
  obtain ⟨rfl, hZ, hh⟩ := hP
  have hx := Bd.exec
  have hby := Bd.bytes
  have hml : c.maxLocals = 6 := hml0
  have hown : s.vm.findClass "com/example/horae/horae/model/FixedRateStarvationLimitMsPinLaw" = some m.cls := findClass_of_methodNamed Bd.named
  have hnm := (name_of_methodNamed Bd.named Bd.method).1
  have X0 : Stand p l e ({ frames := 0, cells := 0, slots := 0, locals := 0 } : Room) s m #[(.long q1), (.int p2), (.int p3)] below meth c s₁ [] 0 0 := Stand.of_body Bd
  have e0 : s₁.heap = h0 := by rw [← hh, Bd.state]; rfl
  have N0 := Fr.nil n0
  have pre0 : ∀ t, Steps p.tables e below (s₁.setTop (mkF m 0 #[.val (.long q1), .second, .val (.int p2), .val (.int p3), .unset, .unset] [])) t → Steps p.tables e below (s₁.setTop (entryFrame m #[(.long q1), (.int p2), (.int p3)] 6)) t := fun t k => castTop (ef_1 m q1 p2 p3) k
  obtain ⟨fs, hr, hrun, hended, hW, hsame⟩ := X0.leave (v := some (.long (q1 &&& (4294967295 : Int64)))) (fun h => by rw [Bd.returns] at h; cases h) (BodyLoose.notSynchronized Bd)
  refine ⟨_, _, pre0 _ ?_, hrun, hended, _, _, rfl, ?_, ⟨_, rfl⟩, hW, hsame.mono (by decide) (by decide)⟩
  · show Steps p.tables e below (s₁.setTop (mkF m 0 #[.val (.long q1), .second, .val (.int p2), .val (.int p3), .unset, .unset] [])) _
    refine XS.iloadN X0.here hx rfl (hb hby d1_0) rfl ?_
    show Steps p.tables e below (s₁.setTop (mkF m 1 #[.val (.long q1), .second, .val (.int p2), .val (.int p3), .unset, .unset] [(.int p3)])) _
    refine XS.ifYes X0.here hx rfl (pc0 := 1) (pc' := 14) rfl (hb hby d1_1) rfl ((if0 _ _).trans (feq hc1).2) (by decide) (by decide) ?_
    show Steps p.tables e below (s₁.setTop (mkF m 14 #[.val (.long q1), .second, .val (.int p2), .val (.int p3), .unset, .unset] [])) _
    refine XS.iloadN X0.here hx rfl (hb hby d1_14) rfl ?_
    show Steps p.tables e below (s₁.setTop (mkF m 15 #[.val (.long q1), .second, .val (.int p2), .val (.int p3), .unset, .unset] [(.int p3)])) _
    refine XS.iconst X0.here hx rfl (hb hby d1_15) ?_
    show Steps p.tables e below (s₁.setTop (mkF m 16 #[.val (.long q1), .second, .val (.int p2), .val (.int p3), .unset, .unset] [(.int (1 : Int32)), (.int p3)])) _
    refine XS.icmpYes X0.here hx rfl (pc0 := 16) (pc' := 33) rfl (hb hby d1_16) rfl (feq hc16).2 (by decide) (by decide) ?_
    show Steps p.tables e below (s₁.setTop (mkF m 33 #[.val (.long q1), .second, .val (.int p2), .val (.int p3), .unset, .unset] [])) _
    refine XS.iloadN X0.here hx rfl (hb hby d1_33) rfl ?_
    show Steps p.tables e below (s₁.setTop (mkF m 34 #[.val (.long q1), .second, .val (.int p2), .val (.int p3), .unset, .unset] [(.int p3)])) _
    refine XS.iconst X0.here hx rfl (hb hby d1_34) ?_
    show Steps p.tables e below (s₁.setTop (mkF m 35 #[.val (.long q1), .second, .val (.int p2), .val (.int p3), .unset, .unset] [(.int (2 : Int32)), (.int p3)])) _
    refine XS.icmpNo X0.here hx rfl (hb hby d1_35) rfl (teq hc35).2 ?_
    show Steps p.tables e below (s₁.setTop (mkF m 38 #[.val (.long q1), .second, .val (.int p2), .val (.int p3), .unset, .unset] [])) _
    refine XS.lloadN X0.here hx rfl (hb hby d1_38) rfl ?_
    show Steps p.tables e below (s₁.setTop (mkF m 39 #[.val (.long q1), .second, .val (.int p2), .val (.int p3), .unset, .unset] [(.long q1)])) _
    refine X0.ldc2Long hx hown (mvT hZ (hw _ (List.mem_of_getElem? (i := 53) rfl))) (g := (mkF m 39 #[.val (.long q1), .second, .val (.int p2), .val (.int p3), .unset, .unset] [(.long q1)])) rfl (hb hby d1_39) _ ?_
    show Steps p.tables e below (s₁.setTop (mkF m 42 #[.val (.long q1), .second, .val (.int p2), .val (.int p3), .unset, .unset] [(.long (4294967295 : Int64)), (.long q1)])) _
    refine XS.land X0.here hx rfl (hb hby d1_42) rfl ?_
    show Steps p.tables e below (s₁.setTop (mkF m 43 #[.val (.long q1), .second, .val (.int p2), .val (.int p3), .unset, .unset] [(.long (q1 &&& (4294967295 : Int64)))])) _
    refine XS.lstore X0.here hx rfl (hb hby d1_43) rfl (l' := #[.val (.long q1), .second, .val (.int p2), .val (.int p3), .val (.long (q1 &&& (4294967295 : Int64))), .second]) rfl ?_
    show Steps p.tables e below (s₁.setTop (mkF m 45 #[.val (.long q1), .second, .val (.int p2), .val (.int p3), .val (.long (q1 &&& (4294967295 : Int64))), .second] [])) _
    refine XS.goto X0.here hx rfl (pc0 := 45) (pc' := 59) rfl (hb hby d1_45) (by decide) (by decide) ?_
    show Steps p.tables e below (s₁.setTop (mkF m 59 #[.val (.long q1), .second, .val (.int p2), .val (.int p3), .val (.long (q1 &&& (4294967295 : Int64))), .second] [])) _
    refine XS.lload X0.here hx rfl (hb hby d1_59) rfl ?_
    show Steps p.tables e below (s₁.setTop (mkF m 61 #[.val (.long q1), .second, .val (.int p2), .val (.int p3), .val (.long (q1 &&& (4294967295 : Int64))), .second] [(.long (q1 &&& (4294967295 : Int64)))])) _
    refine XS.lconst X0.here hx rfl (hb hby d1_61) ?_
    show Steps p.tables e below (s₁.setTop (mkF m 62 #[.val (.long q1), .second, .val (.int p2), .val (.int p3), .val (.long (q1 &&& (4294967295 : Int64))), .second] [(.long (0 : Int64)), (.long (q1 &&& (4294967295 : Int64)))])) _
    refine XS.lcmp X0.here hx rfl (hb hby d1_62) rfl ?_
    show Steps p.tables e below (s₁.setTop (mkF m 63 #[.val (.long q1), .second, .val (.int p2), .val (.int p3), .val (.long (q1 &&& (4294967295 : Int64))), .second] [(.int (lcmpW (q1 &&& (4294967295 : Int64)) (0 : Int64)))])) _
    refine XS.ifYes X0.here hx rfl (pc0 := 63) (pc' := 69) rfl (hb hby d1_63) rfl ((if0 _ _).trans (feq hc63).2) (by decide) (by decide) ?_
    show Steps p.tables e below (s₁.setTop (mkF m 69 #[.val (.long q1), .second, .val (.int p2), .val (.int p3), .val (.long (q1 &&& (4294967295 : Int64))), .second] [])) _
    refine XS.lload X0.here hx rfl (hb hby d1_69) rfl ?_
    show Steps p.tables e below (s₁.setTop (mkF m 71 #[.val (.long q1), .second, .val (.int p2), .val (.int p3), .val (.long (q1 &&& (4294967295 : Int64))), .second] [(.long (q1 &&& (4294967295 : Int64)))])) _
    exact retOut X0 hx (t := .long) (i := .lreturn) Bd.returns rfl (Or.inr (Or.inl ⟨rfl, rfl, _, rfl⟩)) (hb hby d1_71) hr
  · show QP (some (.long (q1 &&& (4294967295 : Int64)))) h0 n0 _ s₁.heap _
    rw [e0]
    exact ⟨rfl, N0, rfl⟩
theorem d1_48 : decode method_2_code 48 = .ok (.ldc2_w 9, 3) := by decide +kernel
theorem d1_51 : decode method_2_code 51 = .ok (.iload_n 2, 1) := by decide +kernel
theorem d1_52 : decode method_2_code 52 = .ok (.bipush 7, 2) := by decide +kernel
theorem d1_54 : decode method_2_code 54 = .ok (.iand, 1) := by decide +kernel
theorem d1_55 : decode method_2_code 55 = .ok (.i2l, 1) := by decide +kernel
theorem d1_56 : decode method_2_code 56 = .ok (.lsub, 1) := by decide +kernel
theorem d1_57 : decode method_2_code 57 = .ok (.lstore 4, 2) := by decide +kernel
set_option maxRecDepth 65536 in
set_option maxHeartbeats 40000000 in
theorem rm1_3f (l : Launch) (Z : State) (a0 : Array Value) (hw : ∀ d ∈ tables_1, d.before a0 Z = true) (ws : List Jvm.Cond) (q1 : Int64) (p2 : Int32) (p3 : Int32)  (h0 : Heap) (n0 : Nat) (O0 : Old Z n0 h0) (hc1 : ¬ (p3 = (0 : Int32))) (hc16 : ¬ (p3 = (1 : Int32))) (hc35 : ¬ (p3 = (2 : Int32))) (hc63 : (lcmpW ((9223372036854775807 : Int64) - ((p2 &&& (7 : Int32)).toInt64)) (0 : Int64)) = (0 : Int32)) :
    MetFree l (⟨"com/example/horae/horae/model/FixedRateStarvationLimitMsPinLaw", "period", "(JII)J"⟩ : MethodName) (head1 (Jvm.Cond.code (⟨"com/example/horae/horae/model/FixedRateStarvationLimitMsPinLaw", "period", "(JII)J"⟩ : MethodName) method_2_code 6 (some .long) :: ws) ({ frames := 0, cells := 0, slots := 0, locals := 0 } : Room)) (fun a U => a = #[(.long q1), (.int p2), (.int p3)] ∧ Z.Warmed39 U.vm ∧ U.heap = h0) (fun _ _ _ _ _ => True) (fun _ U o U' => ∃ v L, o = .returned v ∧ QP (some (.long (1 : Int64))) h0 n0 v U'.heap L ∧ FrameEnd U o U' L ({ frames := 0, cells := 0, slots := 0, locals := 0 } : Room).cells ({ frames := 0, cells := 0, slots := 0, locals := 0 } : Room).slots) := by
  refine MetFree.of_bodySF (plainFor_of_name pn_com_example_horae_horae_model_FixedRateStarvationLimitMsPinLaw) hisR ?_
  intro p e s m args below meth c s₁ Bd hml0 hP hK
  obtain ⟨rfl, hZ, hh⟩ := hP
  have hx := Bd.exec
  have hby := Bd.bytes
  have hml : c.maxLocals = 6 := hml0
  have hown : s.vm.findClass "com/example/horae/horae/model/FixedRateStarvationLimitMsPinLaw" = some m.cls := findClass_of_methodNamed Bd.named
  have hnm := (name_of_methodNamed Bd.named Bd.method).1
  have X0 : Stand p l e ({ frames := 0, cells := 0, slots := 0, locals := 0 } : Room) s m #[(.long q1), (.int p2), (.int p3)] below meth c s₁ [] 0 0 := Stand.of_body Bd
  have e0 : s₁.heap = h0 := by rw [← hh, Bd.state]; rfl
  have N0 := Fr.nil n0
  have pre0 : ∀ t, Steps p.tables e below (s₁.setTop (mkF m 0 #[.val (.long q1), .second, .val (.int p2), .val (.int p3), .unset, .unset] [])) t → Steps p.tables e below (s₁.setTop (entryFrame m #[(.long q1), (.int p2), (.int p3)] 6)) t := fun t k => castTop (ef_1 m q1 p2 p3) k
  obtain ⟨fs, hr, hrun, hended, hW, hsame⟩ := X0.leave (v := some (.long (1 : Int64))) (fun h => by rw [Bd.returns] at h; cases h) (BodyLoose.notSynchronized Bd)
  refine ⟨_, _, pre0 _ ?_, hrun, hended, _, _, rfl, ?_, ⟨_, rfl⟩, hW, hsame.mono (by decide) (by decide)⟩
  · show Steps p.tables e below (s₁.setTop (mkF m 0 #[.val (.long q1), .second, .val (.int p2), .val (.int p3), .unset, .unset] [])) _
    refine XS.iloadN X0.here hx rfl (hb hby d1_0) rfl ?_
    show Steps p.tables e below (s₁.setTop (mkF m 1 #[.val (.long q1), .second, .val (.int p2), .val (.int p3), .unset, .unset] [(.int p3)])) _
    refine XS.ifYes X0.here hx rfl (pc0 := 1) (pc' := 14) rfl (hb hby d1_1) rfl ((if0 _ _).trans (feq hc1).2) (by decide) (by decide) ?_
    show Steps p.tables e below (s₁.setTop (mkF m 14 #[.val (.long q1), .second, .val (.int p2), .val (.int p3), .unset, .unset] [])) _
    refine XS.iloadN X0.here hx rfl (hb hby d1_14) rfl ?_
    show Steps p.tables e below (s₁.setTop (mkF m 15 #[.val (.long q1), .second, .val (.int p2), .val (.int p3), .unset, .unset] [(.int p3)])) _
    refine XS.iconst X0.here hx rfl (hb hby d1_15) ?_
    show Steps p.tables e below (s₁.setTop (mkF m 16 #[.val (.long q1), .second, .val (.int p2), .val (.int p3), .unset, .unset] [(.int (1 : Int32)), (.int p3)])) _
    refine XS.icmpYes X0.here hx rfl (pc0 := 16) (pc' := 33) rfl (hb hby d1_16) rfl (feq hc16).2 (by decide) (by decide) ?_
    show Steps p.tables e below (s₁.setTop (mkF m 33 #[.val (.long q1), .second, .val (.int p2), .val (.int p3), .unset, .unset] [])) _
    refine XS.iloadN X0.here hx rfl (hb hby d1_33) rfl ?_
    show Steps p.tables e below (s₁.setTop (mkF m 34 #[.val (.long q1), .second, .val (.int p2), .val (.int p3), .unset, .unset] [(.int p3)])) _
    refine XS.iconst X0.here hx rfl (hb hby d1_34) ?_
    show Steps p.tables e below (s₁.setTop (mkF m 35 #[.val (.long q1), .second, .val (.int p2), .val (.int p3), .unset, .unset] [(.int (2 : Int32)), (.int p3)])) _
    refine XS.icmpYes X0.here hx rfl (pc0 := 35) (pc' := 48) rfl (hb hby d1_35) rfl (feq hc35).2 (by decide) (by decide) ?_
    show Steps p.tables e below (s₁.setTop (mkF m 48 #[.val (.long q1), .second, .val (.int p2), .val (.int p3), .unset, .unset] [])) _
    refine X0.ldc2Long hx hown (mvT hZ (hw _ (List.mem_of_getElem? (i := 4) rfl))) (g := (mkF m 48 #[.val (.long q1), .second, .val (.int p2), .val (.int p3), .unset, .unset] [])) rfl (hb hby d1_48) _ ?_
    show Steps p.tables e below (s₁.setTop (mkF m 51 #[.val (.long q1), .second, .val (.int p2), .val (.int p3), .unset, .unset] [(.long (9223372036854775807 : Int64))])) _
    refine XS.iloadN X0.here hx rfl (hb hby d1_51) rfl ?_
    show Steps p.tables e below (s₁.setTop (mkF m 52 #[.val (.long q1), .second, .val (.int p2), .val (.int p3), .unset, .unset] [(.int p2), (.long (9223372036854775807 : Int64))])) _
    refine XS.bipush X0.here hx rfl (hb hby d1_52) ?_
    show Steps p.tables e below (s₁.setTop (mkF m 54 #[.val (.long q1), .second, .val (.int p2), .val (.int p3), .unset, .unset] [(.int (7 : Int32)), (.int p2), (.long (9223372036854775807 : Int64))])) _
    refine XS.iand X0.here hx rfl (hb hby d1_54) rfl ?_
    show Steps p.tables e below (s₁.setTop (mkF m 55 #[.val (.long q1), .second, .val (.int p2), .val (.int p3), .unset, .unset] [(.int (p2 &&& (7 : Int32))), (.long (9223372036854775807 : Int64))])) _
    refine XS.i2l X0.here hx rfl (hb hby d1_55) rfl ?_
    show Steps p.tables e below (s₁.setTop (mkF m 56 #[.val (.long q1), .second, .val (.int p2), .val (.int p3), .unset, .unset] [(.long ((p2 &&& (7 : Int32)).toInt64)), (.long (9223372036854775807 : Int64))])) _
    refine XS.lsub X0.here hx rfl (hb hby d1_56) rfl ?_
    show Steps p.tables e below (s₁.setTop (mkF m 57 #[.val (.long q1), .second, .val (.int p2), .val (.int p3), .unset, .unset] [(.long ((9223372036854775807 : Int64) - ((p2 &&& (7 : Int32)).toInt64)))])) _
    refine XS.lstore X0.here hx rfl (hb hby d1_57) rfl (l' := #[.val (.long q1), .second, .val (.int p2), .val (.int p3), .val (.long ((9223372036854775807 : Int64) - ((p2 &&& (7 : Int32)).toInt64))), .second]) rfl ?_
    show Steps p.tables e below (s₁.setTop (mkF m 59 #[.val (.long q1), .second, .val (.int p2), .val (.int p3), .val (.long ((9223372036854775807 : Int64) - ((p2 &&& (7 : Int32)).toInt64))), .second] [])) _
    refine XS.lload X0.here hx rfl (hb hby d1_59) rfl ?_
    show Steps p.tables e below (s₁.setTop (mkF m 61 #[.val (.long q1), .second, .val (.int p2), .val (.int p3), .val (.long ((9223372036854775807 : Int64) - ((p2 &&& (7 : Int32)).toInt64))), .second] [(.long ((9223372036854775807 : Int64) - ((p2 &&& (7 : Int32)).toInt64)))])) _
    refine XS.lconst X0.here hx rfl (hb hby d1_61) ?_
    show Steps p.tables e below (s₁.setTop (mkF m 62 #[.val (.long q1), .second, .val (.int p2), .val (.int p3), .val (.long ((9223372036854775807 : Int64) - ((p2 &&& (7 : Int32)).toInt64))), .second] [(.long (0 : Int64)), (.long ((9223372036854775807 : Int64) - ((p2 &&& (7 : Int32)).toInt64)))])) _
    refine XS.lcmp X0.here hx rfl (hb hby d1_62) rfl ?_
    show Steps p.tables e below (s₁.setTop (mkF m 63 #[.val (.long q1), .second, .val (.int p2), .val (.int p3), .val (.long ((9223372036854775807 : Int64) - ((p2 &&& (7 : Int32)).toInt64))), .second] [(.int (lcmpW ((9223372036854775807 : Int64) - ((p2 &&& (7 : Int32)).toInt64)) (0 : Int64)))])) _
    refine XS.ifNo X0.here hx rfl (hb hby d1_63) rfl ((if0 _ _).trans (teq hc63).2) ?_
    show Steps p.tables e below (s₁.setTop (mkF m 66 #[.val (.long q1), .second, .val (.int p2), .val (.int p3), .val (.long ((9223372036854775807 : Int64) - ((p2 &&& (7 : Int32)).toInt64))), .second] [])) _
    refine XS.lconst X0.here hx rfl (hb hby d1_66) ?_
    show Steps p.tables e below (s₁.setTop (mkF m 67 #[.val (.long q1), .second, .val (.int p2), .val (.int p3), .val (.long ((9223372036854775807 : Int64) - ((p2 &&& (7 : Int32)).toInt64))), .second] [(.long (1 : Int64))])) _
    refine XS.lstore X0.here hx rfl (hb hby d1_67) rfl (l' := #[.val (.long q1), .second, .val (.int p2), .val (.int p3), .val (.long (1 : Int64)), .second]) rfl ?_
    show Steps p.tables e below (s₁.setTop (mkF m 69 #[.val (.long q1), .second, .val (.int p2), .val (.int p3), .val (.long (1 : Int64)), .second] [])) _
    refine XS.lload X0.here hx rfl (hb hby d1_69) rfl ?_
    show Steps p.tables e below (s₁.setTop (mkF m 71 #[.val (.long q1), .second, .val (.int p2), .val (.int p3), .val (.long (1 : Int64)), .second] [(.long (1 : Int64))])) _
    exact retOut X0 hx (t := .long) (i := .lreturn) Bd.returns rfl (Or.inr (Or.inl ⟨rfl, rfl, _, rfl⟩)) (hb hby d1_71) hr
  · show QP (some (.long (1 : Int64))) h0 n0 _ s₁.heap _
    rw [e0]
    exact ⟨rfl, N0, rfl⟩
set_option maxRecDepth 65536 in
set_option maxHeartbeats 40000000 in
theorem rm1_3t (l : Launch) (Z : State) (a0 : Array Value) (hw : ∀ d ∈ tables_1, d.before a0 Z = true) (ws : List Jvm.Cond) (q1 : Int64) (p2 : Int32) (p3 : Int32)  (h0 : Heap) (n0 : Nat) (O0 : Old Z n0 h0) (hc1 : ¬ (p3 = (0 : Int32))) (hc16 : ¬ (p3 = (1 : Int32))) (hc35 : ¬ (p3 = (2 : Int32))) (hc63 : ¬ ((lcmpW ((9223372036854775807 : Int64) - ((p2 &&& (7 : Int32)).toInt64)) (0 : Int64)) = (0 : Int32))) :
    MetFree l (⟨"com/example/horae/horae/model/FixedRateStarvationLimitMsPinLaw", "period", "(JII)J"⟩ : MethodName) (head1 (Jvm.Cond.code (⟨"com/example/horae/horae/model/FixedRateStarvationLimitMsPinLaw", "period", "(JII)J"⟩ : MethodName) method_2_code 6 (some .long) :: ws) ({ frames := 0, cells := 0, slots := 0, locals := 0 } : Room)) (fun a U => a = #[(.long q1), (.int p2), (.int p3)] ∧ Z.Warmed39 U.vm ∧ U.heap = h0) (fun _ _ _ _ _ => True) (fun _ U o U' => ∃ v L, o = .returned v ∧ QP (some (.long ((9223372036854775807 : Int64) - ((p2 &&& (7 : Int32)).toInt64)))) h0 n0 v U'.heap L ∧ FrameEnd U o U' L ({ frames := 0, cells := 0, slots := 0, locals := 0 } : Room).cells ({ frames := 0, cells := 0, slots := 0, locals := 0 } : Room).slots) := by
  refine MetFree.of_bodySF (plainFor_of_name pn_com_example_horae_horae_model_FixedRateStarvationLimitMsPinLaw) hisR ?_
  intro p e s m args below meth c s₁ Bd hml0 hP hK
  obtain ⟨rfl, hZ, hh⟩ := hP
  have hx := Bd.exec
  have hby := Bd.bytes
  have hml : c.maxLocals = 6 := hml0
  have hown : s.vm.findClass "com/example/horae/horae/model/FixedRateStarvationLimitMsPinLaw" = some m.cls := findClass_of_methodNamed Bd.named
  have hnm := (name_of_methodNamed Bd.named Bd.method).1
  have X0 : Stand p l e ({ frames := 0, cells := 0, slots := 0, locals := 0 } : Room) s m #[(.long q1), (.int p2), (.int p3)] below meth c s₁ [] 0 0 := Stand.of_body Bd
  have e0 : s₁.heap = h0 := by rw [← hh, Bd.state]; rfl
  have N0 := Fr.nil n0
  have pre0 : ∀ t, Steps p.tables e below (s₁.setTop (mkF m 0 #[.val (.long q1), .second, .val (.int p2), .val (.int p3), .unset, .unset] [])) t → Steps p.tables e below (s₁.setTop (entryFrame m #[(.long q1), (.int p2), (.int p3)] 6)) t := fun t k => castTop (ef_1 m q1 p2 p3) k
  obtain ⟨fs, hr, hrun, hended, hW, hsame⟩ := X0.leave (v := some (.long ((9223372036854775807 : Int64) - ((p2 &&& (7 : Int32)).toInt64)))) (fun h => by rw [Bd.returns] at h; cases h) (BodyLoose.notSynchronized Bd)
  refine ⟨_, _, pre0 _ ?_, hrun, hended, _, _, rfl, ?_, ⟨_, rfl⟩, hW, hsame.mono (by decide) (by decide)⟩
  · show Steps p.tables e below (s₁.setTop (mkF m 0 #[.val (.long q1), .second, .val (.int p2), .val (.int p3), .unset, .unset] [])) _
    refine XS.iloadN X0.here hx rfl (hb hby d1_0) rfl ?_
    show Steps p.tables e below (s₁.setTop (mkF m 1 #[.val (.long q1), .second, .val (.int p2), .val (.int p3), .unset, .unset] [(.int p3)])) _
    refine XS.ifYes X0.here hx rfl (pc0 := 1) (pc' := 14) rfl (hb hby d1_1) rfl ((if0 _ _).trans (feq hc1).2) (by decide) (by decide) ?_
    show Steps p.tables e below (s₁.setTop (mkF m 14 #[.val (.long q1), .second, .val (.int p2), .val (.int p3), .unset, .unset] [])) _
    refine XS.iloadN X0.here hx rfl (hb hby d1_14) rfl ?_
    show Steps p.tables e below (s₁.setTop (mkF m 15 #[.val (.long q1), .second, .val (.int p2), .val (.int p3), .unset, .unset] [(.int p3)])) _
    refine XS.iconst X0.here hx rfl (hb hby d1_15) ?_
    show Steps p.tables e below (s₁.setTop (mkF m 16 #[.val (.long q1), .second, .val (.int p2), .val (.int p3), .unset, .unset] [(.int (1 : Int32)), (.int p3)])) _
    refine XS.icmpYes X0.here hx rfl (pc0 := 16) (pc' := 33) rfl (hb hby d1_16) rfl (feq hc16).2 (by decide) (by decide) ?_
    show Steps p.tables e below (s₁.setTop (mkF m 33 #[.val (.long q1), .second, .val (.int p2), .val (.int p3), .unset, .unset] [])) _
    refine XS.iloadN X0.here hx rfl (hb hby d1_33) rfl ?_
    show Steps p.tables e below (s₁.setTop (mkF m 34 #[.val (.long q1), .second, .val (.int p2), .val (.int p3), .unset, .unset] [(.int p3)])) _
    refine XS.iconst X0.here hx rfl (hb hby d1_34) ?_
    show Steps p.tables e below (s₁.setTop (mkF m 35 #[.val (.long q1), .second, .val (.int p2), .val (.int p3), .unset, .unset] [(.int (2 : Int32)), (.int p3)])) _
    refine XS.icmpYes X0.here hx rfl (pc0 := 35) (pc' := 48) rfl (hb hby d1_35) rfl (feq hc35).2 (by decide) (by decide) ?_
    show Steps p.tables e below (s₁.setTop (mkF m 48 #[.val (.long q1), .second, .val (.int p2), .val (.int p3), .unset, .unset] [])) _
    refine X0.ldc2Long hx hown (mvT hZ (hw _ (List.mem_of_getElem? (i := 4) rfl))) (g := (mkF m 48 #[.val (.long q1), .second, .val (.int p2), .val (.int p3), .unset, .unset] [])) rfl (hb hby d1_48) _ ?_
    show Steps p.tables e below (s₁.setTop (mkF m 51 #[.val (.long q1), .second, .val (.int p2), .val (.int p3), .unset, .unset] [(.long (9223372036854775807 : Int64))])) _
    refine XS.iloadN X0.here hx rfl (hb hby d1_51) rfl ?_
    show Steps p.tables e below (s₁.setTop (mkF m 52 #[.val (.long q1), .second, .val (.int p2), .val (.int p3), .unset, .unset] [(.int p2), (.long (9223372036854775807 : Int64))])) _
    refine XS.bipush X0.here hx rfl (hb hby d1_52) ?_
    show Steps p.tables e below (s₁.setTop (mkF m 54 #[.val (.long q1), .second, .val (.int p2), .val (.int p3), .unset, .unset] [(.int (7 : Int32)), (.int p2), (.long (9223372036854775807 : Int64))])) _
    refine XS.iand X0.here hx rfl (hb hby d1_54) rfl ?_
    show Steps p.tables e below (s₁.setTop (mkF m 55 #[.val (.long q1), .second, .val (.int p2), .val (.int p3), .unset, .unset] [(.int (p2 &&& (7 : Int32))), (.long (9223372036854775807 : Int64))])) _
    refine XS.i2l X0.here hx rfl (hb hby d1_55) rfl ?_
    show Steps p.tables e below (s₁.setTop (mkF m 56 #[.val (.long q1), .second, .val (.int p2), .val (.int p3), .unset, .unset] [(.long ((p2 &&& (7 : Int32)).toInt64)), (.long (9223372036854775807 : Int64))])) _
    refine XS.lsub X0.here hx rfl (hb hby d1_56) rfl ?_
    show Steps p.tables e below (s₁.setTop (mkF m 57 #[.val (.long q1), .second, .val (.int p2), .val (.int p3), .unset, .unset] [(.long ((9223372036854775807 : Int64) - ((p2 &&& (7 : Int32)).toInt64)))])) _
    refine XS.lstore X0.here hx rfl (hb hby d1_57) rfl (l' := #[.val (.long q1), .second, .val (.int p2), .val (.int p3), .val (.long ((9223372036854775807 : Int64) - ((p2 &&& (7 : Int32)).toInt64))), .second]) rfl ?_
    show Steps p.tables e below (s₁.setTop (mkF m 59 #[.val (.long q1), .second, .val (.int p2), .val (.int p3), .val (.long ((9223372036854775807 : Int64) - ((p2 &&& (7 : Int32)).toInt64))), .second] [])) _
    refine XS.lload X0.here hx rfl (hb hby d1_59) rfl ?_
    show Steps p.tables e below (s₁.setTop (mkF m 61 #[.val (.long q1), .second, .val (.int p2), .val (.int p3), .val (.long ((9223372036854775807 : Int64) - ((p2 &&& (7 : Int32)).toInt64))), .second] [(.long ((9223372036854775807 : Int64) - ((p2 &&& (7 : Int32)).toInt64)))])) _
    refine XS.lconst X0.here hx rfl (hb hby d1_61) ?_
    show Steps p.tables e below (s₁.setTop (mkF m 62 #[.val (.long q1), .second, .val (.int p2), .val (.int p3), .val (.long ((9223372036854775807 : Int64) - ((p2 &&& (7 : Int32)).toInt64))), .second] [(.long (0 : Int64)), (.long ((9223372036854775807 : Int64) - ((p2 &&& (7 : Int32)).toInt64)))])) _
    refine XS.lcmp X0.here hx rfl (hb hby d1_62) rfl ?_
    show Steps p.tables e below (s₁.setTop (mkF m 63 #[.val (.long q1), .second, .val (.int p2), .val (.int p3), .val (.long ((9223372036854775807 : Int64) - ((p2 &&& (7 : Int32)).toInt64))), .second] [(.int (lcmpW ((9223372036854775807 : Int64) - ((p2 &&& (7 : Int32)).toInt64)) (0 : Int64)))])) _
    refine XS.ifYes X0.here hx rfl (pc0 := 63) (pc' := 69) rfl (hb hby d1_63) rfl ((if0 _ _).trans (feq hc63).2) (by decide) (by decide) ?_
    show Steps p.tables e below (s₁.setTop (mkF m 69 #[.val (.long q1), .second, .val (.int p2), .val (.int p3), .val (.long ((9223372036854775807 : Int64) - ((p2 &&& (7 : Int32)).toInt64))), .second] [])) _
    refine XS.lload X0.here hx rfl (hb hby d1_69) rfl ?_
    show Steps p.tables e below (s₁.setTop (mkF m 71 #[.val (.long q1), .second, .val (.int p2), .val (.int p3), .val (.long ((9223372036854775807 : Int64) - ((p2 &&& (7 : Int32)).toInt64))), .second] [(.long ((9223372036854775807 : Int64) - ((p2 &&& (7 : Int32)).toInt64)))])) _
    exact retOut X0 hx (t := .long) (i := .lreturn) Bd.returns rfl (Or.inr (Or.inl ⟨rfl, rfl, _, rfl⟩)) (hb hby d1_71) hr
  · show QP (some (.long ((9223372036854775807 : Int64) - ((p2 &&& (7 : Int32)).toInt64)))) h0 n0 _ s₁.heap _
    rw [e0]
    exact ⟨rfl, N0, rfl⟩
theorem rm1 (l : Launch) (Z : State) (a0 : Array Value) (hw : ∀ d ∈ tables_1, d.before a0 Z = true) (ws : List Jvm.Cond) (q1 : Int64) (p2 p3 : Int32) (h0 : Heap) (n0 : Nat) (O0 : Old Z n0 h0)  :
    MetFree l (⟨"com/example/horae/horae/model/FixedRateStarvationLimitMsPinLaw", "period", "(JII)J"⟩ : MethodName) (head1 (Jvm.Cond.code (⟨"com/example/horae/horae/model/FixedRateStarvationLimitMsPinLaw", "period", "(JII)J"⟩ : MethodName) method_2_code 6 (some .long) :: ws) ({ frames := 0, cells := 0, slots := 0, locals := 0 } : Room)) (fun a U => a = #[(.long q1), (.int p2), (.int p3)] ∧ Z.Warmed39 U.vm ∧ U.heap = h0) (fun _ _ _ _ _ => True) (fun _ U o U' => ∃ v L, o = .returned v ∧ QP (some (.long (own_per q1 p2 p3))) h0 n0 v U'.heap L ∧ FrameEnd U o U' L ({ frames := 0, cells := 0, slots := 0, locals := 0 } : Room).cells ({ frames := 0, cells := 0, slots := 0, locals := 0 } : Room).slots) := by
  by_cases c0 : p3 = (0 : Int32)
  · by_cases z : lcmpW (q1 &&& (9223372036854775807 : Int64)) (0 : Int64) = (0 : Int32)
    · rw [show own_per q1 p2 p3 = (1 : Int64) from by rw [own_per, if_pos c0, own_fix, if_pos z]]
      exact rm1_0f l Z a0 hw ws q1 p2 p3 h0 n0 O0 c0 z
    · rw [show own_per q1 p2 p3 = (q1 &&& (9223372036854775807 : Int64)) from by rw [own_per, if_pos c0, own_fix, if_neg z]]
      exact rm1_0t l Z a0 hw ws q1 p2 p3 h0 n0 O0 c0 z
  · by_cases c1 : p3 = (1 : Int32)
    · by_cases z : lcmpW ((1844674407370955157 : Int64) + ((p2 &&& (7 : Int32)).toInt64)) (0 : Int64) = (0 : Int32)
      · rw [show own_per q1 p2 p3 = (1 : Int64) from by rw [own_per, if_neg c0, if_pos c1, own_fix, if_pos z]]
        exact rm1_1f l Z a0 hw ws q1 p2 p3 h0 n0 O0 c0 c1 z
      · rw [show own_per q1 p2 p3 = ((1844674407370955157 : Int64) + ((p2 &&& (7 : Int32)).toInt64)) from by rw [own_per, if_neg c0, if_pos c1, own_fix, if_neg z]]
        exact rm1_1t l Z a0 hw ws q1 p2 p3 h0 n0 O0 c0 c1 z
    · by_cases c2 : p3 = (2 : Int32)
      · by_cases z : lcmpW (q1 &&& (4294967295 : Int64)) (0 : Int64) = (0 : Int32)
        · rw [show own_per q1 p2 p3 = (1 : Int64) from by rw [own_per, if_neg c0, if_neg c1, if_pos c2, own_fix, if_pos z]]
          exact rm1_2f l Z a0 hw ws q1 p2 p3 h0 n0 O0 c0 c1 c2 z
        · rw [show own_per q1 p2 p3 = (q1 &&& (4294967295 : Int64)) from by rw [own_per, if_neg c0, if_neg c1, if_pos c2, own_fix, if_neg z]]
          exact rm1_2t l Z a0 hw ws q1 p2 p3 h0 n0 O0 c0 c1 c2 z
      · by_cases z : lcmpW ((9223372036854775807 : Int64) - ((p2 &&& (7 : Int32)).toInt64)) (0 : Int64) = (0 : Int32)
        · rw [show own_per q1 p2 p3 = (1 : Int64) from by rw [own_per, if_neg c0, if_neg c1, if_neg c2, own_fix, if_pos z]]
          exact rm1_3f l Z a0 hw ws q1 p2 p3 h0 n0 O0 c0 c1 c2 z
        · rw [show own_per q1 p2 p3 = ((9223372036854775807 : Int64) - ((p2 &&& (7 : Int32)).toInt64)) from by rw [own_per, if_neg c0, if_neg c1, if_neg c2, own_fix, if_neg z]]
          exact rm1_3t l Z a0 hw ws q1 p2 p3 h0 n0 O0 c0 c1 c2 z
theorem d2_0 : decode method_3_code 0 = .ok (.iload_n 0, 1) := by decide +kernel
theorem d2_1 : decode method_3_code 1 = .ok (.iconst 3, 1) := by decide +kernel
theorem d2_2 : decode method_3_code 2 = .ok (.iand, 1) := by decide +kernel
theorem d2_3 : decode method_3_code 3 = .ok (.iconst 3, 1) := by decide +kernel
theorem d2_4 : decode method_3_code 4 = .ok (.irem, 1) := by decide +kernel
theorem d2_5 : decode method_3_code 5 = .ok (.istore_n 1, 1) := by decide +kernel
theorem d2_6 : decode method_3_code 6 = .ok (.iload_n 1, 1) := by decide +kernel
theorem d2_7 : decode method_3_code 7 = .ok (.ifCond .ne 7, 3) := by decide +kernel
theorem d2_10 : decode method_3_code 10 = .ok (.getstatic 15, 3) := by decide +kernel
theorem d2_13 : decode method_3_code 13 = .ok (.areturn, 1) := by decide +kernel
theorem ef_2 (m : MethodId) (x0 : Int32) : entryFrame m #[(.int x0)] 2 = mkF m 0 #[.val (.int x0), .unset] [] := by first | (simp [entryFrame, mkF, argsToLocals, Value.category]; done) | rfl
set_option maxRecDepth 65536 in
set_option maxHeartbeats 40000000 in
theorem rm2_f (l : Launch) (Z : State) (a0 : Array Value) (hw : ∀ d ∈ tables_1, d.before a0 Z = true) (ws : List Jvm.Cond) (p1 : Int32) (wD : Addr) (h0 : Heap) (n0 : Nat) (O0 : Old Z n0 h0) (S_DROP_TICK : Sta Z Z.heap "com/example/horae/horae/model/OverrunPolicy" "DROP_TICK" "Lcom/example/horae/horae/model/OverrunPolicy;" (.ref wD)) (hc7 : ((p1 &&& (3 : Int32)) % (3 : Int32)) = (0 : Int32)) :
    MetFree l (⟨"com/example/horae/horae/model/FixedRateStarvationLimitMsPinLaw", "policy", "(I)Lcom/example/horae/horae/model/OverrunPolicy;"⟩ : MethodName) (head1 (Jvm.Cond.code (⟨"com/example/horae/horae/model/FixedRateStarvationLimitMsPinLaw", "policy", "(I)Lcom/example/horae/horae/model/OverrunPolicy;"⟩ : MethodName) method_3_code 2 (some (.object "com/example/horae/horae/model/OverrunPolicy")) :: ws) ({ frames := 0, cells := 0, slots := 0, locals := 0 } : Room)) (fun a U => a = #[(.int p1)] ∧ Z.Warmed39 U.vm ∧ U.heap = h0) (fun _ _ _ _ _ => True) (fun _ U o U' => ∃ v L, o = .returned v ∧ QP (some (.ref wD)) h0 n0 v U'.heap L ∧ FrameEnd U o U' L ({ frames := 0, cells := 0, slots := 0, locals := 0 } : Room).cells ({ frames := 0, cells := 0, slots := 0, locals := 0 } : Room).slots) := by
  refine MetFree.of_bodySF (plainFor_of_name pn_com_example_horae_horae_model_FixedRateStarvationLimitMsPinLaw) hisR ?_
  intro p e s m args below meth c s₁ Bd hml0 hP hK
  obtain ⟨rfl, hZ, hh⟩ := hP
  have hx := Bd.exec
  have hby := Bd.bytes
  have hml : c.maxLocals = 2 := hml0
  have hown : s.vm.findClass "com/example/horae/horae/model/FixedRateStarvationLimitMsPinLaw" = some m.cls := findClass_of_methodNamed Bd.named
  have hnm := (name_of_methodNamed Bd.named Bd.method).1
  have X0 : Stand p l e ({ frames := 0, cells := 0, slots := 0, locals := 0 } : Room) s m #[(.int p1)] below meth c s₁ [] 0 0 := Stand.of_body Bd
  have e0 : s₁.heap = h0 := by rw [← hh, Bd.state]; rfl
  have N0 := Fr.nil n0
  have pre0 : ∀ t, Steps p.tables e below (s₁.setTop (mkF m 0 #[.val (.int p1), .unset] [])) t → Steps p.tables e below (s₁.setTop (entryFrame m #[(.int p1)] 2)) t := fun t k => castTop (ef_2 m p1) k
  obtain ⟨T1, X1, e1, st1⟩ := getS2 X0 hx hZ hown (host := "") (Or.inl (hw _ (List.mem_of_getElem? (i := 8) rfl))) Via.refl e0 (S_DROP_TICK.ext O0.2) (g := (mkF m 10 #[.val (.int p1), .val (.int ((p1 &&& (3 : Int32)) % (3 : Int32)))] [])) rfl (hb hby d2_10)
  obtain ⟨fs, hr, hrun, hended, hW, hsame⟩ := X1.leave (v := some (.ref wD)) (fun h => by rw [Bd.returns] at h; cases h) (BodyLoose.notSynchronized Bd)
  refine ⟨_, _, pre0 _ ?_, hrun, hended, _, _, rfl, ?_, ⟨_, rfl⟩, hW, hsame.mono (by decide) (by decide)⟩
  · show Steps p.tables e below (s₁.setTop (mkF m 0 #[.val (.int p1), .unset] [])) _
    refine XS.iloadN X0.here hx rfl (hb hby d2_0) rfl ?_
    show Steps p.tables e below (s₁.setTop (mkF m 1 #[.val (.int p1), .unset] [(.int p1)])) _
    refine XS.iconst X0.here hx rfl (hb hby d2_1) ?_
    show Steps p.tables e below (s₁.setTop (mkF m 2 #[.val (.int p1), .unset] [(.int (3 : Int32)), (.int p1)])) _
    refine XS.iand X0.here hx rfl (hb hby d2_2) rfl ?_
    show Steps p.tables e below (s₁.setTop (mkF m 3 #[.val (.int p1), .unset] [(.int (p1 &&& (3 : Int32)))])) _
    refine XS.iconst X0.here hx rfl (hb hby d2_3) ?_
    show Steps p.tables e below (s₁.setTop (mkF m 4 #[.val (.int p1), .unset] [(.int (3 : Int32)), (.int (p1 &&& (3 : Int32)))])) _
    refine iremM (g := (mkF m 4 #[.val (.int p1), .unset] [(.int (3 : Int32)), (.int (p1 &&& (3 : Int32)))])) X0 hx rfl (hb hby d2_4) rfl (by decide) ?_
    show Steps p.tables e below (s₁.setTop (mkF m 5 #[.val (.int p1), .unset] [(.int ((p1 &&& (3 : Int32)) % (3 : Int32)))])) _
    refine XS.istoreN X0.here hx rfl (hb hby d2_5) rfl (l' := #[.val (.int p1), .val (.int ((p1 &&& (3 : Int32)) % (3 : Int32)))]) rfl ?_
    show Steps p.tables e below (s₁.setTop (mkF m 6 #[.val (.int p1), .val (.int ((p1 &&& (3 : Int32)) % (3 : Int32)))] [])) _
    refine XS.iloadN X0.here hx rfl (hb hby d2_6) rfl ?_
    show Steps p.tables e below (s₁.setTop (mkF m 7 #[.val (.int p1), .val (.int ((p1 &&& (3 : Int32)) % (3 : Int32)))] [(.int ((p1 &&& (3 : Int32)) % (3 : Int32)))])) _
    refine XS.ifNo X0.here hx rfl (hb hby d2_7) rfl ((if0 _ _).trans (teq hc7).2) ?_
    show Steps p.tables e below (s₁.setTop (mkF m 10 #[.val (.int p1), .val (.int ((p1 &&& (3 : Int32)) % (3 : Int32)))] [])) _
    refine st1 _ ?_
    show Steps p.tables e below (T1.setTop (mkF m 13 #[.val (.int p1), .val (.int ((p1 &&& (3 : Int32)) % (3 : Int32)))] [(.ref wD)])) _
    jvm_step X1.here [X1.here.top, hx, (hb hby d2_13), X1.method', Bd.returns, Value.isRef, FieldType.isReference]
    first | (intro acts; rw [hr _ acts rfl rfl rfl]) | rw [hr _ _ rfl rfl rfl]
    exact Steps.refl _
  · show QP (some (.ref wD)) h0 n0 _ T1.heap _
    rw [e1]
    exact ⟨rfl, N0, rfl⟩
theorem d2_14 : decode method_3_code 14 = .ok (.iload_n 1, 1) := by decide +kernel
theorem d2_15 : decode method_3_code 15 = .ok (.iconst 1, 1) := by decide +kernel
theorem d2_16 : decode method_3_code 16 = .ok (.if_icmp .ne 7, 3) := by decide +kernel
theorem d2_19 : decode method_3_code 19 = .ok (.getstatic 21, 3) := by decide +kernel
theorem d2_22 : decode method_3_code 22 = .ok (.areturn, 1) := by decide +kernel
set_option maxRecDepth 65536 in
set_option maxHeartbeats 40000000 in
theorem rm2_tf (l : Launch) (Z : State) (a0 : Array Value) (hw : ∀ d ∈ tables_1, d.before a0 Z = true) (ws : List Jvm.Cond) (p1 : Int32) (wS : Addr) (h0 : Heap) (n0 : Nat) (O0 : Old Z n0 h0) (S_SKIP_NEXT : Sta Z Z.heap "com/example/horae/horae/model/OverrunPolicy" "SKIP_NEXT" "Lcom/example/horae/horae/model/OverrunPolicy;" (.ref wS)) (hc7 : ¬ (((p1 &&& (3 : Int32)) % (3 : Int32)) = (0 : Int32))) (hc16 : ((p1 &&& (3 : Int32)) % (3 : Int32)) = (1 : Int32)) :
    MetFree l (⟨"com/example/horae/horae/model/FixedRateStarvationLimitMsPinLaw", "policy", "(I)Lcom/example/horae/horae/model/OverrunPolicy;"⟩ : MethodName) (head1 (Jvm.Cond.code (⟨"com/example/horae/horae/model/FixedRateStarvationLimitMsPinLaw", "policy", "(I)Lcom/example/horae/horae/model/OverrunPolicy;"⟩ : MethodName) method_3_code 2 (some (.object "com/example/horae/horae/model/OverrunPolicy")) :: ws) ({ frames := 0, cells := 0, slots := 0, locals := 0 } : Room)) (fun a U => a = #[(.int p1)] ∧ Z.Warmed39 U.vm ∧ U.heap = h0) (fun _ _ _ _ _ => True) (fun _ U o U' => ∃ v L, o = .returned v ∧ QP (some (.ref wS)) h0 n0 v U'.heap L ∧ FrameEnd U o U' L ({ frames := 0, cells := 0, slots := 0, locals := 0 } : Room).cells ({ frames := 0, cells := 0, slots := 0, locals := 0 } : Room).slots) := by
  refine MetFree.of_bodySF (plainFor_of_name pn_com_example_horae_horae_model_FixedRateStarvationLimitMsPinLaw) hisR ?_
  intro p e s m args below meth c s₁ Bd hml0 hP hK
  obtain ⟨rfl, hZ, hh⟩ := hP
  have hx := Bd.exec
  have hby := Bd.bytes
  have hml : c.maxLocals = 2 := hml0
  have hown : s.vm.findClass "com/example/horae/horae/model/FixedRateStarvationLimitMsPinLaw" = some m.cls := findClass_of_methodNamed Bd.named
  have hnm := (name_of_methodNamed Bd.named Bd.method).1
  have X0 : Stand p l e ({ frames := 0, cells := 0, slots := 0, locals := 0 } : Room) s m #[(.int p1)] below meth c s₁ [] 0 0 := Stand.of_body Bd
  have e0 : s₁.heap = h0 := by rw [← hh, Bd.state]; rfl
  have N0 := Fr.nil n0
  have pre0 : ∀ t, Steps p.tables e below (s₁.setTop (mkF m 0 #[.val (.int p1), .unset] [])) t → Steps p.tables e below (s₁.setTop (entryFrame m #[(.int p1)] 2)) t := fun t k => castTop (ef_2 m p1) k
  obtain ⟨T1, X1, e1, st1⟩ := getS2 X0 hx hZ hown (host := "") (Or.inl (hw _ (List.mem_of_getElem? (i := 55) rfl))) Via.refl e0 (S_SKIP_NEXT.ext O0.2) (g := (mkF m 19 #[.val (.int p1), .val (.int ((p1 &&& (3 : Int32)) % (3 : Int32)))] [])) rfl (hb hby d2_19)
  obtain ⟨fs, hr, hrun, hended, hW, hsame⟩ := X1.leave (v := some (.ref wS)) (fun h => by rw [Bd.returns] at h; cases h) (BodyLoose.notSynchronized Bd)
  refine ⟨_, _, pre0 _ ?_, hrun, hended, _, _, rfl, ?_, ⟨_, rfl⟩, hW, hsame.mono (by decide) (by decide)⟩
  · show Steps p.tables e below (s₁.setTop (mkF m 0 #[.val (.int p1), .unset] [])) _
    refine XS.iloadN X0.here hx rfl (hb hby d2_0) rfl ?_
    show Steps p.tables e below (s₁.setTop (mkF m 1 #[.val (.int p1), .unset] [(.int p1)])) _
    refine XS.iconst X0.here hx rfl (hb hby d2_1) ?_
    show Steps p.tables e below (s₁.setTop (mkF m 2 #[.val (.int p1), .unset] [(.int (3 : Int32)), (.int p1)])) _
    refine XS.iand X0.here hx rfl (hb hby d2_2) rfl ?_
    show Steps p.tables e below (s₁.setTop (mkF m 3 #[.val (.int p1), .unset] [(.int (p1 &&& (3 : Int32)))])) _
    refine XS.iconst X0.here hx rfl (hb hby d2_3) ?_
    show Steps p.tables e below (s₁.setTop (mkF m 4 #[.val (.int p1), .unset] [(.int (3 : Int32)), (.int (p1 &&& (3 : Int32)))])) _
    refine iremM (g := (mkF m 4 #[.val (.int p1), .unset] [(.int (3 : Int32)), (.int (p1 &&& (3 : Int32)))])) X0 hx rfl (hb hby d2_4) rfl (by decide) ?_
    show Steps p.tables e below (s₁.setTop (mkF m 5 #[.val (.int p1), .unset] [(.int ((p1 &&& (3 : Int32)) % (3 : Int32)))])) _
    refine XS.istoreN X0.here hx rfl (hb hby d2_5) rfl (l' := #[.val (.int p1), .val (.int ((p1 &&& (3 : Int32)) % (3 : Int32)))]) rfl ?_
    show Steps p.tables e below (s₁.setTop (mkF m 6 #[.val (.int p1), .val (.int ((p1 &&& (3 : Int32)) % (3 : Int32)))] [])) _
    refine XS.iloadN X0.here hx rfl (hb hby d2_6) rfl ?_
    show Steps p.tables e below (s₁.setTop (mkF m 7 #[.val (.int p1), .val (.int ((p1 &&& (3 : Int32)) % (3 : Int32)))] [(.int ((p1 &&& (3 : Int32)) % (3 : Int32)))])) _
    refine XS.ifYes X0.here hx rfl (pc0 := 7) (pc' := 14) rfl (hb hby d2_7) rfl ((if0 _ _).trans (feq hc7).2) (by decide) (by decide) ?_
    show Steps p.tables e below (s₁.setTop (mkF m 14 #[.val (.int p1), .val (.int ((p1 &&& (3 : Int32)) % (3 : Int32)))] [])) _
    refine XS.iloadN X0.here hx rfl (hb hby d2_14) rfl ?_
    show Steps p.tables e below (s₁.setTop (mkF m 15 #[.val (.int p1), .val (.int ((p1 &&& (3 : Int32)) % (3 : Int32)))] [(.int ((p1 &&& (3 : Int32)) % (3 : Int32)))])) _
    refine XS.iconst X0.here hx rfl (hb hby d2_15) ?_
    show Steps p.tables e below (s₁.setTop (mkF m 16 #[.val (.int p1), .val (.int ((p1 &&& (3 : Int32)) % (3 : Int32)))] [(.int (1 : Int32)), (.int ((p1 &&& (3 : Int32)) % (3 : Int32)))])) _
    refine XS.icmpNo X0.here hx rfl (hb hby d2_16) rfl (teq hc16).2 ?_
    show Steps p.tables e below (s₁.setTop (mkF m 19 #[.val (.int p1), .val (.int ((p1 &&& (3 : Int32)) % (3 : Int32)))] [])) _
    refine st1 _ ?_
    show Steps p.tables e below (T1.setTop (mkF m 22 #[.val (.int p1), .val (.int ((p1 &&& (3 : Int32)) % (3 : Int32)))] [(.ref wS)])) _
    jvm_step X1.here [X1.here.top, hx, (hb hby d2_22), X1.method', Bd.returns, Value.isRef, FieldType.isReference]
    first | (intro acts; rw [hr _ acts rfl rfl rfl]) | rw [hr _ _ rfl rfl rfl]
    exact Steps.refl _
  · show QP (some (.ref wS)) h0 n0 _ T1.heap _
    rw [e1]
    exact ⟨rfl, N0, rfl⟩
theorem d2_23 : decode method_3_code 23 = .ok (.getstatic 24, 3) := by decide +kernel
theorem d2_26 : decode method_3_code 26 = .ok (.areturn, 1) := by decide +kernel
set_option maxRecDepth 65536 in
set_option maxHeartbeats 40000000 in
theorem rm2_tt (l : Launch) (Z : State) (a0 : Array Value) (hw : ∀ d ∈ tables_1, d.before a0 Z = true) (ws : List Jvm.Cond) (p1 : Int32) (wC : Addr) (h0 : Heap) (n0 : Nat) (O0 : Old Z n0 h0) (S_CATCH_UP_ONCE : Sta Z Z.heap "com/example/horae/horae/model/OverrunPolicy" "CATCH_UP_ONCE" "Lcom/example/horae/horae/model/OverrunPolicy;" (.ref wC)) (hc7 : ¬ (((p1 &&& (3 : Int32)) % (3 : Int32)) = (0 : Int32))) (hc16 : ¬ (((p1 &&& (3 : Int32)) % (3 : Int32)) = (1 : Int32))) :
    MetFree l (⟨"com/example/horae/horae/model/FixedRateStarvationLimitMsPinLaw", "policy", "(I)Lcom/example/horae/horae/model/OverrunPolicy;"⟩ : MethodName) (head1 (Jvm.Cond.code (⟨"com/example/horae/horae/model/FixedRateStarvationLimitMsPinLaw", "policy", "(I)Lcom/example/horae/horae/model/OverrunPolicy;"⟩ : MethodName) method_3_code 2 (some (.object "com/example/horae/horae/model/OverrunPolicy")) :: ws) ({ frames := 0, cells := 0, slots := 0, locals := 0 } : Room)) (fun a U => a = #[(.int p1)] ∧ Z.Warmed39 U.vm ∧ U.heap = h0) (fun _ _ _ _ _ => True) (fun _ U o U' => ∃ v L, o = .returned v ∧ QP (some (.ref wC)) h0 n0 v U'.heap L ∧ FrameEnd U o U' L ({ frames := 0, cells := 0, slots := 0, locals := 0 } : Room).cells ({ frames := 0, cells := 0, slots := 0, locals := 0 } : Room).slots) := by
  refine MetFree.of_bodySF (plainFor_of_name pn_com_example_horae_horae_model_FixedRateStarvationLimitMsPinLaw) hisR ?_
  intro p e s m args below meth c s₁ Bd hml0 hP hK
  obtain ⟨rfl, hZ, hh⟩ := hP
  have hx := Bd.exec
  have hby := Bd.bytes
  have hml : c.maxLocals = 2 := hml0
  have hown : s.vm.findClass "com/example/horae/horae/model/FixedRateStarvationLimitMsPinLaw" = some m.cls := findClass_of_methodNamed Bd.named
  have hnm := (name_of_methodNamed Bd.named Bd.method).1
  have X0 : Stand p l e ({ frames := 0, cells := 0, slots := 0, locals := 0 } : Room) s m #[(.int p1)] below meth c s₁ [] 0 0 := Stand.of_body Bd
  have e0 : s₁.heap = h0 := by rw [← hh, Bd.state]; rfl
  have N0 := Fr.nil n0
  have pre0 : ∀ t, Steps p.tables e below (s₁.setTop (mkF m 0 #[.val (.int p1), .unset] [])) t → Steps p.tables e below (s₁.setTop (entryFrame m #[(.int p1)] 2)) t := fun t k => castTop (ef_2 m p1) k
  obtain ⟨T1, X1, e1, st1⟩ := getS2 X0 hx hZ hown (host := "") (Or.inl (hw _ (List.mem_of_getElem? (i := 58) rfl))) Via.refl e0 (S_CATCH_UP_ONCE.ext O0.2) (g := (mkF m 23 #[.val (.int p1), .val (.int ((p1 &&& (3 : Int32)) % (3 : Int32)))] [])) rfl (hb hby d2_23)
  obtain ⟨fs, hr, hrun, hended, hW, hsame⟩ := X1.leave (v := some (.ref wC)) (fun h => by rw [Bd.returns] at h; cases h) (BodyLoose.notSynchronized Bd)
  refine ⟨_, _, pre0 _ ?_, hrun, hended, _, _, rfl, ?_, ⟨_, rfl⟩, hW, hsame.mono (by decide) (by decide)⟩
  · show Steps p.tables e below (s₁.setTop (mkF m 0 #[.val (.int p1), .unset] [])) _
    refine XS.iloadN X0.here hx rfl (hb hby d2_0) rfl ?_
    show Steps p.tables e below (s₁.setTop (mkF m 1 #[.val (.int p1), .unset] [(.int p1)])) _
    refine XS.iconst X0.here hx rfl (hb hby d2_1) ?_
    show Steps p.tables e below (s₁.setTop (mkF m 2 #[.val (.int p1), .unset] [(.int (3 : Int32)), (.int p1)])) _
    refine XS.iand X0.here hx rfl (hb hby d2_2) rfl ?_
    show Steps p.tables e below (s₁.setTop (mkF m 3 #[.val (.int p1), .unset] [(.int (p1 &&& (3 : Int32)))])) _
    refine XS.iconst X0.here hx rfl (hb hby d2_3) ?_
    show Steps p.tables e below (s₁.setTop (mkF m 4 #[.val (.int p1), .unset] [(.int (3 : Int32)), (.int (p1 &&& (3 : Int32)))])) _
    refine iremM (g := (mkF m 4 #[.val (.int p1), .unset] [(.int (3 : Int32)), (.int (p1 &&& (3 : Int32)))])) X0 hx rfl (hb hby d2_4) rfl (by decide) ?_
    show Steps p.tables e below (s₁.setTop (mkF m 5 #[.val (.int p1), .unset] [(.int ((p1 &&& (3 : Int32)) % (3 : Int32)))])) _
    refine XS.istoreN X0.here hx rfl (hb hby d2_5) rfl (l' := #[.val (.int p1), .val (.int ((p1 &&& (3 : Int32)) % (3 : Int32)))]) rfl ?_
    show Steps p.tables e below (s₁.setTop (mkF m 6 #[.val (.int p1), .val (.int ((p1 &&& (3 : Int32)) % (3 : Int32)))] [])) _
    refine XS.iloadN X0.here hx rfl (hb hby d2_6) rfl ?_
    show Steps p.tables e below (s₁.setTop (mkF m 7 #[.val (.int p1), .val (.int ((p1 &&& (3 : Int32)) % (3 : Int32)))] [(.int ((p1 &&& (3 : Int32)) % (3 : Int32)))])) _
    refine XS.ifYes X0.here hx rfl (pc0 := 7) (pc' := 14) rfl (hb hby d2_7) rfl ((if0 _ _).trans (feq hc7).2) (by decide) (by decide) ?_
    show Steps p.tables e below (s₁.setTop (mkF m 14 #[.val (.int p1), .val (.int ((p1 &&& (3 : Int32)) % (3 : Int32)))] [])) _
    refine XS.iloadN X0.here hx rfl (hb hby d2_14) rfl ?_
    show Steps p.tables e below (s₁.setTop (mkF m 15 #[.val (.int p1), .val (.int ((p1 &&& (3 : Int32)) % (3 : Int32)))] [(.int ((p1 &&& (3 : Int32)) % (3 : Int32)))])) _
    refine XS.iconst X0.here hx rfl (hb hby d2_15) ?_
    show Steps p.tables e below (s₁.setTop (mkF m 16 #[.val (.int p1), .val (.int ((p1 &&& (3 : Int32)) % (3 : Int32)))] [(.int (1 : Int32)), (.int ((p1 &&& (3 : Int32)) % (3 : Int32)))])) _
    refine XS.icmpYes X0.here hx rfl (pc0 := 16) (pc' := 23) rfl (hb hby d2_16) rfl (feq hc16).2 (by decide) (by decide) ?_
    show Steps p.tables e below (s₁.setTop (mkF m 23 #[.val (.int p1), .val (.int ((p1 &&& (3 : Int32)) % (3 : Int32)))] [])) _
    refine st1 _ ?_
    show Steps p.tables e below (T1.setTop (mkF m 26 #[.val (.int p1), .val (.int ((p1 &&& (3 : Int32)) % (3 : Int32)))] [(.ref wC)])) _
    jvm_step X1.here [X1.here.top, hx, (hb hby d2_26), X1.method', Bd.returns, Value.isRef, FieldType.isReference]
    first | (intro acts; rw [hr _ acts rfl rfl rfl]) | rw [hr _ _ rfl rfl rfl]
    exact Steps.refl _
  · show QP (some (.ref wC)) h0 n0 _ T1.heap _
    rw [e1]
    exact ⟨rfl, N0, rfl⟩
def QR (h0 : Heap) (n0 : Nat) (v : Option Value) (h : Heap) (L : List Loc) : Prop := ∃ r : Addr, v = some (.ref r) ∧ Fr n0 L ∧ h = h0
theorem rm2 (l : Launch) (Z : State) (a0 : Array Value) (hw : ∀ d ∈ tables_1, d.before a0 Z = true) (ws : List Jvm.Cond) (p1 : Int32) (wD wS wC : Addr) (h0 : Heap) (n0 : Nat) (O0 : Old Z n0 h0) (S_DROP_TICK : Sta Z Z.heap "com/example/horae/horae/model/OverrunPolicy" "DROP_TICK" "Lcom/example/horae/horae/model/OverrunPolicy;" (.ref wD)) (S_SKIP_NEXT : Sta Z Z.heap "com/example/horae/horae/model/OverrunPolicy" "SKIP_NEXT" "Lcom/example/horae/horae/model/OverrunPolicy;" (.ref wS)) (S_CATCH_UP_ONCE : Sta Z Z.heap "com/example/horae/horae/model/OverrunPolicy" "CATCH_UP_ONCE" "Lcom/example/horae/horae/model/OverrunPolicy;" (.ref wC)) :
    MetFree l (⟨"com/example/horae/horae/model/FixedRateStarvationLimitMsPinLaw", "policy", "(I)Lcom/example/horae/horae/model/OverrunPolicy;"⟩ : MethodName) (head1 (Jvm.Cond.code (⟨"com/example/horae/horae/model/FixedRateStarvationLimitMsPinLaw", "policy", "(I)Lcom/example/horae/horae/model/OverrunPolicy;"⟩ : MethodName) method_3_code 2 (some (.object "com/example/horae/horae/model/OverrunPolicy")) :: ws) ({ frames := 0, cells := 0, slots := 0, locals := 0 } : Room)) (fun a U => a = #[(.int p1)] ∧ Z.Warmed39 U.vm ∧ U.heap = h0) (fun _ _ _ _ _ => True) (fun _ U o U' => ∃ v L, o = .returned v ∧ QR h0 n0 v U'.heap L ∧ FrameEnd U o U' L ({ frames := 0, cells := 0, slots := 0, locals := 0 } : Room).cells ({ frames := 0, cells := 0, slots := 0, locals := 0 } : Room).slots) := by
  by_cases c0 : ((p1 &&& (3 : Int32)) % (3 : Int32)) = (0 : Int32)
  · intro p e ha hc hk s m args below hf happ hP hK
    obtain ⟨n, o, h1, h2, h3, v, L, h4, ⟨h5, h6, h7⟩, h8⟩ := rm2_f l Z a0 hw ws p1 wD h0 n0 O0 S_DROP_TICK c0 p e ha hc hk s m args below hf happ hP hK
    exact ⟨n, o, h1, h2, h3, v, L, h4, ⟨wD, h5, h6, h7⟩, h8⟩
  · by_cases c1 : ((p1 &&& (3 : Int32)) % (3 : Int32)) = (1 : Int32)
    · intro p e ha hc hk s m args below hf happ hP hK
      obtain ⟨n, o, h1, h2, h3, v, L, h4, ⟨h5, h6, h7⟩, h8⟩ := rm2_tf l Z a0 hw ws p1 wS h0 n0 O0 S_SKIP_NEXT c0 c1 p e ha hc hk s m args below hf happ hP hK
      exact ⟨n, o, h1, h2, h3, v, L, h4, ⟨wS, h5, h6, h7⟩, h8⟩
    · intro p e ha hc hk s m args below hf happ hP hK
      obtain ⟨n, o, h1, h2, h3, v, L, h4, ⟨h5, h6, h7⟩, h8⟩ := rm2_tt l Z a0 hw ws p1 wC h0 n0 O0 S_CATCH_UP_ONCE c0 c1 p e ha hc hk s m args below hf happ hP hK
      exact ⟨n, o, h1, h2, h3, v, L, h4, ⟨wC, h5, h6, h7⟩, h8⟩
theorem d4_0 : decode jdk_30_method_1_code 0 = .ok (.aload_n 0, 1) := by decide +kernel
theorem d4_1 : decode jdk_30_method_1_code 1 = .ok (.invokespecial 1, 3) := by decide +kernel
theorem d4_4 : decode jdk_30_method_1_code 4 = .ok (.return_, 1) := by decide +kernel
theorem ef_4 (m : MethodId) (x0 : Addr) : entryFrame m #[(.ref x0)] 1 = mkF m 0 #[.val (.ref x0)] [] := by first | (simp [entryFrame, mkF, argsToLocals, Value.category]; done) | rfl
theorem pn_java_lang_Record : plainName "java/lang/Record" = true := by first | (simp [plainName, overriddenIn]; done) | decide +kernel
set_option maxRecDepth 65536 in
set_option maxHeartbeats 40000000 in
theorem rm4 (l : Launch) (Z : State) (a0 : Array Value) (hw : ∀ d ∈ tables_1, d.before a0 Z = true) (ws : List Jvm.Cond) (a1 : Addr)  (h0 : Heap) (n0 : Nat) (O0 : Old Z n0 h0) :
    MetFree l (⟨"java/lang/Record", "<init>", "()V"⟩ : MethodName) (head1 (Jvm.Cond.code (⟨"java/lang/Record", "<init>", "()V"⟩ : MethodName) jdk_30_method_1_code 1 none :: ws) ({ frames := 1, cells := 0, slots := 0, locals := 12 } : Room)) (fun a U => a = #[(.ref a1)] ∧ Z.Warmed39 U.vm ∧ U.heap = h0) (fun _ _ _ _ _ => True) (fun _ U o U' => ∃ v L, o = .returned v ∧ QP (none) h0 n0 v U'.heap L ∧ FrameEnd U o U' L ({ frames := 1, cells := 0, slots := 0, locals := 12 } : Room).cells ({ frames := 1, cells := 0, slots := 0, locals := 12 } : Room).slots) := by
  refine MetFree.of_bodySF (plainFor_of_name pn_java_lang_Record) hisR ?_
  intro p e s m args below meth c s₁ Bd hml0 hP hK
  obtain ⟨rfl, hZ, hh⟩ := hP
  have hx := Bd.exec
  have hby := Bd.bytes
  have hml : c.maxLocals = 1 := hml0
  have hown : s.vm.findClass "java/lang/Record" = some m.cls := findClass_of_methodNamed Bd.named
  have hnm := (name_of_methodNamed Bd.named Bd.method).1
  have X0 : Stand p l e ({ frames := 1, cells := 0, slots := 0, locals := 12 } : Room) s m #[(.ref a1)] below meth c s₁ [] 0 0 := Stand.of_body Bd
  have e0 : s₁.heap = h0 := by rw [← hh, Bd.state]; rfl
  have N0 := Fr.nil n0
  have pre0 : ∀ t, Steps p.tables e below (s₁.setTop (mkF m 0 #[.val (.ref a1)] [])) t → Steps p.tables e below (s₁.setTop (entryFrame m #[(.ref a1)] 1)) t := fun t k => castTop (ef_4 m a1) k
  obtain ⟨T2, X2, e2, st2⟩ := initO X0 hx hZ hown (hw _ (List.mem_of_getElem? (i := 22) rfl)) (hw _ (List.mem_of_getElem? (i := 23) rfl)) (hw _ (List.mem_of_getElem? (i := 24) rfl)) e0 (g := (mkF m 1 #[.val (.ref a1)] [(.ref a1)])) rfl (by rw [hml]; rfl) rfl (hb hby d4_1) (by decide) (W := 0) (by show 2 * 0 + _ ≤ _; exact Nat.le_of_eq rfl) (by decide)
  obtain ⟨fs, hr, hrun, hended, hW, hsame⟩ := X2.leave (v := none) (fun _ => rfl) (BodyLoose.notSynchronized Bd)
  refine ⟨_, _, pre0 _ ?_, hrun, hended, _, _, rfl, ?_, ⟨_, rfl⟩, hW, hsame.mono (by decide) (by decide)⟩
  · show Steps p.tables e below (s₁.setTop (mkF m 0 #[.val (.ref a1)] [])) _
    refine XS.aloadN X0.here hx rfl (hb hby d4_0) rfl rfl ?_
    show Steps p.tables e below (s₁.setTop (mkF m 1 #[.val (.ref a1)] [(.ref a1)])) _
    refine st2 _ ?_
    show Steps p.tables e below (T2.setTop (mkF m 4 #[.val (.ref a1)] [])) _
    exact X2.returnOut hx Bd.returns (hb hby d4_4) hr
  · show QP (none) h0 n0 _ T2.heap _
    rw [e2]
    exact ⟨rfl, N0, rfl⟩
theorem d6_0 : decode jdk_31_method_11_code 0 = .ok (.aload_n 0, 1) := by decide +kernel
theorem d6_1 : decode jdk_31_method_11_code 1 = .ok (.ifnonnull 12, 3) := by decide +kernel
theorem d6_13 : decode jdk_31_method_11_code 13 = .ok (.aload_n 0, 1) := by decide +kernel
theorem d6_14 : decode jdk_31_method_11_code 14 = .ok (.areturn, 1) := by decide +kernel
theorem ef_6 (m : MethodId) (x0 : Addr) (x1 : Addr) : entryFrame m #[(.ref x0), (.ref x1)] 2 = mkF m 0 #[.val (.ref x0), .val (.ref x1)] [] := by first | (simp [entryFrame, mkF, argsToLocals, Value.category]; done) | rfl
theorem pn_java_util_Objects : plainName "java/util/Objects" = true := by first | (simp [plainName, overriddenIn]; done) | decide +kernel
set_option maxRecDepth 65536 in
set_option maxHeartbeats 40000000 in
theorem rm6 (l : Launch) (Z : State) (a0 : Array Value) (hw : ∀ d ∈ tables_1, d.before a0 Z = true) (ws : List Jvm.Cond) (a1 : Addr) (a2 : Addr)  (h0 : Heap) (n0 : Nat) (O0 : Old Z n0 h0) :
    MetFree l (⟨"java/util/Objects", "requireNonNull", "(Ljava/lang/Object;Ljava/lang/String;)Ljava/lang/Object;"⟩ : MethodName) (head1 (Jvm.Cond.code (⟨"java/util/Objects", "requireNonNull", "(Ljava/lang/Object;Ljava/lang/String;)Ljava/lang/Object;"⟩ : MethodName) jdk_31_method_11_code 2 (some (.object "java/lang/Object")) :: ws) ({ frames := 0, cells := 0, slots := 0, locals := 0 } : Room)) (fun a U => a = #[(.ref a1), (.ref a2)] ∧ Z.Warmed39 U.vm ∧ U.heap = h0) (fun _ _ _ _ _ => True) (fun _ U o U' => ∃ v L, o = .returned v ∧ QP (some (.ref a1)) h0 n0 v U'.heap L ∧ FrameEnd U o U' L ({ frames := 0, cells := 0, slots := 0, locals := 0 } : Room).cells ({ frames := 0, cells := 0, slots := 0, locals := 0 } : Room).slots) := by
  refine MetFree.of_bodySF (plainFor_of_name pn_java_util_Objects) hisR ?_
  intro p e s m args below meth c s₁ Bd hml0 hP hK
  obtain ⟨rfl, hZ, hh⟩ := hP
  have hx := Bd.exec
  have hby := Bd.bytes
  have hml : c.maxLocals = 2 := hml0
  have hown : s.vm.findClass "java/util/Objects" = some m.cls := findClass_of_methodNamed Bd.named
  have hnm := (name_of_methodNamed Bd.named Bd.method).1
  have X0 : Stand p l e ({ frames := 0, cells := 0, slots := 0, locals := 0 } : Room) s m #[(.ref a1), (.ref a2)] below meth c s₁ [] 0 0 := Stand.of_body Bd
  have e0 : s₁.heap = h0 := by rw [← hh, Bd.state]; rfl
  have N0 := Fr.nil n0
  have pre0 : ∀ t, Steps p.tables e below (s₁.setTop (mkF m 0 #[.val (.ref a1), .val (.ref a2)] [])) t → Steps p.tables e below (s₁.setTop (entryFrame m #[(.ref a1), (.ref a2)] 2)) t := fun t k => castTop (ef_6 m a1 a2) k
  obtain ⟨fs, hr, hrun, hended, hW, hsame⟩ := X0.leave (v := some (.ref a1)) (fun h => by rw [Bd.returns] at h; cases h) (BodyLoose.notSynchronized Bd)
  refine ⟨_, _, pre0 _ ?_, hrun, hended, _, _, rfl, ?_, ⟨_, rfl⟩, hW, hsame.mono (by decide) (by decide)⟩
  · show Steps p.tables e below (s₁.setTop (mkF m 0 #[.val (.ref a1), .val (.ref a2)] [])) _
    refine XS.aloadN X0.here hx rfl (hb hby d6_0) rfl rfl ?_
    show Steps p.tables e below (s₁.setTop (mkF m 1 #[.val (.ref a1), .val (.ref a2)] [(.ref a1)])) _
    refine XS.ifnonnullYes X0.here hx rfl (pc0 := 1) (pc' := 13) rfl (hb hby d6_1) rfl (by decide) (by decide) ?_
    show Steps p.tables e below (s₁.setTop (mkF m 13 #[.val (.ref a1), .val (.ref a2)] [])) _
    refine XS.aloadN X0.here hx rfl (hb hby d6_13) rfl rfl ?_
    show Steps p.tables e below (s₁.setTop (mkF m 14 #[.val (.ref a1), .val (.ref a2)] [(.ref a1)])) _
    jvm_step X0.here [X0.here.top, hx, (hb hby d6_14), X0.method', Bd.returns, Value.isRef, FieldType.isReference]
    first | (intro acts; rw [hr _ acts rfl rfl rfl]) | rw [hr _ _ rfl rfl rfl]
    exact Steps.refl _
  · show QP (some (.ref a1)) h0 n0 _ s₁.heap _
    rw [e0]
    exact ⟨rfl, N0, rfl⟩
theorem d3_0 : decode prog_97_method_1_code 0 = .ok (.aload_n 0, 1) := by decide +kernel
theorem d3_1 : decode prog_97_method_1_code 1 = .ok (.invokespecial 1, 3) := by decide +kernel
theorem pd___V : parseMethodDescriptor "()V" = some ⟨[], none⟩ := by decide +kernel
theorem d3_4 : decode prog_97_method_1_code 4 = .ok (.aload 5, 2) := by decide +kernel
theorem d3_6 : decode prog_97_method_1_code 6 = .ok (.ldc 7, 2) := by decide +kernel
theorem d3_8 : decode prog_97_method_1_code 8 = .ok (.invokestatic 9, 3) := by decide +kernel
theorem pd__Ljava_lang_Object_Ljava_lang_String__Ljava_lang_Object_ : parseMethodDescriptor "(Ljava/lang/Object;Ljava/lang/String;)Ljava/lang/Object;" = some ⟨[(.object "java/lang/Object"), (.object "java/lang/String")], some (.object "java/lang/Object")⟩ := by decide +kernel
theorem d3_11 : decode prog_97_method_1_code 11 = .ok (.pop, 1) := by decide +kernel
theorem d3_12 : decode prog_97_method_1_code 12 = .ok (.lload_n 1, 1) := by decide +kernel
theorem d3_13 : decode prog_97_method_1_code 13 = .ok (.lconst 1, 1) := by decide +kernel
theorem d3_14 : decode prog_97_method_1_code 14 = .ok (.lcmp, 1) := by decide +kernel
theorem d3_15 : decode prog_97_method_1_code 15 = .ok (.ifCond .ge 17, 3) := by decide +kernel
theorem d3_32 : decode prog_97_method_1_code 32 = .ok (.lload_n 3, 1) := by decide +kernel
theorem d3_33 : decode prog_97_method_1_code 33 = .ok (.lconst 0, 1) := by decide +kernel
theorem d3_34 : decode prog_97_method_1_code 34 = .ok (.lcmp, 1) := by decide +kernel
theorem d3_35 : decode prog_97_method_1_code 35 = .ok (.ifCond .ge 17, 3) := by decide +kernel
theorem d3_52 : decode prog_97_method_1_code 52 = .ok (.aload_n 0, 1) := by decide +kernel
theorem d3_53 : decode prog_97_method_1_code 53 = .ok (.lload_n 1, 1) := by decide +kernel
theorem d3_54 : decode prog_97_method_1_code 54 = .ok (.putfield 25, 3) := by decide +kernel
theorem d3_57 : decode prog_97_method_1_code 57 = .ok (.aload_n 0, 1) := by decide +kernel
theorem d3_58 : decode prog_97_method_1_code 58 = .ok (.lload_n 3, 1) := by decide +kernel
theorem d3_59 : decode prog_97_method_1_code 59 = .ok (.putfield 31, 3) := by decide +kernel
theorem d3_62 : decode prog_97_method_1_code 62 = .ok (.aload_n 0, 1) := by decide +kernel
theorem d3_63 : decode prog_97_method_1_code 63 = .ok (.aload 5, 2) := by decide +kernel
theorem d3_65 : decode prog_97_method_1_code 65 = .ok (.putfield 34, 3) := by decide +kernel
theorem d3_68 : decode prog_97_method_1_code 68 = .ok (.aload_n 0, 1) := by decide +kernel
theorem d3_69 : decode prog_97_method_1_code 69 = .ok (.iload 6, 2) := by decide +kernel
theorem d3_71 : decode prog_97_method_1_code 71 = .ok (.putfield 37, 3) := by decide +kernel
theorem d3_74 : decode prog_97_method_1_code 74 = .ok (.return_, 1) := by decide +kernel
theorem ef_3 (m : MethodId) (x0 : Addr) (x1 : Int64) (x2 : Int64) (x3 : Addr) (x4 : Int32) : entryFrame m #[(.ref x0), (.long x1), (.long x2), (.ref x3), (.int x4)] 7 = mkF m 0 #[.val (.ref x0), .val (.long x1), .second, .val (.long x2), .second, .val (.ref x3), .val (.int x4)] [] := by first | (simp [entryFrame, mkF, argsToLocals, Value.category]; done) | rfl
theorem pn_com_example_horae_horae_model_FixedRate : plainName "com/example/horae/horae/model/FixedRate" = true := by first | (simp [plainName, overriddenIn]; done) | decide +kernel
def Q_rm3 (Z : State) (a1 : Addr) (q2 : Int64) (q3 : Int64) (a4 : Addr) (p5 : Int32) (u10 : Value) (u14 : Value) (u18 : Value) (u22 : Value) (h0 : Heap) (n0 : Nat) (v : Option Value) (h : Heap) (L : List Loc) : Prop := v = none ∧ Fr n0 L ∧ Old Z n0 h ∧ Keep h0 h [a1] ∧ Exa Z h a1 "com/example/horae/horae/model/FixedRate" ∧ Fld Z h a1 "com/example/horae/horae/model/FixedRate" "periodMs" "J" (.long q2) ∧ Fld Z h a1 "com/example/horae/horae/model/FixedRate" "tickBudgetMs" "J" (.long q3) ∧ Fld Z h a1 "com/example/horae/horae/model/FixedRate" "overrunPolicy" "Lcom/example/horae/horae/model/OverrunPolicy;" (.ref a4) ∧ Fld Z h a1 "com/example/horae/horae/model/FixedRate" "wallClockEnabled" "Z" (.int (nar .boolean p5))
set_option maxRecDepth 65536 in
set_option maxHeartbeats 40000000 in
theorem rm3 (l : Launch) (Z : State) (a0 : Array Value) (hw : ∀ d ∈ tables_1, d.before a0 Z = true) (ws : List Jvm.Cond) (a1 : Addr) (q2 : Int64) (q3 : Int64) (a4 : Addr) (p5 : Int32) (u10 : Value) (u14 : Value) (u18 : Value) (u22 : Value) (h0 : Heap) (n0 : Nat) (O0 : Old Z n0 h0) (E_a1 : Exa Z h0 a1 "com/example/horae/horae/model/FixedRate") (F_periodMs_a1 : Fld Z h0 a1 "com/example/horae/horae/model/FixedRate" "periodMs" "J" u10) (g_a1 : n0 ≤ a1) (F_tickBudgetMs_a1 : Fld Z h0 a1 "com/example/horae/horae/model/FixedRate" "tickBudgetMs" "J" u14) (F_overrunPolicy_a1 : Fld Z h0 a1 "com/example/horae/horae/model/FixedRate" "overrunPolicy" "Lcom/example/horae/horae/model/OverrunPolicy;" u18) (F_wallClockEnabled_a1 : Fld Z h0 a1 "com/example/horae/horae/model/FixedRate" "wallClockEnabled" "Z" u22) (hc15 : ¬ ((lcmpW q2 (1 : Int64)) < (0 : Int32))) (hc35 : ¬ ((lcmpW q3 (0 : Int64)) < (0 : Int32))) :
    MetFree l (⟨"com/example/horae/horae/model/FixedRate", "<init>", "(JJLcom/example/horae/horae/model/OverrunPolicy;Z)V"⟩ : MethodName) (head1 (Jvm.Cond.code (⟨"com/example/horae/horae/model/FixedRate", "<init>", "(JJLcom/example/horae/horae/model/OverrunPolicy;Z)V"⟩ : MethodName) prog_97_method_1_code 7 none :: ws) ({ frames := 2, cells := 2, slots := 56, locals := 24 } : Room)) (fun a U => a = #[(.ref a1), (.long q2), (.long q3), (.ref a4), (.int p5)] ∧ Z.Warmed39 U.vm ∧ U.heap = h0) (fun _ _ _ _ _ => True) (fun _ U o U' => ∃ v L, o = .returned v ∧ Q_rm3 Z a1 q2 q3 a4 p5 u10 u14 u18 u22 h0 n0 v U'.heap L ∧ ReturnedEndW U o U' L ({ frames := 2, cells := 2, slots := 56, locals := 24 } : Room).cells ({ frames := 2, cells := 2, slots := 56, locals := 24 } : Room).slots) := by
  refine MetFree.of_bodySF (plainFor_of_name pn_com_example_horae_horae_model_FixedRate) hisR ?_
  intro p e s m args below meth c s₁ Bd hml0 hP hK
  obtain ⟨rfl, hZ, hh⟩ := hP
  have hx := Bd.exec
  have hby := Bd.bytes
  have hml : c.maxLocals = 7 := hml0
  have hown : s.vm.findClass "com/example/horae/horae/model/FixedRate" = some m.cls := findClass_of_methodNamed Bd.named
  have hnm := (name_of_methodNamed Bd.named Bd.method).1
  have X0 : Stand p l e ({ frames := 2, cells := 2, slots := 56, locals := 24 } : Room) s m #[(.ref a1), (.long q2), (.long q3), (.ref a4), (.int p5)] below meth c s₁ [] 0 0 := Stand.of_body Bd
  have e0 : s₁.heap = h0 := by rw [← hh, Bd.state]; rfl
  have N0 := Fr.nil n0
  have pre0 : ∀ t, Steps p.tables e below (s₁.setTop (mkF m 0 #[.val (.ref a1), .val (.long q2), .second, .val (.long q3), .second, .val (.ref a4), .val (.int p5)] [])) t → Steps p.tables e below (s₁.setTop (entryFrame m #[(.ref a1), (.long q2), (.long q3), (.ref a4), (.int p5)] 7)) t := fun t k => castTop (ef_3 m a1 q2 q3 a4 p5) k
  have own_wS := own_wS0 hw
  have hS0 : s.Since s.vm 0 := (State.WarmedH.refl s).since 0
  obtain ⟨_, _, ⟨T6, L6, k6, n6⟩, -, X6, ⟨Lc6, hQ6, l6, y6, z6⟩, st6⟩ := X0.specialBack hx (y := (⟨"java/lang/Record", "<init>", "()V"⟩ : MethodName)) rfl hown (mvT hZ (hw _ (List.mem_of_getElem? (i := 17) rfl))) (mvT hZ (hw _ (List.mem_of_getElem? (i := 18) rfl))) (mvT hZ (hw _ (List.mem_of_getElem? (i := 21) rfl))) (by decide) (backOf (W := 0) (rm4 l Z a0 hw [] a1 h0 n0 O0) hZ (hw _ (List.mem_of_getElem? (i := 21) rfl)) (hw _ (List.mem_of_getElem? (i := 20) rfl)) (by decide) (by decide)) (g := (mkF m 1 #[.val (.ref a1), .val (.long q2), .second, .val (.long q3), .second, .val (.ref a4), .val (.int p5)] [(.ref a1)])) rfl (by rw [hml]; rfl) (Steps.refl _) (a := a1) (argsL := []) (rest := []) (lenOf pd___V rfl) rfl (by show 2 * 0 + _ ≤ _; exact Nat.le_of_eq rfl) (hb hby d3_1) (fun _ _ => ⟨rfl, e0, (by decide : 0 + 0 ≤ _), (by decide : 0 + 0 ≤ _)⟩)
  dsimp only [Pt.U, Pt.locs, Pt.cells, Pt.slots] at X6 l6 y6 z6 st6 hQ6
  subst l6 y6 z6
  obtain ⟨rfl, Nq6, e6⟩ := hQ6
  have N6 := Fr.app N0 Nq6
  obtain ⟨lit7, T7, h7, k7, X7, e7, E7, hS7, hk7, hZ7, hown7, st7⟩ := ldcS (s := s) (show Stand p l e _ (s.setVm s.vm) m _ below meth c _ _ _ _ from X6) hx hZ hown (hw _ (List.mem_of_getElem? (i := 25) rfl)) own_wS e6 hS0 (Nat.zero_le _) (g := (mkF m 6 #[.val (.ref a1), .val (.long q2), .second, .val (.long q3), .second, .val (.ref a4), .val (.int p5)] [(.ref a4)])) rfl (hb hby d3_6) (n := 52) (by decide) (by decide) (by decide) (by decide)
  have O7 := O0.ext E7
  have K7 : Keep h0 h7 [a1] := (Keep.refl h0 [a1]).ext E7
  obtain ⟨_, _, ⟨T8, L8, k8, n8⟩, -, X8, ⟨Lc8, hQ8, l8, y8, z8⟩, st8⟩ := Jvm.LawKit.callS X7 hx (y := (⟨"java/util/Objects", "requireNonNull", "(Ljava/lang/Object;Ljava/lang/String;)Ljava/lang/Object;"⟩ : MethodName)) hown7 (mvT hZ7 (hw _ (List.mem_of_getElem? (i := 33) rfl))) (mvT hZ7 (hw _ (List.mem_of_getElem? (i := 34) rfl))) (mvT hZ7 (hw _ (List.mem_of_getElem? (i := 35) rfl))) (mvT hZ7 (hw _ (List.mem_of_getElem? (i := 36) rfl))) (by decide) (backOf (W := 0) (rm6 l Z a0 hw [] a4 lit7 h7 n0 O7) hZ7 (hw _ (List.mem_of_getElem? (i := 36) rfl)) (hw _ (List.mem_of_getElem? (i := 35) rfl)) (by decide) (by decide)) (g := (mkF m 8 #[.val (.ref a1), .val (.long q2), .second, .val (.long q3), .second, .val (.ref a4), .val (.int p5)] [(.ref lit7), (.ref a4)])) rfl (by rw [hml]; rfl) (argsL := [(.ref a4), (.ref lit7)]) (rest := []) (lenOf pd__Ljava_lang_Object_Ljava_lang_String__Ljava_lang_Object_ rfl) rfl (by show 2 * 0 + _ ≤ _; exact Nat.le_of_eq rfl) (hb hby d3_8) (fun _ _ => ⟨rfl, e7, (by decide : 2 + 0 ≤ _), (by decide : 56 + 0 ≤ _)⟩)
  dsimp only [Pt.U, Pt.locs, Pt.cells, Pt.slots] at X8 l8 y8 z8 st8 hQ8
  subst l8 y8 z8
  obtain ⟨rfl, Nq8, e8⟩ := hQ8
  have N8 := Fr.app N6 Nq8
  have c9 := (E_a1.ext E7)
  have c11 := (F_periodMs_a1.ext E7)
  obtain ⟨T12, h12, X12, e12, W12, st12⟩ := putF X8 hx hZ7 hown7 (host := "") (Or.inl (hw _ (List.mem_of_getElem? (i := 37) rfl))) Via.refl e8 c11 c9 (Or.inr ⟨(hw _ (List.mem_of_getElem? (i := 38) rfl)), rfl, hnm⟩) (hw _ (List.mem_of_getElem? (i := 12) rfl)) (ty := .long) (by decide) rfl rfl (g := (mkF m 54 #[.val (.ref a1), .val (.long q2), .second, .val (.long q3), .second, .val (.ref a4), .val (.int p5)] [(.long q2), (.ref a1)])) rfl rfl (hb hby d3_54)
  have O12 := O7.wr W12 g_a1
  have K12 : Keep h0 h12 [a1] := K7.wr W12 (Or.inl (List.mem_of_getElem? (i := 0) rfl))
  have N12 := Fr.snoc X12 N8 g_a1
  have Fw12 := c11.same W12
  have c13 := (c9.wr W12)
  have c15 := ((F_tickBudgetMs_a1.ext E7).other W12 (Or.inr (slot_ne (Or.inr (hw _ (List.mem_of_getElem? (i := 40) rfl))) (Or.inr (hw _ (List.mem_of_getElem? (i := 38) rfl))) (by decide) (t := .long) (t' := .long) (by decide) (by decide))))
  obtain ⟨T16, h16, X16, e16, W16, st16⟩ := putF X12 hx hZ7 hown7 (host := "") (Or.inl (hw _ (List.mem_of_getElem? (i := 39) rfl))) Via.refl e12 c15 c13 (Or.inr ⟨(hw _ (List.mem_of_getElem? (i := 40) rfl)), rfl, hnm⟩) (hw _ (List.mem_of_getElem? (i := 12) rfl)) (ty := .long) (by decide) rfl rfl (g := (mkF m 59 #[.val (.ref a1), .val (.long q2), .second, .val (.long q3), .second, .val (.ref a4), .val (.int p5)] [(.long q3), (.ref a1)])) rfl rfl (hb hby d3_59)
  have O16 := O12.wr W16 g_a1
  have K16 : Keep h0 h16 [a1] := K12.wr W16 (Or.inl (List.mem_of_getElem? (i := 0) rfl))
  have N16 := Fr.snoc X16 N12 g_a1
  have Fw16 := c15.same W16
  have c17 := (c13.wr W16)
  have c19 := (((F_overrunPolicy_a1.ext E7).other W12 (Or.inr (slot_ne (Or.inr (hw _ (List.mem_of_getElem? (i := 42) rfl))) (Or.inr (hw _ (List.mem_of_getElem? (i := 38) rfl))) (by decide) (t := (.object "com/example/horae/horae/model/OverrunPolicy")) (t' := .long) (by decide) (by decide)))).other W16 (Or.inr (slot_ne (Or.inr (hw _ (List.mem_of_getElem? (i := 42) rfl))) (Or.inr (hw _ (List.mem_of_getElem? (i := 40) rfl))) (by decide) (t := (.object "com/example/horae/horae/model/OverrunPolicy")) (t' := .long) (by decide) (by decide))))
  obtain ⟨T20, h20, X20, e20, W20, st20⟩ := putF X16 hx hZ7 hown7 (host := "") (Or.inl (hw _ (List.mem_of_getElem? (i := 41) rfl))) Via.refl e16 c19 c17 (Or.inr ⟨(hw _ (List.mem_of_getElem? (i := 42) rfl)), rfl, hnm⟩) (hw _ (List.mem_of_getElem? (i := 12) rfl)) (ty := (.object "com/example/horae/horae/model/OverrunPolicy")) (by decide) rfl rfl (g := (mkF m 65 #[.val (.ref a1), .val (.long q2), .second, .val (.long q3), .second, .val (.ref a4), .val (.int p5)] [(.ref a4), (.ref a1)])) rfl rfl (hb hby d3_65)
  have O20 := O16.wr W20 g_a1
  have K20 : Keep h0 h20 [a1] := K16.wr W20 (Or.inl (List.mem_of_getElem? (i := 0) rfl))
  have N20 := Fr.snoc X20 N16 g_a1
  have Fw20 := c19.same W20
  have c21 := (c17.wr W20)
  have c23 := ((((F_wallClockEnabled_a1.ext E7).other W12 (Or.inr (slot_ne (Or.inr (hw _ (List.mem_of_getElem? (i := 44) rfl))) (Or.inr (hw _ (List.mem_of_getElem? (i := 38) rfl))) (by decide) (t := .boolean) (t' := .long) (by decide) (by decide)))).other W16 (Or.inr (slot_ne (Or.inr (hw _ (List.mem_of_getElem? (i := 44) rfl))) (Or.inr (hw _ (List.mem_of_getElem? (i := 40) rfl))) (by decide) (t := .boolean) (t' := .long) (by decide) (by decide)))).other W20 (Or.inr (slot_ne (Or.inr (hw _ (List.mem_of_getElem? (i := 44) rfl))) (Or.inr (hw _ (List.mem_of_getElem? (i := 42) rfl))) (by decide) (t := .boolean) (t' := (.object "com/example/horae/horae/model/OverrunPolicy")) (by decide) (by decide))))
  obtain ⟨T24, h24, X24, e24, W24, st24⟩ := putFN X20 hx hZ7 hown7 (hw _ (List.mem_of_getElem? (i := 43) rfl)) Via.refl e20 c23 c21 (Or.inr ⟨(hw _ (List.mem_of_getElem? (i := 44) rfl)), rfl, hnm⟩) (hw _ (List.mem_of_getElem? (i := 12) rfl)) (ty := .boolean) (v' := (.int (nar .boolean p5))) (by decide) rfl (fits_nar_bool _) (g := (mkF m 71 #[.val (.ref a1), .val (.long q2), .second, .val (.long q3), .second, .val (.ref a4), .val (.int p5)] [(.int p5), (.ref a1)])) rfl rfl (hb hby d3_71)
  have O24 := O20.wr W24 g_a1
  have K24 : Keep h0 h24 [a1] := K20.wr W24 (Or.inl (List.mem_of_getElem? (i := 0) rfl))
  have N24 := Fr.snoc X24 N20 g_a1
  have Fw24 := c23.same W24
  have c25 := (c21.wr W24)
  have c26 := (((Fw12.other W16 (Or.inr (slot_ne (Or.inr (hw _ (List.mem_of_getElem? (i := 38) rfl))) (Or.inr (hw _ (List.mem_of_getElem? (i := 40) rfl))) (by decide) (t := .long) (t' := .long) (by decide) (by decide)))).other W20 (Or.inr (slot_ne (Or.inr (hw _ (List.mem_of_getElem? (i := 38) rfl))) (Or.inr (hw _ (List.mem_of_getElem? (i := 42) rfl))) (by decide) (t := .long) (t' := (.object "com/example/horae/horae/model/OverrunPolicy")) (by decide) (by decide)))).other W24 (Or.inr (slot_ne (Or.inr (hw _ (List.mem_of_getElem? (i := 38) rfl))) (Or.inr (hw _ (List.mem_of_getElem? (i := 44) rfl))) (by decide) (t := .long) (t' := .boolean) (by decide) (by decide))))
  have c27 := ((Fw16.other W20 (Or.inr (slot_ne (Or.inr (hw _ (List.mem_of_getElem? (i := 40) rfl))) (Or.inr (hw _ (List.mem_of_getElem? (i := 42) rfl))) (by decide) (t := .long) (t' := (.object "com/example/horae/horae/model/OverrunPolicy")) (by decide) (by decide)))).other W24 (Or.inr (slot_ne (Or.inr (hw _ (List.mem_of_getElem? (i := 40) rfl))) (Or.inr (hw _ (List.mem_of_getElem? (i := 44) rfl))) (by decide) (t := .long) (t' := .boolean) (by decide) (by decide))))
  have c28 := (Fw20.other W24 (Or.inr (slot_ne (Or.inr (hw _ (List.mem_of_getElem? (i := 42) rfl))) (Or.inr (hw _ (List.mem_of_getElem? (i := 44) rfl))) (by decide) (t := (.object "com/example/horae/horae/model/OverrunPolicy")) (t' := .boolean) (by decide) (by decide))))
  obtain ⟨fs, hr, hrun, hended, hRW⟩ := X24.leaveW hS7 (by rw [e24]; exact (Nat.le_trans (Nat.le_trans (Nat.le_trans (Nat.le_trans hk7 (Keep.of_wr W12).1) (Keep.of_wr W16).1) (Keep.of_wr W20).1) (Keep.of_wr W24).1)) (v := none) (fun _ => rfl)
  refine ⟨_, _, pre0 _ ?_, hrun, hended, _, _, rfl, ?_, hRW.1, hRW.2.1, hRW.2.2.1, hRW.2.2.2.mono (by decide) (by decide)⟩
  · show Steps p.tables e below (s₁.setTop (mkF m 0 #[.val (.ref a1), .val (.long q2), .second, .val (.long q3), .second, .val (.ref a4), .val (.int p5)] [])) _
    refine XS.aloadN X0.here hx rfl (hb hby d3_0) rfl rfl ?_
    show Steps p.tables e below (s₁.setTop (mkF m 1 #[.val (.ref a1), .val (.long q2), .second, .val (.long q3), .second, .val (.ref a4), .val (.int p5)] [(.ref a1)])) _
    refine st6.trans ?_
    show Steps p.tables e below (T6.setTop (mkF m 4 #[.val (.ref a1), .val (.long q2), .second, .val (.long q3), .second, .val (.ref a4), .val (.int p5)] [])) _
    refine XS.aload X6.here hx rfl (hb hby d3_4) rfl rfl ?_
    show Steps p.tables e below (T6.setTop (mkF m 6 #[.val (.ref a1), .val (.long q2), .second, .val (.long q3), .second, .val (.ref a4), .val (.int p5)] [(.ref a4)])) _
    refine st7 _ ?_
    show Steps p.tables e below (T7.setTop (mkF m 8 #[.val (.ref a1), .val (.long q2), .second, .val (.long q3), .second, .val (.ref a4), .val (.int p5)] [(.ref lit7), (.ref a4)])) _
    refine st8 _ ?_
    show Steps p.tables e below (T8.setTop (mkF m 11 #[.val (.ref a1), .val (.long q2), .second, .val (.long q3), .second, .val (.ref a4), .val (.int p5)] [(.ref a4)])) _
    refine XS.pop X8.here hx rfl (hb hby d3_11) rfl rfl ?_
    show Steps p.tables e below (T8.setTop (mkF m 12 #[.val (.ref a1), .val (.long q2), .second, .val (.long q3), .second, .val (.ref a4), .val (.int p5)] [])) _
    refine XS.lloadN X8.here hx rfl (hb hby d3_12) rfl ?_
    show Steps p.tables e below (T8.setTop (mkF m 13 #[.val (.ref a1), .val (.long q2), .second, .val (.long q3), .second, .val (.ref a4), .val (.int p5)] [(.long q2)])) _
    refine XS.lconst X8.here hx rfl (hb hby d3_13) ?_
    show Steps p.tables e below (T8.setTop (mkF m 14 #[.val (.ref a1), .val (.long q2), .second, .val (.long q3), .second, .val (.ref a4), .val (.int p5)] [(.long (1 : Int64)), (.long q2)])) _
    refine XS.lcmp X8.here hx rfl (hb hby d3_14) rfl ?_
    show Steps p.tables e below (T8.setTop (mkF m 15 #[.val (.ref a1), .val (.long q2), .second, .val (.long q3), .second, .val (.ref a4), .val (.int p5)] [(.int (lcmpW q2 (1 : Int64)))])) _
    refine XS.ifYes X8.here hx rfl (pc0 := 15) (pc' := 32) rfl (hb hby d3_15) rfl ((if0 _ _).trans (flt hc15).2.1) (by decide) (by decide) ?_
    show Steps p.tables e below (T8.setTop (mkF m 32 #[.val (.ref a1), .val (.long q2), .second, .val (.long q3), .second, .val (.ref a4), .val (.int p5)] [])) _
    refine XS.lloadN X8.here hx rfl (hb hby d3_32) rfl ?_
    show Steps p.tables e below (T8.setTop (mkF m 33 #[.val (.ref a1), .val (.long q2), .second, .val (.long q3), .second, .val (.ref a4), .val (.int p5)] [(.long q3)])) _
    refine XS.lconst X8.here hx rfl (hb hby d3_33) ?_
    show Steps p.tables e below (T8.setTop (mkF m 34 #[.val (.ref a1), .val (.long q2), .second, .val (.long q3), .second, .val (.ref a4), .val (.int p5)] [(.long (0 : Int64)), (.long q3)])) _
    refine XS.lcmp X8.here hx rfl (hb hby d3_34) rfl ?_
    show Steps p.tables e below (T8.setTop (mkF m 35 #[.val (.ref a1), .val (.long q2), .second, .val (.long q3), .second, .val (.ref a4), .val (.int p5)] [(.int (lcmpW q3 (0 : Int64)))])) _
    refine XS.ifYes X8.here hx rfl (pc0 := 35) (pc' := 52) rfl (hb hby d3_35) rfl ((if0 _ _).trans (flt hc35).2.1) (by decide) (by decide) ?_
    show Steps p.tables e below (T8.setTop (mkF m 52 #[.val (.ref a1), .val (.long q2), .second, .val (.long q3), .second, .val (.ref a4), .val (.int p5)] [])) _
    refine XS.aloadN X8.here hx rfl (hb hby d3_52) rfl rfl ?_
    show Steps p.tables e below (T8.setTop (mkF m 53 #[.val (.ref a1), .val (.long q2), .second, .val (.long q3), .second, .val (.ref a4), .val (.int p5)] [(.ref a1)])) _
    refine XS.lloadN X8.here hx rfl (hb hby d3_53) rfl ?_
    show Steps p.tables e below (T8.setTop (mkF m 54 #[.val (.ref a1), .val (.long q2), .second, .val (.long q3), .second, .val (.ref a4), .val (.int p5)] [(.long q2), (.ref a1)])) _
    refine st12 _ ?_
    show Steps p.tables e below (T12.setTop (mkF m 57 #[.val (.ref a1), .val (.long q2), .second, .val (.long q3), .second, .val (.ref a4), .val (.int p5)] [])) _
    refine XS.aloadN X12.here hx rfl (hb hby d3_57) rfl rfl ?_
    show Steps p.tables e below (T12.setTop (mkF m 58 #[.val (.ref a1), .val (.long q2), .second, .val (.long q3), .second, .val (.ref a4), .val (.int p5)] [(.ref a1)])) _
    refine XS.lloadN X12.here hx rfl (hb hby d3_58) rfl ?_
    show Steps p.tables e below (T12.setTop (mkF m 59 #[.val (.ref a1), .val (.long q2), .second, .val (.long q3), .second, .val (.ref a4), .val (.int p5)] [(.long q3), (.ref a1)])) _
    refine st16 _ ?_
    show Steps p.tables e below (T16.setTop (mkF m 62 #[.val (.ref a1), .val (.long q2), .second, .val (.long q3), .second, .val (.ref a4), .val (.int p5)] [])) _
    refine XS.aloadN X16.here hx rfl (hb hby d3_62) rfl rfl ?_
    show Steps p.tables e below (T16.setTop (mkF m 63 #[.val (.ref a1), .val (.long q2), .second, .val (.long q3), .second, .val (.ref a4), .val (.int p5)] [(.ref a1)])) _
    refine XS.aload X16.here hx rfl (hb hby d3_63) rfl rfl ?_
    show Steps p.tables e below (T16.setTop (mkF m 65 #[.val (.ref a1), .val (.long q2), .second, .val (.long q3), .second, .val (.ref a4), .val (.int p5)] [(.ref a4), (.ref a1)])) _
    refine st20 _ ?_
    show Steps p.tables e below (T20.setTop (mkF m 68 #[.val (.ref a1), .val (.long q2), .second, .val (.long q3), .second, .val (.ref a4), .val (.int p5)] [])) _
    refine XS.aloadN X20.here hx rfl (hb hby d3_68) rfl rfl ?_
    show Steps p.tables e below (T20.setTop (mkF m 69 #[.val (.ref a1), .val (.long q2), .second, .val (.long q3), .second, .val (.ref a4), .val (.int p5)] [(.ref a1)])) _
    refine XS.iload X20.here hx rfl (hb hby d3_69) rfl ?_
    show Steps p.tables e below (T20.setTop (mkF m 71 #[.val (.ref a1), .val (.long q2), .second, .val (.long q3), .second, .val (.ref a4), .val (.int p5)] [(.int p5), (.ref a1)])) _
    refine st24 _ ?_
    show Steps p.tables e below (T24.setTop (mkF m 74 #[.val (.ref a1), .val (.long q2), .second, .val (.long q3), .second, .val (.ref a4), .val (.int p5)] [])) _
    exact X24.returnOut hx Bd.returns (hb hby d3_74) hr
  · show Q_rm3 Z a1 q2 q3 a4 p5 u10 u14 u18 u22 h0 n0 _ T24.heap _
    rw [e24]
    exact ⟨rfl, N24, O24, K24, c25, c26, c27, c28, Fw24⟩
theorem d7_0 : decode prog_97_method_4_code 0 = .ok (.ldc2_w 54, 3) := by decide +kernel
theorem d7_3 : decode prog_97_method_4_code 3 = .ok (.lstore_n 1, 1) := by decide +kernel
theorem d7_4 : decode prog_97_method_4_code 4 = .ok (.aload_n 0, 1) := by decide +kernel
theorem d7_5 : decode prog_97_method_4_code 5 = .ok (.getfield 25, 3) := by decide +kernel
theorem d7_8 : decode prog_97_method_4_code 8 = .ok (.ldc2_w 56, 3) := by decide +kernel
theorem d7_11 : decode prog_97_method_4_code 11 = .ok (.lcmp, 1) := by decide +kernel
theorem d7_12 : decode prog_97_method_4_code 12 = .ok (.ifCond .gt 12, 3) := by decide +kernel
theorem d7_15 : decode prog_97_method_4_code 15 = .ok (.aload_n 0, 1) := by decide +kernel
theorem d7_16 : decode prog_97_method_4_code 16 = .ok (.getfield 25, 3) := by decide +kernel
theorem d7_19 : decode prog_97_method_4_code 19 = .ok (.ldc2_w 58, 3) := by decide +kernel
theorem d7_22 : decode prog_97_method_4_code 22 = .ok (.lmul, 1) := by decide +kernel
theorem d7_23 : decode prog_97_method_4_code 23 = .ok (.lstore_n 1, 1) := by decide +kernel
theorem d7_24 : decode prog_97_method_4_code 24 = .ok (.lload_n 1, 1) := by decide +kernel
theorem d7_25 : decode prog_97_method_4_code 25 = .ok (.lreturn, 1) := by decide +kernel
theorem ef_7 (m : MethodId) (x0 : Addr) : entryFrame m #[(.ref x0)] 3 = mkF m 0 #[.val (.ref x0), .unset, .unset] [] := by first | (simp [entryFrame, mkF, argsToLocals, Value.category]; done) | rfl
set_option maxRecDepth 65536 in
set_option maxHeartbeats 40000000 in
theorem rm7_f (l : Launch) (Z : State) (a0 : Array Value) (hw : ∀ d ∈ tables_1, d.before a0 Z = true) (ws : List Jvm.Cond) (a1 : Addr) (w2 : Int64) (h0 : Heap) (n0 : Nat) (O0 : Old Z n0 h0) (F_periodMs_a1 : Fld Z h0 a1 "com/example/horae/horae/model/FixedRate" "periodMs" "J" (.long w2)) (hc12 : ¬ ((0 : Int32) < (lcmpW w2 (1844674407370955161 : Int64)))) :
    MetFree l (⟨"com/example/horae/horae/model/FixedRate", "starvationLimitMs", "()J"⟩ : MethodName) (head1 (Jvm.Cond.code (⟨"com/example/horae/horae/model/FixedRate", "starvationLimitMs", "()J"⟩ : MethodName) prog_97_method_4_code 3 (some .long) :: ws) ({ frames := 0, cells := 0, slots := 0, locals := 0 } : Room)) (fun a U => a = #[(.ref a1)] ∧ Z.Warmed39 U.vm ∧ U.heap = h0) (fun _ _ _ _ _ => True) (fun _ U o U' => ∃ v L, o = .returned v ∧ QP (some (.long (w2 * (5 : Int64)))) h0 n0 v U'.heap L ∧ FrameEnd U o U' L ({ frames := 0, cells := 0, slots := 0, locals := 0 } : Room).cells ({ frames := 0, cells := 0, slots := 0, locals := 0 } : Room).slots) := by
  refine MetFree.of_bodySF (plainFor_of_name pn_com_example_horae_horae_model_FixedRate) hisR ?_
  intro p e s m args below meth c s₁ Bd hml0 hP hK
  obtain ⟨rfl, hZ, hh⟩ := hP
  have hx := Bd.exec
  have hby := Bd.bytes
  have hml : c.maxLocals = 3 := hml0
  have hown : s.vm.findClass "com/example/horae/horae/model/FixedRate" = some m.cls := findClass_of_methodNamed Bd.named
  have hnm := (name_of_methodNamed Bd.named Bd.method).1
  have X0 : Stand p l e ({ frames := 0, cells := 0, slots := 0, locals := 0 } : Room) s m #[(.ref a1)] below meth c s₁ [] 0 0 := Stand.of_body Bd
  have e0 : s₁.heap = h0 := by rw [← hh, Bd.state]; rfl
  have N0 := Fr.nil n0
  have pre0 : ∀ t, Steps p.tables e below (s₁.setTop (mkF m 0 #[.val (.ref a1), .unset, .unset] [])) t → Steps p.tables e below (s₁.setTop (entryFrame m #[(.ref a1)] 3)) t := fun t k => castTop (ef_7 m a1) k
  obtain ⟨T3, X3, e3, st3⟩ := getF X0 hx hZ hown (host := "") (Or.inl (hw _ (List.mem_of_getElem? (i := 37) rfl))) Via.refl e0 F_periodMs_a1 (g := (mkF m 5 #[.val (.ref a1), .val (.long (9223372036854775807 : Int64)), .second] [(.ref a1)])) rfl rfl (hb hby d7_5)
  obtain ⟨T4, X4, e4, st4⟩ := getF X3 hx hZ hown (host := "") (Or.inl (hw _ (List.mem_of_getElem? (i := 37) rfl))) Via.refl e3 F_periodMs_a1 (g := (mkF m 16 #[.val (.ref a1), .val (.long (9223372036854775807 : Int64)), .second] [(.ref a1)])) rfl rfl (hb hby d7_16)
  obtain ⟨fs, hr, hrun, hended, hW, hsame⟩ := X4.leave (v := some (.long (w2 * (5 : Int64)))) (fun h => by rw [Bd.returns] at h; cases h) (BodyLoose.notSynchronized Bd)
  refine ⟨_, _, pre0 _ ?_, hrun, hended, _, _, rfl, ?_, ⟨_, rfl⟩, hW, hsame.mono (by decide) (by decide)⟩
  · show Steps p.tables e below (s₁.setTop (mkF m 0 #[.val (.ref a1), .unset, .unset] [])) _
    refine X0.ldc2Long hx hown (mvT hZ (hw _ (List.mem_of_getElem? (i := 51) rfl))) (g := (mkF m 0 #[.val (.ref a1), .unset, .unset] [])) rfl (hb hby d7_0) _ ?_
    show Steps p.tables e below (s₁.setTop (mkF m 3 #[.val (.ref a1), .unset, .unset] [(.long (9223372036854775807 : Int64))])) _
    refine XS.lstoreN X0.here hx rfl (hb hby d7_3) rfl (l' := #[.val (.ref a1), .val (.long (9223372036854775807 : Int64)), .second]) rfl ?_
    show Steps p.tables e below (s₁.setTop (mkF m 4 #[.val (.ref a1), .val (.long (9223372036854775807 : Int64)), .second] [])) _
    refine XS.aloadN X0.here hx rfl (hb hby d7_4) rfl rfl ?_
    show Steps p.tables e below (s₁.setTop (mkF m 5 #[.val (.ref a1), .val (.long (9223372036854775807 : Int64)), .second] [(.ref a1)])) _
    refine st3 _ ?_
    show Steps p.tables e below (T3.setTop (mkF m 8 #[.val (.ref a1), .val (.long (9223372036854775807 : Int64)), .second] [(.long w2)])) _
    refine X3.ldc2Long hx hown (mvT hZ (hw _ (List.mem_of_getElem? (i := 52) rfl))) (g := (mkF m 8 #[.val (.ref a1), .val (.long (9223372036854775807 : Int64)), .second] [(.long w2)])) rfl (hb hby d7_8) _ ?_
    show Steps p.tables e below (T3.setTop (mkF m 11 #[.val (.ref a1), .val (.long (9223372036854775807 : Int64)), .second] [(.long (1844674407370955161 : Int64)), (.long w2)])) _
    refine XS.lcmp X3.here hx rfl (hb hby d7_11) rfl ?_
    show Steps p.tables e below (T3.setTop (mkF m 12 #[.val (.ref a1), .val (.long (9223372036854775807 : Int64)), .second] [(.int (lcmpW w2 (1844674407370955161 : Int64)))])) _
    refine XS.ifNo X3.here hx rfl (hb hby d7_12) rfl ((if0 _ _).trans (flt hc12).2.2.1) ?_
    show Steps p.tables e below (T3.setTop (mkF m 15 #[.val (.ref a1), .val (.long (9223372036854775807 : Int64)), .second] [])) _
    refine XS.aloadN X3.here hx rfl (hb hby d7_15) rfl rfl ?_
    show Steps p.tables e below (T3.setTop (mkF m 16 #[.val (.ref a1), .val (.long (9223372036854775807 : Int64)), .second] [(.ref a1)])) _
    refine st4 _ ?_
    show Steps p.tables e below (T4.setTop (mkF m 19 #[.val (.ref a1), .val (.long (9223372036854775807 : Int64)), .second] [(.long w2)])) _
    refine X4.ldc2Long hx hown (mvT hZ (hw _ (List.mem_of_getElem? (i := 54) rfl))) (g := (mkF m 19 #[.val (.ref a1), .val (.long (9223372036854775807 : Int64)), .second] [(.long w2)])) rfl (hb hby d7_19) _ ?_
    show Steps p.tables e below (T4.setTop (mkF m 22 #[.val (.ref a1), .val (.long (9223372036854775807 : Int64)), .second] [(.long (5 : Int64)), (.long w2)])) _
    refine XS.lmul X4.here hx rfl (hb hby d7_22) rfl ?_
    show Steps p.tables e below (T4.setTop (mkF m 23 #[.val (.ref a1), .val (.long (9223372036854775807 : Int64)), .second] [(.long (w2 * (5 : Int64)))])) _
    refine XS.lstoreN X4.here hx rfl (hb hby d7_23) rfl (l' := #[.val (.ref a1), .val (.long (w2 * (5 : Int64))), .second]) rfl ?_
    show Steps p.tables e below (T4.setTop (mkF m 24 #[.val (.ref a1), .val (.long (w2 * (5 : Int64))), .second] [])) _
    refine XS.lloadN X4.here hx rfl (hb hby d7_24) rfl ?_
    show Steps p.tables e below (T4.setTop (mkF m 25 #[.val (.ref a1), .val (.long (w2 * (5 : Int64))), .second] [(.long (w2 * (5 : Int64)))])) _
    exact retOut X4 hx (t := .long) (i := .lreturn) Bd.returns rfl (Or.inr (Or.inl ⟨rfl, rfl, _, rfl⟩)) (hb hby d7_25) hr
  · show QP (some (.long (w2 * (5 : Int64)))) h0 n0 _ T4.heap _
    rw [e4]
    exact ⟨rfl, N0, rfl⟩
set_option maxRecDepth 65536 in
set_option maxHeartbeats 40000000 in
theorem rm7_t (l : Launch) (Z : State) (a0 : Array Value) (hw : ∀ d ∈ tables_1, d.before a0 Z = true) (ws : List Jvm.Cond) (a1 : Addr) (w2 : Int64) (h0 : Heap) (n0 : Nat) (O0 : Old Z n0 h0) (F_periodMs_a1 : Fld Z h0 a1 "com/example/horae/horae/model/FixedRate" "periodMs" "J" (.long w2)) (hc12 : (0 : Int32) < (lcmpW w2 (1844674407370955161 : Int64))) :
    MetFree l (⟨"com/example/horae/horae/model/FixedRate", "starvationLimitMs", "()J"⟩ : MethodName) (head1 (Jvm.Cond.code (⟨"com/example/horae/horae/model/FixedRate", "starvationLimitMs", "()J"⟩ : MethodName) prog_97_method_4_code 3 (some .long) :: ws) ({ frames := 0, cells := 0, slots := 0, locals := 0 } : Room)) (fun a U => a = #[(.ref a1)] ∧ Z.Warmed39 U.vm ∧ U.heap = h0) (fun _ _ _ _ _ => True) (fun _ U o U' => ∃ v L, o = .returned v ∧ QP (some (.long (9223372036854775807 : Int64))) h0 n0 v U'.heap L ∧ FrameEnd U o U' L ({ frames := 0, cells := 0, slots := 0, locals := 0 } : Room).cells ({ frames := 0, cells := 0, slots := 0, locals := 0 } : Room).slots) := by
  refine MetFree.of_bodySF (plainFor_of_name pn_com_example_horae_horae_model_FixedRate) hisR ?_
  intro p e s m args below meth c s₁ Bd hml0 hP hK
  obtain ⟨rfl, hZ, hh⟩ := hP
  have hx := Bd.exec
  have hby := Bd.bytes
  have hml : c.maxLocals = 3 := hml0
  have hown : s.vm.findClass "com/example/horae/horae/model/FixedRate" = some m.cls := findClass_of_methodNamed Bd.named
  have hnm := (name_of_methodNamed Bd.named Bd.method).1
  have X0 : Stand p l e ({ frames := 0, cells := 0, slots := 0, locals := 0 } : Room) s m #[(.ref a1)] below meth c s₁ [] 0 0 := Stand.of_body Bd
  have e0 : s₁.heap = h0 := by rw [← hh, Bd.state]; rfl
  have N0 := Fr.nil n0
  have pre0 : ∀ t, Steps p.tables e below (s₁.setTop (mkF m 0 #[.val (.ref a1), .unset, .unset] [])) t → Steps p.tables e below (s₁.setTop (entryFrame m #[(.ref a1)] 3)) t := fun t k => castTop (ef_7 m a1) k
  obtain ⟨T3, X3, e3, st3⟩ := getF X0 hx hZ hown (host := "") (Or.inl (hw _ (List.mem_of_getElem? (i := 37) rfl))) Via.refl e0 F_periodMs_a1 (g := (mkF m 5 #[.val (.ref a1), .val (.long (9223372036854775807 : Int64)), .second] [(.ref a1)])) rfl rfl (hb hby d7_5)
  obtain ⟨fs, hr, hrun, hended, hW, hsame⟩ := X3.leave (v := some (.long (9223372036854775807 : Int64))) (fun h => by rw [Bd.returns] at h; cases h) (BodyLoose.notSynchronized Bd)
  refine ⟨_, _, pre0 _ ?_, hrun, hended, _, _, rfl, ?_, ⟨_, rfl⟩, hW, hsame.mono (by decide) (by decide)⟩
  · show Steps p.tables e below (s₁.setTop (mkF m 0 #[.val (.ref a1), .unset, .unset] [])) _
    refine X0.ldc2Long hx hown (mvT hZ (hw _ (List.mem_of_getElem? (i := 51) rfl))) (g := (mkF m 0 #[.val (.ref a1), .unset, .unset] [])) rfl (hb hby d7_0) _ ?_
    show Steps p.tables e below (s₁.setTop (mkF m 3 #[.val (.ref a1), .unset, .unset] [(.long (9223372036854775807 : Int64))])) _
    refine XS.lstoreN X0.here hx rfl (hb hby d7_3) rfl (l' := #[.val (.ref a1), .val (.long (9223372036854775807 : Int64)), .second]) rfl ?_
    show Steps p.tables e below (s₁.setTop (mkF m 4 #[.val (.ref a1), .val (.long (9223372036854775807 : Int64)), .second] [])) _
    refine XS.aloadN X0.here hx rfl (hb hby d7_4) rfl rfl ?_
    show Steps p.tables e below (s₁.setTop (mkF m 5 #[.val (.ref a1), .val (.long (9223372036854775807 : Int64)), .second] [(.ref a1)])) _
    refine st3 _ ?_
    show Steps p.tables e below (T3.setTop (mkF m 8 #[.val (.ref a1), .val (.long (9223372036854775807 : Int64)), .second] [(.long w2)])) _
    refine X3.ldc2Long hx hown (mvT hZ (hw _ (List.mem_of_getElem? (i := 52) rfl))) (g := (mkF m 8 #[.val (.ref a1), .val (.long (9223372036854775807 : Int64)), .second] [(.long w2)])) rfl (hb hby d7_8) _ ?_
    show Steps p.tables e below (T3.setTop (mkF m 11 #[.val (.ref a1), .val (.long (9223372036854775807 : Int64)), .second] [(.long (1844674407370955161 : Int64)), (.long w2)])) _
    refine XS.lcmp X3.here hx rfl (hb hby d7_11) rfl ?_
    show Steps p.tables e below (T3.setTop (mkF m 12 #[.val (.ref a1), .val (.long (9223372036854775807 : Int64)), .second] [(.int (lcmpW w2 (1844674407370955161 : Int64)))])) _
    refine XS.ifYes X3.here hx rfl (pc0 := 12) (pc' := 24) rfl (hb hby d7_12) rfl ((if0 _ _).trans (tlt hc12).2.2.1) (by decide) (by decide) ?_
    show Steps p.tables e below (T3.setTop (mkF m 24 #[.val (.ref a1), .val (.long (9223372036854775807 : Int64)), .second] [])) _
    refine XS.lloadN X3.here hx rfl (hb hby d7_24) rfl ?_
    show Steps p.tables e below (T3.setTop (mkF m 25 #[.val (.ref a1), .val (.long (9223372036854775807 : Int64)), .second] [(.long (9223372036854775807 : Int64))])) _
    exact retOut X3 hx (t := .long) (i := .lreturn) Bd.returns rfl (Or.inr (Or.inl ⟨rfl, rfl, _, rfl⟩)) (hb hby d7_25) hr
  · show QP (some (.long (9223372036854775807 : Int64))) h0 n0 _ T3.heap _
    rw [e3]
    exact ⟨rfl, N0, rfl⟩
theorem pd__JII_J : parseMethodDescriptor "(JII)J" = some ⟨[.long, .int, .int], some .long⟩ := by decide +kernel
theorem pd__I_Lcom_example_horae_horae_model_OverrunPolicy_ : parseMethodDescriptor "(I)Lcom/example/horae/horae/model/OverrunPolicy;" = some ⟨[.int], some (.object "com/example/horae/horae/model/OverrunPolicy")⟩ := by decide +kernel
theorem pd__JJLcom_example_horae_horae_model_OverrunPolicy_Z_V : parseMethodDescriptor "(JJLcom/example/horae/horae/model/OverrunPolicy;Z)V" = some ⟨[.long, .long, (.object "com/example/horae/horae/model/OverrunPolicy"), .boolean], none⟩ := by decide +kernel
theorem pd___J : parseMethodDescriptor "()J" = some ⟨[], some .long⟩ := by decide +kernel
theorem ef_0 (m : MethodId) (x0 : Int64) (x1 : Int64) (x2 : Int32) (x3 : Int32) : entryFrame m #[(.long x0), (.long x1), (.int x2), (.int x3)] maxLocals = mkF m 0 #[.val (.long x0), .second, .val (.long x1), .second, .val (.int x2), .val (.int x3), .unset, .unset, .unset, .unset, .unset, .unset, .unset, .unset, .unset, .unset, .unset] [] := by first | (simp [entryFrame, mkF, argsToLocals, Value.category, maxLocals]; done) | rfl
def QL (n0 : Nat) (v : Option Value) (h : Heap) (L : List Loc) : Prop := v = some (.int (1 : Int32)) ∧ Fr n0 L
set_option maxRecDepth 65536 in
set_option maxHeartbeats 40000000 in
theorem rm0_tf (l : Launch) (Z : State) (a0 : Array Value) (hw : ∀ d ∈ tables_1, d.before a0 Z = true) (ws : List Jvm.Cond) (q1 : Int64) (q2 : Int64) (p3 : Int32) (p4 : Int32) (w3 : Addr) (w4 : Addr) (w5 : Addr) (h0 : Heap) (n0 : Nat) (O0 : Old Z n0 h0) (S_DROP_TICK : Sta Z Z.heap "com/example/horae/horae/model/OverrunPolicy" "DROP_TICK" "Lcom/example/horae/horae/model/OverrunPolicy;" (.ref w3)) (S_SKIP_NEXT : Sta Z Z.heap "com/example/horae/horae/model/OverrunPolicy" "SKIP_NEXT" "Lcom/example/horae/horae/model/OverrunPolicy;" (.ref w4)) (S_CATCH_UP_ONCE : Sta Z Z.heap "com/example/horae/horae/model/OverrunPolicy" "CATCH_UP_ONCE" "Lcom/example/horae/horae/model/OverrunPolicy;" (.ref w5)) (hc34 : ((p4 >>> ((4 : Int32) &&& 31)) &&& (1 : Int32)) = (0 : Int32)) (hc15_7 : ¬ ((lcmpW (own_per q1 p3 (p4 &&& (3 : Int32))) (1 : Int64)) < (0 : Int32))) (hc35_7 : ¬ ((lcmpW (q2 &&& (9223372036854775807 : Int64)) (0 : Int64)) < (0 : Int32))) (hc78 : (lcmpW (((own_per q1 p3 (p4 &&& (3 : Int32))) * (5 : Int64)) / (5 : Int64)) (own_per q1 p3 (p4 &&& (3 : Int32)))) = (0 : Int32)) (hc12_8 : ¬ ((0 : Int32) < (lcmpW (own_per q1 p3 (p4 &&& (3 : Int32))) (1844674407370955161 : Int64)))) (hc99 : (lcmpW ((own_per q1 p3 (p4 &&& (3 : Int32))) * (5 : Int64)) ((own_per q1 p3 (p4 &&& (3 : Int32))) * (5 : Int64))) = (0 : Int32)) :
    MetFree l x (head1 (Jvm.Cond.code x code maxLocals ret :: ws) room_1) (fun a U => a = #[(.long q1), (.long q2), (.int p3), (.int p4)] ∧ Z.Warmed39 U.vm ∧ U.heap = h0) (fun _ _ _ _ _ => True) (fun _ U o U' => ∃ v L, o = .returned v ∧ QL n0 v U'.heap L ∧ ReturnedEndW U o U' L room_1.cells room_1.slots) := by
  refine MetFree.of_bodySF (plainFor_of_name pn_com_example_horae_horae_model_FixedRateStarvationLimitMsPinLaw) hisR ?_
  intro p e s m args below meth c s₁ Bd hml0 hP hK
  obtain ⟨rfl, hZ, hh⟩ := hP
  have hx := Bd.exec
  have hby := Bd.bytes
  have hml : c.maxLocals = 17 := hml0
  have hown : s.vm.findClass "com/example/horae/horae/model/FixedRateStarvationLimitMsPinLaw" = some m.cls := findClass_of_methodNamed Bd.named
  have hnm := (name_of_methodNamed Bd.named Bd.method).1
  have X0 : Stand p l e room_1 s m #[(.long q1), (.long q2), (.int p3), (.int p4)] below meth c s₁ [] 0 0 := Stand.of_body Bd
  have e0 : s₁.heap = h0 := by rw [← hh, Bd.state]; rfl
  have N0 := Fr.nil n0
  have pre0 : ∀ t, Steps p.tables e below (s₁.setTop (mkF m 0 #[.val (.long q1), .second, .val (.long q2), .second, .val (.int p3), .val (.int p4), .unset, .unset, .unset, .unset, .unset, .unset, .unset, .unset, .unset, .unset, .unset] [])) t → Steps p.tables e below (s₁.setTop (entryFrame m #[(.long q1), (.long q2), (.int p3), (.int p4)] maxLocals)) t := fun t k => castTop (ef_0 m q1 q2 p3 p4) k
  have own_wS := own_wS0 hw
  have hS0 : s.Since s.vm 0 := (State.WarmedH.refl s).since 0
  obtain ⟨_, _, ⟨T1, L1, k1, n1⟩, -, X1, ⟨Lc1, hQ1, l1, y1, z1⟩, st1⟩ := Jvm.LawKit.callS X0 hx (y := (⟨"com/example/horae/horae/model/FixedRateStarvationLimitMsPinLaw", "period", "(JII)J"⟩ : MethodName)) hown (mvT hZ (hw _ (List.mem_of_getElem? (i := 0) rfl))) (mvT hZ (hw _ (List.mem_of_getElem? (i := 1) rfl))) (mvT hZ (hw _ (List.mem_of_getElem? (i := 2) rfl))) (mvT hZ (hw _ (List.mem_of_getElem? (i := 3) rfl))) (by decide) (backOf (W := 0) (rm1 l Z a0 hw [] q1 p3 (p4 &&& (3 : Int32)) h0 n0 O0) hZ (hw _ (List.mem_of_getElem? (i := 3) rfl)) (hw _ (List.mem_of_getElem? (i := 2) rfl)) (by decide) (by decide)) (g := (mkF m 7 #[.val (.long q1), .second, .val (.long q2), .second, .val (.int p3), .val (.int p4), .unset, .unset, .unset, .unset, .unset, .unset, .unset, .unset, .unset, .unset, .unset] [(.int (p4 &&& (3 : Int32))), (.int p3), (.long q1)])) rfl (by rw [hml]; rfl) (argsL := [(.long q1), (.int p3), (.int (p4 &&& (3 : Int32)))]) (rest := []) (lenOf pd__JII_J rfl) rfl (by show 2 * 0 + _ ≤ _; exact Nat.le_of_eq rfl) (hb hby at_7) (fun _ _ => ⟨rfl, e0, (by decide : 0 + 0 ≤ _), (by decide : 0 + 0 ≤ _)⟩)
  dsimp only [Pt.U, Pt.locs, Pt.cells, Pt.slots] at X1 l1 y1 z1 st1 hQ1
  subst l1 y1 z1
  obtain ⟨rfl, Nq1, e1⟩ := hQ1
  have N1 := Fr.app N0 Nq1
  obtain ⟨_, _, ⟨T2, L2, k2, n2⟩, -, X2, ⟨Lc2, hQ2, l2, y2, z2⟩, st2⟩ := Jvm.LawKit.callS X1 hx (y := (⟨"com/example/horae/horae/model/FixedRateStarvationLimitMsPinLaw", "policy", "(I)Lcom/example/horae/horae/model/OverrunPolicy;"⟩ : MethodName)) hown (mvT hZ (hw _ (List.mem_of_getElem? (i := 5) rfl))) (mvT hZ (hw _ (List.mem_of_getElem? (i := 6) rfl))) (mvT hZ (hw _ (List.mem_of_getElem? (i := 2) rfl))) (mvT hZ (hw _ (List.mem_of_getElem? (i := 7) rfl))) (by decide) (backOf (W := 0) (rm2 l Z a0 hw [] (p4 >>> ((2 : Int32) &&& 31)) w3 w4 w5 h0 n0 O0 S_DROP_TICK S_SKIP_NEXT S_CATCH_UP_ONCE) hZ (hw _ (List.mem_of_getElem? (i := 7) rfl)) (hw _ (List.mem_of_getElem? (i := 2) rfl)) (by decide) (by decide)) (g := (mkF m 23 #[.val (.long q1), .second, .val (.long q2), .second, .val (.int p3), .val (.int p4), .val (.long (own_per q1 p3 (p4 &&& (3 : Int32)))), .second, .val (.long (q2 &&& (9223372036854775807 : Int64))), .second, .unset, .unset, .unset, .unset, .unset, .unset, .unset] [(.int (p4 >>> ((2 : Int32) &&& 31)))])) rfl (by rw [hml]; rfl) (argsL := [(.int (p4 >>> ((2 : Int32) &&& 31)))]) (rest := []) (lenOf pd__I_Lcom_example_horae_horae_model_OverrunPolicy_ rfl) rfl (by show 2 * 0 + _ ≤ _; exact Nat.le_of_eq rfl) (hb hby at_23) (fun _ _ => ⟨rfl, e1, (by decide : 0 + 0 ≤ _), (by decide : 0 + 0 ≤ _)⟩)
  dsimp only [Pt.U, Pt.locs, Pt.cells, Pt.slots] at X2 l2 y2 z2 st2 hQ2
  subst l2 y2 z2
  obtain ⟨r_2, rfl, Nq2, e2⟩ := hQ2
  have N2 := Fr.app N1 Nq2
  obtain ⟨T6, h6, X6, e6, E6, A6, D6, U6, st6⟩ := newO X2 hx hZ hown (hw _ (List.mem_of_getElem? (i := 11) rfl)) (hw _ (List.mem_of_getElem? (i := 12) rfl)) (hw _ (List.mem_of_getElem? (i := 13) rfl)) e2 (g := (mkF m 44 #[.val (.long q1), .second, .val (.long q2), .second, .val (.int p3), .val (.int p4), .val (.long (own_per q1 p3 (p4 &&& (3 : Int32)))), .second, .val (.long (q2 &&& (9223372036854775807 : Int64))), .second, .val (.ref r_2), .val (.int (0 : Int32)), .unset, .unset, .unset, .unset, .unset] [])) rfl (hb hby at_44) (by decide) (by decide)
  obtain ⟨b6, g6⟩ : ∃ z, z = h0.size := ⟨_, rfl⟩
  rw [← g6] at A6 D6 st6
  have g_b6 : n0 ≤ b6 := Nat.le_trans (Nat.le_of_eq O0.1.symm) (Nat.le_trans O0.2.1 (Nat.le_of_eq g6.symm))
  have sz_b6 : h0.size ≤ b6 := Nat.le_trans (Keep.refl h0 []).1 (Nat.le_of_eq g6.symm)
  have O6 := O0.ext E6
  have K6 : Keep h0 h6 [] := (Keep.refl h0 []).ext E6
  have F_periodMs_b6 : Fld Z h6 b6 "com/example/horae/horae/model/FixedRate" "periodMs" "J" (.long (0 : Int64)) := D6 (Or.inr (hw _ (List.mem_of_getElem? (i := 38) rfl))) (ty := .long) (by decide)
  have F_tickBudgetMs_b6 : Fld Z h6 b6 "com/example/horae/horae/model/FixedRate" "tickBudgetMs" "J" (.long (0 : Int64)) := D6 (Or.inr (hw _ (List.mem_of_getElem? (i := 40) rfl))) (ty := .long) (by decide)
  have F_overrunPolicy_b6 : Fld Z h6 b6 "com/example/horae/horae/model/FixedRate" "overrunPolicy" "Lcom/example/horae/horae/model/OverrunPolicy;" .null := D6 (Or.inr (hw _ (List.mem_of_getElem? (i := 42) rfl))) (ty := (.object "com/example/horae/horae/model/OverrunPolicy")) (by decide)
  have F_wallClockEnabled_b6 : Fld Z h6 b6 "com/example/horae/horae/model/FixedRate" "wallClockEnabled" "Z" (.int (0 : Int32)) := D6 (Or.inr (hw _ (List.mem_of_getElem? (i := 44) rfl))) (ty := .boolean) (by decide)
  obtain ⟨_, _, ⟨T7, L7, k7, n7⟩, -, X7, hSn7, hgr7, ⟨Lc7, hQ7, l7, y7, z7⟩, st7⟩ := (show Stand p l e _ (s.setVm s.vm) m _ below meth c _ _ _ _ from X6).specialBackS hx (y := (⟨"com/example/horae/horae/model/FixedRate", "<init>", "(JJLcom/example/horae/horae/model/OverrunPolicy;Z)V"⟩ : MethodName)) rfl hown (mvT hZ (hw _ (List.mem_of_getElem? (i := 14) rfl))) (mvT hZ (hw _ (List.mem_of_getElem? (i := 15) rfl))) (mvT hZ (hw _ (List.mem_of_getElem? (i := 16) rfl))) (by decide) (backOfS (W := 1) (rm3 l Z a0 hw [] b6 (own_per q1 p3 (p4 &&& (3 : Int32))) (q2 &&& (9223372036854775807 : Int64)) r_2 (0 : Int32) (.long (0 : Int64)) (.long (0 : Int64)) .null (.int (0 : Int32)) h6 n0 O6 A6 F_periodMs_b6 g_b6 F_tickBudgetMs_b6 F_overrunPolicy_b6 F_wallClockEnabled_b6 hc15_7 hc35_7) hZ (hw _ (List.mem_of_getElem? (i := 16) rfl)) (hw _ (List.mem_of_getElem? (i := 13) rfl)) (by decide) (by decide)) (g := (mkF m 56 #[.val (.long q1), .second, .val (.long q2), .second, .val (.int p3), .val (.int p4), .val (.long (own_per q1 p3 (p4 &&& (3 : Int32)))), .second, .val (.long (q2 &&& (9223372036854775807 : Int64))), .second, .val (.ref r_2), .val (.int (0 : Int32)), .unset, .unset, .unset, .unset, .unset] [(.int (0 : Int32)), (.ref r_2), (.long (q2 &&& (9223372036854775807 : Int64))), (.long (own_per q1 p3 (p4 &&& (3 : Int32)))), (.ref b6), (.ref b6)])) rfl (by rw [hml]; rfl) (Steps.refl _) (a := b6) (argsL := [(.long (own_per q1 p3 (p4 &&& (3 : Int32)))), (.long (q2 &&& (9223372036854775807 : Int64))), (.ref r_2), (.int (0 : Int32))]) (rest := [(.ref b6)]) (lenOf pd__JJLcom_example_horae_horae_model_OverrunPolicy_Z_V rfl) rfl (by show 2 * 0 + _ ≤ _; exact Nat.le_of_eq rfl) (hb hby at_56) (fun _ _ => ⟨rfl, e6, (by decide : 1 + 2 ≤ _), (by decide : 4 + 56 ≤ _)⟩)
  dsimp only [Pt.U, Pt.locs, Pt.cells, Pt.slots] at X7 l7 y7 z7 st7 hQ7 hSn7 hgr7
  subst l7 y7 z7
  obtain ⟨X7, hS7, hZ7, hown7⟩ := rebS hS0 (Nat.zero_le _) X7 hSn7 hgr7 hZ hown
  obtain ⟨rfl, Nq7, O7, Kc7, q7_0, q7_1, q7_2, q7_3, q7_4⟩ := hQ7
  have N7 := Fr.app N2 Nq7
  have K7 : Keep h0 T7.heap [] := K6.trans Kc7 (allS (Or.inr sz_b6) all0)
  obtain ⟨cq8, kq8, q8a, q8b, q8c⟩ := isOf hZ7 rfl q7_0
  obtain ⟨_, _, ⟨T8, L8, k8, n8⟩, -, X8, ⟨Lc8, hQ8, l8, y8, z8⟩, st8⟩ := X7.virtualBack hx (y := (⟨"com/example/horae/horae/model/FixedRate", "starvationLimitMs", "()J"⟩ : MethodName)) (z := (⟨"com/example/horae/horae/model/FixedRate", "starvationLimitMs", "()J"⟩ : MethodName)) hown7 (mvT hZ7 (hw _ (List.mem_of_getElem? (i := 46) rfl))) (mvT hZ7 (hw _ (List.mem_of_getElem? (i := 47) rfl))) (notFace_of_selects (args := #[]) (mvT hZ7 (hw _ (List.mem_of_getElem? (i := 49) rfl)))) (mvT hZ7 (hw _ (List.mem_of_getElem? (i := 49) rfl))) (mvT hZ7 (hw _ (List.mem_of_getElem? (i := 48) rfl))) (by decide) (backOf (W := 0) (rm7_f l Z a0 hw [] b6 (own_per q1 p3 (p4 &&& (3 : Int32))) T7.heap n0 O7 q7_1 hc12_8) hZ7 (hw _ (List.mem_of_getElem? (i := 50) rfl)) (hw _ (List.mem_of_getElem? (i := 13) rfl)) (by decide) (by decide)) q8a q8c (g := (mkF m 93 #[.val (.long q1), .second, .val (.long q2), .second, .val (.int p3), .val (.int p4), .val (.long (own_per q1 p3 (p4 &&& (3 : Int32)))), .second, .val (.long (q2 &&& (9223372036854775807 : Int64))), .second, .val (.ref r_2), .val (.int (0 : Int32)), .val (.ref b6), .val (.long ((own_per q1 p3 (p4 &&& (3 : Int32))) * (5 : Int64))), .second, .val (.long ((own_per q1 p3 (p4 &&& (3 : Int32))) * (5 : Int64))), .second] [(.ref b6)])) rfl (by rw [hml]; rfl) (Steps.refl _) (argsL := []) (rest := []) (lenOf pd___J rfl) rfl (by show 2 * 0 + _ ≤ _; exact Nat.le_of_eq rfl) (hb hby at_93) (fun _ _ => ⟨rfl, rfl, (by decide : 3 + 0 ≤ _), (by decide : 60 + 0 ≤ _)⟩)
  dsimp only [Pt.U, Pt.locs, Pt.cells, Pt.slots] at X8 l8 y8 z8 st8 hQ8
  subst l8 y8 z8
  obtain ⟨rfl, Nq8, e8⟩ := hQ8
  have N8 := Fr.app N7 Nq8
  obtain ⟨fs, hr, hrun, hended, hRW⟩ := X8.leaveW hS7 (by rw [e8]; exact (Nat.le_refl _)) (v := some (.int (1 : Int32))) (fun h => by rw [Bd.returns] at h; cases h)
  refine ⟨_, _, pre0 _ ?_, hrun, hended, _, _, rfl, ?_, hRW.1, hRW.2.1, hRW.2.2.1, hRW.2.2.2.mono (by decide) (by decide)⟩
  · show Steps p.tables e below (s₁.setTop (mkF m 0 #[.val (.long q1), .second, .val (.long q2), .second, .val (.int p3), .val (.int p4), .unset, .unset, .unset, .unset, .unset, .unset, .unset, .unset, .unset, .unset, .unset] [])) _
    refine XS.lloadN X0.here hx rfl (hb hby at_0) rfl ?_
    show Steps p.tables e below (s₁.setTop (mkF m 1 #[.val (.long q1), .second, .val (.long q2), .second, .val (.int p3), .val (.int p4), .unset, .unset, .unset, .unset, .unset, .unset, .unset, .unset, .unset, .unset, .unset] [(.long q1)])) _
    refine XS.iload X0.here hx rfl (hb hby at_1) rfl ?_
    show Steps p.tables e below (s₁.setTop (mkF m 3 #[.val (.long q1), .second, .val (.long q2), .second, .val (.int p3), .val (.int p4), .unset, .unset, .unset, .unset, .unset, .unset, .unset, .unset, .unset, .unset, .unset] [(.int p3), (.long q1)])) _
    refine XS.iload X0.here hx rfl (hb hby at_3) rfl ?_
    show Steps p.tables e below (s₁.setTop (mkF m 5 #[.val (.long q1), .second, .val (.long q2), .second, .val (.int p3), .val (.int p4), .unset, .unset, .unset, .unset, .unset, .unset, .unset, .unset, .unset, .unset, .unset] [(.int p4), (.int p3), (.long q1)])) _
    refine XS.iconst X0.here hx rfl (hb hby at_5) ?_
    show Steps p.tables e below (s₁.setTop (mkF m 6 #[.val (.long q1), .second, .val (.long q2), .second, .val (.int p3), .val (.int p4), .unset, .unset, .unset, .unset, .unset, .unset, .unset, .unset, .unset, .unset, .unset] [(.int (3 : Int32)), (.int p4), (.int p3), (.long q1)])) _
    refine XS.iand X0.here hx rfl (hb hby at_6) rfl ?_
    show Steps p.tables e below (s₁.setTop (mkF m 7 #[.val (.long q1), .second, .val (.long q2), .second, .val (.int p3), .val (.int p4), .unset, .unset, .unset, .unset, .unset, .unset, .unset, .unset, .unset, .unset, .unset] [(.int (p4 &&& (3 : Int32))), (.int p3), (.long q1)])) _
    refine st1 _ ?_
    show Steps p.tables e below (T1.setTop (mkF m 10 #[.val (.long q1), .second, .val (.long q2), .second, .val (.int p3), .val (.int p4), .unset, .unset, .unset, .unset, .unset, .unset, .unset, .unset, .unset, .unset, .unset] [(.long (own_per q1 p3 (p4 &&& (3 : Int32))))])) _
    refine XS.lstore X1.here hx rfl (hb hby at_10) rfl (l' := #[.val (.long q1), .second, .val (.long q2), .second, .val (.int p3), .val (.int p4), .val (.long (own_per q1 p3 (p4 &&& (3 : Int32)))), .second, .unset, .unset, .unset, .unset, .unset, .unset, .unset, .unset, .unset]) rfl ?_
    show Steps p.tables e below (T1.setTop (mkF m 12 #[.val (.long q1), .second, .val (.long q2), .second, .val (.int p3), .val (.int p4), .val (.long (own_per q1 p3 (p4 &&& (3 : Int32)))), .second, .unset, .unset, .unset, .unset, .unset, .unset, .unset, .unset, .unset] [])) _
    refine XS.lloadN X1.here hx rfl (hb hby at_12) rfl ?_
    show Steps p.tables e below (T1.setTop (mkF m 13 #[.val (.long q1), .second, .val (.long q2), .second, .val (.int p3), .val (.int p4), .val (.long (own_per q1 p3 (p4 &&& (3 : Int32)))), .second, .unset, .unset, .unset, .unset, .unset, .unset, .unset, .unset, .unset] [(.long q2)])) _
    refine X1.ldc2Long hx hown (mvT hZ (hw _ (List.mem_of_getElem? (i := 4) rfl))) (g := (mkF m 13 #[.val (.long q1), .second, .val (.long q2), .second, .val (.int p3), .val (.int p4), .val (.long (own_per q1 p3 (p4 &&& (3 : Int32)))), .second, .unset, .unset, .unset, .unset, .unset, .unset, .unset, .unset, .unset] [(.long q2)])) rfl (hb hby at_13) _ ?_
    show Steps p.tables e below (T1.setTop (mkF m 16 #[.val (.long q1), .second, .val (.long q2), .second, .val (.int p3), .val (.int p4), .val (.long (own_per q1 p3 (p4 &&& (3 : Int32)))), .second, .unset, .unset, .unset, .unset, .unset, .unset, .unset, .unset, .unset] [(.long (9223372036854775807 : Int64)), (.long q2)])) _
    refine XS.land X1.here hx rfl (hb hby at_16) rfl ?_
    show Steps p.tables e below (T1.setTop (mkF m 17 #[.val (.long q1), .second, .val (.long q2), .second, .val (.int p3), .val (.int p4), .val (.long (own_per q1 p3 (p4 &&& (3 : Int32)))), .second, .unset, .unset, .unset, .unset, .unset, .unset, .unset, .unset, .unset] [(.long (q2 &&& (9223372036854775807 : Int64)))])) _
    refine XS.lstore X1.here hx rfl (hb hby at_17) rfl (l' := #[.val (.long q1), .second, .val (.long q2), .second, .val (.int p3), .val (.int p4), .val (.long (own_per q1 p3 (p4 &&& (3 : Int32)))), .second, .val (.long (q2 &&& (9223372036854775807 : Int64))), .second, .unset, .unset, .unset, .unset, .unset, .unset, .unset]) rfl ?_
    show Steps p.tables e below (T1.setTop (mkF m 19 #[.val (.long q1), .second, .val (.long q2), .second, .val (.int p3), .val (.int p4), .val (.long (own_per q1 p3 (p4 &&& (3 : Int32)))), .second, .val (.long (q2 &&& (9223372036854775807 : Int64))), .second, .unset, .unset, .unset, .unset, .unset, .unset, .unset] [])) _
    refine XS.iload X1.here hx rfl (hb hby at_19) rfl ?_
    show Steps p.tables e below (T1.setTop (mkF m 21 #[.val (.long q1), .second, .val (.long q2), .second, .val (.int p3), .val (.int p4), .val (.long (own_per q1 p3 (p4 &&& (3 : Int32)))), .second, .val (.long (q2 &&& (9223372036854775807 : Int64))), .second, .unset, .unset, .unset, .unset, .unset, .unset, .unset] [(.int p4)])) _
    refine XS.iconst X1.here hx rfl (hb hby at_21) ?_
    show Steps p.tables e below (T1.setTop (mkF m 22 #[.val (.long q1), .second, .val (.long q2), .second, .val (.int p3), .val (.int p4), .val (.long (own_per q1 p3 (p4 &&& (3 : Int32)))), .second, .val (.long (q2 &&& (9223372036854775807 : Int64))), .second, .unset, .unset, .unset, .unset, .unset, .unset, .unset] [(.int (2 : Int32)), (.int p4)])) _
    refine XS.ishr X1.here hx rfl (hb hby at_22) rfl ?_
    show Steps p.tables e below (T1.setTop (mkF m 23 #[.val (.long q1), .second, .val (.long q2), .second, .val (.int p3), .val (.int p4), .val (.long (own_per q1 p3 (p4 &&& (3 : Int32)))), .second, .val (.long (q2 &&& (9223372036854775807 : Int64))), .second, .unset, .unset, .unset, .unset, .unset, .unset, .unset] [(.int (p4 >>> ((2 : Int32) &&& 31)))])) _
    refine st2 _ ?_
    show Steps p.tables e below (T2.setTop (mkF m 26 #[.val (.long q1), .second, .val (.long q2), .second, .val (.int p3), .val (.int p4), .val (.long (own_per q1 p3 (p4 &&& (3 : Int32)))), .second, .val (.long (q2 &&& (9223372036854775807 : Int64))), .second, .unset, .unset, .unset, .unset, .unset, .unset, .unset] [(.ref r_2)])) _
    refine XS.astore X2.here hx rfl (hb hby at_26) rfl rfl (l' := #[.val (.long q1), .second, .val (.long q2), .second, .val (.int p3), .val (.int p4), .val (.long (own_per q1 p3 (p4 &&& (3 : Int32)))), .second, .val (.long (q2 &&& (9223372036854775807 : Int64))), .second, .val (.ref r_2), .unset, .unset, .unset, .unset, .unset, .unset]) rfl ?_
    show Steps p.tables e below (T2.setTop (mkF m 28 #[.val (.long q1), .second, .val (.long q2), .second, .val (.int p3), .val (.int p4), .val (.long (own_per q1 p3 (p4 &&& (3 : Int32)))), .second, .val (.long (q2 &&& (9223372036854775807 : Int64))), .second, .val (.ref r_2), .unset, .unset, .unset, .unset, .unset, .unset] [])) _
    refine XS.iload X2.here hx rfl (hb hby at_28) rfl ?_
    show Steps p.tables e below (T2.setTop (mkF m 30 #[.val (.long q1), .second, .val (.long q2), .second, .val (.int p3), .val (.int p4), .val (.long (own_per q1 p3 (p4 &&& (3 : Int32)))), .second, .val (.long (q2 &&& (9223372036854775807 : Int64))), .second, .val (.ref r_2), .unset, .unset, .unset, .unset, .unset, .unset] [(.int p4)])) _
    refine XS.iconst X2.here hx rfl (hb hby at_30) ?_
    show Steps p.tables e below (T2.setTop (mkF m 31 #[.val (.long q1), .second, .val (.long q2), .second, .val (.int p3), .val (.int p4), .val (.long (own_per q1 p3 (p4 &&& (3 : Int32)))), .second, .val (.long (q2 &&& (9223372036854775807 : Int64))), .second, .val (.ref r_2), .unset, .unset, .unset, .unset, .unset, .unset] [(.int (4 : Int32)), (.int p4)])) _
    refine XS.ishr X2.here hx rfl (hb hby at_31) rfl ?_
    show Steps p.tables e below (T2.setTop (mkF m 32 #[.val (.long q1), .second, .val (.long q2), .second, .val (.int p3), .val (.int p4), .val (.long (own_per q1 p3 (p4 &&& (3 : Int32)))), .second, .val (.long (q2 &&& (9223372036854775807 : Int64))), .second, .val (.ref r_2), .unset, .unset, .unset, .unset, .unset, .unset] [(.int (p4 >>> ((4 : Int32) &&& 31)))])) _
    refine XS.iconst X2.here hx rfl (hb hby at_32) ?_
    show Steps p.tables e below (T2.setTop (mkF m 33 #[.val (.long q1), .second, .val (.long q2), .second, .val (.int p3), .val (.int p4), .val (.long (own_per q1 p3 (p4 &&& (3 : Int32)))), .second, .val (.long (q2 &&& (9223372036854775807 : Int64))), .second, .val (.ref r_2), .unset, .unset, .unset, .unset, .unset, .unset] [(.int (1 : Int32)), (.int (p4 >>> ((4 : Int32) &&& 31)))])) _
    refine XS.iand X2.here hx rfl (hb hby at_33) rfl ?_
    show Steps p.tables e below (T2.setTop (mkF m 34 #[.val (.long q1), .second, .val (.long q2), .second, .val (.int p3), .val (.int p4), .val (.long (own_per q1 p3 (p4 &&& (3 : Int32)))), .second, .val (.long (q2 &&& (9223372036854775807 : Int64))), .second, .val (.ref r_2), .unset, .unset, .unset, .unset, .unset, .unset] [(.int ((p4 >>> ((4 : Int32) &&& 31)) &&& (1 : Int32)))])) _
    refine XS.ifYes X2.here hx rfl (pc0 := 34) (pc' := 41) rfl (hb hby at_34) rfl ((if0 _ _).trans (teq hc34).1) (by decide) (by decide) ?_
    show Steps p.tables e below (T2.setTop (mkF m 41 #[.val (.long q1), .second, .val (.long q2), .second, .val (.int p3), .val (.int p4), .val (.long (own_per q1 p3 (p4 &&& (3 : Int32)))), .second, .val (.long (q2 &&& (9223372036854775807 : Int64))), .second, .val (.ref r_2), .unset, .unset, .unset, .unset, .unset, .unset] [])) _
    refine XS.iconst X2.here hx rfl (hb hby at_41) ?_
    show Steps p.tables e below (T2.setTop (mkF m 42 #[.val (.long q1), .second, .val (.long q2), .second, .val (.int p3), .val (.int p4), .val (.long (own_per q1 p3 (p4 &&& (3 : Int32)))), .second, .val (.long (q2 &&& (9223372036854775807 : Int64))), .second, .val (.ref r_2), .unset, .unset, .unset, .unset, .unset, .unset] [(.int (0 : Int32))])) _
    refine XS.istore X2.here hx rfl (hb hby at_42) rfl (l' := #[.val (.long q1), .second, .val (.long q2), .second, .val (.int p3), .val (.int p4), .val (.long (own_per q1 p3 (p4 &&& (3 : Int32)))), .second, .val (.long (q2 &&& (9223372036854775807 : Int64))), .second, .val (.ref r_2), .val (.int (0 : Int32)), .unset, .unset, .unset, .unset, .unset]) rfl ?_
    show Steps p.tables e below (T2.setTop (mkF m 44 #[.val (.long q1), .second, .val (.long q2), .second, .val (.int p3), .val (.int p4), .val (.long (own_per q1 p3 (p4 &&& (3 : Int32)))), .second, .val (.long (q2 &&& (9223372036854775807 : Int64))), .second, .val (.ref r_2), .val (.int (0 : Int32)), .unset, .unset, .unset, .unset, .unset] [])) _
    refine st6 _ ?_
    show Steps p.tables e below (T6.setTop (mkF m 47 #[.val (.long q1), .second, .val (.long q2), .second, .val (.int p3), .val (.int p4), .val (.long (own_per q1 p3 (p4 &&& (3 : Int32)))), .second, .val (.long (q2 &&& (9223372036854775807 : Int64))), .second, .val (.ref r_2), .val (.int (0 : Int32)), .unset, .unset, .unset, .unset, .unset] [(.ref b6)])) _
    refine XS.dup X6.here hx rfl (hb hby at_47) rfl rfl ?_
    show Steps p.tables e below (T6.setTop (mkF m 48 #[.val (.long q1), .second, .val (.long q2), .second, .val (.int p3), .val (.int p4), .val (.long (own_per q1 p3 (p4 &&& (3 : Int32)))), .second, .val (.long (q2 &&& (9223372036854775807 : Int64))), .second, .val (.ref r_2), .val (.int (0 : Int32)), .unset, .unset, .unset, .unset, .unset] [(.ref b6), (.ref b6)])) _
    refine XS.lload X6.here hx rfl (hb hby at_48) rfl ?_
    show Steps p.tables e below (T6.setTop (mkF m 50 #[.val (.long q1), .second, .val (.long q2), .second, .val (.int p3), .val (.int p4), .val (.long (own_per q1 p3 (p4 &&& (3 : Int32)))), .second, .val (.long (q2 &&& (9223372036854775807 : Int64))), .second, .val (.ref r_2), .val (.int (0 : Int32)), .unset, .unset, .unset, .unset, .unset] [(.long (own_per q1 p3 (p4 &&& (3 : Int32)))), (.ref b6), (.ref b6)])) _
    refine XS.lload X6.here hx rfl (hb hby at_50) rfl ?_
    show Steps p.tables e below (T6.setTop (mkF m 52 #[.val (.long q1), .second, .val (.long q2), .second, .val (.int p3), .val (.int p4), .val (.long (own_per q1 p3 (p4 &&& (3 : Int32)))), .second, .val (.long (q2 &&& (9223372036854775807 : Int64))), .second, .val (.ref r_2), .val (.int (0 : Int32)), .unset, .unset, .unset, .unset, .unset] [(.long (q2 &&& (9223372036854775807 : Int64))), (.long (own_per q1 p3 (p4 &&& (3 : Int32)))), (.ref b6), (.ref b6)])) _
    refine XS.aload X6.here hx rfl (hb hby at_52) rfl rfl ?_
    show Steps p.tables e below (T6.setTop (mkF m 54 #[.val (.long q1), .second, .val (.long q2), .second, .val (.int p3), .val (.int p4), .val (.long (own_per q1 p3 (p4 &&& (3 : Int32)))), .second, .val (.long (q2 &&& (9223372036854775807 : Int64))), .second, .val (.ref r_2), .val (.int (0 : Int32)), .unset, .unset, .unset, .unset, .unset] [(.ref r_2), (.long (q2 &&& (9223372036854775807 : Int64))), (.long (own_per q1 p3 (p4 &&& (3 : Int32)))), (.ref b6), (.ref b6)])) _
    refine XS.iload X6.here hx rfl (hb hby at_54) rfl ?_
    show Steps p.tables e below (T6.setTop (mkF m 56 #[.val (.long q1), .second, .val (.long q2), .second, .val (.int p3), .val (.int p4), .val (.long (own_per q1 p3 (p4 &&& (3 : Int32)))), .second, .val (.long (q2 &&& (9223372036854775807 : Int64))), .second, .val (.ref r_2), .val (.int (0 : Int32)), .unset, .unset, .unset, .unset, .unset] [(.int (0 : Int32)), (.ref r_2), (.long (q2 &&& (9223372036854775807 : Int64))), (.long (own_per q1 p3 (p4 &&& (3 : Int32)))), (.ref b6), (.ref b6)])) _
    refine st7.trans ?_
    show Steps p.tables e below (T7.setTop (mkF m 59 #[.val (.long q1), .second, .val (.long q2), .second, .val (.int p3), .val (.int p4), .val (.long (own_per q1 p3 (p4 &&& (3 : Int32)))), .second, .val (.long (q2 &&& (9223372036854775807 : Int64))), .second, .val (.ref r_2), .val (.int (0 : Int32)), .unset, .unset, .unset, .unset, .unset] [(.ref b6)])) _
    refine XS.astore X7.here hx rfl (hb hby at_59) rfl rfl (l' := #[.val (.long q1), .second, .val (.long q2), .second, .val (.int p3), .val (.int p4), .val (.long (own_per q1 p3 (p4 &&& (3 : Int32)))), .second, .val (.long (q2 &&& (9223372036854775807 : Int64))), .second, .val (.ref r_2), .val (.int (0 : Int32)), .val (.ref b6), .unset, .unset, .unset, .unset]) rfl ?_
    show Steps p.tables e below (T7.setTop (mkF m 61 #[.val (.long q1), .second, .val (.long q2), .second, .val (.int p3), .val (.int p4), .val (.long (own_per q1 p3 (p4 &&& (3 : Int32)))), .second, .val (.long (q2 &&& (9223372036854775807 : Int64))), .second, .val (.ref r_2), .val (.int (0 : Int32)), .val (.ref b6), .unset, .unset, .unset, .unset] [])) _
    refine XS.lload X7.here hx rfl (hb hby at_61) rfl ?_
    show Steps p.tables e below (T7.setTop (mkF m 63 #[.val (.long q1), .second, .val (.long q2), .second, .val (.int p3), .val (.int p4), .val (.long (own_per q1 p3 (p4 &&& (3 : Int32)))), .second, .val (.long (q2 &&& (9223372036854775807 : Int64))), .second, .val (.ref r_2), .val (.int (0 : Int32)), .val (.ref b6), .unset, .unset, .unset, .unset] [(.long (own_per q1 p3 (p4 &&& (3 : Int32))))])) _
    refine X7.ldc2Long hx hown7 (mvT hZ7 (hw _ (List.mem_of_getElem? (i := 45) rfl))) (g := (mkF m 63 #[.val (.long q1), .second, .val (.long q2), .second, .val (.int p3), .val (.int p4), .val (.long (own_per q1 p3 (p4 &&& (3 : Int32)))), .second, .val (.long (q2 &&& (9223372036854775807 : Int64))), .second, .val (.ref r_2), .val (.int (0 : Int32)), .val (.ref b6), .unset, .unset, .unset, .unset] [(.long (own_per q1 p3 (p4 &&& (3 : Int32))))])) rfl (hb hby at_63) _ ?_
    show Steps p.tables e below (T7.setTop (mkF m 66 #[.val (.long q1), .second, .val (.long q2), .second, .val (.int p3), .val (.int p4), .val (.long (own_per q1 p3 (p4 &&& (3 : Int32)))), .second, .val (.long (q2 &&& (9223372036854775807 : Int64))), .second, .val (.ref r_2), .val (.int (0 : Int32)), .val (.ref b6), .unset, .unset, .unset, .unset] [(.long (5 : Int64)), (.long (own_per q1 p3 (p4 &&& (3 : Int32))))])) _
    refine XS.lmul X7.here hx rfl (hb hby at_66) rfl ?_
    show Steps p.tables e below (T7.setTop (mkF m 67 #[.val (.long q1), .second, .val (.long q2), .second, .val (.int p3), .val (.int p4), .val (.long (own_per q1 p3 (p4 &&& (3 : Int32)))), .second, .val (.long (q2 &&& (9223372036854775807 : Int64))), .second, .val (.ref r_2), .val (.int (0 : Int32)), .val (.ref b6), .unset, .unset, .unset, .unset] [(.long ((own_per q1 p3 (p4 &&& (3 : Int32))) * (5 : Int64)))])) _
    refine XS.lstore X7.here hx rfl (hb hby at_67) rfl (l' := #[.val (.long q1), .second, .val (.long q2), .second, .val (.int p3), .val (.int p4), .val (.long (own_per q1 p3 (p4 &&& (3 : Int32)))), .second, .val (.long (q2 &&& (9223372036854775807 : Int64))), .second, .val (.ref r_2), .val (.int (0 : Int32)), .val (.ref b6), .val (.long ((own_per q1 p3 (p4 &&& (3 : Int32))) * (5 : Int64))), .second, .unset, .unset]) rfl ?_
    show Steps p.tables e below (T7.setTop (mkF m 69 #[.val (.long q1), .second, .val (.long q2), .second, .val (.int p3), .val (.int p4), .val (.long (own_per q1 p3 (p4 &&& (3 : Int32)))), .second, .val (.long (q2 &&& (9223372036854775807 : Int64))), .second, .val (.ref r_2), .val (.int (0 : Int32)), .val (.ref b6), .val (.long ((own_per q1 p3 (p4 &&& (3 : Int32))) * (5 : Int64))), .second, .unset, .unset] [])) _
    refine XS.lload X7.here hx rfl (hb hby at_69) rfl ?_
    show Steps p.tables e below (T7.setTop (mkF m 71 #[.val (.long q1), .second, .val (.long q2), .second, .val (.int p3), .val (.int p4), .val (.long (own_per q1 p3 (p4 &&& (3 : Int32)))), .second, .val (.long (q2 &&& (9223372036854775807 : Int64))), .second, .val (.ref r_2), .val (.int (0 : Int32)), .val (.ref b6), .val (.long ((own_per q1 p3 (p4 &&& (3 : Int32))) * (5 : Int64))), .second, .unset, .unset] [(.long ((own_per q1 p3 (p4 &&& (3 : Int32))) * (5 : Int64)))])) _
    refine X7.ldc2Long hx hown7 (mvT hZ7 (hw _ (List.mem_of_getElem? (i := 45) rfl))) (g := (mkF m 71 #[.val (.long q1), .second, .val (.long q2), .second, .val (.int p3), .val (.int p4), .val (.long (own_per q1 p3 (p4 &&& (3 : Int32)))), .second, .val (.long (q2 &&& (9223372036854775807 : Int64))), .second, .val (.ref r_2), .val (.int (0 : Int32)), .val (.ref b6), .val (.long ((own_per q1 p3 (p4 &&& (3 : Int32))) * (5 : Int64))), .second, .unset, .unset] [(.long ((own_per q1 p3 (p4 &&& (3 : Int32))) * (5 : Int64)))])) rfl (hb hby at_71) _ ?_
    show Steps p.tables e below (T7.setTop (mkF m 74 #[.val (.long q1), .second, .val (.long q2), .second, .val (.int p3), .val (.int p4), .val (.long (own_per q1 p3 (p4 &&& (3 : Int32)))), .second, .val (.long (q2 &&& (9223372036854775807 : Int64))), .second, .val (.ref r_2), .val (.int (0 : Int32)), .val (.ref b6), .val (.long ((own_per q1 p3 (p4 &&& (3 : Int32))) * (5 : Int64))), .second, .unset, .unset] [(.long (5 : Int64)), (.long ((own_per q1 p3 (p4 &&& (3 : Int32))) * (5 : Int64)))])) _
    refine XS.ldiv X7.here hx rfl (hb hby at_74) rfl (by decide) ?_
    show Steps p.tables e below (T7.setTop (mkF m 75 #[.val (.long q1), .second, .val (.long q2), .second, .val (.int p3), .val (.int p4), .val (.long (own_per q1 p3 (p4 &&& (3 : Int32)))), .second, .val (.long (q2 &&& (9223372036854775807 : Int64))), .second, .val (.ref r_2), .val (.int (0 : Int32)), .val (.ref b6), .val (.long ((own_per q1 p3 (p4 &&& (3 : Int32))) * (5 : Int64))), .second, .unset, .unset] [(.long (((own_per q1 p3 (p4 &&& (3 : Int32))) * (5 : Int64)) / (5 : Int64)))])) _
    refine XS.lload X7.here hx rfl (hb hby at_75) rfl ?_
    show Steps p.tables e below (T7.setTop (mkF m 77 #[.val (.long q1), .second, .val (.long q2), .second, .val (.int p3), .val (.int p4), .val (.long (own_per q1 p3 (p4 &&& (3 : Int32)))), .second, .val (.long (q2 &&& (9223372036854775807 : Int64))), .second, .val (.ref r_2), .val (.int (0 : Int32)), .val (.ref b6), .val (.long ((own_per q1 p3 (p4 &&& (3 : Int32))) * (5 : Int64))), .second, .unset, .unset] [(.long (own_per q1 p3 (p4 &&& (3 : Int32)))), (.long (((own_per q1 p3 (p4 &&& (3 : Int32))) * (5 : Int64)) / (5 : Int64)))])) _
    refine XS.lcmp X7.here hx rfl (hb hby at_77) rfl ?_
    show Steps p.tables e below (T7.setTop (mkF m 78 #[.val (.long q1), .second, .val (.long q2), .second, .val (.int p3), .val (.int p4), .val (.long (own_per q1 p3 (p4 &&& (3 : Int32)))), .second, .val (.long (q2 &&& (9223372036854775807 : Int64))), .second, .val (.ref r_2), .val (.int (0 : Int32)), .val (.ref b6), .val (.long ((own_per q1 p3 (p4 &&& (3 : Int32))) * (5 : Int64))), .second, .unset, .unset] [(.int (lcmpW (((own_per q1 p3 (p4 &&& (3 : Int32))) * (5 : Int64)) / (5 : Int64)) (own_per q1 p3 (p4 &&& (3 : Int32)))))])) _
    refine XS.ifNo X7.here hx rfl (hb hby at_78) rfl ((if0 _ _).trans (teq hc78).2) ?_
    show Steps p.tables e below (T7.setTop (mkF m 81 #[.val (.long q1), .second, .val (.long q2), .second, .val (.int p3), .val (.int p4), .val (.long (own_per q1 p3 (p4 &&& (3 : Int32)))), .second, .val (.long (q2 &&& (9223372036854775807 : Int64))), .second, .val (.ref r_2), .val (.int (0 : Int32)), .val (.ref b6), .val (.long ((own_per q1 p3 (p4 &&& (3 : Int32))) * (5 : Int64))), .second, .unset, .unset] [])) _
    refine XS.lload X7.here hx rfl (hb hby at_81) rfl ?_
    show Steps p.tables e below (T7.setTop (mkF m 83 #[.val (.long q1), .second, .val (.long q2), .second, .val (.int p3), .val (.int p4), .val (.long (own_per q1 p3 (p4 &&& (3 : Int32)))), .second, .val (.long (q2 &&& (9223372036854775807 : Int64))), .second, .val (.ref r_2), .val (.int (0 : Int32)), .val (.ref b6), .val (.long ((own_per q1 p3 (p4 &&& (3 : Int32))) * (5 : Int64))), .second, .unset, .unset] [(.long ((own_per q1 p3 (p4 &&& (3 : Int32))) * (5 : Int64)))])) _
    refine XS.goto X7.here hx rfl (pc0 := 83) (pc' := 89) rfl (hb hby at_83) (by decide) (by decide) ?_
    show Steps p.tables e below (T7.setTop (mkF m 89 #[.val (.long q1), .second, .val (.long q2), .second, .val (.int p3), .val (.int p4), .val (.long (own_per q1 p3 (p4 &&& (3 : Int32)))), .second, .val (.long (q2 &&& (9223372036854775807 : Int64))), .second, .val (.ref r_2), .val (.int (0 : Int32)), .val (.ref b6), .val (.long ((own_per q1 p3 (p4 &&& (3 : Int32))) * (5 : Int64))), .second, .unset, .unset] [(.long ((own_per q1 p3 (p4 &&& (3 : Int32))) * (5 : Int64)))])) _
    refine XS.lstore X7.here hx rfl (hb hby at_89) rfl (l' := #[.val (.long q1), .second, .val (.long q2), .second, .val (.int p3), .val (.int p4), .val (.long (own_per q1 p3 (p4 &&& (3 : Int32)))), .second, .val (.long (q2 &&& (9223372036854775807 : Int64))), .second, .val (.ref r_2), .val (.int (0 : Int32)), .val (.ref b6), .val (.long ((own_per q1 p3 (p4 &&& (3 : Int32))) * (5 : Int64))), .second, .val (.long ((own_per q1 p3 (p4 &&& (3 : Int32))) * (5 : Int64))), .second]) rfl ?_
    show Steps p.tables e below (T7.setTop (mkF m 91 #[.val (.long q1), .second, .val (.long q2), .second, .val (.int p3), .val (.int p4), .val (.long (own_per q1 p3 (p4 &&& (3 : Int32)))), .second, .val (.long (q2 &&& (9223372036854775807 : Int64))), .second, .val (.ref r_2), .val (.int (0 : Int32)), .val (.ref b6), .val (.long ((own_per q1 p3 (p4 &&& (3 : Int32))) * (5 : Int64))), .second, .val (.long ((own_per q1 p3 (p4 &&& (3 : Int32))) * (5 : Int64))), .second] [])) _
    refine XS.aload X7.here hx rfl (hb hby at_91) rfl rfl ?_
    show Steps p.tables e below (T7.setTop (mkF m 93 #[.val (.long q1), .second, .val (.long q2), .second, .val (.int p3), .val (.int p4), .val (.long (own_per q1 p3 (p4 &&& (3 : Int32)))), .second, .val (.long (q2 &&& (9223372036854775807 : Int64))), .second, .val (.ref r_2), .val (.int (0 : Int32)), .val (.ref b6), .val (.long ((own_per q1 p3 (p4 &&& (3 : Int32))) * (5 : Int64))), .second, .val (.long ((own_per q1 p3 (p4 &&& (3 : Int32))) * (5 : Int64))), .second] [(.ref b6)])) _
    refine st8.trans ?_
    show Steps p.tables e below (T8.setTop (mkF m 96 #[.val (.long q1), .second, .val (.long q2), .second, .val (.int p3), .val (.int p4), .val (.long (own_per q1 p3 (p4 &&& (3 : Int32)))), .second, .val (.long (q2 &&& (9223372036854775807 : Int64))), .second, .val (.ref r_2), .val (.int (0 : Int32)), .val (.ref b6), .val (.long ((own_per q1 p3 (p4 &&& (3 : Int32))) * (5 : Int64))), .second, .val (.long ((own_per q1 p3 (p4 &&& (3 : Int32))) * (5 : Int64))), .second] [(.long ((own_per q1 p3 (p4 &&& (3 : Int32))) * (5 : Int64)))])) _
    refine XS.lload X8.here hx rfl (hb hby at_96) rfl ?_
    show Steps p.tables e below (T8.setTop (mkF m 98 #[.val (.long q1), .second, .val (.long q2), .second, .val (.int p3), .val (.int p4), .val (.long (own_per q1 p3 (p4 &&& (3 : Int32)))), .second, .val (.long (q2 &&& (9223372036854775807 : Int64))), .second, .val (.ref r_2), .val (.int (0 : Int32)), .val (.ref b6), .val (.long ((own_per q1 p3 (p4 &&& (3 : Int32))) * (5 : Int64))), .second, .val (.long ((own_per q1 p3 (p4 &&& (3 : Int32))) * (5 : Int64))), .second] [(.long ((own_per q1 p3 (p4 &&& (3 : Int32))) * (5 : Int64))), (.long ((own_per q1 p3 (p4 &&& (3 : Int32))) * (5 : Int64)))])) _
    refine XS.lcmp X8.here hx rfl (hb hby at_98) rfl ?_
    show Steps p.tables e below (T8.setTop (mkF m 99 #[.val (.long q1), .second, .val (.long q2), .second, .val (.int p3), .val (.int p4), .val (.long (own_per q1 p3 (p4 &&& (3 : Int32)))), .second, .val (.long (q2 &&& (9223372036854775807 : Int64))), .second, .val (.ref r_2), .val (.int (0 : Int32)), .val (.ref b6), .val (.long ((own_per q1 p3 (p4 &&& (3 : Int32))) * (5 : Int64))), .second, .val (.long ((own_per q1 p3 (p4 &&& (3 : Int32))) * (5 : Int64))), .second] [(.int (lcmpW ((own_per q1 p3 (p4 &&& (3 : Int32))) * (5 : Int64)) ((own_per q1 p3 (p4 &&& (3 : Int32))) * (5 : Int64))))])) _
    refine XS.ifNo X8.here hx rfl (hb hby at_99) rfl ((if0 _ _).trans (teq hc99).2) ?_
    show Steps p.tables e below (T8.setTop (mkF m 102 #[.val (.long q1), .second, .val (.long q2), .second, .val (.int p3), .val (.int p4), .val (.long (own_per q1 p3 (p4 &&& (3 : Int32)))), .second, .val (.long (q2 &&& (9223372036854775807 : Int64))), .second, .val (.ref r_2), .val (.int (0 : Int32)), .val (.ref b6), .val (.long ((own_per q1 p3 (p4 &&& (3 : Int32))) * (5 : Int64))), .second, .val (.long ((own_per q1 p3 (p4 &&& (3 : Int32))) * (5 : Int64))), .second] [])) _
    refine XS.iconst X8.here hx rfl (hb hby at_102) ?_
    show Steps p.tables e below (T8.setTop (mkF m 103 #[.val (.long q1), .second, .val (.long q2), .second, .val (.int p3), .val (.int p4), .val (.long (own_per q1 p3 (p4 &&& (3 : Int32)))), .second, .val (.long (q2 &&& (9223372036854775807 : Int64))), .second, .val (.ref r_2), .val (.int (0 : Int32)), .val (.ref b6), .val (.long ((own_per q1 p3 (p4 &&& (3 : Int32))) * (5 : Int64))), .second, .val (.long ((own_per q1 p3 (p4 &&& (3 : Int32))) * (5 : Int64))), .second] [(.int (1 : Int32))])) _
    refine XS.goto X8.here hx rfl (pc0 := 103) (pc' := 107) rfl (hb hby at_103) (by decide) (by decide) ?_
    show Steps p.tables e below (T8.setTop (mkF m 107 #[.val (.long q1), .second, .val (.long q2), .second, .val (.int p3), .val (.int p4), .val (.long (own_per q1 p3 (p4 &&& (3 : Int32)))), .second, .val (.long (q2 &&& (9223372036854775807 : Int64))), .second, .val (.ref r_2), .val (.int (0 : Int32)), .val (.ref b6), .val (.long ((own_per q1 p3 (p4 &&& (3 : Int32))) * (5 : Int64))), .second, .val (.long ((own_per q1 p3 (p4 &&& (3 : Int32))) * (5 : Int64))), .second] [(.int (1 : Int32))])) _
    exact retN X8 hx (t := .boolean) Bd.returns (by simp) (hb hby at_107) hr
  · show QL n0 _ T8.heap _
    rw [e8]
    exact ⟨rfl, N8⟩
set_option maxRecDepth 65536 in
set_option maxHeartbeats 40000000 in
theorem rm0_tt (l : Launch) (Z : State) (a0 : Array Value) (hw : ∀ d ∈ tables_1, d.before a0 Z = true) (ws : List Jvm.Cond) (q1 : Int64) (q2 : Int64) (p3 : Int32) (p4 : Int32) (w3 : Addr) (w4 : Addr) (w5 : Addr) (h0 : Heap) (n0 : Nat) (O0 : Old Z n0 h0) (S_DROP_TICK : Sta Z Z.heap "com/example/horae/horae/model/OverrunPolicy" "DROP_TICK" "Lcom/example/horae/horae/model/OverrunPolicy;" (.ref w3)) (S_SKIP_NEXT : Sta Z Z.heap "com/example/horae/horae/model/OverrunPolicy" "SKIP_NEXT" "Lcom/example/horae/horae/model/OverrunPolicy;" (.ref w4)) (S_CATCH_UP_ONCE : Sta Z Z.heap "com/example/horae/horae/model/OverrunPolicy" "CATCH_UP_ONCE" "Lcom/example/horae/horae/model/OverrunPolicy;" (.ref w5)) (hc34 : ((p4 >>> ((4 : Int32) &&& 31)) &&& (1 : Int32)) = (0 : Int32)) (hc15_7 : ¬ ((lcmpW (own_per q1 p3 (p4 &&& (3 : Int32))) (1 : Int64)) < (0 : Int32))) (hc35_7 : ¬ ((lcmpW (q2 &&& (9223372036854775807 : Int64)) (0 : Int64)) < (0 : Int32))) (hc78 : ¬ ((lcmpW (((own_per q1 p3 (p4 &&& (3 : Int32))) * (5 : Int64)) / (5 : Int64)) (own_per q1 p3 (p4 &&& (3 : Int32)))) = (0 : Int32))) (hc12_8 : (0 : Int32) < (lcmpW (own_per q1 p3 (p4 &&& (3 : Int32))) (1844674407370955161 : Int64))) (hc99 : (lcmpW (9223372036854775807 : Int64) (9223372036854775807 : Int64)) = (0 : Int32)) :
    MetFree l x (head1 (Jvm.Cond.code x code maxLocals ret :: ws) room_1) (fun a U => a = #[(.long q1), (.long q2), (.int p3), (.int p4)] ∧ Z.Warmed39 U.vm ∧ U.heap = h0) (fun _ _ _ _ _ => True) (fun _ U o U' => ∃ v L, o = .returned v ∧ QL n0 v U'.heap L ∧ ReturnedEndW U o U' L room_1.cells room_1.slots) := by
  refine MetFree.of_bodySF (plainFor_of_name pn_com_example_horae_horae_model_FixedRateStarvationLimitMsPinLaw) hisR ?_
  intro p e s m args below meth c s₁ Bd hml0 hP hK
  obtain ⟨rfl, hZ, hh⟩ := hP
  have hx := Bd.exec
  have hby := Bd.bytes
  have hml : c.maxLocals = 17 := hml0
  have hown : s.vm.findClass "com/example/horae/horae/model/FixedRateStarvationLimitMsPinLaw" = some m.cls := findClass_of_methodNamed Bd.named
  have hnm := (name_of_methodNamed Bd.named Bd.method).1
  have X0 : Stand p l e room_1 s m #[(.long q1), (.long q2), (.int p3), (.int p4)] below meth c s₁ [] 0 0 := Stand.of_body Bd
  have e0 : s₁.heap = h0 := by rw [← hh, Bd.state]; rfl
  have N0 := Fr.nil n0
  have pre0 : ∀ t, Steps p.tables e below (s₁.setTop (mkF m 0 #[.val (.long q1), .second, .val (.long q2), .second, .val (.int p3), .val (.int p4), .unset, .unset, .unset, .unset, .unset, .unset, .unset, .unset, .unset, .unset, .unset] [])) t → Steps p.tables e below (s₁.setTop (entryFrame m #[(.long q1), (.long q2), (.int p3), (.int p4)] maxLocals)) t := fun t k => castTop (ef_0 m q1 q2 p3 p4) k
  have own_wS := own_wS0 hw
  have hS0 : s.Since s.vm 0 := (State.WarmedH.refl s).since 0
  obtain ⟨_, _, ⟨T1, L1, k1, n1⟩, -, X1, ⟨Lc1, hQ1, l1, y1, z1⟩, st1⟩ := Jvm.LawKit.callS X0 hx (y := (⟨"com/example/horae/horae/model/FixedRateStarvationLimitMsPinLaw", "period", "(JII)J"⟩ : MethodName)) hown (mvT hZ (hw _ (List.mem_of_getElem? (i := 0) rfl))) (mvT hZ (hw _ (List.mem_of_getElem? (i := 1) rfl))) (mvT hZ (hw _ (List.mem_of_getElem? (i := 2) rfl))) (mvT hZ (hw _ (List.mem_of_getElem? (i := 3) rfl))) (by decide) (backOf (W := 0) (rm1 l Z a0 hw [] q1 p3 (p4 &&& (3 : Int32)) h0 n0 O0) hZ (hw _ (List.mem_of_getElem? (i := 3) rfl)) (hw _ (List.mem_of_getElem? (i := 2) rfl)) (by decide) (by decide)) (g := (mkF m 7 #[.val (.long q1), .second, .val (.long q2), .second, .val (.int p3), .val (.int p4), .unset, .unset, .unset, .unset, .unset, .unset, .unset, .unset, .unset, .unset, .unset] [(.int (p4 &&& (3 : Int32))), (.int p3), (.long q1)])) rfl (by rw [hml]; rfl) (argsL := [(.long q1), (.int p3), (.int (p4 &&& (3 : Int32)))]) (rest := []) (lenOf pd__JII_J rfl) rfl (by show 2 * 0 + _ ≤ _; exact Nat.le_of_eq rfl) (hb hby at_7) (fun _ _ => ⟨rfl, e0, (by decide : 0 + 0 ≤ _), (by decide : 0 + 0 ≤ _)⟩)
  dsimp only [Pt.U, Pt.locs, Pt.cells, Pt.slots] at X1 l1 y1 z1 st1 hQ1
  subst l1 y1 z1
  obtain ⟨rfl, Nq1, e1⟩ := hQ1
  have N1 := Fr.app N0 Nq1
  obtain ⟨_, _, ⟨T2, L2, k2, n2⟩, -, X2, ⟨Lc2, hQ2, l2, y2, z2⟩, st2⟩ := Jvm.LawKit.callS X1 hx (y := (⟨"com/example/horae/horae/model/FixedRateStarvationLimitMsPinLaw", "policy", "(I)Lcom/example/horae/horae/model/OverrunPolicy;"⟩ : MethodName)) hown (mvT hZ (hw _ (List.mem_of_getElem? (i := 5) rfl))) (mvT hZ (hw _ (List.mem_of_getElem? (i := 6) rfl))) (mvT hZ (hw _ (List.mem_of_getElem? (i := 2) rfl))) (mvT hZ (hw _ (List.mem_of_getElem? (i := 7) rfl))) (by decide) (backOf (W := 0) (rm2 l Z a0 hw [] (p4 >>> ((2 : Int32) &&& 31)) w3 w4 w5 h0 n0 O0 S_DROP_TICK S_SKIP_NEXT S_CATCH_UP_ONCE) hZ (hw _ (List.mem_of_getElem? (i := 7) rfl)) (hw _ (List.mem_of_getElem? (i := 2) rfl)) (by decide) (by decide)) (g := (mkF m 23 #[.val (.long q1), .second, .val (.long q2), .second, .val (.int p3), .val (.int p4), .val (.long (own_per q1 p3 (p4 &&& (3 : Int32)))), .second, .val (.long (q2 &&& (9223372036854775807 : Int64))), .second, .unset, .unset, .unset, .unset, .unset, .unset, .unset] [(.int (p4 >>> ((2 : Int32) &&& 31)))])) rfl (by rw [hml]; rfl) (argsL := [(.int (p4 >>> ((2 : Int32) &&& 31)))]) (rest := []) (lenOf pd__I_Lcom_example_horae_horae_model_OverrunPolicy_ rfl) rfl (by show 2 * 0 + _ ≤ _; exact Nat.le_of_eq rfl) (hb hby at_23) (fun _ _ => ⟨rfl, e1, (by decide : 0 + 0 ≤ _), (by decide : 0 + 0 ≤ _)⟩)
  dsimp only [Pt.U, Pt.locs, Pt.cells, Pt.slots] at X2 l2 y2 z2 st2 hQ2
  subst l2 y2 z2
  obtain ⟨r_2, rfl, Nq2, e2⟩ := hQ2
  have N2 := Fr.app N1 Nq2
  obtain ⟨T6, h6, X6, e6, E6, A6, D6, U6, st6⟩ := newO X2 hx hZ hown (hw _ (List.mem_of_getElem? (i := 11) rfl)) (hw _ (List.mem_of_getElem? (i := 12) rfl)) (hw _ (List.mem_of_getElem? (i := 13) rfl)) e2 (g := (mkF m 44 #[.val (.long q1), .second, .val (.long q2), .second, .val (.int p3), .val (.int p4), .val (.long (own_per q1 p3 (p4 &&& (3 : Int32)))), .second, .val (.long (q2 &&& (9223372036854775807 : Int64))), .second, .val (.ref r_2), .val (.int (0 : Int32)), .unset, .unset, .unset, .unset, .unset] [])) rfl (hb hby at_44) (by decide) (by decide)
  obtain ⟨b6, g6⟩ : ∃ z, z = h0.size := ⟨_, rfl⟩
  rw [← g6] at A6 D6 st6
  have g_b6 : n0 ≤ b6 := Nat.le_trans (Nat.le_of_eq O0.1.symm) (Nat.le_trans O0.2.1 (Nat.le_of_eq g6.symm))
  have sz_b6 : h0.size ≤ b6 := Nat.le_trans (Keep.refl h0 []).1 (Nat.le_of_eq g6.symm)
  have O6 := O0.ext E6
  have K6 : Keep h0 h6 [] := (Keep.refl h0 []).ext E6
  have F_periodMs_b6 : Fld Z h6 b6 "com/example/horae/horae/model/FixedRate" "periodMs" "J" (.long (0 : Int64)) := D6 (Or.inr (hw _ (List.mem_of_getElem? (i := 38) rfl))) (ty := .long) (by decide)
  have F_tickBudgetMs_b6 : Fld Z h6 b6 "com/example/horae/horae/model/FixedRate" "tickBudgetMs" "J" (.long (0 : Int64)) := D6 (Or.inr (hw _ (List.mem_of_getElem? (i := 40) rfl))) (ty := .long) (by decide)
  have F_overrunPolicy_b6 : Fld Z h6 b6 "com/example/horae/horae/model/FixedRate" "overrunPolicy" "Lcom/example/horae/horae/model/OverrunPolicy;" .null := D6 (Or.inr (hw _ (List.mem_of_getElem? (i := 42) rfl))) (ty := (.object "com/example/horae/horae/model/OverrunPolicy")) (by decide)
  have F_wallClockEnabled_b6 : Fld Z h6 b6 "com/example/horae/horae/model/FixedRate" "wallClockEnabled" "Z" (.int (0 : Int32)) := D6 (Or.inr (hw _ (List.mem_of_getElem? (i := 44) rfl))) (ty := .boolean) (by decide)
  obtain ⟨_, _, ⟨T7, L7, k7, n7⟩, -, X7, hSn7, hgr7, ⟨Lc7, hQ7, l7, y7, z7⟩, st7⟩ := (show Stand p l e _ (s.setVm s.vm) m _ below meth c _ _ _ _ from X6).specialBackS hx (y := (⟨"com/example/horae/horae/model/FixedRate", "<init>", "(JJLcom/example/horae/horae/model/OverrunPolicy;Z)V"⟩ : MethodName)) rfl hown (mvT hZ (hw _ (List.mem_of_getElem? (i := 14) rfl))) (mvT hZ (hw _ (List.mem_of_getElem? (i := 15) rfl))) (mvT hZ (hw _ (List.mem_of_getElem? (i := 16) rfl))) (by decide) (backOfS (W := 1) (rm3 l Z a0 hw [] b6 (own_per q1 p3 (p4 &&& (3 : Int32))) (q2 &&& (9223372036854775807 : Int64)) r_2 (0 : Int32) (.long (0 : Int64)) (.long (0 : Int64)) .null (.int (0 : Int32)) h6 n0 O6 A6 F_periodMs_b6 g_b6 F_tickBudgetMs_b6 F_overrunPolicy_b6 F_wallClockEnabled_b6 hc15_7 hc35_7) hZ (hw _ (List.mem_of_getElem? (i := 16) rfl)) (hw _ (List.mem_of_getElem? (i := 13) rfl)) (by decide) (by decide)) (g := (mkF m 56 #[.val (.long q1), .second, .val (.long q2), .second, .val (.int p3), .val (.int p4), .val (.long (own_per q1 p3 (p4 &&& (3 : Int32)))), .second, .val (.long (q2 &&& (9223372036854775807 : Int64))), .second, .val (.ref r_2), .val (.int (0 : Int32)), .unset, .unset, .unset, .unset, .unset] [(.int (0 : Int32)), (.ref r_2), (.long (q2 &&& (9223372036854775807 : Int64))), (.long (own_per q1 p3 (p4 &&& (3 : Int32)))), (.ref b6), (.ref b6)])) rfl (by rw [hml]; rfl) (Steps.refl _) (a := b6) (argsL := [(.long (own_per q1 p3 (p4 &&& (3 : Int32)))), (.long (q2 &&& (9223372036854775807 : Int64))), (.ref r_2), (.int (0 : Int32))]) (rest := [(.ref b6)]) (lenOf pd__JJLcom_example_horae_horae_model_OverrunPolicy_Z_V rfl) rfl (by show 2 * 0 + _ ≤ _; exact Nat.le_of_eq rfl) (hb hby at_56) (fun _ _ => ⟨rfl, e6, (by decide : 1 + 2 ≤ _), (by decide : 4 + 56 ≤ _)⟩)
  dsimp only [Pt.U, Pt.locs, Pt.cells, Pt.slots] at X7 l7 y7 z7 st7 hQ7 hSn7 hgr7
  subst l7 y7 z7
  obtain ⟨X7, hS7, hZ7, hown7⟩ := rebS hS0 (Nat.zero_le _) X7 hSn7 hgr7 hZ hown
  obtain ⟨rfl, Nq7, O7, Kc7, q7_0, q7_1, q7_2, q7_3, q7_4⟩ := hQ7
  have N7 := Fr.app N2 Nq7
  have K7 : Keep h0 T7.heap [] := K6.trans Kc7 (allS (Or.inr sz_b6) all0)
  obtain ⟨cq8, kq8, q8a, q8b, q8c⟩ := isOf hZ7 rfl q7_0
  obtain ⟨_, _, ⟨T8, L8, k8, n8⟩, -, X8, ⟨Lc8, hQ8, l8, y8, z8⟩, st8⟩ := X7.virtualBack hx (y := (⟨"com/example/horae/horae/model/FixedRate", "starvationLimitMs", "()J"⟩ : MethodName)) (z := (⟨"com/example/horae/horae/model/FixedRate", "starvationLimitMs", "()J"⟩ : MethodName)) hown7 (mvT hZ7 (hw _ (List.mem_of_getElem? (i := 46) rfl))) (mvT hZ7 (hw _ (List.mem_of_getElem? (i := 47) rfl))) (notFace_of_selects (args := #[]) (mvT hZ7 (hw _ (List.mem_of_getElem? (i := 49) rfl)))) (mvT hZ7 (hw _ (List.mem_of_getElem? (i := 49) rfl))) (mvT hZ7 (hw _ (List.mem_of_getElem? (i := 48) rfl))) (by decide) (backOf (W := 0) (rm7_t l Z a0 hw [] b6 (own_per q1 p3 (p4 &&& (3 : Int32))) T7.heap n0 O7 q7_1 hc12_8) hZ7 (hw _ (List.mem_of_getElem? (i := 50) rfl)) (hw _ (List.mem_of_getElem? (i := 13) rfl)) (by decide) (by decide)) q8a q8c (g := (mkF m 93 #[.val (.long q1), .second, .val (.long q2), .second, .val (.int p3), .val (.int p4), .val (.long (own_per q1 p3 (p4 &&& (3 : Int32)))), .second, .val (.long (q2 &&& (9223372036854775807 : Int64))), .second, .val (.ref r_2), .val (.int (0 : Int32)), .val (.ref b6), .val (.long ((own_per q1 p3 (p4 &&& (3 : Int32))) * (5 : Int64))), .second, .val (.long (9223372036854775807 : Int64)), .second] [(.ref b6)])) rfl (by rw [hml]; rfl) (Steps.refl _) (argsL := []) (rest := []) (lenOf pd___J rfl) rfl (by show 2 * 0 + _ ≤ _; exact Nat.le_of_eq rfl) (hb hby at_93) (fun _ _ => ⟨rfl, rfl, (by decide : 3 + 0 ≤ _), (by decide : 60 + 0 ≤ _)⟩)
  dsimp only [Pt.U, Pt.locs, Pt.cells, Pt.slots] at X8 l8 y8 z8 st8 hQ8
  subst l8 y8 z8
  obtain ⟨rfl, Nq8, e8⟩ := hQ8
  have N8 := Fr.app N7 Nq8
  obtain ⟨fs, hr, hrun, hended, hRW⟩ := X8.leaveW hS7 (by rw [e8]; exact (Nat.le_refl _)) (v := some (.int (1 : Int32))) (fun h => by rw [Bd.returns] at h; cases h)
  refine ⟨_, _, pre0 _ ?_, hrun, hended, _, _, rfl, ?_, hRW.1, hRW.2.1, hRW.2.2.1, hRW.2.2.2.mono (by decide) (by decide)⟩
  · show Steps p.tables e below (s₁.setTop (mkF m 0 #[.val (.long q1), .second, .val (.long q2), .second, .val (.int p3), .val (.int p4), .unset, .unset, .unset, .unset, .unset, .unset, .unset, .unset, .unset, .unset, .unset] [])) _
    refine XS.lloadN X0.here hx rfl (hb hby at_0) rfl ?_
    show Steps p.tables e below (s₁.setTop (mkF m 1 #[.val (.long q1), .second, .val (.long q2), .second, .val (.int p3), .val (.int p4), .unset, .unset, .unset, .unset, .unset, .unset, .unset, .unset, .unset, .unset, .unset] [(.long q1)])) _
    refine XS.iload X0.here hx rfl (hb hby at_1) rfl ?_
    show Steps p.tables e below (s₁.setTop (mkF m 3 #[.val (.long q1), .second, .val (.long q2), .second, .val (.int p3), .val (.int p4), .unset, .unset, .unset, .unset, .unset, .unset, .unset, .unset, .unset, .unset, .unset] [(.int p3), (.long q1)])) _
    refine XS.iload X0.here hx rfl (hb hby at_3) rfl ?_
    show Steps p.tables e below (s₁.setTop (mkF m 5 #[.val (.long q1), .second, .val (.long q2), .second, .val (.int p3), .val (.int p4), .unset, .unset, .unset, .unset, .unset, .unset, .unset, .unset, .unset, .unset, .unset] [(.int p4), (.int p3), (.long q1)])) _
    refine XS.iconst X0.here hx rfl (hb hby at_5) ?_
    show Steps p.tables e below (s₁.setTop (mkF m 6 #[.val (.long q1), .second, .val (.long q2), .second, .val (.int p3), .val (.int p4), .unset, .unset, .unset, .unset, .unset, .unset, .unset, .unset, .unset, .unset, .unset] [(.int (3 : Int32)), (.int p4), (.int p3), (.long q1)])) _
    refine XS.iand X0.here hx rfl (hb hby at_6) rfl ?_
    show Steps p.tables e below (s₁.setTop (mkF m 7 #[.val (.long q1), .second, .val (.long q2), .second, .val (.int p3), .val (.int p4), .unset, .unset, .unset, .unset, .unset, .unset, .unset, .unset, .unset, .unset, .unset] [(.int (p4 &&& (3 : Int32))), (.int p3), (.long q1)])) _
    refine st1 _ ?_
    show Steps p.tables e below (T1.setTop (mkF m 10 #[.val (.long q1), .second, .val (.long q2), .second, .val (.int p3), .val (.int p4), .unset, .unset, .unset, .unset, .unset, .unset, .unset, .unset, .unset, .unset, .unset] [(.long (own_per q1 p3 (p4 &&& (3 : Int32))))])) _
    refine XS.lstore X1.here hx rfl (hb hby at_10) rfl (l' := #[.val (.long q1), .second, .val (.long q2), .second, .val (.int p3), .val (.int p4), .val (.long (own_per q1 p3 (p4 &&& (3 : Int32)))), .second, .unset, .unset, .unset, .unset, .unset, .unset, .unset, .unset, .unset]) rfl ?_
    show Steps p.tables e below (T1.setTop (mkF m 12 #[.val (.long q1), .second, .val (.long q2), .second, .val (.int p3), .val (.int p4), .val (.long (own_per q1 p3 (p4 &&& (3 : Int32)))), .second, .unset, .unset, .unset, .unset, .unset, .unset, .unset, .unset, .unset] [])) _
    refine XS.lloadN X1.here hx rfl (hb hby at_12) rfl ?_
    show Steps p.tables e below (T1.setTop (mkF m 13 #[.val (.long q1), .second, .val (.long q2), .second, .val (.int p3), .val (.int p4), .val (.long (own_per q1 p3 (p4 &&& (3 : Int32)))), .second, .unset, .unset, .unset, .unset, .unset, .unset, .unset, .unset, .unset] [(.long q2)])) _
    refine X1.ldc2Long hx hown (mvT hZ (hw _ (List.mem_of_getElem? (i := 4) rfl))) (g := (mkF m 13 #[.val (.long q1), .second, .val (.long q2), .second, .val (.int p3), .val (.int p4), .val (.long (own_per q1 p3 (p4 &&& (3 : Int32)))), .second, .unset, .unset, .unset, .unset, .unset, .unset, .unset, .unset, .unset] [(.long q2)])) rfl (hb hby at_13) _ ?_
    show Steps p.tables e below (T1.setTop (mkF m 16 #[.val (.long q1), .second, .val (.long q2), .second, .val (.int p3), .val (.int p4), .val (.long (own_per q1 p3 (p4 &&& (3 : Int32)))), .second, .unset, .unset, .unset, .unset, .unset, .unset, .unset, .unset, .unset] [(.long (9223372036854775807 : Int64)), (.long q2)])) _
    refine XS.land X1.here hx rfl (hb hby at_16) rfl ?_
    show Steps p.tables e below (T1.setTop (mkF m 17 #[.val (.long q1), .second, .val (.long q2), .second, .val (.int p3), .val (.int p4), .val (.long (own_per q1 p3 (p4 &&& (3 : Int32)))), .second, .unset, .unset, .unset, .unset, .unset, .unset, .unset, .unset, .unset] [(.long (q2 &&& (9223372036854775807 : Int64)))])) _
    refine XS.lstore X1.here hx rfl (hb hby at_17) rfl (l' := #[.val (.long q1), .second, .val (.long q2), .second, .val (.int p3), .val (.int p4), .val (.long (own_per q1 p3 (p4 &&& (3 : Int32)))), .second, .val (.long (q2 &&& (9223372036854775807 : Int64))), .second, .unset, .unset, .unset, .unset, .unset, .unset, .unset]) rfl ?_
    show Steps p.tables e below (T1.setTop (mkF m 19 #[.val (.long q1), .second, .val (.long q2), .second, .val (.int p3), .val (.int p4), .val (.long (own_per q1 p3 (p4 &&& (3 : Int32)))), .second, .val (.long (q2 &&& (9223372036854775807 : Int64))), .second, .unset, .unset, .unset, .unset, .unset, .unset, .unset] [])) _
    refine XS.iload X1.here hx rfl (hb hby at_19) rfl ?_
    show Steps p.tables e below (T1.setTop (mkF m 21 #[.val (.long q1), .second, .val (.long q2), .second, .val (.int p3), .val (.int p4), .val (.long (own_per q1 p3 (p4 &&& (3 : Int32)))), .second, .val (.long (q2 &&& (9223372036854775807 : Int64))), .second, .unset, .unset, .unset, .unset, .unset, .unset, .unset] [(.int p4)])) _
    refine XS.iconst X1.here hx rfl (hb hby at_21) ?_
    show Steps p.tables e below (T1.setTop (mkF m 22 #[.val (.long q1), .second, .val (.long q2), .second, .val (.int p3), .val (.int p4), .val (.long (own_per q1 p3 (p4 &&& (3 : Int32)))), .second, .val (.long (q2 &&& (9223372036854775807 : Int64))), .second, .unset, .unset, .unset, .unset, .unset, .unset, .unset] [(.int (2 : Int32)), (.int p4)])) _
    refine XS.ishr X1.here hx rfl (hb hby at_22) rfl ?_
    show Steps p.tables e below (T1.setTop (mkF m 23 #[.val (.long q1), .second, .val (.long q2), .second, .val (.int p3), .val (.int p4), .val (.long (own_per q1 p3 (p4 &&& (3 : Int32)))), .second, .val (.long (q2 &&& (9223372036854775807 : Int64))), .second, .unset, .unset, .unset, .unset, .unset, .unset, .unset] [(.int (p4 >>> ((2 : Int32) &&& 31)))])) _
    refine st2 _ ?_
    show Steps p.tables e below (T2.setTop (mkF m 26 #[.val (.long q1), .second, .val (.long q2), .second, .val (.int p3), .val (.int p4), .val (.long (own_per q1 p3 (p4 &&& (3 : Int32)))), .second, .val (.long (q2 &&& (9223372036854775807 : Int64))), .second, .unset, .unset, .unset, .unset, .unset, .unset, .unset] [(.ref r_2)])) _
    refine XS.astore X2.here hx rfl (hb hby at_26) rfl rfl (l' := #[.val (.long q1), .second, .val (.long q2), .second, .val (.int p3), .val (.int p4), .val (.long (own_per q1 p3 (p4 &&& (3 : Int32)))), .second, .val (.long (q2 &&& (9223372036854775807 : Int64))), .second, .val (.ref r_2), .unset, .unset, .unset, .unset, .unset, .unset]) rfl ?_
    show Steps p.tables e below (T2.setTop (mkF m 28 #[.val (.long q1), .second, .val (.long q2), .second, .val (.int p3), .val (.int p4), .val (.long (own_per q1 p3 (p4 &&& (3 : Int32)))), .second, .val (.long (q2 &&& (9223372036854775807 : Int64))), .second, .val (.ref r_2), .unset, .unset, .unset, .unset, .unset, .unset] [])) _
    refine XS.iload X2.here hx rfl (hb hby at_28) rfl ?_
    show Steps p.tables e below (T2.setTop (mkF m 30 #[.val (.long q1), .second, .val (.long q2), .second, .val (.int p3), .val (.int p4), .val (.long (own_per q1 p3 (p4 &&& (3 : Int32)))), .second, .val (.long (q2 &&& (9223372036854775807 : Int64))), .second, .val (.ref r_2), .unset, .unset, .unset, .unset, .unset, .unset] [(.int p4)])) _
    refine XS.iconst X2.here hx rfl (hb hby at_30) ?_
    show Steps p.tables e below (T2.setTop (mkF m 31 #[.val (.long q1), .second, .val (.long q2), .second, .val (.int p3), .val (.int p4), .val (.long (own_per q1 p3 (p4 &&& (3 : Int32)))), .second, .val (.long (q2 &&& (9223372036854775807 : Int64))), .second, .val (.ref r_2), .unset, .unset, .unset, .unset, .unset, .unset] [(.int (4 : Int32)), (.int p4)])) _
    refine XS.ishr X2.here hx rfl (hb hby at_31) rfl ?_
    show Steps p.tables e below (T2.setTop (mkF m 32 #[.val (.long q1), .second, .val (.long q2), .second, .val (.int p3), .val (.int p4), .val (.long (own_per q1 p3 (p4 &&& (3 : Int32)))), .second, .val (.long (q2 &&& (9223372036854775807 : Int64))), .second, .val (.ref r_2), .unset, .unset, .unset, .unset, .unset, .unset] [(.int (p4 >>> ((4 : Int32) &&& 31)))])) _
    refine XS.iconst X2.here hx rfl (hb hby at_32) ?_
    show Steps p.tables e below (T2.setTop (mkF m 33 #[.val (.long q1), .second, .val (.long q2), .second, .val (.int p3), .val (.int p4), .val (.long (own_per q1 p3 (p4 &&& (3 : Int32)))), .second, .val (.long (q2 &&& (9223372036854775807 : Int64))), .second, .val (.ref r_2), .unset, .unset, .unset, .unset, .unset, .unset] [(.int (1 : Int32)), (.int (p4 >>> ((4 : Int32) &&& 31)))])) _
    refine XS.iand X2.here hx rfl (hb hby at_33) rfl ?_
    show Steps p.tables e below (T2.setTop (mkF m 34 #[.val (.long q1), .second, .val (.long q2), .second, .val (.int p3), .val (.int p4), .val (.long (own_per q1 p3 (p4 &&& (3 : Int32)))), .second, .val (.long (q2 &&& (9223372036854775807 : Int64))), .second, .val (.ref r_2), .unset, .unset, .unset, .unset, .unset, .unset] [(.int ((p4 >>> ((4 : Int32) &&& 31)) &&& (1 : Int32)))])) _
    refine XS.ifYes X2.here hx rfl (pc0 := 34) (pc' := 41) rfl (hb hby at_34) rfl ((if0 _ _).trans (teq hc34).1) (by decide) (by decide) ?_
    show Steps p.tables e below (T2.setTop (mkF m 41 #[.val (.long q1), .second, .val (.long q2), .second, .val (.int p3), .val (.int p4), .val (.long (own_per q1 p3 (p4 &&& (3 : Int32)))), .second, .val (.long (q2 &&& (9223372036854775807 : Int64))), .second, .val (.ref r_2), .unset, .unset, .unset, .unset, .unset, .unset] [])) _
    refine XS.iconst X2.here hx rfl (hb hby at_41) ?_
    show Steps p.tables e below (T2.setTop (mkF m 42 #[.val (.long q1), .second, .val (.long q2), .second, .val (.int p3), .val (.int p4), .val (.long (own_per q1 p3 (p4 &&& (3 : Int32)))), .second, .val (.long (q2 &&& (9223372036854775807 : Int64))), .second, .val (.ref r_2), .unset, .unset, .unset, .unset, .unset, .unset] [(.int (0 : Int32))])) _
    refine XS.istore X2.here hx rfl (hb hby at_42) rfl (l' := #[.val (.long q1), .second, .val (.long q2), .second, .val (.int p3), .val (.int p4), .val (.long (own_per q1 p3 (p4 &&& (3 : Int32)))), .second, .val (.long (q2 &&& (9223372036854775807 : Int64))), .second, .val (.ref r_2), .val (.int (0 : Int32)), .unset, .unset, .unset, .unset, .unset]) rfl ?_
    show Steps p.tables e below (T2.setTop (mkF m 44 #[.val (.long q1), .second, .val (.long q2), .second, .val (.int p3), .val (.int p4), .val (.long (own_per q1 p3 (p4 &&& (3 : Int32)))), .second, .val (.long (q2 &&& (9223372036854775807 : Int64))), .second, .val (.ref r_2), .val (.int (0 : Int32)), .unset, .unset, .unset, .unset, .unset] [])) _
    refine st6 _ ?_
    show Steps p.tables e below (T6.setTop (mkF m 47 #[.val (.long q1), .second, .val (.long q2), .second, .val (.int p3), .val (.int p4), .val (.long (own_per q1 p3 (p4 &&& (3 : Int32)))), .second, .val (.long (q2 &&& (9223372036854775807 : Int64))), .second, .val (.ref r_2), .val (.int (0 : Int32)), .unset, .unset, .unset, .unset, .unset] [(.ref b6)])) _
    refine XS.dup X6.here hx rfl (hb hby at_47) rfl rfl ?_
    show Steps p.tables e below (T6.setTop (mkF m 48 #[.val (.long q1), .second, .val (.long q2), .second, .val (.int p3), .val (.int p4), .val (.long (own_per q1 p3 (p4 &&& (3 : Int32)))), .second, .val (.long (q2 &&& (9223372036854775807 : Int64))), .second, .val (.ref r_2), .val (.int (0 : Int32)), .unset, .unset, .unset, .unset, .unset] [(.ref b6), (.ref b6)])) _
    refine XS.lload X6.here hx rfl (hb hby at_48) rfl ?_
    show Steps p.tables e below (T6.setTop (mkF m 50 #[.val (.long q1), .second, .val (.long q2), .second, .val (.int p3), .val (.int p4), .val (.long (own_per q1 p3 (p4 &&& (3 : Int32)))), .second, .val (.long (q2 &&& (9223372036854775807 : Int64))), .second, .val (.ref r_2), .val (.int (0 : Int32)), .unset, .unset, .unset, .unset, .unset] [(.long (own_per q1 p3 (p4 &&& (3 : Int32)))), (.ref b6), (.ref b6)])) _
    refine XS.lload X6.here hx rfl (hb hby at_50) rfl ?_
    show Steps p.tables e below (T6.setTop (mkF m 52 #[.val (.long q1), .second, .val (.long q2), .second, .val (.int p3), .val (.int p4), .val (.long (own_per q1 p3 (p4 &&& (3 : Int32)))), .second, .val (.long (q2 &&& (9223372036854775807 : Int64))), .second, .val (.ref r_2), .val (.int (0 : Int32)), .unset, .unset, .unset, .unset, .unset] [(.long (q2 &&& (9223372036854775807 : Int64))), (.long (own_per q1 p3 (p4 &&& (3 : Int32)))), (.ref b6), (.ref b6)])) _
    refine XS.aload X6.here hx rfl (hb hby at_52) rfl rfl ?_
    show Steps p.tables e below (T6.setTop (mkF m 54 #[.val (.long q1), .second, .val (.long q2), .second, .val (.int p3), .val (.int p4), .val (.long (own_per q1 p3 (p4 &&& (3 : Int32)))), .second, .val (.long (q2 &&& (9223372036854775807 : Int64))), .second, .val (.ref r_2), .val (.int (0 : Int32)), .unset, .unset, .unset, .unset, .unset] [(.ref r_2), (.long (q2 &&& (9223372036854775807 : Int64))), (.long (own_per q1 p3 (p4 &&& (3 : Int32)))), (.ref b6), (.ref b6)])) _
    refine XS.iload X6.here hx rfl (hb hby at_54) rfl ?_
    show Steps p.tables e below (T6.setTop (mkF m 56 #[.val (.long q1), .second, .val (.long q2), .second, .val (.int p3), .val (.int p4), .val (.long (own_per q1 p3 (p4 &&& (3 : Int32)))), .second, .val (.long (q2 &&& (9223372036854775807 : Int64))), .second, .val (.ref r_2), .val (.int (0 : Int32)), .unset, .unset, .unset, .unset, .unset] [(.int (0 : Int32)), (.ref r_2), (.long (q2 &&& (9223372036854775807 : Int64))), (.long (own_per q1 p3 (p4 &&& (3 : Int32)))), (.ref b6), (.ref b6)])) _
    refine st7.trans ?_
    show Steps p.tables e below (T7.setTop (mkF m 59 #[.val (.long q1), .second, .val (.long q2), .second, .val (.int p3), .val (.int p4), .val (.long (own_per q1 p3 (p4 &&& (3 : Int32)))), .second, .val (.long (q2 &&& (9223372036854775807 : Int64))), .second, .val (.ref r_2), .val (.int (0 : Int32)), .unset, .unset, .unset, .unset, .unset] [(.ref b6)])) _
    refine XS.astore X7.here hx rfl (hb hby at_59) rfl rfl (l' := #[.val (.long q1), .second, .val (.long q2), .second, .val (.int p3), .val (.int p4), .val (.long (own_per q1 p3 (p4 &&& (3 : Int32)))), .second, .val (.long (q2 &&& (9223372036854775807 : Int64))), .second, .val (.ref r_2), .val (.int (0 : Int32)), .val (.ref b6), .unset, .unset, .unset, .unset]) rfl ?_
    show Steps p.tables e below (T7.setTop (mkF m 61 #[.val (.long q1), .second, .val (.long q2), .second, .val (.int p3), .val (.int p4), .val (.long (own_per q1 p3 (p4 &&& (3 : Int32)))), .second, .val (.long (q2 &&& (9223372036854775807 : Int64))), .second, .val (.ref r_2), .val (.int (0 : Int32)), .val (.ref b6), .unset, .unset, .unset, .unset] [])) _
    refine XS.lload X7.here hx rfl (hb hby at_61) rfl ?_
    show Steps p.tables e below (T7.setTop (mkF m 63 #[.val (.long q1), .second, .val (.long q2), .second, .val (.int p3), .val (.int p4), .val (.long (own_per q1 p3 (p4 &&& (3 : Int32)))), .second, .val (.long (q2 &&& (9223372036854775807 : Int64))), .second, .val (.ref r_2), .val (.int (0 : Int32)), .val (.ref b6), .unset, .unset, .unset, .unset] [(.long (own_per q1 p3 (p4 &&& (3 : Int32))))])) _
    refine X7.ldc2Long hx hown7 (mvT hZ7 (hw _ (List.mem_of_getElem? (i := 45) rfl))) (g := (mkF m 63 #[.val (.long q1), .second, .val (.long q2), .second, .val (.int p3), .val (.int p4), .val (.long (own_per q1 p3 (p4 &&& (3 : Int32)))), .second, .val (.long (q2 &&& (9223372036854775807 : Int64))), .second, .val (.ref r_2), .val (.int (0 : Int32)), .val (.ref b6), .unset, .unset, .unset, .unset] [(.long (own_per q1 p3 (p4 &&& (3 : Int32))))])) rfl (hb hby at_63) _ ?_
    show Steps p.tables e below (T7.setTop (mkF m 66 #[.val (.long q1), .second, .val (.long q2), .second, .val (.int p3), .val (.int p4), .val (.long (own_per q1 p3 (p4 &&& (3 : Int32)))), .second, .val (.long (q2 &&& (9223372036854775807 : Int64))), .second, .val (.ref r_2), .val (.int (0 : Int32)), .val (.ref b6), .unset, .unset, .unset, .unset] [(.long (5 : Int64)), (.long (own_per q1 p3 (p4 &&& (3 : Int32))))])) _
    refine XS.lmul X7.here hx rfl (hb hby at_66) rfl ?_
    show Steps p.tables e below (T7.setTop (mkF m 67 #[.val (.long q1), .second, .val (.long q2), .second, .val (.int p3), .val (.int p4), .val (.long (own_per q1 p3 (p4 &&& (3 : Int32)))), .second, .val (.long (q2 &&& (9223372036854775807 : Int64))), .second, .val (.ref r_2), .val (.int (0 : Int32)), .val (.ref b6), .unset, .unset, .unset, .unset] [(.long ((own_per q1 p3 (p4 &&& (3 : Int32))) * (5 : Int64)))])) _
    refine XS.lstore X7.here hx rfl (hb hby at_67) rfl (l' := #[.val (.long q1), .second, .val (.long q2), .second, .val (.int p3), .val (.int p4), .val (.long (own_per q1 p3 (p4 &&& (3 : Int32)))), .second, .val (.long (q2 &&& (9223372036854775807 : Int64))), .second, .val (.ref r_2), .val (.int (0 : Int32)), .val (.ref b6), .val (.long ((own_per q1 p3 (p4 &&& (3 : Int32))) * (5 : Int64))), .second, .unset, .unset]) rfl ?_
    show Steps p.tables e below (T7.setTop (mkF m 69 #[.val (.long q1), .second, .val (.long q2), .second, .val (.int p3), .val (.int p4), .val (.long (own_per q1 p3 (p4 &&& (3 : Int32)))), .second, .val (.long (q2 &&& (9223372036854775807 : Int64))), .second, .val (.ref r_2), .val (.int (0 : Int32)), .val (.ref b6), .val (.long ((own_per q1 p3 (p4 &&& (3 : Int32))) * (5 : Int64))), .second, .unset, .unset] [])) _
    refine XS.lload X7.here hx rfl (hb hby at_69) rfl ?_
    show Steps p.tables e below (T7.setTop (mkF m 71 #[.val (.long q1), .second, .val (.long q2), .second, .val (.int p3), .val (.int p4), .val (.long (own_per q1 p3 (p4 &&& (3 : Int32)))), .second, .val (.long (q2 &&& (9223372036854775807 : Int64))), .second, .val (.ref r_2), .val (.int (0 : Int32)), .val (.ref b6), .val (.long ((own_per q1 p3 (p4 &&& (3 : Int32))) * (5 : Int64))), .second, .unset, .unset] [(.long ((own_per q1 p3 (p4 &&& (3 : Int32))) * (5 : Int64)))])) _
    refine X7.ldc2Long hx hown7 (mvT hZ7 (hw _ (List.mem_of_getElem? (i := 45) rfl))) (g := (mkF m 71 #[.val (.long q1), .second, .val (.long q2), .second, .val (.int p3), .val (.int p4), .val (.long (own_per q1 p3 (p4 &&& (3 : Int32)))), .second, .val (.long (q2 &&& (9223372036854775807 : Int64))), .second, .val (.ref r_2), .val (.int (0 : Int32)), .val (.ref b6), .val (.long ((own_per q1 p3 (p4 &&& (3 : Int32))) * (5 : Int64))), .second, .unset, .unset] [(.long ((own_per q1 p3 (p4 &&& (3 : Int32))) * (5 : Int64)))])) rfl (hb hby at_71) _ ?_
    show Steps p.tables e below (T7.setTop (mkF m 74 #[.val (.long q1), .second, .val (.long q2), .second, .val (.int p3), .val (.int p4), .val (.long (own_per q1 p3 (p4 &&& (3 : Int32)))), .second, .val (.long (q2 &&& (9223372036854775807 : Int64))), .second, .val (.ref r_2), .val (.int (0 : Int32)), .val (.ref b6), .val (.long ((own_per q1 p3 (p4 &&& (3 : Int32))) * (5 : Int64))), .second, .unset, .unset] [(.long (5 : Int64)), (.long ((own_per q1 p3 (p4 &&& (3 : Int32))) * (5 : Int64)))])) _
    refine XS.ldiv X7.here hx rfl (hb hby at_74) rfl (by decide) ?_
    show Steps p.tables e below (T7.setTop (mkF m 75 #[.val (.long q1), .second, .val (.long q2), .second, .val (.int p3), .val (.int p4), .val (.long (own_per q1 p3 (p4 &&& (3 : Int32)))), .second, .val (.long (q2 &&& (9223372036854775807 : Int64))), .second, .val (.ref r_2), .val (.int (0 : Int32)), .val (.ref b6), .val (.long ((own_per q1 p3 (p4 &&& (3 : Int32))) * (5 : Int64))), .second, .unset, .unset] [(.long (((own_per q1 p3 (p4 &&& (3 : Int32))) * (5 : Int64)) / (5 : Int64)))])) _
    refine XS.lload X7.here hx rfl (hb hby at_75) rfl ?_
    show Steps p.tables e below (T7.setTop (mkF m 77 #[.val (.long q1), .second, .val (.long q2), .second, .val (.int p3), .val (.int p4), .val (.long (own_per q1 p3 (p4 &&& (3 : Int32)))), .second, .val (.long (q2 &&& (9223372036854775807 : Int64))), .second, .val (.ref r_2), .val (.int (0 : Int32)), .val (.ref b6), .val (.long ((own_per q1 p3 (p4 &&& (3 : Int32))) * (5 : Int64))), .second, .unset, .unset] [(.long (own_per q1 p3 (p4 &&& (3 : Int32)))), (.long (((own_per q1 p3 (p4 &&& (3 : Int32))) * (5 : Int64)) / (5 : Int64)))])) _
    refine XS.lcmp X7.here hx rfl (hb hby at_77) rfl ?_
    show Steps p.tables e below (T7.setTop (mkF m 78 #[.val (.long q1), .second, .val (.long q2), .second, .val (.int p3), .val (.int p4), .val (.long (own_per q1 p3 (p4 &&& (3 : Int32)))), .second, .val (.long (q2 &&& (9223372036854775807 : Int64))), .second, .val (.ref r_2), .val (.int (0 : Int32)), .val (.ref b6), .val (.long ((own_per q1 p3 (p4 &&& (3 : Int32))) * (5 : Int64))), .second, .unset, .unset] [(.int (lcmpW (((own_per q1 p3 (p4 &&& (3 : Int32))) * (5 : Int64)) / (5 : Int64)) (own_per q1 p3 (p4 &&& (3 : Int32)))))])) _
    refine XS.ifYes X7.here hx rfl (pc0 := 78) (pc' := 86) rfl (hb hby at_78) rfl ((if0 _ _).trans (feq hc78).2) (by decide) (by decide) ?_
    show Steps p.tables e below (T7.setTop (mkF m 86 #[.val (.long q1), .second, .val (.long q2), .second, .val (.int p3), .val (.int p4), .val (.long (own_per q1 p3 (p4 &&& (3 : Int32)))), .second, .val (.long (q2 &&& (9223372036854775807 : Int64))), .second, .val (.ref r_2), .val (.int (0 : Int32)), .val (.ref b6), .val (.long ((own_per q1 p3 (p4 &&& (3 : Int32))) * (5 : Int64))), .second, .unset, .unset] [])) _
    refine X7.ldc2Long hx hown7 (mvT hZ7 (hw _ (List.mem_of_getElem? (i := 4) rfl))) (g := (mkF m 86 #[.val (.long q1), .second, .val (.long q2), .second, .val (.int p3), .val (.int p4), .val (.long (own_per q1 p3 (p4 &&& (3 : Int32)))), .second, .val (.long (q2 &&& (9223372036854775807 : Int64))), .second, .val (.ref r_2), .val (.int (0 : Int32)), .val (.ref b6), .val (.long ((own_per q1 p3 (p4 &&& (3 : Int32))) * (5 : Int64))), .second, .unset, .unset] [])) rfl (hb hby at_86) _ ?_
    show Steps p.tables e below (T7.setTop (mkF m 89 #[.val (.long q1), .second, .val (.long q2), .second, .val (.int p3), .val (.int p4), .val (.long (own_per q1 p3 (p4 &&& (3 : Int32)))), .second, .val (.long (q2 &&& (9223372036854775807 : Int64))), .second, .val (.ref r_2), .val (.int (0 : Int32)), .val (.ref b6), .val (.long ((own_per q1 p3 (p4 &&& (3 : Int32))) * (5 : Int64))), .second, .unset, .unset] [(.long (9223372036854775807 : Int64))])) _
    refine XS.lstore X7.here hx rfl (hb hby at_89) rfl (l' := #[.val (.long q1), .second, .val (.long q2), .second, .val (.int p3), .val (.int p4), .val (.long (own_per q1 p3 (p4 &&& (3 : Int32)))), .second, .val (.long (q2 &&& (9223372036854775807 : Int64))), .second, .val (.ref r_2), .val (.int (0 : Int32)), .val (.ref b6), .val (.long ((own_per q1 p3 (p4 &&& (3 : Int32))) * (5 : Int64))), .second, .val (.long (9223372036854775807 : Int64)), .second]) rfl ?_
    show Steps p.tables e below (T7.setTop (mkF m 91 #[.val (.long q1), .second, .val (.long q2), .second, .val (.int p3), .val (.int p4), .val (.long (own_per q1 p3 (p4 &&& (3 : Int32)))), .second, .val (.long (q2 &&& (9223372036854775807 : Int64))), .second, .val (.ref r_2), .val (.int (0 : Int32)), .val (.ref b6), .val (.long ((own_per q1 p3 (p4 &&& (3 : Int32))) * (5 : Int64))), .second, .val (.long (9223372036854775807 : Int64)), .second] [])) _
    refine XS.aload X7.here hx rfl (hb hby at_91) rfl rfl ?_
    show Steps p.tables e below (T7.setTop (mkF m 93 #[.val (.long q1), .second, .val (.long q2), .second, .val (.int p3), .val (.int p4), .val (.long (own_per q1 p3 (p4 &&& (3 : Int32)))), .second, .val (.long (q2 &&& (9223372036854775807 : Int64))), .second, .val (.ref r_2), .val (.int (0 : Int32)), .val (.ref b6), .val (.long ((own_per q1 p3 (p4 &&& (3 : Int32))) * (5 : Int64))), .second, .val (.long (9223372036854775807 : Int64)), .second] [(.ref b6)])) _
    refine st8.trans ?_
    show Steps p.tables e below (T8.setTop (mkF m 96 #[.val (.long q1), .second, .val (.long q2), .second, .val (.int p3), .val (.int p4), .val (.long (own_per q1 p3 (p4 &&& (3 : Int32)))), .second, .val (.long (q2 &&& (9223372036854775807 : Int64))), .second, .val (.ref r_2), .val (.int (0 : Int32)), .val (.ref b6), .val (.long ((own_per q1 p3 (p4 &&& (3 : Int32))) * (5 : Int64))), .second, .val (.long (9223372036854775807 : Int64)), .second] [(.long (9223372036854775807 : Int64))])) _
    refine XS.lload X8.here hx rfl (hb hby at_96) rfl ?_
    show Steps p.tables e below (T8.setTop (mkF m 98 #[.val (.long q1), .second, .val (.long q2), .second, .val (.int p3), .val (.int p4), .val (.long (own_per q1 p3 (p4 &&& (3 : Int32)))), .second, .val (.long (q2 &&& (9223372036854775807 : Int64))), .second, .val (.ref r_2), .val (.int (0 : Int32)), .val (.ref b6), .val (.long ((own_per q1 p3 (p4 &&& (3 : Int32))) * (5 : Int64))), .second, .val (.long (9223372036854775807 : Int64)), .second] [(.long (9223372036854775807 : Int64)), (.long (9223372036854775807 : Int64))])) _
    refine XS.lcmp X8.here hx rfl (hb hby at_98) rfl ?_
    show Steps p.tables e below (T8.setTop (mkF m 99 #[.val (.long q1), .second, .val (.long q2), .second, .val (.int p3), .val (.int p4), .val (.long (own_per q1 p3 (p4 &&& (3 : Int32)))), .second, .val (.long (q2 &&& (9223372036854775807 : Int64))), .second, .val (.ref r_2), .val (.int (0 : Int32)), .val (.ref b6), .val (.long ((own_per q1 p3 (p4 &&& (3 : Int32))) * (5 : Int64))), .second, .val (.long (9223372036854775807 : Int64)), .second] [(.int (lcmpW (9223372036854775807 : Int64) (9223372036854775807 : Int64)))])) _
    refine XS.ifNo X8.here hx rfl (hb hby at_99) rfl ((if0 _ _).trans (teq hc99).2) ?_
    show Steps p.tables e below (T8.setTop (mkF m 102 #[.val (.long q1), .second, .val (.long q2), .second, .val (.int p3), .val (.int p4), .val (.long (own_per q1 p3 (p4 &&& (3 : Int32)))), .second, .val (.long (q2 &&& (9223372036854775807 : Int64))), .second, .val (.ref r_2), .val (.int (0 : Int32)), .val (.ref b6), .val (.long ((own_per q1 p3 (p4 &&& (3 : Int32))) * (5 : Int64))), .second, .val (.long (9223372036854775807 : Int64)), .second] [])) _
    refine XS.iconst X8.here hx rfl (hb hby at_102) ?_
    show Steps p.tables e below (T8.setTop (mkF m 103 #[.val (.long q1), .second, .val (.long q2), .second, .val (.int p3), .val (.int p4), .val (.long (own_per q1 p3 (p4 &&& (3 : Int32)))), .second, .val (.long (q2 &&& (9223372036854775807 : Int64))), .second, .val (.ref r_2), .val (.int (0 : Int32)), .val (.ref b6), .val (.long ((own_per q1 p3 (p4 &&& (3 : Int32))) * (5 : Int64))), .second, .val (.long (9223372036854775807 : Int64)), .second] [(.int (1 : Int32))])) _
    refine XS.goto X8.here hx rfl (pc0 := 103) (pc' := 107) rfl (hb hby at_103) (by decide) (by decide) ?_
    show Steps p.tables e below (T8.setTop (mkF m 107 #[.val (.long q1), .second, .val (.long q2), .second, .val (.int p3), .val (.int p4), .val (.long (own_per q1 p3 (p4 &&& (3 : Int32)))), .second, .val (.long (q2 &&& (9223372036854775807 : Int64))), .second, .val (.ref r_2), .val (.int (0 : Int32)), .val (.ref b6), .val (.long ((own_per q1 p3 (p4 &&& (3 : Int32))) * (5 : Int64))), .second, .val (.long (9223372036854775807 : Int64)), .second] [(.int (1 : Int32))])) _
    exact retN X8 hx (t := .boolean) Bd.returns (by simp) (hb hby at_107) hr
  · show QL n0 _ T8.heap _
    rw [e8]
    exact ⟨rfl, N8⟩
set_option maxRecDepth 65536 in
set_option maxHeartbeats 40000000 in
theorem rm0_ff (l : Launch) (Z : State) (a0 : Array Value) (hw : ∀ d ∈ tables_1, d.before a0 Z = true) (ws : List Jvm.Cond) (q1 : Int64) (q2 : Int64) (p3 : Int32) (p4 : Int32) (w3 : Addr) (w4 : Addr) (w5 : Addr) (h0 : Heap) (n0 : Nat) (O0 : Old Z n0 h0) (S_DROP_TICK : Sta Z Z.heap "com/example/horae/horae/model/OverrunPolicy" "DROP_TICK" "Lcom/example/horae/horae/model/OverrunPolicy;" (.ref w3)) (S_SKIP_NEXT : Sta Z Z.heap "com/example/horae/horae/model/OverrunPolicy" "SKIP_NEXT" "Lcom/example/horae/horae/model/OverrunPolicy;" (.ref w4)) (S_CATCH_UP_ONCE : Sta Z Z.heap "com/example/horae/horae/model/OverrunPolicy" "CATCH_UP_ONCE" "Lcom/example/horae/horae/model/OverrunPolicy;" (.ref w5)) (hc34 : ¬ (((p4 >>> ((4 : Int32) &&& 31)) &&& (1 : Int32)) = (0 : Int32))) (hc15_7 : ¬ ((lcmpW (own_per q1 p3 (p4 &&& (3 : Int32))) (1 : Int64)) < (0 : Int32))) (hc35_7 : ¬ ((lcmpW (q2 &&& (9223372036854775807 : Int64)) (0 : Int64)) < (0 : Int32))) (hc78 : (lcmpW (((own_per q1 p3 (p4 &&& (3 : Int32))) * (5 : Int64)) / (5 : Int64)) (own_per q1 p3 (p4 &&& (3 : Int32)))) = (0 : Int32)) (hc12_8 : ¬ ((0 : Int32) < (lcmpW (own_per q1 p3 (p4 &&& (3 : Int32))) (1844674407370955161 : Int64)))) (hc99 : (lcmpW ((own_per q1 p3 (p4 &&& (3 : Int32))) * (5 : Int64)) ((own_per q1 p3 (p4 &&& (3 : Int32))) * (5 : Int64))) = (0 : Int32)) :
    MetFree l x (head1 (Jvm.Cond.code x code maxLocals ret :: ws) room_1) (fun a U => a = #[(.long q1), (.long q2), (.int p3), (.int p4)] ∧ Z.Warmed39 U.vm ∧ U.heap = h0) (fun _ _ _ _ _ => True) (fun _ U o U' => ∃ v L, o = .returned v ∧ QL n0 v U'.heap L ∧ ReturnedEndW U o U' L room_1.cells room_1.slots) := by
  refine MetFree.of_bodySF (plainFor_of_name pn_com_example_horae_horae_model_FixedRateStarvationLimitMsPinLaw) hisR ?_
  intro p e s m args below meth c s₁ Bd hml0 hP hK
  obtain ⟨rfl, hZ, hh⟩ := hP
  have hx := Bd.exec
  have hby := Bd.bytes
  have hml : c.maxLocals = 17 := hml0
  have hown : s.vm.findClass "com/example/horae/horae/model/FixedRateStarvationLimitMsPinLaw" = some m.cls := findClass_of_methodNamed Bd.named
  have hnm := (name_of_methodNamed Bd.named Bd.method).1
  have X0 : Stand p l e room_1 s m #[(.long q1), (.long q2), (.int p3), (.int p4)] below meth c s₁ [] 0 0 := Stand.of_body Bd
  have e0 : s₁.heap = h0 := by rw [← hh, Bd.state]; rfl
  have N0 := Fr.nil n0
  have pre0 : ∀ t, Steps p.tables e below (s₁.setTop (mkF m 0 #[.val (.long q1), .second, .val (.long q2), .second, .val (.int p3), .val (.int p4), .unset, .unset, .unset, .unset, .unset, .unset, .unset, .unset, .unset, .unset, .unset] [])) t → Steps p.tables e below (s₁.setTop (entryFrame m #[(.long q1), (.long q2), (.int p3), (.int p4)] maxLocals)) t := fun t k => castTop (ef_0 m q1 q2 p3 p4) k
  have own_wS := own_wS0 hw
  have hS0 : s.Since s.vm 0 := (State.WarmedH.refl s).since 0
  obtain ⟨_, _, ⟨T1, L1, k1, n1⟩, -, X1, ⟨Lc1, hQ1, l1, y1, z1⟩, st1⟩ := Jvm.LawKit.callS X0 hx (y := (⟨"com/example/horae/horae/model/FixedRateStarvationLimitMsPinLaw", "period", "(JII)J"⟩ : MethodName)) hown (mvT hZ (hw _ (List.mem_of_getElem? (i := 0) rfl))) (mvT hZ (hw _ (List.mem_of_getElem? (i := 1) rfl))) (mvT hZ (hw _ (List.mem_of_getElem? (i := 2) rfl))) (mvT hZ (hw _ (List.mem_of_getElem? (i := 3) rfl))) (by decide) (backOf (W := 0) (rm1 l Z a0 hw [] q1 p3 (p4 &&& (3 : Int32)) h0 n0 O0) hZ (hw _ (List.mem_of_getElem? (i := 3) rfl)) (hw _ (List.mem_of_getElem? (i := 2) rfl)) (by decide) (by decide)) (g := (mkF m 7 #[.val (.long q1), .second, .val (.long q2), .second, .val (.int p3), .val (.int p4), .unset, .unset, .unset, .unset, .unset, .unset, .unset, .unset, .unset, .unset, .unset] [(.int (p4 &&& (3 : Int32))), (.int p3), (.long q1)])) rfl (by rw [hml]; rfl) (argsL := [(.long q1), (.int p3), (.int (p4 &&& (3 : Int32)))]) (rest := []) (lenOf pd__JII_J rfl) rfl (by show 2 * 0 + _ ≤ _; exact Nat.le_of_eq rfl) (hb hby at_7) (fun _ _ => ⟨rfl, e0, (by decide : 0 + 0 ≤ _), (by decide : 0 + 0 ≤ _)⟩)
  dsimp only [Pt.U, Pt.locs, Pt.cells, Pt.slots] at X1 l1 y1 z1 st1 hQ1
  subst l1 y1 z1
  obtain ⟨rfl, Nq1, e1⟩ := hQ1
  have N1 := Fr.app N0 Nq1
  obtain ⟨_, _, ⟨T2, L2, k2, n2⟩, -, X2, ⟨Lc2, hQ2, l2, y2, z2⟩, st2⟩ := Jvm.LawKit.callS X1 hx (y := (⟨"com/example/horae/horae/model/FixedRateStarvationLimitMsPinLaw", "policy", "(I)Lcom/example/horae/horae/model/OverrunPolicy;"⟩ : MethodName)) hown (mvT hZ (hw _ (List.mem_of_getElem? (i := 5) rfl))) (mvT hZ (hw _ (List.mem_of_getElem? (i := 6) rfl))) (mvT hZ (hw _ (List.mem_of_getElem? (i := 2) rfl))) (mvT hZ (hw _ (List.mem_of_getElem? (i := 7) rfl))) (by decide) (backOf (W := 0) (rm2 l Z a0 hw [] (p4 >>> ((2 : Int32) &&& 31)) w3 w4 w5 h0 n0 O0 S_DROP_TICK S_SKIP_NEXT S_CATCH_UP_ONCE) hZ (hw _ (List.mem_of_getElem? (i := 7) rfl)) (hw _ (List.mem_of_getElem? (i := 2) rfl)) (by decide) (by decide)) (g := (mkF m 23 #[.val (.long q1), .second, .val (.long q2), .second, .val (.int p3), .val (.int p4), .val (.long (own_per q1 p3 (p4 &&& (3 : Int32)))), .second, .val (.long (q2 &&& (9223372036854775807 : Int64))), .second, .unset, .unset, .unset, .unset, .unset, .unset, .unset] [(.int (p4 >>> ((2 : Int32) &&& 31)))])) rfl (by rw [hml]; rfl) (argsL := [(.int (p4 >>> ((2 : Int32) &&& 31)))]) (rest := []) (lenOf pd__I_Lcom_example_horae_horae_model_OverrunPolicy_ rfl) rfl (by show 2 * 0 + _ ≤ _; exact Nat.le_of_eq rfl) (hb hby at_23) (fun _ _ => ⟨rfl, e1, (by decide : 0 + 0 ≤ _), (by decide : 0 + 0 ≤ _)⟩)
  dsimp only [Pt.U, Pt.locs, Pt.cells, Pt.slots] at X2 l2 y2 z2 st2 hQ2
  subst l2 y2 z2
  obtain ⟨r_2, rfl, Nq2, e2⟩ := hQ2
  have N2 := Fr.app N1 Nq2
  obtain ⟨T6, h6, X6, e6, E6, A6, D6, U6, st6⟩ := newO X2 hx hZ hown (hw _ (List.mem_of_getElem? (i := 11) rfl)) (hw _ (List.mem_of_getElem? (i := 12) rfl)) (hw _ (List.mem_of_getElem? (i := 13) rfl)) e2 (g := (mkF m 44 #[.val (.long q1), .second, .val (.long q2), .second, .val (.int p3), .val (.int p4), .val (.long (own_per q1 p3 (p4 &&& (3 : Int32)))), .second, .val (.long (q2 &&& (9223372036854775807 : Int64))), .second, .val (.ref r_2), .val (.int (1 : Int32)), .unset, .unset, .unset, .unset, .unset] [])) rfl (hb hby at_44) (by decide) (by decide)
  obtain ⟨b6, g6⟩ : ∃ z, z = h0.size := ⟨_, rfl⟩
  rw [← g6] at A6 D6 st6
  have g_b6 : n0 ≤ b6 := Nat.le_trans (Nat.le_of_eq O0.1.symm) (Nat.le_trans O0.2.1 (Nat.le_of_eq g6.symm))
  have sz_b6 : h0.size ≤ b6 := Nat.le_trans (Keep.refl h0 []).1 (Nat.le_of_eq g6.symm)
  have O6 := O0.ext E6
  have K6 : Keep h0 h6 [] := (Keep.refl h0 []).ext E6
  have F_periodMs_b6 : Fld Z h6 b6 "com/example/horae/horae/model/FixedRate" "periodMs" "J" (.long (0 : Int64)) := D6 (Or.inr (hw _ (List.mem_of_getElem? (i := 38) rfl))) (ty := .long) (by decide)
  have F_tickBudgetMs_b6 : Fld Z h6 b6 "com/example/horae/horae/model/FixedRate" "tickBudgetMs" "J" (.long (0 : Int64)) := D6 (Or.inr (hw _ (List.mem_of_getElem? (i := 40) rfl))) (ty := .long) (by decide)
  have F_overrunPolicy_b6 : Fld Z h6 b6 "com/example/horae/horae/model/FixedRate" "overrunPolicy" "Lcom/example/horae/horae/model/OverrunPolicy;" .null := D6 (Or.inr (hw _ (List.mem_of_getElem? (i := 42) rfl))) (ty := (.object "com/example/horae/horae/model/OverrunPolicy")) (by decide)
  have F_wallClockEnabled_b6 : Fld Z h6 b6 "com/example/horae/horae/model/FixedRate" "wallClockEnabled" "Z" (.int (0 : Int32)) := D6 (Or.inr (hw _ (List.mem_of_getElem? (i := 44) rfl))) (ty := .boolean) (by decide)
  obtain ⟨_, _, ⟨T7, L7, k7, n7⟩, -, X7, hSn7, hgr7, ⟨Lc7, hQ7, l7, y7, z7⟩, st7⟩ := (show Stand p l e _ (s.setVm s.vm) m _ below meth c _ _ _ _ from X6).specialBackS hx (y := (⟨"com/example/horae/horae/model/FixedRate", "<init>", "(JJLcom/example/horae/horae/model/OverrunPolicy;Z)V"⟩ : MethodName)) rfl hown (mvT hZ (hw _ (List.mem_of_getElem? (i := 14) rfl))) (mvT hZ (hw _ (List.mem_of_getElem? (i := 15) rfl))) (mvT hZ (hw _ (List.mem_of_getElem? (i := 16) rfl))) (by decide) (backOfS (W := 1) (rm3 l Z a0 hw [] b6 (own_per q1 p3 (p4 &&& (3 : Int32))) (q2 &&& (9223372036854775807 : Int64)) r_2 (1 : Int32) (.long (0 : Int64)) (.long (0 : Int64)) .null (.int (0 : Int32)) h6 n0 O6 A6 F_periodMs_b6 g_b6 F_tickBudgetMs_b6 F_overrunPolicy_b6 F_wallClockEnabled_b6 hc15_7 hc35_7) hZ (hw _ (List.mem_of_getElem? (i := 16) rfl)) (hw _ (List.mem_of_getElem? (i := 13) rfl)) (by decide) (by decide)) (g := (mkF m 56 #[.val (.long q1), .second, .val (.long q2), .second, .val (.int p3), .val (.int p4), .val (.long (own_per q1 p3 (p4 &&& (3 : Int32)))), .second, .val (.long (q2 &&& (9223372036854775807 : Int64))), .second, .val (.ref r_2), .val (.int (1 : Int32)), .unset, .unset, .unset, .unset, .unset] [(.int (1 : Int32)), (.ref r_2), (.long (q2 &&& (9223372036854775807 : Int64))), (.long (own_per q1 p3 (p4 &&& (3 : Int32)))), (.ref b6), (.ref b6)])) rfl (by rw [hml]; rfl) (Steps.refl _) (a := b6) (argsL := [(.long (own_per q1 p3 (p4 &&& (3 : Int32)))), (.long (q2 &&& (9223372036854775807 : Int64))), (.ref r_2), (.int (1 : Int32))]) (rest := [(.ref b6)]) (lenOf pd__JJLcom_example_horae_horae_model_OverrunPolicy_Z_V rfl) rfl (by show 2 * 0 + _ ≤ _; exact Nat.le_of_eq rfl) (hb hby at_56) (fun _ _ => ⟨rfl, e6, (by decide : 1 + 2 ≤ _), (by decide : 4 + 56 ≤ _)⟩)
  dsimp only [Pt.U, Pt.locs, Pt.cells, Pt.slots] at X7 l7 y7 z7 st7 hQ7 hSn7 hgr7
  subst l7 y7 z7
  obtain ⟨X7, hS7, hZ7, hown7⟩ := rebS hS0 (Nat.zero_le _) X7 hSn7 hgr7 hZ hown
  obtain ⟨rfl, Nq7, O7, Kc7, q7_0, q7_1, q7_2, q7_3, q7_4⟩ := hQ7
  have N7 := Fr.app N2 Nq7
  have K7 : Keep h0 T7.heap [] := K6.trans Kc7 (allS (Or.inr sz_b6) all0)
  obtain ⟨cq8, kq8, q8a, q8b, q8c⟩ := isOf hZ7 rfl q7_0
  obtain ⟨_, _, ⟨T8, L8, k8, n8⟩, -, X8, ⟨Lc8, hQ8, l8, y8, z8⟩, st8⟩ := X7.virtualBack hx (y := (⟨"com/example/horae/horae/model/FixedRate", "starvationLimitMs", "()J"⟩ : MethodName)) (z := (⟨"com/example/horae/horae/model/FixedRate", "starvationLimitMs", "()J"⟩ : MethodName)) hown7 (mvT hZ7 (hw _ (List.mem_of_getElem? (i := 46) rfl))) (mvT hZ7 (hw _ (List.mem_of_getElem? (i := 47) rfl))) (notFace_of_selects (args := #[]) (mvT hZ7 (hw _ (List.mem_of_getElem? (i := 49) rfl)))) (mvT hZ7 (hw _ (List.mem_of_getElem? (i := 49) rfl))) (mvT hZ7 (hw _ (List.mem_of_getElem? (i := 48) rfl))) (by decide) (backOf (W := 0) (rm7_f l Z a0 hw [] b6 (own_per q1 p3 (p4 &&& (3 : Int32))) T7.heap n0 O7 q7_1 hc12_8) hZ7 (hw _ (List.mem_of_getElem? (i := 50) rfl)) (hw _ (List.mem_of_getElem? (i := 13) rfl)) (by decide) (by decide)) q8a q8c (g := (mkF m 93 #[.val (.long q1), .second, .val (.long q2), .second, .val (.int p3), .val (.int p4), .val (.long (own_per q1 p3 (p4 &&& (3 : Int32)))), .second, .val (.long (q2 &&& (9223372036854775807 : Int64))), .second, .val (.ref r_2), .val (.int (1 : Int32)), .val (.ref b6), .val (.long ((own_per q1 p3 (p4 &&& (3 : Int32))) * (5 : Int64))), .second, .val (.long ((own_per q1 p3 (p4 &&& (3 : Int32))) * (5 : Int64))), .second] [(.ref b6)])) rfl (by rw [hml]; rfl) (Steps.refl _) (argsL := []) (rest := []) (lenOf pd___J rfl) rfl (by show 2 * 0 + _ ≤ _; exact Nat.le_of_eq rfl) (hb hby at_93) (fun _ _ => ⟨rfl, rfl, (by decide : 3 + 0 ≤ _), (by decide : 60 + 0 ≤ _)⟩)
  dsimp only [Pt.U, Pt.locs, Pt.cells, Pt.slots] at X8 l8 y8 z8 st8 hQ8
  subst l8 y8 z8
  obtain ⟨rfl, Nq8, e8⟩ := hQ8
  have N8 := Fr.app N7 Nq8
  obtain ⟨fs, hr, hrun, hended, hRW⟩ := X8.leaveW hS7 (by rw [e8]; exact (Nat.le_refl _)) (v := some (.int (1 : Int32))) (fun h => by rw [Bd.returns] at h; cases h)
  refine ⟨_, _, pre0 _ ?_, hrun, hended, _, _, rfl, ?_, hRW.1, hRW.2.1, hRW.2.2.1, hRW.2.2.2.mono (by decide) (by decide)⟩
  · show Steps p.tables e below (s₁.setTop (mkF m 0 #[.val (.long q1), .second, .val (.long q2), .second, .val (.int p3), .val (.int p4), .unset, .unset, .unset, .unset, .unset, .unset, .unset, .unset, .unset, .unset, .unset] [])) _
    refine XS.lloadN X0.here hx rfl (hb hby at_0) rfl ?_
    show Steps p.tables e below (s₁.setTop (mkF m 1 #[.val (.long q1), .second, .val (.long q2), .second, .val (.int p3), .val (.int p4), .unset, .unset, .unset, .unset, .unset, .unset, .unset, .unset, .unset, .unset, .unset] [(.long q1)])) _
    refine XS.iload X0.here hx rfl (hb hby at_1) rfl ?_
    show Steps p.tables e below (s₁.setTop (mkF m 3 #[.val (.long q1), .second, .val (.long q2), .second, .val (.int p3), .val (.int p4), .unset, .unset, .unset, .unset, .unset, .unset, .unset, .unset, .unset, .unset, .unset] [(.int p3), (.long q1)])) _
    refine XS.iload X0.here hx rfl (hb hby at_3) rfl ?_
    show Steps p.tables e below (s₁.setTop (mkF m 5 #[.val (.long q1), .second, .val (.long q2), .second, .val (.int p3), .val (.int p4), .unset, .unset, .unset, .unset, .unset, .unset, .unset, .unset, .unset, .unset, .unset] [(.int p4), (.int p3), (.long q1)])) _
    refine XS.iconst X0.here hx rfl (hb hby at_5) ?_
    show Steps p.tables e below (s₁.setTop (mkF m 6 #[.val (.long q1), .second, .val (.long q2), .second, .val (.int p3), .val (.int p4), .unset, .unset, .unset, .unset, .unset, .unset, .unset, .unset, .unset, .unset, .unset] [(.int (3 : Int32)), (.int p4), (.int p3), (.long q1)])) _
    refine XS.iand X0.here hx rfl (hb hby at_6) rfl ?_
    show Steps p.tables e below (s₁.setTop (mkF m 7 #[.val (.long q1), .second, .val (.long q2), .second, .val (.int p3), .val (.int p4), .unset, .unset, .unset, .unset, .unset, .unset, .unset, .unset, .unset, .unset, .unset] [(.int (p4 &&& (3 : Int32))), (.int p3), (.long q1)])) _
    refine st1 _ ?_
    show Steps p.tables e below (T1.setTop (mkF m 10 #[.val (.long q1), .second, .val (.long q2), .second, .val (.int p3), .val (.int p4), .unset, .unset, .unset, .unset, .unset, .unset, .unset, .unset, .unset, .unset, .unset] [(.long (own_per q1 p3 (p4 &&& (3 : Int32))))])) _
    refine XS.lstore X1.here hx rfl (hb hby at_10) rfl (l' := #[.val (.long q1), .second, .val (.long q2), .second, .val (.int p3), .val (.int p4), .val (.long (own_per q1 p3 (p4 &&& (3 : Int32)))), .second, .unset, .unset, .unset, .unset, .unset, .unset, .unset, .unset, .unset]) rfl ?_
    show Steps p.tables e below (T1.setTop (mkF m 12 #[.val (.long q1), .second, .val (.long q2), .second, .val (.int p3), .val (.int p4), .val (.long (own_per q1 p3 (p4 &&& (3 : Int32)))), .second, .unset, .unset, .unset, .unset, .unset, .unset, .unset, .unset, .unset] [])) _
    refine XS.lloadN X1.here hx rfl (hb hby at_12) rfl ?_
    show Steps p.tables e below (T1.setTop (mkF m 13 #[.val (.long q1), .second, .val (.long q2), .second, .val (.int p3), .val (.int p4), .val (.long (own_per q1 p3 (p4 &&& (3 : Int32)))), .second, .unset, .unset, .unset, .unset, .unset, .unset, .unset, .unset, .unset] [(.long q2)])) _
    refine X1.ldc2Long hx hown (mvT hZ (hw _ (List.mem_of_getElem? (i := 4) rfl))) (g := (mkF m 13 #[.val (.long q1), .second, .val (.long q2), .second, .val (.int p3), .val (.int p4), .val (.long (own_per q1 p3 (p4 &&& (3 : Int32)))), .second, .unset, .unset, .unset, .unset, .unset, .unset, .unset, .unset, .unset] [(.long q2)])) rfl (hb hby at_13) _ ?_
    show Steps p.tables e below (T1.setTop (mkF m 16 #[.val (.long q1), .second, .val (.long q2), .second, .val (.int p3), .val (.int p4), .val (.long (own_per q1 p3 (p4 &&& (3 : Int32)))), .second, .unset, .unset, .unset, .unset, .unset, .unset, .unset, .unset, .unset] [(.long (9223372036854775807 : Int64)), (.long q2)])) _
    refine XS.land X1.here hx rfl (hb hby at_16) rfl ?_
    show Steps p.tables e below (T1.setTop (mkF m 17 #[.val (.long q1), .second, .val (.long q2), .second, .val (.int p3), .val (.int p4), .val (.long (own_per q1 p3 (p4 &&& (3 : Int32)))), .second, .unset, .unset, .unset, .unset, .unset, .unset, .unset, .unset, .unset] [(.long (q2 &&& (9223372036854775807 : Int64)))])) _
    refine XS.lstore X1.here hx rfl (hb hby at_17) rfl (l' := #[.val (.long q1), .second, .val (.long q2), .second, .val (.int p3), .val (.int p4), .val (.long (own_per q1 p3 (p4 &&& (3 : Int32)))), .second, .val (.long (q2 &&& (9223372036854775807 : Int64))), .second, .unset, .unset, .unset, .unset, .unset, .unset, .unset]) rfl ?_
    show Steps p.tables e below (T1.setTop (mkF m 19 #[.val (.long q1), .second, .val (.long q2), .second, .val (.int p3), .val (.int p4), .val (.long (own_per q1 p3 (p4 &&& (3 : Int32)))), .second, .val (.long (q2 &&& (9223372036854775807 : Int64))), .second, .unset, .unset, .unset, .unset, .unset, .unset, .unset] [])) _
    refine XS.iload X1.here hx rfl (hb hby at_19) rfl ?_
    show Steps p.tables e below (T1.setTop (mkF m 21 #[.val (.long q1), .second, .val (.long q2), .second, .val (.int p3), .val (.int p4), .val (.long (own_per q1 p3 (p4 &&& (3 : Int32)))), .second, .val (.long (q2 &&& (9223372036854775807 : Int64))), .second, .unset, .unset, .unset, .unset, .unset, .unset, .unset] [(.int p4)])) _
    refine XS.iconst X1.here hx rfl (hb hby at_21) ?_
    show Steps p.tables e below (T1.setTop (mkF m 22 #[.val (.long q1), .second, .val (.long q2), .second, .val (.int p3), .val (.int p4), .val (.long (own_per q1 p3 (p4 &&& (3 : Int32)))), .second, .val (.long (q2 &&& (9223372036854775807 : Int64))), .second, .unset, .unset, .unset, .unset, .unset, .unset, .unset] [(.int (2 : Int32)), (.int p4)])) _
    refine XS.ishr X1.here hx rfl (hb hby at_22) rfl ?_
    show Steps p.tables e below (T1.setTop (mkF m 23 #[.val (.long q1), .second, .val (.long q2), .second, .val (.int p3), .val (.int p4), .val (.long (own_per q1 p3 (p4 &&& (3 : Int32)))), .second, .val (.long (q2 &&& (9223372036854775807 : Int64))), .second, .unset, .unset, .unset, .unset, .unset, .unset, .unset] [(.int (p4 >>> ((2 : Int32) &&& 31)))])) _
    refine st2 _ ?_
    show Steps p.tables e below (T2.setTop (mkF m 26 #[.val (.long q1), .second, .val (.long q2), .second, .val (.int p3), .val (.int p4), .val (.long (own_per q1 p3 (p4 &&& (3 : Int32)))), .second, .val (.long (q2 &&& (9223372036854775807 : Int64))), .second, .unset, .unset, .unset, .unset, .unset, .unset, .unset] [(.ref r_2)])) _
    refine XS.astore X2.here hx rfl (hb hby at_26) rfl rfl (l' := #[.val (.long q1), .second, .val (.long q2), .second, .val (.int p3), .val (.int p4), .val (.long (own_per q1 p3 (p4 &&& (3 : Int32)))), .second, .val (.long (q2 &&& (9223372036854775807 : Int64))), .second, .val (.ref r_2), .unset, .unset, .unset, .unset, .unset, .unset]) rfl ?_
    show Steps p.tables e below (T2.setTop (mkF m 28 #[.val (.long q1), .second, .val (.long q2), .second, .val (.int p3), .val (.int p4), .val (.long (own_per q1 p3 (p4 &&& (3 : Int32)))), .second, .val (.long (q2 &&& (9223372036854775807 : Int64))), .second, .val (.ref r_2), .unset, .unset, .unset, .unset, .unset, .unset] [])) _
    refine XS.iload X2.here hx rfl (hb hby at_28) rfl ?_
    show Steps p.tables e below (T2.setTop (mkF m 30 #[.val (.long q1), .second, .val (.long q2), .second, .val (.int p3), .val (.int p4), .val (.long (own_per q1 p3 (p4 &&& (3 : Int32)))), .second, .val (.long (q2 &&& (9223372036854775807 : Int64))), .second, .val (.ref r_2), .unset, .unset, .unset, .unset, .unset, .unset] [(.int p4)])) _
    refine XS.iconst X2.here hx rfl (hb hby at_30) ?_
    show Steps p.tables e below (T2.setTop (mkF m 31 #[.val (.long q1), .second, .val (.long q2), .second, .val (.int p3), .val (.int p4), .val (.long (own_per q1 p3 (p4 &&& (3 : Int32)))), .second, .val (.long (q2 &&& (9223372036854775807 : Int64))), .second, .val (.ref r_2), .unset, .unset, .unset, .unset, .unset, .unset] [(.int (4 : Int32)), (.int p4)])) _
    refine XS.ishr X2.here hx rfl (hb hby at_31) rfl ?_
    show Steps p.tables e below (T2.setTop (mkF m 32 #[.val (.long q1), .second, .val (.long q2), .second, .val (.int p3), .val (.int p4), .val (.long (own_per q1 p3 (p4 &&& (3 : Int32)))), .second, .val (.long (q2 &&& (9223372036854775807 : Int64))), .second, .val (.ref r_2), .unset, .unset, .unset, .unset, .unset, .unset] [(.int (p4 >>> ((4 : Int32) &&& 31)))])) _
    refine XS.iconst X2.here hx rfl (hb hby at_32) ?_
    show Steps p.tables e below (T2.setTop (mkF m 33 #[.val (.long q1), .second, .val (.long q2), .second, .val (.int p3), .val (.int p4), .val (.long (own_per q1 p3 (p4 &&& (3 : Int32)))), .second, .val (.long (q2 &&& (9223372036854775807 : Int64))), .second, .val (.ref r_2), .unset, .unset, .unset, .unset, .unset, .unset] [(.int (1 : Int32)), (.int (p4 >>> ((4 : Int32) &&& 31)))])) _
    refine XS.iand X2.here hx rfl (hb hby at_33) rfl ?_
    show Steps p.tables e below (T2.setTop (mkF m 34 #[.val (.long q1), .second, .val (.long q2), .second, .val (.int p3), .val (.int p4), .val (.long (own_per q1 p3 (p4 &&& (3 : Int32)))), .second, .val (.long (q2 &&& (9223372036854775807 : Int64))), .second, .val (.ref r_2), .unset, .unset, .unset, .unset, .unset, .unset] [(.int ((p4 >>> ((4 : Int32) &&& 31)) &&& (1 : Int32)))])) _
    refine XS.ifNo X2.here hx rfl (hb hby at_34) rfl ((if0 _ _).trans (feq hc34).1) ?_
    show Steps p.tables e below (T2.setTop (mkF m 37 #[.val (.long q1), .second, .val (.long q2), .second, .val (.int p3), .val (.int p4), .val (.long (own_per q1 p3 (p4 &&& (3 : Int32)))), .second, .val (.long (q2 &&& (9223372036854775807 : Int64))), .second, .val (.ref r_2), .unset, .unset, .unset, .unset, .unset, .unset] [])) _
    refine XS.iconst X2.here hx rfl (hb hby at_37) ?_
    show Steps p.tables e below (T2.setTop (mkF m 38 #[.val (.long q1), .second, .val (.long q2), .second, .val (.int p3), .val (.int p4), .val (.long (own_per q1 p3 (p4 &&& (3 : Int32)))), .second, .val (.long (q2 &&& (9223372036854775807 : Int64))), .second, .val (.ref r_2), .unset, .unset, .unset, .unset, .unset, .unset] [(.int (1 : Int32))])) _
    refine XS.goto X2.here hx rfl (pc0 := 38) (pc' := 42) rfl (hb hby at_38) (by decide) (by decide) ?_
    show Steps p.tables e below (T2.setTop (mkF m 42 #[.val (.long q1), .second, .val (.long q2), .second, .val (.int p3), .val (.int p4), .val (.long (own_per q1 p3 (p4 &&& (3 : Int32)))), .second, .val (.long (q2 &&& (9223372036854775807 : Int64))), .second, .val (.ref r_2), .unset, .unset, .unset, .unset, .unset, .unset] [(.int (1 : Int32))])) _
    refine XS.istore X2.here hx rfl (hb hby at_42) rfl (l' := #[.val (.long q1), .second, .val (.long q2), .second, .val (.int p3), .val (.int p4), .val (.long (own_per q1 p3 (p4 &&& (3 : Int32)))), .second, .val (.long (q2 &&& (9223372036854775807 : Int64))), .second, .val (.ref r_2), .val (.int (1 : Int32)), .unset, .unset, .unset, .unset, .unset]) rfl ?_
    show Steps p.tables e below (T2.setTop (mkF m 44 #[.val (.long q1), .second, .val (.long q2), .second, .val (.int p3), .val (.int p4), .val (.long (own_per q1 p3 (p4 &&& (3 : Int32)))), .second, .val (.long (q2 &&& (9223372036854775807 : Int64))), .second, .val (.ref r_2), .val (.int (1 : Int32)), .unset, .unset, .unset, .unset, .unset] [])) _
    refine st6 _ ?_
    show Steps p.tables e below (T6.setTop (mkF m 47 #[.val (.long q1), .second, .val (.long q2), .second, .val (.int p3), .val (.int p4), .val (.long (own_per q1 p3 (p4 &&& (3 : Int32)))), .second, .val (.long (q2 &&& (9223372036854775807 : Int64))), .second, .val (.ref r_2), .val (.int (1 : Int32)), .unset, .unset, .unset, .unset, .unset] [(.ref b6)])) _
    refine XS.dup X6.here hx rfl (hb hby at_47) rfl rfl ?_
    show Steps p.tables e below (T6.setTop (mkF m 48 #[.val (.long q1), .second, .val (.long q2), .second, .val (.int p3), .val (.int p4), .val (.long (own_per q1 p3 (p4 &&& (3 : Int32)))), .second, .val (.long (q2 &&& (9223372036854775807 : Int64))), .second, .val (.ref r_2), .val (.int (1 : Int32)), .unset, .unset, .unset, .unset, .unset] [(.ref b6), (.ref b6)])) _
    refine XS.lload X6.here hx rfl (hb hby at_48) rfl ?_
    show Steps p.tables e below (T6.setTop (mkF m 50 #[.val (.long q1), .second, .val (.long q2), .second, .val (.int p3), .val (.int p4), .val (.long (own_per q1 p3 (p4 &&& (3 : Int32)))), .second, .val (.long (q2 &&& (9223372036854775807 : Int64))), .second, .val (.ref r_2), .val (.int (1 : Int32)), .unset, .unset, .unset, .unset, .unset] [(.long (own_per q1 p3 (p4 &&& (3 : Int32)))), (.ref b6), (.ref b6)])) _
    refine XS.lload X6.here hx rfl (hb hby at_50) rfl ?_
    show Steps p.tables e below (T6.setTop (mkF m 52 #[.val (.long q1), .second, .val (.long q2), .second, .val (.int p3), .val (.int p4), .val (.long (own_per q1 p3 (p4 &&& (3 : Int32)))), .second, .val (.long (q2 &&& (9223372036854775807 : Int64))), .second, .val (.ref r_2), .val (.int (1 : Int32)), .unset, .unset, .unset, .unset, .unset] [(.long (q2 &&& (9223372036854775807 : Int64))), (.long (own_per q1 p3 (p4 &&& (3 : Int32)))), (.ref b6), (.ref b6)])) _
    refine XS.aload X6.here hx rfl (hb hby at_52) rfl rfl ?_
    show Steps p.tables e below (T6.setTop (mkF m 54 #[.val (.long q1), .second, .val (.long q2), .second, .val (.int p3), .val (.int p4), .val (.long (own_per q1 p3 (p4 &&& (3 : Int32)))), .second, .val (.long (q2 &&& (9223372036854775807 : Int64))), .second, .val (.ref r_2), .val (.int (1 : Int32)), .unset, .unset, .unset, .unset, .unset] [(.ref r_2), (.long (q2 &&& (9223372036854775807 : Int64))), (.long (own_per q1 p3 (p4 &&& (3 : Int32)))), (.ref b6), (.ref b6)])) _
    refine XS.iload X6.here hx rfl (hb hby at_54) rfl ?_
    show Steps p.tables e below (T6.setTop (mkF m 56 #[.val (.long q1), .second, .val (.long q2), .second, .val (.int p3), .val (.int p4), .val (.long (own_per q1 p3 (p4 &&& (3 : Int32)))), .second, .val (.long (q2 &&& (9223372036854775807 : Int64))), .second, .val (.ref r_2), .val (.int (1 : Int32)), .unset, .unset, .unset, .unset, .unset] [(.int (1 : Int32)), (.ref r_2), (.long (q2 &&& (9223372036854775807 : Int64))), (.long (own_per q1 p3 (p4 &&& (3 : Int32)))), (.ref b6), (.ref b6)])) _
    refine st7.trans ?_
    show Steps p.tables e below (T7.setTop (mkF m 59 #[.val (.long q1), .second, .val (.long q2), .second, .val (.int p3), .val (.int p4), .val (.long (own_per q1 p3 (p4 &&& (3 : Int32)))), .second, .val (.long (q2 &&& (9223372036854775807 : Int64))), .second, .val (.ref r_2), .val (.int (1 : Int32)), .unset, .unset, .unset, .unset, .unset] [(.ref b6)])) _
    refine XS.astore X7.here hx rfl (hb hby at_59) rfl rfl (l' := #[.val (.long q1), .second, .val (.long q2), .second, .val (.int p3), .val (.int p4), .val (.long (own_per q1 p3 (p4 &&& (3 : Int32)))), .second, .val (.long (q2 &&& (9223372036854775807 : Int64))), .second, .val (.ref r_2), .val (.int (1 : Int32)), .val (.ref b6), .unset, .unset, .unset, .unset]) rfl ?_
    show Steps p.tables e below (T7.setTop (mkF m 61 #[.val (.long q1), .second, .val (.long q2), .second, .val (.int p3), .val (.int p4), .val (.long (own_per q1 p3 (p4 &&& (3 : Int32)))), .second, .val (.long (q2 &&& (9223372036854775807 : Int64))), .second, .val (.ref r_2), .val (.int (1 : Int32)), .val (.ref b6), .unset, .unset, .unset, .unset] [])) _
    refine XS.lload X7.here hx rfl (hb hby at_61) rfl ?_
    show Steps p.tables e below (T7.setTop (mkF m 63 #[.val (.long q1), .second, .val (.long q2), .second, .val (.int p3), .val (.int p4), .val (.long (own_per q1 p3 (p4 &&& (3 : Int32)))), .second, .val (.long (q2 &&& (9223372036854775807 : Int64))), .second, .val (.ref r_2), .val (.int (1 : Int32)), .val (.ref b6), .unset, .unset, .unset, .unset] [(.long (own_per q1 p3 (p4 &&& (3 : Int32))))])) _
    refine X7.ldc2Long hx hown7 (mvT hZ7 (hw _ (List.mem_of_getElem? (i := 45) rfl))) (g := (mkF m 63 #[.val (.long q1), .second, .val (.long q2), .second, .val (.int p3), .val (.int p4), .val (.long (own_per q1 p3 (p4 &&& (3 : Int32)))), .second, .val (.long (q2 &&& (9223372036854775807 : Int64))), .second, .val (.ref r_2), .val (.int (1 : Int32)), .val (.ref b6), .unset, .unset, .unset, .unset] [(.long (own_per q1 p3 (p4 &&& (3 : Int32))))])) rfl (hb hby at_63) _ ?_
    show Steps p.tables e below (T7.setTop (mkF m 66 #[.val (.long q1), .second, .val (.long q2), .second, .val (.int p3), .val (.int p4), .val (.long (own_per q1 p3 (p4 &&& (3 : Int32)))), .second, .val (.long (q2 &&& (9223372036854775807 : Int64))), .second, .val (.ref r_2), .val (.int (1 : Int32)), .val (.ref b6), .unset, .unset, .unset, .unset] [(.long (5 : Int64)), (.long (own_per q1 p3 (p4 &&& (3 : Int32))))])) _
    refine XS.lmul X7.here hx rfl (hb hby at_66) rfl ?_
    show Steps p.tables e below (T7.setTop (mkF m 67 #[.val (.long q1), .second, .val (.long q2), .second, .val (.int p3), .val (.int p4), .val (.long (own_per q1 p3 (p4 &&& (3 : Int32)))), .second, .val (.long (q2 &&& (9223372036854775807 : Int64))), .second, .val (.ref r_2), .val (.int (1 : Int32)), .val (.ref b6), .unset, .unset, .unset, .unset] [(.long ((own_per q1 p3 (p4 &&& (3 : Int32))) * (5 : Int64)))])) _
    refine XS.lstore X7.here hx rfl (hb hby at_67) rfl (l' := #[.val (.long q1), .second, .val (.long q2), .second, .val (.int p3), .val (.int p4), .val (.long (own_per q1 p3 (p4 &&& (3 : Int32)))), .second, .val (.long (q2 &&& (9223372036854775807 : Int64))), .second, .val (.ref r_2), .val (.int (1 : Int32)), .val (.ref b6), .val (.long ((own_per q1 p3 (p4 &&& (3 : Int32))) * (5 : Int64))), .second, .unset, .unset]) rfl ?_
    show Steps p.tables e below (T7.setTop (mkF m 69 #[.val (.long q1), .second, .val (.long q2), .second, .val (.int p3), .val (.int p4), .val (.long (own_per q1 p3 (p4 &&& (3 : Int32)))), .second, .val (.long (q2 &&& (9223372036854775807 : Int64))), .second, .val (.ref r_2), .val (.int (1 : Int32)), .val (.ref b6), .val (.long ((own_per q1 p3 (p4 &&& (3 : Int32))) * (5 : Int64))), .second, .unset, .unset] [])) _
    refine XS.lload X7.here hx rfl (hb hby at_69) rfl ?_
    show Steps p.tables e below (T7.setTop (mkF m 71 #[.val (.long q1), .second, .val (.long q2), .second, .val (.int p3), .val (.int p4), .val (.long (own_per q1 p3 (p4 &&& (3 : Int32)))), .second, .val (.long (q2 &&& (9223372036854775807 : Int64))), .second, .val (.ref r_2), .val (.int (1 : Int32)), .val (.ref b6), .val (.long ((own_per q1 p3 (p4 &&& (3 : Int32))) * (5 : Int64))), .second, .unset, .unset] [(.long ((own_per q1 p3 (p4 &&& (3 : Int32))) * (5 : Int64)))])) _
    refine X7.ldc2Long hx hown7 (mvT hZ7 (hw _ (List.mem_of_getElem? (i := 45) rfl))) (g := (mkF m 71 #[.val (.long q1), .second, .val (.long q2), .second, .val (.int p3), .val (.int p4), .val (.long (own_per q1 p3 (p4 &&& (3 : Int32)))), .second, .val (.long (q2 &&& (9223372036854775807 : Int64))), .second, .val (.ref r_2), .val (.int (1 : Int32)), .val (.ref b6), .val (.long ((own_per q1 p3 (p4 &&& (3 : Int32))) * (5 : Int64))), .second, .unset, .unset] [(.long ((own_per q1 p3 (p4 &&& (3 : Int32))) * (5 : Int64)))])) rfl (hb hby at_71) _ ?_
    show Steps p.tables e below (T7.setTop (mkF m 74 #[.val (.long q1), .second, .val (.long q2), .second, .val (.int p3), .val (.int p4), .val (.long (own_per q1 p3 (p4 &&& (3 : Int32)))), .second, .val (.long (q2 &&& (9223372036854775807 : Int64))), .second, .val (.ref r_2), .val (.int (1 : Int32)), .val (.ref b6), .val (.long ((own_per q1 p3 (p4 &&& (3 : Int32))) * (5 : Int64))), .second, .unset, .unset] [(.long (5 : Int64)), (.long ((own_per q1 p3 (p4 &&& (3 : Int32))) * (5 : Int64)))])) _
    refine XS.ldiv X7.here hx rfl (hb hby at_74) rfl (by decide) ?_
    show Steps p.tables e below (T7.setTop (mkF m 75 #[.val (.long q1), .second, .val (.long q2), .second, .val (.int p3), .val (.int p4), .val (.long (own_per q1 p3 (p4 &&& (3 : Int32)))), .second, .val (.long (q2 &&& (9223372036854775807 : Int64))), .second, .val (.ref r_2), .val (.int (1 : Int32)), .val (.ref b6), .val (.long ((own_per q1 p3 (p4 &&& (3 : Int32))) * (5 : Int64))), .second, .unset, .unset] [(.long (((own_per q1 p3 (p4 &&& (3 : Int32))) * (5 : Int64)) / (5 : Int64)))])) _
    refine XS.lload X7.here hx rfl (hb hby at_75) rfl ?_
    show Steps p.tables e below (T7.setTop (mkF m 77 #[.val (.long q1), .second, .val (.long q2), .second, .val (.int p3), .val (.int p4), .val (.long (own_per q1 p3 (p4 &&& (3 : Int32)))), .second, .val (.long (q2 &&& (9223372036854775807 : Int64))), .second, .val (.ref r_2), .val (.int (1 : Int32)), .val (.ref b6), .val (.long ((own_per q1 p3 (p4 &&& (3 : Int32))) * (5 : Int64))), .second, .unset, .unset] [(.long (own_per q1 p3 (p4 &&& (3 : Int32)))), (.long (((own_per q1 p3 (p4 &&& (3 : Int32))) * (5 : Int64)) / (5 : Int64)))])) _
    refine XS.lcmp X7.here hx rfl (hb hby at_77) rfl ?_
    show Steps p.tables e below (T7.setTop (mkF m 78 #[.val (.long q1), .second, .val (.long q2), .second, .val (.int p3), .val (.int p4), .val (.long (own_per q1 p3 (p4 &&& (3 : Int32)))), .second, .val (.long (q2 &&& (9223372036854775807 : Int64))), .second, .val (.ref r_2), .val (.int (1 : Int32)), .val (.ref b6), .val (.long ((own_per q1 p3 (p4 &&& (3 : Int32))) * (5 : Int64))), .second, .unset, .unset] [(.int (lcmpW (((own_per q1 p3 (p4 &&& (3 : Int32))) * (5 : Int64)) / (5 : Int64)) (own_per q1 p3 (p4 &&& (3 : Int32)))))])) _
    refine XS.ifNo X7.here hx rfl (hb hby at_78) rfl ((if0 _ _).trans (teq hc78).2) ?_
    show Steps p.tables e below (T7.setTop (mkF m 81 #[.val (.long q1), .second, .val (.long q2), .second, .val (.int p3), .val (.int p4), .val (.long (own_per q1 p3 (p4 &&& (3 : Int32)))), .second, .val (.long (q2 &&& (9223372036854775807 : Int64))), .second, .val (.ref r_2), .val (.int (1 : Int32)), .val (.ref b6), .val (.long ((own_per q1 p3 (p4 &&& (3 : Int32))) * (5 : Int64))), .second, .unset, .unset] [])) _
    refine XS.lload X7.here hx rfl (hb hby at_81) rfl ?_
    show Steps p.tables e below (T7.setTop (mkF m 83 #[.val (.long q1), .second, .val (.long q2), .second, .val (.int p3), .val (.int p4), .val (.long (own_per q1 p3 (p4 &&& (3 : Int32)))), .second, .val (.long (q2 &&& (9223372036854775807 : Int64))), .second, .val (.ref r_2), .val (.int (1 : Int32)), .val (.ref b6), .val (.long ((own_per q1 p3 (p4 &&& (3 : Int32))) * (5 : Int64))), .second, .unset, .unset] [(.long ((own_per q1 p3 (p4 &&& (3 : Int32))) * (5 : Int64)))])) _
    refine XS.goto X7.here hx rfl (pc0 := 83) (pc' := 89) rfl (hb hby at_83) (by decide) (by decide) ?_
    show Steps p.tables e below (T7.setTop (mkF m 89 #[.val (.long q1), .second, .val (.long q2), .second, .val (.int p3), .val (.int p4), .val (.long (own_per q1 p3 (p4 &&& (3 : Int32)))), .second, .val (.long (q2 &&& (9223372036854775807 : Int64))), .second, .val (.ref r_2), .val (.int (1 : Int32)), .val (.ref b6), .val (.long ((own_per q1 p3 (p4 &&& (3 : Int32))) * (5 : Int64))), .second, .unset, .unset] [(.long ((own_per q1 p3 (p4 &&& (3 : Int32))) * (5 : Int64)))])) _
    refine XS.lstore X7.here hx rfl (hb hby at_89) rfl (l' := #[.val (.long q1), .second, .val (.long q2), .second, .val (.int p3), .val (.int p4), .val (.long (own_per q1 p3 (p4 &&& (3 : Int32)))), .second, .val (.long (q2 &&& (9223372036854775807 : Int64))), .second, .val (.ref r_2), .val (.int (1 : Int32)), .val (.ref b6), .val (.long ((own_per q1 p3 (p4 &&& (3 : Int32))) * (5 : Int64))), .second, .val (.long ((own_per q1 p3 (p4 &&& (3 : Int32))) * (5 : Int64))), .second]) rfl ?_
    show Steps p.tables e below (T7.setTop (mkF m 91 #[.val (.long q1), .second, .val (.long q2), .second, .val (.int p3), .val (.int p4), .val (.long (own_per q1 p3 (p4 &&& (3 : Int32)))), .second, .val (.long (q2 &&& (9223372036854775807 : Int64))), .second, .val (.ref r_2), .val (.int (1 : Int32)), .val (.ref b6), .val (.long ((own_per q1 p3 (p4 &&& (3 : Int32))) * (5 : Int64))), .second, .val (.long ((own_per q1 p3 (p4 &&& (3 : Int32))) * (5 : Int64))), .second] [])) _
    refine XS.aload X7.here hx rfl (hb hby at_91) rfl rfl ?_
    show Steps p.tables e below (T7.setTop (mkF m 93 #[.val (.long q1), .second, .val (.long q2), .second, .val (.int p3), .val (.int p4), .val (.long (own_per q1 p3 (p4 &&& (3 : Int32)))), .second, .val (.long (q2 &&& (9223372036854775807 : Int64))), .second, .val (.ref r_2), .val (.int (1 : Int32)), .val (.ref b6), .val (.long ((own_per q1 p3 (p4 &&& (3 : Int32))) * (5 : Int64))), .second, .val (.long ((own_per q1 p3 (p4 &&& (3 : Int32))) * (5 : Int64))), .second] [(.ref b6)])) _
    refine st8.trans ?_
    show Steps p.tables e below (T8.setTop (mkF m 96 #[.val (.long q1), .second, .val (.long q2), .second, .val (.int p3), .val (.int p4), .val (.long (own_per q1 p3 (p4 &&& (3 : Int32)))), .second, .val (.long (q2 &&& (9223372036854775807 : Int64))), .second, .val (.ref r_2), .val (.int (1 : Int32)), .val (.ref b6), .val (.long ((own_per q1 p3 (p4 &&& (3 : Int32))) * (5 : Int64))), .second, .val (.long ((own_per q1 p3 (p4 &&& (3 : Int32))) * (5 : Int64))), .second] [(.long ((own_per q1 p3 (p4 &&& (3 : Int32))) * (5 : Int64)))])) _
    refine XS.lload X8.here hx rfl (hb hby at_96) rfl ?_
    show Steps p.tables e below (T8.setTop (mkF m 98 #[.val (.long q1), .second, .val (.long q2), .second, .val (.int p3), .val (.int p4), .val (.long (own_per q1 p3 (p4 &&& (3 : Int32)))), .second, .val (.long (q2 &&& (9223372036854775807 : Int64))), .second, .val (.ref r_2), .val (.int (1 : Int32)), .val (.ref b6), .val (.long ((own_per q1 p3 (p4 &&& (3 : Int32))) * (5 : Int64))), .second, .val (.long ((own_per q1 p3 (p4 &&& (3 : Int32))) * (5 : Int64))), .second] [(.long ((own_per q1 p3 (p4 &&& (3 : Int32))) * (5 : Int64))), (.long ((own_per q1 p3 (p4 &&& (3 : Int32))) * (5 : Int64)))])) _
    refine XS.lcmp X8.here hx rfl (hb hby at_98) rfl ?_
    show Steps p.tables e below (T8.setTop (mkF m 99 #[.val (.long q1), .second, .val (.long q2), .second, .val (.int p3), .val (.int p4), .val (.long (own_per q1 p3 (p4 &&& (3 : Int32)))), .second, .val (.long (q2 &&& (9223372036854775807 : Int64))), .second, .val (.ref r_2), .val (.int (1 : Int32)), .val (.ref b6), .val (.long ((own_per q1 p3 (p4 &&& (3 : Int32))) * (5 : Int64))), .second, .val (.long ((own_per q1 p3 (p4 &&& (3 : Int32))) * (5 : Int64))), .second] [(.int (lcmpW ((own_per q1 p3 (p4 &&& (3 : Int32))) * (5 : Int64)) ((own_per q1 p3 (p4 &&& (3 : Int32))) * (5 : Int64))))])) _
    refine XS.ifNo X8.here hx rfl (hb hby at_99) rfl ((if0 _ _).trans (teq hc99).2) ?_
    show Steps p.tables e below (T8.setTop (mkF m 102 #[.val (.long q1), .second, .val (.long q2), .second, .val (.int p3), .val (.int p4), .val (.long (own_per q1 p3 (p4 &&& (3 : Int32)))), .second, .val (.long (q2 &&& (9223372036854775807 : Int64))), .second, .val (.ref r_2), .val (.int (1 : Int32)), .val (.ref b6), .val (.long ((own_per q1 p3 (p4 &&& (3 : Int32))) * (5 : Int64))), .second, .val (.long ((own_per q1 p3 (p4 &&& (3 : Int32))) * (5 : Int64))), .second] [])) _
    refine XS.iconst X8.here hx rfl (hb hby at_102) ?_
    show Steps p.tables e below (T8.setTop (mkF m 103 #[.val (.long q1), .second, .val (.long q2), .second, .val (.int p3), .val (.int p4), .val (.long (own_per q1 p3 (p4 &&& (3 : Int32)))), .second, .val (.long (q2 &&& (9223372036854775807 : Int64))), .second, .val (.ref r_2), .val (.int (1 : Int32)), .val (.ref b6), .val (.long ((own_per q1 p3 (p4 &&& (3 : Int32))) * (5 : Int64))), .second, .val (.long ((own_per q1 p3 (p4 &&& (3 : Int32))) * (5 : Int64))), .second] [(.int (1 : Int32))])) _
    refine XS.goto X8.here hx rfl (pc0 := 103) (pc' := 107) rfl (hb hby at_103) (by decide) (by decide) ?_
    show Steps p.tables e below (T8.setTop (mkF m 107 #[.val (.long q1), .second, .val (.long q2), .second, .val (.int p3), .val (.int p4), .val (.long (own_per q1 p3 (p4 &&& (3 : Int32)))), .second, .val (.long (q2 &&& (9223372036854775807 : Int64))), .second, .val (.ref r_2), .val (.int (1 : Int32)), .val (.ref b6), .val (.long ((own_per q1 p3 (p4 &&& (3 : Int32))) * (5 : Int64))), .second, .val (.long ((own_per q1 p3 (p4 &&& (3 : Int32))) * (5 : Int64))), .second] [(.int (1 : Int32))])) _
    exact retN X8 hx (t := .boolean) Bd.returns (by simp) (hb hby at_107) hr
  · show QL n0 _ T8.heap _
    rw [e8]
    exact ⟨rfl, N8⟩
set_option maxRecDepth 65536 in
set_option maxHeartbeats 40000000 in
theorem rm0_ft (l : Launch) (Z : State) (a0 : Array Value) (hw : ∀ d ∈ tables_1, d.before a0 Z = true) (ws : List Jvm.Cond) (q1 : Int64) (q2 : Int64) (p3 : Int32) (p4 : Int32) (w3 : Addr) (w4 : Addr) (w5 : Addr) (h0 : Heap) (n0 : Nat) (O0 : Old Z n0 h0) (S_DROP_TICK : Sta Z Z.heap "com/example/horae/horae/model/OverrunPolicy" "DROP_TICK" "Lcom/example/horae/horae/model/OverrunPolicy;" (.ref w3)) (S_SKIP_NEXT : Sta Z Z.heap "com/example/horae/horae/model/OverrunPolicy" "SKIP_NEXT" "Lcom/example/horae/horae/model/OverrunPolicy;" (.ref w4)) (S_CATCH_UP_ONCE : Sta Z Z.heap "com/example/horae/horae/model/OverrunPolicy" "CATCH_UP_ONCE" "Lcom/example/horae/horae/model/OverrunPolicy;" (.ref w5)) (hc34 : ¬ (((p4 >>> ((4 : Int32) &&& 31)) &&& (1 : Int32)) = (0 : Int32))) (hc15_7 : ¬ ((lcmpW (own_per q1 p3 (p4 &&& (3 : Int32))) (1 : Int64)) < (0 : Int32))) (hc35_7 : ¬ ((lcmpW (q2 &&& (9223372036854775807 : Int64)) (0 : Int64)) < (0 : Int32))) (hc78 : ¬ ((lcmpW (((own_per q1 p3 (p4 &&& (3 : Int32))) * (5 : Int64)) / (5 : Int64)) (own_per q1 p3 (p4 &&& (3 : Int32)))) = (0 : Int32))) (hc12_8 : (0 : Int32) < (lcmpW (own_per q1 p3 (p4 &&& (3 : Int32))) (1844674407370955161 : Int64))) (hc99 : (lcmpW (9223372036854775807 : Int64) (9223372036854775807 : Int64)) = (0 : Int32)) :
    MetFree l x (head1 (Jvm.Cond.code x code maxLocals ret :: ws) room_1) (fun a U => a = #[(.long q1), (.long q2), (.int p3), (.int p4)] ∧ Z.Warmed39 U.vm ∧ U.heap = h0) (fun _ _ _ _ _ => True) (fun _ U o U' => ∃ v L, o = .returned v ∧ QL n0 v U'.heap L ∧ ReturnedEndW U o U' L room_1.cells room_1.slots) := by
  refine MetFree.of_bodySF (plainFor_of_name pn_com_example_horae_horae_model_FixedRateStarvationLimitMsPinLaw) hisR ?_
  intro p e s m args below meth c s₁ Bd hml0 hP hK
  obtain ⟨rfl, hZ, hh⟩ := hP
  have hx := Bd.exec
  have hby := Bd.bytes
  have hml : c.maxLocals = 17 := hml0
  have hown : s.vm.findClass "com/example/horae/horae/model/FixedRateStarvationLimitMsPinLaw" = some m.cls := findClass_of_methodNamed Bd.named
  have hnm := (name_of_methodNamed Bd.named Bd.method).1
  have X0 : Stand p l e room_1 s m #[(.long q1), (.long q2), (.int p3), (.int p4)] below meth c s₁ [] 0 0 := Stand.of_body Bd
  have e0 : s₁.heap = h0 := by rw [← hh, Bd.state]; rfl
  have N0 := Fr.nil n0
  have pre0 : ∀ t, Steps p.tables e below (s₁.setTop (mkF m 0 #[.val (.long q1), .second, .val (.long q2), .second, .val (.int p3), .val (.int p4), .unset, .unset, .unset, .unset, .unset, .unset, .unset, .unset, .unset, .unset, .unset] [])) t → Steps p.tables e below (s₁.setTop (entryFrame m #[(.long q1), (.long q2), (.int p3), (.int p4)] maxLocals)) t := fun t k => castTop (ef_0 m q1 q2 p3 p4) k
  have own_wS := own_wS0 hw
  have hS0 : s.Since s.vm 0 := (State.WarmedH.refl s).since 0
  obtain ⟨_, _, ⟨T1, L1, k1, n1⟩, -, X1, ⟨Lc1, hQ1, l1, y1, z1⟩, st1⟩ := Jvm.LawKit.callS X0 hx (y := (⟨"com/example/horae/horae/model/FixedRateStarvationLimitMsPinLaw", "period", "(JII)J"⟩ : MethodName)) hown (mvT hZ (hw _ (List.mem_of_getElem? (i := 0) rfl))) (mvT hZ (hw _ (List.mem_of_getElem? (i := 1) rfl))) (mvT hZ (hw _ (List.mem_of_getElem? (i := 2) rfl))) (mvT hZ (hw _ (List.mem_of_getElem? (i := 3) rfl))) (by decide) (backOf (W := 0) (rm1 l Z a0 hw [] q1 p3 (p4 &&& (3 : Int32)) h0 n0 O0) hZ (hw _ (List.mem_of_getElem? (i := 3) rfl)) (hw _ (List.mem_of_getElem? (i := 2) rfl)) (by decide) (by decide)) (g := (mkF m 7 #[.val (.long q1), .second, .val (.long q2), .second, .val (.int p3), .val (.int p4), .unset, .unset, .unset, .unset, .unset, .unset, .unset, .unset, .unset, .unset, .unset] [(.int (p4 &&& (3 : Int32))), (.int p3), (.long q1)])) rfl (by rw [hml]; rfl) (argsL := [(.long q1), (.int p3), (.int (p4 &&& (3 : Int32)))]) (rest := []) (lenOf pd__JII_J rfl) rfl (by show 2 * 0 + _ ≤ _; exact Nat.le_of_eq rfl) (hb hby at_7) (fun _ _ => ⟨rfl, e0, (by decide : 0 + 0 ≤ _), (by decide : 0 + 0 ≤ _)⟩)
  dsimp only [Pt.U, Pt.locs, Pt.cells, Pt.slots] at X1 l1 y1 z1 st1 hQ1
  subst l1 y1 z1
  obtain ⟨rfl, Nq1, e1⟩ := hQ1
  have N1 := Fr.app N0 Nq1
  obtain ⟨_, _, ⟨T2, L2, k2, n2⟩, -, X2, ⟨Lc2, hQ2, l2, y2, z2⟩, st2⟩ := Jvm.LawKit.callS X1 hx (y := (⟨"com/example/horae/horae/model/FixedRateStarvationLimitMsPinLaw", "policy", "(I)Lcom/example/horae/horae/model/OverrunPolicy;"⟩ : MethodName)) hown (mvT hZ (hw _ (List.mem_of_getElem? (i := 5) rfl))) (mvT hZ (hw _ (List.mem_of_getElem? (i := 6) rfl))) (mvT hZ (hw _ (List.mem_of_getElem? (i := 2) rfl))) (mvT hZ (hw _ (List.mem_of_getElem? (i := 7) rfl))) (by decide) (backOf (W := 0) (rm2 l Z a0 hw [] (p4 >>> ((2 : Int32) &&& 31)) w3 w4 w5 h0 n0 O0 S_DROP_TICK S_SKIP_NEXT S_CATCH_UP_ONCE) hZ (hw _ (List.mem_of_getElem? (i := 7) rfl)) (hw _ (List.mem_of_getElem? (i := 2) rfl)) (by decide) (by decide)) (g := (mkF m 23 #[.val (.long q1), .second, .val (.long q2), .second, .val (.int p3), .val (.int p4), .val (.long (own_per q1 p3 (p4 &&& (3 : Int32)))), .second, .val (.long (q2 &&& (9223372036854775807 : Int64))), .second, .unset, .unset, .unset, .unset, .unset, .unset, .unset] [(.int (p4 >>> ((2 : Int32) &&& 31)))])) rfl (by rw [hml]; rfl) (argsL := [(.int (p4 >>> ((2 : Int32) &&& 31)))]) (rest := []) (lenOf pd__I_Lcom_example_horae_horae_model_OverrunPolicy_ rfl) rfl (by show 2 * 0 + _ ≤ _; exact Nat.le_of_eq rfl) (hb hby at_23) (fun _ _ => ⟨rfl, e1, (by decide : 0 + 0 ≤ _), (by decide : 0 + 0 ≤ _)⟩)
  dsimp only [Pt.U, Pt.locs, Pt.cells, Pt.slots] at X2 l2 y2 z2 st2 hQ2
  subst l2 y2 z2
  obtain ⟨r_2, rfl, Nq2, e2⟩ := hQ2
  have N2 := Fr.app N1 Nq2
  obtain ⟨T6, h6, X6, e6, E6, A6, D6, U6, st6⟩ := newO X2 hx hZ hown (hw _ (List.mem_of_getElem? (i := 11) rfl)) (hw _ (List.mem_of_getElem? (i := 12) rfl)) (hw _ (List.mem_of_getElem? (i := 13) rfl)) e2 (g := (mkF m 44 #[.val (.long q1), .second, .val (.long q2), .second, .val (.int p3), .val (.int p4), .val (.long (own_per q1 p3 (p4 &&& (3 : Int32)))), .second, .val (.long (q2 &&& (9223372036854775807 : Int64))), .second, .val (.ref r_2), .val (.int (1 : Int32)), .unset, .unset, .unset, .unset, .unset] [])) rfl (hb hby at_44) (by decide) (by decide)
  obtain ⟨b6, g6⟩ : ∃ z, z = h0.size := ⟨_, rfl⟩
  rw [← g6] at A6 D6 st6
  have g_b6 : n0 ≤ b6 := Nat.le_trans (Nat.le_of_eq O0.1.symm) (Nat.le_trans O0.2.1 (Nat.le_of_eq g6.symm))
  have sz_b6 : h0.size ≤ b6 := Nat.le_trans (Keep.refl h0 []).1 (Nat.le_of_eq g6.symm)
  have O6 := O0.ext E6
  have K6 : Keep h0 h6 [] := (Keep.refl h0 []).ext E6
  have F_periodMs_b6 : Fld Z h6 b6 "com/example/horae/horae/model/FixedRate" "periodMs" "J" (.long (0 : Int64)) := D6 (Or.inr (hw _ (List.mem_of_getElem? (i := 38) rfl))) (ty := .long) (by decide)
  have F_tickBudgetMs_b6 : Fld Z h6 b6 "com/example/horae/horae/model/FixedRate" "tickBudgetMs" "J" (.long (0 : Int64)) := D6 (Or.inr (hw _ (List.mem_of_getElem? (i := 40) rfl))) (ty := .long) (by decide)
  have F_overrunPolicy_b6 : Fld Z h6 b6 "com/example/horae/horae/model/FixedRate" "overrunPolicy" "Lcom/example/horae/horae/model/OverrunPolicy;" .null := D6 (Or.inr (hw _ (List.mem_of_getElem? (i := 42) rfl))) (ty := (.object "com/example/horae/horae/model/OverrunPolicy")) (by decide)
  have F_wallClockEnabled_b6 : Fld Z h6 b6 "com/example/horae/horae/model/FixedRate" "wallClockEnabled" "Z" (.int (0 : Int32)) := D6 (Or.inr (hw _ (List.mem_of_getElem? (i := 44) rfl))) (ty := .boolean) (by decide)
  obtain ⟨_, _, ⟨T7, L7, k7, n7⟩, -, X7, hSn7, hgr7, ⟨Lc7, hQ7, l7, y7, z7⟩, st7⟩ := (show Stand p l e _ (s.setVm s.vm) m _ below meth c _ _ _ _ from X6).specialBackS hx (y := (⟨"com/example/horae/horae/model/FixedRate", "<init>", "(JJLcom/example/horae/horae/model/OverrunPolicy;Z)V"⟩ : MethodName)) rfl hown (mvT hZ (hw _ (List.mem_of_getElem? (i := 14) rfl))) (mvT hZ (hw _ (List.mem_of_getElem? (i := 15) rfl))) (mvT hZ (hw _ (List.mem_of_getElem? (i := 16) rfl))) (by decide) (backOfS (W := 1) (rm3 l Z a0 hw [] b6 (own_per q1 p3 (p4 &&& (3 : Int32))) (q2 &&& (9223372036854775807 : Int64)) r_2 (1 : Int32) (.long (0 : Int64)) (.long (0 : Int64)) .null (.int (0 : Int32)) h6 n0 O6 A6 F_periodMs_b6 g_b6 F_tickBudgetMs_b6 F_overrunPolicy_b6 F_wallClockEnabled_b6 hc15_7 hc35_7) hZ (hw _ (List.mem_of_getElem? (i := 16) rfl)) (hw _ (List.mem_of_getElem? (i := 13) rfl)) (by decide) (by decide)) (g := (mkF m 56 #[.val (.long q1), .second, .val (.long q2), .second, .val (.int p3), .val (.int p4), .val (.long (own_per q1 p3 (p4 &&& (3 : Int32)))), .second, .val (.long (q2 &&& (9223372036854775807 : Int64))), .second, .val (.ref r_2), .val (.int (1 : Int32)), .unset, .unset, .unset, .unset, .unset] [(.int (1 : Int32)), (.ref r_2), (.long (q2 &&& (9223372036854775807 : Int64))), (.long (own_per q1 p3 (p4 &&& (3 : Int32)))), (.ref b6), (.ref b6)])) rfl (by rw [hml]; rfl) (Steps.refl _) (a := b6) (argsL := [(.long (own_per q1 p3 (p4 &&& (3 : Int32)))), (.long (q2 &&& (9223372036854775807 : Int64))), (.ref r_2), (.int (1 : Int32))]) (rest := [(.ref b6)]) (lenOf pd__JJLcom_example_horae_horae_model_OverrunPolicy_Z_V rfl) rfl (by show 2 * 0 + _ ≤ _; exact Nat.le_of_eq rfl) (hb hby at_56) (fun _ _ => ⟨rfl, e6, (by decide : 1 + 2 ≤ _), (by decide : 4 + 56 ≤ _)⟩)
  dsimp only [Pt.U, Pt.locs, Pt.cells, Pt.slots] at X7 l7 y7 z7 st7 hQ7 hSn7 hgr7
  subst l7 y7 z7
  obtain ⟨X7, hS7, hZ7, hown7⟩ := rebS hS0 (Nat.zero_le _) X7 hSn7 hgr7 hZ hown
  obtain ⟨rfl, Nq7, O7, Kc7, q7_0, q7_1, q7_2, q7_3, q7_4⟩ := hQ7
  have N7 := Fr.app N2 Nq7
  have K7 : Keep h0 T7.heap [] := K6.trans Kc7 (allS (Or.inr sz_b6) all0)
  obtain ⟨cq8, kq8, q8a, q8b, q8c⟩ := isOf hZ7 rfl q7_0
  obtain ⟨_, _, ⟨T8, L8, k8, n8⟩, -, X8, ⟨Lc8, hQ8, l8, y8, z8⟩, st8⟩ := X7.virtualBack hx (y := (⟨"com/example/horae/horae/model/FixedRate", "starvationLimitMs", "()J"⟩ : MethodName)) (z := (⟨"com/example/horae/horae/model/FixedRate", "starvationLimitMs", "()J"⟩ : MethodName)) hown7 (mvT hZ7 (hw _ (List.mem_of_getElem? (i := 46) rfl))) (mvT hZ7 (hw _ (List.mem_of_getElem? (i := 47) rfl))) (notFace_of_selects (args := #[]) (mvT hZ7 (hw _ (List.mem_of_getElem? (i := 49) rfl)))) (mvT hZ7 (hw _ (List.mem_of_getElem? (i := 49) rfl))) (mvT hZ7 (hw _ (List.mem_of_getElem? (i := 48) rfl))) (by decide) (backOf (W := 0) (rm7_t l Z a0 hw [] b6 (own_per q1 p3 (p4 &&& (3 : Int32))) T7.heap n0 O7 q7_1 hc12_8) hZ7 (hw _ (List.mem_of_getElem? (i := 50) rfl)) (hw _ (List.mem_of_getElem? (i := 13) rfl)) (by decide) (by decide)) q8a q8c (g := (mkF m 93 #[.val (.long q1), .second, .val (.long q2), .second, .val (.int p3), .val (.int p4), .val (.long (own_per q1 p3 (p4 &&& (3 : Int32)))), .second, .val (.long (q2 &&& (9223372036854775807 : Int64))), .second, .val (.ref r_2), .val (.int (1 : Int32)), .val (.ref b6), .val (.long ((own_per q1 p3 (p4 &&& (3 : Int32))) * (5 : Int64))), .second, .val (.long (9223372036854775807 : Int64)), .second] [(.ref b6)])) rfl (by rw [hml]; rfl) (Steps.refl _) (argsL := []) (rest := []) (lenOf pd___J rfl) rfl (by show 2 * 0 + _ ≤ _; exact Nat.le_of_eq rfl) (hb hby at_93) (fun _ _ => ⟨rfl, rfl, (by decide : 3 + 0 ≤ _), (by decide : 60 + 0 ≤ _)⟩)
  dsimp only [Pt.U, Pt.locs, Pt.cells, Pt.slots] at X8 l8 y8 z8 st8 hQ8
  subst l8 y8 z8
  obtain ⟨rfl, Nq8, e8⟩ := hQ8
  have N8 := Fr.app N7 Nq8
  obtain ⟨fs, hr, hrun, hended, hRW⟩ := X8.leaveW hS7 (by rw [e8]; exact (Nat.le_refl _)) (v := some (.int (1 : Int32))) (fun h => by rw [Bd.returns] at h; cases h)
  refine ⟨_, _, pre0 _ ?_, hrun, hended, _, _, rfl, ?_, hRW.1, hRW.2.1, hRW.2.2.1, hRW.2.2.2.mono (by decide) (by decide)⟩
  · show Steps p.tables e below (s₁.setTop (mkF m 0 #[.val (.long q1), .second, .val (.long q2), .second, .val (.int p3), .val (.int p4), .unset, .unset, .unset, .unset, .unset, .unset, .unset, .unset, .unset, .unset, .unset] [])) _
    refine XS.lloadN X0.here hx rfl (hb hby at_0) rfl ?_
    show Steps p.tables e below (s₁.setTop (mkF m 1 #[.val (.long q1), .second, .val (.long q2), .second, .val (.int p3), .val (.int p4), .unset, .unset, .unset, .unset, .unset, .unset, .unset, .unset, .unset, .unset, .unset] [(.long q1)])) _
    refine XS.iload X0.here hx rfl (hb hby at_1) rfl ?_
    show Steps p.tables e below (s₁.setTop (mkF m 3 #[.val (.long q1), .second, .val (.long q2), .second, .val (.int p3), .val (.int p4), .unset, .unset, .unset, .unset, .unset, .unset, .unset, .unset, .unset, .unset, .unset] [(.int p3), (.long q1)])) _
    refine XS.iload X0.here hx rfl (hb hby at_3) rfl ?_
    show Steps p.tables e below (s₁.setTop (mkF m 5 #[.val (.long q1), .second, .val (.long q2), .second, .val (.int p3), .val (.int p4), .unset, .unset, .unset, .unset, .unset, .unset, .unset, .unset, .unset, .unset, .unset] [(.int p4), (.int p3), (.long q1)])) _
    refine XS.iconst X0.here hx rfl (hb hby at_5) ?_
    show Steps p.tables e below (s₁.setTop (mkF m 6 #[.val (.long q1), .second, .val (.long q2), .second, .val (.int p3), .val (.int p4), .unset, .unset, .unset, .unset, .unset, .unset, .unset, .unset, .unset, .unset, .unset] [(.int (3 : Int32)), (.int p4), (.int p3), (.long q1)])) _
    refine XS.iand X0.here hx rfl (hb hby at_6) rfl ?_
    show Steps p.tables e below (s₁.setTop (mkF m 7 #[.val (.long q1), .second, .val (.long q2), .second, .val (.int p3), .val (.int p4), .unset, .unset, .unset, .unset, .unset, .unset, .unset, .unset, .unset, .unset, .unset] [(.int (p4 &&& (3 : Int32))), (.int p3), (.long q1)])) _
    refine st1 _ ?_
    show Steps p.tables e below (T1.setTop (mkF m 10 #[.val (.long q1), .second, .val (.long q2), .second, .val (.int p3), .val (.int p4), .unset, .unset, .unset, .unset, .unset, .unset, .unset, .unset, .unset, .unset, .unset] [(.long (own_per q1 p3 (p4 &&& (3 : Int32))))])) _
    refine XS.lstore X1.here hx rfl (hb hby at_10) rfl (l' := #[.val (.long q1), .second, .val (.long q2), .second, .val (.int p3), .val (.int p4), .val (.long (own_per q1 p3 (p4 &&& (3 : Int32)))), .second, .unset, .unset, .unset, .unset, .unset, .unset, .unset, .unset, .unset]) rfl ?_
    show Steps p.tables e below (T1.setTop (mkF m 12 #[.val (.long q1), .second, .val (.long q2), .second, .val (.int p3), .val (.int p4), .val (.long (own_per q1 p3 (p4 &&& (3 : Int32)))), .second, .unset, .unset, .unset, .unset, .unset, .unset, .unset, .unset, .unset] [])) _
    refine XS.lloadN X1.here hx rfl (hb hby at_12) rfl ?_
    show Steps p.tables e below (T1.setTop (mkF m 13 #[.val (.long q1), .second, .val (.long q2), .second, .val (.int p3), .val (.int p4), .val (.long (own_per q1 p3 (p4 &&& (3 : Int32)))), .second, .unset, .unset, .unset, .unset, .unset, .unset, .unset, .unset, .unset] [(.long q2)])) _
    refine X1.ldc2Long hx hown (mvT hZ (hw _ (List.mem_of_getElem? (i := 4) rfl))) (g := (mkF m 13 #[.val (.long q1), .second, .val (.long q2), .second, .val (.int p3), .val (.int p4), .val (.long (own_per q1 p3 (p4 &&& (3 : Int32)))), .second, .unset, .unset, .unset, .unset, .unset, .unset, .unset, .unset, .unset] [(.long q2)])) rfl (hb hby at_13) _ ?_
    show Steps p.tables e below (T1.setTop (mkF m 16 #[.val (.long q1), .second, .val (.long q2), .second, .val (.int p3), .val (.int p4), .val (.long (own_per q1 p3 (p4 &&& (3 : Int32)))), .second, .unset, .unset, .unset, .unset, .unset, .unset, .unset, .unset, .unset] [(.long (9223372036854775807 : Int64)), (.long q2)])) _
    refine XS.land X1.here hx rfl (hb hby at_16) rfl ?_
    show Steps p.tables e below (T1.setTop (mkF m 17 #[.val (.long q1), .second, .val (.long q2), .second, .val (.int p3), .val (.int p4), .val (.long (own_per q1 p3 (p4 &&& (3 : Int32)))), .second, .unset, .unset, .unset, .unset, .unset, .unset, .unset, .unset, .unset] [(.long (q2 &&& (9223372036854775807 : Int64)))])) _
    refine XS.lstore X1.here hx rfl (hb hby at_17) rfl (l' := #[.val (.long q1), .second, .val (.long q2), .second, .val (.int p3), .val (.int p4), .val (.long (own_per q1 p3 (p4 &&& (3 : Int32)))), .second, .val (.long (q2 &&& (9223372036854775807 : Int64))), .second, .unset, .unset, .unset, .unset, .unset, .unset, .unset]) rfl ?_
    show Steps p.tables e below (T1.setTop (mkF m 19 #[.val (.long q1), .second, .val (.long q2), .second, .val (.int p3), .val (.int p4), .val (.long (own_per q1 p3 (p4 &&& (3 : Int32)))), .second, .val (.long (q2 &&& (9223372036854775807 : Int64))), .second, .unset, .unset, .unset, .unset, .unset, .unset, .unset] [])) _
    refine XS.iload X1.here hx rfl (hb hby at_19) rfl ?_
    show Steps p.tables e below (T1.setTop (mkF m 21 #[.val (.long q1), .second, .val (.long q2), .second, .val (.int p3), .val (.int p4), .val (.long (own_per q1 p3 (p4 &&& (3 : Int32)))), .second, .val (.long (q2 &&& (9223372036854775807 : Int64))), .second, .unset, .unset, .unset, .unset, .unset, .unset, .unset] [(.int p4)])) _
    refine XS.iconst X1.here hx rfl (hb hby at_21) ?_
    show Steps p.tables e below (T1.setTop (mkF m 22 #[.val (.long q1), .second, .val (.long q2), .second, .val (.int p3), .val (.int p4), .val (.long (own_per q1 p3 (p4 &&& (3 : Int32)))), .second, .val (.long (q2 &&& (9223372036854775807 : Int64))), .second, .unset, .unset, .unset, .unset, .unset, .unset, .unset] [(.int (2 : Int32)), (.int p4)])) _
    refine XS.ishr X1.here hx rfl (hb hby at_22) rfl ?_
    show Steps p.tables e below (T1.setTop (mkF m 23 #[.val (.long q1), .second, .val (.long q2), .second, .val (.int p3), .val (.int p4), .val (.long (own_per q1 p3 (p4 &&& (3 : Int32)))), .second, .val (.long (q2 &&& (9223372036854775807 : Int64))), .second, .unset, .unset, .unset, .unset, .unset, .unset, .unset] [(.int (p4 >>> ((2 : Int32) &&& 31)))])) _
    refine st2 _ ?_
    show Steps p.tables e below (T2.setTop (mkF m 26 #[.val (.long q1), .second, .val (.long q2), .second, .val (.int p3), .val (.int p4), .val (.long (own_per q1 p3 (p4 &&& (3 : Int32)))), .second, .val (.long (q2 &&& (9223372036854775807 : Int64))), .second, .unset, .unset, .unset, .unset, .unset, .unset, .unset] [(.ref r_2)])) _
    refine XS.astore X2.here hx rfl (hb hby at_26) rfl rfl (l' := #[.val (.long q1), .second, .val (.long q2), .second, .val (.int p3), .val (.int p4), .val (.long (own_per q1 p3 (p4 &&& (3 : Int32)))), .second, .val (.long (q2 &&& (9223372036854775807 : Int64))), .second, .val (.ref r_2), .unset, .unset, .unset, .unset, .unset, .unset]) rfl ?_
    show Steps p.tables e below (T2.setTop (mkF m 28 #[.val (.long q1), .second, .val (.long q2), .second, .val (.int p3), .val (.int p4), .val (.long (own_per q1 p3 (p4 &&& (3 : Int32)))), .second, .val (.long (q2 &&& (9223372036854775807 : Int64))), .second, .val (.ref r_2), .unset, .unset, .unset, .unset, .unset, .unset] [])) _
    refine XS.iload X2.here hx rfl (hb hby at_28) rfl ?_
    show Steps p.tables e below (T2.setTop (mkF m 30 #[.val (.long q1), .second, .val (.long q2), .second, .val (.int p3), .val (.int p4), .val (.long (own_per q1 p3 (p4 &&& (3 : Int32)))), .second, .val (.long (q2 &&& (9223372036854775807 : Int64))), .second, .val (.ref r_2), .unset, .unset, .unset, .unset, .unset, .unset] [(.int p4)])) _
    refine XS.iconst X2.here hx rfl (hb hby at_30) ?_
    show Steps p.tables e below (T2.setTop (mkF m 31 #[.val (.long q1), .second, .val (.long q2), .second, .val (.int p3), .val (.int p4), .val (.long (own_per q1 p3 (p4 &&& (3 : Int32)))), .second, .val (.long (q2 &&& (9223372036854775807 : Int64))), .second, .val (.ref r_2), .unset, .unset, .unset, .unset, .unset, .unset] [(.int (4 : Int32)), (.int p4)])) _
    refine XS.ishr X2.here hx rfl (hb hby at_31) rfl ?_
    show Steps p.tables e below (T2.setTop (mkF m 32 #[.val (.long q1), .second, .val (.long q2), .second, .val (.int p3), .val (.int p4), .val (.long (own_per q1 p3 (p4 &&& (3 : Int32)))), .second, .val (.long (q2 &&& (9223372036854775807 : Int64))), .second, .val (.ref r_2), .unset, .unset, .unset, .unset, .unset, .unset] [(.int (p4 >>> ((4 : Int32) &&& 31)))])) _
    refine XS.iconst X2.here hx rfl (hb hby at_32) ?_
    show Steps p.tables e below (T2.setTop (mkF m 33 #[.val (.long q1), .second, .val (.long q2), .second, .val (.int p3), .val (.int p4), .val (.long (own_per q1 p3 (p4 &&& (3 : Int32)))), .second, .val (.long (q2 &&& (9223372036854775807 : Int64))), .second, .val (.ref r_2), .unset, .unset, .unset, .unset, .unset, .unset] [(.int (1 : Int32)), (.int (p4 >>> ((4 : Int32) &&& 31)))])) _
    refine XS.iand X2.here hx rfl (hb hby at_33) rfl ?_
    show Steps p.tables e below (T2.setTop (mkF m 34 #[.val (.long q1), .second, .val (.long q2), .second, .val (.int p3), .val (.int p4), .val (.long (own_per q1 p3 (p4 &&& (3 : Int32)))), .second, .val (.long (q2 &&& (9223372036854775807 : Int64))), .second, .val (.ref r_2), .unset, .unset, .unset, .unset, .unset, .unset] [(.int ((p4 >>> ((4 : Int32) &&& 31)) &&& (1 : Int32)))])) _
    refine XS.ifNo X2.here hx rfl (hb hby at_34) rfl ((if0 _ _).trans (feq hc34).1) ?_
    show Steps p.tables e below (T2.setTop (mkF m 37 #[.val (.long q1), .second, .val (.long q2), .second, .val (.int p3), .val (.int p4), .val (.long (own_per q1 p3 (p4 &&& (3 : Int32)))), .second, .val (.long (q2 &&& (9223372036854775807 : Int64))), .second, .val (.ref r_2), .unset, .unset, .unset, .unset, .unset, .unset] [])) _
    refine XS.iconst X2.here hx rfl (hb hby at_37) ?_
    show Steps p.tables e below (T2.setTop (mkF m 38 #[.val (.long q1), .second, .val (.long q2), .second, .val (.int p3), .val (.int p4), .val (.long (own_per q1 p3 (p4 &&& (3 : Int32)))), .second, .val (.long (q2 &&& (9223372036854775807 : Int64))), .second, .val (.ref r_2), .unset, .unset, .unset, .unset, .unset, .unset] [(.int (1 : Int32))])) _
    refine XS.goto X2.here hx rfl (pc0 := 38) (pc' := 42) rfl (hb hby at_38) (by decide) (by decide) ?_
    show Steps p.tables e below (T2.setTop (mkF m 42 #[.val (.long q1), .second, .val (.long q2), .second, .val (.int p3), .val (.int p4), .val (.long (own_per q1 p3 (p4 &&& (3 : Int32)))), .second, .val (.long (q2 &&& (9223372036854775807 : Int64))), .second, .val (.ref r_2), .unset, .unset, .unset, .unset, .unset, .unset] [(.int (1 : Int32))])) _
    refine XS.istore X2.here hx rfl (hb hby at_42) rfl (l' := #[.val (.long q1), .second, .val (.long q2), .second, .val (.int p3), .val (.int p4), .val (.long (own_per q1 p3 (p4 &&& (3 : Int32)))), .second, .val (.long (q2 &&& (9223372036854775807 : Int64))), .second, .val (.ref r_2), .val (.int (1 : Int32)), .unset, .unset, .unset, .unset, .unset]) rfl ?_
    show Steps p.tables e below (T2.setTop (mkF m 44 #[.val (.long q1), .second, .val (.long q2), .second, .val (.int p3), .val (.int p4), .val (.long (own_per q1 p3 (p4 &&& (3 : Int32)))), .second, .val (.long (q2 &&& (9223372036854775807 : Int64))), .second, .val (.ref r_2), .val (.int (1 : Int32)), .unset, .unset, .unset, .unset, .unset] [])) _
    refine st6 _ ?_
    show Steps p.tables e below (T6.setTop (mkF m 47 #[.val (.long q1), .second, .val (.long q2), .second, .val (.int p3), .val (.int p4), .val (.long (own_per q1 p3 (p4 &&& (3 : Int32)))), .second, .val (.long (q2 &&& (9223372036854775807 : Int64))), .second, .val (.ref r_2), .val (.int (1 : Int32)), .unset, .unset, .unset, .unset, .unset] [(.ref b6)])) _
    refine XS.dup X6.here hx rfl (hb hby at_47) rfl rfl ?_
    show Steps p.tables e below (T6.setTop (mkF m 48 #[.val (.long q1), .second, .val (.long q2), .second, .val (.int p3), .val (.int p4), .val (.long (own_per q1 p3 (p4 &&& (3 : Int32)))), .second, .val (.long (q2 &&& (9223372036854775807 : Int64))), .second, .val (.ref r_2), .val (.int (1 : Int32)), .unset, .unset, .unset, .unset, .unset] [(.ref b6), (.ref b6)])) _
    refine XS.lload X6.here hx rfl (hb hby at_48) rfl ?_
    show Steps p.tables e below (T6.setTop (mkF m 50 #[.val (.long q1), .second, .val (.long q2), .second, .val (.int p3), .val (.int p4), .val (.long (own_per q1 p3 (p4 &&& (3 : Int32)))), .second, .val (.long (q2 &&& (9223372036854775807 : Int64))), .second, .val (.ref r_2), .val (.int (1 : Int32)), .unset, .unset, .unset, .unset, .unset] [(.long (own_per q1 p3 (p4 &&& (3 : Int32)))), (.ref b6), (.ref b6)])) _
    refine XS.lload X6.here hx rfl (hb hby at_50) rfl ?_
    show Steps p.tables e below (T6.setTop (mkF m 52 #[.val (.long q1), .second, .val (.long q2), .second, .val (.int p3), .val (.int p4), .val (.long (own_per q1 p3 (p4 &&& (3 : Int32)))), .second, .val (.long (q2 &&& (9223372036854775807 : Int64))), .second, .val (.ref r_2), .val (.int (1 : Int32)), .unset, .unset, .unset, .unset, .unset] [(.long (q2 &&& (9223372036854775807 : Int64))), (.long (own_per q1 p3 (p4 &&& (3 : Int32)))), (.ref b6), (.ref b6)])) _
    refine XS.aload X6.here hx rfl (hb hby at_52) rfl rfl ?_
    show Steps p.tables e below (T6.setTop (mkF m 54 #[.val (.long q1), .second, .val (.long q2), .second, .val (.int p3), .val (.int p4), .val (.long (own_per q1 p3 (p4 &&& (3 : Int32)))), .second, .val (.long (q2 &&& (9223372036854775807 : Int64))), .second, .val (.ref r_2), .val (.int (1 : Int32)), .unset, .unset, .unset, .unset, .unset] [(.ref r_2), (.long (q2 &&& (9223372036854775807 : Int64))), (.long (own_per q1 p3 (p4 &&& (3 : Int32)))), (.ref b6), (.ref b6)])) _
    refine XS.iload X6.here hx rfl (hb hby at_54) rfl ?_
    show Steps p.tables e below (T6.setTop (mkF m 56 #[.val (.long q1), .second, .val (.long q2), .second, .val (.int p3), .val (.int p4), .val (.long (own_per q1 p3 (p4 &&& (3 : Int32)))), .second, .val (.long (q2 &&& (9223372036854775807 : Int64))), .second, .val (.ref r_2), .val (.int (1 : Int32)), .unset, .unset, .unset, .unset, .unset] [(.int (1 : Int32)), (.ref r_2), (.long (q2 &&& (9223372036854775807 : Int64))), (.long (own_per q1 p3 (p4 &&& (3 : Int32)))), (.ref b6), (.ref b6)])) _
    refine st7.trans ?_
    show Steps p.tables e below (T7.setTop (mkF m 59 #[.val (.long q1), .second, .val (.long q2), .second, .val (.int p3), .val (.int p4), .val (.long (own_per q1 p3 (p4 &&& (3 : Int32)))), .second, .val (.long (q2 &&& (9223372036854775807 : Int64))), .second, .val (.ref r_2), .val (.int (1 : Int32)), .unset, .unset, .unset, .unset, .unset] [(.ref b6)])) _
    refine XS.astore X7.here hx rfl (hb hby at_59) rfl rfl (l' := #[.val (.long q1), .second, .val (.long q2), .second, .val (.int p3), .val (.int p4), .val (.long (own_per q1 p3 (p4 &&& (3 : Int32)))), .second, .val (.long (q2 &&& (9223372036854775807 : Int64))), .second, .val (.ref r_2), .val (.int (1 : Int32)), .val (.ref b6), .unset, .unset, .unset, .unset]) rfl ?_
    show Steps p.tables e below (T7.setTop (mkF m 61 #[.val (.long q1), .second, .val (.long q2), .second, .val (.int p3), .val (.int p4), .val (.long (own_per q1 p3 (p4 &&& (3 : Int32)))), .second, .val (.long (q2 &&& (9223372036854775807 : Int64))), .second, .val (.ref r_2), .val (.int (1 : Int32)), .val (.ref b6), .unset, .unset, .unset, .unset] [])) _
    refine XS.lload X7.here hx rfl (hb hby at_61) rfl ?_
    show Steps p.tables e below (T7.setTop (mkF m 63 #[.val (.long q1), .second, .val (.long q2), .second, .val (.int p3), .val (.int p4), .val (.long (own_per q1 p3 (p4 &&& (3 : Int32)))), .second, .val (.long (q2 &&& (9223372036854775807 : Int64))), .second, .val (.ref r_2), .val (.int (1 : Int32)), .val (.ref b6), .unset, .unset, .unset, .unset] [(.long (own_per q1 p3 (p4 &&& (3 : Int32))))])) _
    refine X7.ldc2Long hx hown7 (mvT hZ7 (hw _ (List.mem_of_getElem? (i := 45) rfl))) (g := (mkF m 63 #[.val (.long q1), .second, .val (.long q2), .second, .val (.int p3), .val (.int p4), .val (.long (own_per q1 p3 (p4 &&& (3 : Int32)))), .second, .val (.long (q2 &&& (9223372036854775807 : Int64))), .second, .val (.ref r_2), .val (.int (1 : Int32)), .val (.ref b6), .unset, .unset, .unset, .unset] [(.long (own_per q1 p3 (p4 &&& (3 : Int32))))])) rfl (hb hby at_63) _ ?_
    show Steps p.tables e below (T7.setTop (mkF m 66 #[.val (.long q1), .second, .val (.long q2), .second, .val (.int p3), .val (.int p4), .val (.long (own_per q1 p3 (p4 &&& (3 : Int32)))), .second, .val (.long (q2 &&& (9223372036854775807 : Int64))), .second, .val (.ref r_2), .val (.int (1 : Int32)), .val (.ref b6), .unset, .unset, .unset, .unset] [(.long (5 : Int64)), (.long (own_per q1 p3 (p4 &&& (3 : Int32))))])) _
    refine XS.lmul X7.here hx rfl (hb hby at_66) rfl ?_
    show Steps p.tables e below (T7.setTop (mkF m 67 #[.val (.long q1), .second, .val (.long q2), .second, .val (.int p3), .val (.int p4), .val (.long (own_per q1 p3 (p4 &&& (3 : Int32)))), .second, .val (.long (q2 &&& (9223372036854775807 : Int64))), .second, .val (.ref r_2), .val (.int (1 : Int32)), .val (.ref b6), .unset, .unset, .unset, .unset] [(.long ((own_per q1 p3 (p4 &&& (3 : Int32))) * (5 : Int64)))])) _
    refine XS.lstore X7.here hx rfl (hb hby at_67) rfl (l' := #[.val (.long q1), .second, .val (.long q2), .second, .val (.int p3), .val (.int p4), .val (.long (own_per q1 p3 (p4 &&& (3 : Int32)))), .second, .val (.long (q2 &&& (9223372036854775807 : Int64))), .second, .val (.ref r_2), .val (.int (1 : Int32)), .val (.ref b6), .val (.long ((own_per q1 p3 (p4 &&& (3 : Int32))) * (5 : Int64))), .second, .unset, .unset]) rfl ?_
    show Steps p.tables e below (T7.setTop (mkF m 69 #[.val (.long q1), .second, .val (.long q2), .second, .val (.int p3), .val (.int p4), .val (.long (own_per q1 p3 (p4 &&& (3 : Int32)))), .second, .val (.long (q2 &&& (9223372036854775807 : Int64))), .second, .val (.ref r_2), .val (.int (1 : Int32)), .val (.ref b6), .val (.long ((own_per q1 p3 (p4 &&& (3 : Int32))) * (5 : Int64))), .second, .unset, .unset] [])) _
    refine XS.lload X7.here hx rfl (hb hby at_69) rfl ?_
    show Steps p.tables e below (T7.setTop (mkF m 71 #[.val (.long q1), .second, .val (.long q2), .second, .val (.int p3), .val (.int p4), .val (.long (own_per q1 p3 (p4 &&& (3 : Int32)))), .second, .val (.long (q2 &&& (9223372036854775807 : Int64))), .second, .val (.ref r_2), .val (.int (1 : Int32)), .val (.ref b6), .val (.long ((own_per q1 p3 (p4 &&& (3 : Int32))) * (5 : Int64))), .second, .unset, .unset] [(.long ((own_per q1 p3 (p4 &&& (3 : Int32))) * (5 : Int64)))])) _
    refine X7.ldc2Long hx hown7 (mvT hZ7 (hw _ (List.mem_of_getElem? (i := 45) rfl))) (g := (mkF m 71 #[.val (.long q1), .second, .val (.long q2), .second, .val (.int p3), .val (.int p4), .val (.long (own_per q1 p3 (p4 &&& (3 : Int32)))), .second, .val (.long (q2 &&& (9223372036854775807 : Int64))), .second, .val (.ref r_2), .val (.int (1 : Int32)), .val (.ref b6), .val (.long ((own_per q1 p3 (p4 &&& (3 : Int32))) * (5 : Int64))), .second, .unset, .unset] [(.long ((own_per q1 p3 (p4 &&& (3 : Int32))) * (5 : Int64)))])) rfl (hb hby at_71) _ ?_
    show Steps p.tables e below (T7.setTop (mkF m 74 #[.val (.long q1), .second, .val (.long q2), .second, .val (.int p3), .val (.int p4), .val (.long (own_per q1 p3 (p4 &&& (3 : Int32)))), .second, .val (.long (q2 &&& (9223372036854775807 : Int64))), .second, .val (.ref r_2), .val (.int (1 : Int32)), .val (.ref b6), .val (.long ((own_per q1 p3 (p4 &&& (3 : Int32))) * (5 : Int64))), .second, .unset, .unset] [(.long (5 : Int64)), (.long ((own_per q1 p3 (p4 &&& (3 : Int32))) * (5 : Int64)))])) _
    refine XS.ldiv X7.here hx rfl (hb hby at_74) rfl (by decide) ?_
    show Steps p.tables e below (T7.setTop (mkF m 75 #[.val (.long q1), .second, .val (.long q2), .second, .val (.int p3), .val (.int p4), .val (.long (own_per q1 p3 (p4 &&& (3 : Int32)))), .second, .val (.long (q2 &&& (9223372036854775807 : Int64))), .second, .val (.ref r_2), .val (.int (1 : Int32)), .val (.ref b6), .val (.long ((own_per q1 p3 (p4 &&& (3 : Int32))) * (5 : Int64))), .second, .unset, .unset] [(.long (((own_per q1 p3 (p4 &&& (3 : Int32))) * (5 : Int64)) / (5 : Int64)))])) _
    refine XS.lload X7.here hx rfl (hb hby at_75) rfl ?_
    show Steps p.tables e below (T7.setTop (mkF m 77 #[.val (.long q1), .second, .val (.long q2), .second, .val (.int p3), .val (.int p4), .val (.long (own_per q1 p3 (p4 &&& (3 : Int32)))), .second, .val (.long (q2 &&& (9223372036854775807 : Int64))), .second, .val (.ref r_2), .val (.int (1 : Int32)), .val (.ref b6), .val (.long ((own_per q1 p3 (p4 &&& (3 : Int32))) * (5 : Int64))), .second, .unset, .unset] [(.long (own_per q1 p3 (p4 &&& (3 : Int32)))), (.long (((own_per q1 p3 (p4 &&& (3 : Int32))) * (5 : Int64)) / (5 : Int64)))])) _
    refine XS.lcmp X7.here hx rfl (hb hby at_77) rfl ?_
    show Steps p.tables e below (T7.setTop (mkF m 78 #[.val (.long q1), .second, .val (.long q2), .second, .val (.int p3), .val (.int p4), .val (.long (own_per q1 p3 (p4 &&& (3 : Int32)))), .second, .val (.long (q2 &&& (9223372036854775807 : Int64))), .second, .val (.ref r_2), .val (.int (1 : Int32)), .val (.ref b6), .val (.long ((own_per q1 p3 (p4 &&& (3 : Int32))) * (5 : Int64))), .second, .unset, .unset] [(.int (lcmpW (((own_per q1 p3 (p4 &&& (3 : Int32))) * (5 : Int64)) / (5 : Int64)) (own_per q1 p3 (p4 &&& (3 : Int32)))))])) _
    refine XS.ifYes X7.here hx rfl (pc0 := 78) (pc' := 86) rfl (hb hby at_78) rfl ((if0 _ _).trans (feq hc78).2) (by decide) (by decide) ?_
    show Steps p.tables e below (T7.setTop (mkF m 86 #[.val (.long q1), .second, .val (.long q2), .second, .val (.int p3), .val (.int p4), .val (.long (own_per q1 p3 (p4 &&& (3 : Int32)))), .second, .val (.long (q2 &&& (9223372036854775807 : Int64))), .second, .val (.ref r_2), .val (.int (1 : Int32)), .val (.ref b6), .val (.long ((own_per q1 p3 (p4 &&& (3 : Int32))) * (5 : Int64))), .second, .unset, .unset] [])) _
    refine X7.ldc2Long hx hown7 (mvT hZ7 (hw _ (List.mem_of_getElem? (i := 4) rfl))) (g := (mkF m 86 #[.val (.long q1), .second, .val (.long q2), .second, .val (.int p3), .val (.int p4), .val (.long (own_per q1 p3 (p4 &&& (3 : Int32)))), .second, .val (.long (q2 &&& (9223372036854775807 : Int64))), .second, .val (.ref r_2), .val (.int (1 : Int32)), .val (.ref b6), .val (.long ((own_per q1 p3 (p4 &&& (3 : Int32))) * (5 : Int64))), .second, .unset, .unset] [])) rfl (hb hby at_86) _ ?_
    show Steps p.tables e below (T7.setTop (mkF m 89 #[.val (.long q1), .second, .val (.long q2), .second, .val (.int p3), .val (.int p4), .val (.long (own_per q1 p3 (p4 &&& (3 : Int32)))), .second, .val (.long (q2 &&& (9223372036854775807 : Int64))), .second, .val (.ref r_2), .val (.int (1 : Int32)), .val (.ref b6), .val (.long ((own_per q1 p3 (p4 &&& (3 : Int32))) * (5 : Int64))), .second, .unset, .unset] [(.long (9223372036854775807 : Int64))])) _
    refine XS.lstore X7.here hx rfl (hb hby at_89) rfl (l' := #[.val (.long q1), .second, .val (.long q2), .second, .val (.int p3), .val (.int p4), .val (.long (own_per q1 p3 (p4 &&& (3 : Int32)))), .second, .val (.long (q2 &&& (9223372036854775807 : Int64))), .second, .val (.ref r_2), .val (.int (1 : Int32)), .val (.ref b6), .val (.long ((own_per q1 p3 (p4 &&& (3 : Int32))) * (5 : Int64))), .second, .val (.long (9223372036854775807 : Int64)), .second]) rfl ?_
    show Steps p.tables e below (T7.setTop (mkF m 91 #[.val (.long q1), .second, .val (.long q2), .second, .val (.int p3), .val (.int p4), .val (.long (own_per q1 p3 (p4 &&& (3 : Int32)))), .second, .val (.long (q2 &&& (9223372036854775807 : Int64))), .second, .val (.ref r_2), .val (.int (1 : Int32)), .val (.ref b6), .val (.long ((own_per q1 p3 (p4 &&& (3 : Int32))) * (5 : Int64))), .second, .val (.long (9223372036854775807 : Int64)), .second] [])) _
    refine XS.aload X7.here hx rfl (hb hby at_91) rfl rfl ?_
    show Steps p.tables e below (T7.setTop (mkF m 93 #[.val (.long q1), .second, .val (.long q2), .second, .val (.int p3), .val (.int p4), .val (.long (own_per q1 p3 (p4 &&& (3 : Int32)))), .second, .val (.long (q2 &&& (9223372036854775807 : Int64))), .second, .val (.ref r_2), .val (.int (1 : Int32)), .val (.ref b6), .val (.long ((own_per q1 p3 (p4 &&& (3 : Int32))) * (5 : Int64))), .second, .val (.long (9223372036854775807 : Int64)), .second] [(.ref b6)])) _
    refine st8.trans ?_
    show Steps p.tables e below (T8.setTop (mkF m 96 #[.val (.long q1), .second, .val (.long q2), .second, .val (.int p3), .val (.int p4), .val (.long (own_per q1 p3 (p4 &&& (3 : Int32)))), .second, .val (.long (q2 &&& (9223372036854775807 : Int64))), .second, .val (.ref r_2), .val (.int (1 : Int32)), .val (.ref b6), .val (.long ((own_per q1 p3 (p4 &&& (3 : Int32))) * (5 : Int64))), .second, .val (.long (9223372036854775807 : Int64)), .second] [(.long (9223372036854775807 : Int64))])) _
    refine XS.lload X8.here hx rfl (hb hby at_96) rfl ?_
    show Steps p.tables e below (T8.setTop (mkF m 98 #[.val (.long q1), .second, .val (.long q2), .second, .val (.int p3), .val (.int p4), .val (.long (own_per q1 p3 (p4 &&& (3 : Int32)))), .second, .val (.long (q2 &&& (9223372036854775807 : Int64))), .second, .val (.ref r_2), .val (.int (1 : Int32)), .val (.ref b6), .val (.long ((own_per q1 p3 (p4 &&& (3 : Int32))) * (5 : Int64))), .second, .val (.long (9223372036854775807 : Int64)), .second] [(.long (9223372036854775807 : Int64)), (.long (9223372036854775807 : Int64))])) _
    refine XS.lcmp X8.here hx rfl (hb hby at_98) rfl ?_
    show Steps p.tables e below (T8.setTop (mkF m 99 #[.val (.long q1), .second, .val (.long q2), .second, .val (.int p3), .val (.int p4), .val (.long (own_per q1 p3 (p4 &&& (3 : Int32)))), .second, .val (.long (q2 &&& (9223372036854775807 : Int64))), .second, .val (.ref r_2), .val (.int (1 : Int32)), .val (.ref b6), .val (.long ((own_per q1 p3 (p4 &&& (3 : Int32))) * (5 : Int64))), .second, .val (.long (9223372036854775807 : Int64)), .second] [(.int (lcmpW (9223372036854775807 : Int64) (9223372036854775807 : Int64)))])) _
    refine XS.ifNo X8.here hx rfl (hb hby at_99) rfl ((if0 _ _).trans (teq hc99).2) ?_
    show Steps p.tables e below (T8.setTop (mkF m 102 #[.val (.long q1), .second, .val (.long q2), .second, .val (.int p3), .val (.int p4), .val (.long (own_per q1 p3 (p4 &&& (3 : Int32)))), .second, .val (.long (q2 &&& (9223372036854775807 : Int64))), .second, .val (.ref r_2), .val (.int (1 : Int32)), .val (.ref b6), .val (.long ((own_per q1 p3 (p4 &&& (3 : Int32))) * (5 : Int64))), .second, .val (.long (9223372036854775807 : Int64)), .second] [])) _
    refine XS.iconst X8.here hx rfl (hb hby at_102) ?_
    show Steps p.tables e below (T8.setTop (mkF m 103 #[.val (.long q1), .second, .val (.long q2), .second, .val (.int p3), .val (.int p4), .val (.long (own_per q1 p3 (p4 &&& (3 : Int32)))), .second, .val (.long (q2 &&& (9223372036854775807 : Int64))), .second, .val (.ref r_2), .val (.int (1 : Int32)), .val (.ref b6), .val (.long ((own_per q1 p3 (p4 &&& (3 : Int32))) * (5 : Int64))), .second, .val (.long (9223372036854775807 : Int64)), .second] [(.int (1 : Int32))])) _
    refine XS.goto X8.here hx rfl (pc0 := 103) (pc' := 107) rfl (hb hby at_103) (by decide) (by decide) ?_
    show Steps p.tables e below (T8.setTop (mkF m 107 #[.val (.long q1), .second, .val (.long q2), .second, .val (.int p3), .val (.int p4), .val (.long (own_per q1 p3 (p4 &&& (3 : Int32)))), .second, .val (.long (q2 &&& (9223372036854775807 : Int64))), .second, .val (.ref r_2), .val (.int (1 : Int32)), .val (.ref b6), .val (.long ((own_per q1 p3 (p4 &&& (3 : Int32))) * (5 : Int64))), .second, .val (.long (9223372036854775807 : Int64)), .second] [(.int (1 : Int32))])) _
    exact retN X8 hx (t := .boolean) Bd.returns (by simp) (hb hby at_107) hr
  · show QL n0 _ T8.heap _
    rw [e8]
    exact ⟨rfl, N8⟩
theorem own_fix_pos (x : Int64) (h : 0 ≤ x.toInt) : 1 ≤ (own_fix x).toInt := by
  unfold own_fix
  split
  · decide
  · rename_i hn
    rw [lw_eq, ← Int64.toInt_inj] at hn
    have e0 : (0 : Int64).toInt = 0 := by decide
    rw [e0] at hn
    omega
theorem own_low (k : Int32) : 0 ≤ ((k &&& (7 : Int32)).toInt64).toInt ∧ ((k &&& (7 : Int32)).toInt64).toInt ≤ 7 := by
  have a := c_and k (7 : Int32) (by decide)
  have e7 : (7 : Int32).toInt = 7 := by decide
  rw [c_i2l, ← e7]
  exact a
theorem own_per_pos (q1 : Int64) (p2 p3 : Int32) : 1 ≤ (own_per q1 p2 p3).toInt := by
  have lo := own_low p2
  unfold own_per
  split
  · exact own_fix_pos _ ((c_andSL q1 (9223372036854775807 : Int64)).2.2 (by decide))
  · split
    · refine own_fix_pos _ ?_
      have a := c_ladd (1844674407370955157 : Int64) ((p2 &&& (7 : Int32)).toInt64)
      have e1 : (1844674407370955157 : Int64).toInt = 1844674407370955157 := by decide
      rw [e1] at a
      have r := rng64 ((1844674407370955157 : Int64) + ((p2 &&& (7 : Int32)).toInt64))
      omega
    · split
      · exact own_fix_pos _ ((c_andSL q1 (4294967295 : Int64)).2.2 (by decide))
      · refine own_fix_pos _ ?_
        have a := c_lsub (9223372036854775807 : Int64) ((p2 &&& (7 : Int32)).toInt64)
        have e1 : (9223372036854775807 : Int64).toInt = 9223372036854775807 := by decide
        rw [e1] at a
        have r := rng64 ((9223372036854775807 : Int64) - ((p2 &&& (7 : Int32)).toInt64))
        omega
theorem own_ge1 (x : Int64) (h : 1 ≤ x.toInt) : ¬ ((lcmpW x (1 : Int64)) < (0 : Int32)) := by
  rw [lw_lt, Int64.lt_iff_toInt_lt]
  have e1 : (1 : Int64).toInt = 1 := by decide
  rw [e1]
  omega
theorem own_ge0 (x : Int64) : ¬ ((lcmpW (x &&& (9223372036854775807 : Int64)) (0 : Int64)) < (0 : Int32)) := by
  have a := (c_andSL x (9223372036854775807 : Int64)).2.2 (by decide)
  rw [lw_lt, Int64.lt_iff_toInt_lt]
  have e1 : (0 : Int64).toInt = 0 := by decide
  rw [e1]
  omega
theorem own_lim_le (p : Int64) (h1 : 1 ≤ p.toInt) (h2 : ¬ ((0 : Int32) < lcmpW p (1844674407370955161 : Int64))) : lcmpW ((p * (5 : Int64)) / (5 : Int64)) p = (0 : Int32) := by
  rw [lw_gt, Int64.lt_iff_toInt_lt] at h2
  have eK : (1844674407370955161 : Int64).toInt = 1844674407370955161 := by decide
  rw [eK] at h2
  rw [lw_eq, ← Int64.toInt_inj]
  have r := rng64 (p * (5 : Int64))
  have m := c_lmul p (5 : Int64)
  have e5 : (5 : Int64).toInt = 5 := by decide
  rw [e5] at m
  have mm : (p * (5 : Int64)).toInt = p.toInt * 5 := by omega
  have d := (c_ldiv (p * (5 : Int64)) (5 : Int64) 5 e5 (by decide)).1 (by omega)
  rw [d, mm]
  omega
theorem own_lim_gt (p : Int64) (h2 : (0 : Int32) < lcmpW p (1844674407370955161 : Int64)) : ¬ (lcmpW ((p * (5 : Int64)) / (5 : Int64)) p = (0 : Int32)) := by
  rw [lw_gt, Int64.lt_iff_toInt_lt] at h2
  have eK : (1844674407370955161 : Int64).toInt = 1844674407370955161 := by decide
  rw [eK] at h2
  rw [lw_eq, ← Int64.toInt_inj]
  have r := rng64 (p * (5 : Int64))
  have e5 : (5 : Int64).toInt = 5 := by decide
  have d := c_ldiv (p * (5 : Int64)) (5 : Int64) 5 e5 (by decide)
  intro q
  rcases Int.lt_or_le (p * (5 : Int64)).toInt 0 with s | s
  · have := d.2 s
    omega
  · have := d.1 s
    omega
theorem rm0 (l : Launch) (Z : State) (a0 : Array Value) (hw : ∀ d ∈ tables_1, d.before a0 Z = true) (ws : List Jvm.Cond) (q1 q2 : Int64) (p3 p4 : Int32) (wD wS wC : Addr) (h0 : Heap) (n0 : Nat) (O0 : Old Z n0 h0) (S_DROP_TICK : Sta Z Z.heap "com/example/horae/horae/model/OverrunPolicy" "DROP_TICK" "Lcom/example/horae/horae/model/OverrunPolicy;" (.ref wD)) (S_SKIP_NEXT : Sta Z Z.heap "com/example/horae/horae/model/OverrunPolicy" "SKIP_NEXT" "Lcom/example/horae/horae/model/OverrunPolicy;" (.ref wS)) (S_CATCH_UP_ONCE : Sta Z Z.heap "com/example/horae/horae/model/OverrunPolicy" "CATCH_UP_ONCE" "Lcom/example/horae/horae/model/OverrunPolicy;" (.ref wC)) :
    MetFree l x (head1 (Jvm.Cond.code x code maxLocals ret :: ws) room_1) (fun a U => a = #[(.long q1), (.long q2), (.int p3), (.int p4)] ∧ Z.Warmed39 U.vm ∧ U.heap = h0) (fun _ _ _ _ _ => True) (fun _ U o U' => ∃ v L, o = .returned v ∧ QL n0 v U'.heap L ∧ ReturnedEndW U o U' L room_1.cells room_1.slots) := by
  have hp := own_per_pos q1 p3 (p4 &&& (3 : Int32))
  by_cases cw : ((p4 >>> ((4 : Int32) &&& 31)) &&& (1 : Int32)) = (0 : Int32)
  · by_cases cl : (0 : Int32) < lcmpW (own_per q1 p3 (p4 &&& (3 : Int32))) (1844674407370955161 : Int64)
    · exact rm0_tt l Z a0 hw ws q1 q2 p3 p4 wD wS wC h0 n0 O0 S_DROP_TICK S_SKIP_NEXT S_CATCH_UP_ONCE cw (own_ge1 _ hp) (own_ge0 q2) (own_lim_gt _ cl) cl ((lw_eq _ _).mpr rfl)
    · exact rm0_tf l Z a0 hw ws q1 q2 p3 p4 wD wS wC h0 n0 O0 S_DROP_TICK S_SKIP_NEXT S_CATCH_UP_ONCE cw (own_ge1 _ hp) (own_ge0 q2) (own_lim_le _ hp cl) cl ((lw_eq _ _).mpr rfl)
  · by_cases cl : (0 : Int32) < lcmpW (own_per q1 p3 (p4 &&& (3 : Int32))) (1844674407370955161 : Int64)
    · exact rm0_ft l Z a0 hw ws q1 q2 p3 p4 wD wS wC h0 n0 O0 S_DROP_TICK S_SKIP_NEXT S_CATCH_UP_ONCE cw (own_ge1 _ hp) (own_ge0 q2) (own_lim_gt _ cl) cl ((lw_eq _ _).mpr rfl)
    · exact rm0_ff l Z a0 hw ws q1 q2 p3 p4 wD wS wC h0 n0 O0 S_DROP_TICK S_SKIP_NEXT S_CATCH_UP_ONCE cw (own_ge1 _ hp) (own_ge0 q2) (own_lim_le _ hp cl) cl ((lw_eq _ _).mpr rfl)
set_option maxRecDepth 65536 in
set_option maxHeartbeats 40000000 in
theorem comes_1 {Post : Tables → Env → Array Value → State → Outcome → State → Prop} (hpost : ∀ tb e args s v u, (limb_1_1.after args s (.returned v) u = true ∧ limb_1_2.after args s (.returned v) u = true ∧ True) → ReturnedEndW s (.returned v) u (Jvm.fieldLocs frame_1_writes args s ++ Jvm.arrayLocs frame_1_arrays args s ++ Jvm.staticLocs frame_1_statics s) 16 1152 → Post tb e args s (.returned v) u) :
    ArmFor flags0 classFile x code maxLocals ret World_1 tables_1 room_1 Calls_1 rest_1 Pre_1 Post := by
  intro l hfl _ _ p e ha hc hk s m args below hf hA hF happ hP
  obtain ⟨hcalls, hrest, hpre⟩ := hP
  obtain ⟨-, -, -, hnamed, -, -, -, hat⟩ := (Spec.applies_iff hf).mp happ
  obtain ⟨hg, hn⟩ := and_e (Cond.before_iff.mp (show (Jvm.Cond.and given_1 narrow_1).before args s = true from hpre))
  obtain ⟨g_0, g_r0⟩ := and_e hg
  obtain ⟨g_1, g_r1⟩ := and_e g_r0
  obtain ⟨g_2, g_r2⟩ := and_e g_r1
  obtain ⟨g_3, g_4⟩ := and_e g_r2
  obtain ⟨n_0, n_r0⟩ := and_e hn
  obtain ⟨n_1, n_2⟩ := and_e n_r0
  obtain ⟨w0, w1, w2, w3, rfl⟩ : ∃ w0 w1 w2 w3 : Value, args = #[w0, w1, w2, w3] := by
    have hs : args.size = 4 := by simpa [Cond.value, given_1] using g_0
    obtain ⟨L⟩ := args
    match L, hs with
    | [w0, w1, w2, w3], _ => exact ⟨w0, w1, w2, w3, rfl⟩
  have hw := fun d (hd : d ∈ tables_1) => atoms_spec (ws := Jvm.Cond.code x code maxLocals ret :: tables_1) hat d (List.mem_cons_of_mem _ hd)
  have hfit : Fit s := fun {y c} hc i hi => by
    obtain ⟨ha, rfl⟩ := Array.getElem?_eq_some_iff.mp hc
    have q := List.all_eq_true.mp ((Array.all_eq_true_iff_forall_mem.mp hF) _ (Array.getElem_mem ha)) i (List.mem_range.mpr hi)
    simpa [Array.getElem?_eq_getElem hi] using q
  obtain ⟨i0, ei0⟩ := isL_v g_1
  obtain rfl : w0 = (.long i0) := Option.some.inj ei0
  obtain ⟨i1, ei1⟩ := isL_v g_2
  obtain rfl : w1 = (.long i1) := Option.some.inj ei1
  obtain ⟨i2, ei2⟩ := is_v g_3
  obtain rfl : w2 = (.int i2) := Option.some.inj ei2
  obtain ⟨i3, ei3⟩ := is_v g_4
  obtain rfl : w3 = (.int i3) := Option.some.inj ei3
  obtain ⟨v0, ev0⟩ := exa_v n_0
  have S0 : Sta s s.heap "com/example/horae/horae/model/OverrunPolicy" "DROP_TICK" "Lcom/example/horae/horae/model/OverrunPolicy;" (.ref v0) := Sta.start ev0 (Or.inr ⟨hw _ (List.mem_of_getElem? (i := 9) rfl), hw _ (List.mem_of_getElem? (i := 10) rfl)⟩)
  obtain ⟨v1, ev1⟩ := exa_v n_1
  have S1 : Sta s s.heap "com/example/horae/horae/model/OverrunPolicy" "SKIP_NEXT" "Lcom/example/horae/horae/model/OverrunPolicy;" (.ref v1) := Sta.start ev1 (Or.inr ⟨hw _ (List.mem_of_getElem? (i := 9) rfl), hw _ (List.mem_of_getElem? (i := 56) rfl)⟩)
  obtain ⟨v2, ev2⟩ := exa_v n_2
  have S2 : Sta s s.heap "com/example/horae/horae/model/OverrunPolicy" "CATCH_UP_ONCE" "Lcom/example/horae/horae/model/OverrunPolicy;" (.ref v2) := Sta.start ev2 (Or.inr ⟨hw _ (List.mem_of_getElem? (i := 9) rfl), hw _ (List.mem_of_getElem? (i := 59) rfl)⟩)
  obtain ⟨n, o, h1, h2, h3, _, L, rfl, ⟨rfl, N⟩, hq⟩ := rm0 l s _ hw tables_1 i0 i1 i2 i3 v0 v1 v2 s.heap s.heap.size (Old.start s) S0 S1 S2 p e ha hc hk s m _ below hf ((Spec.applies_iff_loose hf).mp happ).1 ⟨rfl, State.Warmed39.refl s, rfl⟩ trivial
  refine ⟨n, _, h1, h2, h3, hpost _ _ _ _ _ _ ⟨Cond.after_iff.mpr rfl, Cond.after_iff.mpr (eq_i res_at (Term.int_eval (1)) rfl), trivial⟩ ⟨hq.1, hq.2.1, hq.2.2.1, (hq.2.2.2.sift fun y hy => Or.inr (N y hy)).mono (by decide) (by decide)⟩⟩
theorem main_1_1 : Claimed_1_1 := comes_1 fun _ _ _ _ _ _ h hF => ⟨h.1, hF⟩
theorem main_1_2 : Claimed_1_2 := comes_1 fun _ _ _ _ _ _ h hF => ⟨h.2.1, hF⟩
end Jvm.Pilot.@@N@@
namespace Jvm.Pilot.@@N@@
open Jvm Jvm.ClassFile Sem Op Lib Jvm.Free Jvm.Stand Jvm.Pilot.@@N@@.Jvm.D
/-! MADE BY PROGRAM (witnessworld.py) out of the Statement's table words and the real class files: 18 classes; the members and pool entries that the words name. The judged class is class 1, her method 3. -/
namespace start1
open Jvm.ClassFile
def u (s : String) : CpInfo := .utf8 (stringToUtf16 s)
/-- a pool by its gaps: so many unusable entries, then the entry; so many at the end -/
def gap : Nat → List CpInfo → List CpInfo
  | 0, r => r
  | n + 1, r => .unusable :: gap n r
def poolList (es : List (Nat × CpInfo)) (last : Nat) : List CpInfo := es.foldr (fun e r => gap e.1 (e.2 :: r)) (gap last [])
def pool (es : List (Nat × CpInfo)) (last : Nat) : Array CpInfo := ⟨poolList es last⟩
def fileOf (pool : Array CpInfo) (this : Nat) (attrs : Array Attribute := #[]) (ms : Array MethodInfo := #[]) (fl : Nat := 33) (sup : Nat := 0) (ifs : Array Nat := #[]) (fds : Array FieldInfo := #[]) : ClassFile where
  minorVersion := 0
  majorVersion := 65
  constantPool := pool
  accessFlags := fl
  thisClass := this
  superClass := sup
  interfaces := ifs
  fields := fds
  methods := ms
  attributes := attrs
def plain (name : String) (sup : Option ClassId) : Class where
  name := name
  kind := .ordinary
  loader := none
  accessFlags := 33
  super := sup
  interfaces := #[]
  cf := none
  fields := #[]
  methods := #[]
  instanceTypes := #[]
  staticTypes := #[]
  resolved := #[]
  callSites := []
  init := .initialized
  statics := none
  mirror := none

def pool0 : Array CpInfo := pool [(5, u "<init>"), (0, u "()V"), (1, .class_ 10), (1, u "java/lang/Object")] 113

def k0c0 : Code := { maxStack := 0, maxLocals := 1, code := object_method_1_code, exceptionTable := #[], attributes := #[] }
def k0m0 : Method := { name := "<init>", desc := "()V", sig := { parameters := [], returnType := none }, accessFlags := 1, code := some k0c0 }
/-- java/lang/Object -/
def k0 : Class := { plain "java/lang/Object" none with
  accessFlags := 33
  interfaces := #[]
  cf := some (fileOf pool0 8 #[] #[{ accessFlags := 1, nameIndex := 5, descriptorIndex := 6, attributes := #[] }] 33 0 #[] #[])
  fields := #[]
  methods := #[k0m0]
  instanceTypes := #[]
  staticTypes := #[]
  resolved := Array.replicate 124 none
  statics := none }

def pool1 : Array CpInfo := pool [(2, .class_ 4), (1, u "java/lang/Object"), (0, u "<init>"), (0, u "()V"), (2, .long 9223372036854775807), (1, .long 1844674407370955157), (1, .long 4294967295), (1, .fieldref 16 17), (0, .class_ 18), (0, .nameAndType 19 20), (0, u "com/example/horae/horae/model/OverrunPolicy"), (0, u "DROP_TICK"), (0, u "Lcom/example/horae/horae/model/OverrunPolicy;"), (0, .fieldref 16 22), (0, .nameAndType 23 20), (0, u "SKIP_NEXT"), (0, .fieldref 16 25), (0, .nameAndType 26 20), (0, u "CATCH_UP_ONCE"), (0, .methodref 28 29), (0, .class_ 30), (0, .nameAndType 31 32), (0, u "com/example/horae/horae/model/FixedRateStarvationLimitMsPinLaw"), (0, u "period"), (0, u "(JII)J"), (0, .methodref 28 34), (0, .nameAndType 35 36), (0, u "policy"), (0, u "(I)Lcom/example/horae/horae/model/OverrunPolicy;"), (0, .class_ 38), (0, u "com/example/horae/horae/model/FixedRate"), (0, .methodref 37 40), (0, .nameAndType 5 41), (0, u "(JJLcom/example/horae/horae/model/OverrunPolicy;Z)V"), (0, .long 5), (1, .methodref 37 45), (0, .nameAndType 46 47), (0, u "starvationLimitMs"), (0, u "()J"), (3, u "law"), (0, u "(JJII)Z")] 2

def k1m0 : Method := { name := "<init>", desc := "()V", sig := { parameters := [], returnType := none }, accessFlags := 2, code := none }
def k1c1 : Code := { maxStack := 4, maxLocals := 6, code := method_2_code, exceptionTable := #[], attributes := #[] }
def k1m1 : Method := { name := "period", desc := "(JII)J", sig := { parameters := [.long, .int, .int], returnType := some .long }, accessFlags := 10, code := some k1c1 }
def k1c2 : Code := { maxStack := 2, maxLocals := 2, code := method_3_code, exceptionTable := #[], attributes := #[] }
def k1m2 : Method := { name := "policy", desc := "(I)Lcom/example/horae/horae/model/OverrunPolicy;", sig := { parameters := [.int], returnType := some (.object "com/example/horae/horae/model/OverrunPolicy") }, accessFlags := 10, code := some k1c2 }
def k1c3 : Code := { maxStack := 8, maxLocals := 17, code := code, exceptionTable := #[], attributes := #[] }
def k1m3 : Method := { name := "law", desc := "(JJII)Z", sig := { parameters := [.long, .long, .int, .int], returnType := some .boolean }, accessFlags := 9, code := some k1c3 }
/-- com/example/horae/horae/model/FixedRateStarvationLimitMsPinLaw -/
def k1 : Class := { plain "com/example/horae/horae/model/FixedRateStarvationLimitMsPinLaw" (some 0) with
  accessFlags := 49
  interfaces := #[]
  cf := some (fileOf pool1 28 #[] #[{ accessFlags := 2, nameIndex := 5, descriptorIndex := 6, attributes := #[] }, { accessFlags := 10, nameIndex := 31, descriptorIndex := 32, attributes := #[] }, { accessFlags := 10, nameIndex := 35, descriptorIndex := 36, attributes := #[] }, { accessFlags := 9, nameIndex := 51, descriptorIndex := 52, attributes := #[] }] 49 2 #[] #[])
  fields := #[]
  methods := #[k1m0, k1m1, k1m2, k1m3]
  instanceTypes := #[]
  staticTypes := #[]
  resolved := Array.replicate 55 none
  statics := none }

def pool2 : Array CpInfo := pool [(1, .class_ 2), (0, u "java/lang/constant/Constable"), (0, .class_ 4), (0, u "java/lang/Object")] 6

/-- java/lang/constant/Constable -/
def k2 : Class := { plain "java/lang/constant/Constable" (some 0) with
  accessFlags := 1537
  interfaces := #[]
  cf := some (fileOf pool2 1 #[] #[] 1537 3 #[] #[])
  fields := #[]
  methods := #[]
  instanceTypes := #[]
  staticTypes := #[]
  resolved := Array.replicate 11 none
  statics := none }

def pool3 : Array CpInfo := pool [(1, .class_ 2), (0, u "java/lang/Comparable"), (0, .class_ 4), (0, u "java/lang/Object")] 7

/-- java/lang/Comparable -/
def k3 : Class := { plain "java/lang/Comparable" (some 0) with
  accessFlags := 1537
  interfaces := #[]
  cf := some (fileOf pool3 1 #[] #[] 1537 3 #[] #[])
  fields := #[]
  methods := #[]
  instanceTypes := #[]
  staticTypes := #[]
  resolved := Array.replicate 12 none
  statics := none }

def pool4 : Array CpInfo := pool [(1, .class_ 2), (0, u "java/io/Serializable"), (0, .class_ 4), (0, u "java/lang/Object")] 2

/-- java/io/Serializable -/
def k4 : Class := { plain "java/io/Serializable" (some 0) with
  accessFlags := 1537
  interfaces := #[]
  cf := some (fileOf pool4 1 #[] #[] 1537 3 #[] #[])
  fields := #[]
  methods := #[]
  instanceTypes := #[]
  staticTypes := #[]
  resolved := Array.replicate 7 none
  statics := none }

def pool5 : Array CpInfo := pool [(2, .class_ 4), (1, u "java/lang/Enum"), (0, u "name"), (0, u "Ljava/lang/String;"), (2, u "ordinal"), (0, u "I"), (1, .class_ 14), (1, u "java/lang/Object"), (4, u "hash"), (86, .class_ 108), (1, u "java/lang/Enum$EnumDesc"), (2, .class_ 112), (0, u "java/lang/constant/Constable"), (0, .class_ 114), (0, u "java/lang/Comparable"), (0, .class_ 116), (0, u "java/io/Serializable")] 87

/-- java/lang/Enum -/
def k5 : Class := { plain "java/lang/Enum" (some 0) with
  accessFlags := 1057
  interfaces := #[2, 3, 4]
  cf := some (fileOf pool5 2 #[.nestMembers #[106]] #[] 1057 12 #[111, 113, 115] #[{ accessFlags := 18, nameIndex := 5, descriptorIndex := 6, attributes := #[] }, { accessFlags := 18, nameIndex := 9, descriptorIndex := 10, attributes := #[] }, { accessFlags := 2, nameIndex := 19, descriptorIndex := 10, attributes := #[] }])
  fields := #[{ name := "name", type := (.object "java/lang/String"), accessFlags := 18, slot := 0, constantValue := 0 }, { name := "ordinal", type := .int, accessFlags := 18, slot := 1, constantValue := 0 }, { name := "hash", type := .int, accessFlags := 2, slot := 2, constantValue := 0 }]
  methods := #[]
  instanceTypes := #[(.object "java/lang/String"), .int, .int]
  staticTypes := #[]
  resolved := Array.replicate 204 none
  statics := none }

def pool6 : Array CpInfo := pool [(1, .class_ 2), (0, u "com/example/horae/horae/model/OverrunPolicy"), (2, u "DROP_TICK"), (0, u "Lcom/example/horae/horae/model/OverrunPolicy;"), (2, u "SKIP_NEXT"), (2, u "CATCH_UP_ONCE"), (2, u "$VALUES"), (0, u "[Lcom/example/horae/horae/model/OverrunPolicy;"), (6, .class_ 25), (1, u "java/lang/Enum"), (8, u "label"), (0, u "Ljava/lang/String;"), (40, u "DEFAULT")] 33

/-- com/example/horae/horae/model/OverrunPolicy -/
def k6 : Class := { plain "com/example/horae/horae/model/OverrunPolicy" (some 5) with
  accessFlags := 16433
  interfaces := #[]
  cf := some (fileOf pool6 1 #[] #[] 16433 23 #[] #[{ accessFlags := 16409, nameIndex := 5, descriptorIndex := 6, attributes := #[] }, { accessFlags := 16409, nameIndex := 9, descriptorIndex := 6, attributes := #[] }, { accessFlags := 16409, nameIndex := 12, descriptorIndex := 6, attributes := #[] }, { accessFlags := 25, nameIndex := 76, descriptorIndex := 6, attributes := #[] }, { accessFlags := 18, nameIndex := 34, descriptorIndex := 35, attributes := #[] }, { accessFlags := 4122, nameIndex := 15, descriptorIndex := 16, attributes := #[] }])
  fields := #[{ name := "DROP_TICK", type := (.object "com/example/horae/horae/model/OverrunPolicy"), accessFlags := 16409, slot := 0, constantValue := 0 }, { name := "SKIP_NEXT", type := (.object "com/example/horae/horae/model/OverrunPolicy"), accessFlags := 16409, slot := 1, constantValue := 0 }, { name := "CATCH_UP_ONCE", type := (.object "com/example/horae/horae/model/OverrunPolicy"), accessFlags := 16409, slot := 2, constantValue := 0 }, { name := "DEFAULT", type := (.object "com/example/horae/horae/model/OverrunPolicy"), accessFlags := 25, slot := 3, constantValue := 0 }, { name := "label", type := (.object "java/lang/String"), accessFlags := 18, slot := 3, constantValue := 0 }, { name := "$VALUES", type := (.array (.object "com/example/horae/horae/model/OverrunPolicy")), accessFlags := 4122, slot := 4, constantValue := 0 }]
  methods := #[]
  instanceTypes := #[(.object "java/lang/String"), .int, .int, (.object "java/lang/String")]
  staticTypes := #[(.object "com/example/horae/horae/model/OverrunPolicy"), (.object "com/example/horae/horae/model/OverrunPolicy"), (.object "com/example/horae/horae/model/OverrunPolicy"), (.object "com/example/horae/horae/model/OverrunPolicy"), (.array (.object "com/example/horae/horae/model/OverrunPolicy"))]
  resolved := Array.replicate 110 none
  statics := some 0 }

def pool7 : Array CpInfo := pool [(1, .methodref 2 3), (0, .class_ 4), (0, .nameAndType 5 6), (0, u "java/lang/Object"), (0, u "<init>"), (0, u "()V"), (0, .class_ 8), (0, u "java/lang/Record")] 13

def k7c0 : Code := { maxStack := 1, maxLocals := 1, code := jdk_30_method_1_code, exceptionTable := #[], attributes := #[] }
def k7m0 : Method := { name := "<init>", desc := "()V", sig := { parameters := [], returnType := none }, accessFlags := 4, code := some k7c0 }
/-- java/lang/Record -/
def k7 : Class := { plain "java/lang/Record" (some 0) with
  accessFlags := 1057
  interfaces := #[]
  cf := some (fileOf pool7 7 #[] #[{ accessFlags := 4, nameIndex := 5, descriptorIndex := 6, attributes := #[] }] 1057 2 #[] #[])
  fields := #[]
  methods := #[k7m0]
  instanceTypes := #[]
  staticTypes := #[]
  resolved := Array.replicate 22 none
  statics := none }

def pool8 : Array CpInfo := pool [(1, .methodref 2 3), (0, .class_ 4), (0, .nameAndType 5 6), (0, u "java/lang/Record"), (0, u "<init>"), (0, u "()V"), (0, .string 8), (0, u "overrunPolicy"), (0, .methodref 10 11), (0, .class_ 12), (0, .nameAndType 13 14), (0, u "java/util/Objects"), (0, u "requireNonNull"), (0, u "(Ljava/lang/Object;Ljava/lang/String;)Ljava/lang/Object;"), (10, .fieldref 26 27), (0, .class_ 28), (0, .nameAndType 29 30), (0, u "com/example/horae/horae/model/FixedRate"), (0, u "periodMs"), (0, u "J"), (0, .fieldref 26 32), (0, .nameAndType 33 30), (0, u "tickBudgetMs"), (0, .fieldref 26 35), (0, .nameAndType 8 36), (0, u "Lcom/example/horae/horae/model/OverrunPolicy;"), (0, .fieldref 26 38), (0, .nameAndType 39 40), (0, u "wallClockEnabled"), (0, u "Z"), (2, u "(JJLcom/example/horae/horae/model/OverrunPolicy;Z)V"), (10, .long 9223372036854775807), (1, .long 1844674407370955161), (1, .long 5), (13, u "STARVATION_TICKS"), (0, u "I"), (7, u "starvationLimitMs"), (0, u "()J")] 38

def k8c0 : Code := { maxStack := 4, maxLocals := 7, code := prog_97_method_1_code, exceptionTable := #[], attributes := #[] }
def k8m0 : Method := { name := "<init>", desc := "(JJLcom/example/horae/horae/model/OverrunPolicy;Z)V", sig := { parameters := [.long, .long, (.object "com/example/horae/horae/model/OverrunPolicy"), .boolean], returnType := none }, accessFlags := 1, code := some k8c0 }
def k8c1 : Code := { maxStack := 4, maxLocals := 3, code := prog_97_method_4_code, exceptionTable := #[], attributes := #[] }
def k8m1 : Method := { name := "starvationLimitMs", desc := "()J", sig := { parameters := [], returnType := some .long }, accessFlags := 1, code := some k8c1 }
/-- com/example/horae/horae/model/FixedRate -/
def k8 : Class := { plain "com/example/horae/horae/model/FixedRate" (some 7) with
  accessFlags := 49
  interfaces := #[]
  cf := some (fileOf pool8 26 #[] #[{ accessFlags := 1, nameIndex := 5, descriptorIndex := 43, attributes := #[] }, { accessFlags := 1, nameIndex := 81, descriptorIndex := 82, attributes := #[] }] 49 2 #[] #[{ accessFlags := 18, nameIndex := 29, descriptorIndex := 30, attributes := #[] }, { accessFlags := 18, nameIndex := 33, descriptorIndex := 30, attributes := #[] }, { accessFlags := 18, nameIndex := 8, descriptorIndex := 36, attributes := #[] }, { accessFlags := 18, nameIndex := 39, descriptorIndex := 40, attributes := #[] }, { accessFlags := 25, nameIndex := 72, descriptorIndex := 73, attributes := #[] }])
  fields := #[{ name := "periodMs", type := .long, accessFlags := 18, slot := 0, constantValue := 0 }, { name := "tickBudgetMs", type := .long, accessFlags := 18, slot := 1, constantValue := 0 }, { name := "overrunPolicy", type := (.object "com/example/horae/horae/model/OverrunPolicy"), accessFlags := 18, slot := 2, constantValue := 0 }, { name := "wallClockEnabled", type := .boolean, accessFlags := 18, slot := 3, constantValue := 0 }, { name := "STARVATION_TICKS", type := .int, accessFlags := 25, slot := 0, constantValue := 0 }]
  methods := #[k8m0, k8m1]
  instanceTypes := #[.long, .long, (.object "com/example/horae/horae/model/OverrunPolicy"), .boolean]
  staticTypes := #[.int]
  resolved := Array.replicate 121 none
  statics := none }

def pool9 : Array CpInfo := pool [(2, .class_ 4), (1, u "java/lang/CharSequence"), (42, .class_ 48), (0, u "java/lang/CharSequence$1CodePointIterator"), (10, .class_ 60), (0, u "java/lang/CharSequence$1CharIterator"), (5, .class_ 67), (0, u "java/lang/Object")] 63

/-- java/lang/CharSequence -/
def k9 : Class := { plain "java/lang/CharSequence" (some 0) with
  accessFlags := 1537
  interfaces := #[]
  cf := some (fileOf pool9 2 #[.nestMembers #[47, 59]] #[] 1537 66 #[] #[])
  fields := #[]
  methods := #[]
  instanceTypes := #[]
  staticTypes := #[]
  resolved := Array.replicate 131 none
  statics := none }

def pool10 : Array CpInfo := pool [(1, .class_ 2), (0, u "java/lang/constant/ConstantDesc"), (0, .class_ 4), (0, u "java/lang/Object")] 32

/-- java/lang/constant/ConstantDesc -/
def k10 : Class := { plain "java/lang/constant/ConstantDesc" (some 0) with
  accessFlags := 1537
  interfaces := #[]
  cf := some (fileOf pool10 1 #[] #[] 1537 3 #[] #[])
  fields := #[]
  methods := #[]
  instanceTypes := #[]
  staticTypes := #[]
  resolved := Array.replicate 37 none
  statics := none }

def pool11 : Array CpInfo := pool [(2, .class_ 4), (1, u "java/lang/Object"), (0, u "<init>"), (0, u "()V"), (3, .class_ 12), (1, u "java/lang/String"), (0, u "value"), (0, u "[B"), (2, u "coder"), (0, u "B"), (2, u "hash"), (0, u "I"), (2, u "hashIsZero"), (0, u "Z"), (13, u "COMPACT_STRINGS"), (534, .class_ 576), (0, u "java/lang/CharSequence"), (22, u "CASE_INSENSITIVE_ORDER"), (0, u "Ljava/util/Comparator;"), (500, u "serialPersistentFields"), (0, u "[Ljava/io/ObjectStreamField;"), (0, .class_ 1104), (0, u "java/lang/String$CaseInsensitiveComparator"), (1, .class_ 1107), (0, u "java/io/Serializable"), (0, .class_ 1109), (0, u "java/lang/Comparable"), (0, .class_ 1111), (0, u "java/lang/constant/Constable"), (0, .class_ 1113), (0, u "java/lang/constant/ConstantDesc"), (2, u "serialVersionUID"), (0, u "J"), (3, u "REPL"), (0, u "C"), (2, u "LATIN1"), (1, u "UTF16")] 323

def k11m0 : Method := { name := "<init>", desc := "()V", sig := { parameters := [], returnType := none }, accessFlags := 1, code := none }
/-- java/lang/String -/
def k11 : Class := { plain "java/lang/String" (some 0) with
  accessFlags := 49
  interfaces := #[4, 3, 9, 2, 10]
  cf := some (fileOf pool11 10 #[.nestMembers #[1103]] #[{ accessFlags := 1, nameIndex := 5, descriptorIndex := 6, attributes := #[] }] 49 2 #[1106, 1108, 575, 1110, 1112] #[{ accessFlags := 18, nameIndex := 13, descriptorIndex := 14, attributes := #[] }, { accessFlags := 18, nameIndex := 17, descriptorIndex := 18, attributes := #[] }, { accessFlags := 2, nameIndex := 21, descriptorIndex := 22, attributes := #[] }, { accessFlags := 2, nameIndex := 25, descriptorIndex := 26, attributes := #[] }, { accessFlags := 26, nameIndex := 1116, descriptorIndex := 1117, attributes := #[] }, { accessFlags := 24, nameIndex := 40, descriptorIndex := 26, attributes := #[] }, { accessFlags := 26, nameIndex := 1101, descriptorIndex := 1102, attributes := #[] }, { accessFlags := 26, nameIndex := 1121, descriptorIndex := 1122, attributes := #[] }, { accessFlags := 25, nameIndex := 599, descriptorIndex := 600, attributes := #[] }, { accessFlags := 24, nameIndex := 1125, descriptorIndex := 18, attributes := #[] }, { accessFlags := 24, nameIndex := 1127, descriptorIndex := 18, attributes := #[] }])
  fields := #[{ name := "value", type := (.array .byte), accessFlags := 18, slot := 0, constantValue := 0 }, { name := "coder", type := .byte, accessFlags := 18, slot := 1, constantValue := 0 }, { name := "hash", type := .int, accessFlags := 2, slot := 2, constantValue := 0 }, { name := "hashIsZero", type := .boolean, accessFlags := 2, slot := 3, constantValue := 0 }, { name := "serialVersionUID", type := .long, accessFlags := 26, slot := 0, constantValue := 0 }, { name := "COMPACT_STRINGS", type := .boolean, accessFlags := 24, slot := 1, constantValue := 0 }, { name := "serialPersistentFields", type := (.array (.object "java/io/ObjectStreamField")), accessFlags := 26, slot := 2, constantValue := 0 }, { name := "REPL", type := .char, accessFlags := 26, slot := 3, constantValue := 0 }, { name := "CASE_INSENSITIVE_ORDER", type := (.object "java/util/Comparator"), accessFlags := 25, slot := 4, constantValue := 0 }, { name := "LATIN1", type := .byte, accessFlags := 24, slot := 5, constantValue := 0 }, { name := "UTF16", type := .byte, accessFlags := 24, slot := 6, constantValue := 0 }]
  methods := #[k11m0]
  instanceTypes := #[(.array .byte), .byte, .int, .boolean]
  staticTypes := #[.long, .boolean, (.array (.object "java/io/ObjectStreamField")), .char, (.object "java/util/Comparator"), .byte, .byte]
  resolved := Array.replicate 1451 none
  statics := none }

def pool12 : Array CpInfo := pool [(2, .class_ 4), (1, u "java/lang/Object"), (0, u "<init>"), (0, u "()V"), (35, .class_ 44), (1, u "java/util/Objects"), (0, u "requireNonNull"), (48, u "(Ljava/lang/Object;Ljava/lang/String;)Ljava/lang/Object;")] 89

def k12m0 : Method := { name := "<init>", desc := "()V", sig := { parameters := [], returnType := none }, accessFlags := 2, code := none }
def k12c1 : Code := { maxStack := 3, maxLocals := 2, code := jdk_31_method_11_code, exceptionTable := #[], attributes := #[] }
def k12m1 : Method := { name := "requireNonNull", desc := "(Ljava/lang/Object;Ljava/lang/String;)Ljava/lang/Object;", sig := { parameters := [(.object "java/lang/Object"), (.object "java/lang/String")], returnType := some (.object "java/lang/Object") }, accessFlags := 9, code := some k12c1 }
/-- java/util/Objects -/
def k12 : Class := { plain "java/util/Objects" (some 0) with
  accessFlags := 49
  interfaces := #[]
  cf := some (fileOf pool12 42 #[] #[{ accessFlags := 2, nameIndex := 5, descriptorIndex := 6, attributes := #[] }, { accessFlags := 9, nameIndex := 45, descriptorIndex := 94, attributes := #[] }] 49 2 #[] #[])
  fields := #[]
  methods := #[k12m0, k12m1]
  instanceTypes := #[]
  staticTypes := #[]
  resolved := Array.replicate 184 none
  statics := none }

def pool13 : Array CpInfo := pool [(1, u "java/lang/Cloneable"), (0, .class_ 1), (0, u "java/lang/Object"), (0, .class_ 3)] 3

/-- java/lang/Cloneable -/
def k13 : Class := { plain "java/lang/Cloneable" (some 0) with
  accessFlags := 1537
  interfaces := #[]
  cf := some (fileOf pool13 2 #[] #[] 1537 4 #[] #[])
  fields := #[]
  methods := #[]
  instanceTypes := #[]
  staticTypes := #[]
  resolved := Array.replicate 8 none
  statics := none }

/-- the primitive byte -/
def k14 : Class := { plain "byte" none with kind := .primitive 'B', accessFlags := 0x411 }
/-- [B -/
def k15 : Class := { plain "[B" (some 0) with kind := .array 14 .byte, interfaces := #[13, 4], accessFlags := 1041 }

/-- the primitive int -/
def k16 : Class := { plain "int" none with kind := .primitive 'I', accessFlags := 0x411 }
/-- [I -/
def k17 : Class := { plain "[I" (some 0) with kind := .array 16 .int, interfaces := #[13, 4], accessFlags := 1041 }

def heap : Heap := #[{ cls := 6, slots := #[.ref 1, .ref 2, .ref 3, .null, .null], vm := .statics 6 },
  { cls := 6, slots := #[.null, .int 0, .int 0, .null], vm := .none },
  { cls := 6, slots := #[.null, .int 1, .int 0, .null], vm := .none },
  { cls := 6, slots := #[.null, .int 2, .int 0, .null], vm := .none }]
def classes : Array Class := #[k0, k1, k2, k3, k4, k5, k6, k7, k8, k9, k10, k11, k12, k13, k14, k15, k16, k17]
def interned : List (Array UInt16 × Addr) := []
def slotsUsed : Nat := 17
def theMethod : MethodId := ⟨1, 3⟩
def args0 : Array Value := #[.long 5, .long 6, .int 1, .int 0]
def aboutOver (below : List Frame) : State where
  vm := { classes := classes, interned := interned.toArray }
  heap := heap
  slotsUsed := slotsUsed
  threads := #[{ frames := .invoking theMethod args0 :: below }]
def below0 : List Frame := [.native { method := ⟨0, 0⟩, args := #[] }]
def about1 : State := aboutOver below0
def p0 : Program := .bare "" "" ""
def e0 : Env := launch0.env 0 0 0
theorem w_frames : about1.frames = Frame.invoking theMethod args0 :: below0 := rfl
set_option maxRecDepth 65536 in
theorem w_args : argsFit about1.vm theMethod args0 = true := by decide +kernel
set_option maxRecDepth 65536 in
theorem w_heap : heapFits about1 = true := by decide +kernel
set_option maxRecDepth 65536 in
theorem w_runnable : about1.curStatus? = some .runnable := by decide +kernel
set_option maxRecDepth 65536 in
theorem w_alone : about1.alone = true := by decide +kernel
set_option maxRecDepth 65536 in
theorem w_named : about1.methodNamed? x = some theMethod := by decide +kernel
set_option maxRecDepth 65536 in
theorem w_hears : about1.hears theMethod below0 = true := by decide +kernel
set_option maxRecDepth 65536 in
theorem w_ripe : about1.ripe theMethod args0 below0 = true := by decide +kernel
theorem w_running : about1.status = .running := rfl
set_option maxRecDepth 65536 in
theorem w_room : about1.hasRoom e0.platform room_1 = true :=
  launch0.hasRoom_least _ room_1 (by decide +kernel) (by decide +kernel) (by decide +kernel) (by decide +kernel) (by decide +kernel) (by decide +kernel)
theorem allAtoms_all (ts : List Jvm.Cond) (a : Array Jvm.Value) (st : Jvm.State) : (allAtoms ts).before a st = ts.all (fun c => c.before a st) := by
  induction ts with
  | nil => rfl
  | cons c t ih =>
    show (Jvm.Cond.and c (allAtoms t)).before a st = _
    rw [Jvm.Cond.before_and, ih, List.all_cons]
def words1 : List Jvm.Cond := Jvm.Cond.code x code maxLocals ret :: tables_1
/-- a 'code' word, met by the world's own term for the bytes: nothing is compared byte by byte -/
theorem code_word {y : MethodName} {bytes : ByteArray} {mx : Nat} {rt : Option FieldType} {a : Array Value} {s : State} {m : MethodId} {meth : Method} {c : Code} (h1 : s.methodNamed? y = some m) (h2 : s.vm.method? m = some meth) (h3 : meth.code = some c) (h4 : c.code = bytes)
    (h5 : (c.maxLocals == mx && c.exceptionTable.isEmpty && decide (c.maxStack ≤ mostOperands) && decide (meth.sig.returnType = rt) && !meth.locks && decide (parseMethodDescriptor y.desc = some meth.sig)) = true) : (Jvm.Cond.code y bytes mx rt).before a s = true := by
  simp only [Bool.and_eq_true, beq_iff_eq, Bool.not_eq_true', decide_eq_true_eq] at h5
  obtain ⟨⟨⟨⟨⟨g1, g2⟩, g3⟩, g4⟩, g5⟩, g6⟩ := h5
  simp [Cond.before, Cond.holds, Cond.value, h1, h2, h3, h4, g1, g2, g3, g4, g5, g6]
def isCode : Jvm.Cond → Bool
  | .code _ _ _ _ => true
  | _ => false
theorem all_split {L : List Jvm.Cond} {P : Jvm.Cond → Bool} (h1 : L.all (fun c => isCode c || P c) = true) (h2 : ∀ c ∈ L.filter isCode, P c = true) : L.all P = true := by
  refine List.all_eq_true.mpr fun c hc => ?_
  have h := List.all_eq_true.mp h1 c hc
  rcases Bool.eq_false_or_eq_true (isCode c) with hi | hi
  · exact h2 c (List.mem_filter.mpr ⟨hc, hi⟩)
  · simpa [hi] using h
set_option maxRecDepth 65536 in
theorem w_c0 : (Jvm.Cond.code x code maxLocals ret).before args0 about1 = true := code_word (m := ⟨1, 3⟩) (meth := k1m3) (c := k1c3) (by decide +kernel) rfl rfl rfl (by decide +kernel)
set_option maxRecDepth 65536 in
theorem w_c1 : (Jvm.Cond.code ({ cls := "com/example/horae/horae/model/FixedRateStarvationLimitMsPinLaw", name := "period", desc := "(JII)J" } : Jvm.MethodName) method_2_code (6 : Nat) (Option.some Jvm.ClassFile.FieldType.long)).before args0 about1 = true := code_word (m := ⟨1, 1⟩) (meth := k1m1) (c := k1c1) (by decide +kernel) rfl rfl rfl (by decide +kernel)
set_option maxRecDepth 65536 in
theorem w_c2 : (Jvm.Cond.code ({ cls := "com/example/horae/horae/model/FixedRateStarvationLimitMsPinLaw", name := "policy", desc := "(I)Lcom/example/horae/horae/model/OverrunPolicy;" } : Jvm.MethodName) method_3_code (2 : Nat) (Option.some (Jvm.ClassFile.FieldType.object "com/example/horae/horae/model/OverrunPolicy"))).before args0 about1 = true := code_word (m := ⟨1, 2⟩) (meth := k1m2) (c := k1c2) (by decide +kernel) rfl rfl rfl (by decide +kernel)
set_option maxRecDepth 65536 in
theorem w_c3 : (Jvm.Cond.code ({ cls := "com/example/horae/horae/model/FixedRate", name := "<init>", desc := "(JJLcom/example/horae/horae/model/OverrunPolicy;Z)V" } : Jvm.MethodName) prog_97_method_1_code (7 : Nat) (Option.none : Option Jvm.ClassFile.FieldType)).before args0 about1 = true := code_word (m := ⟨8, 0⟩) (meth := k8m0) (c := k8c0) (by decide +kernel) rfl rfl rfl (by decide +kernel)
set_option maxRecDepth 65536 in
theorem w_c4 : (Jvm.Cond.code ({ cls := "java/lang/Record", name := "<init>", desc := "()V" } : Jvm.MethodName) jdk_30_method_1_code (1 : Nat) (Option.none : Option Jvm.ClassFile.FieldType)).before args0 about1 = true := code_word (m := ⟨7, 0⟩) (meth := k7m0) (c := k7c0) (by decide +kernel) rfl rfl rfl (by decide +kernel)
set_option maxRecDepth 65536 in
theorem w_c5 : (Jvm.Cond.code ({ cls := "java/lang/Object", name := "<init>", desc := "()V" } : Jvm.MethodName) object_method_1_code (1 : Nat) (Option.none : Option Jvm.ClassFile.FieldType)).before args0 about1 = true := code_word (m := ⟨0, 0⟩) (meth := k0m0) (c := k0c0) (by decide +kernel) rfl rfl rfl (by decide +kernel)
set_option maxRecDepth 65536 in
theorem w_c6 : (Jvm.Cond.code ({ cls := "java/util/Objects", name := "requireNonNull", desc := "(Ljava/lang/Object;Ljava/lang/String;)Ljava/lang/Object;" } : Jvm.MethodName) jdk_31_method_11_code (2 : Nat) (Option.some (Jvm.ClassFile.FieldType.object "java/lang/Object"))).before args0 about1 = true := code_word (m := ⟨12, 1⟩) (meth := k12m1) (c := k12c1) (by decide +kernel) rfl rfl rfl (by decide +kernel)
set_option maxRecDepth 65536 in
theorem w_c7 : (Jvm.Cond.code ({ cls := "com/example/horae/horae/model/FixedRate", name := "starvationLimitMs", desc := "()J" } : Jvm.MethodName) prog_97_method_4_code (3 : Nat) (Option.some Jvm.ClassFile.FieldType.long)).before args0 about1 = true := code_word (m := ⟨8, 1⟩) (meth := k8m1) (c := k8c1) (by decide +kernel) rfl rfl rfl (by decide +kernel)
def codes1 : List Jvm.Cond := [Jvm.Cond.code x code maxLocals ret, Jvm.Cond.code ({ cls := "com/example/horae/horae/model/FixedRateStarvationLimitMsPinLaw", name := "period", desc := "(JII)J" } : Jvm.MethodName) method_2_code (6 : Nat) (Option.some Jvm.ClassFile.FieldType.long), Jvm.Cond.code ({ cls := "com/example/horae/horae/model/FixedRateStarvationLimitMsPinLaw", name := "policy", desc := "(I)Lcom/example/horae/horae/model/OverrunPolicy;" } : Jvm.MethodName) method_3_code (2 : Nat) (Option.some (Jvm.ClassFile.FieldType.object "com/example/horae/horae/model/OverrunPolicy")), Jvm.Cond.code ({ cls := "com/example/horae/horae/model/FixedRate", name := "<init>", desc := "(JJLcom/example/horae/horae/model/OverrunPolicy;Z)V" } : Jvm.MethodName) prog_97_method_1_code (7 : Nat) (Option.none : Option Jvm.ClassFile.FieldType), Jvm.Cond.code ({ cls := "java/lang/Record", name := "<init>", desc := "()V" } : Jvm.MethodName) jdk_30_method_1_code (1 : Nat) (Option.none : Option Jvm.ClassFile.FieldType), Jvm.Cond.code ({ cls := "java/lang/Object", name := "<init>", desc := "()V" } : Jvm.MethodName) object_method_1_code (1 : Nat) (Option.none : Option Jvm.ClassFile.FieldType), Jvm.Cond.code ({ cls := "java/util/Objects", name := "requireNonNull", desc := "(Ljava/lang/Object;Ljava/lang/String;)Ljava/lang/Object;" } : Jvm.MethodName) jdk_31_method_11_code (2 : Nat) (Option.some (Jvm.ClassFile.FieldType.object "java/lang/Object")), Jvm.Cond.code ({ cls := "com/example/horae/horae/model/FixedRate", name := "starvationLimitMs", desc := "()J" } : Jvm.MethodName) prog_97_method_4_code (3 : Nat) (Option.some Jvm.ClassFile.FieldType.long)]
set_option maxRecDepth 65536 in
theorem codes_eq : words1.filter isCode = codes1 := rfl
theorem w_codes : ∀ c ∈ words1.filter isCode, c.before args0 about1 = true := by
  rw [codes_eq]
  intro c hc
  simp only [codes1, List.mem_cons, List.not_mem_nil, or_false] at hc
  rcases hc with rfl | rfl | rfl | rfl | rfl | rfl | rfl | rfl
  · exact w_c0
  · exact w_c1
  · exact w_c2
  · exact w_c3
  · exact w_c4
  · exact w_c5
  · exact w_c6
  · exact w_c7
set_option maxRecDepth 65536 in
theorem w_t1 : (words1.take 24).all (fun c => isCode c || c.before args0 about1) = true := by decide +kernel
set_option maxRecDepth 65536 in
theorem w_t2 : ((words1.drop 24).take 24).all (fun c => isCode c || c.before args0 about1) = true := by decide +kernel
set_option maxRecDepth 65536 in
theorem w_t3 : ((words1.drop 24).drop 24).all (fun c => isCode c || c.before args0 about1) = true := by decide +kernel
theorem w_tables : (allAtoms (Jvm.Cond.code x code maxLocals ret :: tables_1)).before args0 about1 = true := by
  rw [allAtoms_all]
  show words1.all (fun c => c.before args0 about1) = true
  refine all_split ?_ w_codes
  rw [← List.take_append_drop 24 words1, List.all_append, w_t1, ← List.take_append_drop 24 (words1.drop 24), List.all_append, w_t2, w_t3]
  rfl
set_option maxRecDepth 65536 in
theorem w_case : (Jvm.Cond.and given_1 narrow_1).before args0 about1 = true := by decide +kernel
theorem w_applies : (headSpec (Jvm.Cond.code x code maxLocals ret :: tables_1) room_1).applies x e0.platform about1 = true :=
  (Spec.applies_iff w_frames).mpr ⟨w_running, w_runnable, w_alone, w_named, w_hears, w_ripe, w_room, w_tables⟩
theorem atStart : AtStart classFile x code maxLocals ret World_1 tables_1 room_1 Calls_1 rest_1 Pre_1 launch0 p0 e0 about1 theMethod args0 below0 :=
  ⟨lists_1, trivial, launch0.admits_env _ _ _, launch0.least_env, fairChoices_fair.cas, fairChoices_fair.clock, w_frames, w_args, w_heap, w_applies, trivial, trivial, w_case⟩
end start1
theorem witness_1 : WitnessClaimed_1 := ⟨start1.p0, start1.e0, start1.about1, start1.theMethod, start1.args0, start1.below0, start1.atStart⟩
end Jvm.Pilot.@@N@@
