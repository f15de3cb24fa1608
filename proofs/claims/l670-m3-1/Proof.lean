import JvmDerived
import JvmDerived.Pilot.@@N@@Statement
import JvmDerived.Pilot.@@N@@Code
set_option linter.unusedVariables false
set_option linter.unusedSimpArgs false
namespace Jvm.RoadKit
open Sem ClassFile Op Lib Jvm.Stand Jvm.Free Jvm.LawKit
section New
variable {p : Program} {l : Launch} {e : Env} {R : Room} {s : State} {m : MethodId} {args : Array Value} {below : List Frame} {meth : Method} {c : Code} {T : State} {locs : List Loc} {cells slots : Nat}
theorem retI (X : Stand p l e R s m args below meth c T locs cells slots) (hx : p.tables.exec = Jvm.exec) {pc : Nat} {Ls : Array Slot} {z : Int32} {rest : List Value} (hret : meth.sig.returnType = some .int) (hd : decode c.code pc = .ok (.ireturn, 1)) {fs : List Frame}
    (hl : ∀ (f : JFrame) (acts : List Action), f.method = m → f.locked = none → f.entered = [] → (doReturn e (T.setTop f) acts (some (.int z))).1 = T.setFrames fs) : Steps p.tables e below (T.setTop (mkF m pc Ls (.int z :: rest))) (T.setFrames fs) := by
  have hm' : T.vm.method? m = some meth := X.method'
  have hn : narrow .int (.int z) = .int z := rfl
  show Steps p.tables e below (T.setTop { method := m, pc := pc, locals := Ls, stack := _ :: rest, locked := none }) _
  jvm_step X.here [X.here.top, hx, hd, hm', hret, hn]
  first | (intro acts; rw [hl _ acts rfl rfl rfl]) | rw [hl _ _ rfl rfl rfl]
  exact Steps.refl _
end New
end Jvm.RoadKit
namespace Jvm.Pilot.@@N@@
open Jvm Jvm.ClassFile Sem Op Lib Jvm.Free Jvm.Stand Jvm.LawKit Jvm.RoadKit Bundle Jvm.Pilot.@@N@@.Jvm.D
theorem own_fldInt {args : Array Value} {s : State} {t : Term} {x : Addr} {k : Int32} {C n d : String} (ht : t.eval args s none [] s = some (.ref x)) (h : (Jvm.Cond.eq (Term.field t C n d) (Term.int k)).value args s none s [] = some true) : Fld s s.heap x C n d (.int k) := by
  refine Fld.start ?_
  have e1 := fld_at (C := C) (n := n) (dd := d) ht
  have e2 : (Term.int k).eval args s none [] s = some (.int k) := Term.int_eval k
  simp only [Cond.value, e1, e2] at h
  cases hv : s.fieldOf? x C n d with
  | none => simp [hv] at h
  | some v => cases v <;> simp [hv] at h ⊢; exact h
theorem d1_0 : decode prog_77_method_7_code 0 = .ok (.aload_n 0, 1) := by decide +kernel
theorem d1_1 : decode prog_77_method_7_code 1 = .ok (.getfield 44, 3) := by decide +kernel
theorem d1_4 : decode prog_77_method_7_code 4 = .ok (.ifCond .le 7, 3) := by decide +kernel
theorem d1_7 : decode prog_77_method_7_code 7 = .ok (.iconst 1, 1) := by decide +kernel
theorem d1_8 : decode prog_77_method_7_code 8 = .ok (.goto 4, 3) := by decide +kernel
theorem d1_12 : decode prog_77_method_7_code 12 = .ok (.ireturn, 1) := by decide +kernel
theorem ef_1 (m : MethodId) (x0 : Addr) : entryFrame m #[(.ref x0)] 1 = mkF m 0 #[.val (.ref x0)] [] := by first | (simp [entryFrame, mkF, argsToLocals, Value.category]; done) | rfl
theorem pn_com_example_undochain_undochain_jdbc_JdbcType : plainName "com/example/undochain/undochain/jdbc/JdbcType" = true := by first | (simp [plainName, overriddenIn]; done) | decide +kernel
def QP (r : Option Value) (h0 : Heap) (n0 : Nat) (v : Option Value) (h : Heap) (L : List Loc) : Prop := v = r ∧ Fr n0 L ∧ h = h0
set_option maxRecDepth 65536 in
set_option maxHeartbeats 40000000 in
theorem rm1_y (l : Launch) (Z : State) (a0 : Array Value) (hw : ∀ d ∈ tables_1, d.before a0 Z = true) (ws : List Jvm.Cond) (a1 : Addr) (w2 : Int32) (h0 : Heap) (n0 : Nat) (O0 : Old Z n0 h0) (F_digits_a1 : Fld Z h0 a1 "com/example/undochain/undochain/jdbc/JdbcType" "digits" "I" (.int w2)) (hc4 : (0 : Int32) < w2) :
    MetFree l (⟨"com/example/undochain/undochain/jdbc/JdbcType", "isNumber", "()Z"⟩ : MethodName) (head1 (Jvm.Cond.code (⟨"com/example/undochain/undochain/jdbc/JdbcType", "isNumber", "()Z"⟩ : MethodName) prog_77_method_7_code 1 (some .boolean) :: ws) ({ frames := 0, cells := 0, slots := 0, locals := 0 } : Room)) (fun a U => a = #[(.ref a1)] ∧ Z.Warmed39 U.vm ∧ U.heap = h0) (fun _ _ _ _ _ => True) (fun _ U o U' => ∃ v L, o = .returned v ∧ QP (some (.int (1 : Int32))) h0 n0 v U'.heap L ∧ FrameEnd U o U' L ({ frames := 0, cells := 0, slots := 0, locals := 0 } : Room).cells ({ frames := 0, cells := 0, slots := 0, locals := 0 } : Room).slots) := by
  refine MetFree.of_bodySF (plainFor_of_name pn_com_example_undochain_undochain_jdbc_JdbcType) hisR ?_
  intro p e s m args below meth c s₁ Bd hml0 hP hK
  obtain ⟨rfl, hZ, hh⟩ := hP
  have hx := Bd.exec
  have hby := Bd.bytes
  have hml : c.maxLocals = 1 := hml0
  have hown : s.vm.findClass "com/example/undochain/undochain/jdbc/JdbcType" = some m.cls := findClass_of_methodNamed Bd.named
  have hnm := (name_of_methodNamed Bd.named Bd.method).1
  have X0 : Stand p l e ({ frames := 0, cells := 0, slots := 0, locals := 0 } : Room) s m #[(.ref a1)] below meth c s₁ [] 0 0 := Stand.of_body Bd
  have e0 : s₁.heap = h0 := by rw [← hh, Bd.state]; rfl
  have N0 := Fr.nil n0
  have pre0 : ∀ t, Steps p.tables e below (s₁.setTop (mkF m 0 #[.val (.ref a1)] [])) t → Steps p.tables e below (s₁.setTop (entryFrame m #[(.ref a1)] 1)) t := fun t k => castTop (ef_1 m a1) k
  obtain ⟨T3, X3, e3, st3⟩ := getF X0 hx hZ hown (host := "") (Or.inl (hw _ (List.mem_of_getElem? (i := 16) rfl))) Via.refl e0 F_digits_a1 (g := (mkF m 1 #[.val (.ref a1)] [(.ref a1)])) rfl rfl (hb hby d1_1)
  obtain ⟨fs, hr, hrun, hended, hW, hsame⟩ := X3.leave (v := some (.int (1 : Int32))) (fun h => by rw [Bd.returns] at h; cases h)
  refine ⟨_, _, pre0 _ ?_, hrun, hended, _, _, rfl, ?_, ⟨_, rfl⟩, hW, hsame.mono (by decide) (by decide)⟩
  · show Steps p.tables e below (s₁.setTop (mkF m 0 #[.val (.ref a1)] [])) _
    refine XS.aloadN X0.here hx rfl (hb hby d1_0) rfl rfl ?_
    show Steps p.tables e below (s₁.setTop (mkF m 1 #[.val (.ref a1)] [(.ref a1)])) _
    refine st3 _ ?_
    show Steps p.tables e below (T3.setTop (mkF m 4 #[.val (.ref a1)] [(.int w2)])) _
    refine XS.ifNo X3.here hx rfl (hb hby d1_4) rfl ((if0 _ _).trans (tlt hc4).2.2.2) ?_
    show Steps p.tables e below (T3.setTop (mkF m 7 #[.val (.ref a1)] [])) _
    refine XS.iconst X3.here hx rfl (hb hby d1_7) ?_
    show Steps p.tables e below (T3.setTop (mkF m 8 #[.val (.ref a1)] [(.int (1 : Int32))])) _
    refine XS.goto X3.here hx rfl (pc0 := 8) (pc' := 12) rfl (hb hby d1_8) (by decide) (by decide) ?_
    show Steps p.tables e below (T3.setTop (mkF m 12 #[.val (.ref a1)] [(.int (1 : Int32))])) _
    exact retN X3 hx (t := .boolean) Bd.returns (by simp) (hb hby d1_12) hr
  · show QP (some (.int (1 : Int32))) h0 n0 _ T3.heap _
    rw [e3]
    exact ⟨rfl, N0, rfl⟩
theorem d1_11 : decode prog_77_method_7_code 11 = .ok (.iconst 0, 1) := by decide +kernel
set_option maxRecDepth 65536 in
set_option maxHeartbeats 40000000 in
theorem rm1_n (l : Launch) (Z : State) (a0 : Array Value) (hw : ∀ d ∈ tables_1, d.before a0 Z = true) (ws : List Jvm.Cond) (a1 : Addr) (w2 : Int32) (h0 : Heap) (n0 : Nat) (O0 : Old Z n0 h0) (F_digits_a1 : Fld Z h0 a1 "com/example/undochain/undochain/jdbc/JdbcType" "digits" "I" (.int w2)) (hc4 : ¬ ((0 : Int32) < w2)) :
    MetFree l (⟨"com/example/undochain/undochain/jdbc/JdbcType", "isNumber", "()Z"⟩ : MethodName) (head1 (Jvm.Cond.code (⟨"com/example/undochain/undochain/jdbc/JdbcType", "isNumber", "()Z"⟩ : MethodName) prog_77_method_7_code 1 (some .boolean) :: ws) ({ frames := 0, cells := 0, slots := 0, locals := 0 } : Room)) (fun a U => a = #[(.ref a1)] ∧ Z.Warmed39 U.vm ∧ U.heap = h0) (fun _ _ _ _ _ => True) (fun _ U o U' => ∃ v L, o = .returned v ∧ QP (some (.int (0 : Int32))) h0 n0 v U'.heap L ∧ FrameEnd U o U' L ({ frames := 0, cells := 0, slots := 0, locals := 0 } : Room).cells ({ frames := 0, cells := 0, slots := 0, locals := 0 } : Room).slots) := by
  refine MetFree.of_bodySF (plainFor_of_name pn_com_example_undochain_undochain_jdbc_JdbcType) hisR ?_
  intro p e s m args below meth c s₁ Bd hml0 hP hK
  obtain ⟨rfl, hZ, hh⟩ := hP
  have hx := Bd.exec
  have hby := Bd.bytes
  have hml : c.maxLocals = 1 := hml0
  have hown : s.vm.findClass "com/example/undochain/undochain/jdbc/JdbcType" = some m.cls := findClass_of_methodNamed Bd.named
  have hnm := (name_of_methodNamed Bd.named Bd.method).1
  have X0 : Stand p l e ({ frames := 0, cells := 0, slots := 0, locals := 0 } : Room) s m #[(.ref a1)] below meth c s₁ [] 0 0 := Stand.of_body Bd
  have e0 : s₁.heap = h0 := by rw [← hh, Bd.state]; rfl
  have N0 := Fr.nil n0
  have pre0 : ∀ t, Steps p.tables e below (s₁.setTop (mkF m 0 #[.val (.ref a1)] [])) t → Steps p.tables e below (s₁.setTop (entryFrame m #[(.ref a1)] 1)) t := fun t k => castTop (ef_1 m a1) k
  obtain ⟨T3, X3, e3, st3⟩ := getF X0 hx hZ hown (host := "") (Or.inl (hw _ (List.mem_of_getElem? (i := 16) rfl))) Via.refl e0 F_digits_a1 (g := (mkF m 1 #[.val (.ref a1)] [(.ref a1)])) rfl rfl (hb hby d1_1)
  obtain ⟨fs, hr, hrun, hended, hW, hsame⟩ := X3.leave (v := some (.int (0 : Int32))) (fun h => by rw [Bd.returns] at h; cases h)
  refine ⟨_, _, pre0 _ ?_, hrun, hended, _, _, rfl, ?_, ⟨_, rfl⟩, hW, hsame.mono (by decide) (by decide)⟩
  · show Steps p.tables e below (s₁.setTop (mkF m 0 #[.val (.ref a1)] [])) _
    refine XS.aloadN X0.here hx rfl (hb hby d1_0) rfl rfl ?_
    show Steps p.tables e below (s₁.setTop (mkF m 1 #[.val (.ref a1)] [(.ref a1)])) _
    refine st3 _ ?_
    show Steps p.tables e below (T3.setTop (mkF m 4 #[.val (.ref a1)] [(.int w2)])) _
    refine XS.ifYes X3.here hx rfl (pc0 := 4) (pc' := 11) rfl (hb hby d1_4) rfl ((if0 _ _).trans (flt hc4).2.2.2) (by decide) (by decide) ?_
    show Steps p.tables e below (T3.setTop (mkF m 11 #[.val (.ref a1)] [])) _
    refine XS.iconst X3.here hx rfl (hb hby d1_11) ?_
    show Steps p.tables e below (T3.setTop (mkF m 12 #[.val (.ref a1)] [(.int (0 : Int32))])) _
    exact retN X3 hx (t := .boolean) Bd.returns (by simp) (hb hby d1_12) hr
  · show QP (some (.int (0 : Int32))) h0 n0 _ T3.heap _
    rw [e3]
    exact ⟨rfl, N0, rfl⟩
theorem pd___Z : parseMethodDescriptor "()Z" = some ⟨[], some .boolean⟩ := by decide +kernel
theorem ef_0 (m : MethodId) (x0 : Int32) : entryFrame m #[(.int x0)] maxLocals = mkF m 0 #[.val (.int x0), .unset, .unset, .unset] [] := by first | (simp [entryFrame, mkF, argsToLocals, Value.category, maxLocals]; done) | rfl
theorem pn_com_example_undochain_undochain_jdbc_JdbcTypeIsNumberPinLaw : plainName "com/example/undochain/undochain/jdbc/JdbcTypeIsNumberPinLaw" = true := by first | (simp [plainName, overriddenIn]; done) | decide +kernel
def QL (n0 : Nat) (v : Option Value) (h : Heap) (L : List Loc) : Prop := v = some (.int (1 : Int32)) ∧ Fr n0 L
set_option maxRecDepth 65536 in
set_option maxHeartbeats 40000000 in
theorem rm0_0 (l : Launch) (Z : State) (a0 : Array Value) (hw : ∀ d ∈ tables_1, d.before a0 Z = true) (ws : List Jvm.Cond) (p1 : Int32) (wI : Addr) (wB : Addr) (wV : Addr) (h0 : Heap) (n0 : Nat) (O0 : Old Z n0 h0) (S_INT : Sta Z Z.heap "com/example/undochain/undochain/jdbc/JdbcType" "INT" "Lcom/example/undochain/undochain/jdbc/JdbcType;" (.ref wI)) (E_wI : Exa Z Z.heap wI "com/example/undochain/undochain/jdbc/JdbcType") (S_BIGINT : Sta Z Z.heap "com/example/undochain/undochain/jdbc/JdbcType" "BIGINT" "Lcom/example/undochain/undochain/jdbc/JdbcType;" (.ref wB)) (E_wB : Exa Z Z.heap wB "com/example/undochain/undochain/jdbc/JdbcType") (S_VARCHAR : Sta Z Z.heap "com/example/undochain/undochain/jdbc/JdbcType" "VARCHAR" "Lcom/example/undochain/undochain/jdbc/JdbcType;" (.ref wV)) (E_wV : Exa Z Z.heap wV "com/example/undochain/undochain/jdbc/JdbcType") (F_digits_wI : Fld Z Z.heap wI "com/example/undochain/undochain/jdbc/JdbcType" "digits" "I" (.int (10 : Int32))) (hc31 : ((p1 &&& (2147483647 : Int32)) % (3 : Int32)) = (0 : Int32)) :
    MetFree l x (head1 (Jvm.Cond.code x code maxLocals ret :: ws) room_1) (fun a U => a = #[(.int p1)] ∧ Z.Warmed39 U.vm ∧ U.heap = h0) (fun _ _ _ _ _ => True) (fun _ U o U' => ∃ v L, o = .returned v ∧ QL n0 v U'.heap L ∧ FrameEnd U o U' L room_1.cells room_1.slots) := by
  refine MetFree.of_bodySF (plainFor_of_name pn_com_example_undochain_undochain_jdbc_JdbcTypeIsNumberPinLaw) hisR ?_
  intro p e s m args below meth c s₁ Bd hml0 hP hK
  obtain ⟨rfl, hZ, hh⟩ := hP
  have hx := Bd.exec
  have hby := Bd.bytes
  have hml : c.maxLocals = 4 := hml0
  have hown : s.vm.findClass "com/example/undochain/undochain/jdbc/JdbcTypeIsNumberPinLaw" = some m.cls := findClass_of_methodNamed Bd.named
  have hnm := (name_of_methodNamed Bd.named Bd.method).1
  have X0 : Stand p l e room_1 s m #[(.int p1)] below meth c s₁ [] 0 0 := Stand.of_body Bd
  have e0 : s₁.heap = h0 := by rw [← hh, Bd.state]; rfl
  have N0 := Fr.nil n0
  have pre0 : ∀ t, Steps p.tables e below (s₁.setTop (mkF m 0 #[.val (.int p1), .unset, .unset, .unset] [])) t → Steps p.tables e below (s₁.setTop (entryFrame m #[(.int p1)] maxLocals)) t := fun t k => castTop (ef_0 m p1) k
  obtain ⟨T1, h1, k1, X1, e1, E1, A1, Ov1, st1⟩ := newR X0 hx hZ hown (hw _ (List.mem_of_getElem? (i := 0) rfl)) (hw _ (List.mem_of_getElem? (i := 1) rfl)) e0 (g := (mkF m 1 #[.val (.int p1), .unset, .unset, .unset] [(.int (3 : Int32))])) rfl (hb hby at_1) rfl (by decide) (cap := 3) (by decide) (by decide) (by decide) (by decide)
  obtain ⟨b1, g1⟩ : ∃ z, z = h0.size := ⟨_, rfl⟩
  rw [← g1] at A1 st1
  have g_b1 : n0 ≤ b1 := Nat.le_trans (Nat.le_of_eq O0.1.symm) (Nat.le_trans O0.2.1 (Nat.le_of_eq g1.symm))
  have sz_b1 : h0.size ≤ b1 := Nat.le_trans (Keep.refl h0 []).1 (Nat.le_of_eq g1.symm)
  have O1 := O0.ext E1
  have K1 : Keep h0 h1 [] := (Keep.refl h0 []).ext E1
  have V_b1 : Arv Z h1 b1 k1 (.object "com/example/undochain/undochain/jdbc/JdbcType") (3 : Int32) [.null, .null, .null] .null := (Arv.new A1 (by decide)).pad (pad_rep [] .null 3)
  obtain ⟨T2, X2, e2, st2⟩ := getS2 X1 hx hZ hown (host := "") (Or.inl (hw _ (List.mem_of_getElem? (i := 2) rfl))) Via.refl e1 (S_INT.ext O1.2) (g := (mkF m 6 #[.val (.int p1), .unset, .unset, .unset] [(.int (0 : Int32)), (.ref b1), (.ref b1)])) rfl (hb hby at_6)
  obtain ⟨cl_3, Ar_3, q_3, Sz_3, Nz_3, Hz_3, Gz_3⟩ := id V_b1
  have hin_3 : ¬ ((0 : Int32) < 0 ∨ cl_3.slots.size ≤ ((0 : Int32)).toNatClampNeg) := inb_of Sz_3 ⟨by decide, by decide⟩
  obtain ⟨T3, h3, X3, e3, W3, st3⟩ := stR X2 hx hZ e2 Ar_3 (j := (0 : Int32)) hin_3 rfl (Sto.ofV Ar_3 q_3 Ov1 (Ins.self (E_wI.ext O1.2))) (g := (mkF m 9 #[.val (.int p1), .unset, .unset, .unset] [(.ref wI), (.int (0 : Int32)), (.ref b1), (.ref b1)])) rfl rfl (hb hby at_9)
  have V3 := Arv.set Ar_3 q_3 Sz_3 Nz_3 Hz_3 Gz_3 rfl W3 0 rfl (Nat.le_of_ble_eq_true rfl)
  have O3 := O1.wr W3 g_b1
  have K3 : Keep h0 h3 [] := K1.wr W3 (Or.inr sz_b1)
  have N3 := Fr.snoc X3 N0 g_b1
  obtain ⟨T4, X4, e4, st4⟩ := getS2 X3 hx hZ hown (host := "") (Or.inl (hw _ (List.mem_of_getElem? (i := 6) rfl))) Via.refl e3 (S_BIGINT.ext O3.2) (g := (mkF m 12 #[.val (.int p1), .unset, .unset, .unset] [(.int (1 : Int32)), (.ref b1), (.ref b1)])) rfl (hb hby at_12)
  obtain ⟨cl_5, Ar_5, q_5, Sz_5, Nz_5, Hz_5, Gz_5⟩ := id V3
  have hin_5 : ¬ ((1 : Int32) < 0 ∨ cl_5.slots.size ≤ ((1 : Int32)).toNatClampNeg) := inb_of Sz_5 ⟨by decide, by decide⟩
  obtain ⟨T5, h5, X5, e5, W5, st5⟩ := stR X4 hx hZ e4 Ar_5 (j := (1 : Int32)) hin_5 rfl (Sto.ofV Ar_5 q_5 Ov1 (Ins.self (E_wB.ext O3.2))) (g := (mkF m 15 #[.val (.int p1), .unset, .unset, .unset] [(.ref wB), (.int (1 : Int32)), (.ref b1), (.ref b1)])) rfl rfl (hb hby at_15)
  have V5 := Arv.set Ar_5 q_5 Sz_5 Nz_5 Hz_5 Gz_5 rfl W5 1 rfl (Nat.le_of_ble_eq_true rfl)
  have O5 := O3.wr W5 g_b1
  have K5 : Keep h0 h5 [] := K3.wr W5 (Or.inr sz_b1)
  have N5 := Fr.snoc X5 N3 g_b1
  obtain ⟨T6, X6, e6, st6⟩ := getS2 X5 hx hZ hown (host := "") (Or.inl (hw _ (List.mem_of_getElem? (i := 8) rfl))) Via.refl e5 (S_VARCHAR.ext O5.2) (g := (mkF m 18 #[.val (.int p1), .unset, .unset, .unset] [(.int (2 : Int32)), (.ref b1), (.ref b1)])) rfl (hb hby at_18)
  obtain ⟨cl_7, Ar_7, q_7, Sz_7, Nz_7, Hz_7, Gz_7⟩ := id V5
  have hin_7 : ¬ ((2 : Int32) < 0 ∨ cl_7.slots.size ≤ ((2 : Int32)).toNatClampNeg) := inb_of Sz_7 ⟨by decide, by decide⟩
  obtain ⟨T7, h7, X7, e7, W7, st7⟩ := stR X6 hx hZ e6 Ar_7 (j := (2 : Int32)) hin_7 rfl (Sto.ofV Ar_7 q_7 Ov1 (Ins.self (E_wV.ext O5.2))) (g := (mkF m 21 #[.val (.int p1), .unset, .unset, .unset] [(.ref wV), (.int (2 : Int32)), (.ref b1), (.ref b1)])) rfl rfl (hb hby at_21)
  have V7 := Arv.set Ar_7 q_7 Sz_7 Nz_7 Hz_7 Gz_7 rfl W7 2 rfl (Nat.le_of_ble_eq_true rfl)
  have O7 := O5.wr W7 g_b1
  have K7 : Keep h0 h7 [] := K5.wr W7 (Or.inr sz_b1)
  have N7 := Fr.snoc X7 N5 g_b1
  obtain ⟨cl_8, Ar_8, q_8, Sz_8, Nz_8, Hz_8, Gz_8⟩ := id V7
  have hin_8 : ¬ (((p1 &&& (2147483647 : Int32)) % (3 : Int32)) < 0 ∨ cl_8.slots.size ≤ (((p1 &&& (2147483647 : Int32)) % (3 : Int32))).toNatClampNeg) := inb_of Sz_8 (by rw [hc31]; decide)
  have hat_8 : cl_8.slots[(((p1 &&& (2147483647 : Int32)) % (3 : Int32))).toNatClampNeg]? = some (.ref wI) := Has.at Hz_8 hin_8 (by rw [hc31]; rfl)
  obtain ⟨cq9, kq9, q9a, q9b, q9c⟩ := isOf hZ e7 (E_wI.ext O7.2)
  obtain ⟨_, _, ⟨T9, L9, k9, n9⟩, -, X9, ⟨Lc9, hQ9, l9, y9, z9⟩, st9⟩ := X7.virtualBack hx (y := (⟨"com/example/undochain/undochain/jdbc/JdbcType", "isNumber", "()Z"⟩ : MethodName)) (z := (⟨"com/example/undochain/undochain/jdbc/JdbcType", "isNumber", "()Z"⟩ : MethodName)) hown (mvT hZ (hw _ (List.mem_of_getElem? (i := 11) rfl))) (mvT hZ (hw _ (List.mem_of_getElem? (i := 12) rfl))) (notFace_of_selects (args := #[]) (mvT hZ (hw _ (List.mem_of_getElem? (i := 14) rfl)))) (mvT hZ (hw _ (List.mem_of_getElem? (i := 14) rfl))) (mvT hZ (hw _ (List.mem_of_getElem? (i := 13) rfl))) (by decide) (backOf (W := 0) (rm1_y l Z a0 hw [] wI (10 : Int32) h7 n0 O7 (F_digits_wI.ext O7.2) (by decide)) hZ (hw _ (List.mem_of_getElem? (i := 15) rfl)) (hw _ (List.mem_of_getElem? (i := 3) rfl)) (by decide) (by decide)) q9a q9c (g := (mkF m 54 #[.val (.int p1), .val (.ref b1), .val (.int ((p1 &&& (2147483647 : Int32)) % (3 : Int32))), .val (.int (1 : Int32))] [(.ref wI)])) rfl (by rw [hml]; rfl) (Steps.refl _) (argsL := []) (rest := []) (lenOf pd___Z rfl) rfl (by show 2 * 0 + _ ≤ _; exact Nat.le_of_eq rfl) (hb hby at_54) (fun _ _ => ⟨rfl, e7, (by decide : 1 + 0 ≤ _), (by decide : 3 + 0 ≤ _)⟩)
  dsimp only [Pt.U, Pt.locs, Pt.cells, Pt.slots] at X9 l9 y9 z9 st9 hQ9
  subst l9 y9 z9
  obtain ⟨rfl, Nq9, e9⟩ := hQ9
  have N9 := Fr.app N7 Nq9
  obtain ⟨fs, hr, hrun, hended, hW, hsame⟩ := X9.leave (v := some (.int (1 : Int32))) (fun h => by rw [Bd.returns] at h; cases h)
  refine ⟨_, _, pre0 _ ?_, hrun, hended, _, _, rfl, ?_, ⟨_, rfl⟩, hW, hsame.mono (by decide) (by decide)⟩
  · show Steps p.tables e below (s₁.setTop (mkF m 0 #[.val (.int p1), .unset, .unset, .unset] [])) _
    refine XS.iconst X0.here hx rfl (hb hby at_0) ?_
    show Steps p.tables e below (s₁.setTop (mkF m 1 #[.val (.int p1), .unset, .unset, .unset] [(.int (3 : Int32))])) _
    refine st1 _ ?_
    show Steps p.tables e below (T1.setTop (mkF m 4 #[.val (.int p1), .unset, .unset, .unset] [(.ref b1)])) _
    refine XS.dup X1.here hx rfl (hb hby at_4) rfl rfl ?_
    show Steps p.tables e below (T1.setTop (mkF m 5 #[.val (.int p1), .unset, .unset, .unset] [(.ref b1), (.ref b1)])) _
    refine XS.iconst X1.here hx rfl (hb hby at_5) ?_
    show Steps p.tables e below (T1.setTop (mkF m 6 #[.val (.int p1), .unset, .unset, .unset] [(.int (0 : Int32)), (.ref b1), (.ref b1)])) _
    refine st2 _ ?_
    show Steps p.tables e below (T2.setTop (mkF m 9 #[.val (.int p1), .unset, .unset, .unset] [(.ref wI), (.int (0 : Int32)), (.ref b1), (.ref b1)])) _
    refine st3 _ ?_
    show Steps p.tables e below (T3.setTop (mkF m 10 #[.val (.int p1), .unset, .unset, .unset] [(.ref b1)])) _
    refine XS.dup X3.here hx rfl (hb hby at_10) rfl rfl ?_
    show Steps p.tables e below (T3.setTop (mkF m 11 #[.val (.int p1), .unset, .unset, .unset] [(.ref b1), (.ref b1)])) _
    refine XS.iconst X3.here hx rfl (hb hby at_11) ?_
    show Steps p.tables e below (T3.setTop (mkF m 12 #[.val (.int p1), .unset, .unset, .unset] [(.int (1 : Int32)), (.ref b1), (.ref b1)])) _
    refine st4 _ ?_
    show Steps p.tables e below (T4.setTop (mkF m 15 #[.val (.int p1), .unset, .unset, .unset] [(.ref wB), (.int (1 : Int32)), (.ref b1), (.ref b1)])) _
    refine st5 _ ?_
    show Steps p.tables e below (T5.setTop (mkF m 16 #[.val (.int p1), .unset, .unset, .unset] [(.ref b1)])) _
    refine XS.dup X5.here hx rfl (hb hby at_16) rfl rfl ?_
    show Steps p.tables e below (T5.setTop (mkF m 17 #[.val (.int p1), .unset, .unset, .unset] [(.ref b1), (.ref b1)])) _
    refine XS.iconst X5.here hx rfl (hb hby at_17) ?_
    show Steps p.tables e below (T5.setTop (mkF m 18 #[.val (.int p1), .unset, .unset, .unset] [(.int (2 : Int32)), (.ref b1), (.ref b1)])) _
    refine st6 _ ?_
    show Steps p.tables e below (T6.setTop (mkF m 21 #[.val (.int p1), .unset, .unset, .unset] [(.ref wV), (.int (2 : Int32)), (.ref b1), (.ref b1)])) _
    refine st7 _ ?_
    show Steps p.tables e below (T7.setTop (mkF m 22 #[.val (.int p1), .unset, .unset, .unset] [(.ref b1)])) _
    refine XS.astoreN X7.here hx rfl (hb hby at_22) rfl rfl (l' := #[.val (.int p1), .val (.ref b1), .unset, .unset]) rfl ?_
    show Steps p.tables e below (T7.setTop (mkF m 23 #[.val (.int p1), .val (.ref b1), .unset, .unset] [])) _
    refine XS.iloadN X7.here hx rfl (hb hby at_23) rfl ?_
    show Steps p.tables e below (T7.setTop (mkF m 24 #[.val (.int p1), .val (.ref b1), .unset, .unset] [(.int p1)])) _
    refine X7.ldcInt hx hown (mvT hZ (hw _ (List.mem_of_getElem? (i := 10) rfl))) (g := (mkF m 24 #[.val (.int p1), .val (.ref b1), .unset, .unset] [(.int p1)])) rfl (hb hby at_24) _ ?_
    show Steps p.tables e below (T7.setTop (mkF m 26 #[.val (.int p1), .val (.ref b1), .unset, .unset] [(.int (2147483647 : Int32)), (.int p1)])) _
    refine XS.iand X7.here hx rfl (hb hby at_26) rfl ?_
    show Steps p.tables e below (T7.setTop (mkF m 27 #[.val (.int p1), .val (.ref b1), .unset, .unset] [(.int (p1 &&& (2147483647 : Int32)))])) _
    refine XS.iconst X7.here hx rfl (hb hby at_27) ?_
    show Steps p.tables e below (T7.setTop (mkF m 28 #[.val (.int p1), .val (.ref b1), .unset, .unset] [(.int (3 : Int32)), (.int (p1 &&& (2147483647 : Int32)))])) _
    refine iremM (g := (mkF m 28 #[.val (.int p1), .val (.ref b1), .unset, .unset] [(.int (3 : Int32)), (.int (p1 &&& (2147483647 : Int32)))])) X7 hx rfl (hb hby at_28) rfl (by decide) ?_
    show Steps p.tables e below (T7.setTop (mkF m 29 #[.val (.int p1), .val (.ref b1), .unset, .unset] [(.int ((p1 &&& (2147483647 : Int32)) % (3 : Int32)))])) _
    refine XS.istoreN X7.here hx rfl (hb hby at_29) rfl (l' := #[.val (.int p1), .val (.ref b1), .val (.int ((p1 &&& (2147483647 : Int32)) % (3 : Int32))), .unset]) rfl ?_
    show Steps p.tables e below (T7.setTop (mkF m 30 #[.val (.int p1), .val (.ref b1), .val (.int ((p1 &&& (2147483647 : Int32)) % (3 : Int32))), .unset] [])) _
    refine XS.iloadN X7.here hx rfl (hb hby at_30) rfl ?_
    show Steps p.tables e below (T7.setTop (mkF m 31 #[.val (.int p1), .val (.ref b1), .val (.int ((p1 &&& (2147483647 : Int32)) % (3 : Int32))), .unset] [(.int ((p1 &&& (2147483647 : Int32)) % (3 : Int32)))])) _
    refine XS.ifNo X7.here hx rfl (hb hby at_31) rfl ((if0 _ _).trans (teq hc31).2) ?_
    show Steps p.tables e below (T7.setTop (mkF m 34 #[.val (.int p1), .val (.ref b1), .val (.int ((p1 &&& (2147483647 : Int32)) % (3 : Int32))), .unset] [])) _
    refine XS.iconst X7.here hx rfl (hb hby at_34) ?_
    show Steps p.tables e below (T7.setTop (mkF m 35 #[.val (.int p1), .val (.ref b1), .val (.int ((p1 &&& (2147483647 : Int32)) % (3 : Int32))), .unset] [(.int (1 : Int32))])) _
    refine XS.istoreN X7.here hx rfl (hb hby at_35) rfl (l' := #[.val (.int p1), .val (.ref b1), .val (.int ((p1 &&& (2147483647 : Int32)) % (3 : Int32))), .val (.int (1 : Int32))]) rfl ?_
    show Steps p.tables e below (T7.setTop (mkF m 36 #[.val (.int p1), .val (.ref b1), .val (.int ((p1 &&& (2147483647 : Int32)) % (3 : Int32))), .val (.int (1 : Int32))] [])) _
    refine XS.goto X7.here hx rfl (pc0 := 36) (pc' := 51) rfl (hb hby at_36) (by decide) (by decide) ?_
    show Steps p.tables e below (T7.setTop (mkF m 51 #[.val (.int p1), .val (.ref b1), .val (.int ((p1 &&& (2147483647 : Int32)) % (3 : Int32))), .val (.int (1 : Int32))] [])) _
    refine XS.aloadN X7.here hx rfl (hb hby at_51) rfl rfl ?_
    show Steps p.tables e below (T7.setTop (mkF m 52 #[.val (.int p1), .val (.ref b1), .val (.int ((p1 &&& (2147483647 : Int32)) % (3 : Int32))), .val (.int (1 : Int32))] [(.ref b1)])) _
    refine XS.iloadN X7.here hx rfl (hb hby at_52) rfl ?_
    show Steps p.tables e below (T7.setTop (mkF m 53 #[.val (.int p1), .val (.ref b1), .val (.int ((p1 &&& (2147483647 : Int32)) % (3 : Int32))), .val (.int (1 : Int32))] [(.int ((p1 &&& (2147483647 : Int32)) % (3 : Int32))), (.ref b1)])) _
    refine X7.aaload hx (j := ((p1 &&& (2147483647 : Int32)) % (3 : Int32))) (v := (.ref wI)) (by rw [e7]; exact Ar_8.1) (State.isArrayOf_alike hZ.alike Ar_8.2.1) rfl Ar_8.2.2 hin_8 hat_8 (g := (mkF m 53 #[.val (.int p1), .val (.ref b1), .val (.int ((p1 &&& (2147483647 : Int32)) % (3 : Int32))), .val (.int (1 : Int32))] [(.int ((p1 &&& (2147483647 : Int32)) % (3 : Int32))), (.ref b1)])) rfl rfl (hb hby at_53) _ ?_
    show Steps p.tables e below (T7.setTop (mkF m 54 #[.val (.int p1), .val (.ref b1), .val (.int ((p1 &&& (2147483647 : Int32)) % (3 : Int32))), .val (.int (1 : Int32))] [(.ref wI)])) _
    refine st9.trans ?_
    show Steps p.tables e below (T9.setTop (mkF m 57 #[.val (.int p1), .val (.ref b1), .val (.int ((p1 &&& (2147483647 : Int32)) % (3 : Int32))), .val (.int (1 : Int32))] [(.int (1 : Int32))])) _
    refine XS.iloadN X9.here hx rfl (hb hby at_57) rfl ?_
    show Steps p.tables e below (T9.setTop (mkF m 58 #[.val (.int p1), .val (.ref b1), .val (.int ((p1 &&& (2147483647 : Int32)) % (3 : Int32))), .val (.int (1 : Int32))] [(.int (1 : Int32)), (.int (1 : Int32))])) _
    refine XS.icmpNo X9.here hx rfl (hb hby at_58) rfl (teq (rfl : (1 : Int32) = (1 : Int32))).2 ?_
    show Steps p.tables e below (T9.setTop (mkF m 61 #[.val (.int p1), .val (.ref b1), .val (.int ((p1 &&& (2147483647 : Int32)) % (3 : Int32))), .val (.int (1 : Int32))] [])) _
    refine XS.iconst X9.here hx rfl (hb hby at_61) ?_
    show Steps p.tables e below (T9.setTop (mkF m 62 #[.val (.int p1), .val (.ref b1), .val (.int ((p1 &&& (2147483647 : Int32)) % (3 : Int32))), .val (.int (1 : Int32))] [(.int (1 : Int32))])) _
    refine XS.goto X9.here hx rfl (pc0 := 62) (pc' := 66) rfl (hb hby at_62) (by decide) (by decide) ?_
    show Steps p.tables e below (T9.setTop (mkF m 66 #[.val (.int p1), .val (.ref b1), .val (.int ((p1 &&& (2147483647 : Int32)) % (3 : Int32))), .val (.int (1 : Int32))] [(.int (1 : Int32))])) _
    exact retN X9 hx (t := .boolean) Bd.returns (by simp) (hb hby at_66) hr
  · show QL n0 _ T9.heap _
    rw [e9]
    exact ⟨rfl, N9⟩
set_option maxRecDepth 65536 in
set_option maxHeartbeats 40000000 in
theorem rm0_1 (l : Launch) (Z : State) (a0 : Array Value) (hw : ∀ d ∈ tables_1, d.before a0 Z = true) (ws : List Jvm.Cond) (p1 : Int32) (wI : Addr) (wB : Addr) (wV : Addr) (h0 : Heap) (n0 : Nat) (O0 : Old Z n0 h0) (S_INT : Sta Z Z.heap "com/example/undochain/undochain/jdbc/JdbcType" "INT" "Lcom/example/undochain/undochain/jdbc/JdbcType;" (.ref wI)) (E_wI : Exa Z Z.heap wI "com/example/undochain/undochain/jdbc/JdbcType") (S_BIGINT : Sta Z Z.heap "com/example/undochain/undochain/jdbc/JdbcType" "BIGINT" "Lcom/example/undochain/undochain/jdbc/JdbcType;" (.ref wB)) (E_wB : Exa Z Z.heap wB "com/example/undochain/undochain/jdbc/JdbcType") (S_VARCHAR : Sta Z Z.heap "com/example/undochain/undochain/jdbc/JdbcType" "VARCHAR" "Lcom/example/undochain/undochain/jdbc/JdbcType;" (.ref wV)) (E_wV : Exa Z Z.heap wV "com/example/undochain/undochain/jdbc/JdbcType") (F_digits_wB : Fld Z Z.heap wB "com/example/undochain/undochain/jdbc/JdbcType" "digits" "I" (.int (19 : Int32))) (hc31 : ¬ (((p1 &&& (2147483647 : Int32)) % (3 : Int32)) = (0 : Int32))) (hc41 : ((p1 &&& (2147483647 : Int32)) % (3 : Int32)) = (1 : Int32)) :
    MetFree l x (head1 (Jvm.Cond.code x code maxLocals ret :: ws) room_1) (fun a U => a = #[(.int p1)] ∧ Z.Warmed39 U.vm ∧ U.heap = h0) (fun _ _ _ _ _ => True) (fun _ U o U' => ∃ v L, o = .returned v ∧ QL n0 v U'.heap L ∧ FrameEnd U o U' L room_1.cells room_1.slots) := by
  refine MetFree.of_bodySF (plainFor_of_name pn_com_example_undochain_undochain_jdbc_JdbcTypeIsNumberPinLaw) hisR ?_
  intro p e s m args below meth c s₁ Bd hml0 hP hK
  obtain ⟨rfl, hZ, hh⟩ := hP
  have hx := Bd.exec
  have hby := Bd.bytes
  have hml : c.maxLocals = 4 := hml0
  have hown : s.vm.findClass "com/example/undochain/undochain/jdbc/JdbcTypeIsNumberPinLaw" = some m.cls := findClass_of_methodNamed Bd.named
  have hnm := (name_of_methodNamed Bd.named Bd.method).1
  have X0 : Stand p l e room_1 s m #[(.int p1)] below meth c s₁ [] 0 0 := Stand.of_body Bd
  have e0 : s₁.heap = h0 := by rw [← hh, Bd.state]; rfl
  have N0 := Fr.nil n0
  have pre0 : ∀ t, Steps p.tables e below (s₁.setTop (mkF m 0 #[.val (.int p1), .unset, .unset, .unset] [])) t → Steps p.tables e below (s₁.setTop (entryFrame m #[(.int p1)] maxLocals)) t := fun t k => castTop (ef_0 m p1) k
  obtain ⟨T1, h1, k1, X1, e1, E1, A1, Ov1, st1⟩ := newR X0 hx hZ hown (hw _ (List.mem_of_getElem? (i := 0) rfl)) (hw _ (List.mem_of_getElem? (i := 1) rfl)) e0 (g := (mkF m 1 #[.val (.int p1), .unset, .unset, .unset] [(.int (3 : Int32))])) rfl (hb hby at_1) rfl (by decide) (cap := 3) (by decide) (by decide) (by decide) (by decide)
  obtain ⟨b1, g1⟩ : ∃ z, z = h0.size := ⟨_, rfl⟩
  rw [← g1] at A1 st1
  have g_b1 : n0 ≤ b1 := Nat.le_trans (Nat.le_of_eq O0.1.symm) (Nat.le_trans O0.2.1 (Nat.le_of_eq g1.symm))
  have sz_b1 : h0.size ≤ b1 := Nat.le_trans (Keep.refl h0 []).1 (Nat.le_of_eq g1.symm)
  have O1 := O0.ext E1
  have K1 : Keep h0 h1 [] := (Keep.refl h0 []).ext E1
  have V_b1 : Arv Z h1 b1 k1 (.object "com/example/undochain/undochain/jdbc/JdbcType") (3 : Int32) [.null, .null, .null] .null := (Arv.new A1 (by decide)).pad (pad_rep [] .null 3)
  obtain ⟨T2, X2, e2, st2⟩ := getS2 X1 hx hZ hown (host := "") (Or.inl (hw _ (List.mem_of_getElem? (i := 2) rfl))) Via.refl e1 (S_INT.ext O1.2) (g := (mkF m 6 #[.val (.int p1), .unset, .unset, .unset] [(.int (0 : Int32)), (.ref b1), (.ref b1)])) rfl (hb hby at_6)
  obtain ⟨cl_3, Ar_3, q_3, Sz_3, Nz_3, Hz_3, Gz_3⟩ := id V_b1
  have hin_3 : ¬ ((0 : Int32) < 0 ∨ cl_3.slots.size ≤ ((0 : Int32)).toNatClampNeg) := inb_of Sz_3 ⟨by decide, by decide⟩
  obtain ⟨T3, h3, X3, e3, W3, st3⟩ := stR X2 hx hZ e2 Ar_3 (j := (0 : Int32)) hin_3 rfl (Sto.ofV Ar_3 q_3 Ov1 (Ins.self (E_wI.ext O1.2))) (g := (mkF m 9 #[.val (.int p1), .unset, .unset, .unset] [(.ref wI), (.int (0 : Int32)), (.ref b1), (.ref b1)])) rfl rfl (hb hby at_9)
  have V3 := Arv.set Ar_3 q_3 Sz_3 Nz_3 Hz_3 Gz_3 rfl W3 0 rfl (Nat.le_of_ble_eq_true rfl)
  have O3 := O1.wr W3 g_b1
  have K3 : Keep h0 h3 [] := K1.wr W3 (Or.inr sz_b1)
  have N3 := Fr.snoc X3 N0 g_b1
  obtain ⟨T4, X4, e4, st4⟩ := getS2 X3 hx hZ hown (host := "") (Or.inl (hw _ (List.mem_of_getElem? (i := 6) rfl))) Via.refl e3 (S_BIGINT.ext O3.2) (g := (mkF m 12 #[.val (.int p1), .unset, .unset, .unset] [(.int (1 : Int32)), (.ref b1), (.ref b1)])) rfl (hb hby at_12)
  obtain ⟨cl_5, Ar_5, q_5, Sz_5, Nz_5, Hz_5, Gz_5⟩ := id V3
  have hin_5 : ¬ ((1 : Int32) < 0 ∨ cl_5.slots.size ≤ ((1 : Int32)).toNatClampNeg) := inb_of Sz_5 ⟨by decide, by decide⟩
  obtain ⟨T5, h5, X5, e5, W5, st5⟩ := stR X4 hx hZ e4 Ar_5 (j := (1 : Int32)) hin_5 rfl (Sto.ofV Ar_5 q_5 Ov1 (Ins.self (E_wB.ext O3.2))) (g := (mkF m 15 #[.val (.int p1), .unset, .unset, .unset] [(.ref wB), (.int (1 : Int32)), (.ref b1), (.ref b1)])) rfl rfl (hb hby at_15)
  have V5 := Arv.set Ar_5 q_5 Sz_5 Nz_5 Hz_5 Gz_5 rfl W5 1 rfl (Nat.le_of_ble_eq_true rfl)
  have O5 := O3.wr W5 g_b1
  have K5 : Keep h0 h5 [] := K3.wr W5 (Or.inr sz_b1)
  have N5 := Fr.snoc X5 N3 g_b1
  obtain ⟨T6, X6, e6, st6⟩ := getS2 X5 hx hZ hown (host := "") (Or.inl (hw _ (List.mem_of_getElem? (i := 8) rfl))) Via.refl e5 (S_VARCHAR.ext O5.2) (g := (mkF m 18 #[.val (.int p1), .unset, .unset, .unset] [(.int (2 : Int32)), (.ref b1), (.ref b1)])) rfl (hb hby at_18)
  obtain ⟨cl_7, Ar_7, q_7, Sz_7, Nz_7, Hz_7, Gz_7⟩ := id V5
  have hin_7 : ¬ ((2 : Int32) < 0 ∨ cl_7.slots.size ≤ ((2 : Int32)).toNatClampNeg) := inb_of Sz_7 ⟨by decide, by decide⟩
  obtain ⟨T7, h7, X7, e7, W7, st7⟩ := stR X6 hx hZ e6 Ar_7 (j := (2 : Int32)) hin_7 rfl (Sto.ofV Ar_7 q_7 Ov1 (Ins.self (E_wV.ext O5.2))) (g := (mkF m 21 #[.val (.int p1), .unset, .unset, .unset] [(.ref wV), (.int (2 : Int32)), (.ref b1), (.ref b1)])) rfl rfl (hb hby at_21)
  have V7 := Arv.set Ar_7 q_7 Sz_7 Nz_7 Hz_7 Gz_7 rfl W7 2 rfl (Nat.le_of_ble_eq_true rfl)
  have O7 := O5.wr W7 g_b1
  have K7 : Keep h0 h7 [] := K5.wr W7 (Or.inr sz_b1)
  have N7 := Fr.snoc X7 N5 g_b1
  obtain ⟨cl_8, Ar_8, q_8, Sz_8, Nz_8, Hz_8, Gz_8⟩ := id V7
  have hin_8 : ¬ (((p1 &&& (2147483647 : Int32)) % (3 : Int32)) < 0 ∨ cl_8.slots.size ≤ (((p1 &&& (2147483647 : Int32)) % (3 : Int32))).toNatClampNeg) := inb_of Sz_8 (by rw [hc41]; decide)
  have hat_8 : cl_8.slots[(((p1 &&& (2147483647 : Int32)) % (3 : Int32))).toNatClampNeg]? = some (.ref wB) := Has.at Hz_8 hin_8 (by rw [hc41]; rfl)
  obtain ⟨cq9, kq9, q9a, q9b, q9c⟩ := isOf hZ e7 (E_wB.ext O7.2)
  obtain ⟨_, _, ⟨T9, L9, k9, n9⟩, -, X9, ⟨Lc9, hQ9, l9, y9, z9⟩, st9⟩ := X7.virtualBack hx (y := (⟨"com/example/undochain/undochain/jdbc/JdbcType", "isNumber", "()Z"⟩ : MethodName)) (z := (⟨"com/example/undochain/undochain/jdbc/JdbcType", "isNumber", "()Z"⟩ : MethodName)) hown (mvT hZ (hw _ (List.mem_of_getElem? (i := 11) rfl))) (mvT hZ (hw _ (List.mem_of_getElem? (i := 12) rfl))) (notFace_of_selects (args := #[]) (mvT hZ (hw _ (List.mem_of_getElem? (i := 14) rfl)))) (mvT hZ (hw _ (List.mem_of_getElem? (i := 14) rfl))) (mvT hZ (hw _ (List.mem_of_getElem? (i := 13) rfl))) (by decide) (backOf (W := 0) (rm1_y l Z a0 hw [] wB (19 : Int32) h7 n0 O7 (F_digits_wB.ext O7.2) (by decide)) hZ (hw _ (List.mem_of_getElem? (i := 15) rfl)) (hw _ (List.mem_of_getElem? (i := 3) rfl)) (by decide) (by decide)) q9a q9c (g := (mkF m 54 #[.val (.int p1), .val (.ref b1), .val (.int ((p1 &&& (2147483647 : Int32)) % (3 : Int32))), .val (.int (1 : Int32))] [(.ref wB)])) rfl (by rw [hml]; rfl) (Steps.refl _) (argsL := []) (rest := []) (lenOf pd___Z rfl) rfl (by show 2 * 0 + _ ≤ _; exact Nat.le_of_eq rfl) (hb hby at_54) (fun _ _ => ⟨rfl, e7, (by decide : 1 + 0 ≤ _), (by decide : 3 + 0 ≤ _)⟩)
  dsimp only [Pt.U, Pt.locs, Pt.cells, Pt.slots] at X9 l9 y9 z9 st9 hQ9
  subst l9 y9 z9
  obtain ⟨rfl, Nq9, e9⟩ := hQ9
  have N9 := Fr.app N7 Nq9
  obtain ⟨fs, hr, hrun, hended, hW, hsame⟩ := X9.leave (v := some (.int (1 : Int32))) (fun h => by rw [Bd.returns] at h; cases h)
  refine ⟨_, _, pre0 _ ?_, hrun, hended, _, _, rfl, ?_, ⟨_, rfl⟩, hW, hsame.mono (by decide) (by decide)⟩
  · show Steps p.tables e below (s₁.setTop (mkF m 0 #[.val (.int p1), .unset, .unset, .unset] [])) _
    refine XS.iconst X0.here hx rfl (hb hby at_0) ?_
    show Steps p.tables e below (s₁.setTop (mkF m 1 #[.val (.int p1), .unset, .unset, .unset] [(.int (3 : Int32))])) _
    refine st1 _ ?_
    show Steps p.tables e below (T1.setTop (mkF m 4 #[.val (.int p1), .unset, .unset, .unset] [(.ref b1)])) _
    refine XS.dup X1.here hx rfl (hb hby at_4) rfl rfl ?_
    show Steps p.tables e below (T1.setTop (mkF m 5 #[.val (.int p1), .unset, .unset, .unset] [(.ref b1), (.ref b1)])) _
    refine XS.iconst X1.here hx rfl (hb hby at_5) ?_
    show Steps p.tables e below (T1.setTop (mkF m 6 #[.val (.int p1), .unset, .unset, .unset] [(.int (0 : Int32)), (.ref b1), (.ref b1)])) _
    refine st2 _ ?_
    show Steps p.tables e below (T2.setTop (mkF m 9 #[.val (.int p1), .unset, .unset, .unset] [(.ref wI), (.int (0 : Int32)), (.ref b1), (.ref b1)])) _
    refine st3 _ ?_
    show Steps p.tables e below (T3.setTop (mkF m 10 #[.val (.int p1), .unset, .unset, .unset] [(.ref b1)])) _
    refine XS.dup X3.here hx rfl (hb hby at_10) rfl rfl ?_
    show Steps p.tables e below (T3.setTop (mkF m 11 #[.val (.int p1), .unset, .unset, .unset] [(.ref b1), (.ref b1)])) _
    refine XS.iconst X3.here hx rfl (hb hby at_11) ?_
    show Steps p.tables e below (T3.setTop (mkF m 12 #[.val (.int p1), .unset, .unset, .unset] [(.int (1 : Int32)), (.ref b1), (.ref b1)])) _
    refine st4 _ ?_
    show Steps p.tables e below (T4.setTop (mkF m 15 #[.val (.int p1), .unset, .unset, .unset] [(.ref wB), (.int (1 : Int32)), (.ref b1), (.ref b1)])) _
    refine st5 _ ?_
    show Steps p.tables e below (T5.setTop (mkF m 16 #[.val (.int p1), .unset, .unset, .unset] [(.ref b1)])) _
    refine XS.dup X5.here hx rfl (hb hby at_16) rfl rfl ?_
    show Steps p.tables e below (T5.setTop (mkF m 17 #[.val (.int p1), .unset, .unset, .unset] [(.ref b1), (.ref b1)])) _
    refine XS.iconst X5.here hx rfl (hb hby at_17) ?_
    show Steps p.tables e below (T5.setTop (mkF m 18 #[.val (.int p1), .unset, .unset, .unset] [(.int (2 : Int32)), (.ref b1), (.ref b1)])) _
    refine st6 _ ?_
    show Steps p.tables e below (T6.setTop (mkF m 21 #[.val (.int p1), .unset, .unset, .unset] [(.ref wV), (.int (2 : Int32)), (.ref b1), (.ref b1)])) _
    refine st7 _ ?_
    show Steps p.tables e below (T7.setTop (mkF m 22 #[.val (.int p1), .unset, .unset, .unset] [(.ref b1)])) _
    refine XS.astoreN X7.here hx rfl (hb hby at_22) rfl rfl (l' := #[.val (.int p1), .val (.ref b1), .unset, .unset]) rfl ?_
    show Steps p.tables e below (T7.setTop (mkF m 23 #[.val (.int p1), .val (.ref b1), .unset, .unset] [])) _
    refine XS.iloadN X7.here hx rfl (hb hby at_23) rfl ?_
    show Steps p.tables e below (T7.setTop (mkF m 24 #[.val (.int p1), .val (.ref b1), .unset, .unset] [(.int p1)])) _
    refine X7.ldcInt hx hown (mvT hZ (hw _ (List.mem_of_getElem? (i := 10) rfl))) (g := (mkF m 24 #[.val (.int p1), .val (.ref b1), .unset, .unset] [(.int p1)])) rfl (hb hby at_24) _ ?_
    show Steps p.tables e below (T7.setTop (mkF m 26 #[.val (.int p1), .val (.ref b1), .unset, .unset] [(.int (2147483647 : Int32)), (.int p1)])) _
    refine XS.iand X7.here hx rfl (hb hby at_26) rfl ?_
    show Steps p.tables e below (T7.setTop (mkF m 27 #[.val (.int p1), .val (.ref b1), .unset, .unset] [(.int (p1 &&& (2147483647 : Int32)))])) _
    refine XS.iconst X7.here hx rfl (hb hby at_27) ?_
    show Steps p.tables e below (T7.setTop (mkF m 28 #[.val (.int p1), .val (.ref b1), .unset, .unset] [(.int (3 : Int32)), (.int (p1 &&& (2147483647 : Int32)))])) _
    refine iremM (g := (mkF m 28 #[.val (.int p1), .val (.ref b1), .unset, .unset] [(.int (3 : Int32)), (.int (p1 &&& (2147483647 : Int32)))])) X7 hx rfl (hb hby at_28) rfl (by decide) ?_
    show Steps p.tables e below (T7.setTop (mkF m 29 #[.val (.int p1), .val (.ref b1), .unset, .unset] [(.int ((p1 &&& (2147483647 : Int32)) % (3 : Int32)))])) _
    refine XS.istoreN X7.here hx rfl (hb hby at_29) rfl (l' := #[.val (.int p1), .val (.ref b1), .val (.int ((p1 &&& (2147483647 : Int32)) % (3 : Int32))), .unset]) rfl ?_
    show Steps p.tables e below (T7.setTop (mkF m 30 #[.val (.int p1), .val (.ref b1), .val (.int ((p1 &&& (2147483647 : Int32)) % (3 : Int32))), .unset] [])) _
    refine XS.iloadN X7.here hx rfl (hb hby at_30) rfl ?_
    show Steps p.tables e below (T7.setTop (mkF m 31 #[.val (.int p1), .val (.ref b1), .val (.int ((p1 &&& (2147483647 : Int32)) % (3 : Int32))), .unset] [(.int ((p1 &&& (2147483647 : Int32)) % (3 : Int32)))])) _
    refine XS.ifYes X7.here hx rfl (pc0 := 31) (pc' := 39) rfl (hb hby at_31) rfl ((if0 _ _).trans (feq hc31).2) (by decide) (by decide) ?_
    show Steps p.tables e below (T7.setTop (mkF m 39 #[.val (.int p1), .val (.ref b1), .val (.int ((p1 &&& (2147483647 : Int32)) % (3 : Int32))), .unset] [])) _
    refine XS.iloadN X7.here hx rfl (hb hby at_39) rfl ?_
    show Steps p.tables e below (T7.setTop (mkF m 40 #[.val (.int p1), .val (.ref b1), .val (.int ((p1 &&& (2147483647 : Int32)) % (3 : Int32))), .unset] [(.int ((p1 &&& (2147483647 : Int32)) % (3 : Int32)))])) _
    refine XS.iconst X7.here hx rfl (hb hby at_40) ?_
    show Steps p.tables e below (T7.setTop (mkF m 41 #[.val (.int p1), .val (.ref b1), .val (.int ((p1 &&& (2147483647 : Int32)) % (3 : Int32))), .unset] [(.int (1 : Int32)), (.int ((p1 &&& (2147483647 : Int32)) % (3 : Int32)))])) _
    refine XS.icmpNo X7.here hx rfl (hb hby at_41) rfl (teq hc41).2 ?_
    show Steps p.tables e below (T7.setTop (mkF m 44 #[.val (.int p1), .val (.ref b1), .val (.int ((p1 &&& (2147483647 : Int32)) % (3 : Int32))), .unset] [])) _
    refine XS.iconst X7.here hx rfl (hb hby at_44) ?_
    show Steps p.tables e below (T7.setTop (mkF m 45 #[.val (.int p1), .val (.ref b1), .val (.int ((p1 &&& (2147483647 : Int32)) % (3 : Int32))), .unset] [(.int (1 : Int32))])) _
    refine XS.istoreN X7.here hx rfl (hb hby at_45) rfl (l' := #[.val (.int p1), .val (.ref b1), .val (.int ((p1 &&& (2147483647 : Int32)) % (3 : Int32))), .val (.int (1 : Int32))]) rfl ?_
    show Steps p.tables e below (T7.setTop (mkF m 46 #[.val (.int p1), .val (.ref b1), .val (.int ((p1 &&& (2147483647 : Int32)) % (3 : Int32))), .val (.int (1 : Int32))] [])) _
    refine XS.goto X7.here hx rfl (pc0 := 46) (pc' := 51) rfl (hb hby at_46) (by decide) (by decide) ?_
    show Steps p.tables e below (T7.setTop (mkF m 51 #[.val (.int p1), .val (.ref b1), .val (.int ((p1 &&& (2147483647 : Int32)) % (3 : Int32))), .val (.int (1 : Int32))] [])) _
    refine XS.aloadN X7.here hx rfl (hb hby at_51) rfl rfl ?_
    show Steps p.tables e below (T7.setTop (mkF m 52 #[.val (.int p1), .val (.ref b1), .val (.int ((p1 &&& (2147483647 : Int32)) % (3 : Int32))), .val (.int (1 : Int32))] [(.ref b1)])) _
    refine XS.iloadN X7.here hx rfl (hb hby at_52) rfl ?_
    show Steps p.tables e below (T7.setTop (mkF m 53 #[.val (.int p1), .val (.ref b1), .val (.int ((p1 &&& (2147483647 : Int32)) % (3 : Int32))), .val (.int (1 : Int32))] [(.int ((p1 &&& (2147483647 : Int32)) % (3 : Int32))), (.ref b1)])) _
    refine X7.aaload hx (j := ((p1 &&& (2147483647 : Int32)) % (3 : Int32))) (v := (.ref wB)) (by rw [e7]; exact Ar_8.1) (State.isArrayOf_alike hZ.alike Ar_8.2.1) rfl Ar_8.2.2 hin_8 hat_8 (g := (mkF m 53 #[.val (.int p1), .val (.ref b1), .val (.int ((p1 &&& (2147483647 : Int32)) % (3 : Int32))), .val (.int (1 : Int32))] [(.int ((p1 &&& (2147483647 : Int32)) % (3 : Int32))), (.ref b1)])) rfl rfl (hb hby at_53) _ ?_
    show Steps p.tables e below (T7.setTop (mkF m 54 #[.val (.int p1), .val (.ref b1), .val (.int ((p1 &&& (2147483647 : Int32)) % (3 : Int32))), .val (.int (1 : Int32))] [(.ref wB)])) _
    refine st9.trans ?_
    show Steps p.tables e below (T9.setTop (mkF m 57 #[.val (.int p1), .val (.ref b1), .val (.int ((p1 &&& (2147483647 : Int32)) % (3 : Int32))), .val (.int (1 : Int32))] [(.int (1 : Int32))])) _
    refine XS.iloadN X9.here hx rfl (hb hby at_57) rfl ?_
    show Steps p.tables e below (T9.setTop (mkF m 58 #[.val (.int p1), .val (.ref b1), .val (.int ((p1 &&& (2147483647 : Int32)) % (3 : Int32))), .val (.int (1 : Int32))] [(.int (1 : Int32)), (.int (1 : Int32))])) _
    refine XS.icmpNo X9.here hx rfl (hb hby at_58) rfl (teq (rfl : (1 : Int32) = (1 : Int32))).2 ?_
    show Steps p.tables e below (T9.setTop (mkF m 61 #[.val (.int p1), .val (.ref b1), .val (.int ((p1 &&& (2147483647 : Int32)) % (3 : Int32))), .val (.int (1 : Int32))] [])) _
    refine XS.iconst X9.here hx rfl (hb hby at_61) ?_
    show Steps p.tables e below (T9.setTop (mkF m 62 #[.val (.int p1), .val (.ref b1), .val (.int ((p1 &&& (2147483647 : Int32)) % (3 : Int32))), .val (.int (1 : Int32))] [(.int (1 : Int32))])) _
    refine XS.goto X9.here hx rfl (pc0 := 62) (pc' := 66) rfl (hb hby at_62) (by decide) (by decide) ?_
    show Steps p.tables e below (T9.setTop (mkF m 66 #[.val (.int p1), .val (.ref b1), .val (.int ((p1 &&& (2147483647 : Int32)) % (3 : Int32))), .val (.int (1 : Int32))] [(.int (1 : Int32))])) _
    exact retN X9 hx (t := .boolean) Bd.returns (by simp) (hb hby at_66) hr
  · show QL n0 _ T9.heap _
    rw [e9]
    exact ⟨rfl, N9⟩
set_option maxRecDepth 65536 in
set_option maxHeartbeats 40000000 in
theorem rm0_2 (l : Launch) (Z : State) (a0 : Array Value) (hw : ∀ d ∈ tables_1, d.before a0 Z = true) (ws : List Jvm.Cond) (p1 : Int32) (wI : Addr) (wB : Addr) (wV : Addr) (h0 : Heap) (n0 : Nat) (O0 : Old Z n0 h0) (hk2 : ((p1 &&& (2147483647 : Int32)) % (3 : Int32)) = (2 : Int32)) (S_INT : Sta Z Z.heap "com/example/undochain/undochain/jdbc/JdbcType" "INT" "Lcom/example/undochain/undochain/jdbc/JdbcType;" (.ref wI)) (E_wI : Exa Z Z.heap wI "com/example/undochain/undochain/jdbc/JdbcType") (S_BIGINT : Sta Z Z.heap "com/example/undochain/undochain/jdbc/JdbcType" "BIGINT" "Lcom/example/undochain/undochain/jdbc/JdbcType;" (.ref wB)) (E_wB : Exa Z Z.heap wB "com/example/undochain/undochain/jdbc/JdbcType") (S_VARCHAR : Sta Z Z.heap "com/example/undochain/undochain/jdbc/JdbcType" "VARCHAR" "Lcom/example/undochain/undochain/jdbc/JdbcType;" (.ref wV)) (E_wV : Exa Z Z.heap wV "com/example/undochain/undochain/jdbc/JdbcType") (F_digits_wV : Fld Z Z.heap wV "com/example/undochain/undochain/jdbc/JdbcType" "digits" "I" (.int (0 : Int32))) (hc31 : ¬ (((p1 &&& (2147483647 : Int32)) % (3 : Int32)) = (0 : Int32))) (hc41 : ¬ (((p1 &&& (2147483647 : Int32)) % (3 : Int32)) = (1 : Int32))) :
    MetFree l x (head1 (Jvm.Cond.code x code maxLocals ret :: ws) room_1) (fun a U => a = #[(.int p1)] ∧ Z.Warmed39 U.vm ∧ U.heap = h0) (fun _ _ _ _ _ => True) (fun _ U o U' => ∃ v L, o = .returned v ∧ QL n0 v U'.heap L ∧ FrameEnd U o U' L room_1.cells room_1.slots) := by
  refine MetFree.of_bodySF (plainFor_of_name pn_com_example_undochain_undochain_jdbc_JdbcTypeIsNumberPinLaw) hisR ?_
  intro p e s m args below meth c s₁ Bd hml0 hP hK
  obtain ⟨rfl, hZ, hh⟩ := hP
  have hx := Bd.exec
  have hby := Bd.bytes
  have hml : c.maxLocals = 4 := hml0
  have hown : s.vm.findClass "com/example/undochain/undochain/jdbc/JdbcTypeIsNumberPinLaw" = some m.cls := findClass_of_methodNamed Bd.named
  have hnm := (name_of_methodNamed Bd.named Bd.method).1
  have X0 : Stand p l e room_1 s m #[(.int p1)] below meth c s₁ [] 0 0 := Stand.of_body Bd
  have e0 : s₁.heap = h0 := by rw [← hh, Bd.state]; rfl
  have N0 := Fr.nil n0
  have pre0 : ∀ t, Steps p.tables e below (s₁.setTop (mkF m 0 #[.val (.int p1), .unset, .unset, .unset] [])) t → Steps p.tables e below (s₁.setTop (entryFrame m #[(.int p1)] maxLocals)) t := fun t k => castTop (ef_0 m p1) k
  obtain ⟨T1, h1, k1, X1, e1, E1, A1, Ov1, st1⟩ := newR X0 hx hZ hown (hw _ (List.mem_of_getElem? (i := 0) rfl)) (hw _ (List.mem_of_getElem? (i := 1) rfl)) e0 (g := (mkF m 1 #[.val (.int p1), .unset, .unset, .unset] [(.int (3 : Int32))])) rfl (hb hby at_1) rfl (by decide) (cap := 3) (by decide) (by decide) (by decide) (by decide)
  obtain ⟨b1, g1⟩ : ∃ z, z = h0.size := ⟨_, rfl⟩
  rw [← g1] at A1 st1
  have g_b1 : n0 ≤ b1 := Nat.le_trans (Nat.le_of_eq O0.1.symm) (Nat.le_trans O0.2.1 (Nat.le_of_eq g1.symm))
  have sz_b1 : h0.size ≤ b1 := Nat.le_trans (Keep.refl h0 []).1 (Nat.le_of_eq g1.symm)
  have O1 := O0.ext E1
  have K1 : Keep h0 h1 [] := (Keep.refl h0 []).ext E1
  have V_b1 : Arv Z h1 b1 k1 (.object "com/example/undochain/undochain/jdbc/JdbcType") (3 : Int32) [.null, .null, .null] .null := (Arv.new A1 (by decide)).pad (pad_rep [] .null 3)
  obtain ⟨T2, X2, e2, st2⟩ := getS2 X1 hx hZ hown (host := "") (Or.inl (hw _ (List.mem_of_getElem? (i := 2) rfl))) Via.refl e1 (S_INT.ext O1.2) (g := (mkF m 6 #[.val (.int p1), .unset, .unset, .unset] [(.int (0 : Int32)), (.ref b1), (.ref b1)])) rfl (hb hby at_6)
  obtain ⟨cl_3, Ar_3, q_3, Sz_3, Nz_3, Hz_3, Gz_3⟩ := id V_b1
  have hin_3 : ¬ ((0 : Int32) < 0 ∨ cl_3.slots.size ≤ ((0 : Int32)).toNatClampNeg) := inb_of Sz_3 ⟨by decide, by decide⟩
  obtain ⟨T3, h3, X3, e3, W3, st3⟩ := stR X2 hx hZ e2 Ar_3 (j := (0 : Int32)) hin_3 rfl (Sto.ofV Ar_3 q_3 Ov1 (Ins.self (E_wI.ext O1.2))) (g := (mkF m 9 #[.val (.int p1), .unset, .unset, .unset] [(.ref wI), (.int (0 : Int32)), (.ref b1), (.ref b1)])) rfl rfl (hb hby at_9)
  have V3 := Arv.set Ar_3 q_3 Sz_3 Nz_3 Hz_3 Gz_3 rfl W3 0 rfl (Nat.le_of_ble_eq_true rfl)
  have O3 := O1.wr W3 g_b1
  have K3 : Keep h0 h3 [] := K1.wr W3 (Or.inr sz_b1)
  have N3 := Fr.snoc X3 N0 g_b1
  obtain ⟨T4, X4, e4, st4⟩ := getS2 X3 hx hZ hown (host := "") (Or.inl (hw _ (List.mem_of_getElem? (i := 6) rfl))) Via.refl e3 (S_BIGINT.ext O3.2) (g := (mkF m 12 #[.val (.int p1), .unset, .unset, .unset] [(.int (1 : Int32)), (.ref b1), (.ref b1)])) rfl (hb hby at_12)
  obtain ⟨cl_5, Ar_5, q_5, Sz_5, Nz_5, Hz_5, Gz_5⟩ := id V3
  have hin_5 : ¬ ((1 : Int32) < 0 ∨ cl_5.slots.size ≤ ((1 : Int32)).toNatClampNeg) := inb_of Sz_5 ⟨by decide, by decide⟩
  obtain ⟨T5, h5, X5, e5, W5, st5⟩ := stR X4 hx hZ e4 Ar_5 (j := (1 : Int32)) hin_5 rfl (Sto.ofV Ar_5 q_5 Ov1 (Ins.self (E_wB.ext O3.2))) (g := (mkF m 15 #[.val (.int p1), .unset, .unset, .unset] [(.ref wB), (.int (1 : Int32)), (.ref b1), (.ref b1)])) rfl rfl (hb hby at_15)
  have V5 := Arv.set Ar_5 q_5 Sz_5 Nz_5 Hz_5 Gz_5 rfl W5 1 rfl (Nat.le_of_ble_eq_true rfl)
  have O5 := O3.wr W5 g_b1
  have K5 : Keep h0 h5 [] := K3.wr W5 (Or.inr sz_b1)
  have N5 := Fr.snoc X5 N3 g_b1
  obtain ⟨T6, X6, e6, st6⟩ := getS2 X5 hx hZ hown (host := "") (Or.inl (hw _ (List.mem_of_getElem? (i := 8) rfl))) Via.refl e5 (S_VARCHAR.ext O5.2) (g := (mkF m 18 #[.val (.int p1), .unset, .unset, .unset] [(.int (2 : Int32)), (.ref b1), (.ref b1)])) rfl (hb hby at_18)
  obtain ⟨cl_7, Ar_7, q_7, Sz_7, Nz_7, Hz_7, Gz_7⟩ := id V5
  have hin_7 : ¬ ((2 : Int32) < 0 ∨ cl_7.slots.size ≤ ((2 : Int32)).toNatClampNeg) := inb_of Sz_7 ⟨by decide, by decide⟩
  obtain ⟨T7, h7, X7, e7, W7, st7⟩ := stR X6 hx hZ e6 Ar_7 (j := (2 : Int32)) hin_7 rfl (Sto.ofV Ar_7 q_7 Ov1 (Ins.self (E_wV.ext O5.2))) (g := (mkF m 21 #[.val (.int p1), .unset, .unset, .unset] [(.ref wV), (.int (2 : Int32)), (.ref b1), (.ref b1)])) rfl rfl (hb hby at_21)
  have V7 := Arv.set Ar_7 q_7 Sz_7 Nz_7 Hz_7 Gz_7 rfl W7 2 rfl (Nat.le_of_ble_eq_true rfl)
  have O7 := O5.wr W7 g_b1
  have K7 : Keep h0 h7 [] := K5.wr W7 (Or.inr sz_b1)
  have N7 := Fr.snoc X7 N5 g_b1
  obtain ⟨cl_8, Ar_8, q_8, Sz_8, Nz_8, Hz_8, Gz_8⟩ := id V7
  have hin_8 : ¬ (((p1 &&& (2147483647 : Int32)) % (3 : Int32)) < 0 ∨ cl_8.slots.size ≤ (((p1 &&& (2147483647 : Int32)) % (3 : Int32))).toNatClampNeg) := inb_of Sz_8 (by rw [hk2]; decide)
  have hat_8 : cl_8.slots[(((p1 &&& (2147483647 : Int32)) % (3 : Int32))).toNatClampNeg]? = some (.ref wV) := Has.at Hz_8 hin_8 (by rw [hk2]; rfl)
  obtain ⟨cq9, kq9, q9a, q9b, q9c⟩ := isOf hZ e7 (E_wV.ext O7.2)
  obtain ⟨_, _, ⟨T9, L9, k9, n9⟩, -, X9, ⟨Lc9, hQ9, l9, y9, z9⟩, st9⟩ := X7.virtualBack hx (y := (⟨"com/example/undochain/undochain/jdbc/JdbcType", "isNumber", "()Z"⟩ : MethodName)) (z := (⟨"com/example/undochain/undochain/jdbc/JdbcType", "isNumber", "()Z"⟩ : MethodName)) hown (mvT hZ (hw _ (List.mem_of_getElem? (i := 11) rfl))) (mvT hZ (hw _ (List.mem_of_getElem? (i := 12) rfl))) (notFace_of_selects (args := #[]) (mvT hZ (hw _ (List.mem_of_getElem? (i := 14) rfl)))) (mvT hZ (hw _ (List.mem_of_getElem? (i := 14) rfl))) (mvT hZ (hw _ (List.mem_of_getElem? (i := 13) rfl))) (by decide) (backOf (W := 0) (rm1_n l Z a0 hw [] wV (0 : Int32) h7 n0 O7 (F_digits_wV.ext O7.2) (by decide)) hZ (hw _ (List.mem_of_getElem? (i := 15) rfl)) (hw _ (List.mem_of_getElem? (i := 3) rfl)) (by decide) (by decide)) q9a q9c (g := (mkF m 54 #[.val (.int p1), .val (.ref b1), .val (.int ((p1 &&& (2147483647 : Int32)) % (3 : Int32))), .val (.int (0 : Int32))] [(.ref wV)])) rfl (by rw [hml]; rfl) (Steps.refl _) (argsL := []) (rest := []) (lenOf pd___Z rfl) rfl (by show 2 * 0 + _ ≤ _; exact Nat.le_of_eq rfl) (hb hby at_54) (fun _ _ => ⟨rfl, e7, (by decide : 1 + 0 ≤ _), (by decide : 3 + 0 ≤ _)⟩)
  dsimp only [Pt.U, Pt.locs, Pt.cells, Pt.slots] at X9 l9 y9 z9 st9 hQ9
  subst l9 y9 z9
  obtain ⟨rfl, Nq9, e9⟩ := hQ9
  have N9 := Fr.app N7 Nq9
  obtain ⟨fs, hr, hrun, hended, hW, hsame⟩ := X9.leave (v := some (.int (1 : Int32))) (fun h => by rw [Bd.returns] at h; cases h)
  refine ⟨_, _, pre0 _ ?_, hrun, hended, _, _, rfl, ?_, ⟨_, rfl⟩, hW, hsame.mono (by decide) (by decide)⟩
  · show Steps p.tables e below (s₁.setTop (mkF m 0 #[.val (.int p1), .unset, .unset, .unset] [])) _
    refine XS.iconst X0.here hx rfl (hb hby at_0) ?_
    show Steps p.tables e below (s₁.setTop (mkF m 1 #[.val (.int p1), .unset, .unset, .unset] [(.int (3 : Int32))])) _
    refine st1 _ ?_
    show Steps p.tables e below (T1.setTop (mkF m 4 #[.val (.int p1), .unset, .unset, .unset] [(.ref b1)])) _
    refine XS.dup X1.here hx rfl (hb hby at_4) rfl rfl ?_
    show Steps p.tables e below (T1.setTop (mkF m 5 #[.val (.int p1), .unset, .unset, .unset] [(.ref b1), (.ref b1)])) _
    refine XS.iconst X1.here hx rfl (hb hby at_5) ?_
    show Steps p.tables e below (T1.setTop (mkF m 6 #[.val (.int p1), .unset, .unset, .unset] [(.int (0 : Int32)), (.ref b1), (.ref b1)])) _
    refine st2 _ ?_
    show Steps p.tables e below (T2.setTop (mkF m 9 #[.val (.int p1), .unset, .unset, .unset] [(.ref wI), (.int (0 : Int32)), (.ref b1), (.ref b1)])) _
    refine st3 _ ?_
    show Steps p.tables e below (T3.setTop (mkF m 10 #[.val (.int p1), .unset, .unset, .unset] [(.ref b1)])) _
    refine XS.dup X3.here hx rfl (hb hby at_10) rfl rfl ?_
    show Steps p.tables e below (T3.setTop (mkF m 11 #[.val (.int p1), .unset, .unset, .unset] [(.ref b1), (.ref b1)])) _
    refine XS.iconst X3.here hx rfl (hb hby at_11) ?_
    show Steps p.tables e below (T3.setTop (mkF m 12 #[.val (.int p1), .unset, .unset, .unset] [(.int (1 : Int32)), (.ref b1), (.ref b1)])) _
    refine st4 _ ?_
    show Steps p.tables e below (T4.setTop (mkF m 15 #[.val (.int p1), .unset, .unset, .unset] [(.ref wB), (.int (1 : Int32)), (.ref b1), (.ref b1)])) _
    refine st5 _ ?_
    show Steps p.tables e below (T5.setTop (mkF m 16 #[.val (.int p1), .unset, .unset, .unset] [(.ref b1)])) _
    refine XS.dup X5.here hx rfl (hb hby at_16) rfl rfl ?_
    show Steps p.tables e below (T5.setTop (mkF m 17 #[.val (.int p1), .unset, .unset, .unset] [(.ref b1), (.ref b1)])) _
    refine XS.iconst X5.here hx rfl (hb hby at_17) ?_
    show Steps p.tables e below (T5.setTop (mkF m 18 #[.val (.int p1), .unset, .unset, .unset] [(.int (2 : Int32)), (.ref b1), (.ref b1)])) _
    refine st6 _ ?_
    show Steps p.tables e below (T6.setTop (mkF m 21 #[.val (.int p1), .unset, .unset, .unset] [(.ref wV), (.int (2 : Int32)), (.ref b1), (.ref b1)])) _
    refine st7 _ ?_
    show Steps p.tables e below (T7.setTop (mkF m 22 #[.val (.int p1), .unset, .unset, .unset] [(.ref b1)])) _
    refine XS.astoreN X7.here hx rfl (hb hby at_22) rfl rfl (l' := #[.val (.int p1), .val (.ref b1), .unset, .unset]) rfl ?_
    show Steps p.tables e below (T7.setTop (mkF m 23 #[.val (.int p1), .val (.ref b1), .unset, .unset] [])) _
    refine XS.iloadN X7.here hx rfl (hb hby at_23) rfl ?_
    show Steps p.tables e below (T7.setTop (mkF m 24 #[.val (.int p1), .val (.ref b1), .unset, .unset] [(.int p1)])) _
    refine X7.ldcInt hx hown (mvT hZ (hw _ (List.mem_of_getElem? (i := 10) rfl))) (g := (mkF m 24 #[.val (.int p1), .val (.ref b1), .unset, .unset] [(.int p1)])) rfl (hb hby at_24) _ ?_
    show Steps p.tables e below (T7.setTop (mkF m 26 #[.val (.int p1), .val (.ref b1), .unset, .unset] [(.int (2147483647 : Int32)), (.int p1)])) _
    refine XS.iand X7.here hx rfl (hb hby at_26) rfl ?_
    show Steps p.tables e below (T7.setTop (mkF m 27 #[.val (.int p1), .val (.ref b1), .unset, .unset] [(.int (p1 &&& (2147483647 : Int32)))])) _
    refine XS.iconst X7.here hx rfl (hb hby at_27) ?_
    show Steps p.tables e below (T7.setTop (mkF m 28 #[.val (.int p1), .val (.ref b1), .unset, .unset] [(.int (3 : Int32)), (.int (p1 &&& (2147483647 : Int32)))])) _
    refine iremM (g := (mkF m 28 #[.val (.int p1), .val (.ref b1), .unset, .unset] [(.int (3 : Int32)), (.int (p1 &&& (2147483647 : Int32)))])) X7 hx rfl (hb hby at_28) rfl (by decide) ?_
    show Steps p.tables e below (T7.setTop (mkF m 29 #[.val (.int p1), .val (.ref b1), .unset, .unset] [(.int ((p1 &&& (2147483647 : Int32)) % (3 : Int32)))])) _
    refine XS.istoreN X7.here hx rfl (hb hby at_29) rfl (l' := #[.val (.int p1), .val (.ref b1), .val (.int ((p1 &&& (2147483647 : Int32)) % (3 : Int32))), .unset]) rfl ?_
    show Steps p.tables e below (T7.setTop (mkF m 30 #[.val (.int p1), .val (.ref b1), .val (.int ((p1 &&& (2147483647 : Int32)) % (3 : Int32))), .unset] [])) _
    refine XS.iloadN X7.here hx rfl (hb hby at_30) rfl ?_
    show Steps p.tables e below (T7.setTop (mkF m 31 #[.val (.int p1), .val (.ref b1), .val (.int ((p1 &&& (2147483647 : Int32)) % (3 : Int32))), .unset] [(.int ((p1 &&& (2147483647 : Int32)) % (3 : Int32)))])) _
    refine XS.ifYes X7.here hx rfl (pc0 := 31) (pc' := 39) rfl (hb hby at_31) rfl ((if0 _ _).trans (feq hc31).2) (by decide) (by decide) ?_
    show Steps p.tables e below (T7.setTop (mkF m 39 #[.val (.int p1), .val (.ref b1), .val (.int ((p1 &&& (2147483647 : Int32)) % (3 : Int32))), .unset] [])) _
    refine XS.iloadN X7.here hx rfl (hb hby at_39) rfl ?_
    show Steps p.tables e below (T7.setTop (mkF m 40 #[.val (.int p1), .val (.ref b1), .val (.int ((p1 &&& (2147483647 : Int32)) % (3 : Int32))), .unset] [(.int ((p1 &&& (2147483647 : Int32)) % (3 : Int32)))])) _
    refine XS.iconst X7.here hx rfl (hb hby at_40) ?_
    show Steps p.tables e below (T7.setTop (mkF m 41 #[.val (.int p1), .val (.ref b1), .val (.int ((p1 &&& (2147483647 : Int32)) % (3 : Int32))), .unset] [(.int (1 : Int32)), (.int ((p1 &&& (2147483647 : Int32)) % (3 : Int32)))])) _
    refine XS.icmpYes X7.here hx rfl (pc0 := 41) (pc' := 49) rfl (hb hby at_41) rfl (feq hc41).2 (by decide) (by decide) ?_
    show Steps p.tables e below (T7.setTop (mkF m 49 #[.val (.int p1), .val (.ref b1), .val (.int ((p1 &&& (2147483647 : Int32)) % (3 : Int32))), .unset] [])) _
    refine XS.iconst X7.here hx rfl (hb hby at_49) ?_
    show Steps p.tables e below (T7.setTop (mkF m 50 #[.val (.int p1), .val (.ref b1), .val (.int ((p1 &&& (2147483647 : Int32)) % (3 : Int32))), .unset] [(.int (0 : Int32))])) _
    refine XS.istoreN X7.here hx rfl (hb hby at_50) rfl (l' := #[.val (.int p1), .val (.ref b1), .val (.int ((p1 &&& (2147483647 : Int32)) % (3 : Int32))), .val (.int (0 : Int32))]) rfl ?_
    show Steps p.tables e below (T7.setTop (mkF m 51 #[.val (.int p1), .val (.ref b1), .val (.int ((p1 &&& (2147483647 : Int32)) % (3 : Int32))), .val (.int (0 : Int32))] [])) _
    refine XS.aloadN X7.here hx rfl (hb hby at_51) rfl rfl ?_
    show Steps p.tables e below (T7.setTop (mkF m 52 #[.val (.int p1), .val (.ref b1), .val (.int ((p1 &&& (2147483647 : Int32)) % (3 : Int32))), .val (.int (0 : Int32))] [(.ref b1)])) _
    refine XS.iloadN X7.here hx rfl (hb hby at_52) rfl ?_
    show Steps p.tables e below (T7.setTop (mkF m 53 #[.val (.int p1), .val (.ref b1), .val (.int ((p1 &&& (2147483647 : Int32)) % (3 : Int32))), .val (.int (0 : Int32))] [(.int ((p1 &&& (2147483647 : Int32)) % (3 : Int32))), (.ref b1)])) _
    refine X7.aaload hx (j := ((p1 &&& (2147483647 : Int32)) % (3 : Int32))) (v := (.ref wV)) (by rw [e7]; exact Ar_8.1) (State.isArrayOf_alike hZ.alike Ar_8.2.1) rfl Ar_8.2.2 hin_8 hat_8 (g := (mkF m 53 #[.val (.int p1), .val (.ref b1), .val (.int ((p1 &&& (2147483647 : Int32)) % (3 : Int32))), .val (.int (0 : Int32))] [(.int ((p1 &&& (2147483647 : Int32)) % (3 : Int32))), (.ref b1)])) rfl rfl (hb hby at_53) _ ?_
    show Steps p.tables e below (T7.setTop (mkF m 54 #[.val (.int p1), .val (.ref b1), .val (.int ((p1 &&& (2147483647 : Int32)) % (3 : Int32))), .val (.int (0 : Int32))] [(.ref wV)])) _
    refine st9.trans ?_
    show Steps p.tables e below (T9.setTop (mkF m 57 #[.val (.int p1), .val (.ref b1), .val (.int ((p1 &&& (2147483647 : Int32)) % (3 : Int32))), .val (.int (0 : Int32))] [(.int (0 : Int32))])) _
    refine XS.iloadN X9.here hx rfl (hb hby at_57) rfl ?_
    show Steps p.tables e below (T9.setTop (mkF m 58 #[.val (.int p1), .val (.ref b1), .val (.int ((p1 &&& (2147483647 : Int32)) % (3 : Int32))), .val (.int (0 : Int32))] [(.int (0 : Int32)), (.int (0 : Int32))])) _
    refine XS.icmpNo X9.here hx rfl (hb hby at_58) rfl (teq (rfl : (0 : Int32) = (0 : Int32))).2 ?_
    show Steps p.tables e below (T9.setTop (mkF m 61 #[.val (.int p1), .val (.ref b1), .val (.int ((p1 &&& (2147483647 : Int32)) % (3 : Int32))), .val (.int (0 : Int32))] [])) _
    refine XS.iconst X9.here hx rfl (hb hby at_61) ?_
    show Steps p.tables e below (T9.setTop (mkF m 62 #[.val (.int p1), .val (.ref b1), .val (.int ((p1 &&& (2147483647 : Int32)) % (3 : Int32))), .val (.int (0 : Int32))] [(.int (1 : Int32))])) _
    refine XS.goto X9.here hx rfl (pc0 := 62) (pc' := 66) rfl (hb hby at_62) (by decide) (by decide) ?_
    show Steps p.tables e below (T9.setTop (mkF m 66 #[.val (.int p1), .val (.ref b1), .val (.int ((p1 &&& (2147483647 : Int32)) % (3 : Int32))), .val (.int (0 : Int32))] [(.int (1 : Int32))])) _
    exact retN X9 hx (t := .boolean) Bd.returns (by simp) (hb hby at_66) hr
  · show QL n0 _ T9.heap _
    rw [e9]
    exact ⟨rfl, N9⟩
theorem own_mod3 (k : Int32) (h0 : ¬ ((k &&& (2147483647 : Int32)) % (3 : Int32) = (0 : Int32))) (h1 : ¬ ((k &&& (2147483647 : Int32)) % (3 : Int32) = (1 : Int32))) : (k &&& (2147483647 : Int32)) % (3 : Int32) = (2 : Int32) := by
  have a := c_and k (2147483647 : Int32) (by decide)
  have b := (c_irem (k &&& (2147483647 : Int32)) (3 : Int32) 3 (by decide)).1 a.1
  rw [← Int32.toInt_inj] at h0 h1 ⊢
  rw [b] at h0 h1 ⊢
  have e0 : (0 : Int32).toInt = 0 := by decide
  have e1 : (1 : Int32).toInt = 1 := by decide
  have e2 : (2 : Int32).toInt = 2 := by decide
  rw [e0] at h0; rw [e1] at h1; rw [e2]
  omega
theorem rm0 (l : Launch) (Z : State) (a0 : Array Value) (hw : ∀ d ∈ tables_1, d.before a0 Z = true) (ws : List Jvm.Cond) (p1 : Int32) (wI wB wV : Addr) (h0 : Heap) (n0 : Nat) (O0 : Old Z n0 h0) (S_INT : Sta Z Z.heap "com/example/undochain/undochain/jdbc/JdbcType" "INT" "Lcom/example/undochain/undochain/jdbc/JdbcType;" (.ref wI)) (S_BIGINT : Sta Z Z.heap "com/example/undochain/undochain/jdbc/JdbcType" "BIGINT" "Lcom/example/undochain/undochain/jdbc/JdbcType;" (.ref wB)) (S_VARCHAR : Sta Z Z.heap "com/example/undochain/undochain/jdbc/JdbcType" "VARCHAR" "Lcom/example/undochain/undochain/jdbc/JdbcType;" (.ref wV)) (E_wI : Exa Z Z.heap wI "com/example/undochain/undochain/jdbc/JdbcType") (E_wB : Exa Z Z.heap wB "com/example/undochain/undochain/jdbc/JdbcType") (E_wV : Exa Z Z.heap wV "com/example/undochain/undochain/jdbc/JdbcType") (F_I : Fld Z Z.heap wI "com/example/undochain/undochain/jdbc/JdbcType" "digits" "I" (.int (10 : Int32))) (F_B : Fld Z Z.heap wB "com/example/undochain/undochain/jdbc/JdbcType" "digits" "I" (.int (19 : Int32))) (F_V : Fld Z Z.heap wV "com/example/undochain/undochain/jdbc/JdbcType" "digits" "I" (.int (0 : Int32))) :
    MetFree l x (head1 (Jvm.Cond.code x code maxLocals ret :: ws) room_1) (fun a U => a = #[(.int p1)] ∧ Z.Warmed39 U.vm ∧ U.heap = h0) (fun _ _ _ _ _ => True) (fun _ U o U' => ∃ v L, o = .returned v ∧ QL n0 v U'.heap L ∧ FrameEnd U o U' L room_1.cells room_1.slots) := by
  by_cases c0 : (p1 &&& (2147483647 : Int32)) % (3 : Int32) = (0 : Int32)
  · exact rm0_0 l Z a0 hw ws p1 wI wB wV h0 n0 O0 S_INT E_wI S_BIGINT E_wB S_VARCHAR E_wV F_I c0
  · by_cases c1 : (p1 &&& (2147483647 : Int32)) % (3 : Int32) = (1 : Int32)
    · exact rm0_1 l Z a0 hw ws p1 wI wB wV h0 n0 O0 S_INT E_wI S_BIGINT E_wB S_VARCHAR E_wV F_B c0 c1
    · exact rm0_2 l Z a0 hw ws p1 wI wB wV h0 n0 O0 (own_mod3 p1 c0 c1) S_INT E_wI S_BIGINT E_wB S_VARCHAR E_wV F_V c0 c1
set_option maxRecDepth 65536 in
set_option maxHeartbeats 40000000 in
theorem comes_1 {Post : Tables → Env → Array Value → State → Outcome → State → Prop} (hpost : ∀ tb e args s v u, (limb_1_1.after args s (.returned v) u = true ∧ limb_1_2.after args s (.returned v) u = true ∧ True) → FrameEnd s (.returned v) u (Jvm.fieldLocs frame_1_writes args s ++ Jvm.arrayLocs frame_1_arrays args s ++ Jvm.staticLocs frame_1_statics s) 16 128 → Post tb e args s (.returned v) u) :
    ArmFor flags0 classFile x code maxLocals ret World_1 tables_1 room_1 Calls_1 rest_1 Pre_1 Post := by
  intro l hfl _ _ p e ha hc hk s m args below hf hA hF happ hP
  obtain ⟨hcalls, hrest, hpre⟩ := hP
  obtain ⟨-, -, -, hnamed, -, -, -, hat⟩ := (Spec.applies_iff hf).mp happ
  obtain ⟨hg, hn⟩ := and_e (Cond.before_iff.mp (show (Jvm.Cond.and given_1 narrow_1).before args s = true from hpre))
  obtain ⟨g_0, g_1⟩ := and_e hg
  obtain ⟨n_0, n_r0⟩ := and_e hn
  obtain ⟨n_1, n_r1⟩ := and_e n_r0
  obtain ⟨n_2, n_r2⟩ := and_e n_r1
  obtain ⟨n_3, n_r3⟩ := and_e n_r2
  obtain ⟨n_4, n_5⟩ := and_e n_r3
  obtain ⟨w0, rfl⟩ : ∃ w0 : Value, args = #[w0] := by
    have hs : args.size = 1 := by simpa [Cond.value, given_1] using g_0
    obtain ⟨L⟩ := args
    match L, hs with
    | [w0], _ => exact ⟨w0, rfl⟩
  have hw := fun d (hd : d ∈ tables_1) => atoms_spec (ws := Jvm.Cond.code x code maxLocals ret :: tables_1) hat d (List.mem_cons_of_mem _ hd)
  have hfit : Fit s := fun {y c} hc i hi => by
    obtain ⟨ha, rfl⟩ := Array.getElem?_eq_some_iff.mp hc
    have q := List.all_eq_true.mp ((Array.all_eq_true_iff_forall_mem.mp hF) _ (Array.getElem_mem ha)) i (List.mem_range.mpr hi)
    simpa [Array.getElem?_eq_getElem hi] using q
  obtain ⟨i0, ei0⟩ := is_v g_1
  obtain rfl : w0 = (.int i0) := Option.some.inj ei0
  obtain ⟨wINT, eINT⟩ := exa_v n_0
  obtain ⟨wBIGINT, eBIGINT⟩ := exa_v n_1
  obtain ⟨wVARCHAR, eVARCHAR⟩ := exa_v n_2
  have S_INT : Sta s s.heap "com/example/undochain/undochain/jdbc/JdbcType" "INT" "Lcom/example/undochain/undochain/jdbc/JdbcType;" (.ref wINT) := Sta.start eINT (Or.inr ⟨hw _ (List.mem_of_getElem? (i := 3) rfl), hw _ (List.mem_of_getElem? (i := 4) rfl)⟩)
  have S_BIGINT : Sta s s.heap "com/example/undochain/undochain/jdbc/JdbcType" "BIGINT" "Lcom/example/undochain/undochain/jdbc/JdbcType;" (.ref wBIGINT) := Sta.start eBIGINT (Or.inr ⟨hw _ (List.mem_of_getElem? (i := 3) rfl), hw _ (List.mem_of_getElem? (i := 7) rfl)⟩)
  have S_VARCHAR : Sta s s.heap "com/example/undochain/undochain/jdbc/JdbcType" "VARCHAR" "Lcom/example/undochain/undochain/jdbc/JdbcType;" (.ref wVARCHAR) := Sta.start eVARCHAR (Or.inr ⟨hw _ (List.mem_of_getElem? (i := 3) rfl), hw _ (List.mem_of_getElem? (i := 9) rfl)⟩)
  obtain ⟨n, o, h1, h2, h3, _, L, rfl, ⟨rfl, N⟩, hq⟩ := rm0 l s _ hw tables_1 i0 wINT wBIGINT wVARCHAR s.heap s.heap.size (Old.start s) S_INT S_BIGINT S_VARCHAR (Exa.start eINT n_0) (Exa.start eBIGINT n_1) (Exa.start eVARCHAR n_2) (own_fldInt eINT n_3) (own_fldInt eBIGINT n_5) (own_fldInt eVARCHAR n_4) p e ha hc hk s m _ below hf ((Spec.applies_iff_loose hf).mp happ).1 ⟨rfl, State.Warmed39.refl s, rfl⟩ trivial
  refine ⟨n, _, h1, h2, h3, hpost _ _ _ _ _ _ ⟨Cond.after_iff.mpr rfl, Cond.after_iff.mpr (eq_i res_at (Term.int_eval (1)) rfl), trivial⟩ ⟨hq.1, hq.2.1, (hq.2.2.sift fun y hy => Or.inr (N y hy)).mono (by decide) (by decide)⟩⟩
theorem main_1_1 : Claimed_1_1 := comes_1 fun _ _ _ _ _ _ h hF => ⟨h.1, hF⟩
theorem main_1_2 : Claimed_1_2 := comes_1 fun _ _ _ _ _ _ h hF => ⟨h.2.1, hF⟩
end Jvm.Pilot.@@N@@
namespace Jvm.Pilot.@@N@@
open Jvm Jvm.ClassFile Sem Op Lib Jvm.Free Jvm.Stand Jvm.Pilot.@@N@@.Jvm.D
/-! MADE BY PROGRAM (witnessworld.py) out of the Statement's table words and the real class files: 11 classes; the members and pool entries that the words name. The judged class is class 1, her method 1. -/
namespace start1
open Jvm.ClassFile
def u (s : String) : CpInfo := .utf8 (stringToUtf16 s)
/-- a pool by its gaps: so many unusable entries, then the entry; so many at the end -/
def gap : Nat → List CpInfo → List CpInfo
  | 0, r => r
  | n + 1, r => .unusable :: gap n r
def poolList (es : List (Nat × CpInfo)) (last : Nat) : List CpInfo := es.foldr (fun e r => gap e.1 (e.2 :: r)) (gap last [])
def pool (es : List (Nat × CpInfo)) (last : Nat) : Array CpInfo := ⟨poolList es last⟩
def fileOf (pool : Array CpInfo) (this : Nat) (attrs : Array Attribute := #[]) (ms : Array MethodInfo := #[]) (fl : Nat := 33) (sup : Nat := 0) (ifs : Array Nat := #[]) (fds : Array FieldInfo := #[]) : ClassFile where
  minorVersion := 0
  majorVersion := 65
  constantPool := pool
  accessFlags := fl
  thisClass := this
  superClass := sup
  interfaces := ifs
  fields := fds
  methods := ms
  attributes := attrs
def plain (name : String) (sup : Option ClassId) : Class where
  name := name
  kind := .ordinary
  loader := none
  accessFlags := 33
  super := sup
  interfaces := #[]
  cf := none
  fields := #[]
  methods := #[]
  instanceTypes := #[]
  staticTypes := #[]
  resolved := #[]
  callSites := []
  init := .initialized
  statics := none
  mirror := none

def pool0 : Array CpInfo := pool [(5, u "<init>"), (0, u "()V"), (1, .class_ 10), (1, u "java/lang/Object")] 113

def k0m0 : Method := { name := "<init>", desc := "()V", sig := { parameters := [], returnType := none }, accessFlags := 1, code := none }
/-- java/lang/Object -/
def k0 : Class := { plain "java/lang/Object" none with
  accessFlags := 33
  interfaces := #[]
  cf := some (fileOf pool0 8 #[] #[{ accessFlags := 1, nameIndex := 5, descriptorIndex := 6, attributes := #[] }] 33 0 #[] #[])
  fields := #[]
  methods := #[k0m0]
  instanceTypes := #[]
  staticTypes := #[]
  resolved := Array.replicate 124 none
  statics := none }

def pool1 : Array CpInfo := pool [(2, .class_ 4), (1, u "java/lang/Object"), (0, u "<init>"), (0, u "()V"), (0, .class_ 8), (0, u "com/example/undochain/undochain/jdbc/JdbcType"), (0, .fieldref 7 10), (0, .nameAndType 11 12), (0, u "INT"), (0, u "Lcom/example/undochain/undochain/jdbc/JdbcType;"), (0, .fieldref 7 14), (0, .nameAndType 15 12), (0, u "BIGINT"), (0, .fieldref 7 17), (0, .nameAndType 18 12), (0, u "VARCHAR"), (0, .integer 2147483647), (0, .methodref 7 21), (0, .nameAndType 22 23), (0, u "isNumber"), (0, u "()Z"), (0, .class_ 25), (0, u "com/example/undochain/undochain/jdbc/JdbcTypeIsNumberPinLaw"), (2, u "law"), (0, u "(I)Z")] 5

def k1m0 : Method := { name := "<init>", desc := "()V", sig := { parameters := [], returnType := none }, accessFlags := 1, code := none }
def k1c1 : Code := { maxStack := 4, maxLocals := 4, code := code, exceptionTable := #[], attributes := #[] }
def k1m1 : Method := { name := "law", desc := "(I)Z", sig := { parameters := [.int], returnType := some .boolean }, accessFlags := 9, code := some k1c1 }
/-- com/example/undochain/undochain/jdbc/JdbcTypeIsNumberPinLaw -/
def k1 : Class := { plain "com/example/undochain/undochain/jdbc/JdbcTypeIsNumberPinLaw" (some 0) with
  accessFlags := 49
  interfaces := #[]
  cf := some (fileOf pool1 24 #[] #[{ accessFlags := 1, nameIndex := 5, descriptorIndex := 6, attributes := #[] }, { accessFlags := 9, nameIndex := 28, descriptorIndex := 29, attributes := #[] }] 49 2 #[] #[])
  fields := #[]
  methods := #[k1m0, k1m1]
  instanceTypes := #[]
  staticTypes := #[]
  resolved := Array.replicate 35 none
  statics := none }

def pool2 : Array CpInfo := pool [(1, .class_ 2), (0, u "java/lang/constant/Constable"), (0, .class_ 4), (0, u "java/lang/Object")] 6

/-- java/lang/constant/Constable -/
def k2 : Class := { plain "java/lang/constant/Constable" (some 0) with
  accessFlags := 1537
  interfaces := #[]
  cf := some (fileOf pool2 1 #[] #[] 1537 3 #[] #[])
  fields := #[]
  methods := #[]
  instanceTypes := #[]
  staticTypes := #[]
  resolved := Array.replicate 11 none
  statics := none }

def pool3 : Array CpInfo := pool [(1, .class_ 2), (0, u "java/lang/Comparable"), (0, .class_ 4), (0, u "java/lang/Object")] 7

/-- java/lang/Comparable -/
def k3 : Class := { plain "java/lang/Comparable" (some 0) with
  accessFlags := 1537
  interfaces := #[]
  cf := some (fileOf pool3 1 #[] #[] 1537 3 #[] #[])
  fields := #[]
  methods := #[]
  instanceTypes := #[]
  staticTypes := #[]
  resolved := Array.replicate 12 none
  statics := none }

def pool4 : Array CpInfo := pool [(1, .class_ 2), (0, u "java/io/Serializable"), (0, .class_ 4), (0, u "java/lang/Object")] 2

/-- java/io/Serializable -/
def k4 : Class := { plain "java/io/Serializable" (some 0) with
  accessFlags := 1537
  interfaces := #[]
  cf := some (fileOf pool4 1 #[] #[] 1537 3 #[] #[])
  fields := #[]
  methods := #[]
  instanceTypes := #[]
  staticTypes := #[]
  resolved := Array.replicate 7 none
  statics := none }

def pool5 : Array CpInfo := pool [(2, .class_ 4), (1, u "java/lang/Enum"), (0, u "name"), (0, u "Ljava/lang/String;"), (2, u "ordinal"), (0, u "I"), (1, .class_ 14), (1, u "java/lang/Object"), (4, u "hash"), (86, .class_ 108), (1, u "java/lang/Enum$EnumDesc"), (2, .class_ 112), (0, u "java/lang/constant/Constable"), (0, .class_ 114), (0, u "java/lang/Comparable"), (0, .class_ 116), (0, u "java/io/Serializable")] 87

/-- java/lang/Enum -/
def k5 : Class := { plain "java/lang/Enum" (some 0) with
  accessFlags := 1057
  interfaces := #[2, 3, 4]
  cf := some (fileOf pool5 2 #[.nestMembers #[106]] #[] 1057 12 #[111, 113, 115] #[{ accessFlags := 18, nameIndex := 5, descriptorIndex := 6, attributes := #[] }, { accessFlags := 18, nameIndex := 9, descriptorIndex := 10, attributes := #[] }, { accessFlags := 2, nameIndex := 19, descriptorIndex := 10, attributes := #[] }])
  fields := #[{ name := "name", type := (.object "java/lang/String"), accessFlags := 18, slot := 0, constantValue := 0 }, { name := "ordinal", type := .int, accessFlags := 18, slot := 1, constantValue := 0 }, { name := "hash", type := .int, accessFlags := 2, slot := 2, constantValue := 0 }]
  methods := #[]
  instanceTypes := #[(.object "java/lang/String"), .int, .int]
  staticTypes := #[]
  resolved := Array.replicate 204 none
  statics := none }

def pool6 : Array CpInfo := pool [(1, .class_ 2), (0, u "com/example/undochain/undochain/jdbc/JdbcType"), (2, u "INT"), (0, u "Lcom/example/undochain/undochain/jdbc/JdbcType;"), (2, u "BIGINT"), (2, u "VARCHAR"), (2, u "$VALUES"), (0, u "[Lcom/example/undochain/undochain/jdbc/JdbcType;"), (6, .class_ 25), (1, u "java/lang/Enum"), (8, u "valueType"), (0, u "Lcom/example/undochain/undochain/sql/ValueType;"), (2, u "code"), (0, u "I"), (2, u "javaClass"), (0, u "Ljava/lang/Class;"), (0, .fieldref 1 45), (0, .nameAndType 46 39), (0, u "digits"), (20, u "isNumber"), (0, u "()Z")] 64

def k6c0 : Code := { maxStack := 1, maxLocals := 1, code := prog_77_method_7_code, exceptionTable := #[], attributes := #[] }
def k6m0 : Method := { name := "isNumber", desc := "()Z", sig := { parameters := [], returnType := some .boolean }, accessFlags := 0, code := some k6c0 }
/-- com/example/undochain/undochain/jdbc/JdbcType -/
def k6 : Class := { plain "com/example/undochain/undochain/jdbc/JdbcType" (some 5) with
  accessFlags := 16432
  interfaces := #[]
  cf := some (fileOf pool6 1 #[] #[{ accessFlags := 0, nameIndex := 67, descriptorIndex := 68, attributes := #[] }] 16432 23 #[] #[{ accessFlags := 16409, nameIndex := 5, descriptorIndex := 6, attributes := #[] }, { accessFlags := 16409, nameIndex := 9, descriptorIndex := 6, attributes := #[] }, { accessFlags := 16409, nameIndex := 12, descriptorIndex := 6, attributes := #[] }, { accessFlags := 18, nameIndex := 34, descriptorIndex := 35, attributes := #[] }, { accessFlags := 18, nameIndex := 38, descriptorIndex := 39, attributes := #[] }, { accessFlags := 18, nameIndex := 42, descriptorIndex := 43, attributes := #[] }, { accessFlags := 18, nameIndex := 46, descriptorIndex := 39, attributes := #[] }, { accessFlags := 4122, nameIndex := 15, descriptorIndex := 16, attributes := #[] }])
  fields := #[{ name := "INT", type := (.object "com/example/undochain/undochain/jdbc/JdbcType"), accessFlags := 16409, slot := 0, constantValue := 0 }, { name := "BIGINT", type := (.object "com/example/undochain/undochain/jdbc/JdbcType"), accessFlags := 16409, slot := 1, constantValue := 0 }, { name := "VARCHAR", type := (.object "com/example/undochain/undochain/jdbc/JdbcType"), accessFlags := 16409, slot := 2, constantValue := 0 }, { name := "valueType", type := (.object "com/example/undochain/undochain/sql/ValueType"), accessFlags := 18, slot := 3, constantValue := 0 }, { name := "code", type := .int, accessFlags := 18, slot := 4, constantValue := 0 }, { name := "javaClass", type := (.object "java/lang/Class"), accessFlags := 18, slot := 5, constantValue := 0 }, { name := "digits", type := .int, accessFlags := 18, slot := 6, constantValue := 0 }, { name := "$VALUES", type := (.array (.object "com/example/undochain/undochain/jdbc/JdbcType")), accessFlags := 4122, slot := 3, constantValue := 0 }]
  methods := #[k6m0]
  instanceTypes := #[(.object "java/lang/String"), .int, .int, (.object "com/example/undochain/undochain/sql/ValueType"), .int, (.object "java/lang/Class"), .int]
  staticTypes := #[(.object "com/example/undochain/undochain/jdbc/JdbcType"), (.object "com/example/undochain/undochain/jdbc/JdbcType"), (.object "com/example/undochain/undochain/jdbc/JdbcType"), (.array (.object "com/example/undochain/undochain/jdbc/JdbcType"))]
  resolved := Array.replicate 133 none
  statics := some 0 }

def pool7 : Array CpInfo := pool [(1, u "java/lang/Cloneable"), (0, .class_ 1), (0, u "java/lang/Object"), (0, .class_ 3)] 3

/-- java/lang/Cloneable -/
def k7 : Class := { plain "java/lang/Cloneable" (some 0) with
  accessFlags := 1537
  interfaces := #[]
  cf := some (fileOf pool7 2 #[] #[] 1537 4 #[] #[])
  fields := #[]
  methods := #[]
  instanceTypes := #[]
  staticTypes := #[]
  resolved := Array.replicate 8 none
  statics := none }

/-- the primitive byte -/
def k8 : Class := { plain "byte" none with kind := .primitive 'B', accessFlags := 0x411 }
/-- [B -/
def k9 : Class := { plain "[B" (some 0) with kind := .array 8 .byte, interfaces := #[7, 4], accessFlags := 1041 }

/-- [Lcom/example/undochain/undochain/jdbc/JdbcType; -/
def k10 : Class := { plain "[Lcom/example/undochain/undochain/jdbc/JdbcType;" (some 0) with kind := .array 6 (.object "com/example/undochain/undochain/jdbc/JdbcType"), interfaces := #[7, 4], accessFlags := 1041 }

def heap : Heap := #[{ cls := 6, slots := #[.ref 1, .ref 2, .ref 3, .null], vm := .statics 6 },
  { cls := 6, slots := #[.null, .int 0, .int 0, .null, .int 0, .null, .int 10], vm := .none },
  { cls := 6, slots := #[.null, .int 1, .int 0, .null, .int 0, .null, .int 19], vm := .none },
  { cls := 6, slots := #[.null, .int 2, .int 0, .null, .int 0, .null, .int 0], vm := .none }]
def classes : Array Class := #[k0, k1, k2, k3, k4, k5, k6, k7, k8, k9, k10]
def interned : List (Array UInt16 × Addr) := []
def slotsUsed : Nat := 25
def theMethod : MethodId := ⟨1, 1⟩
def args0 : Array Value := #[.int 5]
def aboutOver (below : List Frame) : State where
  vm := { classes := classes, interned := interned.toArray }
  heap := heap
  slotsUsed := slotsUsed
  threads := #[{ frames := .invoking theMethod args0 :: below }]
def below0 : List Frame := [.native { method := ⟨0, 0⟩, args := #[] }]
def about1 : State := aboutOver below0
def p0 : Program := .bare "" "" ""
def e0 : Env := launch0.env 0 0 0
theorem w_frames : about1.frames = Frame.invoking theMethod args0 :: below0 := rfl
set_option maxRecDepth 65536 in
theorem w_args : argsFit about1.vm theMethod args0 = true := by decide +kernel
set_option maxRecDepth 65536 in
theorem w_heap : heapFits about1 = true := by decide +kernel
set_option maxRecDepth 65536 in
theorem w_runnable : about1.curStatus? = some .runnable := by decide +kernel
set_option maxRecDepth 65536 in
theorem w_alone : about1.alone = true := by decide +kernel
set_option maxRecDepth 65536 in
theorem w_named : about1.methodNamed? x = some theMethod := by decide +kernel
set_option maxRecDepth 65536 in
theorem w_hears : about1.hears theMethod below0 = true := by decide +kernel
set_option maxRecDepth 65536 in
theorem w_ripe : about1.ripe theMethod args0 below0 = true := by decide +kernel
theorem w_running : about1.status = .running := rfl
set_option maxRecDepth 65536 in
theorem w_room : about1.hasRoom e0.platform room_1 = true :=
  launch0.hasRoom_least _ room_1 (by decide +kernel) (by decide +kernel) (by decide +kernel) (by decide +kernel) (by decide +kernel) (by decide +kernel)
theorem allAtoms_all (ts : List Jvm.Cond) (a : Array Jvm.Value) (st : Jvm.State) : (allAtoms ts).before a st = ts.all (fun c => c.before a st) := by
  induction ts with
  | nil => rfl
  | cons c t ih =>
    show (Jvm.Cond.and c (allAtoms t)).before a st = _
    rw [Jvm.Cond.before_and, ih, List.all_cons]
def words1 : List Jvm.Cond := Jvm.Cond.code x code maxLocals ret :: tables_1
/-- a 'code' word, met by the world's own term for the bytes: nothing is compared byte by byte -/
theorem code_word {y : MethodName} {bytes : ByteArray} {mx : Nat} {rt : Option FieldType} {a : Array Value} {s : State} {m : MethodId} {meth : Method} {c : Code} (h1 : s.methodNamed? y = some m) (h2 : s.vm.method? m = some meth) (h3 : meth.code = some c) (h4 : c.code = bytes)
    (h5 : (c.maxLocals == mx && c.exceptionTable.isEmpty && decide (c.maxStack ≤ mostOperands) && decide (meth.sig.returnType = rt) && !meth.locks && decide (parseMethodDescriptor y.desc = some meth.sig)) = true) : (Jvm.Cond.code y bytes mx rt).before a s = true := by
  simp only [Bool.and_eq_true, beq_iff_eq, Bool.not_eq_true', decide_eq_true_eq] at h5
  obtain ⟨⟨⟨⟨⟨g1, g2⟩, g3⟩, g4⟩, g5⟩, g6⟩ := h5
  simp [Cond.before, Cond.holds, Cond.value, h1, h2, h3, h4, g1, g2, g3, g4, g5, g6]
def isCode : Jvm.Cond → Bool
  | .code _ _ _ _ => true
  | _ => false
theorem all_split {L : List Jvm.Cond} {P : Jvm.Cond → Bool} (h1 : L.all (fun c => isCode c || P c) = true) (h2 : ∀ c ∈ L.filter isCode, P c = true) : L.all P = true := by
  refine List.all_eq_true.mpr fun c hc => ?_
  have h := List.all_eq_true.mp h1 c hc
  rcases Bool.eq_false_or_eq_true (isCode c) with hi | hi
  · exact h2 c (List.mem_filter.mpr ⟨hc, hi⟩)
  · simpa [hi] using h
set_option maxRecDepth 65536 in
theorem w_c0 : (Jvm.Cond.code x code maxLocals ret).before args0 about1 = true := code_word (m := ⟨1, 1⟩) (meth := k1m1) (c := k1c1) (by decide +kernel) rfl rfl rfl (by decide +kernel)
set_option maxRecDepth 65536 in
theorem w_c1 : (Jvm.Cond.code ({ cls := "com/example/undochain/undochain/jdbc/JdbcType", name := "isNumber", desc := "()Z" } : Jvm.MethodName) prog_77_method_7_code (1 : Nat) (Option.some Jvm.ClassFile.FieldType.boolean)).before args0 about1 = true := code_word (m := ⟨6, 0⟩) (meth := k6m0) (c := k6c0) (by decide +kernel) rfl rfl rfl (by decide +kernel)
def codes1 : List Jvm.Cond := [Jvm.Cond.code x code maxLocals ret, Jvm.Cond.code ({ cls := "com/example/undochain/undochain/jdbc/JdbcType", name := "isNumber", desc := "()Z" } : Jvm.MethodName) prog_77_method_7_code (1 : Nat) (Option.some Jvm.ClassFile.FieldType.boolean)]
set_option maxRecDepth 65536 in
theorem codes_eq : words1.filter isCode = codes1 := rfl
theorem w_codes : ∀ c ∈ words1.filter isCode, c.before args0 about1 = true := by
  rw [codes_eq]
  intro c hc
  simp only [codes1, List.mem_cons, List.not_mem_nil, or_false] at hc
  rcases hc with rfl | rfl
  · exact w_c0
  · exact w_c1
set_option maxRecDepth 65536 in
theorem w_t1 : words1.all (fun c => isCode c || c.before args0 about1) = true := by decide +kernel
theorem w_tables : (allAtoms (Jvm.Cond.code x code maxLocals ret :: tables_1)).before args0 about1 = true := by
  rw [allAtoms_all]
  show words1.all (fun c => c.before args0 about1) = true
  refine all_split ?_ w_codes
  rw [w_t1]
set_option maxRecDepth 65536 in
theorem w_case : (Jvm.Cond.and given_1 narrow_1).before args0 about1 = true := by decide +kernel
theorem w_applies : (headSpec (Jvm.Cond.code x code maxLocals ret :: tables_1) room_1).applies x e0.platform about1 = true :=
  (Spec.applies_iff w_frames).mpr ⟨w_running, w_runnable, w_alone, w_named, w_hears, w_ripe, w_room, w_tables⟩
theorem atStart : AtStart classFile x code maxLocals ret World_1 tables_1 room_1 Calls_1 rest_1 Pre_1 launch0 p0 e0 about1 theMethod args0 below0 :=
  ⟨lists_1, trivial, launch0.admits_env _ _ _, launch0.least_env, fairChoices_fair.cas, fairChoices_fair.clock, w_frames, w_args, w_heap, w_applies, trivial, trivial, w_case⟩
end start1
theorem witness_1 : WitnessClaimed_1 := ⟨start1.p0, start1.e0, start1.about1, start1.theMethod, start1.args0, start1.below0, start1.atStart⟩
end Jvm.Pilot.@@N@@
