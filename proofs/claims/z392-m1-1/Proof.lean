import JvmDerived
import JvmDerived.Pilot.@@N@@Statement
import JvmDerived.Pilot.@@N@@Code
set_option linter.unusedVariables false
set_option linter.unusedSimpArgs false
namespace Jvm.RoadKit
open Sem ClassFile Op Lib Jvm.Stand Jvm.Free Jvm.LawKit
section New
variable {p : Program} {l : Launch} {e : Env} {R : Room} {s : State} {m : MethodId} {args : Array Value} {below : List Frame} {meth : Method} {c : Code} {T : State} {locs : List Loc} {cells slots : Nat}
theorem retI (X : Stand p l e R s m args below meth c T locs cells slots) (hx : p.tables.exec = Jvm.exec) {pc : Nat} {Ls : Array Slot} {z : Int32} {rest : List Value} (hret : meth.sig.returnType = some .int) (hd : decode c.code pc = .ok (.ireturn, 1)) {fs : List Frame}
    (hl : ∀ (f : JFrame) (acts : List Action), f.method = m → f.locked = none → f.entered = [] → (doReturn e (T.setTop f) acts (some (.int z))).1 = T.setFrames fs) : Steps p.tables e below (T.setTop (mkF m pc Ls (.int z :: rest))) (T.setFrames fs) := by
  have hm' : T.vm.method? m = some meth := X.method'
  have hn : narrow .int (.int z) = .int z := rfl
  show Steps p.tables e below (T.setTop { method := m, pc := pc, locals := Ls, stack := _ :: rest, locked := none }) _
  jvm_step X.here [X.here.top, hx, hd, hm', hret, hn]
  first | (intro acts; rw [hl _ acts rfl rfl rfl]) | rw [hl _ _ rfl rfl rfl]
  exact Steps.refl _
end New
end Jvm.RoadKit
namespace Jvm.Pilot.@@N@@
open Jvm Jvm.ClassFile Sem Op Lib Jvm.Free Jvm.Stand Jvm.LawKit Jvm.RoadKit Bundle Jvm.Pilot.@@N@@.Jvm.D
/-! ## the plain part -/
def own_wh (p : Int32) : Int32 := if (0 : Int32) < p then 1 else 0
theorem own_wh_nar (p : Int32) : nar .boolean (own_wh p) = own_wh p := by unfold own_wh; split <;> rfl
theorem own_ite_nar (P : Prop) [Decidable P] (x y : Int32) (hx : nar .boolean x = x) (hy : nar .boolean y = y) : nar .boolean (if P then x else y) = if P then x else y := by split <;> assumption

theorem d3_0 : decode jdk_30_method_1_code 0 = .ok (.aload_n 0, 1) := by decide +kernel
theorem d3_1 : decode jdk_30_method_1_code 1 = .ok (.invokespecial 1, 3) := by decide +kernel
theorem d3_4 : decode jdk_30_method_1_code 4 = .ok (.return_, 1) := by decide +kernel
def QRec (Z : State) (a : Addr) (h0 : Heap) (n0 : Nat) (v : Option Value) (h : Heap) (L : List Loc) : Prop := v = none ∧ Fr n0 L ∧ h = h0
theorem pn_3 : plainName "java/lang/Record" = true := by first | (simp [plainName, overriddenIn]; done) | decide +kernel
theorem ef_3 (m : MethodId) (x0 : Addr) : entryFrame m #[(.ref x0)] 1 = mkF m 0 #[.val (.ref x0)] [] := by first | (simp [entryFrame, mkF, argsToLocals, Value.category]; done) | rfl
set_option maxRecDepth 65536 in
set_option maxHeartbeats 40000000 in
theorem rmRec (l : Launch) (Z : State) (a0 : Array Value) (hw : ∀ d ∈ tables_1, d.before a0 Z = true) (ws : List Jvm.Cond) (a : Addr) (h0 : Heap) (n0 : Nat) (Z0 : n0 ≤ h0.size)  :
    MetFree l (⟨"java/lang/Record", "<init>", "()V"⟩ : MethodName) (head1 (Jvm.Cond.code (⟨"java/lang/Record", "<init>", "()V"⟩ : MethodName) jdk_30_method_1_code 1 none :: ws) ({ frames := 1, cells := 0, slots := 0, locals := 12 } : Room)) (fun as_ U => as_ = #[(.ref a)] ∧ Z.Warmed39 U.vm ∧ U.heap = h0) (fun _ _ _ _ _ => True) (fun _ U o U' => ∃ v L, o = .returned v ∧ QRec Z a h0 n0 v U'.heap L ∧ FrameEnd U o U' L ({ frames := 1, cells := 0, slots := 0, locals := 12 } : Room).cells ({ frames := 1, cells := 0, slots := 0, locals := 12 } : Room).slots) := by
  refine MetFree.of_bodySF (plainFor_of_name pn_3) hisR ?_
  intro p e s m args below meth c s₁ Bd hml0 hP hK
  obtain ⟨rfl, hZ, hh⟩ := hP
  have hx := Bd.exec
  have hby := Bd.bytes
  have hml : c.maxLocals = 1 := hml0
  have hown : s.vm.findClass "java/lang/Record" = some m.cls := findClass_of_methodNamed Bd.named
  have hnm := (name_of_methodNamed Bd.named Bd.method).1
  have X0 : Stand p l e ({ frames := 1, cells := 0, slots := 0, locals := 12 } : Room) s m #[(.ref a)] below meth c s₁ [] 0 0 := Stand.of_body Bd
  have e0 : s₁.heap = h0 := by rw [← hh, Bd.state]; rfl
  have N0 := Fr.nil n0
  have pre0 : ∀ t, Steps p.tables e below (s₁.setTop (mkF m 0 #[.val (.ref a)] [])) t → Steps p.tables e below (s₁.setTop (entryFrame m #[(.ref a)] 1)) t := fun t k => castTop (ef_3 m a) k
  obtain ⟨T_1, X_1, e_1, st_1⟩ := initO X0 hx hZ hown (hw _ (List.mem_of_getElem? (i := 14) rfl)) (hw _ (List.mem_of_getElem? (i := 15) rfl)) (hw _ (List.mem_of_getElem? (i := 16) rfl)) e0 (g := (mkF m 1 #[.val (.ref a)] [(.ref a)])) rfl (by rw [hml]; rfl) rfl (hb hby d3_1) (by decide) (W := 0) (by show 2 * 0 + _ ≤ _; exact Nat.le_of_eq rfl) (by decide)
  obtain ⟨fs, hr, hrun, hended, hW, hsame⟩ := X_1.leave (v := none) (fun _ => rfl)
  refine ⟨_, _, pre0 _ ?_, hrun, hended, _, _, rfl, ?_, ⟨_, rfl⟩, hW, hsame.mono (by decide) (by decide)⟩
  · show Steps p.tables e below (s₁.setTop (mkF m 0 #[.val (.ref a)] [])) _
    refine XS.aloadN X0.here hx rfl (hb hby d3_0) rfl rfl ?_
    show Steps p.tables e below (s₁.setTop (mkF m 1 #[.val (.ref a)] [(.ref a)])) _
    refine st_1 _ ?_
    show Steps p.tables e below (T_1.setTop (mkF m 4 #[.val (.ref a)] [])) _
    exact X_1.returnOut hx Bd.returns (hb hby d3_4) hr
  · show QRec Z a h0 n0 _ T_1.heap _
    rw [e_1]
    exact ⟨rfl, N0, rfl⟩
theorem d2_0 : decode prog_28_method_1_code 0 = .ok (.aload_n 0, 1) := by decide +kernel
theorem pd_0 : parseMethodDescriptor "()V" = some ⟨[], none⟩ := by decide +kernel
theorem d2_1 : decode prog_28_method_1_code 1 = .ok (.invokespecial 1, 3) := by decide +kernel
theorem d2_4 : decode prog_28_method_1_code 4 = .ok (.iload_n 2, 1) := by decide +kernel
theorem d2_5 : decode prog_28_method_1_code 5 = .ok (.ifCond .eq 11, 3) := by decide +kernel
theorem d2_16 : decode prog_28_method_1_code 16 = .ok (.iconst 0, 1) := by decide +kernel
theorem d2_8 : decode prog_28_method_1_code 8 = .ok (.iload_n 1, 1) := by decide +kernel
theorem d2_9 : decode prog_28_method_1_code 9 = .ok (.ifCond .le 7, 3) := by decide +kernel
theorem d2_12 : decode prog_28_method_1_code 12 = .ok (.iconst 1, 1) := by decide +kernel
theorem d2_13 : decode prog_28_method_1_code 13 = .ok (.goto 4, 3) := by decide +kernel
theorem d2_17 : decode prog_28_method_1_code 17 = .ok (.istore_n 2, 1) := by decide +kernel
theorem d2_18 : decode prog_28_method_1_code 18 = .ok (.aload_n 0, 1) := by decide +kernel
theorem d2_19 : decode prog_28_method_1_code 19 = .ok (.iload_n 1, 1) := by decide +kernel
theorem d2_20 : decode prog_28_method_1_code 20 = .ok (.putfield 7, 3) := by decide +kernel
theorem d2_23 : decode prog_28_method_1_code 23 = .ok (.aload_n 0, 1) := by decide +kernel
theorem d2_24 : decode prog_28_method_1_code 24 = .ok (.iload_n 2, 1) := by decide +kernel
theorem d2_25 : decode prog_28_method_1_code 25 = .ok (.putfield 13, 3) := by decide +kernel
theorem d2_28 : decode prog_28_method_1_code 28 = .ok (.aload_n 0, 1) := by decide +kernel
theorem d2_29 : decode prog_28_method_1_code 29 = .ok (.iload_n 3, 1) := by decide +kernel
theorem d2_30 : decode prog_28_method_1_code 30 = .ok (.putfield 17, 3) := by decide +kernel
theorem d2_33 : decode prog_28_method_1_code 33 = .ok (.aload_n 0, 1) := by decide +kernel
theorem d2_34 : decode prog_28_method_1_code 34 = .ok (.iload 4, 2) := by decide +kernel
theorem d2_36 : decode prog_28_method_1_code 36 = .ok (.putfield 20, 3) := by decide +kernel
theorem d2_39 : decode prog_28_method_1_code 39 = .ok (.return_, 1) := by decide +kernel
def Q2 (Z : State) (a : Addr) (p1 : Int32) (p2 : Int32) (p3 : Int32) (p4 : Int32) (wh : Int32) (h0 : Heap) (n0 : Nat) (v : Option Value) (h : Heap) (L : List Loc) : Prop := v = none ∧ Fr n0 L ∧ Keep h0 h [a] ∧ Fld Z h a "com/example/reserve_row/reserverow/StatementBound" "millis" "I" (.int p1) ∧ Fld Z h a "com/example/reserve_row/reserverow/StatementBound" "whole" "Z" (.int wh) ∧ Fld Z h a "com/example/reserve_row/reserverow/StatementBound" "givesBack" "Z" (.int p3) ∧ Fld Z h a "com/example/reserve_row/reserverow/StatementBound" "onRows" "Z" (.int p4)
theorem pn_2 : plainName "com/example/reserve_row/reserverow/StatementBound" = true := by first | (simp [plainName, overriddenIn]; done) | decide +kernel
theorem ef_2 (m : MethodId) (x0 : Addr) (x1 : Int32) (x2 : Int32) (x3 : Int32) (x4 : Int32) : entryFrame m #[(.ref x0), (.int x1), (.int x2), (.int x3), (.int x4)] 5 = mkF m 0 #[.val (.ref x0), .val (.int x1), .val (.int x2), .val (.int x3), .val (.int x4)] [] := by first | (simp [entryFrame, mkF, argsToLocals, Value.category]; done) | rfl
set_option maxRecDepth 65536 in
set_option maxHeartbeats 40000000 in
theorem rm2 (l : Launch) (Z : State) (a0 : Array Value) (hw : ∀ d ∈ tables_1, d.before a0 Z = true) (ws : List Jvm.Cond) (a : Addr) (p1 : Int32) (p2 : Int32) (p3 : Int32) (p4 : Int32) (wh : Int32) (h0 : Heap) (n0 : Nat) (Z0 : n0 ≤ h0.size) (E_a : Exa Z h0 a "com/example/reserve_row/reserverow/StatementBound") (F_millis : Fld Z h0 a "com/example/reserve_row/reserverow/StatementBound" "millis" "I" (.int (0 : Int32))) (F_whole : Fld Z h0 a "com/example/reserve_row/reserverow/StatementBound" "whole" "Z" (.int (0 : Int32))) (F_givesBack : Fld Z h0 a "com/example/reserve_row/reserverow/StatementBound" "givesBack" "Z" (.int (0 : Int32))) (F_onRows : Fld Z h0 a "com/example/reserve_row/reserverow/StatementBound" "onRows" "Z" (.int (0 : Int32))) (g_a : n0 ≤ a) (hwh_ : (if p2 = (0 : Int32) then (0 : Int32) else (if (0 : Int32) < p1 then (1 : Int32) else (0 : Int32))) = wh) (hnw_ : nar .boolean wh = wh) (hn3_ : nar .boolean p3 = p3) (hn4_ : nar .boolean p4 = p4) :
    MetFree l (⟨"com/example/reserve_row/reserverow/StatementBound", "<init>", "(IZZZ)V"⟩ : MethodName) (head1 (Jvm.Cond.code (⟨"com/example/reserve_row/reserverow/StatementBound", "<init>", "(IZZZ)V"⟩ : MethodName) prog_28_method_1_code 5 none :: ws) ({ frames := 2, cells := 0, slots := 0, locals := 24 } : Room)) (fun as_ U => as_ = #[(.ref a), (.int p1), (.int p2), (.int p3), (.int p4)] ∧ Z.Warmed39 U.vm ∧ U.heap = h0) (fun _ _ _ _ _ => True) (fun _ U o U' => ∃ v L, o = .returned v ∧ Q2 Z a p1 p2 p3 p4 wh h0 n0 v U'.heap L ∧ FrameEnd U o U' L ({ frames := 2, cells := 0, slots := 0, locals := 24 } : Room).cells ({ frames := 2, cells := 0, slots := 0, locals := 24 } : Room).slots) := by
  refine MetFree.of_bodySF (plainFor_of_name pn_2) hisR ?_
  intro p e s m args below meth c s₁ Bd hml0 hP hK
  obtain ⟨rfl, hZ, hh⟩ := hP
  have hx := Bd.exec
  have hby := Bd.bytes
  have hml : c.maxLocals = 5 := hml0
  have hown : s.vm.findClass "com/example/reserve_row/reserverow/StatementBound" = some m.cls := findClass_of_methodNamed Bd.named
  have hnm := (name_of_methodNamed Bd.named Bd.method).1
  have X0 : Stand p l e ({ frames := 2, cells := 0, slots := 0, locals := 24 } : Room) s m #[(.ref a), (.int p1), (.int p2), (.int p3), (.int p4)] below meth c s₁ [] 0 0 := Stand.of_body Bd
  have e0 : s₁.heap = h0 := by rw [← hh, Bd.state]; rfl
  have N0 := Fr.nil n0
  have pre0 : ∀ t, Steps p.tables e below (s₁.setTop (mkF m 0 #[.val (.ref a), .val (.int p1), .val (.int p2), .val (.int p3), .val (.int p4)] [])) t → Steps p.tables e below (s₁.setTop (entryFrame m #[(.ref a), (.int p1), (.int p2), (.int p3), (.int p4)] 5)) t := fun t k => castTop (ef_2 m a p1 p2 p3 p4) k
  obtain ⟨_, _, ⟨T_1, L_1, k_1, n_1⟩, -, X_1, ⟨Lc_1, hQ_1, l_1, y_1, z_1⟩, st_1⟩ := X0.specialBack hx (y := (⟨"java/lang/Record", "<init>", "()V"⟩ : MethodName)) rfl hown (mvT hZ (hw _ (List.mem_of_getElem? (i := 9) rfl))) (mvT hZ (hw _ (List.mem_of_getElem? (i := 10) rfl))) (mvT hZ (hw _ (List.mem_of_getElem? (i := 13) rfl))) (by decide) (backOf (W := 0) (rmRec l Z a0 hw [] a h0 n0 Z0 ) hZ (hw _ (List.mem_of_getElem? (i := 13) rfl)) (hw _ (List.mem_of_getElem? (i := 12) rfl)) (by decide) (by decide)) (g := (mkF m 1 #[.val (.ref a), .val (.int p1), .val (.int p2), .val (.int p3), .val (.int p4)] [(.ref a)])) rfl (by rw [hml]; rfl) (Steps.refl _) (a := a) (argsL := []) (rest := []) (lenOf pd_0 rfl) rfl (by show 2 * 0 + _ ≤ _; exact Nat.le_of_eq rfl) (hb hby d2_1) (fun _ _ => ⟨rfl, e0, (by decide : 0 + 0 ≤ _), (by decide : 0 + 0 ≤ _)⟩)
  dsimp only [Pt.U, Pt.locs, Pt.cells, Pt.slots] at X_1 l_1 y_1 z_1 st_1 hQ_1
  subst l_1 y_1 z_1
  obtain ⟨rfl, Nq_1, eq_1⟩ := hQ_1
  have N_1 := Fr.app N0 Nq_1
  obtain ⟨T_2, h_2, X_2, e_2, W_2, st_2⟩ := putF X_1 hx hZ hown (host := "") (Or.inl (hw _ (List.mem_of_getElem? (i := 17) rfl))) Via.refl eq_1 F_millis E_a (Or.inr ⟨(hw _ (List.mem_of_getElem? (i := 18) rfl)), rfl, hnm⟩) (hw _ (List.mem_of_getElem? (i := 5) rfl)) (ty := .int) (by decide) rfl rfl (g := (mkF m 20 #[.val (.ref a), .val (.int p1), .val (.int wh), .val (.int p3), .val (.int p4)] [(.int p1), (.ref a)])) rfl rfl (hb hby d2_20)
  have Fw_2 := F_millis.same W_2
  have K_2 : Keep h0 h_2 [a] := (Keep.refl h0 [a]).wr W_2 (Or.inl (List.mem_of_getElem? (i := 0) rfl))
  have N_2 := Fr.snoc X_2 N_1 g_a
  have Z_3 : n0 ≤ h_2.size := Nat.le_trans Z0 (Keep.of_wr W_2).1
  have f_4_E_a := (E_a.wr W_2)
  have f_5_F_a_whole := (F_whole.other W_2 (Or.inr (slot_ne (Or.inr (hw _ (List.mem_of_getElem? (i := 20) rfl))) (Or.inr (hw _ (List.mem_of_getElem? (i := 18) rfl))) (by decide) (t := .boolean) (t' := .int) (by decide) (by decide))))
  obtain ⟨T_6, h_6, X_6, e_6, W_6, st_6⟩ := putFN X_2 hx hZ hown (hw _ (List.mem_of_getElem? (i := 19) rfl)) Via.refl e_2 f_5_F_a_whole f_4_E_a (Or.inr ⟨(hw _ (List.mem_of_getElem? (i := 20) rfl)), rfl, hnm⟩) (hw _ (List.mem_of_getElem? (i := 5) rfl)) (ty := .boolean) (v' := (.int (nar .boolean wh))) (by decide) rfl (fits_nar_bool wh) (g := (mkF m 25 #[.val (.ref a), .val (.int p1), .val (.int wh), .val (.int p3), .val (.int p4)] [(.int wh), (.ref a)])) rfl rfl (hb hby d2_25)
  rw [hnw_] at W_6
  have Fw_6 := f_5_F_a_whole.same W_6
  have K_6 : Keep h0 h_6 [a] := K_2.wr W_6 (Or.inl (List.mem_of_getElem? (i := 0) rfl))
  have N_6 := Fr.snoc X_6 N_2 g_a
  have Z_7 : n0 ≤ h_6.size := Nat.le_trans Z_3 (Keep.of_wr W_6).1
  have f_8_E_a := (f_4_E_a.wr W_6)
  have f_9_F_a_givesBack := ((F_givesBack.other W_2 (Or.inr (slot_ne (Or.inr (hw _ (List.mem_of_getElem? (i := 22) rfl))) (Or.inr (hw _ (List.mem_of_getElem? (i := 18) rfl))) (by decide) (t := .boolean) (t' := .int) (by decide) (by decide)))).other W_6 (Or.inr (slot_ne (Or.inr (hw _ (List.mem_of_getElem? (i := 22) rfl))) (Or.inr (hw _ (List.mem_of_getElem? (i := 20) rfl))) (by decide) (t := .boolean) (t' := .boolean) (by decide) (by decide))))
  obtain ⟨T_10, h_10, X_10, e_10, W_10, st_10⟩ := putFN X_6 hx hZ hown (hw _ (List.mem_of_getElem? (i := 21) rfl)) Via.refl e_6 f_9_F_a_givesBack f_8_E_a (Or.inr ⟨(hw _ (List.mem_of_getElem? (i := 22) rfl)), rfl, hnm⟩) (hw _ (List.mem_of_getElem? (i := 5) rfl)) (ty := .boolean) (v' := (.int (nar .boolean p3))) (by decide) rfl (fits_nar_bool p3) (g := (mkF m 30 #[.val (.ref a), .val (.int p1), .val (.int wh), .val (.int p3), .val (.int p4)] [(.int p3), (.ref a)])) rfl rfl (hb hby d2_30)
  rw [hn3_] at W_10
  have Fw_10 := f_9_F_a_givesBack.same W_10
  have K_10 : Keep h0 h_10 [a] := K_6.wr W_10 (Or.inl (List.mem_of_getElem? (i := 0) rfl))
  have N_10 := Fr.snoc X_10 N_6 g_a
  have Z_11 : n0 ≤ h_10.size := Nat.le_trans Z_7 (Keep.of_wr W_10).1
  have f_12_E_a := (f_8_E_a.wr W_10)
  have f_13_F_a_onRows := (((F_onRows.other W_2 (Or.inr (slot_ne (Or.inr (hw _ (List.mem_of_getElem? (i := 24) rfl))) (Or.inr (hw _ (List.mem_of_getElem? (i := 18) rfl))) (by decide) (t := .boolean) (t' := .int) (by decide) (by decide)))).other W_6 (Or.inr (slot_ne (Or.inr (hw _ (List.mem_of_getElem? (i := 24) rfl))) (Or.inr (hw _ (List.mem_of_getElem? (i := 20) rfl))) (by decide) (t := .boolean) (t' := .boolean) (by decide) (by decide)))).other W_10 (Or.inr (slot_ne (Or.inr (hw _ (List.mem_of_getElem? (i := 24) rfl))) (Or.inr (hw _ (List.mem_of_getElem? (i := 22) rfl))) (by decide) (t := .boolean) (t' := .boolean) (by decide) (by decide))))
  obtain ⟨T_14, h_14, X_14, e_14, W_14, st_14⟩ := putFN X_10 hx hZ hown (hw _ (List.mem_of_getElem? (i := 23) rfl)) Via.refl e_10 f_13_F_a_onRows f_12_E_a (Or.inr ⟨(hw _ (List.mem_of_getElem? (i := 24) rfl)), rfl, hnm⟩) (hw _ (List.mem_of_getElem? (i := 5) rfl)) (ty := .boolean) (v' := (.int (nar .boolean p4))) (by decide) rfl (fits_nar_bool p4) (g := (mkF m 36 #[.val (.ref a), .val (.int p1), .val (.int wh), .val (.int p3), .val (.int p4)] [(.int p4), (.ref a)])) rfl rfl (hb hby d2_36)
  rw [hn4_] at W_14
  have Fw_14 := f_13_F_a_onRows.same W_14
  have K_14 : Keep h0 h_14 [a] := K_10.wr W_14 (Or.inl (List.mem_of_getElem? (i := 0) rfl))
  have N_14 := Fr.snoc X_14 N_10 g_a
  have Z_15 : n0 ≤ h_14.size := Nat.le_trans Z_11 (Keep.of_wr W_14).1
  have f_16_F_a_millis := (((Fw_2.other W_6 (Or.inr (slot_ne (Or.inr (hw _ (List.mem_of_getElem? (i := 18) rfl))) (Or.inr (hw _ (List.mem_of_getElem? (i := 20) rfl))) (by decide) (t := .int) (t' := .boolean) (by decide) (by decide)))).other W_10 (Or.inr (slot_ne (Or.inr (hw _ (List.mem_of_getElem? (i := 18) rfl))) (Or.inr (hw _ (List.mem_of_getElem? (i := 22) rfl))) (by decide) (t := .int) (t' := .boolean) (by decide) (by decide)))).other W_14 (Or.inr (slot_ne (Or.inr (hw _ (List.mem_of_getElem? (i := 18) rfl))) (Or.inr (hw _ (List.mem_of_getElem? (i := 24) rfl))) (by decide) (t := .int) (t' := .boolean) (by decide) (by decide))))
  have f_17_F_a_whole := ((Fw_6.other W_10 (Or.inr (slot_ne (Or.inr (hw _ (List.mem_of_getElem? (i := 20) rfl))) (Or.inr (hw _ (List.mem_of_getElem? (i := 22) rfl))) (by decide) (t := .boolean) (t' := .boolean) (by decide) (by decide)))).other W_14 (Or.inr (slot_ne (Or.inr (hw _ (List.mem_of_getElem? (i := 20) rfl))) (Or.inr (hw _ (List.mem_of_getElem? (i := 24) rfl))) (by decide) (t := .boolean) (t' := .boolean) (by decide) (by decide))))
  have f_18_F_a_givesBack := (Fw_10.other W_14 (Or.inr (slot_ne (Or.inr (hw _ (List.mem_of_getElem? (i := 22) rfl))) (Or.inr (hw _ (List.mem_of_getElem? (i := 24) rfl))) (by decide) (t := .boolean) (t' := .boolean) (by decide) (by decide))))
  obtain ⟨fs, hr, hrun, hended, hW, hsame⟩ := X_14.leave (v := none) (fun _ => rfl)
  refine ⟨_, _, pre0 _ ?_, hrun, hended, _, _, rfl, ?_, ⟨_, rfl⟩, hW, hsame.mono (by decide) (by decide)⟩
  · show Steps p.tables e below (s₁.setTop (mkF m 0 #[.val (.ref a), .val (.int p1), .val (.int p2), .val (.int p3), .val (.int p4)] [])) _
    refine XS.aloadN X0.here hx rfl (hb hby d2_0) rfl rfl ?_
    show Steps p.tables e below (s₁.setTop (mkF m 1 #[.val (.ref a), .val (.int p1), .val (.int p2), .val (.int p3), .val (.int p4)] [(.ref a)])) _
    refine st_1.trans ?_
    have jn4 : ∀ target, Steps p.tables e below (T_1.setTop (mkF m 17 #[.val (.ref a), .val (.int p1), .val (.int p2), .val (.int p3), .val (.int p4)] [(.int wh)])) target → Steps p.tables e below (T_1.setTop (mkF m 4 #[.val (.ref a), .val (.int p1), .val (.int p2), .val (.int p3), .val (.int p4)] [])) target := by
      intro target kt
      show Steps p.tables e below (T_1.setTop (mkF m 4 #[.val (.ref a), .val (.int p1), .val (.int p2), .val (.int p3), .val (.int p4)] [])) _
      refine XS.iloadN X_1.here hx rfl (hb hby d2_4) rfl ?_
      show Steps p.tables e below (T_1.setTop (mkF m 5 #[.val (.ref a), .val (.int p1), .val (.int p2), .val (.int p3), .val (.int p4)] [(.int p2)])) _
      by_cases hj5_0 : p2 = (0 : Int32)
      · refine XS.ifYes X_1.here hx rfl (pc0 := 5) (pc' := 16) rfl (hb hby d2_5) rfl ((if0 _ _).trans (teq hj5_0).1) (by decide) (by decide) ?_
        show Steps p.tables e below (T_1.setTop (mkF m 16 #[.val (.ref a), .val (.int p1), .val (.int p2), .val (.int p3), .val (.int p4)] [])) _
        refine XS.iconst X_1.here hx rfl (hb hby d2_16) ?_
        rw [← hwh_, if_pos hj5_0] at kt
        exact kt
      · refine XS.ifNo X_1.here hx rfl (hb hby d2_5) rfl ((if0 _ _).trans (feq hj5_0).1) ?_
        show Steps p.tables e below (T_1.setTop (mkF m 8 #[.val (.ref a), .val (.int p1), .val (.int p2), .val (.int p3), .val (.int p4)] [])) _
        refine XS.iloadN X_1.here hx rfl (hb hby d2_8) rfl ?_
        show Steps p.tables e below (T_1.setTop (mkF m 9 #[.val (.ref a), .val (.int p1), .val (.int p2), .val (.int p3), .val (.int p4)] [(.int p1)])) _
        by_cases hj9_1 : (0 : Int32) < p1
        · refine XS.ifNo X_1.here hx rfl (hb hby d2_9) rfl ((if0 _ _).trans (tlt hj9_1).2.2.2) ?_
          show Steps p.tables e below (T_1.setTop (mkF m 12 #[.val (.ref a), .val (.int p1), .val (.int p2), .val (.int p3), .val (.int p4)] [])) _
          refine XS.iconst X_1.here hx rfl (hb hby d2_12) ?_
          show Steps p.tables e below (T_1.setTop (mkF m 13 #[.val (.ref a), .val (.int p1), .val (.int p2), .val (.int p3), .val (.int p4)] [(.int (1 : Int32))])) _
          refine XS.goto X_1.here hx rfl (pc0 := 13) (pc' := 17) rfl (hb hby d2_13) (by decide) (by decide) ?_
          rw [← hwh_, if_neg hj5_0, if_pos hj9_1] at kt
          exact kt
        · refine XS.ifYes X_1.here hx rfl (pc0 := 9) (pc' := 16) rfl (hb hby d2_9) rfl ((if0 _ _).trans (flt hj9_1).2.2.2) (by decide) (by decide) ?_
          show Steps p.tables e below (T_1.setTop (mkF m 16 #[.val (.ref a), .val (.int p1), .val (.int p2), .val (.int p3), .val (.int p4)] [])) _
          refine XS.iconst X_1.here hx rfl (hb hby d2_16) ?_
          rw [← hwh_, if_neg hj5_0, if_neg hj9_1] at kt
          exact kt
    refine jn4 _ ?_
    show Steps p.tables e below (T_1.setTop (mkF m 17 #[.val (.ref a), .val (.int p1), .val (.int p2), .val (.int p3), .val (.int p4)] [(.int wh)])) _
    refine XS.istoreN X_1.here hx rfl (hb hby d2_17) rfl (l' := #[.val (.ref a), .val (.int p1), .val (.int wh), .val (.int p3), .val (.int p4)]) rfl ?_
    show Steps p.tables e below (T_1.setTop (mkF m 18 #[.val (.ref a), .val (.int p1), .val (.int wh), .val (.int p3), .val (.int p4)] [])) _
    refine XS.aloadN X_1.here hx rfl (hb hby d2_18) rfl rfl ?_
    show Steps p.tables e below (T_1.setTop (mkF m 19 #[.val (.ref a), .val (.int p1), .val (.int wh), .val (.int p3), .val (.int p4)] [(.ref a)])) _
    refine XS.iloadN X_1.here hx rfl (hb hby d2_19) rfl ?_
    show Steps p.tables e below (T_1.setTop (mkF m 20 #[.val (.ref a), .val (.int p1), .val (.int wh), .val (.int p3), .val (.int p4)] [(.int p1), (.ref a)])) _
    refine st_2 _ ?_
    show Steps p.tables e below (T_2.setTop (mkF m 23 #[.val (.ref a), .val (.int p1), .val (.int wh), .val (.int p3), .val (.int p4)] [])) _
    refine XS.aloadN X_2.here hx rfl (hb hby d2_23) rfl rfl ?_
    show Steps p.tables e below (T_2.setTop (mkF m 24 #[.val (.ref a), .val (.int p1), .val (.int wh), .val (.int p3), .val (.int p4)] [(.ref a)])) _
    refine XS.iloadN X_2.here hx rfl (hb hby d2_24) rfl ?_
    show Steps p.tables e below (T_2.setTop (mkF m 25 #[.val (.ref a), .val (.int p1), .val (.int wh), .val (.int p3), .val (.int p4)] [(.int wh), (.ref a)])) _
    refine st_6 _ ?_
    show Steps p.tables e below (T_6.setTop (mkF m 28 #[.val (.ref a), .val (.int p1), .val (.int wh), .val (.int p3), .val (.int p4)] [])) _
    refine XS.aloadN X_6.here hx rfl (hb hby d2_28) rfl rfl ?_
    show Steps p.tables e below (T_6.setTop (mkF m 29 #[.val (.ref a), .val (.int p1), .val (.int wh), .val (.int p3), .val (.int p4)] [(.ref a)])) _
    refine XS.iloadN X_6.here hx rfl (hb hby d2_29) rfl ?_
    show Steps p.tables e below (T_6.setTop (mkF m 30 #[.val (.ref a), .val (.int p1), .val (.int wh), .val (.int p3), .val (.int p4)] [(.int p3), (.ref a)])) _
    refine st_10 _ ?_
    show Steps p.tables e below (T_10.setTop (mkF m 33 #[.val (.ref a), .val (.int p1), .val (.int wh), .val (.int p3), .val (.int p4)] [])) _
    refine XS.aloadN X_10.here hx rfl (hb hby d2_33) rfl rfl ?_
    show Steps p.tables e below (T_10.setTop (mkF m 34 #[.val (.ref a), .val (.int p1), .val (.int wh), .val (.int p3), .val (.int p4)] [(.ref a)])) _
    refine XS.iload X_10.here hx rfl (hb hby d2_34) rfl ?_
    show Steps p.tables e below (T_10.setTop (mkF m 36 #[.val (.ref a), .val (.int p1), .val (.int wh), .val (.int p3), .val (.int p4)] [(.int p4), (.ref a)])) _
    refine st_14 _ ?_
    show Steps p.tables e below (T_14.setTop (mkF m 39 #[.val (.ref a), .val (.int p1), .val (.int wh), .val (.int p3), .val (.int p4)] [])) _
    exact X_14.returnOut hx Bd.returns (hb hby d2_39) hr
  · show Q2 Z a p1 p2 p3 p4 wh h0 n0 _ T_14.heap _
    rw [e_14]
    exact ⟨rfl, N_14, K_14, f_16_F_a_millis, f_17_F_a_whole, f_18_F_a_givesBack, Fw_14⟩
theorem d1_0 : decode prog_28_method_2_code 0 = .ok (.new 8, 3) := by decide +kernel
theorem d1_3 : decode prog_28_method_2_code 3 = .ok (.dup, 1) := by decide +kernel
theorem d1_4 : decode prog_28_method_2_code 4 = .ok (.iload_n 0, 1) := by decide +kernel
theorem d1_5 : decode prog_28_method_2_code 5 = .ok (.iconst 1, 1) := by decide +kernel
theorem d1_6 : decode prog_28_method_2_code 6 = .ok (.iload_n 1, 1) := by decide +kernel
theorem d1_7 : decode prog_28_method_2_code 7 = .ok (.iconst 1, 1) := by decide +kernel
theorem pd_1 : parseMethodDescriptor "(IZZZ)V" = some ⟨[.int, .boolean, .boolean, .boolean], none⟩ := by decide +kernel
theorem d1_8 : decode prog_28_method_2_code 8 = .ok (.invokespecial 23, 3) := by decide +kernel
theorem d1_11 : decode prog_28_method_2_code 11 = .ok (.areturn, 1) := by decide +kernel
def Q1 (Z : State) (p1 : Int32) (p2 : Int32) (b : Addr) (h0 : Heap) (n0 : Nat) (v : Option Value) (h : Heap) (L : List Loc) : Prop := v = some (.ref b) ∧ Fr n0 L ∧ Keep h0 h [] ∧ Exa Z h b "com/example/reserve_row/reserverow/StatementBound" ∧ Fld Z h b "com/example/reserve_row/reserverow/StatementBound" "millis" "I" (.int p1) ∧ Fld Z h b "com/example/reserve_row/reserverow/StatementBound" "whole" "Z" (.int (own_wh p1)) ∧ Fld Z h b "com/example/reserve_row/reserverow/StatementBound" "givesBack" "Z" (.int p2) ∧ Fld Z h b "com/example/reserve_row/reserverow/StatementBound" "onRows" "Z" (.int (1 : Int32))
theorem pn_1 : plainName "com/example/reserve_row/reserverow/StatementBound" = true := by first | (simp [plainName, overriddenIn]; done) | decide +kernel
theorem ef_1 (m : MethodId) (x0 : Int32) (x1 : Int32) : entryFrame m #[(.int x0), (.int x1)] 2 = mkF m 0 #[.val (.int x0), .val (.int x1)] [] := by first | (simp [entryFrame, mkF, argsToLocals, Value.category]; done) | rfl
set_option maxRecDepth 65536 in
set_option maxHeartbeats 40000000 in
theorem rm1 (l : Launch) (Z : State) (a0 : Array Value) (hw : ∀ d ∈ tables_1, d.before a0 Z = true) (ws : List Jvm.Cond) (p1 : Int32) (p2 : Int32) (b : Addr) (h0 : Heap) (n0 : Nat) (Z0 : n0 ≤ h0.size) (hb_ : b = h0.size) (hn2_ : nar .boolean p2 = p2) :
    MetFree l (⟨"com/example/reserve_row/reserverow/StatementBound", "asAWhole", "(IZ)Lcom/example/reserve_row/reserverow/StatementBound;"⟩ : MethodName) (head1 (Jvm.Cond.code (⟨"com/example/reserve_row/reserverow/StatementBound", "asAWhole", "(IZ)Lcom/example/reserve_row/reserverow/StatementBound;"⟩ : MethodName) prog_28_method_2_code 2 (some (.object "com/example/reserve_row/reserverow/StatementBound")) :: ws) ({ frames := 3, cells := 1, slots := 4, locals := 41 } : Room)) (fun as_ U => as_ = #[(.int p1), (.int p2)] ∧ Z.Warmed39 U.vm ∧ U.heap = h0) (fun _ _ _ _ _ => True) (fun _ U o U' => ∃ v L, o = .returned v ∧ Q1 Z p1 p2 b h0 n0 v U'.heap L ∧ FrameEnd U o U' L ({ frames := 3, cells := 1, slots := 4, locals := 41 } : Room).cells ({ frames := 3, cells := 1, slots := 4, locals := 41 } : Room).slots) := by
  refine MetFree.of_bodySF (plainFor_of_name pn_1) hisR ?_
  intro p e s m args below meth c s₁ Bd hml0 hP hK
  obtain ⟨rfl, hZ, hh⟩ := hP
  have hx := Bd.exec
  have hby := Bd.bytes
  have hml : c.maxLocals = 2 := hml0
  have hown : s.vm.findClass "com/example/reserve_row/reserverow/StatementBound" = some m.cls := findClass_of_methodNamed Bd.named
  have hnm := (name_of_methodNamed Bd.named Bd.method).1
  have X0 : Stand p l e ({ frames := 3, cells := 1, slots := 4, locals := 41 } : Room) s m #[(.int p1), (.int p2)] below meth c s₁ [] 0 0 := Stand.of_body Bd
  have e0 : s₁.heap = h0 := by rw [← hh, Bd.state]; rfl
  have N0 := Fr.nil n0
  have pre0 : ∀ t, Steps p.tables e below (s₁.setTop (mkF m 0 #[.val (.int p1), .val (.int p2)] [])) t → Steps p.tables e below (s₁.setTop (entryFrame m #[(.int p1), (.int p2)] 2)) t := fun t k => castTop (ef_1 m p1 p2) k
  obtain ⟨T_1, h_1, X_1, e_1, E_1, A_1, D_1, -, st_1⟩ := newO X0 hx hZ hown (hw _ (List.mem_of_getElem? (i := 4) rfl)) (hw _ (List.mem_of_getElem? (i := 5) rfl)) (hw _ (List.mem_of_getElem? (i := 2) rfl)) e0 (g := (mkF m 0 #[.val (.int p1), .val (.int p2)] [])) rfl (hb hby d1_0) (by decide) (by decide)
  have g_1 : b = h0.size := hb_
  rw [← g_1] at A_1 D_1 st_1
  have g_b : n0 ≤ b := Nat.le_trans Z0 (Nat.le_of_eq g_1.symm)
  have sz_b : h0.size ≤ b := Nat.le_trans (Keep.refl h0 []).1 (Nat.le_of_eq g_1.symm)
  have K_1 : Keep h0 h_1 [] := (Keep.refl h0 []).ext E_1
  have Z_2 : n0 ≤ h_1.size := Nat.le_trans Z0 E_1.1
  have F_millis_b : Fld Z h_1 b "com/example/reserve_row/reserverow/StatementBound" "millis" "I" (.int (0 : Int32)) := D_1 (Or.inr (hw _ (List.mem_of_getElem? (i := 18) rfl))) (ty := .int) (by decide)
  have F_whole_b : Fld Z h_1 b "com/example/reserve_row/reserverow/StatementBound" "whole" "Z" (.int (0 : Int32)) := D_1 (Or.inr (hw _ (List.mem_of_getElem? (i := 20) rfl))) (ty := .boolean) (by decide)
  have F_givesBack_b : Fld Z h_1 b "com/example/reserve_row/reserverow/StatementBound" "givesBack" "Z" (.int (0 : Int32)) := D_1 (Or.inr (hw _ (List.mem_of_getElem? (i := 22) rfl))) (ty := .boolean) (by decide)
  have F_onRows_b : Fld Z h_1 b "com/example/reserve_row/reserverow/StatementBound" "onRows" "Z" (.int (0 : Int32)) := D_1 (Or.inr (hw _ (List.mem_of_getElem? (i := 24) rfl))) (ty := .boolean) (by decide)
  obtain ⟨_, _, ⟨T_3, L_3, k_3, n_3⟩, -, X_3, ⟨Lc_3, hQ_3, l_3, y_3, z_3⟩, st_3⟩ := X_1.specialBack hx (y := (⟨"com/example/reserve_row/reserverow/StatementBound", "<init>", "(IZZZ)V"⟩ : MethodName)) rfl hown (mvT hZ (hw _ (List.mem_of_getElem? (i := 6) rfl))) (mvT hZ (hw _ (List.mem_of_getElem? (i := 7) rfl))) (mvT hZ (hw _ (List.mem_of_getElem? (i := 8) rfl))) (by decide) (backOf (W := 1) (rm2 l Z a0 hw [] b p1 (1 : Int32) p2 (1 : Int32) (own_wh p1) h_1 n0 Z_2 A_1 F_millis_b F_whole_b F_givesBack_b F_onRows_b g_b (if_neg (by decide)) (own_wh_nar _) hn2_ rfl) hZ (hw _ (List.mem_of_getElem? (i := 8) rfl)) (hw _ (List.mem_of_getElem? (i := 2) rfl)) (by decide) (by decide)) (g := (mkF m 8 #[.val (.int p1), .val (.int p2)] [(.int (1 : Int32)), (.int p2), (.int (1 : Int32)), (.int p1), (.ref b), (.ref b)])) rfl (by rw [hml]; rfl) (Steps.refl _) (a := b) (argsL := [(.int p1), (.int (1 : Int32)), (.int p2), (.int (1 : Int32))]) (rest := [(.ref b)]) (lenOf pd_1 rfl) rfl (by show 2 * 0 + _ ≤ _; exact Nat.le_of_eq rfl) (hb hby d1_8) (fun _ _ => ⟨rfl, e_1, (by decide : 1 + 0 ≤ _), (by decide : 4 + 0 ≤ _)⟩)
  dsimp only [Pt.U, Pt.locs, Pt.cells, Pt.slots] at X_3 l_3 y_3 z_3 st_3 hQ_3
  subst l_3 y_3 z_3
  obtain ⟨rfl, Nq_3, Kq_3, Fq_3_millis, Fq_3_whole, Fq_3_givesBack, Fq_3_onRows⟩ := hQ_3
  have N_3 := Fr.app N0 Nq_3
  have KK_3 : Keep h0 T_3.heap [] := K_1.trans Kq_3 (allS (Or.inr sz_b) all0)
  have Z_4 : n0 ≤ T_3.heap.size := Nat.le_trans Z_2 Kq_3.1
  have f_5_E_b := (A_1.keep Kq_3)
  obtain ⟨fs, hr, hrun, hended, hW, hsame⟩ := X_3.leave (v := some (.ref b)) (fun h => by rw [Bd.returns] at h; cases h)
  refine ⟨_, _, pre0 _ ?_, hrun, hended, _, _, rfl, ?_, ⟨_, rfl⟩, hW, hsame.mono (by decide) (by decide)⟩
  · show Steps p.tables e below (s₁.setTop (mkF m 0 #[.val (.int p1), .val (.int p2)] [])) _
    refine st_1 _ ?_
    show Steps p.tables e below (T_1.setTop (mkF m 3 #[.val (.int p1), .val (.int p2)] [(.ref b)])) _
    refine XS.dup X_1.here hx rfl (hb hby d1_3) rfl rfl ?_
    show Steps p.tables e below (T_1.setTop (mkF m 4 #[.val (.int p1), .val (.int p2)] [(.ref b), (.ref b)])) _
    refine XS.iloadN X_1.here hx rfl (hb hby d1_4) rfl ?_
    show Steps p.tables e below (T_1.setTop (mkF m 5 #[.val (.int p1), .val (.int p2)] [(.int p1), (.ref b), (.ref b)])) _
    refine XS.iconst X_1.here hx rfl (hb hby d1_5) ?_
    show Steps p.tables e below (T_1.setTop (mkF m 6 #[.val (.int p1), .val (.int p2)] [(.int (1 : Int32)), (.int p1), (.ref b), (.ref b)])) _
    refine XS.iloadN X_1.here hx rfl (hb hby d1_6) rfl ?_
    show Steps p.tables e below (T_1.setTop (mkF m 7 #[.val (.int p1), .val (.int p2)] [(.int p2), (.int (1 : Int32)), (.int p1), (.ref b), (.ref b)])) _
    refine XS.iconst X_1.here hx rfl (hb hby d1_7) ?_
    show Steps p.tables e below (T_1.setTop (mkF m 8 #[.val (.int p1), .val (.int p2)] [(.int (1 : Int32)), (.int p2), (.int (1 : Int32)), (.int p1), (.ref b), (.ref b)])) _
    refine st_3.trans ?_
    show Steps p.tables e below (T_3.setTop (mkF m 11 #[.val (.int p1), .val (.int p2)] [(.ref b)])) _
    jvm_step X_3.here [X_3.here.top, hx, (hb hby d1_11), X_3.method', Bd.returns, Value.isRef, FieldType.isReference]
    first | (intro acts; rw [hr _ acts rfl rfl rfl]) | rw [hr _ _ rfl rfl rfl]
    exact Steps.refl _
  · show Q1 Z p1 p2 b h0 n0 _ T_3.heap _
    exact ⟨rfl, N_3, KK_3, f_5_E_b, Fq_3_millis, Fq_3_whole, Fq_3_givesBack, Fq_3_onRows⟩
theorem d5_0 : decode prog_28_method_7_code 0 = .ok (.aload_n 0, 1) := by decide +kernel
theorem d5_1 : decode prog_28_method_7_code 1 = .ok (.getfield 7, 3) := by decide +kernel
theorem d5_4 : decode prog_28_method_7_code 4 = .ok (.ireturn, 1) := by decide +kernel
def Q5 (Z : State) (a : Addr) (x : Int32) (h0 : Heap) (n0 : Nat) (v : Option Value) (h : Heap) (L : List Loc) : Prop := v = some (.int x) ∧ Fr n0 L ∧ h = h0
theorem pn_5 : plainName "com/example/reserve_row/reserverow/StatementBound" = true := by first | (simp [plainName, overriddenIn]; done) | decide +kernel
theorem ef_5 (m : MethodId) (x0 : Addr) : entryFrame m #[(.ref x0)] 1 = mkF m 0 #[.val (.ref x0)] [] := by first | (simp [entryFrame, mkF, argsToLocals, Value.category]; done) | rfl
set_option maxRecDepth 65536 in
set_option maxHeartbeats 40000000 in
theorem rm5 (l : Launch) (Z : State) (a0 : Array Value) (hw : ∀ d ∈ tables_1, d.before a0 Z = true) (ws : List Jvm.Cond) (a : Addr) (x : Int32) (h0 : Heap) (n0 : Nat) (Z0 : n0 ≤ h0.size) (F_ : Fld Z h0 a "com/example/reserve_row/reserverow/StatementBound" "millis" "I" (.int x)) :
    MetFree l (⟨"com/example/reserve_row/reserverow/StatementBound", "millis", "()I"⟩ : MethodName) (head1 (Jvm.Cond.code (⟨"com/example/reserve_row/reserverow/StatementBound", "millis", "()I"⟩ : MethodName) prog_28_method_7_code 1 (some .int) :: ws) ({ frames := 0, cells := 0, slots := 0, locals := 0 } : Room)) (fun as_ U => as_ = #[(.ref a)] ∧ Z.Warmed39 U.vm ∧ U.heap = h0) (fun _ _ _ _ _ => True) (fun _ U o U' => ∃ v L, o = .returned v ∧ Q5 Z a x h0 n0 v U'.heap L ∧ FrameEnd U o U' L ({ frames := 0, cells := 0, slots := 0, locals := 0 } : Room).cells ({ frames := 0, cells := 0, slots := 0, locals := 0 } : Room).slots) := by
  refine MetFree.of_bodySF (plainFor_of_name pn_5) hisR ?_
  intro p e s m args below meth c s₁ Bd hml0 hP hK
  obtain ⟨rfl, hZ, hh⟩ := hP
  have hx := Bd.exec
  have hby := Bd.bytes
  have hml : c.maxLocals = 1 := hml0
  have hown : s.vm.findClass "com/example/reserve_row/reserverow/StatementBound" = some m.cls := findClass_of_methodNamed Bd.named
  have hnm := (name_of_methodNamed Bd.named Bd.method).1
  have X0 : Stand p l e ({ frames := 0, cells := 0, slots := 0, locals := 0 } : Room) s m #[(.ref a)] below meth c s₁ [] 0 0 := Stand.of_body Bd
  have e0 : s₁.heap = h0 := by rw [← hh, Bd.state]; rfl
  have N0 := Fr.nil n0
  have pre0 : ∀ t, Steps p.tables e below (s₁.setTop (mkF m 0 #[.val (.ref a)] [])) t → Steps p.tables e below (s₁.setTop (entryFrame m #[(.ref a)] 1)) t := fun t k => castTop (ef_5 m a) k
  obtain ⟨T_1, X_1, e_1, st_1⟩ := getF X0 hx hZ hown (host := "") (Or.inl (hw _ (List.mem_of_getElem? (i := 17) rfl))) Via.refl e0 F_ (g := (mkF m 1 #[.val (.ref a)] [(.ref a)])) rfl rfl (hb hby d5_1)
  obtain ⟨fs, hr, hrun, hended, hW, hsame⟩ := X_1.leave (v := some (.int x)) (fun h => by rw [Bd.returns] at h; cases h)
  refine ⟨_, _, pre0 _ ?_, hrun, hended, _, _, rfl, ?_, ⟨_, rfl⟩, hW, hsame.mono (by decide) (by decide)⟩
  · show Steps p.tables e below (s₁.setTop (mkF m 0 #[.val (.ref a)] [])) _
    refine XS.aloadN X0.here hx rfl (hb hby d5_0) rfl rfl ?_
    show Steps p.tables e below (s₁.setTop (mkF m 1 #[.val (.ref a)] [(.ref a)])) _
    refine st_1 _ ?_
    show Steps p.tables e below (T_1.setTop (mkF m 4 #[.val (.ref a)] [(.int x)])) _
    exact retI X_1 hx Bd.returns (hb hby d5_4) hr
  · show Q5 Z a x h0 n0 _ T_1.heap _
    rw [e_1]
    exact ⟨rfl, N0, rfl⟩
theorem d6_0 : decode prog_28_method_8_code 0 = .ok (.aload_n 0, 1) := by decide +kernel
theorem d6_1 : decode prog_28_method_8_code 1 = .ok (.getfield 13, 3) := by decide +kernel
theorem d6_4 : decode prog_28_method_8_code 4 = .ok (.ireturn, 1) := by decide +kernel
def Q6 (Z : State) (a : Addr) (x : Int32) (h0 : Heap) (n0 : Nat) (v : Option Value) (h : Heap) (L : List Loc) : Prop := v = some (.int x) ∧ Fr n0 L ∧ h = h0
theorem pn_6 : plainName "com/example/reserve_row/reserverow/StatementBound" = true := by first | (simp [plainName, overriddenIn]; done) | decide +kernel
theorem ef_6 (m : MethodId) (x0 : Addr) : entryFrame m #[(.ref x0)] 1 = mkF m 0 #[.val (.ref x0)] [] := by first | (simp [entryFrame, mkF, argsToLocals, Value.category]; done) | rfl
set_option maxRecDepth 65536 in
set_option maxHeartbeats 40000000 in
theorem rm6 (l : Launch) (Z : State) (a0 : Array Value) (hw : ∀ d ∈ tables_1, d.before a0 Z = true) (ws : List Jvm.Cond) (a : Addr) (x : Int32) (h0 : Heap) (n0 : Nat) (Z0 : n0 ≤ h0.size) (F_ : Fld Z h0 a "com/example/reserve_row/reserverow/StatementBound" "whole" "Z" (.int x)) (hn_ : nar .boolean x = x) :
    MetFree l (⟨"com/example/reserve_row/reserverow/StatementBound", "whole", "()Z"⟩ : MethodName) (head1 (Jvm.Cond.code (⟨"com/example/reserve_row/reserverow/StatementBound", "whole", "()Z"⟩ : MethodName) prog_28_method_8_code 1 (some .boolean) :: ws) ({ frames := 0, cells := 0, slots := 0, locals := 0 } : Room)) (fun as_ U => as_ = #[(.ref a)] ∧ Z.Warmed39 U.vm ∧ U.heap = h0) (fun _ _ _ _ _ => True) (fun _ U o U' => ∃ v L, o = .returned v ∧ Q6 Z a x h0 n0 v U'.heap L ∧ FrameEnd U o U' L ({ frames := 0, cells := 0, slots := 0, locals := 0 } : Room).cells ({ frames := 0, cells := 0, slots := 0, locals := 0 } : Room).slots) := by
  refine MetFree.of_bodySF (plainFor_of_name pn_6) hisR ?_
  intro p e s m args below meth c s₁ Bd hml0 hP hK
  obtain ⟨rfl, hZ, hh⟩ := hP
  have hx := Bd.exec
  have hby := Bd.bytes
  have hml : c.maxLocals = 1 := hml0
  have hown : s.vm.findClass "com/example/reserve_row/reserverow/StatementBound" = some m.cls := findClass_of_methodNamed Bd.named
  have hnm := (name_of_methodNamed Bd.named Bd.method).1
  have X0 : Stand p l e ({ frames := 0, cells := 0, slots := 0, locals := 0 } : Room) s m #[(.ref a)] below meth c s₁ [] 0 0 := Stand.of_body Bd
  have e0 : s₁.heap = h0 := by rw [← hh, Bd.state]; rfl
  have N0 := Fr.nil n0
  have pre0 : ∀ t, Steps p.tables e below (s₁.setTop (mkF m 0 #[.val (.ref a)] [])) t → Steps p.tables e below (s₁.setTop (entryFrame m #[(.ref a)] 1)) t := fun t k => castTop (ef_6 m a) k
  obtain ⟨T_1, X_1, e_1, st_1⟩ := getF X0 hx hZ hown (host := "") (Or.inl (hw _ (List.mem_of_getElem? (i := 19) rfl))) Via.refl e0 F_ (g := (mkF m 1 #[.val (.ref a)] [(.ref a)])) rfl rfl (hb hby d6_1)
  obtain ⟨fs, hr, hrun, hended, hW, hsame⟩ := X_1.leave (v := some (.int x)) (fun h => by rw [Bd.returns] at h; cases h)
  refine ⟨_, _, pre0 _ ?_, hrun, hended, _, _, rfl, ?_, ⟨_, rfl⟩, hW, hsame.mono (by decide) (by decide)⟩
  · show Steps p.tables e below (s₁.setTop (mkF m 0 #[.val (.ref a)] [])) _
    refine XS.aloadN X0.here hx rfl (hb hby d6_0) rfl rfl ?_
    show Steps p.tables e below (s₁.setTop (mkF m 1 #[.val (.ref a)] [(.ref a)])) _
    refine st_1 _ ?_
    show Steps p.tables e below (T_1.setTop (mkF m 4 #[.val (.ref a)] [(.int x)])) _
    exact retN X_1 hx (t := .boolean) Bd.returns (by simp) (hb hby d6_4) (by rw [hn_]; exact hr)
  · show Q6 Z a x h0 n0 _ T_1.heap _
    rw [e_1]
    exact ⟨rfl, N0, rfl⟩
theorem d7_0 : decode prog_28_method_9_code 0 = .ok (.aload_n 0, 1) := by decide +kernel
theorem d7_1 : decode prog_28_method_9_code 1 = .ok (.getfield 17, 3) := by decide +kernel
theorem d7_4 : decode prog_28_method_9_code 4 = .ok (.ireturn, 1) := by decide +kernel
def Q7 (Z : State) (a : Addr) (x : Int32) (h0 : Heap) (n0 : Nat) (v : Option Value) (h : Heap) (L : List Loc) : Prop := v = some (.int x) ∧ Fr n0 L ∧ h = h0
theorem pn_7 : plainName "com/example/reserve_row/reserverow/StatementBound" = true := by first | (simp [plainName, overriddenIn]; done) | decide +kernel
theorem ef_7 (m : MethodId) (x0 : Addr) : entryFrame m #[(.ref x0)] 1 = mkF m 0 #[.val (.ref x0)] [] := by first | (simp [entryFrame, mkF, argsToLocals, Value.category]; done) | rfl
set_option maxRecDepth 65536 in
set_option maxHeartbeats 40000000 in
theorem rm7 (l : Launch) (Z : State) (a0 : Array Value) (hw : ∀ d ∈ tables_1, d.before a0 Z = true) (ws : List Jvm.Cond) (a : Addr) (x : Int32) (h0 : Heap) (n0 : Nat) (Z0 : n0 ≤ h0.size) (F_ : Fld Z h0 a "com/example/reserve_row/reserverow/StatementBound" "givesBack" "Z" (.int x)) (hn_ : nar .boolean x = x) :
    MetFree l (⟨"com/example/reserve_row/reserverow/StatementBound", "givesBack", "()Z"⟩ : MethodName) (head1 (Jvm.Cond.code (⟨"com/example/reserve_row/reserverow/StatementBound", "givesBack", "()Z"⟩ : MethodName) prog_28_method_9_code 1 (some .boolean) :: ws) ({ frames := 0, cells := 0, slots := 0, locals := 0 } : Room)) (fun as_ U => as_ = #[(.ref a)] ∧ Z.Warmed39 U.vm ∧ U.heap = h0) (fun _ _ _ _ _ => True) (fun _ U o U' => ∃ v L, o = .returned v ∧ Q7 Z a x h0 n0 v U'.heap L ∧ FrameEnd U o U' L ({ frames := 0, cells := 0, slots := 0, locals := 0 } : Room).cells ({ frames := 0, cells := 0, slots := 0, locals := 0 } : Room).slots) := by
  refine MetFree.of_bodySF (plainFor_of_name pn_7) hisR ?_
  intro p e s m args below meth c s₁ Bd hml0 hP hK
  obtain ⟨rfl, hZ, hh⟩ := hP
  have hx := Bd.exec
  have hby := Bd.bytes
  have hml : c.maxLocals = 1 := hml0
  have hown : s.vm.findClass "com/example/reserve_row/reserverow/StatementBound" = some m.cls := findClass_of_methodNamed Bd.named
  have hnm := (name_of_methodNamed Bd.named Bd.method).1
  have X0 : Stand p l e ({ frames := 0, cells := 0, slots := 0, locals := 0 } : Room) s m #[(.ref a)] below meth c s₁ [] 0 0 := Stand.of_body Bd
  have e0 : s₁.heap = h0 := by rw [← hh, Bd.state]; rfl
  have N0 := Fr.nil n0
  have pre0 : ∀ t, Steps p.tables e below (s₁.setTop (mkF m 0 #[.val (.ref a)] [])) t → Steps p.tables e below (s₁.setTop (entryFrame m #[(.ref a)] 1)) t := fun t k => castTop (ef_7 m a) k
  obtain ⟨T_1, X_1, e_1, st_1⟩ := getF X0 hx hZ hown (host := "") (Or.inl (hw _ (List.mem_of_getElem? (i := 21) rfl))) Via.refl e0 F_ (g := (mkF m 1 #[.val (.ref a)] [(.ref a)])) rfl rfl (hb hby d7_1)
  obtain ⟨fs, hr, hrun, hended, hW, hsame⟩ := X_1.leave (v := some (.int x)) (fun h => by rw [Bd.returns] at h; cases h)
  refine ⟨_, _, pre0 _ ?_, hrun, hended, _, _, rfl, ?_, ⟨_, rfl⟩, hW, hsame.mono (by decide) (by decide)⟩
  · show Steps p.tables e below (s₁.setTop (mkF m 0 #[.val (.ref a)] [])) _
    refine XS.aloadN X0.here hx rfl (hb hby d7_0) rfl rfl ?_
    show Steps p.tables e below (s₁.setTop (mkF m 1 #[.val (.ref a)] [(.ref a)])) _
    refine st_1 _ ?_
    show Steps p.tables e below (T_1.setTop (mkF m 4 #[.val (.ref a)] [(.int x)])) _
    exact retN X_1 hx (t := .boolean) Bd.returns (by simp) (hb hby d7_4) (by rw [hn_]; exact hr)
  · show Q7 Z a x h0 n0 _ T_1.heap _
    rw [e_1]
    exact ⟨rfl, N0, rfl⟩
theorem d8_0 : decode prog_28_method_10_code 0 = .ok (.aload_n 0, 1) := by decide +kernel
theorem d8_1 : decode prog_28_method_10_code 1 = .ok (.getfield 20, 3) := by decide +kernel
theorem d8_4 : decode prog_28_method_10_code 4 = .ok (.ireturn, 1) := by decide +kernel
def Q8 (Z : State) (a : Addr) (x : Int32) (h0 : Heap) (n0 : Nat) (v : Option Value) (h : Heap) (L : List Loc) : Prop := v = some (.int x) ∧ Fr n0 L ∧ h = h0
theorem pn_8 : plainName "com/example/reserve_row/reserverow/StatementBound" = true := by first | (simp [plainName, overriddenIn]; done) | decide +kernel
theorem ef_8 (m : MethodId) (x0 : Addr) : entryFrame m #[(.ref x0)] 1 = mkF m 0 #[.val (.ref x0)] [] := by first | (simp [entryFrame, mkF, argsToLocals, Value.category]; done) | rfl
set_option maxRecDepth 65536 in
set_option maxHeartbeats 40000000 in
theorem rm8 (l : Launch) (Z : State) (a0 : Array Value) (hw : ∀ d ∈ tables_1, d.before a0 Z = true) (ws : List Jvm.Cond) (a : Addr) (x : Int32) (h0 : Heap) (n0 : Nat) (Z0 : n0 ≤ h0.size) (F_ : Fld Z h0 a "com/example/reserve_row/reserverow/StatementBound" "onRows" "Z" (.int x)) (hn_ : nar .boolean x = x) :
    MetFree l (⟨"com/example/reserve_row/reserverow/StatementBound", "onRows", "()Z"⟩ : MethodName) (head1 (Jvm.Cond.code (⟨"com/example/reserve_row/reserverow/StatementBound", "onRows", "()Z"⟩ : MethodName) prog_28_method_10_code 1 (some .boolean) :: ws) ({ frames := 0, cells := 0, slots := 0, locals := 0 } : Room)) (fun as_ U => as_ = #[(.ref a)] ∧ Z.Warmed39 U.vm ∧ U.heap = h0) (fun _ _ _ _ _ => True) (fun _ U o U' => ∃ v L, o = .returned v ∧ Q8 Z a x h0 n0 v U'.heap L ∧ FrameEnd U o U' L ({ frames := 0, cells := 0, slots := 0, locals := 0 } : Room).cells ({ frames := 0, cells := 0, slots := 0, locals := 0 } : Room).slots) := by
  refine MetFree.of_bodySF (plainFor_of_name pn_8) hisR ?_
  intro p e s m args below meth c s₁ Bd hml0 hP hK
  obtain ⟨rfl, hZ, hh⟩ := hP
  have hx := Bd.exec
  have hby := Bd.bytes
  have hml : c.maxLocals = 1 := hml0
  have hown : s.vm.findClass "com/example/reserve_row/reserverow/StatementBound" = some m.cls := findClass_of_methodNamed Bd.named
  have hnm := (name_of_methodNamed Bd.named Bd.method).1
  have X0 : Stand p l e ({ frames := 0, cells := 0, slots := 0, locals := 0 } : Room) s m #[(.ref a)] below meth c s₁ [] 0 0 := Stand.of_body Bd
  have e0 : s₁.heap = h0 := by rw [← hh, Bd.state]; rfl
  have N0 := Fr.nil n0
  have pre0 : ∀ t, Steps p.tables e below (s₁.setTop (mkF m 0 #[.val (.ref a)] [])) t → Steps p.tables e below (s₁.setTop (entryFrame m #[(.ref a)] 1)) t := fun t k => castTop (ef_8 m a) k
  obtain ⟨T_1, X_1, e_1, st_1⟩ := getF X0 hx hZ hown (host := "") (Or.inl (hw _ (List.mem_of_getElem? (i := 23) rfl))) Via.refl e0 F_ (g := (mkF m 1 #[.val (.ref a)] [(.ref a)])) rfl rfl (hb hby d8_1)
  obtain ⟨fs, hr, hrun, hended, hW, hsame⟩ := X_1.leave (v := some (.int x)) (fun h => by rw [Bd.returns] at h; cases h)
  refine ⟨_, _, pre0 _ ?_, hrun, hended, _, _, rfl, ?_, ⟨_, rfl⟩, hW, hsame.mono (by decide) (by decide)⟩
  · show Steps p.tables e below (s₁.setTop (mkF m 0 #[.val (.ref a)] [])) _
    refine XS.aloadN X0.here hx rfl (hb hby d8_0) rfl rfl ?_
    show Steps p.tables e below (s₁.setTop (mkF m 1 #[.val (.ref a)] [(.ref a)])) _
    refine st_1 _ ?_
    show Steps p.tables e below (T_1.setTop (mkF m 4 #[.val (.ref a)] [(.int x)])) _
    exact retN X_1 hx (t := .boolean) Bd.returns (by simp) (hb hby d8_4) (by rw [hn_]; exact hr)
  · show Q8 Z a x h0 n0 _ T_1.heap _
    rw [e_1]
    exact ⟨rfl, N0, rfl⟩
theorem pd_2 : parseMethodDescriptor "(IZ)Lcom/example/reserve_row/reserverow/StatementBound;" = some ⟨[.int, .boolean], some (.object "com/example/reserve_row/reserverow/StatementBound")⟩ := by decide +kernel
theorem pd_3 : parseMethodDescriptor "()I" = some ⟨[], some .int⟩ := by decide +kernel
theorem pd_4 : parseMethodDescriptor "()Z" = some ⟨[], some .boolean⟩ := by decide +kernel
def Q0 (Z : State)  (h0 : Heap) (n0 : Nat) (v : Option Value) (h : Heap) (L : List Loc) : Prop := v = some (.int 1) ∧ Fr n0 L
theorem pn_0 : plainName "com/example/reserve_row/reserverow/StatementBoundAsAWholePinLaw" = true := by first | (simp [plainName, overriddenIn]; done) | decide +kernel
theorem ef_0 (m : MethodId) (x0 : Int32) (x1 : Int32) : entryFrame m #[(.int x0), (.int x1)] maxLocals = mkF m 0 #[.val (.int x0), .val (.int x1), .unset, .unset, .unset] [] := by first | (simp [entryFrame, mkF, argsToLocals, Value.category, maxLocals]; done) | rfl
set_option maxRecDepth 65536 in
set_option maxHeartbeats 40000000 in
theorem rm0 (l : Launch) (Z : State) (a0 : Array Value) (hw : ∀ d ∈ tables_1, d.before a0 Z = true) (ws : List Jvm.Cond) (p0 : Int32) (p1 : Int32) (gb : Int32) (ew : Int32) (h0 : Heap) (n0 : Nat) (Z0 : n0 ≤ h0.size) (hngb_ : nar .boolean gb = gb) (hgb_ : (if (p1 &&& (1 : Int32)) = (0 : Int32) then (0 : Int32) else (1 : Int32)) = gb) (hew_ : (if (0 : Int32) < p0 then (1 : Int32) else (0 : Int32)) = ew) (hc43 : (own_wh p0) = ew) :
    MetFree l x (head1 (Jvm.Cond.code x code maxLocals ret :: ws) room_1) (fun as_ U => as_ = #[(.int p0), (.int p1)] ∧ Z.Warmed39 U.vm ∧ U.heap = h0) (fun _ _ _ _ _ => True) (fun _ U o U' => ∃ v L, o = .returned v ∧ Q0 Z  h0 n0 v U'.heap L ∧ FrameEnd U o U' L 1 4) := by
  refine MetFree.of_bodySF (plainFor_of_name pn_0) hisR ?_
  intro p e s m args below meth c s₁ Bd hml0 hP hK
  obtain ⟨rfl, hZ, hh⟩ := hP
  have hx := Bd.exec
  have hby := Bd.bytes
  have hml : c.maxLocals = 5 := hml0
  have hown : s.vm.findClass "com/example/reserve_row/reserverow/StatementBoundAsAWholePinLaw" = some m.cls := findClass_of_methodNamed Bd.named
  have hnm := (name_of_methodNamed Bd.named Bd.method).1
  have X0 : Stand p l e room_1 s m #[(.int p0), (.int p1)] below meth c s₁ [] 0 0 := Stand.of_body Bd
  have e0 : s₁.heap = h0 := by rw [← hh, Bd.state]; rfl
  have N0 := Fr.nil n0
  have pre0 : ∀ t, Steps p.tables e below (s₁.setTop (mkF m 0 #[.val (.int p0), .val (.int p1), .unset, .unset, .unset] [])) t → Steps p.tables e below (s₁.setTop (entryFrame m #[(.int p0), (.int p1)] maxLocals)) t := fun t k => castTop (ef_0 m p0 p1) k
  obtain ⟨b_1, g_1⟩ : ∃ z, z = h0.size := ⟨_, rfl⟩
  have g_b_1 : n0 ≤ b_1 := Nat.le_trans Z0 (Nat.le_of_eq g_1.symm)
  have sz_b_1 : h0.size ≤ b_1 := Nat.le_trans (Keep.refl h0 []).1 (Nat.le_of_eq g_1.symm)
  obtain ⟨_, _, ⟨T_1, L_1, k_1, n_1⟩, -, X_1, ⟨Lc_1, hQ_1, l_1, y_1, z_1⟩, st_1⟩ := Jvm.LawKit.callS X0 hx (y := (⟨"com/example/reserve_row/reserverow/StatementBound", "asAWhole", "(IZ)Lcom/example/reserve_row/reserverow/StatementBound;"⟩ : MethodName)) hown (mvT hZ (hw _ (List.mem_of_getElem? (i := 0) rfl))) (mvT hZ (hw _ (List.mem_of_getElem? (i := 1) rfl))) (mvT hZ (hw _ (List.mem_of_getElem? (i := 2) rfl))) (mvT hZ (hw _ (List.mem_of_getElem? (i := 3) rfl))) (by decide) (backOf (W := 0) (rm1 l Z a0 hw [] p0 gb b_1 h0 n0 Z0 g_1 hngb_) hZ (hw _ (List.mem_of_getElem? (i := 3) rfl)) (hw _ (List.mem_of_getElem? (i := 2) rfl)) (by decide) (by decide)) (g := (mkF m 14 #[.val (.int p0), .val (.int p1), .val (.int gb), .unset, .unset] [(.int gb), (.int p0)])) rfl (by rw [hml]; rfl) (argsL := [(.int p0), (.int gb)]) (rest := []) (lenOf pd_2 rfl) rfl (by show 2 * 0 + _ ≤ _; exact Nat.le_of_eq rfl) (hb hby at_14) (fun _ _ => ⟨rfl, e0, (by decide : 0 + 1 ≤ _), (by decide : 0 + 4 ≤ _)⟩)
  dsimp only [Pt.U, Pt.locs, Pt.cells, Pt.slots] at X_1 l_1 y_1 z_1 st_1 hQ_1
  subst l_1 y_1 z_1
  obtain ⟨rfl, Nq_1, Kq_1, Eq_1, Fq_1_millis, Fq_1_whole, Fq_1_givesBack, Fq_1_onRows⟩ := hQ_1
  have N_1 := Fr.app N0 Nq_1
  have KK_1 : Keep h0 T_1.heap [] := (Keep.refl h0 []).trans Kq_1 all0
  have Z_2 : n0 ≤ T_1.heap.size := Nat.le_trans Z0 Kq_1.1
  obtain ⟨cq_3, kq_3, q_3a, q_3b, q_3c⟩ := isOf hZ rfl Eq_1
  obtain ⟨_, _, ⟨T_3, L_3, k_3, n_3⟩, -, X_3, ⟨Lc_3, hQ_3, l_3, y_3, z_3⟩, st_3⟩ := X_1.virtualBack hx (y := (⟨"com/example/reserve_row/reserverow/StatementBound", "millis", "()I"⟩ : MethodName)) (z := (⟨"com/example/reserve_row/reserverow/StatementBound", "millis", "()I"⟩ : MethodName)) hown (mvT hZ (hw _ (List.mem_of_getElem? (i := 25) rfl))) (mvT hZ (hw _ (List.mem_of_getElem? (i := 26) rfl))) (notFace_of_selects (args := #[]) (mvT hZ (hw _ (List.mem_of_getElem? (i := 28) rfl)))) (mvT hZ (hw _ (List.mem_of_getElem? (i := 28) rfl))) (mvT hZ (hw _ (List.mem_of_getElem? (i := 27) rfl))) (by decide) (backOf (W := 0) (rm5 l Z a0 hw [] b_1 p0 T_1.heap n0 Z_2 Fq_1_millis) hZ (hw _ (List.mem_of_getElem? (i := 29) rfl)) (hw _ (List.mem_of_getElem? (i := 2) rfl)) (by decide) (by decide)) q_3a q_3c (g := (mkF m 30 #[.val (.int p0), .val (.int p1), .val (.int gb), .val (.ref b_1), .val (.int ew)] [(.ref b_1)])) rfl (by rw [hml]; rfl) (Steps.refl _) (argsL := []) (rest := []) (lenOf pd_3 rfl) rfl (by show 2 * 0 + _ ≤ _; exact Nat.le_of_eq rfl) (hb hby at_30) (fun _ _ => ⟨rfl, rfl, (by decide : 1 + 0 ≤ _), (by decide : 4 + 0 ≤ _)⟩)
  dsimp only [Pt.U, Pt.locs, Pt.cells, Pt.slots] at X_3 l_3 y_3 z_3 st_3 hQ_3
  subst l_3 y_3 z_3
  obtain ⟨rfl, Nq_3, eq_3⟩ := hQ_3
  have N_3 := Fr.app N_1 Nq_3
  obtain ⟨cq_4, kq_4, q_4a, q_4b, q_4c⟩ := isOf hZ eq_3 Eq_1
  obtain ⟨_, _, ⟨T_4, L_4, k_4, n_4⟩, -, X_4, ⟨Lc_4, hQ_4, l_4, y_4, z_4⟩, st_4⟩ := X_3.virtualBack hx (y := (⟨"com/example/reserve_row/reserverow/StatementBound", "whole", "()Z"⟩ : MethodName)) (z := (⟨"com/example/reserve_row/reserverow/StatementBound", "whole", "()Z"⟩ : MethodName)) hown (mvT hZ (hw _ (List.mem_of_getElem? (i := 30) rfl))) (mvT hZ (hw _ (List.mem_of_getElem? (i := 31) rfl))) (notFace_of_selects (args := #[]) (mvT hZ (hw _ (List.mem_of_getElem? (i := 33) rfl)))) (mvT hZ (hw _ (List.mem_of_getElem? (i := 33) rfl))) (mvT hZ (hw _ (List.mem_of_getElem? (i := 32) rfl))) (by decide) (backOf (W := 0) (rm6 l Z a0 hw [] b_1 (own_wh p0) T_1.heap n0 Z_2 Fq_1_whole (own_wh_nar _)) hZ (hw _ (List.mem_of_getElem? (i := 34) rfl)) (hw _ (List.mem_of_getElem? (i := 2) rfl)) (by decide) (by decide)) q_4a q_4c (g := (mkF m 38 #[.val (.int p0), .val (.int p1), .val (.int gb), .val (.ref b_1), .val (.int ew)] [(.ref b_1)])) rfl (by rw [hml]; rfl) (Steps.refl _) (argsL := []) (rest := []) (lenOf pd_4 rfl) rfl (by show 2 * 0 + _ ≤ _; exact Nat.le_of_eq rfl) (hb hby at_38) (fun _ _ => ⟨rfl, eq_3, (by decide : 1 + 0 ≤ _), (by decide : 4 + 0 ≤ _)⟩)
  dsimp only [Pt.U, Pt.locs, Pt.cells, Pt.slots] at X_4 l_4 y_4 z_4 st_4 hQ_4
  subst l_4 y_4 z_4
  obtain ⟨rfl, Nq_4, eq_4⟩ := hQ_4
  have N_4 := Fr.app N_3 Nq_4
  obtain ⟨cq_5, kq_5, q_5a, q_5b, q_5c⟩ := isOf hZ eq_4 Eq_1
  obtain ⟨_, _, ⟨T_5, L_5, k_5, n_5⟩, -, X_5, ⟨Lc_5, hQ_5, l_5, y_5, z_5⟩, st_5⟩ := X_4.virtualBack hx (y := (⟨"com/example/reserve_row/reserverow/StatementBound", "givesBack", "()Z"⟩ : MethodName)) (z := (⟨"com/example/reserve_row/reserverow/StatementBound", "givesBack", "()Z"⟩ : MethodName)) hown (mvT hZ (hw _ (List.mem_of_getElem? (i := 35) rfl))) (mvT hZ (hw _ (List.mem_of_getElem? (i := 36) rfl))) (notFace_of_selects (args := #[]) (mvT hZ (hw _ (List.mem_of_getElem? (i := 38) rfl)))) (mvT hZ (hw _ (List.mem_of_getElem? (i := 38) rfl))) (mvT hZ (hw _ (List.mem_of_getElem? (i := 37) rfl))) (by decide) (backOf (W := 0) (rm7 l Z a0 hw [] b_1 gb T_1.heap n0 Z_2 Fq_1_givesBack hngb_) hZ (hw _ (List.mem_of_getElem? (i := 39) rfl)) (hw _ (List.mem_of_getElem? (i := 2) rfl)) (by decide) (by decide)) q_5a q_5c (g := (mkF m 47 #[.val (.int p0), .val (.int p1), .val (.int gb), .val (.ref b_1), .val (.int ew)] [(.ref b_1)])) rfl (by rw [hml]; rfl) (Steps.refl _) (argsL := []) (rest := []) (lenOf pd_4 rfl) rfl (by show 2 * 0 + _ ≤ _; exact Nat.le_of_eq rfl) (hb hby at_47) (fun _ _ => ⟨rfl, eq_4, (by decide : 1 + 0 ≤ _), (by decide : 4 + 0 ≤ _)⟩)
  dsimp only [Pt.U, Pt.locs, Pt.cells, Pt.slots] at X_5 l_5 y_5 z_5 st_5 hQ_5
  subst l_5 y_5 z_5
  obtain ⟨rfl, Nq_5, eq_5⟩ := hQ_5
  have N_5 := Fr.app N_4 Nq_5
  obtain ⟨cq_6, kq_6, q_6a, q_6b, q_6c⟩ := isOf hZ eq_5 Eq_1
  obtain ⟨_, _, ⟨T_6, L_6, k_6, n_6⟩, -, X_6, ⟨Lc_6, hQ_6, l_6, y_6, z_6⟩, st_6⟩ := X_5.virtualBack hx (y := (⟨"com/example/reserve_row/reserverow/StatementBound", "onRows", "()Z"⟩ : MethodName)) (z := (⟨"com/example/reserve_row/reserverow/StatementBound", "onRows", "()Z"⟩ : MethodName)) hown (mvT hZ (hw _ (List.mem_of_getElem? (i := 40) rfl))) (mvT hZ (hw _ (List.mem_of_getElem? (i := 41) rfl))) (notFace_of_selects (args := #[]) (mvT hZ (hw _ (List.mem_of_getElem? (i := 43) rfl)))) (mvT hZ (hw _ (List.mem_of_getElem? (i := 43) rfl))) (mvT hZ (hw _ (List.mem_of_getElem? (i := 42) rfl))) (by decide) (backOf (W := 0) (rm8 l Z a0 hw [] b_1 (1 : Int32) T_1.heap n0 Z_2 Fq_1_onRows rfl) hZ (hw _ (List.mem_of_getElem? (i := 44) rfl)) (hw _ (List.mem_of_getElem? (i := 2) rfl)) (by decide) (by decide)) q_6a q_6c (g := (mkF m 55 #[.val (.int p0), .val (.int p1), .val (.int gb), .val (.ref b_1), .val (.int ew)] [(.ref b_1)])) rfl (by rw [hml]; rfl) (Steps.refl _) (argsL := []) (rest := []) (lenOf pd_4 rfl) rfl (by show 2 * 0 + _ ≤ _; exact Nat.le_of_eq rfl) (hb hby at_55) (fun _ _ => ⟨rfl, eq_5, (by decide : 1 + 0 ≤ _), (by decide : 4 + 0 ≤ _)⟩)
  dsimp only [Pt.U, Pt.locs, Pt.cells, Pt.slots] at X_6 l_6 y_6 z_6 st_6 hQ_6
  subst l_6 y_6 z_6
  obtain ⟨rfl, Nq_6, eq_6⟩ := hQ_6
  have N_6 := Fr.app N_5 Nq_6
  obtain ⟨fs, hr, hrun, hended, hW, hsame⟩ := X_6.leave (v := some (.int (1 : Int32))) (fun h => by rw [Bd.returns] at h; cases h)
  refine ⟨_, _, pre0 _ ?_, hrun, hended, _, _, rfl, ?_, ⟨_, rfl⟩, hW, hsame.mono (by decide) (by decide)⟩
  · have jn0 : ∀ target, Steps p.tables e below (s₁.setTop (mkF m 11 #[.val (.int p0), .val (.int p1), .unset, .unset, .unset] [(.int gb)])) target → Steps p.tables e below (s₁.setTop (mkF m 0 #[.val (.int p0), .val (.int p1), .unset, .unset, .unset] [])) target := by
      intro target kt
      show Steps p.tables e below (s₁.setTop (mkF m 0 #[.val (.int p0), .val (.int p1), .unset, .unset, .unset] [])) _
      refine XS.iloadN X0.here hx rfl (hb hby at_0) rfl ?_
      show Steps p.tables e below (s₁.setTop (mkF m 1 #[.val (.int p0), .val (.int p1), .unset, .unset, .unset] [(.int p1)])) _
      refine XS.iconst X0.here hx rfl (hb hby at_1) ?_
      show Steps p.tables e below (s₁.setTop (mkF m 2 #[.val (.int p0), .val (.int p1), .unset, .unset, .unset] [(.int (1 : Int32)), (.int p1)])) _
      refine XS.iand X0.here hx rfl (hb hby at_2) rfl ?_
      show Steps p.tables e below (s₁.setTop (mkF m 3 #[.val (.int p0), .val (.int p1), .unset, .unset, .unset] [(.int (p1 &&& (1 : Int32)))])) _
      by_cases hj3_0 : (p1 &&& (1 : Int32)) = (0 : Int32)
      · refine XS.ifYes X0.here hx rfl (pc0 := 3) (pc' := 10) rfl (hb hby at_3) rfl ((if0 _ _).trans (teq hj3_0).1) (by decide) (by decide) ?_
        show Steps p.tables e below (s₁.setTop (mkF m 10 #[.val (.int p0), .val (.int p1), .unset, .unset, .unset] [])) _
        refine XS.iconst X0.here hx rfl (hb hby at_10) ?_
        rw [← hgb_, if_pos hj3_0] at kt
        exact kt
      · refine XS.ifNo X0.here hx rfl (hb hby at_3) rfl ((if0 _ _).trans (feq hj3_0).1) ?_
        show Steps p.tables e below (s₁.setTop (mkF m 6 #[.val (.int p0), .val (.int p1), .unset, .unset, .unset] [])) _
        refine XS.iconst X0.here hx rfl (hb hby at_6) ?_
        show Steps p.tables e below (s₁.setTop (mkF m 7 #[.val (.int p0), .val (.int p1), .unset, .unset, .unset] [(.int (1 : Int32))])) _
        refine XS.goto X0.here hx rfl (pc0 := 7) (pc' := 11) rfl (hb hby at_7) (by decide) (by decide) ?_
        rw [← hgb_, if_neg hj3_0] at kt
        exact kt
    refine jn0 _ ?_
    show Steps p.tables e below (s₁.setTop (mkF m 11 #[.val (.int p0), .val (.int p1), .unset, .unset, .unset] [(.int gb)])) _
    refine XS.istoreN X0.here hx rfl (hb hby at_11) rfl (l' := #[.val (.int p0), .val (.int p1), .val (.int gb), .unset, .unset]) rfl ?_
    show Steps p.tables e below (s₁.setTop (mkF m 12 #[.val (.int p0), .val (.int p1), .val (.int gb), .unset, .unset] [])) _
    refine XS.iloadN X0.here hx rfl (hb hby at_12) rfl ?_
    show Steps p.tables e below (s₁.setTop (mkF m 13 #[.val (.int p0), .val (.int p1), .val (.int gb), .unset, .unset] [(.int p0)])) _
    refine XS.iloadN X0.here hx rfl (hb hby at_13) rfl ?_
    show Steps p.tables e below (s₁.setTop (mkF m 14 #[.val (.int p0), .val (.int p1), .val (.int gb), .unset, .unset] [(.int gb), (.int p0)])) _
    refine st_1 _ ?_
    show Steps p.tables e below (T_1.setTop (mkF m 17 #[.val (.int p0), .val (.int p1), .val (.int gb), .unset, .unset] [(.ref b_1)])) _
    refine XS.astoreN X_1.here hx rfl (hb hby at_17) rfl rfl (l' := #[.val (.int p0), .val (.int p1), .val (.int gb), .val (.ref b_1), .unset]) rfl ?_
    show Steps p.tables e below (T_1.setTop (mkF m 18 #[.val (.int p0), .val (.int p1), .val (.int gb), .val (.ref b_1), .unset] [])) _
    refine XS.iloadN X_1.here hx rfl (hb hby at_18) rfl ?_
    have jn19 : ∀ target, Steps p.tables e below (T_1.setTop (mkF m 27 #[.val (.int p0), .val (.int p1), .val (.int gb), .val (.ref b_1), .unset] [(.int ew)])) target → Steps p.tables e below (T_1.setTop (mkF m 19 #[.val (.int p0), .val (.int p1), .val (.int gb), .val (.ref b_1), .unset] [(.int p0)])) target := by
      intro target kt
      show Steps p.tables e below (T_1.setTop (mkF m 19 #[.val (.int p0), .val (.int p1), .val (.int gb), .val (.ref b_1), .unset] [(.int p0)])) _
      by_cases hj19_0 : (0 : Int32) < p0
      · refine XS.ifNo X_1.here hx rfl (hb hby at_19) rfl ((if0 _ _).trans (tlt hj19_0).2.2.2) ?_
        show Steps p.tables e below (T_1.setTop (mkF m 22 #[.val (.int p0), .val (.int p1), .val (.int gb), .val (.ref b_1), .unset] [])) _
        refine XS.iconst X_1.here hx rfl (hb hby at_22) ?_
        show Steps p.tables e below (T_1.setTop (mkF m 23 #[.val (.int p0), .val (.int p1), .val (.int gb), .val (.ref b_1), .unset] [(.int (1 : Int32))])) _
        refine XS.goto X_1.here hx rfl (pc0 := 23) (pc' := 27) rfl (hb hby at_23) (by decide) (by decide) ?_
        rw [← hew_, if_pos hj19_0] at kt
        exact kt
      · refine XS.ifYes X_1.here hx rfl (pc0 := 19) (pc' := 26) rfl (hb hby at_19) rfl ((if0 _ _).trans (flt hj19_0).2.2.2) (by decide) (by decide) ?_
        show Steps p.tables e below (T_1.setTop (mkF m 26 #[.val (.int p0), .val (.int p1), .val (.int gb), .val (.ref b_1), .unset] [])) _
        refine XS.iconst X_1.here hx rfl (hb hby at_26) ?_
        rw [← hew_, if_neg hj19_0] at kt
        exact kt
    refine jn19 _ ?_
    show Steps p.tables e below (T_1.setTop (mkF m 27 #[.val (.int p0), .val (.int p1), .val (.int gb), .val (.ref b_1), .unset] [(.int ew)])) _
    refine XS.istore X_1.here hx rfl (hb hby at_27) rfl (l' := #[.val (.int p0), .val (.int p1), .val (.int gb), .val (.ref b_1), .val (.int ew)]) rfl ?_
    show Steps p.tables e below (T_1.setTop (mkF m 29 #[.val (.int p0), .val (.int p1), .val (.int gb), .val (.ref b_1), .val (.int ew)] [])) _
    refine XS.aloadN X_1.here hx rfl (hb hby at_29) rfl rfl ?_
    show Steps p.tables e below (T_1.setTop (mkF m 30 #[.val (.int p0), .val (.int p1), .val (.int gb), .val (.ref b_1), .val (.int ew)] [(.ref b_1)])) _
    refine st_3.trans ?_
    show Steps p.tables e below (T_3.setTop (mkF m 33 #[.val (.int p0), .val (.int p1), .val (.int gb), .val (.ref b_1), .val (.int ew)] [(.int p0)])) _
    refine XS.iloadN X_3.here hx rfl (hb hby at_33) rfl ?_
    show Steps p.tables e below (T_3.setTop (mkF m 34 #[.val (.int p0), .val (.int p1), .val (.int gb), .val (.ref b_1), .val (.int ew)] [(.int p0), (.int p0)])) _
    refine XS.icmpNo X_3.here hx rfl (hb hby at_34) rfl (teq (rfl : p0 = p0)).2 ?_
    show Steps p.tables e below (T_3.setTop (mkF m 37 #[.val (.int p0), .val (.int p1), .val (.int gb), .val (.ref b_1), .val (.int ew)] [])) _
    refine XS.aloadN X_3.here hx rfl (hb hby at_37) rfl rfl ?_
    show Steps p.tables e below (T_3.setTop (mkF m 38 #[.val (.int p0), .val (.int p1), .val (.int gb), .val (.ref b_1), .val (.int ew)] [(.ref b_1)])) _
    refine st_4.trans ?_
    show Steps p.tables e below (T_4.setTop (mkF m 41 #[.val (.int p0), .val (.int p1), .val (.int gb), .val (.ref b_1), .val (.int ew)] [(.int (own_wh p0))])) _
    refine XS.iload X_4.here hx rfl (hb hby at_41) rfl ?_
    show Steps p.tables e below (T_4.setTop (mkF m 43 #[.val (.int p0), .val (.int p1), .val (.int gb), .val (.ref b_1), .val (.int ew)] [(.int ew), (.int (own_wh p0))])) _
    refine XS.icmpNo X_4.here hx rfl (hb hby at_43) rfl (teq hc43).2 ?_
    show Steps p.tables e below (T_4.setTop (mkF m 46 #[.val (.int p0), .val (.int p1), .val (.int gb), .val (.ref b_1), .val (.int ew)] [])) _
    refine XS.aloadN X_4.here hx rfl (hb hby at_46) rfl rfl ?_
    show Steps p.tables e below (T_4.setTop (mkF m 47 #[.val (.int p0), .val (.int p1), .val (.int gb), .val (.ref b_1), .val (.int ew)] [(.ref b_1)])) _
    refine st_5.trans ?_
    show Steps p.tables e below (T_5.setTop (mkF m 50 #[.val (.int p0), .val (.int p1), .val (.int gb), .val (.ref b_1), .val (.int ew)] [(.int gb)])) _
    refine XS.iloadN X_5.here hx rfl (hb hby at_50) rfl ?_
    show Steps p.tables e below (T_5.setTop (mkF m 51 #[.val (.int p0), .val (.int p1), .val (.int gb), .val (.ref b_1), .val (.int ew)] [(.int gb), (.int gb)])) _
    refine XS.icmpNo X_5.here hx rfl (hb hby at_51) rfl (teq (rfl : gb = gb)).2 ?_
    show Steps p.tables e below (T_5.setTop (mkF m 54 #[.val (.int p0), .val (.int p1), .val (.int gb), .val (.ref b_1), .val (.int ew)] [])) _
    refine XS.aloadN X_5.here hx rfl (hb hby at_54) rfl rfl ?_
    show Steps p.tables e below (T_5.setTop (mkF m 55 #[.val (.int p0), .val (.int p1), .val (.int gb), .val (.ref b_1), .val (.int ew)] [(.ref b_1)])) _
    refine st_6.trans ?_
    show Steps p.tables e below (T_6.setTop (mkF m 58 #[.val (.int p0), .val (.int p1), .val (.int gb), .val (.ref b_1), .val (.int ew)] [(.int (1 : Int32))])) _
    refine XS.ifNo X_6.here hx rfl (hb hby at_58) rfl ((if0 _ _).trans (feq ((by decide) : ¬ ((1 : Int32) = (0 : Int32)))).1) ?_
    show Steps p.tables e below (T_6.setTop (mkF m 61 #[.val (.int p0), .val (.int p1), .val (.int gb), .val (.ref b_1), .val (.int ew)] [])) _
    refine XS.iconst X_6.here hx rfl (hb hby at_61) ?_
    show Steps p.tables e below (T_6.setTop (mkF m 62 #[.val (.int p0), .val (.int p1), .val (.int gb), .val (.ref b_1), .val (.int ew)] [(.int (1 : Int32))])) _
    refine XS.goto X_6.here hx rfl (pc0 := 62) (pc' := 66) rfl (hb hby at_62) (by decide) (by decide) ?_
    show Steps p.tables e below (T_6.setTop (mkF m 66 #[.val (.int p0), .val (.int p1), .val (.int gb), .val (.ref b_1), .val (.int ew)] [(.int (1 : Int32))])) _
    exact retN X_6 hx (t := .boolean) Bd.returns (by simp) (hb hby at_66) hr
  · show Q0 Z  h0 n0 _ T_6.heap _
    rw [eq_6]
    exact ⟨rfl, N_6⟩
set_option maxRecDepth 65536 in
set_option maxHeartbeats 40000000 in
theorem comes_1 {Post : Tables → Env → Array Value → State → Outcome → State → Prop} (hpost : ∀ tb e args s v u, (limb_1_1.after args s (.returned v) u = true ∧ limb_1_2.after args s (.returned v) u = true ∧ True) → FrameEnd s (.returned v) u (Jvm.fieldLocs frame_1_writes args s ++ Jvm.arrayLocs frame_1_arrays args s ++ Jvm.staticLocs frame_1_statics s) 16 128 → Post tb e args s (.returned v) u) :
    ArmFor flags0 classFile x code maxLocals ret World_1 tables_1 room_1 Calls_1 rest_1 Pre_1 Post := by
  intro l hfl _ _ p e ha hc hk s m args below hf hA hF happ hP
  obtain ⟨hcalls, hrest, hpre⟩ := hP
  obtain ⟨-, -, -, hnamed, -, -, -, hat⟩ := (Spec.applies_iff hf).mp happ
  obtain ⟨hg, hn⟩ := and_e (Cond.before_iff.mp (show (Jvm.Cond.and given_1 narrow_1).before args s = true from hpre))
  obtain ⟨g1, hg⟩ := and_e hg
  obtain ⟨g2, hg⟩ := and_e hg
  obtain ⟨w0, w1, rfl⟩ : ∃ w0 w1 : Value, args = #[w0, w1] := by
    have hs : args.size = 2 := by simpa [Cond.value, given_1] using g1
    obtain ⟨L⟩ := args
    match L, hs with
    | [w0, w1], _ => exact ⟨w0, w1, rfl⟩
  have hw := fun d (hd : d ∈ tables_1) => atoms_spec (ws := Jvm.Cond.code x code maxLocals ret :: tables_1) hat d (List.mem_cons_of_mem _ hd)
  obtain ⟨i0, ei0⟩ := is_v g2
  obtain rfl : w0 = (.int i0) := Option.some.inj ei0
  obtain ⟨i1, ei1⟩ := is_v hg
  obtain rfl : w1 = (.int i1) := Option.some.inj ei1

  obtain ⟨n, o, h1, h2, h3, _, L, rfl, ⟨rfl, N⟩, hq⟩ := rm0 l s _ hw tables_1 i0 i1 _ _ s.heap s.heap.size (Nat.le_refl _) (own_ite_nar ((i1 &&& 1) = 0) 0 1 rfl rfl) rfl rfl rfl p e ha hc hk s m _ below hf ((Spec.applies_iff_loose hf).mp happ).1 ⟨rfl, State.Warmed39.refl s, rfl⟩ trivial
  refine ⟨n, _, h1, h2, h3, hpost _ _ _ _ _ _ ⟨Cond.after_iff.mpr rfl, Cond.after_iff.mpr (eq_i res_at (Term.int_eval (1)) rfl), trivial⟩ ⟨hq.1, hq.2.1, (hq.2.2.sift fun y hy => Or.inr (N y hy)).mono (by decide) (by decide)⟩⟩
theorem main_1_1 : Claimed_1_1 := comes_1 fun _ _ _ _ _ _ h hF => ⟨h.1, hF⟩
theorem main_1_2 : Claimed_1_2 := comes_1 fun _ _ _ _ _ _ h hF => ⟨h.2.1, hF⟩
end Jvm.Pilot.@@N@@
namespace Jvm.Pilot.@@N@@
open Jvm Jvm.ClassFile Sem Op Lib Jvm.Free Jvm.Stand Jvm.Pilot.@@N@@.Jvm.D
/-! MADE BY PROGRAM (witnessworld.py) out of the Statement's table words and the real class files: 8 classes; the members and pool entries that the words name. The judged class is class 1, her method 1. -/
namespace start1
open Jvm.ClassFile
def u (s : String) : CpInfo := .utf8 (stringToUtf16 s)
/-- a pool by its gaps: so many unusable entries, then the entry; so many at the end -/
def gap : Nat → List CpInfo → List CpInfo
  | 0, r => r
  | n + 1, r => .unusable :: gap n r
def poolList (es : List (Nat × CpInfo)) (last : Nat) : List CpInfo := es.foldr (fun e r => gap e.1 (e.2 :: r)) (gap last [])
def pool (es : List (Nat × CpInfo)) (last : Nat) : Array CpInfo := ⟨poolList es last⟩
def fileOf (pool : Array CpInfo) (this : Nat) (attrs : Array Attribute := #[]) (ms : Array MethodInfo := #[]) (fl : Nat := 33) (sup : Nat := 0) (ifs : Array Nat := #[]) (fds : Array FieldInfo := #[]) : ClassFile where
  minorVersion := 0
  majorVersion := 65
  constantPool := pool
  accessFlags := fl
  thisClass := this
  superClass := sup
  interfaces := ifs
  fields := fds
  methods := ms
  attributes := attrs
def plain (name : String) (sup : Option ClassId) : Class where
  name := name
  kind := .ordinary
  loader := none
  accessFlags := 33
  super := sup
  interfaces := #[]
  cf := none
  fields := #[]
  methods := #[]
  instanceTypes := #[]
  staticTypes := #[]
  resolved := #[]
  callSites := []
  init := .initialized
  statics := none
  mirror := none

def pool0 : Array CpInfo := pool [(5, u "<init>"), (0, u "()V"), (1, .class_ 10), (1, u "java/lang/Object")] 113

def k0c0 : Code := { maxStack := 0, maxLocals := 1, code := object_method_1_code, exceptionTable := #[], attributes := #[] }
def k0m0 : Method := { name := "<init>", desc := "()V", sig := { parameters := [], returnType := none }, accessFlags := 1, code := some k0c0 }
/-- java/lang/Object -/
def k0 : Class := { plain "java/lang/Object" none with
  accessFlags := 33
  interfaces := #[]
  cf := some (fileOf pool0 8 #[] #[{ accessFlags := 1, nameIndex := 5, descriptorIndex := 6, attributes := #[] }] 33 0 #[] #[])
  fields := #[]
  methods := #[k0m0]
  instanceTypes := #[]
  staticTypes := #[]
  resolved := Array.replicate 124 none
  statics := none }

def pool1 : Array CpInfo := pool [(2, .class_ 4), (1, u "java/lang/Object"), (0, u "<init>"), (0, u "()V"), (0, .methodref 8 9), (0, .class_ 10), (0, .nameAndType 11 12), (0, u "com/example/reserve_row/reserverow/StatementBound"), (0, u "asAWhole"), (0, u "(IZ)Lcom/example/reserve_row/reserverow/StatementBound;"), (0, .methodref 8 14), (0, .nameAndType 15 16), (0, u "millis"), (0, u "()I"), (0, .methodref 8 18), (0, .nameAndType 19 20), (0, u "whole"), (0, u "()Z"), (0, .methodref 8 22), (0, .nameAndType 23 20), (0, u "givesBack"), (0, .methodref 8 25), (0, .nameAndType 26 20), (0, u "onRows"), (0, .class_ 28), (0, u "com/example/reserve_row/reserverow/StatementBoundAsAWholePinLaw"), (2, u "law"), (0, u "(II)Z")] 3

def k1m0 : Method := { name := "<init>", desc := "()V", sig := { parameters := [], returnType := none }, accessFlags := 1, code := none }
def k1c1 : Code := { maxStack := 2, maxLocals := 5, code := code, exceptionTable := #[], attributes := #[] }
def k1m1 : Method := { name := "law", desc := "(II)Z", sig := { parameters := [.int, .int], returnType := some .boolean }, accessFlags := 9, code := some k1c1 }
/-- com/example/reserve_row/reserverow/StatementBoundAsAWholePinLaw -/
def k1 : Class := { plain "com/example/reserve_row/reserverow/StatementBoundAsAWholePinLaw" (some 0) with
  accessFlags := 49
  interfaces := #[]
  cf := some (fileOf pool1 27 #[] #[{ accessFlags := 1, nameIndex := 5, descriptorIndex := 6, attributes := #[] }, { accessFlags := 9, nameIndex := 31, descriptorIndex := 32, attributes := #[] }] 49 2 #[] #[])
  fields := #[]
  methods := #[k1m0, k1m1]
  instanceTypes := #[]
  staticTypes := #[]
  resolved := Array.replicate 36 none
  statics := none }

def pool2 : Array CpInfo := pool [(1, .methodref 2 3), (0, .class_ 4), (0, .nameAndType 5 6), (0, u "java/lang/Object"), (0, u "<init>"), (0, u "()V"), (0, .class_ 8), (0, u "java/lang/Record")] 13

def k2c0 : Code := { maxStack := 1, maxLocals := 1, code := jdk_30_method_1_code, exceptionTable := #[], attributes := #[] }
def k2m0 : Method := { name := "<init>", desc := "()V", sig := { parameters := [], returnType := none }, accessFlags := 4, code := some k2c0 }
/-- java/lang/Record -/
def k2 : Class := { plain "java/lang/Record" (some 0) with
  accessFlags := 1057
  interfaces := #[]
  cf := some (fileOf pool2 7 #[] #[{ accessFlags := 4, nameIndex := 5, descriptorIndex := 6, attributes := #[] }] 1057 2 #[] #[])
  fields := #[]
  methods := #[k2m0]
  instanceTypes := #[]
  staticTypes := #[]
  resolved := Array.replicate 22 none
  statics := none }

def pool3 : Array CpInfo := pool [(1, .methodref 2 3), (0, .class_ 4), (0, .nameAndType 5 6), (0, u "java/lang/Record"), (0, u "<init>"), (0, u "()V"), (0, .fieldref 8 9), (0, .class_ 10), (0, .nameAndType 11 12), (0, u "com/example/reserve_row/reserverow/StatementBound"), (0, u "millis"), (0, u "I"), (0, .fieldref 8 14), (0, .nameAndType 15 16), (0, u "whole"), (0, u "Z"), (0, .fieldref 8 18), (0, .nameAndType 19 16), (0, u "givesBack"), (0, .fieldref 8 21), (0, .nameAndType 22 16), (0, u "onRows"), (0, .methodref 8 24), (0, .nameAndType 5 25), (0, u "(IZZZ)V"), (5, u "()Z"), (2, u "()I"), (16, u "asAWhole"), (0, u "(IZ)Lcom/example/reserve_row/reserverow/StatementBound;")] 27

def k3c0 : Code := { maxStack := 2, maxLocals := 5, code := prog_28_method_1_code, exceptionTable := #[], attributes := #[] }
def k3m0 : Method := { name := "<init>", desc := "(IZZZ)V", sig := { parameters := [.int, .boolean, .boolean, .boolean], returnType := none }, accessFlags := 1, code := some k3c0 }
def k3c1 : Code := { maxStack := 6, maxLocals := 2, code := prog_28_method_2_code, exceptionTable := #[], attributes := #[] }
def k3m1 : Method := { name := "asAWhole", desc := "(IZ)Lcom/example/reserve_row/reserverow/StatementBound;", sig := { parameters := [.int, .boolean], returnType := some (.object "com/example/reserve_row/reserverow/StatementBound") }, accessFlags := 9, code := some k3c1 }
def k3c2 : Code := { maxStack := 1, maxLocals := 1, code := prog_28_method_7_code, exceptionTable := #[], attributes := #[] }
def k3m2 : Method := { name := "millis", desc := "()I", sig := { parameters := [], returnType := some .int }, accessFlags := 1, code := some k3c2 }
def k3c3 : Code := { maxStack := 1, maxLocals := 1, code := prog_28_method_8_code, exceptionTable := #[], attributes := #[] }
def k3m3 : Method := { name := "whole", desc := "()Z", sig := { parameters := [], returnType := some .boolean }, accessFlags := 1, code := some k3c3 }
def k3c4 : Code := { maxStack := 1, maxLocals := 1, code := prog_28_method_9_code, exceptionTable := #[], attributes := #[] }
def k3m4 : Method := { name := "givesBack", desc := "()Z", sig := { parameters := [], returnType := some .boolean }, accessFlags := 1, code := some k3c4 }
def k3c5 : Code := { maxStack := 1, maxLocals := 1, code := prog_28_method_10_code, exceptionTable := #[], attributes := #[] }
def k3m5 : Method := { name := "onRows", desc := "()Z", sig := { parameters := [], returnType := some .boolean }, accessFlags := 1, code := some k3c5 }
/-- com/example/reserve_row/reserverow/StatementBound -/
def k3 : Class := { plain "com/example/reserve_row/reserverow/StatementBound" (some 2) with
  accessFlags := 48
  interfaces := #[]
  cf := some (fileOf pool3 8 #[] #[{ accessFlags := 1, nameIndex := 5, descriptorIndex := 25, attributes := #[] }, { accessFlags := 9, nameIndex := 51, descriptorIndex := 52, attributes := #[] }, { accessFlags := 1, nameIndex := 11, descriptorIndex := 34, attributes := #[] }, { accessFlags := 1, nameIndex := 15, descriptorIndex := 31, attributes := #[] }, { accessFlags := 1, nameIndex := 19, descriptorIndex := 31, attributes := #[] }, { accessFlags := 1, nameIndex := 22, descriptorIndex := 31, attributes := #[] }] 48 2 #[] #[{ accessFlags := 18, nameIndex := 11, descriptorIndex := 12, attributes := #[] }, { accessFlags := 18, nameIndex := 15, descriptorIndex := 16, attributes := #[] }, { accessFlags := 18, nameIndex := 19, descriptorIndex := 16, attributes := #[] }, { accessFlags := 18, nameIndex := 22, descriptorIndex := 16, attributes := #[] }])
  fields := #[{ name := "millis", type := .int, accessFlags := 18, slot := 0, constantValue := 0 }, { name := "whole", type := .boolean, accessFlags := 18, slot := 1, constantValue := 0 }, { name := "givesBack", type := .boolean, accessFlags := 18, slot := 2, constantValue := 0 }, { name := "onRows", type := .boolean, accessFlags := 18, slot := 3, constantValue := 0 }]
  methods := #[k3m0, k3m1, k3m2, k3m3, k3m4, k3m5]
  instanceTypes := #[.int, .boolean, .boolean, .boolean]
  staticTypes := #[]
  resolved := Array.replicate 80 none
  statics := none }

def pool4 : Array CpInfo := pool [(1, u "java/lang/Cloneable"), (0, .class_ 1), (0, u "java/lang/Object"), (0, .class_ 3)] 3

/-- java/lang/Cloneable -/
def k4 : Class := { plain "java/lang/Cloneable" (some 0) with
  accessFlags := 1537
  interfaces := #[]
  cf := some (fileOf pool4 2 #[] #[] 1537 4 #[] #[])
  fields := #[]
  methods := #[]
  instanceTypes := #[]
  staticTypes := #[]
  resolved := Array.replicate 8 none
  statics := none }

def pool5 : Array CpInfo := pool [(1, u "java/io/Serializable"), (0, .class_ 1), (0, u "java/lang/Object"), (0, .class_ 3)] 3

/-- java/io/Serializable -/
def k5 : Class := { plain "java/io/Serializable" (some 0) with
  accessFlags := 1537
  interfaces := #[]
  cf := some (fileOf pool5 2 #[] #[] 1537 4 #[] #[])
  fields := #[]
  methods := #[]
  instanceTypes := #[]
  staticTypes := #[]
  resolved := Array.replicate 8 none
  statics := none }

/-- the primitive byte -/
def k6 : Class := { plain "byte" none with kind := .primitive 'B', accessFlags := 0x411 }
/-- [B -/
def k7 : Class := { plain "[B" (some 0) with kind := .array 6 .byte, interfaces := #[4, 5], accessFlags := 1041 }

def heap : Heap := #[]
def classes : Array Class := #[k0, k1, k2, k3, k4, k5, k6, k7]
def interned : List (Array UInt16 × Addr) := []
def slotsUsed : Nat := 0
def theMethod : MethodId := ⟨1, 1⟩
def args0 : Array Value := #[.int 5, .int 5]
def aboutOver (below : List Frame) : State where
  vm := { classes := classes, interned := interned.toArray }
  heap := heap
  slotsUsed := slotsUsed
  threads := #[{ frames := .invoking theMethod args0 :: below }]
def below0 : List Frame := [.native { method := ⟨0, 0⟩, args := #[] }]
def about1 : State := aboutOver below0
def p0 : Program := .bare "" "" ""
def e0 : Env := launch0.env 0 0 0
theorem w_frames : about1.frames = Frame.invoking theMethod args0 :: below0 := rfl
set_option maxRecDepth 65536 in
theorem w_args : argsFit about1.vm theMethod args0 = true := by decide +kernel
set_option maxRecDepth 65536 in
theorem w_heap : heapFits about1 = true := by decide +kernel
set_option maxRecDepth 65536 in
theorem w_runnable : about1.curStatus? = some .runnable := by decide +kernel
set_option maxRecDepth 65536 in
theorem w_alone : about1.alone = true := by decide +kernel
set_option maxRecDepth 65536 in
theorem w_named : about1.methodNamed? x = some theMethod := by decide +kernel
set_option maxRecDepth 65536 in
theorem w_hears : about1.hears theMethod below0 = true := by decide +kernel
set_option maxRecDepth 65536 in
theorem w_ripe : about1.ripe theMethod args0 below0 = true := by decide +kernel
theorem w_running : about1.status = .running := rfl
set_option maxRecDepth 65536 in
theorem w_room : about1.hasRoom e0.platform room_1 = true :=
  launch0.hasRoom_least _ room_1 (by decide +kernel) (by decide +kernel) (by decide +kernel) (by decide +kernel) (by decide +kernel) (by decide +kernel)
theorem allAtoms_all (ts : List Jvm.Cond) (a : Array Jvm.Value) (st : Jvm.State) : (allAtoms ts).before a st = ts.all (fun c => c.before a st) := by
  induction ts with
  | nil => rfl
  | cons c t ih =>
    show (Jvm.Cond.and c (allAtoms t)).before a st = _
    rw [Jvm.Cond.before_and, ih, List.all_cons]
def words1 : List Jvm.Cond := Jvm.Cond.code x code maxLocals ret :: tables_1
/-- a 'code' word, met by the world's own term for the bytes: nothing is compared byte by byte -/
theorem code_word {y : MethodName} {bytes : ByteArray} {mx : Nat} {rt : Option FieldType} {a : Array Value} {s : State} {m : MethodId} {meth : Method} {c : Code} (h1 : s.methodNamed? y = some m) (h2 : s.vm.method? m = some meth) (h3 : meth.code = some c) (h4 : c.code = bytes)
    (h5 : (c.maxLocals == mx && c.exceptionTable.isEmpty && decide (c.maxStack ≤ mostOperands) && decide (meth.sig.returnType = rt) && !meth.locks && decide (parseMethodDescriptor y.desc = some meth.sig)) = true) : (Jvm.Cond.code y bytes mx rt).before a s = true := by
  simp only [Bool.and_eq_true, beq_iff_eq, Bool.not_eq_true', decide_eq_true_eq] at h5
  obtain ⟨⟨⟨⟨⟨g1, g2⟩, g3⟩, g4⟩, g5⟩, g6⟩ := h5
  simp [Cond.before, Cond.holds, Cond.value, h1, h2, h3, h4, g1, g2, g3, g4, g5, g6]
def isCode : Jvm.Cond → Bool
  | .code _ _ _ _ => true
  | _ => false
theorem all_split {L : List Jvm.Cond} {P : Jvm.Cond → Bool} (h1 : L.all (fun c => isCode c || P c) = true) (h2 : ∀ c ∈ L.filter isCode, P c = true) : L.all P = true := by
  refine List.all_eq_true.mpr fun c hc => ?_
  have h := List.all_eq_true.mp h1 c hc
  rcases Bool.eq_false_or_eq_true (isCode c) with hi | hi
  · exact h2 c (List.mem_filter.mpr ⟨hc, hi⟩)
  · simpa [hi] using h
set_option maxRecDepth 65536 in
theorem w_c0 : (Jvm.Cond.code x code maxLocals ret).before args0 about1 = true := code_word (m := ⟨1, 1⟩) (meth := k1m1) (c := k1c1) (by decide +kernel) rfl rfl rfl (by decide +kernel)
set_option maxRecDepth 65536 in
theorem w_c1 : (Jvm.Cond.code ({ cls := "com/example/reserve_row/reserverow/StatementBound", name := "asAWhole", desc := "(IZ)Lcom/example/reserve_row/reserverow/StatementBound;" } : Jvm.MethodName) prog_28_method_2_code (2 : Nat) (Option.some (Jvm.ClassFile.FieldType.object "com/example/reserve_row/reserverow/StatementBound"))).before args0 about1 = true := code_word (m := ⟨3, 1⟩) (meth := k3m1) (c := k3c1) (by decide +kernel) rfl rfl rfl (by decide +kernel)
set_option maxRecDepth 65536 in
theorem w_c2 : (Jvm.Cond.code ({ cls := "com/example/reserve_row/reserverow/StatementBound", name := "<init>", desc := "(IZZZ)V" } : Jvm.MethodName) prog_28_method_1_code (5 : Nat) (Option.none : Option Jvm.ClassFile.FieldType)).before args0 about1 = true := code_word (m := ⟨3, 0⟩) (meth := k3m0) (c := k3c0) (by decide +kernel) rfl rfl rfl (by decide +kernel)
set_option maxRecDepth 65536 in
theorem w_c3 : (Jvm.Cond.code ({ cls := "java/lang/Record", name := "<init>", desc := "()V" } : Jvm.MethodName) jdk_30_method_1_code (1 : Nat) (Option.none : Option Jvm.ClassFile.FieldType)).before args0 about1 = true := code_word (m := ⟨2, 0⟩) (meth := k2m0) (c := k2c0) (by decide +kernel) rfl rfl rfl (by decide +kernel)
set_option maxRecDepth 65536 in
theorem w_c4 : (Jvm.Cond.code ({ cls := "java/lang/Object", name := "<init>", desc := "()V" } : Jvm.MethodName) object_method_1_code (1 : Nat) (Option.none : Option Jvm.ClassFile.FieldType)).before args0 about1 = true := code_word (m := ⟨0, 0⟩) (meth := k0m0) (c := k0c0) (by decide +kernel) rfl rfl rfl (by decide +kernel)
set_option maxRecDepth 65536 in
theorem w_c5 : (Jvm.Cond.code ({ cls := "com/example/reserve_row/reserverow/StatementBound", name := "millis", desc := "()I" } : Jvm.MethodName) prog_28_method_7_code (1 : Nat) (Option.some Jvm.ClassFile.FieldType.int)).before args0 about1 = true := code_word (m := ⟨3, 2⟩) (meth := k3m2) (c := k3c2) (by decide +kernel) rfl rfl rfl (by decide +kernel)
set_option maxRecDepth 65536 in
theorem w_c6 : (Jvm.Cond.code ({ cls := "com/example/reserve_row/reserverow/StatementBound", name := "whole", desc := "()Z" } : Jvm.MethodName) prog_28_method_8_code (1 : Nat) (Option.some Jvm.ClassFile.FieldType.boolean)).before args0 about1 = true := code_word (m := ⟨3, 3⟩) (meth := k3m3) (c := k3c3) (by decide +kernel) rfl rfl rfl (by decide +kernel)
set_option maxRecDepth 65536 in
theorem w_c7 : (Jvm.Cond.code ({ cls := "com/example/reserve_row/reserverow/StatementBound", name := "givesBack", desc := "()Z" } : Jvm.MethodName) prog_28_method_9_code (1 : Nat) (Option.some Jvm.ClassFile.FieldType.boolean)).before args0 about1 = true := code_word (m := ⟨3, 4⟩) (meth := k3m4) (c := k3c4) (by decide +kernel) rfl rfl rfl (by decide +kernel)
set_option maxRecDepth 65536 in
theorem w_c8 : (Jvm.Cond.code ({ cls := "com/example/reserve_row/reserverow/StatementBound", name := "onRows", desc := "()Z" } : Jvm.MethodName) prog_28_method_10_code (1 : Nat) (Option.some Jvm.ClassFile.FieldType.boolean)).before args0 about1 = true := code_word (m := ⟨3, 5⟩) (meth := k3m5) (c := k3c5) (by decide +kernel) rfl rfl rfl (by decide +kernel)
def codes1 : List Jvm.Cond := [Jvm.Cond.code x code maxLocals ret, Jvm.Cond.code ({ cls := "com/example/reserve_row/reserverow/StatementBound", name := "asAWhole", desc := "(IZ)Lcom/example/reserve_row/reserverow/StatementBound;" } : Jvm.MethodName) prog_28_method_2_code (2 : Nat) (Option.some (Jvm.ClassFile.FieldType.object "com/example/reserve_row/reserverow/StatementBound")), Jvm.Cond.code ({ cls := "com/example/reserve_row/reserverow/StatementBound", name := "<init>", desc := "(IZZZ)V" } : Jvm.MethodName) prog_28_method_1_code (5 : Nat) (Option.none : Option Jvm.ClassFile.FieldType), Jvm.Cond.code ({ cls := "java/lang/Record", name := "<init>", desc := "()V" } : Jvm.MethodName) jdk_30_method_1_code (1 : Nat) (Option.none : Option Jvm.ClassFile.FieldType), Jvm.Cond.code ({ cls := "java/lang/Object", name := "<init>", desc := "()V" } : Jvm.MethodName) object_method_1_code (1 : Nat) (Option.none : Option Jvm.ClassFile.FieldType), Jvm.Cond.code ({ cls := "com/example/reserve_row/reserverow/StatementBound", name := "millis", desc := "()I" } : Jvm.MethodName) prog_28_method_7_code (1 : Nat) (Option.some Jvm.ClassFile.FieldType.int), Jvm.Cond.code ({ cls := "com/example/reserve_row/reserverow/StatementBound", name := "whole", desc := "()Z" } : Jvm.MethodName) prog_28_method_8_code (1 : Nat) (Option.some Jvm.ClassFile.FieldType.boolean), Jvm.Cond.code ({ cls := "com/example/reserve_row/reserverow/StatementBound", name := "givesBack", desc := "()Z" } : Jvm.MethodName) prog_28_method_9_code (1 : Nat) (Option.some Jvm.ClassFile.FieldType.boolean), Jvm.Cond.code ({ cls := "com/example/reserve_row/reserverow/StatementBound", name := "onRows", desc := "()Z" } : Jvm.MethodName) prog_28_method_10_code (1 : Nat) (Option.some Jvm.ClassFile.FieldType.boolean)]
set_option maxRecDepth 65536 in
theorem codes_eq : words1.filter isCode = codes1 := rfl
theorem w_codes : ∀ c ∈ words1.filter isCode, c.before args0 about1 = true := by
  rw [codes_eq]
  intro c hc
  simp only [codes1, List.mem_cons, List.not_mem_nil, or_false] at hc
  rcases hc with rfl | rfl | rfl | rfl | rfl | rfl | rfl | rfl | rfl
  · exact w_c0
  · exact w_c1
  · exact w_c2
  · exact w_c3
  · exact w_c4
  · exact w_c5
  · exact w_c6
  · exact w_c7
  · exact w_c8
set_option maxRecDepth 65536 in
theorem w_t1 : (words1.take 24).all (fun c => isCode c || c.before args0 about1) = true := by decide +kernel
set_option maxRecDepth 65536 in
theorem w_t2 : (words1.drop 24).all (fun c => isCode c || c.before args0 about1) = true := by decide +kernel
theorem w_tables : (allAtoms (Jvm.Cond.code x code maxLocals ret :: tables_1)).before args0 about1 = true := by
  rw [allAtoms_all]
  show words1.all (fun c => c.before args0 about1) = true
  refine all_split ?_ w_codes
  rw [← List.take_append_drop 24 words1, List.all_append, w_t1, w_t2]
  rfl
set_option maxRecDepth 65536 in
theorem w_case : (Jvm.Cond.and given_1 narrow_1).before args0 about1 = true := by decide +kernel
theorem w_applies : (headSpec (Jvm.Cond.code x code maxLocals ret :: tables_1) room_1).applies x e0.platform about1 = true :=
  (Spec.applies_iff w_frames).mpr ⟨w_running, w_runnable, w_alone, w_named, w_hears, w_ripe, w_room, w_tables⟩
theorem atStart : AtStart classFile x code maxLocals ret World_1 tables_1 room_1 Calls_1 rest_1 Pre_1 launch0 p0 e0 about1 theMethod args0 below0 :=
  ⟨lists_1, trivial, launch0.admits_env _ _ _, launch0.least_env, fairChoices_fair.cas, fairChoices_fair.clock, w_frames, w_args, w_heap, w_applies, trivial, trivial, w_case⟩
end start1
theorem witness_1 : WitnessClaimed_1 := ⟨start1.p0, start1.e0, start1.about1, start1.theMethod, start1.args0, start1.below0, start1.atStart⟩
end Jvm.Pilot.@@N@@
