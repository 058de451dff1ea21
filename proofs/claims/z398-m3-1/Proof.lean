import JvmDerived
import JvmDerived.Pilot.@@N@@Statement
import JvmDerived.Pilot.@@N@@Code
set_option linter.unusedVariables false
set_option linter.unusedSimpArgs false
namespace Jvm.RoadKit
open Sem ClassFile Op Lib Jvm.Stand Jvm.Free Jvm.LawKit
section New
variable {p : Program} {l : Launch} {e : Env} {R : Room} {s : State} {m : MethodId} {args : Array Value} {below : List Frame} {meth : Method} {c : Code} {T : State} {locs : List Loc} {cells slots : Nat}
theorem retI (X : Stand p l e R s m args below meth c T locs cells slots) (hx : p.tables.exec = Jvm.exec) {pc : Nat} {Ls : Array Slot} {z : Int32} {rest : List Value} (hret : meth.sig.returnType = some .int) (hd : decode c.code pc = .ok (.ireturn, 1)) {fs : List Frame}
    (hl : ∀ (f : JFrame) (acts : List Action), f.method = m → f.locked = none → f.entered = [] → (doReturn e (T.setTop f) acts (some (.int z))).1 = T.setFrames fs) : Steps p.tables e below (T.setTop (mkF m pc Ls (.int z :: rest))) (T.setFrames fs) := by
  have hm' : T.vm.method? m = some meth := X.method'
  have hn : narrow .int (.int z) = .int z := rfl
  show Steps p.tables e below (T.setTop { method := m, pc := pc, locals := Ls, stack := _ :: rest, locked := none }) _
  jvm_step X.here [X.here.top, hx, hd, hm', hret, hn]
  first | (intro acts; rw [hl _ acts rfl rfl rfl]) | rw [hl _ _ rfl rfl rfl]
  exact Steps.refl _
end New
end Jvm.RoadKit
namespace Jvm.Pilot.@@N@@
open Jvm Jvm.ClassFile Sem Op Lib Jvm.Free Jvm.Stand Jvm.LawKit Jvm.RoadKit Bundle Jvm.Pilot.@@N@@.Jvm.D
/-! ## the plain part -/
theorem own_11 : (1 : Int32) &&& (1 : Int32) = (1 : Int32) := by decide
theorem own_four (k : Int32) : k &&& 3 = 0 ∨ k &&& 3 = 1 ∨ k &&& 3 = 2 ∨ k &&& 3 = 3 := by
  have h := c_mask k 3 2 (by decide) (by decide)
  have e0 : (0 : Int32).toInt = 0 := rfl
  have e1 : (1 : Int32).toInt = 1 := rfl
  have e2 : (2 : Int32).toInt = 2 := rfl
  have e3 : (3 : Int32).toInt = 3 := rfl
  simp only [← Int32.toInt_inj, e0, e1, e2, e3]
  have q : ((2 ^ 2 : Nat) : Int) = 4 := rfl
  rw [q] at h
  omega

theorem d5_0 : decode jdk_22_method_1_code 0 = .ok (.aload_n 0, 1) := by decide +kernel
theorem d5_1 : decode jdk_22_method_1_code 1 = .ok (.invokespecial 1, 3) := by decide +kernel
theorem d5_4 : decode jdk_22_method_1_code 4 = .ok (.return_, 1) := by decide +kernel
def QCol (Z : State) (a : Addr) (h0 : Heap) (n0 : Nat) (v : Option Value) (h : Heap) (L : List Loc) : Prop := v = none ∧ Fr n0 L ∧ h = h0
theorem pn_5 : plainName "java/util/AbstractCollection" = true := by first | (simp [plainName, overriddenIn]; done) | decide +kernel
theorem ef_5 (m : MethodId) (x0 : Addr) : entryFrame m #[(.ref x0)] 1 = mkF m 0 #[.val (.ref x0)] [] := by first | (simp [entryFrame, mkF, argsToLocals, Value.category]; done) | rfl
set_option maxRecDepth 65536 in
set_option maxHeartbeats 40000000 in
theorem rmCol (l : Launch) (Z : State) (a0 : Array Value) (hw : ∀ d ∈ tables_1, d.before a0 Z = true) (ws : List Jvm.Cond) (a : Addr) (h0 : Heap) (n0 : Nat) (Z0 : n0 ≤ h0.size)  :
    MetFree l (⟨"java/util/AbstractCollection", "<init>", "()V"⟩ : MethodName) (head1 (Jvm.Cond.code (⟨"java/util/AbstractCollection", "<init>", "()V"⟩ : MethodName) jdk_22_method_1_code 1 none :: ws) ({ frames := 1, cells := 0, slots := 0, locals := 12 } : Room)) (fun as_ U => as_ = #[(.ref a)] ∧ Z.Warmed39 U.vm ∧ U.heap = h0) (fun _ _ _ _ _ => True) (fun _ U o U' => ∃ v L, o = .returned v ∧ QCol Z a h0 n0 v U'.heap L ∧ FrameEnd U o U' L ({ frames := 1, cells := 0, slots := 0, locals := 12 } : Room).cells ({ frames := 1, cells := 0, slots := 0, locals := 12 } : Room).slots) := by
  refine MetFree.of_bodySF (plainFor_of_name pn_5) hisR ?_
  intro p e s m args below meth c s₁ Bd hml0 hP hK
  obtain ⟨rfl, hZ, hh⟩ := hP
  have hx := Bd.exec
  have hby := Bd.bytes
  have hml : c.maxLocals = 1 := hml0
  have hown : s.vm.findClass "java/util/AbstractCollection" = some m.cls := findClass_of_methodNamed Bd.named
  have hnm := (name_of_methodNamed Bd.named Bd.method).1
  have X0 : Stand p l e ({ frames := 1, cells := 0, slots := 0, locals := 12 } : Room) s m #[(.ref a)] below meth c s₁ [] 0 0 := Stand.of_body Bd
  have e0 : s₁.heap = h0 := by rw [← hh, Bd.state]; rfl
  have N0 := Fr.nil n0
  have pre0 : ∀ t, Steps p.tables e below (s₁.setTop (mkF m 0 #[.val (.ref a)] [])) t → Steps p.tables e below (s₁.setTop (entryFrame m #[(.ref a)] 1)) t := fun t k => castTop (ef_5 m a) k
  obtain ⟨T_1, X_1, e_1, st_1⟩ := initO X0 hx hZ hown (hw _ (List.mem_of_getElem? (i := 27) rfl)) (hw _ (List.mem_of_getElem? (i := 7) rfl)) (hw _ (List.mem_of_getElem? (i := 8) rfl)) e0 (g := (mkF m 1 #[.val (.ref a)] [(.ref a)])) rfl (by rw [hml]; rfl) rfl (hb hby d5_1) (by decide) (W := 0) (by show 2 * 0 + _ ≤ _; exact Nat.le_of_eq rfl) (by decide)
  obtain ⟨fs, hr, hrun, hended, hW, hsame⟩ := X_1.leave (v := none) (fun _ => rfl)
  refine ⟨_, _, pre0 _ ?_, hrun, hended, _, _, rfl, ?_, ⟨_, rfl⟩, hW, hsame.mono (by decide) (by decide)⟩
  · show Steps p.tables e below (s₁.setTop (mkF m 0 #[.val (.ref a)] [])) _
    refine XS.aloadN X0.here hx rfl (hb hby d5_0) rfl rfl ?_
    show Steps p.tables e below (s₁.setTop (mkF m 1 #[.val (.ref a)] [(.ref a)])) _
    refine st_1 _ ?_
    show Steps p.tables e below (T_1.setTop (mkF m 4 #[.val (.ref a)] [])) _
    exact X_1.returnOut hx Bd.returns (hb hby d5_4) hr
  · show QCol Z a h0 n0 _ T_1.heap _
    rw [e_1]
    exact ⟨rfl, N0, rfl⟩
theorem d4_0 : decode jdk_39_method_1_code 0 = .ok (.aload_n 0, 1) := by decide +kernel
theorem pd_0 : parseMethodDescriptor "()V" = some ⟨[], none⟩ := by decide +kernel
theorem d4_1 : decode jdk_39_method_1_code 1 = .ok (.invokespecial 1, 3) := by decide +kernel
theorem d4_4 : decode jdk_39_method_1_code 4 = .ok (.aload_n 0, 1) := by decide +kernel
theorem d4_5 : decode jdk_39_method_1_code 5 = .ok (.iconst 0, 1) := by decide +kernel
theorem d4_6 : decode jdk_39_method_1_code 6 = .ok (.putfield 7, 3) := by decide +kernel
theorem d4_9 : decode jdk_39_method_1_code 9 = .ok (.return_, 1) := by decide +kernel
def Q4 (Z : State) (a : Addr) (h0 : Heap) (n0 : Nat) (v : Option Value) (h : Heap) (L : List Loc) : Prop := v = none ∧ Fr n0 L ∧ Keep h0 h [a] ∧ Fld Z h a "java/util/ArrayList" "elementData" "[Ljava/lang/Object;" .null
theorem pn_4 : plainName "java/util/AbstractList" = true := by first | (simp [plainName, overriddenIn]; done) | decide +kernel
theorem ef_4 (m : MethodId) (x0 : Addr) : entryFrame m #[(.ref x0)] 1 = mkF m 0 #[.val (.ref x0)] [] := by first | (simp [entryFrame, mkF, argsToLocals, Value.category]; done) | rfl
set_option maxRecDepth 65536 in
set_option maxHeartbeats 40000000 in
theorem rm4 (l : Launch) (Z : State) (a0 : Array Value) (hw : ∀ d ∈ tables_1, d.before a0 Z = true) (ws : List Jvm.Cond) (a : Addr) (h0 : Heap) (n0 : Nat) (Z0 : n0 ≤ h0.size) (E_a : Exa Z h0 a "java/util/ArrayList") (F_m : Fld Z h0 a "java/util/AbstractList" "modCount" "I" (.int (0 : Int32))) (F_e : Fld Z h0 a "java/util/ArrayList" "elementData" "[Ljava/lang/Object;" .null) (g_a : n0 ≤ a) :
    MetFree l (⟨"java/util/AbstractList", "<init>", "()V"⟩ : MethodName) (head1 (Jvm.Cond.code (⟨"java/util/AbstractList", "<init>", "()V"⟩ : MethodName) jdk_39_method_1_code 1 none :: ws) ({ frames := 2, cells := 0, slots := 0, locals := 24 } : Room)) (fun as_ U => as_ = #[(.ref a)] ∧ Z.Warmed39 U.vm ∧ U.heap = h0) (fun _ _ _ _ _ => True) (fun _ U o U' => ∃ v L, o = .returned v ∧ Q4 Z a h0 n0 v U'.heap L ∧ FrameEnd U o U' L ({ frames := 2, cells := 0, slots := 0, locals := 24 } : Room).cells ({ frames := 2, cells := 0, slots := 0, locals := 24 } : Room).slots) := by
  refine MetFree.of_bodySF (plainFor_of_name pn_4) hisR ?_
  intro p e s m args below meth c s₁ Bd hml0 hP hK
  obtain ⟨rfl, hZ, hh⟩ := hP
  have hx := Bd.exec
  have hby := Bd.bytes
  have hml : c.maxLocals = 1 := hml0
  have hown : s.vm.findClass "java/util/AbstractList" = some m.cls := findClass_of_methodNamed Bd.named
  have hnm := (name_of_methodNamed Bd.named Bd.method).1
  have X0 : Stand p l e ({ frames := 2, cells := 0, slots := 0, locals := 24 } : Room) s m #[(.ref a)] below meth c s₁ [] 0 0 := Stand.of_body Bd
  have e0 : s₁.heap = h0 := by rw [← hh, Bd.state]; rfl
  have N0 := Fr.nil n0
  have pre0 : ∀ t, Steps p.tables e below (s₁.setTop (mkF m 0 #[.val (.ref a)] [])) t → Steps p.tables e below (s₁.setTop (entryFrame m #[(.ref a)] 1)) t := fun t k => castTop (ef_4 m a) k
  obtain ⟨_, _, ⟨T_1, L_1, k_1, n_1⟩, -, X_1, ⟨Lc_1, hQ_1, l_1, y_1, z_1⟩, st_1⟩ := X0.specialBack hx (y := (⟨"java/util/AbstractCollection", "<init>", "()V"⟩ : MethodName)) rfl hown (mvT hZ (hw _ (List.mem_of_getElem? (i := 21) rfl))) (mvT hZ (hw _ (List.mem_of_getElem? (i := 22) rfl))) (mvT hZ (hw _ (List.mem_of_getElem? (i := 26) rfl))) (by decide) (backOf (W := 0) (rmCol l Z a0 hw [] a h0 n0 Z0 ) hZ (hw _ (List.mem_of_getElem? (i := 26) rfl)) (hw _ (List.mem_of_getElem? (i := 25) rfl)) (by decide) (by decide)) (g := (mkF m 1 #[.val (.ref a)] [(.ref a)])) rfl (by rw [hml]; rfl) (Steps.refl _) (a := a) (argsL := []) (rest := []) (lenOf pd_0 rfl) rfl (by show 2 * 0 + _ ≤ _; exact Nat.le_of_eq rfl) (hb hby d4_1) (fun _ _ => ⟨rfl, e0, (by decide : 0 + 0 ≤ _), (by decide : 0 + 0 ≤ _)⟩)
  dsimp only [Pt.U, Pt.locs, Pt.cells, Pt.slots] at X_1 l_1 y_1 z_1 st_1 hQ_1
  subst l_1 y_1 z_1
  obtain ⟨rfl, Nq_1, eq_1⟩ := hQ_1
  have N_1 := Fr.app N0 Nq_1
  obtain ⟨T_2, h_2, X_2, e_2, W_2, st_2⟩ := putF X_1 hx hZ hown (host := "") (Or.inl (hw _ (List.mem_of_getElem? (i := 28) rfl))) Via.refl eq_1 F_m E_a (Or.inl (hw _ (List.mem_of_getElem? (i := 29) rfl))) (hw _ (List.mem_of_getElem? (i := 10) rfl)) (ty := .int) (by decide) rfl rfl (g := (mkF m 6 #[.val (.ref a)] [(.int (0 : Int32)), (.ref a)])) rfl rfl (hb hby d4_6)
  have Fw_2 := F_m.same W_2
  have K_2 : Keep h0 h_2 [a] := (Keep.refl h0 [a]).wr W_2 (Or.inl (List.mem_of_getElem? (i := 0) rfl))
  have N_2 := Fr.snoc X_2 N_1 g_a
  have Z_3 : n0 ≤ h_2.size := Nat.le_trans Z0 (Keep.of_wr W_2).1
  have f_4_F_a_elementData := (F_e.other W_2 (Or.inr (slot_ne (Or.inl (hw _ (List.mem_of_getElem? (i := 32) rfl))) (Or.inl (hw _ (List.mem_of_getElem? (i := 29) rfl))) (by decide) (t := (.array (.object "java/lang/Object"))) (t' := .int) (by decide) (by decide))))
  obtain ⟨fs, hr, hrun, hended, hW, hsame⟩ := X_2.leave (v := none) (fun _ => rfl)
  refine ⟨_, _, pre0 _ ?_, hrun, hended, _, _, rfl, ?_, ⟨_, rfl⟩, hW, hsame.mono (by decide) (by decide)⟩
  · show Steps p.tables e below (s₁.setTop (mkF m 0 #[.val (.ref a)] [])) _
    refine XS.aloadN X0.here hx rfl (hb hby d4_0) rfl rfl ?_
    show Steps p.tables e below (s₁.setTop (mkF m 1 #[.val (.ref a)] [(.ref a)])) _
    refine st_1.trans ?_
    show Steps p.tables e below (T_1.setTop (mkF m 4 #[.val (.ref a)] [])) _
    refine XS.aloadN X_1.here hx rfl (hb hby d4_4) rfl rfl ?_
    show Steps p.tables e below (T_1.setTop (mkF m 5 #[.val (.ref a)] [(.ref a)])) _
    refine XS.iconst X_1.here hx rfl (hb hby d4_5) ?_
    show Steps p.tables e below (T_1.setTop (mkF m 6 #[.val (.ref a)] [(.int (0 : Int32)), (.ref a)])) _
    refine st_2 _ ?_
    show Steps p.tables e below (T_2.setTop (mkF m 9 #[.val (.ref a)] [])) _
    exact X_2.returnOut hx Bd.returns (hb hby d4_9) hr
  · show Q4 Z a h0 n0 _ T_2.heap _
    rw [e_2]
    exact ⟨rfl, N_2, K_2, f_4_F_a_elementData⟩
theorem d3_0 : decode jdk_38_method_2_code 0 = .ok (.aload_n 0, 1) := by decide +kernel
theorem d3_1 : decode jdk_38_method_2_code 1 = .ok (.invokespecial 1, 3) := by decide +kernel
theorem d3_4 : decode jdk_38_method_2_code 4 = .ok (.aload_n 0, 1) := by decide +kernel
theorem d3_5 : decode jdk_38_method_2_code 5 = .ok (.getstatic 39, 3) := by decide +kernel
theorem d3_8 : decode jdk_38_method_2_code 8 = .ok (.putfield 9, 3) := by decide +kernel
theorem d3_11 : decode jdk_38_method_2_code 11 = .ok (.return_, 1) := by decide +kernel
def Q3 (Z : State) (a : Addr) (sd : Addr) (h0 : Heap) (n0 : Nat) (v : Option Value) (h : Heap) (L : List Loc) : Prop := v = none ∧ Fr n0 L ∧ Keep h0 h [a]
theorem pn_3 : plainName "java/util/ArrayList" = true := by first | (simp [plainName, overriddenIn]; done) | decide +kernel
theorem ef_3 (m : MethodId) (x0 : Addr) : entryFrame m #[(.ref x0)] 1 = mkF m 0 #[.val (.ref x0)] [] := by first | (simp [entryFrame, mkF, argsToLocals, Value.category]; done) | rfl
set_option maxRecDepth 65536 in
set_option maxHeartbeats 40000000 in
theorem rm3 (l : Launch) (Z : State) (a0 : Array Value) (hw : ∀ d ∈ tables_1, d.before a0 Z = true) (ws : List Jvm.Cond) (a : Addr) (sd : Addr) (h0 : Heap) (n0 : Nat) (Z0 : n0 ≤ h0.size) (E_a : Exa Z h0 a "java/util/ArrayList") (F_m : Fld Z h0 a "java/util/AbstractList" "modCount" "I" (.int (0 : Int32))) (F_e : Fld Z h0 a "java/util/ArrayList" "elementData" "[Ljava/lang/Object;" .null) (g_a : n0 ≤ a) (O_ : Old Z n0 h0) (S_ : Sta Z Z.heap "java/util/ArrayList" "DEFAULTCAPACITY_EMPTY_ELEMENTDATA" "[Ljava/lang/Object;" (.ref sd)) :
    MetFree l (⟨"java/util/ArrayList", "<init>", "()V"⟩ : MethodName) (head1 (Jvm.Cond.code (⟨"java/util/ArrayList", "<init>", "()V"⟩ : MethodName) jdk_38_method_2_code 1 none :: ws) ({ frames := 3, cells := 0, slots := 0, locals := 36 } : Room)) (fun as_ U => as_ = #[(.ref a)] ∧ Z.Warmed39 U.vm ∧ U.heap = h0) (fun _ _ _ _ _ => True) (fun _ U o U' => ∃ v L, o = .returned v ∧ Q3 Z a sd h0 n0 v U'.heap L ∧ FrameEnd U o U' L ({ frames := 3, cells := 0, slots := 0, locals := 36 } : Room).cells ({ frames := 3, cells := 0, slots := 0, locals := 36 } : Room).slots) := by
  refine MetFree.of_bodySF (plainFor_of_name pn_3) hisR ?_
  intro p e s m args below meth c s₁ Bd hml0 hP hK
  obtain ⟨rfl, hZ, hh⟩ := hP
  have hx := Bd.exec
  have hby := Bd.bytes
  have hml : c.maxLocals = 1 := hml0
  have hown : s.vm.findClass "java/util/ArrayList" = some m.cls := findClass_of_methodNamed Bd.named
  have hnm := (name_of_methodNamed Bd.named Bd.method).1
  have X0 : Stand p l e ({ frames := 3, cells := 0, slots := 0, locals := 36 } : Room) s m #[(.ref a)] below meth c s₁ [] 0 0 := Stand.of_body Bd
  have e0 : s₁.heap = h0 := by rw [← hh, Bd.state]; rfl
  have N0 := Fr.nil n0
  have pre0 : ∀ t, Steps p.tables e below (s₁.setTop (mkF m 0 #[.val (.ref a)] [])) t → Steps p.tables e below (s₁.setTop (entryFrame m #[(.ref a)] 1)) t := fun t k => castTop (ef_3 m a) k
  obtain ⟨_, _, ⟨T_1, L_1, k_1, n_1⟩, -, X_1, ⟨Lc_1, hQ_1, l_1, y_1, z_1⟩, st_1⟩ := X0.specialBack hx (y := (⟨"java/util/AbstractList", "<init>", "()V"⟩ : MethodName)) rfl hown (mvT hZ (hw _ (List.mem_of_getElem? (i := 15) rfl))) (mvT hZ (hw _ (List.mem_of_getElem? (i := 16) rfl))) (mvT hZ (hw _ (List.mem_of_getElem? (i := 20) rfl))) (by decide) (backOf (W := 0) (rm4 l Z a0 hw [] a h0 n0 Z0 E_a F_m F_e g_a) hZ (hw _ (List.mem_of_getElem? (i := 20) rfl)) (hw _ (List.mem_of_getElem? (i := 19) rfl)) (by decide) (by decide)) (g := (mkF m 1 #[.val (.ref a)] [(.ref a)])) rfl (by rw [hml]; rfl) (Steps.refl _) (a := a) (argsL := []) (rest := []) (lenOf pd_0 rfl) rfl (by show 2 * 0 + _ ≤ _; exact Nat.le_of_eq rfl) (hb hby d3_1) (fun _ _ => ⟨rfl, e0, (by decide : 0 + 0 ≤ _), (by decide : 0 + 0 ≤ _)⟩)
  dsimp only [Pt.U, Pt.locs, Pt.cells, Pt.slots] at X_1 l_1 y_1 z_1 st_1 hQ_1
  subst l_1 y_1 z_1
  obtain ⟨rfl, Nq_1, Kq_1, Fe_1⟩ := hQ_1
  have N_1 := Fr.app N0 Nq_1
  have KK_1 : Keep h0 T_1.heap [a] := (Keep.refl h0 [a]).trans Kq_1 (allS (Or.inl (List.mem_of_getElem? (i := 0) rfl)) all0)
  have Z_2 : n0 ≤ T_1.heap.size := Nat.le_trans Z0 Kq_1.1
  have f_3_O_old := (O_.keep Kq_1 (allS g_a all0))
  obtain ⟨T_4, X_4, e_4, st_4⟩ := getS2 X_1 hx hZ hown (host := "") (Or.inl (hw _ (List.mem_of_getElem? (i := 30) rfl))) Via.refl rfl (S_.ext f_3_O_old.2) (g := (mkF m 5 #[.val (.ref a)] [(.ref a)])) rfl (hb hby d3_5)
  have f_5_E_a := (E_a.keep Kq_1)
  obtain ⟨T_6, h_6, X_6, e_6, W_6, st_6⟩ := putF X_4 hx hZ hown (host := "") (Or.inl (hw _ (List.mem_of_getElem? (i := 31) rfl))) Via.refl e_4 Fe_1 f_5_E_a (Or.inl (hw _ (List.mem_of_getElem? (i := 32) rfl))) (hw _ (List.mem_of_getElem? (i := 10) rfl)) (ty := (.array (.object "java/lang/Object"))) (by decide) rfl rfl (g := (mkF m 8 #[.val (.ref a)] [(.ref sd), (.ref a)])) rfl rfl (hb hby d3_8)
  have Fw_6 := Fe_1.same W_6
  have K_6 : Keep h0 h_6 [a] := KK_1.wr W_6 (Or.inl (List.mem_of_getElem? (i := 0) rfl))
  have N_6 := Fr.snoc X_6 N_1 g_a
  have Z_7 : n0 ≤ h_6.size := Nat.le_trans Z_2 (Keep.of_wr W_6).1
  obtain ⟨fs, hr, hrun, hended, hW, hsame⟩ := X_6.leave (v := none) (fun _ => rfl)
  refine ⟨_, _, pre0 _ ?_, hrun, hended, _, _, rfl, ?_, ⟨_, rfl⟩, hW, hsame.mono (by decide) (by decide)⟩
  · show Steps p.tables e below (s₁.setTop (mkF m 0 #[.val (.ref a)] [])) _
    refine XS.aloadN X0.here hx rfl (hb hby d3_0) rfl rfl ?_
    show Steps p.tables e below (s₁.setTop (mkF m 1 #[.val (.ref a)] [(.ref a)])) _
    refine st_1.trans ?_
    show Steps p.tables e below (T_1.setTop (mkF m 4 #[.val (.ref a)] [])) _
    refine XS.aloadN X_1.here hx rfl (hb hby d3_4) rfl rfl ?_
    show Steps p.tables e below (T_1.setTop (mkF m 5 #[.val (.ref a)] [(.ref a)])) _
    refine st_4 _ ?_
    show Steps p.tables e below (T_4.setTop (mkF m 8 #[.val (.ref a)] [(.ref sd), (.ref a)])) _
    refine st_6 _ ?_
    show Steps p.tables e below (T_6.setTop (mkF m 11 #[.val (.ref a)] [])) _
    exact X_6.returnOut hx Bd.returns (hb hby d3_11) hr
  · show Q3 Z a sd h0 n0 _ T_6.heap _
    rw [e_6]
    exact ⟨rfl, N_6, K_6⟩
theorem d1_0 : decode prog_27_method_1_code 0 = .ok (.aload_n 0, 1) := by decide +kernel
theorem d1_1 : decode prog_27_method_1_code 1 = .ok (.invokespecial 1, 3) := by decide +kernel
theorem d1_4 : decode prog_27_method_1_code 4 = .ok (.aload_n 0, 1) := by decide +kernel
theorem d1_5 : decode prog_27_method_1_code 5 = .ok (.new 7, 3) := by decide +kernel
theorem d1_8 : decode prog_27_method_1_code 8 = .ok (.dup, 1) := by decide +kernel
theorem d1_9 : decode prog_27_method_1_code 9 = .ok (.invokespecial 9, 3) := by decide +kernel
theorem d1_12 : decode prog_27_method_1_code 12 = .ok (.putfield 10, 3) := by decide +kernel
theorem d1_15 : decode prog_27_method_1_code 15 = .ok (.aload_n 0, 1) := by decide +kernel
theorem d1_16 : decode prog_27_method_1_code 16 = .ok (.new 7, 3) := by decide +kernel
theorem d1_19 : decode prog_27_method_1_code 19 = .ok (.dup, 1) := by decide +kernel
theorem d1_20 : decode prog_27_method_1_code 20 = .ok (.invokespecial 9, 3) := by decide +kernel
theorem d1_23 : decode prog_27_method_1_code 23 = .ok (.putfield 16, 3) := by decide +kernel
theorem d1_26 : decode prog_27_method_1_code 26 = .ok (.return_, 1) := by decide +kernel
def Q1 (Z : State) (a : Addr) (sd : Addr) (h0 : Heap) (n0 : Nat) (v : Option Value) (h : Heap) (L : List Loc) : Prop := v = none ∧ Fr n0 L ∧ Keep h0 h [a] ∧ Fld Z h a "com/example/arrivals_to_bounds/arrivalstobounds/LinearProgram" "variables" "I" (.int (0 : Int32))
theorem pn_1 : plainName "com/example/arrivals_to_bounds/arrivalstobounds/LinearProgram" = true := by first | (simp [plainName, overriddenIn]; done) | decide +kernel
theorem ef_1 (m : MethodId) (x0 : Addr) : entryFrame m #[(.ref x0)] 1 = mkF m 0 #[.val (.ref x0)] [] := by first | (simp [entryFrame, mkF, argsToLocals, Value.category]; done) | rfl
set_option maxRecDepth 65536 in
set_option maxHeartbeats 40000000 in
theorem rm1 (l : Launch) (Z : State) (a0 : Array Value) (hw : ∀ d ∈ tables_1, d.before a0 Z = true) (ws : List Jvm.Cond) (a : Addr) (sd : Addr) (h0 : Heap) (n0 : Nat) (Z0 : n0 ≤ h0.size) (E_a : Exa Z h0 a "com/example/arrivals_to_bounds/arrivalstobounds/LinearProgram") (F_rows : Fld Z h0 a "com/example/arrivals_to_bounds/arrivalstobounds/LinearProgram" "rows" "Ljava/util/List;" .null) (F_bounds : Fld Z h0 a "com/example/arrivals_to_bounds/arrivalstobounds/LinearProgram" "bounds" "Ljava/util/List;" .null) (F_variables : Fld Z h0 a "com/example/arrivals_to_bounds/arrivalstobounds/LinearProgram" "variables" "I" (.int (0 : Int32))) (g_a : n0 ≤ a) (O_ : Old Z n0 h0) (S_ : Sta Z Z.heap "java/util/ArrayList" "DEFAULTCAPACITY_EMPTY_ELEMENTDATA" "[Ljava/lang/Object;" (.ref sd)) :
    MetFree l (⟨"com/example/arrivals_to_bounds/arrivalstobounds/LinearProgram", "<init>", "()V"⟩ : MethodName) (head1 (Jvm.Cond.code (⟨"com/example/arrivals_to_bounds/arrivalstobounds/LinearProgram", "<init>", "()V"⟩ : MethodName) prog_27_method_1_code 1 none :: ws) ({ frames := 4, cells := 2, slots := 6, locals := 50 } : Room)) (fun as_ U => as_ = #[(.ref a)] ∧ Z.Warmed39 U.vm ∧ U.heap = h0) (fun _ _ _ _ _ => True) (fun _ U o U' => ∃ v L, o = .returned v ∧ Q1 Z a sd h0 n0 v U'.heap L ∧ FrameEnd U o U' L ({ frames := 4, cells := 2, slots := 6, locals := 50 } : Room).cells ({ frames := 4, cells := 2, slots := 6, locals := 50 } : Room).slots) := by
  refine MetFree.of_bodySF (plainFor_of_name pn_1) hisR ?_
  intro p e s m args below meth c s₁ Bd hml0 hP hK
  obtain ⟨rfl, hZ, hh⟩ := hP
  have hx := Bd.exec
  have hby := Bd.bytes
  have hml : c.maxLocals = 1 := hml0
  have hown : s.vm.findClass "com/example/arrivals_to_bounds/arrivalstobounds/LinearProgram" = some m.cls := findClass_of_methodNamed Bd.named
  have hnm := (name_of_methodNamed Bd.named Bd.method).1
  have X0 : Stand p l e ({ frames := 4, cells := 2, slots := 6, locals := 50 } : Room) s m #[(.ref a)] below meth c s₁ [] 0 0 := Stand.of_body Bd
  have e0 : s₁.heap = h0 := by rw [← hh, Bd.state]; rfl
  have N0 := Fr.nil n0
  have pre0 : ∀ t, Steps p.tables e below (s₁.setTop (mkF m 0 #[.val (.ref a)] [])) t → Steps p.tables e below (s₁.setTop (entryFrame m #[(.ref a)] 1)) t := fun t k => castTop (ef_1 m a) k
  obtain ⟨T_1, X_1, e_1, st_1⟩ := initO X0 hx hZ hown (hw _ (List.mem_of_getElem? (i := 6) rfl)) (hw _ (List.mem_of_getElem? (i := 7) rfl)) (hw _ (List.mem_of_getElem? (i := 8) rfl)) e0 (g := (mkF m 1 #[.val (.ref a)] [(.ref a)])) rfl (by rw [hml]; rfl) rfl (hb hby d1_1) (by decide) (W := 0) (by show 2 * 0 + _ ≤ _; exact Nat.le_of_eq rfl) (by decide)
  obtain ⟨T_2, h_2, X_2, e_2, E_2, A_2, D_2, -, st_2⟩ := newO X_1 hx hZ hown (hw _ (List.mem_of_getElem? (i := 9) rfl)) (hw _ (List.mem_of_getElem? (i := 10) rfl)) (hw _ (List.mem_of_getElem? (i := 11) rfl)) e_1 (g := (mkF m 5 #[.val (.ref a)] [(.ref a)])) rfl (hb hby d1_5) (by decide) (by decide)
  obtain ⟨b_2, g_2⟩ : ∃ z, z = h0.size := ⟨_, rfl⟩
  rw [← g_2] at A_2 D_2 st_2
  have ne_a_b_2 : a ≠ b_2 := Nat.ne_of_lt (Nat.lt_of_lt_of_le E_a.lt (Nat.le_of_eq g_2.symm))
  have g_b_2 : n0 ≤ b_2 := Nat.le_trans Z0 (Nat.le_of_eq g_2.symm)
  have sz_b_2 : h0.size ≤ b_2 := Nat.le_trans (Keep.refl h0 [a]).1 (Nat.le_of_eq g_2.symm)
  have K_2 : Keep h0 h_2 [a] := (Keep.refl h0 [a]).ext E_2
  have Z_3 : n0 ≤ h_2.size := Nat.le_trans Z0 E_2.1
  have F_modCount_b_2 : Fld Z h_2 b_2 "java/util/AbstractList" "modCount" "I" (.int (0 : Int32)) := D_2 (Or.inl (hw _ (List.mem_of_getElem? (i := 29) rfl))) (ty := .int) (by decide)
  have F_elementData_b_2 : Fld Z h_2 b_2 "java/util/ArrayList" "elementData" "[Ljava/lang/Object;" .null := D_2 (Or.inl (hw _ (List.mem_of_getElem? (i := 32) rfl))) (ty := (.array (.object "java/lang/Object"))) (by decide)
  have f_5_O_old := (O_.ext E_2)
  obtain ⟨_, _, ⟨T_4, L_4, k_4, n_4⟩, -, X_4, ⟨Lc_4, hQ_4, l_4, y_4, z_4⟩, st_4⟩ := X_2.specialBack hx (y := (⟨"java/util/ArrayList", "<init>", "()V"⟩ : MethodName)) rfl hown (mvT hZ (hw _ (List.mem_of_getElem? (i := 12) rfl))) (mvT hZ (hw _ (List.mem_of_getElem? (i := 13) rfl))) (mvT hZ (hw _ (List.mem_of_getElem? (i := 14) rfl))) (by decide) (backOf (W := 2) (rm3 l Z a0 hw [] b_2 sd h_2 n0 Z_3 A_2 F_modCount_b_2 F_elementData_b_2 g_b_2 f_5_O_old S_) hZ (hw _ (List.mem_of_getElem? (i := 14) rfl)) (hw _ (List.mem_of_getElem? (i := 11) rfl)) (by decide) (by decide)) (g := (mkF m 9 #[.val (.ref a)] [(.ref b_2), (.ref b_2), (.ref a)])) rfl (by rw [hml]; rfl) (Steps.refl _) (a := b_2) (argsL := []) (rest := [(.ref b_2), (.ref a)]) (lenOf pd_0 rfl) rfl (by show 2 * 0 + _ ≤ _; exact Nat.le_of_eq rfl) (hb hby d1_9) (fun _ _ => ⟨rfl, e_2, (by decide : 1 + 0 ≤ _), (by decide : 3 + 0 ≤ _)⟩)
  dsimp only [Pt.U, Pt.locs, Pt.cells, Pt.slots] at X_4 l_4 y_4 z_4 st_4 hQ_4
  subst l_4 y_4 z_4
  obtain ⟨rfl, Nq_4, Kq_4⟩ := hQ_4
  have N_4 := Fr.app N0 Nq_4
  have KK_4 : Keep h0 T_4.heap [a] := K_2.trans Kq_4 (allS (Or.inr sz_b_2) all0)
  have Z_6 : n0 ≤ T_4.heap.size := Nat.le_trans Z_3 Kq_4.1
  have f_7_E_a := ((E_a.ext E_2).keep Kq_4)
  have f_8_F_a_rows := ((F_rows.ext E_2).keep Kq_4 (ninS ne_a_b_2 nin0))
  obtain ⟨T_9, h_9, X_9, e_9, W_9, st_9⟩ := putF X_4 hx hZ hown (host := "") (Or.inl (hw _ (List.mem_of_getElem? (i := 33) rfl))) Via.refl rfl f_8_F_a_rows f_7_E_a (Or.inr ⟨(hw _ (List.mem_of_getElem? (i := 34) rfl)), rfl, hnm⟩) (hw _ (List.mem_of_getElem? (i := 1) rfl)) (ty := (.object "java/util/List")) (by decide) rfl rfl (g := (mkF m 12 #[.val (.ref a)] [(.ref b_2), (.ref a)])) rfl rfl (hb hby d1_12)
  have Fw_9 := f_8_F_a_rows.same W_9
  have K_9 : Keep h0 h_9 [a] := KK_4.wr W_9 (Or.inl (List.mem_of_getElem? (i := 0) rfl))
  have N_9 := Fr.snoc X_9 N_4 g_a
  have Z_10 : n0 ≤ h_9.size := Nat.le_trans Z_6 (Keep.of_wr W_9).1
  obtain ⟨T_11, h_11, X_11, e_11, E_11, A_11, D_11, -, st_11⟩ := newO X_9 hx hZ hown (hw _ (List.mem_of_getElem? (i := 9) rfl)) (hw _ (List.mem_of_getElem? (i := 10) rfl)) (hw _ (List.mem_of_getElem? (i := 11) rfl)) e_9 (g := (mkF m 16 #[.val (.ref a)] [(.ref a)])) rfl (hb hby d1_16) (by decide) (by decide)
  obtain ⟨b_11, g_11⟩ : ∃ z, z = h_9.size := ⟨_, rfl⟩
  rw [← g_11] at A_11 D_11 st_11
  have f_12_E_a := (f_7_E_a.wr W_9)
  have ne_a_b_11 : a ≠ b_11 := Nat.ne_of_lt (Nat.lt_of_lt_of_le f_12_E_a.lt (Nat.le_of_eq g_11.symm))
  have f_13_E_b_2 := ((A_2.keep Kq_4).wr W_9)
  have ne_b_2_b_11 : b_2 ≠ b_11 := Nat.ne_of_lt (Nat.lt_of_lt_of_le f_13_E_b_2.lt (Nat.le_of_eq g_11.symm))
  have g_b_11 : n0 ≤ b_11 := Nat.le_trans Z_10 (Nat.le_of_eq g_11.symm)
  have sz_b_11 : h0.size ≤ b_11 := Nat.le_trans K_9.1 (Nat.le_of_eq g_11.symm)
  have K_11 : Keep h0 h_11 [a] := K_9.ext E_11
  have Z_14 : n0 ≤ h_11.size := Nat.le_trans Z_10 E_11.1
  have F_modCount_b_11 : Fld Z h_11 b_11 "java/util/AbstractList" "modCount" "I" (.int (0 : Int32)) := D_11 (Or.inl (hw _ (List.mem_of_getElem? (i := 29) rfl))) (ty := .int) (by decide)
  have F_elementData_b_11 : Fld Z h_11 b_11 "java/util/ArrayList" "elementData" "[Ljava/lang/Object;" .null := D_11 (Or.inl (hw _ (List.mem_of_getElem? (i := 32) rfl))) (ty := (.array (.object "java/lang/Object"))) (by decide)
  have f_16_O_old := (((f_5_O_old.keep Kq_4 (allS g_b_2 all0)).wr W_9 g_a).ext E_11)
  obtain ⟨_, _, ⟨T_15, L_15, k_15, n_15⟩, -, X_15, ⟨Lc_15, hQ_15, l_15, y_15, z_15⟩, st_15⟩ := X_11.specialBack hx (y := (⟨"java/util/ArrayList", "<init>", "()V"⟩ : MethodName)) rfl hown (mvT hZ (hw _ (List.mem_of_getElem? (i := 12) rfl))) (mvT hZ (hw _ (List.mem_of_getElem? (i := 13) rfl))) (mvT hZ (hw _ (List.mem_of_getElem? (i := 14) rfl))) (by decide) (backOf (W := 2) (rm3 l Z a0 hw [] b_11 sd h_11 n0 Z_14 A_11 F_modCount_b_11 F_elementData_b_11 g_b_11 f_16_O_old S_) hZ (hw _ (List.mem_of_getElem? (i := 14) rfl)) (hw _ (List.mem_of_getElem? (i := 11) rfl)) (by decide) (by decide)) (g := (mkF m 20 #[.val (.ref a)] [(.ref b_11), (.ref b_11), (.ref a)])) rfl (by rw [hml]; rfl) (Steps.refl _) (a := b_11) (argsL := []) (rest := [(.ref b_11), (.ref a)]) (lenOf pd_0 rfl) rfl (by show 2 * 0 + _ ≤ _; exact Nat.le_of_eq rfl) (hb hby d1_20) (fun _ _ => ⟨rfl, e_11, (by decide : 2 + 0 ≤ _), (by decide : 6 + 0 ≤ _)⟩)
  dsimp only [Pt.U, Pt.locs, Pt.cells, Pt.slots] at X_15 l_15 y_15 z_15 st_15 hQ_15
  subst l_15 y_15 z_15
  obtain ⟨rfl, Nq_15, Kq_15⟩ := hQ_15
  have N_15 := Fr.app N_9 Nq_15
  have KK_15 : Keep h0 T_15.heap [a] := K_11.trans Kq_15 (allS (Or.inr sz_b_11) all0)
  have Z_17 : n0 ≤ T_15.heap.size := Nat.le_trans Z_14 Kq_15.1
  have f_18_E_a := ((f_12_E_a.ext E_11).keep Kq_15)
  have f_19_F_a_bounds := (((((F_bounds.ext E_2).keep Kq_4 (ninS ne_a_b_2 nin0)).other W_9 (Or.inr (slot_ne (Or.inr (hw _ (List.mem_of_getElem? (i := 36) rfl))) (Or.inr (hw _ (List.mem_of_getElem? (i := 34) rfl))) (by decide) (t := (.object "java/util/List")) (t' := (.object "java/util/List")) (by decide) (by decide)))).ext E_11).keep Kq_15 (ninS ne_a_b_11 nin0))
  obtain ⟨T_20, h_20, X_20, e_20, W_20, st_20⟩ := putF X_15 hx hZ hown (host := "") (Or.inl (hw _ (List.mem_of_getElem? (i := 35) rfl))) Via.refl rfl f_19_F_a_bounds f_18_E_a (Or.inr ⟨(hw _ (List.mem_of_getElem? (i := 36) rfl)), rfl, hnm⟩) (hw _ (List.mem_of_getElem? (i := 1) rfl)) (ty := (.object "java/util/List")) (by decide) rfl rfl (g := (mkF m 23 #[.val (.ref a)] [(.ref b_11), (.ref a)])) rfl rfl (hb hby d1_23)
  have Fw_20 := f_19_F_a_bounds.same W_20
  have K_20 : Keep h0 h_20 [a] := KK_15.wr W_20 (Or.inl (List.mem_of_getElem? (i := 0) rfl))
  have N_20 := Fr.snoc X_20 N_15 g_a
  have Z_21 : n0 ≤ h_20.size := Nat.le_trans Z_17 (Keep.of_wr W_20).1
  have f_22_F_a_variables := ((((((F_variables.ext E_2).keep Kq_4 (ninS ne_a_b_2 nin0)).other W_9 (Or.inr (slot_ne (Or.inl (hw _ (List.mem_of_getElem? (i := 43) rfl))) (Or.inr (hw _ (List.mem_of_getElem? (i := 34) rfl))) (by decide) (t := .int) (t' := (.object "java/util/List")) (by decide) (by decide)))).ext E_11).keep Kq_15 (ninS ne_a_b_11 nin0)).other W_20 (Or.inr (slot_ne (Or.inl (hw _ (List.mem_of_getElem? (i := 43) rfl))) (Or.inr (hw _ (List.mem_of_getElem? (i := 36) rfl))) (by decide) (t := .int) (t' := (.object "java/util/List")) (by decide) (by decide))))
  obtain ⟨fs, hr, hrun, hended, hW, hsame⟩ := X_20.leave (v := none) (fun _ => rfl)
  refine ⟨_, _, pre0 _ ?_, hrun, hended, _, _, rfl, ?_, ⟨_, rfl⟩, hW, hsame.mono (by decide) (by decide)⟩
  · show Steps p.tables e below (s₁.setTop (mkF m 0 #[.val (.ref a)] [])) _
    refine XS.aloadN X0.here hx rfl (hb hby d1_0) rfl rfl ?_
    show Steps p.tables e below (s₁.setTop (mkF m 1 #[.val (.ref a)] [(.ref a)])) _
    refine st_1 _ ?_
    show Steps p.tables e below (T_1.setTop (mkF m 4 #[.val (.ref a)] [])) _
    refine XS.aloadN X_1.here hx rfl (hb hby d1_4) rfl rfl ?_
    show Steps p.tables e below (T_1.setTop (mkF m 5 #[.val (.ref a)] [(.ref a)])) _
    refine st_2 _ ?_
    show Steps p.tables e below (T_2.setTop (mkF m 8 #[.val (.ref a)] [(.ref b_2), (.ref a)])) _
    refine XS.dup X_2.here hx rfl (hb hby d1_8) rfl rfl ?_
    show Steps p.tables e below (T_2.setTop (mkF m 9 #[.val (.ref a)] [(.ref b_2), (.ref b_2), (.ref a)])) _
    refine st_4.trans ?_
    show Steps p.tables e below (T_4.setTop (mkF m 12 #[.val (.ref a)] [(.ref b_2), (.ref a)])) _
    refine st_9 _ ?_
    show Steps p.tables e below (T_9.setTop (mkF m 15 #[.val (.ref a)] [])) _
    refine XS.aloadN X_9.here hx rfl (hb hby d1_15) rfl rfl ?_
    show Steps p.tables e below (T_9.setTop (mkF m 16 #[.val (.ref a)] [(.ref a)])) _
    refine st_11 _ ?_
    show Steps p.tables e below (T_11.setTop (mkF m 19 #[.val (.ref a)] [(.ref b_11), (.ref a)])) _
    refine XS.dup X_11.here hx rfl (hb hby d1_19) rfl rfl ?_
    show Steps p.tables e below (T_11.setTop (mkF m 20 #[.val (.ref a)] [(.ref b_11), (.ref b_11), (.ref a)])) _
    refine st_15.trans ?_
    show Steps p.tables e below (T_15.setTop (mkF m 23 #[.val (.ref a)] [(.ref b_11), (.ref a)])) _
    refine st_20 _ ?_
    show Steps p.tables e below (T_20.setTop (mkF m 26 #[.val (.ref a)] [])) _
    exact X_20.returnOut hx Bd.returns (hb hby d1_26) hr
  · show Q1 Z a sd h0 n0 _ T_20.heap _
    rw [e_20]
    exact ⟨rfl, N_20, K_20, f_22_F_a_variables⟩
theorem d6_0 : decode prog_27_method_2_code 0 = .ok (.aload_n 0, 1) := by decide +kernel
theorem d6_1 : decode prog_27_method_2_code 1 = .ok (.dup, 1) := by decide +kernel
theorem d6_2 : decode prog_27_method_2_code 2 = .ok (.getfield 19, 3) := by decide +kernel
theorem d6_5 : decode prog_27_method_2_code 5 = .ok (.dup_x1, 1) := by decide +kernel
theorem d6_6 : decode prog_27_method_2_code 6 = .ok (.iconst 1, 1) := by decide +kernel
theorem d6_7 : decode prog_27_method_2_code 7 = .ok (.iadd, 1) := by decide +kernel
theorem d6_8 : decode prog_27_method_2_code 8 = .ok (.putfield 19, 3) := by decide +kernel
theorem d6_11 : decode prog_27_method_2_code 11 = .ok (.ireturn, 1) := by decide +kernel
def Q6 (Z : State) (a : Addr) (x : Int32) (y : Int32) (h0 : Heap) (n0 : Nat) (v : Option Value) (h : Heap) (L : List Loc) : Prop := v = some (.int x) ∧ Fr n0 L ∧ Keep h0 h [a] ∧ Fld Z h a "com/example/arrivals_to_bounds/arrivalstobounds/LinearProgram" "variables" "I" (.int y)
theorem pn_6 : plainName "com/example/arrivals_to_bounds/arrivalstobounds/LinearProgram" = true := by first | (simp [plainName, overriddenIn]; done) | decide +kernel
theorem ef_6 (m : MethodId) (x0 : Addr) : entryFrame m #[(.ref x0)] 1 = mkF m 0 #[.val (.ref x0)] [] := by first | (simp [entryFrame, mkF, argsToLocals, Value.category]; done) | rfl
set_option maxRecDepth 65536 in
set_option maxHeartbeats 40000000 in
theorem rm6 (l : Launch) (Z : State) (a0 : Array Value) (hw : ∀ d ∈ tables_1, d.before a0 Z = true) (ws : List Jvm.Cond) (a : Addr) (x : Int32) (y : Int32) (h0 : Heap) (n0 : Nat) (Z0 : n0 ≤ h0.size) (E_a : Exa Z h0 a "com/example/arrivals_to_bounds/arrivalstobounds/LinearProgram") (F_v : Fld Z h0 a "com/example/arrivals_to_bounds/arrivalstobounds/LinearProgram" "variables" "I" (.int x)) (g_a : n0 ≤ a) (hy_ : (x + (1 : Int32)) = y) :
    MetFree l (⟨"com/example/arrivals_to_bounds/arrivalstobounds/LinearProgram", "variable", "()I"⟩ : MethodName) (head1 (Jvm.Cond.code (⟨"com/example/arrivals_to_bounds/arrivalstobounds/LinearProgram", "variable", "()I"⟩ : MethodName) prog_27_method_2_code 1 (some .int) :: ws) ({ frames := 0, cells := 0, slots := 0, locals := 0 } : Room)) (fun as_ U => as_ = #[(.ref a)] ∧ Z.Warmed39 U.vm ∧ U.heap = h0) (fun _ _ _ _ _ => True) (fun _ U o U' => ∃ v L, o = .returned v ∧ Q6 Z a x y h0 n0 v U'.heap L ∧ FrameEnd U o U' L ({ frames := 0, cells := 0, slots := 0, locals := 0 } : Room).cells ({ frames := 0, cells := 0, slots := 0, locals := 0 } : Room).slots) := by
  refine MetFree.of_bodySF (plainFor_of_name pn_6) hisR ?_
  intro p e s m args below meth c s₁ Bd hml0 hP hK
  obtain ⟨rfl, hZ, hh⟩ := hP
  have hx := Bd.exec
  have hby := Bd.bytes
  have hml : c.maxLocals = 1 := hml0
  have hown : s.vm.findClass "com/example/arrivals_to_bounds/arrivalstobounds/LinearProgram" = some m.cls := findClass_of_methodNamed Bd.named
  have hnm := (name_of_methodNamed Bd.named Bd.method).1
  have X0 : Stand p l e ({ frames := 0, cells := 0, slots := 0, locals := 0 } : Room) s m #[(.ref a)] below meth c s₁ [] 0 0 := Stand.of_body Bd
  have e0 : s₁.heap = h0 := by rw [← hh, Bd.state]; rfl
  have N0 := Fr.nil n0
  have pre0 : ∀ t, Steps p.tables e below (s₁.setTop (mkF m 0 #[.val (.ref a)] [])) t → Steps p.tables e below (s₁.setTop (entryFrame m #[(.ref a)] 1)) t := fun t k => castTop (ef_6 m a) k
  obtain ⟨T_1, X_1, e_1, st_1⟩ := getF X0 hx hZ hown (host := "") (Or.inl (hw _ (List.mem_of_getElem? (i := 42) rfl))) Via.refl e0 F_v (g := (mkF m 2 #[.val (.ref a)] [(.ref a), (.ref a)])) rfl rfl (hb hby d6_2)
  obtain ⟨T_2, h_2, X_2, e_2, W_2, st_2⟩ := putF X_1 hx hZ hown (host := "") (Or.inl (hw _ (List.mem_of_getElem? (i := 42) rfl))) Via.refl e_1 F_v E_a (Or.inl (hw _ (List.mem_of_getElem? (i := 43) rfl))) (hw _ (List.mem_of_getElem? (i := 1) rfl)) (ty := .int) (by decide) rfl rfl (g := (mkF m 8 #[.val (.ref a)] [(.int y), (.ref a), (.int x)])) rfl rfl (hb hby d6_8)
  have Fw_2 := F_v.same W_2
  have K_2 : Keep h0 h_2 [a] := (Keep.refl h0 [a]).wr W_2 (Or.inl (List.mem_of_getElem? (i := 0) rfl))
  have N_2 := Fr.snoc X_2 N0 g_a
  have Z_3 : n0 ≤ h_2.size := Nat.le_trans Z0 (Keep.of_wr W_2).1
  obtain ⟨fs, hr, hrun, hended, hW, hsame⟩ := X_2.leave (v := some (.int x)) (fun h => by rw [Bd.returns] at h; cases h)
  refine ⟨_, _, pre0 _ ?_, hrun, hended, _, _, rfl, ?_, ⟨_, rfl⟩, hW, hsame.mono (by decide) (by decide)⟩
  · show Steps p.tables e below (s₁.setTop (mkF m 0 #[.val (.ref a)] [])) _
    refine XS.aloadN X0.here hx rfl (hb hby d6_0) rfl rfl ?_
    show Steps p.tables e below (s₁.setTop (mkF m 1 #[.val (.ref a)] [(.ref a)])) _
    refine XS.dup X0.here hx rfl (hb hby d6_1) rfl rfl ?_
    show Steps p.tables e below (s₁.setTop (mkF m 2 #[.val (.ref a)] [(.ref a), (.ref a)])) _
    refine st_1 _ ?_
    show Steps p.tables e below (T_1.setTop (mkF m 5 #[.val (.ref a)] [(.int x), (.ref a)])) _
    refine XS.dupX1 X_1.here hx rfl (hb hby d6_5) rfl rfl rfl ?_
    show Steps p.tables e below (T_1.setTop (mkF m 6 #[.val (.ref a)] [(.int x), (.ref a), (.int x)])) _
    refine XS.iconst X_1.here hx rfl (hb hby d6_6) ?_
    show Steps p.tables e below (T_1.setTop (mkF m 7 #[.val (.ref a)] [(.int (1 : Int32)), (.int x), (.ref a), (.int x)])) _
    refine XS.iadd X_1.here hx rfl (hb hby d6_7) rfl ?_
    show Steps p.tables e below (T_1.setTop (mkF m 8 #[.val (.ref a)] [(.int (x + (1 : Int32))), (.ref a), (.int x)])) _
    rw [hy_]
    show Steps p.tables e below (T_1.setTop (mkF m 8 #[.val (.ref a)] [(.int y), (.ref a), (.int x)])) _
    refine st_2 _ ?_
    show Steps p.tables e below (T_2.setTop (mkF m 11 #[.val (.ref a)] [(.int x)])) _
    exact retI X_2 hx Bd.returns (hb hby d6_11) hr
  · show Q6 Z a x y h0 n0 _ T_2.heap _
    rw [e_2]
    exact ⟨rfl, N_2, K_2, Fw_2⟩
theorem pd_1 : parseMethodDescriptor "()I" = some ⟨[], some .int⟩ := by decide +kernel
def Q0 (Z : State)  (h0 : Heap) (n0 : Nat) (v : Option Value) (h : Heap) (L : List Loc) : Prop := v = some (.int 1) ∧ Fr n0 L
theorem pn_0 : plainName "com/example/arrivals_to_bounds/arrivalstobounds/LinearProgramVariablePinLaw" = true := by first | (simp [plainName, overriddenIn]; done) | decide +kernel
theorem ef_0 (m : MethodId) (x0 : Int32) : entryFrame m #[(.int x0)] maxLocals = mkF m 0 #[.val (.int x0), .unset, .unset, .unset, .unset] [] := by first | (simp [entryFrame, mkF, argsToLocals, Value.category, maxLocals]; done) | rfl
set_option maxRecDepth 65536 in
set_option maxHeartbeats 40000000 in
theorem rm0_0 (l : Launch) (Z : State) (a0 : Array Value) (hw : ∀ d ∈ tables_1, d.before a0 Z = true) (ws : List Jvm.Cond) (p1 : Int32) (sd : Addr) (h0 : Heap) (n0 : Nat) (Z0 : n0 ≤ h0.size) (O_ : Old Z n0 h0) (S_ : Sta Z Z.heap "java/util/ArrayList" "DEFAULTCAPACITY_EMPTY_ELEMENTDATA" "[Ljava/lang/Object;" (.ref sd)) (hk_ : (p1 &&& (3 : Int32)) = (0 : Int32)) :
    MetFree l x (head1 (Jvm.Cond.code x code maxLocals ret :: ws) room_1) (fun as_ U => as_ = #[(.int p1)] ∧ Z.Warmed39 U.vm ∧ U.heap = h0) (fun _ _ _ _ _ => True) (fun _ U o U' => ∃ v L, o = .returned v ∧ Q0 Z  h0 n0 v U'.heap L ∧ FrameEnd U o U' L 6 18) := by
  refine MetFree.of_bodySF (plainFor_of_name pn_0) hisR ?_
  intro p e s m args below meth c s₁ Bd hml0 hP hK
  obtain ⟨rfl, hZ, hh⟩ := hP
  have hx := Bd.exec
  have hby := Bd.bytes
  have hml : c.maxLocals = 5 := hml0
  have hown : s.vm.findClass "com/example/arrivals_to_bounds/arrivalstobounds/LinearProgramVariablePinLaw" = some m.cls := findClass_of_methodNamed Bd.named
  have hnm := (name_of_methodNamed Bd.named Bd.method).1
  have X0 : Stand p l e room_1 s m #[(.int p1)] below meth c s₁ [] 0 0 := Stand.of_body Bd
  have e0 : s₁.heap = h0 := by rw [← hh, Bd.state]; rfl
  have N0 := Fr.nil n0
  have pre0 : ∀ t, Steps p.tables e below (s₁.setTop (mkF m 0 #[.val (.int p1), .unset, .unset, .unset, .unset] [])) t → Steps p.tables e below (s₁.setTop (entryFrame m #[(.int p1)] maxLocals)) t := fun t k => castTop (ef_0 m p1) k
  obtain ⟨T_1, h_1, X_1, e_1, E_1, A_1, D_1, -, st_1⟩ := newO X0 hx hZ hown (hw _ (List.mem_of_getElem? (i := 0) rfl)) (hw _ (List.mem_of_getElem? (i := 1) rfl)) (hw _ (List.mem_of_getElem? (i := 2) rfl)) e0 (g := (mkF m 4 #[.val (.int p1), .val (.int (0 : Int32)), .unset, .unset, .unset] [])) rfl (hb hby at_4) (by decide) (by decide)
  obtain ⟨b_1, g_1⟩ : ∃ z, z = h0.size := ⟨_, rfl⟩
  rw [← g_1] at A_1 D_1 st_1
  have g_b_1 : n0 ≤ b_1 := Nat.le_trans Z0 (Nat.le_of_eq g_1.symm)
  have sz_b_1 : h0.size ≤ b_1 := Nat.le_trans (Keep.refl h0 []).1 (Nat.le_of_eq g_1.symm)
  have K_1 : Keep h0 h_1 [] := (Keep.refl h0 []).ext E_1
  have Z_2 : n0 ≤ h_1.size := Nat.le_trans Z0 E_1.1
  have F_rows_b_1 : Fld Z h_1 b_1 "com/example/arrivals_to_bounds/arrivalstobounds/LinearProgram" "rows" "Ljava/util/List;" .null := D_1 (Or.inr (hw _ (List.mem_of_getElem? (i := 34) rfl))) (ty := (.object "java/util/List")) (by decide)
  have F_bounds_b_1 : Fld Z h_1 b_1 "com/example/arrivals_to_bounds/arrivalstobounds/LinearProgram" "bounds" "Ljava/util/List;" .null := D_1 (Or.inr (hw _ (List.mem_of_getElem? (i := 36) rfl))) (ty := (.object "java/util/List")) (by decide)
  have F_variables_b_1 : Fld Z h_1 b_1 "com/example/arrivals_to_bounds/arrivalstobounds/LinearProgram" "variables" "I" (.int (0 : Int32)) := D_1 (Or.inl (hw _ (List.mem_of_getElem? (i := 43) rfl))) (ty := .int) (by decide)
  have f_4_O_old := (O_.ext E_1)
  obtain ⟨_, _, ⟨T_3, L_3, k_3, n_3⟩, -, X_3, ⟨Lc_3, hQ_3, l_3, y_3, z_3⟩, st_3⟩ := X_1.specialBack hx (y := (⟨"com/example/arrivals_to_bounds/arrivalstobounds/LinearProgram", "<init>", "()V"⟩ : MethodName)) rfl hown (mvT hZ (hw _ (List.mem_of_getElem? (i := 3) rfl))) (mvT hZ (hw _ (List.mem_of_getElem? (i := 4) rfl))) (mvT hZ (hw _ (List.mem_of_getElem? (i := 5) rfl))) (by decide) (backOf (W := 1) (rm1 l Z a0 hw [] b_1 sd h_1 n0 Z_2 A_1 F_rows_b_1 F_bounds_b_1 F_variables_b_1 g_b_1 f_4_O_old S_) hZ (hw _ (List.mem_of_getElem? (i := 5) rfl)) (hw _ (List.mem_of_getElem? (i := 2) rfl)) (by decide) (by decide)) (g := (mkF m 8 #[.val (.int p1), .val (.int (0 : Int32)), .unset, .unset, .unset] [(.ref b_1), (.ref b_1)])) rfl (by rw [hml]; rfl) (Steps.refl _) (a := b_1) (argsL := []) (rest := [(.ref b_1)]) (lenOf pd_0 rfl) rfl (by show 2 * 0 + _ ≤ _; exact Nat.le_of_eq rfl) (hb hby at_8) (fun _ _ => ⟨rfl, e_1, (by decide : 1 + 2 ≤ _), (by decide : 3 + 6 ≤ _)⟩)
  dsimp only [Pt.U, Pt.locs, Pt.cells, Pt.slots] at X_3 l_3 y_3 z_3 st_3 hQ_3
  subst l_3 y_3 z_3
  obtain ⟨rfl, Nq_3, Kq_3, Fv_3⟩ := hQ_3
  have N_3 := Fr.app N0 Nq_3
  have KK_3 : Keep h0 T_3.heap [] := K_1.trans Kq_3 (allS (Or.inr sz_b_1) all0)
  have Z_5 : n0 ≤ T_3.heap.size := Nat.le_trans Z_2 Kq_3.1
  obtain ⟨T_6, h_6, X_6, e_6, E_6, A_6, D_6, -, st_6⟩ := newO X_3 hx hZ hown (hw _ (List.mem_of_getElem? (i := 0) rfl)) (hw _ (List.mem_of_getElem? (i := 1) rfl)) (hw _ (List.mem_of_getElem? (i := 2) rfl)) rfl (g := (mkF m 76 #[.val (.int p1), .val (.int (0 : Int32)), .val (.ref b_1), .val (.int (1 : Int32)), .unset] [])) rfl (hb hby at_76) (by decide) (by decide)
  obtain ⟨b_6, g_6⟩ : ∃ z, z = T_3.heap.size := ⟨_, rfl⟩
  rw [← g_6] at A_6 D_6 st_6
  have f_7_E_b_1 := (A_1.keep Kq_3)
  have ne_b_1_b_6 : b_1 ≠ b_6 := Nat.ne_of_lt (Nat.lt_of_lt_of_le f_7_E_b_1.lt (Nat.le_of_eq g_6.symm))
  have g_b_6 : n0 ≤ b_6 := Nat.le_trans Z_5 (Nat.le_of_eq g_6.symm)
  have sz_b_6 : h0.size ≤ b_6 := Nat.le_trans KK_3.1 (Nat.le_of_eq g_6.symm)
  have K_6 : Keep h0 h_6 [] := KK_3.ext E_6
  have Z_8 : n0 ≤ h_6.size := Nat.le_trans Z_5 E_6.1
  have F_rows_b_6 : Fld Z h_6 b_6 "com/example/arrivals_to_bounds/arrivalstobounds/LinearProgram" "rows" "Ljava/util/List;" .null := D_6 (Or.inr (hw _ (List.mem_of_getElem? (i := 34) rfl))) (ty := (.object "java/util/List")) (by decide)
  have F_bounds_b_6 : Fld Z h_6 b_6 "com/example/arrivals_to_bounds/arrivalstobounds/LinearProgram" "bounds" "Ljava/util/List;" .null := D_6 (Or.inr (hw _ (List.mem_of_getElem? (i := 36) rfl))) (ty := (.object "java/util/List")) (by decide)
  have F_variables_b_6 : Fld Z h_6 b_6 "com/example/arrivals_to_bounds/arrivalstobounds/LinearProgram" "variables" "I" (.int (0 : Int32)) := D_6 (Or.inl (hw _ (List.mem_of_getElem? (i := 43) rfl))) (ty := .int) (by decide)
  have f_10_O_old := ((f_4_O_old.keep Kq_3 (allS g_b_1 all0)).ext E_6)
  obtain ⟨_, _, ⟨T_9, L_9, k_9, n_9⟩, -, X_9, ⟨Lc_9, hQ_9, l_9, y_9, z_9⟩, st_9⟩ := X_6.specialBack hx (y := (⟨"com/example/arrivals_to_bounds/arrivalstobounds/LinearProgram", "<init>", "()V"⟩ : MethodName)) rfl hown (mvT hZ (hw _ (List.mem_of_getElem? (i := 3) rfl))) (mvT hZ (hw _ (List.mem_of_getElem? (i := 4) rfl))) (mvT hZ (hw _ (List.mem_of_getElem? (i := 5) rfl))) (by decide) (backOf (W := 1) (rm1 l Z a0 hw [] b_6 sd h_6 n0 Z_8 A_6 F_rows_b_6 F_bounds_b_6 F_variables_b_6 g_b_6 f_10_O_old S_) hZ (hw _ (List.mem_of_getElem? (i := 5) rfl)) (hw _ (List.mem_of_getElem? (i := 2) rfl)) (by decide) (by decide)) (g := (mkF m 80 #[.val (.int p1), .val (.int (0 : Int32)), .val (.ref b_1), .val (.int (1 : Int32)), .unset] [(.ref b_6), (.ref b_6)])) rfl (by rw [hml]; rfl) (Steps.refl _) (a := b_6) (argsL := []) (rest := [(.ref b_6)]) (lenOf pd_0 rfl) rfl (by show 2 * 0 + _ ≤ _; exact Nat.le_of_eq rfl) (hb hby at_80) (fun _ _ => ⟨rfl, e_6, (by decide : 4 + 2 ≤ _), (by decide : 12 + 6 ≤ _)⟩)
  dsimp only [Pt.U, Pt.locs, Pt.cells, Pt.slots] at X_9 l_9 y_9 z_9 st_9 hQ_9
  subst l_9 y_9 z_9
  obtain ⟨rfl, Nq_9, Kq_9, Fv_9⟩ := hQ_9
  have N_9 := Fr.app N_3 Nq_9
  have KK_9 : Keep h0 T_9.heap [] := K_6.trans Kq_9 (allS (Or.inr sz_b_6) all0)
  have Z_11 : n0 ≤ T_9.heap.size := Nat.le_trans Z_8 Kq_9.1
  have f_13_E_b_6 := (A_6.keep Kq_9)
  obtain ⟨cq_12, kq_12, q_12a, q_12b, q_12c⟩ := isOf hZ rfl f_13_E_b_6
  obtain ⟨_, _, ⟨T_12, L_12, k_12, n_12⟩, -, X_12, ⟨Lc_12, hQ_12, l_12, y_12, z_12⟩, st_12⟩ := X_9.virtualBack hx (y := (⟨"com/example/arrivals_to_bounds/arrivalstobounds/LinearProgram", "variable", "()I"⟩ : MethodName)) (z := (⟨"com/example/arrivals_to_bounds/arrivalstobounds/LinearProgram", "variable", "()I"⟩ : MethodName)) hown (mvT hZ (hw _ (List.mem_of_getElem? (i := 37) rfl))) (mvT hZ (hw _ (List.mem_of_getElem? (i := 38) rfl))) (notFace_of_selects (args := #[]) (mvT hZ (hw _ (List.mem_of_getElem? (i := 40) rfl)))) (mvT hZ (hw _ (List.mem_of_getElem? (i := 40) rfl))) (mvT hZ (hw _ (List.mem_of_getElem? (i := 39) rfl))) (by decide) (backOf (W := 1) (rm6 l Z a0 hw [] b_6 (0 : Int32) (1 : Int32) T_9.heap n0 Z_11 f_13_E_b_6 Fv_9 g_b_6 (by decide)) hZ (hw _ (List.mem_of_getElem? (i := 41) rfl)) (hw _ (List.mem_of_getElem? (i := 2) rfl)) (by decide) (by decide)) q_12a q_12c (g := (mkF m 88 #[.val (.int p1), .val (.int (0 : Int32)), .val (.ref b_1), .val (.int (1 : Int32)), .val (.ref b_6)] [(.ref b_6), (.int (1 : Int32))])) rfl (by rw [hml]; rfl) (Steps.refl _) (argsL := []) (rest := [(.int (1 : Int32))]) (lenOf pd_1 rfl) rfl (by show 2 * 0 + _ ≤ _; exact Nat.le_of_eq rfl) (hb hby at_88) (fun _ _ => ⟨rfl, rfl, (by decide : 6 + 0 ≤ _), (by decide : 18 + 0 ≤ _)⟩)
  dsimp only [Pt.U, Pt.locs, Pt.cells, Pt.slots] at X_12 l_12 y_12 z_12 st_12 hQ_12
  subst l_12 y_12 z_12
  obtain ⟨rfl, Nq_12, Kq_12, Fv_12⟩ := hQ_12
  have N_12 := Fr.app N_9 Nq_12
  have KK_12 : Keep h0 T_12.heap [] := KK_9.trans Kq_12 (allS (Or.inr sz_b_6) all0)
  have Z_14 : n0 ≤ T_12.heap.size := Nat.le_trans Z_11 Kq_12.1
  have f_16_E_b_1 := (((f_7_E_b_1.ext E_6).keep Kq_9).keep Kq_12)
  have f_17_F_b_1_variables := (((Fv_3.ext E_6).keep Kq_9 (ninS ne_b_1_b_6 nin0)).keep Kq_12 (ninS ne_b_1_b_6 nin0))
  obtain ⟨cq_15, kq_15, q_15a, q_15b, q_15c⟩ := isOf hZ rfl f_16_E_b_1
  obtain ⟨_, _, ⟨T_15, L_15, k_15, n_15⟩, -, X_15, ⟨Lc_15, hQ_15, l_15, y_15, z_15⟩, st_15⟩ := X_12.virtualBack hx (y := (⟨"com/example/arrivals_to_bounds/arrivalstobounds/LinearProgram", "variable", "()I"⟩ : MethodName)) (z := (⟨"com/example/arrivals_to_bounds/arrivalstobounds/LinearProgram", "variable", "()I"⟩ : MethodName)) hown (mvT hZ (hw _ (List.mem_of_getElem? (i := 37) rfl))) (mvT hZ (hw _ (List.mem_of_getElem? (i := 38) rfl))) (notFace_of_selects (args := #[]) (mvT hZ (hw _ (List.mem_of_getElem? (i := 40) rfl)))) (mvT hZ (hw _ (List.mem_of_getElem? (i := 40) rfl))) (mvT hZ (hw _ (List.mem_of_getElem? (i := 39) rfl))) (by decide) (backOf (W := 1) (rm6 l Z a0 hw [] b_1 (0 : Int32) (1 : Int32) T_12.heap n0 Z_14 f_16_E_b_1 f_17_F_b_1_variables g_b_1 (by decide)) hZ (hw _ (List.mem_of_getElem? (i := 41) rfl)) (hw _ (List.mem_of_getElem? (i := 2) rfl)) (by decide) (by decide)) q_15a q_15c (g := (mkF m 103 #[.val (.int p1), .val (.int (0 : Int32)), .val (.ref b_1), .val (.int (1 : Int32)), .val (.ref b_6)] [(.ref b_1), (.int (1 : Int32))])) rfl (by rw [hml]; rfl) (Steps.refl _) (argsL := []) (rest := [(.int (1 : Int32))]) (lenOf pd_1 rfl) rfl (by show 2 * 0 + _ ≤ _; exact Nat.le_of_eq rfl) (hb hby at_103) (fun _ _ => ⟨rfl, rfl, (by decide : 6 + 0 ≤ _), (by decide : 18 + 0 ≤ _)⟩)
  dsimp only [Pt.U, Pt.locs, Pt.cells, Pt.slots] at X_15 l_15 y_15 z_15 st_15 hQ_15
  subst l_15 y_15 z_15
  obtain ⟨rfl, Nq_15, Kq_15, Fv_15⟩ := hQ_15
  have N_15 := Fr.app N_12 Nq_15
  have KK_15 : Keep h0 T_15.heap [] := KK_12.trans Kq_15 (allS (Or.inr sz_b_1) all0)
  have Z_18 : n0 ≤ T_15.heap.size := Nat.le_trans Z_14 Kq_15.1
  have f_20_E_b_6 := ((f_13_E_b_6.keep Kq_12).keep Kq_15)
  have f_21_F_b_6_variables := (Fv_12.keep Kq_15 (ninS (Ne.symm ne_b_1_b_6) nin0))
  obtain ⟨cq_19, kq_19, q_19a, q_19b, q_19c⟩ := isOf hZ rfl f_20_E_b_6
  obtain ⟨_, _, ⟨T_19, L_19, k_19, n_19⟩, -, X_19, ⟨Lc_19, hQ_19, l_19, y_19, z_19⟩, st_19⟩ := X_15.virtualBack hx (y := (⟨"com/example/arrivals_to_bounds/arrivalstobounds/LinearProgram", "variable", "()I"⟩ : MethodName)) (z := (⟨"com/example/arrivals_to_bounds/arrivalstobounds/LinearProgram", "variable", "()I"⟩ : MethodName)) hown (mvT hZ (hw _ (List.mem_of_getElem? (i := 37) rfl))) (mvT hZ (hw _ (List.mem_of_getElem? (i := 38) rfl))) (notFace_of_selects (args := #[]) (mvT hZ (hw _ (List.mem_of_getElem? (i := 40) rfl)))) (mvT hZ (hw _ (List.mem_of_getElem? (i := 40) rfl))) (mvT hZ (hw _ (List.mem_of_getElem? (i := 39) rfl))) (by decide) (backOf (W := 1) (rm6 l Z a0 hw [] b_6 (1 : Int32) (2 : Int32) T_15.heap n0 Z_18 f_20_E_b_6 f_21_F_b_6_variables g_b_6 (by decide)) hZ (hw _ (List.mem_of_getElem? (i := 41) rfl)) (hw _ (List.mem_of_getElem? (i := 2) rfl)) (by decide) (by decide)) q_19a q_19c (g := (mkF m 120 #[.val (.int p1), .val (.int (0 : Int32)), .val (.ref b_1), .val (.int (1 : Int32)), .val (.ref b_6)] [(.ref b_6), (.int (1 : Int32))])) rfl (by rw [hml]; rfl) (Steps.refl _) (argsL := []) (rest := [(.int (1 : Int32))]) (lenOf pd_1 rfl) rfl (by show 2 * 0 + _ ≤ _; exact Nat.le_of_eq rfl) (hb hby at_120) (fun _ _ => ⟨rfl, rfl, (by decide : 6 + 0 ≤ _), (by decide : 18 + 0 ≤ _)⟩)
  dsimp only [Pt.U, Pt.locs, Pt.cells, Pt.slots] at X_19 l_19 y_19 z_19 st_19 hQ_19
  subst l_19 y_19 z_19
  obtain ⟨rfl, Nq_19, Kq_19, Fv_19⟩ := hQ_19
  have N_19 := Fr.app N_15 Nq_19
  have KK_19 : Keep h0 T_19.heap [] := KK_15.trans Kq_19 (allS (Or.inr sz_b_6) all0)
  have Z_22 : n0 ≤ T_19.heap.size := Nat.le_trans Z_18 Kq_19.1
  have f_24_E_b_1 := ((f_16_E_b_1.keep Kq_15).keep Kq_19)
  have f_25_F_b_1_variables := (Fv_15.keep Kq_19 (ninS ne_b_1_b_6 nin0))
  obtain ⟨cq_23, kq_23, q_23a, q_23b, q_23c⟩ := isOf hZ rfl f_24_E_b_1
  obtain ⟨_, _, ⟨T_23, L_23, k_23, n_23⟩, -, X_23, ⟨Lc_23, hQ_23, l_23, y_23, z_23⟩, st_23⟩ := X_19.virtualBack hx (y := (⟨"com/example/arrivals_to_bounds/arrivalstobounds/LinearProgram", "variable", "()I"⟩ : MethodName)) (z := (⟨"com/example/arrivals_to_bounds/arrivalstobounds/LinearProgram", "variable", "()I"⟩ : MethodName)) hown (mvT hZ (hw _ (List.mem_of_getElem? (i := 37) rfl))) (mvT hZ (hw _ (List.mem_of_getElem? (i := 38) rfl))) (notFace_of_selects (args := #[]) (mvT hZ (hw _ (List.mem_of_getElem? (i := 40) rfl)))) (mvT hZ (hw _ (List.mem_of_getElem? (i := 40) rfl))) (mvT hZ (hw _ (List.mem_of_getElem? (i := 39) rfl))) (by decide) (backOf (W := 1) (rm6 l Z a0 hw [] b_1 (1 : Int32) (2 : Int32) T_19.heap n0 Z_22 f_24_E_b_1 f_25_F_b_1_variables g_b_1 (by decide)) hZ (hw _ (List.mem_of_getElem? (i := 41) rfl)) (hw _ (List.mem_of_getElem? (i := 2) rfl)) (by decide) (by decide)) q_23a q_23c (g := (mkF m 136 #[.val (.int p1), .val (.int (0 : Int32)), .val (.ref b_1), .val (.int (1 : Int32)), .val (.ref b_6)] [(.ref b_1), (.int (1 : Int32))])) rfl (by rw [hml]; rfl) (Steps.refl _) (argsL := []) (rest := [(.int (1 : Int32))]) (lenOf pd_1 rfl) rfl (by show 2 * 0 + _ ≤ _; exact Nat.le_of_eq rfl) (hb hby at_136) (fun _ _ => ⟨rfl, rfl, (by decide : 6 + 0 ≤ _), (by decide : 18 + 0 ≤ _)⟩)
  dsimp only [Pt.U, Pt.locs, Pt.cells, Pt.slots] at X_23 l_23 y_23 z_23 st_23 hQ_23
  subst l_23 y_23 z_23
  obtain ⟨rfl, Nq_23, Kq_23, Fv_23⟩ := hQ_23
  have N_23 := Fr.app N_19 Nq_23
  have KK_23 : Keep h0 T_23.heap [] := KK_19.trans Kq_23 (allS (Or.inr sz_b_1) all0)
  have Z_26 : n0 ≤ T_23.heap.size := Nat.le_trans Z_22 Kq_23.1
  obtain ⟨fs, hr, hrun, hended, hW, hsame⟩ := X_23.leave (v := some (.int (1 : Int32))) (fun h => by rw [Bd.returns] at h; cases h)
  refine ⟨_, _, pre0 _ ?_, hrun, hended, _, _, rfl, ?_, ⟨_, rfl⟩, hW, hsame.mono (by decide) (by decide)⟩
  · show Steps p.tables e below (s₁.setTop (mkF m 0 #[.val (.int p1), .unset, .unset, .unset, .unset] [])) _
    refine XS.iloadN X0.here hx rfl (hb hby at_0) rfl ?_
    show Steps p.tables e below (s₁.setTop (mkF m 1 #[.val (.int p1), .unset, .unset, .unset, .unset] [(.int p1)])) _
    refine XS.iconst X0.here hx rfl (hb hby at_1) ?_
    show Steps p.tables e below (s₁.setTop (mkF m 2 #[.val (.int p1), .unset, .unset, .unset, .unset] [(.int (3 : Int32)), (.int p1)])) _
    refine XS.iand X0.here hx rfl (hb hby at_2) rfl ?_
    show Steps p.tables e below (s₁.setTop (mkF m 3 #[.val (.int p1), .unset, .unset, .unset, .unset] [(.int (p1 &&& (3 : Int32)))])) _
    rw [hk_]
    show Steps p.tables e below (s₁.setTop (mkF m 3 #[.val (.int p1), .unset, .unset, .unset, .unset] [(.int (0 : Int32))])) _
    refine XS.istoreN X0.here hx rfl (hb hby at_3) rfl (l' := #[.val (.int p1), .val (.int (0 : Int32)), .unset, .unset, .unset]) rfl ?_
    show Steps p.tables e below (s₁.setTop (mkF m 4 #[.val (.int p1), .val (.int (0 : Int32)), .unset, .unset, .unset] [])) _
    refine st_1 _ ?_
    show Steps p.tables e below (T_1.setTop (mkF m 7 #[.val (.int p1), .val (.int (0 : Int32)), .unset, .unset, .unset] [(.ref b_1)])) _
    refine XS.dup X_1.here hx rfl (hb hby at_7) rfl rfl ?_
    show Steps p.tables e below (T_1.setTop (mkF m 8 #[.val (.int p1), .val (.int (0 : Int32)), .unset, .unset, .unset] [(.ref b_1), (.ref b_1)])) _
    refine st_3.trans ?_
    show Steps p.tables e below (T_3.setTop (mkF m 11 #[.val (.int p1), .val (.int (0 : Int32)), .unset, .unset, .unset] [(.ref b_1)])) _
    refine XS.astoreN X_3.here hx rfl (hb hby at_11) rfl rfl (l' := #[.val (.int p1), .val (.int (0 : Int32)), .val (.ref b_1), .unset, .unset]) rfl ?_
    show Steps p.tables e below (T_3.setTop (mkF m 12 #[.val (.int p1), .val (.int (0 : Int32)), .val (.ref b_1), .unset, .unset] [])) _
    refine XS.iconst X_3.here hx rfl (hb hby at_12) ?_
    show Steps p.tables e below (T_3.setTop (mkF m 13 #[.val (.int p1), .val (.int (0 : Int32)), .val (.ref b_1), .unset, .unset] [(.int (1 : Int32))])) _
    refine XS.istoreN X_3.here hx rfl (hb hby at_13) rfl (l' := #[.val (.int p1), .val (.int (0 : Int32)), .val (.ref b_1), .val (.int (1 : Int32)), .unset]) rfl ?_
    show Steps p.tables e below (T_3.setTop (mkF m 14 #[.val (.int p1), .val (.int (0 : Int32)), .val (.ref b_1), .val (.int (1 : Int32)), .unset] [])) _
    refine XS.iloadN X_3.here hx rfl (hb hby at_14) rfl ?_
    show Steps p.tables e below (T_3.setTop (mkF m 15 #[.val (.int p1), .val (.int (0 : Int32)), .val (.ref b_1), .val (.int (1 : Int32)), .unset] [(.int (0 : Int32))])) _
    refine XS.iconst X_3.here hx rfl (hb hby at_15) ?_
    show Steps p.tables e below (T_3.setTop (mkF m 16 #[.val (.int p1), .val (.int (0 : Int32)), .val (.ref b_1), .val (.int (1 : Int32)), .unset] [(.int (1 : Int32)), (.int (0 : Int32))])) _
    refine XS.icmpYes X_3.here hx rfl (pc0 := 16) (pc' := 34) rfl (hb hby at_16) rfl (tlt ((by decide) : (0 : Int32) < (1 : Int32))).1 (by decide) (by decide) ?_
    show Steps p.tables e below (T_3.setTop (mkF m 34 #[.val (.int p1), .val (.int (0 : Int32)), .val (.ref b_1), .val (.int (1 : Int32)), .unset] [])) _
    refine XS.iloadN X_3.here hx rfl (hb hby at_34) rfl ?_
    show Steps p.tables e below (T_3.setTop (mkF m 35 #[.val (.int p1), .val (.int (0 : Int32)), .val (.ref b_1), .val (.int (1 : Int32)), .unset] [(.int (0 : Int32))])) _
    refine XS.iconst X_3.here hx rfl (hb hby at_35) ?_
    show Steps p.tables e below (T_3.setTop (mkF m 36 #[.val (.int p1), .val (.int (0 : Int32)), .val (.ref b_1), .val (.int (1 : Int32)), .unset] [(.int (2 : Int32)), (.int (0 : Int32))])) _
    refine XS.icmpYes X_3.here hx rfl (pc0 := 36) (pc' := 55) rfl (hb hby at_36) rfl (tlt ((by decide) : (0 : Int32) < (2 : Int32))).1 (by decide) (by decide) ?_
    show Steps p.tables e below (T_3.setTop (mkF m 55 #[.val (.int p1), .val (.int (0 : Int32)), .val (.ref b_1), .val (.int (1 : Int32)), .unset] [])) _
    refine XS.iloadN X_3.here hx rfl (hb hby at_55) rfl ?_
    show Steps p.tables e below (T_3.setTop (mkF m 56 #[.val (.int p1), .val (.int (0 : Int32)), .val (.ref b_1), .val (.int (1 : Int32)), .unset] [(.int (0 : Int32))])) _
    refine XS.iconst X_3.here hx rfl (hb hby at_56) ?_
    show Steps p.tables e below (T_3.setTop (mkF m 57 #[.val (.int p1), .val (.int (0 : Int32)), .val (.ref b_1), .val (.int (1 : Int32)), .unset] [(.int (3 : Int32)), (.int (0 : Int32))])) _
    refine XS.icmpYes X_3.here hx rfl (pc0 := 57) (pc' := 76) rfl (hb hby at_57) rfl (tlt ((by decide) : (0 : Int32) < (3 : Int32))).1 (by decide) (by decide) ?_
    show Steps p.tables e below (T_3.setTop (mkF m 76 #[.val (.int p1), .val (.int (0 : Int32)), .val (.ref b_1), .val (.int (1 : Int32)), .unset] [])) _
    refine st_6 _ ?_
    show Steps p.tables e below (T_6.setTop (mkF m 79 #[.val (.int p1), .val (.int (0 : Int32)), .val (.ref b_1), .val (.int (1 : Int32)), .unset] [(.ref b_6)])) _
    refine XS.dup X_6.here hx rfl (hb hby at_79) rfl rfl ?_
    show Steps p.tables e below (T_6.setTop (mkF m 80 #[.val (.int p1), .val (.int (0 : Int32)), .val (.ref b_1), .val (.int (1 : Int32)), .unset] [(.ref b_6), (.ref b_6)])) _
    refine st_9.trans ?_
    show Steps p.tables e below (T_9.setTop (mkF m 83 #[.val (.int p1), .val (.int (0 : Int32)), .val (.ref b_1), .val (.int (1 : Int32)), .unset] [(.ref b_6)])) _
    refine XS.astore X_9.here hx rfl (hb hby at_83) rfl rfl (l' := #[.val (.int p1), .val (.int (0 : Int32)), .val (.ref b_1), .val (.int (1 : Int32)), .val (.ref b_6)]) rfl ?_
    show Steps p.tables e below (T_9.setTop (mkF m 85 #[.val (.int p1), .val (.int (0 : Int32)), .val (.ref b_1), .val (.int (1 : Int32)), .val (.ref b_6)] [])) _
    refine XS.iloadN X_9.here hx rfl (hb hby at_85) rfl ?_
    show Steps p.tables e below (T_9.setTop (mkF m 86 #[.val (.int p1), .val (.int (0 : Int32)), .val (.ref b_1), .val (.int (1 : Int32)), .val (.ref b_6)] [(.int (1 : Int32))])) _
    refine XS.aload X_9.here hx rfl (hb hby at_86) rfl rfl ?_
    show Steps p.tables e below (T_9.setTop (mkF m 88 #[.val (.int p1), .val (.int (0 : Int32)), .val (.ref b_1), .val (.int (1 : Int32)), .val (.ref b_6)] [(.ref b_6), (.int (1 : Int32))])) _
    refine st_12.trans ?_
    show Steps p.tables e below (T_12.setTop (mkF m 91 #[.val (.int p1), .val (.int (0 : Int32)), .val (.ref b_1), .val (.int (1 : Int32)), .val (.ref b_6)] [(.int (0 : Int32)), (.int (1 : Int32))])) _
    refine XS.ifNo X_12.here hx rfl (hb hby at_91) rfl ((if0 _ _).trans (teq ((by decide) : (0 : Int32) = (0 : Int32))).2) ?_
    show Steps p.tables e below (T_12.setTop (mkF m 94 #[.val (.int p1), .val (.int (0 : Int32)), .val (.ref b_1), .val (.int (1 : Int32)), .val (.ref b_6)] [(.int (1 : Int32))])) _
    refine XS.iconst X_12.here hx rfl (hb hby at_94) ?_
    show Steps p.tables e below (T_12.setTop (mkF m 95 #[.val (.int p1), .val (.int (0 : Int32)), .val (.ref b_1), .val (.int (1 : Int32)), .val (.ref b_6)] [(.int (1 : Int32)), (.int (1 : Int32))])) _
    refine XS.goto X_12.here hx rfl (pc0 := 95) (pc' := 99) rfl (hb hby at_95) (by decide) (by decide) ?_
    show Steps p.tables e below (T_12.setTop (mkF m 99 #[.val (.int p1), .val (.int (0 : Int32)), .val (.ref b_1), .val (.int (1 : Int32)), .val (.ref b_6)] [(.int (1 : Int32)), (.int (1 : Int32))])) _
    refine XS.iand X_12.here hx rfl (hb hby at_99) rfl ?_
    show Steps p.tables e below (T_12.setTop (mkF m 100 #[.val (.int p1), .val (.int (0 : Int32)), .val (.ref b_1), .val (.int (1 : Int32)), .val (.ref b_6)] [(.int ((1 : Int32) &&& (1 : Int32)))])) _
    rw [own_11]
    show Steps p.tables e below (T_12.setTop (mkF m 100 #[.val (.int p1), .val (.int (0 : Int32)), .val (.ref b_1), .val (.int (1 : Int32)), .val (.ref b_6)] [(.int (1 : Int32))])) _
    refine XS.istoreN X_12.here hx rfl (hb hby at_100) rfl (l' := #[.val (.int p1), .val (.int (0 : Int32)), .val (.ref b_1), .val (.int (1 : Int32)), .val (.ref b_6)]) rfl ?_
    show Steps p.tables e below (T_12.setTop (mkF m 101 #[.val (.int p1), .val (.int (0 : Int32)), .val (.ref b_1), .val (.int (1 : Int32)), .val (.ref b_6)] [])) _
    refine XS.iloadN X_12.here hx rfl (hb hby at_101) rfl ?_
    show Steps p.tables e below (T_12.setTop (mkF m 102 #[.val (.int p1), .val (.int (0 : Int32)), .val (.ref b_1), .val (.int (1 : Int32)), .val (.ref b_6)] [(.int (1 : Int32))])) _
    refine XS.aloadN X_12.here hx rfl (hb hby at_102) rfl rfl ?_
    show Steps p.tables e below (T_12.setTop (mkF m 103 #[.val (.int p1), .val (.int (0 : Int32)), .val (.ref b_1), .val (.int (1 : Int32)), .val (.ref b_6)] [(.ref b_1), (.int (1 : Int32))])) _
    refine st_15.trans ?_
    show Steps p.tables e below (T_15.setTop (mkF m 106 #[.val (.int p1), .val (.int (0 : Int32)), .val (.ref b_1), .val (.int (1 : Int32)), .val (.ref b_6)] [(.int (0 : Int32)), (.int (1 : Int32))])) _
    refine XS.iloadN X_15.here hx rfl (hb hby at_106) rfl ?_
    show Steps p.tables e below (T_15.setTop (mkF m 107 #[.val (.int p1), .val (.int (0 : Int32)), .val (.ref b_1), .val (.int (1 : Int32)), .val (.ref b_6)] [(.int (0 : Int32)), (.int (0 : Int32)), (.int (1 : Int32))])) _
    refine XS.icmpNo X_15.here hx rfl (hb hby at_107) rfl (teq ((by decide) : (0 : Int32) = (0 : Int32))).2 ?_
    show Steps p.tables e below (T_15.setTop (mkF m 110 #[.val (.int p1), .val (.int (0 : Int32)), .val (.ref b_1), .val (.int (1 : Int32)), .val (.ref b_6)] [(.int (1 : Int32))])) _
    refine XS.iconst X_15.here hx rfl (hb hby at_110) ?_
    show Steps p.tables e below (T_15.setTop (mkF m 111 #[.val (.int p1), .val (.int (0 : Int32)), .val (.ref b_1), .val (.int (1 : Int32)), .val (.ref b_6)] [(.int (1 : Int32)), (.int (1 : Int32))])) _
    refine XS.goto X_15.here hx rfl (pc0 := 111) (pc' := 115) rfl (hb hby at_111) (by decide) (by decide) ?_
    show Steps p.tables e below (T_15.setTop (mkF m 115 #[.val (.int p1), .val (.int (0 : Int32)), .val (.ref b_1), .val (.int (1 : Int32)), .val (.ref b_6)] [(.int (1 : Int32)), (.int (1 : Int32))])) _
    refine XS.iand X_15.here hx rfl (hb hby at_115) rfl ?_
    show Steps p.tables e below (T_15.setTop (mkF m 116 #[.val (.int p1), .val (.int (0 : Int32)), .val (.ref b_1), .val (.int (1 : Int32)), .val (.ref b_6)] [(.int ((1 : Int32) &&& (1 : Int32)))])) _
    rw [own_11]
    show Steps p.tables e below (T_15.setTop (mkF m 116 #[.val (.int p1), .val (.int (0 : Int32)), .val (.ref b_1), .val (.int (1 : Int32)), .val (.ref b_6)] [(.int (1 : Int32))])) _
    refine XS.istoreN X_15.here hx rfl (hb hby at_116) rfl (l' := #[.val (.int p1), .val (.int (0 : Int32)), .val (.ref b_1), .val (.int (1 : Int32)), .val (.ref b_6)]) rfl ?_
    show Steps p.tables e below (T_15.setTop (mkF m 117 #[.val (.int p1), .val (.int (0 : Int32)), .val (.ref b_1), .val (.int (1 : Int32)), .val (.ref b_6)] [])) _
    refine XS.iloadN X_15.here hx rfl (hb hby at_117) rfl ?_
    show Steps p.tables e below (T_15.setTop (mkF m 118 #[.val (.int p1), .val (.int (0 : Int32)), .val (.ref b_1), .val (.int (1 : Int32)), .val (.ref b_6)] [(.int (1 : Int32))])) _
    refine XS.aload X_15.here hx rfl (hb hby at_118) rfl rfl ?_
    show Steps p.tables e below (T_15.setTop (mkF m 120 #[.val (.int p1), .val (.int (0 : Int32)), .val (.ref b_1), .val (.int (1 : Int32)), .val (.ref b_6)] [(.ref b_6), (.int (1 : Int32))])) _
    refine st_19.trans ?_
    show Steps p.tables e below (T_19.setTop (mkF m 123 #[.val (.int p1), .val (.int (0 : Int32)), .val (.ref b_1), .val (.int (1 : Int32)), .val (.ref b_6)] [(.int (1 : Int32)), (.int (1 : Int32))])) _
    refine XS.iconst X_19.here hx rfl (hb hby at_123) ?_
    show Steps p.tables e below (T_19.setTop (mkF m 124 #[.val (.int p1), .val (.int (0 : Int32)), .val (.ref b_1), .val (.int (1 : Int32)), .val (.ref b_6)] [(.int (1 : Int32)), (.int (1 : Int32)), (.int (1 : Int32))])) _
    refine XS.icmpNo X_19.here hx rfl (hb hby at_124) rfl (teq ((by decide) : (1 : Int32) = (1 : Int32))).2 ?_
    show Steps p.tables e below (T_19.setTop (mkF m 127 #[.val (.int p1), .val (.int (0 : Int32)), .val (.ref b_1), .val (.int (1 : Int32)), .val (.ref b_6)] [(.int (1 : Int32))])) _
    refine XS.iconst X_19.here hx rfl (hb hby at_127) ?_
    show Steps p.tables e below (T_19.setTop (mkF m 128 #[.val (.int p1), .val (.int (0 : Int32)), .val (.ref b_1), .val (.int (1 : Int32)), .val (.ref b_6)] [(.int (1 : Int32)), (.int (1 : Int32))])) _
    refine XS.goto X_19.here hx rfl (pc0 := 128) (pc' := 132) rfl (hb hby at_128) (by decide) (by decide) ?_
    show Steps p.tables e below (T_19.setTop (mkF m 132 #[.val (.int p1), .val (.int (0 : Int32)), .val (.ref b_1), .val (.int (1 : Int32)), .val (.ref b_6)] [(.int (1 : Int32)), (.int (1 : Int32))])) _
    refine XS.iand X_19.here hx rfl (hb hby at_132) rfl ?_
    show Steps p.tables e below (T_19.setTop (mkF m 133 #[.val (.int p1), .val (.int (0 : Int32)), .val (.ref b_1), .val (.int (1 : Int32)), .val (.ref b_6)] [(.int ((1 : Int32) &&& (1 : Int32)))])) _
    rw [own_11]
    show Steps p.tables e below (T_19.setTop (mkF m 133 #[.val (.int p1), .val (.int (0 : Int32)), .val (.ref b_1), .val (.int (1 : Int32)), .val (.ref b_6)] [(.int (1 : Int32))])) _
    refine XS.istoreN X_19.here hx rfl (hb hby at_133) rfl (l' := #[.val (.int p1), .val (.int (0 : Int32)), .val (.ref b_1), .val (.int (1 : Int32)), .val (.ref b_6)]) rfl ?_
    show Steps p.tables e below (T_19.setTop (mkF m 134 #[.val (.int p1), .val (.int (0 : Int32)), .val (.ref b_1), .val (.int (1 : Int32)), .val (.ref b_6)] [])) _
    refine XS.iloadN X_19.here hx rfl (hb hby at_134) rfl ?_
    show Steps p.tables e below (T_19.setTop (mkF m 135 #[.val (.int p1), .val (.int (0 : Int32)), .val (.ref b_1), .val (.int (1 : Int32)), .val (.ref b_6)] [(.int (1 : Int32))])) _
    refine XS.aloadN X_19.here hx rfl (hb hby at_135) rfl rfl ?_
    show Steps p.tables e below (T_19.setTop (mkF m 136 #[.val (.int p1), .val (.int (0 : Int32)), .val (.ref b_1), .val (.int (1 : Int32)), .val (.ref b_6)] [(.ref b_1), (.int (1 : Int32))])) _
    refine st_23.trans ?_
    show Steps p.tables e below (T_23.setTop (mkF m 139 #[.val (.int p1), .val (.int (0 : Int32)), .val (.ref b_1), .val (.int (1 : Int32)), .val (.ref b_6)] [(.int (1 : Int32)), (.int (1 : Int32))])) _
    refine XS.iloadN X_23.here hx rfl (hb hby at_139) rfl ?_
    show Steps p.tables e below (T_23.setTop (mkF m 140 #[.val (.int p1), .val (.int (0 : Int32)), .val (.ref b_1), .val (.int (1 : Int32)), .val (.ref b_6)] [(.int (0 : Int32)), (.int (1 : Int32)), (.int (1 : Int32))])) _
    refine XS.iconst X_23.here hx rfl (hb hby at_140) ?_
    show Steps p.tables e below (T_23.setTop (mkF m 141 #[.val (.int p1), .val (.int (0 : Int32)), .val (.ref b_1), .val (.int (1 : Int32)), .val (.ref b_6)] [(.int (1 : Int32)), (.int (0 : Int32)), (.int (1 : Int32)), (.int (1 : Int32))])) _
    refine XS.iadd X_23.here hx rfl (hb hby at_141) rfl ?_
    show Steps p.tables e below (T_23.setTop (mkF m 142 #[.val (.int p1), .val (.int (0 : Int32)), .val (.ref b_1), .val (.int (1 : Int32)), .val (.ref b_6)] [(.int ((0 : Int32) + (1 : Int32))), (.int (1 : Int32)), (.int (1 : Int32))])) _
    refine XS.icmpNo X_23.here hx rfl (hb hby at_142) rfl (teq ((by decide) : (1 : Int32) = ((0 : Int32) + (1 : Int32)))).2 ?_
    show Steps p.tables e below (T_23.setTop (mkF m 145 #[.val (.int p1), .val (.int (0 : Int32)), .val (.ref b_1), .val (.int (1 : Int32)), .val (.ref b_6)] [(.int (1 : Int32))])) _
    refine XS.iconst X_23.here hx rfl (hb hby at_145) ?_
    show Steps p.tables e below (T_23.setTop (mkF m 146 #[.val (.int p1), .val (.int (0 : Int32)), .val (.ref b_1), .val (.int (1 : Int32)), .val (.ref b_6)] [(.int (1 : Int32)), (.int (1 : Int32))])) _
    refine XS.goto X_23.here hx rfl (pc0 := 146) (pc' := 150) rfl (hb hby at_146) (by decide) (by decide) ?_
    show Steps p.tables e below (T_23.setTop (mkF m 150 #[.val (.int p1), .val (.int (0 : Int32)), .val (.ref b_1), .val (.int (1 : Int32)), .val (.ref b_6)] [(.int (1 : Int32)), (.int (1 : Int32))])) _
    refine XS.iand X_23.here hx rfl (hb hby at_150) rfl ?_
    show Steps p.tables e below (T_23.setTop (mkF m 151 #[.val (.int p1), .val (.int (0 : Int32)), .val (.ref b_1), .val (.int (1 : Int32)), .val (.ref b_6)] [(.int ((1 : Int32) &&& (1 : Int32)))])) _
    rw [own_11]
    show Steps p.tables e below (T_23.setTop (mkF m 151 #[.val (.int p1), .val (.int (0 : Int32)), .val (.ref b_1), .val (.int (1 : Int32)), .val (.ref b_6)] [(.int (1 : Int32))])) _
    refine XS.istoreN X_23.here hx rfl (hb hby at_151) rfl (l' := #[.val (.int p1), .val (.int (0 : Int32)), .val (.ref b_1), .val (.int (1 : Int32)), .val (.ref b_6)]) rfl ?_
    show Steps p.tables e below (T_23.setTop (mkF m 152 #[.val (.int p1), .val (.int (0 : Int32)), .val (.ref b_1), .val (.int (1 : Int32)), .val (.ref b_6)] [])) _
    refine XS.iloadN X_23.here hx rfl (hb hby at_152) rfl ?_
    show Steps p.tables e below (T_23.setTop (mkF m 153 #[.val (.int p1), .val (.int (0 : Int32)), .val (.ref b_1), .val (.int (1 : Int32)), .val (.ref b_6)] [(.int (1 : Int32))])) _
    exact retN X_23 hx (t := .boolean) Bd.returns (by simp) (hb hby at_153) hr
  · show Q0 Z  h0 n0 _ T_23.heap _
    exact ⟨rfl, N_23⟩
set_option maxRecDepth 65536 in
set_option maxHeartbeats 40000000 in
theorem rm0_1 (l : Launch) (Z : State) (a0 : Array Value) (hw : ∀ d ∈ tables_1, d.before a0 Z = true) (ws : List Jvm.Cond) (p1 : Int32) (sd : Addr) (h0 : Heap) (n0 : Nat) (Z0 : n0 ≤ h0.size) (O_ : Old Z n0 h0) (S_ : Sta Z Z.heap "java/util/ArrayList" "DEFAULTCAPACITY_EMPTY_ELEMENTDATA" "[Ljava/lang/Object;" (.ref sd)) (hk_ : (p1 &&& (3 : Int32)) = (1 : Int32)) :
    MetFree l x (head1 (Jvm.Cond.code x code maxLocals ret :: ws) room_1) (fun as_ U => as_ = #[(.int p1)] ∧ Z.Warmed39 U.vm ∧ U.heap = h0) (fun _ _ _ _ _ => True) (fun _ U o U' => ∃ v L, o = .returned v ∧ Q0 Z  h0 n0 v U'.heap L ∧ FrameEnd U o U' L 6 18) := by
  refine MetFree.of_bodySF (plainFor_of_name pn_0) hisR ?_
  intro p e s m args below meth c s₁ Bd hml0 hP hK
  obtain ⟨rfl, hZ, hh⟩ := hP
  have hx := Bd.exec
  have hby := Bd.bytes
  have hml : c.maxLocals = 5 := hml0
  have hown : s.vm.findClass "com/example/arrivals_to_bounds/arrivalstobounds/LinearProgramVariablePinLaw" = some m.cls := findClass_of_methodNamed Bd.named
  have hnm := (name_of_methodNamed Bd.named Bd.method).1
  have X0 : Stand p l e room_1 s m #[(.int p1)] below meth c s₁ [] 0 0 := Stand.of_body Bd
  have e0 : s₁.heap = h0 := by rw [← hh, Bd.state]; rfl
  have N0 := Fr.nil n0
  have pre0 : ∀ t, Steps p.tables e below (s₁.setTop (mkF m 0 #[.val (.int p1), .unset, .unset, .unset, .unset] [])) t → Steps p.tables e below (s₁.setTop (entryFrame m #[(.int p1)] maxLocals)) t := fun t k => castTop (ef_0 m p1) k
  obtain ⟨T_1, h_1, X_1, e_1, E_1, A_1, D_1, -, st_1⟩ := newO X0 hx hZ hown (hw _ (List.mem_of_getElem? (i := 0) rfl)) (hw _ (List.mem_of_getElem? (i := 1) rfl)) (hw _ (List.mem_of_getElem? (i := 2) rfl)) e0 (g := (mkF m 4 #[.val (.int p1), .val (.int (1 : Int32)), .unset, .unset, .unset] [])) rfl (hb hby at_4) (by decide) (by decide)
  obtain ⟨b_1, g_1⟩ : ∃ z, z = h0.size := ⟨_, rfl⟩
  rw [← g_1] at A_1 D_1 st_1
  have g_b_1 : n0 ≤ b_1 := Nat.le_trans Z0 (Nat.le_of_eq g_1.symm)
  have sz_b_1 : h0.size ≤ b_1 := Nat.le_trans (Keep.refl h0 []).1 (Nat.le_of_eq g_1.symm)
  have K_1 : Keep h0 h_1 [] := (Keep.refl h0 []).ext E_1
  have Z_2 : n0 ≤ h_1.size := Nat.le_trans Z0 E_1.1
  have F_rows_b_1 : Fld Z h_1 b_1 "com/example/arrivals_to_bounds/arrivalstobounds/LinearProgram" "rows" "Ljava/util/List;" .null := D_1 (Or.inr (hw _ (List.mem_of_getElem? (i := 34) rfl))) (ty := (.object "java/util/List")) (by decide)
  have F_bounds_b_1 : Fld Z h_1 b_1 "com/example/arrivals_to_bounds/arrivalstobounds/LinearProgram" "bounds" "Ljava/util/List;" .null := D_1 (Or.inr (hw _ (List.mem_of_getElem? (i := 36) rfl))) (ty := (.object "java/util/List")) (by decide)
  have F_variables_b_1 : Fld Z h_1 b_1 "com/example/arrivals_to_bounds/arrivalstobounds/LinearProgram" "variables" "I" (.int (0 : Int32)) := D_1 (Or.inl (hw _ (List.mem_of_getElem? (i := 43) rfl))) (ty := .int) (by decide)
  have f_4_O_old := (O_.ext E_1)
  obtain ⟨_, _, ⟨T_3, L_3, k_3, n_3⟩, -, X_3, ⟨Lc_3, hQ_3, l_3, y_3, z_3⟩, st_3⟩ := X_1.specialBack hx (y := (⟨"com/example/arrivals_to_bounds/arrivalstobounds/LinearProgram", "<init>", "()V"⟩ : MethodName)) rfl hown (mvT hZ (hw _ (List.mem_of_getElem? (i := 3) rfl))) (mvT hZ (hw _ (List.mem_of_getElem? (i := 4) rfl))) (mvT hZ (hw _ (List.mem_of_getElem? (i := 5) rfl))) (by decide) (backOf (W := 1) (rm1 l Z a0 hw [] b_1 sd h_1 n0 Z_2 A_1 F_rows_b_1 F_bounds_b_1 F_variables_b_1 g_b_1 f_4_O_old S_) hZ (hw _ (List.mem_of_getElem? (i := 5) rfl)) (hw _ (List.mem_of_getElem? (i := 2) rfl)) (by decide) (by decide)) (g := (mkF m 8 #[.val (.int p1), .val (.int (1 : Int32)), .unset, .unset, .unset] [(.ref b_1), (.ref b_1)])) rfl (by rw [hml]; rfl) (Steps.refl _) (a := b_1) (argsL := []) (rest := [(.ref b_1)]) (lenOf pd_0 rfl) rfl (by show 2 * 0 + _ ≤ _; exact Nat.le_of_eq rfl) (hb hby at_8) (fun _ _ => ⟨rfl, e_1, (by decide : 1 + 2 ≤ _), (by decide : 3 + 6 ≤ _)⟩)
  dsimp only [Pt.U, Pt.locs, Pt.cells, Pt.slots] at X_3 l_3 y_3 z_3 st_3 hQ_3
  subst l_3 y_3 z_3
  obtain ⟨rfl, Nq_3, Kq_3, Fv_3⟩ := hQ_3
  have N_3 := Fr.app N0 Nq_3
  have KK_3 : Keep h0 T_3.heap [] := K_1.trans Kq_3 (allS (Or.inr sz_b_1) all0)
  have Z_5 : n0 ≤ T_3.heap.size := Nat.le_trans Z_2 Kq_3.1
  have f_7_E_b_1 := (A_1.keep Kq_3)
  obtain ⟨cq_6, kq_6, q_6a, q_6b, q_6c⟩ := isOf hZ rfl f_7_E_b_1
  obtain ⟨_, _, ⟨T_6, L_6, k_6, n_6⟩, -, X_6, ⟨Lc_6, hQ_6, l_6, y_6, z_6⟩, st_6⟩ := X_3.virtualBack hx (y := (⟨"com/example/arrivals_to_bounds/arrivalstobounds/LinearProgram", "variable", "()I"⟩ : MethodName)) (z := (⟨"com/example/arrivals_to_bounds/arrivalstobounds/LinearProgram", "variable", "()I"⟩ : MethodName)) hown (mvT hZ (hw _ (List.mem_of_getElem? (i := 37) rfl))) (mvT hZ (hw _ (List.mem_of_getElem? (i := 38) rfl))) (notFace_of_selects (args := #[]) (mvT hZ (hw _ (List.mem_of_getElem? (i := 40) rfl)))) (mvT hZ (hw _ (List.mem_of_getElem? (i := 40) rfl))) (mvT hZ (hw _ (List.mem_of_getElem? (i := 39) rfl))) (by decide) (backOf (W := 1) (rm6 l Z a0 hw [] b_1 (0 : Int32) (1 : Int32) T_3.heap n0 Z_5 f_7_E_b_1 Fv_3 g_b_1 (by decide)) hZ (hw _ (List.mem_of_getElem? (i := 41) rfl)) (hw _ (List.mem_of_getElem? (i := 2) rfl)) (by decide) (by decide)) q_6a q_6c (g := (mkF m 21 #[.val (.int p1), .val (.int (1 : Int32)), .val (.ref b_1), .val (.int (1 : Int32)), .unset] [(.ref b_1), (.int (1 : Int32))])) rfl (by rw [hml]; rfl) (Steps.refl _) (argsL := []) (rest := [(.int (1 : Int32))]) (lenOf pd_1 rfl) rfl (by show 2 * 0 + _ ≤ _; exact Nat.le_of_eq rfl) (hb hby at_21) (fun _ _ => ⟨rfl, rfl, (by decide : 3 + 0 ≤ _), (by decide : 9 + 0 ≤ _)⟩)
  dsimp only [Pt.U, Pt.locs, Pt.cells, Pt.slots] at X_6 l_6 y_6 z_6 st_6 hQ_6
  subst l_6 y_6 z_6
  obtain ⟨rfl, Nq_6, Kq_6, Fv_6⟩ := hQ_6
  have N_6 := Fr.app N_3 Nq_6
  have KK_6 : Keep h0 T_6.heap [] := KK_3.trans Kq_6 (allS (Or.inr sz_b_1) all0)
  have Z_8 : n0 ≤ T_6.heap.size := Nat.le_trans Z_5 Kq_6.1
  obtain ⟨T_9, h_9, X_9, e_9, E_9, A_9, D_9, -, st_9⟩ := newO X_6 hx hZ hown (hw _ (List.mem_of_getElem? (i := 0) rfl)) (hw _ (List.mem_of_getElem? (i := 1) rfl)) (hw _ (List.mem_of_getElem? (i := 2) rfl)) rfl (g := (mkF m 76 #[.val (.int p1), .val (.int (1 : Int32)), .val (.ref b_1), .val (.int (1 : Int32)), .unset] [])) rfl (hb hby at_76) (by decide) (by decide)
  obtain ⟨b_9, g_9⟩ : ∃ z, z = T_6.heap.size := ⟨_, rfl⟩
  rw [← g_9] at A_9 D_9 st_9
  have f_10_E_b_1 := (f_7_E_b_1.keep Kq_6)
  have ne_b_1_b_9 : b_1 ≠ b_9 := Nat.ne_of_lt (Nat.lt_of_lt_of_le f_10_E_b_1.lt (Nat.le_of_eq g_9.symm))
  have g_b_9 : n0 ≤ b_9 := Nat.le_trans Z_8 (Nat.le_of_eq g_9.symm)
  have sz_b_9 : h0.size ≤ b_9 := Nat.le_trans KK_6.1 (Nat.le_of_eq g_9.symm)
  have K_9 : Keep h0 h_9 [] := KK_6.ext E_9
  have Z_11 : n0 ≤ h_9.size := Nat.le_trans Z_8 E_9.1
  have F_rows_b_9 : Fld Z h_9 b_9 "com/example/arrivals_to_bounds/arrivalstobounds/LinearProgram" "rows" "Ljava/util/List;" .null := D_9 (Or.inr (hw _ (List.mem_of_getElem? (i := 34) rfl))) (ty := (.object "java/util/List")) (by decide)
  have F_bounds_b_9 : Fld Z h_9 b_9 "com/example/arrivals_to_bounds/arrivalstobounds/LinearProgram" "bounds" "Ljava/util/List;" .null := D_9 (Or.inr (hw _ (List.mem_of_getElem? (i := 36) rfl))) (ty := (.object "java/util/List")) (by decide)
  have F_variables_b_9 : Fld Z h_9 b_9 "com/example/arrivals_to_bounds/arrivalstobounds/LinearProgram" "variables" "I" (.int (0 : Int32)) := D_9 (Or.inl (hw _ (List.mem_of_getElem? (i := 43) rfl))) (ty := .int) (by decide)
  have f_13_O_old := (((f_4_O_old.keep Kq_3 (allS g_b_1 all0)).keep Kq_6 (allS g_b_1 all0)).ext E_9)
  obtain ⟨_, _, ⟨T_12, L_12, k_12, n_12⟩, -, X_12, ⟨Lc_12, hQ_12, l_12, y_12, z_12⟩, st_12⟩ := X_9.specialBack hx (y := (⟨"com/example/arrivals_to_bounds/arrivalstobounds/LinearProgram", "<init>", "()V"⟩ : MethodName)) rfl hown (mvT hZ (hw _ (List.mem_of_getElem? (i := 3) rfl))) (mvT hZ (hw _ (List.mem_of_getElem? (i := 4) rfl))) (mvT hZ (hw _ (List.mem_of_getElem? (i := 5) rfl))) (by decide) (backOf (W := 1) (rm1 l Z a0 hw [] b_9 sd h_9 n0 Z_11 A_9 F_rows_b_9 F_bounds_b_9 F_variables_b_9 g_b_9 f_13_O_old S_) hZ (hw _ (List.mem_of_getElem? (i := 5) rfl)) (hw _ (List.mem_of_getElem? (i := 2) rfl)) (by decide) (by decide)) (g := (mkF m 80 #[.val (.int p1), .val (.int (1 : Int32)), .val (.ref b_1), .val (.int (1 : Int32)), .unset] [(.ref b_9), (.ref b_9)])) rfl (by rw [hml]; rfl) (Steps.refl _) (a := b_9) (argsL := []) (rest := [(.ref b_9)]) (lenOf pd_0 rfl) rfl (by show 2 * 0 + _ ≤ _; exact Nat.le_of_eq rfl) (hb hby at_80) (fun _ _ => ⟨rfl, e_9, (by decide : 4 + 2 ≤ _), (by decide : 12 + 6 ≤ _)⟩)
  dsimp only [Pt.U, Pt.locs, Pt.cells, Pt.slots] at X_12 l_12 y_12 z_12 st_12 hQ_12
  subst l_12 y_12 z_12
  obtain ⟨rfl, Nq_12, Kq_12, Fv_12⟩ := hQ_12
  have N_12 := Fr.app N_6 Nq_12
  have KK_12 : Keep h0 T_12.heap [] := K_9.trans Kq_12 (allS (Or.inr sz_b_9) all0)
  have Z_14 : n0 ≤ T_12.heap.size := Nat.le_trans Z_11 Kq_12.1
  have f_16_E_b_9 := (A_9.keep Kq_12)
  obtain ⟨cq_15, kq_15, q_15a, q_15b, q_15c⟩ := isOf hZ rfl f_16_E_b_9
  obtain ⟨_, _, ⟨T_15, L_15, k_15, n_15⟩, -, X_15, ⟨Lc_15, hQ_15, l_15, y_15, z_15⟩, st_15⟩ := X_12.virtualBack hx (y := (⟨"com/example/arrivals_to_bounds/arrivalstobounds/LinearProgram", "variable", "()I"⟩ : MethodName)) (z := (⟨"com/example/arrivals_to_bounds/arrivalstobounds/LinearProgram", "variable", "()I"⟩ : MethodName)) hown (mvT hZ (hw _ (List.mem_of_getElem? (i := 37) rfl))) (mvT hZ (hw _ (List.mem_of_getElem? (i := 38) rfl))) (notFace_of_selects (args := #[]) (mvT hZ (hw _ (List.mem_of_getElem? (i := 40) rfl)))) (mvT hZ (hw _ (List.mem_of_getElem? (i := 40) rfl))) (mvT hZ (hw _ (List.mem_of_getElem? (i := 39) rfl))) (by decide) (backOf (W := 1) (rm6 l Z a0 hw [] b_9 (0 : Int32) (1 : Int32) T_12.heap n0 Z_14 f_16_E_b_9 Fv_12 g_b_9 (by decide)) hZ (hw _ (List.mem_of_getElem? (i := 41) rfl)) (hw _ (List.mem_of_getElem? (i := 2) rfl)) (by decide) (by decide)) q_15a q_15c (g := (mkF m 88 #[.val (.int p1), .val (.int (1 : Int32)), .val (.ref b_1), .val (.int (1 : Int32)), .val (.ref b_9)] [(.ref b_9), (.int (1 : Int32))])) rfl (by rw [hml]; rfl) (Steps.refl _) (argsL := []) (rest := [(.int (1 : Int32))]) (lenOf pd_1 rfl) rfl (by show 2 * 0 + _ ≤ _; exact Nat.le_of_eq rfl) (hb hby at_88) (fun _ _ => ⟨rfl, rfl, (by decide : 6 + 0 ≤ _), (by decide : 18 + 0 ≤ _)⟩)
  dsimp only [Pt.U, Pt.locs, Pt.cells, Pt.slots] at X_15 l_15 y_15 z_15 st_15 hQ_15
  subst l_15 y_15 z_15
  obtain ⟨rfl, Nq_15, Kq_15, Fv_15⟩ := hQ_15
  have N_15 := Fr.app N_12 Nq_15
  have KK_15 : Keep h0 T_15.heap [] := KK_12.trans Kq_15 (allS (Or.inr sz_b_9) all0)
  have Z_17 : n0 ≤ T_15.heap.size := Nat.le_trans Z_14 Kq_15.1
  have f_19_E_b_1 := (((f_10_E_b_1.ext E_9).keep Kq_12).keep Kq_15)
  have f_20_F_b_1_variables := (((Fv_6.ext E_9).keep Kq_12 (ninS ne_b_1_b_9 nin0)).keep Kq_15 (ninS ne_b_1_b_9 nin0))
  obtain ⟨cq_18, kq_18, q_18a, q_18b, q_18c⟩ := isOf hZ rfl f_19_E_b_1
  obtain ⟨_, _, ⟨T_18, L_18, k_18, n_18⟩, -, X_18, ⟨Lc_18, hQ_18, l_18, y_18, z_18⟩, st_18⟩ := X_15.virtualBack hx (y := (⟨"com/example/arrivals_to_bounds/arrivalstobounds/LinearProgram", "variable", "()I"⟩ : MethodName)) (z := (⟨"com/example/arrivals_to_bounds/arrivalstobounds/LinearProgram", "variable", "()I"⟩ : MethodName)) hown (mvT hZ (hw _ (List.mem_of_getElem? (i := 37) rfl))) (mvT hZ (hw _ (List.mem_of_getElem? (i := 38) rfl))) (notFace_of_selects (args := #[]) (mvT hZ (hw _ (List.mem_of_getElem? (i := 40) rfl)))) (mvT hZ (hw _ (List.mem_of_getElem? (i := 40) rfl))) (mvT hZ (hw _ (List.mem_of_getElem? (i := 39) rfl))) (by decide) (backOf (W := 1) (rm6 l Z a0 hw [] b_1 (1 : Int32) (2 : Int32) T_15.heap n0 Z_17 f_19_E_b_1 f_20_F_b_1_variables g_b_1 (by decide)) hZ (hw _ (List.mem_of_getElem? (i := 41) rfl)) (hw _ (List.mem_of_getElem? (i := 2) rfl)) (by decide) (by decide)) q_18a q_18c (g := (mkF m 103 #[.val (.int p1), .val (.int (1 : Int32)), .val (.ref b_1), .val (.int (1 : Int32)), .val (.ref b_9)] [(.ref b_1), (.int (1 : Int32))])) rfl (by rw [hml]; rfl) (Steps.refl _) (argsL := []) (rest := [(.int (1 : Int32))]) (lenOf pd_1 rfl) rfl (by show 2 * 0 + _ ≤ _; exact Nat.le_of_eq rfl) (hb hby at_103) (fun _ _ => ⟨rfl, rfl, (by decide : 6 + 0 ≤ _), (by decide : 18 + 0 ≤ _)⟩)
  dsimp only [Pt.U, Pt.locs, Pt.cells, Pt.slots] at X_18 l_18 y_18 z_18 st_18 hQ_18
  subst l_18 y_18 z_18
  obtain ⟨rfl, Nq_18, Kq_18, Fv_18⟩ := hQ_18
  have N_18 := Fr.app N_15 Nq_18
  have KK_18 : Keep h0 T_18.heap [] := KK_15.trans Kq_18 (allS (Or.inr sz_b_1) all0)
  have Z_21 : n0 ≤ T_18.heap.size := Nat.le_trans Z_17 Kq_18.1
  have f_23_E_b_9 := ((f_16_E_b_9.keep Kq_15).keep Kq_18)
  have f_24_F_b_9_variables := (Fv_15.keep Kq_18 (ninS (Ne.symm ne_b_1_b_9) nin0))
  obtain ⟨cq_22, kq_22, q_22a, q_22b, q_22c⟩ := isOf hZ rfl f_23_E_b_9
  obtain ⟨_, _, ⟨T_22, L_22, k_22, n_22⟩, -, X_22, ⟨Lc_22, hQ_22, l_22, y_22, z_22⟩, st_22⟩ := X_18.virtualBack hx (y := (⟨"com/example/arrivals_to_bounds/arrivalstobounds/LinearProgram", "variable", "()I"⟩ : MethodName)) (z := (⟨"com/example/arrivals_to_bounds/arrivalstobounds/LinearProgram", "variable", "()I"⟩ : MethodName)) hown (mvT hZ (hw _ (List.mem_of_getElem? (i := 37) rfl))) (mvT hZ (hw _ (List.mem_of_getElem? (i := 38) rfl))) (notFace_of_selects (args := #[]) (mvT hZ (hw _ (List.mem_of_getElem? (i := 40) rfl)))) (mvT hZ (hw _ (List.mem_of_getElem? (i := 40) rfl))) (mvT hZ (hw _ (List.mem_of_getElem? (i := 39) rfl))) (by decide) (backOf (W := 1) (rm6 l Z a0 hw [] b_9 (1 : Int32) (2 : Int32) T_18.heap n0 Z_21 f_23_E_b_9 f_24_F_b_9_variables g_b_9 (by decide)) hZ (hw _ (List.mem_of_getElem? (i := 41) rfl)) (hw _ (List.mem_of_getElem? (i := 2) rfl)) (by decide) (by decide)) q_22a q_22c (g := (mkF m 120 #[.val (.int p1), .val (.int (1 : Int32)), .val (.ref b_1), .val (.int (1 : Int32)), .val (.ref b_9)] [(.ref b_9), (.int (1 : Int32))])) rfl (by rw [hml]; rfl) (Steps.refl _) (argsL := []) (rest := [(.int (1 : Int32))]) (lenOf pd_1 rfl) rfl (by show 2 * 0 + _ ≤ _; exact Nat.le_of_eq rfl) (hb hby at_120) (fun _ _ => ⟨rfl, rfl, (by decide : 6 + 0 ≤ _), (by decide : 18 + 0 ≤ _)⟩)
  dsimp only [Pt.U, Pt.locs, Pt.cells, Pt.slots] at X_22 l_22 y_22 z_22 st_22 hQ_22
  subst l_22 y_22 z_22
  obtain ⟨rfl, Nq_22, Kq_22, Fv_22⟩ := hQ_22
  have N_22 := Fr.app N_18 Nq_22
  have KK_22 : Keep h0 T_22.heap [] := KK_18.trans Kq_22 (allS (Or.inr sz_b_9) all0)
  have Z_25 : n0 ≤ T_22.heap.size := Nat.le_trans Z_21 Kq_22.1
  have f_27_E_b_1 := ((f_19_E_b_1.keep Kq_18).keep Kq_22)
  have f_28_F_b_1_variables := (Fv_18.keep Kq_22 (ninS ne_b_1_b_9 nin0))
  obtain ⟨cq_26, kq_26, q_26a, q_26b, q_26c⟩ := isOf hZ rfl f_27_E_b_1
  obtain ⟨_, _, ⟨T_26, L_26, k_26, n_26⟩, -, X_26, ⟨Lc_26, hQ_26, l_26, y_26, z_26⟩, st_26⟩ := X_22.virtualBack hx (y := (⟨"com/example/arrivals_to_bounds/arrivalstobounds/LinearProgram", "variable", "()I"⟩ : MethodName)) (z := (⟨"com/example/arrivals_to_bounds/arrivalstobounds/LinearProgram", "variable", "()I"⟩ : MethodName)) hown (mvT hZ (hw _ (List.mem_of_getElem? (i := 37) rfl))) (mvT hZ (hw _ (List.mem_of_getElem? (i := 38) rfl))) (notFace_of_selects (args := #[]) (mvT hZ (hw _ (List.mem_of_getElem? (i := 40) rfl)))) (mvT hZ (hw _ (List.mem_of_getElem? (i := 40) rfl))) (mvT hZ (hw _ (List.mem_of_getElem? (i := 39) rfl))) (by decide) (backOf (W := 1) (rm6 l Z a0 hw [] b_1 (2 : Int32) (3 : Int32) T_22.heap n0 Z_25 f_27_E_b_1 f_28_F_b_1_variables g_b_1 (by decide)) hZ (hw _ (List.mem_of_getElem? (i := 41) rfl)) (hw _ (List.mem_of_getElem? (i := 2) rfl)) (by decide) (by decide)) q_26a q_26c (g := (mkF m 136 #[.val (.int p1), .val (.int (1 : Int32)), .val (.ref b_1), .val (.int (1 : Int32)), .val (.ref b_9)] [(.ref b_1), (.int (1 : Int32))])) rfl (by rw [hml]; rfl) (Steps.refl _) (argsL := []) (rest := [(.int (1 : Int32))]) (lenOf pd_1 rfl) rfl (by show 2 * 0 + _ ≤ _; exact Nat.le_of_eq rfl) (hb hby at_136) (fun _ _ => ⟨rfl, rfl, (by decide : 6 + 0 ≤ _), (by decide : 18 + 0 ≤ _)⟩)
  dsimp only [Pt.U, Pt.locs, Pt.cells, Pt.slots] at X_26 l_26 y_26 z_26 st_26 hQ_26
  subst l_26 y_26 z_26
  obtain ⟨rfl, Nq_26, Kq_26, Fv_26⟩ := hQ_26
  have N_26 := Fr.app N_22 Nq_26
  have KK_26 : Keep h0 T_26.heap [] := KK_22.trans Kq_26 (allS (Or.inr sz_b_1) all0)
  have Z_29 : n0 ≤ T_26.heap.size := Nat.le_trans Z_25 Kq_26.1
  obtain ⟨fs, hr, hrun, hended, hW, hsame⟩ := X_26.leave (v := some (.int (1 : Int32))) (fun h => by rw [Bd.returns] at h; cases h)
  refine ⟨_, _, pre0 _ ?_, hrun, hended, _, _, rfl, ?_, ⟨_, rfl⟩, hW, hsame.mono (by decide) (by decide)⟩
  · show Steps p.tables e below (s₁.setTop (mkF m 0 #[.val (.int p1), .unset, .unset, .unset, .unset] [])) _
    refine XS.iloadN X0.here hx rfl (hb hby at_0) rfl ?_
    show Steps p.tables e below (s₁.setTop (mkF m 1 #[.val (.int p1), .unset, .unset, .unset, .unset] [(.int p1)])) _
    refine XS.iconst X0.here hx rfl (hb hby at_1) ?_
    show Steps p.tables e below (s₁.setTop (mkF m 2 #[.val (.int p1), .unset, .unset, .unset, .unset] [(.int (3 : Int32)), (.int p1)])) _
    refine XS.iand X0.here hx rfl (hb hby at_2) rfl ?_
    show Steps p.tables e below (s₁.setTop (mkF m 3 #[.val (.int p1), .unset, .unset, .unset, .unset] [(.int (p1 &&& (3 : Int32)))])) _
    rw [hk_]
    show Steps p.tables e below (s₁.setTop (mkF m 3 #[.val (.int p1), .unset, .unset, .unset, .unset] [(.int (1 : Int32))])) _
    refine XS.istoreN X0.here hx rfl (hb hby at_3) rfl (l' := #[.val (.int p1), .val (.int (1 : Int32)), .unset, .unset, .unset]) rfl ?_
    show Steps p.tables e below (s₁.setTop (mkF m 4 #[.val (.int p1), .val (.int (1 : Int32)), .unset, .unset, .unset] [])) _
    refine st_1 _ ?_
    show Steps p.tables e below (T_1.setTop (mkF m 7 #[.val (.int p1), .val (.int (1 : Int32)), .unset, .unset, .unset] [(.ref b_1)])) _
    refine XS.dup X_1.here hx rfl (hb hby at_7) rfl rfl ?_
    show Steps p.tables e below (T_1.setTop (mkF m 8 #[.val (.int p1), .val (.int (1 : Int32)), .unset, .unset, .unset] [(.ref b_1), (.ref b_1)])) _
    refine st_3.trans ?_
    show Steps p.tables e below (T_3.setTop (mkF m 11 #[.val (.int p1), .val (.int (1 : Int32)), .unset, .unset, .unset] [(.ref b_1)])) _
    refine XS.astoreN X_3.here hx rfl (hb hby at_11) rfl rfl (l' := #[.val (.int p1), .val (.int (1 : Int32)), .val (.ref b_1), .unset, .unset]) rfl ?_
    show Steps p.tables e below (T_3.setTop (mkF m 12 #[.val (.int p1), .val (.int (1 : Int32)), .val (.ref b_1), .unset, .unset] [])) _
    refine XS.iconst X_3.here hx rfl (hb hby at_12) ?_
    show Steps p.tables e below (T_3.setTop (mkF m 13 #[.val (.int p1), .val (.int (1 : Int32)), .val (.ref b_1), .unset, .unset] [(.int (1 : Int32))])) _
    refine XS.istoreN X_3.here hx rfl (hb hby at_13) rfl (l' := #[.val (.int p1), .val (.int (1 : Int32)), .val (.ref b_1), .val (.int (1 : Int32)), .unset]) rfl ?_
    show Steps p.tables e below (T_3.setTop (mkF m 14 #[.val (.int p1), .val (.int (1 : Int32)), .val (.ref b_1), .val (.int (1 : Int32)), .unset] [])) _
    refine XS.iloadN X_3.here hx rfl (hb hby at_14) rfl ?_
    show Steps p.tables e below (T_3.setTop (mkF m 15 #[.val (.int p1), .val (.int (1 : Int32)), .val (.ref b_1), .val (.int (1 : Int32)), .unset] [(.int (1 : Int32))])) _
    refine XS.iconst X_3.here hx rfl (hb hby at_15) ?_
    show Steps p.tables e below (T_3.setTop (mkF m 16 #[.val (.int p1), .val (.int (1 : Int32)), .val (.ref b_1), .val (.int (1 : Int32)), .unset] [(.int (1 : Int32)), (.int (1 : Int32))])) _
    refine XS.icmpNo X_3.here hx rfl (hb hby at_16) rfl (flt ((by decide) : ¬ ((1 : Int32) < (1 : Int32)))).1 ?_
    show Steps p.tables e below (T_3.setTop (mkF m 19 #[.val (.int p1), .val (.int (1 : Int32)), .val (.ref b_1), .val (.int (1 : Int32)), .unset] [])) _
    refine XS.iloadN X_3.here hx rfl (hb hby at_19) rfl ?_
    show Steps p.tables e below (T_3.setTop (mkF m 20 #[.val (.int p1), .val (.int (1 : Int32)), .val (.ref b_1), .val (.int (1 : Int32)), .unset] [(.int (1 : Int32))])) _
    refine XS.aloadN X_3.here hx rfl (hb hby at_20) rfl rfl ?_
    show Steps p.tables e below (T_3.setTop (mkF m 21 #[.val (.int p1), .val (.int (1 : Int32)), .val (.ref b_1), .val (.int (1 : Int32)), .unset] [(.ref b_1), (.int (1 : Int32))])) _
    refine st_6.trans ?_
    show Steps p.tables e below (T_6.setTop (mkF m 24 #[.val (.int p1), .val (.int (1 : Int32)), .val (.ref b_1), .val (.int (1 : Int32)), .unset] [(.int (0 : Int32)), (.int (1 : Int32))])) _
    refine XS.ifNo X_6.here hx rfl (hb hby at_24) rfl ((if0 _ _).trans (teq ((by decide) : (0 : Int32) = (0 : Int32))).2) ?_
    show Steps p.tables e below (T_6.setTop (mkF m 27 #[.val (.int p1), .val (.int (1 : Int32)), .val (.ref b_1), .val (.int (1 : Int32)), .unset] [(.int (1 : Int32))])) _
    refine XS.iconst X_6.here hx rfl (hb hby at_27) ?_
    show Steps p.tables e below (T_6.setTop (mkF m 28 #[.val (.int p1), .val (.int (1 : Int32)), .val (.ref b_1), .val (.int (1 : Int32)), .unset] [(.int (1 : Int32)), (.int (1 : Int32))])) _
    refine XS.goto X_6.here hx rfl (pc0 := 28) (pc' := 32) rfl (hb hby at_28) (by decide) (by decide) ?_
    show Steps p.tables e below (T_6.setTop (mkF m 32 #[.val (.int p1), .val (.int (1 : Int32)), .val (.ref b_1), .val (.int (1 : Int32)), .unset] [(.int (1 : Int32)), (.int (1 : Int32))])) _
    refine XS.iand X_6.here hx rfl (hb hby at_32) rfl ?_
    show Steps p.tables e below (T_6.setTop (mkF m 33 #[.val (.int p1), .val (.int (1 : Int32)), .val (.ref b_1), .val (.int (1 : Int32)), .unset] [(.int ((1 : Int32) &&& (1 : Int32)))])) _
    rw [own_11]
    show Steps p.tables e below (T_6.setTop (mkF m 33 #[.val (.int p1), .val (.int (1 : Int32)), .val (.ref b_1), .val (.int (1 : Int32)), .unset] [(.int (1 : Int32))])) _
    refine XS.istoreN X_6.here hx rfl (hb hby at_33) rfl (l' := #[.val (.int p1), .val (.int (1 : Int32)), .val (.ref b_1), .val (.int (1 : Int32)), .unset]) rfl ?_
    show Steps p.tables e below (T_6.setTop (mkF m 34 #[.val (.int p1), .val (.int (1 : Int32)), .val (.ref b_1), .val (.int (1 : Int32)), .unset] [])) _
    refine XS.iloadN X_6.here hx rfl (hb hby at_34) rfl ?_
    show Steps p.tables e below (T_6.setTop (mkF m 35 #[.val (.int p1), .val (.int (1 : Int32)), .val (.ref b_1), .val (.int (1 : Int32)), .unset] [(.int (1 : Int32))])) _
    refine XS.iconst X_6.here hx rfl (hb hby at_35) ?_
    show Steps p.tables e below (T_6.setTop (mkF m 36 #[.val (.int p1), .val (.int (1 : Int32)), .val (.ref b_1), .val (.int (1 : Int32)), .unset] [(.int (2 : Int32)), (.int (1 : Int32))])) _
    refine XS.icmpYes X_6.here hx rfl (pc0 := 36) (pc' := 55) rfl (hb hby at_36) rfl (tlt ((by decide) : (1 : Int32) < (2 : Int32))).1 (by decide) (by decide) ?_
    show Steps p.tables e below (T_6.setTop (mkF m 55 #[.val (.int p1), .val (.int (1 : Int32)), .val (.ref b_1), .val (.int (1 : Int32)), .unset] [])) _
    refine XS.iloadN X_6.here hx rfl (hb hby at_55) rfl ?_
    show Steps p.tables e below (T_6.setTop (mkF m 56 #[.val (.int p1), .val (.int (1 : Int32)), .val (.ref b_1), .val (.int (1 : Int32)), .unset] [(.int (1 : Int32))])) _
    refine XS.iconst X_6.here hx rfl (hb hby at_56) ?_
    show Steps p.tables e below (T_6.setTop (mkF m 57 #[.val (.int p1), .val (.int (1 : Int32)), .val (.ref b_1), .val (.int (1 : Int32)), .unset] [(.int (3 : Int32)), (.int (1 : Int32))])) _
    refine XS.icmpYes X_6.here hx rfl (pc0 := 57) (pc' := 76) rfl (hb hby at_57) rfl (tlt ((by decide) : (1 : Int32) < (3 : Int32))).1 (by decide) (by decide) ?_
    show Steps p.tables e below (T_6.setTop (mkF m 76 #[.val (.int p1), .val (.int (1 : Int32)), .val (.ref b_1), .val (.int (1 : Int32)), .unset] [])) _
    refine st_9 _ ?_
    show Steps p.tables e below (T_9.setTop (mkF m 79 #[.val (.int p1), .val (.int (1 : Int32)), .val (.ref b_1), .val (.int (1 : Int32)), .unset] [(.ref b_9)])) _
    refine XS.dup X_9.here hx rfl (hb hby at_79) rfl rfl ?_
    show Steps p.tables e below (T_9.setTop (mkF m 80 #[.val (.int p1), .val (.int (1 : Int32)), .val (.ref b_1), .val (.int (1 : Int32)), .unset] [(.ref b_9), (.ref b_9)])) _
    refine st_12.trans ?_
    show Steps p.tables e below (T_12.setTop (mkF m 83 #[.val (.int p1), .val (.int (1 : Int32)), .val (.ref b_1), .val (.int (1 : Int32)), .unset] [(.ref b_9)])) _
    refine XS.astore X_12.here hx rfl (hb hby at_83) rfl rfl (l' := #[.val (.int p1), .val (.int (1 : Int32)), .val (.ref b_1), .val (.int (1 : Int32)), .val (.ref b_9)]) rfl ?_
    show Steps p.tables e below (T_12.setTop (mkF m 85 #[.val (.int p1), .val (.int (1 : Int32)), .val (.ref b_1), .val (.int (1 : Int32)), .val (.ref b_9)] [])) _
    refine XS.iloadN X_12.here hx rfl (hb hby at_85) rfl ?_
    show Steps p.tables e below (T_12.setTop (mkF m 86 #[.val (.int p1), .val (.int (1 : Int32)), .val (.ref b_1), .val (.int (1 : Int32)), .val (.ref b_9)] [(.int (1 : Int32))])) _
    refine XS.aload X_12.here hx rfl (hb hby at_86) rfl rfl ?_
    show Steps p.tables e below (T_12.setTop (mkF m 88 #[.val (.int p1), .val (.int (1 : Int32)), .val (.ref b_1), .val (.int (1 : Int32)), .val (.ref b_9)] [(.ref b_9), (.int (1 : Int32))])) _
    refine st_15.trans ?_
    show Steps p.tables e below (T_15.setTop (mkF m 91 #[.val (.int p1), .val (.int (1 : Int32)), .val (.ref b_1), .val (.int (1 : Int32)), .val (.ref b_9)] [(.int (0 : Int32)), (.int (1 : Int32))])) _
    refine XS.ifNo X_15.here hx rfl (hb hby at_91) rfl ((if0 _ _).trans (teq ((by decide) : (0 : Int32) = (0 : Int32))).2) ?_
    show Steps p.tables e below (T_15.setTop (mkF m 94 #[.val (.int p1), .val (.int (1 : Int32)), .val (.ref b_1), .val (.int (1 : Int32)), .val (.ref b_9)] [(.int (1 : Int32))])) _
    refine XS.iconst X_15.here hx rfl (hb hby at_94) ?_
    show Steps p.tables e below (T_15.setTop (mkF m 95 #[.val (.int p1), .val (.int (1 : Int32)), .val (.ref b_1), .val (.int (1 : Int32)), .val (.ref b_9)] [(.int (1 : Int32)), (.int (1 : Int32))])) _
    refine XS.goto X_15.here hx rfl (pc0 := 95) (pc' := 99) rfl (hb hby at_95) (by decide) (by decide) ?_
    show Steps p.tables e below (T_15.setTop (mkF m 99 #[.val (.int p1), .val (.int (1 : Int32)), .val (.ref b_1), .val (.int (1 : Int32)), .val (.ref b_9)] [(.int (1 : Int32)), (.int (1 : Int32))])) _
    refine XS.iand X_15.here hx rfl (hb hby at_99) rfl ?_
    show Steps p.tables e below (T_15.setTop (mkF m 100 #[.val (.int p1), .val (.int (1 : Int32)), .val (.ref b_1), .val (.int (1 : Int32)), .val (.ref b_9)] [(.int ((1 : Int32) &&& (1 : Int32)))])) _
    rw [own_11]
    show Steps p.tables e below (T_15.setTop (mkF m 100 #[.val (.int p1), .val (.int (1 : Int32)), .val (.ref b_1), .val (.int (1 : Int32)), .val (.ref b_9)] [(.int (1 : Int32))])) _
    refine XS.istoreN X_15.here hx rfl (hb hby at_100) rfl (l' := #[.val (.int p1), .val (.int (1 : Int32)), .val (.ref b_1), .val (.int (1 : Int32)), .val (.ref b_9)]) rfl ?_
    show Steps p.tables e below (T_15.setTop (mkF m 101 #[.val (.int p1), .val (.int (1 : Int32)), .val (.ref b_1), .val (.int (1 : Int32)), .val (.ref b_9)] [])) _
    refine XS.iloadN X_15.here hx rfl (hb hby at_101) rfl ?_
    show Steps p.tables e below (T_15.setTop (mkF m 102 #[.val (.int p1), .val (.int (1 : Int32)), .val (.ref b_1), .val (.int (1 : Int32)), .val (.ref b_9)] [(.int (1 : Int32))])) _
    refine XS.aloadN X_15.here hx rfl (hb hby at_102) rfl rfl ?_
    show Steps p.tables e below (T_15.setTop (mkF m 103 #[.val (.int p1), .val (.int (1 : Int32)), .val (.ref b_1), .val (.int (1 : Int32)), .val (.ref b_9)] [(.ref b_1), (.int (1 : Int32))])) _
    refine st_18.trans ?_
    show Steps p.tables e below (T_18.setTop (mkF m 106 #[.val (.int p1), .val (.int (1 : Int32)), .val (.ref b_1), .val (.int (1 : Int32)), .val (.ref b_9)] [(.int (1 : Int32)), (.int (1 : Int32))])) _
    refine XS.iloadN X_18.here hx rfl (hb hby at_106) rfl ?_
    show Steps p.tables e below (T_18.setTop (mkF m 107 #[.val (.int p1), .val (.int (1 : Int32)), .val (.ref b_1), .val (.int (1 : Int32)), .val (.ref b_9)] [(.int (1 : Int32)), (.int (1 : Int32)), (.int (1 : Int32))])) _
    refine XS.icmpNo X_18.here hx rfl (hb hby at_107) rfl (teq ((by decide) : (1 : Int32) = (1 : Int32))).2 ?_
    show Steps p.tables e below (T_18.setTop (mkF m 110 #[.val (.int p1), .val (.int (1 : Int32)), .val (.ref b_1), .val (.int (1 : Int32)), .val (.ref b_9)] [(.int (1 : Int32))])) _
    refine XS.iconst X_18.here hx rfl (hb hby at_110) ?_
    show Steps p.tables e below (T_18.setTop (mkF m 111 #[.val (.int p1), .val (.int (1 : Int32)), .val (.ref b_1), .val (.int (1 : Int32)), .val (.ref b_9)] [(.int (1 : Int32)), (.int (1 : Int32))])) _
    refine XS.goto X_18.here hx rfl (pc0 := 111) (pc' := 115) rfl (hb hby at_111) (by decide) (by decide) ?_
    show Steps p.tables e below (T_18.setTop (mkF m 115 #[.val (.int p1), .val (.int (1 : Int32)), .val (.ref b_1), .val (.int (1 : Int32)), .val (.ref b_9)] [(.int (1 : Int32)), (.int (1 : Int32))])) _
    refine XS.iand X_18.here hx rfl (hb hby at_115) rfl ?_
    show Steps p.tables e below (T_18.setTop (mkF m 116 #[.val (.int p1), .val (.int (1 : Int32)), .val (.ref b_1), .val (.int (1 : Int32)), .val (.ref b_9)] [(.int ((1 : Int32) &&& (1 : Int32)))])) _
    rw [own_11]
    show Steps p.tables e below (T_18.setTop (mkF m 116 #[.val (.int p1), .val (.int (1 : Int32)), .val (.ref b_1), .val (.int (1 : Int32)), .val (.ref b_9)] [(.int (1 : Int32))])) _
    refine XS.istoreN X_18.here hx rfl (hb hby at_116) rfl (l' := #[.val (.int p1), .val (.int (1 : Int32)), .val (.ref b_1), .val (.int (1 : Int32)), .val (.ref b_9)]) rfl ?_
    show Steps p.tables e below (T_18.setTop (mkF m 117 #[.val (.int p1), .val (.int (1 : Int32)), .val (.ref b_1), .val (.int (1 : Int32)), .val (.ref b_9)] [])) _
    refine XS.iloadN X_18.here hx rfl (hb hby at_117) rfl ?_
    show Steps p.tables e below (T_18.setTop (mkF m 118 #[.val (.int p1), .val (.int (1 : Int32)), .val (.ref b_1), .val (.int (1 : Int32)), .val (.ref b_9)] [(.int (1 : Int32))])) _
    refine XS.aload X_18.here hx rfl (hb hby at_118) rfl rfl ?_
    show Steps p.tables e below (T_18.setTop (mkF m 120 #[.val (.int p1), .val (.int (1 : Int32)), .val (.ref b_1), .val (.int (1 : Int32)), .val (.ref b_9)] [(.ref b_9), (.int (1 : Int32))])) _
    refine st_22.trans ?_
    show Steps p.tables e below (T_22.setTop (mkF m 123 #[.val (.int p1), .val (.int (1 : Int32)), .val (.ref b_1), .val (.int (1 : Int32)), .val (.ref b_9)] [(.int (1 : Int32)), (.int (1 : Int32))])) _
    refine XS.iconst X_22.here hx rfl (hb hby at_123) ?_
    show Steps p.tables e below (T_22.setTop (mkF m 124 #[.val (.int p1), .val (.int (1 : Int32)), .val (.ref b_1), .val (.int (1 : Int32)), .val (.ref b_9)] [(.int (1 : Int32)), (.int (1 : Int32)), (.int (1 : Int32))])) _
    refine XS.icmpNo X_22.here hx rfl (hb hby at_124) rfl (teq ((by decide) : (1 : Int32) = (1 : Int32))).2 ?_
    show Steps p.tables e below (T_22.setTop (mkF m 127 #[.val (.int p1), .val (.int (1 : Int32)), .val (.ref b_1), .val (.int (1 : Int32)), .val (.ref b_9)] [(.int (1 : Int32))])) _
    refine XS.iconst X_22.here hx rfl (hb hby at_127) ?_
    show Steps p.tables e below (T_22.setTop (mkF m 128 #[.val (.int p1), .val (.int (1 : Int32)), .val (.ref b_1), .val (.int (1 : Int32)), .val (.ref b_9)] [(.int (1 : Int32)), (.int (1 : Int32))])) _
    refine XS.goto X_22.here hx rfl (pc0 := 128) (pc' := 132) rfl (hb hby at_128) (by decide) (by decide) ?_
    show Steps p.tables e below (T_22.setTop (mkF m 132 #[.val (.int p1), .val (.int (1 : Int32)), .val (.ref b_1), .val (.int (1 : Int32)), .val (.ref b_9)] [(.int (1 : Int32)), (.int (1 : Int32))])) _
    refine XS.iand X_22.here hx rfl (hb hby at_132) rfl ?_
    show Steps p.tables e below (T_22.setTop (mkF m 133 #[.val (.int p1), .val (.int (1 : Int32)), .val (.ref b_1), .val (.int (1 : Int32)), .val (.ref b_9)] [(.int ((1 : Int32) &&& (1 : Int32)))])) _
    rw [own_11]
    show Steps p.tables e below (T_22.setTop (mkF m 133 #[.val (.int p1), .val (.int (1 : Int32)), .val (.ref b_1), .val (.int (1 : Int32)), .val (.ref b_9)] [(.int (1 : Int32))])) _
    refine XS.istoreN X_22.here hx rfl (hb hby at_133) rfl (l' := #[.val (.int p1), .val (.int (1 : Int32)), .val (.ref b_1), .val (.int (1 : Int32)), .val (.ref b_9)]) rfl ?_
    show Steps p.tables e below (T_22.setTop (mkF m 134 #[.val (.int p1), .val (.int (1 : Int32)), .val (.ref b_1), .val (.int (1 : Int32)), .val (.ref b_9)] [])) _
    refine XS.iloadN X_22.here hx rfl (hb hby at_134) rfl ?_
    show Steps p.tables e below (T_22.setTop (mkF m 135 #[.val (.int p1), .val (.int (1 : Int32)), .val (.ref b_1), .val (.int (1 : Int32)), .val (.ref b_9)] [(.int (1 : Int32))])) _
    refine XS.aloadN X_22.here hx rfl (hb hby at_135) rfl rfl ?_
    show Steps p.tables e below (T_22.setTop (mkF m 136 #[.val (.int p1), .val (.int (1 : Int32)), .val (.ref b_1), .val (.int (1 : Int32)), .val (.ref b_9)] [(.ref b_1), (.int (1 : Int32))])) _
    refine st_26.trans ?_
    show Steps p.tables e below (T_26.setTop (mkF m 139 #[.val (.int p1), .val (.int (1 : Int32)), .val (.ref b_1), .val (.int (1 : Int32)), .val (.ref b_9)] [(.int (2 : Int32)), (.int (1 : Int32))])) _
    refine XS.iloadN X_26.here hx rfl (hb hby at_139) rfl ?_
    show Steps p.tables e below (T_26.setTop (mkF m 140 #[.val (.int p1), .val (.int (1 : Int32)), .val (.ref b_1), .val (.int (1 : Int32)), .val (.ref b_9)] [(.int (1 : Int32)), (.int (2 : Int32)), (.int (1 : Int32))])) _
    refine XS.iconst X_26.here hx rfl (hb hby at_140) ?_
    show Steps p.tables e below (T_26.setTop (mkF m 141 #[.val (.int p1), .val (.int (1 : Int32)), .val (.ref b_1), .val (.int (1 : Int32)), .val (.ref b_9)] [(.int (1 : Int32)), (.int (1 : Int32)), (.int (2 : Int32)), (.int (1 : Int32))])) _
    refine XS.iadd X_26.here hx rfl (hb hby at_141) rfl ?_
    show Steps p.tables e below (T_26.setTop (mkF m 142 #[.val (.int p1), .val (.int (1 : Int32)), .val (.ref b_1), .val (.int (1 : Int32)), .val (.ref b_9)] [(.int ((1 : Int32) + (1 : Int32))), (.int (2 : Int32)), (.int (1 : Int32))])) _
    refine XS.icmpNo X_26.here hx rfl (hb hby at_142) rfl (teq ((by decide) : (2 : Int32) = ((1 : Int32) + (1 : Int32)))).2 ?_
    show Steps p.tables e below (T_26.setTop (mkF m 145 #[.val (.int p1), .val (.int (1 : Int32)), .val (.ref b_1), .val (.int (1 : Int32)), .val (.ref b_9)] [(.int (1 : Int32))])) _
    refine XS.iconst X_26.here hx rfl (hb hby at_145) ?_
    show Steps p.tables e below (T_26.setTop (mkF m 146 #[.val (.int p1), .val (.int (1 : Int32)), .val (.ref b_1), .val (.int (1 : Int32)), .val (.ref b_9)] [(.int (1 : Int32)), (.int (1 : Int32))])) _
    refine XS.goto X_26.here hx rfl (pc0 := 146) (pc' := 150) rfl (hb hby at_146) (by decide) (by decide) ?_
    show Steps p.tables e below (T_26.setTop (mkF m 150 #[.val (.int p1), .val (.int (1 : Int32)), .val (.ref b_1), .val (.int (1 : Int32)), .val (.ref b_9)] [(.int (1 : Int32)), (.int (1 : Int32))])) _
    refine XS.iand X_26.here hx rfl (hb hby at_150) rfl ?_
    show Steps p.tables e below (T_26.setTop (mkF m 151 #[.val (.int p1), .val (.int (1 : Int32)), .val (.ref b_1), .val (.int (1 : Int32)), .val (.ref b_9)] [(.int ((1 : Int32) &&& (1 : Int32)))])) _
    rw [own_11]
    show Steps p.tables e below (T_26.setTop (mkF m 151 #[.val (.int p1), .val (.int (1 : Int32)), .val (.ref b_1), .val (.int (1 : Int32)), .val (.ref b_9)] [(.int (1 : Int32))])) _
    refine XS.istoreN X_26.here hx rfl (hb hby at_151) rfl (l' := #[.val (.int p1), .val (.int (1 : Int32)), .val (.ref b_1), .val (.int (1 : Int32)), .val (.ref b_9)]) rfl ?_
    show Steps p.tables e below (T_26.setTop (mkF m 152 #[.val (.int p1), .val (.int (1 : Int32)), .val (.ref b_1), .val (.int (1 : Int32)), .val (.ref b_9)] [])) _
    refine XS.iloadN X_26.here hx rfl (hb hby at_152) rfl ?_
    show Steps p.tables e below (T_26.setTop (mkF m 153 #[.val (.int p1), .val (.int (1 : Int32)), .val (.ref b_1), .val (.int (1 : Int32)), .val (.ref b_9)] [(.int (1 : Int32))])) _
    exact retN X_26 hx (t := .boolean) Bd.returns (by simp) (hb hby at_153) hr
  · show Q0 Z  h0 n0 _ T_26.heap _
    exact ⟨rfl, N_26⟩
set_option maxRecDepth 65536 in
set_option maxHeartbeats 40000000 in
theorem rm0_2 (l : Launch) (Z : State) (a0 : Array Value) (hw : ∀ d ∈ tables_1, d.before a0 Z = true) (ws : List Jvm.Cond) (p1 : Int32) (sd : Addr) (h0 : Heap) (n0 : Nat) (Z0 : n0 ≤ h0.size) (O_ : Old Z n0 h0) (S_ : Sta Z Z.heap "java/util/ArrayList" "DEFAULTCAPACITY_EMPTY_ELEMENTDATA" "[Ljava/lang/Object;" (.ref sd)) (hk_ : (p1 &&& (3 : Int32)) = (2 : Int32)) :
    MetFree l x (head1 (Jvm.Cond.code x code maxLocals ret :: ws) room_1) (fun as_ U => as_ = #[(.int p1)] ∧ Z.Warmed39 U.vm ∧ U.heap = h0) (fun _ _ _ _ _ => True) (fun _ U o U' => ∃ v L, o = .returned v ∧ Q0 Z  h0 n0 v U'.heap L ∧ FrameEnd U o U' L 6 18) := by
  refine MetFree.of_bodySF (plainFor_of_name pn_0) hisR ?_
  intro p e s m args below meth c s₁ Bd hml0 hP hK
  obtain ⟨rfl, hZ, hh⟩ := hP
  have hx := Bd.exec
  have hby := Bd.bytes
  have hml : c.maxLocals = 5 := hml0
  have hown : s.vm.findClass "com/example/arrivals_to_bounds/arrivalstobounds/LinearProgramVariablePinLaw" = some m.cls := findClass_of_methodNamed Bd.named
  have hnm := (name_of_methodNamed Bd.named Bd.method).1
  have X0 : Stand p l e room_1 s m #[(.int p1)] below meth c s₁ [] 0 0 := Stand.of_body Bd
  have e0 : s₁.heap = h0 := by rw [← hh, Bd.state]; rfl
  have N0 := Fr.nil n0
  have pre0 : ∀ t, Steps p.tables e below (s₁.setTop (mkF m 0 #[.val (.int p1), .unset, .unset, .unset, .unset] [])) t → Steps p.tables e below (s₁.setTop (entryFrame m #[(.int p1)] maxLocals)) t := fun t k => castTop (ef_0 m p1) k
  obtain ⟨T_1, h_1, X_1, e_1, E_1, A_1, D_1, -, st_1⟩ := newO X0 hx hZ hown (hw _ (List.mem_of_getElem? (i := 0) rfl)) (hw _ (List.mem_of_getElem? (i := 1) rfl)) (hw _ (List.mem_of_getElem? (i := 2) rfl)) e0 (g := (mkF m 4 #[.val (.int p1), .val (.int (2 : Int32)), .unset, .unset, .unset] [])) rfl (hb hby at_4) (by decide) (by decide)
  obtain ⟨b_1, g_1⟩ : ∃ z, z = h0.size := ⟨_, rfl⟩
  rw [← g_1] at A_1 D_1 st_1
  have g_b_1 : n0 ≤ b_1 := Nat.le_trans Z0 (Nat.le_of_eq g_1.symm)
  have sz_b_1 : h0.size ≤ b_1 := Nat.le_trans (Keep.refl h0 []).1 (Nat.le_of_eq g_1.symm)
  have K_1 : Keep h0 h_1 [] := (Keep.refl h0 []).ext E_1
  have Z_2 : n0 ≤ h_1.size := Nat.le_trans Z0 E_1.1
  have F_rows_b_1 : Fld Z h_1 b_1 "com/example/arrivals_to_bounds/arrivalstobounds/LinearProgram" "rows" "Ljava/util/List;" .null := D_1 (Or.inr (hw _ (List.mem_of_getElem? (i := 34) rfl))) (ty := (.object "java/util/List")) (by decide)
  have F_bounds_b_1 : Fld Z h_1 b_1 "com/example/arrivals_to_bounds/arrivalstobounds/LinearProgram" "bounds" "Ljava/util/List;" .null := D_1 (Or.inr (hw _ (List.mem_of_getElem? (i := 36) rfl))) (ty := (.object "java/util/List")) (by decide)
  have F_variables_b_1 : Fld Z h_1 b_1 "com/example/arrivals_to_bounds/arrivalstobounds/LinearProgram" "variables" "I" (.int (0 : Int32)) := D_1 (Or.inl (hw _ (List.mem_of_getElem? (i := 43) rfl))) (ty := .int) (by decide)
  have f_4_O_old := (O_.ext E_1)
  obtain ⟨_, _, ⟨T_3, L_3, k_3, n_3⟩, -, X_3, ⟨Lc_3, hQ_3, l_3, y_3, z_3⟩, st_3⟩ := X_1.specialBack hx (y := (⟨"com/example/arrivals_to_bounds/arrivalstobounds/LinearProgram", "<init>", "()V"⟩ : MethodName)) rfl hown (mvT hZ (hw _ (List.mem_of_getElem? (i := 3) rfl))) (mvT hZ (hw _ (List.mem_of_getElem? (i := 4) rfl))) (mvT hZ (hw _ (List.mem_of_getElem? (i := 5) rfl))) (by decide) (backOf (W := 1) (rm1 l Z a0 hw [] b_1 sd h_1 n0 Z_2 A_1 F_rows_b_1 F_bounds_b_1 F_variables_b_1 g_b_1 f_4_O_old S_) hZ (hw _ (List.mem_of_getElem? (i := 5) rfl)) (hw _ (List.mem_of_getElem? (i := 2) rfl)) (by decide) (by decide)) (g := (mkF m 8 #[.val (.int p1), .val (.int (2 : Int32)), .unset, .unset, .unset] [(.ref b_1), (.ref b_1)])) rfl (by rw [hml]; rfl) (Steps.refl _) (a := b_1) (argsL := []) (rest := [(.ref b_1)]) (lenOf pd_0 rfl) rfl (by show 2 * 0 + _ ≤ _; exact Nat.le_of_eq rfl) (hb hby at_8) (fun _ _ => ⟨rfl, e_1, (by decide : 1 + 2 ≤ _), (by decide : 3 + 6 ≤ _)⟩)
  dsimp only [Pt.U, Pt.locs, Pt.cells, Pt.slots] at X_3 l_3 y_3 z_3 st_3 hQ_3
  subst l_3 y_3 z_3
  obtain ⟨rfl, Nq_3, Kq_3, Fv_3⟩ := hQ_3
  have N_3 := Fr.app N0 Nq_3
  have KK_3 : Keep h0 T_3.heap [] := K_1.trans Kq_3 (allS (Or.inr sz_b_1) all0)
  have Z_5 : n0 ≤ T_3.heap.size := Nat.le_trans Z_2 Kq_3.1
  have f_7_E_b_1 := (A_1.keep Kq_3)
  obtain ⟨cq_6, kq_6, q_6a, q_6b, q_6c⟩ := isOf hZ rfl f_7_E_b_1
  obtain ⟨_, _, ⟨T_6, L_6, k_6, n_6⟩, -, X_6, ⟨Lc_6, hQ_6, l_6, y_6, z_6⟩, st_6⟩ := X_3.virtualBack hx (y := (⟨"com/example/arrivals_to_bounds/arrivalstobounds/LinearProgram", "variable", "()I"⟩ : MethodName)) (z := (⟨"com/example/arrivals_to_bounds/arrivalstobounds/LinearProgram", "variable", "()I"⟩ : MethodName)) hown (mvT hZ (hw _ (List.mem_of_getElem? (i := 37) rfl))) (mvT hZ (hw _ (List.mem_of_getElem? (i := 38) rfl))) (notFace_of_selects (args := #[]) (mvT hZ (hw _ (List.mem_of_getElem? (i := 40) rfl)))) (mvT hZ (hw _ (List.mem_of_getElem? (i := 40) rfl))) (mvT hZ (hw _ (List.mem_of_getElem? (i := 39) rfl))) (by decide) (backOf (W := 1) (rm6 l Z a0 hw [] b_1 (0 : Int32) (1 : Int32) T_3.heap n0 Z_5 f_7_E_b_1 Fv_3 g_b_1 (by decide)) hZ (hw _ (List.mem_of_getElem? (i := 41) rfl)) (hw _ (List.mem_of_getElem? (i := 2) rfl)) (by decide) (by decide)) q_6a q_6c (g := (mkF m 21 #[.val (.int p1), .val (.int (2 : Int32)), .val (.ref b_1), .val (.int (1 : Int32)), .unset] [(.ref b_1), (.int (1 : Int32))])) rfl (by rw [hml]; rfl) (Steps.refl _) (argsL := []) (rest := [(.int (1 : Int32))]) (lenOf pd_1 rfl) rfl (by show 2 * 0 + _ ≤ _; exact Nat.le_of_eq rfl) (hb hby at_21) (fun _ _ => ⟨rfl, rfl, (by decide : 3 + 0 ≤ _), (by decide : 9 + 0 ≤ _)⟩)
  dsimp only [Pt.U, Pt.locs, Pt.cells, Pt.slots] at X_6 l_6 y_6 z_6 st_6 hQ_6
  subst l_6 y_6 z_6
  obtain ⟨rfl, Nq_6, Kq_6, Fv_6⟩ := hQ_6
  have N_6 := Fr.app N_3 Nq_6
  have KK_6 : Keep h0 T_6.heap [] := KK_3.trans Kq_6 (allS (Or.inr sz_b_1) all0)
  have Z_8 : n0 ≤ T_6.heap.size := Nat.le_trans Z_5 Kq_6.1
  have f_10_E_b_1 := (f_7_E_b_1.keep Kq_6)
  obtain ⟨cq_9, kq_9, q_9a, q_9b, q_9c⟩ := isOf hZ rfl f_10_E_b_1
  obtain ⟨_, _, ⟨T_9, L_9, k_9, n_9⟩, -, X_9, ⟨Lc_9, hQ_9, l_9, y_9, z_9⟩, st_9⟩ := X_6.virtualBack hx (y := (⟨"com/example/arrivals_to_bounds/arrivalstobounds/LinearProgram", "variable", "()I"⟩ : MethodName)) (z := (⟨"com/example/arrivals_to_bounds/arrivalstobounds/LinearProgram", "variable", "()I"⟩ : MethodName)) hown (mvT hZ (hw _ (List.mem_of_getElem? (i := 37) rfl))) (mvT hZ (hw _ (List.mem_of_getElem? (i := 38) rfl))) (notFace_of_selects (args := #[]) (mvT hZ (hw _ (List.mem_of_getElem? (i := 40) rfl)))) (mvT hZ (hw _ (List.mem_of_getElem? (i := 40) rfl))) (mvT hZ (hw _ (List.mem_of_getElem? (i := 39) rfl))) (by decide) (backOf (W := 1) (rm6 l Z a0 hw [] b_1 (1 : Int32) (2 : Int32) T_6.heap n0 Z_8 f_10_E_b_1 Fv_6 g_b_1 (by decide)) hZ (hw _ (List.mem_of_getElem? (i := 41) rfl)) (hw _ (List.mem_of_getElem? (i := 2) rfl)) (by decide) (by decide)) q_9a q_9c (g := (mkF m 41 #[.val (.int p1), .val (.int (2 : Int32)), .val (.ref b_1), .val (.int (1 : Int32)), .unset] [(.ref b_1), (.int (1 : Int32))])) rfl (by rw [hml]; rfl) (Steps.refl _) (argsL := []) (rest := [(.int (1 : Int32))]) (lenOf pd_1 rfl) rfl (by show 2 * 0 + _ ≤ _; exact Nat.le_of_eq rfl) (hb hby at_41) (fun _ _ => ⟨rfl, rfl, (by decide : 3 + 0 ≤ _), (by decide : 9 + 0 ≤ _)⟩)
  dsimp only [Pt.U, Pt.locs, Pt.cells, Pt.slots] at X_9 l_9 y_9 z_9 st_9 hQ_9
  subst l_9 y_9 z_9
  obtain ⟨rfl, Nq_9, Kq_9, Fv_9⟩ := hQ_9
  have N_9 := Fr.app N_6 Nq_9
  have KK_9 : Keep h0 T_9.heap [] := KK_6.trans Kq_9 (allS (Or.inr sz_b_1) all0)
  have Z_11 : n0 ≤ T_9.heap.size := Nat.le_trans Z_8 Kq_9.1
  obtain ⟨T_12, h_12, X_12, e_12, E_12, A_12, D_12, -, st_12⟩ := newO X_9 hx hZ hown (hw _ (List.mem_of_getElem? (i := 0) rfl)) (hw _ (List.mem_of_getElem? (i := 1) rfl)) (hw _ (List.mem_of_getElem? (i := 2) rfl)) rfl (g := (mkF m 76 #[.val (.int p1), .val (.int (2 : Int32)), .val (.ref b_1), .val (.int (1 : Int32)), .unset] [])) rfl (hb hby at_76) (by decide) (by decide)
  obtain ⟨b_12, g_12⟩ : ∃ z, z = T_9.heap.size := ⟨_, rfl⟩
  rw [← g_12] at A_12 D_12 st_12
  have f_13_E_b_1 := (f_10_E_b_1.keep Kq_9)
  have ne_b_1_b_12 : b_1 ≠ b_12 := Nat.ne_of_lt (Nat.lt_of_lt_of_le f_13_E_b_1.lt (Nat.le_of_eq g_12.symm))
  have g_b_12 : n0 ≤ b_12 := Nat.le_trans Z_11 (Nat.le_of_eq g_12.symm)
  have sz_b_12 : h0.size ≤ b_12 := Nat.le_trans KK_9.1 (Nat.le_of_eq g_12.symm)
  have K_12 : Keep h0 h_12 [] := KK_9.ext E_12
  have Z_14 : n0 ≤ h_12.size := Nat.le_trans Z_11 E_12.1
  have F_rows_b_12 : Fld Z h_12 b_12 "com/example/arrivals_to_bounds/arrivalstobounds/LinearProgram" "rows" "Ljava/util/List;" .null := D_12 (Or.inr (hw _ (List.mem_of_getElem? (i := 34) rfl))) (ty := (.object "java/util/List")) (by decide)
  have F_bounds_b_12 : Fld Z h_12 b_12 "com/example/arrivals_to_bounds/arrivalstobounds/LinearProgram" "bounds" "Ljava/util/List;" .null := D_12 (Or.inr (hw _ (List.mem_of_getElem? (i := 36) rfl))) (ty := (.object "java/util/List")) (by decide)
  have F_variables_b_12 : Fld Z h_12 b_12 "com/example/arrivals_to_bounds/arrivalstobounds/LinearProgram" "variables" "I" (.int (0 : Int32)) := D_12 (Or.inl (hw _ (List.mem_of_getElem? (i := 43) rfl))) (ty := .int) (by decide)
  have f_16_O_old := ((((f_4_O_old.keep Kq_3 (allS g_b_1 all0)).keep Kq_6 (allS g_b_1 all0)).keep Kq_9 (allS g_b_1 all0)).ext E_12)
  obtain ⟨_, _, ⟨T_15, L_15, k_15, n_15⟩, -, X_15, ⟨Lc_15, hQ_15, l_15, y_15, z_15⟩, st_15⟩ := X_12.specialBack hx (y := (⟨"com/example/arrivals_to_bounds/arrivalstobounds/LinearProgram", "<init>", "()V"⟩ : MethodName)) rfl hown (mvT hZ (hw _ (List.mem_of_getElem? (i := 3) rfl))) (mvT hZ (hw _ (List.mem_of_getElem? (i := 4) rfl))) (mvT hZ (hw _ (List.mem_of_getElem? (i := 5) rfl))) (by decide) (backOf (W := 1) (rm1 l Z a0 hw [] b_12 sd h_12 n0 Z_14 A_12 F_rows_b_12 F_bounds_b_12 F_variables_b_12 g_b_12 f_16_O_old S_) hZ (hw _ (List.mem_of_getElem? (i := 5) rfl)) (hw _ (List.mem_of_getElem? (i := 2) rfl)) (by decide) (by decide)) (g := (mkF m 80 #[.val (.int p1), .val (.int (2 : Int32)), .val (.ref b_1), .val (.int (1 : Int32)), .unset] [(.ref b_12), (.ref b_12)])) rfl (by rw [hml]; rfl) (Steps.refl _) (a := b_12) (argsL := []) (rest := [(.ref b_12)]) (lenOf pd_0 rfl) rfl (by show 2 * 0 + _ ≤ _; exact Nat.le_of_eq rfl) (hb hby at_80) (fun _ _ => ⟨rfl, e_12, (by decide : 4 + 2 ≤ _), (by decide : 12 + 6 ≤ _)⟩)
  dsimp only [Pt.U, Pt.locs, Pt.cells, Pt.slots] at X_15 l_15 y_15 z_15 st_15 hQ_15
  subst l_15 y_15 z_15
  obtain ⟨rfl, Nq_15, Kq_15, Fv_15⟩ := hQ_15
  have N_15 := Fr.app N_9 Nq_15
  have KK_15 : Keep h0 T_15.heap [] := K_12.trans Kq_15 (allS (Or.inr sz_b_12) all0)
  have Z_17 : n0 ≤ T_15.heap.size := Nat.le_trans Z_14 Kq_15.1
  have f_19_E_b_12 := (A_12.keep Kq_15)
  obtain ⟨cq_18, kq_18, q_18a, q_18b, q_18c⟩ := isOf hZ rfl f_19_E_b_12
  obtain ⟨_, _, ⟨T_18, L_18, k_18, n_18⟩, -, X_18, ⟨Lc_18, hQ_18, l_18, y_18, z_18⟩, st_18⟩ := X_15.virtualBack hx (y := (⟨"com/example/arrivals_to_bounds/arrivalstobounds/LinearProgram", "variable", "()I"⟩ : MethodName)) (z := (⟨"com/example/arrivals_to_bounds/arrivalstobounds/LinearProgram", "variable", "()I"⟩ : MethodName)) hown (mvT hZ (hw _ (List.mem_of_getElem? (i := 37) rfl))) (mvT hZ (hw _ (List.mem_of_getElem? (i := 38) rfl))) (notFace_of_selects (args := #[]) (mvT hZ (hw _ (List.mem_of_getElem? (i := 40) rfl)))) (mvT hZ (hw _ (List.mem_of_getElem? (i := 40) rfl))) (mvT hZ (hw _ (List.mem_of_getElem? (i := 39) rfl))) (by decide) (backOf (W := 1) (rm6 l Z a0 hw [] b_12 (0 : Int32) (1 : Int32) T_15.heap n0 Z_17 f_19_E_b_12 Fv_15 g_b_12 (by decide)) hZ (hw _ (List.mem_of_getElem? (i := 41) rfl)) (hw _ (List.mem_of_getElem? (i := 2) rfl)) (by decide) (by decide)) q_18a q_18c (g := (mkF m 88 #[.val (.int p1), .val (.int (2 : Int32)), .val (.ref b_1), .val (.int (1 : Int32)), .val (.ref b_12)] [(.ref b_12), (.int (1 : Int32))])) rfl (by rw [hml]; rfl) (Steps.refl _) (argsL := []) (rest := [(.int (1 : Int32))]) (lenOf pd_1 rfl) rfl (by show 2 * 0 + _ ≤ _; exact Nat.le_of_eq rfl) (hb hby at_88) (fun _ _ => ⟨rfl, rfl, (by decide : 6 + 0 ≤ _), (by decide : 18 + 0 ≤ _)⟩)
  dsimp only [Pt.U, Pt.locs, Pt.cells, Pt.slots] at X_18 l_18 y_18 z_18 st_18 hQ_18
  subst l_18 y_18 z_18
  obtain ⟨rfl, Nq_18, Kq_18, Fv_18⟩ := hQ_18
  have N_18 := Fr.app N_15 Nq_18
  have KK_18 : Keep h0 T_18.heap [] := KK_15.trans Kq_18 (allS (Or.inr sz_b_12) all0)
  have Z_20 : n0 ≤ T_18.heap.size := Nat.le_trans Z_17 Kq_18.1
  have f_22_E_b_1 := (((f_13_E_b_1.ext E_12).keep Kq_15).keep Kq_18)
  have f_23_F_b_1_variables := (((Fv_9.ext E_12).keep Kq_15 (ninS ne_b_1_b_12 nin0)).keep Kq_18 (ninS ne_b_1_b_12 nin0))
  obtain ⟨cq_21, kq_21, q_21a, q_21b, q_21c⟩ := isOf hZ rfl f_22_E_b_1
  obtain ⟨_, _, ⟨T_21, L_21, k_21, n_21⟩, -, X_21, ⟨Lc_21, hQ_21, l_21, y_21, z_21⟩, st_21⟩ := X_18.virtualBack hx (y := (⟨"com/example/arrivals_to_bounds/arrivalstobounds/LinearProgram", "variable", "()I"⟩ : MethodName)) (z := (⟨"com/example/arrivals_to_bounds/arrivalstobounds/LinearProgram", "variable", "()I"⟩ : MethodName)) hown (mvT hZ (hw _ (List.mem_of_getElem? (i := 37) rfl))) (mvT hZ (hw _ (List.mem_of_getElem? (i := 38) rfl))) (notFace_of_selects (args := #[]) (mvT hZ (hw _ (List.mem_of_getElem? (i := 40) rfl)))) (mvT hZ (hw _ (List.mem_of_getElem? (i := 40) rfl))) (mvT hZ (hw _ (List.mem_of_getElem? (i := 39) rfl))) (by decide) (backOf (W := 1) (rm6 l Z a0 hw [] b_1 (2 : Int32) (3 : Int32) T_18.heap n0 Z_20 f_22_E_b_1 f_23_F_b_1_variables g_b_1 (by decide)) hZ (hw _ (List.mem_of_getElem? (i := 41) rfl)) (hw _ (List.mem_of_getElem? (i := 2) rfl)) (by decide) (by decide)) q_21a q_21c (g := (mkF m 103 #[.val (.int p1), .val (.int (2 : Int32)), .val (.ref b_1), .val (.int (1 : Int32)), .val (.ref b_12)] [(.ref b_1), (.int (1 : Int32))])) rfl (by rw [hml]; rfl) (Steps.refl _) (argsL := []) (rest := [(.int (1 : Int32))]) (lenOf pd_1 rfl) rfl (by show 2 * 0 + _ ≤ _; exact Nat.le_of_eq rfl) (hb hby at_103) (fun _ _ => ⟨rfl, rfl, (by decide : 6 + 0 ≤ _), (by decide : 18 + 0 ≤ _)⟩)
  dsimp only [Pt.U, Pt.locs, Pt.cells, Pt.slots] at X_21 l_21 y_21 z_21 st_21 hQ_21
  subst l_21 y_21 z_21
  obtain ⟨rfl, Nq_21, Kq_21, Fv_21⟩ := hQ_21
  have N_21 := Fr.app N_18 Nq_21
  have KK_21 : Keep h0 T_21.heap [] := KK_18.trans Kq_21 (allS (Or.inr sz_b_1) all0)
  have Z_24 : n0 ≤ T_21.heap.size := Nat.le_trans Z_20 Kq_21.1
  have f_26_E_b_12 := ((f_19_E_b_12.keep Kq_18).keep Kq_21)
  have f_27_F_b_12_variables := (Fv_18.keep Kq_21 (ninS (Ne.symm ne_b_1_b_12) nin0))
  obtain ⟨cq_25, kq_25, q_25a, q_25b, q_25c⟩ := isOf hZ rfl f_26_E_b_12
  obtain ⟨_, _, ⟨T_25, L_25, k_25, n_25⟩, -, X_25, ⟨Lc_25, hQ_25, l_25, y_25, z_25⟩, st_25⟩ := X_21.virtualBack hx (y := (⟨"com/example/arrivals_to_bounds/arrivalstobounds/LinearProgram", "variable", "()I"⟩ : MethodName)) (z := (⟨"com/example/arrivals_to_bounds/arrivalstobounds/LinearProgram", "variable", "()I"⟩ : MethodName)) hown (mvT hZ (hw _ (List.mem_of_getElem? (i := 37) rfl))) (mvT hZ (hw _ (List.mem_of_getElem? (i := 38) rfl))) (notFace_of_selects (args := #[]) (mvT hZ (hw _ (List.mem_of_getElem? (i := 40) rfl)))) (mvT hZ (hw _ (List.mem_of_getElem? (i := 40) rfl))) (mvT hZ (hw _ (List.mem_of_getElem? (i := 39) rfl))) (by decide) (backOf (W := 1) (rm6 l Z a0 hw [] b_12 (1 : Int32) (2 : Int32) T_21.heap n0 Z_24 f_26_E_b_12 f_27_F_b_12_variables g_b_12 (by decide)) hZ (hw _ (List.mem_of_getElem? (i := 41) rfl)) (hw _ (List.mem_of_getElem? (i := 2) rfl)) (by decide) (by decide)) q_25a q_25c (g := (mkF m 120 #[.val (.int p1), .val (.int (2 : Int32)), .val (.ref b_1), .val (.int (1 : Int32)), .val (.ref b_12)] [(.ref b_12), (.int (1 : Int32))])) rfl (by rw [hml]; rfl) (Steps.refl _) (argsL := []) (rest := [(.int (1 : Int32))]) (lenOf pd_1 rfl) rfl (by show 2 * 0 + _ ≤ _; exact Nat.le_of_eq rfl) (hb hby at_120) (fun _ _ => ⟨rfl, rfl, (by decide : 6 + 0 ≤ _), (by decide : 18 + 0 ≤ _)⟩)
  dsimp only [Pt.U, Pt.locs, Pt.cells, Pt.slots] at X_25 l_25 y_25 z_25 st_25 hQ_25
  subst l_25 y_25 z_25
  obtain ⟨rfl, Nq_25, Kq_25, Fv_25⟩ := hQ_25
  have N_25 := Fr.app N_21 Nq_25
  have KK_25 : Keep h0 T_25.heap [] := KK_21.trans Kq_25 (allS (Or.inr sz_b_12) all0)
  have Z_28 : n0 ≤ T_25.heap.size := Nat.le_trans Z_24 Kq_25.1
  have f_30_E_b_1 := ((f_22_E_b_1.keep Kq_21).keep Kq_25)
  have f_31_F_b_1_variables := (Fv_21.keep Kq_25 (ninS ne_b_1_b_12 nin0))
  obtain ⟨cq_29, kq_29, q_29a, q_29b, q_29c⟩ := isOf hZ rfl f_30_E_b_1
  obtain ⟨_, _, ⟨T_29, L_29, k_29, n_29⟩, -, X_29, ⟨Lc_29, hQ_29, l_29, y_29, z_29⟩, st_29⟩ := X_25.virtualBack hx (y := (⟨"com/example/arrivals_to_bounds/arrivalstobounds/LinearProgram", "variable", "()I"⟩ : MethodName)) (z := (⟨"com/example/arrivals_to_bounds/arrivalstobounds/LinearProgram", "variable", "()I"⟩ : MethodName)) hown (mvT hZ (hw _ (List.mem_of_getElem? (i := 37) rfl))) (mvT hZ (hw _ (List.mem_of_getElem? (i := 38) rfl))) (notFace_of_selects (args := #[]) (mvT hZ (hw _ (List.mem_of_getElem? (i := 40) rfl)))) (mvT hZ (hw _ (List.mem_of_getElem? (i := 40) rfl))) (mvT hZ (hw _ (List.mem_of_getElem? (i := 39) rfl))) (by decide) (backOf (W := 1) (rm6 l Z a0 hw [] b_1 (3 : Int32) (4 : Int32) T_25.heap n0 Z_28 f_30_E_b_1 f_31_F_b_1_variables g_b_1 (by decide)) hZ (hw _ (List.mem_of_getElem? (i := 41) rfl)) (hw _ (List.mem_of_getElem? (i := 2) rfl)) (by decide) (by decide)) q_29a q_29c (g := (mkF m 136 #[.val (.int p1), .val (.int (2 : Int32)), .val (.ref b_1), .val (.int (1 : Int32)), .val (.ref b_12)] [(.ref b_1), (.int (1 : Int32))])) rfl (by rw [hml]; rfl) (Steps.refl _) (argsL := []) (rest := [(.int (1 : Int32))]) (lenOf pd_1 rfl) rfl (by show 2 * 0 + _ ≤ _; exact Nat.le_of_eq rfl) (hb hby at_136) (fun _ _ => ⟨rfl, rfl, (by decide : 6 + 0 ≤ _), (by decide : 18 + 0 ≤ _)⟩)
  dsimp only [Pt.U, Pt.locs, Pt.cells, Pt.slots] at X_29 l_29 y_29 z_29 st_29 hQ_29
  subst l_29 y_29 z_29
  obtain ⟨rfl, Nq_29, Kq_29, Fv_29⟩ := hQ_29
  have N_29 := Fr.app N_25 Nq_29
  have KK_29 : Keep h0 T_29.heap [] := KK_25.trans Kq_29 (allS (Or.inr sz_b_1) all0)
  have Z_32 : n0 ≤ T_29.heap.size := Nat.le_trans Z_28 Kq_29.1
  obtain ⟨fs, hr, hrun, hended, hW, hsame⟩ := X_29.leave (v := some (.int (1 : Int32))) (fun h => by rw [Bd.returns] at h; cases h)
  refine ⟨_, _, pre0 _ ?_, hrun, hended, _, _, rfl, ?_, ⟨_, rfl⟩, hW, hsame.mono (by decide) (by decide)⟩
  · show Steps p.tables e below (s₁.setTop (mkF m 0 #[.val (.int p1), .unset, .unset, .unset, .unset] [])) _
    refine XS.iloadN X0.here hx rfl (hb hby at_0) rfl ?_
    show Steps p.tables e below (s₁.setTop (mkF m 1 #[.val (.int p1), .unset, .unset, .unset, .unset] [(.int p1)])) _
    refine XS.iconst X0.here hx rfl (hb hby at_1) ?_
    show Steps p.tables e below (s₁.setTop (mkF m 2 #[.val (.int p1), .unset, .unset, .unset, .unset] [(.int (3 : Int32)), (.int p1)])) _
    refine XS.iand X0.here hx rfl (hb hby at_2) rfl ?_
    show Steps p.tables e below (s₁.setTop (mkF m 3 #[.val (.int p1), .unset, .unset, .unset, .unset] [(.int (p1 &&& (3 : Int32)))])) _
    rw [hk_]
    show Steps p.tables e below (s₁.setTop (mkF m 3 #[.val (.int p1), .unset, .unset, .unset, .unset] [(.int (2 : Int32))])) _
    refine XS.istoreN X0.here hx rfl (hb hby at_3) rfl (l' := #[.val (.int p1), .val (.int (2 : Int32)), .unset, .unset, .unset]) rfl ?_
    show Steps p.tables e below (s₁.setTop (mkF m 4 #[.val (.int p1), .val (.int (2 : Int32)), .unset, .unset, .unset] [])) _
    refine st_1 _ ?_
    show Steps p.tables e below (T_1.setTop (mkF m 7 #[.val (.int p1), .val (.int (2 : Int32)), .unset, .unset, .unset] [(.ref b_1)])) _
    refine XS.dup X_1.here hx rfl (hb hby at_7) rfl rfl ?_
    show Steps p.tables e below (T_1.setTop (mkF m 8 #[.val (.int p1), .val (.int (2 : Int32)), .unset, .unset, .unset] [(.ref b_1), (.ref b_1)])) _
    refine st_3.trans ?_
    show Steps p.tables e below (T_3.setTop (mkF m 11 #[.val (.int p1), .val (.int (2 : Int32)), .unset, .unset, .unset] [(.ref b_1)])) _
    refine XS.astoreN X_3.here hx rfl (hb hby at_11) rfl rfl (l' := #[.val (.int p1), .val (.int (2 : Int32)), .val (.ref b_1), .unset, .unset]) rfl ?_
    show Steps p.tables e below (T_3.setTop (mkF m 12 #[.val (.int p1), .val (.int (2 : Int32)), .val (.ref b_1), .unset, .unset] [])) _
    refine XS.iconst X_3.here hx rfl (hb hby at_12) ?_
    show Steps p.tables e below (T_3.setTop (mkF m 13 #[.val (.int p1), .val (.int (2 : Int32)), .val (.ref b_1), .unset, .unset] [(.int (1 : Int32))])) _
    refine XS.istoreN X_3.here hx rfl (hb hby at_13) rfl (l' := #[.val (.int p1), .val (.int (2 : Int32)), .val (.ref b_1), .val (.int (1 : Int32)), .unset]) rfl ?_
    show Steps p.tables e below (T_3.setTop (mkF m 14 #[.val (.int p1), .val (.int (2 : Int32)), .val (.ref b_1), .val (.int (1 : Int32)), .unset] [])) _
    refine XS.iloadN X_3.here hx rfl (hb hby at_14) rfl ?_
    show Steps p.tables e below (T_3.setTop (mkF m 15 #[.val (.int p1), .val (.int (2 : Int32)), .val (.ref b_1), .val (.int (1 : Int32)), .unset] [(.int (2 : Int32))])) _
    refine XS.iconst X_3.here hx rfl (hb hby at_15) ?_
    show Steps p.tables e below (T_3.setTop (mkF m 16 #[.val (.int p1), .val (.int (2 : Int32)), .val (.ref b_1), .val (.int (1 : Int32)), .unset] [(.int (1 : Int32)), (.int (2 : Int32))])) _
    refine XS.icmpNo X_3.here hx rfl (hb hby at_16) rfl (flt ((by decide) : ¬ ((2 : Int32) < (1 : Int32)))).1 ?_
    show Steps p.tables e below (T_3.setTop (mkF m 19 #[.val (.int p1), .val (.int (2 : Int32)), .val (.ref b_1), .val (.int (1 : Int32)), .unset] [])) _
    refine XS.iloadN X_3.here hx rfl (hb hby at_19) rfl ?_
    show Steps p.tables e below (T_3.setTop (mkF m 20 #[.val (.int p1), .val (.int (2 : Int32)), .val (.ref b_1), .val (.int (1 : Int32)), .unset] [(.int (1 : Int32))])) _
    refine XS.aloadN X_3.here hx rfl (hb hby at_20) rfl rfl ?_
    show Steps p.tables e below (T_3.setTop (mkF m 21 #[.val (.int p1), .val (.int (2 : Int32)), .val (.ref b_1), .val (.int (1 : Int32)), .unset] [(.ref b_1), (.int (1 : Int32))])) _
    refine st_6.trans ?_
    show Steps p.tables e below (T_6.setTop (mkF m 24 #[.val (.int p1), .val (.int (2 : Int32)), .val (.ref b_1), .val (.int (1 : Int32)), .unset] [(.int (0 : Int32)), (.int (1 : Int32))])) _
    refine XS.ifNo X_6.here hx rfl (hb hby at_24) rfl ((if0 _ _).trans (teq ((by decide) : (0 : Int32) = (0 : Int32))).2) ?_
    show Steps p.tables e below (T_6.setTop (mkF m 27 #[.val (.int p1), .val (.int (2 : Int32)), .val (.ref b_1), .val (.int (1 : Int32)), .unset] [(.int (1 : Int32))])) _
    refine XS.iconst X_6.here hx rfl (hb hby at_27) ?_
    show Steps p.tables e below (T_6.setTop (mkF m 28 #[.val (.int p1), .val (.int (2 : Int32)), .val (.ref b_1), .val (.int (1 : Int32)), .unset] [(.int (1 : Int32)), (.int (1 : Int32))])) _
    refine XS.goto X_6.here hx rfl (pc0 := 28) (pc' := 32) rfl (hb hby at_28) (by decide) (by decide) ?_
    show Steps p.tables e below (T_6.setTop (mkF m 32 #[.val (.int p1), .val (.int (2 : Int32)), .val (.ref b_1), .val (.int (1 : Int32)), .unset] [(.int (1 : Int32)), (.int (1 : Int32))])) _
    refine XS.iand X_6.here hx rfl (hb hby at_32) rfl ?_
    show Steps p.tables e below (T_6.setTop (mkF m 33 #[.val (.int p1), .val (.int (2 : Int32)), .val (.ref b_1), .val (.int (1 : Int32)), .unset] [(.int ((1 : Int32) &&& (1 : Int32)))])) _
    rw [own_11]
    show Steps p.tables e below (T_6.setTop (mkF m 33 #[.val (.int p1), .val (.int (2 : Int32)), .val (.ref b_1), .val (.int (1 : Int32)), .unset] [(.int (1 : Int32))])) _
    refine XS.istoreN X_6.here hx rfl (hb hby at_33) rfl (l' := #[.val (.int p1), .val (.int (2 : Int32)), .val (.ref b_1), .val (.int (1 : Int32)), .unset]) rfl ?_
    show Steps p.tables e below (T_6.setTop (mkF m 34 #[.val (.int p1), .val (.int (2 : Int32)), .val (.ref b_1), .val (.int (1 : Int32)), .unset] [])) _
    refine XS.iloadN X_6.here hx rfl (hb hby at_34) rfl ?_
    show Steps p.tables e below (T_6.setTop (mkF m 35 #[.val (.int p1), .val (.int (2 : Int32)), .val (.ref b_1), .val (.int (1 : Int32)), .unset] [(.int (2 : Int32))])) _
    refine XS.iconst X_6.here hx rfl (hb hby at_35) ?_
    show Steps p.tables e below (T_6.setTop (mkF m 36 #[.val (.int p1), .val (.int (2 : Int32)), .val (.ref b_1), .val (.int (1 : Int32)), .unset] [(.int (2 : Int32)), (.int (2 : Int32))])) _
    refine XS.icmpNo X_6.here hx rfl (hb hby at_36) rfl (flt ((by decide) : ¬ ((2 : Int32) < (2 : Int32)))).1 ?_
    show Steps p.tables e below (T_6.setTop (mkF m 39 #[.val (.int p1), .val (.int (2 : Int32)), .val (.ref b_1), .val (.int (1 : Int32)), .unset] [])) _
    refine XS.iloadN X_6.here hx rfl (hb hby at_39) rfl ?_
    show Steps p.tables e below (T_6.setTop (mkF m 40 #[.val (.int p1), .val (.int (2 : Int32)), .val (.ref b_1), .val (.int (1 : Int32)), .unset] [(.int (1 : Int32))])) _
    refine XS.aloadN X_6.here hx rfl (hb hby at_40) rfl rfl ?_
    show Steps p.tables e below (T_6.setTop (mkF m 41 #[.val (.int p1), .val (.int (2 : Int32)), .val (.ref b_1), .val (.int (1 : Int32)), .unset] [(.ref b_1), (.int (1 : Int32))])) _
    refine st_9.trans ?_
    show Steps p.tables e below (T_9.setTop (mkF m 44 #[.val (.int p1), .val (.int (2 : Int32)), .val (.ref b_1), .val (.int (1 : Int32)), .unset] [(.int (1 : Int32)), (.int (1 : Int32))])) _
    refine XS.iconst X_9.here hx rfl (hb hby at_44) ?_
    show Steps p.tables e below (T_9.setTop (mkF m 45 #[.val (.int p1), .val (.int (2 : Int32)), .val (.ref b_1), .val (.int (1 : Int32)), .unset] [(.int (1 : Int32)), (.int (1 : Int32)), (.int (1 : Int32))])) _
    refine XS.icmpNo X_9.here hx rfl (hb hby at_45) rfl (teq ((by decide) : (1 : Int32) = (1 : Int32))).2 ?_
    show Steps p.tables e below (T_9.setTop (mkF m 48 #[.val (.int p1), .val (.int (2 : Int32)), .val (.ref b_1), .val (.int (1 : Int32)), .unset] [(.int (1 : Int32))])) _
    refine XS.iconst X_9.here hx rfl (hb hby at_48) ?_
    show Steps p.tables e below (T_9.setTop (mkF m 49 #[.val (.int p1), .val (.int (2 : Int32)), .val (.ref b_1), .val (.int (1 : Int32)), .unset] [(.int (1 : Int32)), (.int (1 : Int32))])) _
    refine XS.goto X_9.here hx rfl (pc0 := 49) (pc' := 53) rfl (hb hby at_49) (by decide) (by decide) ?_
    show Steps p.tables e below (T_9.setTop (mkF m 53 #[.val (.int p1), .val (.int (2 : Int32)), .val (.ref b_1), .val (.int (1 : Int32)), .unset] [(.int (1 : Int32)), (.int (1 : Int32))])) _
    refine XS.iand X_9.here hx rfl (hb hby at_53) rfl ?_
    show Steps p.tables e below (T_9.setTop (mkF m 54 #[.val (.int p1), .val (.int (2 : Int32)), .val (.ref b_1), .val (.int (1 : Int32)), .unset] [(.int ((1 : Int32) &&& (1 : Int32)))])) _
    rw [own_11]
    show Steps p.tables e below (T_9.setTop (mkF m 54 #[.val (.int p1), .val (.int (2 : Int32)), .val (.ref b_1), .val (.int (1 : Int32)), .unset] [(.int (1 : Int32))])) _
    refine XS.istoreN X_9.here hx rfl (hb hby at_54) rfl (l' := #[.val (.int p1), .val (.int (2 : Int32)), .val (.ref b_1), .val (.int (1 : Int32)), .unset]) rfl ?_
    show Steps p.tables e below (T_9.setTop (mkF m 55 #[.val (.int p1), .val (.int (2 : Int32)), .val (.ref b_1), .val (.int (1 : Int32)), .unset] [])) _
    refine XS.iloadN X_9.here hx rfl (hb hby at_55) rfl ?_
    show Steps p.tables e below (T_9.setTop (mkF m 56 #[.val (.int p1), .val (.int (2 : Int32)), .val (.ref b_1), .val (.int (1 : Int32)), .unset] [(.int (2 : Int32))])) _
    refine XS.iconst X_9.here hx rfl (hb hby at_56) ?_
    show Steps p.tables e below (T_9.setTop (mkF m 57 #[.val (.int p1), .val (.int (2 : Int32)), .val (.ref b_1), .val (.int (1 : Int32)), .unset] [(.int (3 : Int32)), (.int (2 : Int32))])) _
    refine XS.icmpYes X_9.here hx rfl (pc0 := 57) (pc' := 76) rfl (hb hby at_57) rfl (tlt ((by decide) : (2 : Int32) < (3 : Int32))).1 (by decide) (by decide) ?_
    show Steps p.tables e below (T_9.setTop (mkF m 76 #[.val (.int p1), .val (.int (2 : Int32)), .val (.ref b_1), .val (.int (1 : Int32)), .unset] [])) _
    refine st_12 _ ?_
    show Steps p.tables e below (T_12.setTop (mkF m 79 #[.val (.int p1), .val (.int (2 : Int32)), .val (.ref b_1), .val (.int (1 : Int32)), .unset] [(.ref b_12)])) _
    refine XS.dup X_12.here hx rfl (hb hby at_79) rfl rfl ?_
    show Steps p.tables e below (T_12.setTop (mkF m 80 #[.val (.int p1), .val (.int (2 : Int32)), .val (.ref b_1), .val (.int (1 : Int32)), .unset] [(.ref b_12), (.ref b_12)])) _
    refine st_15.trans ?_
    show Steps p.tables e below (T_15.setTop (mkF m 83 #[.val (.int p1), .val (.int (2 : Int32)), .val (.ref b_1), .val (.int (1 : Int32)), .unset] [(.ref b_12)])) _
    refine XS.astore X_15.here hx rfl (hb hby at_83) rfl rfl (l' := #[.val (.int p1), .val (.int (2 : Int32)), .val (.ref b_1), .val (.int (1 : Int32)), .val (.ref b_12)]) rfl ?_
    show Steps p.tables e below (T_15.setTop (mkF m 85 #[.val (.int p1), .val (.int (2 : Int32)), .val (.ref b_1), .val (.int (1 : Int32)), .val (.ref b_12)] [])) _
    refine XS.iloadN X_15.here hx rfl (hb hby at_85) rfl ?_
    show Steps p.tables e below (T_15.setTop (mkF m 86 #[.val (.int p1), .val (.int (2 : Int32)), .val (.ref b_1), .val (.int (1 : Int32)), .val (.ref b_12)] [(.int (1 : Int32))])) _
    refine XS.aload X_15.here hx rfl (hb hby at_86) rfl rfl ?_
    show Steps p.tables e below (T_15.setTop (mkF m 88 #[.val (.int p1), .val (.int (2 : Int32)), .val (.ref b_1), .val (.int (1 : Int32)), .val (.ref b_12)] [(.ref b_12), (.int (1 : Int32))])) _
    refine st_18.trans ?_
    show Steps p.tables e below (T_18.setTop (mkF m 91 #[.val (.int p1), .val (.int (2 : Int32)), .val (.ref b_1), .val (.int (1 : Int32)), .val (.ref b_12)] [(.int (0 : Int32)), (.int (1 : Int32))])) _
    refine XS.ifNo X_18.here hx rfl (hb hby at_91) rfl ((if0 _ _).trans (teq ((by decide) : (0 : Int32) = (0 : Int32))).2) ?_
    show Steps p.tables e below (T_18.setTop (mkF m 94 #[.val (.int p1), .val (.int (2 : Int32)), .val (.ref b_1), .val (.int (1 : Int32)), .val (.ref b_12)] [(.int (1 : Int32))])) _
    refine XS.iconst X_18.here hx rfl (hb hby at_94) ?_
    show Steps p.tables e below (T_18.setTop (mkF m 95 #[.val (.int p1), .val (.int (2 : Int32)), .val (.ref b_1), .val (.int (1 : Int32)), .val (.ref b_12)] [(.int (1 : Int32)), (.int (1 : Int32))])) _
    refine XS.goto X_18.here hx rfl (pc0 := 95) (pc' := 99) rfl (hb hby at_95) (by decide) (by decide) ?_
    show Steps p.tables e below (T_18.setTop (mkF m 99 #[.val (.int p1), .val (.int (2 : Int32)), .val (.ref b_1), .val (.int (1 : Int32)), .val (.ref b_12)] [(.int (1 : Int32)), (.int (1 : Int32))])) _
    refine XS.iand X_18.here hx rfl (hb hby at_99) rfl ?_
    show Steps p.tables e below (T_18.setTop (mkF m 100 #[.val (.int p1), .val (.int (2 : Int32)), .val (.ref b_1), .val (.int (1 : Int32)), .val (.ref b_12)] [(.int ((1 : Int32) &&& (1 : Int32)))])) _
    rw [own_11]
    show Steps p.tables e below (T_18.setTop (mkF m 100 #[.val (.int p1), .val (.int (2 : Int32)), .val (.ref b_1), .val (.int (1 : Int32)), .val (.ref b_12)] [(.int (1 : Int32))])) _
    refine XS.istoreN X_18.here hx rfl (hb hby at_100) rfl (l' := #[.val (.int p1), .val (.int (2 : Int32)), .val (.ref b_1), .val (.int (1 : Int32)), .val (.ref b_12)]) rfl ?_
    show Steps p.tables e below (T_18.setTop (mkF m 101 #[.val (.int p1), .val (.int (2 : Int32)), .val (.ref b_1), .val (.int (1 : Int32)), .val (.ref b_12)] [])) _
    refine XS.iloadN X_18.here hx rfl (hb hby at_101) rfl ?_
    show Steps p.tables e below (T_18.setTop (mkF m 102 #[.val (.int p1), .val (.int (2 : Int32)), .val (.ref b_1), .val (.int (1 : Int32)), .val (.ref b_12)] [(.int (1 : Int32))])) _
    refine XS.aloadN X_18.here hx rfl (hb hby at_102) rfl rfl ?_
    show Steps p.tables e below (T_18.setTop (mkF m 103 #[.val (.int p1), .val (.int (2 : Int32)), .val (.ref b_1), .val (.int (1 : Int32)), .val (.ref b_12)] [(.ref b_1), (.int (1 : Int32))])) _
    refine st_21.trans ?_
    show Steps p.tables e below (T_21.setTop (mkF m 106 #[.val (.int p1), .val (.int (2 : Int32)), .val (.ref b_1), .val (.int (1 : Int32)), .val (.ref b_12)] [(.int (2 : Int32)), (.int (1 : Int32))])) _
    refine XS.iloadN X_21.here hx rfl (hb hby at_106) rfl ?_
    show Steps p.tables e below (T_21.setTop (mkF m 107 #[.val (.int p1), .val (.int (2 : Int32)), .val (.ref b_1), .val (.int (1 : Int32)), .val (.ref b_12)] [(.int (2 : Int32)), (.int (2 : Int32)), (.int (1 : Int32))])) _
    refine XS.icmpNo X_21.here hx rfl (hb hby at_107) rfl (teq ((by decide) : (2 : Int32) = (2 : Int32))).2 ?_
    show Steps p.tables e below (T_21.setTop (mkF m 110 #[.val (.int p1), .val (.int (2 : Int32)), .val (.ref b_1), .val (.int (1 : Int32)), .val (.ref b_12)] [(.int (1 : Int32))])) _
    refine XS.iconst X_21.here hx rfl (hb hby at_110) ?_
    show Steps p.tables e below (T_21.setTop (mkF m 111 #[.val (.int p1), .val (.int (2 : Int32)), .val (.ref b_1), .val (.int (1 : Int32)), .val (.ref b_12)] [(.int (1 : Int32)), (.int (1 : Int32))])) _
    refine XS.goto X_21.here hx rfl (pc0 := 111) (pc' := 115) rfl (hb hby at_111) (by decide) (by decide) ?_
    show Steps p.tables e below (T_21.setTop (mkF m 115 #[.val (.int p1), .val (.int (2 : Int32)), .val (.ref b_1), .val (.int (1 : Int32)), .val (.ref b_12)] [(.int (1 : Int32)), (.int (1 : Int32))])) _
    refine XS.iand X_21.here hx rfl (hb hby at_115) rfl ?_
    show Steps p.tables e below (T_21.setTop (mkF m 116 #[.val (.int p1), .val (.int (2 : Int32)), .val (.ref b_1), .val (.int (1 : Int32)), .val (.ref b_12)] [(.int ((1 : Int32) &&& (1 : Int32)))])) _
    rw [own_11]
    show Steps p.tables e below (T_21.setTop (mkF m 116 #[.val (.int p1), .val (.int (2 : Int32)), .val (.ref b_1), .val (.int (1 : Int32)), .val (.ref b_12)] [(.int (1 : Int32))])) _
    refine XS.istoreN X_21.here hx rfl (hb hby at_116) rfl (l' := #[.val (.int p1), .val (.int (2 : Int32)), .val (.ref b_1), .val (.int (1 : Int32)), .val (.ref b_12)]) rfl ?_
    show Steps p.tables e below (T_21.setTop (mkF m 117 #[.val (.int p1), .val (.int (2 : Int32)), .val (.ref b_1), .val (.int (1 : Int32)), .val (.ref b_12)] [])) _
    refine XS.iloadN X_21.here hx rfl (hb hby at_117) rfl ?_
    show Steps p.tables e below (T_21.setTop (mkF m 118 #[.val (.int p1), .val (.int (2 : Int32)), .val (.ref b_1), .val (.int (1 : Int32)), .val (.ref b_12)] [(.int (1 : Int32))])) _
    refine XS.aload X_21.here hx rfl (hb hby at_118) rfl rfl ?_
    show Steps p.tables e below (T_21.setTop (mkF m 120 #[.val (.int p1), .val (.int (2 : Int32)), .val (.ref b_1), .val (.int (1 : Int32)), .val (.ref b_12)] [(.ref b_12), (.int (1 : Int32))])) _
    refine st_25.trans ?_
    show Steps p.tables e below (T_25.setTop (mkF m 123 #[.val (.int p1), .val (.int (2 : Int32)), .val (.ref b_1), .val (.int (1 : Int32)), .val (.ref b_12)] [(.int (1 : Int32)), (.int (1 : Int32))])) _
    refine XS.iconst X_25.here hx rfl (hb hby at_123) ?_
    show Steps p.tables e below (T_25.setTop (mkF m 124 #[.val (.int p1), .val (.int (2 : Int32)), .val (.ref b_1), .val (.int (1 : Int32)), .val (.ref b_12)] [(.int (1 : Int32)), (.int (1 : Int32)), (.int (1 : Int32))])) _
    refine XS.icmpNo X_25.here hx rfl (hb hby at_124) rfl (teq ((by decide) : (1 : Int32) = (1 : Int32))).2 ?_
    show Steps p.tables e below (T_25.setTop (mkF m 127 #[.val (.int p1), .val (.int (2 : Int32)), .val (.ref b_1), .val (.int (1 : Int32)), .val (.ref b_12)] [(.int (1 : Int32))])) _
    refine XS.iconst X_25.here hx rfl (hb hby at_127) ?_
    show Steps p.tables e below (T_25.setTop (mkF m 128 #[.val (.int p1), .val (.int (2 : Int32)), .val (.ref b_1), .val (.int (1 : Int32)), .val (.ref b_12)] [(.int (1 : Int32)), (.int (1 : Int32))])) _
    refine XS.goto X_25.here hx rfl (pc0 := 128) (pc' := 132) rfl (hb hby at_128) (by decide) (by decide) ?_
    show Steps p.tables e below (T_25.setTop (mkF m 132 #[.val (.int p1), .val (.int (2 : Int32)), .val (.ref b_1), .val (.int (1 : Int32)), .val (.ref b_12)] [(.int (1 : Int32)), (.int (1 : Int32))])) _
    refine XS.iand X_25.here hx rfl (hb hby at_132) rfl ?_
    show Steps p.tables e below (T_25.setTop (mkF m 133 #[.val (.int p1), .val (.int (2 : Int32)), .val (.ref b_1), .val (.int (1 : Int32)), .val (.ref b_12)] [(.int ((1 : Int32) &&& (1 : Int32)))])) _
    rw [own_11]
    show Steps p.tables e below (T_25.setTop (mkF m 133 #[.val (.int p1), .val (.int (2 : Int32)), .val (.ref b_1), .val (.int (1 : Int32)), .val (.ref b_12)] [(.int (1 : Int32))])) _
    refine XS.istoreN X_25.here hx rfl (hb hby at_133) rfl (l' := #[.val (.int p1), .val (.int (2 : Int32)), .val (.ref b_1), .val (.int (1 : Int32)), .val (.ref b_12)]) rfl ?_
    show Steps p.tables e below (T_25.setTop (mkF m 134 #[.val (.int p1), .val (.int (2 : Int32)), .val (.ref b_1), .val (.int (1 : Int32)), .val (.ref b_12)] [])) _
    refine XS.iloadN X_25.here hx rfl (hb hby at_134) rfl ?_
    show Steps p.tables e below (T_25.setTop (mkF m 135 #[.val (.int p1), .val (.int (2 : Int32)), .val (.ref b_1), .val (.int (1 : Int32)), .val (.ref b_12)] [(.int (1 : Int32))])) _
    refine XS.aloadN X_25.here hx rfl (hb hby at_135) rfl rfl ?_
    show Steps p.tables e below (T_25.setTop (mkF m 136 #[.val (.int p1), .val (.int (2 : Int32)), .val (.ref b_1), .val (.int (1 : Int32)), .val (.ref b_12)] [(.ref b_1), (.int (1 : Int32))])) _
    refine st_29.trans ?_
    show Steps p.tables e below (T_29.setTop (mkF m 139 #[.val (.int p1), .val (.int (2 : Int32)), .val (.ref b_1), .val (.int (1 : Int32)), .val (.ref b_12)] [(.int (3 : Int32)), (.int (1 : Int32))])) _
    refine XS.iloadN X_29.here hx rfl (hb hby at_139) rfl ?_
    show Steps p.tables e below (T_29.setTop (mkF m 140 #[.val (.int p1), .val (.int (2 : Int32)), .val (.ref b_1), .val (.int (1 : Int32)), .val (.ref b_12)] [(.int (2 : Int32)), (.int (3 : Int32)), (.int (1 : Int32))])) _
    refine XS.iconst X_29.here hx rfl (hb hby at_140) ?_
    show Steps p.tables e below (T_29.setTop (mkF m 141 #[.val (.int p1), .val (.int (2 : Int32)), .val (.ref b_1), .val (.int (1 : Int32)), .val (.ref b_12)] [(.int (1 : Int32)), (.int (2 : Int32)), (.int (3 : Int32)), (.int (1 : Int32))])) _
    refine XS.iadd X_29.here hx rfl (hb hby at_141) rfl ?_
    show Steps p.tables e below (T_29.setTop (mkF m 142 #[.val (.int p1), .val (.int (2 : Int32)), .val (.ref b_1), .val (.int (1 : Int32)), .val (.ref b_12)] [(.int ((2 : Int32) + (1 : Int32))), (.int (3 : Int32)), (.int (1 : Int32))])) _
    refine XS.icmpNo X_29.here hx rfl (hb hby at_142) rfl (teq ((by decide) : (3 : Int32) = ((2 : Int32) + (1 : Int32)))).2 ?_
    show Steps p.tables e below (T_29.setTop (mkF m 145 #[.val (.int p1), .val (.int (2 : Int32)), .val (.ref b_1), .val (.int (1 : Int32)), .val (.ref b_12)] [(.int (1 : Int32))])) _
    refine XS.iconst X_29.here hx rfl (hb hby at_145) ?_
    show Steps p.tables e below (T_29.setTop (mkF m 146 #[.val (.int p1), .val (.int (2 : Int32)), .val (.ref b_1), .val (.int (1 : Int32)), .val (.ref b_12)] [(.int (1 : Int32)), (.int (1 : Int32))])) _
    refine XS.goto X_29.here hx rfl (pc0 := 146) (pc' := 150) rfl (hb hby at_146) (by decide) (by decide) ?_
    show Steps p.tables e below (T_29.setTop (mkF m 150 #[.val (.int p1), .val (.int (2 : Int32)), .val (.ref b_1), .val (.int (1 : Int32)), .val (.ref b_12)] [(.int (1 : Int32)), (.int (1 : Int32))])) _
    refine XS.iand X_29.here hx rfl (hb hby at_150) rfl ?_
    show Steps p.tables e below (T_29.setTop (mkF m 151 #[.val (.int p1), .val (.int (2 : Int32)), .val (.ref b_1), .val (.int (1 : Int32)), .val (.ref b_12)] [(.int ((1 : Int32) &&& (1 : Int32)))])) _
    rw [own_11]
    show Steps p.tables e below (T_29.setTop (mkF m 151 #[.val (.int p1), .val (.int (2 : Int32)), .val (.ref b_1), .val (.int (1 : Int32)), .val (.ref b_12)] [(.int (1 : Int32))])) _
    refine XS.istoreN X_29.here hx rfl (hb hby at_151) rfl (l' := #[.val (.int p1), .val (.int (2 : Int32)), .val (.ref b_1), .val (.int (1 : Int32)), .val (.ref b_12)]) rfl ?_
    show Steps p.tables e below (T_29.setTop (mkF m 152 #[.val (.int p1), .val (.int (2 : Int32)), .val (.ref b_1), .val (.int (1 : Int32)), .val (.ref b_12)] [])) _
    refine XS.iloadN X_29.here hx rfl (hb hby at_152) rfl ?_
    show Steps p.tables e below (T_29.setTop (mkF m 153 #[.val (.int p1), .val (.int (2 : Int32)), .val (.ref b_1), .val (.int (1 : Int32)), .val (.ref b_12)] [(.int (1 : Int32))])) _
    exact retN X_29 hx (t := .boolean) Bd.returns (by simp) (hb hby at_153) hr
  · show Q0 Z  h0 n0 _ T_29.heap _
    exact ⟨rfl, N_29⟩
set_option maxRecDepth 65536 in
set_option maxHeartbeats 40000000 in
theorem rm0_3 (l : Launch) (Z : State) (a0 : Array Value) (hw : ∀ d ∈ tables_1, d.before a0 Z = true) (ws : List Jvm.Cond) (p1 : Int32) (sd : Addr) (h0 : Heap) (n0 : Nat) (Z0 : n0 ≤ h0.size) (O_ : Old Z n0 h0) (S_ : Sta Z Z.heap "java/util/ArrayList" "DEFAULTCAPACITY_EMPTY_ELEMENTDATA" "[Ljava/lang/Object;" (.ref sd)) (hk_ : (p1 &&& (3 : Int32)) = (3 : Int32)) :
    MetFree l x (head1 (Jvm.Cond.code x code maxLocals ret :: ws) room_1) (fun as_ U => as_ = #[(.int p1)] ∧ Z.Warmed39 U.vm ∧ U.heap = h0) (fun _ _ _ _ _ => True) (fun _ U o U' => ∃ v L, o = .returned v ∧ Q0 Z  h0 n0 v U'.heap L ∧ FrameEnd U o U' L 6 18) := by
  refine MetFree.of_bodySF (plainFor_of_name pn_0) hisR ?_
  intro p e s m args below meth c s₁ Bd hml0 hP hK
  obtain ⟨rfl, hZ, hh⟩ := hP
  have hx := Bd.exec
  have hby := Bd.bytes
  have hml : c.maxLocals = 5 := hml0
  have hown : s.vm.findClass "com/example/arrivals_to_bounds/arrivalstobounds/LinearProgramVariablePinLaw" = some m.cls := findClass_of_methodNamed Bd.named
  have hnm := (name_of_methodNamed Bd.named Bd.method).1
  have X0 : Stand p l e room_1 s m #[(.int p1)] below meth c s₁ [] 0 0 := Stand.of_body Bd
  have e0 : s₁.heap = h0 := by rw [← hh, Bd.state]; rfl
  have N0 := Fr.nil n0
  have pre0 : ∀ t, Steps p.tables e below (s₁.setTop (mkF m 0 #[.val (.int p1), .unset, .unset, .unset, .unset] [])) t → Steps p.tables e below (s₁.setTop (entryFrame m #[(.int p1)] maxLocals)) t := fun t k => castTop (ef_0 m p1) k
  obtain ⟨T_1, h_1, X_1, e_1, E_1, A_1, D_1, -, st_1⟩ := newO X0 hx hZ hown (hw _ (List.mem_of_getElem? (i := 0) rfl)) (hw _ (List.mem_of_getElem? (i := 1) rfl)) (hw _ (List.mem_of_getElem? (i := 2) rfl)) e0 (g := (mkF m 4 #[.val (.int p1), .val (.int (3 : Int32)), .unset, .unset, .unset] [])) rfl (hb hby at_4) (by decide) (by decide)
  obtain ⟨b_1, g_1⟩ : ∃ z, z = h0.size := ⟨_, rfl⟩
  rw [← g_1] at A_1 D_1 st_1
  have g_b_1 : n0 ≤ b_1 := Nat.le_trans Z0 (Nat.le_of_eq g_1.symm)
  have sz_b_1 : h0.size ≤ b_1 := Nat.le_trans (Keep.refl h0 []).1 (Nat.le_of_eq g_1.symm)
  have K_1 : Keep h0 h_1 [] := (Keep.refl h0 []).ext E_1
  have Z_2 : n0 ≤ h_1.size := Nat.le_trans Z0 E_1.1
  have F_rows_b_1 : Fld Z h_1 b_1 "com/example/arrivals_to_bounds/arrivalstobounds/LinearProgram" "rows" "Ljava/util/List;" .null := D_1 (Or.inr (hw _ (List.mem_of_getElem? (i := 34) rfl))) (ty := (.object "java/util/List")) (by decide)
  have F_bounds_b_1 : Fld Z h_1 b_1 "com/example/arrivals_to_bounds/arrivalstobounds/LinearProgram" "bounds" "Ljava/util/List;" .null := D_1 (Or.inr (hw _ (List.mem_of_getElem? (i := 36) rfl))) (ty := (.object "java/util/List")) (by decide)
  have F_variables_b_1 : Fld Z h_1 b_1 "com/example/arrivals_to_bounds/arrivalstobounds/LinearProgram" "variables" "I" (.int (0 : Int32)) := D_1 (Or.inl (hw _ (List.mem_of_getElem? (i := 43) rfl))) (ty := .int) (by decide)
  have f_4_O_old := (O_.ext E_1)
  obtain ⟨_, _, ⟨T_3, L_3, k_3, n_3⟩, -, X_3, ⟨Lc_3, hQ_3, l_3, y_3, z_3⟩, st_3⟩ := X_1.specialBack hx (y := (⟨"com/example/arrivals_to_bounds/arrivalstobounds/LinearProgram", "<init>", "()V"⟩ : MethodName)) rfl hown (mvT hZ (hw _ (List.mem_of_getElem? (i := 3) rfl))) (mvT hZ (hw _ (List.mem_of_getElem? (i := 4) rfl))) (mvT hZ (hw _ (List.mem_of_getElem? (i := 5) rfl))) (by decide) (backOf (W := 1) (rm1 l Z a0 hw [] b_1 sd h_1 n0 Z_2 A_1 F_rows_b_1 F_bounds_b_1 F_variables_b_1 g_b_1 f_4_O_old S_) hZ (hw _ (List.mem_of_getElem? (i := 5) rfl)) (hw _ (List.mem_of_getElem? (i := 2) rfl)) (by decide) (by decide)) (g := (mkF m 8 #[.val (.int p1), .val (.int (3 : Int32)), .unset, .unset, .unset] [(.ref b_1), (.ref b_1)])) rfl (by rw [hml]; rfl) (Steps.refl _) (a := b_1) (argsL := []) (rest := [(.ref b_1)]) (lenOf pd_0 rfl) rfl (by show 2 * 0 + _ ≤ _; exact Nat.le_of_eq rfl) (hb hby at_8) (fun _ _ => ⟨rfl, e_1, (by decide : 1 + 2 ≤ _), (by decide : 3 + 6 ≤ _)⟩)
  dsimp only [Pt.U, Pt.locs, Pt.cells, Pt.slots] at X_3 l_3 y_3 z_3 st_3 hQ_3
  subst l_3 y_3 z_3
  obtain ⟨rfl, Nq_3, Kq_3, Fv_3⟩ := hQ_3
  have N_3 := Fr.app N0 Nq_3
  have KK_3 : Keep h0 T_3.heap [] := K_1.trans Kq_3 (allS (Or.inr sz_b_1) all0)
  have Z_5 : n0 ≤ T_3.heap.size := Nat.le_trans Z_2 Kq_3.1
  have f_7_E_b_1 := (A_1.keep Kq_3)
  obtain ⟨cq_6, kq_6, q_6a, q_6b, q_6c⟩ := isOf hZ rfl f_7_E_b_1
  obtain ⟨_, _, ⟨T_6, L_6, k_6, n_6⟩, -, X_6, ⟨Lc_6, hQ_6, l_6, y_6, z_6⟩, st_6⟩ := X_3.virtualBack hx (y := (⟨"com/example/arrivals_to_bounds/arrivalstobounds/LinearProgram", "variable", "()I"⟩ : MethodName)) (z := (⟨"com/example/arrivals_to_bounds/arrivalstobounds/LinearProgram", "variable", "()I"⟩ : MethodName)) hown (mvT hZ (hw _ (List.mem_of_getElem? (i := 37) rfl))) (mvT hZ (hw _ (List.mem_of_getElem? (i := 38) rfl))) (notFace_of_selects (args := #[]) (mvT hZ (hw _ (List.mem_of_getElem? (i := 40) rfl)))) (mvT hZ (hw _ (List.mem_of_getElem? (i := 40) rfl))) (mvT hZ (hw _ (List.mem_of_getElem? (i := 39) rfl))) (by decide) (backOf (W := 1) (rm6 l Z a0 hw [] b_1 (0 : Int32) (1 : Int32) T_3.heap n0 Z_5 f_7_E_b_1 Fv_3 g_b_1 (by decide)) hZ (hw _ (List.mem_of_getElem? (i := 41) rfl)) (hw _ (List.mem_of_getElem? (i := 2) rfl)) (by decide) (by decide)) q_6a q_6c (g := (mkF m 21 #[.val (.int p1), .val (.int (3 : Int32)), .val (.ref b_1), .val (.int (1 : Int32)), .unset] [(.ref b_1), (.int (1 : Int32))])) rfl (by rw [hml]; rfl) (Steps.refl _) (argsL := []) (rest := [(.int (1 : Int32))]) (lenOf pd_1 rfl) rfl (by show 2 * 0 + _ ≤ _; exact Nat.le_of_eq rfl) (hb hby at_21) (fun _ _ => ⟨rfl, rfl, (by decide : 3 + 0 ≤ _), (by decide : 9 + 0 ≤ _)⟩)
  dsimp only [Pt.U, Pt.locs, Pt.cells, Pt.slots] at X_6 l_6 y_6 z_6 st_6 hQ_6
  subst l_6 y_6 z_6
  obtain ⟨rfl, Nq_6, Kq_6, Fv_6⟩ := hQ_6
  have N_6 := Fr.app N_3 Nq_6
  have KK_6 : Keep h0 T_6.heap [] := KK_3.trans Kq_6 (allS (Or.inr sz_b_1) all0)
  have Z_8 : n0 ≤ T_6.heap.size := Nat.le_trans Z_5 Kq_6.1
  have f_10_E_b_1 := (f_7_E_b_1.keep Kq_6)
  obtain ⟨cq_9, kq_9, q_9a, q_9b, q_9c⟩ := isOf hZ rfl f_10_E_b_1
  obtain ⟨_, _, ⟨T_9, L_9, k_9, n_9⟩, -, X_9, ⟨Lc_9, hQ_9, l_9, y_9, z_9⟩, st_9⟩ := X_6.virtualBack hx (y := (⟨"com/example/arrivals_to_bounds/arrivalstobounds/LinearProgram", "variable", "()I"⟩ : MethodName)) (z := (⟨"com/example/arrivals_to_bounds/arrivalstobounds/LinearProgram", "variable", "()I"⟩ : MethodName)) hown (mvT hZ (hw _ (List.mem_of_getElem? (i := 37) rfl))) (mvT hZ (hw _ (List.mem_of_getElem? (i := 38) rfl))) (notFace_of_selects (args := #[]) (mvT hZ (hw _ (List.mem_of_getElem? (i := 40) rfl)))) (mvT hZ (hw _ (List.mem_of_getElem? (i := 40) rfl))) (mvT hZ (hw _ (List.mem_of_getElem? (i := 39) rfl))) (by decide) (backOf (W := 1) (rm6 l Z a0 hw [] b_1 (1 : Int32) (2 : Int32) T_6.heap n0 Z_8 f_10_E_b_1 Fv_6 g_b_1 (by decide)) hZ (hw _ (List.mem_of_getElem? (i := 41) rfl)) (hw _ (List.mem_of_getElem? (i := 2) rfl)) (by decide) (by decide)) q_9a q_9c (g := (mkF m 41 #[.val (.int p1), .val (.int (3 : Int32)), .val (.ref b_1), .val (.int (1 : Int32)), .unset] [(.ref b_1), (.int (1 : Int32))])) rfl (by rw [hml]; rfl) (Steps.refl _) (argsL := []) (rest := [(.int (1 : Int32))]) (lenOf pd_1 rfl) rfl (by show 2 * 0 + _ ≤ _; exact Nat.le_of_eq rfl) (hb hby at_41) (fun _ _ => ⟨rfl, rfl, (by decide : 3 + 0 ≤ _), (by decide : 9 + 0 ≤ _)⟩)
  dsimp only [Pt.U, Pt.locs, Pt.cells, Pt.slots] at X_9 l_9 y_9 z_9 st_9 hQ_9
  subst l_9 y_9 z_9
  obtain ⟨rfl, Nq_9, Kq_9, Fv_9⟩ := hQ_9
  have N_9 := Fr.app N_6 Nq_9
  have KK_9 : Keep h0 T_9.heap [] := KK_6.trans Kq_9 (allS (Or.inr sz_b_1) all0)
  have Z_11 : n0 ≤ T_9.heap.size := Nat.le_trans Z_8 Kq_9.1
  have f_13_E_b_1 := (f_10_E_b_1.keep Kq_9)
  obtain ⟨cq_12, kq_12, q_12a, q_12b, q_12c⟩ := isOf hZ rfl f_13_E_b_1
  obtain ⟨_, _, ⟨T_12, L_12, k_12, n_12⟩, -, X_12, ⟨Lc_12, hQ_12, l_12, y_12, z_12⟩, st_12⟩ := X_9.virtualBack hx (y := (⟨"com/example/arrivals_to_bounds/arrivalstobounds/LinearProgram", "variable", "()I"⟩ : MethodName)) (z := (⟨"com/example/arrivals_to_bounds/arrivalstobounds/LinearProgram", "variable", "()I"⟩ : MethodName)) hown (mvT hZ (hw _ (List.mem_of_getElem? (i := 37) rfl))) (mvT hZ (hw _ (List.mem_of_getElem? (i := 38) rfl))) (notFace_of_selects (args := #[]) (mvT hZ (hw _ (List.mem_of_getElem? (i := 40) rfl)))) (mvT hZ (hw _ (List.mem_of_getElem? (i := 40) rfl))) (mvT hZ (hw _ (List.mem_of_getElem? (i := 39) rfl))) (by decide) (backOf (W := 1) (rm6 l Z a0 hw [] b_1 (2 : Int32) (3 : Int32) T_9.heap n0 Z_11 f_13_E_b_1 Fv_9 g_b_1 (by decide)) hZ (hw _ (List.mem_of_getElem? (i := 41) rfl)) (hw _ (List.mem_of_getElem? (i := 2) rfl)) (by decide) (by decide)) q_12a q_12c (g := (mkF m 62 #[.val (.int p1), .val (.int (3 : Int32)), .val (.ref b_1), .val (.int (1 : Int32)), .unset] [(.ref b_1), (.int (1 : Int32))])) rfl (by rw [hml]; rfl) (Steps.refl _) (argsL := []) (rest := [(.int (1 : Int32))]) (lenOf pd_1 rfl) rfl (by show 2 * 0 + _ ≤ _; exact Nat.le_of_eq rfl) (hb hby at_62) (fun _ _ => ⟨rfl, rfl, (by decide : 3 + 0 ≤ _), (by decide : 9 + 0 ≤ _)⟩)
  dsimp only [Pt.U, Pt.locs, Pt.cells, Pt.slots] at X_12 l_12 y_12 z_12 st_12 hQ_12
  subst l_12 y_12 z_12
  obtain ⟨rfl, Nq_12, Kq_12, Fv_12⟩ := hQ_12
  have N_12 := Fr.app N_9 Nq_12
  have KK_12 : Keep h0 T_12.heap [] := KK_9.trans Kq_12 (allS (Or.inr sz_b_1) all0)
  have Z_14 : n0 ≤ T_12.heap.size := Nat.le_trans Z_11 Kq_12.1
  obtain ⟨T_15, h_15, X_15, e_15, E_15, A_15, D_15, -, st_15⟩ := newO X_12 hx hZ hown (hw _ (List.mem_of_getElem? (i := 0) rfl)) (hw _ (List.mem_of_getElem? (i := 1) rfl)) (hw _ (List.mem_of_getElem? (i := 2) rfl)) rfl (g := (mkF m 76 #[.val (.int p1), .val (.int (3 : Int32)), .val (.ref b_1), .val (.int (1 : Int32)), .unset] [])) rfl (hb hby at_76) (by decide) (by decide)
  obtain ⟨b_15, g_15⟩ : ∃ z, z = T_12.heap.size := ⟨_, rfl⟩
  rw [← g_15] at A_15 D_15 st_15
  have f_16_E_b_1 := (f_13_E_b_1.keep Kq_12)
  have ne_b_1_b_15 : b_1 ≠ b_15 := Nat.ne_of_lt (Nat.lt_of_lt_of_le f_16_E_b_1.lt (Nat.le_of_eq g_15.symm))
  have g_b_15 : n0 ≤ b_15 := Nat.le_trans Z_14 (Nat.le_of_eq g_15.symm)
  have sz_b_15 : h0.size ≤ b_15 := Nat.le_trans KK_12.1 (Nat.le_of_eq g_15.symm)
  have K_15 : Keep h0 h_15 [] := KK_12.ext E_15
  have Z_17 : n0 ≤ h_15.size := Nat.le_trans Z_14 E_15.1
  have F_rows_b_15 : Fld Z h_15 b_15 "com/example/arrivals_to_bounds/arrivalstobounds/LinearProgram" "rows" "Ljava/util/List;" .null := D_15 (Or.inr (hw _ (List.mem_of_getElem? (i := 34) rfl))) (ty := (.object "java/util/List")) (by decide)
  have F_bounds_b_15 : Fld Z h_15 b_15 "com/example/arrivals_to_bounds/arrivalstobounds/LinearProgram" "bounds" "Ljava/util/List;" .null := D_15 (Or.inr (hw _ (List.mem_of_getElem? (i := 36) rfl))) (ty := (.object "java/util/List")) (by decide)
  have F_variables_b_15 : Fld Z h_15 b_15 "com/example/arrivals_to_bounds/arrivalstobounds/LinearProgram" "variables" "I" (.int (0 : Int32)) := D_15 (Or.inl (hw _ (List.mem_of_getElem? (i := 43) rfl))) (ty := .int) (by decide)
  have f_19_O_old := (((((f_4_O_old.keep Kq_3 (allS g_b_1 all0)).keep Kq_6 (allS g_b_1 all0)).keep Kq_9 (allS g_b_1 all0)).keep Kq_12 (allS g_b_1 all0)).ext E_15)
  obtain ⟨_, _, ⟨T_18, L_18, k_18, n_18⟩, -, X_18, ⟨Lc_18, hQ_18, l_18, y_18, z_18⟩, st_18⟩ := X_15.specialBack hx (y := (⟨"com/example/arrivals_to_bounds/arrivalstobounds/LinearProgram", "<init>", "()V"⟩ : MethodName)) rfl hown (mvT hZ (hw _ (List.mem_of_getElem? (i := 3) rfl))) (mvT hZ (hw _ (List.mem_of_getElem? (i := 4) rfl))) (mvT hZ (hw _ (List.mem_of_getElem? (i := 5) rfl))) (by decide) (backOf (W := 1) (rm1 l Z a0 hw [] b_15 sd h_15 n0 Z_17 A_15 F_rows_b_15 F_bounds_b_15 F_variables_b_15 g_b_15 f_19_O_old S_) hZ (hw _ (List.mem_of_getElem? (i := 5) rfl)) (hw _ (List.mem_of_getElem? (i := 2) rfl)) (by decide) (by decide)) (g := (mkF m 80 #[.val (.int p1), .val (.int (3 : Int32)), .val (.ref b_1), .val (.int (1 : Int32)), .unset] [(.ref b_15), (.ref b_15)])) rfl (by rw [hml]; rfl) (Steps.refl _) (a := b_15) (argsL := []) (rest := [(.ref b_15)]) (lenOf pd_0 rfl) rfl (by show 2 * 0 + _ ≤ _; exact Nat.le_of_eq rfl) (hb hby at_80) (fun _ _ => ⟨rfl, e_15, (by decide : 4 + 2 ≤ _), (by decide : 12 + 6 ≤ _)⟩)
  dsimp only [Pt.U, Pt.locs, Pt.cells, Pt.slots] at X_18 l_18 y_18 z_18 st_18 hQ_18
  subst l_18 y_18 z_18
  obtain ⟨rfl, Nq_18, Kq_18, Fv_18⟩ := hQ_18
  have N_18 := Fr.app N_12 Nq_18
  have KK_18 : Keep h0 T_18.heap [] := K_15.trans Kq_18 (allS (Or.inr sz_b_15) all0)
  have Z_20 : n0 ≤ T_18.heap.size := Nat.le_trans Z_17 Kq_18.1
  have f_22_E_b_15 := (A_15.keep Kq_18)
  obtain ⟨cq_21, kq_21, q_21a, q_21b, q_21c⟩ := isOf hZ rfl f_22_E_b_15
  obtain ⟨_, _, ⟨T_21, L_21, k_21, n_21⟩, -, X_21, ⟨Lc_21, hQ_21, l_21, y_21, z_21⟩, st_21⟩ := X_18.virtualBack hx (y := (⟨"com/example/arrivals_to_bounds/arrivalstobounds/LinearProgram", "variable", "()I"⟩ : MethodName)) (z := (⟨"com/example/arrivals_to_bounds/arrivalstobounds/LinearProgram", "variable", "()I"⟩ : MethodName)) hown (mvT hZ (hw _ (List.mem_of_getElem? (i := 37) rfl))) (mvT hZ (hw _ (List.mem_of_getElem? (i := 38) rfl))) (notFace_of_selects (args := #[]) (mvT hZ (hw _ (List.mem_of_getElem? (i := 40) rfl)))) (mvT hZ (hw _ (List.mem_of_getElem? (i := 40) rfl))) (mvT hZ (hw _ (List.mem_of_getElem? (i := 39) rfl))) (by decide) (backOf (W := 1) (rm6 l Z a0 hw [] b_15 (0 : Int32) (1 : Int32) T_18.heap n0 Z_20 f_22_E_b_15 Fv_18 g_b_15 (by decide)) hZ (hw _ (List.mem_of_getElem? (i := 41) rfl)) (hw _ (List.mem_of_getElem? (i := 2) rfl)) (by decide) (by decide)) q_21a q_21c (g := (mkF m 88 #[.val (.int p1), .val (.int (3 : Int32)), .val (.ref b_1), .val (.int (1 : Int32)), .val (.ref b_15)] [(.ref b_15), (.int (1 : Int32))])) rfl (by rw [hml]; rfl) (Steps.refl _) (argsL := []) (rest := [(.int (1 : Int32))]) (lenOf pd_1 rfl) rfl (by show 2 * 0 + _ ≤ _; exact Nat.le_of_eq rfl) (hb hby at_88) (fun _ _ => ⟨rfl, rfl, (by decide : 6 + 0 ≤ _), (by decide : 18 + 0 ≤ _)⟩)
  dsimp only [Pt.U, Pt.locs, Pt.cells, Pt.slots] at X_21 l_21 y_21 z_21 st_21 hQ_21
  subst l_21 y_21 z_21
  obtain ⟨rfl, Nq_21, Kq_21, Fv_21⟩ := hQ_21
  have N_21 := Fr.app N_18 Nq_21
  have KK_21 : Keep h0 T_21.heap [] := KK_18.trans Kq_21 (allS (Or.inr sz_b_15) all0)
  have Z_23 : n0 ≤ T_21.heap.size := Nat.le_trans Z_20 Kq_21.1
  have f_25_E_b_1 := (((f_16_E_b_1.ext E_15).keep Kq_18).keep Kq_21)
  have f_26_F_b_1_variables := (((Fv_12.ext E_15).keep Kq_18 (ninS ne_b_1_b_15 nin0)).keep Kq_21 (ninS ne_b_1_b_15 nin0))
  obtain ⟨cq_24, kq_24, q_24a, q_24b, q_24c⟩ := isOf hZ rfl f_25_E_b_1
  obtain ⟨_, _, ⟨T_24, L_24, k_24, n_24⟩, -, X_24, ⟨Lc_24, hQ_24, l_24, y_24, z_24⟩, st_24⟩ := X_21.virtualBack hx (y := (⟨"com/example/arrivals_to_bounds/arrivalstobounds/LinearProgram", "variable", "()I"⟩ : MethodName)) (z := (⟨"com/example/arrivals_to_bounds/arrivalstobounds/LinearProgram", "variable", "()I"⟩ : MethodName)) hown (mvT hZ (hw _ (List.mem_of_getElem? (i := 37) rfl))) (mvT hZ (hw _ (List.mem_of_getElem? (i := 38) rfl))) (notFace_of_selects (args := #[]) (mvT hZ (hw _ (List.mem_of_getElem? (i := 40) rfl)))) (mvT hZ (hw _ (List.mem_of_getElem? (i := 40) rfl))) (mvT hZ (hw _ (List.mem_of_getElem? (i := 39) rfl))) (by decide) (backOf (W := 1) (rm6 l Z a0 hw [] b_1 (3 : Int32) (4 : Int32) T_21.heap n0 Z_23 f_25_E_b_1 f_26_F_b_1_variables g_b_1 (by decide)) hZ (hw _ (List.mem_of_getElem? (i := 41) rfl)) (hw _ (List.mem_of_getElem? (i := 2) rfl)) (by decide) (by decide)) q_24a q_24c (g := (mkF m 103 #[.val (.int p1), .val (.int (3 : Int32)), .val (.ref b_1), .val (.int (1 : Int32)), .val (.ref b_15)] [(.ref b_1), (.int (1 : Int32))])) rfl (by rw [hml]; rfl) (Steps.refl _) (argsL := []) (rest := [(.int (1 : Int32))]) (lenOf pd_1 rfl) rfl (by show 2 * 0 + _ ≤ _; exact Nat.le_of_eq rfl) (hb hby at_103) (fun _ _ => ⟨rfl, rfl, (by decide : 6 + 0 ≤ _), (by decide : 18 + 0 ≤ _)⟩)
  dsimp only [Pt.U, Pt.locs, Pt.cells, Pt.slots] at X_24 l_24 y_24 z_24 st_24 hQ_24
  subst l_24 y_24 z_24
  obtain ⟨rfl, Nq_24, Kq_24, Fv_24⟩ := hQ_24
  have N_24 := Fr.app N_21 Nq_24
  have KK_24 : Keep h0 T_24.heap [] := KK_21.trans Kq_24 (allS (Or.inr sz_b_1) all0)
  have Z_27 : n0 ≤ T_24.heap.size := Nat.le_trans Z_23 Kq_24.1
  have f_29_E_b_15 := ((f_22_E_b_15.keep Kq_21).keep Kq_24)
  have f_30_F_b_15_variables := (Fv_21.keep Kq_24 (ninS (Ne.symm ne_b_1_b_15) nin0))
  obtain ⟨cq_28, kq_28, q_28a, q_28b, q_28c⟩ := isOf hZ rfl f_29_E_b_15
  obtain ⟨_, _, ⟨T_28, L_28, k_28, n_28⟩, -, X_28, ⟨Lc_28, hQ_28, l_28, y_28, z_28⟩, st_28⟩ := X_24.virtualBack hx (y := (⟨"com/example/arrivals_to_bounds/arrivalstobounds/LinearProgram", "variable", "()I"⟩ : MethodName)) (z := (⟨"com/example/arrivals_to_bounds/arrivalstobounds/LinearProgram", "variable", "()I"⟩ : MethodName)) hown (mvT hZ (hw _ (List.mem_of_getElem? (i := 37) rfl))) (mvT hZ (hw _ (List.mem_of_getElem? (i := 38) rfl))) (notFace_of_selects (args := #[]) (mvT hZ (hw _ (List.mem_of_getElem? (i := 40) rfl)))) (mvT hZ (hw _ (List.mem_of_getElem? (i := 40) rfl))) (mvT hZ (hw _ (List.mem_of_getElem? (i := 39) rfl))) (by decide) (backOf (W := 1) (rm6 l Z a0 hw [] b_15 (1 : Int32) (2 : Int32) T_24.heap n0 Z_27 f_29_E_b_15 f_30_F_b_15_variables g_b_15 (by decide)) hZ (hw _ (List.mem_of_getElem? (i := 41) rfl)) (hw _ (List.mem_of_getElem? (i := 2) rfl)) (by decide) (by decide)) q_28a q_28c (g := (mkF m 120 #[.val (.int p1), .val (.int (3 : Int32)), .val (.ref b_1), .val (.int (1 : Int32)), .val (.ref b_15)] [(.ref b_15), (.int (1 : Int32))])) rfl (by rw [hml]; rfl) (Steps.refl _) (argsL := []) (rest := [(.int (1 : Int32))]) (lenOf pd_1 rfl) rfl (by show 2 * 0 + _ ≤ _; exact Nat.le_of_eq rfl) (hb hby at_120) (fun _ _ => ⟨rfl, rfl, (by decide : 6 + 0 ≤ _), (by decide : 18 + 0 ≤ _)⟩)
  dsimp only [Pt.U, Pt.locs, Pt.cells, Pt.slots] at X_28 l_28 y_28 z_28 st_28 hQ_28
  subst l_28 y_28 z_28
  obtain ⟨rfl, Nq_28, Kq_28, Fv_28⟩ := hQ_28
  have N_28 := Fr.app N_24 Nq_28
  have KK_28 : Keep h0 T_28.heap [] := KK_24.trans Kq_28 (allS (Or.inr sz_b_15) all0)
  have Z_31 : n0 ≤ T_28.heap.size := Nat.le_trans Z_27 Kq_28.1
  have f_33_E_b_1 := ((f_25_E_b_1.keep Kq_24).keep Kq_28)
  have f_34_F_b_1_variables := (Fv_24.keep Kq_28 (ninS ne_b_1_b_15 nin0))
  obtain ⟨cq_32, kq_32, q_32a, q_32b, q_32c⟩ := isOf hZ rfl f_33_E_b_1
  obtain ⟨_, _, ⟨T_32, L_32, k_32, n_32⟩, -, X_32, ⟨Lc_32, hQ_32, l_32, y_32, z_32⟩, st_32⟩ := X_28.virtualBack hx (y := (⟨"com/example/arrivals_to_bounds/arrivalstobounds/LinearProgram", "variable", "()I"⟩ : MethodName)) (z := (⟨"com/example/arrivals_to_bounds/arrivalstobounds/LinearProgram", "variable", "()I"⟩ : MethodName)) hown (mvT hZ (hw _ (List.mem_of_getElem? (i := 37) rfl))) (mvT hZ (hw _ (List.mem_of_getElem? (i := 38) rfl))) (notFace_of_selects (args := #[]) (mvT hZ (hw _ (List.mem_of_getElem? (i := 40) rfl)))) (mvT hZ (hw _ (List.mem_of_getElem? (i := 40) rfl))) (mvT hZ (hw _ (List.mem_of_getElem? (i := 39) rfl))) (by decide) (backOf (W := 1) (rm6 l Z a0 hw [] b_1 (4 : Int32) (5 : Int32) T_28.heap n0 Z_31 f_33_E_b_1 f_34_F_b_1_variables g_b_1 (by decide)) hZ (hw _ (List.mem_of_getElem? (i := 41) rfl)) (hw _ (List.mem_of_getElem? (i := 2) rfl)) (by decide) (by decide)) q_32a q_32c (g := (mkF m 136 #[.val (.int p1), .val (.int (3 : Int32)), .val (.ref b_1), .val (.int (1 : Int32)), .val (.ref b_15)] [(.ref b_1), (.int (1 : Int32))])) rfl (by rw [hml]; rfl) (Steps.refl _) (argsL := []) (rest := [(.int (1 : Int32))]) (lenOf pd_1 rfl) rfl (by show 2 * 0 + _ ≤ _; exact Nat.le_of_eq rfl) (hb hby at_136) (fun _ _ => ⟨rfl, rfl, (by decide : 6 + 0 ≤ _), (by decide : 18 + 0 ≤ _)⟩)
  dsimp only [Pt.U, Pt.locs, Pt.cells, Pt.slots] at X_32 l_32 y_32 z_32 st_32 hQ_32
  subst l_32 y_32 z_32
  obtain ⟨rfl, Nq_32, Kq_32, Fv_32⟩ := hQ_32
  have N_32 := Fr.app N_28 Nq_32
  have KK_32 : Keep h0 T_32.heap [] := KK_28.trans Kq_32 (allS (Or.inr sz_b_1) all0)
  have Z_35 : n0 ≤ T_32.heap.size := Nat.le_trans Z_31 Kq_32.1
  obtain ⟨fs, hr, hrun, hended, hW, hsame⟩ := X_32.leave (v := some (.int (1 : Int32))) (fun h => by rw [Bd.returns] at h; cases h)
  refine ⟨_, _, pre0 _ ?_, hrun, hended, _, _, rfl, ?_, ⟨_, rfl⟩, hW, hsame.mono (by decide) (by decide)⟩
  · show Steps p.tables e below (s₁.setTop (mkF m 0 #[.val (.int p1), .unset, .unset, .unset, .unset] [])) _
    refine XS.iloadN X0.here hx rfl (hb hby at_0) rfl ?_
    show Steps p.tables e below (s₁.setTop (mkF m 1 #[.val (.int p1), .unset, .unset, .unset, .unset] [(.int p1)])) _
    refine XS.iconst X0.here hx rfl (hb hby at_1) ?_
    show Steps p.tables e below (s₁.setTop (mkF m 2 #[.val (.int p1), .unset, .unset, .unset, .unset] [(.int (3 : Int32)), (.int p1)])) _
    refine XS.iand X0.here hx rfl (hb hby at_2) rfl ?_
    show Steps p.tables e below (s₁.setTop (mkF m 3 #[.val (.int p1), .unset, .unset, .unset, .unset] [(.int (p1 &&& (3 : Int32)))])) _
    rw [hk_]
    show Steps p.tables e below (s₁.setTop (mkF m 3 #[.val (.int p1), .unset, .unset, .unset, .unset] [(.int (3 : Int32))])) _
    refine XS.istoreN X0.here hx rfl (hb hby at_3) rfl (l' := #[.val (.int p1), .val (.int (3 : Int32)), .unset, .unset, .unset]) rfl ?_
    show Steps p.tables e below (s₁.setTop (mkF m 4 #[.val (.int p1), .val (.int (3 : Int32)), .unset, .unset, .unset] [])) _
    refine st_1 _ ?_
    show Steps p.tables e below (T_1.setTop (mkF m 7 #[.val (.int p1), .val (.int (3 : Int32)), .unset, .unset, .unset] [(.ref b_1)])) _
    refine XS.dup X_1.here hx rfl (hb hby at_7) rfl rfl ?_
    show Steps p.tables e below (T_1.setTop (mkF m 8 #[.val (.int p1), .val (.int (3 : Int32)), .unset, .unset, .unset] [(.ref b_1), (.ref b_1)])) _
    refine st_3.trans ?_
    show Steps p.tables e below (T_3.setTop (mkF m 11 #[.val (.int p1), .val (.int (3 : Int32)), .unset, .unset, .unset] [(.ref b_1)])) _
    refine XS.astoreN X_3.here hx rfl (hb hby at_11) rfl rfl (l' := #[.val (.int p1), .val (.int (3 : Int32)), .val (.ref b_1), .unset, .unset]) rfl ?_
    show Steps p.tables e below (T_3.setTop (mkF m 12 #[.val (.int p1), .val (.int (3 : Int32)), .val (.ref b_1), .unset, .unset] [])) _
    refine XS.iconst X_3.here hx rfl (hb hby at_12) ?_
    show Steps p.tables e below (T_3.setTop (mkF m 13 #[.val (.int p1), .val (.int (3 : Int32)), .val (.ref b_1), .unset, .unset] [(.int (1 : Int32))])) _
    refine XS.istoreN X_3.here hx rfl (hb hby at_13) rfl (l' := #[.val (.int p1), .val (.int (3 : Int32)), .val (.ref b_1), .val (.int (1 : Int32)), .unset]) rfl ?_
    show Steps p.tables e below (T_3.setTop (mkF m 14 #[.val (.int p1), .val (.int (3 : Int32)), .val (.ref b_1), .val (.int (1 : Int32)), .unset] [])) _
    refine XS.iloadN X_3.here hx rfl (hb hby at_14) rfl ?_
    show Steps p.tables e below (T_3.setTop (mkF m 15 #[.val (.int p1), .val (.int (3 : Int32)), .val (.ref b_1), .val (.int (1 : Int32)), .unset] [(.int (3 : Int32))])) _
    refine XS.iconst X_3.here hx rfl (hb hby at_15) ?_
    show Steps p.tables e below (T_3.setTop (mkF m 16 #[.val (.int p1), .val (.int (3 : Int32)), .val (.ref b_1), .val (.int (1 : Int32)), .unset] [(.int (1 : Int32)), (.int (3 : Int32))])) _
    refine XS.icmpNo X_3.here hx rfl (hb hby at_16) rfl (flt ((by decide) : ¬ ((3 : Int32) < (1 : Int32)))).1 ?_
    show Steps p.tables e below (T_3.setTop (mkF m 19 #[.val (.int p1), .val (.int (3 : Int32)), .val (.ref b_1), .val (.int (1 : Int32)), .unset] [])) _
    refine XS.iloadN X_3.here hx rfl (hb hby at_19) rfl ?_
    show Steps p.tables e below (T_3.setTop (mkF m 20 #[.val (.int p1), .val (.int (3 : Int32)), .val (.ref b_1), .val (.int (1 : Int32)), .unset] [(.int (1 : Int32))])) _
    refine XS.aloadN X_3.here hx rfl (hb hby at_20) rfl rfl ?_
    show Steps p.tables e below (T_3.setTop (mkF m 21 #[.val (.int p1), .val (.int (3 : Int32)), .val (.ref b_1), .val (.int (1 : Int32)), .unset] [(.ref b_1), (.int (1 : Int32))])) _
    refine st_6.trans ?_
    show Steps p.tables e below (T_6.setTop (mkF m 24 #[.val (.int p1), .val (.int (3 : Int32)), .val (.ref b_1), .val (.int (1 : Int32)), .unset] [(.int (0 : Int32)), (.int (1 : Int32))])) _
    refine XS.ifNo X_6.here hx rfl (hb hby at_24) rfl ((if0 _ _).trans (teq ((by decide) : (0 : Int32) = (0 : Int32))).2) ?_
    show Steps p.tables e below (T_6.setTop (mkF m 27 #[.val (.int p1), .val (.int (3 : Int32)), .val (.ref b_1), .val (.int (1 : Int32)), .unset] [(.int (1 : Int32))])) _
    refine XS.iconst X_6.here hx rfl (hb hby at_27) ?_
    show Steps p.tables e below (T_6.setTop (mkF m 28 #[.val (.int p1), .val (.int (3 : Int32)), .val (.ref b_1), .val (.int (1 : Int32)), .unset] [(.int (1 : Int32)), (.int (1 : Int32))])) _
    refine XS.goto X_6.here hx rfl (pc0 := 28) (pc' := 32) rfl (hb hby at_28) (by decide) (by decide) ?_
    show Steps p.tables e below (T_6.setTop (mkF m 32 #[.val (.int p1), .val (.int (3 : Int32)), .val (.ref b_1), .val (.int (1 : Int32)), .unset] [(.int (1 : Int32)), (.int (1 : Int32))])) _
    refine XS.iand X_6.here hx rfl (hb hby at_32) rfl ?_
    show Steps p.tables e below (T_6.setTop (mkF m 33 #[.val (.int p1), .val (.int (3 : Int32)), .val (.ref b_1), .val (.int (1 : Int32)), .unset] [(.int ((1 : Int32) &&& (1 : Int32)))])) _
    rw [own_11]
    show Steps p.tables e below (T_6.setTop (mkF m 33 #[.val (.int p1), .val (.int (3 : Int32)), .val (.ref b_1), .val (.int (1 : Int32)), .unset] [(.int (1 : Int32))])) _
    refine XS.istoreN X_6.here hx rfl (hb hby at_33) rfl (l' := #[.val (.int p1), .val (.int (3 : Int32)), .val (.ref b_1), .val (.int (1 : Int32)), .unset]) rfl ?_
    show Steps p.tables e below (T_6.setTop (mkF m 34 #[.val (.int p1), .val (.int (3 : Int32)), .val (.ref b_1), .val (.int (1 : Int32)), .unset] [])) _
    refine XS.iloadN X_6.here hx rfl (hb hby at_34) rfl ?_
    show Steps p.tables e below (T_6.setTop (mkF m 35 #[.val (.int p1), .val (.int (3 : Int32)), .val (.ref b_1), .val (.int (1 : Int32)), .unset] [(.int (3 : Int32))])) _
    refine XS.iconst X_6.here hx rfl (hb hby at_35) ?_
    show Steps p.tables e below (T_6.setTop (mkF m 36 #[.val (.int p1), .val (.int (3 : Int32)), .val (.ref b_1), .val (.int (1 : Int32)), .unset] [(.int (2 : Int32)), (.int (3 : Int32))])) _
    refine XS.icmpNo X_6.here hx rfl (hb hby at_36) rfl (flt ((by decide) : ¬ ((3 : Int32) < (2 : Int32)))).1 ?_
    show Steps p.tables e below (T_6.setTop (mkF m 39 #[.val (.int p1), .val (.int (3 : Int32)), .val (.ref b_1), .val (.int (1 : Int32)), .unset] [])) _
    refine XS.iloadN X_6.here hx rfl (hb hby at_39) rfl ?_
    show Steps p.tables e below (T_6.setTop (mkF m 40 #[.val (.int p1), .val (.int (3 : Int32)), .val (.ref b_1), .val (.int (1 : Int32)), .unset] [(.int (1 : Int32))])) _
    refine XS.aloadN X_6.here hx rfl (hb hby at_40) rfl rfl ?_
    show Steps p.tables e below (T_6.setTop (mkF m 41 #[.val (.int p1), .val (.int (3 : Int32)), .val (.ref b_1), .val (.int (1 : Int32)), .unset] [(.ref b_1), (.int (1 : Int32))])) _
    refine st_9.trans ?_
    show Steps p.tables e below (T_9.setTop (mkF m 44 #[.val (.int p1), .val (.int (3 : Int32)), .val (.ref b_1), .val (.int (1 : Int32)), .unset] [(.int (1 : Int32)), (.int (1 : Int32))])) _
    refine XS.iconst X_9.here hx rfl (hb hby at_44) ?_
    show Steps p.tables e below (T_9.setTop (mkF m 45 #[.val (.int p1), .val (.int (3 : Int32)), .val (.ref b_1), .val (.int (1 : Int32)), .unset] [(.int (1 : Int32)), (.int (1 : Int32)), (.int (1 : Int32))])) _
    refine XS.icmpNo X_9.here hx rfl (hb hby at_45) rfl (teq ((by decide) : (1 : Int32) = (1 : Int32))).2 ?_
    show Steps p.tables e below (T_9.setTop (mkF m 48 #[.val (.int p1), .val (.int (3 : Int32)), .val (.ref b_1), .val (.int (1 : Int32)), .unset] [(.int (1 : Int32))])) _
    refine XS.iconst X_9.here hx rfl (hb hby at_48) ?_
    show Steps p.tables e below (T_9.setTop (mkF m 49 #[.val (.int p1), .val (.int (3 : Int32)), .val (.ref b_1), .val (.int (1 : Int32)), .unset] [(.int (1 : Int32)), (.int (1 : Int32))])) _
    refine XS.goto X_9.here hx rfl (pc0 := 49) (pc' := 53) rfl (hb hby at_49) (by decide) (by decide) ?_
    show Steps p.tables e below (T_9.setTop (mkF m 53 #[.val (.int p1), .val (.int (3 : Int32)), .val (.ref b_1), .val (.int (1 : Int32)), .unset] [(.int (1 : Int32)), (.int (1 : Int32))])) _
    refine XS.iand X_9.here hx rfl (hb hby at_53) rfl ?_
    show Steps p.tables e below (T_9.setTop (mkF m 54 #[.val (.int p1), .val (.int (3 : Int32)), .val (.ref b_1), .val (.int (1 : Int32)), .unset] [(.int ((1 : Int32) &&& (1 : Int32)))])) _
    rw [own_11]
    show Steps p.tables e below (T_9.setTop (mkF m 54 #[.val (.int p1), .val (.int (3 : Int32)), .val (.ref b_1), .val (.int (1 : Int32)), .unset] [(.int (1 : Int32))])) _
    refine XS.istoreN X_9.here hx rfl (hb hby at_54) rfl (l' := #[.val (.int p1), .val (.int (3 : Int32)), .val (.ref b_1), .val (.int (1 : Int32)), .unset]) rfl ?_
    show Steps p.tables e below (T_9.setTop (mkF m 55 #[.val (.int p1), .val (.int (3 : Int32)), .val (.ref b_1), .val (.int (1 : Int32)), .unset] [])) _
    refine XS.iloadN X_9.here hx rfl (hb hby at_55) rfl ?_
    show Steps p.tables e below (T_9.setTop (mkF m 56 #[.val (.int p1), .val (.int (3 : Int32)), .val (.ref b_1), .val (.int (1 : Int32)), .unset] [(.int (3 : Int32))])) _
    refine XS.iconst X_9.here hx rfl (hb hby at_56) ?_
    show Steps p.tables e below (T_9.setTop (mkF m 57 #[.val (.int p1), .val (.int (3 : Int32)), .val (.ref b_1), .val (.int (1 : Int32)), .unset] [(.int (3 : Int32)), (.int (3 : Int32))])) _
    refine XS.icmpNo X_9.here hx rfl (hb hby at_57) rfl (flt ((by decide) : ¬ ((3 : Int32) < (3 : Int32)))).1 ?_
    show Steps p.tables e below (T_9.setTop (mkF m 60 #[.val (.int p1), .val (.int (3 : Int32)), .val (.ref b_1), .val (.int (1 : Int32)), .unset] [])) _
    refine XS.iloadN X_9.here hx rfl (hb hby at_60) rfl ?_
    show Steps p.tables e below (T_9.setTop (mkF m 61 #[.val (.int p1), .val (.int (3 : Int32)), .val (.ref b_1), .val (.int (1 : Int32)), .unset] [(.int (1 : Int32))])) _
    refine XS.aloadN X_9.here hx rfl (hb hby at_61) rfl rfl ?_
    show Steps p.tables e below (T_9.setTop (mkF m 62 #[.val (.int p1), .val (.int (3 : Int32)), .val (.ref b_1), .val (.int (1 : Int32)), .unset] [(.ref b_1), (.int (1 : Int32))])) _
    refine st_12.trans ?_
    show Steps p.tables e below (T_12.setTop (mkF m 65 #[.val (.int p1), .val (.int (3 : Int32)), .val (.ref b_1), .val (.int (1 : Int32)), .unset] [(.int (2 : Int32)), (.int (1 : Int32))])) _
    refine XS.iconst X_12.here hx rfl (hb hby at_65) ?_
    show Steps p.tables e below (T_12.setTop (mkF m 66 #[.val (.int p1), .val (.int (3 : Int32)), .val (.ref b_1), .val (.int (1 : Int32)), .unset] [(.int (2 : Int32)), (.int (2 : Int32)), (.int (1 : Int32))])) _
    refine XS.icmpNo X_12.here hx rfl (hb hby at_66) rfl (teq ((by decide) : (2 : Int32) = (2 : Int32))).2 ?_
    show Steps p.tables e below (T_12.setTop (mkF m 69 #[.val (.int p1), .val (.int (3 : Int32)), .val (.ref b_1), .val (.int (1 : Int32)), .unset] [(.int (1 : Int32))])) _
    refine XS.iconst X_12.here hx rfl (hb hby at_69) ?_
    show Steps p.tables e below (T_12.setTop (mkF m 70 #[.val (.int p1), .val (.int (3 : Int32)), .val (.ref b_1), .val (.int (1 : Int32)), .unset] [(.int (1 : Int32)), (.int (1 : Int32))])) _
    refine XS.goto X_12.here hx rfl (pc0 := 70) (pc' := 74) rfl (hb hby at_70) (by decide) (by decide) ?_
    show Steps p.tables e below (T_12.setTop (mkF m 74 #[.val (.int p1), .val (.int (3 : Int32)), .val (.ref b_1), .val (.int (1 : Int32)), .unset] [(.int (1 : Int32)), (.int (1 : Int32))])) _
    refine XS.iand X_12.here hx rfl (hb hby at_74) rfl ?_
    show Steps p.tables e below (T_12.setTop (mkF m 75 #[.val (.int p1), .val (.int (3 : Int32)), .val (.ref b_1), .val (.int (1 : Int32)), .unset] [(.int ((1 : Int32) &&& (1 : Int32)))])) _
    rw [own_11]
    show Steps p.tables e below (T_12.setTop (mkF m 75 #[.val (.int p1), .val (.int (3 : Int32)), .val (.ref b_1), .val (.int (1 : Int32)), .unset] [(.int (1 : Int32))])) _
    refine XS.istoreN X_12.here hx rfl (hb hby at_75) rfl (l' := #[.val (.int p1), .val (.int (3 : Int32)), .val (.ref b_1), .val (.int (1 : Int32)), .unset]) rfl ?_
    show Steps p.tables e below (T_12.setTop (mkF m 76 #[.val (.int p1), .val (.int (3 : Int32)), .val (.ref b_1), .val (.int (1 : Int32)), .unset] [])) _
    refine st_15 _ ?_
    show Steps p.tables e below (T_15.setTop (mkF m 79 #[.val (.int p1), .val (.int (3 : Int32)), .val (.ref b_1), .val (.int (1 : Int32)), .unset] [(.ref b_15)])) _
    refine XS.dup X_15.here hx rfl (hb hby at_79) rfl rfl ?_
    show Steps p.tables e below (T_15.setTop (mkF m 80 #[.val (.int p1), .val (.int (3 : Int32)), .val (.ref b_1), .val (.int (1 : Int32)), .unset] [(.ref b_15), (.ref b_15)])) _
    refine st_18.trans ?_
    show Steps p.tables e below (T_18.setTop (mkF m 83 #[.val (.int p1), .val (.int (3 : Int32)), .val (.ref b_1), .val (.int (1 : Int32)), .unset] [(.ref b_15)])) _
    refine XS.astore X_18.here hx rfl (hb hby at_83) rfl rfl (l' := #[.val (.int p1), .val (.int (3 : Int32)), .val (.ref b_1), .val (.int (1 : Int32)), .val (.ref b_15)]) rfl ?_
    show Steps p.tables e below (T_18.setTop (mkF m 85 #[.val (.int p1), .val (.int (3 : Int32)), .val (.ref b_1), .val (.int (1 : Int32)), .val (.ref b_15)] [])) _
    refine XS.iloadN X_18.here hx rfl (hb hby at_85) rfl ?_
    show Steps p.tables e below (T_18.setTop (mkF m 86 #[.val (.int p1), .val (.int (3 : Int32)), .val (.ref b_1), .val (.int (1 : Int32)), .val (.ref b_15)] [(.int (1 : Int32))])) _
    refine XS.aload X_18.here hx rfl (hb hby at_86) rfl rfl ?_
    show Steps p.tables e below (T_18.setTop (mkF m 88 #[.val (.int p1), .val (.int (3 : Int32)), .val (.ref b_1), .val (.int (1 : Int32)), .val (.ref b_15)] [(.ref b_15), (.int (1 : Int32))])) _
    refine st_21.trans ?_
    show Steps p.tables e below (T_21.setTop (mkF m 91 #[.val (.int p1), .val (.int (3 : Int32)), .val (.ref b_1), .val (.int (1 : Int32)), .val (.ref b_15)] [(.int (0 : Int32)), (.int (1 : Int32))])) _
    refine XS.ifNo X_21.here hx rfl (hb hby at_91) rfl ((if0 _ _).trans (teq ((by decide) : (0 : Int32) = (0 : Int32))).2) ?_
    show Steps p.tables e below (T_21.setTop (mkF m 94 #[.val (.int p1), .val (.int (3 : Int32)), .val (.ref b_1), .val (.int (1 : Int32)), .val (.ref b_15)] [(.int (1 : Int32))])) _
    refine XS.iconst X_21.here hx rfl (hb hby at_94) ?_
    show Steps p.tables e below (T_21.setTop (mkF m 95 #[.val (.int p1), .val (.int (3 : Int32)), .val (.ref b_1), .val (.int (1 : Int32)), .val (.ref b_15)] [(.int (1 : Int32)), (.int (1 : Int32))])) _
    refine XS.goto X_21.here hx rfl (pc0 := 95) (pc' := 99) rfl (hb hby at_95) (by decide) (by decide) ?_
    show Steps p.tables e below (T_21.setTop (mkF m 99 #[.val (.int p1), .val (.int (3 : Int32)), .val (.ref b_1), .val (.int (1 : Int32)), .val (.ref b_15)] [(.int (1 : Int32)), (.int (1 : Int32))])) _
    refine XS.iand X_21.here hx rfl (hb hby at_99) rfl ?_
    show Steps p.tables e below (T_21.setTop (mkF m 100 #[.val (.int p1), .val (.int (3 : Int32)), .val (.ref b_1), .val (.int (1 : Int32)), .val (.ref b_15)] [(.int ((1 : Int32) &&& (1 : Int32)))])) _
    rw [own_11]
    show Steps p.tables e below (T_21.setTop (mkF m 100 #[.val (.int p1), .val (.int (3 : Int32)), .val (.ref b_1), .val (.int (1 : Int32)), .val (.ref b_15)] [(.int (1 : Int32))])) _
    refine XS.istoreN X_21.here hx rfl (hb hby at_100) rfl (l' := #[.val (.int p1), .val (.int (3 : Int32)), .val (.ref b_1), .val (.int (1 : Int32)), .val (.ref b_15)]) rfl ?_
    show Steps p.tables e below (T_21.setTop (mkF m 101 #[.val (.int p1), .val (.int (3 : Int32)), .val (.ref b_1), .val (.int (1 : Int32)), .val (.ref b_15)] [])) _
    refine XS.iloadN X_21.here hx rfl (hb hby at_101) rfl ?_
    show Steps p.tables e below (T_21.setTop (mkF m 102 #[.val (.int p1), .val (.int (3 : Int32)), .val (.ref b_1), .val (.int (1 : Int32)), .val (.ref b_15)] [(.int (1 : Int32))])) _
    refine XS.aloadN X_21.here hx rfl (hb hby at_102) rfl rfl ?_
    show Steps p.tables e below (T_21.setTop (mkF m 103 #[.val (.int p1), .val (.int (3 : Int32)), .val (.ref b_1), .val (.int (1 : Int32)), .val (.ref b_15)] [(.ref b_1), (.int (1 : Int32))])) _
    refine st_24.trans ?_
    show Steps p.tables e below (T_24.setTop (mkF m 106 #[.val (.int p1), .val (.int (3 : Int32)), .val (.ref b_1), .val (.int (1 : Int32)), .val (.ref b_15)] [(.int (3 : Int32)), (.int (1 : Int32))])) _
    refine XS.iloadN X_24.here hx rfl (hb hby at_106) rfl ?_
    show Steps p.tables e below (T_24.setTop (mkF m 107 #[.val (.int p1), .val (.int (3 : Int32)), .val (.ref b_1), .val (.int (1 : Int32)), .val (.ref b_15)] [(.int (3 : Int32)), (.int (3 : Int32)), (.int (1 : Int32))])) _
    refine XS.icmpNo X_24.here hx rfl (hb hby at_107) rfl (teq ((by decide) : (3 : Int32) = (3 : Int32))).2 ?_
    show Steps p.tables e below (T_24.setTop (mkF m 110 #[.val (.int p1), .val (.int (3 : Int32)), .val (.ref b_1), .val (.int (1 : Int32)), .val (.ref b_15)] [(.int (1 : Int32))])) _
    refine XS.iconst X_24.here hx rfl (hb hby at_110) ?_
    show Steps p.tables e below (T_24.setTop (mkF m 111 #[.val (.int p1), .val (.int (3 : Int32)), .val (.ref b_1), .val (.int (1 : Int32)), .val (.ref b_15)] [(.int (1 : Int32)), (.int (1 : Int32))])) _
    refine XS.goto X_24.here hx rfl (pc0 := 111) (pc' := 115) rfl (hb hby at_111) (by decide) (by decide) ?_
    show Steps p.tables e below (T_24.setTop (mkF m 115 #[.val (.int p1), .val (.int (3 : Int32)), .val (.ref b_1), .val (.int (1 : Int32)), .val (.ref b_15)] [(.int (1 : Int32)), (.int (1 : Int32))])) _
    refine XS.iand X_24.here hx rfl (hb hby at_115) rfl ?_
    show Steps p.tables e below (T_24.setTop (mkF m 116 #[.val (.int p1), .val (.int (3 : Int32)), .val (.ref b_1), .val (.int (1 : Int32)), .val (.ref b_15)] [(.int ((1 : Int32) &&& (1 : Int32)))])) _
    rw [own_11]
    show Steps p.tables e below (T_24.setTop (mkF m 116 #[.val (.int p1), .val (.int (3 : Int32)), .val (.ref b_1), .val (.int (1 : Int32)), .val (.ref b_15)] [(.int (1 : Int32))])) _
    refine XS.istoreN X_24.here hx rfl (hb hby at_116) rfl (l' := #[.val (.int p1), .val (.int (3 : Int32)), .val (.ref b_1), .val (.int (1 : Int32)), .val (.ref b_15)]) rfl ?_
    show Steps p.tables e below (T_24.setTop (mkF m 117 #[.val (.int p1), .val (.int (3 : Int32)), .val (.ref b_1), .val (.int (1 : Int32)), .val (.ref b_15)] [])) _
    refine XS.iloadN X_24.here hx rfl (hb hby at_117) rfl ?_
    show Steps p.tables e below (T_24.setTop (mkF m 118 #[.val (.int p1), .val (.int (3 : Int32)), .val (.ref b_1), .val (.int (1 : Int32)), .val (.ref b_15)] [(.int (1 : Int32))])) _
    refine XS.aload X_24.here hx rfl (hb hby at_118) rfl rfl ?_
    show Steps p.tables e below (T_24.setTop (mkF m 120 #[.val (.int p1), .val (.int (3 : Int32)), .val (.ref b_1), .val (.int (1 : Int32)), .val (.ref b_15)] [(.ref b_15), (.int (1 : Int32))])) _
    refine st_28.trans ?_
    show Steps p.tables e below (T_28.setTop (mkF m 123 #[.val (.int p1), .val (.int (3 : Int32)), .val (.ref b_1), .val (.int (1 : Int32)), .val (.ref b_15)] [(.int (1 : Int32)), (.int (1 : Int32))])) _
    refine XS.iconst X_28.here hx rfl (hb hby at_123) ?_
    show Steps p.tables e below (T_28.setTop (mkF m 124 #[.val (.int p1), .val (.int (3 : Int32)), .val (.ref b_1), .val (.int (1 : Int32)), .val (.ref b_15)] [(.int (1 : Int32)), (.int (1 : Int32)), (.int (1 : Int32))])) _
    refine XS.icmpNo X_28.here hx rfl (hb hby at_124) rfl (teq ((by decide) : (1 : Int32) = (1 : Int32))).2 ?_
    show Steps p.tables e below (T_28.setTop (mkF m 127 #[.val (.int p1), .val (.int (3 : Int32)), .val (.ref b_1), .val (.int (1 : Int32)), .val (.ref b_15)] [(.int (1 : Int32))])) _
    refine XS.iconst X_28.here hx rfl (hb hby at_127) ?_
    show Steps p.tables e below (T_28.setTop (mkF m 128 #[.val (.int p1), .val (.int (3 : Int32)), .val (.ref b_1), .val (.int (1 : Int32)), .val (.ref b_15)] [(.int (1 : Int32)), (.int (1 : Int32))])) _
    refine XS.goto X_28.here hx rfl (pc0 := 128) (pc' := 132) rfl (hb hby at_128) (by decide) (by decide) ?_
    show Steps p.tables e below (T_28.setTop (mkF m 132 #[.val (.int p1), .val (.int (3 : Int32)), .val (.ref b_1), .val (.int (1 : Int32)), .val (.ref b_15)] [(.int (1 : Int32)), (.int (1 : Int32))])) _
    refine XS.iand X_28.here hx rfl (hb hby at_132) rfl ?_
    show Steps p.tables e below (T_28.setTop (mkF m 133 #[.val (.int p1), .val (.int (3 : Int32)), .val (.ref b_1), .val (.int (1 : Int32)), .val (.ref b_15)] [(.int ((1 : Int32) &&& (1 : Int32)))])) _
    rw [own_11]
    show Steps p.tables e below (T_28.setTop (mkF m 133 #[.val (.int p1), .val (.int (3 : Int32)), .val (.ref b_1), .val (.int (1 : Int32)), .val (.ref b_15)] [(.int (1 : Int32))])) _
    refine XS.istoreN X_28.here hx rfl (hb hby at_133) rfl (l' := #[.val (.int p1), .val (.int (3 : Int32)), .val (.ref b_1), .val (.int (1 : Int32)), .val (.ref b_15)]) rfl ?_
    show Steps p.tables e below (T_28.setTop (mkF m 134 #[.val (.int p1), .val (.int (3 : Int32)), .val (.ref b_1), .val (.int (1 : Int32)), .val (.ref b_15)] [])) _
    refine XS.iloadN X_28.here hx rfl (hb hby at_134) rfl ?_
    show Steps p.tables e below (T_28.setTop (mkF m 135 #[.val (.int p1), .val (.int (3 : Int32)), .val (.ref b_1), .val (.int (1 : Int32)), .val (.ref b_15)] [(.int (1 : Int32))])) _
    refine XS.aloadN X_28.here hx rfl (hb hby at_135) rfl rfl ?_
    show Steps p.tables e below (T_28.setTop (mkF m 136 #[.val (.int p1), .val (.int (3 : Int32)), .val (.ref b_1), .val (.int (1 : Int32)), .val (.ref b_15)] [(.ref b_1), (.int (1 : Int32))])) _
    refine st_32.trans ?_
    show Steps p.tables e below (T_32.setTop (mkF m 139 #[.val (.int p1), .val (.int (3 : Int32)), .val (.ref b_1), .val (.int (1 : Int32)), .val (.ref b_15)] [(.int (4 : Int32)), (.int (1 : Int32))])) _
    refine XS.iloadN X_32.here hx rfl (hb hby at_139) rfl ?_
    show Steps p.tables e below (T_32.setTop (mkF m 140 #[.val (.int p1), .val (.int (3 : Int32)), .val (.ref b_1), .val (.int (1 : Int32)), .val (.ref b_15)] [(.int (3 : Int32)), (.int (4 : Int32)), (.int (1 : Int32))])) _
    refine XS.iconst X_32.here hx rfl (hb hby at_140) ?_
    show Steps p.tables e below (T_32.setTop (mkF m 141 #[.val (.int p1), .val (.int (3 : Int32)), .val (.ref b_1), .val (.int (1 : Int32)), .val (.ref b_15)] [(.int (1 : Int32)), (.int (3 : Int32)), (.int (4 : Int32)), (.int (1 : Int32))])) _
    refine XS.iadd X_32.here hx rfl (hb hby at_141) rfl ?_
    show Steps p.tables e below (T_32.setTop (mkF m 142 #[.val (.int p1), .val (.int (3 : Int32)), .val (.ref b_1), .val (.int (1 : Int32)), .val (.ref b_15)] [(.int ((3 : Int32) + (1 : Int32))), (.int (4 : Int32)), (.int (1 : Int32))])) _
    refine XS.icmpNo X_32.here hx rfl (hb hby at_142) rfl (teq ((by decide) : (4 : Int32) = ((3 : Int32) + (1 : Int32)))).2 ?_
    show Steps p.tables e below (T_32.setTop (mkF m 145 #[.val (.int p1), .val (.int (3 : Int32)), .val (.ref b_1), .val (.int (1 : Int32)), .val (.ref b_15)] [(.int (1 : Int32))])) _
    refine XS.iconst X_32.here hx rfl (hb hby at_145) ?_
    show Steps p.tables e below (T_32.setTop (mkF m 146 #[.val (.int p1), .val (.int (3 : Int32)), .val (.ref b_1), .val (.int (1 : Int32)), .val (.ref b_15)] [(.int (1 : Int32)), (.int (1 : Int32))])) _
    refine XS.goto X_32.here hx rfl (pc0 := 146) (pc' := 150) rfl (hb hby at_146) (by decide) (by decide) ?_
    show Steps p.tables e below (T_32.setTop (mkF m 150 #[.val (.int p1), .val (.int (3 : Int32)), .val (.ref b_1), .val (.int (1 : Int32)), .val (.ref b_15)] [(.int (1 : Int32)), (.int (1 : Int32))])) _
    refine XS.iand X_32.here hx rfl (hb hby at_150) rfl ?_
    show Steps p.tables e below (T_32.setTop (mkF m 151 #[.val (.int p1), .val (.int (3 : Int32)), .val (.ref b_1), .val (.int (1 : Int32)), .val (.ref b_15)] [(.int ((1 : Int32) &&& (1 : Int32)))])) _
    rw [own_11]
    show Steps p.tables e below (T_32.setTop (mkF m 151 #[.val (.int p1), .val (.int (3 : Int32)), .val (.ref b_1), .val (.int (1 : Int32)), .val (.ref b_15)] [(.int (1 : Int32))])) _
    refine XS.istoreN X_32.here hx rfl (hb hby at_151) rfl (l' := #[.val (.int p1), .val (.int (3 : Int32)), .val (.ref b_1), .val (.int (1 : Int32)), .val (.ref b_15)]) rfl ?_
    show Steps p.tables e below (T_32.setTop (mkF m 152 #[.val (.int p1), .val (.int (3 : Int32)), .val (.ref b_1), .val (.int (1 : Int32)), .val (.ref b_15)] [])) _
    refine XS.iloadN X_32.here hx rfl (hb hby at_152) rfl ?_
    show Steps p.tables e below (T_32.setTop (mkF m 153 #[.val (.int p1), .val (.int (3 : Int32)), .val (.ref b_1), .val (.int (1 : Int32)), .val (.ref b_15)] [(.int (1 : Int32))])) _
    exact retN X_32 hx (t := .boolean) Bd.returns (by simp) (hb hby at_153) hr
  · show Q0 Z  h0 n0 _ T_32.heap _
    exact ⟨rfl, N_32⟩
theorem rm0 (l : Launch) (Z : State) (a0 : Array Value) (hw : ∀ d ∈ tables_1, d.before a0 Z = true) (ws : List Jvm.Cond) (p1 : Int32) (sd : Addr) (h0 : Heap) (n0 : Nat) (Z0 : n0 ≤ h0.size) (O_ : Old Z n0 h0) (S_ : Sta Z Z.heap "java/util/ArrayList" "DEFAULTCAPACITY_EMPTY_ELEMENTDATA" "[Ljava/lang/Object;" (.ref sd)) :
    MetFree l x (head1 (Jvm.Cond.code x code maxLocals ret :: ws) room_1) (fun a U => a = #[(.int p1)] ∧ Z.Warmed39 U.vm ∧ U.heap = h0) (fun _ _ _ _ _ => True) (fun _ U o U' => ∃ v L, o = .returned v ∧ Q0 Z h0 n0 v U'.heap L ∧ FrameEnd U o U' L 6 18) := by
  rcases own_four p1 with h | h | h | h
  · exact rm0_0 l Z a0 hw ws p1 sd h0 n0 Z0 O_ S_ h
  · exact rm0_1 l Z a0 hw ws p1 sd h0 n0 Z0 O_ S_ h
  · exact rm0_2 l Z a0 hw ws p1 sd h0 n0 Z0 O_ S_ h
  · exact rm0_3 l Z a0 hw ws p1 sd h0 n0 Z0 O_ S_ h
set_option maxRecDepth 65536 in
set_option maxHeartbeats 40000000 in
theorem comes_1 {Post : Tables → Env → Array Value → State → Outcome → State → Prop} (hpost : ∀ tb e args s v u, (limb_1_1.after args s (.returned v) u = true ∧ limb_1_2.after args s (.returned v) u = true ∧ True) → FrameEnd s (.returned v) u (Jvm.fieldLocs frame_1_writes args s ++ Jvm.arrayLocs frame_1_arrays args s ++ Jvm.staticLocs frame_1_statics s) 24 128 → Post tb e args s (.returned v) u) :
    ArmFor flags0 classFile x code maxLocals ret World_1 tables_1 room_1 Calls_1 rest_1 Pre_1 Post := by
  intro l hfl _ _ p e ha hc hk s m args below hf hA hF happ hP
  obtain ⟨hcalls, hrest, hpre⟩ := hP
  obtain ⟨-, -, -, hnamed, -, -, -, hat⟩ := (Spec.applies_iff hf).mp happ
  obtain ⟨hg, hn⟩ := and_e (Cond.before_iff.mp (show (Jvm.Cond.and given_1 narrow_1).before args s = true from hpre))
  obtain ⟨g1, hg⟩ := and_e hg

  obtain ⟨w0, rfl⟩ : ∃ w0 : Value, args = #[w0] := by
    have hs : args.size = 1 := by simpa [Cond.value, given_1] using g1
    obtain ⟨L⟩ := args
    match L, hs with
    | [w0], _ => exact ⟨w0, rfl⟩
  have hw := fun d (hd : d ∈ tables_1) => atoms_spec (ws := Jvm.Cond.code x code maxLocals ret :: tables_1) hat d (List.mem_cons_of_mem _ hd)
  obtain ⟨i0, ei0⟩ := is_v hg
  obtain rfl : w0 = (.int i0) := Option.some.inj ei0
  obtain ⟨hsets, hown0⟩ := atoms_of _ (rest_1_c_eq ▸ (show rest_1_c.before _ s = true from hrest))
  obtain ⟨sd, esd⟩ := arr_v (Cond.before_iff.mp (hsets _ (List.mem_of_getElem? (i := 6) rfl)))
  have S_ := Sta.start esd (Or.inr ⟨hw _ (List.mem_of_getElem? (i := 11) rfl), hsets _ (List.mem_of_getElem? (i := 2) rfl)⟩)
  obtain ⟨n, o, h1, h2, h3, _, L, rfl, ⟨rfl, N⟩, hq⟩ := rm0 l s _ hw tables_1 i0 sd s.heap s.heap.size (Nat.le_refl _) (Old.start s) S_ p e ha hc hk s m _ below hf ((Spec.applies_iff_loose hf).mp happ).1 ⟨rfl, State.Warmed39.refl s, rfl⟩ trivial
  refine ⟨n, _, h1, h2, h3, hpost _ _ _ _ _ _ ⟨Cond.after_iff.mpr rfl, Cond.after_iff.mpr (eq_i res_at (Term.int_eval (1)) rfl), trivial⟩ ⟨hq.1, hq.2.1, (hq.2.2.sift fun y hy => Or.inr (N y hy)).mono (by decide) (by decide)⟩⟩
theorem main_1_1 : Claimed_1_1 := comes_1 fun _ _ _ _ _ _ h hF => ⟨h.1, hF⟩
theorem main_1_2 : Claimed_1_2 := comes_1 fun _ _ _ _ _ _ h hF => ⟨h.2.1, hF⟩
end Jvm.Pilot.@@N@@
namespace Jvm.Pilot.@@N@@
open Jvm Jvm.ClassFile Sem Op Lib Jvm.Free Jvm.Stand Jvm.Pilot.@@N@@.Jvm.D
/-! MADE BY PROGRAM (witnessworld.py) out of the Statement's table words and the real class files: 16 classes; the members and pool entries that the words name. The judged class is class 1, her method 1. -/
namespace start1
open Jvm.ClassFile
def u (s : String) : CpInfo := .utf8 (stringToUtf16 s)
/-- a pool by its gaps: so many unusable entries, then the entry; so many at the end -/
def gap : Nat → List CpInfo → List CpInfo
  | 0, r => r
  | n + 1, r => .unusable :: gap n r
def poolList (es : List (Nat × CpInfo)) (last : Nat) : List CpInfo := es.foldr (fun e r => gap e.1 (e.2 :: r)) (gap last [])
def pool (es : List (Nat × CpInfo)) (last : Nat) : Array CpInfo := ⟨poolList es last⟩
def fileOf (pool : Array CpInfo) (this : Nat) (attrs : Array Attribute := #[]) (ms : Array MethodInfo := #[]) (fl : Nat := 33) (sup : Nat := 0) (ifs : Array Nat := #[]) (fds : Array FieldInfo := #[]) : ClassFile where
  minorVersion := 0
  majorVersion := 65
  constantPool := pool
  accessFlags := fl
  thisClass := this
  superClass := sup
  interfaces := ifs
  fields := fds
  methods := ms
  attributes := attrs
def plain (name : String) (sup : Option ClassId) : Class where
  name := name
  kind := .ordinary
  loader := none
  accessFlags := 33
  super := sup
  interfaces := #[]
  cf := none
  fields := #[]
  methods := #[]
  instanceTypes := #[]
  staticTypes := #[]
  resolved := #[]
  callSites := []
  init := .initialized
  statics := none
  mirror := none

def pool0 : Array CpInfo := pool [(5, u "<init>"), (0, u "()V"), (1, .class_ 10), (1, u "java/lang/Object")] 113

def k0c0 : Code := { maxStack := 0, maxLocals := 1, code := object_method_1_code, exceptionTable := #[], attributes := #[] }
def k0m0 : Method := { name := "<init>", desc := "()V", sig := { parameters := [], returnType := none }, accessFlags := 1, code := some k0c0 }
/-- java/lang/Object -/
def k0 : Class := { plain "java/lang/Object" none with
  accessFlags := 33
  interfaces := #[]
  cf := some (fileOf pool0 8 #[] #[{ accessFlags := 1, nameIndex := 5, descriptorIndex := 6, attributes := #[] }] 33 0 #[] #[])
  fields := #[]
  methods := #[k0m0]
  instanceTypes := #[]
  staticTypes := #[]
  resolved := Array.replicate 124 none
  statics := none }

def pool1 : Array CpInfo := pool [(2, .class_ 4), (0, .nameAndType 5 6), (0, u "java/lang/Object"), (0, u "<init>"), (0, u "()V"), (0, .class_ 8), (0, u "com/example/arrivals_to_bounds/arrivalstobounds/LinearProgram"), (0, .methodref 7 3), (0, .methodref 7 11), (0, .nameAndType 12 13), (0, u "variable"), (0, u "()I"), (0, .class_ 15), (0, u "com/example/arrivals_to_bounds/arrivalstobounds/LinearProgramVariablePinLaw"), (2, u "law"), (0, u "(I)Z")] 3

def k1m0 : Method := { name := "<init>", desc := "()V", sig := { parameters := [], returnType := none }, accessFlags := 1, code := none }
def k1c1 : Code := { maxStack := 4, maxLocals := 5, code := code, exceptionTable := #[], attributes := #[] }
def k1m1 : Method := { name := "law", desc := "(I)Z", sig := { parameters := [.int], returnType := some .boolean }, accessFlags := 9, code := some k1c1 }
/-- com/example/arrivals_to_bounds/arrivalstobounds/LinearProgramVariablePinLaw -/
def k1 : Class := { plain "com/example/arrivals_to_bounds/arrivalstobounds/LinearProgramVariablePinLaw" (some 0) with
  accessFlags := 49
  interfaces := #[]
  cf := some (fileOf pool1 14 #[] #[{ accessFlags := 1, nameIndex := 5, descriptorIndex := 6, attributes := #[] }, { accessFlags := 9, nameIndex := 18, descriptorIndex := 19, attributes := #[] }] 49 2 #[] #[])
  fields := #[]
  methods := #[k1m0, k1m1]
  instanceTypes := #[]
  staticTypes := #[]
  resolved := Array.replicate 23 none
  statics := none }

def pool2 : Array CpInfo := pool [(1, .methodref 2 3), (0, .class_ 4), (0, .nameAndType 5 6), (0, u "java/lang/Object"), (0, u "<init>"), (0, u "()V"), (0, .class_ 8), (0, u "java/util/ArrayList"), (0, .methodref 7 3), (0, .fieldref 11 12), (0, .class_ 13), (0, .nameAndType 14 15), (0, u "com/example/arrivals_to_bounds/arrivalstobounds/LinearProgram"), (0, u "rows"), (0, u "Ljava/util/List;"), (0, .fieldref 11 17), (0, .nameAndType 18 15), (0, u "bounds"), (0, .fieldref 11 20), (0, .nameAndType 21 22), (0, u "variables"), (0, u "I"), (5, u "()I"), (22, .class_ 53), (1, u "com/example/arrivals_to_bounds/arrivalstobounds/LinearProgram$Expression"), (25, .class_ 80), (0, u "com/example/arrivals_to_bounds/arrivalstobounds/LinearProgram$Tableau"), (42, u "variable"), (9, .class_ 134), (0, u "com/example/arrivals_to_bounds/arrivalstobounds/LinearProgram$Optimum")] 36

def k2c0 : Code := { maxStack := 3, maxLocals := 1, code := prog_27_method_1_code, exceptionTable := #[], attributes := #[] }
def k2m0 : Method := { name := "<init>", desc := "()V", sig := { parameters := [], returnType := none }, accessFlags := 0, code := some k2c0 }
def k2c1 : Code := { maxStack := 4, maxLocals := 1, code := prog_27_method_2_code, exceptionTable := #[], attributes := #[] }
def k2m1 : Method := { name := "variable", desc := "()I", sig := { parameters := [], returnType := some .int }, accessFlags := 0, code := some k2c1 }
/-- com/example/arrivals_to_bounds/arrivalstobounds/LinearProgram -/
def k2 : Class := { plain "com/example/arrivals_to_bounds/arrivalstobounds/LinearProgram" (some 0) with
  accessFlags := 32
  interfaces := #[]
  cf := some (fileOf pool2 11 #[.nestMembers #[79, 51, 133]] #[{ accessFlags := 0, nameIndex := 5, descriptorIndex := 6, attributes := #[] }, { accessFlags := 0, nameIndex := 123, descriptorIndex := 28, attributes := #[] }] 32 2 #[] #[{ accessFlags := 18, nameIndex := 14, descriptorIndex := 15, attributes := #[] }, { accessFlags := 18, nameIndex := 18, descriptorIndex := 15, attributes := #[] }, { accessFlags := 2, nameIndex := 21, descriptorIndex := 22, attributes := #[] }])
  fields := #[{ name := "rows", type := (.object "java/util/List"), accessFlags := 18, slot := 0, constantValue := 0 }, { name := "bounds", type := (.object "java/util/List"), accessFlags := 18, slot := 1, constantValue := 0 }, { name := "variables", type := .int, accessFlags := 2, slot := 2, constantValue := 0 }]
  methods := #[k2m0, k2m1]
  instanceTypes := #[(.object "java/util/List"), (.object "java/util/List"), .int]
  staticTypes := #[]
  resolved := Array.replicate 171 none
  statics := none }

def pool3 : Array CpInfo := pool [(8, .class_ 10), (1, u "java/lang/Iterable"), (24, .class_ 36), (0, u "java/lang/Object")] 25

/-- java/lang/Iterable -/
def k3 : Class := { plain "java/lang/Iterable" (some 0) with
  accessFlags := 1537
  interfaces := #[]
  cf := some (fileOf pool3 8 #[] #[] 1537 35 #[] #[])
  fields := #[]
  methods := #[]
  instanceTypes := #[]
  staticTypes := #[]
  resolved := Array.replicate 62 none
  statics := none }

def pool4 : Array CpInfo := pool [(10, .class_ 12), (1, u "java/util/Collection"), (47, .class_ 61), (0, u "java/lang/Object"), (0, .class_ 63), (0, u "java/lang/Iterable")] 51

/-- java/util/Collection -/
def k4 : Class := { plain "java/util/Collection" (some 0) with
  accessFlags := 1537
  interfaces := #[3]
  cf := some (fileOf pool4 10 #[] #[] 1537 60 #[62] #[])
  fields := #[]
  methods := #[]
  instanceTypes := #[]
  staticTypes := #[]
  resolved := Array.replicate 115 none
  statics := none }

def pool5 : Array CpInfo := pool [(1, .methodref 2 3), (0, .class_ 4), (0, .nameAndType 5 6), (0, u "java/lang/Object"), (0, u "<init>"), (0, u "()V"), (1, .class_ 10), (1, u "java/util/AbstractCollection"), (66, .class_ 78), (0, u "java/util/Collection")] 81

def k5c0 : Code := { maxStack := 1, maxLocals := 1, code := jdk_22_method_1_code, exceptionTable := #[], attributes := #[] }
def k5m0 : Method := { name := "<init>", desc := "()V", sig := { parameters := [], returnType := none }, accessFlags := 4, code := some k5c0 }
/-- java/util/AbstractCollection -/
def k5 : Class := { plain "java/util/AbstractCollection" (some 0) with
  accessFlags := 1057
  interfaces := #[4]
  cf := some (fileOf pool5 8 #[] #[{ accessFlags := 4, nameIndex := 5, descriptorIndex := 6, attributes := #[] }] 1057 2 #[77] #[])
  fields := #[]
  methods := #[k5m0]
  instanceTypes := #[]
  staticTypes := #[]
  resolved := Array.replicate 160 none
  statics := none }

def pool6 : Array CpInfo := pool [(8, .class_ 10), (1, u "java/util/SequencedCollection"), (15, .class_ 27), (0, u "java/lang/Object"), (0, .class_ 29), (0, u "java/util/Collection")] 27

/-- java/util/SequencedCollection -/
def k6 : Class := { plain "java/util/SequencedCollection" (some 0) with
  accessFlags := 1537
  interfaces := #[4]
  cf := some (fileOf pool6 8 #[] #[] 1537 26 #[28] #[])
  fields := #[]
  methods := #[]
  instanceTypes := #[]
  staticTypes := #[]
  resolved := Array.replicate 57 none
  statics := none }

def pool7 : Array CpInfo := pool [(8, .class_ 10), (1, u "java/util/List"), (92, .class_ 104), (0, u "java/lang/Object"), (15, .class_ 121), (0, u "java/util/SequencedCollection")] 129

/-- java/util/List -/
def k7 : Class := { plain "java/util/List" (some 0) with
  accessFlags := 1537
  interfaces := #[6]
  cf := some (fileOf pool7 8 #[] #[] 1537 103 #[120] #[])
  fields := #[]
  methods := #[]
  instanceTypes := #[]
  staticTypes := #[]
  resolved := Array.replicate 251 none
  statics := none }

def pool8 : Array CpInfo := pool [(1, .methodref 2 3), (0, .class_ 4), (0, .nameAndType 5 6), (0, u "java/util/AbstractCollection"), (0, u "<init>"), (0, u "()V"), (0, .fieldref 8 9), (0, .class_ 10), (0, .nameAndType 11 12), (0, u "java/util/AbstractList"), (0, u "modCount"), (0, u "I"), (64, .class_ 78), (0, u "java/util/AbstractList$Itr"), (3, .class_ 83), (0, u "java/util/AbstractList$ListItr"), (9, .class_ 94), (0, u "java/util/AbstractList$RandomAccessSubList"), (3, .class_ 99), (0, u "java/util/AbstractList$SubList"), (33, .class_ 134), (0, u "java/util/List"), (73, .class_ 209), (0, u "java/util/AbstractList$SubList$1"), (0, .class_ 211), (0, u "java/util/AbstractList$RandomAccessSpliterator")] 6

def k8c0 : Code := { maxStack := 2, maxLocals := 1, code := jdk_39_method_1_code, exceptionTable := #[], attributes := #[] }
def k8m0 : Method := { name := "<init>", desc := "()V", sig := { parameters := [], returnType := none }, accessFlags := 4, code := some k8c0 }
/-- java/util/AbstractList -/
def k8 : Class := { plain "java/util/AbstractList" (some 5) with
  accessFlags := 1057
  interfaces := #[7]
  cf := some (fileOf pool8 8 #[.nestMembers #[93, 98, 208, 210, 82, 77]] #[{ accessFlags := 4, nameIndex := 5, descriptorIndex := 6, attributes := #[] }] 1057 2 #[133] #[{ accessFlags := 132, nameIndex := 11, descriptorIndex := 12, attributes := #[] }])
  fields := #[{ name := "modCount", type := .int, accessFlags := 132, slot := 0, constantValue := 0 }]
  methods := #[k8m0]
  instanceTypes := #[.int]
  staticTypes := #[]
  resolved := Array.replicate 218 none
  statics := none }

def pool9 : Array CpInfo := pool [(1, .class_ 2), (0, u "java/util/RandomAccess"), (0, .class_ 4), (0, u "java/lang/Object")] 2

/-- java/util/RandomAccess -/
def k9 : Class := { plain "java/util/RandomAccess" (some 0) with
  accessFlags := 1537
  interfaces := #[]
  cf := some (fileOf pool9 1 #[] #[] 1537 3 #[] #[])
  fields := #[]
  methods := #[]
  instanceTypes := #[]
  staticTypes := #[]
  resolved := Array.replicate 7 none
  statics := none }

def pool10 : Array CpInfo := pool [(1, .class_ 2), (0, u "java/lang/Cloneable"), (0, .class_ 4), (0, u "java/lang/Object")] 2

/-- java/lang/Cloneable -/
def k10 : Class := { plain "java/lang/Cloneable" (some 0) with
  accessFlags := 1537
  interfaces := #[]
  cf := some (fileOf pool10 1 #[] #[] 1537 3 #[] #[])
  fields := #[]
  methods := #[]
  instanceTypes := #[]
  staticTypes := #[]
  resolved := Array.replicate 7 none
  statics := none }

def pool11 : Array CpInfo := pool [(1, .class_ 2), (0, u "java/io/Serializable"), (0, .class_ 4), (0, u "java/lang/Object")] 2

/-- java/io/Serializable -/
def k11 : Class := { plain "java/io/Serializable" (some 0) with
  accessFlags := 1537
  interfaces := #[]
  cf := some (fileOf pool11 1 #[] #[] 1537 3 #[] #[])
  fields := #[]
  methods := #[]
  instanceTypes := #[]
  staticTypes := #[]
  resolved := Array.replicate 7 none
  statics := none }

def pool12 : Array CpInfo := pool [(1, .methodref 2 3), (0, .class_ 4), (0, .nameAndType 5 6), (0, u "java/util/AbstractList"), (0, u "<init>"), (0, u "()V"), (2, .fieldref 10 11), (0, .class_ 12), (0, .nameAndType 13 14), (0, u "java/util/ArrayList"), (0, u "elementData"), (0, u "[Ljava/lang/Object;"), (2, u "EMPTY_ELEMENTDATA"), (21, .fieldref 10 40), (0, .nameAndType 41 14), (0, u "DEFAULTCAPACITY_EMPTY_ELEMENTDATA"), (8, u "size"), (0, u "I"), (96, .class_ 149), (0, u "java/util/List"), (112, .class_ 263), (0, u "java/util/ArrayList$ListItr"), (3, .class_ 268), (0, u "java/util/ArrayList$Itr"), (7, .class_ 277), (0, u "java/util/ArrayList$SubList"), (12, .class_ 291), (0, u "java/util/ArrayList$ArrayListSpliterator"), (37, .class_ 330), (0, u "java/util/RandomAccess"), (0, .class_ 332), (0, u "java/lang/Cloneable"), (0, .class_ 334), (0, u "java/io/Serializable"), (0, u "serialVersionUID"), (0, u "J"), (3, u "DEFAULT_CAPACITY"), (159, .class_ 501), (0, u "java/util/ArrayList$SubList$2"), (0, .class_ 503), (0, u "java/util/ArrayList$SubList$1")] 5

def k12c0 : Code := { maxStack := 2, maxLocals := 1, code := jdk_38_method_2_code, exceptionTable := #[], attributes := #[] }
def k12m0 : Method := { name := "<init>", desc := "()V", sig := { parameters := [], returnType := none }, accessFlags := 1, code := some k12c0 }
/-- java/util/ArrayList -/
def k12 : Class := { plain "java/util/ArrayList" (some 8) with
  accessFlags := 33
  interfaces := #[7, 9, 10, 11]
  cf := some (fileOf pool12 10 #[.nestMembers #[290, 276, 500, 502, 262, 267]] #[{ accessFlags := 1, nameIndex := 5, descriptorIndex := 6, attributes := #[] }] 33 2 #[148, 329, 331, 333] #[{ accessFlags := 26, nameIndex := 335, descriptorIndex := 336, attributes := #[] }, { accessFlags := 26, nameIndex := 340, descriptorIndex := 51, attributes := #[] }, { accessFlags := 26, nameIndex := 17, descriptorIndex := 14, attributes := #[] }, { accessFlags := 26, nameIndex := 41, descriptorIndex := 14, attributes := #[] }, { accessFlags := 128, nameIndex := 13, descriptorIndex := 14, attributes := #[] }, { accessFlags := 2, nameIndex := 50, descriptorIndex := 51, attributes := #[] }])
  fields := #[{ name := "serialVersionUID", type := .long, accessFlags := 26, slot := 0, constantValue := 0 }, { name := "DEFAULT_CAPACITY", type := .int, accessFlags := 26, slot := 1, constantValue := 0 }, { name := "EMPTY_ELEMENTDATA", type := (.array (.object "java/lang/Object")), accessFlags := 26, slot := 2, constantValue := 0 }, { name := "DEFAULTCAPACITY_EMPTY_ELEMENTDATA", type := (.array (.object "java/lang/Object")), accessFlags := 26, slot := 3, constantValue := 0 }, { name := "elementData", type := (.array (.object "java/lang/Object")), accessFlags := 128, slot := 1, constantValue := 0 }, { name := "size", type := .int, accessFlags := 2, slot := 2, constantValue := 0 }]
  methods := #[k12m0]
  instanceTypes := #[.int, (.array (.object "java/lang/Object")), .int]
  staticTypes := #[.long, .int, (.array (.object "java/lang/Object")), (.array (.object "java/lang/Object"))]
  resolved := Array.replicate 509 none
  statics := some 0 }

/-- the primitive byte -/
def k13 : Class := { plain "byte" none with kind := .primitive 'B', accessFlags := 0x411 }
/-- [B -/
def k14 : Class := { plain "[B" (some 0) with kind := .array 13 .byte, interfaces := #[10, 11], accessFlags := 1041 }

/-- [Ljava/lang/Object; -/
def k15 : Class := { plain "[Ljava/lang/Object;" (some 0) with kind := .array 0 (.object "java/lang/Object"), interfaces := #[10, 11], accessFlags := 1041 }

def heap : Heap := #[{ cls := 12, slots := #[.long 0, .int 0, .ref 1, .ref 2], vm := .statics 12 },
  { cls := 15, slots := #[], vm := .none },
  { cls := 15, slots := #[], vm := .none }]
def classes : Array Class := #[k0, k1, k2, k3, k4, k5, k6, k7, k8, k9, k10, k11, k12, k13, k14, k15]
def interned : List (Array UInt16 × Addr) := []
def slotsUsed : Nat := 4
def theMethod : MethodId := ⟨1, 1⟩
def args0 : Array Value := #[.int 5]
def aboutOver (below : List Frame) : State where
  vm := { classes := classes, interned := interned.toArray }
  heap := heap
  slotsUsed := slotsUsed
  threads := #[{ frames := .invoking theMethod args0 :: below }]
def below0 : List Frame := [.native { method := ⟨0, 0⟩, args := #[] }]
def about1 : State := aboutOver below0
def p0 : Program := .bare "" "" ""
def e0 : Env := launch0.env 0 0 0
theorem w_frames : about1.frames = Frame.invoking theMethod args0 :: below0 := rfl
set_option maxRecDepth 65536 in
theorem w_args : argsFit about1.vm theMethod args0 = true := by decide +kernel
set_option maxRecDepth 65536 in
theorem w_heap : heapFits about1 = true := by decide +kernel
set_option maxRecDepth 65536 in
theorem w_runnable : about1.curStatus? = some .runnable := by decide +kernel
set_option maxRecDepth 65536 in
theorem w_alone : about1.alone = true := by decide +kernel
set_option maxRecDepth 65536 in
theorem w_named : about1.methodNamed? x = some theMethod := by decide +kernel
set_option maxRecDepth 65536 in
theorem w_hears : about1.hears theMethod below0 = true := by decide +kernel
set_option maxRecDepth 65536 in
theorem w_ripe : about1.ripe theMethod args0 below0 = true := by decide +kernel
theorem w_running : about1.status = .running := rfl
set_option maxRecDepth 65536 in
theorem w_room : about1.hasRoom e0.platform room_1 = true :=
  launch0.hasRoom_least _ room_1 (by decide +kernel) (by decide +kernel) (by decide +kernel) (by decide +kernel) (by decide +kernel) (by decide +kernel)
theorem allAtoms_all (ts : List Jvm.Cond) (a : Array Jvm.Value) (st : Jvm.State) : (allAtoms ts).before a st = ts.all (fun c => c.before a st) := by
  induction ts with
  | nil => rfl
  | cons c t ih =>
    show (Jvm.Cond.and c (allAtoms t)).before a st = _
    rw [Jvm.Cond.before_and, ih, List.all_cons]
def words1 : List Jvm.Cond := Jvm.Cond.code x code maxLocals ret :: tables_1
/-- a 'code' word, met by the world's own term for the bytes: nothing is compared byte by byte -/
theorem code_word {y : MethodName} {bytes : ByteArray} {mx : Nat} {rt : Option FieldType} {a : Array Value} {s : State} {m : MethodId} {meth : Method} {c : Code} (h1 : s.methodNamed? y = some m) (h2 : s.vm.method? m = some meth) (h3 : meth.code = some c) (h4 : c.code = bytes)
    (h5 : (c.maxLocals == mx && c.exceptionTable.isEmpty && decide (c.maxStack ≤ mostOperands) && decide (meth.sig.returnType = rt) && !meth.locks && decide (parseMethodDescriptor y.desc = some meth.sig)) = true) : (Jvm.Cond.code y bytes mx rt).before a s = true := by
  simp only [Bool.and_eq_true, beq_iff_eq, Bool.not_eq_true', decide_eq_true_eq] at h5
  obtain ⟨⟨⟨⟨⟨g1, g2⟩, g3⟩, g4⟩, g5⟩, g6⟩ := h5
  simp [Cond.before, Cond.holds, Cond.value, h1, h2, h3, h4, g1, g2, g3, g4, g5, g6]
def isCode : Jvm.Cond → Bool
  | .code _ _ _ _ => true
  | _ => false
theorem all_split {L : List Jvm.Cond} {P : Jvm.Cond → Bool} (h1 : L.all (fun c => isCode c || P c) = true) (h2 : ∀ c ∈ L.filter isCode, P c = true) : L.all P = true := by
  refine List.all_eq_true.mpr fun c hc => ?_
  have h := List.all_eq_true.mp h1 c hc
  rcases Bool.eq_false_or_eq_true (isCode c) with hi | hi
  · exact h2 c (List.mem_filter.mpr ⟨hc, hi⟩)
  · simpa [hi] using h
set_option maxRecDepth 65536 in
theorem w_c0 : (Jvm.Cond.code x code maxLocals ret).before args0 about1 = true := code_word (m := ⟨1, 1⟩) (meth := k1m1) (c := k1c1) (by decide +kernel) rfl rfl rfl (by decide +kernel)
set_option maxRecDepth 65536 in
theorem w_c1 : (Jvm.Cond.code ({ cls := "com/example/arrivals_to_bounds/arrivalstobounds/LinearProgram", name := "<init>", desc := "()V" } : Jvm.MethodName) prog_27_method_1_code (1 : Nat) (Option.none : Option Jvm.ClassFile.FieldType)).before args0 about1 = true := code_word (m := ⟨2, 0⟩) (meth := k2m0) (c := k2c0) (by decide +kernel) rfl rfl rfl (by decide +kernel)
set_option maxRecDepth 65536 in
theorem w_c2 : (Jvm.Cond.code ({ cls := "java/lang/Object", name := "<init>", desc := "()V" } : Jvm.MethodName) object_method_1_code (1 : Nat) (Option.none : Option Jvm.ClassFile.FieldType)).before args0 about1 = true := code_word (m := ⟨0, 0⟩) (meth := k0m0) (c := k0c0) (by decide +kernel) rfl rfl rfl (by decide +kernel)
set_option maxRecDepth 65536 in
theorem w_c3 : (Jvm.Cond.code ({ cls := "java/util/ArrayList", name := "<init>", desc := "()V" } : Jvm.MethodName) jdk_38_method_2_code (1 : Nat) (Option.none : Option Jvm.ClassFile.FieldType)).before args0 about1 = true := code_word (m := ⟨12, 0⟩) (meth := k12m0) (c := k12c0) (by decide +kernel) rfl rfl rfl (by decide +kernel)
set_option maxRecDepth 65536 in
theorem w_c4 : (Jvm.Cond.code ({ cls := "java/util/AbstractList", name := "<init>", desc := "()V" } : Jvm.MethodName) jdk_39_method_1_code (1 : Nat) (Option.none : Option Jvm.ClassFile.FieldType)).before args0 about1 = true := code_word (m := ⟨8, 0⟩) (meth := k8m0) (c := k8c0) (by decide +kernel) rfl rfl rfl (by decide +kernel)
set_option maxRecDepth 65536 in
theorem w_c5 : (Jvm.Cond.code ({ cls := "java/util/AbstractCollection", name := "<init>", desc := "()V" } : Jvm.MethodName) jdk_22_method_1_code (1 : Nat) (Option.none : Option Jvm.ClassFile.FieldType)).before args0 about1 = true := code_word (m := ⟨5, 0⟩) (meth := k5m0) (c := k5c0) (by decide +kernel) rfl rfl rfl (by decide +kernel)
set_option maxRecDepth 65536 in
theorem w_c6 : (Jvm.Cond.code ({ cls := "com/example/arrivals_to_bounds/arrivalstobounds/LinearProgram", name := "variable", desc := "()I" } : Jvm.MethodName) prog_27_method_2_code (1 : Nat) (Option.some Jvm.ClassFile.FieldType.int)).before args0 about1 = true := code_word (m := ⟨2, 1⟩) (meth := k2m1) (c := k2c1) (by decide +kernel) rfl rfl rfl (by decide +kernel)
def codes1 : List Jvm.Cond := [Jvm.Cond.code x code maxLocals ret, Jvm.Cond.code ({ cls := "com/example/arrivals_to_bounds/arrivalstobounds/LinearProgram", name := "<init>", desc := "()V" } : Jvm.MethodName) prog_27_method_1_code (1 : Nat) (Option.none : Option Jvm.ClassFile.FieldType), Jvm.Cond.code ({ cls := "java/lang/Object", name := "<init>", desc := "()V" } : Jvm.MethodName) object_method_1_code (1 : Nat) (Option.none : Option Jvm.ClassFile.FieldType), Jvm.Cond.code ({ cls := "java/util/ArrayList", name := "<init>", desc := "()V" } : Jvm.MethodName) jdk_38_method_2_code (1 : Nat) (Option.none : Option Jvm.ClassFile.FieldType), Jvm.Cond.code ({ cls := "java/util/AbstractList", name := "<init>", desc := "()V" } : Jvm.MethodName) jdk_39_method_1_code (1 : Nat) (Option.none : Option Jvm.ClassFile.FieldType), Jvm.Cond.code ({ cls := "java/util/AbstractCollection", name := "<init>", desc := "()V" } : Jvm.MethodName) jdk_22_method_1_code (1 : Nat) (Option.none : Option Jvm.ClassFile.FieldType), Jvm.Cond.code ({ cls := "com/example/arrivals_to_bounds/arrivalstobounds/LinearProgram", name := "variable", desc := "()I" } : Jvm.MethodName) prog_27_method_2_code (1 : Nat) (Option.some Jvm.ClassFile.FieldType.int)]
set_option maxRecDepth 65536 in
theorem codes_eq : words1.filter isCode = codes1 := rfl
theorem w_codes : ∀ c ∈ words1.filter isCode, c.before args0 about1 = true := by
  rw [codes_eq]
  intro c hc
  simp only [codes1, List.mem_cons, List.not_mem_nil, or_false] at hc
  rcases hc with rfl | rfl | rfl | rfl | rfl | rfl | rfl
  · exact w_c0
  · exact w_c1
  · exact w_c2
  · exact w_c3
  · exact w_c4
  · exact w_c5
  · exact w_c6
set_option maxRecDepth 65536 in
theorem w_t1 : (words1.take 24).all (fun c => isCode c || c.before args0 about1) = true := by decide +kernel
set_option maxRecDepth 65536 in
theorem w_t2 : (words1.drop 24).all (fun c => isCode c || c.before args0 about1) = true := by decide +kernel
theorem w_tables : (allAtoms (Jvm.Cond.code x code maxLocals ret :: tables_1)).before args0 about1 = true := by
  rw [allAtoms_all]
  show words1.all (fun c => c.before args0 about1) = true
  refine all_split ?_ w_codes
  rw [← List.take_append_drop 24 words1, List.all_append, w_t1, w_t2]
  rfl
set_option maxRecDepth 65536 in
theorem w_rest : rest_1_c.before args0 about1 = true := by decide +kernel
set_option maxRecDepth 65536 in
theorem w_case : (Jvm.Cond.and given_1 narrow_1).before args0 about1 = true := by decide +kernel
theorem w_applies : (headSpec (Jvm.Cond.code x code maxLocals ret :: tables_1) room_1).applies x e0.platform about1 = true :=
  (Spec.applies_iff w_frames).mpr ⟨w_running, w_runnable, w_alone, w_named, w_hears, w_ripe, w_room, w_tables⟩
theorem atStart : AtStart classFile x code maxLocals ret World_1 tables_1 room_1 Calls_1 rest_1 Pre_1 launch0 p0 e0 about1 theMethod args0 below0 :=
  ⟨lists_1, trivial, launch0.admits_env _ _ _, launch0.least_env, fairChoices_fair.cas, fairChoices_fair.clock, w_frames, w_args, w_heap, w_applies, trivial, w_rest, w_case⟩
end start1
theorem witness_1 : WitnessClaimed_1 := ⟨start1.p0, start1.e0, start1.about1, start1.theMethod, start1.args0, start1.below0, start1.atStart⟩
end Jvm.Pilot.@@N@@
