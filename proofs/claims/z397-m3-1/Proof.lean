import JvmDerived
import JvmDerived.Pilot.@@N@@Statement
import JvmDerived.Pilot.@@N@@Code
set_option linter.unusedVariables false
set_option linter.unusedSimpArgs false
namespace Jvm.RoadKit
open Sem ClassFile Op Lib Jvm.Stand Jvm.Free Jvm.LawKit
section New
variable {p : Program} {l : Launch} {e : Env} {R : Room} {s : State} {m : MethodId} {args : Array Value} {below : List Frame} {meth : Method} {c : Code} {T : State} {locs : List Loc} {cells slots : Nat}
theorem retI (X : Stand p l e R s m args below meth c T locs cells slots) (hx : p.tables.exec = Jvm.exec) {pc : Nat} {Ls : Array Slot} {z : Int32} {rest : List Value} (hret : meth.sig.returnType = some .int) (hd : decode c.code pc = .ok (.ireturn, 1)) {fs : List Frame}
    (hl : ∀ (f : JFrame) (acts : List Action), f.method = m → f.locked = none → f.entered = [] → (doReturn e (T.setTop f) acts (some (.int z))).1 = T.setFrames fs) : Steps p.tables e below (T.setTop (mkF m pc Ls (.int z :: rest))) (T.setFrames fs) := by
  have hm' : T.vm.method? m = some meth := X.method'
  have hn : narrow .int (.int z) = .int z := rfl
  show Steps p.tables e below (T.setTop { method := m, pc := pc, locals := Ls, stack := _ :: rest, locked := none }) _
  jvm_step X.here [X.here.top, hx, hd, hm', hret, hn]
  first | (intro acts; rw [hl _ acts rfl rfl rfl]) | rw [hl _ _ rfl rfl rfl]
  exact Steps.refl _
end New
end Jvm.RoadKit
namespace Jvm.Pilot.@@N@@
open Jvm Jvm.ClassFile Sem Op Lib Jvm.Free Jvm.Stand Jvm.LawKit Jvm.RoadKit Bundle Jvm.Pilot.@@N@@.Jvm.D
/-! ## the plain part -/
def own_holds (ra sv ft et : Int64) : Int32 := if lcmpW ra 0 = 0 then (if lcmpW sv 0 = 0 then (if lcmpW ft et = 0 then 1 else 0) else 0) else 0
def own_ex (ra sv ft et : Int64) : Int32 := if lcmpW ((ra ||| sv) ||| (ft ^^^ et)) 0 = 0 then 1 else 0
theorem own_or (x y : Int64) : x ||| y = 0 ↔ x = 0 ∧ y = 0 := by
  constructor
  · intro h
    have q : x.toBitVec ||| y.toBitVec = 0#64 := by rw [← Int64.toBitVec_or, h]; rfl
    have h1 : x.toBitVec = 0#64 := by
      ext i hi
      have := congrArg (fun z => z.getLsbD i) q
      simp at this ⊢
      exact this.1
    have h2 : y.toBitVec = 0#64 := by
      ext i hi
      have := congrArg (fun z => z.getLsbD i) q
      simp at this ⊢
      exact this.2
    exact ⟨Int64.toBitVec_inj.mp h1, Int64.toBitVec_inj.mp h2⟩
  · rintro ⟨rfl, rfl⟩; rfl
theorem own_xor (x y : Int64) : x ^^^ y = 0 ↔ x = y := by
  constructor
  · intro h
    have q : x.toBitVec ^^^ y.toBitVec = 0#64 := by rw [← Int64.toBitVec_xor, h]; rfl
    apply Int64.toBitVec_inj.mp
    apply BitVec.eq_of_getLsbD_eq
    intro i hi
    have := congrArg (fun z => z.getLsbD i) q
    simp at this
    exact this
  · rintro rfl; apply Int64.toBitVec_inj.mp; rw [Int64.toBitVec_xor]; simp
theorem own_law (ra sv ft et : Int64) : own_holds ra sv ft et = own_ex ra sv ft et := by
  unfold own_holds own_ex
  simp only [lw_eq, own_or, own_xor]
  by_cases h1 : ra = 0 <;> by_cases h2 : sv = 0 <;> by_cases h3 : ft = et <;> simp [h1, h2, h3]
theorem own_holds_nar (ra sv ft et : Int64) : nar .boolean (own_holds ra sv ft et) = own_holds ra sv ft et := by unfold own_holds; (repeat' split) <;> rfl

theorem d2_0 : decode jdk_30_method_1_code 0 = .ok (.aload_n 0, 1) := by decide +kernel
theorem d2_1 : decode jdk_30_method_1_code 1 = .ok (.invokespecial 1, 3) := by decide +kernel
theorem d2_4 : decode jdk_30_method_1_code 4 = .ok (.return_, 1) := by decide +kernel
def QRec (Z : State) (a : Addr) (h0 : Heap) (n0 : Nat) (v : Option Value) (h : Heap) (L : List Loc) : Prop := v = none ∧ Fr n0 L ∧ h = h0
theorem pn_2 : plainName "java/lang/Record" = true := by first | (simp [plainName, overriddenIn]; done) | decide +kernel
theorem ef_2 (m : MethodId) (x0 : Addr) : entryFrame m #[(.ref x0)] 1 = mkF m 0 #[.val (.ref x0)] [] := by first | (simp [entryFrame, mkF, argsToLocals, Value.category]; done) | rfl
set_option maxRecDepth 65536 in
set_option maxHeartbeats 40000000 in
theorem rmRec (l : Launch) (Z : State) (a0 : Array Value) (hw : ∀ d ∈ tables_1, d.before a0 Z = true) (ws : List Jvm.Cond) (a : Addr) (h0 : Heap) (n0 : Nat) (Z0 : n0 ≤ h0.size)  :
    MetFree l (⟨"java/lang/Record", "<init>", "()V"⟩ : MethodName) (head1 (Jvm.Cond.code (⟨"java/lang/Record", "<init>", "()V"⟩ : MethodName) jdk_30_method_1_code 1 none :: ws) ({ frames := 1, cells := 0, slots := 0, locals := 12 } : Room)) (fun as_ U => as_ = #[(.ref a)] ∧ Z.Warmed39 U.vm ∧ U.heap = h0) (fun _ _ _ _ _ => True) (fun _ U o U' => ∃ v L, o = .returned v ∧ QRec Z a h0 n0 v U'.heap L ∧ FrameEnd U o U' L ({ frames := 1, cells := 0, slots := 0, locals := 12 } : Room).cells ({ frames := 1, cells := 0, slots := 0, locals := 12 } : Room).slots) := by
  refine MetFree.of_bodySF (plainFor_of_name pn_2) hisR ?_
  intro p e s m args below meth c s₁ Bd hml0 hP hK
  obtain ⟨rfl, hZ, hh⟩ := hP
  have hx := Bd.exec
  have hby := Bd.bytes
  have hml : c.maxLocals = 1 := hml0
  have hown : s.vm.findClass "java/lang/Record" = some m.cls := findClass_of_methodNamed Bd.named
  have hnm := (name_of_methodNamed Bd.named Bd.method).1
  have X0 : Stand p l e ({ frames := 1, cells := 0, slots := 0, locals := 12 } : Room) s m #[(.ref a)] below meth c s₁ [] 0 0 := Stand.of_body Bd
  have e0 : s₁.heap = h0 := by rw [← hh, Bd.state]; rfl
  have N0 := Fr.nil n0
  have pre0 : ∀ t, Steps p.tables e below (s₁.setTop (mkF m 0 #[.val (.ref a)] [])) t → Steps p.tables e below (s₁.setTop (entryFrame m #[(.ref a)] 1)) t := fun t k => castTop (ef_2 m a) k
  obtain ⟨T_1, X_1, e_1, st_1⟩ := initO X0 hx hZ hown (hw _ (List.mem_of_getElem? (i := 12) rfl)) (hw _ (List.mem_of_getElem? (i := 13) rfl)) (hw _ (List.mem_of_getElem? (i := 14) rfl)) e0 (g := (mkF m 1 #[.val (.ref a)] [(.ref a)])) rfl (by rw [hml]; rfl) rfl (hb hby d2_1) (by decide) (W := 0) (by show 2 * 0 + _ ≤ _; exact Nat.le_of_eq rfl) (by decide)
  obtain ⟨fs, hr, hrun, hended, hW, hsame⟩ := X_1.leave (v := none) (fun _ => rfl)
  refine ⟨_, _, pre0 _ ?_, hrun, hended, _, _, rfl, ?_, ⟨_, rfl⟩, hW, hsame.mono (by decide) (by decide)⟩
  · show Steps p.tables e below (s₁.setTop (mkF m 0 #[.val (.ref a)] [])) _
    refine XS.aloadN X0.here hx rfl (hb hby d2_0) rfl rfl ?_
    show Steps p.tables e below (s₁.setTop (mkF m 1 #[.val (.ref a)] [(.ref a)])) _
    refine st_1 _ ?_
    show Steps p.tables e below (T_1.setTop (mkF m 4 #[.val (.ref a)] [])) _
    exact X_1.returnOut hx Bd.returns (hb hby d2_4) hr
  · show QRec Z a h0 n0 _ T_1.heap _
    rw [e_1]
    exact ⟨rfl, N0, rfl⟩
theorem d1_0 : decode prog_3_method_1_code 0 = .ok (.aload_n 0, 1) := by decide +kernel
theorem pd_0 : parseMethodDescriptor "()V" = some ⟨[], none⟩ := by decide +kernel
theorem d1_1 : decode prog_3_method_1_code 1 = .ok (.invokespecial 1, 3) := by decide +kernel
theorem d1_4 : decode prog_3_method_1_code 4 = .ok (.aload_n 0, 1) := by decide +kernel
theorem d1_5 : decode prog_3_method_1_code 5 = .ok (.lload_n 1, 1) := by decide +kernel
theorem d1_6 : decode prog_3_method_1_code 6 = .ok (.putfield 7, 3) := by decide +kernel
theorem d1_9 : decode prog_3_method_1_code 9 = .ok (.aload_n 0, 1) := by decide +kernel
theorem d1_10 : decode prog_3_method_1_code 10 = .ok (.lload_n 3, 1) := by decide +kernel
theorem d1_11 : decode prog_3_method_1_code 11 = .ok (.putfield 13, 3) := by decide +kernel
theorem d1_14 : decode prog_3_method_1_code 14 = .ok (.aload_n 0, 1) := by decide +kernel
theorem d1_15 : decode prog_3_method_1_code 15 = .ok (.lload 5, 2) := by decide +kernel
theorem d1_17 : decode prog_3_method_1_code 17 = .ok (.putfield 16, 3) := by decide +kernel
theorem d1_20 : decode prog_3_method_1_code 20 = .ok (.aload_n 0, 1) := by decide +kernel
theorem d1_21 : decode prog_3_method_1_code 21 = .ok (.lload 7, 2) := by decide +kernel
theorem d1_23 : decode prog_3_method_1_code 23 = .ok (.putfield 19, 3) := by decide +kernel
theorem d1_26 : decode prog_3_method_1_code 26 = .ok (.aload_n 0, 1) := by decide +kernel
theorem d1_27 : decode prog_3_method_1_code 27 = .ok (.lload 9, 2) := by decide +kernel
theorem d1_29 : decode prog_3_method_1_code 29 = .ok (.putfield 22, 3) := by decide +kernel
theorem d1_32 : decode prog_3_method_1_code 32 = .ok (.aload_n 0, 1) := by decide +kernel
theorem d1_33 : decode prog_3_method_1_code 33 = .ok (.lload 11, 2) := by decide +kernel
theorem d1_35 : decode prog_3_method_1_code 35 = .ok (.putfield 25, 3) := by decide +kernel
theorem d1_38 : decode prog_3_method_1_code 38 = .ok (.aload_n 0, 1) := by decide +kernel
theorem d1_39 : decode prog_3_method_1_code 39 = .ok (.lload 13, 2) := by decide +kernel
theorem d1_41 : decode prog_3_method_1_code 41 = .ok (.putfield 28, 3) := by decide +kernel
theorem d1_44 : decode prog_3_method_1_code 44 = .ok (.aload_n 0, 1) := by decide +kernel
theorem d1_45 : decode prog_3_method_1_code 45 = .ok (.lload 15, 2) := by decide +kernel
theorem d1_47 : decode prog_3_method_1_code 47 = .ok (.putfield 31, 3) := by decide +kernel
theorem d1_50 : decode prog_3_method_1_code 50 = .ok (.return_, 1) := by decide +kernel
def Q1 (Z : State) (a : Addr) (q0 : Int64) (q1 : Int64) (q2 : Int64) (q3 : Int64) (q4 : Int64) (q5 : Int64) (q6 : Int64) (q7 : Int64) (h0 : Heap) (n0 : Nat) (v : Option Value) (h : Heap) (L : List Loc) : Prop := v = none ∧ Fr n0 L ∧ Keep h0 h [a] ∧ Fld Z h a "com/example/tideglass/tideglass/bench/BankWorkload$Result" "readonlyAborted" "J" (.long q4) ∧ Fld Z h a "com/example/tideglass/tideglass/bench/BankWorkload$Result" "snapshotSumViolations" "J" (.long q5) ∧ Fld Z h a "com/example/tideglass/tideglass/bench/BankWorkload$Result" "finalTotal" "J" (.long q6) ∧ Fld Z h a "com/example/tideglass/tideglass/bench/BankWorkload$Result" "expectedTotal" "J" (.long q7)
theorem pn_1 : plainName "com/example/tideglass/tideglass/bench/BankWorkload$Result" = true := by first | (simp [plainName, overriddenIn]; done) | decide +kernel
theorem ef_1 (m : MethodId) (x0 : Addr) (x1 : Int64) (x2 : Int64) (x3 : Int64) (x4 : Int64) (x5 : Int64) (x6 : Int64) (x7 : Int64) (x8 : Int64) : entryFrame m #[(.ref x0), (.long x1), (.long x2), (.long x3), (.long x4), (.long x5), (.long x6), (.long x7), (.long x8)] 17 = mkF m 0 #[.val (.ref x0), .val (.long x1), .second, .val (.long x2), .second, .val (.long x3), .second, .val (.long x4), .second, .val (.long x5), .second, .val (.long x6), .second, .val (.long x7), .second, .val (.long x8), .second] [] := by first | (simp [entryFrame, mkF, argsToLocals, Value.category]; done) | rfl
set_option maxRecDepth 65536 in
set_option maxHeartbeats 40000000 in
theorem rm1 (l : Launch) (Z : State) (a0 : Array Value) (hw : ∀ d ∈ tables_1, d.before a0 Z = true) (ws : List Jvm.Cond) (a : Addr) (q0 : Int64) (q1 : Int64) (q2 : Int64) (q3 : Int64) (q4 : Int64) (q5 : Int64) (q6 : Int64) (q7 : Int64) (h0 : Heap) (n0 : Nat) (Z0 : n0 ≤ h0.size) (E_a : Exa Z h0 a "com/example/tideglass/tideglass/bench/BankWorkload$Result") (F_committedTransfers : Fld Z h0 a "com/example/tideglass/tideglass/bench/BankWorkload$Result" "committedTransfers" "J" (.long (0 : Int64))) (F_crossPartitionTransfers : Fld Z h0 a "com/example/tideglass/tideglass/bench/BankWorkload$Result" "crossPartitionTransfers" "J" (.long (0 : Int64))) (F_abortedTransfers : Fld Z h0 a "com/example/tideglass/tideglass/bench/BankWorkload$Result" "abortedTransfers" "J" (.long (0 : Int64))) (F_readonlyCommitted : Fld Z h0 a "com/example/tideglass/tideglass/bench/BankWorkload$Result" "readonlyCommitted" "J" (.long (0 : Int64))) (F_readonlyAborted : Fld Z h0 a "com/example/tideglass/tideglass/bench/BankWorkload$Result" "readonlyAborted" "J" (.long (0 : Int64))) (F_snapshotSumViolations : Fld Z h0 a "com/example/tideglass/tideglass/bench/BankWorkload$Result" "snapshotSumViolations" "J" (.long (0 : Int64))) (F_finalTotal : Fld Z h0 a "com/example/tideglass/tideglass/bench/BankWorkload$Result" "finalTotal" "J" (.long (0 : Int64))) (F_expectedTotal : Fld Z h0 a "com/example/tideglass/tideglass/bench/BankWorkload$Result" "expectedTotal" "J" (.long (0 : Int64))) (g_a : n0 ≤ a) :
    MetFree l (⟨"com/example/tideglass/tideglass/bench/BankWorkload$Result", "<init>", "(JJJJJJJJ)V"⟩ : MethodName) (head1 (Jvm.Cond.code (⟨"com/example/tideglass/tideglass/bench/BankWorkload$Result", "<init>", "(JJJJJJJJ)V"⟩ : MethodName) prog_3_method_1_code 17 none :: ws) ({ frames := 2, cells := 0, slots := 0, locals := 24 } : Room)) (fun as_ U => as_ = #[(.ref a), (.long q0), (.long q1), (.long q2), (.long q3), (.long q4), (.long q5), (.long q6), (.long q7)] ∧ Z.Warmed39 U.vm ∧ U.heap = h0) (fun _ _ _ _ _ => True) (fun _ U o U' => ∃ v L, o = .returned v ∧ Q1 Z a q0 q1 q2 q3 q4 q5 q6 q7 h0 n0 v U'.heap L ∧ FrameEnd U o U' L ({ frames := 2, cells := 0, slots := 0, locals := 24 } : Room).cells ({ frames := 2, cells := 0, slots := 0, locals := 24 } : Room).slots) := by
  refine MetFree.of_bodySF (plainFor_of_name pn_1) hisR ?_
  intro p e s m args below meth c s₁ Bd hml0 hP hK
  obtain ⟨rfl, hZ, hh⟩ := hP
  have hx := Bd.exec
  have hby := Bd.bytes
  have hml : c.maxLocals = 17 := hml0
  have hown : s.vm.findClass "com/example/tideglass/tideglass/bench/BankWorkload$Result" = some m.cls := findClass_of_methodNamed Bd.named
  have hnm := (name_of_methodNamed Bd.named Bd.method).1
  have X0 : Stand p l e ({ frames := 2, cells := 0, slots := 0, locals := 24 } : Room) s m #[(.ref a), (.long q0), (.long q1), (.long q2), (.long q3), (.long q4), (.long q5), (.long q6), (.long q7)] below meth c s₁ [] 0 0 := Stand.of_body Bd
  have e0 : s₁.heap = h0 := by rw [← hh, Bd.state]; rfl
  have N0 := Fr.nil n0
  have pre0 : ∀ t, Steps p.tables e below (s₁.setTop (mkF m 0 #[.val (.ref a), .val (.long q0), .second, .val (.long q1), .second, .val (.long q2), .second, .val (.long q3), .second, .val (.long q4), .second, .val (.long q5), .second, .val (.long q6), .second, .val (.long q7), .second] [])) t → Steps p.tables e below (s₁.setTop (entryFrame m #[(.ref a), (.long q0), (.long q1), (.long q2), (.long q3), (.long q4), (.long q5), (.long q6), (.long q7)] 17)) t := fun t k => castTop (ef_1 m a q0 q1 q2 q3 q4 q5 q6 q7) k
  obtain ⟨_, _, ⟨T_1, L_1, k_1, n_1⟩, -, X_1, ⟨Lc_1, hQ_1, l_1, y_1, z_1⟩, st_1⟩ := X0.specialBack hx (y := (⟨"java/lang/Record", "<init>", "()V"⟩ : MethodName)) rfl hown (mvT hZ (hw _ (List.mem_of_getElem? (i := 7) rfl))) (mvT hZ (hw _ (List.mem_of_getElem? (i := 8) rfl))) (mvT hZ (hw _ (List.mem_of_getElem? (i := 11) rfl))) (by decide) (backOf (W := 0) (rmRec l Z a0 hw [] a h0 n0 Z0 ) hZ (hw _ (List.mem_of_getElem? (i := 11) rfl)) (hw _ (List.mem_of_getElem? (i := 10) rfl)) (by decide) (by decide)) (g := (mkF m 1 #[.val (.ref a), .val (.long q0), .second, .val (.long q1), .second, .val (.long q2), .second, .val (.long q3), .second, .val (.long q4), .second, .val (.long q5), .second, .val (.long q6), .second, .val (.long q7), .second] [(.ref a)])) rfl (by rw [hml]; rfl) (Steps.refl _) (a := a) (argsL := []) (rest := []) (lenOf pd_0 rfl) rfl (by show 2 * 0 + _ ≤ _; exact Nat.le_of_eq rfl) (hb hby d1_1) (fun _ _ => ⟨rfl, e0, (by decide : 0 + 0 ≤ _), (by decide : 0 + 0 ≤ _)⟩)
  dsimp only [Pt.U, Pt.locs, Pt.cells, Pt.slots] at X_1 l_1 y_1 z_1 st_1 hQ_1
  subst l_1 y_1 z_1
  obtain ⟨rfl, Nq_1, eq_1⟩ := hQ_1
  have N_1 := Fr.app N0 Nq_1
  obtain ⟨T_2, h_2, X_2, e_2, W_2, st_2⟩ := putF X_1 hx hZ hown (host := "") (Or.inl (hw _ (List.mem_of_getElem? (i := 15) rfl))) Via.refl eq_1 F_committedTransfers E_a (Or.inr ⟨(hw _ (List.mem_of_getElem? (i := 16) rfl)), rfl, hnm⟩) (hw _ (List.mem_of_getElem? (i := 1) rfl)) (ty := .long) (by decide) rfl rfl (g := (mkF m 6 #[.val (.ref a), .val (.long q0), .second, .val (.long q1), .second, .val (.long q2), .second, .val (.long q3), .second, .val (.long q4), .second, .val (.long q5), .second, .val (.long q6), .second, .val (.long q7), .second] [(.long q0), (.ref a)])) rfl rfl (hb hby d1_6)
  have Fw_2 := F_committedTransfers.same W_2
  have K_2 : Keep h0 h_2 [a] := (Keep.refl h0 [a]).wr W_2 (Or.inl (List.mem_of_getElem? (i := 0) rfl))
  have N_2 := Fr.snoc X_2 N_1 g_a
  have Z_3 : n0 ≤ h_2.size := Nat.le_trans Z0 (Keep.of_wr W_2).1
  have f_4_E_a := (E_a.wr W_2)
  have f_5_F_a_crossPartitionTransfers := (F_crossPartitionTransfers.other W_2 (Or.inr (slot_ne (Or.inr (hw _ (List.mem_of_getElem? (i := 18) rfl))) (Or.inr (hw _ (List.mem_of_getElem? (i := 16) rfl))) (by decide) (t := .long) (t' := .long) (by decide) (by decide))))
  obtain ⟨T_6, h_6, X_6, e_6, W_6, st_6⟩ := putF X_2 hx hZ hown (host := "") (Or.inl (hw _ (List.mem_of_getElem? (i := 17) rfl))) Via.refl e_2 f_5_F_a_crossPartitionTransfers f_4_E_a (Or.inr ⟨(hw _ (List.mem_of_getElem? (i := 18) rfl)), rfl, hnm⟩) (hw _ (List.mem_of_getElem? (i := 1) rfl)) (ty := .long) (by decide) rfl rfl (g := (mkF m 11 #[.val (.ref a), .val (.long q0), .second, .val (.long q1), .second, .val (.long q2), .second, .val (.long q3), .second, .val (.long q4), .second, .val (.long q5), .second, .val (.long q6), .second, .val (.long q7), .second] [(.long q1), (.ref a)])) rfl rfl (hb hby d1_11)
  have Fw_6 := f_5_F_a_crossPartitionTransfers.same W_6
  have K_6 : Keep h0 h_6 [a] := K_2.wr W_6 (Or.inl (List.mem_of_getElem? (i := 0) rfl))
  have N_6 := Fr.snoc X_6 N_2 g_a
  have Z_7 : n0 ≤ h_6.size := Nat.le_trans Z_3 (Keep.of_wr W_6).1
  have f_8_E_a := (f_4_E_a.wr W_6)
  have f_9_F_a_abortedTransfers := ((F_abortedTransfers.other W_2 (Or.inr (slot_ne (Or.inr (hw _ (List.mem_of_getElem? (i := 20) rfl))) (Or.inr (hw _ (List.mem_of_getElem? (i := 16) rfl))) (by decide) (t := .long) (t' := .long) (by decide) (by decide)))).other W_6 (Or.inr (slot_ne (Or.inr (hw _ (List.mem_of_getElem? (i := 20) rfl))) (Or.inr (hw _ (List.mem_of_getElem? (i := 18) rfl))) (by decide) (t := .long) (t' := .long) (by decide) (by decide))))
  obtain ⟨T_10, h_10, X_10, e_10, W_10, st_10⟩ := putF X_6 hx hZ hown (host := "") (Or.inl (hw _ (List.mem_of_getElem? (i := 19) rfl))) Via.refl e_6 f_9_F_a_abortedTransfers f_8_E_a (Or.inr ⟨(hw _ (List.mem_of_getElem? (i := 20) rfl)), rfl, hnm⟩) (hw _ (List.mem_of_getElem? (i := 1) rfl)) (ty := .long) (by decide) rfl rfl (g := (mkF m 17 #[.val (.ref a), .val (.long q0), .second, .val (.long q1), .second, .val (.long q2), .second, .val (.long q3), .second, .val (.long q4), .second, .val (.long q5), .second, .val (.long q6), .second, .val (.long q7), .second] [(.long q2), (.ref a)])) rfl rfl (hb hby d1_17)
  have Fw_10 := f_9_F_a_abortedTransfers.same W_10
  have K_10 : Keep h0 h_10 [a] := K_6.wr W_10 (Or.inl (List.mem_of_getElem? (i := 0) rfl))
  have N_10 := Fr.snoc X_10 N_6 g_a
  have Z_11 : n0 ≤ h_10.size := Nat.le_trans Z_7 (Keep.of_wr W_10).1
  have f_12_E_a := (f_8_E_a.wr W_10)
  have f_13_F_a_readonlyCommitted := (((F_readonlyCommitted.other W_2 (Or.inr (slot_ne (Or.inr (hw _ (List.mem_of_getElem? (i := 22) rfl))) (Or.inr (hw _ (List.mem_of_getElem? (i := 16) rfl))) (by decide) (t := .long) (t' := .long) (by decide) (by decide)))).other W_6 (Or.inr (slot_ne (Or.inr (hw _ (List.mem_of_getElem? (i := 22) rfl))) (Or.inr (hw _ (List.mem_of_getElem? (i := 18) rfl))) (by decide) (t := .long) (t' := .long) (by decide) (by decide)))).other W_10 (Or.inr (slot_ne (Or.inr (hw _ (List.mem_of_getElem? (i := 22) rfl))) (Or.inr (hw _ (List.mem_of_getElem? (i := 20) rfl))) (by decide) (t := .long) (t' := .long) (by decide) (by decide))))
  obtain ⟨T_14, h_14, X_14, e_14, W_14, st_14⟩ := putF X_10 hx hZ hown (host := "") (Or.inl (hw _ (List.mem_of_getElem? (i := 21) rfl))) Via.refl e_10 f_13_F_a_readonlyCommitted f_12_E_a (Or.inr ⟨(hw _ (List.mem_of_getElem? (i := 22) rfl)), rfl, hnm⟩) (hw _ (List.mem_of_getElem? (i := 1) rfl)) (ty := .long) (by decide) rfl rfl (g := (mkF m 23 #[.val (.ref a), .val (.long q0), .second, .val (.long q1), .second, .val (.long q2), .second, .val (.long q3), .second, .val (.long q4), .second, .val (.long q5), .second, .val (.long q6), .second, .val (.long q7), .second] [(.long q3), (.ref a)])) rfl rfl (hb hby d1_23)
  have Fw_14 := f_13_F_a_readonlyCommitted.same W_14
  have K_14 : Keep h0 h_14 [a] := K_10.wr W_14 (Or.inl (List.mem_of_getElem? (i := 0) rfl))
  have N_14 := Fr.snoc X_14 N_10 g_a
  have Z_15 : n0 ≤ h_14.size := Nat.le_trans Z_11 (Keep.of_wr W_14).1
  have f_16_E_a := (f_12_E_a.wr W_14)
  have f_17_F_a_readonlyAborted := ((((F_readonlyAborted.other W_2 (Or.inr (slot_ne (Or.inr (hw _ (List.mem_of_getElem? (i := 24) rfl))) (Or.inr (hw _ (List.mem_of_getElem? (i := 16) rfl))) (by decide) (t := .long) (t' := .long) (by decide) (by decide)))).other W_6 (Or.inr (slot_ne (Or.inr (hw _ (List.mem_of_getElem? (i := 24) rfl))) (Or.inr (hw _ (List.mem_of_getElem? (i := 18) rfl))) (by decide) (t := .long) (t' := .long) (by decide) (by decide)))).other W_10 (Or.inr (slot_ne (Or.inr (hw _ (List.mem_of_getElem? (i := 24) rfl))) (Or.inr (hw _ (List.mem_of_getElem? (i := 20) rfl))) (by decide) (t := .long) (t' := .long) (by decide) (by decide)))).other W_14 (Or.inr (slot_ne (Or.inr (hw _ (List.mem_of_getElem? (i := 24) rfl))) (Or.inr (hw _ (List.mem_of_getElem? (i := 22) rfl))) (by decide) (t := .long) (t' := .long) (by decide) (by decide))))
  obtain ⟨T_18, h_18, X_18, e_18, W_18, st_18⟩ := putF X_14 hx hZ hown (host := "") (Or.inl (hw _ (List.mem_of_getElem? (i := 23) rfl))) Via.refl e_14 f_17_F_a_readonlyAborted f_16_E_a (Or.inr ⟨(hw _ (List.mem_of_getElem? (i := 24) rfl)), rfl, hnm⟩) (hw _ (List.mem_of_getElem? (i := 1) rfl)) (ty := .long) (by decide) rfl rfl (g := (mkF m 29 #[.val (.ref a), .val (.long q0), .second, .val (.long q1), .second, .val (.long q2), .second, .val (.long q3), .second, .val (.long q4), .second, .val (.long q5), .second, .val (.long q6), .second, .val (.long q7), .second] [(.long q4), (.ref a)])) rfl rfl (hb hby d1_29)
  have Fw_18 := f_17_F_a_readonlyAborted.same W_18
  have K_18 : Keep h0 h_18 [a] := K_14.wr W_18 (Or.inl (List.mem_of_getElem? (i := 0) rfl))
  have N_18 := Fr.snoc X_18 N_14 g_a
  have Z_19 : n0 ≤ h_18.size := Nat.le_trans Z_15 (Keep.of_wr W_18).1
  have f_20_E_a := (f_16_E_a.wr W_18)
  have f_21_F_a_snapshotSumViolations := (((((F_snapshotSumViolations.other W_2 (Or.inr (slot_ne (Or.inr (hw _ (List.mem_of_getElem? (i := 26) rfl))) (Or.inr (hw _ (List.mem_of_getElem? (i := 16) rfl))) (by decide) (t := .long) (t' := .long) (by decide) (by decide)))).other W_6 (Or.inr (slot_ne (Or.inr (hw _ (List.mem_of_getElem? (i := 26) rfl))) (Or.inr (hw _ (List.mem_of_getElem? (i := 18) rfl))) (by decide) (t := .long) (t' := .long) (by decide) (by decide)))).other W_10 (Or.inr (slot_ne (Or.inr (hw _ (List.mem_of_getElem? (i := 26) rfl))) (Or.inr (hw _ (List.mem_of_getElem? (i := 20) rfl))) (by decide) (t := .long) (t' := .long) (by decide) (by decide)))).other W_14 (Or.inr (slot_ne (Or.inr (hw _ (List.mem_of_getElem? (i := 26) rfl))) (Or.inr (hw _ (List.mem_of_getElem? (i := 22) rfl))) (by decide) (t := .long) (t' := .long) (by decide) (by decide)))).other W_18 (Or.inr (slot_ne (Or.inr (hw _ (List.mem_of_getElem? (i := 26) rfl))) (Or.inr (hw _ (List.mem_of_getElem? (i := 24) rfl))) (by decide) (t := .long) (t' := .long) (by decide) (by decide))))
  obtain ⟨T_22, h_22, X_22, e_22, W_22, st_22⟩ := putF X_18 hx hZ hown (host := "") (Or.inl (hw _ (List.mem_of_getElem? (i := 25) rfl))) Via.refl e_18 f_21_F_a_snapshotSumViolations f_20_E_a (Or.inr ⟨(hw _ (List.mem_of_getElem? (i := 26) rfl)), rfl, hnm⟩) (hw _ (List.mem_of_getElem? (i := 1) rfl)) (ty := .long) (by decide) rfl rfl (g := (mkF m 35 #[.val (.ref a), .val (.long q0), .second, .val (.long q1), .second, .val (.long q2), .second, .val (.long q3), .second, .val (.long q4), .second, .val (.long q5), .second, .val (.long q6), .second, .val (.long q7), .second] [(.long q5), (.ref a)])) rfl rfl (hb hby d1_35)
  have Fw_22 := f_21_F_a_snapshotSumViolations.same W_22
  have K_22 : Keep h0 h_22 [a] := K_18.wr W_22 (Or.inl (List.mem_of_getElem? (i := 0) rfl))
  have N_22 := Fr.snoc X_22 N_18 g_a
  have Z_23 : n0 ≤ h_22.size := Nat.le_trans Z_19 (Keep.of_wr W_22).1
  have f_24_E_a := (f_20_E_a.wr W_22)
  have f_25_F_a_finalTotal := ((((((F_finalTotal.other W_2 (Or.inr (slot_ne (Or.inr (hw _ (List.mem_of_getElem? (i := 28) rfl))) (Or.inr (hw _ (List.mem_of_getElem? (i := 16) rfl))) (by decide) (t := .long) (t' := .long) (by decide) (by decide)))).other W_6 (Or.inr (slot_ne (Or.inr (hw _ (List.mem_of_getElem? (i := 28) rfl))) (Or.inr (hw _ (List.mem_of_getElem? (i := 18) rfl))) (by decide) (t := .long) (t' := .long) (by decide) (by decide)))).other W_10 (Or.inr (slot_ne (Or.inr (hw _ (List.mem_of_getElem? (i := 28) rfl))) (Or.inr (hw _ (List.mem_of_getElem? (i := 20) rfl))) (by decide) (t := .long) (t' := .long) (by decide) (by decide)))).other W_14 (Or.inr (slot_ne (Or.inr (hw _ (List.mem_of_getElem? (i := 28) rfl))) (Or.inr (hw _ (List.mem_of_getElem? (i := 22) rfl))) (by decide) (t := .long) (t' := .long) (by decide) (by decide)))).other W_18 (Or.inr (slot_ne (Or.inr (hw _ (List.mem_of_getElem? (i := 28) rfl))) (Or.inr (hw _ (List.mem_of_getElem? (i := 24) rfl))) (by decide) (t := .long) (t' := .long) (by decide) (by decide)))).other W_22 (Or.inr (slot_ne (Or.inr (hw _ (List.mem_of_getElem? (i := 28) rfl))) (Or.inr (hw _ (List.mem_of_getElem? (i := 26) rfl))) (by decide) (t := .long) (t' := .long) (by decide) (by decide))))
  obtain ⟨T_26, h_26, X_26, e_26, W_26, st_26⟩ := putF X_22 hx hZ hown (host := "") (Or.inl (hw _ (List.mem_of_getElem? (i := 27) rfl))) Via.refl e_22 f_25_F_a_finalTotal f_24_E_a (Or.inr ⟨(hw _ (List.mem_of_getElem? (i := 28) rfl)), rfl, hnm⟩) (hw _ (List.mem_of_getElem? (i := 1) rfl)) (ty := .long) (by decide) rfl rfl (g := (mkF m 41 #[.val (.ref a), .val (.long q0), .second, .val (.long q1), .second, .val (.long q2), .second, .val (.long q3), .second, .val (.long q4), .second, .val (.long q5), .second, .val (.long q6), .second, .val (.long q7), .second] [(.long q6), (.ref a)])) rfl rfl (hb hby d1_41)
  have Fw_26 := f_25_F_a_finalTotal.same W_26
  have K_26 : Keep h0 h_26 [a] := K_22.wr W_26 (Or.inl (List.mem_of_getElem? (i := 0) rfl))
  have N_26 := Fr.snoc X_26 N_22 g_a
  have Z_27 : n0 ≤ h_26.size := Nat.le_trans Z_23 (Keep.of_wr W_26).1
  have f_28_E_a := (f_24_E_a.wr W_26)
  have f_29_F_a_expectedTotal := (((((((F_expectedTotal.other W_2 (Or.inr (slot_ne (Or.inr (hw _ (List.mem_of_getElem? (i := 30) rfl))) (Or.inr (hw _ (List.mem_of_getElem? (i := 16) rfl))) (by decide) (t := .long) (t' := .long) (by decide) (by decide)))).other W_6 (Or.inr (slot_ne (Or.inr (hw _ (List.mem_of_getElem? (i := 30) rfl))) (Or.inr (hw _ (List.mem_of_getElem? (i := 18) rfl))) (by decide) (t := .long) (t' := .long) (by decide) (by decide)))).other W_10 (Or.inr (slot_ne (Or.inr (hw _ (List.mem_of_getElem? (i := 30) rfl))) (Or.inr (hw _ (List.mem_of_getElem? (i := 20) rfl))) (by decide) (t := .long) (t' := .long) (by decide) (by decide)))).other W_14 (Or.inr (slot_ne (Or.inr (hw _ (List.mem_of_getElem? (i := 30) rfl))) (Or.inr (hw _ (List.mem_of_getElem? (i := 22) rfl))) (by decide) (t := .long) (t' := .long) (by decide) (by decide)))).other W_18 (Or.inr (slot_ne (Or.inr (hw _ (List.mem_of_getElem? (i := 30) rfl))) (Or.inr (hw _ (List.mem_of_getElem? (i := 24) rfl))) (by decide) (t := .long) (t' := .long) (by decide) (by decide)))).other W_22 (Or.inr (slot_ne (Or.inr (hw _ (List.mem_of_getElem? (i := 30) rfl))) (Or.inr (hw _ (List.mem_of_getElem? (i := 26) rfl))) (by decide) (t := .long) (t' := .long) (by decide) (by decide)))).other W_26 (Or.inr (slot_ne (Or.inr (hw _ (List.mem_of_getElem? (i := 30) rfl))) (Or.inr (hw _ (List.mem_of_getElem? (i := 28) rfl))) (by decide) (t := .long) (t' := .long) (by decide) (by decide))))
  obtain ⟨T_30, h_30, X_30, e_30, W_30, st_30⟩ := putF X_26 hx hZ hown (host := "") (Or.inl (hw _ (List.mem_of_getElem? (i := 29) rfl))) Via.refl e_26 f_29_F_a_expectedTotal f_28_E_a (Or.inr ⟨(hw _ (List.mem_of_getElem? (i := 30) rfl)), rfl, hnm⟩) (hw _ (List.mem_of_getElem? (i := 1) rfl)) (ty := .long) (by decide) rfl rfl (g := (mkF m 47 #[.val (.ref a), .val (.long q0), .second, .val (.long q1), .second, .val (.long q2), .second, .val (.long q3), .second, .val (.long q4), .second, .val (.long q5), .second, .val (.long q6), .second, .val (.long q7), .second] [(.long q7), (.ref a)])) rfl rfl (hb hby d1_47)
  have Fw_30 := f_29_F_a_expectedTotal.same W_30
  have K_30 : Keep h0 h_30 [a] := K_26.wr W_30 (Or.inl (List.mem_of_getElem? (i := 0) rfl))
  have N_30 := Fr.snoc X_30 N_26 g_a
  have Z_31 : n0 ≤ h_30.size := Nat.le_trans Z_27 (Keep.of_wr W_30).1
  have f_32_F_a_readonlyAborted := (((Fw_18.other W_22 (Or.inr (slot_ne (Or.inr (hw _ (List.mem_of_getElem? (i := 24) rfl))) (Or.inr (hw _ (List.mem_of_getElem? (i := 26) rfl))) (by decide) (t := .long) (t' := .long) (by decide) (by decide)))).other W_26 (Or.inr (slot_ne (Or.inr (hw _ (List.mem_of_getElem? (i := 24) rfl))) (Or.inr (hw _ (List.mem_of_getElem? (i := 28) rfl))) (by decide) (t := .long) (t' := .long) (by decide) (by decide)))).other W_30 (Or.inr (slot_ne (Or.inr (hw _ (List.mem_of_getElem? (i := 24) rfl))) (Or.inr (hw _ (List.mem_of_getElem? (i := 30) rfl))) (by decide) (t := .long) (t' := .long) (by decide) (by decide))))
  have f_33_F_a_snapshotSumViolations := ((Fw_22.other W_26 (Or.inr (slot_ne (Or.inr (hw _ (List.mem_of_getElem? (i := 26) rfl))) (Or.inr (hw _ (List.mem_of_getElem? (i := 28) rfl))) (by decide) (t := .long) (t' := .long) (by decide) (by decide)))).other W_30 (Or.inr (slot_ne (Or.inr (hw _ (List.mem_of_getElem? (i := 26) rfl))) (Or.inr (hw _ (List.mem_of_getElem? (i := 30) rfl))) (by decide) (t := .long) (t' := .long) (by decide) (by decide))))
  have f_34_F_a_finalTotal := (Fw_26.other W_30 (Or.inr (slot_ne (Or.inr (hw _ (List.mem_of_getElem? (i := 28) rfl))) (Or.inr (hw _ (List.mem_of_getElem? (i := 30) rfl))) (by decide) (t := .long) (t' := .long) (by decide) (by decide))))
  obtain ⟨fs, hr, hrun, hended, hW, hsame⟩ := X_30.leave (v := none) (fun _ => rfl)
  refine ⟨_, _, pre0 _ ?_, hrun, hended, _, _, rfl, ?_, ⟨_, rfl⟩, hW, hsame.mono (by decide) (by decide)⟩
  · show Steps p.tables e below (s₁.setTop (mkF m 0 #[.val (.ref a), .val (.long q0), .second, .val (.long q1), .second, .val (.long q2), .second, .val (.long q3), .second, .val (.long q4), .second, .val (.long q5), .second, .val (.long q6), .second, .val (.long q7), .second] [])) _
    refine XS.aloadN X0.here hx rfl (hb hby d1_0) rfl rfl ?_
    show Steps p.tables e below (s₁.setTop (mkF m 1 #[.val (.ref a), .val (.long q0), .second, .val (.long q1), .second, .val (.long q2), .second, .val (.long q3), .second, .val (.long q4), .second, .val (.long q5), .second, .val (.long q6), .second, .val (.long q7), .second] [(.ref a)])) _
    refine st_1.trans ?_
    show Steps p.tables e below (T_1.setTop (mkF m 4 #[.val (.ref a), .val (.long q0), .second, .val (.long q1), .second, .val (.long q2), .second, .val (.long q3), .second, .val (.long q4), .second, .val (.long q5), .second, .val (.long q6), .second, .val (.long q7), .second] [])) _
    refine XS.aloadN X_1.here hx rfl (hb hby d1_4) rfl rfl ?_
    show Steps p.tables e below (T_1.setTop (mkF m 5 #[.val (.ref a), .val (.long q0), .second, .val (.long q1), .second, .val (.long q2), .second, .val (.long q3), .second, .val (.long q4), .second, .val (.long q5), .second, .val (.long q6), .second, .val (.long q7), .second] [(.ref a)])) _
    refine XS.lloadN X_1.here hx rfl (hb hby d1_5) rfl ?_
    show Steps p.tables e below (T_1.setTop (mkF m 6 #[.val (.ref a), .val (.long q0), .second, .val (.long q1), .second, .val (.long q2), .second, .val (.long q3), .second, .val (.long q4), .second, .val (.long q5), .second, .val (.long q6), .second, .val (.long q7), .second] [(.long q0), (.ref a)])) _
    refine st_2 _ ?_
    show Steps p.tables e below (T_2.setTop (mkF m 9 #[.val (.ref a), .val (.long q0), .second, .val (.long q1), .second, .val (.long q2), .second, .val (.long q3), .second, .val (.long q4), .second, .val (.long q5), .second, .val (.long q6), .second, .val (.long q7), .second] [])) _
    refine XS.aloadN X_2.here hx rfl (hb hby d1_9) rfl rfl ?_
    show Steps p.tables e below (T_2.setTop (mkF m 10 #[.val (.ref a), .val (.long q0), .second, .val (.long q1), .second, .val (.long q2), .second, .val (.long q3), .second, .val (.long q4), .second, .val (.long q5), .second, .val (.long q6), .second, .val (.long q7), .second] [(.ref a)])) _
    refine XS.lloadN X_2.here hx rfl (hb hby d1_10) rfl ?_
    show Steps p.tables e below (T_2.setTop (mkF m 11 #[.val (.ref a), .val (.long q0), .second, .val (.long q1), .second, .val (.long q2), .second, .val (.long q3), .second, .val (.long q4), .second, .val (.long q5), .second, .val (.long q6), .second, .val (.long q7), .second] [(.long q1), (.ref a)])) _
    refine st_6 _ ?_
    show Steps p.tables e below (T_6.setTop (mkF m 14 #[.val (.ref a), .val (.long q0), .second, .val (.long q1), .second, .val (.long q2), .second, .val (.long q3), .second, .val (.long q4), .second, .val (.long q5), .second, .val (.long q6), .second, .val (.long q7), .second] [])) _
    refine XS.aloadN X_6.here hx rfl (hb hby d1_14) rfl rfl ?_
    show Steps p.tables e below (T_6.setTop (mkF m 15 #[.val (.ref a), .val (.long q0), .second, .val (.long q1), .second, .val (.long q2), .second, .val (.long q3), .second, .val (.long q4), .second, .val (.long q5), .second, .val (.long q6), .second, .val (.long q7), .second] [(.ref a)])) _
    refine XS.lload X_6.here hx rfl (hb hby d1_15) rfl ?_
    show Steps p.tables e below (T_6.setTop (mkF m 17 #[.val (.ref a), .val (.long q0), .second, .val (.long q1), .second, .val (.long q2), .second, .val (.long q3), .second, .val (.long q4), .second, .val (.long q5), .second, .val (.long q6), .second, .val (.long q7), .second] [(.long q2), (.ref a)])) _
    refine st_10 _ ?_
    show Steps p.tables e below (T_10.setTop (mkF m 20 #[.val (.ref a), .val (.long q0), .second, .val (.long q1), .second, .val (.long q2), .second, .val (.long q3), .second, .val (.long q4), .second, .val (.long q5), .second, .val (.long q6), .second, .val (.long q7), .second] [])) _
    refine XS.aloadN X_10.here hx rfl (hb hby d1_20) rfl rfl ?_
    show Steps p.tables e below (T_10.setTop (mkF m 21 #[.val (.ref a), .val (.long q0), .second, .val (.long q1), .second, .val (.long q2), .second, .val (.long q3), .second, .val (.long q4), .second, .val (.long q5), .second, .val (.long q6), .second, .val (.long q7), .second] [(.ref a)])) _
    refine XS.lload X_10.here hx rfl (hb hby d1_21) rfl ?_
    show Steps p.tables e below (T_10.setTop (mkF m 23 #[.val (.ref a), .val (.long q0), .second, .val (.long q1), .second, .val (.long q2), .second, .val (.long q3), .second, .val (.long q4), .second, .val (.long q5), .second, .val (.long q6), .second, .val (.long q7), .second] [(.long q3), (.ref a)])) _
    refine st_14 _ ?_
    show Steps p.tables e below (T_14.setTop (mkF m 26 #[.val (.ref a), .val (.long q0), .second, .val (.long q1), .second, .val (.long q2), .second, .val (.long q3), .second, .val (.long q4), .second, .val (.long q5), .second, .val (.long q6), .second, .val (.long q7), .second] [])) _
    refine XS.aloadN X_14.here hx rfl (hb hby d1_26) rfl rfl ?_
    show Steps p.tables e below (T_14.setTop (mkF m 27 #[.val (.ref a), .val (.long q0), .second, .val (.long q1), .second, .val (.long q2), .second, .val (.long q3), .second, .val (.long q4), .second, .val (.long q5), .second, .val (.long q6), .second, .val (.long q7), .second] [(.ref a)])) _
    refine XS.lload X_14.here hx rfl (hb hby d1_27) rfl ?_
    show Steps p.tables e below (T_14.setTop (mkF m 29 #[.val (.ref a), .val (.long q0), .second, .val (.long q1), .second, .val (.long q2), .second, .val (.long q3), .second, .val (.long q4), .second, .val (.long q5), .second, .val (.long q6), .second, .val (.long q7), .second] [(.long q4), (.ref a)])) _
    refine st_18 _ ?_
    show Steps p.tables e below (T_18.setTop (mkF m 32 #[.val (.ref a), .val (.long q0), .second, .val (.long q1), .second, .val (.long q2), .second, .val (.long q3), .second, .val (.long q4), .second, .val (.long q5), .second, .val (.long q6), .second, .val (.long q7), .second] [])) _
    refine XS.aloadN X_18.here hx rfl (hb hby d1_32) rfl rfl ?_
    show Steps p.tables e below (T_18.setTop (mkF m 33 #[.val (.ref a), .val (.long q0), .second, .val (.long q1), .second, .val (.long q2), .second, .val (.long q3), .second, .val (.long q4), .second, .val (.long q5), .second, .val (.long q6), .second, .val (.long q7), .second] [(.ref a)])) _
    refine XS.lload X_18.here hx rfl (hb hby d1_33) rfl ?_
    show Steps p.tables e below (T_18.setTop (mkF m 35 #[.val (.ref a), .val (.long q0), .second, .val (.long q1), .second, .val (.long q2), .second, .val (.long q3), .second, .val (.long q4), .second, .val (.long q5), .second, .val (.long q6), .second, .val (.long q7), .second] [(.long q5), (.ref a)])) _
    refine st_22 _ ?_
    show Steps p.tables e below (T_22.setTop (mkF m 38 #[.val (.ref a), .val (.long q0), .second, .val (.long q1), .second, .val (.long q2), .second, .val (.long q3), .second, .val (.long q4), .second, .val (.long q5), .second, .val (.long q6), .second, .val (.long q7), .second] [])) _
    refine XS.aloadN X_22.here hx rfl (hb hby d1_38) rfl rfl ?_
    show Steps p.tables e below (T_22.setTop (mkF m 39 #[.val (.ref a), .val (.long q0), .second, .val (.long q1), .second, .val (.long q2), .second, .val (.long q3), .second, .val (.long q4), .second, .val (.long q5), .second, .val (.long q6), .second, .val (.long q7), .second] [(.ref a)])) _
    refine XS.lload X_22.here hx rfl (hb hby d1_39) rfl ?_
    show Steps p.tables e below (T_22.setTop (mkF m 41 #[.val (.ref a), .val (.long q0), .second, .val (.long q1), .second, .val (.long q2), .second, .val (.long q3), .second, .val (.long q4), .second, .val (.long q5), .second, .val (.long q6), .second, .val (.long q7), .second] [(.long q6), (.ref a)])) _
    refine st_26 _ ?_
    show Steps p.tables e below (T_26.setTop (mkF m 44 #[.val (.ref a), .val (.long q0), .second, .val (.long q1), .second, .val (.long q2), .second, .val (.long q3), .second, .val (.long q4), .second, .val (.long q5), .second, .val (.long q6), .second, .val (.long q7), .second] [])) _
    refine XS.aloadN X_26.here hx rfl (hb hby d1_44) rfl rfl ?_
    show Steps p.tables e below (T_26.setTop (mkF m 45 #[.val (.ref a), .val (.long q0), .second, .val (.long q1), .second, .val (.long q2), .second, .val (.long q3), .second, .val (.long q4), .second, .val (.long q5), .second, .val (.long q6), .second, .val (.long q7), .second] [(.ref a)])) _
    refine XS.lload X_26.here hx rfl (hb hby d1_45) rfl ?_
    show Steps p.tables e below (T_26.setTop (mkF m 47 #[.val (.ref a), .val (.long q0), .second, .val (.long q1), .second, .val (.long q2), .second, .val (.long q3), .second, .val (.long q4), .second, .val (.long q5), .second, .val (.long q6), .second, .val (.long q7), .second] [(.long q7), (.ref a)])) _
    refine st_30 _ ?_
    show Steps p.tables e below (T_30.setTop (mkF m 50 #[.val (.ref a), .val (.long q0), .second, .val (.long q1), .second, .val (.long q2), .second, .val (.long q3), .second, .val (.long q4), .second, .val (.long q5), .second, .val (.long q6), .second, .val (.long q7), .second] [])) _
    exact X_30.returnOut hx Bd.returns (hb hby d1_50) hr
  · show Q1 Z a q0 q1 q2 q3 q4 q5 q6 q7 h0 n0 _ T_30.heap _
    rw [e_30]
    exact ⟨rfl, N_30, K_30, f_32_F_a_readonlyAborted, f_33_F_a_snapshotSumViolations, f_34_F_a_finalTotal, Fw_30⟩
theorem d4_0 : decode prog_3_method_2_code 0 = .ok (.aload_n 0, 1) := by decide +kernel
theorem d4_1 : decode prog_3_method_2_code 1 = .ok (.getfield 22, 3) := by decide +kernel
theorem d4_4 : decode prog_3_method_2_code 4 = .ok (.lconst 0, 1) := by decide +kernel
theorem d4_5 : decode prog_3_method_2_code 5 = .ok (.lcmp, 1) := by decide +kernel
theorem d4_6 : decode prog_3_method_2_code 6 = .ok (.ifCond .ne 28, 3) := by decide +kernel
theorem d4_34 : decode prog_3_method_2_code 34 = .ok (.iconst 0, 1) := by decide +kernel
theorem d4_35 : decode prog_3_method_2_code 35 = .ok (.ireturn, 1) := by decide +kernel
def Q4 (Z : State) (a : Addr) (r : Int32) (h0 : Heap) (n0 : Nat) (v : Option Value) (h : Heap) (L : List Loc) : Prop := v = some (.int r) ∧ Fr n0 L ∧ h = h0
theorem pn_4 : plainName "com/example/tideglass/tideglass/bench/BankWorkload$Result" = true := by first | (simp [plainName, overriddenIn]; done) | decide +kernel
theorem ef_4 (m : MethodId) (x0 : Addr) : entryFrame m #[(.ref x0)] 1 = mkF m 0 #[.val (.ref x0)] [] := by first | (simp [entryFrame, mkF, argsToLocals, Value.category]; done) | rfl
set_option maxRecDepth 65536 in
set_option maxHeartbeats 40000000 in
theorem rm4a (l : Launch) (Z : State) (a0 : Array Value) (hw : ∀ d ∈ tables_1, d.before a0 Z = true) (ws : List Jvm.Cond) (a : Addr) (x4 : Int64) (x5 : Int64) (x6 : Int64) (x7 : Int64) (r : Int32) (h0 : Heap) (n0 : Nat) (Z0 : n0 ≤ h0.size) (F4 : Fld Z h0 a "com/example/tideglass/tideglass/bench/BankWorkload$Result" "readonlyAborted" "J" (.long x4)) (F5 : Fld Z h0 a "com/example/tideglass/tideglass/bench/BankWorkload$Result" "snapshotSumViolations" "J" (.long x5)) (F6 : Fld Z h0 a "com/example/tideglass/tideglass/bench/BankWorkload$Result" "finalTotal" "J" (.long x6)) (F7 : Fld Z h0 a "com/example/tideglass/tideglass/bench/BankWorkload$Result" "expectedTotal" "J" (.long x7)) (hc6 : ¬ ((lcmpW x4 (0 : Int64)) = (0 : Int32))) (hn_ : nar .boolean (0 : Int32) = r) :
    MetFree l (⟨"com/example/tideglass/tideglass/bench/BankWorkload$Result", "holds", "()Z"⟩ : MethodName) (head1 (Jvm.Cond.code (⟨"com/example/tideglass/tideglass/bench/BankWorkload$Result", "holds", "()Z"⟩ : MethodName) prog_3_method_2_code 1 (some .boolean) :: ws) ({ frames := 0, cells := 0, slots := 0, locals := 0 } : Room)) (fun as_ U => as_ = #[(.ref a)] ∧ Z.Warmed39 U.vm ∧ U.heap = h0) (fun _ _ _ _ _ => True) (fun _ U o U' => ∃ v L, o = .returned v ∧ Q4 Z a r h0 n0 v U'.heap L ∧ FrameEnd U o U' L ({ frames := 0, cells := 0, slots := 0, locals := 0 } : Room).cells ({ frames := 0, cells := 0, slots := 0, locals := 0 } : Room).slots) := by
  refine MetFree.of_bodySF (plainFor_of_name pn_4) hisR ?_
  intro p e s m args below meth c s₁ Bd hml0 hP hK
  obtain ⟨rfl, hZ, hh⟩ := hP
  have hx := Bd.exec
  have hby := Bd.bytes
  have hml : c.maxLocals = 1 := hml0
  have hown : s.vm.findClass "com/example/tideglass/tideglass/bench/BankWorkload$Result" = some m.cls := findClass_of_methodNamed Bd.named
  have hnm := (name_of_methodNamed Bd.named Bd.method).1
  have X0 : Stand p l e ({ frames := 0, cells := 0, slots := 0, locals := 0 } : Room) s m #[(.ref a)] below meth c s₁ [] 0 0 := Stand.of_body Bd
  have e0 : s₁.heap = h0 := by rw [← hh, Bd.state]; rfl
  have N0 := Fr.nil n0
  have pre0 : ∀ t, Steps p.tables e below (s₁.setTop (mkF m 0 #[.val (.ref a)] [])) t → Steps p.tables e below (s₁.setTop (entryFrame m #[(.ref a)] 1)) t := fun t k => castTop (ef_4 m a) k
  obtain ⟨T_1, X_1, e_1, st_1⟩ := getF X0 hx hZ hown (host := "") (Or.inl (hw _ (List.mem_of_getElem? (i := 23) rfl))) Via.refl e0 F4 (g := (mkF m 1 #[.val (.ref a)] [(.ref a)])) rfl rfl (hb hby d4_1)
  obtain ⟨fs, hr, hrun, hended, hW, hsame⟩ := X_1.leave (v := some (.int r)) (fun h => by rw [Bd.returns] at h; cases h)
  refine ⟨_, _, pre0 _ ?_, hrun, hended, _, _, rfl, ?_, ⟨_, rfl⟩, hW, hsame.mono (by decide) (by decide)⟩
  · show Steps p.tables e below (s₁.setTop (mkF m 0 #[.val (.ref a)] [])) _
    refine XS.aloadN X0.here hx rfl (hb hby d4_0) rfl rfl ?_
    show Steps p.tables e below (s₁.setTop (mkF m 1 #[.val (.ref a)] [(.ref a)])) _
    refine st_1 _ ?_
    show Steps p.tables e below (T_1.setTop (mkF m 4 #[.val (.ref a)] [(.long x4)])) _
    refine XS.lconst X_1.here hx rfl (hb hby d4_4) ?_
    show Steps p.tables e below (T_1.setTop (mkF m 5 #[.val (.ref a)] [(.long (0 : Int64)), (.long x4)])) _
    refine XS.lcmp X_1.here hx rfl (hb hby d4_5) rfl ?_
    show Steps p.tables e below (T_1.setTop (mkF m 6 #[.val (.ref a)] [(.int (lcmpW x4 (0 : Int64)))])) _
    refine XS.ifYes X_1.here hx rfl (pc0 := 6) (pc' := 34) rfl (hb hby d4_6) rfl ((if0 _ _).trans (feq hc6).2) (by decide) (by decide) ?_
    show Steps p.tables e below (T_1.setTop (mkF m 34 #[.val (.ref a)] [])) _
    refine XS.iconst X_1.here hx rfl (hb hby d4_34) ?_
    show Steps p.tables e below (T_1.setTop (mkF m 35 #[.val (.ref a)] [(.int (0 : Int32))])) _
    exact retN X_1 hx (t := .boolean) Bd.returns (by simp) (hb hby d4_35) (by rw [hn_]; exact hr)
  · show Q4 Z a r h0 n0 _ T_1.heap _
    rw [e_1]
    exact ⟨rfl, N0, rfl⟩
theorem d4_9 : decode prog_3_method_2_code 9 = .ok (.aload_n 0, 1) := by decide +kernel
theorem d4_10 : decode prog_3_method_2_code 10 = .ok (.getfield 25, 3) := by decide +kernel
theorem d4_13 : decode prog_3_method_2_code 13 = .ok (.lconst 0, 1) := by decide +kernel
theorem d4_14 : decode prog_3_method_2_code 14 = .ok (.lcmp, 1) := by decide +kernel
theorem d4_15 : decode prog_3_method_2_code 15 = .ok (.ifCond .ne 19, 3) := by decide +kernel
set_option maxRecDepth 65536 in
set_option maxHeartbeats 40000000 in
theorem rm4b (l : Launch) (Z : State) (a0 : Array Value) (hw : ∀ d ∈ tables_1, d.before a0 Z = true) (ws : List Jvm.Cond) (a : Addr) (x4 : Int64) (x5 : Int64) (x6 : Int64) (x7 : Int64) (r : Int32) (h0 : Heap) (n0 : Nat) (Z0 : n0 ≤ h0.size) (F4 : Fld Z h0 a "com/example/tideglass/tideglass/bench/BankWorkload$Result" "readonlyAborted" "J" (.long x4)) (F5 : Fld Z h0 a "com/example/tideglass/tideglass/bench/BankWorkload$Result" "snapshotSumViolations" "J" (.long x5)) (F6 : Fld Z h0 a "com/example/tideglass/tideglass/bench/BankWorkload$Result" "finalTotal" "J" (.long x6)) (F7 : Fld Z h0 a "com/example/tideglass/tideglass/bench/BankWorkload$Result" "expectedTotal" "J" (.long x7)) (hc6 : (lcmpW x4 (0 : Int64)) = (0 : Int32)) (hc15 : ¬ ((lcmpW x5 (0 : Int64)) = (0 : Int32))) (hn_ : nar .boolean (0 : Int32) = r) :
    MetFree l (⟨"com/example/tideglass/tideglass/bench/BankWorkload$Result", "holds", "()Z"⟩ : MethodName) (head1 (Jvm.Cond.code (⟨"com/example/tideglass/tideglass/bench/BankWorkload$Result", "holds", "()Z"⟩ : MethodName) prog_3_method_2_code 1 (some .boolean) :: ws) ({ frames := 0, cells := 0, slots := 0, locals := 0 } : Room)) (fun as_ U => as_ = #[(.ref a)] ∧ Z.Warmed39 U.vm ∧ U.heap = h0) (fun _ _ _ _ _ => True) (fun _ U o U' => ∃ v L, o = .returned v ∧ Q4 Z a r h0 n0 v U'.heap L ∧ FrameEnd U o U' L ({ frames := 0, cells := 0, slots := 0, locals := 0 } : Room).cells ({ frames := 0, cells := 0, slots := 0, locals := 0 } : Room).slots) := by
  refine MetFree.of_bodySF (plainFor_of_name pn_4) hisR ?_
  intro p e s m args below meth c s₁ Bd hml0 hP hK
  obtain ⟨rfl, hZ, hh⟩ := hP
  have hx := Bd.exec
  have hby := Bd.bytes
  have hml : c.maxLocals = 1 := hml0
  have hown : s.vm.findClass "com/example/tideglass/tideglass/bench/BankWorkload$Result" = some m.cls := findClass_of_methodNamed Bd.named
  have hnm := (name_of_methodNamed Bd.named Bd.method).1
  have X0 : Stand p l e ({ frames := 0, cells := 0, slots := 0, locals := 0 } : Room) s m #[(.ref a)] below meth c s₁ [] 0 0 := Stand.of_body Bd
  have e0 : s₁.heap = h0 := by rw [← hh, Bd.state]; rfl
  have N0 := Fr.nil n0
  have pre0 : ∀ t, Steps p.tables e below (s₁.setTop (mkF m 0 #[.val (.ref a)] [])) t → Steps p.tables e below (s₁.setTop (entryFrame m #[(.ref a)] 1)) t := fun t k => castTop (ef_4 m a) k
  obtain ⟨T_1, X_1, e_1, st_1⟩ := getF X0 hx hZ hown (host := "") (Or.inl (hw _ (List.mem_of_getElem? (i := 23) rfl))) Via.refl e0 F4 (g := (mkF m 1 #[.val (.ref a)] [(.ref a)])) rfl rfl (hb hby d4_1)
  obtain ⟨T_2, X_2, e_2, st_2⟩ := getF X_1 hx hZ hown (host := "") (Or.inl (hw _ (List.mem_of_getElem? (i := 25) rfl))) Via.refl e_1 F5 (g := (mkF m 10 #[.val (.ref a)] [(.ref a)])) rfl rfl (hb hby d4_10)
  obtain ⟨fs, hr, hrun, hended, hW, hsame⟩ := X_2.leave (v := some (.int r)) (fun h => by rw [Bd.returns] at h; cases h)
  refine ⟨_, _, pre0 _ ?_, hrun, hended, _, _, rfl, ?_, ⟨_, rfl⟩, hW, hsame.mono (by decide) (by decide)⟩
  · show Steps p.tables e below (s₁.setTop (mkF m 0 #[.val (.ref a)] [])) _
    refine XS.aloadN X0.here hx rfl (hb hby d4_0) rfl rfl ?_
    show Steps p.tables e below (s₁.setTop (mkF m 1 #[.val (.ref a)] [(.ref a)])) _
    refine st_1 _ ?_
    show Steps p.tables e below (T_1.setTop (mkF m 4 #[.val (.ref a)] [(.long x4)])) _
    refine XS.lconst X_1.here hx rfl (hb hby d4_4) ?_
    show Steps p.tables e below (T_1.setTop (mkF m 5 #[.val (.ref a)] [(.long (0 : Int64)), (.long x4)])) _
    refine XS.lcmp X_1.here hx rfl (hb hby d4_5) rfl ?_
    show Steps p.tables e below (T_1.setTop (mkF m 6 #[.val (.ref a)] [(.int (lcmpW x4 (0 : Int64)))])) _
    refine XS.ifNo X_1.here hx rfl (hb hby d4_6) rfl ((if0 _ _).trans (teq hc6).2) ?_
    show Steps p.tables e below (T_1.setTop (mkF m 9 #[.val (.ref a)] [])) _
    refine XS.aloadN X_1.here hx rfl (hb hby d4_9) rfl rfl ?_
    show Steps p.tables e below (T_1.setTop (mkF m 10 #[.val (.ref a)] [(.ref a)])) _
    refine st_2 _ ?_
    show Steps p.tables e below (T_2.setTop (mkF m 13 #[.val (.ref a)] [(.long x5)])) _
    refine XS.lconst X_2.here hx rfl (hb hby d4_13) ?_
    show Steps p.tables e below (T_2.setTop (mkF m 14 #[.val (.ref a)] [(.long (0 : Int64)), (.long x5)])) _
    refine XS.lcmp X_2.here hx rfl (hb hby d4_14) rfl ?_
    show Steps p.tables e below (T_2.setTop (mkF m 15 #[.val (.ref a)] [(.int (lcmpW x5 (0 : Int64)))])) _
    refine XS.ifYes X_2.here hx rfl (pc0 := 15) (pc' := 34) rfl (hb hby d4_15) rfl ((if0 _ _).trans (feq hc15).2) (by decide) (by decide) ?_
    show Steps p.tables e below (T_2.setTop (mkF m 34 #[.val (.ref a)] [])) _
    refine XS.iconst X_2.here hx rfl (hb hby d4_34) ?_
    show Steps p.tables e below (T_2.setTop (mkF m 35 #[.val (.ref a)] [(.int (0 : Int32))])) _
    exact retN X_2 hx (t := .boolean) Bd.returns (by simp) (hb hby d4_35) (by rw [hn_]; exact hr)
  · show Q4 Z a r h0 n0 _ T_2.heap _
    rw [e_2]
    exact ⟨rfl, N0, rfl⟩
theorem d4_18 : decode prog_3_method_2_code 18 = .ok (.aload_n 0, 1) := by decide +kernel
theorem d4_19 : decode prog_3_method_2_code 19 = .ok (.getfield 28, 3) := by decide +kernel
theorem d4_22 : decode prog_3_method_2_code 22 = .ok (.aload_n 0, 1) := by decide +kernel
theorem d4_23 : decode prog_3_method_2_code 23 = .ok (.getfield 31, 3) := by decide +kernel
theorem d4_26 : decode prog_3_method_2_code 26 = .ok (.lcmp, 1) := by decide +kernel
theorem d4_27 : decode prog_3_method_2_code 27 = .ok (.ifCond .ne 7, 3) := by decide +kernel
set_option maxRecDepth 65536 in
set_option maxHeartbeats 40000000 in
theorem rm4c (l : Launch) (Z : State) (a0 : Array Value) (hw : ∀ d ∈ tables_1, d.before a0 Z = true) (ws : List Jvm.Cond) (a : Addr) (x4 : Int64) (x5 : Int64) (x6 : Int64) (x7 : Int64) (r : Int32) (h0 : Heap) (n0 : Nat) (Z0 : n0 ≤ h0.size) (F4 : Fld Z h0 a "com/example/tideglass/tideglass/bench/BankWorkload$Result" "readonlyAborted" "J" (.long x4)) (F5 : Fld Z h0 a "com/example/tideglass/tideglass/bench/BankWorkload$Result" "snapshotSumViolations" "J" (.long x5)) (F6 : Fld Z h0 a "com/example/tideglass/tideglass/bench/BankWorkload$Result" "finalTotal" "J" (.long x6)) (F7 : Fld Z h0 a "com/example/tideglass/tideglass/bench/BankWorkload$Result" "expectedTotal" "J" (.long x7)) (hc6 : (lcmpW x4 (0 : Int64)) = (0 : Int32)) (hc15 : (lcmpW x5 (0 : Int64)) = (0 : Int32)) (hc27 : ¬ ((lcmpW x6 x7) = (0 : Int32))) (hn_ : nar .boolean (0 : Int32) = r) :
    MetFree l (⟨"com/example/tideglass/tideglass/bench/BankWorkload$Result", "holds", "()Z"⟩ : MethodName) (head1 (Jvm.Cond.code (⟨"com/example/tideglass/tideglass/bench/BankWorkload$Result", "holds", "()Z"⟩ : MethodName) prog_3_method_2_code 1 (some .boolean) :: ws) ({ frames := 0, cells := 0, slots := 0, locals := 0 } : Room)) (fun as_ U => as_ = #[(.ref a)] ∧ Z.Warmed39 U.vm ∧ U.heap = h0) (fun _ _ _ _ _ => True) (fun _ U o U' => ∃ v L, o = .returned v ∧ Q4 Z a r h0 n0 v U'.heap L ∧ FrameEnd U o U' L ({ frames := 0, cells := 0, slots := 0, locals := 0 } : Room).cells ({ frames := 0, cells := 0, slots := 0, locals := 0 } : Room).slots) := by
  refine MetFree.of_bodySF (plainFor_of_name pn_4) hisR ?_
  intro p e s m args below meth c s₁ Bd hml0 hP hK
  obtain ⟨rfl, hZ, hh⟩ := hP
  have hx := Bd.exec
  have hby := Bd.bytes
  have hml : c.maxLocals = 1 := hml0
  have hown : s.vm.findClass "com/example/tideglass/tideglass/bench/BankWorkload$Result" = some m.cls := findClass_of_methodNamed Bd.named
  have hnm := (name_of_methodNamed Bd.named Bd.method).1
  have X0 : Stand p l e ({ frames := 0, cells := 0, slots := 0, locals := 0 } : Room) s m #[(.ref a)] below meth c s₁ [] 0 0 := Stand.of_body Bd
  have e0 : s₁.heap = h0 := by rw [← hh, Bd.state]; rfl
  have N0 := Fr.nil n0
  have pre0 : ∀ t, Steps p.tables e below (s₁.setTop (mkF m 0 #[.val (.ref a)] [])) t → Steps p.tables e below (s₁.setTop (entryFrame m #[(.ref a)] 1)) t := fun t k => castTop (ef_4 m a) k
  obtain ⟨T_1, X_1, e_1, st_1⟩ := getF X0 hx hZ hown (host := "") (Or.inl (hw _ (List.mem_of_getElem? (i := 23) rfl))) Via.refl e0 F4 (g := (mkF m 1 #[.val (.ref a)] [(.ref a)])) rfl rfl (hb hby d4_1)
  obtain ⟨T_2, X_2, e_2, st_2⟩ := getF X_1 hx hZ hown (host := "") (Or.inl (hw _ (List.mem_of_getElem? (i := 25) rfl))) Via.refl e_1 F5 (g := (mkF m 10 #[.val (.ref a)] [(.ref a)])) rfl rfl (hb hby d4_10)
  obtain ⟨T_3, X_3, e_3, st_3⟩ := getF X_2 hx hZ hown (host := "") (Or.inl (hw _ (List.mem_of_getElem? (i := 27) rfl))) Via.refl e_2 F6 (g := (mkF m 19 #[.val (.ref a)] [(.ref a)])) rfl rfl (hb hby d4_19)
  obtain ⟨T_4, X_4, e_4, st_4⟩ := getF X_3 hx hZ hown (host := "") (Or.inl (hw _ (List.mem_of_getElem? (i := 29) rfl))) Via.refl e_3 F7 (g := (mkF m 23 #[.val (.ref a)] [(.ref a), (.long x6)])) rfl rfl (hb hby d4_23)
  obtain ⟨fs, hr, hrun, hended, hW, hsame⟩ := X_4.leave (v := some (.int r)) (fun h => by rw [Bd.returns] at h; cases h)
  refine ⟨_, _, pre0 _ ?_, hrun, hended, _, _, rfl, ?_, ⟨_, rfl⟩, hW, hsame.mono (by decide) (by decide)⟩
  · show Steps p.tables e below (s₁.setTop (mkF m 0 #[.val (.ref a)] [])) _
    refine XS.aloadN X0.here hx rfl (hb hby d4_0) rfl rfl ?_
    show Steps p.tables e below (s₁.setTop (mkF m 1 #[.val (.ref a)] [(.ref a)])) _
    refine st_1 _ ?_
    show Steps p.tables e below (T_1.setTop (mkF m 4 #[.val (.ref a)] [(.long x4)])) _
    refine XS.lconst X_1.here hx rfl (hb hby d4_4) ?_
    show Steps p.tables e below (T_1.setTop (mkF m 5 #[.val (.ref a)] [(.long (0 : Int64)), (.long x4)])) _
    refine XS.lcmp X_1.here hx rfl (hb hby d4_5) rfl ?_
    show Steps p.tables e below (T_1.setTop (mkF m 6 #[.val (.ref a)] [(.int (lcmpW x4 (0 : Int64)))])) _
    refine XS.ifNo X_1.here hx rfl (hb hby d4_6) rfl ((if0 _ _).trans (teq hc6).2) ?_
    show Steps p.tables e below (T_1.setTop (mkF m 9 #[.val (.ref a)] [])) _
    refine XS.aloadN X_1.here hx rfl (hb hby d4_9) rfl rfl ?_
    show Steps p.tables e below (T_1.setTop (mkF m 10 #[.val (.ref a)] [(.ref a)])) _
    refine st_2 _ ?_
    show Steps p.tables e below (T_2.setTop (mkF m 13 #[.val (.ref a)] [(.long x5)])) _
    refine XS.lconst X_2.here hx rfl (hb hby d4_13) ?_
    show Steps p.tables e below (T_2.setTop (mkF m 14 #[.val (.ref a)] [(.long (0 : Int64)), (.long x5)])) _
    refine XS.lcmp X_2.here hx rfl (hb hby d4_14) rfl ?_
    show Steps p.tables e below (T_2.setTop (mkF m 15 #[.val (.ref a)] [(.int (lcmpW x5 (0 : Int64)))])) _
    refine XS.ifNo X_2.here hx rfl (hb hby d4_15) rfl ((if0 _ _).trans (teq hc15).2) ?_
    show Steps p.tables e below (T_2.setTop (mkF m 18 #[.val (.ref a)] [])) _
    refine XS.aloadN X_2.here hx rfl (hb hby d4_18) rfl rfl ?_
    show Steps p.tables e below (T_2.setTop (mkF m 19 #[.val (.ref a)] [(.ref a)])) _
    refine st_3 _ ?_
    show Steps p.tables e below (T_3.setTop (mkF m 22 #[.val (.ref a)] [(.long x6)])) _
    refine XS.aloadN X_3.here hx rfl (hb hby d4_22) rfl rfl ?_
    show Steps p.tables e below (T_3.setTop (mkF m 23 #[.val (.ref a)] [(.ref a), (.long x6)])) _
    refine st_4 _ ?_
    show Steps p.tables e below (T_4.setTop (mkF m 26 #[.val (.ref a)] [(.long x7), (.long x6)])) _
    refine XS.lcmp X_4.here hx rfl (hb hby d4_26) rfl ?_
    show Steps p.tables e below (T_4.setTop (mkF m 27 #[.val (.ref a)] [(.int (lcmpW x6 x7))])) _
    refine XS.ifYes X_4.here hx rfl (pc0 := 27) (pc' := 34) rfl (hb hby d4_27) rfl ((if0 _ _).trans (feq hc27).2) (by decide) (by decide) ?_
    show Steps p.tables e below (T_4.setTop (mkF m 34 #[.val (.ref a)] [])) _
    refine XS.iconst X_4.here hx rfl (hb hby d4_34) ?_
    show Steps p.tables e below (T_4.setTop (mkF m 35 #[.val (.ref a)] [(.int (0 : Int32))])) _
    exact retN X_4 hx (t := .boolean) Bd.returns (by simp) (hb hby d4_35) (by rw [hn_]; exact hr)
  · show Q4 Z a r h0 n0 _ T_4.heap _
    rw [e_4]
    exact ⟨rfl, N0, rfl⟩
theorem d4_30 : decode prog_3_method_2_code 30 = .ok (.iconst 1, 1) := by decide +kernel
theorem d4_31 : decode prog_3_method_2_code 31 = .ok (.goto 4, 3) := by decide +kernel
set_option maxRecDepth 65536 in
set_option maxHeartbeats 40000000 in
theorem rm4d (l : Launch) (Z : State) (a0 : Array Value) (hw : ∀ d ∈ tables_1, d.before a0 Z = true) (ws : List Jvm.Cond) (a : Addr) (x4 : Int64) (x5 : Int64) (x6 : Int64) (x7 : Int64) (r : Int32) (h0 : Heap) (n0 : Nat) (Z0 : n0 ≤ h0.size) (F4 : Fld Z h0 a "com/example/tideglass/tideglass/bench/BankWorkload$Result" "readonlyAborted" "J" (.long x4)) (F5 : Fld Z h0 a "com/example/tideglass/tideglass/bench/BankWorkload$Result" "snapshotSumViolations" "J" (.long x5)) (F6 : Fld Z h0 a "com/example/tideglass/tideglass/bench/BankWorkload$Result" "finalTotal" "J" (.long x6)) (F7 : Fld Z h0 a "com/example/tideglass/tideglass/bench/BankWorkload$Result" "expectedTotal" "J" (.long x7)) (hc6 : (lcmpW x4 (0 : Int64)) = (0 : Int32)) (hc15 : (lcmpW x5 (0 : Int64)) = (0 : Int32)) (hc27 : (lcmpW x6 x7) = (0 : Int32)) (hn_ : nar .boolean (1 : Int32) = r) :
    MetFree l (⟨"com/example/tideglass/tideglass/bench/BankWorkload$Result", "holds", "()Z"⟩ : MethodName) (head1 (Jvm.Cond.code (⟨"com/example/tideglass/tideglass/bench/BankWorkload$Result", "holds", "()Z"⟩ : MethodName) prog_3_method_2_code 1 (some .boolean) :: ws) ({ frames := 0, cells := 0, slots := 0, locals := 0 } : Room)) (fun as_ U => as_ = #[(.ref a)] ∧ Z.Warmed39 U.vm ∧ U.heap = h0) (fun _ _ _ _ _ => True) (fun _ U o U' => ∃ v L, o = .returned v ∧ Q4 Z a r h0 n0 v U'.heap L ∧ FrameEnd U o U' L ({ frames := 0, cells := 0, slots := 0, locals := 0 } : Room).cells ({ frames := 0, cells := 0, slots := 0, locals := 0 } : Room).slots) := by
  refine MetFree.of_bodySF (plainFor_of_name pn_4) hisR ?_
  intro p e s m args below meth c s₁ Bd hml0 hP hK
  obtain ⟨rfl, hZ, hh⟩ := hP
  have hx := Bd.exec
  have hby := Bd.bytes
  have hml : c.maxLocals = 1 := hml0
  have hown : s.vm.findClass "com/example/tideglass/tideglass/bench/BankWorkload$Result" = some m.cls := findClass_of_methodNamed Bd.named
  have hnm := (name_of_methodNamed Bd.named Bd.method).1
  have X0 : Stand p l e ({ frames := 0, cells := 0, slots := 0, locals := 0 } : Room) s m #[(.ref a)] below meth c s₁ [] 0 0 := Stand.of_body Bd
  have e0 : s₁.heap = h0 := by rw [← hh, Bd.state]; rfl
  have N0 := Fr.nil n0
  have pre0 : ∀ t, Steps p.tables e below (s₁.setTop (mkF m 0 #[.val (.ref a)] [])) t → Steps p.tables e below (s₁.setTop (entryFrame m #[(.ref a)] 1)) t := fun t k => castTop (ef_4 m a) k
  obtain ⟨T_1, X_1, e_1, st_1⟩ := getF X0 hx hZ hown (host := "") (Or.inl (hw _ (List.mem_of_getElem? (i := 23) rfl))) Via.refl e0 F4 (g := (mkF m 1 #[.val (.ref a)] [(.ref a)])) rfl rfl (hb hby d4_1)
  obtain ⟨T_2, X_2, e_2, st_2⟩ := getF X_1 hx hZ hown (host := "") (Or.inl (hw _ (List.mem_of_getElem? (i := 25) rfl))) Via.refl e_1 F5 (g := (mkF m 10 #[.val (.ref a)] [(.ref a)])) rfl rfl (hb hby d4_10)
  obtain ⟨T_3, X_3, e_3, st_3⟩ := getF X_2 hx hZ hown (host := "") (Or.inl (hw _ (List.mem_of_getElem? (i := 27) rfl))) Via.refl e_2 F6 (g := (mkF m 19 #[.val (.ref a)] [(.ref a)])) rfl rfl (hb hby d4_19)
  obtain ⟨T_4, X_4, e_4, st_4⟩ := getF X_3 hx hZ hown (host := "") (Or.inl (hw _ (List.mem_of_getElem? (i := 29) rfl))) Via.refl e_3 F7 (g := (mkF m 23 #[.val (.ref a)] [(.ref a), (.long x6)])) rfl rfl (hb hby d4_23)
  obtain ⟨fs, hr, hrun, hended, hW, hsame⟩ := X_4.leave (v := some (.int r)) (fun h => by rw [Bd.returns] at h; cases h)
  refine ⟨_, _, pre0 _ ?_, hrun, hended, _, _, rfl, ?_, ⟨_, rfl⟩, hW, hsame.mono (by decide) (by decide)⟩
  · show Steps p.tables e below (s₁.setTop (mkF m 0 #[.val (.ref a)] [])) _
    refine XS.aloadN X0.here hx rfl (hb hby d4_0) rfl rfl ?_
    show Steps p.tables e below (s₁.setTop (mkF m 1 #[.val (.ref a)] [(.ref a)])) _
    refine st_1 _ ?_
    show Steps p.tables e below (T_1.setTop (mkF m 4 #[.val (.ref a)] [(.long x4)])) _
    refine XS.lconst X_1.here hx rfl (hb hby d4_4) ?_
    show Steps p.tables e below (T_1.setTop (mkF m 5 #[.val (.ref a)] [(.long (0 : Int64)), (.long x4)])) _
    refine XS.lcmp X_1.here hx rfl (hb hby d4_5) rfl ?_
    show Steps p.tables e below (T_1.setTop (mkF m 6 #[.val (.ref a)] [(.int (lcmpW x4 (0 : Int64)))])) _
    refine XS.ifNo X_1.here hx rfl (hb hby d4_6) rfl ((if0 _ _).trans (teq hc6).2) ?_
    show Steps p.tables e below (T_1.setTop (mkF m 9 #[.val (.ref a)] [])) _
    refine XS.aloadN X_1.here hx rfl (hb hby d4_9) rfl rfl ?_
    show Steps p.tables e below (T_1.setTop (mkF m 10 #[.val (.ref a)] [(.ref a)])) _
    refine st_2 _ ?_
    show Steps p.tables e below (T_2.setTop (mkF m 13 #[.val (.ref a)] [(.long x5)])) _
    refine XS.lconst X_2.here hx rfl (hb hby d4_13) ?_
    show Steps p.tables e below (T_2.setTop (mkF m 14 #[.val (.ref a)] [(.long (0 : Int64)), (.long x5)])) _
    refine XS.lcmp X_2.here hx rfl (hb hby d4_14) rfl ?_
    show Steps p.tables e below (T_2.setTop (mkF m 15 #[.val (.ref a)] [(.int (lcmpW x5 (0 : Int64)))])) _
    refine XS.ifNo X_2.here hx rfl (hb hby d4_15) rfl ((if0 _ _).trans (teq hc15).2) ?_
    show Steps p.tables e below (T_2.setTop (mkF m 18 #[.val (.ref a)] [])) _
    refine XS.aloadN X_2.here hx rfl (hb hby d4_18) rfl rfl ?_
    show Steps p.tables e below (T_2.setTop (mkF m 19 #[.val (.ref a)] [(.ref a)])) _
    refine st_3 _ ?_
    show Steps p.tables e below (T_3.setTop (mkF m 22 #[.val (.ref a)] [(.long x6)])) _
    refine XS.aloadN X_3.here hx rfl (hb hby d4_22) rfl rfl ?_
    show Steps p.tables e below (T_3.setTop (mkF m 23 #[.val (.ref a)] [(.ref a), (.long x6)])) _
    refine st_4 _ ?_
    show Steps p.tables e below (T_4.setTop (mkF m 26 #[.val (.ref a)] [(.long x7), (.long x6)])) _
    refine XS.lcmp X_4.here hx rfl (hb hby d4_26) rfl ?_
    show Steps p.tables e below (T_4.setTop (mkF m 27 #[.val (.ref a)] [(.int (lcmpW x6 x7))])) _
    refine XS.ifNo X_4.here hx rfl (hb hby d4_27) rfl ((if0 _ _).trans (teq hc27).2) ?_
    show Steps p.tables e below (T_4.setTop (mkF m 30 #[.val (.ref a)] [])) _
    refine XS.iconst X_4.here hx rfl (hb hby d4_30) ?_
    show Steps p.tables e below (T_4.setTop (mkF m 31 #[.val (.ref a)] [(.int (1 : Int32))])) _
    refine XS.goto X_4.here hx rfl (pc0 := 31) (pc' := 35) rfl (hb hby d4_31) (by decide) (by decide) ?_
    show Steps p.tables e below (T_4.setTop (mkF m 35 #[.val (.ref a)] [(.int (1 : Int32))])) _
    exact retN X_4 hx (t := .boolean) Bd.returns (by simp) (hb hby d4_35) (by rw [hn_]; exact hr)
  · show Q4 Z a r h0 n0 _ T_4.heap _
    rw [e_4]
    exact ⟨rfl, N0, rfl⟩
theorem rm4 (l : Launch) (Z : State) (a0 : Array Value) (hw : ∀ d ∈ tables_1, d.before a0 Z = true) (ws : List Jvm.Cond) (a : Addr) (x4 x5 x6 x7 : Int64) (h0 : Heap) (n0 : Nat) (Z0 : n0 ≤ h0.size) (F4 : Fld Z h0 a "com/example/tideglass/tideglass/bench/BankWorkload$Result" "readonlyAborted" "J" (.long x4)) (F5 : Fld Z h0 a "com/example/tideglass/tideglass/bench/BankWorkload$Result" "snapshotSumViolations" "J" (.long x5)) (F6 : Fld Z h0 a "com/example/tideglass/tideglass/bench/BankWorkload$Result" "finalTotal" "J" (.long x6)) (F7 : Fld Z h0 a "com/example/tideglass/tideglass/bench/BankWorkload$Result" "expectedTotal" "J" (.long x7)) :
    MetFree l (⟨"com/example/tideglass/tideglass/bench/BankWorkload$Result", "holds", "()Z"⟩ : MethodName) (head1 (Jvm.Cond.code (⟨"com/example/tideglass/tideglass/bench/BankWorkload$Result", "holds", "()Z"⟩ : MethodName) prog_3_method_2_code 1 (some .boolean) :: ws) ({ frames := 0, cells := 0, slots := 0, locals := 0 } : Room)) (fun b U => b = #[(.ref a)] ∧ Z.Warmed39 U.vm ∧ U.heap = h0) (fun _ _ _ _ _ => True) (fun _ U o U' => ∃ v L, o = .returned v ∧ Q4 Z a (own_holds x4 x5 x6 x7) h0 n0 v U'.heap L ∧ FrameEnd U o U' L ({ frames := 0, cells := 0, slots := 0, locals := 0 } : Room).cells ({ frames := 0, cells := 0, slots := 0, locals := 0 } : Room).slots) := by
  by_cases h1 : lcmpW x4 0 = 0
  · by_cases h2 : lcmpW x5 0 = 0
    · by_cases h3 : lcmpW x6 x7 = 0
      · exact rm4d l Z a0 hw ws a x4 x5 x6 x7 _ h0 n0 Z0 F4 F5 F6 F7 h1 h2 h3 (by rw [own_holds, if_pos h1, if_pos h2, if_pos h3]; rfl)
      · exact rm4c l Z a0 hw ws a x4 x5 x6 x7 _ h0 n0 Z0 F4 F5 F6 F7 h1 h2 h3 (by rw [own_holds, if_pos h1, if_pos h2, if_neg h3]; rfl)
    · exact rm4b l Z a0 hw ws a x4 x5 x6 x7 _ h0 n0 Z0 F4 F5 F6 F7 h1 h2 (by rw [own_holds, if_pos h1, if_neg h2]; rfl)
  · exact rm4a l Z a0 hw ws a x4 x5 x6 x7 _ h0 n0 Z0 F4 F5 F6 F7 h1 (by rw [own_holds, if_neg h1]; rfl)
theorem pd_1 : parseMethodDescriptor "(JJJJJJJJ)V" = some ⟨[.long, .long, .long, .long, .long, .long, .long, .long], none⟩ := by decide +kernel
theorem pd_2 : parseMethodDescriptor "()Z" = some ⟨[], some .boolean⟩ := by decide +kernel
def Q0 (Z : State)  (h0 : Heap) (n0 : Nat) (v : Option Value) (h : Heap) (L : List Loc) : Prop := v = some (.int 1) ∧ Fr n0 L
theorem pn_0 : plainName "com/example/tideglass/tideglass/bench/ResultHoldsPinLaw" = true := by first | (simp [plainName, overriddenIn]; done) | decide +kernel
theorem ef_0 (m : MethodId) (x0 : Int64) (x1 : Int64) (x2 : Int64) (x3 : Int64) (x4 : Int64) (x5 : Int32) : entryFrame m #[(.long x0), (.long x1), (.long x2), (.long x3), (.long x4), (.int x5)] maxLocals = mkF m 0 #[.val (.long x0), .second, .val (.long x1), .second, .val (.long x2), .second, .val (.long x3), .second, .val (.long x4), .second, .val (.int x5), .unset, .unset, .unset, .unset, .unset, .unset, .unset, .unset] [] := by first | (simp [entryFrame, mkF, argsToLocals, Value.category, maxLocals]; done) | rfl
set_option maxRecDepth 65536 in
set_option maxHeartbeats 40000000 in
theorem rm0 (l : Launch) (Z : State) (a0 : Array Value) (hw : ∀ d ∈ tables_1, d.before a0 Z = true) (ws : List Jvm.Cond) (q0 : Int64) (q1 : Int64) (q2 : Int64) (q3 : Int64) (q4 : Int64) (p5 : Int32) (ra : Int64) (sv : Int64) (et : Int64) (ex : Int32) (h0 : Heap) (n0 : Nat) (Z0 : n0 ≤ h0.size) (hra_ : (if (p5 &&& (1 : Int32)) = (0 : Int32) then q1 else (0 : Int64)) = ra) (hsv_ : (if (p5 &&& (2 : Int32)) = (0 : Int32) then q2 else (0 : Int64)) = sv) (het_ : (if (p5 &&& (4 : Int32)) = (0 : Int32) then q4 else q3) = et) (hex_ : (if (lcmpW ((ra ||| sv) ||| (q3 ^^^ et)) (0 : Int64)) = (0 : Int32) then (1 : Int32) else (0 : Int32)) = ex) (hc105 : (own_holds ra sv q3 et) = ex) :
    MetFree l x (head1 (Jvm.Cond.code x code maxLocals ret :: ws) room_1) (fun as_ U => as_ = #[(.long q0), (.long q1), (.long q2), (.long q3), (.long q4), (.int p5)] ∧ Z.Warmed39 U.vm ∧ U.heap = h0) (fun _ _ _ _ _ => True) (fun _ U o U' => ∃ v L, o = .returned v ∧ Q0 Z  h0 n0 v U'.heap L ∧ FrameEnd U o U' L 1 8) := by
  refine MetFree.of_bodySF (plainFor_of_name pn_0) hisR ?_
  intro p e s m args below meth c s₁ Bd hml0 hP hK
  obtain ⟨rfl, hZ, hh⟩ := hP
  have hx := Bd.exec
  have hby := Bd.bytes
  have hml : c.maxLocals = 19 := hml0
  have hown : s.vm.findClass "com/example/tideglass/tideglass/bench/ResultHoldsPinLaw" = some m.cls := findClass_of_methodNamed Bd.named
  have hnm := (name_of_methodNamed Bd.named Bd.method).1
  have X0 : Stand p l e room_1 s m #[(.long q0), (.long q1), (.long q2), (.long q3), (.long q4), (.int p5)] below meth c s₁ [] 0 0 := Stand.of_body Bd
  have e0 : s₁.heap = h0 := by rw [← hh, Bd.state]; rfl
  have N0 := Fr.nil n0
  have pre0 : ∀ t, Steps p.tables e below (s₁.setTop (mkF m 0 #[.val (.long q0), .second, .val (.long q1), .second, .val (.long q2), .second, .val (.long q3), .second, .val (.long q4), .second, .val (.int p5), .unset, .unset, .unset, .unset, .unset, .unset, .unset, .unset] [])) t → Steps p.tables e below (s₁.setTop (entryFrame m #[(.long q0), (.long q1), (.long q2), (.long q3), (.long q4), (.int p5)] maxLocals)) t := fun t k => castTop (ef_0 m q0 q1 q2 q3 q4 p5) k
  obtain ⟨T_1, h_1, X_1, e_1, E_1, A_1, D_1, -, st_1⟩ := newO X0 hx hZ hown (hw _ (List.mem_of_getElem? (i := 0) rfl)) (hw _ (List.mem_of_getElem? (i := 1) rfl)) (hw _ (List.mem_of_getElem? (i := 2) rfl)) e0 (g := (mkF m 45 #[.val (.long q0), .second, .val (.long q1), .second, .val (.long q2), .second, .val (.long q3), .second, .val (.long q4), .second, .val (.int p5), .val (.long ra), .second, .val (.long sv), .second, .val (.long et), .second, .unset, .unset] [])) rfl (hb hby at_45) (by decide) (by decide)
  obtain ⟨b_1, g_1⟩ : ∃ z, z = h0.size := ⟨_, rfl⟩
  rw [← g_1] at A_1 D_1 st_1
  have g_b_1 : n0 ≤ b_1 := Nat.le_trans Z0 (Nat.le_of_eq g_1.symm)
  have sz_b_1 : h0.size ≤ b_1 := Nat.le_trans (Keep.refl h0 []).1 (Nat.le_of_eq g_1.symm)
  have K_1 : Keep h0 h_1 [] := (Keep.refl h0 []).ext E_1
  have Z_2 : n0 ≤ h_1.size := Nat.le_trans Z0 E_1.1
  have F_committedTransfers_b_1 : Fld Z h_1 b_1 "com/example/tideglass/tideglass/bench/BankWorkload$Result" "committedTransfers" "J" (.long (0 : Int64)) := D_1 (Or.inr (hw _ (List.mem_of_getElem? (i := 16) rfl))) (ty := .long) (by decide)
  have F_crossPartitionTransfers_b_1 : Fld Z h_1 b_1 "com/example/tideglass/tideglass/bench/BankWorkload$Result" "crossPartitionTransfers" "J" (.long (0 : Int64)) := D_1 (Or.inr (hw _ (List.mem_of_getElem? (i := 18) rfl))) (ty := .long) (by decide)
  have F_abortedTransfers_b_1 : Fld Z h_1 b_1 "com/example/tideglass/tideglass/bench/BankWorkload$Result" "abortedTransfers" "J" (.long (0 : Int64)) := D_1 (Or.inr (hw _ (List.mem_of_getElem? (i := 20) rfl))) (ty := .long) (by decide)
  have F_readonlyCommitted_b_1 : Fld Z h_1 b_1 "com/example/tideglass/tideglass/bench/BankWorkload$Result" "readonlyCommitted" "J" (.long (0 : Int64)) := D_1 (Or.inr (hw _ (List.mem_of_getElem? (i := 22) rfl))) (ty := .long) (by decide)
  have F_readonlyAborted_b_1 : Fld Z h_1 b_1 "com/example/tideglass/tideglass/bench/BankWorkload$Result" "readonlyAborted" "J" (.long (0 : Int64)) := D_1 (Or.inr (hw _ (List.mem_of_getElem? (i := 24) rfl))) (ty := .long) (by decide)
  have F_snapshotSumViolations_b_1 : Fld Z h_1 b_1 "com/example/tideglass/tideglass/bench/BankWorkload$Result" "snapshotSumViolations" "J" (.long (0 : Int64)) := D_1 (Or.inr (hw _ (List.mem_of_getElem? (i := 26) rfl))) (ty := .long) (by decide)
  have F_finalTotal_b_1 : Fld Z h_1 b_1 "com/example/tideglass/tideglass/bench/BankWorkload$Result" "finalTotal" "J" (.long (0 : Int64)) := D_1 (Or.inr (hw _ (List.mem_of_getElem? (i := 28) rfl))) (ty := .long) (by decide)
  have F_expectedTotal_b_1 : Fld Z h_1 b_1 "com/example/tideglass/tideglass/bench/BankWorkload$Result" "expectedTotal" "J" (.long (0 : Int64)) := D_1 (Or.inr (hw _ (List.mem_of_getElem? (i := 30) rfl))) (ty := .long) (by decide)
  obtain ⟨_, _, ⟨T_3, L_3, k_3, n_3⟩, -, X_3, ⟨Lc_3, hQ_3, l_3, y_3, z_3⟩, st_3⟩ := X_1.specialBack hx (y := (⟨"com/example/tideglass/tideglass/bench/BankWorkload$Result", "<init>", "(JJJJJJJJ)V"⟩ : MethodName)) rfl hown (mvT hZ (hw _ (List.mem_of_getElem? (i := 4) rfl))) (mvT hZ (hw _ (List.mem_of_getElem? (i := 5) rfl))) (mvT hZ (hw _ (List.mem_of_getElem? (i := 6) rfl))) (by decide) (backOf (W := 1) (rm1 l Z a0 hw [] b_1 q0 (q0 ^^^ q1) (q0 ^^^ (-1 : Int64)) (q0 + q4) ra sv q3 et h_1 n0 Z_2 A_1 F_committedTransfers_b_1 F_crossPartitionTransfers_b_1 F_abortedTransfers_b_1 F_readonlyCommitted_b_1 F_readonlyAborted_b_1 F_snapshotSumViolations_b_1 F_finalTotal_b_1 F_expectedTotal_b_1 g_b_1) hZ (hw _ (List.mem_of_getElem? (i := 6) rfl)) (hw _ (List.mem_of_getElem? (i := 2) rfl)) (by decide) (by decide)) (g := (mkF m 70 #[.val (.long q0), .second, .val (.long q1), .second, .val (.long q2), .second, .val (.long q3), .second, .val (.long q4), .second, .val (.int p5), .val (.long ra), .second, .val (.long sv), .second, .val (.long et), .second, .unset, .unset] [(.long et), (.long q3), (.long sv), (.long ra), (.long (q0 + q4)), (.long (q0 ^^^ (-1 : Int64))), (.long (q0 ^^^ q1)), (.long q0), (.ref b_1), (.ref b_1)])) rfl (by rw [hml]; rfl) (Steps.refl _) (a := b_1) (argsL := [(.long q0), (.long (q0 ^^^ q1)), (.long (q0 ^^^ (-1 : Int64))), (.long (q0 + q4)), (.long ra), (.long sv), (.long q3), (.long et)]) (rest := [(.ref b_1)]) (lenOf pd_1 rfl) rfl (by show 2 * 0 + _ ≤ _; exact Nat.le_of_eq rfl) (hb hby at_70) (fun _ _ => ⟨rfl, e_1, (by decide : 1 + 0 ≤ _), (by decide : 8 + 0 ≤ _)⟩)
  dsimp only [Pt.U, Pt.locs, Pt.cells, Pt.slots] at X_3 l_3 y_3 z_3 st_3 hQ_3
  subst l_3 y_3 z_3
  obtain ⟨rfl, Nq_3, Kq_3, Fq_3_4, Fq_3_5, Fq_3_6, Fq_3_7⟩ := hQ_3
  have N_3 := Fr.app N0 Nq_3
  have KK_3 : Keep h0 T_3.heap [] := K_1.trans Kq_3 (allS (Or.inr sz_b_1) all0)
  have Z_4 : n0 ≤ T_3.heap.size := Nat.le_trans Z_2 Kq_3.1
  have f_6_E_b_1 := (A_1.keep Kq_3)
  obtain ⟨cq_5, kq_5, q_5a, q_5b, q_5c⟩ := isOf hZ rfl f_6_E_b_1
  obtain ⟨_, _, ⟨T_5, L_5, k_5, n_5⟩, -, X_5, ⟨Lc_5, hQ_5, l_5, y_5, z_5⟩, st_5⟩ := X_3.virtualBack hx (y := (⟨"com/example/tideglass/tideglass/bench/BankWorkload$Result", "holds", "()Z"⟩ : MethodName)) (z := (⟨"com/example/tideglass/tideglass/bench/BankWorkload$Result", "holds", "()Z"⟩ : MethodName)) hown (mvT hZ (hw _ (List.mem_of_getElem? (i := 31) rfl))) (mvT hZ (hw _ (List.mem_of_getElem? (i := 32) rfl))) (notFace_of_selects (args := #[]) (mvT hZ (hw _ (List.mem_of_getElem? (i := 34) rfl)))) (mvT hZ (hw _ (List.mem_of_getElem? (i := 34) rfl))) (mvT hZ (hw _ (List.mem_of_getElem? (i := 33) rfl))) (by decide) (backOf (W := 0) (rm4 l Z a0 hw [] b_1 ra sv q3 et T_3.heap n0 Z_4 Fq_3_4 Fq_3_5 Fq_3_6 Fq_3_7) hZ (hw _ (List.mem_of_getElem? (i := 35) rfl)) (hw _ (List.mem_of_getElem? (i := 2) rfl)) (by decide) (by decide)) q_5a q_5c (g := (mkF m 100 #[.val (.long q0), .second, .val (.long q1), .second, .val (.long q2), .second, .val (.long q3), .second, .val (.long q4), .second, .val (.int p5), .val (.long ra), .second, .val (.long sv), .second, .val (.long et), .second, .val (.ref b_1), .val (.int ex)] [(.ref b_1)])) rfl (by rw [hml]; rfl) (Steps.refl _) (argsL := []) (rest := []) (lenOf pd_2 rfl) rfl (by show 2 * 0 + _ ≤ _; exact Nat.le_of_eq rfl) (hb hby at_100) (fun _ _ => ⟨rfl, rfl, (by decide : 1 + 0 ≤ _), (by decide : 8 + 0 ≤ _)⟩)
  dsimp only [Pt.U, Pt.locs, Pt.cells, Pt.slots] at X_5 l_5 y_5 z_5 st_5 hQ_5
  subst l_5 y_5 z_5
  obtain ⟨rfl, Nq_5, eq_5⟩ := hQ_5
  have N_5 := Fr.app N_3 Nq_5
  obtain ⟨fs, hr, hrun, hended, hW, hsame⟩ := X_5.leave (v := some (.int (1 : Int32))) (fun h => by rw [Bd.returns] at h; cases h)
  refine ⟨_, _, pre0 _ ?_, hrun, hended, _, _, rfl, ?_, ⟨_, rfl⟩, hW, hsame.mono (by decide) (by decide)⟩
  · have jn0 : ∀ target, Steps p.tables e below (s₁.setTop (mkF m 12 #[.val (.long q0), .second, .val (.long q1), .second, .val (.long q2), .second, .val (.long q3), .second, .val (.long q4), .second, .val (.int p5), .unset, .unset, .unset, .unset, .unset, .unset, .unset, .unset] [(.long ra)])) target → Steps p.tables e below (s₁.setTop (mkF m 0 #[.val (.long q0), .second, .val (.long q1), .second, .val (.long q2), .second, .val (.long q3), .second, .val (.long q4), .second, .val (.int p5), .unset, .unset, .unset, .unset, .unset, .unset, .unset, .unset] [])) target := by
      intro target kt
      show Steps p.tables e below (s₁.setTop (mkF m 0 #[.val (.long q0), .second, .val (.long q1), .second, .val (.long q2), .second, .val (.long q3), .second, .val (.long q4), .second, .val (.int p5), .unset, .unset, .unset, .unset, .unset, .unset, .unset, .unset] [])) _
      refine XS.iload X0.here hx rfl (hb hby at_0) rfl ?_
      show Steps p.tables e below (s₁.setTop (mkF m 2 #[.val (.long q0), .second, .val (.long q1), .second, .val (.long q2), .second, .val (.long q3), .second, .val (.long q4), .second, .val (.int p5), .unset, .unset, .unset, .unset, .unset, .unset, .unset, .unset] [(.int p5)])) _
      refine XS.iconst X0.here hx rfl (hb hby at_2) ?_
      show Steps p.tables e below (s₁.setTop (mkF m 3 #[.val (.long q0), .second, .val (.long q1), .second, .val (.long q2), .second, .val (.long q3), .second, .val (.long q4), .second, .val (.int p5), .unset, .unset, .unset, .unset, .unset, .unset, .unset, .unset] [(.int (1 : Int32)), (.int p5)])) _
      refine XS.iand X0.here hx rfl (hb hby at_3) rfl ?_
      show Steps p.tables e below (s₁.setTop (mkF m 4 #[.val (.long q0), .second, .val (.long q1), .second, .val (.long q2), .second, .val (.long q3), .second, .val (.long q4), .second, .val (.int p5), .unset, .unset, .unset, .unset, .unset, .unset, .unset, .unset] [(.int (p5 &&& (1 : Int32)))])) _
      by_cases hj4_0 : (p5 &&& (1 : Int32)) = (0 : Int32)
      · refine XS.ifYes X0.here hx rfl (pc0 := 4) (pc' := 11) rfl (hb hby at_4) rfl ((if0 _ _).trans (teq hj4_0).1) (by decide) (by decide) ?_
        show Steps p.tables e below (s₁.setTop (mkF m 11 #[.val (.long q0), .second, .val (.long q1), .second, .val (.long q2), .second, .val (.long q3), .second, .val (.long q4), .second, .val (.int p5), .unset, .unset, .unset, .unset, .unset, .unset, .unset, .unset] [])) _
        refine XS.lloadN X0.here hx rfl (hb hby at_11) rfl ?_
        rw [← hra_, if_pos hj4_0] at kt
        exact kt
      · refine XS.ifNo X0.here hx rfl (hb hby at_4) rfl ((if0 _ _).trans (feq hj4_0).1) ?_
        show Steps p.tables e below (s₁.setTop (mkF m 7 #[.val (.long q0), .second, .val (.long q1), .second, .val (.long q2), .second, .val (.long q3), .second, .val (.long q4), .second, .val (.int p5), .unset, .unset, .unset, .unset, .unset, .unset, .unset, .unset] [])) _
        refine XS.lconst X0.here hx rfl (hb hby at_7) ?_
        show Steps p.tables e below (s₁.setTop (mkF m 8 #[.val (.long q0), .second, .val (.long q1), .second, .val (.long q2), .second, .val (.long q3), .second, .val (.long q4), .second, .val (.int p5), .unset, .unset, .unset, .unset, .unset, .unset, .unset, .unset] [(.long (0 : Int64))])) _
        refine XS.goto X0.here hx rfl (pc0 := 8) (pc' := 12) rfl (hb hby at_8) (by decide) (by decide) ?_
        rw [← hra_, if_neg hj4_0] at kt
        exact kt
    refine jn0 _ ?_
    show Steps p.tables e below (s₁.setTop (mkF m 12 #[.val (.long q0), .second, .val (.long q1), .second, .val (.long q2), .second, .val (.long q3), .second, .val (.long q4), .second, .val (.int p5), .unset, .unset, .unset, .unset, .unset, .unset, .unset, .unset] [(.long ra)])) _
    refine XS.lstore X0.here hx rfl (hb hby at_12) rfl (l' := #[.val (.long q0), .second, .val (.long q1), .second, .val (.long q2), .second, .val (.long q3), .second, .val (.long q4), .second, .val (.int p5), .val (.long ra), .second, .unset, .unset, .unset, .unset, .unset, .unset]) rfl ?_
    have jn14 : ∀ target, Steps p.tables e below (s₁.setTop (mkF m 27 #[.val (.long q0), .second, .val (.long q1), .second, .val (.long q2), .second, .val (.long q3), .second, .val (.long q4), .second, .val (.int p5), .val (.long ra), .second, .unset, .unset, .unset, .unset, .unset, .unset] [(.long sv)])) target → Steps p.tables e below (s₁.setTop (mkF m 14 #[.val (.long q0), .second, .val (.long q1), .second, .val (.long q2), .second, .val (.long q3), .second, .val (.long q4), .second, .val (.int p5), .val (.long ra), .second, .unset, .unset, .unset, .unset, .unset, .unset] [])) target := by
      intro target kt
      show Steps p.tables e below (s₁.setTop (mkF m 14 #[.val (.long q0), .second, .val (.long q1), .second, .val (.long q2), .second, .val (.long q3), .second, .val (.long q4), .second, .val (.int p5), .val (.long ra), .second, .unset, .unset, .unset, .unset, .unset, .unset] [])) _
      refine XS.iload X0.here hx rfl (hb hby at_14) rfl ?_
      show Steps p.tables e below (s₁.setTop (mkF m 16 #[.val (.long q0), .second, .val (.long q1), .second, .val (.long q2), .second, .val (.long q3), .second, .val (.long q4), .second, .val (.int p5), .val (.long ra), .second, .unset, .unset, .unset, .unset, .unset, .unset] [(.int p5)])) _
      refine XS.iconst X0.here hx rfl (hb hby at_16) ?_
      show Steps p.tables e below (s₁.setTop (mkF m 17 #[.val (.long q0), .second, .val (.long q1), .second, .val (.long q2), .second, .val (.long q3), .second, .val (.long q4), .second, .val (.int p5), .val (.long ra), .second, .unset, .unset, .unset, .unset, .unset, .unset] [(.int (2 : Int32)), (.int p5)])) _
      refine XS.iand X0.here hx rfl (hb hby at_17) rfl ?_
      show Steps p.tables e below (s₁.setTop (mkF m 18 #[.val (.long q0), .second, .val (.long q1), .second, .val (.long q2), .second, .val (.long q3), .second, .val (.long q4), .second, .val (.int p5), .val (.long ra), .second, .unset, .unset, .unset, .unset, .unset, .unset] [(.int (p5 &&& (2 : Int32)))])) _
      by_cases hj18_0 : (p5 &&& (2 : Int32)) = (0 : Int32)
      · refine XS.ifYes X0.here hx rfl (pc0 := 18) (pc' := 25) rfl (hb hby at_18) rfl ((if0 _ _).trans (teq hj18_0).1) (by decide) (by decide) ?_
        show Steps p.tables e below (s₁.setTop (mkF m 25 #[.val (.long q0), .second, .val (.long q1), .second, .val (.long q2), .second, .val (.long q3), .second, .val (.long q4), .second, .val (.int p5), .val (.long ra), .second, .unset, .unset, .unset, .unset, .unset, .unset] [])) _
        refine XS.lload X0.here hx rfl (hb hby at_25) rfl ?_
        rw [← hsv_, if_pos hj18_0] at kt
        exact kt
      · refine XS.ifNo X0.here hx rfl (hb hby at_18) rfl ((if0 _ _).trans (feq hj18_0).1) ?_
        show Steps p.tables e below (s₁.setTop (mkF m 21 #[.val (.long q0), .second, .val (.long q1), .second, .val (.long q2), .second, .val (.long q3), .second, .val (.long q4), .second, .val (.int p5), .val (.long ra), .second, .unset, .unset, .unset, .unset, .unset, .unset] [])) _
        refine XS.lconst X0.here hx rfl (hb hby at_21) ?_
        show Steps p.tables e below (s₁.setTop (mkF m 22 #[.val (.long q0), .second, .val (.long q1), .second, .val (.long q2), .second, .val (.long q3), .second, .val (.long q4), .second, .val (.int p5), .val (.long ra), .second, .unset, .unset, .unset, .unset, .unset, .unset] [(.long (0 : Int64))])) _
        refine XS.goto X0.here hx rfl (pc0 := 22) (pc' := 27) rfl (hb hby at_22) (by decide) (by decide) ?_
        rw [← hsv_, if_neg hj18_0] at kt
        exact kt
    refine jn14 _ ?_
    show Steps p.tables e below (s₁.setTop (mkF m 27 #[.val (.long q0), .second, .val (.long q1), .second, .val (.long q2), .second, .val (.long q3), .second, .val (.long q4), .second, .val (.int p5), .val (.long ra), .second, .unset, .unset, .unset, .unset, .unset, .unset] [(.long sv)])) _
    refine XS.lstore X0.here hx rfl (hb hby at_27) rfl (l' := #[.val (.long q0), .second, .val (.long q1), .second, .val (.long q2), .second, .val (.long q3), .second, .val (.long q4), .second, .val (.int p5), .val (.long ra), .second, .val (.long sv), .second, .unset, .unset, .unset, .unset]) rfl ?_
    have jn29 : ∀ target, Steps p.tables e below (s₁.setTop (mkF m 43 #[.val (.long q0), .second, .val (.long q1), .second, .val (.long q2), .second, .val (.long q3), .second, .val (.long q4), .second, .val (.int p5), .val (.long ra), .second, .val (.long sv), .second, .unset, .unset, .unset, .unset] [(.long et)])) target → Steps p.tables e below (s₁.setTop (mkF m 29 #[.val (.long q0), .second, .val (.long q1), .second, .val (.long q2), .second, .val (.long q3), .second, .val (.long q4), .second, .val (.int p5), .val (.long ra), .second, .val (.long sv), .second, .unset, .unset, .unset, .unset] [])) target := by
      intro target kt
      show Steps p.tables e below (s₁.setTop (mkF m 29 #[.val (.long q0), .second, .val (.long q1), .second, .val (.long q2), .second, .val (.long q3), .second, .val (.long q4), .second, .val (.int p5), .val (.long ra), .second, .val (.long sv), .second, .unset, .unset, .unset, .unset] [])) _
      refine XS.iload X0.here hx rfl (hb hby at_29) rfl ?_
      show Steps p.tables e below (s₁.setTop (mkF m 31 #[.val (.long q0), .second, .val (.long q1), .second, .val (.long q2), .second, .val (.long q3), .second, .val (.long q4), .second, .val (.int p5), .val (.long ra), .second, .val (.long sv), .second, .unset, .unset, .unset, .unset] [(.int p5)])) _
      refine XS.iconst X0.here hx rfl (hb hby at_31) ?_
      show Steps p.tables e below (s₁.setTop (mkF m 32 #[.val (.long q0), .second, .val (.long q1), .second, .val (.long q2), .second, .val (.long q3), .second, .val (.long q4), .second, .val (.int p5), .val (.long ra), .second, .val (.long sv), .second, .unset, .unset, .unset, .unset] [(.int (4 : Int32)), (.int p5)])) _
      refine XS.iand X0.here hx rfl (hb hby at_32) rfl ?_
      show Steps p.tables e below (s₁.setTop (mkF m 33 #[.val (.long q0), .second, .val (.long q1), .second, .val (.long q2), .second, .val (.long q3), .second, .val (.long q4), .second, .val (.int p5), .val (.long ra), .second, .val (.long sv), .second, .unset, .unset, .unset, .unset] [(.int (p5 &&& (4 : Int32)))])) _
      by_cases hj33_0 : (p5 &&& (4 : Int32)) = (0 : Int32)
      · refine XS.ifYes X0.here hx rfl (pc0 := 33) (pc' := 41) rfl (hb hby at_33) rfl ((if0 _ _).trans (teq hj33_0).1) (by decide) (by decide) ?_
        show Steps p.tables e below (s₁.setTop (mkF m 41 #[.val (.long q0), .second, .val (.long q1), .second, .val (.long q2), .second, .val (.long q3), .second, .val (.long q4), .second, .val (.int p5), .val (.long ra), .second, .val (.long sv), .second, .unset, .unset, .unset, .unset] [])) _
        refine XS.lload X0.here hx rfl (hb hby at_41) rfl ?_
        rw [← het_, if_pos hj33_0] at kt
        exact kt
      · refine XS.ifNo X0.here hx rfl (hb hby at_33) rfl ((if0 _ _).trans (feq hj33_0).1) ?_
        show Steps p.tables e below (s₁.setTop (mkF m 36 #[.val (.long q0), .second, .val (.long q1), .second, .val (.long q2), .second, .val (.long q3), .second, .val (.long q4), .second, .val (.int p5), .val (.long ra), .second, .val (.long sv), .second, .unset, .unset, .unset, .unset] [])) _
        refine XS.lload X0.here hx rfl (hb hby at_36) rfl ?_
        show Steps p.tables e below (s₁.setTop (mkF m 38 #[.val (.long q0), .second, .val (.long q1), .second, .val (.long q2), .second, .val (.long q3), .second, .val (.long q4), .second, .val (.int p5), .val (.long ra), .second, .val (.long sv), .second, .unset, .unset, .unset, .unset] [(.long q3)])) _
        refine XS.goto X0.here hx rfl (pc0 := 38) (pc' := 43) rfl (hb hby at_38) (by decide) (by decide) ?_
        rw [← het_, if_neg hj33_0] at kt
        exact kt
    refine jn29 _ ?_
    show Steps p.tables e below (s₁.setTop (mkF m 43 #[.val (.long q0), .second, .val (.long q1), .second, .val (.long q2), .second, .val (.long q3), .second, .val (.long q4), .second, .val (.int p5), .val (.long ra), .second, .val (.long sv), .second, .unset, .unset, .unset, .unset] [(.long et)])) _
    refine XS.lstore X0.here hx rfl (hb hby at_43) rfl (l' := #[.val (.long q0), .second, .val (.long q1), .second, .val (.long q2), .second, .val (.long q3), .second, .val (.long q4), .second, .val (.int p5), .val (.long ra), .second, .val (.long sv), .second, .val (.long et), .second, .unset, .unset]) rfl ?_
    show Steps p.tables e below (s₁.setTop (mkF m 45 #[.val (.long q0), .second, .val (.long q1), .second, .val (.long q2), .second, .val (.long q3), .second, .val (.long q4), .second, .val (.int p5), .val (.long ra), .second, .val (.long sv), .second, .val (.long et), .second, .unset, .unset] [])) _
    refine st_1 _ ?_
    show Steps p.tables e below (T_1.setTop (mkF m 48 #[.val (.long q0), .second, .val (.long q1), .second, .val (.long q2), .second, .val (.long q3), .second, .val (.long q4), .second, .val (.int p5), .val (.long ra), .second, .val (.long sv), .second, .val (.long et), .second, .unset, .unset] [(.ref b_1)])) _
    refine XS.dup X_1.here hx rfl (hb hby at_48) rfl rfl ?_
    show Steps p.tables e below (T_1.setTop (mkF m 49 #[.val (.long q0), .second, .val (.long q1), .second, .val (.long q2), .second, .val (.long q3), .second, .val (.long q4), .second, .val (.int p5), .val (.long ra), .second, .val (.long sv), .second, .val (.long et), .second, .unset, .unset] [(.ref b_1), (.ref b_1)])) _
    refine XS.lloadN X_1.here hx rfl (hb hby at_49) rfl ?_
    show Steps p.tables e below (T_1.setTop (mkF m 50 #[.val (.long q0), .second, .val (.long q1), .second, .val (.long q2), .second, .val (.long q3), .second, .val (.long q4), .second, .val (.int p5), .val (.long ra), .second, .val (.long sv), .second, .val (.long et), .second, .unset, .unset] [(.long q0), (.ref b_1), (.ref b_1)])) _
    refine XS.lloadN X_1.here hx rfl (hb hby at_50) rfl ?_
    show Steps p.tables e below (T_1.setTop (mkF m 51 #[.val (.long q0), .second, .val (.long q1), .second, .val (.long q2), .second, .val (.long q3), .second, .val (.long q4), .second, .val (.int p5), .val (.long ra), .second, .val (.long sv), .second, .val (.long et), .second, .unset, .unset] [(.long q0), (.long q0), (.ref b_1), (.ref b_1)])) _
    refine XS.lloadN X_1.here hx rfl (hb hby at_51) rfl ?_
    show Steps p.tables e below (T_1.setTop (mkF m 52 #[.val (.long q0), .second, .val (.long q1), .second, .val (.long q2), .second, .val (.long q3), .second, .val (.long q4), .second, .val (.int p5), .val (.long ra), .second, .val (.long sv), .second, .val (.long et), .second, .unset, .unset] [(.long q1), (.long q0), (.long q0), (.ref b_1), (.ref b_1)])) _
    refine XS.lxor X_1.here hx rfl (hb hby at_52) rfl ?_
    show Steps p.tables e below (T_1.setTop (mkF m 53 #[.val (.long q0), .second, .val (.long q1), .second, .val (.long q2), .second, .val (.long q3), .second, .val (.long q4), .second, .val (.int p5), .val (.long ra), .second, .val (.long sv), .second, .val (.long et), .second, .unset, .unset] [(.long (q0 ^^^ q1)), (.long q0), (.ref b_1), (.ref b_1)])) _
    refine XS.lloadN X_1.here hx rfl (hb hby at_53) rfl ?_
    show Steps p.tables e below (T_1.setTop (mkF m 54 #[.val (.long q0), .second, .val (.long q1), .second, .val (.long q2), .second, .val (.long q3), .second, .val (.long q4), .second, .val (.int p5), .val (.long ra), .second, .val (.long sv), .second, .val (.long et), .second, .unset, .unset] [(.long q0), (.long (q0 ^^^ q1)), (.long q0), (.ref b_1), (.ref b_1)])) _
    refine X_1.ldc2Long hx hown (mvT hZ (hw _ (List.mem_of_getElem? (i := 3) rfl))) (g := (mkF m 54 #[.val (.long q0), .second, .val (.long q1), .second, .val (.long q2), .second, .val (.long q3), .second, .val (.long q4), .second, .val (.int p5), .val (.long ra), .second, .val (.long sv), .second, .val (.long et), .second, .unset, .unset] [(.long q0), (.long (q0 ^^^ q1)), (.long q0), (.ref b_1), (.ref b_1)])) rfl (hb hby at_54) _ ?_
    show Steps p.tables e below (T_1.setTop (mkF m 57 #[.val (.long q0), .second, .val (.long q1), .second, .val (.long q2), .second, .val (.long q3), .second, .val (.long q4), .second, .val (.int p5), .val (.long ra), .second, .val (.long sv), .second, .val (.long et), .second, .unset, .unset] [(.long (-1 : Int64)), (.long q0), (.long (q0 ^^^ q1)), (.long q0), (.ref b_1), (.ref b_1)])) _
    refine XS.lxor X_1.here hx rfl (hb hby at_57) rfl ?_
    show Steps p.tables e below (T_1.setTop (mkF m 58 #[.val (.long q0), .second, .val (.long q1), .second, .val (.long q2), .second, .val (.long q3), .second, .val (.long q4), .second, .val (.int p5), .val (.long ra), .second, .val (.long sv), .second, .val (.long et), .second, .unset, .unset] [(.long (q0 ^^^ (-1 : Int64))), (.long (q0 ^^^ q1)), (.long q0), (.ref b_1), (.ref b_1)])) _
    refine XS.lloadN X_1.here hx rfl (hb hby at_58) rfl ?_
    show Steps p.tables e below (T_1.setTop (mkF m 59 #[.val (.long q0), .second, .val (.long q1), .second, .val (.long q2), .second, .val (.long q3), .second, .val (.long q4), .second, .val (.int p5), .val (.long ra), .second, .val (.long sv), .second, .val (.long et), .second, .unset, .unset] [(.long q0), (.long (q0 ^^^ (-1 : Int64))), (.long (q0 ^^^ q1)), (.long q0), (.ref b_1), (.ref b_1)])) _
    refine XS.lload X_1.here hx rfl (hb hby at_59) rfl ?_
    show Steps p.tables e below (T_1.setTop (mkF m 61 #[.val (.long q0), .second, .val (.long q1), .second, .val (.long q2), .second, .val (.long q3), .second, .val (.long q4), .second, .val (.int p5), .val (.long ra), .second, .val (.long sv), .second, .val (.long et), .second, .unset, .unset] [(.long q4), (.long q0), (.long (q0 ^^^ (-1 : Int64))), (.long (q0 ^^^ q1)), (.long q0), (.ref b_1), (.ref b_1)])) _
    refine XS.ladd X_1.here hx rfl (hb hby at_61) rfl ?_
    show Steps p.tables e below (T_1.setTop (mkF m 62 #[.val (.long q0), .second, .val (.long q1), .second, .val (.long q2), .second, .val (.long q3), .second, .val (.long q4), .second, .val (.int p5), .val (.long ra), .second, .val (.long sv), .second, .val (.long et), .second, .unset, .unset] [(.long (q0 + q4)), (.long (q0 ^^^ (-1 : Int64))), (.long (q0 ^^^ q1)), (.long q0), (.ref b_1), (.ref b_1)])) _
    refine XS.lload X_1.here hx rfl (hb hby at_62) rfl ?_
    show Steps p.tables e below (T_1.setTop (mkF m 64 #[.val (.long q0), .second, .val (.long q1), .second, .val (.long q2), .second, .val (.long q3), .second, .val (.long q4), .second, .val (.int p5), .val (.long ra), .second, .val (.long sv), .second, .val (.long et), .second, .unset, .unset] [(.long ra), (.long (q0 + q4)), (.long (q0 ^^^ (-1 : Int64))), (.long (q0 ^^^ q1)), (.long q0), (.ref b_1), (.ref b_1)])) _
    refine XS.lload X_1.here hx rfl (hb hby at_64) rfl ?_
    show Steps p.tables e below (T_1.setTop (mkF m 66 #[.val (.long q0), .second, .val (.long q1), .second, .val (.long q2), .second, .val (.long q3), .second, .val (.long q4), .second, .val (.int p5), .val (.long ra), .second, .val (.long sv), .second, .val (.long et), .second, .unset, .unset] [(.long sv), (.long ra), (.long (q0 + q4)), (.long (q0 ^^^ (-1 : Int64))), (.long (q0 ^^^ q1)), (.long q0), (.ref b_1), (.ref b_1)])) _
    refine XS.lload X_1.here hx rfl (hb hby at_66) rfl ?_
    show Steps p.tables e below (T_1.setTop (mkF m 68 #[.val (.long q0), .second, .val (.long q1), .second, .val (.long q2), .second, .val (.long q3), .second, .val (.long q4), .second, .val (.int p5), .val (.long ra), .second, .val (.long sv), .second, .val (.long et), .second, .unset, .unset] [(.long q3), (.long sv), (.long ra), (.long (q0 + q4)), (.long (q0 ^^^ (-1 : Int64))), (.long (q0 ^^^ q1)), (.long q0), (.ref b_1), (.ref b_1)])) _
    refine XS.lload X_1.here hx rfl (hb hby at_68) rfl ?_
    show Steps p.tables e below (T_1.setTop (mkF m 70 #[.val (.long q0), .second, .val (.long q1), .second, .val (.long q2), .second, .val (.long q3), .second, .val (.long q4), .second, .val (.int p5), .val (.long ra), .second, .val (.long sv), .second, .val (.long et), .second, .unset, .unset] [(.long et), (.long q3), (.long sv), (.long ra), (.long (q0 + q4)), (.long (q0 ^^^ (-1 : Int64))), (.long (q0 ^^^ q1)), (.long q0), (.ref b_1), (.ref b_1)])) _
    refine st_3.trans ?_
    show Steps p.tables e below (T_3.setTop (mkF m 73 #[.val (.long q0), .second, .val (.long q1), .second, .val (.long q2), .second, .val (.long q3), .second, .val (.long q4), .second, .val (.int p5), .val (.long ra), .second, .val (.long sv), .second, .val (.long et), .second, .unset, .unset] [(.ref b_1)])) _
    refine XS.astore X_3.here hx rfl (hb hby at_73) rfl rfl (l' := #[.val (.long q0), .second, .val (.long q1), .second, .val (.long q2), .second, .val (.long q3), .second, .val (.long q4), .second, .val (.int p5), .val (.long ra), .second, .val (.long sv), .second, .val (.long et), .second, .val (.ref b_1), .unset]) rfl ?_
    show Steps p.tables e below (T_3.setTop (mkF m 75 #[.val (.long q0), .second, .val (.long q1), .second, .val (.long q2), .second, .val (.long q3), .second, .val (.long q4), .second, .val (.int p5), .val (.long ra), .second, .val (.long sv), .second, .val (.long et), .second, .val (.ref b_1), .unset] [])) _
    refine XS.lload X_3.here hx rfl (hb hby at_75) rfl ?_
    show Steps p.tables e below (T_3.setTop (mkF m 77 #[.val (.long q0), .second, .val (.long q1), .second, .val (.long q2), .second, .val (.long q3), .second, .val (.long q4), .second, .val (.int p5), .val (.long ra), .second, .val (.long sv), .second, .val (.long et), .second, .val (.ref b_1), .unset] [(.long ra)])) _
    refine XS.lload X_3.here hx rfl (hb hby at_77) rfl ?_
    show Steps p.tables e below (T_3.setTop (mkF m 79 #[.val (.long q0), .second, .val (.long q1), .second, .val (.long q2), .second, .val (.long q3), .second, .val (.long q4), .second, .val (.int p5), .val (.long ra), .second, .val (.long sv), .second, .val (.long et), .second, .val (.ref b_1), .unset] [(.long sv), (.long ra)])) _
    refine XS.lor X_3.here hx rfl (hb hby at_79) rfl ?_
    show Steps p.tables e below (T_3.setTop (mkF m 80 #[.val (.long q0), .second, .val (.long q1), .second, .val (.long q2), .second, .val (.long q3), .second, .val (.long q4), .second, .val (.int p5), .val (.long ra), .second, .val (.long sv), .second, .val (.long et), .second, .val (.ref b_1), .unset] [(.long (ra ||| sv))])) _
    refine XS.lload X_3.here hx rfl (hb hby at_80) rfl ?_
    show Steps p.tables e below (T_3.setTop (mkF m 82 #[.val (.long q0), .second, .val (.long q1), .second, .val (.long q2), .second, .val (.long q3), .second, .val (.long q4), .second, .val (.int p5), .val (.long ra), .second, .val (.long sv), .second, .val (.long et), .second, .val (.ref b_1), .unset] [(.long q3), (.long (ra ||| sv))])) _
    refine XS.lload X_3.here hx rfl (hb hby at_82) rfl ?_
    show Steps p.tables e below (T_3.setTop (mkF m 84 #[.val (.long q0), .second, .val (.long q1), .second, .val (.long q2), .second, .val (.long q3), .second, .val (.long q4), .second, .val (.int p5), .val (.long ra), .second, .val (.long sv), .second, .val (.long et), .second, .val (.ref b_1), .unset] [(.long et), (.long q3), (.long (ra ||| sv))])) _
    refine XS.lxor X_3.here hx rfl (hb hby at_84) rfl ?_
    show Steps p.tables e below (T_3.setTop (mkF m 85 #[.val (.long q0), .second, .val (.long q1), .second, .val (.long q2), .second, .val (.long q3), .second, .val (.long q4), .second, .val (.int p5), .val (.long ra), .second, .val (.long sv), .second, .val (.long et), .second, .val (.ref b_1), .unset] [(.long (q3 ^^^ et)), (.long (ra ||| sv))])) _
    refine XS.lor X_3.here hx rfl (hb hby at_85) rfl ?_
    show Steps p.tables e below (T_3.setTop (mkF m 86 #[.val (.long q0), .second, .val (.long q1), .second, .val (.long q2), .second, .val (.long q3), .second, .val (.long q4), .second, .val (.int p5), .val (.long ra), .second, .val (.long sv), .second, .val (.long et), .second, .val (.ref b_1), .unset] [(.long ((ra ||| sv) ||| (q3 ^^^ et)))])) _
    refine XS.lconst X_3.here hx rfl (hb hby at_86) ?_
    show Steps p.tables e below (T_3.setTop (mkF m 87 #[.val (.long q0), .second, .val (.long q1), .second, .val (.long q2), .second, .val (.long q3), .second, .val (.long q4), .second, .val (.int p5), .val (.long ra), .second, .val (.long sv), .second, .val (.long et), .second, .val (.ref b_1), .unset] [(.long (0 : Int64)), (.long ((ra ||| sv) ||| (q3 ^^^ et)))])) _
    refine XS.lcmp X_3.here hx rfl (hb hby at_87) rfl ?_
    have jn88 : ∀ target, Steps p.tables e below (T_3.setTop (mkF m 96 #[.val (.long q0), .second, .val (.long q1), .second, .val (.long q2), .second, .val (.long q3), .second, .val (.long q4), .second, .val (.int p5), .val (.long ra), .second, .val (.long sv), .second, .val (.long et), .second, .val (.ref b_1), .unset] [(.int ex)])) target → Steps p.tables e below (T_3.setTop (mkF m 88 #[.val (.long q0), .second, .val (.long q1), .second, .val (.long q2), .second, .val (.long q3), .second, .val (.long q4), .second, .val (.int p5), .val (.long ra), .second, .val (.long sv), .second, .val (.long et), .second, .val (.ref b_1), .unset] [(.int (lcmpW ((ra ||| sv) ||| (q3 ^^^ et)) (0 : Int64)))])) target := by
      intro target kt
      show Steps p.tables e below (T_3.setTop (mkF m 88 #[.val (.long q0), .second, .val (.long q1), .second, .val (.long q2), .second, .val (.long q3), .second, .val (.long q4), .second, .val (.int p5), .val (.long ra), .second, .val (.long sv), .second, .val (.long et), .second, .val (.ref b_1), .unset] [(.int (lcmpW ((ra ||| sv) ||| (q3 ^^^ et)) (0 : Int64)))])) _
      by_cases hj88_0 : (lcmpW ((ra ||| sv) ||| (q3 ^^^ et)) (0 : Int64)) = (0 : Int32)
      · refine XS.ifNo X_3.here hx rfl (hb hby at_88) rfl ((if0 _ _).trans (teq hj88_0).2) ?_
        show Steps p.tables e below (T_3.setTop (mkF m 91 #[.val (.long q0), .second, .val (.long q1), .second, .val (.long q2), .second, .val (.long q3), .second, .val (.long q4), .second, .val (.int p5), .val (.long ra), .second, .val (.long sv), .second, .val (.long et), .second, .val (.ref b_1), .unset] [])) _
        refine XS.iconst X_3.here hx rfl (hb hby at_91) ?_
        show Steps p.tables e below (T_3.setTop (mkF m 92 #[.val (.long q0), .second, .val (.long q1), .second, .val (.long q2), .second, .val (.long q3), .second, .val (.long q4), .second, .val (.int p5), .val (.long ra), .second, .val (.long sv), .second, .val (.long et), .second, .val (.ref b_1), .unset] [(.int (1 : Int32))])) _
        refine XS.goto X_3.here hx rfl (pc0 := 92) (pc' := 96) rfl (hb hby at_92) (by decide) (by decide) ?_
        rw [← hex_, if_pos hj88_0] at kt
        exact kt
      · refine XS.ifYes X_3.here hx rfl (pc0 := 88) (pc' := 95) rfl (hb hby at_88) rfl ((if0 _ _).trans (feq hj88_0).2) (by decide) (by decide) ?_
        show Steps p.tables e below (T_3.setTop (mkF m 95 #[.val (.long q0), .second, .val (.long q1), .second, .val (.long q2), .second, .val (.long q3), .second, .val (.long q4), .second, .val (.int p5), .val (.long ra), .second, .val (.long sv), .second, .val (.long et), .second, .val (.ref b_1), .unset] [])) _
        refine XS.iconst X_3.here hx rfl (hb hby at_95) ?_
        rw [← hex_, if_neg hj88_0] at kt
        exact kt
    refine jn88 _ ?_
    show Steps p.tables e below (T_3.setTop (mkF m 96 #[.val (.long q0), .second, .val (.long q1), .second, .val (.long q2), .second, .val (.long q3), .second, .val (.long q4), .second, .val (.int p5), .val (.long ra), .second, .val (.long sv), .second, .val (.long et), .second, .val (.ref b_1), .unset] [(.int ex)])) _
    refine XS.istore X_3.here hx rfl (hb hby at_96) rfl (l' := #[.val (.long q0), .second, .val (.long q1), .second, .val (.long q2), .second, .val (.long q3), .second, .val (.long q4), .second, .val (.int p5), .val (.long ra), .second, .val (.long sv), .second, .val (.long et), .second, .val (.ref b_1), .val (.int ex)]) rfl ?_
    show Steps p.tables e below (T_3.setTop (mkF m 98 #[.val (.long q0), .second, .val (.long q1), .second, .val (.long q2), .second, .val (.long q3), .second, .val (.long q4), .second, .val (.int p5), .val (.long ra), .second, .val (.long sv), .second, .val (.long et), .second, .val (.ref b_1), .val (.int ex)] [])) _
    refine XS.aload X_3.here hx rfl (hb hby at_98) rfl rfl ?_
    show Steps p.tables e below (T_3.setTop (mkF m 100 #[.val (.long q0), .second, .val (.long q1), .second, .val (.long q2), .second, .val (.long q3), .second, .val (.long q4), .second, .val (.int p5), .val (.long ra), .second, .val (.long sv), .second, .val (.long et), .second, .val (.ref b_1), .val (.int ex)] [(.ref b_1)])) _
    refine st_5.trans ?_
    show Steps p.tables e below (T_5.setTop (mkF m 103 #[.val (.long q0), .second, .val (.long q1), .second, .val (.long q2), .second, .val (.long q3), .second, .val (.long q4), .second, .val (.int p5), .val (.long ra), .second, .val (.long sv), .second, .val (.long et), .second, .val (.ref b_1), .val (.int ex)] [(.int (own_holds ra sv q3 et))])) _
    refine XS.iload X_5.here hx rfl (hb hby at_103) rfl ?_
    show Steps p.tables e below (T_5.setTop (mkF m 105 #[.val (.long q0), .second, .val (.long q1), .second, .val (.long q2), .second, .val (.long q3), .second, .val (.long q4), .second, .val (.int p5), .val (.long ra), .second, .val (.long sv), .second, .val (.long et), .second, .val (.ref b_1), .val (.int ex)] [(.int ex), (.int (own_holds ra sv q3 et))])) _
    refine XS.icmpNo X_5.here hx rfl (hb hby at_105) rfl (teq hc105).2 ?_
    show Steps p.tables e below (T_5.setTop (mkF m 108 #[.val (.long q0), .second, .val (.long q1), .second, .val (.long q2), .second, .val (.long q3), .second, .val (.long q4), .second, .val (.int p5), .val (.long ra), .second, .val (.long sv), .second, .val (.long et), .second, .val (.ref b_1), .val (.int ex)] [])) _
    refine XS.iconst X_5.here hx rfl (hb hby at_108) ?_
    show Steps p.tables e below (T_5.setTop (mkF m 109 #[.val (.long q0), .second, .val (.long q1), .second, .val (.long q2), .second, .val (.long q3), .second, .val (.long q4), .second, .val (.int p5), .val (.long ra), .second, .val (.long sv), .second, .val (.long et), .second, .val (.ref b_1), .val (.int ex)] [(.int (1 : Int32))])) _
    refine XS.goto X_5.here hx rfl (pc0 := 109) (pc' := 113) rfl (hb hby at_109) (by decide) (by decide) ?_
    show Steps p.tables e below (T_5.setTop (mkF m 113 #[.val (.long q0), .second, .val (.long q1), .second, .val (.long q2), .second, .val (.long q3), .second, .val (.long q4), .second, .val (.int p5), .val (.long ra), .second, .val (.long sv), .second, .val (.long et), .second, .val (.ref b_1), .val (.int ex)] [(.int (1 : Int32))])) _
    exact retN X_5 hx (t := .boolean) Bd.returns (by simp) (hb hby at_113) hr
  · show Q0 Z  h0 n0 _ T_5.heap _
    rw [eq_5]
    exact ⟨rfl, N_5⟩
set_option maxRecDepth 65536 in
set_option maxHeartbeats 40000000 in
theorem comes_1 {Post : Tables → Env → Array Value → State → Outcome → State → Prop} (hpost : ∀ tb e args s v u, (limb_1_1.after args s (.returned v) u = true ∧ limb_1_2.after args s (.returned v) u = true ∧ True) → FrameEnd s (.returned v) u (Jvm.fieldLocs frame_1_writes args s ++ Jvm.arrayLocs frame_1_arrays args s ++ Jvm.staticLocs frame_1_statics s) 16 128 → Post tb e args s (.returned v) u) :
    ArmFor flags0 classFile x code maxLocals ret World_1 tables_1 room_1 Calls_1 rest_1 Pre_1 Post := by
  intro l hfl _ _ p e ha hc hk s m args below hf hA hF happ hP
  obtain ⟨hcalls, hrest, hpre⟩ := hP
  obtain ⟨-, -, -, hnamed, -, -, -, hat⟩ := (Spec.applies_iff hf).mp happ
  obtain ⟨hg, hn⟩ := and_e (Cond.before_iff.mp (show (Jvm.Cond.and given_1 narrow_1).before args s = true from hpre))
  obtain ⟨g1, hg⟩ := and_e hg
  obtain ⟨g2, hg⟩ := and_e hg
  obtain ⟨g3, hg⟩ := and_e hg
  obtain ⟨g4, hg⟩ := and_e hg
  obtain ⟨g5, hg⟩ := and_e hg
  obtain ⟨g6, hg⟩ := and_e hg
  obtain ⟨w0, w1, w2, w3, w4, w5, rfl⟩ : ∃ w0 w1 w2 w3 w4 w5 : Value, args = #[w0, w1, w2, w3, w4, w5] := by
    have hs : args.size = 6 := by simpa [Cond.value, given_1] using g1
    obtain ⟨L⟩ := args
    match L, hs with
    | [w0, w1, w2, w3, w4, w5], _ => exact ⟨w0, w1, w2, w3, w4, w5, rfl⟩
  have hw := fun d (hd : d ∈ tables_1) => atoms_spec (ws := Jvm.Cond.code x code maxLocals ret :: tables_1) hat d (List.mem_cons_of_mem _ hd)
  obtain ⟨i0, ei0⟩ := isL_v g2
  obtain rfl : w0 = (.long i0) := Option.some.inj ei0
  obtain ⟨i1, ei1⟩ := isL_v g3
  obtain rfl : w1 = (.long i1) := Option.some.inj ei1
  obtain ⟨i2, ei2⟩ := isL_v g4
  obtain rfl : w2 = (.long i2) := Option.some.inj ei2
  obtain ⟨i3, ei3⟩ := isL_v g5
  obtain rfl : w3 = (.long i3) := Option.some.inj ei3
  obtain ⟨i4, ei4⟩ := isL_v g6
  obtain rfl : w4 = (.long i4) := Option.some.inj ei4
  obtain ⟨i5, ei5⟩ := is_v hg
  obtain rfl : w5 = (.int i5) := Option.some.inj ei5

  obtain ⟨n, o, h1, h2, h3, _, L, rfl, ⟨rfl, N⟩, hq⟩ := rm0 l s _ hw tables_1 i0 i1 i2 i3 i4 i5 _ _ _ _ s.heap s.heap.size (Nat.le_refl _) rfl rfl rfl rfl (own_law _ _ _ _) p e ha hc hk s m _ below hf ((Spec.applies_iff_loose hf).mp happ).1 ⟨rfl, State.Warmed39.refl s, rfl⟩ trivial
  refine ⟨n, _, h1, h2, h3, hpost _ _ _ _ _ _ ⟨Cond.after_iff.mpr rfl, Cond.after_iff.mpr (eq_i res_at (Term.int_eval (1)) rfl), trivial⟩ ⟨hq.1, hq.2.1, (hq.2.2.sift fun y hy => Or.inr (N y hy)).mono (by decide) (by decide)⟩⟩
theorem main_1_1 : Claimed_1_1 := comes_1 fun _ _ _ _ _ _ h hF => ⟨h.1, hF⟩
theorem main_1_2 : Claimed_1_2 := comes_1 fun _ _ _ _ _ _ h hF => ⟨h.2.1, hF⟩
end Jvm.Pilot.@@N@@
namespace Jvm.Pilot.@@N@@
open Jvm Jvm.ClassFile Sem Op Lib Jvm.Free Jvm.Stand Jvm.Pilot.@@N@@.Jvm.D
/-! MADE BY PROGRAM (witnessworld.py) out of the Statement's table words and the real class files: 10 classes; the members and pool entries that the words name. The judged class is class 1, her method 1. -/
namespace start1
open Jvm.ClassFile
def u (s : String) : CpInfo := .utf8 (stringToUtf16 s)
/-- a pool by its gaps: so many unusable entries, then the entry; so many at the end -/
def gap : Nat → List CpInfo → List CpInfo
  | 0, r => r
  | n + 1, r => .unusable :: gap n r
def poolList (es : List (Nat × CpInfo)) (last : Nat) : List CpInfo := es.foldr (fun e r => gap e.1 (e.2 :: r)) (gap last [])
def pool (es : List (Nat × CpInfo)) (last : Nat) : Array CpInfo := ⟨poolList es last⟩
def fileOf (pool : Array CpInfo) (this : Nat) (attrs : Array Attribute := #[]) (ms : Array MethodInfo := #[]) (fl : Nat := 33) (sup : Nat := 0) (ifs : Array Nat := #[]) (fds : Array FieldInfo := #[]) : ClassFile where
  minorVersion := 0
  majorVersion := 65
  constantPool := pool
  accessFlags := fl
  thisClass := this
  superClass := sup
  interfaces := ifs
  fields := fds
  methods := ms
  attributes := attrs
def plain (name : String) (sup : Option ClassId) : Class where
  name := name
  kind := .ordinary
  loader := none
  accessFlags := 33
  super := sup
  interfaces := #[]
  cf := none
  fields := #[]
  methods := #[]
  instanceTypes := #[]
  staticTypes := #[]
  resolved := #[]
  callSites := []
  init := .initialized
  statics := none
  mirror := none

def pool0 : Array CpInfo := pool [(5, u "<init>"), (0, u "()V"), (1, .class_ 10), (1, u "java/lang/Object")] 113

def k0c0 : Code := { maxStack := 0, maxLocals := 1, code := object_method_1_code, exceptionTable := #[], attributes := #[] }
def k0m0 : Method := { name := "<init>", desc := "()V", sig := { parameters := [], returnType := none }, accessFlags := 1, code := some k0c0 }
/-- java/lang/Object -/
def k0 : Class := { plain "java/lang/Object" none with
  accessFlags := 33
  interfaces := #[]
  cf := some (fileOf pool0 8 #[] #[{ accessFlags := 1, nameIndex := 5, descriptorIndex := 6, attributes := #[] }] 33 0 #[] #[])
  fields := #[]
  methods := #[k0m0]
  instanceTypes := #[]
  staticTypes := #[]
  resolved := Array.replicate 124 none
  statics := none }

def pool1 : Array CpInfo := pool [(2, .class_ 4), (1, u "java/lang/Object"), (0, u "<init>"), (0, u "()V"), (0, .class_ 8), (0, u "com/example/tideglass/tideglass/bench/BankWorkload$Result"), (0, .long 18446744073709551615), (1, .methodref 7 12), (0, .nameAndType 5 13), (0, u "(JJJJJJJJ)V"), (0, .methodref 7 15), (0, .nameAndType 16 17), (0, u "holds"), (0, u "()Z"), (0, .class_ 19), (0, u "com/example/tideglass/tideglass/bench/ResultHoldsPinLaw"), (2, u "law"), (0, u "(JJJJJI)Z")] 7

def k1m0 : Method := { name := "<init>", desc := "()V", sig := { parameters := [], returnType := none }, accessFlags := 1, code := none }
def k1c1 : Code := { maxStack := 18, maxLocals := 19, code := code, exceptionTable := #[], attributes := #[] }
def k1m1 : Method := { name := "law", desc := "(JJJJJI)Z", sig := { parameters := [.long, .long, .long, .long, .long, .int], returnType := some .boolean }, accessFlags := 9, code := some k1c1 }
/-- com/example/tideglass/tideglass/bench/ResultHoldsPinLaw -/
def k1 : Class := { plain "com/example/tideglass/tideglass/bench/ResultHoldsPinLaw" (some 0) with
  accessFlags := 49
  interfaces := #[]
  cf := some (fileOf pool1 18 #[] #[{ accessFlags := 1, nameIndex := 5, descriptorIndex := 6, attributes := #[] }, { accessFlags := 9, nameIndex := 22, descriptorIndex := 23, attributes := #[] }] 49 2 #[] #[])
  fields := #[]
  methods := #[k1m0, k1m1]
  instanceTypes := #[]
  staticTypes := #[]
  resolved := Array.replicate 31 none
  statics := none }

def pool2 : Array CpInfo := pool [(1, .methodref 2 3), (0, .class_ 4), (0, .nameAndType 5 6), (0, u "java/lang/Object"), (0, u "<init>"), (0, u "()V"), (0, .class_ 8), (0, u "java/lang/Record")] 13

def k2c0 : Code := { maxStack := 1, maxLocals := 1, code := jdk_30_method_1_code, exceptionTable := #[], attributes := #[] }
def k2m0 : Method := { name := "<init>", desc := "()V", sig := { parameters := [], returnType := none }, accessFlags := 4, code := some k2c0 }
/-- java/lang/Record -/
def k2 : Class := { plain "java/lang/Record" (some 0) with
  accessFlags := 1057
  interfaces := #[]
  cf := some (fileOf pool2 7 #[] #[{ accessFlags := 4, nameIndex := 5, descriptorIndex := 6, attributes := #[] }] 1057 2 #[] #[])
  fields := #[]
  methods := #[k2m0]
  instanceTypes := #[]
  staticTypes := #[]
  resolved := Array.replicate 22 none
  statics := none }

def pool3 : Array CpInfo := pool [(1, .methodref 2 3), (0, .class_ 4), (0, .nameAndType 5 6), (0, u "java/lang/Record"), (0, u "<init>"), (0, u "()V"), (0, .fieldref 8 9), (0, .class_ 10), (0, .nameAndType 11 12), (0, u "com/example/tideglass/tideglass/bench/BankWorkload$Result"), (0, u "committedTransfers"), (0, u "J"), (0, .fieldref 8 14), (0, .nameAndType 15 12), (0, u "crossPartitionTransfers"), (0, .fieldref 8 17), (0, .nameAndType 18 12), (0, u "abortedTransfers"), (0, .fieldref 8 20), (0, .nameAndType 21 12), (0, u "readonlyCommitted"), (0, .fieldref 8 23), (0, .nameAndType 24 12), (0, u "readonlyAborted"), (0, .fieldref 8 26), (0, .nameAndType 27 12), (0, u "snapshotSumViolations"), (0, .fieldref 8 29), (0, .nameAndType 30 12), (0, u "finalTotal"), (0, .fieldref 8 32), (0, .nameAndType 33 12), (0, u "expectedTotal"), (12, u "(JJJJJJJJ)V"), (3, u "holds"), (0, u "()Z"), (8, .class_ 61), (0, u "com/example/tideglass/tideglass/bench/BankWorkload")] 26

def k3c0 : Code := { maxStack := 3, maxLocals := 17, code := prog_3_method_1_code, exceptionTable := #[], attributes := #[] }
def k3m0 : Method := { name := "<init>", desc := "(JJJJJJJJ)V", sig := { parameters := [.long, .long, .long, .long, .long, .long, .long, .long], returnType := none }, accessFlags := 1, code := some k3c0 }
def k3c1 : Code := { maxStack := 4, maxLocals := 1, code := prog_3_method_2_code, exceptionTable := #[], attributes := #[] }
def k3m1 : Method := { name := "holds", desc := "()Z", sig := { parameters := [], returnType := some .boolean }, accessFlags := 1, code := some k3c1 }
/-- com/example/tideglass/tideglass/bench/BankWorkload$Result -/
def k3 : Class := { plain "com/example/tideglass/tideglass/bench/BankWorkload$Result" (some 2) with
  accessFlags := 49
  interfaces := #[]
  cf := some (fileOf pool3 8 #[.nestHost 60] #[{ accessFlags := 1, nameIndex := 5, descriptorIndex := 46, attributes := #[] }, { accessFlags := 1, nameIndex := 50, descriptorIndex := 51, attributes := #[] }] 49 2 #[] #[{ accessFlags := 18, nameIndex := 11, descriptorIndex := 12, attributes := #[] }, { accessFlags := 18, nameIndex := 15, descriptorIndex := 12, attributes := #[] }, { accessFlags := 18, nameIndex := 18, descriptorIndex := 12, attributes := #[] }, { accessFlags := 18, nameIndex := 21, descriptorIndex := 12, attributes := #[] }, { accessFlags := 18, nameIndex := 24, descriptorIndex := 12, attributes := #[] }, { accessFlags := 18, nameIndex := 27, descriptorIndex := 12, attributes := #[] }, { accessFlags := 18, nameIndex := 30, descriptorIndex := 12, attributes := #[] }, { accessFlags := 18, nameIndex := 33, descriptorIndex := 12, attributes := #[] }])
  fields := #[{ name := "committedTransfers", type := .long, accessFlags := 18, slot := 0, constantValue := 0 }, { name := "crossPartitionTransfers", type := .long, accessFlags := 18, slot := 1, constantValue := 0 }, { name := "abortedTransfers", type := .long, accessFlags := 18, slot := 2, constantValue := 0 }, { name := "readonlyCommitted", type := .long, accessFlags := 18, slot := 3, constantValue := 0 }, { name := "readonlyAborted", type := .long, accessFlags := 18, slot := 4, constantValue := 0 }, { name := "snapshotSumViolations", type := .long, accessFlags := 18, slot := 5, constantValue := 0 }, { name := "finalTotal", type := .long, accessFlags := 18, slot := 6, constantValue := 0 }, { name := "expectedTotal", type := .long, accessFlags := 18, slot := 7, constantValue := 0 }]
  methods := #[k3m0, k3m1]
  instanceTypes := #[.long, .long, .long, .long, .long, .long, .long, .long]
  staticTypes := #[]
  resolved := Array.replicate 88 none
  statics := none }

def pool4 : Array CpInfo := pool [(1, u "java/lang/Cloneable"), (0, .class_ 1), (0, u "java/lang/Object"), (0, .class_ 3)] 3

/-- java/lang/Cloneable -/
def k4 : Class := { plain "java/lang/Cloneable" (some 0) with
  accessFlags := 1537
  interfaces := #[]
  cf := some (fileOf pool4 2 #[] #[] 1537 4 #[] #[])
  fields := #[]
  methods := #[]
  instanceTypes := #[]
  staticTypes := #[]
  resolved := Array.replicate 8 none
  statics := none }

def pool5 : Array CpInfo := pool [(1, u "java/io/Serializable"), (0, .class_ 1), (0, u "java/lang/Object"), (0, .class_ 3)] 3

/-- java/io/Serializable -/
def k5 : Class := { plain "java/io/Serializable" (some 0) with
  accessFlags := 1537
  interfaces := #[]
  cf := some (fileOf pool5 2 #[] #[] 1537 4 #[] #[])
  fields := #[]
  methods := #[]
  instanceTypes := #[]
  staticTypes := #[]
  resolved := Array.replicate 8 none
  statics := none }

/-- the primitive byte -/
def k6 : Class := { plain "byte" none with kind := .primitive 'B', accessFlags := 0x411 }
/-- [B -/
def k7 : Class := { plain "[B" (some 0) with kind := .array 6 .byte, interfaces := #[4, 5], accessFlags := 1041 }

/-- the primitive int -/
def k8 : Class := { plain "int" none with kind := .primitive 'I', accessFlags := 0x411 }
/-- [I -/
def k9 : Class := { plain "[I" (some 0) with kind := .array 8 .int, interfaces := #[4, 5], accessFlags := 1041 }

def heap : Heap := #[]
def classes : Array Class := #[k0, k1, k2, k3, k4, k5, k6, k7, k8, k9]
def interned : List (Array UInt16 × Addr) := []
def slotsUsed : Nat := 0
def theMethod : MethodId := ⟨1, 1⟩
def args0 : Array Value := #[.long 5, .long 5, .long 5, .long 5, .long 5, .int 5]
def aboutOver (below : List Frame) : State where
  vm := { classes := classes, interned := interned.toArray }
  heap := heap
  slotsUsed := slotsUsed
  threads := #[{ frames := .invoking theMethod args0 :: below }]
def below0 : List Frame := [.native { method := ⟨0, 0⟩, args := #[] }]
def about1 : State := aboutOver below0
def p0 : Program := .bare "" "" ""
def e0 : Env := launch0.env 0 0 0
theorem w_frames : about1.frames = Frame.invoking theMethod args0 :: below0 := rfl
set_option maxRecDepth 65536 in
theorem w_args : argsFit about1.vm theMethod args0 = true := by decide +kernel
set_option maxRecDepth 65536 in
theorem w_heap : heapFits about1 = true := by decide +kernel
set_option maxRecDepth 65536 in
theorem w_runnable : about1.curStatus? = some .runnable := by decide +kernel
set_option maxRecDepth 65536 in
theorem w_alone : about1.alone = true := by decide +kernel
set_option maxRecDepth 65536 in
theorem w_named : about1.methodNamed? x = some theMethod := by decide +kernel
set_option maxRecDepth 65536 in
theorem w_hears : about1.hears theMethod below0 = true := by decide +kernel
set_option maxRecDepth 65536 in
theorem w_ripe : about1.ripe theMethod args0 below0 = true := by decide +kernel
theorem w_running : about1.status = .running := rfl
set_option maxRecDepth 65536 in
theorem w_room : about1.hasRoom e0.platform room_1 = true :=
  launch0.hasRoom_least _ room_1 (by decide +kernel) (by decide +kernel) (by decide +kernel) (by decide +kernel) (by decide +kernel) (by decide +kernel)
theorem allAtoms_all (ts : List Jvm.Cond) (a : Array Jvm.Value) (st : Jvm.State) : (allAtoms ts).before a st = ts.all (fun c => c.before a st) := by
  induction ts with
  | nil => rfl
  | cons c t ih =>
    show (Jvm.Cond.and c (allAtoms t)).before a st = _
    rw [Jvm.Cond.before_and, ih, List.all_cons]
def words1 : List Jvm.Cond := Jvm.Cond.code x code maxLocals ret :: tables_1
/-- a 'code' word, met by the world's own term for the bytes: nothing is compared byte by byte -/
theorem code_word {y : MethodName} {bytes : ByteArray} {mx : Nat} {rt : Option FieldType} {a : Array Value} {s : State} {m : MethodId} {meth : Method} {c : Code} (h1 : s.methodNamed? y = some m) (h2 : s.vm.method? m = some meth) (h3 : meth.code = some c) (h4 : c.code = bytes)
    (h5 : (c.maxLocals == mx && c.exceptionTable.isEmpty && decide (c.maxStack ≤ mostOperands) && decide (meth.sig.returnType = rt) && !meth.locks && decide (parseMethodDescriptor y.desc = some meth.sig)) = true) : (Jvm.Cond.code y bytes mx rt).before a s = true := by
  simp only [Bool.and_eq_true, beq_iff_eq, Bool.not_eq_true', decide_eq_true_eq] at h5
  obtain ⟨⟨⟨⟨⟨g1, g2⟩, g3⟩, g4⟩, g5⟩, g6⟩ := h5
  simp [Cond.before, Cond.holds, Cond.value, h1, h2, h3, h4, g1, g2, g3, g4, g5, g6]
def isCode : Jvm.Cond → Bool
  | .code _ _ _ _ => true
  | _ => false
theorem all_split {L : List Jvm.Cond} {P : Jvm.Cond → Bool} (h1 : L.all (fun c => isCode c || P c) = true) (h2 : ∀ c ∈ L.filter isCode, P c = true) : L.all P = true := by
  refine List.all_eq_true.mpr fun c hc => ?_
  have h := List.all_eq_true.mp h1 c hc
  rcases Bool.eq_false_or_eq_true (isCode c) with hi | hi
  · exact h2 c (List.mem_filter.mpr ⟨hc, hi⟩)
  · simpa [hi] using h
set_option maxRecDepth 65536 in
theorem w_c0 : (Jvm.Cond.code x code maxLocals ret).before args0 about1 = true := code_word (m := ⟨1, 1⟩) (meth := k1m1) (c := k1c1) (by decide +kernel) rfl rfl rfl (by decide +kernel)
set_option maxRecDepth 65536 in
theorem w_c1 : (Jvm.Cond.code ({ cls := "com/example/tideglass/tideglass/bench/BankWorkload$Result", name := "<init>", desc := "(JJJJJJJJ)V" } : Jvm.MethodName) prog_3_method_1_code (17 : Nat) (Option.none : Option Jvm.ClassFile.FieldType)).before args0 about1 = true := code_word (m := ⟨3, 0⟩) (meth := k3m0) (c := k3c0) (by decide +kernel) rfl rfl rfl (by decide +kernel)
set_option maxRecDepth 65536 in
theorem w_c2 : (Jvm.Cond.code ({ cls := "java/lang/Record", name := "<init>", desc := "()V" } : Jvm.MethodName) jdk_30_method_1_code (1 : Nat) (Option.none : Option Jvm.ClassFile.FieldType)).before args0 about1 = true := code_word (m := ⟨2, 0⟩) (meth := k2m0) (c := k2c0) (by decide +kernel) rfl rfl rfl (by decide +kernel)
set_option maxRecDepth 65536 in
theorem w_c3 : (Jvm.Cond.code ({ cls := "java/lang/Object", name := "<init>", desc := "()V" } : Jvm.MethodName) object_method_1_code (1 : Nat) (Option.none : Option Jvm.ClassFile.FieldType)).before args0 about1 = true := code_word (m := ⟨0, 0⟩) (meth := k0m0) (c := k0c0) (by decide +kernel) rfl rfl rfl (by decide +kernel)
set_option maxRecDepth 65536 in
theorem w_c4 : (Jvm.Cond.code ({ cls := "com/example/tideglass/tideglass/bench/BankWorkload$Result", name := "holds", desc := "()Z" } : Jvm.MethodName) prog_3_method_2_code (1 : Nat) (Option.some Jvm.ClassFile.FieldType.boolean)).before args0 about1 = true := code_word (m := ⟨3, 1⟩) (meth := k3m1) (c := k3c1) (by decide +kernel) rfl rfl rfl (by decide +kernel)
def codes1 : List Jvm.Cond := [Jvm.Cond.code x code maxLocals ret, Jvm.Cond.code ({ cls := "com/example/tideglass/tideglass/bench/BankWorkload$Result", name := "<init>", desc := "(JJJJJJJJ)V" } : Jvm.MethodName) prog_3_method_1_code (17 : Nat) (Option.none : Option Jvm.ClassFile.FieldType), Jvm.Cond.code ({ cls := "java/lang/Record", name := "<init>", desc := "()V" } : Jvm.MethodName) jdk_30_method_1_code (1 : Nat) (Option.none : Option Jvm.ClassFile.FieldType), Jvm.Cond.code ({ cls := "java/lang/Object", name := "<init>", desc := "()V" } : Jvm.MethodName) object_method_1_code (1 : Nat) (Option.none : Option Jvm.ClassFile.FieldType), Jvm.Cond.code ({ cls := "com/example/tideglass/tideglass/bench/BankWorkload$Result", name := "holds", desc := "()Z" } : Jvm.MethodName) prog_3_method_2_code (1 : Nat) (Option.some Jvm.ClassFile.FieldType.boolean)]
set_option maxRecDepth 65536 in
theorem codes_eq : words1.filter isCode = codes1 := rfl
theorem w_codes : ∀ c ∈ words1.filter isCode, c.before args0 about1 = true := by
  rw [codes_eq]
  intro c hc
  simp only [codes1, List.mem_cons, List.not_mem_nil, or_false] at hc
  rcases hc with rfl | rfl | rfl | rfl | rfl
  · exact w_c0
  · exact w_c1
  · exact w_c2
  · exact w_c3
  · exact w_c4
set_option maxRecDepth 65536 in
theorem w_t1 : (words1.take 24).all (fun c => isCode c || c.before args0 about1) = true := by decide +kernel
set_option maxRecDepth 65536 in
theorem w_t2 : (words1.drop 24).all (fun c => isCode c || c.before args0 about1) = true := by decide +kernel
theorem w_tables : (allAtoms (Jvm.Cond.code x code maxLocals ret :: tables_1)).before args0 about1 = true := by
  rw [allAtoms_all]
  show words1.all (fun c => c.before args0 about1) = true
  refine all_split ?_ w_codes
  rw [← List.take_append_drop 24 words1, List.all_append, w_t1, w_t2]
  rfl
set_option maxRecDepth 65536 in
theorem w_case : (Jvm.Cond.and given_1 narrow_1).before args0 about1 = true := by decide +kernel
theorem w_applies : (headSpec (Jvm.Cond.code x code maxLocals ret :: tables_1) room_1).applies x e0.platform about1 = true :=
  (Spec.applies_iff w_frames).mpr ⟨w_running, w_runnable, w_alone, w_named, w_hears, w_ripe, w_room, w_tables⟩
theorem atStart : AtStart classFile x code maxLocals ret World_1 tables_1 room_1 Calls_1 rest_1 Pre_1 launch0 p0 e0 about1 theMethod args0 below0 :=
  ⟨lists_1, trivial, launch0.admits_env _ _ _, launch0.least_env, fairChoices_fair.cas, fairChoices_fair.clock, w_frames, w_args, w_heap, w_applies, trivial, trivial, w_case⟩
end start1
theorem witness_1 : WitnessClaimed_1 := ⟨start1.p0, start1.e0, start1.about1, start1.theMethod, start1.args0, start1.below0, start1.atStart⟩
end Jvm.Pilot.@@N@@
