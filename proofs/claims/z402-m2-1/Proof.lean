import JvmDerived
import JvmDerived.Pilot.@@N@@Statement
import JvmDerived.Pilot.@@N@@Code
set_option linter.unusedVariables false
set_option linter.unusedSimpArgs false
namespace Jvm.RoadKit
open Sem ClassFile Op Lib Jvm.Stand Jvm.Free Jvm.LawKit
section New
variable {p : Program} {l : Launch} {e : Env} {R : Room} {s : State} {m : MethodId} {args : Array Value} {below : List Frame} {meth : Method} {c : Code} {T : State} {locs : List Loc} {cells slots : Nat}
theorem retI (X : Stand p l e R s m args below meth c T locs cells slots) (hx : p.tables.exec = Jvm.exec) {pc : Nat} {Ls : Array Slot} {z : Int32} {rest : List Value} (hret : meth.sig.returnType = some .int) (hd : decode c.code pc = .ok (.ireturn, 1)) {fs : List Frame}
    (hl : ∀ (f : JFrame) (acts : List Action), f.method = m → f.locked = none → f.entered = [] → (doReturn e (T.setTop f) acts (some (.int z))).1 = T.setFrames fs) : Steps p.tables e below (T.setTop (mkF m pc Ls (.int z :: rest))) (T.setFrames fs) := by
  have hm' : T.vm.method? m = some meth := X.method'
  have hn : narrow .int (.int z) = .int z := rfl
  show Steps p.tables e below (T.setTop { method := m, pc := pc, locals := Ls, stack := _ :: rest, locked := none }) _
  jvm_step X.here [X.here.top, hx, hd, hm', hret, hn]
  first | (intro acts; rw [hl _ acts rfl rfl rfl]) | rw [hl _ _ rfl rfl rfl]
  exact Steps.refl _
end New
end Jvm.RoadKit
namespace Jvm.Pilot.@@N@@
open Jvm Jvm.ClassFile Sem Op Lib Jvm.Free Jvm.Stand Jvm.LawKit Jvm.RoadKit Bundle Jvm.Pilot.@@N@@.Jvm.D
/-! an array of n places; place j holds f j -/
def ArrF (Z : State) (h : Heap) (a : Addr) (ty : FieldType) (n : Int32) (f : Nat → Value) : Prop := ∃ c : Cell, Arr Z h a c ty ∧ c.slots.size = n.toNatClampNeg ∧ ¬ n < 0 ∧ ∀ j, j < n.toNatClampNeg → c.slots[j]? = some (f j)
theorem ArrF.lt {Z : State} {h : Heap} {a : Addr} {ty : FieldType} {n : Int32} {f : Nat → Value} (F : ArrF Z h a ty n f) : a < h.size := by obtain ⟨c, A, -⟩ := F; exact A.lt
theorem ArrF.ext {Z : State} {h h' : Heap} {a : Addr} {ty : FieldType} {n : Int32} {f : Nat → Value} (F : ArrF Z h a ty n f) (E : Ext h h') : ArrF Z h' a ty n f := by obtain ⟨c, A, r⟩ := F; exact ⟨c, A.ext E, r⟩
theorem ArrF.other {Z : State} {h h' : Heap} {a b : Addr} {sl : Nat} {v : Value} {ty : FieldType} {n : Int32} {f : Nat → Value} (F : ArrF Z h b ty n f) (W : Wr h h' a sl v) (q : b ≠ a) : ArrF Z h' b ty n f := by obtain ⟨c, A, r⟩ := F; exact ⟨c, A.other W q, r⟩
theorem ArrF.keep {Z : State} {h h' : Heap} {a : Addr} {ws : List Addr} {ty : FieldType} {n : Int32} {f : Nat → Value} (F : ArrF Z h a ty n f) (K : Keep h h' ws) (q : a ∉ ws) : ArrF Z h' a ty n f := by obtain ⟨c, A, r⟩ := F; exact ⟨c, ⟨K.2.1 a c A.1 q, A.2⟩, r⟩
theorem ArrF.of_new {Z : State} {h : Heap} {a : Addr} {k : ClassId} {ty : FieldType} {n : Int32} (A : Arr Z h a (newA k ty n) ty) (q : ¬ n < 0) : ArrF Z h a ty n (fun _ => defaultValue ty) := ⟨_, A, sz_new _ _ _, q, fun j hj => by simp [newA, hj]⟩
theorem ArrF.congr {Z : State} {h : Heap} {a : Addr} {ty : FieldType} {n : Int32} {f g : Nat → Value} (F : ArrF Z h a ty n f) (q : ∀ j, j < n.toNatClampNeg → f j = g j) : ArrF Z h a ty n g := by obtain ⟨c, A, r1, r2, r3⟩ := F; exact ⟨c, A, r1, r2, fun j hj => by rw [← q j hj]; exact r3 j hj⟩
theorem ArrF.set {Z : State} {h h' : Heap} {a : Addr} {ty : FieldType} {n : Int32} {f : Nat → Value} {c : Cell} {k : Nat} {v : Value} (A : Arr Z h a c ty) (r1 : c.slots.size = n.toNatClampNeg) (r2 : ¬ n < 0) (r3 : ∀ j, j < n.toNatClampNeg → c.slots[j]? = some (f j)) (W : Wr h h' a k v) : ArrF Z h' a ty n (fun j => if j = k then v else f j) := by
  refine ⟨_, A.same W, by rw [sz_set]; exact r1, r2, fun j hj => ?_⟩
  by_cases u : j = k
  · subst u; simp [Cell.setSlot, r1, hj]
  · show _ = some (if j = k then v else f j)
    rw [if_neg u, ← r3 j hj]; simp only [Cell.setSlot]; exact Array.getElem?_setIfInBounds_ne (Ne.symm u)
theorem own_idx {j n : Int32} (q0 : ¬ j < 0) (q1 : j < n) : j.toNatClampNeg < n.toNatClampNeg := by
  rw [Int32.lt_iff_toInt_lt] at q0 q1
  have e0 : (0 : Int32).toInt = 0 := rfl
  simp only [Int32.toNatClampNeg] at *; omega

theorem own_selp {Z s : State} {a0 args : Array Value} {n : Nat} (hZ : Z.Warmed39 s.vm) {y : MethodName} (wi : (Cond.instantiable y.cls n).before a0 Z = true) (w1 : (Cond.privateMethod y).before a0 Z = true) (w2 : (Cond.instanceMethod y).before a0 Z = true) (hy : y.cls ≠ "java/lang/invoke/MethodHandle" ∧ y.cls ≠ "java/lang/invoke/VarHandle") : (Cond.selects y.cls y y).before args s = true := by
  obtain ⟨c, k, h1, h2, -, h4, -⟩ := Cond.instantiable_spec (mv (args := args) hZ wi)
  exact selects_self_of_private h1 h2 (Bool.or_eq_false_iff.mp h4).1 (Cond.privateMethod_at (mvP (args := args) hZ w1)) (mv hZ w2) hy

/-! ## the plain part -/
def own_hash (p0 p1 p2 : Int32) : Int32 := ((((p0 * (-1640531535 : Int32)) + p1) * (-2048144777 : Int32)) + p2) ^^^ ((((((p0 * (-1640531535 : Int32)) + p1) * (-2048144777 : Int32)) + p2).toUInt32 >>> ((15 : Int32) &&& 31).toUInt32).toInt32)
theorem own_2047 : ((2048 : Int32) - (1 : Int32)) = (2047 : Int32) := by decide
theorem own_3 : ((2 : Int32) + (1 : Int32)) = (3 : Int32) := by decide
theorem own_mask (r : Int32) : ¬ (r &&& (2047 : Int32)) < 0 ∧ (r &&& (2047 : Int32)) < 2048 := by
  have h := c_mask r 2047 11 (by decide) (by decide)
  have q : ((2 ^ 11 : Nat) : Int) = 2048 := rfl
  rw [q] at h
  have e0 : (0 : Int32).toInt = 0 := rfl
  have e1 : (2048 : Int32).toInt = 2048 := rfl
  rw [Int32.lt_iff_toInt_lt, Int32.lt_iff_toInt_lt, e0, e1, h]
  omega
theorem own_pos (r : Int32) : ¬ ((r &&& (2147483647 : Int32)) < (0 : Int32)) := by
  have h := c_mask r 2147483647 31 (by decide) (by decide)
  have q : ((2 ^ 31 : Nat) : Int) = 2147483648 := rfl
  rw [q] at h
  have e0 : (0 : Int32).toInt = 0 := rfl
  rw [Int32.lt_iff_toInt_lt, e0, h]
  omega
theorem own_zero {nn : Int32} (h : ¬ nn < 0) : nn.toInt - (0 : Int32).toInt = (nn.toInt.toNat : Int) := by
  have e0 : (0 : Int32).toInt = 0 := rfl
  rw [Int32.lt_iff_toInt_lt, e0] at h
  rw [e0]; omega
theorem own_next {i nn : Int32} (h : ¬ i < 0) (hl : i < nn) : (i + 1).toInt = i.toInt + 1 ∧ ¬ (i + 1) < 0 ∧ (i + 1).toNatClampNeg = i.toNatClampNeg + 1 := by
  have e0 : (0 : Int32).toInt = 0 := rfl
  have e1 : (1 : Int32).toInt = 1 := rfl
  have r1 := rng32 nn
  have r2 := rng32 (i + 1)
  have q := c_iadd i 1
  rw [Int32.lt_iff_toInt_lt, e0] at h
  rw [Int32.lt_iff_toInt_lt] at hl
  rw [e1] at q
  have u : (i + 1).toInt = i.toInt + 1 := by omega
  refine ⟨u, by rw [Int32.lt_iff_toInt_lt, e0]; omega, by simp only [Int32.toNatClampNeg]; omega⟩

theorem d5_5 : decode jdk_65_method_103_code 5 = .ok (.iload_n 2, 1) := by decide +kernel
theorem d5_6 : decode jdk_65_method_103_code 6 = .ok (.iload_n 3, 1) := by decide +kernel
theorem d5_7 : decode jdk_65_method_103_code 7 = .ok (.if_icmp .ge 13, 3) := by decide +kernel
theorem d5_10 : decode jdk_65_method_103_code 10 = .ok (.aload_n 0, 1) := by decide +kernel
theorem d5_11 : decode jdk_65_method_103_code 11 = .ok (.iload_n 2, 1) := by decide +kernel
theorem d5_12 : decode jdk_65_method_103_code 12 = .ok (.iload_n 1, 1) := by decide +kernel
theorem d5_13 : decode jdk_65_method_103_code 13 = .ok (.iastore, 1) := by decide +kernel
theorem d5_14 : decode jdk_65_method_103_code 14 = .ok (.iinc 2 1, 3) := by decide +kernel
theorem d5_17 : decode jdk_65_method_103_code 17 = .ok (.goto (-12), 3) := by decide +kernel
set_option maxRecDepth 65536 in
set_option maxHeartbeats 40000000 in
theorem fill_turn {p : Program} {l : Launch} {e : Env} {R : Room} {s : State} {m : MethodId} {args : Array Value} {below : List Frame} {meth : Method} {c : Code} {T0 : State} {locs : List Loc} {cells slots : Nat} {Z : State} {a0 : Array Value} {h0 : Heap} {n0 : Nat} (a : Addr) (p1 : Int32) (i2 : Int32) (nn : Int32) (f : Nat → Value)
    (X0 : Stand p l e R s m args below meth c T0 locs cells slots) (hx : p.tables.exec = Jvm.exec) (hZ : Z.Warmed39 s.vm) (hw : ∀ d ∈ tables_1, d.before a0 Z = true) (hby : c.code = jdk_65_method_103_code) (hml : c.maxLocals = 4) (hown : s.vm.findClass "java/util/Arrays" = some m.cls) (e0 : T0.heap = h0) (N0 : Fr n0 locs) (Z0 : n0 ≤ h0.size) (V_a : ArrF Z h0 a .int nn f) (g_a : n0 ≤ a) (hj0 : ¬ i2 < 0) (hlt_ : i2 < nn) :
    ∃ (T' : State) (h' : Heap) (locs' : List Loc), Stand p l e R s m args below meth c T' locs' cells slots ∧ T'.heap = h' ∧ Fr n0 locs' ∧ Keep h0 h' [a] ∧ ArrF Z h' a .int nn (fun j => if j = i2.toNatClampNeg then Value.int p1 else f j) ∧
      ∀ target, Steps p.tables e below (T'.setTop (mkF m 5 #[.val (.ref a), .val (.int p1), .val (.int (i2 + (1 : Int32))), .val (.int nn)] [])) target → Steps p.tables e below (T0.setTop (mkF m 5 #[.val (.ref a), .val (.int p1), .val (.int i2), .val (.int nn)] [])) target := by
  obtain ⟨cl_2, Ar_2, Sz_2, Mz_2, Hz_2⟩ := id V_a
  obtain ⟨T_1, h_1, X_1, e_1, W_1, st_1⟩ := stI X0 hx hZ e0 Ar_2 (j := i2) (inb_of Sz_2 ⟨hj0, hlt_⟩) (g := (mkF m 13 #[.val (.ref a), .val (.int p1), .val (.int i2), .val (.int nn)] [(.int p1), (.int i2), (.ref a)])) rfl rfl (hb hby d5_13)
  have K_1 : Keep h0 h_1 [a] := (Keep.refl h0 [a]).wr W_1 (Or.inl (List.mem_of_getElem? (i := 0) rfl))
  have N_1 := Fr.snoc X_1 N0 g_a
  have Z_3 : n0 ≤ h_1.size := Nat.le_trans Z0 (Keep.of_wr W_1).1
  have Vw_1 := ArrF.set Ar_2 Sz_2 Mz_2 Hz_2 W_1
  refine ⟨T_1, _, _, X_1, e_1, N_1, K_1, Vw_1, fun target kt => ?_⟩
  show Steps p.tables e below (T0.setTop (mkF m 5 #[.val (.ref a), .val (.int p1), .val (.int i2), .val (.int nn)] [])) _
  refine XS.iloadN X0.here hx rfl (hb hby d5_5) rfl ?_
  show Steps p.tables e below (T0.setTop (mkF m 6 #[.val (.ref a), .val (.int p1), .val (.int i2), .val (.int nn)] [(.int i2)])) _
  refine XS.iloadN X0.here hx rfl (hb hby d5_6) rfl ?_
  show Steps p.tables e below (T0.setTop (mkF m 7 #[.val (.ref a), .val (.int p1), .val (.int i2), .val (.int nn)] [(.int nn), (.int i2)])) _
  refine XS.icmpNo X0.here hx rfl (hb hby d5_7) rfl (tlt hlt_).2.1 ?_
  show Steps p.tables e below (T0.setTop (mkF m 10 #[.val (.ref a), .val (.int p1), .val (.int i2), .val (.int nn)] [])) _
  refine XS.aloadN X0.here hx rfl (hb hby d5_10) rfl rfl ?_
  show Steps p.tables e below (T0.setTop (mkF m 11 #[.val (.ref a), .val (.int p1), .val (.int i2), .val (.int nn)] [(.ref a)])) _
  refine XS.iloadN X0.here hx rfl (hb hby d5_11) rfl ?_
  show Steps p.tables e below (T0.setTop (mkF m 12 #[.val (.ref a), .val (.int p1), .val (.int i2), .val (.int nn)] [(.int i2), (.ref a)])) _
  refine XS.iloadN X0.here hx rfl (hb hby d5_12) rfl ?_
  show Steps p.tables e below (T0.setTop (mkF m 13 #[.val (.ref a), .val (.int p1), .val (.int i2), .val (.int nn)] [(.int p1), (.int i2), (.ref a)])) _
  refine st_1 _ ?_
  show Steps p.tables e below (T_1.setTop (mkF m 14 #[.val (.ref a), .val (.int p1), .val (.int i2), .val (.int nn)] [])) _
  refine XS.iinc X_1.here hx rfl (hb hby d5_14) rfl (l' := #[.val (.ref a), .val (.int p1), .val (.int (i2 + (1 : Int32))), .val (.int nn)]) rfl ?_
  show Steps p.tables e below (T_1.setTop (mkF m 17 #[.val (.ref a), .val (.int p1), .val (.int (i2 + (1 : Int32))), .val (.int nn)] [])) _
  refine XS.goto X_1.here hx rfl (pc0 := 17) (pc' := 5) rfl (hb hby d5_17) (by decide) (by decide) ?_
  exact kt
set_option maxRecDepth 65536 in
set_option maxHeartbeats 40000000 in
theorem fill_out {p : Program} {l : Launch} {e : Env} {R : Room} {s : State} {m : MethodId} {args : Array Value} {below : List Frame} {meth : Method} {c : Code} {T0 : State} {locs : List Loc} {cells slots : Nat} {Z : State} {a0 : Array Value} {h0 : Heap} {n0 : Nat} (a : Addr) (p1 : Int32) (i2 : Int32) (nn : Int32)
    (X0 : Stand p l e R s m args below meth c T0 locs cells slots) (hx : p.tables.exec = Jvm.exec) (hZ : Z.Warmed39 s.vm) (hw : ∀ d ∈ tables_1, d.before a0 Z = true) (hby : c.code = jdk_65_method_103_code) (hml : c.maxLocals = 4) (hown : s.vm.findClass "java/util/Arrays" = some m.cls) (e0 : T0.heap = h0) (N0 : Fr n0 locs) (Z0 : n0 ≤ h0.size) (hge_ : ¬ i2 < nn) :
    ∃ (T' : State) (h' : Heap) (locs' : List Loc), Stand p l e R s m args below meth c T' locs' cells slots ∧ T'.heap = h' ∧ Fr n0 locs' ∧ h' = h0 ∧
      ∀ target, Steps p.tables e below (T'.setTop (mkF m 20 #[.val (.ref a), .val (.int p1), .val (.int i2), .val (.int nn)] [])) target → Steps p.tables e below (T0.setTop (mkF m 5 #[.val (.ref a), .val (.int p1), .val (.int i2), .val (.int nn)] [])) target := by
  refine ⟨T0, _, _, X0, e0, N0, rfl, fun target kt => ?_⟩
  show Steps p.tables e below (T0.setTop (mkF m 5 #[.val (.ref a), .val (.int p1), .val (.int i2), .val (.int nn)] [])) _
  refine XS.iloadN X0.here hx rfl (hb hby d5_5) rfl ?_
  show Steps p.tables e below (T0.setTop (mkF m 6 #[.val (.ref a), .val (.int p1), .val (.int i2), .val (.int nn)] [(.int i2)])) _
  refine XS.iloadN X0.here hx rfl (hb hby d5_6) rfl ?_
  show Steps p.tables e below (T0.setTop (mkF m 7 #[.val (.ref a), .val (.int p1), .val (.int i2), .val (.int nn)] [(.int nn), (.int i2)])) _
  refine XS.icmpYes X0.here hx rfl (pc0 := 7) (pc' := 20) rfl (hb hby d5_7) rfl (flt hge_).2.1 (by decide) (by decide) ?_
  exact kt
set_option maxRecDepth 65536 in
set_option maxHeartbeats 40000000 in
theorem fill_loop {p : Program} {l : Launch} {e : Env} {R : Room} {s : State} {m : MethodId} {args : Array Value} {below : List Frame} {meth : Method} {c : Code} {cells slots : Nat} {Z : State} {a0 : Array Value} {n0 : Nat} (a : Addr) (p1 nn : Int32)
    (hx : p.tables.exec = Jvm.exec) (hZ : Z.Warmed39 s.vm) (hw : ∀ d ∈ tables_1, d.before a0 Z = true) (hby : c.code = jdk_65_method_103_code) (hml : c.maxLocals = 4) (hown : s.vm.findClass "java/util/Arrays" = some m.cls) (g_a : n0 ≤ a) (hnn : ¬ nn < 0) :
    ∀ (k : Nat) (i2 : Int32) (f : Nat → Value) (T0 : State) (h0 : Heap) (locs : List Loc), nn.toInt - i2.toInt = k → ¬ i2 < 0 → Stand p l e R s m args below meth c T0 locs cells slots → T0.heap = h0 → Fr n0 locs → n0 ≤ h0.size → ArrF Z h0 a .int nn f → (∀ j, j < i2.toNatClampNeg → f j = .int p1) →
    ∃ (T' : State) (h' : Heap) (locs' : List Loc), Stand p l e R s m args below meth c T' locs' cells slots ∧ T'.heap = h' ∧ Fr n0 locs' ∧ Keep h0 h' [a] ∧ ArrF Z h' a .int nn (fun _ => Value.int p1) ∧
      ∀ target, Steps p.tables e below (T'.setTop (mkF m 20 #[.val (.ref a), .val (.int p1), .val (.int nn), .val (.int nn)] [])) target → Steps p.tables e below (T0.setTop (mkF m 5 #[.val (.ref a), .val (.int p1), .val (.int i2), .val (.int nn)] [])) target := by
  intro k
  induction k with
  | zero =>
    intro i2 f T0 h0 locs hk hi X0 e0 N0 Z0 V hf
    obtain rfl : i2 = nn := Int32.toInt_inj.mp (by omega)
    obtain ⟨T', h', l', X', e', N', eh, st⟩ := fill_out a p1 i2 i2 X0 hx hZ hw hby hml hown e0 N0 Z0 (by rw [Int32.lt_iff_toInt_lt]; omega)
    rw [eh] at e'
    exact ⟨T', h0, l', X', e', N', Keep.refl _ _, V.congr hf, st⟩
  | succ k ih =>
    intro i2 f T0 h0 locs hk hi X0 e0 N0 Z0 V hf
    have hlt : i2 < nn := by rw [Int32.lt_iff_toInt_lt]; omega
    obtain ⟨T1, h1, l1, X1, e1, N1, K1, V1, st1⟩ := fill_turn a p1 i2 nn f X0 hx hZ hw hby hml hown e0 N0 Z0 V g_a hi hlt
    have q := own_next hi hlt
    obtain ⟨T2, h2, l2, X2, e2, N2, K2, V2, st2⟩ := ih (i2 + 1) _ T1 h1 l1 (by rw [q.1]; omega) q.2.1 X1 e1 N1 (Nat.le_trans Z0 K1.1) V1 (fun j hj => by
      by_cases u : j = i2.toNatClampNeg
      · rw [if_pos u]
      · rw [if_neg u]; exact hf j (by rw [q.2.2] at hj; omega))
    exact ⟨T2, h2, l2, X2, e2, N2, K1.trans K2 (fun x hx => Or.inl hx), V2, fun target kt => st1 _ (st2 _ kt)⟩
theorem d5_0 : decode jdk_65_method_103_code 0 = .ok (.iconst 0, 1) := by decide +kernel
theorem d5_1 : decode jdk_65_method_103_code 1 = .ok (.istore_n 2, 1) := by decide +kernel
theorem d5_2 : decode jdk_65_method_103_code 2 = .ok (.aload_n 0, 1) := by decide +kernel
theorem d5_3 : decode jdk_65_method_103_code 3 = .ok (.arraylength, 1) := by decide +kernel
theorem d5_4 : decode jdk_65_method_103_code 4 = .ok (.istore_n 3, 1) := by decide +kernel
theorem d5_20 : decode jdk_65_method_103_code 20 = .ok (.return_, 1) := by decide +kernel
def Q5 (Z : State) (a : Addr) (p1 : Int32) (nn : Int32) (h0 : Heap) (n0 : Nat) (v : Option Value) (h : Heap) (L : List Loc) : Prop := v = none ∧ Fr n0 L ∧ Keep h0 h [a] ∧ ArrF Z h a .int nn (fun _ => Value.int p1)
theorem pn_5 : plainName "java/util/Arrays" = true := by first | (simp [plainName, overriddenIn]; done) | decide +kernel
theorem ef_5 (m : MethodId) (x0 : Addr) (x1 : Int32) : entryFrame m #[(.ref x0), (.int x1)] 4 = mkF m 0 #[.val (.ref x0), .val (.int x1), .unset, .unset] [] := by first | (simp [entryFrame, mkF, argsToLocals, Value.category]; done) | rfl
set_option maxRecDepth 65536 in
set_option maxHeartbeats 40000000 in
theorem rm5 (l : Launch) (Z : State) (a0 : Array Value) (hw : ∀ d ∈ tables_1, d.before a0 Z = true) (ws : List Jvm.Cond) (a : Addr) (p1 : Int32) (nn : Int32) (f : Nat → Value) (h0 : Heap) (n0 : Nat) (Z0 : n0 ≤ h0.size) (V_a : ArrF Z h0 a .int nn f) (g_a : n0 ≤ a) (hnn_ : ¬ nn < 0) :
    MetFree l (⟨"java/util/Arrays", "fill", "([II)V"⟩ : MethodName) (head1 (Jvm.Cond.code (⟨"java/util/Arrays", "fill", "([II)V"⟩ : MethodName) jdk_65_method_103_code 4 none :: ws) ({ frames := 0, cells := 0, slots := 0, locals := 0 } : Room)) (fun as_ U => as_ = #[(.ref a), (.int p1)] ∧ Z.Warmed39 U.vm ∧ U.heap = h0) (fun _ _ _ _ _ => True) (fun _ U o U' => ∃ v L, o = .returned v ∧ Q5 Z a p1 nn h0 n0 v U'.heap L ∧ FrameEnd U o U' L ({ frames := 0, cells := 0, slots := 0, locals := 0 } : Room).cells ({ frames := 0, cells := 0, slots := 0, locals := 0 } : Room).slots) := by
  refine MetFree.of_bodySF (plainFor_of_name pn_5) hisR ?_
  intro p e s m args below meth c s₁ Bd hml0 hP hK
  obtain ⟨rfl, hZ, hh⟩ := hP
  have hx := Bd.exec
  have hby := Bd.bytes
  have hml : c.maxLocals = 4 := hml0
  have hown : s.vm.findClass "java/util/Arrays" = some m.cls := findClass_of_methodNamed Bd.named
  have hnm := (name_of_methodNamed Bd.named Bd.method).1
  have X0 : Stand p l e ({ frames := 0, cells := 0, slots := 0, locals := 0 } : Room) s m #[(.ref a), (.int p1)] below meth c s₁ [] 0 0 := Stand.of_body Bd
  have e0 : s₁.heap = h0 := by rw [← hh, Bd.state]; rfl
  have N0 := Fr.nil n0
  have pre0 : ∀ t, Steps p.tables e below (s₁.setTop (mkF m 0 #[.val (.ref a), .val (.int p1), .unset, .unset] [])) t → Steps p.tables e below (s₁.setTop (entryFrame m #[(.ref a), (.int p1)] 4)) t := fun t k => castTop (ef_5 m a p1) k
  obtain ⟨cl_1, Ar_1, Sz_1, Mz_1, Hz_1⟩ := id V_a
  obtain ⟨T_2, h_2, Lc_2, X_2, e_2, N_2, K_2, V_2, st_2⟩ := fill_loop a p1 nn hx hZ hw hby hml hown g_a hnn_ nn.toInt.toNat (0 : Int32) f _ _ _ (own_zero hnn_) (by decide) X0 e0 N0 Z0 V_a (fun j hj => absurd hj (Nat.not_lt_zero _))
  have KK_2 : Keep h0 h_2 [a] := (Keep.refl h0 [a]).trans K_2 (allS (Or.inl (List.mem_of_getElem? (i := 0) rfl)) all0)
  have Z_3 : n0 ≤ h_2.size := Nat.le_trans Z0 K_2.1
  obtain ⟨fs, hr, hrun, hended, hW, hsame⟩ := X_2.leave (v := none) (fun _ => rfl)
  refine ⟨_, _, pre0 _ ?_, hrun, hended, _, _, rfl, ?_, ⟨_, rfl⟩, hW, hsame.mono (by decide) (by decide)⟩
  · show Steps p.tables e below (s₁.setTop (mkF m 0 #[.val (.ref a), .val (.int p1), .unset, .unset] [])) _
    refine XS.iconst X0.here hx rfl (hb hby d5_0) ?_
    show Steps p.tables e below (s₁.setTop (mkF m 1 #[.val (.ref a), .val (.int p1), .unset, .unset] [(.int (0 : Int32))])) _
    refine XS.istoreN X0.here hx rfl (hb hby d5_1) rfl (l' := #[.val (.ref a), .val (.int p1), .val (.int (0 : Int32)), .unset]) rfl ?_
    show Steps p.tables e below (s₁.setTop (mkF m 2 #[.val (.ref a), .val (.int p1), .val (.int (0 : Int32)), .unset] [])) _
    refine XS.aloadN X0.here hx rfl (hb hby d5_2) rfl rfl ?_
    show Steps p.tables e below (s₁.setTop (mkF m 3 #[.val (.ref a), .val (.int p1), .val (.int (0 : Int32)), .unset] [(.ref a)])) _
    refine X0.arraylength hx (by rw [e0]; exact Ar_1.1) (State.isArrayOf_alike hZ.alike Ar_1.2.1) (g := (mkF m 3 #[.val (.ref a), .val (.int p1), .val (.int (0 : Int32)), .unset] [(.ref a)])) rfl rfl (hb hby d5_3) _ ?_
    rw [len_of Sz_1 Mz_1]
    show Steps p.tables e below (s₁.setTop (mkF m 4 #[.val (.ref a), .val (.int p1), .val (.int (0 : Int32)), .unset] [(.int nn)])) _
    refine XS.istoreN X0.here hx rfl (hb hby d5_4) rfl (l' := #[.val (.ref a), .val (.int p1), .val (.int (0 : Int32)), .val (.int nn)]) rfl ?_
    show Steps p.tables e below (s₁.setTop (mkF m 5 #[.val (.ref a), .val (.int p1), .val (.int (0 : Int32)), .val (.int nn)] [])) _
    refine st_2 _ ?_
    show Steps p.tables e below (T_2.setTop (mkF m 20 #[.val (.ref a), .val (.int p1), .val (.int nn), .val (.int nn)] [])) _
    exact X_2.returnOut hx Bd.returns (hb hby d5_20) hr
  · show Q5 Z a p1 nn h0 n0 _ T_2.heap _
    rw [e_2]
    exact ⟨rfl, N_2, KK_2, V_2⟩
theorem d4_0 : decode prog_13_method_29_code 0 = .ok (.iload_n 0, 1) := by decide +kernel
theorem d4_1 : decode prog_13_method_29_code 1 = .ok (.newarray .int, 2) := by decide +kernel
theorem d4_3 : decode prog_13_method_29_code 3 = .ok (.astore_n 1, 1) := by decide +kernel
theorem d4_4 : decode prog_13_method_29_code 4 = .ok (.aload_n 1, 1) := by decide +kernel
theorem d4_5 : decode prog_13_method_29_code 5 = .ok (.iconst (-1), 1) := by decide +kernel
theorem pd_0 : parseMethodDescriptor "([II)V" = some ⟨[(.array .int), .int], none⟩ := by decide +kernel
theorem d4_6 : decode prog_13_method_29_code 6 = .ok (.invokestatic 242, 3) := by decide +kernel
theorem d4_9 : decode prog_13_method_29_code 9 = .ok (.aload_n 1, 1) := by decide +kernel
theorem d4_10 : decode prog_13_method_29_code 10 = .ok (.areturn, 1) := by decide +kernel
def Q4 (Z : State) (p0 : Int32) (b : Addr) (h0 : Heap) (n0 : Nat) (v : Option Value) (h : Heap) (L : List Loc) : Prop := v = some (.ref b) ∧ Fr n0 L ∧ Keep h0 h [] ∧ ArrF Z h b .int p0 (fun _ => (Value.int (-1 : Int32)))
theorem pn_4 : plainName "com/example/cadmus/cadmus/automaton/Bdd" = true := by first | (simp [plainName, overriddenIn]; done) | decide +kernel
theorem ef_4 (m : MethodId) (x0 : Int32) : entryFrame m #[(.int x0)] 2 = mkF m 0 #[.val (.int x0), .unset] [] := by first | (simp [entryFrame, mkF, argsToLocals, Value.category]; done) | rfl
set_option maxRecDepth 65536 in
set_option maxHeartbeats 40000000 in
theorem rm4 (l : Launch) (Z : State) (a0 : Array Value) (hw : ∀ d ∈ tables_1, d.before a0 Z = true) (ws : List Jvm.Cond) (p0 : Int32) (b : Addr) (h0 : Heap) (n0 : Nat) (Z0 : n0 ≤ h0.size) (hb_ : b = h0.size) (hn0_ : ¬ p0 < 0) (hn1_ : p0.toNatClampNeg ≤ 4096) :
    MetFree l (⟨"com/example/cadmus/cadmus/automaton/Bdd", "emptyTable", "(I)[I"⟩ : MethodName) (head1 (Jvm.Cond.code (⟨"com/example/cadmus/cadmus/automaton/Bdd", "emptyTable", "(I)[I"⟩ : MethodName) prog_13_method_29_code 2 (some (.array .int)) :: ws) ({ frames := 1, cells := 1, slots := 4096, locals := 15 } : Room)) (fun as_ U => as_ = #[(.int p0)] ∧ Z.Warmed39 U.vm ∧ U.heap = h0) (fun _ _ _ _ _ => True) (fun _ U o U' => ∃ v L, o = .returned v ∧ Q4 Z p0 b h0 n0 v U'.heap L ∧ FrameEnd U o U' L ({ frames := 1, cells := 1, slots := 4096, locals := 15 } : Room).cells ({ frames := 1, cells := 1, slots := 4096, locals := 15 } : Room).slots) := by
  refine MetFree.of_bodySF (plainFor_of_name pn_4) hisR ?_
  intro p e s m args below meth c s₁ Bd hml0 hP hK
  obtain ⟨rfl, hZ, hh⟩ := hP
  have hx := Bd.exec
  have hby := Bd.bytes
  have hml : c.maxLocals = 2 := hml0
  have hown : s.vm.findClass "com/example/cadmus/cadmus/automaton/Bdd" = some m.cls := findClass_of_methodNamed Bd.named
  have hnm := (name_of_methodNamed Bd.named Bd.method).1
  have X0 : Stand p l e ({ frames := 1, cells := 1, slots := 4096, locals := 15 } : Room) s m #[(.int p0)] below meth c s₁ [] 0 0 := Stand.of_body Bd
  have e0 : s₁.heap = h0 := by rw [← hh, Bd.state]; rfl
  have N0 := Fr.nil n0
  have pre0 : ∀ t, Steps p.tables e below (s₁.setTop (mkF m 0 #[.val (.int p0), .unset] [])) t → Steps p.tables e below (s₁.setTop (entryFrame m #[(.int p0)] 2)) t := fun t k => castTop (ef_4 m p0) k
  obtain ⟨T_1, h_1, k_1, X_1, e_1, E_1, A_1, st_1⟩ := newP X0 hx hZ (hw _ (List.mem_of_getElem? (i := 13) rfl)) e0 (g := (mkF m 1 #[.val (.int p0), .unset] [(.int p0)])) rfl (hb hby d4_1) rfl hn0_ (cap := 4096) hn1_ (by decide) (by decide) (by decide)
  have g_1 : b = h0.size := hb_
  rw [← g_1] at A_1 st_1
  have g_b : n0 ≤ b := Nat.le_trans Z0 (Nat.le_of_eq g_1.symm)
  have sz_b : h0.size ≤ b := Nat.le_trans (Keep.refl h0 []).1 (Nat.le_of_eq g_1.symm)
  have K_1 : Keep h0 h_1 [] := (Keep.refl h0 []).ext E_1
  have V_1 : ArrF Z h_1 b .int p0 (fun _ => (Value.int (0 : Int32))) := ArrF.of_new A_1 hn0_
  have Z_2 : n0 ≤ h_1.size := Nat.le_trans Z0 E_1.1
  obtain ⟨_, _, ⟨T_3, L_3, k_3, n_3⟩, -, X_3, ⟨Lc_3, hQ_3, l_3, y_3, z_3⟩, st_3⟩ := Jvm.LawKit.callS X_1 hx (y := (⟨"java/util/Arrays", "fill", "([II)V"⟩ : MethodName)) hown (mvT hZ (hw _ (List.mem_of_getElem? (i := 23) rfl))) (mvT hZ (hw _ (List.mem_of_getElem? (i := 24) rfl))) (mvT hZ (hw _ (List.mem_of_getElem? (i := 25) rfl))) (mvT hZ (hw _ (List.mem_of_getElem? (i := 26) rfl))) (by decide) (backOf (W := 0) (rm5 l Z a0 hw [] b (-1 : Int32) p0 (fun _ => (Value.int (0 : Int32))) h_1 n0 Z_2 V_1 g_b hn0_) hZ (hw _ (List.mem_of_getElem? (i := 26) rfl)) (hw _ (List.mem_of_getElem? (i := 25) rfl)) (by decide) (by decide)) (g := (mkF m 6 #[.val (.int p0), .val (.ref b)] [(.int (-1 : Int32)), (.ref b)])) rfl (by rw [hml]; rfl) (argsL := [(.ref b), (.int (-1 : Int32))]) (rest := []) (lenOf pd_0 rfl) rfl (by show 2 * 0 + _ ≤ _; exact Nat.le_of_eq rfl) (hb hby d4_6) (fun _ _ => ⟨rfl, e_1, (by decide : 1 + 0 ≤ _), (by decide : 4096 + 0 ≤ _)⟩)
  dsimp only [Pt.U, Pt.locs, Pt.cells, Pt.slots] at X_3 l_3 y_3 z_3 st_3 hQ_3
  subst l_3 y_3 z_3
  obtain ⟨rfl, Nq_3, Kq_3, Vq_3⟩ := hQ_3
  have N_3 := Fr.app N0 Nq_3
  have KK_3 : Keep h0 T_3.heap [] := K_1.trans Kq_3 (allS (Or.inr sz_b) all0)
  have Z_4 : n0 ≤ T_3.heap.size := Nat.le_trans Z_2 Kq_3.1
  obtain ⟨fs, hr, hrun, hended, hW, hsame⟩ := X_3.leave (v := some (.ref b)) (fun h => by rw [Bd.returns] at h; cases h)
  refine ⟨_, _, pre0 _ ?_, hrun, hended, _, _, rfl, ?_, ⟨_, rfl⟩, hW, hsame.mono (by decide) (by decide)⟩
  · show Steps p.tables e below (s₁.setTop (mkF m 0 #[.val (.int p0), .unset] [])) _
    refine XS.iloadN X0.here hx rfl (hb hby d4_0) rfl ?_
    show Steps p.tables e below (s₁.setTop (mkF m 1 #[.val (.int p0), .unset] [(.int p0)])) _
    refine st_1 _ ?_
    show Steps p.tables e below (T_1.setTop (mkF m 3 #[.val (.int p0), .unset] [(.ref b)])) _
    refine XS.astoreN X_1.here hx rfl (hb hby d4_3) rfl rfl (l' := #[.val (.int p0), .val (.ref b)]) rfl ?_
    show Steps p.tables e below (T_1.setTop (mkF m 4 #[.val (.int p0), .val (.ref b)] [])) _
    refine XS.aloadN X_1.here hx rfl (hb hby d4_4) rfl rfl ?_
    show Steps p.tables e below (T_1.setTop (mkF m 5 #[.val (.int p0), .val (.ref b)] [(.ref b)])) _
    refine XS.iconst X_1.here hx rfl (hb hby d4_5) ?_
    show Steps p.tables e below (T_1.setTop (mkF m 6 #[.val (.int p0), .val (.ref b)] [(.int (-1 : Int32)), (.ref b)])) _
    refine st_3 _ ?_
    show Steps p.tables e below (T_3.setTop (mkF m 9 #[.val (.int p0), .val (.ref b)] [])) _
    refine XS.aloadN X_3.here hx rfl (hb hby d4_9) rfl rfl ?_
    show Steps p.tables e below (T_3.setTop (mkF m 10 #[.val (.int p0), .val (.ref b)] [(.ref b)])) _
    jvm_step X_3.here [X_3.here.top, hx, (hb hby d4_10), X_3.method', Bd.returns, Value.isRef, FieldType.isReference]
    first | (intro acts; rw [hr _ acts rfl rfl rfl]) | rw [hr _ _ rfl rfl rfl]
    exact Steps.refl _
  · show Q4 Z p0 b h0 n0 _ T_3.heap _
    exact ⟨rfl, N_3, KK_3, Vq_3⟩
theorem d2_0 : decode prog_13_method_2_code 0 = .ok (.aload_n 0, 1) := by decide +kernel
theorem d2_1 : decode prog_13_method_2_code 1 = .ok (.invokespecial 11, 3) := by decide +kernel
theorem d2_4 : decode prog_13_method_2_code 4 = .ok (.aload_n 0, 1) := by decide +kernel
theorem d2_5 : decode prog_13_method_2_code 5 = .ok (.sipush 1024, 3) := by decide +kernel
theorem d2_8 : decode prog_13_method_2_code 8 = .ok (.newarray .int, 2) := by decide +kernel
theorem d2_10 : decode prog_13_method_2_code 10 = .ok (.putfield 16, 3) := by decide +kernel
theorem d2_13 : decode prog_13_method_2_code 13 = .ok (.aload_n 0, 1) := by decide +kernel
theorem d2_14 : decode prog_13_method_2_code 14 = .ok (.sipush 1024, 3) := by decide +kernel
theorem d2_17 : decode prog_13_method_2_code 17 = .ok (.newarray .int, 2) := by decide +kernel
theorem d2_19 : decode prog_13_method_2_code 19 = .ok (.putfield 20, 3) := by decide +kernel
theorem d2_22 : decode prog_13_method_2_code 22 = .ok (.aload_n 0, 1) := by decide +kernel
theorem d2_23 : decode prog_13_method_2_code 23 = .ok (.sipush 1024, 3) := by decide +kernel
theorem d2_26 : decode prog_13_method_2_code 26 = .ok (.newarray .int, 2) := by decide +kernel
theorem d2_28 : decode prog_13_method_2_code 28 = .ok (.putfield 23, 3) := by decide +kernel
theorem d2_31 : decode prog_13_method_2_code 31 = .ok (.aload_n 0, 1) := by decide +kernel
theorem d2_32 : decode prog_13_method_2_code 32 = .ok (.sipush 2048, 3) := by decide +kernel
theorem pd_1 : parseMethodDescriptor "(I)[I" = some ⟨[.int], some (.array .int)⟩ := by decide +kernel
theorem d2_35 : decode prog_13_method_2_code 35 = .ok (.invokestatic 26, 3) := by decide +kernel
theorem d2_38 : decode prog_13_method_2_code 38 = .ok (.putfield 30, 3) := by decide +kernel
theorem d2_41 : decode prog_13_method_2_code 41 = .ok (.aload_n 0, 1) := by decide +kernel
theorem d2_42 : decode prog_13_method_2_code 42 = .ok (.sipush 4096, 3) := by decide +kernel
theorem d2_45 : decode prog_13_method_2_code 45 = .ok (.invokestatic 26, 3) := by decide +kernel
theorem d2_48 : decode prog_13_method_2_code 48 = .ok (.putfield 33, 3) := by decide +kernel
theorem d2_51 : decode prog_13_method_2_code 51 = .ok (.aload_n 0, 1) := by decide +kernel
theorem d2_52 : decode prog_13_method_2_code 52 = .ok (.sipush 4096, 3) := by decide +kernel
theorem d2_55 : decode prog_13_method_2_code 55 = .ok (.newarray .int, 2) := by decide +kernel
theorem d2_57 : decode prog_13_method_2_code 57 = .ok (.putfield 36, 3) := by decide +kernel
theorem d2_60 : decode prog_13_method_2_code 60 = .ok (.aload_n 0, 1) := by decide +kernel
theorem d2_61 : decode prog_13_method_2_code 61 = .ok (.sipush 4096, 3) := by decide +kernel
theorem d2_64 : decode prog_13_method_2_code 64 = .ok (.newarray .int, 2) := by decide +kernel
theorem d2_66 : decode prog_13_method_2_code 66 = .ok (.putfield 39, 3) := by decide +kernel
theorem d2_69 : decode prog_13_method_2_code 69 = .ok (.aload_n 0, 1) := by decide +kernel
theorem d2_70 : decode prog_13_method_2_code 70 = .ok (.sipush 4096, 3) := by decide +kernel
theorem d2_73 : decode prog_13_method_2_code 73 = .ok (.newarray .int, 2) := by decide +kernel
theorem d2_75 : decode prog_13_method_2_code 75 = .ok (.putfield 42, 3) := by decide +kernel
theorem d2_78 : decode prog_13_method_2_code 78 = .ok (.aload_n 0, 1) := by decide +kernel
theorem d2_79 : decode prog_13_method_2_code 79 = .ok (.getfield 16, 3) := by decide +kernel
theorem d2_82 : decode prog_13_method_2_code 82 = .ok (.iconst 0, 1) := by decide +kernel
theorem d2_83 : decode prog_13_method_2_code 83 = .ok (.iconst (-1), 1) := by decide +kernel
theorem d2_84 : decode prog_13_method_2_code 84 = .ok (.iastore, 1) := by decide +kernel
theorem d2_85 : decode prog_13_method_2_code 85 = .ok (.aload_n 0, 1) := by decide +kernel
theorem d2_86 : decode prog_13_method_2_code 86 = .ok (.getfield 16, 3) := by decide +kernel
theorem d2_89 : decode prog_13_method_2_code 89 = .ok (.iconst 1, 1) := by decide +kernel
theorem d2_90 : decode prog_13_method_2_code 90 = .ok (.iconst (-1), 1) := by decide +kernel
theorem d2_91 : decode prog_13_method_2_code 91 = .ok (.iastore, 1) := by decide +kernel
theorem d2_92 : decode prog_13_method_2_code 92 = .ok (.aload_n 0, 1) := by decide +kernel
theorem d2_93 : decode prog_13_method_2_code 93 = .ok (.iconst 2, 1) := by decide +kernel
theorem d2_94 : decode prog_13_method_2_code 94 = .ok (.putfield 45, 3) := by decide +kernel
theorem d2_97 : decode prog_13_method_2_code 97 = .ok (.aload_n 0, 1) := by decide +kernel
theorem d2_98 : decode prog_13_method_2_code 98 = .ok (.lload_n 1, 1) := by decide +kernel
theorem d2_99 : decode prog_13_method_2_code 99 = .ok (.putfield 49, 3) := by decide +kernel
theorem d2_102 : decode prog_13_method_2_code 102 = .ok (.return_, 1) := by decide +kernel
def Q2 (Z : State) (a : Addr) (h0 : Heap) (n0 : Nat) (v : Option Value) (h : Heap) (L : List Loc) : Prop := v = none ∧ Fr n0 L ∧ Keep h0 h [a] ∧ (∃ bv bl bh bu : Addr, h0.size ≤ bv ∧ h0.size ≤ bl ∧ h0.size ≤ bh ∧ h0.size ≤ bu ∧ bv ≠ bl ∧ bv ≠ bh ∧ bv ≠ bu ∧ bl ≠ bh ∧ bl ≠ bu ∧ bh ≠ bu ∧ Fld Z h a "com/example/cadmus/cadmus/automaton/Bdd" "variables" "[I" (.ref bv) ∧ Fld Z h a "com/example/cadmus/cadmus/automaton/Bdd" "lows" "[I" (.ref bl) ∧ Fld Z h a "com/example/cadmus/cadmus/automaton/Bdd" "highs" "[I" (.ref bh) ∧ Fld Z h a "com/example/cadmus/cadmus/automaton/Bdd" "unique" "[I" (.ref bu) ∧ Fld Z h a "com/example/cadmus/cadmus/automaton/Bdd" "size" "I" (.int (2 : Int32)) ∧ (∃ f, ArrF Z h bv .int 1024 f) ∧ (∃ f, ArrF Z h bl .int 1024 f) ∧ (∃ f, ArrF Z h bh .int 1024 f) ∧ ArrF Z h bu .int 2048 (fun _ => (Value.int (-1 : Int32))))
theorem pn_2 : plainName "com/example/cadmus/cadmus/automaton/Bdd" = true := by first | (simp [plainName, overriddenIn]; done) | decide +kernel
theorem ef_2 (m : MethodId) (x0 : Addr) (x1 : Int64) : entryFrame m #[(.ref x0), (.long x1)] 3 = mkF m 0 #[.val (.ref x0), .val (.long x1), .second] [] := by first | (simp [entryFrame, mkF, argsToLocals, Value.category]; done) | rfl
set_option maxRecDepth 65536 in
set_option maxHeartbeats 40000000 in
theorem rm2 (l : Launch) (Z : State) (a0 : Array Value) (hw : ∀ d ∈ tables_1, d.before a0 Z = true) (ws : List Jvm.Cond) (a : Addr) (q1 : Int64) (h0 : Heap) (n0 : Nat) (Z0 : n0 ≤ h0.size) (E_a : Exa Z h0 a "com/example/cadmus/cadmus/automaton/Bdd") (F_variables : Fld Z h0 a "com/example/cadmus/cadmus/automaton/Bdd" "variables" "[I" .null) (F_lows : Fld Z h0 a "com/example/cadmus/cadmus/automaton/Bdd" "lows" "[I" .null) (F_highs : Fld Z h0 a "com/example/cadmus/cadmus/automaton/Bdd" "highs" "[I" .null) (F_unique : Fld Z h0 a "com/example/cadmus/cadmus/automaton/Bdd" "unique" "[I" .null) (F_cacheOps : Fld Z h0 a "com/example/cadmus/cadmus/automaton/Bdd" "cacheOps" "[I" .null) (F_cacheLefts : Fld Z h0 a "com/example/cadmus/cadmus/automaton/Bdd" "cacheLefts" "[I" .null) (F_cacheRights : Fld Z h0 a "com/example/cadmus/cadmus/automaton/Bdd" "cacheRights" "[I" .null) (F_cacheResults : Fld Z h0 a "com/example/cadmus/cadmus/automaton/Bdd" "cacheResults" "[I" .null) (F_size : Fld Z h0 a "com/example/cadmus/cadmus/automaton/Bdd" "size" "I" (.int (0 : Int32))) (F_stepLimit : Fld Z h0 a "com/example/cadmus/cadmus/automaton/Bdd" "stepLimit" "J" (.long (0 : Int64))) (g_a : n0 ≤ a) :
    MetFree l (⟨"com/example/cadmus/cadmus/automaton/Bdd", "<init>", "(J)V"⟩ : MethodName) (head1 (Jvm.Cond.code (⟨"com/example/cadmus/cadmus/automaton/Bdd", "<init>", "(J)V"⟩ : MethodName) prog_13_method_2_code 3 none :: ws) ({ frames := 2, cells := 8, slots := 23552, locals := 29 } : Room)) (fun as_ U => as_ = #[(.ref a), (.long q1)] ∧ Z.Warmed39 U.vm ∧ U.heap = h0) (fun _ _ _ _ _ => True) (fun _ U o U' => ∃ v L, o = .returned v ∧ Q2 Z a h0 n0 v U'.heap L ∧ FrameEnd U o U' L ({ frames := 2, cells := 8, slots := 23552, locals := 29 } : Room).cells ({ frames := 2, cells := 8, slots := 23552, locals := 29 } : Room).slots) := by
  refine MetFree.of_bodySF (plainFor_of_name pn_2) hisR ?_
  intro p e s m args below meth c s₁ Bd hml0 hP hK
  obtain ⟨rfl, hZ, hh⟩ := hP
  have hx := Bd.exec
  have hby := Bd.bytes
  have hml : c.maxLocals = 3 := hml0
  have hown : s.vm.findClass "com/example/cadmus/cadmus/automaton/Bdd" = some m.cls := findClass_of_methodNamed Bd.named
  have hnm := (name_of_methodNamed Bd.named Bd.method).1
  have X0 : Stand p l e ({ frames := 2, cells := 8, slots := 23552, locals := 29 } : Room) s m #[(.ref a), (.long q1)] below meth c s₁ [] 0 0 := Stand.of_body Bd
  have e0 : s₁.heap = h0 := by rw [← hh, Bd.state]; rfl
  have N0 := Fr.nil n0
  have pre0 : ∀ t, Steps p.tables e below (s₁.setTop (mkF m 0 #[.val (.ref a), .val (.long q1), .second] [])) t → Steps p.tables e below (s₁.setTop (entryFrame m #[(.ref a), (.long q1)] 3)) t := fun t k => castTop (ef_2 m a q1) k
  obtain ⟨T_1, X_1, e_1, st_1⟩ := initO X0 hx hZ hown (hw _ (List.mem_of_getElem? (i := 10) rfl)) (hw _ (List.mem_of_getElem? (i := 11) rfl)) (hw _ (List.mem_of_getElem? (i := 12) rfl)) e0 (g := (mkF m 1 #[.val (.ref a), .val (.long q1), .second] [(.ref a)])) rfl (by rw [hml]; rfl) rfl (hb hby d2_1) (by decide) (W := 0) (by show 2 * 0 + _ ≤ _; exact Nat.le_of_eq rfl) (by decide)
  obtain ⟨T_2, h_2, k_2, X_2, e_2, E_2, A_2, st_2⟩ := newP X_1 hx hZ (hw _ (List.mem_of_getElem? (i := 13) rfl)) e_1 (g := (mkF m 8 #[.val (.ref a), .val (.long q1), .second] [(.int (1024 : Int32)), (.ref a)])) rfl (hb hby d2_8) rfl (by decide) (cap := 1024) (by decide) (by decide) (by decide) (by decide)
  obtain ⟨b_2, g_2⟩ : ∃ z, z = h0.size := ⟨_, rfl⟩
  rw [← g_2] at A_2 st_2
  have ne_a_b_2 : a ≠ b_2 := Nat.ne_of_lt (Nat.lt_of_lt_of_le E_a.lt (Nat.le_of_eq g_2.symm))
  have g_b_2 : n0 ≤ b_2 := Nat.le_trans Z0 (Nat.le_of_eq g_2.symm)
  have sz_b_2 : h0.size ≤ b_2 := Nat.le_trans (Keep.refl h0 [a]).1 (Nat.le_of_eq g_2.symm)
  have K_2 : Keep h0 h_2 [a] := (Keep.refl h0 [a]).ext E_2
  have V_2 : ArrF Z h_2 b_2 .int (1024 : Int32) (fun _ => (Value.int (0 : Int32))) := ArrF.of_new A_2 (by decide)
  have Z_3 : n0 ≤ h_2.size := Nat.le_trans Z0 E_2.1
  have f_4_E_a := (E_a.ext E_2)
  have f_5_F_a_variables := (F_variables.ext E_2)
  obtain ⟨T_6, h_6, X_6, e_6, W_6, st_6⟩ := putF X_2 hx hZ hown (host := "") (Or.inl (hw _ (List.mem_of_getElem? (i := 14) rfl))) Via.refl e_2 f_5_F_a_variables f_4_E_a (Or.inl (hw _ (List.mem_of_getElem? (i := 15) rfl))) (hw _ (List.mem_of_getElem? (i := 1) rfl)) (ty := (.array .int)) (by decide) rfl rfl (g := (mkF m 10 #[.val (.ref a), .val (.long q1), .second] [(.ref b_2), (.ref a)])) rfl rfl (hb hby d2_10)
  have Fw_6 := f_5_F_a_variables.same W_6
  have K_6 : Keep h0 h_6 [a] := K_2.wr W_6 (Or.inl (List.mem_of_getElem? (i := 0) rfl))
  have N_6 := Fr.snoc X_6 N0 g_a
  have Z_7 : n0 ≤ h_6.size := Nat.le_trans Z_3 (Keep.of_wr W_6).1
  obtain ⟨T_8, h_8, k_8, X_8, e_8, E_8, A_8, st_8⟩ := newP X_6 hx hZ (hw _ (List.mem_of_getElem? (i := 13) rfl)) e_6 (g := (mkF m 17 #[.val (.ref a), .val (.long q1), .second] [(.int (1024 : Int32)), (.ref a)])) rfl (hb hby d2_17) rfl (by decide) (cap := 1024) (by decide) (by decide) (by decide) (by decide)
  obtain ⟨b_8, g_8⟩ : ∃ z, z = h_6.size := ⟨_, rfl⟩
  rw [← g_8] at A_8 st_8
  have f_9_E_a := (f_4_E_a.wr W_6)
  have ne_a_b_8 : a ≠ b_8 := Nat.ne_of_lt (Nat.lt_of_lt_of_le f_9_E_a.lt (Nat.le_of_eq g_8.symm))
  have f_10_V_b_2 := (V_2.other W_6 (Ne.symm ne_a_b_2))
  have ne_b_2_b_8 : b_2 ≠ b_8 := Nat.ne_of_lt (Nat.lt_of_lt_of_le f_10_V_b_2.lt (Nat.le_of_eq g_8.symm))
  have g_b_8 : n0 ≤ b_8 := Nat.le_trans Z_7 (Nat.le_of_eq g_8.symm)
  have sz_b_8 : h0.size ≤ b_8 := Nat.le_trans K_6.1 (Nat.le_of_eq g_8.symm)
  have K_8 : Keep h0 h_8 [a] := K_6.ext E_8
  have V_8 : ArrF Z h_8 b_8 .int (1024 : Int32) (fun _ => (Value.int (0 : Int32))) := ArrF.of_new A_8 (by decide)
  have Z_11 : n0 ≤ h_8.size := Nat.le_trans Z_7 E_8.1
  have f_12_E_a := (f_9_E_a.ext E_8)
  have f_13_F_a_lows := (((F_lows.ext E_2).other W_6 (Or.inr (slot_ne (Or.inl (hw _ (List.mem_of_getElem? (i := 17) rfl))) (Or.inl (hw _ (List.mem_of_getElem? (i := 15) rfl))) (by decide) (t := (.array .int)) (t' := (.array .int)) (by decide) (by decide)))).ext E_8)
  obtain ⟨T_14, h_14, X_14, e_14, W_14, st_14⟩ := putF X_8 hx hZ hown (host := "") (Or.inl (hw _ (List.mem_of_getElem? (i := 16) rfl))) Via.refl e_8 f_13_F_a_lows f_12_E_a (Or.inl (hw _ (List.mem_of_getElem? (i := 17) rfl))) (hw _ (List.mem_of_getElem? (i := 1) rfl)) (ty := (.array .int)) (by decide) rfl rfl (g := (mkF m 19 #[.val (.ref a), .val (.long q1), .second] [(.ref b_8), (.ref a)])) rfl rfl (hb hby d2_19)
  have Fw_14 := f_13_F_a_lows.same W_14
  have K_14 : Keep h0 h_14 [a] := K_8.wr W_14 (Or.inl (List.mem_of_getElem? (i := 0) rfl))
  have N_14 := Fr.snoc X_14 N_6 g_a
  have Z_15 : n0 ≤ h_14.size := Nat.le_trans Z_11 (Keep.of_wr W_14).1
  obtain ⟨T_16, h_16, k_16, X_16, e_16, E_16, A_16, st_16⟩ := newP X_14 hx hZ (hw _ (List.mem_of_getElem? (i := 13) rfl)) e_14 (g := (mkF m 26 #[.val (.ref a), .val (.long q1), .second] [(.int (1024 : Int32)), (.ref a)])) rfl (hb hby d2_26) rfl (by decide) (cap := 1024) (by decide) (by decide) (by decide) (by decide)
  obtain ⟨b_16, g_16⟩ : ∃ z, z = h_14.size := ⟨_, rfl⟩
  rw [← g_16] at A_16 st_16
  have f_17_E_a := (f_12_E_a.wr W_14)
  have ne_a_b_16 : a ≠ b_16 := Nat.ne_of_lt (Nat.lt_of_lt_of_le f_17_E_a.lt (Nat.le_of_eq g_16.symm))
  have f_18_V_b_2 := ((f_10_V_b_2.ext E_8).other W_14 (Ne.symm ne_a_b_2))
  have ne_b_2_b_16 : b_2 ≠ b_16 := Nat.ne_of_lt (Nat.lt_of_lt_of_le f_18_V_b_2.lt (Nat.le_of_eq g_16.symm))
  have f_19_V_b_8 := (V_8.other W_14 (Ne.symm ne_a_b_8))
  have ne_b_8_b_16 : b_8 ≠ b_16 := Nat.ne_of_lt (Nat.lt_of_lt_of_le f_19_V_b_8.lt (Nat.le_of_eq g_16.symm))
  have g_b_16 : n0 ≤ b_16 := Nat.le_trans Z_15 (Nat.le_of_eq g_16.symm)
  have sz_b_16 : h0.size ≤ b_16 := Nat.le_trans K_14.1 (Nat.le_of_eq g_16.symm)
  have K_16 : Keep h0 h_16 [a] := K_14.ext E_16
  have V_16 : ArrF Z h_16 b_16 .int (1024 : Int32) (fun _ => (Value.int (0 : Int32))) := ArrF.of_new A_16 (by decide)
  have Z_20 : n0 ≤ h_16.size := Nat.le_trans Z_15 E_16.1
  have f_21_E_a := (f_17_E_a.ext E_16)
  have f_22_F_a_highs := (((((F_highs.ext E_2).other W_6 (Or.inr (slot_ne (Or.inl (hw _ (List.mem_of_getElem? (i := 19) rfl))) (Or.inl (hw _ (List.mem_of_getElem? (i := 15) rfl))) (by decide) (t := (.array .int)) (t' := (.array .int)) (by decide) (by decide)))).ext E_8).other W_14 (Or.inr (slot_ne (Or.inl (hw _ (List.mem_of_getElem? (i := 19) rfl))) (Or.inl (hw _ (List.mem_of_getElem? (i := 17) rfl))) (by decide) (t := (.array .int)) (t' := (.array .int)) (by decide) (by decide)))).ext E_16)
  obtain ⟨T_23, h_23, X_23, e_23, W_23, st_23⟩ := putF X_16 hx hZ hown (host := "") (Or.inl (hw _ (List.mem_of_getElem? (i := 18) rfl))) Via.refl e_16 f_22_F_a_highs f_21_E_a (Or.inl (hw _ (List.mem_of_getElem? (i := 19) rfl))) (hw _ (List.mem_of_getElem? (i := 1) rfl)) (ty := (.array .int)) (by decide) rfl rfl (g := (mkF m 28 #[.val (.ref a), .val (.long q1), .second] [(.ref b_16), (.ref a)])) rfl rfl (hb hby d2_28)
  have Fw_23 := f_22_F_a_highs.same W_23
  have K_23 : Keep h0 h_23 [a] := K_16.wr W_23 (Or.inl (List.mem_of_getElem? (i := 0) rfl))
  have N_23 := Fr.snoc X_23 N_14 g_a
  have Z_24 : n0 ≤ h_23.size := Nat.le_trans Z_20 (Keep.of_wr W_23).1
  obtain ⟨b_25, g_25⟩ : ∃ z, z = h_23.size := ⟨_, rfl⟩
  have f_26_E_a := (f_21_E_a.wr W_23)
  have ne_a_b_25 : a ≠ b_25 := Nat.ne_of_lt (Nat.lt_of_lt_of_le f_26_E_a.lt (Nat.le_of_eq g_25.symm))
  have f_27_V_b_2 := ((f_18_V_b_2.ext E_16).other W_23 (Ne.symm ne_a_b_2))
  have ne_b_2_b_25 : b_2 ≠ b_25 := Nat.ne_of_lt (Nat.lt_of_lt_of_le f_27_V_b_2.lt (Nat.le_of_eq g_25.symm))
  have f_28_V_b_8 := ((f_19_V_b_8.ext E_16).other W_23 (Ne.symm ne_a_b_8))
  have ne_b_8_b_25 : b_8 ≠ b_25 := Nat.ne_of_lt (Nat.lt_of_lt_of_le f_28_V_b_8.lt (Nat.le_of_eq g_25.symm))
  have f_29_V_b_16 := (V_16.other W_23 (Ne.symm ne_a_b_16))
  have ne_b_16_b_25 : b_16 ≠ b_25 := Nat.ne_of_lt (Nat.lt_of_lt_of_le f_29_V_b_16.lt (Nat.le_of_eq g_25.symm))
  have g_b_25 : n0 ≤ b_25 := Nat.le_trans Z_24 (Nat.le_of_eq g_25.symm)
  have sz_b_25 : h0.size ≤ b_25 := Nat.le_trans K_23.1 (Nat.le_of_eq g_25.symm)
  obtain ⟨_, _, ⟨T_25, L_25, k_25, n_25⟩, -, X_25, ⟨Lc_25, hQ_25, l_25, y_25, z_25⟩, st_25⟩ := Jvm.LawKit.callS X_23 hx (y := (⟨"com/example/cadmus/cadmus/automaton/Bdd", "emptyTable", "(I)[I"⟩ : MethodName)) hown (mvT hZ (hw _ (List.mem_of_getElem? (i := 20) rfl))) (mvT hZ (hw _ (List.mem_of_getElem? (i := 21) rfl))) (mvT hZ (hw _ (List.mem_of_getElem? (i := 2) rfl))) (mvT hZ (hw _ (List.mem_of_getElem? (i := 22) rfl))) (by decide) (backOf (W := 1) (rm4 l Z a0 hw [] (2048 : Int32) b_25 h_23 n0 Z_24 g_25 (by decide) (by decide)) hZ (hw _ (List.mem_of_getElem? (i := 22) rfl)) (hw _ (List.mem_of_getElem? (i := 2) rfl)) (by decide) (by decide)) (g := (mkF m 35 #[.val (.ref a), .val (.long q1), .second] [(.int (2048 : Int32)), (.ref a)])) rfl (by rw [hml]; rfl) (argsL := [(.int (2048 : Int32))]) (rest := [(.ref a)]) (lenOf pd_1 rfl) rfl (by show 2 * 0 + _ ≤ _; exact Nat.le_of_eq rfl) (hb hby d2_35) (fun _ _ => ⟨rfl, e_23, (by decide : 3 + 1 ≤ _), (by decide : 3072 + 4096 ≤ _)⟩)
  dsimp only [Pt.U, Pt.locs, Pt.cells, Pt.slots] at X_25 l_25 y_25 z_25 st_25 hQ_25
  subst l_25 y_25 z_25
  obtain ⟨rfl, Nq_25, Kq_25, Vq_25⟩ := hQ_25
  have N_25 := Fr.app N_23 Nq_25
  have KK_25 : Keep h0 T_25.heap [a] := K_23.trans Kq_25 all0
  have Z_30 : n0 ≤ T_25.heap.size := Nat.le_trans Z_24 Kq_25.1
  have f_31_E_a := (f_26_E_a.keep Kq_25)
  have f_32_F_a_unique := (((((((F_unique.ext E_2).other W_6 (Or.inr (slot_ne (Or.inl (hw _ (List.mem_of_getElem? (i := 28) rfl))) (Or.inl (hw _ (List.mem_of_getElem? (i := 15) rfl))) (by decide) (t := (.array .int)) (t' := (.array .int)) (by decide) (by decide)))).ext E_8).other W_14 (Or.inr (slot_ne (Or.inl (hw _ (List.mem_of_getElem? (i := 28) rfl))) (Or.inl (hw _ (List.mem_of_getElem? (i := 17) rfl))) (by decide) (t := (.array .int)) (t' := (.array .int)) (by decide) (by decide)))).ext E_16).other W_23 (Or.inr (slot_ne (Or.inl (hw _ (List.mem_of_getElem? (i := 28) rfl))) (Or.inl (hw _ (List.mem_of_getElem? (i := 19) rfl))) (by decide) (t := (.array .int)) (t' := (.array .int)) (by decide) (by decide)))).keep Kq_25 nin0)
  obtain ⟨T_33, h_33, X_33, e_33, W_33, st_33⟩ := putF X_25 hx hZ hown (host := "") (Or.inl (hw _ (List.mem_of_getElem? (i := 27) rfl))) Via.refl rfl f_32_F_a_unique f_31_E_a (Or.inl (hw _ (List.mem_of_getElem? (i := 28) rfl))) (hw _ (List.mem_of_getElem? (i := 1) rfl)) (ty := (.array .int)) (by decide) rfl rfl (g := (mkF m 38 #[.val (.ref a), .val (.long q1), .second] [(.ref b_25), (.ref a)])) rfl rfl (hb hby d2_38)
  have Fw_33 := f_32_F_a_unique.same W_33
  have K_33 : Keep h0 h_33 [a] := KK_25.wr W_33 (Or.inl (List.mem_of_getElem? (i := 0) rfl))
  have N_33 := Fr.snoc X_33 N_25 g_a
  have Z_34 : n0 ≤ h_33.size := Nat.le_trans Z_30 (Keep.of_wr W_33).1
  obtain ⟨b_35, g_35⟩ : ∃ z, z = h_33.size := ⟨_, rfl⟩
  have f_36_E_a := (f_31_E_a.wr W_33)
  have ne_a_b_35 : a ≠ b_35 := Nat.ne_of_lt (Nat.lt_of_lt_of_le f_36_E_a.lt (Nat.le_of_eq g_35.symm))
  have f_37_V_b_2 := ((f_27_V_b_2.keep Kq_25 nin0).other W_33 (Ne.symm ne_a_b_2))
  have ne_b_2_b_35 : b_2 ≠ b_35 := Nat.ne_of_lt (Nat.lt_of_lt_of_le f_37_V_b_2.lt (Nat.le_of_eq g_35.symm))
  have f_38_V_b_8 := ((f_28_V_b_8.keep Kq_25 nin0).other W_33 (Ne.symm ne_a_b_8))
  have ne_b_8_b_35 : b_8 ≠ b_35 := Nat.ne_of_lt (Nat.lt_of_lt_of_le f_38_V_b_8.lt (Nat.le_of_eq g_35.symm))
  have f_39_V_b_16 := ((f_29_V_b_16.keep Kq_25 nin0).other W_33 (Ne.symm ne_a_b_16))
  have ne_b_16_b_35 : b_16 ≠ b_35 := Nat.ne_of_lt (Nat.lt_of_lt_of_le f_39_V_b_16.lt (Nat.le_of_eq g_35.symm))
  have f_40_V_b_25 := (Vq_25.other W_33 (Ne.symm ne_a_b_25))
  have ne_b_25_b_35 : b_25 ≠ b_35 := Nat.ne_of_lt (Nat.lt_of_lt_of_le f_40_V_b_25.lt (Nat.le_of_eq g_35.symm))
  have g_b_35 : n0 ≤ b_35 := Nat.le_trans Z_34 (Nat.le_of_eq g_35.symm)
  have sz_b_35 : h0.size ≤ b_35 := Nat.le_trans K_33.1 (Nat.le_of_eq g_35.symm)
  obtain ⟨_, _, ⟨T_35, L_35, k_35, n_35⟩, -, X_35, ⟨Lc_35, hQ_35, l_35, y_35, z_35⟩, st_35⟩ := Jvm.LawKit.callS X_33 hx (y := (⟨"com/example/cadmus/cadmus/automaton/Bdd", "emptyTable", "(I)[I"⟩ : MethodName)) hown (mvT hZ (hw _ (List.mem_of_getElem? (i := 20) rfl))) (mvT hZ (hw _ (List.mem_of_getElem? (i := 21) rfl))) (mvT hZ (hw _ (List.mem_of_getElem? (i := 2) rfl))) (mvT hZ (hw _ (List.mem_of_getElem? (i := 22) rfl))) (by decide) (backOf (W := 1) (rm4 l Z a0 hw [] (4096 : Int32) b_35 h_33 n0 Z_34 g_35 (by decide) (by decide)) hZ (hw _ (List.mem_of_getElem? (i := 22) rfl)) (hw _ (List.mem_of_getElem? (i := 2) rfl)) (by decide) (by decide)) (g := (mkF m 45 #[.val (.ref a), .val (.long q1), .second] [(.int (4096 : Int32)), (.ref a)])) rfl (by rw [hml]; rfl) (argsL := [(.int (4096 : Int32))]) (rest := [(.ref a)]) (lenOf pd_1 rfl) rfl (by show 2 * 0 + _ ≤ _; exact Nat.le_of_eq rfl) (hb hby d2_45) (fun _ _ => ⟨rfl, e_33, (by decide : 4 + 1 ≤ _), (by decide : 7168 + 4096 ≤ _)⟩)
  dsimp only [Pt.U, Pt.locs, Pt.cells, Pt.slots] at X_35 l_35 y_35 z_35 st_35 hQ_35
  subst l_35 y_35 z_35
  obtain ⟨rfl, Nq_35, Kq_35, Vq_35⟩ := hQ_35
  have N_35 := Fr.app N_33 Nq_35
  have KK_35 : Keep h0 T_35.heap [a] := K_33.trans Kq_35 all0
  have Z_41 : n0 ≤ T_35.heap.size := Nat.le_trans Z_34 Kq_35.1
  have f_42_E_a := (f_36_E_a.keep Kq_35)
  have f_43_F_a_cacheOps := (((((((((F_cacheOps.ext E_2).other W_6 (Or.inr (slot_ne (Or.inl (hw _ (List.mem_of_getElem? (i := 30) rfl))) (Or.inl (hw _ (List.mem_of_getElem? (i := 15) rfl))) (by decide) (t := (.array .int)) (t' := (.array .int)) (by decide) (by decide)))).ext E_8).other W_14 (Or.inr (slot_ne (Or.inl (hw _ (List.mem_of_getElem? (i := 30) rfl))) (Or.inl (hw _ (List.mem_of_getElem? (i := 17) rfl))) (by decide) (t := (.array .int)) (t' := (.array .int)) (by decide) (by decide)))).ext E_16).other W_23 (Or.inr (slot_ne (Or.inl (hw _ (List.mem_of_getElem? (i := 30) rfl))) (Or.inl (hw _ (List.mem_of_getElem? (i := 19) rfl))) (by decide) (t := (.array .int)) (t' := (.array .int)) (by decide) (by decide)))).keep Kq_25 nin0).other W_33 (Or.inr (slot_ne (Or.inl (hw _ (List.mem_of_getElem? (i := 30) rfl))) (Or.inl (hw _ (List.mem_of_getElem? (i := 28) rfl))) (by decide) (t := (.array .int)) (t' := (.array .int)) (by decide) (by decide)))).keep Kq_35 nin0)
  obtain ⟨T_44, h_44, X_44, e_44, W_44, st_44⟩ := putF X_35 hx hZ hown (host := "") (Or.inl (hw _ (List.mem_of_getElem? (i := 29) rfl))) Via.refl rfl f_43_F_a_cacheOps f_42_E_a (Or.inl (hw _ (List.mem_of_getElem? (i := 30) rfl))) (hw _ (List.mem_of_getElem? (i := 1) rfl)) (ty := (.array .int)) (by decide) rfl rfl (g := (mkF m 48 #[.val (.ref a), .val (.long q1), .second] [(.ref b_35), (.ref a)])) rfl rfl (hb hby d2_48)
  have Fw_44 := f_43_F_a_cacheOps.same W_44
  have K_44 : Keep h0 h_44 [a] := KK_35.wr W_44 (Or.inl (List.mem_of_getElem? (i := 0) rfl))
  have N_44 := Fr.snoc X_44 N_35 g_a
  have Z_45 : n0 ≤ h_44.size := Nat.le_trans Z_41 (Keep.of_wr W_44).1
  obtain ⟨T_46, h_46, k_46, X_46, e_46, E_46, A_46, st_46⟩ := newP X_44 hx hZ (hw _ (List.mem_of_getElem? (i := 13) rfl)) e_44 (g := (mkF m 55 #[.val (.ref a), .val (.long q1), .second] [(.int (4096 : Int32)), (.ref a)])) rfl (hb hby d2_55) rfl (by decide) (cap := 4096) (by decide) (by decide) (by decide) (by decide)
  obtain ⟨b_46, g_46⟩ : ∃ z, z = h_44.size := ⟨_, rfl⟩
  rw [← g_46] at A_46 st_46
  have f_47_E_a := (f_42_E_a.wr W_44)
  have ne_a_b_46 : a ≠ b_46 := Nat.ne_of_lt (Nat.lt_of_lt_of_le f_47_E_a.lt (Nat.le_of_eq g_46.symm))
  have f_48_V_b_2 := ((f_37_V_b_2.keep Kq_35 nin0).other W_44 (Ne.symm ne_a_b_2))
  have ne_b_2_b_46 : b_2 ≠ b_46 := Nat.ne_of_lt (Nat.lt_of_lt_of_le f_48_V_b_2.lt (Nat.le_of_eq g_46.symm))
  have f_49_V_b_8 := ((f_38_V_b_8.keep Kq_35 nin0).other W_44 (Ne.symm ne_a_b_8))
  have ne_b_8_b_46 : b_8 ≠ b_46 := Nat.ne_of_lt (Nat.lt_of_lt_of_le f_49_V_b_8.lt (Nat.le_of_eq g_46.symm))
  have f_50_V_b_16 := ((f_39_V_b_16.keep Kq_35 nin0).other W_44 (Ne.symm ne_a_b_16))
  have ne_b_16_b_46 : b_16 ≠ b_46 := Nat.ne_of_lt (Nat.lt_of_lt_of_le f_50_V_b_16.lt (Nat.le_of_eq g_46.symm))
  have f_51_V_b_25 := ((f_40_V_b_25.keep Kq_35 nin0).other W_44 (Ne.symm ne_a_b_25))
  have ne_b_25_b_46 : b_25 ≠ b_46 := Nat.ne_of_lt (Nat.lt_of_lt_of_le f_51_V_b_25.lt (Nat.le_of_eq g_46.symm))
  have f_52_V_b_35 := (Vq_35.other W_44 (Ne.symm ne_a_b_35))
  have ne_b_35_b_46 : b_35 ≠ b_46 := Nat.ne_of_lt (Nat.lt_of_lt_of_le f_52_V_b_35.lt (Nat.le_of_eq g_46.symm))
  have g_b_46 : n0 ≤ b_46 := Nat.le_trans Z_45 (Nat.le_of_eq g_46.symm)
  have sz_b_46 : h0.size ≤ b_46 := Nat.le_trans K_44.1 (Nat.le_of_eq g_46.symm)
  have K_46 : Keep h0 h_46 [a] := K_44.ext E_46
  have V_46 : ArrF Z h_46 b_46 .int (4096 : Int32) (fun _ => (Value.int (0 : Int32))) := ArrF.of_new A_46 (by decide)
  have Z_53 : n0 ≤ h_46.size := Nat.le_trans Z_45 E_46.1
  have f_54_E_a := (f_47_E_a.ext E_46)
  have f_55_F_a_cacheLefts := (((((((((((F_cacheLefts.ext E_2).other W_6 (Or.inr (slot_ne (Or.inl (hw _ (List.mem_of_getElem? (i := 32) rfl))) (Or.inl (hw _ (List.mem_of_getElem? (i := 15) rfl))) (by decide) (t := (.array .int)) (t' := (.array .int)) (by decide) (by decide)))).ext E_8).other W_14 (Or.inr (slot_ne (Or.inl (hw _ (List.mem_of_getElem? (i := 32) rfl))) (Or.inl (hw _ (List.mem_of_getElem? (i := 17) rfl))) (by decide) (t := (.array .int)) (t' := (.array .int)) (by decide) (by decide)))).ext E_16).other W_23 (Or.inr (slot_ne (Or.inl (hw _ (List.mem_of_getElem? (i := 32) rfl))) (Or.inl (hw _ (List.mem_of_getElem? (i := 19) rfl))) (by decide) (t := (.array .int)) (t' := (.array .int)) (by decide) (by decide)))).keep Kq_25 nin0).other W_33 (Or.inr (slot_ne (Or.inl (hw _ (List.mem_of_getElem? (i := 32) rfl))) (Or.inl (hw _ (List.mem_of_getElem? (i := 28) rfl))) (by decide) (t := (.array .int)) (t' := (.array .int)) (by decide) (by decide)))).keep Kq_35 nin0).other W_44 (Or.inr (slot_ne (Or.inl (hw _ (List.mem_of_getElem? (i := 32) rfl))) (Or.inl (hw _ (List.mem_of_getElem? (i := 30) rfl))) (by decide) (t := (.array .int)) (t' := (.array .int)) (by decide) (by decide)))).ext E_46)
  obtain ⟨T_56, h_56, X_56, e_56, W_56, st_56⟩ := putF X_46 hx hZ hown (host := "") (Or.inl (hw _ (List.mem_of_getElem? (i := 31) rfl))) Via.refl e_46 f_55_F_a_cacheLefts f_54_E_a (Or.inl (hw _ (List.mem_of_getElem? (i := 32) rfl))) (hw _ (List.mem_of_getElem? (i := 1) rfl)) (ty := (.array .int)) (by decide) rfl rfl (g := (mkF m 57 #[.val (.ref a), .val (.long q1), .second] [(.ref b_46), (.ref a)])) rfl rfl (hb hby d2_57)
  have Fw_56 := f_55_F_a_cacheLefts.same W_56
  have K_56 : Keep h0 h_56 [a] := K_46.wr W_56 (Or.inl (List.mem_of_getElem? (i := 0) rfl))
  have N_56 := Fr.snoc X_56 N_44 g_a
  have Z_57 : n0 ≤ h_56.size := Nat.le_trans Z_53 (Keep.of_wr W_56).1
  obtain ⟨T_58, h_58, k_58, X_58, e_58, E_58, A_58, st_58⟩ := newP X_56 hx hZ (hw _ (List.mem_of_getElem? (i := 13) rfl)) e_56 (g := (mkF m 64 #[.val (.ref a), .val (.long q1), .second] [(.int (4096 : Int32)), (.ref a)])) rfl (hb hby d2_64) rfl (by decide) (cap := 4096) (by decide) (by decide) (by decide) (by decide)
  obtain ⟨b_58, g_58⟩ : ∃ z, z = h_56.size := ⟨_, rfl⟩
  rw [← g_58] at A_58 st_58
  have f_59_E_a := (f_54_E_a.wr W_56)
  have ne_a_b_58 : a ≠ b_58 := Nat.ne_of_lt (Nat.lt_of_lt_of_le f_59_E_a.lt (Nat.le_of_eq g_58.symm))
  have f_60_V_b_2 := ((f_48_V_b_2.ext E_46).other W_56 (Ne.symm ne_a_b_2))
  have ne_b_2_b_58 : b_2 ≠ b_58 := Nat.ne_of_lt (Nat.lt_of_lt_of_le f_60_V_b_2.lt (Nat.le_of_eq g_58.symm))
  have f_61_V_b_8 := ((f_49_V_b_8.ext E_46).other W_56 (Ne.symm ne_a_b_8))
  have ne_b_8_b_58 : b_8 ≠ b_58 := Nat.ne_of_lt (Nat.lt_of_lt_of_le f_61_V_b_8.lt (Nat.le_of_eq g_58.symm))
  have f_62_V_b_16 := ((f_50_V_b_16.ext E_46).other W_56 (Ne.symm ne_a_b_16))
  have ne_b_16_b_58 : b_16 ≠ b_58 := Nat.ne_of_lt (Nat.lt_of_lt_of_le f_62_V_b_16.lt (Nat.le_of_eq g_58.symm))
  have f_63_V_b_25 := ((f_51_V_b_25.ext E_46).other W_56 (Ne.symm ne_a_b_25))
  have ne_b_25_b_58 : b_25 ≠ b_58 := Nat.ne_of_lt (Nat.lt_of_lt_of_le f_63_V_b_25.lt (Nat.le_of_eq g_58.symm))
  have f_64_V_b_35 := ((f_52_V_b_35.ext E_46).other W_56 (Ne.symm ne_a_b_35))
  have ne_b_35_b_58 : b_35 ≠ b_58 := Nat.ne_of_lt (Nat.lt_of_lt_of_le f_64_V_b_35.lt (Nat.le_of_eq g_58.symm))
  have f_65_V_b_46 := (V_46.other W_56 (Ne.symm ne_a_b_46))
  have ne_b_46_b_58 : b_46 ≠ b_58 := Nat.ne_of_lt (Nat.lt_of_lt_of_le f_65_V_b_46.lt (Nat.le_of_eq g_58.symm))
  have g_b_58 : n0 ≤ b_58 := Nat.le_trans Z_57 (Nat.le_of_eq g_58.symm)
  have sz_b_58 : h0.size ≤ b_58 := Nat.le_trans K_56.1 (Nat.le_of_eq g_58.symm)
  have K_58 : Keep h0 h_58 [a] := K_56.ext E_58
  have V_58 : ArrF Z h_58 b_58 .int (4096 : Int32) (fun _ => (Value.int (0 : Int32))) := ArrF.of_new A_58 (by decide)
  have Z_66 : n0 ≤ h_58.size := Nat.le_trans Z_57 E_58.1
  have f_67_E_a := (f_59_E_a.ext E_58)
  have f_68_F_a_cacheRights := (((((((((((((F_cacheRights.ext E_2).other W_6 (Or.inr (slot_ne (Or.inl (hw _ (List.mem_of_getElem? (i := 34) rfl))) (Or.inl (hw _ (List.mem_of_getElem? (i := 15) rfl))) (by decide) (t := (.array .int)) (t' := (.array .int)) (by decide) (by decide)))).ext E_8).other W_14 (Or.inr (slot_ne (Or.inl (hw _ (List.mem_of_getElem? (i := 34) rfl))) (Or.inl (hw _ (List.mem_of_getElem? (i := 17) rfl))) (by decide) (t := (.array .int)) (t' := (.array .int)) (by decide) (by decide)))).ext E_16).other W_23 (Or.inr (slot_ne (Or.inl (hw _ (List.mem_of_getElem? (i := 34) rfl))) (Or.inl (hw _ (List.mem_of_getElem? (i := 19) rfl))) (by decide) (t := (.array .int)) (t' := (.array .int)) (by decide) (by decide)))).keep Kq_25 nin0).other W_33 (Or.inr (slot_ne (Or.inl (hw _ (List.mem_of_getElem? (i := 34) rfl))) (Or.inl (hw _ (List.mem_of_getElem? (i := 28) rfl))) (by decide) (t := (.array .int)) (t' := (.array .int)) (by decide) (by decide)))).keep Kq_35 nin0).other W_44 (Or.inr (slot_ne (Or.inl (hw _ (List.mem_of_getElem? (i := 34) rfl))) (Or.inl (hw _ (List.mem_of_getElem? (i := 30) rfl))) (by decide) (t := (.array .int)) (t' := (.array .int)) (by decide) (by decide)))).ext E_46).other W_56 (Or.inr (slot_ne (Or.inl (hw _ (List.mem_of_getElem? (i := 34) rfl))) (Or.inl (hw _ (List.mem_of_getElem? (i := 32) rfl))) (by decide) (t := (.array .int)) (t' := (.array .int)) (by decide) (by decide)))).ext E_58)
  obtain ⟨T_69, h_69, X_69, e_69, W_69, st_69⟩ := putF X_58 hx hZ hown (host := "") (Or.inl (hw _ (List.mem_of_getElem? (i := 33) rfl))) Via.refl e_58 f_68_F_a_cacheRights f_67_E_a (Or.inl (hw _ (List.mem_of_getElem? (i := 34) rfl))) (hw _ (List.mem_of_getElem? (i := 1) rfl)) (ty := (.array .int)) (by decide) rfl rfl (g := (mkF m 66 #[.val (.ref a), .val (.long q1), .second] [(.ref b_58), (.ref a)])) rfl rfl (hb hby d2_66)
  have Fw_69 := f_68_F_a_cacheRights.same W_69
  have K_69 : Keep h0 h_69 [a] := K_58.wr W_69 (Or.inl (List.mem_of_getElem? (i := 0) rfl))
  have N_69 := Fr.snoc X_69 N_56 g_a
  have Z_70 : n0 ≤ h_69.size := Nat.le_trans Z_66 (Keep.of_wr W_69).1
  obtain ⟨T_71, h_71, k_71, X_71, e_71, E_71, A_71, st_71⟩ := newP X_69 hx hZ (hw _ (List.mem_of_getElem? (i := 13) rfl)) e_69 (g := (mkF m 73 #[.val (.ref a), .val (.long q1), .second] [(.int (4096 : Int32)), (.ref a)])) rfl (hb hby d2_73) rfl (by decide) (cap := 4096) (by decide) (by decide) (by decide) (by decide)
  obtain ⟨b_71, g_71⟩ : ∃ z, z = h_69.size := ⟨_, rfl⟩
  rw [← g_71] at A_71 st_71
  have f_72_E_a := (f_67_E_a.wr W_69)
  have ne_a_b_71 : a ≠ b_71 := Nat.ne_of_lt (Nat.lt_of_lt_of_le f_72_E_a.lt (Nat.le_of_eq g_71.symm))
  have f_73_V_b_2 := ((f_60_V_b_2.ext E_58).other W_69 (Ne.symm ne_a_b_2))
  have ne_b_2_b_71 : b_2 ≠ b_71 := Nat.ne_of_lt (Nat.lt_of_lt_of_le f_73_V_b_2.lt (Nat.le_of_eq g_71.symm))
  have f_74_V_b_8 := ((f_61_V_b_8.ext E_58).other W_69 (Ne.symm ne_a_b_8))
  have ne_b_8_b_71 : b_8 ≠ b_71 := Nat.ne_of_lt (Nat.lt_of_lt_of_le f_74_V_b_8.lt (Nat.le_of_eq g_71.symm))
  have f_75_V_b_16 := ((f_62_V_b_16.ext E_58).other W_69 (Ne.symm ne_a_b_16))
  have ne_b_16_b_71 : b_16 ≠ b_71 := Nat.ne_of_lt (Nat.lt_of_lt_of_le f_75_V_b_16.lt (Nat.le_of_eq g_71.symm))
  have f_76_V_b_25 := ((f_63_V_b_25.ext E_58).other W_69 (Ne.symm ne_a_b_25))
  have ne_b_25_b_71 : b_25 ≠ b_71 := Nat.ne_of_lt (Nat.lt_of_lt_of_le f_76_V_b_25.lt (Nat.le_of_eq g_71.symm))
  have f_77_V_b_35 := ((f_64_V_b_35.ext E_58).other W_69 (Ne.symm ne_a_b_35))
  have ne_b_35_b_71 : b_35 ≠ b_71 := Nat.ne_of_lt (Nat.lt_of_lt_of_le f_77_V_b_35.lt (Nat.le_of_eq g_71.symm))
  have f_78_V_b_46 := ((f_65_V_b_46.ext E_58).other W_69 (Ne.symm ne_a_b_46))
  have ne_b_46_b_71 : b_46 ≠ b_71 := Nat.ne_of_lt (Nat.lt_of_lt_of_le f_78_V_b_46.lt (Nat.le_of_eq g_71.symm))
  have f_79_V_b_58 := (V_58.other W_69 (Ne.symm ne_a_b_58))
  have ne_b_58_b_71 : b_58 ≠ b_71 := Nat.ne_of_lt (Nat.lt_of_lt_of_le f_79_V_b_58.lt (Nat.le_of_eq g_71.symm))
  have g_b_71 : n0 ≤ b_71 := Nat.le_trans Z_70 (Nat.le_of_eq g_71.symm)
  have sz_b_71 : h0.size ≤ b_71 := Nat.le_trans K_69.1 (Nat.le_of_eq g_71.symm)
  have K_71 : Keep h0 h_71 [a] := K_69.ext E_71
  have V_71 : ArrF Z h_71 b_71 .int (4096 : Int32) (fun _ => (Value.int (0 : Int32))) := ArrF.of_new A_71 (by decide)
  have Z_80 : n0 ≤ h_71.size := Nat.le_trans Z_70 E_71.1
  have f_81_E_a := (f_72_E_a.ext E_71)
  have f_82_F_a_cacheResults := (((((((((((((((F_cacheResults.ext E_2).other W_6 (Or.inr (slot_ne (Or.inl (hw _ (List.mem_of_getElem? (i := 36) rfl))) (Or.inl (hw _ (List.mem_of_getElem? (i := 15) rfl))) (by decide) (t := (.array .int)) (t' := (.array .int)) (by decide) (by decide)))).ext E_8).other W_14 (Or.inr (slot_ne (Or.inl (hw _ (List.mem_of_getElem? (i := 36) rfl))) (Or.inl (hw _ (List.mem_of_getElem? (i := 17) rfl))) (by decide) (t := (.array .int)) (t' := (.array .int)) (by decide) (by decide)))).ext E_16).other W_23 (Or.inr (slot_ne (Or.inl (hw _ (List.mem_of_getElem? (i := 36) rfl))) (Or.inl (hw _ (List.mem_of_getElem? (i := 19) rfl))) (by decide) (t := (.array .int)) (t' := (.array .int)) (by decide) (by decide)))).keep Kq_25 nin0).other W_33 (Or.inr (slot_ne (Or.inl (hw _ (List.mem_of_getElem? (i := 36) rfl))) (Or.inl (hw _ (List.mem_of_getElem? (i := 28) rfl))) (by decide) (t := (.array .int)) (t' := (.array .int)) (by decide) (by decide)))).keep Kq_35 nin0).other W_44 (Or.inr (slot_ne (Or.inl (hw _ (List.mem_of_getElem? (i := 36) rfl))) (Or.inl (hw _ (List.mem_of_getElem? (i := 30) rfl))) (by decide) (t := (.array .int)) (t' := (.array .int)) (by decide) (by decide)))).ext E_46).other W_56 (Or.inr (slot_ne (Or.inl (hw _ (List.mem_of_getElem? (i := 36) rfl))) (Or.inl (hw _ (List.mem_of_getElem? (i := 32) rfl))) (by decide) (t := (.array .int)) (t' := (.array .int)) (by decide) (by decide)))).ext E_58).other W_69 (Or.inr (slot_ne (Or.inl (hw _ (List.mem_of_getElem? (i := 36) rfl))) (Or.inl (hw _ (List.mem_of_getElem? (i := 34) rfl))) (by decide) (t := (.array .int)) (t' := (.array .int)) (by decide) (by decide)))).ext E_71)
  obtain ⟨T_83, h_83, X_83, e_83, W_83, st_83⟩ := putF X_71 hx hZ hown (host := "") (Or.inl (hw _ (List.mem_of_getElem? (i := 35) rfl))) Via.refl e_71 f_82_F_a_cacheResults f_81_E_a (Or.inl (hw _ (List.mem_of_getElem? (i := 36) rfl))) (hw _ (List.mem_of_getElem? (i := 1) rfl)) (ty := (.array .int)) (by decide) rfl rfl (g := (mkF m 75 #[.val (.ref a), .val (.long q1), .second] [(.ref b_71), (.ref a)])) rfl rfl (hb hby d2_75)
  have Fw_83 := f_82_F_a_cacheResults.same W_83
  have K_83 : Keep h0 h_83 [a] := K_71.wr W_83 (Or.inl (List.mem_of_getElem? (i := 0) rfl))
  have N_83 := Fr.snoc X_83 N_69 g_a
  have Z_84 : n0 ≤ h_83.size := Nat.le_trans Z_80 (Keep.of_wr W_83).1
  have f_85_F_a_variables := ((((((((((((((Fw_6.ext E_8).other W_14 (Or.inr (slot_ne (Or.inl (hw _ (List.mem_of_getElem? (i := 15) rfl))) (Or.inl (hw _ (List.mem_of_getElem? (i := 17) rfl))) (by decide) (t := (.array .int)) (t' := (.array .int)) (by decide) (by decide)))).ext E_16).other W_23 (Or.inr (slot_ne (Or.inl (hw _ (List.mem_of_getElem? (i := 15) rfl))) (Or.inl (hw _ (List.mem_of_getElem? (i := 19) rfl))) (by decide) (t := (.array .int)) (t' := (.array .int)) (by decide) (by decide)))).keep Kq_25 nin0).other W_33 (Or.inr (slot_ne (Or.inl (hw _ (List.mem_of_getElem? (i := 15) rfl))) (Or.inl (hw _ (List.mem_of_getElem? (i := 28) rfl))) (by decide) (t := (.array .int)) (t' := (.array .int)) (by decide) (by decide)))).keep Kq_35 nin0).other W_44 (Or.inr (slot_ne (Or.inl (hw _ (List.mem_of_getElem? (i := 15) rfl))) (Or.inl (hw _ (List.mem_of_getElem? (i := 30) rfl))) (by decide) (t := (.array .int)) (t' := (.array .int)) (by decide) (by decide)))).ext E_46).other W_56 (Or.inr (slot_ne (Or.inl (hw _ (List.mem_of_getElem? (i := 15) rfl))) (Or.inl (hw _ (List.mem_of_getElem? (i := 32) rfl))) (by decide) (t := (.array .int)) (t' := (.array .int)) (by decide) (by decide)))).ext E_58).other W_69 (Or.inr (slot_ne (Or.inl (hw _ (List.mem_of_getElem? (i := 15) rfl))) (Or.inl (hw _ (List.mem_of_getElem? (i := 34) rfl))) (by decide) (t := (.array .int)) (t' := (.array .int)) (by decide) (by decide)))).ext E_71).other W_83 (Or.inr (slot_ne (Or.inl (hw _ (List.mem_of_getElem? (i := 15) rfl))) (Or.inl (hw _ (List.mem_of_getElem? (i := 36) rfl))) (by decide) (t := (.array .int)) (t' := (.array .int)) (by decide) (by decide))))
  obtain ⟨T_86, X_86, e_86, st_86⟩ := getF X_83 hx hZ hown (host := "") (Or.inl (hw _ (List.mem_of_getElem? (i := 14) rfl))) Via.refl e_83 f_85_F_a_variables (g := (mkF m 79 #[.val (.ref a), .val (.long q1), .second] [(.ref a)])) rfl rfl (hb hby d2_79)
  have f_89_V_b_2 := ((f_73_V_b_2.ext E_71).other W_83 (Ne.symm ne_a_b_2))
  obtain ⟨cl_88, Ar_88, Sz_88, Mz_88, Hz_88⟩ := id f_89_V_b_2
  obtain ⟨T_87, h_87, X_87, e_87, W_87, st_87⟩ := stI X_86 hx hZ e_86 Ar_88 (j := (0 : Int32)) (inb_of Sz_88 ⟨(by decide), (by decide)⟩) (g := (mkF m 84 #[.val (.ref a), .val (.long q1), .second] [(.int (-1 : Int32)), (.int (0 : Int32)), (.ref b_2)])) rfl rfl (hb hby d2_84)
  have K_87 : Keep h0 h_87 [a] := K_83.wr W_87 (Or.inr sz_b_2)
  have N_87 := Fr.snoc X_87 N_83 g_b_2
  have Z_90 : n0 ≤ h_87.size := Nat.le_trans Z_84 (Keep.of_wr W_87).1
  have Vw_87 := ArrF.set Ar_88 Sz_88 Mz_88 Hz_88 W_87
  have f_91_F_a_variables := (f_85_F_a_variables.other W_87 (Or.inl ne_a_b_2))
  obtain ⟨T_92, X_92, e_92, st_92⟩ := getF X_87 hx hZ hown (host := "") (Or.inl (hw _ (List.mem_of_getElem? (i := 14) rfl))) Via.refl e_87 f_91_F_a_variables (g := (mkF m 86 #[.val (.ref a), .val (.long q1), .second] [(.ref a)])) rfl rfl (hb hby d2_86)
  obtain ⟨cl_94, Ar_94, Sz_94, Mz_94, Hz_94⟩ := id Vw_87
  obtain ⟨T_93, h_93, X_93, e_93, W_93, st_93⟩ := stI X_92 hx hZ e_92 Ar_94 (j := (1 : Int32)) (inb_of Sz_94 ⟨(by decide), (by decide)⟩) (g := (mkF m 91 #[.val (.ref a), .val (.long q1), .second] [(.int (-1 : Int32)), (.int (1 : Int32)), (.ref b_2)])) rfl rfl (hb hby d2_91)
  have K_93 : Keep h0 h_93 [a] := K_87.wr W_93 (Or.inr sz_b_2)
  have N_93 := Fr.snoc X_93 N_87 g_b_2
  have Z_95 : n0 ≤ h_93.size := Nat.le_trans Z_90 (Keep.of_wr W_93).1
  have Vw_93 := ArrF.set Ar_94 Sz_94 Mz_94 Hz_94 W_93
  have f_96_E_a := (((f_81_E_a.wr W_83).wr W_87).wr W_93)
  have f_97_F_a_size := ((((((((((((((((((F_size.ext E_2).other W_6 (Or.inr (slot_ne (Or.inl (hw _ (List.mem_of_getElem? (i := 38) rfl))) (Or.inl (hw _ (List.mem_of_getElem? (i := 15) rfl))) (by decide) (t := .int) (t' := (.array .int)) (by decide) (by decide)))).ext E_8).other W_14 (Or.inr (slot_ne (Or.inl (hw _ (List.mem_of_getElem? (i := 38) rfl))) (Or.inl (hw _ (List.mem_of_getElem? (i := 17) rfl))) (by decide) (t := .int) (t' := (.array .int)) (by decide) (by decide)))).ext E_16).other W_23 (Or.inr (slot_ne (Or.inl (hw _ (List.mem_of_getElem? (i := 38) rfl))) (Or.inl (hw _ (List.mem_of_getElem? (i := 19) rfl))) (by decide) (t := .int) (t' := (.array .int)) (by decide) (by decide)))).keep Kq_25 nin0).other W_33 (Or.inr (slot_ne (Or.inl (hw _ (List.mem_of_getElem? (i := 38) rfl))) (Or.inl (hw _ (List.mem_of_getElem? (i := 28) rfl))) (by decide) (t := .int) (t' := (.array .int)) (by decide) (by decide)))).keep Kq_35 nin0).other W_44 (Or.inr (slot_ne (Or.inl (hw _ (List.mem_of_getElem? (i := 38) rfl))) (Or.inl (hw _ (List.mem_of_getElem? (i := 30) rfl))) (by decide) (t := .int) (t' := (.array .int)) (by decide) (by decide)))).ext E_46).other W_56 (Or.inr (slot_ne (Or.inl (hw _ (List.mem_of_getElem? (i := 38) rfl))) (Or.inl (hw _ (List.mem_of_getElem? (i := 32) rfl))) (by decide) (t := .int) (t' := (.array .int)) (by decide) (by decide)))).ext E_58).other W_69 (Or.inr (slot_ne (Or.inl (hw _ (List.mem_of_getElem? (i := 38) rfl))) (Or.inl (hw _ (List.mem_of_getElem? (i := 34) rfl))) (by decide) (t := .int) (t' := (.array .int)) (by decide) (by decide)))).ext E_71).other W_83 (Or.inr (slot_ne (Or.inl (hw _ (List.mem_of_getElem? (i := 38) rfl))) (Or.inl (hw _ (List.mem_of_getElem? (i := 36) rfl))) (by decide) (t := .int) (t' := (.array .int)) (by decide) (by decide)))).other W_87 (Or.inl ne_a_b_2)).other W_93 (Or.inl ne_a_b_2))
  obtain ⟨T_98, h_98, X_98, e_98, W_98, st_98⟩ := putF X_93 hx hZ hown (host := "") (Or.inl (hw _ (List.mem_of_getElem? (i := 37) rfl))) Via.refl e_93 f_97_F_a_size f_96_E_a (Or.inl (hw _ (List.mem_of_getElem? (i := 38) rfl))) (hw _ (List.mem_of_getElem? (i := 1) rfl)) (ty := .int) (by decide) rfl rfl (g := (mkF m 94 #[.val (.ref a), .val (.long q1), .second] [(.int (2 : Int32)), (.ref a)])) rfl rfl (hb hby d2_94)
  have Fw_98 := f_97_F_a_size.same W_98
  have K_98 : Keep h0 h_98 [a] := K_93.wr W_98 (Or.inl (List.mem_of_getElem? (i := 0) rfl))
  have N_98 := Fr.snoc X_98 N_93 g_a
  have Z_99 : n0 ≤ h_98.size := Nat.le_trans Z_95 (Keep.of_wr W_98).1
  have f_100_E_a := (f_96_E_a.wr W_98)
  have f_101_F_a_stepLimit := (((((((((((((((((((F_stepLimit.ext E_2).other W_6 (Or.inr (slot_ne (Or.inr (hw _ (List.mem_of_getElem? (i := 40) rfl))) (Or.inl (hw _ (List.mem_of_getElem? (i := 15) rfl))) (by decide) (t := .long) (t' := (.array .int)) (by decide) (by decide)))).ext E_8).other W_14 (Or.inr (slot_ne (Or.inr (hw _ (List.mem_of_getElem? (i := 40) rfl))) (Or.inl (hw _ (List.mem_of_getElem? (i := 17) rfl))) (by decide) (t := .long) (t' := (.array .int)) (by decide) (by decide)))).ext E_16).other W_23 (Or.inr (slot_ne (Or.inr (hw _ (List.mem_of_getElem? (i := 40) rfl))) (Or.inl (hw _ (List.mem_of_getElem? (i := 19) rfl))) (by decide) (t := .long) (t' := (.array .int)) (by decide) (by decide)))).keep Kq_25 nin0).other W_33 (Or.inr (slot_ne (Or.inr (hw _ (List.mem_of_getElem? (i := 40) rfl))) (Or.inl (hw _ (List.mem_of_getElem? (i := 28) rfl))) (by decide) (t := .long) (t' := (.array .int)) (by decide) (by decide)))).keep Kq_35 nin0).other W_44 (Or.inr (slot_ne (Or.inr (hw _ (List.mem_of_getElem? (i := 40) rfl))) (Or.inl (hw _ (List.mem_of_getElem? (i := 30) rfl))) (by decide) (t := .long) (t' := (.array .int)) (by decide) (by decide)))).ext E_46).other W_56 (Or.inr (slot_ne (Or.inr (hw _ (List.mem_of_getElem? (i := 40) rfl))) (Or.inl (hw _ (List.mem_of_getElem? (i := 32) rfl))) (by decide) (t := .long) (t' := (.array .int)) (by decide) (by decide)))).ext E_58).other W_69 (Or.inr (slot_ne (Or.inr (hw _ (List.mem_of_getElem? (i := 40) rfl))) (Or.inl (hw _ (List.mem_of_getElem? (i := 34) rfl))) (by decide) (t := .long) (t' := (.array .int)) (by decide) (by decide)))).ext E_71).other W_83 (Or.inr (slot_ne (Or.inr (hw _ (List.mem_of_getElem? (i := 40) rfl))) (Or.inl (hw _ (List.mem_of_getElem? (i := 36) rfl))) (by decide) (t := .long) (t' := (.array .int)) (by decide) (by decide)))).other W_87 (Or.inl ne_a_b_2)).other W_93 (Or.inl ne_a_b_2)).other W_98 (Or.inr (slot_ne (Or.inr (hw _ (List.mem_of_getElem? (i := 40) rfl))) (Or.inl (hw _ (List.mem_of_getElem? (i := 38) rfl))) (by decide) (t := .long) (t' := .int) (by decide) (by decide))))
  obtain ⟨T_102, h_102, X_102, e_102, W_102, st_102⟩ := putF X_98 hx hZ hown (host := "") (Or.inl (hw _ (List.mem_of_getElem? (i := 39) rfl))) Via.refl e_98 f_101_F_a_stepLimit f_100_E_a (Or.inr ⟨(hw _ (List.mem_of_getElem? (i := 40) rfl)), rfl, hnm⟩) (hw _ (List.mem_of_getElem? (i := 1) rfl)) (ty := .long) (by decide) rfl rfl (g := (mkF m 99 #[.val (.ref a), .val (.long q1), .second] [(.long q1), (.ref a)])) rfl rfl (hb hby d2_99)
  have Fw_102 := f_101_F_a_stepLimit.same W_102
  have K_102 : Keep h0 h_102 [a] := K_98.wr W_102 (Or.inl (List.mem_of_getElem? (i := 0) rfl))
  have N_102 := Fr.snoc X_102 N_98 g_a
  have Z_103 : n0 ≤ h_102.size := Nat.le_trans Z_99 (Keep.of_wr W_102).1
  have f_104_F_a_variables := (((f_91_F_a_variables.other W_93 (Or.inl ne_a_b_2)).other W_98 (Or.inr (slot_ne (Or.inl (hw _ (List.mem_of_getElem? (i := 15) rfl))) (Or.inl (hw _ (List.mem_of_getElem? (i := 38) rfl))) (by decide) (t := (.array .int)) (t' := .int) (by decide) (by decide)))).other W_102 (Or.inr (slot_ne (Or.inl (hw _ (List.mem_of_getElem? (i := 15) rfl))) (Or.inr (hw _ (List.mem_of_getElem? (i := 40) rfl))) (by decide) (t := (.array .int)) (t' := .long) (by decide) (by decide))))
  have f_105_F_a_lows := ((((((((((((((((Fw_14.ext E_16).other W_23 (Or.inr (slot_ne (Or.inl (hw _ (List.mem_of_getElem? (i := 17) rfl))) (Or.inl (hw _ (List.mem_of_getElem? (i := 19) rfl))) (by decide) (t := (.array .int)) (t' := (.array .int)) (by decide) (by decide)))).keep Kq_25 nin0).other W_33 (Or.inr (slot_ne (Or.inl (hw _ (List.mem_of_getElem? (i := 17) rfl))) (Or.inl (hw _ (List.mem_of_getElem? (i := 28) rfl))) (by decide) (t := (.array .int)) (t' := (.array .int)) (by decide) (by decide)))).keep Kq_35 nin0).other W_44 (Or.inr (slot_ne (Or.inl (hw _ (List.mem_of_getElem? (i := 17) rfl))) (Or.inl (hw _ (List.mem_of_getElem? (i := 30) rfl))) (by decide) (t := (.array .int)) (t' := (.array .int)) (by decide) (by decide)))).ext E_46).other W_56 (Or.inr (slot_ne (Or.inl (hw _ (List.mem_of_getElem? (i := 17) rfl))) (Or.inl (hw _ (List.mem_of_getElem? (i := 32) rfl))) (by decide) (t := (.array .int)) (t' := (.array .int)) (by decide) (by decide)))).ext E_58).other W_69 (Or.inr (slot_ne (Or.inl (hw _ (List.mem_of_getElem? (i := 17) rfl))) (Or.inl (hw _ (List.mem_of_getElem? (i := 34) rfl))) (by decide) (t := (.array .int)) (t' := (.array .int)) (by decide) (by decide)))).ext E_71).other W_83 (Or.inr (slot_ne (Or.inl (hw _ (List.mem_of_getElem? (i := 17) rfl))) (Or.inl (hw _ (List.mem_of_getElem? (i := 36) rfl))) (by decide) (t := (.array .int)) (t' := (.array .int)) (by decide) (by decide)))).other W_87 (Or.inl ne_a_b_2)).other W_93 (Or.inl ne_a_b_2)).other W_98 (Or.inr (slot_ne (Or.inl (hw _ (List.mem_of_getElem? (i := 17) rfl))) (Or.inl (hw _ (List.mem_of_getElem? (i := 38) rfl))) (by decide) (t := (.array .int)) (t' := .int) (by decide) (by decide)))).other W_102 (Or.inr (slot_ne (Or.inl (hw _ (List.mem_of_getElem? (i := 17) rfl))) (Or.inr (hw _ (List.mem_of_getElem? (i := 40) rfl))) (by decide) (t := (.array .int)) (t' := .long) (by decide) (by decide))))
  have f_106_F_a_highs := ((((((((((((((Fw_23.keep Kq_25 nin0).other W_33 (Or.inr (slot_ne (Or.inl (hw _ (List.mem_of_getElem? (i := 19) rfl))) (Or.inl (hw _ (List.mem_of_getElem? (i := 28) rfl))) (by decide) (t := (.array .int)) (t' := (.array .int)) (by decide) (by decide)))).keep Kq_35 nin0).other W_44 (Or.inr (slot_ne (Or.inl (hw _ (List.mem_of_getElem? (i := 19) rfl))) (Or.inl (hw _ (List.mem_of_getElem? (i := 30) rfl))) (by decide) (t := (.array .int)) (t' := (.array .int)) (by decide) (by decide)))).ext E_46).other W_56 (Or.inr (slot_ne (Or.inl (hw _ (List.mem_of_getElem? (i := 19) rfl))) (Or.inl (hw _ (List.mem_of_getElem? (i := 32) rfl))) (by decide) (t := (.array .int)) (t' := (.array .int)) (by decide) (by decide)))).ext E_58).other W_69 (Or.inr (slot_ne (Or.inl (hw _ (List.mem_of_getElem? (i := 19) rfl))) (Or.inl (hw _ (List.mem_of_getElem? (i := 34) rfl))) (by decide) (t := (.array .int)) (t' := (.array .int)) (by decide) (by decide)))).ext E_71).other W_83 (Or.inr (slot_ne (Or.inl (hw _ (List.mem_of_getElem? (i := 19) rfl))) (Or.inl (hw _ (List.mem_of_getElem? (i := 36) rfl))) (by decide) (t := (.array .int)) (t' := (.array .int)) (by decide) (by decide)))).other W_87 (Or.inl ne_a_b_2)).other W_93 (Or.inl ne_a_b_2)).other W_98 (Or.inr (slot_ne (Or.inl (hw _ (List.mem_of_getElem? (i := 19) rfl))) (Or.inl (hw _ (List.mem_of_getElem? (i := 38) rfl))) (by decide) (t := (.array .int)) (t' := .int) (by decide) (by decide)))).other W_102 (Or.inr (slot_ne (Or.inl (hw _ (List.mem_of_getElem? (i := 19) rfl))) (Or.inr (hw _ (List.mem_of_getElem? (i := 40) rfl))) (by decide) (t := (.array .int)) (t' := .long) (by decide) (by decide))))
  have f_107_F_a_unique := ((((((((((((Fw_33.keep Kq_35 nin0).other W_44 (Or.inr (slot_ne (Or.inl (hw _ (List.mem_of_getElem? (i := 28) rfl))) (Or.inl (hw _ (List.mem_of_getElem? (i := 30) rfl))) (by decide) (t := (.array .int)) (t' := (.array .int)) (by decide) (by decide)))).ext E_46).other W_56 (Or.inr (slot_ne (Or.inl (hw _ (List.mem_of_getElem? (i := 28) rfl))) (Or.inl (hw _ (List.mem_of_getElem? (i := 32) rfl))) (by decide) (t := (.array .int)) (t' := (.array .int)) (by decide) (by decide)))).ext E_58).other W_69 (Or.inr (slot_ne (Or.inl (hw _ (List.mem_of_getElem? (i := 28) rfl))) (Or.inl (hw _ (List.mem_of_getElem? (i := 34) rfl))) (by decide) (t := (.array .int)) (t' := (.array .int)) (by decide) (by decide)))).ext E_71).other W_83 (Or.inr (slot_ne (Or.inl (hw _ (List.mem_of_getElem? (i := 28) rfl))) (Or.inl (hw _ (List.mem_of_getElem? (i := 36) rfl))) (by decide) (t := (.array .int)) (t' := (.array .int)) (by decide) (by decide)))).other W_87 (Or.inl ne_a_b_2)).other W_93 (Or.inl ne_a_b_2)).other W_98 (Or.inr (slot_ne (Or.inl (hw _ (List.mem_of_getElem? (i := 28) rfl))) (Or.inl (hw _ (List.mem_of_getElem? (i := 38) rfl))) (by decide) (t := (.array .int)) (t' := .int) (by decide) (by decide)))).other W_102 (Or.inr (slot_ne (Or.inl (hw _ (List.mem_of_getElem? (i := 28) rfl))) (Or.inr (hw _ (List.mem_of_getElem? (i := 40) rfl))) (by decide) (t := (.array .int)) (t' := .long) (by decide) (by decide))))
  have f_108_F_a_size := (Fw_98.other W_102 (Or.inr (slot_ne (Or.inl (hw _ (List.mem_of_getElem? (i := 38) rfl))) (Or.inr (hw _ (List.mem_of_getElem? (i := 40) rfl))) (by decide) (t := .int) (t' := .long) (by decide) (by decide))))
  have f_109_V_b_2 := ((Vw_93.other W_98 (Ne.symm ne_a_b_2)).other W_102 (Ne.symm ne_a_b_2))
  have f_110_V_b_8 := ((((((f_74_V_b_8.ext E_71).other W_83 (Ne.symm ne_a_b_8)).other W_87 (Ne.symm ne_b_2_b_8)).other W_93 (Ne.symm ne_b_2_b_8)).other W_98 (Ne.symm ne_a_b_8)).other W_102 (Ne.symm ne_a_b_8))
  have f_111_V_b_16 := ((((((f_75_V_b_16.ext E_71).other W_83 (Ne.symm ne_a_b_16)).other W_87 (Ne.symm ne_b_2_b_16)).other W_93 (Ne.symm ne_b_2_b_16)).other W_98 (Ne.symm ne_a_b_16)).other W_102 (Ne.symm ne_a_b_16))
  have f_112_V_b_25 := ((((((f_76_V_b_25.ext E_71).other W_83 (Ne.symm ne_a_b_25)).other W_87 (Ne.symm ne_b_2_b_25)).other W_93 (Ne.symm ne_b_2_b_25)).other W_98 (Ne.symm ne_a_b_25)).other W_102 (Ne.symm ne_a_b_25))
  obtain ⟨fs, hr, hrun, hended, hW, hsame⟩ := X_102.leave (v := none) (fun _ => rfl)
  refine ⟨_, _, pre0 _ ?_, hrun, hended, _, _, rfl, ?_, ⟨_, rfl⟩, hW, hsame.mono (by decide) (by decide)⟩
  · show Steps p.tables e below (s₁.setTop (mkF m 0 #[.val (.ref a), .val (.long q1), .second] [])) _
    refine XS.aloadN X0.here hx rfl (hb hby d2_0) rfl rfl ?_
    show Steps p.tables e below (s₁.setTop (mkF m 1 #[.val (.ref a), .val (.long q1), .second] [(.ref a)])) _
    refine st_1 _ ?_
    show Steps p.tables e below (T_1.setTop (mkF m 4 #[.val (.ref a), .val (.long q1), .second] [])) _
    refine XS.aloadN X_1.here hx rfl (hb hby d2_4) rfl rfl ?_
    show Steps p.tables e below (T_1.setTop (mkF m 5 #[.val (.ref a), .val (.long q1), .second] [(.ref a)])) _
    refine XS.sipush X_1.here hx rfl (hb hby d2_5) ?_
    show Steps p.tables e below (T_1.setTop (mkF m 8 #[.val (.ref a), .val (.long q1), .second] [(.int (1024 : Int32)), (.ref a)])) _
    refine st_2 _ ?_
    show Steps p.tables e below (T_2.setTop (mkF m 10 #[.val (.ref a), .val (.long q1), .second] [(.ref b_2), (.ref a)])) _
    refine st_6 _ ?_
    show Steps p.tables e below (T_6.setTop (mkF m 13 #[.val (.ref a), .val (.long q1), .second] [])) _
    refine XS.aloadN X_6.here hx rfl (hb hby d2_13) rfl rfl ?_
    show Steps p.tables e below (T_6.setTop (mkF m 14 #[.val (.ref a), .val (.long q1), .second] [(.ref a)])) _
    refine XS.sipush X_6.here hx rfl (hb hby d2_14) ?_
    show Steps p.tables e below (T_6.setTop (mkF m 17 #[.val (.ref a), .val (.long q1), .second] [(.int (1024 : Int32)), (.ref a)])) _
    refine st_8 _ ?_
    show Steps p.tables e below (T_8.setTop (mkF m 19 #[.val (.ref a), .val (.long q1), .second] [(.ref b_8), (.ref a)])) _
    refine st_14 _ ?_
    show Steps p.tables e below (T_14.setTop (mkF m 22 #[.val (.ref a), .val (.long q1), .second] [])) _
    refine XS.aloadN X_14.here hx rfl (hb hby d2_22) rfl rfl ?_
    show Steps p.tables e below (T_14.setTop (mkF m 23 #[.val (.ref a), .val (.long q1), .second] [(.ref a)])) _
    refine XS.sipush X_14.here hx rfl (hb hby d2_23) ?_
    show Steps p.tables e below (T_14.setTop (mkF m 26 #[.val (.ref a), .val (.long q1), .second] [(.int (1024 : Int32)), (.ref a)])) _
    refine st_16 _ ?_
    show Steps p.tables e below (T_16.setTop (mkF m 28 #[.val (.ref a), .val (.long q1), .second] [(.ref b_16), (.ref a)])) _
    refine st_23 _ ?_
    show Steps p.tables e below (T_23.setTop (mkF m 31 #[.val (.ref a), .val (.long q1), .second] [])) _
    refine XS.aloadN X_23.here hx rfl (hb hby d2_31) rfl rfl ?_
    show Steps p.tables e below (T_23.setTop (mkF m 32 #[.val (.ref a), .val (.long q1), .second] [(.ref a)])) _
    refine XS.sipush X_23.here hx rfl (hb hby d2_32) ?_
    show Steps p.tables e below (T_23.setTop (mkF m 35 #[.val (.ref a), .val (.long q1), .second] [(.int (2048 : Int32)), (.ref a)])) _
    refine st_25 _ ?_
    show Steps p.tables e below (T_25.setTop (mkF m 38 #[.val (.ref a), .val (.long q1), .second] [(.ref b_25), (.ref a)])) _
    refine st_33 _ ?_
    show Steps p.tables e below (T_33.setTop (mkF m 41 #[.val (.ref a), .val (.long q1), .second] [])) _
    refine XS.aloadN X_33.here hx rfl (hb hby d2_41) rfl rfl ?_
    show Steps p.tables e below (T_33.setTop (mkF m 42 #[.val (.ref a), .val (.long q1), .second] [(.ref a)])) _
    refine XS.sipush X_33.here hx rfl (hb hby d2_42) ?_
    show Steps p.tables e below (T_33.setTop (mkF m 45 #[.val (.ref a), .val (.long q1), .second] [(.int (4096 : Int32)), (.ref a)])) _
    refine st_35 _ ?_
    show Steps p.tables e below (T_35.setTop (mkF m 48 #[.val (.ref a), .val (.long q1), .second] [(.ref b_35), (.ref a)])) _
    refine st_44 _ ?_
    show Steps p.tables e below (T_44.setTop (mkF m 51 #[.val (.ref a), .val (.long q1), .second] [])) _
    refine XS.aloadN X_44.here hx rfl (hb hby d2_51) rfl rfl ?_
    show Steps p.tables e below (T_44.setTop (mkF m 52 #[.val (.ref a), .val (.long q1), .second] [(.ref a)])) _
    refine XS.sipush X_44.here hx rfl (hb hby d2_52) ?_
    show Steps p.tables e below (T_44.setTop (mkF m 55 #[.val (.ref a), .val (.long q1), .second] [(.int (4096 : Int32)), (.ref a)])) _
    refine st_46 _ ?_
    show Steps p.tables e below (T_46.setTop (mkF m 57 #[.val (.ref a), .val (.long q1), .second] [(.ref b_46), (.ref a)])) _
    refine st_56 _ ?_
    show Steps p.tables e below (T_56.setTop (mkF m 60 #[.val (.ref a), .val (.long q1), .second] [])) _
    refine XS.aloadN X_56.here hx rfl (hb hby d2_60) rfl rfl ?_
    show Steps p.tables e below (T_56.setTop (mkF m 61 #[.val (.ref a), .val (.long q1), .second] [(.ref a)])) _
    refine XS.sipush X_56.here hx rfl (hb hby d2_61) ?_
    show Steps p.tables e below (T_56.setTop (mkF m 64 #[.val (.ref a), .val (.long q1), .second] [(.int (4096 : Int32)), (.ref a)])) _
    refine st_58 _ ?_
    show Steps p.tables e below (T_58.setTop (mkF m 66 #[.val (.ref a), .val (.long q1), .second] [(.ref b_58), (.ref a)])) _
    refine st_69 _ ?_
    show Steps p.tables e below (T_69.setTop (mkF m 69 #[.val (.ref a), .val (.long q1), .second] [])) _
    refine XS.aloadN X_69.here hx rfl (hb hby d2_69) rfl rfl ?_
    show Steps p.tables e below (T_69.setTop (mkF m 70 #[.val (.ref a), .val (.long q1), .second] [(.ref a)])) _
    refine XS.sipush X_69.here hx rfl (hb hby d2_70) ?_
    show Steps p.tables e below (T_69.setTop (mkF m 73 #[.val (.ref a), .val (.long q1), .second] [(.int (4096 : Int32)), (.ref a)])) _
    refine st_71 _ ?_
    show Steps p.tables e below (T_71.setTop (mkF m 75 #[.val (.ref a), .val (.long q1), .second] [(.ref b_71), (.ref a)])) _
    refine st_83 _ ?_
    show Steps p.tables e below (T_83.setTop (mkF m 78 #[.val (.ref a), .val (.long q1), .second] [])) _
    refine XS.aloadN X_83.here hx rfl (hb hby d2_78) rfl rfl ?_
    show Steps p.tables e below (T_83.setTop (mkF m 79 #[.val (.ref a), .val (.long q1), .second] [(.ref a)])) _
    refine st_86 _ ?_
    show Steps p.tables e below (T_86.setTop (mkF m 82 #[.val (.ref a), .val (.long q1), .second] [(.ref b_2)])) _
    refine XS.iconst X_86.here hx rfl (hb hby d2_82) ?_
    show Steps p.tables e below (T_86.setTop (mkF m 83 #[.val (.ref a), .val (.long q1), .second] [(.int (0 : Int32)), (.ref b_2)])) _
    refine XS.iconst X_86.here hx rfl (hb hby d2_83) ?_
    show Steps p.tables e below (T_86.setTop (mkF m 84 #[.val (.ref a), .val (.long q1), .second] [(.int (-1 : Int32)), (.int (0 : Int32)), (.ref b_2)])) _
    refine st_87 _ ?_
    show Steps p.tables e below (T_87.setTop (mkF m 85 #[.val (.ref a), .val (.long q1), .second] [])) _
    refine XS.aloadN X_87.here hx rfl (hb hby d2_85) rfl rfl ?_
    show Steps p.tables e below (T_87.setTop (mkF m 86 #[.val (.ref a), .val (.long q1), .second] [(.ref a)])) _
    refine st_92 _ ?_
    show Steps p.tables e below (T_92.setTop (mkF m 89 #[.val (.ref a), .val (.long q1), .second] [(.ref b_2)])) _
    refine XS.iconst X_92.here hx rfl (hb hby d2_89) ?_
    show Steps p.tables e below (T_92.setTop (mkF m 90 #[.val (.ref a), .val (.long q1), .second] [(.int (1 : Int32)), (.ref b_2)])) _
    refine XS.iconst X_92.here hx rfl (hb hby d2_90) ?_
    show Steps p.tables e below (T_92.setTop (mkF m 91 #[.val (.ref a), .val (.long q1), .second] [(.int (-1 : Int32)), (.int (1 : Int32)), (.ref b_2)])) _
    refine st_93 _ ?_
    show Steps p.tables e below (T_93.setTop (mkF m 92 #[.val (.ref a), .val (.long q1), .second] [])) _
    refine XS.aloadN X_93.here hx rfl (hb hby d2_92) rfl rfl ?_
    show Steps p.tables e below (T_93.setTop (mkF m 93 #[.val (.ref a), .val (.long q1), .second] [(.ref a)])) _
    refine XS.iconst X_93.here hx rfl (hb hby d2_93) ?_
    show Steps p.tables e below (T_93.setTop (mkF m 94 #[.val (.ref a), .val (.long q1), .second] [(.int (2 : Int32)), (.ref a)])) _
    refine st_98 _ ?_
    show Steps p.tables e below (T_98.setTop (mkF m 97 #[.val (.ref a), .val (.long q1), .second] [])) _
    refine XS.aloadN X_98.here hx rfl (hb hby d2_97) rfl rfl ?_
    show Steps p.tables e below (T_98.setTop (mkF m 98 #[.val (.ref a), .val (.long q1), .second] [(.ref a)])) _
    refine XS.lloadN X_98.here hx rfl (hb hby d2_98) rfl ?_
    show Steps p.tables e below (T_98.setTop (mkF m 99 #[.val (.ref a), .val (.long q1), .second] [(.long q1), (.ref a)])) _
    refine st_102 _ ?_
    show Steps p.tables e below (T_102.setTop (mkF m 102 #[.val (.ref a), .val (.long q1), .second] [])) _
    exact X_102.returnOut hx Bd.returns (hb hby d2_102) hr
  · show Q2 Z a h0 n0 _ T_102.heap _
    rw [e_102]
    exact ⟨rfl, N_102, K_102, ⟨b_2, b_8, b_16, b_25, sz_b_2, sz_b_8, sz_b_16, sz_b_25, ne_b_2_b_8, ne_b_2_b_16, ne_b_2_b_25, ne_b_8_b_16, ne_b_8_b_25, ne_b_16_b_25, f_104_F_a_variables, f_105_F_a_lows, f_106_F_a_highs, f_107_F_a_unique, f_108_F_a_size, ⟨_, f_109_V_b_2⟩, ⟨_, f_110_V_b_8⟩, ⟨_, f_111_V_b_16⟩, f_112_V_b_25⟩⟩
theorem d1_0 : decode prog_13_method_1_code 0 = .ok (.aload_n 0, 1) := by decide +kernel
theorem d1_1 : decode prog_13_method_1_code 1 = .ok (.ldc2_w 3, 3) := by decide +kernel
theorem pd_2 : parseMethodDescriptor "(J)V" = some ⟨[.long], none⟩ := by decide +kernel
theorem d1_4 : decode prog_13_method_1_code 4 = .ok (.invokespecial 5, 3) := by decide +kernel
theorem d1_7 : decode prog_13_method_1_code 7 = .ok (.return_, 1) := by decide +kernel
def Q1 (Z : State) (a : Addr) (h0 : Heap) (n0 : Nat) (v : Option Value) (h : Heap) (L : List Loc) : Prop := v = none ∧ Fr n0 L ∧ Keep h0 h [a] ∧ (∃ bv bl bh bu : Addr, h0.size ≤ bv ∧ h0.size ≤ bl ∧ h0.size ≤ bh ∧ h0.size ≤ bu ∧ bv ≠ bl ∧ bv ≠ bh ∧ bv ≠ bu ∧ bl ≠ bh ∧ bl ≠ bu ∧ bh ≠ bu ∧ Fld Z h a "com/example/cadmus/cadmus/automaton/Bdd" "variables" "[I" (.ref bv) ∧ Fld Z h a "com/example/cadmus/cadmus/automaton/Bdd" "lows" "[I" (.ref bl) ∧ Fld Z h a "com/example/cadmus/cadmus/automaton/Bdd" "highs" "[I" (.ref bh) ∧ Fld Z h a "com/example/cadmus/cadmus/automaton/Bdd" "unique" "[I" (.ref bu) ∧ Fld Z h a "com/example/cadmus/cadmus/automaton/Bdd" "size" "I" (.int (2 : Int32)) ∧ (∃ f, ArrF Z h bv .int 1024 f) ∧ (∃ f, ArrF Z h bl .int 1024 f) ∧ (∃ f, ArrF Z h bh .int 1024 f) ∧ ArrF Z h bu .int 2048 (fun _ => (Value.int (-1 : Int32))))
theorem pn_1 : plainName "com/example/cadmus/cadmus/automaton/Bdd" = true := by first | (simp [plainName, overriddenIn]; done) | decide +kernel
theorem ef_1 (m : MethodId) (x0 : Addr) : entryFrame m #[(.ref x0)] 1 = mkF m 0 #[.val (.ref x0)] [] := by first | (simp [entryFrame, mkF, argsToLocals, Value.category]; done) | rfl
set_option maxRecDepth 65536 in
set_option maxHeartbeats 40000000 in
theorem rm1 (l : Launch) (Z : State) (a0 : Array Value) (hw : ∀ d ∈ tables_1, d.before a0 Z = true) (ws : List Jvm.Cond) (a : Addr) (h0 : Heap) (n0 : Nat) (Z0 : n0 ≤ h0.size) (E_a : Exa Z h0 a "com/example/cadmus/cadmus/automaton/Bdd") (F_variables : Fld Z h0 a "com/example/cadmus/cadmus/automaton/Bdd" "variables" "[I" .null) (F_lows : Fld Z h0 a "com/example/cadmus/cadmus/automaton/Bdd" "lows" "[I" .null) (F_highs : Fld Z h0 a "com/example/cadmus/cadmus/automaton/Bdd" "highs" "[I" .null) (F_unique : Fld Z h0 a "com/example/cadmus/cadmus/automaton/Bdd" "unique" "[I" .null) (F_cacheOps : Fld Z h0 a "com/example/cadmus/cadmus/automaton/Bdd" "cacheOps" "[I" .null) (F_cacheLefts : Fld Z h0 a "com/example/cadmus/cadmus/automaton/Bdd" "cacheLefts" "[I" .null) (F_cacheRights : Fld Z h0 a "com/example/cadmus/cadmus/automaton/Bdd" "cacheRights" "[I" .null) (F_cacheResults : Fld Z h0 a "com/example/cadmus/cadmus/automaton/Bdd" "cacheResults" "[I" .null) (F_size : Fld Z h0 a "com/example/cadmus/cadmus/automaton/Bdd" "size" "I" (.int (0 : Int32))) (F_stepLimit : Fld Z h0 a "com/example/cadmus/cadmus/automaton/Bdd" "stepLimit" "J" (.long (0 : Int64))) (g_a : n0 ≤ a) :
    MetFree l (⟨"com/example/cadmus/cadmus/automaton/Bdd", "<init>", "()V"⟩ : MethodName) (head1 (Jvm.Cond.code (⟨"com/example/cadmus/cadmus/automaton/Bdd", "<init>", "()V"⟩ : MethodName) prog_13_method_1_code 1 none :: ws) ({ frames := 3, cells := 8, slots := 23552, locals := 43 } : Room)) (fun as_ U => as_ = #[(.ref a)] ∧ Z.Warmed39 U.vm ∧ U.heap = h0) (fun _ _ _ _ _ => True) (fun _ U o U' => ∃ v L, o = .returned v ∧ Q1 Z a h0 n0 v U'.heap L ∧ FrameEnd U o U' L ({ frames := 3, cells := 8, slots := 23552, locals := 43 } : Room).cells ({ frames := 3, cells := 8, slots := 23552, locals := 43 } : Room).slots) := by
  refine MetFree.of_bodySF (plainFor_of_name pn_1) hisR ?_
  intro p e s m args below meth c s₁ Bd hml0 hP hK
  obtain ⟨rfl, hZ, hh⟩ := hP
  have hx := Bd.exec
  have hby := Bd.bytes
  have hml : c.maxLocals = 1 := hml0
  have hown : s.vm.findClass "com/example/cadmus/cadmus/automaton/Bdd" = some m.cls := findClass_of_methodNamed Bd.named
  have hnm := (name_of_methodNamed Bd.named Bd.method).1
  have X0 : Stand p l e ({ frames := 3, cells := 8, slots := 23552, locals := 43 } : Room) s m #[(.ref a)] below meth c s₁ [] 0 0 := Stand.of_body Bd
  have e0 : s₁.heap = h0 := by rw [← hh, Bd.state]; rfl
  have N0 := Fr.nil n0
  have pre0 : ∀ t, Steps p.tables e below (s₁.setTop (mkF m 0 #[.val (.ref a)] [])) t → Steps p.tables e below (s₁.setTop (entryFrame m #[(.ref a)] 1)) t := fun t k => castTop (ef_1 m a) k
  obtain ⟨_, _, ⟨T_1, L_1, k_1, n_1⟩, -, X_1, ⟨Lc_1, hQ_1, l_1, y_1, z_1⟩, st_1⟩ := X0.specialBack hx (y := (⟨"com/example/cadmus/cadmus/automaton/Bdd", "<init>", "(J)V"⟩ : MethodName)) rfl hown (mvT hZ (hw _ (List.mem_of_getElem? (i := 7) rfl))) (mvT hZ (hw _ (List.mem_of_getElem? (i := 8) rfl))) (mvT hZ (hw _ (List.mem_of_getElem? (i := 9) rfl))) (by decide) (backOf (W := 0) (rm2 l Z a0 hw [] a (9223372036854775807 : Int64) h0 n0 Z0 E_a F_variables F_lows F_highs F_unique F_cacheOps F_cacheLefts F_cacheRights F_cacheResults F_size F_stepLimit g_a) hZ (hw _ (List.mem_of_getElem? (i := 9) rfl)) (hw _ (List.mem_of_getElem? (i := 2) rfl)) (by decide) (by decide)) (g := (mkF m 4 #[.val (.ref a)] [(.long (9223372036854775807 : Int64)), (.ref a)])) rfl (by rw [hml]; rfl) (Steps.refl _) (a := a) (argsL := [(.long (9223372036854775807 : Int64))]) (rest := []) (lenOf pd_2 rfl) rfl (by show 2 * 0 + _ ≤ _; exact Nat.le_of_eq rfl) (hb hby d1_4) (fun _ _ => ⟨rfl, e0, (by decide : 0 + 8 ≤ _), (by decide : 0 + 23552 ≤ _)⟩)
  dsimp only [Pt.U, Pt.locs, Pt.cells, Pt.slots] at X_1 l_1 y_1 z_1 st_1 hQ_1
  subst l_1 y_1 z_1
  obtain ⟨rfl, Nq_1, Kq_1, ⟨bv_1, bl_1, bh_1, bu_1, sbv_1, sbl_1, sbh_1, sbu_1, ne_1_bv_bl, ne_1_bv_bh, ne_1_bv_bu, ne_1_bl_bh, ne_1_bl_bu, ne_1_bh_bu, F_1_variables, F_1_lows, F_1_highs, F_1_unique, F_1_size, ⟨f_1_bv, V_1_bv⟩, ⟨f_1_bl, V_1_bl⟩, ⟨f_1_bh, V_1_bh⟩, V_1_bu⟩⟩ := hQ_1
  have N_1 := Fr.app N0 Nq_1
  have KK_1 : Keep h0 T_1.heap [a] := (Keep.refl h0 [a]).trans Kq_1 (allS (Or.inl (List.mem_of_getElem? (i := 0) rfl)) all0)
  have Z_2 : n0 ≤ T_1.heap.size := Nat.le_trans Z0 Kq_1.1
  have nex_1_a_bv : a ≠ bv_1 := Nat.ne_of_lt (Nat.lt_of_lt_of_le E_a.lt sbv_1)
  have g_bv_1 : n0 ≤ bv_1 := Nat.le_trans Z0 sbv_1
  have sz_bv_1 : h0.size ≤ bv_1 := Nat.le_trans (Keep.refl h0 [a]).1 sbv_1
  have nex_1_a_bl : a ≠ bl_1 := Nat.ne_of_lt (Nat.lt_of_lt_of_le E_a.lt sbl_1)
  have g_bl_1 : n0 ≤ bl_1 := Nat.le_trans Z0 sbl_1
  have sz_bl_1 : h0.size ≤ bl_1 := Nat.le_trans (Keep.refl h0 [a]).1 sbl_1
  have nex_1_a_bh : a ≠ bh_1 := Nat.ne_of_lt (Nat.lt_of_lt_of_le E_a.lt sbh_1)
  have g_bh_1 : n0 ≤ bh_1 := Nat.le_trans Z0 sbh_1
  have sz_bh_1 : h0.size ≤ bh_1 := Nat.le_trans (Keep.refl h0 [a]).1 sbh_1
  have nex_1_a_bu : a ≠ bu_1 := Nat.ne_of_lt (Nat.lt_of_lt_of_le E_a.lt sbu_1)
  have g_bu_1 : n0 ≤ bu_1 := Nat.le_trans Z0 sbu_1
  have sz_bu_1 : h0.size ≤ bu_1 := Nat.le_trans (Keep.refl h0 [a]).1 sbu_1
  obtain ⟨fs, hr, hrun, hended, hW, hsame⟩ := X_1.leave (v := none) (fun _ => rfl)
  refine ⟨_, _, pre0 _ ?_, hrun, hended, _, _, rfl, ?_, ⟨_, rfl⟩, hW, hsame.mono (by decide) (by decide)⟩
  · show Steps p.tables e below (s₁.setTop (mkF m 0 #[.val (.ref a)] [])) _
    refine XS.aloadN X0.here hx rfl (hb hby d1_0) rfl rfl ?_
    show Steps p.tables e below (s₁.setTop (mkF m 1 #[.val (.ref a)] [(.ref a)])) _
    refine X0.ldc2Long hx hown (mvT hZ (hw _ (List.mem_of_getElem? (i := 6) rfl))) (g := (mkF m 1 #[.val (.ref a)] [(.ref a)])) rfl (hb hby d1_1) _ ?_
    show Steps p.tables e below (s₁.setTop (mkF m 4 #[.val (.ref a)] [(.long (9223372036854775807 : Int64)), (.ref a)])) _
    refine st_1.trans ?_
    show Steps p.tables e below (T_1.setTop (mkF m 7 #[.val (.ref a)] [])) _
    exact X_1.returnOut hx Bd.returns (hb hby d1_7) hr
  · show Q1 Z a h0 n0 _ T_1.heap _
    exact ⟨rfl, N_1, KK_1, ⟨bv_1, bl_1, bh_1, bu_1, sz_bv_1, sz_bl_1, sz_bh_1, sz_bu_1, ne_1_bv_bl, ne_1_bv_bh, ne_1_bv_bu, ne_1_bl_bh, ne_1_bl_bu, ne_1_bh_bu, F_1_variables, F_1_lows, F_1_highs, F_1_unique, F_1_size, ⟨_, V_1_bv⟩, ⟨_, V_1_bl⟩, ⟨_, V_1_bh⟩, V_1_bu⟩⟩
theorem d8_0 : decode prog_13_method_28_code 0 = .ok (.iload_n 0, 1) := by decide +kernel
theorem d8_1 : decode prog_13_method_28_code 1 = .ok (.ldc 240, 2) := by decide +kernel
theorem d8_3 : decode prog_13_method_28_code 3 = .ok (.imul, 1) := by decide +kernel
theorem d8_4 : decode prog_13_method_28_code 4 = .ok (.iload_n 1, 1) := by decide +kernel
theorem d8_5 : decode prog_13_method_28_code 5 = .ok (.iadd, 1) := by decide +kernel
theorem d8_6 : decode prog_13_method_28_code 6 = .ok (.istore_n 3, 1) := by decide +kernel
theorem d8_7 : decode prog_13_method_28_code 7 = .ok (.iload_n 3, 1) := by decide +kernel
theorem d8_8 : decode prog_13_method_28_code 8 = .ok (.ldc 241, 2) := by decide +kernel
theorem d8_10 : decode prog_13_method_28_code 10 = .ok (.imul, 1) := by decide +kernel
theorem d8_11 : decode prog_13_method_28_code 11 = .ok (.iload_n 2, 1) := by decide +kernel
theorem d8_12 : decode prog_13_method_28_code 12 = .ok (.iadd, 1) := by decide +kernel
theorem d8_13 : decode prog_13_method_28_code 13 = .ok (.istore_n 3, 1) := by decide +kernel
theorem d8_14 : decode prog_13_method_28_code 14 = .ok (.iload_n 3, 1) := by decide +kernel
theorem d8_15 : decode prog_13_method_28_code 15 = .ok (.iload_n 3, 1) := by decide +kernel
theorem d8_16 : decode prog_13_method_28_code 16 = .ok (.bipush 15, 2) := by decide +kernel
theorem d8_18 : decode prog_13_method_28_code 18 = .ok (.iushr, 1) := by decide +kernel
theorem d8_19 : decode prog_13_method_28_code 19 = .ok (.ixor, 1) := by decide +kernel
theorem d8_20 : decode prog_13_method_28_code 20 = .ok (.ireturn, 1) := by decide +kernel
def Q8 (Z : State) (r : Int32) (h0 : Heap) (n0 : Nat) (v : Option Value) (h : Heap) (L : List Loc) : Prop := v = some (.int r) ∧ Fr n0 L ∧ h = h0
theorem pn_8 : plainName "com/example/cadmus/cadmus/automaton/Bdd" = true := by first | (simp [plainName, overriddenIn]; done) | decide +kernel
theorem ef_8 (m : MethodId) (x0 : Int32) (x1 : Int32) (x2 : Int32) : entryFrame m #[(.int x0), (.int x1), (.int x2)] 4 = mkF m 0 #[.val (.int x0), .val (.int x1), .val (.int x2), .unset] [] := by first | (simp [entryFrame, mkF, argsToLocals, Value.category]; done) | rfl
set_option maxRecDepth 65536 in
set_option maxHeartbeats 40000000 in
theorem rm8 (l : Launch) (Z : State) (a0 : Array Value) (hw : ∀ d ∈ tables_1, d.before a0 Z = true) (ws : List Jvm.Cond) (p0 : Int32) (p1 : Int32) (p2 : Int32) (r : Int32) (h0 : Heap) (n0 : Nat) (Z0 : n0 ≤ h0.size) (hr_ : (((((p0 * (-1640531535 : Int32)) + p1) * (-2048144777 : Int32)) + p2) ^^^ ((((((p0 * (-1640531535 : Int32)) + p1) * (-2048144777 : Int32)) + p2).toUInt32 >>> ((15 : Int32) &&& 31).toUInt32).toInt32)) = r) :
    MetFree l (⟨"com/example/cadmus/cadmus/automaton/Bdd", "hash", "(III)I"⟩ : MethodName) (head1 (Jvm.Cond.code (⟨"com/example/cadmus/cadmus/automaton/Bdd", "hash", "(III)I"⟩ : MethodName) prog_13_method_28_code 4 (some .int) :: ws) ({ frames := 0, cells := 0, slots := 0, locals := 0 } : Room)) (fun as_ U => as_ = #[(.int p0), (.int p1), (.int p2)] ∧ Z.Warmed39 U.vm ∧ U.heap = h0) (fun _ _ _ _ _ => True) (fun _ U o U' => ∃ v L, o = .returned v ∧ Q8 Z r h0 n0 v U'.heap L ∧ FrameEnd U o U' L ({ frames := 0, cells := 0, slots := 0, locals := 0 } : Room).cells ({ frames := 0, cells := 0, slots := 0, locals := 0 } : Room).slots) := by
  refine MetFree.of_bodySF (plainFor_of_name pn_8) hisR ?_
  intro p e s m args below meth c s₁ Bd hml0 hP hK
  obtain ⟨rfl, hZ, hh⟩ := hP
  have hx := Bd.exec
  have hby := Bd.bytes
  have hml : c.maxLocals = 4 := hml0
  have hown : s.vm.findClass "com/example/cadmus/cadmus/automaton/Bdd" = some m.cls := findClass_of_methodNamed Bd.named
  have hnm := (name_of_methodNamed Bd.named Bd.method).1
  have X0 : Stand p l e ({ frames := 0, cells := 0, slots := 0, locals := 0 } : Room) s m #[(.int p0), (.int p1), (.int p2)] below meth c s₁ [] 0 0 := Stand.of_body Bd
  have e0 : s₁.heap = h0 := by rw [← hh, Bd.state]; rfl
  have N0 := Fr.nil n0
  have pre0 : ∀ t, Steps p.tables e below (s₁.setTop (mkF m 0 #[.val (.int p0), .val (.int p1), .val (.int p2), .unset] [])) t → Steps p.tables e below (s₁.setTop (entryFrame m #[(.int p0), (.int p1), (.int p2)] 4)) t := fun t k => castTop (ef_8 m p0 p1 p2) k
  obtain ⟨fs, hr, hrun, hended, hW, hsame⟩ := X0.leave (v := some (.int r)) (fun h => by rw [Bd.returns] at h; cases h)
  refine ⟨_, _, pre0 _ ?_, hrun, hended, _, _, rfl, ?_, ⟨_, rfl⟩, hW, hsame.mono (by decide) (by decide)⟩
  · show Steps p.tables e below (s₁.setTop (mkF m 0 #[.val (.int p0), .val (.int p1), .val (.int p2), .unset] [])) _
    refine XS.iloadN X0.here hx rfl (hb hby d8_0) rfl ?_
    show Steps p.tables e below (s₁.setTop (mkF m 1 #[.val (.int p0), .val (.int p1), .val (.int p2), .unset] [(.int p0)])) _
    refine X0.ldcInt hx hown (mvT hZ (hw _ (List.mem_of_getElem? (i := 54) rfl))) (g := (mkF m 1 #[.val (.int p0), .val (.int p1), .val (.int p2), .unset] [(.int p0)])) rfl (hb hby d8_1) _ ?_
    show Steps p.tables e below (s₁.setTop (mkF m 3 #[.val (.int p0), .val (.int p1), .val (.int p2), .unset] [(.int (-1640531535 : Int32)), (.int p0)])) _
    refine XS.imul X0.here hx rfl (hb hby d8_3) rfl ?_
    show Steps p.tables e below (s₁.setTop (mkF m 4 #[.val (.int p0), .val (.int p1), .val (.int p2), .unset] [(.int (p0 * (-1640531535 : Int32)))])) _
    refine XS.iloadN X0.here hx rfl (hb hby d8_4) rfl ?_
    show Steps p.tables e below (s₁.setTop (mkF m 5 #[.val (.int p0), .val (.int p1), .val (.int p2), .unset] [(.int p1), (.int (p0 * (-1640531535 : Int32)))])) _
    refine XS.iadd X0.here hx rfl (hb hby d8_5) rfl ?_
    show Steps p.tables e below (s₁.setTop (mkF m 6 #[.val (.int p0), .val (.int p1), .val (.int p2), .unset] [(.int ((p0 * (-1640531535 : Int32)) + p1))])) _
    refine XS.istoreN X0.here hx rfl (hb hby d8_6) rfl (l' := #[.val (.int p0), .val (.int p1), .val (.int p2), .val (.int ((p0 * (-1640531535 : Int32)) + p1))]) rfl ?_
    show Steps p.tables e below (s₁.setTop (mkF m 7 #[.val (.int p0), .val (.int p1), .val (.int p2), .val (.int ((p0 * (-1640531535 : Int32)) + p1))] [])) _
    refine XS.iloadN X0.here hx rfl (hb hby d8_7) rfl ?_
    show Steps p.tables e below (s₁.setTop (mkF m 8 #[.val (.int p0), .val (.int p1), .val (.int p2), .val (.int ((p0 * (-1640531535 : Int32)) + p1))] [(.int ((p0 * (-1640531535 : Int32)) + p1))])) _
    refine X0.ldcInt hx hown (mvT hZ (hw _ (List.mem_of_getElem? (i := 55) rfl))) (g := (mkF m 8 #[.val (.int p0), .val (.int p1), .val (.int p2), .val (.int ((p0 * (-1640531535 : Int32)) + p1))] [(.int ((p0 * (-1640531535 : Int32)) + p1))])) rfl (hb hby d8_8) _ ?_
    show Steps p.tables e below (s₁.setTop (mkF m 10 #[.val (.int p0), .val (.int p1), .val (.int p2), .val (.int ((p0 * (-1640531535 : Int32)) + p1))] [(.int (-2048144777 : Int32)), (.int ((p0 * (-1640531535 : Int32)) + p1))])) _
    refine XS.imul X0.here hx rfl (hb hby d8_10) rfl ?_
    show Steps p.tables e below (s₁.setTop (mkF m 11 #[.val (.int p0), .val (.int p1), .val (.int p2), .val (.int ((p0 * (-1640531535 : Int32)) + p1))] [(.int (((p0 * (-1640531535 : Int32)) + p1) * (-2048144777 : Int32)))])) _
    refine XS.iloadN X0.here hx rfl (hb hby d8_11) rfl ?_
    show Steps p.tables e below (s₁.setTop (mkF m 12 #[.val (.int p0), .val (.int p1), .val (.int p2), .val (.int ((p0 * (-1640531535 : Int32)) + p1))] [(.int p2), (.int (((p0 * (-1640531535 : Int32)) + p1) * (-2048144777 : Int32)))])) _
    refine XS.iadd X0.here hx rfl (hb hby d8_12) rfl ?_
    show Steps p.tables e below (s₁.setTop (mkF m 13 #[.val (.int p0), .val (.int p1), .val (.int p2), .val (.int ((p0 * (-1640531535 : Int32)) + p1))] [(.int ((((p0 * (-1640531535 : Int32)) + p1) * (-2048144777 : Int32)) + p2))])) _
    refine XS.istoreN X0.here hx rfl (hb hby d8_13) rfl (l' := #[.val (.int p0), .val (.int p1), .val (.int p2), .val (.int ((((p0 * (-1640531535 : Int32)) + p1) * (-2048144777 : Int32)) + p2))]) rfl ?_
    show Steps p.tables e below (s₁.setTop (mkF m 14 #[.val (.int p0), .val (.int p1), .val (.int p2), .val (.int ((((p0 * (-1640531535 : Int32)) + p1) * (-2048144777 : Int32)) + p2))] [])) _
    refine XS.iloadN X0.here hx rfl (hb hby d8_14) rfl ?_
    show Steps p.tables e below (s₁.setTop (mkF m 15 #[.val (.int p0), .val (.int p1), .val (.int p2), .val (.int ((((p0 * (-1640531535 : Int32)) + p1) * (-2048144777 : Int32)) + p2))] [(.int ((((p0 * (-1640531535 : Int32)) + p1) * (-2048144777 : Int32)) + p2))])) _
    refine XS.iloadN X0.here hx rfl (hb hby d8_15) rfl ?_
    show Steps p.tables e below (s₁.setTop (mkF m 16 #[.val (.int p0), .val (.int p1), .val (.int p2), .val (.int ((((p0 * (-1640531535 : Int32)) + p1) * (-2048144777 : Int32)) + p2))] [(.int ((((p0 * (-1640531535 : Int32)) + p1) * (-2048144777 : Int32)) + p2)), (.int ((((p0 * (-1640531535 : Int32)) + p1) * (-2048144777 : Int32)) + p2))])) _
    refine XS.bipush X0.here hx rfl (hb hby d8_16) ?_
    show Steps p.tables e below (s₁.setTop (mkF m 18 #[.val (.int p0), .val (.int p1), .val (.int p2), .val (.int ((((p0 * (-1640531535 : Int32)) + p1) * (-2048144777 : Int32)) + p2))] [(.int (15 : Int32)), (.int ((((p0 * (-1640531535 : Int32)) + p1) * (-2048144777 : Int32)) + p2)), (.int ((((p0 * (-1640531535 : Int32)) + p1) * (-2048144777 : Int32)) + p2))])) _
    refine XS.iushr X0.here hx rfl (hb hby d8_18) rfl ?_
    show Steps p.tables e below (s₁.setTop (mkF m 19 #[.val (.int p0), .val (.int p1), .val (.int p2), .val (.int ((((p0 * (-1640531535 : Int32)) + p1) * (-2048144777 : Int32)) + p2))] [(.int ((((((p0 * (-1640531535 : Int32)) + p1) * (-2048144777 : Int32)) + p2).toUInt32 >>> ((15 : Int32) &&& 31).toUInt32).toInt32)), (.int ((((p0 * (-1640531535 : Int32)) + p1) * (-2048144777 : Int32)) + p2))])) _
    refine XS.ixor X0.here hx rfl (hb hby d8_19) rfl ?_
    show Steps p.tables e below (s₁.setTop (mkF m 20 #[.val (.int p0), .val (.int p1), .val (.int p2), .val (.int ((((p0 * (-1640531535 : Int32)) + p1) * (-2048144777 : Int32)) + p2))] [(.int (((((p0 * (-1640531535 : Int32)) + p1) * (-2048144777 : Int32)) + p2) ^^^ ((((((p0 * (-1640531535 : Int32)) + p1) * (-2048144777 : Int32)) + p2).toUInt32 >>> ((15 : Int32) &&& 31).toUInt32).toInt32)))])) _
    rw [hr_]
    show Steps p.tables e below (s₁.setTop (mkF m 20 #[.val (.int p0), .val (.int p1), .val (.int p2), .val (.int ((((p0 * (-1640531535 : Int32)) + p1) * (-2048144777 : Int32)) + p2))] [(.int r)])) _
    exact retI X0 hx Bd.returns (hb hby d8_20) hr
  · show Q8 Z r h0 n0 _ s₁.heap _
    rw [e0]
    exact ⟨rfl, N0, rfl⟩
theorem d7_0 : decode prog_13_method_22_code 0 = .ok (.iload_n 2, 1) := by decide +kernel
theorem d7_1 : decode prog_13_method_22_code 1 = .ok (.iload_n 3, 1) := by decide +kernel
theorem d7_2 : decode prog_13_method_22_code 2 = .ok (.if_icmp .ne 5, 3) := by decide +kernel
theorem d7_7 : decode prog_13_method_22_code 7 = .ok (.aload_n 0, 1) := by decide +kernel
theorem d7_8 : decode prog_13_method_22_code 8 = .ok (.getfield 30, 3) := by decide +kernel
theorem d7_11 : decode prog_13_method_22_code 11 = .ok (.arraylength, 1) := by decide +kernel
theorem d7_12 : decode prog_13_method_22_code 12 = .ok (.iconst 1, 1) := by decide +kernel
theorem d7_13 : decode prog_13_method_22_code 13 = .ok (.isub, 1) := by decide +kernel
theorem d7_14 : decode prog_13_method_22_code 14 = .ok (.istore 4, 2) := by decide +kernel
theorem d7_16 : decode prog_13_method_22_code 16 = .ok (.iload_n 1, 1) := by decide +kernel
theorem d7_17 : decode prog_13_method_22_code 17 = .ok (.iload_n 2, 1) := by decide +kernel
theorem d7_18 : decode prog_13_method_22_code 18 = .ok (.iload_n 3, 1) := by decide +kernel
theorem pd_3 : parseMethodDescriptor "(III)I" = some ⟨[.int, .int, .int], some .int⟩ := by decide +kernel
theorem d7_19 : decode prog_13_method_22_code 19 = .ok (.invokestatic 219, 3) := by decide +kernel
theorem d7_22 : decode prog_13_method_22_code 22 = .ok (.iload 4, 2) := by decide +kernel
theorem d7_24 : decode prog_13_method_22_code 24 = .ok (.iand, 1) := by decide +kernel
theorem d7_25 : decode prog_13_method_22_code 25 = .ok (.istore 5, 2) := by decide +kernel
theorem d7_27 : decode prog_13_method_22_code 27 = .ok (.aload_n 0, 1) := by decide +kernel
theorem d7_28 : decode prog_13_method_22_code 28 = .ok (.getfield 30, 3) := by decide +kernel
theorem d7_31 : decode prog_13_method_22_code 31 = .ok (.iload 5, 2) := by decide +kernel
theorem d7_33 : decode prog_13_method_22_code 33 = .ok (.iaload, 1) := by decide +kernel
theorem d7_34 : decode prog_13_method_22_code 34 = .ok (.iconst (-1), 1) := by decide +kernel
theorem d7_35 : decode prog_13_method_22_code 35 = .ok (.if_icmp .eq 60, 3) := by decide +kernel
theorem d7_95 : decode prog_13_method_22_code 95 = .ok (.aload_n 0, 1) := by decide +kernel
theorem d7_96 : decode prog_13_method_22_code 96 = .ok (.dup, 1) := by decide +kernel
theorem d7_97 : decode prog_13_method_22_code 97 = .ok (.getfield 45, 3) := by decide +kernel
theorem d7_100 : decode prog_13_method_22_code 100 = .ok (.dup_x1, 1) := by decide +kernel
theorem d7_101 : decode prog_13_method_22_code 101 = .ok (.iconst 1, 1) := by decide +kernel
theorem d7_102 : decode prog_13_method_22_code 102 = .ok (.iadd, 1) := by decide +kernel
theorem d7_103 : decode prog_13_method_22_code 103 = .ok (.putfield 45, 3) := by decide +kernel
theorem d7_106 : decode prog_13_method_22_code 106 = .ok (.istore 6, 2) := by decide +kernel
theorem d7_108 : decode prog_13_method_22_code 108 = .ok (.iload 6, 2) := by decide +kernel
theorem d7_110 : decode prog_13_method_22_code 110 = .ok (.aload_n 0, 1) := by decide +kernel
theorem d7_111 : decode prog_13_method_22_code 111 = .ok (.getfield 16, 3) := by decide +kernel
theorem d7_114 : decode prog_13_method_22_code 114 = .ok (.arraylength, 1) := by decide +kernel
theorem d7_115 : decode prog_13_method_22_code 115 = .ok (.if_icmp .ne 7, 3) := by decide +kernel
theorem d7_122 : decode prog_13_method_22_code 122 = .ok (.aload_n 0, 1) := by decide +kernel
theorem d7_123 : decode prog_13_method_22_code 123 = .ok (.getfield 16, 3) := by decide +kernel
theorem d7_126 : decode prog_13_method_22_code 126 = .ok (.iload 6, 2) := by decide +kernel
theorem d7_128 : decode prog_13_method_22_code 128 = .ok (.iload_n 1, 1) := by decide +kernel
theorem d7_129 : decode prog_13_method_22_code 129 = .ok (.iastore, 1) := by decide +kernel
theorem d7_130 : decode prog_13_method_22_code 130 = .ok (.aload_n 0, 1) := by decide +kernel
theorem d7_131 : decode prog_13_method_22_code 131 = .ok (.getfield 20, 3) := by decide +kernel
theorem d7_134 : decode prog_13_method_22_code 134 = .ok (.iload 6, 2) := by decide +kernel
theorem d7_136 : decode prog_13_method_22_code 136 = .ok (.iload_n 2, 1) := by decide +kernel
theorem d7_137 : decode prog_13_method_22_code 137 = .ok (.iastore, 1) := by decide +kernel
theorem d7_138 : decode prog_13_method_22_code 138 = .ok (.aload_n 0, 1) := by decide +kernel
theorem d7_139 : decode prog_13_method_22_code 139 = .ok (.getfield 23, 3) := by decide +kernel
theorem d7_142 : decode prog_13_method_22_code 142 = .ok (.iload 6, 2) := by decide +kernel
theorem d7_144 : decode prog_13_method_22_code 144 = .ok (.iload_n 3, 1) := by decide +kernel
theorem d7_145 : decode prog_13_method_22_code 145 = .ok (.iastore, 1) := by decide +kernel
theorem d7_146 : decode prog_13_method_22_code 146 = .ok (.aload_n 0, 1) := by decide +kernel
theorem d7_147 : decode prog_13_method_22_code 147 = .ok (.getfield 45, 3) := by decide +kernel
theorem d7_150 : decode prog_13_method_22_code 150 = .ok (.iconst 2, 1) := by decide +kernel
theorem d7_151 : decode prog_13_method_22_code 151 = .ok (.imul, 1) := by decide +kernel
theorem d7_152 : decode prog_13_method_22_code 152 = .ok (.aload_n 0, 1) := by decide +kernel
theorem d7_153 : decode prog_13_method_22_code 153 = .ok (.getfield 30, 3) := by decide +kernel
theorem d7_156 : decode prog_13_method_22_code 156 = .ok (.arraylength, 1) := by decide +kernel
theorem d7_157 : decode prog_13_method_22_code 157 = .ok (.if_icmp .le 10, 3) := by decide +kernel
theorem d7_167 : decode prog_13_method_22_code 167 = .ok (.aload_n 0, 1) := by decide +kernel
theorem d7_168 : decode prog_13_method_22_code 168 = .ok (.getfield 30, 3) := by decide +kernel
theorem d7_171 : decode prog_13_method_22_code 171 = .ok (.iload 5, 2) := by decide +kernel
theorem d7_173 : decode prog_13_method_22_code 173 = .ok (.iload 6, 2) := by decide +kernel
theorem d7_175 : decode prog_13_method_22_code 175 = .ok (.iastore, 1) := by decide +kernel
theorem d7_176 : decode prog_13_method_22_code 176 = .ok (.iload 6, 2) := by decide +kernel
theorem d7_178 : decode prog_13_method_22_code 178 = .ok (.ireturn, 1) := by decide +kernel
def Q7 (Z : State) (a : Addr) (bv : Addr) (bl : Addr) (bh : Addr) (bu : Addr) (h0 : Heap) (n0 : Nat) (v : Option Value) (h : Heap) (L : List Loc) : Prop := v = some (.int (2 : Int32)) ∧ Fr n0 L ∧ Keep h0 h [a, bv, bl, bh, bu] ∧ Fld Z h a "com/example/cadmus/cadmus/automaton/Bdd" "size" "I" (.int (3 : Int32))
theorem pn_7 : plainName "com/example/cadmus/cadmus/automaton/Bdd" = true := by first | (simp [plainName, overriddenIn]; done) | decide +kernel
theorem ef_7 (m : MethodId) (x0 : Addr) (x1 : Int32) (x2 : Int32) (x3 : Int32) : entryFrame m #[(.ref x0), (.int x1), (.int x2), (.int x3)] 7 = mkF m 0 #[.val (.ref x0), .val (.int x1), .val (.int x2), .val (.int x3), .unset, .unset, .unset] [] := by first | (simp [entryFrame, mkF, argsToLocals, Value.category]; done) | rfl
set_option maxRecDepth 65536 in
set_option maxHeartbeats 40000000 in
theorem rm7 (l : Launch) (Z : State) (a0 : Array Value) (hw : ∀ d ∈ tables_1, d.before a0 Z = true) (ws : List Jvm.Cond) (a : Addr) (p1 : Int32) (bv : Addr) (bl : Addr) (bh : Addr) (bu : Addr) (f_bv : Nat → Value) (f_bl : Nat → Value) (f_bh : Nat → Value) (r : Int32) (ix : Int32) (h0 : Heap) (n0 : Nat) (Z0 : n0 ≤ h0.size) (E_a : Exa Z h0 a "com/example/cadmus/cadmus/automaton/Bdd") (F_variables : Fld Z h0 a "com/example/cadmus/cadmus/automaton/Bdd" "variables" "[I" (.ref bv)) (F_lows : Fld Z h0 a "com/example/cadmus/cadmus/automaton/Bdd" "lows" "[I" (.ref bl)) (F_highs : Fld Z h0 a "com/example/cadmus/cadmus/automaton/Bdd" "highs" "[I" (.ref bh)) (F_unique : Fld Z h0 a "com/example/cadmus/cadmus/automaton/Bdd" "unique" "[I" (.ref bu)) (F_size : Fld Z h0 a "com/example/cadmus/cadmus/automaton/Bdd" "size" "I" (.int (2 : Int32))) (V_bv : ArrF Z h0 bv .int 1024 f_bv) (V_bl : ArrF Z h0 bl .int 1024 f_bl) (V_bh : ArrF Z h0 bh .int 1024 f_bh) (V_bu : ArrF Z h0 bu .int 2048 (fun _ => (Value.int (-1 : Int32)))) (g_a : n0 ≤ a) (g_bv : n0 ≤ bv) (g_bl : n0 ≤ bl) (g_bh : n0 ≤ bh) (g_bu : n0 ≤ bu) (n_a_bv : a ≠ bv) (n_a_bl : a ≠ bl) (n_a_bh : a ≠ bh) (n_a_bu : a ≠ bu) (n_bv_bl : bv ≠ bl) (n_bv_bh : bv ≠ bh) (n_bv_bu : bv ≠ bu) (n_bl_bh : bl ≠ bh) (n_bl_bu : bl ≠ bu) (n_bh_bu : bh ≠ bu) (hr_ : own_hash p1 0 1 = r) (hix0_ : ¬ ix < 0) (hix1_ : ix < 2048) (hix_ : (r &&& (2047 : Int32)) = ix) :
    MetFree l (⟨"com/example/cadmus/cadmus/automaton/Bdd", "node", "(III)I"⟩ : MethodName) (head1 (Jvm.Cond.code (⟨"com/example/cadmus/cadmus/automaton/Bdd", "node", "(III)I"⟩ : MethodName) prog_13_method_22_code 7 (some .int) :: ws) ({ frames := 1, cells := 0, slots := 0, locals := 15 } : Room)) (fun as_ U => as_ = #[(.ref a), (.int p1), (.int (0 : Int32)), (.int (1 : Int32))] ∧ Z.Warmed39 U.vm ∧ U.heap = h0) (fun _ _ _ _ _ => True) (fun _ U o U' => ∃ v L, o = .returned v ∧ Q7 Z a bv bl bh bu h0 n0 v U'.heap L ∧ FrameEnd U o U' L ({ frames := 1, cells := 0, slots := 0, locals := 15 } : Room).cells ({ frames := 1, cells := 0, slots := 0, locals := 15 } : Room).slots) := by
  refine MetFree.of_bodySF (plainFor_of_name pn_7) hisR ?_
  intro p e s m args below meth c s₁ Bd hml0 hP hK
  obtain ⟨rfl, hZ, hh⟩ := hP
  have hx := Bd.exec
  have hby := Bd.bytes
  have hml : c.maxLocals = 7 := hml0
  have hown : s.vm.findClass "com/example/cadmus/cadmus/automaton/Bdd" = some m.cls := findClass_of_methodNamed Bd.named
  have hnm := (name_of_methodNamed Bd.named Bd.method).1
  have X0 : Stand p l e ({ frames := 1, cells := 0, slots := 0, locals := 15 } : Room) s m #[(.ref a), (.int p1), (.int (0 : Int32)), (.int (1 : Int32))] below meth c s₁ [] 0 0 := Stand.of_body Bd
  have e0 : s₁.heap = h0 := by rw [← hh, Bd.state]; rfl
  have N0 := Fr.nil n0
  have pre0 : ∀ t, Steps p.tables e below (s₁.setTop (mkF m 0 #[.val (.ref a), .val (.int p1), .val (.int (0 : Int32)), .val (.int (1 : Int32)), .unset, .unset, .unset] [])) t → Steps p.tables e below (s₁.setTop (entryFrame m #[(.ref a), (.int p1), (.int (0 : Int32)), (.int (1 : Int32))] 7)) t := fun t k => castTop (ef_7 m a p1 (0 : Int32) (1 : Int32)) k
  obtain ⟨T_1, X_1, e_1, st_1⟩ := getF X0 hx hZ hown (host := "") (Or.inl (hw _ (List.mem_of_getElem? (i := 27) rfl))) Via.refl e0 F_unique (g := (mkF m 8 #[.val (.ref a), .val (.int p1), .val (.int (0 : Int32)), .val (.int (1 : Int32)), .unset, .unset, .unset] [(.ref a)])) rfl rfl (hb hby d7_8)
  obtain ⟨cl_2, Ar_2, Sz_2, Mz_2, Hz_2⟩ := id V_bu
  obtain ⟨_, _, ⟨T_3, L_3, k_3, n_3⟩, -, X_3, ⟨Lc_3, hQ_3, l_3, y_3, z_3⟩, st_3⟩ := Jvm.LawKit.callS X_1 hx (y := (⟨"com/example/cadmus/cadmus/automaton/Bdd", "hash", "(III)I"⟩ : MethodName)) hown (mvT hZ (hw _ (List.mem_of_getElem? (i := 51) rfl))) (mvT hZ (hw _ (List.mem_of_getElem? (i := 52) rfl))) (mvT hZ (hw _ (List.mem_of_getElem? (i := 2) rfl))) (mvT hZ (hw _ (List.mem_of_getElem? (i := 53) rfl))) (by decide) (backOf (W := 0) (rm8 l Z a0 hw [] p1 (0 : Int32) (1 : Int32) r h0 n0 Z0 hr_) hZ (hw _ (List.mem_of_getElem? (i := 53) rfl)) (hw _ (List.mem_of_getElem? (i := 2) rfl)) (by decide) (by decide)) (g := (mkF m 19 #[.val (.ref a), .val (.int p1), .val (.int (0 : Int32)), .val (.int (1 : Int32)), .val (.int (2047 : Int32)), .unset, .unset] [(.int (1 : Int32)), (.int (0 : Int32)), (.int p1)])) rfl (by rw [hml]; rfl) (argsL := [(.int p1), (.int (0 : Int32)), (.int (1 : Int32))]) (rest := []) (lenOf pd_3 rfl) rfl (by show 2 * 0 + _ ≤ _; exact Nat.le_of_eq rfl) (hb hby d7_19) (fun _ _ => ⟨rfl, e_1, (by decide : 0 + 0 ≤ _), (by decide : 0 + 0 ≤ _)⟩)
  dsimp only [Pt.U, Pt.locs, Pt.cells, Pt.slots] at X_3 l_3 y_3 z_3 st_3 hQ_3
  subst l_3 y_3 z_3
  obtain ⟨rfl, Nq_3, eq_3⟩ := hQ_3
  have N_3 := Fr.app N0 Nq_3
  obtain ⟨T_4, X_4, e_4, st_4⟩ := getF X_3 hx hZ hown (host := "") (Or.inl (hw _ (List.mem_of_getElem? (i := 27) rfl))) Via.refl eq_3 F_unique (g := (mkF m 28 #[.val (.ref a), .val (.int p1), .val (.int (0 : Int32)), .val (.int (1 : Int32)), .val (.int (2047 : Int32)), .val (.int ix), .unset] [(.ref a)])) rfl rfl (hb hby d7_28)
  obtain ⟨cl_5, Ar_5, Sz_5, Mz_5, Hz_5⟩ := id V_bu
  obtain ⟨T_6, X_6, e_6, st_6⟩ := getF X_4 hx hZ hown (host := "") (Or.inl (hw _ (List.mem_of_getElem? (i := 37) rfl))) Via.refl e_4 F_size (g := (mkF m 97 #[.val (.ref a), .val (.int p1), .val (.int (0 : Int32)), .val (.int (1 : Int32)), .val (.int (2047 : Int32)), .val (.int ix), .unset] [(.ref a), (.ref a)])) rfl rfl (hb hby d7_97)
  obtain ⟨T_7, h_7, X_7, e_7, W_7, st_7⟩ := putF X_6 hx hZ hown (host := "") (Or.inl (hw _ (List.mem_of_getElem? (i := 37) rfl))) Via.refl e_6 F_size E_a (Or.inl (hw _ (List.mem_of_getElem? (i := 38) rfl))) (hw _ (List.mem_of_getElem? (i := 1) rfl)) (ty := .int) (by decide) rfl rfl (g := (mkF m 103 #[.val (.ref a), .val (.int p1), .val (.int (0 : Int32)), .val (.int (1 : Int32)), .val (.int (2047 : Int32)), .val (.int ix), .unset] [(.int (3 : Int32)), (.ref a), (.int (2 : Int32))])) rfl rfl (hb hby d7_103)
  have Fw_7 := F_size.same W_7
  have K_7 : Keep h0 h_7 [a, bv, bl, bh, bu] := (Keep.refl h0 [a, bv, bl, bh, bu]).wr W_7 (Or.inl (List.mem_of_getElem? (i := 0) rfl))
  have N_7 := Fr.snoc X_7 N_3 g_a
  have Z_8 : n0 ≤ h_7.size := Nat.le_trans Z0 (Keep.of_wr W_7).1
  have f_9_F_a_variables := (F_variables.other W_7 (Or.inr (slot_ne (Or.inl (hw _ (List.mem_of_getElem? (i := 15) rfl))) (Or.inl (hw _ (List.mem_of_getElem? (i := 38) rfl))) (by decide) (t := (.array .int)) (t' := .int) (by decide) (by decide))))
  obtain ⟨T_10, X_10, e_10, st_10⟩ := getF X_7 hx hZ hown (host := "") (Or.inl (hw _ (List.mem_of_getElem? (i := 14) rfl))) Via.refl e_7 f_9_F_a_variables (g := (mkF m 111 #[.val (.ref a), .val (.int p1), .val (.int (0 : Int32)), .val (.int (1 : Int32)), .val (.int (2047 : Int32)), .val (.int ix), .val (.int (2 : Int32))] [(.ref a), (.int (2 : Int32))])) rfl rfl (hb hby d7_111)
  have f_12_V_bv := (V_bv.other W_7 (Ne.symm n_a_bv))
  obtain ⟨cl_11, Ar_11, Sz_11, Mz_11, Hz_11⟩ := id f_12_V_bv
  obtain ⟨T_13, X_13, e_13, st_13⟩ := getF X_10 hx hZ hown (host := "") (Or.inl (hw _ (List.mem_of_getElem? (i := 14) rfl))) Via.refl e_10 f_9_F_a_variables (g := (mkF m 123 #[.val (.ref a), .val (.int p1), .val (.int (0 : Int32)), .val (.int (1 : Int32)), .val (.int (2047 : Int32)), .val (.int ix), .val (.int (2 : Int32))] [(.ref a)])) rfl rfl (hb hby d7_123)
  obtain ⟨cl_15, Ar_15, Sz_15, Mz_15, Hz_15⟩ := id f_12_V_bv
  obtain ⟨T_14, h_14, X_14, e_14, W_14, st_14⟩ := stI X_13 hx hZ e_13 Ar_15 (j := (2 : Int32)) (inb_of Sz_15 ⟨(by decide), (by decide)⟩) (g := (mkF m 129 #[.val (.ref a), .val (.int p1), .val (.int (0 : Int32)), .val (.int (1 : Int32)), .val (.int (2047 : Int32)), .val (.int ix), .val (.int (2 : Int32))] [(.int p1), (.int (2 : Int32)), (.ref bv)])) rfl rfl (hb hby d7_129)
  have K_14 : Keep h0 h_14 [a, bv, bl, bh, bu] := K_7.wr W_14 (Or.inl (List.mem_of_getElem? (i := 1) rfl))
  have N_14 := Fr.snoc X_14 N_7 g_bv
  have Z_16 : n0 ≤ h_14.size := Nat.le_trans Z_8 (Keep.of_wr W_14).1
  have Vw_14 := ArrF.set Ar_15 Sz_15 Mz_15 Hz_15 W_14
  have f_17_F_a_lows := ((F_lows.other W_7 (Or.inr (slot_ne (Or.inl (hw _ (List.mem_of_getElem? (i := 17) rfl))) (Or.inl (hw _ (List.mem_of_getElem? (i := 38) rfl))) (by decide) (t := (.array .int)) (t' := .int) (by decide) (by decide)))).other W_14 (Or.inl n_a_bv))
  obtain ⟨T_18, X_18, e_18, st_18⟩ := getF X_14 hx hZ hown (host := "") (Or.inl (hw _ (List.mem_of_getElem? (i := 16) rfl))) Via.refl e_14 f_17_F_a_lows (g := (mkF m 131 #[.val (.ref a), .val (.int p1), .val (.int (0 : Int32)), .val (.int (1 : Int32)), .val (.int (2047 : Int32)), .val (.int ix), .val (.int (2 : Int32))] [(.ref a)])) rfl rfl (hb hby d7_131)
  have f_21_V_bl := ((V_bl.other W_7 (Ne.symm n_a_bl)).other W_14 (Ne.symm n_bv_bl))
  obtain ⟨cl_20, Ar_20, Sz_20, Mz_20, Hz_20⟩ := id f_21_V_bl
  obtain ⟨T_19, h_19, X_19, e_19, W_19, st_19⟩ := stI X_18 hx hZ e_18 Ar_20 (j := (2 : Int32)) (inb_of Sz_20 ⟨(by decide), (by decide)⟩) (g := (mkF m 137 #[.val (.ref a), .val (.int p1), .val (.int (0 : Int32)), .val (.int (1 : Int32)), .val (.int (2047 : Int32)), .val (.int ix), .val (.int (2 : Int32))] [(.int (0 : Int32)), (.int (2 : Int32)), (.ref bl)])) rfl rfl (hb hby d7_137)
  have K_19 : Keep h0 h_19 [a, bv, bl, bh, bu] := K_14.wr W_19 (Or.inl (List.mem_of_getElem? (i := 2) rfl))
  have N_19 := Fr.snoc X_19 N_14 g_bl
  have Z_22 : n0 ≤ h_19.size := Nat.le_trans Z_16 (Keep.of_wr W_19).1
  have Vw_19 := ArrF.set Ar_20 Sz_20 Mz_20 Hz_20 W_19
  have f_23_F_a_highs := (((F_highs.other W_7 (Or.inr (slot_ne (Or.inl (hw _ (List.mem_of_getElem? (i := 19) rfl))) (Or.inl (hw _ (List.mem_of_getElem? (i := 38) rfl))) (by decide) (t := (.array .int)) (t' := .int) (by decide) (by decide)))).other W_14 (Or.inl n_a_bv)).other W_19 (Or.inl n_a_bl))
  obtain ⟨T_24, X_24, e_24, st_24⟩ := getF X_19 hx hZ hown (host := "") (Or.inl (hw _ (List.mem_of_getElem? (i := 18) rfl))) Via.refl e_19 f_23_F_a_highs (g := (mkF m 139 #[.val (.ref a), .val (.int p1), .val (.int (0 : Int32)), .val (.int (1 : Int32)), .val (.int (2047 : Int32)), .val (.int ix), .val (.int (2 : Int32))] [(.ref a)])) rfl rfl (hb hby d7_139)
  have f_27_V_bh := (((V_bh.other W_7 (Ne.symm n_a_bh)).other W_14 (Ne.symm n_bv_bh)).other W_19 (Ne.symm n_bl_bh))
  obtain ⟨cl_26, Ar_26, Sz_26, Mz_26, Hz_26⟩ := id f_27_V_bh
  obtain ⟨T_25, h_25, X_25, e_25, W_25, st_25⟩ := stI X_24 hx hZ e_24 Ar_26 (j := (2 : Int32)) (inb_of Sz_26 ⟨(by decide), (by decide)⟩) (g := (mkF m 145 #[.val (.ref a), .val (.int p1), .val (.int (0 : Int32)), .val (.int (1 : Int32)), .val (.int (2047 : Int32)), .val (.int ix), .val (.int (2 : Int32))] [(.int (1 : Int32)), (.int (2 : Int32)), (.ref bh)])) rfl rfl (hb hby d7_145)
  have K_25 : Keep h0 h_25 [a, bv, bl, bh, bu] := K_19.wr W_25 (Or.inl (List.mem_of_getElem? (i := 3) rfl))
  have N_25 := Fr.snoc X_25 N_19 g_bh
  have Z_28 : n0 ≤ h_25.size := Nat.le_trans Z_22 (Keep.of_wr W_25).1
  have Vw_25 := ArrF.set Ar_26 Sz_26 Mz_26 Hz_26 W_25
  have f_29_F_a_size := (((Fw_7.other W_14 (Or.inl n_a_bv)).other W_19 (Or.inl n_a_bl)).other W_25 (Or.inl n_a_bh))
  obtain ⟨T_30, X_30, e_30, st_30⟩ := getF X_25 hx hZ hown (host := "") (Or.inl (hw _ (List.mem_of_getElem? (i := 37) rfl))) Via.refl e_25 f_29_F_a_size (g := (mkF m 147 #[.val (.ref a), .val (.int p1), .val (.int (0 : Int32)), .val (.int (1 : Int32)), .val (.int (2047 : Int32)), .val (.int ix), .val (.int (2 : Int32))] [(.ref a)])) rfl rfl (hb hby d7_147)
  have f_31_F_a_unique := ((((F_unique.other W_7 (Or.inr (slot_ne (Or.inl (hw _ (List.mem_of_getElem? (i := 28) rfl))) (Or.inl (hw _ (List.mem_of_getElem? (i := 38) rfl))) (by decide) (t := (.array .int)) (t' := .int) (by decide) (by decide)))).other W_14 (Or.inl n_a_bv)).other W_19 (Or.inl n_a_bl)).other W_25 (Or.inl n_a_bh))
  obtain ⟨T_32, X_32, e_32, st_32⟩ := getF X_30 hx hZ hown (host := "") (Or.inl (hw _ (List.mem_of_getElem? (i := 27) rfl))) Via.refl e_30 f_31_F_a_unique (g := (mkF m 153 #[.val (.ref a), .val (.int p1), .val (.int (0 : Int32)), .val (.int (1 : Int32)), .val (.int (2047 : Int32)), .val (.int ix), .val (.int (2 : Int32))] [(.ref a), (.int ((3 : Int32) * (2 : Int32)))])) rfl rfl (hb hby d7_153)
  have f_34_V_bu := ((((V_bu.other W_7 (Ne.symm n_a_bu)).other W_14 (Ne.symm n_bv_bu)).other W_19 (Ne.symm n_bl_bu)).other W_25 (Ne.symm n_bh_bu))
  obtain ⟨cl_33, Ar_33, Sz_33, Mz_33, Hz_33⟩ := id f_34_V_bu
  obtain ⟨T_35, X_35, e_35, st_35⟩ := getF X_32 hx hZ hown (host := "") (Or.inl (hw _ (List.mem_of_getElem? (i := 27) rfl))) Via.refl e_32 f_31_F_a_unique (g := (mkF m 168 #[.val (.ref a), .val (.int p1), .val (.int (0 : Int32)), .val (.int (1 : Int32)), .val (.int (2047 : Int32)), .val (.int ix), .val (.int (2 : Int32))] [(.ref a)])) rfl rfl (hb hby d7_168)
  obtain ⟨cl_37, Ar_37, Sz_37, Mz_37, Hz_37⟩ := id f_34_V_bu
  obtain ⟨T_36, h_36, X_36, e_36, W_36, st_36⟩ := stI X_35 hx hZ e_35 Ar_37 (j := ix) (inb_of Sz_37 ⟨hix0_, hix1_⟩) (g := (mkF m 175 #[.val (.ref a), .val (.int p1), .val (.int (0 : Int32)), .val (.int (1 : Int32)), .val (.int (2047 : Int32)), .val (.int ix), .val (.int (2 : Int32))] [(.int (2 : Int32)), (.int ix), (.ref bu)])) rfl rfl (hb hby d7_175)
  have K_36 : Keep h0 h_36 [a, bv, bl, bh, bu] := K_25.wr W_36 (Or.inl (List.mem_of_getElem? (i := 4) rfl))
  have N_36 := Fr.snoc X_36 N_25 g_bu
  have Z_38 : n0 ≤ h_36.size := Nat.le_trans Z_28 (Keep.of_wr W_36).1
  have Vw_36 := ArrF.set Ar_37 Sz_37 Mz_37 Hz_37 W_36
  have f_39_F_a_size := (f_29_F_a_size.other W_36 (Or.inl n_a_bu))
  obtain ⟨fs, hr, hrun, hended, hW, hsame⟩ := X_36.leave (v := some (.int (2 : Int32))) (fun h => by rw [Bd.returns] at h; cases h)
  refine ⟨_, _, pre0 _ ?_, hrun, hended, _, _, rfl, ?_, ⟨_, rfl⟩, hW, hsame.mono (by decide) (by decide)⟩
  · show Steps p.tables e below (s₁.setTop (mkF m 0 #[.val (.ref a), .val (.int p1), .val (.int (0 : Int32)), .val (.int (1 : Int32)), .unset, .unset, .unset] [])) _
    refine XS.iloadN X0.here hx rfl (hb hby d7_0) rfl ?_
    show Steps p.tables e below (s₁.setTop (mkF m 1 #[.val (.ref a), .val (.int p1), .val (.int (0 : Int32)), .val (.int (1 : Int32)), .unset, .unset, .unset] [(.int (0 : Int32))])) _
    refine XS.iloadN X0.here hx rfl (hb hby d7_1) rfl ?_
    show Steps p.tables e below (s₁.setTop (mkF m 2 #[.val (.ref a), .val (.int p1), .val (.int (0 : Int32)), .val (.int (1 : Int32)), .unset, .unset, .unset] [(.int (1 : Int32)), (.int (0 : Int32))])) _
    refine XS.icmpYes X0.here hx rfl (pc0 := 2) (pc' := 7) rfl (hb hby d7_2) rfl (feq ((by decide) : ¬ ((0 : Int32) = (1 : Int32)))).2 (by decide) (by decide) ?_
    show Steps p.tables e below (s₁.setTop (mkF m 7 #[.val (.ref a), .val (.int p1), .val (.int (0 : Int32)), .val (.int (1 : Int32)), .unset, .unset, .unset] [])) _
    refine XS.aloadN X0.here hx rfl (hb hby d7_7) rfl rfl ?_
    show Steps p.tables e below (s₁.setTop (mkF m 8 #[.val (.ref a), .val (.int p1), .val (.int (0 : Int32)), .val (.int (1 : Int32)), .unset, .unset, .unset] [(.ref a)])) _
    refine st_1 _ ?_
    show Steps p.tables e below (T_1.setTop (mkF m 11 #[.val (.ref a), .val (.int p1), .val (.int (0 : Int32)), .val (.int (1 : Int32)), .unset, .unset, .unset] [(.ref bu)])) _
    refine X_1.arraylength hx (by rw [e_1]; exact Ar_2.1) (State.isArrayOf_alike hZ.alike Ar_2.2.1) (g := (mkF m 11 #[.val (.ref a), .val (.int p1), .val (.int (0 : Int32)), .val (.int (1 : Int32)), .unset, .unset, .unset] [(.ref bu)])) rfl rfl (hb hby d7_11) _ ?_
    rw [len_of Sz_2 Mz_2]
    show Steps p.tables e below (T_1.setTop (mkF m 12 #[.val (.ref a), .val (.int p1), .val (.int (0 : Int32)), .val (.int (1 : Int32)), .unset, .unset, .unset] [(.int 2048)])) _
    refine XS.iconst X_1.here hx rfl (hb hby d7_12) ?_
    show Steps p.tables e below (T_1.setTop (mkF m 13 #[.val (.ref a), .val (.int p1), .val (.int (0 : Int32)), .val (.int (1 : Int32)), .unset, .unset, .unset] [(.int (1 : Int32)), (.int 2048)])) _
    refine XS.isub X_1.here hx rfl (hb hby d7_13) rfl ?_
    show Steps p.tables e below (T_1.setTop (mkF m 14 #[.val (.ref a), .val (.int p1), .val (.int (0 : Int32)), .val (.int (1 : Int32)), .unset, .unset, .unset] [(.int (2048 - (1 : Int32)))])) _
    rw [own_2047]
    show Steps p.tables e below (T_1.setTop (mkF m 14 #[.val (.ref a), .val (.int p1), .val (.int (0 : Int32)), .val (.int (1 : Int32)), .unset, .unset, .unset] [(.int (2047 : Int32))])) _
    refine XS.istore X_1.here hx rfl (hb hby d7_14) rfl (l' := #[.val (.ref a), .val (.int p1), .val (.int (0 : Int32)), .val (.int (1 : Int32)), .val (.int (2047 : Int32)), .unset, .unset]) rfl ?_
    show Steps p.tables e below (T_1.setTop (mkF m 16 #[.val (.ref a), .val (.int p1), .val (.int (0 : Int32)), .val (.int (1 : Int32)), .val (.int (2047 : Int32)), .unset, .unset] [])) _
    refine XS.iloadN X_1.here hx rfl (hb hby d7_16) rfl ?_
    show Steps p.tables e below (T_1.setTop (mkF m 17 #[.val (.ref a), .val (.int p1), .val (.int (0 : Int32)), .val (.int (1 : Int32)), .val (.int (2047 : Int32)), .unset, .unset] [(.int p1)])) _
    refine XS.iloadN X_1.here hx rfl (hb hby d7_17) rfl ?_
    show Steps p.tables e below (T_1.setTop (mkF m 18 #[.val (.ref a), .val (.int p1), .val (.int (0 : Int32)), .val (.int (1 : Int32)), .val (.int (2047 : Int32)), .unset, .unset] [(.int (0 : Int32)), (.int p1)])) _
    refine XS.iloadN X_1.here hx rfl (hb hby d7_18) rfl ?_
    show Steps p.tables e below (T_1.setTop (mkF m 19 #[.val (.ref a), .val (.int p1), .val (.int (0 : Int32)), .val (.int (1 : Int32)), .val (.int (2047 : Int32)), .unset, .unset] [(.int (1 : Int32)), (.int (0 : Int32)), (.int p1)])) _
    refine st_3 _ ?_
    show Steps p.tables e below (T_3.setTop (mkF m 22 #[.val (.ref a), .val (.int p1), .val (.int (0 : Int32)), .val (.int (1 : Int32)), .val (.int (2047 : Int32)), .unset, .unset] [(.int r)])) _
    refine XS.iload X_3.here hx rfl (hb hby d7_22) rfl ?_
    show Steps p.tables e below (T_3.setTop (mkF m 24 #[.val (.ref a), .val (.int p1), .val (.int (0 : Int32)), .val (.int (1 : Int32)), .val (.int (2047 : Int32)), .unset, .unset] [(.int (2047 : Int32)), (.int r)])) _
    refine XS.iand X_3.here hx rfl (hb hby d7_24) rfl ?_
    show Steps p.tables e below (T_3.setTop (mkF m 25 #[.val (.ref a), .val (.int p1), .val (.int (0 : Int32)), .val (.int (1 : Int32)), .val (.int (2047 : Int32)), .unset, .unset] [(.int (r &&& (2047 : Int32)))])) _
    rw [hix_]
    show Steps p.tables e below (T_3.setTop (mkF m 25 #[.val (.ref a), .val (.int p1), .val (.int (0 : Int32)), .val (.int (1 : Int32)), .val (.int (2047 : Int32)), .unset, .unset] [(.int ix)])) _
    refine XS.istore X_3.here hx rfl (hb hby d7_25) rfl (l' := #[.val (.ref a), .val (.int p1), .val (.int (0 : Int32)), .val (.int (1 : Int32)), .val (.int (2047 : Int32)), .val (.int ix), .unset]) rfl ?_
    show Steps p.tables e below (T_3.setTop (mkF m 27 #[.val (.ref a), .val (.int p1), .val (.int (0 : Int32)), .val (.int (1 : Int32)), .val (.int (2047 : Int32)), .val (.int ix), .unset] [])) _
    refine XS.aloadN X_3.here hx rfl (hb hby d7_27) rfl rfl ?_
    show Steps p.tables e below (T_3.setTop (mkF m 28 #[.val (.ref a), .val (.int p1), .val (.int (0 : Int32)), .val (.int (1 : Int32)), .val (.int (2047 : Int32)), .val (.int ix), .unset] [(.ref a)])) _
    refine st_4 _ ?_
    show Steps p.tables e below (T_4.setTop (mkF m 31 #[.val (.ref a), .val (.int p1), .val (.int (0 : Int32)), .val (.int (1 : Int32)), .val (.int (2047 : Int32)), .val (.int ix), .unset] [(.ref bu)])) _
    refine XS.iload X_4.here hx rfl (hb hby d7_31) rfl ?_
    show Steps p.tables e below (T_4.setTop (mkF m 33 #[.val (.ref a), .val (.int p1), .val (.int (0 : Int32)), .val (.int (1 : Int32)), .val (.int (2047 : Int32)), .val (.int ix), .unset] [(.int ix), (.ref bu)])) _
    refine X_4.iaload hx (j := ix) (v := (.int (-1 : Int32))) (by rw [e_4]; exact Ar_5.1) (State.isArrayOf_alike hZ.alike Ar_5.2.1) Ar_5.2.2 (inb_of Sz_5 ⟨hix0_, hix1_⟩) ((Hz_5 _ (own_idx hix0_ hix1_)).trans (congrArg some (rfl : (fun _ => (Value.int (-1 : Int32))) ix.toNatClampNeg = .int (-1 : Int32)))) (g := (mkF m 33 #[.val (.ref a), .val (.int p1), .val (.int (0 : Int32)), .val (.int (1 : Int32)), .val (.int (2047 : Int32)), .val (.int ix), .unset] [(.int ix), (.ref bu)])) rfl rfl (hb hby d7_33) _ ?_
    show Steps p.tables e below (T_4.setTop (mkF m 34 #[.val (.ref a), .val (.int p1), .val (.int (0 : Int32)), .val (.int (1 : Int32)), .val (.int (2047 : Int32)), .val (.int ix), .unset] [(.int (-1 : Int32))])) _
    refine XS.iconst X_4.here hx rfl (hb hby d7_34) ?_
    show Steps p.tables e below (T_4.setTop (mkF m 35 #[.val (.ref a), .val (.int p1), .val (.int (0 : Int32)), .val (.int (1 : Int32)), .val (.int (2047 : Int32)), .val (.int ix), .unset] [(.int (-1 : Int32)), (.int (-1 : Int32))])) _
    refine XS.icmpYes X_4.here hx rfl (pc0 := 35) (pc' := 95) rfl (hb hby d7_35) rfl (teq (rfl : (-1 : Int32) = (-1 : Int32))).1 (by decide) (by decide) ?_
    show Steps p.tables e below (T_4.setTop (mkF m 95 #[.val (.ref a), .val (.int p1), .val (.int (0 : Int32)), .val (.int (1 : Int32)), .val (.int (2047 : Int32)), .val (.int ix), .unset] [])) _
    refine XS.aloadN X_4.here hx rfl (hb hby d7_95) rfl rfl ?_
    show Steps p.tables e below (T_4.setTop (mkF m 96 #[.val (.ref a), .val (.int p1), .val (.int (0 : Int32)), .val (.int (1 : Int32)), .val (.int (2047 : Int32)), .val (.int ix), .unset] [(.ref a)])) _
    refine XS.dup X_4.here hx rfl (hb hby d7_96) rfl rfl ?_
    show Steps p.tables e below (T_4.setTop (mkF m 97 #[.val (.ref a), .val (.int p1), .val (.int (0 : Int32)), .val (.int (1 : Int32)), .val (.int (2047 : Int32)), .val (.int ix), .unset] [(.ref a), (.ref a)])) _
    refine st_6 _ ?_
    show Steps p.tables e below (T_6.setTop (mkF m 100 #[.val (.ref a), .val (.int p1), .val (.int (0 : Int32)), .val (.int (1 : Int32)), .val (.int (2047 : Int32)), .val (.int ix), .unset] [(.int (2 : Int32)), (.ref a)])) _
    refine XS.dupX1 X_6.here hx rfl (hb hby d7_100) rfl rfl rfl ?_
    show Steps p.tables e below (T_6.setTop (mkF m 101 #[.val (.ref a), .val (.int p1), .val (.int (0 : Int32)), .val (.int (1 : Int32)), .val (.int (2047 : Int32)), .val (.int ix), .unset] [(.int (2 : Int32)), (.ref a), (.int (2 : Int32))])) _
    refine XS.iconst X_6.here hx rfl (hb hby d7_101) ?_
    show Steps p.tables e below (T_6.setTop (mkF m 102 #[.val (.ref a), .val (.int p1), .val (.int (0 : Int32)), .val (.int (1 : Int32)), .val (.int (2047 : Int32)), .val (.int ix), .unset] [(.int (1 : Int32)), (.int (2 : Int32)), (.ref a), (.int (2 : Int32))])) _
    refine XS.iadd X_6.here hx rfl (hb hby d7_102) rfl ?_
    show Steps p.tables e below (T_6.setTop (mkF m 103 #[.val (.ref a), .val (.int p1), .val (.int (0 : Int32)), .val (.int (1 : Int32)), .val (.int (2047 : Int32)), .val (.int ix), .unset] [(.int ((2 : Int32) + (1 : Int32))), (.ref a), (.int (2 : Int32))])) _
    rw [own_3]
    show Steps p.tables e below (T_6.setTop (mkF m 103 #[.val (.ref a), .val (.int p1), .val (.int (0 : Int32)), .val (.int (1 : Int32)), .val (.int (2047 : Int32)), .val (.int ix), .unset] [(.int (3 : Int32)), (.ref a), (.int (2 : Int32))])) _
    refine st_7 _ ?_
    show Steps p.tables e below (T_7.setTop (mkF m 106 #[.val (.ref a), .val (.int p1), .val (.int (0 : Int32)), .val (.int (1 : Int32)), .val (.int (2047 : Int32)), .val (.int ix), .unset] [(.int (2 : Int32))])) _
    refine XS.istore X_7.here hx rfl (hb hby d7_106) rfl (l' := #[.val (.ref a), .val (.int p1), .val (.int (0 : Int32)), .val (.int (1 : Int32)), .val (.int (2047 : Int32)), .val (.int ix), .val (.int (2 : Int32))]) rfl ?_
    show Steps p.tables e below (T_7.setTop (mkF m 108 #[.val (.ref a), .val (.int p1), .val (.int (0 : Int32)), .val (.int (1 : Int32)), .val (.int (2047 : Int32)), .val (.int ix), .val (.int (2 : Int32))] [])) _
    refine XS.iload X_7.here hx rfl (hb hby d7_108) rfl ?_
    show Steps p.tables e below (T_7.setTop (mkF m 110 #[.val (.ref a), .val (.int p1), .val (.int (0 : Int32)), .val (.int (1 : Int32)), .val (.int (2047 : Int32)), .val (.int ix), .val (.int (2 : Int32))] [(.int (2 : Int32))])) _
    refine XS.aloadN X_7.here hx rfl (hb hby d7_110) rfl rfl ?_
    show Steps p.tables e below (T_7.setTop (mkF m 111 #[.val (.ref a), .val (.int p1), .val (.int (0 : Int32)), .val (.int (1 : Int32)), .val (.int (2047 : Int32)), .val (.int ix), .val (.int (2 : Int32))] [(.ref a), (.int (2 : Int32))])) _
    refine st_10 _ ?_
    show Steps p.tables e below (T_10.setTop (mkF m 114 #[.val (.ref a), .val (.int p1), .val (.int (0 : Int32)), .val (.int (1 : Int32)), .val (.int (2047 : Int32)), .val (.int ix), .val (.int (2 : Int32))] [(.ref bv), (.int (2 : Int32))])) _
    refine X_10.arraylength hx (by rw [e_10]; exact Ar_11.1) (State.isArrayOf_alike hZ.alike Ar_11.2.1) (g := (mkF m 114 #[.val (.ref a), .val (.int p1), .val (.int (0 : Int32)), .val (.int (1 : Int32)), .val (.int (2047 : Int32)), .val (.int ix), .val (.int (2 : Int32))] [(.ref bv), (.int (2 : Int32))])) rfl rfl (hb hby d7_114) _ ?_
    rw [len_of Sz_11 Mz_11]
    show Steps p.tables e below (T_10.setTop (mkF m 115 #[.val (.ref a), .val (.int p1), .val (.int (0 : Int32)), .val (.int (1 : Int32)), .val (.int (2047 : Int32)), .val (.int ix), .val (.int (2 : Int32))] [(.int 1024), (.int (2 : Int32))])) _
    refine XS.icmpYes X_10.here hx rfl (pc0 := 115) (pc' := 122) rfl (hb hby d7_115) rfl (feq ((by decide) : ¬ ((2 : Int32) = 1024))).2 (by decide) (by decide) ?_
    show Steps p.tables e below (T_10.setTop (mkF m 122 #[.val (.ref a), .val (.int p1), .val (.int (0 : Int32)), .val (.int (1 : Int32)), .val (.int (2047 : Int32)), .val (.int ix), .val (.int (2 : Int32))] [])) _
    refine XS.aloadN X_10.here hx rfl (hb hby d7_122) rfl rfl ?_
    show Steps p.tables e below (T_10.setTop (mkF m 123 #[.val (.ref a), .val (.int p1), .val (.int (0 : Int32)), .val (.int (1 : Int32)), .val (.int (2047 : Int32)), .val (.int ix), .val (.int (2 : Int32))] [(.ref a)])) _
    refine st_13 _ ?_
    show Steps p.tables e below (T_13.setTop (mkF m 126 #[.val (.ref a), .val (.int p1), .val (.int (0 : Int32)), .val (.int (1 : Int32)), .val (.int (2047 : Int32)), .val (.int ix), .val (.int (2 : Int32))] [(.ref bv)])) _
    refine XS.iload X_13.here hx rfl (hb hby d7_126) rfl ?_
    show Steps p.tables e below (T_13.setTop (mkF m 128 #[.val (.ref a), .val (.int p1), .val (.int (0 : Int32)), .val (.int (1 : Int32)), .val (.int (2047 : Int32)), .val (.int ix), .val (.int (2 : Int32))] [(.int (2 : Int32)), (.ref bv)])) _
    refine XS.iloadN X_13.here hx rfl (hb hby d7_128) rfl ?_
    show Steps p.tables e below (T_13.setTop (mkF m 129 #[.val (.ref a), .val (.int p1), .val (.int (0 : Int32)), .val (.int (1 : Int32)), .val (.int (2047 : Int32)), .val (.int ix), .val (.int (2 : Int32))] [(.int p1), (.int (2 : Int32)), (.ref bv)])) _
    refine st_14 _ ?_
    show Steps p.tables e below (T_14.setTop (mkF m 130 #[.val (.ref a), .val (.int p1), .val (.int (0 : Int32)), .val (.int (1 : Int32)), .val (.int (2047 : Int32)), .val (.int ix), .val (.int (2 : Int32))] [])) _
    refine XS.aloadN X_14.here hx rfl (hb hby d7_130) rfl rfl ?_
    show Steps p.tables e below (T_14.setTop (mkF m 131 #[.val (.ref a), .val (.int p1), .val (.int (0 : Int32)), .val (.int (1 : Int32)), .val (.int (2047 : Int32)), .val (.int ix), .val (.int (2 : Int32))] [(.ref a)])) _
    refine st_18 _ ?_
    show Steps p.tables e below (T_18.setTop (mkF m 134 #[.val (.ref a), .val (.int p1), .val (.int (0 : Int32)), .val (.int (1 : Int32)), .val (.int (2047 : Int32)), .val (.int ix), .val (.int (2 : Int32))] [(.ref bl)])) _
    refine XS.iload X_18.here hx rfl (hb hby d7_134) rfl ?_
    show Steps p.tables e below (T_18.setTop (mkF m 136 #[.val (.ref a), .val (.int p1), .val (.int (0 : Int32)), .val (.int (1 : Int32)), .val (.int (2047 : Int32)), .val (.int ix), .val (.int (2 : Int32))] [(.int (2 : Int32)), (.ref bl)])) _
    refine XS.iloadN X_18.here hx rfl (hb hby d7_136) rfl ?_
    show Steps p.tables e below (T_18.setTop (mkF m 137 #[.val (.ref a), .val (.int p1), .val (.int (0 : Int32)), .val (.int (1 : Int32)), .val (.int (2047 : Int32)), .val (.int ix), .val (.int (2 : Int32))] [(.int (0 : Int32)), (.int (2 : Int32)), (.ref bl)])) _
    refine st_19 _ ?_
    show Steps p.tables e below (T_19.setTop (mkF m 138 #[.val (.ref a), .val (.int p1), .val (.int (0 : Int32)), .val (.int (1 : Int32)), .val (.int (2047 : Int32)), .val (.int ix), .val (.int (2 : Int32))] [])) _
    refine XS.aloadN X_19.here hx rfl (hb hby d7_138) rfl rfl ?_
    show Steps p.tables e below (T_19.setTop (mkF m 139 #[.val (.ref a), .val (.int p1), .val (.int (0 : Int32)), .val (.int (1 : Int32)), .val (.int (2047 : Int32)), .val (.int ix), .val (.int (2 : Int32))] [(.ref a)])) _
    refine st_24 _ ?_
    show Steps p.tables e below (T_24.setTop (mkF m 142 #[.val (.ref a), .val (.int p1), .val (.int (0 : Int32)), .val (.int (1 : Int32)), .val (.int (2047 : Int32)), .val (.int ix), .val (.int (2 : Int32))] [(.ref bh)])) _
    refine XS.iload X_24.here hx rfl (hb hby d7_142) rfl ?_
    show Steps p.tables e below (T_24.setTop (mkF m 144 #[.val (.ref a), .val (.int p1), .val (.int (0 : Int32)), .val (.int (1 : Int32)), .val (.int (2047 : Int32)), .val (.int ix), .val (.int (2 : Int32))] [(.int (2 : Int32)), (.ref bh)])) _
    refine XS.iloadN X_24.here hx rfl (hb hby d7_144) rfl ?_
    show Steps p.tables e below (T_24.setTop (mkF m 145 #[.val (.ref a), .val (.int p1), .val (.int (0 : Int32)), .val (.int (1 : Int32)), .val (.int (2047 : Int32)), .val (.int ix), .val (.int (2 : Int32))] [(.int (1 : Int32)), (.int (2 : Int32)), (.ref bh)])) _
    refine st_25 _ ?_
    show Steps p.tables e below (T_25.setTop (mkF m 146 #[.val (.ref a), .val (.int p1), .val (.int (0 : Int32)), .val (.int (1 : Int32)), .val (.int (2047 : Int32)), .val (.int ix), .val (.int (2 : Int32))] [])) _
    refine XS.aloadN X_25.here hx rfl (hb hby d7_146) rfl rfl ?_
    show Steps p.tables e below (T_25.setTop (mkF m 147 #[.val (.ref a), .val (.int p1), .val (.int (0 : Int32)), .val (.int (1 : Int32)), .val (.int (2047 : Int32)), .val (.int ix), .val (.int (2 : Int32))] [(.ref a)])) _
    refine st_30 _ ?_
    show Steps p.tables e below (T_30.setTop (mkF m 150 #[.val (.ref a), .val (.int p1), .val (.int (0 : Int32)), .val (.int (1 : Int32)), .val (.int (2047 : Int32)), .val (.int ix), .val (.int (2 : Int32))] [(.int (3 : Int32))])) _
    refine XS.iconst X_30.here hx rfl (hb hby d7_150) ?_
    show Steps p.tables e below (T_30.setTop (mkF m 151 #[.val (.ref a), .val (.int p1), .val (.int (0 : Int32)), .val (.int (1 : Int32)), .val (.int (2047 : Int32)), .val (.int ix), .val (.int (2 : Int32))] [(.int (2 : Int32)), (.int (3 : Int32))])) _
    refine XS.imul X_30.here hx rfl (hb hby d7_151) rfl ?_
    show Steps p.tables e below (T_30.setTop (mkF m 152 #[.val (.ref a), .val (.int p1), .val (.int (0 : Int32)), .val (.int (1 : Int32)), .val (.int (2047 : Int32)), .val (.int ix), .val (.int (2 : Int32))] [(.int ((3 : Int32) * (2 : Int32)))])) _
    refine XS.aloadN X_30.here hx rfl (hb hby d7_152) rfl rfl ?_
    show Steps p.tables e below (T_30.setTop (mkF m 153 #[.val (.ref a), .val (.int p1), .val (.int (0 : Int32)), .val (.int (1 : Int32)), .val (.int (2047 : Int32)), .val (.int ix), .val (.int (2 : Int32))] [(.ref a), (.int ((3 : Int32) * (2 : Int32)))])) _
    refine st_32 _ ?_
    show Steps p.tables e below (T_32.setTop (mkF m 156 #[.val (.ref a), .val (.int p1), .val (.int (0 : Int32)), .val (.int (1 : Int32)), .val (.int (2047 : Int32)), .val (.int ix), .val (.int (2 : Int32))] [(.ref bu), (.int ((3 : Int32) * (2 : Int32)))])) _
    refine X_32.arraylength hx (by rw [e_32]; exact Ar_33.1) (State.isArrayOf_alike hZ.alike Ar_33.2.1) (g := (mkF m 156 #[.val (.ref a), .val (.int p1), .val (.int (0 : Int32)), .val (.int (1 : Int32)), .val (.int (2047 : Int32)), .val (.int ix), .val (.int (2 : Int32))] [(.ref bu), (.int ((3 : Int32) * (2 : Int32)))])) rfl rfl (hb hby d7_156) _ ?_
    rw [len_of Sz_33 Mz_33]
    show Steps p.tables e below (T_32.setTop (mkF m 157 #[.val (.ref a), .val (.int p1), .val (.int (0 : Int32)), .val (.int (1 : Int32)), .val (.int (2047 : Int32)), .val (.int ix), .val (.int (2 : Int32))] [(.int 2048), (.int ((3 : Int32) * (2 : Int32)))])) _
    refine XS.icmpYes X_32.here hx rfl (pc0 := 157) (pc' := 167) rfl (hb hby d7_157) rfl (flt ((by decide) : ¬ (2048 < ((3 : Int32) * (2 : Int32))))).2.2.2 (by decide) (by decide) ?_
    show Steps p.tables e below (T_32.setTop (mkF m 167 #[.val (.ref a), .val (.int p1), .val (.int (0 : Int32)), .val (.int (1 : Int32)), .val (.int (2047 : Int32)), .val (.int ix), .val (.int (2 : Int32))] [])) _
    refine XS.aloadN X_32.here hx rfl (hb hby d7_167) rfl rfl ?_
    show Steps p.tables e below (T_32.setTop (mkF m 168 #[.val (.ref a), .val (.int p1), .val (.int (0 : Int32)), .val (.int (1 : Int32)), .val (.int (2047 : Int32)), .val (.int ix), .val (.int (2 : Int32))] [(.ref a)])) _
    refine st_35 _ ?_
    show Steps p.tables e below (T_35.setTop (mkF m 171 #[.val (.ref a), .val (.int p1), .val (.int (0 : Int32)), .val (.int (1 : Int32)), .val (.int (2047 : Int32)), .val (.int ix), .val (.int (2 : Int32))] [(.ref bu)])) _
    refine XS.iload X_35.here hx rfl (hb hby d7_171) rfl ?_
    show Steps p.tables e below (T_35.setTop (mkF m 173 #[.val (.ref a), .val (.int p1), .val (.int (0 : Int32)), .val (.int (1 : Int32)), .val (.int (2047 : Int32)), .val (.int ix), .val (.int (2 : Int32))] [(.int ix), (.ref bu)])) _
    refine XS.iload X_35.here hx rfl (hb hby d7_173) rfl ?_
    show Steps p.tables e below (T_35.setTop (mkF m 175 #[.val (.ref a), .val (.int p1), .val (.int (0 : Int32)), .val (.int (1 : Int32)), .val (.int (2047 : Int32)), .val (.int ix), .val (.int (2 : Int32))] [(.int (2 : Int32)), (.int ix), (.ref bu)])) _
    refine st_36 _ ?_
    show Steps p.tables e below (T_36.setTop (mkF m 176 #[.val (.ref a), .val (.int p1), .val (.int (0 : Int32)), .val (.int (1 : Int32)), .val (.int (2047 : Int32)), .val (.int ix), .val (.int (2 : Int32))] [])) _
    refine XS.iload X_36.here hx rfl (hb hby d7_176) rfl ?_
    show Steps p.tables e below (T_36.setTop (mkF m 178 #[.val (.ref a), .val (.int p1), .val (.int (0 : Int32)), .val (.int (1 : Int32)), .val (.int (2047 : Int32)), .val (.int ix), .val (.int (2 : Int32))] [(.int (2 : Int32))])) _
    exact retI X_36 hx Bd.returns (hb hby d7_178) hr
  · show Q7 Z a bv bl bh bu h0 n0 _ T_36.heap _
    rw [e_36]
    exact ⟨rfl, N_36, K_36, f_39_F_a_size⟩
theorem d6_0 : decode prog_13_method_3_code 0 = .ok (.iload_n 1, 1) := by decide +kernel
theorem d6_1 : decode prog_13_method_3_code 1 = .ok (.ifCond .ge 17, 3) := by decide +kernel
theorem d6_18 : decode prog_13_method_3_code 18 = .ok (.aload_n 0, 1) := by decide +kernel
theorem d6_19 : decode prog_13_method_3_code 19 = .ok (.iload_n 1, 1) := by decide +kernel
theorem d6_20 : decode prog_13_method_3_code 20 = .ok (.iconst 0, 1) := by decide +kernel
theorem d6_21 : decode prog_13_method_3_code 21 = .ok (.iconst 1, 1) := by decide +kernel
theorem d6_22 : decode prog_13_method_3_code 22 = .ok (.invokevirtual 62, 3) := by decide +kernel
theorem d6_25 : decode prog_13_method_3_code 25 = .ok (.ireturn, 1) := by decide +kernel
def Q6 (Z : State) (a : Addr) (bv : Addr) (bl : Addr) (bh : Addr) (bu : Addr) (h0 : Heap) (n0 : Nat) (v : Option Value) (h : Heap) (L : List Loc) : Prop := v = some (.int (2 : Int32)) ∧ Fr n0 L ∧ Keep h0 h [a, bv, bl, bh, bu] ∧ Fld Z h a "com/example/cadmus/cadmus/automaton/Bdd" "size" "I" (.int (3 : Int32))
theorem pn_6 : plainName "com/example/cadmus/cadmus/automaton/Bdd" = true := by first | (simp [plainName, overriddenIn]; done) | decide +kernel
theorem ef_6 (m : MethodId) (x0 : Addr) (x1 : Int32) : entryFrame m #[(.ref x0), (.int x1)] 2 = mkF m 0 #[.val (.ref x0), .val (.int x1)] [] := by first | (simp [entryFrame, mkF, argsToLocals, Value.category]; done) | rfl
set_option maxRecDepth 65536 in
set_option maxHeartbeats 40000000 in
theorem rm6 (l : Launch) (Z : State) (a0 : Array Value) (hw : ∀ d ∈ tables_1, d.before a0 Z = true) (ws : List Jvm.Cond) (a : Addr) (p1 : Int32) (bv : Addr) (bl : Addr) (bh : Addr) (bu : Addr) (f_bv : Nat → Value) (f_bl : Nat → Value) (f_bh : Nat → Value) (r : Int32) (ix : Int32) (h0 : Heap) (n0 : Nat) (Z0 : n0 ≤ h0.size) (E_a : Exa Z h0 a "com/example/cadmus/cadmus/automaton/Bdd") (F_variables : Fld Z h0 a "com/example/cadmus/cadmus/automaton/Bdd" "variables" "[I" (.ref bv)) (F_lows : Fld Z h0 a "com/example/cadmus/cadmus/automaton/Bdd" "lows" "[I" (.ref bl)) (F_highs : Fld Z h0 a "com/example/cadmus/cadmus/automaton/Bdd" "highs" "[I" (.ref bh)) (F_unique : Fld Z h0 a "com/example/cadmus/cadmus/automaton/Bdd" "unique" "[I" (.ref bu)) (F_size : Fld Z h0 a "com/example/cadmus/cadmus/automaton/Bdd" "size" "I" (.int (2 : Int32))) (V_bv : ArrF Z h0 bv .int 1024 f_bv) (V_bl : ArrF Z h0 bl .int 1024 f_bl) (V_bh : ArrF Z h0 bh .int 1024 f_bh) (V_bu : ArrF Z h0 bu .int 2048 (fun _ => (Value.int (-1 : Int32)))) (g_a : n0 ≤ a) (g_bv : n0 ≤ bv) (g_bl : n0 ≤ bl) (g_bh : n0 ≤ bh) (g_bu : n0 ≤ bu) (n_a_bv : a ≠ bv) (n_a_bl : a ≠ bl) (n_a_bh : a ≠ bh) (n_a_bu : a ≠ bu) (n_bv_bl : bv ≠ bl) (n_bv_bh : bv ≠ bh) (n_bv_bu : bv ≠ bu) (n_bl_bh : bl ≠ bh) (n_bl_bu : bl ≠ bu) (n_bh_bu : bh ≠ bu) (hr_ : own_hash p1 0 1 = r) (hix0_ : ¬ ix < 0) (hix1_ : ix < 2048) (hix_ : (r &&& (2047 : Int32)) = ix) (hc1 : ¬ (p1 < (0 : Int32))) :
    MetFree l (⟨"com/example/cadmus/cadmus/automaton/Bdd", "variable", "(I)I"⟩ : MethodName) (head1 (Jvm.Cond.code (⟨"com/example/cadmus/cadmus/automaton/Bdd", "variable", "(I)I"⟩ : MethodName) prog_13_method_3_code 2 (some .int) :: ws) ({ frames := 2, cells := 0, slots := 0, locals := 33 } : Room)) (fun as_ U => as_ = #[(.ref a), (.int p1)] ∧ Z.Warmed39 U.vm ∧ U.heap = h0) (fun _ _ _ _ _ => True) (fun _ U o U' => ∃ v L, o = .returned v ∧ Q6 Z a bv bl bh bu h0 n0 v U'.heap L ∧ FrameEnd U o U' L ({ frames := 2, cells := 0, slots := 0, locals := 33 } : Room).cells ({ frames := 2, cells := 0, slots := 0, locals := 33 } : Room).slots) := by
  refine MetFree.of_bodySF (plainFor_of_name pn_6) hisR ?_
  intro p e s m args below meth c s₁ Bd hml0 hP hK
  obtain ⟨rfl, hZ, hh⟩ := hP
  have hx := Bd.exec
  have hby := Bd.bytes
  have hml : c.maxLocals = 2 := hml0
  have hown : s.vm.findClass "com/example/cadmus/cadmus/automaton/Bdd" = some m.cls := findClass_of_methodNamed Bd.named
  have hnm := (name_of_methodNamed Bd.named Bd.method).1
  have X0 : Stand p l e ({ frames := 2, cells := 0, slots := 0, locals := 33 } : Room) s m #[(.ref a), (.int p1)] below meth c s₁ [] 0 0 := Stand.of_body Bd
  have e0 : s₁.heap = h0 := by rw [← hh, Bd.state]; rfl
  have N0 := Fr.nil n0
  have pre0 : ∀ t, Steps p.tables e below (s₁.setTop (mkF m 0 #[.val (.ref a), .val (.int p1)] [])) t → Steps p.tables e below (s₁.setTop (entryFrame m #[(.ref a), (.int p1)] 2)) t := fun t k => castTop (ef_6 m a p1) k
  obtain ⟨cq_1, q_1, q_1'⟩ := E_a.cell
  obtain ⟨_, _, ⟨T_1, L_1, k_1, n_1⟩, -, X_1, ⟨Lc_1, hQ_1, l_1, y_1, z_1⟩, st_1⟩ := X0.privateBack hx (y := (⟨"com/example/cadmus/cadmus/automaton/Bdd", "node", "(III)I"⟩ : MethodName)) hown (mvT hZ (hw _ (List.mem_of_getElem? (i := 47) rfl))) (mvT hZ (hw _ (List.mem_of_getElem? (i := 48) rfl))) (own_selp hZ (hw _ (List.mem_of_getElem? (i := 1) rfl)) (hw _ (List.mem_of_getElem? (i := 49) rfl)) (hw _ (List.mem_of_getElem? (i := 48) rfl)) (by decide)) (Cond.privateMethod_at (mvP hZ (hw _ (List.mem_of_getElem? (i := 49) rfl)) (args := #[]))) (mvT hZ (hw _ (List.mem_of_getElem? (i := 50) rfl))) (by decide) (backOf (W := 0) (rm7 l Z a0 hw [] a p1 bv bl bh bu f_bv f_bl f_bh r ix h0 n0 Z0 E_a F_variables F_lows F_highs F_unique F_size V_bv V_bl V_bh V_bu g_a g_bv g_bl g_bh g_bu n_a_bv n_a_bl n_a_bh n_a_bu n_bv_bl n_bv_bh n_bv_bu n_bl_bh n_bl_bu n_bh_bu hr_ hix0_ hix1_ hix_) hZ (hw _ (List.mem_of_getElem? (i := 50) rfl)) (hw _ (List.mem_of_getElem? (i := 2) rfl)) (by decide) (by decide)) (g := (mkF m 22 #[.val (.ref a), .val (.int p1)] [(.int (1 : Int32)), (.int (0 : Int32)), (.int p1), (.ref a)])) rfl (by rw [hml]; rfl) (Steps.refl _) (a := a) (by rw [e0]; exact q_1) q_1' (argsL := [(.int p1), (.int (0 : Int32)), (.int (1 : Int32))]) (rest := []) (lenOf pd_3 rfl) rfl (by show 2 * 0 + _ ≤ _; exact Nat.le_of_eq rfl) (hb hby d6_22) (fun _ _ => ⟨rfl, e0, (by decide : 0 + 0 ≤ _), (by decide : 0 + 0 ≤ _)⟩)
  dsimp only [Pt.U, Pt.locs, Pt.cells, Pt.slots] at X_1 l_1 y_1 z_1 st_1 hQ_1
  subst l_1 y_1 z_1
  obtain ⟨rfl, Nq_1, Kq_1, Fs_1⟩ := hQ_1
  have N_1 := Fr.app N0 Nq_1
  have KK_1 : Keep h0 T_1.heap [a, bv, bl, bh, bu] := (Keep.refl h0 [a, bv, bl, bh, bu]).trans Kq_1 (allS (Or.inl (List.mem_of_getElem? (i := 0) rfl)) (allS (Or.inl (List.mem_of_getElem? (i := 1) rfl)) (allS (Or.inl (List.mem_of_getElem? (i := 2) rfl)) (allS (Or.inl (List.mem_of_getElem? (i := 3) rfl)) (allS (Or.inl (List.mem_of_getElem? (i := 4) rfl)) all0)))))
  have Z_2 : n0 ≤ T_1.heap.size := Nat.le_trans Z0 Kq_1.1
  obtain ⟨fs, hr, hrun, hended, hW, hsame⟩ := X_1.leave (v := some (.int (2 : Int32))) (fun h => by rw [Bd.returns] at h; cases h)
  refine ⟨_, _, pre0 _ ?_, hrun, hended, _, _, rfl, ?_, ⟨_, rfl⟩, hW, hsame.mono (by decide) (by decide)⟩
  · show Steps p.tables e below (s₁.setTop (mkF m 0 #[.val (.ref a), .val (.int p1)] [])) _
    refine XS.iloadN X0.here hx rfl (hb hby d6_0) rfl ?_
    show Steps p.tables e below (s₁.setTop (mkF m 1 #[.val (.ref a), .val (.int p1)] [(.int p1)])) _
    refine XS.ifYes X0.here hx rfl (pc0 := 1) (pc' := 18) rfl (hb hby d6_1) rfl ((if0 _ _).trans (flt hc1).2.1) (by decide) (by decide) ?_
    show Steps p.tables e below (s₁.setTop (mkF m 18 #[.val (.ref a), .val (.int p1)] [])) _
    refine XS.aloadN X0.here hx rfl (hb hby d6_18) rfl rfl ?_
    show Steps p.tables e below (s₁.setTop (mkF m 19 #[.val (.ref a), .val (.int p1)] [(.ref a)])) _
    refine XS.iloadN X0.here hx rfl (hb hby d6_19) rfl ?_
    show Steps p.tables e below (s₁.setTop (mkF m 20 #[.val (.ref a), .val (.int p1)] [(.int p1), (.ref a)])) _
    refine XS.iconst X0.here hx rfl (hb hby d6_20) ?_
    show Steps p.tables e below (s₁.setTop (mkF m 21 #[.val (.ref a), .val (.int p1)] [(.int (0 : Int32)), (.int p1), (.ref a)])) _
    refine XS.iconst X0.here hx rfl (hb hby d6_21) ?_
    show Steps p.tables e below (s₁.setTop (mkF m 22 #[.val (.ref a), .val (.int p1)] [(.int (1 : Int32)), (.int (0 : Int32)), (.int p1), (.ref a)])) _
    refine st_1.trans ?_
    show Steps p.tables e below (T_1.setTop (mkF m 25 #[.val (.ref a), .val (.int p1)] [(.int (2 : Int32))])) _
    exact retI X_1 hx Bd.returns (hb hby d6_25) hr
  · show Q6 Z a bv bl bh bu h0 n0 _ T_1.heap _
    exact ⟨rfl, N_1, KK_1, Fs_1⟩
theorem d13_0 : decode prog_13_method_27_code 0 = .ok (.iload_n 1, 1) := by decide +kernel
theorem d13_1 : decode prog_13_method_27_code 1 = .ok (.ifCond .lt 11, 3) := by decide +kernel
theorem d13_4 : decode prog_13_method_27_code 4 = .ok (.iload_n 1, 1) := by decide +kernel
theorem d13_5 : decode prog_13_method_27_code 5 = .ok (.aload_n 0, 1) := by decide +kernel
theorem d13_6 : decode prog_13_method_27_code 6 = .ok (.getfield 45, 3) := by decide +kernel
theorem d13_9 : decode prog_13_method_27_code 9 = .ok (.if_icmp .lt 17, 3) := by decide +kernel
theorem d13_26 : decode prog_13_method_27_code 26 = .ok (.return_, 1) := by decide +kernel
def Q13 (Z : State)  (h0 : Heap) (n0 : Nat) (v : Option Value) (h : Heap) (L : List Loc) : Prop := v = none ∧ Fr n0 L ∧ h = h0
theorem pn_13 : plainName "com/example/cadmus/cadmus/automaton/Bdd" = true := by first | (simp [plainName, overriddenIn]; done) | decide +kernel
theorem ef_13 (m : MethodId) (x0 : Addr) (x1 : Int32) : entryFrame m #[(.ref x0), (.int x1)] 2 = mkF m 0 #[.val (.ref x0), .val (.int x1)] [] := by first | (simp [entryFrame, mkF, argsToLocals, Value.category]; done) | rfl
set_option maxRecDepth 65536 in
set_option maxHeartbeats 40000000 in
theorem rm13 (l : Launch) (Z : State) (a0 : Array Value) (hw : ∀ d ∈ tables_1, d.before a0 Z = true) (ws : List Jvm.Cond) (a : Addr) (p1 : Int32) (h0 : Heap) (n0 : Nat) (Z0 : n0 ≤ h0.size) (F_s : Fld Z h0 a "com/example/cadmus/cadmus/automaton/Bdd" "size" "I" (.int (3 : Int32))) (hc1 : ¬ (p1 < (0 : Int32))) (hc9 : p1 < (3 : Int32)) :
    MetFree l (⟨"com/example/cadmus/cadmus/automaton/Bdd", "check", "(I)V"⟩ : MethodName) (head1 (Jvm.Cond.code (⟨"com/example/cadmus/cadmus/automaton/Bdd", "check", "(I)V"⟩ : MethodName) prog_13_method_27_code 2 none :: ws) ({ frames := 0, cells := 0, slots := 0, locals := 0 } : Room)) (fun as_ U => as_ = #[(.ref a), (.int p1)] ∧ Z.Warmed39 U.vm ∧ U.heap = h0) (fun _ _ _ _ _ => True) (fun _ U o U' => ∃ v L, o = .returned v ∧ Q13 Z  h0 n0 v U'.heap L ∧ FrameEnd U o U' L ({ frames := 0, cells := 0, slots := 0, locals := 0 } : Room).cells ({ frames := 0, cells := 0, slots := 0, locals := 0 } : Room).slots) := by
  refine MetFree.of_bodySF (plainFor_of_name pn_13) hisR ?_
  intro p e s m args below meth c s₁ Bd hml0 hP hK
  obtain ⟨rfl, hZ, hh⟩ := hP
  have hx := Bd.exec
  have hby := Bd.bytes
  have hml : c.maxLocals = 2 := hml0
  have hown : s.vm.findClass "com/example/cadmus/cadmus/automaton/Bdd" = some m.cls := findClass_of_methodNamed Bd.named
  have hnm := (name_of_methodNamed Bd.named Bd.method).1
  have X0 : Stand p l e ({ frames := 0, cells := 0, slots := 0, locals := 0 } : Room) s m #[(.ref a), (.int p1)] below meth c s₁ [] 0 0 := Stand.of_body Bd
  have e0 : s₁.heap = h0 := by rw [← hh, Bd.state]; rfl
  have N0 := Fr.nil n0
  have pre0 : ∀ t, Steps p.tables e below (s₁.setTop (mkF m 0 #[.val (.ref a), .val (.int p1)] [])) t → Steps p.tables e below (s₁.setTop (entryFrame m #[(.ref a), (.int p1)] 2)) t := fun t k => castTop (ef_13 m a p1) k
  obtain ⟨T_1, X_1, e_1, st_1⟩ := getF X0 hx hZ hown (host := "") (Or.inl (hw _ (List.mem_of_getElem? (i := 37) rfl))) Via.refl e0 F_s (g := (mkF m 6 #[.val (.ref a), .val (.int p1)] [(.ref a), (.int p1)])) rfl rfl (hb hby d13_6)
  obtain ⟨fs, hr, hrun, hended, hW, hsame⟩ := X_1.leave (v := none) (fun _ => rfl)
  refine ⟨_, _, pre0 _ ?_, hrun, hended, _, _, rfl, ?_, ⟨_, rfl⟩, hW, hsame.mono (by decide) (by decide)⟩
  · show Steps p.tables e below (s₁.setTop (mkF m 0 #[.val (.ref a), .val (.int p1)] [])) _
    refine XS.iloadN X0.here hx rfl (hb hby d13_0) rfl ?_
    show Steps p.tables e below (s₁.setTop (mkF m 1 #[.val (.ref a), .val (.int p1)] [(.int p1)])) _
    refine XS.ifNo X0.here hx rfl (hb hby d13_1) rfl ((if0 _ _).trans (flt hc1).1) ?_
    show Steps p.tables e below (s₁.setTop (mkF m 4 #[.val (.ref a), .val (.int p1)] [])) _
    refine XS.iloadN X0.here hx rfl (hb hby d13_4) rfl ?_
    show Steps p.tables e below (s₁.setTop (mkF m 5 #[.val (.ref a), .val (.int p1)] [(.int p1)])) _
    refine XS.aloadN X0.here hx rfl (hb hby d13_5) rfl rfl ?_
    show Steps p.tables e below (s₁.setTop (mkF m 6 #[.val (.ref a), .val (.int p1)] [(.ref a), (.int p1)])) _
    refine st_1 _ ?_
    show Steps p.tables e below (T_1.setTop (mkF m 9 #[.val (.ref a), .val (.int p1)] [(.int (3 : Int32)), (.int p1)])) _
    refine XS.icmpYes X_1.here hx rfl (pc0 := 9) (pc' := 26) rfl (hb hby d13_9) rfl (tlt hc9).1 (by decide) (by decide) ?_
    show Steps p.tables e below (T_1.setTop (mkF m 26 #[.val (.ref a), .val (.int p1)] [])) _
    exact X_1.returnOut hx Bd.returns (hb hby d13_26) hr
  · show Q13 Z  h0 n0 _ T_1.heap _
    rw [e_1]
    exact ⟨rfl, N0, rfl⟩
theorem d14_0 : decode prog_13_method_19_code 0 = .ok (.iload_n 1, 1) := by decide +kernel
theorem d14_1 : decode prog_13_method_19_code 1 = .ok (.ifCond .ne 7, 3) := by decide +kernel
theorem d14_4 : decode prog_13_method_19_code 4 = .ok (.iconst 0, 1) := by decide +kernel
theorem d14_5 : decode prog_13_method_19_code 5 = .ok (.goto 4, 3) := by decide +kernel
theorem d14_9 : decode prog_13_method_19_code 9 = .ok (.istore 4, 2) := by decide +kernel
theorem d14_11 : decode prog_13_method_19_code 11 = .ok (.iload_n 1, 1) := by decide +kernel
theorem d14_12 : decode prog_13_method_19_code 12 = .ok (.ifCond .ne 7, 3) := by decide +kernel
theorem d14_15 : decode prog_13_method_19_code 15 = .ok (.iconst 1, 1) := by decide +kernel
theorem d14_16 : decode prog_13_method_19_code 16 = .ok (.goto 4, 3) := by decide +kernel
theorem d14_20 : decode prog_13_method_19_code 20 = .ok (.istore 5, 2) := by decide +kernel
theorem d14_22 : decode prog_13_method_19_code 22 = .ok (.iload_n 2, 1) := by decide +kernel
theorem d14_23 : decode prog_13_method_19_code 23 = .ok (.iload 4, 2) := by decide +kernel
theorem d14_25 : decode prog_13_method_19_code 25 = .ok (.if_icmp .eq 9, 3) := by decide +kernel
theorem d14_28 : decode prog_13_method_19_code 28 = .ok (.iload_n 3, 1) := by decide +kernel
theorem d14_29 : decode prog_13_method_19_code 29 = .ok (.iload 4, 2) := by decide +kernel
theorem d14_31 : decode prog_13_method_19_code 31 = .ok (.if_icmp .ne 10, 3) := by decide +kernel
theorem d14_41 : decode prog_13_method_19_code 41 = .ok (.iload_n 2, 1) := by decide +kernel
theorem d14_42 : decode prog_13_method_19_code 42 = .ok (.iload 5, 2) := by decide +kernel
theorem d14_44 : decode prog_13_method_19_code 44 = .ok (.if_icmp .eq 8, 3) := by decide +kernel
theorem d14_52 : decode prog_13_method_19_code 52 = .ok (.iload_n 3, 1) := by decide +kernel
theorem d14_53 : decode prog_13_method_19_code 53 = .ok (.istore 6, 2) := by decide +kernel
theorem d14_55 : decode prog_13_method_19_code 55 = .ok (.goto 183, 3) := by decide +kernel
theorem d14_238 : decode prog_13_method_19_code 238 = .ok (.iload 6, 2) := by decide +kernel
theorem d14_240 : decode prog_13_method_19_code 240 = .ok (.ireturn, 1) := by decide +kernel
def Q14_01 (Z : State)  (h0 : Heap) (n0 : Nat) (v : Option Value) (h : Heap) (L : List Loc) : Prop := v = some (.int (2 : Int32)) ∧ Fr n0 L ∧ h = h0
theorem pn_14 : plainName "com/example/cadmus/cadmus/automaton/Bdd" = true := by first | (simp [plainName, overriddenIn]; done) | decide +kernel
theorem ef_14 (m : MethodId) (x0 : Addr) (x1 : Int32) (x2 : Int32) (x3 : Int32) : entryFrame m #[(.ref x0), (.int x1), (.int x2), (.int x3)] 13 = mkF m 0 #[.val (.ref x0), .val (.int x1), .val (.int x2), .val (.int x3), .unset, .unset, .unset, .unset, .unset, .unset, .unset, .unset, .unset] [] := by first | (simp [entryFrame, mkF, argsToLocals, Value.category]; done) | rfl
set_option maxRecDepth 65536 in
set_option maxHeartbeats 40000000 in
theorem rm14_01 (l : Launch) (Z : State) (a0 : Array Value) (hw : ∀ d ∈ tables_1, d.before a0 Z = true) (ws : List Jvm.Cond) (a : Addr) (h0 : Heap) (n0 : Nat) (Z0 : n0 ≤ h0.size)  :
    MetFree l (⟨"com/example/cadmus/cadmus/automaton/Bdd", "apply", "(III)I"⟩ : MethodName) (head1 (Jvm.Cond.code (⟨"com/example/cadmus/cadmus/automaton/Bdd", "apply", "(III)I"⟩ : MethodName) prog_13_method_19_code 13 (some .int) :: ws) ({ frames := 0, cells := 0, slots := 0, locals := 0 } : Room)) (fun as_ U => as_ = #[(.ref a), (.int (0 : Int32)), (.int (1 : Int32)), (.int (2 : Int32))] ∧ Z.Warmed39 U.vm ∧ U.heap = h0) (fun _ _ _ _ _ => True) (fun _ U o U' => ∃ v L, o = .returned v ∧ Q14_01 Z  h0 n0 v U'.heap L ∧ FrameEnd U o U' L ({ frames := 0, cells := 0, slots := 0, locals := 0 } : Room).cells ({ frames := 0, cells := 0, slots := 0, locals := 0 } : Room).slots) := by
  refine MetFree.of_bodySF (plainFor_of_name pn_14) hisR ?_
  intro p e s m args below meth c s₁ Bd hml0 hP hK
  obtain ⟨rfl, hZ, hh⟩ := hP
  have hx := Bd.exec
  have hby := Bd.bytes
  have hml : c.maxLocals = 13 := hml0
  have hown : s.vm.findClass "com/example/cadmus/cadmus/automaton/Bdd" = some m.cls := findClass_of_methodNamed Bd.named
  have hnm := (name_of_methodNamed Bd.named Bd.method).1
  have X0 : Stand p l e ({ frames := 0, cells := 0, slots := 0, locals := 0 } : Room) s m #[(.ref a), (.int (0 : Int32)), (.int (1 : Int32)), (.int (2 : Int32))] below meth c s₁ [] 0 0 := Stand.of_body Bd
  have e0 : s₁.heap = h0 := by rw [← hh, Bd.state]; rfl
  have N0 := Fr.nil n0
  have pre0 : ∀ t, Steps p.tables e below (s₁.setTop (mkF m 0 #[.val (.ref a), .val (.int (0 : Int32)), .val (.int (1 : Int32)), .val (.int (2 : Int32)), .unset, .unset, .unset, .unset, .unset, .unset, .unset, .unset, .unset] [])) t → Steps p.tables e below (s₁.setTop (entryFrame m #[(.ref a), (.int (0 : Int32)), (.int (1 : Int32)), (.int (2 : Int32))] 13)) t := fun t k => castTop (ef_14 m a (0 : Int32) (1 : Int32) (2 : Int32)) k
  obtain ⟨fs, hr, hrun, hended, hW, hsame⟩ := X0.leave (v := some (.int (2 : Int32))) (fun h => by rw [Bd.returns] at h; cases h)
  refine ⟨_, _, pre0 _ ?_, hrun, hended, _, _, rfl, ?_, ⟨_, rfl⟩, hW, hsame.mono (by decide) (by decide)⟩
  · show Steps p.tables e below (s₁.setTop (mkF m 0 #[.val (.ref a), .val (.int (0 : Int32)), .val (.int (1 : Int32)), .val (.int (2 : Int32)), .unset, .unset, .unset, .unset, .unset, .unset, .unset, .unset, .unset] [])) _
    refine XS.iloadN X0.here hx rfl (hb hby d14_0) rfl ?_
    show Steps p.tables e below (s₁.setTop (mkF m 1 #[.val (.ref a), .val (.int (0 : Int32)), .val (.int (1 : Int32)), .val (.int (2 : Int32)), .unset, .unset, .unset, .unset, .unset, .unset, .unset, .unset, .unset] [(.int (0 : Int32))])) _
    refine XS.ifNo X0.here hx rfl (hb hby d14_1) rfl ((if0 _ _).trans (teq ((by decide) : (0 : Int32) = (0 : Int32))).2) ?_
    show Steps p.tables e below (s₁.setTop (mkF m 4 #[.val (.ref a), .val (.int (0 : Int32)), .val (.int (1 : Int32)), .val (.int (2 : Int32)), .unset, .unset, .unset, .unset, .unset, .unset, .unset, .unset, .unset] [])) _
    refine XS.iconst X0.here hx rfl (hb hby d14_4) ?_
    show Steps p.tables e below (s₁.setTop (mkF m 5 #[.val (.ref a), .val (.int (0 : Int32)), .val (.int (1 : Int32)), .val (.int (2 : Int32)), .unset, .unset, .unset, .unset, .unset, .unset, .unset, .unset, .unset] [(.int (0 : Int32))])) _
    refine XS.goto X0.here hx rfl (pc0 := 5) (pc' := 9) rfl (hb hby d14_5) (by decide) (by decide) ?_
    show Steps p.tables e below (s₁.setTop (mkF m 9 #[.val (.ref a), .val (.int (0 : Int32)), .val (.int (1 : Int32)), .val (.int (2 : Int32)), .unset, .unset, .unset, .unset, .unset, .unset, .unset, .unset, .unset] [(.int (0 : Int32))])) _
    refine XS.istore X0.here hx rfl (hb hby d14_9) rfl (l' := #[.val (.ref a), .val (.int (0 : Int32)), .val (.int (1 : Int32)), .val (.int (2 : Int32)), .val (.int (0 : Int32)), .unset, .unset, .unset, .unset, .unset, .unset, .unset, .unset]) rfl ?_
    show Steps p.tables e below (s₁.setTop (mkF m 11 #[.val (.ref a), .val (.int (0 : Int32)), .val (.int (1 : Int32)), .val (.int (2 : Int32)), .val (.int (0 : Int32)), .unset, .unset, .unset, .unset, .unset, .unset, .unset, .unset] [])) _
    refine XS.iloadN X0.here hx rfl (hb hby d14_11) rfl ?_
    show Steps p.tables e below (s₁.setTop (mkF m 12 #[.val (.ref a), .val (.int (0 : Int32)), .val (.int (1 : Int32)), .val (.int (2 : Int32)), .val (.int (0 : Int32)), .unset, .unset, .unset, .unset, .unset, .unset, .unset, .unset] [(.int (0 : Int32))])) _
    refine XS.ifNo X0.here hx rfl (hb hby d14_12) rfl ((if0 _ _).trans (teq ((by decide) : (0 : Int32) = (0 : Int32))).2) ?_
    show Steps p.tables e below (s₁.setTop (mkF m 15 #[.val (.ref a), .val (.int (0 : Int32)), .val (.int (1 : Int32)), .val (.int (2 : Int32)), .val (.int (0 : Int32)), .unset, .unset, .unset, .unset, .unset, .unset, .unset, .unset] [])) _
    refine XS.iconst X0.here hx rfl (hb hby d14_15) ?_
    show Steps p.tables e below (s₁.setTop (mkF m 16 #[.val (.ref a), .val (.int (0 : Int32)), .val (.int (1 : Int32)), .val (.int (2 : Int32)), .val (.int (0 : Int32)), .unset, .unset, .unset, .unset, .unset, .unset, .unset, .unset] [(.int (1 : Int32))])) _
    refine XS.goto X0.here hx rfl (pc0 := 16) (pc' := 20) rfl (hb hby d14_16) (by decide) (by decide) ?_
    show Steps p.tables e below (s₁.setTop (mkF m 20 #[.val (.ref a), .val (.int (0 : Int32)), .val (.int (1 : Int32)), .val (.int (2 : Int32)), .val (.int (0 : Int32)), .unset, .unset, .unset, .unset, .unset, .unset, .unset, .unset] [(.int (1 : Int32))])) _
    refine XS.istore X0.here hx rfl (hb hby d14_20) rfl (l' := #[.val (.ref a), .val (.int (0 : Int32)), .val (.int (1 : Int32)), .val (.int (2 : Int32)), .val (.int (0 : Int32)), .val (.int (1 : Int32)), .unset, .unset, .unset, .unset, .unset, .unset, .unset]) rfl ?_
    show Steps p.tables e below (s₁.setTop (mkF m 22 #[.val (.ref a), .val (.int (0 : Int32)), .val (.int (1 : Int32)), .val (.int (2 : Int32)), .val (.int (0 : Int32)), .val (.int (1 : Int32)), .unset, .unset, .unset, .unset, .unset, .unset, .unset] [])) _
    refine XS.iloadN X0.here hx rfl (hb hby d14_22) rfl ?_
    show Steps p.tables e below (s₁.setTop (mkF m 23 #[.val (.ref a), .val (.int (0 : Int32)), .val (.int (1 : Int32)), .val (.int (2 : Int32)), .val (.int (0 : Int32)), .val (.int (1 : Int32)), .unset, .unset, .unset, .unset, .unset, .unset, .unset] [(.int (1 : Int32))])) _
    refine XS.iload X0.here hx rfl (hb hby d14_23) rfl ?_
    show Steps p.tables e below (s₁.setTop (mkF m 25 #[.val (.ref a), .val (.int (0 : Int32)), .val (.int (1 : Int32)), .val (.int (2 : Int32)), .val (.int (0 : Int32)), .val (.int (1 : Int32)), .unset, .unset, .unset, .unset, .unset, .unset, .unset] [(.int (0 : Int32)), (.int (1 : Int32))])) _
    refine XS.icmpNo X0.here hx rfl (hb hby d14_25) rfl (feq ((by decide) : ¬ ((1 : Int32) = (0 : Int32)))).1 ?_
    show Steps p.tables e below (s₁.setTop (mkF m 28 #[.val (.ref a), .val (.int (0 : Int32)), .val (.int (1 : Int32)), .val (.int (2 : Int32)), .val (.int (0 : Int32)), .val (.int (1 : Int32)), .unset, .unset, .unset, .unset, .unset, .unset, .unset] [])) _
    refine XS.iloadN X0.here hx rfl (hb hby d14_28) rfl ?_
    show Steps p.tables e below (s₁.setTop (mkF m 29 #[.val (.ref a), .val (.int (0 : Int32)), .val (.int (1 : Int32)), .val (.int (2 : Int32)), .val (.int (0 : Int32)), .val (.int (1 : Int32)), .unset, .unset, .unset, .unset, .unset, .unset, .unset] [(.int (2 : Int32))])) _
    refine XS.iload X0.here hx rfl (hb hby d14_29) rfl ?_
    show Steps p.tables e below (s₁.setTop (mkF m 31 #[.val (.ref a), .val (.int (0 : Int32)), .val (.int (1 : Int32)), .val (.int (2 : Int32)), .val (.int (0 : Int32)), .val (.int (1 : Int32)), .unset, .unset, .unset, .unset, .unset, .unset, .unset] [(.int (0 : Int32)), (.int (2 : Int32))])) _
    refine XS.icmpYes X0.here hx rfl (pc0 := 31) (pc' := 41) rfl (hb hby d14_31) rfl (feq ((by decide) : ¬ ((2 : Int32) = (0 : Int32)))).2 (by decide) (by decide) ?_
    show Steps p.tables e below (s₁.setTop (mkF m 41 #[.val (.ref a), .val (.int (0 : Int32)), .val (.int (1 : Int32)), .val (.int (2 : Int32)), .val (.int (0 : Int32)), .val (.int (1 : Int32)), .unset, .unset, .unset, .unset, .unset, .unset, .unset] [])) _
    refine XS.iloadN X0.here hx rfl (hb hby d14_41) rfl ?_
    show Steps p.tables e below (s₁.setTop (mkF m 42 #[.val (.ref a), .val (.int (0 : Int32)), .val (.int (1 : Int32)), .val (.int (2 : Int32)), .val (.int (0 : Int32)), .val (.int (1 : Int32)), .unset, .unset, .unset, .unset, .unset, .unset, .unset] [(.int (1 : Int32))])) _
    refine XS.iload X0.here hx rfl (hb hby d14_42) rfl ?_
    show Steps p.tables e below (s₁.setTop (mkF m 44 #[.val (.ref a), .val (.int (0 : Int32)), .val (.int (1 : Int32)), .val (.int (2 : Int32)), .val (.int (0 : Int32)), .val (.int (1 : Int32)), .unset, .unset, .unset, .unset, .unset, .unset, .unset] [(.int (1 : Int32)), (.int (1 : Int32))])) _
    refine XS.icmpYes X0.here hx rfl (pc0 := 44) (pc' := 52) rfl (hb hby d14_44) rfl (teq ((by decide) : (1 : Int32) = (1 : Int32))).1 (by decide) (by decide) ?_
    show Steps p.tables e below (s₁.setTop (mkF m 52 #[.val (.ref a), .val (.int (0 : Int32)), .val (.int (1 : Int32)), .val (.int (2 : Int32)), .val (.int (0 : Int32)), .val (.int (1 : Int32)), .unset, .unset, .unset, .unset, .unset, .unset, .unset] [])) _
    refine XS.iloadN X0.here hx rfl (hb hby d14_52) rfl ?_
    show Steps p.tables e below (s₁.setTop (mkF m 53 #[.val (.ref a), .val (.int (0 : Int32)), .val (.int (1 : Int32)), .val (.int (2 : Int32)), .val (.int (0 : Int32)), .val (.int (1 : Int32)), .unset, .unset, .unset, .unset, .unset, .unset, .unset] [(.int (2 : Int32))])) _
    refine XS.istore X0.here hx rfl (hb hby d14_53) rfl (l' := #[.val (.ref a), .val (.int (0 : Int32)), .val (.int (1 : Int32)), .val (.int (2 : Int32)), .val (.int (0 : Int32)), .val (.int (1 : Int32)), .val (.int (2 : Int32)), .unset, .unset, .unset, .unset, .unset, .unset]) rfl ?_
    show Steps p.tables e below (s₁.setTop (mkF m 55 #[.val (.ref a), .val (.int (0 : Int32)), .val (.int (1 : Int32)), .val (.int (2 : Int32)), .val (.int (0 : Int32)), .val (.int (1 : Int32)), .val (.int (2 : Int32)), .unset, .unset, .unset, .unset, .unset, .unset] [])) _
    refine XS.goto X0.here hx rfl (pc0 := 55) (pc' := 238) rfl (hb hby d14_55) (by decide) (by decide) ?_
    show Steps p.tables e below (s₁.setTop (mkF m 238 #[.val (.ref a), .val (.int (0 : Int32)), .val (.int (1 : Int32)), .val (.int (2 : Int32)), .val (.int (0 : Int32)), .val (.int (1 : Int32)), .val (.int (2 : Int32)), .unset, .unset, .unset, .unset, .unset, .unset] [])) _
    refine XS.iload X0.here hx rfl (hb hby d14_238) rfl ?_
    show Steps p.tables e below (s₁.setTop (mkF m 240 #[.val (.ref a), .val (.int (0 : Int32)), .val (.int (1 : Int32)), .val (.int (2 : Int32)), .val (.int (0 : Int32)), .val (.int (1 : Int32)), .val (.int (2 : Int32)), .unset, .unset, .unset, .unset, .unset, .unset] [(.int (2 : Int32))])) _
    exact retI X0 hx Bd.returns (hb hby d14_240) hr
  · show Q14_01 Z  h0 n0 _ s₁.heap _
    rw [e0]
    exact ⟨rfl, N0, rfl⟩
theorem d14_8 : decode prog_13_method_19_code 8 = .ok (.iconst 1, 1) := by decide +kernel
theorem d14_19 : decode prog_13_method_19_code 19 = .ok (.iconst 0, 1) := by decide +kernel
theorem d14_34 : decode prog_13_method_19_code 34 = .ok (.iload 4, 2) := by decide +kernel
theorem d14_36 : decode prog_13_method_19_code 36 = .ok (.istore 6, 2) := by decide +kernel
theorem d14_38 : decode prog_13_method_19_code 38 = .ok (.goto 200, 3) := by decide +kernel
def Q14_11 (Z : State)  (h0 : Heap) (n0 : Nat) (v : Option Value) (h : Heap) (L : List Loc) : Prop := v = some (.int (1 : Int32)) ∧ Fr n0 L ∧ h = h0
set_option maxRecDepth 65536 in
set_option maxHeartbeats 40000000 in
theorem rm14_11 (l : Launch) (Z : State) (a0 : Array Value) (hw : ∀ d ∈ tables_1, d.before a0 Z = true) (ws : List Jvm.Cond) (a : Addr) (h0 : Heap) (n0 : Nat) (Z0 : n0 ≤ h0.size)  :
    MetFree l (⟨"com/example/cadmus/cadmus/automaton/Bdd", "apply", "(III)I"⟩ : MethodName) (head1 (Jvm.Cond.code (⟨"com/example/cadmus/cadmus/automaton/Bdd", "apply", "(III)I"⟩ : MethodName) prog_13_method_19_code 13 (some .int) :: ws) ({ frames := 0, cells := 0, slots := 0, locals := 0 } : Room)) (fun as_ U => as_ = #[(.ref a), (.int (1 : Int32)), (.int (1 : Int32)), (.int (2 : Int32))] ∧ Z.Warmed39 U.vm ∧ U.heap = h0) (fun _ _ _ _ _ => True) (fun _ U o U' => ∃ v L, o = .returned v ∧ Q14_11 Z  h0 n0 v U'.heap L ∧ FrameEnd U o U' L ({ frames := 0, cells := 0, slots := 0, locals := 0 } : Room).cells ({ frames := 0, cells := 0, slots := 0, locals := 0 } : Room).slots) := by
  refine MetFree.of_bodySF (plainFor_of_name pn_14) hisR ?_
  intro p e s m args below meth c s₁ Bd hml0 hP hK
  obtain ⟨rfl, hZ, hh⟩ := hP
  have hx := Bd.exec
  have hby := Bd.bytes
  have hml : c.maxLocals = 13 := hml0
  have hown : s.vm.findClass "com/example/cadmus/cadmus/automaton/Bdd" = some m.cls := findClass_of_methodNamed Bd.named
  have hnm := (name_of_methodNamed Bd.named Bd.method).1
  have X0 : Stand p l e ({ frames := 0, cells := 0, slots := 0, locals := 0 } : Room) s m #[(.ref a), (.int (1 : Int32)), (.int (1 : Int32)), (.int (2 : Int32))] below meth c s₁ [] 0 0 := Stand.of_body Bd
  have e0 : s₁.heap = h0 := by rw [← hh, Bd.state]; rfl
  have N0 := Fr.nil n0
  have pre0 : ∀ t, Steps p.tables e below (s₁.setTop (mkF m 0 #[.val (.ref a), .val (.int (1 : Int32)), .val (.int (1 : Int32)), .val (.int (2 : Int32)), .unset, .unset, .unset, .unset, .unset, .unset, .unset, .unset, .unset] [])) t → Steps p.tables e below (s₁.setTop (entryFrame m #[(.ref a), (.int (1 : Int32)), (.int (1 : Int32)), (.int (2 : Int32))] 13)) t := fun t k => castTop (ef_14 m a (1 : Int32) (1 : Int32) (2 : Int32)) k
  obtain ⟨fs, hr, hrun, hended, hW, hsame⟩ := X0.leave (v := some (.int (1 : Int32))) (fun h => by rw [Bd.returns] at h; cases h)
  refine ⟨_, _, pre0 _ ?_, hrun, hended, _, _, rfl, ?_, ⟨_, rfl⟩, hW, hsame.mono (by decide) (by decide)⟩
  · show Steps p.tables e below (s₁.setTop (mkF m 0 #[.val (.ref a), .val (.int (1 : Int32)), .val (.int (1 : Int32)), .val (.int (2 : Int32)), .unset, .unset, .unset, .unset, .unset, .unset, .unset, .unset, .unset] [])) _
    refine XS.iloadN X0.here hx rfl (hb hby d14_0) rfl ?_
    show Steps p.tables e below (s₁.setTop (mkF m 1 #[.val (.ref a), .val (.int (1 : Int32)), .val (.int (1 : Int32)), .val (.int (2 : Int32)), .unset, .unset, .unset, .unset, .unset, .unset, .unset, .unset, .unset] [(.int (1 : Int32))])) _
    refine XS.ifYes X0.here hx rfl (pc0 := 1) (pc' := 8) rfl (hb hby d14_1) rfl ((if0 _ _).trans (feq ((by decide) : ¬ ((1 : Int32) = (0 : Int32)))).2) (by decide) (by decide) ?_
    show Steps p.tables e below (s₁.setTop (mkF m 8 #[.val (.ref a), .val (.int (1 : Int32)), .val (.int (1 : Int32)), .val (.int (2 : Int32)), .unset, .unset, .unset, .unset, .unset, .unset, .unset, .unset, .unset] [])) _
    refine XS.iconst X0.here hx rfl (hb hby d14_8) ?_
    show Steps p.tables e below (s₁.setTop (mkF m 9 #[.val (.ref a), .val (.int (1 : Int32)), .val (.int (1 : Int32)), .val (.int (2 : Int32)), .unset, .unset, .unset, .unset, .unset, .unset, .unset, .unset, .unset] [(.int (1 : Int32))])) _
    refine XS.istore X0.here hx rfl (hb hby d14_9) rfl (l' := #[.val (.ref a), .val (.int (1 : Int32)), .val (.int (1 : Int32)), .val (.int (2 : Int32)), .val (.int (1 : Int32)), .unset, .unset, .unset, .unset, .unset, .unset, .unset, .unset]) rfl ?_
    show Steps p.tables e below (s₁.setTop (mkF m 11 #[.val (.ref a), .val (.int (1 : Int32)), .val (.int (1 : Int32)), .val (.int (2 : Int32)), .val (.int (1 : Int32)), .unset, .unset, .unset, .unset, .unset, .unset, .unset, .unset] [])) _
    refine XS.iloadN X0.here hx rfl (hb hby d14_11) rfl ?_
    show Steps p.tables e below (s₁.setTop (mkF m 12 #[.val (.ref a), .val (.int (1 : Int32)), .val (.int (1 : Int32)), .val (.int (2 : Int32)), .val (.int (1 : Int32)), .unset, .unset, .unset, .unset, .unset, .unset, .unset, .unset] [(.int (1 : Int32))])) _
    refine XS.ifYes X0.here hx rfl (pc0 := 12) (pc' := 19) rfl (hb hby d14_12) rfl ((if0 _ _).trans (feq ((by decide) : ¬ ((1 : Int32) = (0 : Int32)))).2) (by decide) (by decide) ?_
    show Steps p.tables e below (s₁.setTop (mkF m 19 #[.val (.ref a), .val (.int (1 : Int32)), .val (.int (1 : Int32)), .val (.int (2 : Int32)), .val (.int (1 : Int32)), .unset, .unset, .unset, .unset, .unset, .unset, .unset, .unset] [])) _
    refine XS.iconst X0.here hx rfl (hb hby d14_19) ?_
    show Steps p.tables e below (s₁.setTop (mkF m 20 #[.val (.ref a), .val (.int (1 : Int32)), .val (.int (1 : Int32)), .val (.int (2 : Int32)), .val (.int (1 : Int32)), .unset, .unset, .unset, .unset, .unset, .unset, .unset, .unset] [(.int (0 : Int32))])) _
    refine XS.istore X0.here hx rfl (hb hby d14_20) rfl (l' := #[.val (.ref a), .val (.int (1 : Int32)), .val (.int (1 : Int32)), .val (.int (2 : Int32)), .val (.int (1 : Int32)), .val (.int (0 : Int32)), .unset, .unset, .unset, .unset, .unset, .unset, .unset]) rfl ?_
    show Steps p.tables e below (s₁.setTop (mkF m 22 #[.val (.ref a), .val (.int (1 : Int32)), .val (.int (1 : Int32)), .val (.int (2 : Int32)), .val (.int (1 : Int32)), .val (.int (0 : Int32)), .unset, .unset, .unset, .unset, .unset, .unset, .unset] [])) _
    refine XS.iloadN X0.here hx rfl (hb hby d14_22) rfl ?_
    show Steps p.tables e below (s₁.setTop (mkF m 23 #[.val (.ref a), .val (.int (1 : Int32)), .val (.int (1 : Int32)), .val (.int (2 : Int32)), .val (.int (1 : Int32)), .val (.int (0 : Int32)), .unset, .unset, .unset, .unset, .unset, .unset, .unset] [(.int (1 : Int32))])) _
    refine XS.iload X0.here hx rfl (hb hby d14_23) rfl ?_
    show Steps p.tables e below (s₁.setTop (mkF m 25 #[.val (.ref a), .val (.int (1 : Int32)), .val (.int (1 : Int32)), .val (.int (2 : Int32)), .val (.int (1 : Int32)), .val (.int (0 : Int32)), .unset, .unset, .unset, .unset, .unset, .unset, .unset] [(.int (1 : Int32)), (.int (1 : Int32))])) _
    refine XS.icmpYes X0.here hx rfl (pc0 := 25) (pc' := 34) rfl (hb hby d14_25) rfl (teq ((by decide) : (1 : Int32) = (1 : Int32))).1 (by decide) (by decide) ?_
    show Steps p.tables e below (s₁.setTop (mkF m 34 #[.val (.ref a), .val (.int (1 : Int32)), .val (.int (1 : Int32)), .val (.int (2 : Int32)), .val (.int (1 : Int32)), .val (.int (0 : Int32)), .unset, .unset, .unset, .unset, .unset, .unset, .unset] [])) _
    refine XS.iload X0.here hx rfl (hb hby d14_34) rfl ?_
    show Steps p.tables e below (s₁.setTop (mkF m 36 #[.val (.ref a), .val (.int (1 : Int32)), .val (.int (1 : Int32)), .val (.int (2 : Int32)), .val (.int (1 : Int32)), .val (.int (0 : Int32)), .unset, .unset, .unset, .unset, .unset, .unset, .unset] [(.int (1 : Int32))])) _
    refine XS.istore X0.here hx rfl (hb hby d14_36) rfl (l' := #[.val (.ref a), .val (.int (1 : Int32)), .val (.int (1 : Int32)), .val (.int (2 : Int32)), .val (.int (1 : Int32)), .val (.int (0 : Int32)), .val (.int (1 : Int32)), .unset, .unset, .unset, .unset, .unset, .unset]) rfl ?_
    show Steps p.tables e below (s₁.setTop (mkF m 38 #[.val (.ref a), .val (.int (1 : Int32)), .val (.int (1 : Int32)), .val (.int (2 : Int32)), .val (.int (1 : Int32)), .val (.int (0 : Int32)), .val (.int (1 : Int32)), .unset, .unset, .unset, .unset, .unset, .unset] [])) _
    refine XS.goto X0.here hx rfl (pc0 := 38) (pc' := 238) rfl (hb hby d14_38) (by decide) (by decide) ?_
    show Steps p.tables e below (s₁.setTop (mkF m 238 #[.val (.ref a), .val (.int (1 : Int32)), .val (.int (1 : Int32)), .val (.int (2 : Int32)), .val (.int (1 : Int32)), .val (.int (0 : Int32)), .val (.int (1 : Int32)), .unset, .unset, .unset, .unset, .unset, .unset] [])) _
    refine XS.iload X0.here hx rfl (hb hby d14_238) rfl ?_
    show Steps p.tables e below (s₁.setTop (mkF m 240 #[.val (.ref a), .val (.int (1 : Int32)), .val (.int (1 : Int32)), .val (.int (2 : Int32)), .val (.int (1 : Int32)), .val (.int (0 : Int32)), .val (.int (1 : Int32)), .unset, .unset, .unset, .unset, .unset, .unset] [(.int (1 : Int32))])) _
    exact retI X0 hx Bd.returns (hb hby d14_240) hr
  · show Q14_11 Z  h0 n0 _ s₁.heap _
    rw [e0]
    exact ⟨rfl, N0, rfl⟩
def Q14_00 (Z : State)  (h0 : Heap) (n0 : Nat) (v : Option Value) (h : Heap) (L : List Loc) : Prop := v = some (.int (0 : Int32)) ∧ Fr n0 L ∧ h = h0
set_option maxRecDepth 65536 in
set_option maxHeartbeats 40000000 in
theorem rm14_00 (l : Launch) (Z : State) (a0 : Array Value) (hw : ∀ d ∈ tables_1, d.before a0 Z = true) (ws : List Jvm.Cond) (a : Addr) (h0 : Heap) (n0 : Nat) (Z0 : n0 ≤ h0.size)  :
    MetFree l (⟨"com/example/cadmus/cadmus/automaton/Bdd", "apply", "(III)I"⟩ : MethodName) (head1 (Jvm.Cond.code (⟨"com/example/cadmus/cadmus/automaton/Bdd", "apply", "(III)I"⟩ : MethodName) prog_13_method_19_code 13 (some .int) :: ws) ({ frames := 0, cells := 0, slots := 0, locals := 0 } : Room)) (fun as_ U => as_ = #[(.ref a), (.int (0 : Int32)), (.int (0 : Int32)), (.int (2 : Int32))] ∧ Z.Warmed39 U.vm ∧ U.heap = h0) (fun _ _ _ _ _ => True) (fun _ U o U' => ∃ v L, o = .returned v ∧ Q14_00 Z  h0 n0 v U'.heap L ∧ FrameEnd U o U' L ({ frames := 0, cells := 0, slots := 0, locals := 0 } : Room).cells ({ frames := 0, cells := 0, slots := 0, locals := 0 } : Room).slots) := by
  refine MetFree.of_bodySF (plainFor_of_name pn_14) hisR ?_
  intro p e s m args below meth c s₁ Bd hml0 hP hK
  obtain ⟨rfl, hZ, hh⟩ := hP
  have hx := Bd.exec
  have hby := Bd.bytes
  have hml : c.maxLocals = 13 := hml0
  have hown : s.vm.findClass "com/example/cadmus/cadmus/automaton/Bdd" = some m.cls := findClass_of_methodNamed Bd.named
  have hnm := (name_of_methodNamed Bd.named Bd.method).1
  have X0 : Stand p l e ({ frames := 0, cells := 0, slots := 0, locals := 0 } : Room) s m #[(.ref a), (.int (0 : Int32)), (.int (0 : Int32)), (.int (2 : Int32))] below meth c s₁ [] 0 0 := Stand.of_body Bd
  have e0 : s₁.heap = h0 := by rw [← hh, Bd.state]; rfl
  have N0 := Fr.nil n0
  have pre0 : ∀ t, Steps p.tables e below (s₁.setTop (mkF m 0 #[.val (.ref a), .val (.int (0 : Int32)), .val (.int (0 : Int32)), .val (.int (2 : Int32)), .unset, .unset, .unset, .unset, .unset, .unset, .unset, .unset, .unset] [])) t → Steps p.tables e below (s₁.setTop (entryFrame m #[(.ref a), (.int (0 : Int32)), (.int (0 : Int32)), (.int (2 : Int32))] 13)) t := fun t k => castTop (ef_14 m a (0 : Int32) (0 : Int32) (2 : Int32)) k
  obtain ⟨fs, hr, hrun, hended, hW, hsame⟩ := X0.leave (v := some (.int (0 : Int32))) (fun h => by rw [Bd.returns] at h; cases h)
  refine ⟨_, _, pre0 _ ?_, hrun, hended, _, _, rfl, ?_, ⟨_, rfl⟩, hW, hsame.mono (by decide) (by decide)⟩
  · show Steps p.tables e below (s₁.setTop (mkF m 0 #[.val (.ref a), .val (.int (0 : Int32)), .val (.int (0 : Int32)), .val (.int (2 : Int32)), .unset, .unset, .unset, .unset, .unset, .unset, .unset, .unset, .unset] [])) _
    refine XS.iloadN X0.here hx rfl (hb hby d14_0) rfl ?_
    show Steps p.tables e below (s₁.setTop (mkF m 1 #[.val (.ref a), .val (.int (0 : Int32)), .val (.int (0 : Int32)), .val (.int (2 : Int32)), .unset, .unset, .unset, .unset, .unset, .unset, .unset, .unset, .unset] [(.int (0 : Int32))])) _
    refine XS.ifNo X0.here hx rfl (hb hby d14_1) rfl ((if0 _ _).trans (teq ((by decide) : (0 : Int32) = (0 : Int32))).2) ?_
    show Steps p.tables e below (s₁.setTop (mkF m 4 #[.val (.ref a), .val (.int (0 : Int32)), .val (.int (0 : Int32)), .val (.int (2 : Int32)), .unset, .unset, .unset, .unset, .unset, .unset, .unset, .unset, .unset] [])) _
    refine XS.iconst X0.here hx rfl (hb hby d14_4) ?_
    show Steps p.tables e below (s₁.setTop (mkF m 5 #[.val (.ref a), .val (.int (0 : Int32)), .val (.int (0 : Int32)), .val (.int (2 : Int32)), .unset, .unset, .unset, .unset, .unset, .unset, .unset, .unset, .unset] [(.int (0 : Int32))])) _
    refine XS.goto X0.here hx rfl (pc0 := 5) (pc' := 9) rfl (hb hby d14_5) (by decide) (by decide) ?_
    show Steps p.tables e below (s₁.setTop (mkF m 9 #[.val (.ref a), .val (.int (0 : Int32)), .val (.int (0 : Int32)), .val (.int (2 : Int32)), .unset, .unset, .unset, .unset, .unset, .unset, .unset, .unset, .unset] [(.int (0 : Int32))])) _
    refine XS.istore X0.here hx rfl (hb hby d14_9) rfl (l' := #[.val (.ref a), .val (.int (0 : Int32)), .val (.int (0 : Int32)), .val (.int (2 : Int32)), .val (.int (0 : Int32)), .unset, .unset, .unset, .unset, .unset, .unset, .unset, .unset]) rfl ?_
    show Steps p.tables e below (s₁.setTop (mkF m 11 #[.val (.ref a), .val (.int (0 : Int32)), .val (.int (0 : Int32)), .val (.int (2 : Int32)), .val (.int (0 : Int32)), .unset, .unset, .unset, .unset, .unset, .unset, .unset, .unset] [])) _
    refine XS.iloadN X0.here hx rfl (hb hby d14_11) rfl ?_
    show Steps p.tables e below (s₁.setTop (mkF m 12 #[.val (.ref a), .val (.int (0 : Int32)), .val (.int (0 : Int32)), .val (.int (2 : Int32)), .val (.int (0 : Int32)), .unset, .unset, .unset, .unset, .unset, .unset, .unset, .unset] [(.int (0 : Int32))])) _
    refine XS.ifNo X0.here hx rfl (hb hby d14_12) rfl ((if0 _ _).trans (teq ((by decide) : (0 : Int32) = (0 : Int32))).2) ?_
    show Steps p.tables e below (s₁.setTop (mkF m 15 #[.val (.ref a), .val (.int (0 : Int32)), .val (.int (0 : Int32)), .val (.int (2 : Int32)), .val (.int (0 : Int32)), .unset, .unset, .unset, .unset, .unset, .unset, .unset, .unset] [])) _
    refine XS.iconst X0.here hx rfl (hb hby d14_15) ?_
    show Steps p.tables e below (s₁.setTop (mkF m 16 #[.val (.ref a), .val (.int (0 : Int32)), .val (.int (0 : Int32)), .val (.int (2 : Int32)), .val (.int (0 : Int32)), .unset, .unset, .unset, .unset, .unset, .unset, .unset, .unset] [(.int (1 : Int32))])) _
    refine XS.goto X0.here hx rfl (pc0 := 16) (pc' := 20) rfl (hb hby d14_16) (by decide) (by decide) ?_
    show Steps p.tables e below (s₁.setTop (mkF m 20 #[.val (.ref a), .val (.int (0 : Int32)), .val (.int (0 : Int32)), .val (.int (2 : Int32)), .val (.int (0 : Int32)), .unset, .unset, .unset, .unset, .unset, .unset, .unset, .unset] [(.int (1 : Int32))])) _
    refine XS.istore X0.here hx rfl (hb hby d14_20) rfl (l' := #[.val (.ref a), .val (.int (0 : Int32)), .val (.int (0 : Int32)), .val (.int (2 : Int32)), .val (.int (0 : Int32)), .val (.int (1 : Int32)), .unset, .unset, .unset, .unset, .unset, .unset, .unset]) rfl ?_
    show Steps p.tables e below (s₁.setTop (mkF m 22 #[.val (.ref a), .val (.int (0 : Int32)), .val (.int (0 : Int32)), .val (.int (2 : Int32)), .val (.int (0 : Int32)), .val (.int (1 : Int32)), .unset, .unset, .unset, .unset, .unset, .unset, .unset] [])) _
    refine XS.iloadN X0.here hx rfl (hb hby d14_22) rfl ?_
    show Steps p.tables e below (s₁.setTop (mkF m 23 #[.val (.ref a), .val (.int (0 : Int32)), .val (.int (0 : Int32)), .val (.int (2 : Int32)), .val (.int (0 : Int32)), .val (.int (1 : Int32)), .unset, .unset, .unset, .unset, .unset, .unset, .unset] [(.int (0 : Int32))])) _
    refine XS.iload X0.here hx rfl (hb hby d14_23) rfl ?_
    show Steps p.tables e below (s₁.setTop (mkF m 25 #[.val (.ref a), .val (.int (0 : Int32)), .val (.int (0 : Int32)), .val (.int (2 : Int32)), .val (.int (0 : Int32)), .val (.int (1 : Int32)), .unset, .unset, .unset, .unset, .unset, .unset, .unset] [(.int (0 : Int32)), (.int (0 : Int32))])) _
    refine XS.icmpYes X0.here hx rfl (pc0 := 25) (pc' := 34) rfl (hb hby d14_25) rfl (teq ((by decide) : (0 : Int32) = (0 : Int32))).1 (by decide) (by decide) ?_
    show Steps p.tables e below (s₁.setTop (mkF m 34 #[.val (.ref a), .val (.int (0 : Int32)), .val (.int (0 : Int32)), .val (.int (2 : Int32)), .val (.int (0 : Int32)), .val (.int (1 : Int32)), .unset, .unset, .unset, .unset, .unset, .unset, .unset] [])) _
    refine XS.iload X0.here hx rfl (hb hby d14_34) rfl ?_
    show Steps p.tables e below (s₁.setTop (mkF m 36 #[.val (.ref a), .val (.int (0 : Int32)), .val (.int (0 : Int32)), .val (.int (2 : Int32)), .val (.int (0 : Int32)), .val (.int (1 : Int32)), .unset, .unset, .unset, .unset, .unset, .unset, .unset] [(.int (0 : Int32))])) _
    refine XS.istore X0.here hx rfl (hb hby d14_36) rfl (l' := #[.val (.ref a), .val (.int (0 : Int32)), .val (.int (0 : Int32)), .val (.int (2 : Int32)), .val (.int (0 : Int32)), .val (.int (1 : Int32)), .val (.int (0 : Int32)), .unset, .unset, .unset, .unset, .unset, .unset]) rfl ?_
    show Steps p.tables e below (s₁.setTop (mkF m 38 #[.val (.ref a), .val (.int (0 : Int32)), .val (.int (0 : Int32)), .val (.int (2 : Int32)), .val (.int (0 : Int32)), .val (.int (1 : Int32)), .val (.int (0 : Int32)), .unset, .unset, .unset, .unset, .unset, .unset] [])) _
    refine XS.goto X0.here hx rfl (pc0 := 38) (pc' := 238) rfl (hb hby d14_38) (by decide) (by decide) ?_
    show Steps p.tables e below (s₁.setTop (mkF m 238 #[.val (.ref a), .val (.int (0 : Int32)), .val (.int (0 : Int32)), .val (.int (2 : Int32)), .val (.int (0 : Int32)), .val (.int (1 : Int32)), .val (.int (0 : Int32)), .unset, .unset, .unset, .unset, .unset, .unset] [])) _
    refine XS.iload X0.here hx rfl (hb hby d14_238) rfl ?_
    show Steps p.tables e below (s₁.setTop (mkF m 240 #[.val (.ref a), .val (.int (0 : Int32)), .val (.int (0 : Int32)), .val (.int (2 : Int32)), .val (.int (0 : Int32)), .val (.int (1 : Int32)), .val (.int (0 : Int32)), .unset, .unset, .unset, .unset, .unset, .unset] [(.int (0 : Int32))])) _
    exact retI X0 hx Bd.returns (hb hby d14_240) hr
  · show Q14_00 Z  h0 n0 _ s₁.heap _
    rw [e0]
    exact ⟨rfl, N0, rfl⟩
def Q14_10 (Z : State)  (h0 : Heap) (n0 : Nat) (v : Option Value) (h : Heap) (L : List Loc) : Prop := v = some (.int (2 : Int32)) ∧ Fr n0 L ∧ h = h0
set_option maxRecDepth 65536 in
set_option maxHeartbeats 40000000 in
theorem rm14_10 (l : Launch) (Z : State) (a0 : Array Value) (hw : ∀ d ∈ tables_1, d.before a0 Z = true) (ws : List Jvm.Cond) (a : Addr) (h0 : Heap) (n0 : Nat) (Z0 : n0 ≤ h0.size)  :
    MetFree l (⟨"com/example/cadmus/cadmus/automaton/Bdd", "apply", "(III)I"⟩ : MethodName) (head1 (Jvm.Cond.code (⟨"com/example/cadmus/cadmus/automaton/Bdd", "apply", "(III)I"⟩ : MethodName) prog_13_method_19_code 13 (some .int) :: ws) ({ frames := 0, cells := 0, slots := 0, locals := 0 } : Room)) (fun as_ U => as_ = #[(.ref a), (.int (1 : Int32)), (.int (0 : Int32)), (.int (2 : Int32))] ∧ Z.Warmed39 U.vm ∧ U.heap = h0) (fun _ _ _ _ _ => True) (fun _ U o U' => ∃ v L, o = .returned v ∧ Q14_10 Z  h0 n0 v U'.heap L ∧ FrameEnd U o U' L ({ frames := 0, cells := 0, slots := 0, locals := 0 } : Room).cells ({ frames := 0, cells := 0, slots := 0, locals := 0 } : Room).slots) := by
  refine MetFree.of_bodySF (plainFor_of_name pn_14) hisR ?_
  intro p e s m args below meth c s₁ Bd hml0 hP hK
  obtain ⟨rfl, hZ, hh⟩ := hP
  have hx := Bd.exec
  have hby := Bd.bytes
  have hml : c.maxLocals = 13 := hml0
  have hown : s.vm.findClass "com/example/cadmus/cadmus/automaton/Bdd" = some m.cls := findClass_of_methodNamed Bd.named
  have hnm := (name_of_methodNamed Bd.named Bd.method).1
  have X0 : Stand p l e ({ frames := 0, cells := 0, slots := 0, locals := 0 } : Room) s m #[(.ref a), (.int (1 : Int32)), (.int (0 : Int32)), (.int (2 : Int32))] below meth c s₁ [] 0 0 := Stand.of_body Bd
  have e0 : s₁.heap = h0 := by rw [← hh, Bd.state]; rfl
  have N0 := Fr.nil n0
  have pre0 : ∀ t, Steps p.tables e below (s₁.setTop (mkF m 0 #[.val (.ref a), .val (.int (1 : Int32)), .val (.int (0 : Int32)), .val (.int (2 : Int32)), .unset, .unset, .unset, .unset, .unset, .unset, .unset, .unset, .unset] [])) t → Steps p.tables e below (s₁.setTop (entryFrame m #[(.ref a), (.int (1 : Int32)), (.int (0 : Int32)), (.int (2 : Int32))] 13)) t := fun t k => castTop (ef_14 m a (1 : Int32) (0 : Int32) (2 : Int32)) k
  obtain ⟨fs, hr, hrun, hended, hW, hsame⟩ := X0.leave (v := some (.int (2 : Int32))) (fun h => by rw [Bd.returns] at h; cases h)
  refine ⟨_, _, pre0 _ ?_, hrun, hended, _, _, rfl, ?_, ⟨_, rfl⟩, hW, hsame.mono (by decide) (by decide)⟩
  · show Steps p.tables e below (s₁.setTop (mkF m 0 #[.val (.ref a), .val (.int (1 : Int32)), .val (.int (0 : Int32)), .val (.int (2 : Int32)), .unset, .unset, .unset, .unset, .unset, .unset, .unset, .unset, .unset] [])) _
    refine XS.iloadN X0.here hx rfl (hb hby d14_0) rfl ?_
    show Steps p.tables e below (s₁.setTop (mkF m 1 #[.val (.ref a), .val (.int (1 : Int32)), .val (.int (0 : Int32)), .val (.int (2 : Int32)), .unset, .unset, .unset, .unset, .unset, .unset, .unset, .unset, .unset] [(.int (1 : Int32))])) _
    refine XS.ifYes X0.here hx rfl (pc0 := 1) (pc' := 8) rfl (hb hby d14_1) rfl ((if0 _ _).trans (feq ((by decide) : ¬ ((1 : Int32) = (0 : Int32)))).2) (by decide) (by decide) ?_
    show Steps p.tables e below (s₁.setTop (mkF m 8 #[.val (.ref a), .val (.int (1 : Int32)), .val (.int (0 : Int32)), .val (.int (2 : Int32)), .unset, .unset, .unset, .unset, .unset, .unset, .unset, .unset, .unset] [])) _
    refine XS.iconst X0.here hx rfl (hb hby d14_8) ?_
    show Steps p.tables e below (s₁.setTop (mkF m 9 #[.val (.ref a), .val (.int (1 : Int32)), .val (.int (0 : Int32)), .val (.int (2 : Int32)), .unset, .unset, .unset, .unset, .unset, .unset, .unset, .unset, .unset] [(.int (1 : Int32))])) _
    refine XS.istore X0.here hx rfl (hb hby d14_9) rfl (l' := #[.val (.ref a), .val (.int (1 : Int32)), .val (.int (0 : Int32)), .val (.int (2 : Int32)), .val (.int (1 : Int32)), .unset, .unset, .unset, .unset, .unset, .unset, .unset, .unset]) rfl ?_
    show Steps p.tables e below (s₁.setTop (mkF m 11 #[.val (.ref a), .val (.int (1 : Int32)), .val (.int (0 : Int32)), .val (.int (2 : Int32)), .val (.int (1 : Int32)), .unset, .unset, .unset, .unset, .unset, .unset, .unset, .unset] [])) _
    refine XS.iloadN X0.here hx rfl (hb hby d14_11) rfl ?_
    show Steps p.tables e below (s₁.setTop (mkF m 12 #[.val (.ref a), .val (.int (1 : Int32)), .val (.int (0 : Int32)), .val (.int (2 : Int32)), .val (.int (1 : Int32)), .unset, .unset, .unset, .unset, .unset, .unset, .unset, .unset] [(.int (1 : Int32))])) _
    refine XS.ifYes X0.here hx rfl (pc0 := 12) (pc' := 19) rfl (hb hby d14_12) rfl ((if0 _ _).trans (feq ((by decide) : ¬ ((1 : Int32) = (0 : Int32)))).2) (by decide) (by decide) ?_
    show Steps p.tables e below (s₁.setTop (mkF m 19 #[.val (.ref a), .val (.int (1 : Int32)), .val (.int (0 : Int32)), .val (.int (2 : Int32)), .val (.int (1 : Int32)), .unset, .unset, .unset, .unset, .unset, .unset, .unset, .unset] [])) _
    refine XS.iconst X0.here hx rfl (hb hby d14_19) ?_
    show Steps p.tables e below (s₁.setTop (mkF m 20 #[.val (.ref a), .val (.int (1 : Int32)), .val (.int (0 : Int32)), .val (.int (2 : Int32)), .val (.int (1 : Int32)), .unset, .unset, .unset, .unset, .unset, .unset, .unset, .unset] [(.int (0 : Int32))])) _
    refine XS.istore X0.here hx rfl (hb hby d14_20) rfl (l' := #[.val (.ref a), .val (.int (1 : Int32)), .val (.int (0 : Int32)), .val (.int (2 : Int32)), .val (.int (1 : Int32)), .val (.int (0 : Int32)), .unset, .unset, .unset, .unset, .unset, .unset, .unset]) rfl ?_
    show Steps p.tables e below (s₁.setTop (mkF m 22 #[.val (.ref a), .val (.int (1 : Int32)), .val (.int (0 : Int32)), .val (.int (2 : Int32)), .val (.int (1 : Int32)), .val (.int (0 : Int32)), .unset, .unset, .unset, .unset, .unset, .unset, .unset] [])) _
    refine XS.iloadN X0.here hx rfl (hb hby d14_22) rfl ?_
    show Steps p.tables e below (s₁.setTop (mkF m 23 #[.val (.ref a), .val (.int (1 : Int32)), .val (.int (0 : Int32)), .val (.int (2 : Int32)), .val (.int (1 : Int32)), .val (.int (0 : Int32)), .unset, .unset, .unset, .unset, .unset, .unset, .unset] [(.int (0 : Int32))])) _
    refine XS.iload X0.here hx rfl (hb hby d14_23) rfl ?_
    show Steps p.tables e below (s₁.setTop (mkF m 25 #[.val (.ref a), .val (.int (1 : Int32)), .val (.int (0 : Int32)), .val (.int (2 : Int32)), .val (.int (1 : Int32)), .val (.int (0 : Int32)), .unset, .unset, .unset, .unset, .unset, .unset, .unset] [(.int (1 : Int32)), (.int (0 : Int32))])) _
    refine XS.icmpNo X0.here hx rfl (hb hby d14_25) rfl (feq ((by decide) : ¬ ((0 : Int32) = (1 : Int32)))).1 ?_
    show Steps p.tables e below (s₁.setTop (mkF m 28 #[.val (.ref a), .val (.int (1 : Int32)), .val (.int (0 : Int32)), .val (.int (2 : Int32)), .val (.int (1 : Int32)), .val (.int (0 : Int32)), .unset, .unset, .unset, .unset, .unset, .unset, .unset] [])) _
    refine XS.iloadN X0.here hx rfl (hb hby d14_28) rfl ?_
    show Steps p.tables e below (s₁.setTop (mkF m 29 #[.val (.ref a), .val (.int (1 : Int32)), .val (.int (0 : Int32)), .val (.int (2 : Int32)), .val (.int (1 : Int32)), .val (.int (0 : Int32)), .unset, .unset, .unset, .unset, .unset, .unset, .unset] [(.int (2 : Int32))])) _
    refine XS.iload X0.here hx rfl (hb hby d14_29) rfl ?_
    show Steps p.tables e below (s₁.setTop (mkF m 31 #[.val (.ref a), .val (.int (1 : Int32)), .val (.int (0 : Int32)), .val (.int (2 : Int32)), .val (.int (1 : Int32)), .val (.int (0 : Int32)), .unset, .unset, .unset, .unset, .unset, .unset, .unset] [(.int (1 : Int32)), (.int (2 : Int32))])) _
    refine XS.icmpYes X0.here hx rfl (pc0 := 31) (pc' := 41) rfl (hb hby d14_31) rfl (feq ((by decide) : ¬ ((2 : Int32) = (1 : Int32)))).2 (by decide) (by decide) ?_
    show Steps p.tables e below (s₁.setTop (mkF m 41 #[.val (.ref a), .val (.int (1 : Int32)), .val (.int (0 : Int32)), .val (.int (2 : Int32)), .val (.int (1 : Int32)), .val (.int (0 : Int32)), .unset, .unset, .unset, .unset, .unset, .unset, .unset] [])) _
    refine XS.iloadN X0.here hx rfl (hb hby d14_41) rfl ?_
    show Steps p.tables e below (s₁.setTop (mkF m 42 #[.val (.ref a), .val (.int (1 : Int32)), .val (.int (0 : Int32)), .val (.int (2 : Int32)), .val (.int (1 : Int32)), .val (.int (0 : Int32)), .unset, .unset, .unset, .unset, .unset, .unset, .unset] [(.int (0 : Int32))])) _
    refine XS.iload X0.here hx rfl (hb hby d14_42) rfl ?_
    show Steps p.tables e below (s₁.setTop (mkF m 44 #[.val (.ref a), .val (.int (1 : Int32)), .val (.int (0 : Int32)), .val (.int (2 : Int32)), .val (.int (1 : Int32)), .val (.int (0 : Int32)), .unset, .unset, .unset, .unset, .unset, .unset, .unset] [(.int (0 : Int32)), (.int (0 : Int32))])) _
    refine XS.icmpYes X0.here hx rfl (pc0 := 44) (pc' := 52) rfl (hb hby d14_44) rfl (teq ((by decide) : (0 : Int32) = (0 : Int32))).1 (by decide) (by decide) ?_
    show Steps p.tables e below (s₁.setTop (mkF m 52 #[.val (.ref a), .val (.int (1 : Int32)), .val (.int (0 : Int32)), .val (.int (2 : Int32)), .val (.int (1 : Int32)), .val (.int (0 : Int32)), .unset, .unset, .unset, .unset, .unset, .unset, .unset] [])) _
    refine XS.iloadN X0.here hx rfl (hb hby d14_52) rfl ?_
    show Steps p.tables e below (s₁.setTop (mkF m 53 #[.val (.ref a), .val (.int (1 : Int32)), .val (.int (0 : Int32)), .val (.int (2 : Int32)), .val (.int (1 : Int32)), .val (.int (0 : Int32)), .unset, .unset, .unset, .unset, .unset, .unset, .unset] [(.int (2 : Int32))])) _
    refine XS.istore X0.here hx rfl (hb hby d14_53) rfl (l' := #[.val (.ref a), .val (.int (1 : Int32)), .val (.int (0 : Int32)), .val (.int (2 : Int32)), .val (.int (1 : Int32)), .val (.int (0 : Int32)), .val (.int (2 : Int32)), .unset, .unset, .unset, .unset, .unset, .unset]) rfl ?_
    show Steps p.tables e below (s₁.setTop (mkF m 55 #[.val (.ref a), .val (.int (1 : Int32)), .val (.int (0 : Int32)), .val (.int (2 : Int32)), .val (.int (1 : Int32)), .val (.int (0 : Int32)), .val (.int (2 : Int32)), .unset, .unset, .unset, .unset, .unset, .unset] [])) _
    refine XS.goto X0.here hx rfl (pc0 := 55) (pc' := 238) rfl (hb hby d14_55) (by decide) (by decide) ?_
    show Steps p.tables e below (s₁.setTop (mkF m 238 #[.val (.ref a), .val (.int (1 : Int32)), .val (.int (0 : Int32)), .val (.int (2 : Int32)), .val (.int (1 : Int32)), .val (.int (0 : Int32)), .val (.int (2 : Int32)), .unset, .unset, .unset, .unset, .unset, .unset] [])) _
    refine XS.iload X0.here hx rfl (hb hby d14_238) rfl ?_
    show Steps p.tables e below (s₁.setTop (mkF m 240 #[.val (.ref a), .val (.int (1 : Int32)), .val (.int (0 : Int32)), .val (.int (2 : Int32)), .val (.int (1 : Int32)), .val (.int (0 : Int32)), .val (.int (2 : Int32)), .unset, .unset, .unset, .unset, .unset, .unset] [(.int (2 : Int32))])) _
    exact retI X0 hx Bd.returns (hb hby d14_240) hr
  · show Q14_10 Z  h0 n0 _ s₁.heap _
    rw [e0]
    exact ⟨rfl, N0, rfl⟩
theorem d12_0 : decode prog_13_method_5_code 0 = .ok (.aload_n 0, 1) := by decide +kernel
theorem d12_1 : decode prog_13_method_5_code 1 = .ok (.iload_n 1, 1) := by decide +kernel
theorem pd_4 : parseMethodDescriptor "(I)V" = some ⟨[.int], none⟩ := by decide +kernel
theorem d12_2 : decode prog_13_method_5_code 2 = .ok (.invokevirtual 66, 3) := by decide +kernel
theorem d12_5 : decode prog_13_method_5_code 5 = .ok (.aload_n 0, 1) := by decide +kernel
theorem d12_6 : decode prog_13_method_5_code 6 = .ok (.iload_n 2, 1) := by decide +kernel
theorem d12_7 : decode prog_13_method_5_code 7 = .ok (.invokevirtual 66, 3) := by decide +kernel
theorem d12_10 : decode prog_13_method_5_code 10 = .ok (.aload_n 0, 1) := by decide +kernel
theorem d12_11 : decode prog_13_method_5_code 11 = .ok (.iconst 0, 1) := by decide +kernel
theorem d12_12 : decode prog_13_method_5_code 12 = .ok (.iload_n 1, 1) := by decide +kernel
theorem d12_13 : decode prog_13_method_5_code 13 = .ok (.iload_n 2, 1) := by decide +kernel
theorem d12_14 : decode prog_13_method_5_code 14 = .ok (.invokevirtual 74, 3) := by decide +kernel
theorem d12_17 : decode prog_13_method_5_code 17 = .ok (.ireturn, 1) := by decide +kernel
def Q12_0 (Z : State)  (h0 : Heap) (n0 : Nat) (v : Option Value) (h : Heap) (L : List Loc) : Prop := v = some (.int (0 : Int32)) ∧ Fr n0 L ∧ h = h0
theorem pn_12 : plainName "com/example/cadmus/cadmus/automaton/Bdd" = true := by first | (simp [plainName, overriddenIn]; done) | decide +kernel
theorem ef_12 (m : MethodId) (x0 : Addr) (x1 : Int32) (x2 : Int32) : entryFrame m #[(.ref x0), (.int x1), (.int x2)] 3 = mkF m 0 #[.val (.ref x0), .val (.int x1), .val (.int x2)] [] := by first | (simp [entryFrame, mkF, argsToLocals, Value.category]; done) | rfl
set_option maxRecDepth 65536 in
set_option maxHeartbeats 40000000 in
theorem rm12_0 (l : Launch) (Z : State) (a0 : Array Value) (hw : ∀ d ∈ tables_1, d.before a0 Z = true) (ws : List Jvm.Cond) (a : Addr) (h0 : Heap) (n0 : Nat) (Z0 : n0 ≤ h0.size) (E_a : Exa Z h0 a "com/example/cadmus/cadmus/automaton/Bdd") (F_s : Fld Z h0 a "com/example/cadmus/cadmus/automaton/Bdd" "size" "I" (.int (3 : Int32))) :
    MetFree l (⟨"com/example/cadmus/cadmus/automaton/Bdd", "and", "(II)I"⟩ : MethodName) (head1 (Jvm.Cond.code (⟨"com/example/cadmus/cadmus/automaton/Bdd", "and", "(II)I"⟩ : MethodName) prog_13_method_5_code 3 (some .int) :: ws) ({ frames := 1, cells := 0, slots := 0, locals := 24 } : Room)) (fun as_ U => as_ = #[(.ref a), (.int (0 : Int32)), (.int (2 : Int32))] ∧ Z.Warmed39 U.vm ∧ U.heap = h0) (fun _ _ _ _ _ => True) (fun _ U o U' => ∃ v L, o = .returned v ∧ Q12_0 Z  h0 n0 v U'.heap L ∧ FrameEnd U o U' L ({ frames := 1, cells := 0, slots := 0, locals := 24 } : Room).cells ({ frames := 1, cells := 0, slots := 0, locals := 24 } : Room).slots) := by
  refine MetFree.of_bodySF (plainFor_of_name pn_12) hisR ?_
  intro p e s m args below meth c s₁ Bd hml0 hP hK
  obtain ⟨rfl, hZ, hh⟩ := hP
  have hx := Bd.exec
  have hby := Bd.bytes
  have hml : c.maxLocals = 3 := hml0
  have hown : s.vm.findClass "com/example/cadmus/cadmus/automaton/Bdd" = some m.cls := findClass_of_methodNamed Bd.named
  have hnm := (name_of_methodNamed Bd.named Bd.method).1
  have X0 : Stand p l e ({ frames := 1, cells := 0, slots := 0, locals := 24 } : Room) s m #[(.ref a), (.int (0 : Int32)), (.int (2 : Int32))] below meth c s₁ [] 0 0 := Stand.of_body Bd
  have e0 : s₁.heap = h0 := by rw [← hh, Bd.state]; rfl
  have N0 := Fr.nil n0
  have pre0 : ∀ t, Steps p.tables e below (s₁.setTop (mkF m 0 #[.val (.ref a), .val (.int (0 : Int32)), .val (.int (2 : Int32))] [])) t → Steps p.tables e below (s₁.setTop (entryFrame m #[(.ref a), (.int (0 : Int32)), (.int (2 : Int32))] 3)) t := fun t k => castTop (ef_12 m a (0 : Int32) (2 : Int32)) k
  obtain ⟨cq_1, q_1, q_1'⟩ := E_a.cell
  obtain ⟨_, _, ⟨T_1, L_1, k_1, n_1⟩, -, X_1, ⟨Lc_1, hQ_1, l_1, y_1, z_1⟩, st_1⟩ := X0.privateBack hx (y := (⟨"com/example/cadmus/cadmus/automaton/Bdd", "check", "(I)V"⟩ : MethodName)) hown (mvT hZ (hw _ (List.mem_of_getElem? (i := 80) rfl))) (mvT hZ (hw _ (List.mem_of_getElem? (i := 81) rfl))) (own_selp hZ (hw _ (List.mem_of_getElem? (i := 1) rfl)) (hw _ (List.mem_of_getElem? (i := 82) rfl)) (hw _ (List.mem_of_getElem? (i := 81) rfl)) (by decide)) (Cond.privateMethod_at (mvP hZ (hw _ (List.mem_of_getElem? (i := 82) rfl)) (args := #[]))) (mvT hZ (hw _ (List.mem_of_getElem? (i := 83) rfl))) (by decide) (backOf (W := 0) (rm13 l Z a0 hw [] a (0 : Int32) h0 n0 Z0 F_s (by decide) (by decide)) hZ (hw _ (List.mem_of_getElem? (i := 83) rfl)) (hw _ (List.mem_of_getElem? (i := 2) rfl)) (by decide) (by decide)) (g := (mkF m 2 #[.val (.ref a), .val (.int (0 : Int32)), .val (.int (2 : Int32))] [(.int (0 : Int32)), (.ref a)])) rfl (by rw [hml]; rfl) (Steps.refl _) (a := a) (by rw [e0]; exact q_1) q_1' (argsL := [(.int (0 : Int32))]) (rest := []) (lenOf pd_4 rfl) rfl (by show 2 * 0 + _ ≤ _; exact Nat.le_of_eq rfl) (hb hby d12_2) (fun _ _ => ⟨rfl, e0, (by decide : 0 + 0 ≤ _), (by decide : 0 + 0 ≤ _)⟩)
  dsimp only [Pt.U, Pt.locs, Pt.cells, Pt.slots] at X_1 l_1 y_1 z_1 st_1 hQ_1
  subst l_1 y_1 z_1
  obtain ⟨rfl, Nq_1, eq_1⟩ := hQ_1
  have N_1 := Fr.app N0 Nq_1
  obtain ⟨cq_2, q_2, q_2'⟩ := E_a.cell
  obtain ⟨_, _, ⟨T_2, L_2, k_2, n_2⟩, -, X_2, ⟨Lc_2, hQ_2, l_2, y_2, z_2⟩, st_2⟩ := X_1.privateBack hx (y := (⟨"com/example/cadmus/cadmus/automaton/Bdd", "check", "(I)V"⟩ : MethodName)) hown (mvT hZ (hw _ (List.mem_of_getElem? (i := 80) rfl))) (mvT hZ (hw _ (List.mem_of_getElem? (i := 81) rfl))) (own_selp hZ (hw _ (List.mem_of_getElem? (i := 1) rfl)) (hw _ (List.mem_of_getElem? (i := 82) rfl)) (hw _ (List.mem_of_getElem? (i := 81) rfl)) (by decide)) (Cond.privateMethod_at (mvP hZ (hw _ (List.mem_of_getElem? (i := 82) rfl)) (args := #[]))) (mvT hZ (hw _ (List.mem_of_getElem? (i := 83) rfl))) (by decide) (backOf (W := 0) (rm13 l Z a0 hw [] a (2 : Int32) h0 n0 Z0 F_s (by decide) (by decide)) hZ (hw _ (List.mem_of_getElem? (i := 83) rfl)) (hw _ (List.mem_of_getElem? (i := 2) rfl)) (by decide) (by decide)) (g := (mkF m 7 #[.val (.ref a), .val (.int (0 : Int32)), .val (.int (2 : Int32))] [(.int (2 : Int32)), (.ref a)])) rfl (by rw [hml]; rfl) (Steps.refl _) (a := a) (by rw [eq_1]; exact q_2) q_2' (argsL := [(.int (2 : Int32))]) (rest := []) (lenOf pd_4 rfl) rfl (by show 2 * 0 + _ ≤ _; exact Nat.le_of_eq rfl) (hb hby d12_7) (fun _ _ => ⟨rfl, eq_1, (by decide : 0 + 0 ≤ _), (by decide : 0 + 0 ≤ _)⟩)
  dsimp only [Pt.U, Pt.locs, Pt.cells, Pt.slots] at X_2 l_2 y_2 z_2 st_2 hQ_2
  subst l_2 y_2 z_2
  obtain ⟨rfl, Nq_2, eq_2⟩ := hQ_2
  have N_2 := Fr.app N_1 Nq_2
  obtain ⟨cq_3, q_3, q_3'⟩ := E_a.cell
  obtain ⟨_, _, ⟨T_3, L_3, k_3, n_3⟩, -, X_3, ⟨Lc_3, hQ_3, l_3, y_3, z_3⟩, st_3⟩ := X_2.privateBack hx (y := (⟨"com/example/cadmus/cadmus/automaton/Bdd", "apply", "(III)I"⟩ : MethodName)) hown (mvT hZ (hw _ (List.mem_of_getElem? (i := 84) rfl))) (mvT hZ (hw _ (List.mem_of_getElem? (i := 85) rfl))) (own_selp hZ (hw _ (List.mem_of_getElem? (i := 1) rfl)) (hw _ (List.mem_of_getElem? (i := 86) rfl)) (hw _ (List.mem_of_getElem? (i := 85) rfl)) (by decide)) (Cond.privateMethod_at (mvP hZ (hw _ (List.mem_of_getElem? (i := 86) rfl)) (args := #[]))) (mvT hZ (hw _ (List.mem_of_getElem? (i := 87) rfl))) (by decide) (backOf (W := 0) (rm14_00 l Z a0 hw [] a h0 n0 Z0 ) hZ (hw _ (List.mem_of_getElem? (i := 87) rfl)) (hw _ (List.mem_of_getElem? (i := 2) rfl)) (by decide) (by decide)) (g := (mkF m 14 #[.val (.ref a), .val (.int (0 : Int32)), .val (.int (2 : Int32))] [(.int (2 : Int32)), (.int (0 : Int32)), (.int (0 : Int32)), (.ref a)])) rfl (by rw [hml]; rfl) (Steps.refl _) (a := a) (by rw [eq_2]; exact q_3) q_3' (argsL := [(.int (0 : Int32)), (.int (0 : Int32)), (.int (2 : Int32))]) (rest := []) (lenOf pd_3 rfl) rfl (by show 2 * 0 + _ ≤ _; exact Nat.le_of_eq rfl) (hb hby d12_14) (fun _ _ => ⟨rfl, eq_2, (by decide : 0 + 0 ≤ _), (by decide : 0 + 0 ≤ _)⟩)
  dsimp only [Pt.U, Pt.locs, Pt.cells, Pt.slots] at X_3 l_3 y_3 z_3 st_3 hQ_3
  subst l_3 y_3 z_3
  obtain ⟨rfl, Nq_3, eq_3⟩ := hQ_3
  have N_3 := Fr.app N_2 Nq_3
  obtain ⟨fs, hr, hrun, hended, hW, hsame⟩ := X_3.leave (v := some (.int (0 : Int32))) (fun h => by rw [Bd.returns] at h; cases h)
  refine ⟨_, _, pre0 _ ?_, hrun, hended, _, _, rfl, ?_, ⟨_, rfl⟩, hW, hsame.mono (by decide) (by decide)⟩
  · show Steps p.tables e below (s₁.setTop (mkF m 0 #[.val (.ref a), .val (.int (0 : Int32)), .val (.int (2 : Int32))] [])) _
    refine XS.aloadN X0.here hx rfl (hb hby d12_0) rfl rfl ?_
    show Steps p.tables e below (s₁.setTop (mkF m 1 #[.val (.ref a), .val (.int (0 : Int32)), .val (.int (2 : Int32))] [(.ref a)])) _
    refine XS.iloadN X0.here hx rfl (hb hby d12_1) rfl ?_
    show Steps p.tables e below (s₁.setTop (mkF m 2 #[.val (.ref a), .val (.int (0 : Int32)), .val (.int (2 : Int32))] [(.int (0 : Int32)), (.ref a)])) _
    refine st_1.trans ?_
    show Steps p.tables e below (T_1.setTop (mkF m 5 #[.val (.ref a), .val (.int (0 : Int32)), .val (.int (2 : Int32))] [])) _
    refine XS.aloadN X_1.here hx rfl (hb hby d12_5) rfl rfl ?_
    show Steps p.tables e below (T_1.setTop (mkF m 6 #[.val (.ref a), .val (.int (0 : Int32)), .val (.int (2 : Int32))] [(.ref a)])) _
    refine XS.iloadN X_1.here hx rfl (hb hby d12_6) rfl ?_
    show Steps p.tables e below (T_1.setTop (mkF m 7 #[.val (.ref a), .val (.int (0 : Int32)), .val (.int (2 : Int32))] [(.int (2 : Int32)), (.ref a)])) _
    refine st_2.trans ?_
    show Steps p.tables e below (T_2.setTop (mkF m 10 #[.val (.ref a), .val (.int (0 : Int32)), .val (.int (2 : Int32))] [])) _
    refine XS.aloadN X_2.here hx rfl (hb hby d12_10) rfl rfl ?_
    show Steps p.tables e below (T_2.setTop (mkF m 11 #[.val (.ref a), .val (.int (0 : Int32)), .val (.int (2 : Int32))] [(.ref a)])) _
    refine XS.iconst X_2.here hx rfl (hb hby d12_11) ?_
    show Steps p.tables e below (T_2.setTop (mkF m 12 #[.val (.ref a), .val (.int (0 : Int32)), .val (.int (2 : Int32))] [(.int (0 : Int32)), (.ref a)])) _
    refine XS.iloadN X_2.here hx rfl (hb hby d12_12) rfl ?_
    show Steps p.tables e below (T_2.setTop (mkF m 13 #[.val (.ref a), .val (.int (0 : Int32)), .val (.int (2 : Int32))] [(.int (0 : Int32)), (.int (0 : Int32)), (.ref a)])) _
    refine XS.iloadN X_2.here hx rfl (hb hby d12_13) rfl ?_
    show Steps p.tables e below (T_2.setTop (mkF m 14 #[.val (.ref a), .val (.int (0 : Int32)), .val (.int (2 : Int32))] [(.int (2 : Int32)), (.int (0 : Int32)), (.int (0 : Int32)), (.ref a)])) _
    refine st_3.trans ?_
    show Steps p.tables e below (T_3.setTop (mkF m 17 #[.val (.ref a), .val (.int (0 : Int32)), .val (.int (2 : Int32))] [(.int (0 : Int32))])) _
    exact retI X_3 hx Bd.returns (hb hby d12_17) hr
  · show Q12_0 Z  h0 n0 _ T_3.heap _
    rw [eq_3]
    exact ⟨rfl, N_3, rfl⟩
def Q12_1 (Z : State)  (h0 : Heap) (n0 : Nat) (v : Option Value) (h : Heap) (L : List Loc) : Prop := v = some (.int (2 : Int32)) ∧ Fr n0 L ∧ h = h0
set_option maxRecDepth 65536 in
set_option maxHeartbeats 40000000 in
theorem rm12_1 (l : Launch) (Z : State) (a0 : Array Value) (hw : ∀ d ∈ tables_1, d.before a0 Z = true) (ws : List Jvm.Cond) (a : Addr) (h0 : Heap) (n0 : Nat) (Z0 : n0 ≤ h0.size) (E_a : Exa Z h0 a "com/example/cadmus/cadmus/automaton/Bdd") (F_s : Fld Z h0 a "com/example/cadmus/cadmus/automaton/Bdd" "size" "I" (.int (3 : Int32))) :
    MetFree l (⟨"com/example/cadmus/cadmus/automaton/Bdd", "and", "(II)I"⟩ : MethodName) (head1 (Jvm.Cond.code (⟨"com/example/cadmus/cadmus/automaton/Bdd", "and", "(II)I"⟩ : MethodName) prog_13_method_5_code 3 (some .int) :: ws) ({ frames := 1, cells := 0, slots := 0, locals := 24 } : Room)) (fun as_ U => as_ = #[(.ref a), (.int (1 : Int32)), (.int (2 : Int32))] ∧ Z.Warmed39 U.vm ∧ U.heap = h0) (fun _ _ _ _ _ => True) (fun _ U o U' => ∃ v L, o = .returned v ∧ Q12_1 Z  h0 n0 v U'.heap L ∧ FrameEnd U o U' L ({ frames := 1, cells := 0, slots := 0, locals := 24 } : Room).cells ({ frames := 1, cells := 0, slots := 0, locals := 24 } : Room).slots) := by
  refine MetFree.of_bodySF (plainFor_of_name pn_12) hisR ?_
  intro p e s m args below meth c s₁ Bd hml0 hP hK
  obtain ⟨rfl, hZ, hh⟩ := hP
  have hx := Bd.exec
  have hby := Bd.bytes
  have hml : c.maxLocals = 3 := hml0
  have hown : s.vm.findClass "com/example/cadmus/cadmus/automaton/Bdd" = some m.cls := findClass_of_methodNamed Bd.named
  have hnm := (name_of_methodNamed Bd.named Bd.method).1
  have X0 : Stand p l e ({ frames := 1, cells := 0, slots := 0, locals := 24 } : Room) s m #[(.ref a), (.int (1 : Int32)), (.int (2 : Int32))] below meth c s₁ [] 0 0 := Stand.of_body Bd
  have e0 : s₁.heap = h0 := by rw [← hh, Bd.state]; rfl
  have N0 := Fr.nil n0
  have pre0 : ∀ t, Steps p.tables e below (s₁.setTop (mkF m 0 #[.val (.ref a), .val (.int (1 : Int32)), .val (.int (2 : Int32))] [])) t → Steps p.tables e below (s₁.setTop (entryFrame m #[(.ref a), (.int (1 : Int32)), (.int (2 : Int32))] 3)) t := fun t k => castTop (ef_12 m a (1 : Int32) (2 : Int32)) k
  obtain ⟨cq_1, q_1, q_1'⟩ := E_a.cell
  obtain ⟨_, _, ⟨T_1, L_1, k_1, n_1⟩, -, X_1, ⟨Lc_1, hQ_1, l_1, y_1, z_1⟩, st_1⟩ := X0.privateBack hx (y := (⟨"com/example/cadmus/cadmus/automaton/Bdd", "check", "(I)V"⟩ : MethodName)) hown (mvT hZ (hw _ (List.mem_of_getElem? (i := 80) rfl))) (mvT hZ (hw _ (List.mem_of_getElem? (i := 81) rfl))) (own_selp hZ (hw _ (List.mem_of_getElem? (i := 1) rfl)) (hw _ (List.mem_of_getElem? (i := 82) rfl)) (hw _ (List.mem_of_getElem? (i := 81) rfl)) (by decide)) (Cond.privateMethod_at (mvP hZ (hw _ (List.mem_of_getElem? (i := 82) rfl)) (args := #[]))) (mvT hZ (hw _ (List.mem_of_getElem? (i := 83) rfl))) (by decide) (backOf (W := 0) (rm13 l Z a0 hw [] a (1 : Int32) h0 n0 Z0 F_s (by decide) (by decide)) hZ (hw _ (List.mem_of_getElem? (i := 83) rfl)) (hw _ (List.mem_of_getElem? (i := 2) rfl)) (by decide) (by decide)) (g := (mkF m 2 #[.val (.ref a), .val (.int (1 : Int32)), .val (.int (2 : Int32))] [(.int (1 : Int32)), (.ref a)])) rfl (by rw [hml]; rfl) (Steps.refl _) (a := a) (by rw [e0]; exact q_1) q_1' (argsL := [(.int (1 : Int32))]) (rest := []) (lenOf pd_4 rfl) rfl (by show 2 * 0 + _ ≤ _; exact Nat.le_of_eq rfl) (hb hby d12_2) (fun _ _ => ⟨rfl, e0, (by decide : 0 + 0 ≤ _), (by decide : 0 + 0 ≤ _)⟩)
  dsimp only [Pt.U, Pt.locs, Pt.cells, Pt.slots] at X_1 l_1 y_1 z_1 st_1 hQ_1
  subst l_1 y_1 z_1
  obtain ⟨rfl, Nq_1, eq_1⟩ := hQ_1
  have N_1 := Fr.app N0 Nq_1
  obtain ⟨cq_2, q_2, q_2'⟩ := E_a.cell
  obtain ⟨_, _, ⟨T_2, L_2, k_2, n_2⟩, -, X_2, ⟨Lc_2, hQ_2, l_2, y_2, z_2⟩, st_2⟩ := X_1.privateBack hx (y := (⟨"com/example/cadmus/cadmus/automaton/Bdd", "check", "(I)V"⟩ : MethodName)) hown (mvT hZ (hw _ (List.mem_of_getElem? (i := 80) rfl))) (mvT hZ (hw _ (List.mem_of_getElem? (i := 81) rfl))) (own_selp hZ (hw _ (List.mem_of_getElem? (i := 1) rfl)) (hw _ (List.mem_of_getElem? (i := 82) rfl)) (hw _ (List.mem_of_getElem? (i := 81) rfl)) (by decide)) (Cond.privateMethod_at (mvP hZ (hw _ (List.mem_of_getElem? (i := 82) rfl)) (args := #[]))) (mvT hZ (hw _ (List.mem_of_getElem? (i := 83) rfl))) (by decide) (backOf (W := 0) (rm13 l Z a0 hw [] a (2 : Int32) h0 n0 Z0 F_s (by decide) (by decide)) hZ (hw _ (List.mem_of_getElem? (i := 83) rfl)) (hw _ (List.mem_of_getElem? (i := 2) rfl)) (by decide) (by decide)) (g := (mkF m 7 #[.val (.ref a), .val (.int (1 : Int32)), .val (.int (2 : Int32))] [(.int (2 : Int32)), (.ref a)])) rfl (by rw [hml]; rfl) (Steps.refl _) (a := a) (by rw [eq_1]; exact q_2) q_2' (argsL := [(.int (2 : Int32))]) (rest := []) (lenOf pd_4 rfl) rfl (by show 2 * 0 + _ ≤ _; exact Nat.le_of_eq rfl) (hb hby d12_7) (fun _ _ => ⟨rfl, eq_1, (by decide : 0 + 0 ≤ _), (by decide : 0 + 0 ≤ _)⟩)
  dsimp only [Pt.U, Pt.locs, Pt.cells, Pt.slots] at X_2 l_2 y_2 z_2 st_2 hQ_2
  subst l_2 y_2 z_2
  obtain ⟨rfl, Nq_2, eq_2⟩ := hQ_2
  have N_2 := Fr.app N_1 Nq_2
  obtain ⟨cq_3, q_3, q_3'⟩ := E_a.cell
  obtain ⟨_, _, ⟨T_3, L_3, k_3, n_3⟩, -, X_3, ⟨Lc_3, hQ_3, l_3, y_3, z_3⟩, st_3⟩ := X_2.privateBack hx (y := (⟨"com/example/cadmus/cadmus/automaton/Bdd", "apply", "(III)I"⟩ : MethodName)) hown (mvT hZ (hw _ (List.mem_of_getElem? (i := 84) rfl))) (mvT hZ (hw _ (List.mem_of_getElem? (i := 85) rfl))) (own_selp hZ (hw _ (List.mem_of_getElem? (i := 1) rfl)) (hw _ (List.mem_of_getElem? (i := 86) rfl)) (hw _ (List.mem_of_getElem? (i := 85) rfl)) (by decide)) (Cond.privateMethod_at (mvP hZ (hw _ (List.mem_of_getElem? (i := 86) rfl)) (args := #[]))) (mvT hZ (hw _ (List.mem_of_getElem? (i := 87) rfl))) (by decide) (backOf (W := 0) (rm14_01 l Z a0 hw [] a h0 n0 Z0 ) hZ (hw _ (List.mem_of_getElem? (i := 87) rfl)) (hw _ (List.mem_of_getElem? (i := 2) rfl)) (by decide) (by decide)) (g := (mkF m 14 #[.val (.ref a), .val (.int (1 : Int32)), .val (.int (2 : Int32))] [(.int (2 : Int32)), (.int (1 : Int32)), (.int (0 : Int32)), (.ref a)])) rfl (by rw [hml]; rfl) (Steps.refl _) (a := a) (by rw [eq_2]; exact q_3) q_3' (argsL := [(.int (0 : Int32)), (.int (1 : Int32)), (.int (2 : Int32))]) (rest := []) (lenOf pd_3 rfl) rfl (by show 2 * 0 + _ ≤ _; exact Nat.le_of_eq rfl) (hb hby d12_14) (fun _ _ => ⟨rfl, eq_2, (by decide : 0 + 0 ≤ _), (by decide : 0 + 0 ≤ _)⟩)
  dsimp only [Pt.U, Pt.locs, Pt.cells, Pt.slots] at X_3 l_3 y_3 z_3 st_3 hQ_3
  subst l_3 y_3 z_3
  obtain ⟨rfl, Nq_3, eq_3⟩ := hQ_3
  have N_3 := Fr.app N_2 Nq_3
  obtain ⟨fs, hr, hrun, hended, hW, hsame⟩ := X_3.leave (v := some (.int (2 : Int32))) (fun h => by rw [Bd.returns] at h; cases h)
  refine ⟨_, _, pre0 _ ?_, hrun, hended, _, _, rfl, ?_, ⟨_, rfl⟩, hW, hsame.mono (by decide) (by decide)⟩
  · show Steps p.tables e below (s₁.setTop (mkF m 0 #[.val (.ref a), .val (.int (1 : Int32)), .val (.int (2 : Int32))] [])) _
    refine XS.aloadN X0.here hx rfl (hb hby d12_0) rfl rfl ?_
    show Steps p.tables e below (s₁.setTop (mkF m 1 #[.val (.ref a), .val (.int (1 : Int32)), .val (.int (2 : Int32))] [(.ref a)])) _
    refine XS.iloadN X0.here hx rfl (hb hby d12_1) rfl ?_
    show Steps p.tables e below (s₁.setTop (mkF m 2 #[.val (.ref a), .val (.int (1 : Int32)), .val (.int (2 : Int32))] [(.int (1 : Int32)), (.ref a)])) _
    refine st_1.trans ?_
    show Steps p.tables e below (T_1.setTop (mkF m 5 #[.val (.ref a), .val (.int (1 : Int32)), .val (.int (2 : Int32))] [])) _
    refine XS.aloadN X_1.here hx rfl (hb hby d12_5) rfl rfl ?_
    show Steps p.tables e below (T_1.setTop (mkF m 6 #[.val (.ref a), .val (.int (1 : Int32)), .val (.int (2 : Int32))] [(.ref a)])) _
    refine XS.iloadN X_1.here hx rfl (hb hby d12_6) rfl ?_
    show Steps p.tables e below (T_1.setTop (mkF m 7 #[.val (.ref a), .val (.int (1 : Int32)), .val (.int (2 : Int32))] [(.int (2 : Int32)), (.ref a)])) _
    refine st_2.trans ?_
    show Steps p.tables e below (T_2.setTop (mkF m 10 #[.val (.ref a), .val (.int (1 : Int32)), .val (.int (2 : Int32))] [])) _
    refine XS.aloadN X_2.here hx rfl (hb hby d12_10) rfl rfl ?_
    show Steps p.tables e below (T_2.setTop (mkF m 11 #[.val (.ref a), .val (.int (1 : Int32)), .val (.int (2 : Int32))] [(.ref a)])) _
    refine XS.iconst X_2.here hx rfl (hb hby d12_11) ?_
    show Steps p.tables e below (T_2.setTop (mkF m 12 #[.val (.ref a), .val (.int (1 : Int32)), .val (.int (2 : Int32))] [(.int (0 : Int32)), (.ref a)])) _
    refine XS.iloadN X_2.here hx rfl (hb hby d12_12) rfl ?_
    show Steps p.tables e below (T_2.setTop (mkF m 13 #[.val (.ref a), .val (.int (1 : Int32)), .val (.int (2 : Int32))] [(.int (1 : Int32)), (.int (0 : Int32)), (.ref a)])) _
    refine XS.iloadN X_2.here hx rfl (hb hby d12_13) rfl ?_
    show Steps p.tables e below (T_2.setTop (mkF m 14 #[.val (.ref a), .val (.int (1 : Int32)), .val (.int (2 : Int32))] [(.int (2 : Int32)), (.int (1 : Int32)), (.int (0 : Int32)), (.ref a)])) _
    refine st_3.trans ?_
    show Steps p.tables e below (T_3.setTop (mkF m 17 #[.val (.ref a), .val (.int (1 : Int32)), .val (.int (2 : Int32))] [(.int (2 : Int32))])) _
    exact retI X_3 hx Bd.returns (hb hby d12_17) hr
  · show Q12_1 Z  h0 n0 _ T_3.heap _
    rw [eq_3]
    exact ⟨rfl, N_3, rfl⟩
theorem d15_0 : decode prog_13_method_6_code 0 = .ok (.aload_n 0, 1) := by decide +kernel
theorem d15_1 : decode prog_13_method_6_code 1 = .ok (.iload_n 1, 1) := by decide +kernel
theorem d15_2 : decode prog_13_method_6_code 2 = .ok (.invokevirtual 66, 3) := by decide +kernel
theorem d15_5 : decode prog_13_method_6_code 5 = .ok (.aload_n 0, 1) := by decide +kernel
theorem d15_6 : decode prog_13_method_6_code 6 = .ok (.iload_n 2, 1) := by decide +kernel
theorem d15_7 : decode prog_13_method_6_code 7 = .ok (.invokevirtual 66, 3) := by decide +kernel
theorem d15_10 : decode prog_13_method_6_code 10 = .ok (.aload_n 0, 1) := by decide +kernel
theorem d15_11 : decode prog_13_method_6_code 11 = .ok (.iconst 1, 1) := by decide +kernel
theorem d15_12 : decode prog_13_method_6_code 12 = .ok (.iload_n 1, 1) := by decide +kernel
theorem d15_13 : decode prog_13_method_6_code 13 = .ok (.iload_n 2, 1) := by decide +kernel
theorem d15_14 : decode prog_13_method_6_code 14 = .ok (.invokevirtual 74, 3) := by decide +kernel
theorem d15_17 : decode prog_13_method_6_code 17 = .ok (.ireturn, 1) := by decide +kernel
def Q15_0 (Z : State)  (h0 : Heap) (n0 : Nat) (v : Option Value) (h : Heap) (L : List Loc) : Prop := v = some (.int (2 : Int32)) ∧ Fr n0 L ∧ h = h0
theorem pn_15 : plainName "com/example/cadmus/cadmus/automaton/Bdd" = true := by first | (simp [plainName, overriddenIn]; done) | decide +kernel
theorem ef_15 (m : MethodId) (x0 : Addr) (x1 : Int32) (x2 : Int32) : entryFrame m #[(.ref x0), (.int x1), (.int x2)] 3 = mkF m 0 #[.val (.ref x0), .val (.int x1), .val (.int x2)] [] := by first | (simp [entryFrame, mkF, argsToLocals, Value.category]; done) | rfl
set_option maxRecDepth 65536 in
set_option maxHeartbeats 40000000 in
theorem rm15_0 (l : Launch) (Z : State) (a0 : Array Value) (hw : ∀ d ∈ tables_1, d.before a0 Z = true) (ws : List Jvm.Cond) (a : Addr) (h0 : Heap) (n0 : Nat) (Z0 : n0 ≤ h0.size) (E_a : Exa Z h0 a "com/example/cadmus/cadmus/automaton/Bdd") (F_s : Fld Z h0 a "com/example/cadmus/cadmus/automaton/Bdd" "size" "I" (.int (3 : Int32))) :
    MetFree l (⟨"com/example/cadmus/cadmus/automaton/Bdd", "or", "(II)I"⟩ : MethodName) (head1 (Jvm.Cond.code (⟨"com/example/cadmus/cadmus/automaton/Bdd", "or", "(II)I"⟩ : MethodName) prog_13_method_6_code 3 (some .int) :: ws) ({ frames := 1, cells := 0, slots := 0, locals := 24 } : Room)) (fun as_ U => as_ = #[(.ref a), (.int (0 : Int32)), (.int (2 : Int32))] ∧ Z.Warmed39 U.vm ∧ U.heap = h0) (fun _ _ _ _ _ => True) (fun _ U o U' => ∃ v L, o = .returned v ∧ Q15_0 Z  h0 n0 v U'.heap L ∧ FrameEnd U o U' L ({ frames := 1, cells := 0, slots := 0, locals := 24 } : Room).cells ({ frames := 1, cells := 0, slots := 0, locals := 24 } : Room).slots) := by
  refine MetFree.of_bodySF (plainFor_of_name pn_15) hisR ?_
  intro p e s m args below meth c s₁ Bd hml0 hP hK
  obtain ⟨rfl, hZ, hh⟩ := hP
  have hx := Bd.exec
  have hby := Bd.bytes
  have hml : c.maxLocals = 3 := hml0
  have hown : s.vm.findClass "com/example/cadmus/cadmus/automaton/Bdd" = some m.cls := findClass_of_methodNamed Bd.named
  have hnm := (name_of_methodNamed Bd.named Bd.method).1
  have X0 : Stand p l e ({ frames := 1, cells := 0, slots := 0, locals := 24 } : Room) s m #[(.ref a), (.int (0 : Int32)), (.int (2 : Int32))] below meth c s₁ [] 0 0 := Stand.of_body Bd
  have e0 : s₁.heap = h0 := by rw [← hh, Bd.state]; rfl
  have N0 := Fr.nil n0
  have pre0 : ∀ t, Steps p.tables e below (s₁.setTop (mkF m 0 #[.val (.ref a), .val (.int (0 : Int32)), .val (.int (2 : Int32))] [])) t → Steps p.tables e below (s₁.setTop (entryFrame m #[(.ref a), (.int (0 : Int32)), (.int (2 : Int32))] 3)) t := fun t k => castTop (ef_15 m a (0 : Int32) (2 : Int32)) k
  obtain ⟨cq_1, q_1, q_1'⟩ := E_a.cell
  obtain ⟨_, _, ⟨T_1, L_1, k_1, n_1⟩, -, X_1, ⟨Lc_1, hQ_1, l_1, y_1, z_1⟩, st_1⟩ := X0.privateBack hx (y := (⟨"com/example/cadmus/cadmus/automaton/Bdd", "check", "(I)V"⟩ : MethodName)) hown (mvT hZ (hw _ (List.mem_of_getElem? (i := 80) rfl))) (mvT hZ (hw _ (List.mem_of_getElem? (i := 81) rfl))) (own_selp hZ (hw _ (List.mem_of_getElem? (i := 1) rfl)) (hw _ (List.mem_of_getElem? (i := 82) rfl)) (hw _ (List.mem_of_getElem? (i := 81) rfl)) (by decide)) (Cond.privateMethod_at (mvP hZ (hw _ (List.mem_of_getElem? (i := 82) rfl)) (args := #[]))) (mvT hZ (hw _ (List.mem_of_getElem? (i := 83) rfl))) (by decide) (backOf (W := 0) (rm13 l Z a0 hw [] a (0 : Int32) h0 n0 Z0 F_s (by decide) (by decide)) hZ (hw _ (List.mem_of_getElem? (i := 83) rfl)) (hw _ (List.mem_of_getElem? (i := 2) rfl)) (by decide) (by decide)) (g := (mkF m 2 #[.val (.ref a), .val (.int (0 : Int32)), .val (.int (2 : Int32))] [(.int (0 : Int32)), (.ref a)])) rfl (by rw [hml]; rfl) (Steps.refl _) (a := a) (by rw [e0]; exact q_1) q_1' (argsL := [(.int (0 : Int32))]) (rest := []) (lenOf pd_4 rfl) rfl (by show 2 * 0 + _ ≤ _; exact Nat.le_of_eq rfl) (hb hby d15_2) (fun _ _ => ⟨rfl, e0, (by decide : 0 + 0 ≤ _), (by decide : 0 + 0 ≤ _)⟩)
  dsimp only [Pt.U, Pt.locs, Pt.cells, Pt.slots] at X_1 l_1 y_1 z_1 st_1 hQ_1
  subst l_1 y_1 z_1
  obtain ⟨rfl, Nq_1, eq_1⟩ := hQ_1
  have N_1 := Fr.app N0 Nq_1
  obtain ⟨cq_2, q_2, q_2'⟩ := E_a.cell
  obtain ⟨_, _, ⟨T_2, L_2, k_2, n_2⟩, -, X_2, ⟨Lc_2, hQ_2, l_2, y_2, z_2⟩, st_2⟩ := X_1.privateBack hx (y := (⟨"com/example/cadmus/cadmus/automaton/Bdd", "check", "(I)V"⟩ : MethodName)) hown (mvT hZ (hw _ (List.mem_of_getElem? (i := 80) rfl))) (mvT hZ (hw _ (List.mem_of_getElem? (i := 81) rfl))) (own_selp hZ (hw _ (List.mem_of_getElem? (i := 1) rfl)) (hw _ (List.mem_of_getElem? (i := 82) rfl)) (hw _ (List.mem_of_getElem? (i := 81) rfl)) (by decide)) (Cond.privateMethod_at (mvP hZ (hw _ (List.mem_of_getElem? (i := 82) rfl)) (args := #[]))) (mvT hZ (hw _ (List.mem_of_getElem? (i := 83) rfl))) (by decide) (backOf (W := 0) (rm13 l Z a0 hw [] a (2 : Int32) h0 n0 Z0 F_s (by decide) (by decide)) hZ (hw _ (List.mem_of_getElem? (i := 83) rfl)) (hw _ (List.mem_of_getElem? (i := 2) rfl)) (by decide) (by decide)) (g := (mkF m 7 #[.val (.ref a), .val (.int (0 : Int32)), .val (.int (2 : Int32))] [(.int (2 : Int32)), (.ref a)])) rfl (by rw [hml]; rfl) (Steps.refl _) (a := a) (by rw [eq_1]; exact q_2) q_2' (argsL := [(.int (2 : Int32))]) (rest := []) (lenOf pd_4 rfl) rfl (by show 2 * 0 + _ ≤ _; exact Nat.le_of_eq rfl) (hb hby d15_7) (fun _ _ => ⟨rfl, eq_1, (by decide : 0 + 0 ≤ _), (by decide : 0 + 0 ≤ _)⟩)
  dsimp only [Pt.U, Pt.locs, Pt.cells, Pt.slots] at X_2 l_2 y_2 z_2 st_2 hQ_2
  subst l_2 y_2 z_2
  obtain ⟨rfl, Nq_2, eq_2⟩ := hQ_2
  have N_2 := Fr.app N_1 Nq_2
  obtain ⟨cq_3, q_3, q_3'⟩ := E_a.cell
  obtain ⟨_, _, ⟨T_3, L_3, k_3, n_3⟩, -, X_3, ⟨Lc_3, hQ_3, l_3, y_3, z_3⟩, st_3⟩ := X_2.privateBack hx (y := (⟨"com/example/cadmus/cadmus/automaton/Bdd", "apply", "(III)I"⟩ : MethodName)) hown (mvT hZ (hw _ (List.mem_of_getElem? (i := 84) rfl))) (mvT hZ (hw _ (List.mem_of_getElem? (i := 85) rfl))) (own_selp hZ (hw _ (List.mem_of_getElem? (i := 1) rfl)) (hw _ (List.mem_of_getElem? (i := 86) rfl)) (hw _ (List.mem_of_getElem? (i := 85) rfl)) (by decide)) (Cond.privateMethod_at (mvP hZ (hw _ (List.mem_of_getElem? (i := 86) rfl)) (args := #[]))) (mvT hZ (hw _ (List.mem_of_getElem? (i := 87) rfl))) (by decide) (backOf (W := 0) (rm14_10 l Z a0 hw [] a h0 n0 Z0 ) hZ (hw _ (List.mem_of_getElem? (i := 87) rfl)) (hw _ (List.mem_of_getElem? (i := 2) rfl)) (by decide) (by decide)) (g := (mkF m 14 #[.val (.ref a), .val (.int (0 : Int32)), .val (.int (2 : Int32))] [(.int (2 : Int32)), (.int (0 : Int32)), (.int (1 : Int32)), (.ref a)])) rfl (by rw [hml]; rfl) (Steps.refl _) (a := a) (by rw [eq_2]; exact q_3) q_3' (argsL := [(.int (1 : Int32)), (.int (0 : Int32)), (.int (2 : Int32))]) (rest := []) (lenOf pd_3 rfl) rfl (by show 2 * 0 + _ ≤ _; exact Nat.le_of_eq rfl) (hb hby d15_14) (fun _ _ => ⟨rfl, eq_2, (by decide : 0 + 0 ≤ _), (by decide : 0 + 0 ≤ _)⟩)
  dsimp only [Pt.U, Pt.locs, Pt.cells, Pt.slots] at X_3 l_3 y_3 z_3 st_3 hQ_3
  subst l_3 y_3 z_3
  obtain ⟨rfl, Nq_3, eq_3⟩ := hQ_3
  have N_3 := Fr.app N_2 Nq_3
  obtain ⟨fs, hr, hrun, hended, hW, hsame⟩ := X_3.leave (v := some (.int (2 : Int32))) (fun h => by rw [Bd.returns] at h; cases h)
  refine ⟨_, _, pre0 _ ?_, hrun, hended, _, _, rfl, ?_, ⟨_, rfl⟩, hW, hsame.mono (by decide) (by decide)⟩
  · show Steps p.tables e below (s₁.setTop (mkF m 0 #[.val (.ref a), .val (.int (0 : Int32)), .val (.int (2 : Int32))] [])) _
    refine XS.aloadN X0.here hx rfl (hb hby d15_0) rfl rfl ?_
    show Steps p.tables e below (s₁.setTop (mkF m 1 #[.val (.ref a), .val (.int (0 : Int32)), .val (.int (2 : Int32))] [(.ref a)])) _
    refine XS.iloadN X0.here hx rfl (hb hby d15_1) rfl ?_
    show Steps p.tables e below (s₁.setTop (mkF m 2 #[.val (.ref a), .val (.int (0 : Int32)), .val (.int (2 : Int32))] [(.int (0 : Int32)), (.ref a)])) _
    refine st_1.trans ?_
    show Steps p.tables e below (T_1.setTop (mkF m 5 #[.val (.ref a), .val (.int (0 : Int32)), .val (.int (2 : Int32))] [])) _
    refine XS.aloadN X_1.here hx rfl (hb hby d15_5) rfl rfl ?_
    show Steps p.tables e below (T_1.setTop (mkF m 6 #[.val (.ref a), .val (.int (0 : Int32)), .val (.int (2 : Int32))] [(.ref a)])) _
    refine XS.iloadN X_1.here hx rfl (hb hby d15_6) rfl ?_
    show Steps p.tables e below (T_1.setTop (mkF m 7 #[.val (.ref a), .val (.int (0 : Int32)), .val (.int (2 : Int32))] [(.int (2 : Int32)), (.ref a)])) _
    refine st_2.trans ?_
    show Steps p.tables e below (T_2.setTop (mkF m 10 #[.val (.ref a), .val (.int (0 : Int32)), .val (.int (2 : Int32))] [])) _
    refine XS.aloadN X_2.here hx rfl (hb hby d15_10) rfl rfl ?_
    show Steps p.tables e below (T_2.setTop (mkF m 11 #[.val (.ref a), .val (.int (0 : Int32)), .val (.int (2 : Int32))] [(.ref a)])) _
    refine XS.iconst X_2.here hx rfl (hb hby d15_11) ?_
    show Steps p.tables e below (T_2.setTop (mkF m 12 #[.val (.ref a), .val (.int (0 : Int32)), .val (.int (2 : Int32))] [(.int (1 : Int32)), (.ref a)])) _
    refine XS.iloadN X_2.here hx rfl (hb hby d15_12) rfl ?_
    show Steps p.tables e below (T_2.setTop (mkF m 13 #[.val (.ref a), .val (.int (0 : Int32)), .val (.int (2 : Int32))] [(.int (0 : Int32)), (.int (1 : Int32)), (.ref a)])) _
    refine XS.iloadN X_2.here hx rfl (hb hby d15_13) rfl ?_
    show Steps p.tables e below (T_2.setTop (mkF m 14 #[.val (.ref a), .val (.int (0 : Int32)), .val (.int (2 : Int32))] [(.int (2 : Int32)), (.int (0 : Int32)), (.int (1 : Int32)), (.ref a)])) _
    refine st_3.trans ?_
    show Steps p.tables e below (T_3.setTop (mkF m 17 #[.val (.ref a), .val (.int (0 : Int32)), .val (.int (2 : Int32))] [(.int (2 : Int32))])) _
    exact retI X_3 hx Bd.returns (hb hby d15_17) hr
  · show Q15_0 Z  h0 n0 _ T_3.heap _
    rw [eq_3]
    exact ⟨rfl, N_3, rfl⟩
def Q15_1 (Z : State)  (h0 : Heap) (n0 : Nat) (v : Option Value) (h : Heap) (L : List Loc) : Prop := v = some (.int (1 : Int32)) ∧ Fr n0 L ∧ h = h0
set_option maxRecDepth 65536 in
set_option maxHeartbeats 40000000 in
theorem rm15_1 (l : Launch) (Z : State) (a0 : Array Value) (hw : ∀ d ∈ tables_1, d.before a0 Z = true) (ws : List Jvm.Cond) (a : Addr) (h0 : Heap) (n0 : Nat) (Z0 : n0 ≤ h0.size) (E_a : Exa Z h0 a "com/example/cadmus/cadmus/automaton/Bdd") (F_s : Fld Z h0 a "com/example/cadmus/cadmus/automaton/Bdd" "size" "I" (.int (3 : Int32))) :
    MetFree l (⟨"com/example/cadmus/cadmus/automaton/Bdd", "or", "(II)I"⟩ : MethodName) (head1 (Jvm.Cond.code (⟨"com/example/cadmus/cadmus/automaton/Bdd", "or", "(II)I"⟩ : MethodName) prog_13_method_6_code 3 (some .int) :: ws) ({ frames := 1, cells := 0, slots := 0, locals := 24 } : Room)) (fun as_ U => as_ = #[(.ref a), (.int (1 : Int32)), (.int (2 : Int32))] ∧ Z.Warmed39 U.vm ∧ U.heap = h0) (fun _ _ _ _ _ => True) (fun _ U o U' => ∃ v L, o = .returned v ∧ Q15_1 Z  h0 n0 v U'.heap L ∧ FrameEnd U o U' L ({ frames := 1, cells := 0, slots := 0, locals := 24 } : Room).cells ({ frames := 1, cells := 0, slots := 0, locals := 24 } : Room).slots) := by
  refine MetFree.of_bodySF (plainFor_of_name pn_15) hisR ?_
  intro p e s m args below meth c s₁ Bd hml0 hP hK
  obtain ⟨rfl, hZ, hh⟩ := hP
  have hx := Bd.exec
  have hby := Bd.bytes
  have hml : c.maxLocals = 3 := hml0
  have hown : s.vm.findClass "com/example/cadmus/cadmus/automaton/Bdd" = some m.cls := findClass_of_methodNamed Bd.named
  have hnm := (name_of_methodNamed Bd.named Bd.method).1
  have X0 : Stand p l e ({ frames := 1, cells := 0, slots := 0, locals := 24 } : Room) s m #[(.ref a), (.int (1 : Int32)), (.int (2 : Int32))] below meth c s₁ [] 0 0 := Stand.of_body Bd
  have e0 : s₁.heap = h0 := by rw [← hh, Bd.state]; rfl
  have N0 := Fr.nil n0
  have pre0 : ∀ t, Steps p.tables e below (s₁.setTop (mkF m 0 #[.val (.ref a), .val (.int (1 : Int32)), .val (.int (2 : Int32))] [])) t → Steps p.tables e below (s₁.setTop (entryFrame m #[(.ref a), (.int (1 : Int32)), (.int (2 : Int32))] 3)) t := fun t k => castTop (ef_15 m a (1 : Int32) (2 : Int32)) k
  obtain ⟨cq_1, q_1, q_1'⟩ := E_a.cell
  obtain ⟨_, _, ⟨T_1, L_1, k_1, n_1⟩, -, X_1, ⟨Lc_1, hQ_1, l_1, y_1, z_1⟩, st_1⟩ := X0.privateBack hx (y := (⟨"com/example/cadmus/cadmus/automaton/Bdd", "check", "(I)V"⟩ : MethodName)) hown (mvT hZ (hw _ (List.mem_of_getElem? (i := 80) rfl))) (mvT hZ (hw _ (List.mem_of_getElem? (i := 81) rfl))) (own_selp hZ (hw _ (List.mem_of_getElem? (i := 1) rfl)) (hw _ (List.mem_of_getElem? (i := 82) rfl)) (hw _ (List.mem_of_getElem? (i := 81) rfl)) (by decide)) (Cond.privateMethod_at (mvP hZ (hw _ (List.mem_of_getElem? (i := 82) rfl)) (args := #[]))) (mvT hZ (hw _ (List.mem_of_getElem? (i := 83) rfl))) (by decide) (backOf (W := 0) (rm13 l Z a0 hw [] a (1 : Int32) h0 n0 Z0 F_s (by decide) (by decide)) hZ (hw _ (List.mem_of_getElem? (i := 83) rfl)) (hw _ (List.mem_of_getElem? (i := 2) rfl)) (by decide) (by decide)) (g := (mkF m 2 #[.val (.ref a), .val (.int (1 : Int32)), .val (.int (2 : Int32))] [(.int (1 : Int32)), (.ref a)])) rfl (by rw [hml]; rfl) (Steps.refl _) (a := a) (by rw [e0]; exact q_1) q_1' (argsL := [(.int (1 : Int32))]) (rest := []) (lenOf pd_4 rfl) rfl (by show 2 * 0 + _ ≤ _; exact Nat.le_of_eq rfl) (hb hby d15_2) (fun _ _ => ⟨rfl, e0, (by decide : 0 + 0 ≤ _), (by decide : 0 + 0 ≤ _)⟩)
  dsimp only [Pt.U, Pt.locs, Pt.cells, Pt.slots] at X_1 l_1 y_1 z_1 st_1 hQ_1
  subst l_1 y_1 z_1
  obtain ⟨rfl, Nq_1, eq_1⟩ := hQ_1
  have N_1 := Fr.app N0 Nq_1
  obtain ⟨cq_2, q_2, q_2'⟩ := E_a.cell
  obtain ⟨_, _, ⟨T_2, L_2, k_2, n_2⟩, -, X_2, ⟨Lc_2, hQ_2, l_2, y_2, z_2⟩, st_2⟩ := X_1.privateBack hx (y := (⟨"com/example/cadmus/cadmus/automaton/Bdd", "check", "(I)V"⟩ : MethodName)) hown (mvT hZ (hw _ (List.mem_of_getElem? (i := 80) rfl))) (mvT hZ (hw _ (List.mem_of_getElem? (i := 81) rfl))) (own_selp hZ (hw _ (List.mem_of_getElem? (i := 1) rfl)) (hw _ (List.mem_of_getElem? (i := 82) rfl)) (hw _ (List.mem_of_getElem? (i := 81) rfl)) (by decide)) (Cond.privateMethod_at (mvP hZ (hw _ (List.mem_of_getElem? (i := 82) rfl)) (args := #[]))) (mvT hZ (hw _ (List.mem_of_getElem? (i := 83) rfl))) (by decide) (backOf (W := 0) (rm13 l Z a0 hw [] a (2 : Int32) h0 n0 Z0 F_s (by decide) (by decide)) hZ (hw _ (List.mem_of_getElem? (i := 83) rfl)) (hw _ (List.mem_of_getElem? (i := 2) rfl)) (by decide) (by decide)) (g := (mkF m 7 #[.val (.ref a), .val (.int (1 : Int32)), .val (.int (2 : Int32))] [(.int (2 : Int32)), (.ref a)])) rfl (by rw [hml]; rfl) (Steps.refl _) (a := a) (by rw [eq_1]; exact q_2) q_2' (argsL := [(.int (2 : Int32))]) (rest := []) (lenOf pd_4 rfl) rfl (by show 2 * 0 + _ ≤ _; exact Nat.le_of_eq rfl) (hb hby d15_7) (fun _ _ => ⟨rfl, eq_1, (by decide : 0 + 0 ≤ _), (by decide : 0 + 0 ≤ _)⟩)
  dsimp only [Pt.U, Pt.locs, Pt.cells, Pt.slots] at X_2 l_2 y_2 z_2 st_2 hQ_2
  subst l_2 y_2 z_2
  obtain ⟨rfl, Nq_2, eq_2⟩ := hQ_2
  have N_2 := Fr.app N_1 Nq_2
  obtain ⟨cq_3, q_3, q_3'⟩ := E_a.cell
  obtain ⟨_, _, ⟨T_3, L_3, k_3, n_3⟩, -, X_3, ⟨Lc_3, hQ_3, l_3, y_3, z_3⟩, st_3⟩ := X_2.privateBack hx (y := (⟨"com/example/cadmus/cadmus/automaton/Bdd", "apply", "(III)I"⟩ : MethodName)) hown (mvT hZ (hw _ (List.mem_of_getElem? (i := 84) rfl))) (mvT hZ (hw _ (List.mem_of_getElem? (i := 85) rfl))) (own_selp hZ (hw _ (List.mem_of_getElem? (i := 1) rfl)) (hw _ (List.mem_of_getElem? (i := 86) rfl)) (hw _ (List.mem_of_getElem? (i := 85) rfl)) (by decide)) (Cond.privateMethod_at (mvP hZ (hw _ (List.mem_of_getElem? (i := 86) rfl)) (args := #[]))) (mvT hZ (hw _ (List.mem_of_getElem? (i := 87) rfl))) (by decide) (backOf (W := 0) (rm14_11 l Z a0 hw [] a h0 n0 Z0 ) hZ (hw _ (List.mem_of_getElem? (i := 87) rfl)) (hw _ (List.mem_of_getElem? (i := 2) rfl)) (by decide) (by decide)) (g := (mkF m 14 #[.val (.ref a), .val (.int (1 : Int32)), .val (.int (2 : Int32))] [(.int (2 : Int32)), (.int (1 : Int32)), (.int (1 : Int32)), (.ref a)])) rfl (by rw [hml]; rfl) (Steps.refl _) (a := a) (by rw [eq_2]; exact q_3) q_3' (argsL := [(.int (1 : Int32)), (.int (1 : Int32)), (.int (2 : Int32))]) (rest := []) (lenOf pd_3 rfl) rfl (by show 2 * 0 + _ ≤ _; exact Nat.le_of_eq rfl) (hb hby d15_14) (fun _ _ => ⟨rfl, eq_2, (by decide : 0 + 0 ≤ _), (by decide : 0 + 0 ≤ _)⟩)
  dsimp only [Pt.U, Pt.locs, Pt.cells, Pt.slots] at X_3 l_3 y_3 z_3 st_3 hQ_3
  subst l_3 y_3 z_3
  obtain ⟨rfl, Nq_3, eq_3⟩ := hQ_3
  have N_3 := Fr.app N_2 Nq_3
  obtain ⟨fs, hr, hrun, hended, hW, hsame⟩ := X_3.leave (v := some (.int (1 : Int32))) (fun h => by rw [Bd.returns] at h; cases h)
  refine ⟨_, _, pre0 _ ?_, hrun, hended, _, _, rfl, ?_, ⟨_, rfl⟩, hW, hsame.mono (by decide) (by decide)⟩
  · show Steps p.tables e below (s₁.setTop (mkF m 0 #[.val (.ref a), .val (.int (1 : Int32)), .val (.int (2 : Int32))] [])) _
    refine XS.aloadN X0.here hx rfl (hb hby d15_0) rfl rfl ?_
    show Steps p.tables e below (s₁.setTop (mkF m 1 #[.val (.ref a), .val (.int (1 : Int32)), .val (.int (2 : Int32))] [(.ref a)])) _
    refine XS.iloadN X0.here hx rfl (hb hby d15_1) rfl ?_
    show Steps p.tables e below (s₁.setTop (mkF m 2 #[.val (.ref a), .val (.int (1 : Int32)), .val (.int (2 : Int32))] [(.int (1 : Int32)), (.ref a)])) _
    refine st_1.trans ?_
    show Steps p.tables e below (T_1.setTop (mkF m 5 #[.val (.ref a), .val (.int (1 : Int32)), .val (.int (2 : Int32))] [])) _
    refine XS.aloadN X_1.here hx rfl (hb hby d15_5) rfl rfl ?_
    show Steps p.tables e below (T_1.setTop (mkF m 6 #[.val (.ref a), .val (.int (1 : Int32)), .val (.int (2 : Int32))] [(.ref a)])) _
    refine XS.iloadN X_1.here hx rfl (hb hby d15_6) rfl ?_
    show Steps p.tables e below (T_1.setTop (mkF m 7 #[.val (.ref a), .val (.int (1 : Int32)), .val (.int (2 : Int32))] [(.int (2 : Int32)), (.ref a)])) _
    refine st_2.trans ?_
    show Steps p.tables e below (T_2.setTop (mkF m 10 #[.val (.ref a), .val (.int (1 : Int32)), .val (.int (2 : Int32))] [])) _
    refine XS.aloadN X_2.here hx rfl (hb hby d15_10) rfl rfl ?_
    show Steps p.tables e below (T_2.setTop (mkF m 11 #[.val (.ref a), .val (.int (1 : Int32)), .val (.int (2 : Int32))] [(.ref a)])) _
    refine XS.iconst X_2.here hx rfl (hb hby d15_11) ?_
    show Steps p.tables e below (T_2.setTop (mkF m 12 #[.val (.ref a), .val (.int (1 : Int32)), .val (.int (2 : Int32))] [(.int (1 : Int32)), (.ref a)])) _
    refine XS.iloadN X_2.here hx rfl (hb hby d15_12) rfl ?_
    show Steps p.tables e below (T_2.setTop (mkF m 13 #[.val (.ref a), .val (.int (1 : Int32)), .val (.int (2 : Int32))] [(.int (1 : Int32)), (.int (1 : Int32)), (.ref a)])) _
    refine XS.iloadN X_2.here hx rfl (hb hby d15_13) rfl ?_
    show Steps p.tables e below (T_2.setTop (mkF m 14 #[.val (.ref a), .val (.int (1 : Int32)), .val (.int (2 : Int32))] [(.int (2 : Int32)), (.int (1 : Int32)), (.int (1 : Int32)), (.ref a)])) _
    refine st_3.trans ?_
    show Steps p.tables e below (T_3.setTop (mkF m 17 #[.val (.ref a), .val (.int (1 : Int32)), .val (.int (2 : Int32))] [(.int (1 : Int32))])) _
    exact retI X_3 hx Bd.returns (hb hby d15_17) hr
  · show Q15_1 Z  h0 n0 _ T_3.heap _
    rw [eq_3]
    exact ⟨rfl, N_3, rfl⟩
theorem d10_0 : decode jdk_30_method_1_code 0 = .ok (.aload_n 0, 1) := by decide +kernel
theorem d10_1 : decode jdk_30_method_1_code 1 = .ok (.invokespecial 1, 3) := by decide +kernel
theorem d10_4 : decode jdk_30_method_1_code 4 = .ok (.return_, 1) := by decide +kernel
def QRec (Z : State) (a : Addr) (h0 : Heap) (n0 : Nat) (v : Option Value) (h : Heap) (L : List Loc) : Prop := v = none ∧ Fr n0 L ∧ h = h0
theorem pn_10 : plainName "java/lang/Record" = true := by first | (simp [plainName, overriddenIn]; done) | decide +kernel
theorem ef_10 (m : MethodId) (x0 : Addr) : entryFrame m #[(.ref x0)] 1 = mkF m 0 #[.val (.ref x0)] [] := by first | (simp [entryFrame, mkF, argsToLocals, Value.category]; done) | rfl
set_option maxRecDepth 65536 in
set_option maxHeartbeats 40000000 in
theorem rmRec (l : Launch) (Z : State) (a0 : Array Value) (hw : ∀ d ∈ tables_1, d.before a0 Z = true) (ws : List Jvm.Cond) (a : Addr) (h0 : Heap) (n0 : Nat) (Z0 : n0 ≤ h0.size)  :
    MetFree l (⟨"java/lang/Record", "<init>", "()V"⟩ : MethodName) (head1 (Jvm.Cond.code (⟨"java/lang/Record", "<init>", "()V"⟩ : MethodName) jdk_30_method_1_code 1 none :: ws) ({ frames := 1, cells := 0, slots := 0, locals := 12 } : Room)) (fun as_ U => as_ = #[(.ref a)] ∧ Z.Warmed39 U.vm ∧ U.heap = h0) (fun _ _ _ _ _ => True) (fun _ U o U' => ∃ v L, o = .returned v ∧ QRec Z a h0 n0 v U'.heap L ∧ FrameEnd U o U' L ({ frames := 1, cells := 0, slots := 0, locals := 12 } : Room).cells ({ frames := 1, cells := 0, slots := 0, locals := 12 } : Room).slots) := by
  refine MetFree.of_bodySF (plainFor_of_name pn_10) hisR ?_
  intro p e s m args below meth c s₁ Bd hml0 hP hK
  obtain ⟨rfl, hZ, hh⟩ := hP
  have hx := Bd.exec
  have hby := Bd.bytes
  have hml : c.maxLocals = 1 := hml0
  have hown : s.vm.findClass "java/lang/Record" = some m.cls := findClass_of_methodNamed Bd.named
  have hnm := (name_of_methodNamed Bd.named Bd.method).1
  have X0 : Stand p l e ({ frames := 1, cells := 0, slots := 0, locals := 12 } : Room) s m #[(.ref a)] below meth c s₁ [] 0 0 := Stand.of_body Bd
  have e0 : s₁.heap = h0 := by rw [← hh, Bd.state]; rfl
  have N0 := Fr.nil n0
  have pre0 : ∀ t, Steps p.tables e below (s₁.setTop (mkF m 0 #[.val (.ref a)] [])) t → Steps p.tables e below (s₁.setTop (entryFrame m #[(.ref a)] 1)) t := fun t k => castTop (ef_10 m a) k
  obtain ⟨T_1, X_1, e_1, st_1⟩ := initO X0 hx hZ hown (hw _ (List.mem_of_getElem? (i := 67) rfl)) (hw _ (List.mem_of_getElem? (i := 11) rfl)) (hw _ (List.mem_of_getElem? (i := 12) rfl)) e0 (g := (mkF m 1 #[.val (.ref a)] [(.ref a)])) rfl (by rw [hml]; rfl) rfl (hb hby d10_1) (by decide) (W := 0) (by show 2 * 0 + _ ≤ _; exact Nat.le_of_eq rfl) (by decide)
  obtain ⟨fs, hr, hrun, hended, hW, hsame⟩ := X_1.leave (v := none) (fun _ => rfl)
  refine ⟨_, _, pre0 _ ?_, hrun, hended, _, _, rfl, ?_, ⟨_, rfl⟩, hW, hsame.mono (by decide) (by decide)⟩
  · show Steps p.tables e below (s₁.setTop (mkF m 0 #[.val (.ref a)] [])) _
    refine XS.aloadN X0.here hx rfl (hb hby d10_0) rfl rfl ?_
    show Steps p.tables e below (s₁.setTop (mkF m 1 #[.val (.ref a)] [(.ref a)])) _
    refine st_1 _ ?_
    show Steps p.tables e below (T_1.setTop (mkF m 4 #[.val (.ref a)] [])) _
    exact X_1.returnOut hx Bd.returns (hb hby d10_4) hr
  · show QRec Z a h0 n0 _ T_1.heap _
    rw [e_1]
    exact ⟨rfl, N0, rfl⟩
theorem d9_0 : decode prog_6_method_1_code 0 = .ok (.aload_n 0, 1) := by decide +kernel
theorem pd_5 : parseMethodDescriptor "()V" = some ⟨[], none⟩ := by decide +kernel
theorem d9_1 : decode prog_6_method_1_code 1 = .ok (.invokespecial 1, 3) := by decide +kernel
theorem d9_4 : decode prog_6_method_1_code 4 = .ok (.aload_n 0, 1) := by decide +kernel
theorem d9_5 : decode prog_6_method_1_code 5 = .ok (.iload_n 1, 1) := by decide +kernel
theorem d9_6 : decode prog_6_method_1_code 6 = .ok (.putfield 7, 3) := by decide +kernel
theorem d9_9 : decode prog_6_method_1_code 9 = .ok (.return_, 1) := by decide +kernel
def Q9_0 (Z : State) (a : Addr) (h0 : Heap) (n0 : Nat) (v : Option Value) (h : Heap) (L : List Loc) : Prop := v = none ∧ Fr n0 L ∧ Keep h0 h [a] ∧ Fld Z h a "com/example/cadmus/cadmus/automaton/Acceptance$Constant" "value" "Z" (.int (0 : Int32))
theorem pn_9 : plainName "com/example/cadmus/cadmus/automaton/Acceptance$Constant" = true := by first | (simp [plainName, overriddenIn]; done) | decide +kernel
theorem ef_9 (m : MethodId) (x0 : Addr) (x1 : Int32) : entryFrame m #[(.ref x0), (.int x1)] 2 = mkF m 0 #[.val (.ref x0), .val (.int x1)] [] := by first | (simp [entryFrame, mkF, argsToLocals, Value.category]; done) | rfl
set_option maxRecDepth 65536 in
set_option maxHeartbeats 40000000 in
theorem rm9_0 (l : Launch) (Z : State) (a0 : Array Value) (hw : ∀ d ∈ tables_1, d.before a0 Z = true) (ws : List Jvm.Cond) (a : Addr) (h0 : Heap) (n0 : Nat) (Z0 : n0 ≤ h0.size) (E_a : Exa Z h0 a "com/example/cadmus/cadmus/automaton/Acceptance$Constant") (F_value : Fld Z h0 a "com/example/cadmus/cadmus/automaton/Acceptance$Constant" "value" "Z" (.int (0 : Int32))) (g_a : n0 ≤ a) :
    MetFree l (⟨"com/example/cadmus/cadmus/automaton/Acceptance$Constant", "<init>", "(Z)V"⟩ : MethodName) (head1 (Jvm.Cond.code (⟨"com/example/cadmus/cadmus/automaton/Acceptance$Constant", "<init>", "(Z)V"⟩ : MethodName) prog_6_method_1_code 2 none :: ws) ({ frames := 2, cells := 0, slots := 0, locals := 24 } : Room)) (fun as_ U => as_ = #[(.ref a), (.int (0 : Int32))] ∧ Z.Warmed39 U.vm ∧ U.heap = h0) (fun _ _ _ _ _ => True) (fun _ U o U' => ∃ v L, o = .returned v ∧ Q9_0 Z a h0 n0 v U'.heap L ∧ FrameEnd U o U' L ({ frames := 2, cells := 0, slots := 0, locals := 24 } : Room).cells ({ frames := 2, cells := 0, slots := 0, locals := 24 } : Room).slots) := by
  refine MetFree.of_bodySF (plainFor_of_name pn_9) hisR ?_
  intro p e s m args below meth c s₁ Bd hml0 hP hK
  obtain ⟨rfl, hZ, hh⟩ := hP
  have hx := Bd.exec
  have hby := Bd.bytes
  have hml : c.maxLocals = 2 := hml0
  have hown : s.vm.findClass "com/example/cadmus/cadmus/automaton/Acceptance$Constant" = some m.cls := findClass_of_methodNamed Bd.named
  have hnm := (name_of_methodNamed Bd.named Bd.method).1
  have X0 : Stand p l e ({ frames := 2, cells := 0, slots := 0, locals := 24 } : Room) s m #[(.ref a), (.int (0 : Int32))] below meth c s₁ [] 0 0 := Stand.of_body Bd
  have e0 : s₁.heap = h0 := by rw [← hh, Bd.state]; rfl
  have N0 := Fr.nil n0
  have pre0 : ∀ t, Steps p.tables e below (s₁.setTop (mkF m 0 #[.val (.ref a), .val (.int (0 : Int32))] [])) t → Steps p.tables e below (s₁.setTop (entryFrame m #[(.ref a), (.int (0 : Int32))] 2)) t := fun t k => castTop (ef_9 m a (0 : Int32)) k
  obtain ⟨_, _, ⟨T_1, L_1, k_1, n_1⟩, -, X_1, ⟨Lc_1, hQ_1, l_1, y_1, z_1⟩, st_1⟩ := X0.specialBack hx (y := (⟨"java/lang/Record", "<init>", "()V"⟩ : MethodName)) rfl hown (mvT hZ (hw _ (List.mem_of_getElem? (i := 62) rfl))) (mvT hZ (hw _ (List.mem_of_getElem? (i := 63) rfl))) (mvT hZ (hw _ (List.mem_of_getElem? (i := 66) rfl))) (by decide) (backOf (W := 0) (rmRec l Z a0 hw [] a h0 n0 Z0 ) hZ (hw _ (List.mem_of_getElem? (i := 66) rfl)) (hw _ (List.mem_of_getElem? (i := 65) rfl)) (by decide) (by decide)) (g := (mkF m 1 #[.val (.ref a), .val (.int (0 : Int32))] [(.ref a)])) rfl (by rw [hml]; rfl) (Steps.refl _) (a := a) (argsL := []) (rest := []) (lenOf pd_5 rfl) rfl (by show 2 * 0 + _ ≤ _; exact Nat.le_of_eq rfl) (hb hby d9_1) (fun _ _ => ⟨rfl, e0, (by decide : 0 + 0 ≤ _), (by decide : 0 + 0 ≤ _)⟩)
  dsimp only [Pt.U, Pt.locs, Pt.cells, Pt.slots] at X_1 l_1 y_1 z_1 st_1 hQ_1
  subst l_1 y_1 z_1
  obtain ⟨rfl, Nq_1, eq_1⟩ := hQ_1
  have N_1 := Fr.app N0 Nq_1
  obtain ⟨T_2, h_2, X_2, e_2, W_2, st_2⟩ := putFN X_1 hx hZ hown (hw _ (List.mem_of_getElem? (i := 68) rfl)) Via.refl eq_1 F_value E_a (Or.inr ⟨(hw _ (List.mem_of_getElem? (i := 69) rfl)), rfl, hnm⟩) (hw _ (List.mem_of_getElem? (i := 57) rfl)) (ty := .boolean) (v' := (.int (nar .boolean (0 : Int32)))) (by decide) rfl (fits_nar_bool (0 : Int32)) (g := (mkF m 6 #[.val (.ref a), .val (.int (0 : Int32))] [(.int (0 : Int32)), (.ref a)])) rfl rfl (hb hby d9_6)
  rw [(show nar .boolean (0 : Int32) = (0 : Int32) from by decide)] at W_2
  have Fw_2 := F_value.same W_2
  have K_2 : Keep h0 h_2 [a] := (Keep.refl h0 [a]).wr W_2 (Or.inl (List.mem_of_getElem? (i := 0) rfl))
  have N_2 := Fr.snoc X_2 N_1 g_a
  have Z_3 : n0 ≤ h_2.size := Nat.le_trans Z0 (Keep.of_wr W_2).1
  obtain ⟨fs, hr, hrun, hended, hW, hsame⟩ := X_2.leave (v := none) (fun _ => rfl)
  refine ⟨_, _, pre0 _ ?_, hrun, hended, _, _, rfl, ?_, ⟨_, rfl⟩, hW, hsame.mono (by decide) (by decide)⟩
  · show Steps p.tables e below (s₁.setTop (mkF m 0 #[.val (.ref a), .val (.int (0 : Int32))] [])) _
    refine XS.aloadN X0.here hx rfl (hb hby d9_0) rfl rfl ?_
    show Steps p.tables e below (s₁.setTop (mkF m 1 #[.val (.ref a), .val (.int (0 : Int32))] [(.ref a)])) _
    refine st_1.trans ?_
    show Steps p.tables e below (T_1.setTop (mkF m 4 #[.val (.ref a), .val (.int (0 : Int32))] [])) _
    refine XS.aloadN X_1.here hx rfl (hb hby d9_4) rfl rfl ?_
    show Steps p.tables e below (T_1.setTop (mkF m 5 #[.val (.ref a), .val (.int (0 : Int32))] [(.ref a)])) _
    refine XS.iloadN X_1.here hx rfl (hb hby d9_5) rfl ?_
    show Steps p.tables e below (T_1.setTop (mkF m 6 #[.val (.ref a), .val (.int (0 : Int32))] [(.int (0 : Int32)), (.ref a)])) _
    refine st_2 _ ?_
    show Steps p.tables e below (T_2.setTop (mkF m 9 #[.val (.ref a), .val (.int (0 : Int32))] [])) _
    exact X_2.returnOut hx Bd.returns (hb hby d9_9) hr
  · show Q9_0 Z a h0 n0 _ T_2.heap _
    rw [e_2]
    exact ⟨rfl, N_2, K_2, Fw_2⟩
theorem d11_0 : decode prog_6_method_3_code 0 = .ok (.aload_n 0, 1) := by decide +kernel
theorem d11_1 : decode prog_6_method_3_code 1 = .ok (.getfield 7, 3) := by decide +kernel
theorem d11_4 : decode prog_6_method_3_code 4 = .ok (.ifCond .eq 7, 3) := by decide +kernel
theorem d11_11 : decode prog_6_method_3_code 11 = .ok (.iconst 0, 1) := by decide +kernel
theorem d11_12 : decode prog_6_method_3_code 12 = .ok (.ireturn, 1) := by decide +kernel
def Q11_0 (Z : State)  (h0 : Heap) (n0 : Nat) (v : Option Value) (h : Heap) (L : List Loc) : Prop := v = some (.int (0 : Int32)) ∧ Fr n0 L ∧ h = h0
theorem pn_11 : plainName "com/example/cadmus/cadmus/automaton/Acceptance$Constant" = true := by first | (simp [plainName, overriddenIn]; done) | decide +kernel
theorem ef_11 (m : MethodId) (x0 : Addr) (x1 : Addr) : entryFrame m #[(.ref x0), (.ref x1)] 2 = mkF m 0 #[.val (.ref x0), .val (.ref x1)] [] := by first | (simp [entryFrame, mkF, argsToLocals, Value.category]; done) | rfl
set_option maxRecDepth 65536 in
set_option maxHeartbeats 40000000 in
theorem rm11_0 (l : Launch) (Z : State) (a0 : Array Value) (hw : ∀ d ∈ tables_1, d.before a0 Z = true) (ws : List Jvm.Cond) (a : Addr) (st : Addr) (h0 : Heap) (n0 : Nat) (Z0 : n0 ≤ h0.size) (F_v : Fld Z h0 a "com/example/cadmus/cadmus/automaton/Acceptance$Constant" "value" "Z" (.int (0 : Int32))) :
    MetFree l (⟨"com/example/cadmus/cadmus/automaton/Acceptance$Constant", "function", "(Lcom/example/cadmus/cadmus/automaton/Bdd;)I"⟩ : MethodName) (head1 (Jvm.Cond.code (⟨"com/example/cadmus/cadmus/automaton/Acceptance$Constant", "function", "(Lcom/example/cadmus/cadmus/automaton/Bdd;)I"⟩ : MethodName) prog_6_method_3_code 2 (some .int) :: ws) ({ frames := 0, cells := 0, slots := 0, locals := 0 } : Room)) (fun as_ U => as_ = #[(.ref a), (.ref st)] ∧ Z.Warmed39 U.vm ∧ U.heap = h0) (fun _ _ _ _ _ => True) (fun _ U o U' => ∃ v L, o = .returned v ∧ Q11_0 Z  h0 n0 v U'.heap L ∧ FrameEnd U o U' L ({ frames := 0, cells := 0, slots := 0, locals := 0 } : Room).cells ({ frames := 0, cells := 0, slots := 0, locals := 0 } : Room).slots) := by
  refine MetFree.of_bodySF (plainFor_of_name pn_11) hisR ?_
  intro p e s m args below meth c s₁ Bd hml0 hP hK
  obtain ⟨rfl, hZ, hh⟩ := hP
  have hx := Bd.exec
  have hby := Bd.bytes
  have hml : c.maxLocals = 2 := hml0
  have hown : s.vm.findClass "com/example/cadmus/cadmus/automaton/Acceptance$Constant" = some m.cls := findClass_of_methodNamed Bd.named
  have hnm := (name_of_methodNamed Bd.named Bd.method).1
  have X0 : Stand p l e ({ frames := 0, cells := 0, slots := 0, locals := 0 } : Room) s m #[(.ref a), (.ref st)] below meth c s₁ [] 0 0 := Stand.of_body Bd
  have e0 : s₁.heap = h0 := by rw [← hh, Bd.state]; rfl
  have N0 := Fr.nil n0
  have pre0 : ∀ t, Steps p.tables e below (s₁.setTop (mkF m 0 #[.val (.ref a), .val (.ref st)] [])) t → Steps p.tables e below (s₁.setTop (entryFrame m #[(.ref a), (.ref st)] 2)) t := fun t k => castTop (ef_11 m a st) k
  obtain ⟨T_1, X_1, e_1, st_1⟩ := getF X0 hx hZ hown (host := "") (Or.inl (hw _ (List.mem_of_getElem? (i := 68) rfl))) Via.refl e0 F_v (g := (mkF m 1 #[.val (.ref a), .val (.ref st)] [(.ref a)])) rfl rfl (hb hby d11_1)
  obtain ⟨fs, hr, hrun, hended, hW, hsame⟩ := X_1.leave (v := some (.int (0 : Int32))) (fun h => by rw [Bd.returns] at h; cases h)
  refine ⟨_, _, pre0 _ ?_, hrun, hended, _, _, rfl, ?_, ⟨_, rfl⟩, hW, hsame.mono (by decide) (by decide)⟩
  · show Steps p.tables e below (s₁.setTop (mkF m 0 #[.val (.ref a), .val (.ref st)] [])) _
    refine XS.aloadN X0.here hx rfl (hb hby d11_0) rfl rfl ?_
    show Steps p.tables e below (s₁.setTop (mkF m 1 #[.val (.ref a), .val (.ref st)] [(.ref a)])) _
    refine st_1 _ ?_
    show Steps p.tables e below (T_1.setTop (mkF m 4 #[.val (.ref a), .val (.ref st)] [(.int (0 : Int32))])) _
    refine XS.ifYes X_1.here hx rfl (pc0 := 4) (pc' := 11) rfl (hb hby d11_4) rfl ((if0 _ _).trans (teq ((by decide) : (0 : Int32) = (0 : Int32))).1) (by decide) (by decide) ?_
    show Steps p.tables e below (T_1.setTop (mkF m 11 #[.val (.ref a), .val (.ref st)] [])) _
    refine XS.iconst X_1.here hx rfl (hb hby d11_11) ?_
    show Steps p.tables e below (T_1.setTop (mkF m 12 #[.val (.ref a), .val (.ref st)] [(.int (0 : Int32))])) _
    exact retI X_1 hx Bd.returns (hb hby d11_12) hr
  · show Q11_0 Z  h0 n0 _ T_1.heap _
    rw [e_1]
    exact ⟨rfl, N0, rfl⟩
theorem pd_6 : parseMethodDescriptor "(I)I" = some ⟨[.int], some .int⟩ := by decide +kernel
theorem pd_7 : parseMethodDescriptor "(Z)V" = some ⟨[.boolean], none⟩ := by decide +kernel
theorem pd_8 : parseMethodDescriptor "(Lcom/example/cadmus/cadmus/automaton/Bdd;)I" = some ⟨[(.object "com/example/cadmus/cadmus/automaton/Bdd")], some .int⟩ := by decide +kernel
theorem pd_9 : parseMethodDescriptor "(II)I" = some ⟨[.int, .int], some .int⟩ := by decide +kernel
def Q0 (Z : State)  (h0 : Heap) (n0 : Nat) (v : Option Value) (h : Heap) (L : List Loc) : Prop := v = some (.int 1) ∧ Fr n0 L
theorem pn_0 : plainName "com/example/cadmus/cadmus/automaton/ConstantFunctionPinLaw" = true := by first | (simp [plainName, overriddenIn]; done) | decide +kernel
theorem ef_0 (m : MethodId) (x0 : Int32) (x1 : Int32) : entryFrame m #[(.int x0), (.int x1)] maxLocals = mkF m 0 #[.val (.int x0), .val (.int x1), .unset, .unset, .unset, .unset] [] := by first | (simp [entryFrame, mkF, argsToLocals, Value.category, maxLocals]; done) | rfl
set_option maxRecDepth 65536 in
set_option maxHeartbeats 40000000 in
theorem rm0_0 (l : Launch) (Z : State) (a0 : Array Value) (hw : ∀ d ∈ tables_1, d.before a0 Z = true) (ws : List Jvm.Cond) (p0 : Int32) (p1 : Int32) (vv : Int32) (r : Int32) (ix : Int32) (h0 : Heap) (n0 : Nat) (Z0 : n0 ≤ h0.size) (hr_ : own_hash vv 0 1 = r) (hix0_ : ¬ ix < 0) (hix1_ : ix < 2048) (hix_ : (r &&& (2047 : Int32)) = ix) (hc1 : ¬ (vv < (0 : Int32))) (hc3 : (p0 &&& (1 : Int32)) = (0 : Int32)) (hvv_ : (p1 &&& (2147483647 : Int32)) = vv) :
    MetFree l x (head1 (Jvm.Cond.code x code maxLocals ret :: ws) room_1) (fun as_ U => as_ = #[(.int p0), (.int p1)] ∧ Z.Warmed39 U.vm ∧ U.heap = h0) (fun _ _ _ _ _ => True) (fun _ U o U' => ∃ v L, o = .returned v ∧ Q0 Z  h0 n0 v U'.heap L ∧ FrameEnd U o U' L 10 23564) := by
  refine MetFree.of_bodySF (plainFor_of_name pn_0) hisR ?_
  intro p e s m args below meth c s₁ Bd hml0 hP hK
  obtain ⟨rfl, hZ, hh⟩ := hP
  have hx := Bd.exec
  have hby := Bd.bytes
  have hml : c.maxLocals = 6 := hml0
  have hown : s.vm.findClass "com/example/cadmus/cadmus/automaton/ConstantFunctionPinLaw" = some m.cls := findClass_of_methodNamed Bd.named
  have hnm := (name_of_methodNamed Bd.named Bd.method).1
  have X0 : Stand p l e room_1 s m #[(.int p0), (.int p1)] below meth c s₁ [] 0 0 := Stand.of_body Bd
  have e0 : s₁.heap = h0 := by rw [← hh, Bd.state]; rfl
  have N0 := Fr.nil n0
  have pre0 : ∀ t, Steps p.tables e below (s₁.setTop (mkF m 0 #[.val (.int p0), .val (.int p1), .unset, .unset, .unset, .unset] [])) t → Steps p.tables e below (s₁.setTop (entryFrame m #[(.int p0), (.int p1)] maxLocals)) t := fun t k => castTop (ef_0 m p0 p1) k
  obtain ⟨T_1, h_1, X_1, e_1, E_1, A_1, D_1, -, st_1⟩ := newO X0 hx hZ hown (hw _ (List.mem_of_getElem? (i := 0) rfl)) (hw _ (List.mem_of_getElem? (i := 1) rfl)) (hw _ (List.mem_of_getElem? (i := 2) rfl)) e0 (g := (mkF m 12 #[.val (.int p0), .val (.int p1), .val (.int (0 : Int32)), .unset, .unset, .unset] [])) rfl (hb hby at_12) (by decide) (by decide)
  obtain ⟨b_1, g_1⟩ : ∃ z, z = h0.size := ⟨_, rfl⟩
  rw [← g_1] at A_1 D_1 st_1
  have g_b_1 : n0 ≤ b_1 := Nat.le_trans Z0 (Nat.le_of_eq g_1.symm)
  have sz_b_1 : h0.size ≤ b_1 := Nat.le_trans (Keep.refl h0 []).1 (Nat.le_of_eq g_1.symm)
  have K_1 : Keep h0 h_1 [] := (Keep.refl h0 []).ext E_1
  have Z_2 : n0 ≤ h_1.size := Nat.le_trans Z0 E_1.1
  have F_variables_b_1 : Fld Z h_1 b_1 "com/example/cadmus/cadmus/automaton/Bdd" "variables" "[I" .null := D_1 (Or.inl (hw _ (List.mem_of_getElem? (i := 15) rfl))) (ty := (.array .int)) (by decide)
  have F_lows_b_1 : Fld Z h_1 b_1 "com/example/cadmus/cadmus/automaton/Bdd" "lows" "[I" .null := D_1 (Or.inl (hw _ (List.mem_of_getElem? (i := 17) rfl))) (ty := (.array .int)) (by decide)
  have F_highs_b_1 : Fld Z h_1 b_1 "com/example/cadmus/cadmus/automaton/Bdd" "highs" "[I" .null := D_1 (Or.inl (hw _ (List.mem_of_getElem? (i := 19) rfl))) (ty := (.array .int)) (by decide)
  have F_unique_b_1 : Fld Z h_1 b_1 "com/example/cadmus/cadmus/automaton/Bdd" "unique" "[I" .null := D_1 (Or.inl (hw _ (List.mem_of_getElem? (i := 28) rfl))) (ty := (.array .int)) (by decide)
  have F_cacheOps_b_1 : Fld Z h_1 b_1 "com/example/cadmus/cadmus/automaton/Bdd" "cacheOps" "[I" .null := D_1 (Or.inl (hw _ (List.mem_of_getElem? (i := 30) rfl))) (ty := (.array .int)) (by decide)
  have F_cacheLefts_b_1 : Fld Z h_1 b_1 "com/example/cadmus/cadmus/automaton/Bdd" "cacheLefts" "[I" .null := D_1 (Or.inl (hw _ (List.mem_of_getElem? (i := 32) rfl))) (ty := (.array .int)) (by decide)
  have F_cacheRights_b_1 : Fld Z h_1 b_1 "com/example/cadmus/cadmus/automaton/Bdd" "cacheRights" "[I" .null := D_1 (Or.inl (hw _ (List.mem_of_getElem? (i := 34) rfl))) (ty := (.array .int)) (by decide)
  have F_cacheResults_b_1 : Fld Z h_1 b_1 "com/example/cadmus/cadmus/automaton/Bdd" "cacheResults" "[I" .null := D_1 (Or.inl (hw _ (List.mem_of_getElem? (i := 36) rfl))) (ty := (.array .int)) (by decide)
  have F_size_b_1 : Fld Z h_1 b_1 "com/example/cadmus/cadmus/automaton/Bdd" "size" "I" (.int (0 : Int32)) := D_1 (Or.inl (hw _ (List.mem_of_getElem? (i := 38) rfl))) (ty := .int) (by decide)
  have F_stepLimit_b_1 : Fld Z h_1 b_1 "com/example/cadmus/cadmus/automaton/Bdd" "stepLimit" "J" (.long (0 : Int64)) := D_1 (Or.inr (hw _ (List.mem_of_getElem? (i := 40) rfl))) (ty := .long) (by decide)
  obtain ⟨_, _, ⟨T_3, L_3, k_3, n_3⟩, -, X_3, ⟨Lc_3, hQ_3, l_3, y_3, z_3⟩, st_3⟩ := X_1.specialBack hx (y := (⟨"com/example/cadmus/cadmus/automaton/Bdd", "<init>", "()V"⟩ : MethodName)) rfl hown (mvT hZ (hw _ (List.mem_of_getElem? (i := 3) rfl))) (mvT hZ (hw _ (List.mem_of_getElem? (i := 4) rfl))) (mvT hZ (hw _ (List.mem_of_getElem? (i := 5) rfl))) (by decide) (backOf (W := 1) (rm1 l Z a0 hw [] b_1 h_1 n0 Z_2 A_1 F_variables_b_1 F_lows_b_1 F_highs_b_1 F_unique_b_1 F_cacheOps_b_1 F_cacheLefts_b_1 F_cacheRights_b_1 F_cacheResults_b_1 F_size_b_1 F_stepLimit_b_1 g_b_1) hZ (hw _ (List.mem_of_getElem? (i := 5) rfl)) (hw _ (List.mem_of_getElem? (i := 2) rfl)) (by decide) (by decide)) (g := (mkF m 16 #[.val (.int p0), .val (.int p1), .val (.int (0 : Int32)), .unset, .unset, .unset] [(.ref b_1), (.ref b_1)])) rfl (by rw [hml]; rfl) (Steps.refl _) (a := b_1) (argsL := []) (rest := [(.ref b_1)]) (lenOf pd_5 rfl) rfl (by show 2 * 0 + _ ≤ _; exact Nat.le_of_eq rfl) (hb hby at_16) (fun _ _ => ⟨rfl, e_1, (by decide : 1 + 8 ≤ _), (by decide : 11 + 23552 ≤ _)⟩)
  dsimp only [Pt.U, Pt.locs, Pt.cells, Pt.slots] at X_3 l_3 y_3 z_3 st_3 hQ_3
  subst l_3 y_3 z_3
  obtain ⟨rfl, Nq_3, Kq_3, ⟨bv_3, bl_3, bh_3, bu_3, sbv_3, sbl_3, sbh_3, sbu_3, ne_3_bv_bl, ne_3_bv_bh, ne_3_bv_bu, ne_3_bl_bh, ne_3_bl_bu, ne_3_bh_bu, F_3_variables, F_3_lows, F_3_highs, F_3_unique, F_3_size, ⟨f_3_bv, V_3_bv⟩, ⟨f_3_bl, V_3_bl⟩, ⟨f_3_bh, V_3_bh⟩, V_3_bu⟩⟩ := hQ_3
  have N_3 := Fr.app N0 Nq_3
  have KK_3 : Keep h0 T_3.heap [] := K_1.trans Kq_3 (allS (Or.inr sz_b_1) all0)
  have Z_4 : n0 ≤ T_3.heap.size := Nat.le_trans Z_2 Kq_3.1
  have nex_3_b_1_bv : b_1 ≠ bv_3 := Nat.ne_of_lt (Nat.lt_of_lt_of_le A_1.lt sbv_3)
  have g_bv_3 : n0 ≤ bv_3 := Nat.le_trans Z_2 sbv_3
  have sz_bv_3 : h0.size ≤ bv_3 := Nat.le_trans K_1.1 sbv_3
  have nex_3_b_1_bl : b_1 ≠ bl_3 := Nat.ne_of_lt (Nat.lt_of_lt_of_le A_1.lt sbl_3)
  have g_bl_3 : n0 ≤ bl_3 := Nat.le_trans Z_2 sbl_3
  have sz_bl_3 : h0.size ≤ bl_3 := Nat.le_trans K_1.1 sbl_3
  have nex_3_b_1_bh : b_1 ≠ bh_3 := Nat.ne_of_lt (Nat.lt_of_lt_of_le A_1.lt sbh_3)
  have g_bh_3 : n0 ≤ bh_3 := Nat.le_trans Z_2 sbh_3
  have sz_bh_3 : h0.size ≤ bh_3 := Nat.le_trans K_1.1 sbh_3
  have nex_3_b_1_bu : b_1 ≠ bu_3 := Nat.ne_of_lt (Nat.lt_of_lt_of_le A_1.lt sbu_3)
  have g_bu_3 : n0 ≤ bu_3 := Nat.le_trans Z_2 sbu_3
  have sz_bu_3 : h0.size ≤ bu_3 := Nat.le_trans K_1.1 sbu_3
  have f_6_E_b_1 := (A_1.keep Kq_3)
  obtain ⟨cq_5, kq_5, q_5a, q_5b, q_5c⟩ := isOf hZ rfl f_6_E_b_1
  obtain ⟨_, _, ⟨T_5, L_5, k_5, n_5⟩, -, X_5, ⟨Lc_5, hQ_5, l_5, y_5, z_5⟩, st_5⟩ := X_3.virtualBack hx (y := (⟨"com/example/cadmus/cadmus/automaton/Bdd", "variable", "(I)I"⟩ : MethodName)) (z := (⟨"com/example/cadmus/cadmus/automaton/Bdd", "variable", "(I)I"⟩ : MethodName)) hown (mvT hZ (hw _ (List.mem_of_getElem? (i := 42) rfl))) (mvT hZ (hw _ (List.mem_of_getElem? (i := 43) rfl))) (notFace_of_selects (args := #[]) (mvT hZ (hw _ (List.mem_of_getElem? (i := 45) rfl)))) (mvT hZ (hw _ (List.mem_of_getElem? (i := 45) rfl))) (mvT hZ (hw _ (List.mem_of_getElem? (i := 44) rfl))) (by decide) (backOf (W := 0) (rm6 l Z a0 hw [] b_1 vv bv_3 bl_3 bh_3 bu_3 f_3_bv f_3_bl f_3_bh r ix T_3.heap n0 Z_4 f_6_E_b_1 F_3_variables F_3_lows F_3_highs F_3_unique F_3_size V_3_bv V_3_bl V_3_bh V_3_bu g_b_1 g_bv_3 g_bl_3 g_bh_3 g_bu_3 nex_3_b_1_bv nex_3_b_1_bl nex_3_b_1_bh nex_3_b_1_bu ne_3_bv_bl ne_3_bv_bh ne_3_bv_bu ne_3_bl_bh ne_3_bl_bu ne_3_bh_bu hr_ hix0_ hix1_ hix_ hc1) hZ (hw _ (List.mem_of_getElem? (i := 46) rfl)) (hw _ (List.mem_of_getElem? (i := 2) rfl)) (by decide) (by decide)) q_5a q_5c (g := (mkF m 25 #[.val (.int p0), .val (.int p1), .val (.int (0 : Int32)), .val (.ref b_1), .unset, .unset] [(.int vv), (.ref b_1)])) rfl (by rw [hml]; rfl) (Steps.refl _) (argsL := [(.int vv)]) (rest := []) (lenOf pd_6 rfl) rfl (by show 2 * 0 + _ ≤ _; exact Nat.le_of_eq rfl) (hb hby at_25) (fun _ _ => ⟨rfl, rfl, (by decide : 9 + 0 ≤ _), (by decide : 23563 + 0 ≤ _)⟩)
  dsimp only [Pt.U, Pt.locs, Pt.cells, Pt.slots] at X_5 l_5 y_5 z_5 st_5 hQ_5
  subst l_5 y_5 z_5
  obtain ⟨rfl, Nq_5, Kq_5, Fs_5⟩ := hQ_5
  have N_5 := Fr.app N_3 Nq_5
  have KK_5 : Keep h0 T_5.heap [] := KK_3.trans Kq_5 (allS (Or.inr sz_b_1) (allS (Or.inr sz_bv_3) (allS (Or.inr sz_bl_3) (allS (Or.inr sz_bh_3) (allS (Or.inr sz_bu_3) all0)))))
  have Z_7 : n0 ≤ T_5.heap.size := Nat.le_trans Z_4 Kq_5.1
  obtain ⟨T_8, h_8, X_8, e_8, E_8, A_8, D_8, -, st_8⟩ := newO X_5 hx hZ hown (hw _ (List.mem_of_getElem? (i := 56) rfl)) (hw _ (List.mem_of_getElem? (i := 57) rfl)) (hw _ (List.mem_of_getElem? (i := 58) rfl)) rfl (g := (mkF m 30 #[.val (.int p0), .val (.int p1), .val (.int (0 : Int32)), .val (.ref b_1), .val (.int (2 : Int32)), .unset] [])) rfl (hb hby at_30) (by decide) (by decide)
  obtain ⟨b_8, g_8⟩ : ∃ z, z = T_5.heap.size := ⟨_, rfl⟩
  rw [← g_8] at A_8 D_8 st_8
  have f_9_E_b_1 := (f_6_E_b_1.keep Kq_5)
  have ne_b_1_b_8 : b_1 ≠ b_8 := Nat.ne_of_lt (Nat.lt_of_lt_of_le f_9_E_b_1.lt (Nat.le_of_eq g_8.symm))
  have g_b_8 : n0 ≤ b_8 := Nat.le_trans Z_7 (Nat.le_of_eq g_8.symm)
  have sz_b_8 : h0.size ≤ b_8 := Nat.le_trans KK_5.1 (Nat.le_of_eq g_8.symm)
  have K_8 : Keep h0 h_8 [] := KK_5.ext E_8
  have Z_10 : n0 ≤ h_8.size := Nat.le_trans Z_7 E_8.1
  have F_value_b_8 : Fld Z h_8 b_8 "com/example/cadmus/cadmus/automaton/Acceptance$Constant" "value" "Z" (.int (0 : Int32)) := D_8 (Or.inr (hw _ (List.mem_of_getElem? (i := 69) rfl))) (ty := .boolean) (by decide)
  obtain ⟨_, _, ⟨T_11, L_11, k_11, n_11⟩, -, X_11, ⟨Lc_11, hQ_11, l_11, y_11, z_11⟩, st_11⟩ := X_8.specialBack hx (y := (⟨"com/example/cadmus/cadmus/automaton/Acceptance$Constant", "<init>", "(Z)V"⟩ : MethodName)) rfl hown (mvT hZ (hw _ (List.mem_of_getElem? (i := 59) rfl))) (mvT hZ (hw _ (List.mem_of_getElem? (i := 60) rfl))) (mvT hZ (hw _ (List.mem_of_getElem? (i := 61) rfl))) (by decide) (backOf (W := 1) (rm9_0 l Z a0 hw [] b_8 h_8 n0 Z_10 A_8 F_value_b_8 g_b_8) hZ (hw _ (List.mem_of_getElem? (i := 61) rfl)) (hw _ (List.mem_of_getElem? (i := 58) rfl)) (by decide) (by decide)) (g := (mkF m 35 #[.val (.int p0), .val (.int p1), .val (.int (0 : Int32)), .val (.ref b_1), .val (.int (2 : Int32)), .unset] [(.int (0 : Int32)), (.ref b_8), (.ref b_8)])) rfl (by rw [hml]; rfl) (Steps.refl _) (a := b_8) (argsL := [(.int (0 : Int32))]) (rest := [(.ref b_8)]) (lenOf pd_7 rfl) rfl (by show 2 * 0 + _ ≤ _; exact Nat.le_of_eq rfl) (hb hby at_35) (fun _ _ => ⟨rfl, e_8, (by decide : 10 + 0 ≤ _), (by decide : 23564 + 0 ≤ _)⟩)
  dsimp only [Pt.U, Pt.locs, Pt.cells, Pt.slots] at X_11 l_11 y_11 z_11 st_11 hQ_11
  subst l_11 y_11 z_11
  obtain ⟨rfl, Nq_11, Kq_11, Fv_11⟩ := hQ_11
  have N_11 := Fr.app N_5 Nq_11
  have KK_11 : Keep h0 T_11.heap [] := K_8.trans Kq_11 (allS (Or.inr sz_b_8) all0)
  have Z_12 : n0 ≤ T_11.heap.size := Nat.le_trans Z_10 Kq_11.1
  have f_14_E_b_8 := (A_8.keep Kq_11)
  obtain ⟨cq_13, kq_13, q_13a, q_13b, q_13c⟩ := isOf hZ rfl f_14_E_b_8
  obtain ⟨_, _, ⟨T_13, L_13, k_13, n_13⟩, -, X_13, ⟨Lc_13, hQ_13, l_13, y_13, z_13⟩, st_13⟩ := X_11.virtualBack hx (y := (⟨"com/example/cadmus/cadmus/automaton/Acceptance$Constant", "function", "(Lcom/example/cadmus/cadmus/automaton/Bdd;)I"⟩ : MethodName)) (z := (⟨"com/example/cadmus/cadmus/automaton/Acceptance$Constant", "function", "(Lcom/example/cadmus/cadmus/automaton/Bdd;)I"⟩ : MethodName)) hown (mvT hZ (hw _ (List.mem_of_getElem? (i := 70) rfl))) (mvT hZ (hw _ (List.mem_of_getElem? (i := 71) rfl))) (notFace_of_selects (args := #[]) (mvT hZ (hw _ (List.mem_of_getElem? (i := 73) rfl)))) (mvT hZ (hw _ (List.mem_of_getElem? (i := 73) rfl))) (mvT hZ (hw _ (List.mem_of_getElem? (i := 72) rfl))) (by decide) (backOf (W := 0) (rm11_0 l Z a0 hw [] b_8 b_1 T_11.heap n0 Z_12 Fv_11) hZ (hw _ (List.mem_of_getElem? (i := 74) rfl)) (hw _ (List.mem_of_getElem? (i := 58) rfl)) (by decide) (by decide)) q_13a q_13c (g := (mkF m 39 #[.val (.int p0), .val (.int p1), .val (.int (0 : Int32)), .val (.ref b_1), .val (.int (2 : Int32)), .unset] [(.ref b_1), (.ref b_8)])) rfl (by rw [hml]; rfl) (Steps.refl _) (argsL := [(.ref b_1)]) (rest := []) (lenOf pd_8 rfl) rfl (by show 2 * 0 + _ ≤ _; exact Nat.le_of_eq rfl) (hb hby at_39) (fun _ _ => ⟨rfl, rfl, (by decide : 10 + 0 ≤ _), (by decide : 23564 + 0 ≤ _)⟩)
  dsimp only [Pt.U, Pt.locs, Pt.cells, Pt.slots] at X_13 l_13 y_13 z_13 st_13 hQ_13
  subst l_13 y_13 z_13
  obtain ⟨rfl, Nq_13, eq_13⟩ := hQ_13
  have N_13 := Fr.app N_11 Nq_13
  have f_16_E_b_1 := ((f_9_E_b_1.ext E_8).keep Kq_11)
  have f_17_F_b_1_size := ((Fs_5.ext E_8).keep Kq_11 (ninS ne_b_1_b_8 nin0))
  obtain ⟨cq_15, kq_15, q_15a, q_15b, q_15c⟩ := isOf hZ eq_13 f_16_E_b_1
  obtain ⟨_, _, ⟨T_15, L_15, k_15, n_15⟩, -, X_15, ⟨Lc_15, hQ_15, l_15, y_15, z_15⟩, st_15⟩ := X_13.virtualBack hx (y := (⟨"com/example/cadmus/cadmus/automaton/Bdd", "and", "(II)I"⟩ : MethodName)) (z := (⟨"com/example/cadmus/cadmus/automaton/Bdd", "and", "(II)I"⟩ : MethodName)) hown (mvT hZ (hw _ (List.mem_of_getElem? (i := 75) rfl))) (mvT hZ (hw _ (List.mem_of_getElem? (i := 76) rfl))) (notFace_of_selects (args := #[]) (mvT hZ (hw _ (List.mem_of_getElem? (i := 78) rfl)))) (mvT hZ (hw _ (List.mem_of_getElem? (i := 78) rfl))) (mvT hZ (hw _ (List.mem_of_getElem? (i := 77) rfl))) (by decide) (backOf (W := 0) (rm12_0 l Z a0 hw [] b_1 T_11.heap n0 Z_12 f_16_E_b_1 f_17_F_b_1_size) hZ (hw _ (List.mem_of_getElem? (i := 79) rfl)) (hw _ (List.mem_of_getElem? (i := 2) rfl)) (by decide) (by decide)) q_15a q_15c (g := (mkF m 95 #[.val (.int p0), .val (.int p1), .val (.int (0 : Int32)), .val (.ref b_1), .val (.int (2 : Int32)), .val (.int (0 : Int32))] [(.int (2 : Int32)), (.int (0 : Int32)), (.ref b_1)])) rfl (by rw [hml]; rfl) (Steps.refl _) (argsL := [(.int (0 : Int32)), (.int (2 : Int32))]) (rest := []) (lenOf pd_9 rfl) rfl (by show 2 * 0 + _ ≤ _; exact Nat.le_of_eq rfl) (hb hby at_95) (fun _ _ => ⟨rfl, eq_13, (by decide : 10 + 0 ≤ _), (by decide : 23564 + 0 ≤ _)⟩)
  dsimp only [Pt.U, Pt.locs, Pt.cells, Pt.slots] at X_15 l_15 y_15 z_15 st_15 hQ_15
  subst l_15 y_15 z_15
  obtain ⟨rfl, Nq_15, eq_15⟩ := hQ_15
  have N_15 := Fr.app N_13 Nq_15
  obtain ⟨cq_18, kq_18, q_18a, q_18b, q_18c⟩ := isOf hZ eq_15 f_16_E_b_1
  obtain ⟨_, _, ⟨T_18, L_18, k_18, n_18⟩, -, X_18, ⟨Lc_18, hQ_18, l_18, y_18, z_18⟩, st_18⟩ := X_15.virtualBack hx (y := (⟨"com/example/cadmus/cadmus/automaton/Bdd", "or", "(II)I"⟩ : MethodName)) (z := (⟨"com/example/cadmus/cadmus/automaton/Bdd", "or", "(II)I"⟩ : MethodName)) hown (mvT hZ (hw _ (List.mem_of_getElem? (i := 88) rfl))) (mvT hZ (hw _ (List.mem_of_getElem? (i := 89) rfl))) (notFace_of_selects (args := #[]) (mvT hZ (hw _ (List.mem_of_getElem? (i := 91) rfl)))) (mvT hZ (hw _ (List.mem_of_getElem? (i := 91) rfl))) (mvT hZ (hw _ (List.mem_of_getElem? (i := 90) rfl))) (by decide) (backOf (W := 0) (rm15_0 l Z a0 hw [] b_1 T_11.heap n0 Z_12 f_16_E_b_1 f_17_F_b_1_size) hZ (hw _ (List.mem_of_getElem? (i := 92) rfl)) (hw _ (List.mem_of_getElem? (i := 2) rfl)) (by decide) (by decide)) q_18a q_18c (g := (mkF m 106 #[.val (.int p0), .val (.int p1), .val (.int (0 : Int32)), .val (.ref b_1), .val (.int (2 : Int32)), .val (.int (0 : Int32))] [(.int (2 : Int32)), (.int (0 : Int32)), (.ref b_1)])) rfl (by rw [hml]; rfl) (Steps.refl _) (argsL := [(.int (0 : Int32)), (.int (2 : Int32))]) (rest := []) (lenOf pd_9 rfl) rfl (by show 2 * 0 + _ ≤ _; exact Nat.le_of_eq rfl) (hb hby at_106) (fun _ _ => ⟨rfl, eq_15, (by decide : 10 + 0 ≤ _), (by decide : 23564 + 0 ≤ _)⟩)
  dsimp only [Pt.U, Pt.locs, Pt.cells, Pt.slots] at X_18 l_18 y_18 z_18 st_18 hQ_18
  subst l_18 y_18 z_18
  obtain ⟨rfl, Nq_18, eq_18⟩ := hQ_18
  have N_18 := Fr.app N_15 Nq_18
  obtain ⟨fs, hr, hrun, hended, hW, hsame⟩ := X_18.leave (v := some (.int (1 : Int32))) (fun h => by rw [Bd.returns] at h; cases h)
  refine ⟨_, _, pre0 _ ?_, hrun, hended, _, _, rfl, ?_, ⟨_, rfl⟩, hW, hsame.mono (by decide) (by decide)⟩
  · show Steps p.tables e below (s₁.setTop (mkF m 0 #[.val (.int p0), .val (.int p1), .unset, .unset, .unset, .unset] [])) _
    refine XS.iloadN X0.here hx rfl (hb hby at_0) rfl ?_
    show Steps p.tables e below (s₁.setTop (mkF m 1 #[.val (.int p0), .val (.int p1), .unset, .unset, .unset, .unset] [(.int p0)])) _
    refine XS.iconst X0.here hx rfl (hb hby at_1) ?_
    show Steps p.tables e below (s₁.setTop (mkF m 2 #[.val (.int p0), .val (.int p1), .unset, .unset, .unset, .unset] [(.int (1 : Int32)), (.int p0)])) _
    refine XS.iand X0.here hx rfl (hb hby at_2) rfl ?_
    show Steps p.tables e below (s₁.setTop (mkF m 3 #[.val (.int p0), .val (.int p1), .unset, .unset, .unset, .unset] [(.int (p0 &&& (1 : Int32)))])) _
    refine XS.ifYes X0.here hx rfl (pc0 := 3) (pc' := 10) rfl (hb hby at_3) rfl ((if0 _ _).trans (teq hc3).1) (by decide) (by decide) ?_
    show Steps p.tables e below (s₁.setTop (mkF m 10 #[.val (.int p0), .val (.int p1), .unset, .unset, .unset, .unset] [])) _
    refine XS.iconst X0.here hx rfl (hb hby at_10) ?_
    show Steps p.tables e below (s₁.setTop (mkF m 11 #[.val (.int p0), .val (.int p1), .unset, .unset, .unset, .unset] [(.int (0 : Int32))])) _
    refine XS.istoreN X0.here hx rfl (hb hby at_11) rfl (l' := #[.val (.int p0), .val (.int p1), .val (.int (0 : Int32)), .unset, .unset, .unset]) rfl ?_
    show Steps p.tables e below (s₁.setTop (mkF m 12 #[.val (.int p0), .val (.int p1), .val (.int (0 : Int32)), .unset, .unset, .unset] [])) _
    refine st_1 _ ?_
    show Steps p.tables e below (T_1.setTop (mkF m 15 #[.val (.int p0), .val (.int p1), .val (.int (0 : Int32)), .unset, .unset, .unset] [(.ref b_1)])) _
    refine XS.dup X_1.here hx rfl (hb hby at_15) rfl rfl ?_
    show Steps p.tables e below (T_1.setTop (mkF m 16 #[.val (.int p0), .val (.int p1), .val (.int (0 : Int32)), .unset, .unset, .unset] [(.ref b_1), (.ref b_1)])) _
    refine st_3.trans ?_
    show Steps p.tables e below (T_3.setTop (mkF m 19 #[.val (.int p0), .val (.int p1), .val (.int (0 : Int32)), .unset, .unset, .unset] [(.ref b_1)])) _
    refine XS.astoreN X_3.here hx rfl (hb hby at_19) rfl rfl (l' := #[.val (.int p0), .val (.int p1), .val (.int (0 : Int32)), .val (.ref b_1), .unset, .unset]) rfl ?_
    show Steps p.tables e below (T_3.setTop (mkF m 20 #[.val (.int p0), .val (.int p1), .val (.int (0 : Int32)), .val (.ref b_1), .unset, .unset] [])) _
    refine XS.aloadN X_3.here hx rfl (hb hby at_20) rfl rfl ?_
    show Steps p.tables e below (T_3.setTop (mkF m 21 #[.val (.int p0), .val (.int p1), .val (.int (0 : Int32)), .val (.ref b_1), .unset, .unset] [(.ref b_1)])) _
    refine XS.iloadN X_3.here hx rfl (hb hby at_21) rfl ?_
    show Steps p.tables e below (T_3.setTop (mkF m 22 #[.val (.int p0), .val (.int p1), .val (.int (0 : Int32)), .val (.ref b_1), .unset, .unset] [(.int p1), (.ref b_1)])) _
    refine X_3.ldcInt hx hown (mvT hZ (hw _ (List.mem_of_getElem? (i := 41) rfl))) (g := (mkF m 22 #[.val (.int p0), .val (.int p1), .val (.int (0 : Int32)), .val (.ref b_1), .unset, .unset] [(.int p1), (.ref b_1)])) rfl (hb hby at_22) _ ?_
    show Steps p.tables e below (T_3.setTop (mkF m 24 #[.val (.int p0), .val (.int p1), .val (.int (0 : Int32)), .val (.ref b_1), .unset, .unset] [(.int (2147483647 : Int32)), (.int p1), (.ref b_1)])) _
    refine XS.iand X_3.here hx rfl (hb hby at_24) rfl ?_
    show Steps p.tables e below (T_3.setTop (mkF m 25 #[.val (.int p0), .val (.int p1), .val (.int (0 : Int32)), .val (.ref b_1), .unset, .unset] [(.int (p1 &&& (2147483647 : Int32))), (.ref b_1)])) _
    rw [hvv_]
    show Steps p.tables e below (T_3.setTop (mkF m 25 #[.val (.int p0), .val (.int p1), .val (.int (0 : Int32)), .val (.ref b_1), .unset, .unset] [(.int vv), (.ref b_1)])) _
    refine st_5.trans ?_
    show Steps p.tables e below (T_5.setTop (mkF m 28 #[.val (.int p0), .val (.int p1), .val (.int (0 : Int32)), .val (.ref b_1), .unset, .unset] [(.int (2 : Int32))])) _
    refine XS.istore X_5.here hx rfl (hb hby at_28) rfl (l' := #[.val (.int p0), .val (.int p1), .val (.int (0 : Int32)), .val (.ref b_1), .val (.int (2 : Int32)), .unset]) rfl ?_
    show Steps p.tables e below (T_5.setTop (mkF m 30 #[.val (.int p0), .val (.int p1), .val (.int (0 : Int32)), .val (.ref b_1), .val (.int (2 : Int32)), .unset] [])) _
    refine st_8 _ ?_
    show Steps p.tables e below (T_8.setTop (mkF m 33 #[.val (.int p0), .val (.int p1), .val (.int (0 : Int32)), .val (.ref b_1), .val (.int (2 : Int32)), .unset] [(.ref b_8)])) _
    refine XS.dup X_8.here hx rfl (hb hby at_33) rfl rfl ?_
    show Steps p.tables e below (T_8.setTop (mkF m 34 #[.val (.int p0), .val (.int p1), .val (.int (0 : Int32)), .val (.ref b_1), .val (.int (2 : Int32)), .unset] [(.ref b_8), (.ref b_8)])) _
    refine XS.iloadN X_8.here hx rfl (hb hby at_34) rfl ?_
    show Steps p.tables e below (T_8.setTop (mkF m 35 #[.val (.int p0), .val (.int p1), .val (.int (0 : Int32)), .val (.ref b_1), .val (.int (2 : Int32)), .unset] [(.int (0 : Int32)), (.ref b_8), (.ref b_8)])) _
    refine st_11.trans ?_
    show Steps p.tables e below (T_11.setTop (mkF m 38 #[.val (.int p0), .val (.int p1), .val (.int (0 : Int32)), .val (.ref b_1), .val (.int (2 : Int32)), .unset] [(.ref b_8)])) _
    refine XS.aloadN X_11.here hx rfl (hb hby at_38) rfl rfl ?_
    show Steps p.tables e below (T_11.setTop (mkF m 39 #[.val (.int p0), .val (.int p1), .val (.int (0 : Int32)), .val (.ref b_1), .val (.int (2 : Int32)), .unset] [(.ref b_1), (.ref b_8)])) _
    refine st_13.trans ?_
    show Steps p.tables e below (T_13.setTop (mkF m 42 #[.val (.int p0), .val (.int p1), .val (.int (0 : Int32)), .val (.ref b_1), .val (.int (2 : Int32)), .unset] [(.int (0 : Int32))])) _
    refine XS.istore X_13.here hx rfl (hb hby at_42) rfl (l' := #[.val (.int p0), .val (.int p1), .val (.int (0 : Int32)), .val (.ref b_1), .val (.int (2 : Int32)), .val (.int (0 : Int32))]) rfl ?_
    show Steps p.tables e below (T_13.setTop (mkF m 44 #[.val (.int p0), .val (.int p1), .val (.int (0 : Int32)), .val (.ref b_1), .val (.int (2 : Int32)), .val (.int (0 : Int32))] [])) _
    refine XS.iloadN X_13.here hx rfl (hb hby at_44) rfl ?_
    show Steps p.tables e below (T_13.setTop (mkF m 45 #[.val (.int p0), .val (.int p1), .val (.int (0 : Int32)), .val (.ref b_1), .val (.int (2 : Int32)), .val (.int (0 : Int32))] [(.int (0 : Int32))])) _
    refine XS.ifYes X_13.here hx rfl (pc0 := 45) (pc' := 85) rfl (hb hby at_45) rfl ((if0 _ _).trans (teq ((by decide) : (0 : Int32) = (0 : Int32))).1) (by decide) (by decide) ?_
    show Steps p.tables e below (T_13.setTop (mkF m 85 #[.val (.int p0), .val (.int p1), .val (.int (0 : Int32)), .val (.ref b_1), .val (.int (2 : Int32)), .val (.int (0 : Int32))] [])) _
    refine XS.iload X_13.here hx rfl (hb hby at_85) rfl ?_
    show Steps p.tables e below (T_13.setTop (mkF m 87 #[.val (.int p0), .val (.int p1), .val (.int (0 : Int32)), .val (.ref b_1), .val (.int (2 : Int32)), .val (.int (0 : Int32))] [(.int (0 : Int32))])) _
    refine XS.ifNo X_13.here hx rfl (hb hby at_87) rfl ((if0 _ _).trans (teq ((by decide) : (0 : Int32) = (0 : Int32))).2) ?_
    show Steps p.tables e below (T_13.setTop (mkF m 90 #[.val (.int p0), .val (.int p1), .val (.int (0 : Int32)), .val (.ref b_1), .val (.int (2 : Int32)), .val (.int (0 : Int32))] [])) _
    refine XS.aloadN X_13.here hx rfl (hb hby at_90) rfl rfl ?_
    show Steps p.tables e below (T_13.setTop (mkF m 91 #[.val (.int p0), .val (.int p1), .val (.int (0 : Int32)), .val (.ref b_1), .val (.int (2 : Int32)), .val (.int (0 : Int32))] [(.ref b_1)])) _
    refine XS.iload X_13.here hx rfl (hb hby at_91) rfl ?_
    show Steps p.tables e below (T_13.setTop (mkF m 93 #[.val (.int p0), .val (.int p1), .val (.int (0 : Int32)), .val (.ref b_1), .val (.int (2 : Int32)), .val (.int (0 : Int32))] [(.int (0 : Int32)), (.ref b_1)])) _
    refine XS.iload X_13.here hx rfl (hb hby at_93) rfl ?_
    show Steps p.tables e below (T_13.setTop (mkF m 95 #[.val (.int p0), .val (.int p1), .val (.int (0 : Int32)), .val (.ref b_1), .val (.int (2 : Int32)), .val (.int (0 : Int32))] [(.int (2 : Int32)), (.int (0 : Int32)), (.ref b_1)])) _
    refine st_15.trans ?_
    show Steps p.tables e below (T_15.setTop (mkF m 98 #[.val (.int p0), .val (.int p1), .val (.int (0 : Int32)), .val (.ref b_1), .val (.int (2 : Int32)), .val (.int (0 : Int32))] [(.int (0 : Int32))])) _
    refine XS.ifNo X_15.here hx rfl (hb hby at_98) rfl ((if0 _ _).trans (teq ((by decide) : (0 : Int32) = (0 : Int32))).2) ?_
    show Steps p.tables e below (T_15.setTop (mkF m 101 #[.val (.int p0), .val (.int p1), .val (.int (0 : Int32)), .val (.ref b_1), .val (.int (2 : Int32)), .val (.int (0 : Int32))] [])) _
    refine XS.aloadN X_15.here hx rfl (hb hby at_101) rfl rfl ?_
    show Steps p.tables e below (T_15.setTop (mkF m 102 #[.val (.int p0), .val (.int p1), .val (.int (0 : Int32)), .val (.ref b_1), .val (.int (2 : Int32)), .val (.int (0 : Int32))] [(.ref b_1)])) _
    refine XS.iload X_15.here hx rfl (hb hby at_102) rfl ?_
    show Steps p.tables e below (T_15.setTop (mkF m 104 #[.val (.int p0), .val (.int p1), .val (.int (0 : Int32)), .val (.ref b_1), .val (.int (2 : Int32)), .val (.int (0 : Int32))] [(.int (0 : Int32)), (.ref b_1)])) _
    refine XS.iload X_15.here hx rfl (hb hby at_104) rfl ?_
    show Steps p.tables e below (T_15.setTop (mkF m 106 #[.val (.int p0), .val (.int p1), .val (.int (0 : Int32)), .val (.ref b_1), .val (.int (2 : Int32)), .val (.int (0 : Int32))] [(.int (2 : Int32)), (.int (0 : Int32)), (.ref b_1)])) _
    refine st_18.trans ?_
    show Steps p.tables e below (T_18.setTop (mkF m 109 #[.val (.int p0), .val (.int p1), .val (.int (0 : Int32)), .val (.ref b_1), .val (.int (2 : Int32)), .val (.int (0 : Int32))] [(.int (2 : Int32))])) _
    refine XS.iload X_18.here hx rfl (hb hby at_109) rfl ?_
    show Steps p.tables e below (T_18.setTop (mkF m 111 #[.val (.int p0), .val (.int p1), .val (.int (0 : Int32)), .val (.ref b_1), .val (.int (2 : Int32)), .val (.int (0 : Int32))] [(.int (2 : Int32)), (.int (2 : Int32))])) _
    refine XS.icmpNo X_18.here hx rfl (hb hby at_111) rfl (teq ((by decide) : (2 : Int32) = (2 : Int32))).2 ?_
    show Steps p.tables e below (T_18.setTop (mkF m 114 #[.val (.int p0), .val (.int p1), .val (.int (0 : Int32)), .val (.ref b_1), .val (.int (2 : Int32)), .val (.int (0 : Int32))] [])) _
    refine XS.iconst X_18.here hx rfl (hb hby at_114) ?_
    show Steps p.tables e below (T_18.setTop (mkF m 115 #[.val (.int p0), .val (.int p1), .val (.int (0 : Int32)), .val (.ref b_1), .val (.int (2 : Int32)), .val (.int (0 : Int32))] [(.int (1 : Int32))])) _
    refine XS.goto X_18.here hx rfl (pc0 := 115) (pc' := 119) rfl (hb hby at_115) (by decide) (by decide) ?_
    show Steps p.tables e below (T_18.setTop (mkF m 119 #[.val (.int p0), .val (.int p1), .val (.int (0 : Int32)), .val (.ref b_1), .val (.int (2 : Int32)), .val (.int (0 : Int32))] [(.int (1 : Int32))])) _
    exact retN X_18 hx (t := .boolean) Bd.returns (by simp) (hb hby at_119) hr
  · show Q0 Z  h0 n0 _ T_18.heap _
    rw [eq_18]
    exact ⟨rfl, N_18⟩
def Q9_1 (Z : State) (a : Addr) (h0 : Heap) (n0 : Nat) (v : Option Value) (h : Heap) (L : List Loc) : Prop := v = none ∧ Fr n0 L ∧ Keep h0 h [a] ∧ Fld Z h a "com/example/cadmus/cadmus/automaton/Acceptance$Constant" "value" "Z" (.int (1 : Int32))
set_option maxRecDepth 65536 in
set_option maxHeartbeats 40000000 in
theorem rm9_1 (l : Launch) (Z : State) (a0 : Array Value) (hw : ∀ d ∈ tables_1, d.before a0 Z = true) (ws : List Jvm.Cond) (a : Addr) (h0 : Heap) (n0 : Nat) (Z0 : n0 ≤ h0.size) (E_a : Exa Z h0 a "com/example/cadmus/cadmus/automaton/Acceptance$Constant") (F_value : Fld Z h0 a "com/example/cadmus/cadmus/automaton/Acceptance$Constant" "value" "Z" (.int (0 : Int32))) (g_a : n0 ≤ a) :
    MetFree l (⟨"com/example/cadmus/cadmus/automaton/Acceptance$Constant", "<init>", "(Z)V"⟩ : MethodName) (head1 (Jvm.Cond.code (⟨"com/example/cadmus/cadmus/automaton/Acceptance$Constant", "<init>", "(Z)V"⟩ : MethodName) prog_6_method_1_code 2 none :: ws) ({ frames := 2, cells := 0, slots := 0, locals := 24 } : Room)) (fun as_ U => as_ = #[(.ref a), (.int (1 : Int32))] ∧ Z.Warmed39 U.vm ∧ U.heap = h0) (fun _ _ _ _ _ => True) (fun _ U o U' => ∃ v L, o = .returned v ∧ Q9_1 Z a h0 n0 v U'.heap L ∧ FrameEnd U o U' L ({ frames := 2, cells := 0, slots := 0, locals := 24 } : Room).cells ({ frames := 2, cells := 0, slots := 0, locals := 24 } : Room).slots) := by
  refine MetFree.of_bodySF (plainFor_of_name pn_9) hisR ?_
  intro p e s m args below meth c s₁ Bd hml0 hP hK
  obtain ⟨rfl, hZ, hh⟩ := hP
  have hx := Bd.exec
  have hby := Bd.bytes
  have hml : c.maxLocals = 2 := hml0
  have hown : s.vm.findClass "com/example/cadmus/cadmus/automaton/Acceptance$Constant" = some m.cls := findClass_of_methodNamed Bd.named
  have hnm := (name_of_methodNamed Bd.named Bd.method).1
  have X0 : Stand p l e ({ frames := 2, cells := 0, slots := 0, locals := 24 } : Room) s m #[(.ref a), (.int (1 : Int32))] below meth c s₁ [] 0 0 := Stand.of_body Bd
  have e0 : s₁.heap = h0 := by rw [← hh, Bd.state]; rfl
  have N0 := Fr.nil n0
  have pre0 : ∀ t, Steps p.tables e below (s₁.setTop (mkF m 0 #[.val (.ref a), .val (.int (1 : Int32))] [])) t → Steps p.tables e below (s₁.setTop (entryFrame m #[(.ref a), (.int (1 : Int32))] 2)) t := fun t k => castTop (ef_9 m a (1 : Int32)) k
  obtain ⟨_, _, ⟨T_1, L_1, k_1, n_1⟩, -, X_1, ⟨Lc_1, hQ_1, l_1, y_1, z_1⟩, st_1⟩ := X0.specialBack hx (y := (⟨"java/lang/Record", "<init>", "()V"⟩ : MethodName)) rfl hown (mvT hZ (hw _ (List.mem_of_getElem? (i := 62) rfl))) (mvT hZ (hw _ (List.mem_of_getElem? (i := 63) rfl))) (mvT hZ (hw _ (List.mem_of_getElem? (i := 66) rfl))) (by decide) (backOf (W := 0) (rmRec l Z a0 hw [] a h0 n0 Z0 ) hZ (hw _ (List.mem_of_getElem? (i := 66) rfl)) (hw _ (List.mem_of_getElem? (i := 65) rfl)) (by decide) (by decide)) (g := (mkF m 1 #[.val (.ref a), .val (.int (1 : Int32))] [(.ref a)])) rfl (by rw [hml]; rfl) (Steps.refl _) (a := a) (argsL := []) (rest := []) (lenOf pd_5 rfl) rfl (by show 2 * 0 + _ ≤ _; exact Nat.le_of_eq rfl) (hb hby d9_1) (fun _ _ => ⟨rfl, e0, (by decide : 0 + 0 ≤ _), (by decide : 0 + 0 ≤ _)⟩)
  dsimp only [Pt.U, Pt.locs, Pt.cells, Pt.slots] at X_1 l_1 y_1 z_1 st_1 hQ_1
  subst l_1 y_1 z_1
  obtain ⟨rfl, Nq_1, eq_1⟩ := hQ_1
  have N_1 := Fr.app N0 Nq_1
  obtain ⟨T_2, h_2, X_2, e_2, W_2, st_2⟩ := putFN X_1 hx hZ hown (hw _ (List.mem_of_getElem? (i := 68) rfl)) Via.refl eq_1 F_value E_a (Or.inr ⟨(hw _ (List.mem_of_getElem? (i := 69) rfl)), rfl, hnm⟩) (hw _ (List.mem_of_getElem? (i := 57) rfl)) (ty := .boolean) (v' := (.int (nar .boolean (1 : Int32)))) (by decide) rfl (fits_nar_bool (1 : Int32)) (g := (mkF m 6 #[.val (.ref a), .val (.int (1 : Int32))] [(.int (1 : Int32)), (.ref a)])) rfl rfl (hb hby d9_6)
  rw [(show nar .boolean (1 : Int32) = (1 : Int32) from by decide)] at W_2
  have Fw_2 := F_value.same W_2
  have K_2 : Keep h0 h_2 [a] := (Keep.refl h0 [a]).wr W_2 (Or.inl (List.mem_of_getElem? (i := 0) rfl))
  have N_2 := Fr.snoc X_2 N_1 g_a
  have Z_3 : n0 ≤ h_2.size := Nat.le_trans Z0 (Keep.of_wr W_2).1
  obtain ⟨fs, hr, hrun, hended, hW, hsame⟩ := X_2.leave (v := none) (fun _ => rfl)
  refine ⟨_, _, pre0 _ ?_, hrun, hended, _, _, rfl, ?_, ⟨_, rfl⟩, hW, hsame.mono (by decide) (by decide)⟩
  · show Steps p.tables e below (s₁.setTop (mkF m 0 #[.val (.ref a), .val (.int (1 : Int32))] [])) _
    refine XS.aloadN X0.here hx rfl (hb hby d9_0) rfl rfl ?_
    show Steps p.tables e below (s₁.setTop (mkF m 1 #[.val (.ref a), .val (.int (1 : Int32))] [(.ref a)])) _
    refine st_1.trans ?_
    show Steps p.tables e below (T_1.setTop (mkF m 4 #[.val (.ref a), .val (.int (1 : Int32))] [])) _
    refine XS.aloadN X_1.here hx rfl (hb hby d9_4) rfl rfl ?_
    show Steps p.tables e below (T_1.setTop (mkF m 5 #[.val (.ref a), .val (.int (1 : Int32))] [(.ref a)])) _
    refine XS.iloadN X_1.here hx rfl (hb hby d9_5) rfl ?_
    show Steps p.tables e below (T_1.setTop (mkF m 6 #[.val (.ref a), .val (.int (1 : Int32))] [(.int (1 : Int32)), (.ref a)])) _
    refine st_2 _ ?_
    show Steps p.tables e below (T_2.setTop (mkF m 9 #[.val (.ref a), .val (.int (1 : Int32))] [])) _
    exact X_2.returnOut hx Bd.returns (hb hby d9_9) hr
  · show Q9_1 Z a h0 n0 _ T_2.heap _
    rw [e_2]
    exact ⟨rfl, N_2, K_2, Fw_2⟩
theorem d11_7 : decode prog_6_method_3_code 7 = .ok (.iconst 1, 1) := by decide +kernel
theorem d11_8 : decode prog_6_method_3_code 8 = .ok (.goto 4, 3) := by decide +kernel
def Q11_1 (Z : State)  (h0 : Heap) (n0 : Nat) (v : Option Value) (h : Heap) (L : List Loc) : Prop := v = some (.int (1 : Int32)) ∧ Fr n0 L ∧ h = h0
set_option maxRecDepth 65536 in
set_option maxHeartbeats 40000000 in
theorem rm11_1 (l : Launch) (Z : State) (a0 : Array Value) (hw : ∀ d ∈ tables_1, d.before a0 Z = true) (ws : List Jvm.Cond) (a : Addr) (st : Addr) (h0 : Heap) (n0 : Nat) (Z0 : n0 ≤ h0.size) (F_v : Fld Z h0 a "com/example/cadmus/cadmus/automaton/Acceptance$Constant" "value" "Z" (.int (1 : Int32))) :
    MetFree l (⟨"com/example/cadmus/cadmus/automaton/Acceptance$Constant", "function", "(Lcom/example/cadmus/cadmus/automaton/Bdd;)I"⟩ : MethodName) (head1 (Jvm.Cond.code (⟨"com/example/cadmus/cadmus/automaton/Acceptance$Constant", "function", "(Lcom/example/cadmus/cadmus/automaton/Bdd;)I"⟩ : MethodName) prog_6_method_3_code 2 (some .int) :: ws) ({ frames := 0, cells := 0, slots := 0, locals := 0 } : Room)) (fun as_ U => as_ = #[(.ref a), (.ref st)] ∧ Z.Warmed39 U.vm ∧ U.heap = h0) (fun _ _ _ _ _ => True) (fun _ U o U' => ∃ v L, o = .returned v ∧ Q11_1 Z  h0 n0 v U'.heap L ∧ FrameEnd U o U' L ({ frames := 0, cells := 0, slots := 0, locals := 0 } : Room).cells ({ frames := 0, cells := 0, slots := 0, locals := 0 } : Room).slots) := by
  refine MetFree.of_bodySF (plainFor_of_name pn_11) hisR ?_
  intro p e s m args below meth c s₁ Bd hml0 hP hK
  obtain ⟨rfl, hZ, hh⟩ := hP
  have hx := Bd.exec
  have hby := Bd.bytes
  have hml : c.maxLocals = 2 := hml0
  have hown : s.vm.findClass "com/example/cadmus/cadmus/automaton/Acceptance$Constant" = some m.cls := findClass_of_methodNamed Bd.named
  have hnm := (name_of_methodNamed Bd.named Bd.method).1
  have X0 : Stand p l e ({ frames := 0, cells := 0, slots := 0, locals := 0 } : Room) s m #[(.ref a), (.ref st)] below meth c s₁ [] 0 0 := Stand.of_body Bd
  have e0 : s₁.heap = h0 := by rw [← hh, Bd.state]; rfl
  have N0 := Fr.nil n0
  have pre0 : ∀ t, Steps p.tables e below (s₁.setTop (mkF m 0 #[.val (.ref a), .val (.ref st)] [])) t → Steps p.tables e below (s₁.setTop (entryFrame m #[(.ref a), (.ref st)] 2)) t := fun t k => castTop (ef_11 m a st) k
  obtain ⟨T_1, X_1, e_1, st_1⟩ := getF X0 hx hZ hown (host := "") (Or.inl (hw _ (List.mem_of_getElem? (i := 68) rfl))) Via.refl e0 F_v (g := (mkF m 1 #[.val (.ref a), .val (.ref st)] [(.ref a)])) rfl rfl (hb hby d11_1)
  obtain ⟨fs, hr, hrun, hended, hW, hsame⟩ := X_1.leave (v := some (.int (1 : Int32))) (fun h => by rw [Bd.returns] at h; cases h)
  refine ⟨_, _, pre0 _ ?_, hrun, hended, _, _, rfl, ?_, ⟨_, rfl⟩, hW, hsame.mono (by decide) (by decide)⟩
  · show Steps p.tables e below (s₁.setTop (mkF m 0 #[.val (.ref a), .val (.ref st)] [])) _
    refine XS.aloadN X0.here hx rfl (hb hby d11_0) rfl rfl ?_
    show Steps p.tables e below (s₁.setTop (mkF m 1 #[.val (.ref a), .val (.ref st)] [(.ref a)])) _
    refine st_1 _ ?_
    show Steps p.tables e below (T_1.setTop (mkF m 4 #[.val (.ref a), .val (.ref st)] [(.int (1 : Int32))])) _
    refine XS.ifNo X_1.here hx rfl (hb hby d11_4) rfl ((if0 _ _).trans (feq ((by decide) : ¬ ((1 : Int32) = (0 : Int32)))).1) ?_
    show Steps p.tables e below (T_1.setTop (mkF m 7 #[.val (.ref a), .val (.ref st)] [])) _
    refine XS.iconst X_1.here hx rfl (hb hby d11_7) ?_
    show Steps p.tables e below (T_1.setTop (mkF m 8 #[.val (.ref a), .val (.ref st)] [(.int (1 : Int32))])) _
    refine XS.goto X_1.here hx rfl (pc0 := 8) (pc' := 12) rfl (hb hby d11_8) (by decide) (by decide) ?_
    show Steps p.tables e below (T_1.setTop (mkF m 12 #[.val (.ref a), .val (.ref st)] [(.int (1 : Int32))])) _
    exact retI X_1 hx Bd.returns (hb hby d11_12) hr
  · show Q11_1 Z  h0 n0 _ T_1.heap _
    rw [e_1]
    exact ⟨rfl, N0, rfl⟩
set_option maxRecDepth 65536 in
set_option maxHeartbeats 40000000 in
theorem rm0_1 (l : Launch) (Z : State) (a0 : Array Value) (hw : ∀ d ∈ tables_1, d.before a0 Z = true) (ws : List Jvm.Cond) (p0 : Int32) (p1 : Int32) (vv : Int32) (r : Int32) (ix : Int32) (h0 : Heap) (n0 : Nat) (Z0 : n0 ≤ h0.size) (hr_ : own_hash vv 0 1 = r) (hix0_ : ¬ ix < 0) (hix1_ : ix < 2048) (hix_ : (r &&& (2047 : Int32)) = ix) (hc1 : ¬ (vv < (0 : Int32))) (hc3 : ¬ ((p0 &&& (1 : Int32)) = (0 : Int32))) (hvv_ : (p1 &&& (2147483647 : Int32)) = vv) :
    MetFree l x (head1 (Jvm.Cond.code x code maxLocals ret :: ws) room_1) (fun as_ U => as_ = #[(.int p0), (.int p1)] ∧ Z.Warmed39 U.vm ∧ U.heap = h0) (fun _ _ _ _ _ => True) (fun _ U o U' => ∃ v L, o = .returned v ∧ Q0 Z  h0 n0 v U'.heap L ∧ FrameEnd U o U' L 10 23564) := by
  refine MetFree.of_bodySF (plainFor_of_name pn_0) hisR ?_
  intro p e s m args below meth c s₁ Bd hml0 hP hK
  obtain ⟨rfl, hZ, hh⟩ := hP
  have hx := Bd.exec
  have hby := Bd.bytes
  have hml : c.maxLocals = 6 := hml0
  have hown : s.vm.findClass "com/example/cadmus/cadmus/automaton/ConstantFunctionPinLaw" = some m.cls := findClass_of_methodNamed Bd.named
  have hnm := (name_of_methodNamed Bd.named Bd.method).1
  have X0 : Stand p l e room_1 s m #[(.int p0), (.int p1)] below meth c s₁ [] 0 0 := Stand.of_body Bd
  have e0 : s₁.heap = h0 := by rw [← hh, Bd.state]; rfl
  have N0 := Fr.nil n0
  have pre0 : ∀ t, Steps p.tables e below (s₁.setTop (mkF m 0 #[.val (.int p0), .val (.int p1), .unset, .unset, .unset, .unset] [])) t → Steps p.tables e below (s₁.setTop (entryFrame m #[(.int p0), (.int p1)] maxLocals)) t := fun t k => castTop (ef_0 m p0 p1) k
  obtain ⟨T_1, h_1, X_1, e_1, E_1, A_1, D_1, -, st_1⟩ := newO X0 hx hZ hown (hw _ (List.mem_of_getElem? (i := 0) rfl)) (hw _ (List.mem_of_getElem? (i := 1) rfl)) (hw _ (List.mem_of_getElem? (i := 2) rfl)) e0 (g := (mkF m 12 #[.val (.int p0), .val (.int p1), .val (.int (1 : Int32)), .unset, .unset, .unset] [])) rfl (hb hby at_12) (by decide) (by decide)
  obtain ⟨b_1, g_1⟩ : ∃ z, z = h0.size := ⟨_, rfl⟩
  rw [← g_1] at A_1 D_1 st_1
  have g_b_1 : n0 ≤ b_1 := Nat.le_trans Z0 (Nat.le_of_eq g_1.symm)
  have sz_b_1 : h0.size ≤ b_1 := Nat.le_trans (Keep.refl h0 []).1 (Nat.le_of_eq g_1.symm)
  have K_1 : Keep h0 h_1 [] := (Keep.refl h0 []).ext E_1
  have Z_2 : n0 ≤ h_1.size := Nat.le_trans Z0 E_1.1
  have F_variables_b_1 : Fld Z h_1 b_1 "com/example/cadmus/cadmus/automaton/Bdd" "variables" "[I" .null := D_1 (Or.inl (hw _ (List.mem_of_getElem? (i := 15) rfl))) (ty := (.array .int)) (by decide)
  have F_lows_b_1 : Fld Z h_1 b_1 "com/example/cadmus/cadmus/automaton/Bdd" "lows" "[I" .null := D_1 (Or.inl (hw _ (List.mem_of_getElem? (i := 17) rfl))) (ty := (.array .int)) (by decide)
  have F_highs_b_1 : Fld Z h_1 b_1 "com/example/cadmus/cadmus/automaton/Bdd" "highs" "[I" .null := D_1 (Or.inl (hw _ (List.mem_of_getElem? (i := 19) rfl))) (ty := (.array .int)) (by decide)
  have F_unique_b_1 : Fld Z h_1 b_1 "com/example/cadmus/cadmus/automaton/Bdd" "unique" "[I" .null := D_1 (Or.inl (hw _ (List.mem_of_getElem? (i := 28) rfl))) (ty := (.array .int)) (by decide)
  have F_cacheOps_b_1 : Fld Z h_1 b_1 "com/example/cadmus/cadmus/automaton/Bdd" "cacheOps" "[I" .null := D_1 (Or.inl (hw _ (List.mem_of_getElem? (i := 30) rfl))) (ty := (.array .int)) (by decide)
  have F_cacheLefts_b_1 : Fld Z h_1 b_1 "com/example/cadmus/cadmus/automaton/Bdd" "cacheLefts" "[I" .null := D_1 (Or.inl (hw _ (List.mem_of_getElem? (i := 32) rfl))) (ty := (.array .int)) (by decide)
  have F_cacheRights_b_1 : Fld Z h_1 b_1 "com/example/cadmus/cadmus/automaton/Bdd" "cacheRights" "[I" .null := D_1 (Or.inl (hw _ (List.mem_of_getElem? (i := 34) rfl))) (ty := (.array .int)) (by decide)
  have F_cacheResults_b_1 : Fld Z h_1 b_1 "com/example/cadmus/cadmus/automaton/Bdd" "cacheResults" "[I" .null := D_1 (Or.inl (hw _ (List.mem_of_getElem? (i := 36) rfl))) (ty := (.array .int)) (by decide)
  have F_size_b_1 : Fld Z h_1 b_1 "com/example/cadmus/cadmus/automaton/Bdd" "size" "I" (.int (0 : Int32)) := D_1 (Or.inl (hw _ (List.mem_of_getElem? (i := 38) rfl))) (ty := .int) (by decide)
  have F_stepLimit_b_1 : Fld Z h_1 b_1 "com/example/cadmus/cadmus/automaton/Bdd" "stepLimit" "J" (.long (0 : Int64)) := D_1 (Or.inr (hw _ (List.mem_of_getElem? (i := 40) rfl))) (ty := .long) (by decide)
  obtain ⟨_, _, ⟨T_3, L_3, k_3, n_3⟩, -, X_3, ⟨Lc_3, hQ_3, l_3, y_3, z_3⟩, st_3⟩ := X_1.specialBack hx (y := (⟨"com/example/cadmus/cadmus/automaton/Bdd", "<init>", "()V"⟩ : MethodName)) rfl hown (mvT hZ (hw _ (List.mem_of_getElem? (i := 3) rfl))) (mvT hZ (hw _ (List.mem_of_getElem? (i := 4) rfl))) (mvT hZ (hw _ (List.mem_of_getElem? (i := 5) rfl))) (by decide) (backOf (W := 1) (rm1 l Z a0 hw [] b_1 h_1 n0 Z_2 A_1 F_variables_b_1 F_lows_b_1 F_highs_b_1 F_unique_b_1 F_cacheOps_b_1 F_cacheLefts_b_1 F_cacheRights_b_1 F_cacheResults_b_1 F_size_b_1 F_stepLimit_b_1 g_b_1) hZ (hw _ (List.mem_of_getElem? (i := 5) rfl)) (hw _ (List.mem_of_getElem? (i := 2) rfl)) (by decide) (by decide)) (g := (mkF m 16 #[.val (.int p0), .val (.int p1), .val (.int (1 : Int32)), .unset, .unset, .unset] [(.ref b_1), (.ref b_1)])) rfl (by rw [hml]; rfl) (Steps.refl _) (a := b_1) (argsL := []) (rest := [(.ref b_1)]) (lenOf pd_5 rfl) rfl (by show 2 * 0 + _ ≤ _; exact Nat.le_of_eq rfl) (hb hby at_16) (fun _ _ => ⟨rfl, e_1, (by decide : 1 + 8 ≤ _), (by decide : 11 + 23552 ≤ _)⟩)
  dsimp only [Pt.U, Pt.locs, Pt.cells, Pt.slots] at X_3 l_3 y_3 z_3 st_3 hQ_3
  subst l_3 y_3 z_3
  obtain ⟨rfl, Nq_3, Kq_3, ⟨bv_3, bl_3, bh_3, bu_3, sbv_3, sbl_3, sbh_3, sbu_3, ne_3_bv_bl, ne_3_bv_bh, ne_3_bv_bu, ne_3_bl_bh, ne_3_bl_bu, ne_3_bh_bu, F_3_variables, F_3_lows, F_3_highs, F_3_unique, F_3_size, ⟨f_3_bv, V_3_bv⟩, ⟨f_3_bl, V_3_bl⟩, ⟨f_3_bh, V_3_bh⟩, V_3_bu⟩⟩ := hQ_3
  have N_3 := Fr.app N0 Nq_3
  have KK_3 : Keep h0 T_3.heap [] := K_1.trans Kq_3 (allS (Or.inr sz_b_1) all0)
  have Z_4 : n0 ≤ T_3.heap.size := Nat.le_trans Z_2 Kq_3.1
  have nex_3_b_1_bv : b_1 ≠ bv_3 := Nat.ne_of_lt (Nat.lt_of_lt_of_le A_1.lt sbv_3)
  have g_bv_3 : n0 ≤ bv_3 := Nat.le_trans Z_2 sbv_3
  have sz_bv_3 : h0.size ≤ bv_3 := Nat.le_trans K_1.1 sbv_3
  have nex_3_b_1_bl : b_1 ≠ bl_3 := Nat.ne_of_lt (Nat.lt_of_lt_of_le A_1.lt sbl_3)
  have g_bl_3 : n0 ≤ bl_3 := Nat.le_trans Z_2 sbl_3
  have sz_bl_3 : h0.size ≤ bl_3 := Nat.le_trans K_1.1 sbl_3
  have nex_3_b_1_bh : b_1 ≠ bh_3 := Nat.ne_of_lt (Nat.lt_of_lt_of_le A_1.lt sbh_3)
  have g_bh_3 : n0 ≤ bh_3 := Nat.le_trans Z_2 sbh_3
  have sz_bh_3 : h0.size ≤ bh_3 := Nat.le_trans K_1.1 sbh_3
  have nex_3_b_1_bu : b_1 ≠ bu_3 := Nat.ne_of_lt (Nat.lt_of_lt_of_le A_1.lt sbu_3)
  have g_bu_3 : n0 ≤ bu_3 := Nat.le_trans Z_2 sbu_3
  have sz_bu_3 : h0.size ≤ bu_3 := Nat.le_trans K_1.1 sbu_3
  have f_6_E_b_1 := (A_1.keep Kq_3)
  obtain ⟨cq_5, kq_5, q_5a, q_5b, q_5c⟩ := isOf hZ rfl f_6_E_b_1
  obtain ⟨_, _, ⟨T_5, L_5, k_5, n_5⟩, -, X_5, ⟨Lc_5, hQ_5, l_5, y_5, z_5⟩, st_5⟩ := X_3.virtualBack hx (y := (⟨"com/example/cadmus/cadmus/automaton/Bdd", "variable", "(I)I"⟩ : MethodName)) (z := (⟨"com/example/cadmus/cadmus/automaton/Bdd", "variable", "(I)I"⟩ : MethodName)) hown (mvT hZ (hw _ (List.mem_of_getElem? (i := 42) rfl))) (mvT hZ (hw _ (List.mem_of_getElem? (i := 43) rfl))) (notFace_of_selects (args := #[]) (mvT hZ (hw _ (List.mem_of_getElem? (i := 45) rfl)))) (mvT hZ (hw _ (List.mem_of_getElem? (i := 45) rfl))) (mvT hZ (hw _ (List.mem_of_getElem? (i := 44) rfl))) (by decide) (backOf (W := 0) (rm6 l Z a0 hw [] b_1 vv bv_3 bl_3 bh_3 bu_3 f_3_bv f_3_bl f_3_bh r ix T_3.heap n0 Z_4 f_6_E_b_1 F_3_variables F_3_lows F_3_highs F_3_unique F_3_size V_3_bv V_3_bl V_3_bh V_3_bu g_b_1 g_bv_3 g_bl_3 g_bh_3 g_bu_3 nex_3_b_1_bv nex_3_b_1_bl nex_3_b_1_bh nex_3_b_1_bu ne_3_bv_bl ne_3_bv_bh ne_3_bv_bu ne_3_bl_bh ne_3_bl_bu ne_3_bh_bu hr_ hix0_ hix1_ hix_ hc1) hZ (hw _ (List.mem_of_getElem? (i := 46) rfl)) (hw _ (List.mem_of_getElem? (i := 2) rfl)) (by decide) (by decide)) q_5a q_5c (g := (mkF m 25 #[.val (.int p0), .val (.int p1), .val (.int (1 : Int32)), .val (.ref b_1), .unset, .unset] [(.int vv), (.ref b_1)])) rfl (by rw [hml]; rfl) (Steps.refl _) (argsL := [(.int vv)]) (rest := []) (lenOf pd_6 rfl) rfl (by show 2 * 0 + _ ≤ _; exact Nat.le_of_eq rfl) (hb hby at_25) (fun _ _ => ⟨rfl, rfl, (by decide : 9 + 0 ≤ _), (by decide : 23563 + 0 ≤ _)⟩)
  dsimp only [Pt.U, Pt.locs, Pt.cells, Pt.slots] at X_5 l_5 y_5 z_5 st_5 hQ_5
  subst l_5 y_5 z_5
  obtain ⟨rfl, Nq_5, Kq_5, Fs_5⟩ := hQ_5
  have N_5 := Fr.app N_3 Nq_5
  have KK_5 : Keep h0 T_5.heap [] := KK_3.trans Kq_5 (allS (Or.inr sz_b_1) (allS (Or.inr sz_bv_3) (allS (Or.inr sz_bl_3) (allS (Or.inr sz_bh_3) (allS (Or.inr sz_bu_3) all0)))))
  have Z_7 : n0 ≤ T_5.heap.size := Nat.le_trans Z_4 Kq_5.1
  obtain ⟨T_8, h_8, X_8, e_8, E_8, A_8, D_8, -, st_8⟩ := newO X_5 hx hZ hown (hw _ (List.mem_of_getElem? (i := 56) rfl)) (hw _ (List.mem_of_getElem? (i := 57) rfl)) (hw _ (List.mem_of_getElem? (i := 58) rfl)) rfl (g := (mkF m 30 #[.val (.int p0), .val (.int p1), .val (.int (1 : Int32)), .val (.ref b_1), .val (.int (2 : Int32)), .unset] [])) rfl (hb hby at_30) (by decide) (by decide)
  obtain ⟨b_8, g_8⟩ : ∃ z, z = T_5.heap.size := ⟨_, rfl⟩
  rw [← g_8] at A_8 D_8 st_8
  have f_9_E_b_1 := (f_6_E_b_1.keep Kq_5)
  have ne_b_1_b_8 : b_1 ≠ b_8 := Nat.ne_of_lt (Nat.lt_of_lt_of_le f_9_E_b_1.lt (Nat.le_of_eq g_8.symm))
  have g_b_8 : n0 ≤ b_8 := Nat.le_trans Z_7 (Nat.le_of_eq g_8.symm)
  have sz_b_8 : h0.size ≤ b_8 := Nat.le_trans KK_5.1 (Nat.le_of_eq g_8.symm)
  have K_8 : Keep h0 h_8 [] := KK_5.ext E_8
  have Z_10 : n0 ≤ h_8.size := Nat.le_trans Z_7 E_8.1
  have F_value_b_8 : Fld Z h_8 b_8 "com/example/cadmus/cadmus/automaton/Acceptance$Constant" "value" "Z" (.int (0 : Int32)) := D_8 (Or.inr (hw _ (List.mem_of_getElem? (i := 69) rfl))) (ty := .boolean) (by decide)
  obtain ⟨_, _, ⟨T_11, L_11, k_11, n_11⟩, -, X_11, ⟨Lc_11, hQ_11, l_11, y_11, z_11⟩, st_11⟩ := X_8.specialBack hx (y := (⟨"com/example/cadmus/cadmus/automaton/Acceptance$Constant", "<init>", "(Z)V"⟩ : MethodName)) rfl hown (mvT hZ (hw _ (List.mem_of_getElem? (i := 59) rfl))) (mvT hZ (hw _ (List.mem_of_getElem? (i := 60) rfl))) (mvT hZ (hw _ (List.mem_of_getElem? (i := 61) rfl))) (by decide) (backOf (W := 1) (rm9_1 l Z a0 hw [] b_8 h_8 n0 Z_10 A_8 F_value_b_8 g_b_8) hZ (hw _ (List.mem_of_getElem? (i := 61) rfl)) (hw _ (List.mem_of_getElem? (i := 58) rfl)) (by decide) (by decide)) (g := (mkF m 35 #[.val (.int p0), .val (.int p1), .val (.int (1 : Int32)), .val (.ref b_1), .val (.int (2 : Int32)), .unset] [(.int (1 : Int32)), (.ref b_8), (.ref b_8)])) rfl (by rw [hml]; rfl) (Steps.refl _) (a := b_8) (argsL := [(.int (1 : Int32))]) (rest := [(.ref b_8)]) (lenOf pd_7 rfl) rfl (by show 2 * 0 + _ ≤ _; exact Nat.le_of_eq rfl) (hb hby at_35) (fun _ _ => ⟨rfl, e_8, (by decide : 10 + 0 ≤ _), (by decide : 23564 + 0 ≤ _)⟩)
  dsimp only [Pt.U, Pt.locs, Pt.cells, Pt.slots] at X_11 l_11 y_11 z_11 st_11 hQ_11
  subst l_11 y_11 z_11
  obtain ⟨rfl, Nq_11, Kq_11, Fv_11⟩ := hQ_11
  have N_11 := Fr.app N_5 Nq_11
  have KK_11 : Keep h0 T_11.heap [] := K_8.trans Kq_11 (allS (Or.inr sz_b_8) all0)
  have Z_12 : n0 ≤ T_11.heap.size := Nat.le_trans Z_10 Kq_11.1
  have f_14_E_b_8 := (A_8.keep Kq_11)
  obtain ⟨cq_13, kq_13, q_13a, q_13b, q_13c⟩ := isOf hZ rfl f_14_E_b_8
  obtain ⟨_, _, ⟨T_13, L_13, k_13, n_13⟩, -, X_13, ⟨Lc_13, hQ_13, l_13, y_13, z_13⟩, st_13⟩ := X_11.virtualBack hx (y := (⟨"com/example/cadmus/cadmus/automaton/Acceptance$Constant", "function", "(Lcom/example/cadmus/cadmus/automaton/Bdd;)I"⟩ : MethodName)) (z := (⟨"com/example/cadmus/cadmus/automaton/Acceptance$Constant", "function", "(Lcom/example/cadmus/cadmus/automaton/Bdd;)I"⟩ : MethodName)) hown (mvT hZ (hw _ (List.mem_of_getElem? (i := 70) rfl))) (mvT hZ (hw _ (List.mem_of_getElem? (i := 71) rfl))) (notFace_of_selects (args := #[]) (mvT hZ (hw _ (List.mem_of_getElem? (i := 73) rfl)))) (mvT hZ (hw _ (List.mem_of_getElem? (i := 73) rfl))) (mvT hZ (hw _ (List.mem_of_getElem? (i := 72) rfl))) (by decide) (backOf (W := 0) (rm11_1 l Z a0 hw [] b_8 b_1 T_11.heap n0 Z_12 Fv_11) hZ (hw _ (List.mem_of_getElem? (i := 74) rfl)) (hw _ (List.mem_of_getElem? (i := 58) rfl)) (by decide) (by decide)) q_13a q_13c (g := (mkF m 39 #[.val (.int p0), .val (.int p1), .val (.int (1 : Int32)), .val (.ref b_1), .val (.int (2 : Int32)), .unset] [(.ref b_1), (.ref b_8)])) rfl (by rw [hml]; rfl) (Steps.refl _) (argsL := [(.ref b_1)]) (rest := []) (lenOf pd_8 rfl) rfl (by show 2 * 0 + _ ≤ _; exact Nat.le_of_eq rfl) (hb hby at_39) (fun _ _ => ⟨rfl, rfl, (by decide : 10 + 0 ≤ _), (by decide : 23564 + 0 ≤ _)⟩)
  dsimp only [Pt.U, Pt.locs, Pt.cells, Pt.slots] at X_13 l_13 y_13 z_13 st_13 hQ_13
  subst l_13 y_13 z_13
  obtain ⟨rfl, Nq_13, eq_13⟩ := hQ_13
  have N_13 := Fr.app N_11 Nq_13
  have f_16_E_b_1 := ((f_9_E_b_1.ext E_8).keep Kq_11)
  have f_17_F_b_1_size := ((Fs_5.ext E_8).keep Kq_11 (ninS ne_b_1_b_8 nin0))
  obtain ⟨cq_15, kq_15, q_15a, q_15b, q_15c⟩ := isOf hZ eq_13 f_16_E_b_1
  obtain ⟨_, _, ⟨T_15, L_15, k_15, n_15⟩, -, X_15, ⟨Lc_15, hQ_15, l_15, y_15, z_15⟩, st_15⟩ := X_13.virtualBack hx (y := (⟨"com/example/cadmus/cadmus/automaton/Bdd", "and", "(II)I"⟩ : MethodName)) (z := (⟨"com/example/cadmus/cadmus/automaton/Bdd", "and", "(II)I"⟩ : MethodName)) hown (mvT hZ (hw _ (List.mem_of_getElem? (i := 75) rfl))) (mvT hZ (hw _ (List.mem_of_getElem? (i := 76) rfl))) (notFace_of_selects (args := #[]) (mvT hZ (hw _ (List.mem_of_getElem? (i := 78) rfl)))) (mvT hZ (hw _ (List.mem_of_getElem? (i := 78) rfl))) (mvT hZ (hw _ (List.mem_of_getElem? (i := 77) rfl))) (by decide) (backOf (W := 0) (rm12_1 l Z a0 hw [] b_1 T_11.heap n0 Z_12 f_16_E_b_1 f_17_F_b_1_size) hZ (hw _ (List.mem_of_getElem? (i := 79) rfl)) (hw _ (List.mem_of_getElem? (i := 2) rfl)) (by decide) (by decide)) q_15a q_15c (g := (mkF m 59 #[.val (.int p0), .val (.int p1), .val (.int (1 : Int32)), .val (.ref b_1), .val (.int (2 : Int32)), .val (.int (1 : Int32))] [(.int (2 : Int32)), (.int (1 : Int32)), (.ref b_1)])) rfl (by rw [hml]; rfl) (Steps.refl _) (argsL := [(.int (1 : Int32)), (.int (2 : Int32))]) (rest := []) (lenOf pd_9 rfl) rfl (by show 2 * 0 + _ ≤ _; exact Nat.le_of_eq rfl) (hb hby at_59) (fun _ _ => ⟨rfl, eq_13, (by decide : 10 + 0 ≤ _), (by decide : 23564 + 0 ≤ _)⟩)
  dsimp only [Pt.U, Pt.locs, Pt.cells, Pt.slots] at X_15 l_15 y_15 z_15 st_15 hQ_15
  subst l_15 y_15 z_15
  obtain ⟨rfl, Nq_15, eq_15⟩ := hQ_15
  have N_15 := Fr.app N_13 Nq_15
  obtain ⟨cq_18, kq_18, q_18a, q_18b, q_18c⟩ := isOf hZ eq_15 f_16_E_b_1
  obtain ⟨_, _, ⟨T_18, L_18, k_18, n_18⟩, -, X_18, ⟨Lc_18, hQ_18, l_18, y_18, z_18⟩, st_18⟩ := X_15.virtualBack hx (y := (⟨"com/example/cadmus/cadmus/automaton/Bdd", "or", "(II)I"⟩ : MethodName)) (z := (⟨"com/example/cadmus/cadmus/automaton/Bdd", "or", "(II)I"⟩ : MethodName)) hown (mvT hZ (hw _ (List.mem_of_getElem? (i := 88) rfl))) (mvT hZ (hw _ (List.mem_of_getElem? (i := 89) rfl))) (notFace_of_selects (args := #[]) (mvT hZ (hw _ (List.mem_of_getElem? (i := 91) rfl)))) (mvT hZ (hw _ (List.mem_of_getElem? (i := 91) rfl))) (mvT hZ (hw _ (List.mem_of_getElem? (i := 90) rfl))) (by decide) (backOf (W := 0) (rm15_1 l Z a0 hw [] b_1 T_11.heap n0 Z_12 f_16_E_b_1 f_17_F_b_1_size) hZ (hw _ (List.mem_of_getElem? (i := 92) rfl)) (hw _ (List.mem_of_getElem? (i := 2) rfl)) (by decide) (by decide)) q_18a q_18c (g := (mkF m 72 #[.val (.int p0), .val (.int p1), .val (.int (1 : Int32)), .val (.ref b_1), .val (.int (2 : Int32)), .val (.int (1 : Int32))] [(.int (2 : Int32)), (.int (1 : Int32)), (.ref b_1)])) rfl (by rw [hml]; rfl) (Steps.refl _) (argsL := [(.int (1 : Int32)), (.int (2 : Int32))]) (rest := []) (lenOf pd_9 rfl) rfl (by show 2 * 0 + _ ≤ _; exact Nat.le_of_eq rfl) (hb hby at_72) (fun _ _ => ⟨rfl, eq_15, (by decide : 10 + 0 ≤ _), (by decide : 23564 + 0 ≤ _)⟩)
  dsimp only [Pt.U, Pt.locs, Pt.cells, Pt.slots] at X_18 l_18 y_18 z_18 st_18 hQ_18
  subst l_18 y_18 z_18
  obtain ⟨rfl, Nq_18, eq_18⟩ := hQ_18
  have N_18 := Fr.app N_15 Nq_18
  obtain ⟨fs, hr, hrun, hended, hW, hsame⟩ := X_18.leave (v := some (.int (1 : Int32))) (fun h => by rw [Bd.returns] at h; cases h)
  refine ⟨_, _, pre0 _ ?_, hrun, hended, _, _, rfl, ?_, ⟨_, rfl⟩, hW, hsame.mono (by decide) (by decide)⟩
  · show Steps p.tables e below (s₁.setTop (mkF m 0 #[.val (.int p0), .val (.int p1), .unset, .unset, .unset, .unset] [])) _
    refine XS.iloadN X0.here hx rfl (hb hby at_0) rfl ?_
    show Steps p.tables e below (s₁.setTop (mkF m 1 #[.val (.int p0), .val (.int p1), .unset, .unset, .unset, .unset] [(.int p0)])) _
    refine XS.iconst X0.here hx rfl (hb hby at_1) ?_
    show Steps p.tables e below (s₁.setTop (mkF m 2 #[.val (.int p0), .val (.int p1), .unset, .unset, .unset, .unset] [(.int (1 : Int32)), (.int p0)])) _
    refine XS.iand X0.here hx rfl (hb hby at_2) rfl ?_
    show Steps p.tables e below (s₁.setTop (mkF m 3 #[.val (.int p0), .val (.int p1), .unset, .unset, .unset, .unset] [(.int (p0 &&& (1 : Int32)))])) _
    refine XS.ifNo X0.here hx rfl (hb hby at_3) rfl ((if0 _ _).trans (feq hc3).1) ?_
    show Steps p.tables e below (s₁.setTop (mkF m 6 #[.val (.int p0), .val (.int p1), .unset, .unset, .unset, .unset] [])) _
    refine XS.iconst X0.here hx rfl (hb hby at_6) ?_
    show Steps p.tables e below (s₁.setTop (mkF m 7 #[.val (.int p0), .val (.int p1), .unset, .unset, .unset, .unset] [(.int (1 : Int32))])) _
    refine XS.goto X0.here hx rfl (pc0 := 7) (pc' := 11) rfl (hb hby at_7) (by decide) (by decide) ?_
    show Steps p.tables e below (s₁.setTop (mkF m 11 #[.val (.int p0), .val (.int p1), .unset, .unset, .unset, .unset] [(.int (1 : Int32))])) _
    refine XS.istoreN X0.here hx rfl (hb hby at_11) rfl (l' := #[.val (.int p0), .val (.int p1), .val (.int (1 : Int32)), .unset, .unset, .unset]) rfl ?_
    show Steps p.tables e below (s₁.setTop (mkF m 12 #[.val (.int p0), .val (.int p1), .val (.int (1 : Int32)), .unset, .unset, .unset] [])) _
    refine st_1 _ ?_
    show Steps p.tables e below (T_1.setTop (mkF m 15 #[.val (.int p0), .val (.int p1), .val (.int (1 : Int32)), .unset, .unset, .unset] [(.ref b_1)])) _
    refine XS.dup X_1.here hx rfl (hb hby at_15) rfl rfl ?_
    show Steps p.tables e below (T_1.setTop (mkF m 16 #[.val (.int p0), .val (.int p1), .val (.int (1 : Int32)), .unset, .unset, .unset] [(.ref b_1), (.ref b_1)])) _
    refine st_3.trans ?_
    show Steps p.tables e below (T_3.setTop (mkF m 19 #[.val (.int p0), .val (.int p1), .val (.int (1 : Int32)), .unset, .unset, .unset] [(.ref b_1)])) _
    refine XS.astoreN X_3.here hx rfl (hb hby at_19) rfl rfl (l' := #[.val (.int p0), .val (.int p1), .val (.int (1 : Int32)), .val (.ref b_1), .unset, .unset]) rfl ?_
    show Steps p.tables e below (T_3.setTop (mkF m 20 #[.val (.int p0), .val (.int p1), .val (.int (1 : Int32)), .val (.ref b_1), .unset, .unset] [])) _
    refine XS.aloadN X_3.here hx rfl (hb hby at_20) rfl rfl ?_
    show Steps p.tables e below (T_3.setTop (mkF m 21 #[.val (.int p0), .val (.int p1), .val (.int (1 : Int32)), .val (.ref b_1), .unset, .unset] [(.ref b_1)])) _
    refine XS.iloadN X_3.here hx rfl (hb hby at_21) rfl ?_
    show Steps p.tables e below (T_3.setTop (mkF m 22 #[.val (.int p0), .val (.int p1), .val (.int (1 : Int32)), .val (.ref b_1), .unset, .unset] [(.int p1), (.ref b_1)])) _
    refine X_3.ldcInt hx hown (mvT hZ (hw _ (List.mem_of_getElem? (i := 41) rfl))) (g := (mkF m 22 #[.val (.int p0), .val (.int p1), .val (.int (1 : Int32)), .val (.ref b_1), .unset, .unset] [(.int p1), (.ref b_1)])) rfl (hb hby at_22) _ ?_
    show Steps p.tables e below (T_3.setTop (mkF m 24 #[.val (.int p0), .val (.int p1), .val (.int (1 : Int32)), .val (.ref b_1), .unset, .unset] [(.int (2147483647 : Int32)), (.int p1), (.ref b_1)])) _
    refine XS.iand X_3.here hx rfl (hb hby at_24) rfl ?_
    show Steps p.tables e below (T_3.setTop (mkF m 25 #[.val (.int p0), .val (.int p1), .val (.int (1 : Int32)), .val (.ref b_1), .unset, .unset] [(.int (p1 &&& (2147483647 : Int32))), (.ref b_1)])) _
    rw [hvv_]
    show Steps p.tables e below (T_3.setTop (mkF m 25 #[.val (.int p0), .val (.int p1), .val (.int (1 : Int32)), .val (.ref b_1), .unset, .unset] [(.int vv), (.ref b_1)])) _
    refine st_5.trans ?_
    show Steps p.tables e below (T_5.setTop (mkF m 28 #[.val (.int p0), .val (.int p1), .val (.int (1 : Int32)), .val (.ref b_1), .unset, .unset] [(.int (2 : Int32))])) _
    refine XS.istore X_5.here hx rfl (hb hby at_28) rfl (l' := #[.val (.int p0), .val (.int p1), .val (.int (1 : Int32)), .val (.ref b_1), .val (.int (2 : Int32)), .unset]) rfl ?_
    show Steps p.tables e below (T_5.setTop (mkF m 30 #[.val (.int p0), .val (.int p1), .val (.int (1 : Int32)), .val (.ref b_1), .val (.int (2 : Int32)), .unset] [])) _
    refine st_8 _ ?_
    show Steps p.tables e below (T_8.setTop (mkF m 33 #[.val (.int p0), .val (.int p1), .val (.int (1 : Int32)), .val (.ref b_1), .val (.int (2 : Int32)), .unset] [(.ref b_8)])) _
    refine XS.dup X_8.here hx rfl (hb hby at_33) rfl rfl ?_
    show Steps p.tables e below (T_8.setTop (mkF m 34 #[.val (.int p0), .val (.int p1), .val (.int (1 : Int32)), .val (.ref b_1), .val (.int (2 : Int32)), .unset] [(.ref b_8), (.ref b_8)])) _
    refine XS.iloadN X_8.here hx rfl (hb hby at_34) rfl ?_
    show Steps p.tables e below (T_8.setTop (mkF m 35 #[.val (.int p0), .val (.int p1), .val (.int (1 : Int32)), .val (.ref b_1), .val (.int (2 : Int32)), .unset] [(.int (1 : Int32)), (.ref b_8), (.ref b_8)])) _
    refine st_11.trans ?_
    show Steps p.tables e below (T_11.setTop (mkF m 38 #[.val (.int p0), .val (.int p1), .val (.int (1 : Int32)), .val (.ref b_1), .val (.int (2 : Int32)), .unset] [(.ref b_8)])) _
    refine XS.aloadN X_11.here hx rfl (hb hby at_38) rfl rfl ?_
    show Steps p.tables e below (T_11.setTop (mkF m 39 #[.val (.int p0), .val (.int p1), .val (.int (1 : Int32)), .val (.ref b_1), .val (.int (2 : Int32)), .unset] [(.ref b_1), (.ref b_8)])) _
    refine st_13.trans ?_
    show Steps p.tables e below (T_13.setTop (mkF m 42 #[.val (.int p0), .val (.int p1), .val (.int (1 : Int32)), .val (.ref b_1), .val (.int (2 : Int32)), .unset] [(.int (1 : Int32))])) _
    refine XS.istore X_13.here hx rfl (hb hby at_42) rfl (l' := #[.val (.int p0), .val (.int p1), .val (.int (1 : Int32)), .val (.ref b_1), .val (.int (2 : Int32)), .val (.int (1 : Int32))]) rfl ?_
    show Steps p.tables e below (T_13.setTop (mkF m 44 #[.val (.int p0), .val (.int p1), .val (.int (1 : Int32)), .val (.ref b_1), .val (.int (2 : Int32)), .val (.int (1 : Int32))] [])) _
    refine XS.iloadN X_13.here hx rfl (hb hby at_44) rfl ?_
    show Steps p.tables e below (T_13.setTop (mkF m 45 #[.val (.int p0), .val (.int p1), .val (.int (1 : Int32)), .val (.ref b_1), .val (.int (2 : Int32)), .val (.int (1 : Int32))] [(.int (1 : Int32))])) _
    refine XS.ifNo X_13.here hx rfl (hb hby at_45) rfl ((if0 _ _).trans (feq ((by decide) : ¬ ((1 : Int32) = (0 : Int32)))).1) ?_
    show Steps p.tables e below (T_13.setTop (mkF m 48 #[.val (.int p0), .val (.int p1), .val (.int (1 : Int32)), .val (.ref b_1), .val (.int (2 : Int32)), .val (.int (1 : Int32))] [])) _
    refine XS.iload X_13.here hx rfl (hb hby at_48) rfl ?_
    show Steps p.tables e below (T_13.setTop (mkF m 50 #[.val (.int p0), .val (.int p1), .val (.int (1 : Int32)), .val (.ref b_1), .val (.int (2 : Int32)), .val (.int (1 : Int32))] [(.int (1 : Int32))])) _
    refine XS.iconst X_13.here hx rfl (hb hby at_50) ?_
    show Steps p.tables e below (T_13.setTop (mkF m 51 #[.val (.int p0), .val (.int p1), .val (.int (1 : Int32)), .val (.ref b_1), .val (.int (2 : Int32)), .val (.int (1 : Int32))] [(.int (1 : Int32)), (.int (1 : Int32))])) _
    refine XS.icmpNo X_13.here hx rfl (hb hby at_51) rfl (teq ((by decide) : (1 : Int32) = (1 : Int32))).2 ?_
    show Steps p.tables e below (T_13.setTop (mkF m 54 #[.val (.int p0), .val (.int p1), .val (.int (1 : Int32)), .val (.ref b_1), .val (.int (2 : Int32)), .val (.int (1 : Int32))] [])) _
    refine XS.aloadN X_13.here hx rfl (hb hby at_54) rfl rfl ?_
    show Steps p.tables e below (T_13.setTop (mkF m 55 #[.val (.int p0), .val (.int p1), .val (.int (1 : Int32)), .val (.ref b_1), .val (.int (2 : Int32)), .val (.int (1 : Int32))] [(.ref b_1)])) _
    refine XS.iload X_13.here hx rfl (hb hby at_55) rfl ?_
    show Steps p.tables e below (T_13.setTop (mkF m 57 #[.val (.int p0), .val (.int p1), .val (.int (1 : Int32)), .val (.ref b_1), .val (.int (2 : Int32)), .val (.int (1 : Int32))] [(.int (1 : Int32)), (.ref b_1)])) _
    refine XS.iload X_13.here hx rfl (hb hby at_57) rfl ?_
    show Steps p.tables e below (T_13.setTop (mkF m 59 #[.val (.int p0), .val (.int p1), .val (.int (1 : Int32)), .val (.ref b_1), .val (.int (2 : Int32)), .val (.int (1 : Int32))] [(.int (2 : Int32)), (.int (1 : Int32)), (.ref b_1)])) _
    refine st_15.trans ?_
    show Steps p.tables e below (T_15.setTop (mkF m 62 #[.val (.int p0), .val (.int p1), .val (.int (1 : Int32)), .val (.ref b_1), .val (.int (2 : Int32)), .val (.int (1 : Int32))] [(.int (2 : Int32))])) _
    refine XS.iload X_15.here hx rfl (hb hby at_62) rfl ?_
    show Steps p.tables e below (T_15.setTop (mkF m 64 #[.val (.int p0), .val (.int p1), .val (.int (1 : Int32)), .val (.ref b_1), .val (.int (2 : Int32)), .val (.int (1 : Int32))] [(.int (2 : Int32)), (.int (2 : Int32))])) _
    refine XS.icmpNo X_15.here hx rfl (hb hby at_64) rfl (teq ((by decide) : (2 : Int32) = (2 : Int32))).2 ?_
    show Steps p.tables e below (T_15.setTop (mkF m 67 #[.val (.int p0), .val (.int p1), .val (.int (1 : Int32)), .val (.ref b_1), .val (.int (2 : Int32)), .val (.int (1 : Int32))] [])) _
    refine XS.aloadN X_15.here hx rfl (hb hby at_67) rfl rfl ?_
    show Steps p.tables e below (T_15.setTop (mkF m 68 #[.val (.int p0), .val (.int p1), .val (.int (1 : Int32)), .val (.ref b_1), .val (.int (2 : Int32)), .val (.int (1 : Int32))] [(.ref b_1)])) _
    refine XS.iload X_15.here hx rfl (hb hby at_68) rfl ?_
    show Steps p.tables e below (T_15.setTop (mkF m 70 #[.val (.int p0), .val (.int p1), .val (.int (1 : Int32)), .val (.ref b_1), .val (.int (2 : Int32)), .val (.int (1 : Int32))] [(.int (1 : Int32)), (.ref b_1)])) _
    refine XS.iload X_15.here hx rfl (hb hby at_70) rfl ?_
    show Steps p.tables e below (T_15.setTop (mkF m 72 #[.val (.int p0), .val (.int p1), .val (.int (1 : Int32)), .val (.ref b_1), .val (.int (2 : Int32)), .val (.int (1 : Int32))] [(.int (2 : Int32)), (.int (1 : Int32)), (.ref b_1)])) _
    refine st_18.trans ?_
    show Steps p.tables e below (T_18.setTop (mkF m 75 #[.val (.int p0), .val (.int p1), .val (.int (1 : Int32)), .val (.ref b_1), .val (.int (2 : Int32)), .val (.int (1 : Int32))] [(.int (1 : Int32))])) _
    refine XS.iconst X_18.here hx rfl (hb hby at_75) ?_
    show Steps p.tables e below (T_18.setTop (mkF m 76 #[.val (.int p0), .val (.int p1), .val (.int (1 : Int32)), .val (.ref b_1), .val (.int (2 : Int32)), .val (.int (1 : Int32))] [(.int (1 : Int32)), (.int (1 : Int32))])) _
    refine XS.icmpNo X_18.here hx rfl (hb hby at_76) rfl (teq ((by decide) : (1 : Int32) = (1 : Int32))).2 ?_
    show Steps p.tables e below (T_18.setTop (mkF m 79 #[.val (.int p0), .val (.int p1), .val (.int (1 : Int32)), .val (.ref b_1), .val (.int (2 : Int32)), .val (.int (1 : Int32))] [])) _
    refine XS.iconst X_18.here hx rfl (hb hby at_79) ?_
    show Steps p.tables e below (T_18.setTop (mkF m 80 #[.val (.int p0), .val (.int p1), .val (.int (1 : Int32)), .val (.ref b_1), .val (.int (2 : Int32)), .val (.int (1 : Int32))] [(.int (1 : Int32))])) _
    refine XS.goto X_18.here hx rfl (pc0 := 80) (pc' := 84) rfl (hb hby at_80) (by decide) (by decide) ?_
    show Steps p.tables e below (T_18.setTop (mkF m 84 #[.val (.int p0), .val (.int p1), .val (.int (1 : Int32)), .val (.ref b_1), .val (.int (2 : Int32)), .val (.int (1 : Int32))] [(.int (1 : Int32))])) _
    exact retN X_18 hx (t := .boolean) Bd.returns (by simp) (hb hby at_84) hr
  · show Q0 Z  h0 n0 _ T_18.heap _
    rw [eq_18]
    exact ⟨rfl, N_18⟩
theorem rm0 (l : Launch) (Z : State) (a0 : Array Value) (hw : ∀ d ∈ tables_1, d.before a0 Z = true) (ws : List Jvm.Cond) (p0 p1 : Int32) (h0 : Heap) (n0 : Nat) (Z0 : n0 ≤ h0.size) :
    MetFree l x (head1 (Jvm.Cond.code x code maxLocals ret :: ws) room_1) (fun a U => a = #[(.int p0), (.int p1)] ∧ Z.Warmed39 U.vm ∧ U.heap = h0) (fun _ _ _ _ _ => True) (fun _ U o U' => ∃ v L, o = .returned v ∧ Q0 Z h0 n0 v U'.heap L ∧ FrameEnd U o U' L 10 23564) := by
  by_cases h : (p0 &&& (1 : Int32)) = (0 : Int32)
  · exact rm0_0 l Z a0 hw ws p0 p1 _ _ _ h0 n0 Z0 rfl (own_mask _).1 (own_mask _).2 rfl (own_pos p1) h rfl
  · exact rm0_1 l Z a0 hw ws p0 p1 _ _ _ h0 n0 Z0 rfl (own_mask _).1 (own_mask _).2 rfl (own_pos p1) h rfl
set_option maxRecDepth 65536 in
set_option maxHeartbeats 40000000 in
theorem comes_1 {Post : Tables → Env → Array Value → State → Outcome → State → Prop} (hpost : ∀ tb e args s v u, (limb_1_1.after args s (.returned v) u = true ∧ limb_1_2.after args s (.returned v) u = true ∧ True) → FrameEnd s (.returned v) u (Jvm.fieldLocs frame_1_writes args s ++ Jvm.arrayLocs frame_1_arrays args s ++ Jvm.staticLocs frame_1_statics s) 32 43136 → Post tb e args s (.returned v) u) :
    ArmFor flags0 classFile x code maxLocals ret World_1 tables_1 room_1 Calls_1 rest_1 Pre_1 Post := by
  intro l hfl _ _ p e ha hc hk s m args below hf hA hF happ hP
  obtain ⟨hcalls, hrest, hpre⟩ := hP
  obtain ⟨-, -, -, hnamed, -, -, -, hat⟩ := (Spec.applies_iff hf).mp happ
  obtain ⟨hg, hn⟩ := and_e (Cond.before_iff.mp (show (Jvm.Cond.and given_1 narrow_1).before args s = true from hpre))
  obtain ⟨g1, hg⟩ := and_e hg
  obtain ⟨g2, hg⟩ := and_e hg
  obtain ⟨w0, w1, rfl⟩ : ∃ w0 w1 : Value, args = #[w0, w1] := by
    have hs : args.size = 2 := by simpa [Cond.value, given_1] using g1
    obtain ⟨L⟩ := args
    match L, hs with
    | [w0, w1], _ => exact ⟨w0, w1, rfl⟩
  have hw := fun d (hd : d ∈ tables_1) => atoms_spec (ws := Jvm.Cond.code x code maxLocals ret :: tables_1) hat d (List.mem_cons_of_mem _ hd)
  obtain ⟨i0, ei0⟩ := is_v g2
  obtain rfl : w0 = (.int i0) := Option.some.inj ei0
  obtain ⟨i1, ei1⟩ := is_v hg
  obtain rfl : w1 = (.int i1) := Option.some.inj ei1

  obtain ⟨n, o, h1, h2, h3, _, L, rfl, ⟨rfl, N⟩, hq⟩ := rm0 l s _ hw tables_1 i0 i1 s.heap s.heap.size (Nat.le_refl _) p e ha hc hk s m _ below hf ((Spec.applies_iff_loose hf).mp happ).1 ⟨rfl, State.Warmed39.refl s, rfl⟩ trivial
  refine ⟨n, _, h1, h2, h3, hpost _ _ _ _ _ _ ⟨Cond.after_iff.mpr rfl, Cond.after_iff.mpr (eq_i res_at (Term.int_eval (1)) rfl), trivial⟩ ⟨hq.1, hq.2.1, (hq.2.2.sift fun y hy => Or.inr (N y hy)).mono (by decide) (by decide)⟩⟩
theorem main_1_1 : Claimed_1_1 := comes_1 fun _ _ _ _ _ _ h hF => ⟨h.1, hF⟩
theorem main_1_2 : Claimed_1_2 := comes_1 fun _ _ _ _ _ _ h hF => ⟨h.2.1, hF⟩
end Jvm.Pilot.@@N@@
namespace Jvm.Pilot.@@N@@
open Jvm Jvm.ClassFile Sem Op Lib Jvm.Free Jvm.Stand Jvm.Pilot.@@N@@.Jvm.D
/-! MADE BY PROGRAM (witnessworld.py) out of the Statement's table words and the real class files: 13 classes; the members and pool entries that the words name. The judged class is class 1, her method 1. -/
namespace start1
open Jvm.ClassFile
def u (s : String) : CpInfo := .utf8 (stringToUtf16 s)
/-- a pool by its gaps: so many unusable entries, then the entry; so many at the end -/
def gap : Nat → List CpInfo → List CpInfo
  | 0, r => r
  | n + 1, r => .unusable :: gap n r
def poolList (es : List (Nat × CpInfo)) (last : Nat) : List CpInfo := es.foldr (fun e r => gap e.1 (e.2 :: r)) (gap last [])
def pool (es : List (Nat × CpInfo)) (last : Nat) : Array CpInfo := ⟨poolList es last⟩
def fileOf (pool : Array CpInfo) (this : Nat) (attrs : Array Attribute := #[]) (ms : Array MethodInfo := #[]) (fl : Nat := 33) (sup : Nat := 0) (ifs : Array Nat := #[]) (fds : Array FieldInfo := #[]) : ClassFile where
  minorVersion := 0
  majorVersion := 65
  constantPool := pool
  accessFlags := fl
  thisClass := this
  superClass := sup
  interfaces := ifs
  fields := fds
  methods := ms
  attributes := attrs
def plain (name : String) (sup : Option ClassId) : Class where
  name := name
  kind := .ordinary
  loader := none
  accessFlags := 33
  super := sup
  interfaces := #[]
  cf := none
  fields := #[]
  methods := #[]
  instanceTypes := #[]
  staticTypes := #[]
  resolved := #[]
  callSites := []
  init := .initialized
  statics := none
  mirror := none

def pool0 : Array CpInfo := pool [(5, u "<init>"), (0, u "()V"), (1, .class_ 10), (1, u "java/lang/Object")] 113

def k0c0 : Code := { maxStack := 0, maxLocals := 1, code := object_method_1_code, exceptionTable := #[], attributes := #[] }
def k0m0 : Method := { name := "<init>", desc := "()V", sig := { parameters := [], returnType := none }, accessFlags := 1, code := some k0c0 }
/-- java/lang/Object -/
def k0 : Class := { plain "java/lang/Object" none with
  accessFlags := 33
  interfaces := #[]
  cf := some (fileOf pool0 8 #[] #[{ accessFlags := 1, nameIndex := 5, descriptorIndex := 6, attributes := #[] }] 33 0 #[] #[])
  fields := #[]
  methods := #[k0m0]
  instanceTypes := #[]
  staticTypes := #[]
  resolved := Array.replicate 124 none
  statics := none }

def pool1 : Array CpInfo := pool [(2, .class_ 4), (0, .nameAndType 5 6), (0, u "java/lang/Object"), (0, u "<init>"), (0, u "()V"), (0, .class_ 8), (0, u "com/example/cadmus/cadmus/automaton/Bdd"), (0, .methodref 7 3), (0, .integer 2147483647), (0, .methodref 7 12), (0, .nameAndType 13 14), (0, u "variable"), (0, u "(I)I"), (0, .class_ 16), (0, u "com/example/cadmus/cadmus/automaton/Acceptance$Constant"), (0, .methodref 15 18), (0, .nameAndType 5 19), (0, u "(Z)V"), (0, .methodref 15 21), (0, .nameAndType 22 23), (0, u "function"), (0, u "(Lcom/example/cadmus/cadmus/automaton/Bdd;)I"), (0, .methodref 7 25), (0, .nameAndType 26 27), (0, u "and"), (0, u "(II)I"), (0, .methodref 7 29), (0, .nameAndType 30 27), (0, u "or"), (0, .class_ 32), (0, u "com/example/cadmus/cadmus/automaton/ConstantFunctionPinLaw"), (2, u "law"), (0, u "(II)Z")] 7

def k1m0 : Method := { name := "<init>", desc := "()V", sig := { parameters := [], returnType := none }, accessFlags := 1, code := none }
def k1c1 : Code := { maxStack := 3, maxLocals := 6, code := code, exceptionTable := #[], attributes := #[] }
def k1m1 : Method := { name := "law", desc := "(II)Z", sig := { parameters := [.int, .int], returnType := some .boolean }, accessFlags := 9, code := some k1c1 }
/-- com/example/cadmus/cadmus/automaton/ConstantFunctionPinLaw -/
def k1 : Class := { plain "com/example/cadmus/cadmus/automaton/ConstantFunctionPinLaw" (some 0) with
  accessFlags := 49
  interfaces := #[]
  cf := some (fileOf pool1 31 #[] #[{ accessFlags := 1, nameIndex := 5, descriptorIndex := 6, attributes := #[] }, { accessFlags := 9, nameIndex := 35, descriptorIndex := 36, attributes := #[] }] 49 2 #[] #[])
  fields := #[]
  methods := #[k1m0, k1m1]
  instanceTypes := #[]
  staticTypes := #[]
  resolved := Array.replicate 44 none
  statics := none }

def pool2 : Array CpInfo := pool [(3, .long 9223372036854775807), (1, .methodref 6 7), (0, .class_ 8), (0, .nameAndType 9 10), (0, u "com/example/cadmus/cadmus/automaton/Bdd"), (0, u "<init>"), (0, u "(J)V"), (0, .methodref 12 13), (0, .class_ 14), (0, .nameAndType 9 15), (0, u "java/lang/Object"), (0, u "()V"), (0, .fieldref 6 17), (0, .nameAndType 18 19), (0, u "variables"), (0, u "[I"), (0, .fieldref 6 21), (0, .nameAndType 22 19), (0, u "lows"), (0, .fieldref 6 24), (0, .nameAndType 25 19), (0, u "highs"), (0, .methodref 6 27), (0, .nameAndType 28 29), (0, u "emptyTable"), (0, u "(I)[I"), (0, .fieldref 6 31), (0, .nameAndType 32 19), (0, u "unique"), (0, .fieldref 6 34), (0, .nameAndType 35 19), (0, u "cacheOps"), (0, .fieldref 6 37), (0, .nameAndType 38 19), (0, u "cacheLefts"), (0, .fieldref 6 40), (0, .nameAndType 41 19), (0, u "cacheRights"), (0, .fieldref 6 43), (0, .nameAndType 44 19), (0, u "cacheResults"), (0, .fieldref 6 46), (0, .nameAndType 47 48), (0, u "size"), (0, u "I"), (0, .fieldref 6 50), (0, .nameAndType 51 52), (0, u "stepLimit"), (0, u "J"), (9, .methodref 6 63), (0, .nameAndType 64 65), (0, u "node"), (0, u "(III)I"), (0, .methodref 6 67), (0, .nameAndType 68 69), (0, u "check"), (0, u "(I)V"), (3, u "(I)I"), (0, .methodref 6 75), (0, .nameAndType 76 65), (0, u "apply"), (15, .class_ 93), (0, u "com/example/cadmus/cadmus/automaton/Bdd$Literal"), (42, u "variable"), (9, .class_ 148), (1, u "com/example/cadmus/cadmus/automaton/Bdd$Cover"), (22, u "(II)I"), (43, u "steps"), (0, .class_ 217), (0, u "com/example/cadmus/cadmus/automaton/Bdd$Exhausted"), (1, .methodref 6 220), (0, .nameAndType 221 65), (0, u "hash"), (13, .class_ 237), (1, u "java/util/Arrays"), (2, .integer 2654435761), (0, .integer 2246822519), (0, .methodref 235 243), (0, .nameAndType 244 245), (0, u "fill"), (0, u "([II)V"), (4, u "FALSE"), (2, u "TRUE"), (1, u "AND"), (0, u "OR"), (0, u "NOT"), (1, u "EMPTY"), (5, u "and"), (0, u "or")] 60

def k2c0 : Code := { maxStack := 3, maxLocals := 1, code := prog_13_method_1_code, exceptionTable := #[], attributes := #[] }
def k2m0 : Method := { name := "<init>", desc := "()V", sig := { parameters := [], returnType := none }, accessFlags := 1, code := some k2c0 }
def k2c1 : Code := { maxStack := 3, maxLocals := 3, code := prog_13_method_2_code, exceptionTable := #[], attributes := #[] }
def k2m1 : Method := { name := "<init>", desc := "(J)V", sig := { parameters := [.long], returnType := none }, accessFlags := 1, code := some k2c1 }
def k2c2 : Code := { maxStack := 4, maxLocals := 2, code := prog_13_method_3_code, exceptionTable := #[], attributes := #[] }
def k2m2 : Method := { name := "variable", desc := "(I)I", sig := { parameters := [.int], returnType := some .int }, accessFlags := 1, code := some k2c2 }
def k2c3 : Code := { maxStack := 4, maxLocals := 3, code := prog_13_method_5_code, exceptionTable := #[], attributes := #[] }
def k2m3 : Method := { name := "and", desc := "(II)I", sig := { parameters := [.int, .int], returnType := some .int }, accessFlags := 1, code := some k2c3 }
def k2c4 : Code := { maxStack := 4, maxLocals := 3, code := prog_13_method_6_code, exceptionTable := #[], attributes := #[] }
def k2m4 : Method := { name := "or", desc := "(II)I", sig := { parameters := [.int, .int], returnType := some .int }, accessFlags := 1, code := some k2c4 }
def k2c5 : Code := { maxStack := 7, maxLocals := 13, code := prog_13_method_19_code, exceptionTable := #[], attributes := #[] }
def k2m5 : Method := { name := "apply", desc := "(III)I", sig := { parameters := [.int, .int, .int], returnType := some .int }, accessFlags := 2, code := some k2c5 }
def k2c6 : Code := { maxStack := 4, maxLocals := 7, code := prog_13_method_22_code, exceptionTable := #[], attributes := #[] }
def k2m6 : Method := { name := "node", desc := "(III)I", sig := { parameters := [.int, .int, .int], returnType := some .int }, accessFlags := 2, code := some k2c6 }
def k2c7 : Code := { maxStack := 3, maxLocals := 2, code := prog_13_method_27_code, exceptionTable := #[], attributes := #[] }
def k2m7 : Method := { name := "check", desc := "(I)V", sig := { parameters := [.int], returnType := none }, accessFlags := 2, code := some k2c7 }
def k2c8 : Code := { maxStack := 3, maxLocals := 4, code := prog_13_method_28_code, exceptionTable := #[], attributes := #[] }
def k2m8 : Method := { name := "hash", desc := "(III)I", sig := { parameters := [.int, .int, .int], returnType := some .int }, accessFlags := 10, code := some k2c8 }
def k2c9 : Code := { maxStack := 2, maxLocals := 2, code := prog_13_method_29_code, exceptionTable := #[], attributes := #[] }
def k2m9 : Method := { name := "emptyTable", desc := "(I)[I", sig := { parameters := [.int], returnType := some (.array .int) }, accessFlags := 10, code := some k2c9 }
/-- com/example/cadmus/cadmus/automaton/Bdd -/
def k2 : Class := { plain "com/example/cadmus/cadmus/automaton/Bdd" (some 0) with
  accessFlags := 49
  interfaces := #[]
  cf := some (fileOf pool2 6 #[.nestMembers #[216, 146, 92]] #[{ accessFlags := 1, nameIndex := 9, descriptorIndex := 15, attributes := #[] }, { accessFlags := 1, nameIndex := 9, descriptorIndex := 10, attributes := #[] }, { accessFlags := 1, nameIndex := 136, descriptorIndex := 73, attributes := #[] }, { accessFlags := 1, nameIndex := 265, descriptorIndex := 171, attributes := #[] }, { accessFlags := 1, nameIndex := 266, descriptorIndex := 171, attributes := #[] }, { accessFlags := 2, nameIndex := 76, descriptorIndex := 65, attributes := #[] }, { accessFlags := 2, nameIndex := 64, descriptorIndex := 65, attributes := #[] }, { accessFlags := 2, nameIndex := 68, descriptorIndex := 69, attributes := #[] }, { accessFlags := 10, nameIndex := 221, descriptorIndex := 65, attributes := #[] }, { accessFlags := 10, nameIndex := 28, descriptorIndex := 29, attributes := #[] }] 49 12 #[] #[{ accessFlags := 25, nameIndex := 250, descriptorIndex := 48, attributes := #[] }, { accessFlags := 25, nameIndex := 253, descriptorIndex := 48, attributes := #[] }, { accessFlags := 26, nameIndex := 255, descriptorIndex := 48, attributes := #[] }, { accessFlags := 26, nameIndex := 256, descriptorIndex := 48, attributes := #[] }, { accessFlags := 26, nameIndex := 257, descriptorIndex := 48, attributes := #[] }, { accessFlags := 26, nameIndex := 259, descriptorIndex := 48, attributes := #[] }, { accessFlags := 2, nameIndex := 18, descriptorIndex := 19, attributes := #[] }, { accessFlags := 2, nameIndex := 22, descriptorIndex := 19, attributes := #[] }, { accessFlags := 2, nameIndex := 25, descriptorIndex := 19, attributes := #[] }, { accessFlags := 2, nameIndex := 47, descriptorIndex := 48, attributes := #[] }, { accessFlags := 2, nameIndex := 32, descriptorIndex := 19, attributes := #[] }, { accessFlags := 2, nameIndex := 35, descriptorIndex := 19, attributes := #[] }, { accessFlags := 2, nameIndex := 38, descriptorIndex := 19, attributes := #[] }, { accessFlags := 2, nameIndex := 41, descriptorIndex := 19, attributes := #[] }, { accessFlags := 2, nameIndex := 44, descriptorIndex := 19, attributes := #[] }, { accessFlags := 18, nameIndex := 51, descriptorIndex := 52, attributes := #[] }, { accessFlags := 2, nameIndex := 215, descriptorIndex := 52, attributes := #[] }])
  fields := #[{ name := "FALSE", type := .int, accessFlags := 25, slot := 0, constantValue := 0 }, { name := "TRUE", type := .int, accessFlags := 25, slot := 1, constantValue := 0 }, { name := "AND", type := .int, accessFlags := 26, slot := 2, constantValue := 0 }, { name := "OR", type := .int, accessFlags := 26, slot := 3, constantValue := 0 }, { name := "NOT", type := .int, accessFlags := 26, slot := 4, constantValue := 0 }, { name := "EMPTY", type := .int, accessFlags := 26, slot := 5, constantValue := 0 }, { name := "variables", type := (.array .int), accessFlags := 2, slot := 0, constantValue := 0 }, { name := "lows", type := (.array .int), accessFlags := 2, slot := 1, constantValue := 0 }, { name := "highs", type := (.array .int), accessFlags := 2, slot := 2, constantValue := 0 }, { name := "size", type := .int, accessFlags := 2, slot := 3, constantValue := 0 }, { name := "unique", type := (.array .int), accessFlags := 2, slot := 4, constantValue := 0 }, { name := "cacheOps", type := (.array .int), accessFlags := 2, slot := 5, constantValue := 0 }, { name := "cacheLefts", type := (.array .int), accessFlags := 2, slot := 6, constantValue := 0 }, { name := "cacheRights", type := (.array .int), accessFlags := 2, slot := 7, constantValue := 0 }, { name := "cacheResults", type := (.array .int), accessFlags := 2, slot := 8, constantValue := 0 }, { name := "stepLimit", type := .long, accessFlags := 18, slot := 9, constantValue := 0 }, { name := "steps", type := .long, accessFlags := 2, slot := 10, constantValue := 0 }]
  methods := #[k2m0, k2m1, k2m2, k2m3, k2m4, k2m5, k2m6, k2m7, k2m8, k2m9]
  instanceTypes := #[(.array .int), (.array .int), (.array .int), .int, (.array .int), (.array .int), (.array .int), (.array .int), (.array .int), .long, .long]
  staticTypes := #[.int, .int, .int, .int, .int, .int]
  resolved := Array.replicate 327 none
  statics := none }

def pool3 : Array CpInfo := pool [(2, .class_ 4), (1, u "java/lang/Object"), (0, u "<init>"), (0, u "()V"), (7, .class_ 16), (1, u "java/util/Arrays"), (57, .class_ 76), (1, u "java/util/Arrays$NaturalOrder"), (36, .class_ 115), (1, u "java/util/Arrays$LegacyMergeSort"), (1, u "Z"), (257, .class_ 376), (0, u "java/util/Arrays$ArrayList"), (68, u "$assertionsDisabled"), (269, u "MIN_ARRAY_SORT_GRAN"), (0, u "I"), (2, u "INSERTIONSORT_THRESHOLD"), (120, u "fill"), (4, u "([II)V"), (129, .class_ 976), (0, u "java/util/Arrays$ArrayItr")] 52

def k3m0 : Method := { name := "<init>", desc := "()V", sig := { parameters := [], returnType := none }, accessFlags := 2, code := none }
def k3c1 : Code := { maxStack := 3, maxLocals := 4, code := jdk_65_method_103_code, exceptionTable := #[], attributes := #[] }
def k3m1 : Method := { name := "fill", desc := "([II)V", sig := { parameters := [(.array .int), .int], returnType := none }, accessFlags := 9, code := some k3c1 }
/-- java/util/Arrays -/
def k3 : Class := { plain "java/util/Arrays" (some 0) with
  accessFlags := 49
  interfaces := #[]
  cf := some (fileOf pool3 14 #[.nestMembers #[975, 375, 113, 74]] #[{ accessFlags := 2, nameIndex := 5, descriptorIndex := 6, attributes := #[] }, { accessFlags := 9, nameIndex := 840, descriptorIndex := 845, attributes := #[] }] 49 2 #[] #[{ accessFlags := 26, nameIndex := 715, descriptorIndex := 716, attributes := #[] }, { accessFlags := 26, nameIndex := 719, descriptorIndex := 716, attributes := #[] }, { accessFlags := 4120, nameIndex := 445, descriptorIndex := 117, attributes := #[] }])
  fields := #[{ name := "MIN_ARRAY_SORT_GRAN", type := .int, accessFlags := 26, slot := 0, constantValue := 0 }, { name := "INSERTIONSORT_THRESHOLD", type := .int, accessFlags := 26, slot := 1, constantValue := 0 }, { name := "$assertionsDisabled", type := .boolean, accessFlags := 4120, slot := 2, constantValue := 0 }]
  methods := #[k3m0, k3m1]
  instanceTypes := #[]
  staticTypes := #[.int, .int, .boolean]
  resolved := Array.replicate 1029 none
  statics := none }

def pool4 : Array CpInfo := pool [(1, .methodref 2 3), (0, .class_ 4), (0, .nameAndType 5 6), (0, u "java/lang/Object"), (0, u "<init>"), (0, u "()V"), (0, .class_ 8), (0, u "java/lang/Record")] 13

def k4c0 : Code := { maxStack := 1, maxLocals := 1, code := jdk_30_method_1_code, exceptionTable := #[], attributes := #[] }
def k4m0 : Method := { name := "<init>", desc := "()V", sig := { parameters := [], returnType := none }, accessFlags := 4, code := some k4c0 }
/-- java/lang/Record -/
def k4 : Class := { plain "java/lang/Record" (some 0) with
  accessFlags := 1057
  interfaces := #[]
  cf := some (fileOf pool4 7 #[] #[{ accessFlags := 4, nameIndex := 5, descriptorIndex := 6, attributes := #[] }] 1057 2 #[] #[])
  fields := #[]
  methods := #[k4m0]
  instanceTypes := #[]
  staticTypes := #[]
  resolved := Array.replicate 22 none
  statics := none }

def pool5 : Array CpInfo := pool [(1, .class_ 2), (0, u "com/example/cadmus/cadmus/automaton/Acceptance$Condition"), (0, .class_ 4), (0, u "java/lang/Object"), (11, .class_ 17), (0, u "com/example/cadmus/cadmus/automaton/Acceptance")] 15

/-- com/example/cadmus/cadmus/automaton/Acceptance$Condition -/
def k5 : Class := { plain "com/example/cadmus/cadmus/automaton/Acceptance$Condition" (some 0) with
  accessFlags := 1537
  interfaces := #[]
  cf := some (fileOf pool5 1 #[.nestHost 16] #[] 1537 3 #[] #[])
  fields := #[]
  methods := #[]
  instanceTypes := #[]
  staticTypes := #[]
  resolved := Array.replicate 33 none
  statics := none }

def pool6 : Array CpInfo := pool [(1, .methodref 2 3), (0, .class_ 4), (0, .nameAndType 5 6), (0, u "java/lang/Record"), (0, u "<init>"), (0, u "()V"), (0, .fieldref 8 9), (0, .class_ 10), (0, .nameAndType 11 12), (0, u "com/example/cadmus/cadmus/automaton/Acceptance$Constant"), (0, u "value"), (0, u "Z"), (24, .class_ 38), (0, u "com/example/cadmus/cadmus/automaton/Acceptance$Condition"), (0, u "(Z)V"), (8, u "function"), (0, u "(Lcom/example/cadmus/cadmus/automaton/Bdd;)I"), (9, .class_ 60), (0, u "com/example/cadmus/cadmus/automaton/Acceptance")] 19

def k6c0 : Code := { maxStack := 2, maxLocals := 2, code := prog_6_method_1_code, exceptionTable := #[], attributes := #[] }
def k6m0 : Method := { name := "<init>", desc := "(Z)V", sig := { parameters := [.boolean], returnType := none }, accessFlags := 1, code := some k6c0 }
def k6c1 : Code := { maxStack := 1, maxLocals := 2, code := prog_6_method_3_code, exceptionTable := #[], attributes := #[] }
def k6m1 : Method := { name := "function", desc := "(Lcom/example/cadmus/cadmus/automaton/Bdd;)I", sig := { parameters := [(.object "com/example/cadmus/cadmus/automaton/Bdd")], returnType := some .int }, accessFlags := 1, code := some k6c1 }
/-- com/example/cadmus/cadmus/automaton/Acceptance$Constant -/
def k6 : Class := { plain "com/example/cadmus/cadmus/automaton/Acceptance$Constant" (some 4) with
  accessFlags := 49
  interfaces := #[5]
  cf := some (fileOf pool6 8 #[.nestHost 59] #[{ accessFlags := 1, nameIndex := 5, descriptorIndex := 39, attributes := #[] }, { accessFlags := 1, nameIndex := 48, descriptorIndex := 49, attributes := #[] }] 49 2 #[37] #[{ accessFlags := 18, nameIndex := 11, descriptorIndex := 12, attributes := #[] }])
  fields := #[{ name := "value", type := .boolean, accessFlags := 18, slot := 0, constantValue := 0 }]
  methods := #[k6m0, k6m1]
  instanceTypes := #[.boolean]
  staticTypes := #[]
  resolved := Array.replicate 80 none
  statics := none }

def pool7 : Array CpInfo := pool [(1, u "java/lang/Cloneable"), (0, .class_ 1), (0, u "java/lang/Object"), (0, .class_ 3)] 3

/-- java/lang/Cloneable -/
def k7 : Class := { plain "java/lang/Cloneable" (some 0) with
  accessFlags := 1537
  interfaces := #[]
  cf := some (fileOf pool7 2 #[] #[] 1537 4 #[] #[])
  fields := #[]
  methods := #[]
  instanceTypes := #[]
  staticTypes := #[]
  resolved := Array.replicate 8 none
  statics := none }

def pool8 : Array CpInfo := pool [(1, u "java/io/Serializable"), (0, .class_ 1), (0, u "java/lang/Object"), (0, .class_ 3)] 3

/-- java/io/Serializable -/
def k8 : Class := { plain "java/io/Serializable" (some 0) with
  accessFlags := 1537
  interfaces := #[]
  cf := some (fileOf pool8 2 #[] #[] 1537 4 #[] #[])
  fields := #[]
  methods := #[]
  instanceTypes := #[]
  staticTypes := #[]
  resolved := Array.replicate 8 none
  statics := none }

/-- the primitive byte -/
def k9 : Class := { plain "byte" none with kind := .primitive 'B', accessFlags := 0x411 }
/-- [B -/
def k10 : Class := { plain "[B" (some 0) with kind := .array 9 .byte, interfaces := #[7, 8], accessFlags := 1041 }

/-- the primitive int -/
def k11 : Class := { plain "int" none with kind := .primitive 'I', accessFlags := 0x411 }
/-- [I -/
def k12 : Class := { plain "[I" (some 0) with kind := .array 11 .int, interfaces := #[7, 8], accessFlags := 1041 }

def heap : Heap := #[]
def classes : Array Class := #[k0, k1, k2, k3, k4, k5, k6, k7, k8, k9, k10, k11, k12]
def interned : List (Array UInt16 × Addr) := []
def slotsUsed : Nat := 0
def theMethod : MethodId := ⟨1, 1⟩
def args0 : Array Value := #[.int 5, .int 5]
def aboutOver (below : List Frame) : State where
  vm := { classes := classes, interned := interned.toArray }
  heap := heap
  slotsUsed := slotsUsed
  threads := #[{ frames := .invoking theMethod args0 :: below }]
def below0 : List Frame := [.native { method := ⟨0, 0⟩, args := #[] }]
def about1 : State := aboutOver below0
def p0 : Program := .bare "" "" ""
def e0 : Env := launch0.env 0 0 0
theorem w_frames : about1.frames = Frame.invoking theMethod args0 :: below0 := rfl
set_option maxRecDepth 65536 in
theorem w_args : argsFit about1.vm theMethod args0 = true := by decide +kernel
set_option maxRecDepth 65536 in
theorem w_heap : heapFits about1 = true := by decide +kernel
set_option maxRecDepth 65536 in
theorem w_runnable : about1.curStatus? = some .runnable := by decide +kernel
set_option maxRecDepth 65536 in
theorem w_alone : about1.alone = true := by decide +kernel
set_option maxRecDepth 65536 in
theorem w_named : about1.methodNamed? x = some theMethod := by decide +kernel
set_option maxRecDepth 65536 in
theorem w_hears : about1.hears theMethod below0 = true := by decide +kernel
set_option maxRecDepth 65536 in
theorem w_ripe : about1.ripe theMethod args0 below0 = true := by decide +kernel
theorem w_running : about1.status = .running := rfl
set_option maxRecDepth 65536 in
theorem w_room : about1.hasRoom e0.platform room_1 = true :=
  launch0.hasRoom_least _ room_1 (by decide +kernel) (by decide +kernel) (by decide +kernel) (by decide +kernel) (by decide +kernel) (by decide +kernel)
theorem allAtoms_all (ts : List Jvm.Cond) (a : Array Jvm.Value) (st : Jvm.State) : (allAtoms ts).before a st = ts.all (fun c => c.before a st) := by
  induction ts with
  | nil => rfl
  | cons c t ih =>
    show (Jvm.Cond.and c (allAtoms t)).before a st = _
    rw [Jvm.Cond.before_and, ih, List.all_cons]
def words1 : List Jvm.Cond := Jvm.Cond.code x code maxLocals ret :: tables_1
/-- a 'code' word, met by the world's own term for the bytes: nothing is compared byte by byte -/
theorem code_word {y : MethodName} {bytes : ByteArray} {mx : Nat} {rt : Option FieldType} {a : Array Value} {s : State} {m : MethodId} {meth : Method} {c : Code} (h1 : s.methodNamed? y = some m) (h2 : s.vm.method? m = some meth) (h3 : meth.code = some c) (h4 : c.code = bytes)
    (h5 : (c.maxLocals == mx && c.exceptionTable.isEmpty && decide (c.maxStack ≤ mostOperands) && decide (meth.sig.returnType = rt) && !meth.locks && decide (parseMethodDescriptor y.desc = some meth.sig)) = true) : (Jvm.Cond.code y bytes mx rt).before a s = true := by
  simp only [Bool.and_eq_true, beq_iff_eq, Bool.not_eq_true', decide_eq_true_eq] at h5
  obtain ⟨⟨⟨⟨⟨g1, g2⟩, g3⟩, g4⟩, g5⟩, g6⟩ := h5
  simp [Cond.before, Cond.holds, Cond.value, h1, h2, h3, h4, g1, g2, g3, g4, g5, g6]
def isCode : Jvm.Cond → Bool
  | .code _ _ _ _ => true
  | _ => false
theorem all_split {L : List Jvm.Cond} {P : Jvm.Cond → Bool} (h1 : L.all (fun c => isCode c || P c) = true) (h2 : ∀ c ∈ L.filter isCode, P c = true) : L.all P = true := by
  refine List.all_eq_true.mpr fun c hc => ?_
  have h := List.all_eq_true.mp h1 c hc
  rcases Bool.eq_false_or_eq_true (isCode c) with hi | hi
  · exact h2 c (List.mem_filter.mpr ⟨hc, hi⟩)
  · simpa [hi] using h
set_option maxRecDepth 65536 in
theorem w_c0 : (Jvm.Cond.code x code maxLocals ret).before args0 about1 = true := code_word (m := ⟨1, 1⟩) (meth := k1m1) (c := k1c1) (by decide +kernel) rfl rfl rfl (by decide +kernel)
set_option maxRecDepth 65536 in
theorem w_c1 : (Jvm.Cond.code ({ cls := "com/example/cadmus/cadmus/automaton/Bdd", name := "<init>", desc := "()V" } : Jvm.MethodName) prog_13_method_1_code (1 : Nat) (Option.none : Option Jvm.ClassFile.FieldType)).before args0 about1 = true := code_word (m := ⟨2, 0⟩) (meth := k2m0) (c := k2c0) (by decide +kernel) rfl rfl rfl (by decide +kernel)
set_option maxRecDepth 65536 in
theorem w_c2 : (Jvm.Cond.code ({ cls := "com/example/cadmus/cadmus/automaton/Bdd", name := "<init>", desc := "(J)V" } : Jvm.MethodName) prog_13_method_2_code (3 : Nat) (Option.none : Option Jvm.ClassFile.FieldType)).before args0 about1 = true := code_word (m := ⟨2, 1⟩) (meth := k2m1) (c := k2c1) (by decide +kernel) rfl rfl rfl (by decide +kernel)
set_option maxRecDepth 65536 in
theorem w_c3 : (Jvm.Cond.code ({ cls := "java/lang/Object", name := "<init>", desc := "()V" } : Jvm.MethodName) object_method_1_code (1 : Nat) (Option.none : Option Jvm.ClassFile.FieldType)).before args0 about1 = true := code_word (m := ⟨0, 0⟩) (meth := k0m0) (c := k0c0) (by decide +kernel) rfl rfl rfl (by decide +kernel)
set_option maxRecDepth 65536 in
theorem w_c4 : (Jvm.Cond.code ({ cls := "com/example/cadmus/cadmus/automaton/Bdd", name := "emptyTable", desc := "(I)[I" } : Jvm.MethodName) prog_13_method_29_code (2 : Nat) (Option.some (Jvm.ClassFile.FieldType.array Jvm.ClassFile.FieldType.int))).before args0 about1 = true := code_word (m := ⟨2, 9⟩) (meth := k2m9) (c := k2c9) (by decide +kernel) rfl rfl rfl (by decide +kernel)
set_option maxRecDepth 65536 in
theorem w_c5 : (Jvm.Cond.code ({ cls := "java/util/Arrays", name := "fill", desc := "([II)V" } : Jvm.MethodName) jdk_65_method_103_code (4 : Nat) (Option.none : Option Jvm.ClassFile.FieldType)).before args0 about1 = true := code_word (m := ⟨3, 1⟩) (meth := k3m1) (c := k3c1) (by decide +kernel) rfl rfl rfl (by decide +kernel)
set_option maxRecDepth 65536 in
theorem w_c6 : (Jvm.Cond.code ({ cls := "com/example/cadmus/cadmus/automaton/Bdd", name := "variable", desc := "(I)I" } : Jvm.MethodName) prog_13_method_3_code (2 : Nat) (Option.some Jvm.ClassFile.FieldType.int)).before args0 about1 = true := code_word (m := ⟨2, 2⟩) (meth := k2m2) (c := k2c2) (by decide +kernel) rfl rfl rfl (by decide +kernel)
set_option maxRecDepth 65536 in
theorem w_c7 : (Jvm.Cond.code ({ cls := "com/example/cadmus/cadmus/automaton/Bdd", name := "node", desc := "(III)I" } : Jvm.MethodName) prog_13_method_22_code (7 : Nat) (Option.some Jvm.ClassFile.FieldType.int)).before args0 about1 = true := code_word (m := ⟨2, 6⟩) (meth := k2m6) (c := k2c6) (by decide +kernel) rfl rfl rfl (by decide +kernel)
set_option maxRecDepth 65536 in
theorem w_c8 : (Jvm.Cond.code ({ cls := "com/example/cadmus/cadmus/automaton/Bdd", name := "hash", desc := "(III)I" } : Jvm.MethodName) prog_13_method_28_code (4 : Nat) (Option.some Jvm.ClassFile.FieldType.int)).before args0 about1 = true := code_word (m := ⟨2, 8⟩) (meth := k2m8) (c := k2c8) (by decide +kernel) rfl rfl rfl (by decide +kernel)
set_option maxRecDepth 65536 in
theorem w_c9 : (Jvm.Cond.code ({ cls := "com/example/cadmus/cadmus/automaton/Acceptance$Constant", name := "<init>", desc := "(Z)V" } : Jvm.MethodName) prog_6_method_1_code (2 : Nat) (Option.none : Option Jvm.ClassFile.FieldType)).before args0 about1 = true := code_word (m := ⟨6, 0⟩) (meth := k6m0) (c := k6c0) (by decide +kernel) rfl rfl rfl (by decide +kernel)
set_option maxRecDepth 65536 in
theorem w_c10 : (Jvm.Cond.code ({ cls := "java/lang/Record", name := "<init>", desc := "()V" } : Jvm.MethodName) jdk_30_method_1_code (1 : Nat) (Option.none : Option Jvm.ClassFile.FieldType)).before args0 about1 = true := code_word (m := ⟨4, 0⟩) (meth := k4m0) (c := k4c0) (by decide +kernel) rfl rfl rfl (by decide +kernel)
set_option maxRecDepth 65536 in
theorem w_c11 : (Jvm.Cond.code ({ cls := "com/example/cadmus/cadmus/automaton/Acceptance$Constant", name := "function", desc := "(Lcom/example/cadmus/cadmus/automaton/Bdd;)I" } : Jvm.MethodName) prog_6_method_3_code (2 : Nat) (Option.some Jvm.ClassFile.FieldType.int)).before args0 about1 = true := code_word (m := ⟨6, 1⟩) (meth := k6m1) (c := k6c1) (by decide +kernel) rfl rfl rfl (by decide +kernel)
set_option maxRecDepth 65536 in
theorem w_c12 : (Jvm.Cond.code ({ cls := "com/example/cadmus/cadmus/automaton/Bdd", name := "and", desc := "(II)I" } : Jvm.MethodName) prog_13_method_5_code (3 : Nat) (Option.some Jvm.ClassFile.FieldType.int)).before args0 about1 = true := code_word (m := ⟨2, 3⟩) (meth := k2m3) (c := k2c3) (by decide +kernel) rfl rfl rfl (by decide +kernel)
set_option maxRecDepth 65536 in
theorem w_c13 : (Jvm.Cond.code ({ cls := "com/example/cadmus/cadmus/automaton/Bdd", name := "check", desc := "(I)V" } : Jvm.MethodName) prog_13_method_27_code (2 : Nat) (Option.none : Option Jvm.ClassFile.FieldType)).before args0 about1 = true := code_word (m := ⟨2, 7⟩) (meth := k2m7) (c := k2c7) (by decide +kernel) rfl rfl rfl (by decide +kernel)
set_option maxRecDepth 65536 in
theorem w_c14 : (Jvm.Cond.code ({ cls := "com/example/cadmus/cadmus/automaton/Bdd", name := "apply", desc := "(III)I" } : Jvm.MethodName) prog_13_method_19_code (13 : Nat) (Option.some Jvm.ClassFile.FieldType.int)).before args0 about1 = true := code_word (m := ⟨2, 5⟩) (meth := k2m5) (c := k2c5) (by decide +kernel) rfl rfl rfl (by decide +kernel)
set_option maxRecDepth 65536 in
theorem w_c15 : (Jvm.Cond.code ({ cls := "com/example/cadmus/cadmus/automaton/Bdd", name := "or", desc := "(II)I" } : Jvm.MethodName) prog_13_method_6_code (3 : Nat) (Option.some Jvm.ClassFile.FieldType.int)).before args0 about1 = true := code_word (m := ⟨2, 4⟩) (meth := k2m4) (c := k2c4) (by decide +kernel) rfl rfl rfl (by decide +kernel)
def codes1 : List Jvm.Cond := [Jvm.Cond.code x code maxLocals ret, Jvm.Cond.code ({ cls := "com/example/cadmus/cadmus/automaton/Bdd", name := "<init>", desc := "()V" } : Jvm.MethodName) prog_13_method_1_code (1 : Nat) (Option.none : Option Jvm.ClassFile.FieldType), Jvm.Cond.code ({ cls := "com/example/cadmus/cadmus/automaton/Bdd", name := "<init>", desc := "(J)V" } : Jvm.MethodName) prog_13_method_2_code (3 : Nat) (Option.none : Option Jvm.ClassFile.FieldType), Jvm.Cond.code ({ cls := "java/lang/Object", name := "<init>", desc := "()V" } : Jvm.MethodName) object_method_1_code (1 : Nat) (Option.none : Option Jvm.ClassFile.FieldType), Jvm.Cond.code ({ cls := "com/example/cadmus/cadmus/automaton/Bdd", name := "emptyTable", desc := "(I)[I" } : Jvm.MethodName) prog_13_method_29_code (2 : Nat) (Option.some (Jvm.ClassFile.FieldType.array Jvm.ClassFile.FieldType.int)), Jvm.Cond.code ({ cls := "java/util/Arrays", name := "fill", desc := "([II)V" } : Jvm.MethodName) jdk_65_method_103_code (4 : Nat) (Option.none : Option Jvm.ClassFile.FieldType), Jvm.Cond.code ({ cls := "com/example/cadmus/cadmus/automaton/Bdd", name := "variable", desc := "(I)I" } : Jvm.MethodName) prog_13_method_3_code (2 : Nat) (Option.some Jvm.ClassFile.FieldType.int), Jvm.Cond.code ({ cls := "com/example/cadmus/cadmus/automaton/Bdd", name := "node", desc := "(III)I" } : Jvm.MethodName) prog_13_method_22_code (7 : Nat) (Option.some Jvm.ClassFile.FieldType.int), Jvm.Cond.code ({ cls := "com/example/cadmus/cadmus/automaton/Bdd", name := "hash", desc := "(III)I" } : Jvm.MethodName) prog_13_method_28_code (4 : Nat) (Option.some Jvm.ClassFile.FieldType.int), Jvm.Cond.code ({ cls := "com/example/cadmus/cadmus/automaton/Acceptance$Constant", name := "<init>", desc := "(Z)V" } : Jvm.MethodName) prog_6_method_1_code (2 : Nat) (Option.none : Option Jvm.ClassFile.FieldType), Jvm.Cond.code ({ cls := "java/lang/Record", name := "<init>", desc := "()V" } : Jvm.MethodName) jdk_30_method_1_code (1 : Nat) (Option.none : Option Jvm.ClassFile.FieldType), Jvm.Cond.code ({ cls := "com/example/cadmus/cadmus/automaton/Acceptance$Constant", name := "function", desc := "(Lcom/example/cadmus/cadmus/automaton/Bdd;)I" } : Jvm.MethodName) prog_6_method_3_code (2 : Nat) (Option.some Jvm.ClassFile.FieldType.int), Jvm.Cond.code ({ cls := "com/example/cadmus/cadmus/automaton/Bdd", name := "and", desc := "(II)I" } : Jvm.MethodName) prog_13_method_5_code (3 : Nat) (Option.some Jvm.ClassFile.FieldType.int), Jvm.Cond.code ({ cls := "com/example/cadmus/cadmus/automaton/Bdd", name := "check", desc := "(I)V" } : Jvm.MethodName) prog_13_method_27_code (2 : Nat) (Option.none : Option Jvm.ClassFile.FieldType), Jvm.Cond.code ({ cls := "com/example/cadmus/cadmus/automaton/Bdd", name := "apply", desc := "(III)I" } : Jvm.MethodName) prog_13_method_19_code (13 : Nat) (Option.some Jvm.ClassFile.FieldType.int), Jvm.Cond.code ({ cls := "com/example/cadmus/cadmus/automaton/Bdd", name := "or", desc := "(II)I" } : Jvm.MethodName) prog_13_method_6_code (3 : Nat) (Option.some Jvm.ClassFile.FieldType.int)]
set_option maxRecDepth 65536 in
theorem codes_eq : words1.filter isCode = codes1 := rfl
theorem w_codes : ∀ c ∈ words1.filter isCode, c.before args0 about1 = true := by
  rw [codes_eq]
  intro c hc
  simp only [codes1, List.mem_cons, List.not_mem_nil, or_false] at hc
  rcases hc with rfl | rfl | rfl | rfl | rfl | rfl | rfl | rfl | rfl | rfl | rfl | rfl | rfl | rfl | rfl | rfl
  · exact w_c0
  · exact w_c1
  · exact w_c2
  · exact w_c3
  · exact w_c4
  · exact w_c5
  · exact w_c6
  · exact w_c7
  · exact w_c8
  · exact w_c9
  · exact w_c10
  · exact w_c11
  · exact w_c12
  · exact w_c13
  · exact w_c14
  · exact w_c15
set_option maxRecDepth 65536 in
theorem w_t1 : (words1.take 24).all (fun c => isCode c || c.before args0 about1) = true := by decide +kernel
set_option maxRecDepth 65536 in
theorem w_t2 : ((words1.drop 24).take 24).all (fun c => isCode c || c.before args0 about1) = true := by decide +kernel
set_option maxRecDepth 65536 in
theorem w_t3 : (((words1.drop 24).drop 24).take 24).all (fun c => isCode c || c.before args0 about1) = true := by decide +kernel
set_option maxRecDepth 65536 in
theorem w_t4 : (((words1.drop 24).drop 24).drop 24).all (fun c => isCode c || c.before args0 about1) = true := by decide +kernel
theorem w_tables : (allAtoms (Jvm.Cond.code x code maxLocals ret :: tables_1)).before args0 about1 = true := by
  rw [allAtoms_all]
  show words1.all (fun c => c.before args0 about1) = true
  refine all_split ?_ w_codes
  rw [← List.take_append_drop 24 words1, List.all_append, w_t1, ← List.take_append_drop 24 (words1.drop 24), List.all_append, w_t2, ← List.take_append_drop 24 ((words1.drop 24).drop 24), List.all_append, w_t3, w_t4]
  rfl
set_option maxRecDepth 65536 in
theorem w_case : (Jvm.Cond.and given_1 narrow_1).before args0 about1 = true := by decide +kernel
theorem w_applies : (headSpec (Jvm.Cond.code x code maxLocals ret :: tables_1) room_1).applies x e0.platform about1 = true :=
  (Spec.applies_iff w_frames).mpr ⟨w_running, w_runnable, w_alone, w_named, w_hears, w_ripe, w_room, w_tables⟩
theorem atStart : AtStart classFile x code maxLocals ret World_1 tables_1 room_1 Calls_1 rest_1 Pre_1 launch0 p0 e0 about1 theMethod args0 below0 :=
  ⟨lists_1, trivial, launch0.admits_env _ _ _, launch0.least_env, fairChoices_fair.cas, fairChoices_fair.clock, w_frames, w_args, w_heap, w_applies, trivial, trivial, w_case⟩
end start1
theorem witness_1 : WitnessClaimed_1 := ⟨start1.p0, start1.e0, start1.about1, start1.theMethod, start1.args0, start1.below0, start1.atStart⟩
end Jvm.Pilot.@@N@@
