import JvmDerived
import JvmDerived.Pilot.@@N@@Statement
import JvmDerived.Pilot.@@N@@Code
set_option linter.unusedVariables false
set_option linter.unusedSimpArgs false
namespace Jvm.RoadKit
open Sem ClassFile Op Lib Jvm.Stand Jvm.Free Jvm.LawKit
section New
variable {p : Program} {l : Launch} {e : Env} {R : Room} {s : State} {m : MethodId} {args : Array Value} {below : List Frame} {meth : Method} {c : Code} {T : State} {locs : List Loc} {cells slots : Nat}
theorem retI (X : Stand p l e R s m args below meth c T locs cells slots) (hx : p.tables.exec = Jvm.exec) {pc : Nat} {Ls : Array Slot} {z : Int32} {rest : List Value} (hret : meth.sig.returnType = some .int) (hd : decode c.code pc = .ok (.ireturn, 1)) {fs : List Frame}
    (hl : ∀ (f : JFrame) (acts : List Action), f.method = m → f.locked = none → f.entered = [] → (doReturn e (T.setTop f) acts (some (.int z))).1 = T.setFrames fs) : Steps p.tables e below (T.setTop (mkF m pc Ls (.int z :: rest))) (T.setFrames fs) := by
  have hm' : T.vm.method? m = some meth := X.method'
  have hn : narrow .int (.int z) = .int z := rfl
  show Steps p.tables e below (T.setTop { method := m, pc := pc, locals := Ls, stack := _ :: rest, locked := none }) _
  jvm_step X.here [X.here.top, hx, hd, hm', hret, hn]
  first | (intro acts; rw [hl _ acts rfl rfl rfl]) | rw [hl _ _ rfl rfl rfl]
  exact Steps.refl _
end New
end Jvm.RoadKit
namespace Jvm.Pilot.@@N@@
open Jvm Jvm.ClassFile Sem Op Lib Jvm.Free Jvm.Stand Jvm.LawKit Jvm.RoadKit Bundle Jvm.Pilot.@@N@@.Jvm.D
/-! an array of n places; place j holds f j -/
def ArrF (Z : State) (h : Heap) (a : Addr) (ty : FieldType) (n : Int32) (f : Nat → Value) : Prop := ∃ c : Cell, Arr Z h a c ty ∧ c.slots.size = n.toNatClampNeg ∧ ¬ n < 0 ∧ ∀ j, j < n.toNatClampNeg → c.slots[j]? = some (f j)
theorem ArrF.lt {Z : State} {h : Heap} {a : Addr} {ty : FieldType} {n : Int32} {f : Nat → Value} (F : ArrF Z h a ty n f) : a < h.size := by obtain ⟨c, A, -⟩ := F; exact A.lt
theorem ArrF.ext {Z : State} {h h' : Heap} {a : Addr} {ty : FieldType} {n : Int32} {f : Nat → Value} (F : ArrF Z h a ty n f) (E : Ext h h') : ArrF Z h' a ty n f := by obtain ⟨c, A, r⟩ := F; exact ⟨c, A.ext E, r⟩
theorem ArrF.other {Z : State} {h h' : Heap} {a b : Addr} {sl : Nat} {v : Value} {ty : FieldType} {n : Int32} {f : Nat → Value} (F : ArrF Z h b ty n f) (W : Wr h h' a sl v) (q : b ≠ a) : ArrF Z h' b ty n f := by obtain ⟨c, A, r⟩ := F; exact ⟨c, A.other W q, r⟩
theorem ArrF.keep {Z : State} {h h' : Heap} {a : Addr} {ws : List Addr} {ty : FieldType} {n : Int32} {f : Nat → Value} (F : ArrF Z h a ty n f) (K : Keep h h' ws) (q : a ∉ ws) : ArrF Z h' a ty n f := by obtain ⟨c, A, r⟩ := F; exact ⟨c, ⟨K.2.1 a c A.1 q, A.2⟩, r⟩
theorem ArrF.of_new {Z : State} {h : Heap} {a : Addr} {k : ClassId} {ty : FieldType} {n : Int32} (A : Arr Z h a (newA k ty n) ty) (q : ¬ n < 0) : ArrF Z h a ty n (fun _ => defaultValue ty) := ⟨_, A, sz_new _ _ _, q, fun j hj => by simp [newA, hj]⟩
theorem ArrF.congr {Z : State} {h : Heap} {a : Addr} {ty : FieldType} {n : Int32} {f g : Nat → Value} (F : ArrF Z h a ty n f) (q : ∀ j, j < n.toNatClampNeg → f j = g j) : ArrF Z h a ty n g := by obtain ⟨c, A, r1, r2, r3⟩ := F; exact ⟨c, A, r1, r2, fun j hj => by rw [← q j hj]; exact r3 j hj⟩
theorem ArrF.set {Z : State} {h h' : Heap} {a : Addr} {ty : FieldType} {n : Int32} {f : Nat → Value} {c : Cell} {k : Nat} {v : Value} (A : Arr Z h a c ty) (r1 : c.slots.size = n.toNatClampNeg) (r2 : ¬ n < 0) (r3 : ∀ j, j < n.toNatClampNeg → c.slots[j]? = some (f j)) (W : Wr h h' a k v) : ArrF Z h' a ty n (fun j => if j = k then v else f j) := by
  refine ⟨_, A.same W, by rw [sz_set]; exact r1, r2, fun j hj => ?_⟩
  by_cases u : j = k
  · subst u; simp [Cell.setSlot, r1, hj]
  · show _ = some (if j = k then v else f j)
    rw [if_neg u, ← r3 j hj]; simp only [Cell.setSlot]; exact Array.getElem?_setIfInBounds_ne (Ne.symm u)
theorem own_idx {j n : Int32} (q0 : ¬ j < 0) (q1 : j < n) : j.toNatClampNeg < n.toNatClampNeg := by
  rw [Int32.lt_iff_toInt_lt] at q0 q1
  have e0 : (0 : Int32).toInt = 0 := rfl
  simp only [Int32.toNatClampNeg] at *; omega

/-! ## the plain part -/
def own_ch (x mk : Int64) : Int32 := if (lcmpW (x &&& mk) (0 : Int64)) = (0 : Int32) then (1 : Int32) else (0 : Int32)
def own_get (x mk : Int64) : Int32 := if (lcmpW (x &&& mk) (0 : Int64)) = (0 : Int32) then (0 : Int32) else (1 : Int32)
theorem own_ch_nar (x mk : Int64) : nar .boolean (own_ch x mk) = own_ch x mk := by unfold own_ch; split <;> rfl
theorem own_get_nar (x mk : Int64) : nar .boolean (own_get x mk) = own_get x mk := by unfold own_get; split <;> rfl
theorem own_ch_1 {x mk : Int64} (h : lcmpW (x &&& mk) 0 = 0) : ¬ own_ch x mk = 0 := by unfold own_ch; rw [if_pos h]; decide
theorem own_ch_0 {x mk : Int64} (h : ¬ lcmpW (x &&& mk) 0 = 0) : own_ch x mk = 0 := by unfold own_ch; rw [if_neg h]
theorem own_sz (q0 sz : Int64) (h : ((1 : Int64) + (q0 &&& (1023 : Int64))) = sz) : 1 ≤ sz.toInt ∧ sz.toInt ≤ 1024 := by
  have z1 : (1 : Int64).toInt = 1 := rfl
  have m := c_maskL q0 1023 10 (by decide) (by decide)
  have e : ((2 ^ 10 : Nat) : Int) = 1024 := rfl
  rw [e] at m
  have q := c_ladd 1 (q0 &&& 1023)
  rw [h, z1] at q
  have r := rng64 sz
  omega
theorem own_rem (q sz i : Int64) (hs : 1 ≤ sz.toInt) (h : (q &&& (9223372036854775807 : Int64)) % sz = i) : 0 ≤ i.toInt ∧ i.toInt < sz.toInt := by
  have m := c_maskL q 9223372036854775807 63 (by decide) (by decide)
  have e : ((2 ^ 63 : Nat) : Int) = 9223372036854775808 := rfl
  rw [e] at m
  have p : 0 ≤ (q &&& (9223372036854775807 : Int64)).toInt := by omega
  rw [← h, Int64.toInt_mod, Int.tmod_eq_emod_of_nonneg p]
  exact ⟨Int.emod_nonneg _ (by omega), Int.emod_lt_of_pos _ (by omega)⟩
theorem own_nw (sz : Int64) (h1 : 1 ≤ sz.toInt) (h2 : sz.toInt ≤ 1024) (wd : Int64) (hw : ((sz + (64 : Int64)) - (1 : Int64)) / (64 : Int64) = wd) (nw : Int32) (hn : wd.toInt32 = nw) : ¬ nw < 0 ∧ nw.toNatClampNeg ≤ 16 ∧ nw.toInt = (sz.toInt + 63) / 64 := by
  have z1 : (1 : Int64).toInt = 1 := rfl
  have z64 : (64 : Int64).toInt = 64 := rfl
  have z0 : (0 : Int32).toInt = 0 := rfl
  have a := c_ladd sz 64
  have b := c_lsub (sz + 64) 1
  rw [z64] at a
  rw [z1] at b
  have ra := rng64 (sz + 64)
  have rb := rng64 ((sz + 64) - 1)
  have d := (c_ldiv ((sz + 64) - 1) 64 64 z64 (by decide)).1 (by omega)
  rw [hw] at d
  have t := c_l2i wd
  rw [hn] at t
  have rn := rng32 nw
  have u : nw.toInt = (sz.toInt + 63) / 64 := by omega
  refine ⟨by rw [Int32.lt_iff_toInt_lt, z0]; omega, by simp only [Int32.toNatClampNeg]; omega, u⟩
theorem own_ix (i : Int64) (h0 : 0 ≤ i.toInt) (h1 : i.toInt < 1024) (j : Int32) (h : (((i.toUInt64 >>> ((6 : Int32) &&& 0x3f).toInt64.toUInt64).toInt64).toInt32) = j) : j.toInt = i.toInt / 64 := by
  have a := c_lushr i 6 6 (by decide) (by decide)
  have e : ((2 ^ 6 : Nat) : Int) = 64 := rfl
  rw [e] at a
  have t := c_l2i ((i.toUInt64 >>> ((6 : Int32) &&& 0x3f).toInt64.toUInt64).toInt64)
  rw [h, a] at t
  have r := rng32 j
  omega
theorem own_jn {i sz : Int64} {nw j : Int32} (h0 : 0 ≤ i.toInt) (h1 : i.toInt < sz.toInt) (hn : nw.toInt = (sz.toInt + 63) / 64) (hj : j.toInt = i.toInt / 64) : ¬ j < 0 ∧ j < nw ∧ j.toNatClampNeg = i.toInt.toNat / 64 := by
  have z0 : (0 : Int32).toInt = 0 := rfl
  refine ⟨by rw [Int32.lt_iff_toInt_lt, z0]; omega, by rw [Int32.lt_iff_toInt_lt]; omega, by simp only [Int32.toNatClampNeg]; omega⟩
theorem own_mk (i : Int64) (h0 : 0 ≤ i.toInt) (h1 : i.toInt < 1024) (m : Int64) (h : ((1 : Int64) <<< ((i.toInt32) &&& 0x3f).toInt64) = m) : m.toBitVec = BitVec.twoPow 64 (i.toInt.toNat % 64) := by
  have t := c_l2i i
  have r := rng32 i.toInt32
  have u : i.toInt32.toInt = i.toInt := by omega
  have v : i.toInt32.toBitVec.toNat = i.toInt.toNat := by
    have q := Int32.toInt_toBitVec i.toInt32
    rw [u, BitVec.toInt_eq_toNat_cond] at q
    have := i.toInt32.toBitVec.isLt
    split at q <;> omega
  have a := c_lshl 1 i.toInt32 (i.toInt.toNat % 64) (by rw [v])
  rw [h] at a
  have z1 : (1 : Int64).toInt = 1 := rfl
  rw [z1, Int.one_mul] at a
  apply BitVec.eq_of_toNat_eq
  rw [BitVec.toNat_twoPow_of_lt (Nat.mod_lt _ (by decide))]
  have q := Int64.toInt_toBitVec m
  rw [BitVec.toInt_eq_toNat_cond] at q
  have lt := m.toBitVec.isLt
  have p : 2 ^ (i.toInt.toNat % 64) < 2 ^ 64 := Nat.pow_lt_pow_right (by decide) (Nat.mod_lt _ (by decide))
  generalize 2 ^ (i.toInt.toNat % 64) = P at *
  split at q <;> omega
theorem own_bit_or (x m : Int64) (n k : Nat) (hm : m.toBitVec = BitVec.twoPow 64 n) (hk : k < 64) : (x ||| m).toBitVec.getLsbD k = (x.toBitVec.getLsbD k || decide (k = n)) := by
  rw [Int64.toBitVec_or, hm, BitVec.getLsbD_or, BitVec.getLsbD_twoPow]
  by_cases h : n = k
  · subst h; simp [hk]
  · simp [h, Ne.symm h]
theorem own_bit_and (x m : Int64) (n : Nat) (hm : m.toBitVec = BitVec.twoPow 64 n) (hn : n < 64) : lcmpW (x &&& m) 0 = 0 ↔ x.toBitVec.getLsbD n = false := by
  rw [lw_eq, ← Int64.toBitVec_inj, Int64.toBitVec_and, hm, BitVec.and_twoPow]
  have z : (0 : Int64).toBitVec = 0#64 := rfl
  rw [z]
  cases h : x.toBitVec.getLsbD n
  · simp
  · simp only [if_true]
    constructor
    · intro q
      have := congrArg (fun y => y.getLsbD n) q
      simp [BitVec.getLsbD_twoPow, hn] at this
    · intro q; cases q
theorem own_or_same (x m : Int64) (n : Nat) (hm : m.toBitVec = BitVec.twoPow 64 n) (hn : n < 64) (h : ¬ lcmpW (x &&& m) 0 = 0) : x ||| m = x := by
  rw [own_bit_and x m n hm hn] at h
  apply Int64.toBitVec_inj.mp
  apply BitVec.eq_of_getLsbD_eq
  intro k hk
  rw [own_bit_or x m n k hm hk]
  by_cases u : k = n
  · subst u; simp at h; simp [h]
  · simp [u]
theorem own_get_bit (x m : Int64) (n : Nat) (hm : m.toBitVec = BitVec.twoPow 64 n) (hn : n < 64) : own_get x m = if x.toBitVec.getLsbD n = true then 1 else 0 := by
  unfold own_get
  by_cases h : lcmpW (x &&& m) 0 = 0
  · rw [if_pos h]; rw [own_bit_and x m n hm hn] at h; rw [h]; rfl
  · rw [if_neg h]; rw [own_bit_and x m n hm hn] at h; rw [if_pos (by simpa using h)]
theorem own_zero_bit (n : Nat) : (0 : Int64).toBitVec.getLsbD n = false := by
  have z : (0 : Int64).toBitVec = 0#64 := rfl
  rw [z]; simp
theorem own_first (m : Int64) (n : Nat) (hm : m.toBitVec = BitVec.twoPow 64 n) (hn : n < 64) : own_get 0 m = 0 := by rw [own_get_bit 0 m n hm hn, own_zero_bit]; rfl
theorem own_eq {x y : Int64} (hx : 0 ≤ x.toInt) (hy : 0 ≤ y.toInt) : lcmpW x y = 0 ↔ (x.toInt.toNat / 64 = y.toInt.toNat / 64 ∧ x.toInt.toNat % 64 = y.toInt.toNat % 64) := by
  rw [lw_eq, ← Int64.toInt_inj]; omega
/-- the word of place J once the bit (Ja, ma) is set in a store of zeros -/
def own_w1 (Ja : Nat) (ma : Int64) (J : Nat) : Int64 := if J = Ja then (0 : Int64) ||| ma else 0
def own_w2 (Ja Jb : Nat) (ma mb : Int64) (J : Nat) : Int64 := if J = Jb then own_w1 Ja ma Jb ||| mb else own_w1 Ja ma J
theorem own_w1_bit (Ja J n k : Nat) (ma : Int64) (hm : ma.toBitVec = BitVec.twoPow 64 n) (hk : k < 64) : (own_w1 Ja ma J).toBitVec.getLsbD k = decide (J = Ja ∧ k = n) := by
  unfold own_w1
  by_cases h : J = Ja
  · rw [if_pos h, own_bit_or 0 ma n k hm hk, own_zero_bit]; simp [h]
  · rw [if_neg h, own_zero_bit]; simp [h]
theorem own_w2_bit (Ja Jb J na nb k : Nat) (ma mb : Int64) (hma : ma.toBitVec = BitVec.twoPow 64 na) (hmb : mb.toBitVec = BitVec.twoPow 64 nb) (hk : k < 64) : (own_w2 Ja Jb ma mb J).toBitVec.getLsbD k = decide ((J = Ja ∧ k = na) ∨ (J = Jb ∧ k = nb)) := by
  unfold own_w2
  by_cases h : J = Jb
  · rw [if_pos h, own_bit_or _ mb nb k hmb hk, own_w1_bit Ja Jb na k ma hma hk]; subst h; simp [Bool.decide_or]
  · rw [if_neg h, own_w1_bit Ja J na k ma hma hk]; simp [h]
theorem own_f1 (Ja J : Nat) (ma : Int64) : (fun j => if j = Ja then Value.long ((0 : Int64) ||| ma) else (fun _ => (Value.long (0 : Int64))) j) J = Value.long (own_w1 Ja ma J) := by
  unfold own_w1; dsimp only; split <;> rfl
theorem own_f2 (Ja Jb J : Nat) (ma mb : Int64) : (fun j => if j = Jb then Value.long (own_w1 Ja ma Jb ||| mb) else (fun j => if j = Ja then Value.long ((0 : Int64) ||| ma) else (fun _ => (Value.long (0 : Int64))) j) j) J = Value.long (own_w2 Ja Jb ma mb J) := by
  unfold own_w2; dsimp only; split
  · rfl
  · exact own_f1 Ja J ma
theorem own_end0 {ia ib ic : Int64} {sb : Int32} {J : Nat} {ma mc : Int64} (Ia : 0 ≤ ia.toInt) (Ic : 0 ≤ ic.toInt) (hJ : J = ic.toInt.toNat / 64) (Am : ma.toBitVec = BitVec.twoPow 64 (ia.toInt.toNat % 64)) (Cm : mc.toBitVec = BitVec.twoPow 64 (ic.toInt.toNat % 64)) (hs : sb = 0) :
    own_get (own_w1 (ia.toInt.toNat / 64) ma J) mc = (if (lcmpW ic ia) = (0 : Int32) then (1 : Int32) else (if sb = (0 : Int32) then (0 : Int32) else (if (lcmpW ic ib) = (0 : Int32) then (1 : Int32) else (0 : Int32)))) := by
  have lt := Nat.mod_lt ic.toInt.toNat (by decide : 64 > 0)
  rw [own_get_bit _ mc _ Cm lt, own_w1_bit _ _ _ _ ma Am lt, hJ, if_pos hs]
  simp only [own_eq Ic Ia, decide_eq_true_eq]
theorem own_end1 {ia ib ic : Int64} {sb : Int32} {J : Nat} {ma mb mc : Int64} (Ia : 0 ≤ ia.toInt) (Ib : 0 ≤ ib.toInt) (Ic : 0 ≤ ic.toInt) (hJ : J = ic.toInt.toNat / 64) (Am : ma.toBitVec = BitVec.twoPow 64 (ia.toInt.toNat % 64)) (Bm : mb.toBitVec = BitVec.twoPow 64 (ib.toInt.toNat % 64)) (Cm : mc.toBitVec = BitVec.twoPow 64 (ic.toInt.toNat % 64)) (hs : ¬ sb = 0) :
    own_get (own_w2 (ia.toInt.toNat / 64) (ib.toInt.toNat / 64) ma mb J) mc = (if (lcmpW ic ia) = (0 : Int32) then (1 : Int32) else (if sb = (0 : Int32) then (0 : Int32) else (if (lcmpW ic ib) = (0 : Int32) then (1 : Int32) else (0 : Int32)))) := by
  have lt := Nat.mod_lt ic.toInt.toNat (by decide : 64 > 0)
  rw [own_get_bit _ mc _ Cm lt, own_w2_bit _ _ _ _ _ _ ma mb Am Bm lt, hJ, if_neg hs]
  simp only [own_eq Ic Ia, own_eq Ic Ib, decide_eq_true_eq]
  by_cases h1 : ic.toInt.toNat / 64 = ia.toInt.toNat / 64 ∧ ic.toInt.toNat % 64 = ia.toInt.toNat % 64
  · rw [if_pos (Or.inl h1), if_pos h1]
  · rw [if_neg h1]
    by_cases h2 : ic.toInt.toNat / 64 = ib.toInt.toNat / 64 ∧ ic.toInt.toNat % 64 = ib.toInt.toNat % 64
    · rw [if_pos (Or.inr h2), if_pos h2]
    · rw [if_neg h2, if_neg (fun q => q.elim h1 h2)]
theorem own_b7 (sz : Int64) (h1 : 1 ≤ sz.toInt) : ¬ (lcmpW sz (1 : Int64) < (0 : Int32)) := by
  have z1 : (1 : Int64).toInt = 1 := rfl
  rw [lw_lt, Int64.lt_iff_toInt_lt, z1]; omega
theorem own_b15 (sz : Int64) (h1 : sz.toInt ≤ 1024) : ¬ ((0 : Int32) < lcmpW sz (137438952896 : Int64)) := by
  have z1 : (137438952896 : Int64).toInt = 137438952896 := rfl
  rw [lw_gt, Int64.lt_iff_toInt_lt, z1]; omega
theorem own_nz (sz : Int64) (h1 : 1 ≤ sz.toInt) : sz ≠ (0 : Int64) := fun q => by
  have z0 : (0 : Int64).toInt = 0 := rfl
  rw [q, z0] at h1; omega

theorem d1_0 : decode method_2_code 0 = .ok (.lload_n 0, 1) := by decide +kernel
theorem d1_1 : decode method_2_code 1 = .ok (.ldc2_w 9, 3) := by decide +kernel
theorem d1_4 : decode method_2_code 4 = .ok (.land, 1) := by decide +kernel
theorem d1_5 : decode method_2_code 5 = .ok (.lload_n 2, 1) := by decide +kernel
theorem d1_6 : decode method_2_code 6 = .ok (.lrem, 1) := by decide +kernel
theorem d1_7 : decode method_2_code 7 = .ok (.lreturn, 1) := by decide +kernel
def Q1 (Z : State) (q1 : Int64) (q2 : Int64) (r : Int64) (h0 : Heap) (n0 : Nat) (v : Option Value) (h : Heap) (L : List Loc) : Prop := v = some (.long r) ∧ Fr n0 L ∧ h = h0
theorem pn_1 : plainName "com/example/mussel/mussel/engine/BitArrayGetPinLaw" = true := by first | (simp [plainName, overriddenIn]; done) | decide +kernel
theorem ef_1 (m : MethodId) (x0 : Int64) (x1 : Int64) : entryFrame m #[(.long x0), (.long x1)] 4 = mkF m 0 #[.val (.long x0), .second, .val (.long x1), .second] [] := by first | (simp [entryFrame, mkF, argsToLocals, Value.category]; done) | rfl
set_option maxRecDepth 65536 in
set_option maxHeartbeats 40000000 in
theorem rm1 (l : Launch) (Z : State) (a0 : Array Value) (hw : ∀ d ∈ tables_1, d.before a0 Z = true) (ws : List Jvm.Cond) (q1 : Int64) (q2 : Int64) (r : Int64) (h0 : Heap) (n0 : Nat) (Z0 : n0 ≤ h0.size) (hnz6 : q2 ≠ (0 : Int64)) (hr_ : ((q1 &&& (9223372036854775807 : Int64)) % q2) = r) :
    MetFree l (⟨"com/example/mussel/mussel/engine/BitArrayGetPinLaw", "pick", "(JJ)J"⟩ : MethodName) (head1 (Jvm.Cond.code (⟨"com/example/mussel/mussel/engine/BitArrayGetPinLaw", "pick", "(JJ)J"⟩ : MethodName) method_2_code 4 (some .long) :: ws) ({ frames := 0, cells := 0, slots := 0, locals := 0 } : Room)) (fun as_ U => as_ = #[(.long q1), (.long q2)] ∧ Z.Warmed39 U.vm ∧ U.heap = h0) (fun _ _ _ _ _ => True) (fun _ U o U' => ∃ v L, o = .returned v ∧ Q1 Z q1 q2 r h0 n0 v U'.heap L ∧ FrameEnd U o U' L ({ frames := 0, cells := 0, slots := 0, locals := 0 } : Room).cells ({ frames := 0, cells := 0, slots := 0, locals := 0 } : Room).slots) := by
  refine MetFree.of_bodySF (plainFor_of_name pn_1) hisR ?_
  intro p e s m args below meth c s₁ Bd hml0 hP hK
  obtain ⟨rfl, hZ, hh⟩ := hP
  have hx := Bd.exec
  have hby := Bd.bytes
  have hml : c.maxLocals = 4 := hml0
  have hown : s.vm.findClass "com/example/mussel/mussel/engine/BitArrayGetPinLaw" = some m.cls := findClass_of_methodNamed Bd.named
  have hnm := (name_of_methodNamed Bd.named Bd.method).1
  have X0 : Stand p l e ({ frames := 0, cells := 0, slots := 0, locals := 0 } : Room) s m #[(.long q1), (.long q2)] below meth c s₁ [] 0 0 := Stand.of_body Bd
  have e0 : s₁.heap = h0 := by rw [← hh, Bd.state]; rfl
  have N0 := Fr.nil n0
  have pre0 : ∀ t, Steps p.tables e below (s₁.setTop (mkF m 0 #[.val (.long q1), .second, .val (.long q2), .second] [])) t → Steps p.tables e below (s₁.setTop (entryFrame m #[(.long q1), (.long q2)] 4)) t := fun t k => castTop (ef_1 m q1 q2) k
  obtain ⟨fs, hr, hrun, hended, hW, hsame⟩ := X0.leave (v := some (.long r)) (fun h => by rw [Bd.returns] at h; cases h)
  refine ⟨_, _, pre0 _ ?_, hrun, hended, _, _, rfl, ?_, ⟨_, rfl⟩, hW, hsame.mono (by decide) (by decide)⟩
  · show Steps p.tables e below (s₁.setTop (mkF m 0 #[.val (.long q1), .second, .val (.long q2), .second] [])) _
    refine XS.lloadN X0.here hx rfl (hb hby d1_0) rfl ?_
    show Steps p.tables e below (s₁.setTop (mkF m 1 #[.val (.long q1), .second, .val (.long q2), .second] [(.long q1)])) _
    refine X0.ldc2Long hx hown (mvT hZ (hw _ (List.mem_of_getElem? (i := 5) rfl))) (g := (mkF m 1 #[.val (.long q1), .second, .val (.long q2), .second] [(.long q1)])) rfl (hb hby d1_1) _ ?_
    show Steps p.tables e below (s₁.setTop (mkF m 4 #[.val (.long q1), .second, .val (.long q2), .second] [(.long (9223372036854775807 : Int64)), (.long q1)])) _
    refine XS.land X0.here hx rfl (hb hby d1_4) rfl ?_
    show Steps p.tables e below (s₁.setTop (mkF m 5 #[.val (.long q1), .second, .val (.long q2), .second] [(.long (q1 &&& (9223372036854775807 : Int64)))])) _
    refine XS.lloadN X0.here hx rfl (hb hby d1_5) rfl ?_
    show Steps p.tables e below (s₁.setTop (mkF m 6 #[.val (.long q1), .second, .val (.long q2), .second] [(.long q2), (.long (q1 &&& (9223372036854775807 : Int64)))])) _
    refine XS.lrem X0.here hx rfl (hb hby d1_6) rfl hnz6 ?_
    show Steps p.tables e below (s₁.setTop (mkF m 7 #[.val (.long q1), .second, .val (.long q2), .second] [(.long ((q1 &&& (9223372036854775807 : Int64)) - ((q1 &&& (9223372036854775807 : Int64)) / q2) * q2))])) _
    rw [lrem_mod]
    show Steps p.tables e below (s₁.setTop (mkF m 7 #[.val (.long q1), .second, .val (.long q2), .second] [(.long ((q1 &&& (9223372036854775807 : Int64)) % q2))])) _
    rw [hr_]
    show Steps p.tables e below (s₁.setTop (mkF m 7 #[.val (.long q1), .second, .val (.long q2), .second] [(.long r)])) _
    jvm_step X0.here [X0.here.top, hx, (hb hby d1_7), X0.method', Bd.returns, narrow]
    first | (intro acts; rw [hr _ acts rfl rfl rfl]) | rw [hr _ _ rfl rfl rfl]
    exact Steps.refl _
  · show Q1 Z q1 q2 r h0 n0 _ s₁.heap _
    rw [e0]
    exact ⟨rfl, N0, rfl⟩
theorem d4_0 : decode prog_20_method_12_code 0 = .ok (.lload_n 0, 1) := by decide +kernel
theorem d4_1 : decode prog_20_method_12_code 1 = .ok (.ldc2_w 135, 3) := by decide +kernel
theorem d4_4 : decode prog_20_method_12_code 4 = .ok (.ladd, 1) := by decide +kernel
theorem d4_5 : decode prog_20_method_12_code 5 = .ok (.lconst 1, 1) := by decide +kernel
theorem d4_6 : decode prog_20_method_12_code 6 = .ok (.lsub, 1) := by decide +kernel
theorem d4_7 : decode prog_20_method_12_code 7 = .ok (.ldc2_w 135, 3) := by decide +kernel
theorem d4_10 : decode prog_20_method_12_code 10 = .ok (.ldiv, 1) := by decide +kernel
theorem d4_11 : decode prog_20_method_12_code 11 = .ok (.lreturn, 1) := by decide +kernel
def Q4 (Z : State) (q1 : Int64) (r : Int64) (h0 : Heap) (n0 : Nat) (v : Option Value) (h : Heap) (L : List Loc) : Prop := v = some (.long r) ∧ Fr n0 L ∧ h = h0
theorem pn_4 : plainName "com/example/mussel/mussel/engine/BitArray" = true := by first | (simp [plainName, overriddenIn]; done) | decide +kernel
theorem ef_4 (m : MethodId) (x0 : Int64) : entryFrame m #[(.long x0)] 2 = mkF m 0 #[.val (.long x0), .second] [] := by first | (simp [entryFrame, mkF, argsToLocals, Value.category]; done) | rfl
set_option maxRecDepth 65536 in
set_option maxHeartbeats 40000000 in
theorem rm4 (l : Launch) (Z : State) (a0 : Array Value) (hw : ∀ d ∈ tables_1, d.before a0 Z = true) (ws : List Jvm.Cond) (q1 : Int64) (r : Int64) (h0 : Heap) (n0 : Nat) (Z0 : n0 ≤ h0.size) (hr_ : (((q1 + (64 : Int64)) - (1 : Int64)) / (64 : Int64)) = r) :
    MetFree l (⟨"com/example/mussel/mussel/engine/BitArray", "words", "(J)J"⟩ : MethodName) (head1 (Jvm.Cond.code (⟨"com/example/mussel/mussel/engine/BitArray", "words", "(J)J"⟩ : MethodName) prog_20_method_12_code 2 (some .long) :: ws) ({ frames := 0, cells := 0, slots := 0, locals := 0 } : Room)) (fun as_ U => as_ = #[(.long q1)] ∧ Z.Warmed39 U.vm ∧ U.heap = h0) (fun _ _ _ _ _ => True) (fun _ U o U' => ∃ v L, o = .returned v ∧ Q4 Z q1 r h0 n0 v U'.heap L ∧ FrameEnd U o U' L ({ frames := 0, cells := 0, slots := 0, locals := 0 } : Room).cells ({ frames := 0, cells := 0, slots := 0, locals := 0 } : Room).slots) := by
  refine MetFree.of_bodySF (plainFor_of_name pn_4) hisR ?_
  intro p e s m args below meth c s₁ Bd hml0 hP hK
  obtain ⟨rfl, hZ, hh⟩ := hP
  have hx := Bd.exec
  have hby := Bd.bytes
  have hml : c.maxLocals = 2 := hml0
  have hown : s.vm.findClass "com/example/mussel/mussel/engine/BitArray" = some m.cls := findClass_of_methodNamed Bd.named
  have hnm := (name_of_methodNamed Bd.named Bd.method).1
  have X0 : Stand p l e ({ frames := 0, cells := 0, slots := 0, locals := 0 } : Room) s m #[(.long q1)] below meth c s₁ [] 0 0 := Stand.of_body Bd
  have e0 : s₁.heap = h0 := by rw [← hh, Bd.state]; rfl
  have N0 := Fr.nil n0
  have pre0 : ∀ t, Steps p.tables e below (s₁.setTop (mkF m 0 #[.val (.long q1), .second] [])) t → Steps p.tables e below (s₁.setTop (entryFrame m #[(.long q1)] 2)) t := fun t k => castTop (ef_4 m q1) k
  obtain ⟨fs, hr, hrun, hended, hW, hsame⟩ := X0.leave (v := some (.long r)) (fun h => by rw [Bd.returns] at h; cases h)
  refine ⟨_, _, pre0 _ ?_, hrun, hended, _, _, rfl, ?_, ⟨_, rfl⟩, hW, hsame.mono (by decide) (by decide)⟩
  · show Steps p.tables e below (s₁.setTop (mkF m 0 #[.val (.long q1), .second] [])) _
    refine XS.lloadN X0.here hx rfl (hb hby d4_0) rfl ?_
    show Steps p.tables e below (s₁.setTop (mkF m 1 #[.val (.long q1), .second] [(.long q1)])) _
    refine X0.ldc2Long hx hown (mvT hZ (hw _ (List.mem_of_getElem? (i := 19) rfl))) (g := (mkF m 1 #[.val (.long q1), .second] [(.long q1)])) rfl (hb hby d4_1) _ ?_
    show Steps p.tables e below (s₁.setTop (mkF m 4 #[.val (.long q1), .second] [(.long (64 : Int64)), (.long q1)])) _
    refine XS.ladd X0.here hx rfl (hb hby d4_4) rfl ?_
    show Steps p.tables e below (s₁.setTop (mkF m 5 #[.val (.long q1), .second] [(.long (q1 + (64 : Int64)))])) _
    refine XS.lconst X0.here hx rfl (hb hby d4_5) ?_
    show Steps p.tables e below (s₁.setTop (mkF m 6 #[.val (.long q1), .second] [(.long (1 : Int64)), (.long (q1 + (64 : Int64)))])) _
    refine XS.lsub X0.here hx rfl (hb hby d4_6) rfl ?_
    show Steps p.tables e below (s₁.setTop (mkF m 7 #[.val (.long q1), .second] [(.long ((q1 + (64 : Int64)) - (1 : Int64)))])) _
    refine X0.ldc2Long hx hown (mvT hZ (hw _ (List.mem_of_getElem? (i := 19) rfl))) (g := (mkF m 7 #[.val (.long q1), .second] [(.long ((q1 + (64 : Int64)) - (1 : Int64)))])) rfl (hb hby d4_7) _ ?_
    show Steps p.tables e below (s₁.setTop (mkF m 10 #[.val (.long q1), .second] [(.long (64 : Int64)), (.long ((q1 + (64 : Int64)) - (1 : Int64)))])) _
    refine XS.ldiv X0.here hx rfl (hb hby d4_10) rfl (by decide) ?_
    show Steps p.tables e below (s₁.setTop (mkF m 11 #[.val (.long q1), .second] [(.long (((q1 + (64 : Int64)) - (1 : Int64)) / (64 : Int64)))])) _
    rw [hr_]
    show Steps p.tables e below (s₁.setTop (mkF m 11 #[.val (.long q1), .second] [(.long r)])) _
    jvm_step X0.here [X0.here.top, hx, (hb hby d4_11), X0.method', Bd.returns, narrow]
    first | (intro acts; rw [hr _ acts rfl rfl rfl]) | rw [hr _ _ rfl rfl rfl]
    exact Steps.refl _
  · show Q4 Z q1 r h0 n0 _ s₁.heap _
    rw [e0]
    exact ⟨rfl, N0, rfl⟩
theorem d2_0 : decode prog_20_method_1_code 0 = .ok (.aload_n 0, 1) := by decide +kernel
theorem d2_1 : decode prog_20_method_1_code 1 = .ok (.invokespecial 7, 3) := by decide +kernel
theorem d2_4 : decode prog_20_method_1_code 4 = .ok (.lload_n 1, 1) := by decide +kernel
theorem d2_5 : decode prog_20_method_1_code 5 = .ok (.lconst 1, 1) := by decide +kernel
theorem d2_6 : decode prog_20_method_1_code 6 = .ok (.lcmp, 1) := by decide +kernel
theorem d2_7 : decode prog_20_method_1_code 7 = .ok (.ifCond .lt 11, 3) := by decide +kernel
theorem d2_10 : decode prog_20_method_1_code 10 = .ok (.lload_n 1, 1) := by decide +kernel
theorem d2_11 : decode prog_20_method_1_code 11 = .ok (.ldc2_w 13, 3) := by decide +kernel
theorem d2_14 : decode prog_20_method_1_code 14 = .ok (.lcmp, 1) := by decide +kernel
theorem d2_15 : decode prog_20_method_1_code 15 = .ok (.ifCond .le 17, 3) := by decide +kernel
theorem d2_32 : decode prog_20_method_1_code 32 = .ok (.aload_n 0, 1) := by decide +kernel
theorem d2_33 : decode prog_20_method_1_code 33 = .ok (.lload_n 1, 1) := by decide +kernel
theorem pd_0 : parseMethodDescriptor "(J)J" = some ⟨[.long], some .long⟩ := by decide +kernel
theorem d2_34 : decode prog_20_method_1_code 34 = .ok (.invokestatic 24, 3) := by decide +kernel
theorem d2_37 : decode prog_20_method_1_code 37 = .ok (.l2i, 1) := by decide +kernel
theorem d2_38 : decode prog_20_method_1_code 38 = .ok (.newarray .long, 2) := by decide +kernel
theorem d2_40 : decode prog_20_method_1_code 40 = .ok (.putfield 28, 3) := by decide +kernel
theorem d2_43 : decode prog_20_method_1_code 43 = .ok (.return_, 1) := by decide +kernel
def Q2 (Z : State) (a : Addr) (q1 : Int64) (b : Addr) (wd : Int64) (nw : Int32) (h0 : Heap) (n0 : Nat) (v : Option Value) (h : Heap) (L : List Loc) : Prop := v = none ∧ Fr n0 L ∧ Keep h0 h [a] ∧ Fld Z h a "com/example/mussel/mussel/engine/BitArray" "words" "[J" (.ref b) ∧ Fld Z h a "com/example/mussel/mussel/engine/BitArray" "capture" "Lcom/example/mussel/mussel/engine/BitArray$Capture;" .null ∧ ArrF Z h b .long nw (fun _ => (Value.long (0 : Int64)))
theorem pn_2 : plainName "com/example/mussel/mussel/engine/BitArray" = true := by first | (simp [plainName, overriddenIn]; done) | decide +kernel
theorem ef_2 (m : MethodId) (x0 : Addr) (x1 : Int64) : entryFrame m #[(.ref x0), (.long x1)] 3 = mkF m 0 #[.val (.ref x0), .val (.long x1), .second] [] := by first | (simp [entryFrame, mkF, argsToLocals, Value.category]; done) | rfl
set_option maxRecDepth 65536 in
set_option maxHeartbeats 40000000 in
theorem rm2 (l : Launch) (Z : State) (a0 : Array Value) (hw : ∀ d ∈ tables_1, d.before a0 Z = true) (ws : List Jvm.Cond) (a : Addr) (q1 : Int64) (b : Addr) (wd : Int64) (nw : Int32) (h0 : Heap) (n0 : Nat) (Z0 : n0 ≤ h0.size) (hb_ : b = h0.size) (hwd_ : ((q1 + (64 : Int64)) - (1 : Int64)) / (64 : Int64) = wd) (hn0_ : ¬ nw < 0) (hn1_ : nw.toNatClampNeg ≤ 16) (E_a : Exa Z h0 a "com/example/mussel/mussel/engine/BitArray") (F_words : Fld Z h0 a "com/example/mussel/mussel/engine/BitArray" "words" "[J" .null) (F_capture : Fld Z h0 a "com/example/mussel/mussel/engine/BitArray" "capture" "Lcom/example/mussel/mussel/engine/BitArray$Capture;" .null) (g_a : n0 ≤ a) (hc7 : ¬ ((lcmpW q1 (1 : Int64)) < (0 : Int32))) (hc15 : ¬ ((0 : Int32) < (lcmpW q1 (137438952896 : Int64)))) (hnw_ : (wd.toInt32) = nw) :
    MetFree l (⟨"com/example/mussel/mussel/engine/BitArray", "<init>", "(J)V"⟩ : MethodName) (head1 (Jvm.Cond.code (⟨"com/example/mussel/mussel/engine/BitArray", "<init>", "(J)V"⟩ : MethodName) prog_20_method_1_code 3 none :: ws) ({ frames := 1, cells := 1, slots := 16, locals := 14 } : Room)) (fun as_ U => as_ = #[(.ref a), (.long q1)] ∧ Z.Warmed39 U.vm ∧ U.heap = h0) (fun _ _ _ _ _ => True) (fun _ U o U' => ∃ v L, o = .returned v ∧ Q2 Z a q1 b wd nw h0 n0 v U'.heap L ∧ FrameEnd U o U' L ({ frames := 1, cells := 1, slots := 16, locals := 14 } : Room).cells ({ frames := 1, cells := 1, slots := 16, locals := 14 } : Room).slots) := by
  refine MetFree.of_bodySF (plainFor_of_name pn_2) hisR ?_
  intro p e s m args below meth c s₁ Bd hml0 hP hK
  obtain ⟨rfl, hZ, hh⟩ := hP
  have hx := Bd.exec
  have hby := Bd.bytes
  have hml : c.maxLocals = 3 := hml0
  have hown : s.vm.findClass "com/example/mussel/mussel/engine/BitArray" = some m.cls := findClass_of_methodNamed Bd.named
  have hnm := (name_of_methodNamed Bd.named Bd.method).1
  have X0 : Stand p l e ({ frames := 1, cells := 1, slots := 16, locals := 14 } : Room) s m #[(.ref a), (.long q1)] below meth c s₁ [] 0 0 := Stand.of_body Bd
  have e0 : s₁.heap = h0 := by rw [← hh, Bd.state]; rfl
  have N0 := Fr.nil n0
  have pre0 : ∀ t, Steps p.tables e below (s₁.setTop (mkF m 0 #[.val (.ref a), .val (.long q1), .second] [])) t → Steps p.tables e below (s₁.setTop (entryFrame m #[(.ref a), (.long q1)] 3)) t := fun t k => castTop (ef_2 m a q1) k
  obtain ⟨T_1, X_1, e_1, st_1⟩ := initO X0 hx hZ hown (hw _ (List.mem_of_getElem? (i := 12) rfl)) (hw _ (List.mem_of_getElem? (i := 13) rfl)) (hw _ (List.mem_of_getElem? (i := 14) rfl)) e0 (g := (mkF m 1 #[.val (.ref a), .val (.long q1), .second] [(.ref a)])) rfl (by rw [hml]; rfl) rfl (hb hby d2_1) (by decide) (W := 0) (by show 2 * 0 + _ ≤ _; exact Nat.le_of_eq rfl) (by decide)
  obtain ⟨_, _, ⟨T_2, L_2, k_2, n_2⟩, -, X_2, ⟨Lc_2, hQ_2, l_2, y_2, z_2⟩, st_2⟩ := Jvm.LawKit.callS X_1 hx (y := (⟨"com/example/mussel/mussel/engine/BitArray", "words", "(J)J"⟩ : MethodName)) hown (mvT hZ (hw _ (List.mem_of_getElem? (i := 16) rfl))) (mvT hZ (hw _ (List.mem_of_getElem? (i := 17) rfl))) (mvT hZ (hw _ (List.mem_of_getElem? (i := 8) rfl))) (mvT hZ (hw _ (List.mem_of_getElem? (i := 18) rfl))) (by decide) (backOf (W := 1) (rm4 l Z a0 hw [] q1 wd h0 n0 Z0 hwd_) hZ (hw _ (List.mem_of_getElem? (i := 18) rfl)) (hw _ (List.mem_of_getElem? (i := 8) rfl)) (by decide) (by decide)) (g := (mkF m 34 #[.val (.ref a), .val (.long q1), .second] [(.long q1), (.ref a)])) rfl (by rw [hml]; rfl) (argsL := [(.long q1)]) (rest := [(.ref a)]) (lenOf pd_0 rfl) rfl (by show 2 * 0 + _ ≤ _; exact Nat.le_of_eq rfl) (hb hby d2_34) (fun _ _ => ⟨rfl, e_1, (by decide : 0 + 0 ≤ _), (by decide : 0 + 0 ≤ _)⟩)
  dsimp only [Pt.U, Pt.locs, Pt.cells, Pt.slots] at X_2 l_2 y_2 z_2 st_2 hQ_2
  subst l_2 y_2 z_2
  obtain ⟨rfl, Nq_2, eq_2⟩ := hQ_2
  have N_2 := Fr.app N0 Nq_2
  obtain ⟨T_3, h_3, k_3, X_3, e_3, E_3, A_3, st_3⟩ := newP X_2 hx hZ (hw _ (List.mem_of_getElem? (i := 20) rfl)) eq_2 (g := (mkF m 38 #[.val (.ref a), .val (.long q1), .second] [(.int nw), (.ref a)])) rfl (hb hby d2_38) rfl hn0_ (cap := 16) hn1_ (by decide) (by decide) (by decide)
  have g_3 : b = h0.size := hb_
  rw [← g_3] at A_3 st_3
  have ne_a_b : a ≠ b := Nat.ne_of_lt (Nat.lt_of_lt_of_le E_a.lt (Nat.le_of_eq g_3.symm))
  have g_b : n0 ≤ b := Nat.le_trans Z0 (Nat.le_of_eq g_3.symm)
  have sz_b : h0.size ≤ b := Nat.le_trans (Keep.refl h0 [a]).1 (Nat.le_of_eq g_3.symm)
  have K_3 : Keep h0 h_3 [a] := (Keep.refl h0 [a]).ext E_3
  have V_3 : ArrF Z h_3 b .long nw (fun _ => (Value.long (0 : Int64))) := ArrF.of_new A_3 hn0_
  have Z_4 : n0 ≤ h_3.size := Nat.le_trans Z0 E_3.1
  have f_5_E_a := (E_a.ext E_3)
  have f_6_F_a_words := (F_words.ext E_3)
  obtain ⟨T_7, h_7, X_7, e_7, W_7, st_7⟩ := putF X_3 hx hZ hown (host := "") (Or.inl (hw _ (List.mem_of_getElem? (i := 21) rfl))) Via.refl e_3 f_6_F_a_words f_5_E_a (Or.inr ⟨(hw _ (List.mem_of_getElem? (i := 22) rfl)), rfl, hnm⟩) (hw _ (List.mem_of_getElem? (i := 7) rfl)) (ty := (.array .long)) (by decide) rfl rfl (g := (mkF m 40 #[.val (.ref a), .val (.long q1), .second] [(.ref b), (.ref a)])) rfl rfl (hb hby d2_40)
  have Fw_7 := f_6_F_a_words.same W_7
  have K_7 : Keep h0 h_7 [a] := K_3.wr W_7 (Or.inl (List.mem_of_getElem? (i := 0) rfl))
  have N_7 := Fr.snoc X_7 N_2 g_a
  have Z_8 : n0 ≤ h_7.size := Nat.le_trans Z_4 (Keep.of_wr W_7).1
  have f_9_F_a_capture := ((F_capture.ext E_3).other W_7 (Or.inr (slot_ne (Or.inl (hw _ (List.mem_of_getElem? (i := 34) rfl))) (Or.inr (hw _ (List.mem_of_getElem? (i := 22) rfl))) (by decide) (t := (.object "com/example/mussel/mussel/engine/BitArray$Capture")) (t' := (.array .long)) (by decide) (by decide))))
  have f_10_V_b := (V_3.other W_7 (Ne.symm ne_a_b))
  obtain ⟨fs, hr, hrun, hended, hW, hsame⟩ := X_7.leave (v := none) (fun _ => rfl)
  refine ⟨_, _, pre0 _ ?_, hrun, hended, _, _, rfl, ?_, ⟨_, rfl⟩, hW, hsame.mono (by decide) (by decide)⟩
  · show Steps p.tables e below (s₁.setTop (mkF m 0 #[.val (.ref a), .val (.long q1), .second] [])) _
    refine XS.aloadN X0.here hx rfl (hb hby d2_0) rfl rfl ?_
    show Steps p.tables e below (s₁.setTop (mkF m 1 #[.val (.ref a), .val (.long q1), .second] [(.ref a)])) _
    refine st_1 _ ?_
    show Steps p.tables e below (T_1.setTop (mkF m 4 #[.val (.ref a), .val (.long q1), .second] [])) _
    refine XS.lloadN X_1.here hx rfl (hb hby d2_4) rfl ?_
    show Steps p.tables e below (T_1.setTop (mkF m 5 #[.val (.ref a), .val (.long q1), .second] [(.long q1)])) _
    refine XS.lconst X_1.here hx rfl (hb hby d2_5) ?_
    show Steps p.tables e below (T_1.setTop (mkF m 6 #[.val (.ref a), .val (.long q1), .second] [(.long (1 : Int64)), (.long q1)])) _
    refine XS.lcmp X_1.here hx rfl (hb hby d2_6) rfl ?_
    show Steps p.tables e below (T_1.setTop (mkF m 7 #[.val (.ref a), .val (.long q1), .second] [(.int (lcmpW q1 (1 : Int64)))])) _
    refine XS.ifNo X_1.here hx rfl (hb hby d2_7) rfl ((if0 _ _).trans (flt hc7).1) ?_
    show Steps p.tables e below (T_1.setTop (mkF m 10 #[.val (.ref a), .val (.long q1), .second] [])) _
    refine XS.lloadN X_1.here hx rfl (hb hby d2_10) rfl ?_
    show Steps p.tables e below (T_1.setTop (mkF m 11 #[.val (.ref a), .val (.long q1), .second] [(.long q1)])) _
    refine X_1.ldc2Long hx hown (mvT hZ (hw _ (List.mem_of_getElem? (i := 15) rfl))) (g := (mkF m 11 #[.val (.ref a), .val (.long q1), .second] [(.long q1)])) rfl (hb hby d2_11) _ ?_
    show Steps p.tables e below (T_1.setTop (mkF m 14 #[.val (.ref a), .val (.long q1), .second] [(.long (137438952896 : Int64)), (.long q1)])) _
    refine XS.lcmp X_1.here hx rfl (hb hby d2_14) rfl ?_
    show Steps p.tables e below (T_1.setTop (mkF m 15 #[.val (.ref a), .val (.long q1), .second] [(.int (lcmpW q1 (137438952896 : Int64)))])) _
    refine XS.ifYes X_1.here hx rfl (pc0 := 15) (pc' := 32) rfl (hb hby d2_15) rfl ((if0 _ _).trans (flt hc15).2.2.2) (by decide) (by decide) ?_
    show Steps p.tables e below (T_1.setTop (mkF m 32 #[.val (.ref a), .val (.long q1), .second] [])) _
    refine XS.aloadN X_1.here hx rfl (hb hby d2_32) rfl rfl ?_
    show Steps p.tables e below (T_1.setTop (mkF m 33 #[.val (.ref a), .val (.long q1), .second] [(.ref a)])) _
    refine XS.lloadN X_1.here hx rfl (hb hby d2_33) rfl ?_
    show Steps p.tables e below (T_1.setTop (mkF m 34 #[.val (.ref a), .val (.long q1), .second] [(.long q1), (.ref a)])) _
    refine st_2 _ ?_
    show Steps p.tables e below (T_2.setTop (mkF m 37 #[.val (.ref a), .val (.long q1), .second] [(.long wd), (.ref a)])) _
    refine XS.l2i X_2.here hx rfl (hb hby d2_37) rfl ?_
    show Steps p.tables e below (T_2.setTop (mkF m 38 #[.val (.ref a), .val (.long q1), .second] [(.int (wd.toInt32)), (.ref a)])) _
    rw [hnw_]
    show Steps p.tables e below (T_2.setTop (mkF m 38 #[.val (.ref a), .val (.long q1), .second] [(.int nw), (.ref a)])) _
    refine st_3 _ ?_
    show Steps p.tables e below (T_3.setTop (mkF m 40 #[.val (.ref a), .val (.long q1), .second] [(.ref b), (.ref a)])) _
    refine st_7 _ ?_
    show Steps p.tables e below (T_7.setTop (mkF m 43 #[.val (.ref a), .val (.long q1), .second] [])) _
    exact X_7.returnOut hx Bd.returns (hb hby d2_43) hr
  · show Q2 Z a q1 b wd nw h0 n0 _ T_7.heap _
    rw [e_7]
    exact ⟨rfl, N_7, K_7, Fw_7, f_9_F_a_capture, f_10_V_b⟩
theorem d5_0 : decode prog_20_method_4_code 0 = .ok (.aload_n 0, 1) := by decide +kernel
theorem d5_1 : decode prog_20_method_4_code 1 = .ok (.getfield 28, 3) := by decide +kernel
theorem d5_4 : decode prog_20_method_4_code 4 = .ok (.lload_n 1, 1) := by decide +kernel
theorem d5_5 : decode prog_20_method_4_code 5 = .ok (.bipush 6, 2) := by decide +kernel
theorem d5_7 : decode prog_20_method_4_code 7 = .ok (.lushr, 1) := by decide +kernel
theorem d5_8 : decode prog_20_method_4_code 8 = .ok (.l2i, 1) := by decide +kernel
theorem d5_9 : decode prog_20_method_4_code 9 = .ok (.laload, 1) := by decide +kernel
theorem d5_10 : decode prog_20_method_4_code 10 = .ok (.lconst 1, 1) := by decide +kernel
theorem d5_11 : decode prog_20_method_4_code 11 = .ok (.lload_n 1, 1) := by decide +kernel
theorem d5_12 : decode prog_20_method_4_code 12 = .ok (.l2i, 1) := by decide +kernel
theorem d5_13 : decode prog_20_method_4_code 13 = .ok (.lshl, 1) := by decide +kernel
theorem d5_14 : decode prog_20_method_4_code 14 = .ok (.land, 1) := by decide +kernel
theorem d5_15 : decode prog_20_method_4_code 15 = .ok (.lconst 0, 1) := by decide +kernel
theorem d5_16 : decode prog_20_method_4_code 16 = .ok (.lcmp, 1) := by decide +kernel
theorem d5_17 : decode prog_20_method_4_code 17 = .ok (.ifCond .eq 7, 3) := by decide +kernel
theorem d5_24 : decode prog_20_method_4_code 24 = .ok (.iconst 0, 1) := by decide +kernel
theorem d5_20 : decode prog_20_method_4_code 20 = .ok (.iconst 1, 1) := by decide +kernel
theorem d5_21 : decode prog_20_method_4_code 21 = .ok (.goto 4, 3) := by decide +kernel
theorem d5_25 : decode prog_20_method_4_code 25 = .ok (.ireturn, 1) := by decide +kernel
def Q5 (Z : State) (r : Int32) (h0 : Heap) (n0 : Nat) (v : Option Value) (h : Heap) (L : List Loc) : Prop := v = some (.int r) ∧ Fr n0 L ∧ h = h0
theorem pn_5 : plainName "com/example/mussel/mussel/engine/BitArray" = true := by first | (simp [plainName, overriddenIn]; done) | decide +kernel
theorem ef_5 (m : MethodId) (x0 : Addr) (x1 : Int64) : entryFrame m #[(.ref x0), (.long x1)] 3 = mkF m 0 #[.val (.ref x0), .val (.long x1), .second] [] := by first | (simp [entryFrame, mkF, argsToLocals, Value.category]; done) | rfl
set_option maxRecDepth 65536 in
set_option maxHeartbeats 40000000 in
theorem rm5 (l : Launch) (Z : State) (a0 : Array Value) (hw : ∀ d ∈ tables_1, d.before a0 Z = true) (ws : List Jvm.Cond) (a : Addr) (q1 : Int64) (b : Addr) (nw : Int32) (f : Nat → Value) (ji : Int32) (x : Int64) (mk : Int64) (r : Int32) (h0 : Heap) (n0 : Nat) (Z0 : n0 ≤ h0.size) (F_w : Fld Z h0 a "com/example/mussel/mussel/engine/BitArray" "words" "[J" (.ref b)) (V_b : ArrF Z h0 b .long nw f) (hj0 : ¬ ji < 0) (hj1 : ji < nw) (hfx : f ji.toNatClampNeg = .long x) (hn_ : nar .boolean r = r) (hji_ : (((q1.toUInt64 >>> ((6 : Int32) &&& 0x3f).toInt64.toUInt64).toInt64).toInt32) = ji) (hmk_ : ((1 : Int64) <<< ((q1.toInt32) &&& 0x3f).toInt64) = mk) (hr_ : (if (lcmpW (x &&& mk) (0 : Int64)) = (0 : Int32) then (0 : Int32) else (1 : Int32)) = r) :
    MetFree l (⟨"com/example/mussel/mussel/engine/BitArray", "get", "(J)Z"⟩ : MethodName) (head1 (Jvm.Cond.code (⟨"com/example/mussel/mussel/engine/BitArray", "get", "(J)Z"⟩ : MethodName) prog_20_method_4_code 3 (some .boolean) :: ws) ({ frames := 0, cells := 0, slots := 0, locals := 0 } : Room)) (fun as_ U => as_ = #[(.ref a), (.long q1)] ∧ Z.Warmed39 U.vm ∧ U.heap = h0) (fun _ _ _ _ _ => True) (fun _ U o U' => ∃ v L, o = .returned v ∧ Q5 Z r h0 n0 v U'.heap L ∧ FrameEnd U o U' L ({ frames := 0, cells := 0, slots := 0, locals := 0 } : Room).cells ({ frames := 0, cells := 0, slots := 0, locals := 0 } : Room).slots) := by
  refine MetFree.of_bodySF (plainFor_of_name pn_5) hisR ?_
  intro p e s m args below meth c s₁ Bd hml0 hP hK
  obtain ⟨rfl, hZ, hh⟩ := hP
  have hx := Bd.exec
  have hby := Bd.bytes
  have hml : c.maxLocals = 3 := hml0
  have hown : s.vm.findClass "com/example/mussel/mussel/engine/BitArray" = some m.cls := findClass_of_methodNamed Bd.named
  have hnm := (name_of_methodNamed Bd.named Bd.method).1
  have X0 : Stand p l e ({ frames := 0, cells := 0, slots := 0, locals := 0 } : Room) s m #[(.ref a), (.long q1)] below meth c s₁ [] 0 0 := Stand.of_body Bd
  have e0 : s₁.heap = h0 := by rw [← hh, Bd.state]; rfl
  have N0 := Fr.nil n0
  have pre0 : ∀ t, Steps p.tables e below (s₁.setTop (mkF m 0 #[.val (.ref a), .val (.long q1), .second] [])) t → Steps p.tables e below (s₁.setTop (entryFrame m #[(.ref a), (.long q1)] 3)) t := fun t k => castTop (ef_5 m a q1) k
  obtain ⟨T_1, X_1, e_1, st_1⟩ := getF X0 hx hZ hown (host := "") (Or.inl (hw _ (List.mem_of_getElem? (i := 21) rfl))) Via.refl e0 F_w (g := (mkF m 1 #[.val (.ref a), .val (.long q1), .second] [(.ref a)])) rfl rfl (hb hby d5_1)
  obtain ⟨cl_2, Ar_2, Sz_2, Mz_2, Hz_2⟩ := id V_b
  obtain ⟨fs, hr, hrun, hended, hW, hsame⟩ := X_1.leave (v := some (.int r)) (fun h => by rw [Bd.returns] at h; cases h)
  refine ⟨_, _, pre0 _ ?_, hrun, hended, _, _, rfl, ?_, ⟨_, rfl⟩, hW, hsame.mono (by decide) (by decide)⟩
  · show Steps p.tables e below (s₁.setTop (mkF m 0 #[.val (.ref a), .val (.long q1), .second] [])) _
    refine XS.aloadN X0.here hx rfl (hb hby d5_0) rfl rfl ?_
    show Steps p.tables e below (s₁.setTop (mkF m 1 #[.val (.ref a), .val (.long q1), .second] [(.ref a)])) _
    refine st_1 _ ?_
    show Steps p.tables e below (T_1.setTop (mkF m 4 #[.val (.ref a), .val (.long q1), .second] [(.ref b)])) _
    refine XS.lloadN X_1.here hx rfl (hb hby d5_4) rfl ?_
    show Steps p.tables e below (T_1.setTop (mkF m 5 #[.val (.ref a), .val (.long q1), .second] [(.long q1), (.ref b)])) _
    refine XS.bipush X_1.here hx rfl (hb hby d5_5) ?_
    show Steps p.tables e below (T_1.setTop (mkF m 7 #[.val (.ref a), .val (.long q1), .second] [(.int (6 : Int32)), (.long q1), (.ref b)])) _
    refine XS.lushr X_1.here hx rfl (hb hby d5_7) rfl ?_
    show Steps p.tables e below (T_1.setTop (mkF m 8 #[.val (.ref a), .val (.long q1), .second] [(.long ((q1.toUInt64 >>> ((6 : Int32) &&& 0x3f).toInt64.toUInt64).toInt64)), (.ref b)])) _
    refine XS.l2i X_1.here hx rfl (hb hby d5_8) rfl ?_
    show Steps p.tables e below (T_1.setTop (mkF m 9 #[.val (.ref a), .val (.long q1), .second] [(.int (((q1.toUInt64 >>> ((6 : Int32) &&& 0x3f).toInt64.toUInt64).toInt64).toInt32)), (.ref b)])) _
    rw [hji_]
    show Steps p.tables e below (T_1.setTop (mkF m 9 #[.val (.ref a), .val (.long q1), .second] [(.int ji), (.ref b)])) _
    refine X_1.laload hx (j := ji) (v := (.long x)) (by rw [e_1]; exact Ar_2.1) (State.isArrayOf_alike hZ.alike Ar_2.2.1) Ar_2.2.2 (inb_of Sz_2 ⟨hj0, hj1⟩) ((Hz_2 _ (own_idx hj0 hj1)).trans (congrArg some hfx)) (g := (mkF m 9 #[.val (.ref a), .val (.long q1), .second] [(.int ji), (.ref b)])) rfl rfl (hb hby d5_9) _ ?_
    show Steps p.tables e below (T_1.setTop (mkF m 10 #[.val (.ref a), .val (.long q1), .second] [(.long x)])) _
    refine XS.lconst X_1.here hx rfl (hb hby d5_10) ?_
    show Steps p.tables e below (T_1.setTop (mkF m 11 #[.val (.ref a), .val (.long q1), .second] [(.long (1 : Int64)), (.long x)])) _
    refine XS.lloadN X_1.here hx rfl (hb hby d5_11) rfl ?_
    show Steps p.tables e below (T_1.setTop (mkF m 12 #[.val (.ref a), .val (.long q1), .second] [(.long q1), (.long (1 : Int64)), (.long x)])) _
    refine XS.l2i X_1.here hx rfl (hb hby d5_12) rfl ?_
    show Steps p.tables e below (T_1.setTop (mkF m 13 #[.val (.ref a), .val (.long q1), .second] [(.int (q1.toInt32)), (.long (1 : Int64)), (.long x)])) _
    refine XS.lshl X_1.here hx rfl (hb hby d5_13) rfl ?_
    show Steps p.tables e below (T_1.setTop (mkF m 14 #[.val (.ref a), .val (.long q1), .second] [(.long ((1 : Int64) <<< ((q1.toInt32) &&& 0x3f).toInt64)), (.long x)])) _
    rw [hmk_]
    show Steps p.tables e below (T_1.setTop (mkF m 14 #[.val (.ref a), .val (.long q1), .second] [(.long mk), (.long x)])) _
    refine XS.land X_1.here hx rfl (hb hby d5_14) rfl ?_
    show Steps p.tables e below (T_1.setTop (mkF m 15 #[.val (.ref a), .val (.long q1), .second] [(.long (x &&& mk))])) _
    refine XS.lconst X_1.here hx rfl (hb hby d5_15) ?_
    show Steps p.tables e below (T_1.setTop (mkF m 16 #[.val (.ref a), .val (.long q1), .second] [(.long (0 : Int64)), (.long (x &&& mk))])) _
    refine XS.lcmp X_1.here hx rfl (hb hby d5_16) rfl ?_
    have jn17 : ∀ target, Steps p.tables e below (T_1.setTop (mkF m 25 #[.val (.ref a), .val (.long q1), .second] [(.int r)])) target → Steps p.tables e below (T_1.setTop (mkF m 17 #[.val (.ref a), .val (.long q1), .second] [(.int (lcmpW (x &&& mk) (0 : Int64)))])) target := by
      intro target kt
      show Steps p.tables e below (T_1.setTop (mkF m 17 #[.val (.ref a), .val (.long q1), .second] [(.int (lcmpW (x &&& mk) (0 : Int64)))])) _
      by_cases hj17_0 : (lcmpW (x &&& mk) (0 : Int64)) = (0 : Int32)
      · refine XS.ifYes X_1.here hx rfl (pc0 := 17) (pc' := 24) rfl (hb hby d5_17) rfl ((if0 _ _).trans (teq hj17_0).1) (by decide) (by decide) ?_
        show Steps p.tables e below (T_1.setTop (mkF m 24 #[.val (.ref a), .val (.long q1), .second] [])) _
        refine XS.iconst X_1.here hx rfl (hb hby d5_24) ?_
        rw [← hr_, if_pos hj17_0] at kt
        exact kt
      · refine XS.ifNo X_1.here hx rfl (hb hby d5_17) rfl ((if0 _ _).trans (feq hj17_0).1) ?_
        show Steps p.tables e below (T_1.setTop (mkF m 20 #[.val (.ref a), .val (.long q1), .second] [])) _
        refine XS.iconst X_1.here hx rfl (hb hby d5_20) ?_
        show Steps p.tables e below (T_1.setTop (mkF m 21 #[.val (.ref a), .val (.long q1), .second] [(.int (1 : Int32))])) _
        refine XS.goto X_1.here hx rfl (pc0 := 21) (pc' := 25) rfl (hb hby d5_21) (by decide) (by decide) ?_
        rw [← hr_, if_neg hj17_0] at kt
        exact kt
    refine jn17 _ ?_
    show Steps p.tables e below (T_1.setTop (mkF m 25 #[.val (.ref a), .val (.long q1), .second] [(.int r)])) _
    exact retN X_1 hx (t := .boolean) Bd.returns (by simp) (hb hby d5_25) (by rw [hn_]; exact hr)
  · show Q5 Z r h0 n0 _ T_1.heap _
    rw [e_1]
    exact ⟨rfl, N0, rfl⟩
theorem d6_0 : decode prog_20_method_3_code 0 = .ok (.lload_n 1, 1) := by decide +kernel
theorem d6_1 : decode prog_20_method_3_code 1 = .ok (.bipush 6, 2) := by decide +kernel
theorem d6_3 : decode prog_20_method_3_code 3 = .ok (.lushr, 1) := by decide +kernel
theorem d6_4 : decode prog_20_method_3_code 4 = .ok (.l2i, 1) := by decide +kernel
theorem d6_5 : decode prog_20_method_3_code 5 = .ok (.istore_n 3, 1) := by decide +kernel
theorem d6_6 : decode prog_20_method_3_code 6 = .ok (.lconst 1, 1) := by decide +kernel
theorem d6_7 : decode prog_20_method_3_code 7 = .ok (.lload_n 1, 1) := by decide +kernel
theorem d6_8 : decode prog_20_method_3_code 8 = .ok (.l2i, 1) := by decide +kernel
theorem d6_9 : decode prog_20_method_3_code 9 = .ok (.lshl, 1) := by decide +kernel
theorem d6_10 : decode prog_20_method_3_code 10 = .ok (.lstore 4, 2) := by decide +kernel
theorem d6_12 : decode prog_20_method_3_code 12 = .ok (.aload_n 0, 1) := by decide +kernel
theorem d6_13 : decode prog_20_method_3_code 13 = .ok (.getfield 28, 3) := by decide +kernel
theorem d6_16 : decode prog_20_method_3_code 16 = .ok (.iload_n 3, 1) := by decide +kernel
theorem d6_17 : decode prog_20_method_3_code 17 = .ok (.laload, 1) := by decide +kernel
theorem d6_18 : decode prog_20_method_3_code 18 = .ok (.lstore 6, 2) := by decide +kernel
theorem d6_20 : decode prog_20_method_3_code 20 = .ok (.lload 6, 2) := by decide +kernel
theorem d6_22 : decode prog_20_method_3_code 22 = .ok (.lload 4, 2) := by decide +kernel
theorem d6_24 : decode prog_20_method_3_code 24 = .ok (.land, 1) := by decide +kernel
theorem d6_25 : decode prog_20_method_3_code 25 = .ok (.lconst 0, 1) := by decide +kernel
theorem d6_26 : decode prog_20_method_3_code 26 = .ok (.lcmp, 1) := by decide +kernel
theorem d6_27 : decode prog_20_method_3_code 27 = .ok (.ifCond .ne 7, 3) := by decide +kernel
theorem d6_30 : decode prog_20_method_3_code 30 = .ok (.iconst 1, 1) := by decide +kernel
theorem d6_31 : decode prog_20_method_3_code 31 = .ok (.goto 4, 3) := by decide +kernel
theorem d6_34 : decode prog_20_method_3_code 34 = .ok (.iconst 0, 1) := by decide +kernel
theorem d6_35 : decode prog_20_method_3_code 35 = .ok (.istore 8, 2) := by decide +kernel
theorem d6_37 : decode prog_20_method_3_code 37 = .ok (.iload 8, 2) := by decide +kernel
theorem d6_39 : decode prog_20_method_3_code 39 = .ok (.ifCond .eq 33, 3) := by decide +kernel
theorem d6_42 : decode prog_20_method_3_code 42 = .ok (.aload_n 0, 1) := by decide +kernel
theorem d6_43 : decode prog_20_method_3_code 43 = .ok (.getfield 33, 3) := by decide +kernel
theorem d6_46 : decode prog_20_method_3_code 46 = .ok (.astore 9, 2) := by decide +kernel
theorem d6_48 : decode prog_20_method_3_code 48 = .ok (.aload 9, 2) := by decide +kernel
theorem d6_50 : decode prog_20_method_3_code 50 = .ok (.ifnull 11, 3) := by decide +kernel
theorem d6_61 : decode prog_20_method_3_code 61 = .ok (.aload_n 0, 1) := by decide +kernel
theorem d6_62 : decode prog_20_method_3_code 62 = .ok (.getfield 28, 3) := by decide +kernel
theorem d6_65 : decode prog_20_method_3_code 65 = .ok (.iload_n 3, 1) := by decide +kernel
theorem d6_66 : decode prog_20_method_3_code 66 = .ok (.lload 6, 2) := by decide +kernel
theorem d6_68 : decode prog_20_method_3_code 68 = .ok (.lload 4, 2) := by decide +kernel
theorem d6_70 : decode prog_20_method_3_code 70 = .ok (.lor, 1) := by decide +kernel
theorem d6_71 : decode prog_20_method_3_code 71 = .ok (.lastore, 1) := by decide +kernel
theorem d6_72 : decode prog_20_method_3_code 72 = .ok (.iload 8, 2) := by decide +kernel
theorem d6_74 : decode prog_20_method_3_code 74 = .ok (.ireturn, 1) := by decide +kernel
def Q6 (Z : State) (b : Addr) (nw : Int32) (f : Nat → Value) (ji : Int32) (x : Int64) (mk : Int64) (ch : Int32) (h0 : Heap) (n0 : Nat) (v : Option Value) (h : Heap) (L : List Loc) : Prop := v = some (.int ch) ∧ Fr n0 L ∧ Keep h0 h [b] ∧ ArrF Z h b .long nw (fun j => if j = ji.toNatClampNeg then Value.long (x ||| mk) else f j)
theorem pn_6 : plainName "com/example/mussel/mussel/engine/BitArray" = true := by first | (simp [plainName, overriddenIn]; done) | decide +kernel
theorem ef_6 (m : MethodId) (x0 : Addr) (x1 : Int64) : entryFrame m #[(.ref x0), (.long x1)] 10 = mkF m 0 #[.val (.ref x0), .val (.long x1), .second, .unset, .unset, .unset, .unset, .unset, .unset, .unset] [] := by first | (simp [entryFrame, mkF, argsToLocals, Value.category]; done) | rfl
set_option maxRecDepth 65536 in
set_option maxHeartbeats 40000000 in
theorem rm6a (l : Launch) (Z : State) (a0 : Array Value) (hw : ∀ d ∈ tables_1, d.before a0 Z = true) (ws : List Jvm.Cond) (a : Addr) (q1 : Int64) (b : Addr) (nw : Int32) (f : Nat → Value) (ji : Int32) (x : Int64) (mk : Int64) (ch : Int32) (h0 : Heap) (n0 : Nat) (Z0 : n0 ≤ h0.size) (F_w : Fld Z h0 a "com/example/mussel/mussel/engine/BitArray" "words" "[J" (.ref b)) (V_b : ArrF Z h0 b .long nw f) (F_c : Fld Z h0 a "com/example/mussel/mussel/engine/BitArray" "capture" "Lcom/example/mussel/mussel/engine/BitArray$Capture;" .null) (hj0 : ¬ ji < 0) (hj1 : ji < nw) (hfx : f ji.toNatClampNeg = .long x) (g_b : n0 ≤ b) (ne_ab : a ≠ b) (hn_ : nar .boolean ch = ch) (hji_ : (((q1.toUInt64 >>> ((6 : Int32) &&& 0x3f).toInt64.toUInt64).toInt64).toInt32) = ji) (hmk_ : ((1 : Int64) <<< ((q1.toInt32) &&& 0x3f).toInt64) = mk) (hch_ : (if (lcmpW (x &&& mk) (0 : Int64)) = (0 : Int32) then (1 : Int32) else (0 : Int32)) = ch) (hc39 : ¬ (ch = (0 : Int32))) :
    MetFree l (⟨"com/example/mussel/mussel/engine/BitArray", "set", "(J)Z"⟩ : MethodName) (head1 (Jvm.Cond.code (⟨"com/example/mussel/mussel/engine/BitArray", "set", "(J)Z"⟩ : MethodName) prog_20_method_3_code 10 (some .boolean) :: ws) ({ frames := 0, cells := 0, slots := 0, locals := 0 } : Room)) (fun as_ U => as_ = #[(.ref a), (.long q1)] ∧ Z.Warmed39 U.vm ∧ U.heap = h0) (fun _ _ _ _ _ => True) (fun _ U o U' => ∃ v L, o = .returned v ∧ Q6 Z b nw f ji x mk ch h0 n0 v U'.heap L ∧ FrameEnd U o U' L ({ frames := 0, cells := 0, slots := 0, locals := 0 } : Room).cells ({ frames := 0, cells := 0, slots := 0, locals := 0 } : Room).slots) := by
  refine MetFree.of_bodySF (plainFor_of_name pn_6) hisR ?_
  intro p e s m args below meth c s₁ Bd hml0 hP hK
  obtain ⟨rfl, hZ, hh⟩ := hP
  have hx := Bd.exec
  have hby := Bd.bytes
  have hml : c.maxLocals = 10 := hml0
  have hown : s.vm.findClass "com/example/mussel/mussel/engine/BitArray" = some m.cls := findClass_of_methodNamed Bd.named
  have hnm := (name_of_methodNamed Bd.named Bd.method).1
  have X0 : Stand p l e ({ frames := 0, cells := 0, slots := 0, locals := 0 } : Room) s m #[(.ref a), (.long q1)] below meth c s₁ [] 0 0 := Stand.of_body Bd
  have e0 : s₁.heap = h0 := by rw [← hh, Bd.state]; rfl
  have N0 := Fr.nil n0
  have pre0 : ∀ t, Steps p.tables e below (s₁.setTop (mkF m 0 #[.val (.ref a), .val (.long q1), .second, .unset, .unset, .unset, .unset, .unset, .unset, .unset] [])) t → Steps p.tables e below (s₁.setTop (entryFrame m #[(.ref a), (.long q1)] 10)) t := fun t k => castTop (ef_6 m a q1) k
  obtain ⟨T_1, X_1, e_1, st_1⟩ := getF X0 hx hZ hown (host := "") (Or.inl (hw _ (List.mem_of_getElem? (i := 21) rfl))) Via.refl e0 F_w (g := (mkF m 13 #[.val (.ref a), .val (.long q1), .second, .val (.int ji), .val (.long mk), .second, .unset, .unset, .unset, .unset] [(.ref a)])) rfl rfl (hb hby d6_13)
  obtain ⟨cl_2, Ar_2, Sz_2, Mz_2, Hz_2⟩ := id V_b
  obtain ⟨T_3, X_3, e_3, st_3⟩ := getF X_1 hx hZ hown (host := "") (Or.inl (hw _ (List.mem_of_getElem? (i := 33) rfl))) Via.refl e_1 F_c (g := (mkF m 43 #[.val (.ref a), .val (.long q1), .second, .val (.int ji), .val (.long mk), .second, .val (.long x), .second, .val (.int ch), .unset] [(.ref a)])) rfl rfl (hb hby d6_43)
  obtain ⟨T_4, X_4, e_4, st_4⟩ := getF X_3 hx hZ hown (host := "") (Or.inl (hw _ (List.mem_of_getElem? (i := 21) rfl))) Via.refl e_3 F_w (g := (mkF m 62 #[.val (.ref a), .val (.long q1), .second, .val (.int ji), .val (.long mk), .second, .val (.long x), .second, .val (.int ch), .val .null] [(.ref a)])) rfl rfl (hb hby d6_62)
  obtain ⟨cl_6, Ar_6, Sz_6, Mz_6, Hz_6⟩ := id V_b
  obtain ⟨T_5, h_5, X_5, e_5, W_5, st_5⟩ := stJ X_4 hx hZ e_4 Ar_6 (j := ji) (inb_of Sz_6 ⟨hj0, hj1⟩) (g := (mkF m 71 #[.val (.ref a), .val (.long q1), .second, .val (.int ji), .val (.long mk), .second, .val (.long x), .second, .val (.int ch), .val .null] [(.long (x ||| mk)), (.int ji), (.ref b)])) rfl rfl (hb hby d6_71)
  have K_5 : Keep h0 h_5 [b] := (Keep.refl h0 [b]).wr W_5 (Or.inl (List.mem_of_getElem? (i := 0) rfl))
  have N_5 := Fr.snoc X_5 N0 g_b
  have Z_7 : n0 ≤ h_5.size := Nat.le_trans Z0 (Keep.of_wr W_5).1
  have Vw_5 := ArrF.set Ar_6 Sz_6 Mz_6 Hz_6 W_5
  obtain ⟨fs, hr, hrun, hended, hW, hsame⟩ := X_5.leave (v := some (.int ch)) (fun h => by rw [Bd.returns] at h; cases h)
  refine ⟨_, _, pre0 _ ?_, hrun, hended, _, _, rfl, ?_, ⟨_, rfl⟩, hW, hsame.mono (by decide) (by decide)⟩
  · show Steps p.tables e below (s₁.setTop (mkF m 0 #[.val (.ref a), .val (.long q1), .second, .unset, .unset, .unset, .unset, .unset, .unset, .unset] [])) _
    refine XS.lloadN X0.here hx rfl (hb hby d6_0) rfl ?_
    show Steps p.tables e below (s₁.setTop (mkF m 1 #[.val (.ref a), .val (.long q1), .second, .unset, .unset, .unset, .unset, .unset, .unset, .unset] [(.long q1)])) _
    refine XS.bipush X0.here hx rfl (hb hby d6_1) ?_
    show Steps p.tables e below (s₁.setTop (mkF m 3 #[.val (.ref a), .val (.long q1), .second, .unset, .unset, .unset, .unset, .unset, .unset, .unset] [(.int (6 : Int32)), (.long q1)])) _
    refine XS.lushr X0.here hx rfl (hb hby d6_3) rfl ?_
    show Steps p.tables e below (s₁.setTop (mkF m 4 #[.val (.ref a), .val (.long q1), .second, .unset, .unset, .unset, .unset, .unset, .unset, .unset] [(.long ((q1.toUInt64 >>> ((6 : Int32) &&& 0x3f).toInt64.toUInt64).toInt64))])) _
    refine XS.l2i X0.here hx rfl (hb hby d6_4) rfl ?_
    show Steps p.tables e below (s₁.setTop (mkF m 5 #[.val (.ref a), .val (.long q1), .second, .unset, .unset, .unset, .unset, .unset, .unset, .unset] [(.int (((q1.toUInt64 >>> ((6 : Int32) &&& 0x3f).toInt64.toUInt64).toInt64).toInt32))])) _
    rw [hji_]
    show Steps p.tables e below (s₁.setTop (mkF m 5 #[.val (.ref a), .val (.long q1), .second, .unset, .unset, .unset, .unset, .unset, .unset, .unset] [(.int ji)])) _
    refine XS.istoreN X0.here hx rfl (hb hby d6_5) rfl (l' := #[.val (.ref a), .val (.long q1), .second, .val (.int ji), .unset, .unset, .unset, .unset, .unset, .unset]) rfl ?_
    show Steps p.tables e below (s₁.setTop (mkF m 6 #[.val (.ref a), .val (.long q1), .second, .val (.int ji), .unset, .unset, .unset, .unset, .unset, .unset] [])) _
    refine XS.lconst X0.here hx rfl (hb hby d6_6) ?_
    show Steps p.tables e below (s₁.setTop (mkF m 7 #[.val (.ref a), .val (.long q1), .second, .val (.int ji), .unset, .unset, .unset, .unset, .unset, .unset] [(.long (1 : Int64))])) _
    refine XS.lloadN X0.here hx rfl (hb hby d6_7) rfl ?_
    show Steps p.tables e below (s₁.setTop (mkF m 8 #[.val (.ref a), .val (.long q1), .second, .val (.int ji), .unset, .unset, .unset, .unset, .unset, .unset] [(.long q1), (.long (1 : Int64))])) _
    refine XS.l2i X0.here hx rfl (hb hby d6_8) rfl ?_
    show Steps p.tables e below (s₁.setTop (mkF m 9 #[.val (.ref a), .val (.long q1), .second, .val (.int ji), .unset, .unset, .unset, .unset, .unset, .unset] [(.int (q1.toInt32)), (.long (1 : Int64))])) _
    refine XS.lshl X0.here hx rfl (hb hby d6_9) rfl ?_
    show Steps p.tables e below (s₁.setTop (mkF m 10 #[.val (.ref a), .val (.long q1), .second, .val (.int ji), .unset, .unset, .unset, .unset, .unset, .unset] [(.long ((1 : Int64) <<< ((q1.toInt32) &&& 0x3f).toInt64))])) _
    rw [hmk_]
    show Steps p.tables e below (s₁.setTop (mkF m 10 #[.val (.ref a), .val (.long q1), .second, .val (.int ji), .unset, .unset, .unset, .unset, .unset, .unset] [(.long mk)])) _
    refine XS.lstore X0.here hx rfl (hb hby d6_10) rfl (l' := #[.val (.ref a), .val (.long q1), .second, .val (.int ji), .val (.long mk), .second, .unset, .unset, .unset, .unset]) rfl ?_
    show Steps p.tables e below (s₁.setTop (mkF m 12 #[.val (.ref a), .val (.long q1), .second, .val (.int ji), .val (.long mk), .second, .unset, .unset, .unset, .unset] [])) _
    refine XS.aloadN X0.here hx rfl (hb hby d6_12) rfl rfl ?_
    show Steps p.tables e below (s₁.setTop (mkF m 13 #[.val (.ref a), .val (.long q1), .second, .val (.int ji), .val (.long mk), .second, .unset, .unset, .unset, .unset] [(.ref a)])) _
    refine st_1 _ ?_
    show Steps p.tables e below (T_1.setTop (mkF m 16 #[.val (.ref a), .val (.long q1), .second, .val (.int ji), .val (.long mk), .second, .unset, .unset, .unset, .unset] [(.ref b)])) _
    refine XS.iloadN X_1.here hx rfl (hb hby d6_16) rfl ?_
    show Steps p.tables e below (T_1.setTop (mkF m 17 #[.val (.ref a), .val (.long q1), .second, .val (.int ji), .val (.long mk), .second, .unset, .unset, .unset, .unset] [(.int ji), (.ref b)])) _
    refine X_1.laload hx (j := ji) (v := (.long x)) (by rw [e_1]; exact Ar_2.1) (State.isArrayOf_alike hZ.alike Ar_2.2.1) Ar_2.2.2 (inb_of Sz_2 ⟨hj0, hj1⟩) ((Hz_2 _ (own_idx hj0 hj1)).trans (congrArg some hfx)) (g := (mkF m 17 #[.val (.ref a), .val (.long q1), .second, .val (.int ji), .val (.long mk), .second, .unset, .unset, .unset, .unset] [(.int ji), (.ref b)])) rfl rfl (hb hby d6_17) _ ?_
    show Steps p.tables e below (T_1.setTop (mkF m 18 #[.val (.ref a), .val (.long q1), .second, .val (.int ji), .val (.long mk), .second, .unset, .unset, .unset, .unset] [(.long x)])) _
    refine XS.lstore X_1.here hx rfl (hb hby d6_18) rfl (l' := #[.val (.ref a), .val (.long q1), .second, .val (.int ji), .val (.long mk), .second, .val (.long x), .second, .unset, .unset]) rfl ?_
    show Steps p.tables e below (T_1.setTop (mkF m 20 #[.val (.ref a), .val (.long q1), .second, .val (.int ji), .val (.long mk), .second, .val (.long x), .second, .unset, .unset] [])) _
    refine XS.lload X_1.here hx rfl (hb hby d6_20) rfl ?_
    show Steps p.tables e below (T_1.setTop (mkF m 22 #[.val (.ref a), .val (.long q1), .second, .val (.int ji), .val (.long mk), .second, .val (.long x), .second, .unset, .unset] [(.long x)])) _
    refine XS.lload X_1.here hx rfl (hb hby d6_22) rfl ?_
    show Steps p.tables e below (T_1.setTop (mkF m 24 #[.val (.ref a), .val (.long q1), .second, .val (.int ji), .val (.long mk), .second, .val (.long x), .second, .unset, .unset] [(.long mk), (.long x)])) _
    refine XS.land X_1.here hx rfl (hb hby d6_24) rfl ?_
    show Steps p.tables e below (T_1.setTop (mkF m 25 #[.val (.ref a), .val (.long q1), .second, .val (.int ji), .val (.long mk), .second, .val (.long x), .second, .unset, .unset] [(.long (x &&& mk))])) _
    refine XS.lconst X_1.here hx rfl (hb hby d6_25) ?_
    show Steps p.tables e below (T_1.setTop (mkF m 26 #[.val (.ref a), .val (.long q1), .second, .val (.int ji), .val (.long mk), .second, .val (.long x), .second, .unset, .unset] [(.long (0 : Int64)), (.long (x &&& mk))])) _
    refine XS.lcmp X_1.here hx rfl (hb hby d6_26) rfl ?_
    have jn27 : ∀ target, Steps p.tables e below (T_1.setTop (mkF m 35 #[.val (.ref a), .val (.long q1), .second, .val (.int ji), .val (.long mk), .second, .val (.long x), .second, .unset, .unset] [(.int ch)])) target → Steps p.tables e below (T_1.setTop (mkF m 27 #[.val (.ref a), .val (.long q1), .second, .val (.int ji), .val (.long mk), .second, .val (.long x), .second, .unset, .unset] [(.int (lcmpW (x &&& mk) (0 : Int64)))])) target := by
      intro target kt
      show Steps p.tables e below (T_1.setTop (mkF m 27 #[.val (.ref a), .val (.long q1), .second, .val (.int ji), .val (.long mk), .second, .val (.long x), .second, .unset, .unset] [(.int (lcmpW (x &&& mk) (0 : Int64)))])) _
      by_cases hj27_0 : (lcmpW (x &&& mk) (0 : Int64)) = (0 : Int32)
      · refine XS.ifNo X_1.here hx rfl (hb hby d6_27) rfl ((if0 _ _).trans (teq hj27_0).2) ?_
        show Steps p.tables e below (T_1.setTop (mkF m 30 #[.val (.ref a), .val (.long q1), .second, .val (.int ji), .val (.long mk), .second, .val (.long x), .second, .unset, .unset] [])) _
        refine XS.iconst X_1.here hx rfl (hb hby d6_30) ?_
        show Steps p.tables e below (T_1.setTop (mkF m 31 #[.val (.ref a), .val (.long q1), .second, .val (.int ji), .val (.long mk), .second, .val (.long x), .second, .unset, .unset] [(.int (1 : Int32))])) _
        refine XS.goto X_1.here hx rfl (pc0 := 31) (pc' := 35) rfl (hb hby d6_31) (by decide) (by decide) ?_
        rw [← hch_, if_pos hj27_0] at kt
        exact kt
      · refine XS.ifYes X_1.here hx rfl (pc0 := 27) (pc' := 34) rfl (hb hby d6_27) rfl ((if0 _ _).trans (feq hj27_0).2) (by decide) (by decide) ?_
        show Steps p.tables e below (T_1.setTop (mkF m 34 #[.val (.ref a), .val (.long q1), .second, .val (.int ji), .val (.long mk), .second, .val (.long x), .second, .unset, .unset] [])) _
        refine XS.iconst X_1.here hx rfl (hb hby d6_34) ?_
        rw [← hch_, if_neg hj27_0] at kt
        exact kt
    refine jn27 _ ?_
    show Steps p.tables e below (T_1.setTop (mkF m 35 #[.val (.ref a), .val (.long q1), .second, .val (.int ji), .val (.long mk), .second, .val (.long x), .second, .unset, .unset] [(.int ch)])) _
    refine XS.istore X_1.here hx rfl (hb hby d6_35) rfl (l' := #[.val (.ref a), .val (.long q1), .second, .val (.int ji), .val (.long mk), .second, .val (.long x), .second, .val (.int ch), .unset]) rfl ?_
    show Steps p.tables e below (T_1.setTop (mkF m 37 #[.val (.ref a), .val (.long q1), .second, .val (.int ji), .val (.long mk), .second, .val (.long x), .second, .val (.int ch), .unset] [])) _
    refine XS.iload X_1.here hx rfl (hb hby d6_37) rfl ?_
    show Steps p.tables e below (T_1.setTop (mkF m 39 #[.val (.ref a), .val (.long q1), .second, .val (.int ji), .val (.long mk), .second, .val (.long x), .second, .val (.int ch), .unset] [(.int ch)])) _
    refine XS.ifNo X_1.here hx rfl (hb hby d6_39) rfl ((if0 _ _).trans (feq hc39).1) ?_
    show Steps p.tables e below (T_1.setTop (mkF m 42 #[.val (.ref a), .val (.long q1), .second, .val (.int ji), .val (.long mk), .second, .val (.long x), .second, .val (.int ch), .unset] [])) _
    refine XS.aloadN X_1.here hx rfl (hb hby d6_42) rfl rfl ?_
    show Steps p.tables e below (T_1.setTop (mkF m 43 #[.val (.ref a), .val (.long q1), .second, .val (.int ji), .val (.long mk), .second, .val (.long x), .second, .val (.int ch), .unset] [(.ref a)])) _
    refine st_3 _ ?_
    show Steps p.tables e below (T_3.setTop (mkF m 46 #[.val (.ref a), .val (.long q1), .second, .val (.int ji), .val (.long mk), .second, .val (.long x), .second, .val (.int ch), .unset] [.null])) _
    refine XS.astore X_3.here hx rfl (hb hby d6_46) rfl rfl (l' := #[.val (.ref a), .val (.long q1), .second, .val (.int ji), .val (.long mk), .second, .val (.long x), .second, .val (.int ch), .val .null]) rfl ?_
    show Steps p.tables e below (T_3.setTop (mkF m 48 #[.val (.ref a), .val (.long q1), .second, .val (.int ji), .val (.long mk), .second, .val (.long x), .second, .val (.int ch), .val .null] [])) _
    refine XS.aload X_3.here hx rfl (hb hby d6_48) rfl rfl ?_
    show Steps p.tables e below (T_3.setTop (mkF m 50 #[.val (.ref a), .val (.long q1), .second, .val (.int ji), .val (.long mk), .second, .val (.long x), .second, .val (.int ch), .val .null] [.null])) _
    refine XS.ifnullYes X_3.here hx rfl (pc0 := 50) (pc' := 61) rfl (hb hby d6_50) rfl (by decide) (by decide) ?_
    show Steps p.tables e below (T_3.setTop (mkF m 61 #[.val (.ref a), .val (.long q1), .second, .val (.int ji), .val (.long mk), .second, .val (.long x), .second, .val (.int ch), .val .null] [])) _
    refine XS.aloadN X_3.here hx rfl (hb hby d6_61) rfl rfl ?_
    show Steps p.tables e below (T_3.setTop (mkF m 62 #[.val (.ref a), .val (.long q1), .second, .val (.int ji), .val (.long mk), .second, .val (.long x), .second, .val (.int ch), .val .null] [(.ref a)])) _
    refine st_4 _ ?_
    show Steps p.tables e below (T_4.setTop (mkF m 65 #[.val (.ref a), .val (.long q1), .second, .val (.int ji), .val (.long mk), .second, .val (.long x), .second, .val (.int ch), .val .null] [(.ref b)])) _
    refine XS.iloadN X_4.here hx rfl (hb hby d6_65) rfl ?_
    show Steps p.tables e below (T_4.setTop (mkF m 66 #[.val (.ref a), .val (.long q1), .second, .val (.int ji), .val (.long mk), .second, .val (.long x), .second, .val (.int ch), .val .null] [(.int ji), (.ref b)])) _
    refine XS.lload X_4.here hx rfl (hb hby d6_66) rfl ?_
    show Steps p.tables e below (T_4.setTop (mkF m 68 #[.val (.ref a), .val (.long q1), .second, .val (.int ji), .val (.long mk), .second, .val (.long x), .second, .val (.int ch), .val .null] [(.long x), (.int ji), (.ref b)])) _
    refine XS.lload X_4.here hx rfl (hb hby d6_68) rfl ?_
    show Steps p.tables e below (T_4.setTop (mkF m 70 #[.val (.ref a), .val (.long q1), .second, .val (.int ji), .val (.long mk), .second, .val (.long x), .second, .val (.int ch), .val .null] [(.long mk), (.long x), (.int ji), (.ref b)])) _
    refine XS.lor X_4.here hx rfl (hb hby d6_70) rfl ?_
    show Steps p.tables e below (T_4.setTop (mkF m 71 #[.val (.ref a), .val (.long q1), .second, .val (.int ji), .val (.long mk), .second, .val (.long x), .second, .val (.int ch), .val .null] [(.long (x ||| mk)), (.int ji), (.ref b)])) _
    refine st_5 _ ?_
    show Steps p.tables e below (T_5.setTop (mkF m 72 #[.val (.ref a), .val (.long q1), .second, .val (.int ji), .val (.long mk), .second, .val (.long x), .second, .val (.int ch), .val .null] [])) _
    refine XS.iload X_5.here hx rfl (hb hby d6_72) rfl ?_
    show Steps p.tables e below (T_5.setTop (mkF m 74 #[.val (.ref a), .val (.long q1), .second, .val (.int ji), .val (.long mk), .second, .val (.long x), .second, .val (.int ch), .val .null] [(.int ch)])) _
    exact retN X_5 hx (t := .boolean) Bd.returns (by simp) (hb hby d6_74) (by rw [hn_]; exact hr)
  · show Q6 Z b nw f ji x mk ch h0 n0 _ T_5.heap _
    rw [e_5]
    exact ⟨rfl, N_5, K_5, Vw_5⟩
set_option maxRecDepth 65536 in
set_option maxHeartbeats 40000000 in
theorem rm6b (l : Launch) (Z : State) (a0 : Array Value) (hw : ∀ d ∈ tables_1, d.before a0 Z = true) (ws : List Jvm.Cond) (a : Addr) (q1 : Int64) (b : Addr) (nw : Int32) (f : Nat → Value) (ji : Int32) (x : Int64) (mk : Int64) (ch : Int32) (h0 : Heap) (n0 : Nat) (Z0 : n0 ≤ h0.size) (F_w : Fld Z h0 a "com/example/mussel/mussel/engine/BitArray" "words" "[J" (.ref b)) (V_b : ArrF Z h0 b .long nw f) (F_c : Fld Z h0 a "com/example/mussel/mussel/engine/BitArray" "capture" "Lcom/example/mussel/mussel/engine/BitArray$Capture;" .null) (hj0 : ¬ ji < 0) (hj1 : ji < nw) (hfx : f ji.toNatClampNeg = .long x) (g_b : n0 ≤ b) (ne_ab : a ≠ b) (hn_ : nar .boolean ch = ch) (hor_ : x ||| mk = x) (hji_ : (((q1.toUInt64 >>> ((6 : Int32) &&& 0x3f).toInt64.toUInt64).toInt64).toInt32) = ji) (hmk_ : ((1 : Int64) <<< ((q1.toInt32) &&& 0x3f).toInt64) = mk) (hch_ : (if (lcmpW (x &&& mk) (0 : Int64)) = (0 : Int32) then (1 : Int32) else (0 : Int32)) = ch) (hc39 : ch = (0 : Int32)) :
    MetFree l (⟨"com/example/mussel/mussel/engine/BitArray", "set", "(J)Z"⟩ : MethodName) (head1 (Jvm.Cond.code (⟨"com/example/mussel/mussel/engine/BitArray", "set", "(J)Z"⟩ : MethodName) prog_20_method_3_code 10 (some .boolean) :: ws) ({ frames := 0, cells := 0, slots := 0, locals := 0 } : Room)) (fun as_ U => as_ = #[(.ref a), (.long q1)] ∧ Z.Warmed39 U.vm ∧ U.heap = h0) (fun _ _ _ _ _ => True) (fun _ U o U' => ∃ v L, o = .returned v ∧ Q6 Z b nw f ji x mk ch h0 n0 v U'.heap L ∧ FrameEnd U o U' L ({ frames := 0, cells := 0, slots := 0, locals := 0 } : Room).cells ({ frames := 0, cells := 0, slots := 0, locals := 0 } : Room).slots) := by
  refine MetFree.of_bodySF (plainFor_of_name pn_6) hisR ?_
  intro p e s m args below meth c s₁ Bd hml0 hP hK
  obtain ⟨rfl, hZ, hh⟩ := hP
  have hx := Bd.exec
  have hby := Bd.bytes
  have hml : c.maxLocals = 10 := hml0
  have hown : s.vm.findClass "com/example/mussel/mussel/engine/BitArray" = some m.cls := findClass_of_methodNamed Bd.named
  have hnm := (name_of_methodNamed Bd.named Bd.method).1
  have X0 : Stand p l e ({ frames := 0, cells := 0, slots := 0, locals := 0 } : Room) s m #[(.ref a), (.long q1)] below meth c s₁ [] 0 0 := Stand.of_body Bd
  have e0 : s₁.heap = h0 := by rw [← hh, Bd.state]; rfl
  have N0 := Fr.nil n0
  have pre0 : ∀ t, Steps p.tables e below (s₁.setTop (mkF m 0 #[.val (.ref a), .val (.long q1), .second, .unset, .unset, .unset, .unset, .unset, .unset, .unset] [])) t → Steps p.tables e below (s₁.setTop (entryFrame m #[(.ref a), (.long q1)] 10)) t := fun t k => castTop (ef_6 m a q1) k
  obtain ⟨T_1, X_1, e_1, st_1⟩ := getF X0 hx hZ hown (host := "") (Or.inl (hw _ (List.mem_of_getElem? (i := 21) rfl))) Via.refl e0 F_w (g := (mkF m 13 #[.val (.ref a), .val (.long q1), .second, .val (.int ji), .val (.long mk), .second, .unset, .unset, .unset, .unset] [(.ref a)])) rfl rfl (hb hby d6_13)
  obtain ⟨cl_2, Ar_2, Sz_2, Mz_2, Hz_2⟩ := id V_b
  obtain ⟨fs, hr, hrun, hended, hW, hsame⟩ := X_1.leave (v := some (.int ch)) (fun h => by rw [Bd.returns] at h; cases h)
  refine ⟨_, _, pre0 _ ?_, hrun, hended, _, _, rfl, ?_, ⟨_, rfl⟩, hW, hsame.mono (by decide) (by decide)⟩
  · show Steps p.tables e below (s₁.setTop (mkF m 0 #[.val (.ref a), .val (.long q1), .second, .unset, .unset, .unset, .unset, .unset, .unset, .unset] [])) _
    refine XS.lloadN X0.here hx rfl (hb hby d6_0) rfl ?_
    show Steps p.tables e below (s₁.setTop (mkF m 1 #[.val (.ref a), .val (.long q1), .second, .unset, .unset, .unset, .unset, .unset, .unset, .unset] [(.long q1)])) _
    refine XS.bipush X0.here hx rfl (hb hby d6_1) ?_
    show Steps p.tables e below (s₁.setTop (mkF m 3 #[.val (.ref a), .val (.long q1), .second, .unset, .unset, .unset, .unset, .unset, .unset, .unset] [(.int (6 : Int32)), (.long q1)])) _
    refine XS.lushr X0.here hx rfl (hb hby d6_3) rfl ?_
    show Steps p.tables e below (s₁.setTop (mkF m 4 #[.val (.ref a), .val (.long q1), .second, .unset, .unset, .unset, .unset, .unset, .unset, .unset] [(.long ((q1.toUInt64 >>> ((6 : Int32) &&& 0x3f).toInt64.toUInt64).toInt64))])) _
    refine XS.l2i X0.here hx rfl (hb hby d6_4) rfl ?_
    show Steps p.tables e below (s₁.setTop (mkF m 5 #[.val (.ref a), .val (.long q1), .second, .unset, .unset, .unset, .unset, .unset, .unset, .unset] [(.int (((q1.toUInt64 >>> ((6 : Int32) &&& 0x3f).toInt64.toUInt64).toInt64).toInt32))])) _
    rw [hji_]
    show Steps p.tables e below (s₁.setTop (mkF m 5 #[.val (.ref a), .val (.long q1), .second, .unset, .unset, .unset, .unset, .unset, .unset, .unset] [(.int ji)])) _
    refine XS.istoreN X0.here hx rfl (hb hby d6_5) rfl (l' := #[.val (.ref a), .val (.long q1), .second, .val (.int ji), .unset, .unset, .unset, .unset, .unset, .unset]) rfl ?_
    show Steps p.tables e below (s₁.setTop (mkF m 6 #[.val (.ref a), .val (.long q1), .second, .val (.int ji), .unset, .unset, .unset, .unset, .unset, .unset] [])) _
    refine XS.lconst X0.here hx rfl (hb hby d6_6) ?_
    show Steps p.tables e below (s₁.setTop (mkF m 7 #[.val (.ref a), .val (.long q1), .second, .val (.int ji), .unset, .unset, .unset, .unset, .unset, .unset] [(.long (1 : Int64))])) _
    refine XS.lloadN X0.here hx rfl (hb hby d6_7) rfl ?_
    show Steps p.tables e below (s₁.setTop (mkF m 8 #[.val (.ref a), .val (.long q1), .second, .val (.int ji), .unset, .unset, .unset, .unset, .unset, .unset] [(.long q1), (.long (1 : Int64))])) _
    refine XS.l2i X0.here hx rfl (hb hby d6_8) rfl ?_
    show Steps p.tables e below (s₁.setTop (mkF m 9 #[.val (.ref a), .val (.long q1), .second, .val (.int ji), .unset, .unset, .unset, .unset, .unset, .unset] [(.int (q1.toInt32)), (.long (1 : Int64))])) _
    refine XS.lshl X0.here hx rfl (hb hby d6_9) rfl ?_
    show Steps p.tables e below (s₁.setTop (mkF m 10 #[.val (.ref a), .val (.long q1), .second, .val (.int ji), .unset, .unset, .unset, .unset, .unset, .unset] [(.long ((1 : Int64) <<< ((q1.toInt32) &&& 0x3f).toInt64))])) _
    rw [hmk_]
    show Steps p.tables e below (s₁.setTop (mkF m 10 #[.val (.ref a), .val (.long q1), .second, .val (.int ji), .unset, .unset, .unset, .unset, .unset, .unset] [(.long mk)])) _
    refine XS.lstore X0.here hx rfl (hb hby d6_10) rfl (l' := #[.val (.ref a), .val (.long q1), .second, .val (.int ji), .val (.long mk), .second, .unset, .unset, .unset, .unset]) rfl ?_
    show Steps p.tables e below (s₁.setTop (mkF m 12 #[.val (.ref a), .val (.long q1), .second, .val (.int ji), .val (.long mk), .second, .unset, .unset, .unset, .unset] [])) _
    refine XS.aloadN X0.here hx rfl (hb hby d6_12) rfl rfl ?_
    show Steps p.tables e below (s₁.setTop (mkF m 13 #[.val (.ref a), .val (.long q1), .second, .val (.int ji), .val (.long mk), .second, .unset, .unset, .unset, .unset] [(.ref a)])) _
    refine st_1 _ ?_
    show Steps p.tables e below (T_1.setTop (mkF m 16 #[.val (.ref a), .val (.long q1), .second, .val (.int ji), .val (.long mk), .second, .unset, .unset, .unset, .unset] [(.ref b)])) _
    refine XS.iloadN X_1.here hx rfl (hb hby d6_16) rfl ?_
    show Steps p.tables e below (T_1.setTop (mkF m 17 #[.val (.ref a), .val (.long q1), .second, .val (.int ji), .val (.long mk), .second, .unset, .unset, .unset, .unset] [(.int ji), (.ref b)])) _
    refine X_1.laload hx (j := ji) (v := (.long x)) (by rw [e_1]; exact Ar_2.1) (State.isArrayOf_alike hZ.alike Ar_2.2.1) Ar_2.2.2 (inb_of Sz_2 ⟨hj0, hj1⟩) ((Hz_2 _ (own_idx hj0 hj1)).trans (congrArg some hfx)) (g := (mkF m 17 #[.val (.ref a), .val (.long q1), .second, .val (.int ji), .val (.long mk), .second, .unset, .unset, .unset, .unset] [(.int ji), (.ref b)])) rfl rfl (hb hby d6_17) _ ?_
    show Steps p.tables e below (T_1.setTop (mkF m 18 #[.val (.ref a), .val (.long q1), .second, .val (.int ji), .val (.long mk), .second, .unset, .unset, .unset, .unset] [(.long x)])) _
    refine XS.lstore X_1.here hx rfl (hb hby d6_18) rfl (l' := #[.val (.ref a), .val (.long q1), .second, .val (.int ji), .val (.long mk), .second, .val (.long x), .second, .unset, .unset]) rfl ?_
    show Steps p.tables e below (T_1.setTop (mkF m 20 #[.val (.ref a), .val (.long q1), .second, .val (.int ji), .val (.long mk), .second, .val (.long x), .second, .unset, .unset] [])) _
    refine XS.lload X_1.here hx rfl (hb hby d6_20) rfl ?_
    show Steps p.tables e below (T_1.setTop (mkF m 22 #[.val (.ref a), .val (.long q1), .second, .val (.int ji), .val (.long mk), .second, .val (.long x), .second, .unset, .unset] [(.long x)])) _
    refine XS.lload X_1.here hx rfl (hb hby d6_22) rfl ?_
    show Steps p.tables e below (T_1.setTop (mkF m 24 #[.val (.ref a), .val (.long q1), .second, .val (.int ji), .val (.long mk), .second, .val (.long x), .second, .unset, .unset] [(.long mk), (.long x)])) _
    refine XS.land X_1.here hx rfl (hb hby d6_24) rfl ?_
    show Steps p.tables e below (T_1.setTop (mkF m 25 #[.val (.ref a), .val (.long q1), .second, .val (.int ji), .val (.long mk), .second, .val (.long x), .second, .unset, .unset] [(.long (x &&& mk))])) _
    refine XS.lconst X_1.here hx rfl (hb hby d6_25) ?_
    show Steps p.tables e below (T_1.setTop (mkF m 26 #[.val (.ref a), .val (.long q1), .second, .val (.int ji), .val (.long mk), .second, .val (.long x), .second, .unset, .unset] [(.long (0 : Int64)), (.long (x &&& mk))])) _
    refine XS.lcmp X_1.here hx rfl (hb hby d6_26) rfl ?_
    have jn27 : ∀ target, Steps p.tables e below (T_1.setTop (mkF m 35 #[.val (.ref a), .val (.long q1), .second, .val (.int ji), .val (.long mk), .second, .val (.long x), .second, .unset, .unset] [(.int ch)])) target → Steps p.tables e below (T_1.setTop (mkF m 27 #[.val (.ref a), .val (.long q1), .second, .val (.int ji), .val (.long mk), .second, .val (.long x), .second, .unset, .unset] [(.int (lcmpW (x &&& mk) (0 : Int64)))])) target := by
      intro target kt
      show Steps p.tables e below (T_1.setTop (mkF m 27 #[.val (.ref a), .val (.long q1), .second, .val (.int ji), .val (.long mk), .second, .val (.long x), .second, .unset, .unset] [(.int (lcmpW (x &&& mk) (0 : Int64)))])) _
      by_cases hj27_0 : (lcmpW (x &&& mk) (0 : Int64)) = (0 : Int32)
      · refine XS.ifNo X_1.here hx rfl (hb hby d6_27) rfl ((if0 _ _).trans (teq hj27_0).2) ?_
        show Steps p.tables e below (T_1.setTop (mkF m 30 #[.val (.ref a), .val (.long q1), .second, .val (.int ji), .val (.long mk), .second, .val (.long x), .second, .unset, .unset] [])) _
        refine XS.iconst X_1.here hx rfl (hb hby d6_30) ?_
        show Steps p.tables e below (T_1.setTop (mkF m 31 #[.val (.ref a), .val (.long q1), .second, .val (.int ji), .val (.long mk), .second, .val (.long x), .second, .unset, .unset] [(.int (1 : Int32))])) _
        refine XS.goto X_1.here hx rfl (pc0 := 31) (pc' := 35) rfl (hb hby d6_31) (by decide) (by decide) ?_
        rw [← hch_, if_pos hj27_0] at kt
        exact kt
      · refine XS.ifYes X_1.here hx rfl (pc0 := 27) (pc' := 34) rfl (hb hby d6_27) rfl ((if0 _ _).trans (feq hj27_0).2) (by decide) (by decide) ?_
        show Steps p.tables e below (T_1.setTop (mkF m 34 #[.val (.ref a), .val (.long q1), .second, .val (.int ji), .val (.long mk), .second, .val (.long x), .second, .unset, .unset] [])) _
        refine XS.iconst X_1.here hx rfl (hb hby d6_34) ?_
        rw [← hch_, if_neg hj27_0] at kt
        exact kt
    refine jn27 _ ?_
    show Steps p.tables e below (T_1.setTop (mkF m 35 #[.val (.ref a), .val (.long q1), .second, .val (.int ji), .val (.long mk), .second, .val (.long x), .second, .unset, .unset] [(.int ch)])) _
    refine XS.istore X_1.here hx rfl (hb hby d6_35) rfl (l' := #[.val (.ref a), .val (.long q1), .second, .val (.int ji), .val (.long mk), .second, .val (.long x), .second, .val (.int ch), .unset]) rfl ?_
    show Steps p.tables e below (T_1.setTop (mkF m 37 #[.val (.ref a), .val (.long q1), .second, .val (.int ji), .val (.long mk), .second, .val (.long x), .second, .val (.int ch), .unset] [])) _
    refine XS.iload X_1.here hx rfl (hb hby d6_37) rfl ?_
    show Steps p.tables e below (T_1.setTop (mkF m 39 #[.val (.ref a), .val (.long q1), .second, .val (.int ji), .val (.long mk), .second, .val (.long x), .second, .val (.int ch), .unset] [(.int ch)])) _
    refine XS.ifYes X_1.here hx rfl (pc0 := 39) (pc' := 72) rfl (hb hby d6_39) rfl ((if0 _ _).trans (teq hc39).1) (by decide) (by decide) ?_
    show Steps p.tables e below (T_1.setTop (mkF m 72 #[.val (.ref a), .val (.long q1), .second, .val (.int ji), .val (.long mk), .second, .val (.long x), .second, .val (.int ch), .unset] [])) _
    refine XS.iload X_1.here hx rfl (hb hby d6_72) rfl ?_
    show Steps p.tables e below (T_1.setTop (mkF m 74 #[.val (.ref a), .val (.long q1), .second, .val (.int ji), .val (.long mk), .second, .val (.long x), .second, .val (.int ch), .unset] [(.int ch)])) _
    exact retN X_1 hx (t := .boolean) Bd.returns (by simp) (hb hby d6_74) (by rw [hn_]; exact hr)
  · show Q6 Z b nw f ji x mk ch h0 n0 _ T_1.heap _
    rw [e_1]
    exact ⟨rfl, N0, (Keep.refl h0 [b]), (V_b.congr (fun j _ => by split <;> simp_all))⟩
theorem rm6 (l : Launch) (Z : State) (a0 : Array Value) (hw : ∀ d ∈ tables_1, d.before a0 Z = true) (ws : List Jvm.Cond) (a : Addr) (q1 : Int64) (b : Addr) (nw : Int32) (f : Nat → Value) (ji : Int32) (x : Int64) (mk : Int64) (h0 : Heap) (n0 : Nat) (Z0 : n0 ≤ h0.size) (F_w : Fld Z h0 a "com/example/mussel/mussel/engine/BitArray" "words" "[J" (.ref b)) (V_b : ArrF Z h0 b .long nw f) (F_c : Fld Z h0 a "com/example/mussel/mussel/engine/BitArray" "capture" "Lcom/example/mussel/mussel/engine/BitArray$Capture;" .null) (hj0 : ¬ ji < 0) (hj1 : ji < nw) (hfx : f ji.toNatClampNeg = .long x) (g_b : n0 ≤ b) (ne_ab : a ≠ b)
    (hji_ : (((q1.toUInt64 >>> ((6 : Int32) &&& 0x3f).toInt64.toUInt64).toInt64).toInt32) = ji) (hmk_ : ((1 : Int64) <<< ((q1.toInt32) &&& 0x3f).toInt64) = mk) (hor : ¬ lcmpW (x &&& mk) 0 = 0 → x ||| mk = x) :
    MetFree l (⟨"com/example/mussel/mussel/engine/BitArray", "set", "(J)Z"⟩ : MethodName) (head1 (Jvm.Cond.code (⟨"com/example/mussel/mussel/engine/BitArray", "set", "(J)Z"⟩ : MethodName) prog_20_method_3_code 10 (some .boolean) :: ws) ({ frames := 0, cells := 0, slots := 0, locals := 0 } : Room)) (fun u U => u = #[(.ref a), (.long q1)] ∧ Z.Warmed39 U.vm ∧ U.heap = h0) (fun _ _ _ _ _ => True) (fun _ U o U' => ∃ v L, o = .returned v ∧ Q6 Z b nw f ji x mk (own_ch x mk) h0 n0 v U'.heap L ∧ FrameEnd U o U' L ({ frames := 0, cells := 0, slots := 0, locals := 0 } : Room).cells ({ frames := 0, cells := 0, slots := 0, locals := 0 } : Room).slots) := by
  by_cases h : lcmpW (x &&& mk) 0 = 0
  · exact rm6a l Z a0 hw ws a q1 b nw f ji x mk (own_ch x mk) h0 n0 Z0 F_w V_b F_c hj0 hj1 hfx g_b ne_ab (own_ch_nar _ _) hji_ hmk_ rfl (own_ch_1 h)
  · exact rm6b l Z a0 hw ws a q1 b nw f ji x mk (own_ch x mk) h0 n0 Z0 F_w V_b F_c hj0 hj1 hfx g_b ne_ab (own_ch_nar _ _) (hor h) hji_ hmk_ rfl (own_ch_0 h)
theorem pd_1 : parseMethodDescriptor "(JJ)J" = some ⟨[.long, .long], some .long⟩ := by decide +kernel
theorem pd_2 : parseMethodDescriptor "(J)V" = some ⟨[.long], none⟩ := by decide +kernel
theorem pd_3 : parseMethodDescriptor "(J)Z" = some ⟨[.long], some .boolean⟩ := by decide +kernel
def Q0 (Z : State)  (h0 : Heap) (n0 : Nat) (v : Option Value) (h : Heap) (L : List Loc) : Prop := v = some (.int 1) ∧ Fr n0 L
theorem pn_0 : plainName "com/example/mussel/mussel/engine/BitArrayGetPinLaw" = true := by first | (simp [plainName, overriddenIn]; done) | decide +kernel
theorem ef_0 (m : MethodId) (x0 : Int64) (x1 : Int64) (x2 : Int64) (x3 : Int64) (x4 : Int32) : entryFrame m #[(.long x0), (.long x1), (.long x2), (.long x3), (.int x4)] maxLocals = mkF m 0 #[.val (.long x0), .second, .val (.long x1), .second, .val (.long x2), .second, .val (.long x3), .second, .val (.int x4), .unset, .unset, .unset, .unset, .unset, .unset, .unset, .unset, .unset, .unset, .unset, .unset, .unset, .unset] [] := by first | (simp [entryFrame, mkF, argsToLocals, Value.category, maxLocals]; done) | rfl
set_option maxRecDepth 65536 in
set_option maxHeartbeats 40000000 in
theorem rm0_00 (l : Launch) (Z : State) (a0 : Array Value) (hw : ∀ d ∈ tables_1, d.before a0 Z = true) (ws : List Jvm.Cond) (q0 : Int64) (q1 : Int64) (q2 : Int64) (q3 : Int64) (p4 : Int32) (sz : Int64) (ia : Int64) (ib : Int64) (ic : Int64) (wd : Int64) (nw : Int32) (ja : Int32) (jb : Int32) (jc : Int32) (ma : Int64) (mb : Int64) (mc : Int64) (x1 : Int64) (x2 : Int64) (xc : Int64) (r1 : Int32) (md : Int32) (sb : Int32) (ex : Int32) (h0 : Heap) (n0 : Nat) (Z0 : n0 ≤ h0.size) (hsz_ : sz ≠ (0 : Int64)) (hia_ : (q1 &&& (9223372036854775807 : Int64)) % sz = ia) (hib_ : (q2 &&& (9223372036854775807 : Int64)) % sz = ib) (hb7 : ¬ (lcmpW sz (1 : Int64) < (0 : Int32))) (hb15 : ¬ ((0 : Int32) < lcmpW sz (137438952896 : Int64))) (hwd_ : ((sz + (64 : Int64)) - (1 : Int64)) / (64 : Int64) = wd) (hnw_ : wd.toInt32 = nw) (hn0_ : ¬ nw < 0) (hn1_ : nw.toNatClampNeg ≤ 16) (hja_ : (((ia.toUInt64 >>> ((6 : Int32) &&& 0x3f).toInt64.toUInt64).toInt64).toInt32) = ja) (hja0 : ¬ ja < 0) (hja1 : ja < nw) (hma_ : ((1 : Int64) <<< ((ia.toInt32) &&& 0x3f).toInt64) = ma) (hjb_ : (((ib.toUInt64 >>> ((6 : Int32) &&& 0x3f).toInt64.toUInt64).toInt64).toInt32) = jb) (hjb0 : ¬ jb < 0) (hjb1 : jb < nw) (hmb_ : ((1 : Int64) <<< ((ib.toInt32) &&& 0x3f).toInt64) = mb) (hjc_ : (((ia.toUInt64 >>> ((6 : Int32) &&& 0x3f).toInt64.toUInt64).toInt64).toInt32) = jc) (hjc0 : ¬ jc < 0) (hjc1 : jc < nw) (hmc_ : ((1 : Int64) <<< ((ia.toInt32) &&& 0x3f).toInt64) = mc) (hx2_ : (fun j => if j = ja.toNatClampNeg then Value.long ((0 : Int64) ||| ma) else (fun _ => (Value.long (0 : Int64))) j) jb.toNatClampNeg = .long x2) (hxc_ : (fun j => if j = ja.toNatClampNeg then Value.long ((0 : Int64) ||| ma) else (fun _ => (Value.long (0 : Int64))) j) jc.toNatClampNeg = .long xc) (hor1_ : ¬ lcmpW ((0 : Int64) &&& ma) 0 = 0 → (0 : Int64) ||| ma = (0 : Int64)) (hor2_ : ¬ lcmpW (x2 &&& mb) 0 = 0 → x2 ||| mb = x2) (hr1_ : own_get xc mc = r1) (hs_ : ((1 : Int64) + (q0 &&& (1023 : Int64))) = sz) (hmd_ : (p4 &&& (3 : Int32)) = md) (hc34 : md = (0 : Int32)) (hsb_ : (if (p4 &&& (4 : Int32)) = (0 : Int32) then (0 : Int32) else (1 : Int32)) = sb) (hc110 : sb = (0 : Int32)) (hex_ : (if (lcmpW ia ia) = (0 : Int32) then (1 : Int32) else (if sb = (0 : Int32) then (0 : Int32) else (if (lcmpW ia ib) = (0 : Int32) then (1 : Int32) else (0 : Int32)))) = ex) (hc160 : (own_get 0 mc) = (0 : Int32)) (hc167 : r1 = ex) :
    MetFree l x (head1 (Jvm.Cond.code x code maxLocals ret :: ws) room_1) (fun as_ U => as_ = #[(.long q0), (.long q1), (.long q2), (.long q3), (.int p4)] ∧ Z.Warmed39 U.vm ∧ U.heap = h0) (fun _ _ _ _ _ => True) (fun _ U o U' => ∃ v L, o = .returned v ∧ Q0 Z  h0 n0 v U'.heap L ∧ FrameEnd U o U' L 2 18) := by
  refine MetFree.of_bodySF (plainFor_of_name pn_0) hisR ?_
  intro p e s m args below meth c s₁ Bd hml0 hP hK
  obtain ⟨rfl, hZ, hh⟩ := hP
  have hx := Bd.exec
  have hby := Bd.bytes
  have hml : c.maxLocals = 23 := hml0
  have hown : s.vm.findClass "com/example/mussel/mussel/engine/BitArrayGetPinLaw" = some m.cls := findClass_of_methodNamed Bd.named
  have hnm := (name_of_methodNamed Bd.named Bd.method).1
  have X0 : Stand p l e room_1 s m #[(.long q0), (.long q1), (.long q2), (.long q3), (.int p4)] below meth c s₁ [] 0 0 := Stand.of_body Bd
  have e0 : s₁.heap = h0 := by rw [← hh, Bd.state]; rfl
  have N0 := Fr.nil n0
  have pre0 : ∀ t, Steps p.tables e below (s₁.setTop (mkF m 0 #[.val (.long q0), .second, .val (.long q1), .second, .val (.long q2), .second, .val (.long q3), .second, .val (.int p4), .unset, .unset, .unset, .unset, .unset, .unset, .unset, .unset, .unset, .unset, .unset, .unset, .unset, .unset] [])) t → Steps p.tables e below (s₁.setTop (entryFrame m #[(.long q0), (.long q1), (.long q2), (.long q3), (.int p4)] maxLocals)) t := fun t k => castTop (ef_0 m q0 q1 q2 q3 p4) k
  obtain ⟨_, _, ⟨T_1, L_1, k_1, n_1⟩, -, X_1, ⟨Lc_1, hQ_1, l_1, y_1, z_1⟩, st_1⟩ := Jvm.LawKit.callS X0 hx (y := (⟨"com/example/mussel/mussel/engine/BitArrayGetPinLaw", "pick", "(JJ)J"⟩ : MethodName)) hown (mvT hZ (hw _ (List.mem_of_getElem? (i := 1) rfl))) (mvT hZ (hw _ (List.mem_of_getElem? (i := 2) rfl))) (mvT hZ (hw _ (List.mem_of_getElem? (i := 3) rfl))) (mvT hZ (hw _ (List.mem_of_getElem? (i := 4) rfl))) (by decide) (backOf (W := 0) (rm1 l Z a0 hw [] q1 sz ia h0 n0 Z0 hsz_ hia_) hZ (hw _ (List.mem_of_getElem? (i := 4) rfl)) (hw _ (List.mem_of_getElem? (i := 3) rfl)) (by decide) (by decide)) (g := (mkF m 12 #[.val (.long q0), .second, .val (.long q1), .second, .val (.long q2), .second, .val (.long q3), .second, .val (.int p4), .val (.long sz), .second, .unset, .unset, .unset, .unset, .unset, .unset, .unset, .unset, .unset, .unset, .unset, .unset] [(.long sz), (.long q1)])) rfl (by rw [hml]; rfl) (argsL := [(.long q1), (.long sz)]) (rest := []) (lenOf pd_1 rfl) rfl (by show 2 * 0 + _ ≤ _; exact Nat.le_of_eq rfl) (hb hby at_12) (fun _ _ => ⟨rfl, e0, (by decide : 0 + 0 ≤ _), (by decide : 0 + 0 ≤ _)⟩)
  dsimp only [Pt.U, Pt.locs, Pt.cells, Pt.slots] at X_1 l_1 y_1 z_1 st_1 hQ_1
  subst l_1 y_1 z_1
  obtain ⟨rfl, Nq_1, eq_1⟩ := hQ_1
  have N_1 := Fr.app N0 Nq_1
  obtain ⟨_, _, ⟨T_2, L_2, k_2, n_2⟩, -, X_2, ⟨Lc_2, hQ_2, l_2, y_2, z_2⟩, st_2⟩ := Jvm.LawKit.callS X_1 hx (y := (⟨"com/example/mussel/mussel/engine/BitArrayGetPinLaw", "pick", "(JJ)J"⟩ : MethodName)) hown (mvT hZ (hw _ (List.mem_of_getElem? (i := 1) rfl))) (mvT hZ (hw _ (List.mem_of_getElem? (i := 2) rfl))) (mvT hZ (hw _ (List.mem_of_getElem? (i := 3) rfl))) (mvT hZ (hw _ (List.mem_of_getElem? (i := 4) rfl))) (by decide) (backOf (W := 0) (rm1 l Z a0 hw [] q2 sz ib h0 n0 Z0 hsz_ hib_) hZ (hw _ (List.mem_of_getElem? (i := 4) rfl)) (hw _ (List.mem_of_getElem? (i := 3) rfl)) (by decide) (by decide)) (g := (mkF m 21 #[.val (.long q0), .second, .val (.long q1), .second, .val (.long q2), .second, .val (.long q3), .second, .val (.int p4), .val (.long sz), .second, .val (.long ia), .second, .unset, .unset, .unset, .unset, .unset, .unset, .unset, .unset, .unset, .unset] [(.long sz), (.long q2)])) rfl (by rw [hml]; rfl) (argsL := [(.long q2), (.long sz)]) (rest := []) (lenOf pd_1 rfl) rfl (by show 2 * 0 + _ ≤ _; exact Nat.le_of_eq rfl) (hb hby at_21) (fun _ _ => ⟨rfl, eq_1, (by decide : 0 + 0 ≤ _), (by decide : 0 + 0 ≤ _)⟩)
  dsimp only [Pt.U, Pt.locs, Pt.cells, Pt.slots] at X_2 l_2 y_2 z_2 st_2 hQ_2
  subst l_2 y_2 z_2
  obtain ⟨rfl, Nq_2, eq_2⟩ := hQ_2
  have N_2 := Fr.app N_1 Nq_2
  obtain ⟨T_3, h_3, X_3, e_3, E_3, A_3, D_3, -, st_3⟩ := newO X_2 hx hZ hown (hw _ (List.mem_of_getElem? (i := 6) rfl)) (hw _ (List.mem_of_getElem? (i := 7) rfl)) (hw _ (List.mem_of_getElem? (i := 8) rfl)) eq_2 (g := (mkF m 80 #[.val (.long q0), .second, .val (.long q1), .second, .val (.long q2), .second, .val (.long q3), .second, .val (.int p4), .val (.long sz), .second, .val (.long ia), .second, .val (.long ib), .second, .val (.int md), .val (.long ia), .second, .val (.int sb), .unset, .unset, .unset, .unset] [])) rfl (hb hby at_80) (by decide) (by decide)
  obtain ⟨b_3, g_3⟩ : ∃ z, z = h0.size := ⟨_, rfl⟩
  rw [← g_3] at A_3 D_3 st_3
  have g_b_3 : n0 ≤ b_3 := Nat.le_trans Z0 (Nat.le_of_eq g_3.symm)
  have sz_b_3 : h0.size ≤ b_3 := Nat.le_trans (Keep.refl h0 []).1 (Nat.le_of_eq g_3.symm)
  have K_3 : Keep h0 h_3 [] := (Keep.refl h0 []).ext E_3
  have Z_4 : n0 ≤ h_3.size := Nat.le_trans Z0 E_3.1
  have F_words_b_3 : Fld Z h_3 b_3 "com/example/mussel/mussel/engine/BitArray" "words" "[J" .null := D_3 (Or.inr (hw _ (List.mem_of_getElem? (i := 22) rfl))) (ty := (.array .long)) (by decide)
  have F_capture_b_3 : Fld Z h_3 b_3 "com/example/mussel/mussel/engine/BitArray" "capture" "Lcom/example/mussel/mussel/engine/BitArray$Capture;" .null := D_3 (Or.inl (hw _ (List.mem_of_getElem? (i := 34) rfl))) (ty := (.object "com/example/mussel/mussel/engine/BitArray$Capture")) (by decide)
  obtain ⟨c_5, g_5⟩ : ∃ z, z = h_3.size := ⟨_, rfl⟩
  have ne_b_3_c_5 : b_3 ≠ c_5 := Nat.ne_of_lt (Nat.lt_of_lt_of_le A_3.lt (Nat.le_of_eq g_5.symm))
  have g_c_5 : n0 ≤ c_5 := Nat.le_trans Z_4 (Nat.le_of_eq g_5.symm)
  have sz_c_5 : h0.size ≤ c_5 := Nat.le_trans K_3.1 (Nat.le_of_eq g_5.symm)
  obtain ⟨_, _, ⟨T_5, L_5, k_5, n_5⟩, -, X_5, ⟨Lc_5, hQ_5, l_5, y_5, z_5⟩, st_5⟩ := X_3.specialBack hx (y := (⟨"com/example/mussel/mussel/engine/BitArray", "<init>", "(J)V"⟩ : MethodName)) rfl hown (mvT hZ (hw _ (List.mem_of_getElem? (i := 9) rfl))) (mvT hZ (hw _ (List.mem_of_getElem? (i := 10) rfl))) (mvT hZ (hw _ (List.mem_of_getElem? (i := 11) rfl))) (by decide) (backOf (W := 1) (rm2 l Z a0 hw [] b_3 sz c_5 wd nw h_3 n0 Z_4 g_5 hwd_ hn0_ hn1_ A_3 F_words_b_3 F_capture_b_3 g_b_3 hb7 hb15 hnw_) hZ (hw _ (List.mem_of_getElem? (i := 11) rfl)) (hw _ (List.mem_of_getElem? (i := 8) rfl)) (by decide) (by decide)) (g := (mkF m 86 #[.val (.long q0), .second, .val (.long q1), .second, .val (.long q2), .second, .val (.long q3), .second, .val (.int p4), .val (.long sz), .second, .val (.long ia), .second, .val (.long ib), .second, .val (.int md), .val (.long ia), .second, .val (.int sb), .unset, .unset, .unset, .unset] [(.long sz), (.ref b_3), (.ref b_3)])) rfl (by rw [hml]; rfl) (Steps.refl _) (a := b_3) (argsL := [(.long sz)]) (rest := [(.ref b_3)]) (lenOf pd_2 rfl) rfl (by show 2 * 0 + _ ≤ _; exact Nat.le_of_eq rfl) (hb hby at_86) (fun _ _ => ⟨rfl, e_3, (by decide : 1 + 1 ≤ _), (by decide : 2 + 16 ≤ _)⟩)
  dsimp only [Pt.U, Pt.locs, Pt.cells, Pt.slots] at X_5 l_5 y_5 z_5 st_5 hQ_5
  subst l_5 y_5 z_5
  obtain ⟨rfl, Nq_5, Kq_5, Fw_5, Fc_5, Vq_5⟩ := hQ_5
  have N_5 := Fr.app N_2 Nq_5
  have KK_5 : Keep h0 T_5.heap [] := K_3.trans Kq_5 (allS (Or.inr sz_b_3) all0)
  have Z_6 : n0 ≤ T_5.heap.size := Nat.le_trans Z_4 Kq_5.1
  have f_8_E_b_3 := (A_3.keep Kq_5)
  obtain ⟨cq_7, kq_7, q_7a, q_7b, q_7c⟩ := isOf hZ rfl f_8_E_b_3
  obtain ⟨_, _, ⟨T_7, L_7, k_7, n_7⟩, -, X_7, ⟨Lc_7, hQ_7, l_7, y_7, z_7⟩, st_7⟩ := X_5.virtualBack hx (y := (⟨"com/example/mussel/mussel/engine/BitArray", "get", "(J)Z"⟩ : MethodName)) (z := (⟨"com/example/mussel/mussel/engine/BitArray", "get", "(J)Z"⟩ : MethodName)) hown (mvT hZ (hw _ (List.mem_of_getElem? (i := 23) rfl))) (mvT hZ (hw _ (List.mem_of_getElem? (i := 24) rfl))) (notFace_of_selects (args := #[]) (mvT hZ (hw _ (List.mem_of_getElem? (i := 26) rfl)))) (mvT hZ (hw _ (List.mem_of_getElem? (i := 26) rfl))) (mvT hZ (hw _ (List.mem_of_getElem? (i := 25) rfl))) (by decide) (backOf (W := 0) (rm5 l Z a0 hw [] b_3 ia c_5 nw (fun _ => (Value.long (0 : Int64))) jc (0 : Int64) mc (own_get 0 mc) T_5.heap n0 Z_6 Fw_5 Vq_5 hjc0 hjc1 rfl (own_get_nar _ _) hjc_ hmc_ rfl) hZ (hw _ (List.mem_of_getElem? (i := 27) rfl)) (hw _ (List.mem_of_getElem? (i := 8) rfl)) (by decide) (by decide)) q_7a q_7c (g := (mkF m 95 #[.val (.long q0), .second, .val (.long q1), .second, .val (.long q2), .second, .val (.long q3), .second, .val (.int p4), .val (.long sz), .second, .val (.long ia), .second, .val (.long ib), .second, .val (.int md), .val (.long ia), .second, .val (.int sb), .val (.ref b_3), .unset, .unset, .unset] [(.long ia), (.ref b_3)])) rfl (by rw [hml]; rfl) (Steps.refl _) (argsL := [(.long ia)]) (rest := []) (lenOf pd_3 rfl) rfl (by show 2 * 0 + _ ≤ _; exact Nat.le_of_eq rfl) (hb hby at_95) (fun _ _ => ⟨rfl, rfl, (by decide : 2 + 0 ≤ _), (by decide : 18 + 0 ≤ _)⟩)
  dsimp only [Pt.U, Pt.locs, Pt.cells, Pt.slots] at X_7 l_7 y_7 z_7 st_7 hQ_7
  subst l_7 y_7 z_7
  obtain ⟨rfl, Nq_7, eq_7⟩ := hQ_7
  have N_7 := Fr.app N_5 Nq_7
  obtain ⟨cq_9, kq_9, q_9a, q_9b, q_9c⟩ := isOf hZ eq_7 f_8_E_b_3
  obtain ⟨_, _, ⟨T_9, L_9, k_9, n_9⟩, -, X_9, ⟨Lc_9, hQ_9, l_9, y_9, z_9⟩, st_9⟩ := X_7.virtualBack hx (y := (⟨"com/example/mussel/mussel/engine/BitArray", "set", "(J)Z"⟩ : MethodName)) (z := (⟨"com/example/mussel/mussel/engine/BitArray", "set", "(J)Z"⟩ : MethodName)) hown (mvT hZ (hw _ (List.mem_of_getElem? (i := 28) rfl))) (mvT hZ (hw _ (List.mem_of_getElem? (i := 29) rfl))) (notFace_of_selects (args := #[]) (mvT hZ (hw _ (List.mem_of_getElem? (i := 31) rfl)))) (mvT hZ (hw _ (List.mem_of_getElem? (i := 31) rfl))) (mvT hZ (hw _ (List.mem_of_getElem? (i := 30) rfl))) (by decide) (backOf (W := 0) (rm6 l Z a0 hw [] b_3 ia c_5 nw (fun _ => (Value.long (0 : Int64))) ja (0 : Int64) ma T_5.heap n0 Z_6 Fw_5 Vq_5 Fc_5 hja0 hja1 rfl g_c_5 ne_b_3_c_5 hja_ hma_ hor1_) hZ (hw _ (List.mem_of_getElem? (i := 32) rfl)) (hw _ (List.mem_of_getElem? (i := 8) rfl)) (by decide) (by decide)) q_9a q_9c (g := (mkF m 104 #[.val (.long q0), .second, .val (.long q1), .second, .val (.long q2), .second, .val (.long q3), .second, .val (.int p4), .val (.long sz), .second, .val (.long ia), .second, .val (.long ib), .second, .val (.int md), .val (.long ia), .second, .val (.int sb), .val (.ref b_3), .val (.int (own_get 0 mc)), .unset, .unset] [(.long ia), (.ref b_3)])) rfl (by rw [hml]; rfl) (Steps.refl _) (argsL := [(.long ia)]) (rest := []) (lenOf pd_3 rfl) rfl (by show 2 * 0 + _ ≤ _; exact Nat.le_of_eq rfl) (hb hby at_104) (fun _ _ => ⟨rfl, eq_7, (by decide : 2 + 0 ≤ _), (by decide : 18 + 0 ≤ _)⟩)
  dsimp only [Pt.U, Pt.locs, Pt.cells, Pt.slots] at X_9 l_9 y_9 z_9 st_9 hQ_9
  subst l_9 y_9 z_9
  obtain ⟨rfl, Nq_9, Kq_9, Vq_9⟩ := hQ_9
  have N_9 := Fr.app N_7 Nq_9
  have KK_9 : Keep h0 T_9.heap [] := KK_5.trans Kq_9 (allS (Or.inr sz_c_5) all0)
  have Z_10 : n0 ≤ T_9.heap.size := Nat.le_trans Z_6 Kq_9.1
  have f_12_F_b_3_words := (Fw_5.keep Kq_9 (ninS ne_b_3_c_5 nin0))
  have f_13_E_b_3 := (f_8_E_b_3.keep Kq_9)
  obtain ⟨cq_11, kq_11, q_11a, q_11b, q_11c⟩ := isOf hZ rfl f_13_E_b_3
  obtain ⟨_, _, ⟨T_11, L_11, k_11, n_11⟩, -, X_11, ⟨Lc_11, hQ_11, l_11, y_11, z_11⟩, st_11⟩ := X_9.virtualBack hx (y := (⟨"com/example/mussel/mussel/engine/BitArray", "get", "(J)Z"⟩ : MethodName)) (z := (⟨"com/example/mussel/mussel/engine/BitArray", "get", "(J)Z"⟩ : MethodName)) hown (mvT hZ (hw _ (List.mem_of_getElem? (i := 23) rfl))) (mvT hZ (hw _ (List.mem_of_getElem? (i := 24) rfl))) (notFace_of_selects (args := #[]) (mvT hZ (hw _ (List.mem_of_getElem? (i := 26) rfl)))) (mvT hZ (hw _ (List.mem_of_getElem? (i := 26) rfl))) (mvT hZ (hw _ (List.mem_of_getElem? (i := 25) rfl))) (by decide) (backOf (W := 0) (rm5 l Z a0 hw [] b_3 ia c_5 nw (fun j => if j = ja.toNatClampNeg then Value.long ((0 : Int64) ||| ma) else (fun _ => (Value.long (0 : Int64))) j) jc xc mc r1 T_9.heap n0 Z_10 f_12_F_b_3_words Vq_9 hjc0 hjc1 hxc_ (hr1_ ▸ own_get_nar _ _) hjc_ hmc_ hr1_) hZ (hw _ (List.mem_of_getElem? (i := 27) rfl)) (hw _ (List.mem_of_getElem? (i := 8) rfl)) (by decide) (by decide)) q_11a q_11c (g := (mkF m 125 #[.val (.long q0), .second, .val (.long q1), .second, .val (.long q2), .second, .val (.long q3), .second, .val (.int p4), .val (.long sz), .second, .val (.long ia), .second, .val (.long ib), .second, .val (.int md), .val (.long ia), .second, .val (.int sb), .val (.ref b_3), .val (.int (own_get 0 mc)), .unset, .unset] [(.long ia), (.ref b_3)])) rfl (by rw [hml]; rfl) (Steps.refl _) (argsL := [(.long ia)]) (rest := []) (lenOf pd_3 rfl) rfl (by show 2 * 0 + _ ≤ _; exact Nat.le_of_eq rfl) (hb hby at_125) (fun _ _ => ⟨rfl, rfl, (by decide : 2 + 0 ≤ _), (by decide : 18 + 0 ≤ _)⟩)
  dsimp only [Pt.U, Pt.locs, Pt.cells, Pt.slots] at X_11 l_11 y_11 z_11 st_11 hQ_11
  subst l_11 y_11 z_11
  obtain ⟨rfl, Nq_11, eq_11⟩ := hQ_11
  have N_11 := Fr.app N_9 Nq_11
  obtain ⟨fs, hr, hrun, hended, hW, hsame⟩ := X_11.leave (v := some (.int (1 : Int32))) (fun h => by rw [Bd.returns] at h; cases h)
  refine ⟨_, _, pre0 _ ?_, hrun, hended, _, _, rfl, ?_, ⟨_, rfl⟩, hW, hsame.mono (by decide) (by decide)⟩
  · show Steps p.tables e below (s₁.setTop (mkF m 0 #[.val (.long q0), .second, .val (.long q1), .second, .val (.long q2), .second, .val (.long q3), .second, .val (.int p4), .unset, .unset, .unset, .unset, .unset, .unset, .unset, .unset, .unset, .unset, .unset, .unset, .unset, .unset] [])) _
    refine XS.lconst X0.here hx rfl (hb hby at_0) ?_
    show Steps p.tables e below (s₁.setTop (mkF m 1 #[.val (.long q0), .second, .val (.long q1), .second, .val (.long q2), .second, .val (.long q3), .second, .val (.int p4), .unset, .unset, .unset, .unset, .unset, .unset, .unset, .unset, .unset, .unset, .unset, .unset, .unset, .unset] [(.long (1 : Int64))])) _
    refine XS.lloadN X0.here hx rfl (hb hby at_1) rfl ?_
    show Steps p.tables e below (s₁.setTop (mkF m 2 #[.val (.long q0), .second, .val (.long q1), .second, .val (.long q2), .second, .val (.long q3), .second, .val (.int p4), .unset, .unset, .unset, .unset, .unset, .unset, .unset, .unset, .unset, .unset, .unset, .unset, .unset, .unset] [(.long q0), (.long (1 : Int64))])) _
    refine X0.ldc2Long hx hown (mvT hZ (hw _ (List.mem_of_getElem? (i := 0) rfl))) (g := (mkF m 2 #[.val (.long q0), .second, .val (.long q1), .second, .val (.long q2), .second, .val (.long q3), .second, .val (.int p4), .unset, .unset, .unset, .unset, .unset, .unset, .unset, .unset, .unset, .unset, .unset, .unset, .unset, .unset] [(.long q0), (.long (1 : Int64))])) rfl (hb hby at_2) _ ?_
    show Steps p.tables e below (s₁.setTop (mkF m 5 #[.val (.long q0), .second, .val (.long q1), .second, .val (.long q2), .second, .val (.long q3), .second, .val (.int p4), .unset, .unset, .unset, .unset, .unset, .unset, .unset, .unset, .unset, .unset, .unset, .unset, .unset, .unset] [(.long (1023 : Int64)), (.long q0), (.long (1 : Int64))])) _
    refine XS.land X0.here hx rfl (hb hby at_5) rfl ?_
    show Steps p.tables e below (s₁.setTop (mkF m 6 #[.val (.long q0), .second, .val (.long q1), .second, .val (.long q2), .second, .val (.long q3), .second, .val (.int p4), .unset, .unset, .unset, .unset, .unset, .unset, .unset, .unset, .unset, .unset, .unset, .unset, .unset, .unset] [(.long (q0 &&& (1023 : Int64))), (.long (1 : Int64))])) _
    refine XS.ladd X0.here hx rfl (hb hby at_6) rfl ?_
    show Steps p.tables e below (s₁.setTop (mkF m 7 #[.val (.long q0), .second, .val (.long q1), .second, .val (.long q2), .second, .val (.long q3), .second, .val (.int p4), .unset, .unset, .unset, .unset, .unset, .unset, .unset, .unset, .unset, .unset, .unset, .unset, .unset, .unset] [(.long ((1 : Int64) + (q0 &&& (1023 : Int64))))])) _
    rw [hs_]
    show Steps p.tables e below (s₁.setTop (mkF m 7 #[.val (.long q0), .second, .val (.long q1), .second, .val (.long q2), .second, .val (.long q3), .second, .val (.int p4), .unset, .unset, .unset, .unset, .unset, .unset, .unset, .unset, .unset, .unset, .unset, .unset, .unset, .unset] [(.long sz)])) _
    refine XS.lstore X0.here hx rfl (hb hby at_7) rfl (l' := #[.val (.long q0), .second, .val (.long q1), .second, .val (.long q2), .second, .val (.long q3), .second, .val (.int p4), .val (.long sz), .second, .unset, .unset, .unset, .unset, .unset, .unset, .unset, .unset, .unset, .unset, .unset, .unset]) rfl ?_
    show Steps p.tables e below (s₁.setTop (mkF m 9 #[.val (.long q0), .second, .val (.long q1), .second, .val (.long q2), .second, .val (.long q3), .second, .val (.int p4), .val (.long sz), .second, .unset, .unset, .unset, .unset, .unset, .unset, .unset, .unset, .unset, .unset, .unset, .unset] [])) _
    refine XS.lloadN X0.here hx rfl (hb hby at_9) rfl ?_
    show Steps p.tables e below (s₁.setTop (mkF m 10 #[.val (.long q0), .second, .val (.long q1), .second, .val (.long q2), .second, .val (.long q3), .second, .val (.int p4), .val (.long sz), .second, .unset, .unset, .unset, .unset, .unset, .unset, .unset, .unset, .unset, .unset, .unset, .unset] [(.long q1)])) _
    refine XS.lload X0.here hx rfl (hb hby at_10) rfl ?_
    show Steps p.tables e below (s₁.setTop (mkF m 12 #[.val (.long q0), .second, .val (.long q1), .second, .val (.long q2), .second, .val (.long q3), .second, .val (.int p4), .val (.long sz), .second, .unset, .unset, .unset, .unset, .unset, .unset, .unset, .unset, .unset, .unset, .unset, .unset] [(.long sz), (.long q1)])) _
    refine st_1 _ ?_
    show Steps p.tables e below (T_1.setTop (mkF m 15 #[.val (.long q0), .second, .val (.long q1), .second, .val (.long q2), .second, .val (.long q3), .second, .val (.int p4), .val (.long sz), .second, .unset, .unset, .unset, .unset, .unset, .unset, .unset, .unset, .unset, .unset, .unset, .unset] [(.long ia)])) _
    refine XS.lstore X_1.here hx rfl (hb hby at_15) rfl (l' := #[.val (.long q0), .second, .val (.long q1), .second, .val (.long q2), .second, .val (.long q3), .second, .val (.int p4), .val (.long sz), .second, .val (.long ia), .second, .unset, .unset, .unset, .unset, .unset, .unset, .unset, .unset, .unset, .unset]) rfl ?_
    show Steps p.tables e below (T_1.setTop (mkF m 17 #[.val (.long q0), .second, .val (.long q1), .second, .val (.long q2), .second, .val (.long q3), .second, .val (.int p4), .val (.long sz), .second, .val (.long ia), .second, .unset, .unset, .unset, .unset, .unset, .unset, .unset, .unset, .unset, .unset] [])) _
    refine XS.lload X_1.here hx rfl (hb hby at_17) rfl ?_
    show Steps p.tables e below (T_1.setTop (mkF m 19 #[.val (.long q0), .second, .val (.long q1), .second, .val (.long q2), .second, .val (.long q3), .second, .val (.int p4), .val (.long sz), .second, .val (.long ia), .second, .unset, .unset, .unset, .unset, .unset, .unset, .unset, .unset, .unset, .unset] [(.long q2)])) _
    refine XS.lload X_1.here hx rfl (hb hby at_19) rfl ?_
    show Steps p.tables e below (T_1.setTop (mkF m 21 #[.val (.long q0), .second, .val (.long q1), .second, .val (.long q2), .second, .val (.long q3), .second, .val (.int p4), .val (.long sz), .second, .val (.long ia), .second, .unset, .unset, .unset, .unset, .unset, .unset, .unset, .unset, .unset, .unset] [(.long sz), (.long q2)])) _
    refine st_2 _ ?_
    show Steps p.tables e below (T_2.setTop (mkF m 24 #[.val (.long q0), .second, .val (.long q1), .second, .val (.long q2), .second, .val (.long q3), .second, .val (.int p4), .val (.long sz), .second, .val (.long ia), .second, .unset, .unset, .unset, .unset, .unset, .unset, .unset, .unset, .unset, .unset] [(.long ib)])) _
    refine XS.lstore X_2.here hx rfl (hb hby at_24) rfl (l' := #[.val (.long q0), .second, .val (.long q1), .second, .val (.long q2), .second, .val (.long q3), .second, .val (.int p4), .val (.long sz), .second, .val (.long ia), .second, .val (.long ib), .second, .unset, .unset, .unset, .unset, .unset, .unset, .unset, .unset]) rfl ?_
    show Steps p.tables e below (T_2.setTop (mkF m 26 #[.val (.long q0), .second, .val (.long q1), .second, .val (.long q2), .second, .val (.long q3), .second, .val (.int p4), .val (.long sz), .second, .val (.long ia), .second, .val (.long ib), .second, .unset, .unset, .unset, .unset, .unset, .unset, .unset, .unset] [])) _
    refine XS.iload X_2.here hx rfl (hb hby at_26) rfl ?_
    show Steps p.tables e below (T_2.setTop (mkF m 28 #[.val (.long q0), .second, .val (.long q1), .second, .val (.long q2), .second, .val (.long q3), .second, .val (.int p4), .val (.long sz), .second, .val (.long ia), .second, .val (.long ib), .second, .unset, .unset, .unset, .unset, .unset, .unset, .unset, .unset] [(.int p4)])) _
    refine XS.iconst X_2.here hx rfl (hb hby at_28) ?_
    show Steps p.tables e below (T_2.setTop (mkF m 29 #[.val (.long q0), .second, .val (.long q1), .second, .val (.long q2), .second, .val (.long q3), .second, .val (.int p4), .val (.long sz), .second, .val (.long ia), .second, .val (.long ib), .second, .unset, .unset, .unset, .unset, .unset, .unset, .unset, .unset] [(.int (3 : Int32)), (.int p4)])) _
    refine XS.iand X_2.here hx rfl (hb hby at_29) rfl ?_
    show Steps p.tables e below (T_2.setTop (mkF m 30 #[.val (.long q0), .second, .val (.long q1), .second, .val (.long q2), .second, .val (.long q3), .second, .val (.int p4), .val (.long sz), .second, .val (.long ia), .second, .val (.long ib), .second, .unset, .unset, .unset, .unset, .unset, .unset, .unset, .unset] [(.int (p4 &&& (3 : Int32)))])) _
    rw [hmd_]
    show Steps p.tables e below (T_2.setTop (mkF m 30 #[.val (.long q0), .second, .val (.long q1), .second, .val (.long q2), .second, .val (.long q3), .second, .val (.int p4), .val (.long sz), .second, .val (.long ia), .second, .val (.long ib), .second, .unset, .unset, .unset, .unset, .unset, .unset, .unset, .unset] [(.int md)])) _
    refine XS.istore X_2.here hx rfl (hb hby at_30) rfl (l' := #[.val (.long q0), .second, .val (.long q1), .second, .val (.long q2), .second, .val (.long q3), .second, .val (.int p4), .val (.long sz), .second, .val (.long ia), .second, .val (.long ib), .second, .val (.int md), .unset, .unset, .unset, .unset, .unset, .unset, .unset]) rfl ?_
    show Steps p.tables e below (T_2.setTop (mkF m 32 #[.val (.long q0), .second, .val (.long q1), .second, .val (.long q2), .second, .val (.long q3), .second, .val (.int p4), .val (.long sz), .second, .val (.long ia), .second, .val (.long ib), .second, .val (.int md), .unset, .unset, .unset, .unset, .unset, .unset, .unset] [])) _
    refine XS.iload X_2.here hx rfl (hb hby at_32) rfl ?_
    show Steps p.tables e below (T_2.setTop (mkF m 34 #[.val (.long q0), .second, .val (.long q1), .second, .val (.long q2), .second, .val (.long q3), .second, .val (.int p4), .val (.long sz), .second, .val (.long ia), .second, .val (.long ib), .second, .val (.int md), .unset, .unset, .unset, .unset, .unset, .unset, .unset] [(.int md)])) _
    refine XS.ifNo X_2.here hx rfl (hb hby at_34) rfl ((if0 _ _).trans (teq hc34).2) ?_
    show Steps p.tables e below (T_2.setTop (mkF m 37 #[.val (.long q0), .second, .val (.long q1), .second, .val (.long q2), .second, .val (.long q3), .second, .val (.int p4), .val (.long sz), .second, .val (.long ia), .second, .val (.long ib), .second, .val (.int md), .unset, .unset, .unset, .unset, .unset, .unset, .unset] [])) _
    refine XS.lload X_2.here hx rfl (hb hby at_37) rfl ?_
    show Steps p.tables e below (T_2.setTop (mkF m 39 #[.val (.long q0), .second, .val (.long q1), .second, .val (.long q2), .second, .val (.long q3), .second, .val (.int p4), .val (.long sz), .second, .val (.long ia), .second, .val (.long ib), .second, .val (.int md), .unset, .unset, .unset, .unset, .unset, .unset, .unset] [(.long ia)])) _
    refine XS.lstore X_2.here hx rfl (hb hby at_39) rfl (l' := #[.val (.long q0), .second, .val (.long q1), .second, .val (.long q2), .second, .val (.long q3), .second, .val (.int p4), .val (.long sz), .second, .val (.long ia), .second, .val (.long ib), .second, .val (.int md), .val (.long ia), .second, .unset, .unset, .unset, .unset, .unset]) rfl ?_
    show Steps p.tables e below (T_2.setTop (mkF m 41 #[.val (.long q0), .second, .val (.long q1), .second, .val (.long q2), .second, .val (.long q3), .second, .val (.int p4), .val (.long sz), .second, .val (.long ia), .second, .val (.long ib), .second, .val (.int md), .val (.long ia), .second, .unset, .unset, .unset, .unset, .unset] [])) _
    refine XS.goto X_2.here hx rfl (pc0 := 41) (pc' := 66) rfl (hb hby at_41) (by decide) (by decide) ?_
    show Steps p.tables e below (T_2.setTop (mkF m 66 #[.val (.long q0), .second, .val (.long q1), .second, .val (.long q2), .second, .val (.long q3), .second, .val (.int p4), .val (.long sz), .second, .val (.long ia), .second, .val (.long ib), .second, .val (.int md), .val (.long ia), .second, .unset, .unset, .unset, .unset, .unset] [])) _
    refine XS.iload X_2.here hx rfl (hb hby at_66) rfl ?_
    show Steps p.tables e below (T_2.setTop (mkF m 68 #[.val (.long q0), .second, .val (.long q1), .second, .val (.long q2), .second, .val (.long q3), .second, .val (.int p4), .val (.long sz), .second, .val (.long ia), .second, .val (.long ib), .second, .val (.int md), .val (.long ia), .second, .unset, .unset, .unset, .unset, .unset] [(.int p4)])) _
    refine XS.iconst X_2.here hx rfl (hb hby at_68) ?_
    show Steps p.tables e below (T_2.setTop (mkF m 69 #[.val (.long q0), .second, .val (.long q1), .second, .val (.long q2), .second, .val (.long q3), .second, .val (.int p4), .val (.long sz), .second, .val (.long ia), .second, .val (.long ib), .second, .val (.int md), .val (.long ia), .second, .unset, .unset, .unset, .unset, .unset] [(.int (4 : Int32)), (.int p4)])) _
    refine XS.iand X_2.here hx rfl (hb hby at_69) rfl ?_
    have jn70 : ∀ target, Steps p.tables e below (T_2.setTop (mkF m 78 #[.val (.long q0), .second, .val (.long q1), .second, .val (.long q2), .second, .val (.long q3), .second, .val (.int p4), .val (.long sz), .second, .val (.long ia), .second, .val (.long ib), .second, .val (.int md), .val (.long ia), .second, .unset, .unset, .unset, .unset, .unset] [(.int sb)])) target → Steps p.tables e below (T_2.setTop (mkF m 70 #[.val (.long q0), .second, .val (.long q1), .second, .val (.long q2), .second, .val (.long q3), .second, .val (.int p4), .val (.long sz), .second, .val (.long ia), .second, .val (.long ib), .second, .val (.int md), .val (.long ia), .second, .unset, .unset, .unset, .unset, .unset] [(.int (p4 &&& (4 : Int32)))])) target := by
      intro target kt
      show Steps p.tables e below (T_2.setTop (mkF m 70 #[.val (.long q0), .second, .val (.long q1), .second, .val (.long q2), .second, .val (.long q3), .second, .val (.int p4), .val (.long sz), .second, .val (.long ia), .second, .val (.long ib), .second, .val (.int md), .val (.long ia), .second, .unset, .unset, .unset, .unset, .unset] [(.int (p4 &&& (4 : Int32)))])) _
      by_cases hj70_0 : (p4 &&& (4 : Int32)) = (0 : Int32)
      · refine XS.ifYes X_2.here hx rfl (pc0 := 70) (pc' := 77) rfl (hb hby at_70) rfl ((if0 _ _).trans (teq hj70_0).1) (by decide) (by decide) ?_
        show Steps p.tables e below (T_2.setTop (mkF m 77 #[.val (.long q0), .second, .val (.long q1), .second, .val (.long q2), .second, .val (.long q3), .second, .val (.int p4), .val (.long sz), .second, .val (.long ia), .second, .val (.long ib), .second, .val (.int md), .val (.long ia), .second, .unset, .unset, .unset, .unset, .unset] [])) _
        refine XS.iconst X_2.here hx rfl (hb hby at_77) ?_
        rw [← hsb_, if_pos hj70_0] at kt
        exact kt
      · refine XS.ifNo X_2.here hx rfl (hb hby at_70) rfl ((if0 _ _).trans (feq hj70_0).1) ?_
        show Steps p.tables e below (T_2.setTop (mkF m 73 #[.val (.long q0), .second, .val (.long q1), .second, .val (.long q2), .second, .val (.long q3), .second, .val (.int p4), .val (.long sz), .second, .val (.long ia), .second, .val (.long ib), .second, .val (.int md), .val (.long ia), .second, .unset, .unset, .unset, .unset, .unset] [])) _
        refine XS.iconst X_2.here hx rfl (hb hby at_73) ?_
        show Steps p.tables e below (T_2.setTop (mkF m 74 #[.val (.long q0), .second, .val (.long q1), .second, .val (.long q2), .second, .val (.long q3), .second, .val (.int p4), .val (.long sz), .second, .val (.long ia), .second, .val (.long ib), .second, .val (.int md), .val (.long ia), .second, .unset, .unset, .unset, .unset, .unset] [(.int (1 : Int32))])) _
        refine XS.goto X_2.here hx rfl (pc0 := 74) (pc' := 78) rfl (hb hby at_74) (by decide) (by decide) ?_
        rw [← hsb_, if_neg hj70_0] at kt
        exact kt
    refine jn70 _ ?_
    show Steps p.tables e below (T_2.setTop (mkF m 78 #[.val (.long q0), .second, .val (.long q1), .second, .val (.long q2), .second, .val (.long q3), .second, .val (.int p4), .val (.long sz), .second, .val (.long ia), .second, .val (.long ib), .second, .val (.int md), .val (.long ia), .second, .unset, .unset, .unset, .unset, .unset] [(.int sb)])) _
    refine XS.istore X_2.here hx rfl (hb hby at_78) rfl (l' := #[.val (.long q0), .second, .val (.long q1), .second, .val (.long q2), .second, .val (.long q3), .second, .val (.int p4), .val (.long sz), .second, .val (.long ia), .second, .val (.long ib), .second, .val (.int md), .val (.long ia), .second, .val (.int sb), .unset, .unset, .unset, .unset]) rfl ?_
    show Steps p.tables e below (T_2.setTop (mkF m 80 #[.val (.long q0), .second, .val (.long q1), .second, .val (.long q2), .second, .val (.long q3), .second, .val (.int p4), .val (.long sz), .second, .val (.long ia), .second, .val (.long ib), .second, .val (.int md), .val (.long ia), .second, .val (.int sb), .unset, .unset, .unset, .unset] [])) _
    refine st_3 _ ?_
    show Steps p.tables e below (T_3.setTop (mkF m 83 #[.val (.long q0), .second, .val (.long q1), .second, .val (.long q2), .second, .val (.long q3), .second, .val (.int p4), .val (.long sz), .second, .val (.long ia), .second, .val (.long ib), .second, .val (.int md), .val (.long ia), .second, .val (.int sb), .unset, .unset, .unset, .unset] [(.ref b_3)])) _
    refine XS.dup X_3.here hx rfl (hb hby at_83) rfl rfl ?_
    show Steps p.tables e below (T_3.setTop (mkF m 84 #[.val (.long q0), .second, .val (.long q1), .second, .val (.long q2), .second, .val (.long q3), .second, .val (.int p4), .val (.long sz), .second, .val (.long ia), .second, .val (.long ib), .second, .val (.int md), .val (.long ia), .second, .val (.int sb), .unset, .unset, .unset, .unset] [(.ref b_3), (.ref b_3)])) _
    refine XS.lload X_3.here hx rfl (hb hby at_84) rfl ?_
    show Steps p.tables e below (T_3.setTop (mkF m 86 #[.val (.long q0), .second, .val (.long q1), .second, .val (.long q2), .second, .val (.long q3), .second, .val (.int p4), .val (.long sz), .second, .val (.long ia), .second, .val (.long ib), .second, .val (.int md), .val (.long ia), .second, .val (.int sb), .unset, .unset, .unset, .unset] [(.long sz), (.ref b_3), (.ref b_3)])) _
    refine st_5.trans ?_
    show Steps p.tables e below (T_5.setTop (mkF m 89 #[.val (.long q0), .second, .val (.long q1), .second, .val (.long q2), .second, .val (.long q3), .second, .val (.int p4), .val (.long sz), .second, .val (.long ia), .second, .val (.long ib), .second, .val (.int md), .val (.long ia), .second, .val (.int sb), .unset, .unset, .unset, .unset] [(.ref b_3)])) _
    refine XS.astore X_5.here hx rfl (hb hby at_89) rfl rfl (l' := #[.val (.long q0), .second, .val (.long q1), .second, .val (.long q2), .second, .val (.long q3), .second, .val (.int p4), .val (.long sz), .second, .val (.long ia), .second, .val (.long ib), .second, .val (.int md), .val (.long ia), .second, .val (.int sb), .val (.ref b_3), .unset, .unset, .unset]) rfl ?_
    show Steps p.tables e below (T_5.setTop (mkF m 91 #[.val (.long q0), .second, .val (.long q1), .second, .val (.long q2), .second, .val (.long q3), .second, .val (.int p4), .val (.long sz), .second, .val (.long ia), .second, .val (.long ib), .second, .val (.int md), .val (.long ia), .second, .val (.int sb), .val (.ref b_3), .unset, .unset, .unset] [])) _
    refine XS.aload X_5.here hx rfl (hb hby at_91) rfl rfl ?_
    show Steps p.tables e below (T_5.setTop (mkF m 93 #[.val (.long q0), .second, .val (.long q1), .second, .val (.long q2), .second, .val (.long q3), .second, .val (.int p4), .val (.long sz), .second, .val (.long ia), .second, .val (.long ib), .second, .val (.int md), .val (.long ia), .second, .val (.int sb), .val (.ref b_3), .unset, .unset, .unset] [(.ref b_3)])) _
    refine XS.lload X_5.here hx rfl (hb hby at_93) rfl ?_
    show Steps p.tables e below (T_5.setTop (mkF m 95 #[.val (.long q0), .second, .val (.long q1), .second, .val (.long q2), .second, .val (.long q3), .second, .val (.int p4), .val (.long sz), .second, .val (.long ia), .second, .val (.long ib), .second, .val (.int md), .val (.long ia), .second, .val (.int sb), .val (.ref b_3), .unset, .unset, .unset] [(.long ia), (.ref b_3)])) _
    refine st_7.trans ?_
    show Steps p.tables e below (T_7.setTop (mkF m 98 #[.val (.long q0), .second, .val (.long q1), .second, .val (.long q2), .second, .val (.long q3), .second, .val (.int p4), .val (.long sz), .second, .val (.long ia), .second, .val (.long ib), .second, .val (.int md), .val (.long ia), .second, .val (.int sb), .val (.ref b_3), .unset, .unset, .unset] [(.int (own_get 0 mc))])) _
    refine XS.istore X_7.here hx rfl (hb hby at_98) rfl (l' := #[.val (.long q0), .second, .val (.long q1), .second, .val (.long q2), .second, .val (.long q3), .second, .val (.int p4), .val (.long sz), .second, .val (.long ia), .second, .val (.long ib), .second, .val (.int md), .val (.long ia), .second, .val (.int sb), .val (.ref b_3), .val (.int (own_get 0 mc)), .unset, .unset]) rfl ?_
    show Steps p.tables e below (T_7.setTop (mkF m 100 #[.val (.long q0), .second, .val (.long q1), .second, .val (.long q2), .second, .val (.long q3), .second, .val (.int p4), .val (.long sz), .second, .val (.long ia), .second, .val (.long ib), .second, .val (.int md), .val (.long ia), .second, .val (.int sb), .val (.ref b_3), .val (.int (own_get 0 mc)), .unset, .unset] [])) _
    refine XS.aload X_7.here hx rfl (hb hby at_100) rfl rfl ?_
    show Steps p.tables e below (T_7.setTop (mkF m 102 #[.val (.long q0), .second, .val (.long q1), .second, .val (.long q2), .second, .val (.long q3), .second, .val (.int p4), .val (.long sz), .second, .val (.long ia), .second, .val (.long ib), .second, .val (.int md), .val (.long ia), .second, .val (.int sb), .val (.ref b_3), .val (.int (own_get 0 mc)), .unset, .unset] [(.ref b_3)])) _
    refine XS.lload X_7.here hx rfl (hb hby at_102) rfl ?_
    show Steps p.tables e below (T_7.setTop (mkF m 104 #[.val (.long q0), .second, .val (.long q1), .second, .val (.long q2), .second, .val (.long q3), .second, .val (.int p4), .val (.long sz), .second, .val (.long ia), .second, .val (.long ib), .second, .val (.int md), .val (.long ia), .second, .val (.int sb), .val (.ref b_3), .val (.int (own_get 0 mc)), .unset, .unset] [(.long ia), (.ref b_3)])) _
    refine st_9.trans ?_
    show Steps p.tables e below (T_9.setTop (mkF m 107 #[.val (.long q0), .second, .val (.long q1), .second, .val (.long q2), .second, .val (.long q3), .second, .val (.int p4), .val (.long sz), .second, .val (.long ia), .second, .val (.long ib), .second, .val (.int md), .val (.long ia), .second, .val (.int sb), .val (.ref b_3), .val (.int (own_get 0 mc)), .unset, .unset] [(.int (own_ch (0 : Int64) ma))])) _
    refine XS.pop X_9.here hx rfl (hb hby at_107) rfl rfl ?_
    show Steps p.tables e below (T_9.setTop (mkF m 108 #[.val (.long q0), .second, .val (.long q1), .second, .val (.long q2), .second, .val (.long q3), .second, .val (.int p4), .val (.long sz), .second, .val (.long ia), .second, .val (.long ib), .second, .val (.int md), .val (.long ia), .second, .val (.int sb), .val (.ref b_3), .val (.int (own_get 0 mc)), .unset, .unset] [])) _
    refine XS.iload X_9.here hx rfl (hb hby at_108) rfl ?_
    show Steps p.tables e below (T_9.setTop (mkF m 110 #[.val (.long q0), .second, .val (.long q1), .second, .val (.long q2), .second, .val (.long q3), .second, .val (.int p4), .val (.long sz), .second, .val (.long ia), .second, .val (.long ib), .second, .val (.int md), .val (.long ia), .second, .val (.int sb), .val (.ref b_3), .val (.int (own_get 0 mc)), .unset, .unset] [(.int sb)])) _
    refine XS.ifYes X_9.here hx rfl (pc0 := 110) (pc' := 121) rfl (hb hby at_110) rfl ((if0 _ _).trans (teq hc110).1) (by decide) (by decide) ?_
    show Steps p.tables e below (T_9.setTop (mkF m 121 #[.val (.long q0), .second, .val (.long q1), .second, .val (.long q2), .second, .val (.long q3), .second, .val (.int p4), .val (.long sz), .second, .val (.long ia), .second, .val (.long ib), .second, .val (.int md), .val (.long ia), .second, .val (.int sb), .val (.ref b_3), .val (.int (own_get 0 mc)), .unset, .unset] [])) _
    refine XS.aload X_9.here hx rfl (hb hby at_121) rfl rfl ?_
    show Steps p.tables e below (T_9.setTop (mkF m 123 #[.val (.long q0), .second, .val (.long q1), .second, .val (.long q2), .second, .val (.long q3), .second, .val (.int p4), .val (.long sz), .second, .val (.long ia), .second, .val (.long ib), .second, .val (.int md), .val (.long ia), .second, .val (.int sb), .val (.ref b_3), .val (.int (own_get 0 mc)), .unset, .unset] [(.ref b_3)])) _
    refine XS.lload X_9.here hx rfl (hb hby at_123) rfl ?_
    show Steps p.tables e below (T_9.setTop (mkF m 125 #[.val (.long q0), .second, .val (.long q1), .second, .val (.long q2), .second, .val (.long q3), .second, .val (.int p4), .val (.long sz), .second, .val (.long ia), .second, .val (.long ib), .second, .val (.int md), .val (.long ia), .second, .val (.int sb), .val (.ref b_3), .val (.int (own_get 0 mc)), .unset, .unset] [(.long ia), (.ref b_3)])) _
    refine st_11.trans ?_
    show Steps p.tables e below (T_11.setTop (mkF m 128 #[.val (.long q0), .second, .val (.long q1), .second, .val (.long q2), .second, .val (.long q3), .second, .val (.int p4), .val (.long sz), .second, .val (.long ia), .second, .val (.long ib), .second, .val (.int md), .val (.long ia), .second, .val (.int sb), .val (.ref b_3), .val (.int (own_get 0 mc)), .unset, .unset] [(.int r1)])) _
    refine XS.istore X_11.here hx rfl (hb hby at_128) rfl (l' := #[.val (.long q0), .second, .val (.long q1), .second, .val (.long q2), .second, .val (.long q3), .second, .val (.int p4), .val (.long sz), .second, .val (.long ia), .second, .val (.long ib), .second, .val (.int md), .val (.long ia), .second, .val (.int sb), .val (.ref b_3), .val (.int (own_get 0 mc)), .val (.int r1), .unset]) rfl ?_
    have jn130 : ∀ target, Steps p.tables e below (T_11.setTop (mkF m 156 #[.val (.long q0), .second, .val (.long q1), .second, .val (.long q2), .second, .val (.long q3), .second, .val (.int p4), .val (.long sz), .second, .val (.long ia), .second, .val (.long ib), .second, .val (.int md), .val (.long ia), .second, .val (.int sb), .val (.ref b_3), .val (.int (own_get 0 mc)), .val (.int r1), .unset] [(.int ex)])) target → Steps p.tables e below (T_11.setTop (mkF m 130 #[.val (.long q0), .second, .val (.long q1), .second, .val (.long q2), .second, .val (.long q3), .second, .val (.int p4), .val (.long sz), .second, .val (.long ia), .second, .val (.long ib), .second, .val (.int md), .val (.long ia), .second, .val (.int sb), .val (.ref b_3), .val (.int (own_get 0 mc)), .val (.int r1), .unset] [])) target := by
      intro target kt
      show Steps p.tables e below (T_11.setTop (mkF m 130 #[.val (.long q0), .second, .val (.long q1), .second, .val (.long q2), .second, .val (.long q3), .second, .val (.int p4), .val (.long sz), .second, .val (.long ia), .second, .val (.long ib), .second, .val (.int md), .val (.long ia), .second, .val (.int sb), .val (.ref b_3), .val (.int (own_get 0 mc)), .val (.int r1), .unset] [])) _
      refine XS.lload X_11.here hx rfl (hb hby at_130) rfl ?_
      show Steps p.tables e below (T_11.setTop (mkF m 132 #[.val (.long q0), .second, .val (.long q1), .second, .val (.long q2), .second, .val (.long q3), .second, .val (.int p4), .val (.long sz), .second, .val (.long ia), .second, .val (.long ib), .second, .val (.int md), .val (.long ia), .second, .val (.int sb), .val (.ref b_3), .val (.int (own_get 0 mc)), .val (.int r1), .unset] [(.long ia)])) _
      refine XS.lload X_11.here hx rfl (hb hby at_132) rfl ?_
      show Steps p.tables e below (T_11.setTop (mkF m 134 #[.val (.long q0), .second, .val (.long q1), .second, .val (.long q2), .second, .val (.long q3), .second, .val (.int p4), .val (.long sz), .second, .val (.long ia), .second, .val (.long ib), .second, .val (.int md), .val (.long ia), .second, .val (.int sb), .val (.ref b_3), .val (.int (own_get 0 mc)), .val (.int r1), .unset] [(.long ia), (.long ia)])) _
      refine XS.lcmp X_11.here hx rfl (hb hby at_134) rfl ?_
      show Steps p.tables e below (T_11.setTop (mkF m 135 #[.val (.long q0), .second, .val (.long q1), .second, .val (.long q2), .second, .val (.long q3), .second, .val (.int p4), .val (.long sz), .second, .val (.long ia), .second, .val (.long ib), .second, .val (.int md), .val (.long ia), .second, .val (.int sb), .val (.ref b_3), .val (.int (own_get 0 mc)), .val (.int r1), .unset] [(.int (lcmpW ia ia))])) _
      by_cases hj135_0 : (lcmpW ia ia) = (0 : Int32)
      · refine XS.ifYes X_11.here hx rfl (pc0 := 135) (pc' := 151) rfl (hb hby at_135) rfl ((if0 _ _).trans (teq hj135_0).1) (by decide) (by decide) ?_
        show Steps p.tables e below (T_11.setTop (mkF m 151 #[.val (.long q0), .second, .val (.long q1), .second, .val (.long q2), .second, .val (.long q3), .second, .val (.int p4), .val (.long sz), .second, .val (.long ia), .second, .val (.long ib), .second, .val (.int md), .val (.long ia), .second, .val (.int sb), .val (.ref b_3), .val (.int (own_get 0 mc)), .val (.int r1), .unset] [])) _
        refine XS.iconst X_11.here hx rfl (hb hby at_151) ?_
        show Steps p.tables e below (T_11.setTop (mkF m 152 #[.val (.long q0), .second, .val (.long q1), .second, .val (.long q2), .second, .val (.long q3), .second, .val (.int p4), .val (.long sz), .second, .val (.long ia), .second, .val (.long ib), .second, .val (.int md), .val (.long ia), .second, .val (.int sb), .val (.ref b_3), .val (.int (own_get 0 mc)), .val (.int r1), .unset] [(.int (1 : Int32))])) _
        refine XS.goto X_11.here hx rfl (pc0 := 152) (pc' := 156) rfl (hb hby at_152) (by decide) (by decide) ?_
        rw [← hex_, if_pos hj135_0] at kt
        exact kt
      · refine XS.ifNo X_11.here hx rfl (hb hby at_135) rfl ((if0 _ _).trans (feq hj135_0).1) ?_
        show Steps p.tables e below (T_11.setTop (mkF m 138 #[.val (.long q0), .second, .val (.long q1), .second, .val (.long q2), .second, .val (.long q3), .second, .val (.int p4), .val (.long sz), .second, .val (.long ia), .second, .val (.long ib), .second, .val (.int md), .val (.long ia), .second, .val (.int sb), .val (.ref b_3), .val (.int (own_get 0 mc)), .val (.int r1), .unset] [])) _
        refine XS.iload X_11.here hx rfl (hb hby at_138) rfl ?_
        show Steps p.tables e below (T_11.setTop (mkF m 140 #[.val (.long q0), .second, .val (.long q1), .second, .val (.long q2), .second, .val (.long q3), .second, .val (.int p4), .val (.long sz), .second, .val (.long ia), .second, .val (.long ib), .second, .val (.int md), .val (.long ia), .second, .val (.int sb), .val (.ref b_3), .val (.int (own_get 0 mc)), .val (.int r1), .unset] [(.int sb)])) _
        by_cases hj140_1 : sb = (0 : Int32)
        · refine XS.ifYes X_11.here hx rfl (pc0 := 140) (pc' := 155) rfl (hb hby at_140) rfl ((if0 _ _).trans (teq hj140_1).1) (by decide) (by decide) ?_
          show Steps p.tables e below (T_11.setTop (mkF m 155 #[.val (.long q0), .second, .val (.long q1), .second, .val (.long q2), .second, .val (.long q3), .second, .val (.int p4), .val (.long sz), .second, .val (.long ia), .second, .val (.long ib), .second, .val (.int md), .val (.long ia), .second, .val (.int sb), .val (.ref b_3), .val (.int (own_get 0 mc)), .val (.int r1), .unset] [])) _
          refine XS.iconst X_11.here hx rfl (hb hby at_155) ?_
          rw [← hex_, if_neg hj135_0, if_pos hj140_1] at kt
          exact kt
        · refine XS.ifNo X_11.here hx rfl (hb hby at_140) rfl ((if0 _ _).trans (feq hj140_1).1) ?_
          show Steps p.tables e below (T_11.setTop (mkF m 143 #[.val (.long q0), .second, .val (.long q1), .second, .val (.long q2), .second, .val (.long q3), .second, .val (.int p4), .val (.long sz), .second, .val (.long ia), .second, .val (.long ib), .second, .val (.int md), .val (.long ia), .second, .val (.int sb), .val (.ref b_3), .val (.int (own_get 0 mc)), .val (.int r1), .unset] [])) _
          refine XS.lload X_11.here hx rfl (hb hby at_143) rfl ?_
          show Steps p.tables e below (T_11.setTop (mkF m 145 #[.val (.long q0), .second, .val (.long q1), .second, .val (.long q2), .second, .val (.long q3), .second, .val (.int p4), .val (.long sz), .second, .val (.long ia), .second, .val (.long ib), .second, .val (.int md), .val (.long ia), .second, .val (.int sb), .val (.ref b_3), .val (.int (own_get 0 mc)), .val (.int r1), .unset] [(.long ia)])) _
          refine XS.lload X_11.here hx rfl (hb hby at_145) rfl ?_
          show Steps p.tables e below (T_11.setTop (mkF m 147 #[.val (.long q0), .second, .val (.long q1), .second, .val (.long q2), .second, .val (.long q3), .second, .val (.int p4), .val (.long sz), .second, .val (.long ia), .second, .val (.long ib), .second, .val (.int md), .val (.long ia), .second, .val (.int sb), .val (.ref b_3), .val (.int (own_get 0 mc)), .val (.int r1), .unset] [(.long ib), (.long ia)])) _
          refine XS.lcmp X_11.here hx rfl (hb hby at_147) rfl ?_
          show Steps p.tables e below (T_11.setTop (mkF m 148 #[.val (.long q0), .second, .val (.long q1), .second, .val (.long q2), .second, .val (.long q3), .second, .val (.int p4), .val (.long sz), .second, .val (.long ia), .second, .val (.long ib), .second, .val (.int md), .val (.long ia), .second, .val (.int sb), .val (.ref b_3), .val (.int (own_get 0 mc)), .val (.int r1), .unset] [(.int (lcmpW ia ib))])) _
          by_cases hj148_2 : (lcmpW ia ib) = (0 : Int32)
          · refine XS.ifNo X_11.here hx rfl (hb hby at_148) rfl ((if0 _ _).trans (teq hj148_2).2) ?_
            show Steps p.tables e below (T_11.setTop (mkF m 151 #[.val (.long q0), .second, .val (.long q1), .second, .val (.long q2), .second, .val (.long q3), .second, .val (.int p4), .val (.long sz), .second, .val (.long ia), .second, .val (.long ib), .second, .val (.int md), .val (.long ia), .second, .val (.int sb), .val (.ref b_3), .val (.int (own_get 0 mc)), .val (.int r1), .unset] [])) _
            refine XS.iconst X_11.here hx rfl (hb hby at_151) ?_
            show Steps p.tables e below (T_11.setTop (mkF m 152 #[.val (.long q0), .second, .val (.long q1), .second, .val (.long q2), .second, .val (.long q3), .second, .val (.int p4), .val (.long sz), .second, .val (.long ia), .second, .val (.long ib), .second, .val (.int md), .val (.long ia), .second, .val (.int sb), .val (.ref b_3), .val (.int (own_get 0 mc)), .val (.int r1), .unset] [(.int (1 : Int32))])) _
            refine XS.goto X_11.here hx rfl (pc0 := 152) (pc' := 156) rfl (hb hby at_152) (by decide) (by decide) ?_
            rw [← hex_, if_neg hj135_0, if_neg hj140_1, if_pos hj148_2] at kt
            exact kt
          · refine XS.ifYes X_11.here hx rfl (pc0 := 148) (pc' := 155) rfl (hb hby at_148) rfl ((if0 _ _).trans (feq hj148_2).2) (by decide) (by decide) ?_
            show Steps p.tables e below (T_11.setTop (mkF m 155 #[.val (.long q0), .second, .val (.long q1), .second, .val (.long q2), .second, .val (.long q3), .second, .val (.int p4), .val (.long sz), .second, .val (.long ia), .second, .val (.long ib), .second, .val (.int md), .val (.long ia), .second, .val (.int sb), .val (.ref b_3), .val (.int (own_get 0 mc)), .val (.int r1), .unset] [])) _
            refine XS.iconst X_11.here hx rfl (hb hby at_155) ?_
            rw [← hex_, if_neg hj135_0, if_neg hj140_1, if_neg hj148_2] at kt
            exact kt
    refine jn130 _ ?_
    show Steps p.tables e below (T_11.setTop (mkF m 156 #[.val (.long q0), .second, .val (.long q1), .second, .val (.long q2), .second, .val (.long q3), .second, .val (.int p4), .val (.long sz), .second, .val (.long ia), .second, .val (.long ib), .second, .val (.int md), .val (.long ia), .second, .val (.int sb), .val (.ref b_3), .val (.int (own_get 0 mc)), .val (.int r1), .unset] [(.int ex)])) _
    refine XS.istore X_11.here hx rfl (hb hby at_156) rfl (l' := #[.val (.long q0), .second, .val (.long q1), .second, .val (.long q2), .second, .val (.long q3), .second, .val (.int p4), .val (.long sz), .second, .val (.long ia), .second, .val (.long ib), .second, .val (.int md), .val (.long ia), .second, .val (.int sb), .val (.ref b_3), .val (.int (own_get 0 mc)), .val (.int r1), .val (.int ex)]) rfl ?_
    show Steps p.tables e below (T_11.setTop (mkF m 158 #[.val (.long q0), .second, .val (.long q1), .second, .val (.long q2), .second, .val (.long q3), .second, .val (.int p4), .val (.long sz), .second, .val (.long ia), .second, .val (.long ib), .second, .val (.int md), .val (.long ia), .second, .val (.int sb), .val (.ref b_3), .val (.int (own_get 0 mc)), .val (.int r1), .val (.int ex)] [])) _
    refine XS.iload X_11.here hx rfl (hb hby at_158) rfl ?_
    show Steps p.tables e below (T_11.setTop (mkF m 160 #[.val (.long q0), .second, .val (.long q1), .second, .val (.long q2), .second, .val (.long q3), .second, .val (.int p4), .val (.long sz), .second, .val (.long ia), .second, .val (.long ib), .second, .val (.int md), .val (.long ia), .second, .val (.int sb), .val (.ref b_3), .val (.int (own_get 0 mc)), .val (.int r1), .val (.int ex)] [(.int (own_get 0 mc))])) _
    refine XS.ifNo X_11.here hx rfl (hb hby at_160) rfl ((if0 _ _).trans (teq hc160).2) ?_
    show Steps p.tables e below (T_11.setTop (mkF m 163 #[.val (.long q0), .second, .val (.long q1), .second, .val (.long q2), .second, .val (.long q3), .second, .val (.int p4), .val (.long sz), .second, .val (.long ia), .second, .val (.long ib), .second, .val (.int md), .val (.long ia), .second, .val (.int sb), .val (.ref b_3), .val (.int (own_get 0 mc)), .val (.int r1), .val (.int ex)] [])) _
    refine XS.iload X_11.here hx rfl (hb hby at_163) rfl ?_
    show Steps p.tables e below (T_11.setTop (mkF m 165 #[.val (.long q0), .second, .val (.long q1), .second, .val (.long q2), .second, .val (.long q3), .second, .val (.int p4), .val (.long sz), .second, .val (.long ia), .second, .val (.long ib), .second, .val (.int md), .val (.long ia), .second, .val (.int sb), .val (.ref b_3), .val (.int (own_get 0 mc)), .val (.int r1), .val (.int ex)] [(.int r1)])) _
    refine XS.iload X_11.here hx rfl (hb hby at_165) rfl ?_
    show Steps p.tables e below (T_11.setTop (mkF m 167 #[.val (.long q0), .second, .val (.long q1), .second, .val (.long q2), .second, .val (.long q3), .second, .val (.int p4), .val (.long sz), .second, .val (.long ia), .second, .val (.long ib), .second, .val (.int md), .val (.long ia), .second, .val (.int sb), .val (.ref b_3), .val (.int (own_get 0 mc)), .val (.int r1), .val (.int ex)] [(.int ex), (.int r1)])) _
    refine XS.icmpNo X_11.here hx rfl (hb hby at_167) rfl (teq hc167).2 ?_
    show Steps p.tables e below (T_11.setTop (mkF m 170 #[.val (.long q0), .second, .val (.long q1), .second, .val (.long q2), .second, .val (.long q3), .second, .val (.int p4), .val (.long sz), .second, .val (.long ia), .second, .val (.long ib), .second, .val (.int md), .val (.long ia), .second, .val (.int sb), .val (.ref b_3), .val (.int (own_get 0 mc)), .val (.int r1), .val (.int ex)] [])) _
    refine XS.iconst X_11.here hx rfl (hb hby at_170) ?_
    show Steps p.tables e below (T_11.setTop (mkF m 171 #[.val (.long q0), .second, .val (.long q1), .second, .val (.long q2), .second, .val (.long q3), .second, .val (.int p4), .val (.long sz), .second, .val (.long ia), .second, .val (.long ib), .second, .val (.int md), .val (.long ia), .second, .val (.int sb), .val (.ref b_3), .val (.int (own_get 0 mc)), .val (.int r1), .val (.int ex)] [(.int (1 : Int32))])) _
    refine XS.goto X_11.here hx rfl (pc0 := 171) (pc' := 175) rfl (hb hby at_171) (by decide) (by decide) ?_
    show Steps p.tables e below (T_11.setTop (mkF m 175 #[.val (.long q0), .second, .val (.long q1), .second, .val (.long q2), .second, .val (.long q3), .second, .val (.int p4), .val (.long sz), .second, .val (.long ia), .second, .val (.long ib), .second, .val (.int md), .val (.long ia), .second, .val (.int sb), .val (.ref b_3), .val (.int (own_get 0 mc)), .val (.int r1), .val (.int ex)] [(.int (1 : Int32))])) _
    exact retN X_11 hx (t := .boolean) Bd.returns (by simp) (hb hby at_175) hr
  · show Q0 Z  h0 n0 _ T_11.heap _
    rw [eq_11]
    exact ⟨rfl, N_11⟩
set_option maxRecDepth 65536 in
set_option maxHeartbeats 40000000 in
theorem rm0_01 (l : Launch) (Z : State) (a0 : Array Value) (hw : ∀ d ∈ tables_1, d.before a0 Z = true) (ws : List Jvm.Cond) (q0 : Int64) (q1 : Int64) (q2 : Int64) (q3 : Int64) (p4 : Int32) (sz : Int64) (ia : Int64) (ib : Int64) (ic : Int64) (wd : Int64) (nw : Int32) (ja : Int32) (jb : Int32) (jc : Int32) (ma : Int64) (mb : Int64) (mc : Int64) (x1 : Int64) (x2 : Int64) (xc : Int64) (r1 : Int32) (md : Int32) (sb : Int32) (ex : Int32) (h0 : Heap) (n0 : Nat) (Z0 : n0 ≤ h0.size) (hsz_ : sz ≠ (0 : Int64)) (hia_ : (q1 &&& (9223372036854775807 : Int64)) % sz = ia) (hib_ : (q2 &&& (9223372036854775807 : Int64)) % sz = ib) (hb7 : ¬ (lcmpW sz (1 : Int64) < (0 : Int32))) (hb15 : ¬ ((0 : Int32) < lcmpW sz (137438952896 : Int64))) (hwd_ : ((sz + (64 : Int64)) - (1 : Int64)) / (64 : Int64) = wd) (hnw_ : wd.toInt32 = nw) (hn0_ : ¬ nw < 0) (hn1_ : nw.toNatClampNeg ≤ 16) (hja_ : (((ia.toUInt64 >>> ((6 : Int32) &&& 0x3f).toInt64.toUInt64).toInt64).toInt32) = ja) (hja0 : ¬ ja < 0) (hja1 : ja < nw) (hma_ : ((1 : Int64) <<< ((ia.toInt32) &&& 0x3f).toInt64) = ma) (hjb_ : (((ib.toUInt64 >>> ((6 : Int32) &&& 0x3f).toInt64.toUInt64).toInt64).toInt32) = jb) (hjb0 : ¬ jb < 0) (hjb1 : jb < nw) (hmb_ : ((1 : Int64) <<< ((ib.toInt32) &&& 0x3f).toInt64) = mb) (hjc_ : (((ia.toUInt64 >>> ((6 : Int32) &&& 0x3f).toInt64.toUInt64).toInt64).toInt32) = jc) (hjc0 : ¬ jc < 0) (hjc1 : jc < nw) (hmc_ : ((1 : Int64) <<< ((ia.toInt32) &&& 0x3f).toInt64) = mc) (hx2_ : (fun j => if j = ja.toNatClampNeg then Value.long ((0 : Int64) ||| ma) else (fun _ => (Value.long (0 : Int64))) j) jb.toNatClampNeg = .long x2) (hxc_ : (fun j => if j = jb.toNatClampNeg then Value.long (x2 ||| mb) else (fun j => if j = ja.toNatClampNeg then Value.long ((0 : Int64) ||| ma) else (fun _ => (Value.long (0 : Int64))) j) j) jc.toNatClampNeg = .long xc) (hor1_ : ¬ lcmpW ((0 : Int64) &&& ma) 0 = 0 → (0 : Int64) ||| ma = (0 : Int64)) (hor2_ : ¬ lcmpW (x2 &&& mb) 0 = 0 → x2 ||| mb = x2) (hr1_ : own_get xc mc = r1) (hs_ : ((1 : Int64) + (q0 &&& (1023 : Int64))) = sz) (hmd_ : (p4 &&& (3 : Int32)) = md) (hc34 : md = (0 : Int32)) (hsb_ : (if (p4 &&& (4 : Int32)) = (0 : Int32) then (0 : Int32) else (1 : Int32)) = sb) (hc110 : ¬ (sb = (0 : Int32))) (hex_ : (if (lcmpW ia ia) = (0 : Int32) then (1 : Int32) else (if sb = (0 : Int32) then (0 : Int32) else (if (lcmpW ia ib) = (0 : Int32) then (1 : Int32) else (0 : Int32)))) = ex) (hc160 : (own_get 0 mc) = (0 : Int32)) (hc167 : r1 = ex) :
    MetFree l x (head1 (Jvm.Cond.code x code maxLocals ret :: ws) room_1) (fun as_ U => as_ = #[(.long q0), (.long q1), (.long q2), (.long q3), (.int p4)] ∧ Z.Warmed39 U.vm ∧ U.heap = h0) (fun _ _ _ _ _ => True) (fun _ U o U' => ∃ v L, o = .returned v ∧ Q0 Z  h0 n0 v U'.heap L ∧ FrameEnd U o U' L 2 18) := by
  refine MetFree.of_bodySF (plainFor_of_name pn_0) hisR ?_
  intro p e s m args below meth c s₁ Bd hml0 hP hK
  obtain ⟨rfl, hZ, hh⟩ := hP
  have hx := Bd.exec
  have hby := Bd.bytes
  have hml : c.maxLocals = 23 := hml0
  have hown : s.vm.findClass "com/example/mussel/mussel/engine/BitArrayGetPinLaw" = some m.cls := findClass_of_methodNamed Bd.named
  have hnm := (name_of_methodNamed Bd.named Bd.method).1
  have X0 : Stand p l e room_1 s m #[(.long q0), (.long q1), (.long q2), (.long q3), (.int p4)] below meth c s₁ [] 0 0 := Stand.of_body Bd
  have e0 : s₁.heap = h0 := by rw [← hh, Bd.state]; rfl
  have N0 := Fr.nil n0
  have pre0 : ∀ t, Steps p.tables e below (s₁.setTop (mkF m 0 #[.val (.long q0), .second, .val (.long q1), .second, .val (.long q2), .second, .val (.long q3), .second, .val (.int p4), .unset, .unset, .unset, .unset, .unset, .unset, .unset, .unset, .unset, .unset, .unset, .unset, .unset, .unset] [])) t → Steps p.tables e below (s₁.setTop (entryFrame m #[(.long q0), (.long q1), (.long q2), (.long q3), (.int p4)] maxLocals)) t := fun t k => castTop (ef_0 m q0 q1 q2 q3 p4) k
  obtain ⟨_, _, ⟨T_1, L_1, k_1, n_1⟩, -, X_1, ⟨Lc_1, hQ_1, l_1, y_1, z_1⟩, st_1⟩ := Jvm.LawKit.callS X0 hx (y := (⟨"com/example/mussel/mussel/engine/BitArrayGetPinLaw", "pick", "(JJ)J"⟩ : MethodName)) hown (mvT hZ (hw _ (List.mem_of_getElem? (i := 1) rfl))) (mvT hZ (hw _ (List.mem_of_getElem? (i := 2) rfl))) (mvT hZ (hw _ (List.mem_of_getElem? (i := 3) rfl))) (mvT hZ (hw _ (List.mem_of_getElem? (i := 4) rfl))) (by decide) (backOf (W := 0) (rm1 l Z a0 hw [] q1 sz ia h0 n0 Z0 hsz_ hia_) hZ (hw _ (List.mem_of_getElem? (i := 4) rfl)) (hw _ (List.mem_of_getElem? (i := 3) rfl)) (by decide) (by decide)) (g := (mkF m 12 #[.val (.long q0), .second, .val (.long q1), .second, .val (.long q2), .second, .val (.long q3), .second, .val (.int p4), .val (.long sz), .second, .unset, .unset, .unset, .unset, .unset, .unset, .unset, .unset, .unset, .unset, .unset, .unset] [(.long sz), (.long q1)])) rfl (by rw [hml]; rfl) (argsL := [(.long q1), (.long sz)]) (rest := []) (lenOf pd_1 rfl) rfl (by show 2 * 0 + _ ≤ _; exact Nat.le_of_eq rfl) (hb hby at_12) (fun _ _ => ⟨rfl, e0, (by decide : 0 + 0 ≤ _), (by decide : 0 + 0 ≤ _)⟩)
  dsimp only [Pt.U, Pt.locs, Pt.cells, Pt.slots] at X_1 l_1 y_1 z_1 st_1 hQ_1
  subst l_1 y_1 z_1
  obtain ⟨rfl, Nq_1, eq_1⟩ := hQ_1
  have N_1 := Fr.app N0 Nq_1
  obtain ⟨_, _, ⟨T_2, L_2, k_2, n_2⟩, -, X_2, ⟨Lc_2, hQ_2, l_2, y_2, z_2⟩, st_2⟩ := Jvm.LawKit.callS X_1 hx (y := (⟨"com/example/mussel/mussel/engine/BitArrayGetPinLaw", "pick", "(JJ)J"⟩ : MethodName)) hown (mvT hZ (hw _ (List.mem_of_getElem? (i := 1) rfl))) (mvT hZ (hw _ (List.mem_of_getElem? (i := 2) rfl))) (mvT hZ (hw _ (List.mem_of_getElem? (i := 3) rfl))) (mvT hZ (hw _ (List.mem_of_getElem? (i := 4) rfl))) (by decide) (backOf (W := 0) (rm1 l Z a0 hw [] q2 sz ib h0 n0 Z0 hsz_ hib_) hZ (hw _ (List.mem_of_getElem? (i := 4) rfl)) (hw _ (List.mem_of_getElem? (i := 3) rfl)) (by decide) (by decide)) (g := (mkF m 21 #[.val (.long q0), .second, .val (.long q1), .second, .val (.long q2), .second, .val (.long q3), .second, .val (.int p4), .val (.long sz), .second, .val (.long ia), .second, .unset, .unset, .unset, .unset, .unset, .unset, .unset, .unset, .unset, .unset] [(.long sz), (.long q2)])) rfl (by rw [hml]; rfl) (argsL := [(.long q2), (.long sz)]) (rest := []) (lenOf pd_1 rfl) rfl (by show 2 * 0 + _ ≤ _; exact Nat.le_of_eq rfl) (hb hby at_21) (fun _ _ => ⟨rfl, eq_1, (by decide : 0 + 0 ≤ _), (by decide : 0 + 0 ≤ _)⟩)
  dsimp only [Pt.U, Pt.locs, Pt.cells, Pt.slots] at X_2 l_2 y_2 z_2 st_2 hQ_2
  subst l_2 y_2 z_2
  obtain ⟨rfl, Nq_2, eq_2⟩ := hQ_2
  have N_2 := Fr.app N_1 Nq_2
  obtain ⟨T_3, h_3, X_3, e_3, E_3, A_3, D_3, -, st_3⟩ := newO X_2 hx hZ hown (hw _ (List.mem_of_getElem? (i := 6) rfl)) (hw _ (List.mem_of_getElem? (i := 7) rfl)) (hw _ (List.mem_of_getElem? (i := 8) rfl)) eq_2 (g := (mkF m 80 #[.val (.long q0), .second, .val (.long q1), .second, .val (.long q2), .second, .val (.long q3), .second, .val (.int p4), .val (.long sz), .second, .val (.long ia), .second, .val (.long ib), .second, .val (.int md), .val (.long ia), .second, .val (.int sb), .unset, .unset, .unset, .unset] [])) rfl (hb hby at_80) (by decide) (by decide)
  obtain ⟨b_3, g_3⟩ : ∃ z, z = h0.size := ⟨_, rfl⟩
  rw [← g_3] at A_3 D_3 st_3
  have g_b_3 : n0 ≤ b_3 := Nat.le_trans Z0 (Nat.le_of_eq g_3.symm)
  have sz_b_3 : h0.size ≤ b_3 := Nat.le_trans (Keep.refl h0 []).1 (Nat.le_of_eq g_3.symm)
  have K_3 : Keep h0 h_3 [] := (Keep.refl h0 []).ext E_3
  have Z_4 : n0 ≤ h_3.size := Nat.le_trans Z0 E_3.1
  have F_words_b_3 : Fld Z h_3 b_3 "com/example/mussel/mussel/engine/BitArray" "words" "[J" .null := D_3 (Or.inr (hw _ (List.mem_of_getElem? (i := 22) rfl))) (ty := (.array .long)) (by decide)
  have F_capture_b_3 : Fld Z h_3 b_3 "com/example/mussel/mussel/engine/BitArray" "capture" "Lcom/example/mussel/mussel/engine/BitArray$Capture;" .null := D_3 (Or.inl (hw _ (List.mem_of_getElem? (i := 34) rfl))) (ty := (.object "com/example/mussel/mussel/engine/BitArray$Capture")) (by decide)
  obtain ⟨c_5, g_5⟩ : ∃ z, z = h_3.size := ⟨_, rfl⟩
  have ne_b_3_c_5 : b_3 ≠ c_5 := Nat.ne_of_lt (Nat.lt_of_lt_of_le A_3.lt (Nat.le_of_eq g_5.symm))
  have g_c_5 : n0 ≤ c_5 := Nat.le_trans Z_4 (Nat.le_of_eq g_5.symm)
  have sz_c_5 : h0.size ≤ c_5 := Nat.le_trans K_3.1 (Nat.le_of_eq g_5.symm)
  obtain ⟨_, _, ⟨T_5, L_5, k_5, n_5⟩, -, X_5, ⟨Lc_5, hQ_5, l_5, y_5, z_5⟩, st_5⟩ := X_3.specialBack hx (y := (⟨"com/example/mussel/mussel/engine/BitArray", "<init>", "(J)V"⟩ : MethodName)) rfl hown (mvT hZ (hw _ (List.mem_of_getElem? (i := 9) rfl))) (mvT hZ (hw _ (List.mem_of_getElem? (i := 10) rfl))) (mvT hZ (hw _ (List.mem_of_getElem? (i := 11) rfl))) (by decide) (backOf (W := 1) (rm2 l Z a0 hw [] b_3 sz c_5 wd nw h_3 n0 Z_4 g_5 hwd_ hn0_ hn1_ A_3 F_words_b_3 F_capture_b_3 g_b_3 hb7 hb15 hnw_) hZ (hw _ (List.mem_of_getElem? (i := 11) rfl)) (hw _ (List.mem_of_getElem? (i := 8) rfl)) (by decide) (by decide)) (g := (mkF m 86 #[.val (.long q0), .second, .val (.long q1), .second, .val (.long q2), .second, .val (.long q3), .second, .val (.int p4), .val (.long sz), .second, .val (.long ia), .second, .val (.long ib), .second, .val (.int md), .val (.long ia), .second, .val (.int sb), .unset, .unset, .unset, .unset] [(.long sz), (.ref b_3), (.ref b_3)])) rfl (by rw [hml]; rfl) (Steps.refl _) (a := b_3) (argsL := [(.long sz)]) (rest := [(.ref b_3)]) (lenOf pd_2 rfl) rfl (by show 2 * 0 + _ ≤ _; exact Nat.le_of_eq rfl) (hb hby at_86) (fun _ _ => ⟨rfl, e_3, (by decide : 1 + 1 ≤ _), (by decide : 2 + 16 ≤ _)⟩)
  dsimp only [Pt.U, Pt.locs, Pt.cells, Pt.slots] at X_5 l_5 y_5 z_5 st_5 hQ_5
  subst l_5 y_5 z_5
  obtain ⟨rfl, Nq_5, Kq_5, Fw_5, Fc_5, Vq_5⟩ := hQ_5
  have N_5 := Fr.app N_2 Nq_5
  have KK_5 : Keep h0 T_5.heap [] := K_3.trans Kq_5 (allS (Or.inr sz_b_3) all0)
  have Z_6 : n0 ≤ T_5.heap.size := Nat.le_trans Z_4 Kq_5.1
  have f_8_E_b_3 := (A_3.keep Kq_5)
  obtain ⟨cq_7, kq_7, q_7a, q_7b, q_7c⟩ := isOf hZ rfl f_8_E_b_3
  obtain ⟨_, _, ⟨T_7, L_7, k_7, n_7⟩, -, X_7, ⟨Lc_7, hQ_7, l_7, y_7, z_7⟩, st_7⟩ := X_5.virtualBack hx (y := (⟨"com/example/mussel/mussel/engine/BitArray", "get", "(J)Z"⟩ : MethodName)) (z := (⟨"com/example/mussel/mussel/engine/BitArray", "get", "(J)Z"⟩ : MethodName)) hown (mvT hZ (hw _ (List.mem_of_getElem? (i := 23) rfl))) (mvT hZ (hw _ (List.mem_of_getElem? (i := 24) rfl))) (notFace_of_selects (args := #[]) (mvT hZ (hw _ (List.mem_of_getElem? (i := 26) rfl)))) (mvT hZ (hw _ (List.mem_of_getElem? (i := 26) rfl))) (mvT hZ (hw _ (List.mem_of_getElem? (i := 25) rfl))) (by decide) (backOf (W := 0) (rm5 l Z a0 hw [] b_3 ia c_5 nw (fun _ => (Value.long (0 : Int64))) jc (0 : Int64) mc (own_get 0 mc) T_5.heap n0 Z_6 Fw_5 Vq_5 hjc0 hjc1 rfl (own_get_nar _ _) hjc_ hmc_ rfl) hZ (hw _ (List.mem_of_getElem? (i := 27) rfl)) (hw _ (List.mem_of_getElem? (i := 8) rfl)) (by decide) (by decide)) q_7a q_7c (g := (mkF m 95 #[.val (.long q0), .second, .val (.long q1), .second, .val (.long q2), .second, .val (.long q3), .second, .val (.int p4), .val (.long sz), .second, .val (.long ia), .second, .val (.long ib), .second, .val (.int md), .val (.long ia), .second, .val (.int sb), .val (.ref b_3), .unset, .unset, .unset] [(.long ia), (.ref b_3)])) rfl (by rw [hml]; rfl) (Steps.refl _) (argsL := [(.long ia)]) (rest := []) (lenOf pd_3 rfl) rfl (by show 2 * 0 + _ ≤ _; exact Nat.le_of_eq rfl) (hb hby at_95) (fun _ _ => ⟨rfl, rfl, (by decide : 2 + 0 ≤ _), (by decide : 18 + 0 ≤ _)⟩)
  dsimp only [Pt.U, Pt.locs, Pt.cells, Pt.slots] at X_7 l_7 y_7 z_7 st_7 hQ_7
  subst l_7 y_7 z_7
  obtain ⟨rfl, Nq_7, eq_7⟩ := hQ_7
  have N_7 := Fr.app N_5 Nq_7
  obtain ⟨cq_9, kq_9, q_9a, q_9b, q_9c⟩ := isOf hZ eq_7 f_8_E_b_3
  obtain ⟨_, _, ⟨T_9, L_9, k_9, n_9⟩, -, X_9, ⟨Lc_9, hQ_9, l_9, y_9, z_9⟩, st_9⟩ := X_7.virtualBack hx (y := (⟨"com/example/mussel/mussel/engine/BitArray", "set", "(J)Z"⟩ : MethodName)) (z := (⟨"com/example/mussel/mussel/engine/BitArray", "set", "(J)Z"⟩ : MethodName)) hown (mvT hZ (hw _ (List.mem_of_getElem? (i := 28) rfl))) (mvT hZ (hw _ (List.mem_of_getElem? (i := 29) rfl))) (notFace_of_selects (args := #[]) (mvT hZ (hw _ (List.mem_of_getElem? (i := 31) rfl)))) (mvT hZ (hw _ (List.mem_of_getElem? (i := 31) rfl))) (mvT hZ (hw _ (List.mem_of_getElem? (i := 30) rfl))) (by decide) (backOf (W := 0) (rm6 l Z a0 hw [] b_3 ia c_5 nw (fun _ => (Value.long (0 : Int64))) ja (0 : Int64) ma T_5.heap n0 Z_6 Fw_5 Vq_5 Fc_5 hja0 hja1 rfl g_c_5 ne_b_3_c_5 hja_ hma_ hor1_) hZ (hw _ (List.mem_of_getElem? (i := 32) rfl)) (hw _ (List.mem_of_getElem? (i := 8) rfl)) (by decide) (by decide)) q_9a q_9c (g := (mkF m 104 #[.val (.long q0), .second, .val (.long q1), .second, .val (.long q2), .second, .val (.long q3), .second, .val (.int p4), .val (.long sz), .second, .val (.long ia), .second, .val (.long ib), .second, .val (.int md), .val (.long ia), .second, .val (.int sb), .val (.ref b_3), .val (.int (own_get 0 mc)), .unset, .unset] [(.long ia), (.ref b_3)])) rfl (by rw [hml]; rfl) (Steps.refl _) (argsL := [(.long ia)]) (rest := []) (lenOf pd_3 rfl) rfl (by show 2 * 0 + _ ≤ _; exact Nat.le_of_eq rfl) (hb hby at_104) (fun _ _ => ⟨rfl, eq_7, (by decide : 2 + 0 ≤ _), (by decide : 18 + 0 ≤ _)⟩)
  dsimp only [Pt.U, Pt.locs, Pt.cells, Pt.slots] at X_9 l_9 y_9 z_9 st_9 hQ_9
  subst l_9 y_9 z_9
  obtain ⟨rfl, Nq_9, Kq_9, Vq_9⟩ := hQ_9
  have N_9 := Fr.app N_7 Nq_9
  have KK_9 : Keep h0 T_9.heap [] := KK_5.trans Kq_9 (allS (Or.inr sz_c_5) all0)
  have Z_10 : n0 ≤ T_9.heap.size := Nat.le_trans Z_6 Kq_9.1
  have f_12_F_b_3_words := (Fw_5.keep Kq_9 (ninS ne_b_3_c_5 nin0))
  have f_13_F_b_3_capture := (Fc_5.keep Kq_9 (ninS ne_b_3_c_5 nin0))
  have f_14_E_b_3 := (f_8_E_b_3.keep Kq_9)
  obtain ⟨cq_11, kq_11, q_11a, q_11b, q_11c⟩ := isOf hZ rfl f_14_E_b_3
  obtain ⟨_, _, ⟨T_11, L_11, k_11, n_11⟩, -, X_11, ⟨Lc_11, hQ_11, l_11, y_11, z_11⟩, st_11⟩ := X_9.virtualBack hx (y := (⟨"com/example/mussel/mussel/engine/BitArray", "set", "(J)Z"⟩ : MethodName)) (z := (⟨"com/example/mussel/mussel/engine/BitArray", "set", "(J)Z"⟩ : MethodName)) hown (mvT hZ (hw _ (List.mem_of_getElem? (i := 28) rfl))) (mvT hZ (hw _ (List.mem_of_getElem? (i := 29) rfl))) (notFace_of_selects (args := #[]) (mvT hZ (hw _ (List.mem_of_getElem? (i := 31) rfl)))) (mvT hZ (hw _ (List.mem_of_getElem? (i := 31) rfl))) (mvT hZ (hw _ (List.mem_of_getElem? (i := 30) rfl))) (by decide) (backOf (W := 0) (rm6 l Z a0 hw [] b_3 ib c_5 nw (fun j => if j = ja.toNatClampNeg then Value.long ((0 : Int64) ||| ma) else (fun _ => (Value.long (0 : Int64))) j) jb x2 mb T_9.heap n0 Z_10 f_12_F_b_3_words Vq_9 f_13_F_b_3_capture hjb0 hjb1 hx2_ g_c_5 ne_b_3_c_5 hjb_ hmb_ hor2_) hZ (hw _ (List.mem_of_getElem? (i := 32) rfl)) (hw _ (List.mem_of_getElem? (i := 8) rfl)) (by decide) (by decide)) q_11a q_11c (g := (mkF m 117 #[.val (.long q0), .second, .val (.long q1), .second, .val (.long q2), .second, .val (.long q3), .second, .val (.int p4), .val (.long sz), .second, .val (.long ia), .second, .val (.long ib), .second, .val (.int md), .val (.long ia), .second, .val (.int sb), .val (.ref b_3), .val (.int (own_get 0 mc)), .unset, .unset] [(.long ib), (.ref b_3)])) rfl (by rw [hml]; rfl) (Steps.refl _) (argsL := [(.long ib)]) (rest := []) (lenOf pd_3 rfl) rfl (by show 2 * 0 + _ ≤ _; exact Nat.le_of_eq rfl) (hb hby at_117) (fun _ _ => ⟨rfl, rfl, (by decide : 2 + 0 ≤ _), (by decide : 18 + 0 ≤ _)⟩)
  dsimp only [Pt.U, Pt.locs, Pt.cells, Pt.slots] at X_11 l_11 y_11 z_11 st_11 hQ_11
  subst l_11 y_11 z_11
  obtain ⟨rfl, Nq_11, Kq_11, Vq_11⟩ := hQ_11
  have N_11 := Fr.app N_9 Nq_11
  have KK_11 : Keep h0 T_11.heap [] := KK_9.trans Kq_11 (allS (Or.inr sz_c_5) all0)
  have Z_15 : n0 ≤ T_11.heap.size := Nat.le_trans Z_10 Kq_11.1
  have f_17_F_b_3_words := (f_12_F_b_3_words.keep Kq_11 (ninS ne_b_3_c_5 nin0))
  have f_18_E_b_3 := (f_14_E_b_3.keep Kq_11)
  obtain ⟨cq_16, kq_16, q_16a, q_16b, q_16c⟩ := isOf hZ rfl f_18_E_b_3
  obtain ⟨_, _, ⟨T_16, L_16, k_16, n_16⟩, -, X_16, ⟨Lc_16, hQ_16, l_16, y_16, z_16⟩, st_16⟩ := X_11.virtualBack hx (y := (⟨"com/example/mussel/mussel/engine/BitArray", "get", "(J)Z"⟩ : MethodName)) (z := (⟨"com/example/mussel/mussel/engine/BitArray", "get", "(J)Z"⟩ : MethodName)) hown (mvT hZ (hw _ (List.mem_of_getElem? (i := 23) rfl))) (mvT hZ (hw _ (List.mem_of_getElem? (i := 24) rfl))) (notFace_of_selects (args := #[]) (mvT hZ (hw _ (List.mem_of_getElem? (i := 26) rfl)))) (mvT hZ (hw _ (List.mem_of_getElem? (i := 26) rfl))) (mvT hZ (hw _ (List.mem_of_getElem? (i := 25) rfl))) (by decide) (backOf (W := 0) (rm5 l Z a0 hw [] b_3 ia c_5 nw (fun j => if j = jb.toNatClampNeg then Value.long (x2 ||| mb) else (fun j => if j = ja.toNatClampNeg then Value.long ((0 : Int64) ||| ma) else (fun _ => (Value.long (0 : Int64))) j) j) jc xc mc r1 T_11.heap n0 Z_15 f_17_F_b_3_words Vq_11 hjc0 hjc1 hxc_ (hr1_ ▸ own_get_nar _ _) hjc_ hmc_ hr1_) hZ (hw _ (List.mem_of_getElem? (i := 27) rfl)) (hw _ (List.mem_of_getElem? (i := 8) rfl)) (by decide) (by decide)) q_16a q_16c (g := (mkF m 125 #[.val (.long q0), .second, .val (.long q1), .second, .val (.long q2), .second, .val (.long q3), .second, .val (.int p4), .val (.long sz), .second, .val (.long ia), .second, .val (.long ib), .second, .val (.int md), .val (.long ia), .second, .val (.int sb), .val (.ref b_3), .val (.int (own_get 0 mc)), .unset, .unset] [(.long ia), (.ref b_3)])) rfl (by rw [hml]; rfl) (Steps.refl _) (argsL := [(.long ia)]) (rest := []) (lenOf pd_3 rfl) rfl (by show 2 * 0 + _ ≤ _; exact Nat.le_of_eq rfl) (hb hby at_125) (fun _ _ => ⟨rfl, rfl, (by decide : 2 + 0 ≤ _), (by decide : 18 + 0 ≤ _)⟩)
  dsimp only [Pt.U, Pt.locs, Pt.cells, Pt.slots] at X_16 l_16 y_16 z_16 st_16 hQ_16
  subst l_16 y_16 z_16
  obtain ⟨rfl, Nq_16, eq_16⟩ := hQ_16
  have N_16 := Fr.app N_11 Nq_16
  obtain ⟨fs, hr, hrun, hended, hW, hsame⟩ := X_16.leave (v := some (.int (1 : Int32))) (fun h => by rw [Bd.returns] at h; cases h)
  refine ⟨_, _, pre0 _ ?_, hrun, hended, _, _, rfl, ?_, ⟨_, rfl⟩, hW, hsame.mono (by decide) (by decide)⟩
  · show Steps p.tables e below (s₁.setTop (mkF m 0 #[.val (.long q0), .second, .val (.long q1), .second, .val (.long q2), .second, .val (.long q3), .second, .val (.int p4), .unset, .unset, .unset, .unset, .unset, .unset, .unset, .unset, .unset, .unset, .unset, .unset, .unset, .unset] [])) _
    refine XS.lconst X0.here hx rfl (hb hby at_0) ?_
    show Steps p.tables e below (s₁.setTop (mkF m 1 #[.val (.long q0), .second, .val (.long q1), .second, .val (.long q2), .second, .val (.long q3), .second, .val (.int p4), .unset, .unset, .unset, .unset, .unset, .unset, .unset, .unset, .unset, .unset, .unset, .unset, .unset, .unset] [(.long (1 : Int64))])) _
    refine XS.lloadN X0.here hx rfl (hb hby at_1) rfl ?_
    show Steps p.tables e below (s₁.setTop (mkF m 2 #[.val (.long q0), .second, .val (.long q1), .second, .val (.long q2), .second, .val (.long q3), .second, .val (.int p4), .unset, .unset, .unset, .unset, .unset, .unset, .unset, .unset, .unset, .unset, .unset, .unset, .unset, .unset] [(.long q0), (.long (1 : Int64))])) _
    refine X0.ldc2Long hx hown (mvT hZ (hw _ (List.mem_of_getElem? (i := 0) rfl))) (g := (mkF m 2 #[.val (.long q0), .second, .val (.long q1), .second, .val (.long q2), .second, .val (.long q3), .second, .val (.int p4), .unset, .unset, .unset, .unset, .unset, .unset, .unset, .unset, .unset, .unset, .unset, .unset, .unset, .unset] [(.long q0), (.long (1 : Int64))])) rfl (hb hby at_2) _ ?_
    show Steps p.tables e below (s₁.setTop (mkF m 5 #[.val (.long q0), .second, .val (.long q1), .second, .val (.long q2), .second, .val (.long q3), .second, .val (.int p4), .unset, .unset, .unset, .unset, .unset, .unset, .unset, .unset, .unset, .unset, .unset, .unset, .unset, .unset] [(.long (1023 : Int64)), (.long q0), (.long (1 : Int64))])) _
    refine XS.land X0.here hx rfl (hb hby at_5) rfl ?_
    show Steps p.tables e below (s₁.setTop (mkF m 6 #[.val (.long q0), .second, .val (.long q1), .second, .val (.long q2), .second, .val (.long q3), .second, .val (.int p4), .unset, .unset, .unset, .unset, .unset, .unset, .unset, .unset, .unset, .unset, .unset, .unset, .unset, .unset] [(.long (q0 &&& (1023 : Int64))), (.long (1 : Int64))])) _
    refine XS.ladd X0.here hx rfl (hb hby at_6) rfl ?_
    show Steps p.tables e below (s₁.setTop (mkF m 7 #[.val (.long q0), .second, .val (.long q1), .second, .val (.long q2), .second, .val (.long q3), .second, .val (.int p4), .unset, .unset, .unset, .unset, .unset, .unset, .unset, .unset, .unset, .unset, .unset, .unset, .unset, .unset] [(.long ((1 : Int64) + (q0 &&& (1023 : Int64))))])) _
    rw [hs_]
    show Steps p.tables e below (s₁.setTop (mkF m 7 #[.val (.long q0), .second, .val (.long q1), .second, .val (.long q2), .second, .val (.long q3), .second, .val (.int p4), .unset, .unset, .unset, .unset, .unset, .unset, .unset, .unset, .unset, .unset, .unset, .unset, .unset, .unset] [(.long sz)])) _
    refine XS.lstore X0.here hx rfl (hb hby at_7) rfl (l' := #[.val (.long q0), .second, .val (.long q1), .second, .val (.long q2), .second, .val (.long q3), .second, .val (.int p4), .val (.long sz), .second, .unset, .unset, .unset, .unset, .unset, .unset, .unset, .unset, .unset, .unset, .unset, .unset]) rfl ?_
    show Steps p.tables e below (s₁.setTop (mkF m 9 #[.val (.long q0), .second, .val (.long q1), .second, .val (.long q2), .second, .val (.long q3), .second, .val (.int p4), .val (.long sz), .second, .unset, .unset, .unset, .unset, .unset, .unset, .unset, .unset, .unset, .unset, .unset, .unset] [])) _
    refine XS.lloadN X0.here hx rfl (hb hby at_9) rfl ?_
    show Steps p.tables e below (s₁.setTop (mkF m 10 #[.val (.long q0), .second, .val (.long q1), .second, .val (.long q2), .second, .val (.long q3), .second, .val (.int p4), .val (.long sz), .second, .unset, .unset, .unset, .unset, .unset, .unset, .unset, .unset, .unset, .unset, .unset, .unset] [(.long q1)])) _
    refine XS.lload X0.here hx rfl (hb hby at_10) rfl ?_
    show Steps p.tables e below (s₁.setTop (mkF m 12 #[.val (.long q0), .second, .val (.long q1), .second, .val (.long q2), .second, .val (.long q3), .second, .val (.int p4), .val (.long sz), .second, .unset, .unset, .unset, .unset, .unset, .unset, .unset, .unset, .unset, .unset, .unset, .unset] [(.long sz), (.long q1)])) _
    refine st_1 _ ?_
    show Steps p.tables e below (T_1.setTop (mkF m 15 #[.val (.long q0), .second, .val (.long q1), .second, .val (.long q2), .second, .val (.long q3), .second, .val (.int p4), .val (.long sz), .second, .unset, .unset, .unset, .unset, .unset, .unset, .unset, .unset, .unset, .unset, .unset, .unset] [(.long ia)])) _
    refine XS.lstore X_1.here hx rfl (hb hby at_15) rfl (l' := #[.val (.long q0), .second, .val (.long q1), .second, .val (.long q2), .second, .val (.long q3), .second, .val (.int p4), .val (.long sz), .second, .val (.long ia), .second, .unset, .unset, .unset, .unset, .unset, .unset, .unset, .unset, .unset, .unset]) rfl ?_
    show Steps p.tables e below (T_1.setTop (mkF m 17 #[.val (.long q0), .second, .val (.long q1), .second, .val (.long q2), .second, .val (.long q3), .second, .val (.int p4), .val (.long sz), .second, .val (.long ia), .second, .unset, .unset, .unset, .unset, .unset, .unset, .unset, .unset, .unset, .unset] [])) _
    refine XS.lload X_1.here hx rfl (hb hby at_17) rfl ?_
    show Steps p.tables e below (T_1.setTop (mkF m 19 #[.val (.long q0), .second, .val (.long q1), .second, .val (.long q2), .second, .val (.long q3), .second, .val (.int p4), .val (.long sz), .second, .val (.long ia), .second, .unset, .unset, .unset, .unset, .unset, .unset, .unset, .unset, .unset, .unset] [(.long q2)])) _
    refine XS.lload X_1.here hx rfl (hb hby at_19) rfl ?_
    show Steps p.tables e below (T_1.setTop (mkF m 21 #[.val (.long q0), .second, .val (.long q1), .second, .val (.long q2), .second, .val (.long q3), .second, .val (.int p4), .val (.long sz), .second, .val (.long ia), .second, .unset, .unset, .unset, .unset, .unset, .unset, .unset, .unset, .unset, .unset] [(.long sz), (.long q2)])) _
    refine st_2 _ ?_
    show Steps p.tables e below (T_2.setTop (mkF m 24 #[.val (.long q0), .second, .val (.long q1), .second, .val (.long q2), .second, .val (.long q3), .second, .val (.int p4), .val (.long sz), .second, .val (.long ia), .second, .unset, .unset, .unset, .unset, .unset, .unset, .unset, .unset, .unset, .unset] [(.long ib)])) _
    refine XS.lstore X_2.here hx rfl (hb hby at_24) rfl (l' := #[.val (.long q0), .second, .val (.long q1), .second, .val (.long q2), .second, .val (.long q3), .second, .val (.int p4), .val (.long sz), .second, .val (.long ia), .second, .val (.long ib), .second, .unset, .unset, .unset, .unset, .unset, .unset, .unset, .unset]) rfl ?_
    show Steps p.tables e below (T_2.setTop (mkF m 26 #[.val (.long q0), .second, .val (.long q1), .second, .val (.long q2), .second, .val (.long q3), .second, .val (.int p4), .val (.long sz), .second, .val (.long ia), .second, .val (.long ib), .second, .unset, .unset, .unset, .unset, .unset, .unset, .unset, .unset] [])) _
    refine XS.iload X_2.here hx rfl (hb hby at_26) rfl ?_
    show Steps p.tables e below (T_2.setTop (mkF m 28 #[.val (.long q0), .second, .val (.long q1), .second, .val (.long q2), .second, .val (.long q3), .second, .val (.int p4), .val (.long sz), .second, .val (.long ia), .second, .val (.long ib), .second, .unset, .unset, .unset, .unset, .unset, .unset, .unset, .unset] [(.int p4)])) _
    refine XS.iconst X_2.here hx rfl (hb hby at_28) ?_
    show Steps p.tables e below (T_2.setTop (mkF m 29 #[.val (.long q0), .second, .val (.long q1), .second, .val (.long q2), .second, .val (.long q3), .second, .val (.int p4), .val (.long sz), .second, .val (.long ia), .second, .val (.long ib), .second, .unset, .unset, .unset, .unset, .unset, .unset, .unset, .unset] [(.int (3 : Int32)), (.int p4)])) _
    refine XS.iand X_2.here hx rfl (hb hby at_29) rfl ?_
    show Steps p.tables e below (T_2.setTop (mkF m 30 #[.val (.long q0), .second, .val (.long q1), .second, .val (.long q2), .second, .val (.long q3), .second, .val (.int p4), .val (.long sz), .second, .val (.long ia), .second, .val (.long ib), .second, .unset, .unset, .unset, .unset, .unset, .unset, .unset, .unset] [(.int (p4 &&& (3 : Int32)))])) _
    rw [hmd_]
    show Steps p.tables e below (T_2.setTop (mkF m 30 #[.val (.long q0), .second, .val (.long q1), .second, .val (.long q2), .second, .val (.long q3), .second, .val (.int p4), .val (.long sz), .second, .val (.long ia), .second, .val (.long ib), .second, .unset, .unset, .unset, .unset, .unset, .unset, .unset, .unset] [(.int md)])) _
    refine XS.istore X_2.here hx rfl (hb hby at_30) rfl (l' := #[.val (.long q0), .second, .val (.long q1), .second, .val (.long q2), .second, .val (.long q3), .second, .val (.int p4), .val (.long sz), .second, .val (.long ia), .second, .val (.long ib), .second, .val (.int md), .unset, .unset, .unset, .unset, .unset, .unset, .unset]) rfl ?_
    show Steps p.tables e below (T_2.setTop (mkF m 32 #[.val (.long q0), .second, .val (.long q1), .second, .val (.long q2), .second, .val (.long q3), .second, .val (.int p4), .val (.long sz), .second, .val (.long ia), .second, .val (.long ib), .second, .val (.int md), .unset, .unset, .unset, .unset, .unset, .unset, .unset] [])) _
    refine XS.iload X_2.here hx rfl (hb hby at_32) rfl ?_
    show Steps p.tables e below (T_2.setTop (mkF m 34 #[.val (.long q0), .second, .val (.long q1), .second, .val (.long q2), .second, .val (.long q3), .second, .val (.int p4), .val (.long sz), .second, .val (.long ia), .second, .val (.long ib), .second, .val (.int md), .unset, .unset, .unset, .unset, .unset, .unset, .unset] [(.int md)])) _
    refine XS.ifNo X_2.here hx rfl (hb hby at_34) rfl ((if0 _ _).trans (teq hc34).2) ?_
    show Steps p.tables e below (T_2.setTop (mkF m 37 #[.val (.long q0), .second, .val (.long q1), .second, .val (.long q2), .second, .val (.long q3), .second, .val (.int p4), .val (.long sz), .second, .val (.long ia), .second, .val (.long ib), .second, .val (.int md), .unset, .unset, .unset, .unset, .unset, .unset, .unset] [])) _
    refine XS.lload X_2.here hx rfl (hb hby at_37) rfl ?_
    show Steps p.tables e below (T_2.setTop (mkF m 39 #[.val (.long q0), .second, .val (.long q1), .second, .val (.long q2), .second, .val (.long q3), .second, .val (.int p4), .val (.long sz), .second, .val (.long ia), .second, .val (.long ib), .second, .val (.int md), .unset, .unset, .unset, .unset, .unset, .unset, .unset] [(.long ia)])) _
    refine XS.lstore X_2.here hx rfl (hb hby at_39) rfl (l' := #[.val (.long q0), .second, .val (.long q1), .second, .val (.long q2), .second, .val (.long q3), .second, .val (.int p4), .val (.long sz), .second, .val (.long ia), .second, .val (.long ib), .second, .val (.int md), .val (.long ia), .second, .unset, .unset, .unset, .unset, .unset]) rfl ?_
    show Steps p.tables e below (T_2.setTop (mkF m 41 #[.val (.long q0), .second, .val (.long q1), .second, .val (.long q2), .second, .val (.long q3), .second, .val (.int p4), .val (.long sz), .second, .val (.long ia), .second, .val (.long ib), .second, .val (.int md), .val (.long ia), .second, .unset, .unset, .unset, .unset, .unset] [])) _
    refine XS.goto X_2.here hx rfl (pc0 := 41) (pc' := 66) rfl (hb hby at_41) (by decide) (by decide) ?_
    show Steps p.tables e below (T_2.setTop (mkF m 66 #[.val (.long q0), .second, .val (.long q1), .second, .val (.long q2), .second, .val (.long q3), .second, .val (.int p4), .val (.long sz), .second, .val (.long ia), .second, .val (.long ib), .second, .val (.int md), .val (.long ia), .second, .unset, .unset, .unset, .unset, .unset] [])) _
    refine XS.iload X_2.here hx rfl (hb hby at_66) rfl ?_
    show Steps p.tables e below (T_2.setTop (mkF m 68 #[.val (.long q0), .second, .val (.long q1), .second, .val (.long q2), .second, .val (.long q3), .second, .val (.int p4), .val (.long sz), .second, .val (.long ia), .second, .val (.long ib), .second, .val (.int md), .val (.long ia), .second, .unset, .unset, .unset, .unset, .unset] [(.int p4)])) _
    refine XS.iconst X_2.here hx rfl (hb hby at_68) ?_
    show Steps p.tables e below (T_2.setTop (mkF m 69 #[.val (.long q0), .second, .val (.long q1), .second, .val (.long q2), .second, .val (.long q3), .second, .val (.int p4), .val (.long sz), .second, .val (.long ia), .second, .val (.long ib), .second, .val (.int md), .val (.long ia), .second, .unset, .unset, .unset, .unset, .unset] [(.int (4 : Int32)), (.int p4)])) _
    refine XS.iand X_2.here hx rfl (hb hby at_69) rfl ?_
    have jn70 : ∀ target, Steps p.tables e below (T_2.setTop (mkF m 78 #[.val (.long q0), .second, .val (.long q1), .second, .val (.long q2), .second, .val (.long q3), .second, .val (.int p4), .val (.long sz), .second, .val (.long ia), .second, .val (.long ib), .second, .val (.int md), .val (.long ia), .second, .unset, .unset, .unset, .unset, .unset] [(.int sb)])) target → Steps p.tables e below (T_2.setTop (mkF m 70 #[.val (.long q0), .second, .val (.long q1), .second, .val (.long q2), .second, .val (.long q3), .second, .val (.int p4), .val (.long sz), .second, .val (.long ia), .second, .val (.long ib), .second, .val (.int md), .val (.long ia), .second, .unset, .unset, .unset, .unset, .unset] [(.int (p4 &&& (4 : Int32)))])) target := by
      intro target kt
      show Steps p.tables e below (T_2.setTop (mkF m 70 #[.val (.long q0), .second, .val (.long q1), .second, .val (.long q2), .second, .val (.long q3), .second, .val (.int p4), .val (.long sz), .second, .val (.long ia), .second, .val (.long ib), .second, .val (.int md), .val (.long ia), .second, .unset, .unset, .unset, .unset, .unset] [(.int (p4 &&& (4 : Int32)))])) _
      by_cases hj70_0 : (p4 &&& (4 : Int32)) = (0 : Int32)
      · refine XS.ifYes X_2.here hx rfl (pc0 := 70) (pc' := 77) rfl (hb hby at_70) rfl ((if0 _ _).trans (teq hj70_0).1) (by decide) (by decide) ?_
        show Steps p.tables e below (T_2.setTop (mkF m 77 #[.val (.long q0), .second, .val (.long q1), .second, .val (.long q2), .second, .val (.long q3), .second, .val (.int p4), .val (.long sz), .second, .val (.long ia), .second, .val (.long ib), .second, .val (.int md), .val (.long ia), .second, .unset, .unset, .unset, .unset, .unset] [])) _
        refine XS.iconst X_2.here hx rfl (hb hby at_77) ?_
        rw [← hsb_, if_pos hj70_0] at kt
        exact kt
      · refine XS.ifNo X_2.here hx rfl (hb hby at_70) rfl ((if0 _ _).trans (feq hj70_0).1) ?_
        show Steps p.tables e below (T_2.setTop (mkF m 73 #[.val (.long q0), .second, .val (.long q1), .second, .val (.long q2), .second, .val (.long q3), .second, .val (.int p4), .val (.long sz), .second, .val (.long ia), .second, .val (.long ib), .second, .val (.int md), .val (.long ia), .second, .unset, .unset, .unset, .unset, .unset] [])) _
        refine XS.iconst X_2.here hx rfl (hb hby at_73) ?_
        show Steps p.tables e below (T_2.setTop (mkF m 74 #[.val (.long q0), .second, .val (.long q1), .second, .val (.long q2), .second, .val (.long q3), .second, .val (.int p4), .val (.long sz), .second, .val (.long ia), .second, .val (.long ib), .second, .val (.int md), .val (.long ia), .second, .unset, .unset, .unset, .unset, .unset] [(.int (1 : Int32))])) _
        refine XS.goto X_2.here hx rfl (pc0 := 74) (pc' := 78) rfl (hb hby at_74) (by decide) (by decide) ?_
        rw [← hsb_, if_neg hj70_0] at kt
        exact kt
    refine jn70 _ ?_
    show Steps p.tables e below (T_2.setTop (mkF m 78 #[.val (.long q0), .second, .val (.long q1), .second, .val (.long q2), .second, .val (.long q3), .second, .val (.int p4), .val (.long sz), .second, .val (.long ia), .second, .val (.long ib), .second, .val (.int md), .val (.long ia), .second, .unset, .unset, .unset, .unset, .unset] [(.int sb)])) _
    refine XS.istore X_2.here hx rfl (hb hby at_78) rfl (l' := #[.val (.long q0), .second, .val (.long q1), .second, .val (.long q2), .second, .val (.long q3), .second, .val (.int p4), .val (.long sz), .second, .val (.long ia), .second, .val (.long ib), .second, .val (.int md), .val (.long ia), .second, .val (.int sb), .unset, .unset, .unset, .unset]) rfl ?_
    show Steps p.tables e below (T_2.setTop (mkF m 80 #[.val (.long q0), .second, .val (.long q1), .second, .val (.long q2), .second, .val (.long q3), .second, .val (.int p4), .val (.long sz), .second, .val (.long ia), .second, .val (.long ib), .second, .val (.int md), .val (.long ia), .second, .val (.int sb), .unset, .unset, .unset, .unset] [])) _
    refine st_3 _ ?_
    show Steps p.tables e below (T_3.setTop (mkF m 83 #[.val (.long q0), .second, .val (.long q1), .second, .val (.long q2), .second, .val (.long q3), .second, .val (.int p4), .val (.long sz), .second, .val (.long ia), .second, .val (.long ib), .second, .val (.int md), .val (.long ia), .second, .val (.int sb), .unset, .unset, .unset, .unset] [(.ref b_3)])) _
    refine XS.dup X_3.here hx rfl (hb hby at_83) rfl rfl ?_
    show Steps p.tables e below (T_3.setTop (mkF m 84 #[.val (.long q0), .second, .val (.long q1), .second, .val (.long q2), .second, .val (.long q3), .second, .val (.int p4), .val (.long sz), .second, .val (.long ia), .second, .val (.long ib), .second, .val (.int md), .val (.long ia), .second, .val (.int sb), .unset, .unset, .unset, .unset] [(.ref b_3), (.ref b_3)])) _
    refine XS.lload X_3.here hx rfl (hb hby at_84) rfl ?_
    show Steps p.tables e below (T_3.setTop (mkF m 86 #[.val (.long q0), .second, .val (.long q1), .second, .val (.long q2), .second, .val (.long q3), .second, .val (.int p4), .val (.long sz), .second, .val (.long ia), .second, .val (.long ib), .second, .val (.int md), .val (.long ia), .second, .val (.int sb), .unset, .unset, .unset, .unset] [(.long sz), (.ref b_3), (.ref b_3)])) _
    refine st_5.trans ?_
    show Steps p.tables e below (T_5.setTop (mkF m 89 #[.val (.long q0), .second, .val (.long q1), .second, .val (.long q2), .second, .val (.long q3), .second, .val (.int p4), .val (.long sz), .second, .val (.long ia), .second, .val (.long ib), .second, .val (.int md), .val (.long ia), .second, .val (.int sb), .unset, .unset, .unset, .unset] [(.ref b_3)])) _
    refine XS.astore X_5.here hx rfl (hb hby at_89) rfl rfl (l' := #[.val (.long q0), .second, .val (.long q1), .second, .val (.long q2), .second, .val (.long q3), .second, .val (.int p4), .val (.long sz), .second, .val (.long ia), .second, .val (.long ib), .second, .val (.int md), .val (.long ia), .second, .val (.int sb), .val (.ref b_3), .unset, .unset, .unset]) rfl ?_
    show Steps p.tables e below (T_5.setTop (mkF m 91 #[.val (.long q0), .second, .val (.long q1), .second, .val (.long q2), .second, .val (.long q3), .second, .val (.int p4), .val (.long sz), .second, .val (.long ia), .second, .val (.long ib), .second, .val (.int md), .val (.long ia), .second, .val (.int sb), .val (.ref b_3), .unset, .unset, .unset] [])) _
    refine XS.aload X_5.here hx rfl (hb hby at_91) rfl rfl ?_
    show Steps p.tables e below (T_5.setTop (mkF m 93 #[.val (.long q0), .second, .val (.long q1), .second, .val (.long q2), .second, .val (.long q3), .second, .val (.int p4), .val (.long sz), .second, .val (.long ia), .second, .val (.long ib), .second, .val (.int md), .val (.long ia), .second, .val (.int sb), .val (.ref b_3), .unset, .unset, .unset] [(.ref b_3)])) _
    refine XS.lload X_5.here hx rfl (hb hby at_93) rfl ?_
    show Steps p.tables e below (T_5.setTop (mkF m 95 #[.val (.long q0), .second, .val (.long q1), .second, .val (.long q2), .second, .val (.long q3), .second, .val (.int p4), .val (.long sz), .second, .val (.long ia), .second, .val (.long ib), .second, .val (.int md), .val (.long ia), .second, .val (.int sb), .val (.ref b_3), .unset, .unset, .unset] [(.long ia), (.ref b_3)])) _
    refine st_7.trans ?_
    show Steps p.tables e below (T_7.setTop (mkF m 98 #[.val (.long q0), .second, .val (.long q1), .second, .val (.long q2), .second, .val (.long q3), .second, .val (.int p4), .val (.long sz), .second, .val (.long ia), .second, .val (.long ib), .second, .val (.int md), .val (.long ia), .second, .val (.int sb), .val (.ref b_3), .unset, .unset, .unset] [(.int (own_get 0 mc))])) _
    refine XS.istore X_7.here hx rfl (hb hby at_98) rfl (l' := #[.val (.long q0), .second, .val (.long q1), .second, .val (.long q2), .second, .val (.long q3), .second, .val (.int p4), .val (.long sz), .second, .val (.long ia), .second, .val (.long ib), .second, .val (.int md), .val (.long ia), .second, .val (.int sb), .val (.ref b_3), .val (.int (own_get 0 mc)), .unset, .unset]) rfl ?_
    show Steps p.tables e below (T_7.setTop (mkF m 100 #[.val (.long q0), .second, .val (.long q1), .second, .val (.long q2), .second, .val (.long q3), .second, .val (.int p4), .val (.long sz), .second, .val (.long ia), .second, .val (.long ib), .second, .val (.int md), .val (.long ia), .second, .val (.int sb), .val (.ref b_3), .val (.int (own_get 0 mc)), .unset, .unset] [])) _
    refine XS.aload X_7.here hx rfl (hb hby at_100) rfl rfl ?_
    show Steps p.tables e below (T_7.setTop (mkF m 102 #[.val (.long q0), .second, .val (.long q1), .second, .val (.long q2), .second, .val (.long q3), .second, .val (.int p4), .val (.long sz), .second, .val (.long ia), .second, .val (.long ib), .second, .val (.int md), .val (.long ia), .second, .val (.int sb), .val (.ref b_3), .val (.int (own_get 0 mc)), .unset, .unset] [(.ref b_3)])) _
    refine XS.lload X_7.here hx rfl (hb hby at_102) rfl ?_
    show Steps p.tables e below (T_7.setTop (mkF m 104 #[.val (.long q0), .second, .val (.long q1), .second, .val (.long q2), .second, .val (.long q3), .second, .val (.int p4), .val (.long sz), .second, .val (.long ia), .second, .val (.long ib), .second, .val (.int md), .val (.long ia), .second, .val (.int sb), .val (.ref b_3), .val (.int (own_get 0 mc)), .unset, .unset] [(.long ia), (.ref b_3)])) _
    refine st_9.trans ?_
    show Steps p.tables e below (T_9.setTop (mkF m 107 #[.val (.long q0), .second, .val (.long q1), .second, .val (.long q2), .second, .val (.long q3), .second, .val (.int p4), .val (.long sz), .second, .val (.long ia), .second, .val (.long ib), .second, .val (.int md), .val (.long ia), .second, .val (.int sb), .val (.ref b_3), .val (.int (own_get 0 mc)), .unset, .unset] [(.int (own_ch (0 : Int64) ma))])) _
    refine XS.pop X_9.here hx rfl (hb hby at_107) rfl rfl ?_
    show Steps p.tables e below (T_9.setTop (mkF m 108 #[.val (.long q0), .second, .val (.long q1), .second, .val (.long q2), .second, .val (.long q3), .second, .val (.int p4), .val (.long sz), .second, .val (.long ia), .second, .val (.long ib), .second, .val (.int md), .val (.long ia), .second, .val (.int sb), .val (.ref b_3), .val (.int (own_get 0 mc)), .unset, .unset] [])) _
    refine XS.iload X_9.here hx rfl (hb hby at_108) rfl ?_
    show Steps p.tables e below (T_9.setTop (mkF m 110 #[.val (.long q0), .second, .val (.long q1), .second, .val (.long q2), .second, .val (.long q3), .second, .val (.int p4), .val (.long sz), .second, .val (.long ia), .second, .val (.long ib), .second, .val (.int md), .val (.long ia), .second, .val (.int sb), .val (.ref b_3), .val (.int (own_get 0 mc)), .unset, .unset] [(.int sb)])) _
    refine XS.ifNo X_9.here hx rfl (hb hby at_110) rfl ((if0 _ _).trans (feq hc110).1) ?_
    show Steps p.tables e below (T_9.setTop (mkF m 113 #[.val (.long q0), .second, .val (.long q1), .second, .val (.long q2), .second, .val (.long q3), .second, .val (.int p4), .val (.long sz), .second, .val (.long ia), .second, .val (.long ib), .second, .val (.int md), .val (.long ia), .second, .val (.int sb), .val (.ref b_3), .val (.int (own_get 0 mc)), .unset, .unset] [])) _
    refine XS.aload X_9.here hx rfl (hb hby at_113) rfl rfl ?_
    show Steps p.tables e below (T_9.setTop (mkF m 115 #[.val (.long q0), .second, .val (.long q1), .second, .val (.long q2), .second, .val (.long q3), .second, .val (.int p4), .val (.long sz), .second, .val (.long ia), .second, .val (.long ib), .second, .val (.int md), .val (.long ia), .second, .val (.int sb), .val (.ref b_3), .val (.int (own_get 0 mc)), .unset, .unset] [(.ref b_3)])) _
    refine XS.lload X_9.here hx rfl (hb hby at_115) rfl ?_
    show Steps p.tables e below (T_9.setTop (mkF m 117 #[.val (.long q0), .second, .val (.long q1), .second, .val (.long q2), .second, .val (.long q3), .second, .val (.int p4), .val (.long sz), .second, .val (.long ia), .second, .val (.long ib), .second, .val (.int md), .val (.long ia), .second, .val (.int sb), .val (.ref b_3), .val (.int (own_get 0 mc)), .unset, .unset] [(.long ib), (.ref b_3)])) _
    refine st_11.trans ?_
    show Steps p.tables e below (T_11.setTop (mkF m 120 #[.val (.long q0), .second, .val (.long q1), .second, .val (.long q2), .second, .val (.long q3), .second, .val (.int p4), .val (.long sz), .second, .val (.long ia), .second, .val (.long ib), .second, .val (.int md), .val (.long ia), .second, .val (.int sb), .val (.ref b_3), .val (.int (own_get 0 mc)), .unset, .unset] [(.int (own_ch x2 mb))])) _
    refine XS.pop X_11.here hx rfl (hb hby at_120) rfl rfl ?_
    show Steps p.tables e below (T_11.setTop (mkF m 121 #[.val (.long q0), .second, .val (.long q1), .second, .val (.long q2), .second, .val (.long q3), .second, .val (.int p4), .val (.long sz), .second, .val (.long ia), .second, .val (.long ib), .second, .val (.int md), .val (.long ia), .second, .val (.int sb), .val (.ref b_3), .val (.int (own_get 0 mc)), .unset, .unset] [])) _
    refine XS.aload X_11.here hx rfl (hb hby at_121) rfl rfl ?_
    show Steps p.tables e below (T_11.setTop (mkF m 123 #[.val (.long q0), .second, .val (.long q1), .second, .val (.long q2), .second, .val (.long q3), .second, .val (.int p4), .val (.long sz), .second, .val (.long ia), .second, .val (.long ib), .second, .val (.int md), .val (.long ia), .second, .val (.int sb), .val (.ref b_3), .val (.int (own_get 0 mc)), .unset, .unset] [(.ref b_3)])) _
    refine XS.lload X_11.here hx rfl (hb hby at_123) rfl ?_
    show Steps p.tables e below (T_11.setTop (mkF m 125 #[.val (.long q0), .second, .val (.long q1), .second, .val (.long q2), .second, .val (.long q3), .second, .val (.int p4), .val (.long sz), .second, .val (.long ia), .second, .val (.long ib), .second, .val (.int md), .val (.long ia), .second, .val (.int sb), .val (.ref b_3), .val (.int (own_get 0 mc)), .unset, .unset] [(.long ia), (.ref b_3)])) _
    refine st_16.trans ?_
    show Steps p.tables e below (T_16.setTop (mkF m 128 #[.val (.long q0), .second, .val (.long q1), .second, .val (.long q2), .second, .val (.long q3), .second, .val (.int p4), .val (.long sz), .second, .val (.long ia), .second, .val (.long ib), .second, .val (.int md), .val (.long ia), .second, .val (.int sb), .val (.ref b_3), .val (.int (own_get 0 mc)), .unset, .unset] [(.int r1)])) _
    refine XS.istore X_16.here hx rfl (hb hby at_128) rfl (l' := #[.val (.long q0), .second, .val (.long q1), .second, .val (.long q2), .second, .val (.long q3), .second, .val (.int p4), .val (.long sz), .second, .val (.long ia), .second, .val (.long ib), .second, .val (.int md), .val (.long ia), .second, .val (.int sb), .val (.ref b_3), .val (.int (own_get 0 mc)), .val (.int r1), .unset]) rfl ?_
    have jn130 : ∀ target, Steps p.tables e below (T_16.setTop (mkF m 156 #[.val (.long q0), .second, .val (.long q1), .second, .val (.long q2), .second, .val (.long q3), .second, .val (.int p4), .val (.long sz), .second, .val (.long ia), .second, .val (.long ib), .second, .val (.int md), .val (.long ia), .second, .val (.int sb), .val (.ref b_3), .val (.int (own_get 0 mc)), .val (.int r1), .unset] [(.int ex)])) target → Steps p.tables e below (T_16.setTop (mkF m 130 #[.val (.long q0), .second, .val (.long q1), .second, .val (.long q2), .second, .val (.long q3), .second, .val (.int p4), .val (.long sz), .second, .val (.long ia), .second, .val (.long ib), .second, .val (.int md), .val (.long ia), .second, .val (.int sb), .val (.ref b_3), .val (.int (own_get 0 mc)), .val (.int r1), .unset] [])) target := by
      intro target kt
      show Steps p.tables e below (T_16.setTop (mkF m 130 #[.val (.long q0), .second, .val (.long q1), .second, .val (.long q2), .second, .val (.long q3), .second, .val (.int p4), .val (.long sz), .second, .val (.long ia), .second, .val (.long ib), .second, .val (.int md), .val (.long ia), .second, .val (.int sb), .val (.ref b_3), .val (.int (own_get 0 mc)), .val (.int r1), .unset] [])) _
      refine XS.lload X_16.here hx rfl (hb hby at_130) rfl ?_
      show Steps p.tables e below (T_16.setTop (mkF m 132 #[.val (.long q0), .second, .val (.long q1), .second, .val (.long q2), .second, .val (.long q3), .second, .val (.int p4), .val (.long sz), .second, .val (.long ia), .second, .val (.long ib), .second, .val (.int md), .val (.long ia), .second, .val (.int sb), .val (.ref b_3), .val (.int (own_get 0 mc)), .val (.int r1), .unset] [(.long ia)])) _
      refine XS.lload X_16.here hx rfl (hb hby at_132) rfl ?_
      show Steps p.tables e below (T_16.setTop (mkF m 134 #[.val (.long q0), .second, .val (.long q1), .second, .val (.long q2), .second, .val (.long q3), .second, .val (.int p4), .val (.long sz), .second, .val (.long ia), .second, .val (.long ib), .second, .val (.int md), .val (.long ia), .second, .val (.int sb), .val (.ref b_3), .val (.int (own_get 0 mc)), .val (.int r1), .unset] [(.long ia), (.long ia)])) _
      refine XS.lcmp X_16.here hx rfl (hb hby at_134) rfl ?_
      show Steps p.tables e below (T_16.setTop (mkF m 135 #[.val (.long q0), .second, .val (.long q1), .second, .val (.long q2), .second, .val (.long q3), .second, .val (.int p4), .val (.long sz), .second, .val (.long ia), .second, .val (.long ib), .second, .val (.int md), .val (.long ia), .second, .val (.int sb), .val (.ref b_3), .val (.int (own_get 0 mc)), .val (.int r1), .unset] [(.int (lcmpW ia ia))])) _
      by_cases hj135_0 : (lcmpW ia ia) = (0 : Int32)
      · refine XS.ifYes X_16.here hx rfl (pc0 := 135) (pc' := 151) rfl (hb hby at_135) rfl ((if0 _ _).trans (teq hj135_0).1) (by decide) (by decide) ?_
        show Steps p.tables e below (T_16.setTop (mkF m 151 #[.val (.long q0), .second, .val (.long q1), .second, .val (.long q2), .second, .val (.long q3), .second, .val (.int p4), .val (.long sz), .second, .val (.long ia), .second, .val (.long ib), .second, .val (.int md), .val (.long ia), .second, .val (.int sb), .val (.ref b_3), .val (.int (own_get 0 mc)), .val (.int r1), .unset] [])) _
        refine XS.iconst X_16.here hx rfl (hb hby at_151) ?_
        show Steps p.tables e below (T_16.setTop (mkF m 152 #[.val (.long q0), .second, .val (.long q1), .second, .val (.long q2), .second, .val (.long q3), .second, .val (.int p4), .val (.long sz), .second, .val (.long ia), .second, .val (.long ib), .second, .val (.int md), .val (.long ia), .second, .val (.int sb), .val (.ref b_3), .val (.int (own_get 0 mc)), .val (.int r1), .unset] [(.int (1 : Int32))])) _
        refine XS.goto X_16.here hx rfl (pc0 := 152) (pc' := 156) rfl (hb hby at_152) (by decide) (by decide) ?_
        rw [← hex_, if_pos hj135_0] at kt
        exact kt
      · refine XS.ifNo X_16.here hx rfl (hb hby at_135) rfl ((if0 _ _).trans (feq hj135_0).1) ?_
        show Steps p.tables e below (T_16.setTop (mkF m 138 #[.val (.long q0), .second, .val (.long q1), .second, .val (.long q2), .second, .val (.long q3), .second, .val (.int p4), .val (.long sz), .second, .val (.long ia), .second, .val (.long ib), .second, .val (.int md), .val (.long ia), .second, .val (.int sb), .val (.ref b_3), .val (.int (own_get 0 mc)), .val (.int r1), .unset] [])) _
        refine XS.iload X_16.here hx rfl (hb hby at_138) rfl ?_
        show Steps p.tables e below (T_16.setTop (mkF m 140 #[.val (.long q0), .second, .val (.long q1), .second, .val (.long q2), .second, .val (.long q3), .second, .val (.int p4), .val (.long sz), .second, .val (.long ia), .second, .val (.long ib), .second, .val (.int md), .val (.long ia), .second, .val (.int sb), .val (.ref b_3), .val (.int (own_get 0 mc)), .val (.int r1), .unset] [(.int sb)])) _
        by_cases hj140_1 : sb = (0 : Int32)
        · refine XS.ifYes X_16.here hx rfl (pc0 := 140) (pc' := 155) rfl (hb hby at_140) rfl ((if0 _ _).trans (teq hj140_1).1) (by decide) (by decide) ?_
          show Steps p.tables e below (T_16.setTop (mkF m 155 #[.val (.long q0), .second, .val (.long q1), .second, .val (.long q2), .second, .val (.long q3), .second, .val (.int p4), .val (.long sz), .second, .val (.long ia), .second, .val (.long ib), .second, .val (.int md), .val (.long ia), .second, .val (.int sb), .val (.ref b_3), .val (.int (own_get 0 mc)), .val (.int r1), .unset] [])) _
          refine XS.iconst X_16.here hx rfl (hb hby at_155) ?_
          rw [← hex_, if_neg hj135_0, if_pos hj140_1] at kt
          exact kt
        · refine XS.ifNo X_16.here hx rfl (hb hby at_140) rfl ((if0 _ _).trans (feq hj140_1).1) ?_
          show Steps p.tables e below (T_16.setTop (mkF m 143 #[.val (.long q0), .second, .val (.long q1), .second, .val (.long q2), .second, .val (.long q3), .second, .val (.int p4), .val (.long sz), .second, .val (.long ia), .second, .val (.long ib), .second, .val (.int md), .val (.long ia), .second, .val (.int sb), .val (.ref b_3), .val (.int (own_get 0 mc)), .val (.int r1), .unset] [])) _
          refine XS.lload X_16.here hx rfl (hb hby at_143) rfl ?_
          show Steps p.tables e below (T_16.setTop (mkF m 145 #[.val (.long q0), .second, .val (.long q1), .second, .val (.long q2), .second, .val (.long q3), .second, .val (.int p4), .val (.long sz), .second, .val (.long ia), .second, .val (.long ib), .second, .val (.int md), .val (.long ia), .second, .val (.int sb), .val (.ref b_3), .val (.int (own_get 0 mc)), .val (.int r1), .unset] [(.long ia)])) _
          refine XS.lload X_16.here hx rfl (hb hby at_145) rfl ?_
          show Steps p.tables e below (T_16.setTop (mkF m 147 #[.val (.long q0), .second, .val (.long q1), .second, .val (.long q2), .second, .val (.long q3), .second, .val (.int p4), .val (.long sz), .second, .val (.long ia), .second, .val (.long ib), .second, .val (.int md), .val (.long ia), .second, .val (.int sb), .val (.ref b_3), .val (.int (own_get 0 mc)), .val (.int r1), .unset] [(.long ib), (.long ia)])) _
          refine XS.lcmp X_16.here hx rfl (hb hby at_147) rfl ?_
          show Steps p.tables e below (T_16.setTop (mkF m 148 #[.val (.long q0), .second, .val (.long q1), .second, .val (.long q2), .second, .val (.long q3), .second, .val (.int p4), .val (.long sz), .second, .val (.long ia), .second, .val (.long ib), .second, .val (.int md), .val (.long ia), .second, .val (.int sb), .val (.ref b_3), .val (.int (own_get 0 mc)), .val (.int r1), .unset] [(.int (lcmpW ia ib))])) _
          by_cases hj148_2 : (lcmpW ia ib) = (0 : Int32)
          · refine XS.ifNo X_16.here hx rfl (hb hby at_148) rfl ((if0 _ _).trans (teq hj148_2).2) ?_
            show Steps p.tables e below (T_16.setTop (mkF m 151 #[.val (.long q0), .second, .val (.long q1), .second, .val (.long q2), .second, .val (.long q3), .second, .val (.int p4), .val (.long sz), .second, .val (.long ia), .second, .val (.long ib), .second, .val (.int md), .val (.long ia), .second, .val (.int sb), .val (.ref b_3), .val (.int (own_get 0 mc)), .val (.int r1), .unset] [])) _
            refine XS.iconst X_16.here hx rfl (hb hby at_151) ?_
            show Steps p.tables e below (T_16.setTop (mkF m 152 #[.val (.long q0), .second, .val (.long q1), .second, .val (.long q2), .second, .val (.long q3), .second, .val (.int p4), .val (.long sz), .second, .val (.long ia), .second, .val (.long ib), .second, .val (.int md), .val (.long ia), .second, .val (.int sb), .val (.ref b_3), .val (.int (own_get 0 mc)), .val (.int r1), .unset] [(.int (1 : Int32))])) _
            refine XS.goto X_16.here hx rfl (pc0 := 152) (pc' := 156) rfl (hb hby at_152) (by decide) (by decide) ?_
            rw [← hex_, if_neg hj135_0, if_neg hj140_1, if_pos hj148_2] at kt
            exact kt
          · refine XS.ifYes X_16.here hx rfl (pc0 := 148) (pc' := 155) rfl (hb hby at_148) rfl ((if0 _ _).trans (feq hj148_2).2) (by decide) (by decide) ?_
            show Steps p.tables e below (T_16.setTop (mkF m 155 #[.val (.long q0), .second, .val (.long q1), .second, .val (.long q2), .second, .val (.long q3), .second, .val (.int p4), .val (.long sz), .second, .val (.long ia), .second, .val (.long ib), .second, .val (.int md), .val (.long ia), .second, .val (.int sb), .val (.ref b_3), .val (.int (own_get 0 mc)), .val (.int r1), .unset] [])) _
            refine XS.iconst X_16.here hx rfl (hb hby at_155) ?_
            rw [← hex_, if_neg hj135_0, if_neg hj140_1, if_neg hj148_2] at kt
            exact kt
    refine jn130 _ ?_
    show Steps p.tables e below (T_16.setTop (mkF m 156 #[.val (.long q0), .second, .val (.long q1), .second, .val (.long q2), .second, .val (.long q3), .second, .val (.int p4), .val (.long sz), .second, .val (.long ia), .second, .val (.long ib), .second, .val (.int md), .val (.long ia), .second, .val (.int sb), .val (.ref b_3), .val (.int (own_get 0 mc)), .val (.int r1), .unset] [(.int ex)])) _
    refine XS.istore X_16.here hx rfl (hb hby at_156) rfl (l' := #[.val (.long q0), .second, .val (.long q1), .second, .val (.long q2), .second, .val (.long q3), .second, .val (.int p4), .val (.long sz), .second, .val (.long ia), .second, .val (.long ib), .second, .val (.int md), .val (.long ia), .second, .val (.int sb), .val (.ref b_3), .val (.int (own_get 0 mc)), .val (.int r1), .val (.int ex)]) rfl ?_
    show Steps p.tables e below (T_16.setTop (mkF m 158 #[.val (.long q0), .second, .val (.long q1), .second, .val (.long q2), .second, .val (.long q3), .second, .val (.int p4), .val (.long sz), .second, .val (.long ia), .second, .val (.long ib), .second, .val (.int md), .val (.long ia), .second, .val (.int sb), .val (.ref b_3), .val (.int (own_get 0 mc)), .val (.int r1), .val (.int ex)] [])) _
    refine XS.iload X_16.here hx rfl (hb hby at_158) rfl ?_
    show Steps p.tables e below (T_16.setTop (mkF m 160 #[.val (.long q0), .second, .val (.long q1), .second, .val (.long q2), .second, .val (.long q3), .second, .val (.int p4), .val (.long sz), .second, .val (.long ia), .second, .val (.long ib), .second, .val (.int md), .val (.long ia), .second, .val (.int sb), .val (.ref b_3), .val (.int (own_get 0 mc)), .val (.int r1), .val (.int ex)] [(.int (own_get 0 mc))])) _
    refine XS.ifNo X_16.here hx rfl (hb hby at_160) rfl ((if0 _ _).trans (teq hc160).2) ?_
    show Steps p.tables e below (T_16.setTop (mkF m 163 #[.val (.long q0), .second, .val (.long q1), .second, .val (.long q2), .second, .val (.long q3), .second, .val (.int p4), .val (.long sz), .second, .val (.long ia), .second, .val (.long ib), .second, .val (.int md), .val (.long ia), .second, .val (.int sb), .val (.ref b_3), .val (.int (own_get 0 mc)), .val (.int r1), .val (.int ex)] [])) _
    refine XS.iload X_16.here hx rfl (hb hby at_163) rfl ?_
    show Steps p.tables e below (T_16.setTop (mkF m 165 #[.val (.long q0), .second, .val (.long q1), .second, .val (.long q2), .second, .val (.long q3), .second, .val (.int p4), .val (.long sz), .second, .val (.long ia), .second, .val (.long ib), .second, .val (.int md), .val (.long ia), .second, .val (.int sb), .val (.ref b_3), .val (.int (own_get 0 mc)), .val (.int r1), .val (.int ex)] [(.int r1)])) _
    refine XS.iload X_16.here hx rfl (hb hby at_165) rfl ?_
    show Steps p.tables e below (T_16.setTop (mkF m 167 #[.val (.long q0), .second, .val (.long q1), .second, .val (.long q2), .second, .val (.long q3), .second, .val (.int p4), .val (.long sz), .second, .val (.long ia), .second, .val (.long ib), .second, .val (.int md), .val (.long ia), .second, .val (.int sb), .val (.ref b_3), .val (.int (own_get 0 mc)), .val (.int r1), .val (.int ex)] [(.int ex), (.int r1)])) _
    refine XS.icmpNo X_16.here hx rfl (hb hby at_167) rfl (teq hc167).2 ?_
    show Steps p.tables e below (T_16.setTop (mkF m 170 #[.val (.long q0), .second, .val (.long q1), .second, .val (.long q2), .second, .val (.long q3), .second, .val (.int p4), .val (.long sz), .second, .val (.long ia), .second, .val (.long ib), .second, .val (.int md), .val (.long ia), .second, .val (.int sb), .val (.ref b_3), .val (.int (own_get 0 mc)), .val (.int r1), .val (.int ex)] [])) _
    refine XS.iconst X_16.here hx rfl (hb hby at_170) ?_
    show Steps p.tables e below (T_16.setTop (mkF m 171 #[.val (.long q0), .second, .val (.long q1), .second, .val (.long q2), .second, .val (.long q3), .second, .val (.int p4), .val (.long sz), .second, .val (.long ia), .second, .val (.long ib), .second, .val (.int md), .val (.long ia), .second, .val (.int sb), .val (.ref b_3), .val (.int (own_get 0 mc)), .val (.int r1), .val (.int ex)] [(.int (1 : Int32))])) _
    refine XS.goto X_16.here hx rfl (pc0 := 171) (pc' := 175) rfl (hb hby at_171) (by decide) (by decide) ?_
    show Steps p.tables e below (T_16.setTop (mkF m 175 #[.val (.long q0), .second, .val (.long q1), .second, .val (.long q2), .second, .val (.long q3), .second, .val (.int p4), .val (.long sz), .second, .val (.long ia), .second, .val (.long ib), .second, .val (.int md), .val (.long ia), .second, .val (.int sb), .val (.ref b_3), .val (.int (own_get 0 mc)), .val (.int r1), .val (.int ex)] [(.int (1 : Int32))])) _
    exact retN X_16 hx (t := .boolean) Bd.returns (by simp) (hb hby at_175) hr
  · show Q0 Z  h0 n0 _ T_16.heap _
    rw [eq_16]
    exact ⟨rfl, N_16⟩
set_option maxRecDepth 65536 in
set_option maxHeartbeats 40000000 in
theorem rm0_10 (l : Launch) (Z : State) (a0 : Array Value) (hw : ∀ d ∈ tables_1, d.before a0 Z = true) (ws : List Jvm.Cond) (q0 : Int64) (q1 : Int64) (q2 : Int64) (q3 : Int64) (p4 : Int32) (sz : Int64) (ia : Int64) (ib : Int64) (ic : Int64) (wd : Int64) (nw : Int32) (ja : Int32) (jb : Int32) (jc : Int32) (ma : Int64) (mb : Int64) (mc : Int64) (x1 : Int64) (x2 : Int64) (xc : Int64) (r1 : Int32) (md : Int32) (sb : Int32) (ex : Int32) (h0 : Heap) (n0 : Nat) (Z0 : n0 ≤ h0.size) (hsz_ : sz ≠ (0 : Int64)) (hia_ : (q1 &&& (9223372036854775807 : Int64)) % sz = ia) (hib_ : (q2 &&& (9223372036854775807 : Int64)) % sz = ib) (hb7 : ¬ (lcmpW sz (1 : Int64) < (0 : Int32))) (hb15 : ¬ ((0 : Int32) < lcmpW sz (137438952896 : Int64))) (hwd_ : ((sz + (64 : Int64)) - (1 : Int64)) / (64 : Int64) = wd) (hnw_ : wd.toInt32 = nw) (hn0_ : ¬ nw < 0) (hn1_ : nw.toNatClampNeg ≤ 16) (hja_ : (((ia.toUInt64 >>> ((6 : Int32) &&& 0x3f).toInt64.toUInt64).toInt64).toInt32) = ja) (hja0 : ¬ ja < 0) (hja1 : ja < nw) (hma_ : ((1 : Int64) <<< ((ia.toInt32) &&& 0x3f).toInt64) = ma) (hjb_ : (((ib.toUInt64 >>> ((6 : Int32) &&& 0x3f).toInt64.toUInt64).toInt64).toInt32) = jb) (hjb0 : ¬ jb < 0) (hjb1 : jb < nw) (hmb_ : ((1 : Int64) <<< ((ib.toInt32) &&& 0x3f).toInt64) = mb) (hjc_ : (((ib.toUInt64 >>> ((6 : Int32) &&& 0x3f).toInt64.toUInt64).toInt64).toInt32) = jc) (hjc0 : ¬ jc < 0) (hjc1 : jc < nw) (hmc_ : ((1 : Int64) <<< ((ib.toInt32) &&& 0x3f).toInt64) = mc) (hx2_ : (fun j => if j = ja.toNatClampNeg then Value.long ((0 : Int64) ||| ma) else (fun _ => (Value.long (0 : Int64))) j) jb.toNatClampNeg = .long x2) (hxc_ : (fun j => if j = ja.toNatClampNeg then Value.long ((0 : Int64) ||| ma) else (fun _ => (Value.long (0 : Int64))) j) jc.toNatClampNeg = .long xc) (hor1_ : ¬ lcmpW ((0 : Int64) &&& ma) 0 = 0 → (0 : Int64) ||| ma = (0 : Int64)) (hor2_ : ¬ lcmpW (x2 &&& mb) 0 = 0 → x2 ||| mb = x2) (hr1_ : own_get xc mc = r1) (hs_ : ((1 : Int64) + (q0 &&& (1023 : Int64))) = sz) (hmd_ : (p4 &&& (3 : Int32)) = md) (hc34 : ¬ (md = (0 : Int32))) (hc47 : md = (1 : Int32)) (hsb_ : (if (p4 &&& (4 : Int32)) = (0 : Int32) then (0 : Int32) else (1 : Int32)) = sb) (hc110 : sb = (0 : Int32)) (hex_ : (if (lcmpW ib ia) = (0 : Int32) then (1 : Int32) else (if sb = (0 : Int32) then (0 : Int32) else (if (lcmpW ib ib) = (0 : Int32) then (1 : Int32) else (0 : Int32)))) = ex) (hc160 : (own_get 0 mc) = (0 : Int32)) (hc167 : r1 = ex) :
    MetFree l x (head1 (Jvm.Cond.code x code maxLocals ret :: ws) room_1) (fun as_ U => as_ = #[(.long q0), (.long q1), (.long q2), (.long q3), (.int p4)] ∧ Z.Warmed39 U.vm ∧ U.heap = h0) (fun _ _ _ _ _ => True) (fun _ U o U' => ∃ v L, o = .returned v ∧ Q0 Z  h0 n0 v U'.heap L ∧ FrameEnd U o U' L 2 18) := by
  refine MetFree.of_bodySF (plainFor_of_name pn_0) hisR ?_
  intro p e s m args below meth c s₁ Bd hml0 hP hK
  obtain ⟨rfl, hZ, hh⟩ := hP
  have hx := Bd.exec
  have hby := Bd.bytes
  have hml : c.maxLocals = 23 := hml0
  have hown : s.vm.findClass "com/example/mussel/mussel/engine/BitArrayGetPinLaw" = some m.cls := findClass_of_methodNamed Bd.named
  have hnm := (name_of_methodNamed Bd.named Bd.method).1
  have X0 : Stand p l e room_1 s m #[(.long q0), (.long q1), (.long q2), (.long q3), (.int p4)] below meth c s₁ [] 0 0 := Stand.of_body Bd
  have e0 : s₁.heap = h0 := by rw [← hh, Bd.state]; rfl
  have N0 := Fr.nil n0
  have pre0 : ∀ t, Steps p.tables e below (s₁.setTop (mkF m 0 #[.val (.long q0), .second, .val (.long q1), .second, .val (.long q2), .second, .val (.long q3), .second, .val (.int p4), .unset, .unset, .unset, .unset, .unset, .unset, .unset, .unset, .unset, .unset, .unset, .unset, .unset, .unset] [])) t → Steps p.tables e below (s₁.setTop (entryFrame m #[(.long q0), (.long q1), (.long q2), (.long q3), (.int p4)] maxLocals)) t := fun t k => castTop (ef_0 m q0 q1 q2 q3 p4) k
  obtain ⟨_, _, ⟨T_1, L_1, k_1, n_1⟩, -, X_1, ⟨Lc_1, hQ_1, l_1, y_1, z_1⟩, st_1⟩ := Jvm.LawKit.callS X0 hx (y := (⟨"com/example/mussel/mussel/engine/BitArrayGetPinLaw", "pick", "(JJ)J"⟩ : MethodName)) hown (mvT hZ (hw _ (List.mem_of_getElem? (i := 1) rfl))) (mvT hZ (hw _ (List.mem_of_getElem? (i := 2) rfl))) (mvT hZ (hw _ (List.mem_of_getElem? (i := 3) rfl))) (mvT hZ (hw _ (List.mem_of_getElem? (i := 4) rfl))) (by decide) (backOf (W := 0) (rm1 l Z a0 hw [] q1 sz ia h0 n0 Z0 hsz_ hia_) hZ (hw _ (List.mem_of_getElem? (i := 4) rfl)) (hw _ (List.mem_of_getElem? (i := 3) rfl)) (by decide) (by decide)) (g := (mkF m 12 #[.val (.long q0), .second, .val (.long q1), .second, .val (.long q2), .second, .val (.long q3), .second, .val (.int p4), .val (.long sz), .second, .unset, .unset, .unset, .unset, .unset, .unset, .unset, .unset, .unset, .unset, .unset, .unset] [(.long sz), (.long q1)])) rfl (by rw [hml]; rfl) (argsL := [(.long q1), (.long sz)]) (rest := []) (lenOf pd_1 rfl) rfl (by show 2 * 0 + _ ≤ _; exact Nat.le_of_eq rfl) (hb hby at_12) (fun _ _ => ⟨rfl, e0, (by decide : 0 + 0 ≤ _), (by decide : 0 + 0 ≤ _)⟩)
  dsimp only [Pt.U, Pt.locs, Pt.cells, Pt.slots] at X_1 l_1 y_1 z_1 st_1 hQ_1
  subst l_1 y_1 z_1
  obtain ⟨rfl, Nq_1, eq_1⟩ := hQ_1
  have N_1 := Fr.app N0 Nq_1
  obtain ⟨_, _, ⟨T_2, L_2, k_2, n_2⟩, -, X_2, ⟨Lc_2, hQ_2, l_2, y_2, z_2⟩, st_2⟩ := Jvm.LawKit.callS X_1 hx (y := (⟨"com/example/mussel/mussel/engine/BitArrayGetPinLaw", "pick", "(JJ)J"⟩ : MethodName)) hown (mvT hZ (hw _ (List.mem_of_getElem? (i := 1) rfl))) (mvT hZ (hw _ (List.mem_of_getElem? (i := 2) rfl))) (mvT hZ (hw _ (List.mem_of_getElem? (i := 3) rfl))) (mvT hZ (hw _ (List.mem_of_getElem? (i := 4) rfl))) (by decide) (backOf (W := 0) (rm1 l Z a0 hw [] q2 sz ib h0 n0 Z0 hsz_ hib_) hZ (hw _ (List.mem_of_getElem? (i := 4) rfl)) (hw _ (List.mem_of_getElem? (i := 3) rfl)) (by decide) (by decide)) (g := (mkF m 21 #[.val (.long q0), .second, .val (.long q1), .second, .val (.long q2), .second, .val (.long q3), .second, .val (.int p4), .val (.long sz), .second, .val (.long ia), .second, .unset, .unset, .unset, .unset, .unset, .unset, .unset, .unset, .unset, .unset] [(.long sz), (.long q2)])) rfl (by rw [hml]; rfl) (argsL := [(.long q2), (.long sz)]) (rest := []) (lenOf pd_1 rfl) rfl (by show 2 * 0 + _ ≤ _; exact Nat.le_of_eq rfl) (hb hby at_21) (fun _ _ => ⟨rfl, eq_1, (by decide : 0 + 0 ≤ _), (by decide : 0 + 0 ≤ _)⟩)
  dsimp only [Pt.U, Pt.locs, Pt.cells, Pt.slots] at X_2 l_2 y_2 z_2 st_2 hQ_2
  subst l_2 y_2 z_2
  obtain ⟨rfl, Nq_2, eq_2⟩ := hQ_2
  have N_2 := Fr.app N_1 Nq_2
  obtain ⟨T_3, h_3, X_3, e_3, E_3, A_3, D_3, -, st_3⟩ := newO X_2 hx hZ hown (hw _ (List.mem_of_getElem? (i := 6) rfl)) (hw _ (List.mem_of_getElem? (i := 7) rfl)) (hw _ (List.mem_of_getElem? (i := 8) rfl)) eq_2 (g := (mkF m 80 #[.val (.long q0), .second, .val (.long q1), .second, .val (.long q2), .second, .val (.long q3), .second, .val (.int p4), .val (.long sz), .second, .val (.long ia), .second, .val (.long ib), .second, .val (.int md), .val (.long ib), .second, .val (.int sb), .unset, .unset, .unset, .unset] [])) rfl (hb hby at_80) (by decide) (by decide)
  obtain ⟨b_3, g_3⟩ : ∃ z, z = h0.size := ⟨_, rfl⟩
  rw [← g_3] at A_3 D_3 st_3
  have g_b_3 : n0 ≤ b_3 := Nat.le_trans Z0 (Nat.le_of_eq g_3.symm)
  have sz_b_3 : h0.size ≤ b_3 := Nat.le_trans (Keep.refl h0 []).1 (Nat.le_of_eq g_3.symm)
  have K_3 : Keep h0 h_3 [] := (Keep.refl h0 []).ext E_3
  have Z_4 : n0 ≤ h_3.size := Nat.le_trans Z0 E_3.1
  have F_words_b_3 : Fld Z h_3 b_3 "com/example/mussel/mussel/engine/BitArray" "words" "[J" .null := D_3 (Or.inr (hw _ (List.mem_of_getElem? (i := 22) rfl))) (ty := (.array .long)) (by decide)
  have F_capture_b_3 : Fld Z h_3 b_3 "com/example/mussel/mussel/engine/BitArray" "capture" "Lcom/example/mussel/mussel/engine/BitArray$Capture;" .null := D_3 (Or.inl (hw _ (List.mem_of_getElem? (i := 34) rfl))) (ty := (.object "com/example/mussel/mussel/engine/BitArray$Capture")) (by decide)
  obtain ⟨c_5, g_5⟩ : ∃ z, z = h_3.size := ⟨_, rfl⟩
  have ne_b_3_c_5 : b_3 ≠ c_5 := Nat.ne_of_lt (Nat.lt_of_lt_of_le A_3.lt (Nat.le_of_eq g_5.symm))
  have g_c_5 : n0 ≤ c_5 := Nat.le_trans Z_4 (Nat.le_of_eq g_5.symm)
  have sz_c_5 : h0.size ≤ c_5 := Nat.le_trans K_3.1 (Nat.le_of_eq g_5.symm)
  obtain ⟨_, _, ⟨T_5, L_5, k_5, n_5⟩, -, X_5, ⟨Lc_5, hQ_5, l_5, y_5, z_5⟩, st_5⟩ := X_3.specialBack hx (y := (⟨"com/example/mussel/mussel/engine/BitArray", "<init>", "(J)V"⟩ : MethodName)) rfl hown (mvT hZ (hw _ (List.mem_of_getElem? (i := 9) rfl))) (mvT hZ (hw _ (List.mem_of_getElem? (i := 10) rfl))) (mvT hZ (hw _ (List.mem_of_getElem? (i := 11) rfl))) (by decide) (backOf (W := 1) (rm2 l Z a0 hw [] b_3 sz c_5 wd nw h_3 n0 Z_4 g_5 hwd_ hn0_ hn1_ A_3 F_words_b_3 F_capture_b_3 g_b_3 hb7 hb15 hnw_) hZ (hw _ (List.mem_of_getElem? (i := 11) rfl)) (hw _ (List.mem_of_getElem? (i := 8) rfl)) (by decide) (by decide)) (g := (mkF m 86 #[.val (.long q0), .second, .val (.long q1), .second, .val (.long q2), .second, .val (.long q3), .second, .val (.int p4), .val (.long sz), .second, .val (.long ia), .second, .val (.long ib), .second, .val (.int md), .val (.long ib), .second, .val (.int sb), .unset, .unset, .unset, .unset] [(.long sz), (.ref b_3), (.ref b_3)])) rfl (by rw [hml]; rfl) (Steps.refl _) (a := b_3) (argsL := [(.long sz)]) (rest := [(.ref b_3)]) (lenOf pd_2 rfl) rfl (by show 2 * 0 + _ ≤ _; exact Nat.le_of_eq rfl) (hb hby at_86) (fun _ _ => ⟨rfl, e_3, (by decide : 1 + 1 ≤ _), (by decide : 2 + 16 ≤ _)⟩)
  dsimp only [Pt.U, Pt.locs, Pt.cells, Pt.slots] at X_5 l_5 y_5 z_5 st_5 hQ_5
  subst l_5 y_5 z_5
  obtain ⟨rfl, Nq_5, Kq_5, Fw_5, Fc_5, Vq_5⟩ := hQ_5
  have N_5 := Fr.app N_2 Nq_5
  have KK_5 : Keep h0 T_5.heap [] := K_3.trans Kq_5 (allS (Or.inr sz_b_3) all0)
  have Z_6 : n0 ≤ T_5.heap.size := Nat.le_trans Z_4 Kq_5.1
  have f_8_E_b_3 := (A_3.keep Kq_5)
  obtain ⟨cq_7, kq_7, q_7a, q_7b, q_7c⟩ := isOf hZ rfl f_8_E_b_3
  obtain ⟨_, _, ⟨T_7, L_7, k_7, n_7⟩, -, X_7, ⟨Lc_7, hQ_7, l_7, y_7, z_7⟩, st_7⟩ := X_5.virtualBack hx (y := (⟨"com/example/mussel/mussel/engine/BitArray", "get", "(J)Z"⟩ : MethodName)) (z := (⟨"com/example/mussel/mussel/engine/BitArray", "get", "(J)Z"⟩ : MethodName)) hown (mvT hZ (hw _ (List.mem_of_getElem? (i := 23) rfl))) (mvT hZ (hw _ (List.mem_of_getElem? (i := 24) rfl))) (notFace_of_selects (args := #[]) (mvT hZ (hw _ (List.mem_of_getElem? (i := 26) rfl)))) (mvT hZ (hw _ (List.mem_of_getElem? (i := 26) rfl))) (mvT hZ (hw _ (List.mem_of_getElem? (i := 25) rfl))) (by decide) (backOf (W := 0) (rm5 l Z a0 hw [] b_3 ib c_5 nw (fun _ => (Value.long (0 : Int64))) jc (0 : Int64) mc (own_get 0 mc) T_5.heap n0 Z_6 Fw_5 Vq_5 hjc0 hjc1 rfl (own_get_nar _ _) hjc_ hmc_ rfl) hZ (hw _ (List.mem_of_getElem? (i := 27) rfl)) (hw _ (List.mem_of_getElem? (i := 8) rfl)) (by decide) (by decide)) q_7a q_7c (g := (mkF m 95 #[.val (.long q0), .second, .val (.long q1), .second, .val (.long q2), .second, .val (.long q3), .second, .val (.int p4), .val (.long sz), .second, .val (.long ia), .second, .val (.long ib), .second, .val (.int md), .val (.long ib), .second, .val (.int sb), .val (.ref b_3), .unset, .unset, .unset] [(.long ib), (.ref b_3)])) rfl (by rw [hml]; rfl) (Steps.refl _) (argsL := [(.long ib)]) (rest := []) (lenOf pd_3 rfl) rfl (by show 2 * 0 + _ ≤ _; exact Nat.le_of_eq rfl) (hb hby at_95) (fun _ _ => ⟨rfl, rfl, (by decide : 2 + 0 ≤ _), (by decide : 18 + 0 ≤ _)⟩)
  dsimp only [Pt.U, Pt.locs, Pt.cells, Pt.slots] at X_7 l_7 y_7 z_7 st_7 hQ_7
  subst l_7 y_7 z_7
  obtain ⟨rfl, Nq_7, eq_7⟩ := hQ_7
  have N_7 := Fr.app N_5 Nq_7
  obtain ⟨cq_9, kq_9, q_9a, q_9b, q_9c⟩ := isOf hZ eq_7 f_8_E_b_3
  obtain ⟨_, _, ⟨T_9, L_9, k_9, n_9⟩, -, X_9, ⟨Lc_9, hQ_9, l_9, y_9, z_9⟩, st_9⟩ := X_7.virtualBack hx (y := (⟨"com/example/mussel/mussel/engine/BitArray", "set", "(J)Z"⟩ : MethodName)) (z := (⟨"com/example/mussel/mussel/engine/BitArray", "set", "(J)Z"⟩ : MethodName)) hown (mvT hZ (hw _ (List.mem_of_getElem? (i := 28) rfl))) (mvT hZ (hw _ (List.mem_of_getElem? (i := 29) rfl))) (notFace_of_selects (args := #[]) (mvT hZ (hw _ (List.mem_of_getElem? (i := 31) rfl)))) (mvT hZ (hw _ (List.mem_of_getElem? (i := 31) rfl))) (mvT hZ (hw _ (List.mem_of_getElem? (i := 30) rfl))) (by decide) (backOf (W := 0) (rm6 l Z a0 hw [] b_3 ia c_5 nw (fun _ => (Value.long (0 : Int64))) ja (0 : Int64) ma T_5.heap n0 Z_6 Fw_5 Vq_5 Fc_5 hja0 hja1 rfl g_c_5 ne_b_3_c_5 hja_ hma_ hor1_) hZ (hw _ (List.mem_of_getElem? (i := 32) rfl)) (hw _ (List.mem_of_getElem? (i := 8) rfl)) (by decide) (by decide)) q_9a q_9c (g := (mkF m 104 #[.val (.long q0), .second, .val (.long q1), .second, .val (.long q2), .second, .val (.long q3), .second, .val (.int p4), .val (.long sz), .second, .val (.long ia), .second, .val (.long ib), .second, .val (.int md), .val (.long ib), .second, .val (.int sb), .val (.ref b_3), .val (.int (own_get 0 mc)), .unset, .unset] [(.long ia), (.ref b_3)])) rfl (by rw [hml]; rfl) (Steps.refl _) (argsL := [(.long ia)]) (rest := []) (lenOf pd_3 rfl) rfl (by show 2 * 0 + _ ≤ _; exact Nat.le_of_eq rfl) (hb hby at_104) (fun _ _ => ⟨rfl, eq_7, (by decide : 2 + 0 ≤ _), (by decide : 18 + 0 ≤ _)⟩)
  dsimp only [Pt.U, Pt.locs, Pt.cells, Pt.slots] at X_9 l_9 y_9 z_9 st_9 hQ_9
  subst l_9 y_9 z_9
  obtain ⟨rfl, Nq_9, Kq_9, Vq_9⟩ := hQ_9
  have N_9 := Fr.app N_7 Nq_9
  have KK_9 : Keep h0 T_9.heap [] := KK_5.trans Kq_9 (allS (Or.inr sz_c_5) all0)
  have Z_10 : n0 ≤ T_9.heap.size := Nat.le_trans Z_6 Kq_9.1
  have f_12_F_b_3_words := (Fw_5.keep Kq_9 (ninS ne_b_3_c_5 nin0))
  have f_13_E_b_3 := (f_8_E_b_3.keep Kq_9)
  obtain ⟨cq_11, kq_11, q_11a, q_11b, q_11c⟩ := isOf hZ rfl f_13_E_b_3
  obtain ⟨_, _, ⟨T_11, L_11, k_11, n_11⟩, -, X_11, ⟨Lc_11, hQ_11, l_11, y_11, z_11⟩, st_11⟩ := X_9.virtualBack hx (y := (⟨"com/example/mussel/mussel/engine/BitArray", "get", "(J)Z"⟩ : MethodName)) (z := (⟨"com/example/mussel/mussel/engine/BitArray", "get", "(J)Z"⟩ : MethodName)) hown (mvT hZ (hw _ (List.mem_of_getElem? (i := 23) rfl))) (mvT hZ (hw _ (List.mem_of_getElem? (i := 24) rfl))) (notFace_of_selects (args := #[]) (mvT hZ (hw _ (List.mem_of_getElem? (i := 26) rfl)))) (mvT hZ (hw _ (List.mem_of_getElem? (i := 26) rfl))) (mvT hZ (hw _ (List.mem_of_getElem? (i := 25) rfl))) (by decide) (backOf (W := 0) (rm5 l Z a0 hw [] b_3 ib c_5 nw (fun j => if j = ja.toNatClampNeg then Value.long ((0 : Int64) ||| ma) else (fun _ => (Value.long (0 : Int64))) j) jc xc mc r1 T_9.heap n0 Z_10 f_12_F_b_3_words Vq_9 hjc0 hjc1 hxc_ (hr1_ ▸ own_get_nar _ _) hjc_ hmc_ hr1_) hZ (hw _ (List.mem_of_getElem? (i := 27) rfl)) (hw _ (List.mem_of_getElem? (i := 8) rfl)) (by decide) (by decide)) q_11a q_11c (g := (mkF m 125 #[.val (.long q0), .second, .val (.long q1), .second, .val (.long q2), .second, .val (.long q3), .second, .val (.int p4), .val (.long sz), .second, .val (.long ia), .second, .val (.long ib), .second, .val (.int md), .val (.long ib), .second, .val (.int sb), .val (.ref b_3), .val (.int (own_get 0 mc)), .unset, .unset] [(.long ib), (.ref b_3)])) rfl (by rw [hml]; rfl) (Steps.refl _) (argsL := [(.long ib)]) (rest := []) (lenOf pd_3 rfl) rfl (by show 2 * 0 + _ ≤ _; exact Nat.le_of_eq rfl) (hb hby at_125) (fun _ _ => ⟨rfl, rfl, (by decide : 2 + 0 ≤ _), (by decide : 18 + 0 ≤ _)⟩)
  dsimp only [Pt.U, Pt.locs, Pt.cells, Pt.slots] at X_11 l_11 y_11 z_11 st_11 hQ_11
  subst l_11 y_11 z_11
  obtain ⟨rfl, Nq_11, eq_11⟩ := hQ_11
  have N_11 := Fr.app N_9 Nq_11
  obtain ⟨fs, hr, hrun, hended, hW, hsame⟩ := X_11.leave (v := some (.int (1 : Int32))) (fun h => by rw [Bd.returns] at h; cases h)
  refine ⟨_, _, pre0 _ ?_, hrun, hended, _, _, rfl, ?_, ⟨_, rfl⟩, hW, hsame.mono (by decide) (by decide)⟩
  · show Steps p.tables e below (s₁.setTop (mkF m 0 #[.val (.long q0), .second, .val (.long q1), .second, .val (.long q2), .second, .val (.long q3), .second, .val (.int p4), .unset, .unset, .unset, .unset, .unset, .unset, .unset, .unset, .unset, .unset, .unset, .unset, .unset, .unset] [])) _
    refine XS.lconst X0.here hx rfl (hb hby at_0) ?_
    show Steps p.tables e below (s₁.setTop (mkF m 1 #[.val (.long q0), .second, .val (.long q1), .second, .val (.long q2), .second, .val (.long q3), .second, .val (.int p4), .unset, .unset, .unset, .unset, .unset, .unset, .unset, .unset, .unset, .unset, .unset, .unset, .unset, .unset] [(.long (1 : Int64))])) _
    refine XS.lloadN X0.here hx rfl (hb hby at_1) rfl ?_
    show Steps p.tables e below (s₁.setTop (mkF m 2 #[.val (.long q0), .second, .val (.long q1), .second, .val (.long q2), .second, .val (.long q3), .second, .val (.int p4), .unset, .unset, .unset, .unset, .unset, .unset, .unset, .unset, .unset, .unset, .unset, .unset, .unset, .unset] [(.long q0), (.long (1 : Int64))])) _
    refine X0.ldc2Long hx hown (mvT hZ (hw _ (List.mem_of_getElem? (i := 0) rfl))) (g := (mkF m 2 #[.val (.long q0), .second, .val (.long q1), .second, .val (.long q2), .second, .val (.long q3), .second, .val (.int p4), .unset, .unset, .unset, .unset, .unset, .unset, .unset, .unset, .unset, .unset, .unset, .unset, .unset, .unset] [(.long q0), (.long (1 : Int64))])) rfl (hb hby at_2) _ ?_
    show Steps p.tables e below (s₁.setTop (mkF m 5 #[.val (.long q0), .second, .val (.long q1), .second, .val (.long q2), .second, .val (.long q3), .second, .val (.int p4), .unset, .unset, .unset, .unset, .unset, .unset, .unset, .unset, .unset, .unset, .unset, .unset, .unset, .unset] [(.long (1023 : Int64)), (.long q0), (.long (1 : Int64))])) _
    refine XS.land X0.here hx rfl (hb hby at_5) rfl ?_
    show Steps p.tables e below (s₁.setTop (mkF m 6 #[.val (.long q0), .second, .val (.long q1), .second, .val (.long q2), .second, .val (.long q3), .second, .val (.int p4), .unset, .unset, .unset, .unset, .unset, .unset, .unset, .unset, .unset, .unset, .unset, .unset, .unset, .unset] [(.long (q0 &&& (1023 : Int64))), (.long (1 : Int64))])) _
    refine XS.ladd X0.here hx rfl (hb hby at_6) rfl ?_
    show Steps p.tables e below (s₁.setTop (mkF m 7 #[.val (.long q0), .second, .val (.long q1), .second, .val (.long q2), .second, .val (.long q3), .second, .val (.int p4), .unset, .unset, .unset, .unset, .unset, .unset, .unset, .unset, .unset, .unset, .unset, .unset, .unset, .unset] [(.long ((1 : Int64) + (q0 &&& (1023 : Int64))))])) _
    rw [hs_]
    show Steps p.tables e below (s₁.setTop (mkF m 7 #[.val (.long q0), .second, .val (.long q1), .second, .val (.long q2), .second, .val (.long q3), .second, .val (.int p4), .unset, .unset, .unset, .unset, .unset, .unset, .unset, .unset, .unset, .unset, .unset, .unset, .unset, .unset] [(.long sz)])) _
    refine XS.lstore X0.here hx rfl (hb hby at_7) rfl (l' := #[.val (.long q0), .second, .val (.long q1), .second, .val (.long q2), .second, .val (.long q3), .second, .val (.int p4), .val (.long sz), .second, .unset, .unset, .unset, .unset, .unset, .unset, .unset, .unset, .unset, .unset, .unset, .unset]) rfl ?_
    show Steps p.tables e below (s₁.setTop (mkF m 9 #[.val (.long q0), .second, .val (.long q1), .second, .val (.long q2), .second, .val (.long q3), .second, .val (.int p4), .val (.long sz), .second, .unset, .unset, .unset, .unset, .unset, .unset, .unset, .unset, .unset, .unset, .unset, .unset] [])) _
    refine XS.lloadN X0.here hx rfl (hb hby at_9) rfl ?_
    show Steps p.tables e below (s₁.setTop (mkF m 10 #[.val (.long q0), .second, .val (.long q1), .second, .val (.long q2), .second, .val (.long q3), .second, .val (.int p4), .val (.long sz), .second, .unset, .unset, .unset, .unset, .unset, .unset, .unset, .unset, .unset, .unset, .unset, .unset] [(.long q1)])) _
    refine XS.lload X0.here hx rfl (hb hby at_10) rfl ?_
    show Steps p.tables e below (s₁.setTop (mkF m 12 #[.val (.long q0), .second, .val (.long q1), .second, .val (.long q2), .second, .val (.long q3), .second, .val (.int p4), .val (.long sz), .second, .unset, .unset, .unset, .unset, .unset, .unset, .unset, .unset, .unset, .unset, .unset, .unset] [(.long sz), (.long q1)])) _
    refine st_1 _ ?_
    show Steps p.tables e below (T_1.setTop (mkF m 15 #[.val (.long q0), .second, .val (.long q1), .second, .val (.long q2), .second, .val (.long q3), .second, .val (.int p4), .val (.long sz), .second, .unset, .unset, .unset, .unset, .unset, .unset, .unset, .unset, .unset, .unset, .unset, .unset] [(.long ia)])) _
    refine XS.lstore X_1.here hx rfl (hb hby at_15) rfl (l' := #[.val (.long q0), .second, .val (.long q1), .second, .val (.long q2), .second, .val (.long q3), .second, .val (.int p4), .val (.long sz), .second, .val (.long ia), .second, .unset, .unset, .unset, .unset, .unset, .unset, .unset, .unset, .unset, .unset]) rfl ?_
    show Steps p.tables e below (T_1.setTop (mkF m 17 #[.val (.long q0), .second, .val (.long q1), .second, .val (.long q2), .second, .val (.long q3), .second, .val (.int p4), .val (.long sz), .second, .val (.long ia), .second, .unset, .unset, .unset, .unset, .unset, .unset, .unset, .unset, .unset, .unset] [])) _
    refine XS.lload X_1.here hx rfl (hb hby at_17) rfl ?_
    show Steps p.tables e below (T_1.setTop (mkF m 19 #[.val (.long q0), .second, .val (.long q1), .second, .val (.long q2), .second, .val (.long q3), .second, .val (.int p4), .val (.long sz), .second, .val (.long ia), .second, .unset, .unset, .unset, .unset, .unset, .unset, .unset, .unset, .unset, .unset] [(.long q2)])) _
    refine XS.lload X_1.here hx rfl (hb hby at_19) rfl ?_
    show Steps p.tables e below (T_1.setTop (mkF m 21 #[.val (.long q0), .second, .val (.long q1), .second, .val (.long q2), .second, .val (.long q3), .second, .val (.int p4), .val (.long sz), .second, .val (.long ia), .second, .unset, .unset, .unset, .unset, .unset, .unset, .unset, .unset, .unset, .unset] [(.long sz), (.long q2)])) _
    refine st_2 _ ?_
    show Steps p.tables e below (T_2.setTop (mkF m 24 #[.val (.long q0), .second, .val (.long q1), .second, .val (.long q2), .second, .val (.long q3), .second, .val (.int p4), .val (.long sz), .second, .val (.long ia), .second, .unset, .unset, .unset, .unset, .unset, .unset, .unset, .unset, .unset, .unset] [(.long ib)])) _
    refine XS.lstore X_2.here hx rfl (hb hby at_24) rfl (l' := #[.val (.long q0), .second, .val (.long q1), .second, .val (.long q2), .second, .val (.long q3), .second, .val (.int p4), .val (.long sz), .second, .val (.long ia), .second, .val (.long ib), .second, .unset, .unset, .unset, .unset, .unset, .unset, .unset, .unset]) rfl ?_
    show Steps p.tables e below (T_2.setTop (mkF m 26 #[.val (.long q0), .second, .val (.long q1), .second, .val (.long q2), .second, .val (.long q3), .second, .val (.int p4), .val (.long sz), .second, .val (.long ia), .second, .val (.long ib), .second, .unset, .unset, .unset, .unset, .unset, .unset, .unset, .unset] [])) _
    refine XS.iload X_2.here hx rfl (hb hby at_26) rfl ?_
    show Steps p.tables e below (T_2.setTop (mkF m 28 #[.val (.long q0), .second, .val (.long q1), .second, .val (.long q2), .second, .val (.long q3), .second, .val (.int p4), .val (.long sz), .second, .val (.long ia), .second, .val (.long ib), .second, .unset, .unset, .unset, .unset, .unset, .unset, .unset, .unset] [(.int p4)])) _
    refine XS.iconst X_2.here hx rfl (hb hby at_28) ?_
    show Steps p.tables e below (T_2.setTop (mkF m 29 #[.val (.long q0), .second, .val (.long q1), .second, .val (.long q2), .second, .val (.long q3), .second, .val (.int p4), .val (.long sz), .second, .val (.long ia), .second, .val (.long ib), .second, .unset, .unset, .unset, .unset, .unset, .unset, .unset, .unset] [(.int (3 : Int32)), (.int p4)])) _
    refine XS.iand X_2.here hx rfl (hb hby at_29) rfl ?_
    show Steps p.tables e below (T_2.setTop (mkF m 30 #[.val (.long q0), .second, .val (.long q1), .second, .val (.long q2), .second, .val (.long q3), .second, .val (.int p4), .val (.long sz), .second, .val (.long ia), .second, .val (.long ib), .second, .unset, .unset, .unset, .unset, .unset, .unset, .unset, .unset] [(.int (p4 &&& (3 : Int32)))])) _
    rw [hmd_]
    show Steps p.tables e below (T_2.setTop (mkF m 30 #[.val (.long q0), .second, .val (.long q1), .second, .val (.long q2), .second, .val (.long q3), .second, .val (.int p4), .val (.long sz), .second, .val (.long ia), .second, .val (.long ib), .second, .unset, .unset, .unset, .unset, .unset, .unset, .unset, .unset] [(.int md)])) _
    refine XS.istore X_2.here hx rfl (hb hby at_30) rfl (l' := #[.val (.long q0), .second, .val (.long q1), .second, .val (.long q2), .second, .val (.long q3), .second, .val (.int p4), .val (.long sz), .second, .val (.long ia), .second, .val (.long ib), .second, .val (.int md), .unset, .unset, .unset, .unset, .unset, .unset, .unset]) rfl ?_
    show Steps p.tables e below (T_2.setTop (mkF m 32 #[.val (.long q0), .second, .val (.long q1), .second, .val (.long q2), .second, .val (.long q3), .second, .val (.int p4), .val (.long sz), .second, .val (.long ia), .second, .val (.long ib), .second, .val (.int md), .unset, .unset, .unset, .unset, .unset, .unset, .unset] [])) _
    refine XS.iload X_2.here hx rfl (hb hby at_32) rfl ?_
    show Steps p.tables e below (T_2.setTop (mkF m 34 #[.val (.long q0), .second, .val (.long q1), .second, .val (.long q2), .second, .val (.long q3), .second, .val (.int p4), .val (.long sz), .second, .val (.long ia), .second, .val (.long ib), .second, .val (.int md), .unset, .unset, .unset, .unset, .unset, .unset, .unset] [(.int md)])) _
    refine XS.ifYes X_2.here hx rfl (pc0 := 34) (pc' := 44) rfl (hb hby at_34) rfl ((if0 _ _).trans (feq hc34).2) (by decide) (by decide) ?_
    show Steps p.tables e below (T_2.setTop (mkF m 44 #[.val (.long q0), .second, .val (.long q1), .second, .val (.long q2), .second, .val (.long q3), .second, .val (.int p4), .val (.long sz), .second, .val (.long ia), .second, .val (.long ib), .second, .val (.int md), .unset, .unset, .unset, .unset, .unset, .unset, .unset] [])) _
    refine XS.iload X_2.here hx rfl (hb hby at_44) rfl ?_
    show Steps p.tables e below (T_2.setTop (mkF m 46 #[.val (.long q0), .second, .val (.long q1), .second, .val (.long q2), .second, .val (.long q3), .second, .val (.int p4), .val (.long sz), .second, .val (.long ia), .second, .val (.long ib), .second, .val (.int md), .unset, .unset, .unset, .unset, .unset, .unset, .unset] [(.int md)])) _
    refine XS.iconst X_2.here hx rfl (hb hby at_46) ?_
    show Steps p.tables e below (T_2.setTop (mkF m 47 #[.val (.long q0), .second, .val (.long q1), .second, .val (.long q2), .second, .val (.long q3), .second, .val (.int p4), .val (.long sz), .second, .val (.long ia), .second, .val (.long ib), .second, .val (.int md), .unset, .unset, .unset, .unset, .unset, .unset, .unset] [(.int (1 : Int32)), (.int md)])) _
    refine XS.icmpNo X_2.here hx rfl (hb hby at_47) rfl (teq hc47).2 ?_
    show Steps p.tables e below (T_2.setTop (mkF m 50 #[.val (.long q0), .second, .val (.long q1), .second, .val (.long q2), .second, .val (.long q3), .second, .val (.int p4), .val (.long sz), .second, .val (.long ia), .second, .val (.long ib), .second, .val (.int md), .unset, .unset, .unset, .unset, .unset, .unset, .unset] [])) _
    refine XS.lload X_2.here hx rfl (hb hby at_50) rfl ?_
    show Steps p.tables e below (T_2.setTop (mkF m 52 #[.val (.long q0), .second, .val (.long q1), .second, .val (.long q2), .second, .val (.long q3), .second, .val (.int p4), .val (.long sz), .second, .val (.long ia), .second, .val (.long ib), .second, .val (.int md), .unset, .unset, .unset, .unset, .unset, .unset, .unset] [(.long ib)])) _
    refine XS.lstore X_2.here hx rfl (hb hby at_52) rfl (l' := #[.val (.long q0), .second, .val (.long q1), .second, .val (.long q2), .second, .val (.long q3), .second, .val (.int p4), .val (.long sz), .second, .val (.long ia), .second, .val (.long ib), .second, .val (.int md), .val (.long ib), .second, .unset, .unset, .unset, .unset, .unset]) rfl ?_
    show Steps p.tables e below (T_2.setTop (mkF m 54 #[.val (.long q0), .second, .val (.long q1), .second, .val (.long q2), .second, .val (.long q3), .second, .val (.int p4), .val (.long sz), .second, .val (.long ia), .second, .val (.long ib), .second, .val (.int md), .val (.long ib), .second, .unset, .unset, .unset, .unset, .unset] [])) _
    refine XS.goto X_2.here hx rfl (pc0 := 54) (pc' := 66) rfl (hb hby at_54) (by decide) (by decide) ?_
    show Steps p.tables e below (T_2.setTop (mkF m 66 #[.val (.long q0), .second, .val (.long q1), .second, .val (.long q2), .second, .val (.long q3), .second, .val (.int p4), .val (.long sz), .second, .val (.long ia), .second, .val (.long ib), .second, .val (.int md), .val (.long ib), .second, .unset, .unset, .unset, .unset, .unset] [])) _
    refine XS.iload X_2.here hx rfl (hb hby at_66) rfl ?_
    show Steps p.tables e below (T_2.setTop (mkF m 68 #[.val (.long q0), .second, .val (.long q1), .second, .val (.long q2), .second, .val (.long q3), .second, .val (.int p4), .val (.long sz), .second, .val (.long ia), .second, .val (.long ib), .second, .val (.int md), .val (.long ib), .second, .unset, .unset, .unset, .unset, .unset] [(.int p4)])) _
    refine XS.iconst X_2.here hx rfl (hb hby at_68) ?_
    show Steps p.tables e below (T_2.setTop (mkF m 69 #[.val (.long q0), .second, .val (.long q1), .second, .val (.long q2), .second, .val (.long q3), .second, .val (.int p4), .val (.long sz), .second, .val (.long ia), .second, .val (.long ib), .second, .val (.int md), .val (.long ib), .second, .unset, .unset, .unset, .unset, .unset] [(.int (4 : Int32)), (.int p4)])) _
    refine XS.iand X_2.here hx rfl (hb hby at_69) rfl ?_
    have jn70 : ∀ target, Steps p.tables e below (T_2.setTop (mkF m 78 #[.val (.long q0), .second, .val (.long q1), .second, .val (.long q2), .second, .val (.long q3), .second, .val (.int p4), .val (.long sz), .second, .val (.long ia), .second, .val (.long ib), .second, .val (.int md), .val (.long ib), .second, .unset, .unset, .unset, .unset, .unset] [(.int sb)])) target → Steps p.tables e below (T_2.setTop (mkF m 70 #[.val (.long q0), .second, .val (.long q1), .second, .val (.long q2), .second, .val (.long q3), .second, .val (.int p4), .val (.long sz), .second, .val (.long ia), .second, .val (.long ib), .second, .val (.int md), .val (.long ib), .second, .unset, .unset, .unset, .unset, .unset] [(.int (p4 &&& (4 : Int32)))])) target := by
      intro target kt
      show Steps p.tables e below (T_2.setTop (mkF m 70 #[.val (.long q0), .second, .val (.long q1), .second, .val (.long q2), .second, .val (.long q3), .second, .val (.int p4), .val (.long sz), .second, .val (.long ia), .second, .val (.long ib), .second, .val (.int md), .val (.long ib), .second, .unset, .unset, .unset, .unset, .unset] [(.int (p4 &&& (4 : Int32)))])) _
      by_cases hj70_0 : (p4 &&& (4 : Int32)) = (0 : Int32)
      · refine XS.ifYes X_2.here hx rfl (pc0 := 70) (pc' := 77) rfl (hb hby at_70) rfl ((if0 _ _).trans (teq hj70_0).1) (by decide) (by decide) ?_
        show Steps p.tables e below (T_2.setTop (mkF m 77 #[.val (.long q0), .second, .val (.long q1), .second, .val (.long q2), .second, .val (.long q3), .second, .val (.int p4), .val (.long sz), .second, .val (.long ia), .second, .val (.long ib), .second, .val (.int md), .val (.long ib), .second, .unset, .unset, .unset, .unset, .unset] [])) _
        refine XS.iconst X_2.here hx rfl (hb hby at_77) ?_
        rw [← hsb_, if_pos hj70_0] at kt
        exact kt
      · refine XS.ifNo X_2.here hx rfl (hb hby at_70) rfl ((if0 _ _).trans (feq hj70_0).1) ?_
        show Steps p.tables e below (T_2.setTop (mkF m 73 #[.val (.long q0), .second, .val (.long q1), .second, .val (.long q2), .second, .val (.long q3), .second, .val (.int p4), .val (.long sz), .second, .val (.long ia), .second, .val (.long ib), .second, .val (.int md), .val (.long ib), .second, .unset, .unset, .unset, .unset, .unset] [])) _
        refine XS.iconst X_2.here hx rfl (hb hby at_73) ?_
        show Steps p.tables e below (T_2.setTop (mkF m 74 #[.val (.long q0), .second, .val (.long q1), .second, .val (.long q2), .second, .val (.long q3), .second, .val (.int p4), .val (.long sz), .second, .val (.long ia), .second, .val (.long ib), .second, .val (.int md), .val (.long ib), .second, .unset, .unset, .unset, .unset, .unset] [(.int (1 : Int32))])) _
        refine XS.goto X_2.here hx rfl (pc0 := 74) (pc' := 78) rfl (hb hby at_74) (by decide) (by decide) ?_
        rw [← hsb_, if_neg hj70_0] at kt
        exact kt
    refine jn70 _ ?_
    show Steps p.tables e below (T_2.setTop (mkF m 78 #[.val (.long q0), .second, .val (.long q1), .second, .val (.long q2), .second, .val (.long q3), .second, .val (.int p4), .val (.long sz), .second, .val (.long ia), .second, .val (.long ib), .second, .val (.int md), .val (.long ib), .second, .unset, .unset, .unset, .unset, .unset] [(.int sb)])) _
    refine XS.istore X_2.here hx rfl (hb hby at_78) rfl (l' := #[.val (.long q0), .second, .val (.long q1), .second, .val (.long q2), .second, .val (.long q3), .second, .val (.int p4), .val (.long sz), .second, .val (.long ia), .second, .val (.long ib), .second, .val (.int md), .val (.long ib), .second, .val (.int sb), .unset, .unset, .unset, .unset]) rfl ?_
    show Steps p.tables e below (T_2.setTop (mkF m 80 #[.val (.long q0), .second, .val (.long q1), .second, .val (.long q2), .second, .val (.long q3), .second, .val (.int p4), .val (.long sz), .second, .val (.long ia), .second, .val (.long ib), .second, .val (.int md), .val (.long ib), .second, .val (.int sb), .unset, .unset, .unset, .unset] [])) _
    refine st_3 _ ?_
    show Steps p.tables e below (T_3.setTop (mkF m 83 #[.val (.long q0), .second, .val (.long q1), .second, .val (.long q2), .second, .val (.long q3), .second, .val (.int p4), .val (.long sz), .second, .val (.long ia), .second, .val (.long ib), .second, .val (.int md), .val (.long ib), .second, .val (.int sb), .unset, .unset, .unset, .unset] [(.ref b_3)])) _
    refine XS.dup X_3.here hx rfl (hb hby at_83) rfl rfl ?_
    show Steps p.tables e below (T_3.setTop (mkF m 84 #[.val (.long q0), .second, .val (.long q1), .second, .val (.long q2), .second, .val (.long q3), .second, .val (.int p4), .val (.long sz), .second, .val (.long ia), .second, .val (.long ib), .second, .val (.int md), .val (.long ib), .second, .val (.int sb), .unset, .unset, .unset, .unset] [(.ref b_3), (.ref b_3)])) _
    refine XS.lload X_3.here hx rfl (hb hby at_84) rfl ?_
    show Steps p.tables e below (T_3.setTop (mkF m 86 #[.val (.long q0), .second, .val (.long q1), .second, .val (.long q2), .second, .val (.long q3), .second, .val (.int p4), .val (.long sz), .second, .val (.long ia), .second, .val (.long ib), .second, .val (.int md), .val (.long ib), .second, .val (.int sb), .unset, .unset, .unset, .unset] [(.long sz), (.ref b_3), (.ref b_3)])) _
    refine st_5.trans ?_
    show Steps p.tables e below (T_5.setTop (mkF m 89 #[.val (.long q0), .second, .val (.long q1), .second, .val (.long q2), .second, .val (.long q3), .second, .val (.int p4), .val (.long sz), .second, .val (.long ia), .second, .val (.long ib), .second, .val (.int md), .val (.long ib), .second, .val (.int sb), .unset, .unset, .unset, .unset] [(.ref b_3)])) _
    refine XS.astore X_5.here hx rfl (hb hby at_89) rfl rfl (l' := #[.val (.long q0), .second, .val (.long q1), .second, .val (.long q2), .second, .val (.long q3), .second, .val (.int p4), .val (.long sz), .second, .val (.long ia), .second, .val (.long ib), .second, .val (.int md), .val (.long ib), .second, .val (.int sb), .val (.ref b_3), .unset, .unset, .unset]) rfl ?_
    show Steps p.tables e below (T_5.setTop (mkF m 91 #[.val (.long q0), .second, .val (.long q1), .second, .val (.long q2), .second, .val (.long q3), .second, .val (.int p4), .val (.long sz), .second, .val (.long ia), .second, .val (.long ib), .second, .val (.int md), .val (.long ib), .second, .val (.int sb), .val (.ref b_3), .unset, .unset, .unset] [])) _
    refine XS.aload X_5.here hx rfl (hb hby at_91) rfl rfl ?_
    show Steps p.tables e below (T_5.setTop (mkF m 93 #[.val (.long q0), .second, .val (.long q1), .second, .val (.long q2), .second, .val (.long q3), .second, .val (.int p4), .val (.long sz), .second, .val (.long ia), .second, .val (.long ib), .second, .val (.int md), .val (.long ib), .second, .val (.int sb), .val (.ref b_3), .unset, .unset, .unset] [(.ref b_3)])) _
    refine XS.lload X_5.here hx rfl (hb hby at_93) rfl ?_
    show Steps p.tables e below (T_5.setTop (mkF m 95 #[.val (.long q0), .second, .val (.long q1), .second, .val (.long q2), .second, .val (.long q3), .second, .val (.int p4), .val (.long sz), .second, .val (.long ia), .second, .val (.long ib), .second, .val (.int md), .val (.long ib), .second, .val (.int sb), .val (.ref b_3), .unset, .unset, .unset] [(.long ib), (.ref b_3)])) _
    refine st_7.trans ?_
    show Steps p.tables e below (T_7.setTop (mkF m 98 #[.val (.long q0), .second, .val (.long q1), .second, .val (.long q2), .second, .val (.long q3), .second, .val (.int p4), .val (.long sz), .second, .val (.long ia), .second, .val (.long ib), .second, .val (.int md), .val (.long ib), .second, .val (.int sb), .val (.ref b_3), .unset, .unset, .unset] [(.int (own_get 0 mc))])) _
    refine XS.istore X_7.here hx rfl (hb hby at_98) rfl (l' := #[.val (.long q0), .second, .val (.long q1), .second, .val (.long q2), .second, .val (.long q3), .second, .val (.int p4), .val (.long sz), .second, .val (.long ia), .second, .val (.long ib), .second, .val (.int md), .val (.long ib), .second, .val (.int sb), .val (.ref b_3), .val (.int (own_get 0 mc)), .unset, .unset]) rfl ?_
    show Steps p.tables e below (T_7.setTop (mkF m 100 #[.val (.long q0), .second, .val (.long q1), .second, .val (.long q2), .second, .val (.long q3), .second, .val (.int p4), .val (.long sz), .second, .val (.long ia), .second, .val (.long ib), .second, .val (.int md), .val (.long ib), .second, .val (.int sb), .val (.ref b_3), .val (.int (own_get 0 mc)), .unset, .unset] [])) _
    refine XS.aload X_7.here hx rfl (hb hby at_100) rfl rfl ?_
    show Steps p.tables e below (T_7.setTop (mkF m 102 #[.val (.long q0), .second, .val (.long q1), .second, .val (.long q2), .second, .val (.long q3), .second, .val (.int p4), .val (.long sz), .second, .val (.long ia), .second, .val (.long ib), .second, .val (.int md), .val (.long ib), .second, .val (.int sb), .val (.ref b_3), .val (.int (own_get 0 mc)), .unset, .unset] [(.ref b_3)])) _
    refine XS.lload X_7.here hx rfl (hb hby at_102) rfl ?_
    show Steps p.tables e below (T_7.setTop (mkF m 104 #[.val (.long q0), .second, .val (.long q1), .second, .val (.long q2), .second, .val (.long q3), .second, .val (.int p4), .val (.long sz), .second, .val (.long ia), .second, .val (.long ib), .second, .val (.int md), .val (.long ib), .second, .val (.int sb), .val (.ref b_3), .val (.int (own_get 0 mc)), .unset, .unset] [(.long ia), (.ref b_3)])) _
    refine st_9.trans ?_
    show Steps p.tables e below (T_9.setTop (mkF m 107 #[.val (.long q0), .second, .val (.long q1), .second, .val (.long q2), .second, .val (.long q3), .second, .val (.int p4), .val (.long sz), .second, .val (.long ia), .second, .val (.long ib), .second, .val (.int md), .val (.long ib), .second, .val (.int sb), .val (.ref b_3), .val (.int (own_get 0 mc)), .unset, .unset] [(.int (own_ch (0 : Int64) ma))])) _
    refine XS.pop X_9.here hx rfl (hb hby at_107) rfl rfl ?_
    show Steps p.tables e below (T_9.setTop (mkF m 108 #[.val (.long q0), .second, .val (.long q1), .second, .val (.long q2), .second, .val (.long q3), .second, .val (.int p4), .val (.long sz), .second, .val (.long ia), .second, .val (.long ib), .second, .val (.int md), .val (.long ib), .second, .val (.int sb), .val (.ref b_3), .val (.int (own_get 0 mc)), .unset, .unset] [])) _
    refine XS.iload X_9.here hx rfl (hb hby at_108) rfl ?_
    show Steps p.tables e below (T_9.setTop (mkF m 110 #[.val (.long q0), .second, .val (.long q1), .second, .val (.long q2), .second, .val (.long q3), .second, .val (.int p4), .val (.long sz), .second, .val (.long ia), .second, .val (.long ib), .second, .val (.int md), .val (.long ib), .second, .val (.int sb), .val (.ref b_3), .val (.int (own_get 0 mc)), .unset, .unset] [(.int sb)])) _
    refine XS.ifYes X_9.here hx rfl (pc0 := 110) (pc' := 121) rfl (hb hby at_110) rfl ((if0 _ _).trans (teq hc110).1) (by decide) (by decide) ?_
    show Steps p.tables e below (T_9.setTop (mkF m 121 #[.val (.long q0), .second, .val (.long q1), .second, .val (.long q2), .second, .val (.long q3), .second, .val (.int p4), .val (.long sz), .second, .val (.long ia), .second, .val (.long ib), .second, .val (.int md), .val (.long ib), .second, .val (.int sb), .val (.ref b_3), .val (.int (own_get 0 mc)), .unset, .unset] [])) _
    refine XS.aload X_9.here hx rfl (hb hby at_121) rfl rfl ?_
    show Steps p.tables e below (T_9.setTop (mkF m 123 #[.val (.long q0), .second, .val (.long q1), .second, .val (.long q2), .second, .val (.long q3), .second, .val (.int p4), .val (.long sz), .second, .val (.long ia), .second, .val (.long ib), .second, .val (.int md), .val (.long ib), .second, .val (.int sb), .val (.ref b_3), .val (.int (own_get 0 mc)), .unset, .unset] [(.ref b_3)])) _
    refine XS.lload X_9.here hx rfl (hb hby at_123) rfl ?_
    show Steps p.tables e below (T_9.setTop (mkF m 125 #[.val (.long q0), .second, .val (.long q1), .second, .val (.long q2), .second, .val (.long q3), .second, .val (.int p4), .val (.long sz), .second, .val (.long ia), .second, .val (.long ib), .second, .val (.int md), .val (.long ib), .second, .val (.int sb), .val (.ref b_3), .val (.int (own_get 0 mc)), .unset, .unset] [(.long ib), (.ref b_3)])) _
    refine st_11.trans ?_
    show Steps p.tables e below (T_11.setTop (mkF m 128 #[.val (.long q0), .second, .val (.long q1), .second, .val (.long q2), .second, .val (.long q3), .second, .val (.int p4), .val (.long sz), .second, .val (.long ia), .second, .val (.long ib), .second, .val (.int md), .val (.long ib), .second, .val (.int sb), .val (.ref b_3), .val (.int (own_get 0 mc)), .unset, .unset] [(.int r1)])) _
    refine XS.istore X_11.here hx rfl (hb hby at_128) rfl (l' := #[.val (.long q0), .second, .val (.long q1), .second, .val (.long q2), .second, .val (.long q3), .second, .val (.int p4), .val (.long sz), .second, .val (.long ia), .second, .val (.long ib), .second, .val (.int md), .val (.long ib), .second, .val (.int sb), .val (.ref b_3), .val (.int (own_get 0 mc)), .val (.int r1), .unset]) rfl ?_
    have jn130 : ∀ target, Steps p.tables e below (T_11.setTop (mkF m 156 #[.val (.long q0), .second, .val (.long q1), .second, .val (.long q2), .second, .val (.long q3), .second, .val (.int p4), .val (.long sz), .second, .val (.long ia), .second, .val (.long ib), .second, .val (.int md), .val (.long ib), .second, .val (.int sb), .val (.ref b_3), .val (.int (own_get 0 mc)), .val (.int r1), .unset] [(.int ex)])) target → Steps p.tables e below (T_11.setTop (mkF m 130 #[.val (.long q0), .second, .val (.long q1), .second, .val (.long q2), .second, .val (.long q3), .second, .val (.int p4), .val (.long sz), .second, .val (.long ia), .second, .val (.long ib), .second, .val (.int md), .val (.long ib), .second, .val (.int sb), .val (.ref b_3), .val (.int (own_get 0 mc)), .val (.int r1), .unset] [])) target := by
      intro target kt
      show Steps p.tables e below (T_11.setTop (mkF m 130 #[.val (.long q0), .second, .val (.long q1), .second, .val (.long q2), .second, .val (.long q3), .second, .val (.int p4), .val (.long sz), .second, .val (.long ia), .second, .val (.long ib), .second, .val (.int md), .val (.long ib), .second, .val (.int sb), .val (.ref b_3), .val (.int (own_get 0 mc)), .val (.int r1), .unset] [])) _
      refine XS.lload X_11.here hx rfl (hb hby at_130) rfl ?_
      show Steps p.tables e below (T_11.setTop (mkF m 132 #[.val (.long q0), .second, .val (.long q1), .second, .val (.long q2), .second, .val (.long q3), .second, .val (.int p4), .val (.long sz), .second, .val (.long ia), .second, .val (.long ib), .second, .val (.int md), .val (.long ib), .second, .val (.int sb), .val (.ref b_3), .val (.int (own_get 0 mc)), .val (.int r1), .unset] [(.long ib)])) _
      refine XS.lload X_11.here hx rfl (hb hby at_132) rfl ?_
      show Steps p.tables e below (T_11.setTop (mkF m 134 #[.val (.long q0), .second, .val (.long q1), .second, .val (.long q2), .second, .val (.long q3), .second, .val (.int p4), .val (.long sz), .second, .val (.long ia), .second, .val (.long ib), .second, .val (.int md), .val (.long ib), .second, .val (.int sb), .val (.ref b_3), .val (.int (own_get 0 mc)), .val (.int r1), .unset] [(.long ia), (.long ib)])) _
      refine XS.lcmp X_11.here hx rfl (hb hby at_134) rfl ?_
      show Steps p.tables e below (T_11.setTop (mkF m 135 #[.val (.long q0), .second, .val (.long q1), .second, .val (.long q2), .second, .val (.long q3), .second, .val (.int p4), .val (.long sz), .second, .val (.long ia), .second, .val (.long ib), .second, .val (.int md), .val (.long ib), .second, .val (.int sb), .val (.ref b_3), .val (.int (own_get 0 mc)), .val (.int r1), .unset] [(.int (lcmpW ib ia))])) _
      by_cases hj135_0 : (lcmpW ib ia) = (0 : Int32)
      · refine XS.ifYes X_11.here hx rfl (pc0 := 135) (pc' := 151) rfl (hb hby at_135) rfl ((if0 _ _).trans (teq hj135_0).1) (by decide) (by decide) ?_
        show Steps p.tables e below (T_11.setTop (mkF m 151 #[.val (.long q0), .second, .val (.long q1), .second, .val (.long q2), .second, .val (.long q3), .second, .val (.int p4), .val (.long sz), .second, .val (.long ia), .second, .val (.long ib), .second, .val (.int md), .val (.long ib), .second, .val (.int sb), .val (.ref b_3), .val (.int (own_get 0 mc)), .val (.int r1), .unset] [])) _
        refine XS.iconst X_11.here hx rfl (hb hby at_151) ?_
        show Steps p.tables e below (T_11.setTop (mkF m 152 #[.val (.long q0), .second, .val (.long q1), .second, .val (.long q2), .second, .val (.long q3), .second, .val (.int p4), .val (.long sz), .second, .val (.long ia), .second, .val (.long ib), .second, .val (.int md), .val (.long ib), .second, .val (.int sb), .val (.ref b_3), .val (.int (own_get 0 mc)), .val (.int r1), .unset] [(.int (1 : Int32))])) _
        refine XS.goto X_11.here hx rfl (pc0 := 152) (pc' := 156) rfl (hb hby at_152) (by decide) (by decide) ?_
        rw [← hex_, if_pos hj135_0] at kt
        exact kt
      · refine XS.ifNo X_11.here hx rfl (hb hby at_135) rfl ((if0 _ _).trans (feq hj135_0).1) ?_
        show Steps p.tables e below (T_11.setTop (mkF m 138 #[.val (.long q0), .second, .val (.long q1), .second, .val (.long q2), .second, .val (.long q3), .second, .val (.int p4), .val (.long sz), .second, .val (.long ia), .second, .val (.long ib), .second, .val (.int md), .val (.long ib), .second, .val (.int sb), .val (.ref b_3), .val (.int (own_get 0 mc)), .val (.int r1), .unset] [])) _
        refine XS.iload X_11.here hx rfl (hb hby at_138) rfl ?_
        show Steps p.tables e below (T_11.setTop (mkF m 140 #[.val (.long q0), .second, .val (.long q1), .second, .val (.long q2), .second, .val (.long q3), .second, .val (.int p4), .val (.long sz), .second, .val (.long ia), .second, .val (.long ib), .second, .val (.int md), .val (.long ib), .second, .val (.int sb), .val (.ref b_3), .val (.int (own_get 0 mc)), .val (.int r1), .unset] [(.int sb)])) _
        by_cases hj140_1 : sb = (0 : Int32)
        · refine XS.ifYes X_11.here hx rfl (pc0 := 140) (pc' := 155) rfl (hb hby at_140) rfl ((if0 _ _).trans (teq hj140_1).1) (by decide) (by decide) ?_
          show Steps p.tables e below (T_11.setTop (mkF m 155 #[.val (.long q0), .second, .val (.long q1), .second, .val (.long q2), .second, .val (.long q3), .second, .val (.int p4), .val (.long sz), .second, .val (.long ia), .second, .val (.long ib), .second, .val (.int md), .val (.long ib), .second, .val (.int sb), .val (.ref b_3), .val (.int (own_get 0 mc)), .val (.int r1), .unset] [])) _
          refine XS.iconst X_11.here hx rfl (hb hby at_155) ?_
          rw [← hex_, if_neg hj135_0, if_pos hj140_1] at kt
          exact kt
        · refine XS.ifNo X_11.here hx rfl (hb hby at_140) rfl ((if0 _ _).trans (feq hj140_1).1) ?_
          show Steps p.tables e below (T_11.setTop (mkF m 143 #[.val (.long q0), .second, .val (.long q1), .second, .val (.long q2), .second, .val (.long q3), .second, .val (.int p4), .val (.long sz), .second, .val (.long ia), .second, .val (.long ib), .second, .val (.int md), .val (.long ib), .second, .val (.int sb), .val (.ref b_3), .val (.int (own_get 0 mc)), .val (.int r1), .unset] [])) _
          refine XS.lload X_11.here hx rfl (hb hby at_143) rfl ?_
          show Steps p.tables e below (T_11.setTop (mkF m 145 #[.val (.long q0), .second, .val (.long q1), .second, .val (.long q2), .second, .val (.long q3), .second, .val (.int p4), .val (.long sz), .second, .val (.long ia), .second, .val (.long ib), .second, .val (.int md), .val (.long ib), .second, .val (.int sb), .val (.ref b_3), .val (.int (own_get 0 mc)), .val (.int r1), .unset] [(.long ib)])) _
          refine XS.lload X_11.here hx rfl (hb hby at_145) rfl ?_
          show Steps p.tables e below (T_11.setTop (mkF m 147 #[.val (.long q0), .second, .val (.long q1), .second, .val (.long q2), .second, .val (.long q3), .second, .val (.int p4), .val (.long sz), .second, .val (.long ia), .second, .val (.long ib), .second, .val (.int md), .val (.long ib), .second, .val (.int sb), .val (.ref b_3), .val (.int (own_get 0 mc)), .val (.int r1), .unset] [(.long ib), (.long ib)])) _
          refine XS.lcmp X_11.here hx rfl (hb hby at_147) rfl ?_
          show Steps p.tables e below (T_11.setTop (mkF m 148 #[.val (.long q0), .second, .val (.long q1), .second, .val (.long q2), .second, .val (.long q3), .second, .val (.int p4), .val (.long sz), .second, .val (.long ia), .second, .val (.long ib), .second, .val (.int md), .val (.long ib), .second, .val (.int sb), .val (.ref b_3), .val (.int (own_get 0 mc)), .val (.int r1), .unset] [(.int (lcmpW ib ib))])) _
          by_cases hj148_2 : (lcmpW ib ib) = (0 : Int32)
          · refine XS.ifNo X_11.here hx rfl (hb hby at_148) rfl ((if0 _ _).trans (teq hj148_2).2) ?_
            show Steps p.tables e below (T_11.setTop (mkF m 151 #[.val (.long q0), .second, .val (.long q1), .second, .val (.long q2), .second, .val (.long q3), .second, .val (.int p4), .val (.long sz), .second, .val (.long ia), .second, .val (.long ib), .second, .val (.int md), .val (.long ib), .second, .val (.int sb), .val (.ref b_3), .val (.int (own_get 0 mc)), .val (.int r1), .unset] [])) _
            refine XS.iconst X_11.here hx rfl (hb hby at_151) ?_
            show Steps p.tables e below (T_11.setTop (mkF m 152 #[.val (.long q0), .second, .val (.long q1), .second, .val (.long q2), .second, .val (.long q3), .second, .val (.int p4), .val (.long sz), .second, .val (.long ia), .second, .val (.long ib), .second, .val (.int md), .val (.long ib), .second, .val (.int sb), .val (.ref b_3), .val (.int (own_get 0 mc)), .val (.int r1), .unset] [(.int (1 : Int32))])) _
            refine XS.goto X_11.here hx rfl (pc0 := 152) (pc' := 156) rfl (hb hby at_152) (by decide) (by decide) ?_
            rw [← hex_, if_neg hj135_0, if_neg hj140_1, if_pos hj148_2] at kt
            exact kt
          · refine XS.ifYes X_11.here hx rfl (pc0 := 148) (pc' := 155) rfl (hb hby at_148) rfl ((if0 _ _).trans (feq hj148_2).2) (by decide) (by decide) ?_
            show Steps p.tables e below (T_11.setTop (mkF m 155 #[.val (.long q0), .second, .val (.long q1), .second, .val (.long q2), .second, .val (.long q3), .second, .val (.int p4), .val (.long sz), .second, .val (.long ia), .second, .val (.long ib), .second, .val (.int md), .val (.long ib), .second, .val (.int sb), .val (.ref b_3), .val (.int (own_get 0 mc)), .val (.int r1), .unset] [])) _
            refine XS.iconst X_11.here hx rfl (hb hby at_155) ?_
            rw [← hex_, if_neg hj135_0, if_neg hj140_1, if_neg hj148_2] at kt
            exact kt
    refine jn130 _ ?_
    show Steps p.tables e below (T_11.setTop (mkF m 156 #[.val (.long q0), .second, .val (.long q1), .second, .val (.long q2), .second, .val (.long q3), .second, .val (.int p4), .val (.long sz), .second, .val (.long ia), .second, .val (.long ib), .second, .val (.int md), .val (.long ib), .second, .val (.int sb), .val (.ref b_3), .val (.int (own_get 0 mc)), .val (.int r1), .unset] [(.int ex)])) _
    refine XS.istore X_11.here hx rfl (hb hby at_156) rfl (l' := #[.val (.long q0), .second, .val (.long q1), .second, .val (.long q2), .second, .val (.long q3), .second, .val (.int p4), .val (.long sz), .second, .val (.long ia), .second, .val (.long ib), .second, .val (.int md), .val (.long ib), .second, .val (.int sb), .val (.ref b_3), .val (.int (own_get 0 mc)), .val (.int r1), .val (.int ex)]) rfl ?_
    show Steps p.tables e below (T_11.setTop (mkF m 158 #[.val (.long q0), .second, .val (.long q1), .second, .val (.long q2), .second, .val (.long q3), .second, .val (.int p4), .val (.long sz), .second, .val (.long ia), .second, .val (.long ib), .second, .val (.int md), .val (.long ib), .second, .val (.int sb), .val (.ref b_3), .val (.int (own_get 0 mc)), .val (.int r1), .val (.int ex)] [])) _
    refine XS.iload X_11.here hx rfl (hb hby at_158) rfl ?_
    show Steps p.tables e below (T_11.setTop (mkF m 160 #[.val (.long q0), .second, .val (.long q1), .second, .val (.long q2), .second, .val (.long q3), .second, .val (.int p4), .val (.long sz), .second, .val (.long ia), .second, .val (.long ib), .second, .val (.int md), .val (.long ib), .second, .val (.int sb), .val (.ref b_3), .val (.int (own_get 0 mc)), .val (.int r1), .val (.int ex)] [(.int (own_get 0 mc))])) _
    refine XS.ifNo X_11.here hx rfl (hb hby at_160) rfl ((if0 _ _).trans (teq hc160).2) ?_
    show Steps p.tables e below (T_11.setTop (mkF m 163 #[.val (.long q0), .second, .val (.long q1), .second, .val (.long q2), .second, .val (.long q3), .second, .val (.int p4), .val (.long sz), .second, .val (.long ia), .second, .val (.long ib), .second, .val (.int md), .val (.long ib), .second, .val (.int sb), .val (.ref b_3), .val (.int (own_get 0 mc)), .val (.int r1), .val (.int ex)] [])) _
    refine XS.iload X_11.here hx rfl (hb hby at_163) rfl ?_
    show Steps p.tables e below (T_11.setTop (mkF m 165 #[.val (.long q0), .second, .val (.long q1), .second, .val (.long q2), .second, .val (.long q3), .second, .val (.int p4), .val (.long sz), .second, .val (.long ia), .second, .val (.long ib), .second, .val (.int md), .val (.long ib), .second, .val (.int sb), .val (.ref b_3), .val (.int (own_get 0 mc)), .val (.int r1), .val (.int ex)] [(.int r1)])) _
    refine XS.iload X_11.here hx rfl (hb hby at_165) rfl ?_
    show Steps p.tables e below (T_11.setTop (mkF m 167 #[.val (.long q0), .second, .val (.long q1), .second, .val (.long q2), .second, .val (.long q3), .second, .val (.int p4), .val (.long sz), .second, .val (.long ia), .second, .val (.long ib), .second, .val (.int md), .val (.long ib), .second, .val (.int sb), .val (.ref b_3), .val (.int (own_get 0 mc)), .val (.int r1), .val (.int ex)] [(.int ex), (.int r1)])) _
    refine XS.icmpNo X_11.here hx rfl (hb hby at_167) rfl (teq hc167).2 ?_
    show Steps p.tables e below (T_11.setTop (mkF m 170 #[.val (.long q0), .second, .val (.long q1), .second, .val (.long q2), .second, .val (.long q3), .second, .val (.int p4), .val (.long sz), .second, .val (.long ia), .second, .val (.long ib), .second, .val (.int md), .val (.long ib), .second, .val (.int sb), .val (.ref b_3), .val (.int (own_get 0 mc)), .val (.int r1), .val (.int ex)] [])) _
    refine XS.iconst X_11.here hx rfl (hb hby at_170) ?_
    show Steps p.tables e below (T_11.setTop (mkF m 171 #[.val (.long q0), .second, .val (.long q1), .second, .val (.long q2), .second, .val (.long q3), .second, .val (.int p4), .val (.long sz), .second, .val (.long ia), .second, .val (.long ib), .second, .val (.int md), .val (.long ib), .second, .val (.int sb), .val (.ref b_3), .val (.int (own_get 0 mc)), .val (.int r1), .val (.int ex)] [(.int (1 : Int32))])) _
    refine XS.goto X_11.here hx rfl (pc0 := 171) (pc' := 175) rfl (hb hby at_171) (by decide) (by decide) ?_
    show Steps p.tables e below (T_11.setTop (mkF m 175 #[.val (.long q0), .second, .val (.long q1), .second, .val (.long q2), .second, .val (.long q3), .second, .val (.int p4), .val (.long sz), .second, .val (.long ia), .second, .val (.long ib), .second, .val (.int md), .val (.long ib), .second, .val (.int sb), .val (.ref b_3), .val (.int (own_get 0 mc)), .val (.int r1), .val (.int ex)] [(.int (1 : Int32))])) _
    exact retN X_11 hx (t := .boolean) Bd.returns (by simp) (hb hby at_175) hr
  · show Q0 Z  h0 n0 _ T_11.heap _
    rw [eq_11]
    exact ⟨rfl, N_11⟩
set_option maxRecDepth 65536 in
set_option maxHeartbeats 40000000 in
theorem rm0_11 (l : Launch) (Z : State) (a0 : Array Value) (hw : ∀ d ∈ tables_1, d.before a0 Z = true) (ws : List Jvm.Cond) (q0 : Int64) (q1 : Int64) (q2 : Int64) (q3 : Int64) (p4 : Int32) (sz : Int64) (ia : Int64) (ib : Int64) (ic : Int64) (wd : Int64) (nw : Int32) (ja : Int32) (jb : Int32) (jc : Int32) (ma : Int64) (mb : Int64) (mc : Int64) (x1 : Int64) (x2 : Int64) (xc : Int64) (r1 : Int32) (md : Int32) (sb : Int32) (ex : Int32) (h0 : Heap) (n0 : Nat) (Z0 : n0 ≤ h0.size) (hsz_ : sz ≠ (0 : Int64)) (hia_ : (q1 &&& (9223372036854775807 : Int64)) % sz = ia) (hib_ : (q2 &&& (9223372036854775807 : Int64)) % sz = ib) (hb7 : ¬ (lcmpW sz (1 : Int64) < (0 : Int32))) (hb15 : ¬ ((0 : Int32) < lcmpW sz (137438952896 : Int64))) (hwd_ : ((sz + (64 : Int64)) - (1 : Int64)) / (64 : Int64) = wd) (hnw_ : wd.toInt32 = nw) (hn0_ : ¬ nw < 0) (hn1_ : nw.toNatClampNeg ≤ 16) (hja_ : (((ia.toUInt64 >>> ((6 : Int32) &&& 0x3f).toInt64.toUInt64).toInt64).toInt32) = ja) (hja0 : ¬ ja < 0) (hja1 : ja < nw) (hma_ : ((1 : Int64) <<< ((ia.toInt32) &&& 0x3f).toInt64) = ma) (hjb_ : (((ib.toUInt64 >>> ((6 : Int32) &&& 0x3f).toInt64.toUInt64).toInt64).toInt32) = jb) (hjb0 : ¬ jb < 0) (hjb1 : jb < nw) (hmb_ : ((1 : Int64) <<< ((ib.toInt32) &&& 0x3f).toInt64) = mb) (hjc_ : (((ib.toUInt64 >>> ((6 : Int32) &&& 0x3f).toInt64.toUInt64).toInt64).toInt32) = jc) (hjc0 : ¬ jc < 0) (hjc1 : jc < nw) (hmc_ : ((1 : Int64) <<< ((ib.toInt32) &&& 0x3f).toInt64) = mc) (hx2_ : (fun j => if j = ja.toNatClampNeg then Value.long ((0 : Int64) ||| ma) else (fun _ => (Value.long (0 : Int64))) j) jb.toNatClampNeg = .long x2) (hxc_ : (fun j => if j = jb.toNatClampNeg then Value.long (x2 ||| mb) else (fun j => if j = ja.toNatClampNeg then Value.long ((0 : Int64) ||| ma) else (fun _ => (Value.long (0 : Int64))) j) j) jc.toNatClampNeg = .long xc) (hor1_ : ¬ lcmpW ((0 : Int64) &&& ma) 0 = 0 → (0 : Int64) ||| ma = (0 : Int64)) (hor2_ : ¬ lcmpW (x2 &&& mb) 0 = 0 → x2 ||| mb = x2) (hr1_ : own_get xc mc = r1) (hs_ : ((1 : Int64) + (q0 &&& (1023 : Int64))) = sz) (hmd_ : (p4 &&& (3 : Int32)) = md) (hc34 : ¬ (md = (0 : Int32))) (hc47 : md = (1 : Int32)) (hsb_ : (if (p4 &&& (4 : Int32)) = (0 : Int32) then (0 : Int32) else (1 : Int32)) = sb) (hc110 : ¬ (sb = (0 : Int32))) (hex_ : (if (lcmpW ib ia) = (0 : Int32) then (1 : Int32) else (if sb = (0 : Int32) then (0 : Int32) else (if (lcmpW ib ib) = (0 : Int32) then (1 : Int32) else (0 : Int32)))) = ex) (hc160 : (own_get 0 mc) = (0 : Int32)) (hc167 : r1 = ex) :
    MetFree l x (head1 (Jvm.Cond.code x code maxLocals ret :: ws) room_1) (fun as_ U => as_ = #[(.long q0), (.long q1), (.long q2), (.long q3), (.int p4)] ∧ Z.Warmed39 U.vm ∧ U.heap = h0) (fun _ _ _ _ _ => True) (fun _ U o U' => ∃ v L, o = .returned v ∧ Q0 Z  h0 n0 v U'.heap L ∧ FrameEnd U o U' L 2 18) := by
  refine MetFree.of_bodySF (plainFor_of_name pn_0) hisR ?_
  intro p e s m args below meth c s₁ Bd hml0 hP hK
  obtain ⟨rfl, hZ, hh⟩ := hP
  have hx := Bd.exec
  have hby := Bd.bytes
  have hml : c.maxLocals = 23 := hml0
  have hown : s.vm.findClass "com/example/mussel/mussel/engine/BitArrayGetPinLaw" = some m.cls := findClass_of_methodNamed Bd.named
  have hnm := (name_of_methodNamed Bd.named Bd.method).1
  have X0 : Stand p l e room_1 s m #[(.long q0), (.long q1), (.long q2), (.long q3), (.int p4)] below meth c s₁ [] 0 0 := Stand.of_body Bd
  have e0 : s₁.heap = h0 := by rw [← hh, Bd.state]; rfl
  have N0 := Fr.nil n0
  have pre0 : ∀ t, Steps p.tables e below (s₁.setTop (mkF m 0 #[.val (.long q0), .second, .val (.long q1), .second, .val (.long q2), .second, .val (.long q3), .second, .val (.int p4), .unset, .unset, .unset, .unset, .unset, .unset, .unset, .unset, .unset, .unset, .unset, .unset, .unset, .unset] [])) t → Steps p.tables e below (s₁.setTop (entryFrame m #[(.long q0), (.long q1), (.long q2), (.long q3), (.int p4)] maxLocals)) t := fun t k => castTop (ef_0 m q0 q1 q2 q3 p4) k
  obtain ⟨_, _, ⟨T_1, L_1, k_1, n_1⟩, -, X_1, ⟨Lc_1, hQ_1, l_1, y_1, z_1⟩, st_1⟩ := Jvm.LawKit.callS X0 hx (y := (⟨"com/example/mussel/mussel/engine/BitArrayGetPinLaw", "pick", "(JJ)J"⟩ : MethodName)) hown (mvT hZ (hw _ (List.mem_of_getElem? (i := 1) rfl))) (mvT hZ (hw _ (List.mem_of_getElem? (i := 2) rfl))) (mvT hZ (hw _ (List.mem_of_getElem? (i := 3) rfl))) (mvT hZ (hw _ (List.mem_of_getElem? (i := 4) rfl))) (by decide) (backOf (W := 0) (rm1 l Z a0 hw [] q1 sz ia h0 n0 Z0 hsz_ hia_) hZ (hw _ (List.mem_of_getElem? (i := 4) rfl)) (hw _ (List.mem_of_getElem? (i := 3) rfl)) (by decide) (by decide)) (g := (mkF m 12 #[.val (.long q0), .second, .val (.long q1), .second, .val (.long q2), .second, .val (.long q3), .second, .val (.int p4), .val (.long sz), .second, .unset, .unset, .unset, .unset, .unset, .unset, .unset, .unset, .unset, .unset, .unset, .unset] [(.long sz), (.long q1)])) rfl (by rw [hml]; rfl) (argsL := [(.long q1), (.long sz)]) (rest := []) (lenOf pd_1 rfl) rfl (by show 2 * 0 + _ ≤ _; exact Nat.le_of_eq rfl) (hb hby at_12) (fun _ _ => ⟨rfl, e0, (by decide : 0 + 0 ≤ _), (by decide : 0 + 0 ≤ _)⟩)
  dsimp only [Pt.U, Pt.locs, Pt.cells, Pt.slots] at X_1 l_1 y_1 z_1 st_1 hQ_1
  subst l_1 y_1 z_1
  obtain ⟨rfl, Nq_1, eq_1⟩ := hQ_1
  have N_1 := Fr.app N0 Nq_1
  obtain ⟨_, _, ⟨T_2, L_2, k_2, n_2⟩, -, X_2, ⟨Lc_2, hQ_2, l_2, y_2, z_2⟩, st_2⟩ := Jvm.LawKit.callS X_1 hx (y := (⟨"com/example/mussel/mussel/engine/BitArrayGetPinLaw", "pick", "(JJ)J"⟩ : MethodName)) hown (mvT hZ (hw _ (List.mem_of_getElem? (i := 1) rfl))) (mvT hZ (hw _ (List.mem_of_getElem? (i := 2) rfl))) (mvT hZ (hw _ (List.mem_of_getElem? (i := 3) rfl))) (mvT hZ (hw _ (List.mem_of_getElem? (i := 4) rfl))) (by decide) (backOf (W := 0) (rm1 l Z a0 hw [] q2 sz ib h0 n0 Z0 hsz_ hib_) hZ (hw _ (List.mem_of_getElem? (i := 4) rfl)) (hw _ (List.mem_of_getElem? (i := 3) rfl)) (by decide) (by decide)) (g := (mkF m 21 #[.val (.long q0), .second, .val (.long q1), .second, .val (.long q2), .second, .val (.long q3), .second, .val (.int p4), .val (.long sz), .second, .val (.long ia), .second, .unset, .unset, .unset, .unset, .unset, .unset, .unset, .unset, .unset, .unset] [(.long sz), (.long q2)])) rfl (by rw [hml]; rfl) (argsL := [(.long q2), (.long sz)]) (rest := []) (lenOf pd_1 rfl) rfl (by show 2 * 0 + _ ≤ _; exact Nat.le_of_eq rfl) (hb hby at_21) (fun _ _ => ⟨rfl, eq_1, (by decide : 0 + 0 ≤ _), (by decide : 0 + 0 ≤ _)⟩)
  dsimp only [Pt.U, Pt.locs, Pt.cells, Pt.slots] at X_2 l_2 y_2 z_2 st_2 hQ_2
  subst l_2 y_2 z_2
  obtain ⟨rfl, Nq_2, eq_2⟩ := hQ_2
  have N_2 := Fr.app N_1 Nq_2
  obtain ⟨T_3, h_3, X_3, e_3, E_3, A_3, D_3, -, st_3⟩ := newO X_2 hx hZ hown (hw _ (List.mem_of_getElem? (i := 6) rfl)) (hw _ (List.mem_of_getElem? (i := 7) rfl)) (hw _ (List.mem_of_getElem? (i := 8) rfl)) eq_2 (g := (mkF m 80 #[.val (.long q0), .second, .val (.long q1), .second, .val (.long q2), .second, .val (.long q3), .second, .val (.int p4), .val (.long sz), .second, .val (.long ia), .second, .val (.long ib), .second, .val (.int md), .val (.long ib), .second, .val (.int sb), .unset, .unset, .unset, .unset] [])) rfl (hb hby at_80) (by decide) (by decide)
  obtain ⟨b_3, g_3⟩ : ∃ z, z = h0.size := ⟨_, rfl⟩
  rw [← g_3] at A_3 D_3 st_3
  have g_b_3 : n0 ≤ b_3 := Nat.le_trans Z0 (Nat.le_of_eq g_3.symm)
  have sz_b_3 : h0.size ≤ b_3 := Nat.le_trans (Keep.refl h0 []).1 (Nat.le_of_eq g_3.symm)
  have K_3 : Keep h0 h_3 [] := (Keep.refl h0 []).ext E_3
  have Z_4 : n0 ≤ h_3.size := Nat.le_trans Z0 E_3.1
  have F_words_b_3 : Fld Z h_3 b_3 "com/example/mussel/mussel/engine/BitArray" "words" "[J" .null := D_3 (Or.inr (hw _ (List.mem_of_getElem? (i := 22) rfl))) (ty := (.array .long)) (by decide)
  have F_capture_b_3 : Fld Z h_3 b_3 "com/example/mussel/mussel/engine/BitArray" "capture" "Lcom/example/mussel/mussel/engine/BitArray$Capture;" .null := D_3 (Or.inl (hw _ (List.mem_of_getElem? (i := 34) rfl))) (ty := (.object "com/example/mussel/mussel/engine/BitArray$Capture")) (by decide)
  obtain ⟨c_5, g_5⟩ : ∃ z, z = h_3.size := ⟨_, rfl⟩
  have ne_b_3_c_5 : b_3 ≠ c_5 := Nat.ne_of_lt (Nat.lt_of_lt_of_le A_3.lt (Nat.le_of_eq g_5.symm))
  have g_c_5 : n0 ≤ c_5 := Nat.le_trans Z_4 (Nat.le_of_eq g_5.symm)
  have sz_c_5 : h0.size ≤ c_5 := Nat.le_trans K_3.1 (Nat.le_of_eq g_5.symm)
  obtain ⟨_, _, ⟨T_5, L_5, k_5, n_5⟩, -, X_5, ⟨Lc_5, hQ_5, l_5, y_5, z_5⟩, st_5⟩ := X_3.specialBack hx (y := (⟨"com/example/mussel/mussel/engine/BitArray", "<init>", "(J)V"⟩ : MethodName)) rfl hown (mvT hZ (hw _ (List.mem_of_getElem? (i := 9) rfl))) (mvT hZ (hw _ (List.mem_of_getElem? (i := 10) rfl))) (mvT hZ (hw _ (List.mem_of_getElem? (i := 11) rfl))) (by decide) (backOf (W := 1) (rm2 l Z a0 hw [] b_3 sz c_5 wd nw h_3 n0 Z_4 g_5 hwd_ hn0_ hn1_ A_3 F_words_b_3 F_capture_b_3 g_b_3 hb7 hb15 hnw_) hZ (hw _ (List.mem_of_getElem? (i := 11) rfl)) (hw _ (List.mem_of_getElem? (i := 8) rfl)) (by decide) (by decide)) (g := (mkF m 86 #[.val (.long q0), .second, .val (.long q1), .second, .val (.long q2), .second, .val (.long q3), .second, .val (.int p4), .val (.long sz), .second, .val (.long ia), .second, .val (.long ib), .second, .val (.int md), .val (.long ib), .second, .val (.int sb), .unset, .unset, .unset, .unset] [(.long sz), (.ref b_3), (.ref b_3)])) rfl (by rw [hml]; rfl) (Steps.refl _) (a := b_3) (argsL := [(.long sz)]) (rest := [(.ref b_3)]) (lenOf pd_2 rfl) rfl (by show 2 * 0 + _ ≤ _; exact Nat.le_of_eq rfl) (hb hby at_86) (fun _ _ => ⟨rfl, e_3, (by decide : 1 + 1 ≤ _), (by decide : 2 + 16 ≤ _)⟩)
  dsimp only [Pt.U, Pt.locs, Pt.cells, Pt.slots] at X_5 l_5 y_5 z_5 st_5 hQ_5
  subst l_5 y_5 z_5
  obtain ⟨rfl, Nq_5, Kq_5, Fw_5, Fc_5, Vq_5⟩ := hQ_5
  have N_5 := Fr.app N_2 Nq_5
  have KK_5 : Keep h0 T_5.heap [] := K_3.trans Kq_5 (allS (Or.inr sz_b_3) all0)
  have Z_6 : n0 ≤ T_5.heap.size := Nat.le_trans Z_4 Kq_5.1
  have f_8_E_b_3 := (A_3.keep Kq_5)
  obtain ⟨cq_7, kq_7, q_7a, q_7b, q_7c⟩ := isOf hZ rfl f_8_E_b_3
  obtain ⟨_, _, ⟨T_7, L_7, k_7, n_7⟩, -, X_7, ⟨Lc_7, hQ_7, l_7, y_7, z_7⟩, st_7⟩ := X_5.virtualBack hx (y := (⟨"com/example/mussel/mussel/engine/BitArray", "get", "(J)Z"⟩ : MethodName)) (z := (⟨"com/example/mussel/mussel/engine/BitArray", "get", "(J)Z"⟩ : MethodName)) hown (mvT hZ (hw _ (List.mem_of_getElem? (i := 23) rfl))) (mvT hZ (hw _ (List.mem_of_getElem? (i := 24) rfl))) (notFace_of_selects (args := #[]) (mvT hZ (hw _ (List.mem_of_getElem? (i := 26) rfl)))) (mvT hZ (hw _ (List.mem_of_getElem? (i := 26) rfl))) (mvT hZ (hw _ (List.mem_of_getElem? (i := 25) rfl))) (by decide) (backOf (W := 0) (rm5 l Z a0 hw [] b_3 ib c_5 nw (fun _ => (Value.long (0 : Int64))) jc (0 : Int64) mc (own_get 0 mc) T_5.heap n0 Z_6 Fw_5 Vq_5 hjc0 hjc1 rfl (own_get_nar _ _) hjc_ hmc_ rfl) hZ (hw _ (List.mem_of_getElem? (i := 27) rfl)) (hw _ (List.mem_of_getElem? (i := 8) rfl)) (by decide) (by decide)) q_7a q_7c (g := (mkF m 95 #[.val (.long q0), .second, .val (.long q1), .second, .val (.long q2), .second, .val (.long q3), .second, .val (.int p4), .val (.long sz), .second, .val (.long ia), .second, .val (.long ib), .second, .val (.int md), .val (.long ib), .second, .val (.int sb), .val (.ref b_3), .unset, .unset, .unset] [(.long ib), (.ref b_3)])) rfl (by rw [hml]; rfl) (Steps.refl _) (argsL := [(.long ib)]) (rest := []) (lenOf pd_3 rfl) rfl (by show 2 * 0 + _ ≤ _; exact Nat.le_of_eq rfl) (hb hby at_95) (fun _ _ => ⟨rfl, rfl, (by decide : 2 + 0 ≤ _), (by decide : 18 + 0 ≤ _)⟩)
  dsimp only [Pt.U, Pt.locs, Pt.cells, Pt.slots] at X_7 l_7 y_7 z_7 st_7 hQ_7
  subst l_7 y_7 z_7
  obtain ⟨rfl, Nq_7, eq_7⟩ := hQ_7
  have N_7 := Fr.app N_5 Nq_7
  obtain ⟨cq_9, kq_9, q_9a, q_9b, q_9c⟩ := isOf hZ eq_7 f_8_E_b_3
  obtain ⟨_, _, ⟨T_9, L_9, k_9, n_9⟩, -, X_9, ⟨Lc_9, hQ_9, l_9, y_9, z_9⟩, st_9⟩ := X_7.virtualBack hx (y := (⟨"com/example/mussel/mussel/engine/BitArray", "set", "(J)Z"⟩ : MethodName)) (z := (⟨"com/example/mussel/mussel/engine/BitArray", "set", "(J)Z"⟩ : MethodName)) hown (mvT hZ (hw _ (List.mem_of_getElem? (i := 28) rfl))) (mvT hZ (hw _ (List.mem_of_getElem? (i := 29) rfl))) (notFace_of_selects (args := #[]) (mvT hZ (hw _ (List.mem_of_getElem? (i := 31) rfl)))) (mvT hZ (hw _ (List.mem_of_getElem? (i := 31) rfl))) (mvT hZ (hw _ (List.mem_of_getElem? (i := 30) rfl))) (by decide) (backOf (W := 0) (rm6 l Z a0 hw [] b_3 ia c_5 nw (fun _ => (Value.long (0 : Int64))) ja (0 : Int64) ma T_5.heap n0 Z_6 Fw_5 Vq_5 Fc_5 hja0 hja1 rfl g_c_5 ne_b_3_c_5 hja_ hma_ hor1_) hZ (hw _ (List.mem_of_getElem? (i := 32) rfl)) (hw _ (List.mem_of_getElem? (i := 8) rfl)) (by decide) (by decide)) q_9a q_9c (g := (mkF m 104 #[.val (.long q0), .second, .val (.long q1), .second, .val (.long q2), .second, .val (.long q3), .second, .val (.int p4), .val (.long sz), .second, .val (.long ia), .second, .val (.long ib), .second, .val (.int md), .val (.long ib), .second, .val (.int sb), .val (.ref b_3), .val (.int (own_get 0 mc)), .unset, .unset] [(.long ia), (.ref b_3)])) rfl (by rw [hml]; rfl) (Steps.refl _) (argsL := [(.long ia)]) (rest := []) (lenOf pd_3 rfl) rfl (by show 2 * 0 + _ ≤ _; exact Nat.le_of_eq rfl) (hb hby at_104) (fun _ _ => ⟨rfl, eq_7, (by decide : 2 + 0 ≤ _), (by decide : 18 + 0 ≤ _)⟩)
  dsimp only [Pt.U, Pt.locs, Pt.cells, Pt.slots] at X_9 l_9 y_9 z_9 st_9 hQ_9
  subst l_9 y_9 z_9
  obtain ⟨rfl, Nq_9, Kq_9, Vq_9⟩ := hQ_9
  have N_9 := Fr.app N_7 Nq_9
  have KK_9 : Keep h0 T_9.heap [] := KK_5.trans Kq_9 (allS (Or.inr sz_c_5) all0)
  have Z_10 : n0 ≤ T_9.heap.size := Nat.le_trans Z_6 Kq_9.1
  have f_12_F_b_3_words := (Fw_5.keep Kq_9 (ninS ne_b_3_c_5 nin0))
  have f_13_F_b_3_capture := (Fc_5.keep Kq_9 (ninS ne_b_3_c_5 nin0))
  have f_14_E_b_3 := (f_8_E_b_3.keep Kq_9)
  obtain ⟨cq_11, kq_11, q_11a, q_11b, q_11c⟩ := isOf hZ rfl f_14_E_b_3
  obtain ⟨_, _, ⟨T_11, L_11, k_11, n_11⟩, -, X_11, ⟨Lc_11, hQ_11, l_11, y_11, z_11⟩, st_11⟩ := X_9.virtualBack hx (y := (⟨"com/example/mussel/mussel/engine/BitArray", "set", "(J)Z"⟩ : MethodName)) (z := (⟨"com/example/mussel/mussel/engine/BitArray", "set", "(J)Z"⟩ : MethodName)) hown (mvT hZ (hw _ (List.mem_of_getElem? (i := 28) rfl))) (mvT hZ (hw _ (List.mem_of_getElem? (i := 29) rfl))) (notFace_of_selects (args := #[]) (mvT hZ (hw _ (List.mem_of_getElem? (i := 31) rfl)))) (mvT hZ (hw _ (List.mem_of_getElem? (i := 31) rfl))) (mvT hZ (hw _ (List.mem_of_getElem? (i := 30) rfl))) (by decide) (backOf (W := 0) (rm6 l Z a0 hw [] b_3 ib c_5 nw (fun j => if j = ja.toNatClampNeg then Value.long ((0 : Int64) ||| ma) else (fun _ => (Value.long (0 : Int64))) j) jb x2 mb T_9.heap n0 Z_10 f_12_F_b_3_words Vq_9 f_13_F_b_3_capture hjb0 hjb1 hx2_ g_c_5 ne_b_3_c_5 hjb_ hmb_ hor2_) hZ (hw _ (List.mem_of_getElem? (i := 32) rfl)) (hw _ (List.mem_of_getElem? (i := 8) rfl)) (by decide) (by decide)) q_11a q_11c (g := (mkF m 117 #[.val (.long q0), .second, .val (.long q1), .second, .val (.long q2), .second, .val (.long q3), .second, .val (.int p4), .val (.long sz), .second, .val (.long ia), .second, .val (.long ib), .second, .val (.int md), .val (.long ib), .second, .val (.int sb), .val (.ref b_3), .val (.int (own_get 0 mc)), .unset, .unset] [(.long ib), (.ref b_3)])) rfl (by rw [hml]; rfl) (Steps.refl _) (argsL := [(.long ib)]) (rest := []) (lenOf pd_3 rfl) rfl (by show 2 * 0 + _ ≤ _; exact Nat.le_of_eq rfl) (hb hby at_117) (fun _ _ => ⟨rfl, rfl, (by decide : 2 + 0 ≤ _), (by decide : 18 + 0 ≤ _)⟩)
  dsimp only [Pt.U, Pt.locs, Pt.cells, Pt.slots] at X_11 l_11 y_11 z_11 st_11 hQ_11
  subst l_11 y_11 z_11
  obtain ⟨rfl, Nq_11, Kq_11, Vq_11⟩ := hQ_11
  have N_11 := Fr.app N_9 Nq_11
  have KK_11 : Keep h0 T_11.heap [] := KK_9.trans Kq_11 (allS (Or.inr sz_c_5) all0)
  have Z_15 : n0 ≤ T_11.heap.size := Nat.le_trans Z_10 Kq_11.1
  have f_17_F_b_3_words := (f_12_F_b_3_words.keep Kq_11 (ninS ne_b_3_c_5 nin0))
  have f_18_E_b_3 := (f_14_E_b_3.keep Kq_11)
  obtain ⟨cq_16, kq_16, q_16a, q_16b, q_16c⟩ := isOf hZ rfl f_18_E_b_3
  obtain ⟨_, _, ⟨T_16, L_16, k_16, n_16⟩, -, X_16, ⟨Lc_16, hQ_16, l_16, y_16, z_16⟩, st_16⟩ := X_11.virtualBack hx (y := (⟨"com/example/mussel/mussel/engine/BitArray", "get", "(J)Z"⟩ : MethodName)) (z := (⟨"com/example/mussel/mussel/engine/BitArray", "get", "(J)Z"⟩ : MethodName)) hown (mvT hZ (hw _ (List.mem_of_getElem? (i := 23) rfl))) (mvT hZ (hw _ (List.mem_of_getElem? (i := 24) rfl))) (notFace_of_selects (args := #[]) (mvT hZ (hw _ (List.mem_of_getElem? (i := 26) rfl)))) (mvT hZ (hw _ (List.mem_of_getElem? (i := 26) rfl))) (mvT hZ (hw _ (List.mem_of_getElem? (i := 25) rfl))) (by decide) (backOf (W := 0) (rm5 l Z a0 hw [] b_3 ib c_5 nw (fun j => if j = jb.toNatClampNeg then Value.long (x2 ||| mb) else (fun j => if j = ja.toNatClampNeg then Value.long ((0 : Int64) ||| ma) else (fun _ => (Value.long (0 : Int64))) j) j) jc xc mc r1 T_11.heap n0 Z_15 f_17_F_b_3_words Vq_11 hjc0 hjc1 hxc_ (hr1_ ▸ own_get_nar _ _) hjc_ hmc_ hr1_) hZ (hw _ (List.mem_of_getElem? (i := 27) rfl)) (hw _ (List.mem_of_getElem? (i := 8) rfl)) (by decide) (by decide)) q_16a q_16c (g := (mkF m 125 #[.val (.long q0), .second, .val (.long q1), .second, .val (.long q2), .second, .val (.long q3), .second, .val (.int p4), .val (.long sz), .second, .val (.long ia), .second, .val (.long ib), .second, .val (.int md), .val (.long ib), .second, .val (.int sb), .val (.ref b_3), .val (.int (own_get 0 mc)), .unset, .unset] [(.long ib), (.ref b_3)])) rfl (by rw [hml]; rfl) (Steps.refl _) (argsL := [(.long ib)]) (rest := []) (lenOf pd_3 rfl) rfl (by show 2 * 0 + _ ≤ _; exact Nat.le_of_eq rfl) (hb hby at_125) (fun _ _ => ⟨rfl, rfl, (by decide : 2 + 0 ≤ _), (by decide : 18 + 0 ≤ _)⟩)
  dsimp only [Pt.U, Pt.locs, Pt.cells, Pt.slots] at X_16 l_16 y_16 z_16 st_16 hQ_16
  subst l_16 y_16 z_16
  obtain ⟨rfl, Nq_16, eq_16⟩ := hQ_16
  have N_16 := Fr.app N_11 Nq_16
  obtain ⟨fs, hr, hrun, hended, hW, hsame⟩ := X_16.leave (v := some (.int (1 : Int32))) (fun h => by rw [Bd.returns] at h; cases h)
  refine ⟨_, _, pre0 _ ?_, hrun, hended, _, _, rfl, ?_, ⟨_, rfl⟩, hW, hsame.mono (by decide) (by decide)⟩
  · show Steps p.tables e below (s₁.setTop (mkF m 0 #[.val (.long q0), .second, .val (.long q1), .second, .val (.long q2), .second, .val (.long q3), .second, .val (.int p4), .unset, .unset, .unset, .unset, .unset, .unset, .unset, .unset, .unset, .unset, .unset, .unset, .unset, .unset] [])) _
    refine XS.lconst X0.here hx rfl (hb hby at_0) ?_
    show Steps p.tables e below (s₁.setTop (mkF m 1 #[.val (.long q0), .second, .val (.long q1), .second, .val (.long q2), .second, .val (.long q3), .second, .val (.int p4), .unset, .unset, .unset, .unset, .unset, .unset, .unset, .unset, .unset, .unset, .unset, .unset, .unset, .unset] [(.long (1 : Int64))])) _
    refine XS.lloadN X0.here hx rfl (hb hby at_1) rfl ?_
    show Steps p.tables e below (s₁.setTop (mkF m 2 #[.val (.long q0), .second, .val (.long q1), .second, .val (.long q2), .second, .val (.long q3), .second, .val (.int p4), .unset, .unset, .unset, .unset, .unset, .unset, .unset, .unset, .unset, .unset, .unset, .unset, .unset, .unset] [(.long q0), (.long (1 : Int64))])) _
    refine X0.ldc2Long hx hown (mvT hZ (hw _ (List.mem_of_getElem? (i := 0) rfl))) (g := (mkF m 2 #[.val (.long q0), .second, .val (.long q1), .second, .val (.long q2), .second, .val (.long q3), .second, .val (.int p4), .unset, .unset, .unset, .unset, .unset, .unset, .unset, .unset, .unset, .unset, .unset, .unset, .unset, .unset] [(.long q0), (.long (1 : Int64))])) rfl (hb hby at_2) _ ?_
    show Steps p.tables e below (s₁.setTop (mkF m 5 #[.val (.long q0), .second, .val (.long q1), .second, .val (.long q2), .second, .val (.long q3), .second, .val (.int p4), .unset, .unset, .unset, .unset, .unset, .unset, .unset, .unset, .unset, .unset, .unset, .unset, .unset, .unset] [(.long (1023 : Int64)), (.long q0), (.long (1 : Int64))])) _
    refine XS.land X0.here hx rfl (hb hby at_5) rfl ?_
    show Steps p.tables e below (s₁.setTop (mkF m 6 #[.val (.long q0), .second, .val (.long q1), .second, .val (.long q2), .second, .val (.long q3), .second, .val (.int p4), .unset, .unset, .unset, .unset, .unset, .unset, .unset, .unset, .unset, .unset, .unset, .unset, .unset, .unset] [(.long (q0 &&& (1023 : Int64))), (.long (1 : Int64))])) _
    refine XS.ladd X0.here hx rfl (hb hby at_6) rfl ?_
    show Steps p.tables e below (s₁.setTop (mkF m 7 #[.val (.long q0), .second, .val (.long q1), .second, .val (.long q2), .second, .val (.long q3), .second, .val (.int p4), .unset, .unset, .unset, .unset, .unset, .unset, .unset, .unset, .unset, .unset, .unset, .unset, .unset, .unset] [(.long ((1 : Int64) + (q0 &&& (1023 : Int64))))])) _
    rw [hs_]
    show Steps p.tables e below (s₁.setTop (mkF m 7 #[.val (.long q0), .second, .val (.long q1), .second, .val (.long q2), .second, .val (.long q3), .second, .val (.int p4), .unset, .unset, .unset, .unset, .unset, .unset, .unset, .unset, .unset, .unset, .unset, .unset, .unset, .unset] [(.long sz)])) _
    refine XS.lstore X0.here hx rfl (hb hby at_7) rfl (l' := #[.val (.long q0), .second, .val (.long q1), .second, .val (.long q2), .second, .val (.long q3), .second, .val (.int p4), .val (.long sz), .second, .unset, .unset, .unset, .unset, .unset, .unset, .unset, .unset, .unset, .unset, .unset, .unset]) rfl ?_
    show Steps p.tables e below (s₁.setTop (mkF m 9 #[.val (.long q0), .second, .val (.long q1), .second, .val (.long q2), .second, .val (.long q3), .second, .val (.int p4), .val (.long sz), .second, .unset, .unset, .unset, .unset, .unset, .unset, .unset, .unset, .unset, .unset, .unset, .unset] [])) _
    refine XS.lloadN X0.here hx rfl (hb hby at_9) rfl ?_
    show Steps p.tables e below (s₁.setTop (mkF m 10 #[.val (.long q0), .second, .val (.long q1), .second, .val (.long q2), .second, .val (.long q3), .second, .val (.int p4), .val (.long sz), .second, .unset, .unset, .unset, .unset, .unset, .unset, .unset, .unset, .unset, .unset, .unset, .unset] [(.long q1)])) _
    refine XS.lload X0.here hx rfl (hb hby at_10) rfl ?_
    show Steps p.tables e below (s₁.setTop (mkF m 12 #[.val (.long q0), .second, .val (.long q1), .second, .val (.long q2), .second, .val (.long q3), .second, .val (.int p4), .val (.long sz), .second, .unset, .unset, .unset, .unset, .unset, .unset, .unset, .unset, .unset, .unset, .unset, .unset] [(.long sz), (.long q1)])) _
    refine st_1 _ ?_
    show Steps p.tables e below (T_1.setTop (mkF m 15 #[.val (.long q0), .second, .val (.long q1), .second, .val (.long q2), .second, .val (.long q3), .second, .val (.int p4), .val (.long sz), .second, .unset, .unset, .unset, .unset, .unset, .unset, .unset, .unset, .unset, .unset, .unset, .unset] [(.long ia)])) _
    refine XS.lstore X_1.here hx rfl (hb hby at_15) rfl (l' := #[.val (.long q0), .second, .val (.long q1), .second, .val (.long q2), .second, .val (.long q3), .second, .val (.int p4), .val (.long sz), .second, .val (.long ia), .second, .unset, .unset, .unset, .unset, .unset, .unset, .unset, .unset, .unset, .unset]) rfl ?_
    show Steps p.tables e below (T_1.setTop (mkF m 17 #[.val (.long q0), .second, .val (.long q1), .second, .val (.long q2), .second, .val (.long q3), .second, .val (.int p4), .val (.long sz), .second, .val (.long ia), .second, .unset, .unset, .unset, .unset, .unset, .unset, .unset, .unset, .unset, .unset] [])) _
    refine XS.lload X_1.here hx rfl (hb hby at_17) rfl ?_
    show Steps p.tables e below (T_1.setTop (mkF m 19 #[.val (.long q0), .second, .val (.long q1), .second, .val (.long q2), .second, .val (.long q3), .second, .val (.int p4), .val (.long sz), .second, .val (.long ia), .second, .unset, .unset, .unset, .unset, .unset, .unset, .unset, .unset, .unset, .unset] [(.long q2)])) _
    refine XS.lload X_1.here hx rfl (hb hby at_19) rfl ?_
    show Steps p.tables e below (T_1.setTop (mkF m 21 #[.val (.long q0), .second, .val (.long q1), .second, .val (.long q2), .second, .val (.long q3), .second, .val (.int p4), .val (.long sz), .second, .val (.long ia), .second, .unset, .unset, .unset, .unset, .unset, .unset, .unset, .unset, .unset, .unset] [(.long sz), (.long q2)])) _
    refine st_2 _ ?_
    show Steps p.tables e below (T_2.setTop (mkF m 24 #[.val (.long q0), .second, .val (.long q1), .second, .val (.long q2), .second, .val (.long q3), .second, .val (.int p4), .val (.long sz), .second, .val (.long ia), .second, .unset, .unset, .unset, .unset, .unset, .unset, .unset, .unset, .unset, .unset] [(.long ib)])) _
    refine XS.lstore X_2.here hx rfl (hb hby at_24) rfl (l' := #[.val (.long q0), .second, .val (.long q1), .second, .val (.long q2), .second, .val (.long q3), .second, .val (.int p4), .val (.long sz), .second, .val (.long ia), .second, .val (.long ib), .second, .unset, .unset, .unset, .unset, .unset, .unset, .unset, .unset]) rfl ?_
    show Steps p.tables e below (T_2.setTop (mkF m 26 #[.val (.long q0), .second, .val (.long q1), .second, .val (.long q2), .second, .val (.long q3), .second, .val (.int p4), .val (.long sz), .second, .val (.long ia), .second, .val (.long ib), .second, .unset, .unset, .unset, .unset, .unset, .unset, .unset, .unset] [])) _
    refine XS.iload X_2.here hx rfl (hb hby at_26) rfl ?_
    show Steps p.tables e below (T_2.setTop (mkF m 28 #[.val (.long q0), .second, .val (.long q1), .second, .val (.long q2), .second, .val (.long q3), .second, .val (.int p4), .val (.long sz), .second, .val (.long ia), .second, .val (.long ib), .second, .unset, .unset, .unset, .unset, .unset, .unset, .unset, .unset] [(.int p4)])) _
    refine XS.iconst X_2.here hx rfl (hb hby at_28) ?_
    show Steps p.tables e below (T_2.setTop (mkF m 29 #[.val (.long q0), .second, .val (.long q1), .second, .val (.long q2), .second, .val (.long q3), .second, .val (.int p4), .val (.long sz), .second, .val (.long ia), .second, .val (.long ib), .second, .unset, .unset, .unset, .unset, .unset, .unset, .unset, .unset] [(.int (3 : Int32)), (.int p4)])) _
    refine XS.iand X_2.here hx rfl (hb hby at_29) rfl ?_
    show Steps p.tables e below (T_2.setTop (mkF m 30 #[.val (.long q0), .second, .val (.long q1), .second, .val (.long q2), .second, .val (.long q3), .second, .val (.int p4), .val (.long sz), .second, .val (.long ia), .second, .val (.long ib), .second, .unset, .unset, .unset, .unset, .unset, .unset, .unset, .unset] [(.int (p4 &&& (3 : Int32)))])) _
    rw [hmd_]
    show Steps p.tables e below (T_2.setTop (mkF m 30 #[.val (.long q0), .second, .val (.long q1), .second, .val (.long q2), .second, .val (.long q3), .second, .val (.int p4), .val (.long sz), .second, .val (.long ia), .second, .val (.long ib), .second, .unset, .unset, .unset, .unset, .unset, .unset, .unset, .unset] [(.int md)])) _
    refine XS.istore X_2.here hx rfl (hb hby at_30) rfl (l' := #[.val (.long q0), .second, .val (.long q1), .second, .val (.long q2), .second, .val (.long q3), .second, .val (.int p4), .val (.long sz), .second, .val (.long ia), .second, .val (.long ib), .second, .val (.int md), .unset, .unset, .unset, .unset, .unset, .unset, .unset]) rfl ?_
    show Steps p.tables e below (T_2.setTop (mkF m 32 #[.val (.long q0), .second, .val (.long q1), .second, .val (.long q2), .second, .val (.long q3), .second, .val (.int p4), .val (.long sz), .second, .val (.long ia), .second, .val (.long ib), .second, .val (.int md), .unset, .unset, .unset, .unset, .unset, .unset, .unset] [])) _
    refine XS.iload X_2.here hx rfl (hb hby at_32) rfl ?_
    show Steps p.tables e below (T_2.setTop (mkF m 34 #[.val (.long q0), .second, .val (.long q1), .second, .val (.long q2), .second, .val (.long q3), .second, .val (.int p4), .val (.long sz), .second, .val (.long ia), .second, .val (.long ib), .second, .val (.int md), .unset, .unset, .unset, .unset, .unset, .unset, .unset] [(.int md)])) _
    refine XS.ifYes X_2.here hx rfl (pc0 := 34) (pc' := 44) rfl (hb hby at_34) rfl ((if0 _ _).trans (feq hc34).2) (by decide) (by decide) ?_
    show Steps p.tables e below (T_2.setTop (mkF m 44 #[.val (.long q0), .second, .val (.long q1), .second, .val (.long q2), .second, .val (.long q3), .second, .val (.int p4), .val (.long sz), .second, .val (.long ia), .second, .val (.long ib), .second, .val (.int md), .unset, .unset, .unset, .unset, .unset, .unset, .unset] [])) _
    refine XS.iload X_2.here hx rfl (hb hby at_44) rfl ?_
    show Steps p.tables e below (T_2.setTop (mkF m 46 #[.val (.long q0), .second, .val (.long q1), .second, .val (.long q2), .second, .val (.long q3), .second, .val (.int p4), .val (.long sz), .second, .val (.long ia), .second, .val (.long ib), .second, .val (.int md), .unset, .unset, .unset, .unset, .unset, .unset, .unset] [(.int md)])) _
    refine XS.iconst X_2.here hx rfl (hb hby at_46) ?_
    show Steps p.tables e below (T_2.setTop (mkF m 47 #[.val (.long q0), .second, .val (.long q1), .second, .val (.long q2), .second, .val (.long q3), .second, .val (.int p4), .val (.long sz), .second, .val (.long ia), .second, .val (.long ib), .second, .val (.int md), .unset, .unset, .unset, .unset, .unset, .unset, .unset] [(.int (1 : Int32)), (.int md)])) _
    refine XS.icmpNo X_2.here hx rfl (hb hby at_47) rfl (teq hc47).2 ?_
    show Steps p.tables e below (T_2.setTop (mkF m 50 #[.val (.long q0), .second, .val (.long q1), .second, .val (.long q2), .second, .val (.long q3), .second, .val (.int p4), .val (.long sz), .second, .val (.long ia), .second, .val (.long ib), .second, .val (.int md), .unset, .unset, .unset, .unset, .unset, .unset, .unset] [])) _
    refine XS.lload X_2.here hx rfl (hb hby at_50) rfl ?_
    show Steps p.tables e below (T_2.setTop (mkF m 52 #[.val (.long q0), .second, .val (.long q1), .second, .val (.long q2), .second, .val (.long q3), .second, .val (.int p4), .val (.long sz), .second, .val (.long ia), .second, .val (.long ib), .second, .val (.int md), .unset, .unset, .unset, .unset, .unset, .unset, .unset] [(.long ib)])) _
    refine XS.lstore X_2.here hx rfl (hb hby at_52) rfl (l' := #[.val (.long q0), .second, .val (.long q1), .second, .val (.long q2), .second, .val (.long q3), .second, .val (.int p4), .val (.long sz), .second, .val (.long ia), .second, .val (.long ib), .second, .val (.int md), .val (.long ib), .second, .unset, .unset, .unset, .unset, .unset]) rfl ?_
    show Steps p.tables e below (T_2.setTop (mkF m 54 #[.val (.long q0), .second, .val (.long q1), .second, .val (.long q2), .second, .val (.long q3), .second, .val (.int p4), .val (.long sz), .second, .val (.long ia), .second, .val (.long ib), .second, .val (.int md), .val (.long ib), .second, .unset, .unset, .unset, .unset, .unset] [])) _
    refine XS.goto X_2.here hx rfl (pc0 := 54) (pc' := 66) rfl (hb hby at_54) (by decide) (by decide) ?_
    show Steps p.tables e below (T_2.setTop (mkF m 66 #[.val (.long q0), .second, .val (.long q1), .second, .val (.long q2), .second, .val (.long q3), .second, .val (.int p4), .val (.long sz), .second, .val (.long ia), .second, .val (.long ib), .second, .val (.int md), .val (.long ib), .second, .unset, .unset, .unset, .unset, .unset] [])) _
    refine XS.iload X_2.here hx rfl (hb hby at_66) rfl ?_
    show Steps p.tables e below (T_2.setTop (mkF m 68 #[.val (.long q0), .second, .val (.long q1), .second, .val (.long q2), .second, .val (.long q3), .second, .val (.int p4), .val (.long sz), .second, .val (.long ia), .second, .val (.long ib), .second, .val (.int md), .val (.long ib), .second, .unset, .unset, .unset, .unset, .unset] [(.int p4)])) _
    refine XS.iconst X_2.here hx rfl (hb hby at_68) ?_
    show Steps p.tables e below (T_2.setTop (mkF m 69 #[.val (.long q0), .second, .val (.long q1), .second, .val (.long q2), .second, .val (.long q3), .second, .val (.int p4), .val (.long sz), .second, .val (.long ia), .second, .val (.long ib), .second, .val (.int md), .val (.long ib), .second, .unset, .unset, .unset, .unset, .unset] [(.int (4 : Int32)), (.int p4)])) _
    refine XS.iand X_2.here hx rfl (hb hby at_69) rfl ?_
    have jn70 : ∀ target, Steps p.tables e below (T_2.setTop (mkF m 78 #[.val (.long q0), .second, .val (.long q1), .second, .val (.long q2), .second, .val (.long q3), .second, .val (.int p4), .val (.long sz), .second, .val (.long ia), .second, .val (.long ib), .second, .val (.int md), .val (.long ib), .second, .unset, .unset, .unset, .unset, .unset] [(.int sb)])) target → Steps p.tables e below (T_2.setTop (mkF m 70 #[.val (.long q0), .second, .val (.long q1), .second, .val (.long q2), .second, .val (.long q3), .second, .val (.int p4), .val (.long sz), .second, .val (.long ia), .second, .val (.long ib), .second, .val (.int md), .val (.long ib), .second, .unset, .unset, .unset, .unset, .unset] [(.int (p4 &&& (4 : Int32)))])) target := by
      intro target kt
      show Steps p.tables e below (T_2.setTop (mkF m 70 #[.val (.long q0), .second, .val (.long q1), .second, .val (.long q2), .second, .val (.long q3), .second, .val (.int p4), .val (.long sz), .second, .val (.long ia), .second, .val (.long ib), .second, .val (.int md), .val (.long ib), .second, .unset, .unset, .unset, .unset, .unset] [(.int (p4 &&& (4 : Int32)))])) _
      by_cases hj70_0 : (p4 &&& (4 : Int32)) = (0 : Int32)
      · refine XS.ifYes X_2.here hx rfl (pc0 := 70) (pc' := 77) rfl (hb hby at_70) rfl ((if0 _ _).trans (teq hj70_0).1) (by decide) (by decide) ?_
        show Steps p.tables e below (T_2.setTop (mkF m 77 #[.val (.long q0), .second, .val (.long q1), .second, .val (.long q2), .second, .val (.long q3), .second, .val (.int p4), .val (.long sz), .second, .val (.long ia), .second, .val (.long ib), .second, .val (.int md), .val (.long ib), .second, .unset, .unset, .unset, .unset, .unset] [])) _
        refine XS.iconst X_2.here hx rfl (hb hby at_77) ?_
        rw [← hsb_, if_pos hj70_0] at kt
        exact kt
      · refine XS.ifNo X_2.here hx rfl (hb hby at_70) rfl ((if0 _ _).trans (feq hj70_0).1) ?_
        show Steps p.tables e below (T_2.setTop (mkF m 73 #[.val (.long q0), .second, .val (.long q1), .second, .val (.long q2), .second, .val (.long q3), .second, .val (.int p4), .val (.long sz), .second, .val (.long ia), .second, .val (.long ib), .second, .val (.int md), .val (.long ib), .second, .unset, .unset, .unset, .unset, .unset] [])) _
        refine XS.iconst X_2.here hx rfl (hb hby at_73) ?_
        show Steps p.tables e below (T_2.setTop (mkF m 74 #[.val (.long q0), .second, .val (.long q1), .second, .val (.long q2), .second, .val (.long q3), .second, .val (.int p4), .val (.long sz), .second, .val (.long ia), .second, .val (.long ib), .second, .val (.int md), .val (.long ib), .second, .unset, .unset, .unset, .unset, .unset] [(.int (1 : Int32))])) _
        refine XS.goto X_2.here hx rfl (pc0 := 74) (pc' := 78) rfl (hb hby at_74) (by decide) (by decide) ?_
        rw [← hsb_, if_neg hj70_0] at kt
        exact kt
    refine jn70 _ ?_
    show Steps p.tables e below (T_2.setTop (mkF m 78 #[.val (.long q0), .second, .val (.long q1), .second, .val (.long q2), .second, .val (.long q3), .second, .val (.int p4), .val (.long sz), .second, .val (.long ia), .second, .val (.long ib), .second, .val (.int md), .val (.long ib), .second, .unset, .unset, .unset, .unset, .unset] [(.int sb)])) _
    refine XS.istore X_2.here hx rfl (hb hby at_78) rfl (l' := #[.val (.long q0), .second, .val (.long q1), .second, .val (.long q2), .second, .val (.long q3), .second, .val (.int p4), .val (.long sz), .second, .val (.long ia), .second, .val (.long ib), .second, .val (.int md), .val (.long ib), .second, .val (.int sb), .unset, .unset, .unset, .unset]) rfl ?_
    show Steps p.tables e below (T_2.setTop (mkF m 80 #[.val (.long q0), .second, .val (.long q1), .second, .val (.long q2), .second, .val (.long q3), .second, .val (.int p4), .val (.long sz), .second, .val (.long ia), .second, .val (.long ib), .second, .val (.int md), .val (.long ib), .second, .val (.int sb), .unset, .unset, .unset, .unset] [])) _
    refine st_3 _ ?_
    show Steps p.tables e below (T_3.setTop (mkF m 83 #[.val (.long q0), .second, .val (.long q1), .second, .val (.long q2), .second, .val (.long q3), .second, .val (.int p4), .val (.long sz), .second, .val (.long ia), .second, .val (.long ib), .second, .val (.int md), .val (.long ib), .second, .val (.int sb), .unset, .unset, .unset, .unset] [(.ref b_3)])) _
    refine XS.dup X_3.here hx rfl (hb hby at_83) rfl rfl ?_
    show Steps p.tables e below (T_3.setTop (mkF m 84 #[.val (.long q0), .second, .val (.long q1), .second, .val (.long q2), .second, .val (.long q3), .second, .val (.int p4), .val (.long sz), .second, .val (.long ia), .second, .val (.long ib), .second, .val (.int md), .val (.long ib), .second, .val (.int sb), .unset, .unset, .unset, .unset] [(.ref b_3), (.ref b_3)])) _
    refine XS.lload X_3.here hx rfl (hb hby at_84) rfl ?_
    show Steps p.tables e below (T_3.setTop (mkF m 86 #[.val (.long q0), .second, .val (.long q1), .second, .val (.long q2), .second, .val (.long q3), .second, .val (.int p4), .val (.long sz), .second, .val (.long ia), .second, .val (.long ib), .second, .val (.int md), .val (.long ib), .second, .val (.int sb), .unset, .unset, .unset, .unset] [(.long sz), (.ref b_3), (.ref b_3)])) _
    refine st_5.trans ?_
    show Steps p.tables e below (T_5.setTop (mkF m 89 #[.val (.long q0), .second, .val (.long q1), .second, .val (.long q2), .second, .val (.long q3), .second, .val (.int p4), .val (.long sz), .second, .val (.long ia), .second, .val (.long ib), .second, .val (.int md), .val (.long ib), .second, .val (.int sb), .unset, .unset, .unset, .unset] [(.ref b_3)])) _
    refine XS.astore X_5.here hx rfl (hb hby at_89) rfl rfl (l' := #[.val (.long q0), .second, .val (.long q1), .second, .val (.long q2), .second, .val (.long q3), .second, .val (.int p4), .val (.long sz), .second, .val (.long ia), .second, .val (.long ib), .second, .val (.int md), .val (.long ib), .second, .val (.int sb), .val (.ref b_3), .unset, .unset, .unset]) rfl ?_
    show Steps p.tables e below (T_5.setTop (mkF m 91 #[.val (.long q0), .second, .val (.long q1), .second, .val (.long q2), .second, .val (.long q3), .second, .val (.int p4), .val (.long sz), .second, .val (.long ia), .second, .val (.long ib), .second, .val (.int md), .val (.long ib), .second, .val (.int sb), .val (.ref b_3), .unset, .unset, .unset] [])) _
    refine XS.aload X_5.here hx rfl (hb hby at_91) rfl rfl ?_
    show Steps p.tables e below (T_5.setTop (mkF m 93 #[.val (.long q0), .second, .val (.long q1), .second, .val (.long q2), .second, .val (.long q3), .second, .val (.int p4), .val (.long sz), .second, .val (.long ia), .second, .val (.long ib), .second, .val (.int md), .val (.long ib), .second, .val (.int sb), .val (.ref b_3), .unset, .unset, .unset] [(.ref b_3)])) _
    refine XS.lload X_5.here hx rfl (hb hby at_93) rfl ?_
    show Steps p.tables e below (T_5.setTop (mkF m 95 #[.val (.long q0), .second, .val (.long q1), .second, .val (.long q2), .second, .val (.long q3), .second, .val (.int p4), .val (.long sz), .second, .val (.long ia), .second, .val (.long ib), .second, .val (.int md), .val (.long ib), .second, .val (.int sb), .val (.ref b_3), .unset, .unset, .unset] [(.long ib), (.ref b_3)])) _
    refine st_7.trans ?_
    show Steps p.tables e below (T_7.setTop (mkF m 98 #[.val (.long q0), .second, .val (.long q1), .second, .val (.long q2), .second, .val (.long q3), .second, .val (.int p4), .val (.long sz), .second, .val (.long ia), .second, .val (.long ib), .second, .val (.int md), .val (.long ib), .second, .val (.int sb), .val (.ref b_3), .unset, .unset, .unset] [(.int (own_get 0 mc))])) _
    refine XS.istore X_7.here hx rfl (hb hby at_98) rfl (l' := #[.val (.long q0), .second, .val (.long q1), .second, .val (.long q2), .second, .val (.long q3), .second, .val (.int p4), .val (.long sz), .second, .val (.long ia), .second, .val (.long ib), .second, .val (.int md), .val (.long ib), .second, .val (.int sb), .val (.ref b_3), .val (.int (own_get 0 mc)), .unset, .unset]) rfl ?_
    show Steps p.tables e below (T_7.setTop (mkF m 100 #[.val (.long q0), .second, .val (.long q1), .second, .val (.long q2), .second, .val (.long q3), .second, .val (.int p4), .val (.long sz), .second, .val (.long ia), .second, .val (.long ib), .second, .val (.int md), .val (.long ib), .second, .val (.int sb), .val (.ref b_3), .val (.int (own_get 0 mc)), .unset, .unset] [])) _
    refine XS.aload X_7.here hx rfl (hb hby at_100) rfl rfl ?_
    show Steps p.tables e below (T_7.setTop (mkF m 102 #[.val (.long q0), .second, .val (.long q1), .second, .val (.long q2), .second, .val (.long q3), .second, .val (.int p4), .val (.long sz), .second, .val (.long ia), .second, .val (.long ib), .second, .val (.int md), .val (.long ib), .second, .val (.int sb), .val (.ref b_3), .val (.int (own_get 0 mc)), .unset, .unset] [(.ref b_3)])) _
    refine XS.lload X_7.here hx rfl (hb hby at_102) rfl ?_
    show Steps p.tables e below (T_7.setTop (mkF m 104 #[.val (.long q0), .second, .val (.long q1), .second, .val (.long q2), .second, .val (.long q3), .second, .val (.int p4), .val (.long sz), .second, .val (.long ia), .second, .val (.long ib), .second, .val (.int md), .val (.long ib), .second, .val (.int sb), .val (.ref b_3), .val (.int (own_get 0 mc)), .unset, .unset] [(.long ia), (.ref b_3)])) _
    refine st_9.trans ?_
    show Steps p.tables e below (T_9.setTop (mkF m 107 #[.val (.long q0), .second, .val (.long q1), .second, .val (.long q2), .second, .val (.long q3), .second, .val (.int p4), .val (.long sz), .second, .val (.long ia), .second, .val (.long ib), .second, .val (.int md), .val (.long ib), .second, .val (.int sb), .val (.ref b_3), .val (.int (own_get 0 mc)), .unset, .unset] [(.int (own_ch (0 : Int64) ma))])) _
    refine XS.pop X_9.here hx rfl (hb hby at_107) rfl rfl ?_
    show Steps p.tables e below (T_9.setTop (mkF m 108 #[.val (.long q0), .second, .val (.long q1), .second, .val (.long q2), .second, .val (.long q3), .second, .val (.int p4), .val (.long sz), .second, .val (.long ia), .second, .val (.long ib), .second, .val (.int md), .val (.long ib), .second, .val (.int sb), .val (.ref b_3), .val (.int (own_get 0 mc)), .unset, .unset] [])) _
    refine XS.iload X_9.here hx rfl (hb hby at_108) rfl ?_
    show Steps p.tables e below (T_9.setTop (mkF m 110 #[.val (.long q0), .second, .val (.long q1), .second, .val (.long q2), .second, .val (.long q3), .second, .val (.int p4), .val (.long sz), .second, .val (.long ia), .second, .val (.long ib), .second, .val (.int md), .val (.long ib), .second, .val (.int sb), .val (.ref b_3), .val (.int (own_get 0 mc)), .unset, .unset] [(.int sb)])) _
    refine XS.ifNo X_9.here hx rfl (hb hby at_110) rfl ((if0 _ _).trans (feq hc110).1) ?_
    show Steps p.tables e below (T_9.setTop (mkF m 113 #[.val (.long q0), .second, .val (.long q1), .second, .val (.long q2), .second, .val (.long q3), .second, .val (.int p4), .val (.long sz), .second, .val (.long ia), .second, .val (.long ib), .second, .val (.int md), .val (.long ib), .second, .val (.int sb), .val (.ref b_3), .val (.int (own_get 0 mc)), .unset, .unset] [])) _
    refine XS.aload X_9.here hx rfl (hb hby at_113) rfl rfl ?_
    show Steps p.tables e below (T_9.setTop (mkF m 115 #[.val (.long q0), .second, .val (.long q1), .second, .val (.long q2), .second, .val (.long q3), .second, .val (.int p4), .val (.long sz), .second, .val (.long ia), .second, .val (.long ib), .second, .val (.int md), .val (.long ib), .second, .val (.int sb), .val (.ref b_3), .val (.int (own_get 0 mc)), .unset, .unset] [(.ref b_3)])) _
    refine XS.lload X_9.here hx rfl (hb hby at_115) rfl ?_
    show Steps p.tables e below (T_9.setTop (mkF m 117 #[.val (.long q0), .second, .val (.long q1), .second, .val (.long q2), .second, .val (.long q3), .second, .val (.int p4), .val (.long sz), .second, .val (.long ia), .second, .val (.long ib), .second, .val (.int md), .val (.long ib), .second, .val (.int sb), .val (.ref b_3), .val (.int (own_get 0 mc)), .unset, .unset] [(.long ib), (.ref b_3)])) _
    refine st_11.trans ?_
    show Steps p.tables e below (T_11.setTop (mkF m 120 #[.val (.long q0), .second, .val (.long q1), .second, .val (.long q2), .second, .val (.long q3), .second, .val (.int p4), .val (.long sz), .second, .val (.long ia), .second, .val (.long ib), .second, .val (.int md), .val (.long ib), .second, .val (.int sb), .val (.ref b_3), .val (.int (own_get 0 mc)), .unset, .unset] [(.int (own_ch x2 mb))])) _
    refine XS.pop X_11.here hx rfl (hb hby at_120) rfl rfl ?_
    show Steps p.tables e below (T_11.setTop (mkF m 121 #[.val (.long q0), .second, .val (.long q1), .second, .val (.long q2), .second, .val (.long q3), .second, .val (.int p4), .val (.long sz), .second, .val (.long ia), .second, .val (.long ib), .second, .val (.int md), .val (.long ib), .second, .val (.int sb), .val (.ref b_3), .val (.int (own_get 0 mc)), .unset, .unset] [])) _
    refine XS.aload X_11.here hx rfl (hb hby at_121) rfl rfl ?_
    show Steps p.tables e below (T_11.setTop (mkF m 123 #[.val (.long q0), .second, .val (.long q1), .second, .val (.long q2), .second, .val (.long q3), .second, .val (.int p4), .val (.long sz), .second, .val (.long ia), .second, .val (.long ib), .second, .val (.int md), .val (.long ib), .second, .val (.int sb), .val (.ref b_3), .val (.int (own_get 0 mc)), .unset, .unset] [(.ref b_3)])) _
    refine XS.lload X_11.here hx rfl (hb hby at_123) rfl ?_
    show Steps p.tables e below (T_11.setTop (mkF m 125 #[.val (.long q0), .second, .val (.long q1), .second, .val (.long q2), .second, .val (.long q3), .second, .val (.int p4), .val (.long sz), .second, .val (.long ia), .second, .val (.long ib), .second, .val (.int md), .val (.long ib), .second, .val (.int sb), .val (.ref b_3), .val (.int (own_get 0 mc)), .unset, .unset] [(.long ib), (.ref b_3)])) _
    refine st_16.trans ?_
    show Steps p.tables e below (T_16.setTop (mkF m 128 #[.val (.long q0), .second, .val (.long q1), .second, .val (.long q2), .second, .val (.long q3), .second, .val (.int p4), .val (.long sz), .second, .val (.long ia), .second, .val (.long ib), .second, .val (.int md), .val (.long ib), .second, .val (.int sb), .val (.ref b_3), .val (.int (own_get 0 mc)), .unset, .unset] [(.int r1)])) _
    refine XS.istore X_16.here hx rfl (hb hby at_128) rfl (l' := #[.val (.long q0), .second, .val (.long q1), .second, .val (.long q2), .second, .val (.long q3), .second, .val (.int p4), .val (.long sz), .second, .val (.long ia), .second, .val (.long ib), .second, .val (.int md), .val (.long ib), .second, .val (.int sb), .val (.ref b_3), .val (.int (own_get 0 mc)), .val (.int r1), .unset]) rfl ?_
    have jn130 : ∀ target, Steps p.tables e below (T_16.setTop (mkF m 156 #[.val (.long q0), .second, .val (.long q1), .second, .val (.long q2), .second, .val (.long q3), .second, .val (.int p4), .val (.long sz), .second, .val (.long ia), .second, .val (.long ib), .second, .val (.int md), .val (.long ib), .second, .val (.int sb), .val (.ref b_3), .val (.int (own_get 0 mc)), .val (.int r1), .unset] [(.int ex)])) target → Steps p.tables e below (T_16.setTop (mkF m 130 #[.val (.long q0), .second, .val (.long q1), .second, .val (.long q2), .second, .val (.long q3), .second, .val (.int p4), .val (.long sz), .second, .val (.long ia), .second, .val (.long ib), .second, .val (.int md), .val (.long ib), .second, .val (.int sb), .val (.ref b_3), .val (.int (own_get 0 mc)), .val (.int r1), .unset] [])) target := by
      intro target kt
      show Steps p.tables e below (T_16.setTop (mkF m 130 #[.val (.long q0), .second, .val (.long q1), .second, .val (.long q2), .second, .val (.long q3), .second, .val (.int p4), .val (.long sz), .second, .val (.long ia), .second, .val (.long ib), .second, .val (.int md), .val (.long ib), .second, .val (.int sb), .val (.ref b_3), .val (.int (own_get 0 mc)), .val (.int r1), .unset] [])) _
      refine XS.lload X_16.here hx rfl (hb hby at_130) rfl ?_
      show Steps p.tables e below (T_16.setTop (mkF m 132 #[.val (.long q0), .second, .val (.long q1), .second, .val (.long q2), .second, .val (.long q3), .second, .val (.int p4), .val (.long sz), .second, .val (.long ia), .second, .val (.long ib), .second, .val (.int md), .val (.long ib), .second, .val (.int sb), .val (.ref b_3), .val (.int (own_get 0 mc)), .val (.int r1), .unset] [(.long ib)])) _
      refine XS.lload X_16.here hx rfl (hb hby at_132) rfl ?_
      show Steps p.tables e below (T_16.setTop (mkF m 134 #[.val (.long q0), .second, .val (.long q1), .second, .val (.long q2), .second, .val (.long q3), .second, .val (.int p4), .val (.long sz), .second, .val (.long ia), .second, .val (.long ib), .second, .val (.int md), .val (.long ib), .second, .val (.int sb), .val (.ref b_3), .val (.int (own_get 0 mc)), .val (.int r1), .unset] [(.long ia), (.long ib)])) _
      refine XS.lcmp X_16.here hx rfl (hb hby at_134) rfl ?_
      show Steps p.tables e below (T_16.setTop (mkF m 135 #[.val (.long q0), .second, .val (.long q1), .second, .val (.long q2), .second, .val (.long q3), .second, .val (.int p4), .val (.long sz), .second, .val (.long ia), .second, .val (.long ib), .second, .val (.int md), .val (.long ib), .second, .val (.int sb), .val (.ref b_3), .val (.int (own_get 0 mc)), .val (.int r1), .unset] [(.int (lcmpW ib ia))])) _
      by_cases hj135_0 : (lcmpW ib ia) = (0 : Int32)
      · refine XS.ifYes X_16.here hx rfl (pc0 := 135) (pc' := 151) rfl (hb hby at_135) rfl ((if0 _ _).trans (teq hj135_0).1) (by decide) (by decide) ?_
        show Steps p.tables e below (T_16.setTop (mkF m 151 #[.val (.long q0), .second, .val (.long q1), .second, .val (.long q2), .second, .val (.long q3), .second, .val (.int p4), .val (.long sz), .second, .val (.long ia), .second, .val (.long ib), .second, .val (.int md), .val (.long ib), .second, .val (.int sb), .val (.ref b_3), .val (.int (own_get 0 mc)), .val (.int r1), .unset] [])) _
        refine XS.iconst X_16.here hx rfl (hb hby at_151) ?_
        show Steps p.tables e below (T_16.setTop (mkF m 152 #[.val (.long q0), .second, .val (.long q1), .second, .val (.long q2), .second, .val (.long q3), .second, .val (.int p4), .val (.long sz), .second, .val (.long ia), .second, .val (.long ib), .second, .val (.int md), .val (.long ib), .second, .val (.int sb), .val (.ref b_3), .val (.int (own_get 0 mc)), .val (.int r1), .unset] [(.int (1 : Int32))])) _
        refine XS.goto X_16.here hx rfl (pc0 := 152) (pc' := 156) rfl (hb hby at_152) (by decide) (by decide) ?_
        rw [← hex_, if_pos hj135_0] at kt
        exact kt
      · refine XS.ifNo X_16.here hx rfl (hb hby at_135) rfl ((if0 _ _).trans (feq hj135_0).1) ?_
        show Steps p.tables e below (T_16.setTop (mkF m 138 #[.val (.long q0), .second, .val (.long q1), .second, .val (.long q2), .second, .val (.long q3), .second, .val (.int p4), .val (.long sz), .second, .val (.long ia), .second, .val (.long ib), .second, .val (.int md), .val (.long ib), .second, .val (.int sb), .val (.ref b_3), .val (.int (own_get 0 mc)), .val (.int r1), .unset] [])) _
        refine XS.iload X_16.here hx rfl (hb hby at_138) rfl ?_
        show Steps p.tables e below (T_16.setTop (mkF m 140 #[.val (.long q0), .second, .val (.long q1), .second, .val (.long q2), .second, .val (.long q3), .second, .val (.int p4), .val (.long sz), .second, .val (.long ia), .second, .val (.long ib), .second, .val (.int md), .val (.long ib), .second, .val (.int sb), .val (.ref b_3), .val (.int (own_get 0 mc)), .val (.int r1), .unset] [(.int sb)])) _
        by_cases hj140_1 : sb = (0 : Int32)
        · refine XS.ifYes X_16.here hx rfl (pc0 := 140) (pc' := 155) rfl (hb hby at_140) rfl ((if0 _ _).trans (teq hj140_1).1) (by decide) (by decide) ?_
          show Steps p.tables e below (T_16.setTop (mkF m 155 #[.val (.long q0), .second, .val (.long q1), .second, .val (.long q2), .second, .val (.long q3), .second, .val (.int p4), .val (.long sz), .second, .val (.long ia), .second, .val (.long ib), .second, .val (.int md), .val (.long ib), .second, .val (.int sb), .val (.ref b_3), .val (.int (own_get 0 mc)), .val (.int r1), .unset] [])) _
          refine XS.iconst X_16.here hx rfl (hb hby at_155) ?_
          rw [← hex_, if_neg hj135_0, if_pos hj140_1] at kt
          exact kt
        · refine XS.ifNo X_16.here hx rfl (hb hby at_140) rfl ((if0 _ _).trans (feq hj140_1).1) ?_
          show Steps p.tables e below (T_16.setTop (mkF m 143 #[.val (.long q0), .second, .val (.long q1), .second, .val (.long q2), .second, .val (.long q3), .second, .val (.int p4), .val (.long sz), .second, .val (.long ia), .second, .val (.long ib), .second, .val (.int md), .val (.long ib), .second, .val (.int sb), .val (.ref b_3), .val (.int (own_get 0 mc)), .val (.int r1), .unset] [])) _
          refine XS.lload X_16.here hx rfl (hb hby at_143) rfl ?_
          show Steps p.tables e below (T_16.setTop (mkF m 145 #[.val (.long q0), .second, .val (.long q1), .second, .val (.long q2), .second, .val (.long q3), .second, .val (.int p4), .val (.long sz), .second, .val (.long ia), .second, .val (.long ib), .second, .val (.int md), .val (.long ib), .second, .val (.int sb), .val (.ref b_3), .val (.int (own_get 0 mc)), .val (.int r1), .unset] [(.long ib)])) _
          refine XS.lload X_16.here hx rfl (hb hby at_145) rfl ?_
          show Steps p.tables e below (T_16.setTop (mkF m 147 #[.val (.long q0), .second, .val (.long q1), .second, .val (.long q2), .second, .val (.long q3), .second, .val (.int p4), .val (.long sz), .second, .val (.long ia), .second, .val (.long ib), .second, .val (.int md), .val (.long ib), .second, .val (.int sb), .val (.ref b_3), .val (.int (own_get 0 mc)), .val (.int r1), .unset] [(.long ib), (.long ib)])) _
          refine XS.lcmp X_16.here hx rfl (hb hby at_147) rfl ?_
          show Steps p.tables e below (T_16.setTop (mkF m 148 #[.val (.long q0), .second, .val (.long q1), .second, .val (.long q2), .second, .val (.long q3), .second, .val (.int p4), .val (.long sz), .second, .val (.long ia), .second, .val (.long ib), .second, .val (.int md), .val (.long ib), .second, .val (.int sb), .val (.ref b_3), .val (.int (own_get 0 mc)), .val (.int r1), .unset] [(.int (lcmpW ib ib))])) _
          by_cases hj148_2 : (lcmpW ib ib) = (0 : Int32)
          · refine XS.ifNo X_16.here hx rfl (hb hby at_148) rfl ((if0 _ _).trans (teq hj148_2).2) ?_
            show Steps p.tables e below (T_16.setTop (mkF m 151 #[.val (.long q0), .second, .val (.long q1), .second, .val (.long q2), .second, .val (.long q3), .second, .val (.int p4), .val (.long sz), .second, .val (.long ia), .second, .val (.long ib), .second, .val (.int md), .val (.long ib), .second, .val (.int sb), .val (.ref b_3), .val (.int (own_get 0 mc)), .val (.int r1), .unset] [])) _
            refine XS.iconst X_16.here hx rfl (hb hby at_151) ?_
            show Steps p.tables e below (T_16.setTop (mkF m 152 #[.val (.long q0), .second, .val (.long q1), .second, .val (.long q2), .second, .val (.long q3), .second, .val (.int p4), .val (.long sz), .second, .val (.long ia), .second, .val (.long ib), .second, .val (.int md), .val (.long ib), .second, .val (.int sb), .val (.ref b_3), .val (.int (own_get 0 mc)), .val (.int r1), .unset] [(.int (1 : Int32))])) _
            refine XS.goto X_16.here hx rfl (pc0 := 152) (pc' := 156) rfl (hb hby at_152) (by decide) (by decide) ?_
            rw [← hex_, if_neg hj135_0, if_neg hj140_1, if_pos hj148_2] at kt
            exact kt
          · refine XS.ifYes X_16.here hx rfl (pc0 := 148) (pc' := 155) rfl (hb hby at_148) rfl ((if0 _ _).trans (feq hj148_2).2) (by decide) (by decide) ?_
            show Steps p.tables e below (T_16.setTop (mkF m 155 #[.val (.long q0), .second, .val (.long q1), .second, .val (.long q2), .second, .val (.long q3), .second, .val (.int p4), .val (.long sz), .second, .val (.long ia), .second, .val (.long ib), .second, .val (.int md), .val (.long ib), .second, .val (.int sb), .val (.ref b_3), .val (.int (own_get 0 mc)), .val (.int r1), .unset] [])) _
            refine XS.iconst X_16.here hx rfl (hb hby at_155) ?_
            rw [← hex_, if_neg hj135_0, if_neg hj140_1, if_neg hj148_2] at kt
            exact kt
    refine jn130 _ ?_
    show Steps p.tables e below (T_16.setTop (mkF m 156 #[.val (.long q0), .second, .val (.long q1), .second, .val (.long q2), .second, .val (.long q3), .second, .val (.int p4), .val (.long sz), .second, .val (.long ia), .second, .val (.long ib), .second, .val (.int md), .val (.long ib), .second, .val (.int sb), .val (.ref b_3), .val (.int (own_get 0 mc)), .val (.int r1), .unset] [(.int ex)])) _
    refine XS.istore X_16.here hx rfl (hb hby at_156) rfl (l' := #[.val (.long q0), .second, .val (.long q1), .second, .val (.long q2), .second, .val (.long q3), .second, .val (.int p4), .val (.long sz), .second, .val (.long ia), .second, .val (.long ib), .second, .val (.int md), .val (.long ib), .second, .val (.int sb), .val (.ref b_3), .val (.int (own_get 0 mc)), .val (.int r1), .val (.int ex)]) rfl ?_
    show Steps p.tables e below (T_16.setTop (mkF m 158 #[.val (.long q0), .second, .val (.long q1), .second, .val (.long q2), .second, .val (.long q3), .second, .val (.int p4), .val (.long sz), .second, .val (.long ia), .second, .val (.long ib), .second, .val (.int md), .val (.long ib), .second, .val (.int sb), .val (.ref b_3), .val (.int (own_get 0 mc)), .val (.int r1), .val (.int ex)] [])) _
    refine XS.iload X_16.here hx rfl (hb hby at_158) rfl ?_
    show Steps p.tables e below (T_16.setTop (mkF m 160 #[.val (.long q0), .second, .val (.long q1), .second, .val (.long q2), .second, .val (.long q3), .second, .val (.int p4), .val (.long sz), .second, .val (.long ia), .second, .val (.long ib), .second, .val (.int md), .val (.long ib), .second, .val (.int sb), .val (.ref b_3), .val (.int (own_get 0 mc)), .val (.int r1), .val (.int ex)] [(.int (own_get 0 mc))])) _
    refine XS.ifNo X_16.here hx rfl (hb hby at_160) rfl ((if0 _ _).trans (teq hc160).2) ?_
    show Steps p.tables e below (T_16.setTop (mkF m 163 #[.val (.long q0), .second, .val (.long q1), .second, .val (.long q2), .second, .val (.long q3), .second, .val (.int p4), .val (.long sz), .second, .val (.long ia), .second, .val (.long ib), .second, .val (.int md), .val (.long ib), .second, .val (.int sb), .val (.ref b_3), .val (.int (own_get 0 mc)), .val (.int r1), .val (.int ex)] [])) _
    refine XS.iload X_16.here hx rfl (hb hby at_163) rfl ?_
    show Steps p.tables e below (T_16.setTop (mkF m 165 #[.val (.long q0), .second, .val (.long q1), .second, .val (.long q2), .second, .val (.long q3), .second, .val (.int p4), .val (.long sz), .second, .val (.long ia), .second, .val (.long ib), .second, .val (.int md), .val (.long ib), .second, .val (.int sb), .val (.ref b_3), .val (.int (own_get 0 mc)), .val (.int r1), .val (.int ex)] [(.int r1)])) _
    refine XS.iload X_16.here hx rfl (hb hby at_165) rfl ?_
    show Steps p.tables e below (T_16.setTop (mkF m 167 #[.val (.long q0), .second, .val (.long q1), .second, .val (.long q2), .second, .val (.long q3), .second, .val (.int p4), .val (.long sz), .second, .val (.long ia), .second, .val (.long ib), .second, .val (.int md), .val (.long ib), .second, .val (.int sb), .val (.ref b_3), .val (.int (own_get 0 mc)), .val (.int r1), .val (.int ex)] [(.int ex), (.int r1)])) _
    refine XS.icmpNo X_16.here hx rfl (hb hby at_167) rfl (teq hc167).2 ?_
    show Steps p.tables e below (T_16.setTop (mkF m 170 #[.val (.long q0), .second, .val (.long q1), .second, .val (.long q2), .second, .val (.long q3), .second, .val (.int p4), .val (.long sz), .second, .val (.long ia), .second, .val (.long ib), .second, .val (.int md), .val (.long ib), .second, .val (.int sb), .val (.ref b_3), .val (.int (own_get 0 mc)), .val (.int r1), .val (.int ex)] [])) _
    refine XS.iconst X_16.here hx rfl (hb hby at_170) ?_
    show Steps p.tables e below (T_16.setTop (mkF m 171 #[.val (.long q0), .second, .val (.long q1), .second, .val (.long q2), .second, .val (.long q3), .second, .val (.int p4), .val (.long sz), .second, .val (.long ia), .second, .val (.long ib), .second, .val (.int md), .val (.long ib), .second, .val (.int sb), .val (.ref b_3), .val (.int (own_get 0 mc)), .val (.int r1), .val (.int ex)] [(.int (1 : Int32))])) _
    refine XS.goto X_16.here hx rfl (pc0 := 171) (pc' := 175) rfl (hb hby at_171) (by decide) (by decide) ?_
    show Steps p.tables e below (T_16.setTop (mkF m 175 #[.val (.long q0), .second, .val (.long q1), .second, .val (.long q2), .second, .val (.long q3), .second, .val (.int p4), .val (.long sz), .second, .val (.long ia), .second, .val (.long ib), .second, .val (.int md), .val (.long ib), .second, .val (.int sb), .val (.ref b_3), .val (.int (own_get 0 mc)), .val (.int r1), .val (.int ex)] [(.int (1 : Int32))])) _
    exact retN X_16 hx (t := .boolean) Bd.returns (by simp) (hb hby at_175) hr
  · show Q0 Z  h0 n0 _ T_16.heap _
    rw [eq_16]
    exact ⟨rfl, N_16⟩
set_option maxRecDepth 65536 in
set_option maxHeartbeats 40000000 in
theorem rm0_20 (l : Launch) (Z : State) (a0 : Array Value) (hw : ∀ d ∈ tables_1, d.before a0 Z = true) (ws : List Jvm.Cond) (q0 : Int64) (q1 : Int64) (q2 : Int64) (q3 : Int64) (p4 : Int32) (sz : Int64) (ia : Int64) (ib : Int64) (ic : Int64) (wd : Int64) (nw : Int32) (ja : Int32) (jb : Int32) (jc : Int32) (ma : Int64) (mb : Int64) (mc : Int64) (x1 : Int64) (x2 : Int64) (xc : Int64) (r1 : Int32) (md : Int32) (sb : Int32) (ex : Int32) (h0 : Heap) (n0 : Nat) (Z0 : n0 ≤ h0.size) (hsz_ : sz ≠ (0 : Int64)) (hia_ : (q1 &&& (9223372036854775807 : Int64)) % sz = ia) (hib_ : (q2 &&& (9223372036854775807 : Int64)) % sz = ib) (hic_ : (q3 &&& (9223372036854775807 : Int64)) % sz = ic) (hb7 : ¬ (lcmpW sz (1 : Int64) < (0 : Int32))) (hb15 : ¬ ((0 : Int32) < lcmpW sz (137438952896 : Int64))) (hwd_ : ((sz + (64 : Int64)) - (1 : Int64)) / (64 : Int64) = wd) (hnw_ : wd.toInt32 = nw) (hn0_ : ¬ nw < 0) (hn1_ : nw.toNatClampNeg ≤ 16) (hja_ : (((ia.toUInt64 >>> ((6 : Int32) &&& 0x3f).toInt64.toUInt64).toInt64).toInt32) = ja) (hja0 : ¬ ja < 0) (hja1 : ja < nw) (hma_ : ((1 : Int64) <<< ((ia.toInt32) &&& 0x3f).toInt64) = ma) (hjb_ : (((ib.toUInt64 >>> ((6 : Int32) &&& 0x3f).toInt64.toUInt64).toInt64).toInt32) = jb) (hjb0 : ¬ jb < 0) (hjb1 : jb < nw) (hmb_ : ((1 : Int64) <<< ((ib.toInt32) &&& 0x3f).toInt64) = mb) (hjc_ : (((ic.toUInt64 >>> ((6 : Int32) &&& 0x3f).toInt64.toUInt64).toInt64).toInt32) = jc) (hjc0 : ¬ jc < 0) (hjc1 : jc < nw) (hmc_ : ((1 : Int64) <<< ((ic.toInt32) &&& 0x3f).toInt64) = mc) (hx2_ : (fun j => if j = ja.toNatClampNeg then Value.long ((0 : Int64) ||| ma) else (fun _ => (Value.long (0 : Int64))) j) jb.toNatClampNeg = .long x2) (hxc_ : (fun j => if j = ja.toNatClampNeg then Value.long ((0 : Int64) ||| ma) else (fun _ => (Value.long (0 : Int64))) j) jc.toNatClampNeg = .long xc) (hor1_ : ¬ lcmpW ((0 : Int64) &&& ma) 0 = 0 → (0 : Int64) ||| ma = (0 : Int64)) (hor2_ : ¬ lcmpW (x2 &&& mb) 0 = 0 → x2 ||| mb = x2) (hr1_ : own_get xc mc = r1) (hs_ : ((1 : Int64) + (q0 &&& (1023 : Int64))) = sz) (hmd_ : (p4 &&& (3 : Int32)) = md) (hc34 : ¬ (md = (0 : Int32))) (hc47 : ¬ (md = (1 : Int32))) (hsb_ : (if (p4 &&& (4 : Int32)) = (0 : Int32) then (0 : Int32) else (1 : Int32)) = sb) (hc110 : sb = (0 : Int32)) (hex_ : (if (lcmpW ic ia) = (0 : Int32) then (1 : Int32) else (if sb = (0 : Int32) then (0 : Int32) else (if (lcmpW ic ib) = (0 : Int32) then (1 : Int32) else (0 : Int32)))) = ex) (hc160 : (own_get 0 mc) = (0 : Int32)) (hc167 : r1 = ex) :
    MetFree l x (head1 (Jvm.Cond.code x code maxLocals ret :: ws) room_1) (fun as_ U => as_ = #[(.long q0), (.long q1), (.long q2), (.long q3), (.int p4)] ∧ Z.Warmed39 U.vm ∧ U.heap = h0) (fun _ _ _ _ _ => True) (fun _ U o U' => ∃ v L, o = .returned v ∧ Q0 Z  h0 n0 v U'.heap L ∧ FrameEnd U o U' L 2 18) := by
  refine MetFree.of_bodySF (plainFor_of_name pn_0) hisR ?_
  intro p e s m args below meth c s₁ Bd hml0 hP hK
  obtain ⟨rfl, hZ, hh⟩ := hP
  have hx := Bd.exec
  have hby := Bd.bytes
  have hml : c.maxLocals = 23 := hml0
  have hown : s.vm.findClass "com/example/mussel/mussel/engine/BitArrayGetPinLaw" = some m.cls := findClass_of_methodNamed Bd.named
  have hnm := (name_of_methodNamed Bd.named Bd.method).1
  have X0 : Stand p l e room_1 s m #[(.long q0), (.long q1), (.long q2), (.long q3), (.int p4)] below meth c s₁ [] 0 0 := Stand.of_body Bd
  have e0 : s₁.heap = h0 := by rw [← hh, Bd.state]; rfl
  have N0 := Fr.nil n0
  have pre0 : ∀ t, Steps p.tables e below (s₁.setTop (mkF m 0 #[.val (.long q0), .second, .val (.long q1), .second, .val (.long q2), .second, .val (.long q3), .second, .val (.int p4), .unset, .unset, .unset, .unset, .unset, .unset, .unset, .unset, .unset, .unset, .unset, .unset, .unset, .unset] [])) t → Steps p.tables e below (s₁.setTop (entryFrame m #[(.long q0), (.long q1), (.long q2), (.long q3), (.int p4)] maxLocals)) t := fun t k => castTop (ef_0 m q0 q1 q2 q3 p4) k
  obtain ⟨_, _, ⟨T_1, L_1, k_1, n_1⟩, -, X_1, ⟨Lc_1, hQ_1, l_1, y_1, z_1⟩, st_1⟩ := Jvm.LawKit.callS X0 hx (y := (⟨"com/example/mussel/mussel/engine/BitArrayGetPinLaw", "pick", "(JJ)J"⟩ : MethodName)) hown (mvT hZ (hw _ (List.mem_of_getElem? (i := 1) rfl))) (mvT hZ (hw _ (List.mem_of_getElem? (i := 2) rfl))) (mvT hZ (hw _ (List.mem_of_getElem? (i := 3) rfl))) (mvT hZ (hw _ (List.mem_of_getElem? (i := 4) rfl))) (by decide) (backOf (W := 0) (rm1 l Z a0 hw [] q1 sz ia h0 n0 Z0 hsz_ hia_) hZ (hw _ (List.mem_of_getElem? (i := 4) rfl)) (hw _ (List.mem_of_getElem? (i := 3) rfl)) (by decide) (by decide)) (g := (mkF m 12 #[.val (.long q0), .second, .val (.long q1), .second, .val (.long q2), .second, .val (.long q3), .second, .val (.int p4), .val (.long sz), .second, .unset, .unset, .unset, .unset, .unset, .unset, .unset, .unset, .unset, .unset, .unset, .unset] [(.long sz), (.long q1)])) rfl (by rw [hml]; rfl) (argsL := [(.long q1), (.long sz)]) (rest := []) (lenOf pd_1 rfl) rfl (by show 2 * 0 + _ ≤ _; exact Nat.le_of_eq rfl) (hb hby at_12) (fun _ _ => ⟨rfl, e0, (by decide : 0 + 0 ≤ _), (by decide : 0 + 0 ≤ _)⟩)
  dsimp only [Pt.U, Pt.locs, Pt.cells, Pt.slots] at X_1 l_1 y_1 z_1 st_1 hQ_1
  subst l_1 y_1 z_1
  obtain ⟨rfl, Nq_1, eq_1⟩ := hQ_1
  have N_1 := Fr.app N0 Nq_1
  obtain ⟨_, _, ⟨T_2, L_2, k_2, n_2⟩, -, X_2, ⟨Lc_2, hQ_2, l_2, y_2, z_2⟩, st_2⟩ := Jvm.LawKit.callS X_1 hx (y := (⟨"com/example/mussel/mussel/engine/BitArrayGetPinLaw", "pick", "(JJ)J"⟩ : MethodName)) hown (mvT hZ (hw _ (List.mem_of_getElem? (i := 1) rfl))) (mvT hZ (hw _ (List.mem_of_getElem? (i := 2) rfl))) (mvT hZ (hw _ (List.mem_of_getElem? (i := 3) rfl))) (mvT hZ (hw _ (List.mem_of_getElem? (i := 4) rfl))) (by decide) (backOf (W := 0) (rm1 l Z a0 hw [] q2 sz ib h0 n0 Z0 hsz_ hib_) hZ (hw _ (List.mem_of_getElem? (i := 4) rfl)) (hw _ (List.mem_of_getElem? (i := 3) rfl)) (by decide) (by decide)) (g := (mkF m 21 #[.val (.long q0), .second, .val (.long q1), .second, .val (.long q2), .second, .val (.long q3), .second, .val (.int p4), .val (.long sz), .second, .val (.long ia), .second, .unset, .unset, .unset, .unset, .unset, .unset, .unset, .unset, .unset, .unset] [(.long sz), (.long q2)])) rfl (by rw [hml]; rfl) (argsL := [(.long q2), (.long sz)]) (rest := []) (lenOf pd_1 rfl) rfl (by show 2 * 0 + _ ≤ _; exact Nat.le_of_eq rfl) (hb hby at_21) (fun _ _ => ⟨rfl, eq_1, (by decide : 0 + 0 ≤ _), (by decide : 0 + 0 ≤ _)⟩)
  dsimp only [Pt.U, Pt.locs, Pt.cells, Pt.slots] at X_2 l_2 y_2 z_2 st_2 hQ_2
  subst l_2 y_2 z_2
  obtain ⟨rfl, Nq_2, eq_2⟩ := hQ_2
  have N_2 := Fr.app N_1 Nq_2
  obtain ⟨_, _, ⟨T_3, L_3, k_3, n_3⟩, -, X_3, ⟨Lc_3, hQ_3, l_3, y_3, z_3⟩, st_3⟩ := Jvm.LawKit.callS X_2 hx (y := (⟨"com/example/mussel/mussel/engine/BitArrayGetPinLaw", "pick", "(JJ)J"⟩ : MethodName)) hown (mvT hZ (hw _ (List.mem_of_getElem? (i := 1) rfl))) (mvT hZ (hw _ (List.mem_of_getElem? (i := 2) rfl))) (mvT hZ (hw _ (List.mem_of_getElem? (i := 3) rfl))) (mvT hZ (hw _ (List.mem_of_getElem? (i := 4) rfl))) (by decide) (backOf (W := 0) (rm1 l Z a0 hw [] q3 sz ic h0 n0 Z0 hsz_ hic_) hZ (hw _ (List.mem_of_getElem? (i := 4) rfl)) (hw _ (List.mem_of_getElem? (i := 3) rfl)) (by decide) (by decide)) (g := (mkF m 61 #[.val (.long q0), .second, .val (.long q1), .second, .val (.long q2), .second, .val (.long q3), .second, .val (.int p4), .val (.long sz), .second, .val (.long ia), .second, .val (.long ib), .second, .val (.int md), .unset, .unset, .unset, .unset, .unset, .unset, .unset] [(.long sz), (.long q3)])) rfl (by rw [hml]; rfl) (argsL := [(.long q3), (.long sz)]) (rest := []) (lenOf pd_1 rfl) rfl (by show 2 * 0 + _ ≤ _; exact Nat.le_of_eq rfl) (hb hby at_61) (fun _ _ => ⟨rfl, eq_2, (by decide : 0 + 0 ≤ _), (by decide : 0 + 0 ≤ _)⟩)
  dsimp only [Pt.U, Pt.locs, Pt.cells, Pt.slots] at X_3 l_3 y_3 z_3 st_3 hQ_3
  subst l_3 y_3 z_3
  obtain ⟨rfl, Nq_3, eq_3⟩ := hQ_3
  have N_3 := Fr.app N_2 Nq_3
  obtain ⟨T_4, h_4, X_4, e_4, E_4, A_4, D_4, -, st_4⟩ := newO X_3 hx hZ hown (hw _ (List.mem_of_getElem? (i := 6) rfl)) (hw _ (List.mem_of_getElem? (i := 7) rfl)) (hw _ (List.mem_of_getElem? (i := 8) rfl)) eq_3 (g := (mkF m 80 #[.val (.long q0), .second, .val (.long q1), .second, .val (.long q2), .second, .val (.long q3), .second, .val (.int p4), .val (.long sz), .second, .val (.long ia), .second, .val (.long ib), .second, .val (.int md), .val (.long ic), .second, .val (.int sb), .unset, .unset, .unset, .unset] [])) rfl (hb hby at_80) (by decide) (by decide)
  obtain ⟨b_4, g_4⟩ : ∃ z, z = h0.size := ⟨_, rfl⟩
  rw [← g_4] at A_4 D_4 st_4
  have g_b_4 : n0 ≤ b_4 := Nat.le_trans Z0 (Nat.le_of_eq g_4.symm)
  have sz_b_4 : h0.size ≤ b_4 := Nat.le_trans (Keep.refl h0 []).1 (Nat.le_of_eq g_4.symm)
  have K_4 : Keep h0 h_4 [] := (Keep.refl h0 []).ext E_4
  have Z_5 : n0 ≤ h_4.size := Nat.le_trans Z0 E_4.1
  have F_words_b_4 : Fld Z h_4 b_4 "com/example/mussel/mussel/engine/BitArray" "words" "[J" .null := D_4 (Or.inr (hw _ (List.mem_of_getElem? (i := 22) rfl))) (ty := (.array .long)) (by decide)
  have F_capture_b_4 : Fld Z h_4 b_4 "com/example/mussel/mussel/engine/BitArray" "capture" "Lcom/example/mussel/mussel/engine/BitArray$Capture;" .null := D_4 (Or.inl (hw _ (List.mem_of_getElem? (i := 34) rfl))) (ty := (.object "com/example/mussel/mussel/engine/BitArray$Capture")) (by decide)
  obtain ⟨c_6, g_6⟩ : ∃ z, z = h_4.size := ⟨_, rfl⟩
  have ne_b_4_c_6 : b_4 ≠ c_6 := Nat.ne_of_lt (Nat.lt_of_lt_of_le A_4.lt (Nat.le_of_eq g_6.symm))
  have g_c_6 : n0 ≤ c_6 := Nat.le_trans Z_5 (Nat.le_of_eq g_6.symm)
  have sz_c_6 : h0.size ≤ c_6 := Nat.le_trans K_4.1 (Nat.le_of_eq g_6.symm)
  obtain ⟨_, _, ⟨T_6, L_6, k_6, n_6⟩, -, X_6, ⟨Lc_6, hQ_6, l_6, y_6, z_6⟩, st_6⟩ := X_4.specialBack hx (y := (⟨"com/example/mussel/mussel/engine/BitArray", "<init>", "(J)V"⟩ : MethodName)) rfl hown (mvT hZ (hw _ (List.mem_of_getElem? (i := 9) rfl))) (mvT hZ (hw _ (List.mem_of_getElem? (i := 10) rfl))) (mvT hZ (hw _ (List.mem_of_getElem? (i := 11) rfl))) (by decide) (backOf (W := 1) (rm2 l Z a0 hw [] b_4 sz c_6 wd nw h_4 n0 Z_5 g_6 hwd_ hn0_ hn1_ A_4 F_words_b_4 F_capture_b_4 g_b_4 hb7 hb15 hnw_) hZ (hw _ (List.mem_of_getElem? (i := 11) rfl)) (hw _ (List.mem_of_getElem? (i := 8) rfl)) (by decide) (by decide)) (g := (mkF m 86 #[.val (.long q0), .second, .val (.long q1), .second, .val (.long q2), .second, .val (.long q3), .second, .val (.int p4), .val (.long sz), .second, .val (.long ia), .second, .val (.long ib), .second, .val (.int md), .val (.long ic), .second, .val (.int sb), .unset, .unset, .unset, .unset] [(.long sz), (.ref b_4), (.ref b_4)])) rfl (by rw [hml]; rfl) (Steps.refl _) (a := b_4) (argsL := [(.long sz)]) (rest := [(.ref b_4)]) (lenOf pd_2 rfl) rfl (by show 2 * 0 + _ ≤ _; exact Nat.le_of_eq rfl) (hb hby at_86) (fun _ _ => ⟨rfl, e_4, (by decide : 1 + 1 ≤ _), (by decide : 2 + 16 ≤ _)⟩)
  dsimp only [Pt.U, Pt.locs, Pt.cells, Pt.slots] at X_6 l_6 y_6 z_6 st_6 hQ_6
  subst l_6 y_6 z_6
  obtain ⟨rfl, Nq_6, Kq_6, Fw_6, Fc_6, Vq_6⟩ := hQ_6
  have N_6 := Fr.app N_3 Nq_6
  have KK_6 : Keep h0 T_6.heap [] := K_4.trans Kq_6 (allS (Or.inr sz_b_4) all0)
  have Z_7 : n0 ≤ T_6.heap.size := Nat.le_trans Z_5 Kq_6.1
  have f_9_E_b_4 := (A_4.keep Kq_6)
  obtain ⟨cq_8, kq_8, q_8a, q_8b, q_8c⟩ := isOf hZ rfl f_9_E_b_4
  obtain ⟨_, _, ⟨T_8, L_8, k_8, n_8⟩, -, X_8, ⟨Lc_8, hQ_8, l_8, y_8, z_8⟩, st_8⟩ := X_6.virtualBack hx (y := (⟨"com/example/mussel/mussel/engine/BitArray", "get", "(J)Z"⟩ : MethodName)) (z := (⟨"com/example/mussel/mussel/engine/BitArray", "get", "(J)Z"⟩ : MethodName)) hown (mvT hZ (hw _ (List.mem_of_getElem? (i := 23) rfl))) (mvT hZ (hw _ (List.mem_of_getElem? (i := 24) rfl))) (notFace_of_selects (args := #[]) (mvT hZ (hw _ (List.mem_of_getElem? (i := 26) rfl)))) (mvT hZ (hw _ (List.mem_of_getElem? (i := 26) rfl))) (mvT hZ (hw _ (List.mem_of_getElem? (i := 25) rfl))) (by decide) (backOf (W := 0) (rm5 l Z a0 hw [] b_4 ic c_6 nw (fun _ => (Value.long (0 : Int64))) jc (0 : Int64) mc (own_get 0 mc) T_6.heap n0 Z_7 Fw_6 Vq_6 hjc0 hjc1 rfl (own_get_nar _ _) hjc_ hmc_ rfl) hZ (hw _ (List.mem_of_getElem? (i := 27) rfl)) (hw _ (List.mem_of_getElem? (i := 8) rfl)) (by decide) (by decide)) q_8a q_8c (g := (mkF m 95 #[.val (.long q0), .second, .val (.long q1), .second, .val (.long q2), .second, .val (.long q3), .second, .val (.int p4), .val (.long sz), .second, .val (.long ia), .second, .val (.long ib), .second, .val (.int md), .val (.long ic), .second, .val (.int sb), .val (.ref b_4), .unset, .unset, .unset] [(.long ic), (.ref b_4)])) rfl (by rw [hml]; rfl) (Steps.refl _) (argsL := [(.long ic)]) (rest := []) (lenOf pd_3 rfl) rfl (by show 2 * 0 + _ ≤ _; exact Nat.le_of_eq rfl) (hb hby at_95) (fun _ _ => ⟨rfl, rfl, (by decide : 2 + 0 ≤ _), (by decide : 18 + 0 ≤ _)⟩)
  dsimp only [Pt.U, Pt.locs, Pt.cells, Pt.slots] at X_8 l_8 y_8 z_8 st_8 hQ_8
  subst l_8 y_8 z_8
  obtain ⟨rfl, Nq_8, eq_8⟩ := hQ_8
  have N_8 := Fr.app N_6 Nq_8
  obtain ⟨cq_10, kq_10, q_10a, q_10b, q_10c⟩ := isOf hZ eq_8 f_9_E_b_4
  obtain ⟨_, _, ⟨T_10, L_10, k_10, n_10⟩, -, X_10, ⟨Lc_10, hQ_10, l_10, y_10, z_10⟩, st_10⟩ := X_8.virtualBack hx (y := (⟨"com/example/mussel/mussel/engine/BitArray", "set", "(J)Z"⟩ : MethodName)) (z := (⟨"com/example/mussel/mussel/engine/BitArray", "set", "(J)Z"⟩ : MethodName)) hown (mvT hZ (hw _ (List.mem_of_getElem? (i := 28) rfl))) (mvT hZ (hw _ (List.mem_of_getElem? (i := 29) rfl))) (notFace_of_selects (args := #[]) (mvT hZ (hw _ (List.mem_of_getElem? (i := 31) rfl)))) (mvT hZ (hw _ (List.mem_of_getElem? (i := 31) rfl))) (mvT hZ (hw _ (List.mem_of_getElem? (i := 30) rfl))) (by decide) (backOf (W := 0) (rm6 l Z a0 hw [] b_4 ia c_6 nw (fun _ => (Value.long (0 : Int64))) ja (0 : Int64) ma T_6.heap n0 Z_7 Fw_6 Vq_6 Fc_6 hja0 hja1 rfl g_c_6 ne_b_4_c_6 hja_ hma_ hor1_) hZ (hw _ (List.mem_of_getElem? (i := 32) rfl)) (hw _ (List.mem_of_getElem? (i := 8) rfl)) (by decide) (by decide)) q_10a q_10c (g := (mkF m 104 #[.val (.long q0), .second, .val (.long q1), .second, .val (.long q2), .second, .val (.long q3), .second, .val (.int p4), .val (.long sz), .second, .val (.long ia), .second, .val (.long ib), .second, .val (.int md), .val (.long ic), .second, .val (.int sb), .val (.ref b_4), .val (.int (own_get 0 mc)), .unset, .unset] [(.long ia), (.ref b_4)])) rfl (by rw [hml]; rfl) (Steps.refl _) (argsL := [(.long ia)]) (rest := []) (lenOf pd_3 rfl) rfl (by show 2 * 0 + _ ≤ _; exact Nat.le_of_eq rfl) (hb hby at_104) (fun _ _ => ⟨rfl, eq_8, (by decide : 2 + 0 ≤ _), (by decide : 18 + 0 ≤ _)⟩)
  dsimp only [Pt.U, Pt.locs, Pt.cells, Pt.slots] at X_10 l_10 y_10 z_10 st_10 hQ_10
  subst l_10 y_10 z_10
  obtain ⟨rfl, Nq_10, Kq_10, Vq_10⟩ := hQ_10
  have N_10 := Fr.app N_8 Nq_10
  have KK_10 : Keep h0 T_10.heap [] := KK_6.trans Kq_10 (allS (Or.inr sz_c_6) all0)
  have Z_11 : n0 ≤ T_10.heap.size := Nat.le_trans Z_7 Kq_10.1
  have f_13_F_b_4_words := (Fw_6.keep Kq_10 (ninS ne_b_4_c_6 nin0))
  have f_14_E_b_4 := (f_9_E_b_4.keep Kq_10)
  obtain ⟨cq_12, kq_12, q_12a, q_12b, q_12c⟩ := isOf hZ rfl f_14_E_b_4
  obtain ⟨_, _, ⟨T_12, L_12, k_12, n_12⟩, -, X_12, ⟨Lc_12, hQ_12, l_12, y_12, z_12⟩, st_12⟩ := X_10.virtualBack hx (y := (⟨"com/example/mussel/mussel/engine/BitArray", "get", "(J)Z"⟩ : MethodName)) (z := (⟨"com/example/mussel/mussel/engine/BitArray", "get", "(J)Z"⟩ : MethodName)) hown (mvT hZ (hw _ (List.mem_of_getElem? (i := 23) rfl))) (mvT hZ (hw _ (List.mem_of_getElem? (i := 24) rfl))) (notFace_of_selects (args := #[]) (mvT hZ (hw _ (List.mem_of_getElem? (i := 26) rfl)))) (mvT hZ (hw _ (List.mem_of_getElem? (i := 26) rfl))) (mvT hZ (hw _ (List.mem_of_getElem? (i := 25) rfl))) (by decide) (backOf (W := 0) (rm5 l Z a0 hw [] b_4 ic c_6 nw (fun j => if j = ja.toNatClampNeg then Value.long ((0 : Int64) ||| ma) else (fun _ => (Value.long (0 : Int64))) j) jc xc mc r1 T_10.heap n0 Z_11 f_13_F_b_4_words Vq_10 hjc0 hjc1 hxc_ (hr1_ ▸ own_get_nar _ _) hjc_ hmc_ hr1_) hZ (hw _ (List.mem_of_getElem? (i := 27) rfl)) (hw _ (List.mem_of_getElem? (i := 8) rfl)) (by decide) (by decide)) q_12a q_12c (g := (mkF m 125 #[.val (.long q0), .second, .val (.long q1), .second, .val (.long q2), .second, .val (.long q3), .second, .val (.int p4), .val (.long sz), .second, .val (.long ia), .second, .val (.long ib), .second, .val (.int md), .val (.long ic), .second, .val (.int sb), .val (.ref b_4), .val (.int (own_get 0 mc)), .unset, .unset] [(.long ic), (.ref b_4)])) rfl (by rw [hml]; rfl) (Steps.refl _) (argsL := [(.long ic)]) (rest := []) (lenOf pd_3 rfl) rfl (by show 2 * 0 + _ ≤ _; exact Nat.le_of_eq rfl) (hb hby at_125) (fun _ _ => ⟨rfl, rfl, (by decide : 2 + 0 ≤ _), (by decide : 18 + 0 ≤ _)⟩)
  dsimp only [Pt.U, Pt.locs, Pt.cells, Pt.slots] at X_12 l_12 y_12 z_12 st_12 hQ_12
  subst l_12 y_12 z_12
  obtain ⟨rfl, Nq_12, eq_12⟩ := hQ_12
  have N_12 := Fr.app N_10 Nq_12
  obtain ⟨fs, hr, hrun, hended, hW, hsame⟩ := X_12.leave (v := some (.int (1 : Int32))) (fun h => by rw [Bd.returns] at h; cases h)
  refine ⟨_, _, pre0 _ ?_, hrun, hended, _, _, rfl, ?_, ⟨_, rfl⟩, hW, hsame.mono (by decide) (by decide)⟩
  · show Steps p.tables e below (s₁.setTop (mkF m 0 #[.val (.long q0), .second, .val (.long q1), .second, .val (.long q2), .second, .val (.long q3), .second, .val (.int p4), .unset, .unset, .unset, .unset, .unset, .unset, .unset, .unset, .unset, .unset, .unset, .unset, .unset, .unset] [])) _
    refine XS.lconst X0.here hx rfl (hb hby at_0) ?_
    show Steps p.tables e below (s₁.setTop (mkF m 1 #[.val (.long q0), .second, .val (.long q1), .second, .val (.long q2), .second, .val (.long q3), .second, .val (.int p4), .unset, .unset, .unset, .unset, .unset, .unset, .unset, .unset, .unset, .unset, .unset, .unset, .unset, .unset] [(.long (1 : Int64))])) _
    refine XS.lloadN X0.here hx rfl (hb hby at_1) rfl ?_
    show Steps p.tables e below (s₁.setTop (mkF m 2 #[.val (.long q0), .second, .val (.long q1), .second, .val (.long q2), .second, .val (.long q3), .second, .val (.int p4), .unset, .unset, .unset, .unset, .unset, .unset, .unset, .unset, .unset, .unset, .unset, .unset, .unset, .unset] [(.long q0), (.long (1 : Int64))])) _
    refine X0.ldc2Long hx hown (mvT hZ (hw _ (List.mem_of_getElem? (i := 0) rfl))) (g := (mkF m 2 #[.val (.long q0), .second, .val (.long q1), .second, .val (.long q2), .second, .val (.long q3), .second, .val (.int p4), .unset, .unset, .unset, .unset, .unset, .unset, .unset, .unset, .unset, .unset, .unset, .unset, .unset, .unset] [(.long q0), (.long (1 : Int64))])) rfl (hb hby at_2) _ ?_
    show Steps p.tables e below (s₁.setTop (mkF m 5 #[.val (.long q0), .second, .val (.long q1), .second, .val (.long q2), .second, .val (.long q3), .second, .val (.int p4), .unset, .unset, .unset, .unset, .unset, .unset, .unset, .unset, .unset, .unset, .unset, .unset, .unset, .unset] [(.long (1023 : Int64)), (.long q0), (.long (1 : Int64))])) _
    refine XS.land X0.here hx rfl (hb hby at_5) rfl ?_
    show Steps p.tables e below (s₁.setTop (mkF m 6 #[.val (.long q0), .second, .val (.long q1), .second, .val (.long q2), .second, .val (.long q3), .second, .val (.int p4), .unset, .unset, .unset, .unset, .unset, .unset, .unset, .unset, .unset, .unset, .unset, .unset, .unset, .unset] [(.long (q0 &&& (1023 : Int64))), (.long (1 : Int64))])) _
    refine XS.ladd X0.here hx rfl (hb hby at_6) rfl ?_
    show Steps p.tables e below (s₁.setTop (mkF m 7 #[.val (.long q0), .second, .val (.long q1), .second, .val (.long q2), .second, .val (.long q3), .second, .val (.int p4), .unset, .unset, .unset, .unset, .unset, .unset, .unset, .unset, .unset, .unset, .unset, .unset, .unset, .unset] [(.long ((1 : Int64) + (q0 &&& (1023 : Int64))))])) _
    rw [hs_]
    show Steps p.tables e below (s₁.setTop (mkF m 7 #[.val (.long q0), .second, .val (.long q1), .second, .val (.long q2), .second, .val (.long q3), .second, .val (.int p4), .unset, .unset, .unset, .unset, .unset, .unset, .unset, .unset, .unset, .unset, .unset, .unset, .unset, .unset] [(.long sz)])) _
    refine XS.lstore X0.here hx rfl (hb hby at_7) rfl (l' := #[.val (.long q0), .second, .val (.long q1), .second, .val (.long q2), .second, .val (.long q3), .second, .val (.int p4), .val (.long sz), .second, .unset, .unset, .unset, .unset, .unset, .unset, .unset, .unset, .unset, .unset, .unset, .unset]) rfl ?_
    show Steps p.tables e below (s₁.setTop (mkF m 9 #[.val (.long q0), .second, .val (.long q1), .second, .val (.long q2), .second, .val (.long q3), .second, .val (.int p4), .val (.long sz), .second, .unset, .unset, .unset, .unset, .unset, .unset, .unset, .unset, .unset, .unset, .unset, .unset] [])) _
    refine XS.lloadN X0.here hx rfl (hb hby at_9) rfl ?_
    show Steps p.tables e below (s₁.setTop (mkF m 10 #[.val (.long q0), .second, .val (.long q1), .second, .val (.long q2), .second, .val (.long q3), .second, .val (.int p4), .val (.long sz), .second, .unset, .unset, .unset, .unset, .unset, .unset, .unset, .unset, .unset, .unset, .unset, .unset] [(.long q1)])) _
    refine XS.lload X0.here hx rfl (hb hby at_10) rfl ?_
    show Steps p.tables e below (s₁.setTop (mkF m 12 #[.val (.long q0), .second, .val (.long q1), .second, .val (.long q2), .second, .val (.long q3), .second, .val (.int p4), .val (.long sz), .second, .unset, .unset, .unset, .unset, .unset, .unset, .unset, .unset, .unset, .unset, .unset, .unset] [(.long sz), (.long q1)])) _
    refine st_1 _ ?_
    show Steps p.tables e below (T_1.setTop (mkF m 15 #[.val (.long q0), .second, .val (.long q1), .second, .val (.long q2), .second, .val (.long q3), .second, .val (.int p4), .val (.long sz), .second, .unset, .unset, .unset, .unset, .unset, .unset, .unset, .unset, .unset, .unset, .unset, .unset] [(.long ia)])) _
    refine XS.lstore X_1.here hx rfl (hb hby at_15) rfl (l' := #[.val (.long q0), .second, .val (.long q1), .second, .val (.long q2), .second, .val (.long q3), .second, .val (.int p4), .val (.long sz), .second, .val (.long ia), .second, .unset, .unset, .unset, .unset, .unset, .unset, .unset, .unset, .unset, .unset]) rfl ?_
    show Steps p.tables e below (T_1.setTop (mkF m 17 #[.val (.long q0), .second, .val (.long q1), .second, .val (.long q2), .second, .val (.long q3), .second, .val (.int p4), .val (.long sz), .second, .val (.long ia), .second, .unset, .unset, .unset, .unset, .unset, .unset, .unset, .unset, .unset, .unset] [])) _
    refine XS.lload X_1.here hx rfl (hb hby at_17) rfl ?_
    show Steps p.tables e below (T_1.setTop (mkF m 19 #[.val (.long q0), .second, .val (.long q1), .second, .val (.long q2), .second, .val (.long q3), .second, .val (.int p4), .val (.long sz), .second, .val (.long ia), .second, .unset, .unset, .unset, .unset, .unset, .unset, .unset, .unset, .unset, .unset] [(.long q2)])) _
    refine XS.lload X_1.here hx rfl (hb hby at_19) rfl ?_
    show Steps p.tables e below (T_1.setTop (mkF m 21 #[.val (.long q0), .second, .val (.long q1), .second, .val (.long q2), .second, .val (.long q3), .second, .val (.int p4), .val (.long sz), .second, .val (.long ia), .second, .unset, .unset, .unset, .unset, .unset, .unset, .unset, .unset, .unset, .unset] [(.long sz), (.long q2)])) _
    refine st_2 _ ?_
    show Steps p.tables e below (T_2.setTop (mkF m 24 #[.val (.long q0), .second, .val (.long q1), .second, .val (.long q2), .second, .val (.long q3), .second, .val (.int p4), .val (.long sz), .second, .val (.long ia), .second, .unset, .unset, .unset, .unset, .unset, .unset, .unset, .unset, .unset, .unset] [(.long ib)])) _
    refine XS.lstore X_2.here hx rfl (hb hby at_24) rfl (l' := #[.val (.long q0), .second, .val (.long q1), .second, .val (.long q2), .second, .val (.long q3), .second, .val (.int p4), .val (.long sz), .second, .val (.long ia), .second, .val (.long ib), .second, .unset, .unset, .unset, .unset, .unset, .unset, .unset, .unset]) rfl ?_
    show Steps p.tables e below (T_2.setTop (mkF m 26 #[.val (.long q0), .second, .val (.long q1), .second, .val (.long q2), .second, .val (.long q3), .second, .val (.int p4), .val (.long sz), .second, .val (.long ia), .second, .val (.long ib), .second, .unset, .unset, .unset, .unset, .unset, .unset, .unset, .unset] [])) _
    refine XS.iload X_2.here hx rfl (hb hby at_26) rfl ?_
    show Steps p.tables e below (T_2.setTop (mkF m 28 #[.val (.long q0), .second, .val (.long q1), .second, .val (.long q2), .second, .val (.long q3), .second, .val (.int p4), .val (.long sz), .second, .val (.long ia), .second, .val (.long ib), .second, .unset, .unset, .unset, .unset, .unset, .unset, .unset, .unset] [(.int p4)])) _
    refine XS.iconst X_2.here hx rfl (hb hby at_28) ?_
    show Steps p.tables e below (T_2.setTop (mkF m 29 #[.val (.long q0), .second, .val (.long q1), .second, .val (.long q2), .second, .val (.long q3), .second, .val (.int p4), .val (.long sz), .second, .val (.long ia), .second, .val (.long ib), .second, .unset, .unset, .unset, .unset, .unset, .unset, .unset, .unset] [(.int (3 : Int32)), (.int p4)])) _
    refine XS.iand X_2.here hx rfl (hb hby at_29) rfl ?_
    show Steps p.tables e below (T_2.setTop (mkF m 30 #[.val (.long q0), .second, .val (.long q1), .second, .val (.long q2), .second, .val (.long q3), .second, .val (.int p4), .val (.long sz), .second, .val (.long ia), .second, .val (.long ib), .second, .unset, .unset, .unset, .unset, .unset, .unset, .unset, .unset] [(.int (p4 &&& (3 : Int32)))])) _
    rw [hmd_]
    show Steps p.tables e below (T_2.setTop (mkF m 30 #[.val (.long q0), .second, .val (.long q1), .second, .val (.long q2), .second, .val (.long q3), .second, .val (.int p4), .val (.long sz), .second, .val (.long ia), .second, .val (.long ib), .second, .unset, .unset, .unset, .unset, .unset, .unset, .unset, .unset] [(.int md)])) _
    refine XS.istore X_2.here hx rfl (hb hby at_30) rfl (l' := #[.val (.long q0), .second, .val (.long q1), .second, .val (.long q2), .second, .val (.long q3), .second, .val (.int p4), .val (.long sz), .second, .val (.long ia), .second, .val (.long ib), .second, .val (.int md), .unset, .unset, .unset, .unset, .unset, .unset, .unset]) rfl ?_
    show Steps p.tables e below (T_2.setTop (mkF m 32 #[.val (.long q0), .second, .val (.long q1), .second, .val (.long q2), .second, .val (.long q3), .second, .val (.int p4), .val (.long sz), .second, .val (.long ia), .second, .val (.long ib), .second, .val (.int md), .unset, .unset, .unset, .unset, .unset, .unset, .unset] [])) _
    refine XS.iload X_2.here hx rfl (hb hby at_32) rfl ?_
    show Steps p.tables e below (T_2.setTop (mkF m 34 #[.val (.long q0), .second, .val (.long q1), .second, .val (.long q2), .second, .val (.long q3), .second, .val (.int p4), .val (.long sz), .second, .val (.long ia), .second, .val (.long ib), .second, .val (.int md), .unset, .unset, .unset, .unset, .unset, .unset, .unset] [(.int md)])) _
    refine XS.ifYes X_2.here hx rfl (pc0 := 34) (pc' := 44) rfl (hb hby at_34) rfl ((if0 _ _).trans (feq hc34).2) (by decide) (by decide) ?_
    show Steps p.tables e below (T_2.setTop (mkF m 44 #[.val (.long q0), .second, .val (.long q1), .second, .val (.long q2), .second, .val (.long q3), .second, .val (.int p4), .val (.long sz), .second, .val (.long ia), .second, .val (.long ib), .second, .val (.int md), .unset, .unset, .unset, .unset, .unset, .unset, .unset] [])) _
    refine XS.iload X_2.here hx rfl (hb hby at_44) rfl ?_
    show Steps p.tables e below (T_2.setTop (mkF m 46 #[.val (.long q0), .second, .val (.long q1), .second, .val (.long q2), .second, .val (.long q3), .second, .val (.int p4), .val (.long sz), .second, .val (.long ia), .second, .val (.long ib), .second, .val (.int md), .unset, .unset, .unset, .unset, .unset, .unset, .unset] [(.int md)])) _
    refine XS.iconst X_2.here hx rfl (hb hby at_46) ?_
    show Steps p.tables e below (T_2.setTop (mkF m 47 #[.val (.long q0), .second, .val (.long q1), .second, .val (.long q2), .second, .val (.long q3), .second, .val (.int p4), .val (.long sz), .second, .val (.long ia), .second, .val (.long ib), .second, .val (.int md), .unset, .unset, .unset, .unset, .unset, .unset, .unset] [(.int (1 : Int32)), (.int md)])) _
    refine XS.icmpYes X_2.here hx rfl (pc0 := 47) (pc' := 57) rfl (hb hby at_47) rfl (feq hc47).2 (by decide) (by decide) ?_
    show Steps p.tables e below (T_2.setTop (mkF m 57 #[.val (.long q0), .second, .val (.long q1), .second, .val (.long q2), .second, .val (.long q3), .second, .val (.int p4), .val (.long sz), .second, .val (.long ia), .second, .val (.long ib), .second, .val (.int md), .unset, .unset, .unset, .unset, .unset, .unset, .unset] [])) _
    refine XS.lload X_2.here hx rfl (hb hby at_57) rfl ?_
    show Steps p.tables e below (T_2.setTop (mkF m 59 #[.val (.long q0), .second, .val (.long q1), .second, .val (.long q2), .second, .val (.long q3), .second, .val (.int p4), .val (.long sz), .second, .val (.long ia), .second, .val (.long ib), .second, .val (.int md), .unset, .unset, .unset, .unset, .unset, .unset, .unset] [(.long q3)])) _
    refine XS.lload X_2.here hx rfl (hb hby at_59) rfl ?_
    show Steps p.tables e below (T_2.setTop (mkF m 61 #[.val (.long q0), .second, .val (.long q1), .second, .val (.long q2), .second, .val (.long q3), .second, .val (.int p4), .val (.long sz), .second, .val (.long ia), .second, .val (.long ib), .second, .val (.int md), .unset, .unset, .unset, .unset, .unset, .unset, .unset] [(.long sz), (.long q3)])) _
    refine st_3 _ ?_
    show Steps p.tables e below (T_3.setTop (mkF m 64 #[.val (.long q0), .second, .val (.long q1), .second, .val (.long q2), .second, .val (.long q3), .second, .val (.int p4), .val (.long sz), .second, .val (.long ia), .second, .val (.long ib), .second, .val (.int md), .unset, .unset, .unset, .unset, .unset, .unset, .unset] [(.long ic)])) _
    refine XS.lstore X_3.here hx rfl (hb hby at_64) rfl (l' := #[.val (.long q0), .second, .val (.long q1), .second, .val (.long q2), .second, .val (.long q3), .second, .val (.int p4), .val (.long sz), .second, .val (.long ia), .second, .val (.long ib), .second, .val (.int md), .val (.long ic), .second, .unset, .unset, .unset, .unset, .unset]) rfl ?_
    show Steps p.tables e below (T_3.setTop (mkF m 66 #[.val (.long q0), .second, .val (.long q1), .second, .val (.long q2), .second, .val (.long q3), .second, .val (.int p4), .val (.long sz), .second, .val (.long ia), .second, .val (.long ib), .second, .val (.int md), .val (.long ic), .second, .unset, .unset, .unset, .unset, .unset] [])) _
    refine XS.iload X_3.here hx rfl (hb hby at_66) rfl ?_
    show Steps p.tables e below (T_3.setTop (mkF m 68 #[.val (.long q0), .second, .val (.long q1), .second, .val (.long q2), .second, .val (.long q3), .second, .val (.int p4), .val (.long sz), .second, .val (.long ia), .second, .val (.long ib), .second, .val (.int md), .val (.long ic), .second, .unset, .unset, .unset, .unset, .unset] [(.int p4)])) _
    refine XS.iconst X_3.here hx rfl (hb hby at_68) ?_
    show Steps p.tables e below (T_3.setTop (mkF m 69 #[.val (.long q0), .second, .val (.long q1), .second, .val (.long q2), .second, .val (.long q3), .second, .val (.int p4), .val (.long sz), .second, .val (.long ia), .second, .val (.long ib), .second, .val (.int md), .val (.long ic), .second, .unset, .unset, .unset, .unset, .unset] [(.int (4 : Int32)), (.int p4)])) _
    refine XS.iand X_3.here hx rfl (hb hby at_69) rfl ?_
    have jn70 : ∀ target, Steps p.tables e below (T_3.setTop (mkF m 78 #[.val (.long q0), .second, .val (.long q1), .second, .val (.long q2), .second, .val (.long q3), .second, .val (.int p4), .val (.long sz), .second, .val (.long ia), .second, .val (.long ib), .second, .val (.int md), .val (.long ic), .second, .unset, .unset, .unset, .unset, .unset] [(.int sb)])) target → Steps p.tables e below (T_3.setTop (mkF m 70 #[.val (.long q0), .second, .val (.long q1), .second, .val (.long q2), .second, .val (.long q3), .second, .val (.int p4), .val (.long sz), .second, .val (.long ia), .second, .val (.long ib), .second, .val (.int md), .val (.long ic), .second, .unset, .unset, .unset, .unset, .unset] [(.int (p4 &&& (4 : Int32)))])) target := by
      intro target kt
      show Steps p.tables e below (T_3.setTop (mkF m 70 #[.val (.long q0), .second, .val (.long q1), .second, .val (.long q2), .second, .val (.long q3), .second, .val (.int p4), .val (.long sz), .second, .val (.long ia), .second, .val (.long ib), .second, .val (.int md), .val (.long ic), .second, .unset, .unset, .unset, .unset, .unset] [(.int (p4 &&& (4 : Int32)))])) _
      by_cases hj70_0 : (p4 &&& (4 : Int32)) = (0 : Int32)
      · refine XS.ifYes X_3.here hx rfl (pc0 := 70) (pc' := 77) rfl (hb hby at_70) rfl ((if0 _ _).trans (teq hj70_0).1) (by decide) (by decide) ?_
        show Steps p.tables e below (T_3.setTop (mkF m 77 #[.val (.long q0), .second, .val (.long q1), .second, .val (.long q2), .second, .val (.long q3), .second, .val (.int p4), .val (.long sz), .second, .val (.long ia), .second, .val (.long ib), .second, .val (.int md), .val (.long ic), .second, .unset, .unset, .unset, .unset, .unset] [])) _
        refine XS.iconst X_3.here hx rfl (hb hby at_77) ?_
        rw [← hsb_, if_pos hj70_0] at kt
        exact kt
      · refine XS.ifNo X_3.here hx rfl (hb hby at_70) rfl ((if0 _ _).trans (feq hj70_0).1) ?_
        show Steps p.tables e below (T_3.setTop (mkF m 73 #[.val (.long q0), .second, .val (.long q1), .second, .val (.long q2), .second, .val (.long q3), .second, .val (.int p4), .val (.long sz), .second, .val (.long ia), .second, .val (.long ib), .second, .val (.int md), .val (.long ic), .second, .unset, .unset, .unset, .unset, .unset] [])) _
        refine XS.iconst X_3.here hx rfl (hb hby at_73) ?_
        show Steps p.tables e below (T_3.setTop (mkF m 74 #[.val (.long q0), .second, .val (.long q1), .second, .val (.long q2), .second, .val (.long q3), .second, .val (.int p4), .val (.long sz), .second, .val (.long ia), .second, .val (.long ib), .second, .val (.int md), .val (.long ic), .second, .unset, .unset, .unset, .unset, .unset] [(.int (1 : Int32))])) _
        refine XS.goto X_3.here hx rfl (pc0 := 74) (pc' := 78) rfl (hb hby at_74) (by decide) (by decide) ?_
        rw [← hsb_, if_neg hj70_0] at kt
        exact kt
    refine jn70 _ ?_
    show Steps p.tables e below (T_3.setTop (mkF m 78 #[.val (.long q0), .second, .val (.long q1), .second, .val (.long q2), .second, .val (.long q3), .second, .val (.int p4), .val (.long sz), .second, .val (.long ia), .second, .val (.long ib), .second, .val (.int md), .val (.long ic), .second, .unset, .unset, .unset, .unset, .unset] [(.int sb)])) _
    refine XS.istore X_3.here hx rfl (hb hby at_78) rfl (l' := #[.val (.long q0), .second, .val (.long q1), .second, .val (.long q2), .second, .val (.long q3), .second, .val (.int p4), .val (.long sz), .second, .val (.long ia), .second, .val (.long ib), .second, .val (.int md), .val (.long ic), .second, .val (.int sb), .unset, .unset, .unset, .unset]) rfl ?_
    show Steps p.tables e below (T_3.setTop (mkF m 80 #[.val (.long q0), .second, .val (.long q1), .second, .val (.long q2), .second, .val (.long q3), .second, .val (.int p4), .val (.long sz), .second, .val (.long ia), .second, .val (.long ib), .second, .val (.int md), .val (.long ic), .second, .val (.int sb), .unset, .unset, .unset, .unset] [])) _
    refine st_4 _ ?_
    show Steps p.tables e below (T_4.setTop (mkF m 83 #[.val (.long q0), .second, .val (.long q1), .second, .val (.long q2), .second, .val (.long q3), .second, .val (.int p4), .val (.long sz), .second, .val (.long ia), .second, .val (.long ib), .second, .val (.int md), .val (.long ic), .second, .val (.int sb), .unset, .unset, .unset, .unset] [(.ref b_4)])) _
    refine XS.dup X_4.here hx rfl (hb hby at_83) rfl rfl ?_
    show Steps p.tables e below (T_4.setTop (mkF m 84 #[.val (.long q0), .second, .val (.long q1), .second, .val (.long q2), .second, .val (.long q3), .second, .val (.int p4), .val (.long sz), .second, .val (.long ia), .second, .val (.long ib), .second, .val (.int md), .val (.long ic), .second, .val (.int sb), .unset, .unset, .unset, .unset] [(.ref b_4), (.ref b_4)])) _
    refine XS.lload X_4.here hx rfl (hb hby at_84) rfl ?_
    show Steps p.tables e below (T_4.setTop (mkF m 86 #[.val (.long q0), .second, .val (.long q1), .second, .val (.long q2), .second, .val (.long q3), .second, .val (.int p4), .val (.long sz), .second, .val (.long ia), .second, .val (.long ib), .second, .val (.int md), .val (.long ic), .second, .val (.int sb), .unset, .unset, .unset, .unset] [(.long sz), (.ref b_4), (.ref b_4)])) _
    refine st_6.trans ?_
    show Steps p.tables e below (T_6.setTop (mkF m 89 #[.val (.long q0), .second, .val (.long q1), .second, .val (.long q2), .second, .val (.long q3), .second, .val (.int p4), .val (.long sz), .second, .val (.long ia), .second, .val (.long ib), .second, .val (.int md), .val (.long ic), .second, .val (.int sb), .unset, .unset, .unset, .unset] [(.ref b_4)])) _
    refine XS.astore X_6.here hx rfl (hb hby at_89) rfl rfl (l' := #[.val (.long q0), .second, .val (.long q1), .second, .val (.long q2), .second, .val (.long q3), .second, .val (.int p4), .val (.long sz), .second, .val (.long ia), .second, .val (.long ib), .second, .val (.int md), .val (.long ic), .second, .val (.int sb), .val (.ref b_4), .unset, .unset, .unset]) rfl ?_
    show Steps p.tables e below (T_6.setTop (mkF m 91 #[.val (.long q0), .second, .val (.long q1), .second, .val (.long q2), .second, .val (.long q3), .second, .val (.int p4), .val (.long sz), .second, .val (.long ia), .second, .val (.long ib), .second, .val (.int md), .val (.long ic), .second, .val (.int sb), .val (.ref b_4), .unset, .unset, .unset] [])) _
    refine XS.aload X_6.here hx rfl (hb hby at_91) rfl rfl ?_
    show Steps p.tables e below (T_6.setTop (mkF m 93 #[.val (.long q0), .second, .val (.long q1), .second, .val (.long q2), .second, .val (.long q3), .second, .val (.int p4), .val (.long sz), .second, .val (.long ia), .second, .val (.long ib), .second, .val (.int md), .val (.long ic), .second, .val (.int sb), .val (.ref b_4), .unset, .unset, .unset] [(.ref b_4)])) _
    refine XS.lload X_6.here hx rfl (hb hby at_93) rfl ?_
    show Steps p.tables e below (T_6.setTop (mkF m 95 #[.val (.long q0), .second, .val (.long q1), .second, .val (.long q2), .second, .val (.long q3), .second, .val (.int p4), .val (.long sz), .second, .val (.long ia), .second, .val (.long ib), .second, .val (.int md), .val (.long ic), .second, .val (.int sb), .val (.ref b_4), .unset, .unset, .unset] [(.long ic), (.ref b_4)])) _
    refine st_8.trans ?_
    show Steps p.tables e below (T_8.setTop (mkF m 98 #[.val (.long q0), .second, .val (.long q1), .second, .val (.long q2), .second, .val (.long q3), .second, .val (.int p4), .val (.long sz), .second, .val (.long ia), .second, .val (.long ib), .second, .val (.int md), .val (.long ic), .second, .val (.int sb), .val (.ref b_4), .unset, .unset, .unset] [(.int (own_get 0 mc))])) _
    refine XS.istore X_8.here hx rfl (hb hby at_98) rfl (l' := #[.val (.long q0), .second, .val (.long q1), .second, .val (.long q2), .second, .val (.long q3), .second, .val (.int p4), .val (.long sz), .second, .val (.long ia), .second, .val (.long ib), .second, .val (.int md), .val (.long ic), .second, .val (.int sb), .val (.ref b_4), .val (.int (own_get 0 mc)), .unset, .unset]) rfl ?_
    show Steps p.tables e below (T_8.setTop (mkF m 100 #[.val (.long q0), .second, .val (.long q1), .second, .val (.long q2), .second, .val (.long q3), .second, .val (.int p4), .val (.long sz), .second, .val (.long ia), .second, .val (.long ib), .second, .val (.int md), .val (.long ic), .second, .val (.int sb), .val (.ref b_4), .val (.int (own_get 0 mc)), .unset, .unset] [])) _
    refine XS.aload X_8.here hx rfl (hb hby at_100) rfl rfl ?_
    show Steps p.tables e below (T_8.setTop (mkF m 102 #[.val (.long q0), .second, .val (.long q1), .second, .val (.long q2), .second, .val (.long q3), .second, .val (.int p4), .val (.long sz), .second, .val (.long ia), .second, .val (.long ib), .second, .val (.int md), .val (.long ic), .second, .val (.int sb), .val (.ref b_4), .val (.int (own_get 0 mc)), .unset, .unset] [(.ref b_4)])) _
    refine XS.lload X_8.here hx rfl (hb hby at_102) rfl ?_
    show Steps p.tables e below (T_8.setTop (mkF m 104 #[.val (.long q0), .second, .val (.long q1), .second, .val (.long q2), .second, .val (.long q3), .second, .val (.int p4), .val (.long sz), .second, .val (.long ia), .second, .val (.long ib), .second, .val (.int md), .val (.long ic), .second, .val (.int sb), .val (.ref b_4), .val (.int (own_get 0 mc)), .unset, .unset] [(.long ia), (.ref b_4)])) _
    refine st_10.trans ?_
    show Steps p.tables e below (T_10.setTop (mkF m 107 #[.val (.long q0), .second, .val (.long q1), .second, .val (.long q2), .second, .val (.long q3), .second, .val (.int p4), .val (.long sz), .second, .val (.long ia), .second, .val (.long ib), .second, .val (.int md), .val (.long ic), .second, .val (.int sb), .val (.ref b_4), .val (.int (own_get 0 mc)), .unset, .unset] [(.int (own_ch (0 : Int64) ma))])) _
    refine XS.pop X_10.here hx rfl (hb hby at_107) rfl rfl ?_
    show Steps p.tables e below (T_10.setTop (mkF m 108 #[.val (.long q0), .second, .val (.long q1), .second, .val (.long q2), .second, .val (.long q3), .second, .val (.int p4), .val (.long sz), .second, .val (.long ia), .second, .val (.long ib), .second, .val (.int md), .val (.long ic), .second, .val (.int sb), .val (.ref b_4), .val (.int (own_get 0 mc)), .unset, .unset] [])) _
    refine XS.iload X_10.here hx rfl (hb hby at_108) rfl ?_
    show Steps p.tables e below (T_10.setTop (mkF m 110 #[.val (.long q0), .second, .val (.long q1), .second, .val (.long q2), .second, .val (.long q3), .second, .val (.int p4), .val (.long sz), .second, .val (.long ia), .second, .val (.long ib), .second, .val (.int md), .val (.long ic), .second, .val (.int sb), .val (.ref b_4), .val (.int (own_get 0 mc)), .unset, .unset] [(.int sb)])) _
    refine XS.ifYes X_10.here hx rfl (pc0 := 110) (pc' := 121) rfl (hb hby at_110) rfl ((if0 _ _).trans (teq hc110).1) (by decide) (by decide) ?_
    show Steps p.tables e below (T_10.setTop (mkF m 121 #[.val (.long q0), .second, .val (.long q1), .second, .val (.long q2), .second, .val (.long q3), .second, .val (.int p4), .val (.long sz), .second, .val (.long ia), .second, .val (.long ib), .second, .val (.int md), .val (.long ic), .second, .val (.int sb), .val (.ref b_4), .val (.int (own_get 0 mc)), .unset, .unset] [])) _
    refine XS.aload X_10.here hx rfl (hb hby at_121) rfl rfl ?_
    show Steps p.tables e below (T_10.setTop (mkF m 123 #[.val (.long q0), .second, .val (.long q1), .second, .val (.long q2), .second, .val (.long q3), .second, .val (.int p4), .val (.long sz), .second, .val (.long ia), .second, .val (.long ib), .second, .val (.int md), .val (.long ic), .second, .val (.int sb), .val (.ref b_4), .val (.int (own_get 0 mc)), .unset, .unset] [(.ref b_4)])) _
    refine XS.lload X_10.here hx rfl (hb hby at_123) rfl ?_
    show Steps p.tables e below (T_10.setTop (mkF m 125 #[.val (.long q0), .second, .val (.long q1), .second, .val (.long q2), .second, .val (.long q3), .second, .val (.int p4), .val (.long sz), .second, .val (.long ia), .second, .val (.long ib), .second, .val (.int md), .val (.long ic), .second, .val (.int sb), .val (.ref b_4), .val (.int (own_get 0 mc)), .unset, .unset] [(.long ic), (.ref b_4)])) _
    refine st_12.trans ?_
    show Steps p.tables e below (T_12.setTop (mkF m 128 #[.val (.long q0), .second, .val (.long q1), .second, .val (.long q2), .second, .val (.long q3), .second, .val (.int p4), .val (.long sz), .second, .val (.long ia), .second, .val (.long ib), .second, .val (.int md), .val (.long ic), .second, .val (.int sb), .val (.ref b_4), .val (.int (own_get 0 mc)), .unset, .unset] [(.int r1)])) _
    refine XS.istore X_12.here hx rfl (hb hby at_128) rfl (l' := #[.val (.long q0), .second, .val (.long q1), .second, .val (.long q2), .second, .val (.long q3), .second, .val (.int p4), .val (.long sz), .second, .val (.long ia), .second, .val (.long ib), .second, .val (.int md), .val (.long ic), .second, .val (.int sb), .val (.ref b_4), .val (.int (own_get 0 mc)), .val (.int r1), .unset]) rfl ?_
    have jn130 : ∀ target, Steps p.tables e below (T_12.setTop (mkF m 156 #[.val (.long q0), .second, .val (.long q1), .second, .val (.long q2), .second, .val (.long q3), .second, .val (.int p4), .val (.long sz), .second, .val (.long ia), .second, .val (.long ib), .second, .val (.int md), .val (.long ic), .second, .val (.int sb), .val (.ref b_4), .val (.int (own_get 0 mc)), .val (.int r1), .unset] [(.int ex)])) target → Steps p.tables e below (T_12.setTop (mkF m 130 #[.val (.long q0), .second, .val (.long q1), .second, .val (.long q2), .second, .val (.long q3), .second, .val (.int p4), .val (.long sz), .second, .val (.long ia), .second, .val (.long ib), .second, .val (.int md), .val (.long ic), .second, .val (.int sb), .val (.ref b_4), .val (.int (own_get 0 mc)), .val (.int r1), .unset] [])) target := by
      intro target kt
      show Steps p.tables e below (T_12.setTop (mkF m 130 #[.val (.long q0), .second, .val (.long q1), .second, .val (.long q2), .second, .val (.long q3), .second, .val (.int p4), .val (.long sz), .second, .val (.long ia), .second, .val (.long ib), .second, .val (.int md), .val (.long ic), .second, .val (.int sb), .val (.ref b_4), .val (.int (own_get 0 mc)), .val (.int r1), .unset] [])) _
      refine XS.lload X_12.here hx rfl (hb hby at_130) rfl ?_
      show Steps p.tables e below (T_12.setTop (mkF m 132 #[.val (.long q0), .second, .val (.long q1), .second, .val (.long q2), .second, .val (.long q3), .second, .val (.int p4), .val (.long sz), .second, .val (.long ia), .second, .val (.long ib), .second, .val (.int md), .val (.long ic), .second, .val (.int sb), .val (.ref b_4), .val (.int (own_get 0 mc)), .val (.int r1), .unset] [(.long ic)])) _
      refine XS.lload X_12.here hx rfl (hb hby at_132) rfl ?_
      show Steps p.tables e below (T_12.setTop (mkF m 134 #[.val (.long q0), .second, .val (.long q1), .second, .val (.long q2), .second, .val (.long q3), .second, .val (.int p4), .val (.long sz), .second, .val (.long ia), .second, .val (.long ib), .second, .val (.int md), .val (.long ic), .second, .val (.int sb), .val (.ref b_4), .val (.int (own_get 0 mc)), .val (.int r1), .unset] [(.long ia), (.long ic)])) _
      refine XS.lcmp X_12.here hx rfl (hb hby at_134) rfl ?_
      show Steps p.tables e below (T_12.setTop (mkF m 135 #[.val (.long q0), .second, .val (.long q1), .second, .val (.long q2), .second, .val (.long q3), .second, .val (.int p4), .val (.long sz), .second, .val (.long ia), .second, .val (.long ib), .second, .val (.int md), .val (.long ic), .second, .val (.int sb), .val (.ref b_4), .val (.int (own_get 0 mc)), .val (.int r1), .unset] [(.int (lcmpW ic ia))])) _
      by_cases hj135_0 : (lcmpW ic ia) = (0 : Int32)
      · refine XS.ifYes X_12.here hx rfl (pc0 := 135) (pc' := 151) rfl (hb hby at_135) rfl ((if0 _ _).trans (teq hj135_0).1) (by decide) (by decide) ?_
        show Steps p.tables e below (T_12.setTop (mkF m 151 #[.val (.long q0), .second, .val (.long q1), .second, .val (.long q2), .second, .val (.long q3), .second, .val (.int p4), .val (.long sz), .second, .val (.long ia), .second, .val (.long ib), .second, .val (.int md), .val (.long ic), .second, .val (.int sb), .val (.ref b_4), .val (.int (own_get 0 mc)), .val (.int r1), .unset] [])) _
        refine XS.iconst X_12.here hx rfl (hb hby at_151) ?_
        show Steps p.tables e below (T_12.setTop (mkF m 152 #[.val (.long q0), .second, .val (.long q1), .second, .val (.long q2), .second, .val (.long q3), .second, .val (.int p4), .val (.long sz), .second, .val (.long ia), .second, .val (.long ib), .second, .val (.int md), .val (.long ic), .second, .val (.int sb), .val (.ref b_4), .val (.int (own_get 0 mc)), .val (.int r1), .unset] [(.int (1 : Int32))])) _
        refine XS.goto X_12.here hx rfl (pc0 := 152) (pc' := 156) rfl (hb hby at_152) (by decide) (by decide) ?_
        rw [← hex_, if_pos hj135_0] at kt
        exact kt
      · refine XS.ifNo X_12.here hx rfl (hb hby at_135) rfl ((if0 _ _).trans (feq hj135_0).1) ?_
        show Steps p.tables e below (T_12.setTop (mkF m 138 #[.val (.long q0), .second, .val (.long q1), .second, .val (.long q2), .second, .val (.long q3), .second, .val (.int p4), .val (.long sz), .second, .val (.long ia), .second, .val (.long ib), .second, .val (.int md), .val (.long ic), .second, .val (.int sb), .val (.ref b_4), .val (.int (own_get 0 mc)), .val (.int r1), .unset] [])) _
        refine XS.iload X_12.here hx rfl (hb hby at_138) rfl ?_
        show Steps p.tables e below (T_12.setTop (mkF m 140 #[.val (.long q0), .second, .val (.long q1), .second, .val (.long q2), .second, .val (.long q3), .second, .val (.int p4), .val (.long sz), .second, .val (.long ia), .second, .val (.long ib), .second, .val (.int md), .val (.long ic), .second, .val (.int sb), .val (.ref b_4), .val (.int (own_get 0 mc)), .val (.int r1), .unset] [(.int sb)])) _
        by_cases hj140_1 : sb = (0 : Int32)
        · refine XS.ifYes X_12.here hx rfl (pc0 := 140) (pc' := 155) rfl (hb hby at_140) rfl ((if0 _ _).trans (teq hj140_1).1) (by decide) (by decide) ?_
          show Steps p.tables e below (T_12.setTop (mkF m 155 #[.val (.long q0), .second, .val (.long q1), .second, .val (.long q2), .second, .val (.long q3), .second, .val (.int p4), .val (.long sz), .second, .val (.long ia), .second, .val (.long ib), .second, .val (.int md), .val (.long ic), .second, .val (.int sb), .val (.ref b_4), .val (.int (own_get 0 mc)), .val (.int r1), .unset] [])) _
          refine XS.iconst X_12.here hx rfl (hb hby at_155) ?_
          rw [← hex_, if_neg hj135_0, if_pos hj140_1] at kt
          exact kt
        · refine XS.ifNo X_12.here hx rfl (hb hby at_140) rfl ((if0 _ _).trans (feq hj140_1).1) ?_
          show Steps p.tables e below (T_12.setTop (mkF m 143 #[.val (.long q0), .second, .val (.long q1), .second, .val (.long q2), .second, .val (.long q3), .second, .val (.int p4), .val (.long sz), .second, .val (.long ia), .second, .val (.long ib), .second, .val (.int md), .val (.long ic), .second, .val (.int sb), .val (.ref b_4), .val (.int (own_get 0 mc)), .val (.int r1), .unset] [])) _
          refine XS.lload X_12.here hx rfl (hb hby at_143) rfl ?_
          show Steps p.tables e below (T_12.setTop (mkF m 145 #[.val (.long q0), .second, .val (.long q1), .second, .val (.long q2), .second, .val (.long q3), .second, .val (.int p4), .val (.long sz), .second, .val (.long ia), .second, .val (.long ib), .second, .val (.int md), .val (.long ic), .second, .val (.int sb), .val (.ref b_4), .val (.int (own_get 0 mc)), .val (.int r1), .unset] [(.long ic)])) _
          refine XS.lload X_12.here hx rfl (hb hby at_145) rfl ?_
          show Steps p.tables e below (T_12.setTop (mkF m 147 #[.val (.long q0), .second, .val (.long q1), .second, .val (.long q2), .second, .val (.long q3), .second, .val (.int p4), .val (.long sz), .second, .val (.long ia), .second, .val (.long ib), .second, .val (.int md), .val (.long ic), .second, .val (.int sb), .val (.ref b_4), .val (.int (own_get 0 mc)), .val (.int r1), .unset] [(.long ib), (.long ic)])) _
          refine XS.lcmp X_12.here hx rfl (hb hby at_147) rfl ?_
          show Steps p.tables e below (T_12.setTop (mkF m 148 #[.val (.long q0), .second, .val (.long q1), .second, .val (.long q2), .second, .val (.long q3), .second, .val (.int p4), .val (.long sz), .second, .val (.long ia), .second, .val (.long ib), .second, .val (.int md), .val (.long ic), .second, .val (.int sb), .val (.ref b_4), .val (.int (own_get 0 mc)), .val (.int r1), .unset] [(.int (lcmpW ic ib))])) _
          by_cases hj148_2 : (lcmpW ic ib) = (0 : Int32)
          · refine XS.ifNo X_12.here hx rfl (hb hby at_148) rfl ((if0 _ _).trans (teq hj148_2).2) ?_
            show Steps p.tables e below (T_12.setTop (mkF m 151 #[.val (.long q0), .second, .val (.long q1), .second, .val (.long q2), .second, .val (.long q3), .second, .val (.int p4), .val (.long sz), .second, .val (.long ia), .second, .val (.long ib), .second, .val (.int md), .val (.long ic), .second, .val (.int sb), .val (.ref b_4), .val (.int (own_get 0 mc)), .val (.int r1), .unset] [])) _
            refine XS.iconst X_12.here hx rfl (hb hby at_151) ?_
            show Steps p.tables e below (T_12.setTop (mkF m 152 #[.val (.long q0), .second, .val (.long q1), .second, .val (.long q2), .second, .val (.long q3), .second, .val (.int p4), .val (.long sz), .second, .val (.long ia), .second, .val (.long ib), .second, .val (.int md), .val (.long ic), .second, .val (.int sb), .val (.ref b_4), .val (.int (own_get 0 mc)), .val (.int r1), .unset] [(.int (1 : Int32))])) _
            refine XS.goto X_12.here hx rfl (pc0 := 152) (pc' := 156) rfl (hb hby at_152) (by decide) (by decide) ?_
            rw [← hex_, if_neg hj135_0, if_neg hj140_1, if_pos hj148_2] at kt
            exact kt
          · refine XS.ifYes X_12.here hx rfl (pc0 := 148) (pc' := 155) rfl (hb hby at_148) rfl ((if0 _ _).trans (feq hj148_2).2) (by decide) (by decide) ?_
            show Steps p.tables e below (T_12.setTop (mkF m 155 #[.val (.long q0), .second, .val (.long q1), .second, .val (.long q2), .second, .val (.long q3), .second, .val (.int p4), .val (.long sz), .second, .val (.long ia), .second, .val (.long ib), .second, .val (.int md), .val (.long ic), .second, .val (.int sb), .val (.ref b_4), .val (.int (own_get 0 mc)), .val (.int r1), .unset] [])) _
            refine XS.iconst X_12.here hx rfl (hb hby at_155) ?_
            rw [← hex_, if_neg hj135_0, if_neg hj140_1, if_neg hj148_2] at kt
            exact kt
    refine jn130 _ ?_
    show Steps p.tables e below (T_12.setTop (mkF m 156 #[.val (.long q0), .second, .val (.long q1), .second, .val (.long q2), .second, .val (.long q3), .second, .val (.int p4), .val (.long sz), .second, .val (.long ia), .second, .val (.long ib), .second, .val (.int md), .val (.long ic), .second, .val (.int sb), .val (.ref b_4), .val (.int (own_get 0 mc)), .val (.int r1), .unset] [(.int ex)])) _
    refine XS.istore X_12.here hx rfl (hb hby at_156) rfl (l' := #[.val (.long q0), .second, .val (.long q1), .second, .val (.long q2), .second, .val (.long q3), .second, .val (.int p4), .val (.long sz), .second, .val (.long ia), .second, .val (.long ib), .second, .val (.int md), .val (.long ic), .second, .val (.int sb), .val (.ref b_4), .val (.int (own_get 0 mc)), .val (.int r1), .val (.int ex)]) rfl ?_
    show Steps p.tables e below (T_12.setTop (mkF m 158 #[.val (.long q0), .second, .val (.long q1), .second, .val (.long q2), .second, .val (.long q3), .second, .val (.int p4), .val (.long sz), .second, .val (.long ia), .second, .val (.long ib), .second, .val (.int md), .val (.long ic), .second, .val (.int sb), .val (.ref b_4), .val (.int (own_get 0 mc)), .val (.int r1), .val (.int ex)] [])) _
    refine XS.iload X_12.here hx rfl (hb hby at_158) rfl ?_
    show Steps p.tables e below (T_12.setTop (mkF m 160 #[.val (.long q0), .second, .val (.long q1), .second, .val (.long q2), .second, .val (.long q3), .second, .val (.int p4), .val (.long sz), .second, .val (.long ia), .second, .val (.long ib), .second, .val (.int md), .val (.long ic), .second, .val (.int sb), .val (.ref b_4), .val (.int (own_get 0 mc)), .val (.int r1), .val (.int ex)] [(.int (own_get 0 mc))])) _
    refine XS.ifNo X_12.here hx rfl (hb hby at_160) rfl ((if0 _ _).trans (teq hc160).2) ?_
    show Steps p.tables e below (T_12.setTop (mkF m 163 #[.val (.long q0), .second, .val (.long q1), .second, .val (.long q2), .second, .val (.long q3), .second, .val (.int p4), .val (.long sz), .second, .val (.long ia), .second, .val (.long ib), .second, .val (.int md), .val (.long ic), .second, .val (.int sb), .val (.ref b_4), .val (.int (own_get 0 mc)), .val (.int r1), .val (.int ex)] [])) _
    refine XS.iload X_12.here hx rfl (hb hby at_163) rfl ?_
    show Steps p.tables e below (T_12.setTop (mkF m 165 #[.val (.long q0), .second, .val (.long q1), .second, .val (.long q2), .second, .val (.long q3), .second, .val (.int p4), .val (.long sz), .second, .val (.long ia), .second, .val (.long ib), .second, .val (.int md), .val (.long ic), .second, .val (.int sb), .val (.ref b_4), .val (.int (own_get 0 mc)), .val (.int r1), .val (.int ex)] [(.int r1)])) _
    refine XS.iload X_12.here hx rfl (hb hby at_165) rfl ?_
    show Steps p.tables e below (T_12.setTop (mkF m 167 #[.val (.long q0), .second, .val (.long q1), .second, .val (.long q2), .second, .val (.long q3), .second, .val (.int p4), .val (.long sz), .second, .val (.long ia), .second, .val (.long ib), .second, .val (.int md), .val (.long ic), .second, .val (.int sb), .val (.ref b_4), .val (.int (own_get 0 mc)), .val (.int r1), .val (.int ex)] [(.int ex), (.int r1)])) _
    refine XS.icmpNo X_12.here hx rfl (hb hby at_167) rfl (teq hc167).2 ?_
    show Steps p.tables e below (T_12.setTop (mkF m 170 #[.val (.long q0), .second, .val (.long q1), .second, .val (.long q2), .second, .val (.long q3), .second, .val (.int p4), .val (.long sz), .second, .val (.long ia), .second, .val (.long ib), .second, .val (.int md), .val (.long ic), .second, .val (.int sb), .val (.ref b_4), .val (.int (own_get 0 mc)), .val (.int r1), .val (.int ex)] [])) _
    refine XS.iconst X_12.here hx rfl (hb hby at_170) ?_
    show Steps p.tables e below (T_12.setTop (mkF m 171 #[.val (.long q0), .second, .val (.long q1), .second, .val (.long q2), .second, .val (.long q3), .second, .val (.int p4), .val (.long sz), .second, .val (.long ia), .second, .val (.long ib), .second, .val (.int md), .val (.long ic), .second, .val (.int sb), .val (.ref b_4), .val (.int (own_get 0 mc)), .val (.int r1), .val (.int ex)] [(.int (1 : Int32))])) _
    refine XS.goto X_12.here hx rfl (pc0 := 171) (pc' := 175) rfl (hb hby at_171) (by decide) (by decide) ?_
    show Steps p.tables e below (T_12.setTop (mkF m 175 #[.val (.long q0), .second, .val (.long q1), .second, .val (.long q2), .second, .val (.long q3), .second, .val (.int p4), .val (.long sz), .second, .val (.long ia), .second, .val (.long ib), .second, .val (.int md), .val (.long ic), .second, .val (.int sb), .val (.ref b_4), .val (.int (own_get 0 mc)), .val (.int r1), .val (.int ex)] [(.int (1 : Int32))])) _
    exact retN X_12 hx (t := .boolean) Bd.returns (by simp) (hb hby at_175) hr
  · show Q0 Z  h0 n0 _ T_12.heap _
    rw [eq_12]
    exact ⟨rfl, N_12⟩
set_option maxRecDepth 65536 in
set_option maxHeartbeats 40000000 in
theorem rm0_21 (l : Launch) (Z : State) (a0 : Array Value) (hw : ∀ d ∈ tables_1, d.before a0 Z = true) (ws : List Jvm.Cond) (q0 : Int64) (q1 : Int64) (q2 : Int64) (q3 : Int64) (p4 : Int32) (sz : Int64) (ia : Int64) (ib : Int64) (ic : Int64) (wd : Int64) (nw : Int32) (ja : Int32) (jb : Int32) (jc : Int32) (ma : Int64) (mb : Int64) (mc : Int64) (x1 : Int64) (x2 : Int64) (xc : Int64) (r1 : Int32) (md : Int32) (sb : Int32) (ex : Int32) (h0 : Heap) (n0 : Nat) (Z0 : n0 ≤ h0.size) (hsz_ : sz ≠ (0 : Int64)) (hia_ : (q1 &&& (9223372036854775807 : Int64)) % sz = ia) (hib_ : (q2 &&& (9223372036854775807 : Int64)) % sz = ib) (hic_ : (q3 &&& (9223372036854775807 : Int64)) % sz = ic) (hb7 : ¬ (lcmpW sz (1 : Int64) < (0 : Int32))) (hb15 : ¬ ((0 : Int32) < lcmpW sz (137438952896 : Int64))) (hwd_ : ((sz + (64 : Int64)) - (1 : Int64)) / (64 : Int64) = wd) (hnw_ : wd.toInt32 = nw) (hn0_ : ¬ nw < 0) (hn1_ : nw.toNatClampNeg ≤ 16) (hja_ : (((ia.toUInt64 >>> ((6 : Int32) &&& 0x3f).toInt64.toUInt64).toInt64).toInt32) = ja) (hja0 : ¬ ja < 0) (hja1 : ja < nw) (hma_ : ((1 : Int64) <<< ((ia.toInt32) &&& 0x3f).toInt64) = ma) (hjb_ : (((ib.toUInt64 >>> ((6 : Int32) &&& 0x3f).toInt64.toUInt64).toInt64).toInt32) = jb) (hjb0 : ¬ jb < 0) (hjb1 : jb < nw) (hmb_ : ((1 : Int64) <<< ((ib.toInt32) &&& 0x3f).toInt64) = mb) (hjc_ : (((ic.toUInt64 >>> ((6 : Int32) &&& 0x3f).toInt64.toUInt64).toInt64).toInt32) = jc) (hjc0 : ¬ jc < 0) (hjc1 : jc < nw) (hmc_ : ((1 : Int64) <<< ((ic.toInt32) &&& 0x3f).toInt64) = mc) (hx2_ : (fun j => if j = ja.toNatClampNeg then Value.long ((0 : Int64) ||| ma) else (fun _ => (Value.long (0 : Int64))) j) jb.toNatClampNeg = .long x2) (hxc_ : (fun j => if j = jb.toNatClampNeg then Value.long (x2 ||| mb) else (fun j => if j = ja.toNatClampNeg then Value.long ((0 : Int64) ||| ma) else (fun _ => (Value.long (0 : Int64))) j) j) jc.toNatClampNeg = .long xc) (hor1_ : ¬ lcmpW ((0 : Int64) &&& ma) 0 = 0 → (0 : Int64) ||| ma = (0 : Int64)) (hor2_ : ¬ lcmpW (x2 &&& mb) 0 = 0 → x2 ||| mb = x2) (hr1_ : own_get xc mc = r1) (hs_ : ((1 : Int64) + (q0 &&& (1023 : Int64))) = sz) (hmd_ : (p4 &&& (3 : Int32)) = md) (hc34 : ¬ (md = (0 : Int32))) (hc47 : ¬ (md = (1 : Int32))) (hsb_ : (if (p4 &&& (4 : Int32)) = (0 : Int32) then (0 : Int32) else (1 : Int32)) = sb) (hc110 : ¬ (sb = (0 : Int32))) (hex_ : (if (lcmpW ic ia) = (0 : Int32) then (1 : Int32) else (if sb = (0 : Int32) then (0 : Int32) else (if (lcmpW ic ib) = (0 : Int32) then (1 : Int32) else (0 : Int32)))) = ex) (hc160 : (own_get 0 mc) = (0 : Int32)) (hc167 : r1 = ex) :
    MetFree l x (head1 (Jvm.Cond.code x code maxLocals ret :: ws) room_1) (fun as_ U => as_ = #[(.long q0), (.long q1), (.long q2), (.long q3), (.int p4)] ∧ Z.Warmed39 U.vm ∧ U.heap = h0) (fun _ _ _ _ _ => True) (fun _ U o U' => ∃ v L, o = .returned v ∧ Q0 Z  h0 n0 v U'.heap L ∧ FrameEnd U o U' L 2 18) := by
  refine MetFree.of_bodySF (plainFor_of_name pn_0) hisR ?_
  intro p e s m args below meth c s₁ Bd hml0 hP hK
  obtain ⟨rfl, hZ, hh⟩ := hP
  have hx := Bd.exec
  have hby := Bd.bytes
  have hml : c.maxLocals = 23 := hml0
  have hown : s.vm.findClass "com/example/mussel/mussel/engine/BitArrayGetPinLaw" = some m.cls := findClass_of_methodNamed Bd.named
  have hnm := (name_of_methodNamed Bd.named Bd.method).1
  have X0 : Stand p l e room_1 s m #[(.long q0), (.long q1), (.long q2), (.long q3), (.int p4)] below meth c s₁ [] 0 0 := Stand.of_body Bd
  have e0 : s₁.heap = h0 := by rw [← hh, Bd.state]; rfl
  have N0 := Fr.nil n0
  have pre0 : ∀ t, Steps p.tables e below (s₁.setTop (mkF m 0 #[.val (.long q0), .second, .val (.long q1), .second, .val (.long q2), .second, .val (.long q3), .second, .val (.int p4), .unset, .unset, .unset, .unset, .unset, .unset, .unset, .unset, .unset, .unset, .unset, .unset, .unset, .unset] [])) t → Steps p.tables e below (s₁.setTop (entryFrame m #[(.long q0), (.long q1), (.long q2), (.long q3), (.int p4)] maxLocals)) t := fun t k => castTop (ef_0 m q0 q1 q2 q3 p4) k
  obtain ⟨_, _, ⟨T_1, L_1, k_1, n_1⟩, -, X_1, ⟨Lc_1, hQ_1, l_1, y_1, z_1⟩, st_1⟩ := Jvm.LawKit.callS X0 hx (y := (⟨"com/example/mussel/mussel/engine/BitArrayGetPinLaw", "pick", "(JJ)J"⟩ : MethodName)) hown (mvT hZ (hw _ (List.mem_of_getElem? (i := 1) rfl))) (mvT hZ (hw _ (List.mem_of_getElem? (i := 2) rfl))) (mvT hZ (hw _ (List.mem_of_getElem? (i := 3) rfl))) (mvT hZ (hw _ (List.mem_of_getElem? (i := 4) rfl))) (by decide) (backOf (W := 0) (rm1 l Z a0 hw [] q1 sz ia h0 n0 Z0 hsz_ hia_) hZ (hw _ (List.mem_of_getElem? (i := 4) rfl)) (hw _ (List.mem_of_getElem? (i := 3) rfl)) (by decide) (by decide)) (g := (mkF m 12 #[.val (.long q0), .second, .val (.long q1), .second, .val (.long q2), .second, .val (.long q3), .second, .val (.int p4), .val (.long sz), .second, .unset, .unset, .unset, .unset, .unset, .unset, .unset, .unset, .unset, .unset, .unset, .unset] [(.long sz), (.long q1)])) rfl (by rw [hml]; rfl) (argsL := [(.long q1), (.long sz)]) (rest := []) (lenOf pd_1 rfl) rfl (by show 2 * 0 + _ ≤ _; exact Nat.le_of_eq rfl) (hb hby at_12) (fun _ _ => ⟨rfl, e0, (by decide : 0 + 0 ≤ _), (by decide : 0 + 0 ≤ _)⟩)
  dsimp only [Pt.U, Pt.locs, Pt.cells, Pt.slots] at X_1 l_1 y_1 z_1 st_1 hQ_1
  subst l_1 y_1 z_1
  obtain ⟨rfl, Nq_1, eq_1⟩ := hQ_1
  have N_1 := Fr.app N0 Nq_1
  obtain ⟨_, _, ⟨T_2, L_2, k_2, n_2⟩, -, X_2, ⟨Lc_2, hQ_2, l_2, y_2, z_2⟩, st_2⟩ := Jvm.LawKit.callS X_1 hx (y := (⟨"com/example/mussel/mussel/engine/BitArrayGetPinLaw", "pick", "(JJ)J"⟩ : MethodName)) hown (mvT hZ (hw _ (List.mem_of_getElem? (i := 1) rfl))) (mvT hZ (hw _ (List.mem_of_getElem? (i := 2) rfl))) (mvT hZ (hw _ (List.mem_of_getElem? (i := 3) rfl))) (mvT hZ (hw _ (List.mem_of_getElem? (i := 4) rfl))) (by decide) (backOf (W := 0) (rm1 l Z a0 hw [] q2 sz ib h0 n0 Z0 hsz_ hib_) hZ (hw _ (List.mem_of_getElem? (i := 4) rfl)) (hw _ (List.mem_of_getElem? (i := 3) rfl)) (by decide) (by decide)) (g := (mkF m 21 #[.val (.long q0), .second, .val (.long q1), .second, .val (.long q2), .second, .val (.long q3), .second, .val (.int p4), .val (.long sz), .second, .val (.long ia), .second, .unset, .unset, .unset, .unset, .unset, .unset, .unset, .unset, .unset, .unset] [(.long sz), (.long q2)])) rfl (by rw [hml]; rfl) (argsL := [(.long q2), (.long sz)]) (rest := []) (lenOf pd_1 rfl) rfl (by show 2 * 0 + _ ≤ _; exact Nat.le_of_eq rfl) (hb hby at_21) (fun _ _ => ⟨rfl, eq_1, (by decide : 0 + 0 ≤ _), (by decide : 0 + 0 ≤ _)⟩)
  dsimp only [Pt.U, Pt.locs, Pt.cells, Pt.slots] at X_2 l_2 y_2 z_2 st_2 hQ_2
  subst l_2 y_2 z_2
  obtain ⟨rfl, Nq_2, eq_2⟩ := hQ_2
  have N_2 := Fr.app N_1 Nq_2
  obtain ⟨_, _, ⟨T_3, L_3, k_3, n_3⟩, -, X_3, ⟨Lc_3, hQ_3, l_3, y_3, z_3⟩, st_3⟩ := Jvm.LawKit.callS X_2 hx (y := (⟨"com/example/mussel/mussel/engine/BitArrayGetPinLaw", "pick", "(JJ)J"⟩ : MethodName)) hown (mvT hZ (hw _ (List.mem_of_getElem? (i := 1) rfl))) (mvT hZ (hw _ (List.mem_of_getElem? (i := 2) rfl))) (mvT hZ (hw _ (List.mem_of_getElem? (i := 3) rfl))) (mvT hZ (hw _ (List.mem_of_getElem? (i := 4) rfl))) (by decide) (backOf (W := 0) (rm1 l Z a0 hw [] q3 sz ic h0 n0 Z0 hsz_ hic_) hZ (hw _ (List.mem_of_getElem? (i := 4) rfl)) (hw _ (List.mem_of_getElem? (i := 3) rfl)) (by decide) (by decide)) (g := (mkF m 61 #[.val (.long q0), .second, .val (.long q1), .second, .val (.long q2), .second, .val (.long q3), .second, .val (.int p4), .val (.long sz), .second, .val (.long ia), .second, .val (.long ib), .second, .val (.int md), .unset, .unset, .unset, .unset, .unset, .unset, .unset] [(.long sz), (.long q3)])) rfl (by rw [hml]; rfl) (argsL := [(.long q3), (.long sz)]) (rest := []) (lenOf pd_1 rfl) rfl (by show 2 * 0 + _ ≤ _; exact Nat.le_of_eq rfl) (hb hby at_61) (fun _ _ => ⟨rfl, eq_2, (by decide : 0 + 0 ≤ _), (by decide : 0 + 0 ≤ _)⟩)
  dsimp only [Pt.U, Pt.locs, Pt.cells, Pt.slots] at X_3 l_3 y_3 z_3 st_3 hQ_3
  subst l_3 y_3 z_3
  obtain ⟨rfl, Nq_3, eq_3⟩ := hQ_3
  have N_3 := Fr.app N_2 Nq_3
  obtain ⟨T_4, h_4, X_4, e_4, E_4, A_4, D_4, -, st_4⟩ := newO X_3 hx hZ hown (hw _ (List.mem_of_getElem? (i := 6) rfl)) (hw _ (List.mem_of_getElem? (i := 7) rfl)) (hw _ (List.mem_of_getElem? (i := 8) rfl)) eq_3 (g := (mkF m 80 #[.val (.long q0), .second, .val (.long q1), .second, .val (.long q2), .second, .val (.long q3), .second, .val (.int p4), .val (.long sz), .second, .val (.long ia), .second, .val (.long ib), .second, .val (.int md), .val (.long ic), .second, .val (.int sb), .unset, .unset, .unset, .unset] [])) rfl (hb hby at_80) (by decide) (by decide)
  obtain ⟨b_4, g_4⟩ : ∃ z, z = h0.size := ⟨_, rfl⟩
  rw [← g_4] at A_4 D_4 st_4
  have g_b_4 : n0 ≤ b_4 := Nat.le_trans Z0 (Nat.le_of_eq g_4.symm)
  have sz_b_4 : h0.size ≤ b_4 := Nat.le_trans (Keep.refl h0 []).1 (Nat.le_of_eq g_4.symm)
  have K_4 : Keep h0 h_4 [] := (Keep.refl h0 []).ext E_4
  have Z_5 : n0 ≤ h_4.size := Nat.le_trans Z0 E_4.1
  have F_words_b_4 : Fld Z h_4 b_4 "com/example/mussel/mussel/engine/BitArray" "words" "[J" .null := D_4 (Or.inr (hw _ (List.mem_of_getElem? (i := 22) rfl))) (ty := (.array .long)) (by decide)
  have F_capture_b_4 : Fld Z h_4 b_4 "com/example/mussel/mussel/engine/BitArray" "capture" "Lcom/example/mussel/mussel/engine/BitArray$Capture;" .null := D_4 (Or.inl (hw _ (List.mem_of_getElem? (i := 34) rfl))) (ty := (.object "com/example/mussel/mussel/engine/BitArray$Capture")) (by decide)
  obtain ⟨c_6, g_6⟩ : ∃ z, z = h_4.size := ⟨_, rfl⟩
  have ne_b_4_c_6 : b_4 ≠ c_6 := Nat.ne_of_lt (Nat.lt_of_lt_of_le A_4.lt (Nat.le_of_eq g_6.symm))
  have g_c_6 : n0 ≤ c_6 := Nat.le_trans Z_5 (Nat.le_of_eq g_6.symm)
  have sz_c_6 : h0.size ≤ c_6 := Nat.le_trans K_4.1 (Nat.le_of_eq g_6.symm)
  obtain ⟨_, _, ⟨T_6, L_6, k_6, n_6⟩, -, X_6, ⟨Lc_6, hQ_6, l_6, y_6, z_6⟩, st_6⟩ := X_4.specialBack hx (y := (⟨"com/example/mussel/mussel/engine/BitArray", "<init>", "(J)V"⟩ : MethodName)) rfl hown (mvT hZ (hw _ (List.mem_of_getElem? (i := 9) rfl))) (mvT hZ (hw _ (List.mem_of_getElem? (i := 10) rfl))) (mvT hZ (hw _ (List.mem_of_getElem? (i := 11) rfl))) (by decide) (backOf (W := 1) (rm2 l Z a0 hw [] b_4 sz c_6 wd nw h_4 n0 Z_5 g_6 hwd_ hn0_ hn1_ A_4 F_words_b_4 F_capture_b_4 g_b_4 hb7 hb15 hnw_) hZ (hw _ (List.mem_of_getElem? (i := 11) rfl)) (hw _ (List.mem_of_getElem? (i := 8) rfl)) (by decide) (by decide)) (g := (mkF m 86 #[.val (.long q0), .second, .val (.long q1), .second, .val (.long q2), .second, .val (.long q3), .second, .val (.int p4), .val (.long sz), .second, .val (.long ia), .second, .val (.long ib), .second, .val (.int md), .val (.long ic), .second, .val (.int sb), .unset, .unset, .unset, .unset] [(.long sz), (.ref b_4), (.ref b_4)])) rfl (by rw [hml]; rfl) (Steps.refl _) (a := b_4) (argsL := [(.long sz)]) (rest := [(.ref b_4)]) (lenOf pd_2 rfl) rfl (by show 2 * 0 + _ ≤ _; exact Nat.le_of_eq rfl) (hb hby at_86) (fun _ _ => ⟨rfl, e_4, (by decide : 1 + 1 ≤ _), (by decide : 2 + 16 ≤ _)⟩)
  dsimp only [Pt.U, Pt.locs, Pt.cells, Pt.slots] at X_6 l_6 y_6 z_6 st_6 hQ_6
  subst l_6 y_6 z_6
  obtain ⟨rfl, Nq_6, Kq_6, Fw_6, Fc_6, Vq_6⟩ := hQ_6
  have N_6 := Fr.app N_3 Nq_6
  have KK_6 : Keep h0 T_6.heap [] := K_4.trans Kq_6 (allS (Or.inr sz_b_4) all0)
  have Z_7 : n0 ≤ T_6.heap.size := Nat.le_trans Z_5 Kq_6.1
  have f_9_E_b_4 := (A_4.keep Kq_6)
  obtain ⟨cq_8, kq_8, q_8a, q_8b, q_8c⟩ := isOf hZ rfl f_9_E_b_4
  obtain ⟨_, _, ⟨T_8, L_8, k_8, n_8⟩, -, X_8, ⟨Lc_8, hQ_8, l_8, y_8, z_8⟩, st_8⟩ := X_6.virtualBack hx (y := (⟨"com/example/mussel/mussel/engine/BitArray", "get", "(J)Z"⟩ : MethodName)) (z := (⟨"com/example/mussel/mussel/engine/BitArray", "get", "(J)Z"⟩ : MethodName)) hown (mvT hZ (hw _ (List.mem_of_getElem? (i := 23) rfl))) (mvT hZ (hw _ (List.mem_of_getElem? (i := 24) rfl))) (notFace_of_selects (args := #[]) (mvT hZ (hw _ (List.mem_of_getElem? (i := 26) rfl)))) (mvT hZ (hw _ (List.mem_of_getElem? (i := 26) rfl))) (mvT hZ (hw _ (List.mem_of_getElem? (i := 25) rfl))) (by decide) (backOf (W := 0) (rm5 l Z a0 hw [] b_4 ic c_6 nw (fun _ => (Value.long (0 : Int64))) jc (0 : Int64) mc (own_get 0 mc) T_6.heap n0 Z_7 Fw_6 Vq_6 hjc0 hjc1 rfl (own_get_nar _ _) hjc_ hmc_ rfl) hZ (hw _ (List.mem_of_getElem? (i := 27) rfl)) (hw _ (List.mem_of_getElem? (i := 8) rfl)) (by decide) (by decide)) q_8a q_8c (g := (mkF m 95 #[.val (.long q0), .second, .val (.long q1), .second, .val (.long q2), .second, .val (.long q3), .second, .val (.int p4), .val (.long sz), .second, .val (.long ia), .second, .val (.long ib), .second, .val (.int md), .val (.long ic), .second, .val (.int sb), .val (.ref b_4), .unset, .unset, .unset] [(.long ic), (.ref b_4)])) rfl (by rw [hml]; rfl) (Steps.refl _) (argsL := [(.long ic)]) (rest := []) (lenOf pd_3 rfl) rfl (by show 2 * 0 + _ ≤ _; exact Nat.le_of_eq rfl) (hb hby at_95) (fun _ _ => ⟨rfl, rfl, (by decide : 2 + 0 ≤ _), (by decide : 18 + 0 ≤ _)⟩)
  dsimp only [Pt.U, Pt.locs, Pt.cells, Pt.slots] at X_8 l_8 y_8 z_8 st_8 hQ_8
  subst l_8 y_8 z_8
  obtain ⟨rfl, Nq_8, eq_8⟩ := hQ_8
  have N_8 := Fr.app N_6 Nq_8
  obtain ⟨cq_10, kq_10, q_10a, q_10b, q_10c⟩ := isOf hZ eq_8 f_9_E_b_4
  obtain ⟨_, _, ⟨T_10, L_10, k_10, n_10⟩, -, X_10, ⟨Lc_10, hQ_10, l_10, y_10, z_10⟩, st_10⟩ := X_8.virtualBack hx (y := (⟨"com/example/mussel/mussel/engine/BitArray", "set", "(J)Z"⟩ : MethodName)) (z := (⟨"com/example/mussel/mussel/engine/BitArray", "set", "(J)Z"⟩ : MethodName)) hown (mvT hZ (hw _ (List.mem_of_getElem? (i := 28) rfl))) (mvT hZ (hw _ (List.mem_of_getElem? (i := 29) rfl))) (notFace_of_selects (args := #[]) (mvT hZ (hw _ (List.mem_of_getElem? (i := 31) rfl)))) (mvT hZ (hw _ (List.mem_of_getElem? (i := 31) rfl))) (mvT hZ (hw _ (List.mem_of_getElem? (i := 30) rfl))) (by decide) (backOf (W := 0) (rm6 l Z a0 hw [] b_4 ia c_6 nw (fun _ => (Value.long (0 : Int64))) ja (0 : Int64) ma T_6.heap n0 Z_7 Fw_6 Vq_6 Fc_6 hja0 hja1 rfl g_c_6 ne_b_4_c_6 hja_ hma_ hor1_) hZ (hw _ (List.mem_of_getElem? (i := 32) rfl)) (hw _ (List.mem_of_getElem? (i := 8) rfl)) (by decide) (by decide)) q_10a q_10c (g := (mkF m 104 #[.val (.long q0), .second, .val (.long q1), .second, .val (.long q2), .second, .val (.long q3), .second, .val (.int p4), .val (.long sz), .second, .val (.long ia), .second, .val (.long ib), .second, .val (.int md), .val (.long ic), .second, .val (.int sb), .val (.ref b_4), .val (.int (own_get 0 mc)), .unset, .unset] [(.long ia), (.ref b_4)])) rfl (by rw [hml]; rfl) (Steps.refl _) (argsL := [(.long ia)]) (rest := []) (lenOf pd_3 rfl) rfl (by show 2 * 0 + _ ≤ _; exact Nat.le_of_eq rfl) (hb hby at_104) (fun _ _ => ⟨rfl, eq_8, (by decide : 2 + 0 ≤ _), (by decide : 18 + 0 ≤ _)⟩)
  dsimp only [Pt.U, Pt.locs, Pt.cells, Pt.slots] at X_10 l_10 y_10 z_10 st_10 hQ_10
  subst l_10 y_10 z_10
  obtain ⟨rfl, Nq_10, Kq_10, Vq_10⟩ := hQ_10
  have N_10 := Fr.app N_8 Nq_10
  have KK_10 : Keep h0 T_10.heap [] := KK_6.trans Kq_10 (allS (Or.inr sz_c_6) all0)
  have Z_11 : n0 ≤ T_10.heap.size := Nat.le_trans Z_7 Kq_10.1
  have f_13_F_b_4_words := (Fw_6.keep Kq_10 (ninS ne_b_4_c_6 nin0))
  have f_14_F_b_4_capture := (Fc_6.keep Kq_10 (ninS ne_b_4_c_6 nin0))
  have f_15_E_b_4 := (f_9_E_b_4.keep Kq_10)
  obtain ⟨cq_12, kq_12, q_12a, q_12b, q_12c⟩ := isOf hZ rfl f_15_E_b_4
  obtain ⟨_, _, ⟨T_12, L_12, k_12, n_12⟩, -, X_12, ⟨Lc_12, hQ_12, l_12, y_12, z_12⟩, st_12⟩ := X_10.virtualBack hx (y := (⟨"com/example/mussel/mussel/engine/BitArray", "set", "(J)Z"⟩ : MethodName)) (z := (⟨"com/example/mussel/mussel/engine/BitArray", "set", "(J)Z"⟩ : MethodName)) hown (mvT hZ (hw _ (List.mem_of_getElem? (i := 28) rfl))) (mvT hZ (hw _ (List.mem_of_getElem? (i := 29) rfl))) (notFace_of_selects (args := #[]) (mvT hZ (hw _ (List.mem_of_getElem? (i := 31) rfl)))) (mvT hZ (hw _ (List.mem_of_getElem? (i := 31) rfl))) (mvT hZ (hw _ (List.mem_of_getElem? (i := 30) rfl))) (by decide) (backOf (W := 0) (rm6 l Z a0 hw [] b_4 ib c_6 nw (fun j => if j = ja.toNatClampNeg then Value.long ((0 : Int64) ||| ma) else (fun _ => (Value.long (0 : Int64))) j) jb x2 mb T_10.heap n0 Z_11 f_13_F_b_4_words Vq_10 f_14_F_b_4_capture hjb0 hjb1 hx2_ g_c_6 ne_b_4_c_6 hjb_ hmb_ hor2_) hZ (hw _ (List.mem_of_getElem? (i := 32) rfl)) (hw _ (List.mem_of_getElem? (i := 8) rfl)) (by decide) (by decide)) q_12a q_12c (g := (mkF m 117 #[.val (.long q0), .second, .val (.long q1), .second, .val (.long q2), .second, .val (.long q3), .second, .val (.int p4), .val (.long sz), .second, .val (.long ia), .second, .val (.long ib), .second, .val (.int md), .val (.long ic), .second, .val (.int sb), .val (.ref b_4), .val (.int (own_get 0 mc)), .unset, .unset] [(.long ib), (.ref b_4)])) rfl (by rw [hml]; rfl) (Steps.refl _) (argsL := [(.long ib)]) (rest := []) (lenOf pd_3 rfl) rfl (by show 2 * 0 + _ ≤ _; exact Nat.le_of_eq rfl) (hb hby at_117) (fun _ _ => ⟨rfl, rfl, (by decide : 2 + 0 ≤ _), (by decide : 18 + 0 ≤ _)⟩)
  dsimp only [Pt.U, Pt.locs, Pt.cells, Pt.slots] at X_12 l_12 y_12 z_12 st_12 hQ_12
  subst l_12 y_12 z_12
  obtain ⟨rfl, Nq_12, Kq_12, Vq_12⟩ := hQ_12
  have N_12 := Fr.app N_10 Nq_12
  have KK_12 : Keep h0 T_12.heap [] := KK_10.trans Kq_12 (allS (Or.inr sz_c_6) all0)
  have Z_16 : n0 ≤ T_12.heap.size := Nat.le_trans Z_11 Kq_12.1
  have f_18_F_b_4_words := (f_13_F_b_4_words.keep Kq_12 (ninS ne_b_4_c_6 nin0))
  have f_19_E_b_4 := (f_15_E_b_4.keep Kq_12)
  obtain ⟨cq_17, kq_17, q_17a, q_17b, q_17c⟩ := isOf hZ rfl f_19_E_b_4
  obtain ⟨_, _, ⟨T_17, L_17, k_17, n_17⟩, -, X_17, ⟨Lc_17, hQ_17, l_17, y_17, z_17⟩, st_17⟩ := X_12.virtualBack hx (y := (⟨"com/example/mussel/mussel/engine/BitArray", "get", "(J)Z"⟩ : MethodName)) (z := (⟨"com/example/mussel/mussel/engine/BitArray", "get", "(J)Z"⟩ : MethodName)) hown (mvT hZ (hw _ (List.mem_of_getElem? (i := 23) rfl))) (mvT hZ (hw _ (List.mem_of_getElem? (i := 24) rfl))) (notFace_of_selects (args := #[]) (mvT hZ (hw _ (List.mem_of_getElem? (i := 26) rfl)))) (mvT hZ (hw _ (List.mem_of_getElem? (i := 26) rfl))) (mvT hZ (hw _ (List.mem_of_getElem? (i := 25) rfl))) (by decide) (backOf (W := 0) (rm5 l Z a0 hw [] b_4 ic c_6 nw (fun j => if j = jb.toNatClampNeg then Value.long (x2 ||| mb) else (fun j => if j = ja.toNatClampNeg then Value.long ((0 : Int64) ||| ma) else (fun _ => (Value.long (0 : Int64))) j) j) jc xc mc r1 T_12.heap n0 Z_16 f_18_F_b_4_words Vq_12 hjc0 hjc1 hxc_ (hr1_ ▸ own_get_nar _ _) hjc_ hmc_ hr1_) hZ (hw _ (List.mem_of_getElem? (i := 27) rfl)) (hw _ (List.mem_of_getElem? (i := 8) rfl)) (by decide) (by decide)) q_17a q_17c (g := (mkF m 125 #[.val (.long q0), .second, .val (.long q1), .second, .val (.long q2), .second, .val (.long q3), .second, .val (.int p4), .val (.long sz), .second, .val (.long ia), .second, .val (.long ib), .second, .val (.int md), .val (.long ic), .second, .val (.int sb), .val (.ref b_4), .val (.int (own_get 0 mc)), .unset, .unset] [(.long ic), (.ref b_4)])) rfl (by rw [hml]; rfl) (Steps.refl _) (argsL := [(.long ic)]) (rest := []) (lenOf pd_3 rfl) rfl (by show 2 * 0 + _ ≤ _; exact Nat.le_of_eq rfl) (hb hby at_125) (fun _ _ => ⟨rfl, rfl, (by decide : 2 + 0 ≤ _), (by decide : 18 + 0 ≤ _)⟩)
  dsimp only [Pt.U, Pt.locs, Pt.cells, Pt.slots] at X_17 l_17 y_17 z_17 st_17 hQ_17
  subst l_17 y_17 z_17
  obtain ⟨rfl, Nq_17, eq_17⟩ := hQ_17
  have N_17 := Fr.app N_12 Nq_17
  obtain ⟨fs, hr, hrun, hended, hW, hsame⟩ := X_17.leave (v := some (.int (1 : Int32))) (fun h => by rw [Bd.returns] at h; cases h)
  refine ⟨_, _, pre0 _ ?_, hrun, hended, _, _, rfl, ?_, ⟨_, rfl⟩, hW, hsame.mono (by decide) (by decide)⟩
  · show Steps p.tables e below (s₁.setTop (mkF m 0 #[.val (.long q0), .second, .val (.long q1), .second, .val (.long q2), .second, .val (.long q3), .second, .val (.int p4), .unset, .unset, .unset, .unset, .unset, .unset, .unset, .unset, .unset, .unset, .unset, .unset, .unset, .unset] [])) _
    refine XS.lconst X0.here hx rfl (hb hby at_0) ?_
    show Steps p.tables e below (s₁.setTop (mkF m 1 #[.val (.long q0), .second, .val (.long q1), .second, .val (.long q2), .second, .val (.long q3), .second, .val (.int p4), .unset, .unset, .unset, .unset, .unset, .unset, .unset, .unset, .unset, .unset, .unset, .unset, .unset, .unset] [(.long (1 : Int64))])) _
    refine XS.lloadN X0.here hx rfl (hb hby at_1) rfl ?_
    show Steps p.tables e below (s₁.setTop (mkF m 2 #[.val (.long q0), .second, .val (.long q1), .second, .val (.long q2), .second, .val (.long q3), .second, .val (.int p4), .unset, .unset, .unset, .unset, .unset, .unset, .unset, .unset, .unset, .unset, .unset, .unset, .unset, .unset] [(.long q0), (.long (1 : Int64))])) _
    refine X0.ldc2Long hx hown (mvT hZ (hw _ (List.mem_of_getElem? (i := 0) rfl))) (g := (mkF m 2 #[.val (.long q0), .second, .val (.long q1), .second, .val (.long q2), .second, .val (.long q3), .second, .val (.int p4), .unset, .unset, .unset, .unset, .unset, .unset, .unset, .unset, .unset, .unset, .unset, .unset, .unset, .unset] [(.long q0), (.long (1 : Int64))])) rfl (hb hby at_2) _ ?_
    show Steps p.tables e below (s₁.setTop (mkF m 5 #[.val (.long q0), .second, .val (.long q1), .second, .val (.long q2), .second, .val (.long q3), .second, .val (.int p4), .unset, .unset, .unset, .unset, .unset, .unset, .unset, .unset, .unset, .unset, .unset, .unset, .unset, .unset] [(.long (1023 : Int64)), (.long q0), (.long (1 : Int64))])) _
    refine XS.land X0.here hx rfl (hb hby at_5) rfl ?_
    show Steps p.tables e below (s₁.setTop (mkF m 6 #[.val (.long q0), .second, .val (.long q1), .second, .val (.long q2), .second, .val (.long q3), .second, .val (.int p4), .unset, .unset, .unset, .unset, .unset, .unset, .unset, .unset, .unset, .unset, .unset, .unset, .unset, .unset] [(.long (q0 &&& (1023 : Int64))), (.long (1 : Int64))])) _
    refine XS.ladd X0.here hx rfl (hb hby at_6) rfl ?_
    show Steps p.tables e below (s₁.setTop (mkF m 7 #[.val (.long q0), .second, .val (.long q1), .second, .val (.long q2), .second, .val (.long q3), .second, .val (.int p4), .unset, .unset, .unset, .unset, .unset, .unset, .unset, .unset, .unset, .unset, .unset, .unset, .unset, .unset] [(.long ((1 : Int64) + (q0 &&& (1023 : Int64))))])) _
    rw [hs_]
    show Steps p.tables e below (s₁.setTop (mkF m 7 #[.val (.long q0), .second, .val (.long q1), .second, .val (.long q2), .second, .val (.long q3), .second, .val (.int p4), .unset, .unset, .unset, .unset, .unset, .unset, .unset, .unset, .unset, .unset, .unset, .unset, .unset, .unset] [(.long sz)])) _
    refine XS.lstore X0.here hx rfl (hb hby at_7) rfl (l' := #[.val (.long q0), .second, .val (.long q1), .second, .val (.long q2), .second, .val (.long q3), .second, .val (.int p4), .val (.long sz), .second, .unset, .unset, .unset, .unset, .unset, .unset, .unset, .unset, .unset, .unset, .unset, .unset]) rfl ?_
    show Steps p.tables e below (s₁.setTop (mkF m 9 #[.val (.long q0), .second, .val (.long q1), .second, .val (.long q2), .second, .val (.long q3), .second, .val (.int p4), .val (.long sz), .second, .unset, .unset, .unset, .unset, .unset, .unset, .unset, .unset, .unset, .unset, .unset, .unset] [])) _
    refine XS.lloadN X0.here hx rfl (hb hby at_9) rfl ?_
    show Steps p.tables e below (s₁.setTop (mkF m 10 #[.val (.long q0), .second, .val (.long q1), .second, .val (.long q2), .second, .val (.long q3), .second, .val (.int p4), .val (.long sz), .second, .unset, .unset, .unset, .unset, .unset, .unset, .unset, .unset, .unset, .unset, .unset, .unset] [(.long q1)])) _
    refine XS.lload X0.here hx rfl (hb hby at_10) rfl ?_
    show Steps p.tables e below (s₁.setTop (mkF m 12 #[.val (.long q0), .second, .val (.long q1), .second, .val (.long q2), .second, .val (.long q3), .second, .val (.int p4), .val (.long sz), .second, .unset, .unset, .unset, .unset, .unset, .unset, .unset, .unset, .unset, .unset, .unset, .unset] [(.long sz), (.long q1)])) _
    refine st_1 _ ?_
    show Steps p.tables e below (T_1.setTop (mkF m 15 #[.val (.long q0), .second, .val (.long q1), .second, .val (.long q2), .second, .val (.long q3), .second, .val (.int p4), .val (.long sz), .second, .unset, .unset, .unset, .unset, .unset, .unset, .unset, .unset, .unset, .unset, .unset, .unset] [(.long ia)])) _
    refine XS.lstore X_1.here hx rfl (hb hby at_15) rfl (l' := #[.val (.long q0), .second, .val (.long q1), .second, .val (.long q2), .second, .val (.long q3), .second, .val (.int p4), .val (.long sz), .second, .val (.long ia), .second, .unset, .unset, .unset, .unset, .unset, .unset, .unset, .unset, .unset, .unset]) rfl ?_
    show Steps p.tables e below (T_1.setTop (mkF m 17 #[.val (.long q0), .second, .val (.long q1), .second, .val (.long q2), .second, .val (.long q3), .second, .val (.int p4), .val (.long sz), .second, .val (.long ia), .second, .unset, .unset, .unset, .unset, .unset, .unset, .unset, .unset, .unset, .unset] [])) _
    refine XS.lload X_1.here hx rfl (hb hby at_17) rfl ?_
    show Steps p.tables e below (T_1.setTop (mkF m 19 #[.val (.long q0), .second, .val (.long q1), .second, .val (.long q2), .second, .val (.long q3), .second, .val (.int p4), .val (.long sz), .second, .val (.long ia), .second, .unset, .unset, .unset, .unset, .unset, .unset, .unset, .unset, .unset, .unset] [(.long q2)])) _
    refine XS.lload X_1.here hx rfl (hb hby at_19) rfl ?_
    show Steps p.tables e below (T_1.setTop (mkF m 21 #[.val (.long q0), .second, .val (.long q1), .second, .val (.long q2), .second, .val (.long q3), .second, .val (.int p4), .val (.long sz), .second, .val (.long ia), .second, .unset, .unset, .unset, .unset, .unset, .unset, .unset, .unset, .unset, .unset] [(.long sz), (.long q2)])) _
    refine st_2 _ ?_
    show Steps p.tables e below (T_2.setTop (mkF m 24 #[.val (.long q0), .second, .val (.long q1), .second, .val (.long q2), .second, .val (.long q3), .second, .val (.int p4), .val (.long sz), .second, .val (.long ia), .second, .unset, .unset, .unset, .unset, .unset, .unset, .unset, .unset, .unset, .unset] [(.long ib)])) _
    refine XS.lstore X_2.here hx rfl (hb hby at_24) rfl (l' := #[.val (.long q0), .second, .val (.long q1), .second, .val (.long q2), .second, .val (.long q3), .second, .val (.int p4), .val (.long sz), .second, .val (.long ia), .second, .val (.long ib), .second, .unset, .unset, .unset, .unset, .unset, .unset, .unset, .unset]) rfl ?_
    show Steps p.tables e below (T_2.setTop (mkF m 26 #[.val (.long q0), .second, .val (.long q1), .second, .val (.long q2), .second, .val (.long q3), .second, .val (.int p4), .val (.long sz), .second, .val (.long ia), .second, .val (.long ib), .second, .unset, .unset, .unset, .unset, .unset, .unset, .unset, .unset] [])) _
    refine XS.iload X_2.here hx rfl (hb hby at_26) rfl ?_
    show Steps p.tables e below (T_2.setTop (mkF m 28 #[.val (.long q0), .second, .val (.long q1), .second, .val (.long q2), .second, .val (.long q3), .second, .val (.int p4), .val (.long sz), .second, .val (.long ia), .second, .val (.long ib), .second, .unset, .unset, .unset, .unset, .unset, .unset, .unset, .unset] [(.int p4)])) _
    refine XS.iconst X_2.here hx rfl (hb hby at_28) ?_
    show Steps p.tables e below (T_2.setTop (mkF m 29 #[.val (.long q0), .second, .val (.long q1), .second, .val (.long q2), .second, .val (.long q3), .second, .val (.int p4), .val (.long sz), .second, .val (.long ia), .second, .val (.long ib), .second, .unset, .unset, .unset, .unset, .unset, .unset, .unset, .unset] [(.int (3 : Int32)), (.int p4)])) _
    refine XS.iand X_2.here hx rfl (hb hby at_29) rfl ?_
    show Steps p.tables e below (T_2.setTop (mkF m 30 #[.val (.long q0), .second, .val (.long q1), .second, .val (.long q2), .second, .val (.long q3), .second, .val (.int p4), .val (.long sz), .second, .val (.long ia), .second, .val (.long ib), .second, .unset, .unset, .unset, .unset, .unset, .unset, .unset, .unset] [(.int (p4 &&& (3 : Int32)))])) _
    rw [hmd_]
    show Steps p.tables e below (T_2.setTop (mkF m 30 #[.val (.long q0), .second, .val (.long q1), .second, .val (.long q2), .second, .val (.long q3), .second, .val (.int p4), .val (.long sz), .second, .val (.long ia), .second, .val (.long ib), .second, .unset, .unset, .unset, .unset, .unset, .unset, .unset, .unset] [(.int md)])) _
    refine XS.istore X_2.here hx rfl (hb hby at_30) rfl (l' := #[.val (.long q0), .second, .val (.long q1), .second, .val (.long q2), .second, .val (.long q3), .second, .val (.int p4), .val (.long sz), .second, .val (.long ia), .second, .val (.long ib), .second, .val (.int md), .unset, .unset, .unset, .unset, .unset, .unset, .unset]) rfl ?_
    show Steps p.tables e below (T_2.setTop (mkF m 32 #[.val (.long q0), .second, .val (.long q1), .second, .val (.long q2), .second, .val (.long q3), .second, .val (.int p4), .val (.long sz), .second, .val (.long ia), .second, .val (.long ib), .second, .val (.int md), .unset, .unset, .unset, .unset, .unset, .unset, .unset] [])) _
    refine XS.iload X_2.here hx rfl (hb hby at_32) rfl ?_
    show Steps p.tables e below (T_2.setTop (mkF m 34 #[.val (.long q0), .second, .val (.long q1), .second, .val (.long q2), .second, .val (.long q3), .second, .val (.int p4), .val (.long sz), .second, .val (.long ia), .second, .val (.long ib), .second, .val (.int md), .unset, .unset, .unset, .unset, .unset, .unset, .unset] [(.int md)])) _
    refine XS.ifYes X_2.here hx rfl (pc0 := 34) (pc' := 44) rfl (hb hby at_34) rfl ((if0 _ _).trans (feq hc34).2) (by decide) (by decide) ?_
    show Steps p.tables e below (T_2.setTop (mkF m 44 #[.val (.long q0), .second, .val (.long q1), .second, .val (.long q2), .second, .val (.long q3), .second, .val (.int p4), .val (.long sz), .second, .val (.long ia), .second, .val (.long ib), .second, .val (.int md), .unset, .unset, .unset, .unset, .unset, .unset, .unset] [])) _
    refine XS.iload X_2.here hx rfl (hb hby at_44) rfl ?_
    show Steps p.tables e below (T_2.setTop (mkF m 46 #[.val (.long q0), .second, .val (.long q1), .second, .val (.long q2), .second, .val (.long q3), .second, .val (.int p4), .val (.long sz), .second, .val (.long ia), .second, .val (.long ib), .second, .val (.int md), .unset, .unset, .unset, .unset, .unset, .unset, .unset] [(.int md)])) _
    refine XS.iconst X_2.here hx rfl (hb hby at_46) ?_
    show Steps p.tables e below (T_2.setTop (mkF m 47 #[.val (.long q0), .second, .val (.long q1), .second, .val (.long q2), .second, .val (.long q3), .second, .val (.int p4), .val (.long sz), .second, .val (.long ia), .second, .val (.long ib), .second, .val (.int md), .unset, .unset, .unset, .unset, .unset, .unset, .unset] [(.int (1 : Int32)), (.int md)])) _
    refine XS.icmpYes X_2.here hx rfl (pc0 := 47) (pc' := 57) rfl (hb hby at_47) rfl (feq hc47).2 (by decide) (by decide) ?_
    show Steps p.tables e below (T_2.setTop (mkF m 57 #[.val (.long q0), .second, .val (.long q1), .second, .val (.long q2), .second, .val (.long q3), .second, .val (.int p4), .val (.long sz), .second, .val (.long ia), .second, .val (.long ib), .second, .val (.int md), .unset, .unset, .unset, .unset, .unset, .unset, .unset] [])) _
    refine XS.lload X_2.here hx rfl (hb hby at_57) rfl ?_
    show Steps p.tables e below (T_2.setTop (mkF m 59 #[.val (.long q0), .second, .val (.long q1), .second, .val (.long q2), .second, .val (.long q3), .second, .val (.int p4), .val (.long sz), .second, .val (.long ia), .second, .val (.long ib), .second, .val (.int md), .unset, .unset, .unset, .unset, .unset, .unset, .unset] [(.long q3)])) _
    refine XS.lload X_2.here hx rfl (hb hby at_59) rfl ?_
    show Steps p.tables e below (T_2.setTop (mkF m 61 #[.val (.long q0), .second, .val (.long q1), .second, .val (.long q2), .second, .val (.long q3), .second, .val (.int p4), .val (.long sz), .second, .val (.long ia), .second, .val (.long ib), .second, .val (.int md), .unset, .unset, .unset, .unset, .unset, .unset, .unset] [(.long sz), (.long q3)])) _
    refine st_3 _ ?_
    show Steps p.tables e below (T_3.setTop (mkF m 64 #[.val (.long q0), .second, .val (.long q1), .second, .val (.long q2), .second, .val (.long q3), .second, .val (.int p4), .val (.long sz), .second, .val (.long ia), .second, .val (.long ib), .second, .val (.int md), .unset, .unset, .unset, .unset, .unset, .unset, .unset] [(.long ic)])) _
    refine XS.lstore X_3.here hx rfl (hb hby at_64) rfl (l' := #[.val (.long q0), .second, .val (.long q1), .second, .val (.long q2), .second, .val (.long q3), .second, .val (.int p4), .val (.long sz), .second, .val (.long ia), .second, .val (.long ib), .second, .val (.int md), .val (.long ic), .second, .unset, .unset, .unset, .unset, .unset]) rfl ?_
    show Steps p.tables e below (T_3.setTop (mkF m 66 #[.val (.long q0), .second, .val (.long q1), .second, .val (.long q2), .second, .val (.long q3), .second, .val (.int p4), .val (.long sz), .second, .val (.long ia), .second, .val (.long ib), .second, .val (.int md), .val (.long ic), .second, .unset, .unset, .unset, .unset, .unset] [])) _
    refine XS.iload X_3.here hx rfl (hb hby at_66) rfl ?_
    show Steps p.tables e below (T_3.setTop (mkF m 68 #[.val (.long q0), .second, .val (.long q1), .second, .val (.long q2), .second, .val (.long q3), .second, .val (.int p4), .val (.long sz), .second, .val (.long ia), .second, .val (.long ib), .second, .val (.int md), .val (.long ic), .second, .unset, .unset, .unset, .unset, .unset] [(.int p4)])) _
    refine XS.iconst X_3.here hx rfl (hb hby at_68) ?_
    show Steps p.tables e below (T_3.setTop (mkF m 69 #[.val (.long q0), .second, .val (.long q1), .second, .val (.long q2), .second, .val (.long q3), .second, .val (.int p4), .val (.long sz), .second, .val (.long ia), .second, .val (.long ib), .second, .val (.int md), .val (.long ic), .second, .unset, .unset, .unset, .unset, .unset] [(.int (4 : Int32)), (.int p4)])) _
    refine XS.iand X_3.here hx rfl (hb hby at_69) rfl ?_
    have jn70 : ∀ target, Steps p.tables e below (T_3.setTop (mkF m 78 #[.val (.long q0), .second, .val (.long q1), .second, .val (.long q2), .second, .val (.long q3), .second, .val (.int p4), .val (.long sz), .second, .val (.long ia), .second, .val (.long ib), .second, .val (.int md), .val (.long ic), .second, .unset, .unset, .unset, .unset, .unset] [(.int sb)])) target → Steps p.tables e below (T_3.setTop (mkF m 70 #[.val (.long q0), .second, .val (.long q1), .second, .val (.long q2), .second, .val (.long q3), .second, .val (.int p4), .val (.long sz), .second, .val (.long ia), .second, .val (.long ib), .second, .val (.int md), .val (.long ic), .second, .unset, .unset, .unset, .unset, .unset] [(.int (p4 &&& (4 : Int32)))])) target := by
      intro target kt
      show Steps p.tables e below (T_3.setTop (mkF m 70 #[.val (.long q0), .second, .val (.long q1), .second, .val (.long q2), .second, .val (.long q3), .second, .val (.int p4), .val (.long sz), .second, .val (.long ia), .second, .val (.long ib), .second, .val (.int md), .val (.long ic), .second, .unset, .unset, .unset, .unset, .unset] [(.int (p4 &&& (4 : Int32)))])) _
      by_cases hj70_0 : (p4 &&& (4 : Int32)) = (0 : Int32)
      · refine XS.ifYes X_3.here hx rfl (pc0 := 70) (pc' := 77) rfl (hb hby at_70) rfl ((if0 _ _).trans (teq hj70_0).1) (by decide) (by decide) ?_
        show Steps p.tables e below (T_3.setTop (mkF m 77 #[.val (.long q0), .second, .val (.long q1), .second, .val (.long q2), .second, .val (.long q3), .second, .val (.int p4), .val (.long sz), .second, .val (.long ia), .second, .val (.long ib), .second, .val (.int md), .val (.long ic), .second, .unset, .unset, .unset, .unset, .unset] [])) _
        refine XS.iconst X_3.here hx rfl (hb hby at_77) ?_
        rw [← hsb_, if_pos hj70_0] at kt
        exact kt
      · refine XS.ifNo X_3.here hx rfl (hb hby at_70) rfl ((if0 _ _).trans (feq hj70_0).1) ?_
        show Steps p.tables e below (T_3.setTop (mkF m 73 #[.val (.long q0), .second, .val (.long q1), .second, .val (.long q2), .second, .val (.long q3), .second, .val (.int p4), .val (.long sz), .second, .val (.long ia), .second, .val (.long ib), .second, .val (.int md), .val (.long ic), .second, .unset, .unset, .unset, .unset, .unset] [])) _
        refine XS.iconst X_3.here hx rfl (hb hby at_73) ?_
        show Steps p.tables e below (T_3.setTop (mkF m 74 #[.val (.long q0), .second, .val (.long q1), .second, .val (.long q2), .second, .val (.long q3), .second, .val (.int p4), .val (.long sz), .second, .val (.long ia), .second, .val (.long ib), .second, .val (.int md), .val (.long ic), .second, .unset, .unset, .unset, .unset, .unset] [(.int (1 : Int32))])) _
        refine XS.goto X_3.here hx rfl (pc0 := 74) (pc' := 78) rfl (hb hby at_74) (by decide) (by decide) ?_
        rw [← hsb_, if_neg hj70_0] at kt
        exact kt
    refine jn70 _ ?_
    show Steps p.tables e below (T_3.setTop (mkF m 78 #[.val (.long q0), .second, .val (.long q1), .second, .val (.long q2), .second, .val (.long q3), .second, .val (.int p4), .val (.long sz), .second, .val (.long ia), .second, .val (.long ib), .second, .val (.int md), .val (.long ic), .second, .unset, .unset, .unset, .unset, .unset] [(.int sb)])) _
    refine XS.istore X_3.here hx rfl (hb hby at_78) rfl (l' := #[.val (.long q0), .second, .val (.long q1), .second, .val (.long q2), .second, .val (.long q3), .second, .val (.int p4), .val (.long sz), .second, .val (.long ia), .second, .val (.long ib), .second, .val (.int md), .val (.long ic), .second, .val (.int sb), .unset, .unset, .unset, .unset]) rfl ?_
    show Steps p.tables e below (T_3.setTop (mkF m 80 #[.val (.long q0), .second, .val (.long q1), .second, .val (.long q2), .second, .val (.long q3), .second, .val (.int p4), .val (.long sz), .second, .val (.long ia), .second, .val (.long ib), .second, .val (.int md), .val (.long ic), .second, .val (.int sb), .unset, .unset, .unset, .unset] [])) _
    refine st_4 _ ?_
    show Steps p.tables e below (T_4.setTop (mkF m 83 #[.val (.long q0), .second, .val (.long q1), .second, .val (.long q2), .second, .val (.long q3), .second, .val (.int p4), .val (.long sz), .second, .val (.long ia), .second, .val (.long ib), .second, .val (.int md), .val (.long ic), .second, .val (.int sb), .unset, .unset, .unset, .unset] [(.ref b_4)])) _
    refine XS.dup X_4.here hx rfl (hb hby at_83) rfl rfl ?_
    show Steps p.tables e below (T_4.setTop (mkF m 84 #[.val (.long q0), .second, .val (.long q1), .second, .val (.long q2), .second, .val (.long q3), .second, .val (.int p4), .val (.long sz), .second, .val (.long ia), .second, .val (.long ib), .second, .val (.int md), .val (.long ic), .second, .val (.int sb), .unset, .unset, .unset, .unset] [(.ref b_4), (.ref b_4)])) _
    refine XS.lload X_4.here hx rfl (hb hby at_84) rfl ?_
    show Steps p.tables e below (T_4.setTop (mkF m 86 #[.val (.long q0), .second, .val (.long q1), .second, .val (.long q2), .second, .val (.long q3), .second, .val (.int p4), .val (.long sz), .second, .val (.long ia), .second, .val (.long ib), .second, .val (.int md), .val (.long ic), .second, .val (.int sb), .unset, .unset, .unset, .unset] [(.long sz), (.ref b_4), (.ref b_4)])) _
    refine st_6.trans ?_
    show Steps p.tables e below (T_6.setTop (mkF m 89 #[.val (.long q0), .second, .val (.long q1), .second, .val (.long q2), .second, .val (.long q3), .second, .val (.int p4), .val (.long sz), .second, .val (.long ia), .second, .val (.long ib), .second, .val (.int md), .val (.long ic), .second, .val (.int sb), .unset, .unset, .unset, .unset] [(.ref b_4)])) _
    refine XS.astore X_6.here hx rfl (hb hby at_89) rfl rfl (l' := #[.val (.long q0), .second, .val (.long q1), .second, .val (.long q2), .second, .val (.long q3), .second, .val (.int p4), .val (.long sz), .second, .val (.long ia), .second, .val (.long ib), .second, .val (.int md), .val (.long ic), .second, .val (.int sb), .val (.ref b_4), .unset, .unset, .unset]) rfl ?_
    show Steps p.tables e below (T_6.setTop (mkF m 91 #[.val (.long q0), .second, .val (.long q1), .second, .val (.long q2), .second, .val (.long q3), .second, .val (.int p4), .val (.long sz), .second, .val (.long ia), .second, .val (.long ib), .second, .val (.int md), .val (.long ic), .second, .val (.int sb), .val (.ref b_4), .unset, .unset, .unset] [])) _
    refine XS.aload X_6.here hx rfl (hb hby at_91) rfl rfl ?_
    show Steps p.tables e below (T_6.setTop (mkF m 93 #[.val (.long q0), .second, .val (.long q1), .second, .val (.long q2), .second, .val (.long q3), .second, .val (.int p4), .val (.long sz), .second, .val (.long ia), .second, .val (.long ib), .second, .val (.int md), .val (.long ic), .second, .val (.int sb), .val (.ref b_4), .unset, .unset, .unset] [(.ref b_4)])) _
    refine XS.lload X_6.here hx rfl (hb hby at_93) rfl ?_
    show Steps p.tables e below (T_6.setTop (mkF m 95 #[.val (.long q0), .second, .val (.long q1), .second, .val (.long q2), .second, .val (.long q3), .second, .val (.int p4), .val (.long sz), .second, .val (.long ia), .second, .val (.long ib), .second, .val (.int md), .val (.long ic), .second, .val (.int sb), .val (.ref b_4), .unset, .unset, .unset] [(.long ic), (.ref b_4)])) _
    refine st_8.trans ?_
    show Steps p.tables e below (T_8.setTop (mkF m 98 #[.val (.long q0), .second, .val (.long q1), .second, .val (.long q2), .second, .val (.long q3), .second, .val (.int p4), .val (.long sz), .second, .val (.long ia), .second, .val (.long ib), .second, .val (.int md), .val (.long ic), .second, .val (.int sb), .val (.ref b_4), .unset, .unset, .unset] [(.int (own_get 0 mc))])) _
    refine XS.istore X_8.here hx rfl (hb hby at_98) rfl (l' := #[.val (.long q0), .second, .val (.long q1), .second, .val (.long q2), .second, .val (.long q3), .second, .val (.int p4), .val (.long sz), .second, .val (.long ia), .second, .val (.long ib), .second, .val (.int md), .val (.long ic), .second, .val (.int sb), .val (.ref b_4), .val (.int (own_get 0 mc)), .unset, .unset]) rfl ?_
    show Steps p.tables e below (T_8.setTop (mkF m 100 #[.val (.long q0), .second, .val (.long q1), .second, .val (.long q2), .second, .val (.long q3), .second, .val (.int p4), .val (.long sz), .second, .val (.long ia), .second, .val (.long ib), .second, .val (.int md), .val (.long ic), .second, .val (.int sb), .val (.ref b_4), .val (.int (own_get 0 mc)), .unset, .unset] [])) _
    refine XS.aload X_8.here hx rfl (hb hby at_100) rfl rfl ?_
    show Steps p.tables e below (T_8.setTop (mkF m 102 #[.val (.long q0), .second, .val (.long q1), .second, .val (.long q2), .second, .val (.long q3), .second, .val (.int p4), .val (.long sz), .second, .val (.long ia), .second, .val (.long ib), .second, .val (.int md), .val (.long ic), .second, .val (.int sb), .val (.ref b_4), .val (.int (own_get 0 mc)), .unset, .unset] [(.ref b_4)])) _
    refine XS.lload X_8.here hx rfl (hb hby at_102) rfl ?_
    show Steps p.tables e below (T_8.setTop (mkF m 104 #[.val (.long q0), .second, .val (.long q1), .second, .val (.long q2), .second, .val (.long q3), .second, .val (.int p4), .val (.long sz), .second, .val (.long ia), .second, .val (.long ib), .second, .val (.int md), .val (.long ic), .second, .val (.int sb), .val (.ref b_4), .val (.int (own_get 0 mc)), .unset, .unset] [(.long ia), (.ref b_4)])) _
    refine st_10.trans ?_
    show Steps p.tables e below (T_10.setTop (mkF m 107 #[.val (.long q0), .second, .val (.long q1), .second, .val (.long q2), .second, .val (.long q3), .second, .val (.int p4), .val (.long sz), .second, .val (.long ia), .second, .val (.long ib), .second, .val (.int md), .val (.long ic), .second, .val (.int sb), .val (.ref b_4), .val (.int (own_get 0 mc)), .unset, .unset] [(.int (own_ch (0 : Int64) ma))])) _
    refine XS.pop X_10.here hx rfl (hb hby at_107) rfl rfl ?_
    show Steps p.tables e below (T_10.setTop (mkF m 108 #[.val (.long q0), .second, .val (.long q1), .second, .val (.long q2), .second, .val (.long q3), .second, .val (.int p4), .val (.long sz), .second, .val (.long ia), .second, .val (.long ib), .second, .val (.int md), .val (.long ic), .second, .val (.int sb), .val (.ref b_4), .val (.int (own_get 0 mc)), .unset, .unset] [])) _
    refine XS.iload X_10.here hx rfl (hb hby at_108) rfl ?_
    show Steps p.tables e below (T_10.setTop (mkF m 110 #[.val (.long q0), .second, .val (.long q1), .second, .val (.long q2), .second, .val (.long q3), .second, .val (.int p4), .val (.long sz), .second, .val (.long ia), .second, .val (.long ib), .second, .val (.int md), .val (.long ic), .second, .val (.int sb), .val (.ref b_4), .val (.int (own_get 0 mc)), .unset, .unset] [(.int sb)])) _
    refine XS.ifNo X_10.here hx rfl (hb hby at_110) rfl ((if0 _ _).trans (feq hc110).1) ?_
    show Steps p.tables e below (T_10.setTop (mkF m 113 #[.val (.long q0), .second, .val (.long q1), .second, .val (.long q2), .second, .val (.long q3), .second, .val (.int p4), .val (.long sz), .second, .val (.long ia), .second, .val (.long ib), .second, .val (.int md), .val (.long ic), .second, .val (.int sb), .val (.ref b_4), .val (.int (own_get 0 mc)), .unset, .unset] [])) _
    refine XS.aload X_10.here hx rfl (hb hby at_113) rfl rfl ?_
    show Steps p.tables e below (T_10.setTop (mkF m 115 #[.val (.long q0), .second, .val (.long q1), .second, .val (.long q2), .second, .val (.long q3), .second, .val (.int p4), .val (.long sz), .second, .val (.long ia), .second, .val (.long ib), .second, .val (.int md), .val (.long ic), .second, .val (.int sb), .val (.ref b_4), .val (.int (own_get 0 mc)), .unset, .unset] [(.ref b_4)])) _
    refine XS.lload X_10.here hx rfl (hb hby at_115) rfl ?_
    show Steps p.tables e below (T_10.setTop (mkF m 117 #[.val (.long q0), .second, .val (.long q1), .second, .val (.long q2), .second, .val (.long q3), .second, .val (.int p4), .val (.long sz), .second, .val (.long ia), .second, .val (.long ib), .second, .val (.int md), .val (.long ic), .second, .val (.int sb), .val (.ref b_4), .val (.int (own_get 0 mc)), .unset, .unset] [(.long ib), (.ref b_4)])) _
    refine st_12.trans ?_
    show Steps p.tables e below (T_12.setTop (mkF m 120 #[.val (.long q0), .second, .val (.long q1), .second, .val (.long q2), .second, .val (.long q3), .second, .val (.int p4), .val (.long sz), .second, .val (.long ia), .second, .val (.long ib), .second, .val (.int md), .val (.long ic), .second, .val (.int sb), .val (.ref b_4), .val (.int (own_get 0 mc)), .unset, .unset] [(.int (own_ch x2 mb))])) _
    refine XS.pop X_12.here hx rfl (hb hby at_120) rfl rfl ?_
    show Steps p.tables e below (T_12.setTop (mkF m 121 #[.val (.long q0), .second, .val (.long q1), .second, .val (.long q2), .second, .val (.long q3), .second, .val (.int p4), .val (.long sz), .second, .val (.long ia), .second, .val (.long ib), .second, .val (.int md), .val (.long ic), .second, .val (.int sb), .val (.ref b_4), .val (.int (own_get 0 mc)), .unset, .unset] [])) _
    refine XS.aload X_12.here hx rfl (hb hby at_121) rfl rfl ?_
    show Steps p.tables e below (T_12.setTop (mkF m 123 #[.val (.long q0), .second, .val (.long q1), .second, .val (.long q2), .second, .val (.long q3), .second, .val (.int p4), .val (.long sz), .second, .val (.long ia), .second, .val (.long ib), .second, .val (.int md), .val (.long ic), .second, .val (.int sb), .val (.ref b_4), .val (.int (own_get 0 mc)), .unset, .unset] [(.ref b_4)])) _
    refine XS.lload X_12.here hx rfl (hb hby at_123) rfl ?_
    show Steps p.tables e below (T_12.setTop (mkF m 125 #[.val (.long q0), .second, .val (.long q1), .second, .val (.long q2), .second, .val (.long q3), .second, .val (.int p4), .val (.long sz), .second, .val (.long ia), .second, .val (.long ib), .second, .val (.int md), .val (.long ic), .second, .val (.int sb), .val (.ref b_4), .val (.int (own_get 0 mc)), .unset, .unset] [(.long ic), (.ref b_4)])) _
    refine st_17.trans ?_
    show Steps p.tables e below (T_17.setTop (mkF m 128 #[.val (.long q0), .second, .val (.long q1), .second, .val (.long q2), .second, .val (.long q3), .second, .val (.int p4), .val (.long sz), .second, .val (.long ia), .second, .val (.long ib), .second, .val (.int md), .val (.long ic), .second, .val (.int sb), .val (.ref b_4), .val (.int (own_get 0 mc)), .unset, .unset] [(.int r1)])) _
    refine XS.istore X_17.here hx rfl (hb hby at_128) rfl (l' := #[.val (.long q0), .second, .val (.long q1), .second, .val (.long q2), .second, .val (.long q3), .second, .val (.int p4), .val (.long sz), .second, .val (.long ia), .second, .val (.long ib), .second, .val (.int md), .val (.long ic), .second, .val (.int sb), .val (.ref b_4), .val (.int (own_get 0 mc)), .val (.int r1), .unset]) rfl ?_
    have jn130 : ∀ target, Steps p.tables e below (T_17.setTop (mkF m 156 #[.val (.long q0), .second, .val (.long q1), .second, .val (.long q2), .second, .val (.long q3), .second, .val (.int p4), .val (.long sz), .second, .val (.long ia), .second, .val (.long ib), .second, .val (.int md), .val (.long ic), .second, .val (.int sb), .val (.ref b_4), .val (.int (own_get 0 mc)), .val (.int r1), .unset] [(.int ex)])) target → Steps p.tables e below (T_17.setTop (mkF m 130 #[.val (.long q0), .second, .val (.long q1), .second, .val (.long q2), .second, .val (.long q3), .second, .val (.int p4), .val (.long sz), .second, .val (.long ia), .second, .val (.long ib), .second, .val (.int md), .val (.long ic), .second, .val (.int sb), .val (.ref b_4), .val (.int (own_get 0 mc)), .val (.int r1), .unset] [])) target := by
      intro target kt
      show Steps p.tables e below (T_17.setTop (mkF m 130 #[.val (.long q0), .second, .val (.long q1), .second, .val (.long q2), .second, .val (.long q3), .second, .val (.int p4), .val (.long sz), .second, .val (.long ia), .second, .val (.long ib), .second, .val (.int md), .val (.long ic), .second, .val (.int sb), .val (.ref b_4), .val (.int (own_get 0 mc)), .val (.int r1), .unset] [])) _
      refine XS.lload X_17.here hx rfl (hb hby at_130) rfl ?_
      show Steps p.tables e below (T_17.setTop (mkF m 132 #[.val (.long q0), .second, .val (.long q1), .second, .val (.long q2), .second, .val (.long q3), .second, .val (.int p4), .val (.long sz), .second, .val (.long ia), .second, .val (.long ib), .second, .val (.int md), .val (.long ic), .second, .val (.int sb), .val (.ref b_4), .val (.int (own_get 0 mc)), .val (.int r1), .unset] [(.long ic)])) _
      refine XS.lload X_17.here hx rfl (hb hby at_132) rfl ?_
      show Steps p.tables e below (T_17.setTop (mkF m 134 #[.val (.long q0), .second, .val (.long q1), .second, .val (.long q2), .second, .val (.long q3), .second, .val (.int p4), .val (.long sz), .second, .val (.long ia), .second, .val (.long ib), .second, .val (.int md), .val (.long ic), .second, .val (.int sb), .val (.ref b_4), .val (.int (own_get 0 mc)), .val (.int r1), .unset] [(.long ia), (.long ic)])) _
      refine XS.lcmp X_17.here hx rfl (hb hby at_134) rfl ?_
      show Steps p.tables e below (T_17.setTop (mkF m 135 #[.val (.long q0), .second, .val (.long q1), .second, .val (.long q2), .second, .val (.long q3), .second, .val (.int p4), .val (.long sz), .second, .val (.long ia), .second, .val (.long ib), .second, .val (.int md), .val (.long ic), .second, .val (.int sb), .val (.ref b_4), .val (.int (own_get 0 mc)), .val (.int r1), .unset] [(.int (lcmpW ic ia))])) _
      by_cases hj135_0 : (lcmpW ic ia) = (0 : Int32)
      · refine XS.ifYes X_17.here hx rfl (pc0 := 135) (pc' := 151) rfl (hb hby at_135) rfl ((if0 _ _).trans (teq hj135_0).1) (by decide) (by decide) ?_
        show Steps p.tables e below (T_17.setTop (mkF m 151 #[.val (.long q0), .second, .val (.long q1), .second, .val (.long q2), .second, .val (.long q3), .second, .val (.int p4), .val (.long sz), .second, .val (.long ia), .second, .val (.long ib), .second, .val (.int md), .val (.long ic), .second, .val (.int sb), .val (.ref b_4), .val (.int (own_get 0 mc)), .val (.int r1), .unset] [])) _
        refine XS.iconst X_17.here hx rfl (hb hby at_151) ?_
        show Steps p.tables e below (T_17.setTop (mkF m 152 #[.val (.long q0), .second, .val (.long q1), .second, .val (.long q2), .second, .val (.long q3), .second, .val (.int p4), .val (.long sz), .second, .val (.long ia), .second, .val (.long ib), .second, .val (.int md), .val (.long ic), .second, .val (.int sb), .val (.ref b_4), .val (.int (own_get 0 mc)), .val (.int r1), .unset] [(.int (1 : Int32))])) _
        refine XS.goto X_17.here hx rfl (pc0 := 152) (pc' := 156) rfl (hb hby at_152) (by decide) (by decide) ?_
        rw [← hex_, if_pos hj135_0] at kt
        exact kt
      · refine XS.ifNo X_17.here hx rfl (hb hby at_135) rfl ((if0 _ _).trans (feq hj135_0).1) ?_
        show Steps p.tables e below (T_17.setTop (mkF m 138 #[.val (.long q0), .second, .val (.long q1), .second, .val (.long q2), .second, .val (.long q3), .second, .val (.int p4), .val (.long sz), .second, .val (.long ia), .second, .val (.long ib), .second, .val (.int md), .val (.long ic), .second, .val (.int sb), .val (.ref b_4), .val (.int (own_get 0 mc)), .val (.int r1), .unset] [])) _
        refine XS.iload X_17.here hx rfl (hb hby at_138) rfl ?_
        show Steps p.tables e below (T_17.setTop (mkF m 140 #[.val (.long q0), .second, .val (.long q1), .second, .val (.long q2), .second, .val (.long q3), .second, .val (.int p4), .val (.long sz), .second, .val (.long ia), .second, .val (.long ib), .second, .val (.int md), .val (.long ic), .second, .val (.int sb), .val (.ref b_4), .val (.int (own_get 0 mc)), .val (.int r1), .unset] [(.int sb)])) _
        by_cases hj140_1 : sb = (0 : Int32)
        · refine XS.ifYes X_17.here hx rfl (pc0 := 140) (pc' := 155) rfl (hb hby at_140) rfl ((if0 _ _).trans (teq hj140_1).1) (by decide) (by decide) ?_
          show Steps p.tables e below (T_17.setTop (mkF m 155 #[.val (.long q0), .second, .val (.long q1), .second, .val (.long q2), .second, .val (.long q3), .second, .val (.int p4), .val (.long sz), .second, .val (.long ia), .second, .val (.long ib), .second, .val (.int md), .val (.long ic), .second, .val (.int sb), .val (.ref b_4), .val (.int (own_get 0 mc)), .val (.int r1), .unset] [])) _
          refine XS.iconst X_17.here hx rfl (hb hby at_155) ?_
          rw [← hex_, if_neg hj135_0, if_pos hj140_1] at kt
          exact kt
        · refine XS.ifNo X_17.here hx rfl (hb hby at_140) rfl ((if0 _ _).trans (feq hj140_1).1) ?_
          show Steps p.tables e below (T_17.setTop (mkF m 143 #[.val (.long q0), .second, .val (.long q1), .second, .val (.long q2), .second, .val (.long q3), .second, .val (.int p4), .val (.long sz), .second, .val (.long ia), .second, .val (.long ib), .second, .val (.int md), .val (.long ic), .second, .val (.int sb), .val (.ref b_4), .val (.int (own_get 0 mc)), .val (.int r1), .unset] [])) _
          refine XS.lload X_17.here hx rfl (hb hby at_143) rfl ?_
          show Steps p.tables e below (T_17.setTop (mkF m 145 #[.val (.long q0), .second, .val (.long q1), .second, .val (.long q2), .second, .val (.long q3), .second, .val (.int p4), .val (.long sz), .second, .val (.long ia), .second, .val (.long ib), .second, .val (.int md), .val (.long ic), .second, .val (.int sb), .val (.ref b_4), .val (.int (own_get 0 mc)), .val (.int r1), .unset] [(.long ic)])) _
          refine XS.lload X_17.here hx rfl (hb hby at_145) rfl ?_
          show Steps p.tables e below (T_17.setTop (mkF m 147 #[.val (.long q0), .second, .val (.long q1), .second, .val (.long q2), .second, .val (.long q3), .second, .val (.int p4), .val (.long sz), .second, .val (.long ia), .second, .val (.long ib), .second, .val (.int md), .val (.long ic), .second, .val (.int sb), .val (.ref b_4), .val (.int (own_get 0 mc)), .val (.int r1), .unset] [(.long ib), (.long ic)])) _
          refine XS.lcmp X_17.here hx rfl (hb hby at_147) rfl ?_
          show Steps p.tables e below (T_17.setTop (mkF m 148 #[.val (.long q0), .second, .val (.long q1), .second, .val (.long q2), .second, .val (.long q3), .second, .val (.int p4), .val (.long sz), .second, .val (.long ia), .second, .val (.long ib), .second, .val (.int md), .val (.long ic), .second, .val (.int sb), .val (.ref b_4), .val (.int (own_get 0 mc)), .val (.int r1), .unset] [(.int (lcmpW ic ib))])) _
          by_cases hj148_2 : (lcmpW ic ib) = (0 : Int32)
          · refine XS.ifNo X_17.here hx rfl (hb hby at_148) rfl ((if0 _ _).trans (teq hj148_2).2) ?_
            show Steps p.tables e below (T_17.setTop (mkF m 151 #[.val (.long q0), .second, .val (.long q1), .second, .val (.long q2), .second, .val (.long q3), .second, .val (.int p4), .val (.long sz), .second, .val (.long ia), .second, .val (.long ib), .second, .val (.int md), .val (.long ic), .second, .val (.int sb), .val (.ref b_4), .val (.int (own_get 0 mc)), .val (.int r1), .unset] [])) _
            refine XS.iconst X_17.here hx rfl (hb hby at_151) ?_
            show Steps p.tables e below (T_17.setTop (mkF m 152 #[.val (.long q0), .second, .val (.long q1), .second, .val (.long q2), .second, .val (.long q3), .second, .val (.int p4), .val (.long sz), .second, .val (.long ia), .second, .val (.long ib), .second, .val (.int md), .val (.long ic), .second, .val (.int sb), .val (.ref b_4), .val (.int (own_get 0 mc)), .val (.int r1), .unset] [(.int (1 : Int32))])) _
            refine XS.goto X_17.here hx rfl (pc0 := 152) (pc' := 156) rfl (hb hby at_152) (by decide) (by decide) ?_
            rw [← hex_, if_neg hj135_0, if_neg hj140_1, if_pos hj148_2] at kt
            exact kt
          · refine XS.ifYes X_17.here hx rfl (pc0 := 148) (pc' := 155) rfl (hb hby at_148) rfl ((if0 _ _).trans (feq hj148_2).2) (by decide) (by decide) ?_
            show Steps p.tables e below (T_17.setTop (mkF m 155 #[.val (.long q0), .second, .val (.long q1), .second, .val (.long q2), .second, .val (.long q3), .second, .val (.int p4), .val (.long sz), .second, .val (.long ia), .second, .val (.long ib), .second, .val (.int md), .val (.long ic), .second, .val (.int sb), .val (.ref b_4), .val (.int (own_get 0 mc)), .val (.int r1), .unset] [])) _
            refine XS.iconst X_17.here hx rfl (hb hby at_155) ?_
            rw [← hex_, if_neg hj135_0, if_neg hj140_1, if_neg hj148_2] at kt
            exact kt
    refine jn130 _ ?_
    show Steps p.tables e below (T_17.setTop (mkF m 156 #[.val (.long q0), .second, .val (.long q1), .second, .val (.long q2), .second, .val (.long q3), .second, .val (.int p4), .val (.long sz), .second, .val (.long ia), .second, .val (.long ib), .second, .val (.int md), .val (.long ic), .second, .val (.int sb), .val (.ref b_4), .val (.int (own_get 0 mc)), .val (.int r1), .unset] [(.int ex)])) _
    refine XS.istore X_17.here hx rfl (hb hby at_156) rfl (l' := #[.val (.long q0), .second, .val (.long q1), .second, .val (.long q2), .second, .val (.long q3), .second, .val (.int p4), .val (.long sz), .second, .val (.long ia), .second, .val (.long ib), .second, .val (.int md), .val (.long ic), .second, .val (.int sb), .val (.ref b_4), .val (.int (own_get 0 mc)), .val (.int r1), .val (.int ex)]) rfl ?_
    show Steps p.tables e below (T_17.setTop (mkF m 158 #[.val (.long q0), .second, .val (.long q1), .second, .val (.long q2), .second, .val (.long q3), .second, .val (.int p4), .val (.long sz), .second, .val (.long ia), .second, .val (.long ib), .second, .val (.int md), .val (.long ic), .second, .val (.int sb), .val (.ref b_4), .val (.int (own_get 0 mc)), .val (.int r1), .val (.int ex)] [])) _
    refine XS.iload X_17.here hx rfl (hb hby at_158) rfl ?_
    show Steps p.tables e below (T_17.setTop (mkF m 160 #[.val (.long q0), .second, .val (.long q1), .second, .val (.long q2), .second, .val (.long q3), .second, .val (.int p4), .val (.long sz), .second, .val (.long ia), .second, .val (.long ib), .second, .val (.int md), .val (.long ic), .second, .val (.int sb), .val (.ref b_4), .val (.int (own_get 0 mc)), .val (.int r1), .val (.int ex)] [(.int (own_get 0 mc))])) _
    refine XS.ifNo X_17.here hx rfl (hb hby at_160) rfl ((if0 _ _).trans (teq hc160).2) ?_
    show Steps p.tables e below (T_17.setTop (mkF m 163 #[.val (.long q0), .second, .val (.long q1), .second, .val (.long q2), .second, .val (.long q3), .second, .val (.int p4), .val (.long sz), .second, .val (.long ia), .second, .val (.long ib), .second, .val (.int md), .val (.long ic), .second, .val (.int sb), .val (.ref b_4), .val (.int (own_get 0 mc)), .val (.int r1), .val (.int ex)] [])) _
    refine XS.iload X_17.here hx rfl (hb hby at_163) rfl ?_
    show Steps p.tables e below (T_17.setTop (mkF m 165 #[.val (.long q0), .second, .val (.long q1), .second, .val (.long q2), .second, .val (.long q3), .second, .val (.int p4), .val (.long sz), .second, .val (.long ia), .second, .val (.long ib), .second, .val (.int md), .val (.long ic), .second, .val (.int sb), .val (.ref b_4), .val (.int (own_get 0 mc)), .val (.int r1), .val (.int ex)] [(.int r1)])) _
    refine XS.iload X_17.here hx rfl (hb hby at_165) rfl ?_
    show Steps p.tables e below (T_17.setTop (mkF m 167 #[.val (.long q0), .second, .val (.long q1), .second, .val (.long q2), .second, .val (.long q3), .second, .val (.int p4), .val (.long sz), .second, .val (.long ia), .second, .val (.long ib), .second, .val (.int md), .val (.long ic), .second, .val (.int sb), .val (.ref b_4), .val (.int (own_get 0 mc)), .val (.int r1), .val (.int ex)] [(.int ex), (.int r1)])) _
    refine XS.icmpNo X_17.here hx rfl (hb hby at_167) rfl (teq hc167).2 ?_
    show Steps p.tables e below (T_17.setTop (mkF m 170 #[.val (.long q0), .second, .val (.long q1), .second, .val (.long q2), .second, .val (.long q3), .second, .val (.int p4), .val (.long sz), .second, .val (.long ia), .second, .val (.long ib), .second, .val (.int md), .val (.long ic), .second, .val (.int sb), .val (.ref b_4), .val (.int (own_get 0 mc)), .val (.int r1), .val (.int ex)] [])) _
    refine XS.iconst X_17.here hx rfl (hb hby at_170) ?_
    show Steps p.tables e below (T_17.setTop (mkF m 171 #[.val (.long q0), .second, .val (.long q1), .second, .val (.long q2), .second, .val (.long q3), .second, .val (.int p4), .val (.long sz), .second, .val (.long ia), .second, .val (.long ib), .second, .val (.int md), .val (.long ic), .second, .val (.int sb), .val (.ref b_4), .val (.int (own_get 0 mc)), .val (.int r1), .val (.int ex)] [(.int (1 : Int32))])) _
    refine XS.goto X_17.here hx rfl (pc0 := 171) (pc' := 175) rfl (hb hby at_171) (by decide) (by decide) ?_
    show Steps p.tables e below (T_17.setTop (mkF m 175 #[.val (.long q0), .second, .val (.long q1), .second, .val (.long q2), .second, .val (.long q3), .second, .val (.int p4), .val (.long sz), .second, .val (.long ia), .second, .val (.long ib), .second, .val (.int md), .val (.long ic), .second, .val (.int sb), .val (.ref b_4), .val (.int (own_get 0 mc)), .val (.int r1), .val (.int ex)] [(.int (1 : Int32))])) _
    exact retN X_17 hx (t := .boolean) Bd.returns (by simp) (hb hby at_175) hr
  · show Q0 Z  h0 n0 _ T_17.heap _
    rw [eq_17]
    exact ⟨rfl, N_17⟩
set_option maxRecDepth 65536 in
set_option maxHeartbeats 4000000 in
theorem rm0 (l : Launch) (Z : State) (a0 : Array Value) (hw : ∀ d ∈ tables_1, d.before a0 Z = true) (ws : List Jvm.Cond) (q0 q1 q2 q3 : Int64) (p4 : Int32) (h0 : Heap) (n0 : Nat) (Z0 : n0 ≤ h0.size) :
    MetFree l x (head1 (Jvm.Cond.code x code maxLocals ret :: ws) room_1) (fun a U => a = #[(.long q0), (.long q1), (.long q2), (.long q3), (.int p4)] ∧ Z.Warmed39 U.vm ∧ U.heap = h0) (fun _ _ _ _ _ => True) (fun _ U o U' => ∃ v L, o = .returned v ∧ Q0 Z h0 n0 v U'.heap L ∧ FrameEnd U o U' L 2 18) := by
  obtain ⟨sz, hs_⟩ : ∃ z, ((1 : Int64) + (q0 &&& (1023 : Int64))) = z := ⟨_, rfl⟩
  obtain ⟨S1, S2⟩ := own_sz q0 sz hs_
  obtain ⟨ia, hia_⟩ : ∃ z, (q1 &&& (9223372036854775807 : Int64)) % sz = z := ⟨_, rfl⟩
  obtain ⟨ib, hib_⟩ : ∃ z, (q2 &&& (9223372036854775807 : Int64)) % sz = z := ⟨_, rfl⟩
  obtain ⟨id, hid_⟩ : ∃ z, (q3 &&& (9223372036854775807 : Int64)) % sz = z := ⟨_, rfl⟩
  have Ia := own_rem q1 sz ia S1 hia_
  have Ib := own_rem q2 sz ib S1 hib_
  have Id := own_rem q3 sz id S1 hid_
  obtain ⟨wd, hwd_⟩ : ∃ z, ((sz + (64 : Int64)) - (1 : Int64)) / (64 : Int64) = z := ⟨_, rfl⟩
  obtain ⟨nw, hnw_⟩ : ∃ z, wd.toInt32 = z := ⟨_, rfl⟩
  obtain ⟨hn0_, hn1_, hnv⟩ := own_nw sz S1 S2 wd hwd_ nw hnw_
  obtain ⟨ja, hja_⟩ : ∃ z, (((ia.toUInt64 >>> ((6 : Int32) &&& 0x3f).toInt64.toUInt64).toInt64).toInt32) = z := ⟨_, rfl⟩
  obtain ⟨jb, hjb_⟩ : ∃ z, (((ib.toUInt64 >>> ((6 : Int32) &&& 0x3f).toInt64.toUInt64).toInt64).toInt32) = z := ⟨_, rfl⟩
  obtain ⟨jd, hjd_⟩ : ∃ z, (((id.toUInt64 >>> ((6 : Int32) &&& 0x3f).toInt64.toUInt64).toInt64).toInt32) = z := ⟨_, rfl⟩
  obtain ⟨ma, hma_⟩ : ∃ z, ((1 : Int64) <<< ((ia.toInt32) &&& 0x3f).toInt64) = z := ⟨_, rfl⟩
  obtain ⟨mb, hmb_⟩ : ∃ z, ((1 : Int64) <<< ((ib.toInt32) &&& 0x3f).toInt64) = z := ⟨_, rfl⟩
  obtain ⟨md_, hmd__⟩ : ∃ z, ((1 : Int64) <<< ((id.toInt32) &&& 0x3f).toInt64) = z := ⟨_, rfl⟩
  have A := own_jn Ia.1 Ia.2 hnv (own_ix ia Ia.1 (by omega) ja hja_)
  have B := own_jn Ib.1 Ib.2 hnv (own_ix ib Ib.1 (by omega) jb hjb_)
  have D := own_jn Id.1 Id.2 hnv (own_ix id Id.1 (by omega) jd hjd_)
  have Am := own_mk ia Ia.1 (by omega) ma hma_
  have Bm := own_mk ib Ib.1 (by omega) mb hmb_
  have Dm := own_mk id Id.1 (by omega) md_ hmd__
  obtain ⟨md, hmd_⟩ : ∃ z, (p4 &&& (3 : Int32)) = z := ⟨_, rfl⟩
  obtain ⟨sb, hsb_⟩ : ∃ z, (if (p4 &&& (4 : Int32)) = (0 : Int32) then (0 : Int32) else (1 : Int32)) = z := ⟨_, rfl⟩
  by_cases hb : sb = 0
  · by_cases hm0 : md = 0
    · exact rm0_00 l Z a0 hw ws q0 q1 q2 q3 p4 sz ia ib ia wd nw ja jb ja ma mb ma 0 (own_w1 ja.toNatClampNeg ma jb.toNatClampNeg) (own_w1 ja.toNatClampNeg ma ja.toNatClampNeg) _ md sb _ h0 n0 Z0 (own_nz sz S1) hia_ hib_ (own_b7 sz S1) (own_b15 sz S2) hwd_ hnw_ hn0_ hn1_ hja_ A.1 A.2.1 hma_ hjb_ B.1 B.2.1 hmb_ hja_ A.1 A.2.1 hma_ (own_f1 _ _ _) (own_f1 _ _ _) (own_or_same 0 ma _ Am (Nat.mod_lt _ (by decide))) (own_or_same _ mb _ Bm (Nat.mod_lt _ (by decide))) rfl hs_ hmd_ hm0 hsb_ hb rfl (own_first _ _ Am (Nat.mod_lt _ (by decide))) (by rw [A.2.2]; exact own_end0 (ib := ib) Ia.1 Ia.1 (by first | rfl | exact A.2.2) Am Am hb)
    · by_cases hm1 : md = 1
      · exact rm0_10 l Z a0 hw ws q0 q1 q2 q3 p4 sz ia ib ib wd nw ja jb jb ma mb mb 0 (own_w1 ja.toNatClampNeg ma jb.toNatClampNeg) (own_w1 ja.toNatClampNeg ma jb.toNatClampNeg) _ md sb _ h0 n0 Z0 (own_nz sz S1) hia_ hib_ (own_b7 sz S1) (own_b15 sz S2) hwd_ hnw_ hn0_ hn1_ hja_ A.1 A.2.1 hma_ hjb_ B.1 B.2.1 hmb_ hjb_ B.1 B.2.1 hmb_ (own_f1 _ _ _) (own_f1 _ _ _) (own_or_same 0 ma _ Am (Nat.mod_lt _ (by decide))) (own_or_same _ mb _ Bm (Nat.mod_lt _ (by decide))) rfl hs_ hmd_ hm0 hm1 hsb_ hb rfl (own_first _ _ Bm (Nat.mod_lt _ (by decide))) (by rw [A.2.2]; exact own_end0 (ib := ib) Ia.1 Ib.1 (by first | rfl | exact B.2.2) Am Bm hb)
      · exact rm0_20 l Z a0 hw ws q0 q1 q2 q3 p4 sz ia ib id wd nw ja jb jd ma mb md_ 0 (own_w1 ja.toNatClampNeg ma jb.toNatClampNeg) (own_w1 ja.toNatClampNeg ma jd.toNatClampNeg) _ md sb _ h0 n0 Z0 (own_nz sz S1) hia_ hib_ hid_ (own_b7 sz S1) (own_b15 sz S2) hwd_ hnw_ hn0_ hn1_ hja_ A.1 A.2.1 hma_ hjb_ B.1 B.2.1 hmb_ hjd_ D.1 D.2.1 hmd__ (own_f1 _ _ _) (own_f1 _ _ _) (own_or_same 0 ma _ Am (Nat.mod_lt _ (by decide))) (own_or_same _ mb _ Bm (Nat.mod_lt _ (by decide))) rfl hs_ hmd_ hm0 hm1 hsb_ hb rfl (own_first _ _ Dm (Nat.mod_lt _ (by decide))) (by rw [A.2.2]; exact own_end0 (ib := ib) Ia.1 Id.1 (by first | rfl | exact D.2.2) Am Dm hb)
  · by_cases hm0 : md = 0
    · exact rm0_01 l Z a0 hw ws q0 q1 q2 q3 p4 sz ia ib ia wd nw ja jb ja ma mb ma 0 (own_w1 ja.toNatClampNeg ma jb.toNatClampNeg) (own_w2 ja.toNatClampNeg jb.toNatClampNeg ma mb ja.toNatClampNeg) _ md sb _ h0 n0 Z0 (own_nz sz S1) hia_ hib_ (own_b7 sz S1) (own_b15 sz S2) hwd_ hnw_ hn0_ hn1_ hja_ A.1 A.2.1 hma_ hjb_ B.1 B.2.1 hmb_ hja_ A.1 A.2.1 hma_ (own_f1 _ _ _) (own_f2 _ _ _ _ _) (own_or_same 0 ma _ Am (Nat.mod_lt _ (by decide))) (own_or_same _ mb _ Bm (Nat.mod_lt _ (by decide))) rfl hs_ hmd_ hm0 hsb_ hb rfl (own_first _ _ Am (Nat.mod_lt _ (by decide))) (by rw [A.2.2, B.2.2]; exact own_end1 (ib := ib) Ia.1 Ib.1 Ia.1 (by first | rfl | exact A.2.2) Am Bm Am hb)
    · by_cases hm1 : md = 1
      · exact rm0_11 l Z a0 hw ws q0 q1 q2 q3 p4 sz ia ib ib wd nw ja jb jb ma mb mb 0 (own_w1 ja.toNatClampNeg ma jb.toNatClampNeg) (own_w2 ja.toNatClampNeg jb.toNatClampNeg ma mb jb.toNatClampNeg) _ md sb _ h0 n0 Z0 (own_nz sz S1) hia_ hib_ (own_b7 sz S1) (own_b15 sz S2) hwd_ hnw_ hn0_ hn1_ hja_ A.1 A.2.1 hma_ hjb_ B.1 B.2.1 hmb_ hjb_ B.1 B.2.1 hmb_ (own_f1 _ _ _) (own_f2 _ _ _ _ _) (own_or_same 0 ma _ Am (Nat.mod_lt _ (by decide))) (own_or_same _ mb _ Bm (Nat.mod_lt _ (by decide))) rfl hs_ hmd_ hm0 hm1 hsb_ hb rfl (own_first _ _ Bm (Nat.mod_lt _ (by decide))) (by rw [A.2.2, B.2.2]; exact own_end1 (ib := ib) Ia.1 Ib.1 Ib.1 (by first | rfl | exact B.2.2) Am Bm Bm hb)
      · exact rm0_21 l Z a0 hw ws q0 q1 q2 q3 p4 sz ia ib id wd nw ja jb jd ma mb md_ 0 (own_w1 ja.toNatClampNeg ma jb.toNatClampNeg) (own_w2 ja.toNatClampNeg jb.toNatClampNeg ma mb jd.toNatClampNeg) _ md sb _ h0 n0 Z0 (own_nz sz S1) hia_ hib_ hid_ (own_b7 sz S1) (own_b15 sz S2) hwd_ hnw_ hn0_ hn1_ hja_ A.1 A.2.1 hma_ hjb_ B.1 B.2.1 hmb_ hjd_ D.1 D.2.1 hmd__ (own_f1 _ _ _) (own_f2 _ _ _ _ _) (own_or_same 0 ma _ Am (Nat.mod_lt _ (by decide))) (own_or_same _ mb _ Bm (Nat.mod_lt _ (by decide))) rfl hs_ hmd_ hm0 hm1 hsb_ hb rfl (own_first _ _ Dm (Nat.mod_lt _ (by decide))) (by rw [A.2.2, B.2.2]; exact own_end1 (ib := ib) Ia.1 Ib.1 Id.1 (by first | rfl | exact D.2.2) Am Bm Dm hb)
set_option maxRecDepth 65536 in
set_option maxHeartbeats 40000000 in
theorem comes_1 {Post : Tables → Env → Array Value → State → Outcome → State → Prop} (hpost : ∀ tb e args s v u, (limb_1_1.after args s (.returned v) u = true ∧ limb_1_2.after args s (.returned v) u = true ∧ True) → FrameEnd s (.returned v) u (Jvm.fieldLocs frame_1_writes args s ++ Jvm.arrayLocs frame_1_arrays args s ++ Jvm.staticLocs frame_1_statics s) 16 128 → Post tb e args s (.returned v) u) :
    ArmFor flags0 classFile x code maxLocals ret World_1 tables_1 room_1 Calls_1 rest_1 Pre_1 Post := by
  intro l hfl _ _ p e ha hc hk s m args below hf hA hF happ hP
  obtain ⟨hcalls, hrest, hpre⟩ := hP
  obtain ⟨-, -, -, hnamed, -, -, -, hat⟩ := (Spec.applies_iff hf).mp happ
  obtain ⟨hg, hn⟩ := and_e (Cond.before_iff.mp (show (Jvm.Cond.and given_1 narrow_1).before args s = true from hpre))
  obtain ⟨g1, hg⟩ := and_e hg
  obtain ⟨g2, hg⟩ := and_e hg
  obtain ⟨g3, hg⟩ := and_e hg
  obtain ⟨g4, hg⟩ := and_e hg
  obtain ⟨g5, hg⟩ := and_e hg
  obtain ⟨w0, w1, w2, w3, w4, rfl⟩ : ∃ w0 w1 w2 w3 w4 : Value, args = #[w0, w1, w2, w3, w4] := by
    have hs : args.size = 5 := by simpa [Cond.value, given_1] using g1
    obtain ⟨L⟩ := args
    match L, hs with
    | [w0, w1, w2, w3, w4], _ => exact ⟨w0, w1, w2, w3, w4, rfl⟩
  have hw := fun d (hd : d ∈ tables_1) => atoms_spec (ws := Jvm.Cond.code x code maxLocals ret :: tables_1) hat d (List.mem_cons_of_mem _ hd)
  obtain ⟨i0, ei0⟩ := isL_v g2
  obtain rfl : w0 = (.long i0) := Option.some.inj ei0
  obtain ⟨i1, ei1⟩ := isL_v g3
  obtain rfl : w1 = (.long i1) := Option.some.inj ei1
  obtain ⟨i2, ei2⟩ := isL_v g4
  obtain rfl : w2 = (.long i2) := Option.some.inj ei2
  obtain ⟨i3, ei3⟩ := isL_v g5
  obtain rfl : w3 = (.long i3) := Option.some.inj ei3
  obtain ⟨i4, ei4⟩ := is_v hg
  obtain rfl : w4 = (.int i4) := Option.some.inj ei4

  obtain ⟨n, o, h1, h2, h3, _, L, rfl, ⟨rfl, N⟩, hq⟩ := rm0 l s _ hw tables_1 i0 i1 i2 i3 i4 s.heap s.heap.size (Nat.le_refl _) p e ha hc hk s m _ below hf ((Spec.applies_iff_loose hf).mp happ).1 ⟨rfl, State.Warmed39.refl s, rfl⟩ trivial
  refine ⟨n, _, h1, h2, h3, hpost _ _ _ _ _ _ ⟨Cond.after_iff.mpr rfl, Cond.after_iff.mpr (eq_i res_at (Term.int_eval (1)) rfl), trivial⟩ ⟨hq.1, hq.2.1, (hq.2.2.sift fun y hy => Or.inr (N y hy)).mono (by decide) (by decide)⟩⟩
theorem main_1_1 : Claimed_1_1 := comes_1 fun _ _ _ _ _ _ h hF => ⟨h.1, hF⟩
theorem main_1_2 : Claimed_1_2 := comes_1 fun _ _ _ _ _ _ h hF => ⟨h.2.1, hF⟩
end Jvm.Pilot.@@N@@
namespace Jvm.Pilot.@@N@@
open Jvm Jvm.ClassFile Sem Op Lib Jvm.Free Jvm.Stand Jvm.Pilot.@@N@@.Jvm.D
/-! MADE BY PROGRAM (witnessworld.py) out of the Statement's table words and the real class files: 11 classes; the members and pool entries that the words name. The judged class is class 1, her method 2. -/
namespace start1
open Jvm.ClassFile
def u (s : String) : CpInfo := .utf8 (stringToUtf16 s)
/-- a pool by its gaps: so many unusable entries, then the entry; so many at the end -/
def gap : Nat → List CpInfo → List CpInfo
  | 0, r => r
  | n + 1, r => .unusable :: gap n r
def poolList (es : List (Nat × CpInfo)) (last : Nat) : List CpInfo := es.foldr (fun e r => gap e.1 (e.2 :: r)) (gap last [])
def pool (es : List (Nat × CpInfo)) (last : Nat) : Array CpInfo := ⟨poolList es last⟩
def fileOf (pool : Array CpInfo) (this : Nat) (attrs : Array Attribute := #[]) (ms : Array MethodInfo := #[]) (fl : Nat := 33) (sup : Nat := 0) (ifs : Array Nat := #[]) (fds : Array FieldInfo := #[]) : ClassFile where
  minorVersion := 0
  majorVersion := 65
  constantPool := pool
  accessFlags := fl
  thisClass := this
  superClass := sup
  interfaces := ifs
  fields := fds
  methods := ms
  attributes := attrs
def plain (name : String) (sup : Option ClassId) : Class where
  name := name
  kind := .ordinary
  loader := none
  accessFlags := 33
  super := sup
  interfaces := #[]
  cf := none
  fields := #[]
  methods := #[]
  instanceTypes := #[]
  staticTypes := #[]
  resolved := #[]
  callSites := []
  init := .initialized
  statics := none
  mirror := none

def pool0 : Array CpInfo := pool [(5, u "<init>"), (0, u "()V"), (1, .class_ 10), (1, u "java/lang/Object")] 113

def k0c0 : Code := { maxStack := 0, maxLocals := 1, code := object_method_1_code, exceptionTable := #[], attributes := #[] }
def k0m0 : Method := { name := "<init>", desc := "()V", sig := { parameters := [], returnType := none }, accessFlags := 1, code := some k0c0 }
/-- java/lang/Object -/
def k0 : Class := { plain "java/lang/Object" none with
  accessFlags := 33
  interfaces := #[]
  cf := some (fileOf pool0 8 #[] #[{ accessFlags := 1, nameIndex := 5, descriptorIndex := 6, attributes := #[] }] 33 0 #[] #[])
  fields := #[]
  methods := #[k0m0]
  instanceTypes := #[]
  staticTypes := #[]
  resolved := Array.replicate 124 none
  statics := none }

def pool1 : Array CpInfo := pool [(2, .class_ 4), (1, u "java/lang/Object"), (0, u "<init>"), (0, u "()V"), (2, .long 9223372036854775807), (1, .long 1023), (1, .methodref 14 15), (0, .class_ 16), (0, .nameAndType 17 18), (0, u "com/example/mussel/mussel/engine/BitArrayGetPinLaw"), (0, u "pick"), (0, u "(JJ)J"), (0, .class_ 20), (0, u "com/example/mussel/mussel/engine/BitArray"), (0, .methodref 19 22), (0, .nameAndType 5 23), (0, u "(J)V"), (0, .methodref 19 25), (0, .nameAndType 26 27), (0, u "get"), (0, u "(J)Z"), (0, .methodref 19 29), (0, .nameAndType 30 27), (0, u "set"), (2, u "law"), (0, u "(JJJJI)Z")] 3

def k1m0 : Method := { name := "<init>", desc := "()V", sig := { parameters := [], returnType := none }, accessFlags := 1, code := none }
def k1c1 : Code := { maxStack := 4, maxLocals := 4, code := method_2_code, exceptionTable := #[], attributes := #[] }
def k1m1 : Method := { name := "pick", desc := "(JJ)J", sig := { parameters := [.long, .long], returnType := some .long }, accessFlags := 10, code := some k1c1 }
def k1c2 : Code := { maxStack := 6, maxLocals := 23, code := code, exceptionTable := #[], attributes := #[] }
def k1m2 : Method := { name := "law", desc := "(JJJJI)Z", sig := { parameters := [.long, .long, .long, .long, .int], returnType := some .boolean }, accessFlags := 9, code := some k1c2 }
/-- com/example/mussel/mussel/engine/BitArrayGetPinLaw -/
def k1 : Class := { plain "com/example/mussel/mussel/engine/BitArrayGetPinLaw" (some 0) with
  accessFlags := 49
  interfaces := #[]
  cf := some (fileOf pool1 14 #[] #[{ accessFlags := 1, nameIndex := 5, descriptorIndex := 6, attributes := #[] }, { accessFlags := 10, nameIndex := 17, descriptorIndex := 18, attributes := #[] }, { accessFlags := 9, nameIndex := 33, descriptorIndex := 34, attributes := #[] }] 49 2 #[] #[])
  fields := #[]
  methods := #[k1m0, k1m1, k1m2]
  instanceTypes := #[]
  staticTypes := #[]
  resolved := Array.replicate 38 none
  statics := none }

def pool2 : Array CpInfo := pool [(5, .class_ 6), (0, u "com/example/mussel/mussel/engine/BitArray"), (0, .methodref 8 9), (0, .class_ 10), (0, .nameAndType 11 12), (0, u "java/lang/Object"), (0, u "<init>"), (0, u "()V"), (0, .long 137438952896), (10, .methodref 5 25), (0, .nameAndType 26 27), (0, u "words"), (0, u "(J)J"), (0, .fieldref 5 29), (0, .nameAndType 26 30), (0, u "[J"), (2, .fieldref 5 34), (0, .nameAndType 35 36), (0, u "capture"), (0, u "Lcom/example/mussel/mussel/engine/BitArray$Capture;"), (1, .class_ 40), (1, u "com/example/mussel/mussel/engine/BitArray$Capture"), (44, u "get"), (49, .long 64), (5, u "MAX_SIZE"), (0, u "J"), (1, u "CHUNK_SHIFT"), (0, u "I"), (1, u "CHUNK_WORDS"), (1, u "FIRST_KEPT"), (1, u "ARRAY_BOOKKEEPING"), (0, u "CAPTURE_BOOKKEEPING"), (0, u "(J)V"), (4, u "set"), (0, u "(J)Z")] 29

def k2c0 : Code := { maxStack := 4, maxLocals := 3, code := prog_20_method_1_code, exceptionTable := #[], attributes := #[] }
def k2m0 : Method := { name := "<init>", desc := "(J)V", sig := { parameters := [.long], returnType := none }, accessFlags := 0, code := some k2c0 }
def k2c1 : Code := { maxStack := 6, maxLocals := 10, code := prog_20_method_3_code, exceptionTable := #[], attributes := #[] }
def k2m1 : Method := { name := "set", desc := "(J)Z", sig := { parameters := [.long], returnType := some .boolean }, accessFlags := 0, code := some k2c1 }
def k2c2 : Code := { maxStack := 6, maxLocals := 3, code := prog_20_method_4_code, exceptionTable := #[], attributes := #[] }
def k2m2 : Method := { name := "get", desc := "(J)Z", sig := { parameters := [.long], returnType := some .boolean }, accessFlags := 0, code := some k2c2 }
def k2c3 : Code := { maxStack := 4, maxLocals := 2, code := prog_20_method_12_code, exceptionTable := #[], attributes := #[] }
def k2m3 : Method := { name := "words", desc := "(J)J", sig := { parameters := [.long], returnType := some .long }, accessFlags := 10, code := some k2c3 }
/-- com/example/mussel/mussel/engine/BitArray -/
def k2 : Class := { plain "com/example/mussel/mussel/engine/BitArray" (some 0) with
  accessFlags := 48
  interfaces := #[]
  cf := some (fileOf pool2 5 #[.nestMembers #[38]] #[{ accessFlags := 0, nameIndex := 11, descriptorIndex := 153, attributes := #[] }, { accessFlags := 0, nameIndex := 158, descriptorIndex := 159, attributes := #[] }, { accessFlags := 0, nameIndex := 85, descriptorIndex := 159, attributes := #[] }, { accessFlags := 10, nameIndex := 26, descriptorIndex := 27, attributes := #[] }] 48 8 #[] #[{ accessFlags := 24, nameIndex := 141, descriptorIndex := 142, attributes := #[] }, { accessFlags := 26, nameIndex := 144, descriptorIndex := 145, attributes := #[] }, { accessFlags := 26, nameIndex := 147, descriptorIndex := 145, attributes := #[] }, { accessFlags := 26, nameIndex := 149, descriptorIndex := 145, attributes := #[] }, { accessFlags := 26, nameIndex := 151, descriptorIndex := 142, attributes := #[] }, { accessFlags := 26, nameIndex := 152, descriptorIndex := 142, attributes := #[] }, { accessFlags := 18, nameIndex := 26, descriptorIndex := 30, attributes := #[] }, { accessFlags := 66, nameIndex := 35, descriptorIndex := 36, attributes := #[] }])
  fields := #[{ name := "MAX_SIZE", type := .long, accessFlags := 24, slot := 0, constantValue := 0 }, { name := "CHUNK_SHIFT", type := .int, accessFlags := 26, slot := 1, constantValue := 0 }, { name := "CHUNK_WORDS", type := .int, accessFlags := 26, slot := 2, constantValue := 0 }, { name := "FIRST_KEPT", type := .int, accessFlags := 26, slot := 3, constantValue := 0 }, { name := "ARRAY_BOOKKEEPING", type := .long, accessFlags := 26, slot := 4, constantValue := 0 }, { name := "CAPTURE_BOOKKEEPING", type := .long, accessFlags := 26, slot := 5, constantValue := 0 }, { name := "words", type := (.array .long), accessFlags := 18, slot := 0, constantValue := 0 }, { name := "capture", type := (.object "com/example/mussel/mussel/engine/BitArray$Capture"), accessFlags := 66, slot := 1, constantValue := 0 }]
  methods := #[k2m0, k2m1, k2m2, k2m3]
  instanceTypes := #[(.array .long), (.object "com/example/mussel/mussel/engine/BitArray$Capture")]
  staticTypes := #[.long, .int, .int, .int, .long, .long]
  resolved := Array.replicate 189 none
  statics := none }

def pool3 : Array CpInfo := pool [(1, u "java/lang/Cloneable"), (0, .class_ 1), (0, u "java/lang/Object"), (0, .class_ 3)] 3

/-- java/lang/Cloneable -/
def k3 : Class := { plain "java/lang/Cloneable" (some 0) with
  accessFlags := 1537
  interfaces := #[]
  cf := some (fileOf pool3 2 #[] #[] 1537 4 #[] #[])
  fields := #[]
  methods := #[]
  instanceTypes := #[]
  staticTypes := #[]
  resolved := Array.replicate 8 none
  statics := none }

def pool4 : Array CpInfo := pool [(1, u "java/io/Serializable"), (0, .class_ 1), (0, u "java/lang/Object"), (0, .class_ 3)] 3

/-- java/io/Serializable -/
def k4 : Class := { plain "java/io/Serializable" (some 0) with
  accessFlags := 1537
  interfaces := #[]
  cf := some (fileOf pool4 2 #[] #[] 1537 4 #[] #[])
  fields := #[]
  methods := #[]
  instanceTypes := #[]
  staticTypes := #[]
  resolved := Array.replicate 8 none
  statics := none }

/-- the primitive byte -/
def k5 : Class := { plain "byte" none with kind := .primitive 'B', accessFlags := 0x411 }
/-- [B -/
def k6 : Class := { plain "[B" (some 0) with kind := .array 5 .byte, interfaces := #[3, 4], accessFlags := 1041 }

/-- the primitive int -/
def k7 : Class := { plain "int" none with kind := .primitive 'I', accessFlags := 0x411 }
/-- [I -/
def k8 : Class := { plain "[I" (some 0) with kind := .array 7 .int, interfaces := #[3, 4], accessFlags := 1041 }

/-- the primitive long -/
def k9 : Class := { plain "long" none with kind := .primitive 'J', accessFlags := 0x411 }
/-- [J -/
def k10 : Class := { plain "[J" (some 0) with kind := .array 9 .long, interfaces := #[3, 4], accessFlags := 1041 }

def heap : Heap := #[]
def classes : Array Class := #[k0, k1, k2, k3, k4, k5, k6, k7, k8, k9, k10]
def interned : List (Array UInt16 × Addr) := []
def slotsUsed : Nat := 0
def theMethod : MethodId := ⟨1, 2⟩
def args0 : Array Value := #[.long 5, .long 5, .long 5, .long 5, .int 5]
def aboutOver (below : List Frame) : State where
  vm := { classes := classes, interned := interned.toArray }
  heap := heap
  slotsUsed := slotsUsed
  threads := #[{ frames := .invoking theMethod args0 :: below }]
def below0 : List Frame := [.native { method := ⟨0, 0⟩, args := #[] }]
def about1 : State := aboutOver below0
def p0 : Program := .bare "" "" ""
def e0 : Env := launch0.env 0 0 0
theorem w_frames : about1.frames = Frame.invoking theMethod args0 :: below0 := rfl
set_option maxRecDepth 65536 in
theorem w_args : argsFit about1.vm theMethod args0 = true := by decide +kernel
set_option maxRecDepth 65536 in
theorem w_heap : heapFits about1 = true := by decide +kernel
set_option maxRecDepth 65536 in
theorem w_runnable : about1.curStatus? = some .runnable := by decide +kernel
set_option maxRecDepth 65536 in
theorem w_alone : about1.alone = true := by decide +kernel
set_option maxRecDepth 65536 in
theorem w_named : about1.methodNamed? x = some theMethod := by decide +kernel
set_option maxRecDepth 65536 in
theorem w_hears : about1.hears theMethod below0 = true := by decide +kernel
set_option maxRecDepth 65536 in
theorem w_ripe : about1.ripe theMethod args0 below0 = true := by decide +kernel
theorem w_running : about1.status = .running := rfl
set_option maxRecDepth 65536 in
theorem w_room : about1.hasRoom e0.platform room_1 = true :=
  launch0.hasRoom_least _ room_1 (by decide +kernel) (by decide +kernel) (by decide +kernel) (by decide +kernel) (by decide +kernel) (by decide +kernel)
theorem allAtoms_all (ts : List Jvm.Cond) (a : Array Jvm.Value) (st : Jvm.State) : (allAtoms ts).before a st = ts.all (fun c => c.before a st) := by
  induction ts with
  | nil => rfl
  | cons c t ih =>
    show (Jvm.Cond.and c (allAtoms t)).before a st = _
    rw [Jvm.Cond.before_and, ih, List.all_cons]
def words1 : List Jvm.Cond := Jvm.Cond.code x code maxLocals ret :: tables_1
/-- a 'code' word, met by the world's own term for the bytes: nothing is compared byte by byte -/
theorem code_word {y : MethodName} {bytes : ByteArray} {mx : Nat} {rt : Option FieldType} {a : Array Value} {s : State} {m : MethodId} {meth : Method} {c : Code} (h1 : s.methodNamed? y = some m) (h2 : s.vm.method? m = some meth) (h3 : meth.code = some c) (h4 : c.code = bytes)
    (h5 : (c.maxLocals == mx && c.exceptionTable.isEmpty && decide (c.maxStack ≤ mostOperands) && decide (meth.sig.returnType = rt) && !meth.locks && decide (parseMethodDescriptor y.desc = some meth.sig)) = true) : (Jvm.Cond.code y bytes mx rt).before a s = true := by
  simp only [Bool.and_eq_true, beq_iff_eq, Bool.not_eq_true', decide_eq_true_eq] at h5
  obtain ⟨⟨⟨⟨⟨g1, g2⟩, g3⟩, g4⟩, g5⟩, g6⟩ := h5
  simp [Cond.before, Cond.holds, Cond.value, h1, h2, h3, h4, g1, g2, g3, g4, g5, g6]
def isCode : Jvm.Cond → Bool
  | .code _ _ _ _ => true
  | _ => false
theorem all_split {L : List Jvm.Cond} {P : Jvm.Cond → Bool} (h1 : L.all (fun c => isCode c || P c) = true) (h2 : ∀ c ∈ L.filter isCode, P c = true) : L.all P = true := by
  refine List.all_eq_true.mpr fun c hc => ?_
  have h := List.all_eq_true.mp h1 c hc
  rcases Bool.eq_false_or_eq_true (isCode c) with hi | hi
  · exact h2 c (List.mem_filter.mpr ⟨hc, hi⟩)
  · simpa [hi] using h
set_option maxRecDepth 65536 in
theorem w_c0 : (Jvm.Cond.code x code maxLocals ret).before args0 about1 = true := code_word (m := ⟨1, 2⟩) (meth := k1m2) (c := k1c2) (by decide +kernel) rfl rfl rfl (by decide +kernel)
set_option maxRecDepth 65536 in
theorem w_c1 : (Jvm.Cond.code ({ cls := "com/example/mussel/mussel/engine/BitArrayGetPinLaw", name := "pick", desc := "(JJ)J" } : Jvm.MethodName) method_2_code (4 : Nat) (Option.some Jvm.ClassFile.FieldType.long)).before args0 about1 = true := code_word (m := ⟨1, 1⟩) (meth := k1m1) (c := k1c1) (by decide +kernel) rfl rfl rfl (by decide +kernel)
set_option maxRecDepth 65536 in
theorem w_c2 : (Jvm.Cond.code ({ cls := "com/example/mussel/mussel/engine/BitArray", name := "<init>", desc := "(J)V" } : Jvm.MethodName) prog_20_method_1_code (3 : Nat) (Option.none : Option Jvm.ClassFile.FieldType)).before args0 about1 = true := code_word (m := ⟨2, 0⟩) (meth := k2m0) (c := k2c0) (by decide +kernel) rfl rfl rfl (by decide +kernel)
set_option maxRecDepth 65536 in
theorem w_c3 : (Jvm.Cond.code ({ cls := "java/lang/Object", name := "<init>", desc := "()V" } : Jvm.MethodName) object_method_1_code (1 : Nat) (Option.none : Option Jvm.ClassFile.FieldType)).before args0 about1 = true := code_word (m := ⟨0, 0⟩) (meth := k0m0) (c := k0c0) (by decide +kernel) rfl rfl rfl (by decide +kernel)
set_option maxRecDepth 65536 in
theorem w_c4 : (Jvm.Cond.code ({ cls := "com/example/mussel/mussel/engine/BitArray", name := "words", desc := "(J)J" } : Jvm.MethodName) prog_20_method_12_code (2 : Nat) (Option.some Jvm.ClassFile.FieldType.long)).before args0 about1 = true := code_word (m := ⟨2, 3⟩) (meth := k2m3) (c := k2c3) (by decide +kernel) rfl rfl rfl (by decide +kernel)
set_option maxRecDepth 65536 in
theorem w_c5 : (Jvm.Cond.code ({ cls := "com/example/mussel/mussel/engine/BitArray", name := "get", desc := "(J)Z" } : Jvm.MethodName) prog_20_method_4_code (3 : Nat) (Option.some Jvm.ClassFile.FieldType.boolean)).before args0 about1 = true := code_word (m := ⟨2, 2⟩) (meth := k2m2) (c := k2c2) (by decide +kernel) rfl rfl rfl (by decide +kernel)
set_option maxRecDepth 65536 in
theorem w_c6 : (Jvm.Cond.code ({ cls := "com/example/mussel/mussel/engine/BitArray", name := "set", desc := "(J)Z" } : Jvm.MethodName) prog_20_method_3_code (10 : Nat) (Option.some Jvm.ClassFile.FieldType.boolean)).before args0 about1 = true := code_word (m := ⟨2, 1⟩) (meth := k2m1) (c := k2c1) (by decide +kernel) rfl rfl rfl (by decide +kernel)
def codes1 : List Jvm.Cond := [Jvm.Cond.code x code maxLocals ret, Jvm.Cond.code ({ cls := "com/example/mussel/mussel/engine/BitArrayGetPinLaw", name := "pick", desc := "(JJ)J" } : Jvm.MethodName) method_2_code (4 : Nat) (Option.some Jvm.ClassFile.FieldType.long), Jvm.Cond.code ({ cls := "com/example/mussel/mussel/engine/BitArray", name := "<init>", desc := "(J)V" } : Jvm.MethodName) prog_20_method_1_code (3 : Nat) (Option.none : Option Jvm.ClassFile.FieldType), Jvm.Cond.code ({ cls := "java/lang/Object", name := "<init>", desc := "()V" } : Jvm.MethodName) object_method_1_code (1 : Nat) (Option.none : Option Jvm.ClassFile.FieldType), Jvm.Cond.code ({ cls := "com/example/mussel/mussel/engine/BitArray", name := "words", desc := "(J)J" } : Jvm.MethodName) prog_20_method_12_code (2 : Nat) (Option.some Jvm.ClassFile.FieldType.long), Jvm.Cond.code ({ cls := "com/example/mussel/mussel/engine/BitArray", name := "get", desc := "(J)Z" } : Jvm.MethodName) prog_20_method_4_code (3 : Nat) (Option.some Jvm.ClassFile.FieldType.boolean), Jvm.Cond.code ({ cls := "com/example/mussel/mussel/engine/BitArray", name := "set", desc := "(J)Z" } : Jvm.MethodName) prog_20_method_3_code (10 : Nat) (Option.some Jvm.ClassFile.FieldType.boolean)]
set_option maxRecDepth 65536 in
theorem codes_eq : words1.filter isCode = codes1 := rfl
theorem w_codes : ∀ c ∈ words1.filter isCode, c.before args0 about1 = true := by
  rw [codes_eq]
  intro c hc
  simp only [codes1, List.mem_cons, List.not_mem_nil, or_false] at hc
  rcases hc with rfl | rfl | rfl | rfl | rfl | rfl | rfl
  · exact w_c0
  · exact w_c1
  · exact w_c2
  · exact w_c3
  · exact w_c4
  · exact w_c5
  · exact w_c6
set_option maxRecDepth 65536 in
theorem w_t1 : (words1.take 24).all (fun c => isCode c || c.before args0 about1) = true := by decide +kernel
set_option maxRecDepth 65536 in
theorem w_t2 : (words1.drop 24).all (fun c => isCode c || c.before args0 about1) = true := by decide +kernel
theorem w_tables : (allAtoms (Jvm.Cond.code x code maxLocals ret :: tables_1)).before args0 about1 = true := by
  rw [allAtoms_all]
  show words1.all (fun c => c.before args0 about1) = true
  refine all_split ?_ w_codes
  rw [← List.take_append_drop 24 words1, List.all_append, w_t1, w_t2]
  rfl
set_option maxRecDepth 65536 in
theorem w_case : (Jvm.Cond.and given_1 narrow_1).before args0 about1 = true := by decide +kernel
theorem w_applies : (headSpec (Jvm.Cond.code x code maxLocals ret :: tables_1) room_1).applies x e0.platform about1 = true :=
  (Spec.applies_iff w_frames).mpr ⟨w_running, w_runnable, w_alone, w_named, w_hears, w_ripe, w_room, w_tables⟩
theorem atStart : AtStart classFile x code maxLocals ret World_1 tables_1 room_1 Calls_1 rest_1 Pre_1 launch0 p0 e0 about1 theMethod args0 below0 :=
  ⟨lists_1, trivial, launch0.admits_env _ _ _, launch0.least_env, fairChoices_fair.cas, fairChoices_fair.clock, w_frames, w_args, w_heap, w_applies, trivial, trivial, w_case⟩
end start1
theorem witness_1 : WitnessClaimed_1 := ⟨start1.p0, start1.e0, start1.about1, start1.theMethod, start1.args0, start1.below0, start1.atStart⟩
end Jvm.Pilot.@@N@@
