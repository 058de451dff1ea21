import JvmDerived
import JvmDerived.Pilot.@@N@@Statement
import JvmDerived.Pilot.@@N@@Code
set_option linter.unusedVariables false
set_option linter.unusedSimpArgs false
namespace Jvm.RoadKit
open Sem ClassFile Op Lib Jvm.Stand Jvm.Free Jvm.LawKit
section New
variable {p : Program} {l : Launch} {e : Env} {R : Room} {s : State} {m : MethodId} {args : Array Value} {below : List Frame} {meth : Method} {c : Code} {T : State} {locs : List Loc} {cells slots : Nat}
theorem retI (X : Stand p l e R s m args below meth c T locs cells slots) (hx : p.tables.exec = Jvm.exec) {pc : Nat} {Ls : Array Slot} {z : Int32} {rest : List Value} (hret : meth.sig.returnType = some .int) (hd : decode c.code pc = .ok (.ireturn, 1)) {fs : List Frame}
    (hl : ∀ (f : JFrame) (acts : List Action), f.method = m → f.locked = none → f.entered = [] → (doReturn e (T.setTop f) acts (some (.int z))).1 = T.setFrames fs) : Steps p.tables e below (T.setTop (mkF m pc Ls (.int z :: rest))) (T.setFrames fs) := by
  have hm' : T.vm.method? m = some meth := X.method'
  have hn : narrow .int (.int z) = .int z := rfl
  show Steps p.tables e below (T.setTop { method := m, pc := pc, locals := Ls, stack := _ :: rest, locked := none }) _
  jvm_step X.here [X.here.top, hx, hd, hm', hret, hn]
  first | (intro acts; rw [hl _ acts rfl rfl rfl]) | rw [hl _ _ rfl rfl rfl]
  exact Steps.refl _
end New
end Jvm.RoadKit
namespace Jvm.Pilot.@@N@@
open Jvm Jvm.ClassFile Sem Op Lib Jvm.Free Jvm.Stand Jvm.LawKit Jvm.RoadKit Bundle Jvm.Pilot.@@N@@.Jvm.D
/-! an array of n places; place j holds f j -/
def ArrF (Z : State) (h : Heap) (a : Addr) (ty : FieldType) (n : Int32) (f : Nat → Value) : Prop := ∃ c : Cell, Arr Z h a c ty ∧ c.slots.size = n.toNatClampNeg ∧ ¬ n < 0 ∧ ∀ j, j < n.toNatClampNeg → c.slots[j]? = some (f j)
theorem ArrF.lt {Z : State} {h : Heap} {a : Addr} {ty : FieldType} {n : Int32} {f : Nat → Value} (F : ArrF Z h a ty n f) : a < h.size := by obtain ⟨c, A, -⟩ := F; exact A.lt
theorem ArrF.ext {Z : State} {h h' : Heap} {a : Addr} {ty : FieldType} {n : Int32} {f : Nat → Value} (F : ArrF Z h a ty n f) (E : Ext h h') : ArrF Z h' a ty n f := by obtain ⟨c, A, r⟩ := F; exact ⟨c, A.ext E, r⟩
theorem ArrF.other {Z : State} {h h' : Heap} {a b : Addr} {sl : Nat} {v : Value} {ty : FieldType} {n : Int32} {f : Nat → Value} (F : ArrF Z h b ty n f) (W : Wr h h' a sl v) (q : b ≠ a) : ArrF Z h' b ty n f := by obtain ⟨c, A, r⟩ := F; exact ⟨c, A.other W q, r⟩
theorem ArrF.keep {Z : State} {h h' : Heap} {a : Addr} {ws : List Addr} {ty : FieldType} {n : Int32} {f : Nat → Value} (F : ArrF Z h a ty n f) (K : Keep h h' ws) (q : a ∉ ws) : ArrF Z h' a ty n f := by obtain ⟨c, A, r⟩ := F; exact ⟨c, ⟨K.2.1 a c A.1 q, A.2⟩, r⟩
theorem ArrF.of_new {Z : State} {h : Heap} {a : Addr} {k : ClassId} {ty : FieldType} {n : Int32} (A : Arr Z h a (newA k ty n) ty) (q : ¬ n < 0) : ArrF Z h a ty n (fun _ => defaultValue ty) := ⟨_, A, sz_new _ _ _, q, fun j hj => by simp [newA, hj]⟩
theorem ArrF.congr {Z : State} {h : Heap} {a : Addr} {ty : FieldType} {n : Int32} {f g : Nat → Value} (F : ArrF Z h a ty n f) (q : ∀ j, j < n.toNatClampNeg → f j = g j) : ArrF Z h a ty n g := by obtain ⟨c, A, r1, r2, r3⟩ := F; exact ⟨c, A, r1, r2, fun j hj => by rw [← q j hj]; exact r3 j hj⟩
theorem ArrF.set {Z : State} {h h' : Heap} {a : Addr} {ty : FieldType} {n : Int32} {f : Nat → Value} {c : Cell} {k : Nat} {v : Value} (A : Arr Z h a c ty) (r1 : c.slots.size = n.toNatClampNeg) (r2 : ¬ n < 0) (r3 : ∀ j, j < n.toNatClampNeg → c.slots[j]? = some (f j)) (W : Wr h h' a k v) : ArrF Z h' a ty n (fun j => if j = k then v else f j) := by
  refine ⟨_, A.same W, by rw [sz_set]; exact r1, r2, fun j hj => ?_⟩
  by_cases u : j = k
  · subst u; simp [Cell.setSlot, r1, hj]
  · show _ = some (if j = k then v else f j)
    rw [if_neg u, ← r3 j hj]; simp only [Cell.setSlot]; exact Array.getElem?_setIfInBounds_ne (Ne.symm u)
theorem own_idx {j n : Int32} (q0 : ¬ j < 0) (q1 : j < n) : j.toNatClampNeg < n.toNatClampNeg := by
  rw [Int32.lt_iff_toInt_lt] at q0 q1
  have e0 : (0 : Int32).toInt = 0 := rfl
  simp only [Int32.toNatClampNeg] at *; omega

/-! ## the plain part -/
def own_valid (p0 p1 : Int32) : Int32 := if p0 < (1 : Int32) then (0 : Int32) else (if p1 < (1 : Int32) then (0 : Int32) else (if (0 : Int32) < (lcmpW ((p0.toInt64) * (p1.toInt64)) (268435456 : Int64)) then (0 : Int32) else (1 : Int32)))
abbrev own_hit (cn e0 e1 e2 e3 : Int32) (j : Nat) : Prop := ((0 : Int32) < cn ∧ j = e0.toNatClampNeg) ∨ ((1 : Int32) < cn ∧ j = e1.toNatClampNeg) ∨ ((2 : Int32) < cn ∧ j = e2.toNatClampNeg) ∨ ((3 : Int32) < cn ∧ j = e3.toNatClampNeg)
def own_px (cn e0 e1 e2 e3 rg : Int32) (j : Nat) : Int32 := if own_hit cn e0 e1 e2 e3 j then rg else 0
def own_pix (cn e0 e1 e2 e3 rg : Int32) : Nat → Value := fun j => .int (own_px cn e0 e1 e2 e3 rg j)
theorem own_pix_0 (e0 e1 e2 e3 rg : Int32) : ∀ j, (fun _ => (Value.int (0 : Int32))) j = own_pix (0 : Int32) e0 e1 e2 e3 rg j := by
  intro j
  have h0 : ¬ (0 : Int32) < 0 := by decide
  have h1 : ¬ (1 : Int32) < 0 := by decide
  have h2 : ¬ (2 : Int32) < 0 := by decide
  have h3 : ¬ (3 : Int32) < 0 := by decide
  simp [own_pix, own_px, own_hit, h0, h1, h2, h3]
theorem own_pix_1 (e0 e1 e2 e3 rg : Int32) : ∀ j, (fun j => if j = e0.toNatClampNeg then Value.int rg else (fun _ => (Value.int (0 : Int32))) j) j = own_pix (1 : Int32) e0 e1 e2 e3 rg j := by
  intro j
  have h0 : (0 : Int32) < 1 := by decide
  have h1 : ¬ (1 : Int32) < 1 := by decide
  have h2 : ¬ (2 : Int32) < 1 := by decide
  have h3 : ¬ (3 : Int32) < 1 := by decide
  by_cases a : j = e0.toNatClampNeg <;> simp [own_pix, own_px, own_hit, h0, h1, h2, h3, a]
theorem own_pix_2 (e0 e1 e2 e3 rg : Int32) : ∀ j, (fun j => if j = e1.toNatClampNeg then Value.int rg else (fun j => if j = e0.toNatClampNeg then Value.int rg else (fun _ => (Value.int (0 : Int32))) j) j) j = own_pix (2 : Int32) e0 e1 e2 e3 rg j := by
  intro j
  have h0 : (0 : Int32) < 2 := by decide
  have h1 : (1 : Int32) < 2 := by decide
  have h2 : ¬ (2 : Int32) < 2 := by decide
  have h3 : ¬ (3 : Int32) < 2 := by decide
  by_cases a : j = e0.toNatClampNeg <;> by_cases b : j = e1.toNatClampNeg <;> simp [own_pix, own_px, own_hit, h0, h1, h2, h3, a, b]
theorem own_pix_3 (e0 e1 e2 e3 rg : Int32) : ∀ j, (fun j => if j = e2.toNatClampNeg then Value.int rg else (fun j => if j = e1.toNatClampNeg then Value.int rg else (fun j => if j = e0.toNatClampNeg then Value.int rg else (fun _ => (Value.int (0 : Int32))) j) j) j) j = own_pix (3 : Int32) e0 e1 e2 e3 rg j := by
  intro j
  have h0 : (0 : Int32) < 3 := by decide
  have h1 : (1 : Int32) < 3 := by decide
  have h2 : (2 : Int32) < 3 := by decide
  have h3 : ¬ (3 : Int32) < 3 := by decide
  by_cases a : j = e0.toNatClampNeg <;> by_cases b : j = e1.toNatClampNeg <;> by_cases c : j = e2.toNatClampNeg <;> simp [own_pix, own_px, own_hit, h0, h1, h2, h3, a, b, c]
theorem own_pix_4 (e0 e1 e2 e3 rg : Int32) : ∀ j, (fun j => if j = e3.toNatClampNeg then Value.int rg else (fun j => if j = e2.toNatClampNeg then Value.int rg else (fun j => if j = e1.toNatClampNeg then Value.int rg else (fun j => if j = e0.toNatClampNeg then Value.int rg else (fun _ => (Value.int (0 : Int32))) j) j) j) j) j = own_pix (4 : Int32) e0 e1 e2 e3 rg j := by
  intro j
  have h0 : (0 : Int32) < 4 := by decide
  have h1 : (1 : Int32) < 4 := by decide
  have h2 : (2 : Int32) < 4 := by decide
  have h3 : (3 : Int32) < 4 := by decide
  by_cases a : j = e0.toNatClampNeg <;> by_cases b : j = e1.toNatClampNeg <;> by_cases c : j = e2.toNatClampNeg <;> by_cases d : j = e3.toNatClampNeg <;> simp [own_pix, own_px, own_hit, h0, h1, h2, h3, a, b, c, d]
theorem own_dim (x w : Int32) (h : ((1 : Int32) + (x &&& (7 : Int32))) = w) : 1 ≤ w.toInt ∧ w.toInt ≤ 8 := by
  have z1 : (1 : Int32).toInt = 1 := rfl
  have m := c_mask x 7 3 (by decide) (by decide)
  have e : ((2 ^ 3 : Nat) : Int) = 8 := rfl
  rw [e] at m
  have q := c_iadd 1 (x &&& 7)
  rw [h, z1] at q
  have r := rng32 w
  omega
theorem own_mod (x w r : Int32) (hx : 0 ≤ x.toInt) (hw : 1 ≤ w.toInt) (h : (x % w) = r) : 0 ≤ r.toInt ∧ r.toInt < w.toInt := by
  rw [← h, Int32.toInt_mod, Int.tmod_eq_emod_of_nonneg hx]
  exact ⟨Int.emod_nonneg _ (by omega), Int.emod_lt_of_pos _ (by omega)⟩
theorem own_m7 (x : Int32) : 0 ≤ (x &&& (7 : Int32)).toInt := by
  have m := c_mask x 7 3 (by decide) (by decide)
  rw [m]; exact Int.emod_nonneg _ (by decide)
theorem own_mx (x : Int32) : 0 ≤ (x &&& (2147483647 : Int32)).toInt := by
  have m := c_mask x 2147483647 31 (by decide) (by decide)
  rw [m]; exact Int.emod_nonneg _ (by decide)
theorem own_cn (x cn : Int32) (h : ((x &&& (7 : Int32)) % (5 : Int32)) = cn) : cn = 0 ∨ cn = 1 ∨ cn = 2 ∨ cn = 3 ∨ cn = 4 := by
  have q := own_mod (x &&& 7) 5 cn (own_m7 x) (by decide) h
  have z5 : (5 : Int32).toInt = 5 := rfl
  have e0 : (0 : Int32).toInt = 0 := rfl
  have e1 : (1 : Int32).toInt = 1 := rfl
  have e2 : (2 : Int32).toInt = 2 := rfl
  have e3 : (3 : Int32).toInt = 3 := rfl
  have e4 : (4 : Int32).toInt = 4 := rfl
  simp only [← Int32.toInt_inj, e0, e1, e2, e3, e4]
  rw [z5] at q
  omega
theorem own_lin {W r c r' c' : Int} (hc : 0 ≤ c ∧ c < W) (hc' : 0 ≤ c' ∧ c' < W) : r * W + c = r' * W + c' ↔ r = r' ∧ c = c' := by
  constructor
  · intro h
    have d : ∀ x y : Int, 0 ≤ y → y < W → (x * W + y) / W = x := fun x y h1 h2 => by
      rw [Int.add_comm, Int.add_mul_ediv_right _ _ (by omega), Int.ediv_eq_zero_of_lt h1 h2, Int.zero_add]
    have e : r = r' := by rw [← d r c hc.1 hc.2, h, d r' c' hc'.1 hc'.2]
    subst e
    exact ⟨rfl, by omega⟩
  · rintro ⟨rfl, rfl⟩; rfl
theorem own_prod {W H : Int} (hW : 1 ≤ W ∧ W ≤ 8) (hH : 1 ≤ H ∧ H ≤ 8) : 1 ≤ W * H ∧ W * H ≤ 64 := by
  have a := Int.mul_le_mul (a := W) (b := H) (c := 8) (d := 8) hW.2 hH.2 (by omega) (by decide)
  have b := Int.mul_le_mul (a := 1) (b := 1) (c := W) (d := H) hW.1 hH.1 (by decide) (by omega)
  omega
theorem own_mul {x y : Int32} {b : Int} (h0 : 0 ≤ x.toInt * y.toInt) (h1 : x.toInt * y.toInt ≤ 64) : (x * y).toInt = x.toInt * y.toInt := by
  have q := c_imul x y
  have r := rng32 (x * y)
  omega
theorem own_at {wd ht r c np bs e : Int32} (hW : 1 ≤ wd.toInt ∧ wd.toInt ≤ 8) (hH : 1 ≤ ht.toInt ∧ ht.toInt ≤ 8) (hr : 0 ≤ r.toInt ∧ r.toInt < ht.toInt) (hc : 0 ≤ c.toInt ∧ c.toInt < wd.toInt) (hnp : np.toInt = wd.toInt * ht.toInt) (hbs : (r * wd) = bs) (he : (bs + c) = e) :
    e.toInt = r.toInt * wd.toInt + c.toInt ∧ ¬ e < 0 ∧ e < np := by
  have p := own_prod hW hH
  have a : 0 ≤ r.toInt * wd.toInt := Int.mul_nonneg hr.1 (by omega)
  have b : r.toInt * wd.toInt ≤ (ht.toInt - 1) * wd.toInt := Int.mul_le_mul_of_nonneg_right (by omega) (by omega)
  rw [Int.sub_mul, Int.one_mul, Int.mul_comm ht.toInt] at b
  have m : bs.toInt = r.toInt * wd.toInt := by rw [← hbs]; exact own_mul (b := 0) a (by omega)
  have q := c_iadd bs c
  rw [he] at q
  have re := rng32 e
  have z0 : (0 : Int32).toInt = 0 := rfl
  have u : e.toInt = r.toInt * wd.toInt + c.toInt := by omega
  exact ⟨u, by rw [Int32.lt_iff_toInt_lt, z0]; omega, by rw [Int32.lt_iff_toInt_lt]; omega⟩
theorem own_same {W : Int} {e f r c r' c' : Int32} (hc : 0 ≤ c.toInt ∧ c.toInt < W) (hc' : 0 ≤ c'.toInt ∧ c'.toInt < W) (he : e.toInt = r.toInt * W + c.toInt) (hf : f.toInt = r'.toInt * W + c'.toInt) (h0 : ¬ e < 0) (h1 : ¬ f < 0) : e.toNatClampNeg = f.toNatClampNeg ↔ r = r' ∧ c = c' := by
  have z0 : (0 : Int32).toInt = 0 := rfl
  rw [Int32.lt_iff_toInt_lt, z0] at h0 h1
  have : e.toNatClampNeg = f.toNatClampNeg ↔ e.toInt = f.toInt := by simp only [Int32.toNatClampNeg]; omega
  rw [this, he, hf, own_lin hc hc', Int32.toInt_inj, Int32.toInt_inj]
theorem own_law (p0 p1 p2 p3 p4 wd ht cn rw_ c0 c1 c2 c3 rg px py np bs e0 e1 e2 e3 b2 e il h2 ex x1 x2 x3 x4 x5 x6 : Int32)
    (hwd_ : ((1 : Int32) + (p0 &&& (7 : Int32))) = wd) (hht_ : ((1 : Int32) + (x1 &&& (7 : Int32))) = ht) (hcn_ : ((x2 &&& (7 : Int32)) % (5 : Int32)) = cn) (hrw_ : ((p1 &&& (2147483647 : Int32)) % ht) = rw_)
    (hc0_ : ((p2 &&& (7 : Int32)) % wd) = c0) (hc1_ : ((x3 &&& (7 : Int32)) % wd) = c1) (hc2_ : ((x4 &&& (7 : Int32)) % wd) = c2) (hc3_ : ((x5 &&& (7 : Int32)) % wd) = c3) (hpx_ : ((p4 &&& (7 : Int32)) % wd) = px) (hpy_ : ((x6 &&& (7 : Int32)) % ht) = py)
    (hnp_ : (wd * ht) = np) (hbs_ : (rw_ * wd) = bs) (he0_ : (bs + c0) = e0) (he1_ : (bs + c1) = e1) (he2_ : (bs + c2) = e2) (he3_ : (bs + c3) = e3) (hb2_ : (py * wd) = b2) (he_ : (b2 + px) = e)
    (hil_ : il = 1 ↔ (((0 : Int32) < cn ∧ px = c0) ∨ ((1 : Int32) < cn ∧ px = c1) ∨ ((2 : Int32) < cn ∧ px = c2) ∨ ((3 : Int32) < cn ∧ px = c3))) (hil2_ : il = 0 ∨ il = 1)
    (hht2_ : (if py = rw_ then (if il = (0 : Int32) then (0 : Int32) else (1 : Int32)) else (0 : Int32)) = h2) (hex_ : (if h2 = (0 : Int32) then (-16777216 : Int32) else ((-16777216 : Int32) ||| rg)) = ex) :
    ht ≠ (0 : Int32) ∧ wd ≠ (0 : Int32) ∧ ¬ np < 0 ∧ np.toNatClampNeg ≤ 64 ∧ own_valid wd ht = 1 ∧ (cn = 0 ∨ cn = 1 ∨ cn = 2 ∨ cn = 3 ∨ cn = 4) ∧ (¬ e0 < 0 ∧ e0 < np) ∧ (¬ e1 < 0 ∧ e1 < np) ∧ (¬ e2 < 0 ∧ e2 < np) ∧ (¬ e3 < 0 ∧ e3 < np) ∧ (¬ (px < (0 : Int32)) ∧ px < wd) ∧ (¬ (py < (0 : Int32)) ∧ py < ht) ∧ (¬ e < 0 ∧ e < np) ∧ ((-16777216 : Int32) ||| own_px cn e0 e1 e2 e3 rg e.toNatClampNeg) = ex := by
  have z0 : (0 : Int32).toInt = 0 := rfl
  have z1 : (1 : Int32).toInt = 1 := rfl
  have W := own_dim _ _ hwd_
  have H := own_dim _ _ hht_
  have R := own_mod _ _ _ (own_mx p1) H.1 hrw_
  have C0 := own_mod _ _ _ (own_m7 p2) W.1 hc0_
  have C1 := own_mod _ _ _ (own_m7 x3) W.1 hc1_
  have C2 := own_mod _ _ _ (own_m7 x4) W.1 hc2_
  have C3 := own_mod _ _ _ (own_m7 x5) W.1 hc3_
  have PX := own_mod _ _ _ (own_m7 p4) W.1 hpx_
  have PY := own_mod _ _ _ (own_m7 x6) H.1 hpy_
  have P := own_prod W H
  have NP : np.toInt = wd.toInt * ht.toInt := by rw [← hnp_]; exact own_mul (b := 0) (by omega) (by omega)
  have A0 := own_at W H R C0 NP hbs_ he0_
  have A1 := own_at W H R C1 NP hbs_ he1_
  have A2 := own_at W H R C2 NP hbs_ he2_
  have A3 := own_at W H R C3 NP hbs_ he3_
  have A := own_at W H PY PX NP hb2_ he_
  refine ⟨fun q => by rw [q, z0] at H; omega, fun q => by rw [q, z0] at W; omega, by rw [Int32.lt_iff_toInt_lt, z0]; omega, by simp only [Int32.toNatClampNeg]; omega, ?_, own_cn _ _ hcn_, A0.2, A1.2, A2.2, A3.2, ⟨by rw [Int32.lt_iff_toInt_lt, z0]; omega, by rw [Int32.lt_iff_toInt_lt]; omega⟩, ⟨by rw [Int32.lt_iff_toInt_lt, z0]; omega, by rw [Int32.lt_iff_toInt_lt]; omega⟩, A.2, ?_⟩
  · unfold own_valid
    rw [if_neg (by rw [Int32.lt_iff_toInt_lt, z1]; omega), if_neg (by rw [Int32.lt_iff_toInt_lt, z1]; omega), if_neg]
    rw [lw_gt, Int64.lt_iff_toInt_lt]
    have q := c_lmul wd.toInt64 ht.toInt64
    rw [c_i2l, c_i2l] at q
    have r := rng64 (wd.toInt64 * ht.toInt64)
    have z : (268435456 : Int64).toInt = 268435456 := rfl
    rw [z]; omega
  · have hit : own_hit cn e0 e1 e2 e3 e.toNatClampNeg ↔ (py = rw_ ∧ il = 1) := by
      unfold own_hit
      rw [own_same PX C0 A.1 A0.1 A.2.1 A0.2.1, own_same PX C1 A.1 A1.1 A.2.1 A1.2.1, own_same PX C2 A.1 A2.1 A.2.1 A2.2.1, own_same PX C3 A.1 A3.1 A.2.1 A3.2.1, hil_]
      constructor
      · rintro (⟨a, b, c⟩ | ⟨a, b, c⟩ | ⟨a, b, c⟩ | ⟨a, b, c⟩)
        · exact ⟨b, Or.inl ⟨a, c⟩⟩
        · exact ⟨b, Or.inr (Or.inl ⟨a, c⟩)⟩
        · exact ⟨b, Or.inr (Or.inr (Or.inl ⟨a, c⟩))⟩
        · exact ⟨b, Or.inr (Or.inr (Or.inr ⟨a, c⟩))⟩
      · rintro ⟨b, (⟨a, c⟩ | ⟨a, c⟩ | ⟨a, c⟩ | ⟨a, c⟩)⟩
        · exact Or.inl ⟨a, b, c⟩
        · exact Or.inr (Or.inl ⟨a, b, c⟩)
        · exact Or.inr (Or.inr (Or.inl ⟨a, b, c⟩))
        · exact Or.inr (Or.inr (Or.inr ⟨a, b, c⟩))
    unfold own_px
    rw [← hex_, ← hht2_]
    by_cases hp : py = rw_
    · rcases hil2_ with h | h
      · rw [if_neg (fun q => by have := (hit.mp q).2; rw [h] at this; exact absurd this (by decide)), if_pos hp, if_pos h, if_pos rfl]; decide
      · rw [if_pos (hit.mpr ⟨hp, h⟩), if_pos hp, if_neg (by rw [h]; decide)]
    · rw [if_neg (fun q => hp (hit.mp q).1), if_neg hp, if_pos rfl]; decide

theorem d3_0 : decode prog_69_method_2_code 0 = .ok (.iload_n 0, 1) := by decide +kernel
theorem d3_1 : decode prog_69_method_2_code 1 = .ok (.iconst 1, 1) := by decide +kernel
theorem d3_2 : decode prog_69_method_2_code 2 = .ok (.if_icmp .lt 24, 3) := by decide +kernel
theorem d3_26 : decode prog_69_method_2_code 26 = .ok (.iconst 0, 1) := by decide +kernel
theorem d3_5 : decode prog_69_method_2_code 5 = .ok (.iload_n 1, 1) := by decide +kernel
theorem d3_6 : decode prog_69_method_2_code 6 = .ok (.iconst 1, 1) := by decide +kernel
theorem d3_7 : decode prog_69_method_2_code 7 = .ok (.if_icmp .lt 19, 3) := by decide +kernel
theorem d3_10 : decode prog_69_method_2_code 10 = .ok (.iload_n 0, 1) := by decide +kernel
theorem d3_11 : decode prog_69_method_2_code 11 = .ok (.i2l, 1) := by decide +kernel
theorem d3_12 : decode prog_69_method_2_code 12 = .ok (.iload_n 1, 1) := by decide +kernel
theorem d3_13 : decode prog_69_method_2_code 13 = .ok (.i2l, 1) := by decide +kernel
theorem d3_14 : decode prog_69_method_2_code 14 = .ok (.lmul, 1) := by decide +kernel
theorem d3_15 : decode prog_69_method_2_code 15 = .ok (.ldc2_w 33, 3) := by decide +kernel
theorem d3_18 : decode prog_69_method_2_code 18 = .ok (.lcmp, 1) := by decide +kernel
theorem d3_19 : decode prog_69_method_2_code 19 = .ok (.ifCond .gt 7, 3) := by decide +kernel
theorem d3_22 : decode prog_69_method_2_code 22 = .ok (.iconst 1, 1) := by decide +kernel
theorem d3_23 : decode prog_69_method_2_code 23 = .ok (.goto 4, 3) := by decide +kernel
theorem d3_27 : decode prog_69_method_2_code 27 = .ok (.ireturn, 1) := by decide +kernel
def Q3 (Z : State) (r : Int32) (h0 : Heap) (n0 : Nat) (v : Option Value) (h : Heap) (L : List Loc) : Prop := v = some (.int r) ∧ Fr n0 L ∧ h = h0
theorem pn_3 : plainName "featherpane/Surface" = true := by first | (simp [plainName, overriddenIn]; done) | decide +kernel
theorem ef_3 (m : MethodId) (x0 : Int32) (x1 : Int32) : entryFrame m #[(.int x0), (.int x1)] 2 = mkF m 0 #[.val (.int x0), .val (.int x1)] [] := by first | (simp [entryFrame, mkF, argsToLocals, Value.category]; done) | rfl
set_option maxRecDepth 65536 in
set_option maxHeartbeats 40000000 in
theorem rm3 (l : Launch) (Z : State) (a0 : Array Value) (hw : ∀ d ∈ tables_1, d.before a0 Z = true) (ws : List Jvm.Cond) (p0 : Int32) (p1 : Int32) (r : Int32) (h0 : Heap) (n0 : Nat) (Z0 : n0 ≤ h0.size) (hn_ : nar .boolean r = r) (hr_ : (if p0 < (1 : Int32) then (0 : Int32) else (if p1 < (1 : Int32) then (0 : Int32) else (if (0 : Int32) < (lcmpW ((p0.toInt64) * (p1.toInt64)) (268435456 : Int64)) then (0 : Int32) else (1 : Int32)))) = r) :
    MetFree l (⟨"featherpane/Surface", "isValidSize", "(II)Z"⟩ : MethodName) (head1 (Jvm.Cond.code (⟨"featherpane/Surface", "isValidSize", "(II)Z"⟩ : MethodName) prog_69_method_2_code 2 (some .boolean) :: ws) ({ frames := 0, cells := 0, slots := 0, locals := 0 } : Room)) (fun as_ U => as_ = #[(.int p0), (.int p1)] ∧ Z.Warmed39 U.vm ∧ U.heap = h0) (fun _ _ _ _ _ => True) (fun _ U o U' => ∃ v L, o = .returned v ∧ Q3 Z r h0 n0 v U'.heap L ∧ FrameEnd U o U' L ({ frames := 0, cells := 0, slots := 0, locals := 0 } : Room).cells ({ frames := 0, cells := 0, slots := 0, locals := 0 } : Room).slots) := by
  refine MetFree.of_bodySF (plainFor_of_name pn_3) hisR ?_
  intro p e s m args below meth c s₁ Bd hml0 hP hK
  obtain ⟨rfl, hZ, hh⟩ := hP
  have hx := Bd.exec
  have hby := Bd.bytes
  have hml : c.maxLocals = 2 := hml0
  have hown : s.vm.findClass "featherpane/Surface" = some m.cls := findClass_of_methodNamed Bd.named
  have hnm := (name_of_methodNamed Bd.named Bd.method).1
  have X0 : Stand p l e ({ frames := 0, cells := 0, slots := 0, locals := 0 } : Room) s m #[(.int p0), (.int p1)] below meth c s₁ [] 0 0 := Stand.of_body Bd
  have e0 : s₁.heap = h0 := by rw [← hh, Bd.state]; rfl
  have N0 := Fr.nil n0
  have pre0 : ∀ t, Steps p.tables e below (s₁.setTop (mkF m 0 #[.val (.int p0), .val (.int p1)] [])) t → Steps p.tables e below (s₁.setTop (entryFrame m #[(.int p0), (.int p1)] 2)) t := fun t k => castTop (ef_3 m p0 p1) k
  obtain ⟨fs, hr, hrun, hended, hW, hsame⟩ := X0.leave (v := some (.int r)) (fun h => by rw [Bd.returns] at h; cases h)
  refine ⟨_, _, pre0 _ ?_, hrun, hended, _, _, rfl, ?_, ⟨_, rfl⟩, hW, hsame.mono (by decide) (by decide)⟩
  · have jn0 : ∀ target, Steps p.tables e below (s₁.setTop (mkF m 27 #[.val (.int p0), .val (.int p1)] [(.int r)])) target → Steps p.tables e below (s₁.setTop (mkF m 0 #[.val (.int p0), .val (.int p1)] [])) target := by
      intro target kt
      show Steps p.tables e below (s₁.setTop (mkF m 0 #[.val (.int p0), .val (.int p1)] [])) _
      refine XS.iloadN X0.here hx rfl (hb hby d3_0) rfl ?_
      show Steps p.tables e below (s₁.setTop (mkF m 1 #[.val (.int p0), .val (.int p1)] [(.int p0)])) _
      refine XS.iconst X0.here hx rfl (hb hby d3_1) ?_
      show Steps p.tables e below (s₁.setTop (mkF m 2 #[.val (.int p0), .val (.int p1)] [(.int (1 : Int32)), (.int p0)])) _
      by_cases hj2_0 : p0 < (1 : Int32)
      · refine XS.icmpYes X0.here hx rfl (pc0 := 2) (pc' := 26) rfl (hb hby d3_2) rfl (tlt hj2_0).1 (by decide) (by decide) ?_
        show Steps p.tables e below (s₁.setTop (mkF m 26 #[.val (.int p0), .val (.int p1)] [])) _
        refine XS.iconst X0.here hx rfl (hb hby d3_26) ?_
        rw [← hr_, if_pos hj2_0] at kt
        exact kt
      · refine XS.icmpNo X0.here hx rfl (hb hby d3_2) rfl (flt hj2_0).1 ?_
        show Steps p.tables e below (s₁.setTop (mkF m 5 #[.val (.int p0), .val (.int p1)] [])) _
        refine XS.iloadN X0.here hx rfl (hb hby d3_5) rfl ?_
        show Steps p.tables e below (s₁.setTop (mkF m 6 #[.val (.int p0), .val (.int p1)] [(.int p1)])) _
        refine XS.iconst X0.here hx rfl (hb hby d3_6) ?_
        show Steps p.tables e below (s₁.setTop (mkF m 7 #[.val (.int p0), .val (.int p1)] [(.int (1 : Int32)), (.int p1)])) _
        by_cases hj7_1 : p1 < (1 : Int32)
        · refine XS.icmpYes X0.here hx rfl (pc0 := 7) (pc' := 26) rfl (hb hby d3_7) rfl (tlt hj7_1).1 (by decide) (by decide) ?_
          show Steps p.tables e below (s₁.setTop (mkF m 26 #[.val (.int p0), .val (.int p1)] [])) _
          refine XS.iconst X0.here hx rfl (hb hby d3_26) ?_
          rw [← hr_, if_neg hj2_0, if_pos hj7_1] at kt
          exact kt
        · refine XS.icmpNo X0.here hx rfl (hb hby d3_7) rfl (flt hj7_1).1 ?_
          show Steps p.tables e below (s₁.setTop (mkF m 10 #[.val (.int p0), .val (.int p1)] [])) _
          refine XS.iloadN X0.here hx rfl (hb hby d3_10) rfl ?_
          show Steps p.tables e below (s₁.setTop (mkF m 11 #[.val (.int p0), .val (.int p1)] [(.int p0)])) _
          refine XS.i2l X0.here hx rfl (hb hby d3_11) rfl ?_
          show Steps p.tables e below (s₁.setTop (mkF m 12 #[.val (.int p0), .val (.int p1)] [(.long (p0.toInt64))])) _
          refine XS.iloadN X0.here hx rfl (hb hby d3_12) rfl ?_
          show Steps p.tables e below (s₁.setTop (mkF m 13 #[.val (.int p0), .val (.int p1)] [(.int p1), (.long (p0.toInt64))])) _
          refine XS.i2l X0.here hx rfl (hb hby d3_13) rfl ?_
          show Steps p.tables e below (s₁.setTop (mkF m 14 #[.val (.int p0), .val (.int p1)] [(.long (p1.toInt64)), (.long (p0.toInt64))])) _
          refine XS.lmul X0.here hx rfl (hb hby d3_14) rfl ?_
          show Steps p.tables e below (s₁.setTop (mkF m 15 #[.val (.int p0), .val (.int p1)] [(.long ((p0.toInt64) * (p1.toInt64)))])) _
          refine X0.ldc2Long hx hown (mvT hZ (hw _ (List.mem_of_getElem? (i := 15) rfl))) (g := (mkF m 15 #[.val (.int p0), .val (.int p1)] [(.long ((p0.toInt64) * (p1.toInt64)))])) rfl (hb hby d3_15) _ ?_
          show Steps p.tables e below (s₁.setTop (mkF m 18 #[.val (.int p0), .val (.int p1)] [(.long (268435456 : Int64)), (.long ((p0.toInt64) * (p1.toInt64)))])) _
          refine XS.lcmp X0.here hx rfl (hb hby d3_18) rfl ?_
          show Steps p.tables e below (s₁.setTop (mkF m 19 #[.val (.int p0), .val (.int p1)] [(.int (lcmpW ((p0.toInt64) * (p1.toInt64)) (268435456 : Int64)))])) _
          by_cases hj19_2 : (0 : Int32) < (lcmpW ((p0.toInt64) * (p1.toInt64)) (268435456 : Int64))
          · refine XS.ifYes X0.here hx rfl (pc0 := 19) (pc' := 26) rfl (hb hby d3_19) rfl ((if0 _ _).trans (tlt hj19_2).2.2.1) (by decide) (by decide) ?_
            show Steps p.tables e below (s₁.setTop (mkF m 26 #[.val (.int p0), .val (.int p1)] [])) _
            refine XS.iconst X0.here hx rfl (hb hby d3_26) ?_
            rw [← hr_, if_neg hj2_0, if_neg hj7_1, if_pos hj19_2] at kt
            exact kt
          · refine XS.ifNo X0.here hx rfl (hb hby d3_19) rfl ((if0 _ _).trans (flt hj19_2).2.2.1) ?_
            show Steps p.tables e below (s₁.setTop (mkF m 22 #[.val (.int p0), .val (.int p1)] [])) _
            refine XS.iconst X0.here hx rfl (hb hby d3_22) ?_
            show Steps p.tables e below (s₁.setTop (mkF m 23 #[.val (.int p0), .val (.int p1)] [(.int (1 : Int32))])) _
            refine XS.goto X0.here hx rfl (pc0 := 23) (pc' := 27) rfl (hb hby d3_23) (by decide) (by decide) ?_
            rw [← hr_, if_neg hj2_0, if_neg hj7_1, if_neg hj19_2] at kt
            exact kt
    refine jn0 _ ?_
    show Steps p.tables e below (s₁.setTop (mkF m 27 #[.val (.int p0), .val (.int p1)] [(.int r)])) _
    exact retN X0 hx (t := .boolean) Bd.returns (by simp) (hb hby d3_27) (by rw [hn_]; exact hr)
  · show Q3 Z r h0 n0 _ s₁.heap _
    rw [e0]
    exact ⟨rfl, N0, rfl⟩
theorem d1_0 : decode prog_69_method_1_code 0 = .ok (.aload_n 0, 1) := by decide +kernel
theorem d1_1 : decode prog_69_method_1_code 1 = .ok (.invokespecial 1, 3) := by decide +kernel
theorem d1_4 : decode prog_69_method_1_code 4 = .ok (.iload_n 1, 1) := by decide +kernel
theorem d1_5 : decode prog_69_method_1_code 5 = .ok (.iload_n 2, 1) := by decide +kernel
theorem pd_0 : parseMethodDescriptor "(II)Z" = some ⟨[.int, .int], some .boolean⟩ := by decide +kernel
theorem d1_6 : decode prog_69_method_1_code 6 = .ok (.invokestatic 7, 3) := by decide +kernel
theorem d1_9 : decode prog_69_method_1_code 9 = .ok (.ifCond .ne 18, 3) := by decide +kernel
theorem d1_27 : decode prog_69_method_1_code 27 = .ok (.aload_n 0, 1) := by decide +kernel
theorem d1_28 : decode prog_69_method_1_code 28 = .ok (.iload_n 1, 1) := by decide +kernel
theorem d1_29 : decode prog_69_method_1_code 29 = .ok (.putfield 22, 3) := by decide +kernel
theorem d1_32 : decode prog_69_method_1_code 32 = .ok (.aload_n 0, 1) := by decide +kernel
theorem d1_33 : decode prog_69_method_1_code 33 = .ok (.iload_n 2, 1) := by decide +kernel
theorem d1_34 : decode prog_69_method_1_code 34 = .ok (.putfield 26, 3) := by decide +kernel
theorem d1_37 : decode prog_69_method_1_code 37 = .ok (.aload_n 0, 1) := by decide +kernel
theorem d1_38 : decode prog_69_method_1_code 38 = .ok (.iload_n 1, 1) := by decide +kernel
theorem d1_39 : decode prog_69_method_1_code 39 = .ok (.iload_n 2, 1) := by decide +kernel
theorem d1_40 : decode prog_69_method_1_code 40 = .ok (.imul, 1) := by decide +kernel
theorem d1_41 : decode prog_69_method_1_code 41 = .ok (.newarray .int, 2) := by decide +kernel
theorem d1_43 : decode prog_69_method_1_code 43 = .ok (.putfield 29, 3) := by decide +kernel
theorem d1_46 : decode prog_69_method_1_code 46 = .ok (.return_, 1) := by decide +kernel
def Q1 (Z : State) (a : Addr) (p1 : Int32) (p2 : Int32) (b : Addr) (np : Int32) (vr : Int32) (h0 : Heap) (n0 : Nat) (v : Option Value) (h : Heap) (L : List Loc) : Prop := v = none ∧ Fr n0 L ∧ Keep h0 h [a] ∧ Fld Z h a "featherpane/Surface" "width" "I" (.int p1) ∧ Fld Z h a "featherpane/Surface" "height" "I" (.int p2) ∧ Fld Z h a "featherpane/Surface" "pixels" "[I" (.ref b) ∧ ArrF Z h b .int np (fun _ => (Value.int (0 : Int32)))
theorem pn_1 : plainName "featherpane/Surface" = true := by first | (simp [plainName, overriddenIn]; done) | decide +kernel
theorem ef_1 (m : MethodId) (x0 : Addr) (x1 : Int32) (x2 : Int32) : entryFrame m #[(.ref x0), (.int x1), (.int x2)] 3 = mkF m 0 #[.val (.ref x0), .val (.int x1), .val (.int x2)] [] := by first | (simp [entryFrame, mkF, argsToLocals, Value.category]; done) | rfl
set_option maxRecDepth 65536 in
set_option maxHeartbeats 40000000 in
theorem rm1 (l : Launch) (Z : State) (a0 : Array Value) (hw : ∀ d ∈ tables_1, d.before a0 Z = true) (ws : List Jvm.Cond) (a : Addr) (p1 : Int32) (p2 : Int32) (b : Addr) (np : Int32) (vr : Int32) (h0 : Heap) (n0 : Nat) (Z0 : n0 ≤ h0.size) (hb_ : b = h0.size) (hn0_ : ¬ np < 0) (hn1_ : np.toNatClampNeg ≤ 64) (hvr_ : own_valid p1 p2 = vr) (hvn_ : nar .boolean vr = vr) (E_a : Exa Z h0 a "featherpane/Surface") (F_width : Fld Z h0 a "featherpane/Surface" "width" "I" (.int (0 : Int32))) (F_height : Fld Z h0 a "featherpane/Surface" "height" "I" (.int (0 : Int32))) (F_pixels : Fld Z h0 a "featherpane/Surface" "pixels" "[I" .null) (g_a : n0 ≤ a) (hc9 : ¬ (vr = (0 : Int32))) (hnp_ : (p1 * p2) = np) :
    MetFree l (⟨"featherpane/Surface", "<init>", "(II)V"⟩ : MethodName) (head1 (Jvm.Cond.code (⟨"featherpane/Surface", "<init>", "(II)V"⟩ : MethodName) prog_69_method_1_code 3 none :: ws) ({ frames := 1, cells := 1, slots := 64, locals := 13 } : Room)) (fun as_ U => as_ = #[(.ref a), (.int p1), (.int p2)] ∧ Z.Warmed39 U.vm ∧ U.heap = h0) (fun _ _ _ _ _ => True) (fun _ U o U' => ∃ v L, o = .returned v ∧ Q1 Z a p1 p2 b np vr h0 n0 v U'.heap L ∧ FrameEnd U o U' L ({ frames := 1, cells := 1, slots := 64, locals := 13 } : Room).cells ({ frames := 1, cells := 1, slots := 64, locals := 13 } : Room).slots) := by
  refine MetFree.of_bodySF (plainFor_of_name pn_1) hisR ?_
  intro p e s m args below meth c s₁ Bd hml0 hP hK
  obtain ⟨rfl, hZ, hh⟩ := hP
  have hx := Bd.exec
  have hby := Bd.bytes
  have hml : c.maxLocals = 3 := hml0
  have hown : s.vm.findClass "featherpane/Surface" = some m.cls := findClass_of_methodNamed Bd.named
  have hnm := (name_of_methodNamed Bd.named Bd.method).1
  have X0 : Stand p l e ({ frames := 1, cells := 1, slots := 64, locals := 13 } : Room) s m #[(.ref a), (.int p1), (.int p2)] below meth c s₁ [] 0 0 := Stand.of_body Bd
  have e0 : s₁.heap = h0 := by rw [← hh, Bd.state]; rfl
  have N0 := Fr.nil n0
  have pre0 : ∀ t, Steps p.tables e below (s₁.setTop (mkF m 0 #[.val (.ref a), .val (.int p1), .val (.int p2)] [])) t → Steps p.tables e below (s₁.setTop (entryFrame m #[(.ref a), (.int p1), (.int p2)] 3)) t := fun t k => castTop (ef_1 m a p1 p2) k
  obtain ⟨T_1, X_1, e_1, st_1⟩ := initO X0 hx hZ hown (hw _ (List.mem_of_getElem? (i := 9) rfl)) (hw _ (List.mem_of_getElem? (i := 10) rfl)) (hw _ (List.mem_of_getElem? (i := 11) rfl)) e0 (g := (mkF m 1 #[.val (.ref a), .val (.int p1), .val (.int p2)] [(.ref a)])) rfl (by rw [hml]; rfl) rfl (hb hby d1_1) (by decide) (W := 0) (by show 2 * 0 + _ ≤ _; exact Nat.le_of_eq rfl) (by decide)
  obtain ⟨_, _, ⟨T_2, L_2, k_2, n_2⟩, -, X_2, ⟨Lc_2, hQ_2, l_2, y_2, z_2⟩, st_2⟩ := Jvm.LawKit.callS X_1 hx (y := (⟨"featherpane/Surface", "isValidSize", "(II)Z"⟩ : MethodName)) hown (mvT hZ (hw _ (List.mem_of_getElem? (i := 12) rfl))) (mvT hZ (hw _ (List.mem_of_getElem? (i := 13) rfl))) (mvT hZ (hw _ (List.mem_of_getElem? (i := 5) rfl))) (mvT hZ (hw _ (List.mem_of_getElem? (i := 14) rfl))) (by decide) (backOf (W := 0) (rm3 l Z a0 hw [] p1 p2 vr h0 n0 Z0 hvn_ hvr_) hZ (hw _ (List.mem_of_getElem? (i := 14) rfl)) (hw _ (List.mem_of_getElem? (i := 5) rfl)) (by decide) (by decide)) (g := (mkF m 6 #[.val (.ref a), .val (.int p1), .val (.int p2)] [(.int p2), (.int p1)])) rfl (by rw [hml]; rfl) (argsL := [(.int p1), (.int p2)]) (rest := []) (lenOf pd_0 rfl) rfl (by show 2 * 0 + _ ≤ _; exact Nat.le_of_eq rfl) (hb hby d1_6) (fun _ _ => ⟨rfl, e_1, (by decide : 0 + 0 ≤ _), (by decide : 0 + 0 ≤ _)⟩)
  dsimp only [Pt.U, Pt.locs, Pt.cells, Pt.slots] at X_2 l_2 y_2 z_2 st_2 hQ_2
  subst l_2 y_2 z_2
  obtain ⟨rfl, Nq_2, eq_2⟩ := hQ_2
  have N_2 := Fr.app N0 Nq_2
  obtain ⟨T_3, h_3, X_3, e_3, W_3, st_3⟩ := putF X_2 hx hZ hown (host := "") (Or.inl (hw _ (List.mem_of_getElem? (i := 16) rfl))) Via.refl eq_2 F_width E_a (Or.inr ⟨(hw _ (List.mem_of_getElem? (i := 17) rfl)), rfl, hnm⟩) (hw _ (List.mem_of_getElem? (i := 4) rfl)) (ty := .int) (by decide) rfl rfl (g := (mkF m 29 #[.val (.ref a), .val (.int p1), .val (.int p2)] [(.int p1), (.ref a)])) rfl rfl (hb hby d1_29)
  have Fw_3 := F_width.same W_3
  have K_3 : Keep h0 h_3 [a] := (Keep.refl h0 [a]).wr W_3 (Or.inl (List.mem_of_getElem? (i := 0) rfl))
  have N_3 := Fr.snoc X_3 N_2 g_a
  have Z_4 : n0 ≤ h_3.size := Nat.le_trans Z0 (Keep.of_wr W_3).1
  have f_5_E_a := (E_a.wr W_3)
  have f_6_F_a_height := (F_height.other W_3 (Or.inr (slot_ne (Or.inr (hw _ (List.mem_of_getElem? (i := 19) rfl))) (Or.inr (hw _ (List.mem_of_getElem? (i := 17) rfl))) (by decide) (t := .int) (t' := .int) (by decide) (by decide))))
  obtain ⟨T_7, h_7, X_7, e_7, W_7, st_7⟩ := putF X_3 hx hZ hown (host := "") (Or.inl (hw _ (List.mem_of_getElem? (i := 18) rfl))) Via.refl e_3 f_6_F_a_height f_5_E_a (Or.inr ⟨(hw _ (List.mem_of_getElem? (i := 19) rfl)), rfl, hnm⟩) (hw _ (List.mem_of_getElem? (i := 4) rfl)) (ty := .int) (by decide) rfl rfl (g := (mkF m 34 #[.val (.ref a), .val (.int p1), .val (.int p2)] [(.int p2), (.ref a)])) rfl rfl (hb hby d1_34)
  have Fw_7 := f_6_F_a_height.same W_7
  have K_7 : Keep h0 h_7 [a] := K_3.wr W_7 (Or.inl (List.mem_of_getElem? (i := 0) rfl))
  have N_7 := Fr.snoc X_7 N_3 g_a
  have Z_8 : n0 ≤ h_7.size := Nat.le_trans Z_4 (Keep.of_wr W_7).1
  obtain ⟨T_9, h_9, k_9, X_9, e_9, E_9, A_9, st_9⟩ := newP X_7 hx hZ (hw _ (List.mem_of_getElem? (i := 1) rfl)) e_7 (g := (mkF m 41 #[.val (.ref a), .val (.int p1), .val (.int p2)] [(.int np), (.ref a)])) rfl (hb hby d1_41) rfl hn0_ (cap := 64) hn1_ (by decide) (by decide) (by decide)
  have g_9 : b = h_7.size := (by rw [W_7.size, W_3.size]; exact hb_)
  rw [← g_9] at A_9 st_9
  have f_10_E_a := (f_5_E_a.wr W_7)
  have ne_a_b : a ≠ b := Nat.ne_of_lt (Nat.lt_of_lt_of_le f_10_E_a.lt (Nat.le_of_eq g_9.symm))
  have g_b : n0 ≤ b := Nat.le_trans Z_8 (Nat.le_of_eq g_9.symm)
  have sz_b : h0.size ≤ b := Nat.le_trans K_7.1 (Nat.le_of_eq g_9.symm)
  have K_9 : Keep h0 h_9 [a] := K_7.ext E_9
  have V_9 : ArrF Z h_9 b .int np (fun _ => (Value.int (0 : Int32))) := ArrF.of_new A_9 hn0_
  have Z_11 : n0 ≤ h_9.size := Nat.le_trans Z_8 E_9.1
  have f_12_E_a := (f_10_E_a.ext E_9)
  have f_13_F_a_pixels := (((F_pixels.other W_3 (Or.inr (slot_ne (Or.inr (hw _ (List.mem_of_getElem? (i := 21) rfl))) (Or.inr (hw _ (List.mem_of_getElem? (i := 17) rfl))) (by decide) (t := (.array .int)) (t' := .int) (by decide) (by decide)))).other W_7 (Or.inr (slot_ne (Or.inr (hw _ (List.mem_of_getElem? (i := 21) rfl))) (Or.inr (hw _ (List.mem_of_getElem? (i := 19) rfl))) (by decide) (t := (.array .int)) (t' := .int) (by decide) (by decide)))).ext E_9)
  obtain ⟨T_14, h_14, X_14, e_14, W_14, st_14⟩ := putF X_9 hx hZ hown (host := "") (Or.inl (hw _ (List.mem_of_getElem? (i := 20) rfl))) Via.refl e_9 f_13_F_a_pixels f_12_E_a (Or.inr ⟨(hw _ (List.mem_of_getElem? (i := 21) rfl)), rfl, hnm⟩) (hw _ (List.mem_of_getElem? (i := 4) rfl)) (ty := (.array .int)) (by decide) rfl rfl (g := (mkF m 43 #[.val (.ref a), .val (.int p1), .val (.int p2)] [(.ref b), (.ref a)])) rfl rfl (hb hby d1_43)
  have Fw_14 := f_13_F_a_pixels.same W_14
  have K_14 : Keep h0 h_14 [a] := K_9.wr W_14 (Or.inl (List.mem_of_getElem? (i := 0) rfl))
  have N_14 := Fr.snoc X_14 N_7 g_a
  have Z_15 : n0 ≤ h_14.size := Nat.le_trans Z_11 (Keep.of_wr W_14).1
  have f_16_F_a_width := (((Fw_3.other W_7 (Or.inr (slot_ne (Or.inr (hw _ (List.mem_of_getElem? (i := 17) rfl))) (Or.inr (hw _ (List.mem_of_getElem? (i := 19) rfl))) (by decide) (t := .int) (t' := .int) (by decide) (by decide)))).ext E_9).other W_14 (Or.inr (slot_ne (Or.inr (hw _ (List.mem_of_getElem? (i := 17) rfl))) (Or.inr (hw _ (List.mem_of_getElem? (i := 21) rfl))) (by decide) (t := .int) (t' := (.array .int)) (by decide) (by decide))))
  have f_17_F_a_height := ((Fw_7.ext E_9).other W_14 (Or.inr (slot_ne (Or.inr (hw _ (List.mem_of_getElem? (i := 19) rfl))) (Or.inr (hw _ (List.mem_of_getElem? (i := 21) rfl))) (by decide) (t := .int) (t' := (.array .int)) (by decide) (by decide))))
  have f_18_V_b := (V_9.other W_14 (Ne.symm ne_a_b))
  obtain ⟨fs, hr, hrun, hended, hW, hsame⟩ := X_14.leave (v := none) (fun _ => rfl)
  refine ⟨_, _, pre0 _ ?_, hrun, hended, _, _, rfl, ?_, ⟨_, rfl⟩, hW, hsame.mono (by decide) (by decide)⟩
  · show Steps p.tables e below (s₁.setTop (mkF m 0 #[.val (.ref a), .val (.int p1), .val (.int p2)] [])) _
    refine XS.aloadN X0.here hx rfl (hb hby d1_0) rfl rfl ?_
    show Steps p.tables e below (s₁.setTop (mkF m 1 #[.val (.ref a), .val (.int p1), .val (.int p2)] [(.ref a)])) _
    refine st_1 _ ?_
    show Steps p.tables e below (T_1.setTop (mkF m 4 #[.val (.ref a), .val (.int p1), .val (.int p2)] [])) _
    refine XS.iloadN X_1.here hx rfl (hb hby d1_4) rfl ?_
    show Steps p.tables e below (T_1.setTop (mkF m 5 #[.val (.ref a), .val (.int p1), .val (.int p2)] [(.int p1)])) _
    refine XS.iloadN X_1.here hx rfl (hb hby d1_5) rfl ?_
    show Steps p.tables e below (T_1.setTop (mkF m 6 #[.val (.ref a), .val (.int p1), .val (.int p2)] [(.int p2), (.int p1)])) _
    refine st_2 _ ?_
    show Steps p.tables e below (T_2.setTop (mkF m 9 #[.val (.ref a), .val (.int p1), .val (.int p2)] [(.int vr)])) _
    refine XS.ifYes X_2.here hx rfl (pc0 := 9) (pc' := 27) rfl (hb hby d1_9) rfl ((if0 _ _).trans (feq hc9).2) (by decide) (by decide) ?_
    show Steps p.tables e below (T_2.setTop (mkF m 27 #[.val (.ref a), .val (.int p1), .val (.int p2)] [])) _
    refine XS.aloadN X_2.here hx rfl (hb hby d1_27) rfl rfl ?_
    show Steps p.tables e below (T_2.setTop (mkF m 28 #[.val (.ref a), .val (.int p1), .val (.int p2)] [(.ref a)])) _
    refine XS.iloadN X_2.here hx rfl (hb hby d1_28) rfl ?_
    show Steps p.tables e below (T_2.setTop (mkF m 29 #[.val (.ref a), .val (.int p1), .val (.int p2)] [(.int p1), (.ref a)])) _
    refine st_3 _ ?_
    show Steps p.tables e below (T_3.setTop (mkF m 32 #[.val (.ref a), .val (.int p1), .val (.int p2)] [])) _
    refine XS.aloadN X_3.here hx rfl (hb hby d1_32) rfl rfl ?_
    show Steps p.tables e below (T_3.setTop (mkF m 33 #[.val (.ref a), .val (.int p1), .val (.int p2)] [(.ref a)])) _
    refine XS.iloadN X_3.here hx rfl (hb hby d1_33) rfl ?_
    show Steps p.tables e below (T_3.setTop (mkF m 34 #[.val (.ref a), .val (.int p1), .val (.int p2)] [(.int p2), (.ref a)])) _
    refine st_7 _ ?_
    show Steps p.tables e below (T_7.setTop (mkF m 37 #[.val (.ref a), .val (.int p1), .val (.int p2)] [])) _
    refine XS.aloadN X_7.here hx rfl (hb hby d1_37) rfl rfl ?_
    show Steps p.tables e below (T_7.setTop (mkF m 38 #[.val (.ref a), .val (.int p1), .val (.int p2)] [(.ref a)])) _
    refine XS.iloadN X_7.here hx rfl (hb hby d1_38) rfl ?_
    show Steps p.tables e below (T_7.setTop (mkF m 39 #[.val (.ref a), .val (.int p1), .val (.int p2)] [(.int p1), (.ref a)])) _
    refine XS.iloadN X_7.here hx rfl (hb hby d1_39) rfl ?_
    show Steps p.tables e below (T_7.setTop (mkF m 40 #[.val (.ref a), .val (.int p1), .val (.int p2)] [(.int p2), (.int p1), (.ref a)])) _
    refine XS.imul X_7.here hx rfl (hb hby d1_40) rfl ?_
    show Steps p.tables e below (T_7.setTop (mkF m 41 #[.val (.ref a), .val (.int p1), .val (.int p2)] [(.int (p1 * p2)), (.ref a)])) _
    rw [hnp_]
    show Steps p.tables e below (T_7.setTop (mkF m 41 #[.val (.ref a), .val (.int p1), .val (.int p2)] [(.int np), (.ref a)])) _
    refine st_9 _ ?_
    show Steps p.tables e below (T_9.setTop (mkF m 43 #[.val (.ref a), .val (.int p1), .val (.int p2)] [(.ref b), (.ref a)])) _
    refine st_14 _ ?_
    show Steps p.tables e below (T_14.setTop (mkF m 46 #[.val (.ref a), .val (.int p1), .val (.int p2)] [])) _
    exact X_14.returnOut hx Bd.returns (hb hby d1_46) hr
  · show Q1 Z a p1 p2 b np vr h0 n0 _ T_14.heap _
    rw [e_14]
    exact ⟨rfl, N_14, K_14, f_16_F_a_width, f_17_F_a_height, Fw_14, f_18_V_b⟩
theorem d7_0 : decode jdk_41_method_11_code 0 = .ok (.iload_n 0, 1) := by decide +kernel
theorem d7_1 : decode jdk_41_method_11_code 1 = .ok (.ifCond .lt 8, 3) := by decide +kernel
theorem d7_4 : decode jdk_41_method_11_code 4 = .ok (.iload_n 0, 1) := by decide +kernel
theorem d7_5 : decode jdk_41_method_11_code 5 = .ok (.iload_n 1, 1) := by decide +kernel
theorem d7_6 : decode jdk_41_method_11_code 6 = .ok (.if_icmp .lt 10, 3) := by decide +kernel
theorem d7_16 : decode jdk_41_method_11_code 16 = .ok (.iload_n 0, 1) := by decide +kernel
theorem d7_17 : decode jdk_41_method_11_code 17 = .ok (.ireturn, 1) := by decide +kernel
def Q7 (Z : State) (p0 : Int32) (p1 : Int32) (h0 : Heap) (n0 : Nat) (v : Option Value) (h : Heap) (L : List Loc) : Prop := v = some (.int p0) ∧ Fr n0 L ∧ h = h0
theorem pn_7 : plainName "jdk/internal/util/Preconditions" = true := by first | (simp [plainName, overriddenIn]; done) | decide +kernel
theorem ef_7_xxn (m : MethodId) (x0 : Int32) (x1 : Int32) : entryFrame m #[(.int x0), (.int x1), .null] 3 = mkF m 0 #[.val (.int x0), .val (.int x1), .val .null] [] := by first | (simp [entryFrame, mkF, argsToLocals, Value.category]; done) | rfl
set_option maxRecDepth 65536 in
set_option maxHeartbeats 40000000 in
theorem rm7 (l : Launch) (Z : State) (a0 : Array Value) (hw : ∀ d ∈ tables_1, d.before a0 Z = true) (ws : List Jvm.Cond) (p0 : Int32) (p1 : Int32) (h0 : Heap) (n0 : Nat) (Z0 : n0 ≤ h0.size) (hc1 : ¬ (p0 < (0 : Int32))) (hc6 : p0 < p1) :
    MetFree l (⟨"jdk/internal/util/Preconditions", "checkIndex", "(IILjava/util/function/BiFunction;)I"⟩ : MethodName) (head1 (Jvm.Cond.code (⟨"jdk/internal/util/Preconditions", "checkIndex", "(IILjava/util/function/BiFunction;)I"⟩ : MethodName) jdk_41_method_11_code 3 (some .int) :: ws) ({ frames := 0, cells := 0, slots := 0, locals := 0 } : Room)) (fun as_ U => as_ = #[(.int p0), (.int p1), .null] ∧ Z.Warmed39 U.vm ∧ U.heap = h0) (fun _ _ _ _ _ => True) (fun _ U o U' => ∃ v L, o = .returned v ∧ Q7 Z p0 p1 h0 n0 v U'.heap L ∧ FrameEnd U o U' L ({ frames := 0, cells := 0, slots := 0, locals := 0 } : Room).cells ({ frames := 0, cells := 0, slots := 0, locals := 0 } : Room).slots) := by
  refine MetFree.of_bodySF (plainFor_of_name pn_7) hisR ?_
  intro p e s m args below meth c s₁ Bd hml0 hP hK
  obtain ⟨rfl, hZ, hh⟩ := hP
  have hx := Bd.exec
  have hby := Bd.bytes
  have hml : c.maxLocals = 3 := hml0
  have hown : s.vm.findClass "jdk/internal/util/Preconditions" = some m.cls := findClass_of_methodNamed Bd.named
  have hnm := (name_of_methodNamed Bd.named Bd.method).1
  have X0 : Stand p l e ({ frames := 0, cells := 0, slots := 0, locals := 0 } : Room) s m #[(.int p0), (.int p1), .null] below meth c s₁ [] 0 0 := Stand.of_body Bd
  have e0 : s₁.heap = h0 := by rw [← hh, Bd.state]; rfl
  have N0 := Fr.nil n0
  have pre0 : ∀ t, Steps p.tables e below (s₁.setTop (mkF m 0 #[.val (.int p0), .val (.int p1), .val .null] [])) t → Steps p.tables e below (s₁.setTop (entryFrame m #[(.int p0), (.int p1), .null] 3)) t := fun t k => castTop (ef_7_xxn m p0 p1) k
  obtain ⟨fs, hr, hrun, hended, hW, hsame⟩ := X0.leave (v := some (.int p0)) (fun h => by rw [Bd.returns] at h; cases h)
  refine ⟨_, _, pre0 _ ?_, hrun, hended, _, _, rfl, ?_, ⟨_, rfl⟩, hW, hsame.mono (by decide) (by decide)⟩
  · show Steps p.tables e below (s₁.setTop (mkF m 0 #[.val (.int p0), .val (.int p1), .val .null] [])) _
    refine XS.iloadN X0.here hx rfl (hb hby d7_0) rfl ?_
    show Steps p.tables e below (s₁.setTop (mkF m 1 #[.val (.int p0), .val (.int p1), .val .null] [(.int p0)])) _
    refine XS.ifNo X0.here hx rfl (hb hby d7_1) rfl ((if0 _ _).trans (flt hc1).1) ?_
    show Steps p.tables e below (s₁.setTop (mkF m 4 #[.val (.int p0), .val (.int p1), .val .null] [])) _
    refine XS.iloadN X0.here hx rfl (hb hby d7_4) rfl ?_
    show Steps p.tables e below (s₁.setTop (mkF m 5 #[.val (.int p0), .val (.int p1), .val .null] [(.int p0)])) _
    refine XS.iloadN X0.here hx rfl (hb hby d7_5) rfl ?_
    show Steps p.tables e below (s₁.setTop (mkF m 6 #[.val (.int p0), .val (.int p1), .val .null] [(.int p1), (.int p0)])) _
    refine XS.icmpYes X0.here hx rfl (pc0 := 6) (pc' := 16) rfl (hb hby d7_6) rfl (tlt hc6).1 (by decide) (by decide) ?_
    show Steps p.tables e below (s₁.setTop (mkF m 16 #[.val (.int p0), .val (.int p1), .val .null] [])) _
    refine XS.iloadN X0.here hx rfl (hb hby d7_16) rfl ?_
    show Steps p.tables e below (s₁.setTop (mkF m 17 #[.val (.int p0), .val (.int p1), .val .null] [(.int p0)])) _
    exact retI X0 hx Bd.returns (hb hby d7_17) hr
  · show Q7 Z p0 p1 h0 n0 _ s₁.heap _
    rw [e0]
    exact ⟨rfl, N0, rfl⟩
theorem d6_0 : decode jdk_31_method_17_code 0 = .ok (.iload_n 0, 1) := by decide +kernel
theorem d6_1 : decode jdk_31_method_17_code 1 = .ok (.iload_n 1, 1) := by decide +kernel
theorem d6_2 : decode jdk_31_method_17_code 2 = .ok (.aconst_null, 1) := by decide +kernel
theorem pd_1 : parseMethodDescriptor "(IILjava/util/function/BiFunction;)I" = some ⟨[.int, .int, (.object "java/util/function/BiFunction")], some .int⟩ := by decide +kernel
theorem d6_3 : decode jdk_31_method_17_code 3 = .ok (.invokestatic 105, 3) := by decide +kernel
theorem d6_6 : decode jdk_31_method_17_code 6 = .ok (.ireturn, 1) := by decide +kernel
def Q6 (Z : State) (p0 : Int32) (p1 : Int32) (h0 : Heap) (n0 : Nat) (v : Option Value) (h : Heap) (L : List Loc) : Prop := v = some (.int p0) ∧ Fr n0 L ∧ h = h0
theorem pn_6 : plainName "java/util/Objects" = true := by first | (simp [plainName, overriddenIn]; done) | decide +kernel
theorem ef_6 (m : MethodId) (x0 : Int32) (x1 : Int32) : entryFrame m #[(.int x0), (.int x1)] 2 = mkF m 0 #[.val (.int x0), .val (.int x1)] [] := by first | (simp [entryFrame, mkF, argsToLocals, Value.category]; done) | rfl
set_option maxRecDepth 65536 in
set_option maxHeartbeats 40000000 in
theorem rm6 (l : Launch) (Z : State) (a0 : Array Value) (hw : ∀ d ∈ tables_1, d.before a0 Z = true) (ws : List Jvm.Cond) (p0 : Int32) (p1 : Int32) (h0 : Heap) (n0 : Nat) (Z0 : n0 ≤ h0.size) (hc1 : ¬ (p0 < (0 : Int32))) (hc6 : p0 < p1) :
    MetFree l (⟨"java/util/Objects", "checkIndex", "(II)I"⟩ : MethodName) (head1 (Jvm.Cond.code (⟨"java/util/Objects", "checkIndex", "(II)I"⟩ : MethodName) jdk_31_method_17_code 2 (some .int) :: ws) ({ frames := 1, cells := 0, slots := 0, locals := 14 } : Room)) (fun as_ U => as_ = #[(.int p0), (.int p1)] ∧ Z.Warmed39 U.vm ∧ U.heap = h0) (fun _ _ _ _ _ => True) (fun _ U o U' => ∃ v L, o = .returned v ∧ Q6 Z p0 p1 h0 n0 v U'.heap L ∧ FrameEnd U o U' L ({ frames := 1, cells := 0, slots := 0, locals := 14 } : Room).cells ({ frames := 1, cells := 0, slots := 0, locals := 14 } : Room).slots) := by
  refine MetFree.of_bodySF (plainFor_of_name pn_6) hisR ?_
  intro p e s m args below meth c s₁ Bd hml0 hP hK
  obtain ⟨rfl, hZ, hh⟩ := hP
  have hx := Bd.exec
  have hby := Bd.bytes
  have hml : c.maxLocals = 2 := hml0
  have hown : s.vm.findClass "java/util/Objects" = some m.cls := findClass_of_methodNamed Bd.named
  have hnm := (name_of_methodNamed Bd.named Bd.method).1
  have X0 : Stand p l e ({ frames := 1, cells := 0, slots := 0, locals := 14 } : Room) s m #[(.int p0), (.int p1)] below meth c s₁ [] 0 0 := Stand.of_body Bd
  have e0 : s₁.heap = h0 := by rw [← hh, Bd.state]; rfl
  have N0 := Fr.nil n0
  have pre0 : ∀ t, Steps p.tables e below (s₁.setTop (mkF m 0 #[.val (.int p0), .val (.int p1)] [])) t → Steps p.tables e below (s₁.setTop (entryFrame m #[(.int p0), (.int p1)] 2)) t := fun t k => castTop (ef_6 m p0 p1) k
  obtain ⟨_, _, ⟨T_1, L_1, k_1, n_1⟩, -, X_1, ⟨Lc_1, hQ_1, l_1, y_1, z_1⟩, st_1⟩ := Jvm.LawKit.callS X0 hx (y := (⟨"jdk/internal/util/Preconditions", "checkIndex", "(IILjava/util/function/BiFunction;)I"⟩ : MethodName)) hown (mvT hZ (hw _ (List.mem_of_getElem? (i := 37) rfl))) (mvT hZ (hw _ (List.mem_of_getElem? (i := 38) rfl))) (mvT hZ (hw _ (List.mem_of_getElem? (i := 39) rfl))) (mvT hZ (hw _ (List.mem_of_getElem? (i := 40) rfl))) (by decide) (backOf (W := 0) (rm7 l Z a0 hw [] p0 p1 h0 n0 Z0 hc1 hc6) hZ (hw _ (List.mem_of_getElem? (i := 40) rfl)) (hw _ (List.mem_of_getElem? (i := 39) rfl)) (by decide) (by decide)) (g := (mkF m 3 #[.val (.int p0), .val (.int p1)] [.null, (.int p1), (.int p0)])) rfl (by rw [hml]; rfl) (argsL := [(.int p0), (.int p1), .null]) (rest := []) (lenOf pd_1 rfl) rfl (by show 2 * 0 + _ ≤ _; exact Nat.le_of_eq rfl) (hb hby d6_3) (fun _ _ => ⟨rfl, e0, (by decide : 0 + 0 ≤ _), (by decide : 0 + 0 ≤ _)⟩)
  dsimp only [Pt.U, Pt.locs, Pt.cells, Pt.slots] at X_1 l_1 y_1 z_1 st_1 hQ_1
  subst l_1 y_1 z_1
  obtain ⟨rfl, Nq_1, eq_1⟩ := hQ_1
  have N_1 := Fr.app N0 Nq_1
  obtain ⟨fs, hr, hrun, hended, hW, hsame⟩ := X_1.leave (v := some (.int p0)) (fun h => by rw [Bd.returns] at h; cases h)
  refine ⟨_, _, pre0 _ ?_, hrun, hended, _, _, rfl, ?_, ⟨_, rfl⟩, hW, hsame.mono (by decide) (by decide)⟩
  · show Steps p.tables e below (s₁.setTop (mkF m 0 #[.val (.int p0), .val (.int p1)] [])) _
    refine XS.iloadN X0.here hx rfl (hb hby d6_0) rfl ?_
    show Steps p.tables e below (s₁.setTop (mkF m 1 #[.val (.int p0), .val (.int p1)] [(.int p0)])) _
    refine XS.iloadN X0.here hx rfl (hb hby d6_1) rfl ?_
    show Steps p.tables e below (s₁.setTop (mkF m 2 #[.val (.int p0), .val (.int p1)] [(.int p1), (.int p0)])) _
    refine XS.aconstNull X0.here hx rfl (hb hby d6_2) ?_
    show Steps p.tables e below (s₁.setTop (mkF m 3 #[.val (.int p0), .val (.int p1)] [.null, (.int p1), (.int p0)])) _
    refine st_1 _ ?_
    show Steps p.tables e below (T_1.setTop (mkF m 6 #[.val (.int p0), .val (.int p1)] [(.int p0)])) _
    exact retI X_1 hx Bd.returns (hb hby d6_6) hr
  · show Q6 Z p0 p1 h0 n0 _ T_1.heap _
    rw [eq_1]
    exact ⟨rfl, N_1, rfl⟩
theorem d5_0 : decode prog_69_method_5_code 0 = .ok (.iload_n 1, 1) := by decide +kernel
theorem d5_1 : decode prog_69_method_5_code 1 = .ok (.aload_n 0, 1) := by decide +kernel
theorem d5_2 : decode prog_69_method_5_code 2 = .ok (.getfield 22, 3) := by decide +kernel
theorem pd_2 : parseMethodDescriptor "(II)I" = some ⟨[.int, .int], some .int⟩ := by decide +kernel
theorem d5_5 : decode prog_69_method_5_code 5 = .ok (.invokestatic 35, 3) := by decide +kernel
theorem d5_8 : decode prog_69_method_5_code 8 = .ok (.pop, 1) := by decide +kernel
theorem d5_9 : decode prog_69_method_5_code 9 = .ok (.iload_n 2, 1) := by decide +kernel
theorem d5_10 : decode prog_69_method_5_code 10 = .ok (.aload_n 0, 1) := by decide +kernel
theorem d5_11 : decode prog_69_method_5_code 11 = .ok (.getfield 26, 3) := by decide +kernel
theorem d5_14 : decode prog_69_method_5_code 14 = .ok (.invokestatic 35, 3) := by decide +kernel
theorem d5_17 : decode prog_69_method_5_code 17 = .ok (.pop, 1) := by decide +kernel
theorem d5_18 : decode prog_69_method_5_code 18 = .ok (.ldc 41, 2) := by decide +kernel
theorem d5_20 : decode prog_69_method_5_code 20 = .ok (.aload_n 0, 1) := by decide +kernel
theorem d5_21 : decode prog_69_method_5_code 21 = .ok (.getfield 29, 3) := by decide +kernel
theorem d5_24 : decode prog_69_method_5_code 24 = .ok (.iload_n 2, 1) := by decide +kernel
theorem d5_25 : decode prog_69_method_5_code 25 = .ok (.aload_n 0, 1) := by decide +kernel
theorem d5_26 : decode prog_69_method_5_code 26 = .ok (.getfield 22, 3) := by decide +kernel
theorem d5_29 : decode prog_69_method_5_code 29 = .ok (.imul, 1) := by decide +kernel
theorem d5_30 : decode prog_69_method_5_code 30 = .ok (.iload_n 1, 1) := by decide +kernel
theorem d5_31 : decode prog_69_method_5_code 31 = .ok (.iadd, 1) := by decide +kernel
theorem d5_32 : decode prog_69_method_5_code 32 = .ok (.iaload, 1) := by decide +kernel
theorem d5_33 : decode prog_69_method_5_code 33 = .ok (.ior, 1) := by decide +kernel
theorem d5_34 : decode prog_69_method_5_code 34 = .ok (.ireturn, 1) := by decide +kernel
def Q5 (Z : State) (x : Int32) (h0 : Heap) (n0 : Nat) (v : Option Value) (h : Heap) (L : List Loc) : Prop := v = some (.int ((-16777216 : Int32) ||| x)) ∧ Fr n0 L ∧ h = h0
theorem pn_5 : plainName "featherpane/Surface" = true := by first | (simp [plainName, overriddenIn]; done) | decide +kernel
theorem ef_5 (m : MethodId) (x0 : Addr) (x1 : Int32) (x2 : Int32) : entryFrame m #[(.ref x0), (.int x1), (.int x2)] 3 = mkF m 0 #[.val (.ref x0), .val (.int x1), .val (.int x2)] [] := by first | (simp [entryFrame, mkF, argsToLocals, Value.category]; done) | rfl
set_option maxRecDepth 65536 in
set_option maxHeartbeats 40000000 in
theorem rm5 (l : Launch) (Z : State) (a0 : Array Value) (hw : ∀ d ∈ tables_1, d.before a0 Z = true) (ws : List Jvm.Cond) (a : Addr) (p1 : Int32) (p2 : Int32) (wi : Int32) (he : Int32) (b : Addr) (np : Int32) (f : Nat → Value) (ee : Int32) (x : Int32) (h0 : Heap) (n0 : Nat) (Z0 : n0 ≤ h0.size) (F_w : Fld Z h0 a "featherpane/Surface" "width" "I" (.int wi)) (F_h : Fld Z h0 a "featherpane/Surface" "height" "I" (.int he)) (F_p : Fld Z h0 a "featherpane/Surface" "pixels" "[I" (.ref b)) (V_b : ArrF Z h0 b .int np f) (hx0 : ¬ (p1 < (0 : Int32))) (hx1 : p1 < wi) (hy0 : ¬ (p2 < (0 : Int32))) (hy1 : p2 < he) (hj0 : ¬ ee < 0) (hj1 : ee < np) (hfx : f ee.toNatClampNeg = .int x) (he_ : ((p2 * wi) + p1) = ee) :
    MetFree l (⟨"featherpane/Surface", "getRGB", "(II)I"⟩ : MethodName) (head1 (Jvm.Cond.code (⟨"featherpane/Surface", "getRGB", "(II)I"⟩ : MethodName) prog_69_method_5_code 3 (some .int) :: ws) ({ frames := 2, cells := 0, slots := 0, locals := 27 } : Room)) (fun as_ U => as_ = #[(.ref a), (.int p1), (.int p2)] ∧ Z.Warmed39 U.vm ∧ U.heap = h0) (fun _ _ _ _ _ => True) (fun _ U o U' => ∃ v L, o = .returned v ∧ Q5 Z x h0 n0 v U'.heap L ∧ FrameEnd U o U' L ({ frames := 2, cells := 0, slots := 0, locals := 27 } : Room).cells ({ frames := 2, cells := 0, slots := 0, locals := 27 } : Room).slots) := by
  refine MetFree.of_bodySF (plainFor_of_name pn_5) hisR ?_
  intro p e s m args below meth c s₁ Bd hml0 hP hK
  obtain ⟨rfl, hZ, hh⟩ := hP
  have hx := Bd.exec
  have hby := Bd.bytes
  have hml : c.maxLocals = 3 := hml0
  have hown : s.vm.findClass "featherpane/Surface" = some m.cls := findClass_of_methodNamed Bd.named
  have hnm := (name_of_methodNamed Bd.named Bd.method).1
  have X0 : Stand p l e ({ frames := 2, cells := 0, slots := 0, locals := 27 } : Room) s m #[(.ref a), (.int p1), (.int p2)] below meth c s₁ [] 0 0 := Stand.of_body Bd
  have e0 : s₁.heap = h0 := by rw [← hh, Bd.state]; rfl
  have N0 := Fr.nil n0
  have pre0 : ∀ t, Steps p.tables e below (s₁.setTop (mkF m 0 #[.val (.ref a), .val (.int p1), .val (.int p2)] [])) t → Steps p.tables e below (s₁.setTop (entryFrame m #[(.ref a), (.int p1), (.int p2)] 3)) t := fun t k => castTop (ef_5 m a p1 p2) k
  obtain ⟨T_1, X_1, e_1, st_1⟩ := getF X0 hx hZ hown (host := "") (Or.inl (hw _ (List.mem_of_getElem? (i := 16) rfl))) Via.refl e0 F_w (g := (mkF m 2 #[.val (.ref a), .val (.int p1), .val (.int p2)] [(.ref a), (.int p1)])) rfl rfl (hb hby d5_2)
  obtain ⟨_, _, ⟨T_2, L_2, k_2, n_2⟩, -, X_2, ⟨Lc_2, hQ_2, l_2, y_2, z_2⟩, st_2⟩ := Jvm.LawKit.callS X_1 hx (y := (⟨"java/util/Objects", "checkIndex", "(II)I"⟩ : MethodName)) hown (mvT hZ (hw _ (List.mem_of_getElem? (i := 33) rfl))) (mvT hZ (hw _ (List.mem_of_getElem? (i := 34) rfl))) (mvT hZ (hw _ (List.mem_of_getElem? (i := 35) rfl))) (mvT hZ (hw _ (List.mem_of_getElem? (i := 36) rfl))) (by decide) (backOf (W := 0) (rm6 l Z a0 hw [] p1 wi h0 n0 Z0 hx0 hx1) hZ (hw _ (List.mem_of_getElem? (i := 36) rfl)) (hw _ (List.mem_of_getElem? (i := 35) rfl)) (by decide) (by decide)) (g := (mkF m 5 #[.val (.ref a), .val (.int p1), .val (.int p2)] [(.int wi), (.int p1)])) rfl (by rw [hml]; rfl) (argsL := [(.int p1), (.int wi)]) (rest := []) (lenOf pd_2 rfl) rfl (by show 2 * 0 + _ ≤ _; exact Nat.le_of_eq rfl) (hb hby d5_5) (fun _ _ => ⟨rfl, e_1, (by decide : 0 + 0 ≤ _), (by decide : 0 + 0 ≤ _)⟩)
  dsimp only [Pt.U, Pt.locs, Pt.cells, Pt.slots] at X_2 l_2 y_2 z_2 st_2 hQ_2
  subst l_2 y_2 z_2
  obtain ⟨rfl, Nq_2, eq_2⟩ := hQ_2
  have N_2 := Fr.app N0 Nq_2
  obtain ⟨T_3, X_3, e_3, st_3⟩ := getF X_2 hx hZ hown (host := "") (Or.inl (hw _ (List.mem_of_getElem? (i := 18) rfl))) Via.refl eq_2 F_h (g := (mkF m 11 #[.val (.ref a), .val (.int p1), .val (.int p2)] [(.ref a), (.int p2)])) rfl rfl (hb hby d5_11)
  obtain ⟨_, _, ⟨T_4, L_4, k_4, n_4⟩, -, X_4, ⟨Lc_4, hQ_4, l_4, y_4, z_4⟩, st_4⟩ := Jvm.LawKit.callS X_3 hx (y := (⟨"java/util/Objects", "checkIndex", "(II)I"⟩ : MethodName)) hown (mvT hZ (hw _ (List.mem_of_getElem? (i := 33) rfl))) (mvT hZ (hw _ (List.mem_of_getElem? (i := 34) rfl))) (mvT hZ (hw _ (List.mem_of_getElem? (i := 35) rfl))) (mvT hZ (hw _ (List.mem_of_getElem? (i := 36) rfl))) (by decide) (backOf (W := 0) (rm6 l Z a0 hw [] p2 he h0 n0 Z0 hy0 hy1) hZ (hw _ (List.mem_of_getElem? (i := 36) rfl)) (hw _ (List.mem_of_getElem? (i := 35) rfl)) (by decide) (by decide)) (g := (mkF m 14 #[.val (.ref a), .val (.int p1), .val (.int p2)] [(.int he), (.int p2)])) rfl (by rw [hml]; rfl) (argsL := [(.int p2), (.int he)]) (rest := []) (lenOf pd_2 rfl) rfl (by show 2 * 0 + _ ≤ _; exact Nat.le_of_eq rfl) (hb hby d5_14) (fun _ _ => ⟨rfl, e_3, (by decide : 0 + 0 ≤ _), (by decide : 0 + 0 ≤ _)⟩)
  dsimp only [Pt.U, Pt.locs, Pt.cells, Pt.slots] at X_4 l_4 y_4 z_4 st_4 hQ_4
  subst l_4 y_4 z_4
  obtain ⟨rfl, Nq_4, eq_4⟩ := hQ_4
  have N_4 := Fr.app N_2 Nq_4
  obtain ⟨T_5, X_5, e_5, st_5⟩ := getF X_4 hx hZ hown (host := "") (Or.inl (hw _ (List.mem_of_getElem? (i := 20) rfl))) Via.refl eq_4 F_p (g := (mkF m 21 #[.val (.ref a), .val (.int p1), .val (.int p2)] [(.ref a), (.int (-16777216 : Int32))])) rfl rfl (hb hby d5_21)
  obtain ⟨T_6, X_6, e_6, st_6⟩ := getF X_5 hx hZ hown (host := "") (Or.inl (hw _ (List.mem_of_getElem? (i := 16) rfl))) Via.refl e_5 F_w (g := (mkF m 26 #[.val (.ref a), .val (.int p1), .val (.int p2)] [(.ref a), (.int p2), (.ref b), (.int (-16777216 : Int32))])) rfl rfl (hb hby d5_26)
  obtain ⟨cl_7, Ar_7, Sz_7, Mz_7, Hz_7⟩ := id V_b
  obtain ⟨fs, hr, hrun, hended, hW, hsame⟩ := X_6.leave (v := some (.int ((-16777216 : Int32) ||| x))) (fun h => by rw [Bd.returns] at h; cases h)
  refine ⟨_, _, pre0 _ ?_, hrun, hended, _, _, rfl, ?_, ⟨_, rfl⟩, hW, hsame.mono (by decide) (by decide)⟩
  · show Steps p.tables e below (s₁.setTop (mkF m 0 #[.val (.ref a), .val (.int p1), .val (.int p2)] [])) _
    refine XS.iloadN X0.here hx rfl (hb hby d5_0) rfl ?_
    show Steps p.tables e below (s₁.setTop (mkF m 1 #[.val (.ref a), .val (.int p1), .val (.int p2)] [(.int p1)])) _
    refine XS.aloadN X0.here hx rfl (hb hby d5_1) rfl rfl ?_
    show Steps p.tables e below (s₁.setTop (mkF m 2 #[.val (.ref a), .val (.int p1), .val (.int p2)] [(.ref a), (.int p1)])) _
    refine st_1 _ ?_
    show Steps p.tables e below (T_1.setTop (mkF m 5 #[.val (.ref a), .val (.int p1), .val (.int p2)] [(.int wi), (.int p1)])) _
    refine st_2 _ ?_
    show Steps p.tables e below (T_2.setTop (mkF m 8 #[.val (.ref a), .val (.int p1), .val (.int p2)] [(.int p1)])) _
    refine XS.pop X_2.here hx rfl (hb hby d5_8) rfl rfl ?_
    show Steps p.tables e below (T_2.setTop (mkF m 9 #[.val (.ref a), .val (.int p1), .val (.int p2)] [])) _
    refine XS.iloadN X_2.here hx rfl (hb hby d5_9) rfl ?_
    show Steps p.tables e below (T_2.setTop (mkF m 10 #[.val (.ref a), .val (.int p1), .val (.int p2)] [(.int p2)])) _
    refine XS.aloadN X_2.here hx rfl (hb hby d5_10) rfl rfl ?_
    show Steps p.tables e below (T_2.setTop (mkF m 11 #[.val (.ref a), .val (.int p1), .val (.int p2)] [(.ref a), (.int p2)])) _
    refine st_3 _ ?_
    show Steps p.tables e below (T_3.setTop (mkF m 14 #[.val (.ref a), .val (.int p1), .val (.int p2)] [(.int he), (.int p2)])) _
    refine st_4 _ ?_
    show Steps p.tables e below (T_4.setTop (mkF m 17 #[.val (.ref a), .val (.int p1), .val (.int p2)] [(.int p2)])) _
    refine XS.pop X_4.here hx rfl (hb hby d5_17) rfl rfl ?_
    show Steps p.tables e below (T_4.setTop (mkF m 18 #[.val (.ref a), .val (.int p1), .val (.int p2)] [])) _
    refine X_4.ldcInt hx hown (mvT hZ (hw _ (List.mem_of_getElem? (i := 41) rfl))) (g := (mkF m 18 #[.val (.ref a), .val (.int p1), .val (.int p2)] [])) rfl (hb hby d5_18) _ ?_
    show Steps p.tables e below (T_4.setTop (mkF m 20 #[.val (.ref a), .val (.int p1), .val (.int p2)] [(.int (-16777216 : Int32))])) _
    refine XS.aloadN X_4.here hx rfl (hb hby d5_20) rfl rfl ?_
    show Steps p.tables e below (T_4.setTop (mkF m 21 #[.val (.ref a), .val (.int p1), .val (.int p2)] [(.ref a), (.int (-16777216 : Int32))])) _
    refine st_5 _ ?_
    show Steps p.tables e below (T_5.setTop (mkF m 24 #[.val (.ref a), .val (.int p1), .val (.int p2)] [(.ref b), (.int (-16777216 : Int32))])) _
    refine XS.iloadN X_5.here hx rfl (hb hby d5_24) rfl ?_
    show Steps p.tables e below (T_5.setTop (mkF m 25 #[.val (.ref a), .val (.int p1), .val (.int p2)] [(.int p2), (.ref b), (.int (-16777216 : Int32))])) _
    refine XS.aloadN X_5.here hx rfl (hb hby d5_25) rfl rfl ?_
    show Steps p.tables e below (T_5.setTop (mkF m 26 #[.val (.ref a), .val (.int p1), .val (.int p2)] [(.ref a), (.int p2), (.ref b), (.int (-16777216 : Int32))])) _
    refine st_6 _ ?_
    show Steps p.tables e below (T_6.setTop (mkF m 29 #[.val (.ref a), .val (.int p1), .val (.int p2)] [(.int wi), (.int p2), (.ref b), (.int (-16777216 : Int32))])) _
    refine XS.imul X_6.here hx rfl (hb hby d5_29) rfl ?_
    show Steps p.tables e below (T_6.setTop (mkF m 30 #[.val (.ref a), .val (.int p1), .val (.int p2)] [(.int (p2 * wi)), (.ref b), (.int (-16777216 : Int32))])) _
    refine XS.iloadN X_6.here hx rfl (hb hby d5_30) rfl ?_
    show Steps p.tables e below (T_6.setTop (mkF m 31 #[.val (.ref a), .val (.int p1), .val (.int p2)] [(.int p1), (.int (p2 * wi)), (.ref b), (.int (-16777216 : Int32))])) _
    refine XS.iadd X_6.here hx rfl (hb hby d5_31) rfl ?_
    show Steps p.tables e below (T_6.setTop (mkF m 32 #[.val (.ref a), .val (.int p1), .val (.int p2)] [(.int ((p2 * wi) + p1)), (.ref b), (.int (-16777216 : Int32))])) _
    rw [he_]
    show Steps p.tables e below (T_6.setTop (mkF m 32 #[.val (.ref a), .val (.int p1), .val (.int p2)] [(.int ee), (.ref b), (.int (-16777216 : Int32))])) _
    refine X_6.iaload hx (j := ee) (v := (.int x)) (by rw [e_6]; exact Ar_7.1) (State.isArrayOf_alike hZ.alike Ar_7.2.1) Ar_7.2.2 (inb_of Sz_7 ⟨hj0, hj1⟩) ((Hz_7 _ (own_idx hj0 hj1)).trans (congrArg some hfx)) (g := (mkF m 32 #[.val (.ref a), .val (.int p1), .val (.int p2)] [(.int ee), (.ref b), (.int (-16777216 : Int32))])) rfl rfl (hb hby d5_32) _ ?_
    show Steps p.tables e below (T_6.setTop (mkF m 33 #[.val (.ref a), .val (.int p1), .val (.int p2)] [(.int x), (.int (-16777216 : Int32))])) _
    refine XS.ior X_6.here hx rfl (hb hby d5_33) rfl ?_
    show Steps p.tables e below (T_6.setTop (mkF m 34 #[.val (.ref a), .val (.int p1), .val (.int p2)] [(.int ((-16777216 : Int32) ||| x))])) _
    exact retI X_6 hx Bd.returns (hb hby d5_34) hr
  · show Q5 Z x h0 n0 _ T_6.heap _
    rw [e_6]
    exact ⟨rfl, N_4, rfl⟩
theorem d4_0 : decode prog_69_method_9_code 0 = .ok (.iload_n 1, 1) := by decide +kernel
theorem d4_1 : decode prog_69_method_9_code 1 = .ok (.aload_n 0, 1) := by decide +kernel
theorem d4_2 : decode prog_69_method_9_code 2 = .ok (.getfield 22, 3) := by decide +kernel
theorem d4_5 : decode prog_69_method_9_code 5 = .ok (.imul, 1) := by decide +kernel
theorem d4_6 : decode prog_69_method_9_code 6 = .ok (.istore 5, 2) := by decide +kernel
theorem d4_8 : decode prog_69_method_9_code 8 = .ok (.iconst 0, 1) := by decide +kernel
theorem d4_9 : decode prog_69_method_9_code 9 = .ok (.istore 6, 2) := by decide +kernel
theorem d4_11 : decode prog_69_method_9_code 11 = .ok (.iload 6, 2) := by decide +kernel
theorem d4_13 : decode prog_69_method_9_code 13 = .ok (.iload_n 3, 1) := by decide +kernel
theorem d4_14 : decode prog_69_method_9_code 14 = .ok (.if_icmp .ge 23, 3) := by decide +kernel
theorem d4_37 : decode prog_69_method_9_code 37 = .ok (.return_, 1) := by decide +kernel
def Q4 (Z : State) (b : Addr) (np : Int32) (g : Nat → Value) (h0 : Heap) (n0 : Nat) (v : Option Value) (h : Heap) (L : List Loc) : Prop := v = none ∧ Fr n0 L ∧ Keep h0 h [b] ∧ ArrF Z h b .int np g
theorem pn_4 : plainName "featherpane/Surface" = true := by first | (simp [plainName, overriddenIn]; done) | decide +kernel
theorem ef_4 (m : MethodId) (x0 : Addr) (x1 : Int32) (x2 : Addr) (x3 : Int32) (x4 : Int32) : entryFrame m #[(.ref x0), (.int x1), (.ref x2), (.int x3), (.int x4)] 7 = mkF m 0 #[.val (.ref x0), .val (.int x1), .val (.ref x2), .val (.int x3), .val (.int x4), .unset, .unset] [] := by first | (simp [entryFrame, mkF, argsToLocals, Value.category]; done) | rfl
set_option maxRecDepth 65536 in
set_option maxHeartbeats 40000000 in
theorem rm4_0 (l : Launch) (Z : State) (a0 : Array Value) (hw : ∀ d ∈ tables_1, d.before a0 Z = true) (ws : List Jvm.Cond) (a : Addr) (p1 : Int32) (cl : Addr) (p4 : Int32) (wi : Int32) (b : Addr) (np : Int32) (nc : Int32) (fc : Nat → Value) (bs : Int32) (g : Nat → Value) (h0 : Heap) (n0 : Nat) (Z0 : n0 ≤ h0.size) (F_w : Fld Z h0 a "featherpane/Surface" "width" "I" (.int wi)) (F_p : Fld Z h0 a "featherpane/Surface" "pixels" "[I" (.ref b)) (V_b : ArrF Z h0 b .int np (fun _ => (Value.int (0 : Int32)))) (V_c : ArrF Z h0 cl .int nc fc) (g_b : n0 ≤ b) (ne_ab : a ≠ b) (ne_cb : cl ≠ b) (hbs_ : (p1 * wi) = bs) (hg_ : ∀ j, (fun _ => (Value.int (0 : Int32))) j = g j) :
    MetFree l (⟨"featherpane/Surface", "fillPixels", "(I[III)V"⟩ : MethodName) (head1 (Jvm.Cond.code (⟨"featherpane/Surface", "fillPixels", "(I[III)V"⟩ : MethodName) prog_69_method_9_code 7 none :: ws) ({ frames := 0, cells := 0, slots := 0, locals := 0 } : Room)) (fun as_ U => as_ = #[(.ref a), (.int p1), (.ref cl), (.int (0 : Int32)), (.int p4)] ∧ Z.Warmed39 U.vm ∧ U.heap = h0) (fun _ _ _ _ _ => True) (fun _ U o U' => ∃ v L, o = .returned v ∧ Q4 Z b np g h0 n0 v U'.heap L ∧ FrameEnd U o U' L ({ frames := 0, cells := 0, slots := 0, locals := 0 } : Room).cells ({ frames := 0, cells := 0, slots := 0, locals := 0 } : Room).slots) := by
  refine MetFree.of_bodySF (plainFor_of_name pn_4) hisR ?_
  intro p e s m args below meth c s₁ Bd hml0 hP hK
  obtain ⟨rfl, hZ, hh⟩ := hP
  have hx := Bd.exec
  have hby := Bd.bytes
  have hml : c.maxLocals = 7 := hml0
  have hown : s.vm.findClass "featherpane/Surface" = some m.cls := findClass_of_methodNamed Bd.named
  have hnm := (name_of_methodNamed Bd.named Bd.method).1
  have X0 : Stand p l e ({ frames := 0, cells := 0, slots := 0, locals := 0 } : Room) s m #[(.ref a), (.int p1), (.ref cl), (.int (0 : Int32)), (.int p4)] below meth c s₁ [] 0 0 := Stand.of_body Bd
  have e0 : s₁.heap = h0 := by rw [← hh, Bd.state]; rfl
  have N0 := Fr.nil n0
  have pre0 : ∀ t, Steps p.tables e below (s₁.setTop (mkF m 0 #[.val (.ref a), .val (.int p1), .val (.ref cl), .val (.int (0 : Int32)), .val (.int p4), .unset, .unset] [])) t → Steps p.tables e below (s₁.setTop (entryFrame m #[(.ref a), (.int p1), (.ref cl), (.int (0 : Int32)), (.int p4)] 7)) t := fun t k => castTop (ef_4 m a p1 cl (0 : Int32) p4) k
  obtain ⟨T_1, X_1, e_1, st_1⟩ := getF X0 hx hZ hown (host := "") (Or.inl (hw _ (List.mem_of_getElem? (i := 16) rfl))) Via.refl e0 F_w (g := (mkF m 2 #[.val (.ref a), .val (.int p1), .val (.ref cl), .val (.int (0 : Int32)), .val (.int p4), .unset, .unset] [(.ref a), (.int p1)])) rfl rfl (hb hby d4_2)
  obtain ⟨fs, hr, hrun, hended, hW, hsame⟩ := X_1.leave (v := none) (fun _ => rfl)
  refine ⟨_, _, pre0 _ ?_, hrun, hended, _, _, rfl, ?_, ⟨_, rfl⟩, hW, hsame.mono (by decide) (by decide)⟩
  · show Steps p.tables e below (s₁.setTop (mkF m 0 #[.val (.ref a), .val (.int p1), .val (.ref cl), .val (.int (0 : Int32)), .val (.int p4), .unset, .unset] [])) _
    refine XS.iloadN X0.here hx rfl (hb hby d4_0) rfl ?_
    show Steps p.tables e below (s₁.setTop (mkF m 1 #[.val (.ref a), .val (.int p1), .val (.ref cl), .val (.int (0 : Int32)), .val (.int p4), .unset, .unset] [(.int p1)])) _
    refine XS.aloadN X0.here hx rfl (hb hby d4_1) rfl rfl ?_
    show Steps p.tables e below (s₁.setTop (mkF m 2 #[.val (.ref a), .val (.int p1), .val (.ref cl), .val (.int (0 : Int32)), .val (.int p4), .unset, .unset] [(.ref a), (.int p1)])) _
    refine st_1 _ ?_
    show Steps p.tables e below (T_1.setTop (mkF m 5 #[.val (.ref a), .val (.int p1), .val (.ref cl), .val (.int (0 : Int32)), .val (.int p4), .unset, .unset] [(.int wi), (.int p1)])) _
    refine XS.imul X_1.here hx rfl (hb hby d4_5) rfl ?_
    show Steps p.tables e below (T_1.setTop (mkF m 6 #[.val (.ref a), .val (.int p1), .val (.ref cl), .val (.int (0 : Int32)), .val (.int p4), .unset, .unset] [(.int (p1 * wi))])) _
    rw [hbs_]
    show Steps p.tables e below (T_1.setTop (mkF m 6 #[.val (.ref a), .val (.int p1), .val (.ref cl), .val (.int (0 : Int32)), .val (.int p4), .unset, .unset] [(.int bs)])) _
    refine XS.istore X_1.here hx rfl (hb hby d4_6) rfl (l' := #[.val (.ref a), .val (.int p1), .val (.ref cl), .val (.int (0 : Int32)), .val (.int p4), .val (.int bs), .unset]) rfl ?_
    show Steps p.tables e below (T_1.setTop (mkF m 8 #[.val (.ref a), .val (.int p1), .val (.ref cl), .val (.int (0 : Int32)), .val (.int p4), .val (.int bs), .unset] [])) _
    refine XS.iconst X_1.here hx rfl (hb hby d4_8) ?_
    show Steps p.tables e below (T_1.setTop (mkF m 9 #[.val (.ref a), .val (.int p1), .val (.ref cl), .val (.int (0 : Int32)), .val (.int p4), .val (.int bs), .unset] [(.int (0 : Int32))])) _
    refine XS.istore X_1.here hx rfl (hb hby d4_9) rfl (l' := #[.val (.ref a), .val (.int p1), .val (.ref cl), .val (.int (0 : Int32)), .val (.int p4), .val (.int bs), .val (.int (0 : Int32))]) rfl ?_
    show Steps p.tables e below (T_1.setTop (mkF m 11 #[.val (.ref a), .val (.int p1), .val (.ref cl), .val (.int (0 : Int32)), .val (.int p4), .val (.int bs), .val (.int (0 : Int32))] [])) _
    refine XS.iload X_1.here hx rfl (hb hby d4_11) rfl ?_
    show Steps p.tables e below (T_1.setTop (mkF m 13 #[.val (.ref a), .val (.int p1), .val (.ref cl), .val (.int (0 : Int32)), .val (.int p4), .val (.int bs), .val (.int (0 : Int32))] [(.int (0 : Int32))])) _
    refine XS.iloadN X_1.here hx rfl (hb hby d4_13) rfl ?_
    show Steps p.tables e below (T_1.setTop (mkF m 14 #[.val (.ref a), .val (.int p1), .val (.ref cl), .val (.int (0 : Int32)), .val (.int p4), .val (.int bs), .val (.int (0 : Int32))] [(.int (0 : Int32)), (.int (0 : Int32))])) _
    refine XS.icmpYes X_1.here hx rfl (pc0 := 14) (pc' := 37) rfl (hb hby d4_14) rfl (flt ((by decide) : ¬ ((0 : Int32) < (0 : Int32)))).2.1 (by decide) (by decide) ?_
    show Steps p.tables e below (T_1.setTop (mkF m 37 #[.val (.ref a), .val (.int p1), .val (.ref cl), .val (.int (0 : Int32)), .val (.int p4), .val (.int bs), .val (.int (0 : Int32))] [])) _
    exact X_1.returnOut hx Bd.returns (hb hby d4_37) hr
  · show Q4 Z b np g h0 n0 _ T_1.heap _
    rw [e_1]
    exact ⟨rfl, N0, (Keep.refl h0 [b]), (V_b.congr fun j _ => hg_ j)⟩
theorem d4_17 : decode prog_69_method_9_code 17 = .ok (.aload_n 0, 1) := by decide +kernel
theorem d4_18 : decode prog_69_method_9_code 18 = .ok (.getfield 29, 3) := by decide +kernel
theorem d4_21 : decode prog_69_method_9_code 21 = .ok (.iload 5, 2) := by decide +kernel
theorem d4_23 : decode prog_69_method_9_code 23 = .ok (.aload_n 2, 1) := by decide +kernel
theorem d4_24 : decode prog_69_method_9_code 24 = .ok (.iload 6, 2) := by decide +kernel
theorem d4_26 : decode prog_69_method_9_code 26 = .ok (.iaload, 1) := by decide +kernel
theorem d4_27 : decode prog_69_method_9_code 27 = .ok (.iadd, 1) := by decide +kernel
theorem d4_28 : decode prog_69_method_9_code 28 = .ok (.iload 4, 2) := by decide +kernel
theorem d4_30 : decode prog_69_method_9_code 30 = .ok (.iastore, 1) := by decide +kernel
theorem d4_31 : decode prog_69_method_9_code 31 = .ok (.iinc 6 1, 3) := by decide +kernel
theorem d4_34 : decode prog_69_method_9_code 34 = .ok (.goto (-23), 3) := by decide +kernel
set_option maxRecDepth 65536 in
set_option maxHeartbeats 40000000 in
theorem rm4_1 (l : Launch) (Z : State) (a0 : Array Value) (hw : ∀ d ∈ tables_1, d.before a0 Z = true) (ws : List Jvm.Cond) (a : Addr) (p1 : Int32) (cl : Addr) (p4 : Int32) (wi : Int32) (b : Addr) (np : Int32) (nc : Int32) (fc : Nat → Value) (bs : Int32) (c0 : Int32) (u0 : Int32) (g : Nat → Value) (h0 : Heap) (n0 : Nat) (Z0 : n0 ≤ h0.size) (F_w : Fld Z h0 a "featherpane/Surface" "width" "I" (.int wi)) (F_p : Fld Z h0 a "featherpane/Surface" "pixels" "[I" (.ref b)) (V_b : ArrF Z h0 b .int np (fun _ => (Value.int (0 : Int32)))) (V_c : ArrF Z h0 cl .int nc fc) (g_b : n0 ≤ b) (ne_ab : a ≠ b) (ne_cb : cl ≠ b) (hbs_ : (p1 * wi) = bs) (hcl0 : (0 : Int32) < nc) (hfc0 : fc (0 : Int32).toNatClampNeg = .int c0) (he0_ : (bs + c0) = u0) (hp0 : ¬ u0 < 0) (hq0 : u0 < np) (hg_ : ∀ j, (fun j => if j = u0.toNatClampNeg then Value.int p4 else (fun _ => (Value.int (0 : Int32))) j) j = g j) :
    MetFree l (⟨"featherpane/Surface", "fillPixels", "(I[III)V"⟩ : MethodName) (head1 (Jvm.Cond.code (⟨"featherpane/Surface", "fillPixels", "(I[III)V"⟩ : MethodName) prog_69_method_9_code 7 none :: ws) ({ frames := 0, cells := 0, slots := 0, locals := 0 } : Room)) (fun as_ U => as_ = #[(.ref a), (.int p1), (.ref cl), (.int (1 : Int32)), (.int p4)] ∧ Z.Warmed39 U.vm ∧ U.heap = h0) (fun _ _ _ _ _ => True) (fun _ U o U' => ∃ v L, o = .returned v ∧ Q4 Z b np g h0 n0 v U'.heap L ∧ FrameEnd U o U' L ({ frames := 0, cells := 0, slots := 0, locals := 0 } : Room).cells ({ frames := 0, cells := 0, slots := 0, locals := 0 } : Room).slots) := by
  refine MetFree.of_bodySF (plainFor_of_name pn_4) hisR ?_
  intro p e s m args below meth c s₁ Bd hml0 hP hK
  obtain ⟨rfl, hZ, hh⟩ := hP
  have hx := Bd.exec
  have hby := Bd.bytes
  have hml : c.maxLocals = 7 := hml0
  have hown : s.vm.findClass "featherpane/Surface" = some m.cls := findClass_of_methodNamed Bd.named
  have hnm := (name_of_methodNamed Bd.named Bd.method).1
  have X0 : Stand p l e ({ frames := 0, cells := 0, slots := 0, locals := 0 } : Room) s m #[(.ref a), (.int p1), (.ref cl), (.int (1 : Int32)), (.int p4)] below meth c s₁ [] 0 0 := Stand.of_body Bd
  have e0 : s₁.heap = h0 := by rw [← hh, Bd.state]; rfl
  have N0 := Fr.nil n0
  have pre0 : ∀ t, Steps p.tables e below (s₁.setTop (mkF m 0 #[.val (.ref a), .val (.int p1), .val (.ref cl), .val (.int (1 : Int32)), .val (.int p4), .unset, .unset] [])) t → Steps p.tables e below (s₁.setTop (entryFrame m #[(.ref a), (.int p1), (.ref cl), (.int (1 : Int32)), (.int p4)] 7)) t := fun t k => castTop (ef_4 m a p1 cl (1 : Int32) p4) k
  obtain ⟨T_1, X_1, e_1, st_1⟩ := getF X0 hx hZ hown (host := "") (Or.inl (hw _ (List.mem_of_getElem? (i := 16) rfl))) Via.refl e0 F_w (g := (mkF m 2 #[.val (.ref a), .val (.int p1), .val (.ref cl), .val (.int (1 : Int32)), .val (.int p4), .unset, .unset] [(.ref a), (.int p1)])) rfl rfl (hb hby d4_2)
  obtain ⟨T_2, X_2, e_2, st_2⟩ := getF X_1 hx hZ hown (host := "") (Or.inl (hw _ (List.mem_of_getElem? (i := 20) rfl))) Via.refl e_1 F_p (g := (mkF m 18 #[.val (.ref a), .val (.int p1), .val (.ref cl), .val (.int (1 : Int32)), .val (.int p4), .val (.int bs), .val (.int (0 : Int32))] [(.ref a)])) rfl rfl (hb hby d4_18)
  obtain ⟨cl_3, Ar_3, Sz_3, Mz_3, Hz_3⟩ := id V_c
  obtain ⟨cl_5, Ar_5, Sz_5, Mz_5, Hz_5⟩ := id V_b
  obtain ⟨T_4, h_4, X_4, e_4, W_4, st_4⟩ := stI X_2 hx hZ e_2 Ar_5 (j := u0) (inb_of Sz_5 ⟨hp0, hq0⟩) (g := (mkF m 30 #[.val (.ref a), .val (.int p1), .val (.ref cl), .val (.int (1 : Int32)), .val (.int p4), .val (.int bs), .val (.int (0 : Int32))] [(.int p4), (.int u0), (.ref b)])) rfl rfl (hb hby d4_30)
  have K_4 : Keep h0 h_4 [b] := (Keep.refl h0 [b]).wr W_4 (Or.inl (List.mem_of_getElem? (i := 0) rfl))
  have N_4 := Fr.snoc X_4 N0 g_b
  have Z_6 : n0 ≤ h_4.size := Nat.le_trans Z0 (Keep.of_wr W_4).1
  have Vw_4 := ArrF.set Ar_5 Sz_5 Mz_5 Hz_5 W_4
  obtain ⟨fs, hr, hrun, hended, hW, hsame⟩ := X_4.leave (v := none) (fun _ => rfl)
  refine ⟨_, _, pre0 _ ?_, hrun, hended, _, _, rfl, ?_, ⟨_, rfl⟩, hW, hsame.mono (by decide) (by decide)⟩
  · show Steps p.tables e below (s₁.setTop (mkF m 0 #[.val (.ref a), .val (.int p1), .val (.ref cl), .val (.int (1 : Int32)), .val (.int p4), .unset, .unset] [])) _
    refine XS.iloadN X0.here hx rfl (hb hby d4_0) rfl ?_
    show Steps p.tables e below (s₁.setTop (mkF m 1 #[.val (.ref a), .val (.int p1), .val (.ref cl), .val (.int (1 : Int32)), .val (.int p4), .unset, .unset] [(.int p1)])) _
    refine XS.aloadN X0.here hx rfl (hb hby d4_1) rfl rfl ?_
    show Steps p.tables e below (s₁.setTop (mkF m 2 #[.val (.ref a), .val (.int p1), .val (.ref cl), .val (.int (1 : Int32)), .val (.int p4), .unset, .unset] [(.ref a), (.int p1)])) _
    refine st_1 _ ?_
    show Steps p.tables e below (T_1.setTop (mkF m 5 #[.val (.ref a), .val (.int p1), .val (.ref cl), .val (.int (1 : Int32)), .val (.int p4), .unset, .unset] [(.int wi), (.int p1)])) _
    refine XS.imul X_1.here hx rfl (hb hby d4_5) rfl ?_
    show Steps p.tables e below (T_1.setTop (mkF m 6 #[.val (.ref a), .val (.int p1), .val (.ref cl), .val (.int (1 : Int32)), .val (.int p4), .unset, .unset] [(.int (p1 * wi))])) _
    rw [hbs_]
    show Steps p.tables e below (T_1.setTop (mkF m 6 #[.val (.ref a), .val (.int p1), .val (.ref cl), .val (.int (1 : Int32)), .val (.int p4), .unset, .unset] [(.int bs)])) _
    refine XS.istore X_1.here hx rfl (hb hby d4_6) rfl (l' := #[.val (.ref a), .val (.int p1), .val (.ref cl), .val (.int (1 : Int32)), .val (.int p4), .val (.int bs), .unset]) rfl ?_
    show Steps p.tables e below (T_1.setTop (mkF m 8 #[.val (.ref a), .val (.int p1), .val (.ref cl), .val (.int (1 : Int32)), .val (.int p4), .val (.int bs), .unset] [])) _
    refine XS.iconst X_1.here hx rfl (hb hby d4_8) ?_
    show Steps p.tables e below (T_1.setTop (mkF m 9 #[.val (.ref a), .val (.int p1), .val (.ref cl), .val (.int (1 : Int32)), .val (.int p4), .val (.int bs), .unset] [(.int (0 : Int32))])) _
    refine XS.istore X_1.here hx rfl (hb hby d4_9) rfl (l' := #[.val (.ref a), .val (.int p1), .val (.ref cl), .val (.int (1 : Int32)), .val (.int p4), .val (.int bs), .val (.int (0 : Int32))]) rfl ?_
    show Steps p.tables e below (T_1.setTop (mkF m 11 #[.val (.ref a), .val (.int p1), .val (.ref cl), .val (.int (1 : Int32)), .val (.int p4), .val (.int bs), .val (.int (0 : Int32))] [])) _
    refine XS.iload X_1.here hx rfl (hb hby d4_11) rfl ?_
    show Steps p.tables e below (T_1.setTop (mkF m 13 #[.val (.ref a), .val (.int p1), .val (.ref cl), .val (.int (1 : Int32)), .val (.int p4), .val (.int bs), .val (.int (0 : Int32))] [(.int (0 : Int32))])) _
    refine XS.iloadN X_1.here hx rfl (hb hby d4_13) rfl ?_
    show Steps p.tables e below (T_1.setTop (mkF m 14 #[.val (.ref a), .val (.int p1), .val (.ref cl), .val (.int (1 : Int32)), .val (.int p4), .val (.int bs), .val (.int (0 : Int32))] [(.int (1 : Int32)), (.int (0 : Int32))])) _
    refine XS.icmpNo X_1.here hx rfl (hb hby d4_14) rfl (tlt ((by decide) : (0 : Int32) < (1 : Int32))).2.1 ?_
    show Steps p.tables e below (T_1.setTop (mkF m 17 #[.val (.ref a), .val (.int p1), .val (.ref cl), .val (.int (1 : Int32)), .val (.int p4), .val (.int bs), .val (.int (0 : Int32))] [])) _
    refine XS.aloadN X_1.here hx rfl (hb hby d4_17) rfl rfl ?_
    show Steps p.tables e below (T_1.setTop (mkF m 18 #[.val (.ref a), .val (.int p1), .val (.ref cl), .val (.int (1 : Int32)), .val (.int p4), .val (.int bs), .val (.int (0 : Int32))] [(.ref a)])) _
    refine st_2 _ ?_
    show Steps p.tables e below (T_2.setTop (mkF m 21 #[.val (.ref a), .val (.int p1), .val (.ref cl), .val (.int (1 : Int32)), .val (.int p4), .val (.int bs), .val (.int (0 : Int32))] [(.ref b)])) _
    refine XS.iload X_2.here hx rfl (hb hby d4_21) rfl ?_
    show Steps p.tables e below (T_2.setTop (mkF m 23 #[.val (.ref a), .val (.int p1), .val (.ref cl), .val (.int (1 : Int32)), .val (.int p4), .val (.int bs), .val (.int (0 : Int32))] [(.int bs), (.ref b)])) _
    refine XS.aloadN X_2.here hx rfl (hb hby d4_23) rfl rfl ?_
    show Steps p.tables e below (T_2.setTop (mkF m 24 #[.val (.ref a), .val (.int p1), .val (.ref cl), .val (.int (1 : Int32)), .val (.int p4), .val (.int bs), .val (.int (0 : Int32))] [(.ref cl), (.int bs), (.ref b)])) _
    refine XS.iload X_2.here hx rfl (hb hby d4_24) rfl ?_
    show Steps p.tables e below (T_2.setTop (mkF m 26 #[.val (.ref a), .val (.int p1), .val (.ref cl), .val (.int (1 : Int32)), .val (.int p4), .val (.int bs), .val (.int (0 : Int32))] [(.int (0 : Int32)), (.ref cl), (.int bs), (.ref b)])) _
    refine X_2.iaload hx (j := (0 : Int32)) (v := (.int c0)) (by rw [e_2]; exact Ar_3.1) (State.isArrayOf_alike hZ.alike Ar_3.2.1) Ar_3.2.2 (inb_of Sz_3 ⟨(by decide), hcl0⟩) ((Hz_3 _ (own_idx (by decide) hcl0)).trans (congrArg some hfc0)) (g := (mkF m 26 #[.val (.ref a), .val (.int p1), .val (.ref cl), .val (.int (1 : Int32)), .val (.int p4), .val (.int bs), .val (.int (0 : Int32))] [(.int (0 : Int32)), (.ref cl), (.int bs), (.ref b)])) rfl rfl (hb hby d4_26) _ ?_
    show Steps p.tables e below (T_2.setTop (mkF m 27 #[.val (.ref a), .val (.int p1), .val (.ref cl), .val (.int (1 : Int32)), .val (.int p4), .val (.int bs), .val (.int (0 : Int32))] [(.int c0), (.int bs), (.ref b)])) _
    refine XS.iadd X_2.here hx rfl (hb hby d4_27) rfl ?_
    show Steps p.tables e below (T_2.setTop (mkF m 28 #[.val (.ref a), .val (.int p1), .val (.ref cl), .val (.int (1 : Int32)), .val (.int p4), .val (.int bs), .val (.int (0 : Int32))] [(.int (bs + c0)), (.ref b)])) _
    rw [he0_]
    show Steps p.tables e below (T_2.setTop (mkF m 28 #[.val (.ref a), .val (.int p1), .val (.ref cl), .val (.int (1 : Int32)), .val (.int p4), .val (.int bs), .val (.int (0 : Int32))] [(.int u0), (.ref b)])) _
    refine XS.iload X_2.here hx rfl (hb hby d4_28) rfl ?_
    show Steps p.tables e below (T_2.setTop (mkF m 30 #[.val (.ref a), .val (.int p1), .val (.ref cl), .val (.int (1 : Int32)), .val (.int p4), .val (.int bs), .val (.int (0 : Int32))] [(.int p4), (.int u0), (.ref b)])) _
    refine st_4 _ ?_
    show Steps p.tables e below (T_4.setTop (mkF m 31 #[.val (.ref a), .val (.int p1), .val (.ref cl), .val (.int (1 : Int32)), .val (.int p4), .val (.int bs), .val (.int (0 : Int32))] [])) _
    refine XS.iinc X_4.here hx rfl (hb hby d4_31) rfl (l' := #[.val (.ref a), .val (.int p1), .val (.ref cl), .val (.int (1 : Int32)), .val (.int p4), .val (.int bs), .val (.int ((0 : Int32) + (1 : Int32)))]) rfl ?_
    show Steps p.tables e below (T_4.setTop (mkF m 34 #[.val (.ref a), .val (.int p1), .val (.ref cl), .val (.int (1 : Int32)), .val (.int p4), .val (.int bs), .val (.int ((0 : Int32) + (1 : Int32)))] [])) _
    rw [show ((0 : Int32) + (1 : Int32)) = (1 : Int32) from by decide]
    show Steps p.tables e below (T_4.setTop (mkF m 34 #[.val (.ref a), .val (.int p1), .val (.ref cl), .val (.int (1 : Int32)), .val (.int p4), .val (.int bs), .val (.int (1 : Int32))] [])) _
    refine XS.goto X_4.here hx rfl (pc0 := 34) (pc' := 11) rfl (hb hby d4_34) (by decide) (by decide) ?_
    show Steps p.tables e below (T_4.setTop (mkF m 11 #[.val (.ref a), .val (.int p1), .val (.ref cl), .val (.int (1 : Int32)), .val (.int p4), .val (.int bs), .val (.int (1 : Int32))] [])) _
    refine XS.iload X_4.here hx rfl (hb hby d4_11) rfl ?_
    show Steps p.tables e below (T_4.setTop (mkF m 13 #[.val (.ref a), .val (.int p1), .val (.ref cl), .val (.int (1 : Int32)), .val (.int p4), .val (.int bs), .val (.int (1 : Int32))] [(.int (1 : Int32))])) _
    refine XS.iloadN X_4.here hx rfl (hb hby d4_13) rfl ?_
    show Steps p.tables e below (T_4.setTop (mkF m 14 #[.val (.ref a), .val (.int p1), .val (.ref cl), .val (.int (1 : Int32)), .val (.int p4), .val (.int bs), .val (.int (1 : Int32))] [(.int (1 : Int32)), (.int (1 : Int32))])) _
    refine XS.icmpYes X_4.here hx rfl (pc0 := 14) (pc' := 37) rfl (hb hby d4_14) rfl (flt ((by decide) : ¬ ((1 : Int32) < (1 : Int32)))).2.1 (by decide) (by decide) ?_
    show Steps p.tables e below (T_4.setTop (mkF m 37 #[.val (.ref a), .val (.int p1), .val (.ref cl), .val (.int (1 : Int32)), .val (.int p4), .val (.int bs), .val (.int (1 : Int32))] [])) _
    exact X_4.returnOut hx Bd.returns (hb hby d4_37) hr
  · show Q4 Z b np g h0 n0 _ T_4.heap _
    rw [e_4]
    exact ⟨rfl, N_4, K_4, (Vw_4.congr fun j _ => hg_ j)⟩
set_option maxRecDepth 65536 in
set_option maxHeartbeats 40000000 in
theorem rm4_2 (l : Launch) (Z : State) (a0 : Array Value) (hw : ∀ d ∈ tables_1, d.before a0 Z = true) (ws : List Jvm.Cond) (a : Addr) (p1 : Int32) (cl : Addr) (p4 : Int32) (wi : Int32) (b : Addr) (np : Int32) (nc : Int32) (fc : Nat → Value) (bs : Int32) (c0 : Int32) (c1 : Int32) (u0 : Int32) (u1 : Int32) (g : Nat → Value) (h0 : Heap) (n0 : Nat) (Z0 : n0 ≤ h0.size) (F_w : Fld Z h0 a "featherpane/Surface" "width" "I" (.int wi)) (F_p : Fld Z h0 a "featherpane/Surface" "pixels" "[I" (.ref b)) (V_b : ArrF Z h0 b .int np (fun _ => (Value.int (0 : Int32)))) (V_c : ArrF Z h0 cl .int nc fc) (g_b : n0 ≤ b) (ne_ab : a ≠ b) (ne_cb : cl ≠ b) (hbs_ : (p1 * wi) = bs) (hcl0 : (0 : Int32) < nc) (hfc0 : fc (0 : Int32).toNatClampNeg = .int c0) (he0_ : (bs + c0) = u0) (hp0 : ¬ u0 < 0) (hq0 : u0 < np) (hcl1 : (1 : Int32) < nc) (hfc1 : fc (1 : Int32).toNatClampNeg = .int c1) (he1_ : (bs + c1) = u1) (hp1 : ¬ u1 < 0) (hq1 : u1 < np) (hg_ : ∀ j, (fun j => if j = u1.toNatClampNeg then Value.int p4 else (fun j => if j = u0.toNatClampNeg then Value.int p4 else (fun _ => (Value.int (0 : Int32))) j) j) j = g j) :
    MetFree l (⟨"featherpane/Surface", "fillPixels", "(I[III)V"⟩ : MethodName) (head1 (Jvm.Cond.code (⟨"featherpane/Surface", "fillPixels", "(I[III)V"⟩ : MethodName) prog_69_method_9_code 7 none :: ws) ({ frames := 0, cells := 0, slots := 0, locals := 0 } : Room)) (fun as_ U => as_ = #[(.ref a), (.int p1), (.ref cl), (.int (2 : Int32)), (.int p4)] ∧ Z.Warmed39 U.vm ∧ U.heap = h0) (fun _ _ _ _ _ => True) (fun _ U o U' => ∃ v L, o = .returned v ∧ Q4 Z b np g h0 n0 v U'.heap L ∧ FrameEnd U o U' L ({ frames := 0, cells := 0, slots := 0, locals := 0 } : Room).cells ({ frames := 0, cells := 0, slots := 0, locals := 0 } : Room).slots) := by
  refine MetFree.of_bodySF (plainFor_of_name pn_4) hisR ?_
  intro p e s m args below meth c s₁ Bd hml0 hP hK
  obtain ⟨rfl, hZ, hh⟩ := hP
  have hx := Bd.exec
  have hby := Bd.bytes
  have hml : c.maxLocals = 7 := hml0
  have hown : s.vm.findClass "featherpane/Surface" = some m.cls := findClass_of_methodNamed Bd.named
  have hnm := (name_of_methodNamed Bd.named Bd.method).1
  have X0 : Stand p l e ({ frames := 0, cells := 0, slots := 0, locals := 0 } : Room) s m #[(.ref a), (.int p1), (.ref cl), (.int (2 : Int32)), (.int p4)] below meth c s₁ [] 0 0 := Stand.of_body Bd
  have e0 : s₁.heap = h0 := by rw [← hh, Bd.state]; rfl
  have N0 := Fr.nil n0
  have pre0 : ∀ t, Steps p.tables e below (s₁.setTop (mkF m 0 #[.val (.ref a), .val (.int p1), .val (.ref cl), .val (.int (2 : Int32)), .val (.int p4), .unset, .unset] [])) t → Steps p.tables e below (s₁.setTop (entryFrame m #[(.ref a), (.int p1), (.ref cl), (.int (2 : Int32)), (.int p4)] 7)) t := fun t k => castTop (ef_4 m a p1 cl (2 : Int32) p4) k
  obtain ⟨T_1, X_1, e_1, st_1⟩ := getF X0 hx hZ hown (host := "") (Or.inl (hw _ (List.mem_of_getElem? (i := 16) rfl))) Via.refl e0 F_w (g := (mkF m 2 #[.val (.ref a), .val (.int p1), .val (.ref cl), .val (.int (2 : Int32)), .val (.int p4), .unset, .unset] [(.ref a), (.int p1)])) rfl rfl (hb hby d4_2)
  obtain ⟨T_2, X_2, e_2, st_2⟩ := getF X_1 hx hZ hown (host := "") (Or.inl (hw _ (List.mem_of_getElem? (i := 20) rfl))) Via.refl e_1 F_p (g := (mkF m 18 #[.val (.ref a), .val (.int p1), .val (.ref cl), .val (.int (2 : Int32)), .val (.int p4), .val (.int bs), .val (.int (0 : Int32))] [(.ref a)])) rfl rfl (hb hby d4_18)
  obtain ⟨cl_3, Ar_3, Sz_3, Mz_3, Hz_3⟩ := id V_c
  obtain ⟨cl_5, Ar_5, Sz_5, Mz_5, Hz_5⟩ := id V_b
  obtain ⟨T_4, h_4, X_4, e_4, W_4, st_4⟩ := stI X_2 hx hZ e_2 Ar_5 (j := u0) (inb_of Sz_5 ⟨hp0, hq0⟩) (g := (mkF m 30 #[.val (.ref a), .val (.int p1), .val (.ref cl), .val (.int (2 : Int32)), .val (.int p4), .val (.int bs), .val (.int (0 : Int32))] [(.int p4), (.int u0), (.ref b)])) rfl rfl (hb hby d4_30)
  have K_4 : Keep h0 h_4 [b] := (Keep.refl h0 [b]).wr W_4 (Or.inl (List.mem_of_getElem? (i := 0) rfl))
  have N_4 := Fr.snoc X_4 N0 g_b
  have Z_6 : n0 ≤ h_4.size := Nat.le_trans Z0 (Keep.of_wr W_4).1
  have Vw_4 := ArrF.set Ar_5 Sz_5 Mz_5 Hz_5 W_4
  have f_7_F_a_pixels := (F_p.other W_4 (Or.inl ne_ab))
  obtain ⟨T_8, X_8, e_8, st_8⟩ := getF X_4 hx hZ hown (host := "") (Or.inl (hw _ (List.mem_of_getElem? (i := 20) rfl))) Via.refl e_4 f_7_F_a_pixels (g := (mkF m 18 #[.val (.ref a), .val (.int p1), .val (.ref cl), .val (.int (2 : Int32)), .val (.int p4), .val (.int bs), .val (.int (1 : Int32))] [(.ref a)])) rfl rfl (hb hby d4_18)
  have f_10_V_cl := (V_c.other W_4 ne_cb)
  obtain ⟨cl_9, Ar_9, Sz_9, Mz_9, Hz_9⟩ := id f_10_V_cl
  obtain ⟨cl_12, Ar_12, Sz_12, Mz_12, Hz_12⟩ := id Vw_4
  obtain ⟨T_11, h_11, X_11, e_11, W_11, st_11⟩ := stI X_8 hx hZ e_8 Ar_12 (j := u1) (inb_of Sz_12 ⟨hp1, hq1⟩) (g := (mkF m 30 #[.val (.ref a), .val (.int p1), .val (.ref cl), .val (.int (2 : Int32)), .val (.int p4), .val (.int bs), .val (.int (1 : Int32))] [(.int p4), (.int u1), (.ref b)])) rfl rfl (hb hby d4_30)
  have K_11 : Keep h0 h_11 [b] := K_4.wr W_11 (Or.inl (List.mem_of_getElem? (i := 0) rfl))
  have N_11 := Fr.snoc X_11 N_4 g_b
  have Z_13 : n0 ≤ h_11.size := Nat.le_trans Z_6 (Keep.of_wr W_11).1
  have Vw_11 := ArrF.set Ar_12 Sz_12 Mz_12 Hz_12 W_11
  obtain ⟨fs, hr, hrun, hended, hW, hsame⟩ := X_11.leave (v := none) (fun _ => rfl)
  refine ⟨_, _, pre0 _ ?_, hrun, hended, _, _, rfl, ?_, ⟨_, rfl⟩, hW, hsame.mono (by decide) (by decide)⟩
  · show Steps p.tables e below (s₁.setTop (mkF m 0 #[.val (.ref a), .val (.int p1), .val (.ref cl), .val (.int (2 : Int32)), .val (.int p4), .unset, .unset] [])) _
    refine XS.iloadN X0.here hx rfl (hb hby d4_0) rfl ?_
    show Steps p.tables e below (s₁.setTop (mkF m 1 #[.val (.ref a), .val (.int p1), .val (.ref cl), .val (.int (2 : Int32)), .val (.int p4), .unset, .unset] [(.int p1)])) _
    refine XS.aloadN X0.here hx rfl (hb hby d4_1) rfl rfl ?_
    show Steps p.tables e below (s₁.setTop (mkF m 2 #[.val (.ref a), .val (.int p1), .val (.ref cl), .val (.int (2 : Int32)), .val (.int p4), .unset, .unset] [(.ref a), (.int p1)])) _
    refine st_1 _ ?_
    show Steps p.tables e below (T_1.setTop (mkF m 5 #[.val (.ref a), .val (.int p1), .val (.ref cl), .val (.int (2 : Int32)), .val (.int p4), .unset, .unset] [(.int wi), (.int p1)])) _
    refine XS.imul X_1.here hx rfl (hb hby d4_5) rfl ?_
    show Steps p.tables e below (T_1.setTop (mkF m 6 #[.val (.ref a), .val (.int p1), .val (.ref cl), .val (.int (2 : Int32)), .val (.int p4), .unset, .unset] [(.int (p1 * wi))])) _
    rw [hbs_]
    show Steps p.tables e below (T_1.setTop (mkF m 6 #[.val (.ref a), .val (.int p1), .val (.ref cl), .val (.int (2 : Int32)), .val (.int p4), .unset, .unset] [(.int bs)])) _
    refine XS.istore X_1.here hx rfl (hb hby d4_6) rfl (l' := #[.val (.ref a), .val (.int p1), .val (.ref cl), .val (.int (2 : Int32)), .val (.int p4), .val (.int bs), .unset]) rfl ?_
    show Steps p.tables e below (T_1.setTop (mkF m 8 #[.val (.ref a), .val (.int p1), .val (.ref cl), .val (.int (2 : Int32)), .val (.int p4), .val (.int bs), .unset] [])) _
    refine XS.iconst X_1.here hx rfl (hb hby d4_8) ?_
    show Steps p.tables e below (T_1.setTop (mkF m 9 #[.val (.ref a), .val (.int p1), .val (.ref cl), .val (.int (2 : Int32)), .val (.int p4), .val (.int bs), .unset] [(.int (0 : Int32))])) _
    refine XS.istore X_1.here hx rfl (hb hby d4_9) rfl (l' := #[.val (.ref a), .val (.int p1), .val (.ref cl), .val (.int (2 : Int32)), .val (.int p4), .val (.int bs), .val (.int (0 : Int32))]) rfl ?_
    show Steps p.tables e below (T_1.setTop (mkF m 11 #[.val (.ref a), .val (.int p1), .val (.ref cl), .val (.int (2 : Int32)), .val (.int p4), .val (.int bs), .val (.int (0 : Int32))] [])) _
    refine XS.iload X_1.here hx rfl (hb hby d4_11) rfl ?_
    show Steps p.tables e below (T_1.setTop (mkF m 13 #[.val (.ref a), .val (.int p1), .val (.ref cl), .val (.int (2 : Int32)), .val (.int p4), .val (.int bs), .val (.int (0 : Int32))] [(.int (0 : Int32))])) _
    refine XS.iloadN X_1.here hx rfl (hb hby d4_13) rfl ?_
    show Steps p.tables e below (T_1.setTop (mkF m 14 #[.val (.ref a), .val (.int p1), .val (.ref cl), .val (.int (2 : Int32)), .val (.int p4), .val (.int bs), .val (.int (0 : Int32))] [(.int (2 : Int32)), (.int (0 : Int32))])) _
    refine XS.icmpNo X_1.here hx rfl (hb hby d4_14) rfl (tlt ((by decide) : (0 : Int32) < (2 : Int32))).2.1 ?_
    show Steps p.tables e below (T_1.setTop (mkF m 17 #[.val (.ref a), .val (.int p1), .val (.ref cl), .val (.int (2 : Int32)), .val (.int p4), .val (.int bs), .val (.int (0 : Int32))] [])) _
    refine XS.aloadN X_1.here hx rfl (hb hby d4_17) rfl rfl ?_
    show Steps p.tables e below (T_1.setTop (mkF m 18 #[.val (.ref a), .val (.int p1), .val (.ref cl), .val (.int (2 : Int32)), .val (.int p4), .val (.int bs), .val (.int (0 : Int32))] [(.ref a)])) _
    refine st_2 _ ?_
    show Steps p.tables e below (T_2.setTop (mkF m 21 #[.val (.ref a), .val (.int p1), .val (.ref cl), .val (.int (2 : Int32)), .val (.int p4), .val (.int bs), .val (.int (0 : Int32))] [(.ref b)])) _
    refine XS.iload X_2.here hx rfl (hb hby d4_21) rfl ?_
    show Steps p.tables e below (T_2.setTop (mkF m 23 #[.val (.ref a), .val (.int p1), .val (.ref cl), .val (.int (2 : Int32)), .val (.int p4), .val (.int bs), .val (.int (0 : Int32))] [(.int bs), (.ref b)])) _
    refine XS.aloadN X_2.here hx rfl (hb hby d4_23) rfl rfl ?_
    show Steps p.tables e below (T_2.setTop (mkF m 24 #[.val (.ref a), .val (.int p1), .val (.ref cl), .val (.int (2 : Int32)), .val (.int p4), .val (.int bs), .val (.int (0 : Int32))] [(.ref cl), (.int bs), (.ref b)])) _
    refine XS.iload X_2.here hx rfl (hb hby d4_24) rfl ?_
    show Steps p.tables e below (T_2.setTop (mkF m 26 #[.val (.ref a), .val (.int p1), .val (.ref cl), .val (.int (2 : Int32)), .val (.int p4), .val (.int bs), .val (.int (0 : Int32))] [(.int (0 : Int32)), (.ref cl), (.int bs), (.ref b)])) _
    refine X_2.iaload hx (j := (0 : Int32)) (v := (.int c0)) (by rw [e_2]; exact Ar_3.1) (State.isArrayOf_alike hZ.alike Ar_3.2.1) Ar_3.2.2 (inb_of Sz_3 ⟨(by decide), hcl0⟩) ((Hz_3 _ (own_idx (by decide) hcl0)).trans (congrArg some hfc0)) (g := (mkF m 26 #[.val (.ref a), .val (.int p1), .val (.ref cl), .val (.int (2 : Int32)), .val (.int p4), .val (.int bs), .val (.int (0 : Int32))] [(.int (0 : Int32)), (.ref cl), (.int bs), (.ref b)])) rfl rfl (hb hby d4_26) _ ?_
    show Steps p.tables e below (T_2.setTop (mkF m 27 #[.val (.ref a), .val (.int p1), .val (.ref cl), .val (.int (2 : Int32)), .val (.int p4), .val (.int bs), .val (.int (0 : Int32))] [(.int c0), (.int bs), (.ref b)])) _
    refine XS.iadd X_2.here hx rfl (hb hby d4_27) rfl ?_
    show Steps p.tables e below (T_2.setTop (mkF m 28 #[.val (.ref a), .val (.int p1), .val (.ref cl), .val (.int (2 : Int32)), .val (.int p4), .val (.int bs), .val (.int (0 : Int32))] [(.int (bs + c0)), (.ref b)])) _
    rw [he0_]
    show Steps p.tables e below (T_2.setTop (mkF m 28 #[.val (.ref a), .val (.int p1), .val (.ref cl), .val (.int (2 : Int32)), .val (.int p4), .val (.int bs), .val (.int (0 : Int32))] [(.int u0), (.ref b)])) _
    refine XS.iload X_2.here hx rfl (hb hby d4_28) rfl ?_
    show Steps p.tables e below (T_2.setTop (mkF m 30 #[.val (.ref a), .val (.int p1), .val (.ref cl), .val (.int (2 : Int32)), .val (.int p4), .val (.int bs), .val (.int (0 : Int32))] [(.int p4), (.int u0), (.ref b)])) _
    refine st_4 _ ?_
    show Steps p.tables e below (T_4.setTop (mkF m 31 #[.val (.ref a), .val (.int p1), .val (.ref cl), .val (.int (2 : Int32)), .val (.int p4), .val (.int bs), .val (.int (0 : Int32))] [])) _
    refine XS.iinc X_4.here hx rfl (hb hby d4_31) rfl (l' := #[.val (.ref a), .val (.int p1), .val (.ref cl), .val (.int (2 : Int32)), .val (.int p4), .val (.int bs), .val (.int ((0 : Int32) + (1 : Int32)))]) rfl ?_
    show Steps p.tables e below (T_4.setTop (mkF m 34 #[.val (.ref a), .val (.int p1), .val (.ref cl), .val (.int (2 : Int32)), .val (.int p4), .val (.int bs), .val (.int ((0 : Int32) + (1 : Int32)))] [])) _
    rw [show ((0 : Int32) + (1 : Int32)) = (1 : Int32) from by decide]
    show Steps p.tables e below (T_4.setTop (mkF m 34 #[.val (.ref a), .val (.int p1), .val (.ref cl), .val (.int (2 : Int32)), .val (.int p4), .val (.int bs), .val (.int (1 : Int32))] [])) _
    refine XS.goto X_4.here hx rfl (pc0 := 34) (pc' := 11) rfl (hb hby d4_34) (by decide) (by decide) ?_
    show Steps p.tables e below (T_4.setTop (mkF m 11 #[.val (.ref a), .val (.int p1), .val (.ref cl), .val (.int (2 : Int32)), .val (.int p4), .val (.int bs), .val (.int (1 : Int32))] [])) _
    refine XS.iload X_4.here hx rfl (hb hby d4_11) rfl ?_
    show Steps p.tables e below (T_4.setTop (mkF m 13 #[.val (.ref a), .val (.int p1), .val (.ref cl), .val (.int (2 : Int32)), .val (.int p4), .val (.int bs), .val (.int (1 : Int32))] [(.int (1 : Int32))])) _
    refine XS.iloadN X_4.here hx rfl (hb hby d4_13) rfl ?_
    show Steps p.tables e below (T_4.setTop (mkF m 14 #[.val (.ref a), .val (.int p1), .val (.ref cl), .val (.int (2 : Int32)), .val (.int p4), .val (.int bs), .val (.int (1 : Int32))] [(.int (2 : Int32)), (.int (1 : Int32))])) _
    refine XS.icmpNo X_4.here hx rfl (hb hby d4_14) rfl (tlt ((by decide) : (1 : Int32) < (2 : Int32))).2.1 ?_
    show Steps p.tables e below (T_4.setTop (mkF m 17 #[.val (.ref a), .val (.int p1), .val (.ref cl), .val (.int (2 : Int32)), .val (.int p4), .val (.int bs), .val (.int (1 : Int32))] [])) _
    refine XS.aloadN X_4.here hx rfl (hb hby d4_17) rfl rfl ?_
    show Steps p.tables e below (T_4.setTop (mkF m 18 #[.val (.ref a), .val (.int p1), .val (.ref cl), .val (.int (2 : Int32)), .val (.int p4), .val (.int bs), .val (.int (1 : Int32))] [(.ref a)])) _
    refine st_8 _ ?_
    show Steps p.tables e below (T_8.setTop (mkF m 21 #[.val (.ref a), .val (.int p1), .val (.ref cl), .val (.int (2 : Int32)), .val (.int p4), .val (.int bs), .val (.int (1 : Int32))] [(.ref b)])) _
    refine XS.iload X_8.here hx rfl (hb hby d4_21) rfl ?_
    show Steps p.tables e below (T_8.setTop (mkF m 23 #[.val (.ref a), .val (.int p1), .val (.ref cl), .val (.int (2 : Int32)), .val (.int p4), .val (.int bs), .val (.int (1 : Int32))] [(.int bs), (.ref b)])) _
    refine XS.aloadN X_8.here hx rfl (hb hby d4_23) rfl rfl ?_
    show Steps p.tables e below (T_8.setTop (mkF m 24 #[.val (.ref a), .val (.int p1), .val (.ref cl), .val (.int (2 : Int32)), .val (.int p4), .val (.int bs), .val (.int (1 : Int32))] [(.ref cl), (.int bs), (.ref b)])) _
    refine XS.iload X_8.here hx rfl (hb hby d4_24) rfl ?_
    show Steps p.tables e below (T_8.setTop (mkF m 26 #[.val (.ref a), .val (.int p1), .val (.ref cl), .val (.int (2 : Int32)), .val (.int p4), .val (.int bs), .val (.int (1 : Int32))] [(.int (1 : Int32)), (.ref cl), (.int bs), (.ref b)])) _
    refine X_8.iaload hx (j := (1 : Int32)) (v := (.int c1)) (by rw [e_8]; exact Ar_9.1) (State.isArrayOf_alike hZ.alike Ar_9.2.1) Ar_9.2.2 (inb_of Sz_9 ⟨(by decide), hcl1⟩) ((Hz_9 _ (own_idx (by decide) hcl1)).trans (congrArg some hfc1)) (g := (mkF m 26 #[.val (.ref a), .val (.int p1), .val (.ref cl), .val (.int (2 : Int32)), .val (.int p4), .val (.int bs), .val (.int (1 : Int32))] [(.int (1 : Int32)), (.ref cl), (.int bs), (.ref b)])) rfl rfl (hb hby d4_26) _ ?_
    show Steps p.tables e below (T_8.setTop (mkF m 27 #[.val (.ref a), .val (.int p1), .val (.ref cl), .val (.int (2 : Int32)), .val (.int p4), .val (.int bs), .val (.int (1 : Int32))] [(.int c1), (.int bs), (.ref b)])) _
    refine XS.iadd X_8.here hx rfl (hb hby d4_27) rfl ?_
    show Steps p.tables e below (T_8.setTop (mkF m 28 #[.val (.ref a), .val (.int p1), .val (.ref cl), .val (.int (2 : Int32)), .val (.int p4), .val (.int bs), .val (.int (1 : Int32))] [(.int (bs + c1)), (.ref b)])) _
    rw [he1_]
    show Steps p.tables e below (T_8.setTop (mkF m 28 #[.val (.ref a), .val (.int p1), .val (.ref cl), .val (.int (2 : Int32)), .val (.int p4), .val (.int bs), .val (.int (1 : Int32))] [(.int u1), (.ref b)])) _
    refine XS.iload X_8.here hx rfl (hb hby d4_28) rfl ?_
    show Steps p.tables e below (T_8.setTop (mkF m 30 #[.val (.ref a), .val (.int p1), .val (.ref cl), .val (.int (2 : Int32)), .val (.int p4), .val (.int bs), .val (.int (1 : Int32))] [(.int p4), (.int u1), (.ref b)])) _
    refine st_11 _ ?_
    show Steps p.tables e below (T_11.setTop (mkF m 31 #[.val (.ref a), .val (.int p1), .val (.ref cl), .val (.int (2 : Int32)), .val (.int p4), .val (.int bs), .val (.int (1 : Int32))] [])) _
    refine XS.iinc X_11.here hx rfl (hb hby d4_31) rfl (l' := #[.val (.ref a), .val (.int p1), .val (.ref cl), .val (.int (2 : Int32)), .val (.int p4), .val (.int bs), .val (.int ((1 : Int32) + (1 : Int32)))]) rfl ?_
    show Steps p.tables e below (T_11.setTop (mkF m 34 #[.val (.ref a), .val (.int p1), .val (.ref cl), .val (.int (2 : Int32)), .val (.int p4), .val (.int bs), .val (.int ((1 : Int32) + (1 : Int32)))] [])) _
    rw [show ((1 : Int32) + (1 : Int32)) = (2 : Int32) from by decide]
    show Steps p.tables e below (T_11.setTop (mkF m 34 #[.val (.ref a), .val (.int p1), .val (.ref cl), .val (.int (2 : Int32)), .val (.int p4), .val (.int bs), .val (.int (2 : Int32))] [])) _
    refine XS.goto X_11.here hx rfl (pc0 := 34) (pc' := 11) rfl (hb hby d4_34) (by decide) (by decide) ?_
    show Steps p.tables e below (T_11.setTop (mkF m 11 #[.val (.ref a), .val (.int p1), .val (.ref cl), .val (.int (2 : Int32)), .val (.int p4), .val (.int bs), .val (.int (2 : Int32))] [])) _
    refine XS.iload X_11.here hx rfl (hb hby d4_11) rfl ?_
    show Steps p.tables e below (T_11.setTop (mkF m 13 #[.val (.ref a), .val (.int p1), .val (.ref cl), .val (.int (2 : Int32)), .val (.int p4), .val (.int bs), .val (.int (2 : Int32))] [(.int (2 : Int32))])) _
    refine XS.iloadN X_11.here hx rfl (hb hby d4_13) rfl ?_
    show Steps p.tables e below (T_11.setTop (mkF m 14 #[.val (.ref a), .val (.int p1), .val (.ref cl), .val (.int (2 : Int32)), .val (.int p4), .val (.int bs), .val (.int (2 : Int32))] [(.int (2 : Int32)), (.int (2 : Int32))])) _
    refine XS.icmpYes X_11.here hx rfl (pc0 := 14) (pc' := 37) rfl (hb hby d4_14) rfl (flt ((by decide) : ¬ ((2 : Int32) < (2 : Int32)))).2.1 (by decide) (by decide) ?_
    show Steps p.tables e below (T_11.setTop (mkF m 37 #[.val (.ref a), .val (.int p1), .val (.ref cl), .val (.int (2 : Int32)), .val (.int p4), .val (.int bs), .val (.int (2 : Int32))] [])) _
    exact X_11.returnOut hx Bd.returns (hb hby d4_37) hr
  · show Q4 Z b np g h0 n0 _ T_11.heap _
    rw [e_11]
    exact ⟨rfl, N_11, K_11, (Vw_11.congr fun j _ => hg_ j)⟩
set_option maxRecDepth 65536 in
set_option maxHeartbeats 40000000 in
theorem rm4_3 (l : Launch) (Z : State) (a0 : Array Value) (hw : ∀ d ∈ tables_1, d.before a0 Z = true) (ws : List Jvm.Cond) (a : Addr) (p1 : Int32) (cl : Addr) (p4 : Int32) (wi : Int32) (b : Addr) (np : Int32) (nc : Int32) (fc : Nat → Value) (bs : Int32) (c0 : Int32) (c1 : Int32) (c2 : Int32) (u0 : Int32) (u1 : Int32) (u2 : Int32) (g : Nat → Value) (h0 : Heap) (n0 : Nat) (Z0 : n0 ≤ h0.size) (F_w : Fld Z h0 a "featherpane/Surface" "width" "I" (.int wi)) (F_p : Fld Z h0 a "featherpane/Surface" "pixels" "[I" (.ref b)) (V_b : ArrF Z h0 b .int np (fun _ => (Value.int (0 : Int32)))) (V_c : ArrF Z h0 cl .int nc fc) (g_b : n0 ≤ b) (ne_ab : a ≠ b) (ne_cb : cl ≠ b) (hbs_ : (p1 * wi) = bs) (hcl0 : (0 : Int32) < nc) (hfc0 : fc (0 : Int32).toNatClampNeg = .int c0) (he0_ : (bs + c0) = u0) (hp0 : ¬ u0 < 0) (hq0 : u0 < np) (hcl1 : (1 : Int32) < nc) (hfc1 : fc (1 : Int32).toNatClampNeg = .int c1) (he1_ : (bs + c1) = u1) (hp1 : ¬ u1 < 0) (hq1 : u1 < np) (hcl2 : (2 : Int32) < nc) (hfc2 : fc (2 : Int32).toNatClampNeg = .int c2) (he2_ : (bs + c2) = u2) (hp2 : ¬ u2 < 0) (hq2 : u2 < np) (hg_ : ∀ j, (fun j => if j = u2.toNatClampNeg then Value.int p4 else (fun j => if j = u1.toNatClampNeg then Value.int p4 else (fun j => if j = u0.toNatClampNeg then Value.int p4 else (fun _ => (Value.int (0 : Int32))) j) j) j) j = g j) :
    MetFree l (⟨"featherpane/Surface", "fillPixels", "(I[III)V"⟩ : MethodName) (head1 (Jvm.Cond.code (⟨"featherpane/Surface", "fillPixels", "(I[III)V"⟩ : MethodName) prog_69_method_9_code 7 none :: ws) ({ frames := 0, cells := 0, slots := 0, locals := 0 } : Room)) (fun as_ U => as_ = #[(.ref a), (.int p1), (.ref cl), (.int (3 : Int32)), (.int p4)] ∧ Z.Warmed39 U.vm ∧ U.heap = h0) (fun _ _ _ _ _ => True) (fun _ U o U' => ∃ v L, o = .returned v ∧ Q4 Z b np g h0 n0 v U'.heap L ∧ FrameEnd U o U' L ({ frames := 0, cells := 0, slots := 0, locals := 0 } : Room).cells ({ frames := 0, cells := 0, slots := 0, locals := 0 } : Room).slots) := by
  refine MetFree.of_bodySF (plainFor_of_name pn_4) hisR ?_
  intro p e s m args below meth c s₁ Bd hml0 hP hK
  obtain ⟨rfl, hZ, hh⟩ := hP
  have hx := Bd.exec
  have hby := Bd.bytes
  have hml : c.maxLocals = 7 := hml0
  have hown : s.vm.findClass "featherpane/Surface" = some m.cls := findClass_of_methodNamed Bd.named
  have hnm := (name_of_methodNamed Bd.named Bd.method).1
  have X0 : Stand p l e ({ frames := 0, cells := 0, slots := 0, locals := 0 } : Room) s m #[(.ref a), (.int p1), (.ref cl), (.int (3 : Int32)), (.int p4)] below meth c s₁ [] 0 0 := Stand.of_body Bd
  have e0 : s₁.heap = h0 := by rw [← hh, Bd.state]; rfl
  have N0 := Fr.nil n0
  have pre0 : ∀ t, Steps p.tables e below (s₁.setTop (mkF m 0 #[.val (.ref a), .val (.int p1), .val (.ref cl), .val (.int (3 : Int32)), .val (.int p4), .unset, .unset] [])) t → Steps p.tables e below (s₁.setTop (entryFrame m #[(.ref a), (.int p1), (.ref cl), (.int (3 : Int32)), (.int p4)] 7)) t := fun t k => castTop (ef_4 m a p1 cl (3 : Int32) p4) k
  obtain ⟨T_1, X_1, e_1, st_1⟩ := getF X0 hx hZ hown (host := "") (Or.inl (hw _ (List.mem_of_getElem? (i := 16) rfl))) Via.refl e0 F_w (g := (mkF m 2 #[.val (.ref a), .val (.int p1), .val (.ref cl), .val (.int (3 : Int32)), .val (.int p4), .unset, .unset] [(.ref a), (.int p1)])) rfl rfl (hb hby d4_2)
  obtain ⟨T_2, X_2, e_2, st_2⟩ := getF X_1 hx hZ hown (host := "") (Or.inl (hw _ (List.mem_of_getElem? (i := 20) rfl))) Via.refl e_1 F_p (g := (mkF m 18 #[.val (.ref a), .val (.int p1), .val (.ref cl), .val (.int (3 : Int32)), .val (.int p4), .val (.int bs), .val (.int (0 : Int32))] [(.ref a)])) rfl rfl (hb hby d4_18)
  obtain ⟨cl_3, Ar_3, Sz_3, Mz_3, Hz_3⟩ := id V_c
  obtain ⟨cl_5, Ar_5, Sz_5, Mz_5, Hz_5⟩ := id V_b
  obtain ⟨T_4, h_4, X_4, e_4, W_4, st_4⟩ := stI X_2 hx hZ e_2 Ar_5 (j := u0) (inb_of Sz_5 ⟨hp0, hq0⟩) (g := (mkF m 30 #[.val (.ref a), .val (.int p1), .val (.ref cl), .val (.int (3 : Int32)), .val (.int p4), .val (.int bs), .val (.int (0 : Int32))] [(.int p4), (.int u0), (.ref b)])) rfl rfl (hb hby d4_30)
  have K_4 : Keep h0 h_4 [b] := (Keep.refl h0 [b]).wr W_4 (Or.inl (List.mem_of_getElem? (i := 0) rfl))
  have N_4 := Fr.snoc X_4 N0 g_b
  have Z_6 : n0 ≤ h_4.size := Nat.le_trans Z0 (Keep.of_wr W_4).1
  have Vw_4 := ArrF.set Ar_5 Sz_5 Mz_5 Hz_5 W_4
  have f_7_F_a_pixels := (F_p.other W_4 (Or.inl ne_ab))
  obtain ⟨T_8, X_8, e_8, st_8⟩ := getF X_4 hx hZ hown (host := "") (Or.inl (hw _ (List.mem_of_getElem? (i := 20) rfl))) Via.refl e_4 f_7_F_a_pixels (g := (mkF m 18 #[.val (.ref a), .val (.int p1), .val (.ref cl), .val (.int (3 : Int32)), .val (.int p4), .val (.int bs), .val (.int (1 : Int32))] [(.ref a)])) rfl rfl (hb hby d4_18)
  have f_10_V_cl := (V_c.other W_4 ne_cb)
  obtain ⟨cl_9, Ar_9, Sz_9, Mz_9, Hz_9⟩ := id f_10_V_cl
  obtain ⟨cl_12, Ar_12, Sz_12, Mz_12, Hz_12⟩ := id Vw_4
  obtain ⟨T_11, h_11, X_11, e_11, W_11, st_11⟩ := stI X_8 hx hZ e_8 Ar_12 (j := u1) (inb_of Sz_12 ⟨hp1, hq1⟩) (g := (mkF m 30 #[.val (.ref a), .val (.int p1), .val (.ref cl), .val (.int (3 : Int32)), .val (.int p4), .val (.int bs), .val (.int (1 : Int32))] [(.int p4), (.int u1), (.ref b)])) rfl rfl (hb hby d4_30)
  have K_11 : Keep h0 h_11 [b] := K_4.wr W_11 (Or.inl (List.mem_of_getElem? (i := 0) rfl))
  have N_11 := Fr.snoc X_11 N_4 g_b
  have Z_13 : n0 ≤ h_11.size := Nat.le_trans Z_6 (Keep.of_wr W_11).1
  have Vw_11 := ArrF.set Ar_12 Sz_12 Mz_12 Hz_12 W_11
  have f_14_F_a_pixels := (f_7_F_a_pixels.other W_11 (Or.inl ne_ab))
  obtain ⟨T_15, X_15, e_15, st_15⟩ := getF X_11 hx hZ hown (host := "") (Or.inl (hw _ (List.mem_of_getElem? (i := 20) rfl))) Via.refl e_11 f_14_F_a_pixels (g := (mkF m 18 #[.val (.ref a), .val (.int p1), .val (.ref cl), .val (.int (3 : Int32)), .val (.int p4), .val (.int bs), .val (.int (2 : Int32))] [(.ref a)])) rfl rfl (hb hby d4_18)
  have f_17_V_cl := (f_10_V_cl.other W_11 ne_cb)
  obtain ⟨cl_16, Ar_16, Sz_16, Mz_16, Hz_16⟩ := id f_17_V_cl
  obtain ⟨cl_19, Ar_19, Sz_19, Mz_19, Hz_19⟩ := id Vw_11
  obtain ⟨T_18, h_18, X_18, e_18, W_18, st_18⟩ := stI X_15 hx hZ e_15 Ar_19 (j := u2) (inb_of Sz_19 ⟨hp2, hq2⟩) (g := (mkF m 30 #[.val (.ref a), .val (.int p1), .val (.ref cl), .val (.int (3 : Int32)), .val (.int p4), .val (.int bs), .val (.int (2 : Int32))] [(.int p4), (.int u2), (.ref b)])) rfl rfl (hb hby d4_30)
  have K_18 : Keep h0 h_18 [b] := K_11.wr W_18 (Or.inl (List.mem_of_getElem? (i := 0) rfl))
  have N_18 := Fr.snoc X_18 N_11 g_b
  have Z_20 : n0 ≤ h_18.size := Nat.le_trans Z_13 (Keep.of_wr W_18).1
  have Vw_18 := ArrF.set Ar_19 Sz_19 Mz_19 Hz_19 W_18
  obtain ⟨fs, hr, hrun, hended, hW, hsame⟩ := X_18.leave (v := none) (fun _ => rfl)
  refine ⟨_, _, pre0 _ ?_, hrun, hended, _, _, rfl, ?_, ⟨_, rfl⟩, hW, hsame.mono (by decide) (by decide)⟩
  · show Steps p.tables e below (s₁.setTop (mkF m 0 #[.val (.ref a), .val (.int p1), .val (.ref cl), .val (.int (3 : Int32)), .val (.int p4), .unset, .unset] [])) _
    refine XS.iloadN X0.here hx rfl (hb hby d4_0) rfl ?_
    show Steps p.tables e below (s₁.setTop (mkF m 1 #[.val (.ref a), .val (.int p1), .val (.ref cl), .val (.int (3 : Int32)), .val (.int p4), .unset, .unset] [(.int p1)])) _
    refine XS.aloadN X0.here hx rfl (hb hby d4_1) rfl rfl ?_
    show Steps p.tables e below (s₁.setTop (mkF m 2 #[.val (.ref a), .val (.int p1), .val (.ref cl), .val (.int (3 : Int32)), .val (.int p4), .unset, .unset] [(.ref a), (.int p1)])) _
    refine st_1 _ ?_
    show Steps p.tables e below (T_1.setTop (mkF m 5 #[.val (.ref a), .val (.int p1), .val (.ref cl), .val (.int (3 : Int32)), .val (.int p4), .unset, .unset] [(.int wi), (.int p1)])) _
    refine XS.imul X_1.here hx rfl (hb hby d4_5) rfl ?_
    show Steps p.tables e below (T_1.setTop (mkF m 6 #[.val (.ref a), .val (.int p1), .val (.ref cl), .val (.int (3 : Int32)), .val (.int p4), .unset, .unset] [(.int (p1 * wi))])) _
    rw [hbs_]
    show Steps p.tables e below (T_1.setTop (mkF m 6 #[.val (.ref a), .val (.int p1), .val (.ref cl), .val (.int (3 : Int32)), .val (.int p4), .unset, .unset] [(.int bs)])) _
    refine XS.istore X_1.here hx rfl (hb hby d4_6) rfl (l' := #[.val (.ref a), .val (.int p1), .val (.ref cl), .val (.int (3 : Int32)), .val (.int p4), .val (.int bs), .unset]) rfl ?_
    show Steps p.tables e below (T_1.setTop (mkF m 8 #[.val (.ref a), .val (.int p1), .val (.ref cl), .val (.int (3 : Int32)), .val (.int p4), .val (.int bs), .unset] [])) _
    refine XS.iconst X_1.here hx rfl (hb hby d4_8) ?_
    show Steps p.tables e below (T_1.setTop (mkF m 9 #[.val (.ref a), .val (.int p1), .val (.ref cl), .val (.int (3 : Int32)), .val (.int p4), .val (.int bs), .unset] [(.int (0 : Int32))])) _
    refine XS.istore X_1.here hx rfl (hb hby d4_9) rfl (l' := #[.val (.ref a), .val (.int p1), .val (.ref cl), .val (.int (3 : Int32)), .val (.int p4), .val (.int bs), .val (.int (0 : Int32))]) rfl ?_
    show Steps p.tables e below (T_1.setTop (mkF m 11 #[.val (.ref a), .val (.int p1), .val (.ref cl), .val (.int (3 : Int32)), .val (.int p4), .val (.int bs), .val (.int (0 : Int32))] [])) _
    refine XS.iload X_1.here hx rfl (hb hby d4_11) rfl ?_
    show Steps p.tables e below (T_1.setTop (mkF m 13 #[.val (.ref a), .val (.int p1), .val (.ref cl), .val (.int (3 : Int32)), .val (.int p4), .val (.int bs), .val (.int (0 : Int32))] [(.int (0 : Int32))])) _
    refine XS.iloadN X_1.here hx rfl (hb hby d4_13) rfl ?_
    show Steps p.tables e below (T_1.setTop (mkF m 14 #[.val (.ref a), .val (.int p1), .val (.ref cl), .val (.int (3 : Int32)), .val (.int p4), .val (.int bs), .val (.int (0 : Int32))] [(.int (3 : Int32)), (.int (0 : Int32))])) _
    refine XS.icmpNo X_1.here hx rfl (hb hby d4_14) rfl (tlt ((by decide) : (0 : Int32) < (3 : Int32))).2.1 ?_
    show Steps p.tables e below (T_1.setTop (mkF m 17 #[.val (.ref a), .val (.int p1), .val (.ref cl), .val (.int (3 : Int32)), .val (.int p4), .val (.int bs), .val (.int (0 : Int32))] [])) _
    refine XS.aloadN X_1.here hx rfl (hb hby d4_17) rfl rfl ?_
    show Steps p.tables e below (T_1.setTop (mkF m 18 #[.val (.ref a), .val (.int p1), .val (.ref cl), .val (.int (3 : Int32)), .val (.int p4), .val (.int bs), .val (.int (0 : Int32))] [(.ref a)])) _
    refine st_2 _ ?_
    show Steps p.tables e below (T_2.setTop (mkF m 21 #[.val (.ref a), .val (.int p1), .val (.ref cl), .val (.int (3 : Int32)), .val (.int p4), .val (.int bs), .val (.int (0 : Int32))] [(.ref b)])) _
    refine XS.iload X_2.here hx rfl (hb hby d4_21) rfl ?_
    show Steps p.tables e below (T_2.setTop (mkF m 23 #[.val (.ref a), .val (.int p1), .val (.ref cl), .val (.int (3 : Int32)), .val (.int p4), .val (.int bs), .val (.int (0 : Int32))] [(.int bs), (.ref b)])) _
    refine XS.aloadN X_2.here hx rfl (hb hby d4_23) rfl rfl ?_
    show Steps p.tables e below (T_2.setTop (mkF m 24 #[.val (.ref a), .val (.int p1), .val (.ref cl), .val (.int (3 : Int32)), .val (.int p4), .val (.int bs), .val (.int (0 : Int32))] [(.ref cl), (.int bs), (.ref b)])) _
    refine XS.iload X_2.here hx rfl (hb hby d4_24) rfl ?_
    show Steps p.tables e below (T_2.setTop (mkF m 26 #[.val (.ref a), .val (.int p1), .val (.ref cl), .val (.int (3 : Int32)), .val (.int p4), .val (.int bs), .val (.int (0 : Int32))] [(.int (0 : Int32)), (.ref cl), (.int bs), (.ref b)])) _
    refine X_2.iaload hx (j := (0 : Int32)) (v := (.int c0)) (by rw [e_2]; exact Ar_3.1) (State.isArrayOf_alike hZ.alike Ar_3.2.1) Ar_3.2.2 (inb_of Sz_3 ⟨(by decide), hcl0⟩) ((Hz_3 _ (own_idx (by decide) hcl0)).trans (congrArg some hfc0)) (g := (mkF m 26 #[.val (.ref a), .val (.int p1), .val (.ref cl), .val (.int (3 : Int32)), .val (.int p4), .val (.int bs), .val (.int (0 : Int32))] [(.int (0 : Int32)), (.ref cl), (.int bs), (.ref b)])) rfl rfl (hb hby d4_26) _ ?_
    show Steps p.tables e below (T_2.setTop (mkF m 27 #[.val (.ref a), .val (.int p1), .val (.ref cl), .val (.int (3 : Int32)), .val (.int p4), .val (.int bs), .val (.int (0 : Int32))] [(.int c0), (.int bs), (.ref b)])) _
    refine XS.iadd X_2.here hx rfl (hb hby d4_27) rfl ?_
    show Steps p.tables e below (T_2.setTop (mkF m 28 #[.val (.ref a), .val (.int p1), .val (.ref cl), .val (.int (3 : Int32)), .val (.int p4), .val (.int bs), .val (.int (0 : Int32))] [(.int (bs + c0)), (.ref b)])) _
    rw [he0_]
    show Steps p.tables e below (T_2.setTop (mkF m 28 #[.val (.ref a), .val (.int p1), .val (.ref cl), .val (.int (3 : Int32)), .val (.int p4), .val (.int bs), .val (.int (0 : Int32))] [(.int u0), (.ref b)])) _
    refine XS.iload X_2.here hx rfl (hb hby d4_28) rfl ?_
    show Steps p.tables e below (T_2.setTop (mkF m 30 #[.val (.ref a), .val (.int p1), .val (.ref cl), .val (.int (3 : Int32)), .val (.int p4), .val (.int bs), .val (.int (0 : Int32))] [(.int p4), (.int u0), (.ref b)])) _
    refine st_4 _ ?_
    show Steps p.tables e below (T_4.setTop (mkF m 31 #[.val (.ref a), .val (.int p1), .val (.ref cl), .val (.int (3 : Int32)), .val (.int p4), .val (.int bs), .val (.int (0 : Int32))] [])) _
    refine XS.iinc X_4.here hx rfl (hb hby d4_31) rfl (l' := #[.val (.ref a), .val (.int p1), .val (.ref cl), .val (.int (3 : Int32)), .val (.int p4), .val (.int bs), .val (.int ((0 : Int32) + (1 : Int32)))]) rfl ?_
    show Steps p.tables e below (T_4.setTop (mkF m 34 #[.val (.ref a), .val (.int p1), .val (.ref cl), .val (.int (3 : Int32)), .val (.int p4), .val (.int bs), .val (.int ((0 : Int32) + (1 : Int32)))] [])) _
    rw [show ((0 : Int32) + (1 : Int32)) = (1 : Int32) from by decide]
    show Steps p.tables e below (T_4.setTop (mkF m 34 #[.val (.ref a), .val (.int p1), .val (.ref cl), .val (.int (3 : Int32)), .val (.int p4), .val (.int bs), .val (.int (1 : Int32))] [])) _
    refine XS.goto X_4.here hx rfl (pc0 := 34) (pc' := 11) rfl (hb hby d4_34) (by decide) (by decide) ?_
    show Steps p.tables e below (T_4.setTop (mkF m 11 #[.val (.ref a), .val (.int p1), .val (.ref cl), .val (.int (3 : Int32)), .val (.int p4), .val (.int bs), .val (.int (1 : Int32))] [])) _
    refine XS.iload X_4.here hx rfl (hb hby d4_11) rfl ?_
    show Steps p.tables e below (T_4.setTop (mkF m 13 #[.val (.ref a), .val (.int p1), .val (.ref cl), .val (.int (3 : Int32)), .val (.int p4), .val (.int bs), .val (.int (1 : Int32))] [(.int (1 : Int32))])) _
    refine XS.iloadN X_4.here hx rfl (hb hby d4_13) rfl ?_
    show Steps p.tables e below (T_4.setTop (mkF m 14 #[.val (.ref a), .val (.int p1), .val (.ref cl), .val (.int (3 : Int32)), .val (.int p4), .val (.int bs), .val (.int (1 : Int32))] [(.int (3 : Int32)), (.int (1 : Int32))])) _
    refine XS.icmpNo X_4.here hx rfl (hb hby d4_14) rfl (tlt ((by decide) : (1 : Int32) < (3 : Int32))).2.1 ?_
    show Steps p.tables e below (T_4.setTop (mkF m 17 #[.val (.ref a), .val (.int p1), .val (.ref cl), .val (.int (3 : Int32)), .val (.int p4), .val (.int bs), .val (.int (1 : Int32))] [])) _
    refine XS.aloadN X_4.here hx rfl (hb hby d4_17) rfl rfl ?_
    show Steps p.tables e below (T_4.setTop (mkF m 18 #[.val (.ref a), .val (.int p1), .val (.ref cl), .val (.int (3 : Int32)), .val (.int p4), .val (.int bs), .val (.int (1 : Int32))] [(.ref a)])) _
    refine st_8 _ ?_
    show Steps p.tables e below (T_8.setTop (mkF m 21 #[.val (.ref a), .val (.int p1), .val (.ref cl), .val (.int (3 : Int32)), .val (.int p4), .val (.int bs), .val (.int (1 : Int32))] [(.ref b)])) _
    refine XS.iload X_8.here hx rfl (hb hby d4_21) rfl ?_
    show Steps p.tables e below (T_8.setTop (mkF m 23 #[.val (.ref a), .val (.int p1), .val (.ref cl), .val (.int (3 : Int32)), .val (.int p4), .val (.int bs), .val (.int (1 : Int32))] [(.int bs), (.ref b)])) _
    refine XS.aloadN X_8.here hx rfl (hb hby d4_23) rfl rfl ?_
    show Steps p.tables e below (T_8.setTop (mkF m 24 #[.val (.ref a), .val (.int p1), .val (.ref cl), .val (.int (3 : Int32)), .val (.int p4), .val (.int bs), .val (.int (1 : Int32))] [(.ref cl), (.int bs), (.ref b)])) _
    refine XS.iload X_8.here hx rfl (hb hby d4_24) rfl ?_
    show Steps p.tables e below (T_8.setTop (mkF m 26 #[.val (.ref a), .val (.int p1), .val (.ref cl), .val (.int (3 : Int32)), .val (.int p4), .val (.int bs), .val (.int (1 : Int32))] [(.int (1 : Int32)), (.ref cl), (.int bs), (.ref b)])) _
    refine X_8.iaload hx (j := (1 : Int32)) (v := (.int c1)) (by rw [e_8]; exact Ar_9.1) (State.isArrayOf_alike hZ.alike Ar_9.2.1) Ar_9.2.2 (inb_of Sz_9 ⟨(by decide), hcl1⟩) ((Hz_9 _ (own_idx (by decide) hcl1)).trans (congrArg some hfc1)) (g := (mkF m 26 #[.val (.ref a), .val (.int p1), .val (.ref cl), .val (.int (3 : Int32)), .val (.int p4), .val (.int bs), .val (.int (1 : Int32))] [(.int (1 : Int32)), (.ref cl), (.int bs), (.ref b)])) rfl rfl (hb hby d4_26) _ ?_
    show Steps p.tables e below (T_8.setTop (mkF m 27 #[.val (.ref a), .val (.int p1), .val (.ref cl), .val (.int (3 : Int32)), .val (.int p4), .val (.int bs), .val (.int (1 : Int32))] [(.int c1), (.int bs), (.ref b)])) _
    refine XS.iadd X_8.here hx rfl (hb hby d4_27) rfl ?_
    show Steps p.tables e below (T_8.setTop (mkF m 28 #[.val (.ref a), .val (.int p1), .val (.ref cl), .val (.int (3 : Int32)), .val (.int p4), .val (.int bs), .val (.int (1 : Int32))] [(.int (bs + c1)), (.ref b)])) _
    rw [he1_]
    show Steps p.tables e below (T_8.setTop (mkF m 28 #[.val (.ref a), .val (.int p1), .val (.ref cl), .val (.int (3 : Int32)), .val (.int p4), .val (.int bs), .val (.int (1 : Int32))] [(.int u1), (.ref b)])) _
    refine XS.iload X_8.here hx rfl (hb hby d4_28) rfl ?_
    show Steps p.tables e below (T_8.setTop (mkF m 30 #[.val (.ref a), .val (.int p1), .val (.ref cl), .val (.int (3 : Int32)), .val (.int p4), .val (.int bs), .val (.int (1 : Int32))] [(.int p4), (.int u1), (.ref b)])) _
    refine st_11 _ ?_
    show Steps p.tables e below (T_11.setTop (mkF m 31 #[.val (.ref a), .val (.int p1), .val (.ref cl), .val (.int (3 : Int32)), .val (.int p4), .val (.int bs), .val (.int (1 : Int32))] [])) _
    refine XS.iinc X_11.here hx rfl (hb hby d4_31) rfl (l' := #[.val (.ref a), .val (.int p1), .val (.ref cl), .val (.int (3 : Int32)), .val (.int p4), .val (.int bs), .val (.int ((1 : Int32) + (1 : Int32)))]) rfl ?_
    show Steps p.tables e below (T_11.setTop (mkF m 34 #[.val (.ref a), .val (.int p1), .val (.ref cl), .val (.int (3 : Int32)), .val (.int p4), .val (.int bs), .val (.int ((1 : Int32) + (1 : Int32)))] [])) _
    rw [show ((1 : Int32) + (1 : Int32)) = (2 : Int32) from by decide]
    show Steps p.tables e below (T_11.setTop (mkF m 34 #[.val (.ref a), .val (.int p1), .val (.ref cl), .val (.int (3 : Int32)), .val (.int p4), .val (.int bs), .val (.int (2 : Int32))] [])) _
    refine XS.goto X_11.here hx rfl (pc0 := 34) (pc' := 11) rfl (hb hby d4_34) (by decide) (by decide) ?_
    show Steps p.tables e below (T_11.setTop (mkF m 11 #[.val (.ref a), .val (.int p1), .val (.ref cl), .val (.int (3 : Int32)), .val (.int p4), .val (.int bs), .val (.int (2 : Int32))] [])) _
    refine XS.iload X_11.here hx rfl (hb hby d4_11) rfl ?_
    show Steps p.tables e below (T_11.setTop (mkF m 13 #[.val (.ref a), .val (.int p1), .val (.ref cl), .val (.int (3 : Int32)), .val (.int p4), .val (.int bs), .val (.int (2 : Int32))] [(.int (2 : Int32))])) _
    refine XS.iloadN X_11.here hx rfl (hb hby d4_13) rfl ?_
    show Steps p.tables e below (T_11.setTop (mkF m 14 #[.val (.ref a), .val (.int p1), .val (.ref cl), .val (.int (3 : Int32)), .val (.int p4), .val (.int bs), .val (.int (2 : Int32))] [(.int (3 : Int32)), (.int (2 : Int32))])) _
    refine XS.icmpNo X_11.here hx rfl (hb hby d4_14) rfl (tlt ((by decide) : (2 : Int32) < (3 : Int32))).2.1 ?_
    show Steps p.tables e below (T_11.setTop (mkF m 17 #[.val (.ref a), .val (.int p1), .val (.ref cl), .val (.int (3 : Int32)), .val (.int p4), .val (.int bs), .val (.int (2 : Int32))] [])) _
    refine XS.aloadN X_11.here hx rfl (hb hby d4_17) rfl rfl ?_
    show Steps p.tables e below (T_11.setTop (mkF m 18 #[.val (.ref a), .val (.int p1), .val (.ref cl), .val (.int (3 : Int32)), .val (.int p4), .val (.int bs), .val (.int (2 : Int32))] [(.ref a)])) _
    refine st_15 _ ?_
    show Steps p.tables e below (T_15.setTop (mkF m 21 #[.val (.ref a), .val (.int p1), .val (.ref cl), .val (.int (3 : Int32)), .val (.int p4), .val (.int bs), .val (.int (2 : Int32))] [(.ref b)])) _
    refine XS.iload X_15.here hx rfl (hb hby d4_21) rfl ?_
    show Steps p.tables e below (T_15.setTop (mkF m 23 #[.val (.ref a), .val (.int p1), .val (.ref cl), .val (.int (3 : Int32)), .val (.int p4), .val (.int bs), .val (.int (2 : Int32))] [(.int bs), (.ref b)])) _
    refine XS.aloadN X_15.here hx rfl (hb hby d4_23) rfl rfl ?_
    show Steps p.tables e below (T_15.setTop (mkF m 24 #[.val (.ref a), .val (.int p1), .val (.ref cl), .val (.int (3 : Int32)), .val (.int p4), .val (.int bs), .val (.int (2 : Int32))] [(.ref cl), (.int bs), (.ref b)])) _
    refine XS.iload X_15.here hx rfl (hb hby d4_24) rfl ?_
    show Steps p.tables e below (T_15.setTop (mkF m 26 #[.val (.ref a), .val (.int p1), .val (.ref cl), .val (.int (3 : Int32)), .val (.int p4), .val (.int bs), .val (.int (2 : Int32))] [(.int (2 : Int32)), (.ref cl), (.int bs), (.ref b)])) _
    refine X_15.iaload hx (j := (2 : Int32)) (v := (.int c2)) (by rw [e_15]; exact Ar_16.1) (State.isArrayOf_alike hZ.alike Ar_16.2.1) Ar_16.2.2 (inb_of Sz_16 ⟨(by decide), hcl2⟩) ((Hz_16 _ (own_idx (by decide) hcl2)).trans (congrArg some hfc2)) (g := (mkF m 26 #[.val (.ref a), .val (.int p1), .val (.ref cl), .val (.int (3 : Int32)), .val (.int p4), .val (.int bs), .val (.int (2 : Int32))] [(.int (2 : Int32)), (.ref cl), (.int bs), (.ref b)])) rfl rfl (hb hby d4_26) _ ?_
    show Steps p.tables e below (T_15.setTop (mkF m 27 #[.val (.ref a), .val (.int p1), .val (.ref cl), .val (.int (3 : Int32)), .val (.int p4), .val (.int bs), .val (.int (2 : Int32))] [(.int c2), (.int bs), (.ref b)])) _
    refine XS.iadd X_15.here hx rfl (hb hby d4_27) rfl ?_
    show Steps p.tables e below (T_15.setTop (mkF m 28 #[.val (.ref a), .val (.int p1), .val (.ref cl), .val (.int (3 : Int32)), .val (.int p4), .val (.int bs), .val (.int (2 : Int32))] [(.int (bs + c2)), (.ref b)])) _
    rw [he2_]
    show Steps p.tables e below (T_15.setTop (mkF m 28 #[.val (.ref a), .val (.int p1), .val (.ref cl), .val (.int (3 : Int32)), .val (.int p4), .val (.int bs), .val (.int (2 : Int32))] [(.int u2), (.ref b)])) _
    refine XS.iload X_15.here hx rfl (hb hby d4_28) rfl ?_
    show Steps p.tables e below (T_15.setTop (mkF m 30 #[.val (.ref a), .val (.int p1), .val (.ref cl), .val (.int (3 : Int32)), .val (.int p4), .val (.int bs), .val (.int (2 : Int32))] [(.int p4), (.int u2), (.ref b)])) _
    refine st_18 _ ?_
    show Steps p.tables e below (T_18.setTop (mkF m 31 #[.val (.ref a), .val (.int p1), .val (.ref cl), .val (.int (3 : Int32)), .val (.int p4), .val (.int bs), .val (.int (2 : Int32))] [])) _
    refine XS.iinc X_18.here hx rfl (hb hby d4_31) rfl (l' := #[.val (.ref a), .val (.int p1), .val (.ref cl), .val (.int (3 : Int32)), .val (.int p4), .val (.int bs), .val (.int ((2 : Int32) + (1 : Int32)))]) rfl ?_
    show Steps p.tables e below (T_18.setTop (mkF m 34 #[.val (.ref a), .val (.int p1), .val (.ref cl), .val (.int (3 : Int32)), .val (.int p4), .val (.int bs), .val (.int ((2 : Int32) + (1 : Int32)))] [])) _
    rw [show ((2 : Int32) + (1 : Int32)) = (3 : Int32) from by decide]
    show Steps p.tables e below (T_18.setTop (mkF m 34 #[.val (.ref a), .val (.int p1), .val (.ref cl), .val (.int (3 : Int32)), .val (.int p4), .val (.int bs), .val (.int (3 : Int32))] [])) _
    refine XS.goto X_18.here hx rfl (pc0 := 34) (pc' := 11) rfl (hb hby d4_34) (by decide) (by decide) ?_
    show Steps p.tables e below (T_18.setTop (mkF m 11 #[.val (.ref a), .val (.int p1), .val (.ref cl), .val (.int (3 : Int32)), .val (.int p4), .val (.int bs), .val (.int (3 : Int32))] [])) _
    refine XS.iload X_18.here hx rfl (hb hby d4_11) rfl ?_
    show Steps p.tables e below (T_18.setTop (mkF m 13 #[.val (.ref a), .val (.int p1), .val (.ref cl), .val (.int (3 : Int32)), .val (.int p4), .val (.int bs), .val (.int (3 : Int32))] [(.int (3 : Int32))])) _
    refine XS.iloadN X_18.here hx rfl (hb hby d4_13) rfl ?_
    show Steps p.tables e below (T_18.setTop (mkF m 14 #[.val (.ref a), .val (.int p1), .val (.ref cl), .val (.int (3 : Int32)), .val (.int p4), .val (.int bs), .val (.int (3 : Int32))] [(.int (3 : Int32)), (.int (3 : Int32))])) _
    refine XS.icmpYes X_18.here hx rfl (pc0 := 14) (pc' := 37) rfl (hb hby d4_14) rfl (flt ((by decide) : ¬ ((3 : Int32) < (3 : Int32)))).2.1 (by decide) (by decide) ?_
    show Steps p.tables e below (T_18.setTop (mkF m 37 #[.val (.ref a), .val (.int p1), .val (.ref cl), .val (.int (3 : Int32)), .val (.int p4), .val (.int bs), .val (.int (3 : Int32))] [])) _
    exact X_18.returnOut hx Bd.returns (hb hby d4_37) hr
  · show Q4 Z b np g h0 n0 _ T_18.heap _
    rw [e_18]
    exact ⟨rfl, N_18, K_18, (Vw_18.congr fun j _ => hg_ j)⟩
set_option maxRecDepth 65536 in
set_option maxHeartbeats 40000000 in
theorem rm4_4 (l : Launch) (Z : State) (a0 : Array Value) (hw : ∀ d ∈ tables_1, d.before a0 Z = true) (ws : List Jvm.Cond) (a : Addr) (p1 : Int32) (cl : Addr) (p4 : Int32) (wi : Int32) (b : Addr) (np : Int32) (nc : Int32) (fc : Nat → Value) (bs : Int32) (c0 : Int32) (c1 : Int32) (c2 : Int32) (c3 : Int32) (u0 : Int32) (u1 : Int32) (u2 : Int32) (u3 : Int32) (g : Nat → Value) (h0 : Heap) (n0 : Nat) (Z0 : n0 ≤ h0.size) (F_w : Fld Z h0 a "featherpane/Surface" "width" "I" (.int wi)) (F_p : Fld Z h0 a "featherpane/Surface" "pixels" "[I" (.ref b)) (V_b : ArrF Z h0 b .int np (fun _ => (Value.int (0 : Int32)))) (V_c : ArrF Z h0 cl .int nc fc) (g_b : n0 ≤ b) (ne_ab : a ≠ b) (ne_cb : cl ≠ b) (hbs_ : (p1 * wi) = bs) (hcl0 : (0 : Int32) < nc) (hfc0 : fc (0 : Int32).toNatClampNeg = .int c0) (he0_ : (bs + c0) = u0) (hp0 : ¬ u0 < 0) (hq0 : u0 < np) (hcl1 : (1 : Int32) < nc) (hfc1 : fc (1 : Int32).toNatClampNeg = .int c1) (he1_ : (bs + c1) = u1) (hp1 : ¬ u1 < 0) (hq1 : u1 < np) (hcl2 : (2 : Int32) < nc) (hfc2 : fc (2 : Int32).toNatClampNeg = .int c2) (he2_ : (bs + c2) = u2) (hp2 : ¬ u2 < 0) (hq2 : u2 < np) (hcl3 : (3 : Int32) < nc) (hfc3 : fc (3 : Int32).toNatClampNeg = .int c3) (he3_ : (bs + c3) = u3) (hp3 : ¬ u3 < 0) (hq3 : u3 < np) (hg_ : ∀ j, (fun j => if j = u3.toNatClampNeg then Value.int p4 else (fun j => if j = u2.toNatClampNeg then Value.int p4 else (fun j => if j = u1.toNatClampNeg then Value.int p4 else (fun j => if j = u0.toNatClampNeg then Value.int p4 else (fun _ => (Value.int (0 : Int32))) j) j) j) j) j = g j) :
    MetFree l (⟨"featherpane/Surface", "fillPixels", "(I[III)V"⟩ : MethodName) (head1 (Jvm.Cond.code (⟨"featherpane/Surface", "fillPixels", "(I[III)V"⟩ : MethodName) prog_69_method_9_code 7 none :: ws) ({ frames := 0, cells := 0, slots := 0, locals := 0 } : Room)) (fun as_ U => as_ = #[(.ref a), (.int p1), (.ref cl), (.int (4 : Int32)), (.int p4)] ∧ Z.Warmed39 U.vm ∧ U.heap = h0) (fun _ _ _ _ _ => True) (fun _ U o U' => ∃ v L, o = .returned v ∧ Q4 Z b np g h0 n0 v U'.heap L ∧ FrameEnd U o U' L ({ frames := 0, cells := 0, slots := 0, locals := 0 } : Room).cells ({ frames := 0, cells := 0, slots := 0, locals := 0 } : Room).slots) := by
  refine MetFree.of_bodySF (plainFor_of_name pn_4) hisR ?_
  intro p e s m args below meth c s₁ Bd hml0 hP hK
  obtain ⟨rfl, hZ, hh⟩ := hP
  have hx := Bd.exec
  have hby := Bd.bytes
  have hml : c.maxLocals = 7 := hml0
  have hown : s.vm.findClass "featherpane/Surface" = some m.cls := findClass_of_methodNamed Bd.named
  have hnm := (name_of_methodNamed Bd.named Bd.method).1
  have X0 : Stand p l e ({ frames := 0, cells := 0, slots := 0, locals := 0 } : Room) s m #[(.ref a), (.int p1), (.ref cl), (.int (4 : Int32)), (.int p4)] below meth c s₁ [] 0 0 := Stand.of_body Bd
  have e0 : s₁.heap = h0 := by rw [← hh, Bd.state]; rfl
  have N0 := Fr.nil n0
  have pre0 : ∀ t, Steps p.tables e below (s₁.setTop (mkF m 0 #[.val (.ref a), .val (.int p1), .val (.ref cl), .val (.int (4 : Int32)), .val (.int p4), .unset, .unset] [])) t → Steps p.tables e below (s₁.setTop (entryFrame m #[(.ref a), (.int p1), (.ref cl), (.int (4 : Int32)), (.int p4)] 7)) t := fun t k => castTop (ef_4 m a p1 cl (4 : Int32) p4) k
  obtain ⟨T_1, X_1, e_1, st_1⟩ := getF X0 hx hZ hown (host := "") (Or.inl (hw _ (List.mem_of_getElem? (i := 16) rfl))) Via.refl e0 F_w (g := (mkF m 2 #[.val (.ref a), .val (.int p1), .val (.ref cl), .val (.int (4 : Int32)), .val (.int p4), .unset, .unset] [(.ref a), (.int p1)])) rfl rfl (hb hby d4_2)
  obtain ⟨T_2, X_2, e_2, st_2⟩ := getF X_1 hx hZ hown (host := "") (Or.inl (hw _ (List.mem_of_getElem? (i := 20) rfl))) Via.refl e_1 F_p (g := (mkF m 18 #[.val (.ref a), .val (.int p1), .val (.ref cl), .val (.int (4 : Int32)), .val (.int p4), .val (.int bs), .val (.int (0 : Int32))] [(.ref a)])) rfl rfl (hb hby d4_18)
  obtain ⟨cl_3, Ar_3, Sz_3, Mz_3, Hz_3⟩ := id V_c
  obtain ⟨cl_5, Ar_5, Sz_5, Mz_5, Hz_5⟩ := id V_b
  obtain ⟨T_4, h_4, X_4, e_4, W_4, st_4⟩ := stI X_2 hx hZ e_2 Ar_5 (j := u0) (inb_of Sz_5 ⟨hp0, hq0⟩) (g := (mkF m 30 #[.val (.ref a), .val (.int p1), .val (.ref cl), .val (.int (4 : Int32)), .val (.int p4), .val (.int bs), .val (.int (0 : Int32))] [(.int p4), (.int u0), (.ref b)])) rfl rfl (hb hby d4_30)
  have K_4 : Keep h0 h_4 [b] := (Keep.refl h0 [b]).wr W_4 (Or.inl (List.mem_of_getElem? (i := 0) rfl))
  have N_4 := Fr.snoc X_4 N0 g_b
  have Z_6 : n0 ≤ h_4.size := Nat.le_trans Z0 (Keep.of_wr W_4).1
  have Vw_4 := ArrF.set Ar_5 Sz_5 Mz_5 Hz_5 W_4
  have f_7_F_a_pixels := (F_p.other W_4 (Or.inl ne_ab))
  obtain ⟨T_8, X_8, e_8, st_8⟩ := getF X_4 hx hZ hown (host := "") (Or.inl (hw _ (List.mem_of_getElem? (i := 20) rfl))) Via.refl e_4 f_7_F_a_pixels (g := (mkF m 18 #[.val (.ref a), .val (.int p1), .val (.ref cl), .val (.int (4 : Int32)), .val (.int p4), .val (.int bs), .val (.int (1 : Int32))] [(.ref a)])) rfl rfl (hb hby d4_18)
  have f_10_V_cl := (V_c.other W_4 ne_cb)
  obtain ⟨cl_9, Ar_9, Sz_9, Mz_9, Hz_9⟩ := id f_10_V_cl
  obtain ⟨cl_12, Ar_12, Sz_12, Mz_12, Hz_12⟩ := id Vw_4
  obtain ⟨T_11, h_11, X_11, e_11, W_11, st_11⟩ := stI X_8 hx hZ e_8 Ar_12 (j := u1) (inb_of Sz_12 ⟨hp1, hq1⟩) (g := (mkF m 30 #[.val (.ref a), .val (.int p1), .val (.ref cl), .val (.int (4 : Int32)), .val (.int p4), .val (.int bs), .val (.int (1 : Int32))] [(.int p4), (.int u1), (.ref b)])) rfl rfl (hb hby d4_30)
  have K_11 : Keep h0 h_11 [b] := K_4.wr W_11 (Or.inl (List.mem_of_getElem? (i := 0) rfl))
  have N_11 := Fr.snoc X_11 N_4 g_b
  have Z_13 : n0 ≤ h_11.size := Nat.le_trans Z_6 (Keep.of_wr W_11).1
  have Vw_11 := ArrF.set Ar_12 Sz_12 Mz_12 Hz_12 W_11
  have f_14_F_a_pixels := (f_7_F_a_pixels.other W_11 (Or.inl ne_ab))
  obtain ⟨T_15, X_15, e_15, st_15⟩ := getF X_11 hx hZ hown (host := "") (Or.inl (hw _ (List.mem_of_getElem? (i := 20) rfl))) Via.refl e_11 f_14_F_a_pixels (g := (mkF m 18 #[.val (.ref a), .val (.int p1), .val (.ref cl), .val (.int (4 : Int32)), .val (.int p4), .val (.int bs), .val (.int (2 : Int32))] [(.ref a)])) rfl rfl (hb hby d4_18)
  have f_17_V_cl := (f_10_V_cl.other W_11 ne_cb)
  obtain ⟨cl_16, Ar_16, Sz_16, Mz_16, Hz_16⟩ := id f_17_V_cl
  obtain ⟨cl_19, Ar_19, Sz_19, Mz_19, Hz_19⟩ := id Vw_11
  obtain ⟨T_18, h_18, X_18, e_18, W_18, st_18⟩ := stI X_15 hx hZ e_15 Ar_19 (j := u2) (inb_of Sz_19 ⟨hp2, hq2⟩) (g := (mkF m 30 #[.val (.ref a), .val (.int p1), .val (.ref cl), .val (.int (4 : Int32)), .val (.int p4), .val (.int bs), .val (.int (2 : Int32))] [(.int p4), (.int u2), (.ref b)])) rfl rfl (hb hby d4_30)
  have K_18 : Keep h0 h_18 [b] := K_11.wr W_18 (Or.inl (List.mem_of_getElem? (i := 0) rfl))
  have N_18 := Fr.snoc X_18 N_11 g_b
  have Z_20 : n0 ≤ h_18.size := Nat.le_trans Z_13 (Keep.of_wr W_18).1
  have Vw_18 := ArrF.set Ar_19 Sz_19 Mz_19 Hz_19 W_18
  have f_21_F_a_pixels := (f_14_F_a_pixels.other W_18 (Or.inl ne_ab))
  obtain ⟨T_22, X_22, e_22, st_22⟩ := getF X_18 hx hZ hown (host := "") (Or.inl (hw _ (List.mem_of_getElem? (i := 20) rfl))) Via.refl e_18 f_21_F_a_pixels (g := (mkF m 18 #[.val (.ref a), .val (.int p1), .val (.ref cl), .val (.int (4 : Int32)), .val (.int p4), .val (.int bs), .val (.int (3 : Int32))] [(.ref a)])) rfl rfl (hb hby d4_18)
  have f_24_V_cl := (f_17_V_cl.other W_18 ne_cb)
  obtain ⟨cl_23, Ar_23, Sz_23, Mz_23, Hz_23⟩ := id f_24_V_cl
  obtain ⟨cl_26, Ar_26, Sz_26, Mz_26, Hz_26⟩ := id Vw_18
  obtain ⟨T_25, h_25, X_25, e_25, W_25, st_25⟩ := stI X_22 hx hZ e_22 Ar_26 (j := u3) (inb_of Sz_26 ⟨hp3, hq3⟩) (g := (mkF m 30 #[.val (.ref a), .val (.int p1), .val (.ref cl), .val (.int (4 : Int32)), .val (.int p4), .val (.int bs), .val (.int (3 : Int32))] [(.int p4), (.int u3), (.ref b)])) rfl rfl (hb hby d4_30)
  have K_25 : Keep h0 h_25 [b] := K_18.wr W_25 (Or.inl (List.mem_of_getElem? (i := 0) rfl))
  have N_25 := Fr.snoc X_25 N_18 g_b
  have Z_27 : n0 ≤ h_25.size := Nat.le_trans Z_20 (Keep.of_wr W_25).1
  have Vw_25 := ArrF.set Ar_26 Sz_26 Mz_26 Hz_26 W_25
  obtain ⟨fs, hr, hrun, hended, hW, hsame⟩ := X_25.leave (v := none) (fun _ => rfl)
  refine ⟨_, _, pre0 _ ?_, hrun, hended, _, _, rfl, ?_, ⟨_, rfl⟩, hW, hsame.mono (by decide) (by decide)⟩
  · show Steps p.tables e below (s₁.setTop (mkF m 0 #[.val (.ref a), .val (.int p1), .val (.ref cl), .val (.int (4 : Int32)), .val (.int p4), .unset, .unset] [])) _
    refine XS.iloadN X0.here hx rfl (hb hby d4_0) rfl ?_
    show Steps p.tables e below (s₁.setTop (mkF m 1 #[.val (.ref a), .val (.int p1), .val (.ref cl), .val (.int (4 : Int32)), .val (.int p4), .unset, .unset] [(.int p1)])) _
    refine XS.aloadN X0.here hx rfl (hb hby d4_1) rfl rfl ?_
    show Steps p.tables e below (s₁.setTop (mkF m 2 #[.val (.ref a), .val (.int p1), .val (.ref cl), .val (.int (4 : Int32)), .val (.int p4), .unset, .unset] [(.ref a), (.int p1)])) _
    refine st_1 _ ?_
    show Steps p.tables e below (T_1.setTop (mkF m 5 #[.val (.ref a), .val (.int p1), .val (.ref cl), .val (.int (4 : Int32)), .val (.int p4), .unset, .unset] [(.int wi), (.int p1)])) _
    refine XS.imul X_1.here hx rfl (hb hby d4_5) rfl ?_
    show Steps p.tables e below (T_1.setTop (mkF m 6 #[.val (.ref a), .val (.int p1), .val (.ref cl), .val (.int (4 : Int32)), .val (.int p4), .unset, .unset] [(.int (p1 * wi))])) _
    rw [hbs_]
    show Steps p.tables e below (T_1.setTop (mkF m 6 #[.val (.ref a), .val (.int p1), .val (.ref cl), .val (.int (4 : Int32)), .val (.int p4), .unset, .unset] [(.int bs)])) _
    refine XS.istore X_1.here hx rfl (hb hby d4_6) rfl (l' := #[.val (.ref a), .val (.int p1), .val (.ref cl), .val (.int (4 : Int32)), .val (.int p4), .val (.int bs), .unset]) rfl ?_
    show Steps p.tables e below (T_1.setTop (mkF m 8 #[.val (.ref a), .val (.int p1), .val (.ref cl), .val (.int (4 : Int32)), .val (.int p4), .val (.int bs), .unset] [])) _
    refine XS.iconst X_1.here hx rfl (hb hby d4_8) ?_
    show Steps p.tables e below (T_1.setTop (mkF m 9 #[.val (.ref a), .val (.int p1), .val (.ref cl), .val (.int (4 : Int32)), .val (.int p4), .val (.int bs), .unset] [(.int (0 : Int32))])) _
    refine XS.istore X_1.here hx rfl (hb hby d4_9) rfl (l' := #[.val (.ref a), .val (.int p1), .val (.ref cl), .val (.int (4 : Int32)), .val (.int p4), .val (.int bs), .val (.int (0 : Int32))]) rfl ?_
    show Steps p.tables e below (T_1.setTop (mkF m 11 #[.val (.ref a), .val (.int p1), .val (.ref cl), .val (.int (4 : Int32)), .val (.int p4), .val (.int bs), .val (.int (0 : Int32))] [])) _
    refine XS.iload X_1.here hx rfl (hb hby d4_11) rfl ?_
    show Steps p.tables e below (T_1.setTop (mkF m 13 #[.val (.ref a), .val (.int p1), .val (.ref cl), .val (.int (4 : Int32)), .val (.int p4), .val (.int bs), .val (.int (0 : Int32))] [(.int (0 : Int32))])) _
    refine XS.iloadN X_1.here hx rfl (hb hby d4_13) rfl ?_
    show Steps p.tables e below (T_1.setTop (mkF m 14 #[.val (.ref a), .val (.int p1), .val (.ref cl), .val (.int (4 : Int32)), .val (.int p4), .val (.int bs), .val (.int (0 : Int32))] [(.int (4 : Int32)), (.int (0 : Int32))])) _
    refine XS.icmpNo X_1.here hx rfl (hb hby d4_14) rfl (tlt ((by decide) : (0 : Int32) < (4 : Int32))).2.1 ?_
    show Steps p.tables e below (T_1.setTop (mkF m 17 #[.val (.ref a), .val (.int p1), .val (.ref cl), .val (.int (4 : Int32)), .val (.int p4), .val (.int bs), .val (.int (0 : Int32))] [])) _
    refine XS.aloadN X_1.here hx rfl (hb hby d4_17) rfl rfl ?_
    show Steps p.tables e below (T_1.setTop (mkF m 18 #[.val (.ref a), .val (.int p1), .val (.ref cl), .val (.int (4 : Int32)), .val (.int p4), .val (.int bs), .val (.int (0 : Int32))] [(.ref a)])) _
    refine st_2 _ ?_
    show Steps p.tables e below (T_2.setTop (mkF m 21 #[.val (.ref a), .val (.int p1), .val (.ref cl), .val (.int (4 : Int32)), .val (.int p4), .val (.int bs), .val (.int (0 : Int32))] [(.ref b)])) _
    refine XS.iload X_2.here hx rfl (hb hby d4_21) rfl ?_
    show Steps p.tables e below (T_2.setTop (mkF m 23 #[.val (.ref a), .val (.int p1), .val (.ref cl), .val (.int (4 : Int32)), .val (.int p4), .val (.int bs), .val (.int (0 : Int32))] [(.int bs), (.ref b)])) _
    refine XS.aloadN X_2.here hx rfl (hb hby d4_23) rfl rfl ?_
    show Steps p.tables e below (T_2.setTop (mkF m 24 #[.val (.ref a), .val (.int p1), .val (.ref cl), .val (.int (4 : Int32)), .val (.int p4), .val (.int bs), .val (.int (0 : Int32))] [(.ref cl), (.int bs), (.ref b)])) _
    refine XS.iload X_2.here hx rfl (hb hby d4_24) rfl ?_
    show Steps p.tables e below (T_2.setTop (mkF m 26 #[.val (.ref a), .val (.int p1), .val (.ref cl), .val (.int (4 : Int32)), .val (.int p4), .val (.int bs), .val (.int (0 : Int32))] [(.int (0 : Int32)), (.ref cl), (.int bs), (.ref b)])) _
    refine X_2.iaload hx (j := (0 : Int32)) (v := (.int c0)) (by rw [e_2]; exact Ar_3.1) (State.isArrayOf_alike hZ.alike Ar_3.2.1) Ar_3.2.2 (inb_of Sz_3 ⟨(by decide), hcl0⟩) ((Hz_3 _ (own_idx (by decide) hcl0)).trans (congrArg some hfc0)) (g := (mkF m 26 #[.val (.ref a), .val (.int p1), .val (.ref cl), .val (.int (4 : Int32)), .val (.int p4), .val (.int bs), .val (.int (0 : Int32))] [(.int (0 : Int32)), (.ref cl), (.int bs), (.ref b)])) rfl rfl (hb hby d4_26) _ ?_
    show Steps p.tables e below (T_2.setTop (mkF m 27 #[.val (.ref a), .val (.int p1), .val (.ref cl), .val (.int (4 : Int32)), .val (.int p4), .val (.int bs), .val (.int (0 : Int32))] [(.int c0), (.int bs), (.ref b)])) _
    refine XS.iadd X_2.here hx rfl (hb hby d4_27) rfl ?_
    show Steps p.tables e below (T_2.setTop (mkF m 28 #[.val (.ref a), .val (.int p1), .val (.ref cl), .val (.int (4 : Int32)), .val (.int p4), .val (.int bs), .val (.int (0 : Int32))] [(.int (bs + c0)), (.ref b)])) _
    rw [he0_]
    show Steps p.tables e below (T_2.setTop (mkF m 28 #[.val (.ref a), .val (.int p1), .val (.ref cl), .val (.int (4 : Int32)), .val (.int p4), .val (.int bs), .val (.int (0 : Int32))] [(.int u0), (.ref b)])) _
    refine XS.iload X_2.here hx rfl (hb hby d4_28) rfl ?_
    show Steps p.tables e below (T_2.setTop (mkF m 30 #[.val (.ref a), .val (.int p1), .val (.ref cl), .val (.int (4 : Int32)), .val (.int p4), .val (.int bs), .val (.int (0 : Int32))] [(.int p4), (.int u0), (.ref b)])) _
    refine st_4 _ ?_
    show Steps p.tables e below (T_4.setTop (mkF m 31 #[.val (.ref a), .val (.int p1), .val (.ref cl), .val (.int (4 : Int32)), .val (.int p4), .val (.int bs), .val (.int (0 : Int32))] [])) _
    refine XS.iinc X_4.here hx rfl (hb hby d4_31) rfl (l' := #[.val (.ref a), .val (.int p1), .val (.ref cl), .val (.int (4 : Int32)), .val (.int p4), .val (.int bs), .val (.int ((0 : Int32) + (1 : Int32)))]) rfl ?_
    show Steps p.tables e below (T_4.setTop (mkF m 34 #[.val (.ref a), .val (.int p1), .val (.ref cl), .val (.int (4 : Int32)), .val (.int p4), .val (.int bs), .val (.int ((0 : Int32) + (1 : Int32)))] [])) _
    rw [show ((0 : Int32) + (1 : Int32)) = (1 : Int32) from by decide]
    show Steps p.tables e below (T_4.setTop (mkF m 34 #[.val (.ref a), .val (.int p1), .val (.ref cl), .val (.int (4 : Int32)), .val (.int p4), .val (.int bs), .val (.int (1 : Int32))] [])) _
    refine XS.goto X_4.here hx rfl (pc0 := 34) (pc' := 11) rfl (hb hby d4_34) (by decide) (by decide) ?_
    show Steps p.tables e below (T_4.setTop (mkF m 11 #[.val (.ref a), .val (.int p1), .val (.ref cl), .val (.int (4 : Int32)), .val (.int p4), .val (.int bs), .val (.int (1 : Int32))] [])) _
    refine XS.iload X_4.here hx rfl (hb hby d4_11) rfl ?_
    show Steps p.tables e below (T_4.setTop (mkF m 13 #[.val (.ref a), .val (.int p1), .val (.ref cl), .val (.int (4 : Int32)), .val (.int p4), .val (.int bs), .val (.int (1 : Int32))] [(.int (1 : Int32))])) _
    refine XS.iloadN X_4.here hx rfl (hb hby d4_13) rfl ?_
    show Steps p.tables e below (T_4.setTop (mkF m 14 #[.val (.ref a), .val (.int p1), .val (.ref cl), .val (.int (4 : Int32)), .val (.int p4), .val (.int bs), .val (.int (1 : Int32))] [(.int (4 : Int32)), (.int (1 : Int32))])) _
    refine XS.icmpNo X_4.here hx rfl (hb hby d4_14) rfl (tlt ((by decide) : (1 : Int32) < (4 : Int32))).2.1 ?_
    show Steps p.tables e below (T_4.setTop (mkF m 17 #[.val (.ref a), .val (.int p1), .val (.ref cl), .val (.int (4 : Int32)), .val (.int p4), .val (.int bs), .val (.int (1 : Int32))] [])) _
    refine XS.aloadN X_4.here hx rfl (hb hby d4_17) rfl rfl ?_
    show Steps p.tables e below (T_4.setTop (mkF m 18 #[.val (.ref a), .val (.int p1), .val (.ref cl), .val (.int (4 : Int32)), .val (.int p4), .val (.int bs), .val (.int (1 : Int32))] [(.ref a)])) _
    refine st_8 _ ?_
    show Steps p.tables e below (T_8.setTop (mkF m 21 #[.val (.ref a), .val (.int p1), .val (.ref cl), .val (.int (4 : Int32)), .val (.int p4), .val (.int bs), .val (.int (1 : Int32))] [(.ref b)])) _
    refine XS.iload X_8.here hx rfl (hb hby d4_21) rfl ?_
    show Steps p.tables e below (T_8.setTop (mkF m 23 #[.val (.ref a), .val (.int p1), .val (.ref cl), .val (.int (4 : Int32)), .val (.int p4), .val (.int bs), .val (.int (1 : Int32))] [(.int bs), (.ref b)])) _
    refine XS.aloadN X_8.here hx rfl (hb hby d4_23) rfl rfl ?_
    show Steps p.tables e below (T_8.setTop (mkF m 24 #[.val (.ref a), .val (.int p1), .val (.ref cl), .val (.int (4 : Int32)), .val (.int p4), .val (.int bs), .val (.int (1 : Int32))] [(.ref cl), (.int bs), (.ref b)])) _
    refine XS.iload X_8.here hx rfl (hb hby d4_24) rfl ?_
    show Steps p.tables e below (T_8.setTop (mkF m 26 #[.val (.ref a), .val (.int p1), .val (.ref cl), .val (.int (4 : Int32)), .val (.int p4), .val (.int bs), .val (.int (1 : Int32))] [(.int (1 : Int32)), (.ref cl), (.int bs), (.ref b)])) _
    refine X_8.iaload hx (j := (1 : Int32)) (v := (.int c1)) (by rw [e_8]; exact Ar_9.1) (State.isArrayOf_alike hZ.alike Ar_9.2.1) Ar_9.2.2 (inb_of Sz_9 ⟨(by decide), hcl1⟩) ((Hz_9 _ (own_idx (by decide) hcl1)).trans (congrArg some hfc1)) (g := (mkF m 26 #[.val (.ref a), .val (.int p1), .val (.ref cl), .val (.int (4 : Int32)), .val (.int p4), .val (.int bs), .val (.int (1 : Int32))] [(.int (1 : Int32)), (.ref cl), (.int bs), (.ref b)])) rfl rfl (hb hby d4_26) _ ?_
    show Steps p.tables e below (T_8.setTop (mkF m 27 #[.val (.ref a), .val (.int p1), .val (.ref cl), .val (.int (4 : Int32)), .val (.int p4), .val (.int bs), .val (.int (1 : Int32))] [(.int c1), (.int bs), (.ref b)])) _
    refine XS.iadd X_8.here hx rfl (hb hby d4_27) rfl ?_
    show Steps p.tables e below (T_8.setTop (mkF m 28 #[.val (.ref a), .val (.int p1), .val (.ref cl), .val (.int (4 : Int32)), .val (.int p4), .val (.int bs), .val (.int (1 : Int32))] [(.int (bs + c1)), (.ref b)])) _
    rw [he1_]
    show Steps p.tables e below (T_8.setTop (mkF m 28 #[.val (.ref a), .val (.int p1), .val (.ref cl), .val (.int (4 : Int32)), .val (.int p4), .val (.int bs), .val (.int (1 : Int32))] [(.int u1), (.ref b)])) _
    refine XS.iload X_8.here hx rfl (hb hby d4_28) rfl ?_
    show Steps p.tables e below (T_8.setTop (mkF m 30 #[.val (.ref a), .val (.int p1), .val (.ref cl), .val (.int (4 : Int32)), .val (.int p4), .val (.int bs), .val (.int (1 : Int32))] [(.int p4), (.int u1), (.ref b)])) _
    refine st_11 _ ?_
    show Steps p.tables e below (T_11.setTop (mkF m 31 #[.val (.ref a), .val (.int p1), .val (.ref cl), .val (.int (4 : Int32)), .val (.int p4), .val (.int bs), .val (.int (1 : Int32))] [])) _
    refine XS.iinc X_11.here hx rfl (hb hby d4_31) rfl (l' := #[.val (.ref a), .val (.int p1), .val (.ref cl), .val (.int (4 : Int32)), .val (.int p4), .val (.int bs), .val (.int ((1 : Int32) + (1 : Int32)))]) rfl ?_
    show Steps p.tables e below (T_11.setTop (mkF m 34 #[.val (.ref a), .val (.int p1), .val (.ref cl), .val (.int (4 : Int32)), .val (.int p4), .val (.int bs), .val (.int ((1 : Int32) + (1 : Int32)))] [])) _
    rw [show ((1 : Int32) + (1 : Int32)) = (2 : Int32) from by decide]
    show Steps p.tables e below (T_11.setTop (mkF m 34 #[.val (.ref a), .val (.int p1), .val (.ref cl), .val (.int (4 : Int32)), .val (.int p4), .val (.int bs), .val (.int (2 : Int32))] [])) _
    refine XS.goto X_11.here hx rfl (pc0 := 34) (pc' := 11) rfl (hb hby d4_34) (by decide) (by decide) ?_
    show Steps p.tables e below (T_11.setTop (mkF m 11 #[.val (.ref a), .val (.int p1), .val (.ref cl), .val (.int (4 : Int32)), .val (.int p4), .val (.int bs), .val (.int (2 : Int32))] [])) _
    refine XS.iload X_11.here hx rfl (hb hby d4_11) rfl ?_
    show Steps p.tables e below (T_11.setTop (mkF m 13 #[.val (.ref a), .val (.int p1), .val (.ref cl), .val (.int (4 : Int32)), .val (.int p4), .val (.int bs), .val (.int (2 : Int32))] [(.int (2 : Int32))])) _
    refine XS.iloadN X_11.here hx rfl (hb hby d4_13) rfl ?_
    show Steps p.tables e below (T_11.setTop (mkF m 14 #[.val (.ref a), .val (.int p1), .val (.ref cl), .val (.int (4 : Int32)), .val (.int p4), .val (.int bs), .val (.int (2 : Int32))] [(.int (4 : Int32)), (.int (2 : Int32))])) _
    refine XS.icmpNo X_11.here hx rfl (hb hby d4_14) rfl (tlt ((by decide) : (2 : Int32) < (4 : Int32))).2.1 ?_
    show Steps p.tables e below (T_11.setTop (mkF m 17 #[.val (.ref a), .val (.int p1), .val (.ref cl), .val (.int (4 : Int32)), .val (.int p4), .val (.int bs), .val (.int (2 : Int32))] [])) _
    refine XS.aloadN X_11.here hx rfl (hb hby d4_17) rfl rfl ?_
    show Steps p.tables e below (T_11.setTop (mkF m 18 #[.val (.ref a), .val (.int p1), .val (.ref cl), .val (.int (4 : Int32)), .val (.int p4), .val (.int bs), .val (.int (2 : Int32))] [(.ref a)])) _
    refine st_15 _ ?_
    show Steps p.tables e below (T_15.setTop (mkF m 21 #[.val (.ref a), .val (.int p1), .val (.ref cl), .val (.int (4 : Int32)), .val (.int p4), .val (.int bs), .val (.int (2 : Int32))] [(.ref b)])) _
    refine XS.iload X_15.here hx rfl (hb hby d4_21) rfl ?_
    show Steps p.tables e below (T_15.setTop (mkF m 23 #[.val (.ref a), .val (.int p1), .val (.ref cl), .val (.int (4 : Int32)), .val (.int p4), .val (.int bs), .val (.int (2 : Int32))] [(.int bs), (.ref b)])) _
    refine XS.aloadN X_15.here hx rfl (hb hby d4_23) rfl rfl ?_
    show Steps p.tables e below (T_15.setTop (mkF m 24 #[.val (.ref a), .val (.int p1), .val (.ref cl), .val (.int (4 : Int32)), .val (.int p4), .val (.int bs), .val (.int (2 : Int32))] [(.ref cl), (.int bs), (.ref b)])) _
    refine XS.iload X_15.here hx rfl (hb hby d4_24) rfl ?_
    show Steps p.tables e below (T_15.setTop (mkF m 26 #[.val (.ref a), .val (.int p1), .val (.ref cl), .val (.int (4 : Int32)), .val (.int p4), .val (.int bs), .val (.int (2 : Int32))] [(.int (2 : Int32)), (.ref cl), (.int bs), (.ref b)])) _
    refine X_15.iaload hx (j := (2 : Int32)) (v := (.int c2)) (by rw [e_15]; exact Ar_16.1) (State.isArrayOf_alike hZ.alike Ar_16.2.1) Ar_16.2.2 (inb_of Sz_16 ⟨(by decide), hcl2⟩) ((Hz_16 _ (own_idx (by decide) hcl2)).trans (congrArg some hfc2)) (g := (mkF m 26 #[.val (.ref a), .val (.int p1), .val (.ref cl), .val (.int (4 : Int32)), .val (.int p4), .val (.int bs), .val (.int (2 : Int32))] [(.int (2 : Int32)), (.ref cl), (.int bs), (.ref b)])) rfl rfl (hb hby d4_26) _ ?_
    show Steps p.tables e below (T_15.setTop (mkF m 27 #[.val (.ref a), .val (.int p1), .val (.ref cl), .val (.int (4 : Int32)), .val (.int p4), .val (.int bs), .val (.int (2 : Int32))] [(.int c2), (.int bs), (.ref b)])) _
    refine XS.iadd X_15.here hx rfl (hb hby d4_27) rfl ?_
    show Steps p.tables e below (T_15.setTop (mkF m 28 #[.val (.ref a), .val (.int p1), .val (.ref cl), .val (.int (4 : Int32)), .val (.int p4), .val (.int bs), .val (.int (2 : Int32))] [(.int (bs + c2)), (.ref b)])) _
    rw [he2_]
    show Steps p.tables e below (T_15.setTop (mkF m 28 #[.val (.ref a), .val (.int p1), .val (.ref cl), .val (.int (4 : Int32)), .val (.int p4), .val (.int bs), .val (.int (2 : Int32))] [(.int u2), (.ref b)])) _
    refine XS.iload X_15.here hx rfl (hb hby d4_28) rfl ?_
    show Steps p.tables e below (T_15.setTop (mkF m 30 #[.val (.ref a), .val (.int p1), .val (.ref cl), .val (.int (4 : Int32)), .val (.int p4), .val (.int bs), .val (.int (2 : Int32))] [(.int p4), (.int u2), (.ref b)])) _
    refine st_18 _ ?_
    show Steps p.tables e below (T_18.setTop (mkF m 31 #[.val (.ref a), .val (.int p1), .val (.ref cl), .val (.int (4 : Int32)), .val (.int p4), .val (.int bs), .val (.int (2 : Int32))] [])) _
    refine XS.iinc X_18.here hx rfl (hb hby d4_31) rfl (l' := #[.val (.ref a), .val (.int p1), .val (.ref cl), .val (.int (4 : Int32)), .val (.int p4), .val (.int bs), .val (.int ((2 : Int32) + (1 : Int32)))]) rfl ?_
    show Steps p.tables e below (T_18.setTop (mkF m 34 #[.val (.ref a), .val (.int p1), .val (.ref cl), .val (.int (4 : Int32)), .val (.int p4), .val (.int bs), .val (.int ((2 : Int32) + (1 : Int32)))] [])) _
    rw [show ((2 : Int32) + (1 : Int32)) = (3 : Int32) from by decide]
    show Steps p.tables e below (T_18.setTop (mkF m 34 #[.val (.ref a), .val (.int p1), .val (.ref cl), .val (.int (4 : Int32)), .val (.int p4), .val (.int bs), .val (.int (3 : Int32))] [])) _
    refine XS.goto X_18.here hx rfl (pc0 := 34) (pc' := 11) rfl (hb hby d4_34) (by decide) (by decide) ?_
    show Steps p.tables e below (T_18.setTop (mkF m 11 #[.val (.ref a), .val (.int p1), .val (.ref cl), .val (.int (4 : Int32)), .val (.int p4), .val (.int bs), .val (.int (3 : Int32))] [])) _
    refine XS.iload X_18.here hx rfl (hb hby d4_11) rfl ?_
    show Steps p.tables e below (T_18.setTop (mkF m 13 #[.val (.ref a), .val (.int p1), .val (.ref cl), .val (.int (4 : Int32)), .val (.int p4), .val (.int bs), .val (.int (3 : Int32))] [(.int (3 : Int32))])) _
    refine XS.iloadN X_18.here hx rfl (hb hby d4_13) rfl ?_
    show Steps p.tables e below (T_18.setTop (mkF m 14 #[.val (.ref a), .val (.int p1), .val (.ref cl), .val (.int (4 : Int32)), .val (.int p4), .val (.int bs), .val (.int (3 : Int32))] [(.int (4 : Int32)), (.int (3 : Int32))])) _
    refine XS.icmpNo X_18.here hx rfl (hb hby d4_14) rfl (tlt ((by decide) : (3 : Int32) < (4 : Int32))).2.1 ?_
    show Steps p.tables e below (T_18.setTop (mkF m 17 #[.val (.ref a), .val (.int p1), .val (.ref cl), .val (.int (4 : Int32)), .val (.int p4), .val (.int bs), .val (.int (3 : Int32))] [])) _
    refine XS.aloadN X_18.here hx rfl (hb hby d4_17) rfl rfl ?_
    show Steps p.tables e below (T_18.setTop (mkF m 18 #[.val (.ref a), .val (.int p1), .val (.ref cl), .val (.int (4 : Int32)), .val (.int p4), .val (.int bs), .val (.int (3 : Int32))] [(.ref a)])) _
    refine st_22 _ ?_
    show Steps p.tables e below (T_22.setTop (mkF m 21 #[.val (.ref a), .val (.int p1), .val (.ref cl), .val (.int (4 : Int32)), .val (.int p4), .val (.int bs), .val (.int (3 : Int32))] [(.ref b)])) _
    refine XS.iload X_22.here hx rfl (hb hby d4_21) rfl ?_
    show Steps p.tables e below (T_22.setTop (mkF m 23 #[.val (.ref a), .val (.int p1), .val (.ref cl), .val (.int (4 : Int32)), .val (.int p4), .val (.int bs), .val (.int (3 : Int32))] [(.int bs), (.ref b)])) _
    refine XS.aloadN X_22.here hx rfl (hb hby d4_23) rfl rfl ?_
    show Steps p.tables e below (T_22.setTop (mkF m 24 #[.val (.ref a), .val (.int p1), .val (.ref cl), .val (.int (4 : Int32)), .val (.int p4), .val (.int bs), .val (.int (3 : Int32))] [(.ref cl), (.int bs), (.ref b)])) _
    refine XS.iload X_22.here hx rfl (hb hby d4_24) rfl ?_
    show Steps p.tables e below (T_22.setTop (mkF m 26 #[.val (.ref a), .val (.int p1), .val (.ref cl), .val (.int (4 : Int32)), .val (.int p4), .val (.int bs), .val (.int (3 : Int32))] [(.int (3 : Int32)), (.ref cl), (.int bs), (.ref b)])) _
    refine X_22.iaload hx (j := (3 : Int32)) (v := (.int c3)) (by rw [e_22]; exact Ar_23.1) (State.isArrayOf_alike hZ.alike Ar_23.2.1) Ar_23.2.2 (inb_of Sz_23 ⟨(by decide), hcl3⟩) ((Hz_23 _ (own_idx (by decide) hcl3)).trans (congrArg some hfc3)) (g := (mkF m 26 #[.val (.ref a), .val (.int p1), .val (.ref cl), .val (.int (4 : Int32)), .val (.int p4), .val (.int bs), .val (.int (3 : Int32))] [(.int (3 : Int32)), (.ref cl), (.int bs), (.ref b)])) rfl rfl (hb hby d4_26) _ ?_
    show Steps p.tables e below (T_22.setTop (mkF m 27 #[.val (.ref a), .val (.int p1), .val (.ref cl), .val (.int (4 : Int32)), .val (.int p4), .val (.int bs), .val (.int (3 : Int32))] [(.int c3), (.int bs), (.ref b)])) _
    refine XS.iadd X_22.here hx rfl (hb hby d4_27) rfl ?_
    show Steps p.tables e below (T_22.setTop (mkF m 28 #[.val (.ref a), .val (.int p1), .val (.ref cl), .val (.int (4 : Int32)), .val (.int p4), .val (.int bs), .val (.int (3 : Int32))] [(.int (bs + c3)), (.ref b)])) _
    rw [he3_]
    show Steps p.tables e below (T_22.setTop (mkF m 28 #[.val (.ref a), .val (.int p1), .val (.ref cl), .val (.int (4 : Int32)), .val (.int p4), .val (.int bs), .val (.int (3 : Int32))] [(.int u3), (.ref b)])) _
    refine XS.iload X_22.here hx rfl (hb hby d4_28) rfl ?_
    show Steps p.tables e below (T_22.setTop (mkF m 30 #[.val (.ref a), .val (.int p1), .val (.ref cl), .val (.int (4 : Int32)), .val (.int p4), .val (.int bs), .val (.int (3 : Int32))] [(.int p4), (.int u3), (.ref b)])) _
    refine st_25 _ ?_
    show Steps p.tables e below (T_25.setTop (mkF m 31 #[.val (.ref a), .val (.int p1), .val (.ref cl), .val (.int (4 : Int32)), .val (.int p4), .val (.int bs), .val (.int (3 : Int32))] [])) _
    refine XS.iinc X_25.here hx rfl (hb hby d4_31) rfl (l' := #[.val (.ref a), .val (.int p1), .val (.ref cl), .val (.int (4 : Int32)), .val (.int p4), .val (.int bs), .val (.int ((3 : Int32) + (1 : Int32)))]) rfl ?_
    show Steps p.tables e below (T_25.setTop (mkF m 34 #[.val (.ref a), .val (.int p1), .val (.ref cl), .val (.int (4 : Int32)), .val (.int p4), .val (.int bs), .val (.int ((3 : Int32) + (1 : Int32)))] [])) _
    rw [show ((3 : Int32) + (1 : Int32)) = (4 : Int32) from by decide]
    show Steps p.tables e below (T_25.setTop (mkF m 34 #[.val (.ref a), .val (.int p1), .val (.ref cl), .val (.int (4 : Int32)), .val (.int p4), .val (.int bs), .val (.int (4 : Int32))] [])) _
    refine XS.goto X_25.here hx rfl (pc0 := 34) (pc' := 11) rfl (hb hby d4_34) (by decide) (by decide) ?_
    show Steps p.tables e below (T_25.setTop (mkF m 11 #[.val (.ref a), .val (.int p1), .val (.ref cl), .val (.int (4 : Int32)), .val (.int p4), .val (.int bs), .val (.int (4 : Int32))] [])) _
    refine XS.iload X_25.here hx rfl (hb hby d4_11) rfl ?_
    show Steps p.tables e below (T_25.setTop (mkF m 13 #[.val (.ref a), .val (.int p1), .val (.ref cl), .val (.int (4 : Int32)), .val (.int p4), .val (.int bs), .val (.int (4 : Int32))] [(.int (4 : Int32))])) _
    refine XS.iloadN X_25.here hx rfl (hb hby d4_13) rfl ?_
    show Steps p.tables e below (T_25.setTop (mkF m 14 #[.val (.ref a), .val (.int p1), .val (.ref cl), .val (.int (4 : Int32)), .val (.int p4), .val (.int bs), .val (.int (4 : Int32))] [(.int (4 : Int32)), (.int (4 : Int32))])) _
    refine XS.icmpYes X_25.here hx rfl (pc0 := 14) (pc' := 37) rfl (hb hby d4_14) rfl (flt ((by decide) : ¬ ((4 : Int32) < (4 : Int32)))).2.1 (by decide) (by decide) ?_
    show Steps p.tables e below (T_25.setTop (mkF m 37 #[.val (.ref a), .val (.int p1), .val (.ref cl), .val (.int (4 : Int32)), .val (.int p4), .val (.int bs), .val (.int (4 : Int32))] [])) _
    exact X_25.returnOut hx Bd.returns (hb hby d4_37) hr
  · show Q4 Z b np g h0 n0 _ T_25.heap _
    rw [e_25]
    exact ⟨rfl, N_25, K_25, (Vw_25.congr fun j _ => hg_ j)⟩
theorem rm4 (l : Launch) (Z : State) (a0 : Array Value) (hw : ∀ d ∈ tables_1, d.before a0 Z = true) (ws : List Jvm.Cond) (a : Addr) (p1 : Int32) (c : Addr) (p3 p4 : Int32) (wi : Int32) (b : Addr) (np : Int32) (fc : Nat → Value) (bs c0 c1 c2 c3 u0 u1 u2 u3 : Int32) (h0 : Heap) (n0 : Nat) (Z0 : n0 ≤ h0.size) (F_w : Fld Z h0 a "featherpane/Surface" "width" "I" (.int wi)) (F_p : Fld Z h0 a "featherpane/Surface" "pixels" "[I" (.ref b)) (V_b : ArrF Z h0 b .int np (fun _ => (Value.int (0 : Int32)))) (V_c : ArrF Z h0 c .int 4 fc) (g_b : n0 ≤ b) (ne_ab : a ≠ b) (ne_cb : c ≠ b) (hbs_ : (p1 * wi) = bs) (he0_ : (bs + c0) = u0) (hfc0 : fc (0 : Int32).toNatClampNeg = .int c0) (hp0 : ¬ u0 < 0) (hq0 : u0 < np) (he1_ : (bs + c1) = u1) (hfc1 : fc (1 : Int32).toNatClampNeg = .int c1) (hp1 : ¬ u1 < 0) (hq1 : u1 < np) (he2_ : (bs + c2) = u2) (hfc2 : fc (2 : Int32).toNatClampNeg = .int c2) (hp2 : ¬ u2 < 0) (hq2 : u2 < np) (he3_ : (bs + c3) = u3) (hfc3 : fc (3 : Int32).toNatClampNeg = .int c3) (hp3 : ¬ u3 < 0) (hq3 : u3 < np) (hcnt : p3 = 0 ∨ p3 = 1 ∨ p3 = 2 ∨ p3 = 3 ∨ p3 = 4) :
    MetFree l (⟨"featherpane/Surface", "fillPixels", "(I[III)V"⟩ : MethodName) (head1 (Jvm.Cond.code (⟨"featherpane/Surface", "fillPixels", "(I[III)V"⟩ : MethodName) prog_69_method_9_code 7 none :: ws) ({ frames := 0, cells := 0, slots := 0, locals := 0 } : Room)) (fun u U => u = #[(.ref a), (.int p1), (.ref c), (.int p3), (.int p4)] ∧ Z.Warmed39 U.vm ∧ U.heap = h0) (fun _ _ _ _ _ => True) (fun _ U o U' => ∃ v L, o = .returned v ∧ Q4 Z b np (own_pix p3 u0 u1 u2 u3 p4) h0 n0 v U'.heap L ∧ FrameEnd U o U' L ({ frames := 0, cells := 0, slots := 0, locals := 0 } : Room).cells ({ frames := 0, cells := 0, slots := 0, locals := 0 } : Room).slots) := by
  rcases hcnt with rfl | rfl | rfl | rfl | rfl
  · exact rm4_0 l Z a0 hw ws a p1 c p4 wi b np 4 fc bs (own_pix (0 : Int32) u0 u1 u2 u3 p4) h0 n0 Z0 F_w F_p V_b V_c g_b ne_ab ne_cb hbs_ (own_pix_0 u0 u1 u2 u3 p4)
  · exact rm4_1 l Z a0 hw ws a p1 c p4 wi b np 4 fc bs c0 u0 (own_pix (1 : Int32) u0 u1 u2 u3 p4) h0 n0 Z0 F_w F_p V_b V_c g_b ne_ab ne_cb hbs_ (by decide) hfc0 he0_ hp0 hq0 (own_pix_1 u0 u1 u2 u3 p4)
  · exact rm4_2 l Z a0 hw ws a p1 c p4 wi b np 4 fc bs c0 c1 u0 u1 (own_pix (2 : Int32) u0 u1 u2 u3 p4) h0 n0 Z0 F_w F_p V_b V_c g_b ne_ab ne_cb hbs_ (by decide) hfc0 he0_ hp0 hq0 (by decide) hfc1 he1_ hp1 hq1 (own_pix_2 u0 u1 u2 u3 p4)
  · exact rm4_3 l Z a0 hw ws a p1 c p4 wi b np 4 fc bs c0 c1 c2 u0 u1 u2 (own_pix (3 : Int32) u0 u1 u2 u3 p4) h0 n0 Z0 F_w F_p V_b V_c g_b ne_ab ne_cb hbs_ (by decide) hfc0 he0_ hp0 hq0 (by decide) hfc1 he1_ hp1 hq1 (by decide) hfc2 he2_ hp2 hq2 (own_pix_3 u0 u1 u2 u3 p4)
  · exact rm4_4 l Z a0 hw ws a p1 c p4 wi b np 4 fc bs c0 c1 c2 c3 u0 u1 u2 u3 (own_pix (4 : Int32) u0 u1 u2 u3 p4) h0 n0 Z0 F_w F_p V_b V_c g_b ne_ab ne_cb hbs_ (by decide) hfc0 he0_ hp0 hq0 (by decide) hfc1 he1_ hp1 hq1 (by decide) hfc2 he2_ hp2 hq2 (by decide) hfc3 he3_ hp3 hq3 (own_pix_4 u0 u1 u2 u3 p4)
theorem pd_3 : parseMethodDescriptor "(II)V" = some ⟨[.int, .int], none⟩ := by decide +kernel
theorem pd_4 : parseMethodDescriptor "(I[III)V" = some ⟨[.int, (.array .int), .int, .int], none⟩ := by decide +kernel
def Q0 (Z : State)  (h0 : Heap) (n0 : Nat) (v : Option Value) (h : Heap) (L : List Loc) : Prop := v = some (.int 1) ∧ Fr n0 L
theorem pn_0 : plainName "featherpane/SurfaceFillPixelsPinLaw" = true := by first | (simp [plainName, overriddenIn]; done) | decide +kernel
theorem ef_0 (m : MethodId) (x0 : Int32) (x1 : Int32) (x2 : Int32) (x3 : Int32) (x4 : Int32) : entryFrame m #[(.int x0), (.int x1), (.int x2), (.int x3), (.int x4)] maxLocals = mkF m 0 #[.val (.int x0), .val (.int x1), .val (.int x2), .val (.int x3), .val (.int x4), .unset, .unset, .unset, .unset, .unset, .unset, .unset, .unset, .unset, .unset, .unset, .unset] [] := by first | (simp [entryFrame, mkF, argsToLocals, Value.category, maxLocals]; done) | rfl
set_option maxRecDepth 65536 in
set_option maxHeartbeats 40000000 in
theorem rm0 (l : Launch) (Z : State) (a0 : Array Value) (hw : ∀ d ∈ tables_1, d.before a0 Z = true) (ws : List Jvm.Cond) (p0 : Int32) (p1 : Int32) (p2 : Int32) (p3 : Int32) (p4 : Int32) (wd : Int32) (ht : Int32) (cn : Int32) (rr : Int32) (c0 : Int32) (c1 : Int32) (c2 : Int32) (c3 : Int32) (rg : Int32) (px : Int32) (py : Int32) (np : Int32) (bs : Int32) (u0 : Int32) (u1 : Int32) (u2 : Int32) (u3 : Int32) (ee : Int32) (xv : Int32) (il : Int32) (ht2 : Int32) (ex : Int32) (h0 : Heap) (n0 : Nat) (Z0 : n0 ≤ h0.size) (hnp_ : (wd * ht) = np) (hn0_ : ¬ np < 0) (hn1_ : np.toNatClampNeg ≤ 64) (hvl_ : own_valid wd ht = 1) (hbs_ : (rr * wd) = bs) (hcnt_ : cn = 0 ∨ cn = 1 ∨ cn = 2 ∨ cn = 3 ∨ cn = 4) (he0_ : (bs + c0) = u0) (hp0 : ¬ u0 < 0) (hq0 : u0 < np) (he1_ : (bs + c1) = u1) (hp1 : ¬ u1 < 0) (hq1 : u1 < np) (he2_ : (bs + c2) = u2) (hp2 : ¬ u2 < 0) (hq2 : u2 < np) (he3_ : (bs + c3) = u3) (hp3 : ¬ u3 < 0) (hq3 : u3 < np) (hx0 : ¬ (px < (0 : Int32))) (hx1 : px < wd) (hy0 : ¬ (py < (0 : Int32))) (hy1 : py < ht) (he_ : ((py * wd) + px) = ee) (hj0 : ¬ ee < 0) (hj1 : ee < np) (hfx_ : own_pix cn u0 u1 u2 u3 rg ee.toNatClampNeg = .int xv) (hwd_ : ((1 : Int32) + (p0 &&& (7 : Int32))) = wd) (hht_ : ((1 : Int32) + (((p0.toUInt32 >>> ((3 : Int32) &&& 31).toUInt32).toInt32) &&& (7 : Int32))) = ht) (hcn_ : ((((p0.toUInt32 >>> ((6 : Int32) &&& 31).toUInt32).toInt32) &&& (7 : Int32)) % (5 : Int32)) = cn) (hnz35 : ht ≠ (0 : Int32)) (hrw_ : ((p1 &&& (2147483647 : Int32)) % ht) = rr) (hnz52 : wd ≠ (0 : Int32)) (hc0_ : ((p2 &&& (7 : Int32)) % wd) = c0) (hnz65 : wd ≠ (0 : Int32)) (hc1_ : ((((p2.toUInt32 >>> ((3 : Int32) &&& 31).toUInt32).toInt32) &&& (7 : Int32)) % wd) = c1) (hnz79 : wd ≠ (0 : Int32)) (hc2_ : ((((p2.toUInt32 >>> ((6 : Int32) &&& 31).toUInt32).toInt32) &&& (7 : Int32)) % wd) = c2) (hnz93 : wd ≠ (0 : Int32)) (hc3_ : ((((p2.toUInt32 >>> ((9 : Int32) &&& 31).toUInt32).toInt32) &&& (7 : Int32)) % wd) = c3) (hrg_ : (p3 &&& (16777215 : Int32)) = rg) (hnz108 : wd ≠ (0 : Int32)) (hpx_ : ((p4 &&& (7 : Int32)) % wd) = px) (hnz120 : ht ≠ (0 : Int32)) (hpy_ : ((((p4.toUInt32 >>> ((3 : Int32) &&& 31).toUInt32).toInt32) &&& (7 : Int32)) % ht) = py) (hil_ : (if (0 : Int32) < cn then (if px = c0 then (1 : Int32) else (if (1 : Int32) < cn then (if px = c1 then (1 : Int32) else (if (2 : Int32) < cn then (if px = c2 then (1 : Int32) else (if (3 : Int32) < cn then (if px = c3 then (1 : Int32) else (0 : Int32)) else (0 : Int32))) else (if (3 : Int32) < cn then (if px = c3 then (1 : Int32) else (0 : Int32)) else (0 : Int32)))) else (if (2 : Int32) < cn then (if px = c2 then (1 : Int32) else (if (3 : Int32) < cn then (if px = c3 then (1 : Int32) else (0 : Int32)) else (0 : Int32))) else (if (3 : Int32) < cn then (if px = c3 then (1 : Int32) else (0 : Int32)) else (0 : Int32))))) else (if (1 : Int32) < cn then (if px = c1 then (1 : Int32) else (if (2 : Int32) < cn then (if px = c2 then (1 : Int32) else (if (3 : Int32) < cn then (if px = c3 then (1 : Int32) else (0 : Int32)) else (0 : Int32))) else (if (3 : Int32) < cn then (if px = c3 then (1 : Int32) else (0 : Int32)) else (0 : Int32)))) else (if (2 : Int32) < cn then (if px = c2 then (1 : Int32) else (if (3 : Int32) < cn then (if px = c3 then (1 : Int32) else (0 : Int32)) else (0 : Int32))) else (if (3 : Int32) < cn then (if px = c3 then (1 : Int32) else (0 : Int32)) else (0 : Int32))))) = il) (hht2_ : (if py = rr then (if il = (0 : Int32) then (0 : Int32) else (1 : Int32)) else (0 : Int32)) = ht2) (hex_ : (if ht2 = (0 : Int32) then (-16777216 : Int32) else ((-16777216 : Int32) ||| rg)) = ex) (hc262 : ((-16777216 : Int32) ||| xv) = ex) :
    MetFree l x (head1 (Jvm.Cond.code x code maxLocals ret :: ws) room_1) (fun as_ U => as_ = #[(.int p0), (.int p1), (.int p2), (.int p3), (.int p4)] ∧ Z.Warmed39 U.vm ∧ U.heap = h0) (fun _ _ _ _ _ => True) (fun _ U o U' => ∃ v L, o = .returned v ∧ Q0 Z  h0 n0 v U'.heap L ∧ FrameEnd U o U' L 3 71) := by
  refine MetFree.of_bodySF (plainFor_of_name pn_0) hisR ?_
  intro p e s m args below meth c s₁ Bd hml0 hP hK
  obtain ⟨rfl, hZ, hh⟩ := hP
  have hx := Bd.exec
  have hby := Bd.bytes
  have hml : c.maxLocals = 17 := hml0
  have hown : s.vm.findClass "featherpane/SurfaceFillPixelsPinLaw" = some m.cls := findClass_of_methodNamed Bd.named
  have hnm := (name_of_methodNamed Bd.named Bd.method).1
  have X0 : Stand p l e room_1 s m #[(.int p0), (.int p1), (.int p2), (.int p3), (.int p4)] below meth c s₁ [] 0 0 := Stand.of_body Bd
  have e0 : s₁.heap = h0 := by rw [← hh, Bd.state]; rfl
  have N0 := Fr.nil n0
  have pre0 : ∀ t, Steps p.tables e below (s₁.setTop (mkF m 0 #[.val (.int p0), .val (.int p1), .val (.int p2), .val (.int p3), .val (.int p4), .unset, .unset, .unset, .unset, .unset, .unset, .unset, .unset, .unset, .unset, .unset, .unset] [])) t → Steps p.tables e below (s₁.setTop (entryFrame m #[(.int p0), (.int p1), (.int p2), (.int p3), (.int p4)] maxLocals)) t := fun t k => castTop (ef_0 m p0 p1 p2 p3 p4) k
  obtain ⟨T_1, h_1, k_1, X_1, e_1, E_1, A_1, st_1⟩ := newP X0 hx hZ (hw _ (List.mem_of_getElem? (i := 1) rfl)) e0 (g := (mkF m 39 #[.val (.int p0), .val (.int p1), .val (.int p2), .val (.int p3), .val (.int p4), .val (.int wd), .val (.int ht), .val (.int cn), .val (.int rr), .unset, .unset, .unset, .unset, .unset, .unset, .unset, .unset] [(.int (4 : Int32))])) rfl (hb hby at_39) rfl (by decide) (cap := 4) (by decide) (by decide) (by decide) (by decide)
  obtain ⟨b_1, g_1⟩ : ∃ z, z = h0.size := ⟨_, rfl⟩
  rw [← g_1] at A_1 st_1
  have g_b_1 : n0 ≤ b_1 := Nat.le_trans Z0 (Nat.le_of_eq g_1.symm)
  have sz_b_1 : h0.size ≤ b_1 := Nat.le_trans (Keep.refl h0 []).1 (Nat.le_of_eq g_1.symm)
  have K_1 : Keep h0 h_1 [] := (Keep.refl h0 []).ext E_1
  have V_1 : ArrF Z h_1 b_1 .int (4 : Int32) (fun _ => (Value.int (0 : Int32))) := ArrF.of_new A_1 (by decide)
  have Z_2 : n0 ≤ h_1.size := Nat.le_trans Z0 E_1.1
  obtain ⟨cl_4, Ar_4, Sz_4, Mz_4, Hz_4⟩ := id V_1
  obtain ⟨T_3, h_3, X_3, e_3, W_3, st_3⟩ := stI X_1 hx hZ e_1 Ar_4 (j := (0 : Int32)) (inb_of Sz_4 ⟨(by decide), (by decide)⟩) (g := (mkF m 53 #[.val (.int p0), .val (.int p1), .val (.int p2), .val (.int p3), .val (.int p4), .val (.int wd), .val (.int ht), .val (.int cn), .val (.int rr), .val (.ref b_1), .unset, .unset, .unset, .unset, .unset, .unset, .unset] [(.int c0), (.int (0 : Int32)), (.ref b_1)])) rfl rfl (hb hby at_53)
  have K_3 : Keep h0 h_3 [] := K_1.wr W_3 (Or.inr sz_b_1)
  have N_3 := Fr.snoc X_3 N0 g_b_1
  have Z_5 : n0 ≤ h_3.size := Nat.le_trans Z_2 (Keep.of_wr W_3).1
  have Vw_3 := ArrF.set Ar_4 Sz_4 Mz_4 Hz_4 W_3
  obtain ⟨cl_7, Ar_7, Sz_7, Mz_7, Hz_7⟩ := id Vw_3
  obtain ⟨T_6, h_6, X_6, e_6, W_6, st_6⟩ := stI X_3 hx hZ e_3 Ar_7 (j := (1 : Int32)) (inb_of Sz_7 ⟨(by decide), (by decide)⟩) (g := (mkF m 66 #[.val (.int p0), .val (.int p1), .val (.int p2), .val (.int p3), .val (.int p4), .val (.int wd), .val (.int ht), .val (.int cn), .val (.int rr), .val (.ref b_1), .unset, .unset, .unset, .unset, .unset, .unset, .unset] [(.int c1), (.int (1 : Int32)), (.ref b_1)])) rfl rfl (hb hby at_66)
  have K_6 : Keep h0 h_6 [] := K_3.wr W_6 (Or.inr sz_b_1)
  have N_6 := Fr.snoc X_6 N_3 g_b_1
  have Z_8 : n0 ≤ h_6.size := Nat.le_trans Z_5 (Keep.of_wr W_6).1
  have Vw_6 := ArrF.set Ar_7 Sz_7 Mz_7 Hz_7 W_6
  obtain ⟨cl_10, Ar_10, Sz_10, Mz_10, Hz_10⟩ := id Vw_6
  obtain ⟨T_9, h_9, X_9, e_9, W_9, st_9⟩ := stI X_6 hx hZ e_6 Ar_10 (j := (2 : Int32)) (inb_of Sz_10 ⟨(by decide), (by decide)⟩) (g := (mkF m 80 #[.val (.int p0), .val (.int p1), .val (.int p2), .val (.int p3), .val (.int p4), .val (.int wd), .val (.int ht), .val (.int cn), .val (.int rr), .val (.ref b_1), .unset, .unset, .unset, .unset, .unset, .unset, .unset] [(.int c2), (.int (2 : Int32)), (.ref b_1)])) rfl rfl (hb hby at_80)
  have K_9 : Keep h0 h_9 [] := K_6.wr W_9 (Or.inr sz_b_1)
  have N_9 := Fr.snoc X_9 N_6 g_b_1
  have Z_11 : n0 ≤ h_9.size := Nat.le_trans Z_8 (Keep.of_wr W_9).1
  have Vw_9 := ArrF.set Ar_10 Sz_10 Mz_10 Hz_10 W_9
  obtain ⟨cl_13, Ar_13, Sz_13, Mz_13, Hz_13⟩ := id Vw_9
  obtain ⟨T_12, h_12, X_12, e_12, W_12, st_12⟩ := stI X_9 hx hZ e_9 Ar_13 (j := (3 : Int32)) (inb_of Sz_13 ⟨(by decide), (by decide)⟩) (g := (mkF m 94 #[.val (.int p0), .val (.int p1), .val (.int p2), .val (.int p3), .val (.int p4), .val (.int wd), .val (.int ht), .val (.int cn), .val (.int rr), .val (.ref b_1), .unset, .unset, .unset, .unset, .unset, .unset, .unset] [(.int c3), (.int (3 : Int32)), (.ref b_1)])) rfl rfl (hb hby at_94)
  have K_12 : Keep h0 h_12 [] := K_9.wr W_12 (Or.inr sz_b_1)
  have N_12 := Fr.snoc X_12 N_9 g_b_1
  have Z_14 : n0 ≤ h_12.size := Nat.le_trans Z_11 (Keep.of_wr W_12).1
  have Vw_12 := ArrF.set Ar_13 Sz_13 Mz_13 Hz_13 W_12
  obtain ⟨T_15, h_15, X_15, e_15, E_15, A_15, D_15, -, st_15⟩ := newO X_12 hx hZ hown (hw _ (List.mem_of_getElem? (i := 3) rfl)) (hw _ (List.mem_of_getElem? (i := 4) rfl)) (hw _ (List.mem_of_getElem? (i := 5) rfl)) e_12 (g := (mkF m 123 #[.val (.int p0), .val (.int p1), .val (.int p2), .val (.int p3), .val (.int p4), .val (.int wd), .val (.int ht), .val (.int cn), .val (.int rr), .val (.ref b_1), .val (.int rg), .val (.int px), .val (.int py), .unset, .unset, .unset, .unset] [])) rfl (hb hby at_123) (by decide) (by decide)
  obtain ⟨b_15, g_15⟩ : ∃ z, z = h_12.size := ⟨_, rfl⟩
  rw [← g_15] at A_15 D_15 st_15
  have ne_b_1_b_15 : b_1 ≠ b_15 := Nat.ne_of_lt (Nat.lt_of_lt_of_le Vw_12.lt (Nat.le_of_eq g_15.symm))
  have g_b_15 : n0 ≤ b_15 := Nat.le_trans Z_14 (Nat.le_of_eq g_15.symm)
  have sz_b_15 : h0.size ≤ b_15 := Nat.le_trans K_12.1 (Nat.le_of_eq g_15.symm)
  have K_15 : Keep h0 h_15 [] := K_12.ext E_15
  have Z_16 : n0 ≤ h_15.size := Nat.le_trans Z_14 E_15.1
  have F_width_b_15 : Fld Z h_15 b_15 "featherpane/Surface" "width" "I" (.int (0 : Int32)) := D_15 (Or.inr (hw _ (List.mem_of_getElem? (i := 17) rfl))) (ty := .int) (by decide)
  have F_height_b_15 : Fld Z h_15 b_15 "featherpane/Surface" "height" "I" (.int (0 : Int32)) := D_15 (Or.inr (hw _ (List.mem_of_getElem? (i := 19) rfl))) (ty := .int) (by decide)
  have F_pixels_b_15 : Fld Z h_15 b_15 "featherpane/Surface" "pixels" "[I" .null := D_15 (Or.inr (hw _ (List.mem_of_getElem? (i := 21) rfl))) (ty := (.array .int)) (by decide)
  obtain ⟨c_17, g_17⟩ : ∃ z, z = h_15.size := ⟨_, rfl⟩
  have f_18_V_b_1 := (Vw_12.ext E_15)
  have ne_b_1_c_17 : b_1 ≠ c_17 := Nat.ne_of_lt (Nat.lt_of_lt_of_le f_18_V_b_1.lt (Nat.le_of_eq g_17.symm))
  have ne_b_15_c_17 : b_15 ≠ c_17 := Nat.ne_of_lt (Nat.lt_of_lt_of_le A_15.lt (Nat.le_of_eq g_17.symm))
  have g_c_17 : n0 ≤ c_17 := Nat.le_trans Z_16 (Nat.le_of_eq g_17.symm)
  have sz_c_17 : h0.size ≤ c_17 := Nat.le_trans K_15.1 (Nat.le_of_eq g_17.symm)
  obtain ⟨_, _, ⟨T_17, L_17, k_17, n_17⟩, -, X_17, ⟨Lc_17, hQ_17, l_17, y_17, z_17⟩, st_17⟩ := X_15.specialBack hx (y := (⟨"featherpane/Surface", "<init>", "(II)V"⟩ : MethodName)) rfl hown (mvT hZ (hw _ (List.mem_of_getElem? (i := 6) rfl))) (mvT hZ (hw _ (List.mem_of_getElem? (i := 7) rfl))) (mvT hZ (hw _ (List.mem_of_getElem? (i := 8) rfl))) (by decide) (backOf (W := 1) (rm1 l Z a0 hw [] b_15 wd ht c_17 np 1 h_15 n0 Z_16 g_17 hn0_ hn1_ hvl_ rfl A_15 F_width_b_15 F_height_b_15 F_pixels_b_15 g_b_15 (by decide) hnp_) hZ (hw _ (List.mem_of_getElem? (i := 8) rfl)) (hw _ (List.mem_of_getElem? (i := 5) rfl)) (by decide) (by decide)) (g := (mkF m 131 #[.val (.int p0), .val (.int p1), .val (.int p2), .val (.int p3), .val (.int p4), .val (.int wd), .val (.int ht), .val (.int cn), .val (.int rr), .val (.ref b_1), .val (.int rg), .val (.int px), .val (.int py), .unset, .unset, .unset, .unset] [(.int ht), (.int wd), (.ref b_15), (.ref b_15)])) rfl (by rw [hml]; rfl) (Steps.refl _) (a := b_15) (argsL := [(.int wd), (.int ht)]) (rest := [(.ref b_15)]) (lenOf pd_3 rfl) rfl (by show 2 * 0 + _ ≤ _; exact Nat.le_of_eq rfl) (hb hby at_131) (fun _ _ => ⟨rfl, e_15, (by decide : 2 + 1 ≤ _), (by decide : 7 + 64 ≤ _)⟩)
  dsimp only [Pt.U, Pt.locs, Pt.cells, Pt.slots] at X_17 l_17 y_17 z_17 st_17 hQ_17
  subst l_17 y_17 z_17
  obtain ⟨rfl, Nq_17, Kq_17, Fw_17, Fh_17, Fp_17, Vq_17⟩ := hQ_17
  have N_17 := Fr.app N_12 Nq_17
  have KK_17 : Keep h0 T_17.heap [] := K_15.trans Kq_17 (allS (Or.inr sz_b_15) all0)
  have Z_19 : n0 ≤ T_17.heap.size := Nat.le_trans Z_16 Kq_17.1
  have f_21_V_b_1 := (f_18_V_b_1.keep Kq_17 (ninS ne_b_1_b_15 nin0))
  have f_22_E_b_15 := (A_15.keep Kq_17)
  obtain ⟨cq_20, kq_20, q_20a, q_20b, q_20c⟩ := isOf hZ rfl f_22_E_b_15
  obtain ⟨_, _, ⟨T_20, L_20, k_20, n_20⟩, -, X_20, ⟨Lc_20, hQ_20, l_20, y_20, z_20⟩, st_20⟩ := X_17.virtualBack hx (y := (⟨"featherpane/Surface", "fillPixels", "(I[III)V"⟩ : MethodName)) (z := (⟨"featherpane/Surface", "fillPixels", "(I[III)V"⟩ : MethodName)) hown (mvT hZ (hw _ (List.mem_of_getElem? (i := 22) rfl))) (mvT hZ (hw _ (List.mem_of_getElem? (i := 23) rfl))) (notFace_of_selects (args := #[]) (mvT hZ (hw _ (List.mem_of_getElem? (i := 25) rfl)))) (mvT hZ (hw _ (List.mem_of_getElem? (i := 25) rfl))) (mvT hZ (hw _ (List.mem_of_getElem? (i := 24) rfl))) (by decide) (backOf (W := 0) (rm4 l Z a0 hw [] b_15 rr b_1 cn rg wd c_17 np (fun j => if j = (3 : Int32).toNatClampNeg then Value.int c3 else (fun j => if j = (2 : Int32).toNatClampNeg then Value.int c2 else (fun j => if j = (1 : Int32).toNatClampNeg then Value.int c1 else (fun j => if j = (0 : Int32).toNatClampNeg then Value.int c0 else (fun _ => (Value.int (0 : Int32))) j) j) j) j) bs c0 c1 c2 c3 u0 u1 u2 u3 T_17.heap n0 Z_19 Fw_17 Fp_17 Vq_17 f_21_V_b_1 g_c_17 ne_b_15_c_17 ne_b_1_c_17 hbs_ he0_ rfl hp0 hq0 he1_ rfl hp1 hq1 he2_ rfl hp2 hq2 he3_ rfl hp3 hq3 hcnt_) hZ (hw _ (List.mem_of_getElem? (i := 26) rfl)) (hw _ (List.mem_of_getElem? (i := 5) rfl)) (by decide) (by decide)) q_20a q_20c (g := (mkF m 146 #[.val (.int p0), .val (.int p1), .val (.int p2), .val (.int p3), .val (.int p4), .val (.int wd), .val (.int ht), .val (.int cn), .val (.int rr), .val (.ref b_1), .val (.int rg), .val (.int px), .val (.int py), .val (.ref b_15), .unset, .unset, .unset] [(.int rg), (.int cn), (.ref b_1), (.int rr), (.ref b_15)])) rfl (by rw [hml]; rfl) (Steps.refl _) (argsL := [(.int rr), (.ref b_1), (.int cn), (.int rg)]) (rest := []) (lenOf pd_4 rfl) rfl (by show 2 * 0 + _ ≤ _; exact Nat.le_of_eq rfl) (hb hby at_146) (fun _ _ => ⟨rfl, rfl, (by decide : 3 + 0 ≤ _), (by decide : 71 + 0 ≤ _)⟩)
  dsimp only [Pt.U, Pt.locs, Pt.cells, Pt.slots] at X_20 l_20 y_20 z_20 st_20 hQ_20
  subst l_20 y_20 z_20
  obtain ⟨rfl, Nq_20, Kq_20, Vq_20⟩ := hQ_20
  have N_20 := Fr.app N_17 Nq_20
  have KK_20 : Keep h0 T_20.heap [] := KK_17.trans Kq_20 (allS (Or.inr sz_c_17) all0)
  have Z_23 : n0 ≤ T_20.heap.size := Nat.le_trans Z_19 Kq_20.1
  have f_25_V_b_1 := (f_21_V_b_1.keep Kq_20 (ninS ne_b_1_c_17 nin0))
  obtain ⟨cl_24, Ar_24, Sz_24, Mz_24, Hz_24⟩ := id f_25_V_b_1
  obtain ⟨cl_26, Ar_26, Sz_26, Mz_26, Hz_26⟩ := id f_25_V_b_1
  obtain ⟨cl_27, Ar_27, Sz_27, Mz_27, Hz_27⟩ := id f_25_V_b_1
  obtain ⟨cl_28, Ar_28, Sz_28, Mz_28, Hz_28⟩ := id f_25_V_b_1
  obtain ⟨cl_29, Ar_29, Sz_29, Mz_29, Hz_29⟩ := id f_25_V_b_1
  obtain ⟨cl_30, Ar_30, Sz_30, Mz_30, Hz_30⟩ := id f_25_V_b_1
  obtain ⟨cl_31, Ar_31, Sz_31, Mz_31, Hz_31⟩ := id f_25_V_b_1
  obtain ⟨cl_32, Ar_32, Sz_32, Mz_32, Hz_32⟩ := id f_25_V_b_1
  obtain ⟨cl_33, Ar_33, Sz_33, Mz_33, Hz_33⟩ := id f_25_V_b_1
  obtain ⟨cl_34, Ar_34, Sz_34, Mz_34, Hz_34⟩ := id f_25_V_b_1
  obtain ⟨cl_35, Ar_35, Sz_35, Mz_35, Hz_35⟩ := id f_25_V_b_1
  obtain ⟨cl_36, Ar_36, Sz_36, Mz_36, Hz_36⟩ := id f_25_V_b_1
  obtain ⟨cl_37, Ar_37, Sz_37, Mz_37, Hz_37⟩ := id f_25_V_b_1
  obtain ⟨cl_38, Ar_38, Sz_38, Mz_38, Hz_38⟩ := id f_25_V_b_1
  obtain ⟨cl_39, Ar_39, Sz_39, Mz_39, Hz_39⟩ := id f_25_V_b_1
  have f_41_F_b_15_width := (Fw_17.keep Kq_20 (ninS ne_b_15_c_17 nin0))
  have f_42_F_b_15_height := (Fh_17.keep Kq_20 (ninS ne_b_15_c_17 nin0))
  have f_43_F_b_15_pixels := (Fp_17.keep Kq_20 (ninS ne_b_15_c_17 nin0))
  have f_44_E_b_15 := (f_22_E_b_15.keep Kq_20)
  obtain ⟨cq_40, kq_40, q_40a, q_40b, q_40c⟩ := isOf hZ rfl f_44_E_b_15
  obtain ⟨_, _, ⟨T_40, L_40, k_40, n_40⟩, -, X_40, ⟨Lc_40, hQ_40, l_40, y_40, z_40⟩, st_40⟩ := X_20.virtualBack hx (y := (⟨"featherpane/Surface", "getRGB", "(II)I"⟩ : MethodName)) (z := (⟨"featherpane/Surface", "getRGB", "(II)I"⟩ : MethodName)) hown (mvT hZ (hw _ (List.mem_of_getElem? (i := 28) rfl))) (mvT hZ (hw _ (List.mem_of_getElem? (i := 29) rfl))) (notFace_of_selects (args := #[]) (mvT hZ (hw _ (List.mem_of_getElem? (i := 31) rfl)))) (mvT hZ (hw _ (List.mem_of_getElem? (i := 31) rfl))) (mvT hZ (hw _ (List.mem_of_getElem? (i := 30) rfl))) (by decide) (backOf (W := 0) (rm5 l Z a0 hw [] b_15 px py wd ht c_17 np (own_pix cn u0 u1 u2 u3 rg) ee xv T_20.heap n0 Z_23 f_41_F_b_15_width f_42_F_b_15_height f_43_F_b_15_pixels Vq_20 hx0 hx1 hy0 hy1 hj0 hj1 hfx_ he_) hZ (hw _ (List.mem_of_getElem? (i := 32) rfl)) (hw _ (List.mem_of_getElem? (i := 5) rfl)) (by decide) (by decide)) q_40a q_40c (g := (mkF m 257 #[.val (.int p0), .val (.int p1), .val (.int p2), .val (.int p3), .val (.int p4), .val (.int wd), .val (.int ht), .val (.int cn), .val (.int rr), .val (.ref b_1), .val (.int rg), .val (.int px), .val (.int py), .val (.ref b_15), .val (.int il), .val (.int ht2), .val (.int ex)] [(.int py), (.int px), (.ref b_15)])) rfl (by rw [hml]; rfl) (Steps.refl _) (argsL := [(.int px), (.int py)]) (rest := []) (lenOf pd_2 rfl) rfl (by show 2 * 0 + _ ≤ _; exact Nat.le_of_eq rfl) (hb hby at_257) (fun _ _ => ⟨rfl, rfl, (by decide : 3 + 0 ≤ _), (by decide : 71 + 0 ≤ _)⟩)
  dsimp only [Pt.U, Pt.locs, Pt.cells, Pt.slots] at X_40 l_40 y_40 z_40 st_40 hQ_40
  subst l_40 y_40 z_40
  obtain ⟨rfl, Nq_40, eq_40⟩ := hQ_40
  have N_40 := Fr.app N_20 Nq_40
  obtain ⟨fs, hr, hrun, hended, hW, hsame⟩ := X_40.leave (v := some (.int (1 : Int32))) (fun h => by rw [Bd.returns] at h; cases h)
  refine ⟨_, _, pre0 _ ?_, hrun, hended, _, _, rfl, ?_, ⟨_, rfl⟩, hW, hsame.mono (by decide) (by decide)⟩
  · show Steps p.tables e below (s₁.setTop (mkF m 0 #[.val (.int p0), .val (.int p1), .val (.int p2), .val (.int p3), .val (.int p4), .unset, .unset, .unset, .unset, .unset, .unset, .unset, .unset, .unset, .unset, .unset, .unset] [])) _
    refine XS.iconst X0.here hx rfl (hb hby at_0) ?_
    show Steps p.tables e below (s₁.setTop (mkF m 1 #[.val (.int p0), .val (.int p1), .val (.int p2), .val (.int p3), .val (.int p4), .unset, .unset, .unset, .unset, .unset, .unset, .unset, .unset, .unset, .unset, .unset, .unset] [(.int (1 : Int32))])) _
    refine XS.iloadN X0.here hx rfl (hb hby at_1) rfl ?_
    show Steps p.tables e below (s₁.setTop (mkF m 2 #[.val (.int p0), .val (.int p1), .val (.int p2), .val (.int p3), .val (.int p4), .unset, .unset, .unset, .unset, .unset, .unset, .unset, .unset, .unset, .unset, .unset, .unset] [(.int p0), (.int (1 : Int32))])) _
    refine XS.bipush X0.here hx rfl (hb hby at_2) ?_
    show Steps p.tables e below (s₁.setTop (mkF m 4 #[.val (.int p0), .val (.int p1), .val (.int p2), .val (.int p3), .val (.int p4), .unset, .unset, .unset, .unset, .unset, .unset, .unset, .unset, .unset, .unset, .unset, .unset] [(.int (7 : Int32)), (.int p0), (.int (1 : Int32))])) _
    refine XS.iand X0.here hx rfl (hb hby at_4) rfl ?_
    show Steps p.tables e below (s₁.setTop (mkF m 5 #[.val (.int p0), .val (.int p1), .val (.int p2), .val (.int p3), .val (.int p4), .unset, .unset, .unset, .unset, .unset, .unset, .unset, .unset, .unset, .unset, .unset, .unset] [(.int (p0 &&& (7 : Int32))), (.int (1 : Int32))])) _
    refine XS.iadd X0.here hx rfl (hb hby at_5) rfl ?_
    show Steps p.tables e below (s₁.setTop (mkF m 6 #[.val (.int p0), .val (.int p1), .val (.int p2), .val (.int p3), .val (.int p4), .unset, .unset, .unset, .unset, .unset, .unset, .unset, .unset, .unset, .unset, .unset, .unset] [(.int ((1 : Int32) + (p0 &&& (7 : Int32))))])) _
    rw [hwd_]
    show Steps p.tables e below (s₁.setTop (mkF m 6 #[.val (.int p0), .val (.int p1), .val (.int p2), .val (.int p3), .val (.int p4), .unset, .unset, .unset, .unset, .unset, .unset, .unset, .unset, .unset, .unset, .unset, .unset] [(.int wd)])) _
    refine XS.istore X0.here hx rfl (hb hby at_6) rfl (l' := #[.val (.int p0), .val (.int p1), .val (.int p2), .val (.int p3), .val (.int p4), .val (.int wd), .unset, .unset, .unset, .unset, .unset, .unset, .unset, .unset, .unset, .unset, .unset]) rfl ?_
    show Steps p.tables e below (s₁.setTop (mkF m 8 #[.val (.int p0), .val (.int p1), .val (.int p2), .val (.int p3), .val (.int p4), .val (.int wd), .unset, .unset, .unset, .unset, .unset, .unset, .unset, .unset, .unset, .unset, .unset] [])) _
    refine XS.iconst X0.here hx rfl (hb hby at_8) ?_
    show Steps p.tables e below (s₁.setTop (mkF m 9 #[.val (.int p0), .val (.int p1), .val (.int p2), .val (.int p3), .val (.int p4), .val (.int wd), .unset, .unset, .unset, .unset, .unset, .unset, .unset, .unset, .unset, .unset, .unset] [(.int (1 : Int32))])) _
    refine XS.iloadN X0.here hx rfl (hb hby at_9) rfl ?_
    show Steps p.tables e below (s₁.setTop (mkF m 10 #[.val (.int p0), .val (.int p1), .val (.int p2), .val (.int p3), .val (.int p4), .val (.int wd), .unset, .unset, .unset, .unset, .unset, .unset, .unset, .unset, .unset, .unset, .unset] [(.int p0), (.int (1 : Int32))])) _
    refine XS.iconst X0.here hx rfl (hb hby at_10) ?_
    show Steps p.tables e below (s₁.setTop (mkF m 11 #[.val (.int p0), .val (.int p1), .val (.int p2), .val (.int p3), .val (.int p4), .val (.int wd), .unset, .unset, .unset, .unset, .unset, .unset, .unset, .unset, .unset, .unset, .unset] [(.int (3 : Int32)), (.int p0), (.int (1 : Int32))])) _
    refine XS.iushr X0.here hx rfl (hb hby at_11) rfl ?_
    show Steps p.tables e below (s₁.setTop (mkF m 12 #[.val (.int p0), .val (.int p1), .val (.int p2), .val (.int p3), .val (.int p4), .val (.int wd), .unset, .unset, .unset, .unset, .unset, .unset, .unset, .unset, .unset, .unset, .unset] [(.int ((p0.toUInt32 >>> ((3 : Int32) &&& 31).toUInt32).toInt32)), (.int (1 : Int32))])) _
    refine XS.bipush X0.here hx rfl (hb hby at_12) ?_
    show Steps p.tables e below (s₁.setTop (mkF m 14 #[.val (.int p0), .val (.int p1), .val (.int p2), .val (.int p3), .val (.int p4), .val (.int wd), .unset, .unset, .unset, .unset, .unset, .unset, .unset, .unset, .unset, .unset, .unset] [(.int (7 : Int32)), (.int ((p0.toUInt32 >>> ((3 : Int32) &&& 31).toUInt32).toInt32)), (.int (1 : Int32))])) _
    refine XS.iand X0.here hx rfl (hb hby at_14) rfl ?_
    show Steps p.tables e below (s₁.setTop (mkF m 15 #[.val (.int p0), .val (.int p1), .val (.int p2), .val (.int p3), .val (.int p4), .val (.int wd), .unset, .unset, .unset, .unset, .unset, .unset, .unset, .unset, .unset, .unset, .unset] [(.int (((p0.toUInt32 >>> ((3 : Int32) &&& 31).toUInt32).toInt32) &&& (7 : Int32))), (.int (1 : Int32))])) _
    refine XS.iadd X0.here hx rfl (hb hby at_15) rfl ?_
    show Steps p.tables e below (s₁.setTop (mkF m 16 #[.val (.int p0), .val (.int p1), .val (.int p2), .val (.int p3), .val (.int p4), .val (.int wd), .unset, .unset, .unset, .unset, .unset, .unset, .unset, .unset, .unset, .unset, .unset] [(.int ((1 : Int32) + (((p0.toUInt32 >>> ((3 : Int32) &&& 31).toUInt32).toInt32) &&& (7 : Int32))))])) _
    rw [hht_]
    show Steps p.tables e below (s₁.setTop (mkF m 16 #[.val (.int p0), .val (.int p1), .val (.int p2), .val (.int p3), .val (.int p4), .val (.int wd), .unset, .unset, .unset, .unset, .unset, .unset, .unset, .unset, .unset, .unset, .unset] [(.int ht)])) _
    refine XS.istore X0.here hx rfl (hb hby at_16) rfl (l' := #[.val (.int p0), .val (.int p1), .val (.int p2), .val (.int p3), .val (.int p4), .val (.int wd), .val (.int ht), .unset, .unset, .unset, .unset, .unset, .unset, .unset, .unset, .unset, .unset]) rfl ?_
    show Steps p.tables e below (s₁.setTop (mkF m 18 #[.val (.int p0), .val (.int p1), .val (.int p2), .val (.int p3), .val (.int p4), .val (.int wd), .val (.int ht), .unset, .unset, .unset, .unset, .unset, .unset, .unset, .unset, .unset, .unset] [])) _
    refine XS.iloadN X0.here hx rfl (hb hby at_18) rfl ?_
    show Steps p.tables e below (s₁.setTop (mkF m 19 #[.val (.int p0), .val (.int p1), .val (.int p2), .val (.int p3), .val (.int p4), .val (.int wd), .val (.int ht), .unset, .unset, .unset, .unset, .unset, .unset, .unset, .unset, .unset, .unset] [(.int p0)])) _
    refine XS.bipush X0.here hx rfl (hb hby at_19) ?_
    show Steps p.tables e below (s₁.setTop (mkF m 21 #[.val (.int p0), .val (.int p1), .val (.int p2), .val (.int p3), .val (.int p4), .val (.int wd), .val (.int ht), .unset, .unset, .unset, .unset, .unset, .unset, .unset, .unset, .unset, .unset] [(.int (6 : Int32)), (.int p0)])) _
    refine XS.iushr X0.here hx rfl (hb hby at_21) rfl ?_
    show Steps p.tables e below (s₁.setTop (mkF m 22 #[.val (.int p0), .val (.int p1), .val (.int p2), .val (.int p3), .val (.int p4), .val (.int wd), .val (.int ht), .unset, .unset, .unset, .unset, .unset, .unset, .unset, .unset, .unset, .unset] [(.int ((p0.toUInt32 >>> ((6 : Int32) &&& 31).toUInt32).toInt32))])) _
    refine XS.bipush X0.here hx rfl (hb hby at_22) ?_
    show Steps p.tables e below (s₁.setTop (mkF m 24 #[.val (.int p0), .val (.int p1), .val (.int p2), .val (.int p3), .val (.int p4), .val (.int wd), .val (.int ht), .unset, .unset, .unset, .unset, .unset, .unset, .unset, .unset, .unset, .unset] [(.int (7 : Int32)), (.int ((p0.toUInt32 >>> ((6 : Int32) &&& 31).toUInt32).toInt32))])) _
    refine XS.iand X0.here hx rfl (hb hby at_24) rfl ?_
    show Steps p.tables e below (s₁.setTop (mkF m 25 #[.val (.int p0), .val (.int p1), .val (.int p2), .val (.int p3), .val (.int p4), .val (.int wd), .val (.int ht), .unset, .unset, .unset, .unset, .unset, .unset, .unset, .unset, .unset, .unset] [(.int (((p0.toUInt32 >>> ((6 : Int32) &&& 31).toUInt32).toInt32) &&& (7 : Int32)))])) _
    refine XS.iconst X0.here hx rfl (hb hby at_25) ?_
    show Steps p.tables e below (s₁.setTop (mkF m 26 #[.val (.int p0), .val (.int p1), .val (.int p2), .val (.int p3), .val (.int p4), .val (.int wd), .val (.int ht), .unset, .unset, .unset, .unset, .unset, .unset, .unset, .unset, .unset, .unset] [(.int (5 : Int32)), (.int (((p0.toUInt32 >>> ((6 : Int32) &&& 31).toUInt32).toInt32) &&& (7 : Int32)))])) _
    refine iremM X0 hx rfl (hb hby at_26) rfl (by decide) ?_
    show Steps p.tables e below (s₁.setTop (mkF m 27 #[.val (.int p0), .val (.int p1), .val (.int p2), .val (.int p3), .val (.int p4), .val (.int wd), .val (.int ht), .unset, .unset, .unset, .unset, .unset, .unset, .unset, .unset, .unset, .unset] [(.int ((((p0.toUInt32 >>> ((6 : Int32) &&& 31).toUInt32).toInt32) &&& (7 : Int32)) % (5 : Int32)))])) _
    rw [hcn_]
    show Steps p.tables e below (s₁.setTop (mkF m 27 #[.val (.int p0), .val (.int p1), .val (.int p2), .val (.int p3), .val (.int p4), .val (.int wd), .val (.int ht), .unset, .unset, .unset, .unset, .unset, .unset, .unset, .unset, .unset, .unset] [(.int cn)])) _
    refine XS.istore X0.here hx rfl (hb hby at_27) rfl (l' := #[.val (.int p0), .val (.int p1), .val (.int p2), .val (.int p3), .val (.int p4), .val (.int wd), .val (.int ht), .val (.int cn), .unset, .unset, .unset, .unset, .unset, .unset, .unset, .unset, .unset]) rfl ?_
    show Steps p.tables e below (s₁.setTop (mkF m 29 #[.val (.int p0), .val (.int p1), .val (.int p2), .val (.int p3), .val (.int p4), .val (.int wd), .val (.int ht), .val (.int cn), .unset, .unset, .unset, .unset, .unset, .unset, .unset, .unset, .unset] [])) _
    refine XS.iloadN X0.here hx rfl (hb hby at_29) rfl ?_
    show Steps p.tables e below (s₁.setTop (mkF m 30 #[.val (.int p0), .val (.int p1), .val (.int p2), .val (.int p3), .val (.int p4), .val (.int wd), .val (.int ht), .val (.int cn), .unset, .unset, .unset, .unset, .unset, .unset, .unset, .unset, .unset] [(.int p1)])) _
    refine X0.ldcInt hx hown (mvT hZ (hw _ (List.mem_of_getElem? (i := 0) rfl))) (g := (mkF m 30 #[.val (.int p0), .val (.int p1), .val (.int p2), .val (.int p3), .val (.int p4), .val (.int wd), .val (.int ht), .val (.int cn), .unset, .unset, .unset, .unset, .unset, .unset, .unset, .unset, .unset] [(.int p1)])) rfl (hb hby at_30) _ ?_
    show Steps p.tables e below (s₁.setTop (mkF m 32 #[.val (.int p0), .val (.int p1), .val (.int p2), .val (.int p3), .val (.int p4), .val (.int wd), .val (.int ht), .val (.int cn), .unset, .unset, .unset, .unset, .unset, .unset, .unset, .unset, .unset] [(.int (2147483647 : Int32)), (.int p1)])) _
    refine XS.iand X0.here hx rfl (hb hby at_32) rfl ?_
    show Steps p.tables e below (s₁.setTop (mkF m 33 #[.val (.int p0), .val (.int p1), .val (.int p2), .val (.int p3), .val (.int p4), .val (.int wd), .val (.int ht), .val (.int cn), .unset, .unset, .unset, .unset, .unset, .unset, .unset, .unset, .unset] [(.int (p1 &&& (2147483647 : Int32)))])) _
    refine XS.iload X0.here hx rfl (hb hby at_33) rfl ?_
    show Steps p.tables e below (s₁.setTop (mkF m 35 #[.val (.int p0), .val (.int p1), .val (.int p2), .val (.int p3), .val (.int p4), .val (.int wd), .val (.int ht), .val (.int cn), .unset, .unset, .unset, .unset, .unset, .unset, .unset, .unset, .unset] [(.int ht), (.int (p1 &&& (2147483647 : Int32)))])) _
    refine iremM X0 hx rfl (hb hby at_35) rfl hnz35 ?_
    show Steps p.tables e below (s₁.setTop (mkF m 36 #[.val (.int p0), .val (.int p1), .val (.int p2), .val (.int p3), .val (.int p4), .val (.int wd), .val (.int ht), .val (.int cn), .unset, .unset, .unset, .unset, .unset, .unset, .unset, .unset, .unset] [(.int ((p1 &&& (2147483647 : Int32)) % ht))])) _
    rw [hrw_]
    show Steps p.tables e below (s₁.setTop (mkF m 36 #[.val (.int p0), .val (.int p1), .val (.int p2), .val (.int p3), .val (.int p4), .val (.int wd), .val (.int ht), .val (.int cn), .unset, .unset, .unset, .unset, .unset, .unset, .unset, .unset, .unset] [(.int rr)])) _
    refine XS.istore X0.here hx rfl (hb hby at_36) rfl (l' := #[.val (.int p0), .val (.int p1), .val (.int p2), .val (.int p3), .val (.int p4), .val (.int wd), .val (.int ht), .val (.int cn), .val (.int rr), .unset, .unset, .unset, .unset, .unset, .unset, .unset, .unset]) rfl ?_
    show Steps p.tables e below (s₁.setTop (mkF m 38 #[.val (.int p0), .val (.int p1), .val (.int p2), .val (.int p3), .val (.int p4), .val (.int wd), .val (.int ht), .val (.int cn), .val (.int rr), .unset, .unset, .unset, .unset, .unset, .unset, .unset, .unset] [])) _
    refine XS.iconst X0.here hx rfl (hb hby at_38) ?_
    show Steps p.tables e below (s₁.setTop (mkF m 39 #[.val (.int p0), .val (.int p1), .val (.int p2), .val (.int p3), .val (.int p4), .val (.int wd), .val (.int ht), .val (.int cn), .val (.int rr), .unset, .unset, .unset, .unset, .unset, .unset, .unset, .unset] [(.int (4 : Int32))])) _
    refine st_1 _ ?_
    show Steps p.tables e below (T_1.setTop (mkF m 41 #[.val (.int p0), .val (.int p1), .val (.int p2), .val (.int p3), .val (.int p4), .val (.int wd), .val (.int ht), .val (.int cn), .val (.int rr), .unset, .unset, .unset, .unset, .unset, .unset, .unset, .unset] [(.ref b_1)])) _
    refine XS.astore X_1.here hx rfl (hb hby at_41) rfl rfl (l' := #[.val (.int p0), .val (.int p1), .val (.int p2), .val (.int p3), .val (.int p4), .val (.int wd), .val (.int ht), .val (.int cn), .val (.int rr), .val (.ref b_1), .unset, .unset, .unset, .unset, .unset, .unset, .unset]) rfl ?_
    show Steps p.tables e below (T_1.setTop (mkF m 43 #[.val (.int p0), .val (.int p1), .val (.int p2), .val (.int p3), .val (.int p4), .val (.int wd), .val (.int ht), .val (.int cn), .val (.int rr), .val (.ref b_1), .unset, .unset, .unset, .unset, .unset, .unset, .unset] [])) _
    refine XS.aload X_1.here hx rfl (hb hby at_43) rfl rfl ?_
    show Steps p.tables e below (T_1.setTop (mkF m 45 #[.val (.int p0), .val (.int p1), .val (.int p2), .val (.int p3), .val (.int p4), .val (.int wd), .val (.int ht), .val (.int cn), .val (.int rr), .val (.ref b_1), .unset, .unset, .unset, .unset, .unset, .unset, .unset] [(.ref b_1)])) _
    refine XS.iconst X_1.here hx rfl (hb hby at_45) ?_
    show Steps p.tables e below (T_1.setTop (mkF m 46 #[.val (.int p0), .val (.int p1), .val (.int p2), .val (.int p3), .val (.int p4), .val (.int wd), .val (.int ht), .val (.int cn), .val (.int rr), .val (.ref b_1), .unset, .unset, .unset, .unset, .unset, .unset, .unset] [(.int (0 : Int32)), (.ref b_1)])) _
    refine XS.iloadN X_1.here hx rfl (hb hby at_46) rfl ?_
    show Steps p.tables e below (T_1.setTop (mkF m 47 #[.val (.int p0), .val (.int p1), .val (.int p2), .val (.int p3), .val (.int p4), .val (.int wd), .val (.int ht), .val (.int cn), .val (.int rr), .val (.ref b_1), .unset, .unset, .unset, .unset, .unset, .unset, .unset] [(.int p2), (.int (0 : Int32)), (.ref b_1)])) _
    refine XS.bipush X_1.here hx rfl (hb hby at_47) ?_
    show Steps p.tables e below (T_1.setTop (mkF m 49 #[.val (.int p0), .val (.int p1), .val (.int p2), .val (.int p3), .val (.int p4), .val (.int wd), .val (.int ht), .val (.int cn), .val (.int rr), .val (.ref b_1), .unset, .unset, .unset, .unset, .unset, .unset, .unset] [(.int (7 : Int32)), (.int p2), (.int (0 : Int32)), (.ref b_1)])) _
    refine XS.iand X_1.here hx rfl (hb hby at_49) rfl ?_
    show Steps p.tables e below (T_1.setTop (mkF m 50 #[.val (.int p0), .val (.int p1), .val (.int p2), .val (.int p3), .val (.int p4), .val (.int wd), .val (.int ht), .val (.int cn), .val (.int rr), .val (.ref b_1), .unset, .unset, .unset, .unset, .unset, .unset, .unset] [(.int (p2 &&& (7 : Int32))), (.int (0 : Int32)), (.ref b_1)])) _
    refine XS.iload X_1.here hx rfl (hb hby at_50) rfl ?_
    show Steps p.tables e below (T_1.setTop (mkF m 52 #[.val (.int p0), .val (.int p1), .val (.int p2), .val (.int p3), .val (.int p4), .val (.int wd), .val (.int ht), .val (.int cn), .val (.int rr), .val (.ref b_1), .unset, .unset, .unset, .unset, .unset, .unset, .unset] [(.int wd), (.int (p2 &&& (7 : Int32))), (.int (0 : Int32)), (.ref b_1)])) _
    refine iremM X_1 hx rfl (hb hby at_52) rfl hnz52 ?_
    show Steps p.tables e below (T_1.setTop (mkF m 53 #[.val (.int p0), .val (.int p1), .val (.int p2), .val (.int p3), .val (.int p4), .val (.int wd), .val (.int ht), .val (.int cn), .val (.int rr), .val (.ref b_1), .unset, .unset, .unset, .unset, .unset, .unset, .unset] [(.int ((p2 &&& (7 : Int32)) % wd)), (.int (0 : Int32)), (.ref b_1)])) _
    rw [hc0_]
    show Steps p.tables e below (T_1.setTop (mkF m 53 #[.val (.int p0), .val (.int p1), .val (.int p2), .val (.int p3), .val (.int p4), .val (.int wd), .val (.int ht), .val (.int cn), .val (.int rr), .val (.ref b_1), .unset, .unset, .unset, .unset, .unset, .unset, .unset] [(.int c0), (.int (0 : Int32)), (.ref b_1)])) _
    refine st_3 _ ?_
    show Steps p.tables e below (T_3.setTop (mkF m 54 #[.val (.int p0), .val (.int p1), .val (.int p2), .val (.int p3), .val (.int p4), .val (.int wd), .val (.int ht), .val (.int cn), .val (.int rr), .val (.ref b_1), .unset, .unset, .unset, .unset, .unset, .unset, .unset] [])) _
    refine XS.aload X_3.here hx rfl (hb hby at_54) rfl rfl ?_
    show Steps p.tables e below (T_3.setTop (mkF m 56 #[.val (.int p0), .val (.int p1), .val (.int p2), .val (.int p3), .val (.int p4), .val (.int wd), .val (.int ht), .val (.int cn), .val (.int rr), .val (.ref b_1), .unset, .unset, .unset, .unset, .unset, .unset, .unset] [(.ref b_1)])) _
    refine XS.iconst X_3.here hx rfl (hb hby at_56) ?_
    show Steps p.tables e below (T_3.setTop (mkF m 57 #[.val (.int p0), .val (.int p1), .val (.int p2), .val (.int p3), .val (.int p4), .val (.int wd), .val (.int ht), .val (.int cn), .val (.int rr), .val (.ref b_1), .unset, .unset, .unset, .unset, .unset, .unset, .unset] [(.int (1 : Int32)), (.ref b_1)])) _
    refine XS.iloadN X_3.here hx rfl (hb hby at_57) rfl ?_
    show Steps p.tables e below (T_3.setTop (mkF m 58 #[.val (.int p0), .val (.int p1), .val (.int p2), .val (.int p3), .val (.int p4), .val (.int wd), .val (.int ht), .val (.int cn), .val (.int rr), .val (.ref b_1), .unset, .unset, .unset, .unset, .unset, .unset, .unset] [(.int p2), (.int (1 : Int32)), (.ref b_1)])) _
    refine XS.iconst X_3.here hx rfl (hb hby at_58) ?_
    show Steps p.tables e below (T_3.setTop (mkF m 59 #[.val (.int p0), .val (.int p1), .val (.int p2), .val (.int p3), .val (.int p4), .val (.int wd), .val (.int ht), .val (.int cn), .val (.int rr), .val (.ref b_1), .unset, .unset, .unset, .unset, .unset, .unset, .unset] [(.int (3 : Int32)), (.int p2), (.int (1 : Int32)), (.ref b_1)])) _
    refine XS.iushr X_3.here hx rfl (hb hby at_59) rfl ?_
    show Steps p.tables e below (T_3.setTop (mkF m 60 #[.val (.int p0), .val (.int p1), .val (.int p2), .val (.int p3), .val (.int p4), .val (.int wd), .val (.int ht), .val (.int cn), .val (.int rr), .val (.ref b_1), .unset, .unset, .unset, .unset, .unset, .unset, .unset] [(.int ((p2.toUInt32 >>> ((3 : Int32) &&& 31).toUInt32).toInt32)), (.int (1 : Int32)), (.ref b_1)])) _
    refine XS.bipush X_3.here hx rfl (hb hby at_60) ?_
    show Steps p.tables e below (T_3.setTop (mkF m 62 #[.val (.int p0), .val (.int p1), .val (.int p2), .val (.int p3), .val (.int p4), .val (.int wd), .val (.int ht), .val (.int cn), .val (.int rr), .val (.ref b_1), .unset, .unset, .unset, .unset, .unset, .unset, .unset] [(.int (7 : Int32)), (.int ((p2.toUInt32 >>> ((3 : Int32) &&& 31).toUInt32).toInt32)), (.int (1 : Int32)), (.ref b_1)])) _
    refine XS.iand X_3.here hx rfl (hb hby at_62) rfl ?_
    show Steps p.tables e below (T_3.setTop (mkF m 63 #[.val (.int p0), .val (.int p1), .val (.int p2), .val (.int p3), .val (.int p4), .val (.int wd), .val (.int ht), .val (.int cn), .val (.int rr), .val (.ref b_1), .unset, .unset, .unset, .unset, .unset, .unset, .unset] [(.int (((p2.toUInt32 >>> ((3 : Int32) &&& 31).toUInt32).toInt32) &&& (7 : Int32))), (.int (1 : Int32)), (.ref b_1)])) _
    refine XS.iload X_3.here hx rfl (hb hby at_63) rfl ?_
    show Steps p.tables e below (T_3.setTop (mkF m 65 #[.val (.int p0), .val (.int p1), .val (.int p2), .val (.int p3), .val (.int p4), .val (.int wd), .val (.int ht), .val (.int cn), .val (.int rr), .val (.ref b_1), .unset, .unset, .unset, .unset, .unset, .unset, .unset] [(.int wd), (.int (((p2.toUInt32 >>> ((3 : Int32) &&& 31).toUInt32).toInt32) &&& (7 : Int32))), (.int (1 : Int32)), (.ref b_1)])) _
    refine iremM X_3 hx rfl (hb hby at_65) rfl hnz65 ?_
    show Steps p.tables e below (T_3.setTop (mkF m 66 #[.val (.int p0), .val (.int p1), .val (.int p2), .val (.int p3), .val (.int p4), .val (.int wd), .val (.int ht), .val (.int cn), .val (.int rr), .val (.ref b_1), .unset, .unset, .unset, .unset, .unset, .unset, .unset] [(.int ((((p2.toUInt32 >>> ((3 : Int32) &&& 31).toUInt32).toInt32) &&& (7 : Int32)) % wd)), (.int (1 : Int32)), (.ref b_1)])) _
    rw [hc1_]
    show Steps p.tables e below (T_3.setTop (mkF m 66 #[.val (.int p0), .val (.int p1), .val (.int p2), .val (.int p3), .val (.int p4), .val (.int wd), .val (.int ht), .val (.int cn), .val (.int rr), .val (.ref b_1), .unset, .unset, .unset, .unset, .unset, .unset, .unset] [(.int c1), (.int (1 : Int32)), (.ref b_1)])) _
    refine st_6 _ ?_
    show Steps p.tables e below (T_6.setTop (mkF m 67 #[.val (.int p0), .val (.int p1), .val (.int p2), .val (.int p3), .val (.int p4), .val (.int wd), .val (.int ht), .val (.int cn), .val (.int rr), .val (.ref b_1), .unset, .unset, .unset, .unset, .unset, .unset, .unset] [])) _
    refine XS.aload X_6.here hx rfl (hb hby at_67) rfl rfl ?_
    show Steps p.tables e below (T_6.setTop (mkF m 69 #[.val (.int p0), .val (.int p1), .val (.int p2), .val (.int p3), .val (.int p4), .val (.int wd), .val (.int ht), .val (.int cn), .val (.int rr), .val (.ref b_1), .unset, .unset, .unset, .unset, .unset, .unset, .unset] [(.ref b_1)])) _
    refine XS.iconst X_6.here hx rfl (hb hby at_69) ?_
    show Steps p.tables e below (T_6.setTop (mkF m 70 #[.val (.int p0), .val (.int p1), .val (.int p2), .val (.int p3), .val (.int p4), .val (.int wd), .val (.int ht), .val (.int cn), .val (.int rr), .val (.ref b_1), .unset, .unset, .unset, .unset, .unset, .unset, .unset] [(.int (2 : Int32)), (.ref b_1)])) _
    refine XS.iloadN X_6.here hx rfl (hb hby at_70) rfl ?_
    show Steps p.tables e below (T_6.setTop (mkF m 71 #[.val (.int p0), .val (.int p1), .val (.int p2), .val (.int p3), .val (.int p4), .val (.int wd), .val (.int ht), .val (.int cn), .val (.int rr), .val (.ref b_1), .unset, .unset, .unset, .unset, .unset, .unset, .unset] [(.int p2), (.int (2 : Int32)), (.ref b_1)])) _
    refine XS.bipush X_6.here hx rfl (hb hby at_71) ?_
    show Steps p.tables e below (T_6.setTop (mkF m 73 #[.val (.int p0), .val (.int p1), .val (.int p2), .val (.int p3), .val (.int p4), .val (.int wd), .val (.int ht), .val (.int cn), .val (.int rr), .val (.ref b_1), .unset, .unset, .unset, .unset, .unset, .unset, .unset] [(.int (6 : Int32)), (.int p2), (.int (2 : Int32)), (.ref b_1)])) _
    refine XS.iushr X_6.here hx rfl (hb hby at_73) rfl ?_
    show Steps p.tables e below (T_6.setTop (mkF m 74 #[.val (.int p0), .val (.int p1), .val (.int p2), .val (.int p3), .val (.int p4), .val (.int wd), .val (.int ht), .val (.int cn), .val (.int rr), .val (.ref b_1), .unset, .unset, .unset, .unset, .unset, .unset, .unset] [(.int ((p2.toUInt32 >>> ((6 : Int32) &&& 31).toUInt32).toInt32)), (.int (2 : Int32)), (.ref b_1)])) _
    refine XS.bipush X_6.here hx rfl (hb hby at_74) ?_
    show Steps p.tables e below (T_6.setTop (mkF m 76 #[.val (.int p0), .val (.int p1), .val (.int p2), .val (.int p3), .val (.int p4), .val (.int wd), .val (.int ht), .val (.int cn), .val (.int rr), .val (.ref b_1), .unset, .unset, .unset, .unset, .unset, .unset, .unset] [(.int (7 : Int32)), (.int ((p2.toUInt32 >>> ((6 : Int32) &&& 31).toUInt32).toInt32)), (.int (2 : Int32)), (.ref b_1)])) _
    refine XS.iand X_6.here hx rfl (hb hby at_76) rfl ?_
    show Steps p.tables e below (T_6.setTop (mkF m 77 #[.val (.int p0), .val (.int p1), .val (.int p2), .val (.int p3), .val (.int p4), .val (.int wd), .val (.int ht), .val (.int cn), .val (.int rr), .val (.ref b_1), .unset, .unset, .unset, .unset, .unset, .unset, .unset] [(.int (((p2.toUInt32 >>> ((6 : Int32) &&& 31).toUInt32).toInt32) &&& (7 : Int32))), (.int (2 : Int32)), (.ref b_1)])) _
    refine XS.iload X_6.here hx rfl (hb hby at_77) rfl ?_
    show Steps p.tables e below (T_6.setTop (mkF m 79 #[.val (.int p0), .val (.int p1), .val (.int p2), .val (.int p3), .val (.int p4), .val (.int wd), .val (.int ht), .val (.int cn), .val (.int rr), .val (.ref b_1), .unset, .unset, .unset, .unset, .unset, .unset, .unset] [(.int wd), (.int (((p2.toUInt32 >>> ((6 : Int32) &&& 31).toUInt32).toInt32) &&& (7 : Int32))), (.int (2 : Int32)), (.ref b_1)])) _
    refine iremM X_6 hx rfl (hb hby at_79) rfl hnz79 ?_
    show Steps p.tables e below (T_6.setTop (mkF m 80 #[.val (.int p0), .val (.int p1), .val (.int p2), .val (.int p3), .val (.int p4), .val (.int wd), .val (.int ht), .val (.int cn), .val (.int rr), .val (.ref b_1), .unset, .unset, .unset, .unset, .unset, .unset, .unset] [(.int ((((p2.toUInt32 >>> ((6 : Int32) &&& 31).toUInt32).toInt32) &&& (7 : Int32)) % wd)), (.int (2 : Int32)), (.ref b_1)])) _
    rw [hc2_]
    show Steps p.tables e below (T_6.setTop (mkF m 80 #[.val (.int p0), .val (.int p1), .val (.int p2), .val (.int p3), .val (.int p4), .val (.int wd), .val (.int ht), .val (.int cn), .val (.int rr), .val (.ref b_1), .unset, .unset, .unset, .unset, .unset, .unset, .unset] [(.int c2), (.int (2 : Int32)), (.ref b_1)])) _
    refine st_9 _ ?_
    show Steps p.tables e below (T_9.setTop (mkF m 81 #[.val (.int p0), .val (.int p1), .val (.int p2), .val (.int p3), .val (.int p4), .val (.int wd), .val (.int ht), .val (.int cn), .val (.int rr), .val (.ref b_1), .unset, .unset, .unset, .unset, .unset, .unset, .unset] [])) _
    refine XS.aload X_9.here hx rfl (hb hby at_81) rfl rfl ?_
    show Steps p.tables e below (T_9.setTop (mkF m 83 #[.val (.int p0), .val (.int p1), .val (.int p2), .val (.int p3), .val (.int p4), .val (.int wd), .val (.int ht), .val (.int cn), .val (.int rr), .val (.ref b_1), .unset, .unset, .unset, .unset, .unset, .unset, .unset] [(.ref b_1)])) _
    refine XS.iconst X_9.here hx rfl (hb hby at_83) ?_
    show Steps p.tables e below (T_9.setTop (mkF m 84 #[.val (.int p0), .val (.int p1), .val (.int p2), .val (.int p3), .val (.int p4), .val (.int wd), .val (.int ht), .val (.int cn), .val (.int rr), .val (.ref b_1), .unset, .unset, .unset, .unset, .unset, .unset, .unset] [(.int (3 : Int32)), (.ref b_1)])) _
    refine XS.iloadN X_9.here hx rfl (hb hby at_84) rfl ?_
    show Steps p.tables e below (T_9.setTop (mkF m 85 #[.val (.int p0), .val (.int p1), .val (.int p2), .val (.int p3), .val (.int p4), .val (.int wd), .val (.int ht), .val (.int cn), .val (.int rr), .val (.ref b_1), .unset, .unset, .unset, .unset, .unset, .unset, .unset] [(.int p2), (.int (3 : Int32)), (.ref b_1)])) _
    refine XS.bipush X_9.here hx rfl (hb hby at_85) ?_
    show Steps p.tables e below (T_9.setTop (mkF m 87 #[.val (.int p0), .val (.int p1), .val (.int p2), .val (.int p3), .val (.int p4), .val (.int wd), .val (.int ht), .val (.int cn), .val (.int rr), .val (.ref b_1), .unset, .unset, .unset, .unset, .unset, .unset, .unset] [(.int (9 : Int32)), (.int p2), (.int (3 : Int32)), (.ref b_1)])) _
    refine XS.iushr X_9.here hx rfl (hb hby at_87) rfl ?_
    show Steps p.tables e below (T_9.setTop (mkF m 88 #[.val (.int p0), .val (.int p1), .val (.int p2), .val (.int p3), .val (.int p4), .val (.int wd), .val (.int ht), .val (.int cn), .val (.int rr), .val (.ref b_1), .unset, .unset, .unset, .unset, .unset, .unset, .unset] [(.int ((p2.toUInt32 >>> ((9 : Int32) &&& 31).toUInt32).toInt32)), (.int (3 : Int32)), (.ref b_1)])) _
    refine XS.bipush X_9.here hx rfl (hb hby at_88) ?_
    show Steps p.tables e below (T_9.setTop (mkF m 90 #[.val (.int p0), .val (.int p1), .val (.int p2), .val (.int p3), .val (.int p4), .val (.int wd), .val (.int ht), .val (.int cn), .val (.int rr), .val (.ref b_1), .unset, .unset, .unset, .unset, .unset, .unset, .unset] [(.int (7 : Int32)), (.int ((p2.toUInt32 >>> ((9 : Int32) &&& 31).toUInt32).toInt32)), (.int (3 : Int32)), (.ref b_1)])) _
    refine XS.iand X_9.here hx rfl (hb hby at_90) rfl ?_
    show Steps p.tables e below (T_9.setTop (mkF m 91 #[.val (.int p0), .val (.int p1), .val (.int p2), .val (.int p3), .val (.int p4), .val (.int wd), .val (.int ht), .val (.int cn), .val (.int rr), .val (.ref b_1), .unset, .unset, .unset, .unset, .unset, .unset, .unset] [(.int (((p2.toUInt32 >>> ((9 : Int32) &&& 31).toUInt32).toInt32) &&& (7 : Int32))), (.int (3 : Int32)), (.ref b_1)])) _
    refine XS.iload X_9.here hx rfl (hb hby at_91) rfl ?_
    show Steps p.tables e below (T_9.setTop (mkF m 93 #[.val (.int p0), .val (.int p1), .val (.int p2), .val (.int p3), .val (.int p4), .val (.int wd), .val (.int ht), .val (.int cn), .val (.int rr), .val (.ref b_1), .unset, .unset, .unset, .unset, .unset, .unset, .unset] [(.int wd), (.int (((p2.toUInt32 >>> ((9 : Int32) &&& 31).toUInt32).toInt32) &&& (7 : Int32))), (.int (3 : Int32)), (.ref b_1)])) _
    refine iremM X_9 hx rfl (hb hby at_93) rfl hnz93 ?_
    show Steps p.tables e below (T_9.setTop (mkF m 94 #[.val (.int p0), .val (.int p1), .val (.int p2), .val (.int p3), .val (.int p4), .val (.int wd), .val (.int ht), .val (.int cn), .val (.int rr), .val (.ref b_1), .unset, .unset, .unset, .unset, .unset, .unset, .unset] [(.int ((((p2.toUInt32 >>> ((9 : Int32) &&& 31).toUInt32).toInt32) &&& (7 : Int32)) % wd)), (.int (3 : Int32)), (.ref b_1)])) _
    rw [hc3_]
    show Steps p.tables e below (T_9.setTop (mkF m 94 #[.val (.int p0), .val (.int p1), .val (.int p2), .val (.int p3), .val (.int p4), .val (.int wd), .val (.int ht), .val (.int cn), .val (.int rr), .val (.ref b_1), .unset, .unset, .unset, .unset, .unset, .unset, .unset] [(.int c3), (.int (3 : Int32)), (.ref b_1)])) _
    refine st_12 _ ?_
    show Steps p.tables e below (T_12.setTop (mkF m 95 #[.val (.int p0), .val (.int p1), .val (.int p2), .val (.int p3), .val (.int p4), .val (.int wd), .val (.int ht), .val (.int cn), .val (.int rr), .val (.ref b_1), .unset, .unset, .unset, .unset, .unset, .unset, .unset] [])) _
    refine XS.iloadN X_12.here hx rfl (hb hby at_95) rfl ?_
    show Steps p.tables e below (T_12.setTop (mkF m 96 #[.val (.int p0), .val (.int p1), .val (.int p2), .val (.int p3), .val (.int p4), .val (.int wd), .val (.int ht), .val (.int cn), .val (.int rr), .val (.ref b_1), .unset, .unset, .unset, .unset, .unset, .unset, .unset] [(.int p3)])) _
    refine X_12.ldcInt hx hown (mvT hZ (hw _ (List.mem_of_getElem? (i := 2) rfl))) (g := (mkF m 96 #[.val (.int p0), .val (.int p1), .val (.int p2), .val (.int p3), .val (.int p4), .val (.int wd), .val (.int ht), .val (.int cn), .val (.int rr), .val (.ref b_1), .unset, .unset, .unset, .unset, .unset, .unset, .unset] [(.int p3)])) rfl (hb hby at_96) _ ?_
    show Steps p.tables e below (T_12.setTop (mkF m 98 #[.val (.int p0), .val (.int p1), .val (.int p2), .val (.int p3), .val (.int p4), .val (.int wd), .val (.int ht), .val (.int cn), .val (.int rr), .val (.ref b_1), .unset, .unset, .unset, .unset, .unset, .unset, .unset] [(.int (16777215 : Int32)), (.int p3)])) _
    refine XS.iand X_12.here hx rfl (hb hby at_98) rfl ?_
    show Steps p.tables e below (T_12.setTop (mkF m 99 #[.val (.int p0), .val (.int p1), .val (.int p2), .val (.int p3), .val (.int p4), .val (.int wd), .val (.int ht), .val (.int cn), .val (.int rr), .val (.ref b_1), .unset, .unset, .unset, .unset, .unset, .unset, .unset] [(.int (p3 &&& (16777215 : Int32)))])) _
    rw [hrg_]
    show Steps p.tables e below (T_12.setTop (mkF m 99 #[.val (.int p0), .val (.int p1), .val (.int p2), .val (.int p3), .val (.int p4), .val (.int wd), .val (.int ht), .val (.int cn), .val (.int rr), .val (.ref b_1), .unset, .unset, .unset, .unset, .unset, .unset, .unset] [(.int rg)])) _
    refine XS.istore X_12.here hx rfl (hb hby at_99) rfl (l' := #[.val (.int p0), .val (.int p1), .val (.int p2), .val (.int p3), .val (.int p4), .val (.int wd), .val (.int ht), .val (.int cn), .val (.int rr), .val (.ref b_1), .val (.int rg), .unset, .unset, .unset, .unset, .unset, .unset]) rfl ?_
    show Steps p.tables e below (T_12.setTop (mkF m 101 #[.val (.int p0), .val (.int p1), .val (.int p2), .val (.int p3), .val (.int p4), .val (.int wd), .val (.int ht), .val (.int cn), .val (.int rr), .val (.ref b_1), .val (.int rg), .unset, .unset, .unset, .unset, .unset, .unset] [])) _
    refine XS.iload X_12.here hx rfl (hb hby at_101) rfl ?_
    show Steps p.tables e below (T_12.setTop (mkF m 103 #[.val (.int p0), .val (.int p1), .val (.int p2), .val (.int p3), .val (.int p4), .val (.int wd), .val (.int ht), .val (.int cn), .val (.int rr), .val (.ref b_1), .val (.int rg), .unset, .unset, .unset, .unset, .unset, .unset] [(.int p4)])) _
    refine XS.bipush X_12.here hx rfl (hb hby at_103) ?_
    show Steps p.tables e below (T_12.setTop (mkF m 105 #[.val (.int p0), .val (.int p1), .val (.int p2), .val (.int p3), .val (.int p4), .val (.int wd), .val (.int ht), .val (.int cn), .val (.int rr), .val (.ref b_1), .val (.int rg), .unset, .unset, .unset, .unset, .unset, .unset] [(.int (7 : Int32)), (.int p4)])) _
    refine XS.iand X_12.here hx rfl (hb hby at_105) rfl ?_
    show Steps p.tables e below (T_12.setTop (mkF m 106 #[.val (.int p0), .val (.int p1), .val (.int p2), .val (.int p3), .val (.int p4), .val (.int wd), .val (.int ht), .val (.int cn), .val (.int rr), .val (.ref b_1), .val (.int rg), .unset, .unset, .unset, .unset, .unset, .unset] [(.int (p4 &&& (7 : Int32)))])) _
    refine XS.iload X_12.here hx rfl (hb hby at_106) rfl ?_
    show Steps p.tables e below (T_12.setTop (mkF m 108 #[.val (.int p0), .val (.int p1), .val (.int p2), .val (.int p3), .val (.int p4), .val (.int wd), .val (.int ht), .val (.int cn), .val (.int rr), .val (.ref b_1), .val (.int rg), .unset, .unset, .unset, .unset, .unset, .unset] [(.int wd), (.int (p4 &&& (7 : Int32)))])) _
    refine iremM X_12 hx rfl (hb hby at_108) rfl hnz108 ?_
    show Steps p.tables e below (T_12.setTop (mkF m 109 #[.val (.int p0), .val (.int p1), .val (.int p2), .val (.int p3), .val (.int p4), .val (.int wd), .val (.int ht), .val (.int cn), .val (.int rr), .val (.ref b_1), .val (.int rg), .unset, .unset, .unset, .unset, .unset, .unset] [(.int ((p4 &&& (7 : Int32)) % wd))])) _
    rw [hpx_]
    show Steps p.tables e below (T_12.setTop (mkF m 109 #[.val (.int p0), .val (.int p1), .val (.int p2), .val (.int p3), .val (.int p4), .val (.int wd), .val (.int ht), .val (.int cn), .val (.int rr), .val (.ref b_1), .val (.int rg), .unset, .unset, .unset, .unset, .unset, .unset] [(.int px)])) _
    refine XS.istore X_12.here hx rfl (hb hby at_109) rfl (l' := #[.val (.int p0), .val (.int p1), .val (.int p2), .val (.int p3), .val (.int p4), .val (.int wd), .val (.int ht), .val (.int cn), .val (.int rr), .val (.ref b_1), .val (.int rg), .val (.int px), .unset, .unset, .unset, .unset, .unset]) rfl ?_
    show Steps p.tables e below (T_12.setTop (mkF m 111 #[.val (.int p0), .val (.int p1), .val (.int p2), .val (.int p3), .val (.int p4), .val (.int wd), .val (.int ht), .val (.int cn), .val (.int rr), .val (.ref b_1), .val (.int rg), .val (.int px), .unset, .unset, .unset, .unset, .unset] [])) _
    refine XS.iload X_12.here hx rfl (hb hby at_111) rfl ?_
    show Steps p.tables e below (T_12.setTop (mkF m 113 #[.val (.int p0), .val (.int p1), .val (.int p2), .val (.int p3), .val (.int p4), .val (.int wd), .val (.int ht), .val (.int cn), .val (.int rr), .val (.ref b_1), .val (.int rg), .val (.int px), .unset, .unset, .unset, .unset, .unset] [(.int p4)])) _
    refine XS.iconst X_12.here hx rfl (hb hby at_113) ?_
    show Steps p.tables e below (T_12.setTop (mkF m 114 #[.val (.int p0), .val (.int p1), .val (.int p2), .val (.int p3), .val (.int p4), .val (.int wd), .val (.int ht), .val (.int cn), .val (.int rr), .val (.ref b_1), .val (.int rg), .val (.int px), .unset, .unset, .unset, .unset, .unset] [(.int (3 : Int32)), (.int p4)])) _
    refine XS.iushr X_12.here hx rfl (hb hby at_114) rfl ?_
    show Steps p.tables e below (T_12.setTop (mkF m 115 #[.val (.int p0), .val (.int p1), .val (.int p2), .val (.int p3), .val (.int p4), .val (.int wd), .val (.int ht), .val (.int cn), .val (.int rr), .val (.ref b_1), .val (.int rg), .val (.int px), .unset, .unset, .unset, .unset, .unset] [(.int ((p4.toUInt32 >>> ((3 : Int32) &&& 31).toUInt32).toInt32))])) _
    refine XS.bipush X_12.here hx rfl (hb hby at_115) ?_
    show Steps p.tables e below (T_12.setTop (mkF m 117 #[.val (.int p0), .val (.int p1), .val (.int p2), .val (.int p3), .val (.int p4), .val (.int wd), .val (.int ht), .val (.int cn), .val (.int rr), .val (.ref b_1), .val (.int rg), .val (.int px), .unset, .unset, .unset, .unset, .unset] [(.int (7 : Int32)), (.int ((p4.toUInt32 >>> ((3 : Int32) &&& 31).toUInt32).toInt32))])) _
    refine XS.iand X_12.here hx rfl (hb hby at_117) rfl ?_
    show Steps p.tables e below (T_12.setTop (mkF m 118 #[.val (.int p0), .val (.int p1), .val (.int p2), .val (.int p3), .val (.int p4), .val (.int wd), .val (.int ht), .val (.int cn), .val (.int rr), .val (.ref b_1), .val (.int rg), .val (.int px), .unset, .unset, .unset, .unset, .unset] [(.int (((p4.toUInt32 >>> ((3 : Int32) &&& 31).toUInt32).toInt32) &&& (7 : Int32)))])) _
    refine XS.iload X_12.here hx rfl (hb hby at_118) rfl ?_
    show Steps p.tables e below (T_12.setTop (mkF m 120 #[.val (.int p0), .val (.int p1), .val (.int p2), .val (.int p3), .val (.int p4), .val (.int wd), .val (.int ht), .val (.int cn), .val (.int rr), .val (.ref b_1), .val (.int rg), .val (.int px), .unset, .unset, .unset, .unset, .unset] [(.int ht), (.int (((p4.toUInt32 >>> ((3 : Int32) &&& 31).toUInt32).toInt32) &&& (7 : Int32)))])) _
    refine iremM X_12 hx rfl (hb hby at_120) rfl hnz120 ?_
    show Steps p.tables e below (T_12.setTop (mkF m 121 #[.val (.int p0), .val (.int p1), .val (.int p2), .val (.int p3), .val (.int p4), .val (.int wd), .val (.int ht), .val (.int cn), .val (.int rr), .val (.ref b_1), .val (.int rg), .val (.int px), .unset, .unset, .unset, .unset, .unset] [(.int ((((p4.toUInt32 >>> ((3 : Int32) &&& 31).toUInt32).toInt32) &&& (7 : Int32)) % ht))])) _
    rw [hpy_]
    show Steps p.tables e below (T_12.setTop (mkF m 121 #[.val (.int p0), .val (.int p1), .val (.int p2), .val (.int p3), .val (.int p4), .val (.int wd), .val (.int ht), .val (.int cn), .val (.int rr), .val (.ref b_1), .val (.int rg), .val (.int px), .unset, .unset, .unset, .unset, .unset] [(.int py)])) _
    refine XS.istore X_12.here hx rfl (hb hby at_121) rfl (l' := #[.val (.int p0), .val (.int p1), .val (.int p2), .val (.int p3), .val (.int p4), .val (.int wd), .val (.int ht), .val (.int cn), .val (.int rr), .val (.ref b_1), .val (.int rg), .val (.int px), .val (.int py), .unset, .unset, .unset, .unset]) rfl ?_
    show Steps p.tables e below (T_12.setTop (mkF m 123 #[.val (.int p0), .val (.int p1), .val (.int p2), .val (.int p3), .val (.int p4), .val (.int wd), .val (.int ht), .val (.int cn), .val (.int rr), .val (.ref b_1), .val (.int rg), .val (.int px), .val (.int py), .unset, .unset, .unset, .unset] [])) _
    refine st_15 _ ?_
    show Steps p.tables e below (T_15.setTop (mkF m 126 #[.val (.int p0), .val (.int p1), .val (.int p2), .val (.int p3), .val (.int p4), .val (.int wd), .val (.int ht), .val (.int cn), .val (.int rr), .val (.ref b_1), .val (.int rg), .val (.int px), .val (.int py), .unset, .unset, .unset, .unset] [(.ref b_15)])) _
    refine XS.dup X_15.here hx rfl (hb hby at_126) rfl rfl ?_
    show Steps p.tables e below (T_15.setTop (mkF m 127 #[.val (.int p0), .val (.int p1), .val (.int p2), .val (.int p3), .val (.int p4), .val (.int wd), .val (.int ht), .val (.int cn), .val (.int rr), .val (.ref b_1), .val (.int rg), .val (.int px), .val (.int py), .unset, .unset, .unset, .unset] [(.ref b_15), (.ref b_15)])) _
    refine XS.iload X_15.here hx rfl (hb hby at_127) rfl ?_
    show Steps p.tables e below (T_15.setTop (mkF m 129 #[.val (.int p0), .val (.int p1), .val (.int p2), .val (.int p3), .val (.int p4), .val (.int wd), .val (.int ht), .val (.int cn), .val (.int rr), .val (.ref b_1), .val (.int rg), .val (.int px), .val (.int py), .unset, .unset, .unset, .unset] [(.int wd), (.ref b_15), (.ref b_15)])) _
    refine XS.iload X_15.here hx rfl (hb hby at_129) rfl ?_
    show Steps p.tables e below (T_15.setTop (mkF m 131 #[.val (.int p0), .val (.int p1), .val (.int p2), .val (.int p3), .val (.int p4), .val (.int wd), .val (.int ht), .val (.int cn), .val (.int rr), .val (.ref b_1), .val (.int rg), .val (.int px), .val (.int py), .unset, .unset, .unset, .unset] [(.int ht), (.int wd), (.ref b_15), (.ref b_15)])) _
    refine st_17.trans ?_
    show Steps p.tables e below (T_17.setTop (mkF m 134 #[.val (.int p0), .val (.int p1), .val (.int p2), .val (.int p3), .val (.int p4), .val (.int wd), .val (.int ht), .val (.int cn), .val (.int rr), .val (.ref b_1), .val (.int rg), .val (.int px), .val (.int py), .unset, .unset, .unset, .unset] [(.ref b_15)])) _
    refine XS.astore X_17.here hx rfl (hb hby at_134) rfl rfl (l' := #[.val (.int p0), .val (.int p1), .val (.int p2), .val (.int p3), .val (.int p4), .val (.int wd), .val (.int ht), .val (.int cn), .val (.int rr), .val (.ref b_1), .val (.int rg), .val (.int px), .val (.int py), .val (.ref b_15), .unset, .unset, .unset]) rfl ?_
    show Steps p.tables e below (T_17.setTop (mkF m 136 #[.val (.int p0), .val (.int p1), .val (.int p2), .val (.int p3), .val (.int p4), .val (.int wd), .val (.int ht), .val (.int cn), .val (.int rr), .val (.ref b_1), .val (.int rg), .val (.int px), .val (.int py), .val (.ref b_15), .unset, .unset, .unset] [])) _
    refine XS.aload X_17.here hx rfl (hb hby at_136) rfl rfl ?_
    show Steps p.tables e below (T_17.setTop (mkF m 138 #[.val (.int p0), .val (.int p1), .val (.int p2), .val (.int p3), .val (.int p4), .val (.int wd), .val (.int ht), .val (.int cn), .val (.int rr), .val (.ref b_1), .val (.int rg), .val (.int px), .val (.int py), .val (.ref b_15), .unset, .unset, .unset] [(.ref b_15)])) _
    refine XS.iload X_17.here hx rfl (hb hby at_138) rfl ?_
    show Steps p.tables e below (T_17.setTop (mkF m 140 #[.val (.int p0), .val (.int p1), .val (.int p2), .val (.int p3), .val (.int p4), .val (.int wd), .val (.int ht), .val (.int cn), .val (.int rr), .val (.ref b_1), .val (.int rg), .val (.int px), .val (.int py), .val (.ref b_15), .unset, .unset, .unset] [(.int rr), (.ref b_15)])) _
    refine XS.aload X_17.here hx rfl (hb hby at_140) rfl rfl ?_
    show Steps p.tables e below (T_17.setTop (mkF m 142 #[.val (.int p0), .val (.int p1), .val (.int p2), .val (.int p3), .val (.int p4), .val (.int wd), .val (.int ht), .val (.int cn), .val (.int rr), .val (.ref b_1), .val (.int rg), .val (.int px), .val (.int py), .val (.ref b_15), .unset, .unset, .unset] [(.ref b_1), (.int rr), (.ref b_15)])) _
    refine XS.iload X_17.here hx rfl (hb hby at_142) rfl ?_
    show Steps p.tables e below (T_17.setTop (mkF m 144 #[.val (.int p0), .val (.int p1), .val (.int p2), .val (.int p3), .val (.int p4), .val (.int wd), .val (.int ht), .val (.int cn), .val (.int rr), .val (.ref b_1), .val (.int rg), .val (.int px), .val (.int py), .val (.ref b_15), .unset, .unset, .unset] [(.int cn), (.ref b_1), (.int rr), (.ref b_15)])) _
    refine XS.iload X_17.here hx rfl (hb hby at_144) rfl ?_
    show Steps p.tables e below (T_17.setTop (mkF m 146 #[.val (.int p0), .val (.int p1), .val (.int p2), .val (.int p3), .val (.int p4), .val (.int wd), .val (.int ht), .val (.int cn), .val (.int rr), .val (.ref b_1), .val (.int rg), .val (.int px), .val (.int py), .val (.ref b_15), .unset, .unset, .unset] [(.int rg), (.int cn), (.ref b_1), (.int rr), (.ref b_15)])) _
    refine st_20.trans ?_
    have jn149 : ∀ target, Steps p.tables e below (T_20.setTop (mkF m 213 #[.val (.int p0), .val (.int p1), .val (.int p2), .val (.int p3), .val (.int p4), .val (.int wd), .val (.int ht), .val (.int cn), .val (.int rr), .val (.ref b_1), .val (.int rg), .val (.int px), .val (.int py), .val (.ref b_15), .unset, .unset, .unset] [(.int il)])) target → Steps p.tables e below (T_20.setTop (mkF m 149 #[.val (.int p0), .val (.int p1), .val (.int p2), .val (.int p3), .val (.int p4), .val (.int wd), .val (.int ht), .val (.int cn), .val (.int rr), .val (.ref b_1), .val (.int rg), .val (.int px), .val (.int py), .val (.ref b_15), .unset, .unset, .unset] [])) target := by
      intro target kt
      show Steps p.tables e below (T_20.setTop (mkF m 149 #[.val (.int p0), .val (.int p1), .val (.int p2), .val (.int p3), .val (.int p4), .val (.int wd), .val (.int ht), .val (.int cn), .val (.int rr), .val (.ref b_1), .val (.int rg), .val (.int px), .val (.int py), .val (.ref b_15), .unset, .unset, .unset] [])) _
      refine XS.iload X_20.here hx rfl (hb hby at_149) rfl ?_
      show Steps p.tables e below (T_20.setTop (mkF m 151 #[.val (.int p0), .val (.int p1), .val (.int p2), .val (.int p3), .val (.int p4), .val (.int wd), .val (.int ht), .val (.int cn), .val (.int rr), .val (.ref b_1), .val (.int rg), .val (.int px), .val (.int py), .val (.ref b_15), .unset, .unset, .unset] [(.int cn)])) _
      by_cases hj151_0 : (0 : Int32) < cn
      · refine XS.ifNo X_20.here hx rfl (hb hby at_151) rfl ((if0 _ _).trans (tlt hj151_0).2.2.2) ?_
        show Steps p.tables e below (T_20.setTop (mkF m 154 #[.val (.int p0), .val (.int p1), .val (.int p2), .val (.int p3), .val (.int p4), .val (.int wd), .val (.int ht), .val (.int cn), .val (.int rr), .val (.ref b_1), .val (.int rg), .val (.int px), .val (.int py), .val (.ref b_15), .unset, .unset, .unset] [])) _
        refine XS.iload X_20.here hx rfl (hb hby at_154) rfl ?_
        show Steps p.tables e below (T_20.setTop (mkF m 156 #[.val (.int p0), .val (.int p1), .val (.int p2), .val (.int p3), .val (.int p4), .val (.int wd), .val (.int ht), .val (.int cn), .val (.int rr), .val (.ref b_1), .val (.int rg), .val (.int px), .val (.int py), .val (.ref b_15), .unset, .unset, .unset] [(.int px)])) _
        refine XS.aload X_20.here hx rfl (hb hby at_156) rfl rfl ?_
        show Steps p.tables e below (T_20.setTop (mkF m 158 #[.val (.int p0), .val (.int p1), .val (.int p2), .val (.int p3), .val (.int p4), .val (.int wd), .val (.int ht), .val (.int cn), .val (.int rr), .val (.ref b_1), .val (.int rg), .val (.int px), .val (.int py), .val (.ref b_15), .unset, .unset, .unset] [(.ref b_1), (.int px)])) _
        refine XS.iconst X_20.here hx rfl (hb hby at_158) ?_
        show Steps p.tables e below (T_20.setTop (mkF m 159 #[.val (.int p0), .val (.int p1), .val (.int p2), .val (.int p3), .val (.int p4), .val (.int wd), .val (.int ht), .val (.int cn), .val (.int rr), .val (.ref b_1), .val (.int rg), .val (.int px), .val (.int py), .val (.ref b_15), .unset, .unset, .unset] [(.int (0 : Int32)), (.ref b_1), (.int px)])) _
        refine X_20.iaload hx (j := (0 : Int32)) (v := (.int c0)) Ar_24.1 (State.isArrayOf_alike hZ.alike Ar_24.2.1) Ar_24.2.2 (inb_of Sz_24 ⟨(by decide), (by decide)⟩) ((Hz_24 _ (own_idx (by decide) (by decide))).trans (congrArg some (rfl : (fun j => if j = (3 : Int32).toNatClampNeg then Value.int c3 else (fun j => if j = (2 : Int32).toNatClampNeg then Value.int c2 else (fun j => if j = (1 : Int32).toNatClampNeg then Value.int c1 else (fun j => if j = (0 : Int32).toNatClampNeg then Value.int c0 else (fun _ => (Value.int (0 : Int32))) j) j) j) j) (0 : Int32).toNatClampNeg = .int c0))) (g := (mkF m 159 #[.val (.int p0), .val (.int p1), .val (.int p2), .val (.int p3), .val (.int p4), .val (.int wd), .val (.int ht), .val (.int cn), .val (.int rr), .val (.ref b_1), .val (.int rg), .val (.int px), .val (.int py), .val (.ref b_15), .unset, .unset, .unset] [(.int (0 : Int32)), (.ref b_1), (.int px)])) rfl rfl (hb hby at_159) _ ?_
        show Steps p.tables e below (T_20.setTop (mkF m 160 #[.val (.int p0), .val (.int p1), .val (.int p2), .val (.int p3), .val (.int p4), .val (.int wd), .val (.int ht), .val (.int cn), .val (.int rr), .val (.ref b_1), .val (.int rg), .val (.int px), .val (.int py), .val (.ref b_15), .unset, .unset, .unset] [(.int c0), (.int px)])) _
        by_cases hj160_1 : px = c0
        · refine XS.icmpYes X_20.here hx rfl (pc0 := 160) (pc' := 208) rfl (hb hby at_160) rfl (teq hj160_1).1 (by decide) (by decide) ?_
          show Steps p.tables e below (T_20.setTop (mkF m 208 #[.val (.int p0), .val (.int p1), .val (.int p2), .val (.int p3), .val (.int p4), .val (.int wd), .val (.int ht), .val (.int cn), .val (.int rr), .val (.ref b_1), .val (.int rg), .val (.int px), .val (.int py), .val (.ref b_15), .unset, .unset, .unset] [])) _
          refine XS.iconst X_20.here hx rfl (hb hby at_208) ?_
          show Steps p.tables e below (T_20.setTop (mkF m 209 #[.val (.int p0), .val (.int p1), .val (.int p2), .val (.int p3), .val (.int p4), .val (.int wd), .val (.int ht), .val (.int cn), .val (.int rr), .val (.ref b_1), .val (.int rg), .val (.int px), .val (.int py), .val (.ref b_15), .unset, .unset, .unset] [(.int (1 : Int32))])) _
          refine XS.goto X_20.here hx rfl (pc0 := 209) (pc' := 213) rfl (hb hby at_209) (by decide) (by decide) ?_
          rw [← hil_, if_pos hj151_0, if_pos hj160_1] at kt
          exact kt
        · refine XS.icmpNo X_20.here hx rfl (hb hby at_160) rfl (feq hj160_1).1 ?_
          show Steps p.tables e below (T_20.setTop (mkF m 163 #[.val (.int p0), .val (.int p1), .val (.int p2), .val (.int p3), .val (.int p4), .val (.int wd), .val (.int ht), .val (.int cn), .val (.int rr), .val (.ref b_1), .val (.int rg), .val (.int px), .val (.int py), .val (.ref b_15), .unset, .unset, .unset] [])) _
          refine XS.iload X_20.here hx rfl (hb hby at_163) rfl ?_
          show Steps p.tables e below (T_20.setTop (mkF m 165 #[.val (.int p0), .val (.int p1), .val (.int p2), .val (.int p3), .val (.int p4), .val (.int wd), .val (.int ht), .val (.int cn), .val (.int rr), .val (.ref b_1), .val (.int rg), .val (.int px), .val (.int py), .val (.ref b_15), .unset, .unset, .unset] [(.int cn)])) _
          refine XS.iconst X_20.here hx rfl (hb hby at_165) ?_
          show Steps p.tables e below (T_20.setTop (mkF m 166 #[.val (.int p0), .val (.int p1), .val (.int p2), .val (.int p3), .val (.int p4), .val (.int wd), .val (.int ht), .val (.int cn), .val (.int rr), .val (.ref b_1), .val (.int rg), .val (.int px), .val (.int py), .val (.ref b_15), .unset, .unset, .unset] [(.int (1 : Int32)), (.int cn)])) _
          by_cases hj166_2 : (1 : Int32) < cn
          · refine XS.icmpNo X_20.here hx rfl (hb hby at_166) rfl (tlt hj166_2).2.2.2 ?_
            show Steps p.tables e below (T_20.setTop (mkF m 169 #[.val (.int p0), .val (.int p1), .val (.int p2), .val (.int p3), .val (.int p4), .val (.int wd), .val (.int ht), .val (.int cn), .val (.int rr), .val (.ref b_1), .val (.int rg), .val (.int px), .val (.int py), .val (.ref b_15), .unset, .unset, .unset] [])) _
            refine XS.iload X_20.here hx rfl (hb hby at_169) rfl ?_
            show Steps p.tables e below (T_20.setTop (mkF m 171 #[.val (.int p0), .val (.int p1), .val (.int p2), .val (.int p3), .val (.int p4), .val (.int wd), .val (.int ht), .val (.int cn), .val (.int rr), .val (.ref b_1), .val (.int rg), .val (.int px), .val (.int py), .val (.ref b_15), .unset, .unset, .unset] [(.int px)])) _
            refine XS.aload X_20.here hx rfl (hb hby at_171) rfl rfl ?_
            show Steps p.tables e below (T_20.setTop (mkF m 173 #[.val (.int p0), .val (.int p1), .val (.int p2), .val (.int p3), .val (.int p4), .val (.int wd), .val (.int ht), .val (.int cn), .val (.int rr), .val (.ref b_1), .val (.int rg), .val (.int px), .val (.int py), .val (.ref b_15), .unset, .unset, .unset] [(.ref b_1), (.int px)])) _
            refine XS.iconst X_20.here hx rfl (hb hby at_173) ?_
            show Steps p.tables e below (T_20.setTop (mkF m 174 #[.val (.int p0), .val (.int p1), .val (.int p2), .val (.int p3), .val (.int p4), .val (.int wd), .val (.int ht), .val (.int cn), .val (.int rr), .val (.ref b_1), .val (.int rg), .val (.int px), .val (.int py), .val (.ref b_15), .unset, .unset, .unset] [(.int (1 : Int32)), (.ref b_1), (.int px)])) _
            refine X_20.iaload hx (j := (1 : Int32)) (v := (.int c1)) Ar_26.1 (State.isArrayOf_alike hZ.alike Ar_26.2.1) Ar_26.2.2 (inb_of Sz_26 ⟨(by decide), (by decide)⟩) ((Hz_26 _ (own_idx (by decide) (by decide))).trans (congrArg some (rfl : (fun j => if j = (3 : Int32).toNatClampNeg then Value.int c3 else (fun j => if j = (2 : Int32).toNatClampNeg then Value.int c2 else (fun j => if j = (1 : Int32).toNatClampNeg then Value.int c1 else (fun j => if j = (0 : Int32).toNatClampNeg then Value.int c0 else (fun _ => (Value.int (0 : Int32))) j) j) j) j) (1 : Int32).toNatClampNeg = .int c1))) (g := (mkF m 174 #[.val (.int p0), .val (.int p1), .val (.int p2), .val (.int p3), .val (.int p4), .val (.int wd), .val (.int ht), .val (.int cn), .val (.int rr), .val (.ref b_1), .val (.int rg), .val (.int px), .val (.int py), .val (.ref b_15), .unset, .unset, .unset] [(.int (1 : Int32)), (.ref b_1), (.int px)])) rfl rfl (hb hby at_174) _ ?_
            show Steps p.tables e below (T_20.setTop (mkF m 175 #[.val (.int p0), .val (.int p1), .val (.int p2), .val (.int p3), .val (.int p4), .val (.int wd), .val (.int ht), .val (.int cn), .val (.int rr), .val (.ref b_1), .val (.int rg), .val (.int px), .val (.int py), .val (.ref b_15), .unset, .unset, .unset] [(.int c1), (.int px)])) _
            by_cases hj175_3 : px = c1
            · refine XS.icmpYes X_20.here hx rfl (pc0 := 175) (pc' := 208) rfl (hb hby at_175) rfl (teq hj175_3).1 (by decide) (by decide) ?_
              show Steps p.tables e below (T_20.setTop (mkF m 208 #[.val (.int p0), .val (.int p1), .val (.int p2), .val (.int p3), .val (.int p4), .val (.int wd), .val (.int ht), .val (.int cn), .val (.int rr), .val (.ref b_1), .val (.int rg), .val (.int px), .val (.int py), .val (.ref b_15), .unset, .unset, .unset] [])) _
              refine XS.iconst X_20.here hx rfl (hb hby at_208) ?_
              show Steps p.tables e below (T_20.setTop (mkF m 209 #[.val (.int p0), .val (.int p1), .val (.int p2), .val (.int p3), .val (.int p4), .val (.int wd), .val (.int ht), .val (.int cn), .val (.int rr), .val (.ref b_1), .val (.int rg), .val (.int px), .val (.int py), .val (.ref b_15), .unset, .unset, .unset] [(.int (1 : Int32))])) _
              refine XS.goto X_20.here hx rfl (pc0 := 209) (pc' := 213) rfl (hb hby at_209) (by decide) (by decide) ?_
              rw [← hil_, if_pos hj151_0, if_neg hj160_1, if_pos hj166_2, if_pos hj175_3] at kt
              exact kt
            · refine XS.icmpNo X_20.here hx rfl (hb hby at_175) rfl (feq hj175_3).1 ?_
              show Steps p.tables e below (T_20.setTop (mkF m 178 #[.val (.int p0), .val (.int p1), .val (.int p2), .val (.int p3), .val (.int p4), .val (.int wd), .val (.int ht), .val (.int cn), .val (.int rr), .val (.ref b_1), .val (.int rg), .val (.int px), .val (.int py), .val (.ref b_15), .unset, .unset, .unset] [])) _
              refine XS.iload X_20.here hx rfl (hb hby at_178) rfl ?_
              show Steps p.tables e below (T_20.setTop (mkF m 180 #[.val (.int p0), .val (.int p1), .val (.int p2), .val (.int p3), .val (.int p4), .val (.int wd), .val (.int ht), .val (.int cn), .val (.int rr), .val (.ref b_1), .val (.int rg), .val (.int px), .val (.int py), .val (.ref b_15), .unset, .unset, .unset] [(.int cn)])) _
              refine XS.iconst X_20.here hx rfl (hb hby at_180) ?_
              show Steps p.tables e below (T_20.setTop (mkF m 181 #[.val (.int p0), .val (.int p1), .val (.int p2), .val (.int p3), .val (.int p4), .val (.int wd), .val (.int ht), .val (.int cn), .val (.int rr), .val (.ref b_1), .val (.int rg), .val (.int px), .val (.int py), .val (.ref b_15), .unset, .unset, .unset] [(.int (2 : Int32)), (.int cn)])) _
              by_cases hj181_4 : (2 : Int32) < cn
              · refine XS.icmpNo X_20.here hx rfl (hb hby at_181) rfl (tlt hj181_4).2.2.2 ?_
                show Steps p.tables e below (T_20.setTop (mkF m 184 #[.val (.int p0), .val (.int p1), .val (.int p2), .val (.int p3), .val (.int p4), .val (.int wd), .val (.int ht), .val (.int cn), .val (.int rr), .val (.ref b_1), .val (.int rg), .val (.int px), .val (.int py), .val (.ref b_15), .unset, .unset, .unset] [])) _
                refine XS.iload X_20.here hx rfl (hb hby at_184) rfl ?_
                show Steps p.tables e below (T_20.setTop (mkF m 186 #[.val (.int p0), .val (.int p1), .val (.int p2), .val (.int p3), .val (.int p4), .val (.int wd), .val (.int ht), .val (.int cn), .val (.int rr), .val (.ref b_1), .val (.int rg), .val (.int px), .val (.int py), .val (.ref b_15), .unset, .unset, .unset] [(.int px)])) _
                refine XS.aload X_20.here hx rfl (hb hby at_186) rfl rfl ?_
                show Steps p.tables e below (T_20.setTop (mkF m 188 #[.val (.int p0), .val (.int p1), .val (.int p2), .val (.int p3), .val (.int p4), .val (.int wd), .val (.int ht), .val (.int cn), .val (.int rr), .val (.ref b_1), .val (.int rg), .val (.int px), .val (.int py), .val (.ref b_15), .unset, .unset, .unset] [(.ref b_1), (.int px)])) _
                refine XS.iconst X_20.here hx rfl (hb hby at_188) ?_
                show Steps p.tables e below (T_20.setTop (mkF m 189 #[.val (.int p0), .val (.int p1), .val (.int p2), .val (.int p3), .val (.int p4), .val (.int wd), .val (.int ht), .val (.int cn), .val (.int rr), .val (.ref b_1), .val (.int rg), .val (.int px), .val (.int py), .val (.ref b_15), .unset, .unset, .unset] [(.int (2 : Int32)), (.ref b_1), (.int px)])) _
                refine X_20.iaload hx (j := (2 : Int32)) (v := (.int c2)) Ar_27.1 (State.isArrayOf_alike hZ.alike Ar_27.2.1) Ar_27.2.2 (inb_of Sz_27 ⟨(by decide), (by decide)⟩) ((Hz_27 _ (own_idx (by decide) (by decide))).trans (congrArg some (rfl : (fun j => if j = (3 : Int32).toNatClampNeg then Value.int c3 else (fun j => if j = (2 : Int32).toNatClampNeg then Value.int c2 else (fun j => if j = (1 : Int32).toNatClampNeg then Value.int c1 else (fun j => if j = (0 : Int32).toNatClampNeg then Value.int c0 else (fun _ => (Value.int (0 : Int32))) j) j) j) j) (2 : Int32).toNatClampNeg = .int c2))) (g := (mkF m 189 #[.val (.int p0), .val (.int p1), .val (.int p2), .val (.int p3), .val (.int p4), .val (.int wd), .val (.int ht), .val (.int cn), .val (.int rr), .val (.ref b_1), .val (.int rg), .val (.int px), .val (.int py), .val (.ref b_15), .unset, .unset, .unset] [(.int (2 : Int32)), (.ref b_1), (.int px)])) rfl rfl (hb hby at_189) _ ?_
                show Steps p.tables e below (T_20.setTop (mkF m 190 #[.val (.int p0), .val (.int p1), .val (.int p2), .val (.int p3), .val (.int p4), .val (.int wd), .val (.int ht), .val (.int cn), .val (.int rr), .val (.ref b_1), .val (.int rg), .val (.int px), .val (.int py), .val (.ref b_15), .unset, .unset, .unset] [(.int c2), (.int px)])) _
                by_cases hj190_5 : px = c2
                · refine XS.icmpYes X_20.here hx rfl (pc0 := 190) (pc' := 208) rfl (hb hby at_190) rfl (teq hj190_5).1 (by decide) (by decide) ?_
                  show Steps p.tables e below (T_20.setTop (mkF m 208 #[.val (.int p0), .val (.int p1), .val (.int p2), .val (.int p3), .val (.int p4), .val (.int wd), .val (.int ht), .val (.int cn), .val (.int rr), .val (.ref b_1), .val (.int rg), .val (.int px), .val (.int py), .val (.ref b_15), .unset, .unset, .unset] [])) _
                  refine XS.iconst X_20.here hx rfl (hb hby at_208) ?_
                  show Steps p.tables e below (T_20.setTop (mkF m 209 #[.val (.int p0), .val (.int p1), .val (.int p2), .val (.int p3), .val (.int p4), .val (.int wd), .val (.int ht), .val (.int cn), .val (.int rr), .val (.ref b_1), .val (.int rg), .val (.int px), .val (.int py), .val (.ref b_15), .unset, .unset, .unset] [(.int (1 : Int32))])) _
                  refine XS.goto X_20.here hx rfl (pc0 := 209) (pc' := 213) rfl (hb hby at_209) (by decide) (by decide) ?_
                  rw [← hil_, if_pos hj151_0, if_neg hj160_1, if_pos hj166_2, if_neg hj175_3, if_pos hj181_4, if_pos hj190_5] at kt
                  exact kt
                · refine XS.icmpNo X_20.here hx rfl (hb hby at_190) rfl (feq hj190_5).1 ?_
                  show Steps p.tables e below (T_20.setTop (mkF m 193 #[.val (.int p0), .val (.int p1), .val (.int p2), .val (.int p3), .val (.int p4), .val (.int wd), .val (.int ht), .val (.int cn), .val (.int rr), .val (.ref b_1), .val (.int rg), .val (.int px), .val (.int py), .val (.ref b_15), .unset, .unset, .unset] [])) _
                  refine XS.iload X_20.here hx rfl (hb hby at_193) rfl ?_
                  show Steps p.tables e below (T_20.setTop (mkF m 195 #[.val (.int p0), .val (.int p1), .val (.int p2), .val (.int p3), .val (.int p4), .val (.int wd), .val (.int ht), .val (.int cn), .val (.int rr), .val (.ref b_1), .val (.int rg), .val (.int px), .val (.int py), .val (.ref b_15), .unset, .unset, .unset] [(.int cn)])) _
                  refine XS.iconst X_20.here hx rfl (hb hby at_195) ?_
                  show Steps p.tables e below (T_20.setTop (mkF m 196 #[.val (.int p0), .val (.int p1), .val (.int p2), .val (.int p3), .val (.int p4), .val (.int wd), .val (.int ht), .val (.int cn), .val (.int rr), .val (.ref b_1), .val (.int rg), .val (.int px), .val (.int py), .val (.ref b_15), .unset, .unset, .unset] [(.int (3 : Int32)), (.int cn)])) _
                  by_cases hj196_6 : (3 : Int32) < cn
                  · refine XS.icmpNo X_20.here hx rfl (hb hby at_196) rfl (tlt hj196_6).2.2.2 ?_
                    show Steps p.tables e below (T_20.setTop (mkF m 199 #[.val (.int p0), .val (.int p1), .val (.int p2), .val (.int p3), .val (.int p4), .val (.int wd), .val (.int ht), .val (.int cn), .val (.int rr), .val (.ref b_1), .val (.int rg), .val (.int px), .val (.int py), .val (.ref b_15), .unset, .unset, .unset] [])) _
                    refine XS.iload X_20.here hx rfl (hb hby at_199) rfl ?_
                    show Steps p.tables e below (T_20.setTop (mkF m 201 #[.val (.int p0), .val (.int p1), .val (.int p2), .val (.int p3), .val (.int p4), .val (.int wd), .val (.int ht), .val (.int cn), .val (.int rr), .val (.ref b_1), .val (.int rg), .val (.int px), .val (.int py), .val (.ref b_15), .unset, .unset, .unset] [(.int px)])) _
                    refine XS.aload X_20.here hx rfl (hb hby at_201) rfl rfl ?_
                    show Steps p.tables e below (T_20.setTop (mkF m 203 #[.val (.int p0), .val (.int p1), .val (.int p2), .val (.int p3), .val (.int p4), .val (.int wd), .val (.int ht), .val (.int cn), .val (.int rr), .val (.ref b_1), .val (.int rg), .val (.int px), .val (.int py), .val (.ref b_15), .unset, .unset, .unset] [(.ref b_1), (.int px)])) _
                    refine XS.iconst X_20.here hx rfl (hb hby at_203) ?_
                    show Steps p.tables e below (T_20.setTop (mkF m 204 #[.val (.int p0), .val (.int p1), .val (.int p2), .val (.int p3), .val (.int p4), .val (.int wd), .val (.int ht), .val (.int cn), .val (.int rr), .val (.ref b_1), .val (.int rg), .val (.int px), .val (.int py), .val (.ref b_15), .unset, .unset, .unset] [(.int (3 : Int32)), (.ref b_1), (.int px)])) _
                    refine X_20.iaload hx (j := (3 : Int32)) (v := (.int c3)) Ar_28.1 (State.isArrayOf_alike hZ.alike Ar_28.2.1) Ar_28.2.2 (inb_of Sz_28 ⟨(by decide), (by decide)⟩) ((Hz_28 _ (own_idx (by decide) (by decide))).trans (congrArg some (rfl : (fun j => if j = (3 : Int32).toNatClampNeg then Value.int c3 else (fun j => if j = (2 : Int32).toNatClampNeg then Value.int c2 else (fun j => if j = (1 : Int32).toNatClampNeg then Value.int c1 else (fun j => if j = (0 : Int32).toNatClampNeg then Value.int c0 else (fun _ => (Value.int (0 : Int32))) j) j) j) j) (3 : Int32).toNatClampNeg = .int c3))) (g := (mkF m 204 #[.val (.int p0), .val (.int p1), .val (.int p2), .val (.int p3), .val (.int p4), .val (.int wd), .val (.int ht), .val (.int cn), .val (.int rr), .val (.ref b_1), .val (.int rg), .val (.int px), .val (.int py), .val (.ref b_15), .unset, .unset, .unset] [(.int (3 : Int32)), (.ref b_1), (.int px)])) rfl rfl (hb hby at_204) _ ?_
                    show Steps p.tables e below (T_20.setTop (mkF m 205 #[.val (.int p0), .val (.int p1), .val (.int p2), .val (.int p3), .val (.int p4), .val (.int wd), .val (.int ht), .val (.int cn), .val (.int rr), .val (.ref b_1), .val (.int rg), .val (.int px), .val (.int py), .val (.ref b_15), .unset, .unset, .unset] [(.int c3), (.int px)])) _
                    by_cases hj205_7 : px = c3
                    · refine XS.icmpNo X_20.here hx rfl (hb hby at_205) rfl (teq hj205_7).2 ?_
                      show Steps p.tables e below (T_20.setTop (mkF m 208 #[.val (.int p0), .val (.int p1), .val (.int p2), .val (.int p3), .val (.int p4), .val (.int wd), .val (.int ht), .val (.int cn), .val (.int rr), .val (.ref b_1), .val (.int rg), .val (.int px), .val (.int py), .val (.ref b_15), .unset, .unset, .unset] [])) _
                      refine XS.iconst X_20.here hx rfl (hb hby at_208) ?_
                      show Steps p.tables e below (T_20.setTop (mkF m 209 #[.val (.int p0), .val (.int p1), .val (.int p2), .val (.int p3), .val (.int p4), .val (.int wd), .val (.int ht), .val (.int cn), .val (.int rr), .val (.ref b_1), .val (.int rg), .val (.int px), .val (.int py), .val (.ref b_15), .unset, .unset, .unset] [(.int (1 : Int32))])) _
                      refine XS.goto X_20.here hx rfl (pc0 := 209) (pc' := 213) rfl (hb hby at_209) (by decide) (by decide) ?_
                      rw [← hil_, if_pos hj151_0, if_neg hj160_1, if_pos hj166_2, if_neg hj175_3, if_pos hj181_4, if_neg hj190_5, if_pos hj196_6, if_pos hj205_7] at kt
                      exact kt
                    · refine XS.icmpYes X_20.here hx rfl (pc0 := 205) (pc' := 212) rfl (hb hby at_205) rfl (feq hj205_7).2 (by decide) (by decide) ?_
                      show Steps p.tables e below (T_20.setTop (mkF m 212 #[.val (.int p0), .val (.int p1), .val (.int p2), .val (.int p3), .val (.int p4), .val (.int wd), .val (.int ht), .val (.int cn), .val (.int rr), .val (.ref b_1), .val (.int rg), .val (.int px), .val (.int py), .val (.ref b_15), .unset, .unset, .unset] [])) _
                      refine XS.iconst X_20.here hx rfl (hb hby at_212) ?_
                      rw [← hil_, if_pos hj151_0, if_neg hj160_1, if_pos hj166_2, if_neg hj175_3, if_pos hj181_4, if_neg hj190_5, if_pos hj196_6, if_neg hj205_7] at kt
                      exact kt
                  · refine XS.icmpYes X_20.here hx rfl (pc0 := 196) (pc' := 212) rfl (hb hby at_196) rfl (flt hj196_6).2.2.2 (by decide) (by decide) ?_
                    show Steps p.tables e below (T_20.setTop (mkF m 212 #[.val (.int p0), .val (.int p1), .val (.int p2), .val (.int p3), .val (.int p4), .val (.int wd), .val (.int ht), .val (.int cn), .val (.int rr), .val (.ref b_1), .val (.int rg), .val (.int px), .val (.int py), .val (.ref b_15), .unset, .unset, .unset] [])) _
                    refine XS.iconst X_20.here hx rfl (hb hby at_212) ?_
                    rw [← hil_, if_pos hj151_0, if_neg hj160_1, if_pos hj166_2, if_neg hj175_3, if_pos hj181_4, if_neg hj190_5, if_neg hj196_6] at kt
                    exact kt
              · refine XS.icmpYes X_20.here hx rfl (pc0 := 181) (pc' := 193) rfl (hb hby at_181) rfl (flt hj181_4).2.2.2 (by decide) (by decide) ?_
                show Steps p.tables e below (T_20.setTop (mkF m 193 #[.val (.int p0), .val (.int p1), .val (.int p2), .val (.int p3), .val (.int p4), .val (.int wd), .val (.int ht), .val (.int cn), .val (.int rr), .val (.ref b_1), .val (.int rg), .val (.int px), .val (.int py), .val (.ref b_15), .unset, .unset, .unset] [])) _
                refine XS.iload X_20.here hx rfl (hb hby at_193) rfl ?_
                show Steps p.tables e below (T_20.setTop (mkF m 195 #[.val (.int p0), .val (.int p1), .val (.int p2), .val (.int p3), .val (.int p4), .val (.int wd), .val (.int ht), .val (.int cn), .val (.int rr), .val (.ref b_1), .val (.int rg), .val (.int px), .val (.int py), .val (.ref b_15), .unset, .unset, .unset] [(.int cn)])) _
                refine XS.iconst X_20.here hx rfl (hb hby at_195) ?_
                show Steps p.tables e below (T_20.setTop (mkF m 196 #[.val (.int p0), .val (.int p1), .val (.int p2), .val (.int p3), .val (.int p4), .val (.int wd), .val (.int ht), .val (.int cn), .val (.int rr), .val (.ref b_1), .val (.int rg), .val (.int px), .val (.int py), .val (.ref b_15), .unset, .unset, .unset] [(.int (3 : Int32)), (.int cn)])) _
                by_cases hj196_5 : (3 : Int32) < cn
                · refine XS.icmpNo X_20.here hx rfl (hb hby at_196) rfl (tlt hj196_5).2.2.2 ?_
                  show Steps p.tables e below (T_20.setTop (mkF m 199 #[.val (.int p0), .val (.int p1), .val (.int p2), .val (.int p3), .val (.int p4), .val (.int wd), .val (.int ht), .val (.int cn), .val (.int rr), .val (.ref b_1), .val (.int rg), .val (.int px), .val (.int py), .val (.ref b_15), .unset, .unset, .unset] [])) _
                  refine XS.iload X_20.here hx rfl (hb hby at_199) rfl ?_
                  show Steps p.tables e below (T_20.setTop (mkF m 201 #[.val (.int p0), .val (.int p1), .val (.int p2), .val (.int p3), .val (.int p4), .val (.int wd), .val (.int ht), .val (.int cn), .val (.int rr), .val (.ref b_1), .val (.int rg), .val (.int px), .val (.int py), .val (.ref b_15), .unset, .unset, .unset] [(.int px)])) _
                  refine XS.aload X_20.here hx rfl (hb hby at_201) rfl rfl ?_
                  show Steps p.tables e below (T_20.setTop (mkF m 203 #[.val (.int p0), .val (.int p1), .val (.int p2), .val (.int p3), .val (.int p4), .val (.int wd), .val (.int ht), .val (.int cn), .val (.int rr), .val (.ref b_1), .val (.int rg), .val (.int px), .val (.int py), .val (.ref b_15), .unset, .unset, .unset] [(.ref b_1), (.int px)])) _
                  refine XS.iconst X_20.here hx rfl (hb hby at_203) ?_
                  show Steps p.tables e below (T_20.setTop (mkF m 204 #[.val (.int p0), .val (.int p1), .val (.int p2), .val (.int p3), .val (.int p4), .val (.int wd), .val (.int ht), .val (.int cn), .val (.int rr), .val (.ref b_1), .val (.int rg), .val (.int px), .val (.int py), .val (.ref b_15), .unset, .unset, .unset] [(.int (3 : Int32)), (.ref b_1), (.int px)])) _
                  refine X_20.iaload hx (j := (3 : Int32)) (v := (.int c3)) Ar_29.1 (State.isArrayOf_alike hZ.alike Ar_29.2.1) Ar_29.2.2 (inb_of Sz_29 ⟨(by decide), (by decide)⟩) ((Hz_29 _ (own_idx (by decide) (by decide))).trans (congrArg some (rfl : (fun j => if j = (3 : Int32).toNatClampNeg then Value.int c3 else (fun j => if j = (2 : Int32).toNatClampNeg then Value.int c2 else (fun j => if j = (1 : Int32).toNatClampNeg then Value.int c1 else (fun j => if j = (0 : Int32).toNatClampNeg then Value.int c0 else (fun _ => (Value.int (0 : Int32))) j) j) j) j) (3 : Int32).toNatClampNeg = .int c3))) (g := (mkF m 204 #[.val (.int p0), .val (.int p1), .val (.int p2), .val (.int p3), .val (.int p4), .val (.int wd), .val (.int ht), .val (.int cn), .val (.int rr), .val (.ref b_1), .val (.int rg), .val (.int px), .val (.int py), .val (.ref b_15), .unset, .unset, .unset] [(.int (3 : Int32)), (.ref b_1), (.int px)])) rfl rfl (hb hby at_204) _ ?_
                  show Steps p.tables e below (T_20.setTop (mkF m 205 #[.val (.int p0), .val (.int p1), .val (.int p2), .val (.int p3), .val (.int p4), .val (.int wd), .val (.int ht), .val (.int cn), .val (.int rr), .val (.ref b_1), .val (.int rg), .val (.int px), .val (.int py), .val (.ref b_15), .unset, .unset, .unset] [(.int c3), (.int px)])) _
                  by_cases hj205_6 : px = c3
                  · refine XS.icmpNo X_20.here hx rfl (hb hby at_205) rfl (teq hj205_6).2 ?_
                    show Steps p.tables e below (T_20.setTop (mkF m 208 #[.val (.int p0), .val (.int p1), .val (.int p2), .val (.int p3), .val (.int p4), .val (.int wd), .val (.int ht), .val (.int cn), .val (.int rr), .val (.ref b_1), .val (.int rg), .val (.int px), .val (.int py), .val (.ref b_15), .unset, .unset, .unset] [])) _
                    refine XS.iconst X_20.here hx rfl (hb hby at_208) ?_
                    show Steps p.tables e below (T_20.setTop (mkF m 209 #[.val (.int p0), .val (.int p1), .val (.int p2), .val (.int p3), .val (.int p4), .val (.int wd), .val (.int ht), .val (.int cn), .val (.int rr), .val (.ref b_1), .val (.int rg), .val (.int px), .val (.int py), .val (.ref b_15), .unset, .unset, .unset] [(.int (1 : Int32))])) _
                    refine XS.goto X_20.here hx rfl (pc0 := 209) (pc' := 213) rfl (hb hby at_209) (by decide) (by decide) ?_
                    rw [← hil_, if_pos hj151_0, if_neg hj160_1, if_pos hj166_2, if_neg hj175_3, if_neg hj181_4, if_pos hj196_5, if_pos hj205_6] at kt
                    exact kt
                  · refine XS.icmpYes X_20.here hx rfl (pc0 := 205) (pc' := 212) rfl (hb hby at_205) rfl (feq hj205_6).2 (by decide) (by decide) ?_
                    show Steps p.tables e below (T_20.setTop (mkF m 212 #[.val (.int p0), .val (.int p1), .val (.int p2), .val (.int p3), .val (.int p4), .val (.int wd), .val (.int ht), .val (.int cn), .val (.int rr), .val (.ref b_1), .val (.int rg), .val (.int px), .val (.int py), .val (.ref b_15), .unset, .unset, .unset] [])) _
                    refine XS.iconst X_20.here hx rfl (hb hby at_212) ?_
                    rw [← hil_, if_pos hj151_0, if_neg hj160_1, if_pos hj166_2, if_neg hj175_3, if_neg hj181_4, if_pos hj196_5, if_neg hj205_6] at kt
                    exact kt
                · refine XS.icmpYes X_20.here hx rfl (pc0 := 196) (pc' := 212) rfl (hb hby at_196) rfl (flt hj196_5).2.2.2 (by decide) (by decide) ?_
                  show Steps p.tables e below (T_20.setTop (mkF m 212 #[.val (.int p0), .val (.int p1), .val (.int p2), .val (.int p3), .val (.int p4), .val (.int wd), .val (.int ht), .val (.int cn), .val (.int rr), .val (.ref b_1), .val (.int rg), .val (.int px), .val (.int py), .val (.ref b_15), .unset, .unset, .unset] [])) _
                  refine XS.iconst X_20.here hx rfl (hb hby at_212) ?_
                  rw [← hil_, if_pos hj151_0, if_neg hj160_1, if_pos hj166_2, if_neg hj175_3, if_neg hj181_4, if_neg hj196_5] at kt
                  exact kt
          · refine XS.icmpYes X_20.here hx rfl (pc0 := 166) (pc' := 178) rfl (hb hby at_166) rfl (flt hj166_2).2.2.2 (by decide) (by decide) ?_
            show Steps p.tables e below (T_20.setTop (mkF m 178 #[.val (.int p0), .val (.int p1), .val (.int p2), .val (.int p3), .val (.int p4), .val (.int wd), .val (.int ht), .val (.int cn), .val (.int rr), .val (.ref b_1), .val (.int rg), .val (.int px), .val (.int py), .val (.ref b_15), .unset, .unset, .unset] [])) _
            refine XS.iload X_20.here hx rfl (hb hby at_178) rfl ?_
            show Steps p.tables e below (T_20.setTop (mkF m 180 #[.val (.int p0), .val (.int p1), .val (.int p2), .val (.int p3), .val (.int p4), .val (.int wd), .val (.int ht), .val (.int cn), .val (.int rr), .val (.ref b_1), .val (.int rg), .val (.int px), .val (.int py), .val (.ref b_15), .unset, .unset, .unset] [(.int cn)])) _
            refine XS.iconst X_20.here hx rfl (hb hby at_180) ?_
            show Steps p.tables e below (T_20.setTop (mkF m 181 #[.val (.int p0), .val (.int p1), .val (.int p2), .val (.int p3), .val (.int p4), .val (.int wd), .val (.int ht), .val (.int cn), .val (.int rr), .val (.ref b_1), .val (.int rg), .val (.int px), .val (.int py), .val (.ref b_15), .unset, .unset, .unset] [(.int (2 : Int32)), (.int cn)])) _
            by_cases hj181_3 : (2 : Int32) < cn
            · refine XS.icmpNo X_20.here hx rfl (hb hby at_181) rfl (tlt hj181_3).2.2.2 ?_
              show Steps p.tables e below (T_20.setTop (mkF m 184 #[.val (.int p0), .val (.int p1), .val (.int p2), .val (.int p3), .val (.int p4), .val (.int wd), .val (.int ht), .val (.int cn), .val (.int rr), .val (.ref b_1), .val (.int rg), .val (.int px), .val (.int py), .val (.ref b_15), .unset, .unset, .unset] [])) _
              refine XS.iload X_20.here hx rfl (hb hby at_184) rfl ?_
              show Steps p.tables e below (T_20.setTop (mkF m 186 #[.val (.int p0), .val (.int p1), .val (.int p2), .val (.int p3), .val (.int p4), .val (.int wd), .val (.int ht), .val (.int cn), .val (.int rr), .val (.ref b_1), .val (.int rg), .val (.int px), .val (.int py), .val (.ref b_15), .unset, .unset, .unset] [(.int px)])) _
              refine XS.aload X_20.here hx rfl (hb hby at_186) rfl rfl ?_
              show Steps p.tables e below (T_20.setTop (mkF m 188 #[.val (.int p0), .val (.int p1), .val (.int p2), .val (.int p3), .val (.int p4), .val (.int wd), .val (.int ht), .val (.int cn), .val (.int rr), .val (.ref b_1), .val (.int rg), .val (.int px), .val (.int py), .val (.ref b_15), .unset, .unset, .unset] [(.ref b_1), (.int px)])) _
              refine XS.iconst X_20.here hx rfl (hb hby at_188) ?_
              show Steps p.tables e below (T_20.setTop (mkF m 189 #[.val (.int p0), .val (.int p1), .val (.int p2), .val (.int p3), .val (.int p4), .val (.int wd), .val (.int ht), .val (.int cn), .val (.int rr), .val (.ref b_1), .val (.int rg), .val (.int px), .val (.int py), .val (.ref b_15), .unset, .unset, .unset] [(.int (2 : Int32)), (.ref b_1), (.int px)])) _
              refine X_20.iaload hx (j := (2 : Int32)) (v := (.int c2)) Ar_30.1 (State.isArrayOf_alike hZ.alike Ar_30.2.1) Ar_30.2.2 (inb_of Sz_30 ⟨(by decide), (by decide)⟩) ((Hz_30 _ (own_idx (by decide) (by decide))).trans (congrArg some (rfl : (fun j => if j = (3 : Int32).toNatClampNeg then Value.int c3 else (fun j => if j = (2 : Int32).toNatClampNeg then Value.int c2 else (fun j => if j = (1 : Int32).toNatClampNeg then Value.int c1 else (fun j => if j = (0 : Int32).toNatClampNeg then Value.int c0 else (fun _ => (Value.int (0 : Int32))) j) j) j) j) (2 : Int32).toNatClampNeg = .int c2))) (g := (mkF m 189 #[.val (.int p0), .val (.int p1), .val (.int p2), .val (.int p3), .val (.int p4), .val (.int wd), .val (.int ht), .val (.int cn), .val (.int rr), .val (.ref b_1), .val (.int rg), .val (.int px), .val (.int py), .val (.ref b_15), .unset, .unset, .unset] [(.int (2 : Int32)), (.ref b_1), (.int px)])) rfl rfl (hb hby at_189) _ ?_
              show Steps p.tables e below (T_20.setTop (mkF m 190 #[.val (.int p0), .val (.int p1), .val (.int p2), .val (.int p3), .val (.int p4), .val (.int wd), .val (.int ht), .val (.int cn), .val (.int rr), .val (.ref b_1), .val (.int rg), .val (.int px), .val (.int py), .val (.ref b_15), .unset, .unset, .unset] [(.int c2), (.int px)])) _
              by_cases hj190_4 : px = c2
              · refine XS.icmpYes X_20.here hx rfl (pc0 := 190) (pc' := 208) rfl (hb hby at_190) rfl (teq hj190_4).1 (by decide) (by decide) ?_
                show Steps p.tables e below (T_20.setTop (mkF m 208 #[.val (.int p0), .val (.int p1), .val (.int p2), .val (.int p3), .val (.int p4), .val (.int wd), .val (.int ht), .val (.int cn), .val (.int rr), .val (.ref b_1), .val (.int rg), .val (.int px), .val (.int py), .val (.ref b_15), .unset, .unset, .unset] [])) _
                refine XS.iconst X_20.here hx rfl (hb hby at_208) ?_
                show Steps p.tables e below (T_20.setTop (mkF m 209 #[.val (.int p0), .val (.int p1), .val (.int p2), .val (.int p3), .val (.int p4), .val (.int wd), .val (.int ht), .val (.int cn), .val (.int rr), .val (.ref b_1), .val (.int rg), .val (.int px), .val (.int py), .val (.ref b_15), .unset, .unset, .unset] [(.int (1 : Int32))])) _
                refine XS.goto X_20.here hx rfl (pc0 := 209) (pc' := 213) rfl (hb hby at_209) (by decide) (by decide) ?_
                rw [← hil_, if_pos hj151_0, if_neg hj160_1, if_neg hj166_2, if_pos hj181_3, if_pos hj190_4] at kt
                exact kt
              · refine XS.icmpNo X_20.here hx rfl (hb hby at_190) rfl (feq hj190_4).1 ?_
                show Steps p.tables e below (T_20.setTop (mkF m 193 #[.val (.int p0), .val (.int p1), .val (.int p2), .val (.int p3), .val (.int p4), .val (.int wd), .val (.int ht), .val (.int cn), .val (.int rr), .val (.ref b_1), .val (.int rg), .val (.int px), .val (.int py), .val (.ref b_15), .unset, .unset, .unset] [])) _
                refine XS.iload X_20.here hx rfl (hb hby at_193) rfl ?_
                show Steps p.tables e below (T_20.setTop (mkF m 195 #[.val (.int p0), .val (.int p1), .val (.int p2), .val (.int p3), .val (.int p4), .val (.int wd), .val (.int ht), .val (.int cn), .val (.int rr), .val (.ref b_1), .val (.int rg), .val (.int px), .val (.int py), .val (.ref b_15), .unset, .unset, .unset] [(.int cn)])) _
                refine XS.iconst X_20.here hx rfl (hb hby at_195) ?_
                show Steps p.tables e below (T_20.setTop (mkF m 196 #[.val (.int p0), .val (.int p1), .val (.int p2), .val (.int p3), .val (.int p4), .val (.int wd), .val (.int ht), .val (.int cn), .val (.int rr), .val (.ref b_1), .val (.int rg), .val (.int px), .val (.int py), .val (.ref b_15), .unset, .unset, .unset] [(.int (3 : Int32)), (.int cn)])) _
                by_cases hj196_5 : (3 : Int32) < cn
                · refine XS.icmpNo X_20.here hx rfl (hb hby at_196) rfl (tlt hj196_5).2.2.2 ?_
                  show Steps p.tables e below (T_20.setTop (mkF m 199 #[.val (.int p0), .val (.int p1), .val (.int p2), .val (.int p3), .val (.int p4), .val (.int wd), .val (.int ht), .val (.int cn), .val (.int rr), .val (.ref b_1), .val (.int rg), .val (.int px), .val (.int py), .val (.ref b_15), .unset, .unset, .unset] [])) _
                  refine XS.iload X_20.here hx rfl (hb hby at_199) rfl ?_
                  show Steps p.tables e below (T_20.setTop (mkF m 201 #[.val (.int p0), .val (.int p1), .val (.int p2), .val (.int p3), .val (.int p4), .val (.int wd), .val (.int ht), .val (.int cn), .val (.int rr), .val (.ref b_1), .val (.int rg), .val (.int px), .val (.int py), .val (.ref b_15), .unset, .unset, .unset] [(.int px)])) _
                  refine XS.aload X_20.here hx rfl (hb hby at_201) rfl rfl ?_
                  show Steps p.tables e below (T_20.setTop (mkF m 203 #[.val (.int p0), .val (.int p1), .val (.int p2), .val (.int p3), .val (.int p4), .val (.int wd), .val (.int ht), .val (.int cn), .val (.int rr), .val (.ref b_1), .val (.int rg), .val (.int px), .val (.int py), .val (.ref b_15), .unset, .unset, .unset] [(.ref b_1), (.int px)])) _
                  refine XS.iconst X_20.here hx rfl (hb hby at_203) ?_
                  show Steps p.tables e below (T_20.setTop (mkF m 204 #[.val (.int p0), .val (.int p1), .val (.int p2), .val (.int p3), .val (.int p4), .val (.int wd), .val (.int ht), .val (.int cn), .val (.int rr), .val (.ref b_1), .val (.int rg), .val (.int px), .val (.int py), .val (.ref b_15), .unset, .unset, .unset] [(.int (3 : Int32)), (.ref b_1), (.int px)])) _
                  refine X_20.iaload hx (j := (3 : Int32)) (v := (.int c3)) Ar_31.1 (State.isArrayOf_alike hZ.alike Ar_31.2.1) Ar_31.2.2 (inb_of Sz_31 ⟨(by decide), (by decide)⟩) ((Hz_31 _ (own_idx (by decide) (by decide))).trans (congrArg some (rfl : (fun j => if j = (3 : Int32).toNatClampNeg then Value.int c3 else (fun j => if j = (2 : Int32).toNatClampNeg then Value.int c2 else (fun j => if j = (1 : Int32).toNatClampNeg then Value.int c1 else (fun j => if j = (0 : Int32).toNatClampNeg then Value.int c0 else (fun _ => (Value.int (0 : Int32))) j) j) j) j) (3 : Int32).toNatClampNeg = .int c3))) (g := (mkF m 204 #[.val (.int p0), .val (.int p1), .val (.int p2), .val (.int p3), .val (.int p4), .val (.int wd), .val (.int ht), .val (.int cn), .val (.int rr), .val (.ref b_1), .val (.int rg), .val (.int px), .val (.int py), .val (.ref b_15), .unset, .unset, .unset] [(.int (3 : Int32)), (.ref b_1), (.int px)])) rfl rfl (hb hby at_204) _ ?_
                  show Steps p.tables e below (T_20.setTop (mkF m 205 #[.val (.int p0), .val (.int p1), .val (.int p2), .val (.int p3), .val (.int p4), .val (.int wd), .val (.int ht), .val (.int cn), .val (.int rr), .val (.ref b_1), .val (.int rg), .val (.int px), .val (.int py), .val (.ref b_15), .unset, .unset, .unset] [(.int c3), (.int px)])) _
                  by_cases hj205_6 : px = c3
                  · refine XS.icmpNo X_20.here hx rfl (hb hby at_205) rfl (teq hj205_6).2 ?_
                    show Steps p.tables e below (T_20.setTop (mkF m 208 #[.val (.int p0), .val (.int p1), .val (.int p2), .val (.int p3), .val (.int p4), .val (.int wd), .val (.int ht), .val (.int cn), .val (.int rr), .val (.ref b_1), .val (.int rg), .val (.int px), .val (.int py), .val (.ref b_15), .unset, .unset, .unset] [])) _
                    refine XS.iconst X_20.here hx rfl (hb hby at_208) ?_
                    show Steps p.tables e below (T_20.setTop (mkF m 209 #[.val (.int p0), .val (.int p1), .val (.int p2), .val (.int p3), .val (.int p4), .val (.int wd), .val (.int ht), .val (.int cn), .val (.int rr), .val (.ref b_1), .val (.int rg), .val (.int px), .val (.int py), .val (.ref b_15), .unset, .unset, .unset] [(.int (1 : Int32))])) _
                    refine XS.goto X_20.here hx rfl (pc0 := 209) (pc' := 213) rfl (hb hby at_209) (by decide) (by decide) ?_
                    rw [← hil_, if_pos hj151_0, if_neg hj160_1, if_neg hj166_2, if_pos hj181_3, if_neg hj190_4, if_pos hj196_5, if_pos hj205_6] at kt
                    exact kt
                  · refine XS.icmpYes X_20.here hx rfl (pc0 := 205) (pc' := 212) rfl (hb hby at_205) rfl (feq hj205_6).2 (by decide) (by decide) ?_
                    show Steps p.tables e below (T_20.setTop (mkF m 212 #[.val (.int p0), .val (.int p1), .val (.int p2), .val (.int p3), .val (.int p4), .val (.int wd), .val (.int ht), .val (.int cn), .val (.int rr), .val (.ref b_1), .val (.int rg), .val (.int px), .val (.int py), .val (.ref b_15), .unset, .unset, .unset] [])) _
                    refine XS.iconst X_20.here hx rfl (hb hby at_212) ?_
                    rw [← hil_, if_pos hj151_0, if_neg hj160_1, if_neg hj166_2, if_pos hj181_3, if_neg hj190_4, if_pos hj196_5, if_neg hj205_6] at kt
                    exact kt
                · refine XS.icmpYes X_20.here hx rfl (pc0 := 196) (pc' := 212) rfl (hb hby at_196) rfl (flt hj196_5).2.2.2 (by decide) (by decide) ?_
                  show Steps p.tables e below (T_20.setTop (mkF m 212 #[.val (.int p0), .val (.int p1), .val (.int p2), .val (.int p3), .val (.int p4), .val (.int wd), .val (.int ht), .val (.int cn), .val (.int rr), .val (.ref b_1), .val (.int rg), .val (.int px), .val (.int py), .val (.ref b_15), .unset, .unset, .unset] [])) _
                  refine XS.iconst X_20.here hx rfl (hb hby at_212) ?_
                  rw [← hil_, if_pos hj151_0, if_neg hj160_1, if_neg hj166_2, if_pos hj181_3, if_neg hj190_4, if_neg hj196_5] at kt
                  exact kt
            · refine XS.icmpYes X_20.here hx rfl (pc0 := 181) (pc' := 193) rfl (hb hby at_181) rfl (flt hj181_3).2.2.2 (by decide) (by decide) ?_
              show Steps p.tables e below (T_20.setTop (mkF m 193 #[.val (.int p0), .val (.int p1), .val (.int p2), .val (.int p3), .val (.int p4), .val (.int wd), .val (.int ht), .val (.int cn), .val (.int rr), .val (.ref b_1), .val (.int rg), .val (.int px), .val (.int py), .val (.ref b_15), .unset, .unset, .unset] [])) _
              refine XS.iload X_20.here hx rfl (hb hby at_193) rfl ?_
              show Steps p.tables e below (T_20.setTop (mkF m 195 #[.val (.int p0), .val (.int p1), .val (.int p2), .val (.int p3), .val (.int p4), .val (.int wd), .val (.int ht), .val (.int cn), .val (.int rr), .val (.ref b_1), .val (.int rg), .val (.int px), .val (.int py), .val (.ref b_15), .unset, .unset, .unset] [(.int cn)])) _
              refine XS.iconst X_20.here hx rfl (hb hby at_195) ?_
              show Steps p.tables e below (T_20.setTop (mkF m 196 #[.val (.int p0), .val (.int p1), .val (.int p2), .val (.int p3), .val (.int p4), .val (.int wd), .val (.int ht), .val (.int cn), .val (.int rr), .val (.ref b_1), .val (.int rg), .val (.int px), .val (.int py), .val (.ref b_15), .unset, .unset, .unset] [(.int (3 : Int32)), (.int cn)])) _
              by_cases hj196_4 : (3 : Int32) < cn
              · refine XS.icmpNo X_20.here hx rfl (hb hby at_196) rfl (tlt hj196_4).2.2.2 ?_
                show Steps p.tables e below (T_20.setTop (mkF m 199 #[.val (.int p0), .val (.int p1), .val (.int p2), .val (.int p3), .val (.int p4), .val (.int wd), .val (.int ht), .val (.int cn), .val (.int rr), .val (.ref b_1), .val (.int rg), .val (.int px), .val (.int py), .val (.ref b_15), .unset, .unset, .unset] [])) _
                refine XS.iload X_20.here hx rfl (hb hby at_199) rfl ?_
                show Steps p.tables e below (T_20.setTop (mkF m 201 #[.val (.int p0), .val (.int p1), .val (.int p2), .val (.int p3), .val (.int p4), .val (.int wd), .val (.int ht), .val (.int cn), .val (.int rr), .val (.ref b_1), .val (.int rg), .val (.int px), .val (.int py), .val (.ref b_15), .unset, .unset, .unset] [(.int px)])) _
                refine XS.aload X_20.here hx rfl (hb hby at_201) rfl rfl ?_
                show Steps p.tables e below (T_20.setTop (mkF m 203 #[.val (.int p0), .val (.int p1), .val (.int p2), .val (.int p3), .val (.int p4), .val (.int wd), .val (.int ht), .val (.int cn), .val (.int rr), .val (.ref b_1), .val (.int rg), .val (.int px), .val (.int py), .val (.ref b_15), .unset, .unset, .unset] [(.ref b_1), (.int px)])) _
                refine XS.iconst X_20.here hx rfl (hb hby at_203) ?_
                show Steps p.tables e below (T_20.setTop (mkF m 204 #[.val (.int p0), .val (.int p1), .val (.int p2), .val (.int p3), .val (.int p4), .val (.int wd), .val (.int ht), .val (.int cn), .val (.int rr), .val (.ref b_1), .val (.int rg), .val (.int px), .val (.int py), .val (.ref b_15), .unset, .unset, .unset] [(.int (3 : Int32)), (.ref b_1), (.int px)])) _
                refine X_20.iaload hx (j := (3 : Int32)) (v := (.int c3)) Ar_32.1 (State.isArrayOf_alike hZ.alike Ar_32.2.1) Ar_32.2.2 (inb_of Sz_32 ⟨(by decide), (by decide)⟩) ((Hz_32 _ (own_idx (by decide) (by decide))).trans (congrArg some (rfl : (fun j => if j = (3 : Int32).toNatClampNeg then Value.int c3 else (fun j => if j = (2 : Int32).toNatClampNeg then Value.int c2 else (fun j => if j = (1 : Int32).toNatClampNeg then Value.int c1 else (fun j => if j = (0 : Int32).toNatClampNeg then Value.int c0 else (fun _ => (Value.int (0 : Int32))) j) j) j) j) (3 : Int32).toNatClampNeg = .int c3))) (g := (mkF m 204 #[.val (.int p0), .val (.int p1), .val (.int p2), .val (.int p3), .val (.int p4), .val (.int wd), .val (.int ht), .val (.int cn), .val (.int rr), .val (.ref b_1), .val (.int rg), .val (.int px), .val (.int py), .val (.ref b_15), .unset, .unset, .unset] [(.int (3 : Int32)), (.ref b_1), (.int px)])) rfl rfl (hb hby at_204) _ ?_
                show Steps p.tables e below (T_20.setTop (mkF m 205 #[.val (.int p0), .val (.int p1), .val (.int p2), .val (.int p3), .val (.int p4), .val (.int wd), .val (.int ht), .val (.int cn), .val (.int rr), .val (.ref b_1), .val (.int rg), .val (.int px), .val (.int py), .val (.ref b_15), .unset, .unset, .unset] [(.int c3), (.int px)])) _
                by_cases hj205_5 : px = c3
                · refine XS.icmpNo X_20.here hx rfl (hb hby at_205) rfl (teq hj205_5).2 ?_
                  show Steps p.tables e below (T_20.setTop (mkF m 208 #[.val (.int p0), .val (.int p1), .val (.int p2), .val (.int p3), .val (.int p4), .val (.int wd), .val (.int ht), .val (.int cn), .val (.int rr), .val (.ref b_1), .val (.int rg), .val (.int px), .val (.int py), .val (.ref b_15), .unset, .unset, .unset] [])) _
                  refine XS.iconst X_20.here hx rfl (hb hby at_208) ?_
                  show Steps p.tables e below (T_20.setTop (mkF m 209 #[.val (.int p0), .val (.int p1), .val (.int p2), .val (.int p3), .val (.int p4), .val (.int wd), .val (.int ht), .val (.int cn), .val (.int rr), .val (.ref b_1), .val (.int rg), .val (.int px), .val (.int py), .val (.ref b_15), .unset, .unset, .unset] [(.int (1 : Int32))])) _
                  refine XS.goto X_20.here hx rfl (pc0 := 209) (pc' := 213) rfl (hb hby at_209) (by decide) (by decide) ?_
                  rw [← hil_, if_pos hj151_0, if_neg hj160_1, if_neg hj166_2, if_neg hj181_3, if_pos hj196_4, if_pos hj205_5] at kt
                  exact kt
                · refine XS.icmpYes X_20.here hx rfl (pc0 := 205) (pc' := 212) rfl (hb hby at_205) rfl (feq hj205_5).2 (by decide) (by decide) ?_
                  show Steps p.tables e below (T_20.setTop (mkF m 212 #[.val (.int p0), .val (.int p1), .val (.int p2), .val (.int p3), .val (.int p4), .val (.int wd), .val (.int ht), .val (.int cn), .val (.int rr), .val (.ref b_1), .val (.int rg), .val (.int px), .val (.int py), .val (.ref b_15), .unset, .unset, .unset] [])) _
                  refine XS.iconst X_20.here hx rfl (hb hby at_212) ?_
                  rw [← hil_, if_pos hj151_0, if_neg hj160_1, if_neg hj166_2, if_neg hj181_3, if_pos hj196_4, if_neg hj205_5] at kt
                  exact kt
              · refine XS.icmpYes X_20.here hx rfl (pc0 := 196) (pc' := 212) rfl (hb hby at_196) rfl (flt hj196_4).2.2.2 (by decide) (by decide) ?_
                show Steps p.tables e below (T_20.setTop (mkF m 212 #[.val (.int p0), .val (.int p1), .val (.int p2), .val (.int p3), .val (.int p4), .val (.int wd), .val (.int ht), .val (.int cn), .val (.int rr), .val (.ref b_1), .val (.int rg), .val (.int px), .val (.int py), .val (.ref b_15), .unset, .unset, .unset] [])) _
                refine XS.iconst X_20.here hx rfl (hb hby at_212) ?_
                rw [← hil_, if_pos hj151_0, if_neg hj160_1, if_neg hj166_2, if_neg hj181_3, if_neg hj196_4] at kt
                exact kt
      · refine XS.ifYes X_20.here hx rfl (pc0 := 151) (pc' := 163) rfl (hb hby at_151) rfl ((if0 _ _).trans (flt hj151_0).2.2.2) (by decide) (by decide) ?_
        show Steps p.tables e below (T_20.setTop (mkF m 163 #[.val (.int p0), .val (.int p1), .val (.int p2), .val (.int p3), .val (.int p4), .val (.int wd), .val (.int ht), .val (.int cn), .val (.int rr), .val (.ref b_1), .val (.int rg), .val (.int px), .val (.int py), .val (.ref b_15), .unset, .unset, .unset] [])) _
        refine XS.iload X_20.here hx rfl (hb hby at_163) rfl ?_
        show Steps p.tables e below (T_20.setTop (mkF m 165 #[.val (.int p0), .val (.int p1), .val (.int p2), .val (.int p3), .val (.int p4), .val (.int wd), .val (.int ht), .val (.int cn), .val (.int rr), .val (.ref b_1), .val (.int rg), .val (.int px), .val (.int py), .val (.ref b_15), .unset, .unset, .unset] [(.int cn)])) _
        refine XS.iconst X_20.here hx rfl (hb hby at_165) ?_
        show Steps p.tables e below (T_20.setTop (mkF m 166 #[.val (.int p0), .val (.int p1), .val (.int p2), .val (.int p3), .val (.int p4), .val (.int wd), .val (.int ht), .val (.int cn), .val (.int rr), .val (.ref b_1), .val (.int rg), .val (.int px), .val (.int py), .val (.ref b_15), .unset, .unset, .unset] [(.int (1 : Int32)), (.int cn)])) _
        by_cases hj166_1 : (1 : Int32) < cn
        · refine XS.icmpNo X_20.here hx rfl (hb hby at_166) rfl (tlt hj166_1).2.2.2 ?_
          show Steps p.tables e below (T_20.setTop (mkF m 169 #[.val (.int p0), .val (.int p1), .val (.int p2), .val (.int p3), .val (.int p4), .val (.int wd), .val (.int ht), .val (.int cn), .val (.int rr), .val (.ref b_1), .val (.int rg), .val (.int px), .val (.int py), .val (.ref b_15), .unset, .unset, .unset] [])) _
          refine XS.iload X_20.here hx rfl (hb hby at_169) rfl ?_
          show Steps p.tables e below (T_20.setTop (mkF m 171 #[.val (.int p0), .val (.int p1), .val (.int p2), .val (.int p3), .val (.int p4), .val (.int wd), .val (.int ht), .val (.int cn), .val (.int rr), .val (.ref b_1), .val (.int rg), .val (.int px), .val (.int py), .val (.ref b_15), .unset, .unset, .unset] [(.int px)])) _
          refine XS.aload X_20.here hx rfl (hb hby at_171) rfl rfl ?_
          show Steps p.tables e below (T_20.setTop (mkF m 173 #[.val (.int p0), .val (.int p1), .val (.int p2), .val (.int p3), .val (.int p4), .val (.int wd), .val (.int ht), .val (.int cn), .val (.int rr), .val (.ref b_1), .val (.int rg), .val (.int px), .val (.int py), .val (.ref b_15), .unset, .unset, .unset] [(.ref b_1), (.int px)])) _
          refine XS.iconst X_20.here hx rfl (hb hby at_173) ?_
          show Steps p.tables e below (T_20.setTop (mkF m 174 #[.val (.int p0), .val (.int p1), .val (.int p2), .val (.int p3), .val (.int p4), .val (.int wd), .val (.int ht), .val (.int cn), .val (.int rr), .val (.ref b_1), .val (.int rg), .val (.int px), .val (.int py), .val (.ref b_15), .unset, .unset, .unset] [(.int (1 : Int32)), (.ref b_1), (.int px)])) _
          refine X_20.iaload hx (j := (1 : Int32)) (v := (.int c1)) Ar_33.1 (State.isArrayOf_alike hZ.alike Ar_33.2.1) Ar_33.2.2 (inb_of Sz_33 ⟨(by decide), (by decide)⟩) ((Hz_33 _ (own_idx (by decide) (by decide))).trans (congrArg some (rfl : (fun j => if j = (3 : Int32).toNatClampNeg then Value.int c3 else (fun j => if j = (2 : Int32).toNatClampNeg then Value.int c2 else (fun j => if j = (1 : Int32).toNatClampNeg then Value.int c1 else (fun j => if j = (0 : Int32).toNatClampNeg then Value.int c0 else (fun _ => (Value.int (0 : Int32))) j) j) j) j) (1 : Int32).toNatClampNeg = .int c1))) (g := (mkF m 174 #[.val (.int p0), .val (.int p1), .val (.int p2), .val (.int p3), .val (.int p4), .val (.int wd), .val (.int ht), .val (.int cn), .val (.int rr), .val (.ref b_1), .val (.int rg), .val (.int px), .val (.int py), .val (.ref b_15), .unset, .unset, .unset] [(.int (1 : Int32)), (.ref b_1), (.int px)])) rfl rfl (hb hby at_174) _ ?_
          show Steps p.tables e below (T_20.setTop (mkF m 175 #[.val (.int p0), .val (.int p1), .val (.int p2), .val (.int p3), .val (.int p4), .val (.int wd), .val (.int ht), .val (.int cn), .val (.int rr), .val (.ref b_1), .val (.int rg), .val (.int px), .val (.int py), .val (.ref b_15), .unset, .unset, .unset] [(.int c1), (.int px)])) _
          by_cases hj175_2 : px = c1
          · refine XS.icmpYes X_20.here hx rfl (pc0 := 175) (pc' := 208) rfl (hb hby at_175) rfl (teq hj175_2).1 (by decide) (by decide) ?_
            show Steps p.tables e below (T_20.setTop (mkF m 208 #[.val (.int p0), .val (.int p1), .val (.int p2), .val (.int p3), .val (.int p4), .val (.int wd), .val (.int ht), .val (.int cn), .val (.int rr), .val (.ref b_1), .val (.int rg), .val (.int px), .val (.int py), .val (.ref b_15), .unset, .unset, .unset] [])) _
            refine XS.iconst X_20.here hx rfl (hb hby at_208) ?_
            show Steps p.tables e below (T_20.setTop (mkF m 209 #[.val (.int p0), .val (.int p1), .val (.int p2), .val (.int p3), .val (.int p4), .val (.int wd), .val (.int ht), .val (.int cn), .val (.int rr), .val (.ref b_1), .val (.int rg), .val (.int px), .val (.int py), .val (.ref b_15), .unset, .unset, .unset] [(.int (1 : Int32))])) _
            refine XS.goto X_20.here hx rfl (pc0 := 209) (pc' := 213) rfl (hb hby at_209) (by decide) (by decide) ?_
            rw [← hil_, if_neg hj151_0, if_pos hj166_1, if_pos hj175_2] at kt
            exact kt
          · refine XS.icmpNo X_20.here hx rfl (hb hby at_175) rfl (feq hj175_2).1 ?_
            show Steps p.tables e below (T_20.setTop (mkF m 178 #[.val (.int p0), .val (.int p1), .val (.int p2), .val (.int p3), .val (.int p4), .val (.int wd), .val (.int ht), .val (.int cn), .val (.int rr), .val (.ref b_1), .val (.int rg), .val (.int px), .val (.int py), .val (.ref b_15), .unset, .unset, .unset] [])) _
            refine XS.iload X_20.here hx rfl (hb hby at_178) rfl ?_
            show Steps p.tables e below (T_20.setTop (mkF m 180 #[.val (.int p0), .val (.int p1), .val (.int p2), .val (.int p3), .val (.int p4), .val (.int wd), .val (.int ht), .val (.int cn), .val (.int rr), .val (.ref b_1), .val (.int rg), .val (.int px), .val (.int py), .val (.ref b_15), .unset, .unset, .unset] [(.int cn)])) _
            refine XS.iconst X_20.here hx rfl (hb hby at_180) ?_
            show Steps p.tables e below (T_20.setTop (mkF m 181 #[.val (.int p0), .val (.int p1), .val (.int p2), .val (.int p3), .val (.int p4), .val (.int wd), .val (.int ht), .val (.int cn), .val (.int rr), .val (.ref b_1), .val (.int rg), .val (.int px), .val (.int py), .val (.ref b_15), .unset, .unset, .unset] [(.int (2 : Int32)), (.int cn)])) _
            by_cases hj181_3 : (2 : Int32) < cn
            · refine XS.icmpNo X_20.here hx rfl (hb hby at_181) rfl (tlt hj181_3).2.2.2 ?_
              show Steps p.tables e below (T_20.setTop (mkF m 184 #[.val (.int p0), .val (.int p1), .val (.int p2), .val (.int p3), .val (.int p4), .val (.int wd), .val (.int ht), .val (.int cn), .val (.int rr), .val (.ref b_1), .val (.int rg), .val (.int px), .val (.int py), .val (.ref b_15), .unset, .unset, .unset] [])) _
              refine XS.iload X_20.here hx rfl (hb hby at_184) rfl ?_
              show Steps p.tables e below (T_20.setTop (mkF m 186 #[.val (.int p0), .val (.int p1), .val (.int p2), .val (.int p3), .val (.int p4), .val (.int wd), .val (.int ht), .val (.int cn), .val (.int rr), .val (.ref b_1), .val (.int rg), .val (.int px), .val (.int py), .val (.ref b_15), .unset, .unset, .unset] [(.int px)])) _
              refine XS.aload X_20.here hx rfl (hb hby at_186) rfl rfl ?_
              show Steps p.tables e below (T_20.setTop (mkF m 188 #[.val (.int p0), .val (.int p1), .val (.int p2), .val (.int p3), .val (.int p4), .val (.int wd), .val (.int ht), .val (.int cn), .val (.int rr), .val (.ref b_1), .val (.int rg), .val (.int px), .val (.int py), .val (.ref b_15), .unset, .unset, .unset] [(.ref b_1), (.int px)])) _
              refine XS.iconst X_20.here hx rfl (hb hby at_188) ?_
              show Steps p.tables e below (T_20.setTop (mkF m 189 #[.val (.int p0), .val (.int p1), .val (.int p2), .val (.int p3), .val (.int p4), .val (.int wd), .val (.int ht), .val (.int cn), .val (.int rr), .val (.ref b_1), .val (.int rg), .val (.int px), .val (.int py), .val (.ref b_15), .unset, .unset, .unset] [(.int (2 : Int32)), (.ref b_1), (.int px)])) _
              refine X_20.iaload hx (j := (2 : Int32)) (v := (.int c2)) Ar_34.1 (State.isArrayOf_alike hZ.alike Ar_34.2.1) Ar_34.2.2 (inb_of Sz_34 ⟨(by decide), (by decide)⟩) ((Hz_34 _ (own_idx (by decide) (by decide))).trans (congrArg some (rfl : (fun j => if j = (3 : Int32).toNatClampNeg then Value.int c3 else (fun j => if j = (2 : Int32).toNatClampNeg then Value.int c2 else (fun j => if j = (1 : Int32).toNatClampNeg then Value.int c1 else (fun j => if j = (0 : Int32).toNatClampNeg then Value.int c0 else (fun _ => (Value.int (0 : Int32))) j) j) j) j) (2 : Int32).toNatClampNeg = .int c2))) (g := (mkF m 189 #[.val (.int p0), .val (.int p1), .val (.int p2), .val (.int p3), .val (.int p4), .val (.int wd), .val (.int ht), .val (.int cn), .val (.int rr), .val (.ref b_1), .val (.int rg), .val (.int px), .val (.int py), .val (.ref b_15), .unset, .unset, .unset] [(.int (2 : Int32)), (.ref b_1), (.int px)])) rfl rfl (hb hby at_189) _ ?_
              show Steps p.tables e below (T_20.setTop (mkF m 190 #[.val (.int p0), .val (.int p1), .val (.int p2), .val (.int p3), .val (.int p4), .val (.int wd), .val (.int ht), .val (.int cn), .val (.int rr), .val (.ref b_1), .val (.int rg), .val (.int px), .val (.int py), .val (.ref b_15), .unset, .unset, .unset] [(.int c2), (.int px)])) _
              by_cases hj190_4 : px = c2
              · refine XS.icmpYes X_20.here hx rfl (pc0 := 190) (pc' := 208) rfl (hb hby at_190) rfl (teq hj190_4).1 (by decide) (by decide) ?_
                show Steps p.tables e below (T_20.setTop (mkF m 208 #[.val (.int p0), .val (.int p1), .val (.int p2), .val (.int p3), .val (.int p4), .val (.int wd), .val (.int ht), .val (.int cn), .val (.int rr), .val (.ref b_1), .val (.int rg), .val (.int px), .val (.int py), .val (.ref b_15), .unset, .unset, .unset] [])) _
                refine XS.iconst X_20.here hx rfl (hb hby at_208) ?_
                show Steps p.tables e below (T_20.setTop (mkF m 209 #[.val (.int p0), .val (.int p1), .val (.int p2), .val (.int p3), .val (.int p4), .val (.int wd), .val (.int ht), .val (.int cn), .val (.int rr), .val (.ref b_1), .val (.int rg), .val (.int px), .val (.int py), .val (.ref b_15), .unset, .unset, .unset] [(.int (1 : Int32))])) _
                refine XS.goto X_20.here hx rfl (pc0 := 209) (pc' := 213) rfl (hb hby at_209) (by decide) (by decide) ?_
                rw [← hil_, if_neg hj151_0, if_pos hj166_1, if_neg hj175_2, if_pos hj181_3, if_pos hj190_4] at kt
                exact kt
              · refine XS.icmpNo X_20.here hx rfl (hb hby at_190) rfl (feq hj190_4).1 ?_
                show Steps p.tables e below (T_20.setTop (mkF m 193 #[.val (.int p0), .val (.int p1), .val (.int p2), .val (.int p3), .val (.int p4), .val (.int wd), .val (.int ht), .val (.int cn), .val (.int rr), .val (.ref b_1), .val (.int rg), .val (.int px), .val (.int py), .val (.ref b_15), .unset, .unset, .unset] [])) _
                refine XS.iload X_20.here hx rfl (hb hby at_193) rfl ?_
                show Steps p.tables e below (T_20.setTop (mkF m 195 #[.val (.int p0), .val (.int p1), .val (.int p2), .val (.int p3), .val (.int p4), .val (.int wd), .val (.int ht), .val (.int cn), .val (.int rr), .val (.ref b_1), .val (.int rg), .val (.int px), .val (.int py), .val (.ref b_15), .unset, .unset, .unset] [(.int cn)])) _
                refine XS.iconst X_20.here hx rfl (hb hby at_195) ?_
                show Steps p.tables e below (T_20.setTop (mkF m 196 #[.val (.int p0), .val (.int p1), .val (.int p2), .val (.int p3), .val (.int p4), .val (.int wd), .val (.int ht), .val (.int cn), .val (.int rr), .val (.ref b_1), .val (.int rg), .val (.int px), .val (.int py), .val (.ref b_15), .unset, .unset, .unset] [(.int (3 : Int32)), (.int cn)])) _
                by_cases hj196_5 : (3 : Int32) < cn
                · refine XS.icmpNo X_20.here hx rfl (hb hby at_196) rfl (tlt hj196_5).2.2.2 ?_
                  show Steps p.tables e below (T_20.setTop (mkF m 199 #[.val (.int p0), .val (.int p1), .val (.int p2), .val (.int p3), .val (.int p4), .val (.int wd), .val (.int ht), .val (.int cn), .val (.int rr), .val (.ref b_1), .val (.int rg), .val (.int px), .val (.int py), .val (.ref b_15), .unset, .unset, .unset] [])) _
                  refine XS.iload X_20.here hx rfl (hb hby at_199) rfl ?_
                  show Steps p.tables e below (T_20.setTop (mkF m 201 #[.val (.int p0), .val (.int p1), .val (.int p2), .val (.int p3), .val (.int p4), .val (.int wd), .val (.int ht), .val (.int cn), .val (.int rr), .val (.ref b_1), .val (.int rg), .val (.int px), .val (.int py), .val (.ref b_15), .unset, .unset, .unset] [(.int px)])) _
                  refine XS.aload X_20.here hx rfl (hb hby at_201) rfl rfl ?_
                  show Steps p.tables e below (T_20.setTop (mkF m 203 #[.val (.int p0), .val (.int p1), .val (.int p2), .val (.int p3), .val (.int p4), .val (.int wd), .val (.int ht), .val (.int cn), .val (.int rr), .val (.ref b_1), .val (.int rg), .val (.int px), .val (.int py), .val (.ref b_15), .unset, .unset, .unset] [(.ref b_1), (.int px)])) _
                  refine XS.iconst X_20.here hx rfl (hb hby at_203) ?_
                  show Steps p.tables e below (T_20.setTop (mkF m 204 #[.val (.int p0), .val (.int p1), .val (.int p2), .val (.int p3), .val (.int p4), .val (.int wd), .val (.int ht), .val (.int cn), .val (.int rr), .val (.ref b_1), .val (.int rg), .val (.int px), .val (.int py), .val (.ref b_15), .unset, .unset, .unset] [(.int (3 : Int32)), (.ref b_1), (.int px)])) _
                  refine X_20.iaload hx (j := (3 : Int32)) (v := (.int c3)) Ar_35.1 (State.isArrayOf_alike hZ.alike Ar_35.2.1) Ar_35.2.2 (inb_of Sz_35 ⟨(by decide), (by decide)⟩) ((Hz_35 _ (own_idx (by decide) (by decide))).trans (congrArg some (rfl : (fun j => if j = (3 : Int32).toNatClampNeg then Value.int c3 else (fun j => if j = (2 : Int32).toNatClampNeg then Value.int c2 else (fun j => if j = (1 : Int32).toNatClampNeg then Value.int c1 else (fun j => if j = (0 : Int32).toNatClampNeg then Value.int c0 else (fun _ => (Value.int (0 : Int32))) j) j) j) j) (3 : Int32).toNatClampNeg = .int c3))) (g := (mkF m 204 #[.val (.int p0), .val (.int p1), .val (.int p2), .val (.int p3), .val (.int p4), .val (.int wd), .val (.int ht), .val (.int cn), .val (.int rr), .val (.ref b_1), .val (.int rg), .val (.int px), .val (.int py), .val (.ref b_15), .unset, .unset, .unset] [(.int (3 : Int32)), (.ref b_1), (.int px)])) rfl rfl (hb hby at_204) _ ?_
                  show Steps p.tables e below (T_20.setTop (mkF m 205 #[.val (.int p0), .val (.int p1), .val (.int p2), .val (.int p3), .val (.int p4), .val (.int wd), .val (.int ht), .val (.int cn), .val (.int rr), .val (.ref b_1), .val (.int rg), .val (.int px), .val (.int py), .val (.ref b_15), .unset, .unset, .unset] [(.int c3), (.int px)])) _
                  by_cases hj205_6 : px = c3
                  · refine XS.icmpNo X_20.here hx rfl (hb hby at_205) rfl (teq hj205_6).2 ?_
                    show Steps p.tables e below (T_20.setTop (mkF m 208 #[.val (.int p0), .val (.int p1), .val (.int p2), .val (.int p3), .val (.int p4), .val (.int wd), .val (.int ht), .val (.int cn), .val (.int rr), .val (.ref b_1), .val (.int rg), .val (.int px), .val (.int py), .val (.ref b_15), .unset, .unset, .unset] [])) _
                    refine XS.iconst X_20.here hx rfl (hb hby at_208) ?_
                    show Steps p.tables e below (T_20.setTop (mkF m 209 #[.val (.int p0), .val (.int p1), .val (.int p2), .val (.int p3), .val (.int p4), .val (.int wd), .val (.int ht), .val (.int cn), .val (.int rr), .val (.ref b_1), .val (.int rg), .val (.int px), .val (.int py), .val (.ref b_15), .unset, .unset, .unset] [(.int (1 : Int32))])) _
                    refine XS.goto X_20.here hx rfl (pc0 := 209) (pc' := 213) rfl (hb hby at_209) (by decide) (by decide) ?_
                    rw [← hil_, if_neg hj151_0, if_pos hj166_1, if_neg hj175_2, if_pos hj181_3, if_neg hj190_4, if_pos hj196_5, if_pos hj205_6] at kt
                    exact kt
                  · refine XS.icmpYes X_20.here hx rfl (pc0 := 205) (pc' := 212) rfl (hb hby at_205) rfl (feq hj205_6).2 (by decide) (by decide) ?_
                    show Steps p.tables e below (T_20.setTop (mkF m 212 #[.val (.int p0), .val (.int p1), .val (.int p2), .val (.int p3), .val (.int p4), .val (.int wd), .val (.int ht), .val (.int cn), .val (.int rr), .val (.ref b_1), .val (.int rg), .val (.int px), .val (.int py), .val (.ref b_15), .unset, .unset, .unset] [])) _
                    refine XS.iconst X_20.here hx rfl (hb hby at_212) ?_
                    rw [← hil_, if_neg hj151_0, if_pos hj166_1, if_neg hj175_2, if_pos hj181_3, if_neg hj190_4, if_pos hj196_5, if_neg hj205_6] at kt
                    exact kt
                · refine XS.icmpYes X_20.here hx rfl (pc0 := 196) (pc' := 212) rfl (hb hby at_196) rfl (flt hj196_5).2.2.2 (by decide) (by decide) ?_
                  show Steps p.tables e below (T_20.setTop (mkF m 212 #[.val (.int p0), .val (.int p1), .val (.int p2), .val (.int p3), .val (.int p4), .val (.int wd), .val (.int ht), .val (.int cn), .val (.int rr), .val (.ref b_1), .val (.int rg), .val (.int px), .val (.int py), .val (.ref b_15), .unset, .unset, .unset] [])) _
                  refine XS.iconst X_20.here hx rfl (hb hby at_212) ?_
                  rw [← hil_, if_neg hj151_0, if_pos hj166_1, if_neg hj175_2, if_pos hj181_3, if_neg hj190_4, if_neg hj196_5] at kt
                  exact kt
            · refine XS.icmpYes X_20.here hx rfl (pc0 := 181) (pc' := 193) rfl (hb hby at_181) rfl (flt hj181_3).2.2.2 (by decide) (by decide) ?_
              show Steps p.tables e below (T_20.setTop (mkF m 193 #[.val (.int p0), .val (.int p1), .val (.int p2), .val (.int p3), .val (.int p4), .val (.int wd), .val (.int ht), .val (.int cn), .val (.int rr), .val (.ref b_1), .val (.int rg), .val (.int px), .val (.int py), .val (.ref b_15), .unset, .unset, .unset] [])) _
              refine XS.iload X_20.here hx rfl (hb hby at_193) rfl ?_
              show Steps p.tables e below (T_20.setTop (mkF m 195 #[.val (.int p0), .val (.int p1), .val (.int p2), .val (.int p3), .val (.int p4), .val (.int wd), .val (.int ht), .val (.int cn), .val (.int rr), .val (.ref b_1), .val (.int rg), .val (.int px), .val (.int py), .val (.ref b_15), .unset, .unset, .unset] [(.int cn)])) _
              refine XS.iconst X_20.here hx rfl (hb hby at_195) ?_
              show Steps p.tables e below (T_20.setTop (mkF m 196 #[.val (.int p0), .val (.int p1), .val (.int p2), .val (.int p3), .val (.int p4), .val (.int wd), .val (.int ht), .val (.int cn), .val (.int rr), .val (.ref b_1), .val (.int rg), .val (.int px), .val (.int py), .val (.ref b_15), .unset, .unset, .unset] [(.int (3 : Int32)), (.int cn)])) _
              by_cases hj196_4 : (3 : Int32) < cn
              · refine XS.icmpNo X_20.here hx rfl (hb hby at_196) rfl (tlt hj196_4).2.2.2 ?_
                show Steps p.tables e below (T_20.setTop (mkF m 199 #[.val (.int p0), .val (.int p1), .val (.int p2), .val (.int p3), .val (.int p4), .val (.int wd), .val (.int ht), .val (.int cn), .val (.int rr), .val (.ref b_1), .val (.int rg), .val (.int px), .val (.int py), .val (.ref b_15), .unset, .unset, .unset] [])) _
                refine XS.iload X_20.here hx rfl (hb hby at_199) rfl ?_
                show Steps p.tables e below (T_20.setTop (mkF m 201 #[.val (.int p0), .val (.int p1), .val (.int p2), .val (.int p3), .val (.int p4), .val (.int wd), .val (.int ht), .val (.int cn), .val (.int rr), .val (.ref b_1), .val (.int rg), .val (.int px), .val (.int py), .val (.ref b_15), .unset, .unset, .unset] [(.int px)])) _
                refine XS.aload X_20.here hx rfl (hb hby at_201) rfl rfl ?_
                show Steps p.tables e below (T_20.setTop (mkF m 203 #[.val (.int p0), .val (.int p1), .val (.int p2), .val (.int p3), .val (.int p4), .val (.int wd), .val (.int ht), .val (.int cn), .val (.int rr), .val (.ref b_1), .val (.int rg), .val (.int px), .val (.int py), .val (.ref b_15), .unset, .unset, .unset] [(.ref b_1), (.int px)])) _
                refine XS.iconst X_20.here hx rfl (hb hby at_203) ?_
                show Steps p.tables e below (T_20.setTop (mkF m 204 #[.val (.int p0), .val (.int p1), .val (.int p2), .val (.int p3), .val (.int p4), .val (.int wd), .val (.int ht), .val (.int cn), .val (.int rr), .val (.ref b_1), .val (.int rg), .val (.int px), .val (.int py), .val (.ref b_15), .unset, .unset, .unset] [(.int (3 : Int32)), (.ref b_1), (.int px)])) _
                refine X_20.iaload hx (j := (3 : Int32)) (v := (.int c3)) Ar_36.1 (State.isArrayOf_alike hZ.alike Ar_36.2.1) Ar_36.2.2 (inb_of Sz_36 ⟨(by decide), (by decide)⟩) ((Hz_36 _ (own_idx (by decide) (by decide))).trans (congrArg some (rfl : (fun j => if j = (3 : Int32).toNatClampNeg then Value.int c3 else (fun j => if j = (2 : Int32).toNatClampNeg then Value.int c2 else (fun j => if j = (1 : Int32).toNatClampNeg then Value.int c1 else (fun j => if j = (0 : Int32).toNatClampNeg then Value.int c0 else (fun _ => (Value.int (0 : Int32))) j) j) j) j) (3 : Int32).toNatClampNeg = .int c3))) (g := (mkF m 204 #[.val (.int p0), .val (.int p1), .val (.int p2), .val (.int p3), .val (.int p4), .val (.int wd), .val (.int ht), .val (.int cn), .val (.int rr), .val (.ref b_1), .val (.int rg), .val (.int px), .val (.int py), .val (.ref b_15), .unset, .unset, .unset] [(.int (3 : Int32)), (.ref b_1), (.int px)])) rfl rfl (hb hby at_204) _ ?_
                show Steps p.tables e below (T_20.setTop (mkF m 205 #[.val (.int p0), .val (.int p1), .val (.int p2), .val (.int p3), .val (.int p4), .val (.int wd), .val (.int ht), .val (.int cn), .val (.int rr), .val (.ref b_1), .val (.int rg), .val (.int px), .val (.int py), .val (.ref b_15), .unset, .unset, .unset] [(.int c3), (.int px)])) _
                by_cases hj205_5 : px = c3
                · refine XS.icmpNo X_20.here hx rfl (hb hby at_205) rfl (teq hj205_5).2 ?_
                  show Steps p.tables e below (T_20.setTop (mkF m 208 #[.val (.int p0), .val (.int p1), .val (.int p2), .val (.int p3), .val (.int p4), .val (.int wd), .val (.int ht), .val (.int cn), .val (.int rr), .val (.ref b_1), .val (.int rg), .val (.int px), .val (.int py), .val (.ref b_15), .unset, .unset, .unset] [])) _
                  refine XS.iconst X_20.here hx rfl (hb hby at_208) ?_
                  show Steps p.tables e below (T_20.setTop (mkF m 209 #[.val (.int p0), .val (.int p1), .val (.int p2), .val (.int p3), .val (.int p4), .val (.int wd), .val (.int ht), .val (.int cn), .val (.int rr), .val (.ref b_1), .val (.int rg), .val (.int px), .val (.int py), .val (.ref b_15), .unset, .unset, .unset] [(.int (1 : Int32))])) _
                  refine XS.goto X_20.here hx rfl (pc0 := 209) (pc' := 213) rfl (hb hby at_209) (by decide) (by decide) ?_
                  rw [← hil_, if_neg hj151_0, if_pos hj166_1, if_neg hj175_2, if_neg hj181_3, if_pos hj196_4, if_pos hj205_5] at kt
                  exact kt
                · refine XS.icmpYes X_20.here hx rfl (pc0 := 205) (pc' := 212) rfl (hb hby at_205) rfl (feq hj205_5).2 (by decide) (by decide) ?_
                  show Steps p.tables e below (T_20.setTop (mkF m 212 #[.val (.int p0), .val (.int p1), .val (.int p2), .val (.int p3), .val (.int p4), .val (.int wd), .val (.int ht), .val (.int cn), .val (.int rr), .val (.ref b_1), .val (.int rg), .val (.int px), .val (.int py), .val (.ref b_15), .unset, .unset, .unset] [])) _
                  refine XS.iconst X_20.here hx rfl (hb hby at_212) ?_
                  rw [← hil_, if_neg hj151_0, if_pos hj166_1, if_neg hj175_2, if_neg hj181_3, if_pos hj196_4, if_neg hj205_5] at kt
                  exact kt
              · refine XS.icmpYes X_20.here hx rfl (pc0 := 196) (pc' := 212) rfl (hb hby at_196) rfl (flt hj196_4).2.2.2 (by decide) (by decide) ?_
                show Steps p.tables e below (T_20.setTop (mkF m 212 #[.val (.int p0), .val (.int p1), .val (.int p2), .val (.int p3), .val (.int p4), .val (.int wd), .val (.int ht), .val (.int cn), .val (.int rr), .val (.ref b_1), .val (.int rg), .val (.int px), .val (.int py), .val (.ref b_15), .unset, .unset, .unset] [])) _
                refine XS.iconst X_20.here hx rfl (hb hby at_212) ?_
                rw [← hil_, if_neg hj151_0, if_pos hj166_1, if_neg hj175_2, if_neg hj181_3, if_neg hj196_4] at kt
                exact kt
        · refine XS.icmpYes X_20.here hx rfl (pc0 := 166) (pc' := 178) rfl (hb hby at_166) rfl (flt hj166_1).2.2.2 (by decide) (by decide) ?_
          show Steps p.tables e below (T_20.setTop (mkF m 178 #[.val (.int p0), .val (.int p1), .val (.int p2), .val (.int p3), .val (.int p4), .val (.int wd), .val (.int ht), .val (.int cn), .val (.int rr), .val (.ref b_1), .val (.int rg), .val (.int px), .val (.int py), .val (.ref b_15), .unset, .unset, .unset] [])) _
          refine XS.iload X_20.here hx rfl (hb hby at_178) rfl ?_
          show Steps p.tables e below (T_20.setTop (mkF m 180 #[.val (.int p0), .val (.int p1), .val (.int p2), .val (.int p3), .val (.int p4), .val (.int wd), .val (.int ht), .val (.int cn), .val (.int rr), .val (.ref b_1), .val (.int rg), .val (.int px), .val (.int py), .val (.ref b_15), .unset, .unset, .unset] [(.int cn)])) _
          refine XS.iconst X_20.here hx rfl (hb hby at_180) ?_
          show Steps p.tables e below (T_20.setTop (mkF m 181 #[.val (.int p0), .val (.int p1), .val (.int p2), .val (.int p3), .val (.int p4), .val (.int wd), .val (.int ht), .val (.int cn), .val (.int rr), .val (.ref b_1), .val (.int rg), .val (.int px), .val (.int py), .val (.ref b_15), .unset, .unset, .unset] [(.int (2 : Int32)), (.int cn)])) _
          by_cases hj181_2 : (2 : Int32) < cn
          · refine XS.icmpNo X_20.here hx rfl (hb hby at_181) rfl (tlt hj181_2).2.2.2 ?_
            show Steps p.tables e below (T_20.setTop (mkF m 184 #[.val (.int p0), .val (.int p1), .val (.int p2), .val (.int p3), .val (.int p4), .val (.int wd), .val (.int ht), .val (.int cn), .val (.int rr), .val (.ref b_1), .val (.int rg), .val (.int px), .val (.int py), .val (.ref b_15), .unset, .unset, .unset] [])) _
            refine XS.iload X_20.here hx rfl (hb hby at_184) rfl ?_
            show Steps p.tables e below (T_20.setTop (mkF m 186 #[.val (.int p0), .val (.int p1), .val (.int p2), .val (.int p3), .val (.int p4), .val (.int wd), .val (.int ht), .val (.int cn), .val (.int rr), .val (.ref b_1), .val (.int rg), .val (.int px), .val (.int py), .val (.ref b_15), .unset, .unset, .unset] [(.int px)])) _
            refine XS.aload X_20.here hx rfl (hb hby at_186) rfl rfl ?_
            show Steps p.tables e below (T_20.setTop (mkF m 188 #[.val (.int p0), .val (.int p1), .val (.int p2), .val (.int p3), .val (.int p4), .val (.int wd), .val (.int ht), .val (.int cn), .val (.int rr), .val (.ref b_1), .val (.int rg), .val (.int px), .val (.int py), .val (.ref b_15), .unset, .unset, .unset] [(.ref b_1), (.int px)])) _
            refine XS.iconst X_20.here hx rfl (hb hby at_188) ?_
            show Steps p.tables e below (T_20.setTop (mkF m 189 #[.val (.int p0), .val (.int p1), .val (.int p2), .val (.int p3), .val (.int p4), .val (.int wd), .val (.int ht), .val (.int cn), .val (.int rr), .val (.ref b_1), .val (.int rg), .val (.int px), .val (.int py), .val (.ref b_15), .unset, .unset, .unset] [(.int (2 : Int32)), (.ref b_1), (.int px)])) _
            refine X_20.iaload hx (j := (2 : Int32)) (v := (.int c2)) Ar_37.1 (State.isArrayOf_alike hZ.alike Ar_37.2.1) Ar_37.2.2 (inb_of Sz_37 ⟨(by decide), (by decide)⟩) ((Hz_37 _ (own_idx (by decide) (by decide))).trans (congrArg some (rfl : (fun j => if j = (3 : Int32).toNatClampNeg then Value.int c3 else (fun j => if j = (2 : Int32).toNatClampNeg then Value.int c2 else (fun j => if j = (1 : Int32).toNatClampNeg then Value.int c1 else (fun j => if j = (0 : Int32).toNatClampNeg then Value.int c0 else (fun _ => (Value.int (0 : Int32))) j) j) j) j) (2 : Int32).toNatClampNeg = .int c2))) (g := (mkF m 189 #[.val (.int p0), .val (.int p1), .val (.int p2), .val (.int p3), .val (.int p4), .val (.int wd), .val (.int ht), .val (.int cn), .val (.int rr), .val (.ref b_1), .val (.int rg), .val (.int px), .val (.int py), .val (.ref b_15), .unset, .unset, .unset] [(.int (2 : Int32)), (.ref b_1), (.int px)])) rfl rfl (hb hby at_189) _ ?_
            show Steps p.tables e below (T_20.setTop (mkF m 190 #[.val (.int p0), .val (.int p1), .val (.int p2), .val (.int p3), .val (.int p4), .val (.int wd), .val (.int ht), .val (.int cn), .val (.int rr), .val (.ref b_1), .val (.int rg), .val (.int px), .val (.int py), .val (.ref b_15), .unset, .unset, .unset] [(.int c2), (.int px)])) _
            by_cases hj190_3 : px = c2
            · refine XS.icmpYes X_20.here hx rfl (pc0 := 190) (pc' := 208) rfl (hb hby at_190) rfl (teq hj190_3).1 (by decide) (by decide) ?_
              show Steps p.tables e below (T_20.setTop (mkF m 208 #[.val (.int p0), .val (.int p1), .val (.int p2), .val (.int p3), .val (.int p4), .val (.int wd), .val (.int ht), .val (.int cn), .val (.int rr), .val (.ref b_1), .val (.int rg), .val (.int px), .val (.int py), .val (.ref b_15), .unset, .unset, .unset] [])) _
              refine XS.iconst X_20.here hx rfl (hb hby at_208) ?_
              show Steps p.tables e below (T_20.setTop (mkF m 209 #[.val (.int p0), .val (.int p1), .val (.int p2), .val (.int p3), .val (.int p4), .val (.int wd), .val (.int ht), .val (.int cn), .val (.int rr), .val (.ref b_1), .val (.int rg), .val (.int px), .val (.int py), .val (.ref b_15), .unset, .unset, .unset] [(.int (1 : Int32))])) _
              refine XS.goto X_20.here hx rfl (pc0 := 209) (pc' := 213) rfl (hb hby at_209) (by decide) (by decide) ?_
              rw [← hil_, if_neg hj151_0, if_neg hj166_1, if_pos hj181_2, if_pos hj190_3] at kt
              exact kt
            · refine XS.icmpNo X_20.here hx rfl (hb hby at_190) rfl (feq hj190_3).1 ?_
              show Steps p.tables e below (T_20.setTop (mkF m 193 #[.val (.int p0), .val (.int p1), .val (.int p2), .val (.int p3), .val (.int p4), .val (.int wd), .val (.int ht), .val (.int cn), .val (.int rr), .val (.ref b_1), .val (.int rg), .val (.int px), .val (.int py), .val (.ref b_15), .unset, .unset, .unset] [])) _
              refine XS.iload X_20.here hx rfl (hb hby at_193) rfl ?_
              show Steps p.tables e below (T_20.setTop (mkF m 195 #[.val (.int p0), .val (.int p1), .val (.int p2), .val (.int p3), .val (.int p4), .val (.int wd), .val (.int ht), .val (.int cn), .val (.int rr), .val (.ref b_1), .val (.int rg), .val (.int px), .val (.int py), .val (.ref b_15), .unset, .unset, .unset] [(.int cn)])) _
              refine XS.iconst X_20.here hx rfl (hb hby at_195) ?_
              show Steps p.tables e below (T_20.setTop (mkF m 196 #[.val (.int p0), .val (.int p1), .val (.int p2), .val (.int p3), .val (.int p4), .val (.int wd), .val (.int ht), .val (.int cn), .val (.int rr), .val (.ref b_1), .val (.int rg), .val (.int px), .val (.int py), .val (.ref b_15), .unset, .unset, .unset] [(.int (3 : Int32)), (.int cn)])) _
              by_cases hj196_4 : (3 : Int32) < cn
              · refine XS.icmpNo X_20.here hx rfl (hb hby at_196) rfl (tlt hj196_4).2.2.2 ?_
                show Steps p.tables e below (T_20.setTop (mkF m 199 #[.val (.int p0), .val (.int p1), .val (.int p2), .val (.int p3), .val (.int p4), .val (.int wd), .val (.int ht), .val (.int cn), .val (.int rr), .val (.ref b_1), .val (.int rg), .val (.int px), .val (.int py), .val (.ref b_15), .unset, .unset, .unset] [])) _
                refine XS.iload X_20.here hx rfl (hb hby at_199) rfl ?_
                show Steps p.tables e below (T_20.setTop (mkF m 201 #[.val (.int p0), .val (.int p1), .val (.int p2), .val (.int p3), .val (.int p4), .val (.int wd), .val (.int ht), .val (.int cn), .val (.int rr), .val (.ref b_1), .val (.int rg), .val (.int px), .val (.int py), .val (.ref b_15), .unset, .unset, .unset] [(.int px)])) _
                refine XS.aload X_20.here hx rfl (hb hby at_201) rfl rfl ?_
                show Steps p.tables e below (T_20.setTop (mkF m 203 #[.val (.int p0), .val (.int p1), .val (.int p2), .val (.int p3), .val (.int p4), .val (.int wd), .val (.int ht), .val (.int cn), .val (.int rr), .val (.ref b_1), .val (.int rg), .val (.int px), .val (.int py), .val (.ref b_15), .unset, .unset, .unset] [(.ref b_1), (.int px)])) _
                refine XS.iconst X_20.here hx rfl (hb hby at_203) ?_
                show Steps p.tables e below (T_20.setTop (mkF m 204 #[.val (.int p0), .val (.int p1), .val (.int p2), .val (.int p3), .val (.int p4), .val (.int wd), .val (.int ht), .val (.int cn), .val (.int rr), .val (.ref b_1), .val (.int rg), .val (.int px), .val (.int py), .val (.ref b_15), .unset, .unset, .unset] [(.int (3 : Int32)), (.ref b_1), (.int px)])) _
                refine X_20.iaload hx (j := (3 : Int32)) (v := (.int c3)) Ar_38.1 (State.isArrayOf_alike hZ.alike Ar_38.2.1) Ar_38.2.2 (inb_of Sz_38 ⟨(by decide), (by decide)⟩) ((Hz_38 _ (own_idx (by decide) (by decide))).trans (congrArg some (rfl : (fun j => if j = (3 : Int32).toNatClampNeg then Value.int c3 else (fun j => if j = (2 : Int32).toNatClampNeg then Value.int c2 else (fun j => if j = (1 : Int32).toNatClampNeg then Value.int c1 else (fun j => if j = (0 : Int32).toNatClampNeg then Value.int c0 else (fun _ => (Value.int (0 : Int32))) j) j) j) j) (3 : Int32).toNatClampNeg = .int c3))) (g := (mkF m 204 #[.val (.int p0), .val (.int p1), .val (.int p2), .val (.int p3), .val (.int p4), .val (.int wd), .val (.int ht), .val (.int cn), .val (.int rr), .val (.ref b_1), .val (.int rg), .val (.int px), .val (.int py), .val (.ref b_15), .unset, .unset, .unset] [(.int (3 : Int32)), (.ref b_1), (.int px)])) rfl rfl (hb hby at_204) _ ?_
                show Steps p.tables e below (T_20.setTop (mkF m 205 #[.val (.int p0), .val (.int p1), .val (.int p2), .val (.int p3), .val (.int p4), .val (.int wd), .val (.int ht), .val (.int cn), .val (.int rr), .val (.ref b_1), .val (.int rg), .val (.int px), .val (.int py), .val (.ref b_15), .unset, .unset, .unset] [(.int c3), (.int px)])) _
                by_cases hj205_5 : px = c3
                · refine XS.icmpNo X_20.here hx rfl (hb hby at_205) rfl (teq hj205_5).2 ?_
                  show Steps p.tables e below (T_20.setTop (mkF m 208 #[.val (.int p0), .val (.int p1), .val (.int p2), .val (.int p3), .val (.int p4), .val (.int wd), .val (.int ht), .val (.int cn), .val (.int rr), .val (.ref b_1), .val (.int rg), .val (.int px), .val (.int py), .val (.ref b_15), .unset, .unset, .unset] [])) _
                  refine XS.iconst X_20.here hx rfl (hb hby at_208) ?_
                  show Steps p.tables e below (T_20.setTop (mkF m 209 #[.val (.int p0), .val (.int p1), .val (.int p2), .val (.int p3), .val (.int p4), .val (.int wd), .val (.int ht), .val (.int cn), .val (.int rr), .val (.ref b_1), .val (.int rg), .val (.int px), .val (.int py), .val (.ref b_15), .unset, .unset, .unset] [(.int (1 : Int32))])) _
                  refine XS.goto X_20.here hx rfl (pc0 := 209) (pc' := 213) rfl (hb hby at_209) (by decide) (by decide) ?_
                  rw [← hil_, if_neg hj151_0, if_neg hj166_1, if_pos hj181_2, if_neg hj190_3, if_pos hj196_4, if_pos hj205_5] at kt
                  exact kt
                · refine XS.icmpYes X_20.here hx rfl (pc0 := 205) (pc' := 212) rfl (hb hby at_205) rfl (feq hj205_5).2 (by decide) (by decide) ?_
                  show Steps p.tables e below (T_20.setTop (mkF m 212 #[.val (.int p0), .val (.int p1), .val (.int p2), .val (.int p3), .val (.int p4), .val (.int wd), .val (.int ht), .val (.int cn), .val (.int rr), .val (.ref b_1), .val (.int rg), .val (.int px), .val (.int py), .val (.ref b_15), .unset, .unset, .unset] [])) _
                  refine XS.iconst X_20.here hx rfl (hb hby at_212) ?_
                  rw [← hil_, if_neg hj151_0, if_neg hj166_1, if_pos hj181_2, if_neg hj190_3, if_pos hj196_4, if_neg hj205_5] at kt
                  exact kt
              · refine XS.icmpYes X_20.here hx rfl (pc0 := 196) (pc' := 212) rfl (hb hby at_196) rfl (flt hj196_4).2.2.2 (by decide) (by decide) ?_
                show Steps p.tables e below (T_20.setTop (mkF m 212 #[.val (.int p0), .val (.int p1), .val (.int p2), .val (.int p3), .val (.int p4), .val (.int wd), .val (.int ht), .val (.int cn), .val (.int rr), .val (.ref b_1), .val (.int rg), .val (.int px), .val (.int py), .val (.ref b_15), .unset, .unset, .unset] [])) _
                refine XS.iconst X_20.here hx rfl (hb hby at_212) ?_
                rw [← hil_, if_neg hj151_0, if_neg hj166_1, if_pos hj181_2, if_neg hj190_3, if_neg hj196_4] at kt
                exact kt
          · refine XS.icmpYes X_20.here hx rfl (pc0 := 181) (pc' := 193) rfl (hb hby at_181) rfl (flt hj181_2).2.2.2 (by decide) (by decide) ?_
            show Steps p.tables e below (T_20.setTop (mkF m 193 #[.val (.int p0), .val (.int p1), .val (.int p2), .val (.int p3), .val (.int p4), .val (.int wd), .val (.int ht), .val (.int cn), .val (.int rr), .val (.ref b_1), .val (.int rg), .val (.int px), .val (.int py), .val (.ref b_15), .unset, .unset, .unset] [])) _
            refine XS.iload X_20.here hx rfl (hb hby at_193) rfl ?_
            show Steps p.tables e below (T_20.setTop (mkF m 195 #[.val (.int p0), .val (.int p1), .val (.int p2), .val (.int p3), .val (.int p4), .val (.int wd), .val (.int ht), .val (.int cn), .val (.int rr), .val (.ref b_1), .val (.int rg), .val (.int px), .val (.int py), .val (.ref b_15), .unset, .unset, .unset] [(.int cn)])) _
            refine XS.iconst X_20.here hx rfl (hb hby at_195) ?_
            show Steps p.tables e below (T_20.setTop (mkF m 196 #[.val (.int p0), .val (.int p1), .val (.int p2), .val (.int p3), .val (.int p4), .val (.int wd), .val (.int ht), .val (.int cn), .val (.int rr), .val (.ref b_1), .val (.int rg), .val (.int px), .val (.int py), .val (.ref b_15), .unset, .unset, .unset] [(.int (3 : Int32)), (.int cn)])) _
            by_cases hj196_3 : (3 : Int32) < cn
            · refine XS.icmpNo X_20.here hx rfl (hb hby at_196) rfl (tlt hj196_3).2.2.2 ?_
              show Steps p.tables e below (T_20.setTop (mkF m 199 #[.val (.int p0), .val (.int p1), .val (.int p2), .val (.int p3), .val (.int p4), .val (.int wd), .val (.int ht), .val (.int cn), .val (.int rr), .val (.ref b_1), .val (.int rg), .val (.int px), .val (.int py), .val (.ref b_15), .unset, .unset, .unset] [])) _
              refine XS.iload X_20.here hx rfl (hb hby at_199) rfl ?_
              show Steps p.tables e below (T_20.setTop (mkF m 201 #[.val (.int p0), .val (.int p1), .val (.int p2), .val (.int p3), .val (.int p4), .val (.int wd), .val (.int ht), .val (.int cn), .val (.int rr), .val (.ref b_1), .val (.int rg), .val (.int px), .val (.int py), .val (.ref b_15), .unset, .unset, .unset] [(.int px)])) _
              refine XS.aload X_20.here hx rfl (hb hby at_201) rfl rfl ?_
              show Steps p.tables e below (T_20.setTop (mkF m 203 #[.val (.int p0), .val (.int p1), .val (.int p2), .val (.int p3), .val (.int p4), .val (.int wd), .val (.int ht), .val (.int cn), .val (.int rr), .val (.ref b_1), .val (.int rg), .val (.int px), .val (.int py), .val (.ref b_15), .unset, .unset, .unset] [(.ref b_1), (.int px)])) _
              refine XS.iconst X_20.here hx rfl (hb hby at_203) ?_
              show Steps p.tables e below (T_20.setTop (mkF m 204 #[.val (.int p0), .val (.int p1), .val (.int p2), .val (.int p3), .val (.int p4), .val (.int wd), .val (.int ht), .val (.int cn), .val (.int rr), .val (.ref b_1), .val (.int rg), .val (.int px), .val (.int py), .val (.ref b_15), .unset, .unset, .unset] [(.int (3 : Int32)), (.ref b_1), (.int px)])) _
              refine X_20.iaload hx (j := (3 : Int32)) (v := (.int c3)) Ar_39.1 (State.isArrayOf_alike hZ.alike Ar_39.2.1) Ar_39.2.2 (inb_of Sz_39 ⟨(by decide), (by decide)⟩) ((Hz_39 _ (own_idx (by decide) (by decide))).trans (congrArg some (rfl : (fun j => if j = (3 : Int32).toNatClampNeg then Value.int c3 else (fun j => if j = (2 : Int32).toNatClampNeg then Value.int c2 else (fun j => if j = (1 : Int32).toNatClampNeg then Value.int c1 else (fun j => if j = (0 : Int32).toNatClampNeg then Value.int c0 else (fun _ => (Value.int (0 : Int32))) j) j) j) j) (3 : Int32).toNatClampNeg = .int c3))) (g := (mkF m 204 #[.val (.int p0), .val (.int p1), .val (.int p2), .val (.int p3), .val (.int p4), .val (.int wd), .val (.int ht), .val (.int cn), .val (.int rr), .val (.ref b_1), .val (.int rg), .val (.int px), .val (.int py), .val (.ref b_15), .unset, .unset, .unset] [(.int (3 : Int32)), (.ref b_1), (.int px)])) rfl rfl (hb hby at_204) _ ?_
              show Steps p.tables e below (T_20.setTop (mkF m 205 #[.val (.int p0), .val (.int p1), .val (.int p2), .val (.int p3), .val (.int p4), .val (.int wd), .val (.int ht), .val (.int cn), .val (.int rr), .val (.ref b_1), .val (.int rg), .val (.int px), .val (.int py), .val (.ref b_15), .unset, .unset, .unset] [(.int c3), (.int px)])) _
              by_cases hj205_4 : px = c3
              · refine XS.icmpNo X_20.here hx rfl (hb hby at_205) rfl (teq hj205_4).2 ?_
                show Steps p.tables e below (T_20.setTop (mkF m 208 #[.val (.int p0), .val (.int p1), .val (.int p2), .val (.int p3), .val (.int p4), .val (.int wd), .val (.int ht), .val (.int cn), .val (.int rr), .val (.ref b_1), .val (.int rg), .val (.int px), .val (.int py), .val (.ref b_15), .unset, .unset, .unset] [])) _
                refine XS.iconst X_20.here hx rfl (hb hby at_208) ?_
                show Steps p.tables e below (T_20.setTop (mkF m 209 #[.val (.int p0), .val (.int p1), .val (.int p2), .val (.int p3), .val (.int p4), .val (.int wd), .val (.int ht), .val (.int cn), .val (.int rr), .val (.ref b_1), .val (.int rg), .val (.int px), .val (.int py), .val (.ref b_15), .unset, .unset, .unset] [(.int (1 : Int32))])) _
                refine XS.goto X_20.here hx rfl (pc0 := 209) (pc' := 213) rfl (hb hby at_209) (by decide) (by decide) ?_
                rw [← hil_, if_neg hj151_0, if_neg hj166_1, if_neg hj181_2, if_pos hj196_3, if_pos hj205_4] at kt
                exact kt
              · refine XS.icmpYes X_20.here hx rfl (pc0 := 205) (pc' := 212) rfl (hb hby at_205) rfl (feq hj205_4).2 (by decide) (by decide) ?_
                show Steps p.tables e below (T_20.setTop (mkF m 212 #[.val (.int p0), .val (.int p1), .val (.int p2), .val (.int p3), .val (.int p4), .val (.int wd), .val (.int ht), .val (.int cn), .val (.int rr), .val (.ref b_1), .val (.int rg), .val (.int px), .val (.int py), .val (.ref b_15), .unset, .unset, .unset] [])) _
                refine XS.iconst X_20.here hx rfl (hb hby at_212) ?_
                rw [← hil_, if_neg hj151_0, if_neg hj166_1, if_neg hj181_2, if_pos hj196_3, if_neg hj205_4] at kt
                exact kt
            · refine XS.icmpYes X_20.here hx rfl (pc0 := 196) (pc' := 212) rfl (hb hby at_196) rfl (flt hj196_3).2.2.2 (by decide) (by decide) ?_
              show Steps p.tables e below (T_20.setTop (mkF m 212 #[.val (.int p0), .val (.int p1), .val (.int p2), .val (.int p3), .val (.int p4), .val (.int wd), .val (.int ht), .val (.int cn), .val (.int rr), .val (.ref b_1), .val (.int rg), .val (.int px), .val (.int py), .val (.ref b_15), .unset, .unset, .unset] [])) _
              refine XS.iconst X_20.here hx rfl (hb hby at_212) ?_
              rw [← hil_, if_neg hj151_0, if_neg hj166_1, if_neg hj181_2, if_neg hj196_3] at kt
              exact kt
    refine jn149 _ ?_
    show Steps p.tables e below (T_20.setTop (mkF m 213 #[.val (.int p0), .val (.int p1), .val (.int p2), .val (.int p3), .val (.int p4), .val (.int wd), .val (.int ht), .val (.int cn), .val (.int rr), .val (.ref b_1), .val (.int rg), .val (.int px), .val (.int py), .val (.ref b_15), .unset, .unset, .unset] [(.int il)])) _
    refine XS.istore X_20.here hx rfl (hb hby at_213) rfl (l' := #[.val (.int p0), .val (.int p1), .val (.int p2), .val (.int p3), .val (.int p4), .val (.int wd), .val (.int ht), .val (.int cn), .val (.int rr), .val (.ref b_1), .val (.int rg), .val (.int px), .val (.int py), .val (.ref b_15), .val (.int il), .unset, .unset]) rfl ?_
    have jn215 : ∀ target, Steps p.tables e below (T_20.setTop (mkF m 232 #[.val (.int p0), .val (.int p1), .val (.int p2), .val (.int p3), .val (.int p4), .val (.int wd), .val (.int ht), .val (.int cn), .val (.int rr), .val (.ref b_1), .val (.int rg), .val (.int px), .val (.int py), .val (.ref b_15), .val (.int il), .unset, .unset] [(.int ht2)])) target → Steps p.tables e below (T_20.setTop (mkF m 215 #[.val (.int p0), .val (.int p1), .val (.int p2), .val (.int p3), .val (.int p4), .val (.int wd), .val (.int ht), .val (.int cn), .val (.int rr), .val (.ref b_1), .val (.int rg), .val (.int px), .val (.int py), .val (.ref b_15), .val (.int il), .unset, .unset] [])) target := by
      intro target kt
      show Steps p.tables e below (T_20.setTop (mkF m 215 #[.val (.int p0), .val (.int p1), .val (.int p2), .val (.int p3), .val (.int p4), .val (.int wd), .val (.int ht), .val (.int cn), .val (.int rr), .val (.ref b_1), .val (.int rg), .val (.int px), .val (.int py), .val (.ref b_15), .val (.int il), .unset, .unset] [])) _
      refine XS.iload X_20.here hx rfl (hb hby at_215) rfl ?_
      show Steps p.tables e below (T_20.setTop (mkF m 217 #[.val (.int p0), .val (.int p1), .val (.int p2), .val (.int p3), .val (.int p4), .val (.int wd), .val (.int ht), .val (.int cn), .val (.int rr), .val (.ref b_1), .val (.int rg), .val (.int px), .val (.int py), .val (.ref b_15), .val (.int il), .unset, .unset] [(.int py)])) _
      refine XS.iload X_20.here hx rfl (hb hby at_217) rfl ?_
      show Steps p.tables e below (T_20.setTop (mkF m 219 #[.val (.int p0), .val (.int p1), .val (.int p2), .val (.int p3), .val (.int p4), .val (.int wd), .val (.int ht), .val (.int cn), .val (.int rr), .val (.ref b_1), .val (.int rg), .val (.int px), .val (.int py), .val (.ref b_15), .val (.int il), .unset, .unset] [(.int rr), (.int py)])) _
      by_cases hj219_0 : py = rr
      · refine XS.icmpNo X_20.here hx rfl (hb hby at_219) rfl (teq hj219_0).2 ?_
        show Steps p.tables e below (T_20.setTop (mkF m 222 #[.val (.int p0), .val (.int p1), .val (.int p2), .val (.int p3), .val (.int p4), .val (.int wd), .val (.int ht), .val (.int cn), .val (.int rr), .val (.ref b_1), .val (.int rg), .val (.int px), .val (.int py), .val (.ref b_15), .val (.int il), .unset, .unset] [])) _
        refine XS.iload X_20.here hx rfl (hb hby at_222) rfl ?_
        show Steps p.tables e below (T_20.setTop (mkF m 224 #[.val (.int p0), .val (.int p1), .val (.int p2), .val (.int p3), .val (.int p4), .val (.int wd), .val (.int ht), .val (.int cn), .val (.int rr), .val (.ref b_1), .val (.int rg), .val (.int px), .val (.int py), .val (.ref b_15), .val (.int il), .unset, .unset] [(.int il)])) _
        by_cases hj224_1 : il = (0 : Int32)
        · refine XS.ifYes X_20.here hx rfl (pc0 := 224) (pc' := 231) rfl (hb hby at_224) rfl ((if0 _ _).trans (teq hj224_1).1) (by decide) (by decide) ?_
          show Steps p.tables e below (T_20.setTop (mkF m 231 #[.val (.int p0), .val (.int p1), .val (.int p2), .val (.int p3), .val (.int p4), .val (.int wd), .val (.int ht), .val (.int cn), .val (.int rr), .val (.ref b_1), .val (.int rg), .val (.int px), .val (.int py), .val (.ref b_15), .val (.int il), .unset, .unset] [])) _
          refine XS.iconst X_20.here hx rfl (hb hby at_231) ?_
          rw [← hht2_, if_pos hj219_0, if_pos hj224_1] at kt
          exact kt
        · refine XS.ifNo X_20.here hx rfl (hb hby at_224) rfl ((if0 _ _).trans (feq hj224_1).1) ?_
          show Steps p.tables e below (T_20.setTop (mkF m 227 #[.val (.int p0), .val (.int p1), .val (.int p2), .val (.int p3), .val (.int p4), .val (.int wd), .val (.int ht), .val (.int cn), .val (.int rr), .val (.ref b_1), .val (.int rg), .val (.int px), .val (.int py), .val (.ref b_15), .val (.int il), .unset, .unset] [])) _
          refine XS.iconst X_20.here hx rfl (hb hby at_227) ?_
          show Steps p.tables e below (T_20.setTop (mkF m 228 #[.val (.int p0), .val (.int p1), .val (.int p2), .val (.int p3), .val (.int p4), .val (.int wd), .val (.int ht), .val (.int cn), .val (.int rr), .val (.ref b_1), .val (.int rg), .val (.int px), .val (.int py), .val (.ref b_15), .val (.int il), .unset, .unset] [(.int (1 : Int32))])) _
          refine XS.goto X_20.here hx rfl (pc0 := 228) (pc' := 232) rfl (hb hby at_228) (by decide) (by decide) ?_
          rw [← hht2_, if_pos hj219_0, if_neg hj224_1] at kt
          exact kt
      · refine XS.icmpYes X_20.here hx rfl (pc0 := 219) (pc' := 231) rfl (hb hby at_219) rfl (feq hj219_0).2 (by decide) (by decide) ?_
        show Steps p.tables e below (T_20.setTop (mkF m 231 #[.val (.int p0), .val (.int p1), .val (.int p2), .val (.int p3), .val (.int p4), .val (.int wd), .val (.int ht), .val (.int cn), .val (.int rr), .val (.ref b_1), .val (.int rg), .val (.int px), .val (.int py), .val (.ref b_15), .val (.int il), .unset, .unset] [])) _
        refine XS.iconst X_20.here hx rfl (hb hby at_231) ?_
        rw [← hht2_, if_neg hj219_0] at kt
        exact kt
    refine jn215 _ ?_
    show Steps p.tables e below (T_20.setTop (mkF m 232 #[.val (.int p0), .val (.int p1), .val (.int p2), .val (.int p3), .val (.int p4), .val (.int wd), .val (.int ht), .val (.int cn), .val (.int rr), .val (.ref b_1), .val (.int rg), .val (.int px), .val (.int py), .val (.ref b_15), .val (.int il), .unset, .unset] [(.int ht2)])) _
    refine XS.istore X_20.here hx rfl (hb hby at_232) rfl (l' := #[.val (.int p0), .val (.int p1), .val (.int p2), .val (.int p3), .val (.int p4), .val (.int wd), .val (.int ht), .val (.int cn), .val (.int rr), .val (.ref b_1), .val (.int rg), .val (.int px), .val (.int py), .val (.ref b_15), .val (.int il), .val (.int ht2), .unset]) rfl ?_
    show Steps p.tables e below (T_20.setTop (mkF m 234 #[.val (.int p0), .val (.int p1), .val (.int p2), .val (.int p3), .val (.int p4), .val (.int wd), .val (.int ht), .val (.int cn), .val (.int rr), .val (.ref b_1), .val (.int rg), .val (.int px), .val (.int py), .val (.ref b_15), .val (.int il), .val (.int ht2), .unset] [])) _
    refine XS.iload X_20.here hx rfl (hb hby at_234) rfl ?_
    have jn236 : ∀ target, Steps p.tables e below (T_20.setTop (mkF m 249 #[.val (.int p0), .val (.int p1), .val (.int p2), .val (.int p3), .val (.int p4), .val (.int wd), .val (.int ht), .val (.int cn), .val (.int rr), .val (.ref b_1), .val (.int rg), .val (.int px), .val (.int py), .val (.ref b_15), .val (.int il), .val (.int ht2), .unset] [(.int ex)])) target → Steps p.tables e below (T_20.setTop (mkF m 236 #[.val (.int p0), .val (.int p1), .val (.int p2), .val (.int p3), .val (.int p4), .val (.int wd), .val (.int ht), .val (.int cn), .val (.int rr), .val (.ref b_1), .val (.int rg), .val (.int px), .val (.int py), .val (.ref b_15), .val (.int il), .val (.int ht2), .unset] [(.int ht2)])) target := by
      intro target kt
      show Steps p.tables e below (T_20.setTop (mkF m 236 #[.val (.int p0), .val (.int p1), .val (.int p2), .val (.int p3), .val (.int p4), .val (.int wd), .val (.int ht), .val (.int cn), .val (.int rr), .val (.ref b_1), .val (.int rg), .val (.int px), .val (.int py), .val (.ref b_15), .val (.int il), .val (.int ht2), .unset] [(.int ht2)])) _
      by_cases hj236_0 : ht2 = (0 : Int32)
      · refine XS.ifYes X_20.here hx rfl (pc0 := 236) (pc' := 247) rfl (hb hby at_236) rfl ((if0 _ _).trans (teq hj236_0).1) (by decide) (by decide) ?_
        show Steps p.tables e below (T_20.setTop (mkF m 247 #[.val (.int p0), .val (.int p1), .val (.int p2), .val (.int p3), .val (.int p4), .val (.int wd), .val (.int ht), .val (.int cn), .val (.int rr), .val (.ref b_1), .val (.int rg), .val (.int px), .val (.int py), .val (.ref b_15), .val (.int il), .val (.int ht2), .unset] [])) _
        refine X_20.ldcInt hx hown (mvT hZ (hw _ (List.mem_of_getElem? (i := 27) rfl))) (g := (mkF m 247 #[.val (.int p0), .val (.int p1), .val (.int p2), .val (.int p3), .val (.int p4), .val (.int wd), .val (.int ht), .val (.int cn), .val (.int rr), .val (.ref b_1), .val (.int rg), .val (.int px), .val (.int py), .val (.ref b_15), .val (.int il), .val (.int ht2), .unset] [])) rfl (hb hby at_247) _ ?_
        rw [← hex_, if_pos hj236_0] at kt
        exact kt
      · refine XS.ifNo X_20.here hx rfl (hb hby at_236) rfl ((if0 _ _).trans (feq hj236_0).1) ?_
        show Steps p.tables e below (T_20.setTop (mkF m 239 #[.val (.int p0), .val (.int p1), .val (.int p2), .val (.int p3), .val (.int p4), .val (.int wd), .val (.int ht), .val (.int cn), .val (.int rr), .val (.ref b_1), .val (.int rg), .val (.int px), .val (.int py), .val (.ref b_15), .val (.int il), .val (.int ht2), .unset] [])) _
        refine X_20.ldcInt hx hown (mvT hZ (hw _ (List.mem_of_getElem? (i := 27) rfl))) (g := (mkF m 239 #[.val (.int p0), .val (.int p1), .val (.int p2), .val (.int p3), .val (.int p4), .val (.int wd), .val (.int ht), .val (.int cn), .val (.int rr), .val (.ref b_1), .val (.int rg), .val (.int px), .val (.int py), .val (.ref b_15), .val (.int il), .val (.int ht2), .unset] [])) rfl (hb hby at_239) _ ?_
        show Steps p.tables e below (T_20.setTop (mkF m 241 #[.val (.int p0), .val (.int p1), .val (.int p2), .val (.int p3), .val (.int p4), .val (.int wd), .val (.int ht), .val (.int cn), .val (.int rr), .val (.ref b_1), .val (.int rg), .val (.int px), .val (.int py), .val (.ref b_15), .val (.int il), .val (.int ht2), .unset] [(.int (-16777216 : Int32))])) _
        refine XS.iload X_20.here hx rfl (hb hby at_241) rfl ?_
        show Steps p.tables e below (T_20.setTop (mkF m 243 #[.val (.int p0), .val (.int p1), .val (.int p2), .val (.int p3), .val (.int p4), .val (.int wd), .val (.int ht), .val (.int cn), .val (.int rr), .val (.ref b_1), .val (.int rg), .val (.int px), .val (.int py), .val (.ref b_15), .val (.int il), .val (.int ht2), .unset] [(.int rg), (.int (-16777216 : Int32))])) _
        refine XS.ior X_20.here hx rfl (hb hby at_243) rfl ?_
        show Steps p.tables e below (T_20.setTop (mkF m 244 #[.val (.int p0), .val (.int p1), .val (.int p2), .val (.int p3), .val (.int p4), .val (.int wd), .val (.int ht), .val (.int cn), .val (.int rr), .val (.ref b_1), .val (.int rg), .val (.int px), .val (.int py), .val (.ref b_15), .val (.int il), .val (.int ht2), .unset] [(.int ((-16777216 : Int32) ||| rg))])) _
        refine XS.goto X_20.here hx rfl (pc0 := 244) (pc' := 249) rfl (hb hby at_244) (by decide) (by decide) ?_
        rw [← hex_, if_neg hj236_0] at kt
        exact kt
    refine jn236 _ ?_
    show Steps p.tables e below (T_20.setTop (mkF m 249 #[.val (.int p0), .val (.int p1), .val (.int p2), .val (.int p3), .val (.int p4), .val (.int wd), .val (.int ht), .val (.int cn), .val (.int rr), .val (.ref b_1), .val (.int rg), .val (.int px), .val (.int py), .val (.ref b_15), .val (.int il), .val (.int ht2), .unset] [(.int ex)])) _
    refine XS.istore X_20.here hx rfl (hb hby at_249) rfl (l' := #[.val (.int p0), .val (.int p1), .val (.int p2), .val (.int p3), .val (.int p4), .val (.int wd), .val (.int ht), .val (.int cn), .val (.int rr), .val (.ref b_1), .val (.int rg), .val (.int px), .val (.int py), .val (.ref b_15), .val (.int il), .val (.int ht2), .val (.int ex)]) rfl ?_
    show Steps p.tables e below (T_20.setTop (mkF m 251 #[.val (.int p0), .val (.int p1), .val (.int p2), .val (.int p3), .val (.int p4), .val (.int wd), .val (.int ht), .val (.int cn), .val (.int rr), .val (.ref b_1), .val (.int rg), .val (.int px), .val (.int py), .val (.ref b_15), .val (.int il), .val (.int ht2), .val (.int ex)] [])) _
    refine XS.aload X_20.here hx rfl (hb hby at_251) rfl rfl ?_
    show Steps p.tables e below (T_20.setTop (mkF m 253 #[.val (.int p0), .val (.int p1), .val (.int p2), .val (.int p3), .val (.int p4), .val (.int wd), .val (.int ht), .val (.int cn), .val (.int rr), .val (.ref b_1), .val (.int rg), .val (.int px), .val (.int py), .val (.ref b_15), .val (.int il), .val (.int ht2), .val (.int ex)] [(.ref b_15)])) _
    refine XS.iload X_20.here hx rfl (hb hby at_253) rfl ?_
    show Steps p.tables e below (T_20.setTop (mkF m 255 #[.val (.int p0), .val (.int p1), .val (.int p2), .val (.int p3), .val (.int p4), .val (.int wd), .val (.int ht), .val (.int cn), .val (.int rr), .val (.ref b_1), .val (.int rg), .val (.int px), .val (.int py), .val (.ref b_15), .val (.int il), .val (.int ht2), .val (.int ex)] [(.int px), (.ref b_15)])) _
    refine XS.iload X_20.here hx rfl (hb hby at_255) rfl ?_
    show Steps p.tables e below (T_20.setTop (mkF m 257 #[.val (.int p0), .val (.int p1), .val (.int p2), .val (.int p3), .val (.int p4), .val (.int wd), .val (.int ht), .val (.int cn), .val (.int rr), .val (.ref b_1), .val (.int rg), .val (.int px), .val (.int py), .val (.ref b_15), .val (.int il), .val (.int ht2), .val (.int ex)] [(.int py), (.int px), (.ref b_15)])) _
    refine st_40.trans ?_
    show Steps p.tables e below (T_40.setTop (mkF m 260 #[.val (.int p0), .val (.int p1), .val (.int p2), .val (.int p3), .val (.int p4), .val (.int wd), .val (.int ht), .val (.int cn), .val (.int rr), .val (.ref b_1), .val (.int rg), .val (.int px), .val (.int py), .val (.ref b_15), .val (.int il), .val (.int ht2), .val (.int ex)] [(.int ((-16777216 : Int32) ||| xv))])) _
    refine XS.iload X_40.here hx rfl (hb hby at_260) rfl ?_
    show Steps p.tables e below (T_40.setTop (mkF m 262 #[.val (.int p0), .val (.int p1), .val (.int p2), .val (.int p3), .val (.int p4), .val (.int wd), .val (.int ht), .val (.int cn), .val (.int rr), .val (.ref b_1), .val (.int rg), .val (.int px), .val (.int py), .val (.ref b_15), .val (.int il), .val (.int ht2), .val (.int ex)] [(.int ex), (.int ((-16777216 : Int32) ||| xv))])) _
    refine XS.icmpNo X_40.here hx rfl (hb hby at_262) rfl (teq hc262).2 ?_
    show Steps p.tables e below (T_40.setTop (mkF m 265 #[.val (.int p0), .val (.int p1), .val (.int p2), .val (.int p3), .val (.int p4), .val (.int wd), .val (.int ht), .val (.int cn), .val (.int rr), .val (.ref b_1), .val (.int rg), .val (.int px), .val (.int py), .val (.ref b_15), .val (.int il), .val (.int ht2), .val (.int ex)] [])) _
    refine XS.iconst X_40.here hx rfl (hb hby at_265) ?_
    show Steps p.tables e below (T_40.setTop (mkF m 266 #[.val (.int p0), .val (.int p1), .val (.int p2), .val (.int p3), .val (.int p4), .val (.int wd), .val (.int ht), .val (.int cn), .val (.int rr), .val (.ref b_1), .val (.int rg), .val (.int px), .val (.int py), .val (.ref b_15), .val (.int il), .val (.int ht2), .val (.int ex)] [(.int (1 : Int32))])) _
    refine XS.goto X_40.here hx rfl (pc0 := 266) (pc' := 270) rfl (hb hby at_266) (by decide) (by decide) ?_
    show Steps p.tables e below (T_40.setTop (mkF m 270 #[.val (.int p0), .val (.int p1), .val (.int p2), .val (.int p3), .val (.int p4), .val (.int wd), .val (.int ht), .val (.int cn), .val (.int rr), .val (.ref b_1), .val (.int rg), .val (.int px), .val (.int py), .val (.ref b_15), .val (.int il), .val (.int ht2), .val (.int ex)] [(.int (1 : Int32))])) _
    exact retN X_40 hx (t := .boolean) Bd.returns (by simp) (hb hby at_270) hr
  · show Q0 Z  h0 n0 _ T_40.heap _
    rw [eq_40]
    exact ⟨rfl, N_40⟩
theorem own_il (cn px c0 c1 c2 c3 il : Int32) (h : (if (0 : Int32) < cn then (if px = c0 then (1 : Int32) else (if (1 : Int32) < cn then (if px = c1 then (1 : Int32) else (if (2 : Int32) < cn then (if px = c2 then (1 : Int32) else (if (3 : Int32) < cn then (if px = c3 then (1 : Int32) else (0 : Int32)) else (0 : Int32))) else (if (3 : Int32) < cn then (if px = c3 then (1 : Int32) else (0 : Int32)) else (0 : Int32)))) else (if (2 : Int32) < cn then (if px = c2 then (1 : Int32) else (if (3 : Int32) < cn then (if px = c3 then (1 : Int32) else (0 : Int32)) else (0 : Int32))) else (if (3 : Int32) < cn then (if px = c3 then (1 : Int32) else (0 : Int32)) else (0 : Int32))))) else (if (1 : Int32) < cn then (if px = c1 then (1 : Int32) else (if (2 : Int32) < cn then (if px = c2 then (1 : Int32) else (if (3 : Int32) < cn then (if px = c3 then (1 : Int32) else (0 : Int32)) else (0 : Int32))) else (if (3 : Int32) < cn then (if px = c3 then (1 : Int32) else (0 : Int32)) else (0 : Int32)))) else (if (2 : Int32) < cn then (if px = c2 then (1 : Int32) else (if (3 : Int32) < cn then (if px = c3 then (1 : Int32) else (0 : Int32)) else (0 : Int32))) else (if (3 : Int32) < cn then (if px = c3 then (1 : Int32) else (0 : Int32)) else (0 : Int32))))) = il) : (il = 1 ↔ (((0 : Int32) < cn ∧ px = c0) ∨ ((1 : Int32) < cn ∧ px = c1) ∨ ((2 : Int32) < cn ∧ px = c2) ∨ ((3 : Int32) < cn ∧ px = c3))) ∧ (il = 0 ∨ il = 1) := by
  subst h
  (repeat' split) <;> simp_all [-Int32.not_lt]
set_option maxRecDepth 65536 in
set_option maxHeartbeats 4000000 in
theorem rm0w (l : Launch) (Z : State) (a0 : Array Value) (hw : ∀ d ∈ tables_1, d.before a0 Z = true) (ws : List Jvm.Cond) (p0 p1 p2 p3 p4 : Int32) (h0 : Heap) (n0 : Nat) (Z0 : n0 ≤ h0.size) :
    MetFree l x (head1 (Jvm.Cond.code x code maxLocals ret :: ws) room_1) (fun a U => a = #[(.int p0), (.int p1), (.int p2), (.int p3), (.int p4)] ∧ Z.Warmed39 U.vm ∧ U.heap = h0) (fun _ _ _ _ _ => True) (fun _ U o U' => ∃ v L, o = .returned v ∧ Q0 Z h0 n0 v U'.heap L ∧ FrameEnd U o U' L 3 71) := by
  obtain ⟨wd, hwd_⟩ : ∃ z, ((1 : Int32) + (p0 &&& (7 : Int32))) = z := ⟨_, rfl⟩
  obtain ⟨ht, hht_⟩ : ∃ z, ((1 : Int32) + (((p0.toUInt32 >>> ((3 : Int32) &&& 31).toUInt32).toInt32) &&& (7 : Int32))) = z := ⟨_, rfl⟩
  obtain ⟨cn, hcn_⟩ : ∃ z, ((((p0.toUInt32 >>> ((6 : Int32) &&& 31).toUInt32).toInt32) &&& (7 : Int32)) % (5 : Int32)) = z := ⟨_, rfl⟩
  obtain ⟨rr, hrw_⟩ : ∃ z, ((p1 &&& (2147483647 : Int32)) % ht) = z := ⟨_, rfl⟩
  obtain ⟨c0, hc0_⟩ : ∃ z, ((p2 &&& (7 : Int32)) % wd) = z := ⟨_, rfl⟩
  obtain ⟨c1, hc1_⟩ : ∃ z, ((((p2.toUInt32 >>> ((3 : Int32) &&& 31).toUInt32).toInt32) &&& (7 : Int32)) % wd) = z := ⟨_, rfl⟩
  obtain ⟨c2, hc2_⟩ : ∃ z, ((((p2.toUInt32 >>> ((6 : Int32) &&& 31).toUInt32).toInt32) &&& (7 : Int32)) % wd) = z := ⟨_, rfl⟩
  obtain ⟨c3, hc3_⟩ : ∃ z, ((((p2.toUInt32 >>> ((9 : Int32) &&& 31).toUInt32).toInt32) &&& (7 : Int32)) % wd) = z := ⟨_, rfl⟩
  obtain ⟨rg, hrg_⟩ : ∃ z, (p3 &&& (16777215 : Int32)) = z := ⟨_, rfl⟩
  obtain ⟨px, hpx_⟩ : ∃ z, ((p4 &&& (7 : Int32)) % wd) = z := ⟨_, rfl⟩
  obtain ⟨py, hpy_⟩ : ∃ z, ((((p4.toUInt32 >>> ((3 : Int32) &&& 31).toUInt32).toInt32) &&& (7 : Int32)) % ht) = z := ⟨_, rfl⟩
  obtain ⟨np, hnp_⟩ : ∃ z, (wd * ht) = z := ⟨_, rfl⟩
  obtain ⟨bs, hbs_⟩ : ∃ z, (rr * wd) = z := ⟨_, rfl⟩
  obtain ⟨u0, he0_⟩ : ∃ z, (bs + c0) = z := ⟨_, rfl⟩
  obtain ⟨u1, he1_⟩ : ∃ z, (bs + c1) = z := ⟨_, rfl⟩
  obtain ⟨u2, he2_⟩ : ∃ z, (bs + c2) = z := ⟨_, rfl⟩
  obtain ⟨u3, he3_⟩ : ∃ z, (bs + c3) = z := ⟨_, rfl⟩
  obtain ⟨ee, he_⟩ : ∃ z, ((py * wd) + px) = z := ⟨_, rfl⟩
  obtain ⟨il, hil_⟩ : ∃ z, (if (0 : Int32) < cn then (if px = c0 then (1 : Int32) else (if (1 : Int32) < cn then (if px = c1 then (1 : Int32) else (if (2 : Int32) < cn then (if px = c2 then (1 : Int32) else (if (3 : Int32) < cn then (if px = c3 then (1 : Int32) else (0 : Int32)) else (0 : Int32))) else (if (3 : Int32) < cn then (if px = c3 then (1 : Int32) else (0 : Int32)) else (0 : Int32)))) else (if (2 : Int32) < cn then (if px = c2 then (1 : Int32) else (if (3 : Int32) < cn then (if px = c3 then (1 : Int32) else (0 : Int32)) else (0 : Int32))) else (if (3 : Int32) < cn then (if px = c3 then (1 : Int32) else (0 : Int32)) else (0 : Int32))))) else (if (1 : Int32) < cn then (if px = c1 then (1 : Int32) else (if (2 : Int32) < cn then (if px = c2 then (1 : Int32) else (if (3 : Int32) < cn then (if px = c3 then (1 : Int32) else (0 : Int32)) else (0 : Int32))) else (if (3 : Int32) < cn then (if px = c3 then (1 : Int32) else (0 : Int32)) else (0 : Int32)))) else (if (2 : Int32) < cn then (if px = c2 then (1 : Int32) else (if (3 : Int32) < cn then (if px = c3 then (1 : Int32) else (0 : Int32)) else (0 : Int32))) else (if (3 : Int32) < cn then (if px = c3 then (1 : Int32) else (0 : Int32)) else (0 : Int32))))) = z := ⟨_, rfl⟩
  obtain ⟨ht2, hht2_⟩ : ∃ z, (if py = rr then (if il = (0 : Int32) then (0 : Int32) else (1 : Int32)) else (0 : Int32)) = z := ⟨_, rfl⟩
  obtain ⟨ex, hex_⟩ : ∃ z, (if ht2 = (0 : Int32) then (-16777216 : Int32) else ((-16777216 : Int32) ||| rg)) = z := ⟨_, rfl⟩
  obtain ⟨l1, l2⟩ := own_il cn px c0 c1 c2 c3 il hil_
  obtain ⟨f1, f2, f3, f4, f5, f6, f7, f8, f9, f10, f11, f12, f13, f14⟩ := own_law p0 p1 p2 p3 p4 wd ht cn rr c0 c1 c2 c3 rg px py np bs u0 u1 u2 u3 _ ee il ht2 ex _ _ _ _ _ _ hwd_ hht_ hcn_ hrw_ hc0_ hc1_ hc2_ hc3_ hpx_ hpy_ hnp_ hbs_ he0_ he1_ he2_ he3_ rfl he_ l1 l2 hht2_ hex_
  exact rm0 l Z a0 hw ws p0 p1 p2 p3 p4 wd ht cn rr c0 c1 c2 c3 rg px py np bs u0 u1 u2 u3 ee (own_px cn u0 u1 u2 u3 rg ee.toNatClampNeg) il ht2 ex h0 n0 Z0 hnp_ f3 f4 f5 hbs_ f6 he0_ f7.1 f7.2 he1_ f8.1 f8.2 he2_ f9.1 f9.2 he3_ f10.1 f10.2 f11.1 f11.2 f12.1 f12.2 he_ f13.1 f13.2 rfl hwd_ hht_ hcn_ f1 hrw_ f2 hc0_ f2 hc1_ f2 hc2_ f2 hc3_ hrg_ f2 hpx_ f1 hpy_ hil_ hht2_ hex_ f14
set_option maxRecDepth 65536 in
set_option maxHeartbeats 40000000 in
theorem comes_1 {Post : Tables → Env → Array Value → State → Outcome → State → Prop} (hpost : ∀ tb e args s v u, (limb_1_1.after args s (.returned v) u = true ∧ limb_1_2.after args s (.returned v) u = true ∧ True) → FrameEnd s (.returned v) u (Jvm.fieldLocs frame_1_writes args s ++ Jvm.arrayLocs frame_1_arrays args s ++ Jvm.staticLocs frame_1_statics s) 16 256 → Post tb e args s (.returned v) u) :
    ArmFor flags0 classFile x code maxLocals ret World_1 tables_1 room_1 Calls_1 rest_1 Pre_1 Post := by
  intro l hfl _ _ p e ha hc hk s m args below hf hA hF happ hP
  obtain ⟨hcalls, hrest, hpre⟩ := hP
  obtain ⟨-, -, -, hnamed, -, -, -, hat⟩ := (Spec.applies_iff hf).mp happ
  obtain ⟨hg, hn⟩ := and_e (Cond.before_iff.mp (show (Jvm.Cond.and given_1 narrow_1).before args s = true from hpre))
  obtain ⟨g1, hg⟩ := and_e hg
  obtain ⟨g2, hg⟩ := and_e hg
  obtain ⟨g3, hg⟩ := and_e hg
  obtain ⟨g4, hg⟩ := and_e hg
  obtain ⟨g5, hg⟩ := and_e hg
  obtain ⟨w0, w1, w2, w3, w4, rfl⟩ : ∃ w0 w1 w2 w3 w4 : Value, args = #[w0, w1, w2, w3, w4] := by
    have hs : args.size = 5 := by simpa [Cond.value, given_1] using g1
    obtain ⟨L⟩ := args
    match L, hs with
    | [w0, w1, w2, w3, w4], _ => exact ⟨w0, w1, w2, w3, w4, rfl⟩
  have hw := fun d (hd : d ∈ tables_1) => atoms_spec (ws := Jvm.Cond.code x code maxLocals ret :: tables_1) hat d (List.mem_cons_of_mem _ hd)
  obtain ⟨i0, ei0⟩ := is_v g2
  obtain rfl : w0 = (.int i0) := Option.some.inj ei0
  obtain ⟨i1, ei1⟩ := is_v g3
  obtain rfl : w1 = (.int i1) := Option.some.inj ei1
  obtain ⟨i2, ei2⟩ := is_v g4
  obtain rfl : w2 = (.int i2) := Option.some.inj ei2
  obtain ⟨i3, ei3⟩ := is_v g5
  obtain rfl : w3 = (.int i3) := Option.some.inj ei3
  obtain ⟨i4, ei4⟩ := is_v hg
  obtain rfl : w4 = (.int i4) := Option.some.inj ei4

  obtain ⟨n, o, h1, h2, h3, _, L, rfl, ⟨rfl, N⟩, hq⟩ := rm0w l s _ hw tables_1 i0 i1 i2 i3 i4 s.heap s.heap.size (Nat.le_refl _) p e ha hc hk s m _ below hf ((Spec.applies_iff_loose hf).mp happ).1 ⟨rfl, State.Warmed39.refl s, rfl⟩ trivial
  refine ⟨n, _, h1, h2, h3, hpost _ _ _ _ _ _ ⟨Cond.after_iff.mpr rfl, Cond.after_iff.mpr (eq_i res_at (Term.int_eval (1)) rfl), trivial⟩ ⟨hq.1, hq.2.1, (hq.2.2.sift fun y hy => Or.inr (N y hy)).mono (by decide) (by decide)⟩⟩
theorem main_1_1 : Claimed_1_1 := comes_1 fun _ _ _ _ _ _ h hF => ⟨h.1, hF⟩
theorem main_1_2 : Claimed_1_2 := comes_1 fun _ _ _ _ _ _ h hF => ⟨h.2.1, hF⟩
end Jvm.Pilot.@@N@@
namespace Jvm.Pilot.@@N@@
open Jvm Jvm.ClassFile Sem Op Lib Jvm.Free Jvm.Stand Jvm.Pilot.@@N@@.Jvm.D
/-! MADE BY PROGRAM (witnessworld.py) out of the Statement's table words and the real class files: 11 classes; the members and pool entries that the words name. The judged class is class 1, her method 1. -/
namespace start1
open Jvm.ClassFile
def u (s : String) : CpInfo := .utf8 (stringToUtf16 s)
/-- a pool by its gaps: so many unusable entries, then the entry; so many at the end -/
def gap : Nat → List CpInfo → List CpInfo
  | 0, r => r
  | n + 1, r => .unusable :: gap n r
def poolList (es : List (Nat × CpInfo)) (last : Nat) : List CpInfo := es.foldr (fun e r => gap e.1 (e.2 :: r)) (gap last [])
def pool (es : List (Nat × CpInfo)) (last : Nat) : Array CpInfo := ⟨poolList es last⟩
def fileOf (pool : Array CpInfo) (this : Nat) (attrs : Array Attribute := #[]) (ms : Array MethodInfo := #[]) (fl : Nat := 33) (sup : Nat := 0) (ifs : Array Nat := #[]) (fds : Array FieldInfo := #[]) : ClassFile where
  minorVersion := 0
  majorVersion := 65
  constantPool := pool
  accessFlags := fl
  thisClass := this
  superClass := sup
  interfaces := ifs
  fields := fds
  methods := ms
  attributes := attrs
def plain (name : String) (sup : Option ClassId) : Class where
  name := name
  kind := .ordinary
  loader := none
  accessFlags := 33
  super := sup
  interfaces := #[]
  cf := none
  fields := #[]
  methods := #[]
  instanceTypes := #[]
  staticTypes := #[]
  resolved := #[]
  callSites := []
  init := .initialized
  statics := none
  mirror := none

def pool0 : Array CpInfo := pool [(5, u "<init>"), (0, u "()V"), (1, .class_ 10), (1, u "java/lang/Object")] 113

def k0c0 : Code := { maxStack := 0, maxLocals := 1, code := object_method_1_code, exceptionTable := #[], attributes := #[] }
def k0m0 : Method := { name := "<init>", desc := "()V", sig := { parameters := [], returnType := none }, accessFlags := 1, code := some k0c0 }
/-- java/lang/Object -/
def k0 : Class := { plain "java/lang/Object" none with
  accessFlags := 33
  interfaces := #[]
  cf := some (fileOf pool0 8 #[] #[{ accessFlags := 1, nameIndex := 5, descriptorIndex := 6, attributes := #[] }] 33 0 #[] #[])
  fields := #[]
  methods := #[k0m0]
  instanceTypes := #[]
  staticTypes := #[]
  resolved := Array.replicate 124 none
  statics := none }

def pool1 : Array CpInfo := pool [(2, .class_ 4), (1, u "java/lang/Object"), (0, u "<init>"), (0, u "()V"), (0, .integer 2147483647), (0, .integer 16777215), (0, .class_ 10), (0, u "featherpane/Surface"), (0, .methodref 9 12), (0, .nameAndType 5 13), (0, u "(II)V"), (0, .methodref 9 15), (0, .nameAndType 16 17), (0, u "fillPixels"), (0, u "(I[III)V"), (0, .integer 4278190080), (0, .methodref 9 20), (0, .nameAndType 21 22), (0, u "getRGB"), (0, u "(II)I"), (0, .class_ 24), (0, u "featherpane/SurfaceFillPixelsPinLaw"), (2, u "law"), (0, u "(IIIII)Z")] 5

def k1m0 : Method := { name := "<init>", desc := "()V", sig := { parameters := [], returnType := none }, accessFlags := 1, code := none }
def k1c1 : Code := { maxStack := 5, maxLocals := 17, code := code, exceptionTable := #[], attributes := #[] }
def k1m1 : Method := { name := "law", desc := "(IIIII)Z", sig := { parameters := [.int, .int, .int, .int, .int], returnType := some .boolean }, accessFlags := 9, code := some k1c1 }
/-- featherpane/SurfaceFillPixelsPinLaw -/
def k1 : Class := { plain "featherpane/SurfaceFillPixelsPinLaw" (some 0) with
  accessFlags := 49
  interfaces := #[]
  cf := some (fileOf pool1 23 #[] #[{ accessFlags := 1, nameIndex := 5, descriptorIndex := 6, attributes := #[] }, { accessFlags := 9, nameIndex := 27, descriptorIndex := 28, attributes := #[] }] 49 2 #[] #[])
  fields := #[]
  methods := #[k1m0, k1m1]
  instanceTypes := #[]
  staticTypes := #[]
  resolved := Array.replicate 34 none
  statics := none }

def pool2 : Array CpInfo := pool [(1, .methodref 2 3), (0, .class_ 4), (0, .nameAndType 5 6), (0, u "java/lang/Object"), (0, u "<init>"), (0, u "()V"), (0, .methodref 8 9), (0, .class_ 10), (0, .nameAndType 11 12), (0, u "featherpane/Surface"), (0, u "isValidSize"), (0, u "(II)Z"), (9, .fieldref 8 23), (0, .nameAndType 24 25), (0, u "width"), (0, u "I"), (0, .fieldref 8 27), (0, .nameAndType 28 25), (0, u "height"), (0, .fieldref 8 30), (0, .nameAndType 31 32), (0, u "pixels"), (0, u "[I"), (0, .long 268435456), (1, .methodref 36 37), (0, .class_ 38), (0, .nameAndType 39 40), (0, u "java/util/Objects"), (0, u "checkIndex"), (0, u "(II)I"), (0, .integer 4278190080), (17, u "MAX_PIXELS"), (2, u "(II)V"), (6, u "getRGB"), (8, u "fillPixels"), (0, u "(I[III)V")] 18

def k2c0 : Code := { maxStack := 4, maxLocals := 3, code := prog_69_method_1_code, exceptionTable := #[], attributes := #[] }
def k2m0 : Method := { name := "<init>", desc := "(II)V", sig := { parameters := [.int, .int], returnType := none }, accessFlags := 1, code := some k2c0 }
def k2c1 : Code := { maxStack := 4, maxLocals := 2, code := prog_69_method_2_code, exceptionTable := #[], attributes := #[] }
def k2m1 : Method := { name := "isValidSize", desc := "(II)Z", sig := { parameters := [.int, .int], returnType := some .boolean }, accessFlags := 9, code := some k2c1 }
def k2c2 : Code := { maxStack := 4, maxLocals := 3, code := prog_69_method_5_code, exceptionTable := #[], attributes := #[] }
def k2m2 : Method := { name := "getRGB", desc := "(II)I", sig := { parameters := [.int, .int], returnType := some .int }, accessFlags := 1, code := some k2c2 }
def k2c3 : Code := { maxStack := 4, maxLocals := 7, code := prog_69_method_9_code, exceptionTable := #[], attributes := #[] }
def k2m3 : Method := { name := "fillPixels", desc := "(I[III)V", sig := { parameters := [.int, (.array .int), .int, .int], returnType := none }, accessFlags := 0, code := some k2c3 }
/-- featherpane/Surface -/
def k2 : Class := { plain "featherpane/Surface" (some 0) with
  accessFlags := 49
  interfaces := #[]
  cf := some (fileOf pool2 8 #[] #[{ accessFlags := 1, nameIndex := 5, descriptorIndex := 62, attributes := #[] }, { accessFlags := 9, nameIndex := 11, descriptorIndex := 12, attributes := #[] }, { accessFlags := 1, nameIndex := 69, descriptorIndex := 40, attributes := #[] }, { accessFlags := 0, nameIndex := 78, descriptorIndex := 79, attributes := #[] }] 49 2 #[] #[{ accessFlags := 25, nameIndex := 59, descriptorIndex := 25, attributes := #[] }, { accessFlags := 18, nameIndex := 24, descriptorIndex := 25, attributes := #[] }, { accessFlags := 18, nameIndex := 28, descriptorIndex := 25, attributes := #[] }, { accessFlags := 18, nameIndex := 31, descriptorIndex := 32, attributes := #[] }])
  fields := #[{ name := "MAX_PIXELS", type := .int, accessFlags := 25, slot := 0, constantValue := 0 }, { name := "width", type := .int, accessFlags := 18, slot := 0, constantValue := 0 }, { name := "height", type := .int, accessFlags := 18, slot := 1, constantValue := 0 }, { name := "pixels", type := (.array .int), accessFlags := 18, slot := 2, constantValue := 0 }]
  methods := #[k2m0, k2m1, k2m2, k2m3]
  instanceTypes := #[.int, .int, (.array .int)]
  staticTypes := #[.int]
  resolved := Array.replicate 98 none
  statics := none }

def pool3 : Array CpInfo := pool [(2, .class_ 4), (1, u "java/lang/Object"), (0, u "<init>"), (0, u "()V"), (35, .class_ 44), (1, u "java/util/Objects"), (60, .methodref 106 107), (0, .class_ 108), (0, .nameAndType 109 110), (0, u "jdk/internal/util/Preconditions"), (0, u "checkIndex"), (0, u "(IILjava/util/function/BiFunction;)I"), (60, u "(II)I")] 12

def k3m0 : Method := { name := "<init>", desc := "()V", sig := { parameters := [], returnType := none }, accessFlags := 2, code := none }
def k3c1 : Code := { maxStack := 3, maxLocals := 2, code := jdk_31_method_17_code, exceptionTable := #[], attributes := #[] }
def k3m1 : Method := { name := "checkIndex", desc := "(II)I", sig := { parameters := [.int, .int], returnType := some .int }, accessFlags := 9, code := some k3c1 }
/-- java/util/Objects -/
def k3 : Class := { plain "java/util/Objects" (some 0) with
  accessFlags := 49
  interfaces := #[]
  cf := some (fileOf pool3 42 #[] #[{ accessFlags := 2, nameIndex := 5, descriptorIndex := 6, attributes := #[] }, { accessFlags := 9, nameIndex := 109, descriptorIndex := 171, attributes := #[] }] 49 2 #[] #[])
  fields := #[]
  methods := #[k3m0, k3m1]
  instanceTypes := #[]
  staticTypes := #[]
  resolved := Array.replicate 184 none
  statics := none }

def pool4 : Array CpInfo := pool [(2, .class_ 4), (1, u "java/lang/Object"), (0, u "<init>"), (0, u "()V"), (17, .class_ 26), (1, u "jdk/internal/util/Preconditions"), (6, u "checkIndex"), (21, .class_ 56), (0, u "jdk/internal/util/Preconditions$4"), (57, .class_ 115), (0, u "jdk/internal/util/Preconditions$1"), (7, u "SIOOBE_FORMATTER"), (0, u "Ljava/util/function/BiFunction;"), (0, .class_ 126), (0, u "jdk/internal/util/Preconditions$2"), (3, u "AIOOBE_FORMATTER"), (0, .class_ 132), (0, u "jdk/internal/util/Preconditions$3"), (3, u "IOOBE_FORMATTER"), (41, u "(IILjava/util/function/BiFunction;)I")] 15

def k4m0 : Method := { name := "<init>", desc := "()V", sig := { parameters := [], returnType := none }, accessFlags := 1, code := none }
def k4c1 : Code := { maxStack := 3, maxLocals := 3, code := jdk_41_method_11_code, exceptionTable := #[], attributes := #[] }
def k4m1 : Method := { name := "checkIndex", desc := "(IILjava/util/function/BiFunction;)I", sig := { parameters := [.int, .int, (.object "java/util/function/BiFunction")], returnType := some .int }, accessFlags := 9, code := some k4c1 }
/-- jdk/internal/util/Preconditions -/
def k4 : Class := { plain "jdk/internal/util/Preconditions" (some 0) with
  accessFlags := 33
  interfaces := #[]
  cf := some (fileOf pool4 24 #[.nestMembers #[55, 131, 125, 114]] #[{ accessFlags := 1, nameIndex := 5, descriptorIndex := 6, attributes := #[] }, { accessFlags := 9, nameIndex := 33, descriptorIndex := 178, attributes := #[] }] 33 2 #[] #[{ accessFlags := 25, nameIndex := 123, descriptorIndex := 124, attributes := #[] }, { accessFlags := 25, nameIndex := 130, descriptorIndex := 124, attributes := #[] }, { accessFlags := 25, nameIndex := 136, descriptorIndex := 124, attributes := #[] }])
  fields := #[{ name := "SIOOBE_FORMATTER", type := (.object "java/util/function/BiFunction"), accessFlags := 25, slot := 0, constantValue := 0 }, { name := "AIOOBE_FORMATTER", type := (.object "java/util/function/BiFunction"), accessFlags := 25, slot := 1, constantValue := 0 }, { name := "IOOBE_FORMATTER", type := (.object "java/util/function/BiFunction"), accessFlags := 25, slot := 2, constantValue := 0 }]
  methods := #[k4m0, k4m1]
  instanceTypes := #[]
  staticTypes := #[(.object "java/util/function/BiFunction"), (.object "java/util/function/BiFunction"), (.object "java/util/function/BiFunction")]
  resolved := Array.replicate 194 none
  statics := none }

def pool5 : Array CpInfo := pool [(1, u "java/lang/Cloneable"), (0, .class_ 1), (0, u "java/lang/Object"), (0, .class_ 3)] 3

/-- java/lang/Cloneable -/
def k5 : Class := { plain "java/lang/Cloneable" (some 0) with
  accessFlags := 1537
  interfaces := #[]
  cf := some (fileOf pool5 2 #[] #[] 1537 4 #[] #[])
  fields := #[]
  methods := #[]
  instanceTypes := #[]
  staticTypes := #[]
  resolved := Array.replicate 8 none
  statics := none }

def pool6 : Array CpInfo := pool [(1, u "java/io/Serializable"), (0, .class_ 1), (0, u "java/lang/Object"), (0, .class_ 3)] 3

/-- java/io/Serializable -/
def k6 : Class := { plain "java/io/Serializable" (some 0) with
  accessFlags := 1537
  interfaces := #[]
  cf := some (fileOf pool6 2 #[] #[] 1537 4 #[] #[])
  fields := #[]
  methods := #[]
  instanceTypes := #[]
  staticTypes := #[]
  resolved := Array.replicate 8 none
  statics := none }

/-- the primitive byte -/
def k7 : Class := { plain "byte" none with kind := .primitive 'B', accessFlags := 0x411 }
/-- [B -/
def k8 : Class := { plain "[B" (some 0) with kind := .array 7 .byte, interfaces := #[5, 6], accessFlags := 1041 }

/-- the primitive int -/
def k9 : Class := { plain "int" none with kind := .primitive 'I', accessFlags := 0x411 }
/-- [I -/
def k10 : Class := { plain "[I" (some 0) with kind := .array 9 .int, interfaces := #[5, 6], accessFlags := 1041 }

def heap : Heap := #[]
def classes : Array Class := #[k0, k1, k2, k3, k4, k5, k6, k7, k8, k9, k10]
def interned : List (Array UInt16 × Addr) := []
def slotsUsed : Nat := 0
def theMethod : MethodId := ⟨1, 1⟩
def args0 : Array Value := #[.int 5, .int 5, .int 5, .int 5, .int 5]
def aboutOver (below : List Frame) : State where
  vm := { classes := classes, interned := interned.toArray }
  heap := heap
  slotsUsed := slotsUsed
  threads := #[{ frames := .invoking theMethod args0 :: below }]
def below0 : List Frame := [.native { method := ⟨0, 0⟩, args := #[] }]
def about1 : State := aboutOver below0
def p0 : Program := .bare "" "" ""
def e0 : Env := launch0.env 0 0 0
theorem w_frames : about1.frames = Frame.invoking theMethod args0 :: below0 := rfl
set_option maxRecDepth 65536 in
theorem w_args : argsFit about1.vm theMethod args0 = true := by decide +kernel
set_option maxRecDepth 65536 in
theorem w_heap : heapFits about1 = true := by decide +kernel
set_option maxRecDepth 65536 in
theorem w_runnable : about1.curStatus? = some .runnable := by decide +kernel
set_option maxRecDepth 65536 in
theorem w_alone : about1.alone = true := by decide +kernel
set_option maxRecDepth 65536 in
theorem w_named : about1.methodNamed? x = some theMethod := by decide +kernel
set_option maxRecDepth 65536 in
theorem w_hears : about1.hears theMethod below0 = true := by decide +kernel
set_option maxRecDepth 65536 in
theorem w_ripe : about1.ripe theMethod args0 below0 = true := by decide +kernel
theorem w_running : about1.status = .running := rfl
set_option maxRecDepth 65536 in
theorem w_room : about1.hasRoom e0.platform room_1 = true :=
  launch0.hasRoom_least _ room_1 (by decide +kernel) (by decide +kernel) (by decide +kernel) (by decide +kernel) (by decide +kernel) (by decide +kernel)
theorem allAtoms_all (ts : List Jvm.Cond) (a : Array Jvm.Value) (st : Jvm.State) : (allAtoms ts).before a st = ts.all (fun c => c.before a st) := by
  induction ts with
  | nil => rfl
  | cons c t ih =>
    show (Jvm.Cond.and c (allAtoms t)).before a st = _
    rw [Jvm.Cond.before_and, ih, List.all_cons]
def words1 : List Jvm.Cond := Jvm.Cond.code x code maxLocals ret :: tables_1
/-- a 'code' word, met by the world's own term for the bytes: nothing is compared byte by byte -/
theorem code_word {y : MethodName} {bytes : ByteArray} {mx : Nat} {rt : Option FieldType} {a : Array Value} {s : State} {m : MethodId} {meth : Method} {c : Code} (h1 : s.methodNamed? y = some m) (h2 : s.vm.method? m = some meth) (h3 : meth.code = some c) (h4 : c.code = bytes)
    (h5 : (c.maxLocals == mx && c.exceptionTable.isEmpty && decide (c.maxStack ≤ mostOperands) && decide (meth.sig.returnType = rt) && !meth.locks && decide (parseMethodDescriptor y.desc = some meth.sig)) = true) : (Jvm.Cond.code y bytes mx rt).before a s = true := by
  simp only [Bool.and_eq_true, beq_iff_eq, Bool.not_eq_true', decide_eq_true_eq] at h5
  obtain ⟨⟨⟨⟨⟨g1, g2⟩, g3⟩, g4⟩, g5⟩, g6⟩ := h5
  simp [Cond.before, Cond.holds, Cond.value, h1, h2, h3, h4, g1, g2, g3, g4, g5, g6]
def isCode : Jvm.Cond → Bool
  | .code _ _ _ _ => true
  | _ => false
theorem all_split {L : List Jvm.Cond} {P : Jvm.Cond → Bool} (h1 : L.all (fun c => isCode c || P c) = true) (h2 : ∀ c ∈ L.filter isCode, P c = true) : L.all P = true := by
  refine List.all_eq_true.mpr fun c hc => ?_
  have h := List.all_eq_true.mp h1 c hc
  rcases Bool.eq_false_or_eq_true (isCode c) with hi | hi
  · exact h2 c (List.mem_filter.mpr ⟨hc, hi⟩)
  · simpa [hi] using h
set_option maxRecDepth 65536 in
theorem w_c0 : (Jvm.Cond.code x code maxLocals ret).before args0 about1 = true := code_word (m := ⟨1, 1⟩) (meth := k1m1) (c := k1c1) (by decide +kernel) rfl rfl rfl (by decide +kernel)
set_option maxRecDepth 65536 in
theorem w_c1 : (Jvm.Cond.code ({ cls := "featherpane/Surface", name := "<init>", desc := "(II)V" } : Jvm.MethodName) prog_69_method_1_code (3 : Nat) (Option.none : Option Jvm.ClassFile.FieldType)).before args0 about1 = true := code_word (m := ⟨2, 0⟩) (meth := k2m0) (c := k2c0) (by decide +kernel) rfl rfl rfl (by decide +kernel)
set_option maxRecDepth 65536 in
theorem w_c2 : (Jvm.Cond.code ({ cls := "java/lang/Object", name := "<init>", desc := "()V" } : Jvm.MethodName) object_method_1_code (1 : Nat) (Option.none : Option Jvm.ClassFile.FieldType)).before args0 about1 = true := code_word (m := ⟨0, 0⟩) (meth := k0m0) (c := k0c0) (by decide +kernel) rfl rfl rfl (by decide +kernel)
set_option maxRecDepth 65536 in
theorem w_c3 : (Jvm.Cond.code ({ cls := "featherpane/Surface", name := "isValidSize", desc := "(II)Z" } : Jvm.MethodName) prog_69_method_2_code (2 : Nat) (Option.some Jvm.ClassFile.FieldType.boolean)).before args0 about1 = true := code_word (m := ⟨2, 1⟩) (meth := k2m1) (c := k2c1) (by decide +kernel) rfl rfl rfl (by decide +kernel)
set_option maxRecDepth 65536 in
theorem w_c4 : (Jvm.Cond.code ({ cls := "featherpane/Surface", name := "fillPixels", desc := "(I[III)V" } : Jvm.MethodName) prog_69_method_9_code (7 : Nat) (Option.none : Option Jvm.ClassFile.FieldType)).before args0 about1 = true := code_word (m := ⟨2, 3⟩) (meth := k2m3) (c := k2c3) (by decide +kernel) rfl rfl rfl (by decide +kernel)
set_option maxRecDepth 65536 in
theorem w_c5 : (Jvm.Cond.code ({ cls := "featherpane/Surface", name := "getRGB", desc := "(II)I" } : Jvm.MethodName) prog_69_method_5_code (3 : Nat) (Option.some Jvm.ClassFile.FieldType.int)).before args0 about1 = true := code_word (m := ⟨2, 2⟩) (meth := k2m2) (c := k2c2) (by decide +kernel) rfl rfl rfl (by decide +kernel)
set_option maxRecDepth 65536 in
theorem w_c6 : (Jvm.Cond.code ({ cls := "java/util/Objects", name := "checkIndex", desc := "(II)I" } : Jvm.MethodName) jdk_31_method_17_code (2 : Nat) (Option.some Jvm.ClassFile.FieldType.int)).before args0 about1 = true := code_word (m := ⟨3, 1⟩) (meth := k3m1) (c := k3c1) (by decide +kernel) rfl rfl rfl (by decide +kernel)
set_option maxRecDepth 65536 in
theorem w_c7 : (Jvm.Cond.code ({ cls := "jdk/internal/util/Preconditions", name := "checkIndex", desc := "(IILjava/util/function/BiFunction;)I" } : Jvm.MethodName) jdk_41_method_11_code (3 : Nat) (Option.some Jvm.ClassFile.FieldType.int)).before args0 about1 = true := code_word (m := ⟨4, 1⟩) (meth := k4m1) (c := k4c1) (by decide +kernel) rfl rfl rfl (by decide +kernel)
def codes1 : List Jvm.Cond := [Jvm.Cond.code x code maxLocals ret, Jvm.Cond.code ({ cls := "featherpane/Surface", name := "<init>", desc := "(II)V" } : Jvm.MethodName) prog_69_method_1_code (3 : Nat) (Option.none : Option Jvm.ClassFile.FieldType), Jvm.Cond.code ({ cls := "java/lang/Object", name := "<init>", desc := "()V" } : Jvm.MethodName) object_method_1_code (1 : Nat) (Option.none : Option Jvm.ClassFile.FieldType), Jvm.Cond.code ({ cls := "featherpane/Surface", name := "isValidSize", desc := "(II)Z" } : Jvm.MethodName) prog_69_method_2_code (2 : Nat) (Option.some Jvm.ClassFile.FieldType.boolean), Jvm.Cond.code ({ cls := "featherpane/Surface", name := "fillPixels", desc := "(I[III)V" } : Jvm.MethodName) prog_69_method_9_code (7 : Nat) (Option.none : Option Jvm.ClassFile.FieldType), Jvm.Cond.code ({ cls := "featherpane/Surface", name := "getRGB", desc := "(II)I" } : Jvm.MethodName) prog_69_method_5_code (3 : Nat) (Option.some Jvm.ClassFile.FieldType.int), Jvm.Cond.code ({ cls := "java/util/Objects", name := "checkIndex", desc := "(II)I" } : Jvm.MethodName) jdk_31_method_17_code (2 : Nat) (Option.some Jvm.ClassFile.FieldType.int), Jvm.Cond.code ({ cls := "jdk/internal/util/Preconditions", name := "checkIndex", desc := "(IILjava/util/function/BiFunction;)I" } : Jvm.MethodName) jdk_41_method_11_code (3 : Nat) (Option.some Jvm.ClassFile.FieldType.int)]
set_option maxRecDepth 65536 in
theorem codes_eq : words1.filter isCode = codes1 := rfl
theorem w_codes : ∀ c ∈ words1.filter isCode, c.before args0 about1 = true := by
  rw [codes_eq]
  intro c hc
  simp only [codes1, List.mem_cons, List.not_mem_nil, or_false] at hc
  rcases hc with rfl | rfl | rfl | rfl | rfl | rfl | rfl | rfl
  · exact w_c0
  · exact w_c1
  · exact w_c2
  · exact w_c3
  · exact w_c4
  · exact w_c5
  · exact w_c6
  · exact w_c7
set_option maxRecDepth 65536 in
theorem w_t1 : (words1.take 24).all (fun c => isCode c || c.before args0 about1) = true := by decide +kernel
set_option maxRecDepth 65536 in
theorem w_t2 : (words1.drop 24).all (fun c => isCode c || c.before args0 about1) = true := by decide +kernel
theorem w_tables : (allAtoms (Jvm.Cond.code x code maxLocals ret :: tables_1)).before args0 about1 = true := by
  rw [allAtoms_all]
  show words1.all (fun c => c.before args0 about1) = true
  refine all_split ?_ w_codes
  rw [← List.take_append_drop 24 words1, List.all_append, w_t1, w_t2]
  rfl
set_option maxRecDepth 65536 in
theorem w_case : (Jvm.Cond.and given_1 narrow_1).before args0 about1 = true := by decide +kernel
theorem w_applies : (headSpec (Jvm.Cond.code x code maxLocals ret :: tables_1) room_1).applies x e0.platform about1 = true :=
  (Spec.applies_iff w_frames).mpr ⟨w_running, w_runnable, w_alone, w_named, w_hears, w_ripe, w_room, w_tables⟩
theorem atStart : AtStart classFile x code maxLocals ret World_1 tables_1 room_1 Calls_1 rest_1 Pre_1 launch0 p0 e0 about1 theMethod args0 below0 :=
  ⟨lists_1, trivial, launch0.admits_env _ _ _, launch0.least_env, fairChoices_fair.cas, fairChoices_fair.clock, w_frames, w_args, w_heap, w_applies, trivial, trivial, w_case⟩
end start1
theorem witness_1 : WitnessClaimed_1 := ⟨start1.p0, start1.e0, start1.about1, start1.theMethod, start1.args0, start1.below0, start1.atStart⟩
end Jvm.Pilot.@@N@@
